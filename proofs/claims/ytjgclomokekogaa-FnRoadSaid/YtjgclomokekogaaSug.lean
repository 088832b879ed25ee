/- Errors of a word over a field of characteristic two: their locator and evaluator, the key equation, and what Euclid's algorithm, stopped half-way, finds. -/
import Derived.Test.YtjgclomokekogaaAlg
namespace Rs
section ring
variable {F : Type} [Ring2 F]
open Ring2

open Classical in
/-- A polynomial's value. -/
noncomputable def pev (x : F) (f : Ps F) : F := if h : Po f then evT x (h.choose + 1) f else 0
theorem pev_eq {x : F} {f : Ps F} {d : Nat} (h : Dg f d) : pev x f = evT x d f := by
  have hp : Po f := ⟨d, h.mono (by omega)⟩
  unfold pev; rw [dif_pos hp]; exact evT_any x hp.choose_spec h
theorem Dg.mulr {f g : Ps F} {a b : Nat} (hf : Dg f (a + 1)) (hg : Dg g b) : Dg (f * g) (a + b) := by
  cases b with
  | zero => rw [hg.eq_zero, mul_zero]; exact Dg.zero _
  | succ b => exact Dg.mul hf hg
theorem pev_mul (x : F) {f g : Ps F} (hf : Po f) (hg : Po g) : pev x (f * g) = pev x f * pev x g := by
  obtain ⟨a, ha⟩ := hf; obtain ⟨b, hb⟩ := hg
  rw [pev_eq ha, pev_eq hb, pev_eq (d := (a + 1) + (b + 1)) ((Dg.mul ha hb).mono (by omega)), evT_mul x ha hb]
theorem pev_add (x : F) {f g : Ps F} (hf : Po f) (hg : Po g) : pev x (f + g) = pev x f + pev x g := by
  obtain ⟨a, ha⟩ := hf; obtain ⟨b, hb⟩ := hg
  have ha' := ha.mono (show a + 1 ≤ a + b + 1 by omega)
  have hb' := hb.mono (show b + 1 ≤ a + b + 1 by omega)
  rw [pev_eq ha', pev_eq hb', pev_eq (ha'.add hb'), evT_add]
theorem pev_ps (l : List F) (x : F) : pev x (ps l) = ev l x := by rw [pev_eq (ps_dg l), ← ev_eq]
theorem pev_mon (x c : F) (k : Nat) : pev x (mon c k) = c * npow x k := by rw [pev_eq (Dg.mon c k), evT_mon]
theorem pev_zero (x : F) : pev x (0 : Ps F) = 0 := by rw [pev_eq (Dg.zero 0)]; rfl
theorem pev_one (x : F) : pev x (1 : Ps F) = 1 := by
  have h := pev_mon x (1 : F) 0
  rw [show npow x 0 = 1 from rfl, mul_one] at h; exact h

/-- 1 + X x. -/
def one1 (X : F) : Ps F := mon 1 0 + mon X 1
theorem one1_po (X : F) : Po (one1 X) := (Po.mon 1 0).add (Po.mon X 1)
theorem one1_dg (X : F) : Dg (one1 X) (1 + 1) := ((Dg.mon 1 0).mono (by omega)).add (Dg.mon X 1)
theorem one1_mul0 (X : F) (g : Ps F) : (one1 X * g) 0 = g 0 := by
  unfold one1
  rw [add_mul, ps_add, mon_mul, mon_mul, if_neg (by omega), if_pos (by omega), add_zero, one_mul]
theorem one1_mulS (X : F) (g : Ps F) (n : Nat) : (one1 X * g) (n + 1) = g (n + 1) + X * g n := by
  unfold one1
  rw [add_mul, ps_add, mon_mul, mon_mul, if_neg (by omega), if_neg (by omega), one_mul, Nat.sub_zero, Nat.add_sub_cancel]
theorem one1_0 (X : F) : one1 X 0 = 1 := by unfold one1; rw [ps_add]; simp [mon, add_zero]
theorem one1_1 (X : F) : one1 X 1 = X := by unfold one1; rw [ps_add]; simp [mon, zero_add]
theorem pev_one1 (a X : F) : pev a (one1 X) = X * a + 1 := by
  unfold one1
  rw [pev_add a (Po.mon 1 0) (Po.mon X 1), pev_mon, pev_mon, npow, mul_one, npow, npow, one_mul, add_comm]
/-- The locator of a list of places. -/
def loc : List F → Ps F
  | [] => 1
  | X :: xs => one1 X * loc xs
theorem loc_po (xs : List F) : Po (loc xs) := by
  induction xs with
  | nil => exact Po.one
  | cons X xs ih => exact (one1_po X).mul ih
theorem loc_dg (xs : List F) : Dg (loc xs) (xs.length + 1) := by
  induction xs with
  | nil => exact Dg.one
  | cons X xs ih =>
    have := Dg.mul (one1_dg X) ih
    rw [show 1 + xs.length + 1 = (X :: xs).length + 1 from by simp; omega] at this; exact this
theorem loc_0 (xs : List F) : loc xs 0 = 1 := by
  induction xs with
  | nil => rfl
  | cons X xs ih => show (one1 X * loc xs) 0 = 1; rw [one1_mul0, ih]
/-- The product. -/
def prodE : List F → F
  | [] => 1
  | x :: xs => x * prodE xs
theorem loc_top (xs : List F) : loc xs xs.length = prodE xs := by
  induction xs with
  | nil => rfl
  | cons X xs ih =>
    show (one1 X * loc xs) (X :: xs).length = _
    rw [show (X :: xs).length = 1 + xs.length from by simp; omega, top_mul (one1_dg X) (loc_dg xs), one1_1, ih]; rfl
/-- The locator's value. -/
def val1 (a : F) : List F → F
  | [] => 1
  | X :: xs => (X * a + 1) * val1 a xs
theorem pev_loc (a : F) (xs : List F) : pev a (loc xs) = val1 a xs := by
  induction xs with
  | nil => exact pev_one a
  | cons X xs ih => show pev a (one1 X * loc xs) = _; rw [pev_mul a (one1_po X) (loc_po xs), pev_one1, ih]; rfl
theorem val1_root (a : F) (xs : List F) (X : F) (h : X ∈ xs) (ha : X * a = 1) : val1 a xs = 0 := by
  induction xs with
  | nil => simp at h
  | cons Z xs ih =>
    rcases List.mem_cons.1 h with e | e
    · subst e; show (X * a + 1) * _ = 0; rw [ha, add_self, zero_mul]
    · show _ * val1 a xs = 0; rw [ih e, mul_zero]
/-- What an error adds to the syndromes. -/
def geo (X y : F) (b : Nat) : Ps F := fun n => y * npow X (n + b)
theorem geo_one1 (X y : F) (b : Nat) : one1 X * geo X y b = mon (y * npow X b) 0 := by
  funext n
  cases n with
  | zero => rw [one1_mul0]; simp [geo, mon]
  | succ n =>
    rw [one1_mulS]
    show y * npow X (n + 1 + b) + X * (y * npow X (n + b)) = _
    rw [show n + 1 + b = (n + b) + 1 from by omega, npow_succ', mul_left_comm X, add_self]; simp [mon]
def ser (Y : F → F) (b : Nat) : List F → Ps F
  | [] => 0
  | X :: xs => geo X (Y X) b + ser Y b xs
/-- The evaluator. -/
def omg (Y : F → F) (b : Nat) : List F → Ps F
  | [] => 0
  | X :: xs => one1 X * omg Y b xs + mon (Y X * npow X b) 0 * loc xs
theorem loc_ser (Y : F → F) (b : Nat) (xs : List F) : loc xs * ser Y b xs = omg Y b xs := by
  induction xs with
  | nil => exact mul_zero _
  | cons X xs ih =>
    show (one1 X * loc xs) * (geo X (Y X) b + ser Y b xs) = one1 X * omg Y b xs + mon (Y X * npow X b) 0 * loc xs
    rw [← ih, ← geo_one1]
    simp only [mul_add, mul_assoc, mul_comm, mul_left_comm, add_comm]
theorem omg_dg (Y : F → F) (b : Nat) (xs : List F) : Dg (omg Y b xs) xs.length := by
  induction xs with
  | nil => exact Dg.zero _
  | cons X xs ih =>
    refine Dg.add ?_ ?_
    · exact (Dg.mulr (one1_dg X) ih).mono (by simp; omega)
    · exact (Dg.mul (Dg.mon (Y X * npow X b) 0) (loc_dg xs)).mono (by simp)
theorem omg_po (Y : F → F) (b : Nat) (xs : List F) : Po (omg Y b xs) := ⟨xs.length, (omg_dg Y b xs).mono (by omega)⟩
/-- The product of all but the i-th factor. -/
def pw (a : F) (x : Nat → F) (i : Nat) : Nat → F
  | 0 => 1
  | k + 1 => if k = i then pw a x i k else pw a x i k * (x k * a + 1)
def pwA (a : F) (x : Nat → F) : Nat → F
  | 0 => 1
  | k + 1 => pwA a x k * (x k * a + 1)
theorem pwA_cons (a : F) (x : Nat → F) (n : Nat) : pwA a x (n + 1) = (x 0 * a + 1) * pwA a (fun k => x (k + 1)) n := by
  induction n with
  | zero => simp only [pwA]; rw [one_mul, mul_one]
  | succ n ih => rw [pwA, ih, pwA, mul_assoc]
theorem pw_cons (a : F) (x : Nat → F) (i n : Nat) : pw a x (i + 1) (n + 1) = (x 0 * a + 1) * pw a (fun k => x (k + 1)) i n := by
  induction n with
  | zero => simp only [pw]; rw [if_neg (by omega), one_mul, mul_one]
  | succ n ih =>
    rw [pw, ih, pw]
    by_cases h : n = i
    · rw [if_pos (by omega), if_pos h]
    · rw [if_neg (by omega), if_neg h, mul_assoc]
theorem pw_zero (a : F) (x : Nat → F) (n : Nat) : pw a x 0 (n + 1) = pwA a (fun k => x (k + 1)) n := by
  induction n with
  | zero => simp [pw, pwA]
  | succ n ih => rw [pw, if_neg (by omega), ih, pwA]
theorem pwA_val1 (a : F) (xs : List F) : pwA a (fun k => xs.getD k 0) xs.length = val1 a xs := by
  induction xs with
  | nil => rfl
  | cons X xs ih => rw [List.length_cons, pwA_cons]; exact congrArg ((X * a + 1) * ·) ih
/-- The evaluator's value at a place. -/
theorem pev_omg (Y : F → F) (b : Nat) (xs : List F) (i : Nat) (hi : i < xs.length) (a : F) (ha : xs[i] * a = 1) :
    pev a (omg Y b xs) = Y xs[i] * npow xs[i] b * pw a (fun k => xs.getD k 0) i xs.length := by
  induction xs generalizing i with
  | nil => simp at hi
  | cons X xs ih =>
    show pev a (one1 X * omg Y b xs + mon (Y X * npow X b) 0 * loc xs) = _
    rw [pev_add a ((one1_po X).mul (omg_po Y b xs)) ((Po.mon _ 0).mul (loc_po xs)), pev_mul a (one1_po X) (omg_po Y b xs), pev_mul a (Po.mon _ 0) (loc_po xs), pev_one1, pev_mon, pev_loc, npow, mul_one]
    cases i with
    | zero =>
      have ha' : X * a = 1 := ha
      rw [ha', add_self, zero_mul, zero_add, List.length_cons, pw_zero]
      exact congrArg (Y X * npow X b * ·) (pwA_val1 a xs).symm
    | succ i =>
      have hi' : i < xs.length := by simpa using hi
      have ha' : xs[i] * a = 1 := ha
      rw [ih i hi' ha', val1_root a xs xs[i] (List.getElem_mem hi') ha', mul_zero, add_zero, List.length_cons, pw_cons]
      show (X * a + 1) * (Y xs[i] * npow xs[i] b * pw a (fun k => xs.getD k 0) i xs.length) = Y xs[i] * npow xs[i] b * ((X * a + 1) * pw a (fun k => xs.getD k 0) i xs.length)
      rw [mul_left_comm]

/-- What stands above x to the N. -/
def shr (N : Nat) (f : Ps F) : Ps F := fun n => f (n + N)
theorem shr_po {f : Ps F} (N : Nat) (h : Po f) : Po (shr N f) := by
  obtain ⟨d, hd⟩ := h; exact ⟨d, fun n hn => hd (n + N) (by omega)⟩
theorem low_shr {f : Ps F} {N : Nat} (h : ∀ n, n < N → f n = 0) : f = mon 1 N * shr N f := by
  funext n
  rw [mon_one_mul]
  split
  · exact h n (by assumption)
  · show f n = f (n - N + N); congr 1; omega
theorem low_mul {g f : Ps F} {N : Nat} (h : ∀ n, n < N → f n = 0) : ∀ n, n < N → (g * f) n = 0 := by
  intro n hn
  rw [low_shr h, mul_left_comm, mon_one_mul, if_pos hn]
theorem mon_cancel {f g : Ps F} {N : Nat} (h : mon 1 N * f = mon 1 N * g) : f = g := by
  funext n
  have := congrFun h (n + N)
  rw [mon_one_mul, mon_one_mul, if_neg (by omega), if_neg (by omega), Nat.add_sub_cancel] at this; exact this
theorem evT_snoc (x : F) (n : Nat) (f : Ps F) : evT x (n + 1) f = evT x n f + f n * npow x n := by
  induction n generalizing f with
  | zero => simp only [evT, npow]; rw [mul_zero, add_zero, zero_add, mul_one]
  | succ n ih =>
    rw [evT, ih (tl f), evT, mul_add, add_assoc, npow_succ', mul_left_comm x]; rfl
theorem root_factor {X a : F} (hXa : X * a = 1) {t : Ps F} {d : Nat} (hd : Dg t d) (h : evT a d t = 0) : ∃ t', Dg t' d ∧ t = one1 X * t' := by
  obtain ⟨t', h'⟩ : ∃ t' : Ps F, ∀ n, t' n = npow X n * evT a (n + 1) t := ⟨fun n => npow X n * evT a (n + 1) t, fun _ => rfl⟩
  refine ⟨t', fun n hn => ?_, ?_⟩
  · rw [h', evT_dg a hd (n + 1) (by omega), h, mul_zero]
  · funext n
    cases n with
    | zero => rw [one1_mul0, h']; simp only [npow, evT]; rw [one_mul, mul_zero, add_zero]
    | succ n =>
      rw [one1_mulS, h', h', ← mul_assoc X, ← npow_succ', ← mul_add, evT_snoc a (n + 1) t]
      rw [add_assoc, add_comm, add_assoc, add_self, add_zero, mul_left_comm, ← npow_mul, hXa, npow_one, mul_one]
end ring

section field
variable {F : Type} [Gf F]
open Ring2 Gf

theorem val1_mem (a : F) (xs : List F) (h : val1 a xs = 0) : ∃ X ∈ xs, X * a = 1 := by
  induction xs with
  | nil => exact absurd h one_ne
  | cons X xs ih =>
    rcases mul_eq_zero h with e | e
    · exact ⟨X, by simp, eq_of_add e⟩
    · obtain ⟨Z, hZ, hz⟩ := ih e
      exact ⟨Z, by simp [hZ], hz⟩
theorem prodE_ne (xs : List F) (h : ∀ X ∈ xs, X ≠ 0) : prodE xs ≠ 0 := by
  induction xs with
  | nil => exact one_ne
  | cons X xs ih => exact mul_ne (h X (by simp)) (ih fun Z hZ => h Z (by simp [hZ]))
theorem mul_inv_one {x y : F} (hy : y ≠ 0) (h : x * inv y = 1) : x = y := by
  have h1 : inv y * x = inv y * y := by rw [mul_comm (inv y) x, h, inv_mul y hy]
  exact mul_cancel (inv_ne hy) h1
theorem pw_ne (xs : List F) (hn : xs.Nodup) (h0 : ∀ X ∈ xs, X ≠ 0) (i : Nat) (hi : i < xs.length) (k : Nat) (hk : k ≤ xs.length) :
    pw (inv xs[i]) (fun k => xs.getD k 0) i k ≠ 0 := by
  induction k with
  | zero => exact one_ne
  | succ k ih =>
    rw [pw]
    by_cases e : k = i
    · rw [if_pos e]; exact ih (by omega)
    · rw [if_neg e]
      refine mul_ne (ih (by omega)) fun h => ?_
      have h1 := mul_inv_one (h0 _ (List.getElem_mem hi)) (eq_of_add h)
      have hk' : k < xs.length := by omega
      have h2 : xs[k] = xs[i] := by rw [← h1]; simp [List.getD, hk']
      have hp := List.pairwise_iff_getElem.1 hn
      rcases Nat.lt_trichotomy k i with hlt | he | hlt
      · exact hp k i hk' hi hlt h2
      · exact e he
      · exact hp i k hi hk' hlt h2.symm
theorem loc_divides (xs : List F) (hn : xs.Nodup) (h0 : ∀ X ∈ xs, X ≠ 0) {t : Ps F} (pt : Po t) (h : ∀ X ∈ xs, pev (inv X) t = 0) : ∃ u, Po u ∧ t = loc xs * u := by
  induction xs generalizing t with
  | nil => exact ⟨t, pt, (one_mul t).symm⟩
  | cons X xs ih =>
    obtain ⟨d, hd⟩ := pt
    have hX := h X (by simp)
    rw [pev_eq hd] at hX
    have hX0 := h0 X (by simp)
    obtain ⟨t', ht', he⟩ := root_factor (mul_inv X hX0) hd hX
    have pt' : Po t' := ⟨d, ht'⟩
    have hn' := List.nodup_cons.1 hn
    obtain ⟨u, pu, hu⟩ := ih hn'.2 (fun Z hZ => h0 Z (by simp [hZ])) pt' fun Z hZ => by
      have h1 := h Z (by simp [hZ])
      rw [he, pev_mul _ (one1_po X) pt', pev_one1] at h1
      refine (mul_eq_zero h1).resolve_left fun e => ?_
      have := mul_inv_one (h0 Z (by simp [hZ])) (eq_of_add e)
      exact hn'.1 (this ▸ hZ)
    exact ⟨u, pu, by rw [he, hu]; exact (mul_assoc _ _ _).symm⟩
theorem one_ps_ne : (1 : Ps F) ≠ 0 := fun h => one_ne (F := F) (congrFun h 0)
theorem unit_const {u v : Ps F} (pu : Po u) (pv : Po v) (h : u * v = 1) : u = mon (u 0) 0 ∧ u 0 ≠ 0 := by
  rcases pu.top with e | ⟨m, hm, hdm⟩
  · rw [e, zero_mul] at h; exact absurd h.symm one_ps_ne
  rcases pv.top with e | ⟨k, hk, hdk⟩
  · rw [e, mul_zero] at h; exact absurd h.symm one_ps_ne
  have h1 := top_mul hdm hdk
  rw [h, ps_one] at h1
  have h2 : m + k = 0 := by
    by_cases e : m + k = 0
    · exact e
    · rw [if_neg e] at h1; exact absurd h1.symm (mul_ne hm hk)
  have : m = 0 := by omega
  subst this
  refine ⟨?_, hm⟩
  funext n
  simp only [mon]
  split
  · subst_vars; rfl
  · exact hdm n (by omega)
theorem pev_omg_ne (Y : F → F) (b : Nat) (xs : List F) (hn : xs.Nodup) (h0 : ∀ X ∈ xs, X ≠ 0) (hY : ∀ X ∈ xs, Y X ≠ 0) (X : F) (hX : X ∈ xs) : pev (inv X) (omg Y b xs) ≠ 0 := by
  obtain ⟨i, hi, rfl⟩ := List.mem_iff_getElem.1 hX
  rw [pev_omg Y b xs i hi (inv xs[i]) (mul_inv _ (h0 _ hX))]
  exact mul_ne (mul_ne (hY _ hX) (npow_ne (h0 _ hX) b)) (pw_ne xs hn h0 i hi _ (Nat.le_refl _))

/-- What Euclid's algorithm keeps, and where it stops. -/
structure Euc (N : Nat) (S t r : Ps F) : Prop where
  out : ∃ tl K Kl : Ps F, Po t ∧ Po tl ∧ Po K ∧ Po Kl ∧ r = t * S + K * mon 1 N ∧ t * Kl + tl * K = 1
  rd : ∃ d, Dg r (d + 1) ∧ 2 * d < N
  td : ∃ d, Dg t (d + 1) ∧ 2 * d ≤ N
theorem sugi {N b : Nat} {S t r : Ps F} {xs : List F} {Y : F → F} (hn : xs.Nodup) (h0 : ∀ X ∈ xs, X ≠ 0) (hY : ∀ X ∈ xs, Y X ≠ 0) (hS : ∀ n, n < N → S n = ser Y b xs n) (pS : Po S)
    (he : Euc N S t r) (hv : 2 * xs.length ≤ N) : t 0 ≠ 0 ∧ t = mon (t 0) 0 * loc xs ∧ r = mon (t 0) 0 * omg Y b xs := by
  obtain ⟨⟨tl, K, Kl, pt, ptl, pK, pKl, hr, hdet⟩, ⟨dr, hrd, hr2⟩, dt, htd, ht2⟩ := he
  have hlow : ∀ n, n < N → (loc xs * S + omg Y b xs) n = 0 := by
    intro n hn
    have h1 := low_mul (g := loc xs) (f := S + ser Y b xs) (N := N) (fun n hn => by rw [ps_add, hS n hn, add_self]) n hn
    rw [mul_add, loc_ser] at h1; exact h1
  obtain ⟨L, hL⟩ : ∃ L, L = shr N (loc xs * S + omg Y b xs) := ⟨_, rfl⟩
  have pL : Po L := hL ▸ shr_po N (((loc_po xs).mul pS).add (omg_po Y b xs))
  have hE1 : loc xs * S = omg Y b xs + mon 1 N * L := by
    have := low_shr hlow
    rw [← hL] at this
    exact (eq_add_of this).trans (add_comm _ _)
  have hE2 : t * omg Y b xs + loc xs * r = mon 1 N * (t * L + loc xs * K) := by
    rw [hr]
    have h1 : loc xs * (t * S + K * mon 1 N) = t * (loc xs * S) + mon 1 N * (loc xs * K) := by
      simp only [mul_add, mul_assoc, mul_comm, mul_left_comm]
    rw [h1, hE1]
    simp only [mul_add, mul_assoc, mul_comm, add_comm, add_left_comm, add_self, zero_add]
    simp only [add_mul, mul_assoc]
  have hd : Dg (t * omg Y b xs + loc xs * r) N := by
    refine Dg.add ?_ ?_
    · exact (Dg.mulr htd (omg_dg Y b xs)).mono (by omega)
    · exact (Dg.mul (loc_dg xs) hrd).mono (by omega)
  have hz : t * L + loc xs * K = 0 := by
    funext n
    have h1 := hd (n + N) (by omega)
    rw [hE2, mon_one_mul, if_neg (by omega), Nat.add_sub_cancel] at h1; exact h1
  have hE : t * omg Y b xs = loc xs * r := by
    apply eq_of_add
    rw [hE2, hz, mul_zero]
  have pr : Po r := ⟨dr, hrd⟩
  obtain ⟨u, pu, hu⟩ := loc_divides xs hn h0 pt fun X hX => by
    have h1 := congrArg (pev (inv X)) hE
    rw [pev_mul _ pt (omg_po Y b xs), pev_mul _ (loc_po xs) pr, pev_loc, val1_root (inv X) xs X hX (mul_inv X (h0 X hX)), zero_mul] at h1
    exact (mul_eq_zero h1).resolve_right (pev_omg_ne Y b xs hn h0 hY X hX)
  have hl0 : loc xs 0 ≠ 0 := by rw [loc_0]; exact one_ne
  have hK : u * L = K := by
    refine eq_of_add (ps_cancel hl0 ?_)
    rw [mul_add, ← mul_assoc, ← hu]; exact hz
  have hun : u * (loc xs * Kl + tl * L) = 1 := by
    rw [← hdet, hu, ← hK]
    simp only [mul_add, mul_comm, mul_left_comm]
  obtain ⟨h1, h2⟩ := unit_const pu (((loc_po xs).mul pKl).add (ptl.mul pL)) hun
  have ht0 : t 0 = u 0 := by rw [hu, ps_mul0, loc_0, one_mul]
  refine ⟨by rw [ht0]; exact h2, ?_, ?_⟩
  · rw [ht0, ← h1, mul_comm]; exact hu
  · rw [ht0, ← h1]
    refine eq_of_add (ps_cancel hl0 ?_)
    rw [mul_add, ← hE, hu]
    simp only [mul_assoc, add_self]
/-- Without syndromes no errors. -/
theorem no_errors {N b : Nat} {xs : List F} {Y : F → F} (hn : xs.Nodup) (h0 : ∀ X ∈ xs, X ≠ 0) (hY : ∀ X ∈ xs, Y X ≠ 0) (hS : ∀ n, n < N → ser Y b xs n = 0) (hv : 2 * xs.length ≤ N) : xs = [] := by
  have hz : omg Y b xs = 0 := by
    funext n
    by_cases h : n < N
    · rw [← loc_ser]; exact low_mul hS n h
    · exact omg_dg Y b xs n (by omega)
  cases xs with
  | nil => rfl
  | cons X xs =>
    have := pev_omg_ne Y b (X :: xs) hn h0 hY X (by simp)
    rw [hz, pev_zero] at this
    exact absurd rfl this
end field

section perm
variable {F : Type} [Ring2 F]
open Ring2
theorem loc_perm {xs ys : List F} (h : xs.Perm ys) : loc xs = loc ys := by
  induction h with
  | nil => rfl
  | cons x _ ih => show one1 x * loc _ = one1 x * loc _; rw [ih]
  | swap x y l => show one1 y * (one1 x * loc l) = one1 x * (one1 y * loc l); rw [mul_left_comm]
  | trans _ _ h1 h2 => exact h1.trans h2
theorem ser_perm (Y : F → F) (b : Nat) {xs ys : List F} (h : xs.Perm ys) : ser Y b xs = ser Y b ys := by
  induction h with
  | nil => rfl
  | cons x _ ih => show geo x (Y x) b + ser Y b _ = geo x (Y x) b + ser Y b _; rw [ih]
  | swap x y l => show geo y (Y y) b + (geo x (Y x) b + ser Y b l) = geo x (Y x) b + (geo y (Y y) b + ser Y b l); rw [add_left_comm]
  | trans _ _ h1 h2 => exact h1.trans h2
theorem omg_perm (Y : F → F) (b : Nat) {xs ys : List F} (h : xs.Perm ys) : omg Y b xs = omg Y b ys := by
  rw [← loc_ser, ← loc_ser, loc_perm h, ser_perm Y b h]
end perm
theorem perm_of_sub {F : Type} [DecidableEq F] {xs ys : List F} (hn : xs.Nodup) (hs : ∀ x ∈ xs, x ∈ ys) (hl : ys.length ≤ xs.length) : xs.Perm ys := by
  induction xs generalizing ys with
  | nil => have : ys = [] := List.eq_nil_of_length_eq_zero (by simpa using hl)
           rw [this]
  | cons x xs ih =>
    have hx := hs x (by simp)
    have hn' := List.nodup_cons.1 hn
    have h1 := List.perm_cons_erase hx
    refine List.Perm.trans (List.Perm.cons x (ih hn'.2 (fun z hz => ?_) ?_)) h1.symm
    · refine (List.mem_erase_of_ne (fun e => hn'.1 (by rw [← e]; exact hz))).2 (hs z (by simp [hz]))
    · rw [List.length_erase_of_mem hx]; simp at hl; omega
end Rs
