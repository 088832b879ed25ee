/- Decoding, plain: near words, their errors as places and values, what the locator and the evaluator give back. -/
import Derived.Test.YtjgclomokekogaaW30
import Derived.Test.YtjgclomokekogaaSug
namespace Go.Proofs.Ytjgclomokekogaa
open Go.RowKit Rs

/-- How many symbols are not 0; their places as elements. -/
def wt {f : FP} : List (El f) → Nat
  | [] => 0
  | c :: t => (if c = 0 then 0 else 1) + wt t
def xsOf {f : FP} : List (El f) → List (El f)
  | [] => []
  | c :: t => if c = 0 then xsOf t else El.exp f t.length :: xsOf t
/-- The difference of two words. -/
def dif {f : FP} (a b : List (El f)) : List (El f) := List.zipWith (· + ·) a b
theorem dif_length {f : FP} {a b : List (El f)} (h : b.length = a.length) : (dif a b).length = a.length := by unfold dif; rw [List.length_zipWith]; omega
theorem dif_ps {f : FP} {a b : List (El f)} (h : b.length = a.length) : ps (dif a b) = ps a + ps b := ps_zipWith a b h.symm
theorem xsOf_cons {f : FP} (c : El f) (t : List (El f)) : xsOf (c :: t) = if c = 0 then xsOf t else El.exp f t.length :: xsOf t := rfl
theorem xsOf_length {f : FP} (l : List (El f)) : (xsOf l).length = wt l := by
  induction l with
  | nil => rfl
  | cons c t ih =>
    rw [xsOf_cons]; unfold wt
    by_cases h : c = 0
    · rw [if_pos h, if_pos h, ih]; omega
    · rw [if_neg h, if_neg h, List.length_cons, ih]; omega
theorem ps_cons_at {f : FP} (c : El f) (t : List (El f)) (k : Nat) (h : k < t.length) : ps (c :: t) k = ps t k := by
  show mon c t.length k + ps t k = _
  simp only [mon]; rw [if_neg (by omega)]; exact zero_add _
theorem xsOf_mem {f : FP} {l : List (El f)} {X : El f} (h : X ∈ xsOf l) : ∃ k, k < l.length ∧ X = El.exp f k ∧ ps l k ≠ 0 := by
  induction l with
  | nil => simp [xsOf] at h
  | cons c t ih =>
    rw [xsOf_cons] at h
    have tail : X ∈ xsOf t → ∃ k, k < (c :: t).length ∧ X = El.exp f k ∧ ps (c :: t) k ≠ 0 := fun h => by
      obtain ⟨k, h1, h2, h3⟩ := ih h
      exact ⟨k, by simp; omega, h2, by rw [ps_cons_at c t k h1]; exact h3⟩
    by_cases hc : c = 0
    · rw [if_pos hc] at h; exact tail h
    · rw [if_neg hc] at h
      rcases List.mem_cons.1 h with e | e
      · exact ⟨t.length, by simp, e, by rw [ps_head]; exact hc⟩
      · exact tail e
theorem xsOf_ne {f : FP} {l : List (El f)} : ∀ X ∈ xsOf l, X ≠ 0 := fun X hX => by
  obtain ⟨k, _, h, _⟩ := xsOf_mem hX
  rw [h]; exact El.exp_ne f k
theorem xsOf_nodup {f : FP} (l : List (El f)) (h : l.length ≤ f.size - 1) : (xsOf l).Nodup := by
  induction l with
  | nil => exact List.nodup_nil
  | cons c t ih =>
    simp only [List.length_cons] at h
    rw [xsOf_cons]
    split
    · exact ih (by omega)
    · refine List.nodup_cons.2 ⟨fun hm => ?_, ih (by omega)⟩
      obtain ⟨k, h1, h2, _⟩ := xsOf_mem hm
      have := El.exp_inj (by omega) (by omega) h2
      omega
/-- The value of an error. -/
noncomputable def ya {f : FP} (P : Ps (El f)) (X : El f) : El f := P X.log
theorem ya_ne {f : FP} {l : List (El f)} (h : l.length ≤ f.size - 1) : ∀ X ∈ xsOf l, ya (ps l) X ≠ 0 := fun X hX => by
  obtain ⟨k, h1, h2, h3⟩ := xsOf_mem hX
  unfold ya
  rw [h2, El.log_exp (by omega)]; exact h3
theorem exp_pow {f : FP} (i j : Nat) : npow (El.exp f i) j = El.exp f (i * j) := by
  rw [El.exp_npow f i, npow_npow, ← El.exp_npow]
theorem ev_xsOf {f : FP} (P : Ps (El f)) (b n : Nat) (l : List (El f)) (hP : ∀ k, k < l.length → P k = ps l k) (h : l.length ≤ f.size - 1) :
    ev l (El.exp f (n + b)) = ser (ya P) b (xsOf l) n := by
  induction l with
  | nil => rfl
  | cons c t ih =>
    simp only [List.length_cons] at h
    have hP' : ∀ k, k < t.length → P k = ps t k := fun k hk => by rw [hP k (by simp; omega), ps_cons_at c t k hk]
    rw [ev_cons, ih hP' (by omega)]
    rw [xsOf_cons]
    by_cases hc : c = 0
    · rw [if_pos hc, hc, zero_mul]; exact zero_add (ser (ya P) b (xsOf t) n)
    · rw [if_neg hc]
      show _ = ya P (El.exp f t.length) * npow (El.exp f t.length) (n + b) + ser (ya P) b (xsOf t) n
      have hy : ya P (El.exp f t.length) = c := by
        unfold ya; rw [El.log_exp (by omega), hP t.length (by simp), ps_head]
      rw [hy, exp_pow, exp_pow, Nat.mul_comm]
/-- A word of the code that differs in at most half as many places as there are check symbols. -/
structure Near (f : FP) (ec : Nat) (rec c : List (El f)) : Prop where
  len : c.length = rec.length
  word : Word f ec c
  wt : 2 * wt (dif rec c) ≤ ec
theorem near_syn {f : FP} {ec : Nat} {rec c : List (El f)} (h : Near f ec rec c) (hl : rec.length ≤ f.size - 1) :
    ∀ n, n < ec → ev rec (El.exp f (n + f.base)) = ser (ya (ps (dif rec c))) f.base (xsOf (dif rec c)) n := by
  intro n hn
  rw [← ev_xsOf (ps (dif rec c)) f.base n (dif rec c) (fun _ _ => rfl) (by rw [dif_length h.len]; exact hl)]
  rw [← pev_ps, ← pev_ps, dif_ps h.len, pev_add _ (ps_po rec) (ps_po c), pev_ps c, word_root h.word n hn]
  exact (Ring2.add_zero _).symm
theorem wt_zero {f : FP} {l : List (El f)} (h : wt l = 0) : ps l = 0 := by
  induction l with
  | nil => rfl
  | cons c t ih =>
    unfold wt at h
    by_cases hc : c = 0
    · rw [if_pos hc] at h
      rw [hc, ps_cons_zero, ih (by omega)]
    · rw [if_neg hc] at h; omega
theorem dif_zero {f : FP} {a b : List (El f)} (hl : b.length = a.length) (h : ps (dif a b) = 0) : a = b := by
  rw [dif_ps hl] at h
  exact ps_inj hl.symm (eq_of_add h)
/-- Without syndromes the word is itself the near one. -/
theorem near_zero {f : FP} {ec : Nat} {rec c : List (El f)} (h : Near f ec rec c) (hl : rec.length ≤ f.size - 1) (hz : ∀ n, n < ec → ev rec (El.exp f (n + f.base)) = 0) : rec = c := by
  have hd : (dif rec c).length ≤ f.size - 1 := by rw [dif_length h.len]; exact hl
  have h1 := no_errors (N := ec) (b := f.base) (Y := ya (ps (dif rec c))) (xsOf_nodup (dif rec c) hd) xsOf_ne (ya_ne hd) (fun n hn => by rw [← near_syn h hl n hn]; exact hz n hn) (by rw [xsOf_length]; exact h.wt)
  refine dif_zero h.len (wt_zero ?_)
  rw [← xsOf_length, h1]; rfl
/-- The syndromes as a polynomial. -/
structure Syn (f : FP) (ec : Nat) (rec : List (El f)) (S : Ps (El f)) : Prop where
  dg : Dg S ec
  at' : ∀ n, n < ec → S n = ev rec (El.exp f (n + f.base))
/-- What Euclid's algorithm leaves behind scaling. -/
structure Found (f : FP) (ec : Nat) (S : Ps (El f)) (sl ol : List (El f)) : Prop where
  eu : ∃ t r : Ps (El f), Euc ec S t r ∧ t 0 ≠ 0 ∧ ps sl = mon (Gf.inv (t 0)) 0 * t ∧ ps ol = mon (Gf.inv (t 0)) 0 * r
theorem near_found {f : FP} {ec : Nat} {rec c sl ol : List (El f)} {S : Ps (El f)} (h : Near f ec rec c) (hl : rec.length ≤ f.size - 1) (hS : Syn f ec rec S) (hf : Found f ec S sl ol) :
    ps sl = loc (xsOf (dif rec c)) ∧ ps ol = omg (ya (ps (dif rec c))) f.base (xsOf (dif rec c)) := by
  obtain ⟨t, r, he, h0, h1, h2⟩ := hf.eu
  have hd : (dif rec c).length ≤ f.size - 1 := by rw [dif_length h.len]; exact hl
  obtain ⟨_, h3, h4⟩ := sugi (N := ec) (b := f.base) (Y := ya (ps (dif rec c))) (xsOf_nodup (dif rec c) hd) xsOf_ne (ya_ne hd) (fun n hn => by rw [hS.at' n hn]; exact near_syn h hl n hn) ⟨ec, hS.dg.mono (by omega)⟩ he (by rw [xsOf_length]; exact h.wt)
  have hi : ∀ P : Ps (El f), mon (Gf.inv (t 0)) 0 * (mon (t 0) 0 * P) = P := fun P => by
    rw [← Ring2.mul_assoc, mon_mon, inv_mul _ h0]; exact one_mul P
  exact ⟨h1.trans ((congrArg (mon (Gf.inv (t 0)) 0 * ·) h3).trans (hi _)), h2.trans ((congrArg (mon (Gf.inv (t 0)) 0 * ·) h4).trans (hi _))⟩
/-- Where the word is near, Euclid's algorithm finds a locator. -/
theorem near_t0 {f : FP} {ec : Nat} {rec c : List (El f)} {S t r : Ps (El f)} (h : Near f ec rec c) (hl : rec.length ≤ f.size - 1) (hS : Syn f ec rec S) (he : Euc ec S t r) : t 0 ≠ 0 := by
  have hd : (dif rec c).length ≤ f.size - 1 := by rw [dif_length h.len]; exact hl
  exact (sugi (N := ec) (b := f.base) (Y := ya (ps (dif rec c))) (xsOf_nodup (dif rec c) hd) xsOf_ne (ya_ne hd) (fun n hn => by rw [hS.at' n hn]; exact near_syn h hl n hn) ⟨ec, hS.dg.mono (by omega)⟩ he (by rw [xsOf_length]; exact h.wt)).1
theorem found_one {f : FP} {ec : Nat} {sl ol : List (El f)} {S : Ps (El f)} (hf : Found f ec S sl ol) : ps sl 0 = 1 := by
  obtain ⟨t, r, he, h0, h1, h2⟩ := hf.eu
  rw [h1, ps_mul0]
  show (if 0 = 0 then Gf.inv (t 0) else 0) * t 0 = 1
  rw [if_pos rfl, inv_mul _ h0]
theorem found_len {f : FP} {ec : Nat} {sl ol : List (El f)} {S : Ps (El f)} (hn : Nf sl) (hf : Found f ec S sl ol) : 2 * (sl.length - 1) ≤ ec := by
  obtain ⟨t, r, he, h0, h1, h2⟩ := hf.eu
  obtain ⟨d, hd, hd2⟩ := he.td
  have h3 : Dg (ps sl) (d + 1) := by
    rw [h1]; exact (Dg.mul (Dg.mon (Gf.inv (t 0)) 0) hd).mono (by omega)
  rcases nf_len hn h3 with h4 | h4
  · omega
  · rw [h4]; simp
theorem nf_length {f : FP} {l : List (El f)} {k : Nat} (hn : Nf l) (hd : Dg (ps l) (k + 1)) (h : ps l k ≠ 0) : l.length = k + 1 := by
  have h1 : l.length ≤ k + 1 := by
    rcases nf_len hn hd with h1 | h1
    · exact h1
    · rw [h1]; simp
  have h2 : ¬ l.length ≤ k := fun hle => h (ps_dg l k hle)
  omega
/-- All roots' inverses are on a list that is too short. -/
def FewRoots {f : FP} (sl : List (El f)) : Prop := ∃ rs : List (El f), (∀ x, x ≠ 0 → ev sl (Gf.inv x) = 0 → x ∈ rs) ∧ rs.length < sl.length - 1
/-- A root's inverse each, no two alike, as many as the degree. -/
structure LocsOf {f : FP} (sl xs : List (El f)) : Prop where
  len : xs.length = sl.length - 1
  nd : xs.Nodup
  ne : ∀ x ∈ xs, x ≠ 0
  root : ∀ x ∈ xs, ev sl (Gf.inv x) = 0
theorem near_len {f : FP} {rec c sl : List (El f)} (hn : Nf sl) (h : ps sl = loc (xsOf (dif rec c))) : sl.length = (xsOf (dif rec c)).length + 1 :=
  nf_length hn (by rw [h]; exact loc_dg _) (by rw [h, loc_top]; exact prodE_ne _ xsOf_ne)
theorem sub_length {F : Type} [DecidableEq F] {xs ys : List F} (hn : xs.Nodup) (hs : ∀ x ∈ xs, x ∈ ys) : xs.length ≤ ys.length := by
  induction xs generalizing ys with
  | nil => simp
  | cons x xs ih =>
    have hx := hs x (by simp)
    have hn' := List.nodup_cons.1 hn
    have h1 := ih (ys := ys.erase x) hn'.2 fun z hz => (List.mem_erase_of_ne (fun e => hn'.1 (by rw [← e]; exact hz))).2 (hs z (by simp [hz]))
    rw [List.length_erase_of_mem hx] at h1
    have := List.length_pos_of_mem hx
    simp; omega
theorem near_few {f : FP} {ec : Nat} {rec c sl : List (El f)} (h : Near f ec rec c) (hl : rec.length ≤ f.size - 1) (hn : Nf sl) (hp : ps sl = loc (xsOf (dif rec c))) (hr : FewRoots sl) : False := by
  obtain ⟨rs, h1, h2⟩ := hr
  have hd : (dif rec c).length ≤ f.size - 1 := by rw [dif_length h.len]; exact hl
  have h3 := sub_length (xsOf_nodup (dif rec c) hd) (ys := rs) fun X hX => h1 X (xsOf_ne X hX) (by
    rw [← pev_ps, hp, pev_loc]; exact val1_root _ _ X hX (Gf.mul_inv X (xsOf_ne X hX)))
  rw [near_len hn hp] at h2
  omega
theorem near_perm {f : FP} {rec c sl xs : List (El f)} (hn : Nf sl) (hp : ps sl = loc (xsOf (dif rec c))) (hx : LocsOf sl xs) : xs.Perm (xsOf (dif rec c)) := by
  refine perm_of_sub hx.nd (fun x h => ?_) (by rw [hx.len, near_len hn hp]; omega)
  have h1 := hx.root x h
  rw [← pev_ps, hp, pev_loc] at h1
  obtain ⟨X, hX, h2⟩ := val1_mem _ _ h1
  rw [← mul_inv_one (hx.ne x h) h2]; exact hX
/-- The magnitude as it is reckoned. -/
noncomputable def mag {f : FP} (ol xs : List (El f)) (i : Nat) : El f :=
  if f.base = 0 then ev ol (Gf.inv (xs.getD i 0)) * Gf.inv (pw (Gf.inv (xs.getD i 0)) (fun k => xs.getD k 0) i xs.length)
  else ev ol (Gf.inv (xs.getD i 0)) * Gf.inv (pw (Gf.inv (xs.getD i 0)) (fun k => xs.getD k 0) i xs.length) * Gf.inv (xs.getD i 0)
theorem mag_eq {f : FP} {Y : El f → El f} {ol xs : List (El f)} (hn : xs.Nodup) (h0 : ∀ x ∈ xs, x ≠ 0) (h : ps ol = omg Y f.base xs) (i : Nat) (hi : i < xs.length) : mag ol xs i = Y (xs.getD i 0) := by
  have hb := f.base_le
  have hg : xs.getD i 0 = xs[i] := by simp [List.getD, hi]
  have hx := h0 _ (List.getElem_mem hi)
  have he : ev ol (Gf.inv xs[i]) = Y xs[i] * npow xs[i] f.base * pw (Gf.inv xs[i]) (fun k => xs.getD k 0) i xs.length := by
    rw [← pev_ps, h, pev_omg Y f.base xs i hi _ (Gf.mul_inv _ hx)]
  have hp := pw_ne xs hn h0 i hi xs.length (Nat.le_refl _)
  unfold mag
  rw [hg, he]
  split
  · rename_i e
    rw [e, npow, Ring2.mul_one, Ring2.mul_assoc, Gf.mul_inv _ hp, Ring2.mul_one]
  · have e : f.base = 1 := by omega
    rw [e, npow, npow, one_mul, Ring2.mul_assoc (Y xs[i] * xs[i]), Gf.mul_inv _ hp, Ring2.mul_one, Ring2.mul_assoc, Gf.mul_inv _ hx, Ring2.mul_one]
/-- The errors as a polynomial. -/
noncomputable def sumM {f : FP} (Y : El f → El f) : List (El f) → Ps (El f)
  | [] => 0
  | X :: xs => mon (Y X) X.log + sumM Y xs
theorem sumM_perm {f : FP} (Y : El f → El f) {xs ys : List (El f)} (h : xs.Perm ys) : sumM Y xs = sumM Y ys := by
  induction h with
  | nil => rfl
  | cons x _ ih => show mon (Y x) x.log + sumM Y _ = mon (Y x) x.log + sumM Y _; rw [ih]
  | swap x y l => show mon (Y y) y.log + (mon (Y x) x.log + sumM Y l) = mon (Y x) x.log + (mon (Y y) y.log + sumM Y l); rw [add_left_comm]
  | trans _ _ h1 h2 => exact h1.trans h2
theorem sumM_snoc {f : FP} (Y : El f → El f) (xs : List (El f)) (x : El f) : sumM Y (xs ++ [x]) = sumM Y xs + mon (Y x) x.log := by
  induction xs with
  | nil => show mon (Y x) x.log + 0 = 0 + mon (Y x) x.log; rw [zero_add]; exact Ring2.add_zero _
  | cons z xs ih => show mon (Y z) z.log + sumM Y (xs ++ [x]) = mon (Y z) z.log + sumM Y xs + mon (Y x) x.log; rw [ih, Ring2.add_assoc]
theorem sumM_xsOf {f : FP} (P : Ps (El f)) (l : List (El f)) (hP : ∀ k, k < l.length → P k = ps l k) (h : l.length ≤ f.size - 1) : sumM (ya P) (xsOf l) = ps l := by
  induction l with
  | nil => rfl
  | cons c t ih =>
    simp only [List.length_cons] at h
    have hP' : ∀ k, k < t.length → P k = ps t k := fun k hk => by rw [hP k (by simp; omega), ps_cons_at c t k hk]
    rw [xsOf_cons]
    by_cases hc : c = 0
    · rw [if_pos hc, hc, ps_cons_zero]; exact ih hP' (by omega)
    · rw [if_neg hc]
      show mon (ya P (El.exp f t.length)) (El.exp f t.length).log + sumM (ya P) (xsOf t) = mon c t.length + ps t
      have hy : ya P (El.exp f t.length) = c := by
        unfold ya; rw [El.log_exp (by omega), hP t.length (by simp), ps_head]
      rw [hy, El.log_exp (by omega), ih hP' (by omega)]
/-- What the first i magnitudes add. -/
noncomputable def errs {f : FP} (ol xs : List (El f)) : Nat → Ps (El f)
  | 0 => 0
  | i + 1 => errs ol xs i + mon (mag ol xs i) (xs.getD i 0).log
theorem errs_eq {f : FP} {Y : El f → El f} {ol xs : List (El f)} (hn : xs.Nodup) (h0 : ∀ x ∈ xs, x ≠ 0) (h : ps ol = omg Y f.base xs) (i : Nat) (hi : i ≤ xs.length) : errs ol xs i = sumM Y (xs.take i) := by
  induction i with
  | zero => rfl
  | succ i ih =>
    have hg : xs.getD i 0 = xs[i]'(by omega) := by simp [List.getD, show i < xs.length from by omega]
    rw [errs, ih (by omega), mag_eq hn h0 h i (by omega), List.take_succ_eq_append_getElem (by omega), sumM_snoc, hg]
/-- The word behind i corrections. -/
structure FixTo {f : FP} (rec ol xs : List (El f)) (i : Nat) (cur : List (El f)) : Prop where
  len : cur.length = rec.length
  eq : ps cur = ps rec + errs ol xs i
  few : wt (dif rec cur) ≤ i
theorem wt_self {f : FP} (a : List (El f)) : wt (dif a a) = 0 := by
  induction a with
  | nil => rfl
  | cons c t ih =>
    show (if c + c = 0 then 0 else 1) + wt (dif t t) = 0
    rw [if_pos (Ring2.add_self c), ih]
theorem wt_set {f : FP} (a b : List (El f)) (k : Nat) (v : El f) : wt (dif a (b.set k v)) ≤ wt (dif a b) + 1 := by
  induction a generalizing b k with
  | nil => cases b.set k v <;> simp [dif, wt]
  | cons c a ih =>
    cases b with
    | nil => simp [dif, wt]
    | cons d b =>
      cases k with
      | zero =>
        show (if c + v = 0 then 0 else 1) + wt (dif a b) ≤ (if c + d = 0 then 0 else 1) + wt (dif a b) + 1
        split <;> split <;> omega
      | succ k =>
        show (if c + d = 0 then 0 else 1) + wt (dif a (b.set k v)) ≤ (if c + d = 0 then 0 else 1) + wt (dif a b) + 1
        have := ih b k
        omega
theorem FixTo.start {f : FP} (rec ol xs : List (El f)) : FixTo rec ol xs 0 rec := ⟨rfl, (Ring2.add_zero _).symm, by rw [wt_self]; exact Nat.le_refl _⟩
theorem FixTo.step {f : FP} {rec ol xs cur : List (El f)} {i p : Nat} (h : FixTo rec ol xs i cur) (hp : p + 1 + (xs.getD i 0).log = rec.length) (hp' : p < cur.length) : FixTo rec ol xs (i + 1) (cur.set p (cur[p] + mag ol xs i)) := by
  refine ⟨by rw [List.length_set]; exact h.len, ?_, ?_⟩
  · rw [ps_set _ _ _ hp', h.eq, errs, Ring2.add_assoc, show cur.length - 1 - p = (xs.getD i 0).log from by have := h.len; omega]
  · have h1 := wt_set rec cur p (cur[p] + mag ol xs i)
    have h2 := h.few
    omega
/-- Behind all corrections the word is the near one. -/
theorem near_fix {f : FP} {ec : Nat} {rec c sl ol xs cur : List (El f)} {S : Ps (El f)} (h : Near f ec rec c) (hl : rec.length ≤ f.size - 1) (hS : Syn f ec rec S) (hf : Found f ec S sl ol) (hn : Nf sl) (hx : LocsOf sl xs)
    (hc : FixTo rec ol xs xs.length cur) : cur = c := by
  obtain ⟨h1, h2⟩ := near_found h hl hS hf
  have hp := near_perm hn h1 hx
  have hd : (dif rec c).length ≤ f.size - 1 := by rw [dif_length h.len]; exact hl
  have h3 := errs_eq (Y := ya (ps (dif rec c))) hx.nd hx.ne (by rw [h2]; exact omg_perm _ _ hp.symm) xs.length (Nat.le_refl _)
  rw [List.take_length, sumM_perm _ hp, sumM_xsOf (ps (dif rec c)) (dif rec c) (fun _ _ => rfl) hd, dif_ps h.len] at h3
  refine ps_inj (by rw [hc.len, h.len]) ?_
  rw [hc.eq, h3, add_self_left]
/-- No place lies outside. -/
theorem near_place {f : FP} {ec : Nat} {rec c sl ol xs : List (El f)} {S : Ps (El f)} (h : Near f ec rec c) (hl : rec.length ≤ f.size - 1) (hS : Syn f ec rec S) (hf : Found f ec S sl ol) (hn : Nf sl) (hx : LocsOf sl xs)
    (i : Nat) (hi : i < xs.length) : (xs.getD i 0).log < rec.length := by
  obtain ⟨h1, h2⟩ := near_found h hl hS hf
  have hp := near_perm hn h1 hx
  have hg : xs.getD i 0 = xs[i] := by simp [List.getD, hi]
  obtain ⟨k, h3, h4, _⟩ := xsOf_mem (hp.mem_iff.1 (List.getElem_mem hi))
  rw [dif_length h.len] at h3
  rw [hg, h4, El.log_exp (by omega)]; exact h3
end Go.Proofs.Ytjgclomokekogaa
