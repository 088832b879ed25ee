/- Plain algebra: commutative rings and fields of characteristic two, formal power series over them, polynomials as lists with the highest degree first, their values and roots. No program in sight. -/
namespace Rs

/-- A commutative ring of characteristic two. -/
class Ring2 (R : Type) extends Add R, Mul R, Zero R, One R where
  add_assoc : ∀ a b c : R, (a + b) + c = a + (b + c)
  add_comm : ∀ a b : R, a + b = b + a
  add_zero : ∀ a : R, a + 0 = a
  add_self : ∀ a : R, a + a = 0
  mul_assoc : ∀ a b c : R, (a * b) * c = a * (b * c)
  mul_comm : ∀ a b : R, a * b = b * a
  mul_one : ∀ a : R, a * 1 = a
  mul_add : ∀ a b c : R, a * (b + c) = a * b + a * c

/-- A field of characteristic two. -/
class Gf (F : Type) extends Ring2 F where
  inv : F → F
  mul_inv : ∀ a : F, a ≠ 0 → a * inv a = 1
  one_ne : (1 : F) ≠ 0

section ring
variable {R : Type} [Ring2 R]
open Ring2

theorem zero_add (a : R) : 0 + a = a := by rw [add_comm, add_zero]
theorem one_mul (a : R) : 1 * a = a := by rw [mul_comm, mul_one]
theorem add_mul (a b c : R) : (a + b) * c = a * c + b * c := by rw [mul_comm, mul_add, mul_comm c, mul_comm c]
theorem mul_zero (a : R) : a * 0 = 0 := by
  have h : a * (a + a) = a * a + a * a := mul_add a a a
  rw [add_self, add_self] at h; exact h
theorem zero_mul (a : R) : 0 * a = 0 := by rw [mul_comm, mul_zero]
theorem add_left_comm (a b c : R) : a + (b + c) = b + (a + c) := by
  rw [← add_assoc, add_comm a b, add_assoc]
theorem mul_left_comm (a b c : R) : a * (b * c) = b * (a * c) := by
  rw [← mul_assoc, mul_comm a b, mul_assoc]
theorem add_self_left (a b : R) : a + (a + b) = b := by rw [← add_assoc, add_self, zero_add]
theorem eq_of_add {a b : R} (h : a + b = 0) : a = b := by
  have := add_self_left a b
  rw [h, add_zero] at this; exact this
theorem add_of_eq {a b : R} (h : a = b) : a + b = 0 := by rw [h, add_self]
theorem add_cancel {a b c : R} (h : a + b = a + c) : b = c := by
  rw [← add_self_left a b, h, add_self_left]
theorem eq_add_of {a b c : R} (h : a + b = c) : a = c + b := by
  rw [← h, add_assoc, add_self, add_zero]

/-- Powers. -/
def npow (a : R) : Nat → R
  | 0 => 1
  | n + 1 => npow a n * a
theorem npow_add (a : R) (m n : Nat) : npow a (m + n) = npow a m * npow a n := by
  induction n with
  | zero => simp [npow, mul_one]
  | succ n ih => rw [← Nat.add_assoc, npow, ih, npow, mul_assoc]
theorem npow_mul (a b : R) (n : Nat) : npow (a * b) n = npow a n * npow b n := by
  induction n with
  | zero => simp [npow, mul_one]
  | succ n ih => rw [npow, ih, npow, npow, mul_assoc, mul_assoc, mul_left_comm (npow b n)]
theorem npow_npow (a : R) (m n : Nat) : npow (npow a m) n = npow a (m * n) := by
  induction n with
  | zero => simp [npow]
  | succ n ih => rw [npow, ih, Nat.mul_succ, npow_add]
theorem npow_one (n : Nat) : npow (1 : R) n = 1 := by
  induction n with
  | zero => rfl
  | succ n ih => rw [npow, ih, mul_one]
theorem npow_succ' (a : R) (n : Nat) : npow a (n + 1) = a * npow a n := by rw [npow, mul_comm]
end ring

section field
variable {F : Type} [Gf F]
open Ring2 Gf

theorem mul_eq_zero {a b : F} (h : a * b = 0) : a = 0 ∨ b = 0 := by
  by_cases ha : a = 0
  · exact Or.inl ha
  · refine Or.inr ?_
    have : inv a * (a * b) = b := by rw [← mul_assoc, mul_comm (inv a), mul_inv a ha, one_mul]
    rw [← this, h, mul_zero]
theorem mul_ne {a b : F} (ha : a ≠ 0) (hb : b ≠ 0) : a * b ≠ 0 := fun h => (mul_eq_zero h).elim ha hb
theorem mul_cancel {a b c : F} (ha : a ≠ 0) (h : a * b = a * c) : b = c := by
  have : a * (b + c) = 0 := by rw [mul_add, h, add_self]
  exact eq_of_add ((mul_eq_zero this).resolve_left ha)
theorem inv_ne {a : F} (ha : a ≠ 0) : inv a ≠ 0 := fun h => one_ne (F := F) (by rw [← mul_inv a ha, h, mul_zero])
theorem inv_mul (a : F) (ha : a ≠ 0) : inv a * a = 1 := by rw [mul_comm, mul_inv a ha]
theorem inv_inv {a : F} (ha : a ≠ 0) : inv (inv a) = a :=
  mul_cancel (inv_ne ha) (by rw [mul_inv _ (inv_ne ha), inv_mul a ha])
theorem inv_inj {a b : F} (ha : a ≠ 0) (hb : b ≠ 0) (h : inv a = inv b) : a = b := by
  rw [← inv_inv ha, h, inv_inv hb]
theorem inv_unique {a b : F} (h : a * b = 1) : b = inv a := by
  have ha : a ≠ 0 := fun e => one_ne (F := F) (by rw [← h, e, zero_mul])
  exact mul_cancel ha (by rw [h, mul_inv a ha])
theorem npow_ne {a : F} (ha : a ≠ 0) (n : Nat) : npow a n ≠ 0 := by
  induction n with
  | zero => exact one_ne
  | succ n ih => exact mul_ne ih ha
end field

/-- Formal power series. -/
def Ps (F : Type) : Type := Nat → F

section series
variable {F : Type} [Ring2 F]
open Ring2

def tl (f : Ps F) : Ps F := fun n => f (n + 1)
def pmul (g : Ps F) : Nat → Ps F → F
  | 0, f => f 0 * g 0
  | n + 1, f => f 0 * g (n + 1) + pmul g n (tl f)
instance : Add (Ps F) := ⟨fun f g n => f n + g n⟩
instance : Mul (Ps F) := ⟨fun f g n => pmul g n f⟩
instance : Zero (Ps F) := ⟨fun _ => 0⟩
/-- c times x to the k. -/
def mon (c : F) (k : Nat) : Ps F := fun n => if n = k then c else 0
instance : One (Ps F) := ⟨mon 1 0⟩

theorem ps_add (f g : Ps F) (n : Nat) : (f + g) n = f n + g n := rfl
theorem ps_zero (n : Nat) : (0 : Ps F) n = 0 := rfl
theorem ps_mul0 (f g : Ps F) : (f * g) 0 = f 0 * g 0 := rfl
theorem ps_mulS (f g : Ps F) (n : Nat) : (f * g) (n + 1) = f 0 * g (n + 1) + (tl f * g) n := rfl
theorem ps_one (n : Nat) : (1 : Ps F) n = if n = 0 then 1 else 0 := rfl
theorem tl_add (f g : Ps F) : tl (f + g) = tl f + tl g := rfl

theorem ps_mul_add (f g h : Ps F) : f * (g + h) = f * g + f * h := by
  funext n
  induction n generalizing f with
  | zero => simp only [ps_add, ps_mul0, mul_add]
  | succ n ih => rw [ps_add, ps_mulS, ps_mulS, ps_mulS, ih, ps_add, ps_add, mul_add]; simp only [add_assoc, add_left_comm]
theorem ps_add_mul (f g h : Ps F) : (f + g) * h = f * h + g * h := by
  funext n
  induction n generalizing f g with
  | zero => simp only [ps_add, ps_mul0, add_mul]
  | succ n ih => rw [ps_add, ps_mulS, ps_mulS, ps_mulS, tl_add, ih, ps_add, ps_add, add_mul]; simp only [add_assoc, add_left_comm]
/-- A constant times a series. -/
def sc (c : F) (f : Ps F) : Ps F := fun n => c * f n
theorem sc_mul (c : F) (f g : Ps F) : sc c f * g = sc c (f * g) := by
  funext n
  induction n generalizing f with
  | zero => show c * f 0 * g 0 = c * (f 0 * g 0); rw [mul_assoc]
  | succ n ih =>
    rw [ps_mulS]; show c * f 0 * g (n + 1) + (sc c (tl f) * g) n = c * (f * g) (n + 1)
    rw [ih, ps_mulS, mul_add, mul_assoc]; rfl
theorem tl_mul (f g : Ps F) : tl (f * g) = sc (f 0) (tl g) + tl f * g := rfl
theorem ps_mul_assoc (f g h : Ps F) : f * g * h = f * (g * h) := by
  funext n
  induction n generalizing f with
  | zero => simp only [ps_mul0, mul_assoc]
  | succ n ih =>
    rw [ps_mulS, tl_mul, ps_add_mul, ps_add, sc_mul, ih, ps_mulS f, ps_mulS g, ps_mul0, mul_add, mul_assoc, add_assoc]; rfl
theorem ps_mulS' (f g : Ps F) (n : Nat) : (f * g) (n + 1) = f (n + 1) * g 0 + (f * tl g) n := by
  induction n generalizing f with
  | zero => rw [ps_mulS]; simp only [ps_mul0, tl]; rw [add_comm]
  | succ n ih => rw [ps_mulS, ih, ps_mulS f (tl g)]; show _ + (f (n + 2) * g 0 + _) = _; rw [add_left_comm]; rfl
theorem ps_mul_comm (f g : Ps F) : f * g = g * f := by
  funext n
  induction n generalizing f g with
  | zero => simp only [ps_mul0, mul_comm]
  | succ n ih => rw [ps_mulS, ps_mulS', ih, mul_comm]
theorem mon_mul (c : F) (k : Nat) (g : Ps F) (n : Nat) : (mon c k * g) n = if n < k then 0 else c * g (n - k) := by
  induction n generalizing k with
  | zero =>
    rw [ps_mul0]
    by_cases hk : k = 0
    · subst hk; simp [mon]
    · rw [if_pos (by omega)]; simp only [mon]; rw [if_neg (by omega), zero_mul]
  | succ n ih =>
    rw [ps_mulS]
    cases k with
    | zero =>
      have : tl (mon c 0) = (0 : Ps F) := by funext m; simp [tl, mon, ps_zero]
      have z : ((0 : Ps F) * g) n = 0 := by
        have h : (0 : Ps F) * g + (0 : Ps F) * g = (0 : Ps F) * g := by
          rw [← ps_add_mul]; congr 1; funext m; simp [ps_add, ps_zero, add_zero]
        have h1 := congrFun h n; rw [ps_add, add_self] at h1; exact h1.symm
      rw [this, z]; simp [mon, add_zero]
    | succ k =>
      have : tl (mon c (k + 1)) = mon c k := by funext m; simp [tl, mon]
      rw [this, ih]; simp [mon, zero_mul, zero_add]
instance : Ring2 (Ps F) where
  add_assoc f g h := by funext n; simp only [ps_add, add_assoc]
  add_comm f g := by funext n; simp only [ps_add, add_comm]
  add_zero f := by funext n; simp only [ps_add, ps_zero, add_zero]
  add_self f := by funext n; simp only [ps_add, ps_zero, add_self]
  mul_assoc := ps_mul_assoc
  mul_comm := ps_mul_comm
  mul_one f := by
    rw [ps_mul_comm]; funext n; show ((mon 1 0 : Ps F) * f) n = f n; rw [mon_mul]; simp [one_mul]
  mul_add := ps_mul_add

theorem mon_one_mul (k : Nat) (g : Ps F) (n : Nat) : ((mon 1 k : Ps F) * g) n = if n < k then 0 else g (n - k) := by rw [mon_mul, one_mul]
theorem mon_mon (a b : F) (i j : Nat) : mon a i * mon b j = mon (a * b) (i + j) := by
  funext n; rw [mon_mul]; simp only [mon]
  by_cases h : n < i
  · rw [if_pos h, if_neg (by omega)]
  · rw [if_neg h]
    by_cases e : n - i = j
    · rw [if_pos e, if_pos (by omega)]
    · rw [if_neg e, if_neg (by omega), mul_zero]
theorem mon_add (a b : F) (i : Nat) : mon a i + mon b i = mon (a + b) i := by
  funext n; simp only [mon, ps_add]; split <;> simp [add_zero]
theorem mon_zero (k : Nat) : mon (0 : F) k = 0 := by funext n; simp [mon, ps_zero]
theorem sc_eq (c : F) (f : Ps F) : sc c f = mon c 0 * f := by funext n; rw [mon_mul]; simp [sc]

/-- Fewer than d coefficients. -/
def Dg (f : Ps F) (d : Nat) : Prop := ∀ n, d ≤ n → f n = 0
theorem Dg.mono {f : Ps F} {a b : Nat} (h : Dg f a) (hab : a ≤ b) : Dg f b := fun n hn => h n (by omega)
theorem Dg.add {f g : Ps F} {d : Nat} (hf : Dg f d) (hg : Dg g d) : Dg (f + g) d := fun n hn => by rw [ps_add, hf n hn, hg n hn, add_zero]
theorem Dg.zero (d : Nat) : Dg (0 : Ps F) d := fun _ _ => rfl
theorem Dg.mon (c : F) (k : Nat) : Dg (mon c k) (k + 1) := fun n hn => by simp only [Rs.mon]; rw [if_neg (by omega)]
theorem Dg.one : Dg (1 : Ps F) 1 := Dg.mon 1 0
theorem Dg.tl {f : Ps F} {d : Nat} (h : Dg f (d + 1)) : Dg (tl f) d := fun n hn => h (n + 1) (by omega)
theorem Dg.eq_zero {f : Ps F} (h : Dg f 0) : f = 0 := funext fun n => h n (Nat.zero_le _)
theorem Dg.mul {f g : Ps F} {a b : Nat} (hf : Dg f (a + 1)) (hg : Dg g (b + 1)) : Dg (f * g) (a + b + 1) := by
  intro n hn
  induction a generalizing f n with
  | zero =>
    have hz : Rs.tl f = 0 := (Dg.tl hf).eq_zero
    cases n with
    | zero => omega
    | succ n => rw [ps_mulS, hz, zero_mul, ps_zero, hg (n + 1) (by omega), mul_zero, add_zero]
  | succ a ih =>
    cases n with
    | zero => omega
    | succ n => rw [ps_mulS, hg (n + 1) (by omega), mul_zero, zero_add]; exact ih hf.tl n (by omega)
/-- The product's top coefficient. -/
theorem top_mul {f g : Ps F} {a b : Nat} (hf : Dg f (a + 1)) (hg : Dg g (b + 1)) : (f * g) (a + b) = f a * g b := by
  induction a generalizing f with
  | zero =>
    have hz : tl f = 0 := (Dg.tl hf).eq_zero
    cases b with
    | zero => rfl
    | succ b => rw [Nat.zero_add, ps_mulS, hz, zero_mul, ps_zero, add_zero]
  | succ a ih =>
    rw [show a + 1 + b = (a + b) + 1 from by omega, ps_mulS, hg (a + b + 1) (by omega), mul_zero, zero_add, ih hf.tl]; rfl
/-- A polynomial. -/
def Po (f : Ps F) : Prop := ∃ d, Dg f (d + 1)
theorem Po.add {f g : Ps F} (hf : Po f) (hg : Po g) : Po (f + g) := by
  obtain ⟨a, ha⟩ := hf; obtain ⟨b, hb⟩ := hg
  exact ⟨a + b, (ha.mono (by omega)).add (hb.mono (by omega))⟩
theorem Po.mul {f g : Ps F} (hf : Po f) (hg : Po g) : Po (f * g) := by
  obtain ⟨a, ha⟩ := hf; obtain ⟨b, hb⟩ := hg
  exact ⟨a + b, ha.mul hb⟩
theorem Po.zero : Po (0 : Ps F) := ⟨0, Dg.zero _⟩
theorem Po.one : Po (1 : Ps F) := ⟨0, Dg.one⟩
theorem Po.mon (c : F) (k : Nat) : Po (mon c k) := ⟨k, Dg.mon c k⟩
/-- A polynomial that is not 0 has a top coefficient. -/
theorem Dg.top {f : Ps F} {d : Nat} (h : Dg f d) : f = 0 ∨ ∃ m, m < d ∧ f m ≠ 0 ∧ Dg f (m + 1) := by
  induction d with
  | zero => exact Or.inl h.eq_zero
  | succ d ih =>
    by_cases e : f d = 0
    · rcases ih (fun n hn => by by_cases hd : n = d; · rw [hd, e]
                                · exact h n (by omega)) with h' | ⟨m, hm, h1, h2⟩
      · exact Or.inl h'
      · exact Or.inr ⟨m, by omega, h1, h2⟩
    · exact Or.inr ⟨d, by omega, e, h⟩
theorem Po.top {f : Ps F} (h : Po f) : f = 0 ∨ ∃ m, f m ≠ 0 ∧ Dg f (m + 1) := by
  obtain ⟨d, hd⟩ := h
  rcases hd.top with h | ⟨m, _, h1, h2⟩
  · exact Or.inl h
  · exact Or.inr ⟨m, h1, h2⟩

/-- The value of the first n coefficients at x. -/
def evT (x : F) : Nat → Ps F → F
  | 0, _ => 0
  | n + 1, f => f 0 + x * evT x n (tl f)
theorem evT_add (x : F) (n : Nat) (f g : Ps F) : evT x n (f + g) = evT x n f + evT x n g := by
  induction n generalizing f g with
  | zero => simp [evT, add_zero]
  | succ n ih => simp only [evT, tl_add, ih, ps_add, mul_add, add_assoc, add_left_comm]
theorem evT_sc (x c : F) (n : Nat) (f : Ps F) : evT x n (sc c f) = c * evT x n f := by
  induction n generalizing f with
  | zero => simp [evT, mul_zero]
  | succ n ih =>
    have : tl (sc c f) = sc c (tl f) := rfl
    simp only [evT, this, ih, mul_add, mul_left_comm]; rfl
theorem evT_zero (x : F) (n : Nat) : evT x n (0 : Ps F) = 0 := by
  induction n with
  | zero => rfl
  | succ n ih =>
    have : tl (0 : Ps F) = 0 := rfl
    rw [evT, this, ih, mul_zero, ps_zero, add_zero]
theorem evT_dg (x : F) {f : Ps F} {d : Nat} (h : Dg f d) (n : Nat) (hn : d ≤ n) : evT x n f = evT x d f := by
  induction d generalizing f n with
  | zero => rw [h.eq_zero, evT_zero]; rfl
  | succ d ih =>
    cases n with
    | zero => omega
    | succ n => rw [evT, evT, ih h.tl n (by omega)]
theorem evT_mul (x : F) {f g : Ps F} {a b : Nat} (hf : Dg f a) (hg : Dg g b) : evT x (a + b) (f * g) = evT x a f * evT x b g := by
  induction a generalizing f with
  | zero => rw [hf.eq_zero, zero_mul, evT_zero, evT, zero_mul]
  | succ a ih =>
    have e : f * g = sc (f 0) g + mon 1 1 * (tl f * g) := by
      funext n
      cases n with
      | zero => rw [ps_add, mon_one_mul]; simp [ps_mul0, sc, add_zero]
      | succ n => rw [ps_add, mon_one_mul, ps_mulS]; simp [sc]
    have e2 : ∀ (n : Nat) (h : Ps F), evT x (n + 1) (mon 1 1 * h) = x * evT x n h := by
      intro n h
      have : tl (mon 1 1 * h) = h := by funext m; simp [tl, mon_one_mul]
      rw [evT, this, mon_one_mul, if_pos (by omega), zero_add]
    rw [e, evT_add, evT_sc, show a + 1 + b = (a + b) + 1 from by omega, e2, ih hf.tl, evT_dg x hg (a + b + 1) (by omega), evT, add_mul, mul_assoc]

/-- Value of a polynomial: by as many coefficients as it has. -/
theorem evT_mon (x c : F) (k : Nat) : evT x (k + 1) (mon c k) = c * npow x k := by
  induction k with
  | zero => have : tl (mon c 0) = (0 : Ps F) := by funext m; simp [tl, mon, ps_zero]
            rw [evT, this, evT_zero, mul_zero, add_zero]; simp [mon, npow, mul_one]
  | succ k ih =>
    have : tl (mon c (k + 1)) = mon c k := by funext m; simp [tl, mon]
    rw [evT, this, ih, npow_succ']; simp [mon, zero_add, mul_left_comm]

/-- The series of a list of coefficients, the highest degree first. -/
def ps : List F → Ps F
  | [] => 0
  | c :: l => mon c l.length + ps l
theorem ps_dg (l : List F) : Dg (ps l) l.length := by
  induction l with
  | nil => exact Dg.zero _
  | cons c l ih => exact (Dg.mon c l.length).add (ih.mono (by simp))
theorem ps_po (l : List F) : Po (ps l) := ⟨l.length, (ps_dg l).mono (by omega)⟩
theorem ps_head (c : F) (l : List F) : ps (c :: l) l.length = c := by
  show mon c l.length l.length + ps l l.length = c
  rw [ps_dg l _ (Nat.le_refl _), add_zero]; simp [mon]
theorem ps_get (l : List F) (n : Nat) (h : n < l.length) : ps l n = l[l.length - 1 - n]'(by omega) := by
  induction l with
  | nil => simp at h
  | cons c l ih =>
    by_cases e : n = l.length
    · subst e; rw [ps_head]; simp
    · show mon c l.length n + ps l n = _
      simp only [List.length_cons] at h
      rw [ih (by omega)]; simp only [mon]; rw [if_neg e, zero_add, List.getElem_cons]
      rw [dif_neg (by simp; omega)]; congr 1; simp; omega
theorem ps_append (a b : List F) : ps (a ++ b) = mon 1 b.length * ps a + ps b := by
  induction a with
  | nil => simp only [List.nil_append, ps]; rw [mul_zero, zero_add]
  | cons c a ih =>
    simp only [List.cons_append, ps, ih]
    rw [mul_add, mon_mon, one_mul, List.length_append, add_assoc, Nat.add_comm a.length]
theorem ps_zeros (k : Nat) : ps (List.replicate k (0 : F)) = 0 := by
  induction k with
  | zero => rfl
  | succ k ih => simp only [List.replicate_succ, ps, ih, mon_zero]; exact add_zero _
theorem ps_singleton (c : F) : ps [c] = mon c 0 := by simp only [ps]; exact add_zero _
/-- Lists of one length with one series are one. -/
theorem ps_inj {a b : List F} (hl : a.length = b.length) (h : ps a = ps b) : a = b := by
  apply List.ext_getElem hl
  intro i h1 h2
  have := congrFun h (a.length - 1 - i)
  rw [ps_get a _ (by omega), ps_get b _ (by omega)] at this
  simpa [show a.length - 1 - (a.length - 1 - i) = i from by omega, show b.length - 1 - (a.length - 1 - i) = i from by omega] using this

/-- The value of a list of coefficients, the highest degree first, by Horner's rule from a start r. -/
def evA (x : F) (r : F) (l : List F) : F := l.foldl (fun r c => r * x + c) r
def ev (l : List F) (x : F) : F := evA x 0 l
theorem evA_cons (x r c : F) (l : List F) : evA x r (c :: l) = evA x (r * x + c) l := rfl
theorem evA_lin (x r s : F) (l : List F) : evA x (r + s) l = evA x r l + s * npow x l.length := by
  induction l generalizing r s with
  | nil => simp [evA, npow, mul_one]
  | cons c l ih =>
    rw [evA_cons, evA_cons, show (r + s) * x + c = (r * x + c) + s * x from by rw [add_mul, add_assoc, add_assoc, add_comm (s * x)], ih, List.length_cons, npow_succ', mul_assoc]
theorem ev_cons (c : F) (l : List F) (x : F) : ev (c :: l) x = c * npow x l.length + ev l x := by
  show evA x (0 * x + c) l = _
  rw [zero_mul, evA_lin, add_comm]; rfl
theorem ev_eq (l : List F) (x : F) : ev l x = evT x l.length (ps l) := by
  induction l with
  | nil => rfl
  | cons c l ih =>
    rw [ev_cons, ih, ps, evT_add, List.length_cons, evT_mon, evT_dg x (ps_dg l) _ (Nat.le_succ _)]
theorem ev_append (a b : List F) (x : F) : ev (a ++ b) x = ev a x * npow x b.length + ev b x := by
  induction a with
  | nil => rw [List.nil_append, show ev ([] : List F) x = 0 from rfl, zero_mul, zero_add]
  | cons c a ih => rw [List.cons_append, ev_cons, ev_cons, ih, List.length_append, npow_add, add_mul, mul_assoc, add_assoc]
theorem ev_snoc (l : List F) (c x : F) : ev (l ++ [c]) x = ev l x * x + c := by
  unfold ev evA; rw [List.foldl_append]; rfl
/-- The value of a polynomial by its series. -/
theorem ev_of (l : List F) (x : F) {d : Nat} (h : Dg (ps l) d) : ev l x = evT x d (ps l) := by
  rw [ev_eq, ← evT_dg x (ps_dg l) (l.length + d) (by omega), ← evT_dg x h (l.length + d) (by omega)]
theorem evT_any (x : F) {f : Ps F} {d e : Nat} (h : Dg f d) (h' : Dg f e) : evT x d f = evT x e f := by
  rw [← evT_dg x h (d + e) (by omega), ← evT_dg x h' (d + e) (by omega)]

/-- What is left of a list divided by (x + a): the partial values. -/
def quo (a : F) : F → List F → List F
  | _, [] => []
  | r, c :: l => r :: quo a (r * a + c) l
theorem quo_length (a r : F) (l : List F) : (quo a r l).length = l.length := by
  induction l generalizing r with
  | nil => rfl
  | cons c l ih => simp [quo, ih]
theorem quo_ev (a b r : F) (l : List F) : evA b r l = (b + a) * ev (quo a r l) b + evA a r l := by
  induction l generalizing r with
  | nil => show r = (b + a) * 0 + r; rw [mul_zero, zero_add]
  | cons c l ih =>
    have h1 : evA b (r * b + c) l = evA b (r * a + c) l + (r * b + r * a) * npow b l.length := by
      rw [← evA_lin]; congr 1
      simp only [add_assoc, add_comm, add_left_comm, add_self_left]
    rw [evA_cons, evA_cons, quo, ev_cons, h1, ih (r * a + c), quo_length, mul_add, ← mul_add]
    simp only [mul_assoc, mul_comm, mul_left_comm, add_comm, add_left_comm]
end series

section roots
variable {F : Type} [Gf F]
open Ring2 Gf

/-- A polynomial of degree d that is not 0 has at most d roots. -/
theorem roots_le (xs : List F) (hn : xs.Nodup) (c : F) (hc : c ≠ 0) (l : List F) (h : ∀ x ∈ xs, ev (c :: l) x = 0) : xs.length ≤ l.length := by
  induction xs generalizing c l with
  | nil => simp
  | cons a xs ih =>
    cases l with
    | nil =>
      have := h a (by simp)
      rw [ev_cons] at this
      exact absurd (by simpa [npow, mul_one, ev, evA, add_zero] using this) hc
    | cons d l =>
      have ha : evA a c (d :: l) = 0 := by
        have := h a (by simp); unfold ev at this; rw [evA_cons, zero_mul, zero_add] at this; exact this
      have hq : ∀ x ∈ xs, ev (quo a c (d :: l)) x = 0 := by
        intro x hx
        have h1 := h x (by simp [hx])
        unfold ev at h1; rw [evA_cons, zero_mul, zero_add, quo_ev a x, ha, add_zero] at h1
        refine (mul_eq_zero h1).resolve_left fun e => ?_
        have : x = a := eq_of_add e
        exact (List.nodup_cons.1 hn).1 (this ▸ hx)
      have := ih (List.nodup_cons.1 hn).2 c hc (quo a (c * a + d) l) hq
      rw [quo_length] at this
      simp only [List.length_cons]; omega

/-- A series with a first coefficient but 0 can be struck. -/
theorem ps_cancel {f g : Ps F} (h0 : f 0 ≠ 0) (h : f * g = 0) : g = 0 := by
  have key : ∀ (n : Nat) (f : Ps F), (∀ m, m ≤ n → g m = 0) → (f * g) n = 0 := by
    intro n
    induction n with
    | zero => intro f hz; rw [ps_mul0, hz 0 (Nat.le_refl _), mul_zero]
    | succ n ih => intro f hz; rw [ps_mulS, hz (n + 1) (Nat.le_refl _), mul_zero, zero_add]; exact ih _ fun m hm => hz m (by omega)
  have all : ∀ n m, m ≤ n → g m = 0 := by
    intro n
    induction n with
    | zero =>
      intro m hm
      have : m = 0 := by omega
      subst this
      have := congrFun h 0; rw [ps_mul0, ps_zero] at this
      exact (mul_eq_zero this).resolve_left h0
    | succ n ih =>
      intro m hm
      by_cases e : m ≤ n
      · exact ih m e
      · have : m = n + 1 := by omega
        subst this
        have := congrFun h (n + 1); rw [ps_mulS, key n _ ih, ps_zero, add_zero] at this
        exact (mul_eq_zero this).resolve_left h0
  exact funext fun n => all n n (Nat.le_refl _)
end roots
end Rs
