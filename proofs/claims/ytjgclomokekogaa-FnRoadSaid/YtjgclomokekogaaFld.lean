/- The six fields of bar codes on plain numbers: doubling modulo the field's polynomial, products by shift and add, and the proof that these are fields of characteristic two whose elements but 0 are the powers of 2. -/
import Derived.Test.YtjgclomokekogaaAlg
namespace Rs

/-- Doubling: the number of elements is 2 to the m, the polynomial p. -/
def xt (m p a : Nat) : Nat := if 2 * a < 2 ^ m then 2 * a else 2 * a ^^^ p
/-- The product, by n bits of b. -/
def mulF (m p : Nat) : Nat → Nat → Nat → Nat
  | 0, _, _ => 0
  | n + 1, a, b => (if b % 2 = 1 then a else 0) ^^^ mulF m p n (xt m p a) (b / 2)
/-- The powers of 2. -/
def xpow (m p : Nat) : Nat → Nat
  | 0 => 1
  | n + 1 => xt m p (xpow m p n)
/-- A value first, then what is done with it. -/
def force {α : Type} (x : Nat) (k : Nat → α) : α := Nat.rec (k 0) (fun n _ => k (n + 1)) x
theorem force_eq {α : Type} (x : Nat) (k : Nat → α) : force x k = k x := by cases x <;> rfl
/-- The set of the first powers of 2, as a number's bits; whether a power but the first is 1; a power. -/
def seen (m p : Nat) : Nat → Nat → Nat → Nat
  | 0, _, s => s
  | n + 1, x, s => force (s ||| 1 <<< x) fun s' => force (xt m p x) fun x' => seen m p n x' s'
def back (m p : Nat) : Nat → Nat → Bool
  | 0, _ => false
  | n + 1, x => x == 1 || force (xt m p x) fun x' => back m p n x'
def iter (m p : Nat) : Nat → Nat → Nat
  | 0, x => x
  | n + 1, x => force (xt m p x) fun x' => iter m p n x'
/-- What is asked of m and p: all elements but 0 are powers of 2, and 2 to the number of those is 1, none before it. -/
structure Good (m p : Nat) : Prop where
  pos : 1 < m
  odd : p % 2 = 1
  lo : 2 ^ m ≤ p
  hi : p < 2 ^ (m + 1)
  all : seen m p (2 ^ m - 1) 1 0 = 2 ^ (2 ^ m) - 2
  one : iter m p (2 ^ m - 1) 1 = 1
  none : back m p (2 ^ m - 2) (xt m p 1) = false

theorem nat_xor_left_comm (a b c : Nat) : a ^^^ (b ^^^ c) = b ^^^ (a ^^^ c) := by
  rw [← Nat.xor_assoc, Nat.xor_comm a b, Nat.xor_assoc]
theorem nat_xor_mod (a b : Nat) : (a ^^^ b) % 2 = (a + b) % 2 := by
  have h := Nat.xor_mod_two_eq_one (a := a) (b := b)
  by_cases h1 : a % 2 = 1 <;> by_cases h2 : b % 2 = 1
  · have : ¬ (a ^^^ b) % 2 = 1 := fun e => h.1 e ⟨fun _ => h2, fun _ => h1⟩
    omega
  · have : (a ^^^ b) % 2 = 1 := h.2 fun e => h2 (e.1 h1)
    omega
  · have : (a ^^^ b) % 2 = 1 := h.2 fun e => h1 (e.2 h2)
    omega
  · have : ¬ (a ^^^ b) % 2 = 1 := fun e => h.1 e ⟨fun x => absurd x h1, fun x => absurd x h2⟩
    omega
theorem nat_xor_self_left (a b : Nat) : a ^^^ (a ^^^ b) = b := by rw [← Nat.xor_assoc, Nat.xor_self, Nat.zero_xor]

theorem xor_lt' {a b m : Nat} (ha : a < 2 ^ m) (hb : b < 2 ^ m) : a ^^^ b < 2 ^ m := Nat.xor_lt_two_pow ha hb

section
variable {m p : Nat} (G : Good m p)
include G

theorem Good.two : 2 ^ m = 2 * 2 ^ (m - 1) := by
  have := G.pos
  rw [← Nat.pow_succ']; congr 1; omega
theorem xt_lt {a : Nat} (ha : a < 2 ^ m) : xt m p a < 2 ^ m := by
  unfold xt
  split
  · assumption
  · rename_i h
    have hp := G.pos
    have h1 : (2 * a).testBit m = true := by
      have e : 2 * a = 2 ^ m * 1 + (2 * a - 2 ^ m) := by omega
      rw [e, Nat.testBit_two_pow_mul_add _ (by omega)]; simp
    have h2 : p.testBit m = true := by
      have e : p = 2 ^ m * 1 + (p - 2 ^ m) := by have := G.lo; omega
      have := G.hi; rw [Nat.pow_succ] at this
      rw [e, Nat.testBit_two_pow_mul_add _ (by omega)]; simp
    apply Nat.lt_pow_two_of_testBit
    intro i hi
    rw [Nat.testBit_xor]
    by_cases e : i = m
    · subst e; rw [h1, h2]; rfl
    · have a1 : (2 * a).testBit i = false := Nat.testBit_lt_two_pow (Nat.lt_of_lt_of_le (by rw [Nat.pow_succ]; omega : 2 * a < 2 ^ (m + 1)) (Nat.pow_le_pow_right (by omega) (by omega)))
      have a2 : p.testBit i = false := Nat.testBit_lt_two_pow (Nat.lt_of_lt_of_le G.hi (Nat.pow_le_pow_right (by omega) (by omega)))
      rw [a1, a2]; rfl
omit G in
theorem xt_xor {a b : Nat} (ha : a < 2 ^ m) (hb : b < 2 ^ m) : xt m p (a ^^^ b) = xt m p a ^^^ xt m p b := by
  have e2 : 2 * (a ^^^ b) = 2 * a ^^^ 2 * b := by
    have h := Nat.shiftLeft_xor_distrib (a := a) (b := b) (i := 1)
    simp only [Nat.shiftLeft_eq, Nat.pow_one] at h
    rw [Nat.mul_comm, h, Nat.mul_comm a, Nat.mul_comm b]
  have bit : ∀ c, c < 2 ^ m → (2 * c < 2 ^ m ↔ (2 * c).testBit m = false) := by
    intro c hc
    constructor
    · intro h; exact Nat.testBit_lt_two_pow h
    · intro h
      by_cases h' : 2 * c < 2 ^ m
      · exact h'
      · have e : 2 * c = 2 ^ m * 1 + (2 * c - 2 ^ m) := by omega
        rw [e, Nat.testBit_two_pow_mul_add _ (by omega)] at h; simp at h
  have hab := xor_lt' ha hb
  unfold xt
  have ba := bit a ha; have bb := bit b hb; have bc := bit _ hab
  rw [e2, Nat.testBit_xor] at bc
  rw [e2]
  by_cases h1 : 2 * a < 2 ^ m <;> by_cases h2 : 2 * b < 2 ^ m
  · rw [if_pos h1, if_pos h2, if_pos (bc.2 (by rw [ba.1 h1, bb.1 h2]; rfl))]
  · have h2' : (2 * b).testBit m = true := by simpa using fun e => h2 (bb.2 e)
    rw [if_pos h1, if_neg h2, if_neg (fun h => by have := bc.1 h; rw [ba.1 h1, h2'] at this; simp at this), Nat.xor_assoc]
  · have h1' : (2 * a).testBit m = true := by simpa using fun e => h1 (ba.2 e)
    rw [if_neg h1, if_pos h2, if_neg (fun h => by have := bc.1 h; rw [bb.1 h2, h1'] at this; simp at this), Nat.xor_assoc, Nat.xor_assoc, Nat.xor_comm (2 * b)]
  · have h1' : (2 * a).testBit m = true := by simpa using fun e => h1 (ba.2 e)
    have h2' : (2 * b).testBit m = true := by simpa using fun e => h2 (bb.2 e)
    rw [if_neg h1, if_neg h2, if_pos (bc.2 (by rw [h1', h2']; rfl)), Nat.xor_assoc, Nat.xor_comm p, Nat.xor_assoc, Nat.xor_self, Nat.xor_zero]
omit G in
theorem xt_zero : xt m p 0 = 0 := by unfold xt; rw [if_pos (by have := Nat.pow_pos (n := m) (a := 2) (by omega); omega)]
theorem xt_eq_zero {a : Nat} (h : xt m p a = 0) : a = 0 := by
  unfold xt at h
  split at h
  · omega
  · exfalso
    have := congrArg (fun n => n % 2) h
    simp only [nat_xor_mod] at this
    have := G.odd; omega
theorem xt_inj {a b : Nat} (ha : a < 2 ^ m) (hb : b < 2 ^ m) (h : xt m p a = xt m p b) : a = b := by
  have h1 : xt m p (a ^^^ b) = 0 := by rw [xt_xor ha hb, h, Nat.xor_self]
  have h2 := xt_eq_zero G h1
  have : a ^^^ (a ^^^ b) = a := by rw [h2, Nat.xor_zero]
  rw [← Nat.xor_assoc, Nat.xor_self, Nat.zero_xor] at this; exact this.symm
theorem mulF_lt (n : Nat) {a : Nat} (b : Nat) (ha : a < 2 ^ m) : mulF m p n a b < 2 ^ m := by
  induction n generalizing a b with
  | zero => exact Nat.pow_pos (by omega)
  | succ n ih =>
    unfold mulF
    refine xor_lt' ?_ (ih _ (xt_lt G ha))
    split
    · exact ha
    · exact Nat.pow_pos (by omega)
theorem mulF_xorl (n : Nat) {a a' : Nat} (b : Nat) (ha : a < 2 ^ m) (ha' : a' < 2 ^ m) : mulF m p n (a ^^^ a') b = mulF m p n a b ^^^ mulF m p n a' b := by
  induction n generalizing a a' b with
  | zero => simp [mulF]
  | succ n ih =>
    simp only [mulF]
    rw [xt_xor ha ha', ih _ (xt_lt G ha) (xt_lt G ha')]
    by_cases hb : b % 2 = 1
    · simp only [if_pos hb, Nat.xor_assoc, nat_xor_left_comm]
    · simp only [if_neg hb, Nat.zero_xor]
omit G in
theorem mulF_xorr (n : Nat) (a b b' : Nat) : mulF m p n a (b ^^^ b') = mulF m p n a b ^^^ mulF m p n a b' := by
  induction n generalizing a b b' with
  | zero => simp [mulF]
  | succ n ih =>
    simp only [mulF]
    have e : (b ^^^ b') / 2 = b / 2 ^^^ b' / 2 := by
      have := Nat.shiftRight_xor_distrib (a := b) (b := b') (i := 1)
      simpa [Nat.shiftRight_eq_div_pow] using this
    rw [e, ih, nat_xor_mod]
    rcases Nat.mod_two_eq_zero_or_one b with h | h <;> rcases Nat.mod_two_eq_zero_or_one b' with h' | h'
    · simp only [show (b + b') % 2 = 0 from by omega, h, h']; simp
    · simp only [show (b + b') % 2 = 1 from by omega, h, h']; simp [nat_xor_left_comm]
    · simp only [show (b + b') % 2 = 1 from by omega, h, h']; simp [Nat.xor_assoc]
    · simp only [show (b + b') % 2 = 0 from by omega, h, h']; simp [Nat.xor_assoc, nat_xor_left_comm, nat_xor_self_left]
theorem mulF_xt (n : Nat) {a : Nat} (b : Nat) (ha : a < 2 ^ m) : mulF m p n (xt m p a) b = xt m p (mulF m p n a b) := by
  induction n generalizing a b with
  | zero => exact (xt_zero).symm
  | succ n ih =>
    simp only [mulF]
    have h0 : (if b % 2 = 1 then a else 0) < 2 ^ m := by
      split
      · exact ha
      · exact Nat.pow_pos (by omega)
    rw [ih _ (xt_lt G ha), xt_xor h0 (mulF_lt G n _ (xt_lt G ha))]
    congr 1
    split
    · rfl
    · exact (xt_zero).symm
omit G in
theorem mulF_pow2 (n k b : Nat) (hb : b < 2 ^ n) (hn : n + k ≤ m) : mulF m p n (2 ^ k) b = b * 2 ^ k := by
  induction n generalizing k b with
  | zero => have : b = 0 := by simpa using hb
            subst this; simp [mulF]
  | succ n ih =>
    simp only [mulF]
    rw [Nat.pow_succ] at hb
    cases n with
    | zero =>
      have : b = 0 ∨ b = 1 := by omega
      rcases this with h | h <;> subst h <;> simp [mulF]
    | succ n =>
      have hx : xt m p (2 ^ k) = 2 ^ (k + 1) := by
        unfold xt
        rw [← Nat.pow_succ', if_pos (Nat.pow_lt_pow_right (by omega) (by omega))]
      rw [hx, ih (k + 1) (b / 2) (by omega) (by omega)]
      have hd := Nat.div_add_mod b 2
      rcases Nat.mod_two_eq_zero_or_one b with h | h
      · rw [if_neg (by omega), Nat.zero_xor, Nat.pow_succ, Nat.mul_comm (2 ^ k), ← Nat.mul_assoc]; congr 1; omega
      · rw [if_pos h]
        have e : b / 2 * 2 ^ (k + 1) = 2 ^ (k + 1) * (b / 2) := Nat.mul_comm _ _
        rw [e, Nat.xor_comm]
        have h3 := Nat.two_pow_add_eq_or_of_lt (i := k + 1) (b := 2 ^ k) (Nat.pow_lt_pow_right (by omega) (by omega)) (b / 2)
        have h4 : 2 ^ (k + 1) * (b / 2) ^^^ 2 ^ k = 2 ^ (k + 1) * (b / 2) ||| 2 ^ k := by
          apply Nat.eq_of_testBit_eq; intro i
          rw [Nat.testBit_xor, Nat.testBit_or, Nat.testBit_two_pow_mul, Nat.testBit_two_pow]
          by_cases e : k = i
          · subst e; simp
          · simp [e]
        rw [h4, ← h3, Nat.pow_succ]
        have : b = 2 * (b / 2) + 1 := by omega
        rw [show b * 2 ^ k = (2 * (b / 2) + 1) * 2 ^ k from by rw [← this], Nat.add_mul, Nat.one_mul, Nat.mul_comm (2 ^ k) 2, Nat.mul_right_comm]
omit G in
theorem mulF_one {b : Nat} (hb : b < 2 ^ m) : mulF m p m 1 b = b := by
  have := mulF_pow2 (m := m) (p := p) m 0 b hb (by omega); simpa using this
theorem xpow_lt (n : Nat) : xpow m p n < 2 ^ m := by
  induction n with
  | zero => exact Nat.one_lt_two_pow (by have := G.pos; omega)
  | succ n ih => exact xt_lt G ih
theorem mulF_xpow (i : Nat) {b : Nat} (hb : b < 2 ^ m) : mulF m p m (xpow m p i) b = Nat.repeat (xt m p) i b := by
  induction i with
  | zero => exact mulF_one hb
  | succ i ih => rw [xpow, mulF_xt G _ _ (xpow_lt G i), ih]; rfl
omit G in
theorem rep_xpow (i j : Nat) : Nat.repeat (xt m p) i (xpow m p j) = xpow m p (i + j) := by
  induction i with
  | zero => simp [Nat.repeat]
  | succ i ih => rw [show i + 1 + j = i + j + 1 from by omega, xpow, ← ih]; rfl
theorem xpow_mul (i j : Nat) : mulF m p m (xpow m p i) (xpow m p j) = xpow m p (i + j) := by
  rw [mulF_xpow G i (xpow_lt G j), rep_xpow]
omit G in
theorem seen_bit (n x s i : Nat) : (seen m p n x s).testBit i = true ↔ s.testBit i = true ∨ ∃ k, k < n ∧ Nat.repeat (xt m p) k x = i := by
  induction n generalizing x s with
  | zero => simp [seen]
  | succ n ih =>
    rw [seen, force_eq, force_eq, ih, Nat.testBit_or, Nat.testBit_shiftLeft]
    have hs : ∀ k, Nat.repeat (xt m p) k (xt m p x) = Nat.repeat (xt m p) (k + 1) x := by
      intro k
      induction k with
      | zero => rfl
      | succ k ih => rw [Nat.repeat, ih]; rfl
    constructor
    · rintro (h | ⟨k, hk, h⟩)
      · rcases Bool.or_eq_true_iff.1 h with h | h
        · exact Or.inl h
        · refine Or.inr ⟨0, by omega, ?_⟩
          simp only [Bool.and_eq_true, decide_eq_true_eq] at h
          have h1 : i - x = 0 := by
            by_cases e : i - x = 0
            · exact e
            · exfalso
              have h2 : (1 : Nat).testBit (i - x) = true := h.2
              rw [Nat.testBit_one_eq_true_iff_self_eq_zero] at h2; omega
          show x = i; omega
      · exact Or.inr ⟨k + 1, by omega, by rw [← hs]; exact h⟩
    · rintro (h | ⟨k, hk, h⟩)
      · exact Or.inl (by rw [h]; rfl)
      · cases k with
        | zero => refine Or.inl ?_; have e : x = i := h; subst e; simp
        | succ k => exact Or.inr ⟨k, by omega, by rw [hs]; exact h⟩
omit G in
theorem rep_one (k : Nat) : Nat.repeat (xt m p) k 1 = xpow m p k := rep_xpow k 0
/-- Each element but 0 is a power of 2. -/
theorem xpow_all {a : Nat} (ha : a < 2 ^ m) (h0 : a ≠ 0) : ∃ k, k < 2 ^ m - 1 ∧ xpow m p k = a := by
  have h : (seen m p (2 ^ m - 1) 1 0).testBit a = true := by
    rw [G.all]
    have e : 2 ^ 2 ^ m - 2 = 2 * (2 ^ (2 ^ m - 1) - 1) := by
      have : 2 ^ 2 ^ m = 2 * 2 ^ (2 ^ m - 1) := by rw [← Nat.pow_succ']; congr 1; have := Nat.pow_pos (n := m) (a := 2) (by omega); omega
      omega
    rw [e, show (2 * (2 ^ (2 ^ m - 1) - 1)) = 2 ^ 1 * (2 ^ (2 ^ m - 1) - 1) from by rw [Nat.pow_one], Nat.testBit_two_pow_mul, Nat.testBit_two_pow_sub_one]
    simp; omega
  rcases (seen_bit _ _ _ _).1 h with h | ⟨k, hk, h⟩
  · simp at h
  · exact ⟨k, hk, by rw [← rep_one]; exact h⟩
theorem xpow_ne (k : Nat) : xpow m p k ≠ 0 := by
  induction k with
  | zero => simp [xpow]
  | succ k ih => exact fun h => ih (xt_eq_zero G h)
omit G in
theorem back_of (n x k : Nat) (hk : k < n) (h : Nat.repeat (xt m p) k x = 1) : back m p n x = true := by
  induction n generalizing x k with
  | zero => omega
  | succ n ih =>
    cases k with
    | zero => have e : x = 1 := h
              subst e; rfl
    | succ k =>
      rw [back, force_eq, ih (xt m p x) k (by omega)]
      · simp
      · rw [← h]
        clear ih h hk
        induction k with
        | zero => rfl
        | succ k ih => rw [Nat.repeat, ih]; rfl
theorem xpow_ne_one {k : Nat} (h0 : 0 < k) (hk : k < 2 ^ m - 1) : xpow m p k ≠ 1 := by
  intro h
  have := back_of (m := m) (p := p) (2 ^ m - 2) (xt m p 1) (k - 1) (by omega) (by
    have e : xt m p 1 = xpow m p 1 := rfl
    rw [e, rep_xpow, show k - 1 + 1 = k from by omega]; exact h)
  rw [G.none] at this; simp at this
theorem xpow_inj {i j : Nat} (hi : i < 2 ^ m - 1) (hj : j < 2 ^ m - 1) (h : xpow m p i = xpow m p j) : i = j := by
  have key : ∀ i d : Nat, xpow m p (i + d) = xpow m p i → xpow m p d = 1 := by
    intro i
    induction i with
    | zero => intro d h; rw [Nat.zero_add] at h; rw [h]; rfl
    | succ i ih =>
      intro d h
      refine ih d (xt_inj G (xpow_lt G _) (xpow_lt G _) ?_)
      rw [show i + 1 + d = i + d + 1 from by omega] at h; exact h
  rcases Nat.lt_trichotomy i j with hlt | he | hlt
  · exact absurd (key i (j - i) (by rw [show i + (j - i) = j from by omega]; exact h.symm)) (xpow_ne_one G (by omega) (by omega))
  · exact he
  · exact absurd (key j (i - j) (by rw [show j + (i - j) = i from by omega]; exact h)) (xpow_ne_one G (by omega) (by omega))
end

/-- A field's parameters: 2 to the m elements, the polynomial, the power of the first root; with the proof that they make a field. -/
structure FP where
  m : Nat
  p : Nat
  base : Nat
  good : Good m p
  small : m ≤ 12
  base_le : base ≤ 1
/-- How many elements. -/
def FP.size (f : FP) : Nat := 2 ^ f.m
theorem FP.size_pos (f : FP) : 4 ≤ f.size := by
  have := Nat.pow_le_pow_right (n := 2) (by omega) (show 2 ≤ f.m from f.good.pos)
  exact this
theorem FP.size_le (f : FP) : f.size ≤ 4096 := by
  have := Nat.pow_le_pow_right (n := 2) (by omega) f.small
  exact this
/-- An element. -/
structure El (f : FP) where
  val : Nat
  lt : val < f.size
theorem El.ext {f : FP} {a b : El f} (h : a.val = b.val) : a = b := by
  cases a; cases b; simp at h; subst h; rfl
instance (f : FP) : DecidableEq (El f) := fun a b => if h : a.val = b.val then isTrue (El.ext h) else isFalse (fun e => h (by rw [e]))
def El.mulV (f : FP) (a b : Nat) : Nat := mulF f.m f.p f.m a b
instance (f : FP) : Add (El f) := ⟨fun a b => ⟨a.val ^^^ b.val, xor_lt' a.lt b.lt⟩⟩
instance (f : FP) : Mul (El f) := ⟨fun a b => ⟨El.mulV f a.val b.val, mulF_lt f.good _ _ a.lt⟩⟩
instance (f : FP) : Zero (El f) := ⟨⟨0, Nat.pow_pos (by omega)⟩⟩
instance (f : FP) : One (El f) := ⟨⟨1, by have := f.size_pos; omega⟩⟩
theorem El.add_val {f : FP} (a b : El f) : (a + b).val = a.val ^^^ b.val := rfl
theorem El.mul_val {f : FP} (a b : El f) : (a * b).val = El.mulV f a.val b.val := rfl
theorem El.zero_val {f : FP} : (0 : El f).val = 0 := rfl
theorem El.one_val {f : FP} : (1 : El f).val = 1 := rfl
/-- The powers of 2, as elements; their logarithms. -/
def El.exp (f : FP) (i : Nat) : El f := ⟨xpow f.m f.p i, xpow_lt f.good i⟩
theorem El.exp_ne (f : FP) (i : Nat) : El.exp f i ≠ 0 := fun h => xpow_ne f.good i (congrArg El.val h)
theorem El.exp_all {f : FP} {a : El f} (h : a ≠ 0) : ∃ k, k < f.size - 1 ∧ El.exp f k = a := by
  obtain ⟨k, hk, e⟩ := xpow_all f.good a.lt (fun e => h (El.ext e))
  exact ⟨k, hk, El.ext e⟩
theorem El.exp_inj {f : FP} {i j : Nat} (hi : i < f.size - 1) (hj : j < f.size - 1) (h : El.exp f i = El.exp f j) : i = j :=
  xpow_inj f.good hi hj (congrArg El.val h)
theorem El.exp_mul (f : FP) (i j : Nat) : El.exp f i * El.exp f j = El.exp f (i + j) := El.ext (xpow_mul f.good i j)
theorem El.exp_zero (f : FP) : El.exp f 0 = 1 := rfl
theorem iter_eq (m p n x : Nat) : iter m p n x = Nat.repeat (xt m p) n x := by
  induction n generalizing x with
  | zero => rfl
  | succ n ih =>
    rw [iter, force_eq, ih]
    clear ih
    induction n with
    | zero => rfl
    | succ n ih => rw [Nat.repeat, ih]; rfl
theorem El.exp_full (f : FP) : El.exp f (f.size - 1) = 1 := El.ext (by
  show xpow f.m f.p (2 ^ f.m - 1) = 1
  rw [← rep_one, ← iter_eq]; exact f.good.one)
theorem El.exp_mod (f : FP) (i : Nat) : El.exp f (i % (f.size - 1)) = El.exp f i := by
  have key : ∀ q r, El.exp f (r + (f.size - 1) * q) = El.exp f r := by
    intro q r
    induction q with
    | zero => rfl
    | succ q ih =>
      rw [Nat.mul_succ, ← Nat.add_assoc, ← El.exp_mul, ih, El.exp_full]
      exact (by
        apply El.ext; rw [El.mul_val]
        have h := xpow_mul f.good r 0
        simpa [El.exp, El.mulV, El.one_val, xpow] using h)
  have := key (i / (f.size - 1)) (i % (f.size - 1))
  rw [Nat.mod_add_div] at this; exact this.symm
open Classical in
/-- The logarithm (of 0: 0). -/
noncomputable def El.log {f : FP} (a : El f) : Nat := if h : a ≠ 0 then (El.exp_all h).choose else 0
theorem El.log_lt {f : FP} (a : El f) : a.log < f.size - 1 := by
  unfold El.log
  split
  · rename_i h; exact (El.exp_all h).choose_spec.1
  · have := f.size_pos; omega
theorem El.exp_log {f : FP} {a : El f} (h : a ≠ 0) : El.exp f a.log = a := by
  unfold El.log; rw [dif_pos h]; exact (El.exp_all h).choose_spec.2
theorem El.log_exp {f : FP} {i : Nat} (h : i < f.size - 1) : (El.exp f i).log = i :=
  El.exp_inj (El.log_lt _) h (El.exp_log (El.exp_ne f i))
theorem El.mul_one' {f : FP} (a : El f) : a * 1 = a := by
  by_cases h : a = 0
  · subst h
    have e : (0 : El f) * 1 = 0 := by
      apply El.ext; rw [El.mul_val, El.zero_val]
      have := mulF_xorl f.good f.m (a := 0) (a' := 0) 1 (Nat.pow_pos (by omega)) (Nat.pow_pos (by omega))
      rw [Nat.xor_self, Nat.xor_self] at this; exact this
    exact e
  · rw [← El.exp_log h, ← El.exp_zero, El.exp_mul]; rfl
theorem El.zero_mul' {f : FP} (a : El f) : 0 * a = 0 := by
  apply El.ext; rw [El.mul_val, El.zero_val]
  have := mulF_xorl f.good f.m (a := 0) (a' := 0) a.val (Nat.pow_pos (by omega)) (Nat.pow_pos (by omega))
  rw [Nat.xor_self, Nat.xor_self] at this; exact this
theorem El.mul_zero' {f : FP} (a : El f) : a * 0 = 0 := by
  apply El.ext; rw [El.mul_val, El.zero_val]
  have := mulF_xorr (m := f.m) (p := f.p) f.m a.val 0 0
  rw [Nat.xor_self, Nat.xor_self] at this; exact this
theorem El.mul_comm' {f : FP} (a b : El f) : a * b = b * a := by
  by_cases ha : a = 0
  · subst ha; rw [El.zero_mul', El.mul_zero']
  by_cases hb : b = 0
  · subst hb; rw [El.zero_mul', El.mul_zero']
  rw [← El.exp_log ha, ← El.exp_log hb, El.exp_mul, El.exp_mul, Nat.add_comm]
theorem El.mul_assoc' {f : FP} (a b c : El f) : a * b * c = a * (b * c) := by
  by_cases ha : a = 0
  · subst ha; rw [El.zero_mul', El.zero_mul', El.zero_mul']
  by_cases hb : b = 0
  · subst hb; rw [El.zero_mul', El.mul_zero', El.zero_mul']
  by_cases hc : c = 0
  · subst hc; rw [El.mul_zero', El.mul_zero', El.mul_zero']
  rw [← El.exp_log ha, ← El.exp_log hb, ← El.exp_log hc, El.exp_mul, El.exp_mul, El.exp_mul, El.exp_mul, Nat.add_assoc]
/-- The inverse. -/
noncomputable def El.inv {f : FP} (a : El f) : El f := El.exp f (f.size - 1 - a.log)
noncomputable instance (f : FP) : Gf (El f) where
  add_assoc a b c := El.ext (Nat.xor_assoc _ _ _)
  add_comm a b := El.ext (Nat.xor_comm _ _)
  add_zero a := El.ext (Nat.xor_zero _)
  add_self a := El.ext (Nat.xor_self _)
  mul_assoc := El.mul_assoc'
  mul_comm := El.mul_comm'
  mul_one := El.mul_one'
  mul_add a b c := El.ext (mulF_xorr _ _ _ _)
  inv := El.inv
  mul_inv a h := by
    have h1 : El.exp f a.log * El.exp f (f.size - 1 - a.log) = 1 := by
      rw [El.exp_mul, show a.log + (f.size - 1 - a.log) = f.size - 1 from by have := El.log_lt a; omega, El.exp_full]
    rw [El.exp_log h] at h1; exact h1
  one_ne h := by have := congrArg El.val h; simp [El.one_val, El.zero_val] at this
theorem El.inv_eq {f : FP} (a : El f) : Gf.inv a = El.exp f (f.size - 1 - a.log) := rfl
theorem El.exp_npow (f : FP) (i : Nat) : El.exp f i = npow (El.exp f 1) i := by
  induction i with
  | zero => rfl
  | succ i ih => rw [npow, ← ih, El.exp_mul]
/-- The product by logarithms, as a table gives it. -/
theorem El.mul_log {f : FP} {a b : El f} (ha : a ≠ 0) (hb : b ≠ 0) : a * b = El.exp f ((a.log + b.log) % (f.size - 1)) := by
  rw [El.exp_mod, ← El.exp_mul, El.exp_log ha, El.exp_log hb]

def fp0 : FP := ⟨8, 0x11d, 0, ⟨by decide, by decide, by decide, by decide, by decide +kernel, by decide +kernel, by decide +kernel⟩, by decide, by decide⟩
def fp1 : FP := ⟨8, 0x12d, 1, ⟨by decide, by decide, by decide, by decide, by decide +kernel, by decide +kernel, by decide +kernel⟩, by decide, by decide⟩
def fp2 : FP := ⟨4, 0x13, 1, ⟨by decide, by decide, by decide, by decide, by decide +kernel, by decide +kernel, by decide +kernel⟩, by decide, by decide⟩
def fp3 : FP := ⟨6, 0x43, 1, ⟨by decide, by decide, by decide, by decide, by decide +kernel, by decide +kernel, by decide +kernel⟩, by decide, by decide⟩
def fp4 : FP := ⟨10, 0x409, 1, ⟨by decide, by decide, by decide, by decide, by decide +kernel, by decide +kernel, by decide +kernel⟩, by decide, by decide⟩
def fp5 : FP := ⟨12, 0x1069, 1, ⟨by decide, by decide, by decide, by decide, by decide +kernel, by decide +kernel, by decide +kernel⟩, by decide, by decide⟩
end Rs
