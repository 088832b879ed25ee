/- Sums of lists of coefficients, aligned at their ends. -/
import Derived.Test.YtjgclomokekogaaAlg
namespace Rs
section
variable {F : Type} [Ring2 F]
open Ring2

/-- The sum of a shorter and a longer list, aligned at the ends. -/
def sumG (s l : List F) : List F := l.take (l.length - s.length) ++ List.zipWith (· + ·) s (l.drop (l.length - s.length))
theorem sumG_length (s l : List F) (h : s.length ≤ l.length) : (sumG s l).length = l.length := by simp [sumG]; omega
theorem sumG_take (s l : List F) : (sumG s l).take (l.length - s.length) = l.take (l.length - s.length) := by
  unfold sumG
  rw [List.take_append_of_le_length (by simp), List.take_take, Nat.min_self]
theorem sumG_get (s l : List F) (ld j : Nat) (hd : l.length = ld + s.length) (hj : j < s.length) : (sumG s l)[ld + j]'(by rw [sumG_length _ _ (by omega)]; omega) = s[j] + l[ld + j]'(by omega) := by
  have e : l.length - s.length = ld := by omega
  simp only [sumG, e]
  rw [List.getElem_append_right (by simp; omega)]
  simp [show min ld l.length = ld from by omega]
theorem ps_zipWith (a b : List F) (h : a.length = b.length) : ps (List.zipWith (· + ·) a b) = ps a + ps b := by
  induction a generalizing b with
  | nil => cases b with
    | nil => exact (add_zero _).symm
    | cons d b => simp at h
  | cons c a ih =>
    cases b with
    | nil => simp at h
    | cons d b =>
      simp only [List.length_cons, Nat.add_right_cancel_iff] at h
      simp only [List.zipWith_cons_cons, ps, ih b h]
      rw [List.length_zipWith, h, Nat.min_self, ← mon_add]
      simp only [add_assoc, add_left_comm]
theorem ps_sumG (s l : List F) (h : s.length ≤ l.length) : ps (sumG s l) = ps s + ps l := by
  unfold sumG
  have e := List.take_append_drop (l.length - s.length) l
  rw [ps_append, ps_zipWith _ _ (by simp; omega), List.length_zipWith, List.length_drop]
  rw [show min s.length (l.length - (l.length - s.length)) = (l.drop (l.length - s.length)).length from by simp; omega]
  conv => rhs; rw [← e, ps_append]
  simp only [add_left_comm]
theorem sum_facts (s l : List F) (ld : Nat) (hd : l.length = ld + s.length) : ∃ T : List F, ps T = ps s + ps l ∧ T.length = l.length ∧ T.take ld = l.take ld ∧
    ∀ j (h1 : j < s.length) (h2 : ld + j < l.length) (h3 : ld + j < T.length), s[j] + l[ld + j] = T[ld + j] := by
  refine ⟨sumG s l, ps_sumG _ _ (by omega), sumG_length _ _ (by omega), ?_, ?_⟩
  · have := sumG_take s l
    rwa [show l.length - s.length = ld from by omega] at this
  · intro j h1 h2 h3
    exact (sumG_get s l ld j hd h1).symm
/-- A list times an element. -/
theorem ps_map_mul (a : List F) (c : F) : ps (a.map (· * c)) = mon c 0 * ps a := by
  induction a with
  | nil => exact (mul_zero _).symm
  | cons d a ih =>
    simp only [List.map_cons, ps, ih]
    rw [mul_add, mon_mon, List.length_map, Nat.zero_add, mul_comm d c]
theorem ps_append_zeros (a : List F) (d : Nat) : ps (a ++ List.replicate d 0) = mon 1 d * ps a := by
  rw [ps_append, ps_zeros, List.length_replicate]; exact add_zero _
/-- A list times an element, with noughts behind it. -/
theorem ps_mono (a : List F) (c : F) (d : Nat) : ps (a.map (· * c) ++ List.replicate d 0) = mon c d * ps a := by
  rw [ps_append_zeros, ps_map_mul, ← mul_assoc, mon_mon, one_mul, Nat.add_zero]
theorem ps_build (c : F) (d : Nat) : ps (c :: List.replicate d 0) = mon c d := by
  simp only [ps, ps_zeros, List.length_replicate]; exact add_zero _
/-- The part of a polynomial that the first i coefficients of its list make. -/
def pre (a : List F) (i : Nat) : Ps F := mon 1 (a.length - i) * ps (a.take i)
theorem pre_zero (a : List F) : pre a 0 = 0 := by unfold pre; simp only [List.take_zero, ps]; exact mul_zero _
theorem pre_full (a : List F) : pre a a.length = ps a := by
  unfold pre
  rw [Nat.sub_self, List.take_length]; exact one_mul (ps a)
theorem pre_succ (a : List F) (i : Nat) (h : i < a.length) : pre a (i + 1) = pre a i + mon a[i] (a.length - 1 - i) := by
  unfold pre
  rw [List.take_succ_eq_append_getElem h, ps_append, ps_singleton, mul_add, ← mul_assoc, mon_mon, mon_mon, one_mul, one_mul]
  rw [show a.length - (i + 1) + [a[i]].length = a.length - i from by simp; omega, Nat.add_zero, show a.length - (i + 1) = a.length - 1 - i from by omega]
theorem ps_set (l : List F) (k : Nat) (v : F) (h : k < l.length) : ps (l.set k (l[k] + v)) = ps l + mon v (l.length - 1 - k) := by
  induction l generalizing k with
  | nil => simp at h
  | cons c l ih =>
    cases k with
    | zero =>
      simp only [List.set_cons_zero, ps, List.getElem_cons_zero, List.length_cons, Nat.add_sub_cancel, Nat.sub_zero]
      rw [← mon_add]; simp only [add_assoc, add_comm]
    | succ k =>
      have hk : k < l.length := by simpa using h
      simp only [List.set_cons_succ, ps, List.getElem_cons_succ, List.length_cons, Nat.add_sub_cancel]
      rw [ih k hk, List.length_set, show l.length - 1 - k = l.length - (k + 1) from by omega, add_assoc]
/-- One step of the product's inner loop. -/
theorem conv_step (a b acc : List F) (i j : Nat) (hi : i < a.length) (hj : j < b.length) (hl : acc.length = a.length + b.length - 1) (hk : i + j < acc.length)
    (h : ps acc = pre a i * ps b + mon a[i] (a.length - 1 - i) * pre b j) :
    ps (acc.set (i + j) (acc[i + j] + a[i] * b[j])) = pre a i * ps b + mon a[i] (a.length - 1 - i) * pre b (j + 1) := by
  rw [ps_set _ _ _ hk, h, pre_succ b j hj, mul_add, mon_mon, add_assoc, hl]
  rw [show a.length + b.length - 1 - 1 - (i + j) = a.length - 1 - i + (b.length - 1 - j) from by omega]
theorem conv_start (a b acc : List F) (i : Nat) (hi : i < a.length) (h : ps acc = pre a i * ps b) : ps acc = pre a i * ps b + mon a[i] (a.length - 1 - i) * pre b 0 := by
  rw [pre_zero, mul_zero, add_zero, h]
theorem conv_end (a b acc : List F) (i : Nat) (hi : i < a.length) (h : ps acc = pre a i * ps b + mon a[i] (a.length - 1 - i) * pre b b.length) : ps acc = pre a (i + 1) * ps b := by
  rw [pre_succ a i hi, add_mul, h, pre_full]
end
end Rs
