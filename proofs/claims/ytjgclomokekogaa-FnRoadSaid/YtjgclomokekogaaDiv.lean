/- One step of a division of polynomials lowers the rest. -/
import Derived.Test.YtjgclomokekogaaMem
import Derived.Test.YtjgclomokekogaaPol
import Derived.Test.YtjgclomokekogaaW5
namespace Go.Proofs.Ytjgclomokekogaa
open Rs

/-- How great a rest is: its length, 0 for 0. -/
def meas {f : FP} (l : List (El f)) : Nat := if l = [0] then 0 else l.length
theorem nf_len {f : FP} {l : List (El f)} (h : Nf l) {d : Nat} (hd : Dg (ps l) d) : (l.length ≤ d ∨ l = [0]) := by
  obtain ⟨c, t, rfl, h1⟩ := h
  by_cases hlt : t.length < d
  · exact Or.inl (by simp; omega)
  · refine Or.inr ?_
    have hc : c = 0 := by rw [← ps_head c t]; exact hd _ (by omega)
    rcases h1 with rfl | h1
    · rw [hc]
    · exact absurd hc h1
theorem meas_le {f : FP} {l : List (El f)} (h : Nf l) {d : Nat} (hd : Dg (ps l) d) : meas l ≤ d := by
  unfold meas
  rcases nf_len h hd with h | h
  · split
    · omega
    · exact h
  · rw [if_pos h]; omega
theorem top_ne {f : FP} {l : List (El f)} (h : Nf l) (hz : l ≠ [0]) : ps l (l.length - 1) ≠ 0 := by
  obtain ⟨c, t, rfl, h1⟩ := h
  rw [show (c :: t).length - 1 = t.length from by simp, ps_head]
  rcases h1 with rfl | h1
  · exact fun e => hz (by rw [e])
  · exact h1
theorem meas_pos {f : FP} {l : List (El f)} (hz : l ≠ [0]) : meas l = l.length := by unfold meas; rw [if_neg hz]
/-- The rest with its head struck. -/
theorem div_less {f : FP} {R b R' : List (El f)} {dd : Nat} {s : El f} (hR : Nf R) (hRz : R ≠ [0]) (hb : Nf b) (hbz : b ≠ [0]) (hl : R.length = b.length + dd)
    (hs : s = ps R (R.length - 1) * Gf.inv (ps b (b.length - 1))) (hR' : Nf R') (h : ps R' = ps R + mon s dd * ps b) : meas R' < meas R := by
  have hbp := hb.pos
  have hRp := hR.pos
  have hd : Dg (ps R') (R.length - 1) := by
    intro n hn
    rw [h, ps_add, mon_mul, if_neg (by omega)]
    by_cases e : n = R.length - 1
    · rw [e, hs, show R.length - 1 - dd = b.length - 1 from by omega, Ring2.mul_assoc, inv_mul _ (top_ne hb hbz), Ring2.mul_one, Ring2.add_self]
    · rw [ps_dg R n (by omega), ps_dg b (n - dd) (by omega), mul_zero, Ring2.add_zero]
  have := meas_le hR' hd
  rw [meas_pos hRz]; omega
theorem div_eq {f : FP} {A B : Ps (El f)} {Q R Q' R' m : Ps (El f)} (h : A = Q * B + R) (hQ : Q' = Q + m) (hR : R' = R + m * B) : A = Q' * B + R' := by
  rw [hQ, hR, add_mul, h]
  simp only [Ring2.add_comm, add_left_comm, Ring2.add_self, Ring2.add_zero]
theorem div_start {f : FP} (A B : Ps (El f)) : A = 0 * B + A := by rw [zero_mul, zero_add]
theorem div_scale {f : FP} {R b : List (El f)} {nr nb : Nat} (hR : R.length = nr + 1) (hb : b.length = nb + 1) : ps R nr * Gf.inv (ps b nb) = ps R (R.length - 1) * Gf.inv (ps b (b.length - 1)) := by
  rw [hR, hb, Nat.add_sub_cancel, Nat.add_sub_cancel]
theorem isZ_false {f : FP} {l : List (El f)} (h : isZ l = false) : l ≠ [0] := by
  unfold isZ at h; simpa using h
theorem isZ_true {f : FP} {l : List (El f)} (h : isZ l = true) : l = [0] := by
  unfold isZ at h; simpa using h
end Go.Proofs.Ytjgclomokekogaa
