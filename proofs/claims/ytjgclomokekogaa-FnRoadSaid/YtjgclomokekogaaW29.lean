/- Equal lists; the check symbols are one. -/
import Derived.Test.YtjgclomokekogaaW28
namespace Go.Proofs.Ytjgclomokekogaa
open Go.RowKit Rs

/-- Two words with one and the same data are one. -/
theorem word_unique {f : FP} {ec : Nat} {data c1 c2 : List (El f)} (h1 : c1.length = ec) (h2 : c2.length = ec) (hw1 : Word f ec (data ++ c1)) (hw2 : Word f ec (data ++ c2)) : c1 = c2 := by
  obtain ⟨Q1, hQ1, e1⟩ := hw1
  obtain ⟨Q2, hQ2, e2⟩ := hw2
  rw [ps_append, h1] at e1
  rw [ps_append, h2] at e2
  have e : ps c1 + ps c2 = (Q1 + Q2) * gens f ec := by
    rw [add_mul, ← e1, ← e2]
    have : mon 1 ec * ps data + ps c1 + (mon 1 ec * ps data + ps c2) = ps c1 + ps c2 + (mon 1 ec * ps data + mon 1 ec * ps data) := by simp only [Ring2.add_assoc, Ring2.add_comm, add_left_comm]
    rw [this, Ring2.add_self, Ring2.add_zero]
  have hd : Dg (ps c1 + ps c2) ec := (h1 ▸ ps_dg c1).add (h2 ▸ ps_dg c2)
  refine ps_inj (by omega) (eq_of_add ?_)
  rcases (hQ1.add hQ2).top with hz | ⟨m, hm, hm'⟩
  · rw [e, hz, zero_mul]
  · have ht := top_mul hm' (gens_dg f ec)
    rw [gens_top, Ring2.mul_one, ← e, hd (m + ec) (by omega)] at ht
    exact absurd ht.symm hm

set_option maxHeartbeats 4000000 in
theorem same_any {f : FP} (v1 v2 : Value) (l : List (El f)) (w : World) (h1 : Elems w v1 l) (h2 : Elems w v2 l) : Calls Try.prog 17 #[v1, v2] w (Yes w) := by
  obtain ⟨b1, o1, c1, rfl, hl1, hm1, hc1⟩ := h1
  obtain ⟨b2, o2, c2, rfl, _, _, hc2⟩ := h2
  unfold maxLen at hm1
  have H1 := Lib.hid hc1
  have H2 := Lib.hid hc2
  clear hc1 hc2
  go_enter Try.func17, Try.ntmps17
  go_wp2
  go_loopw [5, 13] (fun _ x wr => ∃ k : Nat, k ≤ l.length ∧ x = .int .i64 (k : Int) ∧ Below w.heap.size w wr) (fun _ x _ => l.length - (intOf x).toNat)
  case atStart => exact ⟨0, by omega, rfl, Below.refl _ _⟩
  case round =>
    obtain ⟨k, hk, rfl, hb⟩ := hrel
    have hb' : ∀ n, Below w.heap.size w (wr.drewN n) := fun n => below_drewN hb n
    by_cases hlt : k < l.length
    · have hx1 := cell_later hb (H1.out k hlt)
      have hx2 := cell_later hb (H2.out k hlt)
      have hi0 : (0 : Int) ≤ (k : Int) := by omega
      have hi1 : (k : Int) < (l.length : Int) := by omega
      have HB := Lib.hid hb'
      clear hb'
      go_wp2_with fail
      go_quiet (fail)
      go_wp2
      go_roundw
      case rel => exact ⟨k + 1, by omega, by go_num, HB.out _⟩
      case measure => simp [intOf]; omega
    · go_wp2
      go_ret
      exact ⟨rfl, hb⟩

/-- An operation that is wanted. -/
theorem wpList_on {P : Program} {w : World} {ops : Array Oper} {rest : List Oper} {o : Oper} {a : Act} {Q : Exit → Act → World → Prop} (hw : Region.wanted o (yielded ops a.tmps) = true)
    (h : ∀ K : Act → World → Prop, (∀ a w, wpList P ops Q rest a w → K a w) → o.wp P a w K Q) : wpList P ops Q (o :: rest) a w :=
  wpList_step fun K hK => by rw [if_pos hw]; exact h K hK
/-- An append of elements, behind a guard too. -/
theorem append_on {f : FP} {w : World} {ops : Array Oper} {rest : List Oper} {o : Oper} {a : Act} {Q : Exit → Act → World → Prop} (s x : Operand)
    (hw : Region.wanted o (yielded ops a.tmps) = true) (ho : o.op = .call { callee := .builtin .append, args := #[s, x], argTypes := #[22, 22] })
    (base n : Nat) (v : Value) (xs : List (El f)) (hs : a.eval s = v) (hown : w.ownsRow base 3 1 v n (vs xs)) (b off m c : Nat) (l : List (El f))
    (hx : a.eval x = .slice (some ⟨b, off, none⟩) m c) (hm : l.length = m) (hl : Cells w b off l) (t : Nat) (ht : n + m = t) (h63 : t ≤ 100000) (h1 : 1 ≤ t) (hbase : base ≤ w.heap.size)
    (h : ∀ c' cap' w', w'.ownsRow base 3 1 (.slice (some ⟨c', 0, none⟩) t cap') t (vs (xs ++ l)) → w.grownBy w' v.ownBlock → wpList Try.prog ops Q rest (a.put o.dst (.slice (some ⟨c', 0, none⟩) t cap')) w') :
    wpList Try.prog ops Q (o :: rest) a w := by
  subst ht
  obtain ⟨i0, hi, hz0, hz1, hz2⟩ := info_parts Try.info3
  refine wpList_on hw fun K hK => wp_append_own w s x 22 ho base 3 i0 (.int .i64 0) 1 8 Try.underlying22 hi hz0 hz1 hz2 rfl (by decide) v n (vs xs) hs hown ⟨b, off, none⟩ m c (vs l) hx (by rw [vs_length, hm, Nat.mul_one]) (fun j u hj => cells_vs hl j u hj) (vs_one _) (by unfold maxLen; omega) (by omega) hbase ?_
  intro v' w' hown' hgrow _
  obtain ⟨c', cap', rfl, _⟩ := own_shape hown' (by omega)
  refine hK _ _ (h c' cap' w' ?_ hgrow)
  have e : vs (xs ++ l) = vs xs ++ vs l := by simp [vs]
  rw [e]; exact hown'
end Go.Proofs.Ytjgclomokekogaa
