/- The sample by which the statements see that the package answers. -/
import Derived.Test.YtjgclomokekogaaW19
namespace Go.Proofs.Ytjgclomokekogaa
open Go.RowKit Rs

/-- The answer of a statement's function. -/
def Yes (w : World) (e : Ending) (w' : World) : Prop := e = .returned (.bool true) ∧ Below w.heap.size w w'

theorem one_cells (w : World) : Cells (f := fp0) (w.alloc (.cells #[.int .i64 1] 3)) w.heap.size 0 [(1 : El fp0)] := fun k hk => by
  have hk0 : k = 0 := by simp at hk; omega
  subst hk0
  have h1 : ((1 : El fp0).val : Int) = 1 := by rw [El.one_val]; rfl
  simp [h1]
theorem head_one (w : World) (A : Nat) (chk : List (El fp0)) (r : List Value) (h : BlkR w A ([(1 : El fp0)] ++ chk) r) : w.cell? ⟨A, 0, none⟩ = some (.int .i64 1) := by
  have := row_at h 0 (.int .i64 1) (by simp [vs, El.one_val])
  exact this

set_option maxRecDepth 100000 in
set_option maxHeartbeats 4000000 in
theorem works_any (w : World) : Calls Try.prog 15 #[] w (Yes w) := by
  have hcall := fun w1 h => implenc_any 0 fp0 rfl w.heap.size 0 1 1 2 3 [(1 : El fp0)] w1 rfl (by omega) (by omega) rfl (by decide) h
  go_enter Try.func15, Try.ntmps15
  go_wp2_with (go_at_call 16; refine (hcall _ (one_cells w)).mono ?_; rintro e w2 ⟨A, cap, r, chk, rfl, hc1, hc2, hA, hb⟩; have hA0 := head_one w2 A chk r hA)
  have HF : Hid (Yes w (.returned (.bool true)) w2) := ⟨rfl, ((Below.refl _ w).alloc (Nat.le_refl _) _).trans (hb.mono (by simp))⟩
  clear hcall
  go_ret
  exact HF.out
end Go.Proofs.Ytjgclomokekogaa
