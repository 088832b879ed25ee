/- Calling a function and reporting whether it neither failed nor panicked: where it does not panic. -/
import Derived.Test.YtjgclomokekogaaW15
import Derived.Defers
import Derived.Recover
import Derived.Laws.Pointers
namespace Go.Proofs.Ytjgclomokekogaa
open Go.RowKit Rs

theorem catch_idle (p : Addr) (w : World) :
    CallsD Try.prog 65 #[.pointer (some p)] .returning w fun e u' w' => e = .returned (.tuple #[]) ∧ u' = .returning ∧ w' = w := by
  refine callsD_of_wpS Try.func65 rfl fun c₀ cs hu => ?_
  apply wpS_seq
  apply wpS_region
  simp [wpOpsS, go_sem, recoverD, hu, Try.ntmps65, Exit.thenS]
  refine wpS_cond (t := false) (by simp [Act.eval, Array.replicate]) ?_
  simp only [Bool.false_eq_true, if_false]
  refine wpS_of_wp (wp_skip ?_)
  cases c₀
  simp_all [bodyPostS, results, Try.results65]

/-- A block of one bool. -/
def OneB (w : World) (b : Nat) (v : Bool) : Prop := w.heap[b]? = some (.cells #[.bool v] 4 (0, 0))
/-- What the call leaves: what the function left, and its answer in the result's cell. -/
def TryRes (w : World) (R : Bool → World → Prop) (e : Ending) (w' : World) : Prop :=
  ∃ (b : Bool) (w1 : World), e = .returned (.bool b) ∧ R b w1 ∧ w' = w1.setCell ⟨w.heap.size, 0, none⟩ (.bool b)

set_option maxHeartbeats 1000000 in
theorem try_any (K : FuncId) (caps : Array Value) (R : Bool → World → Prop) (w : World) (hrun : ∀ w, (callFunc K caps).run Try.prog w = .ok (.enter K caps) w)
    (hc : Calls Try.prog K caps (w.alloc (.cells #[.bool false] 4)) fun e w' => ∃ b, e = .returned (.bool b) ∧ R b w' ∧ OneB w' w.heap.size false) :
    Calls Try.prog 34 #[.func (.func K) #[] caps] w (TryRes w R) := by
  have hmf : ∀ (fn : Fn) (first cap : Array Value) (w : World), (Instr.makeFunc fn first cap).run Try.prog w = .ok (.func fn first cap) w := fun _ _ _ _ => rfl
  go_enter_defers Try.func34, Try.ntmps34
  go_wp2_with fail
  refine hc.mono ?_
  rintro e w1 ⟨b, rfl, hR, hO⟩
  have hx := cell_of_one hO
  have hf := free_of_one hO
  go_wp2_with fail
  refine leaves_cons (f := 65) (args := #[.pointer (some ⟨w.heap.size, 0, none⟩)]) (by simp) (by simp [go_sem]) ?_
  refine (catch_idle ⟨w.heap.size, 0, none⟩ _).mono ?_
  rintro e u' w'' ⟨rfl, rfl, rfl⟩
  have HF : TryRes w R (.returned (.bool b)) (w1.setCell ⟨w.heap.size, 0, none⟩ (.bool b)) := ⟨b, w1, rfl, hR, rfl⟩
  have hx2 : (w1.setCell ⟨w.heap.size, 0, none⟩ (.bool b)).cell? ⟨w.heap.size, 0, none⟩ = some (.bool b) := cell_of_one (one_setCell hO)
  simp [Leaves, settle, results, Try.results34, go_sem, hx2]
  exact HF
end Go.Proofs.Ytjgclomokekogaa
