/- The package's exceptions, and its decoder made. -/
import Derived.Test.YtjgclomokekogaaDcm
namespace Go.Proofs.Ytjgclomokekogaa
open Go.RowKit Rs

/-- An exception. -/
def Exc (v : Value) : Prop := ∃ s : ByteArray, v = .iface 107 (.agg #[.string s])
set_option maxHeartbeats 1000000 in
theorem newexc_any (s : ByteArray) (hs : s.size ≤ 1000) (w : World) : Calls Try.prog 87 #[.string s] w fun e w' => (∃ v, e = .returned v ∧ Exc v) ∧ w' = w := by
  go_enter Try.func87, Try.ntmps87
  go_wp2
  go_ret
  exact ⟨⟨_, rfl, ⟨_, rfl⟩⟩, rfl⟩
set_option maxHeartbeats 1000000 in
theorem excerror_any (s : ByteArray) (w : World) : Calls Try.prog 107 #[.agg #[.string s]] w fun e w' => e = .returned (.string s) ∧ Below w.heap.size w w' := by
  go_enter Try.func107, Try.ntmps107
  go_wp2
  go_ret
  exact ⟨rfl, ((Below.refl _ _).alloc (Nat.le_refl _) _)⟩
set_option maxRecDepth 20000 in
set_option maxHeartbeats 1000000 in
theorem wrapexc_any (v : Value) (hv : Exc v) (w : World) : Calls Try.prog 79 #[v] w fun e w' => (∃ v, e = .returned v ∧ Exc v) ∧ Below w.heap.size w w' := by
  obtain ⟨s, rfl⟩ := hv
  have hm : ∀ w, (method 223 107 (.agg #[.string s]) "Error").run Try.prog w = .ok (107, .agg #[.string s]) w := fun _ => by kernel_rfl
  go_enter Try.func79, Try.ntmps79
  go_wp2_with (go_at_call 107; refine (excerror_any s _).mono ?_; rintro e w1 ⟨rfl, hb⟩)
  go_ret
  exact ⟨⟨_, rfl, _, rfl⟩, hb⟩
/-- A decoder at dd over the field at g. -/
def DAt (w : World) (dd g : Nat) : Prop := w.cell? ⟨dd, 0, none⟩ = some (.pointer (some ⟨g, 0, none⟩))
set_option maxHeartbeats 1000000 in
theorem newdec_any (g : Nat) (w : World) : Calls Try.prog 57 #[.pointer (some ⟨g, 0, none⟩)] w fun e w' => e = .returned (.pointer (some ⟨w.heap.size, 0, none⟩)) ∧ DAt w' w.heap.size g ∧ Below w.heap.size w w' := by
  go_enter Try.func57, Try.ntmps57
  go_wp2
  go_ret
  exact ⟨rfl, by unfold DAt; rw [World.cell?_alloc_at _ _ _ _ rfl]; rfl, ((Below.refl _ _).alloc (Nat.le_refl _) _)⟩
end Go.Proofs.Ytjgclomokekogaa
