/- Copies of slices. -/
import Derived.Test.YtjgclomokekogaaW17
import Derived.Test.YtjgclomokekogaaApz
namespace Go.Proofs.Ytjgclomokekogaa
open Go.RowKit Rs

/-- What a copy is good for. -/
def CloneRes (w : World) (n : Nat) (xs : List Value) (e : Ending) (w' : World) : Prop :=
  ∃ A cap', e = .returned (.slice (some ⟨A, 0, none⟩) n cap') ∧ w'.ownsRow w.heap.size 3 1 (.slice (some ⟨A, 0, none⟩) n cap') n xs ∧ Below w.heap.size w w'
theorem ints_news {w : World} {b off : Nat} {l : List Int} (hl : ∀ j (hj : j < l.length), w.cell? ⟨b, off + j, none⟩ = some (.int .i64 l[j])) (o : Obj) :
    ∀ j u, (l.map (Value.int .i64))[j]? = some u → (w.alloc o).cell? ((⟨b, off, none⟩ : Addr).add j) = some u := by
  intro j u hj
  obtain ⟨h1, h2⟩ := List.getElem?_eq_some_iff.1 hj
  rw [List.length_map] at h1
  rw [List.getElem_map] at h2
  have h3 := cell_later ((Below.refl w.heap.size w).alloc (Nat.le_refl _) o) (hl j h1)
  rw [← h2]
  by_cases e : j = 0
  · subst e; simpa [Addr.add] using h3
  · simpa [Addr.add, e] using h3
theorem ints_one (l : List Int) : ∀ u ∈ l.map (Value.int .i64), u.oneCell' = true := by
  intro v hv
  obtain ⟨a, _, rfl⟩ := List.mem_map.1 hv; rfl

set_option maxHeartbeats 1000000 in
theorem clone_any (b off n cap : Nat) (l : List Int) (w : World) (hn : l.length = n) (h1 : 1 ≤ n) (hm : n ≤ 100000) (hl : ∀ j (hj : j < l.length), w.cell? ⟨b, off + j, none⟩ = some (.int .i64 l[j])) :
    Calls Try.prog 33 #[.slice (some ⟨b, off, none⟩) n cap] w (CloneRes w n (l.map (.int .i64))) := by
  have hnil := @Lib.run_eql_slice_nil
  have hown0 := World.ownsRow_lit (base := w.heap.size) (e := 3) (size := 1) w #[] 0 (Nat.le_refl _) (by unfold maxLen; omega) rfl
  have hnews := Lib.hid (ints_news hl (.cells #[] 3))
  have hlen : Hid ((l.map (Value.int .i64)).length = n * 1) := by rw [Nat.mul_one]; show _ = _; rw [List.length_map, hn]
  clear hl hn
  obtain ⟨i0, hi, hz0, hz1, hz2⟩ := info_parts Try.info3
  go_enter Try.func33, Try.ntmps33
  go_wp2_with (at_builtin; refine wpList_append_own _ rfl _ _ 22 rfl w.heap.size 3 i0 (.int .i64 0) 1 8 Try.underlying22 hi hz0 hz1 hz2 rfl (by decide) _ 0 [] rfl hown0 ⟨b, off, none⟩ n cap (l.map (Value.int .i64)) rfl hlen.out hnews.out (ints_one l) (by unfold maxLen; omega) (by omega) (by simp) ?_; intro v' w1 hown' hgrow _; obtain ⟨c', cap', hv, hc1, hc2, hc3⟩ := own_shape hown' (by omega))
  subst hv
  rw [Nat.zero_add] at hown'
  go_ret
  have hg : (w.alloc (.cells #[] 3)).grownBy w1 (some w.heap.size) := hgrow
  exact ⟨c', cap', rfl, hown', ((Below.refl _ _).alloc (Nat.le_refl _) _).grown hg (by simp) (fun k hk => by simp at hk; omega)⟩
end Go.Proofs.Ytjgclomokekogaa
