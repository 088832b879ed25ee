/- Noughts appended to a row of the call's own: 'append(x, make([]int, n)...)' as the program has it. -/
import Derived.Test.YtjgclomokekogaaBlr
import Derived.Laws.AppendOwn
namespace Go.Proofs.Ytjgclomokekogaa
open Go.RowKit Rs

theorem zeroCells_one (m : Nat) : (Builtin.zeroCells #[Value.int .i64 0] m).toList = List.replicate m (.int .i64 0) := by
  apply List.ext_getElem
  · simp [Builtin.zeroCells]
  · intro i h1 h2
    simp [Builtin.zeroCells, Nat.mod_one]
theorem run_append_zeros (w : World) (base g n cap m : Nat) (xs : List Value) (hown : w.ownsRow base 3 1 (.slice (some ⟨g, 0, none⟩) n cap) n xs) (hm : 1 ≤ m) (hs : n + m ≤ 100000) (hbase : base ≤ w.heap.size) :
    ∃ g' cap' w', (Builtin.append_ #[22, 3] 22 #[.slice (some ⟨g, 0, none⟩) n cap, .int .i64 (m : Int)]).run Try.prog w = .ok (.slice (some ⟨g', 0, none⟩) (n + m) cap') w' ∧
      w'.ownsRow base 3 1 (.slice (some ⟨g', 0, none⟩) (n + m) cap') (n + m) (xs ++ List.replicate m (.int .i64 0)) ∧ w.grownBy w' (some g) := by
  obtain ⟨i0, hi, hz0, hz1, hz2⟩ := info_parts Try.info3
  have hlen : (xs ++ List.replicate m (Value.int .i64 0)).length = (n + m) * 1 := by rw [List.length_append, hown.1, List.length_replicate]; omega
  have hw : IntKind.i64.wrap (m : Int) = (m : Int) := wrap_i64_nat m (by omega)
  have h0 : ¬ (m : Int) < 0 := by omega
  have hb : ¬ (281474976710656 : Int) < (m : Int) * 8 := by omega
  have hm0 : ¬ m = 0 := by omega
  have hfull := hown
  rcases hown.2 with ⟨h, _⟩ | ⟨g', cap', cur, h, hbg, hg, hnc, hcm, hcs, htake⟩
  · simp at h
  simp only [Value.slice.injEq, Option.some.injEq, Addr.mk.injEq, and_true, true_and] at h
  obtain ⟨rfl, rfl⟩ := h
  by_cases hroom : n + m ≤ cap
  · have hst := run_storeCells_at Try.prog g n 3 (List.replicate m (Value.int .i64 0)) 0 cur w hg (by simp; omega) (by intro v hv; rw [List.eq_of_mem_replicate hv]; rfl)
    simp only [Nat.add_zero] at hst
    have hr : (Builtin.append_ #[22, 3] 22 #[.slice (some ⟨g, 0, none⟩) n cap, .int .i64 (m : Int)]).run Try.prog w = .ok (.slice (some ⟨g, 0, none⟩) (n + m) cap) (w.setRow g (cur.toList.take n ++ List.replicate m (Value.int .i64 0) ++ cur.toList.drop (n + m)).toArray) := by
      simp [Builtin.append_, run_underlying Try.underlying22, run_underlying Try.underlying3, sizeOf, typeInfo, zeroValue, hi, hz0, hz1, hz2, asInt, asIntOf, hw, hroom, Addr.add_lit, Value.cells, zeroCells_one, hst, hb, h0, hm0]
    refine ⟨g, cap, _, hr, ⟨hlen, .inr ⟨g, cap, _, rfl, hbg, setRow_heap w g cur _ 3 _ hg, hroom, hcm, ?_, ?_⟩⟩, ⟨rfl, rfl, rfl, by simp, fun k _ hk => setRow_other w g k _ (fun e => hk (by simp [e]))⟩⟩
    · simp only [List.size_toArray, List.length_append, List.length_take, List.length_drop, Array.length_toList, List.length_replicate]
      omega
    · have ht : cur.toList.take n = xs := by rw [← htake, Nat.mul_one]
      rw [ht, ← hlen]
      exact List.take_left
  · have hns : n + m ≤ 100000 := hs
    have hnc2 : ¬ (281474976710656 < Builtin.nextslicecap (n + m) cap * 8) := by
      have := growslice_fits (bytes := 8) (show cap < n + m from by omega) (show (n + m) * 8 ≤ 140737488355328 from by omega)
      omega
    have h63 : ¬ (9223372036854775807 : Int) < (n : Int) + (m : Int) := by omega
    have hfo := run_firstCells_some (P := Try.prog) w.drew 1 n ⟨g, 0, none⟩ n cap xs (by rw [hown.1]) (by simpa using hown.cells (g := g) rfl)
    have hr : (Builtin.append_ #[22, 3] 22 #[.slice (some ⟨g, 0, none⟩) n cap, .int .i64 (m : Int)]).run Try.prog w = .ok (.slice (some ⟨w.heap.size, 0, none⟩) (n + m) (grownCap w (n + m) cap 3))
        (w.drew.alloc (.cells (xs.toArray ++ (List.replicate m (Value.int .i64 0)).toArray ++ Builtin.zeroCells #[.int .i64 0] (grownCap w (n + m) cap 3 - (n + m))) 3)) := by
      simp [Builtin.append_, run_underlying Try.underlying22, run_underlying Try.underlying3, sizeOf, typeInfo, zeroValue, hi, hz0, hz1, hz2, asInt, asIntOf, hw, hroom, Value.cells, hfo, hb, h0, hm0, h63, hnc2, Question.forced, newRow, grownCap]
      have ez : Builtin.zeroCells #[Value.int IntKind.i64 0] m = Array.replicate m (Value.int IntKind.i64 0) := by
        apply Array.ext'
        rw [zeroCells_one]; simp
      rw [ez]
    have hge := grownCap_ge w (n + m) cap 3
    have hcm2 : grownCap w (n + m) cap 3 ≤ maxLen := grownCap_le_maxLen w (n + m) cap 3 (by unfold maxLen; omega)
    refine ⟨_, _, _, hr, ⟨hlen, .inr ⟨w.heap.size, _, _, rfl, hbase, heap_alloc_new w.drew _, hge, hcm2, ?_, ?_⟩⟩, ⟨rfl, rfl, rfl, by simp, fun k hk _ => Below.heap_alloc w.drew _ k hk⟩⟩
    · simp only [Array.size_append, List.size_toArray, size_zeroCells, hown.1, List.length_replicate, List.size_toArray, List.length_cons, List.length_nil]
      omega
    · simp only [Array.toList_append, List.append_assoc]
      rw [← List.append_assoc, ← hlen]
      exact List.take_left
end Go.Proofs.Ytjgclomokekogaa
