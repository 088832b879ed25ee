/- A block of elements known whole: read, written, made, copied into. -/
import Derived.Test.YtjgclomokekogaaMem
import Derived.OwnWalk
import Derived.Laws.CopyOwn
import Derived.Laws.Rows
namespace Go.Proofs.Ytjgclomokekogaa
open Go.RowKit Rs

/-- The elements as Go's ints. -/
def vs {f : FP} (l : List (El f)) : List Value := l.map fun a => .int .i64 a.val
/-- Block D holds just the elements l. -/
def Blk {f : FP} (w : World) (D : Nat) (l : List (El f)) : Prop := w.heap[D]? = some (.cells (vs l).toArray 3 (0, 0))
theorem Blk.out {f : FP} {w : World} {D : Nat} {l : List (El f)} (h : Blk w D l) : w.heap[D]? = some (.cells (vs l).toArray 3 (0, 0)) := h
theorem vs_length {f : FP} (l : List (El f)) : (vs l).length = l.length := by simp [vs]
theorem Blk.lt {f : FP} {w : World} {D : Nat} {l : List (El f)} (h : Blk w D l) : D < w.heap.size := by
  unfold Blk at h
  exact (Array.getElem?_eq_some_iff.1 h).1
theorem Blk.cell {f : FP} {w : World} {D : Nat} {l : List (El f)} (h : Blk w D l) (j : Nat) (hj : j < l.length) : w.cell? ⟨D, j, none⟩ = some (.int .i64 l[j].val) := by
  rw [cell_of_row w D j _ 3 (0, 0) h]
  simp [vs, hj]
theorem Blk.frozen {f : FP} {w : World} {D : Nat} {l : List (El f)} (h : Blk w D l) (j : Nat) : w.frozen? ⟨D, j, none⟩ = false :=
  frozen_of_row w D j _ 3 h
theorem Blk.cells {f : FP} {w : World} {D : Nat} {l : List (El f)} (h : Blk w D l) : Cells w D 0 l := fun k hk => by
  rw [Nat.zero_add]; exact h.cell k hk
theorem Blk.later {f : FP} {w w' : World} {D : Nat} {l : List (El f)} (h : Blk w D l) (hb : Below w.heap.size w w') : Blk w' D l := by
  unfold Blk; rw [hb.block D h.lt]; exact h
theorem Blk.below {f : FP} {w w' : World} {B D : Nat} {l : List (El f)} (h : Blk w D l) (hb : Below B w w') (hD : D < B) : Blk w' D l := by
  unfold Blk; rw [hb.block D hD]; exact h
theorem Blk.drewN {f : FP} {w : World} {D : Nat} {l : List (El f)} (h : Blk w D l) (n : Nat) : Blk (w.drewN n) D l := h.later (drewN_below w n)
theorem Blk.set {f : FP} {w : World} {D : Nat} {l : List (El f)} (h : Blk w D l) (j : Nat) (a : El f) : Blk (w.setCell ⟨D, j, none⟩ (.int .i64 a.val)) D (l.set j a) := by
  have := heap_setCell_same w D j _ 3 (.int .i64 a.val) h
  unfold Blk
  rw [this]
  congr 2
  apply Array.ext'
  simp [vs, List.map_set]
theorem own_blk {w : World} {base g n : Nat} {xs : List Value} (h : w.ownsRow base 3 1 (.slice (some ⟨g, 0, none⟩) n n) n xs) : w.heap[g]? = some (.cells xs.toArray 3 (0, 0)) := by
  rcases h.2 with ⟨h', _⟩ | ⟨g', cap', cur, h', hb, hg, hnc, hcm, hcs, htake⟩
  · simp at h'
  · simp only [Value.slice.injEq, Option.some.injEq, Addr.mk.injEq, and_true, true_and] at h'
    obtain ⟨rfl, rfl⟩ := h'
    rw [hg]
    congr 2
    apply Array.ext'
    rw [← htake, List.take_of_length_le (by simp; omega)]
theorem made_zeros (f : FP) (n : Nat) : (madeCells (Value.int .i64 0).cells (n * 1)).toList = vs (List.replicate n (0 : El f)) := by
  apply List.ext_getElem
  · simp [madeCells, vs]
  · intro i h1 h2
    simp [madeCells, vs, Value.cells, Nat.mod_one, El.zero_val]
theorem splice_vs {f : FP} (l c : List (El f)) (off : Nat) : splice (vs l) off (vs c) = vs (l.take off ++ (c ++ l.drop (off + c.length))) := by
  simp [splice, vs]
/-- A list being filled from the left. -/
theorem fill_set {α : Type} (T : List α) (z : α) (n i : Nat) (hn : n = T.length) (h : i < T.length) : (T.take i ++ List.replicate (n - i) z).set i T[i] = T.take (i + 1) ++ List.replicate (n - (i + 1)) z := by
  subst hn
  rw [List.set_append_right _ _ (by simp; omega), List.length_take, show i - min i T.length = 0 from by omega, show T.length - i = (T.length - (i + 1)) + 1 from by omega, List.replicate_succ, List.set_cons_zero, List.take_succ_eq_append_getElem h, List.append_assoc]
  rfl
theorem fill_all {α : Type} (T : List α) (z : α) (n : Nat) (hn : n = T.length) : T.take n ++ List.replicate (n - n) z = T := by
  subst hn; simp
end Go.Proofs.Ytjgclomokekogaa
