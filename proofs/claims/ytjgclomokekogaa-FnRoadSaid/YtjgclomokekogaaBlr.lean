/- A row with spare room behind its elements: read, written, copied into. -/
import Derived.Test.YtjgclomokekogaaW14
namespace Go.Proofs.Ytjgclomokekogaa
open Go.RowKit Rs

/-- Block D holds the elements l and then r. -/
def BlkR {f : FP} (w : World) (D : Nat) (l : List (El f)) (r : List Value) : Prop := w.heap[D]? = some (.cells (vs l ++ r).toArray 3 (0, 0))
theorem BlkR.out {f : FP} {w : World} {D : Nat} {l : List (El f)} {r : List Value} (h : BlkR w D l r) : w.heap[D]? = some (.cells (vs l ++ r).toArray 3 (0, 0)) := h
theorem BlkR.lt {f : FP} {w : World} {D : Nat} {l : List (El f)} {r : List Value} (h : BlkR w D l r) : D < w.heap.size := (Array.getElem?_eq_some_iff.1 h.out).1
theorem BlkR.cell {f : FP} {w : World} {D : Nat} {l : List (El f)} {r : List Value} (h : BlkR w D l r) (j : Nat) (hj : j < l.length) : w.cell? ⟨D, j, none⟩ = some (.int .i64 l[j].val) := by
  rw [cell_of_row w D j _ 3 (0, 0) h, List.getElem?_toArray, List.getElem?_append_left (by simpa [vs] using hj)]
  simp [vs, hj]
theorem BlkR.frozen {f : FP} {w : World} {D : Nat} {l : List (El f)} {r : List Value} (h : BlkR w D l r) (j : Nat) : w.frozen? ⟨D, j, none⟩ = false := frozen_of_row w D j _ 3 h
theorem BlkR.cells {f : FP} {w : World} {D : Nat} {l : List (El f)} {r : List Value} (h : BlkR w D l r) : Cells w D 0 l := fun k hk => by
  rw [Nat.zero_add]; exact h.cell k hk
theorem BlkR.below {f : FP} {w w' : World} {B D : Nat} {l : List (El f)} {r : List Value} (h : BlkR w D l r) (hb : Below B w w') (hD : D < B) : BlkR w' D l r := by
  unfold BlkR; rw [hb.block D hD]; exact h
theorem BlkR.later {f : FP} {w w' : World} {D : Nat} {l : List (El f)} {r : List Value} (h : BlkR w D l r) (hb : Below w.heap.size w w') : BlkR w' D l r := h.below hb h.lt
theorem BlkR.set {f : FP} {w : World} {D : Nat} {l : List (El f)} {r : List Value} (h : BlkR w D l r) (j : Nat) (hj : j < l.length) (a : El f) : BlkR (w.setCell ⟨D, j, none⟩ (.int .i64 a.val)) D (l.set j a) r := by
  have := heap_setCell_same w D j _ 3 (.int .i64 a.val) h
  unfold BlkR
  rw [this]
  congr 2
  apply Array.ext'
  simp [vs, List.map_set, hj]
theorem Blk.toR {f : FP} {w : World} {D : Nat} {l : List (El f)} (h : Blk w D l) : BlkR w D l [] := by
  unfold BlkR; rw [List.append_nil]; exact h
/-- Writing what is there. -/
theorem setCell_id {w : World} {D j : Nat} {c : Array Value} {T : TypeId} {v : Value} (h : w.heap[D]? = some (.cells c T (0, 0))) (hv : c[j]? = some v) : w.setCell ⟨D, j, none⟩ v = w := by
  have e : (w.setCell ⟨D, j, none⟩ v).heap = w.heap := by
    apply Array.ext_getElem?
    intro k
    by_cases hk : k = D
    · subst hk
      rw [heap_setCell_same w k j c T v h, h]
      congr 2
      apply Array.ext_getElem?
      intro i
      rw [Array.getElem?_setIfInBounds]
      split
      · rename_i hi; subst hi
        split
        · exact hv.symm
        · rename_i hlt; rw [Array.getElem?_eq_none (by omega)] at hv; simp at hv
      · rfl
    · exact heap_setCell_other w ⟨D, j, none⟩ k v hk
  cases w; simp only [World.setCell] at e ⊢; rw [e]
/-- In the block of a word the check symbols' noughts are noughts. -/
theorem zero_id {f : FP} {w : World} {D k ec j : Nat} {l : List (El f)} {r : List Value} (h : BlkR w D (l ++ List.replicate ec (0 : El f)) r) (hk : l.length = k) (hj : j < ec) : w.setCell ⟨D, k + j, none⟩ (.int .i64 0) = w := by
  refine setCell_id h.out ?_
  subst hk
  have hlen : (vs (l ++ List.replicate ec (0 : El f))).length = l.length + ec := by simp [vs]
  rw [List.getElem?_toArray, List.getElem?_append_left (by omega), List.getElem?_eq_getElem (by omega)]
  simp [vs, El.zero_val]
theorem splice_word {f : FP} (l R : List (El f)) (k ec nz : Nat) (r : List Value) (hk : l.length = k) (hR : nz + R.length = ec) :
    splice (vs (l ++ List.replicate ec (0 : El f)) ++ r) (k + nz) (vs R) = vs (l ++ (List.replicate nz (0 : El f) ++ R)) ++ r := by
  subst hk; subst hR
  unfold splice
  have e1 : (vs (l ++ List.replicate (nz + R.length) (0 : El f)) ++ r).take (l.length + nz) = vs (l ++ List.replicate nz 0) := by
    have e0 : vs (l ++ List.replicate (nz + R.length) (0 : El f)) ++ r = vs (l ++ List.replicate nz (0 : El f)) ++ (vs (List.replicate R.length (0 : El f)) ++ r) := by
      simp only [vs, List.map_append, List.map_replicate, List.append_assoc]
      rw [← List.replicate_append_replicate, List.append_assoc]
    rw [e0, List.take_left' (by simp [vs])]
  have e2 : (vs (l ++ List.replicate (nz + R.length) (0 : El f)) ++ r).drop (l.length + nz + (vs R).length) = r := by
    have : (vs (l ++ List.replicate (nz + R.length) (0 : El f))).length = l.length + nz + (vs R).length := by simp [vs]; omega
    rw [← this, List.drop_left]
  rw [e1, e2]
  simp [vs]
end Go.Proofs.Ytjgclomokekogaa
