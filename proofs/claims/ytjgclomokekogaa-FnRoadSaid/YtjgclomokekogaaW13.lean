/- The package's encoder: made, and its generators. -/
import Derived.Test.YtjgclomokekogaaW12
import Derived.Test.YtjgclomokekogaaW10
namespace Go.Proofs.Ytjgclomokekogaa
open Go.RowKit Rs

/-- The encoder's struct lies whole at block en. -/
def EBlk (w : World) (en g : Nat) (v : Value) : Prop := w.heap[en]? = some (.cells #[.pointer (some ⟨g, 0, none⟩), v] 81 (0, 0))
theorem EBlk.lt {w : World} {en g : Nat} {v : Value} (h : EBlk w en g v) : en < w.heap.size := (Array.getElem?_eq_some_iff.1 h).1
theorem EBlk.cell0 {w : World} {en g : Nat} {v : Value} (h : EBlk w en g v) : w.cell? ⟨en, 0, none⟩ = some (.pointer (some ⟨g, 0, none⟩)) := cell_of_row w en 0 _ 81 (0, 0) h
theorem EBlk.cell1 {w : World} {en g : Nat} {v : Value} (h : EBlk w en g v) : w.cell? ⟨en, 1, none⟩ = some v := cell_of_row w en 1 _ 81 (0, 0) h
theorem EBlk.frozen {w : World} {en g : Nat} {v : Value} (h : EBlk w en g v) (i : Nat) : w.frozen? ⟨en, i, none⟩ = false := frozen_of_row w en i _ 81 h
theorem EBlk.set {w : World} {en g : Nat} {v : Value} (h : EBlk w en g v) (u : Value) : EBlk (w.setCell ⟨en, 1, none⟩ u) en g u := heap_setCell_same w en 1 _ 81 u h
theorem EBlk.later {w w' : World} {en g : Nat} {v : Value} (h : EBlk w en g v) (hb : Below w.heap.size w w') : EBlk w' en g v := by
  unfold EBlk; rw [hb.block en h.lt]; exact h
theorem EBlk.grown {w w' : World} {en g c : Nat} {v : Value} (h : EBlk w en g v) (hg : w.grownBy w' (some c)) (hc : en ≠ c) : EBlk w' en g v := by
  unfold EBlk; rw [hg.block en h.lt (by simpa using hc)]; exact h
theorem own_shape {w : World} {base n : Nat} {T : TypeId} {v : Value} {xs : List Value} (h : w.ownsRow base T 1 v n xs) (hn : 0 < n) : ∃ c cap, v = .slice (some ⟨c, 0, none⟩) n cap ∧ base ≤ c ∧ c < w.heap.size ∧ n ≤ cap := by
  rcases h.2 with ⟨_, h2⟩ | ⟨g, cap, cur, hv, hg, hh, hnc, _⟩
  · omega
  · exact ⟨g, cap, hv, hg, (Array.getElem?_eq_some_iff.1 hh).1, hnc⟩
/-- The encoder's block and the generators' row are two. -/
theorem own_ne {w : World} {base n en g c cap : Nat} {v u : Value} {xs : List Value} (h : w.ownsRow base 61 1 v n xs) (hv : v = .slice (some ⟨c, 0, none⟩) n cap) (he : EBlk w en g u) : en ≠ c := by
  rcases h.2 with ⟨h1, h2⟩ | ⟨g', cap', cur, hv', hg, hh, _⟩
  · rw [hv] at h1; simp at h1
  · rw [hv] at hv'
    simp only [Value.slice.injEq, Option.some.injEq, Addr.mk.injEq, and_true, true_and] at hv'
    obtain ⟨rfl, rfl⟩ := hv'
    intro e; subst e
    unfold EBlk at he; rw [he] at hh; simp at hh
/-- An encoder over the field at g: everything of its own from block B on. -/
def EncAt (w : World) (B en g c d cap : Nat) (xs : List Value) : Prop :=
  B ≤ en ∧ EBlk w en g (.slice (some ⟨c, 0, none⟩) d cap) ∧ w.ownsRow B 61 1 (.slice (some ⟨c, 0, none⟩) d cap) d xs
/-- A new encoder. -/
def NewEnc (f : FP) (w : World) (g : Nat) (e : Ending) (w' : World) : Prop :=
  ∃ en c q, e = .returned (.pointer (some ⟨en, 0, none⟩)) ∧ EncAt w' w.heap.size en g c 1 1 [.pointer (some ⟨q, 0, none⟩)] ∧ IsPoly w' g q [(1 : El f)] ∧ Below w.heap.size w w'

theorem enc_made {f : FP} (w : World) (g : Nat) : NewEnc f w g (.returned (.pointer (some ⟨w.heap.size + 3, 0, none⟩)))
    ((((w.alloc (.cells #[.int .i64 (1 : El f).val] 3)).alloc (.cells #[.pointer (some ⟨g, 0, none⟩), .slice (some ⟨w.heap.size, 0, none⟩) 1 1] 86)).alloc (.cells #[.pointer (some ⟨w.heap.size + 1, 0, none⟩)] 61)).alloc (.cells #[.pointer (some ⟨g, 0, none⟩), .slice (some ⟨w.heap.size + 2, 0, none⟩) 1 1] 81)) := by
  have hP := PolyAt.made (f := f) w g 1
  have h2 : Below ((w.alloc (.cells #[.int .i64 (1 : El f).val] 3)).alloc (.cells #[.pointer (some ⟨g, 0, none⟩), .slice (some ⟨w.heap.size, 0, none⟩) 1 1] 86)).heap.size _
      ((((w.alloc (.cells #[.int .i64 (1 : El f).val] 3)).alloc (.cells #[.pointer (some ⟨g, 0, none⟩), .slice (some ⟨w.heap.size, 0, none⟩) 1 1] 86)).alloc (.cells #[.pointer (some ⟨w.heap.size + 1, 0, none⟩)] 61)).alloc (.cells #[.pointer (some ⟨g, 0, none⟩), .slice (some ⟨w.heap.size + 2, 0, none⟩) 1 1] 81)) :=
    ((Below.refl _ _).alloc (Nat.le_refl _) _).alloc (by simp) _
  refine ⟨w.heap.size + 3, w.heap.size + 2, w.heap.size + 1, rfl, ⟨by omega, ?_, ?_⟩, (hP.later h2).isPoly, ?_⟩
  · unfold EBlk
    have := heap_alloc_new (((w.alloc (.cells #[.int .i64 (1 : El f).val] 3)).alloc (.cells #[.pointer (some ⟨g, 0, none⟩), .slice (some ⟨w.heap.size, 0, none⟩) 1 1] 86)).alloc (.cells #[.pointer (some ⟨w.heap.size + 1, 0, none⟩)] 61)) (.cells #[.pointer (some ⟨g, 0, none⟩), .slice (some ⟨w.heap.size + 2, 0, none⟩) 1 1] 81)
    simpa using this
  · have := World.ownsRow_lit (base := w.heap.size) (e := 61) (size := 1) ((w.alloc (.cells #[.int .i64 (1 : El f).val] 3)).alloc (.cells #[.pointer (some ⟨g, 0, none⟩), .slice (some ⟨w.heap.size, 0, none⟩) 1 1] 86)) #[.pointer (some ⟨w.heap.size + 1, 0, none⟩)] 1 (by simp; omega) (by unfold maxLen; omega) (by simp)
    have e : ((w.alloc (.cells #[.int .i64 (1 : El f).val] 3)).alloc (.cells #[.pointer (some ⟨g, 0, none⟩), .slice (some ⟨w.heap.size, 0, none⟩) 1 1] 86)).heap.size = w.heap.size + 2 := by simp
    rw [e] at this
    exact this.alloc _
  · exact ((((Below.refl _ _).alloc (Nat.le_refl _) _).alloc (by simp) _).alloc (by simp; omega) _).alloc (by simp; omega) _

set_option maxHeartbeats 1000000 in
theorem newenc_any (f : FP) (g : Nat) (w : World) : Calls Try.prog 36 #[.pointer (some ⟨g, 0, none⟩)] w (NewEnc f w g) := by
  have HE := Lib.hid (enc_made (f := f) w g)
  go_enter Try.func36, Try.ntmps36
  go_wp2_with fail
  refine (newpoly_one _ _ (.int .i64 (1 : El f).val) _ ?_).mono ?_
  · rw [World.cell?_alloc_at _ _ _ _ (by simp)]; rfl
  rintro e w3 ⟨rfl, rfl⟩
  go_wp2_with fail
  go_ret
  exact HE.out
end Go.Proofs.Ytjgclomokekogaa
