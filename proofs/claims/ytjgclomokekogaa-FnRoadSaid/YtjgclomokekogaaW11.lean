/- The package's making of a field with its tables. -/
import Derived.Test.YtjgclomokekogaaW8
namespace Go.Proofs.Ytjgclomokekogaa
open Go.RowKit Rs

/-- The field's struct lies whole at block G. -/
def GBlk (w : World) (G : Nat) (c : Array Value) : Prop := w.heap[G]? = some (.cells c 104 (0, 0))
theorem GBlk.lt {w : World} {G : Nat} {c : Array Value} (h : GBlk w G c) : G < w.heap.size := (Array.getElem?_eq_some_iff.1 h).1
theorem GBlk.cell {w : World} {G : Nat} {c : Array Value} (h : GBlk w G c) (i : Nat) : w.cell? ⟨G, i, none⟩ = c[i]? := cell_of_row w G i c 104 (0, 0) h
theorem GBlk.frozen {w : World} {G : Nat} {c : Array Value} (h : GBlk w G c) (i : Nat) : w.frozen? ⟨G, i, none⟩ = false := frozen_of_row w G i c 104 h
theorem GBlk.set {w : World} {G : Nat} {c : Array Value} (h : GBlk w G c) (i : Nat) (v : Value) : GBlk (w.setCell ⟨G, i, none⟩ v) G (c.setIfInBounds i v) := heap_setCell_same w G i c 104 v h
theorem GBlk.below {w w' : World} {G B : Nat} {c : Array Value} (h : GBlk w G c) (hb : Below B w w') (hG : G < B) : GBlk w' G c := by
  unfold GBlk; rw [hb.block G hG]; exact h
theorem GBlk.other {w : World} {G D i : Nat} {c : Array Value} {v : Value} (h : GBlk w G c) (hne : G ≠ D) : GBlk (w.setCell ⟨D, i, none⟩ v) G c := by
  unfold GBlk; rw [heap_setCell_other w ⟨D, i, none⟩ G v hne]; exact h
theorem Blk.other {f : FP} {w : World} {G D i : Nat} {l : List (El f)} {v : Value} (h : Blk w G l) (hne : G ≠ D) : Blk (w.setCell ⟨D, i, none⟩ v) G l := by
  unfold Blk; rw [heap_setCell_other w ⟨D, i, none⟩ G v hne]; exact h
theorem GBlk.made (w : World) (c : Array Value) : GBlk (w.alloc (.cells c 104)) w.heap.size c := heap_alloc_new w _
theorem GBlk.alloc {w : World} {G : Nat} {c : Array Value} (h : GBlk w G c) (o : Obj) : GBlk (w.alloc o) G c := h.below ((Below.refl _ _).alloc (Nat.le_refl _) o) h.lt
theorem Blk.alloc {f : FP} {w : World} {G : Nat} {l : List (El f)} (h : Blk w G l) (o : Obj) : Blk (w.alloc o) G l := h.later ((Below.refl _ _).alloc (Nat.le_refl _) o)

/-- The table of powers, the table of logarithms in the making. -/
def expL (f : FP) : List (El f) := (List.range f.size).map (El.exp f)
def LogTo (f : FP) (L : List (El f)) (k : Nat) : Prop := L.length = f.size ∧ ∀ i, i < k → ∀ h : (El.exp f i).val < L.length, (L[(El.exp f i).val]'h).val = i
theorem LogTo.start (f : FP) : LogTo f (List.replicate f.size (0 : El f)) 0 := ⟨by simp, fun i h => by omega⟩
theorem LogTo.step {f : FP} {L : List (El f)} {k : Nat} (h : LogTo f L k) (hk : k < f.size - 1) (hk' : k < f.size) : LogTo f (L.set (El.exp f k).val ⟨k, hk'⟩) (k + 1) := by
  refine ⟨by simpa using h.1, fun i hi hl => ?_⟩
  rw [List.getElem_set]
  by_cases e : i = k
  · subst e; simp
  · have hne : ¬ (El.exp f k).val = (El.exp f i).val := fun he => e (El.exp_inj (by omega) hk (El.ext he.symm))
    rw [if_neg hne]
    exact h.2 i (by omega) _
theorem expL_length (f : FP) : (expL f).length = f.size := by simp [expL]
theorem expL_get (f : FP) (k : Nat) (h : k < (expL f).length) : (expL f)[k] = El.exp f k := by simp [expL]
theorem exp_succ_small {f : FP} {k : Nat} (h : ((El.exp f k).val : Int) * 2 < f.size) : ((El.exp f k).val : Int) * 2 = (El.exp f (k + 1)).val := by
  show _ = ((xt f.m f.p (El.exp f k).val : Nat) : Int)
  rw [xt_small (by omega)]; omega
theorem exp_succ_great {f : FP} {k : Nat} (h : (f.size : Int) ≤ ((El.exp f k).val : Int) * 2) : bits .and .i64 (bits .xor .i64 (((El.exp f k).val : Int) * 2) f.p) ((f.size : Int) - 1) = (El.exp f (k + 1)).val := by
  have hs := f.size_le
  have hs4 := f.size_pos
  have hp := f.p_lt
  have hlt := (El.exp f k).lt
  have hx : xt f.m f.p (El.exp f k).val = 2 * (El.exp f k).val ^^^ f.p := xt_great (by omega)
  have hb : xt f.m f.p (El.exp f k).val < 2 ^ f.m := xt_lt f.good hlt
  rw [show ((El.exp f k).val : Int) * 2 = ((2 * (El.exp f k).val : Nat) : Int) from by omega, xor_i64 _ _ (by omega) (by omega), ← hx,
    show (f.size : Int) - 1 = ((f.size - 1 : Nat) : Int) from by omega]
  have hb2 : xt f.m f.p (El.exp f k).val < 4096 := Nat.lt_of_lt_of_le hb hs
  rw [and_i64 _ _ (by omega) (by omega)]
  show _ = ((xt f.m f.p (El.exp f k).val : Nat) : Int)
  congr 1
  unfold FP.size
  rw [Nat.and_two_pow_sub_one_eq_mod, Nat.mod_eq_of_lt hb]

theorem made_at (f : FP) {w w1 : World} {base n : Nat} (hown : w1.ownsRow base 3 1 (.slice (some ⟨w.heap.size, 0, none⟩) n n) n (madeCells (Value.int .i64 0).cells (n * 1)).toList) (hgrow : w.grownBy w1 none) :
    Blk w1 w.heap.size (List.replicate n (0 : El f)) ∧ Below w.heap.size w w1 := ⟨made_blk hown, (Below.refl _ _).grown hgrow (Nat.le_refl _) (by simp)⟩
theorem made_at' (f : FP) {w w1 : World} {o : Obj} {base n : Nat} (hown : w1.ownsRow base 3 1 (.slice (some ⟨(w.alloc o).heap.size, 0, none⟩) n n) n (madeCells (Value.int .i64 0).cells (n * 1)).toList) (hgrow : (w.alloc o).grownBy w1 none) :
    Blk w1 (w.heap.size + 1) (List.replicate n (0 : El f)) ∧ Below (w.heap.size + 1) (w.alloc o) w1 ∧ Below w.heap.size w w1 := by
  have e : (w.alloc o).heap.size = w.heap.size + 1 := by simp
  obtain ⟨h1, h2⟩ := made_at f hown hgrow
  rw [e] at h1 h2
  exact ⟨h1, h2, ((Below.refl _ _).alloc (Nat.le_refl _) o).trans (h2.mono (by omega))⟩
/-- A polynomial of one coefficient, its blocks named. -/
def PolyAt {f : FP} (w : World) (g q b : Nat) (c : El f) : Prop :=
  w.cell? ⟨q, 0, none⟩ = some (.pointer (some ⟨g, 0, none⟩)) ∧ w.cell? ⟨q, 1, none⟩ = some (.slice (some ⟨b, 0, none⟩) 1 1) ∧ w.cell? ⟨b, 0, none⟩ = some (.int .i64 c.val)
theorem PolyAt.isPoly {f : FP} {w : World} {g q b : Nat} {c : El f} (h : PolyAt w g q b c) : IsPoly w g q [c] := by
  refine ⟨nf_one _ rfl, h.1, b, 0, 1, ⟨by simp, by simp⟩, h.2.1, ?_⟩
  intro k hk
  have : k = 0 := by simpa using hk
  subst this; exact h.2.2
theorem PolyAt.other {f : FP} {w : World} {g q b G i : Nat} {c : El f} {v : Value} (h : PolyAt w g q b c) (hq : q ≠ G) (hb : b ≠ G) : PolyAt (w.setCell ⟨G, i, none⟩ v) g q b c :=
  ⟨by rw [World.cell?_of_block (w := w) (heap_setCell_other w ⟨G, i, none⟩ q v hq)]; exact h.1, by rw [World.cell?_of_block (w := w) (heap_setCell_other w ⟨G, i, none⟩ q v hq)]; exact h.2.1,
    by rw [World.cell?_of_block (w := w) (heap_setCell_other w ⟨G, i, none⟩ b v hb)]; exact h.2.2⟩
theorem PolyAt.later {f : FP} {w w' : World} {g q b : Nat} {c : El f} (h : PolyAt w g q b c) (hb : Below w.heap.size w w') : PolyAt w' g q b c :=
  ⟨cell_later hb h.1, cell_later hb h.2.1, cell_later hb h.2.2⟩
theorem PolyAt.made {f : FP} (w : World) (g : Nat) (c : El f) : PolyAt ((w.alloc (.cells #[.int .i64 c.val] 3)).alloc (.cells #[.pointer (some ⟨g, 0, none⟩), .slice (some ⟨w.heap.size, 0, none⟩) 1 1] 86)) g (w.heap.size + 1) w.heap.size c := by
  refine ⟨?_, ?_, ?_⟩
  · rw [World.cell?_alloc_at _ _ _ _ (by simp)]; rfl
  · rw [World.cell?_alloc_at _ _ _ _ (by simp)]; rfl
  · rw [World.cell?_alloc_past _ _ _ (by simp), World.cell?_alloc_at _ _ _ _ rfl]; rfl
theorem size_setCell (w : World) (a : Addr) (v : Value) : (w.setCell a v).heap.size = w.heap.size := by simp [World.setCell]
/-- Behind the first polynomial. -/
theorem gf_mid {f : FP} {w0 wr w3 : World} {G D E : Nat} {L X : List (El f)} {a b c d : Value} {c4 c5 c6 : Value} (hG : GBlk wr G #[a, b, c, d, c4, c5, c6]) (hL : Blk wr D L) (hX : Blk wr E X) (hbr : Below w0.heap.size w0 wr) (hGe : G = w0.heap.size) (hE : E ≠ G) (hD : D ≠ G) (a' b' : Value)
    (h3 : w3 = (((wr.setCell ⟨G, 0, none⟩ a').setCell ⟨G, 1, none⟩ b').alloc (.cells #[.int .i64 (0 : El f).val] 3)).alloc (.cells #[.pointer (some ⟨G, 0, none⟩), .slice (some ⟨wr.heap.size, 0, none⟩) 1 1] 86)) :
    GBlk w3 G #[a', b', c, d, c4, c5, c6] ∧ Blk w3 D L ∧ Blk w3 E X ∧ PolyAt w3 G (wr.heap.size + 1) wr.heap.size (0 : El f) ∧ Below w0.heap.size w0 w3 ∧ w3.heap.size = wr.heap.size + 2 := by
  subst h3
  have e1 : ((wr.setCell ⟨G, 0, none⟩ a').setCell ⟨G, 1, none⟩ b').heap.size = wr.heap.size := by rw [size_setCell, size_setCell]
  refine ⟨(((hG.set 0 a').set 1 b').alloc _).alloc _, (((hL.other hD).other hD).alloc _).alloc _, (((hX.other hE).other hE).alloc _).alloc _, ?_, ?_, by simp [e1]⟩
  · have := PolyAt.made ((wr.setCell ⟨G, 0, none⟩ a').setCell ⟨G, 1, none⟩ b') G (0 : El f)
    rw [e1] at this; exact this
  · exact ((((hbr.setCell (by simp [hGe]) _).setCell (by simp [hGe]) _).alloc (by rw [e1]; exact hbr.size) _).alloc (by simp [e1]; have := hbr.size; omega) _)
/-- Behind the second. -/
theorem gf_end {f : FP} {w0 w3 w5 : World} {G D E q b : Nat} {L X : List (El f)} {x y c d : Value} {c4 c5 c6 : Value} (hG : GBlk w3 G #[x, y, c, d, c4, c5, c6]) (hL : Blk w3 D L) (hX : Blk w3 E X) (hP : PolyAt w3 G q b (0 : El f)) (hbr : Below w0.heap.size w0 w3) (hGe : G = w0.heap.size) (hE : E ≠ G) (hD : D ≠ G) (hq : q ≠ G) (hb : b ≠ G) (c' d' : Value)
    (h5 : w5 = ((w3.setCell ⟨G, 2, none⟩ c').alloc (.cells #[.int .i64 (1 : El f).val] 3)).alloc (.cells #[.pointer (some ⟨G, 0, none⟩), .slice (some ⟨w3.heap.size, 0, none⟩) 1 1] 86)) (hlt : G < w3.heap.size) :
    GBlk (w5.setCell ⟨G, 3, none⟩ d') G #[x, y, c', d', c4, c5, c6] ∧ Blk (w5.setCell ⟨G, 3, none⟩ d') D L ∧ Blk (w5.setCell ⟨G, 3, none⟩ d') E X ∧ PolyAt (w5.setCell ⟨G, 3, none⟩ d') G q b (0 : El f) ∧
      PolyAt (w5.setCell ⟨G, 3, none⟩ d') G (w3.heap.size + 1) w3.heap.size (1 : El f) ∧ Below w0.heap.size w0 (w5.setCell ⟨G, 3, none⟩ d') ∧ GBlk w5 G #[x, y, c', d, c4, c5, c6] := by
  subst h5
  have e1 : (w3.setCell ⟨G, 2, none⟩ c').heap.size = w3.heap.size := size_setCell _ _ _
  have hP1 := PolyAt.made (w3.setCell ⟨G, 2, none⟩ c') G (1 : El f)
  rw [e1] at hP1
  have hB : Below (w3.setCell ⟨G, 2, none⟩ c').heap.size (w3.setCell ⟨G, 2, none⟩ c') (((w3.setCell ⟨G, 2, none⟩ c').alloc (.cells #[.int .i64 (1 : El f).val] 3)).alloc (.cells #[.pointer (some ⟨G, 0, none⟩), .slice (some ⟨w3.heap.size, 0, none⟩) 1 1] 86)) :=
    ((Below.refl _ _).alloc (Nat.le_refl _) _).alloc (by simp) _
  refine ⟨(((hG.set 2 c').alloc _).alloc _).set 3 d', (((hL.other hD).alloc _).alloc _).other hD, (((hX.other hE).alloc _).alloc _).other hE, ((hP.other hq hb).later hB).other hq hb, hP1.other (by omega) (by omega), ?_, ((hG.set 2 c').alloc _).alloc _⟩
  exact (((hbr.setCell (by simp [hGe]) _).trans (hB.mono (by rw [e1]; exact hbr.size))).setCell (by simp [hGe]) _)
theorem gf_at {f : FP} {w : World} {G D E q b q' b' : Nat} {L : List (El f)} {p : Value} (hG : GBlk w G #[.slice (some ⟨E, 0, none⟩) f.size f.size, .slice (some ⟨D, 0, none⟩) f.size f.size, .pointer (some ⟨q, 0, none⟩), .pointer (some ⟨q', 0, none⟩), .int .i64 f.size, p, .int .i64 f.base])
    (hL : Blk w D L) (hLT : LogTo f L (f.size - 1)) (hX : Blk w E (expL f)) (h0 : PolyAt w G q b (0 : El f)) (h1 : PolyAt w G q' b' (1 : El f)) : IsGF w f G :=
  ⟨E, D, q, q', { c0 := by rw [hG.cell]; rfl
                  c1 := by rw [hG.cell]; rfl
                  c2 := by rw [hG.cell]; rfl
                  c3 := by rw [hG.cell]; rfl
                  c4 := by rw [hG.cell]; rfl
                  c6 := by rw [hG.cell]; rfl
                  exp := fun i hi => by rw [hX.cell i (by rw [expL_length]; exact hi), expL_get]
                  log := fun a ha => by
                    have hl : (El.exp f a.log).val < L.length := by rw [hLT.1]; exact (El.exp f a.log).lt
                    have := hLT.2 a.log a.log_lt hl
                    rw [El.exp_log ha] at hl
                    rw [hL.cell a.val hl]
                    simp only [El.exp_log ha] at this
                    rw [this]
                  zero := h0.isPoly
                  one := h1.isPoly }⟩
/-- What a new field is good for. -/
def NewGF (w : World) (f : FP) (e : Ending) (w' : World) : Prop := ∃ g, e = .returned (.pointer (some ⟨g, 0, none⟩)) ∧ IsGF w' f g ∧ Below w.heap.size w w'

set_option maxRecDepth 100000 in
set_option maxHeartbeats 4000000 in
theorem newgf_any (f : FP) (w : World) :
    Calls Try.prog 88 #[.int .i64 f.p, .int .i64 f.size, .int .i64 f.base] w (NewGF w f) := by
  have hs := f.size_le
  have hs4 := f.size_pos
  have hp := f.p_lt
  obtain ⟨i0, hi, hz0, hz1, hz2⟩ := info_parts Try.info3
  have hG0 := GBlk.made w #[.slice none 0 0, .slice none 0 0, .pointer none, .pointer none, .int .i64 f.size, .int .i64 f.p, .int .i64 f.base]
  go_enter Try.func88, Try.ntmps88
  go_wp2_with (first
    | ((with_reducible show wpList _ _ _ (⟨some 19, _, _, _, _, _⟩ :: _) _ _); go_loud (refine wpList_make_full _ rfl _ _ 22 rfl w.heap.size 3 i0 (.int .i64 0) 1 Try.underlying22 hi hz0 hz1 .i64 .i64 _ _ f.size rfl rfl rfl rfl (by rw [hz2]; omega) (by unfold maxLen; omega) (by simp) ?_; intro w1 hown hgrow; obtain ⟨hB1, hx1, hb1⟩ := made_at' f hown hgrow; clear hown hgrow; have hG1 := hG0.below hx1 (Nat.lt_succ_self _)))
    | ((with_reducible show wpList _ _ _ (⟨some 21, _, _, _, _, _⟩ :: _) _ _); go_loud (refine wpList_make_full _ rfl _ _ 22 rfl w1.heap.size 3 i0 (.int .i64 0) 1 Try.underlying22 hi hz0 hz1 .i64 .i64 _ _ f.size rfl rfl rfl rfl (by rw [hz2]; omega) (by unfold maxLen; omega) (Nat.le_refl _) ?_; intro w2 hown hgrow; obtain ⟨hB2, hx2⟩ := made_at f hown hgrow; clear hown hgrow; have hB2' := hB1.later hx2; have hG2 := hG1.below hx2 hG1.lt; have hb2 := hb1.trans (hx2.mono hb1.size))))
  have hHs : w.heap.size + 1 < w1.heap.size := hB1.lt
  clear hG0 hB1 hG1 hb1 hx2 hx1
  have hDs := hB2.lt
  generalize w1.heap.size = D at *
  clear w1
  go_loopw [10, 11] (fun x i wr => ∃ k : Nat, k ≤ f.size ∧ i = .int .i64 (k : Int) ∧ x = .int .i64 (El.exp f k).val ∧ Blk wr (w.heap.size + 1) ((expL f).take k ++ List.replicate (f.size - k) (0 : El f)) ∧ Blk wr D (List.replicate f.size (0 : El f)) ∧
    GBlk wr w.heap.size #[.slice none 0 0, .slice none 0 0, .pointer none, .pointer none, .int .i64 f.size, .int .i64 f.p, .int .i64 f.base] ∧ Below w.heap.size w wr) (fun _ i _ => f.size - (intOf i).toNat)
  case atStart => exact ⟨0, by omega, rfl, rfl, hB2', hB2, hG2, hb2⟩
  case round =>
    obtain ⟨k, hk, rfl, rfl, hE, hL, hG, hbr⟩ := hrel
    by_cases hlt : k < f.size
    · have hfz := hE.frozen k
      obtain ⟨z, hxd⟩ : ∃ z, wr.cell? ⟨w.heap.size + 1, k, none⟩ = some z := ⟨_, hE.cell k (by rw [List.length_append, List.length_take, expL_length, List.length_replicate]; omega)⟩
      have hi0 : (0 : Int) ≤ (k : Int) := by omega
      have hxl := (El.exp f k).lt
      have HV : Hid (Blk (wr.setCell ⟨w.heap.size + 1, k, none⟩ (.int .i64 (El.exp f k).val)) (w.heap.size + 1) ((expL f).take (k + 1) ++ List.replicate (f.size - (k + 1)) (0 : El f))) :=
        fill_blk hE (expL_length f) hlt (fun h => (expL_get f k h).symm)
      have HL : Hid (Blk (wr.setCell ⟨w.heap.size + 1, k, none⟩ (.int .i64 (El.exp f k).val)) D (List.replicate f.size (0 : El f))) := hL.other (by omega)
      have HG : Hid (GBlk (wr.setCell ⟨w.heap.size + 1, k, none⟩ (.int .i64 (El.exp f k).val)) w.heap.size _) := hG.other (by omega)
      clear hE hL hG
      go_wp2
      all_goals
        go_roundw
        case rel => exact ⟨k + 1, by omega, by go_num, by first | exact congrArg (Value.int .i64) (exp_succ_small (by assumption)) | exact congrArg (Value.int .i64) (exp_succ_great (by assumption)), HV.out, HL.out, HG.out, hbr.setCell (by simp) _⟩
        case measure => simp [intOf]; omega
    · have hEE : Blk wr (w.heap.size + 1) (expL f) := by
        have := hE; rw [show k = f.size from by omega, fill_all (expL f) 0 f.size (expL_length f).symm] at this; exact this
      clear hE
      go_wp2
      go_loopw [12] (fun i wx => ∃ (j : Nat) (L : List (El f)), j ≤ f.size - 1 ∧ i = .int .i64 (j : Int) ∧ LogTo f L j ∧ Blk wx D L ∧ Blk wx (w.heap.size + 1) (expL f) ∧
        GBlk wx w.heap.size #[.slice none 0 0, .slice none 0 0, .pointer none, .pointer none, .int .i64 f.size, .int .i64 f.p, .int .i64 f.base] ∧ Below w.heap.size w wx) (fun i _ => f.size - (intOf i).toNat)
      case atStart => exact ⟨0, _, by omega, rfl, LogTo.start f, hL, hEE, hG, hbr⟩
      case round =>
        obtain ⟨j, L, hj, rfl, hLT, hL, hE, hG, hbr⟩ := hrel
        by_cases hjlt : j < f.size - 1
        · have hxe := hE.cell j (by rw [expL_length]; omega)
          rw [expL_get] at hxe
          have hvl := (El.exp f j).lt
          have hfz := hL.frozen (El.exp f j).val
          obtain ⟨z, hxd⟩ : ∃ z, wr.cell? ⟨D, (El.exp f j).val, none⟩ = some z := ⟨_, hL.cell _ (by rw [hLT.1]; exact hvl)⟩
          have hj1 : (j : Int) < (f.size : Int) - 1 := by omega
          have HLT : Hid (LogTo f (L.set (El.exp f j).val ⟨j, by omega⟩) (j + 1)) := hLT.step hjlt (by omega)
          have HL : Hid (Blk (wr.setCell ⟨D, (El.exp f j).val, none⟩ (.int .i64 (j : Int))) D (L.set (El.exp f j).val ⟨j, by omega⟩)) := hL.set (El.exp f j).val ⟨j, by omega⟩
          have HE : Hid (Blk (wr.setCell ⟨D, (El.exp f j).val, none⟩ (.int .i64 (j : Int))) (w.heap.size + 1) (expL f)) := hE.other (by omega)
          have HG : Hid (GBlk (wr.setCell ⟨D, (El.exp f j).val, none⟩ (.int .i64 (j : Int))) w.heap.size _) := hG.other (by omega)
          clear hL hG hE hLT
          go_wp2
          go_roundw
          case rel => exact ⟨j + 1, _, by omega, by go_num, HLT.out, HL.out, HE.out, HG.out, hbr.setCell (by simp; omega) _⟩
          case measure => simp [intOf]; omega
        · have hj1 : ¬ (j : Int) < (f.size : Int) - 1 := by omega
          have hj2 : j = f.size - 1 := by omega
          rw [hj2] at hLT
          clear hj2
          have hg0 := hG.cell 0
          have hg1 := hG.cell 1
          have hf0 := hG.frozen 0
          have hf1 := hG.frozen 1
          go_wp2_with fail
          refine (newpoly_one _ _ (.int .i64 (0 : El f).val) _ ?_).mono ?_
          · rw [World.cell?_alloc_at _ _ _ _ (by simp)]; rfl
          rintro e w3 ⟨rfl, hw3⟩
          obtain ⟨hG3, hL3, hE3, hP3, hb3, hs3⟩ := gf_mid (f := f) (w0 := w) (c := .pointer none) (d := .pointer none) hG hL hE hbr rfl (by omega) (by omega) _ _ hw3
          have HS3 := Lib.hid hs3
          have hle3 : wr.heap.size + 2 ≤ w3.heap.size := by omega
          have hGlt := hG.lt
          have HLT := Lib.hid hLT
          clear hw3 hs3 hG hL hE hbr hg0 hg1 hf0 hf1 hLT
          have hg2 := hG3.cell 2
          have hf2 := hG3.frozen 2
          have hnr1 : wr.heap.size + 1 ≠ w.heap.size := by omega
          have hnr2 : wr.heap.size ≠ w.heap.size := by omega
          go_wp2_with fail
          refine (newpoly_one _ _ (.int .i64 (1 : El f).val) _ ?_).mono ?_
          · rw [World.cell?_alloc_at _ _ _ _ (by simp)]; rfl
          rintro e w5 ⟨rfl, hw5⟩
          have HF := gf_end (f := f) (w0 := w) (c := .pointer none) (d := .pointer none) hG3 hL3 hE3 hP3 hb3 rfl (by omega) (by omega) hnr1 hnr2 _ (.pointer (some ⟨w3.heap.size + 1, 0, none⟩)) hw5 hG3.lt
          have HF' := Lib.hid HF
          have hg3 := HF.2.2.2.2.2.2.cell 3
          have hf3 := HF.2.2.2.2.2.2.frozen 3
          clear HF hw5 hG3 hL3 hE3 hP3 hg2 hf2
          go_wp2_with fail
          go_ret
          exact ⟨_, rfl, gf_at HF'.out.1 HF'.out.2.1 HLT.out HF'.out.2.2.1 HF'.out.2.2.2.1 HF'.out.2.2.2.2.1, HF'.out.2.2.2.2.2.1⟩
end Go.Proofs.Ytjgclomokekogaa
