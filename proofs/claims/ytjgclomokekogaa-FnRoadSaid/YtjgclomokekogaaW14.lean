/- The package's generators. -/
import Derived.Test.YtjgclomokekogaaW13
import Derived.Test.YtjgclomokekogaaGen
namespace Go.Proofs.Ytjgclomokekogaa
open Go.RowKit Rs

theorem Try.info61 : (Try.prog.info? 61).map (fun i => (i.zero, i.size, i.bytes)) = some (some (.pointer none), 1, 8) := by kernel_rfl
/-- What the generator is good for. -/
def GenRes (f : FP) (w0 : World) (g en ec : Nat) (e : Ending) (w' : World) : Prop :=
  ∃ (q : Nat) (l : List (El f)), e = .returned (.pointer (some ⟨q, 0, none⟩)) ∧ IsPoly w' g q l ∧ ps l = gens f ec ∧ w'.cell? ⟨en, 0, none⟩ = some (.pointer (some ⟨g, 0, none⟩)) ∧ Below w0.heap.size w0 w'
theorem two_cells {f : FP} (w : World) (a b : El f) : Cells (w.alloc (.cells #[.int .i64 a.val, .int .i64 b.val] 3)) w.heap.size 0 [a, b] := by
  intro k hk
  match k, hk with
  | 0, _ => rw [World.cell?_alloc_at _ _ _ _ rfl]; rfl
  | 1, _ => rw [World.cell?_alloc_at _ _ _ _ rfl]; rfl
theorem two_cells' {f : FP} (w : World) (b : El f) : Cells ((w.alloc (.cells #[.int .i64 1, .int .i64 b.val] 3)).drew) w.heap.size 0 [1, b] := two_cells w 1 b
theorem own_below {w w' : World} {base n size : Nat} {T : TypeId} {v : Value} {xs : List Value} (h : w.ownsRow base T size v n xs) (hb : Below w.heap.size w w') : w'.ownsRow base T size v n xs := by
  have hg : w.grownBy w' none := ⟨hb.os, hb.tape, hb.output, hb.size, fun k hk _ => hb.block k hk⟩
  refine h.kept hg ?_
  cases hv : v.ownBlock with
  | none => exact Or.inl rfl
  | some k => exact Or.inr (by simp)
theorem grown_setCell (w : World) (a : Addr) (u : Value) : w.grownBy (w.setCell a u) (some a.block) :=
  ⟨rfl, rfl, rfl, by rw [size_setCell]; exact Nat.le_refl _, fun k _ hk => heap_setCell_other w a k u (fun e => hk (by rw [e]))⟩
theorem EBlk.alloc {w : World} {en g : Nat} {v : Value} (h : EBlk w en g v) (o : Obj) : EBlk (w.alloc o) en g v := h.later ((Below.refl _ _).alloc (Nat.le_refl _) o)
theorem IsPoly.alloc {f : FP} {w : World} {g q : Nat} {l : List (El f)} (h : IsPoly w g q l) (o : Obj) : IsPoly (w.alloc o) g q l := h.later ((Below.refl _ _).alloc (Nat.le_refl _) o)
theorem Fr.alloc {B q : Nat} {w : World} (h : Fr B w q) (o : Obj) : Fr B (w.alloc o) q := h.later ((Below.refl _ _).alloc (Nat.le_refl _) o)
theorem Fr.grown {B q c : Nat} {w w' : World} (h : Fr B w q) (hg : w.grownBy w' (some c)) (hc : c < B) : Fr B w' q := by
  obtain ⟨h1, b, off, len, cap, h2, h3⟩ := h
  have hq : w'.heap[q]? = w.heap[q]? := hg.block q (block_lt h3) (by simp; omega)
  exact ⟨h1, b, off, len, cap, h2, by rw [World.cell?_of_block (w := w) (a := ⟨q, 1, none⟩) hq]; exact h3⟩
theorem last_get {α : Type} (xs : List α) (x : α) (d : Nat) (h : xs.length = d) : (xs ++ [x])[d + 1 - 1]? = some x := by
  rw [Nat.add_sub_cancel, ← h]; simp
theorem one_news (w : World) (x : Value) (T : TypeId) : ∀ j u, [x][j]? = some u → (w.alloc (.cells #[x] T)).cell? ((⟨w.heap.size, 0, none⟩ : Addr).add j) = some u := by
  intro j u hj
  match j, hj with
  | 0, hj => simp at hj; subst hj; simp [Addr.add]
/-- What one round does to the generators' row. -/
theorem gen_round {f : FP} {w0 wr w3 w4 w5 : World} {en g c d cap q2 : Nat} {xs : List Value} {l2 : List (El f)} {o : Obj} {v' : Value} (he : w0.heap.size ≤ en) (hd : 1 ≤ d) (hE : EBlk wr en g (.slice (some ⟨c, 0, none⟩) d cap)) (hown : wr.ownsRow w0.heap.size 61 1 (.slice (some ⟨c, 0, none⟩) d cap) d xs)
    (hb3 : Below wr.heap.size wr w3) (hP : IsPoly w4 g q2 l2) (hF : Fr w3.heap.size w4 q2) (hb4 : Below w3.heap.size w3 w4) (hbr : Below w0.heap.size w0 wr)
    (hown' : w5.ownsRow w0.heap.size 61 1 v' (d + 1) (xs ++ [.pointer (some ⟨q2, 0, none⟩)])) (hgrow : (w4.alloc o).grownBy w5 (some c)) :
    ∃ c' cap', v' = .slice (some ⟨c', 0, none⟩) (d + 1) cap' ∧ EBlk w5 en g (.slice (some ⟨c, 0, none⟩) d cap) ∧ EncAt (w5.setCell ⟨en, 1, none⟩ v') w0.heap.size en g c' (d + 1) cap' (xs ++ [.pointer (some ⟨q2, 0, none⟩)]) ∧
      IsPoly (w5.setCell ⟨en, 1, none⟩ v') g q2 l2 ∧ Below w0.heap.size w0 (w5.setCell ⟨en, 1, none⟩ v') := by
  obtain ⟨c', cap', hv, hc1, hc2, _⟩ := own_shape hown' (by omega)
  have hcl := (World.ownsRow.lt hown c rfl)
  have hE4 : EBlk (w4.alloc o) en g _ := ((hE.later hb3).later hb4).alloc o
  have hE5 := hE4.grown hgrow (own_ne hown rfl hE)
  have hen := hE.lt
  have h3 := hb3.size
  have h4 := hb4.size
  refine ⟨c', cap', hv, hE5, ⟨he, by rw [hv]; exact hE5.set _, ?_⟩, ?_, ?_⟩
  · rw [← hv]
    exact ownsRow_setCell_other hown' (by rw [hv]; intro e; exact own_ne hown' hv hE5 (by simpa [Value.ownBlock] using e.symm)) _
  · exact ((hP.alloc o).grown (hF.alloc o) hgrow (by omega)).grown ((hF.alloc o).grown hgrow (by omega)) (grown_setCell w5 ⟨en, 1, none⟩ v') (by show en < _; omega)
  · exact ((((hbr.trans (hb3.mono hbr.size)).trans (hb4.mono (by have := hbr.size; omega))).alloc (by have := hbr.size; omega) o).grown hgrow (by have := hbr.size; simp; omega) (fun k hk => by simp at hk; omega)).setCell he _

set_option maxRecDepth 100000 in
set_option maxHeartbeats 4000000 in
theorem gen_any (f : FP) (g en c0 q0 ec : Nat) (w0 w : World) (hg0 : IsGF w0 f g) (hb0 : Below w0.heap.size w0 w) (he : EncAt w w0.heap.size en g c0 1 1 [.pointer (some ⟨q0, 0, none⟩)]) (hq0 : IsPoly w g q0 [(1 : El f)])
    (hec1 : 1 ≤ ec) (hec : ec < f.size) :
    Calls Try.prog 68 #[.pointer (some ⟨en, 0, none⟩), .int .i64 ec] w (GenRes f w0 g en ec) := by
  have hs := f.size_le
  have hbase := f.base_le
  obtain ⟨he1, he2, he3⟩ := he
  have hc0 := he2.cell0
  have hc1 := he2.cell1
  have hr0 : w.cell? ⟨c0, 0, none⟩ = some (.pointer (some ⟨q0, 0, none⟩)) := by rw [he3.cellAt 0 (by omega)]; rfl
  obtain ⟨i0, hi, hz0, hz1, hz2⟩ := info_parts Try.info61
  have hdec : decide ((1 : Int) ≤ (ec : Int)) = true := by simp; omega
  go_enter Try.func68, Try.ntmps68
  go_wp2
  go_loopw [6, 7] (fun x y wr => ∃ (d c cap : Nat) (xs : List Value) (q : Nat) (l : List (El f)), 1 ≤ d ∧ d ≤ ec + 1 ∧ y = .int .i64 (d : Int) ∧ x = .pointer (some ⟨q, 0, none⟩) ∧ EncAt wr w0.heap.size en g c d cap xs ∧
    xs[d - 1]? = some (.pointer (some ⟨q, 0, none⟩)) ∧ IsPoly wr g q l ∧ Hid (ps l = gens f (d - 1)) ∧ Below w0.heap.size w0 wr) (fun _ y _ => ec + 1 - (intOf y).toNat)
  case atStart => exact ⟨1, c0, 1, _, q0, [1], Nat.le_refl _, by omega, rfl, rfl, ⟨he1, he2, he3⟩, rfl, hq0, by exact (ps_singleton _), hb0⟩
  case round =>
    obtain ⟨d, c, cap, xs, q, l, hd1, hd2, rfl, rfl, ⟨_, hE, hown⟩, hx, hq, hps, hbr⟩ := hrel
    have hce0 := hE.cell0
    have hce1 := hE.cell1
    have hxl : xs.length = d := by have := hown.1; omega
    by_cases hlt : d ≤ ec
    · have hgr := (hg0.later hbr)
      obtain ⟨k, hk⟩ : ∃ k, d = k + 1 := ⟨d - 1, by omega⟩
      have ek : IntKind.i64.wrap ((d : Int) - 1) = k := by rw [show (d : Int) - 1 = k from by omega]; exact wrap_i64_nat _ (by omega)
      have eb : IntKind.i64.wrap ((k : Int) + f.base) = ((k + f.base : Nat) : Int) := by rw [← Int.natCast_add]; exact wrap_i64_nat _ (by omega)
      obtain ⟨kb, hkb⟩ : ∃ kb, kb = k + f.base := ⟨_, rfl⟩
      rw [← hkb] at eb
      have hkbs : kb < f.size := by omega
      have hk1 : k + 1 ≤ d := by omega
      have HK := Lib.hid hk
      have HKB := Lib.hid hkb
      have HX := Lib.hid hx
      have HXL := Lib.hid hxl
      clear hk hkb hx hxl
      go_wp2_with fail
      go_region_held3 (fun w' => w'.cell? ⟨en, 0, none⟩ = some (.pointer (some ⟨g, 0, none⟩))) (first | go_keep | exact (cell_later hbl (by go_simp)))
        (first | (go_at_call 82; refine (getbase_any (f := f) g _ ?_).mono ?_; (first | exact hgr | exact hgr.drew | exact hgr.drew.drew); rintro e w' ⟨rfl, rfl⟩)
               | (go_at_call 81; refine (exp_any (f := f) g kb hkbs _ ?_).mono ?_; (first | exact hgr | exact hgr.drew | exact hgr.drew.drew); rintro e w' ⟨rfl, rfl⟩)
               | (go_at_call 66; refine (newpoly_at (f := f) g wr.heap.size 0 2 2 [1, El.exp f kb] rfl (by omega) (by omega) (Nat.le_refl _) _ (two_cells' wr _)).mono ?_; rintro e w3 ⟨q1, l1, rfl, hP1, hps1, hl1, hbl⟩))
      have hb3 : Below wr.heap.size wr w3 := (((Below.refl _ _).alloc (Nat.le_refl _) _).drew).trans (hbl.mono (by simp))
      have HP1 := Lib.hid hps1
      clear hps1 hbl
      have hl1 : ps l = gens f k := by rw [hps.out, HK.out, Nat.add_sub_cancel]
      have hlen := gens_len hq.1 hl1
      have hz1' := gens_ne hl1
      have hz2' : isZ l1 = false := lin_ne (by rw [HP1.out, ps_lin])
      have HL1 := Lib.hid hl1
      clear hl1 hps
      have hq3 := hq.later hb3
      have hce3 := cell_later hb3 hce0
      go_wp2_with fail
      refine (mulpoly_nz g q q1 l l1 w3 (hgr.later hb3) hq3 hP1 (by omega) hz1' hz2').mono ?_
      rintro e w4 ⟨q2, l2, rfl, hP2, hps2, hl2, hb4, hF2⟩
      have HP2 : Hid (ps l2 = gens f (d + 1 - 1)) := by
        rw [hps2, HL1.out, HP1.out, ps_lin, Nat.add_sub_cancel, HK.out, HKB.out]; rfl
      have hce4 := cell_later hb4 (cell_later hb3 hce1)
      have hown4 := own_below (own_below hown hb3) hb4
      have hb4' : w0.heap.size ≤ (w4.alloc (.cells #[.pointer (some ⟨q2, 0, none⟩)] 61)).heap.size := by have h1 := hbr.size; have h2 := hb3.size; have h3 := hb4.size; simp; omega
      clear hps2
      go_wp2_with (at_builtin; refine wpList_append_own _ rfl _ _ 62 rfl w0.heap.size 61 i0 (.pointer none) 1 8 Try.underlying62 hi hz0 hz1 hz2 rfl (by decide) _ _ _ rfl (hown4.alloc _) ⟨w4.heap.size, 0, none⟩ 1 1 [.pointer (some ⟨q2, 0, none⟩)] rfl rfl (one_news _ _ _) (by simp [Value.oneCell']) (by unfold maxLen; omega) (by omega) hb4' ?_; intro v' w5 hown' hgrow _; have HR := gen_round he1 hd1 hE hown hb3 hP2 hF2 hb4 hbr hown' hgrow; clear hown' hgrow; obtain ⟨c', cap', rfl, hE5, hR⟩ := HR; have hx5 := hE5.cell1; have hf5 := hE5.frozen 1; have HR := Lib.hid hR; clear hR)
      go_roundw
      case rel => exact ⟨d + 1, c', cap', _, q2, l2, by omega, by omega, by go_num, rfl, HR.out.1, last_get _ _ _ HXL.out, HR.out.2.1, HP2, HR.out.2.2⟩
      case measure => simp [intOf]; omega
    · have e : d = ec + 1 := by omega
      have hce : wr.cell? ⟨c, ec, none⟩ = some (.pointer (some ⟨q, 0, none⟩)) := by rw [hown.cellAt ec (by omega), show ec = d - 1 from by omega]; exact hx
      have HF : Hid (GenRes f w0 g en ec (.returned (.pointer (some ⟨q, 0, none⟩))) wr) := ⟨q, l, rfl, hq, by rw [hps.out, e, Nat.add_sub_cancel], hce0, hbr⟩
      have hce2 : (ec : Int) < d := by omega
      clear e hx hxl
      go_wp2
      go_ret
      exact HF.out
end Go.Proofs.Ytjgclomokekogaa
