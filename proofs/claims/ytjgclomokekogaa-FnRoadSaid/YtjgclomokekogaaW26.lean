/- The reference's product of two polynomials. -/
import Derived.Test.YtjgclomokekogaaW25
namespace Go.Proofs.Ytjgclomokekogaa
open Go.RowKit Rs

theorem heap_size_alloc (w : World) (o : Obj) : (w.alloc o).heap.size = w.heap.size + 1 := by simp
/-- A polynomial that the reference made. -/
def ProdR {f : FP} (P : Ps (El f)) (w : World) (e : Ending) (w' : World) : Prop := ∃ v, ∃ l : List (El f), e = .returned v ∧ ElemsC w' v l ∧ Nf l ∧ ps l = P ∧ Below w.heap.size w w'

set_option maxRecDepth 100000 in
set_option maxHeartbeats 8000000 in
theorem product_any (n : Int) (f : FP) (hf : fpn n = some f) (va vb : Value) (a b : List (El f)) (w : World) (ha : Elems w va a) (hb : Elems w vb b) (hd : a.length + b.length ≤ 100000) :
    Calls Try.prog 24 #[.int .i64 n, va, vb] w (ProdR (ps a * ps b) w) := by
  obtain ⟨ba, oa, ca, rfl, hapos, hma, ha⟩ := ha
  obtain ⟨bb, ob, cb, rfl, hbpos, hmb, hb⟩ := hb
  have halt : ba < w.heap.size := block_lt (ha 0 hapos)
  have hblt : bb < w.heap.size := block_lt (hb 0 hbpos)
  obtain ⟨N, hN⟩ : ∃ N, N = a.length + b.length - 1 := ⟨_, rfl⟩
  have eN : (a.length : Int) + b.length - 1 = N := by omega
  have hN1 : a.length + b.length ≤ N + 1 := by omega
  have hN3 : N + 1 ≤ a.length + b.length := by omega
  have hN2 : N ≤ 100000 := by omega
  have HN := Lib.hid hN
  have HA := Lib.hid ha
  have HB0 := Lib.hid hb
  clear hN ha hb
  obtain ⟨i0, hi, hz0, hz1, hz2⟩ := info_parts Try.info3
  go_enter Try.func24, Try.ntmps24
  go_wp2_with (first
    | (go_at_call 38; refine (fields_f n f hf _).mono ?_; rintro e w1 ⟨rfl, hb0⟩)
    | (at_make; refine wpList_make_full _ rfl _ _ 22 rfl (w1.heap.size + 1) 3 i0 (.int .i64 0) 1 Try.underlying22 hi hz0 hz1 .i64 .i64 _ _ N rfl rfl (by first | rfl | exact eN) (by first | rfl | exact eN) (by rw [hz2]; omega) (by unfold maxLen; omega) (by simp) ?_; intro w2 hown hgrow; have hB1 : Blk w2 (w1.heap.size + 1) (List.replicate N (0 : El f)) := (by have h9 := made_blk (f := f) hown; rwa [heap_size_alloc] at h9); have hb1 : Below (w1.heap.size + 1) (w1.alloc (.cells #[.int .i64 f.size, .int .i64 f.p, .int .i64 f.base] 53)) w2 := ((Below.refl _ _).grown hgrow (by simp) (by simp)); clear hown hgrow))
  have hws := hb0.size
  go_loopw [10, 11, 12, 13, 28] (fun p q r s x wr => ∃ (i : Nat) (acc : List (El f)), i ≤ a.length ∧ x = .int .i64 (i : Int) ∧ Blk wr (w1.heap.size + 1) acc ∧ Conv a b acc N i 0 ∧ Below (w1.heap.size + 1) (w1.alloc (.cells #[.int .i64 f.size, .int .i64 f.p, .int .i64 f.base] 53)) wr) (fun _ _ _ _ x _ => a.length - (intOf x).toNat)
  case atStart => exact ⟨0, _, by omega, rfl, hB1, Conv.start a b N, hb1⟩
  case round =>
    obtain ⟨i, acc0, hile, rfl, hB0, hC0, hbr0⟩ := hrel
    obtain ⟨wo, rfl⟩ : ∃ wo : World, wo = wr := ⟨_, rfl⟩
    by_cases hilt : i < a.length
    · have hxa := (HA.out.later (ext_make hb0 hbr0)) i hilt
      have hi0 : (0 : Int) ≤ (i : Int) := by omega
      have hi1 : (i : Int) < (a.length : Int) := by omega
      go_wp2
      go_loopw [12, 13, 35] (fun p q x wr => ∃ (j : Nat) (acc : List (El f)), j ≤ b.length ∧ x = .int .i64 (j : Int) ∧ Blk wr (w1.heap.size + 1) acc ∧ Conv a b acc N i j ∧ Below (w1.heap.size + 1) (w1.alloc (.cells #[.int .i64 f.size, .int .i64 f.p, .int .i64 f.base] 53)) wr) (fun _ _ x _ => b.length - (intOf x).toNat)
      case atStart => exact ⟨0, acc0, by omega, rfl, hB0, hC0, hbr0⟩
      case round =>
        obtain ⟨j, acc, hjle, rfl, hB, hC, hbr⟩ := hrel
        by_cases hjlt : j < b.length
        · have hk : i + j < acc.length := by rw [hC.1]; omega
          have hxb := (HB0.out.later (ext_make hb0 hbr)) j hjlt
          have hxd := hB.cell (i + j) hk
          have hfz := hB.frozen (i + j)
          obtain ⟨hc0, hc1, hc2⟩ := agg3 hbr
          have hj0 : (0 : Int) ≤ (j : Int) := by omega
          have hj1 : (j : Int) < (b.length : Int) := by omega
          obtain ⟨k, hke⟩ : ∃ k, k = i + j := ⟨_, rfl⟩
          have ek : IntKind.i64.wrap ((i : Int) + j) = (k : Int) := by rw [show (i : Int) + j = (k : Int) from by omega]; exact wrap_i64_nat _ (by omega)
          have hk1 : (0 : Int) ≤ (k : Int) := by omega
          have hk2 : (k : Int) < (N : Int) := by omega
          obtain ⟨u, hu⟩ : ∃ u, u = acc[i + j] := ⟨_, rfl⟩
          rw [← hu, ← hke] at hxd
          rw [← hke] at hfz
          have hxe := xor_el u (a[i] * b[j])
          have HV : Hid (∀ w', Ext wr w' → Blk (w'.setCell ⟨w1.heap.size + 1, k, none⟩ (.int .i64 (u + a[i] * b[j]).val)) (w1.heap.size + 1) (acc.set (i + j) (acc[i + j] + a[i] * b[j]))) :=
            fun w' hw' => by subst hu; subst hke; exact (Ext.blk hB hw').set (i + j) _
          have HB := Lib.hid hB
          have HC : Hid (Conv a b (acc.set (i + j) (acc[i + j] + a[i] * b[j])) N i (j + 1)) := hC.step HN.out hilt hjlt hk
          have HK := Lib.hid hke
          clear hu hke hB hC
          go_wp2_with fail
          refine wp_region_head_tail (C := Ext wr) 12 (by kernel_rfl) (by kernel_rfl) (Ext.drew1 wr) ?_
          have hq0 := Ext.cell hc0
          have hq1 := Ext.cell hc1
          have hq2 := Ext.cell hc2
          have hq3 := Ext.cell hxd
          clear hc0 hc1 hc2 hxd hxb
          simp only [List.take_succ_cons, List.take_zero, List.drop_succ_cons, List.drop_zero]
          iterate 9 (refine head_op (v := ?_) rfl (fun w' hw' => ?_) (fun K hK => ?_); rotate_left; (focus (go_simp; try rfl)); go_simp; refine hK _ ?_; clear hK K)
          (refine head_call rfl (fun w' hw' => ?_) (times_ext a[i] b[j]) (fun K hK => ?_); (focus go_simp); go_simp; refine hK _ ?_; clear hK K)
          iterate 2 (refine head_op (v := ?_) rfl (fun w' hw' => ?_) (fun K hK => ?_); rotate_left; (focus (go_simp; try rfl)); go_simp; refine hK _ ?_; clear hK K)
          refine wpQuiet_nil ?_
          intro w' hw'
          have hxd' := hq3 w' hw'
          have hfz' := (Ext.blk HB.out hw').frozen k
          clear hq0 hq1 hq2 hq3
          go_wp2
          go_roundw
          case rel => exact ⟨j + 1, _, by omega, by go_num, HV.out w' hw', HC.out, (ext_more hbr hw').setCell (Nat.le_refl _) _⟩
          case measure => simp [intOf]; omega
        · have HC : Hid (Conv a b acc N (i + 1) 0) := by
            have e : j = b.length := by omega
            subst e; exact hC.row hilt
          clear hC
          go_wp2
          go_roundw
          case rel => exact ⟨i + 1, acc, by omega, by go_num, hB, HC.out, hbr⟩
          case measure => simp [intOf]; omega
    · have HP : Hid (ps acc0 = ps a * ps b) := hC0.2.2 (by omega)
      have HL : Hid (acc0.length = N) := hC0.1
      have HE : Hid (ElemsC wo (.slice (some ⟨w1.heap.size + 1, 0, none⟩) N N) acc0) := ⟨w1.heap.size + 1, 0, N, by rw [HL.out], by rw [HL.out]; omega, by rw [HL.out]; omega, by unfold maxLen; omega, hB0.cells⟩
      have hlen1 : 1 ≤ acc0.length := by rw [HL.out]; omega
      clear hC0 hB0
      go_wp2_with (go_at_call 22; refine (trim_any _ acc0 _ HE.out).mono ?_; rintro e w3 ⟨v3, rfl, hv3, rfl⟩)
      go_ret
      exact ⟨v3, trimL acc0, rfl, hv3, trimL_nf _ hlen1, by rw [trimL_ps, HP.out], ext_make hb0 hbr0⟩
end Go.Proofs.Ytjgclomokekogaa
