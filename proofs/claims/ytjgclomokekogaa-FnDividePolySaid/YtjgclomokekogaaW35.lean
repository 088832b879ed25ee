/- The reference's sum of two polynomials. -/
import Derived.Test.YtjgclomokekogaaW34
namespace Go.Proofs.Ytjgclomokekogaa
open Go.RowKit Rs

theorem own_elemsC' {w : World} {B A N cap : Nat} {xs : List Value} (h : w.ownsRow B 3 1 (.slice (some ⟨A, 0, none⟩) N cap) N xs) (_h1 : 1 ≤ N) : cap ≤ maxLen := by
  rcases h.2 with ⟨h5, _⟩ | ⟨g, cap', cur, h5, _, _, _, h6, _⟩
  · simp at h5
  · simp only [Value.slice.injEq, Option.some.injEq, Addr.mk.injEq, and_true, true_and] at h5
    obtain ⟨_, rfl⟩ := h5; exact h6
set_option maxRecDepth 100000 in
set_option maxHeartbeats 8000000 in
theorem specadd_any {f : FP} (va vb : Value) (a b : List (El f)) (w : World) (ha : Elems w va a) (hb : Elems w vb b) (hd : a.length + b.length ≤ 100000) :
    Calls Try.prog 23 #[va, vb] w (ProdR (ps a + ps b) w) := by
  obtain ⟨ba, oa, ca, rfl, hapos, hma, ha⟩ := ha
  obtain ⟨bb, ob, cb, rfl, hbpos, hmb, hb⟩ := hb
  unfold maxLen at hma hmb
  have HA := Lib.hid ha
  have HB := Lib.hid hb
  clear ha hb
  by_cases hlen : a.length < b.length
  · have e1 := decide_eq_true hlen
    obtain ⟨ld, hld⟩ : ∃ ld, b.length = ld + a.length := ⟨b.length - a.length, by omega⟩
    obtain ⟨T, hTp, hTl, hTt, hTs⟩ := sum_facts a b ld hld
    have HTP := Lib.hid hTp
    have HTT := Lib.hid hTt
    have HTS := Lib.hid hTs
    have hl1 : ld + a.length ≤ b.length := by omega
    have hl2 : b.length ≤ ld + a.length := by omega
    have hT1 : T.length ≤ b.length := by omega
    have hT2 : b.length ≤ T.length := by omega
    have em : IntKind.i64.wrap ((b.length : Int) - (a.length : Int)) = (ld : Int) := by rw [show (b.length : Int) - (a.length : Int) = (ld : Int) from by omega]; exact wrap_i64_nat _ (by omega)
    clear hlen hld hTp hTl hTt hTs
    go_enter Try.func23, Try.ntmps23
    go_wp2_with ((with_reducible show wpList _ _ _ (⟨some 16, _, _, _, _, _⟩ :: _) _ _); refine append_on (o := ⟨some 16, _, _, _, _, _⟩) (.tmp 14) (.tmp 15) rfl rfl w.heap.size 0 _ [] rfl (lit_own' f w) bb ob b.length cb b rfl rfl (HB.out.later ((Below.refl _ _).alloc (Nat.le_refl _) _)) b.length (by omega) (by omega) (by omega) (by simp) ?_; intro c4 cap4 w4 hown4 hg4; have hg4' : (w.alloc (.cells #[] 3)).grownBy w4 (some w.heap.size) := hg4; have hb4 : Below w.heap.size w w4 := ((Below.refl _ _).alloc (Nat.le_refl _) _).grown hg4' (by simp) (by intro k' hk'; simp only [Option.some.injEq] at hk'; omega); have hown5 := own_elemsC' hown4 (by omega); have hc4 := (own_le hown4 (by omega)).1; have hcp4 := (own_le hown4 (by omega)).2.2)
    obtain ⟨r4, hr4⟩ := own_blkr (f := f) hown4
    rw [List.nil_append] at hr4
    have HMX := Lib.hid hown5
    clear hown4 hown5 hg4 hg4'
    go_loopw [6, 19] (fun p x wr => ∃ i : Nat, i ≤ a.length ∧ x = .int .i64 (i : Int) ∧ BlkR wr c4 (T.take (ld + i) ++ b.drop (ld + i)) r4 ∧ Below w.heap.size w wr) (fun _ x _ => a.length - (intOf x).toNat)
    case atStart => exact ⟨0, by omega, rfl, by rw [Nat.add_zero, HTT.out, List.take_append_drop]; exact hr4, hb4⟩
    case round =>
      obtain ⟨i, hi, rfl, hB, hbr⟩ := hrel
      by_cases hlt : i < a.length
      · obtain ⟨k, hke⟩ : ∃ k, k = ld + i := ⟨_, rfl⟩
        have ek : IntKind.i64.wrap ((ld : Int) + (i : Int)) = (k : Int) := by rw [show (ld : Int) + (i : Int) = (k : Int) from by omega]; exact wrap_i64_nat _ (by omega)
        have hkL : k < b.length := by omega
        have hkT : k < T.length := by omega
        rw [← hke] at hB
        have hlenm : (T.take k ++ b.drop k).length = b.length := by rw [List.length_append, List.length_take, List.length_drop]; omega
        have hxd := hB.cell k (by omega)
        rw [mix_get b T k (by omega) hkT] at hxd
        have hfz := hB.frozen k
        have hxs := (HA.out.later hbr) i hlt
        have hi0 : (0 : Int) ≤ (i : Int) := by omega
        have hi1 : (i : Int) < (a.length : Int) := by omega
        have hk0 : (0 : Int) ≤ (k : Int) := by omega
        have hk1 : (k : Int) < (b.length : Int) := by omega
        have hxe := xor_el b[k] a[i]
        have HV : Hid (∀ w', Ext wr w' → BlkR (w'.setCell ⟨c4, k, none⟩ (.int .i64 (b[k] + a[i]).val)) c4 (T.take (k + 1) ++ b.drop (k + 1)) r4) := by
          intro w' hw'
          have h1 := (hB.later hw').set k (by omega) (b[k] + a[i])
          have h2 : (b[k] + a[i] : El f) = T[k] := by
            have h3 := HTS.out i hlt (by omega) (by omega)
            subst hke
            rw [← h3]; exact Ring2.add_comm _ _
          rw [h2, mix_set b T k (by omega) hkT] at h1
          rw [h2]; exact h1
        have HBi := Lib.hid hB
        have HK := Lib.hid hke
        clear hke hB hlenm
        go_wp2_with fail
        refine wp_region_head_tail (C := Ext wr) 16 (by kernel_rfl) (by kernel_rfl) (Ext.drew1 wr) ?_
        have hq1 := Ext.cell hxs
        have hq3 := Ext.cell hxd
        clear hxs hxd
        simp only [List.take_succ_cons, List.take_zero, List.drop_succ_cons, List.drop_zero]
        iterate 16 (refine head_op (v := ?_) rfl (fun w' hw' => ?_) (fun K hK => ?_); rotate_left; (focus (go_simp; try rfl)); go_simp; refine hK _ ?_; clear hK K)
        refine wpQuiet_nil ?_
        intro w' hw'
        have hxd' := hq3 w' hw'
        have hfz' := (HBi.out.later hw').frozen k
        clear hq1 hq3
        go_wp2
        go_roundw
        case rel => exact ⟨i + 1, by omega, by go_num, by rw [← Nat.add_assoc, ← HK.out]; exact HV.out w' hw', (hbr.trans (hw'.mono hbr.size)).setCell hc4 _⟩
        case measure => simp [intOf]; omega
      · have HE : Hid (T.take (ld + i) ++ b.drop (ld + i) = T) := by
          show _ = _
          rw [List.take_of_length_le (by omega), List.drop_eq_nil_of_le (by omega), List.append_nil]
        have HC : Hid (ElemsC wr (.slice (some ⟨c4, 0, none⟩) b.length cap4) T) := by
          have h1 := hB
          rw [HE.out] at h1
          exact ⟨c4, 0, cap4, by rw [show T.length = b.length from by omega], by omega, by omega, HMX.out, h1.cells⟩
        have HP : Hid (ps (trimL T) = ps a + ps b) := by show _ = _; rw [trimL_ps, HTP.out]
        have hT3 : 1 ≤ T.length := by omega
        clear hB
        go_wp2_with (go_at_call 22; refine (trim_any _ T _ HC.out).mono ?_; rintro e w3 ⟨v3, rfl, hv3, rfl⟩)
        go_ret
        exact ⟨v3, trimL T, rfl, hv3, trimL_nf _ hT3, HP.out, hbr⟩
  · have e1 := decide_eq_false hlen
    obtain ⟨ld, hld⟩ : ∃ ld, a.length = ld + b.length := ⟨a.length - b.length, by omega⟩
    obtain ⟨T, hTp, hTl, hTt, hTs⟩ := sum_facts b a ld hld
    have HTP := Lib.hid hTp
    have HTT := Lib.hid hTt
    have HTS := Lib.hid hTs
    have hl1 : ld + b.length ≤ a.length := by omega
    have hl2 : a.length ≤ ld + b.length := by omega
    have hT1 : T.length ≤ a.length := by omega
    have hT2 : a.length ≤ T.length := by omega
    have em : IntKind.i64.wrap ((a.length : Int) - (b.length : Int)) = (ld : Int) := by rw [show (a.length : Int) - (b.length : Int) = (ld : Int) from by omega]; exact wrap_i64_nat _ (by omega)
    clear hlen hld hTp hTl hTt hTs
    go_enter Try.func23, Try.ntmps23
    go_wp2_with ((with_reducible show wpList _ _ _ (⟨some 16, _, _, _, _, _⟩ :: _) _ _); refine append_on (o := ⟨some 16, _, _, _, _, _⟩) (.tmp 14) (.tmp 15) rfl rfl w.heap.size 0 _ [] rfl (lit_own' f w) ba oa a.length ca a rfl rfl (HA.out.later ((Below.refl _ _).alloc (Nat.le_refl _) _)) a.length (by omega) (by omega) (by omega) (by simp) ?_; intro c4 cap4 w4 hown4 hg4; have hg4' : (w.alloc (.cells #[] 3)).grownBy w4 (some w.heap.size) := hg4; have hb4 : Below w.heap.size w w4 := ((Below.refl _ _).alloc (Nat.le_refl _) _).grown hg4' (by simp) (by intro k' hk'; simp only [Option.some.injEq] at hk'; omega); have hown5 := own_elemsC' hown4 (by omega); have hc4 := (own_le hown4 (by omega)).1; have hcp4 := (own_le hown4 (by omega)).2.2)
    obtain ⟨r4, hr4⟩ := own_blkr (f := f) hown4
    rw [List.nil_append] at hr4
    have HMX := Lib.hid hown5
    clear hown4 hown5 hg4 hg4'
    go_loopw [6, 19] (fun p x wr => ∃ i : Nat, i ≤ b.length ∧ x = .int .i64 (i : Int) ∧ BlkR wr c4 (T.take (ld + i) ++ a.drop (ld + i)) r4 ∧ Below w.heap.size w wr) (fun _ x _ => b.length - (intOf x).toNat)
    case atStart => exact ⟨0, by omega, rfl, by rw [Nat.add_zero, HTT.out, List.take_append_drop]; exact hr4, hb4⟩
    case round =>
      obtain ⟨i, hi, rfl, hB, hbr⟩ := hrel
      by_cases hlt : i < b.length
      · obtain ⟨k, hke⟩ : ∃ k, k = ld + i := ⟨_, rfl⟩
        have ek : IntKind.i64.wrap ((ld : Int) + (i : Int)) = (k : Int) := by rw [show (ld : Int) + (i : Int) = (k : Int) from by omega]; exact wrap_i64_nat _ (by omega)
        have hkL : k < a.length := by omega
        have hkT : k < T.length := by omega
        rw [← hke] at hB
        have hlenm : (T.take k ++ a.drop k).length = a.length := by rw [List.length_append, List.length_take, List.length_drop]; omega
        have hxd := hB.cell k (by omega)
        rw [mix_get a T k (by omega) hkT] at hxd
        have hfz := hB.frozen k
        have hxs := (HB.out.later hbr) i hlt
        have hi0 : (0 : Int) ≤ (i : Int) := by omega
        have hi1 : (i : Int) < (b.length : Int) := by omega
        have hk0 : (0 : Int) ≤ (k : Int) := by omega
        have hk1 : (k : Int) < (a.length : Int) := by omega
        have hxe := xor_el a[k] b[i]
        have HV : Hid (∀ w', Ext wr w' → BlkR (w'.setCell ⟨c4, k, none⟩ (.int .i64 (a[k] + b[i]).val)) c4 (T.take (k + 1) ++ a.drop (k + 1)) r4) := by
          intro w' hw'
          have h1 := (hB.later hw').set k (by omega) (a[k] + b[i])
          have h2 : (a[k] + b[i] : El f) = T[k] := by
            have h3 := HTS.out i hlt (by omega) (by omega)
            subst hke
            rw [← h3]; exact Ring2.add_comm _ _
          rw [h2, mix_set a T k (by omega) hkT] at h1
          rw [h2]; exact h1
        have HBi := Lib.hid hB
        have HK := Lib.hid hke
        clear hke hB hlenm
        go_wp2_with fail
        refine wp_region_head_tail (C := Ext wr) 16 (by kernel_rfl) (by kernel_rfl) (Ext.drew1 wr) ?_
        have hq1 := Ext.cell hxs
        have hq3 := Ext.cell hxd
        clear hxs hxd
        simp only [List.take_succ_cons, List.take_zero, List.drop_succ_cons, List.drop_zero]
        iterate 16 (refine head_op (v := ?_) rfl (fun w' hw' => ?_) (fun K hK => ?_); rotate_left; (focus (go_simp; try rfl)); go_simp; refine hK _ ?_; clear hK K)
        refine wpQuiet_nil ?_
        intro w' hw'
        have hxd' := hq3 w' hw'
        have hfz' := (HBi.out.later hw').frozen k
        clear hq1 hq3
        go_wp2
        go_roundw
        case rel => exact ⟨i + 1, by omega, by go_num, by rw [← Nat.add_assoc, ← HK.out]; exact HV.out w' hw', (hbr.trans (hw'.mono hbr.size)).setCell hc4 _⟩
        case measure => simp [intOf]; omega
      · have HE : Hid (T.take (ld + i) ++ a.drop (ld + i) = T) := by
          show _ = _
          rw [List.take_of_length_le (by omega), List.drop_eq_nil_of_le (by omega), List.append_nil]
        have HC : Hid (ElemsC wr (.slice (some ⟨c4, 0, none⟩) a.length cap4) T) := by
          have h1 := hB
          rw [HE.out] at h1
          exact ⟨c4, 0, cap4, by rw [show T.length = a.length from by omega], by omega, by omega, HMX.out, h1.cells⟩
        have HP : Hid (ps (trimL T) = ps a + ps b) := by show _ = _; rw [trimL_ps, HTP.out]; exact Ring2.add_comm _ _
        have hT3 : 1 ≤ T.length := by omega
        clear hB
        go_wp2_with (go_at_call 22; refine (trim_any _ T _ HC.out).mono ?_; rintro e w3 ⟨v3, rfl, hv3, rfl⟩)
        go_ret
        exact ⟨v3, trimL T, rfl, hv3, trimL_nf _ hT3, HP.out, hbr⟩
end Go.Proofs.Ytjgclomokekogaa
