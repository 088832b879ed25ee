/- The reference's check symbols. -/
import Derived.Test.YtjgclomokekogaaW27
import Derived.Deep.DeepCutAuto
namespace Go.Proofs.Ytjgclomokekogaa
open Go.RowKit Rs

/-- The register behind k symbols. -/
def Lf {f : FP} (ec : Nat) (D rest : List (El f)) : Prop := rest.length = ec ∧ ∃ Q : Ps (El f), Po Q ∧ mon 1 ec * ps D = Q * gens f ec + ps rest
theorem Lf.start {f : FP} (ec : Nat) : Lf ec ([] : List (El f)) (List.replicate ec 0) :=
  ⟨by simp, 0, Po.zero, by rw [ps_zeros, zero_mul]; exact (mul_zero _).trans (Ring2.add_zero _).symm⟩
theorem Lf.step {f : FP} {ec : Nat} {D rt gt : List (El f)} {r0 : El f} (h : Lf ec D (r0 :: rt)) (d : El f) (hg : ps ((1 : El f) :: gt) = gens f ec) (hgt : gt.length = ec) :
    Lf ec (D ++ [d]) (List.zipWith (· + ·) (rt ++ [0]) (gt.map (· * (d + r0)))) := by
  obtain ⟨hl, Q, hQ, he⟩ := h
  simp only [List.length_cons] at hl
  exact ⟨by simp; omega, mon 1 1 * Q + mon (d + r0) 0, ((Po.mon _ _).mul hQ).add (Po.mon _ _), lfsr_step hg hgt hl he⟩
theorem Lf.word {f : FP} {ec : Nat} {D rest : List (El f)} (h : Lf ec D rest) : Word f ec (D ++ rest) := by
  obtain ⟨hl, Q, hQ, he⟩ := h
  refine ⟨Q, hQ, ?_⟩
  rw [ps_append, hl, he, Ring2.add_assoc, Ring2.add_self, Ring2.add_zero]
theorem gens_head {f : FP} {ec : Nat} {g : List (El f)} (hg : ps g = gens f ec) (hl : g.length = ec + 1) : ∃ gt, g = 1 :: gt ∧ gt.length = ec := by
  cases g with
  | nil => simp at hl
  | cons c t =>
    simp only [List.length_cons, Nat.add_right_cancel_iff] at hl
    refine ⟨t, ?_, hl⟩
    have h1 := ps_head c t
    rw [hg, hl, gens_top] at h1
    rw [h1]

def CheckR (f : FP) (ec : Nat) (data : List (El f)) (w : World) (e : Ending) (w' : World) : Prop :=
  ∃ A, ∃ chk : List (El f), e = .returned (.slice (some ⟨A, 0, none⟩) ec ec) ∧ chk.length = ec ∧ Word f ec (data ++ chk) ∧ Blk w' A chk ∧ w.heap.size ≤ A ∧ Below w.heap.size w w'

theorem blk_set0 {f : FP} {w : World} {D : Nat} {l : List (El f)} (h : Blk w D l) (j : Nat) : Blk (w.setCell ⟨D, j, none⟩ (.int .i64 0)) D (l.set j 0) := by
  have := h.set j 0
  rw [El.zero_val] at this
  exact this
theorem shift_end {α : Type} (r0 z : α) (rt : List α) : (rt ++ (r0 :: rt).drop rt.length).set rt.length z = rt ++ [z] := by
  rw [List.set_append_right _ _ (Nat.le_refl _), Nat.sub_self]
  congr 1
  apply List.ext_getElem
  · simp
  · intro i h1 h2
    have h0 : i = 0 := by simp at h2; omega
    subst h0
    simp
/-- What the inner loop fills in. -/
theorem fill_facts {f : FP} {ec : Nat} (rt gt : List (El f)) (lead : El f) (hr : rt.length + 1 = ec) (hg : gt.length = ec) :
    ∃ S T : List (El f), S = rt ++ [0] ∧ T = List.zipWith (· + ·) (rt ++ [0]) (gt.map (· * lead)) ∧ S.length = ec ∧ T.length = ec ∧
      ∀ i (h1 : i < S.length) (h2 : i < T.length) (h3 : i < gt.length), S[i] + lead * gt[i] = T[i] := by
  refine ⟨_, _, rfl, rfl, by simp; omega, by simp; omega, fun i h1 h2 h3 => ?_⟩
  rw [List.getElem_zipWith, List.getElem_map, Ring2.mul_comm lead]

set_option maxRecDepth 100000 in
set_option maxHeartbeats 8000000 in
theorem check_any (n : Int) (f : FP) (hf : fpn n = some f) (v : Value) (data : List (El f)) (ec : Nat) (w : World) (hv : Elems w v data) (hec1 : 1 ≤ ec) (hec : ec ≤ 300) :
    Calls Try.prog 18 #[.int .i64 n, v, .int .i64 ec] w (CheckR f ec data w) := by
  obtain ⟨b, off, cap, rfl, hl1, hcm, hc⟩ := hv
  unfold maxLen at hcm
  have HC := Lib.hid hc
  have hz : ¬ data.length = 0 := by omega
  clear hc
  obtain ⟨i0, hi, hz0, hz1, hz2⟩ := info_parts Try.info3
  go_enter Try.func18, Try.ntmps18
  go_wp2_with (first
    | (go_at_call 38; refine (fields_f n f hf _).mono ?_; rintro e w1 ⟨rfl, hb0⟩)
    | (go_at_call 39; refine (generator_any n f hf ec hec _).mono ?_; rintro e w3 ⟨vg, gl, rfl, hvg, hgp, hgl, hbg⟩)
    | (at_make; refine wpList_make_full _ rfl _ _ 22 rfl w3.heap.size 3 i0 (.int .i64 0) 1 Try.underlying22 hi hz0 hz1 .i64 .i64 _ _ ec rfl rfl rfl rfl (by rw [hz2]; omega) (by unfold maxLen; omega) (Nat.le_refl _) ?_; intro w4 hown hgrow; have hB1 : Blk w4 w3.heap.size (List.replicate ec (0 : El f)) := (made_blk hown); have hb1 : Below w3.heap.size w3 w4 := ((Below.refl _ _).grown hgrow (by simp) (by simp)); clear hown hgrow))
  obtain ⟨gt, rfl, hgt⟩ := gens_head hgp hgl
  obtain ⟨G1, hG1⟩ : ∃ G1, G1 = ec + 1 := ⟨_, rfl⟩
  obtain ⟨bg, og, cg, hveq, _, _, _, hcg⟩ := hvg
  rw [hgl, ← hG1] at hveq
  subst hveq
  have hG2 : ec + 1 ≤ G1 := by omega
  have hbg' : Below (w1.heap.size + 1) (w1.alloc (.cells #[.int .i64 f.size, .int .i64 f.p, .int .i64 f.base] 53)) w3 := hbg.mono (by simp)
  have hb3 : Below w.heap.size w w3 := ext_make hb0 hbg'
  obtain ⟨ha0, ha1, ha2⟩ := agg3 hbg'
  have HG := Lib.hid hcg
  have HC3 := Lib.hid (HC.out.later hb3)
  have HGP := Lib.hid hgp
  have HGT := Lib.hid hgt
  have hs3 := hb3.size
  have hgt1 : gt.length ≤ ec := by omega
  have hgt2 : ec ≤ gt.length := by omega
  clear hcg hgp hgl hgt hbg hG1
  go_loopw [12, 13, 14, 28] (fun p q r x wr => ∃ (k : Nat) (rest : List (El f)), k ≤ data.length ∧ x = .int .i64 (k : Int) ∧ Blk wr w3.heap.size rest ∧ Lf ec (data.take k) rest ∧ Below w3.heap.size w3 wr) (fun _ _ _ x _ => data.length - (intOf x).toNat)
  case atStart => exact ⟨0, _, by omega, rfl, hB1, Lf.start ec, hb1⟩
  case round =>
    obtain ⟨k, rest, hk, rfl, hB, hL, hbr⟩ := hrel
    by_cases hlt : k < data.length
    · cases rest with
      | nil => have := hL.1; simp at this; omega
      | cons r0 rt =>
        have hrt1 : rt.length + 1 ≤ ec := by have := hL.1; simp at this; omega
        have hrt2 : ec ≤ rt.length + 1 := by have := hL.1; simp at this; omega
        have hx := (HC3.out.later hbr) k hlt
        have hx0 : wr.cell? ⟨w3.heap.size, 0, none⟩ = some (.int .i64 r0.val) := hB.cell 0 (by simp)
        have hxl := xor_el data[k] r0
        have HS0 := hL.step data[k] HGP.out HGT.out
        obtain ⟨m, hm⟩ : ∃ m, m = rt.length := ⟨_, rfl⟩
        have em : IntKind.i64.wrap ((ec : Int) - 1) = (m : Int) := by rw [show (ec : Int) - 1 = (m : Int) from by omega]; exact wrap_i64_nat _ (by omega)
        have hm0 : (0 : Int) ≤ (m : Int) := by omega
        have hm1 : (m : Int) < (ec : Int) := by omega
        obtain ⟨S, T, hS, hT, hSl, hTl, hST⟩ := fill_facts rt gt (data[k] + r0) (by omega) HGT.out
        rw [← hT] at HS0
        have HS := Lib.hid HS0
        have HT : Hid (data.take k ++ [data[k]] = data.take (k + 1)) := by show _ = _; rw [List.take_succ_eq_append_getElem hlt]
        have HB := Lib.hid hB
        have HST := Lib.hid hST
        have HSe : Hid ((rt ++ (r0 :: rt).drop rt.length).set m 0 = S) := by show _ = _; rw [hm, hS]; exact shift_end r0 0 rt
        have hS1 : S.length ≤ ec := by omega
        have hS2 : ec ≤ S.length := by omega
        have hT1 : T.length ≤ ec := by omega
        have hT2 : ec ≤ T.length := by omega
        have HCP : Hid (∀ (j : Nat) (v : Value), (vs rt)[j]? = some v → wr.cell? ⟨w3.heap.size, 1 + j, none⟩ = some v) := by
          intro j v hj
          obtain ⟨h1, h2⟩ := List.getElem?_eq_some_iff.1 hj
          rw [vs_length] at h1
          have := hB.cell (1 + j) (by simp; omega)
          rw [this, ← h2]
          simp [vs, Nat.add_comm 1 j]
        have HSP : Hid (∀ w' : World, Hid (w'.heap[w3.heap.size]? = some (.cells (splice (vs (r0 :: rt)) 0 (vs rt)).toArray 3 (0, 0))) → Hid (Blk w' w3.heap.size (rt ++ (r0 :: rt).drop rt.length))) := by
          intro w' h
          have h1 := h.out
          rw [splice_vs, Nat.zero_add, List.take_zero, List.nil_append] at h1
          exact h1
        clear hB hL HS0 hST hS hT hSl hTl hm
        go_upto_region 8 with fail
        go_cut [40] (fun _ wx => Hid (Blk wx w3.heap.size (rt ++ (r0 :: rt).drop rt.length)) ∧ Below w3.heap.size w3 wx)
        case first =>
          go_wp2_with ((with_reducible show wpList _ _ _ (⟨some 40, _, _, _, _, _⟩ :: _) _ _); refine wpList_copy_splice (o := ⟨some 40, _, _, _, _, _⟩) rfl (.tmp 37) (.tmp 39) 22 22 rfl 3 Try.underlying22 Try.size3 _ _ _ _ _ _ rfl rfl w3.heap.size 0 (vs (r0 :: rt)) 3 HB.out.out (vs rt) ?c1 ?c2 ?c3 ?c4 w3.heap.size w3 hbr (Nat.le_refl _) ?c5)
          all_goals first
            | exact vs_one _
            | exact fun _ => HCP.out
            | (intro h0; rw [vs_length] at h0; omega)
            | (rw [vs_length, vs_length, List.length_cons]; omega)
            | (rw [vs_length]; show _ = min _ _; omega)
            | (intro w5 hblk hb5; have HN := HSP.out w5 hblk; clear hblk; (try (rename ec = 1 => hq; subst hq)); go_wp2_with fail; go_meet; exact ⟨HN, hb5⟩)
        case rest =>
          obtain ⟨hB2, hb2⟩ := hcut
          have HB3 := Lib.hid (blk_set0 hB2.out m)
          rw [HSe.out] at HB3
          have hid3 : ∃ z, wc.cell? ⟨w3.heap.size, m, none⟩ = some z := ⟨_, hB2.out.cell m (by rw [List.length_append]; simp; omega)⟩
          obtain ⟨z, hz3⟩ := hid3
          have hfz3 := hB2.out.frozen m
          clear hB2
          go_wp2_with fail
          go_loopw [14, 46] (fun p x wr2 => ∃ i : Nat, i ≤ ec ∧ x = .int .i64 (i : Int) ∧ Blk wr2 w3.heap.size (T.take i ++ S.drop i) ∧ Below w3.heap.size w3 wr2) (fun _ x _ => ec - (intOf x).toNat)
          case atStart => exact ⟨0, by omega, rfl, by rw [List.take_zero, List.drop_zero]; exact HB3.out, hb2.setCell (Nat.le_refl _) _⟩
          case round =>
            obtain ⟨i, hi, rfl, hBi, hbi⟩ := hrel
            by_cases hlt2 : i < ec
            · have hiS : i < S.length := by omega
              have hiT : i < T.length := by omega
              have hiG : i < gt.length := by omega
              have hlen : (T.take i ++ S.drop i).length = ec := by rw [List.length_append, List.length_take, List.length_drop]; omega
              have hxd := hBi.cell i (by omega)
              rw [mix_get S T i (by omega) hiT] at hxd
              have hfz := hBi.frozen i
              have hc0 := cell_later hbi ha0
              have hc1 := cell_later hbi ha1
              have hc2 := cell_later hbi ha2
              obtain ⟨k', hke⟩ : ∃ k', k' = i + 1 := ⟨_, rfl⟩
              have ek : IntKind.i64.wrap ((i : Int) + 1) = (k' : Int) := by rw [show (i : Int) + 1 = (k' : Int) from by omega]; exact wrap_i64_nat _ (by omega)
              have hk1 : (0 : Int) ≤ (k' : Int) := by omega
              have hk2 : (k' : Int) < (G1 : Int) := by omega
              have hxg : wr.cell? ⟨bg, og + k', none⟩ = some (.int .i64 gt[i].val) := by
                have := (HG.out.later hbi) k' (by rw [List.length_cons]; omega)
                subst hke
                rw [List.getElem_cons_succ] at this
                exact this
              have hxe := xor_el S[i] ((data[k] + r0) * gt[i])
              have HV : Hid (∀ w', Ext wr w' → Blk (w'.setCell ⟨w3.heap.size, i, none⟩ (.int .i64 (S[i] + (data[k] + r0) * gt[i]).val)) w3.heap.size (T.take (i + 1) ++ S.drop (i + 1))) := by
                intro w' hw'
                have h1 := (Ext.blk hBi hw').set i (S[i] + (data[k] + r0) * gt[i])
                rw [HST.out i hiS hiT hiG, mix_set S T i (by omega) hiT] at h1
                rw [HST.out i hiS hiT hiG]
                exact h1
              have HBi := Lib.hid hBi
              have HK' := Lib.hid hke
              have hi0 : (0 : Int) ≤ (i : Int) := by omega
              have hi1 : (i : Int) < (ec : Int) := by omega
              clear hke hBi hlen
              go_wp2_with fail
              refine wp_region_head_tail (C := Ext wr) 14 (by kernel_rfl) (by kernel_rfl) (Ext.drew1 wr) ?_
              have hq0 := Ext.cell hc0
              have hq1 := Ext.cell hc1
              have hq2 := Ext.cell hc2
              have hq3 := Ext.cell hxd
              have hq4 := Ext.cell hxg
              clear hc0 hc1 hc2 hxd hxg
              simp only [List.take_succ_cons, List.take_zero, List.drop_succ_cons, List.drop_zero]
              iterate 11 (refine head_op (v := ?_) rfl (fun w' hw' => ?_) (fun K hK => ?_); rotate_left; (focus (go_simp; try rfl)); go_simp; refine hK _ ?_; clear hK K)
              (refine head_call rfl (fun w' hw' => ?_) (times_ext (data[k] + r0) gt[i]) (fun K hK => ?_); (focus go_simp); go_simp; refine hK _ ?_; clear hK K)
              iterate 2 (refine head_op (v := ?_) rfl (fun w' hw' => ?_) (fun K hK => ?_); rotate_left; (focus (go_simp; try rfl)); go_simp; refine hK _ ?_; clear hK K)
              refine wpQuiet_nil ?_
              intro w' hw'
              have hxd' := hq3 w' hw'
              have hfz' := (Ext.blk HBi.out hw').frozen i
              clear hq0 hq1 hq2 hq3 hq4
              go_wp2
              go_roundw
              case rel => exact ⟨i + 1, by omega, by rw [← HK'.out], HV.out w' hw', (hbi.trans (hw'.mono hbi.size)).setCell (Nat.le_refl _) _⟩
              case measure => simp only [intOf]; have := HK'.out; omega
            · have HE : Hid (T.take i ++ S.drop i = T) := by
                show _ = _
                rw [List.take_of_length_le (by omega), List.drop_eq_nil_of_le (by omega), List.append_nil]
              have HBi : Hid (Blk wr w3.heap.size T) := by have := hBi; rw [HE.out] at this; exact this
              clear hBi
              go_wp2
              go_roundw
              case rel => exact ⟨k + 1, T, by omega, by go_num, HBi.out, by rw [← HT.out]; exact HS.out, hbi⟩
              case measure => simp [intOf]; omega
    · have HF : Hid (CheckR f ec data w (.returned (.slice (some ⟨w3.heap.size, 0, none⟩) ec ec)) wr) := by
        have he : data.take k = data := List.take_of_length_le (by omega)
        rw [he] at hL
        exact ⟨w3.heap.size, rest, rfl, hL.1, hL.word, hB, hs3, hb3.trans (hbr.mono hs3)⟩
      clear hL hB
      go_wp2
      go_ret
      exact HF.out
end Go.Proofs.Ytjgclomokekogaa
