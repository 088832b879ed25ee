/- A word with some symbols changed: the statement's own function. -/
import Derived.Test.YtjgclomokekogaaD7
import Derived.Maps.OwnSet
namespace Go.Proofs.Ytjgclomokekogaa
open Go.RowKit Rs
open Go.Maps

theorem plainElem_bool_inv {H : Type} {P : Program} {e : TypeId} (he : P.underlying e = some .bool) {v : Value} {z : DataW H × List MemPlace} (h : plainElem P e v = some z) : ∃ x, v = .bool x := by
  unfold plainElem at h
  rw [he] at h
  cases v <;> first | exact ⟨_, rfl⟩ | simp at h
/-- A set's look-up: some bool. -/
theorem lookup_set {H : Type} {P : Program} (w : World) {ops : Array Oper} {rest : List Oper} {o : Oper} {a : Act} {Q : Exit → Act → World → Prop}
    (hg : o.guard = none) (m x : Operand) (t : TypeId) (hop : o.op = Op.lookup t m x false)
    (k e : TypeId) (K : Keyed P k) (ht : P.underlying t = some (.map k e)) (he : P.underlying e = some .bool) (hz : (zeroValue e).run P w = .ok (.bool false) w) (b n : Nat) (D : DataW H)
    (hm : a.eval m = .map (some b)) (hown : w.ownsMap P k (plainElem P e) b n D) (key : Value) (kl : Lit) (hx : a.eval x = key) (hkey : keyOf P k key = some kl)
    (hK : ∀ c : Bool, wpList P ops Q rest (a.put o.dst (.bool c)) w) :
    wpList P ops Q (o :: rest) a w := by
  refine wpList_plain hg fun K' hK' => ?_
  obtain ⟨v, ps, hrun, hv⟩ := hown.lookup K ht hz (plainElem_bool he false) hkey
  obtain ⟨c, rfl⟩ := plainElem_bool_inv he hv
  unfold Oper.wp
  simp [execOp, hop, hm, hx, hrun, Result.andThen]
  exact hK' _ _ (hK c)
theorem elem_true : plainElem (H := Unit) Try.prog 4 (.bool true) = some (.lit (.bool true), []) := plainElem_bool Try.underlying4 true
theorem zero_bool (w : World) : (zeroValue 4).run Try.prog w = .ok (.bool false) w := by kernel_rfl
/-- A place within a word of N symbols. -/
theorem place_in (p : Int) (N : Nat) (hN : 0 < N) : ∃ at' : Nat, at' < N ∧ (p.tmod N + N).tmod N = (at' : Int) ∧ -(N : Int) < p.tmod N ∧ p.tmod N < N := by
  have h1 : p.tmod N < N := Int.tmod_lt_of_pos p (by omega)
  have h2 : -(N : Int) < p.tmod N := by
    have := Int.tmod_lt_of_pos (-p) (show (0 : Int) < N by omega)
    rw [Int.neg_tmod] at this; omega
  refine ⟨((p.tmod N + N).tmod N).toNat, ?_, ?_, h2, h1⟩
  · have h3 := Int.tmod_lt_of_pos (p.tmod N + N) (show (0 : Int) < N by omega)
    omega
  · have h4 : 0 ≤ (p.tmod N + N).tmod N := Int.tmod_nonneg _ (by omega)
    omega
theorem place_facts (p : Int) (N : Nat) (h1 : 1 ≤ N) (h2 : N ≤ 5000) : ∃ (t1 t2 : Int) (q : Nat), q < N ∧ p.tmod (N : Int) = t1 ∧ t1 + (N : Int) = t2 ∧ t2.tmod (N : Int) = (q : Int) ∧ wrap64 t1 = t1 ∧ wrap64 (q : Int) = (q : Int) ∧
    IntKind.i64.wrap t1 = t1 ∧ IntKind.i64.wrap (q : Int) = (q : Int) ∧ IntKind.i64.wrap t2 = t2 ∧ -(N : Int) < t1 ∧ t1 < (N : Int) ∧ (0 : Int) ≤ (q : Int) ∧ (q : Int) < (N : Int) ∧ (Lit.int .i64 (q : Int)).wf = true := by
  obtain ⟨q, h3, h4, h5, h6⟩ := place_in p N h1
  refine ⟨p.tmod N, p.tmod N + N, q, h3, rfl, rfl, h4, ?_, ?_, ?_, ?_, ?_, h5, h6, ?_, ?_, ?_⟩
  all_goals clear h4
  all_goals generalize p.tmod (N : Int) = t1 at *
  · unfold wrap64; omega
  · unfold wrap64; omega
  · exact IntWalk.i64_in _ (by omega)
  · exact IntWalk.i64_in _ (by omega)
  · exact IntWalk.i64_in _ (by omega)
  · omega
  · omega
  · exact WalkArith.wf_i64 (by omega)
theorem change_facts (ch : Int) (f : FP) : ∃ (M : Nat) (r1 r2 r4 : Int) (y : Nat) (b1 : El f), IntKind.i64.wrap ((f.size : Int) - 1) = (M : Int) ∧ ((M : Int) == 0) = false ∧ ¬ (M : Int) = 0 ∧ ch.tmod (M : Int) = r1 ∧ IntKind.i64.wrap r1 = r1 ∧ wrap64 r1 = r1 ∧
    IntKind.i64.wrap (r1 + (f.size : Int)) = r4 ∧ IntKind.i64.wrap (r4 - 1) = r2 ∧ r2.tmod (M : Int) = (y : Int) ∧ IntKind.i64.wrap (y : Int) = (y : Int) ∧ wrap64 (y : Int) = (y : Int) ∧ (y : Int) + 1 = (b1.val : Int) ∧ (0 : Int) ≤ (y : Int) ∧ (y : Int) ≤ 5000 ∧ wrap64 (b1.val : Int) = (b1.val : Int) := by
  have hs := f.size_le
  have hs4 := f.size_pos
  obtain ⟨r1, r2, y, h1, h2, h3, h4, h5, h6, h7, h8, h9, h10, h11, h12, h13, _⟩ := place_facts ch (f.size - 1) (by omega) (by omega)
  have hyl : y + 1 < f.size := by clear h4 h2; omega
  refine ⟨f.size - 1, r1, r2, r1 + f.size, y, ⟨y + 1, hyl⟩, ?_, ?_, ?_, h2, h7, h5, ?_, ?_, h4, h8, h6, ?_, h12, ?_, ?_⟩
  all_goals clear h4 h2
  · rw [show (f.size : Int) - 1 = ((f.size - 1 : Nat) : Int) from by omega]; exact wrap_i64_nat _ (by omega)
  · rw [beq_eq_false_iff_ne]; omega
  · omega
  · exact IntWalk.i64_in _ (by omega)
  · rw [show r1 + (f.size : Int) - 1 = r2 from by omega]; exact h9
  · show (y : Int) + 1 = ((y + 1 : Nat) : Int); omega
  · omega
  · show wrap64 ((y + 1 : Nat) : Int) = ((y + 1 : Nat) : Int); unfold wrap64; omega
theorem size_ext {n : Int} {f : FP} (hf : fpn n = some f) {W : World} : ∀ w, Ext W w →
    Calls Try.prog 31 #[.int .i64 n] w fun e w' => e = .returned (.int .i64 f.size) ∧ Ext W w' :=
  fun w hw => (size_any n w).mono fun _ _ ⟨he, hb⟩ => ⟨by rw [he, (fpn_par n f hf).1], hw.step hb⟩
theorem BlkR.grown {f : FP} {w w' : World} {D : Nat} {l : List (El f)} {r : List Value} {c : Nat} (h : BlkR w D l r) (hg : w.grownBy w' (some c)) (hne : D ≠ c) : BlkR w' D l r := by
  unfold BlkR; rw [hg.block D h.lt (by simpa using hne)]; exact h

/-- What damaging leaves. -/
def DmgRes (f : FP) (w : World) (word : List (El f)) (N np : Nat) (e : Ending) (w' : World) : Prop :=
  ∃ D cap, ∃ m : Int, ∃ bad r, e = .returned (.tuple #[.slice (some ⟨D, 0, none⟩) N cap, .int .i64 m]) ∧ bad.length = N ∧ wt (dif word bad) ≤ np ∧ BlkR (f := f) w' D bad r ∧ Below w.heap.size w w'

set_option maxRecDepth 100000 in
set_option maxHeartbeats 8000000 in
theorem damaged_any (n : Int) (f : FP) (hf : fpn n = some f) (A off N cap : Nat) (word : List (El f)) (s2 s3 : Option Addr) (k2 k3 c2 c3 : Nat) (l2 l3 : List Int) (w : World) (hw : Cells w A off word) (hN : word.length = N) (hN1 : 1 ≤ N) (hN2 : N ≤ 300)
    (h2 : Ints w (.slice s2 k2 c2) l2) (hk2 : l2.length = k2) (hk2m : k2 ≤ 300) (h3 : Ints w (.slice s3 k3 c3) l3) (hk3 : l3.length = k3) (hk3m : k3 ≤ 2147483647) :
    Calls Try.prog 29 #[.int .i64 n, .slice (some ⟨A, off, none⟩) N cap, .slice s2 k2 c2, .slice s3 k3 c3] w (DmgRes f w word N k2) := by
  have hs := f.size_le
  have hs4 := f.size_pos
  have HW := Lib.hid hw
  have HN := Lib.hid hN
  have H2 := Lib.hid h2
  have H3 := Lib.hid h3
  have HK2 := Lib.hid hk2
  have HK3 := Lib.hid hk3
  have hmm := @run_makeMap Try.prog
  have law : Keyed Try.prog 3 := int_keyed Try.underlying3
  clear hw hN h2 h3 hk2 hk3
  go_enter Try.func29, Try.ntmps29
  go_wp2_with ((with_reducible show wpList _ _ _ (⟨some 18, _, _, _, _, _⟩ :: _) _ _); refine append_on (o := ⟨some 18, _, _, _, _, _⟩) (.tmp 16) (.tmp 17) rfl rfl w.heap.size 0 _ [] rfl (lit_own' f w) A off N cap word rfl HN.out (HW.out.later ((Below.refl w.heap.size w).alloc (Nat.le_refl _) _)) N (by omega) (by omega) hN1 (by simp) ?_; intro D cD w1 hown hgw; have hgw' : (w.alloc (.cells #[] 3)).grownBy w1 (some w.heap.size) := hgw; have hb1 : Below w.heap.size w w1 := ((Below.refl _ _).alloc (Nat.le_refl _) _).grown hgw' (by simp) (by intro k' hk'; simp only [Option.some.injEq] at hk'; omega); clear hgw hgw')
  have hDlt := (own_le hown hN1).2.1
  have hDge := (own_le hown hN1).1
  have HB0 := Lib.hid (Classical.choose_spec (own_blkr (f := f) hown))
  generalize Classical.choose (own_blkr (f := f) hown) = r at HB0
  have hb2 : Below w1.heap.size w1 (w1.alloc (.map #[] 0)) := (Below.refl _ _).alloc (Nat.le_refl _) _
  have hM0 := World.ownsMap_made (H := Unit) w1 Try.prog 3 (plainElem Try.prog 4)
  clear hown
  go_loopw [22] (fun y wr => ∃ (j : Nat) (cur : List (El f)) (Dt : DataW Unit), j ≤ k2 ∧ y = .int .i64 (j : Int) ∧ cur.length = N ∧ Hid (wt (dif word cur) ≤ j) ∧ BlkR wr D cur r ∧ wr.ownsMap Try.prog 3 (plainElem Try.prog 4) w1.heap.size j Dt ∧ Below w.heap.size w wr) (fun y _ => k2 - (intOf y).toNat)
  case atStart => exact ⟨0, word, _, by omega, rfl, HN.out, (by rw [wt_self]; exact Nat.le_refl _), HB0.out.later hb2, hM0, ext_trans hb1 hb2⟩
  case round =>
    obtain ⟨j, cur, Dt, hjk, rfl, hcl, hwt, hB, hmap, hbr⟩ := hrel
    by_cases hlt : j < k2
    rotate_left
    · have HF : Hid (∀ m : Int, DmgRes f w word N k2 (.returned (.tuple #[.slice (some ⟨D, 0, none⟩) N cD, .int .i64 m])) wr) := fun m => ⟨D, cD, m, cur, r, rfl, hcl, by have := hwt.out; omega, hB, hbr⟩
      clear hB hwt
      go_wp2_with (at_len; refine wpList_len_own _ rfl _ 72 rfl 3 4 Try.underlying72 _ w1.heap.size j Dt rfl hmap ?_)
      go_ret2
      exact HF.out _
    obtain ⟨b2, o2, rfl, hc2⟩ : ∃ b2 o2, s2 = some ⟨b2, o2, none⟩ ∧ ∀ j (hj : j < l2.length), w.cell? ⟨b2, o2 + j, none⟩ = some (.int .i64 l2[j]) := by
      rcases H2.out with ⟨h5, _⟩ | ⟨b5, o5, c5, h5, _, _, _, h6⟩
      · have := HK2.out; rw [h5] at this; simp at this; omega
      · simp only [Value.slice.injEq] at h5
        exact ⟨b5, o5, h5.1, h6⟩
    obtain ⟨p, hp⟩ : ∃ p, p = l2[j]'(by rw [HK2.out]; exact hlt) := ⟨_, rfl⟩
    have hx2 := cell_later hbr (hc2 j (by rw [HK2.out]; exact hlt))
    rw [← hp] at hx2
    have hi0 : (0 : Int) ≤ (j : Int) := by omega
    have hi1 : (j : Int) < (k2 : Int) := by omega
    have hNz : ((N : Int) == 0) = false := by rw [beq_eq_false_iff_ne]; omega
    have hNz1 : ¬ (N : Int) = 0 := by omega
    obtain ⟨t1, t2, q, hqN, ht1, ht2, hq1, ew1, ew2, ew3, ew4, ew5, hq2, hq3, hqI0, hqI1, hqwf⟩ := place_facts p N hN1 (Nat.le_trans hN2 (by decide))
    have hkey : keyOf Try.prog 3 (.int .i64 (q : Int)) = some (.int .i64 (q : Int)) := keyOf_int_mk Try.underlying3 hqwf
    clear hp hc2
    have HB := Lib.hid hB
    have HCL := Lib.hid hcl
    clear hB hcl
    by_cases hj3 : j < k3
    rotate_left
    · have hj3I : (k3 : Int) ≤ (j : Int) := by omega
      go_wp2_with (at_lookup; refine lookup_set _ rfl _ _ 72 rfl 3 4 law Try.underlying72 Try.underlying4 (zero_bool _) w1.heap.size j Dt rfl hmap (.int .i64 (q : Int)) (.int .i64 (q : Int)) rfl hkey ?_; intro c; cases c)
      all_goals
        clear ht1 ht2 hq1
        go_roundw
        case rel => exact ⟨j + 1, cur, Dt, by omega, by go_num, HCL.out, (by have := hwt.out; show _ ≤ _; omega), HB.out, hmap.mono (Nat.le_succ j), hbr⟩
        case measure => simp [intOf]; omega
    have hj3I : (j : Int) < (k3 : Int) := by omega
    obtain ⟨b3, o3, rfl, hc3⟩ : ∃ b3 o3, s3 = some ⟨b3, o3, none⟩ ∧ ∀ j (hj : j < l3.length), w.cell? ⟨b3, o3 + j, none⟩ = some (.int .i64 l3[j]) := by
      rcases H3.out with ⟨h5, _⟩ | ⟨b5, o5, c5, h5, _, _, _, h6⟩
      · have := HK3.out; rw [h5] at this; simp at this; omega
      · simp only [Value.slice.injEq] at h5
        exact ⟨b5, o5, h5.1, h6⟩
    obtain ⟨ch, hch⟩ : ∃ ch, ch = l3[j]'(by rw [HK3.out]; exact hj3) := ⟨_, rfl⟩
    have hx3 := cell_later hbr (hc3 j (by rw [HK3.out]; exact hj3))
    rw [← hch] at hx3
    clear hch hc3
    go_wp2_with (at_lookup; refine lookup_set _ rfl _ _ 72 rfl 3 4 law Try.underlying72 Try.underlying4 (zero_bool _) w1.heap.size j Dt rfl hmap (.int .i64 (q : Int)) (.int .i64 (q : Int)) rfl hkey ?_; intro c; cases c)
    rotate_left
    · clear ht1 ht2 hq1
      go_roundw
      case rel => exact ⟨j + 1, cur, Dt, by omega, by go_num, HCL.out, (by have := hwt.out; show _ ≤ _; omega), HB.out, hmap.mono (Nat.le_succ j), hbr⟩
      case measure => simp [intOf]; omega
    obtain ⟨M, r1, r2, r4, y, b1, em, hMz, hMz0, er1, ev1, ev2, ea, eb, er3, ev3, ev4, ey, hy0, hy1, ewb⟩ := change_facts ch f
    have hMz1 : ¬ M = 0 := fun e => hMz0 (by rw [e]; rfl)
    have hMm : w1.heap.size < wr.heap.size := hmap.lt
    have hDM : D ≠ w1.heap.size := by omega
    have HMap := Lib.hid hmap
    have hxw : Hid (∀ w', Ext wr w' → Below w.heap.size w w') := fun w' hw' => hbr.trans (hw'.mono hbr.size)
    clear hmap
    refine wp_region_head_tail (C := Ext wr) 16 (by kernel_rfl) (by kernel_rfl) (Ext.drew1 wr) ?_
    have hq5 := Ext.cell hx3
    clear hx3 hx2
    simp only [List.take_succ_cons, List.take_zero, List.drop_succ_cons, List.drop_zero]
    iterate 5 (refine head_op (v := ?_) rfl (fun w' hw' => ?_) (fun K hK => ?_); rotate_left; (focus (go_simp; try rfl)); go_simp; refine hK _ ?_; clear hK K)
    (refine head_call rfl (fun w' hw' => ?_) (size_ext hf) (fun K hK => ?_); (focus go_simp); go_simp; refine hK _ ?_; clear hK K)
    iterate 1 (refine head_op (v := ?_) rfl (fun w' hw' => ?_) (fun K hK => ?_); rotate_left; (focus (go_simp; try rfl)); go_simp; refine hK _ ?_; clear hK K)
    (refine head_op (v := ?_) rfl (fun w' hw' => ?_) (fun K hK => ?_); rotate_left; (focus (go_simp; try rfl)); go_simp; refine hK _ ?_; clear hK K)
    iterate 1 (refine head_op (v := ?_) rfl (fun w' hw' => ?_) (fun K hK => ?_); rotate_left; (focus (go_simp; try rfl)); go_simp; refine hK _ ?_; clear hK K)
    (refine head_call rfl (fun w' hw' => ?_) (size_ext hf) (fun K hK => ?_); (focus go_simp); go_simp; refine hK _ ?_; clear hK K)
    iterate 3 (refine head_op (v := ?_) rfl (fun w' hw' => ?_) (fun K hK => ?_); rotate_left; (focus (go_simp; try rfl)); go_simp; refine hK _ ?_; clear hK K)
    (refine head_call rfl (fun w' hw' => ?_) (size_ext hf) (fun K hK => ?_); (focus go_simp); go_simp; refine hK _ ?_; clear hK K)
    iterate 2 (refine head_op (v := ?_) rfl (fun w' hw' => ?_) (fun K hK => ?_); rotate_left; (focus (go_simp; try rfl)); go_simp; refine hK _ ?_; clear hK K)
    refine wpQuiet_nil ?_
    intro w' hw'
    have hmap' : w'.ownsMap Try.prog 3 (plainElem Try.prog 4) w1.heap.size j Dt := HMap.out.kept (below_grown hw' none) (by simp)
    have hqc : q < cur.length := by rw [HCL.out]; exact hqN
    obtain ⟨u, hu⟩ : ∃ u, u = cur[q] := ⟨_, rfl⟩
    have hcell : ∀ w5, BlkR w5 D cur r → w5.cell? ⟨D, q, none⟩ = some (.int .i64 u.val) := fun w5 h5 => by rw [hu]; exact h5.cell q hqc
    have hxe := xor_el u b1
    have HQC := Lib.hid hqc
    have hB' : Hid (BlkR w' D cur r) := HB.out.later hw'
    have hbw' := hxw.out w' hw'
    clear hy0 hy1 hqN hu hqc hq5 ht1 ht2 hq1 er1 er3 ea eb em hMz0 hMz hMz1 ev1 ev2 ev3 ev4 ew1 ew2 ew3 ew4 ew5 hq2 hq3
    go_wp2_with (at_mapUpdate; refine wpList_mapUpdate_own _ rfl _ _ _ 72 rfl 3 4 law Try.underlying72 (plainElem (H := Unit) Try.prog 4) w1.heap.size j Dt rfl hmap' (by unfold maxLen; omega) (.int .i64 (q : Int)) (.bool true) (.int .i64 (q : Int)) rfl rfl hkey (.lit (.bool true)) [] elem_true ?_; intro w5 hmap5 hgx5; have hB5 := Lib.hid (hB'.out.grown hgx5 hDM); have hxd5 := hcell w5 hB5.out; have hfz5 := hB5.out.frozen q; have hb5 : Below w.heap.size w w5 := hbw'.grown hgx5 hbw'.size (fun k hk => by simp only [Option.some.injEq] at hk; have := hb1.size; omega))
    go_roundw
    case rel => exact ⟨j + 1, cur.set q (u + b1), _, by omega, by go_num, by rw [List.length_set]; exact HCL.out, (by have h5 := hwt.out; have h6 := wt_set word cur q (u + b1); show _ ≤ _; omega), hB5.out.set q HQC.out (u + b1), hmap5.kept (grown_setCell w5 ⟨D, q, none⟩ _) (by simp; omega), hb5.setCell hDge _⟩
    case measure => simp [intOf]; omega
end Go.Proofs.Ytjgclomokekogaa
