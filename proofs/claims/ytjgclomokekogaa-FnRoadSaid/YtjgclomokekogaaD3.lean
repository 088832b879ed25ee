/- The package's magnitudes of errors. -/
import Derived.Test.YtjgclomokekogaaD2
namespace Go.Proofs.Ytjgclomokekogaa
open Go.RowKit Rs

theorem eval_ext {f : FP} {W : World} (g q : Nat) (l : List (El f)) (x : El f) (hg : IsGF W f g) (h : IsPoly W g q l) : ∀ w, Ext W w →
    Calls Try.prog 80 #[.pointer (some ⟨q, 0, none⟩), .int .i64 x.val] w fun e w' => e = .returned (.int .i64 (ev l x).val) ∧ Ext W w' :=
  fun w hw => (eval_any g q l x w (hg.later hw) (h.later hw)).mono fun _ _ ⟨he, n, hn⟩ => ⟨he, hn ▸ hw.step (drewN_below w n)⟩
/-- The list of magnitudes. -/
noncomputable def magL {f : FP} (ol xs : List (El f)) : List (El f) := (List.range xs.length).map (mag ol xs)
theorem magL_length {f : FP} (ol xs : List (El f)) : (magL ol xs).length = xs.length := by simp [magL]
theorem magL_get {f : FP} (ol xs : List (El f)) (i : Nat) (h : i < (magL ol xs).length) : (magL ol xs)[i] = mag ol xs i := by simp [magL]
/-- The magnitude ahead of its last factor. -/
noncomputable def mag0 {f : FP} (ol xs : List (El f)) (i : Nat) : El f := ev ol (Gf.inv (xs.getD i 0)) * Gf.inv (pw (Gf.inv (xs.getD i 0)) (fun k => xs.getD k 0) i xs.length)
theorem mag_of0 {f : FP} (ol xs : List (El f)) (i : Nat) (h : f.base = 0) : mag ol xs i = mag0 ol xs i := by unfold mag; rw [if_pos h]; rfl
theorem mag_of1 {f : FP} (ol xs : List (El f)) (i : Nat) (h : ¬ f.base = 0) : mag ol xs i = mag0 ol xs i * Gf.inv (xs.getD i 0) := by unfold mag; rw [if_neg h]; rfl
theorem pw_skip {f : FP} (a : El f) (x : Nat → El f) (i : Nat) : pw a x i (i + 1) = pw a x i i := by rw [pw, if_pos rfl]
theorem pw_on {f : FP} (a : El f) (x : Nat → El f) (i k : Nat) (h : ¬ k = i) : pw a x i (k + 1) = pw a x i k * (x k * a + 1) := by rw [pw, if_neg h]
theorem plus_one {f : FP} (t : El f) : (t + 1).val = t.val ^^^ 1 := rfl
theorem fill_blk2 {f : FP} {w : World} {D k n : Nat} {T : List (El f)} {u v : El f} (h : Blk w D ((T.take k ++ List.replicate (n - k) (0 : El f)).set k u)) (hT : T.length = n) (hk : k < n) (hv : ∀ h, v = T[k]'h) :
    Blk (w.setCell ⟨D, k, none⟩ (.int .i64 v.val)) D (T.take (k + 1) ++ List.replicate (n - (k + 1)) (0 : El f)) := by
  have := h.set k v
  rw [List.set_set, hv (by omega), fill_set T 0 n k hT.symm (by omega)] at this
  rw [hv (by omega)]; exact this
def MagRes (f : FP) (w : World) (ol xs : List (El f)) (n : Nat) (e : Ending) (w' : World) : Prop :=
  Below w.heap.size w w' ∧ ∃ M, e = .returned (.tuple #[.slice (some ⟨M, 0, none⟩) n n, .nilIface]) ∧ Blk w' M (magL ol xs) ∧ w.heap.size ≤ M

set_option maxRecDepth 100000 in
set_option maxHeartbeats 8000000 in
theorem mags_any {f : FP} (g dd q X n : Nat) (ol xs : List (El f)) (w : World) (hg : IsGF w f g) (hd : DAt w dd g) (hq : IsPoly w g q ol) (hX : Cells w X 0 xs) (hn : xs.length = n) (hn2 : n ≤ 100000) (hnd : xs.Nodup) (hne : ∀ x ∈ xs, x ≠ 0) :
    Calls Try.prog 85 #[.pointer (some ⟨dd, 0, none⟩), .pointer (some ⟨q, 0, none⟩), .slice (some ⟨X, 0, none⟩) n n] w (MagRes f w ol xs n) := by
  unfold DAt at hd
  have hs := f.size_le
  have hs4 := f.size_pos
  have hb1 := f.base_le
  have HX := Lib.hid hX
  have HN := Lib.hid hn
  have HND := Lib.hid hnd
  have HNE := Lib.hid hne
  have HTl : Hid ((magL ol xs).length = n) := by show _ = _; rw [magL_length, hn]
  obtain ⟨T, hT⟩ : ∃ T, T = magL ol xs := ⟨_, rfl⟩
  have HT := Lib.hid hT
  rw [← hT] at HTl
  obtain ⟨x, hx⟩ : ∃ x : Nat → El f, x = fun k => xs.getD k 0 := ⟨_, rfl⟩
  have HXC : Hid (∀ k, k < n → ∀ w', Below w.heap.size w w' → w'.cell? ⟨X, k, none⟩ = some (.int .i64 (x k).val)) := fun k hk w' hw' => by
    have h1 := HX.out k (by rw [HN.out]; exact hk)
    rw [Nat.zero_add] at h1
    subst hx
    rw [cell_later hw' h1]; simp [List.getD, HN.out, hk]
  have HX0 : Hid (∀ k, k < n → x k ≠ 0) := fun k hk => by
    subst hx
    have h1 := HNE.out _ (List.getElem_mem (by rw [HN.out]; exact hk : k < xs.length))
    simpa [List.getD, HN.out, hk] using h1
  have HPW : Hid (∀ i, i < n → pw (Gf.inv (x i)) x i n ≠ 0) := fun i hi => by
    have h1 := pw_ne xs HND.out HNE.out i (by rw [HN.out]; exact hi) n (by rw [HN.out]; exact Nat.le_refl _)
    subst hx
    have e : xs.getD i 0 = xs[i]'(by rw [HN.out]; exact hi) := by simp [List.getD, HN.out, hi]
    show pw (Gf.inv (xs.getD i 0)) _ i n ≠ 0
    rw [e]; exact h1
  have HM0 : Hid (∀ i, mag0 ol xs i = ev ol (Gf.inv (x i)) * Gf.inv (pw (Gf.inv (x i)) x i n)) := fun i => by
    subst hx; unfold mag0; rw [HN.out]
  have HXI : Hid (∀ i, xs.getD i 0 = x i) := fun i => by subst hx; rfl
  clear hX hn hnd hne hT hx
  obtain ⟨i0, hi, hz0, hz1, hz2⟩ := info_parts Try.info3
  go_enter Try.func85, Try.ntmps85
  go_wp2_with (at_make; refine wpList_make_full _ rfl _ _ 22 rfl w.heap.size 3 i0 (.int .i64 0) 1 Try.underlying22 hi hz0 hz1 .i64 .i64 _ _ n rfl rfl rfl rfl (by rw [hz2]; omega) (by unfold maxLen; omega) (by simp) ?_; intro w1 hown hgrow; have hB1 : Blk w1 w.heap.size (List.replicate n (0 : El f)) := (made_blk hown); have hb1 : Below w.heap.size w w1 := ((Below.refl _ _).grown hgrow (by simp) (by simp)); clear hown hgrow)
  go_loopw [10] (fun y wr => ∃ i : Nat, i ≤ n ∧ y = .int .i64 (i : Int) ∧ Blk wr w.heap.size (T.take i ++ List.replicate (n - i) (0 : El f)) ∧ Below w.heap.size w wr) (fun y _ => n - (intOf y).toNat)
  case atStart => exact ⟨0, by omega, rfl, by simpa using hB1, hb1⟩
  case round =>
    obtain ⟨i, hin, rfl, hB, hbr⟩ := hrel
    obtain ⟨wo, rfl⟩ : ∃ wo : World, wo = wr := ⟨_, rfl⟩
    by_cases hlt : i < n
    rotate_left
    · have HE : Hid (MagRes f w ol xs n (.returned (.tuple #[.slice (some ⟨w.heap.size, 0, none⟩) n n, .nilIface])) wo) := by
        refine ⟨hbr, w.heap.size, rfl, ?_, Nat.le_refl _⟩
        have := hB; rw [show i = n from by omega, fill_all T 0 n HTl.out.symm, HT.out] at this; exact this
      clear hB
      go_wp2
      go_ret2
      exact HE.out
    have hgr := hg.later hbr
    have hdr := cell_later hbr hd
    have hqr := hq.later hbr
    have hxr := HXC.out i hlt wo hbr
    have hxi0 := HX0.out i hlt
    have hi0 : (0 : Int) ≤ (i : Int) := by omega
    have hi1 : (i : Int) < (n : Int) := by omega
    obtain ⟨xi, hxi⟩ : ∃ xi, xi = Gf.inv (x i) := ⟨_, rfl⟩
    have HXIV := Lib.hid hxi
    go_wp2_with fail
    go_quiet ((first | (go_at_call 75; exact Calls.quiet_of (inv_any g (x i) hxi0 _ (hgr.drewN _)))))
    rw [← hxi]
    clear hxi
    go_wp2
    go_loopw [13, 14] (fun d y wv => ∃ j : Nat, j ≤ n ∧ y = .int .i64 (j : Int) ∧ d = .int .i64 (pw xi x i j).val ∧ Dr wo wv) (fun _ y _ => n - (intOf y).toNat)
    case atStart => exact ⟨0, by omega, rfl, rfl, _, rfl⟩
    case round =>
      obtain ⟨j, hjn, rfl, rfl, hdv⟩ := hrel
      have hbv := hdv.below
      have hgv := hgr.later hbv
      have hdv2 := cell_later hbv hdr
      have hqv := hqr.later hbv
      by_cases hjlt : j < n
      · by_cases hji : j = i
        · have e0 : ((i : Int) == (j : Int)) = true := by rw [beq_iff_eq]; omega
          have HP : Hid (pw xi x i (j + 1) = pw xi x i j) := by subst hji; exact pw_skip _ _ _
          clear hji
          go_wp2
          go_roundw
          case rel => exact ⟨j + 1, by omega, by go_num, by rw [HP.out], hdv⟩
          case measure => simp [intOf]; omega
        · have e0 : ((i : Int) == (j : Int)) = false := by rw [beq_eq_false_iff_ne]; omega
          have HP : Hid (pw xi x i (j + 1) = pw xi x i j * (x j * xi + 1)) := pw_on _ _ _ _ hji
          have hxv := HXC.out j hjlt wr (hbr.trans (hbv.mono hbr.size))
          have hj0 : (0 : Int) ≤ (j : Int) := by omega
          have hj1 : (j : Int) < (n : Int) := by omega
          obtain ⟨t, ht⟩ : ∃ t, t = x j * xi := ⟨_, rfl⟩
          have htl := t.lt
          have ea := and1_i64 t.val (by omega)
          clear hji
          by_cases hpar : t.val % 2 = 0
          · have eo := or1_i64 t.val (by omega) hpar
            rw [hpar] at ea
            have ep : ((t.val ^^^ 1 : Nat) : Int) = ((t + 1).val : Int) := rfl
            rw [ep] at eo
            clear ep hpar
            go_wp2_with fail
            go_quiet ((first | (go_at_call 76; exact Calls.quiet_of (mult_any g (x j) xi _ (hgv.drewN _)))))
            rw [← ht]
            rw [← ht] at HP
            clear ht
            go_wp2_with (go_at_call 76; refine (mult_any g (pw xi x i j) (t + 1) _ (hgv.drewN _)).mono ?_; rintro e w1 ⟨rfl, n1, rfl⟩)
            go_roundw
            case rel => exact ⟨j + 1, by omega, by go_num, by rw [HP.out], hdv.step _⟩
            case measure => simp [intOf]; omega
          · have hpar1 : t.val % 2 = 1 := by omega
            have eo := andm2_i64 t.val (by omega) hpar1
            rw [hpar1] at ea
            have ep : ((t.val ^^^ 1 : Nat) : Int) = ((t + 1).val : Int) := rfl
            rw [ep] at eo
            clear ep hpar hpar1
            go_wp2_with fail
            go_quiet ((first | (go_at_call 76; exact Calls.quiet_of (mult_any g (x j) xi _ (hgv.drewN _)))))
            rw [← ht]
            rw [← ht] at HP
            clear ht
            go_wp2_with (go_at_call 76; refine (mult_any g (pw xi x i j) (t + 1) _ (hgv.drewN _)).mono ?_; rintro e w1 ⟨rfl, n1, rfl⟩)
            go_roundw
            case rel => exact ⟨j + 1, by omega, by go_num, by rw [HP.out], hdv.step _⟩
            case measure => simp [intOf]; omega
      · have e : n = j := by omega
        subst e
        have hp0 : pw xi x i n ≠ 0 := by rw [HXIV.out]; exact HPW.out i hlt
        have HP0 := Lib.hid hp0
        have hbw := hbr.trans (hbv.mono hbr.size)
        have HX2 : Hid (∀ k, ∃ w2, w2 = wr.drewN k ∧ IsGF w2 f g ∧ IsPoly w2 g q ol ∧ w2.cell? ⟨dd, 0, none⟩ = some (.pointer (some ⟨g, 0, none⟩)) ∧ Blk w2 w.heap.size (T.take i ++ List.replicate (n - i) (0 : El f)) ∧ Below w.heap.size w w2) :=
          fun k => ⟨_, rfl, hgv.drewN k, hqv.drewN k, cell_later (drewN_below wr k) hdv2, (hB.later hbv).drewN k, below_drewN hbw k⟩
        clear hp0
        go_wp2_with (go_at_call 75; refine (inv_any g (pw xi x i n) HP0.out _ hgv).mono ?_; rintro e w1 ⟨rfl, n1, rfl⟩)
        obtain ⟨w2, hw2, hg2, hq2, hd2, hB2, hb2⟩ := HX2.out n1
        rw [← hw2]
        clear hw2 HX2
        obtain ⟨v0, hv0⟩ : ∃ v0, v0 = ev ol xi * Gf.inv (pw xi x i n) := ⟨_, rfl⟩
        have HV0 : Hid (mag0 ol xs i = v0) := by
          show _ = _
          rw [HM0.out, ← HXIV.out, hv0]
        have HB2 := Lib.hid hB2
        have hMw : dd < w.heap.size := block_lt hd
        have hn1 : ¬ dd = w.heap.size := by omega
        have hn2 : ¬ w.heap.size = dd := by omega
        refine wp_region_head_tail (C := Ext w2) 12 (by kernel_rfl) (by kernel_rfl) (Ext.drew1 w2) ?_
        have hq0 := Ext.cell hd2
        clear hd2 hB2 hdv2 hdr hxr
        simp only [List.take_succ_cons, List.take_zero, List.drop_succ_cons, List.drop_zero]
        iterate 8 (refine head_op (v := ?_) rfl (fun w' hw' => ?_) (fun K hK => ?_); rotate_left; (focus (go_simp; try rfl)); go_simp; refine hK _ ?_; clear hK K)
        (refine head_call rfl (fun w' hw' => ?_) (eval_ext g q ol xi hg2 hq2) (fun K hK => ?_); (focus go_simp); go_simp; refine hK _ ?_; clear hK K)
        (refine head_op (v := ?_) rfl (fun w' hw' => ?_) (fun K hK => ?_); rotate_left; (focus (go_simp; try rfl)); go_simp; refine hK _ ?_; clear hK K)
        (refine head_call rfl (fun w' hw' => ?_) (mult_ext g (ev ol xi) (Gf.inv (pw xi x i n)) hg2) (fun K hK => ?_); (focus go_simp); go_simp; refine hK _ ?_; clear hK K)
        (refine head_op (v := ?_) rfl (fun w' hw' => ?_) (fun K hK => ?_); rotate_left; (focus (go_simp; try rfl)); go_simp; refine hK _ ?_; clear hK K)
        refine wpQuiet_nil ?_
        intro w' hw'
        rw [← hv0]
        clear hv0
        have hBw : Hid (Blk w' w.heap.size (T.take i ++ List.replicate (n - i) (0 : El f))) := Ext.blk HB2.out hw'
        have hlen : i < (T.take i ++ List.replicate (n - i) (0 : El f)).length := by rw [List.length_append, List.length_take, HTl.out, List.length_replicate]; omega
        obtain ⟨z, hxd'⟩ : ∃ z, w'.cell? ⟨w.heap.size, i, none⟩ = some z := ⟨_, hBw.out.cell i hlen⟩
        have hfz' := hBw.out.frozen i
        have hd' := hq0 w' hw'
        have hb3 : Below w.heap.size w (w'.setCell ⟨w.heap.size, i, none⟩ (.int .i64 v0.val)) := (hb2.trans (hw'.mono hb2.size)).setCell (Nat.le_refl _) _
        have hg3 := hg.later hb3
        have HTM : Hid (∀ h : i < T.length, T[i]'h = mag ol xs i) := fun h => by have := HT.out; subst this; exact magL_get ol xs i h
        have HL := Lib.hid hlen
        clear hlen hq0
        by_cases hb0 : f.base = 0
        · have e0 : (f.base : Int) = 0 := by omega
          have HF : Hid (Blk (w'.setCell ⟨w.heap.size, i, none⟩ (.int .i64 v0.val)) w.heap.size (T.take (i + 1) ++ List.replicate (n - (i + 1)) (0 : El f))) :=
            fill_blk hBw.out HTl.out hlt (fun h => by rw [HTM.out h, mag_of0 _ _ _ hb0, HV0.out])
          clear hb0
          go_wp2_with (go_at_call 82; refine (getbase_any (f := f) g _ hg3).mono ?_; rintro e w4 ⟨rfl, rfl⟩)
          go_roundw
          case rel => exact ⟨i + 1, by omega, by go_num, HF.out, hb3⟩
          case measure => simp [intOf]; omega
        · have e0 : ((f.base : Int) == 0) = false := by rw [beq_eq_false_iff_ne]; omega
          have HM1 : Hid (mag ol xs i = v0 * xi) := by
            show _ = _
            rw [mag_of1 _ _ _ hb0, HV0.out, HXI.out, HXIV.out]
          have HX3 : Hid (∃ w3, w3 = w'.setCell ⟨w.heap.size, i, none⟩ (.int .i64 v0.val) ∧ IsGF w3 f g ∧ w3.cell? ⟨dd, 0, none⟩ = some (.pointer (some ⟨g, 0, none⟩)) ∧ Blk w3 w.heap.size ((T.take i ++ List.replicate (n - i) (0 : El f)).set i v0) ∧ Below w.heap.size w w3) :=
            ⟨_, rfl, hg3, cell_later hb3 hd, hBw.out.set i v0, hb3⟩
          clear hb0
          go_wp2_with (go_at_call 82; refine (getbase_any (f := f) g _ hg3).mono ?_; rintro e w4 ⟨rfl, rfl⟩)
          obtain ⟨w3, hw3, hg3', hd3, hB3, hb3'⟩ := HX3.out
          rw [← hw3]
          clear hw3 HX3 hg3 hb3 hd' hxd' hfz'
          have HB3 := Lib.hid hB3
          have hm3 : w3.cell? ⟨w.heap.size, i, none⟩ = some (.int .i64 v0.val) := by
            rw [hB3.cell i (by rw [List.length_set]; exact HL.out), List.getElem_set, if_pos rfl]
          refine wp_region_head_tail (C := Ext w3) 13 (by kernel_rfl) (by kernel_rfl) (Ext.drew1 w3) ?_
          have hq0 := Ext.cell hd3
          have hq1 := Ext.cell hm3
          clear hd3 hB3 hm3
          simp only [List.take_succ_cons, List.take_zero, List.drop_succ_cons, List.drop_zero]
          iterate 11 (refine head_op (v := ?_) rfl (fun w' hw' => ?_) (fun K hK => ?_); rotate_left; (focus (go_simp; try rfl)); go_simp; refine hK _ ?_; clear hK K)
          (refine head_call rfl (fun w' hw' => ?_) (mult_ext g v0 xi hg3') (fun K hK => ?_); (focus go_simp); go_simp; refine hK _ ?_; clear hK K)
          (refine head_op (v := ?_) rfl (fun w' hw' => ?_) (fun K hK => ?_); rotate_left; (focus (go_simp; try rfl)); go_simp; refine hK _ ?_; clear hK K)
          refine wpQuiet_nil ?_
          intro w4 hw4
          have hxd4 := hq1 w4 hw4
          have hfz4 := (Ext.blk HB3.out hw4).frozen i
          have HF : Hid (Blk (w4.setCell ⟨w.heap.size, i, none⟩ (.int .i64 (v0 * xi).val)) w.heap.size (T.take (i + 1) ++ List.replicate (n - (i + 1)) (0 : El f))) :=
            fill_blk2 (Ext.blk HB3.out hw4) HTl.out hlt (fun h => by rw [HTM.out h, HM1.out])
          clear hq0 hq1
          go_wp2
          go_roundw
          case rel => exact ⟨i + 1, by omega, by go_num, HF.out, (hb3'.trans (hw4.mono hb3'.size)).setCell (Nat.le_refl _) _⟩
          case measure => simp [intOf]; omega
end Go.Proofs.Ytjgclomokekogaa
