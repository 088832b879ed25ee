/- The package's product of two polynomials. -/
import Derived.Test.YtjgclomokekogaaW8
import Derived.Test.YtjgclomokekogaaQt
namespace Go.Proofs.Ytjgclomokekogaa
open Go.RowKit Rs

/-- The product in the making: i rows whole, j of the next. -/
def Conv {f : FP} (a b acc : List (El f)) (N i j : Nat) : Prop :=
  acc.length = N ∧ (∀ h : i < a.length, ps acc = pre a i * ps b + mon (a[i]'h) (a.length - 1 - i) * pre b j) ∧ (a.length ≤ i → ps acc = ps a * ps b)
theorem Conv.start {f : FP} (a b : List (El f)) (N : Nat) : Conv a b (List.replicate N (0 : El f)) N 0 0 := by
  refine ⟨by simp, fun h => ?_, fun h => ?_⟩
  · rw [ps_zeros, pre_zero, pre_zero, zero_mul, mul_zero]; exact (Ring2.add_zero _).symm
  · have : a = [] := List.eq_nil_of_length_eq_zero (by omega)
    subst this
    rw [ps_zeros]; exact (zero_mul _).symm
theorem Conv.step {f : FP} {a b acc : List (El f)} {N i j : Nat} (hN : N = a.length + b.length - 1) (h : Conv a b acc N i j) (hi : i < a.length) (hj : j < b.length) (hk : i + j < acc.length) :
    Conv a b (acc.set (i + j) (acc[i + j] + a[i] * b[j])) N i (j + 1) :=
  ⟨by simpa using h.1, fun _ => conv_step a b acc i j hi hj (by rw [h.1, hN]) hk (h.2.1 hi), fun h' => by omega⟩
theorem Conv.row {f : FP} {a b acc : List (El f)} {N i : Nat} (h : Conv a b acc N i b.length) (hi : i < a.length) : Conv a b acc N (i + 1) 0 := by
  have h1 := conv_end a b acc i hi (h.2.1 hi)
  refine ⟨h.1, fun h2 => conv_start a b acc (i + 1) h2 h1, fun h2 => ?_⟩
  rw [h1, show i + 1 = a.length from by omega, pre_full]

set_option maxRecDepth 100000 in
set_option maxHeartbeats 4000000 in
theorem mulpoly_nz {f : FP} (g p q : Nat) (a b : List (El f)) (w : World) (hg : IsGF w f g) (hp : IsPoly w g p a) (hq : IsPoly w g q b) (hd : a.length + b.length ≤ 100000) (hza' : isZ a = false) (hzb' : isZ b = false) :
    Calls Try.prog 51 #[.pointer (some ⟨p, 0, none⟩), .pointer (some ⟨q, 0, none⟩)] w (NewPolyF w.heap.size w g (ps a * ps b) (a.length + b.length - 1)) := by
  have hp' := hp
  have hq' := hq
  obtain ⟨hna, pa0, ba, oa, ca, ⟨hca, hma⟩, pa1, ha⟩ := hp
  obtain ⟨hnb, pb0, bb, ob, cb, ⟨hcb, hmb⟩, pb1, hb⟩ := hq
  have hapos := hna.pos
  have hbpos := hnb.pos
  have hneq := run_neq_same ⟨g, 0, none⟩
  have halt : ba < w.heap.size := block_lt (ha 0 hna.pos)
  have hblt : bb < w.heap.size := block_lt (hb 0 hnb.pos)
  have hplt : p < w.heap.size := block_lt pa0
  obtain ⟨N, hN⟩ : ∃ N, N = a.length + b.length - 1 := ⟨_, rfl⟩
  have eN : (a.length : Int) + b.length - 1 = N := by omega
  have hN1 : a.length + b.length ≤ N + 1 := by omega
  have hN2 : N ≤ 100000 := by omega
  have HN := Lib.hid hN
  rw [← hN]
  clear hN
  obtain ⟨i0, hi, hz0, hz1, hz2⟩ := info_parts Try.info3
  go_enter Try.func51, Try.ntmps51
  go_wp2
  go_quiet (fail)
  go_wp2_with (first
    | (go_at_call 71; refine (iszero_any g _ _ _ (by first | exact hp'.drewN _ | exact hq'.drewN _)).mono ?_; rintro e w1 ⟨rfl, rfl⟩)
    | (at_make; refine wpList_make_full _ rfl _ _ 22 rfl w.heap.size 3 i0 (.int .i64 0) 1 Try.underlying22 hi hz0 hz1 .i64 .i64 _ _ N rfl rfl (by first | rfl | exact eN) (by first | rfl | exact eN) (by rw [hz2]; omega) (by unfold maxLen; omega) (by simp) ?_; intro w1 hown hgrow; have hB1 : Blk w1 w.heap.size (List.replicate N (0 : El f)) := (made_blk hown); have hb1 : Below w.heap.size w w1 := ((drewN_below w _).grown hgrow (by simp) (by simp)); clear hown hgrow))
  go_loopw [11] (fun x wr => ∃ (i : Nat) (acc : List (El f)), i ≤ a.length ∧ x = .int .i64 (i : Int) ∧ Blk wr w.heap.size acc ∧ Conv a b acc N i 0 ∧ Below w.heap.size w wr) (fun x _ => a.length - (intOf x).toNat)
  case atStart => exact ⟨0, _, by omega, rfl, hB1, Conv.start a b N, hb1⟩
  case round =>
    obtain ⟨i, acc0, hile, rfl, hB0, hC0, hbr0⟩ := hrel
    obtain ⟨wo, rfl⟩ : ∃ wo : World, wo = wr := ⟨_, rfl⟩
    by_cases hilt : i < a.length
    · have hxa := (Cells.below ha hbr0 halt) i hilt
      have hi0 : (0 : Int) ≤ (i : Int) := by omega
      have hi1 : (i : Int) < (a.length : Int) := by omega
      go_wp2
      go_loopw [13] (fun x wr => ∃ (j : Nat) (acc : List (El f)), j ≤ b.length ∧ x = .int .i64 (j : Int) ∧ Blk wr w.heap.size acc ∧ Conv a b acc N i j ∧ Below w.heap.size w wr) (fun x _ => b.length - (intOf x).toNat)
      case atStart => exact ⟨0, acc0, by omega, rfl, hB0, hC0, hbr0⟩
      case round =>
        obtain ⟨j, acc, hjle, rfl, hB, hC, hbr⟩ := hrel
        by_cases hjlt : j < b.length
        · have hk : i + j < acc.length := by rw [hC.1]; omega
          have hp0 := (hbr.cell (p := ⟨p, 0, none⟩) hplt).trans pa0
          have hxb := (Cells.below hb hbr hblt) j hjlt
          have hxd := hB.cell (i + j) hk
          have hgr := hg.later hbr
          have hfz := hB.frozen (i + j)
          have hn1 : ¬ bb = w.heap.size := by omega
          have hn2 : ¬ p = w.heap.size := by omega
          have hn3 : ¬ w.heap.size = bb := by omega
          have hn4 : ¬ w.heap.size = p := by omega
          have hj0 : (0 : Int) ≤ (j : Int) := by omega
          have hj1 : (j : Int) < (b.length : Int) := by omega
          obtain ⟨k, hke⟩ : ∃ k, k = i + j := ⟨_, rfl⟩
          have ek : IntKind.i64.wrap ((i : Int) + j) = (k : Int) := by rw [show (i : Int) + j = (k : Int) from by omega]; exact wrap_i64_nat _ (by omega)
          have hk1 : (0 : Int) ≤ (k : Int) := by omega
          have hk2 : (k : Int) < (N : Int) := by omega
          obtain ⟨u, hu⟩ : ∃ u, u = acc[i + j] := ⟨_, rfl⟩
          rw [← hu, ← hke] at hxd
          rw [← hke] at hfz
          have HV : Hid (∀ w', Ext wr w' → Blk (w'.setCell ⟨w.heap.size, k, none⟩ (.int .i64 (u + a[i] * b[j]).val)) w.heap.size (acc.set (i + j) (acc[i + j] + a[i] * b[j]))) :=
            fun w' hw' => by subst hu; subst hke; exact (Ext.blk hB hw').set (i + j) _
          have HB := Lib.hid hB
          have HC : Hid (Conv a b (acc.set (i + j) (acc[i + j] + a[i] * b[j])) N i (j + 1)) := hC.step HN.out hilt hjlt hk
          have HK := Lib.hid hke
          clear hu hke hB hC
          go_wp2_with fail
          refine wp_region_head_tail (C := Ext wr) 22 (by kernel_rfl) (by kernel_rfl) (Ext.drew1 wr) ?_
          have hq0 := Ext.cell hp0
          have hq1 := Ext.cell hxb
          have hq2 := Ext.cell hxd
          clear hp0 hxb hxd
          simp only [List.take_succ_cons, List.take_zero, List.drop_succ_cons, List.drop_zero]
          iterate 19 (refine head_op (v := ?_) rfl (fun w' hw' => ?_) (fun K hK => ?_); rotate_left; (focus (go_simp; try rfl)); go_simp; refine hK _ ?_; clear hK K)
          (refine head_call rfl (fun w' hw' => ?_) (mult_ext g a[i] b[j] hgr) (fun K hK => ?_); (focus go_simp); go_simp; refine hK _ ?_; clear hK K)
          (refine head_call rfl (fun w' hw' => ?_) (xor_ext u (a[i] * b[j])) (fun K hK => ?_); (focus go_simp); go_simp; refine hK _ ?_; clear hK K)
          (refine head_op (v := ?_) rfl (fun w' hw' => ?_) (fun K hK => ?_); rotate_left; (focus (go_simp; try rfl)); go_simp; refine hK _ ?_; clear hK K)
          refine wpQuiet_nil ?_
          intro w' hw'
          have hxd' := hq2 w' hw'
          have hfz' := (Ext.blk HB.out hw').frozen k
          clear hq0 hq1 hq2
          go_wp2
          go_roundw
          case rel => exact ⟨j + 1, _, by omega, by go_num, HV.out w' hw', HC.out, (hbr.trans (hw'.mono hbr.size)).setCell (Nat.le_refl _) _⟩
          case measure => simp [intOf]; omega
        · have HC : Hid (Conv a b acc N (i + 1) 0) := by
            have e : j = b.length := by omega
            subst e; exact hC.row hilt
          clear hC
          go_wp2
          go_roundw
          case rel => exact ⟨i + 1, acc, by omega, by go_num, hB, HC.out, hbr⟩
          case measure => simp [intOf]; omega
    · have HP : Hid (ps acc0 = ps a * ps b) := hC0.2.2 (by omega)
      have HL : Hid (acc0.length = N) := hC0.1
      have hp0 := (hbr0.cell (p := ⟨p, 0, none⟩) hplt).trans pa0
      have hCT := Lib.hid hB0.cells
      clear hC0 hB0
      go_wp2_with (go_at_call 66; refine (newpoly_atF (f := f) w.heap.size g w.heap.size 0 N N acc0 HL.out (by omega) hN2 (Nat.le_refl _) _ hCT.out (Nat.le_refl _) hbr0.size).mono ?_; rintro e w3 ⟨q', l', rfl, hP, hps, hlen, hbl, hfr⟩)
      go_ret2
      exact ⟨q', l', rfl, hP, by rw [hps, HP.out], by omega, hbr0.trans (hbl.mono hbr0.size), hfr⟩

set_option maxRecDepth 100000 in
set_option maxHeartbeats 4000000 in
theorem mulpoly_any {f : FP} (g p q : Nat) (a b : List (El f)) (w : World) (hg : IsGF w f g) (hp : IsPoly w g p a) (hq : IsPoly w g q b) (hd : a.length + b.length ≤ 100000) :
    Calls Try.prog 51 #[.pointer (some ⟨p, 0, none⟩), .pointer (some ⟨q, 0, none⟩)] w (NewPoly w g (ps a * ps b) (a.length + b.length - 1)) := by
  have hp' := hp
  have hq' := hq
  obtain ⟨hna, pa0, ba, oa, ca, ⟨hca, hma⟩, pa1, ha⟩ := hp
  obtain ⟨hnb, pb0, bb, ob, cb, ⟨hcb, hmb⟩, pb1, hb⟩ := hq
  have hapos := hna.pos
  have hbpos := hnb.pos
  have hneq := run_neq_same ⟨g, 0, none⟩
  have halt : ba < w.heap.size := block_lt (ha 0 hna.pos)
  have hblt : bb < w.heap.size := block_lt (hb 0 hnb.pos)
  have hplt : p < w.heap.size := block_lt pa0
  by_cases hz : isZ a = true ∨ isZ b = true
  · obtain ⟨e, l, z, o, G⟩ := hg
    have e0 : ps a * ps b = ps [(0 : El f)] := by
      rw [ps_cons_zero]
      rcases hz with hz | hz
      · have e : a = [0] := by simpa [isZ] using hz
        rw [e, ps_cons_zero]; exact zero_mul _
      · have e : b = [0] := by simpa [isZ] using hz
        rw [e, ps_cons_zero]; exact mul_zero _
    have HF : ∀ n, NewPoly w g (ps a * ps b) (a.length + b.length - 1) (.returned (.tuple #[.pointer (some ⟨z, 0, none⟩), .nilIface])) (w.drewN n) := fun n =>
      ⟨z, [0], rfl, G.zero.drewN n, e0.symm, by simp; omega, drewN_below w n⟩
    have HF' := Lib.hid HF
    clear HF e0
    by_cases hza : isZ a = true
    · clear hz
      go_enter Try.func51, Try.ntmps51
      go_wp2
      go_quiet (fail)
      go_wp2_with (first
        | (go_at_call 71; refine (iszero_any g _ _ _ (by first | exact hp'.drewN _ | exact hq'.drewN _)).mono ?_; rintro e w1 ⟨rfl, rfl⟩)
        | (go_at_call 72; refine (getzero_any g _ (G.later (drewN_below w _))).mono ?_; rintro e w1 ⟨rfl, rfl⟩))
      go_ret2
      exact HF'.out _
    · have hza' : isZ a = false := by simpa using hza
      have hzb : isZ b = true := hz.resolve_left hza
      clear hz hza
      go_enter Try.func51, Try.ntmps51
      go_wp2
      go_quiet (fail)
      go_wp2_with (first
        | (go_at_call 71; refine (iszero_any g _ _ _ (by first | exact hp'.drewN _ | exact hq'.drewN _)).mono ?_; rintro e w1 ⟨rfl, rfl⟩)
        | (go_at_call 72; refine (getzero_any g _ (G.later (drewN_below w _))).mono ?_; rintro e w1 ⟨rfl, rfl⟩))
      go_ret2
      exact HF'.out _
  have hza' : isZ a = false := by simpa using fun h => hz (Or.inl h)
  have hzb' : isZ b = false := by simpa using fun h => hz (Or.inr h)
  exact (mulpoly_nz g p q a b w hg hp' hq' hd hza' hzb').mono fun _ _ h => h.plain
end Go.Proofs.Ytjgclomokekogaa
