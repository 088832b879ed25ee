/- The package's product of a polynomial with an element; a power alone. -/
import Derived.Test.YtjgclomokekogaaW7
namespace Go.Proofs.Ytjgclomokekogaa
open Go.RowKit Rs

/-- A polynomial alone among the results. -/
def NewPoly1 {f : FP} (w : World) (g : Nat) (p : Ps (El f)) (n : Nat) (e : Ending) (w' : World) : Prop :=
  ∃ (q : Nat) (l : List (El f)), e = .returned (.pointer (some ⟨q, 0, none⟩)) ∧ IsPoly w' g q l ∧ ps l = p ∧ l.length ≤ n ∧ Below w.heap.size w w'

set_option maxRecDepth 100000 in
set_option maxHeartbeats 2000000 in
theorem scale_any {f : FP} (g p : Nat) (c : El f) (a : List (El f)) (w : World) (hg : IsGF w f g) (hp : IsPoly w g p a) :
    Calls Try.prog 55 #[.pointer (some ⟨p, 0, none⟩), .int .i64 c.val] w (NewPoly1 w g (mon c 0 * ps a) a.length) := by
  have hp' := hp
  obtain ⟨hna, pa0, ba, oa, ca, ⟨hca, hma⟩, pa1, ha⟩ := hp
  have hapos := hna.pos
  by_cases hc : c = 0
  · obtain ⟨e, l, z, o, G⟩ := hg
    have HF : NewPoly1 w g (mon c 0 * ps a) a.length (.returned (.pointer (some ⟨z, 0, none⟩))) w :=
      ⟨z, [0], rfl, G.zero, by rw [hc, mon_zero, zero_mul, ps_cons_zero]; rfl, by simp; omega, Below.refl _ _⟩
    have HF' := Lib.hid HF
    subst hc
    have e0 : ((0 : El f).val : Int) = 0 := rfl
    rw [e0]
    clear HF e0
    go_enter Try.func55, Try.ntmps55
    go_wp2_with (go_at_call 72; refine (getzero_any g _ G).mono ?_; rintro e w1 ⟨rfl, rfl⟩)
    go_ret
    exact HF'.out
  have hc' := val_ne hc
  by_cases hc1 : c = 1
  · have HF : NewPoly1 w g (mon c 0 * ps a) a.length (.returned (.pointer (some ⟨p, 0, none⟩))) w :=
      ⟨p, a, rfl, hp', by rw [hc1]; exact (one_mul (ps a)).symm, Nat.le_refl _, Below.refl _ _⟩
    have HF' := Lib.hid HF
    subst hc1
    have e1 : ((1 : El f).val : Int) = 1 := rfl
    rw [e1]
    clear HF e1 hc'
    go_enter Try.func55, Try.ntmps55
    go_wp2
    go_ret
    exact HF'.out
  have hc1' : ((c.val : Int) == 1) = false := by
    have := beq_val c 1
    rw [show ((1 : El f).val : Int) = 1 from rfl, decide_eq_false hc1] at this; exact this
  obtain ⟨T, hT⟩ : ∃ T, T = a.map (· * c) := ⟨_, rfl⟩
  have hTl : Hid (T.length = a.length) := by rw [hT]; show _ = _; simp
  have hTg : Hid (∀ k (hk : k < a.length), ∀ h, a[k] * c = T[k]'h) := by subst hT; exact fun k hk h => by rw [List.getElem_map]
  have hTf : Hid (T.take a.length ++ List.replicate (a.length - a.length) 0 = T) := fill_all T 0 a.length hTl.out.symm
  have hTp : Hid (ps T = mon c 0 * ps a) := by subst hT; exact ps_map_mul a c
  have halt : ba < w.heap.size := block_lt (ha 0 hna.pos)
  have hplt : p < w.heap.size := block_lt pa0
  clear hT
  obtain ⟨i0, hi, hz0, hz1, hz2⟩ := info_parts Try.info3
  go_enter Try.func55, Try.ntmps55
  go_wp2_with (at_make; refine wpList_make_full _ rfl _ _ 22 rfl w.heap.size 3 i0 (.int .i64 0) 1 Try.underlying22 hi hz0 hz1 .i64 .i64 _ _ a.length rfl rfl rfl rfl (by rw [hz2]; omega) (by unfold maxLen; omega) (by simp) ?_; intro w1 hown hgrow; have hB1 : Blk w1 w.heap.size (List.replicate a.length (0 : El f)) := (made_blk hown); have hb1 : Below w.heap.size w w1 := ((Below.refl _ _).grown hgrow (by simp) (by simp)); clear hown hgrow)
  go_loopw [7] (fun i wr => ∃ k : Nat, k ≤ a.length ∧ i = .int .i64 (k : Int) ∧ Blk wr w.heap.size (T.take k ++ List.replicate (a.length - k) (0 : El f)) ∧ Below w.heap.size w wr) (fun i _ => a.length - (intOf i).toNat)
  case atStart => exact ⟨0, by omega, rfl, hB1, hb1⟩
  case round =>
    obtain ⟨k, hk, rfl, hB, hbr⟩ := hrel
    have hp0 := (hbr.cell (p := ⟨p, 0, none⟩) hplt).trans pa0
    have hp1 := (hbr.cell (p := ⟨p, 1, none⟩) hplt).trans pa1
    by_cases hlt : k < a.length
    · have hxa := (Cells.below ha hbr halt) k hlt
      have hgr := hg.later hbr
      have hfz := hB.frozen k
      obtain ⟨z, hxd⟩ : ∃ z, wr.cell? ⟨w.heap.size, k, none⟩ = some z := ⟨_, hB.cell k (by rw [List.length_append, List.length_take, hTl.out, List.length_replicate]; omega)⟩
      have hn1 : ¬ ba = w.heap.size := by omega
      have hn2 : ¬ p = w.heap.size := by omega
      have hn3 : ¬ w.heap.size = ba := by omega
      have hn4 : ¬ w.heap.size = p := by omega
      have hi0 : (0 : Int) ≤ (k : Int) := by omega
      have hi1 : (k : Int) < (a.length : Int) := by omega
      go_wp2_with fail
      go_region_held3 (fun w' => w'.cell? ⟨p, 0, none⟩ = some (.pointer (some ⟨g, 0, none⟩)) ∧ w'.cell? ⟨p, 1, none⟩ = some (.slice (some ⟨ba, oa, none⟩) a.length ca) ∧ w'.cell? ⟨ba, oa + k, none⟩ = some (.int .i64 a[k].val)) (go_keep) (first | (go_at_call 76; refine (mult_any g _ _ _ ?_).mono ?_; (first | exact hgr | exact hgr.drew | exact hgr.drew.drew); rintro e w' ⟨rfl, n, rfl⟩))
      have HV : Hid (∀ n, Blk ((wr.drewN n).setCell ⟨w.heap.size, k, none⟩ (.int .i64 (a[k] * c).val)) w.heap.size (T.take (k + 1) ++ List.replicate (a.length - (k + 1)) (0 : El f))) :=
        fun n => fill_blk (hB.drewN n) hTl.out (by omega) (hTg.out k hlt)
      go_wp2
      go_roundw
      case rel => exact ⟨k + 1, by omega, by go_num, by first | exact HV.out _ | exact (HV.out _).drew, by first | exact ((below_drewN hbr _).setCell (Nat.le_refl _) _) | exact ((below_drewN hbr _).setCell (Nat.le_refl _) _).drew⟩
      case measure => simp [intOf]; omega
    · have hBT : Blk wr w.heap.size T := by
        have := hB; rw [show k = a.length from by omega, hTf.out] at this; exact this
      have hCT := Lib.hid hBT.cells
      clear hB hBT
      go_wp2_with (go_at_call 66; refine (newpoly_at (f := f) g w.heap.size 0 a.length a.length T hTl.out hapos hma (Nat.le_refl _) _ hCT.out).mono ?_; rintro e w3 ⟨q', l', rfl, hP, hps, hlen, hbl⟩)
      go_ret
      exact ⟨q', l', rfl, hP, by rw [hps, hTp.out], by omega, hbr.trans (hbl.mono hbr.size)⟩

theorem blk_one {f : FP} {w : World} {D : Nat} (d : Nat) (c : El f) (h : Blk w D (List.replicate (d + 1) (0 : El f))) : Blk (w.setCell ⟨D, 0, none⟩ (.int .i64 c.val)) D (c :: List.replicate d (0 : El f)) := by
  have := h.set 0 c
  rwa [List.replicate_succ, List.set_cons_zero] at this

set_option maxRecDepth 100000 in
set_option maxHeartbeats 2000000 in
theorem build_any {f : FP} (g d : Nat) (c : El f) (w : World) (hg : IsGF w f g) (hd : d + 1 ≤ 100000) :
    Calls Try.prog 77 #[.pointer (some ⟨g, 0, none⟩), .int .i64 d, .int .i64 c.val] w (NewPoly w g (mon c d) (d + 1)) := by
  by_cases hc : c = 0
  · obtain ⟨e, l, z, o, G⟩ := hg
    have HF : NewPoly w g (mon c d) (d + 1) (.returned (.tuple #[.pointer (some ⟨z, 0, none⟩), .nilIface])) w :=
      ⟨z, [0], rfl, G.zero, by rw [hc, mon_zero, ps_cons_zero]; rfl, by simp, Below.refl _ _⟩
    have HF' := Lib.hid HF
    have hz := G.c2
    subst hc
    have e0 : ((0 : El f).val : Int) = 0 := rfl
    rw [e0]
    clear HF e0
    go_enter Try.func77, Try.ntmps77
    go_wp2
    go_ret2
    exact HF'.out
  have hc' := val_ne hc
  obtain ⟨N, hN⟩ : ∃ N, N = d + 1 := ⟨_, rfl⟩
  have hTp : Hid (ps (c :: List.replicate d (0 : El f)) = mon c d) := ps_build c d
  have hTl : Hid ((c :: List.replicate d (0 : El f)).length = N) := by rw [hN]; show _ = _; simp
  have hBs : Hid (∀ (wx : World) D, Blk wx D (List.replicate N (0 : El f)) → Blk (wx.setCell ⟨D, 0, none⟩ (.int .i64 c.val)) D (c :: List.replicate d (0 : El f))) := by
    rw [hN]; exact fun wx D h => blk_one d c h
  have eN : (d : Int) + 1 = N := by omega
  have hN1 : 0 < N := by omega
  have hN2 : N ≤ 100000 := by omega
  have hN3 : (0 : Int) < (N : Int) := by omega
  rw [← hN]
  clear hN hd
  obtain ⟨i0, hi, hz0, hz1, hz2⟩ := info_parts Try.info3
  go_enter Try.func77, Try.ntmps77
  go_wp2_with (first
    | (at_make; refine wpList_make_full _ rfl _ _ 22 rfl w.heap.size 3 i0 (.int .i64 0) 1 Try.underlying22 hi hz0 hz1 .i64 .i64 _ _ N rfl rfl (by first | rfl | exact eN) (by first | rfl | exact eN) (by rw [hz2]; omega) (by unfold maxLen; omega) (by simp) ?_; intro w1 hown hgrow; have hB1 : Blk w1 w.heap.size (List.replicate N (0 : El f)) := (made_blk hown); have hb1 : Below w.heap.size w w1 := ((Below.refl _ _).grown hgrow (by simp) (by simp)); clear hown hgrow; have hfz := hB1.frozen 0; have hxd := hB1.cell 0 (by simp; omega))
    | (go_at_call 66; refine (newpoly_at (f := f) g w.heap.size 0 N N (c :: List.replicate d (0 : El f)) hTl.out hN1 hN2 (Nat.le_refl _) _ (hBs.out _ _ hB1).cells).mono ?_; rintro e w3 ⟨q', l', rfl, hP, hps, hlen, hbl⟩))
  go_ret2
  exact ⟨q', l', rfl, hP, by rw [hps, hTp.out], by omega, (hb1.setCell (Nat.le_refl _) _).trans (hbl.mono (by have := hb1.size; simp; omega))⟩
end Go.Proofs.Ytjgclomokekogaa
