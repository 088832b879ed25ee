/- The package's products of a polynomial with an element and with a power; a power alone. -/
import Derived.Test.YtjgclomokekogaaW6
namespace Go.Proofs.Ytjgclomokekogaa
open Go.RowKit Rs

theorem IsGF.drew {f : FP} {w : World} {g : Nat} (h : IsGF w f g) : IsGF w.drew f g := h.drewN 1
/-- A list times an element, being filled. -/
theorem mono_at {f : FP} (a : List (El f)) (c : El f) (d k : Nat) (hk : k < a.length) : ∀ h, a[k] * c = (a.map (· * c) ++ List.replicate d (0 : El f))[k]'h := by
  intro h
  rw [List.getElem_append_left (by simpa using hk), List.getElem_map]
theorem mono_full {f : FP} (a : List (El f)) (c : El f) (d n : Nat) (hn : n = a.length + d) : (a.map (· * c) ++ List.replicate d (0 : El f)).take a.length ++ List.replicate (n - a.length) 0 = a.map (· * c) ++ List.replicate d 0 := by
  subst hn
  rw [List.take_left' (by simp), show a.length + d - a.length = d from by omega]

set_option maxRecDepth 100000 in
set_option maxHeartbeats 2000000 in
theorem bymono_any {f : FP} (g p d : Nat) (c : El f) (a : List (El f)) (w : World) (hg : IsGF w f g) (hp : IsPoly w g p a) (hd : a.length + d ≤ 100000) :
    Calls Try.prog 53 #[.pointer (some ⟨p, 0, none⟩), .int .i64 d, .int .i64 c.val] w (NewPoly w g (mon c d * ps a) (a.length + d)) := by
  have hp' := hp
  obtain ⟨hna, pa0, ba, oa, ca, ⟨hca, hma⟩, pa1, ha⟩ := hp
  have hapos := hna.pos
  by_cases hc : c = 0
  · obtain ⟨e, l, z, o, G⟩ := hg
    have HF : NewPoly w g (mon c d * ps a) (a.length + d) (.returned (.tuple #[.pointer (some ⟨z, 0, none⟩), .nilIface])) w :=
      ⟨z, [0], rfl, G.zero, by rw [hc, mon_zero, zero_mul, ps_cons_zero]; rfl, by simp; omega, Below.refl _ _⟩
    have HF' := Lib.hid HF
    subst hc
    have e0 : ((0 : El f).val : Int) = 0 := rfl
    rw [e0]
    clear HF e0
    go_enter Try.func53, Try.ntmps53
    go_wp2_with (go_at_call 72; refine (getzero_any g _ G).mono ?_; rintro e w1 ⟨rfl, rfl⟩)
    go_ret2
    exact HF'.out
  have hc' := val_ne hc
  obtain ⟨T, hT⟩ : ∃ T, T = a.map (· * c) ++ List.replicate d (0 : El f) := ⟨_, rfl⟩
  obtain ⟨N, hN⟩ : ∃ N, N = a.length + d := ⟨_, rfl⟩
  have hTl : Hid (T.length = N) := by rw [hT, hN]; show _ = _; simp
  have hTg : Hid (∀ k (hk : k < a.length), ∀ h, a[k] * c = T[k]'h) := by subst hT; exact fun k hk => mono_at a c d k hk
  have hTf : Hid (T.take a.length ++ List.replicate (N - a.length) 0 = T) := by subst hT; exact mono_full a c d N hN
  have hTp : Hid (ps T = mon c d * ps a) := by subst hT; exact ps_mono a c d
  have halt : ba < w.heap.size := block_lt (ha 0 hna.pos)
  have hplt : p < w.heap.size := block_lt pa0
  have eN : (a.length : Int) + d = N := by omega
  have hN1 : a.length ≤ N := by omega
  have hN2 : N ≤ 100000 := by omega
  have HN := Lib.hid hN
  rw [← hN]
  clear hT hN hd
  obtain ⟨i0, hi, hz0, hz1, hz2⟩ := info_parts Try.info3
  go_enter Try.func53, Try.ntmps53
  go_wp2_with (at_make; refine wpList_make_full _ rfl _ _ 22 rfl w.heap.size 3 i0 (.int .i64 0) 1 Try.underlying22 hi hz0 hz1 .i64 .i64 _ _ N rfl rfl (by first | rfl | exact eN) (by first | rfl | exact eN) (by rw [hz2]; omega) (by unfold maxLen; omega) (by simp) ?_; intro w1 hown hgrow; have hB1 : Blk w1 w.heap.size (List.replicate N (0 : El f)) := (made_blk hown); have hb1 : Below w.heap.size w w1 := ((Below.refl _ _).grown hgrow (by simp) (by simp)); clear hown hgrow)
  go_loopw [10] (fun i wr => ∃ k : Nat, k ≤ a.length ∧ i = .int .i64 (k : Int) ∧ Blk wr w.heap.size (T.take k ++ List.replicate (N - k) (0 : El f)) ∧ Below w.heap.size w wr) (fun i _ => a.length - (intOf i).toNat)
  case atStart => exact ⟨0, by omega, rfl, hB1, hb1⟩
  case round =>
    obtain ⟨k, hk, rfl, hB, hbr⟩ := hrel
    have hp0 := (hbr.cell (p := ⟨p, 0, none⟩) hplt).trans pa0
    have hp1 := (hbr.cell (p := ⟨p, 1, none⟩) hplt).trans pa1
    by_cases hlt : k < a.length
    · have hxa := (Cells.below ha hbr halt) k hlt
      have hgr := hg.later hbr
      have hfz := hB.frozen k
      obtain ⟨z, hxd⟩ : ∃ z, wr.cell? ⟨w.heap.size, k, none⟩ = some z := ⟨_, hB.cell k (by rw [List.length_append, List.length_take, hTl.out, List.length_replicate]; omega)⟩
      have hn1 : ¬ ba = w.heap.size := by omega
      have hn2 : ¬ p = w.heap.size := by omega
      have hn3 : ¬ w.heap.size = ba := by omega
      have hn4 : ¬ w.heap.size = p := by omega
      have hi0 : (0 : Int) ≤ (k : Int) := by omega
      have hi1 : (k : Int) < (a.length : Int) := by omega
      have hi2 : (k : Int) < (N : Int) := by omega
      go_wp2_with fail
      go_region_held3 (fun w' => w'.cell? ⟨p, 0, none⟩ = some (.pointer (some ⟨g, 0, none⟩)) ∧ w'.cell? ⟨p, 1, none⟩ = some (.slice (some ⟨ba, oa, none⟩) a.length ca) ∧ w'.cell? ⟨ba, oa + k, none⟩ = some (.int .i64 a[k].val)) (go_keep) (first | (go_at_call 76; refine (mult_any g _ _ _ ?_).mono ?_; (first | exact hgr | exact hgr.drew | exact hgr.drew.drew); rintro e w' ⟨rfl, n, rfl⟩))
      have HV : Hid (∀ n, Blk ((wr.drewN n).setCell ⟨w.heap.size, k, none⟩ (.int .i64 (a[k] * c).val)) w.heap.size (T.take (k + 1) ++ List.replicate (N - (k + 1)) (0 : El f))) :=
        fun n => fill_blk (hB.drewN n) hTl.out (by omega) (hTg.out k hlt)
      go_wp2
      go_roundw
      case rel => exact ⟨k + 1, by omega, by go_num, by first | exact HV.out _ | exact (HV.out _).drew, by first | exact ((below_drewN hbr _).setCell (Nat.le_refl _) _) | exact ((below_drewN hbr _).setCell (Nat.le_refl _) _).drew⟩
      case measure => simp [intOf]; omega
    · have hBT : Blk wr w.heap.size T := by
        have := hB; rw [show k = a.length from by omega, hTf.out] at this; exact this
      have hCT := Lib.hid hBT.cells
      clear hB hBT
      go_wp2_with (go_at_call 66; refine (newpoly_at (f := f) g w.heap.size 0 N N T hTl.out (by omega) hN2 (Nat.le_refl _) _ hCT.out).mono ?_; rintro e w3 ⟨q', l', rfl, hP, hps, hlen, hbl⟩)
      go_ret2
      exact ⟨q', l', rfl, hP, by rw [hps, hTp.out], by omega, hbr.trans (hbl.mono hbr.size)⟩
end Go.Proofs.Ytjgclomokekogaa
