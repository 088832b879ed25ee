/- The thin package's closure that calls a function of polynomials. -/
import Derived.Test.YtjgclomokekogaaW31
import Derived.Deep.RegionLaw
namespace Go.Proofs.Ytjgclomokekogaa
open Go.RowKit Rs

/-- What a function of polynomials hands back: a list of polynomials, or none at all. -/
def CbR {f : FP} (g : Nat) (R : List (List (El f)) → Prop) (w : World) (e : Ending) (w' : World) : Prop :=
  Below w.heap.size w w' ∧ ((e = .returned (.slice none 0 0) ∧ R []) ∨
    ∃ B m cap qs, ∃ ls : List (List (El f)), e = .returned (.slice (some ⟨B, 0, none⟩) m cap) ∧ ls.length = m ∧ 1 ≤ m ∧ m ≤ 2 ∧ Polys w' g B qs ls ∧ R ls)
/-- What the closure leaves in the variable. -/
def PolyLeft {f : FP} (w : World) (O : Nat) (R : List (List (El f)) → Prop) (w' : World) : Prop := ∃ wq, ∃ ls : List (List (El f)), R ls ∧ Outs wq O w' ls ls.length ∧ Below w.heap.size w wq
def PolyEnd {f : FP} (w : World) (O : Nat) (R : List (List (El f)) → Prop) (e : Ending) (w' : World) : Prop := ∃ b, e = .returned (.bool b) ∧ PolyLeft w O R w'
/-- The arguments of a function of polynomials. -/
def CbA (g x y : Nat) (caps : Array Value) : Array Value := #[.pointer (some ⟨g, 0, none⟩), .pointer (some ⟨x, 0, none⟩), .pointer (some ⟨y, 0, none⟩)] ++ caps

set_option maxRecDepth 100000 in
set_option maxHeartbeats 8000000 in
theorem poly1_any {f : FP} (g F A Bx Cl O : Nat) (K : FuncId) (caps : Array Value) (a b : List (El f)) (ba oa na ca bb ob nb cb : Nat) (R : List (List (El f)) → Prop) (w : World) (hg : IsGF w f g)
    (hF : w.cell? ⟨F, 0, none⟩ = some (.pointer (some ⟨g, 0, none⟩))) (hA : w.cell? ⟨A, 0, none⟩ = some (.slice (some ⟨ba, oa, none⟩) na ca)) (hB : w.cell? ⟨Bx, 0, none⟩ = some (.slice (some ⟨bb, ob, none⟩) nb cb))
    (hC : w.cell? ⟨Cl, 0, none⟩ = some (.func (.func K) #[] caps)) (hO : OutV w O (.slice none 0 0)) (ha : Cells w ba oa a) (hna : a.length = na) (hna1 : 1 ≤ na) (hna2 : na ≤ 100000) (hb : Cells w bb ob b) (hnb : b.length = nb) (hnb1 : 1 ≤ nb) (hnb2 : nb ≤ 100000)
    (hrun : ∀ (x y : Nat) (w : World), (callFunc K (CbA g x y caps)).run Try.prog w = .ok (.enter K (CbA g x y caps)) w)
    (hcb : ∀ (w1 : World) (x y : Nat) (la lb : List (El f)), Below w.heap.size w w1 → IsPoly w1 g x la → ps la = ps a → la.length ≤ na → IsPoly w1 g y lb → ps lb = ps b → lb.length ≤ nb → Calls Try.prog K (CbA g x y caps) w1 (CbR g R w1)) :
    Calls Try.prog 70 #[.pointer (some ⟨F, 0, none⟩), .pointer (some ⟨A, 0, none⟩), .pointer (some ⟨Bx, 0, none⟩), .pointer (some ⟨Cl, 0, none⟩), .pointer (some ⟨O, 0, none⟩)] w (PolyEnd w O R) := by
  have HA := Lib.hid ha
  have HB := Lib.hid hb
  have HNA := Lib.hid hna
  have HNB := Lib.hid hnb
  have HCB := Lib.hid hcb
  have HRun := Lib.hid hrun
  clear ha hb hna hnb hcb hrun
  go_enter Try.func70, Try.ntmps70
  go_wp2_with fail
  go_region_held3 (fun w' => Below w.heap.size w w' ∧ w'.cell? ⟨F, 0, none⟩ = some (.pointer (some ⟨g, 0, none⟩)) ∧ w'.cell? ⟨A, 0, none⟩ = some (.slice (some ⟨ba, oa, none⟩) na ca))
    (first | assumption | exact ⟨(Below.refl _ w).drew, cell_later (drewN_below w 1) hF, cell_later (drewN_below w 1) hA⟩ | exact ⟨hb2w, cell_later hb2w hF, cell_later hb2w hA⟩ | exact ⟨hb1w, cell_later hb1w hF, cell_later hb1w hA⟩)
    (first
      | (go_at_call 33; refine (clone_el ba oa na ca a _ HNA.out hna1 hna2 (HA.out.later (And.left (by assumption)))).mono ?_; rintro e w1 ⟨A1, c1, rfl, hcl, hbl⟩; have hb1w : Below w.heap.size w w1 := Below.trans (And.left (by assumption)) (hbl.mono (Below.size (And.left (by assumption)))); have hle1 := (own_le hcl hna1).2.2)
      | (go_at_call 66; refine (newpoly_at (f := f) g A1 0 c1 na a HNA.out hna1 hna2 hle1 _ (Classical.choose_spec (own_blkr hcl)).cells').mono ?_; rintro e w2 ⟨x, la, rfl, hX, hpx, hlx, hb2⟩; have hb2w : Below w.heap.size w w2 := ext_trans hb1w hb2))
  go_wp2_with fail
  have hBc := cell_later hb2w hB
  have hFc := cell_later hb2w hF
  have HPX := Lib.hid hpx
  clear hpx
  go_region_held3 (fun w' => Below w2.heap.size w2 w' ∧ w'.cell? ⟨F, 0, none⟩ = some (.pointer (some ⟨g, 0, none⟩)) ∧ w'.cell? ⟨Bx, 0, none⟩ = some (.slice (some ⟨bb, ob, none⟩) nb cb))
    (first | assumption | exact ⟨(Below.refl _ w2).drew, cell_later (drewN_below w2 1) hFc, cell_later (drewN_below w2 1) hBc⟩ | exact ⟨hb4w, cell_later hb4w hFc, cell_later hb4w hBc⟩ | exact ⟨hb3w, cell_later hb3w hFc, cell_later hb3w hBc⟩)
    (first
      | (go_at_call 33; refine (clone_el bb ob nb cb b _ HNB.out hnb1 hnb2 ((HB.out.later hb2w).later (And.left (by assumption)))).mono ?_; rintro e w3 ⟨A3, c3, rfl, hcl3, hbl3⟩; have hb3w : Below w2.heap.size w2 w3 := Below.trans (And.left (by assumption)) (hbl3.mono (Below.size (And.left (by assumption)))); have hle3 := (own_le hcl3 hnb1).2.2)
      | (go_at_call 66; refine (newpoly_at (f := f) g A3 0 c3 nb b HNB.out hnb1 hnb2 hle3 _ (Classical.choose_spec (own_blkr hcl3)).cells').mono ?_; rintro e w4 ⟨y, lb, rfl, hY, hpy, hly, hb4⟩; have hb4w : Below w2.heap.size w2 w4 := ext_trans hb3w hb4))
  have HPY := Lib.hid hpy
  clear hpy
  have hb04 := ext_trans hb2w hb4w
  have hF4 := cell_later hb04 hF
  have hC4 := cell_later hb04 hC
  have HCall := Lib.hid (HCB.out w4 x y la lb hb04 (hX.later hb4w) HPX.out hlx hY HPY.out hly)
  have hrun4 := HRun.out x y w4
  unfold CbA at hrun4
  go_wp2_with (refine HCall.out.mono ?_; rintro e wq ⟨hbq, (⟨rfl, hR⟩ | ⟨B, m, cap, qs, ls, rfl, hlm, hm1, hm2, hP, hR⟩)⟩; all_goals (have hO4 : OutV wq O (.slice none 0 0) := (hO.later hb04).later hbq; have hbwq := ext_trans hb04 hbq; clear hrun4 HCall))
  · have HF : ∀ b, Hid (PolyEnd w O R (.returned (.bool b)) wq) := fun b => ⟨b, rfl, wq, [], hR, Outs.start [] hO4, hbwq⟩
    clear hR
    refine wp_loop_rounds 1 ?_
    rw [rounds_succ]
    go_wp2
    go_ret
    exact (HF _).out
  · have HL := Lib.hid hlm
    have HP := Lib.hid hP
    have hlm1 : ls.length ≤ m := by omega
    have hlm2 : m ≤ ls.length := by omega
    have hOlt := hO4.lt
    clear hlm hP
    go_loopw [11, 38] (fun p x wr => ∃ i : Nat, i ≤ m ∧ x = .int .i64 (i : Int) ∧ Outs wq O wr ls i) (fun _ x _ => m - (intOf x).toNat)
    case atStart => exact ⟨0, by omega, rfl, Outs.start ls hO4⟩
    case round =>
      obtain ⟨i, hi, rfl, hout⟩ := hrel
      by_cases hlt : i < m
      · obtain ⟨v, xs, hOv, hv, hown, hxl, hall, hgo⟩ := hout
        have hqi : i < qs.length := by rw [HP.out.1]; omega
        have hli : i < ls.length := by omega
        obtain ⟨hcp0, hIP0⟩ := HP.out.2 i hqi hli
        have hcp := grown_cell hgo hcp0 (outv_ptr hO4 hcp0)
        have hIP := poly_out hIP0 hO4 hgo
        obtain ⟨hn, hq0, b2, off2, cap2, ⟨hcc, hmm⟩, hq1, hcells⟩ := hIP
        have hnpos := hn.pos
        have HOW := Lib.hid hown
        have hi0 : (0 : Int) ≤ (i : Int) := by omega
        have hi1 : (i : Int) < (m : Int) := by omega
        have hOd : OutV (wr.drewN 1) O v := hOv.later (drewN_below wr 1)
        have hOdc := hOd.cell
        have hOvc := hOv.cell
        have hOdd : wr.drew.cell? ⟨O, 0, none⟩ = some v := hOdc
        have hq1d := Lib.hid (cell_later (drewN_below wr 1) hq1)
        have hcellsd := Lib.hid (hcells.later (drewN_below wr 1))
        have hbd : Below wr.heap.size wr (wr.drewN 1) := drewN_below wr 1
        have hwqr : wq.heap.size ≤ wr.heap.size := hgo.size
        have hneq : ∀ c k, v = .slice (some ⟨c, 0, none⟩) i k → O ≠ c := by
          intro c k e1 e2
          rcases hown.2 with ⟨h3, _⟩ | ⟨g2, cap3, cur2, h3, h4, _⟩
          · rw [e1] at h3; simp at h3
          · rw [e1] at h3
            simp only [Value.slice.injEq, Option.some.injEq, Addr.mk.injEq, and_true, true_and] at h3
            omega
        have hne2 : ∀ k, v.ownBlock = some k → O ≠ k := by
          intro k hk
          rcases hv with rfl | ⟨c, k2, rfl⟩
          · simp [Value.ownBlock] at hk
          · simp only [Value.ownBlock, Option.some.injEq] at hk
            subst hk; exact hneq _ _ rfl
        have HNE := Lib.hid hne2
        have HV := Lib.hid hv
        have HALL := Lib.hid hall
        have HXL := Lib.hid hxl
        have hqn : 1 ≤ ls[i].length := hnpos
        clear hneq hne2 hv hall hxl hown hq1 hcells hcp0 hIP0 hq0 hn hcc
        go_wp2_with fail
        go_region_law (first
            | (refine step_append_list (by rfl) (.tmp 42) (.tmp 46) rfl wq.heap.size i v xs rfl (own_below (own_below (own_below HOW.out hbd) hb5) ((Below.refl _ _).alloc (Nat.le_refl _) _)) w5.heap.size (.slice (some ⟨A5, 0, none⟩) ls[i].length c5) rfl (by simp) rfl (by omega) (by have := hb5.size; simp at this; simp; omega) ?_; intro v7 w7 hown7 hg7; have hO7 : OutV w7 O v := (by unfold OutV; rw [hg7.block O hO6.lt (fun e => HNE.out O e.symm rfl)]; exact hO6); have hO7c := hO7.cell; have hO7f := hO7.free; obtain ⟨c7, cap7, rfl, _⟩ := own_shape hown7 (by omega))
            | (go_simp; go_at_call 69; refine (coeffs_any (f := f) g qs[i] ls[i] _ b2 off2 cap2 hq1d.out).mono ?_; rintro e w5 ⟨rfl, rfl⟩)
            | (go_simp; go_at_call 33; refine (clone_el b2 off2 ls[i].length cap2 ls[i] _ rfl hqn hmm hcellsd.out).mono ?_; rintro e w5 ⟨A5, c5, rfl, hcl5, hb5⟩; have hO5 := hOd.later hb5; have hO5c := hO5.cell; have hO6 := hO5.later ((Below.refl _ _).alloc (Nat.le_refl _) (.cells #[.slice (some ⟨A5, 0, none⟩) ls[i].length c5] 22)); have hO6c := hO6.cell))
        all_goals
          have hbz : Below wr.heap.size wr (w5.alloc (.cells #[.slice (some ⟨A5, 0, none⟩) ls[i].length c5] 22)) := (hbd.trans (hb5.mono hbd.size)).alloc (hbd.trans (hb5.mono hbd.size)).size _
          have HF := Lib.hid (outs_step hOv HV.out HOW.out HXL.out HALL.out hgo hbz hli (own_weak (own_below hcl5 ((Below.refl _ _).alloc (Nat.le_refl _) _)) (Nat.le_trans hwqr hbd.size)) hown7 hg7 hOlt)
          clear hcl5 hown7
          go_wp2_with fail
          go_roundw
          case rel => exact ⟨i + 1, by omega, by go_num, HF.out⟩
          case measure => simp [intOf]; omega
      · have HF : ∀ b, Hid (PolyEnd w O R (.returned (.bool b)) wr) := fun b => by
          have e : i = ls.length := by omega
          subst e
          exact ⟨b, rfl, wq, ls, hR, hout, hbwq⟩
        clear hR hout
        go_wp2
        go_ret
        exact (HF _).out
end Go.Proofs.Ytjgclomokekogaa
