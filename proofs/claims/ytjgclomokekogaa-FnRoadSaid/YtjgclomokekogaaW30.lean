/- What stands behind data: the statement's walk. -/
import Derived.Test.YtjgclomokekogaaW29
namespace Go.Proofs.Ytjgclomokekogaa
open Go.RowKit Rs

theorem own_elems {f : FP} {w : World} {B A N cap : Nat} {l : List (El f)} (h : w.ownsRow B 3 1 (.slice (some ⟨A, 0, none⟩) N cap) N (vs l)) (hl : l.length = N) (h1 : 1 ≤ N) (hm : N ≤ 100000) : Elems w (.slice (some ⟨A, 0, none⟩) N cap) l := by
  obtain ⟨r, hr⟩ := own_blkr h
  exact Cells.elems hr.cells' hl h1 hm
theorem lit_own (w : World) : (w.alloc (.cells #[] 3)).ownsRow w.heap.size 3 1 (.slice (some ⟨w.heap.size, 0, none⟩) 0 0) 0 (vs (f := fp0) []) :=
  World.ownsRow_lit (base := w.heap.size) (e := 3) (size := 1) w #[] 0 (Nat.le_refl _) (by unfold maxLen; omega) rfl
theorem lit_own' (f : FP) (w : World) : (w.alloc (.cells #[] 3)).ownsRow w.heap.size 3 1 (.slice (some ⟨w.heap.size, 0, none⟩) 0 0) 0 (vs (f := f) []) :=
  World.ownsRow_lit (base := w.heap.size) (e := 3) (size := 1) w #[] 0 (Nat.le_refl _) (by unfold maxLen; omega) rfl

set_option maxHeartbeats 8000000 in
theorem fnencode_any (n ec : Int) (v : Option Addr) (k cap : Nat) (l : List Int) (w : World) (hk : l.length = k) (hm : k ≤ maxLen) (hl : Ints w (.slice v k cap) l) :
    Calls Try.prog 3 #[.int .i64 n, .slice v k cap, .int .i64 ec] w (Yes w) := by
  have HL := Lib.hid hl
  clear hl
  unfold maxLen at hm
  by_cases hbig : (2147483647 : Int) < (k : Int)
  · clear hk
    go_enter Try.func3, Try.ntmps3
    go_wp2
    go_ret
    exact ⟨rfl, Below.refl _ _⟩
  by_cases hfit : FitsP n k ec
  rotate_left
  · have HFit := Lib.hid hfit
    clear hk hfit
    go_enter Try.func3, Try.ntmps3
    go_wp2_with (first | (go_at_call 13; refine (fits_any n k ec _).mono ?_; rintro e w1 ⟨b, rfl, hy, _, hb1⟩; have hbf : b = false := Bool.eq_false_iff.2 (fun h => HFit.out (hy h)); clear hy; subst hbf) | (go_at_call 15; refine (works_any _).mono ?_; rintro e w2 ⟨rfl, hb2⟩))
    go_ret
    exact ⟨rfl, ext_trans hb1 hb2⟩
  by_cases hin : InP n l
  rotate_left
  · have HFit := Lib.hid hfit
    have HIn := Lib.hid hin
    have HK := Lib.hid hk
    have hk3 : l.length ≤ 100000 := by have := hfit.2.2.2.1; omega
    clear hk hfit hin
    go_enter Try.func3, Try.ntmps3
    go_wp2_with (first | (go_at_call 13; refine (fits_any n k ec _).mono ?_; rintro e w1 ⟨b, rfl, _, hy, hb1⟩; have hbf : b = true := hy HFit.out; clear hy; subst hbf) | (go_at_call 14; refine (in_any n _ l _ (HL.out.later hb1) hk3).mono ?_; rintro e w2 ⟨b, rfl, hy, _, hb2⟩; have hbf : b = false := Bool.eq_false_iff.2 (fun h => HIn.out (hy h)); clear hy; subst hbf) | (go_at_call 15; refine (works_any _).mono ?_; rintro e w3 ⟨rfl, hb3⟩))
    go_ret
    exact ⟨rfl, ext_trans (ext_trans hb1 hb2) hb3⟩
  obtain ⟨f, e, N, data, hf, rfl, hN, hdl, hk1, he1, hNf, hN3, hd⟩ := compared hk hfit hin
  have hk3 : l.length ≤ 100000 := by omega
  have hel := HL.out.elems hd (by omega)
  obtain ⟨b, off, cap', hv, _, _, hcl⟩ := HL.out.elems hd (by omega)
  rw [hdl] at hv
  have HFit := Lib.hid hfit
  have HIn := Lib.hid hin
  have he3 : e ≤ 300 := by omega
  have hN1 : 1 ≤ N := by omega
  have hN2 : k + e ≤ N := by omega
  have hN4 : N ≤ k + e := by omega
  have HD := Lib.hid hdl
  have HN := Lib.hid hN
  have HE := Lib.hid hel
  clear hk hfit hin hd hdl hN hel
  simp only [Value.slice.injEq] at hv
  obtain ⟨rfl, _, rfl⟩ := hv
  go_enter Try.func3, Try.ntmps3
  go_wp2_with (first
    | (go_at_call 13; refine (fits_any n k e _).mono ?_; rintro e' w1 ⟨b', rfl, _, hy, hb1⟩; have hbf : b' = true := hy HFit.out; clear hy; subst hbf)
    | (go_at_call 14; refine (in_any n _ l _ (HL.out.later hb1) hk3).mono ?_; rintro e' w2 ⟨b', rfl, _, hy, hb2⟩; have hbf : b' = true := hy HIn.out; clear hy; subst hbf)
    | (go_at_call 16; refine (implenc_any n f hf b off k cap e N data _ HD.out hk1 he1 HN.out hNf (hcl.later (ext_trans hb1 hb2))).mono ?_; rintro e' w3 ⟨A, cap', r, chk, rfl, hc1, hc2, hc3, hb3⟩; have HC1 := Lib.hid hc1; clear hc1; have hbw3 := ext_trans (ext_trans hb1 hb2) hb3)
    | ((with_reducible show wpList _ _ _ (⟨some 37, _, _, _, _, _⟩ :: _) _ _); refine append_on (o := ⟨some 37, _, _, _, _, _⟩) (.tmp 35) (.tmp 36) rfl rfl w3.heap.size 0 _ [] rfl (lit_own' f w3) b off k cap data rfl HD.out (hcl.later (hbw3.alloc hbw3.size _)) k (by omega) (by omega) hk1 (by simp) ?_; intro c4 cap4 w4 hown4 hg4; have hg4' : (w3.alloc (.cells #[] 3)).grownBy w4 (some w3.heap.size) := hg4; have hb4 : Below w3.heap.size w3 w4 := ((Below.refl _ _).alloc (Nat.le_refl _) _).grown hg4' (by simp) (by intro k' hk'; simp only [Option.some.injEq] at hk'; omega))
    | (go_at_call 18; refine (check_any n f hf _ data e _ (HE.out.later (ext_trans hbw3 hb4)) he1 he3).mono ?_; rintro e' w5 ⟨A5, chk5, rfl, hl5, hw5, hB5, _, hb5⟩; have HL5 := Lib.hid hl5; have HW5 := Lib.hid hw5; have hown5 := own_below hown4 hb5; clear hl5 hw5; have hc4 := (own_le hown4 hk1).1)
    | ((with_reducible show wpList _ _ _ (⟨some 42, _, _, _, _, _⟩ :: _) _ _); refine append_on (o := ⟨some 42, _, _, _, _, _⟩) (.tmp 37) (.tmp 41) rfl rfl w3.heap.size k _ data rfl hown5 A5 0 e e chk5 rfl HL5.out hB5.cells N (by omega) (by omega) hN1 (ext_trans hb4 hb5).size ?_; intro c6 cap6 w6 hown6 hg6; have hg6' : w5.grownBy w6 (some c4) := hg6; have hb6 : Below w3.heap.size w3 w6 := (ext_trans hb4 hb5).grown hg6' (ext_trans hb4 hb5).size (by intro k' hk'; simp only [Option.some.injEq] at hk'; omega))
    | (go_at_call 17; refine (same_any _ _ (data ++ chk) _ ((Cells.elems (N := N) hc3.cells' (by rw [List.length_append, HD.out, HC1.out, HN.out]) (by omega) (by omega)).later hb6) (by rw [word_unique HC1.out HL5.out hc2 HW5.out]; exact own_elems hown6 (by rw [List.length_append, HD.out, HL5.out, HN.out]) hN1 (by omega))).mono ?_; rintro e' w7 ⟨rfl, hb7⟩)
    | (go_at_call 15; refine (works_any _).mono ?_; rintro e' w8 ⟨rfl, hb8⟩))
  go_ret
  exact ⟨rfl, ext_trans (ext_trans (ext_trans hbw3 hb6) hb7) hb8⟩
end Go.Proofs.Ytjgclomokekogaa
