/- Damaged words are put right: the statements' walks. -/
import Derived.Test.YtjgclomokekogaaD8
namespace Go.Proofs.Ytjgclomokekogaa
open Go.RowKit Rs

theorem near_of {f : FP} {ec N np : Nat} {word bad : List (El f)} (hW : Word f ec word) (hl : word.length = N) (hb : bad.length = N) (hw : wt (dif word bad) ≤ np) (hn : 2 * np ≤ ec) : Near f ec bad word := by
  refine ⟨by rw [hl, hb], hW, ?_⟩
  have e : dif bad word = dif word bad := by
    unfold dif
    apply List.ext_getElem
    · simp; omega
    · intro i h1 h2
      simp only [List.getElem_zipWith]
      exact Ring2.add_comm _ _
  rw [e]; omega
theorem half_facts (e : Nat) (h : e ≤ 5000) : ∃ h2 : Nat, (e : Int).tdiv 2 = (h2 : Int) ∧ h2 ≤ 5000 ∧ 2 * h2 ≤ e ∧ e ≤ 2 * h2 + 1 :=
  ⟨e / 2, rfl, by omega, by omega, by omega⟩

set_option maxHeartbeats 8000000 in
theorem fncorr_any (n ec : Int) (v v3 v4 : Option Addr) (k cap k3 cap3 k4 cap4 : Nat) (l l3 l4 : List Int) (w : World) (hk : l.length = k) (hm : k ≤ maxLen) (hl : Ints w (.slice v k cap) l)
    (hk3 : l3.length = k3) (hm3 : k3 ≤ maxLen) (hl3 : Ints w (.slice v3 k3 cap3) l3) (hk4 : l4.length = k4) (hm4 : k4 ≤ maxLen) (hl4 : Ints w (.slice v4 k4 cap4) l4) :
    Calls Try.prog 10 #[.int .i64 n, .slice v k cap, .int .i64 ec, .slice v3 k3 cap3, .slice v4 k4 cap4] w (Yes w) := by
  have HL := Lib.hid hl
  have HL3 := Lib.hid hl3
  have HL4 := Lib.hid hl4
  have HK3 := Lib.hid hk3
  have HK4 := Lib.hid hk4
  clear hl hl3 hl4 hk3 hk4
  unfold maxLen at hm hm3 hm4
  by_cases hbig : (2147483647 : Int) < (k : Int)
  · clear hk
    go_enter Try.func10, Try.ntmps10
    go_wp2
    go_ret
    exact ⟨rfl, Below.refl _ _⟩
  by_cases hbig3 : (2147483647 : Int) < (k3 : Int)
  · clear hk
    go_enter Try.func10, Try.ntmps10
    go_wp2
    go_ret
    exact ⟨rfl, Below.refl _ _⟩
  by_cases hbig4 : (2147483647 : Int) < (k4 : Int)
  · clear hk
    go_enter Try.func10, Try.ntmps10
    go_wp2
    go_ret
    exact ⟨rfl, Below.refl _ _⟩
  by_cases hfit : FitsP n k ec
  rotate_left
  · have HFit := Lib.hid hfit
    clear hk hfit
    go_enter Try.func10, Try.ntmps10
    go_wp2_with (first | (go_at_call 13; refine (fits_any n k ec _).mono ?_; rintro e w1 ⟨b, rfl, hy, _, hb1⟩; have hbf : b = false := Bool.eq_false_iff.2 (fun h => HFit.out (hy h)); clear hy; subst hbf) | (go_at_call 15; refine (works_any _).mono ?_; rintro e w2 ⟨rfl, hb2⟩))
    go_ret
    exact ⟨rfl, ext_trans hb1 hb2⟩
  by_cases hin : InP n l
  rotate_left
  · have HFit := Lib.hid hfit
    have HIn := Lib.hid hin
    have HK := Lib.hid hk
    have hkk : l.length ≤ 100000 := by have := hfit.2.2.2.1; omega
    clear hk hfit hin
    go_enter Try.func10, Try.ntmps10
    go_wp2_with (first | (go_at_call 13; refine (fits_any n k ec _).mono ?_; rintro e w1 ⟨b, rfl, _, hy, hb1⟩; have hbf : b = true := hy HFit.out; clear hy; subst hbf) | (go_at_call 14; refine (in_any n _ l _ (HL.out.later hb1) hkk).mono ?_; rintro e w2 ⟨b, rfl, hy, _, hb2⟩; have hbf : b = false := Bool.eq_false_iff.2 (fun h => HIn.out (hy h)); clear hy; subst hbf) | (go_at_call 15; refine (works_any _).mono ?_; rintro e w3 ⟨rfl, hb3⟩))
    go_ret
    exact ⟨rfl, ext_trans (ext_trans hb1 hb2) hb3⟩
  obtain ⟨f, e, N, data, hf, rfl, hN, hdl, hk1, he1, hNf, hN3, hd⟩ := compared hk hfit hin
  have hkk : l.length ≤ 100000 := by omega
  have hel := HL.out.elems hd (by omega)
  obtain ⟨b, off, cap', hv, _, _, hcl⟩ := HL.out.elems hd (by omega)
  rw [hdl] at hv
  have HFit := Lib.hid hfit
  have HIn := Lib.hid hin
  have he3 : e ≤ 300 := by omega
  have hN1 : 1 ≤ N := by omega
  have hN2 : k + e ≤ N := by omega
  have hN4 : N ≤ k + e := by omega
  have HD := Lib.hid hdl
  have HN := Lib.hid hN
  have HE := Lib.hid hel
  obtain ⟨h2, eh1, hh1, hh2, hh3⟩ := half_facts e (by omega)
  clear hk hfit hin hd hdl hN hel
  simp only [Value.slice.injEq] at hv
  obtain ⟨rfl, _, rfl⟩ := hv
  by_cases hmany : h2 < k3
  · have hmanyI : (h2 : Int) < (k3 : Int) := Int.ofNat_lt.2 hmany
    go_enter Try.func10, Try.ntmps10
    go_wp2_with (first
      | (go_at_call 13; refine (fits_any n k e _).mono ?_; rintro e' w1 ⟨b', rfl, _, hy, hb1⟩; have hbf : b' = true := hy HFit.out; clear hy; subst hbf)
      | (go_at_call 14; refine (in_any n _ l _ (HL.out.later hb1) hkk).mono ?_; rintro e' w2 ⟨b', rfl, _, hy, hb2⟩; have hbf : b' = true := hy HIn.out; clear hy; subst hbf)
      | (go_at_call 15; refine (works_any _).mono ?_; rintro e' w8 ⟨rfl, hb8⟩))
    go_ret
    exact ⟨rfl, ext_trans (ext_trans hb1 hb2) hb8⟩
  have hfewI : (k3 : Int) ≤ (h2 : Int) := Int.ofNat_le.2 (Nat.le_of_not_lt hmany)
  have hfew : 2 * k3 ≤ e := by clear eh1; omega
  go_enter Try.func10, Try.ntmps10
  go_wp2_with (first
    | (go_at_call 13; refine (fits_any n k e _).mono ?_; rintro e' w1 ⟨b', rfl, _, hy, hb1⟩; have hbf : b' = true := hy HFit.out; clear hy; subst hbf)
    | (go_at_call 14; refine (in_any n _ l _ (HL.out.later hb1) hkk).mono ?_; rintro e' w2 ⟨b', rfl, _, hy, hb2⟩; have hbf : b' = true := hy HIn.out; clear hy; subst hbf; have hbw2 := ext_trans hb1 hb2)
    | ((with_reducible show wpList _ _ _ (⟨some 51, _, _, _, _, _⟩ :: _) _ _); refine append_on (o := ⟨some 51, _, _, _, _, _⟩) (.tmp 49) (.tmp 50) rfl rfl w2.heap.size 0 _ [] rfl (lit_own' f w2) b off k cap data rfl HD.out (hcl.later (hbw2.alloc hbw2.size _)) k (by omega) (by omega) hk1 (by simp) ?_; intro c4 cap4' w4 hown4 hg4; have hg4' : (w2.alloc (.cells #[] 3)).grownBy w4 (some w2.heap.size) := hg4; have hb4 : Below w2.heap.size w2 w4 := ((Below.refl _ _).alloc (Nat.le_refl _) _).grown hg4' (by simp) (by intro k' hk'; simp only [Option.some.injEq] at hk'; omega))
    | (go_at_call 18; refine (check_any n f hf _ data e _ (HE.out.later (ext_trans hbw2 hb4)) he1 he3).mono ?_; rintro e' w5 ⟨A5, chk5, rfl, hl5, hw5, hB5, _, hb5⟩; have HL5 := Lib.hid hl5; have HW5 := Lib.hid hw5; have hown5 := own_below hown4 hb5; clear hl5 hw5; have hc4 := (own_le hown4 hk1).1)
    | ((with_reducible show wpList _ _ _ (⟨some 56, _, _, _, _, _⟩ :: _) _ _); refine append_on (o := ⟨some 56, _, _, _, _, _⟩) (.tmp 51) (.tmp 55) rfl rfl w2.heap.size k _ data rfl hown5 A5 0 e e chk5 rfl HL5.out hB5.cells N (by omega) (by omega) hN1 (ext_trans hb4 hb5).size ?_; intro c6 cap6 w6 hown6 hg6; have hg6' : w5.grownBy w6 (some c4) := hg6; have hb6 : Below w2.heap.size w2 w6 := (ext_trans hb4 hb5).grown hg6' (ext_trans hb4 hb5).size (by intro k' hk'; simp only [Option.some.injEq] at hk'; omega); have hbw6 := ext_trans hbw2 hb6; have hlw : (data ++ chk5).length = N := (by rw [List.length_append, HD.out, HL5.out, HN.out]); have HLW := Lib.hid hlw; obtain ⟨r6, hr6⟩ := own_blkr hown6; have HR6 := Lib.hid hr6; clear hr6 hlw)
    | (go_at_call 29; refine (damaged_any n f hf c6 0 N cap6 (data ++ chk5) v3 v4 k3 k4 cap3 cap4 l3 l4 _ HR6.out.cells HLW.out hN1 hN3 (HL3.out.later hbw6) HK3.out (by omega) (HL4.out.later hbw6) HK4.out (by omega)).mono ?_; rintro e' w7 ⟨D7, cap7, m7, bad, r7, rfl, hbl, hbw, hBR7, hb7⟩; have HNear := Lib.hid (near_of HW5.out HLW.out hbl hbw hfew); have HBL := Lib.hid hbl; have HBR7 := Lib.hid hBR7; clear hbl hbw hBR7)
    | (go_at_call 30; refine (impldec_any n f hf D7 0 N cap7 e bad _ HBL.out hN1 hNf he1 (by omega) HBR7.out.cells).mono ?_; rintro e' w8 ⟨hb8, hcase⟩; obtain ⟨A8, cap8, r8, out, rfl, hol, _, hnear, hBR8⟩ := hcase.resolve_left (fun h => h.2 _ HNear.out); have HOUT := Lib.hid (hnear _ HNear.out); have HOL := Lib.hid hol; have HBR8 := Lib.hid hBR8; clear hcase hol hnear hBR8)
    | (go_at_call 17; refine (same_any _ _ (data ++ chk5) _ (by rw [← HOUT.out]; exact Cells.elems (N := N) HBR8.out.cells' HOL.out hN1 (by omega)) ((Cells.elems (N := N) HR6.out.cells' HLW.out hN1 (by omega)).later (ext_trans hb7 hb8))).mono ?_; rintro e' w9 ⟨rfl, hb9⟩)
    | (go_at_call 15; refine (works_any _).mono ?_; rintro e' w10 ⟨rfl, hb10⟩))
  go_ret
  exact ⟨rfl, ext_trans (ext_trans (ext_trans (ext_trans hbw6 hb7) hb8) hb9) hb10⟩
end Go.Proofs.Ytjgclomokekogaa
