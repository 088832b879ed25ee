/- What is encoded, damaged and decoded is what it was: the statement's walk. -/
import Derived.Test.YtjgclomokekogaaD9
namespace Go.Proofs.Ytjgclomokekogaa
open Go.RowKit Rs

set_option maxHeartbeats 8000000 in
theorem fnroad_any (n ec : Int) (v v3 v4 : Option Addr) (k cap k3 cap3 k4 cap4 : Nat) (l l3 l4 : List Int) (w : World) (hk : l.length = k) (hm : k ≤ maxLen) (hl : Ints w (.slice v k cap) l)
    (hk3 : l3.length = k3) (hm3 : k3 ≤ maxLen) (hl3 : Ints w (.slice v3 k3 cap3) l3) (hk4 : l4.length = k4) (hm4 : k4 ≤ maxLen) (hl4 : Ints w (.slice v4 k4 cap4) l4) :
    Calls Try.prog 12 #[.int .i64 n, .slice v k cap, .int .i64 ec, .slice v3 k3 cap3, .slice v4 k4 cap4] w (Yes w) := by
  have HL := Lib.hid hl
  have HL3 := Lib.hid hl3
  have HL4 := Lib.hid hl4
  have HK3 := Lib.hid hk3
  have HK4 := Lib.hid hk4
  clear hl hl3 hl4 hk3 hk4
  unfold maxLen at hm hm3 hm4
  by_cases hbig : (2147483647 : Int) < (k : Int)
  · clear hk
    go_enter Try.func12, Try.ntmps12
    go_wp2
    go_ret
    exact ⟨rfl, Below.refl _ _⟩
  by_cases hbig3 : (2147483647 : Int) < (k3 : Int)
  · clear hk
    go_enter Try.func12, Try.ntmps12
    go_wp2
    go_ret
    exact ⟨rfl, Below.refl _ _⟩
  by_cases hbig4 : (2147483647 : Int) < (k4 : Int)
  · clear hk
    go_enter Try.func12, Try.ntmps12
    go_wp2
    go_ret
    exact ⟨rfl, Below.refl _ _⟩
  by_cases hfit : FitsP n k ec
  rotate_left
  · have HFit := Lib.hid hfit
    clear hk hfit
    go_enter Try.func12, Try.ntmps12
    go_wp2_with (first | (go_at_call 13; refine (fits_any n k ec _).mono ?_; rintro e w1 ⟨b, rfl, hy, _, hb1⟩; have hbf : b = false := Bool.eq_false_iff.2 (fun h => HFit.out (hy h)); clear hy; subst hbf) | (go_at_call 15; refine (works_any _).mono ?_; rintro e w2 ⟨rfl, hb2⟩))
    go_ret
    exact ⟨rfl, ext_trans hb1 hb2⟩
  by_cases hin : InP n l
  rotate_left
  · have HFit := Lib.hid hfit
    have HIn := Lib.hid hin
    have HK := Lib.hid hk
    have hkk : l.length ≤ 100000 := by have := hfit.2.2.2.1; omega
    clear hk hfit hin
    go_enter Try.func12, Try.ntmps12
    go_wp2_with (first | (go_at_call 13; refine (fits_any n k ec _).mono ?_; rintro e w1 ⟨b, rfl, _, hy, hb1⟩; have hbf : b = true := hy HFit.out; clear hy; subst hbf) | (go_at_call 14; refine (in_any n _ l _ (HL.out.later hb1) hkk).mono ?_; rintro e w2 ⟨b, rfl, hy, _, hb2⟩; have hbf : b = false := Bool.eq_false_iff.2 (fun h => HIn.out (hy h)); clear hy; subst hbf) | (go_at_call 15; refine (works_any _).mono ?_; rintro e w3 ⟨rfl, hb3⟩))
    go_ret
    exact ⟨rfl, ext_trans (ext_trans hb1 hb2) hb3⟩
  obtain ⟨f, e, N, data, hf, rfl, hN, hdl, hk1, he1, hNf, hN3, hd⟩ := compared hk hfit hin
  have hkk : l.length ≤ 100000 := by omega
  have hel := HL.out.elems hd (by omega)
  obtain ⟨b, off, cap', hv, _, _, hcl⟩ := HL.out.elems hd (by omega)
  rw [hdl] at hv
  have HFit := Lib.hid hfit
  have HIn := Lib.hid hin
  have he3 : e ≤ 300 := by omega
  have hN1 : 1 ≤ N := by omega
  have hN2 : k + e ≤ N := by omega
  have hN4 : N ≤ k + e := by omega
  have HD := Lib.hid hdl
  have HN := Lib.hid hN
  have HE := Lib.hid hel
  obtain ⟨h2, eh1, hh1, hh2, hh3⟩ := half_facts e (by omega)
  clear hk hfit hin hd hdl hN hel
  simp only [Value.slice.injEq] at hv
  obtain ⟨rfl, _, rfl⟩ := hv
  by_cases hmany : h2 < k3
  · have hmanyI : (h2 : Int) < (k3 : Int) := Int.ofNat_lt.2 hmany
    go_enter Try.func12, Try.ntmps12
    go_wp2_with (first
      | (go_at_call 13; refine (fits_any n k e _).mono ?_; rintro e' w1 ⟨b', rfl, _, hy, hb1⟩; have hbf : b' = true := hy HFit.out; clear hy; subst hbf)
      | (go_at_call 14; refine (in_any n _ l _ (HL.out.later hb1) hkk).mono ?_; rintro e' w2 ⟨b', rfl, _, hy, hb2⟩; have hbf : b' = true := hy HIn.out; clear hy; subst hbf)
      | (go_at_call 15; refine (works_any _).mono ?_; rintro e' w8 ⟨rfl, hb8⟩))
    go_ret
    exact ⟨rfl, ext_trans (ext_trans hb1 hb2) hb8⟩
  have hfewI : (k3 : Int) ≤ (h2 : Int) := Int.ofNat_le.2 (Nat.le_of_not_lt hmany)
  have hfew : 2 * k3 ≤ e := by clear eh1; omega
  have ekN : (k : Int) + (e : Int) = (N : Int) := by clear eh1; omega
  go_enter Try.func12, Try.ntmps12
  go_wp2_with (first
    | (go_at_call 13; refine (fits_any n k e _).mono ?_; rintro e' w1 ⟨b', rfl, _, hy, hb1⟩; have hbf : b' = true := hy HFit.out; clear hy; subst hbf)
    | (go_at_call 14; refine (in_any n _ l _ (HL.out.later hb1) hkk).mono ?_; rintro e' w2 ⟨b', rfl, _, hy, hb2⟩; have hbf : b' = true := hy HIn.out; clear hy; subst hbf; have hbw2 := ext_trans hb1 hb2)
    | (go_at_call 16; refine (implenc_any n f hf b off k cap e N data _ HD.out hk1 he1 HN.out hNf (hcl.later hbw2)).mono ?_; rintro e' w6 ⟨c6, cap6, r6, chk5, rfl, hc1, hW5, hr6, hb6⟩; have HW5 := Lib.hid hW5; have hbw6 := ext_trans hbw2 hb6; have hlw : (data ++ chk5).length = N := (by rw [List.length_append, HD.out, hc1, HN.out]); have HLW := Lib.hid hlw; have HR6 := Lib.hid hr6; clear hr6 hlw hc1 hW5)
    | (go_at_call 29; refine (damaged_any n f hf c6 0 N cap6 (data ++ chk5) v3 v4 k3 k4 cap3 cap4 l3 l4 _ HR6.out.cells HLW.out hN1 hN3 (HL3.out.later hbw6) HK3.out (by omega) (HL4.out.later hbw6) HK4.out (by omega)).mono ?_; rintro e' w7 ⟨D7, cap7, m7, bad, r7, rfl, hbl, hbw, hBR7, hb7⟩; have HNear := Lib.hid (near_of HW5.out HLW.out hbl hbw hfew); have HBL := Lib.hid hbl; have HBR7 := Lib.hid hBR7; clear hbl hbw hBR7)
    | (go_at_call 30; refine (impldec_any n f hf D7 0 N cap7 e bad _ HBL.out hN1 hNf he1 (by omega) HBR7.out.cells).mono ?_; rintro e' w8 ⟨hb8, hcase⟩; obtain ⟨A8, cap8, r8, out, rfl, hol, _, hnear, hBR8⟩ := hcase.resolve_left (fun h => h.2 _ HNear.out); have HOUT := Lib.hid (hnear _ HNear.out); have HOL := Lib.hid hol; have HBR8 := Lib.hid hBR8; clear hcase hol hnear hBR8)
    | (go_at_call 17; refine (same_any _ _ (data ++ chk5) _ (by rw [← HOUT.out]; exact Cells.elems (N := N) HBR8.out.cells' HOL.out hN1 (by omega)) ((Cells.elems (N := N) HR6.out.cells' HLW.out hN1 (by omega)).later (ext_trans hb7 hb8))).mono ?_; rintro e' w9 ⟨rfl, hb9⟩)
    | (go_at_call 15; refine (works_any _).mono ?_; rintro e' w10 ⟨rfl, hb10⟩))
  go_ret
  exact ⟨rfl, ext_trans (ext_trans (ext_trans (ext_trans hbw6 hb7) hb8) hb9) hb10⟩
end Go.Proofs.Ytjgclomokekogaa
