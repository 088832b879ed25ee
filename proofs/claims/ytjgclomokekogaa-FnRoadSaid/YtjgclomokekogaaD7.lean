/- Whatever is received is put right in few places: the statement's walk. -/
import Derived.Test.YtjgclomokekogaaD6
namespace Go.Proofs.Ytjgclomokekogaa
open Go.RowKit Rs

theorem wt_snoc {f : FP} (l : List (El f)) (c : El f) : wt (l ++ [c]) = wt l + (if c = 0 then 0 else 1) := by
  induction l with
  | nil => show (if c = 0 then 0 else 1) + 0 = 0 + _; omega
  | cons d l ih => show (if d = 0 then 0 else 1) + wt (l ++ [c]) = (if d = 0 then 0 else 1) + wt l + _; rw [ih]; omega
theorem dif_take {f : FP} (a b : List (El f)) (j : Nat) (h1 : j < a.length) (h2 : j < b.length) : dif (a.take (j + 1)) (b.take (j + 1)) = dif (a.take j) (b.take j) ++ [a[j] + b[j]] := by
  unfold dif
  rw [List.take_succ_eq_append_getElem h1, List.take_succ_eq_append_getElem h2, List.zipWith_append (by simp; omega)]
  rfl
theorem wt_step_same {f : FP} {a b : List (El f)} {j : Nat} (h1 : j < a.length) (h2 : j < b.length) (h : b[j] = a[j]) : wt (dif (a.take (j + 1)) (b.take (j + 1))) = wt (dif (a.take j) (b.take j)) := by
  rw [dif_take a b j h1 h2, wt_snoc, h, if_pos (Ring2.add_self _)]; rfl
theorem wt_step_ne {f : FP} {a b : List (El f)} {j : Nat} (h1 : j < a.length) (h2 : j < b.length) (h : b[j] ≠ a[j]) : wt (dif (a.take (j + 1)) (b.take (j + 1))) = wt (dif (a.take j) (b.take j)) + 1 := by
  rw [dif_take a b j h1 h2, wt_snoc, if_neg fun e => h (eq_of_add e).symm]
theorem wt_le {f : FP} (l : List (El f)) : wt l ≤ l.length := by
  induction l with
  | nil => exact Nat.le_refl _
  | cons c l ih => show (if c = 0 then 0 else 1) + wt l ≤ l.length + 1; split <;> omega
/-- The field and its elements where what is received is compared. -/
theorem received_in {n ec : Int} {k : Nat} {l : List Int} (hk : l.length = k) (h1 : FitsP n (IntKind.i64.wrap ((k : Int) - ec)) ec) (h2 : InP n l) (hkm : k ≤ 2147483647) :
    ∃ (f : FP) (e : Nat) (rec : List (El f)), fpn n = some f ∧ ec = (e : Int) ∧ rec.length = k ∧ 1 ≤ k ∧ 1 ≤ e ∧ e < f.size ∧ k < f.size ∧ k ≤ 300 ∧ rec.map (fun a => (a.val : Int)) = l := by
  obtain ⟨f, hf⟩ := inp_fp h2
  obtain ⟨data, hd⟩ := inp_el hf h2
  have hs := (fpn_par n f hf).1
  obtain ⟨g1, g2, g3, g4, g5, g6, g7⟩ := h1
  have hw : IntKind.i64.wrap ((k : Int) - ec) = (k : Int) - ec := IntWalk.i64_in _ (by omega)
  rw [hw] at g2 g4 g6 g7
  exact ⟨f, ec.toNat, data, hf, by omega, by rw [← hk, ← hd, List.length_map], by omega, by omega, by omega, by omega, by omega, hd⟩

set_option maxHeartbeats 8000000 in
theorem fnfound_any (n ec : Int) (v : Option Addr) (k cap : Nat) (l : List Int) (w : World) (hk : l.length = k) (hm : k ≤ maxLen) (hl : Ints w (.slice v k cap) l) :
    Calls Try.prog 11 #[.int .i64 n, .slice v k cap, .int .i64 ec] w (Yes w) := by
  have HL := Lib.hid hl
  clear hl
  unfold maxLen at hm
  by_cases hbig : (2147483647 : Int) < (k : Int)
  · clear hk
    go_enter Try.func11, Try.ntmps11
    go_wp2
    go_ret
    exact ⟨rfl, Below.refl _ _⟩
  obtain ⟨d, hdd⟩ : ∃ d, IntKind.i64.wrap ((k : Int) - ec) = d := ⟨_, rfl⟩
  by_cases hfit : FitsP n d ec
  rotate_left
  · have HFit := Lib.hid hfit
    clear hk hfit
    go_enter Try.func11, Try.ntmps11
    go_wp2_with (first | (go_at_call 13; refine (fits_any n d ec _).mono ?_; rintro e w1 ⟨b, rfl, hy, _, hb1⟩; have hbf : b = false := Bool.eq_false_iff.2 (fun h => HFit.out (hy h)); clear hy; subst hbf) | (go_at_call 15; refine (works_any _).mono ?_; rintro e w2 ⟨rfl, hb2⟩))
    go_ret
    exact ⟨rfl, ext_trans hb1 hb2⟩
  by_cases hin : InP n l
  rotate_left
  · have HFit := Lib.hid hfit
    have HIn := Lib.hid hin
    have hk3 : l.length ≤ 100000 := by have h4 := hfit.2.2.2.2.2.2; have h5 := hfit.2.2.1; have h6 := hfit.2.2.2.2.1; rw [← hdd, IntWalk.i64_in ((k : Int) - ec) (by omega)] at h4; omega
    clear hk hfit hin
    go_enter Try.func11, Try.ntmps11
    go_wp2_with (first | (go_at_call 13; refine (fits_any n d ec _).mono ?_; rintro e w1 ⟨b, rfl, _, hy, hb1⟩; have hbf : b = true := hy HFit.out; clear hy; subst hbf) | (go_at_call 14; refine (in_any n _ l _ (HL.out.later hb1) hk3).mono ?_; rintro e w2 ⟨b, rfl, hy, _, hb2⟩; have hbf : b = false := Bool.eq_false_iff.2 (fun h => HIn.out (hy h)); clear hy; subst hbf) | (go_at_call 15; refine (works_any _).mono ?_; rintro e w3 ⟨rfl, hb3⟩))
    go_ret
    exact ⟨rfl, ext_trans (ext_trans hb1 hb2) hb3⟩
  subst hdd
  obtain ⟨f, e, rec, hf, rfl, hrl, hk1, he1, hef, hkf, hk300, hd⟩ := received_in hk hfit hin (by omega)
  have hs := f.size_le
  have hk3 : l.length ≤ 100000 := by omega
  obtain ⟨b, off, cap', hv, _, _, hcl⟩ := HL.out.elems hd (by omega)
  rw [hrl] at hv
  obtain ⟨dn, hdn⟩ : ∃ dn, k = dn + e := ⟨k - e, by have := hfit.2.1; rw [IntWalk.i64_in ((k : Int) - e) (by omega)] at this; omega⟩
  have edn : (k : Int) - e = (dn : Int) := by omega
  rw [IntWalk.i64_in ((k : Int) - e) (by omega), edn] at hfit
  have HFit := Lib.hid hfit
  have HIn := Lib.hid hin
  have HD := Lib.hid hrl
  have HC := Lib.hid hcl
  clear hk hfit hin hd hrl hcl hdn
  simp only [Value.slice.injEq] at hv
  obtain ⟨rfl, _, rfl⟩ := hv
  go_enter Try.func11, Try.ntmps11
  go_wp2_with (first
    | (go_at_call 13; refine (fits_any n dn e _).mono ?_; rintro e' w1 ⟨b', rfl, _, hy, hb1⟩; have hbf : b' = true := hy HFit.out; clear hy; subst hbf)
    | (go_at_call 14; refine (in_any n _ l _ (HL.out.later hb1) hk3).mono ?_; rintro e' w2 ⟨b', rfl, _, hy, hb2⟩; have hbf : b' = true := hy HIn.out; clear hy; subst hbf)
    | (go_at_call 30; refine (impldec_any n f hf b off k cap e rec _ HD.out hk1 hkf he1 hef (HC.out.later (ext_trans hb1 hb2))).mono ?_; rintro e' w3 ⟨hb3, (⟨rfl, _⟩ | ⟨A, cap', r, out, rfl, hol, hwt, _, hBR⟩)⟩)
    | (go_at_call 15; refine (works_any _).mono ?_; rintro e' w5 ⟨rfl, hb5⟩))
  · go_ret
    exact ⟨rfl, ext_trans (ext_trans (ext_trans hb1 hb2) hb3) hb5⟩
  have hbw3 := ext_trans (ext_trans hb1 hb2) hb3
  have HO := Lib.hid hol
  have HW := Lib.hid hwt
  have HB := Lib.hid hBR
  have HC3 := Lib.hid (HC.out.later hbw3)
  obtain ⟨h2, hh2⟩ : ∃ h2, h2 = e / 2 := ⟨_, rfl⟩
  have eq2 : (e : Int).tdiv 2 = (h2 : Int) := by rw [hh2]; rfl
  have ew : wrap64 (h2 : Int) = (h2 : Int) := by have : h2 ≤ e := (by omega); unfold wrap64; omega
  have HH := Lib.hid hh2
  clear hol hwt hBR hh2
  go_loopw [9, 46] (fun x y wr => ∃ j c : Nat, j ≤ k ∧ c ≤ j ∧ x = .int .i64 (c : Int) ∧ y = .int .i64 (j : Int) ∧ Hid (wt (dif (rec.take j) (out.take j)) = c) ∧ Below w3.heap.size w3 wr) (fun _ y _ => k - (intOf y).toNat)
  case atStart => exact ⟨0, 0, by omega, Nat.le_refl _, rfl, rfl, (by rfl), Below.refl _ _⟩
  case round =>
    obtain ⟨j, c, hjk, hcj, rfl, rfl, hwc, hbr⟩ := hrel
    by_cases hlt : j < k
    · have hx1 := cell_later hbr (HB.out.cell j (by rw [HO.out]; exact hlt))
      have hx2 := cell_later hbr (HC3.out j (by rw [HD.out]; exact hlt))
      have hi0 : (0 : Int) ≤ (j : Int) := by omega
      have hi1 : (j : Int) < (k : Int) := by omega
      have hbn : Hid (∀ m, Below w3.heap.size w3 (wr.drewN m)) := fun m => below_drewN hbr m
      have hjo : j < out.length := by rw [HO.out]; exact hlt
      have hjr : j < rec.length := by rw [HD.out]; exact hlt
      by_cases heq : out[j] = rec[j]
      · have HS : Hid (wt (dif (rec.take (j + 1)) (out.take (j + 1))) = c) := by
          show _ = _
          rw [wt_step_same hjr hjo heq]; exact hwc.out
        rw [heq] at hx1
        clear heq
        go_wp2_with fail
        go_quiet (fail)
        go_wp2
        go_roundw
        case rel => exact ⟨j + 1, c, by omega, by omega, rfl, by go_num, HS.out, hbn.out _⟩
        case measure => simp [intOf]; omega
      · have HS : Hid (wt (dif (rec.take (j + 1)) (out.take (j + 1))) = c + 1) := by
          show _ = _
          rw [wt_step_ne hjr hjo heq, hwc.out]
        have hb := beq_val out[j] rec[j]
        rw [decide_eq_false heq] at hb
        obtain ⟨u1, hu1⟩ : ∃ u1, u1 = out[j] := ⟨_, rfl⟩
        obtain ⟨u2, hu2⟩ : ∃ u2, u2 = rec[j] := ⟨_, rfl⟩
        rw [← hu1] at hx1 hb
        rw [← hu2] at hx2 hb
        clear heq hu1 hu2
        go_wp2_with fail
        go_quiet (fail)
        go_wp2
        go_roundw
        case rel => exact ⟨j + 1, c + 1, by omega, by omega, by go_num, by go_num, HS.out, hbn.out _⟩
        case measure => simp [intOf]; omega
    · have hce : c ≤ h2 := by
        have h3 := hwc.out
        rw [show j = k from by omega, List.take_of_length_le (by rw [HD.out]; exact Nat.le_refl _), List.take_of_length_le (by rw [HO.out]; exact Nat.le_refl _)] at h3
        have := HW.out
        have := HH.out
        omega
      have hcI : (c : Int) ≤ (h2 : Int) := by omega
      have hbw := ext_trans hbw3 hbr
      clear hwc
      go_wp2_with (go_at_call 15; refine (works_any _).mono ?_; rintro e' w5 ⟨rfl, hb5⟩)
      go_ret
      exact ⟨rfl, ext_trans hbw hb5⟩
end Go.Proofs.Ytjgclomokekogaa
