/- Which lists are polynomials that are compared. -/
import Derived.Test.YtjgclomokekogaaW35
namespace Go.Proofs.Ytjgclomokekogaa
open Go.RowKit Rs

/-- Lists that are polynomials over a field that are compared. -/
def PolyP (n : Int) (l : List Int) : Prop := 1 ≤ l.length ∧ l.length ≤ 60 ∧ InP n l
def PolysP (n : Int) (ls : List (List Int)) : Prop := 0 < fA n ∧ ∀ i (h : i < ls.length), PolyP n ls[i]
def PolysR (n : Int) (ls : List (List Int)) (w : World) (e : Ending) (w' : World) : Prop := ∃ b, e = .returned (.bool b) ∧ (b = true → PolysP n ls) ∧ (PolysP n ls → b = true) ∧ Below w.heap.size w w'

set_option maxHeartbeats 4000000 in
theorem polys_any (n : Int) (D m : Nat) (ss : List Value) (ls : List (List Int)) (w : World) (hm : ls.length = m) (hs : ss.length = m) (hm2 : m ≤ 2) (hc : ∀ i (h : i < ss.length), w.cell? ⟨D, i, none⟩ = some ss[i])
    (hv : ∀ i (h : i < ss.length) (h' : i < ls.length), Ints w ss[i] ls[i]) : Calls Try.prog 20 #[.int .i64 n, .slice (some ⟨D, 0, none⟩) m m] w (PolysR n ls w) := by
  have HM := Lib.hid hm
  have HS := Lib.hid hs
  have HC := Lib.hid hc
  have HV := Lib.hid hv
  have hm3 : ls.length ≤ m := by omega
  have hm4 : m ≤ ls.length := by omega
  have hs3 : ss.length ≤ m := by omega
  have hs4 : m ≤ ss.length := by omega
  clear hm hs hc hv
  go_enter Try.func20, Try.ntmps20
  go_wp2
  go_loopw [6, 9] (fun _ x wr => ∃ i : Nat, i ≤ m ∧ x = .int .i64 (i : Int) ∧ (∀ j (h : j < ls.length), j < i → PolyP n ls[j]) ∧ Below w.heap.size w wr) (fun _ x _ => m - (intOf x).toNat)
  case atStart => exact ⟨0, by omega, rfl, by intro j _ h; omega, Below.refl _ _⟩
  case round =>
    obtain ⟨i, hi, rfl, hpre, hb⟩ := hrel
    have HP := Lib.hid hpre
    clear hpre
    by_cases hlt : i < m
    · have hi1 : i < ss.length := by omega
      have hi2 : i < ls.length := by omega
      have hx := cell_later hb (HC.out i hi1)
      have hI := HV.out i hi1 hi2
      obtain ⟨a, cap, hsh⟩ := hI.shape
      rw [hsh] at hx hI
      have HI := Lib.hid (hI.later hb)
      have hi3 : (0 : Int) ≤ (i : Int) := by omega
      have hi4 : (i : Int) < (m : Int) := by omega
      have HNO := fun (h : ¬ PolyP n ls[i]) => Lib.hid (show ¬ PolysP n ls from fun h2 => h (h2.2 i hi2))
      clear hsh hI
      by_cases h0 : ls[i].length = 0
      · have e0 : ((ls[i].length : Int) == 0) = true := by simp only [beq_iff_eq]; omega
        have HF := HNO (fun h => by have := h.1; omega)
        obtain ⟨L, hL⟩ : ∃ L, L = ls[i].length := ⟨_, rfl⟩
        rw [← hL] at hx e0
        clear h0 HI HNO hL
        go_wp2_with fail
        go_ret
        exact ⟨false, rfl, by simp, fun h => absurd h HF.out, hb⟩
      · have e0 : ((ls[i].length : Int) == 0) = false := by rw [beq_eq_false_iff_ne]; omega
        by_cases h60 : (60 : Int) < (ls[i].length : Int)
        · have e1 := decide_eq_true h60
          have HF := HNO (fun h => by have := h.2.1; omega)
          obtain ⟨L, hL⟩ : ∃ L, L = ls[i].length := ⟨_, rfl⟩
          rw [← hL] at hx e0 e1
          clear h0 h60 HI HNO hL
          go_wp2_with fail
          go_ret
          exact ⟨false, rfl, by simp, fun h => absurd h HF.out, hb⟩
        · have e1 := decide_eq_false h60
          by_cases hin : InP n ls[i]
          · have HG : Hid (PolyP n ls[i]) := ⟨by omega, by omega, hin⟩
            have HQ : Hid (∀ j (h : j < ls.length), j < i + 1 → PolyP n ls[j]) := by
              intro j h hj
              by_cases e : j = i
              · subst e; exact HG.out
              · exact HP.out j h (by omega)
            have HIn := Lib.hid hin
            obtain ⟨L, hL⟩ : ∃ L, L = ls[i].length := ⟨_, rfl⟩
            have hL6 : ls[i].length ≤ 100000 := by omega
            rw [← hL] at hx e0 e1
            have HI2 : Hid (Ints wr (.slice a L cap) ls[i]) := by have := HI.out; rw [← hL] at this; exact this
            clear h0 h60 HI HNO hL hin
            go_wp2_with (go_at_call 14; refine (in_any n _ ls[i] _ HI2.out hL6).mono ?_; rintro e' w2 ⟨b', rfl, _, hy, hb2⟩; have hbf : b' = true := hy HIn.out; clear hy; subst hbf)
            go_roundw
            case rel => exact ⟨i + 1, by omega, by go_num, HQ.out, ext_trans hb hb2⟩
            case measure => simp [intOf]; omega
          · have HF := HNO (fun h => hin h.2.2)
            have HIn := Lib.hid hin
            obtain ⟨L, hL⟩ : ∃ L, L = ls[i].length := ⟨_, rfl⟩
            have hL6 : ls[i].length ≤ 100000 := by omega
            rw [← hL] at hx e0 e1
            have HI2 : Hid (Ints wr (.slice a L cap) ls[i]) := by have := HI.out; rw [← hL] at this; exact this
            clear h0 h60 HI HNO hL hin
            go_wp2_with (go_at_call 14; refine (in_any n _ ls[i] _ HI2.out hL6).mono ?_; rintro e' w2 ⟨b', rfl, hy, _, hb2⟩; have hbf : b' = false := Bool.eq_false_iff.2 (fun h => HIn.out (hy h)); clear hy; subst hbf)
            go_ret
            exact ⟨false, rfl, by simp, fun h => absurd h HF.out, ext_trans hb hb2⟩
    · have HQ : Hid (0 < fA n → PolysP n ls) := fun h0 => ⟨h0, fun j h => HP.out j h (by omega)⟩
      by_cases h0 : 0 < fA n
      · have e0 := decide_eq_true h0
        have HF := Lib.hid (HQ.out h0)
        clear h0 HQ
        go_wp2_with (go_at_call 31; refine (size_any _ _).mono ?_; rintro e w1 ⟨rfl, hb1⟩)
        go_ret
        exact ⟨true, rfl, fun _ => HF.out, fun _ => rfl, ext_trans hb hb1⟩
      · have e0 := decide_eq_false h0
        have HF := Lib.hid (show ¬ PolysP n ls from fun h => h0 h.1)
        clear h0 HQ
        go_wp2_with (go_at_call 31; refine (size_any _ _).mono ?_; rintro e w1 ⟨rfl, hb1⟩)
        go_ret
        exact ⟨false, rfl, by simp, fun h => absurd h HF.out, ext_trans hb hb1⟩
end Go.Proofs.Ytjgclomokekogaa
