/- Contracts of the reference's arithmetic: sizes, products, powers. -/
import Derived.Test.YtjgclomokekogaaW1
import Derived.Test.YtjgclomokekogaaMem
namespace Go.Proofs.Ytjgclomokekogaa
open Go.RowKit Rs

set_option maxHeartbeats 400000 in
theorem size_any (n : Int) (w : World) :
    Calls Try.prog 31 #[.int .i64 n] w fun e w' => e = .returned (.int .i64 (fA n)) ∧ Below w.heap.size w w' := by
  go_enter Try.func31, Try.ntmps31
  go_wp2_with (go_at_call 38; refine (fields_any _ _).mono ?_; rintro e w1 ⟨rfl, hb⟩)
  go_ret
  exact ⟨rfl, hb.trans (((Below.refl _ _).alloc hb.size _))⟩

/-- The three numbers of a field as the reference hands them about. -/
def fv (f : FP) : Value := .agg #[.int .i64 f.size, .int .i64 f.p, .int .i64 f.base]

theorem dbl_small {f : FP} {A : Nat} (h : (A : Int) * 2 < f.size) : Value.int .i64 ((A : Int) * 2) = .int .i64 (xt f.m f.p A) := by
  rw [xt_small (by omega)]; congr 1; omega
theorem dbl_great {f : FP} {A : Nat} (hA : A < f.size) (h : (f.size : Int) ≤ (A : Int) * 2) : Value.int .i64 (bits .xor .i64 ((A : Int) * 2) f.p) = .int .i64 (xt f.m f.p A) := by
  have hs := f.size_le
  have hp := f.p_lt
  rw [xt_great (by omega)]; congr 1
  rw [show (A : Int) * 2 = ((2 * A : Nat) : Int) from by omega, xor_i64 _ _ (by omega) (by omega)]

theorem odd_yes {B : Nat} {α : Type} {x y : α} (h : ((B : Int) % 2 == 1) = true) : (if B % 2 = 1 then x else y) = x := by
  rw [if_pos]; simp at h; omega
theorem odd_no {B : Nat} {α : Type} {x y : α} (h : ((B : Int) % 2 == 1) = false) : (if B % 2 = 1 then x else y) = y := by
  rw [if_neg]; simp at h; omega

set_option maxHeartbeats 1000000 in
theorem times_any (f : FP) (a b : Nat) (ha : a < f.size) (hb : b < f.size) (w : World) :
    Calls Try.prog 40 #[.agg #[.int .i64 f.size, .int .i64 f.p, .int .i64 f.base], .int .i64 a, .int .i64 b] w fun e w' => e = .returned (.int .i64 (El.mulV f a b)) ∧ Below w.heap.size w w' := by
  have hs := f.size_le
  have hp := f.p_lt
  go_enter Try.func40, Try.ntmps40
  go_wp2
  go_loop [1, 2, 7] (fun x y z => ∃ A B O n : Nat, A < f.size ∧ B < f.size ∧ O < f.size ∧ B < 2 ^ n ∧ O ^^^ mulF f.m f.p n A B = El.mulV f a b ∧ x = .int .i64 A ∧ y = .int .i64 B ∧ z = .int .i64 O) (fun _ y _ => (intOf y).toNat)
  case atStart => exact ⟨a, b, 0, f.m, ha, hb, by omega, hb, Nat.zero_xor _, rfl, rfl, rfl⟩
  case round =>
    obtain ⟨A, B, O, n, hA, hB, hO, hn, hm, rfl, rfl, rfl⟩ := hrel
    by_cases h0 : 0 < B
    · have HM : Hid (∀ O', O' = (if B % 2 = 1 then O ^^^ A else O) → O' ^^^ mulF f.m f.p (n - 1) (xt f.m f.p A) (B / 2) = El.mulV f a b) := fun O' e => by rw [e, ← (mul_round f.m f.p n A B O h0 hn).1]; exact hm
      have HN : Hid (B / 2 < 2 ^ (n - 1)) := (mul_round f.m f.p n A B O h0 hn).2
      clear hm hn
      have hx1 := xor_i64 O A (by omega) (by omega)
      have hx3 := and1_i64 B (by omega)
      go_wp2
      all_goals
        go_round
        case rel => first
          | exact ⟨xt f.m f.p A, B / 2, O ^^^ A, n - 1, xt_lt f.good hA, by omega, xor_lt' hO hA, HN.out, HM.out _ (odd_yes (by assumption)).symm, by first | exact dbl_small (by assumption) | exact dbl_great hA (by assumption), by go_num, rfl⟩
          | exact ⟨xt f.m f.p A, B / 2, O, n - 1, xt_lt f.good hA, by omega, hO, HN.out, HM.out _ (odd_no (by assumption)).symm, by first | exact dbl_small (by assumption) | exact dbl_great hA (by assumption), by go_num, rfl⟩
        case measure => simp [intOf]; omega
    · have HM : Hid (O = El.mulV f a b) := by
        rw [show B = 0 from by omega, mulF_zero, Nat.xor_zero] at hm; exact hm
      clear hm hn
      go_wp2
      go_ret
      exact ⟨ret_int (by rw [HM.out]), (Below.refl _ _).alloc (Nat.le_refl _) _⟩

theorem two_lt (f : FP) : 2 < f.size := by have := f.size_pos; omega
theorem mulV_two (f : FP) {a : Nat} (ha : a < f.size) : El.mulV f a 2 = xt f.m f.p a := by
  have h0 : xpow f.m f.p 1 = 2 := by
    have := f.good.two; have := f.size_pos; unfold FP.size at this
    show xt f.m f.p 1 = 2
    unfold xt; rw [if_pos (by omega)]
  have h1 : (⟨a, ha⟩ : El f) * ⟨2, two_lt f⟩ = ⟨2, two_lt f⟩ * ⟨a, ha⟩ := El.mul_comm' _ _
  have h2 := congrArg El.val h1
  rw [El.mul_val, El.mul_val] at h2
  show El.mulV f a 2 = _
  have h3 : El.mulV f a 2 = El.mulV f 2 a := h2
  rw [h3]; unfold El.mulV
  rw [← h0, mulF_xpow f.good 1 ha]; rfl

theorem agg3 {w wr : World} {a b c : Value} {T : TypeId} (hb : Below (w.heap.size + 1) (w.alloc (.cells #[a, b, c] T)) wr) :
    wr.cell? ⟨w.heap.size, 0, none⟩ = some a ∧ wr.cell? ⟨w.heap.size, 1, none⟩ = some b ∧ wr.cell? ⟨w.heap.size, 2, none⟩ = some c := by
  refine ⟨?_, ?_, ?_⟩
  · rw [hb.cell (by simp), World.cell?_alloc_at _ _ _ _ rfl]; rfl
  · rw [hb.cell (by simp), World.cell?_alloc_at _ _ _ _ rfl]; rfl
  · rw [hb.cell (by simp), World.cell?_alloc_at _ _ _ _ rfl]; rfl

set_option maxHeartbeats 1000000 in
theorem power_any (f : FP) (n : Nat) (hn : n < 4294967296) (w : World) :
    Calls Try.prog 42 #[.agg #[.int .i64 f.size, .int .i64 f.p, .int .i64 f.base], .int .i64 n] w fun e w' => e = .returned (.int .i64 (El.exp f n).val) ∧ Below w.heap.size w w' := by
  have hs := f.size_le
  have hp := f.p_lt
  go_enter Try.func42, Try.ntmps42
  go_wp2
  go_loopw [5, 7] (fun x y wr => ∃ k : Nat, k ≤ n ∧ y = .int .i64 k ∧ x = .int .i64 (El.exp f k).val ∧ Below (w.heap.size + 1) (w.alloc (.cells #[.int .i64 f.size, .int .i64 f.p, .int .i64 f.base] 53)) wr) (fun _ y _ => n - (intOf y).toNat)
  case atStart => exact ⟨0, by omega, rfl, rfl, Below.refl _ _⟩
  case round =>
    obtain ⟨k, hk, rfl, rfl, hb⟩ := hrel
    by_cases h0 : k < n
    · have hlt := (El.exp f k).lt
      have HE : Hid (El.mulV f (El.exp f k).val 2 = (El.exp f (k + 1)).val) := mulV_two f hlt
      obtain ⟨hc0, hc1, hc2⟩ := agg3 hb
      go_wp2_with (go_at_call 40; refine (times_any f _ 2 hlt (two_lt f) _).mono ?_; rintro e w1 ⟨rfl, hb1⟩)
      go_roundw
      case rel => exact ⟨k + 1, by omega, by go_num, by rw [HE.out], hb.trans (hb1.mono (by have := hb.size; simp at this; omega))⟩
      case measure => simp [intOf]; omega
    · go_wp2
      go_ret
      exact ⟨ret_int (by rw [show n = k from by omega]), ((Below.refl _ _).alloc (Nat.le_refl _) _).trans (hb.mono (by omega))⟩
end Go.Proofs.Ytjgclomokekogaa
