/- The package's value of a polynomial at a place. -/
import Derived.Test.YtjgclomokekogaaW3
namespace Go.Proofs.Ytjgclomokekogaa
open Go.RowKit Rs

theorem ev_take {f : FP} (l : List (El f)) (x : El f) (k : Nat) (h : k < l.length) : ev (l.take (k + 1)) x = ev (l.take k) x * x + l[k] := by
  rw [List.take_succ_eq_append_getElem h, ev_snoc]
theorem ev_zero {f : FP} (l : List (El f)) : ev l 0 = ps l 0 := by
  rw [ev_eq]
  cases l with
  | nil => rfl
  | cons c t => rw [List.length_cons, evT, zero_mul, Ring2.add_zero]
theorem ev_one {f : FP} (l : List (El f)) (h : 0 < l.length) (x : El f) : ev (l.take 1) x = l[0] := by
  cases l with
  | nil => simp at h
  | cons c t => simp [ev, evA, zero_mul, zero_add]

set_option maxHeartbeats 2000000 in
theorem eval_any {f : FP} (g q : Nat) (l : List (El f)) (x : El f) (w : World) (hg : IsGF w f g) (h : IsPoly w g q l) :
    Calls Try.prog 80 #[.pointer (some ⟨q, 0, none⟩), .int .i64 x.val] w fun e w' => e = .returned (.int .i64 (ev l x).val) ∧ ∃ n, w' = w.drewN n := by
  have hp := h.1.pos
  by_cases h0 : x = 0
  · subst h0
    have HE := Lib.hid (ev_zero l)
    have e1 : ((0 : El f).val : Int) = 0 := rfl
    rw [e1]
    clear e1
    go_enter Try.func80, Try.ntmps80
    go_wp2_with (go_at_call 73; refine (coef_any g q l 0 hp _ h).mono ?_; rintro e w1 ⟨rfl, n, rfl⟩)
    go_ret
    exact ⟨ret_int (by rw [HE.out]), n, rfl⟩
  obtain ⟨hn, hc0, b, off, cap, ⟨hc, hm⟩, h1, h2⟩ := h
  have x0 := val_ne h0
  by_cases h1' : x = 1
  · subst h1'
    have e1 : ((1 : El f).val : Int) = 1 := rfl
    rw [e1]
    clear e1 x0
    go_enter Try.func80, Try.ntmps80
    go_wp2
    go_loopw [5, 22] (fun r i wr => ∃ k : Nat, k ≤ l.length ∧ i = .int .i64 k ∧ r = .int .i64 (ev (l.take k) 1).val ∧ wr = w) (fun _ i _ => l.length - (intOf i).toNat)
    case atStart => exact ⟨0, by omega, rfl, rfl, rfl⟩
    case round =>
      obtain ⟨k, hk, rfl, rfl, rfl⟩ := hrel
      by_cases hlt : k < l.length
      · have hx := h2 k hlt
        have HE : Hid (ev (l.take k) 1 + l[k] = ev (l.take (k + 1)) 1) := by
          show _ = _
          rw [ev_take l 1 k hlt, Ring2.mul_one]
        go_wp2_with (go_at_call 78; refine (xor_any _ _ _).mono ?_; rintro e w1 ⟨rfl, rfl⟩)
        go_roundw
        case rel => exact ⟨k + 1, by omega, by go_num, by rw [HE.out], trivial⟩
        case measure => simp [intOf]; omega
      · go_wp2
        go_ret
        exact ⟨ret_int (by rw [List.take_of_length_le (by omega)]), 0, rfl⟩
  have x1 : ((x.val : Int) == 1) = false := by
    have := beq_val x 1
    rw [show ((1 : El f).val : Int) = 1 from rfl, decide_eq_false h1'] at this; exact this
  have hz := h2 0 hp
  rw [Nat.add_zero] at hz
  have H1 := Lib.hid (ev_one l hp x)
  go_enter Try.func80, Try.ntmps80
  go_wp2
  go_loopw [8, 10] (fun r i wr => ∃ k : Nat, 1 ≤ k ∧ k ≤ l.length ∧ i = .int .i64 k ∧ r = .int .i64 (ev (l.take k) x).val ∧ Dr w wr) (fun _ i _ => l.length - (intOf i).toNat)
  case atStart => exact ⟨1, by omega, by omega, rfl, by rw [H1.out], Dr.refl _⟩
  case round =>
    obtain ⟨k, hk1, hk, rfl, rfl, hdr⟩ := hrel
    by_cases hlt : k < l.length
    · have hx := cell_later hdr.below (h2 k hlt)
      have hx0 := cell_later hdr.below hc0
      have hx1 := cell_later hdr.below h1
      have hgr := hg.later hdr.below
      have HE : Hid (x * ev (l.take k) x + l[k] = ev (l.take (k + 1)) x) := by
        show _ = _
        rw [ev_take l x k hlt, Ring2.mul_comm x]
      go_wp2_with fail
      go_quiet ((first | (go_at_call 76; exact Calls.quiet_of (mult_any g x _ _ (hgr.drewN _))) | (go_at_call 78; exact Calls.quiet_of_same (xor_any _ _ _))))
      go_wp2
      go_roundw
      case rel => exact ⟨k + 1, by omega, by omega, by go_num, by rw [HE.out], hdr.step _⟩
      case measure => simp [intOf]; omega
    · go_wp2
      go_ret
      exact ⟨ret_int (by rw [List.take_of_length_le (by omega)]), hdr⟩
end Go.Proofs.Ytjgclomokekogaa
