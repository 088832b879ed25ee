/- Which inputs are compared. -/
import Derived.Test.YtjgclomokekogaaW2
import Derived.Test.YtjgclomokekogaaW20
namespace Go.Proofs.Ytjgclomokekogaa
open Go.RowKit Rs

/-- A word of d symbols and ec check symbols that is compared. -/
def FitsP (n d ec : Int) : Prop := 0 < fA n ∧ 1 ≤ d ∧ 1 ≤ ec ∧ d ≤ 300 ∧ ec ≤ 300 ∧ d + ec < fA n ∧ d + ec ≤ 300
/-- What is answered. -/
def FitsR (n d ec : Int) (w : World) (e : Ending) (w' : World) : Prop := ∃ b, e = .returned (.bool b) ∧ (b = true → FitsP n d ec) ∧ (FitsP n d ec → b = true) ∧ Below w.heap.size w w'

theorem wrap_sum {d ec : Int} (h1 : 1 ≤ d) (h2 : 1 ≤ ec) (h3 : d ≤ 300) (h4 : ec ≤ 300) : IntKind.i64.wrap (d + ec) = d + ec := by
  simp [IntKind.wrap, IntKind.bits, IntKind.signed]; omega
set_option maxHeartbeats 8000000 in
theorem fits_any (n d ec : Int) (w : World) : Calls Try.prog 13 #[.int .i64 n, .int .i64 d, .int .i64 ec] w (FitsR n d ec w) := by
  by_cases h0 : 0 < fA n
  rotate_left
  · have e0 := decide_eq_false h0
    have hfin := fun w1 (hb : Below w.heap.size w w1) => Lib.hid (show FitsR n d ec w (.returned (.bool false)) w1 from ⟨false, rfl, (by simp), (by intro h; exact absurd h.1 h0), hb⟩)
    clear h0
    go_enter Try.func13, Try.ntmps13
    go_wp2_with (go_at_call 31; refine (size_any _ _).mono ?_; rintro e w1 ⟨rfl, hb⟩)
    have HF := hfin w1 hb
    go_ret
    exact HF.out
  have e0 := decide_eq_true h0
  by_cases h1 : 1 ≤ d
  rotate_left
  · have e1 := decide_eq_false h1
    have hfin := fun w1 (hb : Below w.heap.size w w1) => Lib.hid (show FitsR n d ec w (.returned (.bool false)) w1 from ⟨false, rfl, (by simp), (by intro h; exact absurd h.2.1 h1), hb⟩)
    clear h1
    go_enter Try.func13, Try.ntmps13
    go_wp2_with (go_at_call 31; refine (size_any _ _).mono ?_; rintro e w1 ⟨rfl, hb⟩)
    have HF := hfin w1 hb
    go_ret
    exact HF.out
  have e1 := decide_eq_true h1
  by_cases h2 : 1 ≤ ec
  rotate_left
  · have e2 := decide_eq_false h2
    have hfin := fun w1 (hb : Below w.heap.size w w1) => Lib.hid (show FitsR n d ec w (.returned (.bool false)) w1 from ⟨false, rfl, (by simp), (by intro h; exact absurd h.2.2.1 h2), hb⟩)
    clear h2
    go_enter Try.func13, Try.ntmps13
    go_wp2_with (go_at_call 31; refine (size_any _ _).mono ?_; rintro e w1 ⟨rfl, hb⟩)
    have HF := hfin w1 hb
    go_ret
    exact HF.out
  have e2 := decide_eq_true h2
  by_cases h3 : d ≤ 300
  rotate_left
  · have e3 := decide_eq_false h3
    have hfin := fun w1 (hb : Below w.heap.size w w1) => Lib.hid (show FitsR n d ec w (.returned (.bool false)) w1 from ⟨false, rfl, (by simp), (by intro h; exact absurd h.2.2.2.1 h3), hb⟩)
    clear h3
    go_enter Try.func13, Try.ntmps13
    go_wp2_with (go_at_call 31; refine (size_any _ _).mono ?_; rintro e w1 ⟨rfl, hb⟩)
    have HF := hfin w1 hb
    go_ret
    exact HF.out
  have e3 := decide_eq_true h3
  by_cases h4 : ec ≤ 300
  rotate_left
  · have e4 := decide_eq_false h4
    have hfin := fun w1 (hb : Below w.heap.size w w1) => Lib.hid (show FitsR n d ec w (.returned (.bool false)) w1 from ⟨false, rfl, (by simp), (by intro h; exact absurd h.2.2.2.2.1 h4), hb⟩)
    clear h4
    go_enter Try.func13, Try.ntmps13
    go_wp2_with (go_at_call 31; refine (size_any _ _).mono ?_; rintro e w1 ⟨rfl, hb⟩)
    have HF := hfin w1 hb
    go_ret
    exact HF.out
  have e4 := decide_eq_true h4
  have ew := wrap_sum h1 h2 h3 h4
  by_cases h5 : d + ec < fA n
  rotate_left
  · have e5 := decide_eq_false h5
    have hfin := fun w1 (hb : Below w.heap.size w w1) => Lib.hid (show FitsR n d ec w (.returned (.bool false)) w1 from ⟨false, rfl, (by simp), (by intro h; exact absurd h.2.2.2.2.2.1 h5), hb⟩)
    clear h5
    go_enter Try.func13, Try.ntmps13
    go_wp2_with (go_at_call 31; refine (size_any _ _).mono ?_; rintro e w1 ⟨rfl, hb⟩)
    have HF := hfin w1 (ext_trans (by assumption) hb)
    go_ret
    exact HF.out
  have e5 := decide_eq_true h5
  by_cases h6 : d + ec ≤ 300
  rotate_left
  · have e6 := decide_eq_false h6
    have hfin := fun w1 (hb : Below w.heap.size w w1) => Lib.hid (show FitsR n d ec w (.returned (.bool false)) w1 from ⟨false, rfl, (by simp), (by intro h; exact absurd h.2.2.2.2.2.2 h6), hb⟩)
    clear h6
    go_enter Try.func13, Try.ntmps13
    go_wp2_with (go_at_call 31; refine (size_any _ _).mono ?_; rintro e w1 ⟨rfl, hb⟩)
    have HF := hfin w1 (ext_trans (by assumption) hb)
    go_ret
    exact HF.out
  have e6 := decide_eq_true h6
  have hfin := fun w1 (hb : Below w.heap.size w w1) => Lib.hid (show FitsR n d ec w (.returned (.bool true)) w1 from ⟨true, rfl, (fun _ => ⟨h0, h1, h2, h3, h4, h5, h6⟩), (fun _ => rfl), hb⟩)
  go_enter Try.func13, Try.ntmps13
  go_wp2_with (go_at_call 31; refine (size_any _ _).mono ?_; rintro e w1 ⟨rfl, hb⟩)
  have HF := hfin w1 (ext_trans (by assumption) hb)
  go_ret
  exact HF.out
end Go.Proofs.Ytjgclomokekogaa
