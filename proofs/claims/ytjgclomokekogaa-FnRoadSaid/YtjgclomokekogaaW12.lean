/- The package's fields by their numbers. -/
import Derived.Test.YtjgclomokekogaaW11
namespace Go.Proofs.Ytjgclomokekogaa
open Go.RowKit Rs

/-- The field of a number. -/
def fpn (n : Int) : Option FP :=
  if n = 0 then some fp0 else if n = 1 then some fp1 else if n = 2 then some fp2 else if n = 3 then some fp3 else if n = 4 then some fp4 else if n = 5 then some fp5 else none
theorem newgf_at (f : FP) (P S B : Int) (h1 : P = f.p) (h2 : S = f.size) (h3 : B = f.base) (w : World) :
    Calls Try.prog 88 #[.int .i64 P, .int .i64 S, .int .i64 B] w (NewGF w f) := by
  subst h1; subst h2; subst h3; exact newgf_any f w

set_option maxHeartbeats 400000 in
theorem gf0_any (w : World) : Calls Try.prog 59 #[] w (NewGF w fp0) := by
  go_enter Try.func59, Try.ntmps59
  go_wp2_with (go_at_call 88; refine (newgf_at fp0 _ _ _ (by decide) (by decide) (by decide) _).mono ?_; rintro e w1 ⟨g, rfl, hg, hb⟩)
  go_ret
  exact ⟨g, rfl, hg, hb⟩

set_option maxHeartbeats 400000 in
theorem gf1_any (w : World) : Calls Try.prog 60 #[] w (NewGF w fp1) := by
  go_enter Try.func60, Try.ntmps60
  go_wp2_with (go_at_call 88; refine (newgf_at fp1 _ _ _ (by decide) (by decide) (by decide) _).mono ?_; rintro e w1 ⟨g, rfl, hg, hb⟩)
  go_ret
  exact ⟨g, rfl, hg, hb⟩

set_option maxHeartbeats 400000 in
theorem gf2_any (w : World) : Calls Try.prog 61 #[] w (NewGF w fp2) := by
  go_enter Try.func61, Try.ntmps61
  go_wp2_with (go_at_call 88; refine (newgf_at fp2 _ _ _ (by decide) (by decide) (by decide) _).mono ?_; rintro e w1 ⟨g, rfl, hg, hb⟩)
  go_ret
  exact ⟨g, rfl, hg, hb⟩

set_option maxHeartbeats 400000 in
theorem gf3_any (w : World) : Calls Try.prog 62 #[] w (NewGF w fp3) := by
  go_enter Try.func62, Try.ntmps62
  go_wp2_with (go_at_call 88; refine (newgf_at fp3 _ _ _ (by decide) (by decide) (by decide) _).mono ?_; rintro e w1 ⟨g, rfl, hg, hb⟩)
  go_ret
  exact ⟨g, rfl, hg, hb⟩

set_option maxHeartbeats 400000 in
theorem gf4_any (w : World) : Calls Try.prog 63 #[] w (NewGF w fp4) := by
  go_enter Try.func63, Try.ntmps63
  go_wp2_with (go_at_call 88; refine (newgf_at fp4 _ _ _ (by decide) (by decide) (by decide) _).mono ?_; rintro e w1 ⟨g, rfl, hg, hb⟩)
  go_ret
  exact ⟨g, rfl, hg, hb⟩

set_option maxHeartbeats 400000 in
theorem gf5_any (w : World) : Calls Try.prog 64 #[] w (NewGF w fp5) := by
  go_enter Try.func64, Try.ntmps64
  go_wp2_with (go_at_call 88; refine (newgf_at fp5 _ _ _ (by decide) (by decide) (by decide) _).mono ?_; rintro e w1 ⟨g, rfl, hg, hb⟩)
  go_ret
  exact ⟨g, rfl, hg, hb⟩

set_option maxHeartbeats 2000000 in
theorem field_any (n : Int) (f : FP) (hf : fpn n = some f) (w : World) : Calls Try.prog 32 #[.int .i64 n] w (NewGF w f) := by
  unfold fpn at hf
  by_cases h0 : n = 0
  · rw [if_pos h0] at hf
    simp only [Option.some.injEq] at hf
    subst hf; subst h0
    go_enter Try.func32, Try.ntmps32
    go_wp2_with (go_at_call 59; refine (gf0_any _).mono ?_; rintro e w1 ⟨g, rfl, hg, hb⟩)
    go_ret
    exact ⟨g, rfl, hg, hb⟩
  rw [if_neg h0] at hf
  by_cases h1 : n = 1
  · rw [if_pos h1] at hf
    simp only [Option.some.injEq] at hf
    subst hf; subst h1
    go_enter Try.func32, Try.ntmps32
    go_wp2_with (go_at_call 60; refine (gf1_any _).mono ?_; rintro e w1 ⟨g, rfl, hg, hb⟩)
    go_ret
    exact ⟨g, rfl, hg, hb⟩
  rw [if_neg h1] at hf
  by_cases h2 : n = 2
  · rw [if_pos h2] at hf
    simp only [Option.some.injEq] at hf
    subst hf; subst h2
    go_enter Try.func32, Try.ntmps32
    go_wp2_with (go_at_call 61; refine (gf2_any _).mono ?_; rintro e w1 ⟨g, rfl, hg, hb⟩)
    go_ret
    exact ⟨g, rfl, hg, hb⟩
  rw [if_neg h2] at hf
  by_cases h3 : n = 3
  · rw [if_pos h3] at hf
    simp only [Option.some.injEq] at hf
    subst hf; subst h3
    go_enter Try.func32, Try.ntmps32
    go_wp2_with (go_at_call 62; refine (gf3_any _).mono ?_; rintro e w1 ⟨g, rfl, hg, hb⟩)
    go_ret
    exact ⟨g, rfl, hg, hb⟩
  rw [if_neg h3] at hf
  by_cases h4 : n = 4
  · rw [if_pos h4] at hf
    simp only [Option.some.injEq] at hf
    subst hf; subst h4
    go_enter Try.func32, Try.ntmps32
    go_wp2_with (go_at_call 63; refine (gf4_any _).mono ?_; rintro e w1 ⟨g, rfl, hg, hb⟩)
    go_ret
    exact ⟨g, rfl, hg, hb⟩
  rw [if_neg h4] at hf
  by_cases h5 : n = 5
  · rw [if_pos h5] at hf
    simp only [Option.some.injEq] at hf
    subst hf; subst h5
    go_enter Try.func32, Try.ntmps32
    go_wp2_with (go_at_call 64; refine (gf5_any _).mono ?_; rintro e w1 ⟨g, rfl, hg, hb⟩)
    go_ret
    exact ⟨g, rfl, hg, hb⟩
  rw [if_neg h5] at hf
  simp at hf
/-- The reference's numbers of a field are the package's. -/
theorem fpn_par (n : Int) (f : FP) (hf : fpn n = some f) : fA n = f.size ∧ fB n = f.p ∧ fC n = f.base := by
  unfold fpn at hf
  unfold fA fB fC fpar
  by_cases h0 : n = 0
  · rw [if_pos h0] at hf
    simp only [Option.some.injEq] at hf
    subst hf; subst h0; decide
  rw [if_neg h0] at hf
  by_cases h1 : n = 1
  · rw [if_pos h1] at hf
    simp only [Option.some.injEq] at hf
    subst hf; subst h1; decide
  rw [if_neg h1] at hf
  by_cases h2 : n = 2
  · rw [if_pos h2] at hf
    simp only [Option.some.injEq] at hf
    subst hf; subst h2; decide
  rw [if_neg h2] at hf
  by_cases h3 : n = 3
  · rw [if_pos h3] at hf
    simp only [Option.some.injEq] at hf
    subst hf; subst h3; decide
  rw [if_neg h3] at hf
  by_cases h4 : n = 4
  · rw [if_pos h4] at hf
    simp only [Option.some.injEq] at hf
    subst hf; subst h4; decide
  rw [if_neg h4] at hf
  by_cases h5 : n = 5
  · rw [if_pos h5] at hf
    simp only [Option.some.injEq] at hf
    subst hf; subst h5; decide
  rw [if_neg h5] at hf
  simp at hf
theorem fpn_size (n : Int) (h : fpn n = none) : fA n = 0 := by
  unfold fpn at h
  unfold fA fpar
  by_cases h0 : n = 0
  · rw [if_pos h0] at h; simp at h
  rw [if_neg h0] at h
  by_cases h1 : n = 1
  · rw [if_pos h1] at h; simp at h
  rw [if_neg h1] at h
  by_cases h2 : n = 2
  · rw [if_pos h2] at h; simp at h
  rw [if_neg h2] at h
  by_cases h3 : n = 3
  · rw [if_pos h3] at h; simp at h
  rw [if_neg h3] at h
  by_cases h4 : n = 4
  · rw [if_pos h4] at h; simp at h
  rw [if_neg h4] at h
  by_cases h5 : n = 5
  · rw [if_pos h5] at h; simp at h
  rw [if_neg h5] at h
  rw [if_neg h0, if_neg h1, if_neg h2, if_neg h3, if_neg h4, if_neg h5]; rfl
end Go.Proofs.Ytjgclomokekogaa
