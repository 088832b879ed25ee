/- Contracts of the package's field: products, inverses, powers, logarithms, and the getters. -/
import Derived.Test.YtjgclomokekogaaMem
namespace Go.Proofs.Ytjgclomokekogaa
open Go.RowKit Rs

theorem val_ne {f : FP} {a : El f} (h : a ≠ 0) : ((a.val : Int) == 0) = false := by
  have : a.val ≠ 0 := fun e => h (El.ext e)
  rw [beq_eq_false_iff_ne]; omega

set_option maxHeartbeats 1000000 in
theorem mult_any {f : FP} (g : Nat) (a b : El f) (w : World) (hg : IsGF w f g) :
    Calls Try.prog 76 #[.pointer (some ⟨g, 0, none⟩), .int .i64 a.val, .int .i64 b.val] w fun e w' => e = .returned (.int .i64 (a * b).val) ∧ ∃ n, w' = w.drewN n := by
  have hs := f.size_le
  have hs4 := f.size_pos
  by_cases ha : a = 0
  · subst ha
    have e0 : ((0 : El f) * b).val = 0 := by rw [zero_mul]; rfl
    have e1 : (0 : El f).val = 0 := rfl
    rw [e0, e1]
    clear e0 e1
    go_enter Try.func76, Try.ntmps76
    go_wp2
    go_ret
    exact ⟨rfl, 0, rfl⟩
  by_cases hb : b = 0
  · subst hb
    have e0 : (a * (0 : El f)).val = 0 := by rw [mul_zero]; rfl
    have e1 : (0 : El f).val = 0 := rfl
    have ha' := val_ne ha
    rw [e0, e1]
    clear e0 e1
    go_enter Try.func76, Try.ntmps76
    go_wp2
    go_ret
    exact ⟨rfl, 0, rfl⟩
  obtain ⟨e, l, z, o, G⟩ := hg
  have ha' := val_ne ha
  have hb' := val_ne hb
  have h0 := G.c0
  have h1 := G.c1
  have h4 := G.c4
  have hla := G.log a ha
  have hlb := G.log b hb
  have hla' := a.log_lt
  have hlb' := b.log_lt
  have hal := a.lt
  have hbl := b.lt
  obtain ⟨S, hS⟩ : ∃ S, S = a.log + b.log := ⟨_, rfl⟩
  obtain ⟨M, hM⟩ : ∃ M, M = f.size - 1 := ⟨_, rfl⟩
  have hm : S % M < M := Nat.mod_lt _ (by omega)
  have hx := G.exp (S % M) (by omega)
  rw [hS, hM, ← El.mul_log ha hb, ← hM, ← hS] at hx
  have e1 : IntKind.i64.wrap ((a.log : Int) + b.log) = (S : Int) := by rw [hS, ← Int.natCast_add]; exact wrap_i64_nat _ (by omega)
  have e2 : IntKind.i64.wrap ((f.size : Int) - 1) = (M : Int) := by rw [show (f.size : Int) - 1 = (M : Int) from by omega]; exact wrap_i64_nat _ (by omega)
  have e3 : (S : Int).tmod M = ((S % M : Nat) : Int) := rfl
  have e4 : IntKind.i64.wrap ((S % M : Nat) : Int) = ((S % M : Nat) : Int) := wrap_i64_nat _ (by omega)
  have hz : ((M : Int) == 0) = false := by rw [beq_eq_false_iff_ne]; omega
  have hz1 : ¬ (M : Int) = 0 := by omega
  have hz2 : 0 < (M : Int) := by omega
  have hms : S % M < f.size := by omega
  clear hS hM
  go_enter Try.func76, Try.ntmps76
  go_wp2
  go_quiet (fail)
  go_wp2
  go_ret
  exact ⟨rfl, _, rfl⟩

set_option maxHeartbeats 1000000 in
theorem inv_any {f : FP} (g : Nat) (a : El f) (ha : a ≠ 0) (w : World) (hg : IsGF w f g) :
    Calls Try.prog 75 #[.pointer (some ⟨g, 0, none⟩), .int .i64 a.val] w fun e w' => e = .returned (.tuple #[.int .i64 (Gf.inv a).val, .nilIface]) ∧ ∃ n, w' = w.drewN n := by
  have hs := f.size_le
  have hs4 := f.size_pos
  obtain ⟨e, l, z, o, G⟩ := hg
  have ha' := val_ne ha
  have h0 := G.c0
  have h1 := G.c1
  have h4 := G.c4
  have hla := G.log a ha
  have hla' := a.log_lt
  have hal := a.lt
  obtain ⟨M, hM⟩ : ∃ M, M = f.size - 1 - a.log := ⟨_, rfl⟩
  have hm : M < f.size := by omega
  have hx := G.exp M hm
  have hi : El.exp f M = Gf.inv a := by rw [hM]; exact (El.inv_eq a).symm
  rw [hi] at hx
  have e1 : IntKind.i64.wrap ((f.size : Int) - a.log) = (f.size : Int) - a.log := IntWalk.i64_in _ (by omega)
  have e2 : IntKind.i64.wrap ((f.size : Int) - a.log - 1) = (M : Int) := by rw [show (f.size : Int) - a.log - 1 = (M : Int) from by omega]; exact wrap_i64_nat _ (by omega)
  clear hi hM
  go_enter Try.func75, Try.ntmps75
  go_wp2
  go_quiet (fail)
  go_wp2
  go_ret2
  exact ⟨rfl, _, rfl⟩

set_option maxHeartbeats 400000 in
theorem exp_any {f : FP} (g : Nat) (i : Nat) (hi : i < f.size) (w : World) (hg : IsGF w f g) :
    Calls Try.prog 81 #[.pointer (some ⟨g, 0, none⟩), .int .i64 i] w fun e w' => e = .returned (.int .i64 (El.exp f i).val) ∧ w' = w := by
  have hs := f.size_le
  obtain ⟨e, l, z, o, G⟩ := hg
  have h0 := G.c0
  have hx := G.exp i hi
  go_enter Try.func81, Try.ntmps81
  go_wp2
  go_ret
  exact ⟨rfl, rfl⟩

set_option maxHeartbeats 400000 in
theorem log_any {f : FP} (g : Nat) (a : El f) (ha : a ≠ 0) (w : World) (hg : IsGF w f g) :
    Calls Try.prog 86 #[.pointer (some ⟨g, 0, none⟩), .int .i64 a.val] w fun e w' => e = .returned (.tuple #[.int .i64 a.log, .nilIface]) ∧ ∃ n, w' = w.drewN n := by
  have hs := f.size_le
  obtain ⟨e, l, z, o, G⟩ := hg
  have h0 := G.c1
  have hx := G.log a ha
  have ha' := val_ne ha
  have hal := a.lt
  go_enter Try.func86, Try.ntmps86
  go_wp2
  go_ret2
  exact ⟨rfl, 0, rfl⟩

set_option maxHeartbeats 400000 in
theorem getzero_any {f : FP} {e l z o : Nat} (g : Nat) (w : World) (G : GFAt w f g e l z o) :
    Calls Try.prog 72 #[.pointer (some ⟨g, 0, none⟩)] w fun e w' => e = .returned (.pointer (some ⟨z, 0, none⟩)) ∧ w' = w := by
  have h0 := G.c2
  go_enter Try.func72, Try.ntmps72
  go_wp2
  go_ret
  exact ⟨rfl, rfl⟩
set_option maxHeartbeats 400000 in
theorem getone_any {f : FP} {e l z o : Nat} (g : Nat) (w : World) (G : GFAt w f g e l z o) :
    Calls Try.prog 89 #[.pointer (some ⟨g, 0, none⟩)] w fun e w' => e = .returned (.pointer (some ⟨o, 0, none⟩)) ∧ w' = w := by
  have h0 := G.c3
  go_enter Try.func89, Try.ntmps89
  go_wp2
  go_ret
  exact ⟨rfl, rfl⟩
set_option maxHeartbeats 400000 in
theorem getsize_any {f : FP} (g : Nat) (w : World) (hg : IsGF w f g) :
    Calls Try.prog 90 #[.pointer (some ⟨g, 0, none⟩)] w fun e w' => e = .returned (.int .i64 f.size) ∧ w' = w := by
  obtain ⟨e, l, z, o, G⟩ := hg
  have h0 := G.c4
  go_enter Try.func90, Try.ntmps90
  go_wp2
  go_ret
  exact ⟨rfl, rfl⟩
set_option maxHeartbeats 400000 in
theorem getbase_any {f : FP} (g : Nat) (w : World) (hg : IsGF w f g) :
    Calls Try.prog 82 #[.pointer (some ⟨g, 0, none⟩)] w fun e w' => e = .returned (.int .i64 f.base) ∧ w' = w := by
  obtain ⟨e, l, z, o, G⟩ := hg
  have h0 := G.c6
  go_enter Try.func82, Try.ntmps82
  go_wp2
  go_ret
  exact ⟨rfl, rfl⟩
set_option maxHeartbeats 400000 in
theorem xor_any {f : FP} (a b : El f) (w : World) :
    Calls Try.prog 78 #[.int .i64 a.val, .int .i64 b.val] w fun e w' => e = .returned (.int .i64 (a + b).val) ∧ w' = w := by
  have hs := f.size_le
  have ha := a.lt
  have hb := b.lt
  have hx := xor_i64 a.val b.val (by omega) (by omega)
  go_enter Try.func78, Try.ntmps78
  go_wp2
  go_ret
  exact ⟨rfl, rfl⟩

set_option maxHeartbeats 400000 in
theorem coeffs_any {f : FP} (g q : Nat) (l : List (El f)) (w : World) (b off cap : Nat) (h1 : w.cell? ⟨q, 1, none⟩ = some (.slice (some ⟨b, off, none⟩) l.length cap)) :
    Calls Try.prog 69 #[.pointer (some ⟨q, 0, none⟩)] w fun e w' => e = .returned (.slice (some ⟨b, off, none⟩) l.length cap) ∧ w' = w := by
  go_enter Try.func69, Try.ntmps69
  go_wp2
  go_ret
  exact ⟨rfl, rfl⟩
set_option maxHeartbeats 400000 in
theorem deg_any {f : FP} (g q : Nat) (l : List (El f)) (w : World) (h : IsPoly w g q l) :
    Calls Try.prog 74 #[.pointer (some ⟨q, 0, none⟩)] w fun e w' => e = .returned (.int .i64 ((l.length : Int) - 1)) ∧ w' = w := by
  obtain ⟨hn, h0, b, off, cap, ⟨hc, hm⟩, h1, h2⟩ := h
  have hp := hn.pos
  go_enter Try.func74, Try.ntmps74
  go_wp2
  go_ret
  exact ⟨rfl, rfl⟩
/-- Is it 0? -/
def isZ {f : FP} (l : List (El f)) : Bool := decide (l = [0])
set_option maxHeartbeats 400000 in
theorem iszero_any {f : FP} (g q : Nat) (l : List (El f)) (w : World) (h : IsPoly w g q l) :
    Calls Try.prog 71 #[.pointer (some ⟨q, 0, none⟩)] w fun e w' => e = .returned (.bool (isZ l)) ∧ w' = w := by
  obtain ⟨hn, h0, b, off, cap, ⟨hc, hm⟩, h1, h2⟩ := h
  have hp := hn.pos
  have h3 := h2 0 hp
  have hz : ((l[0].val : Int) == 0) = isZ l := by
    have := beq_val l[0] 0
    rw [show ((0 : El f).val : Int) = 0 from rfl] at this
    rw [this]; unfold isZ
    by_cases e : l = [0]
    · subst e; rfl
    · rw [decide_eq_false e, decide_eq_false (hn.head e hp)]
  generalize isZ l = B at *
  rw [Nat.add_zero] at h3
  go_enter Try.func71, Try.ntmps71
  go_wp2
  go_ret
  exact ⟨rfl, rfl⟩
set_option maxHeartbeats 400000 in
theorem coef_any {f : FP} (g q : Nat) (l : List (El f)) (d : Nat) (hd : d < l.length) (w : World) (h : IsPoly w g q l) :
    Calls Try.prog 73 #[.pointer (some ⟨q, 0, none⟩), .int .i64 d] w fun e w' => e = .returned (.int .i64 (ps l d).val) ∧ ∃ n, w' = w.drewN n := by
  obtain ⟨hn, h0, b, off, cap, ⟨hc, hm⟩, h1, h2⟩ := h
  have h3 := h2 (l.length - 1 - d) (by omega)
  rw [← ps_get l d hd] at h3
  obtain ⟨M, hM⟩ : ∃ M, M = l.length - 1 - d := ⟨_, rfl⟩
  rw [← hM] at h3
  have e1 : IntKind.i64.wrap ((l.length : Int) - 1) = (l.length : Int) - 1 := IntWalk.i64_in _ (by omega)
  have e2 : IntKind.i64.wrap ((l.length : Int) - 1 - d) = (M : Int) := by rw [show (l.length : Int) - 1 - d = (M : Int) from by omega]; exact wrap_i64_nat _ (by omega)
  have hml : M < l.length := by omega
  clear hM
  go_enter Try.func73, Try.ntmps73
  go_wp2
  go_quiet (fail)
  go_wp2
  go_ret
  exact ⟨rfl, _, rfl⟩
end Go.Proofs.Ytjgclomokekogaa
