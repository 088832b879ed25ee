/- The thin package's division of polynomials. -/
import Derived.Test.YtjgclomokekogaaW39
namespace Go.Proofs.Ytjgclomokekogaa
open Go.RowKit Rs

/-- Quotient and rest. -/
def DivP {f : FP} (a b : List (El f)) (ls : List (List (El f))) : Prop :=
  (trimL b = [0] ∧ ls = []) ∨ (trimL b ≠ [0] ∧ ∃ Q R, ls = [Q, R] ∧ Nf Q ∧ Nf R ∧ ps a = ps Q * ps b + ps R ∧ Q.length ≤ a.length ∧ R.length ≤ a.length ∧ (R.length < (trimL b).length ∨ R = [0]))
def ErrR (w : World) (e : Ending) (w' : World) : Prop := ∃ t v, e = .returned (.iface t v) ∧ Below w.heap.size w w'
theorem errnew_any (s : ByteArray) (w : World) : Calls Try.prog 67 #[.string s] w (ErrR w) := by
  go_enter Try.func67, Try.ntmps67
  go_wp2
  go_ret
  exact ⟨_, _, rfl, below_make w _⟩
def DivZ (w : World) (e : Ending) (w' : World) : Prop := ∃ t v, e = .returned (.tuple #[.pointer none, .pointer none, .iface t v]) ∧ Below w.heap.size w w'
set_option maxRecDepth 100000 in
set_option maxHeartbeats 4000000 in
theorem divz_any {f : FP} (g p q : Nat) (a b : List (El f)) (w : World) (hp : IsPoly w g p a) (hq : IsPoly w g q b) (hbz : b = [0]) :
    Calls Try.prog 45 #[.pointer (some ⟨p, 0, none⟩), .pointer (some ⟨q, 0, none⟩)] w (DivZ w) := by
  have hp0 := hp.2.1
  have hq0 := hq.2.1
  have hneq := run_neq_same ⟨g, 0, none⟩
  have hzb : isZ b = true := by unfold isZ; exact decide_eq_true hbz
  clear hbz
  go_enter Try.func45, Try.ntmps45
  go_wp2
  go_quiet (fail)
  go_wp2_with (first
    | (go_at_call 71; refine (iszero_any g _ _ _ (hq.drewN _)).mono ?_; rintro e w1 ⟨rfl, rfl⟩)
    | (go_at_call 67; refine (errnew_any _ _).mono ?_; rintro e w2 ⟨t, v, rfl, hb2⟩))
  go_ret3
  exact ⟨t, v, rfl, (drewN_below w _).trans (hb2.mono (by simp))⟩

set_option maxHeartbeats 4000000 in
theorem cb_div {f : FP} (g x y : Nat) (a b la lb : List (El f)) (w : World) (hg : IsGF w f g) (hx : IsPoly w g x la) (hpx : ps la = ps a) (hlx : la.length ≤ a.length) (hy : IsPoly w g y lb) (hpy : ps lb = ps b) (hb1 : 1 ≤ b.length) :
    Calls Try.prog 44 (CbA g x y #[]) w (CbR g (DivP a b) w) := by
  unfold CbA
  simp only [Array.append_empty]
  have hlb : lb = trimL b := nf_inj hy.1 (trimL_nf b hb1) (by rw [trimL_ps, hpy])
  by_cases hz : lb = [0]
  · have HF : Hid (DivP a b []) := Or.inl ⟨by rw [← hlb]; exact hz, rfl⟩
    have hz2 := Lib.hid hz
    clear hlb hz hpx hpy
    go_enter Try.func44, Try.ntmps44
    go_wp2_with (go_at_call 45; refine (divz_any g x y la lb _ hx hy hz2.out).mono ?_; rintro e w1 ⟨t, v, rfl, hb⟩)
    go_ret
    exact ⟨hb, Or.inl ⟨rfl, HF.out⟩⟩
  · have HLB := Lib.hid hlb
    have HZ := Lib.hid hz
    have HPX := Lib.hid hpx
    have HPY := Lib.hid hpy
    clear hlb hz hpx hpy
    go_enter Try.func44, Try.ntmps44
    go_wp2_with (go_at_call 45; refine (div_any g x y la lb _ hg hx hy HZ.out).mono ?_; rintro e w1 ⟨qa, ra, Q, R, rfl, hQ, hR, hE, hQl, hRl, hlt, hb⟩; have HE := Lib.hid hE; have HLT := Lib.hid hlt; clear hE hlt)
    go_ret
    have hbe := below_make w1 (.cells #[.pointer (some ⟨qa, 0, none⟩), .pointer (some ⟨ra, 0, none⟩)] 61)
    refine ⟨hb.trans (hbe.mono hb.size), Or.inr ⟨w1.heap.size, 2, 2, [qa, ra], [Q, R], rfl, rfl, by omega, by omega, ⟨rfl, fun i h1 h2 => ?_⟩, Or.inr ⟨by rw [← HLB.out]; exact HZ.out, Q, R, rfl, hQ.1, hR.1, by rw [← HPX.out, HE.out, HPY.out], by omega, by omega, by rw [← HLB.out]; exact HLT.out⟩⟩⟩
    match i, h1, h2 with
    | 0, _, _ => exact ⟨by simp, hQ.later hbe⟩
    | 1, _, _ => exact ⟨by simp, hR.later hbe⟩

/-- What the thin package's division hands back. -/
def DivOut {f : FP} (a b : List (El f)) (w : World) (e : Ending) (w' : World) : Prop :=
  (trimL b = [0] ∧ e = .returned (.tuple #[.slice none 0 0, .slice none 0 0, .bool false]) ∧ Below w.heap.size w w') ∨
  (trimL b ≠ [0] ∧ ∃ vq vr Q R, e = .returned (.tuple #[vq, vr, .bool true]) ∧ ElemsC w' vq Q ∧ ElemsC w' vr R ∧ Nf Q ∧ Nf R ∧ ps a = ps Q * ps b + ps R ∧ Q.length ≤ a.length ∧ R.length ≤ a.length ∧ (R.length < (trimL b).length ∨ R = [0]) ∧ Below w.heap.size w w')
/-- The list of the two. -/
theorem two_of {f : FP} {a b : List (El f)} {w w' : World} {e : Ending} (h : PolyRes (DivP a b) w e w') :
    (trimL b = [0] ∧ (e = .returned (.slice none 0 0) ∨ ∃ c k, e = .returned (.slice (some ⟨c, 0, none⟩) 0 k)) ∧ Below w.heap.size w w') ∨
    (∃ c k vq vr, e = .returned (.slice (some ⟨c, 0, none⟩) 2 k) ∧ w'.cell? ⟨c, 0, none⟩ = some vq ∧ w'.cell? ⟨c, 1, none⟩ = some vr ∧ Hid (∀ n, DivOut a b w (.returned (.tuple #[vq, vr, .bool true])) (w'.drewN n))) := by
  obtain ⟨v, xs, ls, rfl, hP, hv, hown, hxl, hall, hb⟩ := h
  rcases hP with ⟨hz, rfl⟩ | ⟨hz, Q, R, rfl, hQ, hR, hE, h1, h2, h3⟩
  · refine Or.inl ⟨hz, ?_, hb⟩
    rcases hv with rfl | ⟨c, k, rfl⟩
    · exact Or.inl rfl
    · exact Or.inr ⟨c, k, rfl⟩
  · rcases hv with rfl | ⟨c, k, rfl⟩
    · rcases hown.2 with ⟨_, h4⟩ | ⟨_, _, _, h4, _⟩
      · simp at h4
      · simp at h4
    · simp only [List.length_cons, List.length_nil] at hxl hown ⊢
      have i0 : 0 < xs.length := by omega
      have i1 : 1 < xs.length := by omega
      refine Or.inr ⟨c, k, xs[0], xs[1], rfl, own_at hown 0 i0, own_at hown 1 i1, fun n => Or.inr ⟨hz, xs[0], xs[1], Q, R, rfl, ?_, ?_, hQ, hR, hE, h1, h2, h3, below_drewN hb n⟩⟩
      · exact (own_elemsC (hall 0 i0 (by simp)) hQ.pos).later (drewN_below w' n)
      · exact (own_elemsC (hall 1 i1 (by simp)) hR.pos).later (drewN_below w' n)

set_option maxHeartbeats 4000000 in
theorem impldiv_any (n : Int) (f : FP) (hf : fpn n = some f) (va vb : Value) (a b : List (El f)) (w : World) (ha : Elems w va a) (hb : Elems w vb b) (hd : a.length + b.length ≤ 100000) :
    Calls Try.prog 21 #[.int .i64 n, va, vb] w (DivOut a b w) := by
  obtain ⟨ba, oa, ca, rfl, hapos, hma, ha⟩ := ha
  obtain ⟨bb, ob, cb, rfl, hbpos, hmb, hb⟩ := hb
  have hpoly := Lib.hid (poly_any n f hf 44 #[] a b ba oa a.length ca bb ob b.length cb (DivP a b) w ha rfl hapos (by omega) hb rfl hbpos (by omega) (fun _ _ _ _ => rfl)
    (fun g w1 x y la lb _ hg hx hpx hlx hy hpy hly => cb_div g x y a b la lb w1 hg hx hpx hlx hy hpy hbpos))
  clear ha hb
  go_enter Try.func21, Try.ntmps21
  go_wp2_with (go_at_call 43; refine hpoly.out.mono ?_; intro e w1 hr; rcases two_of hr with ⟨hz, (rfl | ⟨c, k, rfl⟩), hbz⟩ | ⟨c, k, vq, vr, rfl, hx0, hx1, HF⟩; all_goals (clear hr))
  · go_ret3
    exact Or.inl ⟨hz, rfl, hbz⟩
  · go_ret3
    exact Or.inl ⟨hz, rfl, hbz⟩
  · go_quiet (fail)
    go_wp2
    go_ret3
    exact HF.out _
end Go.Proofs.Ytjgclomokekogaa
