/- The package's division of polynomials. -/
import Derived.Test.YtjgclomokekogaaW9
import Derived.Test.YtjgclomokekogaaDiv
import Derived.Deep.LoopGhost
namespace Go.Proofs.Ytjgclomokekogaa
open Go.RowKit Rs

/-- What a division is good for. -/
def DivRes {f : FP} (w : World) (g : Nat) (a b : List (El f)) (e : Ending) (w' : World) : Prop :=
  ∃ (x y : Nat) (Q R : List (El f)), e = .returned (.tuple #[.pointer (some ⟨x, 0, none⟩), .pointer (some ⟨y, 0, none⟩), .nilIface]) ∧ IsPoly w' g x Q ∧ IsPoly w' g y R ∧
    ps a = ps Q * ps b + ps R ∧ Q.length ≤ a.length ∧ R.length ≤ a.length ∧ (R.length < b.length ∨ R = [0]) ∧ Below w.heap.size w w'

set_option maxRecDepth 100000 in
set_option maxHeartbeats 4000000 in
theorem div_any {f : FP} (g p q : Nat) (a b : List (El f)) (w : World) (hg : IsGF w f g) (hp : IsPoly w g p a) (hq : IsPoly w g q b) (hbz : b ≠ [0]) :
    Calls Try.prog 45 #[.pointer (some ⟨p, 0, none⟩), .pointer (some ⟨q, 0, none⟩)] w (DivRes w g a b) := by
  have hp0 := hp.2.1
  have hq0 := hq.2.1
  have hma : a.length ≤ 100000 := by obtain ⟨_, _, _, _, _, ⟨_, h⟩, _⟩ := hp; exact h
  have hmb : b.length ≤ 100000 := by obtain ⟨_, _, _, _, _, ⟨_, h⟩, _⟩ := hq; exact h
  have hbpos := hq.1.pos
  have hapos := hp.1.pos
  have hneq := run_neq_same ⟨g, 0, none⟩
  have hzb : isZ b = false := by unfold isZ; exact decide_eq_false hbz
  obtain ⟨e, l, z, o, G⟩ := hg
  have hg : IsGF w f g := ⟨e, l, z, o, G⟩
  obtain ⟨nb, hnb⟩ : ∃ nb, b.length = nb + 1 := ⟨b.length - 1, by omega⟩
  have enb : (b.length : Int) - 1 = nb := by omega
  have hnb1 : b.length ≤ nb + 1 := by omega
  have hnb2 : nb + 1 ≤ b.length := by omega
  have hlb : ps b nb ≠ 0 := by have := top_ne hq.1 hbz; rwa [show b.length - 1 = nb from by omega] at this
  have HNB := Lib.hid hnb
  clear hnb
  go_enter Try.func45, Try.ntmps45
  go_wp2
  go_quiet (fail)
  go_wp2_with (first
    | (go_at_call 71; refine (iszero_any g _ _ _ (hq.drewN _)).mono ?_; rintro e w1 ⟨rfl, rfl⟩)
    | (go_at_call 72; refine (getzero_any g _ (G.later (drewN_below w _))).mono ?_; rintro e w1 ⟨rfl, rfl⟩)
    | (go_at_call 74; refine (deg_any g q b _ (hq.drewN _)).mono ?_; rintro e w1 ⟨rfl, rfl⟩)
    | (go_at_call 73; refine (coef_any g q b nb (by omega) _ (hq.drewN _)).mono ?_; rintro e w1 ⟨rfl, n1, rfl⟩)
    | (go_at_call 75; refine (inv_any g (ps b nb) hlb _ (hg.drewN _)).mono ?_; rintro e w1 ⟨rfl, n2, rfl⟩))
  go_loopg [4, 5] (meas a) (fun k x y wr => ∃ (qa ra : Nat) (Q R : List (El f)), meas R ≤ k ∧ x = .pointer (some ⟨qa, 0, none⟩) ∧ y = .pointer (some ⟨ra, 0, none⟩) ∧ IsPoly wr g qa Q ∧ IsPoly wr g ra R ∧
    Hid (ps a = ps Q * ps b + ps R) ∧ Q.length ≤ a.length ∧ R.length ≤ a.length ∧ Below w.heap.size w wr)
  case atStart => exact ⟨z, p, [0], a, Nat.le_refl _, rfl, rfl, G.zero.later (drewN_below _ _), hp.drewN _, (by rw [ps_cons_zero]; exact div_start _ _), by simp; omega, Nat.le_refl _, drewN_below _ _⟩
  case round =>
    obtain ⟨qa, ra, Q, R, hk, rfl, rfl, hQ, hR, hE, hQl, hRl, hbr⟩ := hrel
    have hqr := hq.later hbr
    have hgr := hg.later hbr
    have hp0r := cell_later hbr hp0
    have hRpos := hR.1.pos
    by_cases hlt : R.length < b.length
    · have HF : Hid (∀ n, DivRes w g a b (.returned (.tuple #[.pointer (some ⟨qa, 0, none⟩), .pointer (some ⟨ra, 0, none⟩), .nilIface])) (wr.drewN n)) :=
        fun n => ⟨qa, ra, Q, R, rfl, hQ.drewN n, hR.drewN n, hE.out, hQl, hRl, Or.inl hlt, below_drewN hbr n⟩
      go_wp2_with (first
        | (go_at_call 74; (with_reducible refine (deg_any g q b _ hqr).mono ?_); rintro e w1 ⟨rfl, rfl⟩)
        | (go_at_call 74; (with_reducible refine (deg_any g ra R _ hR).mono ?_); rintro e w1 ⟨rfl, rfl⟩))
      go_ret3
      exact HF.out 0
    obtain ⟨nr, hnr⟩ : ∃ nr, R.length = nr + 1 := ⟨R.length - 1, by omega⟩
    have enr : (R.length : Int) - 1 = nr := by omega
    have hnr1 : R.length ≤ nr + 1 := by omega
    have hnr2 : nr + 1 ≤ R.length := by omega
    have HNR := Lib.hid hnr
    clear hnr
    by_cases hRz : isZ R = true
    · have HF : Hid (∀ n, DivRes w g a b (.returned (.tuple #[.pointer (some ⟨qa, 0, none⟩), .pointer (some ⟨ra, 0, none⟩), .nilIface])) (wr.drewN n)) :=
        fun n => ⟨qa, ra, Q, R, rfl, hQ.drewN n, hR.drewN n, hE.out, hQl, hRl, Or.inr (isZ_true hRz), below_drewN hbr n⟩
      go_wp2_with (first
        | (go_at_call 74; (with_reducible refine (deg_any g q b _ hqr).mono ?_); rintro e w1 ⟨rfl, rfl⟩)
        | (go_at_call 74; (with_reducible refine (deg_any g ra R _ hR).mono ?_); rintro e w1 ⟨rfl, rfl⟩)
        | (go_at_call 71; (with_reducible refine (iszero_any g ra R _ hR).mono ?_); rintro e w1 ⟨rfl, rfl⟩))
      go_ret3
      exact HF.out 0
    have hRz' : isZ R = false := by simpa using hRz
    clear hRz
    obtain ⟨dd, hdd⟩ : ∃ dd, nr = nb + dd := ⟨nr - nb, by omega⟩
    have edd : (nr : Int) - nb = dd := by omega
    have hdd1 : nr ≤ nb + dd := by omega
    have hdd2 : nb + dd ≤ nr := by omega
    have HDD := Lib.hid hdd
    clear hdd
    have HX : Hid (∀ n, ∃ w1, w1 = wr.drewN n ∧ IsGF w1 f g ∧ IsPoly w1 g q b ∧ IsPoly w1 g ra R ∧ IsPoly w1 g qa Q ∧ w1.cell? ⟨p, 0, none⟩ = some (.pointer (some ⟨g, 0, none⟩)) ∧ Below w.heap.size w w1) :=
      fun n => ⟨_, rfl, hgr.drewN n, hqr.drewN n, hR.drewN n, hQ.drewN n, cell_later (drewN_below wr n) hp0r, below_drewN hbr n⟩
    go_wp2_with (first
        | (go_at_call 74; (with_reducible refine (deg_any g q b _ hqr).mono ?_); rintro e w1 ⟨rfl, rfl⟩)
        | (go_at_call 74; (with_reducible refine (deg_any g ra R _ hR).mono ?_); rintro e w1 ⟨rfl, rfl⟩)
        | (go_at_call 71; (with_reducible refine (iszero_any g ra R _ hR).mono ?_); rintro e w1 ⟨rfl, rfl⟩))
    go_quiet ((first | (go_at_call 74; exact Calls.quiet_of_same (deg_any g ra R _ (hR.drewN _))) | (go_at_call 73; exact Calls.quiet_of (coef_any g ra R nr (by omega) _ (hR.drewN _))) | (go_at_call 76; exact Calls.quiet_of (mult_any g (ps R nr) (Gf.inv (ps b nb)) _ (hgr.drewN _)))))
    obtain ⟨w1, hw1, hg1, hq1, hR1, hQ1, hp1, hbr1⟩ := HX.out nq
    rw [← hw1]
    clear hw1 hgr hqr hQ hp0r hbr
    go_wp2_with fail
    refine (bymono_any g q dd (ps R nr * Gf.inv (ps b nb)) b w1 hg1 hq1 (by omega)).mono ?_
    rintro e1 w2 ⟨t1, T1, rfl, hT1, hps1, hl1, hb1⟩
    have hp2 := cell_later hb1 hp1
    have Hps1 := Lib.hid hps1
    clear hps1
    go_wp2_with fail
    refine (build_any g dd (ps R nr * Gf.inv (ps b nb)) w2 (hg1.later hb1) (by omega)).mono ?_
    rintro e2 w3 ⟨t2, T2, rfl, hT2, hps2, hl2, hb2⟩
    have Hps2 := Lib.hid hps2
    clear hps2
    go_wp2_with fail
    refine (add_any g qa t2 Q T2 w3 ((hQ1.later hb1).later hb2) hT2).mono ?_
    rintro e3 w4 ⟨t3, T3, rfl, hT3, hps3, hl3, hb3⟩
    have Hps3 := Lib.hid hps3
    clear hps3
    go_wp2_with fail
    refine (add_any g ra t1 R T1 w4 (((hR1.later hb1).later hb2).later hb3) ((hT1.later hb2).later hb3)).mono ?_
    rintro e4 w5 ⟨t4, T4, rfl, hT4, hps4, hl4, hb4⟩
    have Hps4 := Lib.hid hps4
    clear hps4
    go_wp2_with fail
    have hlen : R.length = b.length + dd := by omega
    have hle := div_less hR.1 (isZ_false hRz') hq.1 hbz hlen (div_scale HNR.out HNB.out) hT4.1 (by rw [Hps4.out, Hps1.out])
    have HE : Hid (ps a = ps T3 * ps b + ps T4) := div_eq hE.out (by rw [Hps3.out, Hps2.out]) (by rw [Hps4.out, Hps1.out])
    go_roundg (meas T4)
    case measure => omega
    case rel => exact ⟨t3, t4, T3, T4, Nat.le_refl _, rfl, rfl, hT3.later hb4, hT4, HE.out, by omega, by omega, hbr1.trans ((ext_trans (ext_trans (ext_trans hb1 hb2) hb3) hb4).mono hbr1.size)⟩
end Go.Proofs.Ytjgclomokekogaa
