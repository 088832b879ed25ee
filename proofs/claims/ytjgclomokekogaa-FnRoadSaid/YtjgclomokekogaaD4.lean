/- The package's Euclidean algorithm. -/
import Derived.Test.YtjgclomokekogaaD3
import Derived.Test.YtjgclomokekogaaW10
namespace Go.Proofs.Ytjgclomokekogaa
open Go.RowKit Rs

/-- What the algorithm keeps round by round. -/
structure EuInv {f : FP} (N : Nat) (S : Ps (El f)) (RL R TL T : List (El f)) : Prop where
  k : ∃ K KL : Ps (El f), Po K ∧ Po KL ∧ ps R = ps T * S + K * mon 1 N ∧ ps RL = ps TL * S + KL * mon 1 N ∧ ps T * KL + ps TL * K = 1
  lt : R.length < RL.length
  t : T.length + RL.length ≤ N + 2
  tl : TL.length + RL.length ≤ N + 2
  half : N ≤ 2 * (RL.length - 1)
theorem EuInv.start {f : FP} {N : Nat} {a b : List (El f)} (ha : ps a = mon 1 N) (hal : a.length = N + 1) (hb : b.length ≤ N) : EuInv N (ps b) a b [(0 : El f)] [1] where
  k := ⟨0, 1, Po.zero, Po.one, by rw [ps_singleton]; show ps b = 1 * ps b + 0 * mon 1 N; rw [one_mul, zero_mul, Ring2.add_zero],
    by rw [ps_cons_zero, ha]; show mon 1 N = 0 * ps b + 1 * mon 1 N; rw [one_mul, zero_mul, zero_add],
    by rw [ps_singleton, ps_cons_zero]; show (1 : Ps (El f)) * 1 + 0 * 0 = 1; rw [one_mul, zero_mul, Ring2.add_zero]⟩
  lt := by omega
  t := by simp; omega
  tl := by simp; omega
  half := by omega
theorem EuInv.step {f : FP} {N : Nat} {S : Ps (El f)} {RL R TL T Q R' T' : List (El f)} (h : EuInv N S RL R TL T) (hE : ps RL = ps Q * ps R + ps R') (hT : ps T' = ps Q * ps T + ps TL) (hlt : R'.length < R.length)
    (hQ : Q.length + R.length ≤ RL.length + 1) (hTl : T'.length ≤ max (Q.length + T.length - 1) TL.length) (hN : N ≤ 2 * (R.length - 1)) (h1 : 1 ≤ T.length) : EuInv N S R R' T T' where
  k := by
    obtain ⟨K, KL, pK, pKL, hR, hRL, hd⟩ := h.k
    refine ⟨ps Q * K + KL, K, ((ps_po Q).mul pK).add pKL, pK, ?_, hR, ?_⟩
    · have e : ps R' = ps RL + ps Q * ps R := by rw [hE, Ring2.add_comm (ps Q * ps R + ps R'), add_self_left]
      rw [e, hRL, hR, hT]
      simp only [Ring2.mul_add, add_mul, Ring2.mul_assoc, Ring2.add_assoc, Ring2.add_comm, add_left_comm]
    · rw [← hd, hT]
      simp only [Ring2.mul_add, add_mul, Ring2.mul_assoc, Ring2.mul_comm, mul_left_comm, Ring2.add_comm, add_left_comm, Ring2.add_self, zero_add]
  lt := hlt
  t := by have := h.t; have := h.tl; have := h.lt; omega
  tl := by have := h.t; have := h.lt; omega
  half := hN
theorem EuInv.euc {f : FP} {N : Nat} {S : Ps (El f)} {RL R TL T : List (El f)} (h : EuInv N S RL R TL T) (h1 : 1 ≤ R.length) (h2 : 1 ≤ T.length) (hN : 2 * (R.length - 1) < N) : Euc N S (ps T) (ps R) where
  out := by
    obtain ⟨K, KL, pK, pKL, hR, hRL, hd⟩ := h.k
    exact ⟨ps TL, K, KL, ps_po T, ps_po TL, pK, pKL, hR, hd⟩
  rd := ⟨R.length - 1, (ps_dg R).mono (by omega), hN⟩
  td := ⟨T.length - 1, (ps_dg T).mono (by omega), by have := h.t; have := h.half; omega⟩

/-- What the algorithm is good for. -/
def EucRes (f : FP) (w : World) (g N : Nat) (S : Ps (El f)) (e : Ending) (w' : World) : Prop :=
  Below w.heap.size w w' ∧ ((∃ v, e = .returned (.tuple #[.pointer none, .pointer none, v]) ∧ Exc v ∧ ∃ t r, Euc N S t r ∧ t 0 = 0) ∨
    ∃ x y, ∃ sl ol : List (El f), e = .returned (.tuple #[.pointer (some ⟨x, 0, none⟩), .pointer (some ⟨y, 0, none⟩), .nilIface]) ∧ IsPoly w' g x sl ∧ IsPoly w' g y ol ∧ Found f N S sl ol)

set_option maxRecDepth 100000 in
set_option maxHeartbeats 8000000 in
theorem eucl_any {f : FP} (g dd p q N : Nat) (a b : List (El f)) (w : World) (hg : IsGF w f g) (hd : DAt w dd g) (hp : IsPoly w g p a) (hq : IsPoly w g q b) (ha : ps a = mon 1 N) (hal : a.length = N + 1) (hN1 : 1 ≤ N) (hN2 : N ≤ 10000) (hbl : b.length ≤ N) :
    Calls Try.prog 83 #[.pointer (some ⟨dd, 0, none⟩), .pointer (some ⟨p, 0, none⟩), .pointer (some ⟨q, 0, none⟩), .int .i64 N] w (EucRes f w g N (ps b)) := by
  unfold DAt at hd
  have hbpos := hq.1.pos
  obtain ⟨e, l, z, o, G⟩ := hg
  have hg : IsGF w f g := ⟨e, l, z, o, G⟩
  have HG := Lib.hid G
  have HI := Lib.hid (EuInv.start ha hal hbl)
  have enA : (a.length : Int) - 1 = N := by omega
  obtain ⟨nb, hnb⟩ : ∃ nb, b.length = nb + 1 := ⟨b.length - 1, by omega⟩
  have enB : (b.length : Int) - 1 = nb := by omega
  have hnbN : (nb : Int) < N := by omega
  have HAL := Lib.hid hal
  clear ha hnb hal G
  go_enter Try.func83, Try.ntmps83
  go_wp2_with (first
    | (go_at_call 74; (with_reducible refine (deg_any g p a _ hp).mono ?_); rintro e w1 ⟨rfl, hw⟩; obtain rfl := hw.symm; clear hw)
    | (go_at_call 74; (with_reducible refine (deg_any g q b _ hq).mono ?_); rintro e w1 ⟨rfl, hw⟩; obtain rfl := hw.symm; clear hw)
    | (go_at_call 72; refine (getzero_any g _ HG.out).mono ?_; rintro e w1 ⟨rfl, hw⟩; obtain rfl := hw.symm; clear hw)
    | (go_at_call 89; refine (getone_any g _ HG.out).mono ?_; rintro e w1 ⟨rfl, hw⟩; obtain rfl := hw.symm; clear hw))
  go_loopg [11, 12, 13, 14] (b.length) (fun k x11 x12 x13 x14 wr => ∃ (la ra tla ta : Nat) (RL R TL T : List (El f)), R.length ≤ k ∧ x11 = .pointer (some ⟨la, 0, none⟩) ∧ x12 = .pointer (some ⟨ra, 0, none⟩) ∧ x13 = .pointer (some ⟨tla, 0, none⟩) ∧ x14 = .pointer (some ⟨ta, 0, none⟩) ∧
    IsPoly wr g la RL ∧ IsPoly wr g ra R ∧ IsPoly wr g tla TL ∧ IsPoly wr g ta T ∧ Hid (EuInv N (ps b) RL R TL T) ∧ Below w.heap.size w wr)
  case atStart => exact ⟨p, q, z, o, a, b, [0], [1], Nat.le_refl _, rfl, rfl, rfl, rfl, hp, hq, HG.out.zero, HG.out.one, HI.out, Below.refl _ _⟩
  case round =>
    obtain ⟨la, ra, tla, ta, RL, R, TL, T, hk, rfl, rfl, rfl, rfl, hRL, hR, hTL, hT, hI, hbr⟩ := hrel
    obtain ⟨wo, rfl⟩ : ∃ wo : World, wo = wr := ⟨_, rfl⟩
    have hgr := hg.later hbr
    have hdr := cell_later hbr hd
    have hRpos := hR.1.pos
    have hTpos := hT.1.pos
    have hTLpos := hTL.1.pos
    have hRlt := hI.out.lt
    have hRLt := hI.out.t
    have hTLt := hI.out.tl
    obtain ⟨nr, hnr⟩ : ∃ nr, R.length = nr + 1 := ⟨R.length - 1, by omega⟩
    have enr : (R.length : Int) - 1 = nr := by omega
    have hnr1 : R.length ≤ nr + 1 := by omega
    have hnr2 : nr + 1 ≤ R.length := by omega
    have HNR := Lib.hid hnr
    clear hnr
    by_cases hhalf : 2 * nr < N
    · have HE := Lib.hid (hI.out.euc hRpos hTpos (by omega))
      by_cases h0 : ps T 0 = 0
      · have e0 : ((ps T 0).val : Int) = 0 := by rw [h0]; rfl
        have HF : Hid (∀ v n, Exc v → EucRes f w g N (ps b) (.returned (.tuple #[.pointer none, .pointer none, v])) (wo.drewN n)) := fun v n hv => ⟨below_drewN hbr n, Or.inl ⟨v, rfl, hv, _, _, HE.out, h0⟩⟩
        clear h0
        go_wp2_with (first
          | (go_at_call 74; (with_reducible refine (deg_any g ra R _ hR).mono ?_); rintro e w1 ⟨rfl, hw⟩; obtain rfl := hw.symm; clear hw)
          | (go_at_call 73; refine (coef_any g ta T 0 hTpos _ hT).mono ?_; rintro e w1 ⟨rfl, n1, rfl⟩)
          | (go_at_call 87; refine (newexc_any _ (by decide) _).mono ?_; rintro e w1 ⟨⟨v, rfl, hv⟩, hw⟩; obtain rfl := hw.symm; clear hw))
        go_ret3
        exact HF.out v n1 hv
      · have e0 := val_ne h0
        have H0 := Lib.hid h0
        clear h0
        have HX : Hid (∀ n, ∃ w1, w1 = wo.drewN n ∧ IsGF w1 f g ∧ IsPoly w1 g ra R ∧ IsPoly w1 g ta T ∧ Below w.heap.size w w1) := fun n => ⟨_, rfl, hgr.drewN n, hR.drewN n, hT.drewN n, below_drewN hbr n⟩
        go_wp2_with (first
          | (go_at_call 74; (with_reducible refine (deg_any g ra R _ hR).mono ?_); rintro e w1 ⟨rfl, hw⟩; obtain rfl := hw.symm; clear hw)
          | (go_at_call 73; refine (coef_any g ta T 0 hTpos _ hT).mono ?_; rintro e w1 ⟨rfl, n1, rfl⟩; have hdr1 := cell_later (drewN_below wo n1) hdr)
          | (go_at_call 75; refine (inv_any g (ps T 0) H0.out _ (hgr.drewN _)).mono ?_; rintro e w1 ⟨rfl, n2, rfl⟩)
          | (go_at_call 55; (with_reducible show Calls Try.prog 55 #[.pointer (some ⟨ta, 0, none⟩), _] _ _); refine (scale_any g ta (Gf.inv (ps T 0)) T _ (hgr.drewN _) (hT.drewN _)).mono ?_; rintro e w2 ⟨sx, sl, rfl, hsl, hsp, hsL, hb2⟩; have hb2' := ext_trans (drewN_below wo _) hb2; have HSP := Lib.hid hsp; clear hsp)
          | (go_at_call 55; (with_reducible show Calls Try.prog 55 #[.pointer (some ⟨ra, 0, none⟩), _] _ _); refine (scale_any g ra (Gf.inv (ps T 0)) R _ (hgr.later hb2') (hR.later hb2')).mono ?_; rintro e w3 ⟨oy, ol, rfl, hol, hop, hoL, hb3⟩; have HOP := Lib.hid hop; clear hop))
        go_ret3
        exact ⟨ext_trans (ext_trans hbr hb2') hb3, Or.inr ⟨sx, oy, sl, ol, rfl, hsl.later hb3, hol, ⟨_, _, HE.out, H0.out, HSP.out, HOP.out⟩⟩⟩
    · have hhalf' : N ≤ 2 * nr := by omega
      have hRz : R ≠ [0] := fun e => by rw [e] at hnr1 hnr2; simp at hnr1 hnr2; omega
      have hRz' : isZ R = false := by unfold isZ; exact decide_eq_false hRz
      have hlead : ps R nr ≠ 0 := by have := top_ne hR.1 hRz; rwa [show R.length - 1 = nr from by omega] at this
      have HL := Lib.hid hlead
      have HRz := Lib.hid hRz
      have HGr := Lib.hid (HG.out.later hbr)
      have HX : Hid (∀ n, ∃ w1, w1 = wo.drewN n ∧ Below wo.heap.size wo w1) := fun n => ⟨_, rfl, drewN_below wo n⟩
      clear hlead hRz
      go_wp2_with (first
        | (go_at_call 74; (with_reducible refine (deg_any g ra R _ hR).mono ?_); rintro e w1 ⟨rfl, hw⟩; obtain rfl := hw.symm; clear hw)
        | (go_at_call 71; (with_reducible refine (iszero_any g ra R _ hR).mono ?_); rintro e w1 ⟨rfl, hw⟩; obtain rfl := hw.symm; clear hw)
        | (go_at_call 72; refine (getzero_any g _ HGr.out).mono ?_; rintro e w1 ⟨rfl, hw⟩; obtain rfl := hw.symm; clear hw)
        | (go_at_call 73; refine (coef_any g ra R nr (by omega) _ hR).mono ?_; rintro e w1 ⟨rfl, n1, rfl⟩; have hdr1 := cell_later (drewN_below wo n1) hdr)
        | (go_at_call 75; refine (inv_any g (ps R nr) HL.out _ (hgr.drewN _)).mono ?_; rintro e w1 ⟨rfl, n2, rfl⟩))
      go_loopg [12, 17] (meas RL) (fun k x12 x17 wv => ∃ (qa va : Nat) (Q V : List (El f)), meas V ≤ k ∧ x12 = .pointer (some ⟨va, 0, none⟩) ∧ x17 = .pointer (some ⟨qa, 0, none⟩) ∧ IsPoly wv g qa Q ∧ IsPoly wv g va V ∧
        Hid (ps RL = ps Q * ps R + ps V) ∧ Q.length + R.length ≤ RL.length + 1 ∧ V.length ≤ RL.length ∧ Below wo.heap.size wo wv)
      case atStart => exact ⟨z, la, [0], RL, Nat.le_refl _, rfl, rfl, HGr.out.zero.later (drewN_below _ _), hRL.drewN _, (by rw [ps_cons_zero]; exact div_start _ _), by simp; omega, Nat.le_refl _, drewN_below _ _⟩
      case round =>
        obtain ⟨qa, va, Q, V, hk2, rfl, rfl, hQ, hV, hE, hQl, hVl, hbv⟩ := hrel
        have hgv := hgr.later hbv
        have hRv := hR.later hbv
        have hTv := hT.later hbv
        have hTLv := hTL.later hbv
        have hdv := cell_later hbv hdr
        have hVpos := hV.1.pos
        have hQpos := hQ.1.pos
        by_cases hlt : V.length < R.length
        · have hltI : (V.length : Int) < (R.length : Int) := by omega
          go_wp2_with (first
            | (go_at_call 74; (with_reducible refine (deg_any g va V _ hV).mono ?_); rintro e w1 ⟨rfl, hw⟩; obtain rfl := hw.symm; clear hw)
            | (go_at_call 74; (with_reducible refine (deg_any g ra R _ hRv).mono ?_); rintro e w1 ⟨rfl, hw⟩; obtain rfl := hw.symm; clear hw)
            | (go_at_call 74; (with_reducible refine (deg_any g va V _ hV3).mono ?_); rintro e w4 ⟨rfl, hw⟩; obtain rfl := hw.symm; clear hw)
            | (go_at_call 74; (with_reducible refine (deg_any g ra R _ hR3).mono ?_); rintro e w4 ⟨rfl, hw⟩; obtain rfl := hw.symm; clear hw)
            | (go_at_call 51; refine (mulpoly_any g qa ta Q T _ hgv hQ hTv (by omega)).mono ?_; rintro e w2 ⟨m1, M1, rfl, hM1, hps1, hl1, hb1⟩; have Hps1 := Lib.hid hps1; clear hps1)
            | (go_at_call 49; refine (add_any g m1 tla M1 TL _ hM1 (hTLv.later hb1)).mono ?_; rintro e w3 ⟨t1, T1, rfl, hT1, hps2, hl2, hb2⟩; have Hps2 := Lib.hid hps2; clear hps2; have hb12 := ext_trans hb1 hb2; have hV3 := hV.later hb12; have hR3 := hRv.later hb12))
          have HI' : Hid (EuInv N (ps b) R V T T1) := hI.out.step hE.out (by rw [Hps2.out, Hps1.out]) hlt hQl (by omega) (by omega) hTpos
          have hb3 := ext_trans hbr (ext_trans hbv hb12)
          go_roundg (V.length)
          case measure => omega
          case rel => exact ⟨ra, va, ta, t1, R, V, T, T1, Nat.le_refl _, rfl, rfl, rfl, rfl, hR3, hV3, hTv.later hb12, hT1, HI'.out, hb3⟩
        obtain ⟨nv, hnv⟩ : ∃ nv, V.length = nv + 1 := ⟨V.length - 1, by omega⟩
        have env : (V.length : Int) - 1 = nv := by omega
        have hnv1 : V.length ≤ nv + 1 := by omega
        have hnv2 : nv + 1 ≤ V.length := by omega
        have hVz : V ≠ [0] := fun e => by rw [e] at hnv1 hnv2; simp at hnv1 hnv2; omega
        have hVz' : isZ V = false := by unfold isZ; exact decide_eq_false hVz
        have HVz := Lib.hid hVz
        have HNV := Lib.hid hnv
        clear hnv hVz
        obtain ⟨dg, hdg⟩ : ∃ dg, nv = nr + dg := ⟨nv - nr, by omega⟩
        have edg : (nv : Int) - nr = dg := by omega
        have hdg1 : nv ≤ nr + dg := by omega
        have hdg2 : nr + dg ≤ nv := by omega
        clear hdg
        have HX2 : Hid (∀ n, ∃ w1, w1 = wr.drewN n ∧ IsGF w1 f g ∧ IsPoly w1 g ra R ∧ IsPoly w1 g va V ∧ IsPoly w1 g qa Q ∧ w1.cell? ⟨dd, 0, none⟩ = some (.pointer (some ⟨g, 0, none⟩)) ∧ Below wo.heap.size wo w1) :=
          fun n => ⟨_, rfl, hgv.drewN n, hRv.drewN n, hV.drewN n, hQ.drewN n, cell_later (drewN_below wr n) hdv, below_drewN hbv n⟩
        go_wp2_with (first
          | (go_at_call 74; (with_reducible refine (deg_any g va V _ hV).mono ?_); rintro e w1 ⟨rfl, hw⟩; obtain rfl := hw.symm; clear hw)
          | (go_at_call 74; (with_reducible refine (deg_any g ra R _ hRv).mono ?_); rintro e w1 ⟨rfl, hw⟩; obtain rfl := hw.symm; clear hw)
          | (go_at_call 71; (with_reducible refine (iszero_any g va V _ hV).mono ?_); rintro e w1 ⟨rfl, hw⟩; obtain rfl := hw.symm; clear hw))
        go_quiet ((first | (go_at_call 74; exact Calls.quiet_of_same (deg_any g va V _ (hV.drewN _))) | (go_at_call 73; exact Calls.quiet_of (coef_any g va V nv (by omega) _ (hV.drewN _))) | (go_at_call 76; exact Calls.quiet_of (mult_any g (ps V nv) (Gf.inv (ps R nr)) _ (hgv.drewN _)))))
        obtain ⟨w1, hw1, hg1, hq1, hV1, hQ1, hd1, hbr1⟩ := HX2.out nq
        rw [← hw1]
        clear hw1 hgv hRv hQ hdv hbv HX2
        go_wp2_with fail
        refine (build_any g dg (ps V nv * Gf.inv (ps R nr)) w1 hg1 (by omega)).mono ?_
        rintro e1 w2 ⟨t2, T2, rfl, hT2, hps2, hl2, hb1⟩
        have hd2 := cell_later hb1 hd1
        have Hps2 := Lib.hid hps2
        clear hps2
        go_wp2_with fail
        refine (add_any g qa t2 Q T2 w2 (hQ1.later hb1) hT2).mono ?_
        rintro e2 w3 ⟨t3, T3, rfl, hT3, hps3, hl3, hb2⟩
        have Hps3 := Lib.hid hps3
        clear hps3
        go_wp2_with fail
        refine (bymono_any g ra dg (ps V nv * Gf.inv (ps R nr)) R w3 ((hg1.later hb1).later hb2) ((hq1.later hb1).later hb2) (by omega)).mono ?_
        rintro e3 w4 ⟨t1, T1, rfl, hT1, hps1, hl1, hb3⟩
        have Hps1 := Lib.hid hps1
        clear hps1
        go_wp2_with fail
        refine (add_any g va t1 V T1 w4 (((hV1.later hb1).later hb2).later hb3) hT1).mono ?_
        rintro e4 w5 ⟨t4, T4, rfl, hT4, hps4, hl4, hb4⟩
        have Hps4 := Lib.hid hps4
        clear hps4
        go_wp2_with fail
        have hlen : V.length = R.length + dg := by omega
        have hle := div_less hV1.1 HVz.out hq1.1 HRz.out hlen (div_scale HNV.out HNR.out) hT4.1 (by rw [Hps4.out, Hps1.out])
        have HE : Hid (ps RL = ps T3 * ps R + ps T4) := div_eq hE.out (by rw [Hps3.out, Hps2.out]) (by rw [Hps4.out, Hps1.out])
        go_roundg (meas T4)
        case measure => omega
        case rel => exact ⟨t3, t4, T3, T4, Nat.le_refl _, rfl, rfl, (hT3.later hb3).later hb4, hT4, HE.out, by omega, by omega, hbr1.trans ((ext_trans (ext_trans (ext_trans hb1 hb2) hb3) hb4).mono hbr1.size)⟩
end Go.Proofs.Ytjgclomokekogaa
