/- The package's decoder at work. -/
import Derived.Test.YtjgclomokekogaaD4
namespace Go.Proofs.Ytjgclomokekogaa
open Go.RowKit Rs

/-- The first i syndromes are 0. -/
def AllZ {f : FP} (rec : List (El f)) (i : Nat) : Prop := ∀ j, j < i → ev rec (El.exp f (j + f.base)) = 0
theorem AllZ.start {f : FP} {rec : List (El f)} : true = true ↔ AllZ rec 0 := ⟨fun _ j hj => by omega, fun _ => rfl⟩
theorem AllZ.yes {f : FP} {rec : List (El f)} {i : Nat} {bz : Bool} (h : bz = true ↔ AllZ rec i) (h0 : ev rec (El.exp f (i + f.base)) = 0) : bz = true ↔ AllZ rec (i + 1) := by
  rw [h]
  refine ⟨fun h1 j hj => ?_, fun h1 j hj => h1 j (by omega)⟩
  by_cases e : j = i
  · rw [e]; exact h0
  · exact h1 j (by omega)
theorem AllZ.no {f : FP} {rec : List (El f)} {i : Nat} (h0 : ev rec (El.exp f (i + f.base)) ≠ 0) : false = true ↔ AllZ rec (i + 1) :=
  ⟨fun h => by simp at h, fun h => absurd (h i (Nat.lt_succ_self i)) h0⟩
/-- The syndromes' list. -/
noncomputable def synL {f : FP} (rec : List (El f)) (ec : Nat) : List (El f) := (List.range ec).map fun j => ev rec (El.exp f (ec - 1 - j + f.base))
theorem synL_length {f : FP} (rec : List (El f)) (ec : Nat) : (synL rec ec).length = ec := by simp [synL]
theorem synL_get {f : FP} (rec : List (El f)) (ec m : Nat) (h : m < (synL rec ec).length) : (synL rec ec)[m] = ev rec (El.exp f (ec - 1 - m + f.base)) := by simp [synL]
theorem syn_ps {f : FP} (rec : List (El f)) (ec : Nat) : Syn f ec rec (ps (synL rec ec)) where
  dg := by have := ps_dg (synL rec ec); rwa [synL_length] at this
  at' n hn := by
    rw [ps_get _ n (by rw [synL_length]; exact hn), synL_get]
    simp only [synL_length]
    rw [show ec - 1 - (ec - 1 - n) = n from by omega]
theorem fill_right {f : FP} (T : List (El f)) (k : Nat) (h : k < T.length) : (List.replicate (k + 1) (0 : El f) ++ T.drop (k + 1)).set k T[k] = List.replicate k 0 ++ T.drop k := by
  rw [List.replicate_succ', List.append_assoc, List.set_append_right _ _ (by simp), List.length_replicate, Nat.sub_self, List.drop_eq_getElem_cons h]
  rfl
theorem ev_same {f : FP} {a b : List (El f)} (h : ps a = ps b) (x : El f) : ev a x = ev b x := by rw [← pev_ps, ← pev_ps, h]
theorem build_one {f : FP} (g d : Nat) (w : World) (hg : IsGF w f g) (hd : d + 1 ≤ 100000) :
    Calls Try.prog 77 #[.pointer (some ⟨g, 0, none⟩), .int .i64 d, .int .i64 1] w (NewPoly w g (mon (1 : El f) d) (d + 1)) := build_any g d 1 w hg hd
theorem mono_len {f : FP} {l : List (El f)} {n : Nat} (hn : Nf l) (h : ps l = mon (1 : El f) n) : l.length = n + 1 :=
  nf_length hn (by rw [h]; exact Dg.mon 1 n) (by rw [h]; simp only [mon]; rw [if_pos trivial]; exact Gf.one_ne)

theorem grown_trans {w w1 w2 : World} {c : Option Nat} (h1 : w.grownBy w1 c) (h2 : w1.grownBy w2 c) : w.grownBy w2 c :=
  ⟨h2.os.trans h1.os, h2.tape.trans h1.tape, h2.output.trans h1.output, Nat.le_trans h1.size h2.size, fun k hk hne => (h2.block k (Nat.lt_of_lt_of_le hk h1.size) hne).trans (h1.block k hk hne)⟩
/-- What decoding is good for. -/
def DecRes (f : FP) (ec : Nat) (rec : List (El f)) (A : Nat) (r : List Value) (w : World) (e : Ending) (w' : World) : Prop :=
  w.grownBy w' (some A) ∧ ((∃ v, e = .returned v ∧ Exc v ∧ ∀ c, ¬ Near f ec rec c) ∨
    (e = .returned .nilIface ∧ ∃ out : List (El f), out.length = rec.length ∧ 2 * wt (dif rec out) ≤ ec ∧ (∀ c, Near f ec rec c → out = c) ∧ BlkR w' A out r))
theorem DecRes.bad {f : FP} {ec A : Nat} {rec : List (El f)} {r : List Value} {w w1 w' : World} {v : Value} (hb : Below w.heap.size w w1) (hb2 : Below w1.heap.size w1 w') (hv : Exc v) (h : ∀ c, ¬ Near f ec rec c) : DecRes f ec rec A r w (.returned v) w' :=
  ⟨below_grown (ext_trans hb hb2) _, Or.inl ⟨v, rfl, hv, h⟩⟩

set_option maxRecDepth 100000 in
set_option maxHeartbeats 8000000 in
theorem decode_any (f : FP) (g dd A ec N cap : Nat) (rec : List (El f)) (r : List Value) (wf w : World) (hgf : IsGF wf f g) (hbf : Below wf.heap.size wf w) (hA : wf.heap.size ≤ A) (hd : DAt w dd g) (hdA : dd ≠ A)
    (hR : BlkR w A rec r) (hN : rec.length = N) (hN1 : 1 ≤ N) (hNs : N < f.size) (hec1 : 1 ≤ ec) (hec : ec < f.size) (hcap : N ≤ cap) :
    Calls Try.prog 58 #[.pointer (some ⟨dd, 0, none⟩), .slice (some ⟨A, 0, none⟩) N cap, .int .i64 ec] w (DecRes f ec rec A r w) := by
  unfold DAt at hd
  have hs := f.size_le
  have hs4 := f.size_pos
  have hb1 := f.base_le
  have hg := hgf.later hbf
  have HN := Lib.hid hN
  have HR := Lib.hid hR
  have hAlt := hR.lt
  have hNs' : Hid (rec.length ≤ f.size - 1) := by show _ ≤ _; omega
  obtain ⟨T, hT⟩ : ∃ T, T = synL rec ec := ⟨_, rfl⟩
  have HT := Lib.hid hT
  have HTl : Hid (T.length = ec) := by show _ = _; rw [hT, synL_length]
  clear hT hR hN
  obtain ⟨i0, hi, hz0, hz1, hz2⟩ := info_parts Try.info3
  go_enter Try.func58, Try.ntmps58
  go_wp2_with (first
    | (go_at_call 66; refine (newpoly_at (f := f) g A 0 cap N rec HN.out hN1 (by omega) hcap _ HR.out.cells).mono ?_; rintro e w1 ⟨p, P, rfl, hP, hpp, hpl, hb1⟩; have HPP := Lib.hid hpp; clear hpp)
    | (at_make; refine wpList_make_full _ rfl _ _ 22 rfl w1.heap.size 3 i0 (.int .i64 0) 1 Try.underlying22 hi hz0 hz1 .i64 .i64 _ _ ec rfl rfl rfl rfl (by rw [hz2]; omega) (by unfold maxLen; omega) (by simp) ?_; intro w2 hown hgrow; have hB2 : Blk w2 w1.heap.size (List.replicate ec (0 : El f)) := (made_blk hown); have hb2 : Below w1.heap.size w1 w2 := ((Below.refl _ _).grown hgrow (by simp) (by simp)); clear hown hgrow))
  go_loopw [10, 11] (fun x10 x11 wr => ∃ (i : Nat) (bz : Bool), i ≤ ec ∧ x11 = .int .i64 (i : Int) ∧ x10 = .bool bz ∧ Hid (bz = true ↔ AllZ rec i) ∧ Blk wr w1.heap.size (List.replicate (ec - i) (0 : El f) ++ T.drop (ec - i)) ∧ Below w1.heap.size w1 wr) (fun _ y _ => ec - (intOf y).toNat)
  case atStart => exact ⟨0, true, by omega, rfl, rfl, AllZ.start, by rw [Nat.sub_zero, List.drop_of_length_le (by rw [HTl.out]; exact Nat.le_refl _), List.append_nil]; exact hB2, hb2⟩
  case round =>
    obtain ⟨i, bz, hie, rfl, rfl, hbz, hB, hbr⟩ := hrel
    have hb0r := ext_trans hb1 hbr
    have hgr := hg.later hb0r
    have hdr := cell_later hb0r hd
    have hPr := hP.later hbr
    by_cases hlt : i < ec
    · obtain ⟨kb, hkb⟩ : ∃ kb, kb = i + f.base := ⟨_, rfl⟩
      have eb : IntKind.i64.wrap ((i : Int) + f.base) = (kb : Int) := by rw [show (i : Int) + f.base = (kb : Int) from by omega]; exact wrap_i64_nat _ (by omega)
      have hkbs : kb < f.size := by omega
      obtain ⟨m, hm⟩ : ∃ m, m = ec - 1 - i := ⟨_, rfl⟩
      have em : (ec : Int) - 1 - i = (m : Int) := by omega
      have hm0 : (0 : Int) ≤ (m : Int) := by omega
      have hm1 : (m : Int) < (ec : Int) := by omega
      have hmT : m < T.length := by rw [HTl.out]; omega
      obtain ⟨v, hv⟩ : ∃ v, v = T[m] := ⟨_, rfl⟩
      have HV : Hid (ev P (El.exp f kb) = v) := by
        show _ = _
        rw [ev_same HPP.out, hv]
        have h3 := HT.out
        subst h3
        rw [synL_get, hm, hkb, show ec - 1 - (ec - 1 - i) = i from by omega]
      have HVZ : Hid (ev rec (El.exp f (i + f.base)) = v) := by
        show _ = _
        rw [← HV.out, ev_same HPP.out, hkb]
      have HB : Hid (∀ n, Blk ((wr.drewN n).setCell ⟨w1.heap.size, m, none⟩ (.int .i64 v.val)) w1.heap.size (List.replicate (ec - (i + 1)) (0 : El f) ++ T.drop (ec - (i + 1)))) := fun n => by
        have h3 := (hB.drewN n).set m T[m]
        rw [show ec - i = m + 1 from by omega, fill_right T m hmT, ← hv] at h3
        rw [show ec - (i + 1) = m from by omega]
        exact h3
      have hfz : ∀ n, (wr.drewN n).frozen? ⟨w1.heap.size, m, none⟩ = false := fun n => (hB.drewN n).frozen m
      obtain ⟨zc, hxd⟩ : ∃ zc, ∀ n, (wr.drewN n).cell? ⟨w1.heap.size, m, none⟩ = some zc := ⟨_, fun n => (hB.drewN n).cell m (by rw [List.length_append, List.length_replicate, List.length_drop, HTl.out]; omega)⟩
      clear hkb hm hv hmT hB
      go_wp2_with fail
      go_quiet ((first
        | (go_at_call 82; exact Calls.quiet_of_same (getbase_any (f := f) g _ (hgr.drewN _)))
        | (go_at_call 81; exact Calls.quiet_of_same (exp_any (f := f) g kb hkbs _ (hgr.drewN _)))
        | (go_at_call 80; exact Calls.quiet_of (eval_any g p P (El.exp f kb) _ (hgr.drewN _) (hPr.drewN _)))))
      rw [HV.out]
      by_cases hv0 : v = 0
      · have e0 : (v.val : Int) = 0 := by rw [hv0]; rfl
        have HZ : Hid (bz = true ↔ AllZ rec (i + 1)) := AllZ.yes hbz.out (by rw [HVZ.out, hv0])
        clear hv0
        go_wp2
        go_roundw
        case rel => exact ⟨i + 1, bz, by omega, by go_num, rfl, HZ.out, by first | exact HB.out _ | (rw [← e0]; exact HB.out _), (below_drewN hbr _).setCell (Nat.le_refl _) _⟩
        case measure => simp [intOf]; omega
      · have e0 := val_ne hv0
        have HZ : Hid (false = true ↔ AllZ rec (i + 1)) := AllZ.no (by rw [HVZ.out]; exact hv0)
        clear hv0
        go_wp2
        go_roundw
        case rel => exact ⟨i + 1, false, by omega, by go_num, rfl, HZ.out, HB.out _, (below_drewN hbr _).setCell (Nat.le_refl _) _⟩
        case measure => simp [intOf]; omega
    · have e : i = ec := by omega
      have HBT : Hid (Blk wr w1.heap.size T) := by
        have h3 := hB
        rw [e, Nat.sub_self, List.drop_zero, List.replicate_zero, List.nil_append] at h3; exact h3
      have HZ : Hid (bz = true ↔ AllZ rec ec) := by have := hbz.out; rw [e] at this; exact this
      clear hB hbz e
      cases bz with
      | true =>
        have HF : Hid (DecRes f ec rec A r w (.returned .nilIface) wr) :=
          ⟨below_grown hb0r _, Or.inr ⟨rfl, rec, rfl, by rw [wt_self]; omega, fun c hc => near_zero hc hNs'.out (HZ.out.1 rfl), HR.out.later hb0r⟩⟩
        go_wp2
        go_ret
        exact HF.out
      | false =>
        clear HZ
        go_wp2_with (first
          | (go_at_call 66; refine (newpoly_at (f := f) g w1.heap.size 0 ec ec T HTl.out hec1 (by omega) (Nat.le_refl _) _ HBT.out.cells).mono ?_; rintro e w3 ⟨q, B, rfl, hB, hbp, hbl, hb3⟩; have HBP := Lib.hid hbp; clear hbp; have hg3 := hgr.later hb3; have hd3 := cell_later hb3 hdr)
          | (go_at_call 77; refine (build_one (f := f) g ec _ hg3 (by omega)).mono ?_; rintro e w4 ⟨mq, M, rfl, hM, hmp, hml, hb4⟩; have HMP := Lib.hid hmp; clear hmp; have hg4 := hg3.later hb4; have hd4 := cell_later hb4 hd3)
          | (go_at_call 83; refine (eucl_any g dd mq q ec M B _ hg4 hd4 hM (hB.later hb4) HMP.out (mono_len hM.1 HMP.out) hec1 (by omega) hbl).mono ?_; rintro e w5 ⟨hb5, (⟨_, rfl, ⟨sx, rfl⟩, t, rt, he, ht0⟩ | ⟨x, y, sl, ol, rfl, hsl, hol, hf⟩)⟩))
        · have hbw5 := ext_trans (ext_trans (ext_trans hb0r hb3) hb4) hb5
          have HNo : Hid (∀ c, ¬ Near f ec rec c) := fun c hc => near_t0 hc hNs'.out (by rw [HBP.out, HT.out]; exact syn_ps rec ec) he ht0
          clear he ht0
          go_wp2_with (go_at_call 79; refine (wrapexc_any _ ⟨sx, rfl⟩ _).mono ?_; rintro e w6 ⟨⟨v2, rfl, hv2⟩, hb6⟩)
          go_ret
          exact DecRes.bad hbw5 hb6 hv2 HNo.out
        have hbw5 := ext_trans (ext_trans (ext_trans hb0r hb3) hb4) hb5
        have HSyn : Hid (Syn f ec rec (ps B)) := by
          show Syn f ec rec (ps B)
          rw [HBP.out, HT.out]; exact syn_ps rec ec
        have HF := Lib.hid hf
        have hg5 := hg4.later hb5
        have hd5 := cell_later hb5 hd4
        clear hf
        go_wp2_with (go_at_call 84; refine (locs_any g dd x sl _ hg5 hd5 hsl (found_one HF.out)).mono ?_; rintro e w6 ⟨hb6, (⟨_, rfl, ⟨sx, rfl⟩, hfew⟩ | ⟨X, n, xs, rfl, hxl, hX, hxs, hXw⟩)⟩)
        · have hbw6 := ext_trans hbw5 hb6
          have HNo : Hid (∀ c, ¬ Near f ec rec c) := fun c hc => near_few hc hNs'.out hsl.1 (near_found hc hNs'.out HSyn.out HF.out).1 hfew
          clear hfew
          go_wp2_with (go_at_call 79; refine (wrapexc_any _ ⟨sx, rfl⟩ _).mono ?_; rintro e w7 ⟨⟨v2, rfl, hv2⟩, hb7⟩)
          go_ret
          exact DecRes.bad hbw6 hb7 hv2 HNo.out
        have hbw6 := ext_trans hbw5 hb6
        have HXS := Lib.hid hxs
        have HXL := Lib.hid hxl
        have hsll : sl.length ≤ 100000 := by obtain ⟨_, _, _, _, _, ⟨_, h⟩, _⟩ := hsl; exact h
        have hnn : n ≤ 100000 := by have := hxs.len; omega
        have hn2 : 2 * n ≤ ec := by have h3 := found_len hsl.1 HF.out; have h4 := hxs.len; omega
        have HX := Lib.hid hX
        clear hxs hxl hX
        go_wp2_with (go_at_call 85; refine (mags_any g dd y X n ol xs _ (hg5.later hb6) (cell_later hb6 hd5) (hol.later hb6) HX.out.cells HXL.out hnn HXS.out.nd HXS.out.ne).mono ?_; rintro e w7 ⟨hb7, Mg, rfl, hMg, hMw⟩; have HMg := Lib.hid hMg; clear hMg)
        have hbw7 := ext_trans hbw6 hb7
        have hbf7 := hbf.trans (hbw7.mono hbf.size)
        have hAX : X ≠ A := by have := hbw5.size; omega
        have hAM : Mg ≠ A := by have := hbw6.size; omega
        go_loopw [19] (fun y wr => ∃ (i : Nat) (cur : List (El f)), i ≤ n ∧ y = .int .i64 (i : Int) ∧ BlkR wr A cur r ∧ Hid (FixTo rec ol xs i cur) ∧ w7.grownBy wr (some A)) (fun y _ => n - (intOf y).toNat)
        case atStart => exact ⟨0, rec, by omega, rfl, HR.out.later hbw7, FixTo.start rec ol xs, below_grown (Below.refl _ _) _⟩
        case round =>
          obtain ⟨i2, cur, hin, rfl, hB2, hfix, hgx⟩ := hrel
          have hgw : Hid (w.grownBy wr (some A)) := grown_trans (below_grown hbw7 _) hgx
          by_cases hilt : i2 < n
          rotate_left
          · have HE : Hid (DecRes f ec rec A r w (.returned .nilIface) wr) := by
              refine ⟨hgw.out, Or.inr ⟨rfl, cur, hfix.out.len, by have := hfix.out.few; omega, fun c hc => ?_, hB2⟩⟩
              have h3 := hfix.out
              rw [show i2 = xs.length from by rw [HXL.out]; omega] at h3
              exact near_fix hc hNs'.out HSyn.out HF.out hsl.1 HXS.out h3
            clear hB2 hfix hgw
            go_wp2
            go_ret
            exact HE.out
          obtain ⟨xi, hxi⟩ : ∃ xi, xi = xs.getD i2 0 := ⟨_, rfl⟩
          have hix : i2 < xs.length := by rw [HXL.out]; exact hilt
          have hxie : xi = xs[i2] := by rw [hxi]; simp [List.getD, hix]
          have hxi0 : xi ≠ 0 := by rw [hxie]; exact HXS.out.ne _ (List.getElem_mem hix)
          have hgr' : IsGF wr f g := hgf.later (hbf7.grown hgx hbf7.size (fun k hk => by simp only [Option.some.injEq] at hk; omega))
          have hdr' := grown_cell hgx (cell_later hbw7 hd) hdA
          have hxr : wr.cell? ⟨X, i2, none⟩ = some (.int .i64 xi.val) := by
            rw [hxie]; exact grown_cell hgx ((HX.out.later hb7).cell i2 hix) hAX
          have hmr : wr.cell? ⟨Mg, i2, none⟩ = some (.int .i64 (mag ol xs i2).val) := by
            have h3 := HMg.out.cell i2 (by rw [magL_length]; exact hix)
            rw [magL_get] at h3
            exact grown_cell hgx h3 hAM
          obtain ⟨mi, hmi⟩ : ∃ mi, mi = mag ol xs i2 := ⟨_, rfl⟩
          rw [← hmi] at hmr
          have hi0 : (0 : Int) ≤ (i2 : Int) := by omega
          have hi1 : (i2 : Int) < (n : Int) := by omega
          have HIX := Lib.hid hix
          have HXI := Lib.hid hxi
          have HMI := Lib.hid hmi
          obtain ⟨lg, hlg⟩ : ∃ lg, lg = xi.log := ⟨_, rfl⟩
          have hlgs := xi.log_lt
          rw [← hlg] at hlgs
          have HLG := Lib.hid hlg
          clear hix hxi hxie hmi
          by_cases hpl : lg < N
          rotate_left
          · have HNo : Hid (∀ c, ¬ Near f ec rec c) := fun c hc => by
              have h3 := near_place hc hNs'.out HSyn.out HF.out hsl.1 HXS.out i2 HIX.out
              rw [← HXI.out, ← HLG.out, HN.out] at h3
              omega
            have HE : Hid (∀ v k, Exc v → DecRes f ec rec A r w (.returned v) (wr.drewN k)) := fun v k hv => ⟨grown_trans hgw.out (below_grown (drewN_below wr k) _), Or.inl ⟨v, rfl, hv, HNo.out⟩⟩
            have hneg : (N : Int) - 1 - lg < 0 := by omega
            clear hgw hlg
            go_wp2_with fail
            go_quiet ((first | (go_at_call 86; exact Calls.quiet_of (log_any g xi hxi0 _ (hgr'.drewN _)))))
            rw [← HLG.out]
            go_wp2_with (go_at_call 87; refine (newexc_any _ (by decide) _).mono ?_; rintro e w8 ⟨⟨v, rfl, hv⟩, hw⟩; obtain rfl := hw.symm; clear hw)
            go_ret
            exact HE.out v _ hv
          obtain ⟨pp, hpp⟩ : ∃ pp, pp = N - 1 - lg := ⟨_, rfl⟩
          have epp : (N : Int) - 1 - lg = (pp : Int) := by omega
          have hpp0 : (0 : Int) ≤ (pp : Int) := by omega
          have hpp1 : (pp : Int) < (N : Int) := by omega
          have hcl := hfix.out.len
          have hpc : pp < cur.length := by rw [hcl, HN.out]; omega
          have HFX : Hid (FixTo rec ol xs (i2 + 1) (cur.set pp (cur[pp] + mi))) := by
            rw [HMI.out]
            exact hfix.out.step (by rw [← HXI.out, ← HLG.out, HN.out]; omega) hpc
          obtain ⟨u, hu⟩ : ∃ u, u = cur[pp] := ⟨_, rfl⟩
          rw [← hu] at HFX
          have hcu : wr.cell? ⟨A, pp, none⟩ = some (.int .i64 u.val) := by rw [hu]; exact hB2.cell pp hpc
          have HPC := Lib.hid hpc
          have HX8 : Hid (∀ k, ∃ w8, w8 = wr.drewN k ∧ BlkR w8 A cur r ∧ w7.grownBy w8 (some A) ∧ w8.cell? ⟨Mg, i2, none⟩ = some (.int .i64 mi.val) ∧ w8.cell? ⟨A, pp, none⟩ = some (.int .i64 u.val)) :=
            fun k => ⟨_, rfl, hB2.later (drewN_below wr k), grown_trans hgx (below_grown (drewN_below wr k) _), cell_later (drewN_below wr k) hmr, cell_later (drewN_below wr k) hcu⟩
          clear hu hpp hcl hpc hlg hcu
          go_wp2_with fail
          go_quiet ((first | (go_at_call 86; exact Calls.quiet_of (log_any g xi hxi0 _ (hgr'.drewN _)))))
          rw [← HLG.out]
          go_wp2_with fail
          obtain ⟨w8, hw8, hB8, hgx8, hm8, hc8⟩ := HX8.out nq
          rw [← hw8]
          have HB8 := Lib.hid hB8
          clear hw8 HX8 hgx hB2 hgr' hdr' hxr hmr hB8
          refine wp_region_head_tail (C := Ext w8) 12 (by kernel_rfl) (by kernel_rfl) (Ext.drew1 w8) ?_
          have hq0 := Ext.cell hc8
          have hq1 := Ext.cell hm8
          clear hc8 hm8
          simp only [List.take_succ_cons, List.take_zero, List.drop_succ_cons, List.drop_zero]
          iterate 10 (refine head_op (v := ?_) rfl (fun w' hw' => ?_) (fun K hK => ?_); rotate_left; (focus (go_simp; try rfl)); go_simp; refine hK _ ?_; clear hK K)
          (refine head_call rfl (fun w' hw' => ?_) (xor_ext u mi) (fun K hK => ?_); (focus go_simp); go_simp; refine hK _ ?_; clear hK K)
          (refine head_op (v := ?_) rfl (fun w' hw' => ?_) (fun K hK => ?_); rotate_left; (focus (go_simp; try rfl)); go_simp; refine hK _ ?_; clear hK K)
          refine wpQuiet_nil ?_
          intro w9 hw9
          have hxd9 := hq0 w9 hw9
          have hB9 : BlkR w9 A cur r := HB8.out.later hw9
          have hfz9 := hB9.frozen pp
          have HB9 : Hid (BlkR (w9.setCell ⟨A, pp, none⟩ (.int .i64 (u + mi).val)) A (cur.set pp (u + mi)) r) := hB9.set pp HPC.out (u + mi)
          have HG9 : Hid (w7.grownBy (w9.setCell ⟨A, pp, none⟩ (.int .i64 (u + mi).val)) (some A)) := grown_trans (grown_trans hgx8 (below_grown hw9 _)) (grown_setCell w9 ⟨A, pp, none⟩ _)
          clear hq0 hq1 hB9
          go_wp2
          go_roundw
          case rel => exact ⟨i2 + 1, _, by omega, by go_num, HB9.out, HFX.out, HG9.out⟩
          case measure => simp [intOf]; omega
end Go.Proofs.Ytjgclomokekogaa
