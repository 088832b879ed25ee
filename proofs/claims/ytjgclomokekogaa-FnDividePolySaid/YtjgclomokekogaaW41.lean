/- The statement about division: its walk. -/
import Derived.Test.YtjgclomokekogaaW40
namespace Go.Proofs.Ytjgclomokekogaa
open Go.RowKit Rs

theorem el_inp {n : Int} {f : FP} (hf : fpn n = some f) (l : List (El f)) : InP n (l.map fun a => (a.val : Int)) := by
  have hs := (fpn_par n f hf).1
  have hp := f.size_pos
  refine ⟨by rw [hs]; omega, fun x hx => ?_⟩
  obtain ⟨a, _, rfl⟩ := List.mem_map.1 hx
  have := a.lt
  rw [hs]
  omega
theorem ElemsC.ints {f : FP} {w : World} {v : Value} {l : List (El f)} (h : ElemsC w v l) : Ints w v (l.map fun a => (a.val : Int)) := by
  obtain ⟨b, off, cap, h1, h2, h3, h4, h5⟩ := h
  refine Or.inr ⟨b, off, cap, by rw [List.length_map]; exact h1, by rw [List.length_map]; exact h2, by rw [List.length_map]; exact h3, h4, fun j hj => ?_⟩
  rw [List.length_map] at hj
  rw [List.getElem_map]; exact h5 j hj
theorem polys_el {n : Int} {f : FP} (hf : fpn n = some f) (Q R : List (El f)) (h1 : 1 ≤ Q.length) (h2 : Q.length ≤ 60) (h3 : 1 ≤ R.length) (h4 : R.length ≤ 60) : PolysP n [Q.map fun a => (a.val : Int), R.map fun a => (a.val : Int)] := by
  refine ⟨(el_inp hf Q).1, fun i h => ?_⟩
  match i, h with
  | 0, _ => exact ⟨by simpa using h1, by simpa using h2, el_inp hf Q⟩
  | 1, _ => exact ⟨by simpa using h3, by simpa using h4, el_inp hf R⟩
theorem head_ne {f : FP} {l : List (El f)} (h : Nf l) (hz : l ≠ [0]) (h0 : 0 < l.length) : l[0] ≠ 0 := by
  obtain ⟨c, t, rfl, h1⟩ := h
  show c ≠ 0
  rcases h1 with rfl | h1
  · intro e; exact hz (by rw [e])
  · exact h1
theorem prod_len {f : FP} {Q b l : List (El f)} (hn : Nf l) (h : ps l = ps Q * ps b) : l.length ≤ Q.length + b.length + 1 := by
  have h1 : Dg (ps Q) (Q.length + 1) := (ps_dg Q).mono (by omega)
  have h2 : Dg (ps b) (b.length + 1) := (ps_dg b).mono (by omega)
  rcases nf_len hn (h ▸ (Dg.mul h1 h2)) with h3 | h3
  · exact h3
  · rw [h3]; simp
/-- The first cell of a slice. -/
theorem ElemsC.first {f : FP} {w : World} {v : Value} {l : List (El f)} (h : ElemsC w v l) (h0 : 0 < l.length) : ∃ b off cap, v = .slice (some ⟨b, off, none⟩) l.length cap ∧ w.cell? ⟨b, off, none⟩ = some (.int .i64 l[0].val) := by
  obtain ⟨b, off, cap, h1, h2, h3, h4, h5⟩ := h
  exact ⟨b, off, cap, h1, by have := h5 0 h0; rwa [Nat.add_zero] at this⟩

set_option maxHeartbeats 8000000 in
theorem fndiv_any (n : Int) (s1 s2 : Option Addr) (k1 c1 k2 c2 : Nat) (l1 l2 : List Int) (w : World) (hk1 : l1.length = k1) (hm1 : k1 ≤ maxLen) (hi1 : Ints w (.slice s1 k1 c1) l1) (hk2 : l2.length = k2) (hm2 : k2 ≤ maxLen) (hi2 : Ints w (.slice s2 k2 c2) l2) :
    Calls Try.prog 5 #[.int .i64 n, .slice s1 k1 c1, .slice s2 k2 c2] w (Yes w) := by
  have H1 := Lib.hid hi1
  have H2 := Lib.hid hi2
  obtain ⟨t1, t2⟩ := two_ints hi1 hi2
  have T1 := Lib.hid t1
  have T2 := Lib.hid t2
  have hb0 : Below w.heap.size w (w.alloc (.cells #[.slice s1 k1 c1, .slice s2 k2 c2] 22)) := (Below.refl _ _).alloc (Nat.le_refl _) _
  clear hi1 hi2 t1 t2
  unfold maxLen at hm1 hm2
  by_cases hg1 : (2147483647 : Int) < (k1 : Int)
  · clear hk1 hk2
    go_enter Try.func5, Try.ntmps5
    go_wp2
    go_ret
    exact ⟨rfl, Below.refl _ _⟩
  by_cases hg2 : (2147483647 : Int) < (k2 : Int)
  · clear hk1 hk2
    go_enter Try.func5, Try.ntmps5
    go_wp2
    go_ret
    exact ⟨rfl, Below.refl _ _⟩
  have hpol := Lib.hid (polys_any n w.heap.size 2 [.slice s1 k1 c1, .slice s2 k2 c2] [l1, l2] _ rfl rfl (by omega) T1.out T2.out)
  have hs0 : (w.alloc (.cells #[.slice s1 k1 c1, .slice s2 k2 c2] 22)).heap.size = w.heap.size + 1 := by simp
  by_cases hp : PolysP n [l1, l2]
  rotate_left
  · have HP := Lib.hid hp
    clear hk1 hk2 hp hs0
    go_enter Try.func5, Try.ntmps5
    go_wp2_with (first | (go_at_call 20; refine hpol.out.mono ?_; rintro e w1 ⟨b, rfl, hy, _, hb1⟩; have hbf : b = false := Bool.eq_false_iff.2 (fun h => HP.out (hy h)); clear hy; subst hbf) | (go_at_call 15; refine (works_any _).mono ?_; rintro e w2 ⟨rfl, hb2⟩))
    go_ret
    exact ⟨rfl, ext_trans (hb0.trans (hb1.mono hb0.size)) hb2⟩
  obtain ⟨p1, p2⟩ := polys_two hp
  obtain ⟨f, hf⟩ := inp_fp p1.2.2
  obtain ⟨a, ha, hal⟩ := poly_el hf p1
  obtain ⟨b, hb, hbl⟩ := poly_el hf p2
  have hea := Lib.hid (H1.out.elemsC ha p1.1)
  have heb := Lib.hid (H2.out.elemsC hb p2.1)
  have hlen : a.length + b.length ≤ 100000 := by have := p1.2.1; have := p2.2.1; omega
  have ha1 : 1 ≤ a.length := by have := p1.1; omega
  have ha60 : a.length ≤ 60 := by have := p1.2.1; omega
  have hb60 : b.length ≤ 60 := by have := p2.2.1; omega
  have hbnf := trimL_nf b (by have := p2.1; omega)
  have hbp := hbnf.pos
  have hble := trimL_le b
  have HBN := Lib.hid hbnf
  have HP := Lib.hid hp
  clear hk1 hk2 hp p1 p2 ha hal hb hbl hbnf
  by_cases hz : trimL b = [0]
  · have HZ := Lib.hid hz
    have hh0 : ((trimL b)[0].val : Int) = 0 := by simp [hz, El.zero_val]
    have HH0 := Lib.hid hh0
    clear hz hh0
    obtain ⟨lb, hlb⟩ : ∃ lb, lb = (trimL b).length := ⟨_, rfl⟩
    have hlb1 : (0 : Int) < (lb : Int) := by omega
    have HLB := Lib.hid hlb
    clear hlb hble
    go_enter Try.func5, Try.ntmps5
    go_wp2_with (first
      | (go_at_call 20; refine hpol.out.mono ?_; rintro e w1 ⟨b', rfl, _, hy, hb1⟩; have hbf : b' = true := hy HP.out; clear hy; subst hbf; have hbw1 : Below w.heap.size w w1 := hb0.trans (hb1.mono hb0.size))
      | (go_at_call 21; refine (impldiv_any n f hf _ _ a b _ (hea.out.elems.later hbw1) (heb.out.elems.later hbw1) hlen).mono ?_; intro e w2 hr; obtain ⟨_, rfl, hb2⟩ := hr.resolve_right (fun h => h.1 HZ.out); have hbw2 := ext_trans hbw1 hb2)
      | (go_at_call 22; refine (trim_any _ b _ (heb.out.later hbw2)).mono ?_; rintro e w3 ⟨v4, rfl, hv4, rfl⟩; obtain ⟨b4, o4, c4, rfl, hx4⟩ := hv4.first (HBN.out.pos); rw [HH0.out] at hx4; rw [← HLB.out])
      | (go_at_call 15; refine (works_any _).mono ?_; rintro e w7 ⟨rfl, hb7⟩))
    go_ret
    exact ⟨rfl, ext_trans hbw2 hb7⟩
  have hh0 := val_ne (head_ne HBN.out hz hbp)
  have HZ := Lib.hid hz
  obtain ⟨lb, hlb⟩ : ∃ lb, lb = (trimL b).length := ⟨_, rfl⟩
  have hlb1 : (0 : Int) < (lb : Int) := by omega
  have HLB := Lib.hid hlb
  clear hlb hz
  go_enter Try.func5, Try.ntmps5
  go_wp2_with (first
    | (go_at_call 20; (with_reducible show Calls Try.prog 20 #[_, .slice (some ⟨w.heap.size, 0, none⟩) 2 2] _ _); refine hpol.out.mono ?_; rintro e w1 ⟨b', rfl, _, hy, hb1⟩; have hbf : b' = true := hy HP.out; clear hy; subst hbf; have hbw1 : Below w.heap.size w w1 := hb0.trans (hb1.mono hb0.size))
    | (go_at_call 21; refine (impldiv_any n f hf _ _ a b _ (hea.out.elems.later hbw1) (heb.out.elems.later hbw1) hlen).mono ?_; intro e w2 hr; obtain ⟨_, vq, vr, Q, R, rfl, hvq, hvr, hnQ, hnR, hE, hQl, hRl, hlt, hb2⟩ := hr.resolve_left (fun h => HZ.out h.1); have hbw2 := ext_trans hbw1 hb2; have HE := Lib.hid hE; have HLT := Lib.hid hlt; clear hE hlt; obtain ⟨bq, oq, cq, rfl, hxq⟩ := hvq.first hnQ.pos; obtain ⟨br, oR, cr, rfl, hxr⟩ := hvr.first hnR.pos; have hQ1 := hnQ.pos; have hR1 := hnR.pos; have hQ0 : ((Q.length : Int) == 0) = false := (by rw [beq_eq_false_iff_ne]; omega); have hR0 : ((R.length : Int) == 0) = false := (by rw [beq_eq_false_iff_ne]; omega); have HVQ := Lib.hid hvq; have HVR := Lib.hid hvr; have HTR := Lib.hid (nf_inj (trimL_nf R hnR.pos) hnR (trimL_ps R)); clear hvq hvr hxq hxr)
    | (go_at_call 22; (with_reducible show Calls Try.prog 22 #[.slice s2 k2 c2] _ _); refine (trim_any _ b _ (heb.out.later hbw8)).mono ?_; rintro e w9 ⟨v9, rfl, hv9, rfl⟩; obtain ⟨b9, o9, c9, rfl, hx9⟩ := hv9.first (HBN.out.pos); rw [← HLB.out])
    | (go_at_call 22; (with_reducible show Calls Try.prog 22 #[.slice s2 k2 c2] _ _); refine (trim_any _ b _ (heb.out.later hbw2)).mono ?_; rintro e w3 ⟨v4, rfl, hv4, rfl⟩; obtain ⟨b4, o4, c4, rfl, hx4⟩ := hv4.first (HBN.out.pos); rw [← HLB.out])
    | (go_at_call 20; obtain ⟨t3, t4⟩ := two_ints HVQ.out.ints HVR.out.ints; refine (polys_any n _ 2 _ _ _ rfl rfl (by omega) t3 t4).mono ?_; rintro e w4 ⟨b', rfl, _, hy, hb4⟩; have hbf : b' = true := hy (polys_el hf Q R hQ1 (by omega) hR1 (by omega)); clear hy t3 t4; subst hbf; have hb24 := (below_make _ _).trans (hb4.mono (below_make _ _).size); have hbw4 := ext_trans hbw2 hb24)
    | (go_at_call 22; (with_reducible show Calls Try.prog 22 #[.slice (some ⟨br, oR, none⟩) _ cr] _ _); refine (trim_any _ R _ (HVR.out.later hb24)).mono ?_; rintro e w5 ⟨v5, rfl, hv5, rfl⟩; rw [HTR.out] at hv5; obtain ⟨b5, o5, c5, rfl, hx5⟩ := hv5.first hR1; have HV5 := Lib.hid hv5; clear hv5)
    | (go_at_call 24; refine (product_any n f hf _ _ Q b _ (HVQ.out.later hb24).elems (heb.out.elems.later hbw4) (by omega)).mono ?_; rintro e w6 ⟨v6, l6, rfl, hv6, hn6, hp6, hb6⟩; have HP6 := Lib.hid hp6; clear hp6; have hl6 := prod_len hn6 HP6.out)
    | (go_at_call 23; refine (specadd_any _ _ l6 R _ hv6.elems (HV5.out.later hb6).elems (by omega)).mono ?_; rintro e w7 ⟨v7, l7, rfl, hv7, hn7, hp7, hb7⟩; have HP7 := Lib.hid hp7; clear hp7; have hbw7 := ext_trans (ext_trans hbw4 hb6) hb7)
    | (go_at_call 22; (with_reducible show Calls Try.prog 22 #[.slice s1 k1 c1] _ _); refine (trim_any _ a _ (hea.out.later hbw7)).mono ?_; rintro e w8 ⟨v8, rfl, hv8, rfl⟩; have HV8 := Lib.hid hv8; clear hv8)
    | (go_at_call 17; refine (same_any _ _ l7 _ hv7.elems (by rw [nf_inj hn7 (trimL_nf a ha1) (by rw [HP7.out, HP6.out, trimL_ps, HE.out])]; exact HV8.out.elems)).mono ?_; rintro e w8 ⟨rfl, hb8⟩; have hbw8 := ext_trans hbw7 hb8; have hx58 := cell_later (ext_trans (ext_trans hb6 hb7) hb8) hx5; by_cases hRl : R.length < lb; all_goals (first | (have hRd : decide ((R.length : Int) < (lb : Int)) = true := (by simp; omega)) | (have hRd : decide ((R.length : Int) < (lb : Int)) = false := (by simp; omega); have hr0 : (R[0].val : Int) = 0 := (by have hR0e := HLT.out.resolve_left (by rw [← HLB.out]; omega); simp [hR0e, El.zero_val]); rw [hr0] at hx58)))
    | (go_at_call 15; refine (works_any _).mono ?_; rintro e w10 ⟨rfl, hb10⟩))
  all_goals
    go_ret
    exact ⟨rfl, ext_trans hbw8 hb10⟩
end Go.Proofs.Ytjgclomokekogaa
