/- The statements about sums and products of polynomials: their walks. -/
import Derived.Test.YtjgclomokekogaaW36
namespace Go.Proofs.Ytjgclomokekogaa
open Go.RowKit Rs

theorem nf_inj {f : FP} {x y : List (El f)} (hx : Nf x) (hy : Nf y) (h : ps x = ps y) : x = y := by
  have key : ∀ {x y : List (El f)}, Nf x → Nf y → ps x = ps y → x.length ≤ y.length := by
    intro x y hx hy h
    rcases nf_len hx (h ▸ ps_dg y) with h1 | h1
    · exact h1
    · have := hy.pos; rw [h1]; show 1 ≤ y.length; omega
  exact ps_inj (Nat.le_antisymm (key hx hy h) (key hy hx h.symm)) h
theorem Ints.elemsC {f : FP} {w : World} {v : Value} {l : List Int} {l' : List (El f)} (h : Ints w v l) (hl : l'.map (fun a => (a.val : Int)) = l) (h1 : 1 ≤ l.length) : ElemsC w v l' := by
  obtain ⟨b, off, cap, h2, h3, h4, h5⟩ := h.elems hl h1
  rcases h with ⟨h6, _⟩ | ⟨b', off', cap', h6, h7, h8, h9, _⟩
  · rw [h6] at h1; simp at h1
  · rw [h2] at h6
    simp only [Value.slice.injEq] at h6
    obtain ⟨_, h10, rfl⟩ := h6
    exact ⟨b, off, cap, h2, h3, by omega, h9, h5⟩
theorem poly_el {n : Int} {f : FP} (hf : fpn n = some f) {l : List Int} (h : PolyP n l) : ∃ a : List (El f), a.map (fun x => (x.val : Int)) = l ∧ a.length = l.length := by
  obtain ⟨a, ha⟩ := inp_el hf h.2.2
  exact ⟨a, ha, by rw [← ha, List.length_map]⟩
theorem polys_two {n : Int} {l1 l2 : List Int} (h : PolysP n [l1, l2]) : PolyP n l1 ∧ PolyP n l2 := ⟨h.2 0 (by simp), h.2 1 (by simp)⟩
theorem two_ints {w : World} {v1 v2 : Value} {l1 l2 : List Int} (h1 : Ints w v1 l1) (h2 : Ints w v2 l2) :
    (∀ i (h : i < [v1, v2].length), (w.alloc (.cells #[v1, v2] 22)).cell? ⟨w.heap.size, i, none⟩ = some [v1, v2][i]) ∧ (∀ i (h : i < [v1, v2].length) (h' : i < [l1, l2].length), Ints (w.alloc (.cells #[v1, v2] 22)) [v1, v2][i] [l1, l2][i]) := by
  have hb : Below w.heap.size w (w.alloc (.cells #[v1, v2] 22)) := (Below.refl _ _).alloc (Nat.le_refl _) _
  refine ⟨fun i h => ?_, fun i h h' => ?_⟩
  · match i, h with
    | 0, _ => simp
    | 1, _ => simp
  · match i, h, h' with
    | 0, _, _ => exact h1.later hb
    | 1, _, _ => exact h2.later hb

theorem trimL_le {f : FP} (l : List (El f)) : (trimL l).length ≤ l.length := by
  induction l with
  | nil => exact Nat.le_refl _
  | cons a t ih =>
    cases t with
    | nil => exact Nat.le_refl _
    | cons b t =>
      unfold trimL
      split
      · exact Nat.le_trans ih (by simp)
      · exact Nat.le_refl _
set_option maxHeartbeats 8000000 in
theorem fnmul_any (n : Int) (s1 s2 : Option Addr) (k1 c1 k2 c2 : Nat) (l1 l2 : List Int) (w : World) (hk1 : l1.length = k1) (hm1 : k1 ≤ maxLen) (hi1 : Ints w (.slice s1 k1 c1) l1) (hk2 : l2.length = k2) (hm2 : k2 ≤ maxLen) (hi2 : Ints w (.slice s2 k2 c2) l2) :
    Calls Try.prog 7 #[.int .i64 n, .slice s1 k1 c1, .slice s2 k2 c2] w (Yes w) := by
  have H1 := Lib.hid hi1
  have H2 := Lib.hid hi2
  obtain ⟨t1, t2⟩ := two_ints hi1 hi2
  have T1 := Lib.hid t1
  have T2 := Lib.hid t2
  have hb0 : Below w.heap.size w (w.alloc (.cells #[.slice s1 k1 c1, .slice s2 k2 c2] 22)) := (Below.refl _ _).alloc (Nat.le_refl _) _
  clear hi1 hi2 t1 t2
  unfold maxLen at hm1 hm2
  by_cases hg1 : (2147483647 : Int) < (k1 : Int)
  · clear hk1 hk2
    go_enter Try.func7, Try.ntmps7
    go_wp2
    go_ret
    exact ⟨rfl, Below.refl _ _⟩
  by_cases hg2 : (2147483647 : Int) < (k2 : Int)
  · clear hk1 hk2
    go_enter Try.func7, Try.ntmps7
    go_wp2
    go_ret
    exact ⟨rfl, Below.refl _ _⟩
  have hpol := Lib.hid (polys_any n w.heap.size 2 [.slice s1 k1 c1, .slice s2 k2 c2] [l1, l2] _ rfl rfl (by omega) T1.out T2.out)
  have hs0 : (w.alloc (.cells #[.slice s1 k1 c1, .slice s2 k2 c2] 22)).heap.size = w.heap.size + 1 := by simp
  by_cases hp : PolysP n [l1, l2]
  rotate_left
  · have HP := Lib.hid hp
    clear hk1 hk2 hp hs0
    go_enter Try.func7, Try.ntmps7
    go_wp2_with (first | (go_at_call 20; refine hpol.out.mono ?_; rintro e w1 ⟨b, rfl, hy, _, hb1⟩; have hbf : b = false := Bool.eq_false_iff.2 (fun h => HP.out (hy h)); clear hy; subst hbf) | (go_at_call 15; refine (works_any _).mono ?_; rintro e w2 ⟨rfl, hb2⟩))
    go_ret
    exact ⟨rfl, ext_trans (hb0.trans (hb1.mono hb0.size)) hb2⟩
  obtain ⟨p1, p2⟩ := polys_two hp
  obtain ⟨f, hf⟩ := inp_fp p1.2.2
  obtain ⟨a, ha, hal⟩ := poly_el hf p1
  obtain ⟨b, hb, hbl⟩ := poly_el hf p2
  have hea := Lib.hid (H1.out.elems ha p1.1)
  have heb := Lib.hid (H2.out.elems hb p2.1)
  have hlen : a.length + b.length ≤ 100000 := by have := p1.2.1; have := p2.2.1; omega
  have HP := Lib.hid hp
  clear hk1 hk2 hp p1 p2 ha hal hb hbl
  go_enter Try.func7, Try.ntmps7
  go_wp2_with (first
    | (go_at_call 20; refine hpol.out.mono ?_; rintro e w1 ⟨b', rfl, _, hy, hb1⟩; have hbf : b' = true := hy HP.out; clear hy; subst hbf; have hbw1 : Below w.heap.size w w1 := hb0.trans (hb1.mono hb0.size))
    | (go_at_call 26; refine (implmul_any n f hf _ _ a b _ (hea.out.later hbw1) (heb.out.later hbw1) hlen).mono ?_; rintro e w2 ⟨v3, l3, rfl, hv3, hn3, hp3, hb2⟩; have HP3 := Lib.hid hp3; have hn3' := trimL_nf l3 hn3.pos; clear hp3)
    | (go_at_call 22; refine (trim_any _ l3 _ hv3).mono ?_; rintro e w3 ⟨v4, rfl, hv4, rfl⟩)
    | (go_at_call 24; refine (product_any n f hf _ _ a b _ (hea.out.later (ext_trans hbw1 hb2)) (heb.out.later (ext_trans hbw1 hb2)) hlen).mono ?_; rintro e w5 ⟨v5, l5, rfl, hv5, hn5, hp5, hb5⟩; have HQ5 := Lib.hid hp5; clear hp5)
    | (go_at_call 17; refine (same_any _ _ (trimL l3) _ (hv4.later hb5).elems (by rw [nf_inj hn3' hn5 (by rw [trimL_ps, HP3.out, HQ5.out])]; exact hv5.elems)).mono ?_; rintro e w6 ⟨rfl, hb6⟩)
    | (go_at_call 15; refine (works_any _).mono ?_; rintro e w7 ⟨rfl, hb7⟩))
  go_ret
  exact ⟨rfl, ext_trans (ext_trans (ext_trans (ext_trans hbw1 hb2) hb5) hb6) hb7⟩

set_option maxHeartbeats 8000000 in
theorem fnadd_any (n : Int) (s1 s2 : Option Addr) (k1 c1 k2 c2 : Nat) (l1 l2 : List Int) (w : World) (hk1 : l1.length = k1) (hm1 : k1 ≤ maxLen) (hi1 : Ints w (.slice s1 k1 c1) l1) (hk2 : l2.length = k2) (hm2 : k2 ≤ maxLen) (hi2 : Ints w (.slice s2 k2 c2) l2) :
    Calls Try.prog 6 #[.int .i64 n, .slice s1 k1 c1, .slice s2 k2 c2] w (Yes w) := by
  have H1 := Lib.hid hi1
  have H2 := Lib.hid hi2
  obtain ⟨t1, t2⟩ := two_ints hi1 hi2
  have T1 := Lib.hid t1
  have T2 := Lib.hid t2
  have hb0 : Below w.heap.size w (w.alloc (.cells #[.slice s1 k1 c1, .slice s2 k2 c2] 22)) := (Below.refl _ _).alloc (Nat.le_refl _) _
  clear hi1 hi2 t1 t2
  unfold maxLen at hm1 hm2
  by_cases hg1 : (2147483647 : Int) < (k1 : Int)
  · clear hk1 hk2
    go_enter Try.func6, Try.ntmps6
    go_wp2
    go_ret
    exact ⟨rfl, Below.refl _ _⟩
  by_cases hg2 : (2147483647 : Int) < (k2 : Int)
  · clear hk1 hk2
    go_enter Try.func6, Try.ntmps6
    go_wp2
    go_ret
    exact ⟨rfl, Below.refl _ _⟩
  have hpol := Lib.hid (polys_any n w.heap.size 2 [.slice s1 k1 c1, .slice s2 k2 c2] [l1, l2] _ rfl rfl (by omega) T1.out T2.out)
  have hs0 : (w.alloc (.cells #[.slice s1 k1 c1, .slice s2 k2 c2] 22)).heap.size = w.heap.size + 1 := by simp
  by_cases hp : PolysP n [l1, l2]
  rotate_left
  · have HP := Lib.hid hp
    clear hk1 hk2 hp hs0
    go_enter Try.func6, Try.ntmps6
    go_wp2_with (first | (go_at_call 20; refine hpol.out.mono ?_; rintro e w1 ⟨b, rfl, hy, _, hb1⟩; have hbf : b = false := Bool.eq_false_iff.2 (fun h => HP.out (hy h)); clear hy; subst hbf) | (go_at_call 15; refine (works_any _).mono ?_; rintro e w2 ⟨rfl, hb2⟩))
    go_ret
    exact ⟨rfl, ext_trans (hb0.trans (hb1.mono hb0.size)) hb2⟩
  obtain ⟨p1, p2⟩ := polys_two hp
  obtain ⟨f, hf⟩ := inp_fp p1.2.2
  obtain ⟨a, ha, hal⟩ := poly_el hf p1
  obtain ⟨b, hb, hbl⟩ := poly_el hf p2
  have hea := Lib.hid (H1.out.elemsC ha p1.1)
  have heb := Lib.hid (H2.out.elemsC hb p2.1)
  have hlen : a.length + b.length ≤ 100000 := by have := p1.2.1; have := p2.2.1; omega
  have hlen2 : (trimL a).length + (trimL b).length ≤ 100000 := by have := trimL_le a; have := trimL_le b; omega
  have HP := Lib.hid hp
  clear hk1 hk2 hp p1 p2 ha hal hb hbl
  go_enter Try.func6, Try.ntmps6
  go_wp2_with (first
    | (go_at_call 20; refine hpol.out.mono ?_; rintro e w1 ⟨b', rfl, _, hy, hb1⟩; have hbf : b' = true := hy HP.out; clear hy; subst hbf; have hbw1 : Below w.heap.size w w1 := hb0.trans (hb1.mono hb0.size))
    | (go_at_call 25; refine (impladd_any n f hf _ _ a b _ (hea.out.elems.later hbw1) (heb.out.elems.later hbw1) hlen).mono ?_; rintro e w2 ⟨v3, l3, rfl, hv3, hn3, hp3, hb2⟩; have HP3 := Lib.hid hp3; have hn3' := trimL_nf l3 hn3.pos; have hbw2 := ext_trans hbw1 hb2; clear hp3)
    | (go_at_call 22; (with_reducible show Calls Try.prog 22 #[v3] _ _); refine (trim_any v3 l3 _ hv3).mono ?_; rintro e w3 ⟨v4, rfl, hv4, rfl⟩)
    | (go_at_call 22; (with_reducible show Calls Try.prog 22 #[.slice s1 k1 c1] _ _); refine (trim_any (.slice s1 k1 c1) a _ (hea.out.later hbw2)).mono ?_; rintro e w3 ⟨v41, rfl, hv41, rfl⟩)
    | (go_at_call 22; (with_reducible show Calls Try.prog 22 #[.slice s2 k2 c2] _ _); refine (trim_any (.slice s2 k2 c2) b _ (heb.out.later hbw2)).mono ?_; rintro e w3 ⟨v42, rfl, hv42, rfl⟩)
    | (go_at_call 23; refine (specadd_any _ _ (trimL a) (trimL b) _ hv41.elems hv42.elems hlen2).mono ?_; rintro e w5 ⟨v5, l5, rfl, hv5, hn5, hp5, hb5⟩; have HQ5 := Lib.hid hp5; clear hp5)
    | (go_at_call 17; refine (same_any _ _ (trimL l3) _ (hv4.later hb5).elems (by rw [nf_inj hn3' hn5 (by rw [trimL_ps, HP3.out, HQ5.out, trimL_ps, trimL_ps])]; exact hv5.elems)).mono ?_; rintro e w6 ⟨rfl, hb6⟩)
    | (go_at_call 15; refine (works_any _).mono ?_; rintro e w7 ⟨rfl, hb7⟩))
  go_ret
  exact ⟨rfl, ext_trans (ext_trans (ext_trans (ext_trans hbw1 hb2) hb5) hb6) hb7⟩
end Go.Proofs.Ytjgclomokekogaa
