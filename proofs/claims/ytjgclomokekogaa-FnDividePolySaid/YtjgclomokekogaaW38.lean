/- The statements about multiples of polynomials: their walks. -/
import Derived.Test.YtjgclomokekogaaW37
namespace Go.Proofs.Ytjgclomokekogaa
open Go.RowKit Rs

theorem one_ints {w : World} {v1 : Value} {l1 : List Int} (h1 : Ints w v1 l1) :
    (∀ i (h : i < [v1].length), (w.alloc (.cells #[v1] 22)).cell? ⟨w.heap.size, i, none⟩ = some [v1][i]) ∧ (∀ i (h : i < [v1].length) (h' : i < [l1].length), Ints (w.alloc (.cells #[v1] 22)) [v1][i] [l1][i]) := by
  have hb : Below w.heap.size w (w.alloc (.cells #[v1] 22)) := (Below.refl _ _).alloc (Nat.le_refl _) _
  refine ⟨fun i h => ?_, fun i h h' => ?_⟩
  · match i, h with
    | 0, _ => simp
  · match i, h, h' with
    | 0, _, _ => exact h1.later hb
theorem lit_ints (w : World) (x : Int) : Ints (w.alloc (.cells #[.int .i64 x] 3)) (.slice (some ⟨w.heap.size, 0, none⟩) 1 1) [x] := by
  refine Or.inr ⟨w.heap.size, 0, 1, rfl, by simp, by simp, by unfold maxLen; omega, fun j hj => ?_⟩
  have h0 : j = 0 := by simp at hj; omega
  subst h0; simp
theorem lit_elems {f : FP} (w : World) (x : El f) : Elems (w.alloc (.cells #[.int .i64 x.val] 3)) (.slice (some ⟨w.heap.size, 0, none⟩) 1 1) [x] := by
  refine ⟨w.heap.size, 0, 1, rfl, by simp, by unfold maxLen; simp, fun j hj => ?_⟩
  have h0 : j = 0 := by simp at hj; omega
  subst h0; simp
theorem polys_one {n : Int} {l1 : List Int} (h : PolysP n [l1]) : PolyP n l1 := h.2 0 (by simp)
theorem in_one {n x : Int} {f : FP} (hf : fpn n = some f) (h : InP n [x]) : ∃ c : El f, (c.val : Int) = x := by
  obtain ⟨l, hl⟩ := inp_el hf h
  match l, hl with
  | [c], hl => exact ⟨c, by simpa using hl⟩
theorem below_make (w : World) (o : Obj) : Below w.heap.size w (w.alloc o) := (Below.refl _ _).alloc (Nat.le_refl _) _

set_option maxHeartbeats 8000000 in
theorem fnscale_any (n x : Int) (s1 : Option Addr) (k1 c1 : Nat) (l1 : List Int) (w : World) (hk1 : l1.length = k1) (hm1 : k1 ≤ maxLen) (hi1 : Ints w (.slice s1 k1 c1) l1) :
    Calls Try.prog 9 #[.int .i64 n, .slice s1 k1 c1, .int .i64 x] w (Yes w) := by
  have H1 := Lib.hid hi1
  obtain ⟨t1, t2⟩ := one_ints hi1
  have T1 := Lib.hid t1
  have T2 := Lib.hid t2
  have hb0 : Below w.heap.size w (w.alloc (.cells #[.slice s1 k1 c1] 22)) := below_make w _
  clear hi1 t1 t2
  unfold maxLen at hm1
  by_cases hg1 : (2147483647 : Int) < (k1 : Int)
  · clear hk1
    go_enter Try.func9, Try.ntmps9
    go_wp2
    go_ret
    exact ⟨rfl, Below.refl _ _⟩
  have hpol := Lib.hid (polys_any n w.heap.size 1 [.slice s1 k1 c1] [l1] _ rfl rfl (by omega) T1.out T2.out)
  by_cases hp : PolysP n [l1]
  rotate_left
  · have HP := Lib.hid hp
    clear hk1 hp
    go_enter Try.func9, Try.ntmps9
    go_wp2_with (first | (go_at_call 20; refine hpol.out.mono ?_; rintro e w1 ⟨b, rfl, hy, _, hb1⟩; have hbf : b = false := Bool.eq_false_iff.2 (fun h => HP.out (hy h)); clear hy; subst hbf) | (go_at_call 15; refine (works_any _).mono ?_; rintro e w2 ⟨rfl, hb2⟩))
    go_ret
    exact ⟨rfl, ext_trans (hb0.trans (hb1.mono hb0.size)) hb2⟩
  by_cases hin : InP n [x]
  rotate_left
  · have HP := Lib.hid hp
    have HI := Lib.hid hin
    clear hk1 hp hin
    go_enter Try.func9, Try.ntmps9
    go_wp2_with (first
      | (go_at_call 20; refine hpol.out.mono ?_; rintro e w1 ⟨b', rfl, _, hy, hb1⟩; have hbf : b' = true := hy HP.out; clear hy; subst hbf; have hbw1 : Below w.heap.size w w1 := hb0.trans (hb1.mono hb0.size))
      | (go_at_call 14; refine (in_any n _ [x] _ (lit_ints w1 x) (by simp)).mono ?_; rintro e w2 ⟨b, rfl, hy, _, hb2⟩; have hbf : b = false := Bool.eq_false_iff.2 (fun h => HI.out (hy h)); clear hy; subst hbf; have hbw2 : Below w.heap.size w w2 := (ext_trans hbw1 (below_make w1 _)).trans (hb2.mono (ext_trans hbw1 (below_make w1 _)).size))
      | (go_at_call 15; refine (works_any _).mono ?_; rintro e w3 ⟨rfl, hb3⟩))
    go_ret
    exact ⟨rfl, ext_trans hbw2 hb3⟩
  have p1 := polys_one hp
  obtain ⟨f, hf⟩ := inp_fp p1.2.2
  obtain ⟨a, ha, hal⟩ := poly_el hf p1
  obtain ⟨c, rfl⟩ := in_one hf hin
  have hea := Lib.hid (H1.out.elems ha p1.1)
  have hlen : a.length + [c].length ≤ 100000 := by have := p1.2.1; simp; omega
  have hlen1 : a.length ≤ 100000 := by have := p1.2.1; omega
  have HP := Lib.hid hp
  have HI := Lib.hid hin
  clear hk1 hp hin p1 ha hal
  go_enter Try.func9, Try.ntmps9
  go_wp2_with (first
    | (go_at_call 20; refine hpol.out.mono ?_; rintro e w1 ⟨b', rfl, _, hy, hb1⟩; have hbf : b' = true := hy HP.out; clear hy; subst hbf; have hbw1 : Below w.heap.size w w1 := hb0.trans (hb1.mono hb0.size))
    | (go_at_call 14; refine (in_any n _ [(c.val : Int)] _ (lit_ints w1 c.val) (by simp)).mono ?_; rintro e w2 ⟨b, rfl, _, hy, hb2⟩; have hbf : b = true := hy HI.out; clear hy; subst hbf; have hbw2 : Below w.heap.size w w2 := (ext_trans hbw1 (below_make w1 _)).trans (hb2.mono (ext_trans hbw1 (below_make w1 _)).size))
    | (go_at_call 28; refine (implscale_any n f hf _ a c _ (hea.out.later hbw2) hlen1).mono ?_; rintro e w3 ⟨v3, l3, rfl, hv3, hn3, hp3, hb3⟩; have HP3 := Lib.hid hp3; have hn3' := trimL_nf l3 hn3.pos; clear hp3; have hbw3 := ext_trans hbw2 hb3)
    | (go_at_call 22; refine (trim_any _ l3 _ hv3).mono ?_; rintro e w4 ⟨v4, rfl, hv4, rfl⟩)
    | (go_at_call 24; refine (product_any n f hf _ _ a [c] _ (hea.out.later (ext_trans hbw3 (below_make _ _))) (lit_elems _ c) hlen).mono ?_; rintro e w5 ⟨v5, l5, rfl, hv5, hn5, hp5, hb5⟩; have HQ5 := Lib.hid hp5; clear hp5; have hb35 := (below_make _ _).trans (hb5.mono (below_make _ _).size))
    | (go_at_call 17; refine (same_any _ _ (trimL l3) _ (hv4.later hb35).elems (by rw [nf_inj hn3' hn5 (by rw [trimL_ps, HP3.out, HQ5.out, ps_singleton, Ring2.mul_comm])]; exact hv5.elems)).mono ?_; rintro e w6 ⟨rfl, hb6⟩)
    | (go_at_call 15; refine (works_any _).mono ?_; rintro e w7 ⟨rfl, hb7⟩))
  go_ret
  exact ⟨rfl, ext_trans (ext_trans (ext_trans hbw3 hb35) hb6) hb7⟩
end Go.Proofs.Ytjgclomokekogaa
