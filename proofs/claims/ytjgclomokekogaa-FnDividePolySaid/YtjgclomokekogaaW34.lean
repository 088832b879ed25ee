/- The thin package's sums, products and multiples of polynomials. -/
import Derived.Test.YtjgclomokekogaaW33
namespace Go.Proofs.Ytjgclomokekogaa
open Go.RowKit Rs

theorem one_any (c k : Nat) (x : Value) (w : World) (h : w.cell? ⟨c, 0, none⟩ = some x) :
    Calls Try.prog 46 #[.slice (some ⟨c, 0, none⟩) 1 k] w fun e w' => e = .returned x ∧ w' = w := by
  go_enter Try.func46, Try.ntmps46
  go_wp2
  go_ret
  exact ⟨rfl, rfl⟩
theorem own_at {w : World} {B T n c k : Nat} {xs : List Value} (h : w.ownsRow B T 1 (.slice (some ⟨c, 0, none⟩) n k) n xs) (i : Nat) (hi : i < xs.length) : w.cell? ⟨c, i, none⟩ = some xs[i] := by
  rcases h.2 with ⟨h1, _⟩ | ⟨g, cap, cur, h1, _, hg, _, _, _, ht⟩
  · simp at h1
  · simp only [Value.slice.injEq, Option.some.injEq, Addr.mk.injEq, and_true, true_and] at h1
    obtain ⟨rfl, rfl⟩ := h1
    rw [cell_of_row w c i _ T (0, 0) hg, ← Array.getElem?_toList]
    have h2 : xs[i]? = some xs[i] := List.getElem?_eq_getElem hi
    have h3 : (cur.toList.take (n * 1))[i]? = some xs[i] := by rw [ht]; exact h2
    rw [List.getElem?_take] at h3
    split at h3
    · exact h3
    · simp at h3
theorem own_elemsC {f : FP} {w : World} {B : Nat} {y : Value} {l : List (El f)} (h : w.ownsRow B 3 1 y l.length (vs l)) (h1 : 1 ≤ l.length) : ElemsC w y l := by
  obtain ⟨c, cap, rfl, h2, h3, h4⟩ := own_shape h (by omega)
  obtain ⟨r, hr⟩ := own_blkr h
  have hm : cap ≤ maxLen := by
    rcases h.2 with ⟨h5, _⟩ | ⟨g, cap', cur, h5, _, _, _, h6, _⟩
    · simp at h5
    · simp only [Value.slice.injEq, Option.some.injEq, Addr.mk.injEq, and_true, true_and] at h5
      obtain ⟨_, rfl⟩ := h5; exact h6
  exact ⟨c, 0, cap, rfl, h1, h4, hm, hr.cells'⟩
/-- The only polynomial of a list. -/
theorem one_of {f : FP} {P : Ps (El f)} {w w' : World} {e : Ending} (h : PolyRes (OneP P) w e w') : ∃ c k, ∃ x, e = .returned (.slice (some ⟨c, 0, none⟩) 1 k) ∧ w'.cell? ⟨c, 0, none⟩ = some x ∧ Hid (ProdR P w (.returned x) w') := by
  obtain ⟨v, xs, ls, rfl, ⟨l, rfl, hn, hp⟩, hv, hown, hxl, hall, hb⟩ := h
  rcases hv with rfl | ⟨c, k, rfl⟩
  · rcases hown.2 with ⟨_, h2⟩ | ⟨_, _, _, h2, _⟩
    · simp at h2
    · simp at h2
  · simp only [List.length_cons, List.length_nil] at hxl hown ⊢
    have h0 : 0 < xs.length := by omega
    refine ⟨c, k, xs[0], rfl, own_at hown 0 h0, xs[0], l, rfl, ?_, hn, hp, hb⟩
    exact own_elemsC (hall 0 h0 (by simp)) hn.pos

set_option maxHeartbeats 2000000 in
theorem implmul_any (n : Int) (f : FP) (hf : fpn n = some f) (va vb : Value) (a b : List (El f)) (w : World) (ha : Elems w va a) (hb : Elems w vb b) (hd : a.length + b.length ≤ 100000) :
    Calls Try.prog 26 #[.int .i64 n, va, vb] w (ProdR (ps a * ps b) w) := by
  obtain ⟨ba, oa, ca, rfl, hapos, hma, ha⟩ := ha
  obtain ⟨bb, ob, cb, rfl, hbpos, hmb, hb⟩ := hb
  have hpoly := Lib.hid (poly_any n f hf 50 #[] a b ba oa a.length ca bb ob b.length cb (OneP (ps a * ps b)) w ha rfl hapos (by omega) hb rfl hbpos (by omega) (fun _ _ _ _ => rfl)
    (fun g w1 x y la lb _ hg hx hpx hlx hy hpy hly => cb_mul g x y a b la lb w1 hg hx hpx hy hpy (by omega)))
  clear ha hb
  go_enter Try.func26, Try.ntmps26
  go_wp2_with (first | (go_at_call 43; refine hpoly.out.mono ?_; intro e w1 hr; obtain ⟨c, k, x, rfl, hx, HF⟩ := one_of hr; clear hr) | (go_at_call 46; refine (one_any c k x _ hx).mono ?_; rintro e w2 ⟨rfl, rfl⟩))
  go_ret
  exact HF.out
set_option maxHeartbeats 2000000 in
theorem impladd_any (n : Int) (f : FP) (hf : fpn n = some f) (va vb : Value) (a b : List (El f)) (w : World) (ha : Elems w va a) (hb : Elems w vb b) (hd : a.length + b.length ≤ 100000) :
    Calls Try.prog 25 #[.int .i64 n, va, vb] w (ProdR (ps a + ps b) w) := by
  obtain ⟨ba, oa, ca, rfl, hapos, hma, ha⟩ := ha
  obtain ⟨bb, ob, cb, rfl, hbpos, hmb, hb⟩ := hb
  have hpoly := Lib.hid (poly_any n f hf 47 #[] a b ba oa a.length ca bb ob b.length cb (OneP (ps a + ps b)) w ha rfl hapos (by omega) hb rfl hbpos (by omega) (fun _ _ _ _ => rfl)
    (fun g w1 x y la lb _ hg hx hpx hlx hy hpy hly => cb_add g x y a b la lb w1 hx hpx hy hpy))
  clear ha hb
  go_enter Try.func25, Try.ntmps25
  go_wp2_with (first | (go_at_call 43; refine hpoly.out.mono ?_; intro e w1 hr; obtain ⟨c, k, x, rfl, hx, HF⟩ := one_of hr; clear hr) | (go_at_call 46; refine (one_any c k x _ hx).mono ?_; rintro e w2 ⟨rfl, rfl⟩))
  go_ret
  exact HF.out
theorem zero_cells {f : FP} (w : World) : Cells (w.alloc (.cells #[.int .i64 0] 3)) w.heap.size 0 [(0 : El f)] := fun k hk => by
  have hk0 : k = 0 := by simp at hk; omega
  subst hk0
  have h1 : ((0 : El f).val : Int) = 0 := by rw [El.zero_val]; rfl
  simp [h1]
set_option maxHeartbeats 4000000 in
theorem implscale_any (n : Int) (f : FP) (hf : fpn n = some f) (va : Value) (a : List (El f)) (x : El f) (w : World) (ha : Elems w va a) (hd : a.length ≤ 100000) :
    Calls Try.prog 28 #[.int .i64 n, va, .int .i64 x.val] w (ProdR (mon x 0 * ps a) w) := by
  obtain ⟨ba, oa, ca, rfl, hapos, hma, ha⟩ := ha
  have hb0 : Below w.heap.size w (w.alloc (.cells #[.int .i64 x.val] 3)) := (Below.refl _ _).alloc (Nat.le_refl _) _
  have hb1 : Below w.heap.size w ((w.alloc (.cells #[.int .i64 x.val] 3)).alloc (.cells #[.int .i64 0] 3)) := hb0.alloc (by simp) _
  have hx0 : (w.alloc (.cells #[.int .i64 x.val] 3)).cell? ⟨w.heap.size, 0, none⟩ = some (.int .i64 x.val) := by simp
  have hx1 := cell_later ((Below.refl (w.alloc (.cells #[.int .i64 x.val] 3)).heap.size (w.alloc (.cells #[.int .i64 x.val] 3))).alloc (Nat.le_refl _) (.cells #[.int .i64 0] 3)) hx0
  have hz := zero_cells (f := f) (w.alloc (.cells #[.int .i64 x.val] 3))
  rw [heap_size_alloc] at hz
  have hpoly := Lib.hid (poly_any n f hf 54 #[.pointer (some ⟨w.heap.size, 0, none⟩)] a [(0 : El f)] ba oa a.length ca (w.heap.size + 1) 0 1 1 (OneP (mon x 0 * ps a)) _ (ha.later hb1) rfl hapos hd hz rfl (by omega) (by omega) (fun _ _ _ _ => rfl)
    (fun g w1 p y la lb hbw hg hx hpx _ _ _ _ => cb_scale g p y w.heap.size x a la w1 hg hx hpx (cell_later hbw hx1)))
  have hs1 : ((w.alloc (.cells #[.int .i64 x.val] 3)).alloc (.cells #[.int .i64 0] 3)).heap.size = w.heap.size + 2 := by simp
  clear ha hx0 hx1 hz hb0
  go_enter Try.func28, Try.ntmps28
  go_wp2_with (first | (go_at_call 43; refine hpoly.out.mono ?_; intro e w1 hr; obtain ⟨c, k, x, rfl, hx, HF⟩ := one_of hr; clear hr) | (go_at_call 46; refine (one_any c k x _ hx).mono ?_; rintro e w2 ⟨rfl, rfl⟩))
  go_ret
  obtain ⟨v, l, h1, h2, h3, h4, h5⟩ := HF.out
  exact ⟨v, l, h1, h2, h3, h4, hb1.trans (h5.mono (by omega))⟩
set_option maxHeartbeats 4000000 in
theorem implmono_any (n : Int) (f : FP) (hf : fpn n = some f) (va : Value) (a : List (El f)) (d : Nat) (x : El f) (w : World) (ha : Elems w va a) (hd : a.length + d ≤ 10000) :
    Calls Try.prog 27 #[.int .i64 n, va, .int .i64 d, .int .i64 x.val] w (ProdR (mon x d * ps a) w) := by
  obtain ⟨ba, oa, ca, rfl, hapos, hma, ha⟩ := ha
  have hdd : ¬ (10000 : Int) < (d : Int) := by omega
  have hbd : Below w.heap.size w (w.alloc (.cells #[.int .i64 d] 3)) := (Below.refl _ _).alloc (Nat.le_refl _) _
  have hb0 : Below w.heap.size w ((w.alloc (.cells #[.int .i64 d] 3)).alloc (.cells #[.int .i64 x.val] 3)) := hbd.alloc (by simp) _
  have hb1 : Below w.heap.size w (((w.alloc (.cells #[.int .i64 d] 3)).alloc (.cells #[.int .i64 x.val] 3)).alloc (.cells #[.int .i64 0] 3)) := hb0.alloc (by simp; omega) _
  have hd0 : (w.alloc (.cells #[.int .i64 d] 3)).cell? ⟨w.heap.size, 0, none⟩ = some (.int .i64 d) := by simp
  have hd1 := cell_later ((Below.refl (w.alloc (.cells #[.int .i64 d] 3)).heap.size (w.alloc (.cells #[.int .i64 d] 3))).alloc (Nat.le_refl _) (.cells #[.int .i64 x.val] 3)) hd0
  have hd2 := cell_later ((Below.refl ((w.alloc (.cells #[.int .i64 d] 3)).alloc (.cells #[.int .i64 x.val] 3)).heap.size ((w.alloc (.cells #[.int .i64 d] 3)).alloc (.cells #[.int .i64 x.val] 3))).alloc (Nat.le_refl _) (.cells #[.int .i64 0] 3)) hd1
  have hx0 : ((w.alloc (.cells #[.int .i64 d] 3)).alloc (.cells #[.int .i64 x.val] 3)).cell? ⟨w.heap.size + 1, 0, none⟩ = some (.int .i64 x.val) := by
    have := World.cell?_alloc_new (w := w.alloc (.cells #[.int .i64 d] 3)) #[.int .i64 x.val] 3 0
    rw [heap_size_alloc] at this; exact this
  have hx1 := cell_later ((Below.refl ((w.alloc (.cells #[.int .i64 d] 3)).alloc (.cells #[.int .i64 x.val] 3)).heap.size ((w.alloc (.cells #[.int .i64 d] 3)).alloc (.cells #[.int .i64 x.val] 3))).alloc (Nat.le_refl _) (.cells #[.int .i64 0] 3)) hx0
  have hz := zero_cells (f := f) ((w.alloc (.cells #[.int .i64 d] 3)).alloc (.cells #[.int .i64 x.val] 3))
  rw [heap_size_alloc, heap_size_alloc] at hz
  have hpoly := Lib.hid (poly_any n f hf 52 #[.pointer (some ⟨w.heap.size, 0, none⟩), .pointer (some ⟨w.heap.size + 1, 0, none⟩)] a [(0 : El f)] ba oa a.length ca (w.heap.size + 1 + 1) 0 1 1 (OneP (mon x d * ps a)) _ (ha.later hb1) rfl hapos (by omega) hz rfl (by omega) (by omega) (fun _ _ _ _ => rfl)
    (fun g w1 p y la lb hbw hg hx hpx hlx _ _ _ => cb_mono g p y w.heap.size (w.heap.size + 1) d x a la w1 hg hx hpx (by omega) (cell_later hbw hd2) (cell_later hbw hx1)))
  have hs1 : (((w.alloc (.cells #[.int .i64 d] 3)).alloc (.cells #[.int .i64 x.val] 3)).alloc (.cells #[.int .i64 0] 3)).heap.size = w.heap.size + 3 := by simp
  have hdc := hd1
  clear ha hx0 hx1 hz hb0 hd0 hd2
  go_enter Try.func27, Try.ntmps27
  go_wp2_with (first | (go_at_call 43; refine hpoly.out.mono ?_; intro e w1 hr; obtain ⟨c, k, x, rfl, hx, HF⟩ := one_of hr; clear hr) | (go_at_call 46; refine (one_any c k x _ hx).mono ?_; rintro e w2 ⟨rfl, rfl⟩))
  go_ret
  obtain ⟨v, l, h1, h2, h3, h4, h5⟩ := HF.out
  exact ⟨v, l, h1, h2, h3, h4, hb1.trans (h5.mono (by omega))⟩
end Go.Proofs.Ytjgclomokekogaa
