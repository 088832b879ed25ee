/- The functions of polynomials that the thin package hands on. -/
import Derived.Test.YtjgclomokekogaaW32
namespace Go.Proofs.Ytjgclomokekogaa
open Go.RowKit Rs

/-- One polynomial without noughts ahead. -/
def OneP {f : FP} (P : Ps (El f)) (ls : List (List (El f))) : Prop := ∃ l, ls = [l] ∧ Nf l ∧ ps l = P
theorem one_cb {f : FP} {g q : Nat} {l : List (El f)} {P : Ps (El f)} {w w1 : World} (hb : Below w.heap.size w w1) (h : IsPoly w1 g q l) (hp : ps l = P) :
    CbR g (OneP P) w (.returned (.slice (some ⟨w1.heap.size, 0, none⟩) 1 1)) (w1.alloc (.cells #[.pointer (some ⟨q, 0, none⟩)] 61)) := by
  have hbe : Below w1.heap.size w1 (w1.alloc (.cells #[.pointer (some ⟨q, 0, none⟩)] 61)) := (Below.refl _ _).alloc (Nat.le_refl _) _
  refine ⟨hb.trans (hbe.mono hb.size), Or.inr ⟨w1.heap.size, 1, 1, [q], [l], rfl, rfl, by omega, by omega, ⟨rfl, fun i h1 h2 => ?_⟩, l, rfl, h.1, hp⟩⟩
  have hi : i = 0 := by simp at h1; omega
  subst hi
  exact ⟨by simp, h.later hbe⟩

theorem single_any (q : Nat) (w : World) :
    Calls Try.prog 48 #[.pointer (some ⟨q, 0, none⟩), .nilIface] w fun e w' => e = .returned (.slice (some ⟨w.heap.size, 0, none⟩) 1 1) ∧ w' = w.alloc (.cells #[.pointer (some ⟨q, 0, none⟩)] 61) := by
  go_enter Try.func48, Try.ntmps48
  go_wp2
  go_ret
  exact ⟨rfl, rfl⟩

set_option maxHeartbeats 2000000 in
theorem cb_add {f : FP} (g x y : Nat) (a b la lb : List (El f)) (w : World) (hx : IsPoly w g x la) (hpx : ps la = ps a) (hy : IsPoly w g y lb) (hpy : ps lb = ps b) :
    Calls Try.prog 47 (CbA g x y #[]) w (CbR g (OneP (ps a + ps b)) w) := by
  unfold CbA
  simp only [Array.append_empty]
  rw [← hpx, ← hpy]
  clear hpx hpy
  go_enter Try.func47, Try.ntmps47
  go_wp2_with (first | (go_at_call 49; refine (add_any g x y la lb _ hx hy).mono ?_; rintro e w1 ⟨q, l, rfl, hq, hp, _, hb⟩; have HF := Lib.hid (one_cb hb hq hp); clear hp) | (go_at_call 48; refine (single_any q _).mono ?_; rintro e w2 ⟨rfl, rfl⟩))
  go_ret
  exact HF.out
set_option maxHeartbeats 2000000 in
theorem cb_mul {f : FP} (g x y : Nat) (a b la lb : List (El f)) (w : World) (hg : IsGF w f g) (hx : IsPoly w g x la) (hpx : ps la = ps a) (hy : IsPoly w g y lb) (hpy : ps lb = ps b) (hl : la.length + lb.length ≤ 100000) :
    Calls Try.prog 50 (CbA g x y #[]) w (CbR g (OneP (ps a * ps b)) w) := by
  unfold CbA
  simp only [Array.append_empty]
  rw [← hpx, ← hpy]
  clear hpx hpy
  go_enter Try.func50, Try.ntmps50
  go_wp2_with (first | (go_at_call 51; refine (mulpoly_any g x y la lb _ hg hx hy hl).mono ?_; rintro e w1 ⟨q, l, rfl, hq, hp, _, hb⟩; have HF := Lib.hid (one_cb hb hq hp); clear hp) | (go_at_call 48; refine (single_any q _).mono ?_; rintro e w2 ⟨rfl, rfl⟩))
  go_ret
  exact HF.out
set_option maxHeartbeats 2000000 in
theorem cb_mono {f : FP} (g x y D E d : Nat) (c : El f) (a la : List (El f)) (w : World) (hg : IsGF w f g) (hx : IsPoly w g x la) (hpx : ps la = ps a) (hl : la.length + d ≤ 100000)
    (hD : w.cell? ⟨D, 0, none⟩ = some (.int .i64 d)) (hE : w.cell? ⟨E, 0, none⟩ = some (.int .i64 c.val)) :
    Calls Try.prog 52 (CbA g x y #[.pointer (some ⟨D, 0, none⟩), .pointer (some ⟨E, 0, none⟩)]) w (CbR g (OneP (mon c d * ps a)) w) := by
  unfold CbA
  rw [← hpx]
  clear hpx
  show Calls Try.prog 52 #[.pointer (some ⟨g, 0, none⟩), .pointer (some ⟨x, 0, none⟩), .pointer (some ⟨y, 0, none⟩), .pointer (some ⟨D, 0, none⟩), .pointer (some ⟨E, 0, none⟩)] w _
  go_enter Try.func52, Try.ntmps52
  go_wp2_with (first | (go_at_call 53; refine (bymono_any g x d c la _ hg hx hl).mono ?_; rintro e w1 ⟨q, l, rfl, hq, hp, _, hb⟩; have HF := Lib.hid (one_cb hb hq hp); clear hp) | (go_at_call 48; refine (single_any q _).mono ?_; rintro e w2 ⟨rfl, rfl⟩))
  go_ret
  exact HF.out
set_option maxHeartbeats 2000000 in
theorem cb_scale {f : FP} (g x y E : Nat) (c : El f) (a la : List (El f)) (w : World) (hg : IsGF w f g) (hx : IsPoly w g x la) (hpx : ps la = ps a)
    (hE : w.cell? ⟨E, 0, none⟩ = some (.int .i64 c.val)) :
    Calls Try.prog 54 (CbA g x y #[.pointer (some ⟨E, 0, none⟩)]) w (CbR g (OneP (mon c 0 * ps a)) w) := by
  unfold CbA
  rw [← hpx]
  clear hpx
  show Calls Try.prog 54 #[.pointer (some ⟨g, 0, none⟩), .pointer (some ⟨x, 0, none⟩), .pointer (some ⟨y, 0, none⟩), .pointer (some ⟨E, 0, none⟩)] w _
  go_enter Try.func54, Try.ntmps54
  go_wp2_with (first | (go_at_call 55; refine (scale_any g x c la _ hg hx).mono ?_; rintro e w1 ⟨q, l, rfl, hq, hp, _, hb⟩; have HF := Lib.hid (one_cb hb hq hp); clear hp) | (go_at_call 48; refine (single_any q _).mono ?_; rintro e w2 ⟨rfl, rfl⟩))
  go_ret
  exact HF.out

/-- What the thin package hands back of a function of polynomials. -/
def PolyRes {f : FP} (R : List (List (El f)) → Prop) (w : World) (e : Ending) (w' : World) : Prop :=
  ∃ v xs, ∃ ls : List (List (El f)), e = .returned v ∧ R ls ∧ (v = .slice none 0 0 ∨ ∃ c k, v = .slice (some ⟨c, 0, none⟩) ls.length k) ∧ w'.ownsRow w.heap.size 22 1 v ls.length xs ∧ xs.length = ls.length ∧
    (∀ i (h : i < xs.length) (h' : i < ls.length), w'.ownsRow w.heap.size 3 1 xs[i] ls[i].length (vs ls[i])) ∧ Below w.heap.size w w'

theorem own_set {w : World} {B T m ty : Nat} {y : Value} {ys : List Value} (h : w.ownsRow B ty 1 y m ys) (hT : T < B) (u : Value) : (w.setCell ⟨T, 0, none⟩ u).ownsRow B ty 1 y m ys := by
  refine h.kept (grown_setCell w ⟨T, 0, none⟩ u) ?_
  rcases h.2 with ⟨rfl, _⟩ | ⟨g, cap, cur, rfl, hg, _⟩
  · exact Or.inl rfl
  · refine Or.inr fun e => ?_
    simp only [Value.ownBlock, Option.some.injEq] at e
    omega
theorem quad_cells (w : World) (a b c d : Array Value) (ta tb tc td : TypeId) :
    ((((w.alloc (.cells a ta)).alloc (.cells b tb)).alloc (.cells c tc)).alloc (.cells d td)).heap[w.heap.size]? = some (.cells a ta (0, 0)) ∧
    ((((w.alloc (.cells a ta)).alloc (.cells b tb)).alloc (.cells c tc)).alloc (.cells d td)).heap[w.heap.size + 1]? = some (.cells b tb (0, 0)) ∧
    ((((w.alloc (.cells a ta)).alloc (.cells b tb)).alloc (.cells c tc)).alloc (.cells d td)).heap[w.heap.size + 1 + 1]? = some (.cells c tc (0, 0)) ∧
    ((((w.alloc (.cells a ta)).alloc (.cells b tb)).alloc (.cells c tc)).alloc (.cells d td)).heap[w.heap.size + 1 + 1 + 1]? = some (.cells d td (0, 0)) := by
  have hA := heap_alloc_new w (.cells a ta)
  have hB := heap_alloc_new (w.alloc (.cells a ta)) (.cells b tb)
  have hC := heap_alloc_new ((w.alloc (.cells a ta)).alloc (.cells b tb)) (.cells c tc)
  have hD := heap_alloc_new (((w.alloc (.cells a ta)).alloc (.cells b tb)).alloc (.cells c tc)) (.cells d td)
  rw [heap_size_alloc] at hB
  rw [heap_size_alloc, heap_size_alloc] at hC
  rw [heap_size_alloc, heap_size_alloc, heap_size_alloc] at hD
  have k : ∀ (w : World) (o : Obj) (i : Nat) (x : Obj), w.heap[i]? = some x → (w.alloc o).heap[i]? = some x := fun w o i x h => by
    rw [((Below.refl w.heap.size w).alloc (Nat.le_refl _) o).block i (Array.getElem?_eq_some_iff.1 h).1]; exact h
  exact ⟨k _ _ _ _ (k _ _ _ _ (k _ _ _ _ hA)), k _ _ _ _ (k _ _ _ _ hB), k _ _ _ _ hC, hD⟩
theorem outs_end {f : FP} {w wq w5 : World} {O T : Nat} {ls : List (List (El f))} {R : List (List (El f)) → Prop} {v u : Value} {xs : List Value} (hR : R ls) (hOv : OutV w5 O v) (hv : v = .slice none 0 0 ∨ ∃ c k, v = .slice (some ⟨c, 0, none⟩) ls.length k)
    (hown : w5.ownsRow wq.heap.size 22 1 v ls.length xs) (hxl : xs.length = ls.length) (hall : ∀ j (h : j < xs.length) (h' : j < ls.length), w5.ownsRow wq.heap.size 3 1 xs[j] ls[j].length (vs ls[j])) (hgo : wq.grownBy w5 (some O))
    (hb : Below w.heap.size w wq) (hO : w.heap.size ≤ O) (hT : w.heap.size ≤ T) (hTq : T < wq.heap.size) (hTO : O ≠ T) :
    PolyRes R w (.returned v) ((w5.setCell ⟨T, 0, none⟩ u).setCell ⟨O, 0, none⟩ v) := by
  have hO2 : OutV (w5.setCell ⟨T, 0, none⟩ u) O v := by unfold OutV; rw [heap_setCell_other w5 ⟨T, 0, none⟩ O u hTO]; exact hOv
  have hkeep : ∀ {y : Value} {m ty : Nat} {ys : List Value}, ty ≠ 59 → w5.ownsRow wq.heap.size ty 1 y m ys → ((w5.setCell ⟨T, 0, none⟩ u).setCell ⟨O, 0, none⟩ v).ownsRow w.heap.size ty 1 y m ys := by
    intro y m ty ys hty h
    have h1 := own_set h hTq u
    exact own_weak (h1.kept (grown_setCell _ ⟨O, 0, none⟩ v) (own_var h1 hO2 hty)) hb.size
  refine ⟨v, xs, ls, rfl, hR, hv, hkeep (by decide) hown, hxl, fun i h h' => hkeep (by decide) (hall i h h'), ?_⟩
  exact ((hb.grown hgo hb.size (fun k hk => by simp only [Option.some.injEq] at hk; omega)).setCell hT u).setCell hO v

set_option maxRecDepth 100000 in
set_option maxHeartbeats 8000000 in
theorem poly_any (n : Int) (f : FP) (hf : fpn n = some f) (K : FuncId) (caps : Array Value) (a b : List (El f)) (ba oa na ca bb ob nb cb : Nat) (R : List (List (El f)) → Prop) (w : World)
    (ha : Cells w ba oa a) (hna : a.length = na) (hna1 : 1 ≤ na) (hna2 : na ≤ 100000) (hb : Cells w bb ob b) (hnb : b.length = nb) (hnb1 : 1 ≤ nb) (hnb2 : nb ≤ 100000)
    (hrun : ∀ (g x y : Nat) (w : World), (callFunc K (CbA g x y caps)).run Try.prog w = .ok (.enter K (CbA g x y caps)) w)
    (hcb : ∀ (g : Nat) (w1 : World) (x y : Nat) (la lb : List (El f)), Below w.heap.size w w1 → IsGF w1 f g → IsPoly w1 g x la → ps la = ps a → la.length ≤ na → IsPoly w1 g y lb → ps lb = ps b → lb.length ≤ nb → Calls Try.prog K (CbA g x y caps) w1 (CbR g R w1)) :
    Calls Try.prog 43 #[.int .i64 n, .slice (some ⟨ba, oa, none⟩) na ca, .slice (some ⟨bb, ob, none⟩) nb cb, .func (.func K) #[] caps] w (PolyRes R w) := by
  have HA := Lib.hid ha
  have HB := Lib.hid hb
  have HNA := Lib.hid hna
  have HNB := Lib.hid hnb
  have HCB := Lib.hid hcb
  have HRun := Lib.hid hrun
  clear ha hb hna hnb hcb hrun
  go_enter Try.func43, Try.ntmps43
  obtain ⟨hq0, hq1, hq2, hq3⟩ := quad_cells w #[.slice (some ⟨ba, oa, none⟩) na ca] #[.slice (some ⟨bb, ob, none⟩) nb cb] #[.func (.func K) #[] caps] #[.slice none 0 0] 22 22 65 59
  have hw4 : Below w.heap.size w ((((w.alloc (.cells #[.slice (some ⟨ba, oa, none⟩) na ca] 22)).alloc (.cells #[.slice (some ⟨bb, ob, none⟩) nb cb] 22)).alloc (.cells #[.func (.func K) #[] caps] 65)).alloc (.cells #[.slice none 0 0] 59)) :=
    ((((Below.refl _ w).alloc (by simp) _).alloc (by simp) _).alloc (by simp; omega) _).alloc (by simp; omega) _
  have HQ0 := Lib.hid hq0
  have HQ1 := Lib.hid hq1
  have HQ2 := Lib.hid hq2
  have HQ3 := Lib.hid hq3
  have HW4 := Lib.hid hw4
  clear hq0 hq1 hq2 hq3 hw4
  go_upto_region 4 with (go_at_call 32; refine (field_any n f hf _).mono ?_; rintro e w1 ⟨g, rfl, hg, hb1⟩)
  have hs1 : w.heap.size + 4 ≤ w1.heap.size := by have := hb1.size; simp at this; omega
  have hbw1 : Below w.heap.size w w1 := HW4.out.trans (hb1.mono (by simp; omega))
  have hbk : ∀ k o, k < w.heap.size + 4 → ((((w.alloc (.cells #[.slice (some ⟨ba, oa, none⟩) na ca] 22)).alloc (.cells #[.slice (some ⟨bb, ob, none⟩) nb cb] 22)).alloc (.cells #[.func (.func K) #[] caps] 65)).alloc (.cells #[.slice none 0 0] 59)).heap[k]? = some o → w1.heap[k]? = some o := by
    intro k o hk h; rw [hb1.block k (by simp; omega)]; exact h
  have hcA := cell_of_one (hbk _ _ (by omega) HQ0.out)
  have hcB := cell_of_one (hbk _ _ (by omega) HQ1.out)
  have hcC := cell_of_one (hbk _ _ (by omega) HQ2.out)
  have hcO := hbk _ _ (by omega) HQ3.out
  have hbf : Below w1.heap.size w1 (w1.alloc (.cells #[.pointer (some ⟨g, 0, none⟩)] 44)) := (Below.refl _ _).alloc (Nat.le_refl _) _
  have hwf0 : (w1.alloc (.cells #[.pointer (some ⟨g, 0, none⟩)] 44)).cell? ⟨w1.heap.size, 0, none⟩ = some (.pointer (some ⟨g, 0, none⟩)) := by simp
  have hsf : (w1.alloc (.cells #[.pointer (some ⟨g, 0, none⟩)] 44)).heap.size = w1.heap.size + 1 := by simp
  generalize hwf : w1.alloc (.cells #[.pointer (some ⟨g, 0, none⟩)] 44) = wf at *
  have hbe : Below wf.heap.size wf (wf.alloc (.cells #[.bool false] 4)) := (Below.refl _ _).alloc (Nat.le_refl _) _
  have hb1e := ext_trans hbf hbe
  have hbwe := ext_trans hbw1 hb1e
  have hOe : OutV (wf.alloc (.cells #[.bool false] 4)) (w.heap.size + 1 + 1 + 1) (.slice none 0 0) := by
    unfold OutV; rw [hb1e.block _ (by omega)]; exact hcO
  have hcall := Lib.hid (try_any 70 #[.pointer (some ⟨w1.heap.size, 0, none⟩), .pointer (some ⟨w.heap.size, 0, none⟩), .pointer (some ⟨w.heap.size + 1, 0, none⟩), .pointer (some ⟨w.heap.size + 1 + 1, 0, none⟩), .pointer (some ⟨w.heap.size + 1 + 1 + 1, 0, none⟩)]
    (fun _ w' => PolyLeft (wf.alloc (.cells #[.bool false] 4)) (w.heap.size + 1 + 1 + 1) R w') wf (fun _ => rfl)
    ((poly1_any g w1.heap.size w.heap.size (w.heap.size + 1) (w.heap.size + 1 + 1) (w.heap.size + 1 + 1 + 1) K caps a b ba oa na ca bb ob nb cb R (wf.alloc (.cells #[.bool false] 4)) (hg.later hb1e) (cell_later hbe hwf0) (cell_later hb1e hcA) (cell_later hb1e hcB) (cell_later hb1e hcC) hOe
      (HA.out.later hbwe) HNA.out hna1 hna2 (HB.out.later hbwe) HNB.out hnb1 hnb2 (fun x y w => HRun.out g x y w) (fun w2 x y la lb hbw2 => HCB.out g w2 x y la lb (ext_trans hbwe hbw2) ((hg.later hb1e).later hbw2))).mono (by
        rintro e w5 ⟨b5, rfl, wq, ls, hR, hout, hbq⟩
        refine ⟨b5, rfl, ⟨wq, ls, hR, hout, hbq⟩, ?_⟩
        obtain ⟨_, _, _, _, _, _, _, hgo⟩ := hout
        unfold OneB
        rw [hgo.block wf.heap.size (by have := hbq.size; simp at this; omega) (by simp; omega), hbq.block wf.heap.size (by simp)]
        exact heap_alloc_new wf _)))
  have hse : wf.heap.size < (wf.alloc (.cells #[.bool false] 4)).heap.size := by simp
  obtain ⟨we, hwe⟩ : ∃ we, we = wf.alloc (.cells #[.bool false] 4) := ⟨_, rfl⟩
  rw [← hwe] at hbwe hcall hse
  obtain ⟨O, hO⟩ : ∃ O, O = w.heap.size + 1 + 1 + 1 := ⟨_, rfl⟩
  rw [← hO] at hcall ⊢
  have HWE := Lib.hid hwe
  have hO1 : w.heap.size ≤ O := by omega
  have hO2 : O < wf.heap.size := by omega
  have hfw : w.heap.size ≤ wf.heap.size := by omega
  clear hwe hOe hcO hcA hcB hcC hwf0 hg hb1 hbk hwf hbf hb1e hbe hO hsf hs1
  go_wp2_with (go_at_call 34; refine hcall.out.mono ?_; rintro e w4 ⟨b', w5, rfl, ⟨wq, ls, hR, ⟨v, xs, hOv, hv, hown, hxl, hall, hgo⟩, hbq⟩, rfl⟩; obtain ⟨p7, k7, c7, rfl⟩ : ∃ p k c, v = .slice p k c := (by rcases hv with rfl | ⟨c, k, rfl⟩ <;> exact ⟨_, _, _, rfl⟩); have hOs : OutV (w5.setCell ⟨wf.heap.size, 0, none⟩ (.bool b')) O (.slice p7 k7 c7) := (by unfold OutV; rw [heap_setCell_other w5 ⟨wf.heap.size, 0, none⟩ O _ (by show O ≠ wf.heap.size; omega)]; exact hOv); have hOc := hOs.cell; have hOf := hOs.free; have HF := Lib.hid (outs_end (u := .bool b') hR hOv hv hown hxl hall hgo (ext_trans hbwe hbq) hO1 hfw (Nat.lt_of_lt_of_le hse hbq.size) (Nat.ne_of_lt hO2)); clear hR hv hown hxl hall)
  have hOz : ((w5.setCell ⟨wf.heap.size, 0, none⟩ (.bool b')).setCell ⟨O, 0, none⟩ (.slice p7 k7 c7)).cell? ⟨O, 0, none⟩ = some (.slice p7 k7 c7) := cell_of_one (one_setCell hOs)
  simp [bodyPost, results, Try.results43, go_sem, hOz]
  exact HF.out
end Go.Proofs.Ytjgclomokekogaa
