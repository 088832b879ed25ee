/- The thin package's encoding. -/
import Derived.Test.YtjgclomokekogaaW18
import Derived.Deep.DeepCutAuto
namespace Go.Proofs.Ytjgclomokekogaa
open Go.RowKit Rs

/-- Noughts appended, as one step of a region that draws. -/
theorem step_append_zeros {ops : Array Oper} {o : Oper} {a : Act} {w : World} {K : Act → World → Prop} {Q : Exit → Act → World → Prop} {E : Prop} (hg : o.guard = none) (s x : Operand)
    (hop : o.op = Op.call { callee := Callee.builtin Builtin.append, args := #[s, x], argTypes := #[22, 3] }) (hty : o.type = 22) (base g n cap m : Nat) (xs : List Value)
    (hs : a.eval s = .slice (some ⟨g, 0, none⟩) n cap) (hx : a.eval x = .int .i64 (m : Int)) (hown : w.ownsRow base 3 1 (.slice (some ⟨g, 0, none⟩) n cap) n xs) (hm : 1 ≤ m) (hsm : n + m ≤ 100000) (hbase : base ≤ w.heap.size)
    (hK : ∀ g' cap' w', w'.ownsRow base 3 1 (.slice (some ⟨g', 0, none⟩) (n + m) cap') (n + m) (xs ++ List.replicate m (.int .i64 0)) → w.grownBy w' (some g) → K (a.put o.dst (.slice (some ⟨g', 0, none⟩) (n + m) cap')) w') :
    if Region.wanted o (yielded ops a.tmps) = true then Oper.wp Try.prog o a w K Q else E := by
  have hw : Region.wanted o (yielded ops a.tmps) = true := by simp [Region.wanted, hg]
  rw [if_pos hw]
  obtain ⟨g', cap', w', hr, h1, h2⟩ := run_append_zeros w base g n cap m xs hown hm hsm hbase
  unfold Oper.wp
  simp [execOp, hop, resolve, invoke, builtin, hs, hx, hty, hr, Result.andThen]
  exact hK g' cap' w' h1 h2
/-- A variable that holds a slice. -/
def VarS (w : World) (L : Nat) (v : Value) : Prop := w.heap[L]? = some (.cells #[v] 22 (0, 0))
/-- The word in a variable of its own. -/
def AllAt (f : FP) (wq : World) (N : Nat) (l : List (El f)) (s : Value) (wx : World) : Prop :=
  ∃ L A cap r, s = .pointer (some ⟨L, 0, none⟩) ∧ VarS wx L (.slice (some ⟨A, 0, none⟩) N cap) ∧ N ≤ cap ∧ BlkR wx A l r ∧ wq.heap.size ≤ A ∧ L ≠ A ∧ wq.heap.size ≤ L ∧ Below wq.heap.size wq wx
theorem own_blkr {f : FP} {w : World} {base g n cap : Nat} {l : List (El f)} (h : w.ownsRow base 3 1 (.slice (some ⟨g, 0, none⟩) n cap) n (vs l)) : ∃ r, BlkR w g l r := by
  rcases h.2 with ⟨h', _⟩ | ⟨g', cap', cur, h', hb, hg, hnc, hcm, hcs, htake⟩
  · simp at h'
  · simp only [Value.slice.injEq, Option.some.injEq, Addr.mk.injEq, and_true, true_and] at h'
    obtain ⟨rfl, rfl⟩ := h'
    refine ⟨cur.toList.drop (n * 1), ?_⟩
    unfold BlkR
    rw [← htake, List.take_append_drop]; exact hg
theorem own_le {w : World} {base g n cap : Nat} {T : TypeId} {xs : List Value} (h : w.ownsRow base T 1 (.slice (some ⟨g, 0, none⟩) n cap) n xs) (hn : 0 < n) : base ≤ g ∧ g < w.heap.size ∧ n ≤ cap := by
  obtain ⟨c, cap', hv, h1, h2, h3⟩ := own_shape h hn
  simp only [Value.slice.injEq, Option.some.injEq, Addr.mk.injEq, and_true, true_and] at hv
  obtain ⟨rfl, rfl⟩ := hv
  exact ⟨h1, h2, h3⟩
theorem varS_ne {f : FP} {w : World} {L A : Nat} {v : Value} {l : List (El f)} {r : List Value} (h : VarS w L v) (hA : BlkR w A l r) : L ≠ A := by
  intro e; subst e; unfold VarS at h; rw [hA.out] at h; simp at h
theorem all_fin {f : FP} {wq wz : World} {B N L A cap : Nat} {l : List (El f)} {x : Value} (hN : 0 < N) (hown : wz.ownsRow B 3 1 (.slice (some ⟨A, 0, none⟩) N cap) N (vs l)) (hB : wq.heap.size ≤ B) (hv : VarS wz L x) (hL : wq.heap.size ≤ L) (hb : Below wq.heap.size wq wz) :
    AllAt f wq N l (.pointer (some ⟨L, 0, none⟩)) (wz.setCell ⟨L, 0, none⟩ (.slice (some ⟨A, 0, none⟩) N cap)) := by
  obtain ⟨r, hr⟩ := own_blkr hown
  obtain ⟨h1, h2, h3⟩ := own_le hown hN
  have hne := varS_ne hv hr
  refine ⟨L, A, cap, r, rfl, one_setCell hv, h3, ?_, by omega, hne, hL, hb.setCell hL _⟩
  unfold BlkR; rw [heap_setCell_other wz ⟨L, 0, none⟩ A _ (Ne.symm hne)]; exact hr

theorem all_made {f : FP} {wq wz : World} {B N A cap : Nat} {l : List (El f)} (hN : 0 < N) (hown : wz.ownsRow B 3 1 (.slice (some ⟨A, 0, none⟩) N cap) N (vs l)) (hB : wq.heap.size ≤ B) (hb : Below wq.heap.size wq wz) :
    AllAt f wq N l (.pointer (some ⟨wz.heap.size, 0, none⟩)) (wz.alloc (.cells #[.slice (some ⟨A, 0, none⟩) N cap] 22)) := by
  have h2 := own_below hown ((Below.refl wz.heap.size wz).alloc (Nat.le_refl _) (.cells #[.slice (some ⟨A, 0, none⟩) N cap] 22))
  obtain ⟨r, hr⟩ := own_blkr h2
  obtain ⟨h1, h3, h4⟩ := own_le hown hN
  exact ⟨wz.heap.size, A, cap, r, rfl, heap_alloc_new wz _, h4, hr, by omega, by omega, hb.size, hb.alloc hb.size _⟩

theorem VarS.later {w w' : World} {L : Nat} {v : Value} (h : VarS w L v) (hb : Below w.heap.size w w') : VarS w' L v := by
  unfold VarS; rw [hb.block L (Array.getElem?_eq_some_iff.1 h).1]; exact h
theorem VarS.made (w : World) (v : Value) : VarS (w.alloc (.cells #[v] 22)) w.heap.size v := heap_alloc_new w _
theorem VarS.grown {w w' : World} {L c : Nat} {v : Value} (h : VarS w L v) (hg : w.grownBy w' (some c)) (hne : L ≠ c) : VarS w' L v := by
  unfold VarS; rw [hg.block L (Array.getElem?_eq_some_iff.1 h).1 (by simpa using hne)]; exact h

/-- What encoding leaves. -/
def EncOut (f : FP) (w : World) (N ec : Nat) (data : List (El f)) (e : Ending) (w' : World) : Prop :=
  ∃ A cap r, ∃ chk : List (El f), e = .returned (.tuple #[.slice (some ⟨A, 0, none⟩) N cap, .bool true]) ∧ chk.length = ec ∧ Word f ec (data ++ chk) ∧ BlkR w' A (data ++ chk) r ∧ Below w.heap.size w w'

/-- What the region keeps. -/
theorem keep_alloc {wq w' : World} {E : Nat} {v : Value} (h : Below wq.heap.size wq w' ∧ w'.cell? ⟨E, 0, none⟩ = some v) (o : Obj) :
    Below wq.heap.size wq (w'.alloc o) ∧ (w'.alloc o).cell? ⟨E, 0, none⟩ = some v :=
  ⟨h.1.alloc h.1.size o, cell_later ((Below.refl _ _).alloc (Nat.le_refl _) _) h.2⟩
theorem keep_later {wq w' w2 : World} {E : Nat} {v : Value} (h : Below wq.heap.size wq w' ∧ w'.cell? ⟨E, 0, none⟩ = some v) (hb : Below w'.heap.size w' w2) :
    Below wq.heap.size wq w2 ∧ w2.cell? ⟨E, 0, none⟩ = some v :=
  ⟨h.1.trans (hb.mono h.1.size), cell_later hb h.2⟩
theorem keep_grown {wq w' w2 : World} {E c : Nat} {v : Value} (h : Below wq.heap.size wq w' ∧ w'.cell? ⟨E, 0, none⟩ = some v) (hg : w'.grownBy w2 (some c)) (hc : wq.heap.size ≤ c) (hE : E < wq.heap.size) :
    Below wq.heap.size wq w2 ∧ w2.cell? ⟨E, 0, none⟩ = some v :=
  ⟨h.1.grown hg h.1.size (fun k hk => by simp only [Option.some.injEq] at hk; omega), grown_cell hg h.2 (by omega)⟩
theorem keep_set {wq w' : World} {E L : Nat} {v u : Value} (h : Below wq.heap.size wq w' ∧ w'.cell? ⟨E, 0, none⟩ = some v) (hL : wq.heap.size ≤ L) (hE : E < wq.heap.size) :
    Below wq.heap.size wq (w'.setCell ⟨L, 0, none⟩ u) ∧ (w'.setCell ⟨L, 0, none⟩ u).cell? ⟨E, 0, none⟩ = some v :=
  ⟨h.1.setCell hL u, (World.cell?_setCell_far w' ⟨L, 0, none⟩ ⟨E, 0, none⟩ u (by show L ≠ E; omega)).trans h.2⟩
theorem own_weak {w : World} {B B' n size : Nat} {T : TypeId} {v : Value} {xs : List Value} (h : w.ownsRow B T size v n xs) (hB : B' ≤ B) : w.ownsRow B' T size v n xs := by
  refine ⟨h.1, ?_⟩
  rcases h.2 with h1 | ⟨g', cap', cur, h', hb, hg⟩
  · exact Or.inl h1
  · exact Or.inr ⟨g', cap', cur, h', by omega, hg⟩
theorem VarS.cell {w : World} {L : Nat} {v : Value} (h : VarS w L v) : w.cell? ⟨L, 0, none⟩ = some v := cell_of_one h
theorem VarS.free {w : World} {L : Nat} {v : Value} (h : VarS w L v) : w.frozen? ⟨L, 0, none⟩ = false := free_of_one h
theorem clone_el {f : FP} (b off n cap : Nat) (l : List (El f)) (w : World) (hn : l.length = n) (h1 : 1 ≤ n) (hm : n ≤ 100000) (hl : Cells w b off l) :
    Calls Try.prog 33 #[.slice (some ⟨b, off, none⟩) n cap] w (CloneRes w n (vs l)) := by
  have h := clone_any b off n cap (l.map fun a => (a.val : Int)) w (by simpa using hn) h1 hm (fun j hj => by
    rw [List.length_map] at hj
    rw [List.getElem_map]; exact hl j hj)
  rw [List.map_map] at h
  exact h
theorem vs_app_zeros {f : FP} (l : List (El f)) (m : Nat) : vs l ++ List.replicate m (.int .i64 0) = vs (l ++ List.replicate m (0 : El f)) := by
  simp [vs, El.zero_val]

set_option maxRecDepth 100000 in
set_option maxHeartbeats 4000000 in
theorem implenc_any (n : Int) (f : FP) (hf : fpn n = some f) (b off k cap ec N : Nat) (data : List (El f)) (w : World) (hk : data.length = k) (hk1 : 1 ≤ k) (hec1 : 1 ≤ ec) (hN : N = k + ec) (hec : N < f.size)
    (hd : Cells w b off data) :
    Calls Try.prog 16 #[.int .i64 n, .slice (some ⟨b, off, none⟩) k cap, .int .i64 ec] w (EncOut f w N ec data) := by
  have hs := f.size_le
  have hecb : ¬ (10000 : Int) < (ec : Int) := by omega
  have HK := Lib.hid hk
  have HN := Lib.hid hN
  have hNk : N ≤ k + ec := by omega
  have hNk2 : k + ec ≤ N := by omega
  clear hk hN
  go_enter Try.func16, Try.ntmps16
  have he0 := (World.cell?_alloc_new (w := w) #[Value.int .i64 (ec : Int)] 3 0)
  go_upto_region 4 with (go_at_call 32; refine (field_any n f hf _).mono ?_; rintro e w1 ⟨g, rfl, hg, hb1⟩; have hecv : w1.cell? ⟨w.heap.size, 0, none⟩ = some (.int .i64 (ec : Int)) := cell_later hb1 he0; have hecv2 := fun o => cell_later ((Below.refl w1.heap.size w1).alloc (Nat.le_refl _) o) hecv; have hlt := hb1.size)
  have hF0 := World.cell?_alloc_new (w := w1) #[Value.pointer (some ⟨g, 0, none⟩)] 44 0
  have hgq := hg.later ((Below.refl w1.heap.size w1).alloc (Nat.le_refl _) (.cells #[Value.pointer (some ⟨g, 0, none⟩)] 44))
  have hbq : Below w.heap.size w (w1.alloc (.cells #[Value.pointer (some ⟨g, 0, none⟩)] 44)) := ((((Below.refl _ w).alloc (Nat.le_refl _) _).trans (hb1.mono (by simp)))).alloc (by have := hb1.size; simp at this; omega) _
  have hdq := Lib.hid (hd.later hbq)
  have hecq := hecv2 (.cells #[Value.pointer (some ⟨g, 0, none⟩)] 44)
  clear hecv hecv2 hb1 hg hlt he0
  generalize hwq : w1.alloc (.cells #[Value.pointer (some ⟨g, 0, none⟩)] 44) = wq at *
  have hFne : w1.heap.size < wq.heap.size := by rw [← hwq]; simp
  have hwq' := Lib.hid hwq
  clear hwq
  go_cut [9] (fun s9 wx => AllAt f wq N (data ++ List.replicate ec 0) s9 wx)
  case first =>
    have hE : w.heap.size < wq.heap.size := by have := block_lt hecq; omega
    go_region_held3 (fun w' => Below wq.heap.size wq w' ∧ w'.cell? ⟨w.heap.size, 0, none⟩ = some (.int .i64 (ec : Int)))
      (first | assumption | exact keep_alloc hk3 _ | exact ⟨(Below.refl _ wq).drew, cell_later (drewN_below wq 1) hecq⟩ | exact keep_grown (by assumption) hgg hAle hE | exact keep_alloc (by assumption) _ | exact keep_later (by assumption) hbl | exact keep_set hk3 (by first | exact Nat.le_refl _ | omega) hE | (trace_state; fail))
      (first | (go_at_call 33; refine (clone_el b off k cap data _ HK.out hk1 (by omega) (hdq.out.later (And.left (by assumption)))).mono ?_; rintro e w2 ⟨A, c2, rfl, hcl0, hbl⟩; have hcl := own_weak hcl0 (Below.size (B := wq.heap.size) (And.left (by assumption))); have hAle := (own_le hcl (by omega)).1; have hAlt := (own_le hcl (by omega)).2.1; (try have hv2 : VarS w2 wq.heap.size (.slice none 0 0) := (VarS.made wq.drew (.slice none 0 0)).later hbl))
             | (refine step_append_zeros (by rfl) (.tmp 19) (.tmp 21) rfl rfl _ A k c2 ec _ rfl rfl (by first | exact hcl | exact own_below hcl ((Below.refl _ _).alloc (Nat.le_refl _) _)) hec1 (by omega) (Below.size (B := wq.heap.size) (And.left (by assumption))) ?_; intro A' c' w3 hap hgg; have hk3 := keep_grown (E := w.heap.size) (by assumption) hgg hAle hE; (try (have hv3 : VarS w3 wq.heap.size (.slice none 0 0) := VarS.grown hv2 hgg (varS_ne hv2 (Classical.choose_spec (own_blkr (f := f) hcl))); have hv4 := hv3.cell; have hv5 := hv3.free)); (try (have hv3 : VarS w3 w2.heap.size (.slice none 0 0) := VarS.grown (VarS.made w2 (.slice none 0 0)) hgg (by have := (own_le hcl (by omega)).2.1; omega); have hv4 := hv3.cell; have hv5 := hv3.free))))
    all_goals (go_wp2_with fail; go_meet; case rel => (rw [vs_app_zeros] at hap; rw [← HN.out] at hap ⊢; first | exact all_made (by omega) hap (Nat.le_refl _) hk3.1 | exact all_fin (by omega) hap (Nat.le_refl _) hv3 (by omega) hk3.1))
  case rest =>
    obtain ⟨L, A, cap', r, rfl, hL, hcp, hAr, hAq, hLA, hLq, hbl⟩ := hcut
    have hFc := Lib.hid (cell_later hbl hF0)
    have hEc := Lib.hid (cell_later hbl hecq)
    have hgl := hgq.later hbl
    have hLt := hLq
    have hEF : w.heap.size < wq.heap.size := by have := block_lt hecq; omega
    have hLtn : L < wc.heap.size := (Array.getElem?_eq_some_iff.1 hL).1
    have hAtn : A < wc.heap.size := (Array.getElem?_eq_some_iff.1 hAr.out).1
    have hwe : Below wc.heap.size wc (wc.alloc (.cells #[.bool false] 4)) := (Below.refl _ _).alloc (Nat.le_refl _) _
    have hcall := Lib.hid (try_any 35 #[.pointer (some ⟨w1.heap.size, 0, none⟩), .pointer (some ⟨L, 0, none⟩), .pointer (some ⟨w.heap.size, 0, none⟩)] (EncLeft f (wc.alloc (.cells #[.bool false] 4)) A ec data r) wc (fun _ => rfl)
      ((encclos_any f g w1.heap.size L w.heap.size A k ec N cap' data r (wc.alloc (.cells #[.bool false] 4)) (hgl.later hwe) HK.out hk1 hec1 HN.out hec hcp (cell_later hwe hFc.out) (cell_later hwe hL.cell) (cell_later hwe hEc.out) (by omega) hLA (by omega)
        (by unfold BlkR; rw [hwe.block A hAtn]; exact hAr)).mono (by
          rintro e w5 ⟨b5, rfl, h5⟩
          obtain ⟨h6, chk, h7, h8, h9, h10⟩ := h5
          refine ⟨b5, rfl, ⟨h6, chk, h7, h8, h9, h10⟩, ?_⟩
          unfold OneB
          rw [h10.block wc.heap.size (by simp) (by simp; omega)]
          exact heap_alloc_new wc _)))
    clear hFc hEc hgl
    go_wp2_with (go_at_call 34; refine hcall.out.mono ?_; rintro e w2 ⟨b', w4, rfl, ⟨rfl, chk, hc1, hc2, hc3, hgx⟩, rfl⟩; have hLx : (w4.setCell ⟨wc.heap.size, 0, none⟩ (.bool true)).cell? ⟨L, 0, none⟩ = some (.slice (some ⟨A, 0, none⟩) N cap') := (World.cell?_setCell_far w4 ⟨wc.heap.size, 0, none⟩ ⟨L, 0, none⟩ (.bool true) (by show wc.heap.size ≠ L; omega)).trans (grown_cell hgx (cell_later hwe hL.cell) hLA))
    have HF : Hid (EncOut f w N ec data (.returned (.tuple #[.slice (some ⟨A, 0, none⟩) N cap', .bool true])) (w4.setCell ⟨wc.heap.size, 0, none⟩ (.bool true))) := by
      refine ⟨A, cap', r, chk, rfl, hc1, hc2, ?_, ?_⟩
      · unfold BlkR; rw [heap_setCell_other w4 ⟨wc.heap.size, 0, none⟩ A _ (by show A ≠ wc.heap.size; omega)]; exact hc3
      · have hws := hbl.size
        refine Below.setCell (Below.grown ((hbq.trans (hbl.mono (by omega))).alloc (by omega) _) hgx (by simp; omega) (fun k hk => by simp only [Option.some.injEq] at hk; omega)) (by show w.heap.size ≤ wc.heap.size; omega) _
    clear hc1 hcall
    go_ret2
    exact HF.out
end Go.Proofs.Ytjgclomokekogaa
