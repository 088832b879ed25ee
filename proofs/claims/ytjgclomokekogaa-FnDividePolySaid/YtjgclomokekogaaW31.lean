/- Lists of lists as the thin package hands them on. -/
import Derived.Test.YtjgclomokekogaaW30
import Derived.Test.YtjgclomokekogaaW10
namespace Go.Proofs.Ytjgclomokekogaa
open Go.RowKit Rs

theorem Try.info22 : (Try.prog.info? 22).map (fun i => (i.zero, i.size, i.bytes)) = some (some (.slice none 0 0), 1, 24) := by kernel_rfl
theorem info_parts' {z : Value} {s b : Nat} {T : TypeId} (h : (Try.prog.info? T).map (fun i => (i.zero, i.size, i.bytes)) = some (some z, s, b)) :
    ∃ i, Try.prog.info? T = some i ∧ i.zero = some z ∧ i.size = s ∧ i.bytes = b := info_parts h
/-- The polynomials that a list of pointers names. -/
def Polys {f : FP} (w : World) (g B : Nat) (qs : List Nat) (ls : List (List (El f))) : Prop :=
  qs.length = ls.length ∧ ∀ i (h : i < qs.length) (h' : i < ls.length), w.cell? ⟨B, i, none⟩ = some (.pointer (some ⟨qs[i], 0, none⟩)) ∧ IsPoly w g qs[i] ls[i]
/-- The variable of a list of lists. -/
def OutV (w : World) (O : Nat) (v : Value) : Prop := w.heap[O]? = some (.cells #[v] 59 (0, 0))
/-- Lists in rows of their own, in a row of its own, in the variable O. -/
def Outs {f : FP} (wq : World) (O : Nat) (wr : World) (ls : List (List (El f))) (n : Nat) : Prop :=
  ∃ v xs, OutV wr O v ∧ (v = .slice none 0 0 ∨ ∃ c k, v = .slice (some ⟨c, 0, none⟩) n k) ∧ wr.ownsRow wq.heap.size 22 1 v n xs ∧ xs.length = n ∧
    (∀ i (h : i < xs.length) (h' : i < ls.length), wr.ownsRow wq.heap.size 3 1 xs[i] ls[i].length (vs ls[i])) ∧ wq.grownBy wr (some O)
theorem OutV.cell {w : World} {O : Nat} {v : Value} (h : OutV w O v) : w.cell? ⟨O, 0, none⟩ = some v := cell_of_one h
theorem OutV.free {w : World} {O : Nat} {v : Value} (h : OutV w O v) : w.frozen? ⟨O, 0, none⟩ = false := free_of_one h
theorem OutV.later {w w' : World} {O : Nat} {v : Value} (h : OutV w O v) (hb : Below w.heap.size w w') : OutV w' O v := by
  unfold OutV; rw [hb.block O (Array.getElem?_eq_some_iff.1 h).1]; exact h
theorem OutV.lt {w : World} {O : Nat} {v : Value} (h : OutV w O v) : O < w.heap.size := (Array.getElem?_eq_some_iff.1 h).1
theorem outv_int {w : World} {O b o : Nat} {p : Option Addr} {n c : Nat} {k : IntKind} {x : Int} (h : OutV w O (.slice p n c)) (hc : w.cell? ⟨b, o, none⟩ = some (.int k x)) : b ≠ O := by
  intro e; subst e
  rw [cell_of_row w b o _ 59 (0, 0) h] at hc
  match o, hc with
  | 0, hc => simp at hc
  | o + 1, hc => simp at hc
theorem outv_ptr {w : World} {O b o : Nat} {p : Option Addr} {n c : Nat} {x : Option Addr} (h : OutV w O (.slice p n c)) (hc : w.cell? ⟨b, o, none⟩ = some (.pointer x)) : b ≠ O := by
  intro e; subst e
  rw [cell_of_row w b o _ 59 (0, 0) h] at hc
  match o, hc with
  | 0, hc => simp at hc
  | o + 1, hc => simp at hc
/-- A polynomial stays where only the variable turns. -/
theorem poly_out {f : FP} {w w' : World} {g q O : Nat} {l : List (El f)} {p : Option Addr} {n c : Nat} (h : IsPoly w g q l) (hO : OutV w O (.slice p n c)) (hg : w.grownBy w' (some O)) : IsPoly w' g q l := by
  obtain ⟨h1, h2, b, off, cap, h3, h4, h5⟩ := h
  have hq := outv_ptr hO h2
  have hb := outv_int hO (h5 0 h1.pos)
  exact ⟨h1, grown_cell hg h2 hq, b, off, cap, h3, grown_cell hg h4 hq, fun k hk => grown_cell hg (h5 k hk) hb⟩
theorem Outs.start {f : FP} {wq : World} {O : Nat} (ls : List (List (El f))) (h : OutV wq O (.slice none 0 0)) : Outs wq O wq ls 0 :=
  ⟨_, [], h, Or.inl rfl, ⟨rfl, Or.inl ⟨rfl, rfl⟩⟩, rfl, fun i h => by simp at h, ⟨rfl, rfl, rfl, Nat.le_refl _, fun _ _ _ => rfl⟩⟩
/-- Rows of other types are other rows. -/
theorem own_type {w : World} {B : Nat} {v : Value} {n c k : Nat} {xs ys : List Value} {y : Value} {m : Nat} (h : w.ownsRow B 3 1 y m ys) (h2 : w.ownsRow B 22 1 v n xs) (hv : v = .slice (some ⟨c, 0, none⟩) n k) : y.ownBlock = none ∨ y.ownBlock ≠ some c := by
  rcases h.2 with ⟨rfl, _⟩ | ⟨g, cap, cur, rfl, _, hg, _⟩
  · exact Or.inl rfl
  · refine Or.inr fun e => ?_
    simp only [Value.ownBlock, Option.some.injEq] at e
    rcases h2.2 with ⟨h3, _⟩ | ⟨g2, cap2, cur2, h3, _, hg2, _⟩
    · rw [hv] at h3; simp at h3
    · rw [hv] at h3
      simp only [Value.slice.injEq, Option.some.injEq, Addr.mk.injEq, and_true, true_and] at h3
      obtain ⟨rfl, _⟩ := h3
      rw [← e, hg] at hg2
      simp at hg2
theorem own_var {w : World} {B O : Nat} {u : Value} {y : Value} {m T : Nat} {ys : List Value} (h : w.ownsRow B T 1 y m ys) (hO : OutV w O u) (hT : T ≠ 59) : y.ownBlock = none ∨ y.ownBlock ≠ some O := by
  rcases h.2 with ⟨rfl, _⟩ | ⟨g, cap, cur, rfl, _, hg, _⟩
  · exact Or.inl rfl
  · refine Or.inr fun e => ?_
    simp only [Value.ownBlock, Option.some.injEq] at e
    unfold OutV at hO
    rw [← e, hg] at hO
    simp at hO
    exact hT (by first | exact hO | exact hO.2)
theorem outs_step {f : FP} {wq wr wB wC : World} {O i : Nat} {ls : List (List (El f))} {v x v' : Value} {xs : List Value} (hO : OutV wr O v) (hv : v = .slice none 0 0 ∨ ∃ c k, v = .slice (some ⟨c, 0, none⟩) i k)
    (hown : wr.ownsRow wq.heap.size 22 1 v i xs) (hxl : xs.length = i) (hall : ∀ j (h : j < xs.length) (h' : j < ls.length), wr.ownsRow wq.heap.size 3 1 xs[j] ls[j].length (vs ls[j])) (hg : wq.grownBy wr (some O))
    (hb : Below wr.heap.size wr wB) (hi : i < ls.length) (hx : wB.ownsRow wq.heap.size 3 1 x ls[i].length (vs ls[i])) (hown' : wC.ownsRow wq.heap.size 22 1 v' (i + 1) (xs ++ [x])) (hgc : wB.grownBy wC v.ownBlock) (hOlt : O < wq.heap.size) :
    Outs wq O (wC.setCell ⟨O, 0, none⟩ v') ls (i + 1) := by
  have hOB : OutV wB O v := hO.later hb
  have hvb : ∀ k, v.ownBlock = some k → wq.heap.size ≤ k := by
    intro k hk
    rcases hown.2 with ⟨rfl, _⟩ | ⟨g, cap, cur, rfl, hgB, _⟩
    · simp [Value.ownBlock] at hk
    · simp only [Value.ownBlock, Option.some.injEq] at hk; omega
  have hOC : OutV wC O v := by
    unfold OutV
    rw [hgc.block O hOB.lt (fun e => by have := hvb O e.symm; omega)]
    exact hOB
  have hset := grown_setCell wC ⟨O, 0, none⟩ v'
  obtain ⟨c', cap', rfl, hc1, hc2, hc3⟩ := own_shape hown' (by omega)
  have hgs : wq.heap.size ≤ wr.heap.size := hg.size
  have hrow : ∀ {y : Value} {m : Nat} {ys : List Value}, wB.ownsRow wq.heap.size 3 1 y m ys → (wC.setCell ⟨O, 0, none⟩ (.slice (some ⟨c', 0, none⟩) (i + 1) cap')).ownsRow wq.heap.size 3 1 y m ys := by
    intro y m ys h
    have h1 : wC.ownsRow wq.heap.size 3 1 y m ys := by
      refine h.kept hgc ?_
      rcases hv with rfl | ⟨c, k, hv⟩
      · cases y.ownBlock with
        | none => exact Or.inl rfl
        | some z => exact Or.inr (by simp [Value.ownBlock])
      · rcases own_type h (own_below hown hb) hv with h2 | h2
        · exact Or.inl h2
        · refine Or.inr ?_
          rw [hv]; exact h2
    exact h1.kept hset (own_var h1 hOC (by decide))
  refine ⟨_, xs ++ [x], one_setCell hOC, Or.inr ⟨c', cap', rfl⟩, hown'.kept hset (own_var hown' hOC (by decide)), by simp [hxl], ?_, ?_⟩
  · intro j h h'
    by_cases e : j < xs.length
    · rw [List.getElem_append_left e]
      exact hrow (own_below (hall j e h') hb)
    · have ej : j = i := by simp at h; omega
      subst ej
      rw [List.getElem_append_right (by omega)]
      simp only [List.getElem_singleton]
      exact hrow hx
  · refine ⟨?_, ?_, ?_, ?_, ?_⟩
    · show wC.os = _; rw [hgc.os, hb.os, hg.os]
    · show wC.tape = _; rw [hgc.tape, hb.tape, hg.tape]
    · show wC.output = _; rw [hgc.output, hb.output, hg.output]
    · rw [size_setCell]; exact Nat.le_trans hg.size (Nat.le_trans hb.size hgc.size)
    · intro k hk hne
      rw [heap_setCell_other wC ⟨O, 0, none⟩ k _ (fun e => hne (by rw [e])), hgc.block k (by have := hb.size; omega) (fun e => by have := hvb k e.symm; omega), hb.block k (by omega), hg.block k hk hne]
/-- A list of lists appended by one, as one step of a region that draws. -/
theorem step_append_list {ops : Array Oper} {o : Oper} {a : Act} {w : World} {K : Act → World → Prop} {Q : Exit → Act → World → Prop} {E : Prop} (hg : o.guard = none) (s x : Operand)
    (hop : o.op = Op.call { callee := Callee.builtin Builtin.append, args := #[s, x], argTypes := #[59, 59] }) (base n : Nat) (v : Value) (xs : List Value)
    (hs : a.eval s = v) (hown : w.ownsRow base 22 1 v n xs) (D : Nat) (y : Value) (hx : a.eval x = .slice (some ⟨D, 0, none⟩) 1 1) (hy : w.cell? ⟨D, 0, none⟩ = some y) (h1 : y.oneCell' = true) (hsm : n ≤ 1000) (hbase : base ≤ w.heap.size)
    (hK : ∀ v' w', w'.ownsRow base 22 1 v' (n + 1) (xs ++ [y]) → w.grownBy w' v.ownBlock → K (a.put o.dst v') w') :
    if Region.wanted o (yielded ops a.tmps) = true then Oper.wp Try.prog o a w K Q else E := by
  have hw : Region.wanted o (yielded ops a.tmps) = true := by simp [Region.wanted, hg]
  rw [if_pos hw]
  obtain ⟨i0, hi, hz0, hz1, hz2⟩ := info_parts' Try.info22
  refine wp_append_own w s x 59 hop base 22 i0 (.slice none 0 0) 1 24 Try.underlying59 hi hz0 hz1 hz2 rfl (by decide) v n xs hs hown ⟨D, 0, none⟩ 1 1 [y] hx rfl (fun j u hj => ?_) (by intro u hu; simp at hu; rw [hu]; exact h1) (by unfold maxLen; omega) (by omega) hbase (fun v' w' h2 h3 _ => hK v' w' h2 h3)
  match j, hj with
  | 0, hj => simp at hj; subst hj; simpa [Addr.add] using hy
  | j + 1, hj => simp at hj
end Go.Proofs.Ytjgclomokekogaa
