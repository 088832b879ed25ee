/- A region that draws its order, whose last operations come in one order behind all others, the others only reading or calling what makes new memory: one walk in the text's order serves. -/
import Derived.Deep.Quiet
import Derived.StillTail
import Derived.Test.YtjgclomokekogaaBlk
import Derived.Test.YtjgclomokekogaaW3
namespace Go.Proofs.Ytjgclomokekogaa
open Go.RowKit Rs

section
variable {P : Program} {md : Region.Mode} {ops : Array Oper} {C : World → Prop}

/-- The head's operations come first, whatever order is picked; then L. -/
def wpHead (P : Program) (md : Region.Mode) (ops : Array Oper) (C : World → Prop) (n : Nat) (L : Array Bool → Act → Prop) : Nat → Array Bool → Act → Prop
  | 0, listed, a => L listed a
  | k + 1, listed, a => Region.ready md ops listed ≠ [] ∧ ∀ i ∈ Region.ready md ops listed, i < n ∧ qOp P ops C i (wpHead P md ops C n L k (listed.setIfInBounds i true)) a

theorem wpHead_any {n g : Nat} {L : Array Bool → Act → Prop} {Q : Exit → Act → World → Prop} (hL : ∀ listed a w, C w → L listed a → wpAny P md ops Q g listed a w) (k : Nat) :
    ∀ (listed : Array Bool) (a : Act) (w : World), C w → wpHead P md ops C n L k listed a → wpAny P md ops Q (k + g) listed a w := by
  induction k with
  | zero => intro listed a w hw h; rw [Nat.zero_add]; exact hL _ _ _ hw h
  | succ k ih =>
    intro listed a w hw h
    rw [show k + 1 + g = (k + g) + 1 from by omega]
    exact ⟨fun h0 => absurd h0 h.1, fun i hi => wpOp_of_qOp hw (fun a' w' hw' h' => ih _ a' w' hw' h') (h.2 i hi).2⟩

theorem wpHead_first {n i : Nat} {oi : Oper} {v : Value} {L : Array Bool → Act → Prop} (hi : ops[i]? = some oi) (hsel : ∀ (j : Nat) (o : Oper) cs b, ops[j]? = some o → o.op ≠ .select cs b)
    (hs : Region.sinkB md ops n = true) (hc : Region.chainB md ops n = true) (hn : n < ops.size) (hin : i < n) (hdone : ∀ listed a, L listed a → ∀ j ∈ Region.ready md ops listed, n ≤ j) (k : Nat) :
    ∀ (listed : Array Bool) (a : Act), HeadInv md ops n listed →
      (∀ j oj, ops[j]? = some oj → j ≠ i → listed.getD j true = false → (∀ e ∈ oj.after, Region.binds md e = true → e.on ≠ i) → oi.apart ops oj = true) →
      i ∈ Region.ready md ops listed → YieldsIn P ops C oi v a →
      wpHead P md ops C n L k (listed.setIfInBounds i true) (a.put oi.dst v) → wpHead P md ops C n L (k + 1) listed a := by
  induction k with
  | zero =>
    intro listed a inv _ hr hy H
    refine ⟨List.ne_nil_of_mem hr, fun j hj => ?_⟩
    have hjn : j < n := Nat.lt_of_not_le fun h => tail_waits hs hc hn inv _ i rfl hin (mem_ready.1 hr).1 j h hj
    refine ⟨hjn, ?_⟩
    by_cases e : j = i
    · subst e; exact hy.qOp hi H
    · exact absurd (hdone _ _ H j (ready_mono hj e)) (by omega)
  | succ k ih =>
    intro listed a inv hfree hr hy H
    refine ⟨List.ne_nil_of_mem hr, fun j hj => ?_⟩
    have hjn : j < n := Nat.lt_of_not_le fun h => tail_waits hs hc hn inv _ i rfl hin (mem_ready.1 hr).1 j h hj
    refine ⟨hjn, ?_⟩
    by_cases e : j = i
    · subst e; exact hy.qOp hi H
    obtain ⟨hjun, oj, hoj, hall⟩ := mem_ready.1 hj
    have hnot : ∀ e ∈ oj.after, Region.binds md e = true → e.on ≠ i := fun e he hb heq => by
      have h1 := hall e he hb
      rw [heq, getD_both (mem_ready.1 hr).1] at h1
      cases h1
    have h2 := qOp_put hoj (hfree j oj hoj e hjun hnot) (fun cs b => hsel i oi cs b hi) (fun cs b => hsel j oj cs b hoj) hy (H.2 j (ready_mono hj e)).2
    refine qOp_mono (fun a' h3 => ih (listed.setIfInBounds j true) a' (inv.set hj hjn) (fun k ok hk hki hun hno => hfree k ok hk hki ?_ hno) (ready_mono hr (Ne.symm e)) h3.1 ?_) h2
    · by_cases hjk : j = k
      · subst hjk; exact hjun
      · rwa [getD_set_ne true hjk] at hun
    · rw [Array.setIfInBounds_comm _ _ e]; exact h3.2

theorem wpHead_lex {n g : Nat} {Lq : Act → Prop} (hsel : Region.noSelect ops = true) (hs : Region.sinkB md ops n = true) (hc : Region.chainB md ops n = true) (hn : n < ops.size) (l : List Oper) :
    ∀ (k : Nat) (listed : Array Bool) (a : Act), (∀ j, j < l.length → l[j]? = ops[k + j]?) → k + l.length = n → HeadInv md ops n listed →
    Region.lexHead md ops g l.length k listed = true → wpQuiet P ops C Lq l a →
    wpHead P md ops C n (fun listed' a' => Region.seqB md ops g n listed' = true ∧ Lq a') l.length listed a := by
  induction l with
  | nil =>
    intro k listed a _ hk _ hB h
    have e : k = n := by simpa using hk
    subst e
    exact ⟨by simpa [Region.lexHead] using hB, h⟩
  | cons o l ih =>
    intro k listed a hl hk inv hB h
    have h0 : ops[k]? = some o := by simpa using (hl 0 (by simp)).symm
    simp only [List.length_cons] at hk
    simp only [List.length_cons, Region.lexHead, Bool.and_eq_true] at hB
    have hr : k ∈ Region.ready md ops listed := by simpa using hB.1.1
    have hst : qOp P ops C k (wpQuiet P ops C Lq l) a := by unfold qOp; simp only [h0]; exact h
    obtain ⟨v, hy, hK⟩ := yieldsIn_of_qOp h0 hst
    exact wpHead_first h0 (Region.noSelect_spec hsel) hs hc hn (by omega) (fun _ _ hL => seqB_ready hL.1) l.length listed a inv (Region.free_spec h0 hB.1.2) hr hy
      (ih (k + 1) _ _ (fun j hj => by have := hl (j + 1) (by simp; omega); simpa [Nat.add_assoc, Nat.add_comm 1 j] using this) (by omega) (inv.set hr (by omega)) hB.2 hK)

/-- One walk of the head in the text's order, then the tail, from every world that the head may leave. -/
theorem wp_region_head_tail {id : Nat} {Q : Exit → Act → World → Prop} {a : Act} {w : World} {l : List Oper} (n : Nat) (hm : P.follows .mixedOrders = true) (hB : Region.lexTailB .any l.toArray n = true) (hC : C w.drew)
    (h : wpQuiet P l.toArray C (fun a' => ∀ w', C w' → wpList P l.toArray Q (l.drop n) a' w') (l.take n) a) : (Code.region id l.toArray true).wp P Q a w := by
  simp only [Region.lexTailB, Bool.and_eq_true, decide_eq_true_eq] at hB
  obtain ⟨⟨⟨⟨hsel, hn⟩, hs⟩, hc⟩, hlex⟩ := hB
  have hn' : n < l.length := by simpa using hn
  have htl : (l.take n).length = n := by simp; omega
  have hdl : (l.drop n).length = l.toArray.size - n := by simp
  have inv0 : HeadInv .any l.toArray n (Array.replicate l.toArray.size false) :=
    ⟨by simp, fun j oj _ hl => (by rw [getD_replicate_false] at hl; cases hl), fun t _ ht => getD_in (by simpa using ht) (getD_replicate_false _ _)⟩
  have H := wpHead_lex (md := .any) (g := l.toArray.size - n) hsel hs hc hn (l.take n) 0 _ a (fun j hj => by
    rw [htl] at hj
    simp [hj]) (by simpa using htl) inv0 (by rw [htl]; exact hlex) h
  refine wp_region_any hm ?_
  have := wpHead_any (Q := Q) (g := l.toArray.size - n) (fun listed a' w' hw' hL => by
    have := wpAny_of_seq (md := .any) (Q' := Q) (l.drop n) n listed a' w' (fun j => by simp [List.getElem?_drop]) (by rw [hdl]; exact hL.1) (hL.2 w' hw')
    rwa [hdl] at this) _ _ _ w.drew hC H
  rw [htl, show n + (l.toArray.size - n) = l.toArray.size from by omega] at this
  exact this

/-- One operation that yields v and leaves the world. -/
theorem head_op {Q : Act → Prop} {a : Act} {o : Oper} {rest : List Oper} {v : Value} (hg : o.guard = none) (hr : ∀ w, C w → (execOp a.eval o).run P w = .ok (.value v) w)
    (h : ∀ K : Act → Prop, (∀ a, wpQuiet P ops C Q rest a → K a) → K (a.put o.dst v)) : wpQuiet P ops C Q (o :: rest) a := by
  unfold wpQuiet
  rw [if_pos (by simp [Region.wanted, hg])]
  refine ⟨v, fun w hw => ?_, h _ fun _ h => h⟩
  unfold Oper.quietAt
  rw [hr w hw]; exact ⟨rfl, rfl⟩
/-- One call. -/
theorem head_call {Q : Act → Prop} {a : Act} {o : Oper} {rest : List Oper} {v : Value} {f : FuncId} {args : Array Value} (hg : o.guard = none) (hr : ∀ w, C w → (execOp a.eval o).run P w = .ok (.enter f args) w)
    (hc : ∀ w, C w → Calls P f args w fun e w' => e = .returned v ∧ C w')
    (h : ∀ K : Act → Prop, (∀ a, wpQuiet P ops C Q rest a → K a) → K (a.put o.dst v)) : wpQuiet P ops C Q (o :: rest) a := by
  unfold wpQuiet
  rw [if_pos (by simp [Region.wanted, hg])]
  refine ⟨v, fun w hw => ?_, h _ fun _ h => h⟩
  unfold Oper.quietAt
  rw [hr w hw]; exact ⟨rfl, hc w hw⟩
end

/-- Whatever lay in W lies in w, unchanged. -/
def Ext (W w : World) : Prop := Below W.heap.size W w
theorem Ext.drew1 (W : World) : Ext W W.drew := (Below.refl _ _).drew
theorem Ext.step {W w w' : World} (h : Ext W w) (h2 : Below w.heap.size w w') : Ext W w' := ext_trans h h2
theorem Ext.cell {W : World} {a : Addr} {v : Value} (h : W.cell? a = some v) : ∀ w', Ext W w' → w'.cell? a = some v := fun _ hw => cell_later hw h
theorem Ext.blk {f : FP} {W w : World} {D : Nat} {l : List (El f)} (h : Blk W D l) (hw : Ext W w) : Blk w D l := h.later hw
theorem mult_ext {f : FP} {W : World} (g : Nat) (a b : El f) (hg : IsGF W f g) : ∀ w, Ext W w →
    Calls Try.prog 76 #[.pointer (some ⟨g, 0, none⟩), .int .i64 a.val, .int .i64 b.val] w fun e w' => e = .returned (.int .i64 (a * b).val) ∧ Ext W w' :=
  fun w hw => (mult_any g a b w (hg.later hw)).mono fun _ _ ⟨he, n, hn⟩ => ⟨he, hn ▸ hw.step (drewN_below w n)⟩
theorem xor_ext {f : FP} {W : World} (a b : El f) : ∀ w, Ext W w →
    Calls Try.prog 78 #[.int .i64 a.val, .int .i64 b.val] w fun e w' => e = .returned (.int .i64 (a + b).val) ∧ Ext W w' :=
  fun w hw => (xor_any a b w).mono fun _ _ ⟨he, hn⟩ => ⟨he, hn ▸ hw⟩
end Go.Proofs.Ytjgclomokekogaa
