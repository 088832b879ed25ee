/- How the package's fields and polynomials lie in memory, and that they stay where a call only makes new memory. -/
import Derived.Test.YtjgclomokekogaaW1
import Derived.Test.YtjgclomokekogaaNum
namespace Go.Proofs.Ytjgclomokekogaa
open Go.RowKit Rs

/-- The cells of block b from off on read as the elements l. -/
def Cells {f : FP} (w : World) (b off : Nat) (l : List (El f)) : Prop := ∀ k (h : k < l.length), w.cell? ⟨b, off + k, none⟩ = some (.int .i64 l[k].val)
/-- No nought ahead. -/
def Nf {f : FP} (l : List (El f)) : Prop := ∃ c t, l = c :: t ∧ (t = [] ∨ c ≠ 0)
/-- The polynomial l over the field at block g lies at block q. -/
def IsPoly {f : FP} (w : World) (g q : Nat) (l : List (El f)) : Prop :=
  Nf l ∧ w.cell? ⟨q, 0, none⟩ = some (.pointer (some ⟨g, 0, none⟩)) ∧
    ∃ b off cap, (l.length ≤ cap ∧ l.length ≤ 100000) ∧ w.cell? ⟨q, 1, none⟩ = some (.slice (some ⟨b, off, none⟩) l.length cap) ∧ Cells w b off l
/-- The field f lies at block g, its tables at e and l, its polynomials 0 and 1 at z and o. -/
structure GFAt (w : World) (f : FP) (g e l z o : Nat) : Prop where
  c0 : w.cell? ⟨g, 0, none⟩ = some (.slice (some ⟨e, 0, none⟩) f.size f.size)
  c1 : w.cell? ⟨g, 1, none⟩ = some (.slice (some ⟨l, 0, none⟩) f.size f.size)
  c2 : w.cell? ⟨g, 2, none⟩ = some (.pointer (some ⟨z, 0, none⟩))
  c3 : w.cell? ⟨g, 3, none⟩ = some (.pointer (some ⟨o, 0, none⟩))
  c4 : w.cell? ⟨g, 4, none⟩ = some (.int .i64 f.size)
  c6 : w.cell? ⟨g, 6, none⟩ = some (.int .i64 f.base)
  exp : ∀ i, i < f.size → w.cell? ⟨e, i, none⟩ = some (.int .i64 (El.exp f i).val)
  log : ∀ a : El f, a ≠ 0 → w.cell? ⟨l, a.val, none⟩ = some (.int .i64 a.log)
  zero : IsPoly w g z [(0 : El f)]
  one : IsPoly w g o [(1 : El f)]
def IsGF (w : World) (f : FP) (g : Nat) : Prop := ∃ e l z o, GFAt w f g e l z o

theorem Cells.later {f : FP} {w w' : World} {b off : Nat} {l : List (El f)} (h : Cells w b off l) (hb : Below w.heap.size w w') : Cells w' b off l :=
  fun k hk => cell_later hb (h k hk)
theorem IsPoly.later {f : FP} {w w' : World} {g q : Nat} {l : List (El f)} (h : IsPoly w g q l) (hb : Below w.heap.size w w') : IsPoly w' g q l := by
  obtain ⟨h1, h2, b, off, cap, h3, h4, h5⟩ := h
  exact ⟨h1, cell_later hb h2, b, off, cap, h3, cell_later hb h4, h5.later hb⟩
theorem GFAt.later {f : FP} {w w' : World} {g e l z o : Nat} (h : GFAt w f g e l z o) (hb : Below w.heap.size w w') : GFAt w' f g e l z o where
  c0 := cell_later hb h.c0
  c1 := cell_later hb h.c1
  c2 := cell_later hb h.c2
  c3 := cell_later hb h.c3
  c4 := cell_later hb h.c4
  c6 := cell_later hb h.c6
  exp i hi := cell_later hb (h.exp i hi)
  log a ha := cell_later hb (h.log a ha)
  zero := h.zero.later hb
  one := h.one.later hb
theorem IsGF.later {f : FP} {w w' : World} {g : Nat} (h : IsGF w f g) (hb : Below w.heap.size w w') : IsGF w' f g := by
  obtain ⟨e, l, z, o, h⟩ := h; exact ⟨e, l, z, o, h.later hb⟩
theorem below_drewN {B : Nat} {a w : World} (h : Below B a w) (n : Nat) : Below B a (w.drewN n) := h.trans ⟨rfl, rfl, rfl, Nat.le_refl _, fun _ _ => rfl⟩
theorem ext_trans {w w1 w2 : World} (h : Below w.heap.size w w1) (h2 : Below w1.heap.size w1 w2) : Below w.heap.size w w2 := h.trans (h2.mono h.size)
theorem drewN_below (w : World) (n : Nat) : Below w.heap.size w (w.drewN n) := below_drewN (Below.refl _ _) n
theorem IsGF.drewN {f : FP} {w : World} {g : Nat} (h : IsGF w f g) (n : Nat) : IsGF (w.drewN n) f g := h.later (drewN_below w n)
theorem IsPoly.drewN {f : FP} {w : World} {g q : Nat} {l : List (El f)} (h : IsPoly w g q l) (n : Nat) : IsPoly (w.drewN n) g q l := h.later (drewN_below w n)
/-- A world behind some draws. -/
def Dr (w w' : World) : Prop := ∃ n, w' = w.drewN n
theorem Dr.refl (w : World) : Dr w w := ⟨0, rfl⟩
theorem Dr.step {w w' : World} (h : Dr w w') (n : Nat) : Dr w (w'.drewN n) := by
  obtain ⟨m, rfl⟩ := h; exact ⟨m + n, by rw [World.drewN_drewN]⟩
theorem Dr.below {w w' : World} (h : Dr w w') : Below w.heap.size w w' := by
  obtain ⟨m, rfl⟩ := h; exact drewN_below w m
theorem ret_int {k : IntKind} {a b : Int} (h : a = b) : Ending.returned (.int k a) = .returned (.int k b) := by rw [h]
theorem Nf.pos {f : FP} {l : List (El f)} (h : Nf l) : 0 < l.length := by obtain ⟨c, t, rfl, _⟩ := h; simp
theorem Nf.zero {f : FP} : Nf [(0 : El f)] := ⟨0, [], rfl, Or.inl rfl⟩
theorem Nf.head {f : FP} {l : List (El f)} (h : Nf l) (hz : l ≠ [0]) (hl : 0 < l.length) : l[0] ≠ 0 := by
  obtain ⟨c, t, rfl, h1⟩ := h
  rcases h1 with rfl | h1
  · intro e; exact hz (by simp at e; rw [e])
  · exact h1
theorem beq_val {f : FP} (a b : El f) : ((a.val : Int) == (b.val : Int)) = decide (a = b) := by
  by_cases h : a = b
  · subst h; simp
  · have : a.val ≠ b.val := fun e => h (El.ext e)
    rw [decide_eq_false h, beq_eq_false_iff_ne]; omega
end Go.Proofs.Ytjgclomokekogaa
