/- The package's making of a polynomial out of coefficients. -/
import Derived.Test.YtjgclomokekogaaW3
namespace Go.Proofs.Ytjgclomokekogaa
open Go.RowKit Rs

theorem ps_cons_zero {f : FP} (l : List (El f)) : ps ((0 : El f) :: l) = ps l := by
  simp only [ps]; rw [mon_zero]; exact zero_add _
theorem ps_drop {f : FP} (l : List (El f)) (k : Nat) (h : ∀ j (hj : j < l.length), j < k → l[j] = 0) : ps (l.drop k) = ps l := by
  induction k generalizing l with
  | zero => rfl
  | succ k ih =>
    cases l with
    | nil => rfl
    | cons c t =>
      have hc : c = 0 := h 0 (by simp) (by omega)
      rw [List.drop_succ_cons, ih t (fun j hj hk => by have := h (j + 1) (by simp; omega) (by omega); simpa using this), hc, ps_cons_zero]
theorem ps_all_zero {f : FP} (l : List (El f)) (h : ∀ j (hj : j < l.length), l[j] = 0) : ps [(0 : El f)] = ps l := by
  rw [← ps_drop l l.length (fun j hj _ => h j hj), List.drop_length, ps_cons_zero]
theorem nf_drop {f : FP} (l : List (El f)) (k : Nat) (hk : k < l.length) (h : l[k] ≠ 0) : Nf (l.drop k) :=
  ⟨l[k], l.drop (k + 1), (List.drop_eq_getElem_cons hk), Or.inr h⟩
theorem nf_one {f : FP} (l : List (El f)) (h : l.length = 1) : Nf l := by
  match l, h with
  | [c], _ => exact ⟨c, [], rfl, Or.inl rfl⟩
theorem nf_head {f : FP} (l : List (El f)) (h : 0 < l.length) (h0 : l[0] ≠ 0) : Nf l := by
  have := nf_drop l 0 h h0; rwa [List.drop_zero] at this
theorem Cells.drop {f : FP} {w : World} {b off : Nat} {l : List (El f)} (h : Cells w b off l) (k : Nat) : Cells w b (off + k) (l.drop k) := by
  intro j hj
  rw [List.length_drop] at hj
  have := h (k + j) (by omega)
  rw [List.getElem_drop, Nat.add_assoc]; exact this
theorem block_lt {w : World} {b o : Nat} {v : Value} (h : w.cell? ⟨b, o, none⟩ = some v) : b < w.heap.size := World.block_lt_of_cell? _ _ h
/-- What the new polynomial is good for. -/
def NewPoly {f : FP} (w : World) (g : Nat) (p : Ps (El f)) (n : Nat) (e : Ending) (w' : World) : Prop :=
  ∃ (q : Nat) (l : List (El f)), e = .returned (.tuple #[.pointer (some ⟨q, 0, none⟩), .nilIface]) ∧ IsPoly w' g q l ∧ ps l = p ∧ l.length ≤ n ∧ Below w.heap.size w w'
/-- The polynomial at q lies in blocks from B on. -/
def Fr (B : Nat) (w : World) (q : Nat) : Prop := B ≤ q ∧ ∃ b off len cap, B ≤ b ∧ w.cell? ⟨q, 1, none⟩ = some (.slice (some ⟨b, off, none⟩) len cap)
/-- The same, and that it lies in blocks from B on. -/
def NewPolyF {f : FP} (B : Nat) (w : World) (g : Nat) (p : Ps (El f)) (n : Nat) (e : Ending) (w' : World) : Prop :=
  ∃ (q : Nat) (l : List (El f)), e = .returned (.tuple #[.pointer (some ⟨q, 0, none⟩), .nilIface]) ∧ IsPoly w' g q l ∧ ps l = p ∧ l.length ≤ n ∧ Below w.heap.size w w' ∧ Fr B w' q
theorem NewPolyF.plain {f : FP} {B : Nat} {w : World} {g : Nat} {p : Ps (El f)} {n : Nat} {e : Ending} {w' : World} (h : NewPolyF B w g p n e w') : NewPoly w g p n e w' := by
  obtain ⟨q, l, h1, h2, h3, h4, h5, _⟩ := h; exact ⟨q, l, h1, h2, h3, h4, h5⟩
theorem fr_made {B g b off len cap : Nat} {w : World} {T : TypeId} (h1 : B ≤ w.heap.size) (h2 : B ≤ b) : Fr B (w.alloc (.cells #[.pointer (some ⟨g, 0, none⟩), .slice (some ⟨b, off, none⟩) len cap] T)) w.heap.size :=
  ⟨h1, b, off, len, cap, h2, by rw [World.cell?_alloc_at _ _ _ _ rfl]; rfl⟩
theorem Fr.later {B q : Nat} {w w' : World} (h : Fr B w q) (hb : Below w.heap.size w w') : Fr B w' q := by
  obtain ⟨h1, b, off, len, cap, h2, h3⟩ := h; exact ⟨h1, b, off, len, cap, h2, cell_later hb h3⟩
/-- A polynomial stays where one other block is written. -/
theorem IsPoly.grown {f : FP} {w w' : World} {B g q c : Nat} {l : List (El f)} (h : IsPoly w g q l) (hf : Fr B w q) (hg : w.grownBy w' (some c)) (hc : c < B) : IsPoly w' g q l := by
  obtain ⟨h1, h2, b, off, cap, h3, h4, h5⟩ := h
  obtain ⟨f1, b', off', len', cap', f2, f3⟩ := hf
  rw [h4] at f3
  simp only [Option.some.injEq, Value.slice.injEq, Addr.mk.injEq] at f3
  have e : b = b' := f3.1.1
  have hq : w'.heap[q]? = w.heap[q]? := hg.block q (block_lt h2) (by simp; omega)
  have hcell : ∀ o, w'.cell? ⟨q, o, none⟩ = w.cell? ⟨q, o, none⟩ := fun o => World.cell?_of_block (w := w) hq
  refine ⟨h1, by rw [hcell]; exact h2, b, off, cap, h3, by rw [hcell]; exact h4, fun k hk => ?_⟩
  have hb : w'.heap[b]? = w.heap[b]? := hg.block b (block_lt (h5 k hk)) (by simp; omega)
  rw [World.cell?_of_block (w := w) (a := ⟨b, off + k, none⟩) hb]; exact h5 k hk
theorem poly_made {f : FP} {w : World} {g b off cap : Nat} {l : List (El f)} {T : TypeId} (hn : Nf l) (h : Cells w b off l) (hc : l.length ≤ cap) (hm : l.length ≤ 100000) :
    IsPoly (w.alloc (.cells #[.pointer (some ⟨g, 0, none⟩), .slice (some ⟨b, off, none⟩) l.length cap] T)) g w.heap.size l := by
  refine ⟨hn, ?_, b, off, cap, ⟨hc, hm⟩, ?_, ?_⟩
  · rw [World.cell?_alloc_at _ _ _ _ rfl]; rfl
  · rw [World.cell?_alloc_at _ _ _ _ rfl]; rfl
  · exact h.later ((Below.refl _ _).alloc (Nat.le_refl _) _)

set_option maxHeartbeats 1000000 in
theorem newpoly_anyF {f : FP} (B g b off cap : Nat) (l : List (El f)) (hl : 0 < l.length) (hm : l.length ≤ 100000) (hc : l.length ≤ cap) (w : World) (h : Cells w b off l) (hBb : B ≤ b) (hBw : B ≤ w.heap.size) :
    Calls Try.prog 66 #[.pointer (some ⟨g, 0, none⟩), .slice (some ⟨b, off, none⟩) l.length cap] w (NewPolyF B w g (ps l) l.length) := by
  have hx0 := h 0 hl
  rw [Nat.add_zero] at hx0
  have hbl := block_lt hx0
  by_cases h1 : l.length ≤ 1
  · have H : ∀ w', w' = w.alloc (.cells #[.pointer (some ⟨g, 0, none⟩), .slice (some ⟨b, off, none⟩) l.length cap] 86) → NewPolyF B w g (ps l) l.length (.returned (.tuple #[.pointer (some ⟨w.heap.size, 0, none⟩), .nilIface])) w' := by
      rintro _ rfl
      exact ⟨_, l, rfl, poly_made (nf_one l (by omega)) h hc hm, rfl, Nat.le_refl _, (Below.refl _ _).alloc (Nat.le_refl _) _, fr_made hBw hBb⟩
    go_enter Try.func66, Try.ntmps66
    go_wp2
    go_ret2
    exact H _ rfl
  by_cases h2 : l[0] = 0
  · rw [h2, show ((0 : El f).val : Int) = 0 from rfl] at hx0
    have Hb := Lib.hid h
    have Hz : Hid (∀ j (hj : j < l.length), j < 1 → l[j] = 0) := fun j hj h1 => by
      have : j = 0 := by omega
      subst this; exact h2
    clear h h2
    have H : ∀ k, k < l.length → (∀ j (hj : j < l.length), j < k → l[j] = 0) → ∀ hk : k < l.length, l[k] ≠ 0 → ∀ w', w' = w.alloc (.cells #[.pointer (some ⟨g, 0, none⟩), .slice (some ⟨b, off + k, none⟩) (l.length - k) (cap - k)] 86) → NewPolyF B w g (ps l) l.length (.returned (.tuple #[.pointer (some ⟨w.heap.size, 0, none⟩), .nilIface])) w' := by
      rintro k _ hz hk hne _ rfl
      have hd := poly_made (T := 86) (g := g) (cap := cap - k) (nf_drop l k hk hne) (Hb.out.drop k) (by rw [List.length_drop]; omega) (by rw [List.length_drop]; omega)
      rw [List.length_drop] at hd
      exact ⟨_, l.drop k, rfl, hd, ps_drop l k hz, by rw [List.length_drop]; omega, (Below.refl _ _).alloc (Nat.le_refl _) _, fr_made hBw hBb⟩
    have H0 : (∀ j (hj : j < l.length), j < l.length → l[j] = 0) → ∀ w', w' = (w.alloc (.cells #[.pointer (some ⟨g, 0, none⟩), .slice (some ⟨w.heap.size + 1, 0, none⟩) 1 1] 86)).alloc (.cells #[.int .i64 0] 3) → NewPolyF B w g (ps l) l.length (.returned (.tuple #[.pointer (some ⟨w.heap.size, 0, none⟩), .nilIface])) w' := by
      rintro hz _ rfl
      refine ⟨_, [0], rfl, ⟨Nf.zero, ?_, w.heap.size + 1, 0, 1, ⟨Nat.le_refl _, by simp⟩, ?_, ?_⟩, ps_all_zero l fun j hj => hz j hj hj, by simp; omega, ((Below.refl _ _).alloc (Nat.le_refl _) _).alloc (by simp) _, (fr_made hBw (by omega)).later ((Below.refl _ _).alloc (Nat.le_refl _) _)⟩
      · rw [World.cell?_alloc_past _ _ _ (by simp), World.cell?_alloc_at _ _ _ _ rfl]; rfl
      · rw [World.cell?_alloc_past _ _ _ (by simp), World.cell?_alloc_at _ _ _ _ rfl]; rfl
      · intro k hk
        simp at hk; subst hk
        rw [World.cell?_alloc_at _ _ _ _ (by simp)]; rfl
    have H' := Lib.hid H
    have H0' := Lib.hid H0
    clear H H0
    go_enter Try.func66, Try.ntmps66
    go_wp2
    go_loop [8] (fun i => ∃ k : Nat, 1 ≤ k ∧ k ≤ l.length ∧ (∀ j (hj : j < l.length), j < k → l[j] = 0) ∧ i = .int .i64 k) (fun i => l.length - (intOf i).toNat)
    case atStart => exact ⟨1, by omega, by omega, Hz.out, rfl⟩
    case round =>
      obtain ⟨k, hk1, hk, hz, rfl⟩ := hrel
      have HZ := Lib.hid hz
      clear hz
      by_cases hlt : k < l.length
      · have hx := cell_later ((Below.refl _ _).alloc (Nat.le_refl _) (.cells #[.pointer (some ⟨g, 0, none⟩), .slice none 0 0] 86)) (Hb.out k hlt)
        by_cases hne : l[k] = 0
        · have HN : Hid (∀ j (hj : j < l.length), j < k + 1 → l[j] = 0) := by
            intro j hj hjk
            by_cases e : j = k
            · subst e; exact hne
            · exact HZ.out j hj (by omega)
          have e0 : ((l[k].val : Int) == 0) = true := by rw [hne]; rfl
          clear hne
          go_wp2
          go_round
          case rel => exact ⟨k + 1, by omega, by omega, HN.out, by go_num⟩
          case measure => simp [intOf]; omega
        · have e0 := val_ne hne
          have H2 := Lib.hid (H'.out k hlt HZ.out hlt hne)
          have e1 : ((k : Int) == (l.length : Int)) = false := by rw [beq_eq_false_iff_ne]; omega
          clear hne
          go_wp2
          go_ret2
          exact H2.out _ rfl
      · have HE : Hid (∀ j (hj : j < l.length), j < l.length → l[j] = 0) := fun j hj _ => HZ.out j hj (by omega)
        have e1 : ((k : Int) == (l.length : Int)) = true := by rw [beq_iff_eq]; omega
        go_wp2
        go_ret2
        exact H0'.out HE.out _ rfl
  · have h3 := val_ne h2
    have H : ∀ w', w' = w.alloc (.cells #[.pointer (some ⟨g, 0, none⟩), .slice (some ⟨b, off, none⟩) l.length cap] 86) → NewPolyF B w g (ps l) l.length (.returned (.tuple #[.pointer (some ⟨w.heap.size, 0, none⟩), .nilIface])) w' := by
      rintro _ rfl
      exact ⟨_, l, rfl, poly_made (nf_head l hl h2) h hc hm, rfl, Nat.le_refl _, (Below.refl _ _).alloc (Nat.le_refl _) _, fr_made hBw hBb⟩
    go_enter Try.func66, Try.ntmps66
    go_wp2
    go_ret2
    exact H _ rfl

/-- One coefficient: the world written out. -/
theorem newpoly_one (g b : Nat) (c : Value) (w : World) (h : w.cell? ⟨b, 0, none⟩ = some c) :
    Calls Try.prog 66 #[.pointer (some ⟨g, 0, none⟩), .slice (some ⟨b, 0, none⟩) 1 1] w fun e w' =>
      e = .returned (.tuple #[.pointer (some ⟨w.heap.size, 0, none⟩), .nilIface]) ∧ w' = w.alloc (.cells #[.pointer (some ⟨g, 0, none⟩), .slice (some ⟨b, 0, none⟩) 1 1] 86) := by
  have hbl := block_lt h
  go_enter Try.func66, Try.ntmps66
  go_wp2
  go_ret2
  exact ⟨rfl, rfl⟩
theorem newpoly_at {f : FP} (g b off cap n : Nat) (l : List (El f)) (hn : l.length = n) (hl : 0 < n) (hm : n ≤ 100000) (hc : n ≤ cap) (w : World) (h : Cells w b off l) :
    Calls Try.prog 66 #[.pointer (some ⟨g, 0, none⟩), .slice (some ⟨b, off, none⟩) n cap] w (NewPoly w g (ps l) n) := by
  subst hn; exact (newpoly_anyF 0 g b off cap l hl hm hc w h (Nat.zero_le _) (Nat.zero_le _)).mono fun _ _ h => h.plain
theorem newpoly_atF {f : FP} (B g b off cap n : Nat) (l : List (El f)) (hn : l.length = n) (hl : 0 < n) (hm : n ≤ 100000) (hc : n ≤ cap) (w : World) (h : Cells w b off l) (hBb : B ≤ b) (hBw : B ≤ w.heap.size) :
    Calls Try.prog 66 #[.pointer (some ⟨g, 0, none⟩), .slice (some ⟨b, off, none⟩) n cap] w (NewPolyF B w g (ps l) n) := by
  subst hn; exact newpoly_anyF B g b off cap l hl hm hc w h hBb hBw
end Go.Proofs.Ytjgclomokekogaa
