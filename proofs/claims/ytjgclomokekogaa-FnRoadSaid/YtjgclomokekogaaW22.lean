/- Lists of ints as they come in; which of them are elements of a field. -/
import Derived.Test.YtjgclomokekogaaW21
namespace Go.Proofs.Ytjgclomokekogaa
open Go.RowKit Rs

/-- The value v is a slice of the ints l. -/
def Ints (w : World) (v : Value) (l : List Int) : Prop :=
  (l = [] ∧ ∃ a cap, v = .slice a 0 cap) ∨
  (∃ b off cap, v = .slice (some ⟨b, off, none⟩) l.length cap ∧ 1 ≤ l.length ∧ l.length ≤ cap ∧ cap ≤ maxLen ∧ ∀ j (hj : j < l.length), w.cell? ⟨b, off + j, none⟩ = some (.int .i64 l[j]))
/-- Elements of the field. -/
def InP (n : Int) (l : List Int) : Prop := 0 < fA n ∧ ∀ a ∈ l, 0 ≤ a ∧ a < fA n
def InR (n : Int) (l : List Int) (w : World) (e : Ending) (w' : World) : Prop := ∃ b, e = .returned (.bool b) ∧ (b = true → InP n l) ∧ (InP n l → b = true) ∧ Below w.heap.size w w'
theorem Ints.later {w w' : World} {v : Value} {l : List Int} (h : Ints w v l) (hb : Below w.heap.size w w') : Ints w' v l := by
  rcases h with ⟨h1, a, cap, h2⟩ | ⟨b, off, cap, h1, h2, h3, h4, h5⟩
  · exact Or.inl ⟨h1, a, cap, h2⟩
  · exact Or.inr ⟨b, off, cap, h1, h2, h3, h4, fun j hj => cell_later hb (h5 j hj)⟩
theorem Ints.shape {w : World} {v : Value} {l : List Int} (h : Ints w v l) : ∃ a cap, v = .slice a l.length cap := by
  rcases h with ⟨h1, a, cap, h2⟩ | ⟨b, off, cap, h1, h2, h3, h4, h5⟩
  · subst h1; exact ⟨a, cap, h2⟩
  · exact ⟨_, _, h1⟩
/-- In the field, the ints are its elements. -/
theorem inp_el {n : Int} {f : FP} (hf : fpn n = some f) {l : List Int} (h : InP n l) : ∃ l' : List (El f), l'.map (fun a => (a.val : Int)) = l := by
  have hs := (fpn_par n f hf).1
  obtain ⟨_, h⟩ := h
  induction l with
  | nil => exact ⟨[], rfl⟩
  | cons a t ih =>
    obtain ⟨t', ht⟩ := ih (fun x hx => h x (List.mem_cons_of_mem _ hx))
    have ha := h a (List.mem_cons_self ..)
    have hlt : a.toNat < f.size := by rw [hs] at ha; omega
    refine ⟨⟨a.toNat, hlt⟩ :: t', ?_⟩
    rw [List.map_cons, ht]
    congr 1
    show ((a.toNat : Nat) : Int) = a
    omega
theorem inp_fp {n : Int} {l : List Int} (h : InP n l) : ∃ f, fpn n = some f := by
  cases hf : fpn n with
  | some f => exact ⟨f, rfl⟩
  | none => have := fpn_size n hf; have := h.1; omega

set_option maxHeartbeats 4000000 in
theorem in_any (n : Int) (v : Value) (l : List Int) (w : World) (hl : Ints w v l) (hm : l.length ≤ 100000) : Calls Try.prog 14 #[.int .i64 n, v] w (InR n l w) := by
  rcases hl with ⟨rfl, a, cap, rfl⟩ | ⟨b, off, cap, rfl, hl1, hlc, hcm, hc⟩
  · by_cases h0 : 0 < fA n
    · have e0 := decide_eq_true h0
      have HF := fun w1 (hb : Below w.heap.size w w1) => Lib.hid (show InR n [] w (.returned (.bool true)) w1 from ⟨true, rfl, (fun _ => ⟨h0, by simp⟩), (fun _ => rfl), hb⟩)
      clear h0
      go_enter Try.func14, Try.ntmps14
      go_wp2
      refine wp_loop_rounds 1 ?_
      rw [rounds_succ]
      go_wp2_with (go_at_call 31; refine (size_any _ _).mono ?_; rintro e w1 ⟨rfl, hb⟩)
      go_ret
      exact (HF _ hb).out
    · have e0 := decide_eq_false h0
      have HF := fun w1 (hb : Below w.heap.size w w1) => Lib.hid (show InR n [] w (.returned (.bool false)) w1 from ⟨false, rfl, (by simp), (fun h => absurd h.1 h0), hb⟩)
      clear h0
      go_enter Try.func14, Try.ntmps14
      go_wp2
      refine wp_loop_rounds 1 ?_
      rw [rounds_succ]
      go_wp2_with (go_at_call 31; refine (size_any _ _).mono ?_; rintro e w1 ⟨rfl, hb⟩)
      go_ret
      exact (HF _ hb).out
  · have HC := Lib.hid hc
    have hz : ¬ l.length = 0 := by omega
    clear hc
    go_enter Try.func14, Try.ntmps14
    go_wp2
    go_loopw [6, 9] (fun x i wr => ∃ k : Nat, k ≤ l.length ∧ i = .int .i64 k ∧ (∀ j (hj : j < l.length), j < k → 0 ≤ l[j] ∧ l[j] < fA n) ∧ Below w.heap.size w wr) (fun _ i _ => l.length - (intOf i).toNat)
    case atStart => exact ⟨0, by omega, rfl, by intro j hj h; omega, Below.refl _ _⟩
    case round =>
      obtain ⟨k, hk, rfl, hpre, hb⟩ := hrel
      have HP := Lib.hid hpre
      clear hpre
      by_cases hlt : k < l.length
      · have hx := cell_later hb (HC.out k hlt)
        by_cases hneg : l[k] < 0
        · have e0 := decide_eq_true hneg
          have HF := Lib.hid (show ¬ InP n l from fun h => by have := (h.2 l[k] (List.getElem_mem hlt)).1; omega)
          clear hneg
          go_wp2_with fail
          go_ret
          exact ⟨false, rfl, by simp, fun h => absurd h HF.out, hb⟩
        · have e0 := decide_eq_false hneg
          by_cases hbig : fA n ≤ l[k]
          · have e1 := decide_eq_true hbig
            have HF := Lib.hid (show ¬ InP n l from fun h => by have := (h.2 l[k] (List.getElem_mem hlt)).2; omega)
            clear hneg hbig
            go_wp2_with (go_at_call 31; refine (size_any _ _).mono ?_; rintro e w1 ⟨rfl, hb1⟩)
            go_ret
            exact ⟨false, rfl, by simp, fun h => absurd h HF.out, ext_trans hb hb1⟩
          · have e1 := decide_eq_false hbig
            have HQ : Hid (∀ j (hj : j < l.length), j < k + 1 → 0 ≤ l[j] ∧ l[j] < fA n) := by
              intro j hj hjk
              by_cases e : j = k
              · subst e; exact ⟨by omega, by omega⟩
              · exact HP.out j hj (by omega)
            clear hneg hbig
            go_wp2_with (go_at_call 31; refine (size_any _ _).mono ?_; rintro e w1 ⟨rfl, hb1⟩)
            go_roundw
            case rel => exact ⟨k + 1, by omega, by go_num, HQ.out, ext_trans hb hb1⟩
            case measure => simp [intOf]; omega
      · have HQ : Hid (0 < fA n → InP n l) := fun h0 => ⟨h0, fun a ha => by
          obtain ⟨j, hj, rfl⟩ := List.getElem_of_mem ha
          exact HP.out j hj (by omega)⟩
        by_cases h0 : 0 < fA n
        · have e0 := decide_eq_true h0
          have HF := Lib.hid (HQ.out h0)
          clear h0 HQ
          go_wp2_with (go_at_call 31; refine (size_any _ _).mono ?_; rintro e w1 ⟨rfl, hb1⟩)
          go_ret
          exact ⟨true, rfl, fun _ => HF.out, fun _ => rfl, ext_trans hb hb1⟩
        · have e0 := decide_eq_false h0
          have HF := Lib.hid (show ¬ InP n l from fun h => h0 h.1)
          clear h0 HQ
          go_wp2_with (go_at_call 31; refine (size_any _ _).mono ?_; rintro e w1 ⟨rfl, hb1⟩)
          go_ret
          exact ⟨false, rfl, by simp, fun h => absurd h HF.out, ext_trans hb hb1⟩
end Go.Proofs.Ytjgclomokekogaa
