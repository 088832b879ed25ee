/- The reference's polynomials: without noughts ahead, and their products. -/
import Derived.Test.YtjgclomokekogaaW9
import Derived.Test.YtjgclomokekogaaW24
namespace Go.Proofs.Ytjgclomokekogaa
open Go.RowKit Rs

/-- A list without noughts ahead. -/
def trimL {f : FP} : List (El f) → List (El f)
  | [] => []
  | [a] => [a]
  | a :: b :: t => if a = 0 then trimL (b :: t) else a :: b :: t
theorem trimL_ne {f : FP} (l : List (El f)) (h : 1 ≤ l.length) : 1 ≤ (trimL l).length := by
  induction l with
  | nil => simp at h
  | cons a t ih =>
    cases t with
    | nil => simp [trimL]
    | cons b t =>
      unfold trimL
      split
      · exact ih (by simp)
      · simp
theorem trimL_nf {f : FP} (l : List (El f)) (h : 1 ≤ l.length) : Nf (trimL l) := by
  induction l with
  | nil => simp at h
  | cons a t ih =>
    cases t with
    | nil => exact ⟨a, [], rfl, Or.inl rfl⟩
    | cons b t =>
      unfold trimL
      split
      · exact ih (by simp)
      · exact ⟨a, b :: t, rfl, Or.inr (by assumption)⟩
theorem trimL_ps {f : FP} (l : List (El f)) : ps (trimL l) = ps l := by
  induction l with
  | nil => rfl
  | cons a t ih =>
    cases t with
    | nil => rfl
    | cons b t =>
      unfold trimL
      split
      · next h => rw [ih, h, ps_cons_zero]
      · rfl
theorem trimL_zero {f : FP} (l : List (El f)) (k : Nat) (h : k + 1 < l.length) (hz : l[k] = 0) : trimL (l.drop k) = trimL (l.drop (k + 1)) := by
  rw [List.drop_eq_getElem_cons (by omega), List.drop_eq_getElem_cons (i := k + 1) h, hz]
  rw [trimL, if_pos rfl]
theorem trimL_stop {f : FP} (l : List (El f)) (k : Nat) (h : k < l.length) (hz : k + 1 = l.length ∨ l[k] ≠ 0) : trimL (l.drop k) = l.drop k := by
  rw [List.drop_eq_getElem_cons h]
  rcases hz with hz | hz
  · rw [List.drop_eq_nil_of_le (by omega)]; rfl
  · cases hd : l.drop (k + 1) with
    | nil => rfl
    | cons b t => rw [trimL, if_neg hz]
/-- A slice of elements with its room. -/
def ElemsC {f : FP} (w : World) (v : Value) (l : List (El f)) : Prop :=
  ∃ b off cap, v = .slice (some ⟨b, off, none⟩) l.length cap ∧ 1 ≤ l.length ∧ l.length ≤ cap ∧ cap ≤ maxLen ∧ Cells w b off l
theorem ElemsC.elems {f : FP} {w : World} {v : Value} {l : List (El f)} (h : ElemsC w v l) : Elems w v l := by
  obtain ⟨b, off, cap, h1, h2, h3, h4, h5⟩ := h
  exact ⟨b, off, cap, h1, h2, by omega, h5⟩
theorem ElemsC.later {f : FP} {w w' : World} {v : Value} {l : List (El f)} (h : ElemsC w v l) (hb : Below w.heap.size w w') : ElemsC w' v l := by
  obtain ⟨b, off, cap, h1, h2, h3, h4, h5⟩ := h
  exact ⟨b, off, cap, h1, h2, h3, h4, h5.later hb⟩
def TrimR {f : FP} (l : List (El f)) (w : World) (e : Ending) (w' : World) : Prop := ∃ v, e = .returned v ∧ ElemsC w v (trimL l) ∧ w' = w

set_option maxHeartbeats 4000000 in
theorem trim_any {f : FP} (v : Value) (l : List (El f)) (w : World) (hv : ElemsC w v l) : Calls Try.prog 22 #[v] w (TrimR l w) := by
  obtain ⟨b, off, cap, rfl, hl1, hlc, hcm, hc⟩ := hv
  unfold maxLen at hcm
  have HC := Lib.hid hc
  clear hc
  go_enter Try.func22, Try.ntmps22
  go_wp2
  go_loopw [0] (fun s wr => ∃ k n c : Nat, n = l.length - k ∧ c = cap - k ∧ k < l.length ∧ s = .slice (some ⟨b, off + k, none⟩) n c ∧ trimL (l.drop k) = trimL l ∧ wr = w) (fun s _ => match s with | .slice _ n _ => n | _ => 0)
  case atStart => exact ⟨0, _, _, rfl, rfl, by omega, rfl, rfl, rfl⟩
  case round =>
    obtain ⟨k, m, c, hm, hcc, hk, rfl, htr, rfl⟩ := hrel
    have HT := Lib.hid htr
    have HM := Lib.hid hm
    have hm1 : m + k ≤ l.length := by omega
    have hm2 : l.length ≤ m + k := by omega
    have hc1 : c + k ≤ cap := by omega
    have hc2 : cap ≤ c + k := by omega
    clear htr hm hcc
    have hm0 : ((m : Int) == 0) = false := by simp; omega
    have hx := HC.out k hk
    by_cases h1 : 1 < m
    · have e1 : decide ((1 : Int) < (m : Int)) = true := by simp; omega
      by_cases hz : l[k] = 0
      · have HN : Hid (trimL (l.drop (k + 1)) = trimL l) := by rw [← HT.out]; exact (trimL_zero l k (by omega) hz).symm
        have hx0 : wr.cell? ⟨b, off + k, none⟩ = some (.int .i64 0) := by rw [hx, hz, El.zero_val]; rfl
        clear hx hz
        go_wp2
        go_roundw
        case rel => exact ⟨k + 1, m - 1, c - 1, by omega, by omega, by omega, rfl, HN.out, trivial⟩
        case measure => simp; omega
      · have hv0 : ((l[k].val : Int) == 0) = false := by
          exact val_ne hz
        have HF : Hid (trimL l = l.drop k) := by rw [← HT.out]; exact trimL_stop l k hk (Or.inr hz)
        clear hz
        go_wp2
        go_ret
        exact ⟨.slice (some ⟨b, off + k, none⟩) m c, rfl, by rw [HF.out]; exact ⟨b, off + k, c, by rw [List.length_drop, ← HM.out], by rw [List.length_drop]; omega, by rw [List.length_drop]; omega, by unfold maxLen; omega, HC.out.drop k⟩, rfl⟩
    · have e1 : decide ((1 : Int) < (m : Int)) = false := by simp; omega
      have HF : Hid (trimL l = l.drop k) := by rw [← HT.out]; exact trimL_stop l k hk (Or.inl (by omega))
      clear h1
      go_wp2
      go_ret
      exact ⟨.slice (some ⟨b, off + k, none⟩) m c, rfl, by rw [HF.out]; exact ⟨b, off + k, c, by rw [List.length_drop, ← HM.out], by rw [List.length_drop]; omega, by rw [List.length_drop]; omega, by unfold maxLen; omega, HC.out.drop k⟩, rfl⟩
theorem times_ext {f : FP} {W : World} (a b : El f) : ∀ w, Ext W w →
    Calls Try.prog 40 #[.agg #[.int .i64 f.size, .int .i64 f.p, .int .i64 f.base], .int .i64 a.val, .int .i64 b.val] w fun e w' => e = .returned (.int .i64 (a * b).val) ∧ Ext W w' :=
  fun w hw => (times_any f a.val b.val a.lt b.lt w).mono fun _ _ ⟨he, hn⟩ => ⟨he, hw.step hn⟩
end Go.Proofs.Ytjgclomokekogaa
