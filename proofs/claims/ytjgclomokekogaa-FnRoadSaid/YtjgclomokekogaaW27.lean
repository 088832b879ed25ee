/- The reference's generator, and the plain law of its division by a shift register. -/
import Derived.Test.YtjgclomokekogaaW26
namespace Go.Proofs.Ytjgclomokekogaa
open Go.RowKit Rs

/-- A fresh list of two elements. -/
theorem two_cellsW {f : FP} (x : El f) (w : World) : Cells (w.alloc (.cells #[.int .i64 1, .int .i64 x.val] 3)) w.heap.size 0 [(1 : El f), x] := fun k hk => by
  have h1 : ((1 : El f).val : Int) = 1 := by rw [El.one_val]; rfl
  simp only [List.length_cons, List.length_nil] at hk
  rcases Nat.lt_or_ge k 1 with h | h
  · have : k = 0 := by omega
    subst this; simp [h1]
  · have : k = 1 := by omega
    subst this; simp
theorem one_cell {f : FP} (w : World) : Cells (w.alloc (.cells #[.int .i64 1] 3)) w.heap.size 0 [(1 : El f)] := fun k hk => by
  have hk0 : k = 0 := by simp at hk; omega
  subst hk0
  have h1 : ((1 : El f).val : Int) = 1 := by rw [El.one_val]; rfl
  simp [h1]
def GenR' (f : FP) (ec : Nat) (w : World) (e : Ending) (w' : World) : Prop := ∃ v, ∃ l : List (El f), e = .returned v ∧ ElemsC w' v l ∧ ps l = gens f ec ∧ l.length = ec + 1 ∧ Below w.heap.size w w'

set_option maxRecDepth 100000 in
set_option maxHeartbeats 8000000 in
theorem generator_any (n : Int) (f : FP) (hf : fpn n = some f) (ec : Nat) (hec : ec ≤ 300) (w : World) :
    Calls Try.prog 39 #[.agg #[.int .i64 f.size, .int .i64 f.p, .int .i64 f.base], .int .i64 n, .int .i64 ec] w (GenR' f ec w) := by
  have hbl := f.base_le
  have hone : ∀ o : World, ElemsC (o.alloc (.cells #[.int .i64 1] 3)) (.slice (some ⟨o.heap.size, 0, none⟩) 1 1) [(1 : El f)] :=
    fun o => ⟨o.heap.size, 0, 1, rfl, by simp, by simp, by unfold maxLen; omega, one_cell o⟩
  have ho := hone (w.alloc (.cells #[.int .i64 f.size, .int .i64 f.p, .int .i64 f.base] 53))
  rw [heap_size_alloc] at ho
  have HO := Lib.hid ho
  have HTwo : Hid (∀ (o : World) (x : El f), Elems (o.alloc (.cells #[.int .i64 1, .int .i64 x.val] 3)) (.slice (some ⟨o.heap.size, 0, none⟩) 2 2) [(1 : El f), x]) :=
    fun o x => ⟨o.heap.size, 0, 2, rfl, by simp, by unfold maxLen; simp, two_cellsW x o⟩
  clear hone ho
  go_enter Try.func39, Try.ntmps39
  go_wp2
  go_loopw [7, 8, 11] (fun v y x wr => ∃ (i : Nat) (l : List (El f)), i ≤ ec ∧ x = .int .i64 (i : Int) ∧ ElemsC wr v l ∧ Nf l ∧ ps l = gens f i ∧ Below (w.heap.size + 1) (w.alloc (.cells #[.int .i64 f.size, .int .i64 f.p, .int .i64 f.base] 53)) wr) (fun _ _ x _ => ec - (intOf x).toNat)
  case atStart => exact ⟨0, [1], by omega, rfl, HO.out, ⟨1, [], rfl, Or.inl rfl⟩, (by rw [ps_singleton]; rfl), (Below.refl _ _).alloc (by simp) _⟩
  case round =>
    obtain ⟨i, l, hi, rfl, hv, hnf, hps, hb⟩ := hrel
    have HV := Lib.hid hv
    have HL := Lib.hid (gens_len hnf hps)
    have HP := Lib.hid hps
    clear hv hps hnf
    by_cases hlt : i < ec
    · have hsum : IntKind.i64.wrap ((i : Int) + (f.base : Int)) = ((i + f.base : Nat) : Int) := by
        rw [← Int.natCast_add, wrap_i64_nat _ (by omega)]
      obtain ⟨hc0, hc1, hc2⟩ := agg3 hb
      go_wp2_with (first
        | (go_at_call 42; refine (power_any f (i + f.base) (by omega) _).mono ?_; rintro e w2 ⟨rfl, hb2⟩)
        | (go_at_call 24; refine (product_any n f hf _ _ l [(1 : El f), El.exp f (i + f.base)] _ ((HV.out.later hb2).later ((Below.refl _ _).alloc (Nat.le_refl _) _)).elems (HTwo.out w2 _) (by rw [HL.out]; simp; omega)).mono ?_; rintro e w3 ⟨v3, l3, rfl, hv3, hn3, hp3, hb3⟩))
      go_roundw
      case rel => exact ⟨i + 1, l3, by omega, by go_num, hv3, hn3, by rw [hp3, HP.out, ps_lin]; rfl, ext_more (ext_more hb hb2) (((Below.refl _ _).alloc (Nat.le_refl _) _).trans (hb3.mono (by simp)))⟩
      case measure => simp [intOf]; omega
    · have he : i = ec := by omega
      have HF : Hid (ps l = gens f ec ∧ l.length = ec + 1) := by subst he; exact ⟨HP.out, HL.out⟩
      clear he
      go_wp2
      go_ret
      exact ⟨_, l, rfl, HV.out, HF.out.1, HF.out.2, ((Below.refl _ _).alloc (Nat.le_refl _) _).trans (hb.mono (by omega))⟩

/-! ### The shift register -/
/-- One step: the rest behind one symbol more. -/
theorem lfsr_step {f : FP} {ec : Nat} {gt rt : List (El f)} {r0 d : El f} {Q : Ps (El f)} {D : List (El f)}
    (hg : ps ((1 : El f) :: gt) = gens f ec) (hgt : gt.length = ec) (hr : rt.length + 1 = ec) (h : mon 1 ec * ps D = Q * gens f ec + ps (r0 :: rt)) :
    mon 1 ec * ps (D ++ [d]) = (mon 1 1 * Q + mon (d + r0) 0) * gens f ec + ps (List.zipWith (· + ·) (rt ++ [0]) (gt.map (· * (d + r0)))) := by
  have e1 : mon 1 1 * ps (r0 :: rt) = mon r0 ec + ps (rt ++ [(0 : El f)]) := by
    simp only [ps]
    rw [Ring2.mul_add, mon_mon, one_mul, show 1 + rt.length = ec from by omega, ps_append, ps_singleton, mon_zero]
    rw [show (mon 1 [(0 : El f)].length * ps rt + 0 : Ps (El f)) = mon 1 1 * ps rt from Ring2.add_zero _]
  have e2 : mon (d + r0) 0 * gens f ec = mon (d + r0) ec + mon (d + r0) 0 * ps gt := by
    rw [← hg]; simp only [ps]
    rw [Ring2.mul_add, mon_mon, Ring2.mul_one, Nat.zero_add, hgt]
  have e3 : ps (List.zipWith (· + ·) (rt ++ [(0 : El f)]) (gt.map (· * (d + r0)))) = ps (rt ++ [(0 : El f)]) + mon (d + r0) 0 * ps gt := by
    rw [ps_zipWith _ _ (by simp; omega), ps_map_mul]
  have e4 : mon 1 ec * ps (D ++ [d]) = mon 1 1 * (mon 1 ec * ps D) + mon d ec := by
    rw [ps_append, ps_singleton, Ring2.mul_add, mon_mon, one_mul, Nat.add_zero, mul_left_comm]; rfl
  rw [e4, h, e3, Ring2.mul_add, e1, add_mul, e2, Ring2.mul_assoc, ← mon_add]
  generalize mon 1 1 * (Q * gens f ec) = A
  generalize mon (d + r0) 0 * ps gt = M
  generalize ps (rt ++ [(0 : El f)]) = S
  generalize (mon d ec : Ps (El f)) = X
  generalize (mon r0 ec : Ps (El f)) = Y
  have : A + (X + Y + M) + (S + M) = A + (Y + S) + X + (M + M) := by simp only [Ring2.add_assoc, Ring2.add_comm, add_left_comm]
  rw [this, Ring2.add_self, Ring2.add_zero]
/-- The list being filled. -/
theorem mix_set {α : Type} (S T : List α) (i : Nat) (hS : S.length = T.length) (hi : i < T.length) : (T.take i ++ S.drop i).set i T[i] = T.take (i + 1) ++ S.drop (i + 1) := by
  rw [List.set_append_right _ _ (by simp; omega), List.length_take, show i - min i T.length = 0 from by omega, List.drop_eq_getElem_cons (l := S) (by omega), List.set_cons_zero, List.take_succ_eq_append_getElem hi, List.append_assoc]
  rfl
theorem mix_get {α : Type} (S T : List α) (i : Nat) (hS : S.length = T.length) (hi : i < T.length) : (T.take i ++ S.drop i)[i]'(by simp; omega) = S[i] := by
  rw [List.getElem_append_right (by simp; omega)]
  simp only [List.length_take, List.getElem_drop]
  congr 1; omega
end Go.Proofs.Ytjgclomokekogaa
