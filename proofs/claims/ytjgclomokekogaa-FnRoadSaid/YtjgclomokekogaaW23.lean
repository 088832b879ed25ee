/- The reference's values of polynomials, and its words. -/
import Derived.Test.YtjgclomokekogaaW4
import Derived.Test.YtjgclomokekogaaW22
namespace Go.Proofs.Ytjgclomokekogaa
open Go.RowKit Rs

/-- The value v is a slice of the elements l. -/
def Elems {f : FP} (w : World) (v : Value) (l : List (El f)) : Prop :=
  ∃ b off cap, v = .slice (some ⟨b, off, none⟩) l.length cap ∧ 1 ≤ l.length ∧ l.length ≤ maxLen ∧ Cells w b off l
theorem Elems.later {f : FP} {w w' : World} {v : Value} {l : List (El f)} (h : Elems w v l) (hb : Below w.heap.size w w') : Elems w' v l := by
  obtain ⟨b, off, cap, h1, h2, h3, h4⟩ := h
  exact ⟨b, off, cap, h1, h2, h3, h4.later hb⟩
theorem Ints.elems {f : FP} {w : World} {v : Value} {l : List Int} {l' : List (El f)} (h : Ints w v l) (hl : l'.map (fun a => (a.val : Int)) = l) (h1 : 1 ≤ l.length) : Elems w v l' := by
  have hlen : l'.length = l.length := by rw [← hl, List.length_map]
  rcases h with ⟨h2, _⟩ | ⟨b, off, cap, h2, h3, h4, h5, h6⟩
  · rw [h2] at h1; simp at h1
  · refine ⟨b, off, cap, by rw [hlen]; exact h2, by omega, by omega, fun j hj => ?_⟩
    have := h6 j (by omega)
    rw [this]
    subst hl
    simp
theorem fields_f (n : Int) (f : FP) (hf : fpn n = some f) (w : World) :
    Calls Try.prog 38 #[.int .i64 n] w fun e w' => e = .returned (.tuple #[.agg #[.int .i64 f.size, .int .i64 f.p, .int .i64 f.base], .bool (fOk n)]) ∧ Below w.heap.size w w' := by
  have h := fields_any n w
  obtain ⟨h1, h2, h3⟩ := fpn_par n f hf
  rw [h1, h2, h3] at h
  exact h
theorem ext_make {w w1 wr : World} {o : Obj} (h : Below w.heap.size w w1) (hb : Below (w1.heap.size + 1) (w1.alloc o) wr) : Below w.heap.size w wr :=
  (h.alloc h.size o).trans (hb.mono (by have := h.size; omega))
theorem ext_more {w1 wr w2 : World} {o : Obj} (hb : Below (w1.heap.size + 1) (w1.alloc o) wr) (h : Below wr.heap.size wr w2) : Below (w1.heap.size + 1) (w1.alloc o) w2 :=
  hb.trans (h.mono (by have := hb.size; simp at this; omega))
theorem val_add {f : FP} (a b : El f) : (a + b).val = a.val ^^^ b.val := rfl
theorem xor_el {f : FP} (a b : El f) : bits .xor .i64 (a.val : Int) (b.val : Int) = (((a + b : El f)).val : Int) := by
  have := f.size_le; have := a.lt; have := b.lt
  rw [val_add, xor_i64 _ _ (by omega) (by omega)]

def ValR (f : FP) (l : List (El f)) (x : El f) (w : World) (e : Ending) (w' : World) : Prop := e = .returned (.int .i64 (ev l x).val) ∧ Below w.heap.size w w'
set_option maxHeartbeats 4000000 in
theorem value_any (n : Int) (f : FP) (hf : fpn n = some f) (v : Value) (l : List (El f)) (x : El f) (w : World) (hv : Elems w v l) :
    Calls Try.prog 41 #[.int .i64 n, v, .int .i64 x.val] w (ValR f l x w) := by
  obtain ⟨b, off, cap, rfl, hl1, hcm, hc⟩ := hv
  have HC := Lib.hid hc
  have hz : ¬ l.length = 0 := by omega
  unfold maxLen at hcm
  clear hc
  go_enter Try.func41, Try.ntmps41
  go_wp2_with (go_at_call 38; refine (fields_f n f hf _).mono ?_; rintro e w1 ⟨rfl, hb0⟩)
  go_loopw [9, 11, 19] (fun y c i wr => ∃ k : Nat, k ≤ l.length ∧ i = .int .i64 k ∧ y = .int .i64 (ev (l.take k) x).val ∧ Below (w1.heap.size + 1) (w1.alloc (.cells #[.int .i64 f.size, .int .i64 f.p, .int .i64 f.base] 53)) wr) (fun _ _ i _ => l.length - (intOf i).toNat)
  case atStart => exact ⟨0, by omega, rfl, rfl, Below.refl _ _⟩
  case round =>
    obtain ⟨k, hk, rfl, rfl, hb⟩ := hrel
    by_cases hlt : k < l.length
    · have hx := cell_later (ext_make hb0 hb) (HC.out k hlt)
      obtain ⟨hc0, hc1, hc2⟩ := agg3 hb
      have hxe := xor_el (ev (l.take k) x * x) l[k]
      have HE : Hid ((ev (l.take k) x * x + l[k] : El f) = ev (l.take (k + 1)) x) := (ev_take l x k hlt).symm
      go_wp2_with (go_at_call 40; refine (times_any f (ev (l.take k) x).val x.val (El.lt _) (El.lt _) _).mono ?_; rintro e w2 ⟨rfl, hb2⟩; rw [← El.mul_val])
      go_roundw
      case rel => exact ⟨k + 1, by omega, by go_num, by rw [HE.out], ext_more hb hb2⟩
      case measure => simp [intOf]; omega
    · have HE : Hid (l.take k = l) := by show _ = _; exact List.take_of_length_le (by omega)
      go_wp2
      go_ret
      exact ⟨ret_int (by rw [HE.out]), ext_make hb0 hb⟩

/-- A word has the generator's roots. -/
theorem word_root {f : FP} {ec : Nat} {l : List (El f)} (h : Word f ec l) (i : Nat) (hi : i < ec) : ev l (El.exp f (i + f.base)) = 0 := by
  obtain ⟨Q, ⟨d, hd⟩, hQ⟩ := h
  have hm : Dg (Q * gens f ec) (d + 1 + (ec + 1)) := (Dg.mul hd (gens_dg f ec)).mono (by omega)
  rw [ev_of l _ (d := d + 1 + (ec + 1)) (hQ ▸ hm), hQ, evT_mul _ hd (gens_dg f ec), gens_root f ec i hi, mul_zero]
def WordR (w : World) (e : Ending) (w' : World) : Prop := e = .returned (.bool true) ∧ Below w.heap.size w w'
set_option maxHeartbeats 4000000 in
theorem word_any (n : Int) (f : FP) (hf : fpn n = some f) (v : Value) (l : List (El f)) (ec : Nat) (w : World) (hv : Elems w v l) (hec : ec ≤ 300) (hw : Word f ec l) :
    Calls Try.prog 19 #[.int .i64 n, v, .int .i64 ec] w (WordR w) := by
  have HV := Lib.hid hv
  have HR := Lib.hid (word_root hw)
  have hbl := f.base_le
  clear hv hw
  go_enter Try.func19, Try.ntmps19
  go_wp2_with (go_at_call 38; refine (fields_f n f hf _).mono ?_; rintro e w1 ⟨rfl, hb0⟩)
  go_loopw [9, 16] (fun y i wr => ∃ k : Nat, k ≤ ec ∧ i = .int .i64 k ∧ Below (w1.heap.size + 1) (w1.alloc (.cells #[.int .i64 f.size, .int .i64 f.p, .int .i64 f.base] 53)) wr) (fun _ i _ => ec - (intOf i).toNat)
  case atStart => exact ⟨0, by omega, rfl, Below.refl _ _⟩
  case round =>
    obtain ⟨k, hk, rfl, hb⟩ := hrel
    by_cases hlt : k < ec
    · have HX := Lib.hid (HV.out.later (ext_make hb0 hb))
      have HR0 := Lib.hid (HR.out k hlt)
      have hsum : IntKind.i64.wrap ((k : Int) + (f.base : Int)) = ((k + f.base : Nat) : Int) := by
        rw [← Int.natCast_add, wrap_i64_nat _ (by omega)]
      obtain ⟨hc0, hc1, hc2⟩ := agg3 hb
      go_wp2_with (first | (go_at_call 42; refine (power_any f (k + f.base) (by omega) _).mono ?_; rintro e w2 ⟨rfl, hb2⟩) | (go_at_call 41; refine (value_any n f hf v l (El.exp f (k + f.base)) _ (HX.out.later hb2)).mono ?_; rintro e w3 ⟨rfl, hb3⟩; rw [HR0.out, El.zero_val]))
      go_roundw
      case rel => exact ⟨k + 1, by omega, by go_num, ext_more (ext_more hb hb2) hb3⟩
      case measure => simp [intOf]; omega
    · go_wp2
      go_ret
      exact ⟨rfl, ext_make hb0 hb⟩
end Go.Proofs.Ytjgclomokekogaa
