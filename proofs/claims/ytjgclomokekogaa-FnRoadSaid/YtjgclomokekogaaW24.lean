/- Encoded words have the generator's roots: the statement's walk. -/
import Derived.Test.YtjgclomokekogaaW23
namespace Go.Proofs.Ytjgclomokekogaa
open Go.RowKit Rs

/-- What came in, read as a list of ints. -/
theorem row_ints {w : World} {a : Option Addr} {len cap : Nat} {zs : List Int}
    (h : (a = none ∧ len = 0 ∧ cap = 0 ∧ zs = []) ∨ ∃ x, a = some x ∧ len ≤ cap ∧ cap ≤ maxLen ∧ zs.length = cap ∧ (∀ i, i < zs.length → w.cell? (x.add i) = some (.int .i64 (zs.getD i 0))) ∧ ∀ n ∈ zs, (Lit.int .i64 n).wf = true) :
    ∃ l : List Int, l.length = len ∧ len ≤ maxLen ∧ Ints w (.slice a len cap) l := by
  rcases h with ⟨rfl, rfl, rfl, rfl⟩ | ⟨x, rfl, h1, h2, h3, h4, h5⟩
  · exact ⟨[], rfl, by omega, Or.inl ⟨rfl, none, 0, rfl⟩⟩
  · by_cases h0 : len = 0
    · subst h0
      exact ⟨[], rfl, by omega, Or.inl ⟨rfl, some x, cap, rfl⟩⟩
    · have hx := h4 0 (by omega)
      have hsp : x.spot = none := by simpa [Addr.add] using World.cell?_spot hx
      obtain ⟨b, off, spot⟩ := x
      simp only at hsp
      subst hsp
      have hlen : (zs.take len).length = len := by rw [List.length_take]; omega
      refine ⟨zs.take len, hlen, by omega, Or.inr ⟨b, off, cap, by rw [hlen], by omega, by omega, h2, fun j hj => ?_⟩⟩
      have hj' : j < zs.length := by omega
      have h6 := h4 j hj'
      have h7 : zs.getD j 0 = (zs.take len)[j] := by simp [List.getD_eq_getElem?_getD, hj']
      rw [h7] at h6
      rw [← h6]
      by_cases e : j = 0
      · subst e; rfl
      · simp [Addr.add, e]
theorem Cells.elems {f : FP} {w : World} {A N cap : Nat} {l : List (El f)} (h : Cells w A 0 l) (hl : l.length = N) (h1 : 1 ≤ N) (hm : N ≤ 100000) : Elems w (.slice (some ⟨A, 0, none⟩) N cap) l :=
  ⟨A, 0, cap, by rw [hl], by omega, by unfold maxLen; omega, h⟩
theorem BlkR.cells' {f : FP} {w : World} {A : Nat} {l : List (El f)} {r : List Value} (h : BlkR w A l r) : Cells w A 0 l := fun k hk => by
  have := row_at (a := l) (c := []) (r := r) (by rw [List.append_nil]; exact h) k (.int .i64 l[k].val) (by simp [vs, hk])
  rwa [Nat.zero_add]
/-- The field and its elements where the input is compared. -/
theorem compared {n ec : Int} {k : Nat} {l : List Int} (hk : l.length = k) (h1 : FitsP n k ec) (h2 : InP n l) :
    ∃ (f : FP) (e N : Nat) (data : List (El f)), fpn n = some f ∧ ec = (e : Int) ∧ N = k + e ∧ data.length = k ∧ 1 ≤ k ∧ 1 ≤ e ∧ N < f.size ∧ N ≤ 300 ∧ data.map (fun a => (a.val : Int)) = l := by
  obtain ⟨f, hf⟩ := inp_fp h2
  obtain ⟨data, hd⟩ := inp_el hf h2
  have hs := (fpn_par n f hf).1
  obtain ⟨g1, g2, g3, g4, g5, g6, g7⟩ := h1
  refine ⟨f, ec.toNat, k + ec.toNat, data, hf, by omega, rfl, by rw [← hk, ← hd, List.length_map], by omega, by omega, by omega, by omega, hd⟩

set_option maxHeartbeats 4000000 in
theorem fnroots_any (n ec : Int) (v : Option Addr) (k cap : Nat) (l : List Int) (w : World) (hk : l.length = k) (hm : k ≤ maxLen) (hl : Ints w (.slice v k cap) l) :
    Calls Try.prog 4 #[.int .i64 n, .slice v k cap, .int .i64 ec] w (Yes w) := by
  have HL := Lib.hid hl
  clear hl
  unfold maxLen at hm
  by_cases hbig : (2147483647 : Int) < (k : Int)
  · clear hk
    go_enter Try.func4, Try.ntmps4
    go_wp2
    go_ret
    exact ⟨rfl, Below.refl _ _⟩
  by_cases hfit : FitsP n k ec
  rotate_left
  · have HFit := Lib.hid hfit
    clear hk hfit
    go_enter Try.func4, Try.ntmps4
    go_wp2_with (first | (go_at_call 13; refine (fits_any n k ec _).mono ?_; rintro e w1 ⟨b, rfl, hy, _, hb1⟩; have hbf : b = false := Bool.eq_false_iff.2 (fun h => HFit.out (hy h)); clear hy; subst hbf) | (go_at_call 15; refine (works_any _).mono ?_; rintro e w2 ⟨rfl, hb2⟩))
    go_ret
    exact ⟨rfl, ext_trans hb1 hb2⟩
  by_cases hin : InP n l
  rotate_left
  · have HFit := Lib.hid hfit
    have HIn := Lib.hid hin
    have HK := Lib.hid hk
    have hk3 : l.length ≤ 100000 := by have := hfit.2.2.2.1; omega
    clear hk hfit hin
    go_enter Try.func4, Try.ntmps4
    go_wp2_with (first | (go_at_call 13; refine (fits_any n k ec _).mono ?_; rintro e w1 ⟨b, rfl, _, hy, hb1⟩; have hbf : b = true := hy HFit.out; clear hy; subst hbf) | (go_at_call 14; refine (in_any n _ l _ (HL.out.later hb1) hk3).mono ?_; rintro e w2 ⟨b, rfl, hy, _, hb2⟩; have hbf : b = false := Bool.eq_false_iff.2 (fun h => HIn.out (hy h)); clear hy; subst hbf) | (go_at_call 15; refine (works_any _).mono ?_; rintro e w3 ⟨rfl, hb3⟩))
    go_ret
    exact ⟨rfl, ext_trans (ext_trans hb1 hb2) hb3⟩
  obtain ⟨f, e, N, data, hf, rfl, hN, hdl, hk1, he1, hNf, hN3, hd⟩ := compared hk hfit hin
  have hk3 : l.length ≤ 100000 := by omega
  obtain ⟨b, off, cap', hv, _, _, hcl⟩ := HL.out.elems hd (by omega)
  rw [hdl] at hv
  have hw1 : IntKind.i64.wrap ((k : Int) + (e : Int)) = (N : Int) := by rw [hN, ← Int.natCast_add, wrap_i64_nat _ (by omega)]
  have HFit := Lib.hid hfit
  have HIn := Lib.hid hin
  have he3 : e ≤ 300 := by omega
  have hN1 : 1 ≤ N := by omega
  have HD := Lib.hid hdl
  have HN := Lib.hid hN
  clear hk hfit hin hd hdl hN
  simp only [Value.slice.injEq] at hv
  obtain ⟨rfl, _, rfl⟩ := hv
  go_enter Try.func4, Try.ntmps4
  go_wp2_with (first
    | (go_at_call 13; refine (fits_any n k e _).mono ?_; rintro e' w1 ⟨b', rfl, _, hy, hb1⟩; have hbf : b' = true := hy HFit.out; clear hy; subst hbf)
    | (go_at_call 14; refine (in_any n _ l _ (HL.out.later hb1) hk3).mono ?_; rintro e' w2 ⟨b', rfl, _, hy, hb2⟩; have hbf : b' = true := hy HIn.out; clear hy; subst hbf)
    | (go_at_call 16; refine (implenc_any n f hf b off k cap e N data _ HD.out hk1 he1 HN.out hNf (hcl.later (ext_trans hb1 hb2))).mono ?_; rintro e' w3 ⟨A, cap', r, chk, rfl, hc1, hc2, hc3, hb3⟩; have HC1 := Lib.hid hc1; clear hc1)
    | (go_at_call 19; refine (word_any n f hf _ (data ++ chk) e _ (Cells.elems (N := N) hc3.cells' (by rw [List.length_append, HD.out, HC1.out, HN.out]) (by omega) (by omega)) (by omega) hc2).mono ?_; rintro e' w4 ⟨rfl, hb4⟩)
    | (go_at_call 15; refine (works_any _).mono ?_; rintro e' w5 ⟨rfl, hb5⟩))
  go_ret
  exact ⟨rfl, ext_trans (ext_trans (ext_trans (ext_trans hb1 hb2) hb3) hb4) hb5⟩
end Go.Proofs.Ytjgclomokekogaa
