/- The package's encoder at work. -/
import Derived.Test.YtjgclomokekogaaBlr
namespace Go.Proofs.Ytjgclomokekogaa
open Go.RowKit Rs

/-- A word of data and check symbols: a multiple of the generator. -/
def Word (f : FP) (ec : Nat) (l : List (El f)) : Prop := ∃ Q : Ps (El f), Po Q ∧ ps l = Q * gens f ec
/-- What encoding is good for. -/
def EncRes (f : FP) (w0 : World) (A k ec : Nat) (data : List (El f)) (r : List Value) (e : Ending) (w' : World) : Prop :=
  e = .returned .nilIface ∧ ∃ chk : List (El f), chk.length = ec ∧ Word f ec (data ++ chk) ∧ BlkR w' A (data ++ chk) r ∧ w0.grownBy w' (some A)
theorem below_grown {w w' : World} (hb : Below w.heap.size w w') (row : Option Nat) : w.grownBy w' row := ⟨hb.os, hb.tape, hb.output, hb.size, fun k hk _ => hb.block k hk⟩
theorem enc_word {f : FP} {ec : Nat} {data R : List (El f)} {P Q : Ps (El f)} {nz : Nat} (hnz : nz + R.length = ec) (h1 : P = mon 1 ec * ps data) (h2 : P = Q * gens f ec + ps R) (hQ : Po Q) :
    Word f ec (data ++ (List.replicate nz (0 : El f) ++ R)) := by
  refine ⟨Q, hQ, ?_⟩
  have e : ps (List.replicate nz (0 : El f) ++ R) = ps R := by rw [ps_append, ps_zeros, mul_zero, zero_add]
  rw [ps_append, e, show (List.replicate nz (0 : El f) ++ R).length = ec from by simp; omega, ← h1, h2, Ring2.add_assoc, Ring2.add_self, Ring2.add_zero]
theorem bymono_at {f : FP} (g p d : Nat) (C : Int) (c : El f) (hC : C = c.val) (a : List (El f)) (w : World) (hg : IsGF w f g) (hp : IsPoly w g p a) (hd : a.length + d ≤ 100000) :
    Calls Try.prog 53 #[.pointer (some ⟨p, 0, none⟩), .int .i64 d, .int .i64 C] w (NewPoly w g (mon c d * ps a) (a.length + d)) := by
  subst hC; exact bymono_any g p d c a w hg hp hd
theorem cells_left {f : FP} {w : World} {b off : Nat} {a c : List (El f)} (h : Cells w b off (a ++ c)) : Cells w b off a := fun k hk => by
  have := h k (by rw [List.length_append]; omega)
  rwa [List.getElem_append_left hk] at this
theorem row_at {f : FP} {w : World} {A : Nat} {a c : List (El f)} {r : List Value} (h : BlkR w A (a ++ c) r) (j : Nat) (v : Value) (hj : (vs a)[j]? = some v) : w.cell? ⟨A, j, none⟩ = some v := by
  have := cells_vs' (cells_left h.cells) j v hj
  rwa [Nat.zero_add] at this
theorem copy_all {f : FP} (k : Nat) (data : List (El f)) (hk : data.length = k) : (List.replicate k (0 : El f)).take 0 ++ (data ++ (List.replicate k (0 : El f)).drop (0 + data.length)) = data := by
  subst hk; simp
/-- The end of encoding: the rest copied behind the data. -/
theorem enc_fin {f : FP} {w0 w : World} {A k ec nz : Nat} {data R : List (El f)} {r : List Value} (hW : Word f ec (data ++ (List.replicate nz (0 : El f) ++ R))) (hnz : nz + R.length = ec) (hk : data.length = k)
    (hA : BlkR w A (data ++ List.replicate ec (0 : El f)) r) (hg : w0.grownBy w (some A)) :
    EncRes f w0 A k ec data r (.returned .nilIface) (w.setRow A (((vs (data ++ List.replicate ec (0 : El f)) ++ r).toArray.toList.take (k + nz)) ++ (vs R ++ (vs (data ++ List.replicate ec (0 : El f)) ++ r).toArray.toList.drop (k + nz + (vs R).length))).toArray) := by
  refine ⟨rfl, List.replicate nz (0 : El f) ++ R, by simp; omega, hW, ?_, ?_⟩
  · unfold BlkR
    rw [setRow_heap w A _ _ 3 (0, 0) hA.out]
    have := splice_word data R k ec nz r hk hnz
    unfold splice at this
    rw [← this]
  · exact ⟨hg.os, hg.tape, hg.output, by simpa [World.setRow] using hg.size, fun j hj hne => by rw [setRow_other w A j _ (fun e => hne (by rw [e]))]; exact hg.block j hj hne⟩

set_option maxRecDepth 100000 in
set_option maxHeartbeats 4000000 in
theorem encode_any (f : FP) (g en c0 q0 A k ec N cap : Nat) (data : List (El f)) (r : List Value) (w0 w : World) (hg0 : IsGF w0 f g) (hb0 : Below w0.heap.size w0 w)
    (he : EncAt w w0.heap.size en g c0 1 1 [.pointer (some ⟨q0, 0, none⟩)]) (hq0 : IsPoly w g q0 [(1 : El f)]) (hk : data.length = k) (hk1 : 1 ≤ k) (hec1 : 1 ≤ ec) (hN : N = k + ec) (hec : N < f.size) (hcap : N ≤ cap)
    (hA0 : BlkR w0 A (data ++ List.replicate ec (0 : El f)) r) :
    Calls Try.prog 37 #[.pointer (some ⟨en, 0, none⟩), .slice (some ⟨A, 0, none⟩) N cap, .int .i64 ec] w (EncRes f w0 A k ec data r) := by
  have hs := f.size_le
  have hAlt := hA0.lt
  obtain ⟨i0, hi, hz0, hz1, hz2⟩ := info_parts Try.info3
  have eN : (N : Int) - ec = k := by omega
  have hN1 : k + ec ≤ N := by omega
  have hN2 : N ≤ k + ec := by omega
  have HK := Lib.hid hk
  have HNN := Lib.hid hN
  clear hN hk
  go_enter Try.func37, Try.ntmps37
  go_wp2_with fail
  refine (gen_any f g en c0 q0 ec w0 w hg0 hb0 he hq0 hec1 (by omega)).mono ?_
  rintro e w1 ⟨gq, Gl, rfl, hG, hGp, hx0, hb1⟩
  have hGl := gens_len hG.1 hGp
  have hGz := isZ_false (gens_ne hGp)
  have HGP := Lib.hid hGp
  have HGL := Lib.hid hGl
  have hGl1 : Gl.length ≤ ec + 1 := by omega
  clear hGp hGl
  have hA1 := hA0.below hb1 hAlt
  go_wp2_with (first
    | (at_make; refine wpList_make_full _ rfl _ _ 22 rfl w1.heap.size 3 i0 (.int .i64 0) 1 Try.underlying22 hi hz0 hz1 .i64 .i64 _ _ k rfl rfl (by first | rfl | exact eN) (by first | rfl | exact eN) (by rw [hz2]; omega) (by unfold maxLen; omega) (Nat.le_refl _) ?_; intro w2 hown hgrow; obtain ⟨hB2, hb2⟩ := made_at f hown hgrow; clear hown hgrow)
    | ((with_reducible show wpList _ _ _ (⟨some 35, _, _, _, _, _⟩ :: _) _ _); refine wpList_copy_splice (o := ⟨some 35, _, _, _, _, _⟩) rfl (.tmp 33) (.tmp 34) 22 22 rfl 3 Try.underlying22 Try.size3 _ _ _ _ _ _ rfl rfl w1.heap.size 0 (vs (List.replicate k (0 : El f))) 3 hB2.out (vs data) ?c1 ?c2 ?c3 ?c4 w1.heap.size w1 hb2 (Nat.le_refl _) ?c5))
  case c1 => rw [vs_length, HK.out]; exact (Nat.min_eq_right (by omega)).symm
  case c2 => exact fun _ j v hj => row_at (hA1.later hb2) j v hj
  case c3 => rw [vs_length, vs_length, HK.out, List.length_replicate]; omega
  case c4 => exact vs_one _
  case c5 =>
    intro w3 hblk hb3
    have hB3 : Blk w3 w1.heap.size data := by
      have := hblk.out; rw [splice_vs, copy_all k data HK.out] at this; exact this
    have hx3 := cell_later hb3 hx0
    have hg3 := (hg0.later hb1).later hb3
    have hG3 := hG.later hb3
    clear hblk hB2 hb2 hA1
    go_wp2_with fail
    refine (newpoly_at (f := f) g w1.heap.size 0 k k data HK.out hk1 (by omega) (Nat.le_refl _) w3 hB3.cells).mono ?_
    rintro e4 w4 ⟨p4, l4, rfl, hP4, hps4, hl4, hb4⟩
    have HP4 := Lib.hid hps4
    clear hps4
    go_wp2_with fail
    refine (bymono_at (f := f) g p4 ec 1 1 rfl l4 w4 (hg3.later hb4) hP4 (by omega)).mono ?_
    rintro e5 w5 ⟨p5, l5, rfl, hP5, hps5, hl5, hb5⟩
    have HP5 := Lib.hid hps5
    clear hps5
    go_wp2_with fail
    refine (div_any g p5 gq l5 Gl w5 ((hg3.later hb4).later hb5) hP5 ((hG3.later hb4).later hb5) hGz).mono ?_
    rintro e6 w6 ⟨p6, q6, Q, R, rfl, hQ6, hR6, hE6, hQl, hRl, hRd, hb6⟩
    have HE6 := Lib.hid hE6
    have hR6' := hR6
    obtain ⟨hRn, hR0, bR, oR, cR, ⟨hRc, hRm⟩, hR1, hRcells⟩ := hR6
    have hRpos := hRn.pos
    have hRec : R.length ≤ ec := by
      rcases hRd with h | h
      · omega
      · rw [h]; simpa using hec1
    have hbw6 : Below w0.heap.size w0 w6 := ((((hb1.trans (hb3.mono hb1.size)).trans (hb4.mono (Nat.le_trans hb1.size hb3.size))).trans (hb5.mono (Nat.le_trans (Nat.le_trans hb1.size hb3.size) hb4.size))).trans (hb6.mono (Nat.le_trans (Nat.le_trans (Nat.le_trans hb1.size hb3.size) hb4.size) hb5.size)))
    have hA6 := hA0.below hbw6 hAlt
    obtain ⟨nz, hnz⟩ : ∃ nz, ec = nz + R.length := ⟨ec - R.length, by omega⟩
    have enz : (ec : Int) - R.length = nz := by omega
    have hnz1 : nz + R.length ≤ ec := by omega
    have hnz2 : ec ≤ nz + R.length := by omega
    have hmin : Hid (nz + R.length = ec) := hnz.symm
    clear hE6 hRd hnz
    go_wp2_with (go_at_call 69; refine (coeffs_any (f := f) g q6 R _ bR oR cR hR1).mono ?_; rintro e7 w7 ⟨rfl, rfl⟩)
    go_loopw [17] (fun x wr => ∃ i : Nat, i ≤ nz ∧ x = .int .i64 (i : Int) ∧ wr = w7) (fun x _ => nz - (intOf x).toNat)
    case atStart => exact ⟨0, by omega, rfl, rfl⟩
    case round =>
      obtain ⟨i, hi, rfl, rfl⟩ := hrel
      by_cases hlt : i < nz
      · have hid := zero_id (j := i) hA6 HK.out (by omega)
        have hfz := hA6.frozen (k + i)
        obtain ⟨z, hxd⟩ : ∃ z, wr.cell? ⟨A, k + i, none⟩ = some z := ⟨_, hA6.cell (k + i) (by rw [List.length_append, HK.out, List.length_replicate]; omega)⟩
        have hi0 : (0 : Int) ≤ (k : Int) + i := by omega
        have hi1 : (k : Int) + i < (N : Int) := by omega
        go_wp2
        go_roundw
        case rel => exact ⟨i + 1, by omega, by go_num, trivial⟩
        case measure => simp [intOf]; omega
      · have hlo : (0 : Int) ≤ (k : Int) + nz := by omega
        have hlo1 : (k : Int) + nz < (N : Int) := by omega
        have hlo2 : (k : Int) + nz ≤ (cap : Int) := by omega
        have hcapne : ¬ cap = k + nz := by omega
        have HW : Hid (Word f ec (data ++ (List.replicate nz (0 : El f) ++ R))) := enc_word (P := ps l5) hmin.out (by rw [HP5.out, HP4.out]) (by rw [HE6.out, HGP.out]) (ps_po Q)
        have hgr := below_grown hbw6 (some A)
        go_wp2_with ((with_reducible show wpList _ _ _ (⟨some 83, _, _, _, _, _⟩ :: _) _ _); refine wpList_copy_own (o := ⟨some 83, _, _, _, _, _⟩) rfl (.tmp 81) (.tmp 82) 22 22 rfl 3 Try.underlying22 Try.size3 A (k + nz) _ _ _ _ _ rfl rfl _ 3 hA6.out (vs R) ?d1 ?d2 ?d3 ?d4 ?d5)
        case d1 => rw [vs_length]; exact (Nat.min_eq_left (by omega)).symm
        case d2 => exact fun j v hj => cells_vs hRcells j v hj
        case d3 => rw [vs_length, List.size_toArray, List.length_append, vs_length, List.length_append, HK.out, List.length_replicate]; omega
        case d4 => exact vs_one _
        go_ret
        exact enc_fin HW.out hmin.out HK.out hA6 hgr
end Go.Proofs.Ytjgclomokekogaa
