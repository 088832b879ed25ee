/- The thin package's decoding. -/
import Derived.Test.YtjgclomokekogaaD5
namespace Go.Proofs.Ytjgclomokekogaa
open Go.RowKit Rs

/-- Is it no exception? -/
def EqNil (v : Value) (b : Bool) : Prop :=
  (∀ w, (binOp .eql 74 v .nilIface).run Try.prog w = .ok (.bool b) w) ∧ ∀ w, (eqGuard .eql 74 (.tmp 8) (.const .nilIface) v .nilIface).run Try.prog w = .ok () w
theorem eqnil_nil : EqNil .nilIface true := ⟨fun _ => by simp [go_sem], fun _ => by simp [go_sem, eqGuard]⟩
theorem eqnil_exc {v : Value} (h : Exc v) : EqNil v false := by
  obtain ⟨s, rfl⟩ := h
  exact ⟨fun _ => by simp [go_sem], fun _ => by simp [go_sem, eqGuard]⟩
/-- What decoding leaves. -/
def DecLeft (f : FP) (ec : Nat) (rec : List (El f)) (A : Nat) (r : List Value) (w : World) (b : Bool) (w' : World) : Prop :=
  w.grownBy w' (some A) ∧ ((b = false ∧ ∀ c, ¬ Near f ec rec c) ∨
    (b = true ∧ ∃ out : List (El f), out.length = rec.length ∧ 2 * wt (dif rec out) ≤ ec ∧ (∀ c, Near f ec rec c → out = c) ∧ BlkR w' A out r))
theorem DecRes.left {f : FP} {ec A : Nat} {rec : List (El f)} {r : List Value} {w w' : World} {e : Ending} (h : DecRes f ec rec A r w e w') : ∃ v b, e = .returned v ∧ EqNil v b ∧ Hid (DecLeft f ec rec A r w b w') := by
  obtain ⟨h1, ⟨v, rfl, hv, hn⟩ | ⟨rfl, h2⟩⟩ := h
  · exact ⟨v, false, rfl, eqnil_exc hv, h1, Or.inl ⟨rfl, hn⟩⟩
  · exact ⟨_, true, rfl, eqnil_nil, h1, Or.inr ⟨rfl, h2⟩⟩
theorem DecLeft.from {f : FP} {ec A : Nat} {rec : List (El f)} {r : List Value} {w w1 w' : World} {b : Bool} (hg : w.grownBy w1 (some A)) (h : DecLeft f ec rec A r w1 b w') : DecLeft f ec rec A r w b w' :=
  ⟨grown_trans hg h.1, h.2⟩

set_option maxHeartbeats 4000000 in
theorem decclos_any (f : FP) (g F L E A ec N cap : Nat) (rec : List (El f)) (r : List Value) (wf w : World) (hgf : IsGF wf f g) (hbf : Below wf.heap.size wf w) (hAw : wf.heap.size ≤ A) (hN : rec.length = N) (hN1 : 1 ≤ N) (hNs : N < f.size) (hec1 : 1 ≤ ec) (hec : ec < f.size) (hcap : N ≤ cap)
    (hF : w.cell? ⟨F, 0, none⟩ = some (.pointer (some ⟨g, 0, none⟩))) (hL : w.cell? ⟨L, 0, none⟩ = some (.slice (some ⟨A, 0, none⟩) N cap)) (hE : w.cell? ⟨E, 0, none⟩ = some (.int .i64 ec))
    (hFA : F ≠ A) (hLA : L ≠ A) (hEA : E ≠ A) (hA : BlkR w A rec r) :
    Calls Try.prog 56 #[.pointer (some ⟨F, 0, none⟩), .pointer (some ⟨L, 0, none⟩), .pointer (some ⟨E, 0, none⟩)] w fun e w' => ∃ b, e = .returned (.bool b) ∧ DecLeft f ec rec A r w b w' := by
  have HN := Lib.hid hN
  have HA := Lib.hid hA
  have hAlt := hA.lt
  clear hN hA
  go_enter Try.func56, Try.ntmps56
  go_wp2_with fail
  go_region_held3 (fun w' => w'.cell? ⟨F, 0, none⟩ = some (.pointer (some ⟨g, 0, none⟩)) ∧ w'.cell? ⟨L, 0, none⟩ = some (.slice (some ⟨A, 0, none⟩) N cap) ∧ w'.cell? ⟨E, 0, none⟩ = some (.int .i64 ec))
    (first | go_keep | exact ⟨grown_cell hgx (by assumption) hFA, grown_cell hgx (by assumption) hLA, grown_cell hgx (by assumption) hEA⟩ | exact ⟨cell_later hbn (by assumption), cell_later hbn (by assumption), cell_later hbn (by assumption)⟩)
    (first | (go_at_call 57; refine (newdec_any g _).mono ?_; rintro e w1 ⟨rfl, hdn, hbn⟩)
           | (go_at_call 58; refine (decode_any f g _ A ec N cap rec r wf _ hgf ((hbf.drew).trans (hbn.mono (by simp; exact hbf.size))) hAw hdn (by simp; omega) (HA.out.later (ext_trans (drewN_below w 1) hbn)) HN.out hN1 hNs hec1 hec hcap).mono ?_; intro e w2 hr; obtain ⟨v, b, rfl, hq, hleft1⟩ := hr.left; have hleft := Lib.hid (DecLeft.from (below_grown hbn (some A)) hleft1.out); have hgx := hleft.out.1; clear hleft1; obtain ⟨hq1, hq2⟩ := hq))
  have HF : Hid (DecLeft f ec rec A r w b w2) := DecLeft.from (below_grown (drewN_below w 1) (some A)) hleft.out
  clear hleft
  go_wp2
  go_ret
  exact ⟨_, rfl, HF.out⟩

/-- What the thin package's decoding hands back. -/
def DecOut (f : FP) (ec : Nat) (rec : List (El f)) (N : Nat) (w : World) (e : Ending) (w' : World) : Prop :=
  Below w.heap.size w w' ∧ ((e = .returned (.tuple #[.slice none 0 0, .bool false]) ∧ ∀ c, ¬ Near f ec rec c) ∨
    ∃ A cap r, ∃ out : List (El f), e = .returned (.tuple #[.slice (some ⟨A, 0, none⟩) N cap, .bool true]) ∧ out.length = N ∧ 2 * wt (dif rec out) ≤ ec ∧ (∀ c, Near f ec rec c → out = c) ∧ BlkR w' A out r)

set_option maxRecDepth 100000 in
set_option maxHeartbeats 4000000 in
theorem impldec_any (n : Int) (f : FP) (hf : fpn n = some f) (b off N cap ec : Nat) (rec : List (El f)) (w : World) (hN : rec.length = N) (hN1 : 1 ≤ N) (hNs : N < f.size) (hec1 : 1 ≤ ec) (hec : ec < f.size)
    (hd : Cells w b off rec) :
    Calls Try.prog 30 #[.int .i64 n, .slice (some ⟨b, off, none⟩) N cap, .int .i64 ec] w (DecOut f ec rec N w) := by
  have hs := f.size_le
  have hecb : ¬ (10000 : Int) < (ec : Int) := by omega
  have HN := Lib.hid hN
  clear hN
  go_enter Try.func30, Try.ntmps30
  have he0 := (World.cell?_alloc_new (w := w) #[Value.int .i64 (ec : Int)] 3 0)
  go_upto_region 4 with (go_at_call 32; refine (field_any n f hf _).mono ?_; rintro e w1 ⟨g, rfl, hg, hb1⟩; have hecv : w1.cell? ⟨w.heap.size, 0, none⟩ = some (.int .i64 (ec : Int)) := cell_later hb1 he0; have hecv2 := fun o => cell_later ((Below.refl w1.heap.size w1).alloc (Nat.le_refl _) o) hecv; have hlt := hb1.size)
  have hF0 := World.cell?_alloc_new (w := w1) #[Value.pointer (some ⟨g, 0, none⟩)] 44 0
  have hgq := hg.later ((Below.refl w1.heap.size w1).alloc (Nat.le_refl _) (.cells #[Value.pointer (some ⟨g, 0, none⟩)] 44))
  have hbq : Below w.heap.size w (w1.alloc (.cells #[Value.pointer (some ⟨g, 0, none⟩)] 44)) := ((((Below.refl _ w).alloc (Nat.le_refl _) _).trans (hb1.mono (by simp)))).alloc (by have := hb1.size; simp at this; omega) _
  have hdq := Lib.hid (hd.later hbq)
  have hecq := hecv2 (.cells #[Value.pointer (some ⟨g, 0, none⟩)] 44)
  clear hecv hecv2 hb1 hg hlt he0
  generalize hwq : w1.alloc (.cells #[Value.pointer (some ⟨g, 0, none⟩)] 44) = wq at *
  have hFne : w1.heap.size < wq.heap.size := by rw [← hwq]; simp
  clear hwq
  have hE : w.heap.size < wq.heap.size := by have := block_lt hecq; omega
  go_wp2_with (go_at_call 33; refine (clone_el b off N cap rec _ HN.out hN1 (by omega) hdq.out).mono ?_; rintro e w2 ⟨A, c2, rfl, hcl, hbl⟩)
  obtain ⟨r, hr⟩ := own_blkr (f := f) hcl
  obtain ⟨hA1, hA2, hA3⟩ := own_le hcl hN1
  have hLc := World.cell?_alloc_new (w := w2) #[Value.slice (some ⟨A, 0, none⟩) N c2] 22 0
  have hbc : Below w2.heap.size w2 (w2.alloc (.cells #[.slice (some ⟨A, 0, none⟩) N c2] 22)) := (Below.refl _ _).alloc (Nat.le_refl _) _
  generalize hwc : w2.alloc (.cells #[.slice (some ⟨A, 0, none⟩) N c2] 22) = wc at *
  have hcs : w2.heap.size < wc.heap.size := by rw [← hwc]; simp
  clear hwc
  have hbqc : Below wq.heap.size wq wc := ext_trans hbl hbc
  have hwe : Below wc.heap.size wc (wc.alloc (.cells #[.bool false] 4)) := (Below.refl _ _).alloc (Nat.le_refl _) _
  have hqs := hbqc.size
  have hl2 := hbl.size
  have hcall := Lib.hid (try_any 56 #[.pointer (some ⟨w1.heap.size, 0, none⟩), .pointer (some ⟨w2.heap.size, 0, none⟩), .pointer (some ⟨w.heap.size, 0, none⟩)] (DecLeft f ec rec A r (wc.alloc (.cells #[.bool false] 4))) wc (fun _ => rfl)
    ((decclos_any f g w1.heap.size w2.heap.size w.heap.size A ec N c2 rec r wq (wc.alloc (.cells #[.bool false] 4)) hgq (ext_trans hbqc hwe) hA1 HN.out hN1 hNs hec1 hec hA3
      (cell_later hwe (cell_later hbqc hF0)) (cell_later hwe hLc) (cell_later hwe (cell_later hbqc hecq)) (by omega) (by omega) (by omega) ((hr.later hbc).later hwe)).mono (by
        rintro e w5 ⟨b5, rfl, h5⟩
        refine ⟨b5, rfl, h5, ?_⟩
        unfold OneB
        rw [h5.1.block wc.heap.size (by simp) (by simp; omega)]
        exact heap_alloc_new wc _)))
  refine hcall.out.mono ?_
  rintro e w3 ⟨b', w4, rfl, ⟨hgx, hcase⟩, rfl⟩
  have hbw : Hid (Below w.heap.size w (w4.setCell ⟨wc.heap.size, 0, none⟩ (.bool b'))) :=
    Below.setCell (Below.grown ((hbq.trans (hbqc.mono (by omega))).alloc (by omega) _) hgx (by simp; omega) (fun k hk => by simp only [Option.some.injEq] at hk; omega)) (by show w.heap.size ≤ wc.heap.size; omega) _
  rcases hcase with ⟨rfl, hno⟩ | ⟨rfl, out, h1, h2, h3, h4⟩
  · have HNO := Lib.hid hno
    clear hno hcall
    go_wp2
    go_ret2
    exact ⟨hbw.out, Or.inl ⟨rfl, HNO.out⟩⟩
  · have hLx : (w4.setCell ⟨wc.heap.size, 0, none⟩ (.bool true)).cell? ⟨w2.heap.size, 0, none⟩ = some (.slice (some ⟨A, 0, none⟩) N c2) :=
      (World.cell?_setCell_far w4 ⟨wc.heap.size, 0, none⟩ ⟨w2.heap.size, 0, none⟩ (.bool true) (by show wc.heap.size ≠ w2.heap.size; omega)).trans (grown_cell hgx (cell_later hwe hLc) (by omega))
    have HF : Hid (DecOut f ec rec N w (.returned (.tuple #[.slice (some ⟨A, 0, none⟩) N c2, .bool true])) (w4.setCell ⟨wc.heap.size, 0, none⟩ (.bool true))) := by
      refine ⟨hbw.out, Or.inr ⟨A, c2, r, out, rfl, by rw [h1, HN.out], h2, h3, ?_⟩⟩
      unfold BlkR; rw [heap_setCell_other w4 ⟨wc.heap.size, 0, none⟩ A _ (by show A ≠ wc.heap.size; omega)]; exact h4
    clear hcall h1 h2 h3 h4
    go_wp2
    go_ret2
    exact HF.out
end Go.Proofs.Ytjgclomokekogaa
