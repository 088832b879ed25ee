/- The thin package's closure that encodes. -/
import Derived.Test.YtjgclomokekogaaW16
namespace Go.Proofs.Ytjgclomokekogaa
open Go.RowKit Rs

/-- What the closure leaves. -/
def EncLeft (f : FP) (w0 : World) (A ec : Nat) (data : List (El f)) (r : List Value) (b : Bool) (w' : World) : Prop :=
  b = true ∧ ∃ chk : List (El f), chk.length = ec ∧ Word f ec (data ++ chk) ∧ BlkR w' A (data ++ chk) r ∧ w0.grownBy w' (some A)
def EncEnd (f : FP) (w0 : World) (A ec : Nat) (data : List (El f)) (r : List Value) (e : Ending) (w' : World) : Prop :=
  ∃ b, e = .returned (.bool b) ∧ EncLeft f w0 A ec data r b w'
theorem grown_cell {w w' : World} {c b o : Nat} {v : Value} (hg : w.grownBy w' (some c)) (h : w.cell? ⟨b, o, none⟩ = some v) (hne : b ≠ c) : w'.cell? ⟨b, o, none⟩ = some v :=
  (World.cell?_of_block (w := w) (a := ⟨b, o, none⟩) (hg.block b (block_lt h) (by simpa using hne))).trans h

set_option maxHeartbeats 2000000 in
theorem encclos_any (f : FP) (g F L E A k ec N cap : Nat) (data : List (El f)) (r : List Value) (w : World) (hg : IsGF w f g) (hk : data.length = k) (hk1 : 1 ≤ k) (hec1 : 1 ≤ ec) (hN : N = k + ec) (hec : N < f.size) (hcap : N ≤ cap)
    (hF : w.cell? ⟨F, 0, none⟩ = some (.pointer (some ⟨g, 0, none⟩))) (hL : w.cell? ⟨L, 0, none⟩ = some (.slice (some ⟨A, 0, none⟩) N cap)) (hE : w.cell? ⟨E, 0, none⟩ = some (.int .i64 ec))
    (hFA : F ≠ A) (hLA : L ≠ A) (hEA : E ≠ A) (hA : BlkR w A (data ++ List.replicate ec (0 : El f)) r) :
    Calls Try.prog 35 #[.pointer (some ⟨F, 0, none⟩), .pointer (some ⟨L, 0, none⟩), .pointer (some ⟨E, 0, none⟩)] w (EncEnd f w A ec data r) := by
  have HK := Lib.hid hk
  have HN := Lib.hid hN
  clear hk hN
  go_enter Try.func35, Try.ntmps35
  go_wp2_with fail
  go_region_held3 (fun w' => w'.cell? ⟨F, 0, none⟩ = some (.pointer (some ⟨g, 0, none⟩)) ∧ w'.cell? ⟨L, 0, none⟩ = some (.slice (some ⟨A, 0, none⟩) N cap) ∧ w'.cell? ⟨E, 0, none⟩ = some (.int .i64 ec))
    (first | go_keep | exact ⟨grown_cell hgx (by assumption) hFA, grown_cell hgx (by assumption) hLA, grown_cell hgx (by assumption) hEA⟩ | exact ⟨cell_later hbn (by assumption), cell_later hbn (by assumption), cell_later hbn (by assumption)⟩)
    (first | (go_at_call 36; refine (newenc_any f g _).mono ?_; rintro e w1 ⟨en, c, q, rfl, hen, hqn, hbn⟩)
           | (go_at_call 37; refine (encode_any f g en c q A k ec N cap data r w.drew _ hg.drew hbn hen hqn HK.out hk1 hec1 HN.out hec hcap hA).mono ?_; rintro e w2 ⟨rfl, chk, hc1, hc2, hc3, hgx⟩))
  have HF : Hid (EncEnd f w A ec data r (.returned (.bool true)) w2) := ⟨true, rfl, rfl, chk, hc1, hc2, hc3, ⟨hgx.os, hgx.tape, hgx.output, hgx.size, hgx.block⟩⟩
  clear hc1
  go_wp2
  go_ret
  exact HF.out
end Go.Proofs.Ytjgclomokekogaa
