/- Contracts of the reference's small functions: the fields by their numbers, products, powers. -/
import Derived.Test.YtjgclomokekogaaRows
import Derived.WalkKit
import Derived.WalkSpells
import Derived.WalkLawsBesides
import Derived.Lib.Hide
import Derived.RegionTactic
import Derived.ChangeAlike
import Derived.Deep.QuietTactic
import Derived.BigQuiet
import Derived.Test.YtjgclomokekogaaFld
namespace Go.Proofs.Ytjgclomokekogaa
open Go.RowKit

/-- A field's parameters by its number (Go's). -/
def fpar (n : Int) : Option (Int × Int × Int) :=
  if n = 0 then some (256, 285, 0) else if n = 1 then some (256, 301, 1) else if n = 2 then some (16, 19, 1)
  else if n = 3 then some (64, 67, 1) else if n = 4 then some (1024, 1033, 1) else if n = 5 then some (4096, 4201, 1) else none
/-- The number of elements, the polynomial, the first root's power (0 where there is no such field). -/
def fA (n : Int) : Int := ((fpar n).map fun x => x.1).getD 0
def fB (n : Int) : Int := ((fpar n).map fun x => x.2.1).getD 0
def fC (n : Int) : Int := ((fpar n).map fun x => x.2.2).getD 0
def fOk (n : Int) : Bool := (fpar n).isSome

set_option maxHeartbeats 1000000 in
theorem fields_any (n : Int) (w : World) :
    Calls Try.prog 38 #[.int .i64 n] w fun e w' => e = .returned (.tuple #[.agg #[.int .i64 (fA n), .int .i64 (fB n), .int .i64 (fC n)], .bool (fOk n)]) ∧ Below w.heap.size w w' := by
  by_cases h0 : n = 0
  · subst h0
    go_enter Try.func38, Try.ntmps38
    go_wp2
    exact bodyPost_ret (v := .tuple #[.agg #[.int .i64 256, .int .i64 285, .int .i64 0], .bool true]) (by simp [results, Try.results38, go_sem]) rfl ⟨rfl, (((Below.refl _ _).alloc (Nat.le_refl _) _))⟩
  by_cases h1 : n = 1
  · subst h1
    go_enter Try.func38, Try.ntmps38
    go_wp2
    exact bodyPost_ret (v := .tuple #[.agg #[.int .i64 256, .int .i64 301, .int .i64 1], .bool true]) (by simp [results, Try.results38, go_sem]) rfl ⟨rfl, (((Below.refl _ _).alloc (Nat.le_refl _) _))⟩
  by_cases h2 : n = 2
  · subst h2
    go_enter Try.func38, Try.ntmps38
    go_wp2
    exact bodyPost_ret (v := .tuple #[.agg #[.int .i64 16, .int .i64 19, .int .i64 1], .bool true]) (by simp [results, Try.results38, go_sem]) rfl ⟨rfl, (((Below.refl _ _).alloc (Nat.le_refl _) _))⟩
  by_cases h3 : n = 3
  · subst h3
    go_enter Try.func38, Try.ntmps38
    go_wp2
    exact bodyPost_ret (v := .tuple #[.agg #[.int .i64 64, .int .i64 67, .int .i64 1], .bool true]) (by simp [results, Try.results38, go_sem]) rfl ⟨rfl, (((Below.refl _ _).alloc (Nat.le_refl _) _))⟩
  by_cases h4 : n = 4
  · subst h4
    go_enter Try.func38, Try.ntmps38
    go_wp2
    exact bodyPost_ret (v := .tuple #[.agg #[.int .i64 1024, .int .i64 1033, .int .i64 1], .bool true]) (by simp [results, Try.results38, go_sem]) rfl ⟨rfl, (((Below.refl _ _).alloc (Nat.le_refl _) _))⟩
  by_cases h5 : n = 5
  · subst h5
    go_enter Try.func38, Try.ntmps38
    go_wp2
    exact bodyPost_ret (v := .tuple #[.agg #[.int .i64 4096, .int .i64 4201, .int .i64 1], .bool true]) (by simp [results, Try.results38, go_sem]) rfl ⟨rfl, (((Below.refl _ _).alloc (Nat.le_refl _) _))⟩
  have e : fpar n = none := by unfold fpar; simp [h0, h1, h2, h3, h4, h5]
  have eA : fA n = 0 := by unfold fA; rw [e]; rfl
  have eB : fB n = 0 := by unfold fB; rw [e]; rfl
  have eC : fC n = 0 := by unfold fC; rw [e]; rfl
  have eK : fOk n = false := by unfold fOk; rw [e]; rfl
  rw [eA, eB, eC, eK]
  clear e eA eB eC eK
  go_enter Try.func38, Try.ntmps38
  go_wp2
  exact bodyPost_ret (v := .tuple #[.agg #[.int .i64 0, .int .i64 0, .int .i64 0], .bool false]) (by simp [results, Try.results38, go_sem]) rfl ⟨rfl, (((Below.refl _ _).alloc (Nat.le_refl _) _))⟩
end Go.Proofs.Ytjgclomokekogaa
