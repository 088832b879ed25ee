/- The generator polynomials. -/
import Derived.Test.YtjgclomokekogaaDiv
namespace Go.Proofs.Ytjgclomokekogaa
open Rs

/-- x less a power of 2. -/
noncomputable def lin {f : FP} (i : Nat) : Ps (El f) := mon 1 1 + mon (El.exp f i) 0
/-- The product of the first k of them, from the field's first root on. -/
noncomputable def gens (f : FP) : Nat → Ps (El f)
  | 0 => 1
  | k + 1 => gens f k * lin (k + f.base)
theorem ps_lin {f : FP} (i : Nat) : ps [(1 : El f), El.exp f i] = lin i := by
  simp only [ps, List.length_cons, List.length_nil]; unfold lin; rw [Ring2.add_zero]
theorem lin_dg {f : FP} (i : Nat) : Dg (lin i : Ps (El f)) 2 := by rw [← ps_lin]; exact ps_dg _
theorem lin_top {f : FP} (i : Nat) : (lin i : Ps (El f)) 1 = 1 := by
  unfold lin; rw [ps_add]; simp only [mon]; simp [Ring2.add_zero]
theorem gens_dg (f : FP) (k : Nat) : Dg (gens f k) (k + 1) := by
  induction k with
  | zero => exact Dg.one
  | succ k ih => exact Dg.mul ih (lin_dg _)
theorem gens_top (f : FP) (k : Nat) : gens f k k = 1 := by
  induction k with
  | zero => simp [gens, ps_one]
  | succ k ih =>
    show (gens f k * lin (k + f.base) : Ps (El f)) (k + 1) = 1
    rw [top_mul (gens_dg f k) (lin_dg _), ih, lin_top, Ring2.mul_one]
theorem gens_po (f : FP) (k : Nat) : Po (gens f k) := ⟨k, gens_dg f k⟩
theorem gens_ne {f : FP} {k : Nat} {l : List (El f)} (h : ps l = gens f k) : isZ l = false := by
  unfold isZ
  refine decide_eq_false fun e => ?_
  have h1 := gens_top f k
  rw [← h, e, ps_cons_zero] at h1
  exact Gf.one_ne h1.symm
theorem gens_len {f : FP} {k : Nat} {l : List (El f)} (hn : Nf l) (h : ps l = gens f k) : l.length = k + 1 := by
  have h1 : l.length ≤ k + 1 := by
    rcases nf_len hn (h ▸ gens_dg f k) with h1 | h1
    · exact h1
    · rw [h1]; simp
  have h2 : ¬ l.length ≤ k := fun hle => by
    have h3 := gens_top f k
    rw [← h, ps_dg l k hle] at h3
    exact Gf.one_ne h3.symm
  omega
theorem lin_ne {f : FP} {i : Nat} {l : List (El f)} (h : ps l = lin i) : isZ l = false := by
  unfold isZ
  refine decide_eq_false fun e => ?_
  have h1 := lin_top (f := f) i
  rw [← h, e, ps_cons_zero] at h1
  exact Gf.one_ne h1.symm
/-- The generator's roots. -/
theorem evT_lin {f : FP} (i : Nat) (x : El f) : evT x 2 (lin i) = x + El.exp f i := by
  have e := ev_eq [(1 : El f), El.exp f i] x
  rw [ps_lin] at e
  show evT x [(1 : El f), El.exp f i].length (lin i) = _
  rw [← e]
  rw [ev_cons, ev_cons]; simp only [List.length_cons, List.length_nil, npow, Ring2.mul_one, one_mul]
  show x + (El.exp f i + 0) = _
  rw [Ring2.add_zero]
theorem gens_root (f : FP) (k i : Nat) (h : i < k) : evT (El.exp f (i + f.base)) (k + 1) (gens f k) = 0 := by
  induction k with
  | zero => omega
  | succ k ih =>
    have e : evT (El.exp f (i + f.base)) (k + 1 + 2) (gens f k * lin (k + f.base)) = evT (El.exp f (i + f.base)) (k + 1) (gens f k) * evT (El.exp f (i + f.base)) 2 (lin (k + f.base)) := evT_mul _ (gens_dg f k) (lin_dg _)
    rw [← evT_any _ (d := k + 1 + 2) ((gens_dg f (k + 1)).mono (by omega)) (gens_dg f (k + 1))]
    refine Eq.trans e ?_
    by_cases hk : i < k
    · rw [ih hk, zero_mul]
    · rw [show i = k from by omega, evT_lin, Ring2.add_self, mul_zero]
end Go.Proofs.Ytjgclomokekogaa
