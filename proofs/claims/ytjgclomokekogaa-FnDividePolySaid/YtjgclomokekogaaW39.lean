/- The statement about a polynomial times a monomial: its walk. -/
import Derived.Test.YtjgclomokekogaaW38
namespace Go.Proofs.Ytjgclomokekogaa
open Go.RowKit Rs

theorem run_append_none0 (w : World) (g n cap : Nat) (h : n ≤ cap) :
    (Builtin.append_ #[22, 3] 22 #[.slice (some ⟨g, 0, none⟩) n cap, .int .i64 ((0 : Nat) : Int)]).run Try.prog w = .ok (.slice (some ⟨g, 0, none⟩) n cap) w := by
  obtain ⟨i0, hi, hz0, hz1, hz2⟩ := info_parts Try.info3
  have hw : IntKind.i64.wrap (0 : Int) = 0 := wrap_i64_nat 0 (by omega)
  simp [Builtin.append_, run_underlying Try.underlying22, run_underlying Try.underlying3, sizeOf, typeInfo, zeroValue, hi, hz0, hz1, hz2, asInt, asIntOf, hw, h, storeCells]
/-- Noughts appended, at a plain operation. -/
theorem apz_on {ops : Array Oper} {rest : List Oper} {o : Oper} {a : Act} {w : World} {Q : Exit → Act → World → Prop} (hg : o.guard = none) (s x : Operand)
    (hop : o.op = Op.call { callee := Callee.builtin Builtin.append, args := #[s, x], argTypes := #[22, 3] }) (hty : o.type = 22) (base g n cap m : Nat) (xs : List Value)
    (hs : a.eval s = .slice (some ⟨g, 0, none⟩) n cap) (hx : a.eval x = .int .i64 (m : Int)) (hown : w.ownsRow base 3 1 (.slice (some ⟨g, 0, none⟩) n cap) n xs) (hn : 1 ≤ n) (hsm : n + m ≤ 100000) (hbase : base ≤ w.heap.size)
    (hK : ∀ g' cap' w', w'.ownsRow base 3 1 (.slice (some ⟨g', 0, none⟩) (n + m) cap') (n + m) (xs ++ List.replicate m (.int .i64 0)) → w.grownBy w' (some g) → wpList Try.prog ops Q rest (a.put o.dst (.slice (some ⟨g', 0, none⟩) (n + m) cap')) w') :
    wpList Try.prog ops Q (o :: rest) a w := by
  refine wpList_plain hg fun K hKK => ?_
  by_cases hm : 1 ≤ m
  · obtain ⟨g', cap', w', hr, h1, h2⟩ := run_append_zeros w base g n cap m xs hown hm hsm hbase
    unfold Oper.wp
    simp [execOp, hop, resolve, invoke, builtin, hs, hx, hty, hr, Result.andThen]
    exact hKK _ _ (hK g' cap' w' h1 h2)
  · have h0 : m = 0 := by omega
    subst h0
    have hr := run_append_none0 w g n cap (own_le hown (by omega)).2.2
    unfold Oper.wp
    simp [execOp, hop, resolve, invoke, builtin, hs, hx, hty, Result.andThen]
    rw [show (0 : Int) = ((0 : Nat) : Int) from rfl, hr]
    exact hKK _ _ (hK g cap w (by rw [Nat.add_zero, List.replicate_zero, List.append_nil]; exact hown) ⟨rfl, rfl, rfl, Nat.le_refl _, fun _ _ _ => rfl⟩)
theorem lit_own1 (w : World) (x : Int) : (w.alloc (.cells #[.int .i64 x] 3)).ownsRow w.heap.size 3 1 (.slice (some ⟨w.heap.size, 0, none⟩) 1 1) 1 [.int .i64 x] :=
  World.ownsRow_lit (base := w.heap.size) (e := 3) (size := 1) w #[.int .i64 x] 1 (Nat.le_refl _) (by unfold maxLen; omega) rfl

set_option maxHeartbeats 8000000 in
theorem fnmono_any (n d x : Int) (s1 : Option Addr) (k1 c1 : Nat) (l1 : List Int) (w : World) (hk1 : l1.length = k1) (hm1 : k1 ≤ maxLen) (hi1 : Ints w (.slice s1 k1 c1) l1) :
    Calls Try.prog 8 #[.int .i64 n, .slice s1 k1 c1, .int .i64 d, .int .i64 x] w (Yes w) := by
  have H1 := Lib.hid hi1
  obtain ⟨t1, t2⟩ := one_ints hi1
  have T1 := Lib.hid t1
  have T2 := Lib.hid t2
  have hb0 : Below w.heap.size w (w.alloc (.cells #[.slice s1 k1 c1] 22)) := below_make w _
  clear hi1 t1 t2
  unfold maxLen at hm1
  by_cases hg1 : (2147483647 : Int) < (k1 : Int)
  · clear hk1
    go_enter Try.func8, Try.ntmps8
    go_wp2
    go_ret
    exact ⟨rfl, Below.refl _ _⟩
  have hpol := Lib.hid (polys_any n w.heap.size 1 [.slice s1 k1 c1] [l1] _ rfl rfl (by omega) T1.out T2.out)
  by_cases hp : PolysP n [l1]
  rotate_left
  · have HP := Lib.hid hp
    clear hk1 hp
    go_enter Try.func8, Try.ntmps8
    go_wp2_with (first | (go_at_call 20; refine hpol.out.mono ?_; rintro e w1 ⟨b, rfl, hy, _, hb1⟩; have hbf : b = false := Bool.eq_false_iff.2 (fun h => HP.out (hy h)); clear hy; subst hbf) | (go_at_call 15; refine (works_any _).mono ?_; rintro e w2 ⟨rfl, hb2⟩))
    go_ret
    exact ⟨rfl, ext_trans (hb0.trans (hb1.mono hb0.size)) hb2⟩
  by_cases hd1 : d < 0
  · have e1 := decide_eq_true hd1
    have HP := Lib.hid hp
    clear hk1 hp hd1
    go_enter Try.func8, Try.ntmps8
    go_wp2_with (first
      | (go_at_call 20; refine hpol.out.mono ?_; rintro e w1 ⟨b', rfl, _, hy, hb1⟩; have hbf : b' = true := hy HP.out; clear hy; subst hbf; have hbw1 : Below w.heap.size w w1 := hb0.trans (hb1.mono hb0.size))
      | (go_at_call 15; refine (works_any _).mono ?_; rintro e w3 ⟨rfl, hb3⟩))
    go_ret
    exact ⟨rfl, ext_trans hbw1 hb3⟩
  by_cases hd2 : 60 < d
  · have e1 := decide_eq_true hd2
    have HP := Lib.hid hp
    clear hk1 hp hd2
    go_enter Try.func8, Try.ntmps8
    go_wp2_with (first
      | (go_at_call 20; refine hpol.out.mono ?_; rintro e w1 ⟨b', rfl, _, hy, hb1⟩; have hbf : b' = true := hy HP.out; clear hy; subst hbf; have hbw1 : Below w.heap.size w w1 := hb0.trans (hb1.mono hb0.size))
      | (go_at_call 15; refine (works_any _).mono ?_; rintro e w3 ⟨rfl, hb3⟩))
    go_ret
    exact ⟨rfl, ext_trans hbw1 hb3⟩
  have e1 := decide_eq_false hd1
  have e2 := decide_eq_false hd2
  by_cases hin : InP n [x]
  rotate_left
  · have HP := Lib.hid hp
    have HI := Lib.hid hin
    clear hk1 hp hin
    go_enter Try.func8, Try.ntmps8
    go_wp2_with (first
      | (go_at_call 20; refine hpol.out.mono ?_; rintro e w1 ⟨b', rfl, _, hy, hb1⟩; have hbf : b' = true := hy HP.out; clear hy; subst hbf; have hbw1 : Below w.heap.size w w1 := hb0.trans (hb1.mono hb0.size))
      | (go_at_call 14; refine (in_any n _ [x] _ (lit_ints w1 x) (by simp)).mono ?_; rintro e w2 ⟨b, rfl, hy, _, hb2⟩; have hbf : b = false := Bool.eq_false_iff.2 (fun h => HI.out (hy h)); clear hy; subst hbf; have hbw2 : Below w.heap.size w w2 := (ext_trans hbw1 (below_make w1 _)).trans (hb2.mono (ext_trans hbw1 (below_make w1 _)).size))
      | (go_at_call 15; refine (works_any _).mono ?_; rintro e w3 ⟨rfl, hb3⟩))
    go_ret
    exact ⟨rfl, ext_trans hbw2 hb3⟩
  have p1 := polys_one hp
  obtain ⟨f, hf⟩ := inp_fp p1.2.2
  obtain ⟨a, ha, hal⟩ := poly_el hf p1
  obtain ⟨c, rfl⟩ := in_one hf hin
  obtain ⟨dn, rfl⟩ : ∃ dn : Nat, d = (dn : Int) := ⟨d.toNat, by omega⟩
  have hdn : dn ≤ 60 := by omega
  have hea := Lib.hid (H1.out.elems ha p1.1)
  have hml : (c :: List.replicate dn (0 : El f)).length = 1 + dn := by simp; omega
  have hlen : a.length + (c :: List.replicate dn (0 : El f)).length ≤ 100000 := by have := p1.2.1; omega
  have hlen1 : a.length + dn ≤ 10000 := by have := p1.2.1; omega
  have HP := Lib.hid hp
  have HI := Lib.hid hin
  have HML := Lib.hid hml
  have hvm : Hid ([Value.int .i64 (c.val : Int)] ++ List.replicate dn (.int .i64 0) = vs (c :: List.replicate dn (0 : El f))) := by show _ = _; simp [vs, El.zero_val]
  clear hk1 hp hin p1 ha hal hd1 hd2 hml
  go_enter Try.func8, Try.ntmps8
  go_wp2_with (first
    | (go_at_call 20; refine hpol.out.mono ?_; rintro e w1 ⟨b', rfl, _, hy, hb1⟩; have hbf : b' = true := hy HP.out; clear hy; subst hbf; have hbw1 : Below w.heap.size w w1 := hb0.trans (hb1.mono hb0.size))
    | (go_at_call 14; refine (in_any n _ [(c.val : Int)] _ (lit_ints w1 c.val) (by simp)).mono ?_; rintro e w2 ⟨b, rfl, _, hy, hb2⟩; have hbf : b = true := hy HI.out; clear hy; subst hbf; have hbw2 : Below w.heap.size w w2 := (ext_trans hbw1 (below_make w1 _)).trans (hb2.mono (ext_trans hbw1 (below_make w1 _)).size))
    | ((with_reducible show wpList _ _ _ (⟨some 37, _, _, _, _, _⟩ :: _) _ _); refine apz_on (o := ⟨some 37, _, _, _, _, _⟩) rfl (.tmp 35) (.tmp 36) rfl rfl w2.heap.size w2.heap.size 1 1 dn _ rfl rfl (lit_own1 w2 c.val) (by omega) (by omega) (by simp) ?_; intro c4 cap4 w4 hown4 hg4; rw [hvm.out] at hown4; have hb4 : Below w2.heap.size w2 w4 := (below_make w2 _).grown hg4 (by simp) (by intro k' hk'; simp only [Option.some.injEq] at hk'; omega); have hem := Lib.hid (own_elems hown4 HML.out (by omega) (by omega)); have hbw4 := ext_trans hbw2 hb4; clear hown4 hg4)
    | (go_at_call 27; refine (implmono_any n f hf _ a dn c _ (hea.out.later hbw4) hlen1).mono ?_; rintro e w3 ⟨v3, l3, rfl, hv3, hn3, hp3, hb3⟩; have HP3 := Lib.hid hp3; have hn3' := trimL_nf l3 hn3.pos; clear hp3; have hbw3 := ext_trans hbw4 hb3)
    | (go_at_call 22; refine (trim_any _ l3 _ hv3).mono ?_; rintro e w5 ⟨v4, rfl, hv4, rfl⟩)
    | (go_at_call 24; refine (product_any n f hf _ _ a (c :: List.replicate dn (0 : El f)) _ (hea.out.later hbw3) (hem.out.later hb3) hlen).mono ?_; rintro e w5 ⟨v5, l5, rfl, hv5, hn5, hp5, hb5⟩; have HQ5 := Lib.hid hp5; clear hp5)
    | (go_at_call 17; refine (same_any _ _ (trimL l3) _ (hv4.later hb5).elems (by rw [nf_inj hn3' hn5 (by rw [trimL_ps, HP3.out, HQ5.out, ps_build, Ring2.mul_comm])]; exact hv5.elems)).mono ?_; rintro e w6 ⟨rfl, hb6⟩)
    | (go_at_call 15; refine (works_any _).mono ?_; rintro e w7 ⟨rfl, hb7⟩))
  go_ret
  exact ⟨rfl, ext_trans (ext_trans (ext_trans hbw3 hb5) hb6) hb7⟩
end Go.Proofs.Ytjgclomokekogaa
