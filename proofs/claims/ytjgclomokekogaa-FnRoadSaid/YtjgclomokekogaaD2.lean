/- The package's search for the places of errors. -/
import Derived.Test.YtjgclomokekogaaD1
namespace Go.Proofs.Ytjgclomokekogaa
open Go.RowKit Rs

/-- The elements as numbers in turn. -/
def elN (f : FP) (i : Nat) : El f := if h : i < f.size then ⟨i, h⟩ else 0
theorem elN_val {f : FP} (x : El f) : elN f x.val = x := by unfold elN; rw [dif_pos x.lt]
/-- The inverses of the roots among the first j elements. -/
noncomputable def fnd {f : FP} (sl : List (El f)) : Nat → List (El f)
  | 0 => []
  | j + 1 => if j ≠ 0 ∧ ev sl (elN f j) = 0 then fnd sl j ++ [Gf.inv (elN f j)] else fnd sl j
theorem fnd_yes {f : FP} {sl : List (El f)} {x : El f} (h0 : x ≠ 0) (h : ev sl x = 0) : fnd sl (x.val + 1) = fnd sl x.val ++ [Gf.inv x] := by
  rw [fnd, elN_val, if_pos ⟨fun e => h0 (El.ext e), h⟩]
theorem fnd_no {f : FP} {sl : List (El f)} {x : El f} (h : ev sl x ≠ 0) : fnd sl (x.val + 1) = fnd sl x.val := by
  rw [fnd, elN_val, if_neg fun e => h e.2]
theorem fnd_mem {f : FP} {sl : List (El f)} {j : Nat} (hj : j ≤ f.size) {y : El f} (h : y ∈ fnd sl j) : ∃ x : El f, x.val < j ∧ x ≠ 0 ∧ ev sl x = 0 ∧ y = Gf.inv x := by
  induction j with
  | zero => simp [fnd] at h
  | succ j ih =>
    have tail : y ∈ fnd sl j → ∃ x : El f, x.val < j + 1 ∧ x ≠ 0 ∧ ev sl x = 0 ∧ y = Gf.inv x := fun h => by
      obtain ⟨x, h1, h2⟩ := ih (by omega) h
      exact ⟨x, Nat.lt_succ_of_lt h1, h2⟩
    rw [fnd] at h
    split at h
    · rename_i hc
      rcases List.mem_append.1 h with h | h
      · exact tail h
      · obtain ⟨x, hx⟩ : ∃ x : El f, x.val = j := ⟨⟨j, by omega⟩, rfl⟩
        subst hx
        rw [elN_val] at hc h
        exact ⟨x, Nat.lt_succ_self _, fun e => hc.1 (congrArg El.val e), hc.2, by simpa using h⟩
    · exact tail h
theorem fnd_has {f : FP} {sl : List (El f)} {j : Nat} {x : El f} (hx : x.val < j) (h0 : x ≠ 0) (h : ev sl x = 0) : Gf.inv x ∈ fnd sl j := by
  induction j with
  | zero => omega
  | succ j ih =>
    rw [fnd]
    by_cases e : x.val = j
    · subst e
      rw [elN_val, if_pos ⟨fun e => h0 (El.ext e), h⟩]; simp
    · have h1 := ih (by omega)
      split
      · exact List.mem_append_left _ h1
      · exact h1
theorem fnd_nodup {f : FP} {sl : List (El f)} {j : Nat} (hj : j ≤ f.size) : (fnd sl j).Nodup := by
  induction j with
  | zero => exact List.nodup_nil
  | succ j ih =>
    have h1 := ih (by omega)
    rw [fnd]
    split
    · rename_i hc
      refine List.nodup_append.2 ⟨h1, by simp, fun y hy z hz e => ?_⟩
      obtain ⟨x, hx, hx0, _, rfl⟩ := fnd_mem (by omega) hy
      simp only [List.mem_singleton] at hz
      subst hz
      obtain ⟨u, hu⟩ : ∃ u : El f, u.val = j := ⟨⟨j, by omega⟩, rfl⟩
      subst hu
      rw [elN_val] at e hc
      have := inv_inj hx0 (fun e => hc.1 (congrArg El.val e)) e
      subst this; omega
    · exact h1
theorem fnd_locs {f : FP} {sl : List (El f)} {j : Nat} (hj : j ≤ f.size) (hl : (fnd sl j).length = sl.length - 1) : LocsOf sl (fnd sl j) where
  len := hl
  nd := fnd_nodup hj
  ne y hy := by obtain ⟨x, _, hx0, _, rfl⟩ := fnd_mem hj hy; exact inv_ne hx0
  root y hy := by obtain ⟨x, _, hx0, hx, rfl⟩ := fnd_mem hj hy; rw [inv_inv hx0]; exact hx
theorem fnd_few {f : FP} {sl : List (El f)} {j : Nat} (hj : f.size ≤ j) (hl : (fnd sl j).length < sl.length - 1) : FewRoots sl :=
  ⟨fnd sl j, fun x hx hr => by
    have := fnd_has (j := j) (Nat.lt_of_lt_of_le (Gf.inv x).lt hj) (inv_ne hx) hr
    rw [inv_inv hx] at this; exact this, hl⟩
theorem locs_two {f : FP} {sl : List (El f)} (hn : Nf sl) (hl : sl.length = 2) (h1 : ps sl 0 = 1) : LocsOf sl [ps sl 1] := by
  obtain ⟨c, t, rfl, hc⟩ := hn
  match t, hl with
  | [d], _ =>
    have hc0 : c ≠ 0 := hc.resolve_left (by simp)
    have e1 : ps [c, d] 1 = c := ps_head c [d]
    have e0 : ps [c, d] 0 = d := by rw [ps_cons_at c [d] 0 (by simp)]; exact ps_head d []
    rw [e0] at h1
    rw [e1]
    refine ⟨rfl, by simp, by simp [hc0], fun x hx => ?_⟩
    simp only [List.mem_singleton] at hx
    subst hx
    rw [ev_cons, ev_cons, List.length_singleton, npow, npow, one_mul, List.length_nil, npow, Ring2.mul_one, Gf.mul_inv _ hc0, h1]
    show (1 : El f) + (1 + 0) = 0
    rw [Ring2.add_zero, Ring2.add_self]
theorem fill_snoc {f : FP} (A : List (El f)) (v : El f) (n : Nat) (h : A.length < n) : (A ++ List.replicate (n - A.length) (0 : El f)).set A.length v = (A ++ [v]) ++ List.replicate (n - (A ++ [v]).length) 0 := by
  rw [List.set_append_right _ _ (Nat.le_refl _), Nat.sub_self, show n - A.length = (n - (A ++ [v]).length) + 1 from by simp; omega, List.replicate_succ, List.set_cons_zero, List.append_assoc]
  rfl

/-- What the search is good for. -/
def LocRes (f : FP) (w : World) (sl : List (El f)) (e : Ending) (w' : World) : Prop :=
  Below w.heap.size w w' ∧ ((∃ v, e = .returned (.tuple #[.slice none 0 0, v]) ∧ Exc v ∧ FewRoots sl) ∨
    ∃ X n, ∃ xs : List (El f), e = .returned (.tuple #[.slice (some ⟨X, 0, none⟩) n n, .nilIface]) ∧ xs.length = n ∧ Blk w' X xs ∧ LocsOf sl xs ∧ w.heap.size ≤ X)

set_option maxRecDepth 100000 in
set_option maxHeartbeats 4000000 in
theorem locs_any {f : FP} (g dd q : Nat) (sl : List (El f)) (w : World) (hg : IsGF w f g) (hd : DAt w dd g) (hq : IsPoly w g q sl) (h1 : ps sl 0 = 1) :
    Calls Try.prog 84 #[.pointer (some ⟨dd, 0, none⟩), .pointer (some ⟨q, 0, none⟩)] w (LocRes f w sl) := by
  unfold DAt at hd
  have hs := f.size_le
  have hs4 := f.size_pos
  have hm : sl.length ≤ 100000 := by obtain ⟨_, _, _, _, _, ⟨_, h⟩, _⟩ := hq; exact h
  have hpos := hq.1.pos
  by_cases h2 : sl.length = 2
  · have H := Lib.hid (locs_two hq.1 h2 h1)
    have e1 : (sl.length : Int) - 1 = 1 := by omega
    have hlt : 1 < sl.length := by omega
    have HB : Hid (∀ n, LocRes f w sl (.returned (.tuple #[.slice (some ⟨w.heap.size, 0, none⟩) 1 1, .nilIface])) ((w.drewN n).alloc (.cells #[.int .i64 (ps sl 1).val] 3))) := fun n =>
      ⟨(drewN_below w n).alloc (Nat.le_refl _) _, Or.inr ⟨w.heap.size, 1, [ps sl 1], rfl, rfl, heap_alloc_new (w.drewN n) _, H.out, Nat.le_refl _⟩⟩
    clear h1 h2
    go_enter Try.func84, Try.ntmps84
    go_wp2_with (first
      | (go_at_call 74; refine (deg_any g q sl _ hq).mono ?_; rintro e w1 ⟨rfl, hw⟩; obtain rfl := hw.symm; clear hw)
      | (go_at_call 73; refine (coef_any g q sl 1 hlt _ hq).mono ?_; rintro e w1 ⟨rfl, n, rfl⟩))
    go_ret2
    exact HB.out n
  obtain ⟨N, hN⟩ : ∃ N, N = sl.length - 1 := ⟨_, rfl⟩
  have eN : (sl.length : Int) - 1 = N := by omega
  have hN1 : ((N : Int) == 1) = false := by rw [beq_eq_false_iff_ne]; omega
  have hN2 : N ≤ 100000 := by omega
  have HN := Lib.hid hN
  obtain ⟨i0, hi, hz0, hz1, hz2⟩ := info_parts Try.info3
  clear h1 h2 hN
  go_enter Try.func84, Try.ntmps84
  go_wp2_with (first
    | (go_at_call 74; refine (deg_any g q sl _ hq).mono ?_; rintro e w1 ⟨rfl, hw⟩; obtain rfl := hw.symm; clear hw)
    | (at_make; refine wpList_make_full _ rfl _ _ 22 rfl w.heap.size 3 i0 (.int .i64 0) 1 Try.underlying22 hi hz0 hz1 .i64 .i64 _ _ N rfl rfl (by first | rfl | exact eN) (by first | rfl | exact eN) (by rw [hz2]; omega) (by unfold maxLen; omega) (by simp) ?_; intro w1 hown hgrow; have hB1 : Blk w1 w.heap.size (List.replicate N (0 : El f)) := (made_blk hown); have hb1 : Below w.heap.size w w1 := ((Below.refl _ _).grown hgrow (by simp) (by simp)); clear hown hgrow))
  go_loopw [8, 9] (fun x y wr => ∃ j m : Nat, 1 ≤ j ∧ j ≤ f.size ∧ m ≤ N ∧ (fnd sl j).length = m ∧ x = .int .i64 (m : Int) ∧ y = .int .i64 (j : Int) ∧ Blk wr w.heap.size (fnd sl j ++ List.replicate (N - m) (0 : El f)) ∧ Below w.heap.size w wr) (fun _ y _ => f.size - (intOf y).toNat)
  case atStart => exact ⟨1, 0, by omega, by omega, by omega, by simp [fnd], rfl, rfl, by simpa [fnd] using hB1, hb1⟩
  case round =>
    obtain ⟨j, m, hj1, hj2, hmN, hfl, rfl, rfl, hB, hbr⟩ := hrel
    have hgr := hg.later hbr
    have hdr := cell_later hbr hd
    have hqr := hq.later hbr
    have HF := Lib.hid hfl
    clear hfl
    by_cases hlt : m < N
    rotate_left
    · have e : m = N := by omega
      subst e
      have HE : Hid (LocRes f w sl (.returned (.tuple #[.slice (some ⟨w.heap.size, 0, none⟩) m m, .nilIface])) wr) :=
        ⟨hbr, Or.inr ⟨w.heap.size, m, fnd sl j, rfl, HF.out, by simpa using hB, fnd_locs hj2 (by rw [HF.out, HN.out]), Nat.le_refl _⟩⟩
      by_cases hjs : j < f.size
      · go_wp2_with (go_at_call 90; refine (getsize_any g _ hgr).mono ?_; rintro e w1 ⟨rfl, rfl⟩)
        go_ret2
        exact HE.out
      · go_wp2_with (go_at_call 90; refine (getsize_any g _ hgr).mono ?_; rintro e w1 ⟨rfl, rfl⟩)
        go_ret2
        exact HE.out
    by_cases hjs : j < f.size
    rotate_left
    · have hne : ((m : Int) == (N : Int)) = false := by rw [beq_eq_false_iff_ne]; omega
      have HE : Hid (∀ v, Exc v → LocRes f w sl (.returned (.tuple #[.slice none 0 0, v])) wr) := fun v hv => ⟨hbr, Or.inl ⟨v, rfl, hv, fnd_few (j := j) (by omega) (by rw [HF.out]; have := HN.out; omega)⟩⟩
      go_wp2_with (first
        | (go_at_call 90; refine (getsize_any g _ hgr).mono ?_; rintro e w1 ⟨rfl, rfl⟩)
        | (go_at_call 87; refine (newexc_any _ (by decide) _).mono ?_; rintro e w1 ⟨⟨v, rfl, hv⟩, rfl⟩))
      go_ret2
      exact HE.out v hv
    obtain ⟨x, hx⟩ : ∃ x : El f, x.val = j := ⟨⟨j, hjs⟩, rfl⟩
    subst hx
    have hx0 : x ≠ 0 := fun e => by rw [e, El.zero_val] at hj1; omega
    have HX0 := Lib.hid hx0
    by_cases hz : ev sl x = 0
    · have e0 : ((ev sl x).val : Int) = 0 := by rw [hz]; rfl
      have HC : Hid (∀ n, Blk ((wr.drewN n).setCell ⟨w.heap.size, m, none⟩ (.int .i64 (Gf.inv x).val)) w.heap.size (fnd sl (x.val + 1) ++ List.replicate (N - (m + 1)) (0 : El f))) := fun n => by
        have h3 := (hB.drewN n).set m (Gf.inv x)
        have h4 := fill_snoc (fnd sl x.val) (Gf.inv x) N (by rw [HF.out]; exact hlt)
        rw [HF.out] at h4
        rw [h4, List.length_append, HF.out, List.length_singleton, ← fnd_yes hx0 hz] at h3
        exact h3
      have HL : Hid ((fnd sl (x.val + 1)).length = m + 1) := by
        show _ = _
        rw [fnd_yes hx0 hz, List.length_append, HF.out]; rfl
      have hfz : ∀ n, (wr.drewN n).frozen? ⟨w.heap.size, m, none⟩ = false := fun n => (hB.drewN n).frozen m
      have hxd : ∀ n, (wr.drewN n).cell? ⟨w.heap.size, m, none⟩ = some (.int .i64 0) := fun n => by
        have h3 := (hB.drewN n).cell m (by rw [List.length_append, List.length_replicate, HF.out]; omega)
        rw [h3, List.getElem_append_right (by rw [HF.out]; exact Nat.le_refl _), List.getElem_replicate]; rfl
      have hi0 : (0 : Int) ≤ (m : Int) := by omega
      have hi1 : (m : Int) < (N : Int) := by omega
      clear hz hB hx0
      go_wp2_with (first
        | (go_at_call 90; refine (getsize_any g _ hgr).mono ?_; rintro e w1 ⟨rfl, rfl⟩)
        | (go_at_call 80; refine (eval_any g q sl x _ hgr hqr).mono ?_; rintro e w1 ⟨rfl, n1, rfl⟩)
        | (go_at_call 75; refine (inv_any g x HX0.out _ (hgr.drewN _)).mono ?_; rintro e w1 ⟨rfl, n2, rfl⟩))
      go_roundw
      case rel => exact ⟨x.val + 1, m + 1, by omega, by omega, by omega, HL.out, by go_num, by go_num, HC.out _, (below_drewN hbr _).setCell (Nat.le_refl _) _⟩
      case measure => simp [intOf]; omega
    · have e0 := val_ne hz
      have HL : Hid (fnd sl (x.val + 1) = fnd sl x.val) := fnd_no hz
      clear hz hx0
      go_wp2_with (first
        | (go_at_call 90; refine (getsize_any g _ hgr).mono ?_; rintro e w1 ⟨rfl, rfl⟩)
        | (go_at_call 80; refine (eval_any g q sl x _ hgr hqr).mono ?_; rintro e w1 ⟨rfl, n1, rfl⟩))
      go_roundw
      case rel => exact ⟨x.val + 1, m, by omega, by omega, hmN, by rw [HL.out]; exact HF.out, rfl, by go_num, by rw [HL.out]; exact hB.drewN _, below_drewN hbr _⟩
      case measure => simp [intOf]; omega
end Go.Proofs.Ytjgclomokekogaa
