/- The package's sum of two polynomials. -/
import Derived.Test.YtjgclomokekogaaW5
import Derived.Test.YtjgclomokekogaaBlk
import Derived.Deep.RegionHeld3
import Derived.Deep.DeepFit
import Derived.LaidEqlPtr
import Derived.Test.YtjgclomokekogaaPol
namespace Go.Proofs.Ytjgclomokekogaa
open Go.RowKit Rs

theorem Try.info3 : (Try.prog.info? 3).map (fun i => (i.zero, i.size, i.bytes)) = some (some (.int .i64 0), 1, 8) := by kernel_rfl
theorem Try.size3 : (Try.prog.info? 3).map (·.size) = some 1 := by kernel_rfl

theorem made_blk {f : FP} {w : World} {base g n : Nat} (h : w.ownsRow base 3 1 (.slice (some ⟨g, 0, none⟩) n n) n (madeCells (Value.int .i64 0).cells (n * 1)).toList) : Blk w g (List.replicate n (0 : El f)) := by
  rw [made_zeros f] at h
  exact own_blk h
theorem Cells.below {f : FP} {w w' : World} {B b off : Nat} {l : List (El f)} (h : Cells w b off l) (hb : Below B w w') (hB : b < B) : Cells w' b off l :=
  fun k hk => (hb.cell (p := ⟨b, off + k, none⟩) hB).trans (h k hk)
theorem cells_take {f : FP} {w : World} {b off : Nat} {l : List (El f)} (h : Cells w b off l) (k : Nat) : Cells w b off (l.take k) := fun j hj => by
  simp at hj
  rw [List.getElem_take]; exact h j (by omega)
theorem cells_vs {f : FP} {w : World} {b off : Nat} {l : List (El f)} (h : Cells w b off l) (j : Nat) (v : Value) (hj : (vs l)[j]? = some v) : w.cell? ((⟨b, off, none⟩ : Addr).add j) = some v := by
  obtain ⟨h1, h2⟩ := List.getElem?_eq_some_iff.1 hj
  rw [vs_length] at h1
  have := h j h1
  simp [vs] at h2
  rw [← h2]
  by_cases e : j = 0
  · subst e; simpa [Addr.add] using this
  · simpa [Addr.add, e] using this
theorem cells_vs' {f : FP} {w : World} {b off : Nat} {l : List (El f)} (h : Cells w b off l) (j : Nat) (v : Value) (hj : (vs l)[j]? = some v) : w.cell? ⟨b, off + j, none⟩ = some v := by
  obtain ⟨h1, h2⟩ := List.getElem?_eq_some_iff.1 hj
  rw [vs_length] at h1
  have := h j h1
  simp [vs] at h2
  rw [← h2]; exact this
theorem vs_one {f : FP} (l : List (El f)) : ∀ v ∈ vs l, v.oneCell' = true := by
  intro v hv
  simp [vs] at hv
  obtain ⟨a, _, rfl⟩ := hv; rfl
theorem copy_shape {f : FP} (l : List (El f)) (ld : Nat) (h : ld ≤ l.length) :
    (List.replicate l.length (0 : El f)).take 0 ++ (l.take ld ++ (List.replicate l.length (0 : El f)).drop (0 + (l.take ld).length)) = l.take ld ++ List.replicate (l.length - ld) 0 := by
  simp [Nat.min_eq_left h]
theorem Blk.drew {f : FP} {w : World} {D : Nat} {l : List (El f)} (h : Blk w D l) : Blk w.drew D l := h
theorem fill_blk {f : FP} {w : World} {D k n : Nat} {T : List (El f)} {v : El f} (h : Blk w D (T.take k ++ List.replicate (n - k) (0 : El f))) (hT : T.length = n) (hk : k < n) (hv : ∀ h, v = T[k]'h) :
    Blk (w.setCell ⟨D, k, none⟩ (.int .i64 v.val)) D (T.take (k + 1) ++ List.replicate (n - (k + 1)) (0 : El f)) := by
  have := h.set k v
  rw [hv (by omega), fill_set T 0 n k hT.symm (by omega)] at this
  rw [hv (by omega)]; exact this
theorem sum_at {f : FP} {a b T : List (El f)} {ld j k : Nat} (h : ∀ j (h1 : j < a.length) (h2 : ld + j < b.length) (h3 : ld + j < T.length), a[j] + b[ld + j] = T[ld + j])
    (hk : k = ld + j) (hj : j < a.length) (hb : k < b.length) (hT : k < T.length) : a[j] + b[k] = T[k] := by
  subst hk; exact h j hj hb hT
theorem Try.info104 : (Try.prog.info? 104).isSome = true := by kernel_rfl
/-- Two pointers to one field are not unequal. -/
theorem run_neq_same (a : Addr) (w : World) : (binOp .neq 44 (.pointer (some a)) (.pointer (some a))).run Try.prog w = .ok (.bool false) w := by
  obtain ⟨j, hj⟩ := Option.isSome_iff_exists.1 Try.info104
  have h : ∀ d : Nat, (Op.equalIn (d + 1) 44 (.pointer (some a)) (.pointer (some a))).run Try.prog w = .ok true w := fun d => by
    simp [Op.equalIn, run_underlying Try.underlying44, sizeOf, typeInfo, hj, run_sameAddr_same]
  simp only [binOp]
  simp [Op.equal, Op.maxDepth, h 9999]

set_option maxRecDepth 100000 in
set_option maxHeartbeats 2000000 in
theorem add_any {f : FP} (g p q : Nat) (a b : List (El f)) (w : World) (hp : IsPoly w g p a) (hq : IsPoly w g q b) :
    Calls Try.prog 49 #[.pointer (some ⟨p, 0, none⟩), .pointer (some ⟨q, 0, none⟩)] w (NewPoly w g (ps a + ps b) (max a.length b.length)) := by
  have hp' := hp
  have hq' := hq
  obtain ⟨hna, pa0, ba, oa, ca, ⟨hca, hma⟩, pa1, ha⟩ := hp
  obtain ⟨hnb, pb0, bb, ob, cb, ⟨hcb, hmb⟩, pb1, hb⟩ := hq
  obtain ⟨i0, hi, hz0, hz1, hz2⟩ := info_parts Try.info3
  have hneq := run_neq_same ⟨g, 0, none⟩
  by_cases hza : isZ a = true
  · have e : a = [0] := by simpa [isZ] using hza
    have HF : ∀ n, NewPoly w g (ps a + ps b) (max a.length b.length) (.returned (.tuple #[.pointer (some ⟨q, 0, none⟩), .nilIface])) (w.drewN n) := fun n =>
      ⟨q, b, rfl, hq'.drewN n, by rw [e, ps_cons_zero]; exact (zero_add _).symm, by omega, drewN_below w n⟩
    have HF' := Lib.hid HF
    clear e HF
    go_enter Try.func49, Try.ntmps49
    go_wp2
    go_quiet (fail)
    go_wp2_with (go_at_call 71; refine (iszero_any g _ _ _ (by first | exact hp'.drewN _ | exact hq'.drewN _)).mono ?_; rintro e w1 ⟨rfl, rfl⟩)
    go_ret2
    exact HF'.out _
  by_cases hzb : isZ b = true
  · have e : b = [0] := by simpa [isZ] using hzb
    have hza' : isZ a = false := by simpa using hza
    have HF : ∀ n, NewPoly w g (ps a + ps b) (max a.length b.length) (.returned (.tuple #[.pointer (some ⟨p, 0, none⟩), .nilIface])) (w.drewN n) := fun n =>
      ⟨p, a, rfl, hp'.drewN n, by rw [e, ps_cons_zero]; exact (Ring2.add_zero _).symm, by omega, drewN_below w n⟩
    have HF' := Lib.hid HF
    clear e HF hza
    go_enter Try.func49, Try.ntmps49
    go_wp2
    go_quiet (fail)
    go_wp2_with (go_at_call 71; refine (iszero_any g _ _ _ (by first | exact hp'.drewN _ | exact hq'.drewN _)).mono ?_; rintro e w1 ⟨rfl, rfl⟩)
    go_ret2
    exact HF'.out _
  have hza' : isZ a = false := by simpa using hza
  have hzb' : isZ b = false := by simpa using hzb
  clear hza hzb
  by_cases h1 : a.length ≤ b.length
  · have halt : ba < w.heap.size := block_lt (ha 0 hna.pos)
    have hblt : bb < w.heap.size := block_lt (hb 0 hnb.pos)
    obtain ⟨ld, hld⟩ : ∃ ld, b.length = ld + a.length := ⟨b.length - a.length, by omega⟩
    have e1 : (b.length : Int) - a.length = ld := by omega
    have e2 : b.length - a.length = ld := by omega
    obtain ⟨T, HT0, hTl, hT0, hTg⟩ := sum_facts a b ld hld
    have HT : Hid (ps T = ps a + ps b) := HT0
    have HTl := Lib.hid hTl
    have hT0 := Lib.hid hT0
    have hTg := Lib.hid hTg
    clear HT0
    have hlS : a.length ≤ b.length := by omega
    have hlL : b.length ≤ ld + a.length := by omega
    have hlL' : ld + a.length ≤ b.length := by omega
    clear hld hTl
    go_enter Try.func49, Try.ntmps49
    go_wp2
    go_quiet (fail)
    go_wp2_with (first
      | (go_at_call 71; refine (iszero_any g _ _ _ (by first | exact hp'.drewN _ | exact hq'.drewN _)).mono ?_; rintro e w1 ⟨rfl, rfl⟩)
      | (at_make; refine wpList_make_full _ rfl _ _ 22 rfl w.heap.size 3 i0 (.int .i64 0) 1 Try.underlying22 hi hz0 hz1 .i64 .i64 _ _ b.length rfl rfl rfl rfl (by rw [hz2]; omega) (by unfold maxLen; omega) (by simp) ?_; intro w1 hown hgrow; have hB1 : Blk w1 w.heap.size (List.replicate b.length (0 : El f)) := (made_blk hown); have hb1 : Below w.heap.size w w1 := ((drewN_below w _).grown hgrow (by simp) (by simp)); clear hown hgrow)
      | ((with_reducible show wpList _ _ _ (⟨some 54, _, _, _, _, _⟩ :: _) _ _); refine wpList_copy_splice (o := ⟨some 54, _, _, _, _, _⟩) rfl (.tmp 50) (.tmp 53) 22 22 rfl 3 Try.underlying22 Try.size3 _ _ _ _ _ _ rfl rfl w.heap.size 0 (vs (List.replicate b.length (0 : El f))) 3 hB1.out (vs (b.take ld)) ?c1 ?c2 ?c3 ?c4 w.heap.size w hb1 (Nat.le_refl _) ?c5))
    case c1 => simp [vs]
    case c2 => exact fun _ j v hj => cells_vs' (cells_take (Cells.below hb hb1 hblt) ld) j v hj
    case c3 => simp [vs]; omega
    case c4 => exact vs_one _
    case c5 =>
      intro w2 hblk hb2
      have hB2 : Blk w2 w.heap.size (T.take ld ++ List.replicate (b.length - ld) (0 : El f)) := by
        have := hblk.out; rw [splice_vs] at this; unfold Blk; rw [this, hT0.out, copy_shape b ld (by omega)]
      clear hblk hB1 hb1
      go_wp2
      go_loopw [10] (fun i wr => ∃ k : Nat, ld ≤ k ∧ k ≤ b.length ∧ i = .int .i64 (k : Int) ∧ Blk wr w.heap.size (T.take k ++ List.replicate (b.length - k) (0 : El f)) ∧ Below w.heap.size w wr) (fun i _ => b.length - (intOf i).toNat)
      case atStart => exact ⟨ld, by omega, by omega, rfl, hB2, hb2⟩
      case round =>
        obtain ⟨k, hk1, hk2, rfl, hB, hbr⟩ := hrel
        by_cases hlt : k < b.length
        · obtain ⟨j, hj⟩ : ∃ j, k = ld + j := ⟨k - ld, by omega⟩
          have hj1 : k ≤ ld + j := by omega
          have hj2 : ld + j ≤ k := by omega
          have hja : j < a.length := by omega
          have ek : IntKind.i64.wrap ((k : Int) - ld) = (j : Int) := by rw [show (k : Int) - ld = (j : Int) from by omega]; exact wrap_i64_nat _ (by omega)
          have HJ := Lib.hid hj
          clear hj
          have hxa := (Cells.below ha hbr halt) j hja
          have hxb := (Cells.below hb hbr hblt) k hlt
          have hfz := hB.frozen k
          obtain ⟨z, hxd⟩ : ∃ z, wr.cell? ⟨w.heap.size, k, none⟩ = some z := ⟨_, hB.cell k (by rw [List.length_append, List.length_take, HTl.out, List.length_replicate]; omega)⟩
          have hn1 : ¬ ba = w.heap.size := by omega
          have hn2 : ¬ bb = w.heap.size := by omega
          have hn3 : ¬ w.heap.size = ba := by omega
          have hn4 : ¬ w.heap.size = bb := by omega
          have hi0 : (0 : Int) ≤ (k : Int) := by omega
          have hi1 : (k : Int) < (b.length : Int) := by omega
          have hi2 : (j : Int) < (a.length : Int) := by omega
          have hi3 : (0 : Int) ≤ (j : Int) := by omega
          go_wp2_with fail
          go_region_held3 (fun w' => w'.cell? ⟨ba, oa + j, none⟩ = some (.int .i64 a[j].val) ∧ w'.cell? ⟨bb, ob + k, none⟩ = some (.int .i64 b[k].val)) (go_keep) (first | (go_at_call 78; refine (xor_any _ _ _).mono ?_; rintro e w' ⟨rfl, rfl⟩))
          have HV : Hid (Blk (wr.setCell ⟨w.heap.size, k, none⟩ (.int .i64 (a[j] + b[k]).val)) w.heap.size (T.take (k + 1) ++ List.replicate (b.length - (k + 1)) (0 : El f))) :=
            fill_blk hB HTl.out hlt (sum_at hTg.out HJ.out hja hlt)
          go_wp2
          go_roundw
          case rel => exact ⟨k + 1, by omega, by omega, by go_num, HV.out.drew, (hbr.setCell (Nat.le_refl _) _).drew⟩
          case measure => simp [intOf]; omega
        · have hBT : Blk wr w.heap.size T := by
            have := hB; rw [show k = b.length from by omega, fill_all T 0 b.length HTl.out.symm] at this; exact this
          have hCT := Lib.hid hBT.cells
          have hp0 := (hbr.cell (p := ⟨p, 0, none⟩) (block_lt pa0)).trans pa0
          clear hB hBT
          go_wp2_with (go_at_call 66; refine (newpoly_at (f := f) g w.heap.size 0 b.length b.length T HTl.out hnb.pos hmb (Nat.le_refl _) _ hCT.out).mono ?_; rintro e w3 ⟨q', l', rfl, hP, hps, hlen, hbl⟩)
          go_ret2
          exact ⟨q', l', rfl, hP, by rw [hps, HT.out], by omega, hbr.trans (hbl.mono hbr.size)⟩
  · have halt : ba < w.heap.size := block_lt (ha 0 hna.pos)
    have hblt : bb < w.heap.size := block_lt (hb 0 hnb.pos)
    obtain ⟨ld, hld⟩ : ∃ ld, a.length = ld + b.length := ⟨a.length - b.length, by omega⟩
    have e1 : (a.length : Int) - b.length = ld := by omega
    have e2 : a.length - b.length = ld := by omega
    obtain ⟨T, HT0, hTl, hT0, hTg⟩ := sum_facts b a ld hld
    rw [Ring2.add_comm (ps b)] at HT0
    have HT : Hid (ps T = ps a + ps b) := HT0
    have HTl := Lib.hid hTl
    have hT0 := Lib.hid hT0
    have hTg := Lib.hid hTg
    clear HT0
    have hlS : b.length ≤ a.length := by omega
    have hlL : a.length ≤ ld + b.length := by omega
    have hlL' : ld + b.length ≤ a.length := by omega
    clear hld hTl
    go_enter Try.func49, Try.ntmps49
    go_wp2
    go_quiet (fail)
    go_wp2_with (first
      | (go_at_call 71; refine (iszero_any g _ _ _ (by first | exact hp'.drewN _ | exact hq'.drewN _)).mono ?_; rintro e w1 ⟨rfl, rfl⟩)
      | (at_make; refine wpList_make_full _ rfl _ _ 22 rfl w.heap.size 3 i0 (.int .i64 0) 1 Try.underlying22 hi hz0 hz1 .i64 .i64 _ _ a.length rfl rfl rfl rfl (by rw [hz2]; omega) (by unfold maxLen; omega) (by simp) ?_; intro w1 hown hgrow; have hB1 : Blk w1 w.heap.size (List.replicate a.length (0 : El f)) := (made_blk hown); have hb1 : Below w.heap.size w w1 := ((drewN_below w _).grown hgrow (by simp) (by simp)); clear hown hgrow)
      | ((with_reducible show wpList _ _ _ (⟨some 54, _, _, _, _, _⟩ :: _) _ _); refine wpList_copy_splice (o := ⟨some 54, _, _, _, _, _⟩) rfl (.tmp 50) (.tmp 53) 22 22 rfl 3 Try.underlying22 Try.size3 _ _ _ _ _ _ rfl rfl w.heap.size 0 (vs (List.replicate a.length (0 : El f))) 3 hB1.out (vs (a.take ld)) ?c1 ?c2 ?c3 ?c4 w.heap.size w hb1 (Nat.le_refl _) ?c5))
    case c1 => simp [vs]
    case c2 => exact fun _ j v hj => cells_vs' (cells_take (Cells.below ha hb1 halt) ld) j v hj
    case c3 => simp [vs]; omega
    case c4 => exact vs_one _
    case c5 =>
      intro w2 hblk hb2
      have hB2 : Blk w2 w.heap.size (T.take ld ++ List.replicate (a.length - ld) (0 : El f)) := by
        have := hblk.out; rw [splice_vs] at this; unfold Blk; rw [this, hT0.out, copy_shape a ld (by omega)]
      clear hblk hB1 hb1
      go_wp2
      go_loopw [10] (fun i wr => ∃ k : Nat, ld ≤ k ∧ k ≤ a.length ∧ i = .int .i64 (k : Int) ∧ Blk wr w.heap.size (T.take k ++ List.replicate (a.length - k) (0 : El f)) ∧ Below w.heap.size w wr) (fun i _ => a.length - (intOf i).toNat)
      case atStart => exact ⟨ld, by omega, by omega, rfl, hB2, hb2⟩
      case round =>
        obtain ⟨k, hk1, hk2, rfl, hB, hbr⟩ := hrel
        by_cases hlt : k < a.length
        · obtain ⟨j, hj⟩ : ∃ j, k = ld + j := ⟨k - ld, by omega⟩
          have hj1 : k ≤ ld + j := by omega
          have hj2 : ld + j ≤ k := by omega
          have hja : j < b.length := by omega
          have ek : IntKind.i64.wrap ((k : Int) - ld) = (j : Int) := by rw [show (k : Int) - ld = (j : Int) from by omega]; exact wrap_i64_nat _ (by omega)
          have HJ := Lib.hid hj
          clear hj
          have hxa := (Cells.below hb hbr hblt) j hja
          have hxb := (Cells.below ha hbr halt) k hlt
          have hfz := hB.frozen k
          obtain ⟨z, hxd⟩ : ∃ z, wr.cell? ⟨w.heap.size, k, none⟩ = some z := ⟨_, hB.cell k (by rw [List.length_append, List.length_take, HTl.out, List.length_replicate]; omega)⟩
          have hn1 : ¬ ba = w.heap.size := by omega
          have hn2 : ¬ bb = w.heap.size := by omega
          have hn3 : ¬ w.heap.size = ba := by omega
          have hn4 : ¬ w.heap.size = bb := by omega
          have hi0 : (0 : Int) ≤ (k : Int) := by omega
          have hi1 : (k : Int) < (a.length : Int) := by omega
          have hi2 : (j : Int) < (b.length : Int) := by omega
          have hi3 : (0 : Int) ≤ (j : Int) := by omega
          go_wp2_with fail
          go_region_held3 (fun w' => w'.cell? ⟨bb, ob + j, none⟩ = some (.int .i64 b[j].val) ∧ w'.cell? ⟨ba, oa + k, none⟩ = some (.int .i64 a[k].val)) (go_keep) (first | (go_at_call 78; refine (xor_any _ _ _).mono ?_; rintro e w' ⟨rfl, rfl⟩))
          have HV : Hid (Blk (wr.setCell ⟨w.heap.size, k, none⟩ (.int .i64 (b[j] + a[k]).val)) w.heap.size (T.take (k + 1) ++ List.replicate (a.length - (k + 1)) (0 : El f))) :=
            fill_blk hB HTl.out hlt (sum_at hTg.out HJ.out hja hlt)
          go_wp2
          go_roundw
          case rel => exact ⟨k + 1, by omega, by omega, by go_num, HV.out.drew, (hbr.setCell (Nat.le_refl _) _).drew⟩
          case measure => simp [intOf]; omega
        · have hBT : Blk wr w.heap.size T := by
            have := hB; rw [show k = a.length from by omega, fill_all T 0 a.length HTl.out.symm] at this; exact this
          have hCT := Lib.hid hBT.cells
          have hp0 := (hbr.cell (p := ⟨p, 0, none⟩) (block_lt pa0)).trans pa0
          clear hB hBT
          go_wp2_with (go_at_call 66; refine (newpoly_at (f := f) g w.heap.size 0 a.length a.length T HTl.out hna.pos hma (Nat.le_refl _) _ hCT.out).mono ?_; rintro e w3 ⟨q', l', rfl, hP, hps, hlen, hbl⟩)
          go_ret2
          exact ⟨q', l', rfl, hP, by rw [hps, HT.out], by omega, hbr.trans (hbl.mono hbr.size)⟩
end Go.Proofs.Ytjgclomokekogaa
