/-
  wantCandidates (11) at ARIMA011 with theta left to choose: the sort.
-/
import Derived.Test.Qxb6601956aWantA
import Derived.Test.Qxb6601956aSplit
namespace Go.Proofs.Qxb6601956a
open Go.RowKit Fl
attribute [local go_sem] store_float

theorem Try.info3 : (Try.prog.info? 3).map (fun i => (i.zero, i.size, i.bytes)) = some (some (.int .i64 0), 1, 8) := by kernel_rfl

/-- Numbers as cells. -/
def intsV (l : List Nat) : List Value := l.map fun m : Nat => Value.int .i64 (m : Int)
theorem intsV_append (a b : List Nat) : intsV (a ++ b) = intsV a ++ intsV b := by simp [intsV]
theorem intsV_len (a : List Nat) : (intsV a).length = a.length := by simp [intsV]
theorem int_cell (n : Int) : ∀ u ∈ [Value.int .i64 n], u.oneCell' = true := by
  intro u hu; simp at hu; subst hu; rfl
theorem range_step (k : Nat) : intsV ((List.range k).map (· + 1)) ++ [.int .i64 ((k + 1 : Nat) : Int)] = intsV ((List.range (k + 1)).map (· + 1)) := by
  rw [List.range_succ, List.map_append, intsV_append]; rfl

/-- The row of numbers under the sort. -/
def SortRow (w : World) (B g : Nat) (l : List Nat) : Prop := w.ownsRow B 3 1 (.slice (some ⟨g, 0, none⟩) 199 199) 199 (intsV l)
theorem SortRow.cell {w : World} {B g : Nat} {l : List Nat} (h : SortRow w B g l) {j m : Nat} (hj : j < 199) (hm : l[j]? = some m) : w.cell? ⟨g, j, none⟩ = some (.int .i64 (m : Int)) := by
  rw [World.ownsRow.cellAt h j (by omega)]
  simp [intsV, hm]
theorem SortRow.drewN {w : World} {B g : Nat} {l : List Nat} (h : SortRow w B g l) (n : Nat) : SortRow (w.drewN n) B g l := h
theorem SortRow.len {w : World} {B g : Nat} {l : List Nat} (h : SortRow w B g l) : l.length = 199 := by
  have := World.ownsRow.lt h g rfl
  have := h.1
  rw [intsV_len] at this
  omega
theorem SortRow.swap {w : World} {B g : Nat} {A C : List Nat} {x y : Nat} (h : SortRow w B g (A ++ y :: x :: C)) :
    SortRow ((w.setCell ⟨g, A.length + 1, none⟩ (.int .i64 (y : Int))).setCell ⟨g, A.length, none⟩ (.int .i64 (x : Int))) B g (A ++ x :: y :: C) := by
  have h1 := ((World.ownsRow.stored h (A.length + 1) (.int .i64 (y : Int))).1.stored A.length (.int .i64 (x : Int))).1
  have e : (((intsV (A ++ y :: x :: C)).set (A.length + 1) (.int .i64 (y : Int))).set A.length (.int .i64 (x : Int))) = intsV (A ++ x :: y :: C) := by
    have := swap_list (intsV A) (intsV C) (.int .i64 (x : Int)) (.int .i64 (y : Int))
    rw [intsV_len] at this
    rw [intsV_append, intsV_append]
    exact this
  rw [e] at h1
  exact h1

theorem made_zero (n : Nat) : Laid (fun _ => 0) (madeCells (Value.float .f64 0).cells (n * 1)).toList n := by
  intro j hj
  rw [Nat.mul_one]
  show (madeCells #[Value.float .f64 0] n).toList[j]? = _
  rw [toList_madeCells_one]
  simp [hj]

set_option maxRecDepth 100000 in
set_option maxHeartbeats 2000000 in
theorem want_free (th al be : Nat) (fa fb : Bool) (w : World) :
    Calls Try.prog 11 #[.int .i64 1, .float .f64 th, .float .f64 al, .float .f64 be, .bool false, .bool fa, .bool fb] w (TwoF w (byIx 199 fun i => f100 (am i)) (byIx 199 fun _ => 0)) := by
  obtain ⟨i0, hi, hz0, hz1, hz2⟩ := info_parts Try.info24
  obtain ⟨i3, hj, hy0, hy1, hy2⟩ := info_parts Try.info3
  go_enter Try.func11, Try.ntmps11
  go_wp2_with (at_make; refine wpList_make_own _ rfl _ _ 41 rfl w.heap.size 3 i3 _ 1 Try.underlying41 hj hy0 hy1 _ _ _ 199 rfl rfl rfl (by rw [hy2]; omega) (by unfold maxLen; omega) (Nat.le_refl _) ?_; intro w1 hown1 hgrow1)
  go_loopw [16, 17] (fun v mv wr => ∃ (k : Nat) (m : Int), k ≤ 199 ∧ mv = .int .i64 m ∧ Hid (m = ((k + 1 : Nat) : Int)) ∧ 1 ≤ m ∧ m ≤ 200 ∧ v = .slice (some ⟨w.heap.size, 0, none⟩) k 199 ∧
      wr.ownsRow w.heap.size 3 1 (.slice (some ⟨w.heap.size, 0, none⟩) k 199) k (intsV ((List.range k).map (· + 1))) ∧ Below w.heap.size w wr) (fun _ mv _ => 200 - (intOf mv).toNat)
  case atStart => exact ⟨0, 1, by omega, rfl, rfl, by omega, by omega, rfl, hown1, (Below.refl _ _).grown hgrow1 (Nat.le_refl _) (fun k h => by cases h)⟩
  case round =>
    obtain ⟨k, m, hk, rfl, hm, m1, m2, rfl, hown, hb⟩ := hrel
    clear hown1 hgrow1
    by_cases hlt : m ≤ 199
    · have hk' : k + 1 ≤ 199 := by have := hm.out; omega
      go_wp2_with (at_builtin; refine wpList_append_fits _ rfl _ _ 41 rfl w.heap.size 3 i3 1 Try.underlying41 hj hy1 w.heap.size k 199 _ rfl (hown.alloc _) ⟨wr.heap.size, 0, none⟩ 1 1 [.int .i64 m] rfl rfl (one_new _ _ _) (int_cell _) hk' ?_; intro w2 hown2 hgrow2)
      go_roundw
      case rel =>
        refine ⟨k + 1, m + 1, hk', rfl, (by show m + 1 = _; have := hm.out; omega), by omega, by omega, rfl, ?_, (hb.alloc hb.size _).grown hgrow2 (by have := hb.size; simp; omega) (fun j hj => by cases hj; exact Nat.le_refl _)⟩
        rw [← range_step, ← hm.out]
        exact hown2
      case measure => simp [intOf]; omega
    · obtain rfl : k = 199 := by have := hm.out; omega
      clear hm
      rw [start_list] at hown
      have hrow : SortRow wr w.heap.size w.heap.size ((srt 0).reverse ++ coming 0) := hown
      clear hown
      go_wp2
      clear hlt m1 m2
      obtain ⟨wo, rfl⟩ : ∃ wo : World, wo = wr := ⟨_, rfl⟩
      go_loopw [18] (fun iv wr => ∃ (k : Nat) (m : Int), k ≤ 198 ∧ iv = .int .i64 m ∧ Hid (m = ((k + 1 : Nat) : Int)) ∧ 1 ≤ m ∧ m ≤ 199 ∧ SortRow wr w.heap.size w.heap.size ((srt k).reverse ++ coming k) ∧ Below w.heap.size w wr)
        (fun iv _ => 200 - (intOf iv).toNat)
      case atStart => exact ⟨0, 1, by omega, rfl, rfl, by omega, by omega, hrow, hb⟩
      case round =>
        clear hrow hb
        obtain ⟨k, i, hk, rfl, hm, m1, m2, hrow, hb⟩ := hrel
        by_cases hlt : i < 199
        · have hk' : k < 198 := by have := hm.out; omega
          rw [coming_cons k hk'] at hrow
          obtain ⟨x, hx⟩ : ∃ x, x = k + 2 := ⟨_, rfl⟩
          rw [← hx] at hrow
          have HX := hide hx
          have hx199 : x ≤ 199 := by omega
          clear hx
          have hd : decide (i < 199) = true := by simpa using hlt
          go_wp2
          obtain ⟨wi, rfl⟩ : ∃ wi : World, wi = wr := ⟨_, rfl⟩
          go_loopw [19] (fun jv wr => ∃ (A Bk : List Nat) (j : Nat), jv = .int .i64 j ∧ Hid (A.length = j) ∧ j ≤ 198 ∧ SortRow wr w.heap.size w.heap.size (A ++ x :: (Bk ++ coming (k + 1))) ∧
              Hid ((insRev x A.reverse).reverse ++ Bk = (srt (k + 1)).reverse) ∧ Hid (∀ y ∈ A, y ≤ 199) ∧ Below w.heap.size w wr) (fun jv _ => (intOf jv).toNat)
          case atStart =>
            refine ⟨(srt k).reverse, [], k + 1, by rw [hm.out], (by show _ = _; rw [List.length_reverse, srt_len]), by omega, hrow, (by show _ = _; rw [HX.out, List.reverse_reverse, List.append_nil, srt]), ?_, hb⟩
            intro y hy
            have := srt_mem k y (List.mem_reverse.1 hy)
            omega
          case round =>
            clear hrow hb
            obtain ⟨A, Bk, j, rfl, hl, hj, hrow, hins, hAm, hb⟩ := hrel
            by_cases hj0 : 0 < j
            · obtain ⟨A', y, rfl⟩ : ∃ A' y, A = A' ++ [y] := by
                refine ⟨A.dropLast, A.getLast (fun e => by have := hl.out; rw [e] at this; simp at this; omega), ?_⟩
                exact (List.dropLast_concat_getLast _).symm
              have hy199 : y ≤ 199 := hAm.out y (by simp)
              have hl' : A'.length + 1 = j := by have := hl.out; simpa using this
              have hrow' : SortRow wr w.heap.size w.heap.size (A' ++ y :: x :: (Bk ++ coming (k + 1))) := by simpa using hrow
              clear hrow
              have c1 := hrow'.cell (j := A'.length + 1) (by omega) (at_mid1 _ _ _ _)
              have c2 := hrow'.cell (j := A'.length) (by omega) (at_mid _ _ _)
              have f1 := World.ownsRow.frozenAt hrow' (A'.length + 1)
              have f2 := World.ownsRow.frozenAt hrow' A'.length
              have e2 : A'.length = j - 1 := by omega
              rw [hl'] at c1 f1
              rw [e2] at c2 f2
              have HL := hide hl'
              have hjI : (0 : Int) < (j : Int) := by omega
              have hjn : ¬ j = j - 1 := by omega
              clear hl' e2 hl
              by_cases hbf : bef x y = true
              · go_wp2
                go_quiet ((go_at_call 19; exact Calls.quiet_of_same (before_any _ _ _ hx199 hy199)))
                go_wp2
                have e2 : A'.length = j - 1 := by have := HL.out; omega
                have hs := (hrow'.drewN nq).swap
                rw [HL.out, e2] at hs
                go_roundw
                case rel => exact ⟨A', y :: Bk, j - 1, by go_num, e2, by omega, hs, ins_step hbf hins.out, fun z hz => hAm.out z (by simp [hz]), ((below_drewN hb nq).setCell (Nat.le_refl _) _).setCell (Nat.le_refl _) _⟩
                case measure => simp [intOf]; omega
              · rw [Bool.not_eq_true] at hbf
                go_wp2
                go_quiet ((go_at_call 19; exact Calls.quiet_of_same (before_any _ _ _ hx199 hy199)))
                go_wp2
                have hl2 : A' ++ y :: x :: (Bk ++ coming (k + 1)) = (srt (k + 1)).reverse ++ coming (k + 1) := by rw [← ins_stop hbf hins.out]; simp
                have hs := hrow'.drewN nq
                rw [hl2] at hs
                go_roundw
                case rel => exact ⟨k + 1, i + 1, by omega, rfl, (by show i + 1 = _; have := hm.out; omega), by omega, by omega, hs, below_drewN hb nq⟩
                case measure => simp [intOf]; omega
            · obtain rfl : j = 0 := by omega
              go_wp2
              go_quiet (fail)
              go_wp2
              obtain rfl : A = [] := List.eq_nil_of_length_eq_zero hl.out
              have hl2 : [] ++ x :: (Bk ++ coming (k + 1)) = (srt (k + 1)).reverse ++ coming (k + 1) := by rw [← ins_head hins.out]; simp
              have hs := hrow.drewN nq
              rw [hl2] at hs
              go_roundw
              case rel => exact ⟨k + 1, i + 1, by omega, rfl, (by show i + 1 = _; have := hm.out; omega), by omega, by omega, hs, below_drewN hb nq⟩
              case measure => simp [intOf]; omega
        · obtain rfl : k = 198 := by have := hm.out; omega
          clear hm
          rw [coming_end, List.append_nil, sorted] at hrow
          have tok1 : True := trivial
          go_wp2_with (first
            | (at_make; have _t := tok1; refine wpList_make_full _ rfl _ _ 22 rfl wr.heap.size 24 i0 _ 1 Try.underlying22 hi hz0 hz1 _ _ _ _ 199 rfl rfl rfl rfl (by rw [hz2]; omega) (by unfold maxLen; omega) (Nat.le_refl _) ?_; intro w2 hown2 hgrow2; clear tok1)
            | (at_make; refine wpList_make_full _ rfl _ _ 22 rfl w2.heap.size 24 i0 _ 1 Try.underlying22 hi hz0 hz1 _ _ _ _ 199 rfl rfl rfl rfl (by rw [hz2]; omega) (by unfold maxLen; omega) (Nat.le_refl _) ?_; intro w3 hown3 hgrow3))
          have hw : w.heap.size < wr.heap.size := (World.ownsRow.lt hrow _ rfl).2
          have hw2 : wr.heap.size < w2.heap.size := (hown2.lt _ rfl).2
          have hB2 : Below wr.heap.size wr w2 := (Below.refl _ _).grown hgrow2 (Nat.le_refl _) (fun k h => by cases h)
          have hB3 : Below wr.heap.size wr w3 := hB2.grown hgrow3 hB2.size (fun k h => by cases h)
          have hownA := hown2.kept hgrow3 (.inr (by simp [Value.ownBlock]))
          have hz : Laid (fun _ => 0) (madeCells (Value.float .f64 0).cells (199 * 1)).toList 199 := made_zero 199
          clear hown2 hgrow2 hgrow3 hB2
          obtain ⟨wb, rfl⟩ : ∃ wb : World, wb = wr := ⟨_, rfl⟩
          go_loopw [23] (fun iv wr => ∃ (k : Nat) (xs : List Value), k ≤ 199 ∧ iv = .int .i64 k ∧ wr.ownsRow wb.heap.size 24 1 (.slice (some ⟨wb.heap.size, 0, none⟩) 199 199) 199 xs ∧
              wr.ownsRow w2.heap.size 24 1 (.slice (some ⟨w2.heap.size, 0, none⟩) 199 199) 199 (madeCells (Value.float .f64 0).cells (199 * 1)).toList ∧ Laid (fun i => f100 ((amN i : Nat) : Int)) xs k ∧ Below wb.heap.size wb wr) (fun iv _ => 199 - (intOf iv).toNat)
          case atStart => exact ⟨0, _, Nat.zero_le _, rfl, hownA, hown3, fun j hj => by omega, hB3⟩
          case round =>
            clear hownA hown3 hB3
            obtain ⟨k, xs, hk, rfl, hA, hZ, lA, hnx⟩ := hrel
            by_cases hkl : k < 199
            · have c1 := hrow.cell (j := k) (m := amN k) hkl (by simp [hkl])
              have c1 := (hnx.cell (p := ⟨w.heap.size, k, none⟩) hw).trans c1
              have ha := am_mem k hkl
              rw [← amN_am k hkl] at ha
              have hq := f100_is ((amN k : Nat) : Int) ha.1 ha.2
              have hop : ∀ t w, (binOp .quo t (.float .f64 (floatOfInt .f64 ((amN k : Nat) : Int))) (.float .f64 4636737291354636288)).run Try.prog w = .ok (.float .f64 (f100 ((amN k : Nat) : Int))) w := fun t w => run_float_arith w .quo t .f64 _ _ _ hq
              clear hq ha
              have f1 := hA.frozenAt k
              have e1 := hA.cellAt k (by omega)
              have l1 := hA.1
              have n1 : k < xs.length := by omega
              rw [List.getElem?_eq_getElem n1] at e1
              go_wp2
              obtain ⟨hA', hg'⟩ := hA.stored k (.float .f64 (f100 ((amN k : Nat) : Int)))
              have hZ' := owns_other hZ hg' (by omega)
              go_roundw
              case rel => exact ⟨k + 1, _, by omega, by go_num, hA', hZ', lA.step n1, hnx.setCell (Nat.le_refl _) _⟩
              case measure => simp [intOf]; omega
            · obtain rfl : k = 199 := by omega
              have hend : Below w.heap.size w wr := hb.trans (hnx.mono (Nat.le_of_lt hw))
              go_wp2
              go_ret2
              exact ⟨_, _, 199, byIx_len _ _, byIx_len _ _, by omega, by omega, rfl, lA.floats hA (byIx_len _ _) (fun j hj => by rw [byIx_at _ _ j hj, amN_am j hj]), hz.floats hZ (byIx_len _ _) (fun j hj => byIx_at _ _ j hj), hend⟩
end Go.Proofs.Qxb6601956a
