/-
  wantCandidates (11) at Holt where a parameter is left to choose.
-/
import Derived.Test.Qxb6601956aWantA
import Derived.Test.Qxb6601956aSplit
namespace Go.Proofs.Qxb6601956a
open Go.RowKit Fl
attribute [local go_sem] store_float

set_option maxRecDepth 100000 in
set_option maxHeartbeats 1000000 in
theorem want_tf (th al be : Nat) (ft : Bool) (w : World) :
    Calls Try.prog 11 #[.int .i64 2, .float .f64 th, .float .f64 al, .float .f64 be, .bool ft, .bool true, .bool false] w (TwoF w (byIx 20 (fun _ : Nat => al)) (byIx 20 (fun i : Nat => f20 ((i : Int) + 1)))) := by
  obtain ⟨i0, hi, hz0, hz1, hz2⟩ := info_parts Try.info24
  have tok1 : True := trivial
  go_enter Try.func11, Try.ntmps11
  go_wp2_with (first
    | (at_make; have _t := tok1; refine wpList_make_full _ rfl _ _ 22 rfl w.heap.size 24 i0 _ 1 Try.underlying22 hi hz0 hz1 _ _ _ _ 20 rfl rfl rfl rfl (by rw [hz2]; omega) (by unfold maxLen; omega) (Nat.le_refl _) ?_; intro w1 hown1 hgrow1; clear tok1)
    | (at_make; refine wpList_make_full _ rfl _ _ 22 rfl w1.heap.size 24 i0 _ 1 Try.underlying22 hi hz0 hz1 _ _ _ _ 20 rfl rfl rfl rfl (by rw [hz2]; omega) (by unfold maxLen; omega) (Nat.le_refl _) ?_; intro w2 hown2 hgrow2))
  have h1 : w.heap.size < w1.heap.size := (hown1.lt _ rfl).2
  have hB1 : Below w.heap.size w w1 := (Below.refl _ _).grown hgrow1 (Nat.le_refl _) (fun k h => by cases h)
  have hB2 : Below w.heap.size w w2 := hB1.grown hgrow2 hB1.size (fun k h => by cases h)
  have hownA := hown1.kept hgrow2 (.inr (by simp [Value.ownBlock]))
  clear hown1 hgrow1 hgrow2 hB1
  go_loopw [26] (fun iv wr => ∃ (k : Nat) (xs ys : List Value), k ≤ 20 ∧ iv = .int .i64 k ∧ wr.ownsRow w.heap.size 24 1 (.slice (some ⟨w.heap.size, 0, none⟩) 20 20) 20 xs ∧
      wr.ownsRow w1.heap.size 24 1 (.slice (some ⟨w1.heap.size, 0, none⟩) 20 20) 20 ys ∧ Laid (fun _ : Nat => al) xs k ∧ Laid (fun i : Nat => f20 ((i : Int) + 1)) ys k ∧ Below w.heap.size w wr) (fun iv _ => 20 - (intOf iv).toNat)
  case atStart => exact ⟨0, _, _, Nat.zero_le _, rfl, hownA, hown2, fun j hj => by omega, fun j hj => by omega, hB2⟩
  case round =>
    obtain ⟨k, xs, ys, hk, rfl, hA, hB, lA, lB, hb⟩ := hrel
    clear hownA hown2 hB2
    by_cases hlt : k < 20
    · have f1 := hA.frozenAt k
      have f2 := hB.frozenAt k
      have e1 := hA.cellAt k (by omega)
      have e2 := hB.cellAt k (by omega)
      have l1 := hA.1
      have l2 := hB.1
      have n1 : k < xs.length := by omega
      have n2 : k < ys.length := by omega
      rw [List.getElem?_eq_getElem n1] at e1
      rw [List.getElem?_eq_getElem n2] at e2
      have hne3 : ¬ w.heap.size = w1.heap.size := by omega
      have hq0 := f20_is ((k : Int) + 1) (by omega) (by omega)
      have hop0 : ∀ t w, (binOp .quo t (.float .f64 (floatOfInt .f64 ((k : Int) + 1))) (.float .f64 4626322717216342016)).run Try.prog w = .ok (.float .f64 (f20 ((k : Int) + 1))) w := fun t w => run_float_arith w .quo t .f64 _ _ _ hq0
      clear hq0
      go_wp2
      obtain ⟨hA', hB'⟩ := two_rows hA hB (by omega) k (.float .f64 ((fun _ : Nat => al) k)) (.float .f64 ((fun i : Nat => f20 ((i : Int) + 1)) k))
      go_roundw
      case rel => exact ⟨k + 1, _, _, by omega, by go_num, hA', hB', lA.step n1, lB.step n2, (hb.setCell (Nat.le_refl _) _).setCell (by simp; omega) _⟩
      case measure => simp [intOf]; omega
    · obtain rfl : k = 20 := by omega
      go_wp2
      go_ret2
      exact ⟨_, _, 20, byIx_len _ _, byIx_len _ _, by omega, by omega, rfl, lA.floats hA (byIx_len _ _) (fun j hj => byIx_at _ _ j hj), lB.floats hB (byIx_len _ _) (fun j hj => byIx_at _ _ j hj), hb⟩

set_option maxRecDepth 100000 in
set_option maxHeartbeats 1000000 in
theorem want_ft (th al be : Nat) (ft : Bool) (w : World) :
    Calls Try.prog 11 #[.int .i64 2, .float .f64 th, .float .f64 al, .float .f64 be, .bool ft, .bool false, .bool true] w (TwoF w (byIx 20 (fun i : Nat => f20 (20 - (i : Int)))) (byIx 20 (fun _ : Nat => be))) := by
  obtain ⟨i0, hi, hz0, hz1, hz2⟩ := info_parts Try.info24
  have tok1 : True := trivial
  go_enter Try.func11, Try.ntmps11
  go_wp2_with (first
    | (at_make; have _t := tok1; refine wpList_make_full _ rfl _ _ 22 rfl w.heap.size 24 i0 _ 1 Try.underlying22 hi hz0 hz1 _ _ _ _ 20 rfl rfl rfl rfl (by rw [hz2]; omega) (by unfold maxLen; omega) (Nat.le_refl _) ?_; intro w1 hown1 hgrow1; clear tok1)
    | (at_make; refine wpList_make_full _ rfl _ _ 22 rfl w1.heap.size 24 i0 _ 1 Try.underlying22 hi hz0 hz1 _ _ _ _ 20 rfl rfl rfl rfl (by rw [hz2]; omega) (by unfold maxLen; omega) (Nat.le_refl _) ?_; intro w2 hown2 hgrow2))
  have h1 : w.heap.size < w1.heap.size := (hown1.lt _ rfl).2
  have hB1 : Below w.heap.size w w1 := (Below.refl _ _).grown hgrow1 (Nat.le_refl _) (fun k h => by cases h)
  have hB2 : Below w.heap.size w w2 := hB1.grown hgrow2 hB1.size (fun k h => by cases h)
  have hownA := hown1.kept hgrow2 (.inr (by simp [Value.ownBlock]))
  clear hown1 hgrow1 hgrow2 hB1
  go_loopw [29] (fun iv wr => ∃ (k : Nat) (xs ys : List Value), k ≤ 20 ∧ iv = .int .i64 k ∧ wr.ownsRow w.heap.size 24 1 (.slice (some ⟨w.heap.size, 0, none⟩) 20 20) 20 xs ∧
      wr.ownsRow w1.heap.size 24 1 (.slice (some ⟨w1.heap.size, 0, none⟩) 20 20) 20 ys ∧ Laid (fun i : Nat => f20 (20 - (i : Int))) xs k ∧ Laid (fun _ : Nat => be) ys k ∧ Below w.heap.size w wr) (fun iv _ => 20 - (intOf iv).toNat)
  case atStart => exact ⟨0, _, _, Nat.zero_le _, rfl, hownA, hown2, fun j hj => by omega, fun j hj => by omega, hB2⟩
  case round =>
    obtain ⟨k, xs, ys, hk, rfl, hA, hB, lA, lB, hb⟩ := hrel
    clear hownA hown2 hB2
    by_cases hlt : k < 20
    · have f1 := hA.frozenAt k
      have f2 := hB.frozenAt k
      have e1 := hA.cellAt k (by omega)
      have e2 := hB.cellAt k (by omega)
      have l1 := hA.1
      have l2 := hB.1
      have n1 : k < xs.length := by omega
      have n2 : k < ys.length := by omega
      rw [List.getElem?_eq_getElem n1] at e1
      rw [List.getElem?_eq_getElem n2] at e2
      have hne3 : ¬ w.heap.size = w1.heap.size := by omega
      have hq0 := f20_is (20 - (k : Int)) (by omega) (by omega)
      have hop0 : ∀ t w, (binOp .quo t (.float .f64 (floatOfInt .f64 (20 - (k : Int)))) (.float .f64 4626322717216342016)).run Try.prog w = .ok (.float .f64 (f20 (20 - (k : Int)))) w := fun t w => run_float_arith w .quo t .f64 _ _ _ hq0
      clear hq0
      go_wp2
      obtain ⟨hA', hB'⟩ := two_rows hA hB (by omega) k (.float .f64 ((fun i : Nat => f20 (20 - (i : Int))) k)) (.float .f64 ((fun _ : Nat => be) k))
      go_roundw
      case rel => exact ⟨k + 1, _, _, by omega, by go_num, hA', hB', lA.step n1, lB.step n2, (hb.setCell (Nat.le_refl _) _).setCell (by simp; omega) _⟩
      case measure => simp [intOf]; omega
    · obtain rfl : k = 20 := by omega
      go_wp2
      go_ret2
      exact ⟨_, _, 20, byIx_len _ _, byIx_len _ _, by omega, by omega, rfl, lA.floats hA (byIx_len _ _) (fun j hj => byIx_at _ _ j hj), lB.floats hB (byIx_len _ _) (fun j hj => byIx_at _ _ j hj), hb⟩

set_option maxRecDepth 100000 in
set_option maxHeartbeats 1000000 in
theorem want_ff (th al be : Nat) (ft : Bool) (w : World) :
    Calls Try.prog 11 #[.int .i64 2, .float .f64 th, .float .f64 al, .float .f64 be, .bool ft, .bool false, .bool false] w (TwoF w (byIx 400 (fun i : Nat => f20 (20 - (i : Int) / 20))) (byIx 400 (fun i : Nat => f20 ((i : Int) % 20 + 1)))) := by
  obtain ⟨i0, hi, hz0, hz1, hz2⟩ := info_parts Try.info24
  have tok1 : True := trivial
  go_enter Try.func11, Try.ntmps11
  go_wp2_with (first
    | (at_make; have _t := tok1; refine wpList_make_full _ rfl _ _ 22 rfl w.heap.size 24 i0 _ 1 Try.underlying22 hi hz0 hz1 _ _ _ _ 400 rfl rfl rfl rfl (by rw [hz2]; omega) (by unfold maxLen; omega) (Nat.le_refl _) ?_; intro w1 hown1 hgrow1; clear tok1)
    | (at_make; refine wpList_make_full _ rfl _ _ 22 rfl w1.heap.size 24 i0 _ 1 Try.underlying22 hi hz0 hz1 _ _ _ _ 400 rfl rfl rfl rfl (by rw [hz2]; omega) (by unfold maxLen; omega) (Nat.le_refl _) ?_; intro w2 hown2 hgrow2))
  have h1 : w.heap.size < w1.heap.size := (hown1.lt _ rfl).2
  have hB1 : Below w.heap.size w w1 := (Below.refl _ _).grown hgrow1 (Nat.le_refl _) (fun k h => by cases h)
  have hB2 : Below w.heap.size w w2 := hB1.grown hgrow2 hB1.size (fun k h => by cases h)
  have hownA := hown1.kept hgrow2 (.inr (by simp [Value.ownBlock]))
  clear hown1 hgrow1 hgrow2 hB1
  go_loopw [32] (fun iv wr => ∃ (k : Nat) (xs ys : List Value), k ≤ 400 ∧ iv = .int .i64 k ∧ wr.ownsRow w.heap.size 24 1 (.slice (some ⟨w.heap.size, 0, none⟩) 400 400) 400 xs ∧
      wr.ownsRow w1.heap.size 24 1 (.slice (some ⟨w1.heap.size, 0, none⟩) 400 400) 400 ys ∧ Laid (fun i : Nat => f20 (20 - (i : Int) / 20)) xs k ∧ Laid (fun i : Nat => f20 ((i : Int) % 20 + 1)) ys k ∧ Below w.heap.size w wr) (fun iv _ => 400 - (intOf iv).toNat)
  case atStart => exact ⟨0, _, _, Nat.zero_le _, rfl, hownA, hown2, fun j hj => by omega, fun j hj => by omega, hB2⟩
  case round =>
    obtain ⟨k, xs, ys, hk, rfl, hA, hB, lA, lB, hb⟩ := hrel
    clear hownA hown2 hB2
    by_cases hlt : k < 400
    · have f1 := hA.frozenAt k
      have f2 := hB.frozenAt k
      have e1 := hA.cellAt k (by omega)
      have e2 := hB.cellAt k (by omega)
      have l1 := hA.1
      have l2 := hB.1
      have n1 : k < xs.length := by omega
      have n2 : k < ys.length := by omega
      rw [List.getElem?_eq_getElem n1] at e1
      rw [List.getElem?_eq_getElem n2] at e2
      have hne3 : ¬ w.heap.size = w1.heap.size := by omega
      have hq0 := f20_is (20 - (k : Int) / 20) (by omega) (by omega)
      have hop0 : ∀ t w, (binOp .quo t (.float .f64 (floatOfInt .f64 (20 - (k : Int) / 20))) (.float .f64 4626322717216342016)).run Try.prog w = .ok (.float .f64 (f20 (20 - (k : Int) / 20))) w := fun t w => run_float_arith w .quo t .f64 _ _ _ hq0
      clear hq0
      have hq1 := f20_is ((k : Int) % 20 + 1) (by omega) (by omega)
      have hop1 : ∀ t w, (binOp .quo t (.float .f64 (floatOfInt .f64 ((k : Int) % 20 + 1))) (.float .f64 4626322717216342016)).run Try.prog w = .ok (.float .f64 (f20 ((k : Int) % 20 + 1))) w := fun t w => run_float_arith w .quo t .f64 _ _ _ hq1
      clear hq1
      go_wp2
      obtain ⟨hA', hB'⟩ := two_rows hA hB (by omega) k (.float .f64 ((fun i : Nat => f20 (20 - (i : Int) / 20)) k)) (.float .f64 ((fun i : Nat => f20 ((i : Int) % 20 + 1)) k))
      go_roundw
      case rel => exact ⟨k + 1, _, _, by omega, by go_num, hA', hB', lA.step n1, lB.step n2, (hb.setCell (Nat.le_refl _) _).setCell (by simp; omega) _⟩
      case measure => simp [intOf]; omega
    · obtain rfl : k = 400 := by omega
      go_wp2
      go_ret2
      exact ⟨_, _, 400, byIx_len _ _, byIx_len _ _, by omega, by omega, rfl, lA.floats hA (byIx_len _ _) (fun j hj => byIx_at _ _ j hj), lB.floats hB (byIx_len _ _) (fun j hj => byIx_at _ _ j hj), hb⟩

end Go.Proofs.Qxb6601956a
