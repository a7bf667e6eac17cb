/-
  The contract of Runs.Len (7).
-/
import Derived.Test.Qxb6002584aRows
import Derived.Test.Qxb6002584aSum
import Derived.WalkKit
import Derived.WalkLawsBesides
import Derived.WalkSpells
import Derived.OpenShut
import Derived.BigQuiet
import Derived.Deep.QuietTactic
namespace Go.Proofs.Qxb6002584a
open Go.RowKit RunSum

theorem ret_int {k : IntKind} {a b : Int} (h : a = b) : Ending.returned (.int k a) = .returned (.int k b) := by rw [h]

/-- From cell 'off' of block g on lie n pairs. -/
def Pairs (w : World) (g off : Nat) (F L : Nat → Int) (n : Nat) : Prop :=
  g < w.heap.size ∧ ∀ j, j < n → w.cell? ⟨g, off + j * 2, none⟩ = some (.int .i64 (F j)) ∧ w.cell? ⟨g, off + j * 2 + 1, none⟩ = some (.int .i64 (L j))

theorem Pairs.below {w w' : World} {B g off n : Nat} {F L : Nat → Int} (h : Pairs w g off F L n) (hb : Below B w w') (hg : g < B) : Pairs w' g off F L n :=
  ⟨Nat.lt_of_lt_of_le h.1 hb.size, fun j hj => ⟨(hb.cell (p := ⟨g, off + j * 2, none⟩) hg).trans (h.2 j hj).1, (hb.cell (p := ⟨g, off + j * 2 + 1, none⟩) hg).trans (h.2 j hj).2⟩⟩

set_option maxHeartbeats 400000 in
theorem len_any (g off n cap : Nat) (F L : Nat → Int) (w : World) (hn : n ≤ 65536) (hp : Pairs w g off F L n) :
    Calls Try.prog 7 #[.slice (some ⟨g, off, none⟩) n cap] w fun e w' => e = .returned (.int .i64 (wrap64 (lenZ F L n))) ∧ Below w.heap.size w w' := by
  go_enter Try.func7, Try.ntmps7
  go_wp2
  go_loopw [3, 8] (fun sv iv wr => ∃ k : Nat, k ≤ n ∧ iv = .int .i64 k ∧ sv = .int .i64 (wrap64 (lenZ F L k)) ∧ Below w.heap.size w wr) (fun _ iv _ => n - (intOf iv).toNat)
  case atStart => exact ⟨0, Nat.zero_le _, rfl, by rw [lenZ, wrap_in 0 (by omega) (by omega)], Below.refl _ _⟩
  case round =>
    obtain ⟨k, hk, rfl, rfl, hb⟩ := hrel
    by_cases hlt : k < n
    · obtain ⟨c1, c2⟩ := (hp.below hb hp.1).2 k hlt
      go_wp2
      go_roundw
      case rel => exact ⟨k + 1, by omega, by go_num, by rw [len_step, lenZ], hb.alloc hb.size _⟩
      case measure => simp [intOf]; omega
    · obtain rfl : k = n := by omega
      go_wp2
      go_ret
      exact ⟨rfl, hb⟩

/-- A slice of length 0, whatever its address. -/
theorem len_zero (a : Option Addr) (cap : Nat) (w : World) :
    Calls Try.prog 7 #[.slice a 0 cap] w fun e w' => e = .returned (.int .i64 0) ∧ Below w.heap.size w w' := by
  go_enter Try.func7, Try.ntmps7
  go_wp2
  go_loopw [3, 8] (fun sv iv wr => sv = .int .i64 0 ∧ iv = .int .i64 0 ∧ wr = w) (fun _ _ _ => 0)
  case atStart => exact ⟨rfl, rfl, rfl⟩
  case round =>
    obtain ⟨rfl, rfl, rfl⟩ := hrel
    go_wp2
    go_ret
    exact ⟨rfl, Below.refl _ _⟩

theorem Try.info32 : (Try.prog.info? 32).map (fun i => (i.zero, i.size, i.bytes)) = some (some (.agg #[.int .i64 0, .int .i64 0]), 2, 16) := by kernel_rfl

/-- Two stores, one behind the other, into the row. -/
theorem row_owns {w : World} {B g n : Nat} {xs : List Value} (h : w.ownsRow B 32 2 (.slice (some ⟨g, 0, none⟩) n n) n xs) (k : Nat) (u v : Value) :
    ((w.setCell ⟨g, k * 2, none⟩ u).setCell ⟨g, k * 2 + 1, none⟩ v).drew.ownsRow B 32 2 (.slice (some ⟨g, 0, none⟩) n n) n ((xs.set (k * 2) u).set (k * 2 + 1) v) :=
  ((h.stored (k * 2) u).1.stored (k * 2 + 1) v).1.drew
theorem row_step {F L : Nat → Int} {xs : List Value} {k : Nat} (h : ∀ j, j < k → xs[j * 2]? = some (.int .i64 (F j)) ∧ xs[j * 2 + 1]? = some (.int .i64 (L j)))
    (hl : k * 2 + 1 < xs.length) : ∀ j, j < k + 1 → ((xs.set (k * 2) (.int .i64 (F k))).set (k * 2 + 1) (.int .i64 (L k)))[j * 2]? = some (.int .i64 (F j)) ∧ ((xs.set (k * 2) (.int .i64 (F k))).set (k * 2 + 1) (.int .i64 (L k)))[j * 2 + 1]? = some (.int .i64 (L j)) := by
  intro j hj
  by_cases e : j = k
  · subst e
    constructor
    · rw [List.getElem?_set_ne (by omega), List.getElem?_set_self (by omega)]
    · rw [List.getElem?_set_self (by simp; omega)]
  · have := h j (by omega)
    constructor
    · rw [List.getElem?_set_ne (by omega), List.getElem?_set_ne (by omega)]; exact this.1
    · rw [List.getElem?_set_ne (by omega), List.getElem?_set_ne (by omega)]; exact this.2
theorem row_below {w wr : World} (hb : Below w.heap.size w wr) (k : Nat) (u v : Value) :
    Below w.heap.size w ((wr.setCell ⟨w.heap.size, k * 2, none⟩ u).setCell ⟨w.heap.size, k * 2 + 1, none⟩ v).drew :=
  ((hb.setCell (Nat.le_refl _) u).setCell (Nat.le_refl _) v).drew
theorem row_pairs {w : World} {B g n : Nat} {F L : Nat → Int} {xs : List Value} (h : w.ownsRow B 32 2 (.slice (some ⟨g, 0, none⟩) n n) n xs)
    (hx : ∀ j, j < n → xs[j * 2]? = some (.int .i64 (F j)) ∧ xs[j * 2 + 1]? = some (.int .i64 (L j))) : Pairs w g 0 F L n := by
  refine ⟨(h.lt g rfl).2, fun j hj => ?_⟩
  rw [Nat.zero_add, h.cellAt (j * 2) (by omega), h.cellAt (j * 2 + 1) (by omega)]
  exact hx j hj

set_option maxHeartbeats 1000000 in
theorem runs_any (g off n cap : Nat) (F L : Nat → Int) (w : World) (hn : n ≤ 65536) (hp : Pairs w g off F L n) :
    Calls Try.prog 6 #[.slice (some ⟨g, off, none⟩) n cap] w fun e w' => e = .returned (.slice (some ⟨w.heap.size, 0, none⟩) n n) ∧ Pairs w' w.heap.size 0 F L n ∧ Below w.heap.size w w' := by
  have hnil := fun (w : World) (a : Option Addr) (n c : Nat) => Lib.run_eql_slice_nil (P := Try.prog) w 22 31 a n c 0 0 Try.underlying22
  obtain ⟨i0, hi, hz0, hz1, hz2⟩ := info_parts Try.info32
  go_enter Try.func6, Try.ntmps6
  go_wp2_with (at_make; refine wpList_make_full _ rfl _ _ 25 rfl w.heap.size 32 i0 _ 2 Try.underlying25 hi hz0 hz1 _ _ _ _ n rfl rfl rfl rfl (by rw [hz2]; omega) (by unfold maxLen; omega) (Nat.le_refl _) ?_; intro w1 hown1 hgrow1)
  clear hnil
  go_loopw [4] (fun iv wr => ∃ (k : Nat) (xs : List Value), k ≤ n ∧ iv = .int .i64 k ∧ wr.ownsRow w.heap.size 32 2 (.slice (some ⟨w.heap.size, 0, none⟩) n n) n xs ∧
      (∀ j, j < k → xs[j * 2]? = some (.int .i64 (F j)) ∧ xs[j * 2 + 1]? = some (.int .i64 (L j))) ∧ Below w.heap.size w wr) (fun iv _ => n - (intOf iv).toNat)
  case atStart => exact ⟨0, _, Nat.zero_le _, rfl, hown1, fun j hj => by omega, (Below.refl _ _).grown hgrow1 (Nat.le_refl _) (fun k h => by cases h)⟩
  case round =>
    obtain ⟨k, xs, hk, rfl, hown, hxs, hb⟩ := hrel
    by_cases hlt : k < n
    · obtain ⟨c1, c2⟩ := (hp.below hb hp.1).2 k hlt
      have f1 := hown.frozenAt (k * 2)
      have f2 := hown.frozenAt (k * 2 + 1)
      have e1 := hown.cellAt (k * 2) (by omega)
      have e2 := hown.cellAt (k * 2 + 1) (by omega)
      have hl := hown.1
      rw [List.getElem?_eq_getElem (by omega)] at e1 e2
      have HX : Hid (∀ j, j < k → xs[j * 2]? = some (.int .i64 (F j)) ∧ xs[j * 2 + 1]? = some (.int .i64 (L j))) := hxs
      clear hxs
      go_wp2
      go_region
      go_wp2
      go_roundw
      case rel => exact ⟨k + 1, _, by omega, by go_num, row_owns hown k _ _, row_step HX.out (by omega), row_below hb k _ _⟩
      case measure => simp [intOf]; omega
    · obtain rfl : k = n := by omega
      go_wp2
      go_ret
      exact ⟨rfl, row_pairs hown hxs, hb⟩
end Go.Proofs.Qxb6002584a
