/-
  The contracts of spanMinusGaps (8), of the two bounds on length (5, 9), of toRuns (6) at a nil slice.
-/
import Derived.Test.Qxb6002584aLen
namespace Go.Proofs.Qxb6002584a
open Go.RowKit RunSum

set_option maxHeartbeats 1000000 in
theorem gaps_any (g off m cap : Nat) (F L : Nat → Int) (w : World) (hn : m + 1 ≤ 65536) (hp : Pairs w g off F L (m + 1)) :
    Calls Try.prog 8 #[.slice (some ⟨g, off, none⟩) (m + 1) cap] w fun e w' => e = .returned (.int .i64 (wrap64 (lenZ F L (m + 1)))) ∧ Below w.heap.size w w' := by
  obtain ⟨c0, -⟩ := hp.2 0 (by omega)
  obtain ⟨-, cm⟩ := hp.2 m (by omega)
  simp only [Nat.zero_mul, Nat.add_zero] at c0
  go_enter Try.func8, Try.ntmps8
  go_wp2
  go_quiet (fail)
  go_wp2
  clear c0 cm
  go_loopw [4, 5] (fun tv iv wr => ∃ k q : Nat, k ≤ m ∧ iv = .int .i64 (k + 1 : Nat) ∧ tv = .int .i64 (wrap64 (gapZ F L (m + 1) k)) ∧ wr = w.drewN q) (fun _ iv _ => m + 1 - (intOf iv).toNat)
  case atStart => exact ⟨0, _, Nat.zero_le _, rfl, by rw [gapZ, wrap_add1]; rfl, rfl⟩
  case round =>
    obtain ⟨k, q, hk, rfl, rfl, rfl⟩ := hrel
    by_cases hlt : k < m
    · obtain ⟨c1, -⟩ := hp.2 (k + 1) (by omega)
      obtain ⟨-, c2⟩ := hp.2 k (by omega)
      go_wp2
      go_quiet (fail)
      go_wp2
      go_roundw
      case rel => exact ⟨k + 1, _, by omega, by go_num, by rw [gap_step, gapZ], rfl⟩
      case measure => simp [intOf]; omega
    · obtain rfl : k = m := by omega
      go_wp2
      go_ret
      exact ⟨ret_int (by rw [gap_all]), below_drewN (Below.refl _ _) _⟩
theorem gaps_zero (a : Option Addr) (cap : Nat) (w : World) :
    Calls Try.prog 8 #[.slice a 0 cap] w fun e w' => e = .returned (.int .i64 0) ∧ Below w.heap.size w w' := by
  go_enter Try.func8, Try.ntmps8
  go_wp2
  go_ret
  exact ⟨rfl, Below.refl _ _⟩

theorem bytes5 (a : Option Addr) (n cap : Nat) (w : World) (hn : n ≤ 1048576) :
    Calls Try.prog 5 #[.slice a n cap] w fun e w' => e = .returned (.bool true) ∧ w' = w := by
  go_enter Try.func5, Try.ntmps5
  go_wp2
  go_ret
  exact ⟨rfl, rfl⟩
theorem bytes5_no (a : Option Addr) (n cap : Nat) (w : World) (hn : 1048576 < n) :
    Calls Try.prog 5 #[.slice a n cap] w fun e w' => e = .returned (.bool false) ∧ w' = w := by
  go_enter Try.func5, Try.ntmps5
  go_wp2
  go_ret
  exact ⟨rfl, rfl⟩
theorem bytes9 (a : Option Addr) (n cap : Nat) (k : Int) (w : World) (hn : n ≤ 1048576) :
    Calls Try.prog 9 #[.slice a n cap, .int .i64 k] w fun e w' => e = .returned (.bool true) ∧ w' = w := by
  go_enter Try.func9, Try.ntmps9
  go_wp2
  go_ret
  exact ⟨rfl, rfl⟩
theorem bytes9_no (a : Option Addr) (n cap : Nat) (k : Int) (w : World) (hn : 1048576 < n) :
    Calls Try.prog 9 #[.slice a n cap, .int .i64 k] w fun e w' => e = .returned (.bool false) ∧ w' = w := by
  go_enter Try.func9, Try.ntmps9
  go_wp2
  go_ret
  exact ⟨rfl, rfl⟩
theorem runs_nil (w : World) :
    Calls Try.prog 6 #[.slice none 0 0] w fun e w' => e = .returned (.slice none 0 0) ∧ w' = w := by
  have hnil := fun (w : World) (a : Option Addr) (n c : Nat) => Lib.run_eql_slice_nil (P := Try.prog) w 22 31 a n c 0 0 Try.underlying22
  go_enter Try.func6, Try.ntmps6
  go_wp2
  go_ret
  exact ⟨rfl, rfl⟩
end Go.Proofs.Qxb6002584a
