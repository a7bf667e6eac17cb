/-
  Plain facts, no Go in sight: sums of runs that wrap as int64 does.
-/
import Derived.RowKit
namespace Go.Proofs.Qxb6002584a.RunSum
open Go.RowKit (wrap64)

/-- The sum of 'last - first + 1' over the first k runs, exact. -/
def lenZ (F L : Nat → Int) : Nat → Int
  | 0 => 0
  | k + 1 => lenZ F L k + (L k - F k + 1)

/-- The width from the first run's first to the last run's last, less the gaps ahead of run k. -/
def gapZ (F L : Nat → Int) (n : Nat) : Nat → Int
  | 0 => L (n - 1) - F 0 + 1
  | k + 1 => gapZ F L n k - (F (k + 1) - L k - 1)

theorem gapZ_is (F L : Nat → Int) (n : Nat) : ∀ k, gapZ F L n k = lenZ F L (k + 1) + (L (n - 1) - L k)
  | 0 => by simp [gapZ, lenZ]; omega
  | k + 1 => by
    rw [gapZ, gapZ_is F L n k, lenZ]
    rw [show lenZ F L (k + 1 + 1) = lenZ F L (k + 1) + (L (k + 1) - F (k + 1) + 1) from rfl]
    simp only [lenZ]
    omega
/-- THE PLAIN LAW: all gaps taken away, what is left is the sum. -/
theorem gap_all (F L : Nat → Int) (m : Nat) : gapZ F L (m + 1) m = lenZ F L (m + 1) := by
  rw [gapZ_is]; simp

theorem lenZ_split (F L : Nat → Int) (k : Nat) : ∀ m, lenZ F L (k + m) = lenZ F L k + lenZ (fun i => F (k + i)) (fun i => L (k + i)) m
  | 0 => by simp [lenZ]
  | m + 1 => by
    rw [show k + (m + 1) = (k + m) + 1 by omega, lenZ, lenZ_split F L k m, lenZ]
    omega

theorem wrap_add (a b : Int) : wrap64 (wrap64 a + wrap64 b) = wrap64 (a + b) := by unfold wrap64; omega
theorem wrap_sub (a b : Int) : wrap64 (wrap64 a - wrap64 b) = wrap64 (a - b) := by unfold wrap64; omega
theorem wrap_add1 (a b : Int) : wrap64 (wrap64 a + b) = wrap64 (a + b) := by unfold wrap64; omega
theorem wrap_sub1 (a b : Int) : wrap64 (wrap64 a - b) = wrap64 (a - b) := by unfold wrap64; omega
theorem wrap_in (a : Int) (h1 : -9223372036854775808 ≤ a) (h2 : a ≤ 9223372036854775807) : wrap64 a = a := by unfold wrap64; omega

/-- One round of Len. -/
theorem len_step (s f l : Int) : wrap64 (wrap64 s + wrap64 (wrap64 (l - f) + 1)) = wrap64 (s + (l - f + 1)) := by
  rw [wrap_add1 (l - f) 1, wrap_add]
/-- One round of spanMinusGaps. -/
theorem gap_step (s f l : Int) : wrap64 (wrap64 s - wrap64 (wrap64 (f - l) - 1)) = wrap64 (s - (f - l - 1)) := by
  rw [wrap_sub1 (f - l) 1, wrap_sub]

end Go.Proofs.Qxb6002584a.RunSum
