/-
  The contracts of absSmall (21), arimaBefore (19), and wantCandidates (11).
-/
import Derived.Test.Qxb6601956aRows
import Derived.Test.Qxb6601956aSort
namespace Go.Proofs.Qxb6601956a
open Go.RowKit Fl
attribute [local go_sem] store_float

theorem abs_any (m : Nat) (w : World) (hm : m ≤ 199) :
    Calls Try.prog 21 #[.int .i64 ((m : Int) - 100)] w fun e w' => e = .returned (.int .i64 ((dist m : Nat) : Int)) ∧ w' = w := by
  by_cases h : m < 100
  · have hd : Hid (((dist m : Nat) : Int) = -((m : Int) - 100)) := by show _ = _; unfold dist; rw [if_pos h]; omega
    go_enter Try.func21, Try.ntmps21
    go_wp2
    go_ret
    rw [hd.out]
    exact ⟨rfl, rfl⟩
  · have hd : Hid (((dist m : Nat) : Int) = (m : Int) - 100) := by show _ = _; unfold dist; rw [if_neg h]; omega
    go_enter Try.func21, Try.ntmps21
    go_wp2
    go_ret
    rw [hd.out]
    exact ⟨rfl, rfl⟩

theorem before_any (m1 m2 : Nat) (w : World) (h1 : m1 ≤ 199) (h2 : m2 ≤ 199) :
    Calls Try.prog 19 #[.int .i64 m1, .int .i64 m2] w fun e w' => e = .returned (.bool (bef m1 m2)) ∧ w' = w := by
  have hb : bef m1 m2 = if dist m1 = dist m2 then decide (m1 < m2) else decide (dist m1 < dist m2) := rfl
  have HB : Hid (bef m1 m2 = if dist m1 = dist m2 then decide (m1 < m2) else decide (dist m1 < dist m2)) := hb
  clear hb
  by_cases hd : dist m1 = dist m2
  · have hq : (((dist m1 : Nat) : Int) == ((dist m2 : Nat) : Int)) = true := by simp [hd]
    have HD : Hid (dist m1 = dist m2) := hd
    clear hd
    go_enter Try.func19, Try.ntmps19
    go_wp2_with fail
    refine (abs_any m1 _ h1).mono ?_
    rintro e w1 ⟨rfl, rfl⟩
    go_wp2_with fail
    refine (abs_any m2 _ h2).mono ?_
    rintro e w2 ⟨rfl, rfl⟩
    go_wp2
    go_ret
    rw [HB.out, if_pos HD.out]
    exact ⟨by simp, rfl⟩
  · have hq : (((dist m1 : Nat) : Int) == ((dist m2 : Nat) : Int)) = false := by simpa using (show ¬ ((dist m1 : Nat) : Int) = ((dist m2 : Nat) : Int) by omega)
    have HD : Hid (¬ dist m1 = dist m2) := hd
    clear hd
    go_enter Try.func19, Try.ntmps19
    go_wp2_with fail
    refine (abs_any m1 _ h1).mono ?_
    rintro e w1 ⟨rfl, rfl⟩
    go_wp2_with fail
    refine (abs_any m2 _ h2).mono ?_
    rintro e w2 ⟨rfl, rfl⟩
    go_wp2
    go_ret
    rw [HB.out, if_neg HD.out]
    exact ⟨by simp, rfl⟩
end Go.Proofs.Qxb6601956a
