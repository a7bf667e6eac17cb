/-
  wantCandidates (11): the lists of one, and Holt's.
-/
import Derived.Test.Qxb6601956aWant
import Derived.Test.Qxb6601956aZZ
namespace Go.Proofs.Qxb6601956a
open Go.RowKit Fl
attribute [local go_sem] store_float

theorem two_lits (w : World) (a b : Nat) : Floats ((w.alloc (.cells #[.float .f64 a] 24)).alloc (.cells #[.float .f64 b] 24)) w.heap.size [a] ∧ Floats ((w.alloc (.cells #[.float .f64 a] 24)).alloc (.cells #[.float .f64 b] 24)) (w.heap.size + 1) [b] ∧
    Below w.heap.size w ((w.alloc (.cells #[.float .f64 a] 24)).alloc (.cells #[.float .f64 b] 24)) := by
  have h := lit_floats (w.alloc (.cells #[.float .f64 a] 24)) b
  rw [World.size_alloc] at h
  exact ⟨(lit_floats w a).below' ((Below.refl _ _).alloc (Nat.le_refl _) _), h, ((Below.refl _ _).alloc (Nat.le_refl _) _).alloc (by simp) _⟩

set_option maxRecDepth 100000 in
theorem want_last (model : Int) (th al be : Nat) (ft fa fb : Bool) (w : World) (h1 : ¬ model = 1) (h2 : ¬ model = 2) :
    Calls Try.prog 11 #[.int .i64 model, .float .f64 th, .float .f64 al, .float .f64 be, .bool ft, .bool fa, .bool fb] w (TwoF w [4607182418800017408] [0]) := by
  go_enter Try.func11, Try.ntmps11
  go_wp2
  go_ret2
  obtain ⟨fA, fB, hb⟩ := two_lits w 4607182418800017408 0
  exact ⟨_, _, 1, rfl, rfl, by omega, by omega, rfl, fA, fB, hb⟩
set_option maxRecDepth 100000 in
theorem want_tt (th al be : Nat) (ft : Bool) (w : World) :
    Calls Try.prog 11 #[.int .i64 2, .float .f64 th, .float .f64 al, .float .f64 be, .bool ft, .bool true, .bool true] w (TwoF w [al] [be]) := by
  go_enter Try.func11, Try.ntmps11
  go_wp2
  go_ret2
  obtain ⟨fA, fB, hb⟩ := two_lits w al be
  exact ⟨_, _, 1, rfl, rfl, by omega, by omega, rfl, fA, fB, hb⟩
set_option maxRecDepth 100000 in
theorem want_fix (th al be : Nat) (fa fb : Bool) (w : World) :
    Calls Try.prog 11 #[.int .i64 1, .float .f64 th, .float .f64 al, .float .f64 be, .bool true, .bool fa, .bool fb] w fun e w' => ∃ r, OnePlus th r ∧ TwoF w [r] [0] e w' := by
  cases hq : floatBits .add .f64 4607182418800017408 th with
  | some r =>
    have hop : ∀ t w, (binOp .add t (.float .f64 4607182418800017408) (.float .f64 th)).run Try.prog w = .ok (.float .f64 r) w := fun t w => run_float_arith w .add t .f64 _ _ _ hq
    have HQ : Hid (floatBits .add .f64 4607182418800017408 th = some r) := hq
    clear hq
    go_enter Try.func11, Try.ntmps11
    go_wp2
    go_ret2
    obtain ⟨fA, fB, hb⟩ := two_lits w r 0
    exact ⟨r, .inl HQ.out, _, _, 1, rfl, rfl, by omega, by omega, rfl, fA, fB, hb⟩
  | none =>
    have hop : ∀ t w, (binOp .add t (.float .f64 4607182418800017408) (.float .f64 th)).run Try.prog w = .ok (.float .f64 (nanOf w 4607182418800017408 th)) w.drew := fun t w => run_nan w .add t _ _ hq rfl
    have HQ : Hid (floatBits .add .f64 4607182418800017408 th = none) := hq
    clear hq
    go_enter Try.func11, Try.ntmps11
    go_wp2
    go_ret2
    obtain ⟨fA, fB, hb⟩ := two_lits w (nanOf w 4607182418800017408 th) 0
    exact ⟨_, .inr ⟨HQ.out, nanOf_nan _ _ _⟩, _, _, 1, rfl, rfl, by omega, by omega, rfl, fA.drew, fB.drew, hb.drew⟩
end Go.Proofs.Qxb6601956a
