/-
  The walk of FnNewStartsAtTieChoice (8).
-/
import Derived.Test.Qxb6601956aZZNew
import Derived.Test.Qxb6601956aSame
import Derived.Test.Qxb6601956aTable
namespace Go.Proofs.Qxb6601956a
open Go.RowKit Fl

/-- ZZNew's answer, as far as this law looks. -/
def Params (w : World) (a b : Nat) (e : Ending) (w' : World) : Prop :=
  ∃ v0 v1 v2 v5 v6 v7 v8 v9 v10, e = .returned (.tuple #[v0, v1, v2, .float .f64 a, .float .f64 b, v5, v6, v7, v8, v9, v10]) ∧ Below w.heap.size w w'
theorem ZNPost.params {w : World} {offset : Int} {ps : List (Nat × Nat)} {e : Ending} {w' : World} (h : ZNPost w offset ps e w') : Params w (pA ps 0) (pB ps 0) e w' := by
  obtain ⟨ga, gb, n, wn, wc, _, _, _, _, _, he, _, _, hb⟩ := h
  exact ⟨_, _, _, _, _, _, _, _, _, he, hb⟩

theorem tie_fix (th al be : Nat) (fa fb : Bool) (offset : Int) (w : World)
    (hZ : Calls Try.prog 13 #[.int .i64 1, .float .f64 th, .float .f64 al, .float .f64 be, .bool true, .bool fa, .bool fb, .int .i64 offset] w fun e w' => ∃ a, OnePlus th a ∧ Params w a 0 e w') :
    Calls Try.prog 8 #[.int .i64 1, .float .f64 th, .float .f64 al, .float .f64 be, .bool true, .bool fa, .bool fb, .int .i64 offset] w fun e w' => e = .returned (.bool true) ∧ Below w.heap.size w w' := by
  have HZ := hide hZ
  clear hZ
  cases hq : floatBits .add .f64 4607182418800017408 th with
  | some x =>
    have hop : ∀ t w, (binOp .add t (.float .f64 4607182418800017408) (.float .f64 th)).run Try.prog w = .ok (.float .f64 x) w := fun t w => run_float_arith w .add t .f64 _ _ _ hq
    have HQ : Hid (OnePlus th x) := .inl hq
    clear hq
    go_enter Try.func8, Try.ntmps8
    go_wp2_with fail
    refine HZ.out.mono ?_
    rintro e w1 ⟨a, ha, v0, v1, v2, v5, v6, v7, v8, v9, v10, rfl, hb⟩
    have HS := hide (ha.same HQ.out)
    clear ha HQ HZ
    go_wp2_with fail
    refine (sameF_any a x _ HS.out).mono ?_
    rintro e w2 ⟨rfl, rfl⟩
    go_wp2_with fail
    refine (sameF_any 0 0 _ (SameF.rfl' 0)).mono ?_
    rintro e w3 ⟨rfl, rfl⟩
    go_wp2
    go_ret
    exact ⟨rfl, hb⟩
  | none =>
    have hop : ∀ t w, (binOp .add t (.float .f64 4607182418800017408) (.float .f64 th)).run Try.prog w = .ok (.float .f64 (nanOf w 4607182418800017408 th)) w.drew := fun t w => run_nan w .add t _ _ hq rfl
    have HQ : Hid (∀ w, OnePlus th (nanOf w 4607182418800017408 th)) := fun w => .inr ⟨hq, nanOf_nan _ _ _⟩
    clear hq
    go_enter Try.func8, Try.ntmps8
    go_wp2_with fail
    refine HZ.out.mono ?_
    rintro e w1 ⟨a, ha, v0, v1, v2, v5, v6, v7, v8, v9, v10, rfl, hb⟩
    have HS := hide (fun w => ha.same (HQ.out w))
    clear ha HQ HZ
    go_wp2_with fail
    refine (sameF_any a _ _ (HS.out _)).mono ?_
    rintro e w2 ⟨rfl, rfl⟩
    go_wp2_with fail
    refine (sameF_any 0 0 _ (SameF.rfl' 0)).mono ?_
    rintro e w3 ⟨rfl, rfl⟩
    go_wp2
    go_ret
    exact ⟨rfl, hb.drew⟩

/-- The two floats that it wants where nothing is added. -/
theorem tie_free (th al be : Nat) (fa fb : Bool) (offset : Int) (w : World)
    (hZ : Calls Try.prog 13 #[.int .i64 1, .float .f64 th, .float .f64 al, .float .f64 be, .bool false, .bool fa, .bool fb, .int .i64 offset] w fun e w' => Params w 4607182418800017408 0 e w') :
    Calls Try.prog 8 #[.int .i64 1, .float .f64 th, .float .f64 al, .float .f64 be, .bool false, .bool fa, .bool fb, .int .i64 offset] w fun e w' => e = .returned (.bool true) ∧ Below w.heap.size w w' := by
  have HZ := hide hZ
  clear hZ
  go_enter Try.func8, Try.ntmps8
  go_wp2_with fail
  refine HZ.out.mono ?_
  rintro e w1 ⟨v0, v1, v2, v5, v6, v7, v8, v9, v10, rfl, hb⟩
  go_wp2_with fail
  refine (sameF_any _ _ _ (SameF.rfl' _)).mono ?_
  rintro e w2 ⟨rfl, rfl⟩
  go_wp2_with fail
  refine (sameF_any _ _ _ (SameF.rfl' _)).mono ?_
  rintro e w3 ⟨rfl, rfl⟩
  go_wp2
  go_ret
  exact ⟨rfl, hb⟩
theorem tie_last (model : Int) (h1 : ¬ model = 1) (h2 : ¬ model = 2) (th al be : Nat) (ft fa fb : Bool) (offset : Int) (w : World)
    (hZ : Calls Try.prog 13 #[.int .i64 model, .float .f64 th, .float .f64 al, .float .f64 be, .bool ft, .bool fa, .bool fb, .int .i64 offset] w fun e w' => Params w 4607182418800017408 0 e w') :
    Calls Try.prog 8 #[.int .i64 model, .float .f64 th, .float .f64 al, .float .f64 be, .bool ft, .bool fa, .bool fb, .int .i64 offset] w fun e w' => e = .returned (.bool true) ∧ Below w.heap.size w w' := by
  have HZ := hide hZ
  clear hZ
  go_enter Try.func8, Try.ntmps8
  go_wp2_with fail
  refine HZ.out.mono ?_
  rintro e w1 ⟨v0, v1, v2, v5, v6, v7, v8, v9, v10, rfl, hb⟩
  go_wp2_with fail
  refine (sameF_any _ _ _ (SameF.rfl' _)).mono ?_
  rintro e w2 ⟨rfl, rfl⟩
  go_wp2_with fail
  refine (sameF_any _ _ _ (SameF.rfl' _)).mono ?_
  rintro e w3 ⟨rfl, rfl⟩
  go_wp2
  go_ret
  exact ⟨rfl, hb⟩
theorem tie_holt (th al be : Nat) (ft fa fb : Bool) (offset : Int) (w : World)
    (hZ : Calls Try.prog 13 #[.int .i64 2, .float .f64 th, .float .f64 al, .float .f64 be, .bool ft, .bool fa, .bool fb, .int .i64 offset] w fun e w' => Params w (if fa then al else 4607182418800017408) (if fb then be else 4587366580439587226) e w') :
    Calls Try.prog 8 #[.int .i64 2, .float .f64 th, .float .f64 al, .float .f64 be, .bool ft, .bool fa, .bool fb, .int .i64 offset] w fun e w' => e = .returned (.bool true) ∧ Below w.heap.size w w' := by
  have HZ := hide hZ
  clear hZ
  cases fa <;> cases fb
  all_goals
    go_enter Try.func8, Try.ntmps8
    go_wp2_with fail
    refine HZ.out.mono ?_
    rintro e w1 ⟨v0, v1, v2, v5, v6, v7, v8, v9, v10, rfl, hb⟩
    go_wp2_with fail
    refine (sameF_any _ _ _ (SameF.rfl' _)).mono ?_
    rintro e w2 ⟨rfl, rfl⟩
    go_wp2_with fail
    refine (sameF_any _ _ _ (SameF.rfl' _)).mono ?_
    rintro e w3 ⟨rfl, rfl⟩
    go_wp2
    go_ret
    exact ⟨rfl, hb⟩
end Go.Proofs.Qxb6601956a
