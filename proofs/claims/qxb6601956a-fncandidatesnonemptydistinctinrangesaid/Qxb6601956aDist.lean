/-
  The walks of FnCandidatesNonEmptyDistinctInRange (6), a theorem a case.
-/
import Derived.Test.Qxb6601956aZZ
namespace Go.Proofs.Qxb6601956a
open Go.RowKit Fl

/-- No pair twice. -/
def Dist (A B : List Nat) : Prop := ∀ i j, i < j → j < A.length → (FloatKind.f64.format.order (atN A i) (atN A j) == some .eq) = false ∨ (FloatKind.f64.format.order (atN B i) (atN B j) == some .eq) = false

/-- What is asked of the lists. -/
def Good_a_fix (A _B : List Nat) : Prop := A.length = 1

set_option maxRecDepth 100000 in
set_option maxHeartbeats 1000000 in
theorem dist_a_fix (fa fb : Bool) (th al be : Nat) (offset : Int) (w : World)
    (hZ : Calls Try.prog 10 #[.int .i64 (1), .float .f64 th, .float .f64 al, .float .f64 be, .bool true, .bool fa, .bool fb, .int .i64 offset] w fun e w' => ∃ A B, TwoF w A B e w' ∧ Good_a_fix A B) :
    Calls Try.prog 6 #[.int .i64 (1), .float .f64 th, .float .f64 al, .float .f64 be, .bool true, .bool fa, .bool fb, .int .i64 offset] w fun e w' => e = .returned (.bool true) ∧ Below w.heap.size w w' := by
  have HZ := hide hZ
  clear hZ
  go_enter Try.func6, Try.ntmps6
  go_wp2_with fail
  refine HZ.out.mono ?_
  rintro e w1 ⟨A, B, ⟨ga, gb, n, lA, lB, n1, n2, rfl, fA, fB, hb⟩, hG⟩
  clear HZ
  have hl1 : A.length = 1 := hG
  obtain rfl : n = 1 := by omega
  clear hl1 hG
  have HLA := hide lA
  have HLB := hide lB
  clear lA lB
  go_wp2
  go_loopw [22] (fun iv wr => ∃ i : Nat, i ≤ 1 ∧ iv = .int .i64 i ∧ Drawn w1 wr) (fun iv _ => 1 - (intOf iv).toNat)
  case atStart => exact ⟨0, Nat.zero_le _, rfl, Drawn.refl _⟩
  case round =>
    obtain ⟨i, hi, rfl, hdr⟩ := hrel
    by_cases hlt : i < 1
    · obtain rfl : i = 0 := by omega
      go_wp2
      obtain ⟨wo, rfl⟩ : ∃ wo : World, wo = wr := ⟨_, rfl⟩
      go_loopw [23] (fun jv wr => jv = .int .i64 1 ∧ Drawn w1 wr) (fun _ _ => 0)
      case atStart => exact ⟨rfl, hdr⟩
      case round =>
        clear hdr
        obtain ⟨rfl, hdr⟩ := hrel
        go_wp2
        go_roundw
        case rel => exact ⟨1, by omega, by go_num, hdr⟩
        case measure => simp [intOf]
    · go_wp2
      clear hi hlt
      obtain ⟨wo, rfl⟩ : ∃ wo : World, wo = wr := ⟨_, rfl⟩
      go_loopw [24] (fun iv wr => ∃ i : Nat, i ≤ 1 ∧ iv = .int .i64 i ∧ Drawn w1 wr) (fun iv _ => 1 - (intOf iv).toNat)
      case atStart => exact ⟨0, Nat.zero_le _, rfl, hdr⟩
      case round =>
        clear hdr
        obtain ⟨i, hi, rfl, hdr⟩ := hrel
        by_cases hlt' : i < 1
        · have c1 := (hdr.floats fA).at (j := i) (by rw [HLA.out]; exact hlt')
          have c2 := (hdr.floats fB).at (j := i) (by rw [HLB.out]; exact hlt')
          go_wp2
          go_roundw
          case rel => exact ⟨i + 1, by omega, by go_num, hdr⟩
          case measure => simp [intOf]; omega
        · go_wp2
          go_ret
          exact ⟨rfl, hb.trans (hdr.below _)⟩

/-- What is asked of the lists. -/
def Good_a_free (A B : List Nat) : Prop := 1 < A.length ∧ Dist A B ∧ (∀ i, i < A.length → FloatKind.f64.format.order (atN A i) 0 = some .gt ∧ FloatKind.f64.format.order (atN A i) 4611686018427387904 = some .lt ∧ FloatKind.f64.format.order (atN B i) 0 = some .eq)

set_option maxRecDepth 100000 in
set_option maxHeartbeats 1000000 in
theorem dist_a_free (fa fb : Bool) (th al be : Nat) (offset : Int) (w : World)
    (hZ : Calls Try.prog 10 #[.int .i64 (1), .float .f64 th, .float .f64 al, .float .f64 be, .bool false, .bool fa, .bool fb, .int .i64 offset] w fun e w' => ∃ A B, TwoF w A B e w' ∧ Good_a_free A B) :
    Calls Try.prog 6 #[.int .i64 (1), .float .f64 th, .float .f64 al, .float .f64 be, .bool false, .bool fa, .bool fb, .int .i64 offset] w fun e w' => e = .returned (.bool true) ∧ Below w.heap.size w w' := by
  have HZ := hide hZ
  clear hZ
  go_enter Try.func6, Try.ntmps6
  go_wp2_with fail
  refine HZ.out.mono ?_
  rintro e w1 ⟨A, B, ⟨ga, gb, n, lA, lB, n1, n2, rfl, fA, fB, hb⟩, hG⟩
  clear HZ
  obtain ⟨hl1, hD, hF⟩ := hG
  have hn : (1 : Int) < (n : Int) := by omega
  clear hl1
  have HLA := hide lA
  have HLB := hide lB
  clear lA lB
  have hn0 : ((n : Int) == 0) = false := by simpa using (show ¬ (n : Int) = 0 by omega)
  go_wp2
  go_loopw [22] (fun iv wr => ∃ i : Nat, i ≤ n ∧ iv = .int .i64 i ∧ Drawn w1 wr) (fun iv _ => n - (intOf iv).toNat)
  case atStart => exact ⟨0, Nat.zero_le _, rfl, Drawn.refl _⟩
  case round =>
    obtain ⟨i, hi, rfl, hdr⟩ := hrel
    by_cases hlt : i < n
    · have hd : decide ((i : Int) < n) = true := by simpa using hlt
      go_wp2
      obtain ⟨wo, rfl⟩ : ∃ wo : World, wo = wr := ⟨_, rfl⟩
      go_loopw [23] (fun jv wr => ∃ j : Nat, i < j ∧ j ≤ n ∧ jv = .int .i64 j ∧ Drawn w1 wr) (fun jv _ => n - (intOf jv).toNat)
      case atStart => exact ⟨i + 1, by omega, by omega, by go_num, hdr⟩
      case round =>
        clear hdr
        obtain ⟨j, hij, hj, rfl, hdr⟩ := hrel
        by_cases hjlt : j < n
        · have c1 := (hdr.floats fA).at (j := i) (by rw [HLA.out]; omega)
          have c2 := (hdr.floats fA).at (j := j) (by rw [HLA.out]; exact hjlt)
          have c3 := (hdr.floats fB).at (j := i) (by rw [HLB.out]; omega)
          have c4 := (hdr.floats fB).at (j := j) (by rw [HLB.out]; exact hjlt)
          have hdd := hD i j hij (by rw [HLA.out]; exact hjlt)
          by_cases hE : (FloatKind.f64.format.order (atN A i) (atN A j) == some .eq) = true
          · have hF2 : (FloatKind.f64.format.order (atN B i) (atN B j) == some .eq) = false := by
              rcases hdd with h | h
              · rw [hE] at h; cases h
              · exact h
            clear hdd
            go_wp2
            go_quiet (fail)
            go_wp2
            go_roundw
            case rel => first | exact ⟨j + 1, by omega, by omega, by go_num, hdr.drewN _⟩ | ((repeat apply Exists.intro); refine ⟨?_, rfl⟩; exact ⟨j + 1, by omega, by omega, by go_num, hdr.drewN _⟩)
            case measure => simp [intOf]; omega
          · rw [Bool.not_eq_true] at hE
            clear hdd
            go_wp2
            go_quiet (fail)
            go_wp2
            go_roundw
            case rel => first | exact ⟨j + 1, by omega, by omega, by go_num, hdr.drewN _⟩ | ((repeat apply Exists.intro); refine ⟨?_, rfl⟩; exact ⟨j + 1, by omega, by omega, by go_num, hdr.drewN _⟩)
            case measure => simp [intOf]; omega
        · go_wp2
          go_roundw
          case rel => exact ⟨i + 1, by omega, by go_num, hdr⟩
          case measure => simp [intOf]; omega
    · go_wp2
      clear hi hlt
      obtain ⟨wo, rfl⟩ : ∃ wo : World, wo = wr := ⟨_, rfl⟩
      go_loopw [24] (fun iv wr => ∃ i : Nat, i ≤ n ∧ iv = .int .i64 i ∧ Drawn w1 wr) (fun iv _ => n - (intOf iv).toNat)
      case atStart => exact ⟨0, Nat.zero_le _, rfl, hdr⟩
      case round =>
        clear hdr
        obtain ⟨i, hi, rfl, hdr⟩ := hrel
        by_cases hlt' : i < n
        · have c1 := (hdr.floats fA).at (j := i) (by rw [HLA.out]; exact hlt')
          have c2 := (hdr.floats fB).at (j := i) (by rw [HLB.out]; exact hlt')
          obtain ⟨o1, o2, o3⟩ := hF i (by rw [HLA.out]; exact hlt')
          go_wp2
          go_roundw
          case rel => exact ⟨i + 1, by omega, by go_num, hdr⟩
          case measure => simp [intOf]; omega
        · go_wp2
          go_ret
          exact ⟨rfl, hb.trans (hdr.below _)⟩

/-- What is asked of the lists. -/
def Good_h_ff (A B : List Nat) : Prop := 1 < A.length ∧ Dist A B ∧ (∀ i, i < A.length → FloatKind.f64.format.order (atN A i) 0 = some .gt ∧ (FloatKind.f64.format.order (atN A i) 4607182418800017408 == some .lt || FloatKind.f64.format.order (atN A i) 4607182418800017408 == some .eq) = true ∧ (FloatKind.f64.format.order (atN B i) 0 == some .gt || FloatKind.f64.format.order (atN B i) 0 == some .eq) = true ∧ (FloatKind.f64.format.order (atN B i) 4607182418800017408 == some .lt || FloatKind.f64.format.order (atN B i) 4607182418800017408 == some .eq) = true)

set_option maxRecDepth 100000 in
set_option maxHeartbeats 1000000 in
theorem dist_h_ff (ft : Bool) (th al be : Nat) (offset : Int) (w : World)
    (hZ : Calls Try.prog 10 #[.int .i64 (2), .float .f64 th, .float .f64 al, .float .f64 be, .bool ft, .bool false, .bool false, .int .i64 offset] w fun e w' => ∃ A B, TwoF w A B e w' ∧ Good_h_ff A B) :
    Calls Try.prog 6 #[.int .i64 (2), .float .f64 th, .float .f64 al, .float .f64 be, .bool ft, .bool false, .bool false, .int .i64 offset] w fun e w' => e = .returned (.bool true) ∧ Below w.heap.size w w' := by
  have HZ := hide hZ
  clear hZ
  go_enter Try.func6, Try.ntmps6
  go_wp2_with fail
  refine HZ.out.mono ?_
  rintro e w1 ⟨A, B, ⟨ga, gb, n, lA, lB, n1, n2, rfl, fA, fB, hb⟩, hG⟩
  clear HZ
  obtain ⟨hl1, hD, hF⟩ := hG
  have hn : (1 : Int) < (n : Int) := by omega
  clear hl1
  have HLA := hide lA
  have HLB := hide lB
  clear lA lB
  have hn0 : ((n : Int) == 0) = false := by simpa using (show ¬ (n : Int) = 0 by omega)
  go_wp2
  go_loopw [22] (fun iv wr => ∃ i : Nat, i ≤ n ∧ iv = .int .i64 i ∧ Drawn w1 wr) (fun iv _ => n - (intOf iv).toNat)
  case atStart => exact ⟨0, Nat.zero_le _, rfl, Drawn.refl _⟩
  case round =>
    obtain ⟨i, hi, rfl, hdr⟩ := hrel
    by_cases hlt : i < n
    · have hd : decide ((i : Int) < n) = true := by simpa using hlt
      go_wp2
      obtain ⟨wo, rfl⟩ : ∃ wo : World, wo = wr := ⟨_, rfl⟩
      go_loopw [23] (fun jv wr => ∃ j : Nat, i < j ∧ j ≤ n ∧ jv = .int .i64 j ∧ Drawn w1 wr) (fun jv _ => n - (intOf jv).toNat)
      case atStart => exact ⟨i + 1, by omega, by omega, by go_num, hdr⟩
      case round =>
        clear hdr
        obtain ⟨j, hij, hj, rfl, hdr⟩ := hrel
        by_cases hjlt : j < n
        · have c1 := (hdr.floats fA).at (j := i) (by rw [HLA.out]; omega)
          have c2 := (hdr.floats fA).at (j := j) (by rw [HLA.out]; exact hjlt)
          have c3 := (hdr.floats fB).at (j := i) (by rw [HLB.out]; omega)
          have c4 := (hdr.floats fB).at (j := j) (by rw [HLB.out]; exact hjlt)
          have hdd := hD i j hij (by rw [HLA.out]; exact hjlt)
          by_cases hE : (FloatKind.f64.format.order (atN A i) (atN A j) == some .eq) = true
          · have hF2 : (FloatKind.f64.format.order (atN B i) (atN B j) == some .eq) = false := by
              rcases hdd with h | h
              · rw [hE] at h; cases h
              · exact h
            clear hdd
            go_wp2
            go_quiet (fail)
            go_wp2
            go_roundw
            case rel => first | exact ⟨j + 1, by omega, by omega, by go_num, hdr.drewN _⟩ | ((repeat apply Exists.intro); refine ⟨?_, rfl⟩; exact ⟨j + 1, by omega, by omega, by go_num, hdr.drewN _⟩)
            case measure => simp [intOf]; omega
          · rw [Bool.not_eq_true] at hE
            clear hdd
            go_wp2
            go_quiet (fail)
            go_wp2
            go_roundw
            case rel => first | exact ⟨j + 1, by omega, by omega, by go_num, hdr.drewN _⟩ | ((repeat apply Exists.intro); refine ⟨?_, rfl⟩; exact ⟨j + 1, by omega, by omega, by go_num, hdr.drewN _⟩)
            case measure => simp [intOf]; omega
        · go_wp2
          go_roundw
          case rel => exact ⟨i + 1, by omega, by go_num, hdr⟩
          case measure => simp [intOf]; omega
    · go_wp2
      clear hi hlt
      obtain ⟨wo, rfl⟩ : ∃ wo : World, wo = wr := ⟨_, rfl⟩
      go_loopw [24] (fun iv wr => ∃ i : Nat, i ≤ n ∧ iv = .int .i64 i ∧ Drawn w1 wr) (fun iv _ => n - (intOf iv).toNat)
      case atStart => exact ⟨0, Nat.zero_le _, rfl, hdr⟩
      case round =>
        clear hdr
        obtain ⟨i, hi, rfl, hdr⟩ := hrel
        by_cases hlt' : i < n
        · have c1 := (hdr.floats fA).at (j := i) (by rw [HLA.out]; exact hlt')
          have c2 := (hdr.floats fB).at (j := i) (by rw [HLB.out]; exact hlt')
          obtain ⟨o1, o2, o3, o4⟩ := hF i (by rw [HLA.out]; exact hlt')
          go_wp2
          go_roundw
          case rel => exact ⟨i + 1, by omega, by go_num, hdr⟩
          case measure => simp [intOf]; omega
        · go_wp2
          go_ret
          exact ⟨rfl, hb.trans (hdr.below _)⟩

/-- What is asked of the lists. -/
def Good_h_ft (A B : List Nat) : Prop := 1 < A.length ∧ Dist A B ∧ (∀ i, i < A.length → FloatKind.f64.format.order (atN A i) 0 = some .gt ∧ (FloatKind.f64.format.order (atN A i) 4607182418800017408 == some .lt || FloatKind.f64.format.order (atN A i) 4607182418800017408 == some .eq) = true)

set_option maxRecDepth 100000 in
set_option maxHeartbeats 1000000 in
theorem dist_h_ft (ft : Bool) (th al be : Nat) (offset : Int) (w : World)
    (hZ : Calls Try.prog 10 #[.int .i64 (2), .float .f64 th, .float .f64 al, .float .f64 be, .bool ft, .bool false, .bool true, .int .i64 offset] w fun e w' => ∃ A B, TwoF w A B e w' ∧ Good_h_ft A B) :
    Calls Try.prog 6 #[.int .i64 (2), .float .f64 th, .float .f64 al, .float .f64 be, .bool ft, .bool false, .bool true, .int .i64 offset] w fun e w' => e = .returned (.bool true) ∧ Below w.heap.size w w' := by
  have HZ := hide hZ
  clear hZ
  go_enter Try.func6, Try.ntmps6
  go_wp2_with fail
  refine HZ.out.mono ?_
  rintro e w1 ⟨A, B, ⟨ga, gb, n, lA, lB, n1, n2, rfl, fA, fB, hb⟩, hG⟩
  clear HZ
  obtain ⟨hl1, hD, hF⟩ := hG
  have hn : (1 : Int) < (n : Int) := by omega
  clear hl1
  have HLA := hide lA
  have HLB := hide lB
  clear lA lB
  have hn0 : ((n : Int) == 0) = false := by simpa using (show ¬ (n : Int) = 0 by omega)
  go_wp2
  go_loopw [22] (fun iv wr => ∃ i : Nat, i ≤ n ∧ iv = .int .i64 i ∧ Drawn w1 wr) (fun iv _ => n - (intOf iv).toNat)
  case atStart => exact ⟨0, Nat.zero_le _, rfl, Drawn.refl _⟩
  case round =>
    obtain ⟨i, hi, rfl, hdr⟩ := hrel
    by_cases hlt : i < n
    · have hd : decide ((i : Int) < n) = true := by simpa using hlt
      go_wp2
      obtain ⟨wo, rfl⟩ : ∃ wo : World, wo = wr := ⟨_, rfl⟩
      go_loopw [23] (fun jv wr => ∃ j : Nat, i < j ∧ j ≤ n ∧ jv = .int .i64 j ∧ Drawn w1 wr) (fun jv _ => n - (intOf jv).toNat)
      case atStart => exact ⟨i + 1, by omega, by omega, by go_num, hdr⟩
      case round =>
        clear hdr
        obtain ⟨j, hij, hj, rfl, hdr⟩ := hrel
        by_cases hjlt : j < n
        · have c1 := (hdr.floats fA).at (j := i) (by rw [HLA.out]; omega)
          have c2 := (hdr.floats fA).at (j := j) (by rw [HLA.out]; exact hjlt)
          have c3 := (hdr.floats fB).at (j := i) (by rw [HLB.out]; omega)
          have c4 := (hdr.floats fB).at (j := j) (by rw [HLB.out]; exact hjlt)
          have hdd := hD i j hij (by rw [HLA.out]; exact hjlt)
          by_cases hE : (FloatKind.f64.format.order (atN A i) (atN A j) == some .eq) = true
          · have hF2 : (FloatKind.f64.format.order (atN B i) (atN B j) == some .eq) = false := by
              rcases hdd with h | h
              · rw [hE] at h; cases h
              · exact h
            clear hdd
            go_wp2
            go_quiet (fail)
            go_wp2
            go_roundw
            case rel => first | exact ⟨j + 1, by omega, by omega, by go_num, hdr.drewN _⟩ | ((repeat apply Exists.intro); refine ⟨?_, rfl⟩; exact ⟨j + 1, by omega, by omega, by go_num, hdr.drewN _⟩)
            case measure => simp [intOf]; omega
          · rw [Bool.not_eq_true] at hE
            clear hdd
            go_wp2
            go_quiet (fail)
            go_wp2
            go_roundw
            case rel => first | exact ⟨j + 1, by omega, by omega, by go_num, hdr.drewN _⟩ | ((repeat apply Exists.intro); refine ⟨?_, rfl⟩; exact ⟨j + 1, by omega, by omega, by go_num, hdr.drewN _⟩)
            case measure => simp [intOf]; omega
        · go_wp2
          go_roundw
          case rel => exact ⟨i + 1, by omega, by go_num, hdr⟩
          case measure => simp [intOf]; omega
    · go_wp2
      clear hi hlt
      obtain ⟨wo, rfl⟩ : ∃ wo : World, wo = wr := ⟨_, rfl⟩
      go_loopw [24] (fun iv wr => ∃ i : Nat, i ≤ n ∧ iv = .int .i64 i ∧ Drawn w1 wr) (fun iv _ => n - (intOf iv).toNat)
      case atStart => exact ⟨0, Nat.zero_le _, rfl, hdr⟩
      case round =>
        clear hdr
        obtain ⟨i, hi, rfl, hdr⟩ := hrel
        by_cases hlt' : i < n
        · have c1 := (hdr.floats fA).at (j := i) (by rw [HLA.out]; exact hlt')
          have c2 := (hdr.floats fB).at (j := i) (by rw [HLB.out]; exact hlt')
          obtain ⟨o1, o2⟩ := hF i (by rw [HLA.out]; exact hlt')
          go_wp2
          go_roundw
          case rel => exact ⟨i + 1, by omega, by go_num, hdr⟩
          case measure => simp [intOf]; omega
        · go_wp2
          go_ret
          exact ⟨rfl, hb.trans (hdr.below _)⟩

/-- What is asked of the lists. -/
def Good_h_tf (A B : List Nat) : Prop := 1 < A.length ∧ Dist A B ∧ (∀ i, i < A.length → (FloatKind.f64.format.order (atN B i) 0 == some .gt || FloatKind.f64.format.order (atN B i) 0 == some .eq) = true ∧ (FloatKind.f64.format.order (atN B i) 4607182418800017408 == some .lt || FloatKind.f64.format.order (atN B i) 4607182418800017408 == some .eq) = true)

set_option maxRecDepth 100000 in
set_option maxHeartbeats 1000000 in
theorem dist_h_tf (ft : Bool) (th al be : Nat) (offset : Int) (w : World)
    (hZ : Calls Try.prog 10 #[.int .i64 (2), .float .f64 th, .float .f64 al, .float .f64 be, .bool ft, .bool true, .bool false, .int .i64 offset] w fun e w' => ∃ A B, TwoF w A B e w' ∧ Good_h_tf A B) :
    Calls Try.prog 6 #[.int .i64 (2), .float .f64 th, .float .f64 al, .float .f64 be, .bool ft, .bool true, .bool false, .int .i64 offset] w fun e w' => e = .returned (.bool true) ∧ Below w.heap.size w w' := by
  have HZ := hide hZ
  clear hZ
  go_enter Try.func6, Try.ntmps6
  go_wp2_with fail
  refine HZ.out.mono ?_
  rintro e w1 ⟨A, B, ⟨ga, gb, n, lA, lB, n1, n2, rfl, fA, fB, hb⟩, hG⟩
  clear HZ
  obtain ⟨hl1, hD, hF⟩ := hG
  have hn : (1 : Int) < (n : Int) := by omega
  clear hl1
  have HLA := hide lA
  have HLB := hide lB
  clear lA lB
  have hn0 : ((n : Int) == 0) = false := by simpa using (show ¬ (n : Int) = 0 by omega)
  go_wp2
  go_loopw [22] (fun iv wr => ∃ i : Nat, i ≤ n ∧ iv = .int .i64 i ∧ Drawn w1 wr) (fun iv _ => n - (intOf iv).toNat)
  case atStart => exact ⟨0, Nat.zero_le _, rfl, Drawn.refl _⟩
  case round =>
    obtain ⟨i, hi, rfl, hdr⟩ := hrel
    by_cases hlt : i < n
    · have hd : decide ((i : Int) < n) = true := by simpa using hlt
      go_wp2
      obtain ⟨wo, rfl⟩ : ∃ wo : World, wo = wr := ⟨_, rfl⟩
      go_loopw [23] (fun jv wr => ∃ j : Nat, i < j ∧ j ≤ n ∧ jv = .int .i64 j ∧ Drawn w1 wr) (fun jv _ => n - (intOf jv).toNat)
      case atStart => exact ⟨i + 1, by omega, by omega, by go_num, hdr⟩
      case round =>
        clear hdr
        obtain ⟨j, hij, hj, rfl, hdr⟩ := hrel
        by_cases hjlt : j < n
        · have c1 := (hdr.floats fA).at (j := i) (by rw [HLA.out]; omega)
          have c2 := (hdr.floats fA).at (j := j) (by rw [HLA.out]; exact hjlt)
          have c3 := (hdr.floats fB).at (j := i) (by rw [HLB.out]; omega)
          have c4 := (hdr.floats fB).at (j := j) (by rw [HLB.out]; exact hjlt)
          have hdd := hD i j hij (by rw [HLA.out]; exact hjlt)
          by_cases hE : (FloatKind.f64.format.order (atN A i) (atN A j) == some .eq) = true
          · have hF2 : (FloatKind.f64.format.order (atN B i) (atN B j) == some .eq) = false := by
              rcases hdd with h | h
              · rw [hE] at h; cases h
              · exact h
            clear hdd
            go_wp2
            go_quiet (fail)
            go_wp2
            go_roundw
            case rel => first | exact ⟨j + 1, by omega, by omega, by go_num, hdr.drewN _⟩ | ((repeat apply Exists.intro); refine ⟨?_, rfl⟩; exact ⟨j + 1, by omega, by omega, by go_num, hdr.drewN _⟩)
            case measure => simp [intOf]; omega
          · rw [Bool.not_eq_true] at hE
            clear hdd
            go_wp2
            go_quiet (fail)
            go_wp2
            go_roundw
            case rel => first | exact ⟨j + 1, by omega, by omega, by go_num, hdr.drewN _⟩ | ((repeat apply Exists.intro); refine ⟨?_, rfl⟩; exact ⟨j + 1, by omega, by omega, by go_num, hdr.drewN _⟩)
            case measure => simp [intOf]; omega
        · go_wp2
          go_roundw
          case rel => exact ⟨i + 1, by omega, by go_num, hdr⟩
          case measure => simp [intOf]; omega
    · go_wp2
      clear hi hlt
      obtain ⟨wo, rfl⟩ : ∃ wo : World, wo = wr := ⟨_, rfl⟩
      go_loopw [24] (fun iv wr => ∃ i : Nat, i ≤ n ∧ iv = .int .i64 i ∧ Drawn w1 wr) (fun iv _ => n - (intOf iv).toNat)
      case atStart => exact ⟨0, Nat.zero_le _, rfl, hdr⟩
      case round =>
        clear hdr
        obtain ⟨i, hi, rfl, hdr⟩ := hrel
        by_cases hlt' : i < n
        · have c1 := (hdr.floats fA).at (j := i) (by rw [HLA.out]; exact hlt')
          have c2 := (hdr.floats fB).at (j := i) (by rw [HLB.out]; exact hlt')
          obtain ⟨o3, o4⟩ := hF i (by rw [HLA.out]; exact hlt')
          go_wp2
          go_roundw
          case rel => exact ⟨i + 1, by omega, by go_num, hdr⟩
          case measure => simp [intOf]; omega
        · go_wp2
          go_ret
          exact ⟨rfl, hb.trans (hdr.below _)⟩

/-- What is asked of the lists. -/
def Good_h_tt (A _B : List Nat) : Prop := A.length = 1

set_option maxRecDepth 100000 in
set_option maxHeartbeats 1000000 in
theorem dist_h_tt (ft : Bool) (th al be : Nat) (offset : Int) (w : World)
    (hZ : Calls Try.prog 10 #[.int .i64 (2), .float .f64 th, .float .f64 al, .float .f64 be, .bool ft, .bool true, .bool true, .int .i64 offset] w fun e w' => ∃ A B, TwoF w A B e w' ∧ Good_h_tt A B) :
    Calls Try.prog 6 #[.int .i64 (2), .float .f64 th, .float .f64 al, .float .f64 be, .bool ft, .bool true, .bool true, .int .i64 offset] w fun e w' => e = .returned (.bool true) ∧ Below w.heap.size w w' := by
  have HZ := hide hZ
  clear hZ
  go_enter Try.func6, Try.ntmps6
  go_wp2_with fail
  refine HZ.out.mono ?_
  rintro e w1 ⟨A, B, ⟨ga, gb, n, lA, lB, n1, n2, rfl, fA, fB, hb⟩, hG⟩
  clear HZ
  have hl1 : A.length = 1 := hG
  obtain rfl : n = 1 := by omega
  clear hl1 hG
  have HLA := hide lA
  have HLB := hide lB
  clear lA lB
  go_wp2
  go_loopw [22] (fun iv wr => ∃ i : Nat, i ≤ 1 ∧ iv = .int .i64 i ∧ Drawn w1 wr) (fun iv _ => 1 - (intOf iv).toNat)
  case atStart => exact ⟨0, Nat.zero_le _, rfl, Drawn.refl _⟩
  case round =>
    obtain ⟨i, hi, rfl, hdr⟩ := hrel
    by_cases hlt : i < 1
    · obtain rfl : i = 0 := by omega
      go_wp2
      obtain ⟨wo, rfl⟩ : ∃ wo : World, wo = wr := ⟨_, rfl⟩
      go_loopw [23] (fun jv wr => jv = .int .i64 1 ∧ Drawn w1 wr) (fun _ _ => 0)
      case atStart => exact ⟨rfl, hdr⟩
      case round =>
        clear hdr
        obtain ⟨rfl, hdr⟩ := hrel
        go_wp2
        go_roundw
        case rel => exact ⟨1, by omega, by go_num, hdr⟩
        case measure => simp [intOf]
    · go_wp2
      clear hi hlt
      obtain ⟨wo, rfl⟩ : ∃ wo : World, wo = wr := ⟨_, rfl⟩
      go_loopw [24] (fun iv wr => ∃ i : Nat, i ≤ 1 ∧ iv = .int .i64 i ∧ Drawn w1 wr) (fun iv _ => 1 - (intOf iv).toNat)
      case atStart => exact ⟨0, Nat.zero_le _, rfl, hdr⟩
      case round =>
        clear hdr
        obtain ⟨i, hi, rfl, hdr⟩ := hrel
        by_cases hlt' : i < 1
        · have c1 := (hdr.floats fA).at (j := i) (by rw [HLA.out]; exact hlt')
          have c2 := (hdr.floats fB).at (j := i) (by rw [HLB.out]; exact hlt')
          go_wp2
          go_roundw
          case rel => exact ⟨i + 1, by omega, by go_num, hdr⟩
          case measure => simp [intOf]; omega
        · go_wp2
          go_ret
          exact ⟨rfl, hb.trans (hdr.below _)⟩

/-- What is asked of the lists. -/
def Good_last (A B : List Nat) : Prop := A.length = 1 ∧ (∀ i, i < A.length → FloatKind.f64.format.order (atN A i) 4607182418800017408 = some .eq ∧ FloatKind.f64.format.order (atN B i) 0 = some .eq)

set_option maxRecDepth 100000 in
set_option maxHeartbeats 1000000 in
theorem dist_last (model : Int) (m1 : ¬ model = 1) (m2 : ¬ model = 2) (ft fa fb : Bool) (th al be : Nat) (offset : Int) (w : World)
    (hZ : Calls Try.prog 10 #[.int .i64 model, .float .f64 th, .float .f64 al, .float .f64 be, .bool ft, .bool fa, .bool fb, .int .i64 offset] w fun e w' => ∃ A B, TwoF w A B e w' ∧ Good_last A B) :
    Calls Try.prog 6 #[.int .i64 model, .float .f64 th, .float .f64 al, .float .f64 be, .bool ft, .bool fa, .bool fb, .int .i64 offset] w fun e w' => e = .returned (.bool true) ∧ Below w.heap.size w w' := by
  have HZ := hide hZ
  clear hZ
  go_enter Try.func6, Try.ntmps6
  go_wp2_with fail
  refine HZ.out.mono ?_
  rintro e w1 ⟨A, B, ⟨ga, gb, n, lA, lB, n1, n2, rfl, fA, fB, hb⟩, hG⟩
  clear HZ
  obtain ⟨hl1, hF⟩ := hG
  obtain rfl : n = 1 := by omega
  clear hl1
  have HLA := hide lA
  have HLB := hide lB
  clear lA lB
  have q1 : (model == 1) = false := by simpa using m1
  have q2 : (model == 2) = false := by simpa using m2
  go_wp2
  go_loopw [22] (fun iv wr => ∃ i : Nat, i ≤ 1 ∧ iv = .int .i64 i ∧ Drawn w1 wr) (fun iv _ => 1 - (intOf iv).toNat)
  case atStart => exact ⟨0, Nat.zero_le _, rfl, Drawn.refl _⟩
  case round =>
    obtain ⟨i, hi, rfl, hdr⟩ := hrel
    by_cases hlt : i < 1
    · obtain rfl : i = 0 := by omega
      go_wp2
      obtain ⟨wo, rfl⟩ : ∃ wo : World, wo = wr := ⟨_, rfl⟩
      go_loopw [23] (fun jv wr => jv = .int .i64 1 ∧ Drawn w1 wr) (fun _ _ => 0)
      case atStart => exact ⟨rfl, hdr⟩
      case round =>
        clear hdr
        obtain ⟨rfl, hdr⟩ := hrel
        go_wp2
        go_roundw
        case rel => exact ⟨1, by omega, by go_num, hdr⟩
        case measure => simp [intOf]
    · go_wp2
      clear hi hlt
      obtain ⟨wo, rfl⟩ : ∃ wo : World, wo = wr := ⟨_, rfl⟩
      go_loopw [24] (fun iv wr => ∃ i : Nat, i ≤ 1 ∧ iv = .int .i64 i ∧ Drawn w1 wr) (fun iv _ => 1 - (intOf iv).toNat)
      case atStart => exact ⟨0, Nat.zero_le _, rfl, hdr⟩
      case round =>
        clear hdr
        obtain ⟨i, hi, rfl, hdr⟩ := hrel
        by_cases hlt' : i < 1
        · have c1 := (hdr.floats fA).at (j := i) (by rw [HLA.out]; exact hlt')
          have c2 := (hdr.floats fB).at (j := i) (by rw [HLB.out]; exact hlt')
          obtain ⟨o1, o2⟩ := hF i (by rw [HLA.out]; exact hlt')
          go_wp2
          go_roundw
          case rel => exact ⟨i + 1, by omega, by go_num, hdr⟩
          case measure => simp [intOf]; omega
        · go_wp2
          go_ret
          exact ⟨rfl, hb.trans (hdr.below _)⟩

end Go.Proofs.Qxb6601956a
