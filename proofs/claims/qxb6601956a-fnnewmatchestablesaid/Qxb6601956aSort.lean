/-
  The sort of wantCandidates, plain: no Go in sight.
-/
import Derived.Test.Qxb6601956aTable
namespace Go.Proofs.Qxb6601956a

/-- The distance to 100. -/
def dist (m : Nat) : Nat := if m < 100 then 100 - m else m - 100
/-- arimaBefore. -/
def bef (m1 m2 : Nat) : Bool := if dist m1 = dist m2 then decide (m1 < m2) else decide (dist m1 < dist m2)

/-- x is taken in from the right into a list that lies reversed. -/
def insRev (x : Nat) : List Nat → List Nat
  | [] => [x]
  | y :: ys => if bef x y then y :: insRev x ys else x :: y :: ys
/-- The sorted part, reversed, when k + 1 numbers are in it. -/
def srt : Nat → List Nat
  | 0 => [1]
  | k + 1 => insRev (k + 2) (srt k)
/-- The numbers that are still to come. -/
def coming (k : Nat) : List Nat := (List.range (198 - k)).map fun i => k + 2 + i

def amN (i : Nat) : Nat := if i % 2 = 0 then 100 + i / 2 else 100 - (i + 1) / 2
theorem amN_am (i : Nat) (h : i < 199) : ((amN i : Nat) : Int) = am i := by
  unfold amN am; split <;> omega

/-- THE PLAIN LAW of the sort. -/
theorem sorted : (srt 198).reverse = (List.range 199).map amN := by decide +kernel

theorem insRev_len (x : Nat) : ∀ l : List Nat, (insRev x l).length = l.length + 1
  | [] => rfl
  | y :: ys => by
    unfold insRev
    split
    · simp [insRev_len x ys]
    · rfl
theorem srt_len : ∀ k, (srt k).length = k + 1
  | 0 => rfl
  | k + 1 => by rw [srt, insRev_len, srt_len k]
theorem insRev_mem (x : Nat) : ∀ (l : List Nat) (y : Nat), y ∈ insRev x l → y = x ∨ y ∈ l
  | [], y, h => by simp [insRev] at h; exact .inl h
  | z :: zs, y, h => by
    unfold insRev at h
    split at h
    · rcases List.mem_cons.1 h with rfl | h
      · exact .inr (by simp)
      · rcases insRev_mem x zs y h with h | h
        · exact .inl h
        · exact .inr (List.mem_cons_of_mem _ h)
    · rcases List.mem_cons.1 h with rfl | h
      · exact .inl rfl
      · exact .inr h
theorem srt_mem : ∀ (k y : Nat), y ∈ srt k → 1 ≤ y ∧ y ≤ k + 1
  | 0, y, h => by simp [srt] at h; omega
  | k + 1, y, h => by
    rcases insRev_mem _ _ _ h with rfl | h
    · omega
    · have := srt_mem k y h; omega

theorem coming_cons (k : Nat) (h : k < 198) : coming k = (k + 2) :: coming (k + 1) := by
  unfold coming
  rw [show 198 - k = (198 - (k + 1)) + 1 by omega, List.range_succ_eq_map, List.map_cons, List.map_map]
  congr 1
  apply List.map_congr_left
  intro i _
  simp
  omega
theorem coming_end : coming 198 = [] := by simp [coming]
theorem coming_len (k : Nat) : (coming k).length = 198 - k := by simp [coming]
theorem start_list : (List.range 199).map (· + 1) = (srt 0).reverse ++ coming 0 := by decide +kernel

/-! ### One exchange -/
theorem swap_list {α : Type} (A C : List α) (x y : α) : ((A ++ y :: x :: C).set (A.length + 1) y).set A.length x = A ++ x :: y :: C := by
  rw [List.set_append_right _ _ (by omega), show A.length + 1 - A.length = 1 by omega]
  rw [List.set_append_right _ _ (by omega), Nat.sub_self]
  rfl
theorem at_mid {α : Type} (A C : List α) (x : α) : (A ++ x :: C)[A.length]? = some x := by
  rw [List.getElem?_append_right (Nat.le_refl _), Nat.sub_self]; rfl
theorem at_mid1 {α : Type} (A C : List α) (x y : α) : (A ++ y :: x :: C)[A.length + 1]? = some x := by
  rw [List.getElem?_append_right (by omega), show A.length + 1 - A.length = 1 by omega]; rfl
/-- The inner loop's step, seen from its end. -/
theorem ins_step {x y : Nat} {A B R : List Nat} (hb : bef x y = true) (h : (insRev x (A ++ [y]).reverse).reverse ++ B = R) : (insRev x A.reverse).reverse ++ (y :: B) = R := by
  rw [← h, List.reverse_append]
  simp [insRev, hb]
theorem ins_stop {x y : Nat} {A B R : List Nat} (hb : bef x y = false) (h : (insRev x (A ++ [y]).reverse).reverse ++ B = R) : A ++ y :: x :: B = R := by
  rw [← h, List.reverse_append]
  simp [insRev, hb]
theorem ins_head {x : Nat} {B R : List Nat} (h : (insRev x ([] : List Nat).reverse).reverse ++ B = R) : x :: B = R := by
  rw [← h]; simp [insRev]

end Go.Proofs.Qxb6601956a
