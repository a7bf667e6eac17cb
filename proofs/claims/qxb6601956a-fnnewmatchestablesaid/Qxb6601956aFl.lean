/-
  Plain facts, no Go in sight: the floats j/20 and j/100; the walk of 'grid' as a list of whole numbers.
-/
import Derived.Laws.FloatArith
import Derived.RowKit
namespace Go.Proofs.Qxb6601956a.Fl
open Go.RowKit (wrap64)

/-- The bits of 'float64(j) / 20'. -/
def f20 (j : Int) : Nat := (floatBits .quo .f64 (floatOfInt .f64 j) 4626322717216342016).getD 0
/-- The bits of 'float64(j) / 100'. -/
def f100 (j : Int) : Nat := (floatBits .quo .f64 (floatOfInt .f64 j) 4636737291354636288).getD 0

theorem f20_fin : ∀ j : Fin 21, 1 ≤ j.val → floatBits .quo .f64 (floatOfInt .f64 (j.val : Int)) 4626322717216342016 = some (f20 j.val) := by decide +kernel
theorem f100_fin : ∀ j : Fin 200, 1 ≤ j.val → floatBits .quo .f64 (floatOfInt .f64 (j.val : Int)) 4636737291354636288 = some (f100 j.val) := by decide +kernel

theorem f20_is (j : Int) (h1 : 1 ≤ j) (h2 : j ≤ 20) : floatBits .quo .f64 (floatOfInt .f64 j) 4626322717216342016 = some (f20 j) := by
  have h := f20_fin ⟨j.toNat, by omega⟩ (by simp; omega)
  have e : ((j.toNat : Nat) : Int) = j := by omega
  simpa only [e] using h
theorem f100_is (j : Int) (h1 : 1 ≤ j) (h2 : j ≤ 199) : floatBits .quo .f64 (floatOfInt .f64 j) 4636737291354636288 = some (f100 j) := by
  have h := f100_fin ⟨j.toNat, by omega⟩ (by simp; omega)
  have e : ((j.toNat : Nat) : Int) = j := by omega
  simpa only [e] using h

theorem ord20_fin : ∀ i j : Fin 21, 1 ≤ i.val → 1 ≤ j.val → FloatKind.f64.format.order (f20 i.val) (f20 j.val) = some (compare i.val j.val) := by decide +kernel
theorem ord20 (i j : Int) (h1 : 1 ≤ i) (h2 : i ≤ 20) (h3 : 1 ≤ j) (h4 : j ≤ 20) : FloatKind.f64.format.order (f20 i) (f20 j) = some (compare i.toNat j.toNat) := by
  have h := ord20_fin ⟨i.toNat, by omega⟩ ⟨j.toNat, by omega⟩ (by simp; omega) (by simp; omega)
  have e : ((i.toNat : Nat) : Int) = i := by omega
  have e' : ((j.toNat : Nat) : Int) = j := by omega
  simpa only [e, e'] using h
theorem pos20_fin : ∀ i : Fin 21, 1 ≤ i.val → FloatKind.f64.format.order (f20 i.val) 0 = some .gt ∧ (FloatKind.f64.format.order (f20 i.val) 4607182418800017408 == some .lt || FloatKind.f64.format.order (f20 i.val) 4607182418800017408 == some .eq) = true := by decide +kernel
theorem pos20 (i : Int) (h1 : 1 ≤ i) (h2 : i ≤ 20) : FloatKind.f64.format.order (f20 i) 0 = some .gt ∧ (FloatKind.f64.format.order (f20 i) 4607182418800017408 == some .lt || FloatKind.f64.format.order (f20 i) 4607182418800017408 == some .eq) = true := by
  have h := pos20_fin ⟨i.toNat, by omega⟩ (by simp; omega)
  have e : ((i.toNat : Nat) : Int) = i := by omega
  simpa only [e] using h

theorem ord20_refl (i : Int) (h1 : 1 ≤ i) (h2 : i ≤ 20) : FloatKind.f64.format.order (f20 i) (f20 i) = some .eq := by
  rw [ord20 i i h1 h2 h1 h2]; simp
theorem ord20_gt (i j : Int) (h1 : 1 ≤ j) (h2 : i ≤ 20) (h : j < i) : FloatKind.f64.format.order (f20 i) (f20 j) = some .gt := by
  rw [ord20 i j (by omega) h2 h1 (by omega), Nat.compare_eq_gt.2 (by omega)]
theorem ord20_lt (i j : Int) (h1 : 1 ≤ i) (h2 : j ≤ 20) (h : i < j) : FloatKind.f64.format.order (f20 i) (f20 j) = some .lt := by
  rw [ord20 i j h1 (by omega) (by omega) h2, Nat.compare_eq_lt.2 (by omega)]

/-! ### grid's loop -/
def inG (k : Int) : Bool := decide (1 ≤ k ∧ k ≤ 20)
theorem inG_yes {k : Int} (h1 : 1 ≤ k) (h2 : k ≤ 20) : inG k = true := by simp [inG, h1, h2]
theorem inG_no {k : Int} (h : ¬ (1 ≤ k ∧ k ≤ 20)) : inG k = false := by simpa [inG] using h

/-- The whole numbers k through which grid's loop goes, at most n of them. -/
def gks (step : Int) : Nat → Int → List Int
  | 0, _ => []
  | n + 1, k => if inG k then k :: gks step n (wrap64 (k + step)) else []

/-- How many rounds are left at most. -/
def left (step k : Int) : Nat := if inG k then (if 0 < step then (21 - k).toNat else k.toNat) else 0

theorem left_le (step k : Int) : left step k ≤ 20 := by
  unfold left
  split
  · rename_i h; simp [inG] at h; split <;> omega
  · omega
theorem left_pos (step k : Int) (h1 : 1 ≤ k) (h2 : k ≤ 20) : 1 ≤ left step k := by
  unfold left; rw [inG_yes h1 h2]; simp only [if_true]; split <;> omega
theorem left_step (step k : Int) (h1 : 1 ≤ k) (h2 : k ≤ 20) (h0 : step ≠ 0) (b1 : -9223372036854775808 ≤ step) (b2 : step ≤ 9223372036854775807) :
    left step (wrap64 (k + step)) + 1 ≤ left step k := by
  unfold left
  rw [inG_yes h1 h2]
  simp only [if_true]
  by_cases hin : inG (wrap64 (k + step)) = true
  · rw [hin]
    simp only [if_true]
    simp only [inG, decide_eq_true_eq] at hin
    unfold wrap64 at hin ⊢
    split <;> omega
  · rw [Bool.not_eq_true] at hin
    rw [hin]
    simp only [Bool.false_eq_true, if_false]
    split <;> omega

/-- One round of the loop. -/
theorem gks_step {step k k0 : Int} {d : List Int} (h1 : 1 ≤ k) (h2 : k ≤ 20) (hd : d.length < 20) (h : d ++ gks step (20 - d.length) k = gks step 20 k0) :
    (d ++ [k]) ++ gks step (20 - (d ++ [k]).length) (wrap64 (k + step)) = gks step 20 k0 := by
  rw [← h]
  have e : 20 - d.length = (20 - (d ++ [k]).length) + 1 := by simp; omega
  rw [e]
  simp [gks, inG_yes h1 h2]
/-- Its end. -/
theorem gks_end {step k k0 : Int} {d : List Int} (hk : ¬ (1 ≤ k ∧ k ≤ 20)) (h : d ++ gks step (20 - d.length) k = gks step 20 k0) : d = gks step 20 k0 := by
  have e : ∀ n, gks step n k = [] := by intro n; cases n <;> simp [gks, inG_no hk]
  rw [e, List.append_nil] at h
  exact h

theorem gks_mem {step : Int} : ∀ (n : Nat) (k x : Int), x ∈ gks step n k → 1 ≤ x ∧ x ≤ 20
  | 0, _, _, h => by simp [gks] at h
  | n + 1, k, x, h => by
    unfold gks at h
    split at h
    · rename_i hk
      rcases List.mem_cons.1 h with rfl | h
      · simpa [inG] using hk
      · exact gks_mem n _ x h
    · cases h
theorem gks_len (step : Int) : ∀ (n : Nat) (k : Int), (gks step n k).length ≤ n
  | 0, _ => by simp [gks]
  | n + 1, k => by
    unfold gks
    split
    · simp; exact gks_len step n _
    · simp

theorem gks_out {step k : Int} (hk : ¬ (1 ≤ k ∧ k ≤ 20)) : gks step 20 k = [] := by simp [gks, inG_no hk]
/-- A step of 20 or more leaves the range at once. -/
theorem gks_far {step k : Int} (h1 : 1 ≤ k) (h2 : k ≤ 20) (hs : step ≤ -20 ∨ 20 ≤ step) (b1 : -9223372036854775808 ≤ step) (b2 : step ≤ 9223372036854775807) : gks step 20 k = [k] := by
  have hno : inG (wrap64 (k + step)) = false := inG_no (by unfold wrap64; omega)
  unfold gks
  rw [inG_yes h1 h2]
  simp only [if_true]
  unfold gks
  rw [hno]
  simp

/-! ### The list as FnGridMatchesFilter builds it -/
/-- The j of round i. -/
def jOf (step : Int) (i : Nat) : Int := if step < 0 then 20 - (i : Int) else 1 + (i : Int)
/-- Does round i append? -/
def takes (k step : Int) (i : Nat) : Bool :=
  ((jOf step i - k).tmod step == 0) && ((jOf step i - k == 0) || (decide (k < jOf step i) == decide (0 < step)))
def filt (k step : Int) : Nat → List Int
  | 0 => []
  | i + 1 => if takes k step i then filt k step i ++ [jOf step i] else filt k step i

/-- What the walk's tests say of a round. -/
theorem takes_zero {k step J : Int} {i : Nat} (hj : jOf step i = J) (_h1 : (J - k).tmod step = 0) (h2 : J - k = 0) : takes k step i = true := by
  subst hj; unfold takes; simp [h2]
theorem takes_or {k step J : Int} {i : Nat} (hj : jOf step i = J) (h1 : (J - k).tmod step = 0) (h2 : (J - k == 0) = true ∨ (decide (k < J) == decide (0 < step)) = true) : takes k step i = true := by
  subst hj; unfold takes; rcases h2 with h2 | h2 <;> rw [h1, h2] <;> simp
theorem takes_and {k step J : Int} {i : Nat} (hj : jOf step i = J) (h2 : (J - k == 0) = false ∧ (decide (k < J) == decide (0 < step)) = false) : takes k step i = false := by
  subst hj; unfold takes; rw [h2.1, h2.2]; simp
theorem takes_or' {k step J : Int} {i : Nat} (hp : 0 < step) (hj : jOf step i = J) (h1 : (J - k).tmod step = 0) (h2 : (J - k == 0) = true ∨ k < J) : takes k step i = true := by
  refine takes_or hj h1 ?_
  rcases h2 with h | h
  · exact .inl h
  · exact .inr (by simp [h, hp])
theorem takes_and' {k step J : Int} {i : Nat} (hp : 0 < step) (hj : jOf step i = J) (h2 : (J - k == 0) = false ∧ J ≤ k) : takes k step i = false :=
  takes_and hj ⟨h2.1, by have : ¬ k < J := by omega
                         simp [this, hp]⟩
theorem takes_mod {k step J : Int} {i : Nat} (hj : jOf step i = J) (h1 : ¬ (J - k).tmod step = 0) : takes k step i = false := by
  subst hj; unfold takes; simp [h1]
theorem filt_yes {k step J : Int} {i : Nat} (hj : jOf step i = J) (h : takes k step i = true) : filt k step (i + 1) = filt k step i ++ [J] := by
  rw [filt, if_pos h, hj]
theorem filt_no {k step : Int} {i : Nat} (h : takes k step i = false) : filt k step (i + 1) = filt k step i := by
  rw [filt, h]; simp

theorem filt_len (k step : Int) : ∀ i, (filt k step i).length ≤ i
  | 0 => by simp [filt]
  | i + 1 => by
    have := filt_len k step i
    unfold filt
    split
    · simp; omega
    · omega

theorem filt_near : ∀ k : Fin 21, 1 ≤ k.val → ∀ s : Fin 39, s.val ≠ 19 → filt k.val ((s.val : Int) - 19) 20 = gks ((s.val : Int) - 19) 20 k.val := by decide +kernel

theorem takes_far (k step : Int) (i : Nat) (h1 : 1 ≤ k) (h2 : k ≤ 20) (hs : step ≤ -20 ∨ 20 ≤ step) (hi : i < 20) : takes k step i = decide (jOf step i = k) := by
  have hb : 1 ≤ jOf step i ∧ jOf step i ≤ 20 := by unfold jOf; split <;> omega
  unfold takes
  by_cases e : jOf step i = k
  · rw [e]; simp
  · have hne : (jOf step i - k).tmod step ≠ 0 := by
      intro h
      have hd : step ∣ (jOf step i - k) := Int.dvd_of_tmod_eq_zero h
      have := Int.natAbs_dvd_natAbs.2 hd
      have := Nat.le_of_dvd (by omega) this
      omega
    simp [hne, e]
/-- Round h alone hits k. -/
theorem filt_far (k step : Int) (h : Nat) (h1 : 1 ≤ k) (h2 : k ≤ 20) (hs : step ≤ -20 ∨ 20 ≤ step) (hh : ∀ i : Nat, i < 20 → (jOf step i = k ↔ i = h)) :
    ∀ i : Nat, i ≤ 20 → filt k step i = if h < i then [k] else []
  | 0, _ => by simp [filt]
  | i + 1, hi => by
    have ih := filt_far k step h h1 h2 hs hh i (by omega)
    unfold filt
    rw [takes_far k step i h1 h2 hs (by omega), ih]
    by_cases e : i = h
    · rw [(hh i (by omega)).2 e, if_pos (by simp), if_neg (show ¬ h < i by omega), if_pos (by omega), List.nil_append]
    · have hne : ¬ jOf step i = k := fun x => e ((hh i (by omega)).1 x)
      rw [if_neg (by simpa using hne)]
      by_cases a : h < i
      · rw [if_pos a, if_pos (by omega)]
      · rw [if_neg a, if_neg (by omega)]

/-- THE PLAIN LAW of FnGridMatchesFilter. -/
theorem filt_is (k step : Int) (h1 : 1 ≤ k) (h2 : k ≤ 20) (h0 : step ≠ 0) (b1 : -9223372036854775808 ≤ step) (b2 : step ≤ 9223372036854775807) : filt k step 20 = gks step 20 k := by
  by_cases hs : step ≤ -20 ∨ 20 ≤ step
  · rw [gks_far h1 h2 hs b1 b2, filt_far k step (if step < 0 then (20 - k).toNat else (k - 1).toNat) h1 h2 hs (fun i hi => by unfold jOf; split <;> omega) 20 (by omega), if_pos (by split <;> omega)]
  · have h := filt_near ⟨k.toNat, by omega⟩ (by simp; omega) ⟨(step + 19).toNat, by omega⟩ (by simp; omega)
    have e1 : ((k.toNat : Nat) : Int) = k := by omega
    have e2 : (((step + 19).toNat : Nat) : Int) - 19 = step := by omega
    simpa only [e1, e2] using h

/-! ### FnGridBoundedMonotone -/
theorem mono_near : ∀ k : Fin 21, 1 ≤ k.val → ∀ s : Fin 39, s.val ≠ 19 → ∀ i : Fin 20, i.val + 1 < (gks ((s.val : Int) - 19) 20 k.val).length →
    (if 19 < s.val then (gks ((s.val : Int) - 19) 20 k.val).getD i.val 0 < (gks ((s.val : Int) - 19) 20 k.val).getD (i.val + 1) 0
      else (gks ((s.val : Int) - 19) 20 k.val).getD (i.val + 1) 0 < (gks ((s.val : Int) - 19) 20 k.val).getD i.val 0) := by decide +kernel
theorem mono_is (k step : Int) (i : Nat) (h1 : 1 ≤ k) (h2 : k ≤ 20) (h0 : step ≠ 0) (b1 : -9223372036854775808 ≤ step) (b2 : step ≤ 9223372036854775807) (hi : i + 1 < (gks step 20 k).length) :
    (0 < step → (gks step 20 k).getD i 0 < (gks step 20 k).getD (i + 1) 0) ∧ (step < 0 → (gks step 20 k).getD (i + 1) 0 < (gks step 20 k).getD i 0) := by
  by_cases hs : step ≤ -20 ∨ 20 ≤ step
  · rw [gks_far h1 h2 hs b1 b2] at hi; simp at hi
  · have hl := gks_len step 20 k
    have h := mono_near ⟨k.toNat, by omega⟩ (by simp; omega) ⟨(step + 19).toNat, by omega⟩ (by simp; omega) ⟨i, by omega⟩
    have e1 : ((k.toNat : Nat) : Int) = k := by omega
    have e2 : (((step + 19).toNat : Nat) : Int) - 19 = step := by omega
    simp only [e1, e2] at h
    have h := h hi
    constructor
    · intro hp; rw [if_pos (by omega)] at h; exact h
    · intro hp; rw [if_neg (by omega)] at h; exact h
theorem gks_head {step k : Int} (h1 : 1 ≤ k) (h2 : k ≤ 20) : (gks step 20 k).getD 0 0 = k ∧ 0 < (gks step 20 k).length := by
  simp [gks, inG_yes h1 h2]

end Go.Proofs.Qxb6601956a.Fl
