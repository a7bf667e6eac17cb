/-
  Slices of pairs of floats as the walks read them; the lists of candidates, plain.
-/
import Derived.Test.Qxb6601956aMem
import Derived.Test.Qxb6601956aFl
import Derived.Test.Qxb6601956aFn
namespace Go.Proofs.Qxb6601956a
open Go.RowKit Fl

/-- Pairs of floats as cells. -/
def prs (ps : List (Nat × Nat)) : List Value := ps.flatMap fun p => [Value.float .f64 p.1, Value.float .f64 p.2]
def pA (ps : List (Nat × Nat)) (j : Nat) : Nat := (ps.getD j (0, 0)).1
def pB (ps : List (Nat × Nat)) (j : Nat) : Nat := (ps.getD j (0, 0)).2

theorem prs_len : ∀ ps : List (Nat × Nat), (prs ps).length = ps.length * 2
  | [] => rfl
  | p :: ps => by
    have := prs_len ps
    simp only [prs, List.flatMap_cons, List.length_append, List.length_cons, List.length_nil] at this ⊢
    omega
theorem prs_cons (p : Nat × Nat) (ps : List (Nat × Nat)) : prs (p :: ps) = Value.float .f64 p.1 :: Value.float .f64 p.2 :: prs ps := by
  simp [prs]
theorem prs_append (ps qs : List (Nat × Nat)) : prs (ps ++ qs) = prs ps ++ prs qs := by simp [prs]
theorem prs_at : ∀ (ps : List (Nat × Nat)) (j : Nat), j < ps.length → (prs ps)[j * 2]? = some (.float .f64 (pA ps j)) ∧ (prs ps)[j * 2 + 1]? = some (.float .f64 (pB ps j))
  | [], j, h => by simp at h
  | p :: ps, 0, _ => by rw [prs_cons]; simp [pA, pB]
  | p :: ps, j + 1, h => by
    have ih := prs_at ps j (by simpa using h)
    rw [prs_cons, show (j + 1) * 2 = j * 2 + 1 + 1 by omega]
    simpa [pA, pB] using ih
theorem prs_oneCell : ∀ (ps : List (Nat × Nat)), ∀ u ∈ prs ps, u.oneCell' = true := by
  intro ps u hu
  simp only [prs, List.mem_flatMap, List.mem_cons, List.not_mem_nil, or_false] at hu
  obtain ⟨p, _, rfl | rfl⟩ := hu <;> rfl

/-- Block g holds the pairs ps. -/
def PF (w : World) (g : Nat) (ps : List (Nat × Nat)) : Prop :=
  g < w.heap.size ∧ ∀ j, j < ps.length → w.cell? ⟨g, j * 2, none⟩ = some (.float .f64 (pA ps j)) ∧ w.cell? ⟨g, j * 2 + 1, none⟩ = some (.float .f64 (pB ps j))
theorem PF.of_owns {w : World} {base g n cap : Nat} {ps : List (Nat × Nat)} (h : w.ownsRow base 45 2 (.slice (some ⟨g, 0, none⟩) n cap) n (prs ps)) : PF w g ps := by
  have hl : ps.length * 2 = n * 2 := by rw [← prs_len]; exact h.1
  refine ⟨(h.lt g rfl).2, fun j hj => ?_⟩
  rw [h.cellAt (j * 2) (by omega), h.cellAt (j * 2 + 1) (by omega)]
  exact prs_at ps j hj
theorem PF.below {w w' : World} {B g : Nat} {ps : List (Nat × Nat)} (h : PF w g ps) (hb : Below B w w') (hg : g < B) : PF w' g ps :=
  ⟨Nat.lt_of_lt_of_le h.1 hb.size, fun j hj => ⟨(hb.cell (p := ⟨g, j * 2, none⟩) hg).trans (h.2 j hj).1, (hb.cell (p := ⟨g, j * 2 + 1, none⟩) hg).trans (h.2 j hj).2⟩⟩
theorem PF.below' {w w' : World} {g : Nat} {ps : List (Nat × Nat)} (h : PF w g ps) (hb : Below w.heap.size w w') : PF w' g ps := h.below hb h.1

/-- Two or one pair, as new cells. -/
theorem two_new (w : World) (a b c d : Value) (t : TypeId) : ∀ j u, [a, b, c, d][j]? = some u → (w.alloc (.cells #[a, b, c, d] t)).cell? ((⟨w.heap.size, 0, none⟩ : Addr).add j) = some u := by
  intro j u hj
  match j, hj with
  | 0, hj => simp at hj; subst hj; simp [Addr.add]
  | 1, hj => simp at hj; subst hj; simp [Addr.add]
  | 2, hj => simp at hj; subst hj; simp [Addr.add]
  | 3, hj => simp at hj; subst hj; simp [Addr.add]
theorem pair_new (w : World) (a b : Value) (t : TypeId) : ∀ j u, [a, b][j]? = some u → (w.alloc (.cells #[a, b] t)).cell? ((⟨w.heap.size, 0, none⟩ : Addr).add j) = some u := by
  intro j u hj
  match j, hj with
  | 0, hj => simp at hj; subst hj; simp [Addr.add]
  | 1, hj => simp at hj; subst hj; simp [Addr.add]

/-! ### The candidates -/
def one : Nat := 4607182418800017408
/-- ARIMA011's, after k rounds. -/
def arimaP : Nat → List (Nat × Nat)
  | 0 => [(4607182418800017408, 0)]
  | k + 1 => arimaP k ++ [(f100 (100 - ((k + 1 : Nat) : Int)), 0), (f100 (100 + ((k + 1 : Nat) : Int)), 0)]
theorem arimaP_len : ∀ k, (arimaP k).length = 2 * k + 1
  | 0 => rfl
  | k + 1 => by simp [arimaP, arimaP_len k]; omega
/-- Holt's. -/
def holtP (as bs : List Nat) : List (Nat × Nat) := as.flatMap fun a => bs.map fun b => (a, b)
theorem holtP_len (as bs : List Nat) : (holtP as bs).length = as.length * bs.length := by
  induction as with
  | nil => simp [holtP]
  | cons a as ih =>
    simp only [holtP, List.flatMap_cons, List.length_append, List.length_map, List.length_cons] at ih ⊢
    rw [ih, Nat.succ_mul]; omega
/-- i whole rounds and j of the next. -/
def holtPart (as bs : List Nat) (i j : Nat) : List (Nat × Nat) := holtP (as.take i) bs ++ (bs.take j).map fun b => (as.getD i 0, b)
theorem holtPart_len (as bs : List Nat) (i j : Nat) (hi : i ≤ as.length) (hj : j ≤ bs.length) : (holtPart as bs i j).length = i * bs.length + j := by
  simp [holtPart, holtP_len, Nat.min_eq_left hi, Nat.min_eq_left hj]
theorem holtPart_step (as bs : List Nat) (i j : Nat) (hj : j < bs.length) : holtPart as bs i j ++ [(atN as i, atN bs j)] = holtPart as bs i (j + 1) := by
  unfold holtPart
  rw [List.take_succ_eq_append_getElem hj, List.map_append, List.append_assoc]
  simp [atN, hj]
theorem holtPart_next (as bs : List Nat) (i : Nat) (hi : i < as.length) : holtPart as bs i bs.length = holtPart as bs (i + 1) 0 := by
  unfold holtPart holtP
  rw [List.take_succ_eq_append_getElem hi, List.take_length, List.flatMap_append]
  simp [hi]
theorem holtPart_end (as bs : List Nat) : holtPart as bs as.length 0 = holtP as bs := by simp [holtPart]

end Go.Proofs.Qxb6601956a
