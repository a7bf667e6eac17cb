/-
  Slices of floats as the walks read them.
-/
import Derived.WalkKit
import Derived.WalkLawsBesides
import Derived.WalkSpells
import Derived.OpenShut
import Derived.BigQuiet
import Derived.Deep.QuietTactic
namespace Go.Proofs.Qxb6601956a
open Go.RowKit

/-- Floats as cells. -/
def flo (xs : List Nat) : List Value := xs.map (Value.float .f64)
theorem flo_len (xs : List Nat) : (flo xs).length = xs.length := by simp [flo]

/-- The j-th float. -/
def atN (xs : List Nat) (j : Nat) : Nat := xs.getD j 0

/-- Block g holds the floats xs. -/
def Floats (w : World) (g : Nat) (xs : List Nat) : Prop := g < w.heap.size ∧ ∀ j, j < xs.length → w.cell? ⟨g, j, none⟩ = some (.float .f64 (atN xs j))

theorem Floats.at {w : World} {g : Nat} {xs : List Nat} (h : Floats w g xs) {j : Nat} (hj : j < xs.length) : w.cell? ⟨g, j, none⟩ = some (.float .f64 (atN xs j)) := h.2 j hj

theorem Floats.of_owns {w : World} {base g n cap : Nat} {xs : List Nat} (h : w.ownsRow base 24 1 (.slice (some ⟨g, 0, none⟩) n cap) n (flo xs)) : Floats w g xs := by
  have hl : xs.length = n := by have := h.1; simpa [flo] using this
  refine ⟨(h.lt g rfl).2, fun j hj => ?_⟩
  rw [h.cellAt j (by omega)]
  simp [flo, atN, hj]

theorem Floats.below {w w' : World} {B g : Nat} {xs : List Nat} (h : Floats w g xs) (hb : Below B w w') (hg : g < B) : Floats w' g xs :=
  ⟨Nat.lt_of_lt_of_le h.1 hb.size, fun j hj => (hb.cell (p := ⟨g, j, none⟩) hg).trans (h.2 j hj)⟩
theorem Floats.below' {w w' : World} {g : Nat} {xs : List Nat} (h : Floats w g xs) (hb : Below w.heap.size w w') : Floats w' g xs := h.below hb h.1
theorem Floats.drew {w : World} {g : Nat} {xs : List Nat} (h : Floats w g xs) : Floats w.drew g xs := h
theorem Floats.drewN {w : World} {g : Nat} {xs : List Nat} (h : Floats w g xs) (n : Nat) : Floats (w.drewN n) g xs := h
theorem Floats.grown {w w' : World} {g : Nat} {row : Option Nat} {xs : List Nat} (h : Floats w g xs) (hg : w.grownBy w' row) (hr : some g ≠ row) : Floats w' g xs :=
  ⟨Nat.lt_of_lt_of_le h.1 hg.size, fun j hj => hg.cell (h.2 j hj) hr⟩

/-- A store of a float: the kit's laws name integers, bools, strings, slices, pointers. -/
theorem store_float (P : Program) (w : World) (a : Addr) (m : Mode) (k : FloatKind) (b : Nat) : (store a (.float k b) m).run P w = stored P w a (.float k b) m := run_store P w a _ m rfl

/-- w' is w but for draws. -/
def Drawn (w w' : World) : Prop := ∃ q, w' = w.drewN q
theorem Drawn.refl (w : World) : Drawn w w := ⟨0, rfl⟩
theorem Drawn.drewN {w w' : World} (h : Drawn w w') (n : Nat) : Drawn w (w'.drewN n) := by
  obtain ⟨q, rfl⟩ := h; exact ⟨q + n, by rw [World.drewN_drewN]⟩
theorem Drawn.trans {a b c : World} (h : Drawn a b) (h' : Drawn b c) : Drawn a c := by
  obtain ⟨q, rfl⟩ := h'; exact h.drewN q
theorem Drawn.floats {w w' : World} (h : Drawn w w') {g : Nat} {xs : List Nat} (hx : Floats w g xs) : Floats w' g xs := by
  obtain ⟨q, rfl⟩ := h; exact hx
theorem Drawn.below {w w' : World} (h : Drawn w w') (B : Nat) : Below B w w' := by
  obtain ⟨q, rfl⟩ := h; exact below_drewN (Below.refl _ _) q

theorem one_new (w : World) (v : Value) (t : TypeId) : ∀ j u, [v][j]? = some u → (w.alloc (.cells #[v] t)).cell? ((⟨w.heap.size, 0, none⟩ : Addr).add j) = some u := by
  intro j u hj
  match j, hj with
  | 0, hj => simp at hj; subst hj; simp [Addr.add]
theorem one_cell (b : Nat) : ∀ u ∈ [Value.float .f64 b], u.oneCell' = true := by
  intro u hu; simp at hu; subst hu; rfl

end Go.Proofs.Qxb6601956a
