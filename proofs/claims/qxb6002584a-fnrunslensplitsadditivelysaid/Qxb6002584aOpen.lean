/-
  The argument, a slice of pairs of int64, opened.
-/
import Derived.Test.Qxb6002584aLaws
import Derived.Deep.SlicePairs
import Derived.ChangeArms
import Derived.ProofKit
namespace Go.Proofs.Qxb6002584a
open Go.ChangeShapes Go.WideShapes Go.ChangeAt Go.RowKit Go.Deep

theorem Try.cells31 : Try.prog.cellsOf 31 = 2 := by kernel_rfl
theorem Try.cells2 : Try.prog.cellsOf 2 = 1 := by kernel_rfl

theorem spans_open {H : Type} {enc : TypeId × Value → H} {w : World} {base : Nat} {spare : Nat → Bool} {held : Bool} {a : Option Addr} {len cap : Nat} {d : DataW H} {ps : List MemPlace}
    (h : DataW.Trod enc Try.prog w base spare held 22 (.slice a len cap) d ps) : ∃ F L, IsSpans w a len cap F L := by
  obtain ⟨fuel, hf⟩ := h
  rcases open_slice_pairs Try.underlying22 Try.underlying31 Try.cells31 rfl rfl Try.cells2 Try.cells2 hf with ⟨hcs, _⟩ | ⟨x, len', cap', m, n, V0, V1, D0, D1, P0, P1, hcs, _, hl, hm, hmm, _, hc⟩
  · simp only [Value.cells, List.cons.injEq, Value.slice.injEq, and_true] at hcs
    exact ⟨fun _ => 0, fun _ => 0, .inl hcs⟩
  · simp only [Value.cells, List.cons.injEq, Value.slice.injEq, and_true] at hcs
    obtain ⟨rfl, rfl, rfl⟩ := hcs
    by_cases h0 : len = 0
    · exact ⟨fun _ => 0, fun _ => 0, .inr (.inl ⟨x, rfl, h0⟩)⟩
    · have hlm : len ≤ m := by rw [hmm]; split <;> omega
      obtain ⟨b, off, spot⟩ := x
      have hspot : spot = none := by simpa [Addr.add] using World.cell?_spot (hc 0 (by omega)).1
      subst hspot
      refine ⟨fun i => intOf (V0 i), fun i => intOf (V1 i), .inr (.inr ⟨b, off, rfl, by omega, ?_, fun j hj => ?_⟩)⟩
      · exact World.block_lt_of_cell? w _ (hc 0 (by omega)).1
      · obtain ⟨c0, c1, t0, t1⟩ := hc j (by omega)
        obtain ⟨z0, e0, _, _⟩ := DataW.trod_int Try.underlying2 t0
        obtain ⟨z1, e1, _, _⟩ := DataW.trod_int Try.underlying2 t1
        simp only [List.cons.injEq, and_true] at e0 e1
        rw [Go.WideShapes.add_plain] at c0 c1
        rw [e0] at c0
        rw [e1] at c1
        simp only [e0, e1, intOf]
        exact ⟨c0, c1⟩
end Go.Proofs.Qxb6002584a
