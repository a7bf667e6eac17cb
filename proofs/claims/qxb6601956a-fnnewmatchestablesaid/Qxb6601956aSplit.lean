/-
  The contract of zzSplit (16).
-/
import Derived.Test.Qxb6601956aCand
namespace Go.Proofs.Qxb6601956a
open Go.RowKit Fl
attribute [local go_sem] store_float

theorem atN_fst (ps : List (Nat × Nat)) (j : Nat) : atN (ps.map Prod.fst) j = pA ps j := by
  by_cases h : j < ps.length
  · simp [atN, pA, h]
  · simp [atN, pA, h]
theorem atN_snd (ps : List (Nat × Nat)) (j : Nat) : atN (ps.map Prod.snd) j = pB ps j := by
  by_cases h : j < ps.length
  · simp [atN, pB, h]
  · simp [atN, pB, h]

/-- Of a row of floats the first k are laid. -/
def Laid (f : Nat → Nat) (xs : List Value) (k : Nat) : Prop := ∀ j, j < k → xs[j]? = some (.float .f64 (f j))
theorem Laid.step {f : Nat → Nat} {xs : List Value} {k : Nat} (h : Laid f xs k) (hl : k < xs.length) : Laid f (xs.set k (.float .f64 (f k))) (k + 1) := by
  intro j hj
  by_cases e : j = k
  · subst e; rw [List.getElem?_set_self hl]
  · rw [List.getElem?_set_ne (by omega)]; exact h j (by omega)
theorem Laid.floats {w : World} {B g n cap : Nat} {xs : List Value} {f : Nat → Nat} {l : List Nat} (h : Laid f xs n) (hown : w.ownsRow B 24 1 (.slice (some ⟨g, 0, none⟩) n cap) n xs) (hl : l.length = n) (hf : ∀ j, j < n → atN l j = f j) : Floats w g l := by
  refine ⟨(hown.lt g rfl).2, fun j hj => ?_⟩
  rw [hown.cellAt j (by omega), h j (by omega), hf j (by omega)]

/-- A row and a store into another. -/
theorem owns_other {w : World} {B g g' k n cap : Nat} {xs : List Value} {u : Value} (h : w.ownsRow B 24 1 (.slice (some ⟨g, 0, none⟩) n cap) n xs) (hg : w.grownBy (w.setCell ⟨g', k, none⟩ u) (some g')) (hne : g ≠ g') :
    (w.setCell ⟨g', k, none⟩ u).ownsRow B 24 1 (.slice (some ⟨g, 0, none⟩) n cap) n xs :=
  h.kept hg (.inr (by simpa [Value.ownBlock] using hne))

/-- One round of two stores into two rows. -/
theorem two_rows {w : World} {B B' ga gb n : Nat} {xs ys : List Value} (ha : w.ownsRow B 24 1 (.slice (some ⟨ga, 0, none⟩) n n) n xs) (hb : w.ownsRow B' 24 1 (.slice (some ⟨gb, 0, none⟩) n n) n ys) (hne : ga ≠ gb) (k : Nat) (u v : Value) :
    ((w.setCell ⟨ga, k, none⟩ u).setCell ⟨gb, k, none⟩ v).ownsRow B 24 1 (.slice (some ⟨ga, 0, none⟩) n n) n (xs.set k u) ∧
    ((w.setCell ⟨ga, k, none⟩ u).setCell ⟨gb, k, none⟩ v).ownsRow B' 24 1 (.slice (some ⟨gb, 0, none⟩) n n) n (ys.set k v) := by
  obtain ⟨a1, g1⟩ := ha.stored k u
  have b1 := owns_other hb g1 (fun e => hne e.symm)
  obtain ⟨b2, g2⟩ := b1.stored k v
  exact ⟨owns_other a1 g2 hne, b2⟩

set_option maxHeartbeats 1000000 in
theorem split_any (g n cap : Nat) (ps : List (Nat × Nat)) (w : World) (hn : n ≤ 65536) (hl : ps.length = n) (hp : PF w g ps) :
    Calls Try.prog 16 #[.slice (some ⟨g, 0, none⟩) n cap] w fun e w' =>
      ∃ ga gb, e = .returned (.tuple #[.slice (some ⟨ga, 0, none⟩) n n, .slice (some ⟨gb, 0, none⟩) n n]) ∧ Floats w' ga (ps.map Prod.fst) ∧ Floats w' gb (ps.map Prod.snd) ∧ Below w.heap.size w w' := by
  obtain ⟨i0, hi, hz0, hz1, hz2⟩ := info_parts Try.info24
  have HL : Hid (ps.length = n) := hl
  clear hl
  go_enter Try.func16, Try.ntmps16
  go_wp2_with (first
    | (at_make; refine wpList_make_full _ rfl (.tmp 8) (.tmp 8) 22 rfl w.heap.size 24 i0 _ 1 Try.underlying22 hi hz0 hz1 _ _ _ _ n rfl rfl rfl rfl (by rw [hz2]; omega) (by unfold maxLen; omega) (Nat.le_refl _) ?_; intro w1 hown1 hgrow1)
    | (at_make; refine wpList_make_full _ rfl (.tmp 11) (.tmp 11) 22 rfl w1.heap.size 24 i0 _ 1 Try.underlying22 hi hz0 hz1 _ _ _ _ n rfl rfl rfl rfl (by rw [hz2]; omega) (by unfold maxLen; omega) (Nat.le_refl _) ?_; intro w2 hown2 hgrow2))
  have h1 : w.heap.size < w1.heap.size := (hown1.lt _ rfl).2
  have hB1 : Below w.heap.size w w1 := (Below.refl _ _).grown hgrow1 (Nat.le_refl _) (fun k h => by cases h)
  have hB2 : Below w.heap.size w w2 := hB1.grown hgrow2 hB1.size (fun k h => by cases h)
  have hownA := hown1.kept hgrow2 (.inr (by simp [Value.ownBlock]))
  clear hown1 hgrow1 hgrow2 hB1
  go_loopw [15] (fun iv wr => ∃ (k : Nat) (xs ys : List Value), k ≤ n ∧ iv = .int .i64 k ∧ wr.ownsRow w.heap.size 24 1 (.slice (some ⟨w.heap.size, 0, none⟩) n n) n xs ∧
      wr.ownsRow w1.heap.size 24 1 (.slice (some ⟨w1.heap.size, 0, none⟩) n n) n ys ∧ Laid (pA ps) xs k ∧ Laid (pB ps) ys k ∧ Below w.heap.size w wr) (fun iv _ => n - (intOf iv).toNat)
  case atStart => exact ⟨0, _, _, Nat.zero_le _, rfl, hownA, hown2, fun j hj => by omega, fun j hj => by omega, hB2⟩
  case round =>
    obtain ⟨k, xs, ys, hk, rfl, hA, hB, lA, lB, hb⟩ := hrel
    clear hownA hown2
    by_cases hlt : k < n
    · obtain ⟨c1, c2⟩ := (hp.below hb hp.1).2 k (by rw [HL.out]; exact hlt)
      have f1 := hA.frozenAt k
      have f2 := hB.frozenAt k
      have e1 := hA.cellAt k (by omega)
      have e2 := hB.cellAt k (by omega)
      have l1 := hA.1
      have l2 := hB.1
      have n1 : k < xs.length := by omega
      have n2 : k < ys.length := by omega
      rw [List.getElem?_eq_getElem n1] at e1
      rw [List.getElem?_eq_getElem n2] at e2
      have hg : g < w.heap.size := hp.1
      have hne1 : ¬ w.heap.size = g := by omega
      have hne2 : ¬ w1.heap.size = g := by omega
      have hne3 : ¬ w.heap.size = w1.heap.size := by omega
      go_wp2
      obtain ⟨hA', hB'⟩ := two_rows hA hB (by omega) k (.float .f64 (pA ps k)) (.float .f64 (pB ps k))
      go_roundw
      case rel => exact ⟨k + 1, _, _, by omega, by go_num, hA', hB', lA.step n1, lB.step n2, (hb.setCell (Nat.le_refl _) _).setCell (by simp; omega) _⟩
      case measure => simp [intOf]; omega
    · obtain rfl : k = n := by omega
      go_wp2
      go_ret2
      exact ⟨_, _, rfl, lA.floats hA (by rw [List.length_map]; exact HL.out) (fun j _ => atN_fst ps j), lB.floats hB (by rw [List.length_map]; exact HL.out) (fun j _ => atN_snd ps j), hb⟩
end Go.Proofs.Qxb6601956a
