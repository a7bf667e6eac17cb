/-
  The contract of New (20).
-/
import Derived.Test.Qxb6601956aZZ
import Derived.Deep.RegionWith
namespace Go.Proofs.Qxb6601956a
open Go.RowKit Fl
attribute [local go_sem] store_float

/-- The eight cells of a Model that New has made. -/
def ModelAt (w : World) (gm : Nat) (v0 : Value) (offset : Int) (a b : Nat) (win : Value) : Prop :=
  gm < w.heap.size ∧ w.cell? ⟨gm, 0, none⟩ = some v0 ∧ w.cell? ⟨gm, 1, none⟩ = some (.int .i64 offset) ∧ w.cell? ⟨gm, 2, none⟩ = some (.float .f64 a) ∧ w.cell? ⟨gm, 3, none⟩ = some (.float .f64 b) ∧
    w.cell? ⟨gm, 4, none⟩ = some (.float .f64 0) ∧ w.cell? ⟨gm, 5, none⟩ = some (.float .f64 0) ∧ w.cell? ⟨gm, 6, none⟩ = some (.int .i64 0) ∧ w.cell? ⟨gm, 7, none⟩ = some win

theorem modelAt_lit (w : World) (v0 : Value) (offset : Int) (a b : Nat) (win : Value) :
    ModelAt (w.alloc (.cells #[v0, .int .i64 offset, .float .f64 a, .float .f64 b, .float .f64 0, .float .f64 0, .int .i64 0, win] 49)) w.heap.size v0 offset a b win := by
  simp [ModelAt]

theorem ModelAt.grown {w w' : World} {gm : Nat} {v0 win : Value} {offset : Int} {a b : Nat} (h : ModelAt w gm v0 offset a b win) (hg : w.grownBy w' none) : ModelAt w' gm v0 offset a b win := by
  obtain ⟨h0, h1, h2, h3, h4, h5, h6, h7, h8⟩ := h
  exact ⟨Nat.lt_of_lt_of_le h0 hg.size, hg.cell h1 (by simp), hg.cell h2 (by simp), hg.cell h3 (by simp), hg.cell h4 (by simp), hg.cell h5 (by simp), hg.cell h6 (by simp), hg.cell h7 (by simp), hg.cell h8 (by simp)⟩
theorem ModelAt.window {w : World} {gm : Nat} {v0 win : Value} {offset : Int} {a b : Nat} (h : ModelAt w gm v0 offset a b win) (win' : Value) : ModelAt (w.setCell ⟨gm, 7, none⟩ win') gm v0 offset a b win' := by
  obtain ⟨h0, h1, h2, h3, h4, h5, h6, h7, h8⟩ := h
  have other : ∀ (j : Nat) (v : Value), j ≠ 7 → w.cell? ⟨gm, j, none⟩ = some v → (w.setCell ⟨gm, 7, none⟩ win').cell? ⟨gm, j, none⟩ = some v := by
    intro j v hj hv
    rw [World.cell?_setCell_other _ _ _ _ (fun e => hj (congrArg Addr.off e).symm)]
    exact hv
  exact ⟨by simpa [World.setCell] using h0, other 0 _ (by omega) h1, other 1 _ (by omega) h2, other 2 _ (by omega) h3, other 3 _ (by omega) h4, other 4 _ (by omega) h5, other 5 _ (by omega) h6, other 6 _ (by omega) h7, World.cell?_setCell_same w _ win' h8⟩
theorem ModelAt.below {w w' : World} {B gm : Nat} {v0 win : Value} {offset : Int} {a b : Nat} (h : ModelAt w gm v0 offset a b win) (hb : Below B w w') (hg : gm < B) : ModelAt w' gm v0 offset a b win := by
  obtain ⟨h0, h1, h2, h3, h4, h5, h6, h7, h8⟩ := h
  have c : ∀ (j : Nat) (v : Value), w.cell? ⟨gm, j, none⟩ = some v → w'.cell? ⟨gm, j, none⟩ = some v := fun j v hv => (hb.cell (p := ⟨gm, j, none⟩) hg).trans hv
  exact ⟨Nat.lt_of_lt_of_le h0 hb.size, c _ _ h1, c _ _ h2, c _ _ h3, c _ _ h4, c _ _ h5, c _ _ h6, c _ _ h7, c _ _ h8⟩
theorem lit_frozen (w w3 : World) (c : Array Value) (t : TypeId) (hg : (w.alloc (.cells c t)).grownBy w3 none) (j : Nat) : w3.frozen? ⟨w.heap.size, j, none⟩ = false := by
  rw [World.frozen?_of_block (w := w.alloc (.cells c t)) (hg.block w.heap.size (by simp) (by simp))]
  exact frozen_of_row _ _ _ _ _ (heap_alloc_new w _)

/-- What New gives. -/
def NewPost (w : World) (offset : Int) (ps : List (Nat × Nat)) (e : Ending) (w' : World) : Prop :=
  ∃ gm g cap win, e = .returned (.pointer (some ⟨gm, 0, none⟩)) ∧ ModelAt w' gm (.slice (some ⟨g, 0, none⟩) ps.length cap) offset (pA ps 0) (pB ps 0) win ∧
    (ps.length = 1 → win = .slice none 0 0) ∧ (1 < ps.length → ∃ gw, win = .slice (some ⟨gw, 0, none⟩) 0 1500) ∧ PF w' g ps ∧ Below w.heap.size w w'

set_option maxHeartbeats 1000000 in
theorem new_any (model : Int) (th al be : Nat) (ft fa fb : Bool) (offset : Int) (w : World) :
    Calls Try.prog 20 #[settings model th al be ft fa fb offset] w fun e w' => ∃ r, RFor model ft th r ∧ NewPost w offset (cands model r al be ft fa fb) e w' := by
  obtain ⟨i0, hi, hz0, hz1, hz2⟩ := info_parts Try.info24
  unfold settings
  go_enter Try.func20, Try.ntmps20
  go_wp2
  go_region_with (go_at_call 17; refine (cand_any model th al be ft fa fb offset _).mono ?_; rintro e w2 ⟨r, hr, g, cap, rfl, hp, hb2⟩; have c7 : w2.cell? ⟨w.heap.size, 7, none⟩ = some (.int .i64 offset) := (hb2.cell (p := ⟨w.heap.size, 7, none⟩) (by simp)).trans (by simp))
  all_goals
    have hlen := cands_len model r al be ft fa fb
    obtain ⟨d0, d1⟩ := hp.2 0 (by omega)
    simp only [Nat.zero_mul, Nat.zero_add] at d0 d1
    have hg : g < w2.heap.size := hp.1
    have hB2 : Below w.heap.size w w2 := (((Below.refl _ _).alloc (Nat.le_refl _) _).drew).trans (hb2.mono (by simp))
    clear c7 hb2
    obtain ⟨ps, hps⟩ : ∃ ps, ps = cands model r al be ft fa fb := ⟨_, rfl⟩
    rw [← hps] at hlen d0 d1 hp ⊢
    have HPS := hide hps
    clear hps
    obtain ⟨n, hn⟩ : ∃ n, n = ps.length := ⟨_, rfl⟩
    rw [← hn] at hlen ⊢
    have HN := hide hn
    clear hn
    obtain ⟨l1, l2⟩ := hlen
    by_cases h1 : n = 1
    · subst h1
      go_wp2
      go_ret
      have he := HN.out
      have hpe := HPS.out
      refine ⟨r, hr, w2.heap.size, g, cap, .slice none 0 0, rfl, ?_, fun _ => rfl, fun h => ?_, ?_, ?_⟩
      · rw [← hpe, ← he]; exact modelAt_lit _ _ _ _ _ _
      · rw [← hpe, ← he] at h; omega
      · rw [← hpe]; exact hp.below ((Below.refl _ _).alloc (Nat.le_refl _) _) hg
      · exact hB2.alloc hB2.size _
    · have hlt : (1 : Int) < (n : Int) := by omega
      go_wp2_with (at_make; refine wpList_make_own _ rfl _ _ 22 rfl (w2.heap.size + 1) 24 i0 _ 1 Try.underlying22 hi hz0 hz1 _ _ _ 1500 rfl rfl rfl (by rw [hz2]; omega) (by unfold maxLen; omega) (by simp) ?_; intro w3 hown3 hgrow3; have hm3 := (modelAt_lit _ _ _ _ _ _).grown hgrow3; have f7 := lit_frozen _ _ _ _ hgrow3 7; have c7 := hm3.2.2.2.2.2.2.2.2)
      go_ret
      have he := HN.out
      have hpe := HPS.out
      refine ⟨r, hr, w2.heap.size, g, cap, .slice (some ⟨w2.heap.size + 1, 0, none⟩) 0 1500, rfl, ?_, fun h => ?_, fun _ => ⟨_, rfl⟩, ?_, ?_⟩
      · rw [← hpe, ← he]; exact hm3.window _
      · rw [← hpe, ← he] at h; omega
      · rw [← hpe]
        exact ((hp.below ((Below.refl _ _).alloc (Nat.le_refl _) _) hg).below ((Below.refl w2.heap.size _).grown hgrow3 (by simp) (fun k h => by cases h)) hg).below ((Below.refl w2.heap.size _).setCell (Nat.le_refl _) _) hg
      · exact ((hB2.alloc hB2.size _).grown hgrow3 (by simp; have := hB2.size; omega) (fun k h => by cases h)).setCell hB2.size _
end Go.Proofs.Qxb6601956a
