/-
  The contract of candidates (17) at every Settings, and of ZZCandidates (10).
-/
import Derived.Test.Qxb6601956aHolt
import Derived.Test.Qxb6601956aSplit
namespace Go.Proofs.Qxb6601956a
open Go.RowKit Fl

/-- The candidates; r: what '1 + theta' gave, where theta is fixed. -/
def cands (model : Int) (r al be : Nat) (ft fa fb : Bool) : List (Nat × Nat) :=
  if model = 1 then (if ft then [(r, 0)] else arimaP 99)
  else if model = 2 then holtP (if fa then [al] else downF) (if fb then [be] else upF)
  else [(4607182418800017408, 0)]

theorem cands_len (model : Int) (r al be : Nat) (ft fa fb : Bool) : 1 ≤ (cands model r al be ft fa fb).length ∧ (cands model r al be ft fa fb).length ≤ 400 := by
  unfold cands
  split
  · split
    · simp
    · rw [arimaP_len]; omega
  · split
    · rw [holtP_len]
      cases fa <;> cases fb <;> simp [downF_len, upF_len]
    · simp

/-- r is what '1 + theta' gave wherever that counts. -/
def RFor (model : Int) (ft : Bool) (th r : Nat) : Prop := model = 1 → ft = true → OnePlus th r

theorem cand_any (model : Int) (th al be : Nat) (ft fa fb : Bool) (offset : Int) (w : World) :
    Calls Try.prog 17 #[settings model th al be ft fa fb offset] w fun e w' => ∃ r, RFor model ft th r ∧ CandPost w (cands model r al be ft fa fb) e w' := by
  by_cases h1 : model = 1
  · subst h1
    cases ft with
    | true => exact (cand_fix th al be fa fb offset w).mono fun e w' ⟨r, hr, h⟩ => ⟨r, fun _ _ => hr, by simpa [cands] using h⟩
    | false => exact (cand_arima th al be fa fb offset w).mono fun e w' h => ⟨0, fun _ h => (by cases h), by simpa [cands] using h⟩
  · by_cases h2 : model = 2
    · subst h2
      cases fa <;> cases fb
      · exact (holt_ff th al be ft offset w).mono fun e w' h => ⟨0, fun h => (by cases h), by simpa [cands] using h⟩
      · exact (holt_ft th al be ft offset w).mono fun e w' h => ⟨0, fun h => (by cases h), by simpa [cands] using h⟩
      · exact (holt_tf th al be ft offset w).mono fun e w' h => ⟨0, fun h => (by cases h), by simpa [cands] using h⟩
      · exact (holt_tt th al be ft offset w).mono fun e w' h => ⟨0, fun h => (by cases h), by simpa [cands] using h⟩
    · exact (cand_last model th al be ft fa fb offset w h1 h2).mono fun e w' h => ⟨0, fun h => absurd h h1, by simpa [cands, h1, h2] using h⟩

/-- Two slices of floats handed back. -/
def TwoF (w : World) (xs ys : List Nat) (e : Ending) (w' : World) : Prop :=
  ∃ ga gb n, xs.length = n ∧ ys.length = n ∧ 1 ≤ n ∧ n ≤ 400 ∧ e = .returned (.tuple #[.slice (some ⟨ga, 0, none⟩) n n, .slice (some ⟨gb, 0, none⟩) n n]) ∧ Floats w' ga xs ∧ Floats w' gb ys ∧ Below w.heap.size w w'

set_option maxHeartbeats 400000 in
theorem zzcand_any (model : Int) (th al be : Nat) (ft fa fb : Bool) (offset : Int) (w : World) :
    Calls Try.prog 10 #[.int .i64 model, .float .f64 th, .float .f64 al, .float .f64 be, .bool ft, .bool fa, .bool fb, .int .i64 offset] w fun e w' =>
      ∃ r, RFor model ft th r ∧ TwoF w ((cands model r al be ft fa fb).map Prod.fst) ((cands model r al be ft fa fb).map Prod.snd) e w' := by
  go_enter Try.func10, Try.ntmps10
  go_wp2_with fail
  refine (settings_any model th al be ft fa fb offset _).mono ?_
  rintro e w1 ⟨rfl, hb1⟩
  go_wp2_with fail
  refine (cand_any model th al be ft fa fb offset _).mono ?_
  rintro e w2 ⟨r, hr, g, cap, rfl, hp, hb2⟩
  have hlen := cands_len model r al be ft fa fb
  have hB2 : Below w.heap.size w w2 := hb1.trans (hb2.mono hb1.size)
  go_wp2_with fail
  refine (split_any g _ cap _ _ (by omega) rfl hp).mono ?_
  rintro e w3 ⟨ga, gb, rfl, fa', fb', hb3⟩
  have hB3 : Below w.heap.size w w3 := hB2.trans (hb3.mono hB2.size)
  clear hb1 hb2 hb3 hB2 hp
  go_wp2
  go_ret2
  exact ⟨r, hr, ga, gb, _, List.length_map .., List.length_map .., hlen.1, hlen.2, rfl, fa', fb', hB3⟩
end Go.Proofs.Qxb6601956a
