/-
  FnCandidatesNonEmptyDistinctInRange (6): the plain law, and the walk at every Settings.
-/
import Derived.Test.Qxb6601956aDist
import Derived.Test.Qxb6601956aTable
namespace Go.Proofs.Qxb6601956a
open Go.RowKit Fl

theorem downF_ix : downF = byIx 20 dn := downs
theorem upF_ix : upF = byIx 20 up := ups

/-- The lists of each case, by index. -/
theorem cands_fix (r al be : Nat) (fa fb : Bool) : cands 1 r al be true fa fb = [(r, 0)] := by simp [cands]
theorem cands_free_eq (r al be : Nat) (fa fb : Bool) : cands 1 r al be false fa fb = arimaP 99 := by
  unfold cands; rw [if_pos rfl, if_neg (by decide)]
theorem cands_holt_eq (r al be : Nat) (ft fa fb : Bool) : cands 2 r al be ft fa fb = holtP (if fa then [al] else downF) (if fb then [be] else upF) := by
  unfold cands; rw [if_neg (by decide), if_pos rfl]
theorem cands_free (r al be : Nat) (fa fb : Bool) : (cands 1 r al be false fa fb).map Prod.fst = byIx 199 (fun i => f100 (am i)) ∧ (cands 1 r al be false fa fb).map Prod.snd = byIx 199 fun _ => 0 := by
  rw [cands_free_eq]
  exact ⟨arima_fst, arima_snd⟩
theorem cands_ff (r al be : Nat) (ft : Bool) : (cands 2 r al be ft false false).map Prod.fst = byIx 400 (fun i => dn (i / 20)) ∧ (cands 2 r al be ft false false).map Prod.snd = byIx 400 fun i => up (i % 20) := by
  rw [cands_holt_eq, if_neg (by decide), if_neg (by decide), downF_ix, upF_ix, byIx, byIx, holt_map]
  exact ⟨fst_ix _ _ _, snd_ix _ _ _⟩
theorem cands_ft (r al be : Nat) (ft : Bool) : (cands 2 r al be ft false true).map Prod.fst = byIx 20 dn ∧ (cands 2 r al be ft false true).map Prod.snd = byIx 20 fun _ => be := by
  rw [cands_holt_eq, if_neg (by decide), if_pos rfl, downF_ix, byIx, holt_left]
  exact ⟨fst_ix _ _ _, snd_ix _ _ _⟩
theorem cands_tf (r al be : Nat) (ft : Bool) : (cands 2 r al be ft true false).map Prod.fst = byIx 20 (fun _ => al) ∧ (cands 2 r al be ft true false).map Prod.snd = byIx 20 up := by
  rw [cands_holt_eq, if_pos rfl, if_neg (by decide), upF_ix, byIx, holt_right]
  exact ⟨fst_ix _ _ _, snd_ix _ _ _⟩
theorem cands_tt (r al be : Nat) (ft : Bool) : cands 2 r al be ft true true = [(al, be)] := by
  simp [cands, holtP]
theorem cands_last (model : Int) (r al be : Nat) (ft fa fb : Bool) (h1 : ¬ model = 1) (h2 : ¬ model = 2) : cands model r al be ft fa fb = [(4607182418800017408, 0)] := by
  simp [cands, h1, h2]

theorem dn_rng (i : Nat) (h : i < 20) : (1 : Int) ≤ 20 - (i : Int) ∧ 20 - (i : Int) ≤ 20 := by omega
theorem up_rng (i : Nat) (h : i < 20) : (1 : Int) ≤ (i : Int) + 1 ∧ (i : Int) + 1 ≤ 20 := by omega
theorem dn_ne (i j : Nat) (hi : i < 20) (hj : j < 20) (h : i ≠ j) : (FloatKind.f64.format.order (dn i) (dn j) == some .eq) = false :=
  f20_ne _ _ (dn_rng i hi).1 (dn_rng i hi).2 (dn_rng j hj).1 (dn_rng j hj).2 (by omega)
theorem up_ne (i j : Nat) (hi : i < 20) (hj : j < 20) (h : i ≠ j) : (FloatKind.f64.format.order (up i) (up j) == some .eq) = false :=
  f20_ne _ _ (up_rng i hi).1 (up_rng i hi).2 (up_rng j hj).1 (up_rng j hj).2 (by omega)
theorem dn_pos (i : Nat) (hi : i < 20) : FloatKind.f64.format.order (dn i) 0 = some .gt ∧ (FloatKind.f64.format.order (dn i) 4607182418800017408 == some .lt || FloatKind.f64.format.order (dn i) 4607182418800017408 == some .eq) = true := pos20 _ (dn_rng i hi).1 (dn_rng i hi).2
theorem up_pos (i : Nat) (hi : i < 20) : FloatKind.f64.format.order (up i) 0 = some .gt ∧ (FloatKind.f64.format.order (up i) 4607182418800017408 == some .lt || FloatKind.f64.format.order (up i) 4607182418800017408 == some .eq) = true := pos20 _ (up_rng i hi).1 (up_rng i hi).2
theorem gt_ge {x y : Nat} (h : FloatKind.f64.format.order x y = some .gt) : (FloatKind.f64.format.order x y == some .gt || FloatKind.f64.format.order x y == some .eq) = true := by rw [h]; rfl

theorem good_free : Good_a_free (byIx 199 fun i => f100 (am i)) (byIx 199 fun _ => 0) := by
  unfold Good_a_free Dist
  simp only [byIx_len]
  refine ⟨by omega, fun i j hij hj => .inl ?_, fun i hi => ?_⟩
  · rw [byIx_at _ _ _ (by omega), byIx_at _ _ _ hj]
    have a := am_mem i (by omega)
    have b := am_mem j hj
    exact f100_ne _ _ a.1 a.2 b.1 b.2 (fun h => by have := am_inj i j h; omega)
  · rw [byIx_at _ _ _ hi, byIx_at _ _ _ hi]
    obtain ⟨_, _, _, h1, h2⟩ := f100_fact (am i) (am_mem i hi).1 (am_mem i hi).2
    exact ⟨h1, h2, by decide +kernel⟩
theorem good_ff : Good_h_ff (byIx 400 fun i => dn (i / 20)) (byIx 400 fun i => up (i % 20)) := by
  unfold Good_h_ff Dist
  simp only [byIx_len]
  refine ⟨by omega, fun i j hij hj => ?_, fun i hi => ?_⟩
  · rw [byIx_at _ _ _ (by omega), byIx_at _ _ _ hj, byIx_at _ _ _ (by omega), byIx_at _ _ _ hj]
    by_cases e : i / 20 = j / 20
    · exact .inr (up_ne _ _ (by omega) (by omega) (by omega))
    · exact .inl (dn_ne _ _ (by omega) (by omega) e)
  · rw [byIx_at _ _ _ hi, byIx_at _ _ _ hi]
    have a := dn_pos (i / 20) (by omega)
    have b := up_pos (i % 20) (by omega)
    exact ⟨a.1, a.2, gt_ge b.1, b.2⟩
theorem good_ft (be : Nat) : Good_h_ft (byIx 20 dn) (byIx 20 fun _ => be) := by
  unfold Good_h_ft Dist
  simp only [byIx_len]
  refine ⟨by omega, fun i j hij hj => .inl ?_, fun i hi => ?_⟩
  · rw [byIx_at _ _ _ (by omega), byIx_at _ _ _ hj]
    exact dn_ne _ _ (by omega) hj (by omega)
  · rw [byIx_at _ _ _ hi]
    exact dn_pos i hi
theorem good_tf (al : Nat) : Good_h_tf (byIx 20 fun _ => al) (byIx 20 up) := by
  unfold Good_h_tf Dist
  simp only [byIx_len]
  refine ⟨by omega, fun i j hij hj => .inr ?_, fun i hi => ?_⟩
  · rw [byIx_at _ _ _ (by omega), byIx_at _ _ _ hj]
    exact up_ne _ _ (by omega) hj (by omega)
  · rw [byIx_at _ _ _ hi]
    exact ⟨gt_ge (up_pos i hi).1, (up_pos i hi).2⟩
theorem good_last : Good_last [4607182418800017408] [0] := by
  refine ⟨rfl, fun i hi => ?_⟩
  obtain rfl : i = 0 := by simpa using hi
  exact ⟨by decide +kernel, by decide +kernel⟩

theorem distinct_walk (model : Int) (th al be : Nat) (ft fa fb : Bool) (offset : Int) (_wm : (Lit.int .i64 model).wf = true) (_w1 : (Lit.float .f64 th).wf = true) (_w2 : (Lit.float .f64 al).wf = true) (_w3 : (Lit.float .f64 be).wf = true) (_wo : (Lit.int .i64 offset).wf = true) (w : World) :
    Calls Try.prog 6 #[.int .i64 model, .float .f64 th, .float .f64 al, .float .f64 be, .bool ft, .bool fa, .bool fb, .int .i64 offset] w fun e w' => e = .returned (.bool true) ∧ Below w.heap.size w w' := by
  have hZ := zzcand_any model th al be ft fa fb offset w
  by_cases h1 : model = 1
  · subst h1
    cases ft with
    | true => exact dist_a_fix fa fb th al be offset w (hZ.mono fun e w' ⟨r, _, h⟩ => ⟨_, _, h, by rw [cands_fix]; rfl⟩)
    | false => exact dist_a_free fa fb th al be offset w (hZ.mono fun e w' ⟨r, _, h⟩ => ⟨_, _, h, by rw [(cands_free r al be fa fb).1, (cands_free r al be fa fb).2]; exact good_free⟩)
  · by_cases h2 : model = 2
    · subst h2
      cases fa <;> cases fb
      · exact dist_h_ff ft th al be offset w (hZ.mono fun e w' ⟨r, _, h⟩ => ⟨_, _, h, by rw [(cands_ff r al be ft).1, (cands_ff r al be ft).2]; exact good_ff⟩)
      · exact dist_h_ft ft th al be offset w (hZ.mono fun e w' ⟨r, _, h⟩ => ⟨_, _, h, by rw [(cands_ft r al be ft).1, (cands_ft r al be ft).2]; exact good_ft be⟩)
      · exact dist_h_tf ft th al be offset w (hZ.mono fun e w' ⟨r, _, h⟩ => ⟨_, _, h, by rw [(cands_tf r al be ft).1, (cands_tf r al be ft).2]; exact good_tf al⟩)
      · exact dist_h_tt ft th al be offset w (hZ.mono fun e w' ⟨r, _, h⟩ => ⟨_, _, h, by rw [cands_tt]; rfl⟩)
    · exact dist_last model h1 h2 ft fa fb th al be offset w (hZ.mono fun e w' ⟨r, _, h⟩ => ⟨_, _, h, by rw [cands_last model r al be ft fa fb h1 h2]; exact good_last⟩)

end Go.Proofs.Qxb6601956a
