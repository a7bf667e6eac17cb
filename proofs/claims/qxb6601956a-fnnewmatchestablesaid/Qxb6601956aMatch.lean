/-
  wantCandidates (11) at every Settings, beside the candidates; the walk of FnCandidatesMatchTable (5).
-/
import Derived.Test.Qxb6601956aWantB
import Derived.Test.Qxb6601956aWantC
import Derived.Test.Qxb6601956aSame
namespace Go.Proofs.Qxb6601956a.Tab
open Go.RowKit Fl

theorem downF_ix : downF = byIx 20 dn := downs
theorem upF_ix : upF = byIx 20 up := ups
theorem cands_fix (r al be : Nat) (fa fb : Bool) : cands 1 r al be true fa fb = [(r, 0)] := by
  unfold cands; rw [if_pos rfl, if_pos rfl]
theorem cands_free_eq (r al be : Nat) (fa fb : Bool) : cands 1 r al be false fa fb = arimaP 99 := by
  unfold cands; rw [if_pos rfl, if_neg (by decide)]
theorem cands_holt_eq (r al be : Nat) (ft fa fb : Bool) : cands 2 r al be ft fa fb = holtP (if fa then [al] else downF) (if fb then [be] else upF) := by
  unfold cands; rw [if_neg (by decide), if_pos rfl]
theorem cands_free (r al be : Nat) (fa fb : Bool) : (cands 1 r al be false fa fb).map Prod.fst = byIx 199 (fun i => f100 (am i)) ∧ (cands 1 r al be false fa fb).map Prod.snd = byIx 199 fun _ => 0 := by
  rw [cands_free_eq]
  exact ⟨arima_fst, arima_snd⟩
theorem dn_div : (fun i : Nat => dn (i / 20)) = fun i : Nat => f20 (20 - (i : Int) / 20) := by
  funext i
  have e : 20 - ((i / 20 : Nat) : Int) = 20 - (i : Int) / 20 := by omega
  show f20 (20 - ((i / 20 : Nat) : Int)) = _
  rw [e]
theorem up_mod : (fun i : Nat => up (i % 20)) = fun i : Nat => f20 ((i : Int) % 20 + 1) := by
  funext i
  have e : ((i % 20 : Nat) : Int) + 1 = (i : Int) % 20 + 1 := by omega
  show f20 (((i % 20 : Nat) : Int) + 1) = _
  rw [e]
theorem cands_ff (r al be : Nat) (ft : Bool) : (cands 2 r al be ft false false).map Prod.fst = byIx 400 (fun i : Nat => f20 (20 - (i : Int) / 20)) ∧ (cands 2 r al be ft false false).map Prod.snd = byIx 400 (fun i : Nat => f20 ((i : Int) % 20 + 1)) := by
  rw [cands_holt_eq, if_neg (by decide), if_neg (by decide), downF_ix, upF_ix, byIx, byIx, holt_map, ← dn_div, ← up_mod]
  exact ⟨fst_ix _ _ _, snd_ix _ _ _⟩
theorem cands_ft (r al be : Nat) (ft : Bool) : (cands 2 r al be ft false true).map Prod.fst = byIx 20 (fun i : Nat => f20 (20 - (i : Int))) ∧ (cands 2 r al be ft false true).map Prod.snd = byIx 20 fun _ => be := by
  rw [cands_holt_eq, if_neg (by decide), if_pos rfl, downF_ix, byIx, holt_left]
  exact ⟨fst_ix _ _ _, snd_ix _ _ _⟩
theorem cands_tf (r al be : Nat) (ft : Bool) : (cands 2 r al be ft true false).map Prod.fst = byIx 20 (fun _ => al) ∧ (cands 2 r al be ft true false).map Prod.snd = byIx 20 (fun i : Nat => f20 ((i : Int) + 1)) := by
  rw [cands_holt_eq, if_pos rfl, if_neg (by decide), upF_ix, byIx, holt_right]
  exact ⟨fst_ix _ _ _, snd_ix _ _ _⟩
theorem cands_tt (r al be : Nat) (ft : Bool) : cands 2 r al be ft true true = [(al, be)] := by
  rw [cands_holt_eq, if_pos rfl, if_pos rfl]; rfl
theorem cands_last (model : Int) (r al be : Nat) (ft fa fb : Bool) (h1 : ¬ model = 1) (h2 : ¬ model = 2) : cands model r al be ft fa fb = [(4607182418800017408, 0)] := by
  unfold cands; rw [if_neg h1, if_neg h2]

/-- The lists that are wanted, beside the candidates. -/
def Wanted (model : Int) (th al be : Nat) (ft fa fb : Bool) (xs ys : List Nat) : Prop :=
  ∀ r, RFor model ft th r → SameL ((cands model r al be ft fa fb).map Prod.fst) xs ∧ SameL ((cands model r al be ft fa fb).map Prod.snd) ys

theorem same_one {r r' : Nat} (h : SameF r r') : SameL [r] [r'] :=
  ⟨rfl, fun j hj => by
    obtain rfl : j = 0 := by simpa using hj
    exact h⟩

theorem want_any (model : Int) (th al be : Nat) (ft fa fb : Bool) (w : World) :
    Calls Try.prog 11 #[.int .i64 model, .float .f64 th, .float .f64 al, .float .f64 be, .bool ft, .bool fa, .bool fb] w fun e w' => ∃ xs ys, TwoF w xs ys e w' ∧ Wanted model th al be ft fa fb xs ys := by
  by_cases h1 : model = 1
  · subst h1
    cases ft with
    | true =>
      refine (want_fix th al be fa fb w).mono fun e w' ⟨r', hr', h⟩ => ⟨_, _, h, fun r hr => ?_⟩
      rw [cands_fix]
      exact ⟨same_one ((hr rfl rfl).same hr'), SameL.rfl' _⟩
    | false =>
      refine (want_free th al be fa fb w).mono fun e w' h => ⟨_, _, h, fun r hr => ?_⟩
      rw [(cands_free r al be fa fb).1, (cands_free r al be fa fb).2]
      exact ⟨SameL.rfl' _, SameL.rfl' _⟩
  · by_cases h2 : model = 2
    · subst h2
      cases fa <;> cases fb
      · refine (want_ff th al be ft w).mono fun e w' h => ⟨_, _, h, fun r hr => ?_⟩
        rw [(cands_ff r al be ft).1, (cands_ff r al be ft).2]
        exact ⟨SameL.rfl' _, SameL.rfl' _⟩
      · refine (want_ft th al be ft w).mono fun e w' h => ⟨_, _, h, fun r hr => ?_⟩
        rw [(cands_ft r al be ft).1, (cands_ft r al be ft).2]
        exact ⟨SameL.rfl' _, SameL.rfl' _⟩
      · refine (want_tf th al be ft w).mono fun e w' h => ⟨_, _, h, fun r hr => ?_⟩
        rw [(cands_tf r al be ft).1, (cands_tf r al be ft).2]
        exact ⟨SameL.rfl' _, SameL.rfl' _⟩
      · refine (want_tt th al be ft w).mono fun e w' h => ⟨_, _, h, fun r hr => ?_⟩
        rw [cands_tt]
        exact ⟨SameL.rfl' _, SameL.rfl' _⟩
    · refine (want_last model th al be ft fa fb w h1 h2).mono fun e w' h => ⟨_, _, h, fun r hr => ?_⟩
      rw [cands_last model r al be ft fa fb h1 h2]
      exact ⟨SameL.rfl' _, SameL.rfl' _⟩

set_option maxHeartbeats 400000 in
theorem match_walk (model : Int) (th al be : Nat) (ft fa fb : Bool) (offset : Int) (_wm : (Lit.int .i64 model).wf = true) (_w1 : (Lit.float .f64 th).wf = true) (_w2 : (Lit.float .f64 al).wf = true) (_w3 : (Lit.float .f64 be).wf = true) (_wo : (Lit.int .i64 offset).wf = true) (w : World) :
    Calls Try.prog 5 #[.int .i64 model, .float .f64 th, .float .f64 al, .float .f64 be, .bool ft, .bool fa, .bool fb, .int .i64 offset] w fun e w' => e = .returned (.bool true) ∧ Below w.heap.size w w' := by
  clear _wm _w1 _w2 _w3 _wo
  go_enter Try.func5, Try.ntmps5
  go_wp2_with fail
  refine (zzcand_any model th al be ft fa fb offset _).mono ?_
  rintro e w1 ⟨r, hr, ga, gb, n, lA, lB, n1, n2, rfl, fA, fB, hb1⟩
  obtain ⟨xs, hxs⟩ : ∃ xs, xs = (cands model r al be ft fa fb).map Prod.fst := ⟨_, rfl⟩
  obtain ⟨ys, hys⟩ : ∃ ys, ys = (cands model r al be ft fa fb).map Prod.snd := ⟨_, rfl⟩
  rw [← hxs] at lA fA
  rw [← hys] at lB fB
  have HXS := hide hxs
  have HYS := hide hys
  have HA := hide lA
  have HB := hide lB
  clear hxs hys lA lB
  go_wp2_with fail
  refine (want_any model th al be ft fa fb _).mono ?_
  rintro e w2 ⟨xs', ys', ⟨ga', gb', n', lA', lB', _, _, rfl, fA', fB', hb2⟩, hW⟩
  obtain ⟨sA, sB⟩ := hW r hr
  rw [← HXS.out] at sA
  rw [← HYS.out] at sB
  obtain rfl : n' = n := by rw [← lA', ← HA.out]; exact sA.1.symm
  have SA := hide sA
  have SB := hide sB
  have FA := hide (fA.below' hb2)
  have FB := hide (fB.below' hb2)
  have hB2 : Below w.heap.size w w2 := hb1.trans (hb2.mono hb1.size)
  have hn : n' ≤ 65536 := by omega
  clear HXS HYS hW hr sA sB fA fB lA' lB' hb1 hb2
  go_wp2_with fail
  refine (sameAll_any ga ga' n' n' n' xs xs' _ hn FA.out fA' HA.out SA.out).mono ?_
  rintro e w3 ⟨rfl, hdr⟩
  go_wp2_with fail
  refine (sameAll_any gb gb' n' n' n' ys ys' _ hn (hdr.floats FB.out) (hdr.floats fB') HB.out SB.out).mono ?_
  rintro e w4 ⟨rfl, hdr'⟩
  go_wp2
  go_ret
  exact ⟨rfl, hB2.trans ((hdr.trans hdr').below _)⟩
end Go.Proofs.Qxb6601956a.Tab
