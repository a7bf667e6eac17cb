/-
  The walk of FnNewMatchesTable (7).
-/
import Derived.Test.Qxb6601956aMatch
import Derived.Test.Qxb6601956aZZNew
namespace Go.Proofs.Qxb6601956a.Tab
open Go.RowKit Fl

set_option maxHeartbeats 1000000 in
theorem new_match_walk (model : Int) (th al be : Nat) (ft fa fb : Bool) (offset : Int) (_wm : (Lit.int .i64 model).wf = true) (_w1 : (Lit.float .f64 th).wf = true) (_w2 : (Lit.float .f64 al).wf = true) (_w3 : (Lit.float .f64 be).wf = true) (_wo : (Lit.int .i64 offset).wf = true) (w : World) :
    Calls Try.prog 7 #[.int .i64 model, .float .f64 th, .float .f64 al, .float .f64 be, .bool ft, .bool fa, .bool fb, .int .i64 offset] w fun e w' => e = .returned (.bool true) ∧ Below w.heap.size w w' := by
  clear _wm _w1 _w2 _w3 _wo
  go_enter Try.func7, Try.ntmps7
  go_wp2_with fail
  refine (zznew_any model th al be ft fa fb offset _).mono ?_
  rintro e w1 ⟨r, hr, ga, gb, n, wn, wc, hlen, n1, n2, q1, q2, rfl, fA, fB, hb1⟩
  obtain ⟨ps, hps⟩ : ∃ ps, ps = cands model r al be ft fa fb := ⟨_, rfl⟩
  rw [← hps] at hlen fA fB ⊢
  have HPS := hide hps
  have HLEN := hide hlen
  clear hps hlen
  go_wp2_with fail
  refine (want_any model th al be ft fa fb _).mono ?_
  rintro e w2 ⟨xs', ys', ⟨ga', gb', n', lA', lB', _, _, rfl, fA', fB', hb2⟩, hW⟩
  obtain ⟨sA, sB⟩ := hW r hr
  rw [← HPS.out] at sA sB
  obtain rfl : n' = n := by rw [← lA', ← HLEN.out, ← sA.1, List.length_map]
  have s0 := sA.2 0 (by rw [List.length_map, HLEN.out]; omega)
  have t0 := sB.2 0 (by rw [List.length_map, HLEN.out]; omega)
  rw [atN_fst] at s0
  rw [atN_snd] at t0
  have S0 := hide s0
  have T0 := hide t0
  have SA := hide sA
  have SB := hide sB
  have FA := hide (fA.below' hb2)
  have FB := hide (fB.below' hb2)
  have c0 := fA'.at (j := 0) (by omega)
  have d0 := fB'.at (j := 0) (by omega)
  have HB2 := hide (hb1.trans (hb2.mono hb1.size))
  have hn : n' ≤ 65536 := by omega
  have hni : (0 : Int) < (n' : Int) := by omega
  have HL1 : Hid ((ps.map Prod.fst).length = n') := by show _ = _; rw [List.length_map]; exact HLEN.out
  have HL2 : Hid ((ps.map Prod.snd).length = n') := by show _ = _; rw [List.length_map]; exact HLEN.out
  clear HPS HLEN hW hr s0 t0 sA sB fA fB lA' lB' hb1 hb2
  go_wp2_with fail
  refine (sameAll_any ga ga' n' n' n' _ xs' _ hn FA.out fA' HL1.out SA.out).mono ?_
  rintro e w3 ⟨rfl, hdr⟩
  go_wp2_with fail
  refine (sameAll_any gb gb' n' n' n' _ ys' _ hn (hdr.floats FB.out) (hdr.floats fB') HL2.out SB.out).mono ?_
  rintro e w4 ⟨rfl, hdr'⟩
  obtain ⟨qd, rfl⟩ := hdr.trans hdr'
  clear hdr hdr'
  go_wp2_with fail
  refine (sameF_any _ _ _ S0.out).mono ?_
  rintro e w5 ⟨rfl, rfl⟩
  go_wp2_with fail
  refine (sameF_any _ _ _ T0.out).mono ?_
  rintro e w5 ⟨rfl, rfl⟩
  go_wp2_with fail
  refine (sameF_any 0 0 _ (SameF.rfl' 0)).mono ?_
  rintro e w5 ⟨rfl, rfl⟩
  go_wp2_with fail
  refine (sameF_any 0 0 _ (SameF.rfl' 0)).mono ?_
  rintro e w5 ⟨rfl, rfl⟩
  clear S0 T0 SA SB FA FB c0 d0 HL1 HL2
  by_cases h1 : n' = 1
  · obtain ⟨rfl, rfl⟩ := q1 h1
    clear q1 q2
    subst h1
    go_wp2
    go_ret
    exact ⟨rfl, HB2.out.trans (below_drewN (Below.refl _ _) _)⟩
  · obtain ⟨rfl, rfl⟩ := q2 (by omega)
    have hne : ((n' : Int) == 1) = false := by simpa using (show ¬ (n' : Int) = 1 by omega)
    clear q1 q2
    go_wp2
    go_ret
    exact ⟨rfl, HB2.out.trans (below_drewN (Below.refl _ _) _)⟩
end Go.Proofs.Qxb6601956a.Tab
