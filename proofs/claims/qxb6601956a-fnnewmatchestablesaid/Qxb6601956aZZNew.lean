/-
  The contract of ZZNew (13).
-/
import Derived.Test.Qxb6601956aNew
namespace Go.Proofs.Qxb6601956a
open Go.RowKit Fl

/-- What ZZNew gives, n candidates. -/
def ZNPost (w : World) (offset : Int) (ps : List (Nat × Nat)) (e : Ending) (w' : World) : Prop :=
  ∃ ga gb n wn wc, ps.length = n ∧ 1 ≤ n ∧ n ≤ 400 ∧ (n = 1 → wn = true ∧ wc = 0) ∧ (1 < n → wn = false ∧ wc = 1500) ∧
    e = .returned (.tuple #[.slice (some ⟨ga, 0, none⟩) n n, .slice (some ⟨gb, 0, none⟩) n n, .int .i64 offset, .float .f64 (pA ps 0), .float .f64 (pB ps 0), .float .f64 0, .float .f64 0, .int .i64 0, .bool wn, .int .i64 0, .int .i64 wc]) ∧
    Floats w' ga (ps.map Prod.fst) ∧ Floats w' gb (ps.map Prod.snd) ∧ Below w.heap.size w w'

set_option maxHeartbeats 1000000 in
theorem zznew_any (model : Int) (th al be : Nat) (ft fa fb : Bool) (offset : Int) (w : World) :
    Calls Try.prog 13 #[.int .i64 model, .float .f64 th, .float .f64 al, .float .f64 be, .bool ft, .bool fa, .bool fb, .int .i64 offset] w fun e w' =>
      ∃ r, RFor model ft th r ∧ ZNPost w offset (cands model r al be ft fa fb) e w' := by
  have hnil := fun (w : World) (a : Option Addr) (n c : Nat) => Lib.run_eql_slice_nil (P := Try.prog) w 22 24 a n c 0 0 Try.underlying22
  go_enter Try.func13, Try.ntmps13
  go_wp2_with fail
  refine (settings_any model th al be ft fa fb offset _).mono ?_
  rintro e w1 ⟨rfl, hb1⟩
  go_wp2_with fail
  refine (new_any model th al be ft fa fb offset _).mono ?_
  rintro e w2 ⟨r, hr, gm, g, cap, win, rfl, hm, hw1, hw2, hp, hb2⟩
  have hB2 : Below w.heap.size w w2 := hb1.trans (hb2.mono hb1.size)
  have hlen := cands_len model r al be ft fa fb
  obtain ⟨ps, hps⟩ : ∃ ps, ps = cands model r al be ft fa fb := ⟨_, rfl⟩
  rw [← hps] at hlen hm hw1 hw2 hp
  have HPS := hide hps
  clear hps hb1 hb2
  obtain ⟨n, hn⟩ : ∃ n, n = ps.length := ⟨_, rfl⟩
  rw [← hn] at hlen hm hw1 hw2
  have HN := hide hn
  clear hn
  obtain ⟨l1, l2⟩ := hlen
  have m0 := hm.2.1
  go_wp2_with fail
  refine (split_any g n cap ps _ (by omega) HN.out.symm hp).mono ?_
  rintro e w3 ⟨ga, gb, rfl, fA, fB, hb3⟩
  have hB3 : Below w.heap.size w w3 := hB2.trans (hb3.mono hB2.size)
  obtain ⟨q0, q1, q2, q3, q4, q5, q6, q7, q8⟩ := hm.below hb3 hm.1
  clear m0 hm hp hB2 hb3
  by_cases h1 : n = 1
  · have hwin := hw1 h1
    clear hw1 hw2
    subst hwin h1
    go_wp2
    go_quiet (fail)
    go_wp2
    refine bodyPost_ret (v := .tuple #[.slice (some ⟨ga, 0, none⟩) 1 1, .slice (some ⟨gb, 0, none⟩) 1 1, .int .i64 offset, .float .f64 (pA ps 0), .float .f64 (pB ps 0), .float .f64 0, .float .f64 0, .int .i64 0, .bool true, .int .i64 0, .int .i64 0]) (by simp [results, Try.results13]) rfl ?_
    have hpe := HPS.out
    have he := HN.out
    refine ⟨r, hr, ?_⟩
    rw [← hpe]
    exact ⟨ga, gb, 1, true, 0, he.symm, by omega, by omega, fun _ => ⟨rfl, rfl⟩, fun h => by omega, rfl, fA, fB, below_drewN hB3 _⟩
  · obtain ⟨gw, hwin⟩ := hw2 (by omega)
    clear hw1 hw2
    subst hwin
    go_wp2
    go_quiet (fail)
    go_wp2
    refine bodyPost_ret (v := .tuple #[.slice (some ⟨ga, 0, none⟩) n n, .slice (some ⟨gb, 0, none⟩) n n, .int .i64 offset, .float .f64 (pA ps 0), .float .f64 (pB ps 0), .float .f64 0, .float .f64 0, .int .i64 0, .bool false, .int .i64 0, .int .i64 1500]) (by simp [results, Try.results13]) rfl ?_
    have hpe := HPS.out
    have he := HN.out
    refine ⟨r, hr, ?_⟩
    rw [← hpe]
    exact ⟨ga, gb, n, false, 1500, he.symm, l1, l2, fun h => absurd h h1, fun _ => ⟨rfl, rfl⟩, rfl, fA, fB, below_drewN hB3 _⟩
end Go.Proofs.Qxb6601956a
