/-
  The walk of FnGridMatchesFilter (3).
-/
import Derived.Test.Qxb6601956aGrid
namespace Go.Proofs.Qxb6601956a
open Go.RowKit Fl

set_option maxHeartbeats 400000 in
/-- k outside 1..20: nothing is there. -/
theorem filter_out (k step : Int) (s1 : -9223372036854775808 ≤ step) (s2 : step ≤ 9223372036854775807) (hin : ¬ (1 ≤ k ∧ k ≤ 20)) (w : World) :
    Calls Try.prog 3 #[.int .i64 k, .int .i64 step] w fun e w' => e = .returned (.bool true) ∧ Below w.heap.size w w' := by
  obtain ⟨i0, hi, hz0, hz1, hz2⟩ := info_parts Try.info24
  have hnil := fun (w : World) (a : Option Addr) (n c : Nat) => Lib.run_eql_slice_nil (P := Try.prog) w 22 24 a n c 0 0 Try.underlying22
  have hc : (k < 1 ∧ step = 0) ∨ (k < 1 ∧ ¬ step = 0) ∨ (20 < k ∧ step = 0) ∨ (20 < k ∧ ¬ step = 0) := by omega
  rcases hc with ⟨hb, rfl⟩ | ⟨hb, hs⟩ | ⟨hb, rfl⟩ | ⟨hb, hs⟩
  all_goals
    go_enter Try.func3, Try.ntmps3
    go_wp2_with (first
      | (go_at_call 9; refine (zzgrid_out k _ _ s1 s2 hin).mono ?_; rintro e w1 ⟨rfl, hb1⟩)
      | (at_make; refine wpList_make_own _ rfl _ _ 22 rfl w1.heap.size 24 i0 (.float .f64 0) 1 Try.underlying22 hi hz0 hz1 _ _ _ 20 rfl rfl rfl (by rw [hz2]; omega) (by unfold maxLen; omega) (Nat.le_refl _) ?_; intro w2 hown2 hgrow2))
    go_loopw [10] (fun iv wx => iv = .int .i64 0 ∧ wx = w2) (fun _ _ => 0)
    case atStart => exact ⟨rfl, rfl⟩
    case round =>
      obtain ⟨rfl, rfl⟩ := hrel
      go_wp2
      go_ret
      exact ⟨rfl, hb1.grown hgrow2 hb1.size (fun k h => by cases h)⟩

set_option maxHeartbeats 1000000 in
theorem filter_walk (k step : Int) (wk : (Lit.int .i64 k).wf = true) (ws : (Lit.int .i64 step).wf = true) (w : World) :
    Calls Try.prog 3 #[.int .i64 k, .int .i64 step] w fun e w' => e = .returned (.bool true) ∧ Below w.heap.size w w' := by
  obtain ⟨k1, k2⟩ := bounds_i64 wk
  obtain ⟨s1, s2⟩ := bounds_i64 ws
  clear wk ws
  obtain ⟨i0, hi, hz0, hz1, hz2⟩ := info_parts Try.info24
  have hnil := fun (w : World) (a : Option Addr) (n c : Nat) => Lib.run_eql_slice_nil (P := Try.prog) w 22 24 a n c 0 0 Try.underlying22
  by_cases hin : 1 ≤ k ∧ k ≤ 20
  · obtain ⟨g1, g2⟩ := hin
    by_cases h0 : step = 0
    · subst h0
      go_enter Try.func3, Try.ntmps3
      go_wp2
      go_ret
      exact ⟨rfl, Below.refl _ _⟩
    · have hs0 : (step == 0) = false := by simpa using h0
      have HL : Hid (filt k step 20 = gks step 20 k) := filt_is k step g1 g2 h0 s1 s2
      go_enter Try.func3, Try.ntmps3
      go_wp2_with (first
        | (go_at_call 9; refine (zzgrid_any k step _ s1 s2 (fun e => (h0 e).elim)).mono ?_; rintro e w1 ⟨rfl, hown1, hb1⟩)
        | (at_make; refine wpList_make_own _ rfl _ _ 22 rfl w1.heap.size 24 i0 (.float .f64 0) 1 Try.underlying22 hi hz0 hz1 _ _ _ 20 rfl rfl rfl (by rw [hz2]; omega) (by unfold maxLen; omega) (Nat.le_refl _) ?_; intro w2 hown2 hgrow2))
      have fg := Floats.of_owns hown1
      have hw1 : w.heap.size < w1.heap.size := fg.1
      go_loopw [6, 7] (fun v iv wr => ∃ n : Nat, n ≤ 20 ∧ iv = .int .i64 n ∧ v = .slice (some ⟨w1.heap.size, 0, none⟩) (filt k step n).length 20 ∧
          wr.ownsRow w1.heap.size 24 1 (.slice (some ⟨w1.heap.size, 0, none⟩) (filt k step n).length 20) (filt k step n).length (flo ((filt k step n).map f20)) ∧ Below w1.heap.size w1 wr)
        (fun _ iv _ => 20 - (intOf iv).toNat)
      case atStart => exact ⟨0, by omega, rfl, rfl, hown2, (Below.refl _ _).grown hgrow2 (Nat.le_refl _) (fun k h => by cases h)⟩
      case round =>
        obtain ⟨n, hn, rfl, rfl, hown, hnx⟩ := hrel
        have hfl := filt_len k step n
        by_cases hlt : n < 20
        · rcases Int.lt_or_gt_of_ne h0 with hneg | hpos
          · have hj : Hid (jOf step n = 20 - (n : Int)) := by show jOf step n = _; unfold jOf; rw [if_pos hneg]
            have hq := f20_is (20 - (n : Int)) (by omega) (by omega)
            have hop : ∀ t w, (binOp .quo t (.float .f64 (floatOfInt .f64 (20 - (n : Int)))) (.float .f64 4626322717216342016)).run Try.prog w = .ok (.float .f64 (f20 (20 - (n : Int)))) w := fun t w => run_float_arith w .quo t .f64 _ _ _ hq
            clear hq
            go_wp2_with (first | (simp only [hop]; done) | (at_builtin; refine wpList_append_fits _ rfl _ _ 22 rfl w1.heap.size 24 i0 1 Try.underlying22 hi hz1 w1.heap.size (filt k step n).length 20 _ rfl (hown.alloc _) ⟨wr.heap.size, 0, none⟩ 1 1 [.float .f64 (f20 (20 - (n : Int)))] rfl rfl (one_new _ _ _) (one_cell _) (by omega) ?_; intro w3 hown3 hgrow3))
            all_goals
              go_roundw
              case rel =>
                first
                  | (have ht := filt_yes hj.out (by first | exact takes_zero hj.out ‹_› ‹_› | exact takes_or hj.out ‹_› ‹_›)
                     exact ⟨n + 1, by omega, by go_num, by rw [ht, List.length_append]; rfl, by rw [ht]; simpa [flo] using hown3, (hnx.alloc hnx.size _).grown hgrow3 (by simp; have := hnx.size; omega) (fun k hk => by cases hk; exact Nat.le_refl _)⟩)
                  | (have ht := filt_no (k := k) (step := step) (i := n) (by first | exact takes_and hj.out ‹_› | exact takes_mod hj.out ‹_›)
                     exact ⟨n + 1, by omega, by go_num, by rw [ht], by rw [ht]; exact hown, hnx⟩)
              case measure => simp [intOf]; omega
          · have hj : Hid (jOf step n = 1 + (n : Int)) := by show jOf step n = _; unfold jOf; rw [if_neg (by omega)]
            have hq := f20_is (1 + (n : Int)) (by omega) (by omega)
            have hop : ∀ t w, (binOp .quo t (.float .f64 (floatOfInt .f64 (1 + (n : Int)))) (.float .f64 4626322717216342016)).run Try.prog w = .ok (.float .f64 (f20 (1 + (n : Int)))) w := fun t w => run_float_arith w .quo t .f64 _ _ _ hq
            clear hq
            go_wp2_with (first | (simp only [hop]; done) | (at_builtin; refine wpList_append_fits _ rfl _ _ 22 rfl w1.heap.size 24 i0 1 Try.underlying22 hi hz1 w1.heap.size (filt k step n).length 20 _ rfl (hown.alloc _) ⟨wr.heap.size, 0, none⟩ 1 1 [.float .f64 (f20 (1 + (n : Int)))] rfl rfl (one_new _ _ _) (one_cell _) (by omega) ?_; intro w3 hown3 hgrow3))
            all_goals
              go_roundw
              case rel =>
                first
                  | (have ht := filt_yes hj.out (by first | exact takes_zero hj.out ‹_› ‹_› | exact takes_or' hpos hj.out ‹_› ‹_›)
                     exact ⟨n + 1, by omega, by go_num, by rw [ht, List.length_append]; rfl, by rw [ht]; simpa [flo] using hown3, (hnx.alloc hnx.size _).grown hgrow3 (by simp; have := hnx.size; omega) (fun k hk => by cases hk; exact Nat.le_refl _)⟩)
                  | (have ht := filt_no (k := k) (step := step) (i := n) (by first | exact takes_and' hpos hj.out ‹_› | exact takes_mod hj.out ‹_›)
                     exact ⟨n + 1, by omega, by go_num, by rw [ht], by rw [ht]; exact hown, hnx⟩)
              case measure => simp [intOf]; omega
        · obtain rfl : n = 20 := by omega
          have HL' := HL.out
          rw [HL'] at hown hfl
          have fw := Floats.of_owns hown
          have fg' := fg.below hnx hw1
          go_wp2
          have hbb := hb1.trans (hnx.mono (Nat.le_of_lt hw1))
          clear hown hnx fg hown1 hb1 hown2 hgrow2 hnil
          obtain ⟨wo, rfl⟩ : ∃ wo : World, wo = wr := ⟨_, rfl⟩
          have hlen := gks_len step 20 k
          go_loopw [10] (fun iv wx => ∃ n q : Nat, n ≤ (gks step 20 k).length ∧ iv = .int .i64 n ∧ wx = wo.drewN q) (fun iv _ => (gks step 20 k).length - (intOf iv).toNat)
          case atStart => exact ⟨0, 0, Nat.zero_le _, rfl, rfl⟩
          case round =>
            obtain ⟨n, q, hn', rfl, rfl⟩ := hrel
            by_cases hlt' : n < (gks step 20 k).length
            · have c1 := fg'.at (j := n) (by simpa using hlt')
              have c2 := fw.at (j := n) (by simpa using hlt')
              have ho : FloatKind.f64.format.order (atN ((gks step 20 k).map f20) n) (atN ((gks step 20 k).map f20) n) = some .eq := grid_refl hlt'
              clear HL
              go_wp2
              go_quiet (fail)
              go_wp2
              go_roundw
              case rel => exact ⟨n + 1, _, by omega, by go_num, rfl⟩
              case measure => simp [intOf]; omega
            · go_wp2
              go_ret
              exact ⟨rfl, below_drewN hbb _⟩
  · exact filter_out k step s1 s2 hin w

end Go.Proofs.Qxb6601956a
