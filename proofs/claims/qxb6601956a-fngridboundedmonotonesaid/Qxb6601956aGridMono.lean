/-
  The walk of FnGridBoundedMonotone (4).
-/
import Derived.Test.Qxb6601956aGrid
namespace Go.Proofs.Qxb6601956a
open Go.RowKit Fl

set_option maxHeartbeats 400000 in
theorem mono_out (k step : Int) (s1 : -9223372036854775808 ≤ step) (s2 : step ≤ 9223372036854775807) (hin : ¬ (1 ≤ k ∧ k ≤ 20)) (w : World) :
    Calls Try.prog 4 #[.int .i64 k, .int .i64 step] w fun e w' => e = .returned (.bool true) ∧ Below w.heap.size w w' := by
  have hc : (k < 1 ∧ step = 0) ∨ (k < 1 ∧ ¬ step = 0) ∨ (20 < k ∧ step = 0) ∨ (20 < k ∧ ¬ step = 0) := by omega
  rcases hc with ⟨hb, rfl⟩ | ⟨hb, hs⟩ | ⟨hb, rfl⟩ | ⟨hb, hs⟩
  all_goals
    go_enter Try.func4, Try.ntmps4
    go_wp2_with (go_at_call 9; refine (zzgrid_out k _ _ s1 s2 hin).mono ?_; rintro e w1 ⟨rfl, hb1⟩)
    go_loopw [6] (fun iv wx => iv = .int .i64 0 ∧ wx = w1) (fun _ _ => 0)
    case atStart => exact ⟨rfl, rfl⟩
    case round =>
      obtain ⟨rfl, rfl⟩ := hrel
      go_wp2
      go_ret
      exact ⟨rfl, hb1⟩

theorem grid_gt {k step : Int} {n : Nat} (h : n < (gks step 20 k).length) : FloatKind.f64.format.order (atN ((gks step 20 k).map f20) n) 0 = some .gt := by
  rw [atN_map f20 _ 0 n h]
  obtain ⟨h1, h2⟩ := gks_mem 20 k _ (getD_mem _ 0 n h)
  exact (pos20 _ h1 h2).1
theorem grid_le {k step : Int} {n : Nat} (h : n < (gks step 20 k).length) : (FloatKind.f64.format.order (atN ((gks step 20 k).map f20) n) 4607182418800017408 == some .lt || FloatKind.f64.format.order (atN ((gks step 20 k).map f20) n) 4607182418800017408 == some .eq) = true := by
  rw [atN_map f20 _ 0 n h]
  obtain ⟨h1, h2⟩ := gks_mem 20 k _ (getD_mem _ 0 n h)
  exact (pos20 _ h1 h2).2
theorem grid_up {k step : Int} {n : Nat} (g1 : 1 ≤ k) (g2 : k ≤ 20) (hs : 0 < step) (b2 : step ≤ 9223372036854775807) (h0 : 0 < n) (h : n < (gks step 20 k).length) :
    FloatKind.f64.format.order (atN ((gks step 20 k).map f20) n) (atN ((gks step 20 k).map f20) (n - 1)) = some .gt := by
  have hm := (mono_is k step (n - 1) g1 g2 (by omega) (by omega) b2 (by omega)).1 hs
  rw [show n - 1 + 1 = n by omega] at hm
  rw [atN_map f20 _ 0 n h, atN_map f20 _ 0 (n - 1) (by omega)]
  obtain ⟨h1, h2⟩ := gks_mem 20 k _ (getD_mem _ 0 n h)
  obtain ⟨h3, h4⟩ := gks_mem 20 k _ (getD_mem _ 0 (n - 1) (show n - 1 < (gks step 20 k).length by omega))
  exact ord20_gt _ _ h3 h2 hm
theorem grid_down {k step : Int} {n : Nat} (g1 : 1 ≤ k) (g2 : k ≤ 20) (hs : step < 0) (b1 : -9223372036854775808 ≤ step) (h0 : 0 < n) (h : n < (gks step 20 k).length) :
    FloatKind.f64.format.order (atN ((gks step 20 k).map f20) n) (atN ((gks step 20 k).map f20) (n - 1)) = some .lt := by
  have hm := (mono_is k step (n - 1) g1 g2 (by omega) b1 (by omega) (by omega)).2 hs
  rw [show n - 1 + 1 = n by omega] at hm
  rw [atN_map f20 _ 0 n h, atN_map f20 _ 0 (n - 1) (by omega)]
  obtain ⟨h1, h2⟩ := gks_mem 20 k _ (getD_mem _ 0 n h)
  obtain ⟨h3, h4⟩ := gks_mem 20 k _ (getD_mem _ 0 (n - 1) (show n - 1 < (gks step 20 k).length by omega))
  exact ord20_lt _ _ h1 h4 hm

set_option maxHeartbeats 1000000 in
theorem mono_walk (k step : Int) (wk : (Lit.int .i64 k).wf = true) (ws : (Lit.int .i64 step).wf = true) (w : World) :
    Calls Try.prog 4 #[.int .i64 k, .int .i64 step] w fun e w' => e = .returned (.bool true) ∧ Below w.heap.size w w' := by
  obtain ⟨k1, k2⟩ := bounds_i64 wk
  obtain ⟨s1, s2⟩ := bounds_i64 ws
  clear wk ws
  by_cases hin : 1 ≤ k ∧ k ≤ 20
  · obtain ⟨g1, g2⟩ := hin
    by_cases h0 : step = 0
    · subst h0
      go_enter Try.func4, Try.ntmps4
      go_wp2
      go_ret
      exact ⟨rfl, Below.refl _ _⟩
    · have hs0 : (step == 0) = false := by simpa using h0
      have hlen := gks_len step 20 k
      obtain ⟨hhd, hpos⟩ := gks_head (step := step) g1 g2
      have hq := f20_is k g1 g2
      have hop : ∀ t w, (binOp .quo t (.float .f64 (floatOfInt .f64 k)) (.float .f64 4626322717216342016)).run Try.prog w = .ok (.float .f64 (f20 k)) w := fun t w => run_float_arith w .quo t .f64 _ _ _ hq
      have h00 : atN ((gks step 20 k).map f20) 0 = f20 k := by rw [atN_map f20 _ 0 0 hpos, hhd]
      have hrefl := ord20_refl k g1 g2
      have hd1 : decide (k < 1) = false := by simpa using g1
      have hd2 : decide (20 < k) = false := by simpa using g2
      have hd3 : (((gks step 20 k).length : Int) == 0) = false := by simpa using (show ¬ ((gks step 20 k).length : Int) = 0 by omega)
      clear hq hhd
      go_enter Try.func4, Try.ntmps4
      go_wp2_with (go_at_call 9; refine (zzgrid_any k step _ s1 s2 (fun e => (h0 e).elim)).mono ?_; rintro e w1 ⟨rfl, hown1, hb1⟩; have fg := Floats.of_owns hown1; have fg0 := fg.at (j := 0) (by simpa using hpos); rw [h00] at fg0)
      clear hop hrefl h00 fg0 hd1 hd2 hd3 hown1
      go_loopw [6] (fun iv wx => ∃ n : Nat, n ≤ (gks step 20 k).length ∧ iv = .int .i64 n ∧ wx = w1) (fun iv _ => (gks step 20 k).length - (intOf iv).toNat)
      case atStart => exact ⟨0, Nat.zero_le _, rfl, rfl⟩
      case round =>
        obtain ⟨n, hn, rfl, rfl⟩ := hrel
        by_cases hlt : n < (gks step 20 k).length
        · have c1 := fg.at (j := n) (by simpa using hlt)
          have o1 := grid_gt hlt
          have o2 := grid_le hlt
          by_cases hn0 : n = 0
          · subst hn0
            go_wp2
            go_roundw
            case rel => exact ⟨1, by omega, rfl, trivial⟩
            case measure => simp [intOf]; omega
          · have c2 := fg.at (j := n - 1) (by simp; omega)
            rcases Int.lt_or_gt_of_ne h0 with hneg | hp
            · have o3 := grid_down g1 g2 hneg s1 (by omega) hlt
              go_wp2
              go_roundw
              case rel => exact ⟨n + 1, by omega, by go_num, trivial⟩
              case measure => simp [intOf]; omega
            · have o3 := grid_up g1 g2 hp s2 (by omega) hlt
              go_wp2
              go_roundw
              case rel => exact ⟨n + 1, by omega, by go_num, trivial⟩
              case measure => simp [intOf]; omega
        · go_wp2
          go_ret
          exact ⟨rfl, hb1⟩
  · exact mono_out k step s1 s2 hin w
end Go.Proofs.Qxb6601956a
