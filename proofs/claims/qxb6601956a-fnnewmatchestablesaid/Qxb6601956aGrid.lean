/-
  The contracts of 'grid' (function 15) and 'ZZGrid' (function 9).
-/
import Derived.Test.Qxb6601956aRows
import Derived.Test.Qxb6601956aFl
import Derived.Test.Qxb6601956aMem
namespace Go.Proofs.Qxb6601956a
open Go.RowKit Fl

theorem Try.info24 : (Try.prog.info? 24).map (fun i => (i.zero, i.size, i.bytes)) = some (some (.float .f64 0), 1, 8) := by kernel_rfl

set_option maxHeartbeats 400000 in
theorem grid_any (k0 step : Int) (w : World) (b1 : -9223372036854775808 ≤ step) (b2 : step ≤ 9223372036854775807) (h0 : step = 0 → ¬ (1 ≤ k0 ∧ k0 ≤ 20)) :
    Calls Try.prog 15 #[.int .i64 k0, .int .i64 step] w fun e w' =>
      e = .returned (.slice (some ⟨w.heap.size, 0, none⟩) (gks step 20 k0).length 20) ∧
      w'.ownsRow w.heap.size 24 1 (.slice (some ⟨w.heap.size, 0, none⟩) (gks step 20 k0).length 20) (gks step 20 k0).length (flo ((gks step 20 k0).map f20)) ∧ Below w.heap.size w w' := by
  obtain ⟨i0, hi, hz0, hz1, hz2⟩ := info_parts Try.info24
  go_enter Try.func15, Try.ntmps15
  go_wp2_with (at_make; refine wpList_make_own _ rfl _ _ 22 rfl w.heap.size 24 i0 (.float .f64 0) 1 Try.underlying22 hi hz0 hz1 _ _ _ 20 rfl rfl rfl ?b2 ?b3 (Nat.le_refl _) ?_)
  case b2 => rw [hz2]; omega
  case b3 => unfold maxLen; omega
  intro w0 hown0 hgrow0
  go_wp2
  go_loopw [0, 5] (fun kv v wr => ∃ (k : Int) (d : List Int), kv = .int .i64 k ∧ d.length + left step k ≤ 20 ∧ d ++ gks step (20 - d.length) k = gks step 20 k0 ∧ (step = 0 → ¬ (1 ≤ k ∧ k ≤ 20)) ∧
      v = .slice (some ⟨w.heap.size, 0, none⟩) d.length 20 ∧ wr.ownsRow w.heap.size 24 1 (.slice (some ⟨w.heap.size, 0, none⟩) d.length 20) d.length (flo (d.map f20)) ∧ Below w.heap.size w wr)
    (fun kv _ _ => left step (intOf kv))
  case atStart => exact ⟨k0, [], rfl, by simpa using left_le step k0, by simp, h0, rfl, hown0, (Below.refl _ _).grown hgrow0 (Nat.le_refl _) (fun k h => by cases h)⟩
  case round =>
    obtain ⟨k, d, rfl, hlen, hd, hz, rfl, hown, hnx⟩ := hrel
    by_cases hk : 1 ≤ k ∧ k ≤ 20
    · obtain ⟨hk1, hk2⟩ := hk
      have hne : Hid (step ≠ 0) := fun e => hz e ⟨hk1, hk2⟩
      have hpos := left_pos step k hk1 hk2
      have hq := f20_is k hk1 hk2
      have hop : ∀ t w, (binOp .quo t (.float .f64 (floatOfInt .f64 k)) (.float .f64 4626322717216342016)).run Try.prog w = .ok (.float .f64 (f20 k)) w := fun t w => run_float_arith w .quo t .f64 _ _ _ hq
      clear hq hz
      have HD : Hid (d ++ gks step (20 - d.length) k = gks step 20 k0) := hd
      clear hd
      go_wp2_with (first | (simp only [hop]; done) | (at_builtin; refine wpList_append_fits _ rfl _ _ 22 rfl w.heap.size 24 i0 1 Try.underlying22 hi hz1 w.heap.size d.length 20 _ rfl (hown.alloc _) ⟨wr.heap.size, 0, none⟩ 1 1 [.float .f64 (f20 k)] rfl rfl (one_new _ _ _) (one_cell _) (by omega) ?_; intro w1 hown1 hgrow1))
      go_roundw
      case rel =>
        refine ⟨wrap64 (k + step), d ++ [k], by first | rfl | go_num, ?_, gks_step hk1 hk2 (by omega) HD.out, fun e => (hne e).elim, by simp, by simpa [flo] using hown1, (hnx.alloc hnx.size _).grown hgrow1 (by simp; have := hnx.size; omega) (fun k hk => by cases hk; exact Nat.le_refl _)⟩
        have := left_step step k hk1 hk2 hne b1 b2
        simp; omega
      case measure =>
        have := left_step step k hk1 hk2 hne b1 b2
        simp [intOf]; omega
    · have HD := gks_end hk hd
      clear hd hz
      rw [HD] at hown
      go_wp2
      all_goals
        go_ret
        exact ⟨rfl, hown, hnx⟩

theorem zzgrid_any (k0 step : Int) (w : World) (b1 : -9223372036854775808 ≤ step) (b2 : step ≤ 9223372036854775807) (h0 : step = 0 → ¬ (1 ≤ k0 ∧ k0 ≤ 20)) :
    Calls Try.prog 9 #[.int .i64 k0, .int .i64 step] w fun e w' =>
      e = .returned (.slice (some ⟨w.heap.size, 0, none⟩) (gks step 20 k0).length 20) ∧
      w'.ownsRow w.heap.size 24 1 (.slice (some ⟨w.heap.size, 0, none⟩) (gks step 20 k0).length 20) (gks step 20 k0).length (flo ((gks step 20 k0).map f20)) ∧ Below w.heap.size w w' := by
  go_enter Try.func9, Try.ntmps9
  go_wp2_with (go_at_call 15; refine (grid_any _ _ _ b1 b2 h0).mono ?_; rintro e w' ⟨rfl, hown, hb⟩)
  go_ret
  exact ⟨rfl, hown, hb⟩

theorem atN_map {α : Type} (f : α → Nat) (l : List α) (d : α) (n : Nat) (h : n < l.length) : atN (l.map f) n = f (l.getD n d) := by
  simp [atN, h]
theorem getD_mem {α : Type} (l : List α) (d : α) (n : Nat) (h : n < l.length) : l.getD n d ∈ l := by
  simp [h]
theorem grid_refl {k step : Int} {n : Nat} (h : n < (gks step 20 k).length) : FloatKind.f64.format.order (atN ((gks step 20 k).map f20) n) (atN ((gks step 20 k).map f20) n) = some .eq := by
  rw [atN_map f20 _ 0 n h]
  obtain ⟨h1, h2⟩ := gks_mem 20 k _ (getD_mem _ 0 n h)
  exact ord20_refl _ h1 h2

theorem zzgrid_out (k step : Int) (w : World) (s1 : -9223372036854775808 ≤ step) (s2 : step ≤ 9223372036854775807) (hin : ¬ (1 ≤ k ∧ k ≤ 20)) :
    Calls Try.prog 9 #[.int .i64 k, .int .i64 step] w fun e w' => e = .returned (.slice (some ⟨w.heap.size, 0, none⟩) 0 20) ∧ Below w.heap.size w w' := by
  refine (zzgrid_any k step w s1 s2 (fun _ => hin)).mono fun e w' h => ?_
  rw [gks_out hin] at h
  exact ⟨h.1, h.2.2⟩

end Go.Proofs.Qxb6601956a
