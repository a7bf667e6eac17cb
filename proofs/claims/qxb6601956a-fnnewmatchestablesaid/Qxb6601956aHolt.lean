/-
  candidates (17) at Holt.
-/
import Derived.Test.Qxb6601956aCand
namespace Go.Proofs.Qxb6601956a
open Go.RowKit Fl
attribute [local go_sem] store_float

/-- 20/20, 19/20, .., 1/20. -/
def downF : List Nat := (gks (-1) 20 20).map f20
/-- 1/20, 2/20, .., 20/20. -/
def upF : List Nat := (gks 1 20 1).map f20
theorem down_len : (gks (-1) 20 20).length = 20 := by decide +kernel
theorem up_len : (gks 1 20 1).length = 20 := by decide +kernel
theorem downF_len : downF.length = 20 := by unfold downF; rw [List.length_map, down_len]
theorem upF_len : upF.length = 20 := by unfold upF; rw [List.length_map, up_len]

theorem grid_down_call (w : World) : Calls Try.prog 15 #[.int .i64 20, .int .i64 (-1)] w fun e w' =>
    e = .returned (.slice (some ⟨w.heap.size, 0, none⟩) 20 20) ∧ Floats w' w.heap.size downF ∧ Below w.heap.size w w' := by
  refine (grid_any 20 (-1) w (by omega) (by omega) (fun h => by omega)).mono fun e w' h => ?_
  rw [down_len] at h
  exact ⟨h.1, Floats.of_owns h.2.1, h.2.2⟩
theorem grid_up_call (w : World) : Calls Try.prog 15 #[.int .i64 1, .int .i64 1] w fun e w' =>
    e = .returned (.slice (some ⟨w.heap.size, 0, none⟩) 20 20) ∧ Floats w' w.heap.size upF ∧ Below w.heap.size w w' := by
  refine (grid_any 1 1 w (by omega) (by omega) (fun h => by omega)).mono fun e w' h => ?_
  rw [up_len] at h
  exact ⟨h.1, Floats.of_owns h.2.1, h.2.2⟩

theorem bcell {W w1 : World} (hb : Below W.heap.size W w1) : (∀ b o, b < W.heap.size → w1.cell? ⟨b, o, none⟩ = W.cell? ⟨b, o, none⟩) ∧ (∀ b o, b < W.heap.size → w1.frozen? ⟨b, o, none⟩ = W.frozen? ⟨b, o, none⟩) :=
  ⟨fun b o h => hb.cell (p := ⟨b, o, none⟩) h, fun b o h => hb.frozen (p := ⟨b, o, none⟩) h⟩

theorem hide {p : Prop} (h : p) : Hid p := h
theorem lit_floats (w : World) (a : Nat) : Floats (w.alloc (.cells #[.float .f64 a] 24)) w.heap.size [a] :=
  Floats.of_owns (World.ownsRow_lit (base := 0) (e := 24) (size := 1) w #[.float .f64 a] 1 (Nat.zero_le _) (by unfold maxLen; omega) rfl)

theorem lit_floats2 (w : World) (o : Obj) (a : Nat) (o' : Obj) : Floats (((w.alloc o).alloc (.cells #[.float .f64 a] 24)).alloc o') (w.heap.size + 1) [a] := by
  have h := lit_floats (w.alloc o) a
  rw [World.size_alloc] at h
  exact h.below ((Below.refl _ _).alloc (Nat.le_refl _) o') (by simp)
theorem lit_floats3 (w : World) (o o' : Obj) (a : Nat) : Floats (((w.alloc o).alloc o').alloc (.cells #[.float .f64 a] 24)) (w.heap.size + 1 + 1) [a] := by
  have h := lit_floats ((w.alloc o).alloc o') a
  rw [World.size_alloc, World.size_alloc] at h
  exact h

set_option maxHeartbeats 1000000 in
theorem holt_ff (th al be : Nat) (ft : Bool) (offset : Int) (w : World) :
    Calls Try.prog 17 #[settings 2 th al be ft false false offset] w (CandPost w (holtP downF upF)) := by
  have hAL : (downF : List Nat).length = 20 := downF_len
  have hBL : (upF : List Nat).length = 20 := upF_len
  have HAL : Hid ((downF : List Nat).length = 20) := hAL
  have HBL : Hid ((upF : List Nat).length = 20) := hBL
  clear hAL hBL
  obtain ⟨i0, hi, hz0, hz1, hz2⟩ := info_parts Try.info45
  unfold settings
  go_enter Try.func17, Try.ntmps17
  go_wp2_with fail
  refine (grid_down_call _).mono ?_
  rintro e w1 ⟨rfl, fA, hb1⟩
  have hz1' : w.heap.size + 1 < w1.heap.size := by have := hb1.size; simp at this; omega
  have hz0' : w.heap.size < w1.heap.size := by omega
  have hBe : w1.cell? ⟨w.heap.size, 3, none⟩ = some (.float .f64 be) := (hb1.cell (p := ⟨w.heap.size, 3, none⟩) (by simp; omega)).trans (by simp)
  have hFb : w1.cell? ⟨w.heap.size, 6, none⟩ = some (.bool false) := (hb1.cell (p := ⟨w.heap.size, 6, none⟩) (by simp; omega)).trans (by simp)
  have hB1 : Below w.heap.size w w1 := (((Below.refl _ _).alloc (Nat.le_refl _) _).alloc (by simp) _).trans (hb1.mono (by simp; omega))
  simp only [World.size_alloc] at fA
  clear hb1
  go_wp2_with fail
  refine (grid_up_call _).mono ?_
  rintro e w2 ⟨rfl, fB, hb2⟩
  have fA2 : Floats w2 _ downF := (fA.below ((Below.refl w1.heap.size w1).alloc (Nat.le_refl _) _) fA.1).below hb2 (by have := fA.1; simp; omega)
  have hB2 : Below w.heap.size w w2 := (hB1.alloc (by omega) _).trans (hb2.mono (by simp; omega))
  simp only [World.size_alloc] at fB
  clear hb2 hB1 fA hBe hFb
  go_wp2_with (at_make; refine wpList_make_own _ rfl _ _ 35 rfl (w2.heap.size) 45 i0 _ 2 Try.underlying35 hi hz0 hz1 _ _ _ 400 rfl rfl rfl (by rw [hz2]; omega) (by unfold maxLen; omega) (by simp) ?_; intro w3 hown3 hgrow3)
  try simp only [World.size_alloc] at hown3
  have gA : w.heap.size + 1 + 1 < w2.heap.size := by have := fA2.1; (try simp at this); omega
  have gB : w1.heap.size + 1 < w2.heap.size := by have := fB.1; (try simp at this); omega
  have fA3 := fA2.grown hgrow3 (by simp)
  have fB3 := fB.grown hgrow3 (by simp)
  have hG : w2.heap.size ≤ w3.heap.size := by have := hgrow3.size; (try simp at this); omega
  have hB3 : Below w.heap.size w w3 := hB2.grown hgrow3 hB2.size (fun k h => by cases h)
  have hwG : w.heap.size ≤ w2.heap.size := by have := hB2.size; (try simp at this); omega
  clear fA2 fB hgrow3 hB2
  go_loopw [7, 69] (fun v iv wr => ∃ i q : Nat, i ≤ 20 ∧ iv = .int .i64 i ∧ Hid (q = i * 20) ∧ v = .slice (some ⟨w2.heap.size, 0, none⟩) q 400 ∧
      wr.ownsRow (w2.heap.size) 45 2 (.slice (some ⟨w2.heap.size, 0, none⟩) q 400) q (prs (holtPart downF upF i 0)) ∧ Below (w2.heap.size) w3 wr) (fun _ iv _ => 20 - (intOf iv).toNat)
  case atStart => exact ⟨0, 0, by omega, rfl, rfl, rfl, hown3, Below.refl _ _⟩
  case round =>
    obtain ⟨i, q, hi', rfl, hq, rfl, hown, hnx⟩ := hrel
    by_cases hlt : i < 20
    · have c1 := (fA3.below hnx gA).at (j := i) (by rw [HAL.out]; exact hlt)
      have hd : decide ((i : Int) < 20) = true := by simp; omega
      go_wp2
      clear c1
      obtain ⟨wo, rfl⟩ : ∃ wo : World, wo = wr := ⟨_, rfl⟩
      go_loopw [7, 75] (fun v iv wr => ∃ j p : Nat, j ≤ 20 ∧ iv = .int .i64 j ∧ Hid (p = i * 20 + j) ∧ v = .slice (some ⟨w2.heap.size, 0, none⟩) p 400 ∧
          wr.ownsRow (w2.heap.size) 45 2 (.slice (some ⟨w2.heap.size, 0, none⟩) p 400) p (prs (holtPart downF upF i j)) ∧ Below (w2.heap.size) w3 wr) (fun _ iv _ => 20 - (intOf iv).toNat)
      case atStart => exact ⟨0, q, by omega, rfl, hq, rfl, hown, hnx⟩
      case round =>
        clear hown hnx
        obtain ⟨j, p, hj', rfl, hp, rfl, hown, hnx⟩ := hrel
        have hpo := hp.out
        by_cases hjlt : j < 20
        · have c2 := (fB3.below hnx gB).at (j := j) (by rw [HBL.out]; exact hjlt)
          have hpc : p + 1 ≤ 400 := by omega
          clear hpo
          go_wp2_with (at_builtin; refine wpList_append_fits _ rfl _ _ 35 rfl (w2.heap.size) 45 i0 2 Try.underlying35 hi hz1 (w2.heap.size) p 400 _ rfl (hown.alloc _) ⟨wr.heap.size, 0, none⟩ 1 1 [.float .f64 (atN downF i), .float .f64 (atN upF j)] rfl rfl (pair_new _ _ _ _) (prs_oneCell [(atN downF i, atN upF j)]) hpc ?_; intro w4 hown4 hgrow4)
          have k1 : Hid (p + 1 = i * 20 + (j + 1)) := by show p + 1 = i * 20 + (j + 1); have := hp.out; omega
          have k2 : w4.ownsRow (w2.heap.size) 45 2 (.slice (some ⟨w2.heap.size, 0, none⟩) (p + 1) 400) (p + 1) (prs (holtPart downF upF i (j + 1))) := by
            rw [← holtPart_step downF upF i j (by rw [HBL.out]; exact hjlt), prs_append]
            exact hown4
          have k3 : Below (w2.heap.size) w3 w4 := (hnx.alloc (Nat.le_trans hG hnx.size) _).grown hgrow4 (by have := hnx.size; simp; omega) (fun k hk => by cases hk; exact Nat.le_refl _)
          go_roundw
          case rel => first | exact ⟨j + 1, p + 1, by omega, by go_num, k1, rfl, k2, k3⟩ | ((repeat apply Exists.intro); refine ⟨?_, rfl⟩; exact ⟨j + 1, p + 1, by omega, by go_num, k1, rfl, k2, k3⟩)
          case measure => simp [intOf]; omega
        · obtain rfl : j = 20 := by omega
          clear hpo
          go_wp2
          go_roundw
          case rel =>
            refine ⟨i + 1, p, by omega, by go_num, (by show p = (i + 1) * 20; have := hp.out; omega), rfl, ?_, hnx⟩
            rw [← holtPart_next downF upF i (by rw [HAL.out]; exact hlt), HBL.out]
            exact hown
          case measure => simp [intOf]; omega
    · obtain rfl : i = 20 := by omega
      have hl : (holtP downF upF).length = q := by rw [holtP_len, HAL.out, HBL.out]; have := hq.out; omega
      have he : holtPart downF upF 20 0 = holtP downF upF := by
        have := holtPart_end downF upF
        rwa [HAL.out] at this
      rw [he] at hown
      have HL := hide hl
      have hB4 : Below w.heap.size w wr := hB3.trans (hnx.mono hwG)
      clear hl he hq
      go_wp2
      go_ret
      exact ⟨_, _, by rw [HL.out]; rfl, PF.of_owns hown, hB4⟩

set_option maxHeartbeats 1000000 in
theorem holt_ft (th al be : Nat) (ft : Bool) (offset : Int) (w : World) :
    Calls Try.prog 17 #[settings 2 th al be ft false true offset] w (CandPost w (holtP downF [be])) := by
  have hAL : (downF : List Nat).length = 20 := downF_len
  have hBL : ([be] : List Nat).length = 1 := rfl
  have HAL : Hid ((downF : List Nat).length = 20) := hAL
  have HBL : Hid (([be] : List Nat).length = 1) := hBL
  clear hAL hBL
  obtain ⟨i0, hi, hz0, hz1, hz2⟩ := info_parts Try.info45
  unfold settings
  go_enter Try.func17, Try.ntmps17
  go_wp2_with fail
  refine (grid_down_call _).mono ?_
  rintro e w1 ⟨rfl, fA, hb1⟩
  have hz1' : w.heap.size + 1 < w1.heap.size := by have := hb1.size; simp at this; omega
  have hz0' : w.heap.size < w1.heap.size := by omega
  have hBe : w1.cell? ⟨w.heap.size, 3, none⟩ = some (.float .f64 be) := (hb1.cell (p := ⟨w.heap.size, 3, none⟩) (by simp; omega)).trans (by simp)
  have hFb : w1.cell? ⟨w.heap.size, 6, none⟩ = some (.bool true) := (hb1.cell (p := ⟨w.heap.size, 6, none⟩) (by simp; omega)).trans (by simp)
  have hB1 : Below w.heap.size w w1 := (((Below.refl _ _).alloc (Nat.le_refl _) _).alloc (by simp) _).trans (hb1.mono (by simp; omega))
  simp only [World.size_alloc] at fA
  clear hb1
  have fA2 : Floats (w1.alloc (.cells #[.float .f64 be] 24)) _ downF := fA.below ((Below.refl w1.heap.size w1).alloc (Nat.le_refl _) _) fA.1
  have fB : Floats (w1.alloc (.cells #[.float .f64 be] 24)) w1.heap.size [be] := lit_floats w1 be
  have hB2 : Below w.heap.size w (w1.alloc (.cells #[.float .f64 be] 24)) := hB1.alloc (by omega) _
  clear hB1 fA
  go_wp2_with (at_make; refine wpList_make_own _ rfl _ _ 35 rfl (w1.heap.size + 1) 45 i0 _ 2 Try.underlying35 hi hz0 hz1 _ _ _ 20 rfl rfl rfl (by rw [hz2]; omega) (by unfold maxLen; omega) (by simp) ?_; intro w3 hown3 hgrow3)
  try simp only [World.size_alloc] at hown3
  have gA : w.heap.size + 1 + 1 < w1.heap.size + 1 := by have := fA2.1; (try simp at this); omega
  have gB : w1.heap.size < w1.heap.size + 1 := by have := fB.1; (try simp at this); omega
  have fA3 := fA2.grown hgrow3 (by simp)
  have fB3 := fB.grown hgrow3 (by simp)
  have hG : w1.heap.size + 1 ≤ w3.heap.size := by have := hgrow3.size; (try simp at this); omega
  have hB3 : Below w.heap.size w w3 := hB2.grown hgrow3 hB2.size (fun k h => by cases h)
  have hwG : w.heap.size ≤ w1.heap.size + 1 := by have := hB2.size; (try simp at this); omega
  clear fA2 fB hgrow3 hB2
  go_loopw [7, 69] (fun v iv wr => ∃ i q : Nat, i ≤ 20 ∧ iv = .int .i64 i ∧ Hid (q = i * 1) ∧ v = .slice (some ⟨w1.heap.size + 1, 0, none⟩) q 20 ∧
      wr.ownsRow (w1.heap.size + 1) 45 2 (.slice (some ⟨w1.heap.size + 1, 0, none⟩) q 20) q (prs (holtPart downF [be] i 0)) ∧ Below (w1.heap.size + 1) w3 wr) (fun _ iv _ => 20 - (intOf iv).toNat)
  case atStart => exact ⟨0, 0, by omega, rfl, rfl, rfl, hown3, Below.refl _ _⟩
  case round =>
    obtain ⟨i, q, hi', rfl, hq, rfl, hown, hnx⟩ := hrel
    by_cases hlt : i < 20
    · have c1 := (fA3.below hnx gA).at (j := i) (by rw [HAL.out]; exact hlt)
      have hd : decide ((i : Int) < 20) = true := by simp; omega
      go_wp2
      clear c1
      obtain ⟨wo, rfl⟩ : ∃ wo : World, wo = wr := ⟨_, rfl⟩
      go_loopw [7, 75] (fun v iv wr => ∃ j p : Nat, j ≤ 1 ∧ iv = .int .i64 j ∧ Hid (p = i * 1 + j) ∧ v = .slice (some ⟨w1.heap.size + 1, 0, none⟩) p 20 ∧
          wr.ownsRow (w1.heap.size + 1) 45 2 (.slice (some ⟨w1.heap.size + 1, 0, none⟩) p 20) p (prs (holtPart downF [be] i j)) ∧ Below (w1.heap.size + 1) w3 wr) (fun _ iv _ => 1 - (intOf iv).toNat)
      case atStart => exact ⟨0, q, by omega, rfl, hq, rfl, hown, hnx⟩
      case round =>
        clear hown hnx
        obtain ⟨j, p, hj', rfl, hp, rfl, hown, hnx⟩ := hrel
        have hpo := hp.out
        by_cases hjlt : j < 1
        · have c2 := (fB3.below hnx gB).at (j := j) (by rw [HBL.out]; exact hjlt)
          have hpc : p + 1 ≤ 20 := by omega
          clear hpo
          go_wp2_with (at_builtin; refine wpList_append_fits _ rfl _ _ 35 rfl (w1.heap.size + 1) 45 i0 2 Try.underlying35 hi hz1 (w1.heap.size + 1) p 20 _ rfl (hown.alloc _) ⟨wr.heap.size, 0, none⟩ 1 1 [.float .f64 (atN downF i), .float .f64 (atN [be] j)] rfl rfl (pair_new _ _ _ _) (prs_oneCell [(atN downF i, atN [be] j)]) hpc ?_; intro w4 hown4 hgrow4)
          have k1 : Hid (p + 1 = i * 1 + (j + 1)) := by show p + 1 = i * 1 + (j + 1); have := hp.out; omega
          have k2 : w4.ownsRow (w1.heap.size + 1) 45 2 (.slice (some ⟨w1.heap.size + 1, 0, none⟩) (p + 1) 20) (p + 1) (prs (holtPart downF [be] i (j + 1))) := by
            rw [← holtPart_step downF [be] i j (by rw [HBL.out]; exact hjlt), prs_append]
            exact hown4
          have k3 : Below (w1.heap.size + 1) w3 w4 := (hnx.alloc (Nat.le_trans hG hnx.size) _).grown hgrow4 (by have := hnx.size; simp; omega) (fun k hk => by cases hk; exact Nat.le_refl _)
          go_roundw
          case rel => first | exact ⟨j + 1, p + 1, by omega, by go_num, k1, rfl, k2, k3⟩ | ((repeat apply Exists.intro); refine ⟨?_, rfl⟩; exact ⟨j + 1, p + 1, by omega, by go_num, k1, rfl, k2, k3⟩)
          case measure => simp [intOf]; omega
        · obtain rfl : j = 1 := by omega
          clear hpo
          go_wp2
          go_roundw
          case rel =>
            refine ⟨i + 1, p, by omega, by go_num, (by show p = (i + 1) * 1; have := hp.out; omega), rfl, ?_, hnx⟩
            rw [← holtPart_next downF [be] i (by rw [HAL.out]; exact hlt), HBL.out]
            exact hown
          case measure => simp [intOf]; omega
    · obtain rfl : i = 20 := by omega
      have hl : (holtP downF [be]).length = q := by rw [holtP_len, HAL.out, HBL.out]; have := hq.out; omega
      have he : holtPart downF [be] 20 0 = holtP downF [be] := by
        have := holtPart_end downF [be]
        rwa [HAL.out] at this
      rw [he] at hown
      have HL := hide hl
      have hB4 : Below w.heap.size w wr := hB3.trans (hnx.mono hwG)
      clear hl he hq
      go_wp2
      go_ret
      exact ⟨_, _, by rw [HL.out]; rfl, PF.of_owns hown, hB4⟩

set_option maxHeartbeats 1000000 in
theorem holt_tf (th al be : Nat) (ft : Bool) (offset : Int) (w : World) :
    Calls Try.prog 17 #[settings 2 th al be ft true false offset] w (CandPost w (holtP [al] upF)) := by
  have hAL : ([al] : List Nat).length = 1 := rfl
  have hBL : (upF : List Nat).length = 20 := upF_len
  have HAL : Hid (([al] : List Nat).length = 1) := hAL
  have HBL : Hid ((upF : List Nat).length = 20) := hBL
  clear hAL hBL
  obtain ⟨i0, hi, hz0, hz1, hz2⟩ := info_parts Try.info45
  unfold settings
  go_enter Try.func17, Try.ntmps17
  go_wp2_with fail
  refine (grid_up_call _).mono ?_
  rintro e w2 ⟨rfl, fB, hb2⟩
  have fA2 : Floats w2 (w.heap.size + 1) [al] := (lit_floats2 w _ al _).below hb2 (by simp)
  have hB2 : Below w.heap.size w w2 := ((((Below.refl _ _).alloc (Nat.le_refl _) _).alloc (by simp) _).alloc (by simp; omega) _).trans (hb2.mono (by simp; omega))
  simp only [World.size_alloc] at fB
  clear hb2
  go_wp2_with (at_make; refine wpList_make_own _ rfl _ _ 35 rfl (w2.heap.size) 45 i0 _ 2 Try.underlying35 hi hz0 hz1 _ _ _ 20 rfl rfl rfl (by rw [hz2]; omega) (by unfold maxLen; omega) (by simp) ?_; intro w3 hown3 hgrow3)
  try simp only [World.size_alloc] at hown3
  have gA : w.heap.size + 1 < w2.heap.size := by have := fA2.1; (try simp at this); omega
  have gB : w.heap.size + 1 + 1 + 1 < w2.heap.size := by have := fB.1; (try simp at this); omega
  have fA3 := fA2.grown hgrow3 (by simp)
  have fB3 := fB.grown hgrow3 (by simp)
  have hG : w2.heap.size ≤ w3.heap.size := by have := hgrow3.size; (try simp at this); omega
  have hB3 : Below w.heap.size w w3 := hB2.grown hgrow3 hB2.size (fun k h => by cases h)
  have hwG : w.heap.size ≤ w2.heap.size := by have := hB2.size; (try simp at this); omega
  clear fA2 fB hgrow3 hB2
  go_loopw [7, 69] (fun v iv wr => ∃ i q : Nat, i ≤ 1 ∧ iv = .int .i64 i ∧ Hid (q = i * 20) ∧ v = .slice (some ⟨w2.heap.size, 0, none⟩) q 20 ∧
      wr.ownsRow (w2.heap.size) 45 2 (.slice (some ⟨w2.heap.size, 0, none⟩) q 20) q (prs (holtPart [al] upF i 0)) ∧ Below (w2.heap.size) w3 wr) (fun _ iv _ => 1 - (intOf iv).toNat)
  case atStart => exact ⟨0, 0, by omega, rfl, rfl, rfl, hown3, Below.refl _ _⟩
  case round =>
    obtain ⟨i, q, hi', rfl, hq, rfl, hown, hnx⟩ := hrel
    by_cases hlt : i < 1
    · have c1 := (fA3.below hnx gA).at (j := i) (by rw [HAL.out]; exact hlt)
      have hd : decide ((i : Int) < 1) = true := by simp; omega
      go_wp2
      clear c1
      obtain ⟨wo, rfl⟩ : ∃ wo : World, wo = wr := ⟨_, rfl⟩
      go_loopw [7, 75] (fun v iv wr => ∃ j p : Nat, j ≤ 20 ∧ iv = .int .i64 j ∧ Hid (p = i * 20 + j) ∧ v = .slice (some ⟨w2.heap.size, 0, none⟩) p 20 ∧
          wr.ownsRow (w2.heap.size) 45 2 (.slice (some ⟨w2.heap.size, 0, none⟩) p 20) p (prs (holtPart [al] upF i j)) ∧ Below (w2.heap.size) w3 wr) (fun _ iv _ => 20 - (intOf iv).toNat)
      case atStart => exact ⟨0, q, by omega, rfl, hq, rfl, hown, hnx⟩
      case round =>
        clear hown hnx
        obtain ⟨j, p, hj', rfl, hp, rfl, hown, hnx⟩ := hrel
        have hpo := hp.out
        by_cases hjlt : j < 20
        · have c2 := (fB3.below hnx gB).at (j := j) (by rw [HBL.out]; exact hjlt)
          have hpc : p + 1 ≤ 20 := by omega
          clear hpo
          go_wp2_with (at_builtin; refine wpList_append_fits _ rfl _ _ 35 rfl (w2.heap.size) 45 i0 2 Try.underlying35 hi hz1 (w2.heap.size) p 20 _ rfl (hown.alloc _) ⟨wr.heap.size, 0, none⟩ 1 1 [.float .f64 (atN [al] i), .float .f64 (atN upF j)] rfl rfl (pair_new _ _ _ _) (prs_oneCell [(atN [al] i, atN upF j)]) hpc ?_; intro w4 hown4 hgrow4)
          have k1 : Hid (p + 1 = i * 20 + (j + 1)) := by show p + 1 = i * 20 + (j + 1); have := hp.out; omega
          have k2 : w4.ownsRow (w2.heap.size) 45 2 (.slice (some ⟨w2.heap.size, 0, none⟩) (p + 1) 20) (p + 1) (prs (holtPart [al] upF i (j + 1))) := by
            rw [← holtPart_step [al] upF i j (by rw [HBL.out]; exact hjlt), prs_append]
            exact hown4
          have k3 : Below (w2.heap.size) w3 w4 := (hnx.alloc (Nat.le_trans hG hnx.size) _).grown hgrow4 (by have := hnx.size; simp; omega) (fun k hk => by cases hk; exact Nat.le_refl _)
          go_roundw
          case rel => first | exact ⟨j + 1, p + 1, by omega, by go_num, k1, rfl, k2, k3⟩ | ((repeat apply Exists.intro); refine ⟨?_, rfl⟩; exact ⟨j + 1, p + 1, by omega, by go_num, k1, rfl, k2, k3⟩)
          case measure => simp [intOf]; omega
        · obtain rfl : j = 20 := by omega
          clear hpo
          go_wp2
          go_roundw
          case rel =>
            refine ⟨i + 1, p, by omega, by go_num, (by show p = (i + 1) * 20; have := hp.out; omega), rfl, ?_, hnx⟩
            rw [← holtPart_next [al] upF i (by rw [HAL.out]; exact hlt), HBL.out]
            exact hown
          case measure => simp [intOf]; omega
    · obtain rfl : i = 1 := by omega
      have hl : (holtP [al] upF).length = q := by rw [holtP_len, HAL.out, HBL.out]; have := hq.out; omega
      have he : holtPart [al] upF 1 0 = holtP [al] upF := by
        have := holtPart_end [al] upF
        rwa [HAL.out] at this
      rw [he] at hown
      have HL := hide hl
      have hB4 : Below w.heap.size w wr := hB3.trans (hnx.mono hwG)
      clear hl he hq
      go_wp2
      go_ret
      exact ⟨_, _, by rw [HL.out]; rfl, PF.of_owns hown, hB4⟩

set_option maxHeartbeats 1000000 in
theorem holt_tt (th al be : Nat) (ft : Bool) (offset : Int) (w : World) :
    Calls Try.prog 17 #[settings 2 th al be ft true true offset] w (CandPost w (holtP [al] [be])) := by
  have hAL : ([al] : List Nat).length = 1 := rfl
  have hBL : ([be] : List Nat).length = 1 := rfl
  have HAL : Hid (([al] : List Nat).length = 1) := hAL
  have HBL : Hid (([be] : List Nat).length = 1) := hBL
  clear hAL hBL
  obtain ⟨i0, hi, hz0, hz1, hz2⟩ := info_parts Try.info45
  unfold settings
  go_enter Try.func17, Try.ntmps17
  obtain ⟨o1, HO⟩ : ∃ o1 : Obj, Hid (o1 = .cells #[.int .i64 2, .float .f64 th, .float .f64 al, .float .f64 be, .bool ft, .bool true, .bool true, .int .i64 offset] 39) := ⟨_, rfl⟩
  have fA2 : Floats (((w.alloc (.cells #[.int .i64 2, .float .f64 th, .float .f64 al, .float .f64 be, .bool ft, .bool true, .bool true, .int .i64 offset] 39)).alloc (.cells #[.float .f64 al] 24)).alloc (.cells #[.float .f64 be] 24)) (w.heap.size + 1) [al] := lit_floats2 w _ al _
  have fB : Floats (((w.alloc (.cells #[.int .i64 2, .float .f64 th, .float .f64 al, .float .f64 be, .bool ft, .bool true, .bool true, .int .i64 offset] 39)).alloc (.cells #[.float .f64 al] 24)).alloc (.cells #[.float .f64 be] 24)) (w.heap.size + 1 + 1) [be] := lit_floats3 w _ _ be
  have hB2 : Below w.heap.size w (((w.alloc (.cells #[.int .i64 2, .float .f64 th, .float .f64 al, .float .f64 be, .bool ft, .bool true, .bool true, .int .i64 offset] 39)).alloc (.cells #[.float .f64 al] 24)).alloc (.cells #[.float .f64 be] 24)) := (((Below.refl _ _).alloc (Nat.le_refl _) _).alloc (by simp) _).alloc (by simp; omega) _
  clear HO o1
  go_wp2_with (at_make; refine wpList_make_own _ rfl _ _ 35 rfl (w.heap.size + 1 + 1 + 1) 45 i0 _ 2 Try.underlying35 hi hz0 hz1 _ _ _ 1 rfl rfl rfl (by rw [hz2]; omega) (by unfold maxLen; omega) (by simp) ?_; intro w3 hown3 hgrow3)
  try simp only [World.size_alloc] at hown3
  have gA : w.heap.size + 1 < w.heap.size + 1 + 1 + 1 := by have := fA2.1; (try simp at this); omega
  have gB : w.heap.size + 1 + 1 < w.heap.size + 1 + 1 + 1 := by have := fB.1; (try simp at this); omega
  have fA3 := fA2.grown hgrow3 (by simp)
  have fB3 := fB.grown hgrow3 (by simp)
  have hG : w.heap.size + 1 + 1 + 1 ≤ w3.heap.size := by have := hgrow3.size; (try simp at this); omega
  have hB3 : Below w.heap.size w w3 := hB2.grown hgrow3 hB2.size (fun k h => by cases h)
  have hwG : w.heap.size ≤ w.heap.size + 1 + 1 + 1 := by have := hB2.size; (try simp at this); omega
  clear fA2 fB hgrow3 hB2
  go_loopw [7, 69] (fun v iv wr => ∃ i q : Nat, i ≤ 1 ∧ iv = .int .i64 i ∧ Hid (q = i * 1) ∧ v = .slice (some ⟨w.heap.size + 1 + 1 + 1, 0, none⟩) q 1 ∧
      wr.ownsRow (w.heap.size + 1 + 1 + 1) 45 2 (.slice (some ⟨w.heap.size + 1 + 1 + 1, 0, none⟩) q 1) q (prs (holtPart [al] [be] i 0)) ∧ Below (w.heap.size + 1 + 1 + 1) w3 wr) (fun _ iv _ => 1 - (intOf iv).toNat)
  case atStart => exact ⟨0, 0, by omega, rfl, rfl, rfl, hown3, Below.refl _ _⟩
  case round =>
    obtain ⟨i, q, hi', rfl, hq, rfl, hown, hnx⟩ := hrel
    by_cases hlt : i < 1
    · have c1 := (fA3.below hnx gA).at (j := i) (by rw [HAL.out]; exact hlt)
      have hd : decide ((i : Int) < 1) = true := by simp; omega
      go_wp2
      clear c1
      obtain ⟨wo, rfl⟩ : ∃ wo : World, wo = wr := ⟨_, rfl⟩
      go_loopw [7, 75] (fun v iv wr => ∃ j p : Nat, j ≤ 1 ∧ iv = .int .i64 j ∧ Hid (p = i * 1 + j) ∧ v = .slice (some ⟨w.heap.size + 1 + 1 + 1, 0, none⟩) p 1 ∧
          wr.ownsRow (w.heap.size + 1 + 1 + 1) 45 2 (.slice (some ⟨w.heap.size + 1 + 1 + 1, 0, none⟩) p 1) p (prs (holtPart [al] [be] i j)) ∧ Below (w.heap.size + 1 + 1 + 1) w3 wr) (fun _ iv _ => 1 - (intOf iv).toNat)
      case atStart => exact ⟨0, q, by omega, rfl, hq, rfl, hown, hnx⟩
      case round =>
        clear hown hnx
        obtain ⟨j, p, hj', rfl, hp, rfl, hown, hnx⟩ := hrel
        have hpo := hp.out
        by_cases hjlt : j < 1
        · have c2 := (fB3.below hnx gB).at (j := j) (by rw [HBL.out]; exact hjlt)
          have hpc : p + 1 ≤ 1 := by omega
          clear hpo
          go_wp2_with (at_builtin; refine wpList_append_fits _ rfl _ _ 35 rfl (w.heap.size + 1 + 1 + 1) 45 i0 2 Try.underlying35 hi hz1 (w.heap.size + 1 + 1 + 1) p 1 _ rfl (hown.alloc _) ⟨wr.heap.size, 0, none⟩ 1 1 [.float .f64 (atN [al] i), .float .f64 (atN [be] j)] rfl rfl (pair_new _ _ _ _) (prs_oneCell [(atN [al] i, atN [be] j)]) hpc ?_; intro w4 hown4 hgrow4)
          have k1 : Hid (p + 1 = i * 1 + (j + 1)) := by show p + 1 = i * 1 + (j + 1); have := hp.out; omega
          have k2 : w4.ownsRow (w.heap.size + 1 + 1 + 1) 45 2 (.slice (some ⟨w.heap.size + 1 + 1 + 1, 0, none⟩) (p + 1) 1) (p + 1) (prs (holtPart [al] [be] i (j + 1))) := by
            rw [← holtPart_step [al] [be] i j (by rw [HBL.out]; exact hjlt), prs_append]
            exact hown4
          have k3 : Below (w.heap.size + 1 + 1 + 1) w3 w4 := (hnx.alloc (Nat.le_trans hG hnx.size) _).grown hgrow4 (by have := hnx.size; simp; omega) (fun k hk => by cases hk; exact Nat.le_refl _)
          go_roundw
          case rel => first | exact ⟨j + 1, p + 1, by omega, by go_num, k1, rfl, k2, k3⟩ | ((repeat apply Exists.intro); refine ⟨?_, rfl⟩; exact ⟨j + 1, p + 1, by omega, by go_num, k1, rfl, k2, k3⟩)
          case measure => simp [intOf]; omega
        · obtain rfl : j = 1 := by omega
          clear hpo
          go_wp2
          go_roundw
          case rel =>
            refine ⟨i + 1, p, by omega, by go_num, (by show p = (i + 1) * 1; have := hp.out; omega), rfl, ?_, hnx⟩
            rw [← holtPart_next [al] [be] i (by rw [HAL.out]; exact hlt), HBL.out]
            exact hown
          case measure => simp [intOf]; omega
    · obtain rfl : i = 1 := by omega
      have hl : (holtP [al] [be]).length = q := by rw [holtP_len, HAL.out, HBL.out]; have := hq.out; omega
      have he : holtPart [al] [be] 1 0 = holtP [al] [be] := by
        have := holtPart_end [al] [be]
        rwa [HAL.out] at this
      rw [he] at hown
      have HL := hide hl
      have hB4 : Below w.heap.size w wr := hB3.trans (hnx.mono hwG)
      clear hl he hq
      go_wp2
      go_ret
      exact ⟨_, _, by rw [HL.out]; rfl, PF.of_owns hown, hB4⟩

end Go.Proofs.Qxb6601956a
