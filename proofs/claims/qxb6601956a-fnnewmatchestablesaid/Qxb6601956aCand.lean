/-
  The contracts of zzSettings (18) and candidates (17).
-/
import Derived.Test.Qxb6601956aGrid
import Derived.Test.Qxb6601956aPairs
namespace Go.Proofs.Qxb6601956a
open Go.RowKit Fl
attribute [local go_sem] store_float

theorem Try.info45 : (Try.prog.info? 45).map (fun i => (i.zero, i.size, i.bytes)) = some (some (.agg #[.float .f64 0, .float .f64 0]), 2, 16) := by kernel_rfl

/-- The Settings as a value. -/
def settings (model : Int) (th al be : Nat) (ft fa fb : Bool) (offset : Int) : Value :=
  .agg #[.int .i64 model, .float .f64 th, .float .f64 al, .float .f64 be, .bool ft, .bool fa, .bool fb, .int .i64 offset]

theorem settings_any (model : Int) (th al be : Nat) (ft fa fb : Bool) (offset : Int) (w : World) :
    Calls Try.prog 18 #[.int .i64 model, .float .f64 th, .float .f64 al, .float .f64 be, .bool ft, .bool fa, .bool fb, .int .i64 offset] w fun e w' =>
      e = .returned (settings model th al be ft fa fb offset) ∧ Below w.heap.size w w' := by
  unfold settings
  go_enter Try.func18, Try.ntmps18
  go_wp2
  exact bodyPost_ret (v := .agg #[.int .i64 model, .float .f64 th, .float .f64 al, .float .f64 be, .bool ft, .bool fa, .bool fb, .int .i64 offset]) (by simp [results, Try.results18, go_sem]) rfl ⟨rfl, (Below.refl _ _).alloc (Nat.le_refl _) _⟩

theorem lit_pf (w : World) (o : Obj) (a b : Nat) : PF ((w.alloc o).alloc (.cells #[.float .f64 a, .float .f64 b] 45)) (w.heap.size + 1) [(a, b)] ∧ Below w.heap.size w ((w.alloc o).alloc (.cells #[.float .f64 a, .float .f64 b] 45)) := by
  have hb : Below w.heap.size w (w.alloc o) := (Below.refl _ _).alloc (Nat.le_refl _) _
  have hs : (w.alloc o).heap.size = w.heap.size + 1 := by simp
  have h := PF.of_owns (ps := [(a, b)]) (World.ownsRow_lit (base := w.heap.size) (e := 45) (size := 2) (w.alloc o) #[.float .f64 a, .float .f64 b] 1 hb.size (by unfold maxLen; omega) rfl)
  rw [hs] at h
  exact ⟨h, hb.alloc hb.size _⟩
theorem lit_pf_drew (w : World) (o : Obj) (a b : Nat) : PF ((w.alloc o).alloc (.cells #[.float .f64 a, .float .f64 b] 45)).drew (w.heap.size + 1) [(a, b)] ∧ Below w.heap.size w ((w.alloc o).alloc (.cells #[.float .f64 a, .float .f64 b] 45)).drew :=
  ⟨(lit_pf w o a b).1, (lit_pf w o a b).2.drew⟩

theorem lit_owns (w : World) (o : Obj) (a b : Nat) : ((w.alloc o).alloc (.cells #[.float .f64 a, .float .f64 b] 45)).ownsRow w.heap.size 45 2 (.slice (some ⟨w.heap.size + 1, 0, none⟩) 1 1) 1 [.float .f64 a, .float .f64 b] := by
  have hb : Below w.heap.size w (w.alloc o) := (Below.refl _ _).alloc (Nat.le_refl _) _
  have hs : (w.alloc o).heap.size = w.heap.size + 1 := by simp
  have h := World.ownsRow_lit (base := w.heap.size) (e := 45) (size := 2) (w.alloc o) #[.float .f64 a, .float .f64 b] 1 hb.size (by unfold maxLen; omega) rfl
  rw [hs] at h
  exact h

theorem own_pf {w : World} {B : Nat} {v : Value} {n : Nat} {ps : List (Nat × Nat)} (h : w.ownsRow B 45 2 v n (prs ps)) (hn : 0 < n) : ∃ g cap, v = .slice (some ⟨g, 0, none⟩) n cap ∧ PF w g ps := by
  rcases h.2 with ⟨_, h0⟩ | ⟨g, cap, cur, rfl, _⟩
  · omega
  · exact ⟨g, cap, rfl, PF.of_owns h⟩

/-- What candidates gives. -/
def CandPost (w : World) (ps : List (Nat × Nat)) (e : Ending) (w' : World) : Prop :=
  ∃ g cap, e = .returned (.slice (some ⟨g, 0, none⟩) ps.length cap) ∧ PF w' g ps ∧ Below w.heap.size w w'

theorem cand_last (model : Int) (th al be : Nat) (ft fa fb : Bool) (offset : Int) (w : World) (h1 : ¬ model = 1) (h2 : ¬ model = 2) :
    Calls Try.prog 17 #[settings model th al be ft fa fb offset] w (CandPost w [(4607182418800017408, 0)]) := by
  unfold settings
  go_enter Try.func17, Try.ntmps17
  go_wp2
  go_ret
  exact ⟨_, _, rfl, lit_pf w _ _ _⟩

theorem cand_fix (th al be : Nat) (fa fb : Bool) (offset : Int) (w : World) :
    Calls Try.prog 17 #[settings 1 th al be true fa fb offset] w fun e w' => ∃ r, OnePlus th r ∧ CandPost w [(r, 0)] e w' := by
  unfold settings
  cases hq : floatBits .add .f64 4607182418800017408 th with
  | some r =>
    have hop : ∀ t w, (binOp .add t (.float .f64 4607182418800017408) (.float .f64 th)).run Try.prog w = .ok (.float .f64 r) w := fun t w => run_float_arith w .add t .f64 _ _ _ hq
    have HQ : Hid (floatBits .add .f64 4607182418800017408 th = some r) := hq
    clear hq
    go_enter Try.func17, Try.ntmps17
    go_wp2
    go_ret
    exact ⟨r, .inl HQ.out, _, _, rfl, lit_pf w _ _ _⟩
  | none =>
    have hop : ∀ t w, (binOp .add t (.float .f64 4607182418800017408) (.float .f64 th)).run Try.prog w = .ok (.float .f64 (nanOf w 4607182418800017408 th)) w.drew := fun t w => run_nan w .add t _ _ hq rfl
    have HQ : Hid (floatBits .add .f64 4607182418800017408 th = none) := hq
    clear hq
    go_enter Try.func17, Try.ntmps17
    go_wp2
    go_ret
    exact ⟨_, .inr ⟨HQ.out, nanOf_nan _ _ _⟩, _, _, rfl, lit_pf_drew w _ _ _⟩

set_option maxHeartbeats 400000 in
theorem cand_arima (th al be : Nat) (fa fb : Bool) (offset : Int) (w : World) :
    Calls Try.prog 17 #[settings 1 th al be false fa fb offset] w (CandPost w (arimaP 99)) := by
  obtain ⟨i0, hi, hz0, hz1, hz2⟩ := info_parts Try.info45
  unfold settings
  go_enter Try.func17, Try.ntmps17
  go_wp2
  go_loopw [3, 4] (fun v iv wr => ∃ (k : Nat) (m : Int), k ≤ 99 ∧ iv = .int .i64 m ∧ Hid (m = ((k + 1 : Nat) : Int)) ∧ 1 ≤ m ∧ m ≤ 100 ∧ wr.ownsRow w.heap.size 45 2 v (2 * k + 1) (prs (arimaP k)) ∧ Below w.heap.size w wr)
    (fun _ iv _ => 100 - (intOf iv).toNat)
  case atStart => exact ⟨0, 1, by omega, rfl, rfl, by omega, by omega, lit_owns w _ _ _, (lit_pf w _ _ _).2⟩
  case round =>
    obtain ⟨k, m, hk, rfl, hm, m1, m2, hown, hb⟩ := hrel
    by_cases hlt : m ≤ 99
    · have hq1 := f100_is (100 - m) (by omega) (by omega)
      have hq2 := f100_is (100 + m) (by omega) (by omega)
      have hop1 : ∀ t w, (binOp .quo t (.float .f64 (floatOfInt .f64 (100 - m))) (.float .f64 4636737291354636288)).run Try.prog w = .ok (.float .f64 (f100 (100 - m))) w := fun t w => run_float_arith w .quo t .f64 _ _ _ hq1
      have hop2 : ∀ t w, (binOp .quo t (.float .f64 (floatOfInt .f64 (100 + m))) (.float .f64 4636737291354636288)).run Try.prog w = .ok (.float .f64 (f100 (100 + m))) w := fun t w => run_float_arith w .quo t .f64 _ _ _ hq2
      clear hq1 hq2
      go_wp2_with (at_builtin; refine wpList_append_own _ rfl _ _ 35 rfl w.heap.size 45 i0 _ 2 16 Try.underlying35 hi hz0 hz1 hz2 rfl (by decide) _ (2 * k + 1) (prs (arimaP k)) rfl (hown.alloc _) ⟨wr.heap.size, 0, none⟩ 2 2 [.float .f64 (f100 (100 - m)), .float .f64 0, .float .f64 (f100 (100 + m)), .float .f64 0] rfl rfl (two_new _ _ _ _ _ _) (prs_oneCell [(f100 (100 - m), 0), (f100 (100 + m), 0)]) (by unfold maxLen; omega) (by omega) (by simp; have := hb.size; omega) ?_; intro v' w1 hown1 hgrow1 hv)
      have hmk := hm.out
      go_roundw
      case rel =>
        refine ⟨k + 1, m + 1, by omega, rfl, (by show m + 1 = _; omega), by omega, by omega, ?_, ?_⟩
        · rw [arimaP, prs_append, ← hmk, show 2 * (k + 1) + 1 = 2 * k + 1 + 2 by omega]
          exact hown1
        · exact (hb.alloc hb.size _).grown hgrow1 (by simp; have := hb.size; omega) (fun j hj => (hown.lt j hj).1)
      case measure => simp [intOf]; omega
    · have hmk := hm.out
      obtain rfl : k = 99 := by omega
      clear hmk hm
      obtain ⟨g, cap, rfl, hp⟩ := own_pf hown (by omega)
      go_wp2
      go_ret
      exact ⟨g, cap, by rw [arimaP_len]; rfl, hp, hb⟩
end Go.Proofs.Qxb6601956a
