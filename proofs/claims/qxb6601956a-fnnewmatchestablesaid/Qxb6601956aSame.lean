/-
  The contracts of sameF (14) and sameAll (12).
-/
import Derived.Test.Qxb6601956aRows
import Derived.Test.Qxb6601956aMem
import Derived.Test.Qxb6601956aFn
namespace Go.Proofs.Qxb6601956a
open Go.RowKit Fl

theorem sameF_any (x y : Nat) (w : World) (h : SameF x y) :
    Calls Try.prog 14 #[.float .f64 x, .float .f64 y] w fun e w' => e = .returned (.bool true) ∧ w' = w := by
  rcases ord_self x with hx | hx
  · have hy : ord y y = none := by
      rcases h with rfl | h
      · exact hx
      · exact h.2
    have h1 : FloatKind.f64.format.order x x = none := hx
    have h2 : FloatKind.f64.format.order y y = none := hy
    clear hx hy h
    go_enter Try.func14, Try.ntmps14
    go_wp2
    go_ret
    exact ⟨rfl, rfl⟩
  · have e : x = y := by
      rcases h with h | h
      · exact h
      · rw [h.1] at hx; cases hx
    subst e
    have h1 : FloatKind.f64.format.order x x = some .eq := hx
    by_cases hz : ord x 0 = some .eq
    · obtain ⟨r, hq, hr⟩ := inv_zero x hz
      have h2 : FloatKind.f64.format.order x 0 = some .eq := hz
      have h3 : FloatKind.f64.format.order r r = some .eq := hr
      have hop : ∀ t w, (binOp .quo t (.float .f64 4607182418800017408) (.float .f64 x)).run Try.prog w = .ok (.float .f64 r) w := fun t w => run_float_arith w .quo t .f64 _ _ _ hq
      clear h hx hz hq hr
      go_enter Try.func14, Try.ntmps14
      go_wp2
      go_ret
      exact ⟨rfl, rfl⟩
    · have h2 : (FloatKind.f64.format.order x 0 == some .eq) = false := by simpa [ord] using hz
      clear h hx hz
      go_enter Try.func14, Try.ntmps14
      go_wp2
      go_ret
      exact ⟨rfl, rfl⟩

/-- Two lists of floats, alike place by place. -/
def SameL (xs ys : List Nat) : Prop := xs.length = ys.length ∧ ∀ j, j < xs.length → SameF (atN xs j) (atN ys j)
theorem SameL.rfl' (xs : List Nat) : SameL xs xs := ⟨rfl, fun _ _ => SameF.rfl' _⟩

set_option maxHeartbeats 400000 in
theorem sameAll_any (g1 g2 c1 c2 : Nat) (n : Nat) (xs ys : List Nat) (w : World) (hn : n ≤ 65536) (hx : Floats w g1 xs) (hy : Floats w g2 ys) (lx : xs.length = n) (h : SameL xs ys) :
    Calls Try.prog 12 #[.slice (some ⟨g1, 0, none⟩) n c1, .slice (some ⟨g2, 0, none⟩) n c2] w fun e w' => e = .returned (.bool true) ∧ Drawn w w' := by
  have ly : ys.length = n := by rw [← h.1]; exact lx
  go_enter Try.func12, Try.ntmps12
  go_wp2
  go_loopw [5] (fun iv wr => ∃ k : Nat, k ≤ n ∧ iv = .int .i64 k ∧ Drawn w wr) (fun iv _ => n - (intOf iv).toNat)
  case atStart => exact ⟨0, Nat.zero_le _, rfl, Drawn.refl _⟩
  case round =>
    obtain ⟨k, hk, rfl, hdr⟩ := hrel
    by_cases hlt : k < n
    · have d1 := (hdr.floats hx).at (j := k) (by omega)
      have d2 := (hdr.floats hy).at (j := k) (by omega)
      have hs := h.2 k (by omega)
      have HS : Hid (SameF (atN xs k) (atN ys k)) := hs
      clear hs lx ly
      go_wp2
      go_quiet ((go_at_call 14; exact Calls.quiet_of_same (sameF_any _ _ _ HS.out)))
      go_wp2
      go_roundw
      case rel => exact ⟨k + 1, by omega, by go_num, hdr.drewN _⟩
      case measure => simp [intOf]; omega
    · go_wp2
      go_ret
      exact ⟨rfl, hdr⟩
end Go.Proofs.Qxb6601956a
