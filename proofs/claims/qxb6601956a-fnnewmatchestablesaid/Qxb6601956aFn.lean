/-
  Plain facts on floats, no Go in sight: a float beside itself; zero; the NaN that the tape gives.
-/
import Derived.Laws.FloatArith
import Derived.Laws.NewFold
namespace Go.Proofs.Qxb6601956a.Fl

/-- The order of two float64 by their bits. -/
def ord (x y : Nat) : Option Ordering := FloatKind.f64.format.order x y

theorem ord_self (x : Nat) : ord x x = none ∨ ord x x = some .eq := by
  unfold ord Ieee.Format.order
  cases h : FloatKind.f64.format.read x with
  | nan s t => left; rfl
  | infinity s => right; simp [Ieee.Datum.order]
  | number s m i => right; simp [Ieee.Datum.order]

/-- The same, or both NaN. -/
def SameF (x y : Nat) : Prop := x = y ∨ (ord x x = none ∧ ord y y = none)
theorem SameF.rfl' (x : Nat) : SameF x x := .inl rfl

theorem signed_zero {s : Bool} {m up : Nat} (h : Ieee.signed s m up = 0) : m = 0 := by
  unfold Ieee.signed at h
  have h' : m <<< up = 0 := by split at h <;> omega
  rw [Nat.shiftLeft_eq] at h'
  rcases Nat.mul_eq_zero.1 h' with h | h
  · exact h
  · have := Nat.two_pow_pos up; omega
theorem compare_eq {a b : Int} (h : compare a b = .eq) : a = b := by
  simpa using h

theorem inf_ok : ∀ s : Bool, ord (FloatKind.f64.format.write (.infinity s)) (FloatKind.f64.format.write (.infinity s)) = some .eq := by decide +kernel

/-- 1/x where x == 0: an infinity, which equals itself. -/
theorem inv_zero (x : Nat) (h : ord x 0 = some .eq) : ∃ r, floatBits .quo .f64 4607182418800017408 x = some r ∧ ord r r = some .eq := by
  unfold ord Ieee.Format.order at h
  have h0 : FloatKind.f64.format.read 0 = .number false 0 (-1074) := by decide +kernel
  have h1 : FloatKind.f64.format.read 4607182418800017408 = .number false 4503599627370496 (-52) := by decide +kernel
  rw [h0] at h
  show ∃ r, FloatKind.f64.format.div 4607182418800017408 x = some r ∧ _
  unfold Ieee.Format.div
  rw [h1]
  cases hx : FloatKind.f64.format.read x with
  | nan s t => rw [hx] at h; simp [Ieee.Datum.order] at h
  | infinity s => rw [hx] at h; simp [Ieee.Datum.order] at h; split at h <;> cases h
  | number s m i =>
    rw [hx] at h
    simp only [Ieee.Datum.order, Option.some.injEq] at h
    have hz : m = 0 := by
      have e := compare_eq h
      have e0 : Ieee.signed false 0 (-1074 - min i (-1074)).toNat = 0 := by simp [Ieee.signed]
      rw [e0] at e
      exact signed_zero e
    subst hz
    refine ⟨FloatKind.f64.format.write (.infinity (false ^^ s)), ?_, inf_ok _⟩
    simp [Ieee.Datum.quotient]

/-- The NaN that the tape gives for an operation without an answer. -/
def nanOf (w : World) (x y : Nat) : Nat := (Question.nanBits .f64 x y).cut (w.tape w.drawn (.nanBits .f64 x y))
theorem nanOf_nan (w : World) (x y : Nat) : ord (nanOf w x y) (nanOf w x y) = none := by
  unfold ord Ieee.Format.order nanOf Question.cut
  generalize w.tape w.drawn (.nanBits .f64 x y) = t
  have h1 : (t / 2) % (2 ^ 52 - 1) < 2 ^ 52 - 1 := Nat.mod_lt _ (by omega)
  have hread : ∃ s f, FloatKind.f64.format.read ((t % 2) * 2 ^ 63 + 0x7ff0000000000000 + 1 + (t / 2) % (2 ^ 52 - 1)) = .nan s f := by
    unfold Ieee.Format.read
    have hs : FloatKind.f64.format.signWeight = 9223372036854775808 := by decide +kernel
    have hb : FloatKind.f64.format.binade = 4503599627370496 := by decide +kernel
    have hi : FloatKind.f64.format.infRung = 9218868437227405312 := by decide +kernel
    simp only [hs, hb, hi]
    have hr : ((t % 2) * 2 ^ 63 + 0x7ff0000000000000 + 1 + (t / 2) % (2 ^ 52 - 1)) % 9223372036854775808 = 9218868437227405313 + (t / 2) % (2 ^ 52 - 1) := by omega
    rw [hr, if_neg (by omega), if_neg (by omega), if_neg (by omega)]
    exact ⟨_, _, rfl⟩
  obtain ⟨s, f, hread⟩ := hread
  simp only [hread]
  rfl

theorem run_nan {P : Program} (w : World) (op : BinOp) (t : TypeId) (x y : Nat) (h : floatBits op .f64 x y = none) (ho : op = .add) :
    (binOp op t (.float .f64 x) (.float .f64 y)).run P w = .ok (.float .f64 (nanOf w x y)) w.drew := by
  subst ho
  simp only [floatBits] at h
  simp [binOp, Op.floatArith, h, Question.forced, nanOf]

/-- What '1 + theta' may give. -/
def OnePlus (th r : Nat) : Prop := floatBits .add .f64 4607182418800017408 th = some r ∨ (floatBits .add .f64 4607182418800017408 th = none ∧ ord r r = none)
theorem OnePlus.same {th r r' : Nat} (h : OnePlus th r) (h' : OnePlus th r') : SameF r r' := by
  rcases h with h | ⟨h, hn⟩ <;> rcases h' with h' | ⟨h', hn'⟩
  · rw [h] at h'; exact .inl (Option.some.inj h')
  · rw [h] at h'; cases h'
  · rw [h] at h'; cases h'
  · exact .inr ⟨hn, hn'⟩

end Go.Proofs.Qxb6601956a.Fl
