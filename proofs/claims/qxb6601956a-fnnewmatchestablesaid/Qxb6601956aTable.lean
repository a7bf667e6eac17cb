/-
  The candidates by their index; no Go in sight.
-/
import Derived.Test.Qxb6601956aPairs
namespace Go.Proofs.Qxb6601956a
open Fl

/-- A list by its index. -/
def byIx (n : Nat) (f : Nat → Nat) : List Nat := (List.range n).map f
theorem byIx_len (n : Nat) (f : Nat → Nat) : (byIx n f).length = n := by simp [byIx]
theorem byIx_at (n : Nat) (f : Nat → Nat) (i : Nat) (h : i < n) : atN (byIx n f) i = f i := by simp [byIx, atN, h]

theorem fst_ix (n : Nat) (f g : Nat → Nat) : ((List.range n).map fun i => (f i, g i)).map Prod.fst = byIx n f := by rw [List.map_map]; rfl
theorem snd_ix (n : Nat) (f g : Nat → Nat) : ((List.range n).map fun i => (f i, g i)).map Prod.snd = byIx n g := by rw [List.map_map]; rfl

/-- The alpha of place i in ARIMA011's order, in hundredths. -/
def am (i : Nat) : Int := if i % 2 = 0 then 100 + ((i / 2 : Nat) : Int) else 100 - (((i + 1) / 2 : Nat) : Int)
theorem f100_100 : f100 100 = 4607182418800017408 := by decide +kernel
theorem arima_range : ∀ k, arimaP k = (List.range (2 * k + 1)).map fun i => (f100 (am i), 0)
  | 0 => by simp [arimaP, am, f100_100]
  | k + 1 => by
    have e : List.range (2 * (k + 1) + 1) = List.range (2 * k + 1) ++ [2 * k + 1, 2 * k + 1 + 1] := by
      rw [show 2 * (k + 1) + 1 = (2 * k + 1) + 1 + 1 by omega, List.range_succ (n := 2 * k + 1 + 1), List.range_succ (n := 2 * k + 1), List.append_assoc]
      rfl
    rw [arimaP, arima_range k, e, List.map_append]
    have e1 : am (2 * k + 1) = 100 - ((k + 1 : Nat) : Int) := by
      unfold am; rw [if_neg (by omega)]; congr 1; omega
    have e2 : am (2 * k + 1 + 1) = 100 + ((k + 1 : Nat) : Int) := by
      unfold am; rw [if_pos (by omega)]; congr 1; omega
    rw [List.map_cons, List.map_cons, List.map_nil, e1, e2]
theorem am_mem (i : Nat) (h : i < 199) : 1 ≤ am i ∧ am i ≤ 199 := by unfold am; split <;> omega
theorem am_inj (i j : Nat) (h : am i = am j) : i = j := by unfold am at h; split at h <;> split at h <;> omega

theorem arima_fst : (arimaP 99).map Prod.fst = byIx 199 fun i => f100 (am i) := by rw [arima_range]; exact fst_ix _ _ _
theorem arima_snd : (arimaP 99).map Prod.snd = byIx 199 fun _ => 0 := by rw [arima_range]; exact snd_ix _ _ _

/-! ### Holt -/
theorem down_list : gks (-1) 20 20 = (List.range 20).map fun i => 20 - ((i : Nat) : Int) := by decide +kernel
theorem up_list : gks 1 20 1 = (List.range 20).map fun i => ((i : Nat) : Int) + 1 := by decide +kernel
theorem pairs_range : ((List.range 20).flatMap fun a => (List.range 20).map fun b => (a, b)) = (List.range 400).map fun i => (i / 20, i % 20) := by decide +kernel
theorem holt_map (f g : Nat → Nat) : holtP ((List.range 20).map f) ((List.range 20).map g) = (List.range 400).map fun i => (f (i / 20), g (i % 20)) := by
  have h := congrArg (List.map fun p : Nat × Nat => (f p.1, g p.2)) pairs_range
  simp only [List.map_flatMap, List.map_map] at h
  unfold holtP
  rw [List.flatMap_map]
  simp only [List.map_map]
  exact h
theorem holt_left (f : Nat → Nat) (b : Nat) : holtP ((List.range 20).map f) [b] = (List.range 20).map fun i => (f i, b) := by
  unfold holtP
  rw [List.flatMap_map]
  simp only [List.map_cons, List.map_nil]
  rw [List.map_eq_flatMap]
theorem holt_right (a : Nat) (g : Nat → Nat) : holtP [a] ((List.range 20).map g) = (List.range 20).map fun i => (a, g i) := by
  simp [holtP]

/-- 20/20, 19/20, .., by index; 1/20, 2/20, .. -/
def dn (i : Nat) : Nat := f20 (20 - (i : Int))
def up (i : Nat) : Nat := f20 ((i : Int) + 1)
theorem downs : (gks (-1) 20 20).map f20 = (List.range 20).map dn := by rw [down_list, List.map_map]; rfl
theorem ups : (gks 1 20 1).map f20 = (List.range 20).map up := by rw [up_list, List.map_map]; rfl

/-! ### Distinct floats -/
theorem read_normal (x : Nat) (h1 : 4503599627370496 ≤ x) (h2 : x < 9218868437227405312) :
    FloatKind.f64.format.read x = .number false (4503599627370496 + x % 4503599627370496) (-1074 + ((x / 4503599627370496 - 1 : Nat) : Int)) := by
  have hs : FloatKind.f64.format.signWeight = 9223372036854775808 := by decide +kernel
  have hb : FloatKind.f64.format.binade = 4503599627370496 := by decide +kernel
  have hi : FloatKind.f64.format.infRung = 9218868437227405312 := by decide +kernel
  have hl : FloatKind.f64.format.leastPlace = -1074 := by decide +kernel
  unfold Ieee.Format.read
  simp only [hs, hb, hi, hl]
  have e1 : x % 9223372036854775808 = x := Nat.mod_eq_of_lt (by omega)
  have e2 : x / 9223372036854775808 = 0 := Nat.div_eq_of_lt (by omega)
  rw [e1, e2, if_neg (by omega), if_pos (by omega)]
  rfl
theorem shift_ge {a b k : Nat} (ha : a < 2 * 4503599627370496) (hb : 4503599627370496 ≤ b) (h : a = b <<< k) : k = 0 := by
  rcases k with _ | k
  · rfl
  · rw [Nat.shiftLeft_eq, Nat.pow_succ] at h
    have : 0 < 2 ^ k := Nat.two_pow_pos k
    have h2 : b ≤ b * 2 ^ k := Nat.le_mul_of_pos_right b this
    rw [← Nat.mul_assoc] at h
    omega
/-- Two normal positive floats that compare equal have the same bits. -/
theorem ord_bits (x y : Nat) (h1 : 4503599627370496 ≤ x) (h2 : x < 9218868437227405312) (h3 : 4503599627370496 ≤ y) (h4 : y < 9218868437227405312)
    (h : FloatKind.f64.format.order x y = some .eq) : x = y := by
  unfold Ieee.Format.order at h
  rw [read_normal x h1 h2, read_normal y h3 h4] at h
  simp only [Ieee.Datum.order, Option.some.injEq] at h
  have h := compare_eq h
  simp only [Ieee.signed, Bool.false_eq_true, if_false, Int.ofNat_inj] at h
  have m1 : x % 4503599627370496 < 4503599627370496 := Nat.mod_lt _ (by omega)
  have m2 : y % 4503599627370496 < 4503599627370496 := Nat.mod_lt _ (by omega)
  rcases Nat.lt_trichotomy (x / 4503599627370496) (y / 4503599627370496) with hlt | heq | hgt
  · rw [show (-1074 + ((x / 4503599627370496 - 1 : Nat) : Int) - min (-1074 + ((x / 4503599627370496 - 1 : Nat) : Int)) (-1074 + ((y / 4503599627370496 - 1 : Nat) : Int))).toNat = 0 by omega, Nat.shiftLeft_zero] at h
    have := shift_ge (by omega) (by omega) h
    omega
  · rw [show (-1074 + ((x / 4503599627370496 - 1 : Nat) : Int) - min (-1074 + ((x / 4503599627370496 - 1 : Nat) : Int)) (-1074 + ((y / 4503599627370496 - 1 : Nat) : Int))).toNat = 0 by omega,
      show (-1074 + ((y / 4503599627370496 - 1 : Nat) : Int) - min (-1074 + ((x / 4503599627370496 - 1 : Nat) : Int)) (-1074 + ((y / 4503599627370496 - 1 : Nat) : Int))).toNat = 0 by omega, Nat.shiftLeft_zero, Nat.shiftLeft_zero] at h
    omega
  · rw [show (-1074 + ((y / 4503599627370496 - 1 : Nat) : Int) - min (-1074 + ((x / 4503599627370496 - 1 : Nat) : Int)) (-1074 + ((y / 4503599627370496 - 1 : Nat) : Int))).toNat = 0 by omega, Nat.shiftLeft_zero] at h
    have := shift_ge (by omega) (by omega) h.symm
    omega

/-- Back from m/100 to m. -/
def back (x : Nat) : Nat := match FloatKind.f64.format.read x with
  | .number _ m p => (m * 200 + 2 ^ (-p).toNat) / (2 * 2 ^ (-p).toNat)
  | _ => 0
theorem f100_facts : ∀ m : Fin 200, 1 ≤ m.val → back (f100 m.val) = m.val ∧ 4503599627370496 ≤ f100 m.val ∧ f100 m.val < 9218868437227405312 ∧
    FloatKind.f64.format.order (f100 m.val) 0 = some .gt ∧ FloatKind.f64.format.order (f100 m.val) 4611686018427387904 = some .lt := by decide +kernel
theorem f100_fact (m : Int) (h1 : 1 ≤ m) (h2 : m ≤ 199) : back (f100 m) = m.toNat ∧ 4503599627370496 ≤ f100 m ∧ f100 m < 9218868437227405312 ∧
    FloatKind.f64.format.order (f100 m) 0 = some .gt ∧ FloatKind.f64.format.order (f100 m) 4611686018427387904 = some .lt := by
  have h := f100_facts ⟨m.toNat, by omega⟩ (by simp; omega)
  have e : ((m.toNat : Nat) : Int) = m := by omega
  simpa only [e] using h
theorem f100_ne (m m' : Int) (h1 : 1 ≤ m) (h2 : m ≤ 199) (h3 : 1 ≤ m') (h4 : m' ≤ 199) (hne : m ≠ m') : (FloatKind.f64.format.order (f100 m) (f100 m') == some .eq) = false := by
  obtain ⟨b1, c1, d1, _⟩ := f100_fact m h1 h2
  obtain ⟨b2, c2, d2, _⟩ := f100_fact m' h3 h4
  rw [beq_eq_false_iff_ne]
  intro h
  have := ord_bits _ _ c1 d1 c2 d2 h
  rw [this, b2] at b1
  omega
theorem f20_ne (m m' : Int) (h1 : 1 ≤ m) (h2 : m ≤ 20) (h3 : 1 ≤ m') (h4 : m' ≤ 20) (hne : m ≠ m') : (FloatKind.f64.format.order (f20 m) (f20 m') == some .eq) = false := by
  rw [ord20 m m' h1 h2 h3 h4, beq_eq_false_iff_ne]
  intro h
  have := Nat.compare_eq_eq.1 (Option.some.inj h)
  omega

end Go.Proofs.Qxb6601956a
