/-
  The walks of the two laws (3, 4).
-/
import Derived.Test.Qxb6002584aGaps
namespace Go.Proofs.Qxb6002584a
open Go.RowKit RunSum

theorem runs_zero (a : Addr) (cap : Nat) (w : World) :
    Calls Try.prog 6 #[.slice (some a) 0 cap] w fun e w' => e = .returned (.slice (some ⟨w.heap.size, 0, none⟩) 0 0) ∧ Below w.heap.size w w' := by
  have hnil := fun (w : World) (a : Option Addr) (n c : Nat) => Lib.run_eql_slice_nil (P := Try.prog) w 22 31 a n c 0 0 Try.underlying22
  obtain ⟨i0, hi, hz0, hz1, hz2⟩ := info_parts Try.info32
  go_enter Try.func6, Try.ntmps6
  go_wp2_with (at_make; refine wpList_make_full _ rfl _ _ 25 rfl w.heap.size 32 i0 _ 2 Try.underlying25 hi hz0 hz1 _ _ _ _ 0 rfl rfl rfl rfl (by rw [hz2]; omega) (by unfold maxLen; omega) (Nat.le_refl _) ?_; intro w1 hown1 hgrow1)
  go_loopw [4] (fun iv wr => iv = .int .i64 0 ∧ wr = w1) (fun _ _ => 0)
  case atStart => exact ⟨rfl, rfl⟩
  case round =>
    obtain ⟨rfl, rfl⟩ := hrel
    go_wp2
    go_ret
    exact ⟨rfl, (Below.refl _ _).grown hgrow1 (Nat.le_refl _) (fun k h => by cases h)⟩

theorem hide {p : Prop} (h : p) : Hid p := h

/-- What the walks are told of the argument. -/
def IsSpans (w : World) (a : Option Addr) (len cap : Nat) (F L : Nat → Int) : Prop :=
  (a = none ∧ len = 0 ∧ cap = 0) ∨ (∃ x, a = some x ∧ len = 0) ∨ ∃ b off, a = some ⟨b, off, none⟩ ∧ 0 < len ∧ Pairs w b off F L len

/-- Law 3 where the slice is short enough, by its parts. -/
theorem span_nil (w : World) : Calls Try.prog 3 #[.slice none 0 0] w fun e w' => e = .returned (.bool true) ∧ Below w.heap.size w w' := by
  go_enter Try.func3, Try.ntmps3
  go_wp2_with (first
    | (go_at_call 5; refine (bytes5 none 0 0 _ (by omega)).mono ?_; rintro e w' ⟨rfl, rfl⟩)
    | (go_at_call 6; refine (runs_nil _).mono ?_; rintro e w' ⟨rfl, rfl⟩)
    | (go_at_call 7; refine (len_zero none 0 _).mono ?_; rintro e w2 ⟨rfl, hb2⟩)
    | (go_at_call 8; refine (gaps_zero none 0 _).mono ?_; rintro e w3 ⟨rfl, hb3⟩))
  go_ret
  exact ⟨rfl, hb2.trans (hb3.mono hb2.size)⟩
theorem span_zero (x : Addr) (cap : Nat) (w : World) : Calls Try.prog 3 #[.slice (some x) 0 cap] w fun e w' => e = .returned (.bool true) ∧ Below w.heap.size w w' := by
  go_enter Try.func3, Try.ntmps3
  go_wp2_with (first
    | (go_at_call 5; refine (bytes5 _ 0 _ _ (by omega)).mono ?_; rintro e w' ⟨rfl, rfl⟩)
    | (go_at_call 6; refine (runs_zero _ _ _).mono ?_; rintro e w1 ⟨rfl, hb1⟩)
    | (go_at_call 7; refine (len_zero _ 0 _).mono ?_; rintro e w2 ⟨rfl, hb2⟩)
    | (go_at_call 8; refine (gaps_zero _ _ _).mono ?_; rintro e w3 ⟨rfl, hb3⟩))
  go_ret
  have h2 := hb1.trans (hb2.mono hb1.size)
  exact ⟨rfl, h2.trans (hb3.mono h2.size)⟩
theorem gaps_pos (g off n cap : Nat) (F L : Nat → Int) (w : World) (hn : n ≤ 65536) (h0 : 0 < n) (hp : Pairs w g off F L n) :
    Calls Try.prog 8 #[.slice (some ⟨g, off, none⟩) n cap] w fun e w' => e = .returned (.int .i64 (wrap64 (lenZ F L n))) ∧ Below w.heap.size w w' := by
  obtain ⟨m, rfl⟩ : ∃ m, n = m + 1 := ⟨n - 1, by omega⟩
  exact gaps_any g off m cap F L w hn hp
theorem span_some (b off n cap : Nat) (F L : Nat → Int) (w : World) (hn : n ≤ 65536) (h0 : 0 < n) (hp : Pairs w b off F L n) :
    Calls Try.prog 3 #[.slice (some ⟨b, off, none⟩) n cap] w fun e w' => e = .returned (.bool true) ∧ Below w.heap.size w w' := by
  have hn' : n ≤ 1048576 := by omega
  go_enter Try.func3, Try.ntmps3
  go_wp2_with fail
  refine (bytes5 (some ⟨b, off, none⟩) n cap w hn').mono ?_
  rintro e w' ⟨rfl, rfl⟩
  go_wp2_with fail
  refine (runs_any b off n cap F L _ hn hp).mono ?_
  rintro e w1 ⟨rfl, hp1, hb1⟩
  go_wp2_with fail
  refine (len_any _ 0 n n F L _ hn hp1).mono ?_
  rintro e w2 ⟨rfl, hb2⟩
  have h2 := hb1.trans (hb2.mono hb1.size)
  go_wp2_with fail
  refine (gaps_pos b off n cap F L _ hn h0 (hp.below h2 hp.1)).mono ?_
  rintro e w3 ⟨rfl, hb3⟩
  go_wp2
  go_ret
  exact ⟨rfl, h2.trans (hb3.mono h2.size)⟩
theorem span_long (a : Option Addr) (len cap : Nat) (w : World) (hn : 65536 < len) :
    Calls Try.prog 3 #[.slice a len cap] w fun e w' => e = .returned (.bool true) ∧ Below w.heap.size w w' := by
  by_cases h : len ≤ 1048576
  · go_enter Try.func3, Try.ntmps3
    go_wp2_with (go_at_call 5; refine (bytes5 _ _ _ _ h).mono ?_; rintro e w' ⟨rfl, rfl⟩)
    go_ret
    exact ⟨rfl, Below.refl _ _⟩
  · go_enter Try.func3, Try.ntmps3
    go_wp2_with (go_at_call 5; refine (bytes5_no _ _ _ _ (by omega)).mono ?_; rintro e w' ⟨rfl, rfl⟩)
    go_ret
    exact ⟨rfl, Below.refl _ _⟩
theorem span_walk (a : Option Addr) (len cap : Nat) (F L : Nat → Int) (w : World) (h : IsSpans w a len cap F L) :
    Calls Try.prog 3 #[.slice a len cap] w fun e w' => e = .returned (.bool true) ∧ Below w.heap.size w w' := by
  by_cases hn : len ≤ 65536
  · rcases h with ⟨rfl, rfl, rfl⟩ | ⟨x, rfl, rfl⟩ | ⟨b, off, rfl, h0, hp⟩
    · exact span_nil w
    · exact span_zero x cap w
    · exact span_some b off len cap F L w hn h0 hp
  · exact span_long a len cap w (by omega)

/-! ### Law 4 -/
theorem Pairs.first {w : World} {g off n j : Nat} {F L : Nat → Int} (h : Pairs w g off F L n) (hj : j ≤ n) : Pairs w g off F L j :=
  ⟨h.1, fun i hi => h.2 i (by omega)⟩
theorem Pairs.rest {w : World} {g n j : Nat} {F L : Nat → Int} (h : Pairs w g 0 F L n) (hj : j ≤ n) : Pairs w g (j * 2) (fun i => F (j + i)) (fun i => L (j + i)) (n - j) :=
  ⟨h.1, fun i hi => by
    have := h.2 (j + i) (by omega)
    rw [show j * 2 + i * 2 = 0 + (j + i) * 2 by omega]
    exact this⟩
theorem add_up (F L : Nat → Int) (n j : Nat) (hj : j ≤ n) : wrap64 (wrap64 (lenZ F L j) + wrap64 (lenZ (fun i => F (j + i)) (fun i => L (j + i)) (n - j))) = wrap64 (lenZ F L n) := by
  rw [wrap_add, ← lenZ_split F L j (n - j), show j + (n - j) = n by omega]

theorem split_long (a : Option Addr) (len cap : Nat) (k : Int) (w : World) (hn : 65536 < len) :
    Calls Try.prog 4 #[.slice a len cap, .int .i64 k] w fun e w' => e = .returned (.bool true) ∧ Below w.heap.size w w' := by
  by_cases h : len ≤ 1048576
  · go_enter Try.func4, Try.ntmps4
    go_wp2_with (go_at_call 9; refine (bytes9 _ _ _ _ _ h).mono ?_; rintro e w' ⟨rfl, rfl⟩)
    go_ret
    exact ⟨rfl, Below.refl _ _⟩
  · go_enter Try.func4, Try.ntmps4
    go_wp2_with (go_at_call 9; refine (bytes9_no _ _ _ _ _ (by omega)).mono ?_; rintro e w' ⟨rfl, rfl⟩)
    go_ret
    exact ⟨rfl, Below.refl _ _⟩
theorem split_out (a : Option Addr) (len cap : Nat) (k : Int) (w : World) (hn : len ≤ 65536) (hk : k < 0 ∨ (len : Int) < k) :
    Calls Try.prog 4 #[.slice a len cap, .int .i64 k] w fun e w' => e = .returned (.bool true) ∧ Below w.heap.size w w' := by
  have hn' : len ≤ 1048576 := by omega
  rcases hk with hk | hk
  · go_enter Try.func4, Try.ntmps4
    go_wp2_with (go_at_call 9; refine (bytes9 _ _ _ _ _ hn').mono ?_; rintro e w' ⟨rfl, rfl⟩)
    go_ret
    exact ⟨rfl, Below.refl _ _⟩
  · have hk0 : ¬ k < 0 := by omega
    go_enter Try.func4, Try.ntmps4
    go_wp2_with (go_at_call 9; refine (bytes9 _ _ _ _ _ hn').mono ?_; rintro e w' ⟨rfl, rfl⟩)
    go_ret
    exact ⟨rfl, Below.refl _ _⟩
theorem split_nil (w : World) : Calls Try.prog 4 #[.slice none 0 0, .int .i64 0] w fun e w' => e = .returned (.bool true) ∧ Below w.heap.size w w' := by
  go_enter Try.func4, Try.ntmps4
  go_wp2_with fail
  refine (bytes9 none 0 0 0 _ (by omega)).mono ?_
  rintro e w' ⟨rfl, rfl⟩
  go_wp2_with fail
  refine (runs_nil _).mono ?_
  rintro e w' ⟨rfl, rfl⟩
  go_wp2_with fail
  refine (len_zero none 0 _).mono ?_
  rintro e w1 ⟨rfl, hb1⟩
  go_wp2_with fail
  refine (len_zero none 0 _).mono ?_
  rintro e w2 ⟨rfl, hb2⟩
  have h2 := hb1.trans (hb2.mono hb1.size)
  go_wp2_with fail
  refine (len_zero none 0 _).mono ?_
  rintro e w3 ⟨rfl, hb3⟩
  have h3 := h2.trans (hb3.mono h2.size)
  go_wp2_with fail
  refine (gaps_zero none 0 _).mono ?_
  rintro e w4 ⟨rfl, hb4⟩
  have h4 := h3.trans (hb4.mono h3.size)
  go_wp2
  go_ret
  exact ⟨rfl, h4⟩
theorem split_zero (x : Addr) (cap : Nat) (w : World) : Calls Try.prog 4 #[.slice (some x) 0 cap, .int .i64 0] w fun e w' => e = .returned (.bool true) ∧ Below w.heap.size w w' := by
  go_enter Try.func4, Try.ntmps4
  go_wp2_with fail
  refine (bytes9 (some x) 0 cap 0 _ (by omega)).mono ?_
  rintro e w' ⟨rfl, rfl⟩
  go_wp2_with fail
  refine (runs_zero x cap _).mono ?_
  rintro e w0 ⟨rfl, hb0⟩
  go_wp2_with fail
  refine (len_zero _ 0 _).mono ?_
  rintro e w1 ⟨rfl, hb1⟩
  have h1 := hb0.trans (hb1.mono hb0.size)
  go_wp2_with fail
  refine (len_zero _ _ _).mono ?_
  rintro e w2 ⟨rfl, hb2⟩
  have h2 := h1.trans (hb2.mono h1.size)
  go_wp2_with fail
  refine (len_zero _ _ _).mono ?_
  rintro e w3 ⟨rfl, hb3⟩
  have h3 := h2.trans (hb3.mono h2.size)
  go_wp2_with fail
  refine (gaps_zero _ _ _).mono ?_
  rintro e w4 ⟨rfl, hb4⟩
  have h4 := h3.trans (hb4.mono h3.size)
  go_wp2
  go_ret
  exact ⟨rfl, h4⟩
theorem split_some (b off n cap j : Nat) (F L : Nat → Int) (w : World) (hn : n ≤ 65536) (h0 : 0 < n) (hj : j ≤ n) (hp : Pairs w b off F L n) :
    Calls Try.prog 4 #[.slice (some ⟨b, off, none⟩) n cap, .int .i64 j] w fun e w' => e = .returned (.bool true) ∧ Below w.heap.size w w' := by
  have hn' : n ≤ 1048576 := by omega
  have hjn : j ≤ 65536 := by omega
  have HE := add_up F L n j hj
  have HE' : Hid (wrap64 (wrap64 (lenZ F L j) + wrap64 (lenZ (fun i => F (j + i)) (fun i => L (j + i)) (n - j))) = wrap64 (lenZ F L n)) := HE
  clear HE
  go_enter Try.func4, Try.ntmps4
  go_wp2_with fail
  refine (bytes9 (some ⟨b, off, none⟩) n cap _ w hn').mono ?_
  rintro e w' ⟨rfl, rfl⟩
  go_wp2_with fail
  refine (runs_any b off n cap F L _ hn hp).mono ?_
  rintro e w1 ⟨rfl, hp1, hb1⟩
  have hp1' := hide hp1
  clear hp1
  go_wp2_with fail
  refine (len_any _ 0 n n F L _ hn hp1'.out).mono ?_
  rintro e w2 ⟨rfl, hb2⟩
  have h2 := hb1.trans (hb2.mono hb1.size)
  have hp2 := hide (hp1'.out.below hb2 hp1'.out.1)
  go_wp2_with fail
  refine (len_any _ 0 j n F L _ hjn (hp2.out.first hj)).mono ?_
  rintro e w3 ⟨rfl, hb3⟩
  have h3 := h2.trans (hb3.mono h2.size)
  have hp3 := hide (hp2.out.below hb3 hp2.out.1)
  clear hp1' hp2 hb1 hb2 hb3 h2
  go_wp2_with fail
  · refine (len_zero _ _ _).mono ?_
    rintro e w4 ⟨rfl, hb4⟩
    have h4 := h3.trans (hb4.mono h3.size)
    have hid : wrap64 (wrap64 (lenZ F L j)) = wrap64 (lenZ F L j) := by unfold wrap64; omega
    have hpz := hide (hp.below h4 hp.1)
    clear HE' hp3 hb4
    go_wp2_with fail
    have hnj : n = j := by assumption
    refine (gaps_pos b off j cap F L _ hjn (by omega) (by rw [← hnj]; exact hpz.out)).mono ?_
    rintro e w5 ⟨rfl, hb5⟩
    go_wp2
    go_ret
    exact ⟨rfl, h4.trans (hb5.mono h4.size)⟩
  · refine (len_any _ (j * 2) (n - j) (n - j) (fun i => F (j + i)) (fun i => L (j + i)) _ (by omega) (hp3.out.rest hj)).mono ?_
    rintro e w4 ⟨rfl, hb4⟩
    have h4 := h3.trans (hb4.mono h3.size)
    have HE := HE'.out
    have hpz := hide (hp.below h4 hp.1)
    clear HE' hp3 hb4
    go_wp2_with fail
    refine (gaps_pos b off n cap F L _ hn h0 hpz.out).mono ?_
    rintro e w5 ⟨rfl, hb5⟩
    go_wp2
    go_ret
    exact ⟨rfl, h4.trans (hb5.mono h4.size)⟩
theorem split_walk (a : Option Addr) (len cap : Nat) (k : Int) (F L : Nat → Int) (w : World) (h : IsSpans w a len cap F L) :
    Calls Try.prog 4 #[.slice a len cap, .int .i64 k] w fun e w' => e = .returned (.bool true) ∧ Below w.heap.size w w' := by
  by_cases hn : len ≤ 65536
  · by_cases hk : k < 0 ∨ (len : Int) < k
    · exact split_out a len cap k w hn hk
    · obtain ⟨j, rfl⟩ : ∃ j : Nat, k = j := ⟨k.toNat, by omega⟩
      rcases h with ⟨rfl, rfl, rfl⟩ | ⟨x, rfl, rfl⟩ | ⟨b, off, rfl, h0, hp⟩
      · obtain rfl : j = 0 := by omega
        exact split_nil w
      · obtain rfl : j = 0 := by omega
        exact split_zero x cap w
      · exact split_some b off len cap j F L w hn h0 (by omega) hp
  · exact split_long a len cap k w (by omega)
end Go.Proofs.Qxb6002584a
