/-
  FnNewStartsAtTieChoice (8) at every Settings.
-/
import Derived.Test.Qxb6601956aTie
namespace Go.Proofs.Qxb6601956a
open Go.RowKit Fl

theorem arimaP_first : ∀ k, (arimaP k).getD 0 (0, 0) = (4607182418800017408, 0)
  | 0 => rfl
  | k + 1 => by
    have h := arimaP_first k
    have hl := arimaP_len k
    rw [List.getD_eq_getElem?_getD] at h ⊢
    rw [arimaP, List.getElem?_append_left (by omega)]
    exact h
theorem dn_zero : f20 20 = 4607182418800017408 := by decide +kernel
theorem up_zero : f20 1 = 4587366580439587226 := by decide +kernel
theorem downF_zero : downF.getD 0 0 = 4607182418800017408 := by
  unfold downF; rw [down_list]; exact dn_zero
theorem upF_zero : upF.getD 0 0 = 4587366580439587226 := by
  unfold upF; rw [up_list]; exact up_zero
theorem holtP_first (xs ys : List Nat) (hx : 0 < xs.length) (hy : 0 < ys.length) : (holtP xs ys).getD 0 (0, 0) = (xs.getD 0 0, ys.getD 0 0) := by
  match xs, ys, hx, hy with
  | x :: xs, y :: ys, _, _ => simp [holtP]

theorem tie_walk (model : Int) (th al be : Nat) (ft fa fb : Bool) (offset : Int) (_wm : (Lit.int .i64 model).wf = true) (_w1 : (Lit.float .f64 th).wf = true) (_w2 : (Lit.float .f64 al).wf = true) (_w3 : (Lit.float .f64 be).wf = true) (_wo : (Lit.int .i64 offset).wf = true) (w : World) :
    Calls Try.prog 8 #[.int .i64 model, .float .f64 th, .float .f64 al, .float .f64 be, .bool ft, .bool fa, .bool fb, .int .i64 offset] w fun e w' => e = .returned (.bool true) ∧ Below w.heap.size w w' := by
  have hZ := zznew_any model th al be ft fa fb offset w
  by_cases h1 : model = 1
  · subst h1
    cases ft with
    | true =>
      refine tie_fix th al be fa fb offset w (hZ.mono fun e w' ⟨r, hr, h⟩ => ⟨r, hr rfl rfl, ?_⟩)
      have hc : cands 1 r al be true fa fb = [(r, 0)] := by unfold cands; rw [if_pos rfl, if_pos rfl]
      have h := h.params
      rw [hc] at h
      exact h
    | false =>
      refine tie_free th al be fa fb offset w (hZ.mono fun e w' ⟨r, hr, h⟩ => ?_)
      have hc : cands 1 r al be false fa fb = arimaP 99 := by unfold cands; rw [if_pos rfl, if_neg (by decide)]
      have h := h.params
      rw [hc] at h
      unfold pA pB at h
      rw [arimaP_first] at h
      exact h
  · by_cases h2 : model = 2
    · subst h2
      refine tie_holt th al be ft fa fb offset w (hZ.mono fun e w' ⟨r, hr, h⟩ => ?_)
      have hc : cands 2 r al be ft fa fb = holtP (if fa then [al] else downF) (if fb then [be] else upF) := by unfold cands; rw [if_neg (by decide), if_pos rfl]
      have h := h.params
      rw [hc] at h
      unfold pA pB at h
      rw [holtP_first _ _ (by cases fa <;> simp [downF_len]) (by cases fb <;> simp [upF_len])] at h
      have ea : (if fa then [al] else downF).getD 0 0 = if fa then al else 4607182418800017408 := by
        cases fa
        · exact downF_zero
        · rfl
      have eb : (if fb then [be] else upF).getD 0 0 = if fb then be else 4587366580439587226 := by
        cases fb
        · exact upF_zero
        · rfl
      rw [ea, eb] at h
      exact h
    · refine tie_last model h1 h2 th al be ft fa fb offset w (hZ.mono fun e w' ⟨r, hr, h⟩ => ?_)
      have hc : cands model r al be ft fa fb = [(4607182418800017408, 0)] := by unfold cands; rw [if_neg h1, if_neg h2]
      have h := h.params
      rw [hc] at h
      exact h
end Go.Proofs.Qxb6601956a
