import Derived.Test.Qxb6616805aPlain
set_option linter.unusedSimpArgs false
set_option linter.unusedVariables false
namespace Go.Proofs.Qxb6616805a

def lwsB (c : Int) : Bool := c == 32 || c == 9 || c == 13 || c == 10
def lw (b : UInt8) : Bool := lwsB (b.toNat : Int)
def trimL (l : List UInt8) : List UInt8 := l.dropWhile lw
def trimR (l : List UInt8) : List UInt8 := (l.reverse.dropWhile lw).reverse
def trim (l : List UInt8) : List UInt8 := trimR (trimL l)
/-- a Go string of these bytes -/
def B (l : List UInt8) : ByteArray := ⟨l.toArray⟩

theorem B_list (l : List UInt8) : (B l).data.toList = l := rfl
theorem B_size (l : List UInt8) : (B l).size = l.length := rfl
theorem B_of (s : ByteArray) (l : List UInt8) (h : s.data.toList = l) : s = B l := by
  subst h; rfl

theorem trimL_nil : trimL [] = [] := rfl
theorem trimL_yes (a : UInt8) (l : List UInt8) (h : lw a = true) : trimL (a :: l) = trimL l := by
  unfold trimL; simp [h]
theorem trimL_no (a : UInt8) (l : List UInt8) (h : lw a = false) : trimL (a :: l) = a :: l := by
  unfold trimL; simp [h]
theorem trimR_nil : trimR [] = [] := rfl
theorem trimR_yes (a : UInt8) (l : List UInt8) (h : lw a = true) : trimR (l ++ [a]) = trimR l := by
  unfold trimR; simp [h]
theorem trimR_no (a : UInt8) (l : List UInt8) (h : lw a = false) : trimR (l ++ [a]) = l ++ [a] := by
  unfold trimR; simp [h]

theorem trimL_le (l : List UInt8) : (trimL l).length ≤ l.length := by
  unfold trimL
  exact (List.dropWhile_suffix lw).length_le
theorem trimR_le (l : List UInt8) : (trimR l).length ≤ l.length := by
  unfold trimR
  have := (List.dropWhile_suffix lw (l := l.reverse)).length_le
  simpa using this
theorem trim_le (l : List UInt8) : (trim l).length ≤ l.length :=
  Nat.le_trans (trimR_le _) (trimL_le _)

theorem trimL_drop (l : List UInt8) (i : Nat) (hi : i ≤ l.length) (h : ∀ x (hx : x < l.length), x < i → lw l[x] = true)
    (he : ∀ hx : i < l.length, lw l[i] = false) : trimL l = l.drop i := by
  induction l generalizing i with
  | nil => simp at hi; subst hi; rfl
  | cons a l ih =>
    cases i with
    | zero => have := he (by simp); simp at this; simp [trimL_no _ _ this]
    | succ i =>
      have h0 := h 0 (by simp) (by omega)
      simp at h0
      rw [trimL_yes _ _ h0, List.drop_succ_cons]
      exact ih i (by simpa using hi) (fun x hx hxi => by have := h (x + 1) (by simpa using hx) (by omega); simpa using this)
        (fun hx => by have := he (by simpa using hx); simpa using this)

theorem trimR_append (l m : List UInt8) (h : ∀ a ∈ m, lw a = true) : trimR (l ++ m) = trimR l := by
  unfold trimR
  rw [List.reverse_append, List.dropWhile_append_of_pos]
  intro a ha
  exact h a (List.mem_reverse.1 ha)

theorem trimR_take (l : List UInt8) (m : Nat) (hm : m ≤ l.length) (h : ∀ x (hx : x < l.length), m ≤ x → lw l[x] = true)
    (he : ∀ hx : 0 < m, lw (l[m - 1]'(by omega)) = false) : trimR l = l.take m := by
  have e : l = l.take m ++ l.drop m := (List.take_append_drop m l).symm
  have h1 : trimR l = trimR (l.take m) := by
    conv => lhs; rw [e]
    apply trimR_append
    intro a ha
    obtain ⟨x, hx, rfl⟩ := List.mem_iff_getElem.1 ha
    rw [List.getElem_drop]
    exact h _ _ (by omega)
  rw [h1]
  cases m with
  | zero => rfl
  | succ m =>
    rw [List.take_succ_eq_append_getElem (by omega)]
    exact trimR_no _ _ (by have := he (by omega); simpa using this)

/-- the law's own trim, by two places -/
theorem trim_places (l : List UInt8) (i j : Nat) (hij : i ≤ j) (hj : j ≤ l.length) (h : ∀ x (hx : x < l.length), x < i → lw l[x] = true)
    (he : ∀ hx : i < l.length, lw l[i] = false) (h2 : ∀ x (hx : x < l.length), j ≤ x → lw l[x] = true)
    (he2 : ∀ hx : i < j, lw (l[j - 1]'(by omega)) = false) : trim l = (l.drop i).take (j - i) := by
  unfold trim
  rw [trimL_drop l i (by omega) h he]
  refine trimR_take _ _ (by simp; omega) ?_ ?_
  · intro x hx hx'
    rw [List.getElem_drop]
    exact h2 _ _ (by omega)
  · intro hx
    rw [List.getElem_drop]
    have := he2 (by omega)
    have e : i + (j - i - 1) = j - 1 := by omega
    simp only [e]
    exact this

theorem tk_lw (b : UInt8) (h : tk b = true) : lw b = false := by
  unfold tk tokB at h
  unfold lw lwsB
  simp at h ⊢
  omega
theorem tk_sep (b : UInt8) (h : tk b = true) : b.toNat ≠ 34 ∧ b.toNat ≠ 60 ∧ b.toNat ≠ 62 ∧ b.toNat ≠ 44 := by
  unfold tk tokB at h
  simp at h
  omega

theorem trim_tok (l : List UInt8) (h : isTok l = true) : trim l = l := by
  unfold isTok at h
  simp only [Bool.and_eq_true, List.all_eq_true] at h
  obtain ⟨he, h⟩ := h
  have hl : trimL l = l := by
    cases l with
    | nil => rfl
    | cons a l => exact trimL_no _ _ (tk_lw _ (h a (by simp)))
  unfold trim
  rw [hl]
  rcases List.eq_nil_or_concat l with rfl | ⟨l', a, rfl⟩
  · rfl
  · rw [List.concat_eq_append] at h ⊢
    exact trimR_no _ _ (tk_lw _ (h a (by simp)))
end Go.Proofs.Qxb6616805a
