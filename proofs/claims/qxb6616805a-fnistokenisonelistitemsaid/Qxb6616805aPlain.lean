import Derived.Lib.Bytealg
set_option linter.unusedSimpArgs false
set_option linter.unusedVariables false
namespace Go.Proofs.Qxb6616805a

/-- the token bytes of RFC 3261, by number -/
def tokB (c : Int) : Bool :=
  (decide (48 ≤ c) && decide (c ≤ 57)) || (decide (97 ≤ c) && decide (c ≤ 122)) || (decide (65 ≤ c) && decide (c ≤ 90)) ||
    (c == 45 || c == 46 || c == 33 || c == 37 || c == 42 || c == 95 || c == 43 || c == 96 || c == 39 || c == 126)
def digB (c : Int) : Bool := decide (48 ≤ c) && decide (c ≤ 57)
def alphaB (c : Int) : Bool := (decide (97 ≤ c) && decide (c ≤ 122)) || (decide (65 ≤ c) && decide (c ≤ 90))
def alnumB (c : Int) : Bool := digB c || alphaB c

theorem tok_index_nat : ∀ n : Fin 256, (alnumB (n.val : Int) || decide (0 ≤ Lib.indexByte [45, 46, 33, 37, 42, 95, 43, 96, 39, 126] ((n.val : Int).toNat.toUInt8))) = tokB (n.val : Int) := by
  decide +kernel

theorem tok_index (c : Int) (h0 : 0 ≤ c) (h1 : c ≤ 255) :
    (alnumB c || decide (0 ≤ Lib.indexByte [45, 46, 33, 37, 42, 95, 43, 96, 39, 126] c.toNat.toUInt8)) = tokB c := by
  obtain ⟨n, rfl⟩ := Int.eq_ofNat_of_zero_le h0
  exact tok_index_nat ⟨n, by omega⟩

/-- a byte of a token -/
def tk (b : UInt8) : Bool := tokB (b.toNat : Int)
def tokN (l : List UInt8) : Nat := (l.takeWhile tk).length
def isTok (l : List UInt8) : Bool := !l.isEmpty && l.all tk

theorem tokN_le (l : List UInt8) : tokN l ≤ l.length := by
  unfold tokN
  exact (List.takeWhile_prefix tk).length_le

theorem tokN_all (l : List UInt8) : tokN l = l.length ↔ l.all tk = true := by
  unfold tokN
  induction l with
  | nil => simp
  | cons a l ih =>
    cases h : tk a
    · simp [List.takeWhile_cons, h]
    · simp [List.takeWhile_cons, h] at ih ⊢; exact ih

/-- the first k bytes are of the token, the next is not (or there is none) -/
theorem tokN_stop (l : List UInt8) (k : Nat) (hk : k ≤ l.length) (h : ∀ j (hj : j < k), tk (l[j]'(by omega)) = true)
    (he : ∀ hj : k < l.length, tk (l[k]) = false) : tokN l = k := by
  induction l generalizing k with
  | nil => simp at hk; simp [tokN, hk]
  | cons a l ih =>
    cases k with
    | zero =>
      have := he (by simp)
      simp at this
      simp [tokN, List.takeWhile_cons, this]
    | succ k =>
      have h0 := h 0 (by omega)
      simp at h0
      have := ih k (by simpa using hk) (fun j hj => by have := h (j + 1) (by omega); simpa using this) (fun hj => by have := he (by simpa using hj); simpa using this)
      unfold tokN at this ⊢
      simp [List.takeWhile_cons, h0, this]

theorem isTok_all (l : List UInt8) (he : l.isEmpty = false) : isTok l = l.all tk := by
  simp [isTok, he]

/-- THE PLAIN LAW: whole, and both sides of a cut -/
theorem isTok_cut (l : List UInt8) (k : Nat) :
    isTok l = (!l.isEmpty && (l.take k).all tk && (l.drop k).all tk) := by
  have : l.all tk = ((l.take k).all tk && (l.drop k).all tk) := by
    conv => lhs; rw [← List.take_append_drop k l]
    rw [List.all_append]
  unfold isTok
  rw [this, Bool.and_assoc]

end Go.Proofs.Qxb6616805a
