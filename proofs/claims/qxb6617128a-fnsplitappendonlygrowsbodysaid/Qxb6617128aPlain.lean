import Derived.Lib.Index
import Derived.Lib.Strings
set_option linter.unusedSimpArgs false
set_option linter.unusedVariables false
namespace Go.Proofs.Qxb6617128a

abbrev Bs := List UInt8

/-- a CRLF at place i -/
def crlf (l : Bs) (i : Nat) : Prop := l[i]? = some 13 ∧ l[i + 1]? = some 10
/-- an empty line at place p -/
def E (l : Bs) (p : Nat) : Prop := crlf l p ∧ (p = 0 ∨ (2 ≤ p ∧ crlf l (p - 2)))
/-- o is the place of the first empty line -/
def IsFel (l : Bs) : Option Nat → Prop
  | some p => E l p ∧ ∀ q, q < p → ¬ E l q
  | none => ∀ q, ¬ E l q
def felI : Option Nat → Int
  | some p => (p : Int)
  | none => -1

theorem crlf_lt {l : Bs} {i : Nat} (h : crlf l i) : i + 1 < l.length := by
  have := h.2
  exact (List.getElem?_eq_some_iff.1 this).1

theorem isFel_unique {l : Bs} {a b : Option Nat} (ha : IsFel l a) (hb : IsFel l b) : a = b := by
  cases a with
  | none =>
    cases b with
    | none => rfl
    | some q => exact absurd hb.1 (ha q)
  | some p =>
    cases b with
    | none => exact absurd ha.1 (hb p)
    | some q =>
      by_cases h : p = q
      · rw [h]
      · by_cases h' : p < q
        · exact absurd ha.1 (hb.2 p h')
        · exact absurd hb.1 (ha.2 q (by omega))

theorem isFel_exists (l : Bs) : ∃ o, IsFel l o := by
  have gen : ∀ n, (∃ p, p < n ∧ E l p ∧ ∀ q, q < p → ¬ E l q) ∨ ∀ p, p < n → ¬ E l p := by
    intro n
    induction n with
    | zero => right; intro p hp; omega
    | succ n ih =>
      rcases ih with ⟨p, hp, h⟩ | h
      · exact .inl ⟨p, by omega, h⟩
      · by_cases hE : E l n
        · exact .inl ⟨n, by omega, hE, h⟩
        · right
          intro p hp
          by_cases e : p = n
          · subst e; exact hE
          · exact h p (by omega)
  rcases gen l.length with ⟨p, _, h⟩ | h
  · exact ⟨some p, h⟩
  · refine ⟨none, fun q hq => h q ?_ hq⟩
    have := crlf_lt hq.1
    omega

/-! ### the walk line by line -/
/-- pos is a line's start, and no empty line stands before it -/
def At (l : Bs) (pos : Nat) : Prop := (pos = 0 ∨ (2 ≤ pos ∧ crlf l (pos - 2))) ∧ ∀ q, q < pos → ¬ E l q

theorem at_zero (l : Bs) : At l 0 := ⟨.inl rfl, fun q h => absurd h (by omega)⟩
theorem at_hit {l : Bs} {pos : Nat} (h : At l pos) (hc : crlf l pos) : IsFel l (some pos) := ⟨⟨hc, h.1⟩, h.2⟩
theorem at_end {l : Bs} {pos : Nat} (h : At l pos) (hl : ¬ pos + 1 < l.length) : IsFel l none := by
  intro q hq
  have := crlf_lt hq.1
  exact h.2 q (by omega) hq
theorem at_none {l : Bs} {pos j : Nat} (h : At l pos) (hj : ∀ q, pos ≤ q → q < j → ¬ crlf l q) (hl : ¬ j + 1 < l.length) : IsFel l none := by
  intro q hq
  by_cases hp : q < pos
  · exact h.2 q hp hq
  · have := crlf_lt hq.1
    exact hj q (by omega) (by omega) hq.1
theorem at_next {l : Bs} {pos j : Nat} (h : At l pos) (hpj : pos < j) (hj : ∀ q, pos ≤ q → q < j → ¬ crlf l q) (hc : crlf l j) : At l (j + 2) := by
  refine ⟨.inr ⟨by omega, by simpa using hc⟩, fun q hq hE => ?_⟩
  by_cases h1 : q < pos
  · exact h.2 q h1 hE
  · by_cases h2 : q < j
    · exact hj q (by omega) h2 hE.1
    · by_cases h3 : q = j
      · subst h3
        rcases hE.2 with h0 | ⟨h2', h3⟩
        · omega
        · by_cases h4 : pos ≤ q - 2
          · exact hj (q - 2) h4 (by omega) h3
          · rcases h.1 with hp | ⟨hp, hcp⟩
            · omega
            · have e : q - 2 = pos - 2 + 1 := by omega
              have h5 := h3.1
              rw [e, hcp.2] at h5
              cases h5
      · have e : q = j + 1 := by omega
        subst e
        have h5 := hE.1.1
        rw [hc.2] at h5
        cases h5

/-! ### the split by two searches -/
theorem prefix_crlf (l : Bs) : Lib.hasPrefix l [13, 10] = true ↔ crlf l 0 := by
  unfold Lib.hasPrefix crlf
  match l with
  | [] => simp
  | [a] => simp
  | a :: b :: r =>
    simp
    exact ⟨fun h => ⟨h.1.symm, h.2.symm⟩, fun h => ⟨h.1.symm, h.2.symm⟩⟩

def occ (l : Bs) (i : Nat) : Prop := crlf l i ∧ crlf l (i + 2)

theorem occ_prefix (l : Bs) : ([13, 10, 13, 10] : List UInt8).isPrefixOf l = true ↔ occ l 0 := by
  unfold occ crlf
  match l with
  | [] => simp
  | [a] => simp
  | [a, b] => simp
  | [a, b, c] => simp
  | a :: b :: c :: d :: r =>
    simp
    exact ⟨fun h => ⟨⟨h.1.symm, h.2.1.symm⟩, h.2.2.1.symm, h.2.2.2.symm⟩, fun h => ⟨h.1.1.symm, h.1.2.symm, h.2.1.symm, h.2.2.symm⟩⟩

theorem occ_cons (c : UInt8) (l : Bs) (i : Nat) : occ (c :: l) (i + 1) ↔ occ l i := by
  unfold occ crlf
  simp [show i + 1 + 2 = (i + 2) + 1 from by omega, show i + 1 + 2 + 1 = (i + 2 + 1) + 1 from by omega]

theorem index_spec : ∀ l : Bs, (Lib.index l [13, 10, 13, 10] = -1 ∧ ∀ i, ¬ occ l i) ∨ ∃ i : Nat, Lib.index l [13, 10, 13, 10] = (i : Int) ∧ occ l i ∧ ∀ q, q < i → ¬ occ l q
  | [] => .inl ⟨rfl, fun i h => by have := crlf_lt h.1; simp at this⟩
  | c :: l => by
    unfold Lib.index
    by_cases h : ([13, 10, 13, 10] : List UInt8).isPrefixOf (c :: l) = true
    · rw [if_pos h]
      exact .inr ⟨0, rfl, (occ_prefix _).1 h, fun q hq => absurd hq (by omega)⟩
    · rw [if_neg h]
      have h0 : ¬ occ (c :: l) 0 := fun h' => h ((occ_prefix _).2 h')
      rcases index_spec l with ⟨h1, h2⟩ | ⟨i, h1, h2, h3⟩
      · left
        rw [h1]
        refine ⟨rfl, fun i hi => ?_⟩
        cases i with
        | zero => exact h0 hi
        | succ i => exact h2 i ((occ_cons c l i).1 hi)
      · right
        refine ⟨i + 1, ?_, (occ_cons c l i).2 h2, fun q hq hi => ?_⟩
        · rw [h1]
          have : ¬ ((i : Int) == -1) = true := by rw [beq_iff_eq]; omega
          rw [if_neg this]; omega
        · cases q with
          | zero => exact h0 hi
          | succ q => exact h3 q (by omega) ((occ_cons c l q).1 hi)

theorem fel_zero {l : Bs} (h : crlf l 0) : IsFel l (some 0) := ⟨⟨h, .inl rfl⟩, fun q hq => absurd hq (by omega)⟩
theorem fel_some {l : Bs} {i : Nat} (h0 : ¬ crlf l 0) (h : occ l i) (hm : ∀ q, q < i → ¬ occ l q) : IsFel l (some (i + 2)) := by
  refine ⟨⟨h.2, .inr ⟨by omega, by simpa using h.1⟩⟩, fun q hq hE => ?_⟩
  rcases hE.2 with rfl | ⟨h2, h3⟩
  · exact h0 hE.1
  · refine hm (q - 2) (by omega) ⟨h3, ?_⟩
    rw [show q - 2 + 2 = q from by omega]
    exact hE.1
theorem fel_none {l : Bs} (h0 : ¬ crlf l 0) (h : ∀ i, ¬ occ l i) : IsFel l none := by
  intro q hE
  rcases hE.2 with rfl | ⟨h2, h3⟩
  · exact h0 hE.1
  · refine h (q - 2) ⟨h3, ?_⟩
    rw [show q - 2 + 2 = q from by omega]
    exact hE.1

/-- appending behind an empty line turns nothing -/
theorem crlf_append {l t : Bs} {i : Nat} (h : i + 1 < l.length) : crlf (l ++ t) i ↔ crlf l i := by
  unfold crlf
  rw [List.getElem?_append_left (by omega), List.getElem?_append_left h]
theorem E_append {l t : Bs} {p : Nat} (h : p + 1 < l.length) : E (l ++ t) p ↔ E l p := by
  unfold E
  rw [crlf_append h]
  constructor
  · rintro ⟨h1, h2 | ⟨h2, h3⟩⟩
    · exact ⟨h1, .inl h2⟩
    · exact ⟨h1, .inr ⟨h2, (crlf_append (by omega)).1 h3⟩⟩
  · rintro ⟨h1, h2 | ⟨h2, h3⟩⟩
    · exact ⟨h1, .inl h2⟩
    · exact ⟨h1, .inr ⟨h2, (crlf_append (by omega)).2 h3⟩⟩
theorem fel_append {l t : Bs} {p : Nat} (h : IsFel l (some p)) : IsFel (l ++ t) (some p) := by
  have hp := crlf_lt h.1.1
  refine ⟨(E_append hp).2 h.1, fun q hq hE => h.2 q hq ((E_append (by omega)).1 hE)⟩
theorem fel_bound {l : Bs} {p : Nat} (h : IsFel l (some p)) : p + 2 ≤ l.length := by
  have := crlf_lt h.1.1
  omega
theorem fel_not_one {l : Bs} {p : Nat} (h : IsFel l (some p)) : p = 0 ∨ 2 ≤ p := by
  rcases h.1.2 with h | h
  · exact .inl h
  · exact .inr h.1
end Go.Proofs.Qxb6617128a
