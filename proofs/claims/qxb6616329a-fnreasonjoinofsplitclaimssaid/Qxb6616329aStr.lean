import Derived.Test.Qxb6616329aChecked
import Derived.Test.Qxb6616329aPlain
import Derived.Test.Qxb6616329aTrimSuffix
import Derived.Lib.Strings
import Derived.Lib.Slices
import Derived.Lib.Walk
import Derived.Lib.Bytealg
import Derived.Lib.IndexBytes
import Derived.WalkKit
import Derived.Outline
import Derived.WalkLawsBesides
import Derived.Deep.QuietTactic
import Derived.BigQuiet
set_option linter.unusedSimpArgs false
set_option linter.unusedVariables false
namespace Go.Proofs.Qxb6616329a
open Go.RowKit

/-- a Go string of these bytes -/
def B (l : List UInt8) : ByteArray := ⟨l.toArray⟩
theorem B_list (l : List UInt8) : (B l).data.toList = l := rfl
theorem B_size (l : List UInt8) : (B l).size = l.length := rfl
theorem B_of (s : ByteArray) : s = B s.data.toList := rfl
theorem ret_bool {a b : Bool} (h : a = b) : Ending.returned (.bool a) = .returned (.bool b) := by rw [h]
theorem ret_int {k : IntKind} {a b : Int} (h : a = b) : Ending.returned (.int k a) = .returned (.int k b) := by rw [h]
theorem ret_str {s : ByteArray} {l : List UInt8} (h : s.data.toList = l) : Ending.returned (.string s) = .returned (.string (B l)) := by
  subst h; rfl

theorem afterDot_index : ∀ l : Bs, (Lib.indexByte l 46 = -1 ∧ afterDot l = none) ∨ ∃ i : Nat, Lib.indexByte l 46 = (i : Int) ∧ i < l.length ∧ afterDot l = some (l.drop (i + 1))
  | [] => .inl ⟨rfl, rfl⟩
  | c :: l => by
    unfold Lib.indexByte
    rw [afterDot_cons]
    by_cases h : c = 46
    · right; refine ⟨0, ?_, by simp, ?_⟩
      · rw [if_pos (by simpa using h)]; rfl
      · rw [if_pos h]; rfl
    · have hb : ¬ (c == 46) = true := by simpa using h
      rw [if_neg hb, if_neg h]
      rcases afterDot_index l with ⟨h1, h2⟩ | ⟨i, h1, h2, h3⟩
      · left; rw [h1]; exact ⟨rfl, h2⟩
      · right
        refine ⟨i + 1, ?_, by simp; omega, ?_⟩
        · rw [h1]
          have : ¬ ((i : Int) == -1) = true := by rw [beq_iff_eq]; omega
          rw [if_neg this]; omega
        · rw [h3]; rfl

theorem idx_dot (l : Bs) (c : UInt8) (h : c = 46) : Lib.indexByte l c = Lib.indexByte l 46 := by rw [h]

theorem not_dot (s : ByteArray) (h : ¬ s = ⟨#[46]⟩) : (([46] : List UInt8) == s.toList) = false := by
  rw [beq_eq_false_iff_ne]
  intro e
  apply h
  rw [Lib.toList_data] at e
  rw [B_of s, ← e]; rfl

set_option maxHeartbeats 1000000 in
set_option maxRecDepth 100000 in
theorem sl_Index_dot (s : ByteArray) (w : World) :
    Calls Try.prog 39 #[.string s, .string ⟨#[46]⟩] w fun e w' => e = .returned (.int .i64 (Lib.indexByte s.data.toList 46)) ∧ w' = w := by
  by_cases h : s = ⟨#[46]⟩
  · subst h
    go_enter Try.func39, Try.ntmps39
    go_wp2_with (first | (go_at_call 40; refine (sl_IndexByte _ _ _).mono ?_; rintro e w' ⟨rfl, rfl⟩))
    go_ret
    exact ⟨ret_int (by decide), rfl⟩
  · have h' := not_dot s h
    clear h
    go_enter Try.func39, Try.ntmps39
    go_wp2_with (first | (go_at_call 40; refine (sl_IndexByte _ _ _).mono ?_; rintro e w' ⟨rfl, rfl⟩))
    go_ret
    exact ⟨ret_int (idx_dot _ _ rfl), rfl⟩

theorem ret_cut {x a : ByteArray} {l : Bs} (h : a.data.toList = l) (b : Bool) : Ending.returned (.tuple #[.string x, .string a, .bool b]) = .returned (.tuple #[.string x, .string (B l), .bool b]) := by
  subst h; rfl

set_option maxHeartbeats 1000000 in
theorem sl_Cut_some (s : ByteArray) (i : Nat) (w : World) (hs : s.size ≤ maxLen) (hi : i < s.size) (he : Lib.indexByte s.data.toList 46 = (i : Int)) :
    Calls Try.prog 37 #[.string s, .string ⟨#[46]⟩] w fun e w' => e = .returned (.tuple #[.string (s.extract 0 i), .string (B (s.data.toList.drop (i + 1))), .bool true]) ∧ ∃ m, w' = w.drewN m := by
  unfold maxLen at hs
  have HE : Hid _ := he
  clear he
  go_enter Try.func37, Try.ntmps37
  go_wp2_with (first | (go_at_call 39; refine (sl_Index_dot _ _).mono ?_; rintro e w' ⟨rfl, rfl⟩; rw [HE.out]))
  go_quiet (fail)
  go_wp2
  go_ret3
  exact ⟨ret_cut (Lib.extract_to_end s (i + 1)) _, nq, rfl⟩

set_option maxHeartbeats 1000000 in
theorem sl_Cut_none (s : ByteArray) (w : World) (hs : s.size ≤ maxLen) (he : Lib.indexByte s.data.toList 46 = -1) :
    Calls Try.prog 37 #[.string s, .string ⟨#[46]⟩] w fun e w' => e = .returned (.tuple #[.string s, .string ⟨#[]⟩, .bool false]) ∧ ∃ m, w' = w.drewN m := by
  have HE : Hid _ := he
  clear he
  go_enter Try.func37, Try.ntmps37
  go_wp2_with (first | (go_at_call 39; refine (sl_Index_dot _ _).mono ?_; rintro e w' ⟨rfl, rfl⟩; rw [HE.out]))
  go_ret3
  exact ⟨rfl, 0, rfl⟩

/-- strings.Cut at a dot -/
theorem Cut_dot (s : ByteArray) (w : World) (hs : s.size ≤ maxLen) :
    Calls Try.prog 33 #[.string s, .string ⟨#[46]⟩] w fun e w' =>
      (∃ x, e = .returned (.tuple #[.string x, .string (B ((afterDot s.data.toList).getD [])), .bool (afterDot s.data.toList).isSome])) ∧ ∃ m, w' = w.drewN m := by
  rcases afterDot_index s.data.toList with ⟨h1, h2⟩ | ⟨i, h1, h2, h3⟩
  · have H2 : Hid _ := h2
    have H1 : Hid _ := h1
    clear h1 h2
    go_enter Try.func33, Try.ntmps33
    go_wp2_with (first | (go_at_call 37; refine (sl_Cut_none _ _ hs H1.out).mono ?_; rintro e w' ⟨rfl, m, rfl⟩))
    go_ret3
    exact ⟨⟨s, by rw [H2.out]; rfl⟩, m, rfl⟩
  · have H2 : Hid _ := h3
    have H1 : Hid _ := h1
    have hi : i < s.size := by simpa using h2
    clear h1 h2 h3
    go_enter Try.func33, Try.ntmps33
    go_wp2_with (first | (go_at_call 37; refine (sl_Cut_some _ i _ hs hi H1.out).mono ?_; rintro e w' ⟨rfl, m, rfl⟩))
    go_ret3
    exact ⟨⟨_, by rw [H2.out]; rfl⟩, m, rfl⟩


theorem trimSuffix_dot (l : Bs) : Lib.trimSuffix l [46] = trimDot l := by
  unfold Lib.trimSuffix trimDot Lib.hasSuffix
  have e : ([46] : List UInt8).isSuffixOf l = true ↔ l.getLast? = some 46 := by
    rw [List.isSuffixOf_iff_suffix]
    constructor
    · rintro ⟨t, rfl⟩; simp
    · intro h
      obtain ⟨t, rfl⟩ := List.getLast?_eq_some_iff.1 h
      exact ⟨t, rfl⟩
  by_cases h : l.getLast? = some 46
  · rw [if_pos h, if_pos (e.2 h), List.dropLast_eq_take]; rfl
  · rw [if_neg h, if_neg (fun h' => h (e.1 h'))]

theorem TrimSuffix_dot (s : ByteArray) (w : World) (hs : s.size ≤ maxLen) :
    Calls Try.prog 30 #[.string s, .string ⟨#[46]⟩] w fun e w' => e = .returned (.string (B (trimDot s.data.toList))) ∧ w' = w := by
  refine (strings_TrimSuffix s ⟨#[46]⟩ w (by unfold maxLen at hs; omega)).mono ?_
  rintro e w' ⟨rfl, rfl⟩
  exact ⟨congrArg (fun l : Bs => Ending.returned (.string (B l))) (trimSuffix_dot s.data.toList), rfl⟩

/-! ### matchable -/
theorem B_maxLen (l : Bs) (h : l.length ≤ maxLen) : (B l).size ≤ maxLen := h

theorem matchable_le : ∀ (n : Nat) (l r : Bs), l.length < n → matchable l = some r → r.length ≤ l.length
  | 0, _, _, h, _ => by omega
  | n + 1, l, r, h, hm => by
    by_cases hs : l.length ≤ 253
    · rw [matchable_short l hs] at hm; injection hm with hm; rw [hm]; exact Nat.le_refl _
    · cases ha : afterDot l with
      | none => rw [matchable_none l hs ha] at hm; cases hm
      | some q =>
        rw [matchable_some l q hs ha] at hm
        have h1 := afterDot_lt ha
        have := matchable_le n q r (by omega) hm
        omega

set_option maxHeartbeats 1000000 in
theorem matchable_any (l : Bs) (w : World) (hs : l.length ≤ maxLen) :
    Calls Try.prog 29 #[.string (B l)] w fun e w' =>
      e = .returned (.tuple #[.string (B ((matchable l).getD [])), .bool (matchable l).isSome]) ∧ ∃ m, w' = w.drewN m := by
  unfold maxLen at hs
  go_enter Try.func29, Try.ntmps29
  go_wp2
  go_loopw [0, 3] (fun v ok wr => (∃ r : Bs, v = .string (B r) ∧ r.length ≤ l.length ∧ Hid (matchable r = matchable l)) ∧ ∃ m, wr = w.drewN m) (fun v _ _ => match v with | .string r => r.size | _ => 0)
  case atStart => exact ⟨⟨l, rfl, Nat.le_refl _, (rfl : matchable l = matchable l)⟩, 0, rfl⟩
  case round =>
    obtain ⟨⟨r, rfl, hr, hm⟩, m, rfl⟩ := hrel
    have hz := B_size r
    by_cases hlt : r.length ≤ 253
    · have HE : Hid (matchable l = some r) := by show matchable l = some r; rw [← hm.out]; exact matchable_short r hlt
      go_wp2
      go_ret2
      exact ⟨by rw [HE.out]; rfl, m, rfl⟩
    · have hgt : (253 : Int) < (r.length : Int) := by omega
      have hrm : (B r).size ≤ maxLen := by rw [hz]; unfold maxLen; omega
      cases ha : afterDot r with
      | none =>
        have HA : Hid (afterDot (B r).data.toList = none) := ha
        have HE : Hid (matchable l = none) := by show matchable l = none; rw [← hm.out]; exact matchable_none r hlt ha
        clear ha
        go_wp2_with (go_at_call 33; refine (Cut_dot _ _ hrm).mono ?_; rintro e w' ⟨⟨x, rfl⟩, m2, rfl⟩; rw [HA.out])
        go_ret2
        exact ⟨by rw [HE.out]; rfl, _, rfl⟩
      | some q =>
        have HA : Hid (afterDot (B r).data.toList = some q) := ha
        have HE : Hid (matchable q = matchable l) := by show matchable q = matchable l; rw [← hm.out]; exact (matchable_some r q hlt ha).symm
        have hq := afterDot_lt ha
        clear ha
        go_wp2_with (go_at_call 33; refine (Cut_dot _ _ hrm).mono ?_; rintro e w' ⟨⟨x, rfl⟩, m2, rfl⟩; rw [HA.out])
        go_roundw
        case rel => exact ⟨⟨q, rfl, by omega, HE.out⟩, _, rfl⟩
        case measure => simp [B_size]; exact hq
end Go.Proofs.Qxb6616329a
