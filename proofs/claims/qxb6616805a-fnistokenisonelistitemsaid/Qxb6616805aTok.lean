import Derived.Test.Qxb6616805aIndexByte
import Derived.Test.Qxb6616805aPlain
import Derived.WalkKit
import Derived.Outline
import Derived.WalkLawsBesides
set_option linter.unusedSimpArgs false
set_option linter.unusedVariables false
namespace Go.Proofs.Qxb6616805a
open Go.RowKit

theorem ret_bool {a b : Bool} (h : a = b) : Ending.returned (.bool a) = .returned (.bool b) := by rw [h]
theorem ret_int {k : IntKind} {a b : Int} (h : a = b) : Ending.returned (.int k a) = .returned (.int k b) := by rw [h]

theorem isDigit_any (c : Int) (w : World) :
    Calls Try.prog 31 #[.int .u8 c] w fun e w' => e = .returned (.bool (digB c)) ∧ w' = w := by
  go_enter Try.func31, Try.ntmps31
  go_wp2
  all_goals go_ret
  all_goals (refine ⟨ret_bool ?_, rfl⟩; rw [Bool.eq_iff_iff]; simp [digB]; try omega)

theorem isAlpha_any (c : Int) (w : World) :
    Calls Try.prog 34 #[.int .u8 c] w fun e w' => e = .returned (.bool (alphaB c)) ∧ w' = w := by
  go_enter Try.func34, Try.ntmps34
  go_wp2
  all_goals go_ret
  all_goals (refine ⟨ret_bool ?_, rfl⟩; rw [Bool.eq_iff_iff]; simp [alphaB]; try omega)

theorem isAlphanum_any (c : Int) (w : World) :
    Calls Try.prog 32 #[.int .u8 c] w fun e w' => e = .returned (.bool (alnumB c)) ∧ w' = w := by
  go_enter Try.func32, Try.ntmps32
  go_wp2_with (first | (go_at_call 31; refine (isDigit_any _ _).mono ?_; rintro e w' ⟨rfl, rfl⟩) | (go_at_call 34; refine (isAlpha_any _ _).mono ?_; rintro e w' ⟨rfl, rfl⟩))
  all_goals go_ret
  all_goals (refine ⟨ret_bool ?_, rfl⟩; simp [alnumB, *])

theorem isTokenChar_any (c : Int) (w : World) (h0 : 0 ≤ c) (h1 : c ≤ 255) :
    Calls Try.prog 28 #[.int .u8 c] w fun e w' => e = .returned (.bool (tokB c)) ∧ w' = w := by
  have H := tok_index c h0 h1
  have HH : Hid _ := H
  clear H
  go_enter Try.func28, Try.ntmps28
  go_wp2_with (first | (go_at_call 32; refine (isAlphanum_any _ _).mono ?_; rintro e w' ⟨rfl, rfl⟩) | (go_at_call 33; refine (strings_IndexByte _ _ _).mono ?_; rintro e w' ⟨rfl, rfl⟩))
  all_goals go_ret
  all_goals (refine ⟨ret_bool ?_, rfl⟩; rw [← HH.out]; simp [*])

theorem zzTokenByte_any (c : Int) (w : World) :
    Calls Try.prog 19 #[.int .u8 c] w fun e w' => e = .returned (.bool (tokB c)) ∧ w' = w := by
  go_enter Try.func19, Try.ntmps19
  go_wp2
  all_goals go_ret
  all_goals refine ⟨ret_bool ?_, rfl⟩
  all_goals (try simp only [beq_iff_eq, beq_eq_false_iff_ne, ne_eq] at *)
  all_goals (first | (rw [eq_comm, Bool.eq_false_iff]; simp [tokB]; omega) | (rw [eq_comm]; simp [tokB]; omega) | (subst_vars; decide))

/-- the end of tokenLen's loop, in the walk's own words -/
theorem tokN_end (s : ByteArray) (k : Nat) (hk : k ≤ s.size) (h : ∀ j (hj : j < s.size), j < k → tk s[j] = true)
    (he : ∀ hj : k < s.size, tk s[k] = false) : tokN s.data.toList = k :=
  tokN_stop s.data.toList k (by simpa using hk) (fun j hj => h j (by omega) hj) (fun hj => he (by simpa using hj))

theorem upto_succ (s : ByteArray) (k : Nat) (h : ∀ j (hj : j < s.size), j < k → tk s[j] = true) (hlt : k < s.size) (ht : tk s[k] = true) :
    ∀ j (hj : j < s.size), j < k + 1 → tk s[j] = true := by
  intro j hj hj'
  by_cases e : j = k
  · subst e; exact ht
  · exact h j hj (by omega)

set_option maxHeartbeats 400000 in
theorem tokenLen_any (s : ByteArray) (w : World) (hs : s.size ≤ maxLen) :
    Calls Try.prog 25 #[.string s] w fun e w' => e = .returned (.int .i64 (tokN s.data.toList)) ∧ w' = w := by
  unfold maxLen at hs
  go_enter Try.func25, Try.ntmps25
  go_wp2
  go_loop [3] (fun n => ∃ k : Nat, n = .int .i64 k ∧ k ≤ s.size ∧ Hid (∀ j (hj : j < s.size), j < k → tk s[j] = true)) (fun n => s.size - (intOf n).toNat)
  case atStart => exact ⟨0, rfl, Nat.zero_le _, (fun j hj h => absurd h (by omega) : ∀ j (hj : j < s.size), j < 0 → tk s[j] = true)⟩
  case round =>
    obtain ⟨k, rfl, hk, ha⟩ := hrel
    by_cases hlt : k < s.size
    · have hb := s[k].toNat_lt
      cases ht : tokB (s[k].toNat : Int)
      · have Ht : Hid (tokB (s[k].toNat : Int) = false) := ht
        go_wp2_with (go_at_call 28; refine (isTokenChar_any _ _ (by omega) (by omega)).mono ?_; rintro e w' ⟨rfl, rfl⟩)
        go_ret
        refine ⟨ret_int ?_, rfl⟩
        rw [tokN_end s k hk ha.out (fun _ => Ht.out)]
      · have Ht : Hid (tokB (s[k].toNat : Int) = true) := ht
        go_wp2_with (go_at_call 28; refine (isTokenChar_any _ _ (by omega) (by omega)).mono ?_; rintro e w' ⟨rfl, rfl⟩)
        go_round
        case rel => exact ⟨k + 1, by go_num, by omega, upto_succ s k ha.out hlt Ht.out⟩
        case measure => simp [intOf]; omega
    · go_wp2
      go_ret
      refine ⟨ret_int ?_, rfl⟩
      rw [tokN_end s k hk ha.out (fun h => absurd h hlt)]

theorem isTok_len (l : List UInt8) (he : l.isEmpty = false) : ((tokN l : Int) == (l.length : Int)) = isTok l := by
  rw [isTok_all l he, Bool.eq_iff_iff, ← tokN_all]
  simp
  omega

theorem empty_iff (s : ByteArray) : s.toList = [] ↔ s.data.toList.isEmpty = true := by
  rw [Lib.toList_data, List.isEmpty_iff]

theorem isToken_any (s : ByteArray) (w : World) (hs : s.size ≤ maxLen) :
    Calls Try.prog 18 #[.string s] w fun e w' => e = .returned (.bool (isTok s.data.toList)) ∧ w' = w := by
  cases he : s.data.toList.isEmpty
  · have HE : Hid _ := isTok_len s.data.toList he
    have hne : ¬ s.toList = [] := by rw [empty_iff, he]; simp
    clear he
    go_enter Try.func18, Try.ntmps18
    go_wp2_with (go_at_call 25; refine (tokenLen_any _ _ hs).mono ?_; rintro e w' ⟨rfl, rfl⟩)
    go_ret
    refine ⟨ret_bool ?_, rfl⟩
    rw [← HE.out]
    simp [hne]
  · have HE : Hid (isTok s.data.toList = false) := by show isTok s.data.toList = false; simp [isTok, he]
    have hne : s.toList = [] := (empty_iff s).2 he
    clear he
    go_enter Try.func18, Try.ntmps18
    go_wp2
    go_ret
    exact ⟨ret_bool HE.out.symm, rfl⟩

theorem ZZIsToken_any (s : ByteArray) (w : World) (hs : s.size ≤ maxLen) :
    Calls Try.prog 8 #[.string s] w fun e w' => e = .returned (.bool (isTok s.data.toList)) ∧ w' = w := by
  go_enter Try.func8, Try.ntmps8
  go_wp2_with (go_at_call 18; refine (isToken_any _ _ hs).mono ?_; rintro e w' ⟨rfl, rfl⟩)
  go_ret
  exact ⟨rfl, rfl⟩

theorem isTok_no (s : ByteArray) (k : Nat) (hk : k < s.size) (ht : tk s[k] = false) : isTok s.data.toList = false := by
  unfold isTok
  have : s.data.toList.all tk = false := by
    rw [← Bool.not_eq_true, List.all_eq_true]
    intro h
    have := h (s.data.toList[k]'(by simpa using hk)) (List.getElem_mem _)
    rw [show s.data.toList[k]'(by simpa using hk) = s[k] from rfl, ht] at this
    cases this
  simp [this]

theorem isTok_yes (s : ByteArray) (he : s.data.toList.isEmpty = false) (h : ∀ j (hj : j < s.size), j < s.size → tk s[j] = true) : isTok s.data.toList = true := by
  rw [isTok_all _ he, List.all_eq_true]
  intro x hx
  obtain ⟨j, hj, rfl⟩ := List.mem_iff_getElem.1 hx
  exact h j (by simpa using hj) (by simpa using hj)

set_option maxHeartbeats 400000 in
theorem zzTokenModel_any (s : ByteArray) (w : World) (hs : s.size ≤ maxLen) :
    Calls Try.prog 9 #[.string s] w fun e w' => e = .returned (.bool (isTok s.data.toList)) ∧ w' = w := by
  unfold maxLen at hs
  cases he : s.data.toList.isEmpty
  · have HE : Hid (s.data.toList.isEmpty = false) := he
    have hne : s.toList.isEmpty = false := by rw [Lib.toList_data]; exact he
    clear he
    go_enter Try.func9, Try.ntmps9
    go_wp2
    go_loop [3] (fun n => ∃ k : Nat, n = .int .i64 k ∧ k ≤ s.size ∧ Hid (∀ j (hj : j < s.size), j < k → tk s[j] = true)) (fun n => s.size - (intOf n).toNat)
    case atStart => exact ⟨0, rfl, Nat.zero_le _, (fun j hj h => absurd h (by omega) : ∀ j (hj : j < s.size), j < 0 → tk s[j] = true)⟩
    case round =>
      obtain ⟨k, rfl, hk, ha⟩ := hrel
      by_cases hlt : k < s.size
      · have hb := s[k].toNat_lt
        cases ht : tokB (s[k].toNat : Int)
        · have Ht : Hid (tokB (s[k].toNat : Int) = false) := ht
          go_wp2_with (go_at_call 19; refine (zzTokenByte_any _ _).mono ?_; rintro e w' ⟨rfl, rfl⟩)
          go_ret
          exact ⟨ret_bool (isTok_no s k hlt Ht.out).symm, rfl⟩
        · have Ht : Hid (tokB (s[k].toNat : Int) = true) := ht
          go_wp2_with (go_at_call 19; refine (zzTokenByte_any _ _).mono ?_; rintro e w' ⟨rfl, rfl⟩)
          go_round
          case rel => exact ⟨k + 1, by go_num, by omega, upto_succ s k ha.out hlt Ht.out⟩
          case measure => simp [intOf]; omega
      · go_wp2
        go_ret
        exact ⟨ret_bool (isTok_yes s HE.out (fun j hj _ => ha.out j hj (by omega))).symm, rfl⟩
  · have HE : Hid (isTok s.data.toList = false) := by show isTok s.data.toList = false; simp [isTok, he]
    have hne : s.toList.isEmpty = true := by rw [Lib.toList_data]; exact he
    clear he
    go_enter Try.func9, Try.ntmps9
    go_wp2
    go_ret
    exact ⟨ret_bool HE.out.symm, rfl⟩
end Go.Proofs.Qxb6616805a
