import Derived.Test.Qxb6616805aTrim
import Derived.Deep.QuietTactic
import Derived.BigQuiet
set_option linter.unusedSimpArgs false
set_option linter.unusedVariables false
namespace Go.Proofs.Qxb6616805a
open Go.RowKit

theorem ext_maxLen (s : ByteArray) (a b : Nat) (h : s.size ≤ maxLen) : (s.extract a b).size ≤ maxLen := by
  rw [ByteArray.size_extract]; omega

theorem ret_two {l m : List UInt8} {l' m' : List UInt8} (h : l = l') (h2 : m = m') :
    Ending.returned (.tuple #[.string (B (trim l)), .string (B (trim m))]) = .returned (.tuple #[.string (B (trim l')), .string (B (trim m'))]) := by
  subst h; subst h2; rfl

set_option maxHeartbeats 1000000 in
theorem cutList_comma (v : ByteArray) (n : Nat) (w : World) (hs : v.size ≤ 2097152) (hn : n < v.size)
    (hb : ∀ j (hj : j < v.size), j < n → (v[j].toNat ≠ 34 ∧ v[j].toNat ≠ 60 ∧ v[j].toNat ≠ 62 ∧ v[j].toNat ≠ 44)) (hc : v[n].toNat = 44) :
    Calls Try.prog 20 #[.string v] w fun e w' => e = .returned (.tuple #[.string (B (trim (v.data.toList.take n))), .string (B (trim (v.data.toList.drop (n + 1))))]) ∧ ∃ m, w' = w.drewN m := by
  have HB : Hid _ := hb
  have HC : Hid (v[n].toNat = 44) := hc
  have hm : v.size ≤ maxLen := by unfold maxLen; omega
  clear hb hc
  go_enter Try.func20, Try.ntmps20
  go_wp2
  go_loop [4, 5, 6] (fun q a i => q = .bool false ∧ a = .bool false ∧ ∃ k : Nat, i = .int .i64 k ∧ k ≤ n) (fun _ _ i => v.size - (intOf i).toNat)
  case atStart => exact ⟨rfl, rfl, 0, rfl, Nat.zero_le _⟩
  case round =>
    obtain ⟨rfl, rfl, k, rfl, hk⟩ := hrel
    have hkv : k < v.size := by omega
    by_cases hkn : k < n
    · obtain ⟨h1, h2, h3, h4⟩ := HB.out k hkv hkn
      have g1 : ((v[k].toNat : Int) == 34) = false := beq_eq_false_iff_ne.2 (by omega)
      have g2 : ((v[k].toNat : Int) == 60) = false := beq_eq_false_iff_ne.2 (by omega)
      have g3 : ((v[k].toNat : Int) == 62) = false := beq_eq_false_iff_ne.2 (by omega)
      have g4 : ((v[k].toNat : Int) == 44) = false := beq_eq_false_iff_ne.2 (by omega)
      clear h1 h2 h3 h4
      go_wp2
      go_round
      case rel => exact ⟨rfl, rfl, k + 1, by go_num, by omega⟩
      case measure => simp [intOf]; omega
    · have e : k = n := by omega
      subst e
      have g1 : ((v[k].toNat : Int) == 34) = false := beq_eq_false_iff_ne.2 (by have := HC.out; omega)
      have g2 : ((v[k].toNat : Int) == 60) = false := beq_eq_false_iff_ne.2 (by have := HC.out; omega)
      have g3 : ((v[k].toNat : Int) == 62) = false := beq_eq_false_iff_ne.2 (by have := HC.out; omega)
      have g4 : ((v[k].toNat : Int) == 44) = true := beq_iff_eq.2 (by have := HC.out; omega)
      go_wp2
      go_quiet ((go_at_call 26; exact Calls.quiet_of_same (trimLWS_any _ _ (ext_maxLen _ _ _ hm))))
      go_wp2
      go_ret2
      exact ⟨ret_two (by rw [Lib.extract_data]; simp) (Lib.extract_to_end v (k + 1)), nq, rfl⟩

theorem ZZCutList_comma (v : ByteArray) (n : Nat) (w : World) (hs : v.size ≤ 2097152) (hn : n < v.size)
    (hb : ∀ j (hj : j < v.size), j < n → (v[j].toNat ≠ 34 ∧ v[j].toNat ≠ 60 ∧ v[j].toNat ≠ 62 ∧ v[j].toNat ≠ 44)) (hc : v[n].toNat = 44) :
    Calls Try.prog 11 #[.string v] w fun e w' => e = .returned (.tuple #[.string (B (trim (v.data.toList.take n))), .string (B (trim (v.data.toList.drop (n + 1))))]) ∧ ∃ m, w' = w.drewN m := by
  have HB : Hid _ := hb
  have HC : Hid (v[n].toNat = 44) := hc
  clear hb hc
  go_enter Try.func11, Try.ntmps11
  go_wp2_with (go_at_call 20; refine (cutList_comma v n _ hs hn HB.out HC.out).mono ?_; rintro e w' ⟨rfl, m, rfl⟩)
  go_ret2
  exact ⟨rfl, m, rfl⟩

/-- the list "s , t" as bytes -/
theorem joined (s t : ByteArray) : (s ++ ⟨#[44]⟩ ++ t).data.toList = s.data.toList ++ 44 :: t.data.toList := by
  simp

theorem joined_size (s t : ByteArray) : (s ++ ⟨#[44]⟩ ++ t).size = s.size + 1 + t.size := by
  simp [ByteArray.size_append]; rfl

theorem joined_get (s t : ByteArray) (j : Nat) (hj : j < (s ++ ⟨#[44]⟩ ++ t).size) (h : j < s.size) : (s ++ ⟨#[44]⟩ ++ t)[j] = s[j] := by
  rw [ByteArray.getElem_append_left (by simp [ByteArray.size_append]; omega), ByteArray.getElem_append_left h]

theorem joined_at (s t : ByteArray) (hj : s.size < (s ++ ⟨#[44]⟩ ++ t).size) : ((s ++ ⟨#[44]⟩ ++ t)[s.size]).toNat = 44 := by
  have e : (s ++ ⟨#[44]⟩ ++ t)[s.size] = (s ++ ⟨#[44]⟩ ++ t).data.toList[s.size]'(by simp) := rfl
  rw [e]
  have : (s ++ ⟨#[44]⟩ ++ t).data.toList[s.size]? = some 44 := by
    rw [joined]
    rw [List.getElem?_append_right (by simp)]
    simp
  rw [List.getElem?_eq_getElem (by simp)] at this
  injection this with this
  rw [this]; rfl

theorem ZZCutList_join (s t : ByteArray) (w : World) (hs : s.size ≤ 524288) (ht : t.size ≤ 524288) (hk : isTok s.data.toList = true) :
    Calls Try.prog 11 #[.string (s ++ ⟨#[44]⟩ ++ t)] w fun e w' => e = .returned (.tuple #[.string s, .string (B (trim t.data.toList))]) ∧ ∃ m, w' = w.drewN m := by
  refine (ZZCutList_comma _ s.size w (by rw [joined_size]; omega) (by rw [joined_size]; omega) ?_ (joined_at s t _)).mono ?_
  · intro j hj hjs
    rw [joined_get s t j hj hjs]
    apply tk_sep
    unfold isTok at hk
    simp only [Bool.and_eq_true, List.all_eq_true] at hk
    exact hk.2 _ (List.getElem_mem (l := s.data.toList) (n := j) (by simpa using hjs))
  · rintro e w' ⟨rfl, m, rfl⟩
    refine ⟨?_, m, rfl⟩
    rw [joined]
    have e1 : (s.data.toList ++ 44 :: t.data.toList).take s.size = s.data.toList := by
      rw [List.take_append_of_le_length (by simp), List.take_of_length_le (by simp)]
    have e2 : (s.data.toList ++ 44 :: t.data.toList).drop (s.size + 1) = t.data.toList := by
      rw [List.drop_append, List.drop_eq_nil_of_le (by simp)]
      simp
    rw [e1, e2, trim_tok _ hk]
    rfl
end Go.Proofs.Qxb6616805a
