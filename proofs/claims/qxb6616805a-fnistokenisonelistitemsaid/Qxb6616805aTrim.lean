import Derived.Test.Qxb6616805aTok
import Derived.Test.Qxb6616805aTrimPlain
import Derived.Lib.IndexBytes
import Derived.WalkKit
import Derived.Outline
import Derived.WalkLawsBesides
set_option linter.unusedSimpArgs false
set_option linter.unusedVariables false
namespace Go.Proofs.Qxb6616805a
open Go.RowKit

theorem ret_str {s : ByteArray} {l : List UInt8} (h : s.data.toList = l) : Ending.returned (.string s) = .returned (.string (B l)) := by
  subst h; rfl

theorem isLWS_any (c : Int) (w : World) :
    Calls Try.prog 30 #[.int .u8 c] w fun e w' => e = .returned (.bool (lwsB c)) ∧ w' = w := by
  go_enter Try.func30, Try.ntmps30
  go_wp2
  all_goals go_ret
  all_goals (refine ⟨ret_bool ?_, rfl⟩; simp [lwsB, *])

theorem zzIsLWS_any (c : Int) (w : World) :
    Calls Try.prog 21 #[.int .u8 c] w fun e w' => e = .returned (.bool (lwsB c)) ∧ w' = w := by
  go_enter Try.func21, Try.ntmps21
  go_wp2
  all_goals go_ret
  all_goals (refine ⟨ret_bool ?_, rfl⟩; simp [lwsB, *])

theorem head_split (r : ByteArray) (h : 0 < r.size) : r.data.toList = r[0] :: r.data.toList.drop 1 := by
  have : 0 < r.data.toList.length := by simpa using h
  rw [List.drop_one]
  conv => lhs; rw [← List.cons_head_tail (l := r.data.toList) (by intro e; rw [e] at this; simp at this)]
  congr 1
  rw [List.head_eq_getElem]
  rfl

theorem last_split (r : ByteArray) (h : 0 < r.size) : r.data.toList = r.data.toList.take (r.size - 1) ++ [r[r.size - 1]] := by
  have e := List.take_succ_eq_append_getElem (l := r.data.toList) (i := r.size - 1) (by simp; omega)
  rw [show r.size - 1 + 1 = r.size from by omega] at e
  rw [List.take_of_length_le (by simp)] at e
  exact e

theorem nonempty_size (r : ByteArray) (h : ¬ r.toList = []) : 0 < r.size := by
  rw [Lib.toList_data] at h
  have := List.length_pos_iff.2 h
  simpa using this

theorem size_nonempty (r : ByteArray) (h : 0 < r.size) : ¬ r.toList = [] := by
  rw [Lib.toList_data]
  intro e
  have := congrArg List.length e
  rw [show r.data.toList.length = r.size from by simp, List.length_nil] at this
  omega
theorem size_isEmpty (r : ByteArray) (h : 0 < r.size) : r.toList.isEmpty = false :=
  List.isEmpty_eq_false_iff.2 (size_nonempty r h)
theorem size_empty (r : ByteArray) (h : ¬ 0 < r.size) : r.toList = [] := by
  rw [Lib.toList_data]
  apply List.eq_nil_of_length_eq_zero
  rw [show r.data.toList.length = r.size from by simp]; omega

theorem ext_tail (r : ByteArray) : (r.extract 1 r.size).data.toList = r.data.toList.drop 1 := Lib.extract_to_end r 1
theorem ext_init (r : ByteArray) : (r.extract 0 (r.size - 1)).data.toList = r.data.toList.take (r.size - 1) := by
  rw [Lib.extract_data]; simp

theorem trimL_step (r s : ByteArray) (h : 0 < r.size) (hl : lw r[0] = true) (H : trimL r.data.toList = trimL s.data.toList) :
    trimL (r.extract 1 r.size).data.toList = trimL s.data.toList := by
  rw [ext_tail, ← H, ← trimL_yes _ _ hl, ← head_split r h]
theorem trimL_stop (r s : ByteArray) (h : 0 < r.size) (hl : lw r[0] = false) (H : trimL r.data.toList = trimL s.data.toList) :
    r.data.toList = trimL s.data.toList := by
  rw [← H]
  conv => rhs; rw [head_split r h]
  rw [trimL_no _ _ hl, ← head_split r h]
theorem trimL_end (r s : ByteArray) (h : ¬ 0 < r.size) (H : trimL r.data.toList = trimL s.data.toList) :
    r.data.toList = trimL s.data.toList := by
  have := size_empty r h
  rw [Lib.toList_data] at this
  rw [← H, this]; rfl
theorem trimR_step (r s : ByteArray) (h : 0 < r.size) (hl : lw r[r.size - 1] = true) (H : trimR r.data.toList = trimR s.data.toList) :
    trimR (r.extract 0 (r.size - 1)).data.toList = trimR s.data.toList := by
  rw [ext_init, ← H, ← trimR_yes _ _ hl, ← last_split r h]
theorem trimR_stop (r s : ByteArray) (h : 0 < r.size) (hl : lw r[r.size - 1] = false) (H : trimR r.data.toList = trimR s.data.toList) :
    r.data.toList = trimR s.data.toList := by
  rw [← H]
  conv => rhs; rw [last_split r h]
  rw [trimR_no _ _ hl, ← last_split r h]
theorem trimR_end (r s : ByteArray) (h : ¬ 0 < r.size) (H : trimR r.data.toList = trimR s.data.toList) :
    r.data.toList = trimR s.data.toList := by
  have := size_empty r h
  rw [Lib.toList_data] at this
  rw [← H, this]; rfl

set_option maxHeartbeats 400000 in
theorem trimLeftLWS_any (s : ByteArray) (w : World) (hs : s.size ≤ maxLen) :
    Calls Try.prog 29 #[.string s] w fun e w' => e = .returned (.string (B (trimL s.data.toList))) ∧ w' = w := by
  unfold maxLen at hs
  go_enter Try.func29, Try.ntmps29
  go_wp2
  go_loop [0] (fun v => ∃ r : ByteArray, v = .string r ∧ r.size ≤ s.size ∧ Hid (trimL r.data.toList = trimL s.data.toList)) (fun v => match v with | .string r => r.size | _ => 0)
  case atStart => exact ⟨s, rfl, Nat.le_refl _, (rfl : trimL s.data.toList = trimL s.data.toList)⟩
  case round =>
    obtain ⟨r, rfl, hk, ha⟩ := hrel
    by_cases hlt : 0 < r.size
    · have hne := size_nonempty r hlt
      have hne2 := size_isEmpty r hlt
      cases ht : lwsB (r[0].toNat : Int)
      · have Ht : Hid (lw r[0] = false) := ht
        go_wp2_with (go_at_call 30; refine (isLWS_any _ _).mono ?_; rintro e w' ⟨rfl, rfl⟩)
        go_ret
        exact ⟨ret_str (trimL_stop r s hlt Ht.out ha.out), rfl⟩
      · have Ht : Hid (lw r[0] = true) := ht
        go_wp2_with (go_at_call 30; refine (isLWS_any _ _).mono ?_; rintro e w' ⟨rfl, rfl⟩)
        go_round
        case rel => exact ⟨_, rfl, by simp; omega, trimL_step r s hlt Ht.out ha.out⟩
        case measure => simp; omega
    · have hne := size_empty r hlt
      go_wp2
      go_ret
      exact ⟨ret_str (trimL_end r s hlt ha.out), rfl⟩

set_option maxHeartbeats 400000 in
theorem trimLWS_any (s : ByteArray) (w : World) (hs : s.size ≤ maxLen) :
    Calls Try.prog 26 #[.string s] w fun e w' => e = .returned (.string (B (trim s.data.toList))) ∧ w' = w := by
  have hle := trimL_le s.data.toList
  have hB : (B (trimL s.data.toList)).size ≤ s.size := by rw [B_size]; simpa using hle
  have HB : Hid (trimR (B (trimL s.data.toList)).data.toList = trim s.data.toList) := (rfl : trimR (trimL s.data.toList) = trim s.data.toList)
  clear hle
  go_enter Try.func26, Try.ntmps26
  go_wp2_with (go_at_call 29; refine (trimLeftLWS_any _ _ hs).mono ?_; rintro e w' ⟨rfl, rfl⟩)
  generalize B (trimL s.data.toList) = t at *
  unfold maxLen at hs
  go_loop [0] (fun v => ∃ r : ByteArray, v = .string r ∧ r.size ≤ s.size ∧ Hid (trimR r.data.toList = trimR t.data.toList)) (fun v => match v with | .string r => r.size | _ => 0)
  case atStart => exact ⟨t, rfl, hB, (rfl : trimR t.data.toList = trimR t.data.toList)⟩
  case round =>
    obtain ⟨r, rfl, hk, ha⟩ := hrel
    by_cases hlt : 0 < r.size
    · have hne := size_nonempty r hlt
      have hne2 := size_isEmpty r hlt
      have hix : ((r.size : Int) - 1).toNat = r.size - 1 := by omega
      cases ht : lwsB (r[r.size - 1].toNat : Int)
      · have Ht : Hid (lw r[r.size - 1] = false) := ht
        go_wp2_with (go_at_call 30; refine (isLWS_any _ _).mono ?_; rintro e w' ⟨rfl, rfl⟩)
        go_ret
        exact ⟨ret_str ((trimR_stop r t hlt Ht.out ha.out).trans HB.out), rfl⟩
      · have Ht : Hid (lw r[r.size - 1] = true) := ht
        go_wp2_with (go_at_call 30; refine (isLWS_any _ _).mono ?_; rintro e w' ⟨rfl, rfl⟩)
        go_round
        case rel => exact ⟨_, rfl, by simp; omega, trimR_step r t hlt Ht.out ha.out⟩
        case measure => simp; omega
    · have hne := size_empty r hlt
      go_wp2
      go_ret
      exact ⟨ret_str ((trimR_end r t hlt ha.out).trans HB.out), rfl⟩

theorem upto_lw (s : ByteArray) (k : Nat) (h : ∀ j (hj : j < s.size), j < k → lw s[j] = true) (hlt : k < s.size) (ht : lw s[k] = true) :
    ∀ j (hj : j < s.size), j < k + 1 → lw s[j] = true := by
  intro j hj hj'
  by_cases e : j = k
  · subst e; exact ht
  · exact h j hj (by omega)
theorem from_lw (s : ByteArray) (k : Nat) (h : ∀ j (hj : j < s.size), k ≤ j → lw s[j] = true) (h0 : 0 < k) (hlt : k - 1 < s.size) (ht : lw s[k - 1] = true) :
    ∀ j (hj : j < s.size), k - 1 ≤ j → lw s[j] = true := by
  intro j hj hj'
  by_cases e : j = k - 1
  · subst e; exact ht
  · exact h j hj (by omega)

theorem zz_end (s : ByteArray) (i j : Nat) (hij : i ≤ j) (hj : j ≤ s.size) (h : ∀ x (hx : x < s.size), x < i → lw s[x] = true)
    (he : ∀ hx : i < s.size, lw s[i] = false) (h2 : ∀ x (hx : x < s.size), j ≤ x → lw s[x] = true)
    (he2 : ∀ (h0 : i < j) (hx : j - 1 < s.size), lw s[j - 1] = false) : (s.extract i j).data.toList = trim s.data.toList := by
  rw [Lib.extract_data]
  refine (trim_places s.data.toList i j hij (by simpa using hj) (fun x hx => h x (by simpa using hx)) (fun hx => he (by simpa using hx)) (fun x hx => h2 x (by simpa using hx)) (fun h0 => he2 h0 (by omega))).symm

set_option maxHeartbeats 800000 in
theorem zzTrimLWS_any (s : ByteArray) (w : World) (hs : s.size ≤ maxLen) :
    Calls Try.prog 12 #[.string s] w fun e w' => e = .returned (.string (B (trim s.data.toList))) ∧ w' = w := by
  unfold maxLen at hs
  go_enter Try.func12, Try.ntmps12
  go_wp2
  go_loop [3] (fun n => ∃ k : Nat, n = .int .i64 k ∧ k ≤ s.size ∧ Hid (∀ j (hj : j < s.size), j < k → lw s[j] = true)) (fun n => s.size - (intOf n).toNat)
  case atStart => exact ⟨0, rfl, Nat.zero_le _, (fun j hj h => absurd h (by omega) : ∀ j (hj : j < s.size), j < 0 → lw s[j] = true)⟩
  case round =>
    obtain ⟨k, rfl, hk, ha⟩ := hrel
    by_cases hlt : k < s.size ∧ ∃ h : k < s.size, lw s[k] = true
    · obtain ⟨hlt, _, ht⟩ := hlt
      have ht' : lwsB (s[k].toNat : Int) = true := ht
      have Ht : Hid (lw s[k] = true) := ht
      clear ht
      go_wp2_with (go_at_call 21; refine (zzIsLWS_any _ _).mono ?_; rintro e w' ⟨rfl, rfl⟩)
      go_round
      case rel => exact ⟨k + 1, by go_num, by omega, upto_lw s k ha.out hlt Ht.out⟩
      case measure => simp [intOf]; omega
    · have HE : Hid (∀ hx : k < s.size, lw s[k] = false) := by
        show ∀ hx : k < s.size, lw s[k] = false
        intro hx
        rw [← Bool.not_eq_true]
        intro h
        exact hlt ⟨hx, hx, h⟩
      have hcase : (k < s.size ∧ ∃ h : k < s.size, lwsB (s[k].toNat : Int) = false) ∨ ¬ k < s.size := by
        by_cases hx : k < s.size
        · exact .inl ⟨hx, hx, HE.out hx⟩
        · exact .inr hx
      clear hlt
      rcases hcase with ⟨hx, _, ht⟩ | hx
      all_goals
        go_wp2_with (go_at_call 21; refine (zzIsLWS_any _ _).mono ?_; rintro e w' ⟨rfl, rfl⟩)
        go_loop [4] (fun n => ∃ m : Nat, n = .int .i64 m ∧ k ≤ m ∧ m ≤ s.size ∧ Hid (∀ j (hj : j < s.size), m ≤ j → lw s[j] = true)) (fun n => (intOf n).toNat)
        case atStart => exact ⟨s.size, rfl, hk, Nat.le_refl _, (fun j hj h => absurd h (by omega) : ∀ j (hj : j < s.size), s.size ≤ j → lw s[j] = true)⟩
        case round =>
          obtain ⟨m, rfl, hm, hm2, hb⟩ := hrel
          by_cases hgt : k < m
          · have hix : ((m : Int) - 1).toNat = m - 1 := by omega
            have hm3 : m - 1 < s.size := by omega
            cases ht2 : lwsB (s[m - 1].toNat : Int)
            · have Ht : Hid (lw s[m - 1] = false) := ht2
              go_wp2_with (go_at_call 21; refine (zzIsLWS_any _ _).mono ?_; rintro e w' ⟨rfl, rfl⟩)
              all_goals
                go_ret
                exact ⟨ret_str (zz_end s k m hm hm2 ha.out HE.out hb.out (fun _ _ => Ht.out)), rfl⟩
            · have Ht : Hid (lw s[m - 1] = true) := ht2
              go_wp2_with (go_at_call 21; refine (zzIsLWS_any _ _).mono ?_; rintro e w' ⟨rfl, rfl⟩)
              all_goals
                go_round
                case rel => exact ⟨m - 1, by go_num, by omega, by omega, from_lw s m hb.out (by omega) hm3 Ht.out⟩
                case measure => simp [intOf]; omega
          · go_wp2
            go_ret
            exact ⟨ret_str (zz_end s k m hm hm2 ha.out HE.out hb.out (fun h => absurd h hgt)), rfl⟩
end Go.Proofs.Qxb6616805a
