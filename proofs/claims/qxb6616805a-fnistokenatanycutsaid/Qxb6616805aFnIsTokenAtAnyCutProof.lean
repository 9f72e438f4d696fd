/-
  THE SHELL OF A PROOF OF 'Rows.FnIsTokenAtAnyCutSaid' ('example.com/callsign/callsign/zzlaws_internal_sip_b1.FnIsTokenAtAnyCut'), WRITTEN BY PROGRAM (proof-skeleton.mjs) off the guide's own print for that function.
-/
import Derived.Test.Qxb6616805aRows
import Derived.WalkKit
import Derived.ProofKit
import Derived.OpenShut
import Derived.ShutString
import Derived.Test.Qxb6616805aTok
import Derived.Outline
import Derived.WalkLawsBesides
namespace Go.Proofs.Qxb6616805a.fnIsTokenAtAnyCut
open Go.ChangeShapes Go.WideShapes Go.ChangeAt Go.RowKit
open Go.ChangeMaps (open_string shut_string)
set_option linter.unusedVariables false      -- a walk need not use every 'w<i>' (that an integer argument fits its kind)

theorem own : ownKnob Try.prog.godebug = none := by kernel_rfl

theorem ext_le (s : ByteArray) (a b : Nat) (h : s.size ≤ maxLen) : (s.extract a b).size ≤ maxLen := by
  rw [ByteArray.size_extract]; omega

/-! ### THE PLAIN LAW, a lemma a way, in the walk's words -/
theorem way_empty (s : ByteArray) (h : s.toList = []) : (!isTok s.data.toList) = true := by
  rw [Lib.toList_data] at h
  rw [h]; rfl

theorem way_no (s : ByteArray) (k : Nat) (h : ¬ isTok (List.take k s.data.toList) = true) (hk : 0 < k) : (!isTok s.data.toList) = true := by
  by_cases he : s.toList = []
  · exact way_empty s he
  rw [Lib.toList_data] at he
  rw [Bool.not_eq_true', ← Bool.not_eq_true]
  intro ht
  apply h
  rw [isTok_cut _ k] at ht
  unfold isTok
  simp only [Bool.and_eq_true] at ht ⊢
  refine ⟨?_, ht.1.2⟩
  simp [he]
  omega

theorem way_mid (s : ByteArray) (k : Nat) (he : ¬ s.toList = []) (hk : k < s.size) (h : isTok (List.take k s.data.toList) = true ∨ k = 0) :
    (isTok s.data.toList == (!s.toList.isEmpty && isTok (List.take (s.size - k) (List.drop k s.data.toList)))) = true := by
  rw [Lib.toList_data] at he ⊢
  have hd : List.take (s.size - k) (List.drop k s.data.toList) = List.drop k s.data.toList := by
    apply List.take_of_length_le
    simp
  rw [hd, isTok_cut _ k]
  have h1 : (List.take k s.data.toList).all tk = true := by
    rcases h with h | h
    · unfold isTok at h
      simp only [Bool.and_eq_true] at h
      exact h.2
    · subst h; rfl
  have h2 : isTok (List.drop k s.data.toList) = (List.drop k s.data.toList).all tk := by
    apply isTok_all
    rw [List.isEmpty_eq_false_iff]
    intro e
    have := congrArg List.length e
    simp at this
    omega
  rw [h1, h2]
  simp

theorem way_end (s : ByteArray) (k : Nat) (he : ¬ s.toList = []) (hk : ¬ k < s.size) (h : isTok (List.take k s.data.toList) = true) :
    (isTok s.data.toList == !s.toList.isEmpty) = true := by
  rw [Lib.toList_data] at he ⊢
  have hd : List.take k s.data.toList = s.data.toList := by
    apply List.take_of_length_le
    simp; omega
  rw [hd] at h
  rw [h, List.isEmpty_eq_false_iff.2 he]
  rfl

theorem way_zero (s : ByteArray) (k : Nat) (he : ¬ s.toList = []) (hk : ¬ k < s.size) (h : ¬ 0 < k) :
    (isTok s.data.toList == !s.toList.isEmpty) = true := by
  exfalso
  apply he
  rw [Lib.toList_data]
  apply List.eq_nil_of_length_eq_zero
  rw [show s.data.toList.length = s.size from by simp]; omega

/-! ### STEP 1: THE WALK -/
theorem bytes_no (s : ByteArray) (k : Int) (w : World) (h : ¬ s.size ≤ 1048576) :
    Calls Try.prog 7 #[.string s, .int .i64 k] w fun e w' => e = .returned (.bool false) ∧ w' = w := by
  have h' : (1048576 : Int) < (s.size : Int) := by omega
  go_enter Try.func7, Try.ntmps7
  go_wp2
  go_ret
  exact ⟨rfl, rfl⟩

theorem bytes_yes (s : ByteArray) (k : Int) (w : World) (h : s.size ≤ 1048576) :
    Calls Try.prog 7 #[.string s, .int .i64 k] w fun e w' => e = .returned (.bool true) ∧ w' = w := by
  have h' : (s.size : Int) ≤ (1048576 : Int) := by omega
  go_enter Try.func7, Try.ntmps7
  go_wp2
  go_ret
  exact ⟨rfl, rfl⟩

theorem walk (a0 : ByteArray) (a1 : Int) (w0 : a0.size ≤ maxLen) (w1 : (Lit.int .i64 a1).wf = true) (w : World) :
    Calls Try.prog 3 #[.string a0, .int .i64 a1] w fun e w' => e = .returned (.bool true) ∧ Grown w w' := by
  by_cases hb : a0.size ≤ 1048576
  · by_cases hk : 0 ≤ a1 ∧ a1 ≤ a0.size
    · obtain ⟨hk0, hk1⟩ := hk
      obtain ⟨k, rfl⟩ := Int.eq_ofNat_of_zero_le hk0
      go_enter Try.func3, Try.ntmps3
      go_wp2_with (first
        | (go_at_call 7; refine (bytes_yes _ _ _ hb).mono ?_; rintro e w' ⟨rfl, rfl⟩)
        | (go_at_call 8; refine (ZZIsToken_any _ _ (by first | exact w0 | exact ext_le _ _ _ w0)).mono ?_; rintro e w' ⟨rfl, rfl⟩)
        | (go_at_call 9; refine (zzTokenModel_any _ _ w0).mono ?_; rintro e w' ⟨rfl, rfl⟩))
      all_goals go_ret
      all_goals refine ⟨ret_bool ?_, by repeat (first | exact Grown.refl _ | apply Grown.drew | apply Grown.alloc)⟩
      · exact way_empty _ ‹_›
      · exact way_mid _ _ ‹_› ‹_› (.inl ‹_›)
      · exact way_no _ _ ‹_› ‹_›
      · exact way_empty _ ‹_›
      · exact way_end _ _ ‹_› ‹_› ‹_›
      · exact way_no _ _ ‹_› ‹_›
      · exact way_empty _ ‹_›
      · exact way_mid _ _ ‹_› ‹_› (.inr (by omega))
      · exact way_empty _ ‹_›
      · exact way_zero _ _ ‹_› ‹_› ‹_›
    · by_cases hn : a1 < 0
      · go_enter Try.func3, Try.ntmps3
        go_wp2_with (first
          | (go_at_call 7; refine (bytes_yes _ _ _ hb).mono ?_; rintro e w' ⟨rfl, rfl⟩))
        go_ret
        exact ⟨rfl, by repeat (first | exact Grown.refl _ | apply Grown.drew | apply Grown.alloc)⟩
      · have hn' : (a0.size : Int) < a1 := by omega
        have hn0 : 0 ≤ a1 := by omega
        clear hk
        go_enter Try.func3, Try.ntmps3
        go_wp2_with (first
          | (go_at_call 7; refine (bytes_yes _ _ _ hb).mono ?_; rintro e w' ⟨rfl, rfl⟩))
        go_ret
        exact ⟨rfl, by repeat (first | exact Grown.refl _ | apply Grown.drew | apply Grown.alloc)⟩
  · go_enter Try.func3, Try.ntmps3
    go_wp2_with (first | (go_at_call 7; refine (bytes_no _ _ _ hb).mono ?_; rintro e w' ⟨rfl, rfl⟩))
    go_ret
    exact ⟨rfl, by repeat (first | exact Grown.refl _ | apply Grown.drew | apply Grown.alloc)⟩

/-! ### THE ROW's STEP: WRITTEN OUT: LEAVE IT -/
set_option maxRecDepth 100000 in
theorem lifted (os : Os) (started : os.Started) (H : Type) (enc : TypeId × Value → H) :
    ReturnsInHanded {} Try.checked os 3 .any (Rows.fnIsTokenAtAnyCutSpec.pre6 enc Try.prog Try.f3 Rows.fnIsTokenAtAnyCutRow.domain false) (Rows.fnIsTokenAtAnyCutSpec.post enc Try.prog Try.f3 false true false false) := by
  refine returnsInHanded_of_change (C := Try.checked) own started (by kernel_rfl) Try.func3
    (ChangeSpec.witness6 (enc := enc) (C := Try.checked) false ⟨#[], #[.string ByteArray.empty, .int .i64 0], []⟩ 8 (by kernel_rfl) (by kernel_rfl) (by kernel_rfl) (by kernel_rfl)) ?_
  intro W base args ds gs before hval0 hW hcnd _
  have hval : ∀ (j : Nat) t v, Try.f3.params[j]? = some t → args[j]? = some v → Value.okWide Try.prog W .any base t v := hval0
  have hW' := hW
  obtain ⟨p, q, hA0, hV, rfl, hfz, hnd⟩ := hW
  have hA : DataW.TrodAll enc Try.prog W 0 (fun _ => true) true Try.f3.params.toList args.toList ds p := hA0
  rw [Try.params3] at hA hval
  obtain ⟨v0, vs0, d0, ds0, p0, q0, hargs, rfl, rfl, h0, r0⟩ := trodAll_cons hA
  obtain ⟨v1, vs1, d1, ds1, p1, q1, rfl, rfl, rfl, h1, r1⟩ := trodAll_cons r0
  obtain ⟨rfl, rfl, rfl⟩ := trodAll_nil r1
  obtain rfl : args = #[v0, v1] := by cases args; simp_all
  obtain ⟨rfl, rfl⟩ := trodVars_none hV
  obtain ⟨a0, rfl, rfl, rfl, w0⟩ := open_string Try.underlying9 (hval 0 9 v0 rfl rfl) h0
  obtain ⟨a1, rfl, rfl, rfl, w1⟩ := open_int Try.underlying3 (hval 1 3 v1 rfl rfl) h1
  clear hA0 hval0
  simp only [List.append_nil] at hW'
  refine (walk a0 a1 w0 w1 W).mono fun e W' ⟨he, hg⟩ => ?_
  subst he
  exact ⟨_, rfl, post_of_same (pa := []) (pv := []) hW' (fun _ _ _ => (trodAll_cons_mk (shut_bool Try.underlying4 _) trodAll_mk0)) (fun sp _ => (trodAll_cons_mk (shut_string Try.underlying9 w0) (trodAll_cons_mk (shut_int Try.underlying3 w1) trodAll_mk0))) (fun _ _ => rfl) rfl
    (hg.frame _) hg.2.1 (ok_one (by kernel_rfl) rfl (okWide_bool_mk Try.underlying4 _))⟩

theorem over : Rows.fnIsTokenAtAnyCutRow.holds Try.pinned (OpenSpec.ofChange Rows.fnIsTokenAtAnyCutSpec) :=
  OpenClaim.holds_of_wide 3 Try.f3 rfl rfl rfl rfl rfl rfl rfl ⟨rfl, rfl, rfl, rfl, rfl⟩ rfl rfl rfl rfl rfl (by kernel_rfl) Try.func3 (by kernel_rfl)
    (of_decide_eq_true (by kernel_rfl)) (by unfold Func.isWrapper; first | (rw [if_pos (by decide +kernel)]; kernel_rfl) | (rw [if_neg (by decide +kernel)]; exact ⟨rfl, rfl⟩))
    (fun os started H enc _ => lifted os started H enc)

/-- ████ THE STATEMENT ████ -/
theorem proved : Rows.FnIsTokenAtAnyCutSaid :=
  over
#print axioms proved
end Go.Proofs.Qxb6616805a.fnIsTokenAtAnyCut
