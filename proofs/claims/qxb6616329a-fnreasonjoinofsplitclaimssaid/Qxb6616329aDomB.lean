import Derived.Test.Qxb6616329aDom
set_option linter.unusedSimpArgs false
set_option linter.unusedVariables false
namespace Go.Proofs.Qxb6616329a
open Go.RowKit

theorem trimDot_le (l : Bs) : (trimDot l).length ≤ l.length := by
  unfold trimDot; split <;> simp <;> omega

/-- what is still to be answered -/
def blkGo (p : Bs → Bool) (ok : Bool) (r : Bs) : Bool := ok && blk p r
def okN : Value → Value → Nat
  | .string r, .bool true => r.size + 1
  | _, _ => 0
theorem okN_yes (r : ByteArray) : okN (.string r) (.bool true) = r.size + 1 := rfl
theorem okN_no (v : Value) : okN v (.bool false) = 0 := by cases v <;> rfl

theorem blkGo_domBlk (fs : List (Bs → Bool)) (d : Bs) : blkGo (hasAny fs) (matchable (trimDot (lower d))).isSome ((matchable (trimDot (lower d))).getD []) = domBlk fs d := by
  unfold blkGo domBlk
  cases matchable (trimDot (lower d)) <;> rfl

theorem blkGo_step (p : Bs → Bool) (r : Bs) (h : p r = false) : blkGo p (afterDot r).isSome ((afterDot r).getD []) = blkGo p true r := by
  unfold blkGo
  rw [blk_step p r, h]
  cases afterDot r <;> rfl
theorem blkGo_hit (p : Bs → Bool) (r : Bs) (h : p r = true) : blkGo p true r = true := by
  unfold blkGo blk; rw [h]; rfl

theorem afterDot_len (r : Bs) : (afterDot r).isSome = true → ((afterDot r).getD []).length < r.length := by
  cases h : afterDot r with
  | none => intro h; cases h
  | some q => intro _; exact afterDot_lt h
theorem afterDot_le (r : Bs) : ((afterDot r).getD []).length ≤ r.length := by
  cases h : afterDot r with
  | none => simp
  | some q => exact Nat.le_of_lt (afterDot_lt h)

theorem okN_lt (r : Bs) (h : (afterDot r).isSome = true → ((afterDot r).getD []).length < r.length) : okN (.string (B ((afterDot r).getD []))) (.bool (afterDot r).isSome) < okN (.string (B r)) (.bool true) := by
  rw [okN_yes, B_size]
  cases hs : (afterDot r).isSome
  · rw [okN_no]; omega
  · rw [okN_yes, B_size]
    have := h hs
    omega

set_option maxHeartbeats 2000000 in
theorem domainBlocked_any (v : Value) (bb : Nat) (fs : List (Bs → Bool)) (ns : List Nat) (s : ByteArray) (w : World) (hf : w.cell? ⟨bb, 0, none⟩ = some v) (hv : DomsV w v fs ns) (hd : s.size ≤ 1048576) (hfs : fs.length ≤ 4096) :
    Calls Try.prog 18 #[.pointer (some ⟨bb, 0, none⟩), .string s] w fun e w' => e = .returned (.bool (domBlk fs s.data.toList)) ∧ Ext w w' := by
  have HF : Hid _ := hf
  have HV : Hid (DomsV w v fs ns) := hv
  clear hf hv
  go_enter Try.func18, Try.ntmps18
  go_wp2_with fail
  refine (asciiLower_any s _ hd).mono ?_
  rintro e w1 ⟨rfl, hb⟩
  have hlz : (lower s.data.toList).length = s.size := by simp [lower]
  have hsz : (B (lower s.data.toList)).size ≤ maxLen := by rw [B_size, hlz]; unfold maxLen; omega
  have htz : (trimDot (B (lower s.data.toList)).data.toList).length ≤ 1048576 := by
    have := trimDot_le (lower s.data.toList)
    rw [B_list]; omega
  clear hlz
  go_wp2_with fail
  refine (TrimSuffix_dot _ _ hsz).mono ?_
  rintro e w2 ⟨rfl, rfl⟩
  go_wp2_with fail
  refine (matchable_any _ _ (by unfold maxLen; omega)).mono ?_
  rintro e w3 ⟨rfl, m, rfl⟩
  rw [B_list] at htz ⊢
  have HM : Hid _ := blkGo_domBlk fs s.data.toList
  have hmz : ((matchable (trimDot (lower s.data.toList))).getD []).length ≤ 1048576 := by
    cases hm : matchable (trimDot (lower s.data.toList)) with
    | none => simp
    | some r => have := matchable_le _ _ r (Nat.lt_succ_self _) hm; simp; omega
  clear htz hsz
  generalize (matchable (trimDot (lower s.data.toList))).getD [] = r0 at *
  generalize (matchable (trimDot (lower s.data.toList))).isSome = ok0 at *
  go_wp2
  go_loopw [1, 5] (fun x ok wr => (∃ r okb, x = .string (B r) ∧ ok = .bool okb ∧ r.length ≤ 1048576 ∧ Hid (blkGo (hasAny fs) okb r = domBlk fs s.data.toList)) ∧ Ext w wr) (fun x ok _ => okN x ok)
  case atStart => exact ⟨⟨r0, ok0, rfl, rfl, hmz, HM⟩, Ext.trans hb (Ext.drewN _ _)⟩
  case round =>
    obtain ⟨⟨r, okb, rfl, rfl, hr, HG⟩, he⟩ := hrel
    cases okb
    · have HN : Hid (domBlk fs s.data.toList = false) := by show domBlk fs s.data.toList = false; rw [← HG.out]; rfl
      go_wp2
      go_ret
      exact ⟨ret_bool HN.out.symm, he⟩
    · have hf1 := he.cell HF.out
      have HV1 : Hid (DomsV wr v fs ns) := DomsV.ext HV.out he
      have hrm : (B r).size ≤ maxLen := by rw [B_size]; unfold maxLen; omega
      cases hh : hasAny fs r
      · have HH : Hid (hasAny fs (B r).data.toList = false) := hh
        have HS : Hid _ := blkGo_step (hasAny fs) r hh
        clear hh
        have hla := afterDot_len r
        have hlb := afterDot_le r
        go_wp2_with (first
          | (go_at_call 32; refine (Has_any v fs ns _ _ HV1.out hrm hfs).mono ?_; rintro e w' ⟨rfl, rfl⟩; rw [HH.out])
          | (go_at_call 33; refine (Cut_dot _ _ hrm).mono ?_; rintro e w' ⟨⟨x, rfl⟩, m2, rfl⟩; rw [B_list]))
        go_roundw
        case rel => exact ⟨⟨_, _, rfl, rfl, by omega, HS.out.trans HG.out⟩, Ext.trans he (Ext.drewN _ _)⟩
        case measure => exact okN_lt r hla
      · have HH : Hid (hasAny fs (B r).data.toList = true) := hh
        have HN : Hid (domBlk fs s.data.toList = true) := by show domBlk fs s.data.toList = true; rw [← HG.out]; exact blkGo_hit _ _ hh
        clear hh
        go_wp2_with (first
          | (go_at_call 32; refine (Has_any v fs ns _ _ HV1.out hrm hfs).mono ?_; rintro e w' ⟨rfl, rfl⟩; rw [HH.out]))
        go_ret
        exact ⟨ret_bool HN.out.symm, he⟩
end Go.Proofs.Qxb6616329a
