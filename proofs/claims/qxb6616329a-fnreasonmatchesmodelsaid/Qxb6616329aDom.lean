import Derived.Test.Qxb6616329aView
import Derived.Test.Qxb6616329aLow
import Derived.Deep.DeepCutAuto
set_option linter.unusedSimpArgs false
set_option linter.unusedVariables false
namespace Go.Proofs.Qxb6616329a
open Go.RowKit

theorem anyTo_step (fs : List (Bs → Bool)) (k : Nat) (l : Bs) (hk : k < fs.length) : hasAny (fs.take (k + 1)) l = (hasAny (fs.take k) l || fs.getD k (fun _ => false) l) := by
  unfold hasAny
  rw [List.take_succ_eq_append_getElem hk, List.any_append]
  simp [List.getD, hk]

theorem any_hit (fs : List (Bs → Bool)) (k : Nat) (l : Bs) (hk : k < fs.length) (h : fs.getD k (fun _ => false) l = true) : hasAny fs l = true := by
  unfold hasAny
  rw [List.any_eq_true]
  refine ⟨fs[k], List.getElem_mem _, ?_⟩
  simpa [List.getD, hk] using h

set_option maxHeartbeats 1000000 in
theorem setsHave_any (v : Value) (fs : List (Bs → Bool)) (ns : List Nat) (s : ByteArray) (w : World) (hv : DomsV w v fs ns) (hl : s.size ≤ maxLen) (hfs : fs.length ≤ 4096) :
    Calls Try.prog 25 #[v, .string s] w fun e w' => e = .returned (.bool (hasAny fs s.data.toList)) ∧ w' = w := by
  obtain ⟨_, a, cap, rfl, hcells⟩ := hv
  have HC : Hid _ := hcells
  clear hcells
  go_enter Try.func25, Try.ntmps25
  go_wp2
  go_loop [5] (fun i => ∃ k : Nat, i = .int .i64 k ∧ k ≤ fs.length ∧ Hid (hasAny (fs.take k) s.data.toList = false)) (fun i => fs.length - (intOf i).toNat)
  case atStart => exact ⟨0, rfl, Nat.zero_le _, (rfl : hasAny (fs.take 0) s.data.toList = false)⟩
  case round =>
    obtain ⟨k, rfl, hk, hno⟩ := hrel
    by_cases hlt : k < fs.length
    · obtain ⟨b, off, rfl, hc⟩ := HC.out (by omega)
      obtain ⟨m, hm, ⟨r, rfl⟩, hd⟩ := hc k hlt
      have hlook := hd.look w (Ext.refl w) s hl
      have HE : Hid _ := (anyTo_step fs k s.data.toList hlt)
      clear hc hd
      cases ht : fs.getD k (fun _ => false) s.data.toList
      · rw [ht] at hlook
        have HN : Hid (hasAny (fs.take (k + 1)) s.data.toList = false) := by show hasAny (fs.take (k + 1)) s.data.toList = false; rw [HE.out, ht, hno.out]; rfl
        clear ht
        go_wp2
        go_round
        case rel => exact ⟨k + 1, by go_num, by omega, HN⟩
        case measure => simp [intOf]; omega
      · rw [ht] at hlook
        have HN : Hid (hasAny fs s.data.toList = true) := any_hit fs k _ hlt ht
        clear ht
        go_wp2
        go_ret
        exact ⟨ret_bool HN.out.symm, rfl⟩
    · have HN : Hid (hasAny fs s.data.toList = false) := by show hasAny fs s.data.toList = false; rw [← hno.out, List.take_of_length_le (by omega)]
      go_wp2
      go_ret
      exact ⟨ret_bool HN.out.symm, rfl⟩

set_option maxHeartbeats 1000000 in
theorem Has_any (v : Value) (fs : List (Bs → Bool)) (ns : List Nat) (s : ByteArray) (w : World) (hv : DomsV w v fs ns) (hl : s.size ≤ maxLen) (hfs : fs.length ≤ 4096) :
    Calls Try.prog 32 #[v, .string s] w fun e w' => e = .returned (.bool (hasAny fs s.data.toList)) ∧ w' = w := by
  obtain ⟨_, a, cap, rfl, hcells⟩ := hv
  have HC : Hid _ := hcells
  clear hcells
  go_enter Try.func32, Try.ntmps32
  go_wp2
  go_loop [9, 6] (fun i _ => ∃ k : Nat, i = .int .i64 k ∧ k ≤ fs.length ∧ Hid (hasAny (fs.take k) s.data.toList = false)) (fun i _ => fs.length - (intOf i).toNat)
  case atStart => exact ⟨0, rfl, Nat.zero_le _, (rfl : hasAny (fs.take 0) s.data.toList = false)⟩
  case round =>
    obtain ⟨k, rfl, hk, hno⟩ := hrel
    by_cases hlt : k < fs.length
    · obtain ⟨b, off, rfl, hc⟩ := HC.out (by omega)
      obtain ⟨m, hm, ⟨r, rfl⟩, hd⟩ := hc k hlt
      have hlook := hd.look w (Ext.refl w) s hl
      have HE : Hid _ := (anyTo_step fs k s.data.toList hlt)
      clear hc hd
      cases ht : fs.getD k (fun _ => false) s.data.toList
      · rw [ht] at hlook
        have HN : Hid (hasAny (fs.take (k + 1)) s.data.toList = false) := by show hasAny (fs.take (k + 1)) s.data.toList = false; rw [HE.out, ht, hno.out]; rfl
        clear ht
        go_wp2
        go_round
        case rel => exact ⟨k + 1, by go_num, by omega, HN⟩
        case measure => simp [intOf]; omega
      · rw [ht] at hlook
        have HN : Hid (hasAny fs s.data.toList = true) := any_hit fs k _ hlt ht
        clear ht
        go_wp2
        go_ret
        exact ⟨ret_bool HN.out.symm, rfl⟩
    · have HN : Hid (hasAny fs s.data.toList = false) := by show hasAny fs s.data.toList = false; rw [← hno.out, List.take_of_length_le (by omega)]
      go_wp2
      go_ret
      exact ⟨ret_bool HN.out.symm, rfl⟩


def emptyTo (ns : List Nat) (k : Nat) : Prop := ∀ i, i < k → ns.getD i 0 = 0

/-- an answer b that, where true, says that nothing is held -/
def EmptyPost (fs : List (Bs → Bool)) (e : Ending) : Prop := ∃ b, e = .returned (.bool b) ∧ (b = true → ∀ f ∈ fs, ∀ l, f l = false)

set_option maxHeartbeats 1000000 in
theorem Empty_any (v : Value) (fs : List (Bs → Bool)) (ns : List Nat) (w : World) (hv : DomsV w v fs ns) (hfs : fs.length ≤ 4096) :
    Calls Try.prog 16 #[v] w fun e w' => EmptyPost fs e ∧ w' = w := by
  obtain ⟨_, a, cap, rfl, hcells⟩ := hv
  have HC : Hid _ := hcells
  clear hcells
  go_enter Try.func16, Try.ntmps16
  go_wp2
  go_loop [7, 4] (fun i _ => ∃ k : Nat, i = .int .i64 k ∧ k ≤ fs.length ∧ Hid (∀ j, j < k → ∀ l, fs.getD j (fun _ => false) l = false)) (fun i _ => fs.length - (intOf i).toNat)
  case atStart => exact ⟨0, rfl, Nat.zero_le _, (fun j hj => absurd hj (by omega) : ∀ j, j < 0 → _)⟩
  case round =>
    obtain ⟨k, rfl, hk, hno⟩ := hrel
    by_cases hlt : k < fs.length
    · obtain ⟨b, off, rfl, hc⟩ := HC.out (by omega)
      obtain ⟨m, hm, ⟨r, rfl⟩, hd⟩ := hc k hlt
      have hlen := hd.len w (Ext.refl w)
      have HZ : Hid _ := hd.none
      clear hc hd
      by_cases hz : ns.getD k 0 = 0
      · have HN : Hid (∀ j, j < k + 1 → ∀ l, fs.getD j (fun _ => false) l = false) := by
          show ∀ j, j < k + 1 → ∀ l, fs.getD j (fun _ => false) l = false
          intro j hj l
          by_cases e : j = k
          · subst e; exact HZ.out hz l
          · exact hno.out j (by omega) l
        rw [hz] at hlen
        clear hz
        go_wp2
        go_round
        case rel => exact ⟨k + 1, by go_num, by omega, HN⟩
        case measure => simp [intOf]; omega
      · have hp : (0 : Int) < ((ns.getD k 0 : Nat) : Int) := by omega
        generalize ns.getD k 0 = n at *
        go_wp2
        go_ret
        exact ⟨⟨false, rfl, fun h => by cases h⟩, rfl⟩
    · have HN : Hid (∀ f ∈ fs, ∀ l, f l = false) := by
        show ∀ f ∈ fs, ∀ l, f l = false
        intro f hf l
        obtain ⟨j, hj, rfl⟩ := List.mem_iff_getElem.1 hf
        have := hno.out j (by omega) l
        simpa [List.getD, hj] using this
      go_wp2
      go_ret
      exact ⟨⟨true, rfl, fun _ => HN.out⟩, rfl⟩

theorem last_split (r : ByteArray) (h : 0 < r.size) : r.data.toList = r.data.toList.take (r.size - 1) ++ [r[r.size - 1]] := by
  have e := List.take_succ_eq_append_getElem (l := r.data.toList) (i := r.size - 1) (by simp; omega)
  rw [show r.size - 1 + 1 = r.size from by omega] at e
  rw [List.take_of_length_le (by simp)] at e
  exact e
theorem trimDot_yes (r : ByteArray) (h : 0 < r.size) (hd : r[r.size - 1] = 46) : (r.extract 0 (r.size - 1)).data.toList = trimDot r.data.toList := by
  have e := last_split r h
  unfold trimDot
  rw [Lib.extract_data]
  have : r.data.toList.getLast? = some 46 := by rw [e, List.getLast?_append]; simp [hd]
  rw [if_pos this, List.dropLast_eq_take]
  simp
theorem trimDot_no (r : ByteArray) (h : 0 < r.size) (hd : r[r.size - 1] ≠ 46) : r.data.toList = trimDot r.data.toList := by
  have e := last_split r h
  unfold trimDot
  have : ¬ r.data.toList.getLast? = some 46 := by rw [e, List.getLast?_append]; simp [hd]
  rw [if_neg this]
theorem trimDot_empty (r : ByteArray) (h : ¬ 0 < r.size) : r.data.toList = trimDot r.data.toList := by
  have : r.data.toList = [] := List.eq_nil_of_length_eq_zero (by rw [show r.data.toList.length = r.size from by simp]; omega)
  rw [this]; rfl

/-! ### domainHit -/
theorem sufHit_yes (p : Bs → Bool) : ∀ (l : Bs) (j : Nat) (h : j < l.length), l[j] = 46 → p (l.drop (j + 1)) = true → sufHit p l = true
  | [], _, h, _, _ => by simp at h
  | c :: l, 0, _, h1, h2 => by
    simp at h1
    rw [sufHit_cons, h1]
    simp at h2
    simp [h2]
  | c :: l, j + 1, h, h1, h2 => by
    rw [sufHit_cons]
    rw [sufHit_yes p l j (by simpa using h) (by simpa using h1) (by simpa using h2)]
    simp

theorem sufHit_no (p : Bs → Bool) : ∀ (l : Bs), (∀ j (h : j < l.length), l[j] = 46 → p (l.drop (j + 1)) = false) → sufHit p l = false
  | [], _ => rfl
  | c :: l, h => by
    rw [sufHit_cons]
    rw [sufHit_no p l (fun j hj h1 => by have := h (j + 1) (by simpa using hj) (by simpa using h1); simpa using this)]
    by_cases e : c = 46
    · have := h 0 (by simp) (by simpa using e)
      simp at this
      simp [this]
    · have : (c == 46) = false := by simpa using e
      rw [this]; rfl

/-- no hit behind a dot before k -/
def noHit (p : Bs → Bool) (t : ByteArray) (k : Nat) : Prop := ∀ j (hj : j < t.size), j < k → t[j] = 46 → p (t.data.toList.drop (j + 1)) = false

theorem noHit_step (p : Bs → Bool) (t : ByteArray) (k : Nat) (hk : k < t.size) (h : noHit p t k) (hx : t[k] = 46 → p (t.data.toList.drop (k + 1)) = false) : noHit p t (k + 1) := by
  intro j hj hjk
  by_cases e : j = k
  · subst e; exact hx
  · exact h j hj (by omega)
theorem noHit_all (p : Bs → Bool) (t : ByteArray) (k : Nat) (hk : ¬ k < t.size) (h : noHit p t k) : sufHit p t.data.toList = false := by
  apply sufHit_no
  intro j hj h1
  have hj' : j < t.size := by simpa using hj
  exact h j hj' (by omega) h1
theorem hit_at (p : Bs → Bool) (t : ByteArray) (k : Nat) (hk : k < t.size) (h : t[k] = 46) (hp : p (t.data.toList.drop (k + 1)) = true) : sufHit p t.data.toList = true :=
  sufHit_yes p t.data.toList k (by simpa using hk) h hp

theorem byte_eq (b : UInt8) (h : ((b.toNat : Int) == 46) = true) : b = 46 := by
  rw [beq_iff_eq] at h
  exact UInt8.toNat_inj.1 (by simp; omega)
theorem byte_ne (b : UInt8) (h : ((b.toNat : Int) == 46) = false) : b ≠ 46 := by
  rw [beq_eq_false_iff_ne] at h
  intro e
  subst e
  exact h (by decide)

theorem lower_size (d : Bs) : (B (lower d)).size = d.length := by rw [B_size]; simp [lower]

theorem domHit_of (fs : List (Bs → Bool)) (d t : Bs) (ht : t = trimDot (lower d)) : domHit fs d = (short (hasAny fs) t || sufHit (short (hasAny fs)) t) := by
  subst ht; rfl

theorem size_tail (t : ByteArray) (k : Nat) (hk : k < t.size) : (t.data.toList.drop (k + 1)).length = t.size - k - 1 := by
  simp; omega

/-- the test: does t end in a dot? -/
def CutOk (t : ByteArray) (cb : Bool) : Prop := (cb = true → ∃ h : 0 < t.size, t[t.size - 1] = 46) ∧ (cb = false → t.data.toList = trimDot t.data.toList)
theorem cutOk_mk (t : ByteArray) (h : 0 < t.size) : CutOk t ((t[t.size - 1].toNat : Int) == 46) := by
  constructor
  · intro e; exact ⟨h, byte_eq _ e⟩
  · intro e; exact trimDot_no t h (byte_ne _ e)
theorem cutOk_zero (t : ByteArray) (h : ¬ 0 < t.size) : CutOk t false :=
  ⟨fun e => (by cases e), fun _ => trimDot_empty t h⟩

theorem short_yes (p : Bs → Bool) (t : ByteArray) (h : (t.size : Int) ≤ 253) : short p t.data.toList = p t.data.toList := by
  unfold short
  rw [decide_eq_true (by rw [show t.data.toList.length = t.size from by simp]; omega)]
  rfl
theorem short_no (p : Bs → Bool) (t : ByteArray) (h : ¬ (t.size : Int) ≤ 253) : short p t.data.toList = false := by
  unfold short
  rw [decide_eq_false (by rw [show t.data.toList.length = t.size from by simp]; omega)]
  rfl

theorem ext_tail_list (t : ByteArray) (k : Nat) : (t.extract (k + 1) t.size).data.toList = t.data.toList.drop (k + 1) := Lib.extract_to_end t (k + 1)
theorem short_tail_yes (p : Bs → Bool) (t : ByteArray) (k : Nat) (hk : k < t.size) (h : (t.size : Int) - (k : Int) - 1 ≤ 253) : short p (t.data.toList.drop (k + 1)) = p (t.data.toList.drop (k + 1)) := by
  unfold short
  rw [decide_eq_true (by rw [size_tail t k hk]; omega)]
  rfl
theorem short_tail_no (p : Bs → Bool) (t : ByteArray) (k : Nat) (hk : k < t.size) (h : ¬ (t.size : Int) - (k : Int) - 1 ≤ 253) : short p (t.data.toList.drop (k + 1)) = false := by
  unfold short
  rw [decide_eq_false (by rw [size_tail t k hk]; omega)]
  rfl

set_option maxHeartbeats 2000000 in
theorem domainHit_any (v : Value) (fs : List (Bs → Bool)) (ns : List Nat) (s : ByteArray) (w : World) (hv : DomsV w v fs ns) (hd : s.size ≤ 1048576) (hfs : fs.length ≤ 4096) :
    Calls Try.prog 14 #[v, .string s] w fun e w' => e = .returned (.bool (domHit fs s.data.toList)) ∧ Ext w w' := by
  go_enter Try.func14, Try.ntmps14
  go_wp2_with fail
  refine (lowerASCII_any s _ hd).mono ?_
  rintro e w1 ⟨rfl, hb⟩
  have hsz : (B (lower s.data.toList)).size ≤ 1048576 := by rw [lower_size]; simpa using hd
  have HT : Hid ((B (lower s.data.toList)).data.toList = lower s.data.toList) := (rfl : _ = _)
  generalize B (lower s.data.toList) = t at *
  have hv1 := hv.ext hb
  clear hv
  have HV : Hid _ := hv1
  clear hv1
  go_upto_region 2 with fail
  go_cut [19] (fun c wx => (∃ cb, c = .bool cb ∧ CutOk t cb) ∧ wx = w1)
  case first =>
    by_cases h0 : 0 < t.size
    · have hix : ((t.size : Int) - 1).toNat = t.size - 1 := by omega
      go_wp2
      go_meet
      case rel => exact ⟨⟨_, rfl, cutOk_mk t h0⟩, rfl⟩
    · go_wp2
      go_meet
      case rel => exact ⟨⟨_, rfl, cutOk_zero t h0⟩, rfl⟩
  case rest =>
    obtain ⟨⟨cb, rfl, hcb⟩, rfl⟩ := hcut
    go_upto_if 19 with fail
    go_cut [5] (fun x wx => (∃ t' : ByteArray, x = .string t' ∧ t'.size ≤ 1048576 ∧ Hid (t'.data.toList = trimDot (lower s.data.toList))) ∧ wx = wc)
    case first =>
      cases cb
      · have HE : Hid (t.data.toList = trimDot (lower s.data.toList)) := by show t.data.toList = trimDot (lower s.data.toList); rw [← HT.out]; exact hcb.2 rfl
        go_wp2
        go_meet
        case rel => exact ⟨⟨t, rfl, hsz, HE⟩, rfl⟩
      · obtain ⟨h0, h46⟩ := hcb.1 rfl
        have HE : Hid ((t.extract 0 (t.size - 1)).data.toList = trimDot (lower s.data.toList)) := by
          show (t.extract 0 (t.size - 1)).data.toList = trimDot (lower s.data.toList)
          rw [← HT.out]; exact trimDot_yes t h0 h46
        clear hcb h46
        go_wp2
        go_meet
        case rel => exact ⟨⟨_, rfl, by simp; omega, HE⟩, rfl⟩
    case rest =>
      obtain ⟨⟨t', rfl, hsz', HT'⟩, rfl⟩ := hcut
      clear hcb hsz HT
      have HD : Hid _ := domHit_of fs s.data.toList t'.data.toList HT'.out
      have hml : t'.size ≤ maxLen := by unfold maxLen; omega
      go_upto_region 4 with fail
      go_cut [32] (fun c wx => c = .bool (short (hasAny fs) t'.data.toList) ∧ wx = wc)
      case first =>
        by_cases h2 : (t'.size : Int) ≤ 253
        · have HE : Hid (short (hasAny fs) t'.data.toList = hasAny fs t'.data.toList) := short_yes _ _ h2
          go_wp2_with (go_at_call 25; refine (setsHave_any v fs ns _ _ HV.out hml hfs).mono ?_; rintro e w' ⟨rfl, rfl⟩)
          go_meet
          case rel => exact ⟨by rw [HE.out], rfl⟩
        · have h2' : (253 : Int) < (t'.size : Int) := by omega
          have HE : Hid (short (hasAny fs) t'.data.toList = false) := short_no _ _ h2
          go_wp2
          go_meet
          case rel => exact ⟨by rw [HE.out], rfl⟩
      case rest =>
        obtain ⟨rfl, rfl⟩ := hcut
        cases hsh : short (hasAny fs) t'.data.toList
        · have HS : Hid _ := hsh
          clear hsh
          go_wp2
          go_loop [6] (fun i => ∃ k : Nat, i = .int .i64 k ∧ k ≤ t'.size ∧ noHit (short (hasAny fs)) t' k) (fun i => t'.size - (intOf i).toNat)
          case atStart => exact ⟨0, rfl, Nat.zero_le _, fun j hj h => absurd h (by omega)⟩
          case round =>
            obtain ⟨k, rfl, hk, hno⟩ := hrel
            by_cases hlt : k < t'.size
            · have HX : Hid _ := ext_tail_list t' k
              have htm : (t'.extract (k + 1) t'.size).size ≤ maxLen := by simp; omega
              cases h46 : ((t'[k].toNat : Int) == 46)
              · have hno' := noHit_step _ _ k hlt hno (fun e => absurd e (byte_ne _ h46))
                go_wp2
                go_round
                case rel => exact ⟨k + 1, by go_num, by omega, hno'⟩
                case measure => simp [intOf]; omega
              · by_cases h2 : (t'.size : Int) - (k : Int) - 1 ≤ 253
                · have HS2 : Hid (short (hasAny fs) (t'.data.toList.drop (k + 1)) = hasAny fs (t'.data.toList.drop (k + 1))) := short_tail_yes _ _ k hlt h2
                  cases hh : hasAny fs (t'.data.toList.drop (k + 1))
                  · have hno' := noHit_step (short (hasAny fs)) t' k hlt hno (fun e => by rw [HS2.out, hh])
                    have HH : Hid (hasAny fs (t'.extract (k + 1) t'.size).data.toList = false) := by show hasAny fs _ = false; rw [HX.out]; exact hh
                    clear hh
                    go_wp2_with (go_at_call 25; refine (setsHave_any v fs ns _ _ HV.out htm hfs).mono ?_; rintro e w' ⟨rfl, rfl⟩; rw [HH.out])
                    go_round
                    case rel => exact ⟨k + 1, by go_num, by omega, hno'⟩
                    case measure => simp [intOf]; omega
                  · have HN : Hid (domHit fs s.data.toList = true) := by
                      show domHit fs s.data.toList = true
                      rw [HD.out, hit_at (short (hasAny fs)) t' k hlt (byte_eq _ h46) (by rw [HS2.out, hh])]
                      simp
                    have HH : Hid (hasAny fs (t'.extract (k + 1) t'.size).data.toList = true) := by show hasAny fs _ = true; rw [HX.out]; exact hh
                    clear hh
                    go_wp2_with (go_at_call 25; refine (setsHave_any v fs ns _ _ HV.out htm hfs).mono ?_; rintro e w' ⟨rfl, rfl⟩; rw [HH.out])
                    go_ret
                    exact ⟨ret_bool HN.out.symm, hb⟩
                · have h2' : (253 : Int) < (t'.size : Int) - (k : Int) - 1 := by omega
                  have hno' := noHit_step (short (hasAny fs)) t' k hlt hno (fun e => short_tail_no _ _ k hlt h2)
                  go_wp2
                  go_round
                  case rel => exact ⟨k + 1, by go_num, by omega, hno'⟩
                  case measure => simp [intOf]; omega
            · have HN : Hid (domHit fs s.data.toList = false) := by
                show domHit fs s.data.toList = false
                rw [HD.out, HS.out, noHit_all _ _ k hlt hno]; rfl
              go_wp2
              go_ret
              exact ⟨ret_bool HN.out.symm, hb⟩
        · have HN : Hid (domHit fs s.data.toList = true) := by show domHit fs s.data.toList = true; rw [HD.out, hsh]; rfl
          clear hsh
          go_wp2
          go_ret
          exact ⟨ret_bool HN.out.symm, hb⟩
end Go.Proofs.Qxb6616329a
