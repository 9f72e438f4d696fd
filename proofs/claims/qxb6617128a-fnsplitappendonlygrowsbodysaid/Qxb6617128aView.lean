import Derived.Test.Qxb6617128aChecked
import Derived.Test.Qxb6617128aPlain
import Derived.WalkKit
import Derived.Outline
import Derived.WalkLawsBesides
import Derived.WalkSpells
import Derived.Lib.SliceRun
import Derived.Lib.Strings
import Derived.Deep.QuietTactic
import Derived.BigQuiet
import Derived.Deep.DeepFit
import Derived.Deep.DeepCutAuto
import Derived.Deep.RegionHeld3
import Derived.OwnWalk
set_option linter.unusedSimpArgs false
set_option linter.unusedVariables false
namespace Go.Proofs.Qxb6617128a
open Go.RowKit

theorem ret_bool {a b : Bool} (h : a = b) : Ending.returned (.bool a) = .returned (.bool b) := by rw [h]
theorem ret_int {k : IntKind} {a b : Int} (h : a = b) : Ending.returned (.int k a) = .returned (.int k b) := by rw [h]

/-- w' is w with more blocks -/
def Ext (w w' : World) : Prop := Below w.heap.size w w'
theorem Ext.refl (w : World) : Ext w w := Below.refl _ _
theorem Ext.trans {a b c : World} (h : Ext a b) (k : Ext b c) : Ext a c := Below.trans h (Below.mono k h.size)
theorem Ext.drewN (w : World) (n : Nat) : Ext w (w.drewN n) := ⟨rfl, rfl, rfl, Nat.le_refl _, fun _ _ => rfl⟩
theorem Ext.alloc (w : World) (o : Obj) : Ext w (w.alloc o) := (Below.refl _ _).alloc (Nat.le_refl _) o
theorem cell_lt {w : World} {b o : Nat} {v : Value} (h : w.cell? ⟨b, o, none⟩ = some v) : b < w.heap.size := by
  apply Classical.byContradiction
  intro hb
  have : w.heap[b]? = none := by simp; omega
  simp [World.cell?, this] at h
theorem Ext.cell {w w' : World} (h : Ext w w') {b o : Nat} {v : Value} (hc : w.cell? ⟨b, o, none⟩ = some v) : w'.cell? ⟨b, o, none⟩ = some v :=
  (Below.cell h (p := ⟨b, o, none⟩) (cell_lt hc)).trans hc

/-- a byte as a cell -/
def cb (l : Bs) (i : Nat) : Value := .int .u8 ((l.getD i 0).toNat : Int)

/-- a []byte: its bytes, and whether it is nil -/
def SlV (w : World) (v : Value) (l : Bs) (nil : Bool) : Prop :=
  ∃ a cap, v = .slice a l.length cap ∧ l.length ≤ cap ∧ a.isNone = nil ∧ (0 < l.length → ∃ b off, a = some ⟨b, off, none⟩ ∧ ∀ i, i < l.length → w.cell? ⟨b, off + i, none⟩ = some (.int .u8 ((l.getD i 0).toNat : Int)))
theorem SlV.ext {w w' : World} {v : Value} {l : Bs} {nil : Bool} (h : SlV w v l nil) (e : Ext w w') : SlV w' v l nil := by
  obtain ⟨a, cap, hv, hc, hn, h⟩ := h
  refine ⟨a, cap, hv, hc, hn, fun h0 => ?_⟩
  obtain ⟨b, off, ha, hx⟩ := h h0
  exact ⟨b, off, ha, fun i hi => e.cell (hx i hi)⟩
theorem slV_nil (w : World) : SlV w (.slice none 0 0) [] true := ⟨none, 0, rfl, Nat.le_refl _, rfl, fun h => by simp at h⟩

theorem getD_lt (l : Bs) (i : Nat) (h : i < l.length) : l[i]? = some (l.getD i 0) := by simp [List.getD, h]

/-! ### zzEqBytes -/
theorem eq_of_all (a b : Bs) (hl : a.length = b.length) (k : Nat) (hk : ¬ k < a.length) (h : ∀ j, j < k → a.getD j 0 = b.getD j 0) : a = b := by
  apply List.ext_getElem hl
  intro i h1 h2
  have := h i (by omega)
  simpa [List.getD, h1, h2] using this

set_option maxHeartbeats 1000000 in
theorem zzEqBytes_any (v1 v2 : Value) (a b : Bs) (n1 n2 : Bool) (w : World) (h1 : SlV w v1 a n1) (h2 : SlV w v2 b n2) (hl : a.length ≤ 2097152) (hl2 : b.length ≤ 2097152) :
    Calls Try.prog 18 #[v1, v2] w fun e w' => e = .returned (.bool (a == b)) ∧ ∃ m, w' = w.drewN m := by
  obtain ⟨a1, c1, rfl, _, _, hx1⟩ := h1
  obtain ⟨a2, c2, rfl, _, _, hx2⟩ := h2
  have H1 : Hid _ := hx1
  have H2 : Hid _ := hx2
  clear hx1 hx2
  by_cases hlen : a.length = b.length
  · have hlb : ((a.length : Int) != (b.length : Int)) = false := by rw [hlen]; simp
    have HLE : Hid (a.length = b.length) := hlen
    clear hlen
    go_enter Try.func18, Try.ntmps18
    go_wp2
    go_loopw [5] (fun i wr => (∃ k : Nat, i = .int .i64 k ∧ k ≤ a.length ∧ Hid (∀ j, j < k → a.getD j 0 = b.getD j 0)) ∧ ∃ m, wr = w.drewN m) (fun i _ => a.length - (intOf i).toNat)
    case atStart => exact ⟨⟨0, rfl, Nat.zero_le _, (fun j hj => absurd hj (by omega) : ∀ j, j < 0 → a.getD j 0 = b.getD j 0)⟩, 0, rfl⟩
    case round =>
      obtain ⟨⟨k, rfl, hk, HE⟩, m, rfl⟩ := hrel
      by_cases hlt : k < a.length
      · obtain ⟨b1, o1, rfl, hc1⟩ := H1.out (by omega)
        obtain ⟨b2, o2, rfl, hc2⟩ := H2.out (by have := HLE.out; omega)
        have c1 := hc1 k hlt
        have c2 := hc2 k (by have := HLE.out; omega)
        clear hc1 hc2
        have hkI : (k : Int) < (a.length : Int) := by omega
        have hkJ : (k : Int) < (b.length : Int) := by have := HLE.out; omega
        by_cases hx : a.getD k 0 = b.getD k 0
        · have hne : (((a.getD k 0).toNat : Int) != ((b.getD k 0).toNat : Int)) = false := by rw [hx]; simp
          have HN : Hid (∀ j, j < k + 1 → a.getD j 0 = b.getD j 0) := by
            show ∀ j, j < k + 1 → a.getD j 0 = b.getD j 0
            intro j hj
            by_cases e : j = k
            · subst e; exact hx
            · exact HE.out j (by omega)
          clear hx
          generalize a.getD k 0 = x at c1 hne
          generalize b.getD k 0 = y at c2 hne
          go_wp2
          go_quiet (fail)
          go_wp2
          go_roundw
          case rel => exact ⟨⟨k + 1, by go_num, by omega, HN⟩, _, rfl⟩
          case measure => simp [intOf]; omega
        · have hne : (((a.getD k 0).toNat : Int) != ((b.getD k 0).toNat : Int)) = true := by
            rw [bne_iff_ne]; intro e; exact hx (UInt8.toNat_inj.1 (by omega))
          have HN : Hid ((a == b) = false) := by
            show (a == b) = false
            rw [beq_eq_false_iff_ne]; intro e; exact hx (by rw [e])
          clear hx
          generalize a.getD k 0 = x at c1 hne
          generalize b.getD k 0 = y at c2 hne
          go_wp2
          go_quiet (fail)
          go_wp2
          go_ret
          exact ⟨ret_bool HN.out.symm, _, World.drewN_drewN _ _ _⟩
      · have HN : Hid ((a == b) = true) := by show (a == b) = true; rw [beq_iff_eq]; exact eq_of_all a b HLE.out k hlt HE.out
        go_wp2
        go_ret
        exact ⟨ret_bool HN.out.symm, _, rfl⟩
  · have hlb : ((a.length : Int) != (b.length : Int)) = true := by rw [bne_iff_ne]; omega
    have HN : Hid ((a == b) = false) := by
      show (a == b) = false
      rw [beq_eq_false_iff_ne]; intro e; exact hlen (by rw [e])
    clear hlen
    go_enter Try.func18, Try.ntmps18
    go_wp2
    go_ret
    exact ⟨ret_bool HN.out.symm, 0, rfl⟩

/-! ### zzFirstEmptyLine -/
theorem u8_eq {b c : UInt8} (h : (b.toNat : Int) = (c.toNat : Int)) : b = c := UInt8.toNat_inj.1 (by omega)
theorem crlf_of (l : Bs) (i : Nat) (h : i + 1 < l.length) (h1 : (((l.getD i 0).toNat : Int) == 13) = true) (h2 : (((l.getD (i + 1) 0).toNat : Int) == 10) = true) : crlf l i := by
  rw [beq_iff_eq] at h1 h2
  refine ⟨?_, ?_⟩
  · rw [getD_lt l i (by omega), show l.getD i 0 = 13 from u8_eq h1]
  · rw [getD_lt l (i + 1) h, show l.getD (i + 1) 0 = 10 from u8_eq h2]
theorem crlf_not1 (l : Bs) (i : Nat) (h1 : (((l.getD i 0).toNat : Int) == 13) = false) : ¬ crlf l i := by
  rw [beq_eq_false_iff_ne] at h1
  intro h
  have hl := crlf_lt h
  have := h.1
  rw [getD_lt l i (by omega)] at this
  injection this with this
  rw [this] at h1
  exact h1 (by decide)
theorem crlf_not2 (l : Bs) (i : Nat) (h1 : (((l.getD (i + 1) 0).toNat : Int) == 10) = false) : ¬ crlf l i := by
  rw [beq_eq_false_iff_ne] at h1
  intro h
  have hl := crlf_lt h
  have := h.2
  rw [getD_lt l (i + 1) hl] at this
  injection this with this
  rw [this] at h1
  exact h1 (by decide)

theorem felI_eq {l : Bs} {o o' : Option Nat} (h : IsFel l o) (h' : IsFel l o') : felI o' = felI o := by rw [isFel_unique h h']

theorem upto_crlf {l : Bs} {k j : Nat} (h : ∀ q, k ≤ q → q < j → ¬ crlf l q) (hj : ¬ crlf l j) : ∀ q, k ≤ q → q < j + 1 → ¬ crlf l q := by
  intro q h1 h2
  by_cases e : q = j
  · subst e; exact hj
  · exact h q h1 (by omega)

theorem upto_start {l : Bs} {k : Nat} (h : ¬ crlf l k) : Hid (∀ q, k ≤ q → q < k + 1 → ¬ crlf l q) := by
  intro q h1 h2
  have e : q = k := by omega
  subst e
  exact h

set_option maxHeartbeats 2000000 in
theorem zzFirstEmptyLine_any (v : Value) (l : Bs) (nl : Bool) (o : Option Nat) (w : World) (h : SlV w v l nl) (hl : l.length ≤ 2097152) (ho : IsFel l o) :
    Calls Try.prog 17 #[v] w fun e w' => e = .returned (.int .i64 (felI o)) ∧ w' = w := by
  obtain ⟨a, c, rfl, _, _, hx⟩ := h
  have H : Hid _ := hx
  have HO : Hid (IsFel l o) := ho
  clear hx ho
  go_enter Try.func17, Try.ntmps17
  go_wp2
  go_loop [3, 4] (fun p _ => ∃ k : Nat, p = .int .i64 k ∧ k ≤ l.length + 1 ∧ At l k) (fun p _ => l.length + 1 - (intOf p).toNat)
  case atStart => exact ⟨0, rfl, by omega, at_zero l⟩
  case round =>
    obtain ⟨k, rfl, hk, hat⟩ := hrel
    have HAT : Hid (At l k) := hat
    clear hat
    by_cases hlt : (k : Int) + 1 < (l.length : Int)
    · obtain ⟨b, off, rfl, hc⟩ := H.out (by omega)
      have c0 := hc k (by omega)
      have c1 := hc (k + 1) (by omega)
      have HC : Hid _ := hc
      clear hc
      obtain ⟨cv, hcv⟩ : ∃ cv : Bool, cv = true ↔ crlf l k := by
        by_cases hc : crlf l k
        · exact ⟨true, by simp [hc]⟩
        · exact ⟨false, by simp [hc]⟩
      have HCV : Hid (cv = true ↔ crlf l k) := hcv
      clear hcv
      go_upto_region 3 with fail
      go_cut [22] (fun t wx => t = .bool cv ∧ wx = w)
      case first =>
        cases h13 : (((l.getD k 0).toNat : Int) == 13)
        · have HN0 : Hid (false = cv) := by
            show false = cv
            cases cv
            · rfl
            · exact absurd (HCV.out.1 rfl) (crlf_not1 l k h13)
          generalize l.getD k 0 = x at c0 h13
          go_wp2
          go_meet
          case rel => exact ⟨congrArg Value.bool HN0.out, rfl⟩
        · cases h10 : (((l.getD (k + 1) 0).toNat : Int) == 10)
          · have HN0 : Hid (false = cv) := by
              show false = cv
              cases cv
              · rfl
              · exact absurd (HCV.out.1 rfl) (crlf_not2 l k h10)
            generalize l.getD k 0 = x at c0 h13
            generalize l.getD (k + 1) 0 = y at c1 h10
            go_wp2
            go_meet
            case rel => exact ⟨congrArg Value.bool HN0.out, rfl⟩
          · have HN0 : Hid (true = cv) := (HCV.out.2 (crlf_of l k (by omega) h13 h10)).symm
            generalize l.getD k 0 = x at c0 h13
            generalize l.getD (k + 1) 0 = y at c1 h10
            go_wp2
            go_meet
            case rel => exact ⟨congrArg Value.bool HN0.out, rfl⟩
      case rest =>
        obtain ⟨rfl, rfl⟩ := hcut
        clear c0 c1
        cases cv
        · have HN0 : Hid (¬ crlf l k) := fun hc => by have := HCV.out.2 hc; cases this
          go_wp2
          go_loop [4] (fun jv => ∃ j : Nat, jv = .int .i64 j ∧ k < j ∧ j ≤ l.length ∧ Hid (∀ q, k ≤ q → q < j → ¬ crlf l q)) (fun jv => l.length - (intOf jv).toNat)
          case atStart => exact ⟨k + 1, by go_num, by omega, by omega, upto_start HN0.out⟩
          case round =>
            obtain ⟨j, rfl, hkj, hjl, HJ⟩ := hrel
            by_cases hlj : (j : Int) + 1 < (l.length : Int)
            · have d0 := HC.out j (by omega)
              have d1 := HC.out (j + 1) (by omega)
              cases h13 : (((l.getD j 0).toNat : Int) == 13)
              · have HN1 : Hid (∀ q, k ≤ q → q < j + 1 → ¬ crlf l q) := upto_crlf HJ.out (crlf_not1 l j h13)
                generalize l.getD j 0 = x at d0 h13
                go_wp2
                go_round
                case rel => exact ⟨j + 1, by go_num, by omega, by omega, HN1⟩
                case measure => simp [intOf]; omega
              · cases h10 : (((l.getD (j + 1) 0).toNat : Int) == 10)
                · have HN1 : Hid (∀ q, k ≤ q → q < j + 1 → ¬ crlf l q) := upto_crlf HJ.out (crlf_not2 l j h10)
                  generalize l.getD j 0 = x at d0 h13
                  generalize l.getD (j + 1) 0 = y at d1 h10
                  go_wp2
                  go_round
                  case rel => exact ⟨j + 1, by go_num, by omega, by omega, HN1⟩
                  case measure => simp [intOf]; omega
                · have HN1 : Hid (At l (j + 2)) := at_next HAT.out hkj HJ.out (crlf_of l j (by omega) h13 h10)
                  generalize l.getD j 0 = x at d0 h13
                  generalize l.getD (j + 1) 0 = y at d1 h10
                  go_wp2
                  go_round
                  case rel => exact ⟨j + 2, by go_num, by omega, HN1.out⟩
                  case measure => simp [intOf]; omega
            · have HN : Hid (felI o = -1) := (felI_eq HO.out (at_none HAT.out HJ.out (by omega))).symm
              go_wp2
              go_ret
              exact ⟨ret_int HN.out.symm, rfl⟩
        · have HN : Hid (felI o = (k : Int)) := (felI_eq HO.out (at_hit HAT.out (HCV.out.1 rfl))).symm
          go_wp2
          go_ret
          exact ⟨ret_int HN.out.symm, rfl⟩
    · have HN : Hid (felI o = -1) := (felI_eq HO.out (at_end HAT.out (by omega))).symm
      go_wp2
      go_ret
      exact ⟨ret_int HN.out.symm, rfl⟩
end Go.Proofs.Qxb6617128a
