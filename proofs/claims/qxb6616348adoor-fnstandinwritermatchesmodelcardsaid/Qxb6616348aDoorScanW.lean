import Derived.Test.Qxb6616348aDoorScan
import Derived.Deep.RegionWith
set_option linter.unusedSimpArgs false
set_option linter.unusedVariables false
namespace Go.Proofs.Qxb6616348aDoor
open Go.RowKit

theorem take8 (b : Bs) (k : Nat) (h : k + 8 ≤ b.length) : (b.drop k).take 8 = [b.getD k 0, b.getD (k + 1) 0, b.getD (k + 2) 0, b.getD (k + 3) 0, b.getD (k + 4) 0, b.getD (k + 5) 0, b.getD (k + 6) 0, b.getD (k + 7) 0] := by
  apply List.ext_getElem?
  intro i
  by_cases hi : i < 8
  · rw [List.getElem?_take, if_pos hi, List.getElem?_drop]
    have : i = 0 ∨ i = 1 ∨ i = 2 ∨ i = 3 ∨ i = 4 ∨ i = 5 ∨ i = 6 ∨ i = 7 := by omega
    rcases this with rfl | rfl | rfl | rfl | rfl | rfl | rfl | rfl <;> simp [List.getD, List.getElem?_eq_getElem, show k < b.length by omega, show k + 1 < b.length by omega, show k + 2 < b.length by omega, show k + 3 < b.length by omega, show k + 4 < b.length by omega, show k + 5 < b.length by omega, show k + 6 < b.length by omega, show k + 7 < b.length by omega]
  · rw [List.getElem?_take, if_neg hi, List.getElem?_eq_none (by simp; omega)]

/-- the state of the scan behind k bytes -/
structure Sc (w wx : World) (b : Bs) (k : Nat) (f l i : Value) : Prop where
  fst : f = .int .i64 (sfirst b k)
  lst : l = .int .i64 (lz (b.take k))
  idx : i = .int .i64 k
  le : k ≤ b.length
  dig : ∀ c ∈ b.take k, isDigit c = true
  bel : Below w.heap.size w wx

theorem isDigit_iff (c : UInt8) : isDigit c = true ↔ 48 ≤ c.toNat ∧ c.toNat ≤ 57 := by simp [isDigit]
theorem sfirst_bounds (b : Bs) (k : Nat) : -1 ≤ sfirst b k ∧ sfirst b k ≤ k := by
  have := fz_le (b.take k)
  unfold sfirst
  split
  · omega
  · simp at this; omega
theorem lz_take_bounds (b : Bs) (k : Nat) : -1 ≤ lz (b.take k) ∧ lz (b.take k) ≤ k := by
  have h1 := lz_ge (b.take k)
  have h2 := lz_lt (b.take k)
  simp at h2
  omega

/-- eight digits more -/
theorem scan8 (b : Bs) (k : Nat) (h : k + 8 ≤ b.length) (hd : ∀ c ∈ b.take k, isDigit c = true) (he : ∀ c ∈ (b.drop k).take 8, 48 ≤ c.toNat ∧ c.toNat ≤ 57) : ∀ c ∈ b.take (k + 8), isDigit c = true := by
  intro c hc
  rw [take_add] at hc
  rcases List.mem_append.1 hc with hc | hc
  · exact hd c hc
  · exact (isDigit_iff c).2 (he c hc)
theorem lz_add (b : Bs) (k n : Nat) (h : k ≤ b.length) : lz (b.take (k + n)) = if lz ((b.drop k).take n) = -1 then lz (b.take k) else k + lz ((b.drop k).take n) := by
  rw [take_add, lz_append]
  have : (b.take k).length = k := by simp; omega
  rw [this]

theorem leval_le63 (l : Bs) (h : ∀ c ∈ l, 48 ≤ c.toNat ∧ c.toNat ≤ 63) : leval l ≤ rep8 63 l.length := by
  induction l with
  | nil => simp [leval]
  | cons c l ih =>
    have h1 := h c (by simp)
    have h2 := ih (fun y hy => h y (by simp [hy]))
    simp only [leval, List.length_cons, rep8]
    omega
theorem Tab.below {w w' : World} (h : Tab w) (hb : Below w.heap.size w w') : Tab w' := by
  intro i v hv
  have h1 := h i v hv
  rw [hb.cell (p := ⟨2, i, none⟩) (World.block_lt_of_cell? w ⟨2, i, none⟩ h1), h1]
set_option maxHeartbeats 4000000 in
set_option maxRecDepth 100000 in
theorem scan_any (w : World) (p : Nat) (v : Value) (b : Bs) (hv : SlA w p v b) (hT : Tab w) (hl : b.length ≤ 1073741824) :
    Calls Tryd.prog 23 #[v] w fun e w' => e = .returned (.tuple #[.int .i64 (dn b), .int .i64 (fz (b.take (dn b))), .int .i64 (lz (b.take (dn b)))]) ∧ Below w.heap.size w w' := by
  obtain ⟨av, cv, rfl, hcv, hav⟩ := hv
  have HAV : Hid ((av = none ∧ cv = 0) ∨ ∃ b' off, av = some ⟨b', off, none⟩ ∧ b' ≠ p ∧ ∀ i, i < b.length → w.cell? ⟨b', off + i, none⟩ = some (.int .u8 ((b.getD i 0).toNat : Int))) := hav
  have HT : Hid (Tab w) := hT
  clear hav hT
  go_enter Tryd.func23, Tryd.ntmps23
  go_upto_block 0 with fail
  go_cut [3, 4, 5] (fun f l i wx => ∃ k : Nat, Sc w wx b k f l i)
  case first =>
    go_wp2_with fail
    go_loopw [3, 4, 5] (fun f l i wr => ∃ k : Nat, Sc w wr b k f l i) (fun _ _ i _ => b.length - (intOf i).toNat)
    case atStart => exact ⟨0, by simp [sfirst, fz], by simp [lz], rfl, Nat.zero_le _, by simp, Below.refl _ _⟩
    case round =>
      obtain ⟨k, hf, hll, hi, hkl, hdg, hbl⟩ := hrel
      subst hf hll hi
      have hfb := sfirst_bounds b k
      have hlb := lz_take_bounds b k
      have HSC : Hid (Sc w wr b k (.int .i64 (sfirst b k)) (.int .i64 (lz (b.take k))) (.int .i64 k)) := ⟨rfl, rfl, rfl, hkl, hdg, hbl⟩
      clear hdg hbl
      by_cases h8 : (k : Int) + 8 ≤ (b.length : Int)
      · obtain ⟨e8, he8⟩ : ∃ e8, (b.drop k).take 8 = e8 := ⟨_, rfl⟩
        have hlen8 : e8.length = 8 := by rw [← he8]; simp; omega
        obtain ⟨X, hX⟩ : ∃ X, leval e8 = X := ⟨_, rfl⟩
        have hXlt : X < 18446744073709551616 := by have := leval_lt e8; rw [hlen8, hX] at this; simpa using this
        obtain ⟨g, off, rfl, hcell⟩ : ∃ g off, av = some ⟨g, off, none⟩ ∧ ∀ i, i < b.length → w.cell? ⟨g, off + i, none⟩ = some (.int .u8 ((b.getD i 0).toNat : Int)) := by
          rcases HAV.out with ⟨_, h0⟩ | ⟨b', off, ha, _, hc⟩
          · omega
          · exact ⟨b', off, ha, hc⟩
        have HC : Hid (∀ j, j < 8 → wr.cell? ⟨g, off + k + j, none⟩ = some (.int .u8 ((b.getD (k + j) 0).toNat : Int))) := by
          show ∀ j, _
          intro j hj
          have h1 := hcell (k + j) (by omega)
          have h2 := World.block_lt_of_cell? w ⟨g, off + (k + j), none⟩ h1
          rw [Nat.add_assoc, HSC.out.bel.cell (p := ⟨g, off + (k + j), none⟩) h2, h1]
        have HE8 : Hid ((b.drop k).take 8 = e8 ∧ leval e8 = X ∧ e8.length = 8) := ⟨he8, hX, hlen8⟩
        have hcne : ¬ cv = k := by omega
        have hkc : (k : Int) ≤ (cv : Int) := by omega
        clear hcell he8 hX hlen8
        go_upto_region 5 with fail
        go_cut [6] from 8 to 45 (fun x wx => x = .int .u64 (X : Int) ∧ Below w.heap.size w wx)
        case first =>
          go_region_with (go_at_call 27; refine (Tryd.binary_LE_Uint64 g (off + k) (b.length - k) (cv - k) (b.getD k 0) (b.getD (k + 1) 0) (b.getD (k + 2) 0) (b.getD (k + 3) 0) (b.getD (k + 4) 0) (b.getD (k + 5) 0) (b.getD (k + 6) 0) (b.getD (k + 7) 0) wr.drew (by omega) (HC.out 0 (by omega)) (HC.out 1 (by omega)) (HC.out 2 (by omega)) (HC.out 3 (by omega)) (HC.out 4 (by omega)) (HC.out 5 (by omega)) (HC.out 6 (by omega)) (HC.out 7 (by omega))).mono ?_; rintro e w2 ⟨rfl, hb2⟩)
          all_goals (try go_wp2)
          all_goals go_meet
          all_goals
            refine ⟨?_, HSC.out.bel.drew.trans (Below.mono hb2 (by have := HSC.out.bel.size; exact this))⟩
            rw [leval_eq]
            have h := take8 b k (by omega)
            rw [HE8.out.1] at h
            rw [← HE8.out.2.1, h]
            rfl
        case rest =>
          obtain ⟨rfl, hbw⟩ := hcut
          have HBW : Hid (Below w.heap.size w wc) := hbw
          clear hbw HC
          obtain ⟨A1, hA1⟩ : ∃ A1, X &&& 17361641481138401520 = A1 := ⟨_, rfl⟩
          have hb1 : bits .and .u64 (X : Int) 17361641481138401520 = (A1 : Int) := by rw [← hA1]; exact band X 17361641481138401520 hXlt (by decide)
          have HA1 : Hid (X &&& 17361641481138401520 = A1) := hA1
          clear hA1
          by_cases hA : A1 = 3472328296227680304
          · have HD1 : Hid (∀ c ∈ e8, 48 ≤ c.toNat ∧ c.toNat ≤ 63) := by
              have := high_all e8
              rw [HE8.out.2.2, HE8.out.2.1] at this
              exact this (by have := HA1.out; rw [hA] at this; exact this)
            have hXs : X + 434041037028460038 < 18446744073709551616 := by
              have h1 := leval_le63 e8 HD1.out
              rw [HE8.out.2.1, HE8.out.2.2] at h1
              simp [rep8] at h1
              omega
            obtain ⟨A2, hA2⟩ : ∃ A2, (X + 434041037028460038) &&& 17361641481138401520 = A2 := ⟨_, rfl⟩
            have hb2 : bits .and .u64 ((X : Int) + 434041037028460038) 17361641481138401520 = (A2 : Int) := by rw [← hA2]; exact band (X + 434041037028460038) 17361641481138401520 hXs (by decide)
            have HA2 : Hid ((X + 434041037028460038) &&& 17361641481138401520 = A2) := hA2
            subst hA
            clear hA2
            by_cases hA' : A2 = 3472328296227680304
            · subst hA'
              have HD2 : Hid (∀ c ∈ e8, 48 ≤ c.toNat ∧ c.toNat ≤ 57) := by
                have := high_six e8 HD1.out
                rw [HE8.out.2.2, HE8.out.2.1] at this
                exact this HA2.out
              obtain ⟨V, hV⟩ : ∃ V, vals e8 = V := ⟨_, rfl⟩
              have hVlt : V < 18446744073709551616 := by have := vals_lt e8 HD2.out; rw [HE8.out.2.2, hV] at this; simpa using this
              have hb3 : bits .xor .u64 (X : Int) 3472328296227680304 = (V : Int) := by
                rw [← hV, ← xor_vals e8 HD2.out, HE8.out.2.2, HE8.out.2.1]
                exact bxor X 3472328296227680304 hXlt (by decide)
              have HV : Hid (vals e8 = V) := hV
              clear hV
              have HR : Hid (∀ (f l : Int), f = sfirst b (k + 8) → l = lz (b.take (k + 8)) → ∀ wx, Below w.heap.size w wx → ∃ k' : Nat, Sc w wx b k' (.int .i64 f) (.int .i64 l) (.int .i64 ((k : Int) + 8))) := by
                show ∀ (f l : Int), _
                intro f l hf hl' wx hbx
                subst hf hl'
                exact ⟨k + 8, rfl, rfl, by simp, by omega, scan8 b k (by omega) HSC.out.dig (by rw [HE8.out.1]; exact HD2.out), hbx⟩
              by_cases hV0 : V = 0
              · have hV1 : ((V : Int) != 0) = false := by simp; omega
                have HZ : Hid (sfirst b k = sfirst b (k + 8) ∧ lz (b.take k) = lz (b.take (k + 8))) := by
                  have hz := vals_zero e8 HD2.out (by rw [HV.out, hV0])
                  rw [HE8.out.2.2] at hz
                  rw [sfirst_step b k 8 (by omega), lz_add b k 8 (by omega), HE8.out.1, hz.1, hz.2]
                  refine ⟨?_, by simp⟩
                  unfold sfirst
                  split <;> rfl
                subst hV0
                go_wp2_with fail
                go_roundw
                case rel => exact HR.out _ _ HZ.out.1 HZ.out.2 _ HBW.out
                case measure => simp [intOf]; omega
              · have hV1 : ((V : Int) != 0) = true := by simp; omega
                have HTw : Hid (Tab wc) := HT.out.below HBW.out
                obtain ⟨hL1, hL2, hL3⟩ := bitLen_last e8 HD2.out (by rw [HV.out]; exact hV0) HE8.out.2.2
                rw [HV.out] at hL1 hL2 hL3
                have HL3 : Hid (lz (b.take (k + 8)) = k + (((Lib.bitLen V - 1) / 8 : Nat) : Int)) := by
                  show _ = _
                  rw [lz_add b k 8 (by omega), HE8.out.1, if_neg (by rw [hL3]; omega), hL3]
                have hL : (Lib.bitLen (V : Int).toNat) = Lib.bitLen V := by simp
                generalize Lib.bitLen V = L at *
                clear hL3
                by_cases hf0 : sfirst b k < 0
                · go_wp2_with (first | (go_at_call 28; refine (tz_any _ V (by omega) hVlt HTw.out).mono ?_; rintro e w3 ⟨kk, hkk, rfl, h2, h3, rfl⟩; have HK : Hid (V % 2 ^ kk = 0 ∧ V / 2 ^ kk % 2 = 1) := ⟨h2, h3⟩; clear h2 h3) | (go_at_call 29; refine (Tryd.bits_LeadingZeros64 V _ (by omega) (by omega)).mono ?_; rintro e w4 ⟨rfl, rfl⟩; rw [hL]))
                  have hfk : fz (b.take k) = k := by
                    unfold sfirst at hf0
                    split at hf0
                    · assumption
                    · omega
                  have hq := tz_byte V kk HK.out.1 HK.out.2
                  have hfe := vals_first e8 HD2.out (kk / 8) (by rw [HV.out]; exact hq.1) (by rw [HV.out]; exact hq.2)
                  have hne8 := HE8.out.2.2
                  refine ⟨HR.out _ _ ?_ ?_ _ HBW.out, by simp [intOf]; omega⟩
                  · rw [sfirst_step b k 8 (by omega), if_pos hfk, HE8.out.1, hfe.1, if_neg (by omega)]
                    omega
                  · rw [HL3.out]; omega
                · have HF : Hid (sfirst b (k + 8) = sfirst b k) := by
                    show _ = _
                    rw [sfirst_step b k 8 (by omega)]
                    unfold sfirst at hf0 ⊢
                    split
                    · rename_i h'; rw [if_pos h'] at hf0; omega
                    · rfl
                  go_wp2_with (first | (go_at_call 29; refine (Tryd.bits_LeadingZeros64 V _ (by omega) (by omega)).mono ?_; rintro e w4 ⟨rfl, rfl⟩; rw [hL]))
                  refine ⟨HR.out _ _ HF.out.symm ?_ _ HBW.out, by simp [intOf]; omega⟩
                  rw [HL3.out]; omega
            · have hne : ((A2 : Int) != 3472328296227680304) = true := by simp; omega
              go_wp2_with fail
              go_meet
              case rel => exact ⟨k, HSC.out.fst, HSC.out.lst, HSC.out.idx, HSC.out.le, HSC.out.dig, HBW.out⟩
          · have hne : ((A1 : Int) != 3472328296227680304) = true := by simp; omega
            go_wp2_with fail
            go_meet
            case rel => exact ⟨k, HSC.out.fst, HSC.out.lst, HSC.out.idx, HSC.out.le, HSC.out.dig, HBW.out⟩
      · go_wp2_with fail
        go_meet
        case rel => exact ⟨k, HSC.out⟩
  case rest =>
    obtain ⟨k0, hsc0⟩ := hcut
    obtain ⟨rfl, rfl, rfl, hk0, hd0, hb0⟩ := hsc0
    have HSC0 : Hid (Sc w wc b k0 (.int .i64 (sfirst b k0)) (.int .i64 (lz (b.take k0))) (.int .i64 k0)) := ⟨rfl, rfl, rfl, hk0, hd0, hb0⟩
    clear hd0 hb0
    go_upto_block 2 with fail
    go_cut [3, 4, 5] (fun f l i wx => ∃ k : Nat, Sc w wx b k f l i ∧ dn b = k)
    case first =>
      go_wp2_with fail
      go_loopw [3, 4, 5] (fun f l i wr => ∃ k : Nat, Sc w wr b k f l i) (fun _ _ i _ => b.length - (intOf i).toNat)
      case atStart => exact ⟨k0, HSC0.out⟩
      case round =>
        obtain ⟨k, hf, hll, hi, hkl, hdg, hbl⟩ := hrel
        subst hf hll hi
        clear HSC0 hk0
        have hfb := sfirst_bounds b k
        have hlb := lz_take_bounds b k
        have HSC : Hid (Sc w wr b k (.int .i64 (sfirst b k)) (.int .i64 (lz (b.take k))) (.int .i64 k)) := ⟨rfl, rfl, rfl, hkl, hdg, hbl⟩
        clear hdg hbl
        by_cases h8 : (k : Int) < (b.length : Int)
        · obtain ⟨g, off, rfl, hcell⟩ : ∃ g off, av = some ⟨g, off, none⟩ ∧ ∀ i, i < b.length → w.cell? ⟨g, off + i, none⟩ = some (.int .u8 ((b.getD i 0).toNat : Int)) := by
            rcases HAV.out with ⟨_, h0⟩ | ⟨b', off, ha, _, hc⟩
            · omega
            · exact ⟨b', off, ha, hc⟩
          have hck : wr.cell? ⟨g, off + k, none⟩ = some (.int .u8 ((b.getD k 0).toNat : Int)) := by
            have h1 := hcell k (by omega)
            rw [HSC.out.bel.cell (p := ⟨g, off + k, none⟩) (World.block_lt_of_cell? w ⟨g, off + k, none⟩ h1), h1]
          obtain ⟨c, hc⟩ : ∃ c, b.getD k 0 = c := ⟨_, rfl⟩
          rw [hc] at hck
          have hbk : b[k]? = some c := by rw [← hc]; simp [List.getD, show k < b.length by omega]
          have HBK : Hid (b[k]? = some c) := hbk
          clear hcell hc hbk
          have HOUT : Hid (isDigit c = false → dn b = k) := fun hcd => dn_eq b k hkl HSC.out.dig (by intro c' hc'; rw [HBK.out] at hc'; injection hc' with e; rw [← e]; exact hcd)
          have HT1 : Hid ((b.drop k).take 1 = [c]) := by
            show _ = _
            have : b.drop k = c :: b.drop (k + 1) := by
              rw [List.drop_eq_getElem_cons (by omega)]
              congr 1
              have := HBK.out
              rw [List.getElem?_eq_getElem (by omega)] at this
              injection this
            rw [this]; rfl
          by_cases hc1 : (48 : Int) ≤ (c.toNat : Int)
          · by_cases hc2 : (c.toNat : Int) ≤ 57
            · have HR : Hid (∀ (f l : Int), f = sfirst b (k + 1) → l = lz (b.take (k + 1)) → ∀ wx, Below w.heap.size w wx → ∃ k' : Nat, Sc w wx b k' (.int .i64 f) (.int .i64 l) (.int .i64 ((k : Int) + 1))) := by
                show ∀ (f l : Int), _
                intro f l hf hl' wx hbx
                subst hf hl'
                refine ⟨k + 1, rfl, rfl, by simp, by omega, ?_, hbx⟩
                intro x hx
                rw [take_add] at hx
                rcases List.mem_append.1 hx with hx | hx
                · exact HSC.out.dig x hx
                · rw [HT1.out] at hx
                  rw [List.mem_singleton.1 hx]
                  exact (isDigit_iff c).2 (by omega)
              by_cases hc0 : c.toNat = 48
              · have hce : c = 48 := UInt8.toNat_inj.1 hc0
                have HZ : Hid (sfirst b k = sfirst b (k + 1) ∧ lz (b.take k) = lz (b.take (k + 1))) := by
                  rw [sfirst_step b k 1 (by omega), lz_add b k 1 (by omega), HT1.out, hce]
                  refine ⟨?_, by simp [lz]⟩
                  have : fz [48] = 1 := by decide
                  rw [this]
                  unfold sfirst
                  split <;> rfl
                have hcI : ((c.toNat : Int) == 48) = true := by simp; omega
                go_wp2_with fail
                exact ⟨HR.out _ _ HZ.out.1 HZ.out.2 _ HSC.out.bel, by simp [intOf]; omega⟩
              · have hce : c ≠ 48 := by intro e; subst e; exact hc0 rfl
                have hcI : ((c.toNat : Int) == 48) = false := by simp; omega
                have HL1 : Hid (lz (b.take (k + 1)) = k) := by
                  show _ = _
                  rw [lz_add b k 1 (by omega), HT1.out]
                  have : lz [c] = 0 := by have := lz_snoc [] c; simp [hce] at this; exact this
                  rw [this]; simp
                have hfz1 : fz [c] = 0 := by simp [fz, hce]
                by_cases hf0 : sfirst b k < 0
                · have HF1 : Hid (sfirst b (k + 1) = k) := by
                    show _ = _
                    have hfk : fz (b.take k) = k := by
                      unfold sfirst at hf0
                      split at hf0
                      · assumption
                      · omega
                    rw [sfirst_step b k 1 (by omega), if_pos hfk, HT1.out, hfz1]; simp
                  go_wp2_with fail
                  exact ⟨HR.out _ _ HF1.out.symm HL1.out.symm _ HSC.out.bel, by simp [intOf]; omega⟩
                · have HF : Hid (sfirst b (k + 1) = sfirst b k) := by
                    show _ = _
                    rw [sfirst_step b k 1 (by omega)]
                    unfold sfirst at hf0 ⊢
                    split
                    · rename_i h'; rw [if_pos h'] at hf0; omega
                    · rfl
                  go_wp2_with fail
                  exact ⟨HR.out _ _ HF.out.symm HL1.out.symm _ HSC.out.bel, by simp [intOf]; omega⟩
            · go_wp2_with fail
              go_meet
              case rel => exact ⟨k, HSC.out, HOUT.out (by simp [isDigit]; omega)⟩
          · go_wp2_with fail
            go_meet
            case rel => exact ⟨k, HSC.out, HOUT.out (by simp [isDigit]; omega)⟩
        · go_wp2_with fail
          go_meet
          case rel => exact ⟨k, HSC.out, dn_eq b k hkl HSC.out.dig (by intro c hc; rw [List.getElem?_eq_none (by omega)] at hc; cases hc)⟩
    case rest =>
      obtain ⟨k, hsc, hdn⟩ := hcut
      obtain ⟨rfl, rfl, rfl, hkl, hdg, hbl⟩ := hsc
      have HB : Hid (Below w.heap.size w wc) := hbl
      have hfb := sfirst_bounds b k
      have hlb := lz_take_bounds b k
      have HDN : Hid (dn b = k) := hdn
      clear hbl hdg HSC0 hdn
      by_cases hf0 : sfirst b k < 0
      · have HF : Hid (fz (b.take k) = k) := by
          show _ = _
          unfold sfirst at hf0
          split at hf0
          · assumption
          · omega
        go_wp2_with fail
        go_ret3
        rw [HDN.out, HF.out]
        exact ⟨rfl, HB.out⟩
      · have HF : Hid (sfirst b k = fz (b.take k)) := by
          show _ = _
          unfold sfirst at hf0 ⊢
          split
          · rename_i h'; rw [if_pos h'] at hf0; omega
          · rfl
        go_wp2_with fail
        go_ret3
        rw [HDN.out, ← HF.out]
        exact ⟨rfl, HB.out⟩
end Go.Proofs.Qxb6616348aDoor
