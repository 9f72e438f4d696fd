import Derived.Test.Qxb6617128aLaws
import Derived.Deep.CutBlock
set_option linter.unusedSimpArgs false
set_option linter.unusedVariables false
namespace Go.Proofs.Qxb6617128a
open Go.RowKit

theorem size5 : (Try.prog.info? 5).map (·.size) = some 1 := by kernel_rfl

theorem owned_heap {w : World} {base g n : Nat} {xs : List Value} (h : w.ownsRow base 5 1 (.slice (some ⟨g, 0, none⟩) n n) n xs) : w.heap[g]? = some (.cells xs.toArray 5 (0, 0)) := by
  obtain ⟨hl, ⟨h, _⟩ | ⟨g', cap, cur, he, hb, hh, _, _, hs, ht⟩⟩ := h
  · cases h
  · cases he
    rw [hh, ← ht, List.take_of_length_le (by simp; omega)]

theorem slV_row {w : World} {g : Nat} {l : Bs} (n : Nat) (hn : n = l.length) (h : w.heap[g]? = some (.cells (splice (List.replicate n (.int .u8 0)) 0 (cellsOf l)).toArray 5 (0, 0))) : SlV w (.slice (some ⟨g, 0, none⟩) n n) l false := by
  subst hn
  refine ⟨_, _, rfl, Nat.le_refl _, rfl, fun _ => ⟨g, 0, rfl, fun i hi => ?_⟩⟩
  simp [World.cell?, h, splice, cellsOf, hi, List.getD]

theorem copy_facts (l0 : Bs) (a0 : Option Addr) (w' w1 : World) (hx : 0 < l0.length → ∃ b off, a0 = some ⟨b, off, none⟩ ∧ ∀ i, i < l0.length → w'.cell? ⟨b, off + i, none⟩ = some (.int .u8 ((l0.getD i 0).toNat : Int))) (hb : Ext w' w1) :
    (cellsOf l0).length = Nat.min l0.length l0.length ∧ (0 < (cellsOf l0).length → some (⟨w'.heap.size, 0, none⟩ : Addr) = some ⟨w'.heap.size, 0, none⟩ ∧ ∃ ad, a0 = some ad ∧ ∀ j v, (cellsOf l0)[j]? = some v → w1.cell? (ad.add j) = some v) ∧ 0 + (cellsOf l0).length ≤ (List.replicate l0.length (Value.int .u8 0)).length ∧ ∀ v ∈ cellsOf l0, v.oneCell' = true := by
  refine ⟨by simp [cellsOf], fun h0 => ⟨rfl, ?_⟩, by simp [cellsOf], ?_⟩
  · obtain ⟨b, off, ha, hc⟩ := hx (by simpa [cellsOf] using h0)
    refine ⟨_, ha, fun j v hj => ?_⟩
    have hjl : j < l0.length := by
      have := (List.getElem?_eq_some_iff.1 hj).1
      simpa [cellsOf] using this
    rw [addr_add, hb.cell (hc j hjl), ← hj]
    simp [cellsOf, List.getD, hjl]
  · intro v hv
    simp [cellsOf] at hv
    obtain ⟨b, _, rfl⟩ := hv
    rfl

def MadeCopied (l0 : Bs) (a0 : Option Addr) (w' w1 : World) : Prop :=
  w1.heap[w'.heap.size]? = some (.cells (List.replicate l0.length (Value.int .u8 0)).toArray 5 (0, 0)) ∧ Below w'.heap.size w' w1 ∧
  (cellsOf l0).length = Nat.min l0.length l0.length ∧ (0 < (cellsOf l0).length → some (⟨w'.heap.size, 0, none⟩ : Addr) = some ⟨w'.heap.size, 0, none⟩ ∧ ∃ ad, a0 = some ad ∧ ∀ j v, (cellsOf l0)[j]? = some v → w1.cell? (ad.add j) = some v) ∧ 0 + (cellsOf l0).length ≤ (List.replicate l0.length (Value.int .u8 0)).length ∧ ∀ v ∈ cellsOf l0, v.oneCell' = true
theorem made_copied (l0 : Bs) (a0 : Option Addr) (w' w1 : World) (hx : 0 < l0.length → ∃ b off, a0 = some ⟨b, off, none⟩ ∧ ∀ i, i < l0.length → w'.cell? ⟨b, off + i, none⟩ = some (.int .u8 ((l0.getD i 0).toNat : Int)))
    (hown : w1.ownsRow w'.heap.size 5 1 (.slice (some ⟨w'.heap.size, 0, none⟩) l0.length l0.length) l0.length (madeCells (Value.int .u8 0).cells (l0.length * 1)).toList) (hgrow : w'.grownBy w1 none) : MadeCopied l0 a0 w' w1 := by
  have hb1 : Below w'.heap.size w' w1 := (Below.refl _ _).grown hgrow (Nat.le_refl _) (fun k hk => by cases hk)
  rw [made_bytes] at hown
  exact ⟨owned_heap hown, hb1, copy_facts l0 a0 w' w1 hx hb1⟩

/-- split's answer where there is an empty line -/
theorem splitPost_some {w : World} {l : Bs} {nl : Bool} {p : Nat} {hv bv : Value} (h : SplitPost w l nl (some p) hv bv) : SlV w hv (l.take p) (p == 0) ∧ SlV w bv (l.drop (p + 2)) false := by
  cases p with
  | zero => exact ⟨by simpa using h.1, h.2⟩
  | succ p => exact ⟨by simpa using h.1, h.2⟩
theorem SplitPost.ext {w w' : World} {l : Bs} {nl : Bool} {o : Option Nat} {hv bv : Value} (h : SplitPost w l nl o hv bv) (e : Ext w w') : SplitPost w' l nl o hv bv := by
  match o, h with
  | none, h => exact ⟨h.1.ext e, h.2.ext e⟩
  | some 0, h => exact ⟨h.1.ext e, h.2.ext e⟩
  | some (p + 1), h => exact ⟨h.1.ext e, h.2.ext e⟩

set_option maxRecDepth 100000 in
set_option maxHeartbeats 4000000 in
theorem law_any (a0 a1 : Option Addr) (c0 c1 : Nat) (l0 l1 : Bs) (n0 n1 : Bool) (m : Int) (w : World) (h0 : SlV w (.slice a0 l0.length c0) l0 n0) (h1 : SlV w (.slice a1 l1.length c1) l1 n1)
    (hb0 : l0.length ≤ 9223372036854775807) (hb1 : l1.length ≤ 9223372036854775807) (hm : w.cell? ⟨0, 0, none⟩ = some (.int .i64 m)) :
    Calls Try.prog 5 #[.slice a0 l0.length c0, .slice a1 l1.length c1] w fun e w' => e = .returned (.bool true) ∧ Ext w w' := by
  have H0 : Hid (SlV w (.slice a0 l0.length c0) l0 n0) := h0
  have H1 : Hid (SlV w (.slice a1 l1.length c1) l1 n1) := h1
  have HM : Hid (w.cell? ⟨0, 0, none⟩ = some (.int .i64 m)) := hm
  obtain ⟨a', c', e', _, hn0, hx0⟩ := h0
  cases e'
  have e0 := fun w => neq_nil w a0 l0.length c0 n0 hn0
  have HX : Hid _ := hx0
  clear hx0 hn0 hm h1
  obtain ⟨i0, hi, hz0, hz1, hz2⟩ := info_parts info5
  go_enter Try.func5, Try.ntmps5
  go_wp2_with fail
  go_fit (zzBytes_any a0 a1 l0.length c0 l1.length c1 w hb0 hb1)
  rintro e w' ⟨⟨b, rfl⟩, rfl⟩
  cases b
  · go_wp2
    go_ret
    exact ⟨rfl, Ext.refl _⟩
  by_cases g0 : (l0.length : Int) > 524288
  · go_wp2
    go_ret
    exact ⟨rfl, Ext.refl _⟩
  by_cases g1 : (l1.length : Int) > 524288
  · go_wp2
    go_ret
    exact ⟨rfl, Ext.refl _⟩
  have HB1 : Hid (∀ w2 : World, w2.heap[w'.heap.size]? = some (.cells (splice (List.replicate l0.length (.int .u8 0)) 0 (cellsOf l0)).toArray 5 (0, 0)) → SlV w2 (.slice (some ⟨w'.heap.size, 0, none⟩) l0.length l0.length) l0 false) := fun w2 h => slV_row _ rfl h
  go_upto_if 22 with fail
  go_cut [0] (fun t wx => (∃ a c, t = .slice a l0.length c) ∧ SlV wx t l0 n0 ∧ Ext w' wx)
  case first =>
    cases n0
    · go_wp2_with (first
        | (at_make; refine wpList_make_full _ rfl _ _ 27 rfl w'.heap.size 5 i0 (.int .u8 0) 1 Try.underlying27 hi hz0 hz1 .i64 .i64 _ _ l0.length rfl rfl rfl rfl (by rw [hz2]; omega) (by unfold maxLen; omega) (Nat.le_refl _) ?_; intro w1 hown hgrow; have HB : Hid (MadeCopied l0 a0 w' w1) := made_copied l0 a0 w' w1 HX.out hown hgrow; clear hown hgrow)
        | (refine wpList_copy_splice rfl (.tmp 26) (.tmp 27) 27 27 rfl 5 Try.underlying27 size5 (some ⟨w'.heap.size, 0, none⟩) a0 l0.length l0.length l0.length c0 rfl rfl w'.heap.size 0 (List.replicate l0.length (.int .u8 0)) 5 HB.out.1 (cellsOf l0) HB.out.2.2.1 HB.out.2.2.2.1 HB.out.2.2.2.2.1 HB.out.2.2.2.2.2 w'.heap.size w' HB.out.2.1 (Nat.le_refl _) ?_; intro w2 HG2 hB2))
      go_meet
      case rel => exact ⟨⟨_, _, rfl⟩, HB1.out w2 HG2.out, hB2⟩
    · go_wp2_with fail
      go_meet
      case rel => exact ⟨⟨_, _, rfl⟩, H0.out, Ext.refl _⟩
  case rest =>
    obtain ⟨⟨am, cm, rfl⟩, hvm, hEm⟩ := hcut
    have HVM : Hid (SlV wc (.slice am l0.length cm) l0 n0) := hvm
    have HEM : Hid (Ext w' wc) := hEm
    have hl0 : l0.length ≤ 2097152 := by omega
    have HLL : Hid ((l0 ++ l1).length ≤ 2097152) := by show _ ≤ _; simp; omega
    obtain ⟨o, hO⟩ := isFel_exists l0
    obtain ⟨o2, hO2⟩ := isFel_exists (l0 ++ l1)
    have HO : Hid (IsFel l0 o) := hO
    have HO2 : Hid (IsFel (l0 ++ l1) o2) := hO2
    clear hvm hEm hO hO2 HB1 HX e0 hi hz0 hz1 hz2
    go_wp2_with fail
    go_fit (zzSplit_any _ l0 n0 o m wc HVM.out hl0 HO.out (HEM.out.cell HM.out))
    rintro e w2 ⟨hv, bv, rfl, hp, hE2⟩
    have HP : Hid (SplitPost w2 l0 n0 o hv bv) := hp
    have HE2 : Hid (Ext wc w2) := hE2
    clear hp hE2
    go_wp2_with fail
    go_fit (first_any _ _ _ l0 n0 o w2 (HVM.out.ext HE2.out) HP.out hl0 HO.out)
    rintro e w3 ⟨rfl, hE3⟩
    have HE3 : Hid (Ext w2 w3) := hE3
    clear hE3
    go_wp2_with fail
    go_fit (zzJoin_any _ _ l0 l1 n0 n1 w3 ((HVM.out.ext HE2.out).ext HE3.out) (H1.out.ext (HEM.out.trans (HE2.out.trans HE3.out))) hl0 (by omega))
    rintro e w4 ⟨vj, rfl, hj, hE4⟩
    have HJ : Hid (SlV w4 vj (l0 ++ l1) false) := hj
    have HE4 : Hid (Ext w3 w4) := hE4
    clear hj hE4
    go_wp2_with fail
    go_fit (zzSplit_any _ (l0 ++ l1) false o2 m w4 HJ.out HLL.out HO2.out ((HEM.out.trans (HE2.out.trans (HE3.out.trans HE4.out))).cell HM.out))
    rintro e w5 ⟨hv2, bv2, rfl, hp, hE5⟩
    have HP2 : Hid (SplitPost w5 (l0 ++ l1) false o2 hv2 bv2) := hp
    have HE5 : Hid (Ext w4 w5) := hE5
    clear hp hE5
    have HEall : Hid (Ext wc w5) := HE2.out.trans (HE3.out.trans (HE4.out.trans HE5.out))
    go_wp2_with fail
    go_fit (zzFirstEmptyLine_any _ l0 n0 o w5 (HVM.out.ext HEall.out) hl0 HO.out)
    rintro e w6 ⟨rfl, rfl⟩
    cases o with
    | none =>
      simp only [felI]
      go_wp2_with fail
      go_fit (first_any _ _ _ (l0 ++ l1) false o2 _ (HJ.out.ext HE5.out) HP2.out HLL.out HO2.out)
      rintro e w7 ⟨rfl, hE7⟩
      have HE7 : Hid _ := HEM.out.trans (HEall.out.trans hE7)
      clear hE7
      go_wp2
      go_ret
      exact ⟨rfl, HE7.out⟩
    | some p =>
      obtain rfl : o2 = some p := isFel_unique HO2.out (fel_append HO.out)
      have hbd := fel_bound HO.out
      have hA := splitPost_some (HP.out.ext (HE3.out.trans (HE4.out.trans HE5.out)))
      have hB := splitPost_some HP2.out
      rw [List.take_append_of_le_length (by omega)] at hB
      rw [List.drop_append_of_le_length (by omega)] at hB
      have HA1 : Hid (SlV w6 hv (l0.take p) (p == 0)) := hA.1
      have HA2 : Hid (SlV w6 bv (l0.drop (p + 2)) false) := hA.2
      have HB1 : Hid (SlV w6 hv2 (l0.take p) (p == 0)) := hB.1
      have HB2 : Hid (SlV w6 bv2 (l0.drop (p + 2) ++ l1) false) := hB.2
      have HL1 : Hid ((l0.take p).length ≤ 2097152) := by show _ ≤ _; simp; omega
      have HL2 : Hid ((l0.drop (p + 2)).length ≤ 2097152) := by show _ ≤ _; simp; omega
      have HL3 : Hid ((l0.drop (p + 2) ++ l1).length ≤ 2097152) := by show _ ≤ _; simp; omega
      obtain ⟨ah, ch, rfl, _, nh, _⟩ := hA.1
      obtain ⟨ah2, ch2, rfl, _, nh2, _⟩ := hB.1
      obtain ⟨ab2, cb2, rfl, _, nb2, _⟩ := hB.2
      clear hA hB HP HP2
      generalize (l0.take p).length = q1 at HA1 HB1 ⊢
      generalize (l0.drop (p + 2) ++ l1).length = q2 at HB2 ⊢
      generalize (p == 0) = pz at HA1 HB1 nh nh2
      have e1 := fun w => eql_nil w ah q1 ch pz nh
      have e2 := fun w => eql_nil w ah2 q1 ch2 pz nh2
      have e3 := fun w => neq_nil w ab2 q2 cb2 false nb2
      have e4 : (pz == pz) = true := by simp
      clear nh nh2 nb2
      have HFI : Hid (felI (some p) = (p : Int)) := rfl
      rw [HFI.out]
      go_wp2_with fail
      go_fit (zzEq_same _ _ (l0.take p) pz pz w6 HB1.out HA1.out HL1.out)
      rintro e w7 ⟨rfl, hE7⟩
      have HE7 : Hid (Ext w6 w7) := hE7
      clear hE7
      go_wp2_with fail
      go_fit (zzJoin_any _ _ (l0.drop (p + 2)) l1 false n1 w7 (HA2.out.ext HE7.out) (H1.out.ext (HEM.out.trans (HEall.out.trans HE7.out))) HL2.out (by omega))
      rintro e w8 ⟨vj2, rfl, hj, hE8⟩
      have HJ2 : Hid (SlV w8 vj2 (l0.drop (p + 2) ++ l1) false) := hj
      have HE8 : Hid (Ext w7 w8) := hE8
      clear hj hE8
      go_wp2_with fail
      go_fit (zzEq_same _ _ (l0.drop (p + 2) ++ l1) false false w8 (HB2.out.ext (HE7.out.trans HE8.out)) HJ2.out HL3.out)
      rintro e w9 ⟨rfl, hE9⟩
      have HE9 : Hid _ := HEM.out.trans (HEall.out.trans (HE7.out.trans (HE8.out.trans hE9)))
      clear hE9
      go_wp2
      go_ret
      exact ⟨rfl, HE9.out⟩
end Go.Proofs.Qxb6617128a
