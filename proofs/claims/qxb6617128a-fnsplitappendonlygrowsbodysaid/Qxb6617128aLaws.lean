import Derived.Test.Qxb6617128aJoin
import Derived.Test.Qxb6617128aSplit
import Derived.Laws.CopyOwn
set_option linter.unusedSimpArgs false
set_option linter.unusedVariables false
namespace Go.Proofs.Qxb6617128a
open Go.RowKit

/-! ### ZZsplit -/
theorem zzSplit_any (v : Value) (l : Bs) (nl : Bool) (o : Option Nat) (m : Int) (w : World) (h : SlV w v l nl) (hl : l.length ≤ 2097152) (ho : IsFel l o) (hm : w.cell? ⟨0, 0, none⟩ = some (.int .i64 m)) :
    Calls Try.prog 14 #[v] w fun e w' => ∃ hv bv, e = .returned (.tuple #[hv, bv]) ∧ SplitPost w' l nl o hv bv ∧ Ext w w' := by
  have H : Hid (SlV w v l nl) := h
  have HO : Hid (IsFel l o) := ho
  have HM : Hid (w.cell? ⟨0, 0, none⟩ = some (.int .i64 m)) := hm
  clear h ho hm
  go_enter Try.func14, Try.ntmps14
  go_wp2_with fail
  go_fit (split_any v l nl o m w H.out hl HO.out HM.out)
  rintro e w' ⟨hv, bv, rfl, hp, he⟩
  have HP : Hid (SplitPost w' l nl o hv bv) := hp
  have HE : Hid (Ext w w') := he
  clear hp he
  go_wp2
  go_ret2
  exact ⟨_, _, rfl, HP.out, HE.out⟩

/-! ### zzBytes -/
def IsB (e : Ending) : Prop := ∃ b : Bool, e = .returned (.bool b)
theorem zzBytes_any (a1 a2 : Option Addr) (n1 c1 n2 c2 : Nat) (w : World) (h1 : n1 ≤ 9223372036854775807) (h2 : n2 ≤ 9223372036854775807) :
    Calls Try.prog 13 #[.slice a1 n1 c1, .slice a2 n2 c2] w fun e w' => IsB e ∧ w' = w := by
  by_cases g1 : (n1 : Int) > 1048576
  · go_enter Try.func13, Try.ntmps13
    go_wp2
    go_ret
    exact ⟨⟨_, rfl⟩, rfl⟩
  · by_cases g2 : (n2 : Int) > 1048576
    · go_enter Try.func13, Try.ntmps13
      go_wp2
      go_ret
      exact ⟨⟨_, rfl⟩, rfl⟩
    · by_cases g3 : (n1 : Int) + (n2 : Int) > 1048576
      · go_enter Try.func13, Try.ntmps13
        go_wp2
        go_ret
        exact ⟨⟨_, rfl⟩, rfl⟩
      · go_enter Try.func13, Try.ntmps13
        go_wp2
        go_ret
        exact ⟨⟨_, rfl⟩, rfl⟩

/-! ### zzSplitIsFirstEmptyLine -/
theorem zzEq_same (v1 v2 : Value) (a : Bs) (n1 n2 : Bool) (w : World) (h1 : SlV w v1 a n1) (h2 : SlV w v2 a n2) (hl : a.length ≤ 2097152) :
    Calls Try.prog 18 #[v1, v2] w fun e w' => e = .returned (.bool true) ∧ Ext w w' := by
  refine (zzEqBytes_any v1 v2 a a n1 n2 w h1 h2 hl hl).mono fun e w' h => ?_
  obtain ⟨h, m, rfl⟩ := h
  exact ⟨by rw [h, beq_self_eq_true], Ext.drewN _ _⟩

theorem eql_nil (w : World) (a : Option Addr) (n c : Nat) (nl : Bool) (h : a.isNone = nl) : (binOp .eql 27 (.slice a n c) (.slice none 0 0)).run Try.prog w = .ok (.bool nl) w := by
  rw [← h]; exact Lib.run_eql_slice_nil w 27 5 a n c 0 0 Try.underlying27
theorem neq_nil (w : World) (a : Option Addr) (n c : Nat) (nl : Bool) (h : a.isNone = nl) : (binOp .neq 27 (.slice a n c) (.slice none 0 0)).run Try.prog w = .ok (.bool (!nl)) w := by
  rw [← h]; exact run_neq_slice_nil_any w 27 5 a n c 0 0 Try.underlying27

set_option maxRecDepth 100000 in
set_option maxHeartbeats 2000000 in
theorem first_none (v hv bv : Value) (l : Bs) (nl : Bool) (w : World) (h : SlV w v l nl) (hp : SplitPost w l nl none hv bv) (hl : l.length ≤ 2097152) (ho : IsFel l none) :
    Calls Try.prog 15 #[v, hv, bv] w fun e w' => e = .returned (.bool true) ∧ Ext w w' := by
  have HF := zzFirstEmptyLine_any v l nl none w h hl ho
  have HV : Hid (SlV w v l nl) := h
  have HH : Hid (SlV w hv l nl) := hp.1
  obtain ⟨av, cv, rfl, _, nv, _⟩ := h
  obtain ⟨⟨ah, ch, rfl, _, nh, _⟩, ⟨ab, cb, rfl, _, nb, _⟩⟩ := hp
  have e1 := fun w => eql_nil w av l.length cv nl nv
  have e2 := fun w => eql_nil w ah l.length ch nl nh
  have e3 := fun w => eql_nil w ab 0 cb true nb
  clear nv nh nb
  have hs : (nl == nl) = true := by simp
  go_enter Try.func15, Try.ntmps15
  go_wp2_with fail
  go_fit (zzFirstEmptyLine_any _ l nl none w HV.out hl ho)
  rintro e w' ⟨rfl, rfl⟩
  simp only [felI]
  go_wp2_with fail
  go_fit (zzEq_same _ _ l nl nl _ HH.out HV.out hl)
  rintro e w2 ⟨rfl, hE⟩
  have HE : Hid _ := hE
  clear hE
  go_wp2
  go_ret
  exact ⟨rfl, HE.out⟩

set_option maxRecDepth 100000 in
set_option maxHeartbeats 2000000 in
theorem first_zero (v hv bv : Value) (l : Bs) (nl : Bool) (w : World) (h : SlV w v l nl) (hp : SplitPost w l nl (some 0) hv bv) (hl : l.length ≤ 2097152) (ho : IsFel l (some 0)) :
    Calls Try.prog 15 #[v, hv, bv] w fun e w' => e = .returned (.bool true) ∧ Ext w w' := by
  have HV : Hid (SlV w v l nl) := h
  have HH : Hid (SlV w hv [] true) := hp.1
  have HB : Hid (SlV w bv (l.drop 2) false) := hp.2
  have HO : Hid (IsFel l (some 0)) := ho
  have hbd := fel_bound ho
  clear ho
  obtain ⟨av, cv, rfl, hcv, nv, hx⟩ := h
  obtain ⟨b, off, rfl, hc⟩ := hx (by omega)
  clear hx nv
  have HC : Hid _ := hc
  clear hc
  obtain ⟨⟨ah, ch, rfl, _, nh, _⟩, ⟨ab, cb, rfl, _, nb, _⟩⟩ := hp
  have e2 := fun w => eql_nil w ah 0 ch true nh
  have e3 := fun w => neq_nil w ab (l.drop 2).length cb false nb
  obtain ⟨nb', hnb'⟩ : ∃ q, q = (l.drop 2).length := ⟨_, rfl⟩
  rw [← hnb'] at e3
  have HB' : Hid (SlV w (.slice ab nb' cb) (l.drop 2) false) := by show SlV _ _ _ _; rw [hnb']; exact HB.out
  clear HB nh nb
  have hl0 : (l.drop 2).length ≤ 2097152 := by simp; omega
  have HL0 : Hid _ := hl0
  rw [← hnb']
  clear hl0 hnb'
  by_cases hcc : cv = 2
  · subst hcc
    go_enter Try.func15, Try.ntmps15
    go_wp2_with fail
    go_fit (zzFirstEmptyLine_any _ l nl (some 0) w HV.out hl HO.out)
    rintro e w' ⟨rfl, rfl⟩
    simp only [felI]
    go_wp2_with fail
    go_fit (zzEq_same _ (.slice (some ⟨b, off, none⟩) 0 2) [] true false _ HH.out (slV_take (l := l) HC.out hcv 0 (by omega)) (by simp))
    rintro e w2 ⟨rfl, hE⟩
    have HE : Hid (Ext w' w2) := hE
    clear hE
    go_wp2_with fail
    go_fit (zzEq_same _ (.slice (some ⟨b, off, none⟩) 0 0) (l.drop 2) false false _ (HB'.out.ext HE.out) (slV_drop (fun j hj => HE.out.cell (HC.out j hj)) hcv 2 (by omega) _ _ _ (by omega) (by omega) (by omega)) HL0.out)
    rintro e w3 ⟨rfl, hE⟩
    have HE3 : Hid (Ext w' w3) := HE.out.trans hE
    clear hE
    go_wp2
    go_ret
    exact ⟨rfl, HE3.out⟩
  · go_enter Try.func15, Try.ntmps15
    go_wp2_with fail
    go_fit (zzFirstEmptyLine_any _ l nl (some 0) w HV.out hl HO.out)
    rintro e w' ⟨rfl, rfl⟩
    simp only [felI]
    go_wp2_with fail
    go_fit (zzEq_same _ (.slice (some ⟨b, off, none⟩) 0 cv) [] true false _ HH.out (slV_take (l := l) HC.out hcv 0 (by omega)) (by simp))
    rintro e w2 ⟨rfl, hE⟩
    have HE : Hid (Ext w' w2) := hE
    clear hE
    go_wp2_with fail
    go_fit (zzEq_same _ (.slice (some ⟨b, off + 2, none⟩) (l.length - 2) (cv - 2)) (l.drop 2) false false _ (HB'.out.ext HE.out) (slV_drop (fun j hj => HE.out.cell (HC.out j hj)) hcv 2 (by omega) _ _ _ (by omega) (by omega) (by omega)) HL0.out)
    rintro e w3 ⟨rfl, hE⟩
    have HE3 : Hid (Ext w' w3) := HE.out.trans hE
    clear hE
    go_wp2
    go_ret
    exact ⟨rfl, HE3.out⟩

set_option maxRecDepth 100000 in
set_option maxHeartbeats 2000000 in
theorem first_more (v hv bv : Value) (l : Bs) (nl : Bool) (p : Nat) (w : World) (h : SlV w v l nl) (hp : SplitPost w l nl (some (p + 1)) hv bv) (hl : l.length ≤ 2097152) (ho : IsFel l (some (p + 1))) :
    Calls Try.prog 15 #[v, hv, bv] w fun e w' => e = .returned (.bool true) ∧ Ext w w' := by
  have HV : Hid (SlV w v l nl) := h
  have HH : Hid (SlV w hv (l.take (p + 1)) false) := hp.1
  have HB : Hid (SlV w bv (l.drop (p + 3)) false) := hp.2
  have HO : Hid (IsFel l (some (p + 1))) := ho
  have hbd := fel_bound ho
  clear ho
  obtain ⟨av, cv, rfl, hcv, nv, hx⟩ := h
  obtain ⟨b, off, rfl, hc⟩ := hx (by omega)
  clear hx nv
  have HC : Hid _ := hc
  clear hc
  obtain ⟨⟨ah, ch, rfl, _, nh, _⟩, ⟨ab, cb, rfl, _, nb, _⟩⟩ := hp
  generalize (l.take (p + 1)).length = n1 at HH ⊢
  generalize (l.drop (p + 3)).length = n2 at HB ⊢
  have e2 := fun w => eql_nil w ah n1 ch false nh
  have e3 := fun w => neq_nil w ab n2 cb false nb
  clear nh nb
  have HL0 : Hid ((l.drop (p + 3)).length ≤ 2097152) := by show _ ≤ _; simp; omega
  have HL1 : Hid ((l.take (p + 1)).length ≤ 2097152) := by show _ ≤ _; simp; omega
  have HFI : Hid (felI (some (p + 1)) = ((p + 1 : Nat) : Int)) := rfl
  by_cases hcc : cv = p + 3
  · subst hcc
    go_enter Try.func15, Try.ntmps15
    go_wp2_with fail
    go_fit (zzFirstEmptyLine_any _ l nl (some (p + 1)) w HV.out hl HO.out)
    rintro e w' ⟨rfl, rfl⟩
    rw [HFI.out, Int.natCast_add, Int.natCast_one]
    go_wp2_with fail
    go_fit (zzEq_same _ (.slice (some ⟨b, off, none⟩) (p + 1) (p + 3)) (l.take (p + 1)) false false _ HH.out (slV_take (l := l) HC.out hcv (p + 1) (by omega)) HL1.out)
    rintro e w2 ⟨rfl, hE⟩
    have HE : Hid (Ext w' w2) := hE
    clear hE
    go_wp2_with fail
    go_fit (zzEq_same _ (.slice (some ⟨b, off, none⟩) 0 0) (l.drop (p + 3)) false false _ (HB.out.ext HE.out) (slV_drop (fun j hj => HE.out.cell (HC.out j hj)) hcv (p + 3) (by omega) _ _ _ (by omega) (by omega) (by omega)) HL0.out)
    rintro e w3 ⟨rfl, hE⟩
    have HE3 : Hid (Ext w' w3) := HE.out.trans hE
    clear hE
    go_wp2
    go_ret
    exact ⟨rfl, HE3.out⟩
  · go_enter Try.func15, Try.ntmps15
    go_wp2_with fail
    go_fit (zzFirstEmptyLine_any _ l nl (some (p + 1)) w HV.out hl HO.out)
    rintro e w' ⟨rfl, rfl⟩
    rw [HFI.out, Int.natCast_add, Int.natCast_one]
    go_wp2_with fail
    go_fit (zzEq_same _ (.slice (some ⟨b, off, none⟩) (p + 1) cv) (l.take (p + 1)) false false _ HH.out (slV_take (l := l) HC.out hcv (p + 1) (by omega)) HL1.out)
    rintro e w2 ⟨rfl, hE⟩
    have HE : Hid (Ext w' w2) := hE
    clear hE
    go_wp2_with fail
    go_fit (zzEq_same _ (.slice (some ⟨b, off + (p + 3), none⟩) (l.length - (p + 3)) (cv - (p + 3))) (l.drop (p + 3)) false false _ (HB.out.ext HE.out) (slV_drop (fun j hj => HE.out.cell (HC.out j hj)) hcv (p + 3) (by omega) _ _ _ (by omega) (by omega) (by omega)) HL0.out)
    rintro e w3 ⟨rfl, hE⟩
    have HE3 : Hid (Ext w' w3) := HE.out.trans hE
    clear hE
    go_wp2
    go_ret
    exact ⟨rfl, HE3.out⟩

theorem first_any (v hv bv : Value) (l : Bs) (nl : Bool) (o : Option Nat) (w : World) (h : SlV w v l nl) (hp : SplitPost w l nl o hv bv) (hl : l.length ≤ 2097152) (ho : IsFel l o) :
    Calls Try.prog 15 #[v, hv, bv] w fun e w' => e = .returned (.bool true) ∧ Ext w w' :=
  match o, hp, ho with
  | none, hp, ho => first_none v hv bv l nl w h hp hl ho
  | some 0, hp, ho => first_zero v hv bv l nl w h hp hl ho
  | some (p + 1), hp, ho => first_more v hv bv l nl p w h hp hl ho
end Go.Proofs.Qxb6617128a
