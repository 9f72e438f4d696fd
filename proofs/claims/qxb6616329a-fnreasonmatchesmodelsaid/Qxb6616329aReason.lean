import Derived.Test.Qxb6616329aCatB
import Derived.Laws.EntriesVeiled
set_option linter.unusedSimpArgs false
set_option linter.unusedVariables false
namespace Go.Proofs.Qxb6616329a
open Go.RowKit

theorem IndexFunc_cat_nil (f : Value) (w : World) : Calls Try.prog 34 #[.slice none 0 0, f] w fun e w' => e = .returned (.int .i64 (-1)) ∧ w' = w := by
  go_enter Try.func34, Try.ntmps34
  go_wp2
  go_loop [8] (fun i => i = .int .i64 0) (fun _ => 0)
  case atStart => rfl
  case round =>
    subst hrel
    go_wp2
    go_ret
    exact ⟨rfl, rfl⟩
theorem ContainsFunc_cat_nil (f : Value) (w : World) : Calls Try.prog 20 #[.slice none 0 0, f] w fun e w' => e = .returned (.bool false) ∧ w' = w := by
  go_enter Try.func20, Try.ntmps20
  go_wp2_with (go_at_call 34; refine (IndexFunc_cat_nil _ _).mono ?_; rintro e w' ⟨rfl, rfl⟩)
  go_ret
  exact ⟨rfl, rfl⟩

theorem strsV_nil (w : World) : StrsV w (.slice none 0 0) [] := ⟨none, 0, rfl, fun h => by simp at h⟩

def adomBlk (fs : List (Bs → Bool)) (c : Cl) : Bool := c.adom.any (domBlk fs)
def catBlks (rows : List (List Ct)) (par : Ct → Option Bs) (np : Nat) (c : Cl) : Bool := c.cat.any (fun x => catBlk (inSets rows) par (np + 1) (c.tax, x))
def reasonB (fs : List (Bs → Bool)) (rows : List (List Ct)) (par : Ct → Option Bs) (np : Nat) (cls : List Cl) : Bs := reasonOf (cls.any (adomBlk fs)) (cls.any (catBlks rows par np))

theorem catBlk_none (hs : Ct → Bool) (par : Ct → Option Bs) (h : ∀ c, WfCt c → hs c = false) (hp : ∀ c p, par c = some p → p.length ≤ maxLen) : ∀ (n : Nat) (c : Ct), WfCt c → catBlk hs par n c = false
  | 0, _, _ => rfl
  | n + 1, c, hc => by
    unfold catBlk
    rw [h c hc]
    cases hpc : par c with
    | none => rfl
    | some p => exact catBlk_none hs par h hp n (c.1, p) ⟨hc.1, hp c p hpc⟩

theorem domBlk_none (fs : List (Bs → Bool)) (h : ∀ f ∈ fs, ∀ l, f l = false) (d : Bs) : domBlk fs d = false := by
  rw [domBlk_eq]; exact domHit_false fs h d

theorem run_neq_nilFunc (w : World) : (binOp .neq 57 .nilFunc .nilFunc).run Try.prog w = .ok (.bool false) w := by kernel_rfl

set_option maxHeartbeats 8000000 in
theorem Reason_any (bb : Nat) (fs : List (Bs → Bool)) (rows : List (List Ct)) (par : Ct → Option Bs) (dv cv pm : Value) (np : Nat) (s1 s2 : ByteArray) (av : Value) (cls : List Cl) (w : World)
    (hb : BlocksW w bb fs rows par dv cv pm np) (ha : ClaimsV w av cls) (hfs : fs.length ≤ 4096) (hl : rows.length ≤ 4096) (hnp : np ≤ 256) (hn : cls.length ≤ 4096) (hok : ∀ c ∈ cls, ClOk c) (hwf : ∀ c ∈ cls, ∀ x ∈ c.cat, WfCt (c.tax, x)) :
    Calls Try.prog 8 #[.pointer (some ⟨bb, 0, none⟩), .agg #[.string s1, .string s2], av] w fun e w' => e = .returned (.string (B (reasonB fs rows par np cls))) ∧ Ext w w' := by
  obtain ⟨aa, acap, rfl, hcells⟩ := ha
  have HC : Hid _ := hcells
  have HB : Hid (BlocksW w bb fs rows par dv cv pm np) := hb
  have HOK : Hid (∀ c ∈ cls, ClOk c) := hok
  have HWF : Hid (∀ c ∈ cls, ∀ x ∈ c.cat, WfCt (c.tax, x)) := hwf
  have b0 := hb.c0
  have b1 := hb.c1
  have b3 := hb.c3
  have hnf := run_neq_nilFunc
  have hbl := cell_lt b0
  clear hcells hb hok hwf
  go_enter Try.func8, Try.ntmps8
  go_wp2_with fail
  have hE : Ext w ((w.alloc (.cells #[.string s1, .string s2] 32)).alloc (.cells #[.slice none 0 0, .slice none 0 0] 63)) := (Ext.alloc _ _).trans (Ext.alloc _ _)
  have e0 : ((w.alloc (.cells #[.string s1, .string s2] 32)).alloc (.cells #[.slice none 0 0, .slice none 0 0] 63)).cell? ⟨w.heap.size + 1, 0, none⟩ = some (.slice none 0 0) := by simp
  have e1 : ((w.alloc (.cells #[.string s1, .string s2] 32)).alloc (.cells #[.slice none 0 0, .slice none 0 0] 63)).cell? ⟨w.heap.size + 1, 1, none⟩ = some (.slice none 0 0) := by simp
  generalize (w.alloc (.cells #[.string s1, .string s2] 32)).alloc (.cells #[.slice none 0 0, .slice none 0 0] 63) = W0 at hE e0 e1 ⊢
  clear b0 b1 b3 hnf hbl
  obtain ⟨ns, hdv⟩ := HB.out.d
  have HDV : Hid (DomsV W0 dv fs ns) := hdv.ext hE
  clear hdv
  have HE0 : Hid (W0.cell? ⟨w.heap.size + 1, 0, none⟩ = some (.slice none 0 0)) := e0
  have HE1 : Hid (W0.cell? ⟨w.heap.size + 1, 1, none⟩ = some (.slice none 0 0)) := e1
  have HB0 : Hid (BlocksW W0 bb fs rows par dv cv pm np) := HB.out.ext hE
  go_fit (Empty_any dv fs ns _ HDV.out hfs)
  rintro e w' ⟨⟨be, rfl, hbe⟩, rfl⟩
  have HBE : Hid (be = true → ∀ f ∈ fs, ∀ l, f l = false) := hbe
  clear hbe e0 e1
  go_upto_if 37 with fail
  go_cut [10] (fun _ wx => Ext w' wx ∧ Hid (cls.any (adomBlk fs) = false))
  case first =>
    cases be
    · have e0 := HE0.out
      go_wp2_with fail
      go_fit (ContainsFunc_dom dv (.slice none 0 0) bb fs ns [] _ HB0.out.c0 HDV.out (strsV_nil _) (by simp) (by simp) hfs)
      rintro e w1 ⟨rfl, he1⟩
      clear e0
      go_wp2_with fail
      go_loopw [45, 10] (fun i _ wr => (∃ k : Nat, i = .int .i64 k ∧ k ≤ cls.length ∧ Hid ((cls.take k).any (adomBlk fs) = false)) ∧ Ext w' wr) (fun i _ _ => cls.length - (intOf i).toNat)
      case atStart => exact ⟨⟨0, rfl, Nat.zero_le _, (rfl : (cls.take 0).any (adomBlk fs) = false)⟩, he1⟩
      case round =>
        clear he1
        obtain ⟨⟨k, rfl, hk, hno⟩, he⟩ := hrel
        by_cases hlt : k < cls.length
        · obtain ⟨b, off, rfl, hc⟩ := HC.out (by omega)
          obtain ⟨x, y, g0, g1, g2, gx, gy⟩ := hc k hlt
          clear hc
          have hew := hE.trans he
          have c0 := hew.cell g0
          have c1 := hew.cell g1
          have c2 := hew.cell g2
          have HS : Hid _ := any_step (adomBlk fs) ⟨[], 0, []⟩ cls k hlt
          have HT : Hid _ := any_at (adomBlk fs) ⟨[], 0, []⟩ cls k hlt
          have HK : Hid (ClOk (cls.getD k ⟨[], 0, []⟩)) := HOK.out _ (getD_mem' ⟨[], 0, []⟩ cls k hlt)
          have HGX : Hid (StrsV wr x (cls.getD k ⟨[], 0, []⟩).adom) := gx.ext hew
          obtain ⟨xa, xcap, rfl, _⟩ := gx
          obtain ⟨ya, ycap, rfl, _⟩ := gy
          clear g0 g1 g2
          generalize cls.getD k ⟨[], 0, []⟩ = cl at *
          have HDV1 : Hid (DomsV wr dv fs ns) := DomsV.ext HDV.out he
          have HBC : Hid (wr.cell? ⟨bb, 0, none⟩ = some dv) := he.cell HB0.out.c0
          cases hh : adomBlk fs cl
          · have HN : Hid ((cls.take (k + 1)).any (adomBlk fs) = false) := by show (cls.take (k + 1)).any (adomBlk fs) = false; rw [HS.out, hno.out, hh]; rfl
            have HH : Hid (cl.adom.any (domBlk fs) = false) := hh
            clear hh
            go_wp2_with fail
            go_fit (ContainsFunc_dom dv (.slice xa cl.adom.length xcap) bb fs ns cl.adom _ ((Ext.alloc _ _).cell HBC.out) (DomsV.ext HDV1.out (Ext.alloc _ _)) (StrsV.ext HGX.out (Ext.alloc _ _)) HK.out.al HK.out.an hfs)
            rintro e w2 ⟨rfl, he2⟩
            rw [HH.out]
            have he3 : Ext w' w2 := (he.trans (Ext.alloc _ _)).trans he2
            clear he2 c0 c1 c2 hew
            go_wp2
            go_roundw
            case rel => exact ⟨⟨k + 1, by go_num, by omega, HN⟩, he3⟩
            case measure => simp [intOf]; omega
          · have HN : Hid (reasonB fs rows par np cls = sDomain) := by
              show reasonB fs rows par np cls = sDomain
              unfold reasonB
              rw [HT.out hh]; rfl
            have HH : Hid (cl.adom.any (domBlk fs) = true) := hh
            clear hh
            go_wp2_with fail
            go_fit (ContainsFunc_dom dv (.slice xa cl.adom.length xcap) bb fs ns cl.adom _ ((Ext.alloc _ _).cell HBC.out) (DomsV.ext HDV1.out (Ext.alloc _ _)) (StrsV.ext HGX.out (Ext.alloc _ _)) HK.out.al HK.out.an hfs)
            rintro e w2 ⟨rfl, he2⟩
            rw [HH.out]
            have he3 : Ext w' w2 := (he.trans (Ext.alloc _ _)).trans he2
            clear he2 c0 c1 c2 hew
            go_wp2
            go_ret
            exact ⟨by rw [HN.out]; rfl, hE.trans he3⟩
        · have HN : Hid (cls.any (adomBlk fs) = false) := by show cls.any (adomBlk fs) = false; rw [← hno.out, List.take_of_length_le (by omega)]
          go_wp2
          go_meet
          case rel => exact ⟨he, HN⟩
    · have HN : Hid (cls.any (adomBlk fs) = false) := by
        show cls.any (adomBlk fs) = false
        rw [List.any_eq_false]
        intro c hc
        unfold adomBlk
        rw [Bool.not_eq_true, List.any_eq_false]
        intro d hd
        rw [domBlk_none fs (HBE.out rfl) d]; simp
      go_wp2
      go_meet
      case rel => exact ⟨Ext.refl _, HN⟩
  case rest =>
    obtain ⟨hew, HDA⟩ := hcut
    have b1 := hew.cell HB0.out.c1
    have HCM : Hid (CatMapsV wc cv rows) := CatMapsV.ext HB0.out.c hew
    go_wp2_with fail
    go_fit (CatEmpty_any cv rows _ HCM.out hl)
    rintro e w2 ⟨⟨bc, rfl, hbc⟩, rfl⟩
    have HBCE : Hid (bc = true → ∀ c, WfCt c → inSets rows c = false) := hbc
    clear hbc b1
    cases bc
    · have e1 := hew.cell HE1.out
      go_wp2_with fail
      go_fit (ContainsFunc_cat_nil _ _)
      rintro e w3 ⟨rfl, rfl⟩
      clear e1
      go_wp2_with fail
      go_loopw [68, 12] (fun i _ wr => (∃ k : Nat, i = .int .i64 k ∧ k ≤ cls.length ∧ Hid ((cls.take k).any (catBlks rows par np) = false)) ∧ Ext w' wr) (fun i _ _ => cls.length - (intOf i).toNat)
      case atStart => exact ⟨⟨0, rfl, Nat.zero_le _, (rfl : (cls.take 0).any (catBlks rows par np) = false)⟩, hew⟩
      case round =>
        clear hew
        obtain ⟨⟨k, rfl, hk, hno⟩, he⟩ := hrel
        by_cases hlt : k < cls.length
        · obtain ⟨b, off, rfl, hc⟩ := HC.out (by omega)
          obtain ⟨x, y, g0, g1, g2, gx, gy⟩ := hc k hlt
          clear hc
          have hew := hE.trans he
          have c0 := hew.cell g0
          have c1 := hew.cell g1
          have c2 := hew.cell g2
          have HS : Hid _ := any_step (catBlks rows par np) ⟨[], 0, []⟩ cls k hlt
          have HT : Hid _ := any_at (catBlks rows par np) ⟨[], 0, []⟩ cls k hlt
          have HK : Hid (ClOk (cls.getD k ⟨[], 0, []⟩)) := HOK.out _ (getD_mem' ⟨[], 0, []⟩ cls k hlt)
          have HKW : Hid (∀ x ∈ (cls.getD k ⟨[], 0, []⟩).cat, WfCt ((cls.getD k ⟨[], 0, []⟩).tax, x)) := HWF.out _ (getD_mem' ⟨[], 0, []⟩ cls k hlt)
          obtain ⟨xa, xcap, rfl, _⟩ := gx
          have HGY : Hid (StrsV wr y (cls.getD k ⟨[], 0, []⟩).cat) := gy.ext hew
          obtain ⟨ya, ycap, rfl, hyc⟩ := gy
          have HY : Hid _ := hyc
          clear g0 g1 g2 hyc
          generalize cls.getD k ⟨[], 0, []⟩ = cl at *
          have hcn := HK.out.cn
          go_wp2_with fail
          have hA : Ext wr (wr.alloc (.cells #[.slice xa cl.adom.length xcap, .int .i64 cl.tax, .slice ya cl.cat.length ycap] 68)) := Ext.alloc _ _
          have a1 : (wr.alloc (.cells #[.slice xa cl.adom.length xcap, .int .i64 cl.tax, .slice ya cl.cat.length ycap] 68)).cell? ⟨wr.heap.size, 1, none⟩ = some (.int .i64 cl.tax) := by simp
          generalize wr.alloc (.cells #[.slice xa cl.adom.length xcap, .int .i64 cl.tax, .slice ya cl.cat.length ycap] 68) = W1 at hA a1 ⊢
          have HA1 : Hid (W1.cell? ⟨wr.heap.size, 1, none⟩ = some (.int .i64 cl.tax)) := a1
          have hEW : Ext w W1 := hew.trans hA
          have hEW' : Ext w' W1 := he.trans hA
          clear c0 c1 c2 a1 hew
          go_loopw [75, 14] (fun i _ wq => (∃ j : Nat, i = .int .i64 j ∧ j ≤ cl.cat.length ∧ Hid ((cl.cat.take j).any (fun x => catBlk (inSets rows) par (np + 1) (cl.tax, x)) = false)) ∧ Ext W1 wq) (fun i _ _ => cl.cat.length - (intOf i).toNat)
          case atStart => exact ⟨⟨0, rfl, Nat.zero_le _, (rfl : (cl.cat.take 0).any (fun x => catBlk (inSets rows) par (np + 1) (cl.tax, x)) = false)⟩, Ext.refl _⟩
          case round =>
            obtain ⟨⟨j, rfl, hj, hnoj⟩, hq⟩ := hrel
            by_cases hjl : j < cl.cat.length
            · obtain ⟨yb, yoff, rfl, hyc⟩ := HY.out (by omega)
              have cj := (hEW.trans hq).cell (hyc j hjl)
              have q1 := hq.cell HA1.out
              clear hyc
              have HJ : Hid _ := any_step (fun x => catBlk (inSets rows) par (np + 1) (cl.tax, x)) [] cl.cat j hjl
              have HJT : Hid _ := any_at (fun x => catBlk (inSets rows) par (np + 1) (cl.tax, x)) [] cl.cat j hjl
              have HJW : Hid (WfCt (cl.tax, cl.cat.getD j [])) := HKW.out _ (getD_mem cl.cat j hjl)
              generalize cl.cat.getD j [] = z at *
              have HBQ : Hid (BlocksW wr bb fs rows par dv cv pm np) := BlocksW.ext HB0.out (hEW'.trans hq)
              cases hh : catBlk (inSets rows) par (np + 1) (cl.tax, z)
              · have HN : Hid ((cl.cat.take (j + 1)).any (fun x => catBlk (inSets rows) par (np + 1) (cl.tax, x)) = false) := by
                  show (cl.cat.take (j + 1)).any (fun x => catBlk (inSets rows) par (np + 1) (cl.tax, x)) = false
                  rw [HJ.out, hnoj.out]; exact hh
                have HH : Hid (catBlk (inSets rows) par (np + 1) (cl.tax, z) = false) := hh
                clear hh
                go_wp2_with fail
                go_fit (categoryBlocked_any bb fs rows par dv cv pm np cl.tax z _ HBQ.out hl hnp HJW.out)
                rintro e w4 ⟨rfl, he4⟩
                rw [HH.out]
                have hq4 := hq.trans he4
                clear he4 cj q1
                go_wp2
                go_roundw
                case rel => exact ⟨⟨j + 1, by go_num, by omega, HN⟩, hq4⟩
                case measure => simp [intOf]; omega
              · have HN : Hid (reasonB fs rows par np cls = sCategory) := by
                  show reasonB fs rows par np cls = sCategory
                  unfold reasonB
                  rw [HDA.out, HT.out (HJT.out hh)]; rfl
                have HH : Hid (catBlk (inSets rows) par (np + 1) (cl.tax, z) = true) := hh
                clear hh
                go_wp2_with fail
                go_fit (categoryBlocked_any bb fs rows par dv cv pm np cl.tax z _ HBQ.out hl hnp HJW.out)
                rintro e w4 ⟨rfl, he4⟩
                rw [HH.out]
                have hq4 := hq.trans he4
                clear he4 cj q1
                go_wp2
                go_ret
                exact ⟨by rw [HN.out]; rfl, hEW.trans hq4⟩
            · have HN : Hid ((cls.take (k + 1)).any (catBlks rows par np) = false) := by
                show (cls.take (k + 1)).any (catBlks rows par np) = false
                rw [HS.out, hno.out]
                show catBlks rows par np cl = false
                unfold catBlks
                rw [← hnoj.out, List.take_of_length_le (by omega)]
              go_wp2
              go_roundw
              case rel => exact ⟨⟨k + 1, by go_num, by omega, HN⟩, hEW'.trans hq⟩
              case measure => simp [intOf]; omega
        · have HN : Hid (reasonB fs rows par np cls = []) := by
            show reasonB fs rows par np cls = []
            unfold reasonB
            rw [HDA.out, ← List.take_of_length_le (l := cls) (i := k) (by omega), hno.out]; rfl
          go_wp2
          go_ret
          exact ⟨by rw [HN.out]; rfl, hE.trans he⟩
    · have HN : Hid (reasonB fs rows par np cls = []) := by
        show reasonB fs rows par np cls = []
        unfold reasonB
        rw [HDA.out]
        have : cls.any (catBlks rows par np) = false := by
          rw [List.any_eq_false]
          intro c hc
          unfold catBlks
          rw [Bool.not_eq_true, List.any_eq_false]
          intro x hx
          rw [catBlk_none _ _ (HBCE.out rfl) HB.out.p.wf _ _ (HWF.out c hc x hx)]; simp
        rw [this]; rfl
      go_wp2
      go_ret
      exact ⟨by rw [HN.out]; rfl, hE.trans hew⟩
end Go.Proofs.Qxb6616329a
