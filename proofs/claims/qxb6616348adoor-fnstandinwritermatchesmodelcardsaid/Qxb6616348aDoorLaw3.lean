import Derived.Test.Qxb6616348aDoorLw
import Derived.Test.Qxb6616348aDoorState8
import Derived.Test.Qxb6616348aDoorMd
import Derived.Deep.RegionHeld3
set_option linter.unusedSimpArgs false
set_option linter.unusedVariables false
namespace Go.Proofs.Qxb6616348aDoor
open Go.RowKit

theorem size28 : (Tryd.prog.info? 28).map (·.size) = some 4 := by kernel_rfl
theorem size46 : (Tryd.prog.info? 46).map (·.size) = some 4 := by kernel_rfl
theorem own_below {w w' : World} {e sz n : Nat} {v : Value} {xs : List Value} (ho : w.ownsRow 0 e sz v n xs) (hb : Below w.heap.size w w') : w'.ownsRow 0 e sz v n xs := by
  refine ⟨ho.1, ho.2.imp id fun ⟨g, cap, cur, e1, e2, e3, e4⟩ => ⟨g, cap, cur, e1, e2, ?_, e4⟩⟩
  rw [below_grown hb g (Array.getElem?_eq_some_iff.1 e3).1]
  exact e3
theorem MoR.below {w w' : World} {t : St} {vo vsh vr : Value} {G : List (Value × Run)} (h : MoR w t vo vsh vr G) (hb : Below w.heap.size w w') : MoR w' t vo vsh vr G :=
  ⟨h.out.below hb, own_below h.shifts hb, own_below h.runs hb, fun x hx => (h.rds x hx).below hb, h.eq⟩
theorem MoR.fin {w : World} {s t : St} {vo vsh vr : Value} {G : List (Value × Run)} (h : MoR w t vo vsh vr G) (e : Fin s t) : MoR w s vo vsh vr G :=
  ⟨by rw [e.out]; exact h.out, by rw [e.shifts]; exact h.shifts, by rw [e.runs]; exact h.runs, h.rds, by rw [e.runs]; exact h.eq⟩
theorem fin_of_norm {us : Bool} {keep : Nat} {text : Bs} {t1 : St} (h : norm t1 = norm (all us keep text)) (hk : 1 ≤ keep) : Fin t1 (model text.length (init us keep) text) := Fin.of_norm h (all_fin us keep text hk)
theorem find_run {H : List (Value × Run)} {l : List Run} {k : Nat} {r : Run} (he : H.map (·.2) = l) (hr : l[k]? = some r) : ∃ va, H[k]? = some (va, r) := by
  have h8 : (H.map (·.2))[k]? = some r := by rw [he]; exact hr
  rw [List.getElem?_map] at h8
  cases hg : H[k]? with
  | none => rw [hg] at h8; cases h8
  | some y => rw [hg] at h8; injection h8 with h8; exact ⟨y.1, by rw [← h8]⟩

set_option maxHeartbeats 16000000 in
set_option maxRecDepth 100000 in
theorem law3_any (w : World) (a0 : Option Addr) (c0 : Nat) (text : Bs) (us : Bool) (keep : Int) (hv : At w a0 text) (hc0 : text.length ≤ c0) (hn0 : a0 = none → c0 = 0) (hT : Tab w) (hlen : text.length ≤ 9223372036854775807) (hk1 : -9223372036854775808 ≤ keep) (hk2 : keep ≤ 9223372036854775807) :
    Calls Tryd.prog 3 #[.slice a0 text.length c0, .bool us, .int .i64 keep] w fun e w' => e = .returned (.bool true) ∧ Below w.heap.size w w' := by
  have HV : Hid (At w a0 text) := hv
  have HN0 : Hid (a0 = none → c0 = 0) := hn0
  clear hn0
  have HT : Hid (Tab w) := hT
  have h2w : 2 < w.heap.size := World.block_lt_of_cell? w ⟨2, 0, none⟩ (hT 0 0 rfl)
  clear hv hT
  obtain ⟨nl, hnl⟩ : ∃ nl, a0.isNone = nl := ⟨_, rfl⟩
  have e0 := fun w => neq_nil w a0 text.length c0 nl hnl
  obtain ⟨i0, hi, hz0, hz1, hz2⟩ := info_parts info5
  go_enter Tryd.func3, Tryd.ntmps3
  go_wp2_with fail
  go_fit (bytes5 a0 text.length c0 us keep w hlen)
  rintro e w' ⟨⟨b, rfl⟩, rfl⟩
  cases b
  · go_wp2
    go_ret
    exact ⟨rfl, Below.refl _ _⟩
  by_cases g0 : (text.length : Int) > 1048576
  · go_wp2
    go_ret
    exact ⟨rfl, Below.refl _ _⟩
  by_cases g3 : keep < 18
  · go_wp2
    go_ret
    exact ⟨rfl, Below.refl _ _⟩
  obtain ⟨kn, rfl⟩ : ∃ kn : Nat, keep = (kn : Int) := ⟨keep.toNat, by omega⟩
  have HC1 : Hid (∀ w2 : World, w2.heap[w'.heap.size]? = some (.cells (splice (List.replicate text.length (.int .u8 0)) 0 (cellsOf text)).toArray 5 (0, 0)) → SlB w2 w2.heap.size (.slice (some ⟨w'.heap.size, 0, none⟩) text.length text.length) text) := fun w2 h => slb_row _ rfl h
  go_upto_if 26 with fail
  go_cut [0] (fun x wx => (∃ a c, x = .slice a text.length c) ∧ SlB wx wx.heap.size x text ∧ Below w'.heap.size w' wx)
  case first => as_aux_lemma =>
    cases nl
    · go_wp2_with (first
        | (at_make; refine wpList_make_full _ rfl _ _ 22 rfl w'.heap.size 5 i0 (.int .u8 0) 1 Tryd.underlying22 hi hz0 hz1 .i64 .i64 _ _ text.length rfl rfl rfl rfl (by rw [hz2]; omega) (by unfold maxLen; omega) (Nat.le_refl _) ?_; intro w1 hown hgrow; have HB : Hid (MadeCopied text a0 w' w1) := made_copied text a0 w' w1 HV.out hown hgrow; clear hown hgrow)
        | (refine wpList_copy_splice rfl (.tmp 30) (.tmp 31) 22 22 rfl 5 Tryd.underlying22 size5 (some ⟨w'.heap.size, 0, none⟩) a0 text.length text.length text.length c0 rfl rfl w'.heap.size 0 (List.replicate text.length (.int .u8 0)) 5 HB.out.1 (cellsOf text) HB.out.2.2.1 HB.out.2.2.2.1 HB.out.2.2.2.2.1 HB.out.2.2.2.2.2 w'.heap.size w' HB.out.2.1 (Nat.le_refl _) ?_; intro w2 HG2 hB2))
      go_meet
      case rel => exact ⟨⟨_, _, rfl⟩, HC1.out w2 HG2.out, hB2⟩
    · have ha0 : a0 = none := by cases a0 with | none => rfl | some _ => cases hnl
      subst ha0
      go_wp2_with fail
      go_meet
      case rel =>
        have h2 : c0 = 0 := by first | exact HN0.out rfl | exact HN0.out trivial
        exact ⟨⟨_, _, rfl⟩, ⟨none, c0, rfl, hc0, .inl ⟨rfl, h2⟩⟩, Below.refl _ _⟩
  case rest => as_aux_lemma =>
    obtain ⟨⟨am, cm, rfl⟩, hS1, hB1⟩ := hcut
    have HS1 : Hid (SlB wc wc.heap.size (.slice am text.length cm) text) := hS1
    have HB1 : Hid (Below w'.heap.size w' wc) := hB1
    have hcm : text.length ≤ cm := by obtain ⟨_, _, hv, hc, _⟩ := hS1; injection hv with _ _ h3; omega
    clear hS1 hB1 e0 HC1 HV HN0
    obtain ⟨B1, hBB1⟩ : ∃ B1, wc.heap.size = B1 := ⟨_, rfl⟩
    have hB12 : 2 < B1 := by rw [← hBB1]; have := HB1.out.size; omega
    have HB1e : Hid (wc.heap.size = B1) := hBB1
    have HT1 : Hid (Tab wc) := HT.out.below HB1.out
    have HK : Hid (1 ≤ kn) := by show 1 ≤ kn; omega
    rw [hBB1] at HS1
    have HNEW : Hid (Calls Tryd.prog 6 #[.bool us, .int .i64 kn] wc fun e w' => e = .returned (.pointer (some ⟨B1 + 1, 0, none⟩)) ∧ WrV w' B1 (B1 + 1) B1 (init us kn) ∧ Below B1 wc w') := by
      have := new_any wc us kn
      rw [hBB1] at this
      exact this
    clear hBB1
    go_upto_region 12 with (go_at_call 6; refine HNEW.out.mono ?_; rintro e w2 ⟨rfl, hW2, hB2⟩; have HW2 : Hid _ := hW2; have HB2 : Hid _ := hB2; clear hW2 hB2)
    have HWR1 : Hid (Calls Tryd.prog 7 #[.pointer (some ⟨B1 + 1, 0, none⟩), .slice am text.length cm] w2 fun e w' => e = .returned (.tuple #[]) ∧ WPost w2 B1 (B1 + 1) B1 (all us kn text) w') := by
      have := write7_any w2 B1 (B1 + 1) B1 (init us kn) 0 (.slice am text.length cm) text HW2.out (good_init us kn HK.out) (by omega) (HS1.out.below HB2.out) (HT1.out.belowB hB12 HB2.out) hB12 (by simp [init]) (by simp [init]) (by show (kn : Int) ≤ _; omega)
      rw [fold_init_heads] at this
      exact this
    go_upto_region 13 with (go_at_call 7; refine HWR1.out.mono ?_; rintro e w3 ⟨rfl, t1, hW3, hn1, hs1, hB3⟩; have HW3 : Hid (WrV w3 B1 (B1 + 1) B1 t1) := hW3; have HN1 : Hid (norm t1 = norm (all us kn text)) := hn1; have HSH1 : Hid (ShOk t1) := hs1; have HB3 : Hid _ := hB3; clear hW3 hn1 hs1 hB3)
    have HFIN : Hid (Fin t1 (model text.length (init us kn) text)) := fin_of_norm HN1.out HK.out
    have hG1 : Good t1 text.length := (good_all us kn text HK.out (by omega)).of_norm HN1.out HSH1.out
    obtain ⟨q1, q2, q3, q4, q5, q6⟩ := good_bounds hG1 (by omega)
    have hh1 := all_head HN1.out
    have HH1 : Hid (t1.head = text.take 40 ∧ t1.tlen = text.length) := ⟨hh1.1, hh1.2.1⟩
    have hl1 : t1.head.length ≤ 1073741824 := by rw [hh1.1]; simp; omega
    clear hh1 hG1 HNEW HWR1
    have HS3 : Hid (SlB w3 B1 (.slice am text.length cm) text) := (HS1.out.below HB2.out).below HB3.out
    have HBX : Hid (Below w'.heap.size w' w3) := HB1.out.trans ((Below.mono HB2.out (by have := HB1.out.size; have := HB1e.out; omega)).trans (Below.mono HB3.out (by have := HB1.out.size; have := HB1e.out; omega)))
    have hB1w3 : B1 ≤ w3.heap.size := HW3.out.size
    have HST1 : Hid (Calls Tryd.prog 8 #[.pointer (some ⟨B1 + 1, 0, none⟩)] w3 fun e w' => ∃ x1 x2 x3 x4 x5 x6 x7 x8 x9 x10 x11 x12 G, e = .returned (.agg #[.slice x1 t1.out.length x2, .int .i64 t1.spaces, .bool t1.full, .bool t1.inRun, .bool t1.joins, .bool t1.und, .bool t1.ex, .bool t1.mark, .int .i64 t1.length, .slice x3 t1.short.length x4, .int .i64 t1.run.zeros, .slice x5 t1.run.kept.length x6, .int .i64 t1.run.more, .bool t1.run.sticky, .slice x7 t1.head.length x8, .int .i64 t1.tlen, .slice x9 t1.shifts.length x10, .slice x11 t1.runs.length x12]) ∧ StR w' t1 (.slice x1 t1.out.length x2) (.slice x3 t1.short.length x4) (.slice x5 t1.run.kept.length x6) (.slice x7 t1.head.length x8) (.slice x9 t1.shifts.length x10) (.slice x11 t1.runs.length x12) G ∧ Below w3.heap.size w3 w') := state_sl w3 B1 (B1 + 1) B1 t1 HW3.out q1 q2 q3 hl1 q4 q5 q6
    go_upto_region 14 with (first
      | (go_at_call 8; refine HST1.out.mono ?_; rintro e w7 ⟨x1, x2, x3, x4, x5, x6, x7, x8, x9, x10, x11, x12, G, rfl, hR7, hB7⟩; have HR7 : Hid (StR w7 t1 (.slice x1 t1.out.length x2) (.slice x3 t1.short.length x4) (.slice x5 t1.run.kept.length x6) (.slice x7 t1.head.length x8) (.slice x9 t1.shifts.length x10) (.slice x11 t1.runs.length x12) G) := hR7; have HB7 : Hid (Below w3.heap.size w3 w7) := hB7; clear hR7 hB7)
      | (refine wpList_store_box rfl (.tmp 9) (.tmp 41) rfl w7 [.slice x1 t1.out.length x2, .int .i64 t1.spaces, .bool t1.full, .bool t1.inRun, .bool t1.joins, .bool t1.und, .bool t1.ex, .bool t1.mark, .int .i64 t1.length, .slice x3 t1.short.length x4, .int .i64 t1.run.zeros, .slice x5 t1.run.kept.length x6, .int .i64 t1.run.more, .bool t1.run.sticky, .slice x7 t1.head.length x8, .int .i64 t1.tlen, .slice x9 t1.shifts.length x10, .slice x11 t1.runs.length x12] rfl rfl rfl (by intro u hu; simp only [List.mem_cons, List.not_mem_nil, or_false] at hu; rcases hu with rfl | rfl | rfl | rfl | rfl | rfl | rfl | rfl | rfl | rfl | rfl | rfl | rfl | rfl | rfl | rfl | rfl | rfl <;> rfl) ?_; intro W7 hW7 hL7; have HW7 : Hid (Below w7.heap.size w7 W7) := hW7; have HL7 : Hid (W7.rangeAt w7.heap.size 0 [.slice x1 t1.out.length x2, .int .i64 t1.spaces, .bool t1.full, .bool t1.inRun, .bool t1.joins, .bool t1.und, .bool t1.ex, .bool t1.mark, .int .i64 t1.length, .slice x3 t1.short.length x4, .int .i64 t1.run.zeros, .slice x5 t1.run.kept.length x6, .int .i64 t1.run.more, .bool t1.run.sticky, .slice x7 t1.head.length x8, .int .i64 t1.tlen, .slice x9 t1.shifts.length x10, .slice x11 t1.runs.length x12]) := hL7; clear hW7 hL7))
    have HB7a : Hid (Below w3.heap.size w3 W7) := HB7.out.trans (Below.mono HW7.out HB7.out.size)
    have HS7 : Hid (SlB W7 W7.heap.size (.slice am text.length cm) text) := (HS3.out.below (Below.mono HB7a.out hB1w3)).mono (Nat.le_trans hB1w3 HB7a.out.size)
    have HMOD : Hid (Calls Tryd.prog 9 #[.slice am text.length cm, .bool us, .int .i64 kn] W7 fun e w' => ∃ y1 y2 y3 y4 y5 y6 G2, e = .returned (.agg #[.slice y1 t1.out.length y2, .int .i64 t1.spaces, .bool t1.full, .bool t1.inRun, .slice y3 t1.shifts.length y4, .slice y5 t1.runs.length y6]) ∧ MoR w' t1 (.slice y1 t1.out.length y2) (.slice y3 t1.shifts.length y4) (.slice y5 t1.runs.length y6) G2 ∧ Below W7.heap.size W7 w') := by
      refine (model_in W7 (.slice am text.length cm) text us kn (model text.length (init us kn) text) rfl HS7.out (by omega) (by omega)).mono ?_
      rintro e w8 ⟨vo, vsh, vr, G2, rfl, hR, hB⟩
      have hR1 := hR.fin HFIN.out
      have hF := HFIN.out
      obtain ⟨y1, y2, rfl, _⟩ := hR1.out.len
      obtain ⟨y3, y4, rfl, _⟩ := row_form hR1.shifts
      obtain ⟨y5, y6, rfl, _⟩ := row_form hR1.runs
      refine ⟨y1, y2, y3, y4, y5, y6, G2, ?_, hR1, hB⟩
      rw [hF.spaces, hF.full, hF.inRun]
    go_upto_region 15 with (first
      | (go_at_call 9; refine HMOD.out.mono ?_; rintro e w8 ⟨y1, y2, y3, y4, y5, y6, G2, rfl, hR8, hB8⟩; have HR8 : Hid (MoR w8 t1 (.slice y1 t1.out.length y2) (.slice y3 t1.shifts.length y4) (.slice y5 t1.runs.length y6) G2) := hR8; have HB8 : Hid (Below W7.heap.size W7 w8) := hB8; clear hR8 hB8)
      | (refine wpList_store_new rfl 37 #[.slice none 0 0, .int .i64 0, .bool false, .bool false, .slice none 0 0, .slice none 0 0] (.tmp 10) (.tmp 45) rfl w8 [.slice y1 t1.out.length y2, .int .i64 t1.spaces, .bool t1.full, .bool t1.inRun, .slice y3 t1.shifts.length y4, .slice y5 t1.runs.length y6] rfl rfl rfl size37 (by intro u hu; simp only [List.mem_cons, List.not_mem_nil, or_false] at hu; rcases hu with rfl | rfl | rfl | rfl | rfl | rfl <;> rfl) ?_; intro W8 hW8 hL8; have HW8 : Hid (Below w8.heap.size w8 W8) := hW8; have HL8 : Hid (W8.rangeAt w8.heap.size 0 [.slice y1 t1.out.length y2, .int .i64 t1.spaces, .bool t1.full, .bool t1.inRun, .slice y3 t1.shifts.length y4, .slice y5 t1.runs.length y6]) := hL8; clear hW8 hL8))
    clear HMOD HST1
    obtain ⟨P, hP⟩ : ∃ P : World → Prop, P = fun W => Below W8.heap.size W8 W := ⟨_, rfl⟩
    have HBP : Hid (P W8) := by show P W8; rw [hP]; exact Below.refl _ _
    have HPt : Hid (∀ W W', P W → Below W.heap.size W W' → P W') := by
      show ∀ W W', _
      intro W W' h8 h9
      rw [hP] at h8 ⊢
      exact h8.trans (Below.mono h9 h8.size)
    have HPb : Hid (∀ W, P W → W.cell? ⟨w7.heap.size, 0, none⟩ = some (.slice x1 t1.out.length x2) ∧ W.cell? ⟨w7.heap.size, 1, none⟩ = some (.int .i64 t1.spaces) ∧ W.cell? ⟨w7.heap.size, 2, none⟩ = some (.bool t1.full) ∧ W.cell? ⟨w7.heap.size, 3, none⟩ = some (.bool t1.inRun) ∧ W.cell? ⟨w7.heap.size, 14, none⟩ = some (.slice x7 t1.head.length x8) ∧ W.cell? ⟨w7.heap.size, 15, none⟩ = some (.int .i64 t1.tlen) ∧ W.cell? ⟨w7.heap.size, 16, none⟩ = some (.slice x9 t1.shifts.length x10) ∧ W.cell? ⟨w7.heap.size, 17, none⟩ = some (.slice x11 t1.runs.length x12) ∧ W.cell? ⟨w8.heap.size, 0, none⟩ = some (.slice y1 t1.out.length y2) ∧ W.cell? ⟨w8.heap.size, 1, none⟩ = some (.int .i64 t1.spaces) ∧ W.cell? ⟨w8.heap.size, 2, none⟩ = some (.bool t1.full) ∧ W.cell? ⟨w8.heap.size, 3, none⟩ = some (.bool t1.inRun) ∧ W.cell? ⟨w8.heap.size, 4, none⟩ = some (.slice y3 t1.shifts.length y4) ∧ W.cell? ⟨w8.heap.size, 5, none⟩ = some (.slice y5 t1.runs.length y6)) := by
      show ∀ W, P W → _
      intro W hW
      rw [hP] at hW
      have r1 := range_below (range_below (range_below HL7.out HB8.out) HW8.out) hW
      have r2 := range_below HL8.out hW
      exact ⟨r1 0 _ rfl, r1 1 _ rfl, r1 2 _ rfl, r1 3 _ rfl, r1 14 _ rfl, r1 15 _ rfl, r1 16 _ rfl, r1 17 _ rfl, r2 0 _ rfl, r2 1 _ rfl, r2 2 _ rfl, r2 3 _ rfl, r2 4 _ rfl, r2 5 _ rfl⟩
    have HRA : Hid (∀ W, P W → StR W t1 (.slice x1 t1.out.length x2) (.slice x3 t1.short.length x4) (.slice x5 t1.run.kept.length x6) (.slice x7 t1.head.length x8) (.slice x9 t1.shifts.length x10) (.slice x11 t1.runs.length x12) G) := by
      show ∀ W, P W → _
      intro W hW
      rw [hP] at hW
      exact (((HR7.out.below HW7.out).below HB8.out).below HW8.out).below hW
    have HRB : Hid (∀ W, P W → MoR W t1 (.slice y1 t1.out.length y2) (.slice y3 t1.shifts.length y4) (.slice y5 t1.runs.length y6) G2) := by
      show ∀ W, P W → _
      intro W hW
      rw [hP] at hW
      exact (HR8.out.below HW8.out).below hW
    have HSX : Hid (∀ W, P W → Rd W (.slice am text.length cm) text) := by
      show ∀ W, P W → _
      intro W hW
      rw [hP] at hW
      exact (((HS7.out.rd).below HB8.out).below HW8.out).below hW
    have HEND : Hid (∀ W, P W → Below w'.heap.size w' W) := by
      show ∀ W, P W → _
      intro W hW
      rw [hP] at hW
      have s1 := HBX.out.size
      have s2 := HB7a.out.size
      have s3 := HB8.out.size
      have s4 := HW8.out.size
      exact (((HBX.out.trans (Below.mono HB7a.out (by omega))).trans (Below.mono HB8.out (by omega))).trans (Below.mono HW8.out (by omega))).trans (Below.mono hW (by omega))
    clear hP HL7 HL8 HR7 HR8 HB7 HB8 HW7 HW8 HS7 HB7a HS3 HBX HS1 HB1 HB2 HB3 HW2 HW3 HT HT1 HN1 HFIN
    obtain ⟨k0, k1, k2, k3, k14, k15, k16, k17, j0, j1, j2, j3, j4, j5⟩ := HPb.out W8 HBP.out
    have htl : ((t1.tlen : Int) == (text.length : Int)) = true := by rw [HH1.out.2]; simp
    go_upto_if 72 with (go_at_call 10; refine (same_any _ (.slice x1 t1.out.length x2) (.slice y1 t1.out.length y2) t1.out (HRA.out _ HBP.out).out (HRB.out _ HBP.out).out q1).mono ?_; rintro e w9 ⟨rfl, hq2⟩; have HB2 : Hid (P w9) := HPt.out _ _ HBP.out hq2; clear hq2 HBP; have HBP := HB2; clear HB2; clear k0 k1 k2 k3 k14 k15 k16 k17 j0 j1 j2 j3 j4 j5; obtain ⟨k0, k1, k2, k3, k14, k15, k16, k17, j0, j1, j2, j3, j4, j5⟩ := HPb.out w9 HBP.out)
    go_upto_region 17 with fail
    have HKP : Hid (∀ W, P W → W.cell? ⟨w7.heap.size, 14, none⟩ = some (.slice x7 t1.head.length x8) ∧ W.cell? ⟨w7.heap.size, 15, none⟩ = some (.int .i64 t1.tlen)) := by
      show ∀ W, P W → _
      intro W hW
      obtain ⟨k0, k1, k2, k3, k14, k15, k16, k17, j0, j1, j2, j3, j4, j5⟩ := HPb.out W hW
      exact ⟨k14, k15⟩
    go_cut [85] (fun x wx => x = .bool false ∧ P wx)
    case first => as_aux_lemma =>
      have HBd : Hid (P w9.drew) := HPt.out _ _ HBP.out ((Below.refl _ _).drew)
      go_region_held3 (fun W => W.cell? ⟨w7.heap.size, 14, none⟩ = some (.slice x7 t1.head.length x8) ∧ W.cell? ⟨w7.heap.size, 15, none⟩ = some (.int .i64 t1.tlen))
        (first | (exact HKP.out _ HBd.out))
        ((first
          | (go_at_call 11; refine (prefix_any _ (.slice am text.length cm) text (HSX.out _ HBd.out) (by omega)).mono ?_; rintro e w10 ⟨vp, rfl, hvp, rfl⟩; have HVP : Hid (Rd _ vp (text.take 40)) := hvp; clear hvp)
          | (go_at_call 10; refine (same_any _ (.slice x7 t1.head.length x8) vp (text.take 40) (by have := (HRA.out _ HBd.out).head; rw [HH1.out.1] at this ⊢; exact this) HVP.out (by simp; omega)).mono ?_; rintro e w11 ⟨rfl, hq2⟩; have HB2 : Hid (P w11) := HPt.out _ _ HBd.out hq2; clear hq2 HBd; have HBd := HB2; clear HB2)))
      all_goals (try go_wp2)
      all_goals go_meet
      all_goals exact ⟨by rw [bne, htl]; rfl, HBd.out⟩
    case rest => as_aux_lemma =>
      obtain ⟨rfl, hbp⟩ := hcut
      clear HBP k0 k1 k2 k3 k14 k15 k16 k17 j0 j1 j2 j3 j4 j5
      have HBP : Hid _ := hbp
      clear hbp
      obtain ⟨k0, k1, k2, k3, k14, k15, k16, k17, j0, j1, j2, j3, j4, j5⟩ := HPb.out wc HBP.out
      go_upto_block 0 with fail
      go_cut [11] (fun _ wx => P wx)
      case first => as_aux_lemma =>
        go_wp2_with fail
        go_loopw [11] (fun i wr => ∃ k : Nat, i = .int .i64 k ∧ k ≤ t1.shifts.length ∧ Hid (P wr)) (fun i _ => t1.shifts.length - (intOf i).toNat)
        case atStart => exact ⟨0, rfl, Nat.zero_le _, HBP⟩
        case round => as_aux_lemma =>
          obtain ⟨k, rfl, hkl, HBr⟩ := hrel
          clear HBP k0 k1 k2 k3 k14 k15 k16 k17 j0 j1 j2 j3 j4 j5
          obtain ⟨k0, k1, k2, k3, k14, k15, k16, k17, j0, j1, j2, j3, j4, j5⟩ := HPb.out wr HBr.out
          by_cases hlt : (k : Int) < (t1.shifts.length : Int)
          · obtain ⟨x, hx⟩ : ∃ x, t1.shifts[k]? = some x := ⟨_, List.getElem?_eq_getElem (by omega)⟩
            obtain ⟨g1, rfl, e1, e2⟩ := own_shE (HRA.out _ HBr.out).shifts hx (Below.refl _ _)
            obtain ⟨g2, rfl, e3, e4⟩ := own_shE (HRB.out _ HBr.out).shifts hx (Below.refl _ _)
            go_wp2_with fail
            go_quiet (fail)
            go_wp2_with fail
            exact ⟨⟨k + 1, by simp, by omega, (HPt.out _ _ HBr.out (drewN_below _ _ _) : P _)⟩, by simp [intOf]; omega⟩
          · go_wp2_with fail
            go_meet
            case rel => exact HBr.out
      case rest => as_aux_lemma =>
        have HBP2 : Hid _ := hcut
        clear hcut HBP k0 k1 k2 k3 k14 k15 k16 k17 j0 j1 j2 j3 j4 j5
        obtain ⟨k0, k1, k2, k3, k14, k15, k16, k17, j0, j1, j2, j3, j4, j5⟩ := HPb.out wc HBP2.out
        go_wp2_with fail
        go_loopw [12] (fun i wr => ∃ k : Nat, i = .int .i64 k ∧ k ≤ t1.runs.length ∧ Hid (P wr)) (fun i _ => t1.runs.length - (intOf i).toNat)
        case atStart => exact ⟨0, rfl, Nat.zero_le _, HBP2⟩
        case round => as_aux_lemma =>
          obtain ⟨k, rfl, hkl, HBr⟩ := hrel
          clear HBP2 k0 k1 k2 k3 k14 k15 k16 k17 j0 j1 j2 j3 j4 j5
          obtain ⟨k0, k1, k2, k3, k14, k15, k16, k17, j0, j1, j2, j3, j4, j5⟩ := HPb.out wr HBr.out
          by_cases hlt : (k : Int) < (t1.runs.length : Int)
          · obtain ⟨r, hr⟩ : ∃ r, t1.runs[k]? = some r := ⟨_, List.getElem?_eq_getElem (by omega)⟩
            have h7r := q6 r (List.mem_of_getElem? hr)
            have hRA := HRA.out _ HBr.out
            have hRB := HRB.out _ HBr.out
            have hl1' : t1.runs.length = G.length := by have := congrArg List.length hRA.eq; simpa using this.symm
            have hl2' : t1.runs.length = G2.length := by have := congrArg List.length hRB.eq; simpa using this.symm
            obtain ⟨va, hva⟩ := find_run hRA.eq hr
            obtain ⟨vb, hvb⟩ := find_run hRB.eq hr
            obtain ⟨g1, rfl, e1, e2, e3, e4⟩ := own_runE hRA.runs hl1' hva (Below.refl _ _)
            obtain ⟨g2, rfl, f1, f2, f3, f4⟩ := own_runE hRB.runs hl2' hvb (Below.refl _ _)
            obtain ⟨aa, cc, hvaa, _⟩ := (hRA.rds _ (List.mem_of_getElem? hva)).len
            obtain ⟨ab, cb, hvbb, _⟩ := (hRB.rds _ (List.mem_of_getElem? hvb)).len
            dsimp only at hvaa hvbb e1 e2 e3 e4 f1 f2 f3 f4
            subst hvaa hvbb
            have HRa : Hid (∀ W, P W → Rd W (.slice aa r.kept.length cc) r.kept) := by
              show ∀ W, P W → _
              intro W hW
              exact (HRA.out W hW).rds _ (List.mem_of_getElem? hva)
            have HRb : Hid (∀ W, P W → Rd W (.slice ab r.kept.length cb) r.kept) := by
              show ∀ W, P W → _
              intro W hW
              exact (HRB.out W hW).rds _ (List.mem_of_getElem? hvb)
            have HCb : Hid (∀ W, P W → W.cell? ⟨g2, k * 4, none⟩ = some (.int .i64 r.zeros) ∧ W.cell? ⟨g2, k * 4 + 1, none⟩ = some (.slice ab r.kept.length cb) ∧ W.cell? ⟨g2, k * 4 + 2, none⟩ = some (.int .i64 r.more) ∧ W.cell? ⟨g2, k * 4 + 3, none⟩ = some (.bool r.sticky)) := by
              show ∀ W, P W → _
              intro W hW
              obtain ⟨g2', he2, v1, v2, v3, v4⟩ := own_runE (HRB.out W hW).runs hl2' hvb (Below.refl _ _)
              injection he2 with he2
              injection he2 with he2
              subst he2
              exact ⟨v1, v2, v3, v4⟩
            clear hva hvb hr hRA hRB hl1' hl2' f1 f2 f3 f4
            have hk0 : (0 : Int) ≤ (k : Int) := by omega
            go_upto_region 31 with (first
              | (refine wpList_store_new rfl 28 #[.int .i64 0, .slice none 0 0, .int .i64 0, .bool false] (.tmp 13) (.tmp 148) rfl wr [.int .i64 r.zeros, .slice aa r.kept.length cc, .int .i64 r.more, .bool r.sticky] rfl rfl rfl size28 (by intro u hu; simp only [List.mem_cons, List.not_mem_nil, or_false] at hu; rcases hu with rfl | rfl | rfl | rfl <;> rfl) ?_; intro W1 hB1 hR1; have HP1 : Hid (P W1) := HPt.out _ _ HBr.out hB1; have HR1 : Hid (W1.rangeAt wr.heap.size 0 [.int .i64 r.zeros, .slice aa r.kept.length cc, .int .i64 r.more, .bool r.sticky]) := hR1; clear hB1 hR1; clear k0 k1 k2 k3 k14 k15 k16 k17 j0 j1 j2 j3 j4 j5; obtain ⟨k0, k1, k2, k3, k14, k15, k16, k17, j0, j1, j2, j3, j4, j5⟩ := HPb.out W1 HP1.out; obtain ⟨f1, f2, f3, f4⟩ := HCb.out W1 HP1.out)
              | (refine wpList_store_new rfl 46 #[.int .i64 0, .slice none 0 0, .int .i64 0, .bool false] (.tmp 14) (.tmp 153) rfl W1 [.int .i64 r.zeros, .slice ab r.kept.length cb, .int .i64 r.more, .bool r.sticky] rfl rfl rfl size46 (by intro u hu; simp only [List.mem_cons, List.not_mem_nil, or_false] at hu; rcases hu with rfl | rfl | rfl | rfl <;> rfl) ?_; intro W2 hB2 hR2; have HP2 : Hid (P W2) := HPt.out _ _ HP1.out hB2; have HR1b : Hid (W2.rangeAt wr.heap.size 0 [.int .i64 r.zeros, .slice aa r.kept.length cc, .int .i64 r.more, .bool r.sticky]) := range_below HR1.out hB2; have HR2 : Hid (W2.rangeAt W1.heap.size 0 [.int .i64 r.zeros, .slice ab r.kept.length cb, .int .i64 r.more, .bool r.sticky]) := hR2; clear hB2 hR2; clear k0 k1 k2 k3 k14 k15 k16 k17 j0 j1 j2 j3 j4 j5))
            have HQ : Hid (∀ W, Below W2.heap.size W2 W → (W.cell? ⟨wr.heap.size, 0, none⟩ = some (.int .i64 r.zeros) ∧ W.cell? ⟨wr.heap.size, 1, none⟩ = some (.slice aa r.kept.length cc) ∧ W.cell? ⟨wr.heap.size, 2, none⟩ = some (.int .i64 r.more) ∧ W.cell? ⟨wr.heap.size, 3, none⟩ = some (.bool r.sticky)) ∧ W.cell? ⟨W1.heap.size, 0, none⟩ = some (.int .i64 r.zeros) ∧ W.cell? ⟨W1.heap.size, 1, none⟩ = some (.slice ab r.kept.length cb) ∧ W.cell? ⟨W1.heap.size, 2, none⟩ = some (.int .i64 r.more) ∧ W.cell? ⟨W1.heap.size, 3, none⟩ = some (.bool r.sticky)) := by
              show ∀ W, Below W2.heap.size W2 W → _
              intro W hW
              have r1 := range_below HR1b.out hW
              have r2 := range_below HR2.out hW
              exact ⟨⟨r1 0 _ rfl, r1 1 _ rfl, r1 2 _ rfl, r1 3 _ rfl⟩, r2 0 _ rfl, r2 1 _ rfl, r2 2 _ rfl, r2 3 _ rfl⟩
            obtain ⟨⟨m0, m1, m2, m3⟩, n0, n1, n2, n3⟩ := HQ.out W2 (Below.refl _ _)
            go_upto_if 180 with (go_at_call 10; refine (same_any _ (.slice aa r.kept.length cc) (.slice ab r.kept.length cb) r.kept (HRa.out _ HP2.out) (HRb.out _ HP2.out) h7r).mono ?_; rintro e w5 ⟨rfl, hq⟩; have HP5 : Hid (P w5) := HPt.out _ _ HP2.out hq; clear m0 m1 m2 m3 n0 n1 n2 n3; obtain ⟨⟨m0, m1, m2, m3⟩, n0, n1, n2, n3⟩ := HQ.out w5 hq; clear hq)
            go_wp2_with fail
            exact ⟨⟨k + 1, by simp, by omega, HP5⟩, by simp [intOf]; omega⟩
          · go_wp2_with fail
            go_ret
            exact ⟨rfl, HEND.out _ HBr.out⟩
end Go.Proofs.Qxb6616348aDoor
