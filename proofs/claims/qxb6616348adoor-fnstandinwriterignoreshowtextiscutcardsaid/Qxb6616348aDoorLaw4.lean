import Derived.Test.Qxb6616348aDoorLw
import Derived.Test.Qxb6616348aDoorState8
set_option linter.unusedSimpArgs false
set_option linter.unusedVariables false
namespace Go.Proofs.Qxb6616348aDoor
open Go.RowKit

set_option maxHeartbeats 8000000 in
set_option maxRecDepth 100000 in
theorem law4_any (w : World) (a0 : Option Addr) (c0 : Nat) (text : Bs) (cut : Int) (us : Bool) (keep : Int) (hv : At w a0 text) (hc0 : text.length ≤ c0) (hn0 : a0 = none → c0 = 0) (hT : Tab w) (hlen : text.length ≤ 9223372036854775807) (hc1 : -9223372036854775808 ≤ cut) (hc2 : cut ≤ 9223372036854775807) (hk1 : -9223372036854775808 ≤ keep) (hk2 : keep ≤ 9223372036854775807) :
    Calls Tryd.prog 4 #[.slice a0 text.length c0, .int .i64 cut, .bool us, .int .i64 keep] w fun e w' => e = .returned (.bool true) ∧ Below w.heap.size w w' := by
  have HV : Hid (At w a0 text) := hv
  have HN0 : Hid (a0 = none → c0 = 0) := hn0
  clear hn0
  have HT : Hid (Tab w) := hT
  have h2w : 2 < w.heap.size := World.block_lt_of_cell? w ⟨2, 0, none⟩ (hT 0 0 rfl)
  clear hv hT
  obtain ⟨nl, hnl⟩ : ∃ nl, a0.isNone = nl := ⟨_, rfl⟩
  have e0 := fun w => neq_nil w a0 text.length c0 nl hnl
  obtain ⟨i0, hi, hz0, hz1, hz2⟩ := info_parts info5
  go_enter Tryd.func4, Tryd.ntmps4
  go_wp2_with fail
  go_fit (bytes12 a0 text.length c0 cut us keep w hlen)
  rintro e w' ⟨⟨b, rfl⟩, rfl⟩
  cases b
  · go_wp2
    go_ret
    exact ⟨rfl, Below.refl _ _⟩
  by_cases g0 : (text.length : Int) > 1048576
  · go_wp2
    go_ret
    exact ⟨rfl, Below.refl _ _⟩
  by_cases g1 : cut < 0
  · go_wp2
    go_ret
    exact ⟨rfl, Below.refl _ _⟩
  by_cases g2 : cut > (text.length : Int)
  · go_wp2
    go_ret
    exact ⟨rfl, Below.refl _ _⟩
  by_cases g3 : keep < 1
  · go_wp2
    go_ret
    exact ⟨rfl, Below.refl _ _⟩
  obtain ⟨cn, rfl⟩ : ∃ cn : Nat, cut = (cn : Int) := ⟨cut.toNat, by omega⟩
  obtain ⟨kn, rfl⟩ : ∃ kn : Nat, keep = (kn : Int) := ⟨keep.toNat, by omega⟩
  have HC1 : Hid (∀ w2 : World, w2.heap[w'.heap.size]? = some (.cells (splice (List.replicate text.length (.int .u8 0)) 0 (cellsOf text)).toArray 5 (0, 0)) → SlB w2 w2.heap.size (.slice (some ⟨w'.heap.size, 0, none⟩) text.length text.length) text) := fun w2 h => slb_row _ rfl h
  go_upto_if 34 with fail
  go_cut [0] (fun x wx => (∃ a c, x = .slice a text.length c) ∧ SlB wx wx.heap.size x text ∧ Below w'.heap.size w' wx)
  case first =>
    cases nl
    · go_wp2_with (first
        | (at_make; refine wpList_make_full _ rfl _ _ 22 rfl w'.heap.size 5 i0 (.int .u8 0) 1 Tryd.underlying22 hi hz0 hz1 .i64 .i64 _ _ text.length rfl rfl rfl rfl (by rw [hz2]; omega) (by unfold maxLen; omega) (Nat.le_refl _) ?_; intro w1 hown hgrow; have HB : Hid (MadeCopied text a0 w' w1) := made_copied text a0 w' w1 HV.out hown hgrow; clear hown hgrow)
        | (refine wpList_copy_splice rfl (.tmp 38) (.tmp 39) 22 22 rfl 5 Tryd.underlying22 size5 (some ⟨w'.heap.size, 0, none⟩) a0 text.length text.length text.length c0 rfl rfl w'.heap.size 0 (List.replicate text.length (.int .u8 0)) 5 HB.out.1 (cellsOf text) HB.out.2.2.1 HB.out.2.2.2.1 HB.out.2.2.2.2.1 HB.out.2.2.2.2.2 w'.heap.size w' HB.out.2.1 (Nat.le_refl _) ?_; intro w2 HG2 hB2))
      go_meet
      case rel => exact ⟨⟨_, _, rfl⟩, HC1.out w2 HG2.out, hB2⟩
    · have ha0 : a0 = none := by cases a0 with | none => rfl | some _ => cases hnl
      subst ha0
      go_wp2_with fail
      go_meet
      case rel =>
        have h2 : c0 = 0 := by first | exact HN0.out rfl | exact HN0.out trivial
        exact ⟨⟨_, _, rfl⟩, ⟨none, c0, rfl, hc0, .inl ⟨rfl, h2⟩⟩, Below.refl _ _⟩
  case rest =>
    obtain ⟨⟨am, cm, rfl⟩, hS1, hB1⟩ := hcut
    have HS1 : Hid (SlB wc wc.heap.size (.slice am text.length cm) text) := hS1
    have HB1 : Hid (Below w'.heap.size w' wc) := hB1
    have hcm : text.length ≤ cm := by obtain ⟨_, _, hv, hc, _⟩ := hS1; injection hv with _ _ h3; omega
    clear hS1 hB1 e0 HC1 HV HN0
    obtain ⟨B1, hBB1⟩ : ∃ B1, wc.heap.size = B1 := ⟨_, rfl⟩
    have hB12 : 2 < B1 := by rw [← hBB1]; have := HB1.out.size; omega
    have HB1e : Hid (wc.heap.size = B1) := hBB1
    have HT1 : Hid (Tab wc) := HT.out.below HB1.out
    have HK : Hid (1 ≤ kn) := by show 1 ≤ kn; omega
    rw [hBB1] at HS1
    have HNEW : Hid (Calls Tryd.prog 6 #[.bool us, .int .i64 kn] wc fun e w' => e = .returned (.pointer (some ⟨B1 + 1, 0, none⟩)) ∧ WrV w' B1 (B1 + 1) B1 (init us kn) ∧ Below B1 wc w') := by
      have := new_any wc us kn
      rw [hBB1] at this
      exact this
    clear hBB1
    go_upto_region 14 with (go_at_call 6; refine HNEW.out.mono ?_; rintro e w2 ⟨rfl, hW2, hB2⟩; have HW2 : Hid _ := hW2; have HB2 : Hid _ := hB2; clear hW2 hB2)
    have HWR1 : Hid (Calls Tryd.prog 7 #[.pointer (some ⟨B1 + 1, 0, none⟩), .slice am text.length cm] w2 fun e w' => e = .returned (.tuple #[]) ∧ WPost w2 B1 (B1 + 1) B1 (all us kn text) w') := by
      have := write7_any w2 B1 (B1 + 1) B1 (init us kn) 0 (.slice am text.length cm) text HW2.out (good_init us kn HK.out) (by omega) (HS1.out.below HB2.out) (HT1.out.belowB hB12 HB2.out) hB12 (by simp [init]) (by simp [init]) (by show (kn : Int) ≤ _; omega)
      rw [fold_init_heads] at this
      exact this
    go_upto_region 15 with (go_at_call 7; refine HWR1.out.mono ?_; rintro e w3 ⟨rfl, t1, hW3, hn1, hs1, hB3⟩; have HW3 : Hid (WrV w3 B1 (B1 + 1) B1 t1) := hW3; have HN1 : Hid (norm t1 = norm (all us kn text)) := hn1; have HSH1 : Hid (ShOk t1) := hs1; have HB3 : Hid _ := hB3; clear hW3 hn1 hs1 hB3)
    obtain ⟨B2, hBB2⟩ : ∃ B2, w3.heap.size = B2 := ⟨_, rfl⟩
    have HB2e : Hid (w3.heap.size = B2) := hBB2
    have hB22 : B1 ≤ B2 := by
      have h5 := HB3.out.size
      have h6 := HB2.out.size
      have h7 := HB1e.out
      omega
    have HNEW2 : Hid (Calls Tryd.prog 6 #[.bool us, .int .i64 kn] w3 fun e w' => e = .returned (.pointer (some ⟨B2 + 1, 0, none⟩)) ∧ WrV w' B2 (B2 + 1) B2 (init us kn) ∧ Below B2 w3 w') := by
      have := new_any w3 us kn
      rw [hBB2] at this
      exact this
    have HBX : Hid (Below w'.heap.size w' w3) := HB1.out.trans ((Below.mono HB2.out (by have := HB1.out.size; have := HB1e.out; omega)).trans (Below.mono HB3.out (by have := HB1.out.size; have := HB1e.out; omega)))
    clear hBB2
    have HT3 : Hid (Tab w3) := (HT1.out.belowB hB12 HB2.out).belowB hB12 HB3.out
    have HS3 : Hid (SlB w3 B2 (.slice am text.length cm) text) := ((HS1.out.below HB2.out).below HB3.out).mono hB22
    go_upto_region 16 with (go_at_call 6; refine HNEW2.out.mono ?_; rintro e w4 ⟨rfl, hW4, hB4⟩; have HW4 : Hid _ := hW4; have HB4 : Hid _ := hB4; clear hW4 hB4)
    have hcl : cn ≤ text.length := by omega
    have hccm : (cn : Int) ≤ (cm : Int) := by omega
    have HWR2 : Hid (Calls Tryd.prog 7 #[.pointer (some ⟨B2 + 1, 0, none⟩), .slice am cn cm] w4 fun e w' => e = .returned (.tuple #[]) ∧ WPost w4 B2 (B2 + 1) B2 (all us kn (text.take cn)) w') := by
      have := write7_any w4 B2 (B2 + 1) B2 (init us kn) 0 (.slice am cn cm) (text.take cn) HW4.out (good_init us kn HK.out) (by simp; omega) ((HS3.out.below HB4.out).take cn hcl) (HT3.out.belowB (by omega) HB4.out) (by omega) (by simp [init]) (by simp [init]) (by show (kn : Int) ≤ _; omega)
      rw [fold_init_heads] at this
      exact this
    go_upto_region 17 with (go_at_call 7; refine HWR2.out.mono ?_; rintro e w5 ⟨rfl, t2, hW5, hn2, hs2, hB5⟩; have HW5 : Hid _ := hW5; have HN2 : Hid (norm t2 = norm (all us kn (text.take cn))) := hn2; have HSH2 : Hid (ShOk t2) := hs2; have HB5 : Hid _ := hB5; clear hW5 hn2 hs2 hB5)
    have HWR3 : Hid (∀ x n' c', n' = text.length - cn → SlB w5 B2 (.slice x n' c') (text.drop cn) → Calls Tryd.prog 7 #[.pointer (some ⟨B2 + 1, 0, none⟩), .slice x n' c'] w5 fun e w' => e = .returned (.tuple #[]) ∧ WPost w5 B2 (B2 + 1) B2 (all us kn text) w') := by
      show ∀ x n' c', _
      intro x n' c' hn' hsl
      obtain ⟨hh1, hh2, hh3⟩ := all_head HN2.out
      have hG2 : Good t2 (text.take cn).length := (good_all us kn (text.take cn) HK.out (by simp; omega)).of_norm HN2.out HSH2.out
      have := write7_any w5 B2 (B2 + 1) B2 t2 (text.take cn).length (.slice x n' c') (text.drop cn) HW5.out hG2 (by simp; omega) hsl ((HT3.out.belowB (by omega) HB4.out).belowB (by omega) HB5.out) (by omega) (by rw [hh1]; simp; omega) (by rw [hh2]; simp; omega) (by rw [hh3]; omega)
      refine this.mono ?_
      rintro e w6 ⟨rfl, t3, h1, h2, h3, h4⟩
      refine ⟨rfl, t3, h1, ?_, h3, h4⟩
      rw [h2, fold_two us kn (text.take cn) (text.drop cn) t2 HN2.out, List.take_append_drop]
    have HS5 : Hid (SlB w5 B2 (.slice am text.length cm) text) := (HS3.out.below HB4.out).below HB5.out
    go_cut [60] (fun _ wx => ∃ t3, WrV wx B2 (B2 + 1) B2 t3 ∧ norm t3 = norm (all us kn text) ∧ ShOk t3 ∧ Below B2 w5 wx)
    case first =>
      cases am with
      | none =>
        have h0 : text.length = 0 ∧ cm = 0 := by
          obtain ⟨a, c, hv, hc, ⟨h1, h2⟩ | ⟨b, off, h1, _⟩⟩ := HS5.out
          · injection hv with _ _ h3
            omega
          · injection hv with h3 _ _
            rw [h1] at h3
            cases h3
        have hcn0 : cn = 0 := by omega
        obtain ⟨hl0, rfl⟩ := h0
        subst hcn0
        have HX1 : Hid (0 = text.length - 0) := by show 0 = _; omega
        have HX2 : Hid (SlB w5 B2 (.slice none 0 0) (text.drop 0)) := ⟨none, 0, by simp [hl0], by simp [hl0], .inl ⟨rfl, rfl⟩⟩
        clear hl0
        go_wp2_with (go_at_call 7; refine (HWR3.out _ _ _ HX1.out HX2.out).mono ?_; rintro e w6 ⟨rfl, hP⟩; have HP : Hid (WPost w5 B2 (B2 + 1) B2 (all us kn text) w6) := hP; clear hP)
        go_meet
        case rel => exact HP.out
      | some ad =>
        obtain ⟨g, off, rfl⟩ : ∃ g off, ad = ⟨g, off, none⟩ := by
          obtain ⟨a, c, hv, hc, ⟨h1, h2⟩ | ⟨b, off, h1, _⟩⟩ := HS5.out
          · injection hv with h3 _ _
            rw [h1] at h3
            cases h3
          · injection hv with h3 _ _
            rw [h1] at h3
            injection h3 with h3
            exact ⟨b, off, h3⟩
        by_cases hcc : cm = cn
        · subst hcc
          have HX1 : Hid (0 = text.length - cm) := by show 0 = _; omega
          have HX2 : Hid (SlB w5 B2 (.slice (some ⟨g, off, none⟩) 0 0) (text.drop cm)) := HS5.out.drop cm hcl off 0 0 (by omega) (by omega) (by omega)
          go_wp2_with (go_at_call 7; refine (HWR3.out _ _ _ HX1.out HX2.out).mono ?_; rintro e w6 ⟨rfl, hP⟩; have HP : Hid (WPost w5 B2 (B2 + 1) B2 (all us kn text) w6) := hP; clear hP)
          go_meet
          case rel => exact HP.out
        · have HX1 : Hid (text.length - cn = text.length - cn) := rfl
          have HX2 : Hid (SlB w5 B2 (.slice (some ⟨g, off + cn, none⟩) (text.length - cn) (cm - cn)) (text.drop cn)) := HS5.out.drop cn hcl (off + cn) _ _ rfl rfl (fun _ => rfl)
          go_wp2_with (go_at_call 7; refine (HWR3.out _ _ _ HX1.out HX2.out).mono ?_; rintro e w6 ⟨rfl, hP⟩; have HP : Hid (WPost w5 B2 (B2 + 1) B2 (all us kn text) w6) := hP; clear hP)
          go_meet
          case rel => exact HP.out
    case rest =>
      obtain ⟨t3, hW6, hn3, hs3, hB6⟩ := hcut
      have HW6 : Hid (WrV wc B2 (B2 + 1) B2 t3) := hW6
      have HN3 : Hid _ := hn3
      have HSH3 : Hid _ := hs3
      have HB56 : Hid (Below B2 w5 wc) := hB6
      have HB36 : Hid (Below B2 w3 wc) := HB4.out.trans (HB5.out.trans hB6)
      clear hW6 hn3 hs3 hB6 HWR3 HWR2 HWR1 HNEW HNEW2
      have hG1 : Good t1 text.length := (good_all us kn text HK.out (by omega)).of_norm HN1.out HSH1.out
      have hG3 : Good t3 text.length := (good_all us kn text HK.out (by omega)).of_norm HN3.out HSH3.out
      have hh1 := all_head HN1.out
      have hh3 := all_head HN3.out
      have HG1 : Hid (Good t1 text.length) := hG1
      have HH1 : Hid (t1.head = text.take 40 ∧ t1.tlen = text.length) := ⟨hh1.1, hh1.2.1⟩
      have HNN : Hid (norm t1 = norm t3) := by show norm t1 = norm t3; rw [HN1.out, HN3.out]
      have hl1 : t1.head.length ≤ 1073741824 := by rw [hh1.1]; simp; omega
      have hl3 : t3.head.length ≤ 1073741824 := by rw [hh3.1]; simp; omega
      have HWW1 : Hid (WrV wc B1 (B1 + 1) B1 t1) := HW3.out.below (by rw [HB2e.out]; exact HB36.out)
      have HST1 : Hid (Calls Tryd.prog 8 #[.pointer (some ⟨B1 + 1, 0, none⟩)] wc fun e w' => ∃ x1 x2 x3 x4 x5 x6 x7 x8 x9 x10 x11 x12 G, e = .returned (.agg #[.slice x1 t1.out.length x2, .int .i64 t1.spaces, .bool t1.full, .bool t1.inRun, .bool t1.joins, .bool t1.und, .bool t1.ex, .bool t1.mark, .int .i64 t1.length, .slice x3 t1.short.length x4, .int .i64 t1.run.zeros, .slice x5 t1.run.kept.length x6, .int .i64 t1.run.more, .bool t1.run.sticky, .slice x7 t1.head.length x8, .int .i64 t1.tlen, .slice x9 t1.shifts.length x10, .slice x11 t1.runs.length x12]) ∧ StR w' t1 (.slice x1 t1.out.length x2) (.slice x3 t1.short.length x4) (.slice x5 t1.run.kept.length x6) (.slice x7 t1.head.length x8) (.slice x9 t1.shifts.length x10) (.slice x11 t1.runs.length x12) G ∧ Below wc.heap.size wc w') := by
        obtain ⟨q1, q2, q3, q4, q5, q6⟩ := good_bounds hG1 (by omega)
        exact state_sl wc B1 (B1 + 1) B1 t1 HWW1.out q1 q2 q3 hl1 q4 q5 q6
      have HBall : Hid (Below w'.heap.size w' wc) := by
        have h5 : Below w'.heap.size w' w3 := HBX.out
        exact h5.trans (Below.mono HB36.out (by have := HB2e.out; have := h5.size; omega))
      have HQ3 : Hid (∀ W, Below wc.heap.size wc W → Calls Tryd.prog 8 #[.pointer (some ⟨B2 + 1, 0, none⟩)] W fun e w' => ∃ y1 y2 y3 y4 y5 y6 y7 y8 y9 y10 y11 y12 GB, e = .returned (.agg #[.slice y1 t3.out.length y2, .int .i64 t3.spaces, .bool t3.full, .bool t3.inRun, .bool t3.joins, .bool t3.und, .bool t3.ex, .bool t3.mark, .int .i64 t3.length, .slice y3 t3.short.length y4, .int .i64 t3.run.zeros, .slice y5 t3.run.kept.length y6, .int .i64 t3.run.more, .bool t3.run.sticky, .slice y7 t3.head.length y8, .int .i64 t3.tlen, .slice y9 t3.shifts.length y10, .slice y11 t3.runs.length y12]) ∧ StR w' t3 (.slice y1 t3.out.length y2) (.slice y3 t3.short.length y4) (.slice y5 t3.run.kept.length y6) (.slice y7 t3.head.length y8) (.slice y9 t3.shifts.length y10) (.slice y11 t3.runs.length y12) GB ∧ Below W.heap.size W w') := by
        show ∀ W, _
        intro W hW
        obtain ⟨q1, q2, q3, q4, q5, q6⟩ := good_bounds hG3 (by omega)
        exact state_sl W B2 (B2 + 1) B2 t3 (HW6.out.below hW) q1 q2 q3 hl3 q4 q5 q6
      clear hG1 hG3 hh1 hh3
      go_upto_region 19 with (first
        | (go_at_call 8; refine HST1.out.mono ?_; rintro e w7 ⟨x1, x2, x3, x4, x5, x6, x7, x8, x9, x10, x11, x12, G, rfl, hR7, hB7⟩; have HR7 : Hid (StR w7 t1 (.slice x1 t1.out.length x2) (.slice x3 t1.short.length x4) (.slice x5 t1.run.kept.length x6) (.slice x7 t1.head.length x8) (.slice x9 t1.shifts.length x10) (.slice x11 t1.runs.length x12) G) := hR7; have HB7 : Hid (Below wc.heap.size wc w7) := hB7; clear hR7 hB7)
        | (refine wpList_store_box rfl (.tmp 12) (.tmp 62) rfl w7 [.slice x1 t1.out.length x2, .int .i64 t1.spaces, .bool t1.full, .bool t1.inRun, .bool t1.joins, .bool t1.und, .bool t1.ex, .bool t1.mark, .int .i64 t1.length, .slice x3 t1.short.length x4, .int .i64 t1.run.zeros, .slice x5 t1.run.kept.length x6, .int .i64 t1.run.more, .bool t1.run.sticky, .slice x7 t1.head.length x8, .int .i64 t1.tlen, .slice x9 t1.shifts.length x10, .slice x11 t1.runs.length x12] rfl rfl rfl (by intro u hu; simp only [List.mem_cons, List.not_mem_nil, or_false] at hu; rcases hu with rfl | rfl | rfl | rfl | rfl | rfl | rfl | rfl | rfl | rfl | rfl | rfl | rfl | rfl | rfl | rfl | rfl | rfl <;> rfl) ?_; intro W7 hW7 hL7; have HW7 : Hid (Below w7.heap.size w7 W7) := hW7; have HL7 : Hid (W7.rangeAt w7.heap.size 0 [.slice x1 t1.out.length x2, .int .i64 t1.spaces, .bool t1.full, .bool t1.inRun, .bool t1.joins, .bool t1.und, .bool t1.ex, .bool t1.mark, .int .i64 t1.length, .slice x3 t1.short.length x4, .int .i64 t1.run.zeros, .slice x5 t1.run.kept.length x6, .int .i64 t1.run.more, .bool t1.run.sticky, .slice x7 t1.head.length x8, .int .i64 t1.tlen, .slice x9 t1.shifts.length x10, .slice x11 t1.runs.length x12]) := hL7; clear hW7 hL7))
      have HB7a : Hid (Below wc.heap.size wc W7) := HB7.out.trans (Below.mono HW7.out HB7.out.size)
      have HST3 : Hid (Calls Tryd.prog 8 #[.pointer (some ⟨B2 + 1, 0, none⟩)] W7 fun e w' => ∃ y1 y2 y3 y4 y5 y6 y7 y8 y9 y10 y11 y12 GB, e = .returned (.agg #[.slice y1 t3.out.length y2, .int .i64 t3.spaces, .bool t3.full, .bool t3.inRun, .bool t3.joins, .bool t3.und, .bool t3.ex, .bool t3.mark, .int .i64 t3.length, .slice y3 t3.short.length y4, .int .i64 t3.run.zeros, .slice y5 t3.run.kept.length y6, .int .i64 t3.run.more, .bool t3.run.sticky, .slice y7 t3.head.length y8, .int .i64 t3.tlen, .slice y9 t3.shifts.length y10, .slice y11 t3.runs.length y12]) ∧ StR w' t3 (.slice y1 t3.out.length y2) (.slice y3 t3.short.length y4) (.slice y5 t3.run.kept.length y6) (.slice y7 t3.head.length y8) (.slice y9 t3.shifts.length y10) (.slice y11 t3.runs.length y12) GB ∧ Below W7.heap.size W7 w') := HQ3.out _ HB7a.out
      go_upto_region 20 with (first
        | (go_at_call 8; refine HST3.out.mono ?_; rintro e w8 ⟨y1, y2, y3, y4, y5, y6, y7, y8, y9, y10, y11, y12, GB, rfl, hR8, hB8⟩; have HR8 : Hid (StR w8 t3 (.slice y1 t3.out.length y2) (.slice y3 t3.short.length y4) (.slice y5 t3.run.kept.length y6) (.slice y7 t3.head.length y8) (.slice y9 t3.shifts.length y10) (.slice y11 t3.runs.length y12) GB) := hR8; have HB8 : Hid (Below W7.heap.size W7 w8) := hB8; clear hR8 hB8)
        | (refine wpList_store_box rfl (.tmp 13) (.tmp 64) rfl w8 [.slice y1 t3.out.length y2, .int .i64 t3.spaces, .bool t3.full, .bool t3.inRun, .bool t3.joins, .bool t3.und, .bool t3.ex, .bool t3.mark, .int .i64 t3.length, .slice y3 t3.short.length y4, .int .i64 t3.run.zeros, .slice y5 t3.run.kept.length y6, .int .i64 t3.run.more, .bool t3.run.sticky, .slice y7 t3.head.length y8, .int .i64 t3.tlen, .slice y9 t3.shifts.length y10, .slice y11 t3.runs.length y12] rfl rfl rfl (by intro u hu; simp only [List.mem_cons, List.not_mem_nil, or_false] at hu; rcases hu with rfl | rfl | rfl | rfl | rfl | rfl | rfl | rfl | rfl | rfl | rfl | rfl | rfl | rfl | rfl | rfl | rfl | rfl <;> rfl) ?_; intro W8 hW8 hL8; have HW8 : Hid (Below w8.heap.size w8 W8) := hW8; have HL8 : Hid (W8.rangeAt w8.heap.size 0 [.slice y1 t3.out.length y2, .int .i64 t3.spaces, .bool t3.full, .bool t3.inRun, .bool t3.joins, .bool t3.und, .bool t3.ex, .bool t3.mark, .int .i64 t3.length, .slice y3 t3.short.length y4, .int .i64 t3.run.zeros, .slice y5 t3.run.kept.length y6, .int .i64 t3.run.more, .bool t3.run.sticky, .slice y7 t3.head.length y8, .int .i64 t3.tlen, .slice y9 t3.shifts.length y10, .slice y11 t3.runs.length y12]) := hL8; clear hW8 hL8))
      have HD8 : Hid (Below W8.heap.size W8 W8.drew) := (Below.refl _ _).drew
      have HKP : Hid (∀ W, Below W8.heap.size W8 W → (fun W => W.rangeAt w7.heap.size 0 [.slice x1 t1.out.length x2, .int .i64 t1.spaces, .bool t1.full, .bool t1.inRun, .bool t1.joins, .bool t1.und, .bool t1.ex, .bool t1.mark, .int .i64 t1.length, .slice x3 t1.short.length x4, .int .i64 t1.run.zeros, .slice x5 t1.run.kept.length x6, .int .i64 t1.run.more, .bool t1.run.sticky, .slice x7 t1.head.length x8, .int .i64 t1.tlen, .slice x9 t1.shifts.length x10, .slice x11 t1.runs.length x12] ∧ W.rangeAt w8.heap.size 0 [.slice y1 t3.out.length y2, .int .i64 t3.spaces, .bool t3.full, .bool t3.inRun, .bool t3.joins, .bool t3.und, .bool t3.ex, .bool t3.mark, .int .i64 t3.length, .slice y3 t3.short.length y4, .int .i64 t3.run.zeros, .slice y5 t3.run.kept.length y6, .int .i64 t3.run.more, .bool t3.run.sticky, .slice y7 t3.head.length y8, .int .i64 t3.tlen, .slice y9 t3.shifts.length y10, .slice y11 t3.runs.length y12] ∧ W.cell? ⟨w7.heap.size, 14, none⟩ = some (.slice x7 t1.head.length x8) ∧ W.cell? ⟨w7.heap.size, 15, none⟩ = some (.int .i64 t1.tlen)) W) := by
        show ∀ W, _
        intro W hW
        have r1 := range_below (range_below (range_below HL7.out HB8.out) HW8.out) hW
        have r2 := range_below HL8.out hW
        exact ⟨r1, r2, r1 14 _ rfl, r1 15 _ rfl⟩
      have HRA : Hid (StR W8.drew t1 (.slice x1 t1.out.length x2) (.slice x3 t1.short.length x4) (.slice x5 t1.run.kept.length x6) (.slice x7 t1.head.length x8) (.slice x9 t1.shifts.length x10) (.slice x11 t1.runs.length x12) G) := (((HR7.out.below HW7.out).below HB8.out).below HW8.out).below HD8.out
      have HRB : Hid (StR W8.drew t3 (.slice y1 t3.out.length y2) (.slice y3 t3.short.length y4) (.slice y5 t3.run.kept.length y6) (.slice y7 t3.head.length y8) (.slice y9 t3.shifts.length y10) (.slice y11 t3.runs.length y12) GB) := (HR8.out.below HW8.out).below HD8.out
      have HS8 : Hid (SlB W8.drew B2 (.slice am text.length cm) text) := by
        have h1 : Below B2 w5 W8.drew := by
          have q1 : B2 ≤ wc.heap.size := HW6.out.size
          exact (((HB56.out.trans (Below.mono HB7a.out q1)).trans (Below.mono HB8.out (Nat.le_trans q1 HB7a.out.size))).trans (Below.mono HW8.out (Nat.le_trans q1 (Nat.le_trans HB7a.out.size HB8.out.size)))).drew
        exact HS5.out.below h1
      have HBz : Hid (Below w'.heap.size w' W8) := by
        have q0 := HBall.out.size
        exact ((HBall.out.trans (Below.mono HB7a.out q0)).trans (Below.mono HB8.out (Nat.le_trans q0 HB7a.out.size))).trans (Below.mono HW8.out (Nat.le_trans q0 (Nat.le_trans HB7a.out.size HB8.out.size)))
      have htl : ((t1.tlen : Int) == (text.length : Int)) = true := by rw [HH1.out.2]; simp
      refine region_M (fun W => W.rangeAt w7.heap.size 0 [.slice x1 t1.out.length x2, .int .i64 t1.spaces, .bool t1.full, .bool t1.inRun, .bool t1.joins, .bool t1.und, .bool t1.ex, .bool t1.mark, .int .i64 t1.length, .slice x3 t1.short.length x4, .int .i64 t1.run.zeros, .slice x5 t1.run.kept.length x6, .int .i64 t1.run.more, .bool t1.run.sticky, .slice x7 t1.head.length x8, .int .i64 t1.tlen, .slice x9 t1.shifts.length x10, .slice x11 t1.runs.length x12] ∧ W.rangeAt w8.heap.size 0 [.slice y1 t3.out.length y2, .int .i64 t3.spaces, .bool t3.full, .bool t3.inRun, .bool t3.joins, .bool t3.und, .bool t3.ex, .bool t3.mark, .int .i64 t3.length, .slice y3 t3.short.length y4, .int .i64 t3.run.zeros, .slice y5 t3.run.kept.length y6, .int .i64 t3.run.more, .bool t3.run.sticky, .slice y7 t3.head.length y8, .int .i64 t3.tlen, .slice y9 t3.shifts.length y10, .slice y11 t3.runs.length y12] ∧ W.cell? ⟨w7.heap.size, 14, none⟩ = some (.slice x7 t1.head.length x8) ∧ W.cell? ⟨w7.heap.size, 15, none⟩ = some (.int .i64 t1.tlen)) 17 (by kernel_rfl) ?_
      simp only [List.size_toArray, List.length_cons, List.length_nil, Nat.reduceAdd, Array.replicate_succ, Array.replicate_zero, List.push_toArray, List.append_toArray, List.nil_append, List.cons_append]
      refine anyM_take (i := 0) rfl (by kernel_rfl) (by kernel_rfl) (by kernel_rfl) (by kernel_rfl) (fun _ _ _ h => h) (yieldsIf_load_mid (by rfl) 32 (.tmp 12) rfl w7.heap.size 0 rfl [.slice x1 t1.out.length x2, .int .i64 t1.spaces, .bool t1.full, .bool t1.inRun, .bool t1.joins, .bool t1.und, .bool t1.ex, .bool t1.mark, .int .i64 t1.length, .slice x3 t1.short.length x4, .int .i64 t1.run.zeros, .slice x5 t1.run.kept.length x6, .int .i64 t1.run.more, .bool t1.run.sticky, .slice x7 t1.head.length x8, .int .i64 t1.tlen, .slice x9 t1.shifts.length x10, .slice x11 t1.runs.length x12] _ (fun w h => h.1) Tryd.underlying32 rfl size32) (HKP.out _ HD8.out) ?_
      try simp only [Act.put, List.setIfInBounds_toArray, List.set_cons_zero, List.set_cons_succ]
      refine anyM_take (i := 1) rfl (by kernel_rfl) (by kernel_rfl) (by kernel_rfl) (by kernel_rfl) (fun _ _ _ h => h) (yieldsIf_load_mid (by rfl) 32 (.tmp 13) rfl w8.heap.size 0 rfl [.slice y1 t3.out.length y2, .int .i64 t3.spaces, .bool t3.full, .bool t3.inRun, .bool t3.joins, .bool t3.und, .bool t3.ex, .bool t3.mark, .int .i64 t3.length, .slice y3 t3.short.length y4, .int .i64 t3.run.zeros, .slice y5 t3.run.kept.length y6, .int .i64 t3.run.more, .bool t3.run.sticky, .slice y7 t3.head.length y8, .int .i64 t3.tlen, .slice y9 t3.shifts.length y10, .slice y11 t3.runs.length y12] _ (fun w h => h.2.1) Tryd.underlying32 rfl size32) (HKP.out _ HD8.out) ?_
      try simp only [Act.put, List.setIfInBounds_toArray, List.set_cons_zero, List.set_cons_succ]
      refine anyM_one (i := 2) rfl (by kernel_rfl) (fun K hK => ?_)
      rw [if_pos (by rfl)]
      go_simp
      refine (sameState_any W8.drew t1 t3 text.length HG1.out (by omega) HNN.out HSH3.out (by rw [HH1.out.1]; simp; omega) HRA.out HRB.out).mono ?_
      rintro e w9 ⟨rfl, hB9⟩
      have HB9 : Hid (Below W8.heap.size W8 w9) := HD8.out.trans hB9
      have HRA9 : Hid (StR w9 t1 (.slice x1 t1.out.length x2) (.slice x3 t1.short.length x4) (.slice x5 t1.run.kept.length x6) (.slice x7 t1.head.length x8) (.slice x9 t1.shifts.length x10) (.slice x11 t1.runs.length x12) G) := HRA.out.below hB9
      have HS9 : Hid (SlB w9 B2 (.slice am text.length cm) text) := HS8.out.below (Below.mono hB9 (by have := HW6.out.size; have := HB7a.out.size; have := HB8.out.size; have := HW8.out.size; show B2 ≤ W8.heap.size; omega))
      clear hB9
      dsimp only
      refine hK.out _ _ (fun _ => HKP.out _ HB9.out) ?_
      clear hK
      try simp only [Act.put, List.setIfInBounds_toArray, List.set_cons_zero, List.set_cons_succ]
      refine anyM_take (i := 3) (v := ?vr3) rfl (by kernel_rfl) (by kernel_rfl) (by kernel_rfl) (by kernel_rfl) (fun _ _ _ h => h) (Or.inl ⟨by rfl, ?hyr3⟩) (HKP.out _ HB9.out) ?restr3
      case hyr3 =>
        intro w hSw
        obtain ⟨_, _, s14, s15⟩ := hSw
        go_simp
        try with_reducible rfl
      try simp only [Act.put, List.setIfInBounds_toArray, List.set_cons_zero, List.set_cons_succ]
      refine anyM_take (i := 4) (v := ?vr4) rfl (by kernel_rfl) (by kernel_rfl) (by kernel_rfl) (by kernel_rfl) (fun _ _ _ h => h) (Or.inl ⟨by rfl, ?hyr4⟩) (HKP.out _ HB9.out) ?restr4
      case hyr4 =>
        intro w hSw
        obtain ⟨_, _, s14, s15⟩ := hSw
        go_simp
        try with_reducible rfl
      try simp only [Act.put, List.setIfInBounds_toArray, List.set_cons_zero, List.set_cons_succ]
      refine anyM_take (i := 5) (v := ?vr5) rfl (by kernel_rfl) (by kernel_rfl) (by kernel_rfl) (by kernel_rfl) (fun _ _ _ h => h) (Or.inl ⟨by rfl, ?hyr5⟩) (HKP.out _ HB9.out) ?restr5
      case hyr5 =>
        intro w hSw
        obtain ⟨_, _, s14, s15⟩ := hSw
        go_simp
        try with_reducible rfl
      try simp only [Act.put, List.setIfInBounds_toArray, List.set_cons_zero, List.set_cons_succ]
      refine anyM_take (i := 6) (v := ?vr6) rfl (by kernel_rfl) (by kernel_rfl) (by kernel_rfl) (by kernel_rfl) (fun _ _ _ h => h) (Or.inl ⟨by rfl, ?hyr6⟩) (HKP.out _ HB9.out) ?restr6
      case hyr6 =>
        intro w hSw
        obtain ⟨_, _, s14, s15⟩ := hSw
        go_simp
        try with_reducible rfl
      try simp only [Act.put, List.setIfInBounds_toArray, List.set_cons_zero, List.set_cons_succ]
      refine anyM_one (i := 7) rfl (by kernel_rfl) (fun K hK => ?_)
      rw [if_pos (by rfl)]
      go_simp
      refine (prefix_any w9 (.slice am text.length cm) text HS9.out.rd (by omega)).mono ?_
      rintro e w10 ⟨vp, rfl, hvp, rfl⟩
      have HVP : Hid (Rd w10 vp (text.take 40)) := hvp
      clear hvp
      dsimp only
      refine hK.out _ _ (fun _ => HKP.out _ HB9.out) ?_
      clear hK
      try simp only [Act.put, List.setIfInBounds_toArray, List.set_cons_zero, List.set_cons_succ]
      refine anyM_one (i := 8) rfl (by kernel_rfl) (fun K hK => ?_)
      rw [if_pos (by rfl)]
      go_simp
      refine (same_any w10 (.slice x7 t1.head.length x8) vp (text.take 40) (by have := HRA9.out.head; rw [HH1.out.1] at this ⊢; exact this) HVP.out (by simp; omega)).mono ?_
      rintro e w11 ⟨rfl, hB11⟩
      have HB11 : Hid (Below W8.heap.size W8 w11) := HB9.out.trans (Below.mono hB11 HB9.out.size)
      clear hB11
      dsimp only
      refine hK.out _ _ (fun _ => HKP.out _ HB11.out) ?_
      clear hK
      try simp only [Act.put, List.setIfInBounds_toArray, List.set_cons_zero, List.set_cons_succ]
      refine anyM_take (i := 9) (v := ?vr9) rfl (by kernel_rfl) (by kernel_rfl) (by kernel_rfl) (by kernel_rfl) (fun _ _ _ h => h) (Or.inl ⟨by rfl, ?hyr9⟩) (HKP.out _ HB11.out) ?restr9
      case hyr9 =>
        intro w hSw
        obtain ⟨_, _, s14, s15⟩ := hSw
        go_simp
        try with_reducible rfl
      try simp only [Act.put, List.setIfInBounds_toArray, List.set_cons_zero, List.set_cons_succ]
      refine anyM_take (i := 10) (v := ?vr10) rfl (by kernel_rfl) (by kernel_rfl) (by kernel_rfl) (by kernel_rfl) (fun _ _ _ h => h) (Or.inl ⟨by rfl, ?hyr10⟩) (HKP.out _ HB11.out) ?restr10
      case hyr10 =>
        intro w hSw
        obtain ⟨_, _, s14, s15⟩ := hSw
        go_simp
        try with_reducible rfl
      try simp only [Act.put, List.setIfInBounds_toArray, List.set_cons_zero, List.set_cons_succ]
      refine anyM_take (i := 11) (v := ?vr11) rfl (by kernel_rfl) (by kernel_rfl) (by kernel_rfl) (by kernel_rfl) (fun _ _ _ h => h) (Or.inl ⟨by rfl, ?hyr11⟩) (HKP.out _ HB11.out) ?restr11
      case hyr11 =>
        intro w hSw
        obtain ⟨_, _, s14, s15⟩ := hSw
        go_simp
        try with_reducible rfl
      try simp only [Act.put, List.setIfInBounds_toArray, List.set_cons_zero, List.set_cons_succ]
      refine anyM_take (i := 12) (v := ?vr12) rfl (by kernel_rfl) (by kernel_rfl) (by kernel_rfl) (by kernel_rfl) (fun _ _ _ h => h) (Or.inl ⟨by rfl, ?hyr12⟩) (HKP.out _ HB11.out) ?restr12
      case hyr12 =>
        intro w hSw
        obtain ⟨_, _, s14, s15⟩ := hSw
        go_simp
        try with_reducible rfl
      try simp only [Act.put, List.setIfInBounds_toArray, List.set_cons_zero, List.set_cons_succ]
      refine anyM_take (i := 13) (v := ?vr13) rfl (by kernel_rfl) (by kernel_rfl) (by kernel_rfl) (by kernel_rfl) (fun _ _ _ h => h) (Or.inl ⟨by rfl, ?hyr13⟩) (HKP.out _ HB11.out) ?restr13
      case hyr13 =>
        intro w hSw
        obtain ⟨_, _, s14, s15⟩ := hSw
        go_simp
        try with_reducible rfl
      try simp only [Act.put, List.setIfInBounds_toArray, List.set_cons_zero, List.set_cons_succ]
      refine anyM_take (i := 14) (v := ?vr14) rfl (by kernel_rfl) (by kernel_rfl) (by kernel_rfl) (by kernel_rfl) (fun _ _ _ h => h) (Or.inl ⟨by rfl, ?hyr14⟩) (HKP.out _ HB11.out) ?restr14
      case hyr14 =>
        intro w hSw
        obtain ⟨_, _, s14, s15⟩ := hSw
        go_simp
        try with_reducible rfl
      try simp only [Act.put, List.setIfInBounds_toArray, List.set_cons_zero, List.set_cons_succ]
      refine anyM_take (i := 15) (v := ?vr15) rfl (by kernel_rfl) (by kernel_rfl) (by kernel_rfl) (by kernel_rfl) (fun _ _ _ h => h) (Or.inl ⟨by rfl, ?hyr15⟩) (HKP.out _ HB11.out) ?restr15
      case hyr15 =>
        intro w hSw
        obtain ⟨_, _, s14, s15⟩ := hSw
        go_simp
        try with_reducible rfl
      try simp only [Act.put, List.setIfInBounds_toArray, List.set_cons_zero, List.set_cons_succ]
      refine anyM_take (i := 16) (v := ?vr16) rfl (by kernel_rfl) (by kernel_rfl) (by kernel_rfl) (by kernel_rfl) (fun _ _ _ h => h) (Or.inl ⟨by rfl, ?hyr16⟩) (HKP.out _ HB11.out) ?restr16
      case hyr16 =>
        intro w hSw
        obtain ⟨_, _, s14, s15⟩ := hSw
        go_simp
        try with_reducible rfl
      try simp only [Act.put, List.setIfInBounds_toArray, List.set_cons_zero, List.set_cons_succ]
      refine anyM_one (i := 17) rfl (by kernel_rfl) (fun K hK => ?_)
      go_simp
      refine hK.out _ _ (fun h => absurd rfl h) ?_
      clear hK
      refine anyM_done (by kernel_rfl) ?_ _
      go_wp2
      go_ret
      exact ⟨rfl, HBz.out.trans (Below.mono HB11.out HBz.out.size)⟩
end Go.Proofs.Qxb6616348aDoor
