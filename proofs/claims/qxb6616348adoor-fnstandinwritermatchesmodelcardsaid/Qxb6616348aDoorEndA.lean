import Derived.Test.Qxb6616348aDoorFold
import Derived.BigRegion
import Derived.Deep.RegionLaw
import Derived.Deep.RegionWith
set_option linter.unusedSimpArgs false
set_option linter.unusedVariables false
namespace Go.Proofs.Qxb6616348aDoor
open Go.RowKit

theorem info55 : (Tryd.prog.info? 55).map (fun i => (i.zero, i.size, i.bytes)) = some (some (.agg #[.int .i64 0, .slice none 0 0, .int .i64 0, .bool false]), 4, 48) := by kernel_rfl
theorem info61 : (Tryd.prog.info? 61).map (fun i => (i.zero, i.size, i.bytes)) = some (some (.agg #[.int .i64 0, .int .i64 0]), 2, 16) := by kernel_rfl
/-- a block just made, as what is appended -/
theorem src_cells (w : World) (L : List Value) (t m c sz : Nat) (hl : L.length = m * sz) (h1 : ∀ u ∈ L, u.oneCell' = true) : Src (w.alloc (.cells L.toArray t)) (.slice (some ⟨w.heap.size, 0, none⟩) m c) m L sz := by
  refine ⟨hl, h1, .inr ⟨_, _, rfl, fun j v hj => ?_⟩⟩
  rw [addr_add, Nat.zero_add, World.cell?_alloc_mark]
  simpa using hj
theorem Src.grow {w w' : World} {v : Value} {m : Nat} {news : List Value} {sz : Nat} (h : Src w v m news sz) (hg : w.grownBy w' none) : Src w' v m news sz := by
  obtain ⟨h1, h2, h3⟩ := h
  refine ⟨h1, h2, h3.imp id fun ⟨ad, c, e, hc⟩ => ⟨ad, c, e, fun j u hj => hg.cell (hc j u hj) (by simp)⟩⟩

theorem shCells_len (l : List (Nat × Int)) : (shCells l).length = l.length * 2 := by
  induction l with
  | nil => rfl
  | cons a l ih => simp only [shCells, List.flatMap_cons, List.length_append] at ih ⊢; rw [ih]; simp; omega
theorem shCells_append (a b : List (Nat × Int)) : shCells (a ++ b) = shCells a ++ shCells b := by simp [shCells]
theorem shCells_last (l : List (Nat × Int)) (h : 0 < l.length) : (shCells l)[(l.length - 1) * 2 + 1]? = some (.int .i64 (lastBy l)) := by
  have hne : l ≠ [] := by intro e; subst e; simp at h
  obtain ⟨l', x, rfl⟩ : ∃ l' x, l = l' ++ [x] := ⟨l.dropLast, l.getLast hne, (List.dropLast_concat_getLast hne).symm⟩
  rw [shCells_append, lastBy_snoc, List.getElem?_append_right (by rw [shCells_len]; simp), shCells_len]
  simp [shCells]

theorem longRun_parts (s0 sA sB : St) (nm n : Nat) (h1 : nm = min s0.runs.length 3) (h2 : n = 41 + nm) (hA : sA = { s0 with out := s0.out ++ standIn s0.run n }) (hB : sB = (if nm < 3 then { sA with runs := sA.runs ++ [sA.run], run := ⟨0, [], 0, false⟩ } else sA : St)) :
    longRun s0 = { sB with shifts := sB.shifts ++ [(sB.out.length, (sB.length : Int) - (n : Int) + lastBy sB.shifts)] } := by
  subst hB hA h2 h1
  rfl
set_option maxHeartbeats 4000000 in
set_option maxRecDepth 100000 in
theorem end_in (w : World) (B pw pt : Nat) (s s0 sb s1 s2 : St) (H0 : Hid (s0 = { s with inRun := false })) (Hb : Hid (sb = if s0.length ≤ 40 then { s0 with out := s0.out ++ s0.short } else longRun s0)) (H1 : Hid (s1 = if s.inRun then shut sb else s)) (H2 : Hid (tail s1 = s2))
    (h : WrV w B pw pt s) (ho : s.out.length ≤ 536870912) (hs : s.short.length ≤ 536870912) (hl : s.length ≤ 536870912) (hkl : s.run.kept.length ≤ 536870912) (hsp : s.spaces ≤ 3) (hr3 : s.runs.length ≤ 3) (hsh : s.shifts.length ≤ 536870912) (hb1 : -4611686018427387904 ≤ lastBy s.shifts) (hb2 : lastBy s.shifts ≤ 4611686018427387904) (hos1 : s1.out.length ≤ 1073741824) (hsp1 : s1.spaces ≤ 3) :
    Calls Tryd.prog 25 #[.pointer (some ⟨pw, 0, none⟩)] w fun e w' => e = .returned (.tuple #[]) ∧ Aft w B pw pt s2 w' := by
  obtain ⟨vo, vs, vk, vh, vsh, vr, G, hM⟩ := h
  have HM : Hid (WrM w B pw pt s vo vs vk vh vsh vr G) := hM
  have HB : Hid (B ≤ pw) := hM.lt.1
  have HBt : Hid (B ≤ pt) := hM.lt.2.1
  have c7 := hM.cw 7 (by omega)
  have q7 := hM.fw 7
  simp only [wcells, List.getElem?_cons_succ, List.getElem?_cons_zero] at c7
  clear hM
  go_enter Tryd.func25, Tryd.ntmps25
  go_upto_if 10 with fail
  go_cut [2] (fun _ wx => WrV wx B pw pt s1 ∧ Below B w wx)
  case first =>
    cases hr : s.inRun
    · rw [hr] at c7
      go_wp2_with fail
      go_meet
      case rel =>
        have e : s1 = s := by rw [H1.out, hr]; rfl
        rw [e]
        exact ⟨⟨_, _, _, _, _, _, _, HM.out⟩, Below.refl _ _⟩
    · rw [hr] at c7
      have HE1 : Hid (s1 = shut sb) := by show s1 = shut sb; rw [H1.out, hr]; rfl
      have HM0 : Hid (WrM (w.setCell ⟨pw, 7, none⟩ (.bool false)) B pw pt s0 vo vs vk vh vsh vr G) := by
        show WrM _ B pw pt s0 vo vs vk vh vsh vr G
        rw [H0.out]
        exact ⟨HM.out.mem.setCell (i := 0) rfl 7 (.bool false), HM.out.runs⟩
      have HB0 : Hid (Below B w (w.setCell ⟨pw, 7, none⟩ (.bool false))) := (Below.refl _ _).setCell HB.out _
      have c9 : (w.setCell ⟨pw, 7, none⟩ (.bool false)).cell? ⟨pw, 9, none⟩ = some (.int .i64 s.length) := by
        have := HM0.out.cw 9 (by omega)
        simp only [wcells, List.getElem?_cons_succ, List.getElem?_cons_zero] at this
        rw [this, H0.out]
      have hs0 : s0.length = s.length ∧ s0.out = s.out ∧ s0.short = s.short ∧ s0.run = s.run ∧ s0.runs = s.runs ∧ s0.shifts = s.shifts := by rw [H0.out]; exact ⟨rfl, rfl, rfl, rfl, rfl, rfl⟩
      have HS0 : Hid _ := hs0
      clear hs0
      go_upto_if 18 with fail
      go_cut [2] (fun _ wx => WrV wx B pw pt sb ∧ Below B w wx)
      case first =>
        obtain ⟨ash, csh, rfl, hcsh⟩ := row_form HM0.out.oshort
        obtain ⟨ao, co, rfl, hco⟩ := row_form HM0.out.oout
        obtain ⟨i0, hi, hz0, hz1, hz2⟩ := info_parts info5
        have hl0 : s0.length = s.length := HS0.out.1
        have hl1 : s0.out.length ≤ 536870912 := by rw [HS0.out.2.1]; exact ho
        have hl2 : s0.short.length ≤ 536870912 := by rw [HS0.out.2.2.1]; exact hs
        by_cases h40 : (s.length : Int) ≤ 40
        · have HEb : Hid (sb = { s0 with out := s0.out ++ s0.short }) := by show sb = _; rw [Hb.out, if_pos (by omega)]
          have k4 := HM0.out.cw 4 (by omega)
          have k10 := HM0.out.cw 10 (by omega)
          simp only [wcells, List.getElem?_cons_succ, List.getElem?_cons_zero] at k4 k10
          have HSR : Hid (Src (w.setCell ⟨pw, 7, none⟩ (.bool false)) (.slice ash s0.short.length csh) s0.short.length (cellsOf s0.short) 1) := by
            have := row_src HM0.out.oshort (Nat.le_refl _)
            rw [List.take_length] at this
            exact this
          go_upto_region 3 with fail
          go_cut [28] (fun _ wx => WrV wx B pw pt sb ∧ Below B w wx)
          case first =>
            go_region_law ((refine step_append_mem rfl (.tmp 23) (.tmp 27) 22 rfl (HM0.out.mem.grow (grownBy_drew _ none)) 2 rfl i0 (.int .u8 0) 1 Tryd.underlying22 hi hz0 hz1 hz2 rfl (by decide) (.slice ash s0.short.length csh) s0.short.length (cellsOf s0.short) rfl rfl HSR.out (by unfold maxLen; omega) (by omega) ?_; intro a' c' w2 hM2 hB2; have k4' : w2.cell? ⟨pw, 4, none⟩ = some (.slice ao s0.out.length co) := hM2.cell (i := 0) rfl 4 (by omega); have q4 := hM2.frozen (i := 0) rfl 4))
            all_goals (try go_wp2)
            all_goals go_meet
            all_goals
              refine ⟨⟨.slice a' (s0.out.length + s0.short.length) c', .slice ash s0.short.length csh, vk, vh, vsh, vr, G, ?_, ?_⟩, (HB0.out.drew.trans hB2).setCell HB.out _⟩
              · rw [HEb.out]
                have m := hM2.setCell (i := 0) rfl 4 (.slice a' (s0.out.length + s0.short.length) c')
                have l1 : (s0.out ++ s0.short).length = s0.out.length + s0.short.length := by simp
                simp only [rows, rowB, l1, cellsOf_append]
                exact m
              · rw [HEb.out]; exact HM0.out.runs
          case rest =>
            go_wp2
            go_meet
            case rel => exact hcut
        · have HEb : Hid (sb = longRun s0) := by show sb = _; rw [Hb.out, if_neg (by omega)]
          have k0 := HM0.out.cw 0 (by omega)
          have k4 := HM0.out.cw 4 (by omega)
          have t5 := HM0.out.ct 5 (by omega)
          simp only [wcells, tcells, List.getElem?_cons_succ, List.getElem?_cons_zero] at k0 k4 t5
          obtain ⟨ar, cr, rfl, hcr⟩ := row_form HM0.out.oruns
          obtain ⟨nm, hnm⟩ : ∃ nm : Nat, nm = min G.length 3 := ⟨_, rfl⟩
          have hGl : G.length = s0.runs.length := by have := congrArg List.length HM0.out.runs; simpa using this
          have hmin : min (G.length : Int) 3 = (nm : Int) := by omega
          have hnm3 : nm ≤ 3 := by omega
          obtain ⟨n, hn⟩ : ∃ n : Nat, n = 41 + nm := ⟨_, rfl⟩
          have hnI : (41 : Int) + (nm : Int) = (n : Int) := by omega
          have HN : Hid (nm = min s0.runs.length 3 ∧ n = 41 + nm ∧ G.length = s0.runs.length) := ⟨by rw [← hGl]; exact hnm, hn, hGl⟩
          have hn41 : 41 ≤ n ∧ n ≤ 44 := by omega
          clear hnm hn hGl
          go_upto_region 7 with fail
          go_cut [52] (fun _ wx => ∃ a' c', WrM wx B pw pt { s0 with out := s0.out ++ standIn s0.run n } (.slice a' (s0.out.length + n) c') (.slice ash s0.short.length csh) vk vh vsh (.slice ar G.length cr) G ∧ Below B w wx)
          case first =>
            have hkk : s0.run.kept.length ≤ 1073741824 := by rw [HS0.out.2.2.2.1]; omega
            have hoo : s0.out.length ≤ 1073741824 := by omega
            have HMd : Hid (WrM (w.setCell ⟨pw, 7, none⟩ (.bool false)).drew B pw pt s0 (.slice ao s0.out.length co) (.slice ash s0.short.length csh) vk vh vsh (.slice ar G.length cr) G) := ⟨HM0.out.mem.grow (grownBy_drew _ none), HM0.out.runs⟩
            go_region_with (go_at_call 30; refine (standIn_any _ B pw pt s0 (.slice ao s0.out.length co) (.slice ash s0.short.length csh) vk vh vsh (.slice ar G.length cr) G n HMd.out hn41.1 hn41.2 hoo hkk).mono ?_; rintro e w2 ⟨a', c', rfl, hM2, hB2⟩; have k4' : w2.cell? ⟨pw, 4, none⟩ = some (.slice ao s0.out.length co) := hM2.cell (i := 0) rfl 4 (by omega); have q4 := hM2.frozen (i := 0) rfl 4; have HM2 : Hid _ := hM2; have HB2 : Hid _ := hB2; clear hM2 hB2)
            all_goals (try go_wp2)
            all_goals go_meet
            all_goals
              refine ⟨a', c', ⟨?_, HM0.out.runs⟩, (HB0.out.drew.trans HB2.out).setCell HB.out _⟩
              have m := HM2.out.setCell (i := 0) rfl 4 (.slice a' (s0.out.length + n) c')
              have l1 : (s0.out ++ standIn s0.run n).length = s0.out.length + n := by rw [List.length_append, standIn_len _ _ (by omega)]
              simp only [rows, rowB, l1]
              exact m
          case rest =>
            obtain ⟨a', c', hMA, hBA⟩ := hcut
            clear k0 k4 t5 c7 q7 c9 HM HM0
            obtain ⟨ak, ck, rfl, hck⟩ := row_form hMA.okept
            obtain ⟨sA, hsA⟩ : ∃ sA, sA = ({ s0 with out := s0.out ++ standIn s0.run n } : St) := ⟨_, rfl⟩
            have HSA : Hid (sA = { s0 with out := s0.out ++ standIn s0.run n }) := hsA
            have hoA : s0.out.length + n = sA.out.length := by rw [hsA]; show _ = (s0.out ++ standIn s0.run n).length; rw [List.length_append, standIn_len _ _ (by omega)]
            have hrA : s0.run = sA.run ∧ s0.short = sA.short := by rw [hsA]; exact ⟨rfl, rfl⟩
            rw [← hsA, hoA, hrA.2] at hMA
            have hshA : s0.shifts = sA.shifts := by rw [hsA]
            have hlA : sA.length = s.length := by rw [hsA]; exact hl0
            have HMA : Hid (WrM wc B pw pt sA (.slice a' sA.out.length c') (.slice ash sA.short.length csh) (.slice ak sA.run.kept.length ck) vh vsh (.slice ar G.length cr) G) := hMA
            have HBA : Hid (Below B w wc) := hBA
            clear hMA hBA hsA
            obtain ⟨i5, hi5, hy0, hy1, hy2⟩ := info_parts info55
            go_upto_if 56 with fail
            go_cut [57] (fun _ wx => WrV wx B pw pt (if nm < 3 then { sA with runs := sA.runs ++ [sA.run], run := ⟨0, [], 0, false⟩ } else sA) ∧ Below B w wx)
            case first =>
              by_cases hn3 : (nm : Int) < 3
              · have t5 := HMA.out.ct 5 (by omega)
                have k11 := HMA.out.cw 11 (by omega)
                have k12 := HMA.out.cw 12 (by omega)
                have k13 := HMA.out.cw 13 (by omega)
                have k14 := HMA.out.cw 14 (by omega)
                simp only [wcells, tcells, List.getElem?_cons_succ, List.getElem?_cons_zero] at k11 k12 k13 k14 t5
                have hG3 : G.length < 3 := by have := HN.out; omega
                go_upto_region 9 with fail
                go_cut [67] (fun _ wx => ∃ a2 c2, Mem wx B ((rows pw pt sA (.slice a' sA.out.length c') (.slice ash sA.short.length csh) (.slice ak sA.run.kept.length ck) vh vsh (.slice a2 (G.length + 1) c2) G).set 7 ⟨55, 4, .slice a2 (G.length + 1) c2, G.length + 1, runCells G ++ [.int .i64 sA.run.zeros, .slice ak sA.run.kept.length ck, .int .i64 sA.run.more, .bool sA.run.sticky]⟩) ∧ Below B w wx)
                case first =>
                  have HSc : Hid (Src (wc.alloc (.cells #[.int .i64 sA.run.zeros, .slice ak sA.run.kept.length ck, .int .i64 sA.run.more, .bool sA.run.sticky] 55)) (.slice (some ⟨wc.heap.size, 0, none⟩) 1 1) 1 [.int .i64 sA.run.zeros, .slice ak sA.run.kept.length ck, .int .i64 sA.run.more, .bool sA.run.sticky] 4) := src_cells wc [.int .i64 sA.run.zeros, .slice ak sA.run.kept.length ck, .int .i64 sA.run.more, .bool sA.run.sticky] 55 1 1 4 rfl (by intro u hu; simp at hu; rcases hu with rfl | rfl | rfl | rfl <;> rfl)
                  have t5a : (wc.alloc (.cells #[.int .i64 sA.run.zeros, .slice ak sA.run.kept.length ck, .int .i64 sA.run.more, .bool sA.run.sticky] 55)).cell? ⟨pt, 5, none⟩ = some (.slice ar G.length cr) := (HMA.out.mem.grow (World.grownBy_alloc _ _ none)).cell (i := 1) rfl 5 (by omega)
                  go_region_law ((refine step_append_mem rfl (.tmp 61) (.tmp 66) 51 rfl ((HMA.out.mem.grow (World.grownBy_alloc _ _ none)).grow (grownBy_drew _ none)) 7 rfl i5 (.agg #[.int .i64 0, .slice none 0 0, .int .i64 0, .bool false]) 48 Tryd.underlying51 hi5 hy0 hy1 hy2 rfl (by decide) (.slice (some ⟨wc.heap.size, 0, none⟩) 1 1) 1 [.int .i64 sA.run.zeros, .slice ak sA.run.kept.length ck, .int .i64 sA.run.more, .bool sA.run.sticky] (by simp [Act.eval, Act.put]) (by simp [Act.eval, Act.put]) (HSc.out.grow (grownBy_drew _ none)) (by unfold maxLen; omega) (by omega) ?_; intro a2 c2 w2 hM2 hB2; have k5' : w2.cell? ⟨pt, 5, none⟩ = some (.slice ar G.length cr) := hM2.cell (i := 1) rfl 5 (by omega); have q5 := hM2.frozen (i := 1) rfl 5))
                  all_goals (try go_wp2)
                  all_goals go_meet
                  all_goals
                    exact ⟨a2, c2, hM2.setCell (i := 1) rfl 5 (.slice a2 (G.length + 1) c2), ((HBA.out.trans ((Below.refl _ _).alloc HMA.out.mem.size _)).drew.trans hB2).setCell HBt.out _⟩
                case rest =>
                  obtain ⟨a2, c2, hM9, hB9⟩ := hcut
                  clear t5 k11 k12 k13 k14
                  have k11 : wc.cell? ⟨pw, 11, none⟩ = some (.int .i64 sA.run.zeros) := hM9.cell (i := 0) rfl 11 (by omega)
                  have k12 : wc.cell? ⟨pw, 12, none⟩ = some (.slice ak sA.run.kept.length ck) := hM9.cell (i := 0) rfl 12 (by omega)
                  have k13 : wc.cell? ⟨pw, 13, none⟩ = some (.int .i64 sA.run.more) := hM9.cell (i := 0) rfl 13 (by omega)
                  have k14 : wc.cell? ⟨pw, 14, none⟩ = some (.bool sA.run.sticky) := hM9.cell (i := 0) rfl 14 (by omega)
                  have f11 := hM9.frozen (i := 0) rfl 11
                  have f12 := hM9.frozen (i := 0) rfl 12
                  have f13 := hM9.frozen (i := 0) rfl 13
                  have f14 := hM9.frozen (i := 0) rfl 14
                  have HM9 : Hid _ := hM9
                  have HB9 : Hid _ := hB9
                  clear hM9 hB9
                  go_wp2_with fail
                  go_meet
                  case rel =>
                    rw [if_pos (by omega)]
                    refine ⟨⟨.slice a' sA.out.length c', .slice ash sA.short.length csh, .slice none 0 0, vh, vsh, .slice a2 (G.length + 1) c2, G ++ [(.slice ak sA.run.kept.length ck, sA.run)], ?_, ?_⟩, (((HB9.out.setCell HB.out _).setCell HB.out _).setCell HB.out _).setCell HB.out _⟩
                    · have m := (((((HM9.out.move (i := 4) rfl).setCell (i := 0) rfl 11 (.int .i64 0)).setCell (i := 0) rfl 12 (.slice none 0 0)).setCell (i := 0) rfl 13 (.int .i64 0)).setCell (i := 0) rfl 14 (.bool false))
                      have e1 : (G ++ [(Value.slice ak sA.run.kept.length ck, sA.run)]).map (fun x => rowB x.1 x.2.kept) = G.map (fun x => rowB x.1 x.2.kept) ++ [rowB (Value.slice ak sA.run.kept.length ck) sA.run.kept] := by simp
                      have e2 : runCells (G ++ [(Value.slice ak sA.run.kept.length ck, sA.run)]) = runCells G ++ [.int .i64 sA.run.zeros, .slice ak sA.run.kept.length ck, .int .i64 sA.run.more, .bool sA.run.sticky] := by simp [runCells]
                      have e3 : (G ++ [(Value.slice ak sA.run.kept.length ck, sA.run)]).length = G.length + 1 := by simp
                      simp only [rows, e1, e2, e3]
                      exact m
                    · show (G ++ [(Value.slice ak sA.run.kept.length ck, sA.run)]).map (·.2) = sA.runs ++ [sA.run]
                      rw [List.map_append, HMA.out.runs]; rfl
              · go_wp2_with fail
                go_meet
                case rel =>
                  rw [if_neg (by omega)]
                  exact ⟨⟨_, _, _, _, _, _, _, HMA.out⟩, HBA.out⟩
            case rest =>
              obtain ⟨hWB, hBB⟩ := hcut
              obtain ⟨sB, hsB⟩ : ∃ sB, sB = (if nm < 3 then { sA with runs := sA.runs ++ [sA.run], run := ⟨0, [], 0, false⟩ } else sA : St) := ⟨_, rfl⟩
              rw [← hsB] at hWB
              have hB1 : sB.length = s.length := by rw [hsB, ← hlA]; split <;> rfl
              have hB2 : sB.shifts = s.shifts := by rw [hsB, ← HS0.out.2.2.2.2.2, hshA]; split <;> rfl
              have hB3 : sB.out.length ≤ 1073741824 := by rw [hsB]; split <;> (show sA.out.length ≤ _; omega)
              have HSB : Hid (sB = (if nm < 3 then { sA with runs := sA.runs ++ [sA.run], run := ⟨0, [], 0, false⟩ } else sA : St)) := hsB
              clear hsB
              obtain ⟨vo1, vs1, vk1, vh1, vsh1, vr1, G1, hMB⟩ := hWB
              obtain ⟨a1, c1, rfl, hc1⟩ := row_form hMB.oout
              obtain ⟨as2, cs2, rfl, hcs2⟩ := row_form hMB.oshifts
              have HMB : Hid (WrM wc B pw pt sB (.slice a1 sB.out.length c1) vs1 vk1 vh1 (.slice as2 sB.shifts.length cs2) vr1 G1) := hMB
              have HBB : Hid (Below B w wc) := hBB
              have k9 := hMB.cw 9 (by omega)
              have k4 := hMB.cw 4 (by omega)
              have t4 := hMB.ct 4 (by omega)
              simp only [wcells, tcells, List.getElem?_cons_succ, List.getElem?_cons_zero] at k9 k4 t4
              rw [hB1] at k9
              clear hMB hBB HMA
              have hln : (s.length : Int) ≤ 536870912 := by omega
              have hshl : sB.shifts.length ≤ 536870912 := by rw [hB2]; exact hsh
              obtain ⟨L, hL⟩ : ∃ L, L = lastBy sB.shifts := ⟨_, rfl⟩
              have hLb : -4611686018427387904 ≤ L ∧ L ≤ 4611686018427387904 := by rw [hL, hB2]; exact ⟨hb1, hb2⟩
              have HB2 : Hid (sB.shifts = s.shifts) := hB2
              have HB1 : Hid (sB.length = s.length) := hB1
              clear hB2 hB1
              have HL : Hid (L = lastBy sB.shifts) := hL
              clear hL
              go_upto_if 86 with fail
              go_cut [5] (fun t wx => t = .int .i64 ((s.length : Int) - (n : Int) + L) ∧ wx = wc)
              case first =>
                by_cases hz : (0 : Int) < (sB.shifts.length : Int)
                · obtain ⟨g, rfl⟩ : ∃ g, as2 = some ⟨g, 0, none⟩ := by
                    rcases HMB.out.oshifts.2 with ⟨h1, h2⟩ | ⟨g, cap, cur, h1, _⟩
                    · omega
                    · injection h1 with e1 _ _
                      exact ⟨g, e1⟩
                  have hcell : wc.cell? ⟨g, (sB.shifts.length - 1) * 2 + 1, none⟩ = some (.int .i64 L) := by
                    rw [HMB.out.oshifts.cellAt _ (by omega), HL.out]
                    exact shCells_last _ (by omega)
                  go_wp2_with fail
                  go_meet
                  case rel => exact ⟨rfl, rfl⟩
                · go_wp2_with fail
                  go_meet
                  case rel =>
                    have e : sB.shifts = [] := List.eq_nil_of_length_eq_zero (by omega)
                    have : L = 0 := by rw [HL.out, e]; rfl
                    rw [this]
                    exact ⟨by simp, rfl⟩
              case rest =>
                obtain ⟨rfl, rfl⟩ := hcut
                obtain ⟨Y, hY⟩ : ∃ Y : Int, Y = (s.length : Int) - (n : Int) + L := ⟨_, rfl⟩
                rw [← hY]
                have HY : Hid (Y = (s.length : Int) - (n : Int) + L) := hY
                clear hY
                obtain ⟨i6, hi6, hx0, hx1, hx2⟩ := info_parts info61
                have HSc : Hid (Src (wc.alloc (.cells #[.int .i64 sB.out.length, .int .i64 Y] 61)) (.slice (some ⟨wc.heap.size, 0, none⟩) 1 1) 1 [.int .i64 sB.out.length, .int .i64 Y] 2) := src_cells wc [.int .i64 sB.out.length, .int .i64 Y] 61 1 1 2 rfl (by intro u hu; simp at hu; rcases hu with rfl | rfl <;> rfl)
                have t4a : (wc.alloc (.cells #[.int .i64 sB.out.length, .int .i64 Y] 61)).cell? ⟨pt, 4, none⟩ = some (.slice as2 sB.shifts.length cs2) := (HMB.out.mem.grow (World.grownBy_alloc _ _ none)).cell (i := 1) rfl 4 (by omega)
                go_upto_region 15 with fail
                go_cut [111] (fun _ wx => WrV wx B pw pt sb ∧ Below B w wx)
                case first =>
                  go_region_law ((refine step_append_mem rfl (.tmp 102) (.tmp 110) 50 rfl ((HMB.out.mem.grow (World.grownBy_alloc _ _ none)).grow (grownBy_drew _ none)) 6 rfl i6 (.agg #[.int .i64 0, .int .i64 0]) 16 Tryd.underlying50 hi6 hx0 hx1 hx2 rfl (by decide) (.slice (some ⟨wc.heap.size, 0, none⟩) 1 1) 1 [.int .i64 sB.out.length, .int .i64 Y] (by simp [Act.eval, Act.put]) (by simp [Act.eval, Act.put]) (HSc.out.grow (grownBy_drew _ none)) (by unfold maxLen; omega) (by omega) ?_; intro a2 c2 w2 hM2 hB2; have k4' : w2.cell? ⟨pt, 4, none⟩ = some (.slice as2 sB.shifts.length cs2) := hM2.cell (i := 1) rfl 4 (by omega); have q4 := hM2.frozen (i := 1) rfl 4))
                  all_goals (try go_wp2)
                  all_goals go_meet
                  all_goals
                    have hsb : sb = { sB with shifts := sB.shifts ++ [(sB.out.length, Y)] } := by
                      obtain ⟨n1, n2, n3⟩ := HN.out
                      rw [HEb.out, HY.out, HL.out, ← HB1.out]
                      exact longRun_parts s0 sA sB nm n n1 n2 HSA.out HSB.out
                    rw [hsb]
                    refine ⟨⟨.slice a1 sB.out.length c1, vs1, vk1, vh1, .slice a2 (sB.shifts.length + 1) c2, vr1, G1, ?_, HMB.out.runs⟩, ((HBB.out.trans ((Below.refl _ _).alloc HMB.out.mem.size _)).drew.trans hB2).setCell HBt.out _⟩
                    have m := hM2.setCell (i := 1) rfl 4 (.slice a2 (sB.shifts.length + 1) c2)
                    have e1 : (sB.shifts ++ [(sB.out.length, Y)]).length = sB.shifts.length + 1 := by simp
                    have e2 : shCells (sB.shifts ++ [(sB.out.length, Y)]) = shCells sB.shifts ++ [.int .i64 sB.out.length, .int .i64 Y] := by rw [shCells_append]; rfl
                    simp only [rows, e1, e2]
                    exact m
                case rest =>
                  go_wp2
                  go_meet
                  case rel => exact hcut
      case rest =>
        obtain ⟨hW, hB1⟩ := hcut
        obtain ⟨vo1, vs1, vk1, vh1, vsh1, vr1, G1, hM1⟩ := hW
        clear c7 q7 c9 HM HM0
        have d4 := hM1.cw 4 (by omega)
        have d6 := hM1.cw 6 (by omega)
        have q6 := hM1.fw 6
        simp only [wcells, List.getElem?_cons_succ, List.getElem?_cons_zero] at d4 d6
        obtain ⟨ao, co, rfl, hco⟩ := row_form hM1.oout
        have HM1 : Hid (WrM wc B pw pt sb (.slice ao sb.out.length co) vs1 vk1 vh1 vsh1 vr1 G1) := hM1
        have HB1 : Hid (Below B w wc) := hB1
        clear hM1 hB1
        go_wp2_with fail
        go_meet
        case rel =>
          refine ⟨⟨.slice ao sb.out.length co, vs1, vk1, vh1, vsh1, vr1, G1, ?_, ?_⟩, HB1.out.setCell HB.out _⟩
          · rw [HE1.out]
            have m := HM1.out.mem.setCell (i := 0) rfl 6 (.bool (decide (512 ≤ sb.out.length)))
            have e : (decide ((512 : Int) ≤ (sb.out.length : Int))) = decide (512 ≤ sb.out.length) := by rw [decide_eq_decide]; omega
            rw [e]
            exact m
          · rw [HE1.out]; exact HM1.out.runs
  case rest =>
    obtain ⟨hW, hB1⟩ := hcut
    obtain ⟨vo1, vs1, vk1, vh1, vsh1, vr1, G1, hM1⟩ := hW
    clear c7 q7 HM
    have d15 := hM1.cw 15 (by omega)
    have q15 := hM1.fw 15
    simp only [wcells, List.getElem?_cons_succ, List.getElem?_cons_zero] at d15
    have HM1 : Hid (WrM wc B pw pt s1 vo1 vs1 vk1 vh1 vsh1 vr1 G1) := hM1
    have HB1 : Hid (Below B w wc) := hB1
    clear hM1 hB1
    cases hu : s1.und
    · rw [hu] at d15
      go_wp2_with fail
      go_end0
      refine ⟨rfl, ?_⟩
      have e : s2 = s1 := by rw [← H2.out]; unfold tail; rw [hu]; rfl
      rw [e]
      exact ⟨⟨_, _, _, _, _, _, _, HM1.out⟩, HB1.out⟩
    · rw [hu] at d15
      have HW2 : Hid (WrV (wc.setCell ⟨pw, 15, none⟩ (.bool false)) B pw pt { s1 with und := false }) := ⟨_, _, _, _, _, _, _, ⟨HM1.out.mem.setCell (i := 0) rfl 15 (.bool false), HM1.out.runs⟩⟩
      have hos : s1.out.length ≤ 1073741824 := hos1
      have hsp1 : s1.spaces ≤ 3 := hsp1
      go_wp2_with (go_at_call 21; refine (put_any _ B pw pt { s1 with und := false } 95 HW2.out hos hsp1).mono ?_; rintro e w3 ⟨rfl, hA⟩; have HA : Hid _ := hA; clear hA)
      go_end0
      refine ⟨rfl, ?_⟩
      have e : s2 = put { s1 with und := false } 95 := by rw [← H2.out]; unfold tail; rw [hu]; rfl
      rw [e]
      exact ⟨HA.out.1, (HB1.out.setCell HB.out _).trans HA.out.2⟩

theorem endRun_any (w : World) (B pw pt : Nat) (s : St) (k o : Nat) (h : WrV w B pw pt s) (hI : Inv s k o) (hk : k ≤ 1048576) (ho : o ≤ 268435456) :
    Calls Tryd.prog 25 #[.pointer (some ⟨pw, 0, none⟩)] w fun e w' => e = .returned (.tuple #[]) ∧ Aft w B pw pt (endRun s) w' := by
  have h1 := hI.out
  have h2 := hI.short
  have h3 := hI.len
  obtain ⟨D, hr, hD⟩ := hI.run
  have h4 : s.run.kept.length ≤ k := by rw [hr]; exact Nat.le_trans (valOf_kept _ _) hD
  have h5 := hI.shifts
  have h6 := hI.by1
  have h7 := hI.by2
  have hsl : s.shifts.length ≤ 1048576 := by split at h5 <;> omega
  have hq : Inv (if s.inRun then close s else s) k (o + 44) := by
    split
    · rename_i hi; exact hI.close hk hi
    · exact hI.mono (Nat.le_refl _) (by omega)
  refine end_in w B pw pt s { s with inRun := false } (if s.length ≤ 40 then { s with inRun := false, out := s.out ++ s.short } else longRun { s with inRun := false }) (if s.inRun then close s else s) (endRun s) rfl rfl ?_ rfl h (by omega) (by omega) (by split at h3 <;> omega) (by omega) hI.spaces hI.runs (by omega) (by omega) (by omega) (Nat.le_trans hq.out (by omega)) hq.spaces
  show (if s.inRun then close s else s) = _
  congr 1
end Go.Proofs.Qxb6616348aDoor
