import Derived.Test.Qxb6616348aDoorCmp
set_option linter.unusedSimpArgs false
set_option linter.unusedVariables false
namespace Go.Proofs.Qxb6616348aDoor
open Go.RowKit

set_option maxHeartbeats 2000000 in
set_option maxRecDepth 100000 in
theorem runOf_any (w : World) (v : Value) (r : Run) (hv : Rd w v r.kept) (hl : r.kept.length ≤ 1073741824) :
    Calls Tryd.prog 15 #[.agg #[.int .i64 r.zeros, v, .int .i64 r.more, .bool r.sticky]] w fun e w' => ∃ a c, e = .returned (.agg #[.int .i64 r.zeros, .slice a r.kept.length c, .int .i64 r.more, .bool r.sticky]) ∧ w'.ownsRow w.heap.size 5 1 (.slice a r.kept.length c) r.kept.length (cellsOf r.kept) ∧ Below w.heap.size w w' := by
  obtain ⟨a, c, rfl, hc⟩ := hv.len
  have HV : Hid (Rd w (.slice a r.kept.length c) r.kept) := hv
  clear hv
  obtain ⟨i0, hi, hz0, hz1, hz2⟩ := info_parts info5
  go_enter Tryd.func15, Tryd.ntmps15
  have HM : Hid (Mem ((w.alloc (.cells #[.int .i64 r.zeros, .slice a r.kept.length c, .int .i64 r.more, .bool r.sticky] 55)).alloc (.cells #[.int .i64 0, .slice none 0 0, .int .i64 0, .bool false] 28)) w.heap.size [⟨5, 1, .slice none 0 0, 0, []⟩, ⟨55, 4, ptr w.heap.size, 1, [.int .i64 r.zeros, .slice a r.kept.length c, .int .i64 r.more, .bool r.sticky]⟩, ⟨28, 4, ptr (w.heap.size + 1), 1, [.int .i64 0, .slice none 0 0, .int .i64 0, .bool false]⟩]) := by
    have m0 := mem_nil w w.heap.size 5 1 (Nat.le_refl _)
    have m1 := m0.add ⟨55, 4, ptr w.heap.size, 1, [.int .i64 r.zeros, .slice a r.kept.length c, .int .i64 r.more, .bool r.sticky]⟩ (World.ownsRow_lit (base := w.heap.size) (e := 55) (size := 4) w #[.int .i64 r.zeros, .slice a r.kept.length c, .int .i64 r.more, .bool r.sticky] 1 (Nat.le_refl _) (by unfold maxLen; omega) rfl) (World.grownBy_alloc _ _ none) (.inl rfl)
    have m2 := m1.add ⟨28, 4, ptr (w.heap.size + 1), 1, [.int .i64 0, .slice none 0 0, .int .i64 0, .bool false]⟩ (by
      have := World.ownsRow_lit (base := w.heap.size) (e := 28) (size := 4) (w.alloc (.cells #[.int .i64 r.zeros, .slice a r.kept.length c, .int .i64 r.more, .bool r.sticky] 55)) #[.int .i64 0, .slice none 0 0, .int .i64 0, .bool false] 1 (by rw [size_alloc]; omega) (by unfold maxLen; omega) rfl
      rw [size_alloc] at this
      exact this) (World.grownBy_alloc _ _ none) (.inl (by rw [size_alloc]; rfl))
    exact m2
  have HB0 : Hid (Below w.heap.size w ((w.alloc (.cells #[.int .i64 r.zeros, .slice a r.kept.length c, .int .i64 r.more, .bool r.sticky] 55)).alloc (.cells #[.int .i64 0, .slice none 0 0, .int .i64 0, .bool false] 28))) := ((Below.refl _ _).alloc (Nat.le_refl _) _).alloc (by rw [size_alloc]; omega) _
  go_upto_region 1 with fail
  go_cut [12] (fun _ wx => ∃ a' c', Mem wx w.heap.size [⟨5, 1, .slice a' r.kept.length c', r.kept.length, cellsOf r.kept⟩, ⟨55, 4, ptr w.heap.size, 1, [.int .i64 r.zeros, .slice a r.kept.length c, .int .i64 r.more, .bool r.sticky]⟩, ⟨28, 4, ptr (w.heap.size + 1), 1, [.int .i64 r.zeros, .slice a' r.kept.length c', .int .i64 r.more, .bool r.sticky]⟩] ∧ Below w.heap.size w wx)
  case first =>
    go_region_held3 (fun w' => w'.cell? ⟨w.heap.size, 0, none⟩ = some (.int .i64 r.zeros) ∧ w'.cell? ⟨w.heap.size, 1, none⟩ = some (.slice a r.kept.length c) ∧ w'.cell? ⟨w.heap.size, 2, none⟩ = some (.int .i64 r.more) ∧ w'.cell? ⟨w.heap.size, 3, none⟩ = some (.bool r.sticky))
      (first | go_keep | (exact ⟨k0, k1, k2, k3⟩))
      ((refine step_append_mem rfl (.const (.slice none 0 0)) (.tmp 6) 22 rfl (HM.out.grow (grownBy_drew _ none)) 0 rfl i0 (.int .u8 0) 1 Tryd.underlying22 hi hz0 hz1 hz2 rfl (by decide) (.slice a r.kept.length c) r.kept.length (cellsOf r.kept) (by simp [Act.eval, Act.put]) (by simp [Act.eval, Act.put]) ((HV.out.below HB0.out).src.grow (grownBy_drew _ none)) (by unfold maxLen; omega) (by omega) ?_; intro a' c' w2 hM2 hB2; rw [Nat.zero_add] at hM2 ⊢; have k0 : w2.cell? ⟨w.heap.size, 0, none⟩ = some (.int .i64 r.zeros) := hM2.cell (i := 1) rfl 0 (by omega); have k1 : w2.cell? ⟨w.heap.size, 1, none⟩ = some (.slice a r.kept.length c) := hM2.cell (i := 1) rfl 1 (by omega); have k2 : w2.cell? ⟨w.heap.size, 2, none⟩ = some (.int .i64 r.more) := hM2.cell (i := 1) rfl 2 (by omega); have k3 : w2.cell? ⟨w.heap.size, 3, none⟩ = some (.bool r.sticky) := hM2.cell (i := 1) rfl 3 (by omega); have j0 : w2.cell? ⟨w.heap.size + 1, 0, none⟩ = some (.int .i64 0) := hM2.cell (i := 2) rfl 0 (by omega); have j1 : w2.cell? ⟨w.heap.size + 1, 1, none⟩ = some (.slice none 0 0) := hM2.cell (i := 2) rfl 1 (by omega); have j2 : w2.cell? ⟨w.heap.size + 1, 2, none⟩ = some (.int .i64 0) := hM2.cell (i := 2) rfl 2 (by omega); have j3 : w2.cell? ⟨w.heap.size + 1, 3, none⟩ = some (.bool false) := hM2.cell (i := 2) rfl 3 (by omega); have f0 := hM2.frozen (i := 2) rfl 0; have f1 := hM2.frozen (i := 2) rfl 1; have f2 := hM2.frozen (i := 2) rfl 2; have f3 := hM2.frozen (i := 2) rfl 3))
    all_goals (try go_wp2)
    all_goals go_meet
    all_goals
      refine ⟨a', c', (((hM2.setCell (i := 2) rfl 0 (.int .i64 r.zeros)).setCell (i := 2) rfl 1 (.slice a' r.kept.length c')).setCell (i := 2) rfl 2 (.int .i64 r.more)).setCell (i := 2) rfl 3 (.bool r.sticky), ?_⟩
      exact ((((HB0.out.drew.trans hB2).setCell (by show w.heap.size ≤ w.heap.size + 1; omega) _).setCell (by show w.heap.size ≤ w.heap.size + 1; omega) _).setCell (by show w.heap.size ≤ w.heap.size + 1; omega) _).setCell (by show w.heap.size ≤ w.heap.size + 1; omega) _
  case rest =>
    obtain ⟨a', c', hM, hB⟩ := hcut
    have j0 : wc.cell? ⟨w.heap.size + 1, 0, none⟩ = some (.int .i64 r.zeros) := hM.cell (i := 2) rfl 0 (by omega)
    have j1 : wc.cell? ⟨w.heap.size + 1, 1, none⟩ = some (.slice a' r.kept.length c') := hM.cell (i := 2) rfl 1 (by omega)
    have j2 : wc.cell? ⟨w.heap.size + 1, 2, none⟩ = some (.int .i64 r.more) := hM.cell (i := 2) rfl 2 (by omega)
    have j3 : wc.cell? ⟨w.heap.size + 1, 3, none⟩ = some (.bool r.sticky) := hM.cell (i := 2) rfl 3 (by omega)
    have HM2 : Hid _ := hM
    have HB2 : Hid _ := hB
    clear hM hB
    go_wp2_with fail
    (try simp only [Exit.inBlock, Exit.then])
    refine bodyPost_ret (by simp [results, Tryd.results15, go_sem, j0, j1, j2, j3]; rfl) rfl ?_
    exact ⟨a', c', rfl, HM2.out.own 0 _ rfl, HB2.out⟩
end Go.Proofs.Qxb6616348aDoor
