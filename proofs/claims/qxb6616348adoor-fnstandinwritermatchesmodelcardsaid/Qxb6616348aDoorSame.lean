import Derived.Test.Qxb6616348aDoorCmp
set_option linter.unusedSimpArgs false
set_option linter.unusedVariables false
namespace Go.Proofs.Qxb6616348aDoor
open Go.RowKit

set_option maxHeartbeats 2000000 in
set_option maxRecDepth 100000 in
theorem sameRun_any (w : World) (va vb : Value) (r : Run) (ha : Rd w va r.kept) (hb : Rd w vb r.kept) (hl : r.kept.length ≤ 1073741824) :
    Calls Tryd.prog 19 #[.agg #[.int .i64 r.zeros, va, .int .i64 r.more, .bool r.sticky], .agg #[.int .i64 r.zeros, vb, .int .i64 r.more, .bool r.sticky]] w fun e w' => e = .returned (.bool true) ∧ Below w.heap.size w w' := by
  obtain ⟨a1, c1, rfl, hc1⟩ := ha.len
  obtain ⟨a2, c2, rfl, hc2⟩ := hb.len
  have HW : Hid (Below w.heap.size w ((w.alloc (.cells #[.int .i64 r.zeros, .slice a1 r.kept.length c1, .int .i64 r.more, .bool r.sticky] 28)).alloc (.cells #[.int .i64 r.zeros, .slice a2 r.kept.length c2, .int .i64 r.more, .bool r.sticky] 28))) := ((Below.refl _ _).alloc (Nat.le_refl _) _).alloc (by rw [size_alloc]; omega) _
  have HA : Hid (Rd ((w.alloc (.cells #[.int .i64 r.zeros, .slice a1 r.kept.length c1, .int .i64 r.more, .bool r.sticky] 28)).alloc (.cells #[.int .i64 r.zeros, .slice a2 r.kept.length c2, .int .i64 r.more, .bool r.sticky] 28)) (.slice a1 r.kept.length c1) r.kept) := ha.below HW.out
  have HB : Hid (Rd ((w.alloc (.cells #[.int .i64 r.zeros, .slice a1 r.kept.length c1, .int .i64 r.more, .bool r.sticky] 28)).alloc (.cells #[.int .i64 r.zeros, .slice a2 r.kept.length c2, .int .i64 r.more, .bool r.sticky] 28)) (.slice a2 r.kept.length c2) r.kept) := hb.below HW.out
  have HC : Hid (∀ w2, Below ((w.alloc (.cells #[.int .i64 r.zeros, .slice a1 r.kept.length c1, .int .i64 r.more, .bool r.sticky] 28)).alloc (.cells #[.int .i64 r.zeros, .slice a2 r.kept.length c2, .int .i64 r.more, .bool r.sticky] 28)).heap.size ((w.alloc (.cells #[.int .i64 r.zeros, .slice a1 r.kept.length c1, .int .i64 r.more, .bool r.sticky] 28)).alloc (.cells #[.int .i64 r.zeros, .slice a2 r.kept.length c2, .int .i64 r.more, .bool r.sticky] 28)) w2 → Below w.heap.size w w2 ∧ w2.cell? ⟨w.heap.size, 2, none⟩ = some (.int .i64 r.more) ∧ w2.cell? ⟨w.heap.size, 3, none⟩ = some (.bool r.sticky) ∧ w2.cell? ⟨w.heap.size + 1, 2, none⟩ = some (.int .i64 r.more) ∧ w2.cell? ⟨w.heap.size + 1, 3, none⟩ = some (.bool r.sticky)) := by
    show ∀ w2, _
    intro w2 h2
    have hs : ((w.alloc (.cells #[.int .i64 r.zeros, .slice a1 r.kept.length c1, .int .i64 r.more, .bool r.sticky] 28)).alloc (.cells #[.int .i64 r.zeros, .slice a2 r.kept.length c2, .int .i64 r.more, .bool r.sticky] 28)).heap.size = w.heap.size + 2 := by rw [size_alloc, size_alloc]
    have hA : ∀ j, w2.cell? ⟨w.heap.size, j, none⟩ = (#[Value.int .i64 r.zeros, .slice a1 r.kept.length c1, .int .i64 r.more, .bool r.sticky] : Array Value)[j]? := by
      intro j
      rw [h2.cell (p := ⟨w.heap.size, j, none⟩) (by rw [hs]; show w.heap.size < _; omega)]
      have h3 : Below (w.heap.size + 1) (w.alloc (.cells #[.int .i64 r.zeros, .slice a1 r.kept.length c1, .int .i64 r.more, .bool r.sticky] 28)) ((w.alloc (.cells #[.int .i64 r.zeros, .slice a1 r.kept.length c1, .int .i64 r.more, .bool r.sticky] 28)).alloc (.cells #[.int .i64 r.zeros, .slice a2 r.kept.length c2, .int .i64 r.more, .bool r.sticky] 28)) := (Below.refl _ _).alloc (by rw [size_alloc]; omega) _
      rw [h3.cell (p := ⟨w.heap.size, j, none⟩) (by show w.heap.size < _; omega), World.cell?_alloc_mark]
    have hB : ∀ j, w2.cell? ⟨w.heap.size + 1, j, none⟩ = (#[Value.int .i64 r.zeros, .slice a2 r.kept.length c2, .int .i64 r.more, .bool r.sticky] : Array Value)[j]? := by
      intro j
      rw [h2.cell (p := ⟨w.heap.size + 1, j, none⟩) (by rw [hs]; show w.heap.size + 1 < _; omega)]
      have := World.cell?_alloc_mark (w.alloc (.cells #[.int .i64 r.zeros, .slice a1 r.kept.length c1, .int .i64 r.more, .bool r.sticky] 28)) #[.int .i64 r.zeros, .slice a2 r.kept.length c2, .int .i64 r.more, .bool r.sticky] 28 (0, 0) j
      rw [size_alloc] at this
      exact this
    exact ⟨HW.out.trans (Below.mono h2 (by rw [hs]; omega)), hA 2, hA 3, hB 2, hB 3⟩
  clear ha hb
  go_enter Tryd.func19, Tryd.ntmps19
  go_wp2_with (go_at_call 10; refine (same_any _ (.slice a1 r.kept.length c1) (.slice a2 r.kept.length c2) r.kept HA.out HB.out hl).mono ?_; rintro e w2 ⟨rfl, h2⟩; obtain ⟨hb2, k2, k3, j2, j3⟩ := HC.out w2 h2; have HB2 : Hid _ := hb2; clear h2 hb2)
  go_ret
  exact ⟨rfl, HB2.out⟩
end Go.Proofs.Qxb6616348aDoor
