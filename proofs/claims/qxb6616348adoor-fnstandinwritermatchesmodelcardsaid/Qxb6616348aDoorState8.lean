import Derived.Test.Qxb6616348aDoorSta
set_option linter.unusedSimpArgs false
set_option linter.unusedVariables false
namespace Go.Proofs.Qxb6616348aDoor
open Go.RowKit

set_option maxHeartbeats 40000000 in
set_option maxRecDepth 100000 in
theorem state_any (w : World) (B pw pt : Nat) (t : St) (h : WrV w B pw pt t) (h1 : t.out.length ≤ 1073741824) (h2 : t.short.length ≤ 1073741824) (h3 : t.run.kept.length ≤ 1073741824) (h4 : t.head.length ≤ 1073741824) (h5 : t.shifts.length ≤ 1073741824) (h6 : t.runs.length ≤ 3) (h7 : ∀ r ∈ t.runs, r.kept.length ≤ 1073741824) :
    Calls Tryd.prog 8 #[.pointer (some ⟨pw, 0, none⟩)] w fun e w' => ∃ vo vs vk vh vsh vr G, e = .returned (.agg #[vo, .int .i64 t.spaces, .bool t.full, .bool t.inRun, .bool t.joins, .bool t.und, .bool t.ex, .bool t.mark, .int .i64 t.length, vs, .int .i64 t.run.zeros, vk, .int .i64 t.run.more, .bool t.run.sticky, vh, .int .i64 t.tlen, vsh, vr]) ∧ StR w' t vo vs vk vh vsh vr G ∧ Below w.heap.size w w' := by
  obtain ⟨uo, us, uk, uh, ush, ur, G0, hM⟩ := h
  have HM : Hid (WrM w B pw pt t uo us uk uh ush ur G0) := hM
  have hpw : pw < w.heap.size := ((hM.mem.own 0 _ rfl).lt pw rfl).2
  have hpt : pt < w.heap.size := ((hM.mem.own 1 _ rfl).lt pt rfl).2
  have HC : Hid (∀ W, Below w.heap.size w W → (∀ j, j < 16 → W.cell? ⟨pw, j, none⟩ = (wcells pt t uo us uk)[j]?) ∧ (∀ j, j < 6 → W.cell? ⟨pt, j, none⟩ = (tcells t uh ush ur)[j]?)) := by
    show ∀ W, _
    intro W hW
    exact ⟨fun j hj => by rw [hW.cell (p := ⟨pw, j, none⟩) hpw]; exact HM.out.cw j hj, fun j hj => by rw [hW.cell (p := ⟨pt, j, none⟩) hpt]; exact HM.out.ct j hj⟩
  have HRo : Hid (Rd w uo t.out) := own_rd hM.oout
  have HRs : Hid (Rd w us t.short) := own_rd hM.oshort
  have HRk : Hid (Rd w uk t.run.kept) := own_rd hM.okept
  have HRh : Hid (Rd w uh t.head) := own_rd hM.ohead
  obtain ⟨ao, co, rfl, hco⟩ := row_form hM.oout
  obtain ⟨as1, cs, rfl, hcs⟩ := row_form hM.oshort
  obtain ⟨ak, ck, rfl, hck⟩ := row_form hM.okept
  obtain ⟨ah, ch, rfl, hch⟩ := row_form hM.ohead
  clear hM
  obtain ⟨i0, hi, hz0, hz1, hz2⟩ := info_parts info5
  have HF0 : Hid (Mem (w.alloc (.cells zcells.toArray 32)) w.heap.size [⟨32, 18, ptr w.heap.size, 1, zcells⟩, ⟨32, 18, .slice none 0 0, 0, []⟩, ⟨5, 1, .slice none 0 0, 0, []⟩, ⟨5, 1, .slice none 0 0, 0, []⟩, ⟨5, 1, .slice none 0 0, 0, []⟩, ⟨5, 1, .slice none 0 0, 0, []⟩] ∧ Below w.heap.size w (w.alloc (.cells zcells.toArray 32))) := by
    have m0 : Mem w w.heap.size [] := ⟨fun i r hr => by simp at hr, fun i j r s _ hr => by simp at hr, Nat.le_refl _⟩
    have m1 := m0.add ⟨32, 18, ptr w.heap.size, 1, zcells⟩ (World.ownsRow_lit (base := w.heap.size) (e := 32) (size := 18) w zcells.toArray 1 (Nat.le_refl _) (by unfold maxLen; omega) rfl) (World.grownBy_alloc _ _ none) (.inl rfl)
    exact ⟨((((m1.addNil 32 18).addNil 5 1).addNil 5 1).addNil 5 1).addNil 5 1, (Below.refl _ _).alloc (Nat.le_refl _) _⟩
  have HS : Hid (∀ W, Below w.heap.size w W → W.cell? ⟨pw, 0, none⟩ = some (.pointer (some ⟨pt, 0, none⟩)) ∧ W.cell? ⟨pw, 2, none⟩ = some (.bool t.ex) ∧ W.cell? ⟨pw, 3, none⟩ = some (.bool t.mark) ∧ W.cell? ⟨pw, 4, none⟩ = some (.slice ao t.out.length co) ∧ W.cell? ⟨pw, 5, none⟩ = some (.int .i64 t.spaces) ∧ W.cell? ⟨pw, 6, none⟩ = some (.bool t.full) ∧ W.cell? ⟨pw, 7, none⟩ = some (.bool t.inRun) ∧ W.cell? ⟨pw, 8, none⟩ = some (.bool t.joins) ∧ W.cell? ⟨pw, 9, none⟩ = some (.int .i64 t.length) ∧ W.cell? ⟨pw, 10, none⟩ = some (.slice as1 t.short.length cs) ∧ W.cell? ⟨pw, 11, none⟩ = some (.int .i64 t.run.zeros) ∧ W.cell? ⟨pw, 12, none⟩ = some (.slice ak t.run.kept.length ck) ∧ W.cell? ⟨pw, 13, none⟩ = some (.int .i64 t.run.more) ∧ W.cell? ⟨pw, 14, none⟩ = some (.bool t.run.sticky) ∧ W.cell? ⟨pw, 15, none⟩ = some (.bool t.und) ∧ W.cell? ⟨pt, 0, none⟩ = some (.slice ah t.head.length ch) ∧ W.cell? ⟨pt, 1, none⟩ = some (.int .i64 t.tlen)) := by
    show ∀ W, _
    intro W hW
    obtain ⟨hcw, hct⟩ := HC.out W hW
    exact ⟨hcw 0 (by omega), hcw 2 (by omega), hcw 3 (by omega), hcw 4 (by omega), hcw 5 (by omega), hcw 6 (by omega), hcw 7 (by omega), hcw 8 (by omega), hcw 9 (by omega), hcw 10 (by omega), hcw 11 (by omega), hcw 12 (by omega), hcw 13 (by omega), hcw 14 (by omega), hcw 15 (by omega), hct 0 (by omega), hct 1 (by omega)⟩
  have hW0 := HS.out _ HF0.out.2
  simp only [zcells] at hW0
  obtain ⟨z0, z2, z3, z4, z5, z6, z7, z8, z9, z10, z11, z12, z13, z14, z15, y0, y1⟩ := hW0
  go_enter Tryd.func8, Tryd.ntmps8
  go_upto_region 1 with fail
  go_cut [3] (fun x wx => ∃ ps a2 c2 a3 c3 a4 c4 a5 c5, x = .pointer (some ⟨ps, 0, none⟩) ∧ Mem wx w.heap.size [⟨32, 18, ptr w.heap.size, 1, zcells⟩, ⟨32, 18, ptr ps, 1, scells t (.slice a2 t.out.length c2) (.slice a3 t.short.length c3) (.slice a4 t.run.kept.length c4) (.slice a5 t.head.length c5) (.slice none 0 0) (.slice none 0 0)⟩, rowB (.slice a2 t.out.length c2) t.out, rowB (.slice a3 t.short.length c3) t.short, rowB (.slice a4 t.run.kept.length c4) t.run.kept, rowB (.slice a5 t.head.length c5) t.head] ∧ Below w.heap.size w wx)
  case first =>
    simp only [List.append]
    have HF1d : Hid (FactM w (w.alloc (.cells #[.slice none 0 0, .int .i64 0, .bool false, .bool false, .bool false, .bool false, .bool false, .bool false, .int .i64 0, .slice none 0 0, .int .i64 0, .slice none 0 0, .int .i64 0, .bool false, .slice none 0 0, .int .i64 0, .slice none 0 0, .slice none 0 0] 32)).drew _) := ⟨HF0.out.1.grow (grownBy_drew _ none), HF0.out.2.drew⟩
    have HF1a : Hid (FactM w ((w.alloc (.cells #[.slice none 0 0, .int .i64 0, .bool false, .bool false, .bool false, .bool false, .bool false, .bool false, .int .i64 0, .slice none 0 0, .int .i64 0, .slice none 0 0, .int .i64 0, .bool false, .slice none 0 0, .int .i64 0, .slice none 0 0, .slice none 0 0] 32)).alloc (.cells #[.slice none 0 0, .int .i64 0, .bool false, .bool false, .bool false, .bool false, .bool false, .bool false, .int .i64 0, .slice none 0 0, .int .i64 0, .slice none 0 0, .int .i64 0, .bool false, .slice none 0 0, .int .i64 0, .slice none 0 0, .slice none 0 0] 32)).drew [⟨32, 18, ptr w.heap.size, 1, zcells⟩, ⟨32, 18, ptr (w.heap.size + 1), 1, zcells⟩, ⟨5, 1, .slice none 0 0, 0, []⟩, ⟨5, 1, .slice none 0 0, 0, []⟩, ⟨5, 1, .slice none 0 0, 0, []⟩, ⟨5, 1, .slice none 0 0, 0, []⟩]) := by
      have := allocd HF0.out #[.slice none 0 0, .int .i64 0, .bool false, .bool false, .bool false, .bool false, .bool false, .bool false, .int .i64 0, .slice none 0 0, .int .i64 0, .slice none 0 0, .int .i64 0, .bool false, .slice none 0 0, .int .i64 0, .slice none 0 0, .slice none 0 0] rfl
      rw [size_alloc] at this
      exact ⟨this.1.grow (grownBy_drew _ none), this.2.drew⟩
    clear z0 z2 z3 z4 z5 z6 z7 z8 z9 z10 z11 z12 z13 z14 z15 y0 y1
    refine region_M (fun W => W.cell? ⟨pw, 0, none⟩ = some (.pointer (some ⟨pt, 0, none⟩)) ∧ W.cell? ⟨pw, 2, none⟩ = some (.bool t.ex) ∧ W.cell? ⟨pw, 3, none⟩ = some (.bool t.mark) ∧ W.cell? ⟨pw, 4, none⟩ = some (.slice ao t.out.length co) ∧ W.cell? ⟨pw, 5, none⟩ = some (.int .i64 t.spaces) ∧ W.cell? ⟨pw, 6, none⟩ = some (.bool t.full) ∧ W.cell? ⟨pw, 7, none⟩ = some (.bool t.inRun) ∧ W.cell? ⟨pw, 8, none⟩ = some (.bool t.joins) ∧ W.cell? ⟨pw, 9, none⟩ = some (.int .i64 t.length) ∧ W.cell? ⟨pw, 10, none⟩ = some (.slice as1 t.short.length cs) ∧ W.cell? ⟨pw, 11, none⟩ = some (.int .i64 t.run.zeros) ∧ W.cell? ⟨pw, 12, none⟩ = some (.slice ak t.run.kept.length ck) ∧ W.cell? ⟨pw, 13, none⟩ = some (.int .i64 t.run.more) ∧ W.cell? ⟨pw, 14, none⟩ = some (.bool t.run.sticky) ∧ W.cell? ⟨pw, 15, none⟩ = some (.bool t.und) ∧ W.cell? ⟨pt, 0, none⟩ = some (.slice ah t.head.length ch) ∧ W.cell? ⟨pt, 1, none⟩ = some (.int .i64 t.tlen)) 64 (by kernel_rfl) ?_
    simp only [List.size_toArray, List.length_cons, List.length_nil, Nat.reduceAdd, Array.replicate_succ, Array.replicate_zero, List.push_toArray, List.append_toArray, List.nil_append, List.cons_append]
    refine anyM_take (i := 0) (v := ?vt0) rfl (by kernel_rfl) (by kernel_rfl) (by kernel_rfl) (by kernel_rfl) (fun _ _ _ h => h) (Or.inl ⟨by rfl, ?hyt0⟩) (HS.out _ HF1d.out.bel) ?restt0
    case hyt0 =>
      intro w hSw
      obtain ⟨z0, z2, z3, z4, z5, z6, z7, z8, z9, z10, z11, z12, z13, z14, z15, y0, y1⟩ := hSw
      go_simp
      try with_reducible rfl
    try simp only [Act.put, List.setIfInBounds_toArray, List.set_cons_zero, List.set_cons_succ]
    refine anyM_take (i := 1) (v := ?vt1) rfl (by kernel_rfl) (by kernel_rfl) (by kernel_rfl) (by kernel_rfl) (fun _ _ _ h => h) (Or.inl ⟨by rfl, ?hyt1⟩) (HS.out _ HF1d.out.bel) ?restt1
    case hyt1 =>
      intro w hSw
      obtain ⟨z0, z2, z3, z4, z5, z6, z7, z8, z9, z10, z11, z12, z13, z14, z15, y0, y1⟩ := hSw
      go_simp
      try with_reducible rfl
    try simp only [Act.put, List.setIfInBounds_toArray, List.set_cons_zero, List.set_cons_succ]
    refine anyM_take (i := 2) (v := ?vt2) rfl (by kernel_rfl) (by kernel_rfl) (by kernel_rfl) (by kernel_rfl) (fun _ _ _ h => h) (Or.inl ⟨by rfl, ?hyt2⟩) (HS.out _ HF1d.out.bel) ?restt2
    case hyt2 =>
      intro w hSw
      obtain ⟨z0, z2, z3, z4, z5, z6, z7, z8, z9, z10, z11, z12, z13, z14, z15, y0, y1⟩ := hSw
      go_simp
      try with_reducible rfl
    try simp only [Act.put, List.setIfInBounds_toArray, List.set_cons_zero, List.set_cons_succ]
    refine anyM_take (i := 3) (v := ?vt3) rfl (by kernel_rfl) (by kernel_rfl) (by kernel_rfl) (by kernel_rfl) (fun _ _ _ h => h) (Or.inl ⟨by rfl, ?hyt3⟩) (HS.out _ HF1d.out.bel) ?restt3
    case hyt3 =>
      intro w hSw
      obtain ⟨z0, z2, z3, z4, z5, z6, z7, z8, z9, z10, z11, z12, z13, z14, z15, y0, y1⟩ := hSw
      go_simp
      try with_reducible rfl
    try simp only [Act.put, List.setIfInBounds_toArray, List.set_cons_zero, List.set_cons_succ]
    refine anyM_take (i := 5) (v := ?vt5) rfl (by kernel_rfl) (by kernel_rfl) (by kernel_rfl) (by kernel_rfl) (fun _ _ _ h => h) (Or.inl ⟨by rfl, ?hyt5⟩) (HS.out _ HF1d.out.bel) ?restt5
    case hyt5 =>
      intro w hSw
      obtain ⟨z0, z2, z3, z4, z5, z6, z7, z8, z9, z10, z11, z12, z13, z14, z15, y0, y1⟩ := hSw
      go_simp
      try with_reducible rfl
    try simp only [Act.put, List.setIfInBounds_toArray, List.set_cons_zero, List.set_cons_succ]
    refine anyM_take (i := 6) (v := ?vt6) rfl (by kernel_rfl) (by kernel_rfl) (by kernel_rfl) (by kernel_rfl) (fun _ _ _ h => h) (Or.inl ⟨by rfl, ?hyt6⟩) (HS.out _ HF1d.out.bel) ?restt6
    case hyt6 =>
      intro w hSw
      obtain ⟨z0, z2, z3, z4, z5, z6, z7, z8, z9, z10, z11, z12, z13, z14, z15, y0, y1⟩ := hSw
      go_simp
      try with_reducible rfl
    try simp only [Act.put, List.setIfInBounds_toArray, List.set_cons_zero, List.set_cons_succ]
    refine anyM_take (i := 7) (v := ?vt7) rfl (by kernel_rfl) (by kernel_rfl) (by kernel_rfl) (by kernel_rfl) (fun _ _ _ h => h) (Or.inl ⟨by rfl, ?hyt7⟩) (HS.out _ HF1d.out.bel) ?restt7
    case hyt7 =>
      intro w hSw
      obtain ⟨z0, z2, z3, z4, z5, z6, z7, z8, z9, z10, z11, z12, z13, z14, z15, y0, y1⟩ := hSw
      go_simp
      try with_reducible rfl
    try simp only [Act.put, List.setIfInBounds_toArray, List.set_cons_zero, List.set_cons_succ]
    refine anyM_take (i := 8) (v := ?vt8) rfl (by kernel_rfl) (by kernel_rfl) (by kernel_rfl) (by kernel_rfl) (fun _ _ _ h => h) (Or.inl ⟨by rfl, ?hyt8⟩) (HS.out _ HF1d.out.bel) ?restt8
    case hyt8 =>
      intro w hSw
      obtain ⟨z0, z2, z3, z4, z5, z6, z7, z8, z9, z10, z11, z12, z13, z14, z15, y0, y1⟩ := hSw
      go_simp
      try with_reducible rfl
    try simp only [Act.put, List.setIfInBounds_toArray, List.set_cons_zero, List.set_cons_succ]
    refine anyM_take (i := 9) (v := ?vt9) rfl (by kernel_rfl) (by kernel_rfl) (by kernel_rfl) (by kernel_rfl) (fun _ _ _ h => h) (Or.inl ⟨by rfl, ?hyt9⟩) (HS.out _ HF1d.out.bel) ?restt9
    case hyt9 =>
      intro w hSw
      obtain ⟨z0, z2, z3, z4, z5, z6, z7, z8, z9, z10, z11, z12, z13, z14, z15, y0, y1⟩ := hSw
      go_simp
      try with_reducible rfl
    try simp only [Act.put, List.setIfInBounds_toArray, List.set_cons_zero, List.set_cons_succ]
    refine anyM_take (i := 10) (v := ?vt10) rfl (by kernel_rfl) (by kernel_rfl) (by kernel_rfl) (by kernel_rfl) (fun _ _ _ h => h) (Or.inl ⟨by rfl, ?hyt10⟩) (HS.out _ HF1d.out.bel) ?restt10
    case hyt10 =>
      intro w hSw
      obtain ⟨z0, z2, z3, z4, z5, z6, z7, z8, z9, z10, z11, z12, z13, z14, z15, y0, y1⟩ := hSw
      go_simp
      try with_reducible rfl
    try simp only [Act.put, List.setIfInBounds_toArray, List.set_cons_zero, List.set_cons_succ]
    refine anyM_take (i := 11) (v := ?vt11) rfl (by kernel_rfl) (by kernel_rfl) (by kernel_rfl) (by kernel_rfl) (fun _ _ _ h => h) (Or.inl ⟨by rfl, ?hyt11⟩) (HS.out _ HF1d.out.bel) ?restt11
    case hyt11 =>
      intro w hSw
      obtain ⟨z0, z2, z3, z4, z5, z6, z7, z8, z9, z10, z11, z12, z13, z14, z15, y0, y1⟩ := hSw
      go_simp
      try with_reducible rfl
    try simp only [Act.put, List.setIfInBounds_toArray, List.set_cons_zero, List.set_cons_succ]
    refine anyM_take (i := 12) (v := ?vt12) rfl (by kernel_rfl) (by kernel_rfl) (by kernel_rfl) (by kernel_rfl) (fun _ _ _ h => h) (Or.inl ⟨by rfl, ?hyt12⟩) (HS.out _ HF1d.out.bel) ?restt12
    case hyt12 =>
      intro w hSw
      obtain ⟨z0, z2, z3, z4, z5, z6, z7, z8, z9, z10, z11, z12, z13, z14, z15, y0, y1⟩ := hSw
      go_simp
      try with_reducible rfl
    try simp only [Act.put, List.setIfInBounds_toArray, List.set_cons_zero, List.set_cons_succ]
    refine anyM_take (i := 13) (v := ?vt13) rfl (by kernel_rfl) (by kernel_rfl) (by kernel_rfl) (by kernel_rfl) (fun _ _ _ h => h) (Or.inl ⟨by rfl, ?hyt13⟩) (HS.out _ HF1d.out.bel) ?restt13
    case hyt13 =>
      intro w hSw
      obtain ⟨z0, z2, z3, z4, z5, z6, z7, z8, z9, z10, z11, z12, z13, z14, z15, y0, y1⟩ := hSw
      go_simp
      try with_reducible rfl
    try simp only [Act.put, List.setIfInBounds_toArray, List.set_cons_zero, List.set_cons_succ]
    refine anyM_take (i := 14) (v := ?vt14) rfl (by kernel_rfl) (by kernel_rfl) (by kernel_rfl) (by kernel_rfl) (fun _ _ _ h => h) (Or.inl ⟨by rfl, ?hyt14⟩) (HS.out _ HF1d.out.bel) ?restt14
    case hyt14 =>
      intro w hSw
      obtain ⟨z0, z2, z3, z4, z5, z6, z7, z8, z9, z10, z11, z12, z13, z14, z15, y0, y1⟩ := hSw
      go_simp
      try with_reducible rfl
    try simp only [Act.put, List.setIfInBounds_toArray, List.set_cons_zero, List.set_cons_succ]
    refine anyM_take (i := 15) (v := ?vt15) rfl (by kernel_rfl) (by kernel_rfl) (by kernel_rfl) (by kernel_rfl) (fun _ _ _ h => h) (Or.inl ⟨by rfl, ?hyt15⟩) (HS.out _ HF1d.out.bel) ?restt15
    case hyt15 =>
      intro w hSw
      obtain ⟨z0, z2, z3, z4, z5, z6, z7, z8, z9, z10, z11, z12, z13, z14, z15, y0, y1⟩ := hSw
      go_simp
      try with_reducible rfl
    try simp only [Act.put, List.setIfInBounds_toArray, List.set_cons_zero, List.set_cons_succ]
    refine anyM_take (i := 16) (v := ?vt16) rfl (by kernel_rfl) (by kernel_rfl) (by kernel_rfl) (by kernel_rfl) (fun _ _ _ h => h) (Or.inl ⟨by rfl, ?hyt16⟩) (HS.out _ HF1d.out.bel) ?restt16
    case hyt16 =>
      intro w hSw
      obtain ⟨z0, z2, z3, z4, z5, z6, z7, z8, z9, z10, z11, z12, z13, z14, z15, y0, y1⟩ := hSw
      go_simp
      try with_reducible rfl
    try simp only [Act.put, List.setIfInBounds_toArray, List.set_cons_zero, List.set_cons_succ]
    refine anyM_take (i := 17) (v := ?vt17) rfl (by kernel_rfl) (by kernel_rfl) (by kernel_rfl) (by kernel_rfl) (fun _ _ _ h => h) (Or.inl ⟨by rfl, ?hyt17⟩) (HS.out _ HF1d.out.bel) ?restt17
    case hyt17 =>
      intro w hSw
      obtain ⟨z0, z2, z3, z4, z5, z6, z7, z8, z9, z10, z11, z12, z13, z14, z15, y0, y1⟩ := hSw
      go_simp
      try with_reducible rfl
    try simp only [Act.put, List.setIfInBounds_toArray, List.set_cons_zero, List.set_cons_succ]
    refine anyM_take (i := 18) (v := ?vt18) rfl (by kernel_rfl) (by kernel_rfl) (by kernel_rfl) (by kernel_rfl) (fun _ _ _ h => h) (Or.inl ⟨by rfl, ?hyt18⟩) (HS.out _ HF1d.out.bel) ?restt18
    case hyt18 =>
      intro w hSw
      obtain ⟨z0, z2, z3, z4, z5, z6, z7, z8, z9, z10, z11, z12, z13, z14, z15, y0, y1⟩ := hSw
      go_simp
      try with_reducible rfl
    try simp only [Act.put, List.setIfInBounds_toArray, List.set_cons_zero, List.set_cons_succ]
    refine anyM_take (i := 19) (v := ?vt19) rfl (by kernel_rfl) (by kernel_rfl) (by kernel_rfl) (by kernel_rfl) (fun _ _ _ h => h) (Or.inl ⟨by rfl, ?hyt19⟩) (HS.out _ HF1d.out.bel) ?restt19
    case hyt19 =>
      intro w hSw
      obtain ⟨z0, z2, z3, z4, z5, z6, z7, z8, z9, z10, z11, z12, z13, z14, z15, y0, y1⟩ := hSw
      go_simp
      try with_reducible rfl
    try simp only [Act.put, List.setIfInBounds_toArray, List.set_cons_zero, List.set_cons_succ]
    refine anyM_take (i := 20) (v := ?vt20) rfl (by kernel_rfl) (by kernel_rfl) (by kernel_rfl) (by kernel_rfl) (fun _ _ _ h => h) (Or.inl ⟨by rfl, ?hyt20⟩) (HS.out _ HF1d.out.bel) ?restt20
    case hyt20 =>
      intro w hSw
      obtain ⟨z0, z2, z3, z4, z5, z6, z7, z8, z9, z10, z11, z12, z13, z14, z15, y0, y1⟩ := hSw
      go_simp
      try with_reducible rfl
    try simp only [Act.put, List.setIfInBounds_toArray, List.set_cons_zero, List.set_cons_succ]
    refine anyM_take (i := 21) (v := ?vt21) rfl (by kernel_rfl) (by kernel_rfl) (by kernel_rfl) (by kernel_rfl) (fun _ _ _ h => h) (Or.inl ⟨by rfl, ?hyt21⟩) (HS.out _ HF1d.out.bel) ?restt21
    case hyt21 =>
      intro w hSw
      obtain ⟨z0, z2, z3, z4, z5, z6, z7, z8, z9, z10, z11, z12, z13, z14, z15, y0, y1⟩ := hSw
      go_simp
      try with_reducible rfl
    try simp only [Act.put, List.setIfInBounds_toArray, List.set_cons_zero, List.set_cons_succ]
    refine anyM_take (i := 22) (v := ?vt22) rfl (by kernel_rfl) (by kernel_rfl) (by kernel_rfl) (by kernel_rfl) (fun _ _ _ h => h) (Or.inl ⟨by rfl, ?hyt22⟩) (HS.out _ HF1d.out.bel) ?restt22
    case hyt22 =>
      intro w hSw
      obtain ⟨z0, z2, z3, z4, z5, z6, z7, z8, z9, z10, z11, z12, z13, z14, z15, y0, y1⟩ := hSw
      go_simp
      try with_reducible rfl
    try simp only [Act.put, List.setIfInBounds_toArray, List.set_cons_zero, List.set_cons_succ]
    refine anyM_take (i := 23) (v := ?vt23) rfl (by kernel_rfl) (by kernel_rfl) (by kernel_rfl) (by kernel_rfl) (fun _ _ _ h => h) (Or.inl ⟨by rfl, ?hyt23⟩) (HS.out _ HF1d.out.bel) ?restt23
    case hyt23 =>
      intro w hSw
      obtain ⟨z0, z2, z3, z4, z5, z6, z7, z8, z9, z10, z11, z12, z13, z14, z15, y0, y1⟩ := hSw
      go_simp
      try with_reducible rfl
    try simp only [Act.put, List.setIfInBounds_toArray, List.set_cons_zero, List.set_cons_succ]
    refine anyM_take (i := 24) (v := ?vt24) rfl (by kernel_rfl) (by kernel_rfl) (by kernel_rfl) (by kernel_rfl) (fun _ _ _ h => h) (Or.inl ⟨by rfl, ?hyt24⟩) (HS.out _ HF1d.out.bel) ?restt24
    case hyt24 =>
      intro w hSw
      obtain ⟨z0, z2, z3, z4, z5, z6, z7, z8, z9, z10, z11, z12, z13, z14, z15, y0, y1⟩ := hSw
      go_simp
      try with_reducible rfl
    try simp only [Act.put, List.setIfInBounds_toArray, List.set_cons_zero, List.set_cons_succ]
    refine anyM_take (i := 25) (v := ?vt25) rfl (by kernel_rfl) (by kernel_rfl) (by kernel_rfl) (by kernel_rfl) (fun _ _ _ h => h) (Or.inl ⟨by rfl, ?hyt25⟩) (HS.out _ HF1d.out.bel) ?restt25
    case hyt25 =>
      intro w hSw
      obtain ⟨z0, z2, z3, z4, z5, z6, z7, z8, z9, z10, z11, z12, z13, z14, z15, y0, y1⟩ := hSw
      go_simp
      try with_reducible rfl
    try simp only [Act.put, List.setIfInBounds_toArray, List.set_cons_zero, List.set_cons_succ]
    refine anyM_take (i := 26) (v := ?vt26) rfl (by kernel_rfl) (by kernel_rfl) (by kernel_rfl) (by kernel_rfl) (fun _ _ _ h => h) (Or.inl ⟨by rfl, ?hyt26⟩) (HS.out _ HF1d.out.bel) ?restt26
    case hyt26 =>
      intro w hSw
      obtain ⟨z0, z2, z3, z4, z5, z6, z7, z8, z9, z10, z11, z12, z13, z14, z15, y0, y1⟩ := hSw
      go_simp
      try with_reducible rfl
    try simp only [Act.put, List.setIfInBounds_toArray, List.set_cons_zero, List.set_cons_succ]
    refine anyM_take (i := 27) (v := ?vt27) rfl (by kernel_rfl) (by kernel_rfl) (by kernel_rfl) (by kernel_rfl) (fun _ _ _ h => h) (Or.inl ⟨by rfl, ?hyt27⟩) (HS.out _ HF1d.out.bel) ?restt27
    case hyt27 =>
      intro w hSw
      obtain ⟨z0, z2, z3, z4, z5, z6, z7, z8, z9, z10, z11, z12, z13, z14, z15, y0, y1⟩ := hSw
      go_simp
      try with_reducible rfl
    try simp only [Act.put, List.setIfInBounds_toArray, List.set_cons_zero, List.set_cons_succ]
    refine anyM_take (i := 28) (v := ?vt28) rfl (by kernel_rfl) (by kernel_rfl) (by kernel_rfl) (by kernel_rfl) (fun _ _ _ h => h) (Or.inl ⟨by rfl, ?hyt28⟩) (HS.out _ HF1d.out.bel) ?restt28
    case hyt28 =>
      intro w hSw
      obtain ⟨z0, z2, z3, z4, z5, z6, z7, z8, z9, z10, z11, z12, z13, z14, z15, y0, y1⟩ := hSw
      go_simp
      try with_reducible rfl
    try simp only [Act.put, List.setIfInBounds_toArray, List.set_cons_zero, List.set_cons_succ]
    refine anyM_take (i := 29) (v := ?vt29) rfl (by kernel_rfl) (by kernel_rfl) (by kernel_rfl) (by kernel_rfl) (fun _ _ _ h => h) (Or.inl ⟨by rfl, ?hyt29⟩) (HS.out _ HF1d.out.bel) ?restt29
    case hyt29 =>
      intro w hSw
      obtain ⟨z0, z2, z3, z4, z5, z6, z7, z8, z9, z10, z11, z12, z13, z14, z15, y0, y1⟩ := hSw
      go_simp
      try with_reducible rfl
    try simp only [Act.put, List.setIfInBounds_toArray, List.set_cons_zero, List.set_cons_succ]
    refine anyM_take (i := 30) (v := ?vt30) rfl (by kernel_rfl) (by kernel_rfl) (by kernel_rfl) (by kernel_rfl) (fun _ _ _ h => h) (Or.inl ⟨by rfl, ?hyt30⟩) (HS.out _ HF1d.out.bel) ?restt30
    case hyt30 =>
      intro w hSw
      obtain ⟨z0, z2, z3, z4, z5, z6, z7, z8, z9, z10, z11, z12, z13, z14, z15, y0, y1⟩ := hSw
      go_simp
      try with_reducible rfl
    try simp only [Act.put, List.setIfInBounds_toArray, List.set_cons_zero, List.set_cons_succ]
    refine anyM_take (i := 31) (v := ?vt31) rfl (by kernel_rfl) (by kernel_rfl) (by kernel_rfl) (by kernel_rfl) (fun _ _ _ h => h) (Or.inl ⟨by rfl, ?hyt31⟩) (HS.out _ HF1d.out.bel) ?restt31
    case hyt31 =>
      intro w hSw
      obtain ⟨z0, z2, z3, z4, z5, z6, z7, z8, z9, z10, z11, z12, z13, z14, z15, y0, y1⟩ := hSw
      go_simp
      try with_reducible rfl
    try simp only [Act.put, List.setIfInBounds_toArray, List.set_cons_zero, List.set_cons_succ]
    refine anyM_take (i := 32) (v := ?vt32) rfl (by kernel_rfl) (by kernel_rfl) (by kernel_rfl) (by kernel_rfl) (fun _ _ _ h => h) (Or.inl ⟨by rfl, ?hyt32⟩) (HS.out _ HF1d.out.bel) ?restt32
    case hyt32 =>
      intro w hSw
      obtain ⟨z0, z2, z3, z4, z5, z6, z7, z8, z9, z10, z11, z12, z13, z14, z15, y0, y1⟩ := hSw
      go_simp
      try with_reducible rfl
    try simp only [Act.put, List.setIfInBounds_toArray, List.set_cons_zero, List.set_cons_succ]
    refine anyM_take (i := 33) (v := ?vt33) rfl (by kernel_rfl) (by kernel_rfl) (by kernel_rfl) (by kernel_rfl) (fun _ _ _ h => h) (Or.inl ⟨by rfl, ?hyt33⟩) (HS.out _ HF1d.out.bel) ?restt33
    case hyt33 =>
      intro w hSw
      obtain ⟨z0, z2, z3, z4, z5, z6, z7, z8, z9, z10, z11, z12, z13, z14, z15, y0, y1⟩ := hSw
      go_simp
      try with_reducible rfl
    try simp only [Act.put, List.setIfInBounds_toArray, List.set_cons_zero, List.set_cons_succ]
    refine anyM_take (i := 34) (v := ?vt34) rfl (by kernel_rfl) (by kernel_rfl) (by kernel_rfl) (by kernel_rfl) (fun _ _ _ h => h) (Or.inl ⟨by rfl, ?hyt34⟩) (HS.out _ HF1d.out.bel) ?restt34
    case hyt34 =>
      intro w hSw
      obtain ⟨z0, z2, z3, z4, z5, z6, z7, z8, z9, z10, z11, z12, z13, z14, z15, y0, y1⟩ := hSw
      go_simp
      try with_reducible rfl
    try simp only [Act.put, List.setIfInBounds_toArray, List.set_cons_zero, List.set_cons_succ]
    refine anyM_take (i := 35) (v := ?vt35) rfl (by kernel_rfl) (by kernel_rfl) (by kernel_rfl) (by kernel_rfl) (fun _ _ _ h => h) (Or.inl ⟨by rfl, ?hyt35⟩) (HS.out _ HF1d.out.bel) ?restt35
    case hyt35 =>
      intro w hSw
      obtain ⟨z0, z2, z3, z4, z5, z6, z7, z8, z9, z10, z11, z12, z13, z14, z15, y0, y1⟩ := hSw
      go_simp
      try with_reducible rfl
    try simp only [Act.put, List.setIfInBounds_toArray, List.set_cons_zero, List.set_cons_succ]
    refine anyM_take (i := 36) (v := ?vt36) rfl (by kernel_rfl) (by kernel_rfl) (by kernel_rfl) (by kernel_rfl) (fun _ _ _ h => h) (Or.inl ⟨by rfl, ?hyt36⟩) (HS.out _ HF1d.out.bel) ?restt36
    case hyt36 =>
      intro w hSw
      obtain ⟨z0, z2, z3, z4, z5, z6, z7, z8, z9, z10, z11, z12, z13, z14, z15, y0, y1⟩ := hSw
      go_simp
      try with_reducible rfl
    try simp only [Act.put, List.setIfInBounds_toArray, List.set_cons_zero, List.set_cons_succ]
    refine anyM_take (i := 37) (v := ?vt37) rfl (by kernel_rfl) (by kernel_rfl) (by kernel_rfl) (by kernel_rfl) (fun _ _ _ h => h) (Or.inl ⟨by rfl, ?hyt37⟩) (HS.out _ HF1d.out.bel) ?restt37
    case hyt37 =>
      intro w hSw
      obtain ⟨z0, z2, z3, z4, z5, z6, z7, z8, z9, z10, z11, z12, z13, z14, z15, y0, y1⟩ := hSw
      go_simp
      try with_reducible rfl
    try simp only [Act.put, List.setIfInBounds_toArray, List.set_cons_zero, List.set_cons_succ]
    refine anyM_take (i := 38) (v := ?vt38) rfl (by kernel_rfl) (by kernel_rfl) (by kernel_rfl) (by kernel_rfl) (fun _ _ _ h => h) (Or.inl ⟨by rfl, ?hyt38⟩) (HS.out _ HF1d.out.bel) ?restt38
    case hyt38 =>
      intro w hSw
      obtain ⟨z0, z2, z3, z4, z5, z6, z7, z8, z9, z10, z11, z12, z13, z14, z15, y0, y1⟩ := hSw
      go_simp
      try with_reducible rfl
    try simp only [Act.put, List.setIfInBounds_toArray, List.set_cons_zero, List.set_cons_succ]
    refine anyM_take (i := 39) (v := ?vt39) rfl (by kernel_rfl) (by kernel_rfl) (by kernel_rfl) (by kernel_rfl) (fun _ _ _ h => h) (Or.inl ⟨by rfl, ?hyt39⟩) (HS.out _ HF1d.out.bel) ?restt39
    case hyt39 =>
      intro w hSw
      obtain ⟨z0, z2, z3, z4, z5, z6, z7, z8, z9, z10, z11, z12, z13, z14, z15, y0, y1⟩ := hSw
      go_simp
      try with_reducible rfl
    try simp only [Act.put, List.setIfInBounds_toArray, List.set_cons_zero, List.set_cons_succ]
    refine anyM_take (i := 40) (v := ?vt40) rfl (by kernel_rfl) (by kernel_rfl) (by kernel_rfl) (by kernel_rfl) (fun _ _ _ h => h) (Or.inl ⟨by rfl, ?hyt40⟩) (HS.out _ HF1d.out.bel) ?restt40
    case hyt40 =>
      intro w hSw
      obtain ⟨z0, z2, z3, z4, z5, z6, z7, z8, z9, z10, z11, z12, z13, z14, z15, y0, y1⟩ := hSw
      go_simp
      try with_reducible rfl
    try simp only [Act.put, List.setIfInBounds_toArray, List.set_cons_zero, List.set_cons_succ]
    refine anyM_take (i := 42) (v := ?vt42) rfl (by kernel_rfl) (by kernel_rfl) (by kernel_rfl) (by kernel_rfl) (fun _ _ _ h => h) (Or.inl ⟨by rfl, ?hyt42⟩) (HS.out _ HF1d.out.bel) ?restt42
    case hyt42 =>
      intro w hSw
      obtain ⟨z0, z2, z3, z4, z5, z6, z7, z8, z9, z10, z11, z12, z13, z14, z15, y0, y1⟩ := hSw
      go_simp
      try with_reducible rfl
    try simp only [Act.put, List.setIfInBounds_toArray, List.set_cons_zero, List.set_cons_succ]
    refine anyM_take (i := 43) (v := ?vt43) rfl (by kernel_rfl) (by kernel_rfl) (by kernel_rfl) (by kernel_rfl) (fun _ _ _ h => h) (Or.inl ⟨by rfl, ?hyt43⟩) (HS.out _ HF1d.out.bel) ?restt43
    case hyt43 =>
      intro w hSw
      obtain ⟨z0, z2, z3, z4, z5, z6, z7, z8, z9, z10, z11, z12, z13, z14, z15, y0, y1⟩ := hSw
      go_simp
      try with_reducible rfl
    try simp only [Act.put, List.setIfInBounds_toArray, List.set_cons_zero, List.set_cons_succ]
    refine anyM_take (i := 44) (v := ?vt44) rfl (by kernel_rfl) (by kernel_rfl) (by kernel_rfl) (by kernel_rfl) (fun _ _ _ h => h) (Or.inl ⟨by rfl, ?hyt44⟩) (HS.out _ HF1d.out.bel) ?restt44
    case hyt44 =>
      intro w hSw
      obtain ⟨z0, z2, z3, z4, z5, z6, z7, z8, z9, z10, z11, z12, z13, z14, z15, y0, y1⟩ := hSw
      go_simp
      try with_reducible rfl
    try simp only [Act.put, List.setIfInBounds_toArray, List.set_cons_zero, List.set_cons_succ]
    refine anyM_take (i := 45) (v := ?vt45) rfl (by kernel_rfl) (by kernel_rfl) (by kernel_rfl) (by kernel_rfl) (fun _ _ _ h => h) (Or.inl ⟨by rfl, ?hyt45⟩) (HS.out _ HF1d.out.bel) ?restt45
    case hyt45 =>
      intro w hSw
      obtain ⟨z0, z2, z3, z4, z5, z6, z7, z8, z9, z10, z11, z12, z13, z14, z15, y0, y1⟩ := hSw
      go_simp
      try with_reducible rfl
    try simp only [Act.put, List.setIfInBounds_toArray, List.set_cons_zero, List.set_cons_succ]
    refine anyM_take (i := 47) (v := ?vt47) rfl (by kernel_rfl) (by kernel_rfl) (by kernel_rfl) (by kernel_rfl) (fun _ _ _ h => h) (Or.inl ⟨by rfl, ?hyt47⟩) (HS.out _ HF1d.out.bel) ?restt47
    case hyt47 =>
      intro w hSw
      obtain ⟨z0, z2, z3, z4, z5, z6, z7, z8, z9, z10, z11, z12, z13, z14, z15, y0, y1⟩ := hSw
      go_simp
      try with_reducible rfl
    try simp only [Act.put, List.setIfInBounds_toArray, List.set_cons_zero, List.set_cons_succ]
    refine anyM_take (i := 48) (v := ?vt48) rfl (by kernel_rfl) (by kernel_rfl) (by kernel_rfl) (by kernel_rfl) (fun _ _ _ h => h) (Or.inl ⟨by rfl, ?hyt48⟩) (HS.out _ HF1d.out.bel) ?restt48
    case hyt48 =>
      intro w hSw
      obtain ⟨z0, z2, z3, z4, z5, z6, z7, z8, z9, z10, z11, z12, z13, z14, z15, y0, y1⟩ := hSw
      go_simp
      try with_reducible rfl
    try simp only [Act.put, List.setIfInBounds_toArray, List.set_cons_zero, List.set_cons_succ]
    refine anyM_take (i := 49) (v := ?vt49) rfl (by kernel_rfl) (by kernel_rfl) (by kernel_rfl) (by kernel_rfl) (fun _ _ _ h => h) (Or.inl ⟨by rfl, ?hyt49⟩) (HS.out _ HF1d.out.bel) ?restt49
    case hyt49 =>
      intro w hSw
      obtain ⟨z0, z2, z3, z4, z5, z6, z7, z8, z9, z10, z11, z12, z13, z14, z15, y0, y1⟩ := hSw
      go_simp
      try with_reducible rfl
    try simp only [Act.put, List.setIfInBounds_toArray, List.set_cons_zero, List.set_cons_succ]
    refine anyM_take (i := 50) (v := ?vt50) rfl (by kernel_rfl) (by kernel_rfl) (by kernel_rfl) (by kernel_rfl) (fun _ _ _ h => h) (Or.inl ⟨by rfl, ?hyt50⟩) (HS.out _ HF1d.out.bel) ?restt50
    case hyt50 =>
      intro w hSw
      obtain ⟨z0, z2, z3, z4, z5, z6, z7, z8, z9, z10, z11, z12, z13, z14, z15, y0, y1⟩ := hSw
      go_simp
      try with_reducible rfl
    try simp only [Act.put, List.setIfInBounds_toArray, List.set_cons_zero, List.set_cons_succ]
    refine anyM_take (i := 51) (v := ?vt51) rfl (by kernel_rfl) (by kernel_rfl) (by kernel_rfl) (by kernel_rfl) (fun _ _ _ h => h) (Or.inl ⟨by rfl, ?hyt51⟩) (HS.out _ HF1d.out.bel) ?restt51
    case hyt51 =>
      intro w hSw
      obtain ⟨z0, z2, z3, z4, z5, z6, z7, z8, z9, z10, z11, z12, z13, z14, z15, y0, y1⟩ := hSw
      go_simp
      try with_reducible rfl
    try simp only [Act.put, List.setIfInBounds_toArray, List.set_cons_zero, List.set_cons_succ]
    refine anyM_take (i := 52) (v := ?vt52) rfl (by kernel_rfl) (by kernel_rfl) (by kernel_rfl) (by kernel_rfl) (fun _ _ _ h => h) (Or.inl ⟨by rfl, ?hyt52⟩) (HS.out _ HF1d.out.bel) ?restt52
    case hyt52 =>
      intro w hSw
      obtain ⟨z0, z2, z3, z4, z5, z6, z7, z8, z9, z10, z11, z12, z13, z14, z15, y0, y1⟩ := hSw
      go_simp
      try with_reducible rfl
    try simp only [Act.put, List.setIfInBounds_toArray, List.set_cons_zero, List.set_cons_succ]
    refine anyM_take (i := 53) (v := ?vt53) rfl (by kernel_rfl) (by kernel_rfl) (by kernel_rfl) (by kernel_rfl) (fun _ _ _ h => h) (Or.inl ⟨by rfl, ?hyt53⟩) (HS.out _ HF1d.out.bel) ?restt53
    case hyt53 =>
      intro w hSw
      obtain ⟨z0, z2, z3, z4, z5, z6, z7, z8, z9, z10, z11, z12, z13, z14, z15, y0, y1⟩ := hSw
      go_simp
      try with_reducible rfl
    try simp only [Act.put, List.setIfInBounds_toArray, List.set_cons_zero, List.set_cons_succ]
    refine anyM_take (i := 55) (v := ?vt55) rfl (by kernel_rfl) (by kernel_rfl) (by kernel_rfl) (by kernel_rfl) (fun _ _ _ h => h) (Or.inl ⟨by rfl, ?hyt55⟩) (HS.out _ HF1d.out.bel) ?restt55
    case hyt55 =>
      intro w hSw
      obtain ⟨z0, z2, z3, z4, z5, z6, z7, z8, z9, z10, z11, z12, z13, z14, z15, y0, y1⟩ := hSw
      go_simp
      try with_reducible rfl
    try simp only [Act.put, List.setIfInBounds_toArray, List.set_cons_zero, List.set_cons_succ]
    refine anyM_take (i := 56) (v := ?vt56) rfl (by kernel_rfl) (by kernel_rfl) (by kernel_rfl) (by kernel_rfl) (fun _ _ _ h => h) (Or.inl ⟨by rfl, ?hyt56⟩) (HS.out _ HF1d.out.bel) ?restt56
    case hyt56 =>
      intro w hSw
      obtain ⟨z0, z2, z3, z4, z5, z6, z7, z8, z9, z10, z11, z12, z13, z14, z15, y0, y1⟩ := hSw
      go_simp
      try with_reducible rfl
    try simp only [Act.put, List.setIfInBounds_toArray, List.set_cons_zero, List.set_cons_succ]
    refine anyM_take (i := 57) (v := ?vt57) rfl (by kernel_rfl) (by kernel_rfl) (by kernel_rfl) (by kernel_rfl) (fun _ _ _ h => h) (Or.inl ⟨by rfl, ?hyt57⟩) (HS.out _ HF1d.out.bel) ?restt57
    case hyt57 =>
      intro w hSw
      obtain ⟨z0, z2, z3, z4, z5, z6, z7, z8, z9, z10, z11, z12, z13, z14, z15, y0, y1⟩ := hSw
      go_simp
      try with_reducible rfl
    try simp only [Act.put, List.setIfInBounds_toArray, List.set_cons_zero, List.set_cons_succ]
    refine anyM_take (i := 58) (v := ?vt58) rfl (by kernel_rfl) (by kernel_rfl) (by kernel_rfl) (by kernel_rfl) (fun _ _ _ h => h) (Or.inl ⟨by rfl, ?hyt58⟩) (HS.out _ HF1d.out.bel) ?restt58
    case hyt58 =>
      intro w hSw
      obtain ⟨z0, z2, z3, z4, z5, z6, z7, z8, z9, z10, z11, z12, z13, z14, z15, y0, y1⟩ := hSw
      go_simp
      try with_reducible rfl
    try simp only [Act.put, List.setIfInBounds_toArray, List.set_cons_zero, List.set_cons_succ]
    refine anyM_take (i := 59) (v := ?vt59) rfl (by kernel_rfl) (by kernel_rfl) (by kernel_rfl) (by kernel_rfl) (fun _ _ _ h => h) (Or.inl ⟨by rfl, ?hyt59⟩) (HS.out _ HF1d.out.bel) ?restt59
    case hyt59 =>
      intro w hSw
      obtain ⟨z0, z2, z3, z4, z5, z6, z7, z8, z9, z10, z11, z12, z13, z14, z15, y0, y1⟩ := hSw
      go_simp
      try with_reducible rfl
    try simp only [Act.put, List.setIfInBounds_toArray, List.set_cons_zero, List.set_cons_succ]
    refine anyM_take (i := 60) (v := ?vt60) rfl (by kernel_rfl) (by kernel_rfl) (by kernel_rfl) (by kernel_rfl) (fun _ _ _ h => h) (Or.inl ⟨by rfl, ?hyt60⟩) (HS.out _ HF1d.out.bel) ?restt60
    case hyt60 =>
      intro w hSw
      obtain ⟨z0, z2, z3, z4, z5, z6, z7, z8, z9, z10, z11, z12, z13, z14, z15, y0, y1⟩ := hSw
      go_simp
      try with_reducible rfl
    try simp only [Act.put, List.setIfInBounds_toArray, List.set_cons_zero, List.set_cons_succ]
    refine anyM_take (i := 61) (v := ?vt61) rfl (by kernel_rfl) (by kernel_rfl) (by kernel_rfl) (by kernel_rfl) (fun _ _ _ h => h) (Or.inl ⟨by rfl, ?hyt61⟩) (HS.out _ HF1d.out.bel) ?restt61
    case hyt61 =>
      intro w hSw
      obtain ⟨z0, z2, z3, z4, z5, z6, z7, z8, z9, z10, z11, z12, z13, z14, z15, y0, y1⟩ := hSw
      go_simp
      try with_reducible rfl
    try simp only [Act.put, List.setIfInBounds_toArray, List.set_cons_zero, List.set_cons_succ]
    refine anyM_two (i := 4) (j := 63) (oi := ⟨some 10, .call { callee := .builtin .append, args := #[.const (.slice none 0 0), .tmp 9], argTypes := #[22, 22] }, 22, "zzexport.go:84", _, none⟩) (oj := ⟨some 3, .alloc 32, 0, "zzexport.go:84", _, none⟩) rfl rfl (by kernel_rfl) (fun K hK => ?_) (fun K hK => ?_)
    · skip
      refine step_append_nil rfl (.const (.slice none 0 0)) (.tmp 9) 22 rfl HF1d.out.mem 2 rfl i0 (.int .u8 0) 1 Tryd.underlying22 hi hz0 hz1 hz2 rfl (by decide) (.slice ao t.out.length co) t.out.length (cellsOf t.out) (by simp [Act.eval, Act.put]) (by simp [Act.eval, Act.put]) (HRo.out.below HF1d.out.bel).src (by unfold maxLen; omega) (by omega) ?_
      intro a2 c2 w2 hM2 hB2
      have HF2 : Hid (FactM w w2 _) := ⟨hM2, HF1d.out.bel.trans hB2⟩
      clear hM2 hB2
      refine hK.out _ _ (fun _ => HS.out _ HF2.out.bel) ?_
      clear hK
      try simp only [Act.put, List.setIfInBounds_toArray, List.set_cons_zero, List.set_cons_succ]
      refine anyM_two (i := 41) (j := 63) (oi := ⟨some 47, .call { callee := .builtin .append, args := #[.const (.slice none 0 0), .tmp 46], argTypes := #[22, 22] }, 22, "zzexport.go:84", _, none⟩) (oj := ⟨some 3, .alloc 32, 0, "zzexport.go:84", _, none⟩) rfl rfl (by kernel_rfl) (fun K hK => ?_) (fun K hK => ?_)
      · skip
        refine step_append_nil rfl (.const (.slice none 0 0)) (.tmp 46) 22 rfl HF2.out.mem 3 rfl i0 (.int .u8 0) 1 Tryd.underlying22 hi hz0 hz1 hz2 rfl (by decide) (.slice as1 t.short.length cs) t.short.length (cellsOf t.short) (by simp [Act.eval, Act.put]) (by simp [Act.eval, Act.put]) (HRs.out.below HF2.out.bel).src (by unfold maxLen; omega) (by omega) ?_
        intro a3 c3 w3 hM2 hB2
        have HF3 : Hid (FactM w w3 _) := ⟨hM2, HF2.out.bel.trans hB2⟩
        clear hM2 hB2
        refine hK.out _ _ (fun _ => HS.out _ HF3.out.bel) ?_
        clear hK
        try simp only [Act.put, List.setIfInBounds_toArray, List.set_cons_zero, List.set_cons_succ]
        refine anyM_two (i := 46) (j := 63) (oi := ⟨some 52, .call { callee := .value (.func 15), args := #[.tmp 51], argTypes := #[55] }, 28, "zzexport.go:95", _, none⟩) (oj := ⟨some 3, .alloc 32, 0, "zzexport.go:84", _, none⟩) rfl rfl (by kernel_rfl) (fun K hK => ?_) (fun K hK => ?_)
        · skip
          rw [if_pos (by rfl)]
          go_simp
          refine (runOf_any _ (.slice ak t.run.kept.length ck) t.run (HRk.out.below HF3.out.bel) h3).mono ?_
          rintro e w4 ⟨a4, c4, rfl, hO4, hB4⟩
          have HF4 : Hid (FactM w w4 _) := ⟨HF3.out.mem.putB 4 rfl (rowB (.slice a4 t.run.kept.length c4) t.run.kept) hO4 hB4, HF3.out.bel.trans (Below.mono hB4 HF3.out.bel.size)⟩
          clear hO4 hB4
          dsimp only
          refine hK.out _ _ (fun _ => HS.out _ HF4.out.bel) ?_
          clear hK
          try simp only [Act.put, List.setIfInBounds_toArray, List.set_cons_zero, List.set_cons_succ]
          refine anyM_two (i := 54) (j := 63) (oi := ⟨some 60, .call { callee := .builtin .append, args := #[.const (.slice none 0 0), .tmp 59], argTypes := #[22, 22] }, 22, "zzexport.go:84", _, none⟩) (oj := ⟨some 3, .alloc 32, 0, "zzexport.go:84", _, none⟩) rfl rfl (by kernel_rfl) (fun K hK => ?_) (fun K hK => ?_)
          · skip
            refine step_append_nil rfl (.const (.slice none 0 0)) (.tmp 59) 22 rfl HF4.out.mem 5 rfl i0 (.int .u8 0) 1 Tryd.underlying22 hi hz0 hz1 hz2 rfl (by decide) (.slice ah t.head.length ch) t.head.length (cellsOf t.head) (by simp [Act.eval, Act.put]) (by simp [Act.eval, Act.put]) (HRh.out.below HF4.out.bel).src (by unfold maxLen; omega) (by omega) ?_
            intro a5 c5 w5 hM2 hB2
            have HF5 : Hid (FactM w w5 _) := ⟨hM2, HF4.out.bel.trans hB2⟩
            clear hM2 hB2
            refine hK.out _ _ (fun _ => HS.out _ HF5.out.bel) ?_
            clear hK
            try simp only [Act.put, List.setIfInBounds_toArray, List.set_cons_zero, List.set_cons_succ]
            refine anyM_take (i := 62) (oi := ⟨some 68, _, _, _, _, _⟩) (v := ?vqccccb) rfl (by kernel_rfl) (by kernel_rfl) (by kernel_rfl) (by kernel_rfl) (fun _ _ _ h => h) (Or.inl ⟨by rfl, ?hyqccccb⟩) (HS.out _ HF5.out.bel) ?restqccccb
            case hyqccccb =>
              intro w hSw
              obtain ⟨z0, z2, z3, z4, z5, z6, z7, z8, z9, z10, z11, z12, z13, z14, z15, y0, y1⟩ := hSw
              go_simp
              try with_reducible rfl
            try simp only [Act.put, List.setIfInBounds_toArray, List.set_cons_zero, List.set_cons_succ]
            refine anyM_one (i := 63) (o := ⟨some 3, .alloc 32, 0, "zzexport.go:84", _, none⟩) rfl (by kernel_rfl) (fun K hK => ?_)
            go_simp
            have HFa : Hid (FactM w (w5.alloc (.cells #[.slice none 0 0, .int .i64 0, .bool false, .bool false, .bool false, .bool false, .bool false, .bool false, .int .i64 0, .slice none 0 0, .int .i64 0, .slice none 0 0, .int .i64 0, .bool false, .slice none 0 0, .int .i64 0, .slice none 0 0, .slice none 0 0] 32)) _) := allocdF HF5.out #[.slice none 0 0, .int .i64 0, .bool false, .bool false, .bool false, .bool false, .bool false, .bool false, .int .i64 0, .slice none 0 0, .int .i64 0, .slice none 0 0, .int .i64 0, .bool false, .slice none 0 0, .int .i64 0, .slice none 0 0, .slice none 0 0] rfl
            refine hK.out _ _ (fun _ => HS.out _ HFa.out.bel) ?_
            clear hK
            try simp only [Act.put, List.setIfInBounds_toArray, List.set_cons_zero, List.set_cons_succ]
            have HPSx : Hid (w.heap.size ≤ w5.heap.size) := ((HFa.out.mem.own 1 _ rfl).lt (w5.heap.size) rfl).1
            refine anyM_one (i := 64) (o := ⟨none, .store 32 (.tmp 3) (.tmp 68), 0, "zzexport.go:84", _, none⟩) rfl (by kernel_rfl) (fun K hK => ?_)
            rw [if_pos (by rfl)]
            refine wp_store_mid 32 (.tmp 3) (.tmp 68) rfl (w5.heap.size) 0 (scells t (.slice a2 t.out.length c2) (.slice a3 t.short.length c3) (.slice a4 t.run.kept.length c4) (.slice a5 t.head.length c5) (.slice none 0 0) (.slice none 0 0)).toArray rfl rfl (HFa.out.mem.there (i := 1) rfl) size32 (all_oneCell_toArray (scells_one t _ _ _ _ _ _ _ _ _ _ _ _ _ _ _ _ _ _)) ?_
            refine hK.out _ _ (fun h => absurd rfl h) ?_
            clear hK
            refine anyM_done (by kernel_rfl) ?_ _
            go_wp2
            go_meet
            case rel => exact ⟨w5.heap.size, a2, c2, a3, c3, a4, c4, a5, c5, rfl, HFa.out.mem.setCells (i := 1) rfl 0 (scells t (.slice a2 t.out.length c2) (.slice a3 t.short.length c3) (.slice a4 t.run.kept.length c4) (.slice a5 t.head.length c5) (.slice none 0 0) (.slice none 0 0)), below_setCells HFa.out.bel HPSx.out 0 _⟩
          · go_simp
            have HFx : Hid (FactM w (w4.alloc (.cells #[.slice none 0 0, .int .i64 0, .bool false, .bool false, .bool false, .bool false, .bool false, .bool false, .int .i64 0, .slice none 0 0, .int .i64 0, .slice none 0 0, .int .i64 0, .bool false, .slice none 0 0, .int .i64 0, .slice none 0 0, .slice none 0 0] 32)) _) := allocdF HF4.out #[.slice none 0 0, .int .i64 0, .bool false, .bool false, .bool false, .bool false, .bool false, .bool false, .int .i64 0, .slice none 0 0, .int .i64 0, .slice none 0 0, .int .i64 0, .bool false, .slice none 0 0, .int .i64 0, .slice none 0 0, .slice none 0 0] rfl
            refine hK.out _ _ (fun _ => HS.out _ HFx.out.bel) ?_
            clear hK
            try simp only [Act.put, List.setIfInBounds_toArray, List.set_cons_zero, List.set_cons_succ]
            refine anyM_one (i := 54) (o := ⟨some 60, .call { callee := .builtin .append, args := #[.const (.slice none 0 0), .tmp 59], argTypes := #[22, 22] }, 22, "zzexport.go:84", _, none⟩) rfl (by kernel_rfl) (fun K hK => ?_)
            refine step_append_nil rfl (.const (.slice none 0 0)) (.tmp 59) 22 rfl HFx.out.mem 5 rfl i0 (.int .u8 0) 1 Tryd.underlying22 hi hz0 hz1 hz2 rfl (by decide) (.slice ah t.head.length ch) t.head.length (cellsOf t.head) (by simp [Act.eval, Act.put]) (by simp [Act.eval, Act.put]) (HRh.out.below HFx.out.bel).src (by unfold maxLen; omega) (by omega) ?_
            intro a5 c5 w5 hM2 hB2
            have HF5 : Hid (FactM w w5 _) := ⟨hM2, HFx.out.bel.trans hB2⟩
            clear hM2 hB2
            refine hK.out _ _ (fun _ => HS.out _ HF5.out.bel) ?_
            clear hK
            try simp only [Act.put, List.setIfInBounds_toArray, List.set_cons_zero, List.set_cons_succ]
            refine anyM_take (i := 62) (oi := ⟨some 68, _, _, _, _, _⟩) (v := ?vqcccab) rfl (by kernel_rfl) (by kernel_rfl) (by kernel_rfl) (by kernel_rfl) (fun _ _ _ h => h) (Or.inl ⟨by rfl, ?hyqcccab⟩) (HS.out _ HF5.out.bel) ?restqcccab
            case hyqcccab =>
              intro w hSw
              obtain ⟨z0, z2, z3, z4, z5, z6, z7, z8, z9, z10, z11, z12, z13, z14, z15, y0, y1⟩ := hSw
              go_simp
              try with_reducible rfl
            try simp only [Act.put, List.setIfInBounds_toArray, List.set_cons_zero, List.set_cons_succ]
            have HPSx : Hid (w.heap.size ≤ w4.heap.size) := ((HF5.out.mem.own 1 _ rfl).lt (w4.heap.size) rfl).1
            refine anyM_one (i := 64) (o := ⟨none, .store 32 (.tmp 3) (.tmp 68), 0, "zzexport.go:84", _, none⟩) rfl (by kernel_rfl) (fun K hK => ?_)
            rw [if_pos (by rfl)]
            refine wp_store_mid 32 (.tmp 3) (.tmp 68) rfl (w4.heap.size) 0 (scells t (.slice a2 t.out.length c2) (.slice a3 t.short.length c3) (.slice a4 t.run.kept.length c4) (.slice a5 t.head.length c5) (.slice none 0 0) (.slice none 0 0)).toArray rfl rfl (HF5.out.mem.there (i := 1) rfl) size32 (all_oneCell_toArray (scells_one t _ _ _ _ _ _ _ _ _ _ _ _ _ _ _ _ _ _)) ?_
            refine hK.out _ _ (fun h => absurd rfl h) ?_
            clear hK
            refine anyM_done (by kernel_rfl) ?_ _
            go_wp2
            go_meet
            case rel => exact ⟨w4.heap.size, a2, c2, a3, c3, a4, c4, a5, c5, rfl, HF5.out.mem.setCells (i := 1) rfl 0 (scells t (.slice a2 t.out.length c2) (.slice a3 t.short.length c3) (.slice a4 t.run.kept.length c4) (.slice a5 t.head.length c5) (.slice none 0 0) (.slice none 0 0)), below_setCells HF5.out.bel HPSx.out 0 _⟩
        · go_simp
          have HFx : Hid (FactM w (w3.alloc (.cells #[.slice none 0 0, .int .i64 0, .bool false, .bool false, .bool false, .bool false, .bool false, .bool false, .int .i64 0, .slice none 0 0, .int .i64 0, .slice none 0 0, .int .i64 0, .bool false, .slice none 0 0, .int .i64 0, .slice none 0 0, .slice none 0 0] 32)) _) := allocdF HF3.out #[.slice none 0 0, .int .i64 0, .bool false, .bool false, .bool false, .bool false, .bool false, .bool false, .int .i64 0, .slice none 0 0, .int .i64 0, .slice none 0 0, .int .i64 0, .bool false, .slice none 0 0, .int .i64 0, .slice none 0 0, .slice none 0 0] rfl
          refine hK.out _ _ (fun _ => HS.out _ HFx.out.bel) ?_
          clear hK
          try simp only [Act.put, List.setIfInBounds_toArray, List.set_cons_zero, List.set_cons_succ]
          refine anyM_one (i := 46) (o := ⟨some 52, .call { callee := .value (.func 15), args := #[.tmp 51], argTypes := #[55] }, 28, "zzexport.go:95", _, none⟩) rfl (by kernel_rfl) (fun K hK => ?_)
          rw [if_pos (by rfl)]
          go_simp
          refine (runOf_any _ (.slice ak t.run.kept.length ck) t.run (HRk.out.below HFx.out.bel) h3).mono ?_
          rintro e w4 ⟨a4, c4, rfl, hO4, hB4⟩
          have HF4 : Hid (FactM w w4 _) := ⟨HFx.out.mem.putB 4 rfl (rowB (.slice a4 t.run.kept.length c4) t.run.kept) hO4 hB4, HFx.out.bel.trans (Below.mono hB4 HFx.out.bel.size)⟩
          clear hO4 hB4
          dsimp only
          refine hK.out _ _ (fun _ => HS.out _ HF4.out.bel) ?_
          clear hK
          try simp only [Act.put, List.setIfInBounds_toArray, List.set_cons_zero, List.set_cons_succ]
          refine anyM_one (i := 54) (o := ⟨some 60, .call { callee := .builtin .append, args := #[.const (.slice none 0 0), .tmp 59], argTypes := #[22, 22] }, 22, "zzexport.go:84", _, none⟩) rfl (by kernel_rfl) (fun K hK => ?_)
          refine step_append_nil rfl (.const (.slice none 0 0)) (.tmp 59) 22 rfl HF4.out.mem 5 rfl i0 (.int .u8 0) 1 Tryd.underlying22 hi hz0 hz1 hz2 rfl (by decide) (.slice ah t.head.length ch) t.head.length (cellsOf t.head) (by simp [Act.eval, Act.put]) (by simp [Act.eval, Act.put]) (HRh.out.below HF4.out.bel).src (by unfold maxLen; omega) (by omega) ?_
          intro a5 c5 w5 hM2 hB2
          have HF5 : Hid (FactM w w5 _) := ⟨hM2, HF4.out.bel.trans hB2⟩
          clear hM2 hB2
          refine hK.out _ _ (fun _ => HS.out _ HF5.out.bel) ?_
          clear hK
          try simp only [Act.put, List.setIfInBounds_toArray, List.set_cons_zero, List.set_cons_succ]
          refine anyM_take (i := 62) (oi := ⟨some 68, _, _, _, _, _⟩) (v := ?vqccab) rfl (by kernel_rfl) (by kernel_rfl) (by kernel_rfl) (by kernel_rfl) (fun _ _ _ h => h) (Or.inl ⟨by rfl, ?hyqccab⟩) (HS.out _ HF5.out.bel) ?restqccab
          case hyqccab =>
            intro w hSw
            obtain ⟨z0, z2, z3, z4, z5, z6, z7, z8, z9, z10, z11, z12, z13, z14, z15, y0, y1⟩ := hSw
            go_simp
            try with_reducible rfl
          try simp only [Act.put, List.setIfInBounds_toArray, List.set_cons_zero, List.set_cons_succ]
          have HPSx : Hid (w.heap.size ≤ w3.heap.size) := ((HF5.out.mem.own 1 _ rfl).lt (w3.heap.size) rfl).1
          refine anyM_one (i := 64) (o := ⟨none, .store 32 (.tmp 3) (.tmp 68), 0, "zzexport.go:84", _, none⟩) rfl (by kernel_rfl) (fun K hK => ?_)
          rw [if_pos (by rfl)]
          refine wp_store_mid 32 (.tmp 3) (.tmp 68) rfl (w3.heap.size) 0 (scells t (.slice a2 t.out.length c2) (.slice a3 t.short.length c3) (.slice a4 t.run.kept.length c4) (.slice a5 t.head.length c5) (.slice none 0 0) (.slice none 0 0)).toArray rfl rfl (HF5.out.mem.there (i := 1) rfl) size32 (all_oneCell_toArray (scells_one t _ _ _ _ _ _ _ _ _ _ _ _ _ _ _ _ _ _)) ?_
          refine hK.out _ _ (fun h => absurd rfl h) ?_
          clear hK
          refine anyM_done (by kernel_rfl) ?_ _
          go_wp2
          go_meet
          case rel => exact ⟨w3.heap.size, a2, c2, a3, c3, a4, c4, a5, c5, rfl, HF5.out.mem.setCells (i := 1) rfl 0 (scells t (.slice a2 t.out.length c2) (.slice a3 t.short.length c3) (.slice a4 t.run.kept.length c4) (.slice a5 t.head.length c5) (.slice none 0 0) (.slice none 0 0)), below_setCells HF5.out.bel HPSx.out 0 _⟩
      · go_simp
        have HFx : Hid (FactM w (w2.alloc (.cells #[.slice none 0 0, .int .i64 0, .bool false, .bool false, .bool false, .bool false, .bool false, .bool false, .int .i64 0, .slice none 0 0, .int .i64 0, .slice none 0 0, .int .i64 0, .bool false, .slice none 0 0, .int .i64 0, .slice none 0 0, .slice none 0 0] 32)) _) := allocdF HF2.out #[.slice none 0 0, .int .i64 0, .bool false, .bool false, .bool false, .bool false, .bool false, .bool false, .int .i64 0, .slice none 0 0, .int .i64 0, .slice none 0 0, .int .i64 0, .bool false, .slice none 0 0, .int .i64 0, .slice none 0 0, .slice none 0 0] rfl
        refine hK.out _ _ (fun _ => HS.out _ HFx.out.bel) ?_
        clear hK
        try simp only [Act.put, List.setIfInBounds_toArray, List.set_cons_zero, List.set_cons_succ]
        refine anyM_one (i := 41) (o := ⟨some 47, .call { callee := .builtin .append, args := #[.const (.slice none 0 0), .tmp 46], argTypes := #[22, 22] }, 22, "zzexport.go:84", _, none⟩) rfl (by kernel_rfl) (fun K hK => ?_)
        refine step_append_nil rfl (.const (.slice none 0 0)) (.tmp 46) 22 rfl HFx.out.mem 3 rfl i0 (.int .u8 0) 1 Tryd.underlying22 hi hz0 hz1 hz2 rfl (by decide) (.slice as1 t.short.length cs) t.short.length (cellsOf t.short) (by simp [Act.eval, Act.put]) (by simp [Act.eval, Act.put]) (HRs.out.below HFx.out.bel).src (by unfold maxLen; omega) (by omega) ?_
        intro a3 c3 w3 hM2 hB2
        have HF3 : Hid (FactM w w3 _) := ⟨hM2, HFx.out.bel.trans hB2⟩
        clear hM2 hB2
        refine hK.out _ _ (fun _ => HS.out _ HF3.out.bel) ?_
        clear hK
        try simp only [Act.put, List.setIfInBounds_toArray, List.set_cons_zero, List.set_cons_succ]
        refine anyM_one (i := 46) (o := ⟨some 52, .call { callee := .value (.func 15), args := #[.tmp 51], argTypes := #[55] }, 28, "zzexport.go:95", _, none⟩) rfl (by kernel_rfl) (fun K hK => ?_)
        rw [if_pos (by rfl)]
        go_simp
        refine (runOf_any _ (.slice ak t.run.kept.length ck) t.run (HRk.out.below HF3.out.bel) h3).mono ?_
        rintro e w4 ⟨a4, c4, rfl, hO4, hB4⟩
        have HF4 : Hid (FactM w w4 _) := ⟨HF3.out.mem.putB 4 rfl (rowB (.slice a4 t.run.kept.length c4) t.run.kept) hO4 hB4, HF3.out.bel.trans (Below.mono hB4 HF3.out.bel.size)⟩
        clear hO4 hB4
        dsimp only
        refine hK.out _ _ (fun _ => HS.out _ HF4.out.bel) ?_
        clear hK
        try simp only [Act.put, List.setIfInBounds_toArray, List.set_cons_zero, List.set_cons_succ]
        refine anyM_one (i := 54) (o := ⟨some 60, .call { callee := .builtin .append, args := #[.const (.slice none 0 0), .tmp 59], argTypes := #[22, 22] }, 22, "zzexport.go:84", _, none⟩) rfl (by kernel_rfl) (fun K hK => ?_)
        refine step_append_nil rfl (.const (.slice none 0 0)) (.tmp 59) 22 rfl HF4.out.mem 5 rfl i0 (.int .u8 0) 1 Tryd.underlying22 hi hz0 hz1 hz2 rfl (by decide) (.slice ah t.head.length ch) t.head.length (cellsOf t.head) (by simp [Act.eval, Act.put]) (by simp [Act.eval, Act.put]) (HRh.out.below HF4.out.bel).src (by unfold maxLen; omega) (by omega) ?_
        intro a5 c5 w5 hM2 hB2
        have HF5 : Hid (FactM w w5 _) := ⟨hM2, HF4.out.bel.trans hB2⟩
        clear hM2 hB2
        refine hK.out _ _ (fun _ => HS.out _ HF5.out.bel) ?_
        clear hK
        try simp only [Act.put, List.setIfInBounds_toArray, List.set_cons_zero, List.set_cons_succ]
        refine anyM_take (i := 62) (oi := ⟨some 68, _, _, _, _, _⟩) (v := ?vqcab) rfl (by kernel_rfl) (by kernel_rfl) (by kernel_rfl) (by kernel_rfl) (fun _ _ _ h => h) (Or.inl ⟨by rfl, ?hyqcab⟩) (HS.out _ HF5.out.bel) ?restqcab
        case hyqcab =>
          intro w hSw
          obtain ⟨z0, z2, z3, z4, z5, z6, z7, z8, z9, z10, z11, z12, z13, z14, z15, y0, y1⟩ := hSw
          go_simp
          try with_reducible rfl
        try simp only [Act.put, List.setIfInBounds_toArray, List.set_cons_zero, List.set_cons_succ]
        have HPSx : Hid (w.heap.size ≤ w2.heap.size) := ((HF5.out.mem.own 1 _ rfl).lt (w2.heap.size) rfl).1
        refine anyM_one (i := 64) (o := ⟨none, .store 32 (.tmp 3) (.tmp 68), 0, "zzexport.go:84", _, none⟩) rfl (by kernel_rfl) (fun K hK => ?_)
        rw [if_pos (by rfl)]
        refine wp_store_mid 32 (.tmp 3) (.tmp 68) rfl (w2.heap.size) 0 (scells t (.slice a2 t.out.length c2) (.slice a3 t.short.length c3) (.slice a4 t.run.kept.length c4) (.slice a5 t.head.length c5) (.slice none 0 0) (.slice none 0 0)).toArray rfl rfl (HF5.out.mem.there (i := 1) rfl) size32 (all_oneCell_toArray (scells_one t _ _ _ _ _ _ _ _ _ _ _ _ _ _ _ _ _ _)) ?_
        refine hK.out _ _ (fun h => absurd rfl h) ?_
        clear hK
        refine anyM_done (by kernel_rfl) ?_ _
        go_wp2
        go_meet
        case rel => exact ⟨w2.heap.size, a2, c2, a3, c3, a4, c4, a5, c5, rfl, HF5.out.mem.setCells (i := 1) rfl 0 (scells t (.slice a2 t.out.length c2) (.slice a3 t.short.length c3) (.slice a4 t.run.kept.length c4) (.slice a5 t.head.length c5) (.slice none 0 0) (.slice none 0 0)), below_setCells HF5.out.bel HPSx.out 0 _⟩
    · go_simp
      refine hK.out _ _ (fun _ => HS.out _ HF1a.out.bel) ?_
      clear hK
      try simp only [Act.put, List.setIfInBounds_toArray, List.set_cons_zero, List.set_cons_succ]
      refine anyM_one (i := 4) (o := ⟨some 10, .call { callee := .builtin .append, args := #[.const (.slice none 0 0), .tmp 9], argTypes := #[22, 22] }, 22, "zzexport.go:84", _, none⟩) rfl (by kernel_rfl) (fun K hK => ?_)
      refine step_append_nil rfl (.const (.slice none 0 0)) (.tmp 9) 22 rfl HF1a.out.mem 2 rfl i0 (.int .u8 0) 1 Tryd.underlying22 hi hz0 hz1 hz2 rfl (by decide) (.slice ao t.out.length co) t.out.length (cellsOf t.out) (by simp [Act.eval, Act.put]) (by simp [Act.eval, Act.put]) (HRo.out.below HF1a.out.bel).src (by unfold maxLen; omega) (by omega) ?_
      intro a2 c2 w2 hM2 hB2
      have HF2 : Hid (FactM w w2 _) := ⟨hM2, HF1a.out.bel.trans hB2⟩
      clear hM2 hB2
      refine hK.out _ _ (fun _ => HS.out _ HF2.out.bel) ?_
      clear hK
      try simp only [Act.put, List.setIfInBounds_toArray, List.set_cons_zero, List.set_cons_succ]
      refine anyM_one (i := 41) (o := ⟨some 47, .call { callee := .builtin .append, args := #[.const (.slice none 0 0), .tmp 46], argTypes := #[22, 22] }, 22, "zzexport.go:84", _, none⟩) rfl (by kernel_rfl) (fun K hK => ?_)
      refine step_append_nil rfl (.const (.slice none 0 0)) (.tmp 46) 22 rfl HF2.out.mem 3 rfl i0 (.int .u8 0) 1 Tryd.underlying22 hi hz0 hz1 hz2 rfl (by decide) (.slice as1 t.short.length cs) t.short.length (cellsOf t.short) (by simp [Act.eval, Act.put]) (by simp [Act.eval, Act.put]) (HRs.out.below HF2.out.bel).src (by unfold maxLen; omega) (by omega) ?_
      intro a3 c3 w3 hM2 hB2
      have HF3 : Hid (FactM w w3 _) := ⟨hM2, HF2.out.bel.trans hB2⟩
      clear hM2 hB2
      refine hK.out _ _ (fun _ => HS.out _ HF3.out.bel) ?_
      clear hK
      try simp only [Act.put, List.setIfInBounds_toArray, List.set_cons_zero, List.set_cons_succ]
      refine anyM_one (i := 46) (o := ⟨some 52, .call { callee := .value (.func 15), args := #[.tmp 51], argTypes := #[55] }, 28, "zzexport.go:95", _, none⟩) rfl (by kernel_rfl) (fun K hK => ?_)
      rw [if_pos (by rfl)]
      go_simp
      refine (runOf_any _ (.slice ak t.run.kept.length ck) t.run (HRk.out.below HF3.out.bel) h3).mono ?_
      rintro e w4 ⟨a4, c4, rfl, hO4, hB4⟩
      have HF4 : Hid (FactM w w4 _) := ⟨HF3.out.mem.putB 4 rfl (rowB (.slice a4 t.run.kept.length c4) t.run.kept) hO4 hB4, HF3.out.bel.trans (Below.mono hB4 HF3.out.bel.size)⟩
      clear hO4 hB4
      dsimp only
      refine hK.out _ _ (fun _ => HS.out _ HF4.out.bel) ?_
      clear hK
      try simp only [Act.put, List.setIfInBounds_toArray, List.set_cons_zero, List.set_cons_succ]
      refine anyM_one (i := 54) (o := ⟨some 60, .call { callee := .builtin .append, args := #[.const (.slice none 0 0), .tmp 59], argTypes := #[22, 22] }, 22, "zzexport.go:84", _, none⟩) rfl (by kernel_rfl) (fun K hK => ?_)
      refine step_append_nil rfl (.const (.slice none 0 0)) (.tmp 59) 22 rfl HF4.out.mem 5 rfl i0 (.int .u8 0) 1 Tryd.underlying22 hi hz0 hz1 hz2 rfl (by decide) (.slice ah t.head.length ch) t.head.length (cellsOf t.head) (by simp [Act.eval, Act.put]) (by simp [Act.eval, Act.put]) (HRh.out.below HF4.out.bel).src (by unfold maxLen; omega) (by omega) ?_
      intro a5 c5 w5 hM2 hB2
      have HF5 : Hid (FactM w w5 _) := ⟨hM2, HF4.out.bel.trans hB2⟩
      clear hM2 hB2
      refine hK.out _ _ (fun _ => HS.out _ HF5.out.bel) ?_
      clear hK
      try simp only [Act.put, List.setIfInBounds_toArray, List.set_cons_zero, List.set_cons_succ]
      refine anyM_take (i := 62) (oi := ⟨some 68, _, _, _, _, _⟩) (v := ?vqab) rfl (by kernel_rfl) (by kernel_rfl) (by kernel_rfl) (by kernel_rfl) (fun _ _ _ h => h) (Or.inl ⟨by rfl, ?hyqab⟩) (HS.out _ HF5.out.bel) ?restqab
      case hyqab =>
        intro w hSw
        obtain ⟨z0, z2, z3, z4, z5, z6, z7, z8, z9, z10, z11, z12, z13, z14, z15, y0, y1⟩ := hSw
        go_simp
        try with_reducible rfl
      try simp only [Act.put, List.setIfInBounds_toArray, List.set_cons_zero, List.set_cons_succ]
      have HPSx : Hid (w.heap.size ≤ w.heap.size + 1) := ((HF5.out.mem.own 1 _ rfl).lt (w.heap.size + 1) rfl).1
      refine anyM_one (i := 64) (o := ⟨none, .store 32 (.tmp 3) (.tmp 68), 0, "zzexport.go:84", _, none⟩) rfl (by kernel_rfl) (fun K hK => ?_)
      rw [if_pos (by rfl)]
      refine wp_store_mid 32 (.tmp 3) (.tmp 68) rfl (w.heap.size + 1) 0 (scells t (.slice a2 t.out.length c2) (.slice a3 t.short.length c3) (.slice a4 t.run.kept.length c4) (.slice a5 t.head.length c5) (.slice none 0 0) (.slice none 0 0)).toArray rfl rfl (HF5.out.mem.there (i := 1) rfl) size32 (all_oneCell_toArray (scells_one t _ _ _ _ _ _ _ _ _ _ _ _ _ _ _ _ _ _)) ?_
      refine hK.out _ _ (fun h => absurd rfl h) ?_
      clear hK
      refine anyM_done (by kernel_rfl) ?_ _
      go_wp2
      go_meet
      case rel => exact ⟨w.heap.size + 1, a2, c2, a3, c3, a4, c4, a5, c5, rfl, HF5.out.mem.setCells (i := 1) rfl 0 (scells t (.slice a2 t.out.length c2) (.slice a3 t.short.length c3) (.slice a4 t.run.kept.length c4) (.slice a5 t.head.length c5) (.slice none 0 0) (.slice none 0 0)), below_setCells HF5.out.bel HPSx.out 0 _⟩
  case rest =>
    obtain ⟨ps, a2, c2, a3, c3, a4, c4, a5, c5, rfl, hM, hB⟩ := hcut
    clear z0 z2 z3 z4 z5 z6 z7 z8 z9 z10 z11 z12 z13 z14 z15 y0 y1 HF0 HRo HRs HRk HRh
    have HMA : Hid (Mem wc w.heap.size (srows w.heap.size ps zcells t (.slice a2 t.out.length c2) (.slice a3 t.short.length c3) (.slice a4 t.run.kept.length c4) (.slice a5 t.head.length c5) (.slice none 0 0) (.slice none 0 0) [] [])) := (hM.addNil 42 2).addNil 28 4
    have HBA : Hid (Below w.heap.size w wc) := hB
    have HPS : Hid (w.heap.size ≤ ps) := ((hM.own 1 _ rfl).lt ps rfl).1
    clear hM hB
    obtain ⟨ash, csh, rfl, hcsh⟩ := row_form HM.out.oshifts
    obtain ⟨ar, cr, rfl, hcr⟩ := row_form HM.out.oruns
    obtain ⟨i4, hi4, hx0, hx1, hx2⟩ := info_parts info42
    obtain ⟨i8, hi8, hy0, hy1, hy2⟩ := info_parts info28
    have HKW : Hid (∀ W, Below w.heap.size w W → W.cell? ⟨pw, 0, none⟩ = some (.pointer (some ⟨pt, 0, none⟩)) ∧ W.cell? ⟨pt, 4, none⟩ = some (.slice ash t.shifts.length csh) ∧ W.cell? ⟨pt, 5, none⟩ = some (.slice ar G0.length cr)) := by
      show ∀ W, _
      intro W hW
      obtain ⟨hcw, hct⟩ := HC.out W hW
      exact ⟨hcw 0 (by omega), hct 4 (by omega), hct 5 (by omega)⟩
    go_upto_block 0 with fail
    go_cut [4] (fun _ wx => ∃ a c, Mem wx w.heap.size (srows w.heap.size ps zcells t (.slice a2 t.out.length c2) (.slice a3 t.short.length c3) (.slice a4 t.run.kept.length c4) (.slice a5 t.head.length c5) (.slice a t.shifts.length c) (.slice none 0 0) t.shifts []) ∧ Below w.heap.size w wx)
    case first =>
      go_wp2_with fail
      go_loopw [4] (fun i wr => ∃ (k : Nat) (S : List (Nat × Int)) (a : Option Addr) (c : Nat), i = .int .i64 k ∧ k ≤ t.shifts.length ∧ S.length = k ∧ Hid (S = t.shifts.take k ∧ Mem wr w.heap.size (srows w.heap.size ps zcells t (.slice a2 t.out.length c2) (.slice a3 t.short.length c3) (.slice a4 t.run.kept.length c4) (.slice a5 t.head.length c5) (.slice a S.length c) (.slice none 0 0) S []) ∧ Below w.heap.size w wr)) (fun i _ => t.shifts.length - (intOf i).toNat)
      case atStart => exact ⟨0, [], none, 0, rfl, Nat.zero_le _, rfl, by simp, HMA.out, HBA.out⟩
      case round =>
        obtain ⟨k, S, a, c, rfl, hkl, hSk, HR⟩ := hrel
        have HSk : Hid (S.length = k) := hSk
        have hSb : S.length ≤ t.shifts.length := by rw [hSk]; exact hkl
        clear hSk
        clear HMA HBA
        have HBr : Hid (Below w.heap.size w wr) := HR.out.2.2
        obtain ⟨q0, q4, q5⟩ := HKW.out wr HBr.out
        by_cases hlt : (k : Int) < (t.shifts.length : Int)
        · obtain ⟨x, hx⟩ : ∃ x, t.shifts[k]? = some x := ⟨_, List.getElem?_eq_getElem (by omega)⟩
          have HTX : Hid (t.shifts.take (k + 1) = t.shifts.take k ++ [x]) := by show _ = _; rw [List.take_add_one, hx]; rfl
          obtain ⟨g, rfl, e1, e2⟩ := own_shE (own_mono HM.out.oshifts (Nat.zero_le _)) hx HBr.out
          have HKP : Hid (∀ W, Below w.heap.size w W → W.cell? ⟨pw, 0, none⟩ = some (.pointer (some ⟨pt, 0, none⟩)) ∧ W.cell? ⟨pt, 4, none⟩ = some (.slice (some ⟨g, 0, none⟩) t.shifts.length csh) ∧ W.cell? ⟨g, k * 2, none⟩ = some (.int .i64 x.1) ∧ W.cell? ⟨g, k * 2 + 1, none⟩ = some (.int .i64 x.2)) := by
            show ∀ W, _
            intro W hW
            obtain ⟨u0, u4, _⟩ := HKW.out W hW
            obtain ⟨g', he, v1, v2⟩ := own_shE (own_mono HM.out.oshifts (Nat.zero_le _)) hx hW
            injection he with he
            injection he with he
            subst he
            exact ⟨u0, u4, v1, v2⟩
          have p16 : wr.cell? ⟨ps, 16, none⟩ = some (.slice a S.length c) := HR.out.2.1.cell (i := 1) rfl 16 (by omega)
          have p16a : (wr.alloc (.cells #[.int .i64 x.1, .int .i64 x.2] 42)).cell? ⟨ps, 16, none⟩ = some (.slice a S.length c) := (HR.out.2.1.grow (World.grownBy_alloc _ _ none)).cell (i := 1) rfl 16 (by omega)
          have HSc : Hid (Src (wr.alloc (.cells #[.int .i64 x.1, .int .i64 x.2] 42)) (.slice (some ⟨wr.heap.size, 0, none⟩) 1 1) 1 [.int .i64 x.1, .int .i64 x.2] 2) := src_cells wr [.int .i64 x.1, .int .i64 x.2] 42 1 1 2 rfl (by intro u hu; simp at hu; rcases hu with rfl | rfl <;> rfl)
          have HD1 : Hid (Below w.heap.size w wr.drew) := HBr.out.drew
          have HD2 : Hid (Below w.heap.size w (wr.alloc (.cells #[.int .i64 x.1, .int .i64 x.2] 42)).drew) := (HBr.out.alloc HR.out.2.1.size _).drew
          have hk0 : (0 : Int) ≤ (k : Int) := by omega
          have HH1 : Hid ((fun W => W.cell? ⟨pw, 0, none⟩ = some (.pointer (some ⟨pt, 0, none⟩)) ∧ W.cell? ⟨pt, 4, none⟩ = some (.slice (some ⟨g, 0, none⟩) t.shifts.length csh) ∧ W.cell? ⟨g, k * 2, none⟩ = some (.int .i64 x.1) ∧ W.cell? ⟨g, k * 2 + 1, none⟩ = some (.int .i64 x.2) ∧ W.cell? ⟨ps, 16, none⟩ = some (.slice a S.length c)) wr.drew) := by
            obtain ⟨u0, u4, u1, u2⟩ := HKP.out _ HD1.out
            exact ⟨u0, u4, u1, u2, p16⟩
          go_upto_region 5 with fail
          refine region_M (fun W => W.cell? ⟨pw, 0, none⟩ = some (.pointer (some ⟨pt, 0, none⟩)) ∧ W.cell? ⟨pt, 4, none⟩ = some (.slice (some ⟨g, 0, none⟩) t.shifts.length csh) ∧ W.cell? ⟨g, k * 2, none⟩ = some (.int .i64 x.1) ∧ W.cell? ⟨g, k * 2 + 1, none⟩ = some (.int .i64 x.2) ∧ W.cell? ⟨ps, 16, none⟩ = some (.slice a S.length c)) 28 (by kernel_rfl) ?_
          simp only [List.size_toArray, List.length_cons, List.length_nil, Nat.reduceAdd, Array.replicate_succ, Array.replicate_zero, List.push_toArray, List.append_toArray, List.nil_append, List.cons_append]
          refine anyM_take (i := 0) (v := ?v0) rfl (by kernel_rfl) (by kernel_rfl) (by kernel_rfl) (by kernel_rfl) (fun _ _ _ h => h) (Or.inl ⟨by rfl, ?hy0⟩) HH1.out ?rest0
          case hy0 =>
            intro w hSw
            obtain ⟨s0, s4, s1, s2, s16⟩ := hSw
            go_simp
            try with_reducible rfl
          try simp only [Act.put, List.setIfInBounds_toArray, List.set_cons_zero, List.set_cons_succ]
          refine anyM_take (i := 1) (v := ?v1) rfl (by kernel_rfl) (by kernel_rfl) (by kernel_rfl) (by kernel_rfl) (fun _ _ _ h => h) (Or.inl ⟨by rfl, ?hy1⟩) HH1.out ?rest1
          case hy1 =>
            intro w hSw
            obtain ⟨s0, s4, s1, s2, s16⟩ := hSw
            go_simp
            try with_reducible rfl
          try simp only [Act.put, List.setIfInBounds_toArray, List.set_cons_zero, List.set_cons_succ]
          refine anyM_take (i := 2) (v := ?v2) rfl (by kernel_rfl) (by kernel_rfl) (by kernel_rfl) (by kernel_rfl) (fun _ _ _ h => h) (Or.inl ⟨by rfl, ?hy2⟩) HH1.out ?rest2
          case hy2 =>
            intro w hSw
            obtain ⟨s0, s4, s1, s2, s16⟩ := hSw
            go_simp
            try with_reducible rfl
          try simp only [Act.put, List.setIfInBounds_toArray, List.set_cons_zero, List.set_cons_succ]
          refine anyM_take (i := 3) (v := ?v3) rfl (by kernel_rfl) (by kernel_rfl) (by kernel_rfl) (by kernel_rfl) (fun _ _ _ h => h) (Or.inl ⟨by rfl, ?hy3⟩) HH1.out ?rest3
          case hy3 =>
            intro w hSw
            obtain ⟨s0, s4, s1, s2, s16⟩ := hSw
            go_simp
            try with_reducible rfl
          try simp only [Act.put, List.setIfInBounds_toArray, List.set_cons_zero, List.set_cons_succ]
          refine anyM_take (i := 4) (v := ?v4) rfl (by kernel_rfl) (by kernel_rfl) (by kernel_rfl) (by kernel_rfl) (fun _ _ _ h => h) (Or.inl ⟨by rfl, ?hy4⟩) HH1.out ?rest4
          case hy4 =>
            intro w hSw
            obtain ⟨s0, s4, s1, s2, s16⟩ := hSw
            go_simp
            try with_reducible rfl
          try simp only [Act.put, List.setIfInBounds_toArray, List.set_cons_zero, List.set_cons_succ]
          refine anyM_take (i := 5) (v := ?v5) rfl (by kernel_rfl) (by kernel_rfl) (by kernel_rfl) (by kernel_rfl) (fun _ _ _ h => h) (Or.inl ⟨by rfl, ?hy5⟩) HH1.out ?rest5
          case hy5 =>
            intro w hSw
            obtain ⟨s0, s4, s1, s2, s16⟩ := hSw
            go_simp
            try with_reducible rfl
          try simp only [Act.put, List.setIfInBounds_toArray, List.set_cons_zero, List.set_cons_succ]
          refine anyM_take (i := 6) (v := ?v6) rfl (by kernel_rfl) (by kernel_rfl) (by kernel_rfl) (by kernel_rfl) (fun _ _ _ h => h) (Or.inl ⟨by rfl, ?hy6⟩) HH1.out ?rest6
          case hy6 =>
            intro w hSw
            obtain ⟨s0, s4, s1, s2, s16⟩ := hSw
            go_simp
            try with_reducible rfl
          try simp only [Act.put, List.setIfInBounds_toArray, List.set_cons_zero, List.set_cons_succ]
          refine anyM_take (i := 7) (v := ?v7) rfl (by kernel_rfl) (by kernel_rfl) (by kernel_rfl) (by kernel_rfl) (fun _ _ _ h => h) (Or.inl ⟨by rfl, ?hy7⟩) HH1.out ?rest7
          case hy7 =>
            intro w hSw
            obtain ⟨s0, s4, s1, s2, s16⟩ := hSw
            go_simp
            try with_reducible rfl
          try simp only [Act.put, List.setIfInBounds_toArray, List.set_cons_zero, List.set_cons_succ]
          refine anyM_take (i := 8) (v := ?v8) rfl (by kernel_rfl) (by kernel_rfl) (by kernel_rfl) (by kernel_rfl) (fun _ _ _ h => h) (Or.inl ⟨by rfl, ?hy8⟩) HH1.out ?rest8
          case hy8 =>
            intro w hSw
            obtain ⟨s0, s4, s1, s2, s16⟩ := hSw
            go_simp
            try with_reducible rfl
          try simp only [Act.put, List.setIfInBounds_toArray, List.set_cons_zero, List.set_cons_succ]
          refine anyM_take (i := 9) (v := ?v9) rfl (by kernel_rfl) (by kernel_rfl) (by kernel_rfl) (by kernel_rfl) (fun _ _ _ h => h) (Or.inl ⟨by rfl, ?hy9⟩) HH1.out ?rest9
          case hy9 =>
            intro w hSw
            obtain ⟨s0, s4, s1, s2, s16⟩ := hSw
            go_simp
            try with_reducible rfl
          try simp only [Act.put, List.setIfInBounds_toArray, List.set_cons_zero, List.set_cons_succ]
          refine anyM_take (i := 10) (v := ?v10) rfl (by kernel_rfl) (by kernel_rfl) (by kernel_rfl) (by kernel_rfl) (fun _ _ _ h => h) (Or.inl ⟨by rfl, ?hy10⟩) HH1.out ?rest10
          case hy10 =>
            intro w hSw
            obtain ⟨s0, s4, s1, s2, s16⟩ := hSw
            go_simp
            try with_reducible rfl
          try simp only [Act.put, List.setIfInBounds_toArray, List.set_cons_zero, List.set_cons_succ]
          refine anyM_take (i := 11) (v := ?v11) rfl (by kernel_rfl) (by kernel_rfl) (by kernel_rfl) (by kernel_rfl) (fun _ _ _ h => h) (Or.inl ⟨by rfl, ?hy11⟩) HH1.out ?rest11
          case hy11 =>
            intro w hSw
            obtain ⟨s0, s4, s1, s2, s16⟩ := hSw
            go_simp
            try with_reducible rfl
          try simp only [Act.put, List.setIfInBounds_toArray, List.set_cons_zero, List.set_cons_succ]
          refine anyM_take (i := 12) (v := ?v12) rfl (by kernel_rfl) (by kernel_rfl) (by kernel_rfl) (by kernel_rfl) (fun _ _ _ h => h) (Or.inl ⟨by rfl, ?hy12⟩) HH1.out ?rest12
          case hy12 =>
            intro w hSw
            obtain ⟨s0, s4, s1, s2, s16⟩ := hSw
            go_simp
            try with_reducible rfl
          try simp only [Act.put, List.setIfInBounds_toArray, List.set_cons_zero, List.set_cons_succ]
          refine anyM_take (i := 13) (v := ?v13) rfl (by kernel_rfl) (by kernel_rfl) (by kernel_rfl) (by kernel_rfl) (fun _ _ _ h => h) (Or.inl ⟨by rfl, ?hy13⟩) HH1.out ?rest13
          case hy13 =>
            intro w hSw
            obtain ⟨s0, s4, s1, s2, s16⟩ := hSw
            go_simp
            try with_reducible rfl
          try simp only [Act.put, List.setIfInBounds_toArray, List.set_cons_zero, List.set_cons_succ]
          refine anyM_take (i := 14) (v := ?v14) rfl (by kernel_rfl) (by kernel_rfl) (by kernel_rfl) (by kernel_rfl) (fun _ _ _ h => h) (Or.inl ⟨by rfl, ?hy14⟩) HH1.out ?rest14
          case hy14 =>
            intro w hSw
            obtain ⟨s0, s4, s1, s2, s16⟩ := hSw
            go_simp
            try with_reducible rfl
          try simp only [Act.put, List.setIfInBounds_toArray, List.set_cons_zero, List.set_cons_succ]
          refine anyM_take (i := 15) (v := ?v15) rfl (by kernel_rfl) (by kernel_rfl) (by kernel_rfl) (by kernel_rfl) (fun _ _ _ h => h) (Or.inl ⟨by rfl, ?hy15⟩) HH1.out ?rest15
          case hy15 =>
            intro w hSw
            obtain ⟨s0, s4, s1, s2, s16⟩ := hSw
            go_simp
            try with_reducible rfl
          try simp only [Act.put, List.setIfInBounds_toArray, List.set_cons_zero, List.set_cons_succ]
          refine anyM_take (i := 16) (v := ?v16) rfl (by kernel_rfl) (by kernel_rfl) (by kernel_rfl) (by kernel_rfl) (fun _ _ _ h => h) (Or.inl ⟨by rfl, ?hy16⟩) HH1.out ?rest16
          case hy16 =>
            intro w hSw
            obtain ⟨s0, s4, s1, s2, s16⟩ := hSw
            go_simp
            try with_reducible rfl
          try simp only [Act.put, List.setIfInBounds_toArray, List.set_cons_zero, List.set_cons_succ]
          refine anyM_take (i := 17) (v := ?v17) rfl (by kernel_rfl) (by kernel_rfl) (by kernel_rfl) (by kernel_rfl) (fun _ _ _ h => h) (Or.inl ⟨by rfl, ?hy17⟩) HH1.out ?rest17
          case hy17 =>
            intro w hSw
            obtain ⟨s0, s4, s1, s2, s16⟩ := hSw
            go_simp
            try with_reducible rfl
          try simp only [Act.put, List.setIfInBounds_toArray, List.set_cons_zero, List.set_cons_succ]
          refine anyM_take (i := 18) (v := ?v18) rfl (by kernel_rfl) (by kernel_rfl) (by kernel_rfl) (by kernel_rfl) (fun _ _ _ h => h) (Or.inl ⟨by rfl, ?hy18⟩) HH1.out ?rest18
          case hy18 =>
            intro w hSw
            obtain ⟨s0, s4, s1, s2, s16⟩ := hSw
            go_simp
            try with_reducible rfl
          try simp only [Act.put, List.setIfInBounds_toArray, List.set_cons_zero, List.set_cons_succ]
          refine anyM_take (i := 19) (v := ?v19) rfl (by kernel_rfl) (by kernel_rfl) (by kernel_rfl) (by kernel_rfl) (fun _ _ _ h => h) (Or.inl ⟨by rfl, ?hy19⟩) HH1.out ?rest19
          case hy19 =>
            intro w hSw
            obtain ⟨s0, s4, s1, s2, s16⟩ := hSw
            go_simp
            try with_reducible rfl
          try simp only [Act.put, List.setIfInBounds_toArray, List.set_cons_zero, List.set_cons_succ]
          refine anyM_take (i := 20) (v := ?v20) rfl (by kernel_rfl) (by kernel_rfl) (by kernel_rfl) (by kernel_rfl) (fun _ _ _ h => h) (Or.inl ⟨by rfl, ?hy20⟩) HH1.out ?rest20
          case hy20 =>
            intro w hSw
            obtain ⟨s0, s4, s1, s2, s16⟩ := hSw
            go_simp
            try with_reducible rfl
          try simp only [Act.put, List.setIfInBounds_toArray, List.set_cons_zero, List.set_cons_succ]
          refine anyM_take (i := 21) (v := ?v21) rfl (by kernel_rfl) (by kernel_rfl) (by kernel_rfl) (by kernel_rfl) (fun _ _ _ h => h) (Or.inl ⟨by rfl, ?hy21⟩) HH1.out ?rest21
          case hy21 =>
            intro w hSw
            obtain ⟨s0, s4, s1, s2, s16⟩ := hSw
            go_simp
            try with_reducible rfl
          try simp only [Act.put, List.setIfInBounds_toArray, List.set_cons_zero, List.set_cons_succ]
          refine anyM_take (i := 22) (v := ?v22) rfl (by kernel_rfl) (by kernel_rfl) (by kernel_rfl) (by kernel_rfl) (fun _ _ _ h => h) (Or.inl ⟨by rfl, ?hy22⟩) HH1.out ?rest22
          case hy22 =>
            intro w hSw
            obtain ⟨s0, s4, s1, s2, s16⟩ := hSw
            go_simp
            try with_reducible rfl
          try simp only [Act.put, List.setIfInBounds_toArray, List.set_cons_zero, List.set_cons_succ]
          refine anyM_take (i := 23) (v := ?v23) rfl (by kernel_rfl) (by kernel_rfl) (by kernel_rfl) (by kernel_rfl) (fun _ _ _ h => h) (Or.inl ⟨by rfl, ?hy23⟩) HH1.out ?rest23
          case hy23 =>
            intro w hSw
            obtain ⟨s0, s4, s1, s2, s16⟩ := hSw
            go_simp
            try with_reducible rfl
          try simp only [Act.put, List.setIfInBounds_toArray, List.set_cons_zero, List.set_cons_succ]
          refine anyM_take (i := 24) (v := ?v24) rfl (by kernel_rfl) (by kernel_rfl) (by kernel_rfl) (by kernel_rfl) (fun _ _ _ h => h) (Or.inl ⟨by rfl, ?hy24⟩) HH1.out ?rest24
          case hy24 =>
            intro w hSw
            obtain ⟨s0, s4, s1, s2, s16⟩ := hSw
            go_simp
            try with_reducible rfl
          try simp only [Act.put, List.setIfInBounds_toArray, List.set_cons_zero, List.set_cons_succ]
          refine anyM_one (i := 25) rfl (by kernel_rfl) (fun K hK => ?_)
          go_simp
          refine hK.out _ _ (fun _ => ?_) ?_
          · obtain ⟨u0, u4, u1, u2⟩ := HKP.out _ HD2.out
            exact ⟨u0, u4, u1, u2, p16a⟩
          clear hK
          try simp only [Act.put, List.setIfInBounds_toArray, List.set_cons_zero, List.set_cons_succ]
          refine anyM_one (i := 26) rfl (by kernel_rfl) (fun K hK => ?_)
          refine step_append_mem rfl (.tmp 82) (.tmp 106) 29 rfl ((HR.out.2.1.grow (World.grownBy_alloc _ _ none)).grow (grownBy_drew _ none)) 6 rfl i4 (.agg #[.int .i64 0, .int .i64 0]) 16 Tryd.underlying29 hi4 hx0 hx1 hx2 rfl (by decide) (.slice (some ⟨wr.heap.size, 0, none⟩) 1 1) 1 [.int .i64 x.1, .int .i64 x.2] (by simp [Act.eval, Act.put]) (by simp [Act.eval, Act.put]) (HSc.out.grow (grownBy_drew _ none)) (by unfold maxLen; omega) (by omega) ?_
          intro a' c' w2 hM2 hB2
          have j16 : w2.cell? ⟨ps, 16, none⟩ = some (.slice a S.length c) := hM2.cell (i := 1) rfl 16 (by omega)
          have f16 : w2.frozen? ⟨ps, 16, none⟩ = false := hM2.frozen (i := 1) rfl 16
          have HM2 : Hid _ := hM2
          have HD3 : Hid (Below w.heap.size w w2) := HD2.out.trans hB2
          clear hM2 hB2
          have HH3 : Hid ((fun W => W.cell? ⟨pw, 0, none⟩ = some (.pointer (some ⟨pt, 0, none⟩)) ∧ W.cell? ⟨pt, 4, none⟩ = some (.slice (some ⟨g, 0, none⟩) t.shifts.length csh) ∧ W.cell? ⟨g, k * 2, none⟩ = some (.int .i64 x.1) ∧ W.cell? ⟨g, k * 2 + 1, none⟩ = some (.int .i64 x.2) ∧ W.cell? ⟨ps, 16, none⟩ = some (.slice a S.length c)) w2) := by
            obtain ⟨u0, u4, u1, u2⟩ := HKP.out _ HD3.out
            exact ⟨u0, u4, u1, u2, j16⟩
          refine hK.out _ _ (fun _ => HH3.out) ?_
          clear hK
          try simp only [Act.put, List.setIfInBounds_toArray, List.set_cons_zero, List.set_cons_succ]
          refine anyM_take (i := 27) (v := ?v27) rfl (by kernel_rfl) (by kernel_rfl) (by kernel_rfl) (by kernel_rfl) (fun _ _ _ h => h) (Or.inl ⟨by rfl, ?hy27⟩) HH3.out ?rest27
          case hy27 =>
            intro w hSw
            obtain ⟨s0, s4, s1, s2, s16⟩ := hSw
            go_simp
            try with_reducible rfl
          try simp only [Act.put, List.setIfInBounds_toArray, List.set_cons_zero, List.set_cons_succ]
          refine anyM_one (i := 28) rfl (by kernel_rfl) (fun K hK => ?_)
          go_simp
          refine hK.out _ _ (fun h => absurd rfl h) ?_
          clear hK
          refine anyM_done (by kernel_rfl) ?_ _
          go_wp2
          have HM3 : Hid (Mem (w2.setCell ⟨ps, 16, none⟩ (.slice a' (S.length + 1) c')) w.heap.size (srows w.heap.size ps zcells t (.slice a2 t.out.length c2) (.slice a3 t.short.length c3) (.slice a4 t.run.kept.length c4) (.slice a5 t.head.length c5) (.slice a' (S ++ [x]).length c') (.slice none 0 0) (S ++ [x]) [])) := by
            have m := HM2.out.setCell (i := 1) rfl 16 (.slice a' (S.length + 1) c')
            have e1' : (S ++ [x]).length = S.length + 1 := by simp
            have e2' : shCells (S ++ [x]) = shCells S ++ [.int .i64 x.1, .int .i64 x.2] := by rw [shCells_append]; rfl
            show Mem _ _ _
            simp only [srows, e1', e2']
            exact m
          exact ⟨⟨k + 1, S ++ [x], a', c', by simp, by omega, by simp [HSk.out], by rw [HTX.out, HR.out.1], HM3.out, HD3.out.setCell HPS.out _⟩, by simp [intOf]; omega⟩
        · go_wp2_with fail
          go_meet
          case rel =>
            have e : S = t.shifts := by rw [HR.out.1, List.take_of_length_le (by omega)]
            rw [e] at HR
            exact ⟨_, _, HR.out.2.1, HBr.out⟩
    case rest =>
      obtain ⟨ax, cx, hM, hB⟩ := hcut
      have HMB : Hid (Mem wc w.heap.size (srows w.heap.size ps zcells t (.slice a2 t.out.length c2) (.slice a3 t.short.length c3) (.slice a4 t.run.kept.length c4) (.slice a5 t.head.length c5) (.slice ax t.shifts.length cx) (.slice none 0 0) t.shifts [])) := hM
      have HBB : Hid (Below w.heap.size w wc) := hB
      clear hM hB HMA HBA
      have HGL : Hid (G0.length = t.runs.length) := by show _ = _; have := congrArg List.length HM.out.runs; simpa using this
      go_upto_block 2 with fail
      go_cut [5] (fun _ wx => ∃ (G : List (Value × Run)) (a : Option Addr) (c : Nat), G.map (·.2) = t.runs ∧ Mem wx w.heap.size (srows w.heap.size ps zcells t (.slice a2 t.out.length c2) (.slice a3 t.short.length c3) (.slice a4 t.run.kept.length c4) (.slice a5 t.head.length c5) (.slice ax t.shifts.length cx) (.slice a G.length c) t.shifts G) ∧ Below w.heap.size w wx)
      case first =>
        go_wp2_with fail
        go_loopw [5] (fun i wr => ∃ (k : Nat) (G : List (Value × Run)) (a : Option Addr) (c : Nat), i = .int .i64 k ∧ k ≤ G0.length ∧ G.length = k ∧ Hid (G.map (·.2) = t.runs.take k ∧ Mem wr w.heap.size (srows w.heap.size ps zcells t (.slice a2 t.out.length c2) (.slice a3 t.short.length c3) (.slice a4 t.run.kept.length c4) (.slice a5 t.head.length c5) (.slice ax t.shifts.length cx) (.slice a G.length c) t.shifts G) ∧ Below w.heap.size w wr)) (fun i _ => G0.length - (intOf i).toNat)
        case atStart => exact ⟨0, [], none, 0, rfl, Nat.zero_le _, rfl, by simp, HMB.out, HBB.out⟩
        case round =>
          obtain ⟨k, G, a, c, rfl, hkl, hGk, HR⟩ := hrel
          have HGk : Hid (G.length = k) := hGk
          have hGb : G.length ≤ G0.length := by rw [hGk]; exact hkl
          clear hGk
          clear HMB HBB
          have HBr : Hid (Below w.heap.size w wr) := HR.out.2.2
          obtain ⟨q0, q4, q5⟩ := HKW.out wr HBr.out
          have hg3 : G0.length ≤ 3 := by rw [HGL.out]; exact h6
          by_cases hlt : (k : Int) < (G0.length : Int)
          · obtain ⟨x, hx⟩ : ∃ x, G0[k]? = some x := ⟨_, List.getElem?_eq_getElem (by omega)⟩
            have hxr : t.runs[k]? = some x.2 := by rw [← HM.out.runs, List.getElem?_map, hx]; rfl
            have HTX : Hid (t.runs.take (k + 1) = t.runs.take k ++ [x.2]) := by show _ = _; rw [List.take_add_one, hxr]; rfl
            have h7x := h7 x.2 (List.mem_of_getElem? hxr)
            have HRx : Hid (Rd w x.1 x.2.kept) := by
              refine own_rd (B := B) (HM.out.mem.own (8 + k) (rowB x.1 x.2.kept) ?_)
              have h8 : (G0.map (fun x => rowB x.1 x.2.kept))[k]? = some (rowB x.1 x.2.kept) := by rw [List.getElem?_map, hx]; rfl
              have h9 := List.getElem?_append_right (l₁ := [(⟨57, 16, ptr pw, 1, wcells pt t (.slice ao t.out.length co) (.slice as1 t.short.length cs) (.slice ak t.run.kept.length ck)⟩ : Row), ⟨53, 6, ptr pt, 1, tcells t (.slice ah t.head.length ch) (.slice ash t.shifts.length csh) (.slice ar G0.length cr)⟩, rowB (.slice ao t.out.length co) t.out, rowB (.slice as1 t.short.length cs) t.short, rowB (.slice ak t.run.kept.length ck) t.run.kept, rowB (.slice ah t.head.length ch) t.head, ⟨61, 2, .slice ash t.shifts.length csh, t.shifts.length, shCells t.shifts⟩, ⟨55, 4, .slice ar G0.length cr, G0.length, runCells G0⟩]) (l₂ := G0.map (fun x => rowB x.1 x.2.kept)) (i := 8 + k) (by show 8 ≤ 8 + k; omega)
              rw [← h8]
              refine h9.trans ?_
              show (G0.map (fun x => rowB x.1 x.2.kept))[8 + k - 8]? = _
              rw [Nat.add_sub_cancel_left]
            obtain ⟨g, rfl, e1, e2, e3, e4⟩ := own_runE (own_mono HM.out.oruns (Nat.zero_le _)) rfl hx HBr.out
            obtain ⟨xv, xr⟩ := x
            dsimp only at *
            obtain ⟨av, cv, rfl, _⟩ := HRx.out.len
            have p17 : wr.cell? ⟨ps, 17, none⟩ = some (.slice a G.length c) := HR.out.2.1.cell (i := 1) rfl 17 (by omega)
            have HD1 : Hid (Below w.heap.size w wr.drew) := HBr.out.drew
            have HMd : Hid (Mem wr.drew w.heap.size (srows w.heap.size ps zcells t (.slice a2 t.out.length c2) (.slice a3 t.short.length c3) (.slice a4 t.run.kept.length c4) (.slice a5 t.head.length c5) (.slice ax t.shifts.length cx) (.slice a G.length c) t.shifts G)) := HR.out.2.1.grow (grownBy_drew _ none)
            have hk0 : (0 : Int) ≤ (k : Int) := by omega
            go_upto_region 9 with fail
            go_region_law ((first
              | (go_simp; go_at_call 15; refine (runOf_any _ (.slice av xr.kept.length cv) xr (HRx.out.below HD1.out) h7x).mono ?_; rintro e w2 ⟨a8, c8, rfl, hO, hb2⟩; have HM2 : Hid (Mem w2 w.heap.size _) := HMd.out.addB (rowB (.slice a8 xr.kept.length c8) xr.kept) hO hb2; have HD2 : Hid (Below w.heap.size w w2) := HD1.out.trans (Below.mono hb2 HD1.out.size); clear hO hb2; have p17b : w2.cell? ⟨ps, 17, none⟩ = some (.slice a G.length c) := HM2.out.cell (i := 1) rfl 17 (by omega); have p17d : (w2.alloc (.cells #[.int .i64 xr.zeros, .slice a8 xr.kept.length c8, .int .i64 xr.more, .bool xr.sticky] 28)).cell? ⟨ps, 17, none⟩ = some (.slice a G.length c) := (HM2.out.grow (World.grownBy_alloc _ _ none)).cell (i := 1) rfl 17 (by omega))
              | (refine step_append_mem rfl (.tmp 122) (.tmp 134) 30 rfl (HM2.out.grow (World.grownBy_alloc _ _ none)) 7 rfl i8 (.agg #[.int .i64 0, .slice none 0 0, .int .i64 0, .bool false]) 48 Tryd.underlying30 hi8 hy0 hy1 hy2 rfl (by decide) (.slice (some ⟨w2.heap.size, 0, none⟩) 1 1) 1 [.int .i64 xr.zeros, .slice a8 xr.kept.length c8, .int .i64 xr.more, .bool xr.sticky] (by simp [Act.eval, Act.put]) (by simp [Act.eval, Act.put]) (src_cells w2 [.int .i64 xr.zeros, .slice a8 xr.kept.length c8, .int .i64 xr.more, .bool xr.sticky] 28 1 1 4 rfl (by intro u hu; simp at hu; rcases hu with rfl | rfl | rfl | rfl <;> rfl)) (by unfold maxLen; omega) (by omega) ?_; intro a9 c9 w3 hM3 hB3; have p17c : w3.cell? ⟨ps, 17, none⟩ = some (.slice a G.length c) := hM3.cell (i := 1) rfl 17 (by omega); have f17 := hM3.frozen (i := 1) rfl 17; have HM3 : Hid _ := hM3; have HD3 : Hid (Below w.heap.size w w3) := (HD2.out.alloc HM2.out.size _).trans hB3; clear hM3 hB3)))
            all_goals (try go_wp2)
            all_goals
              have HM4 : Hid (Mem (w3.setCell ⟨ps, 17, none⟩ (.slice a9 (G.length + 1) c9)) w.heap.size (srows w.heap.size ps zcells t (.slice a2 t.out.length c2) (.slice a3 t.short.length c3) (.slice a4 t.run.kept.length c4) (.slice a5 t.head.length c5) (.slice ax t.shifts.length cx) (.slice a9 (G ++ [(Value.slice a8 xr.kept.length c8, xr)]).length c9) t.shifts (G ++ [(Value.slice a8 xr.kept.length c8, xr)]))) := by
                have m := HM3.out.setCell (i := 1) rfl 17 (.slice a9 (G.length + 1) c9)
                have e1' : (G ++ [(Value.slice a8 xr.kept.length c8, xr)]).length = G.length + 1 := by simp
                have e2' : runCells (G ++ [(Value.slice a8 xr.kept.length c8, xr)]) = runCells G ++ [.int .i64 xr.zeros, .slice a8 xr.kept.length c8, .int .i64 xr.more, .bool xr.sticky] := by simp [runCells]
                have e3' : (G ++ [(Value.slice a8 xr.kept.length c8, xr)]).map (fun x => rowB x.1 x.2.kept) = G.map (fun x => rowB x.1 x.2.kept) ++ [rowB (Value.slice a8 xr.kept.length c8) xr.kept] := by simp
                show Mem _ _ _
                simp only [srows, e1', e2', e3']
                exact m
              exact ⟨⟨k + 1, G ++ [(.slice a8 xr.kept.length c8, xr)], a9, c9, by simp, by omega, by simp [HGk.out], by rw [List.map_append, HR.out.1, HTX.out]; rfl, HM4.out, HD3.out.setCell HPS.out _⟩, by simp [intOf]; omega⟩
          · go_wp2_with fail
            go_meet
            case rel =>
              have e : t.runs.take k = t.runs := List.take_of_length_le (by rw [← HGL.out]; omega)
              exact ⟨G, a, c, by rw [HR.out.1, e], HR.out.2.1, HBr.out⟩
      case rest =>
        obtain ⟨G, a, c, hG, hM, hB⟩ := hcut
        have HGe : Hid (G.map (·.2) = t.runs) := hG
        have HMC : Hid (Mem wc w.heap.size (srows w.heap.size ps zcells t (.slice a2 t.out.length c2) (.slice a3 t.short.length c3) (.slice a4 t.run.kept.length c4) (.slice a5 t.head.length c5) (.slice ax t.shifts.length cx) (.slice a G.length c) t.shifts G)) := hM
        have HBC : Hid (Below w.heap.size w wc) := hB
        have HRG : Hid (wc.rangeAt ps 0 (scells t (.slice a2 t.out.length c2) (.slice a3 t.short.length c3) (.slice a4 t.run.kept.length c4) (.slice a5 t.head.length c5) (.slice ax t.shifts.length cx) (.slice a G.length c))) := hM.range (i := 1) rfl
        have HTH : Hid (wc.there w.heap.size 0 18) := hM.there (i := 0) rfl
        have HONE : Hid ((scells t (.slice a2 t.out.length c2) (.slice a3 t.short.length c3) (.slice a4 t.run.kept.length c4) (.slice a5 t.head.length c5) (.slice ax t.shifts.length cx) (.slice a G.length c)).toArray.all (·.oneCell') = true) := all_oneCell_toArray (scells_one t _ _ _ _ _ _ _ _ _ _ _ _ _ _ _ _ _ _)
        have HMF : Hid (Mem (wc.setCells w.heap.size 0 (scells t (.slice a2 t.out.length c2) (.slice a3 t.short.length c3) (.slice a4 t.run.kept.length c4) (.slice a5 t.head.length c5) (.slice ax t.shifts.length cx) (.slice a G.length c))) w.heap.size (srows w.heap.size ps (scells t (.slice a2 t.out.length c2) (.slice a3 t.short.length c3) (.slice a4 t.run.kept.length c4) (.slice a5 t.head.length c5) (.slice ax t.shifts.length cx) (.slice a G.length c)) t (.slice a2 t.out.length c2) (.slice a3 t.short.length c3) (.slice a4 t.run.kept.length c4) (.slice a5 t.head.length c5) (.slice ax t.shifts.length cx) (.slice a G.length c) t.shifts G)) := hM.setCells (i := 0) rfl 0 (scells t (.slice a2 t.out.length c2) (.slice a3 t.short.length c3) (.slice a4 t.run.kept.length c4) (.slice a5 t.head.length c5) (.slice ax t.shifts.length cx) (.slice a G.length c))
        have HBF : Hid (Below w.heap.size w (wc.setCells w.heap.size 0 (scells t (.slice a2 t.out.length c2) (.slice a3 t.short.length c3) (.slice a4 t.run.kept.length c4) (.slice a5 t.head.length c5) (.slice ax t.shifts.length cx) (.slice a G.length c)))) := below_setCells hB (Nat.le_refl _) 0 _
        clear hG hM hB
        go_upto_region 10 with fail
        go_wp2_with (first
          | (refine wpList_load_mid rfl 32 (.tmp 3) rfl ps 0 rfl (scells t (.slice a2 t.out.length c2) (.slice a3 t.short.length c3) (.slice a4 t.run.kept.length c4) (.slice a5 t.head.length c5) (.slice ax t.shifts.length cx) (.slice a G.length c)) _ HRG.out Tryd.underlying32 rfl size32 ?_)
          | (refine wpList_store_mid rfl 32 (.tmp 2) (.tmp 137) rfl w.heap.size 0 (scells t (.slice a2 t.out.length c2) (.slice a3 t.short.length c3) (.slice a4 t.run.kept.length c4) (.slice a5 t.head.length c5) (.slice ax t.shifts.length cx) (.slice a G.length c)).toArray rfl rfl HTH.out size32 HONE.out ?_))
        (try simp only [Exit.inBlock, Exit.then])
        refine bodyPost_ret (results_cell_row Tryd.results8 _ _ w.heap.size 32 (scells t (.slice a2 t.out.length c2) (.slice a3 t.short.length c3) (.slice a4 t.run.kept.length c4) (.slice a5 t.head.length c5) (.slice ax t.shifts.length cx) (.slice a G.length c)).toArray (0, 0) _ rfl (HMF.out.heap (i := 0) rfl) Tryd.underlying32 rfl size32) rfl ?_
        have hGl : G.length = t.runs.length := by have := congrArg List.length HGe.out; simpa using this
        refine ⟨_, _, _, _, _, _, G, rfl, ⟨own_rd (HMF.out.own 2 _ rfl), own_rd (HMF.out.own 3 _ rfl), own_rd (HMF.out.own 4 _ rfl), own_rd (HMF.out.own 5 _ rfl), own_mono (HMF.out.own 6 _ rfl) (Nat.zero_le _), ?_, ?_, HGe.out⟩, HBF.out⟩
        · have := own_mono (HMF.out.own 7 _ rfl) (Nat.zero_le _)
          rw [← hGl]
          exact this
        · intro x hx
          obtain ⟨i, hi', hxi⟩ := List.getElem_of_mem hx
          refine own_rd (B := w.heap.size) (HMF.out.own (8 + i) (rowB x.1 x.2.kept) ?_)
          have h8 : (G.map (fun x => rowB x.1 x.2.kept))[i]? = some (rowB x.1 x.2.kept) := by rw [List.getElem?_map, List.getElem?_eq_getElem hi', hxi]; rfl
          rw [← h8]
          unfold srows
          rw [List.getElem?_append_right (by show 8 ≤ 8 + i; omega)]
          show (G.map (fun x => rowB x.1 x.2.kept))[8 + i - 8]? = _
          rw [Nat.add_sub_cancel_left]
theorem state_sl (w : World) (B pw pt : Nat) (t : St) (h : WrV w B pw pt t) (h1 : t.out.length ≤ 1073741824) (h2 : t.short.length ≤ 1073741824) (h3 : t.run.kept.length ≤ 1073741824) (h4 : t.head.length ≤ 1073741824) (h5 : t.shifts.length ≤ 1073741824) (h6 : t.runs.length ≤ 3) (h7 : ∀ r ∈ t.runs, r.kept.length ≤ 1073741824) :
    Calls Tryd.prog 8 #[.pointer (some ⟨pw, 0, none⟩)] w fun e w' => ∃ x1 x2 x3 x4 x5 x6 x7 x8 x9 x10 x11 x12 G, e = .returned (.agg #[.slice x1 t.out.length x2, .int .i64 t.spaces, .bool t.full, .bool t.inRun, .bool t.joins, .bool t.und, .bool t.ex, .bool t.mark, .int .i64 t.length, .slice x3 t.short.length x4, .int .i64 t.run.zeros, .slice x5 t.run.kept.length x6, .int .i64 t.run.more, .bool t.run.sticky, .slice x7 t.head.length x8, .int .i64 t.tlen, .slice x9 t.shifts.length x10, .slice x11 t.runs.length x12]) ∧ StR w' t (.slice x1 t.out.length x2) (.slice x3 t.short.length x4) (.slice x5 t.run.kept.length x6) (.slice x7 t.head.length x8) (.slice x9 t.shifts.length x10) (.slice x11 t.runs.length x12) G ∧ Below w.heap.size w w' := by
  refine (state_any w B pw pt t h h1 h2 h3 h4 h5 h6 h7).mono ?_
  rintro e w' ⟨vo, vs, vk, vh, vsh, vr, G, rfl, hR, hB⟩
  obtain ⟨x1, x2, rfl, _⟩ := hR.out.len
  obtain ⟨x3, x4, rfl, _⟩ := hR.short.len
  obtain ⟨x5, x6, rfl, _⟩ := hR.kept.len
  obtain ⟨x7, x8, rfl, _⟩ := hR.head.len
  obtain ⟨x9, x10, rfl, _⟩ := row_form hR.shifts
  obtain ⟨x11, x12, rfl, _⟩ := row_form hR.runs
  exact ⟨x1, x2, x3, x4, x5, x6, x7, x8, x9, x10, x11, x12, G, rfl, hR, hB⟩

end Go.Proofs.Qxb6616348aDoor
