import Derived.Test.Qxb6616348aDoorPre
import Derived.Test.Qxb6616348aDoorSta
set_option linter.unusedSimpArgs false
set_option linter.unusedVariables false
namespace Go.Proofs.Qxb6616348aDoor
open Go.RowKit

theorem StR.below {w w' : World} {t : St} {vo vs vk vh vsh vr : Value} {G : List (Value × Run)} (h : StR w t vo vs vk vh vsh vr G) (hb : Below w.heap.size w w') : StR w' t vo vs vk vh vsh vr G := by
  have own : ∀ {e sz n : Nat} {v : Value} {xs : List Value}, w.ownsRow 0 e sz v n xs → w'.ownsRow 0 e sz v n xs := by
    intro e sz n v xs ho
    refine ⟨ho.1, ho.2.imp id fun ⟨g, cap, cur, e1, e2, e3, e4⟩ => ⟨g, cap, cur, e1, e2, ?_, e4⟩⟩
    rw [below_grown hb g (Array.getElem?_eq_some_iff.1 e3).1]
    exact e3
  exact ⟨h.out.below hb, h.short.below hb, h.kept.below hb, h.head.below hb, own h.shifts, own h.runs, fun x hx => (h.rds x hx).below hb, h.eq⟩

/-- two states that agree, compared -/
theorem sameState_any (w : World) (t t' : St) (k : Nat) (hG : Good t k) (hk : k ≤ 1048576) (hn : norm t = norm t') (hs' : ShOk t') (hh : t.head.length ≤ 40) {vo vs vk vh vsh vr : Value} {G : List (Value × Run)} {bo bs bk bh bsh br : Value} {GB : List (Value × Run)} (ha : StR w t vo vs vk vh vsh vr G) (hb : StR w t' bo bs bk bh bsh br GB) :
    Calls Tryd.prog 13 #[.agg #[vo, .int .i64 t.spaces, .bool t.full, .bool t.inRun, .bool t.joins, .bool t.und, .bool t.ex, .bool t.mark, .int .i64 t.length, vs, .int .i64 t.run.zeros, vk, .int .i64 t.run.more, .bool t.run.sticky, vh, .int .i64 t.tlen, vsh, vr], .agg #[bo, .int .i64 t'.spaces, .bool t'.full, .bool t'.inRun, .bool t'.joins, .bool t'.und, .bool t'.ex, .bool t'.mark, .int .i64 t'.length, bs, .int .i64 t'.run.zeros, bk, .int .i64 t'.run.more, .bool t'.run.sticky, bh, .int .i64 t'.tlen, bsh, br]] w fun e w' => e = .returned (.bool true) ∧ Below w.heap.size w w' := by
  have e1 : t'.out = t.out := by have := congrArg St.out hn; exact this.symm
  have e2 : t'.spaces = t.spaces := by have := congrArg St.spaces hn; exact this.symm
  have e3 : t'.full = t.full := by have := congrArg St.full hn; exact this.symm
  have e4 : t'.inRun = t.inRun := by have := congrArg St.inRun hn; exact this.symm
  have e5 : t'.joins = t.joins := by have := congrArg St.joins hn; exact this.symm
  have e6 : t'.und = t.und := by have := congrArg St.und hn; exact this.symm
  have e7 : t'.ex = t.ex := by have := congrArg St.ex hn; exact this.symm
  have e8 : t'.mark = t.mark := by have := congrArg St.mark hn; exact this.symm
  have e9 : t'.length = t.length := by have := congrArg St.length hn; exact this.symm
  have e10 : t'.run = t.run := by have := congrArg St.run hn; exact this.symm
  have e11 : t'.head = t.head := by have := congrArg St.head hn; exact this.symm
  have e12 : t'.tlen = t.tlen := by have := congrArg St.tlen hn; exact this.symm
  have e13 : t'.shifts = t.shifts := by have := congrArg St.shifts hn; exact this.symm
  have e14 : t'.runs = t.runs := by have := congrArg St.runs hn; exact this.symm
  have e15 : t.length ≤ 40 → t.short = t'.short := by
    intro h40
    have h1 := congrArg St.short hn
    rw [norm_pos h40, norm_pos (by rw [e9]; exact h40)] at h1
    exact h1
  have hi := hG.inv
  have hlen := hi.len
  obtain ⟨D, hr, hD⟩ := hi.run
  have hkk : t.run.kept.length ≤ k := by rw [hr]; exact Nat.le_trans (valOf_kept _ _) hD
  have hsh := hi.shifts
  obtain ⟨a1, m1, rfl, _⟩ := row_form ha.shifts
  obtain ⟨a2, m2, rfl, _⟩ := row_form ha.runs
  obtain ⟨b1, n1, rfl, _⟩ := row_form hb.shifts
  obtain ⟨b2, n2, rfl, _⟩ := row_form hb.runs
  have hbo := hb.out
  have hbs := hb.short
  have hbk := hb.kept
  have hbh := hb.head
  have hbsh := hb.shifts
  have hbr := hb.runs
  have hbe := hb.eq
  rw [e1] at hbo
  rw [e10] at hbk
  rw [e11] at hbh
  rw [e13] at hbsh
  rw [e14] at hbr hbe
  rw [e2, e3, e4, e5, e6, e7, e8, e9, e10, e12, e13, e14]
  have h40 := hi.short.2
  have h40' := hs'.2
  refine sameState_in w t t.short t'.short _ _ _ _ _ _ _ _ a1 b1 a2 b2 m1 n1 m2 n2 G GB e15 ?_ (by omega) (by omega) (by omega) (by omega) (by split at hsh <;> omega) hi.runs (fun r hr => Nat.le_trans (hi.kept r hr) (by omega)) (by split at hlen <;> omega) ha.out hbo ha.short hbs ha.kept hbk ha.head hbh ha.shifts hbsh ha.runs hbr ⟨ha.rds, ha.eq⟩ ⟨hb.rds, hbe⟩
  have := hi.out
  omega

theorem good_all (us : Bool) (keep : Nat) (text : Bs) (hk : 1 ≤ keep) (hl : text.length ≤ 1048576) : Good (all us keep text) text.length := by
  have := (good_init us keep hk).fold text (by omega)
  rw [Nat.zero_add] at this
  exact this.setH _ _
theorem all_head {us : Bool} {keep : Nat} {text : Bs} {t : St} (h : norm t = norm (all us keep text)) : t.head = text.take 40 ∧ t.tlen = text.length ∧ t.keep = keep := by
  have e1 : t.head = (all us keep text).head := by have := congrArg St.head h; exact this
  have e2 : t.tlen = (all us keep text).tlen := by have := congrArg St.tlen h; exact this
  have e3 : t.keep = (all us keep text).keep := by have := congrArg St.keep h; exact this
  refine ⟨e1, e2, ?_⟩
  rw [e3]
  show (text.foldl step (init us keep)).keep = keep
  rw [fold_keep]
  rfl
theorem good_bounds {t : St} {k : Nat} (h : Good t k) (hk : k ≤ 1048576) : t.out.length ≤ 1073741824 ∧ t.short.length ≤ 1073741824 ∧ t.run.kept.length ≤ 1073741824 ∧ t.shifts.length ≤ 1073741824 ∧ t.runs.length ≤ 3 ∧ ∀ r ∈ t.runs, r.kept.length ≤ 1073741824 := by
  have hi := h.inv
  obtain ⟨D, hr, hD⟩ := hi.run
  have hkk : t.run.kept.length ≤ k := by rw [hr]; exact Nat.le_trans (valOf_kept _ _) hD
  have hsh := hi.shifts
  have ho := hi.out
  have hs := hi.short.2
  exact ⟨by omega, by omega, by omega, by split at hsh <;> omega, hi.runs, fun r hr => Nat.le_trans (hi.kept r hr) (by omega)⟩

theorem range_below {w w' : World} {b o : Nat} {cs : List Value} (h : w.rangeAt b o cs) (hb : Below w.heap.size w w') : w'.rangeAt b o cs := by
  intro j v hj
  have h1 := h j v hj
  rw [hb.cell (p := ⟨b, o + j, none⟩) (World.block_lt_of_cell? w _ h1), h1]

/-- a struct stored into the variable just made -/
theorem wpList_store_box {ops : Array Oper} {rest : List Oper} {op : Oper} {a : Act} {Q : Exit → Act → World → Prop} (hgd : op.guard = none) (x y : Operand) (ho : op.op = .store 32 x y) (w7 : World) (L : List Value)
    (hx : a.eval x = .pointer (some ⟨w7.heap.size, 0, none⟩)) (hy : a.eval y = .agg L.toArray) (hL : L.length = 18) (h1 : ∀ v ∈ L, v.oneCell' = true)
    (h : ∀ W, Below w7.heap.size w7 W → W.rangeAt w7.heap.size 0 L → wpList Tryd.prog ops Q rest (a.put op.dst undef) W) : wpList Tryd.prog ops Q (op :: rest) a (w7.alloc (.cells #[.slice none 0 0, .int .i64 0, .bool false, .bool false, .bool false, .bool false, .bool false, .bool false, .int .i64 0, .slice none 0 0, .int .i64 0, .slice none 0 0, .int .i64 0, .bool false, .slice none 0 0, .int .i64 0, .slice none 0 0, .slice none 0 0] 32)) := by
  have hth : (w7.alloc (.cells #[.slice none 0 0, .int .i64 0, .bool false, .bool false, .bool false, .bool false, .bool false, .bool false, .int .i64 0, .slice none 0 0, .int .i64 0, .slice none 0 0, .int .i64 0, .bool false, .slice none 0 0, .int .i64 0, .slice none 0 0, .slice none 0 0] 32)).there w7.heap.size 0 18 := by
    intro j hj
    rw [Nat.zero_add, World.cell?_alloc_mark]
    refine ⟨?_, ?_⟩
    · rw [Array.getElem?_eq_getElem (by simpa using hj)]; rfl
    · have m0 : Mem w7 w7.heap.size [] := ⟨fun i r hr => by simp at hr, fun i j r s _ hr => by simp at hr, Nat.le_refl _⟩
      have m1 := m0.add ⟨32, 18, ptr w7.heap.size, 1, zcells⟩ (World.ownsRow_lit (base := w7.heap.size) (e := 32) (size := 18) w7 zcells.toArray 1 (Nat.le_refl _) (by unfold maxLen; omega) rfl) (World.grownBy_alloc _ _ none) (.inl rfl)
      exact m1.frozen (i := 0) rfl j
  have m0 : Mem w7 w7.heap.size [] := ⟨fun i r hr => by simp at hr, fun i j r s _ hr => by simp at hr, Nat.le_refl _⟩
  have m1 := m0.add ⟨32, 18, ptr w7.heap.size, 1, zcells⟩ (World.ownsRow_lit (base := w7.heap.size) (e := 32) (size := 18) w7 zcells.toArray 1 (Nat.le_refl _) (by unfold maxLen; omega) rfl) (World.grownBy_alloc _ _ none) (.inl rfl)
  refine wpList_store_mid hgd 32 x y ho w7.heap.size 0 L.toArray hx hy (by simp only [List.size_toArray, hL]; exact hth) (by simp only [List.size_toArray, hL]; exact size32) (all_oneCell_toArray h1) ?_
  refine h _ (below_setCells ((Below.refl _ _).alloc (Nat.le_refl _) _) (Nat.le_refl _) 0 _) ?_
  exact World.rangeAt_setCells_same _ _ _ _ (by rw [show L.toArray.toList = L from rfl, hL]; exact hth)
/-- a struct stored into a variable just made -/
theorem wpList_store_new {ops : Array Oper} {rest : List Oper} {op : Oper} {a : Act} {Q : Exit → Act → World → Prop} (hgd : op.guard = none) (T : TypeId) (Z : Array Value) (x y : Operand) (ho : op.op = .store T x y) (w7 : World) (L : List Value)
    (hx : a.eval x = .pointer (some ⟨w7.heap.size, 0, none⟩)) (hy : a.eval y = .agg L.toArray) (hZ : Z.size = L.length) (hs : (Tryd.prog.info? T).map (·.size) = some L.length) (h1 : ∀ v ∈ L, v.oneCell' = true)
    (h : ∀ W, Below w7.heap.size w7 W → W.rangeAt w7.heap.size 0 L → wpList Tryd.prog ops Q rest (a.put op.dst undef) W) : wpList Tryd.prog ops Q (op :: rest) a (w7.alloc (.cells Z T)) := by
  have hth : (w7.alloc (.cells Z T)).there w7.heap.size 0 L.length := by
    intro j hj
    rw [Nat.zero_add, World.cell?_alloc_mark]
    refine ⟨?_, ?_⟩
    · rw [Array.getElem?_eq_getElem (by omega)]; rfl
    · have m0 : Mem w7 w7.heap.size [] := ⟨fun i r hr => by simp at hr, fun i j r s _ hr => by simp at hr, Nat.le_refl _⟩
      have m1 := m0.add ⟨T, Z.size, ptr w7.heap.size, 1, Z.toList⟩ (World.ownsRow_lit (base := w7.heap.size) (e := T) (size := Z.size) w7 Z 1 (Nat.le_refl _) (by unfold maxLen; omega) (by simp)) (World.grownBy_alloc _ _ none) (.inl rfl)
      exact m1.frozen (i := 0) rfl j
  refine wpList_store_mid hgd T x y ho w7.heap.size 0 L.toArray hx hy (by simp only [List.size_toArray]; exact hth) (by simp only [List.size_toArray]; exact hs) (all_oneCell_toArray h1) ?_
  refine h _ (below_setCells ((Below.refl _ _).alloc (Nat.le_refl _) _) (Nat.le_refl _) 0 _) ?_
  exact World.rangeAt_setCells_same _ _ _ _ hth
end Go.Proofs.Qxb6616348aDoor
