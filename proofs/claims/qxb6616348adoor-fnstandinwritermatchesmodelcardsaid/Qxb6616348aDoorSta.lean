import Derived.Test.Qxb6616348aDoorRunOf
import Derived.Test.Qxb6616348aDoorSameS
import Derived.Deep.MidRow
import Derived.Test.Qxb6616348aDoorAnyM
set_option linter.unusedSimpArgs false
set_option linter.unusedVariables false
namespace Go.Proofs.Qxb6616348aDoor
open Go.RowKit

theorem info42 : (Tryd.prog.info? 42).map (fun i => (i.zero, i.size, i.bytes)) = some (some (.agg #[.int .i64 0, .int .i64 0]), 2, 16) := by kernel_rfl
theorem info28 : (Tryd.prog.info? 28).map (fun i => (i.zero, i.size, i.bytes)) = some (some (.agg #[.int .i64 0, .slice none 0 0, .int .i64 0, .bool false]), 4, 48) := by kernel_rfl

/-- the copied state's cells -/
def scells (t : St) (vo vs vk vh vsh vr : Value) : List Value :=
  [vo, .int .i64 t.spaces, .bool t.full, .bool t.inRun, .bool t.joins, .bool t.und, .bool t.ex, .bool t.mark, .int .i64 t.length, vs, .int .i64 t.run.zeros, vk, .int .i64 t.run.more, .bool t.run.sticky, vh, .int .i64 t.tlen, vsh, vr]
def zcells : List Value :=
  [.slice none 0 0, .int .i64 0, .bool false, .bool false, .bool false, .bool false, .bool false, .bool false, .int .i64 0, .slice none 0 0, .int .i64 0, .slice none 0 0, .int .i64 0, .bool false, .slice none 0 0, .int .i64 0, .slice none 0 0, .slice none 0 0]
def srows (pr ps : Nat) (R : List Value) (t : St) (vo vs vk vh vsh vr : Value) (S : List (Nat × Int)) (G : List (Value × Run)) : List Row :=
  [⟨32, 18, ptr pr, 1, R⟩, ⟨32, 18, ptr ps, 1, scells t vo vs vk vh vsh vr⟩, rowB vo t.out, rowB vs t.short, rowB vk t.run.kept, rowB vh t.head,
   ⟨42, 2, vsh, S.length, shCells S⟩, ⟨28, 4, vr, G.length, runCells G⟩] ++ G.map (fun x => rowB x.1 x.2.kept)
theorem own_mono {w : World} {B B' : Nat} {e sz n : Nat} {v : Value} {xs : List Value} (h : w.ownsRow B e sz v n xs) (hb : B' ≤ B) : w.ownsRow B' e sz v n xs := by
  refine ⟨h.1, h.2.imp id fun ⟨g, cap, cur, e1, e2, e3⟩ => ⟨g, cap, cur, e1, by omega, e3⟩⟩
theorem nil_apart (a b : Value) (h : a.ownBlock = none) : apart a b := .inl h
theorem Mem.addNil {w : World} {B : Nat} {R : List Row} (h : Mem w B R) (e sz : Nat) : Mem w B (R ++ [⟨e, sz, .slice none 0 0, 0, []⟩]) :=
  h.add _ (World.ownsRow_nil _ _ _ _) (grownBy_refl w _) (.inr rfl)
/-- a new row, whatever made it -/
theorem Mem.addB {w w' : World} {B : Nat} {R : List Row} (h : Mem w B R) (r : Row) (ho : w'.ownsRow w.heap.size r.e r.sz r.v r.n r.xs) (hb : Below w.heap.size w w') : Mem w' B (R ++ [r]) := by
  have h' := h.below hb
  have hB := h.size
  have key : ∀ (j : Nat) (s : Row), R[j]? = some s → apart s.v r.v := by
    intro j s hs
    cases hs' : s.v.ownBlock with
    | none => exact .inl hs'
    | some k =>
      have h1 := ((h.own j s hs).lt k hs').2
      refine .inr ?_
      rw [hs']
      intro e
      have := (ho.lt k e.symm).1
      omega
  have at_ : ∀ (j : Nat) (s : Row), (R ++ [r])[j]? = some s → R[j]? = some s ∨ (j = R.length ∧ s = r) := by
    intro j s hs
    by_cases hj : j < R.length
    · rw [List.getElem?_append_left hj] at hs
      exact .inl hs
    · rw [List.getElem?_append_right (by omega)] at hs
      by_cases e : j = R.length
      · subst e
        simp at hs
        exact .inr ⟨rfl, hs.symm⟩
      · rw [List.getElem?_eq_none (by simp; omega)] at hs
        cases hs
  refine ⟨?_, ?_, h'.size⟩
  · intro j s hs
    rcases at_ j s hs with hs | ⟨_, rfl⟩
    · exact h'.own j s hs
    · exact own_mono ho hB
  · intro j k s t hjk hs ht
    rcases at_ j s hs with hs' | ⟨ej, es⟩
    · rcases at_ k t ht with ht' | ⟨ek, et⟩
      · exact h.far j k s t hjk hs' ht'
      · rw [et]; exact key j s hs'
    · rcases at_ k t ht with ht' | ⟨ek, et⟩
      · rw [es]; exact (key k t ht').symm
      · omega

theorem own_shE {w w' : World} {e c k : Nat} {a : Option Addr} {l : List (Nat × Int)} {x : Nat × Int} (h : w.ownsRow 0 e 2 (.slice a l.length c) l.length (shCells l)) (hx : l[k]? = some x) (hb : Below w.heap.size w w') :
    ∃ g, a = some ⟨g, 0, none⟩ ∧ w'.cell? ⟨g, k * 2, none⟩ = some (.int .i64 x.1) ∧ w'.cell? ⟨g, k * 2 + 1, none⟩ = some (.int .i64 x.2) := by
  have hk : k < l.length := (List.getElem?_eq_some_iff.1 hx).1
  obtain ⟨g, ha, hc⟩ := own_at h (by omega) hb
  have hs := shCells_at l k x hx
  exact ⟨g, ha, (hc _ (by omega)).trans hs.1, (hc _ (by omega)).trans hs.2⟩
theorem own_runE {w w' : World} {e c k n : Nat} {a : Option Addr} {l : List (Value × Run)} {x : Value × Run} (h : w.ownsRow 0 e 4 (.slice a n c) n (runCells l)) (hn : n = l.length) (hx : l[k]? = some x) (hb : Below w.heap.size w w') :
    ∃ g, a = some ⟨g, 0, none⟩ ∧ w'.cell? ⟨g, k * 4, none⟩ = some (.int .i64 x.2.zeros) ∧ w'.cell? ⟨g, k * 4 + 1, none⟩ = some x.1 ∧ w'.cell? ⟨g, k * 4 + 2, none⟩ = some (.int .i64 x.2.more) ∧ w'.cell? ⟨g, k * 4 + 3, none⟩ = some (.bool x.2.sticky) := by
  have hk : k < l.length := (List.getElem?_eq_some_iff.1 hx).1
  obtain ⟨g, ha, hc⟩ := own_at h (by omega) hb
  have hs := runCells_at l k x hx
  exact ⟨g, ha, (hc _ (by omega)).trans hs.1, (hc _ (by omega)).trans hs.2.1, (hc _ (by omega)).trans hs.2.2.1, (hc _ (by omega)).trans hs.2.2.2⟩

/-- what the copied state reads as -/
structure StR (w : World) (t : St) (vo vs vk vh vsh vr : Value) (G : List (Value × Run)) : Prop where
  out : Rd w vo t.out
  short : Rd w vs t.short
  kept : Rd w vk t.run.kept
  head : Rd w vh t.head
  shifts : w.ownsRow 0 42 2 vsh t.shifts.length (shCells t.shifts)
  runs : w.ownsRow 0 28 4 vr t.runs.length (runCells G)
  rds : ∀ x ∈ G, Rd w x.1 x.2.kept
  eq : G.map (·.2) = t.runs

/-- the copies so far, in world W -/
def FactM (w W : World) (R : List Row) : Prop := Mem W w.heap.size R ∧ Below w.heap.size w W
theorem FactM.bel {w W : World} {R : List Row} (h : FactM w W R) : Below w.heap.size w W := h.2
theorem FactM.mem {w W : World} {R : List Row} (h : FactM w W R) : Mem W w.heap.size R := h.1
theorem step_at {ops : Array Oper} {o : Oper} {a : Act} {w W : World} {R : List Row} {K : Act → World → Prop} {Q : Exit → Act → World → Prop} {E : Prop} (h : FactM w W R) (k : Mem W w.heap.size R ∧ Below w.heap.size w W → if Region.wanted o (yielded ops a.tmps) = true then Oper.wp Tryd.prog o a W K Q else E) : if Region.wanted o (yielded ops a.tmps) = true then Oper.wp Tryd.prog o a W K Q else E := k h
theorem calls_at {n : Nat} {args : Array Value} {w W : World} {R : List Row} {Q : Ending → World → Prop} (h : FactM w W R) (k : Mem W w.heap.size R ∧ Below w.heap.size w W → Calls Tryd.prog n args W Q) : Calls Tryd.prog n args W Q := k h
/-- the state's variable is made -/
theorem allocd {w W : World} {r0 : Row} {R : List Row} (h : Mem W w.heap.size (r0 :: ⟨32, 18, .slice none 0 0, 0, []⟩ :: R) ∧ Below w.heap.size w W) (C : Array Value) (hC : C.size = 18) :
    Mem (W.alloc (.cells C 32)) w.heap.size (r0 :: ⟨32, 18, ptr W.heap.size, 1, C.toList⟩ :: R) ∧ Below w.heap.size w (W.alloc (.cells C 32)) := by
  refine ⟨?_, h.2.alloc h.1.size _⟩
  have := World.ownsRow_lit (base := w.heap.size) (e := 32) (size := 18) W C 1 h.1.size (by unfold maxLen; omega) hC
  exact h.1.upd (i := 1) rfl ⟨32, 18, ptr W.heap.size, 1, C.toList⟩ this (World.grownBy_alloc _ _ _) (.inr (.inl rfl))
theorem allocdF {w W : World} {r0 : Row} {R : List Row} (h : FactM w W (r0 :: ⟨32, 18, .slice none 0 0, 0, []⟩ :: R)) (C : Array Value) (hC : C.size = 18) : FactM w (W.alloc (.cells C 32)) (r0 :: ⟨32, 18, ptr W.heap.size, 1, C.toList⟩ :: R) := allocd h C hC
theorem ps18 {W : World} {B p : Nat} {r0 : Row} {R : List Row} (h : Mem W B (r0 :: ⟨32, 18, ptr p, 1, zcells⟩ :: R)) :
    B ≤ p ∧ (W.cell? ⟨p, 0, none⟩ = some (.slice none 0 0) ∧ W.cell? ⟨p, 1, none⟩ = some (.int .i64 0) ∧ W.cell? ⟨p, 2, none⟩ = some (.bool false) ∧ W.cell? ⟨p, 3, none⟩ = some (.bool false) ∧ W.cell? ⟨p, 4, none⟩ = some (.bool false) ∧ W.cell? ⟨p, 5, none⟩ = some (.bool false) ∧ W.cell? ⟨p, 6, none⟩ = some (.bool false) ∧ W.cell? ⟨p, 7, none⟩ = some (.bool false) ∧ W.cell? ⟨p, 8, none⟩ = some (.int .i64 0) ∧ W.cell? ⟨p, 9, none⟩ = some (.slice none 0 0) ∧ W.cell? ⟨p, 10, none⟩ = some (.int .i64 0) ∧ W.cell? ⟨p, 11, none⟩ = some (.slice none 0 0) ∧ W.cell? ⟨p, 12, none⟩ = some (.int .i64 0) ∧ W.cell? ⟨p, 13, none⟩ = some (.bool false) ∧ W.cell? ⟨p, 14, none⟩ = some (.slice none 0 0) ∧ W.cell? ⟨p, 15, none⟩ = some (.int .i64 0) ∧ W.cell? ⟨p, 16, none⟩ = some (.slice none 0 0) ∧ W.cell? ⟨p, 17, none⟩ = some (.slice none 0 0)) ∧ (W.frozen? ⟨p, 0, none⟩ = false ∧ W.frozen? ⟨p, 1, none⟩ = false ∧ W.frozen? ⟨p, 2, none⟩ = false ∧ W.frozen? ⟨p, 3, none⟩ = false ∧ W.frozen? ⟨p, 4, none⟩ = false ∧ W.frozen? ⟨p, 5, none⟩ = false ∧ W.frozen? ⟨p, 6, none⟩ = false ∧ W.frozen? ⟨p, 7, none⟩ = false ∧ W.frozen? ⟨p, 8, none⟩ = false ∧ W.frozen? ⟨p, 9, none⟩ = false ∧ W.frozen? ⟨p, 10, none⟩ = false ∧ W.frozen? ⟨p, 11, none⟩ = false ∧ W.frozen? ⟨p, 12, none⟩ = false ∧ W.frozen? ⟨p, 13, none⟩ = false ∧ W.frozen? ⟨p, 14, none⟩ = false ∧ W.frozen? ⟨p, 15, none⟩ = false ∧ W.frozen? ⟨p, 16, none⟩ = false ∧ W.frozen? ⟨p, 17, none⟩ = false) :=
  ⟨((h.own 1 _ rfl).lt p rfl).1, ⟨h.cell (i := 1) rfl 0 (by omega), h.cell (i := 1) rfl 1 (by omega), h.cell (i := 1) rfl 2 (by omega), h.cell (i := 1) rfl 3 (by omega), h.cell (i := 1) rfl 4 (by omega), h.cell (i := 1) rfl 5 (by omega), h.cell (i := 1) rfl 6 (by omega), h.cell (i := 1) rfl 7 (by omega), h.cell (i := 1) rfl 8 (by omega), h.cell (i := 1) rfl 9 (by omega), h.cell (i := 1) rfl 10 (by omega), h.cell (i := 1) rfl 11 (by omega), h.cell (i := 1) rfl 12 (by omega), h.cell (i := 1) rfl 13 (by omega), h.cell (i := 1) rfl 14 (by omega), h.cell (i := 1) rfl 15 (by omega), h.cell (i := 1) rfl 16 (by omega), h.cell (i := 1) rfl 17 (by omega)⟩, h.frozen (i := 1) rfl 0, h.frozen (i := 1) rfl 1, h.frozen (i := 1) rfl 2, h.frozen (i := 1) rfl 3, h.frozen (i := 1) rfl 4, h.frozen (i := 1) rfl 5, h.frozen (i := 1) rfl 6, h.frozen (i := 1) rfl 7, h.frozen (i := 1) rfl 8, h.frozen (i := 1) rfl 9, h.frozen (i := 1) rfl 10, h.frozen (i := 1) rfl 11, h.frozen (i := 1) rfl 12, h.frozen (i := 1) rfl 13, h.frozen (i := 1) rfl 14, h.frozen (i := 1) rfl 15, h.frozen (i := 1) rfl 16, h.frozen (i := 1) rfl 17⟩
theorem fill18 {W : World} {B p : Nat} {r0 : Row} {R : List Row} (h0 : Mem W B (r0 :: ⟨32, 18, ptr p, 1, zcells⟩ :: R)) (v0 v1 v2 v3 v4 v5 v6 v7 v8 v9 v10 v11 v12 v13 v14 v15 v16 v17 : Value) :
    Mem ((((((((((((((((((W.setCell ⟨p, 0, none⟩ v0).setCell ⟨p, 1, none⟩ v1).setCell ⟨p, 2, none⟩ v2).setCell ⟨p, 3, none⟩ v3).setCell ⟨p, 4, none⟩ v4).setCell ⟨p, 5, none⟩ v5).setCell ⟨p, 6, none⟩ v6).setCell ⟨p, 7, none⟩ v7).setCell ⟨p, 8, none⟩ v8).setCell ⟨p, 9, none⟩ v9).setCell ⟨p, 10, none⟩ v10).setCell ⟨p, 11, none⟩ v11).setCell ⟨p, 12, none⟩ v12).setCell ⟨p, 13, none⟩ v13).setCell ⟨p, 14, none⟩ v14).setCell ⟨p, 15, none⟩ v15).setCell ⟨p, 16, none⟩ v16).setCell ⟨p, 17, none⟩ v17) B (r0 :: ⟨32, 18, ptr p, 1, [v0, v1, v2, v3, v4, v5, v6, v7, v8, v9, v10, v11, v12, v13, v14, v15, v16, v17]⟩ :: R) := by
  have h1 : Mem (W.setCell ⟨p, 0, none⟩ v0) B (r0 :: ⟨32, 18, ptr p, 1, [v0, .int .i64 0, .bool false, .bool false, .bool false, .bool false, .bool false, .bool false, .int .i64 0, .slice none 0 0, .int .i64 0, .slice none 0 0, .int .i64 0, .bool false, .slice none 0 0, .int .i64 0, .slice none 0 0, .slice none 0 0]⟩ :: R) := h0.setCell (i := 1) rfl 0 v0
  have h2 : Mem ((W.setCell ⟨p, 0, none⟩ v0).setCell ⟨p, 1, none⟩ v1) B (r0 :: ⟨32, 18, ptr p, 1, [v0, v1, .bool false, .bool false, .bool false, .bool false, .bool false, .bool false, .int .i64 0, .slice none 0 0, .int .i64 0, .slice none 0 0, .int .i64 0, .bool false, .slice none 0 0, .int .i64 0, .slice none 0 0, .slice none 0 0]⟩ :: R) := h1.setCell (i := 1) rfl 1 v1
  have h3 : Mem (((W.setCell ⟨p, 0, none⟩ v0).setCell ⟨p, 1, none⟩ v1).setCell ⟨p, 2, none⟩ v2) B (r0 :: ⟨32, 18, ptr p, 1, [v0, v1, v2, .bool false, .bool false, .bool false, .bool false, .bool false, .int .i64 0, .slice none 0 0, .int .i64 0, .slice none 0 0, .int .i64 0, .bool false, .slice none 0 0, .int .i64 0, .slice none 0 0, .slice none 0 0]⟩ :: R) := h2.setCell (i := 1) rfl 2 v2
  have h4 : Mem ((((W.setCell ⟨p, 0, none⟩ v0).setCell ⟨p, 1, none⟩ v1).setCell ⟨p, 2, none⟩ v2).setCell ⟨p, 3, none⟩ v3) B (r0 :: ⟨32, 18, ptr p, 1, [v0, v1, v2, v3, .bool false, .bool false, .bool false, .bool false, .int .i64 0, .slice none 0 0, .int .i64 0, .slice none 0 0, .int .i64 0, .bool false, .slice none 0 0, .int .i64 0, .slice none 0 0, .slice none 0 0]⟩ :: R) := h3.setCell (i := 1) rfl 3 v3
  have h5 : Mem (((((W.setCell ⟨p, 0, none⟩ v0).setCell ⟨p, 1, none⟩ v1).setCell ⟨p, 2, none⟩ v2).setCell ⟨p, 3, none⟩ v3).setCell ⟨p, 4, none⟩ v4) B (r0 :: ⟨32, 18, ptr p, 1, [v0, v1, v2, v3, v4, .bool false, .bool false, .bool false, .int .i64 0, .slice none 0 0, .int .i64 0, .slice none 0 0, .int .i64 0, .bool false, .slice none 0 0, .int .i64 0, .slice none 0 0, .slice none 0 0]⟩ :: R) := h4.setCell (i := 1) rfl 4 v4
  have h6 : Mem ((((((W.setCell ⟨p, 0, none⟩ v0).setCell ⟨p, 1, none⟩ v1).setCell ⟨p, 2, none⟩ v2).setCell ⟨p, 3, none⟩ v3).setCell ⟨p, 4, none⟩ v4).setCell ⟨p, 5, none⟩ v5) B (r0 :: ⟨32, 18, ptr p, 1, [v0, v1, v2, v3, v4, v5, .bool false, .bool false, .int .i64 0, .slice none 0 0, .int .i64 0, .slice none 0 0, .int .i64 0, .bool false, .slice none 0 0, .int .i64 0, .slice none 0 0, .slice none 0 0]⟩ :: R) := h5.setCell (i := 1) rfl 5 v5
  have h7 : Mem (((((((W.setCell ⟨p, 0, none⟩ v0).setCell ⟨p, 1, none⟩ v1).setCell ⟨p, 2, none⟩ v2).setCell ⟨p, 3, none⟩ v3).setCell ⟨p, 4, none⟩ v4).setCell ⟨p, 5, none⟩ v5).setCell ⟨p, 6, none⟩ v6) B (r0 :: ⟨32, 18, ptr p, 1, [v0, v1, v2, v3, v4, v5, v6, .bool false, .int .i64 0, .slice none 0 0, .int .i64 0, .slice none 0 0, .int .i64 0, .bool false, .slice none 0 0, .int .i64 0, .slice none 0 0, .slice none 0 0]⟩ :: R) := h6.setCell (i := 1) rfl 6 v6
  have h8 : Mem ((((((((W.setCell ⟨p, 0, none⟩ v0).setCell ⟨p, 1, none⟩ v1).setCell ⟨p, 2, none⟩ v2).setCell ⟨p, 3, none⟩ v3).setCell ⟨p, 4, none⟩ v4).setCell ⟨p, 5, none⟩ v5).setCell ⟨p, 6, none⟩ v6).setCell ⟨p, 7, none⟩ v7) B (r0 :: ⟨32, 18, ptr p, 1, [v0, v1, v2, v3, v4, v5, v6, v7, .int .i64 0, .slice none 0 0, .int .i64 0, .slice none 0 0, .int .i64 0, .bool false, .slice none 0 0, .int .i64 0, .slice none 0 0, .slice none 0 0]⟩ :: R) := h7.setCell (i := 1) rfl 7 v7
  have h9 : Mem (((((((((W.setCell ⟨p, 0, none⟩ v0).setCell ⟨p, 1, none⟩ v1).setCell ⟨p, 2, none⟩ v2).setCell ⟨p, 3, none⟩ v3).setCell ⟨p, 4, none⟩ v4).setCell ⟨p, 5, none⟩ v5).setCell ⟨p, 6, none⟩ v6).setCell ⟨p, 7, none⟩ v7).setCell ⟨p, 8, none⟩ v8) B (r0 :: ⟨32, 18, ptr p, 1, [v0, v1, v2, v3, v4, v5, v6, v7, v8, .slice none 0 0, .int .i64 0, .slice none 0 0, .int .i64 0, .bool false, .slice none 0 0, .int .i64 0, .slice none 0 0, .slice none 0 0]⟩ :: R) := h8.setCell (i := 1) rfl 8 v8
  have h10 : Mem ((((((((((W.setCell ⟨p, 0, none⟩ v0).setCell ⟨p, 1, none⟩ v1).setCell ⟨p, 2, none⟩ v2).setCell ⟨p, 3, none⟩ v3).setCell ⟨p, 4, none⟩ v4).setCell ⟨p, 5, none⟩ v5).setCell ⟨p, 6, none⟩ v6).setCell ⟨p, 7, none⟩ v7).setCell ⟨p, 8, none⟩ v8).setCell ⟨p, 9, none⟩ v9) B (r0 :: ⟨32, 18, ptr p, 1, [v0, v1, v2, v3, v4, v5, v6, v7, v8, v9, .int .i64 0, .slice none 0 0, .int .i64 0, .bool false, .slice none 0 0, .int .i64 0, .slice none 0 0, .slice none 0 0]⟩ :: R) := h9.setCell (i := 1) rfl 9 v9
  have h11 : Mem (((((((((((W.setCell ⟨p, 0, none⟩ v0).setCell ⟨p, 1, none⟩ v1).setCell ⟨p, 2, none⟩ v2).setCell ⟨p, 3, none⟩ v3).setCell ⟨p, 4, none⟩ v4).setCell ⟨p, 5, none⟩ v5).setCell ⟨p, 6, none⟩ v6).setCell ⟨p, 7, none⟩ v7).setCell ⟨p, 8, none⟩ v8).setCell ⟨p, 9, none⟩ v9).setCell ⟨p, 10, none⟩ v10) B (r0 :: ⟨32, 18, ptr p, 1, [v0, v1, v2, v3, v4, v5, v6, v7, v8, v9, v10, .slice none 0 0, .int .i64 0, .bool false, .slice none 0 0, .int .i64 0, .slice none 0 0, .slice none 0 0]⟩ :: R) := h10.setCell (i := 1) rfl 10 v10
  have h12 : Mem ((((((((((((W.setCell ⟨p, 0, none⟩ v0).setCell ⟨p, 1, none⟩ v1).setCell ⟨p, 2, none⟩ v2).setCell ⟨p, 3, none⟩ v3).setCell ⟨p, 4, none⟩ v4).setCell ⟨p, 5, none⟩ v5).setCell ⟨p, 6, none⟩ v6).setCell ⟨p, 7, none⟩ v7).setCell ⟨p, 8, none⟩ v8).setCell ⟨p, 9, none⟩ v9).setCell ⟨p, 10, none⟩ v10).setCell ⟨p, 11, none⟩ v11) B (r0 :: ⟨32, 18, ptr p, 1, [v0, v1, v2, v3, v4, v5, v6, v7, v8, v9, v10, v11, .int .i64 0, .bool false, .slice none 0 0, .int .i64 0, .slice none 0 0, .slice none 0 0]⟩ :: R) := h11.setCell (i := 1) rfl 11 v11
  have h13 : Mem (((((((((((((W.setCell ⟨p, 0, none⟩ v0).setCell ⟨p, 1, none⟩ v1).setCell ⟨p, 2, none⟩ v2).setCell ⟨p, 3, none⟩ v3).setCell ⟨p, 4, none⟩ v4).setCell ⟨p, 5, none⟩ v5).setCell ⟨p, 6, none⟩ v6).setCell ⟨p, 7, none⟩ v7).setCell ⟨p, 8, none⟩ v8).setCell ⟨p, 9, none⟩ v9).setCell ⟨p, 10, none⟩ v10).setCell ⟨p, 11, none⟩ v11).setCell ⟨p, 12, none⟩ v12) B (r0 :: ⟨32, 18, ptr p, 1, [v0, v1, v2, v3, v4, v5, v6, v7, v8, v9, v10, v11, v12, .bool false, .slice none 0 0, .int .i64 0, .slice none 0 0, .slice none 0 0]⟩ :: R) := h12.setCell (i := 1) rfl 12 v12
  have h14 : Mem ((((((((((((((W.setCell ⟨p, 0, none⟩ v0).setCell ⟨p, 1, none⟩ v1).setCell ⟨p, 2, none⟩ v2).setCell ⟨p, 3, none⟩ v3).setCell ⟨p, 4, none⟩ v4).setCell ⟨p, 5, none⟩ v5).setCell ⟨p, 6, none⟩ v6).setCell ⟨p, 7, none⟩ v7).setCell ⟨p, 8, none⟩ v8).setCell ⟨p, 9, none⟩ v9).setCell ⟨p, 10, none⟩ v10).setCell ⟨p, 11, none⟩ v11).setCell ⟨p, 12, none⟩ v12).setCell ⟨p, 13, none⟩ v13) B (r0 :: ⟨32, 18, ptr p, 1, [v0, v1, v2, v3, v4, v5, v6, v7, v8, v9, v10, v11, v12, v13, .slice none 0 0, .int .i64 0, .slice none 0 0, .slice none 0 0]⟩ :: R) := h13.setCell (i := 1) rfl 13 v13
  have h15 : Mem (((((((((((((((W.setCell ⟨p, 0, none⟩ v0).setCell ⟨p, 1, none⟩ v1).setCell ⟨p, 2, none⟩ v2).setCell ⟨p, 3, none⟩ v3).setCell ⟨p, 4, none⟩ v4).setCell ⟨p, 5, none⟩ v5).setCell ⟨p, 6, none⟩ v6).setCell ⟨p, 7, none⟩ v7).setCell ⟨p, 8, none⟩ v8).setCell ⟨p, 9, none⟩ v9).setCell ⟨p, 10, none⟩ v10).setCell ⟨p, 11, none⟩ v11).setCell ⟨p, 12, none⟩ v12).setCell ⟨p, 13, none⟩ v13).setCell ⟨p, 14, none⟩ v14) B (r0 :: ⟨32, 18, ptr p, 1, [v0, v1, v2, v3, v4, v5, v6, v7, v8, v9, v10, v11, v12, v13, v14, .int .i64 0, .slice none 0 0, .slice none 0 0]⟩ :: R) := h14.setCell (i := 1) rfl 14 v14
  have h16 : Mem ((((((((((((((((W.setCell ⟨p, 0, none⟩ v0).setCell ⟨p, 1, none⟩ v1).setCell ⟨p, 2, none⟩ v2).setCell ⟨p, 3, none⟩ v3).setCell ⟨p, 4, none⟩ v4).setCell ⟨p, 5, none⟩ v5).setCell ⟨p, 6, none⟩ v6).setCell ⟨p, 7, none⟩ v7).setCell ⟨p, 8, none⟩ v8).setCell ⟨p, 9, none⟩ v9).setCell ⟨p, 10, none⟩ v10).setCell ⟨p, 11, none⟩ v11).setCell ⟨p, 12, none⟩ v12).setCell ⟨p, 13, none⟩ v13).setCell ⟨p, 14, none⟩ v14).setCell ⟨p, 15, none⟩ v15) B (r0 :: ⟨32, 18, ptr p, 1, [v0, v1, v2, v3, v4, v5, v6, v7, v8, v9, v10, v11, v12, v13, v14, v15, .slice none 0 0, .slice none 0 0]⟩ :: R) := h15.setCell (i := 1) rfl 15 v15
  have h17 : Mem (((((((((((((((((W.setCell ⟨p, 0, none⟩ v0).setCell ⟨p, 1, none⟩ v1).setCell ⟨p, 2, none⟩ v2).setCell ⟨p, 3, none⟩ v3).setCell ⟨p, 4, none⟩ v4).setCell ⟨p, 5, none⟩ v5).setCell ⟨p, 6, none⟩ v6).setCell ⟨p, 7, none⟩ v7).setCell ⟨p, 8, none⟩ v8).setCell ⟨p, 9, none⟩ v9).setCell ⟨p, 10, none⟩ v10).setCell ⟨p, 11, none⟩ v11).setCell ⟨p, 12, none⟩ v12).setCell ⟨p, 13, none⟩ v13).setCell ⟨p, 14, none⟩ v14).setCell ⟨p, 15, none⟩ v15).setCell ⟨p, 16, none⟩ v16) B (r0 :: ⟨32, 18, ptr p, 1, [v0, v1, v2, v3, v4, v5, v6, v7, v8, v9, v10, v11, v12, v13, v14, v15, v16, .slice none 0 0]⟩ :: R) := h16.setCell (i := 1) rfl 16 v16
  have h18 : Mem ((((((((((((((((((W.setCell ⟨p, 0, none⟩ v0).setCell ⟨p, 1, none⟩ v1).setCell ⟨p, 2, none⟩ v2).setCell ⟨p, 3, none⟩ v3).setCell ⟨p, 4, none⟩ v4).setCell ⟨p, 5, none⟩ v5).setCell ⟨p, 6, none⟩ v6).setCell ⟨p, 7, none⟩ v7).setCell ⟨p, 8, none⟩ v8).setCell ⟨p, 9, none⟩ v9).setCell ⟨p, 10, none⟩ v10).setCell ⟨p, 11, none⟩ v11).setCell ⟨p, 12, none⟩ v12).setCell ⟨p, 13, none⟩ v13).setCell ⟨p, 14, none⟩ v14).setCell ⟨p, 15, none⟩ v15).setCell ⟨p, 16, none⟩ v16).setCell ⟨p, 17, none⟩ v17) B (r0 :: ⟨32, 18, ptr p, 1, [v0, v1, v2, v3, v4, v5, v6, v7, v8, v9, v10, v11, v12, v13, v14, v15, v16, v17]⟩ :: R) := h17.setCell (i := 1) rfl 17 v17
  exact h18
theorem fill18a {W : World} {B p : Nat} {R : List Row} (h0 : Mem W B (⟨32, 18, ptr p, 1, zcells⟩ :: R)) (v0 v1 v2 v3 v4 v5 v6 v7 v8 v9 v10 v11 v12 v13 v14 v15 v16 v17 : Value) :
    Mem ((((((((((((((((((W.setCell ⟨p, 0, none⟩ v0).setCell ⟨p, 1, none⟩ v1).setCell ⟨p, 2, none⟩ v2).setCell ⟨p, 3, none⟩ v3).setCell ⟨p, 4, none⟩ v4).setCell ⟨p, 5, none⟩ v5).setCell ⟨p, 6, none⟩ v6).setCell ⟨p, 7, none⟩ v7).setCell ⟨p, 8, none⟩ v8).setCell ⟨p, 9, none⟩ v9).setCell ⟨p, 10, none⟩ v10).setCell ⟨p, 11, none⟩ v11).setCell ⟨p, 12, none⟩ v12).setCell ⟨p, 13, none⟩ v13).setCell ⟨p, 14, none⟩ v14).setCell ⟨p, 15, none⟩ v15).setCell ⟨p, 16, none⟩ v16).setCell ⟨p, 17, none⟩ v17) B (⟨32, 18, ptr p, 1, [v0, v1, v2, v3, v4, v5, v6, v7, v8, v9, v10, v11, v12, v13, v14, v15, v16, v17]⟩ :: R) := by
  have h1 : Mem (W.setCell ⟨p, 0, none⟩ v0) B (⟨32, 18, ptr p, 1, [v0, .int .i64 0, .bool false, .bool false, .bool false, .bool false, .bool false, .bool false, .int .i64 0, .slice none 0 0, .int .i64 0, .slice none 0 0, .int .i64 0, .bool false, .slice none 0 0, .int .i64 0, .slice none 0 0, .slice none 0 0]⟩ :: R) := h0.setCell (i := 0) rfl 0 v0
  have h2 : Mem ((W.setCell ⟨p, 0, none⟩ v0).setCell ⟨p, 1, none⟩ v1) B (⟨32, 18, ptr p, 1, [v0, v1, .bool false, .bool false, .bool false, .bool false, .bool false, .bool false, .int .i64 0, .slice none 0 0, .int .i64 0, .slice none 0 0, .int .i64 0, .bool false, .slice none 0 0, .int .i64 0, .slice none 0 0, .slice none 0 0]⟩ :: R) := h1.setCell (i := 0) rfl 1 v1
  have h3 : Mem (((W.setCell ⟨p, 0, none⟩ v0).setCell ⟨p, 1, none⟩ v1).setCell ⟨p, 2, none⟩ v2) B (⟨32, 18, ptr p, 1, [v0, v1, v2, .bool false, .bool false, .bool false, .bool false, .bool false, .int .i64 0, .slice none 0 0, .int .i64 0, .slice none 0 0, .int .i64 0, .bool false, .slice none 0 0, .int .i64 0, .slice none 0 0, .slice none 0 0]⟩ :: R) := h2.setCell (i := 0) rfl 2 v2
  have h4 : Mem ((((W.setCell ⟨p, 0, none⟩ v0).setCell ⟨p, 1, none⟩ v1).setCell ⟨p, 2, none⟩ v2).setCell ⟨p, 3, none⟩ v3) B (⟨32, 18, ptr p, 1, [v0, v1, v2, v3, .bool false, .bool false, .bool false, .bool false, .int .i64 0, .slice none 0 0, .int .i64 0, .slice none 0 0, .int .i64 0, .bool false, .slice none 0 0, .int .i64 0, .slice none 0 0, .slice none 0 0]⟩ :: R) := h3.setCell (i := 0) rfl 3 v3
  have h5 : Mem (((((W.setCell ⟨p, 0, none⟩ v0).setCell ⟨p, 1, none⟩ v1).setCell ⟨p, 2, none⟩ v2).setCell ⟨p, 3, none⟩ v3).setCell ⟨p, 4, none⟩ v4) B (⟨32, 18, ptr p, 1, [v0, v1, v2, v3, v4, .bool false, .bool false, .bool false, .int .i64 0, .slice none 0 0, .int .i64 0, .slice none 0 0, .int .i64 0, .bool false, .slice none 0 0, .int .i64 0, .slice none 0 0, .slice none 0 0]⟩ :: R) := h4.setCell (i := 0) rfl 4 v4
  have h6 : Mem ((((((W.setCell ⟨p, 0, none⟩ v0).setCell ⟨p, 1, none⟩ v1).setCell ⟨p, 2, none⟩ v2).setCell ⟨p, 3, none⟩ v3).setCell ⟨p, 4, none⟩ v4).setCell ⟨p, 5, none⟩ v5) B (⟨32, 18, ptr p, 1, [v0, v1, v2, v3, v4, v5, .bool false, .bool false, .int .i64 0, .slice none 0 0, .int .i64 0, .slice none 0 0, .int .i64 0, .bool false, .slice none 0 0, .int .i64 0, .slice none 0 0, .slice none 0 0]⟩ :: R) := h5.setCell (i := 0) rfl 5 v5
  have h7 : Mem (((((((W.setCell ⟨p, 0, none⟩ v0).setCell ⟨p, 1, none⟩ v1).setCell ⟨p, 2, none⟩ v2).setCell ⟨p, 3, none⟩ v3).setCell ⟨p, 4, none⟩ v4).setCell ⟨p, 5, none⟩ v5).setCell ⟨p, 6, none⟩ v6) B (⟨32, 18, ptr p, 1, [v0, v1, v2, v3, v4, v5, v6, .bool false, .int .i64 0, .slice none 0 0, .int .i64 0, .slice none 0 0, .int .i64 0, .bool false, .slice none 0 0, .int .i64 0, .slice none 0 0, .slice none 0 0]⟩ :: R) := h6.setCell (i := 0) rfl 6 v6
  have h8 : Mem ((((((((W.setCell ⟨p, 0, none⟩ v0).setCell ⟨p, 1, none⟩ v1).setCell ⟨p, 2, none⟩ v2).setCell ⟨p, 3, none⟩ v3).setCell ⟨p, 4, none⟩ v4).setCell ⟨p, 5, none⟩ v5).setCell ⟨p, 6, none⟩ v6).setCell ⟨p, 7, none⟩ v7) B (⟨32, 18, ptr p, 1, [v0, v1, v2, v3, v4, v5, v6, v7, .int .i64 0, .slice none 0 0, .int .i64 0, .slice none 0 0, .int .i64 0, .bool false, .slice none 0 0, .int .i64 0, .slice none 0 0, .slice none 0 0]⟩ :: R) := h7.setCell (i := 0) rfl 7 v7
  have h9 : Mem (((((((((W.setCell ⟨p, 0, none⟩ v0).setCell ⟨p, 1, none⟩ v1).setCell ⟨p, 2, none⟩ v2).setCell ⟨p, 3, none⟩ v3).setCell ⟨p, 4, none⟩ v4).setCell ⟨p, 5, none⟩ v5).setCell ⟨p, 6, none⟩ v6).setCell ⟨p, 7, none⟩ v7).setCell ⟨p, 8, none⟩ v8) B (⟨32, 18, ptr p, 1, [v0, v1, v2, v3, v4, v5, v6, v7, v8, .slice none 0 0, .int .i64 0, .slice none 0 0, .int .i64 0, .bool false, .slice none 0 0, .int .i64 0, .slice none 0 0, .slice none 0 0]⟩ :: R) := h8.setCell (i := 0) rfl 8 v8
  have h10 : Mem ((((((((((W.setCell ⟨p, 0, none⟩ v0).setCell ⟨p, 1, none⟩ v1).setCell ⟨p, 2, none⟩ v2).setCell ⟨p, 3, none⟩ v3).setCell ⟨p, 4, none⟩ v4).setCell ⟨p, 5, none⟩ v5).setCell ⟨p, 6, none⟩ v6).setCell ⟨p, 7, none⟩ v7).setCell ⟨p, 8, none⟩ v8).setCell ⟨p, 9, none⟩ v9) B (⟨32, 18, ptr p, 1, [v0, v1, v2, v3, v4, v5, v6, v7, v8, v9, .int .i64 0, .slice none 0 0, .int .i64 0, .bool false, .slice none 0 0, .int .i64 0, .slice none 0 0, .slice none 0 0]⟩ :: R) := h9.setCell (i := 0) rfl 9 v9
  have h11 : Mem (((((((((((W.setCell ⟨p, 0, none⟩ v0).setCell ⟨p, 1, none⟩ v1).setCell ⟨p, 2, none⟩ v2).setCell ⟨p, 3, none⟩ v3).setCell ⟨p, 4, none⟩ v4).setCell ⟨p, 5, none⟩ v5).setCell ⟨p, 6, none⟩ v6).setCell ⟨p, 7, none⟩ v7).setCell ⟨p, 8, none⟩ v8).setCell ⟨p, 9, none⟩ v9).setCell ⟨p, 10, none⟩ v10) B (⟨32, 18, ptr p, 1, [v0, v1, v2, v3, v4, v5, v6, v7, v8, v9, v10, .slice none 0 0, .int .i64 0, .bool false, .slice none 0 0, .int .i64 0, .slice none 0 0, .slice none 0 0]⟩ :: R) := h10.setCell (i := 0) rfl 10 v10
  have h12 : Mem ((((((((((((W.setCell ⟨p, 0, none⟩ v0).setCell ⟨p, 1, none⟩ v1).setCell ⟨p, 2, none⟩ v2).setCell ⟨p, 3, none⟩ v3).setCell ⟨p, 4, none⟩ v4).setCell ⟨p, 5, none⟩ v5).setCell ⟨p, 6, none⟩ v6).setCell ⟨p, 7, none⟩ v7).setCell ⟨p, 8, none⟩ v8).setCell ⟨p, 9, none⟩ v9).setCell ⟨p, 10, none⟩ v10).setCell ⟨p, 11, none⟩ v11) B (⟨32, 18, ptr p, 1, [v0, v1, v2, v3, v4, v5, v6, v7, v8, v9, v10, v11, .int .i64 0, .bool false, .slice none 0 0, .int .i64 0, .slice none 0 0, .slice none 0 0]⟩ :: R) := h11.setCell (i := 0) rfl 11 v11
  have h13 : Mem (((((((((((((W.setCell ⟨p, 0, none⟩ v0).setCell ⟨p, 1, none⟩ v1).setCell ⟨p, 2, none⟩ v2).setCell ⟨p, 3, none⟩ v3).setCell ⟨p, 4, none⟩ v4).setCell ⟨p, 5, none⟩ v5).setCell ⟨p, 6, none⟩ v6).setCell ⟨p, 7, none⟩ v7).setCell ⟨p, 8, none⟩ v8).setCell ⟨p, 9, none⟩ v9).setCell ⟨p, 10, none⟩ v10).setCell ⟨p, 11, none⟩ v11).setCell ⟨p, 12, none⟩ v12) B (⟨32, 18, ptr p, 1, [v0, v1, v2, v3, v4, v5, v6, v7, v8, v9, v10, v11, v12, .bool false, .slice none 0 0, .int .i64 0, .slice none 0 0, .slice none 0 0]⟩ :: R) := h12.setCell (i := 0) rfl 12 v12
  have h14 : Mem ((((((((((((((W.setCell ⟨p, 0, none⟩ v0).setCell ⟨p, 1, none⟩ v1).setCell ⟨p, 2, none⟩ v2).setCell ⟨p, 3, none⟩ v3).setCell ⟨p, 4, none⟩ v4).setCell ⟨p, 5, none⟩ v5).setCell ⟨p, 6, none⟩ v6).setCell ⟨p, 7, none⟩ v7).setCell ⟨p, 8, none⟩ v8).setCell ⟨p, 9, none⟩ v9).setCell ⟨p, 10, none⟩ v10).setCell ⟨p, 11, none⟩ v11).setCell ⟨p, 12, none⟩ v12).setCell ⟨p, 13, none⟩ v13) B (⟨32, 18, ptr p, 1, [v0, v1, v2, v3, v4, v5, v6, v7, v8, v9, v10, v11, v12, v13, .slice none 0 0, .int .i64 0, .slice none 0 0, .slice none 0 0]⟩ :: R) := h13.setCell (i := 0) rfl 13 v13
  have h15 : Mem (((((((((((((((W.setCell ⟨p, 0, none⟩ v0).setCell ⟨p, 1, none⟩ v1).setCell ⟨p, 2, none⟩ v2).setCell ⟨p, 3, none⟩ v3).setCell ⟨p, 4, none⟩ v4).setCell ⟨p, 5, none⟩ v5).setCell ⟨p, 6, none⟩ v6).setCell ⟨p, 7, none⟩ v7).setCell ⟨p, 8, none⟩ v8).setCell ⟨p, 9, none⟩ v9).setCell ⟨p, 10, none⟩ v10).setCell ⟨p, 11, none⟩ v11).setCell ⟨p, 12, none⟩ v12).setCell ⟨p, 13, none⟩ v13).setCell ⟨p, 14, none⟩ v14) B (⟨32, 18, ptr p, 1, [v0, v1, v2, v3, v4, v5, v6, v7, v8, v9, v10, v11, v12, v13, v14, .int .i64 0, .slice none 0 0, .slice none 0 0]⟩ :: R) := h14.setCell (i := 0) rfl 14 v14
  have h16 : Mem ((((((((((((((((W.setCell ⟨p, 0, none⟩ v0).setCell ⟨p, 1, none⟩ v1).setCell ⟨p, 2, none⟩ v2).setCell ⟨p, 3, none⟩ v3).setCell ⟨p, 4, none⟩ v4).setCell ⟨p, 5, none⟩ v5).setCell ⟨p, 6, none⟩ v6).setCell ⟨p, 7, none⟩ v7).setCell ⟨p, 8, none⟩ v8).setCell ⟨p, 9, none⟩ v9).setCell ⟨p, 10, none⟩ v10).setCell ⟨p, 11, none⟩ v11).setCell ⟨p, 12, none⟩ v12).setCell ⟨p, 13, none⟩ v13).setCell ⟨p, 14, none⟩ v14).setCell ⟨p, 15, none⟩ v15) B (⟨32, 18, ptr p, 1, [v0, v1, v2, v3, v4, v5, v6, v7, v8, v9, v10, v11, v12, v13, v14, v15, .slice none 0 0, .slice none 0 0]⟩ :: R) := h15.setCell (i := 0) rfl 15 v15
  have h17 : Mem (((((((((((((((((W.setCell ⟨p, 0, none⟩ v0).setCell ⟨p, 1, none⟩ v1).setCell ⟨p, 2, none⟩ v2).setCell ⟨p, 3, none⟩ v3).setCell ⟨p, 4, none⟩ v4).setCell ⟨p, 5, none⟩ v5).setCell ⟨p, 6, none⟩ v6).setCell ⟨p, 7, none⟩ v7).setCell ⟨p, 8, none⟩ v8).setCell ⟨p, 9, none⟩ v9).setCell ⟨p, 10, none⟩ v10).setCell ⟨p, 11, none⟩ v11).setCell ⟨p, 12, none⟩ v12).setCell ⟨p, 13, none⟩ v13).setCell ⟨p, 14, none⟩ v14).setCell ⟨p, 15, none⟩ v15).setCell ⟨p, 16, none⟩ v16) B (⟨32, 18, ptr p, 1, [v0, v1, v2, v3, v4, v5, v6, v7, v8, v9, v10, v11, v12, v13, v14, v15, v16, .slice none 0 0]⟩ :: R) := h16.setCell (i := 0) rfl 16 v16
  have h18 : Mem ((((((((((((((((((W.setCell ⟨p, 0, none⟩ v0).setCell ⟨p, 1, none⟩ v1).setCell ⟨p, 2, none⟩ v2).setCell ⟨p, 3, none⟩ v3).setCell ⟨p, 4, none⟩ v4).setCell ⟨p, 5, none⟩ v5).setCell ⟨p, 6, none⟩ v6).setCell ⟨p, 7, none⟩ v7).setCell ⟨p, 8, none⟩ v8).setCell ⟨p, 9, none⟩ v9).setCell ⟨p, 10, none⟩ v10).setCell ⟨p, 11, none⟩ v11).setCell ⟨p, 12, none⟩ v12).setCell ⟨p, 13, none⟩ v13).setCell ⟨p, 14, none⟩ v14).setCell ⟨p, 15, none⟩ v15).setCell ⟨p, 16, none⟩ v16).setCell ⟨p, 17, none⟩ v17) B (⟨32, 18, ptr p, 1, [v0, v1, v2, v3, v4, v5, v6, v7, v8, v9, v10, v11, v12, v13, v14, v15, v16, v17]⟩ :: R) := h17.setCell (i := 0) rfl 17 v17
  exact h18
theorem below18 {w W : World} {B p : Nat} (h : Below B w W) (hp : B ≤ p) (v0 v1 v2 v3 v4 v5 v6 v7 v8 v9 v10 v11 v12 v13 v14 v15 v16 v17 : Value) : Below B w ((((((((((((((((((W.setCell ⟨p, 0, none⟩ v0).setCell ⟨p, 1, none⟩ v1).setCell ⟨p, 2, none⟩ v2).setCell ⟨p, 3, none⟩ v3).setCell ⟨p, 4, none⟩ v4).setCell ⟨p, 5, none⟩ v5).setCell ⟨p, 6, none⟩ v6).setCell ⟨p, 7, none⟩ v7).setCell ⟨p, 8, none⟩ v8).setCell ⟨p, 9, none⟩ v9).setCell ⟨p, 10, none⟩ v10).setCell ⟨p, 11, none⟩ v11).setCell ⟨p, 12, none⟩ v12).setCell ⟨p, 13, none⟩ v13).setCell ⟨p, 14, none⟩ v14).setCell ⟨p, 15, none⟩ v15).setCell ⟨p, 16, none⟩ v16).setCell ⟨p, 17, none⟩ v17) :=
  ((((((((((((((((((h.setCell hp _).setCell hp _).setCell hp _).setCell hp _).setCell hp _).setCell hp _).setCell hp _).setCell hp _).setCell hp _).setCell hp _).setCell hp _).setCell hp _).setCell hp _).setCell hp _).setCell hp _).setCell hp _).setCell hp _).setCell hp _)
/-- a row in the place of a nil one -/
theorem Mem.putB {w w' : World} {B : Nat} {R : List Row} (h : Mem w B R) (i : Nat) {e sz : Nat} (hr : R[i]? = some ⟨e, sz, .slice none 0 0, 0, []⟩) (r : Row) (ho : w'.ownsRow w.heap.size r.e r.sz r.v r.n r.xs) (hb : Below w.heap.size w w') : Mem w' B (R.set i r) := by
  have h' := h.below hb
  have hB := h.size
  have hi : i < R.length := (List.getElem?_eq_some_iff.1 hr).1
  have key : ∀ (j : Nat) (s : Row), R[j]? = some s → apart s.v r.v := by
    intro j s hs
    cases hs' : s.v.ownBlock with
    | none => exact .inl hs'
    | some k =>
      have h1 := ((h.own j s hs).lt k hs').2
      refine .inr ?_
      rw [hs']
      intro e
      have := (ho.lt k e.symm).1
      omega
  refine ⟨?_, ?_, h'.size⟩
  · intro j s hs
    by_cases e : i = j
    · subst e
      rw [List.getElem?_set_self hi] at hs
      injection hs with hs
      subst hs
      exact own_mono ho hB
    · rw [List.getElem?_set_ne e] at hs
      exact h'.own j s hs
  · intro j k s t hjk hs ht
    by_cases e : i = j
    · subst e
      rw [List.getElem?_set_self hi] at hs
      injection hs with hs
      subst hs
      rw [List.getElem?_set_ne hjk] at ht
      exact (key k t ht).symm
    · rw [List.getElem?_set_ne e] at hs
      by_cases e2 : i = k
      · subst e2
        rw [List.getElem?_set_self hi] at ht
        injection ht with ht
        subst ht
        exact key j s hs
      · rw [List.getElem?_set_ne e2] at ht
        exact h.far j k s t hjk hs ht

theorem size32 : (Tryd.prog.info? 32).map (·.size) = some 18 := by kernel_rfl
def setL : List Value → Nat → List Value → List Value
  | xs, _, [] => xs
  | xs, o, y :: r => setL (xs.set o y) (o + 1) r
theorem Mem.setCells {W : World} {B : Nat} {R : List Row} {i p e sz : Nat} {xs : List Value} (h : Mem W B R) (hr : R[i]? = some ⟨e, sz, ptr p, 1, xs⟩) (o : Nat) (ys : List Value) :
    Mem (W.setCells p o ys) B (R.set i ⟨e, sz, ptr p, 1, setL xs o ys⟩) := by
  induction ys generalizing W R xs o with
  | nil =>
    have : R.set i ⟨e, sz, ptr p, 1, xs⟩ = R := by
      obtain ⟨hi, hv⟩ := List.getElem?_eq_some_iff.1 hr
      rw [← hv, List.set_getElem_self]
    show Mem W B (R.set i ⟨e, sz, ptr p, 1, xs⟩)
    rw [this]
    exact h
  | cons y r ih =>
    have hi := (List.getElem?_eq_some_iff.1 hr).1
    have h1 := h.setCell hr o y
    have h2 := ih h1 (List.getElem?_set_self hi) (o + 1)
    rw [List.set_set] at h2
    exact h2
theorem Mem.range {W : World} {B : Nat} {R : List Row} {i p e sz : Nat} {xs : List Value} (h : Mem W B R) (hr : R[i]? = some ⟨e, sz, ptr p, 1, xs⟩) : W.rangeAt p 0 xs := by
  intro j v hj
  have hl : xs.length = 1 * sz := (h.own i _ hr).1
  have hjl := (List.getElem?_eq_some_iff.1 hj).1
  rw [Nat.zero_add, h.cell hr j (by omega), hj]
theorem Mem.there {W : World} {B : Nat} {R : List Row} {i p e sz : Nat} {xs : List Value} (h : Mem W B R) (hr : R[i]? = some ⟨e, sz, ptr p, 1, xs⟩) : W.there p 0 sz := by
  intro j hj
  have hl : xs.length = 1 * sz := (h.own i _ hr).1
  rw [Nat.zero_add]
  refine ⟨?_, h.frozen hr j⟩
  rw [h.cell hr j (by omega), List.getElem?_eq_getElem (by omega)]
  rfl
theorem Mem.heap {W : World} {B : Nat} {R : List Row} {i p e sz : Nat} {xs : List Value} (h : Mem W B R) (hr : R[i]? = some ⟨e, sz, ptr p, 1, xs⟩) : W.heap[p]? = some (.cells xs.toArray e (0, 0)) := by
  obtain ⟨hl, ⟨h1, _⟩ | ⟨g, cap, cur, h1, _, h3, _, _, h6, h7⟩⟩ := h.own i _ hr
  · cases h1
  · unfold ptr at h1
    injection h1 with e1 e2 e3
    injection e1 with e1
    injection e1 with e1
    subst e1 e3
    have h7' : cur.toList.take (1 * sz) = xs := h7
    have h6' : cur.size = 1 * sz := h6
    have : cur.toList = xs := by rw [← h7', List.take_of_length_le (by simp; omega)]
    rw [h3, ← this]
theorem scells_one (t : St) (b2 b3 b4 b5 b6 b7 : Option Addr) (n2 c2 n3 c3 n4 c4 n5 c5 n6 c6 n7 c7 : Nat) : ∀ v ∈ scells t (.slice b2 n2 c2) (.slice b3 n3 c3) (.slice b4 n4 c4) (.slice b5 n5 c5) (.slice b6 n6 c6) (.slice b7 n7 c7), v.oneCell' = true := by
  intro v hv
  simp only [scells, List.mem_cons, List.not_mem_nil, or_false] at hv
  rcases hv with rfl | rfl | rfl | rfl | rfl | rfl | rfl | rfl | rfl | rfl | rfl | rfl | rfl | rfl | rfl | rfl | rfl | rfl <;> rfl
theorem below_setCells {B p : Nat} {w W : World} (h : Below B w W) (hp : B ≤ p) (o : Nat) (ys : List Value) : Below B w (W.setCells p o ys) := by
  induction ys generalizing W o with
  | nil => exact h
  | cons y r ih => exact ih (h.setCell hp _) (o + 1)

/-- append onto a nil row -/
theorem step_append_nil {w : World} {ops : Array Oper} {o : Oper} {a : Act} {K : Act → World → Prop} {Q : Exit → Act → World → Prop} {E : Prop} (hgd : o.guard = none) (s x : Operand) (t : TypeId)
    (ho : o.op = .call { callee := .builtin .append, args := #[s, x], argTypes := #[t, t] })
    {B : Nat} {R : List Row} (h : Mem w B R) (i : Nat) {e sz : Nat} (hr : R[i]? = some ⟨e, sz, .slice none 0 0, 0, []⟩)
    (inf : TypeInfo) (z : Value) (bytes : Nat) (ht : Tryd.prog.underlying t = some (.slice e)) (hi : Tryd.prog.info? e = some inf) (hz : inf.zero = some z) (hsize : inf.size = sz) (hby : inf.bytes = bytes) (hzs : z.cells.size = sz) (hsz : 0 < sz)
    (y : Value) (m : Nat) (news : List Value) (hs : a.eval s = .slice none 0 0) (hxe : a.eval x = y) (hx : Src w y m news sz) (h63 : m ≤ maxLen) (hbytes : m * bytes ≤ 140737488355328)
    (hk : ∀ a' c' w', Mem w' B (R.set i ⟨e, sz, .slice a' m c', m, news⟩) → Below B w w' → K (a.put o.dst (.slice a' m c')) w') :
    if Region.wanted o (yielded ops a.tmps) = true then Oper.wp Tryd.prog o a w K Q else E := by
  refine step_append_mem hgd s x t ho h i hr inf z bytes ht hi hz hsize hby hzs hsz y m news hs hxe hx (by rw [Nat.zero_add]; exact h63) (by rw [Nat.zero_add]; exact hbytes) ?_
  intro a' c' w' hM hB
  rw [Nat.zero_add] at hM ⊢
  exact hk a' c' w' hM hB

end Go.Proofs.Qxb6616348aDoor
