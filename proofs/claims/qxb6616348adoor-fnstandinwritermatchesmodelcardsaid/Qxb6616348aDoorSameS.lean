import Derived.Test.Qxb6616348aDoorSame
import Derived.Deep.RegionHeld3
set_option linter.unusedSimpArgs false
set_option linter.unusedVariables false
namespace Go.Proofs.Qxb6616348aDoor
open Go.RowKit

/-- the two boxes, in any later world -/
theorem boxes (w w2 : World) (t : St) (ao as1 ak ah ash ar bo bs bk bh bsh br : Value) (h2 : Below (w.heap.size + 2) ((w.alloc (.cells #[ao, .int .i64 t.spaces, .bool t.full, .bool t.inRun, .bool t.joins, .bool t.und, .bool t.ex, .bool t.mark, .int .i64 t.length, as1, .int .i64 t.run.zeros, ak, .int .i64 t.run.more, .bool t.run.sticky, ah, .int .i64 t.tlen, ash, ar] 32)).alloc (.cells #[bo, .int .i64 t.spaces, .bool t.full, .bool t.inRun, .bool t.joins, .bool t.und, .bool t.ex, .bool t.mark, .int .i64 t.length, bs, .int .i64 t.run.zeros, bk, .int .i64 t.run.more, .bool t.run.sticky, bh, .int .i64 t.tlen, bsh, br] 32)) w2) :
    Below w.heap.size w w2 ∧ (w2.cell? ⟨w.heap.size, 0, none⟩ = some (ao) ∧ w2.cell? ⟨w.heap.size, 1, none⟩ = some (.int .i64 t.spaces) ∧ w2.cell? ⟨w.heap.size, 2, none⟩ = some (.bool t.full) ∧ w2.cell? ⟨w.heap.size, 3, none⟩ = some (.bool t.inRun) ∧ w2.cell? ⟨w.heap.size, 4, none⟩ = some (.bool t.joins) ∧ w2.cell? ⟨w.heap.size, 5, none⟩ = some (.bool t.und) ∧ w2.cell? ⟨w.heap.size, 6, none⟩ = some (.bool t.ex) ∧ w2.cell? ⟨w.heap.size, 7, none⟩ = some (.bool t.mark) ∧ w2.cell? ⟨w.heap.size, 8, none⟩ = some (.int .i64 t.length) ∧ w2.cell? ⟨w.heap.size, 9, none⟩ = some (as1) ∧ w2.cell? ⟨w.heap.size, 10, none⟩ = some (.int .i64 t.run.zeros) ∧ w2.cell? ⟨w.heap.size, 11, none⟩ = some (ak) ∧ w2.cell? ⟨w.heap.size, 12, none⟩ = some (.int .i64 t.run.more) ∧ w2.cell? ⟨w.heap.size, 13, none⟩ = some (.bool t.run.sticky) ∧ w2.cell? ⟨w.heap.size, 14, none⟩ = some (ah) ∧ w2.cell? ⟨w.heap.size, 15, none⟩ = some (.int .i64 t.tlen) ∧ w2.cell? ⟨w.heap.size, 16, none⟩ = some (ash) ∧ w2.cell? ⟨w.heap.size, 17, none⟩ = some (ar)) ∧ (w2.cell? ⟨w.heap.size + 1, 0, none⟩ = some (bo) ∧ w2.cell? ⟨w.heap.size + 1, 1, none⟩ = some (.int .i64 t.spaces) ∧ w2.cell? ⟨w.heap.size + 1, 2, none⟩ = some (.bool t.full) ∧ w2.cell? ⟨w.heap.size + 1, 3, none⟩ = some (.bool t.inRun) ∧ w2.cell? ⟨w.heap.size + 1, 4, none⟩ = some (.bool t.joins) ∧ w2.cell? ⟨w.heap.size + 1, 5, none⟩ = some (.bool t.und) ∧ w2.cell? ⟨w.heap.size + 1, 6, none⟩ = some (.bool t.ex) ∧ w2.cell? ⟨w.heap.size + 1, 7, none⟩ = some (.bool t.mark) ∧ w2.cell? ⟨w.heap.size + 1, 8, none⟩ = some (.int .i64 t.length) ∧ w2.cell? ⟨w.heap.size + 1, 9, none⟩ = some (bs) ∧ w2.cell? ⟨w.heap.size + 1, 10, none⟩ = some (.int .i64 t.run.zeros) ∧ w2.cell? ⟨w.heap.size + 1, 11, none⟩ = some (bk) ∧ w2.cell? ⟨w.heap.size + 1, 12, none⟩ = some (.int .i64 t.run.more) ∧ w2.cell? ⟨w.heap.size + 1, 13, none⟩ = some (.bool t.run.sticky) ∧ w2.cell? ⟨w.heap.size + 1, 14, none⟩ = some (bh) ∧ w2.cell? ⟨w.heap.size + 1, 15, none⟩ = some (.int .i64 t.tlen) ∧ w2.cell? ⟨w.heap.size + 1, 16, none⟩ = some (bsh) ∧ w2.cell? ⟨w.heap.size + 1, 17, none⟩ = some (br)) := by
  have hA : ∀ j, w2.cell? ⟨w.heap.size, j, none⟩ = (#[ao, .int .i64 t.spaces, .bool t.full, .bool t.inRun, .bool t.joins, .bool t.und, .bool t.ex, .bool t.mark, .int .i64 t.length, as1, .int .i64 t.run.zeros, ak, .int .i64 t.run.more, .bool t.run.sticky, ah, .int .i64 t.tlen, ash, ar] : Array Value)[j]? := by
    intro j
    rw [h2.cell (p := ⟨w.heap.size, j, none⟩) (by show w.heap.size < _; omega)]
    have h3 : Below (w.heap.size + 1) (w.alloc (.cells #[ao, .int .i64 t.spaces, .bool t.full, .bool t.inRun, .bool t.joins, .bool t.und, .bool t.ex, .bool t.mark, .int .i64 t.length, as1, .int .i64 t.run.zeros, ak, .int .i64 t.run.more, .bool t.run.sticky, ah, .int .i64 t.tlen, ash, ar] 32)) ((w.alloc (.cells #[ao, .int .i64 t.spaces, .bool t.full, .bool t.inRun, .bool t.joins, .bool t.und, .bool t.ex, .bool t.mark, .int .i64 t.length, as1, .int .i64 t.run.zeros, ak, .int .i64 t.run.more, .bool t.run.sticky, ah, .int .i64 t.tlen, ash, ar] 32)).alloc (.cells #[bo, .int .i64 t.spaces, .bool t.full, .bool t.inRun, .bool t.joins, .bool t.und, .bool t.ex, .bool t.mark, .int .i64 t.length, bs, .int .i64 t.run.zeros, bk, .int .i64 t.run.more, .bool t.run.sticky, bh, .int .i64 t.tlen, bsh, br] 32)) := (Below.refl _ _).alloc (by rw [size_alloc]; omega) _
    rw [h3.cell (p := ⟨w.heap.size, j, none⟩) (by show w.heap.size < _; omega), World.cell?_alloc_mark]
  have hB : ∀ j, w2.cell? ⟨w.heap.size + 1, j, none⟩ = (#[bo, .int .i64 t.spaces, .bool t.full, .bool t.inRun, .bool t.joins, .bool t.und, .bool t.ex, .bool t.mark, .int .i64 t.length, bs, .int .i64 t.run.zeros, bk, .int .i64 t.run.more, .bool t.run.sticky, bh, .int .i64 t.tlen, bsh, br] : Array Value)[j]? := by
    intro j
    rw [h2.cell (p := ⟨w.heap.size + 1, j, none⟩) (by show w.heap.size + 1 < _; omega)]
    have := World.cell?_alloc_mark (w.alloc (.cells #[ao, .int .i64 t.spaces, .bool t.full, .bool t.inRun, .bool t.joins, .bool t.und, .bool t.ex, .bool t.mark, .int .i64 t.length, as1, .int .i64 t.run.zeros, ak, .int .i64 t.run.more, .bool t.run.sticky, ah, .int .i64 t.tlen, ash, ar] 32)) #[bo, .int .i64 t.spaces, .bool t.full, .bool t.inRun, .bool t.joins, .bool t.und, .bool t.ex, .bool t.mark, .int .i64 t.length, bs, .int .i64 t.run.zeros, bk, .int .i64 t.run.more, .bool t.run.sticky, bh, .int .i64 t.tlen, bsh, br] 32 (0, 0) j
    rw [size_alloc] at this
    exact this
  have HW : Below w.heap.size w ((w.alloc (.cells #[ao, .int .i64 t.spaces, .bool t.full, .bool t.inRun, .bool t.joins, .bool t.und, .bool t.ex, .bool t.mark, .int .i64 t.length, as1, .int .i64 t.run.zeros, ak, .int .i64 t.run.more, .bool t.run.sticky, ah, .int .i64 t.tlen, ash, ar] 32)).alloc (.cells #[bo, .int .i64 t.spaces, .bool t.full, .bool t.inRun, .bool t.joins, .bool t.und, .bool t.ex, .bool t.mark, .int .i64 t.length, bs, .int .i64 t.run.zeros, bk, .int .i64 t.run.more, .bool t.run.sticky, bh, .int .i64 t.tlen, bsh, br] 32)) := ((Below.refl _ _).alloc (Nat.le_refl _) _).alloc (by rw [size_alloc]; omega) _
  exact ⟨HW.trans (Below.mono h2 (by omega)), ⟨hA 0, hA 1, hA 2, hA 3, hA 4, hA 5, hA 6, hA 7, hA 8, hA 9, hA 10, hA 11, hA 12, hA 13, hA 14, hA 15, hA 16, hA 17⟩, hB 0, hB 1, hB 2, hB 3, hB 4, hB 5, hB 6, hB 7, hB 8, hB 9, hB 10, hB 11, hB 12, hB 13, hB 14, hB 15, hB 16, hB 17⟩

theorem shCells_at (l : List (Nat × Int)) (k : Nat) (x : Nat × Int) (h : l[k]? = some x) : (shCells l)[k * 2]? = some (.int .i64 x.1) ∧ (shCells l)[k * 2 + 1]? = some (.int .i64 x.2) := by
  induction l generalizing k with
  | nil => simp at h
  | cons y l ih =>
    cases k with
    | zero =>
      simp at h
      subst h
      exact ⟨rfl, rfl⟩
    | succ k =>
      have := ih k (by simpa using h)
      rw [show (k + 1) * 2 = k * 2 + 1 + 1 from by omega]
      exact this
theorem runCells_at (l : List (Value × Run)) (k : Nat) (x : Value × Run) (h : l[k]? = some x) : (runCells l)[k * 4]? = some (.int .i64 x.2.zeros) ∧ (runCells l)[k * 4 + 1]? = some x.1 ∧ (runCells l)[k * 4 + 2]? = some (.int .i64 x.2.more) ∧ (runCells l)[k * 4 + 3]? = some (.bool x.2.sticky) := by
  induction l generalizing k with
  | nil => simp at h
  | cons y l ih =>
    cases k with
    | zero =>
      simp at h
      subst h
      exact ⟨rfl, rfl, rfl, rfl⟩
    | succ k =>
      have := ih k (by simpa using h)
      rw [show (k + 1) * 4 = k * 4 + 1 + 1 + 1 + 1 from by omega]
      exact this
theorem own_at {w w' : World} {e sz n c : Nat} {a : Option Addr} {xs : List Value} (h : w.ownsRow 0 e sz (.slice a n c) n xs) (hn : 0 < n) (hb : Below w.heap.size w w') : ∃ g, a = some ⟨g, 0, none⟩ ∧ ∀ j, j < n * sz → w'.cell? ⟨g, j, none⟩ = xs[j]? := by
  rcases h.2 with ⟨h1, h2⟩ | ⟨g, cap, cur, h1, _, h3, _⟩
  · omega
  · injection h1 with e1 e2 e3
    subst e1
    have hg : g < w.heap.size := (Array.getElem?_eq_some_iff.1 h3).1
    exact ⟨g, rfl, fun j hj => by rw [hb.cell (p := ⟨g, j, none⟩) hg, h.cellAt j hj]⟩
theorem own_sh {w w' : World} {c k : Nat} {a : Option Addr} {l : List (Nat × Int)} {x : Nat × Int} (h : w.ownsRow 0 42 2 (.slice a l.length c) l.length (shCells l)) (hx : l[k]? = some x) (hb : Below w.heap.size w w') :
    ∃ g, a = some ⟨g, 0, none⟩ ∧ w'.cell? ⟨g, k * 2, none⟩ = some (.int .i64 x.1) ∧ w'.cell? ⟨g, k * 2 + 1, none⟩ = some (.int .i64 x.2) := by
  have hk : k < l.length := (List.getElem?_eq_some_iff.1 hx).1
  obtain ⟨g, ha, hc⟩ := own_at h (by omega) hb
  have hs := shCells_at l k x hx
  exact ⟨g, ha, (hc _ (by omega)).trans hs.1, (hc _ (by omega)).trans hs.2⟩
theorem own_run {w w' : World} {c k n : Nat} {a : Option Addr} {l : List (Value × Run)} {x : Value × Run} (h : w.ownsRow 0 28 4 (.slice a n c) n (runCells l)) (hn : n = l.length) (hx : l[k]? = some x) (hb : Below w.heap.size w w') :
    ∃ g, a = some ⟨g, 0, none⟩ ∧ w'.cell? ⟨g, k * 4, none⟩ = some (.int .i64 x.2.zeros) ∧ w'.cell? ⟨g, k * 4 + 1, none⟩ = some x.1 ∧ w'.cell? ⟨g, k * 4 + 2, none⟩ = some (.int .i64 x.2.more) ∧ w'.cell? ⟨g, k * 4 + 3, none⟩ = some (.bool x.2.sticky) := by
  have hk : k < l.length := (List.getElem?_eq_some_iff.1 hx).1
  obtain ⟨g, ha, hc⟩ := own_at h (by omega) hb
  have hs := runCells_at l k x hx
  exact ⟨g, ha, (hc _ (by omega)).trans hs.1, (hc _ (by omega)).trans hs.2.1, (hc _ (by omega)).trans hs.2.2.1, (hc _ (by omega)).trans hs.2.2.2⟩
theorem drewN_below (B : Nat) (w : World) (n : Nat) : Below B w (w.drewN n) := ⟨rfl, rfl, rfl, Nat.le_refl _, fun _ _ => rfl⟩

/-- the loops' worlds -/
def sagg (t : St) (vo vs vk vh vsh vr : Value) : Value := .agg #[vo, .int .i64 t.spaces, .bool t.full, .bool t.inRun, .bool t.joins, .bool t.und, .bool t.ex, .bool t.mark, .int .i64 t.length, vs, .int .i64 t.run.zeros, vk, .int .i64 t.run.more, .bool t.run.sticky, vh, .int .i64 t.tlen, vsh, vr]

set_option maxHeartbeats 8000000 in
set_option maxRecDepth 100000 in
theorem sameState_in (w : World) (t : St) (ls lt : Bs) (ao as1 ak ah bo bs bk bh : Value) (a1 b1 a2 b2 : Option Addr) (m1 n1 m2 n2 : Nat) (GA GB : List (Value × Run)) (hls : t.length ≤ 40 → ls = lt)
    (h1 : t.out.length ≤ 1073741824) (h2 : ls.length ≤ 1073741824) (h2' : lt.length ≤ 1073741824) (h3 : t.run.kept.length ≤ 1073741824) (h4 : t.head.length ≤ 1073741824) (h5 : t.shifts.length ≤ 1073741824) (h6 : t.runs.length ≤ 3) (h7 : ∀ r ∈ t.runs, r.kept.length ≤ 1073741824) (hlen : t.length ≤ 1073741824)
    (HAo : Hid (Rd w ao t.out)) (HBo : Hid (Rd w bo t.out)) (HAs : Hid (Rd w as1 ls)) (HBs : Hid (Rd w bs lt)) (HAk : Hid (Rd w ak t.run.kept)) (HBk : Hid (Rd w bk t.run.kept)) (HAh : Hid (Rd w ah t.head)) (HBh : Hid (Rd w bh t.head))
    (HAsh : Hid (w.ownsRow 0 42 2 (.slice a1 t.shifts.length m1) t.shifts.length (shCells t.shifts))) (HBsh : Hid (w.ownsRow 0 42 2 (.slice b1 t.shifts.length n1) t.shifts.length (shCells t.shifts)))
    (HAr : Hid (w.ownsRow 0 28 4 (.slice a2 t.runs.length m2) t.runs.length (runCells GA))) (HBr : Hid (w.ownsRow 0 28 4 (.slice b2 t.runs.length n2) t.runs.length (runCells GB)))
    (HGA : Hid ((∀ x ∈ GA, Rd w x.1 x.2.kept) ∧ GA.map (·.2) = t.runs)) (HGB : Hid ((∀ x ∈ GB, Rd w x.1 x.2.kept) ∧ GB.map (·.2) = t.runs)) :
    Calls Tryd.prog 13 #[.agg #[ao, .int .i64 t.spaces, .bool t.full, .bool t.inRun, .bool t.joins, .bool t.und, .bool t.ex, .bool t.mark, .int .i64 t.length, as1, .int .i64 t.run.zeros, ak, .int .i64 t.run.more, .bool t.run.sticky, ah, .int .i64 t.tlen, (.slice a1 t.shifts.length m1), (.slice a2 t.runs.length m2)], .agg #[bo, .int .i64 t.spaces, .bool t.full, .bool t.inRun, .bool t.joins, .bool t.und, .bool t.ex, .bool t.mark, .int .i64 t.length, bs, .int .i64 t.run.zeros, bk, .int .i64 t.run.more, .bool t.run.sticky, bh, .int .i64 t.tlen, (.slice b1 t.shifts.length n1), (.slice b2 t.runs.length n2)]] w fun e w' => e = .returned (.bool true) ∧ Below w.heap.size w w' := by
  obtain ⟨P, hP⟩ : ∃ P : World → Prop, P = fun W => Below (w.heap.size + 2) ((w.alloc (.cells #[ao, .int .i64 t.spaces, .bool t.full, .bool t.inRun, .bool t.joins, .bool t.und, .bool t.ex, .bool t.mark, .int .i64 t.length, as1, .int .i64 t.run.zeros, ak, .int .i64 t.run.more, .bool t.run.sticky, ah, .int .i64 t.tlen, (.slice a1 t.shifts.length m1), (.slice a2 t.runs.length m2)] 32)).alloc (.cells #[bo, .int .i64 t.spaces, .bool t.full, .bool t.inRun, .bool t.joins, .bool t.und, .bool t.ex, .bool t.mark, .int .i64 t.length, bs, .int .i64 t.run.zeros, bk, .int .i64 t.run.more, .bool t.run.sticky, bh, .int .i64 t.tlen, (.slice b1 t.shifts.length n1), (.slice b2 t.runs.length n2)] 32)) W := ⟨_, rfl⟩
  have HBP : Hid (P ((w.alloc (.cells #[ao, .int .i64 t.spaces, .bool t.full, .bool t.inRun, .bool t.joins, .bool t.und, .bool t.ex, .bool t.mark, .int .i64 t.length, as1, .int .i64 t.run.zeros, ak, .int .i64 t.run.more, .bool t.run.sticky, ah, .int .i64 t.tlen, (.slice a1 t.shifts.length m1), (.slice a2 t.runs.length m2)] 32)).alloc (.cells #[bo, .int .i64 t.spaces, .bool t.full, .bool t.inRun, .bool t.joins, .bool t.und, .bool t.ex, .bool t.mark, .int .i64 t.length, bs, .int .i64 t.run.zeros, bk, .int .i64 t.run.more, .bool t.run.sticky, bh, .int .i64 t.tlen, (.slice b1 t.shifts.length n1), (.slice b2 t.runs.length n2)] 32))) := by show P _; rw [hP]; exact Below.refl _ _
  have HPb : Hid (∀ w2, P w2 → Below w.heap.size w w2 ∧ (w2.cell? ⟨w.heap.size, 0, none⟩ = some (ao) ∧ w2.cell? ⟨w.heap.size, 1, none⟩ = some (.int .i64 t.spaces) ∧ w2.cell? ⟨w.heap.size, 2, none⟩ = some (.bool t.full) ∧ w2.cell? ⟨w.heap.size, 3, none⟩ = some (.bool t.inRun) ∧ w2.cell? ⟨w.heap.size, 4, none⟩ = some (.bool t.joins) ∧ w2.cell? ⟨w.heap.size, 5, none⟩ = some (.bool t.und) ∧ w2.cell? ⟨w.heap.size, 6, none⟩ = some (.bool t.ex) ∧ w2.cell? ⟨w.heap.size, 7, none⟩ = some (.bool t.mark) ∧ w2.cell? ⟨w.heap.size, 8, none⟩ = some (.int .i64 t.length) ∧ w2.cell? ⟨w.heap.size, 9, none⟩ = some (as1) ∧ w2.cell? ⟨w.heap.size, 10, none⟩ = some (.int .i64 t.run.zeros) ∧ w2.cell? ⟨w.heap.size, 11, none⟩ = some (ak) ∧ w2.cell? ⟨w.heap.size, 12, none⟩ = some (.int .i64 t.run.more) ∧ w2.cell? ⟨w.heap.size, 13, none⟩ = some (.bool t.run.sticky) ∧ w2.cell? ⟨w.heap.size, 14, none⟩ = some (ah) ∧ w2.cell? ⟨w.heap.size, 15, none⟩ = some (.int .i64 t.tlen) ∧ w2.cell? ⟨w.heap.size, 16, none⟩ = some (.slice a1 t.shifts.length m1) ∧ w2.cell? ⟨w.heap.size, 17, none⟩ = some (.slice a2 t.runs.length m2)) ∧ (w2.cell? ⟨w.heap.size + 1, 0, none⟩ = some (bo) ∧ w2.cell? ⟨w.heap.size + 1, 1, none⟩ = some (.int .i64 t.spaces) ∧ w2.cell? ⟨w.heap.size + 1, 2, none⟩ = some (.bool t.full) ∧ w2.cell? ⟨w.heap.size + 1, 3, none⟩ = some (.bool t.inRun) ∧ w2.cell? ⟨w.heap.size + 1, 4, none⟩ = some (.bool t.joins) ∧ w2.cell? ⟨w.heap.size + 1, 5, none⟩ = some (.bool t.und) ∧ w2.cell? ⟨w.heap.size + 1, 6, none⟩ = some (.bool t.ex) ∧ w2.cell? ⟨w.heap.size + 1, 7, none⟩ = some (.bool t.mark) ∧ w2.cell? ⟨w.heap.size + 1, 8, none⟩ = some (.int .i64 t.length) ∧ w2.cell? ⟨w.heap.size + 1, 9, none⟩ = some (bs) ∧ w2.cell? ⟨w.heap.size + 1, 10, none⟩ = some (.int .i64 t.run.zeros) ∧ w2.cell? ⟨w.heap.size + 1, 11, none⟩ = some (bk) ∧ w2.cell? ⟨w.heap.size + 1, 12, none⟩ = some (.int .i64 t.run.more) ∧ w2.cell? ⟨w.heap.size + 1, 13, none⟩ = some (.bool t.run.sticky) ∧ w2.cell? ⟨w.heap.size + 1, 14, none⟩ = some (bh) ∧ w2.cell? ⟨w.heap.size + 1, 15, none⟩ = some (.int .i64 t.tlen) ∧ w2.cell? ⟨w.heap.size + 1, 16, none⟩ = some (.slice b1 t.shifts.length n1) ∧ w2.cell? ⟨w.heap.size + 1, 17, none⟩ = some (.slice b2 t.runs.length n2))) := by
    show ∀ w2, _
    intro w2 hw
    rw [hP] at hw
    exact boxes w w2 t _ _ _ _ _ _ _ _ _ _ _ _ hw
  have HPt : Hid (∀ W W', P W → Below W.heap.size W W' → P W') := by
    show ∀ W W', _
    intro W W' h8 h9
    rw [hP] at h8 ⊢
    have h10 := h8.size
    rw [size_alloc, size_alloc] at h10
    exact h8.trans (Below.mono h9 (by omega))
  clear hP
  have HX : Hid (∀ W, P W → Below w.heap.size w W) := fun W hW => (HPb.out W hW).1
  go_enter Tryd.func13, Tryd.ntmps13
  go_upto_region 7 with (first | (go_at_call 10; refine (same_any _ ao bo t.out (HAo.out.below (HX.out _ HBP.out)) (HBo.out.below (HX.out _ HBP.out)) h1).mono ?_; rintro e w2 ⟨rfl, hq2⟩; have HB2 : Hid (P w2) := HPt.out _ _ HBP.out hq2; clear hq2 HBP; have HBP := HB2; clear HB2; obtain ⟨hbw, ⟨k0, k1, k2, k3, k4, k5, k6, k7, k8, k9, k10, k11, k12, k13, k14, k15, k16, k17⟩, j0, j1, j2, j3, j4, j5, j6, j7, j8, j9, j10, j11, j12, j13, j14, j15, j16, j17⟩ := HPb.out w2 HBP.out; have HBW : Hid _ := hbw; clear hbw) | (go_at_call 19; refine (sameRun_any _ ak bk t.run (HAk.out.below (HX.out _ HBP.out)) (HBk.out.below (HX.out _ HBP.out)) h3).mono ?_; rintro e w2 ⟨rfl, hq2⟩; have HB2 : Hid (P w2) := HPt.out _ _ HBP.out hq2; clear hq2 HBP; have HBP := HB2; clear HB2; obtain ⟨hbw, ⟨k0, k1, k2, k3, k4, k5, k6, k7, k8, k9, k10, k11, k12, k13, k14, k15, k16, k17⟩, j0, j1, j2, j3, j4, j5, j6, j7, j8, j9, j10, j11, j12, j13, j14, j15, j16, j17⟩ := HPb.out w2 HBP.out; have HBW : Hid _ := hbw; clear hbw))
  go_cut [83] (fun x wx => x = .bool false ∧ P wx)
  case first =>
    by_cases h40 : (t.length : Int) ≤ 40
    · obtain rfl := hls (by omega)
      go_wp2_with (first | (go_at_call 10; refine (same_any _ as1 bs ls (HAs.out.below (HX.out _ HBP.out)) (HBs.out.below (HX.out _ HBP.out)) h2).mono ?_; rintro e w2 ⟨rfl, hq2⟩; have HB2 : Hid (P w2) := HPt.out _ _ HBP.out hq2; clear hq2 HBP; have HBP := HB2; clear HB2; obtain ⟨hbw, ⟨k0, k1, k2, k3, k4, k5, k6, k7, k8, k9, k10, k11, k12, k13, k14, k15, k16, k17⟩, j0, j1, j2, j3, j4, j5, j6, j7, j8, j9, j10, j11, j12, j13, j14, j15, j16, j17⟩ := HPb.out w2 HBP.out; have HBW : Hid _ := hbw; clear hbw))
      go_meet
      case rel => exact ⟨rfl, HBP.out⟩
    · go_wp2_with fail
      go_meet
      case rel => exact ⟨rfl, HBP.out⟩
  case rest =>
    obtain ⟨rfl, hbp⟩ := hcut
    clear HBP
    have HBP : Hid _ := hbp
    clear k0 k1 k2 k3 k4 k5 k6 k7 k8 k9 k10 k11 k12 k13 k14 k15 k16 k17 j0 j1 j2 j3 j4 j5 j6 j7 j8 j9 j10 j11 j12 j13 j14 j15 j16 j17 HBW
    obtain ⟨hbw, ⟨k0, k1, k2, k3, k4, k5, k6, k7, k8, k9, k10, k11, k12, k13, k14, k15, k16, k17⟩, j0, j1, j2, j3, j4, j5, j6, j7, j8, j9, j10, j11, j12, j13, j14, j15, j16, j17⟩ := HPb.out wc HBP.out
    clear hbw hbp
    go_upto_block 0 with (first | (go_at_call 10; refine (same_any _ ah bh t.head (HAh.out.below (HX.out _ HBP.out)) (HBh.out.below (HX.out _ HBP.out)) h4).mono ?_; rintro e w2 ⟨rfl, hq2⟩; have HB2 : Hid (P w2) := HPt.out _ _ HBP.out hq2; clear hq2 HBP; have HBP := HB2; clear HB2; obtain ⟨hbw, ⟨k0, k1, k2, k3, k4, k5, k6, k7, k8, k9, k10, k11, k12, k13, k14, k15, k16, k17⟩, j0, j1, j2, j3, j4, j5, j6, j7, j8, j9, j10, j11, j12, j13, j14, j15, j16, j17⟩ := HPb.out w2 HBP.out; have HBW : Hid _ := hbw; clear hbw))
    go_cut [5] (fun _ wx => P wx)
    case first =>
      go_wp2_with fail
      go_loopw [5] (fun i wr => ∃ k : Nat, i = .int .i64 k ∧ k ≤ t.shifts.length ∧ Hid (P wr)) (fun i _ => t.shifts.length - (intOf i).toNat)
      case atStart => exact ⟨0, rfl, Nat.zero_le _, HBP⟩
      case round =>
        obtain ⟨k, rfl, hkl, HBr2⟩ := hrel
        clear k0 k1 k2 k3 k4 k5 k6 k7 k8 k9 k10 k11 k12 k13 k14 k15 k16 k17 j0 j1 j2 j3 j4 j5 j6 j7 j8 j9 j10 j11 j12 j13 j14 j15 j16 j17 HBW
        clear HBP
        obtain ⟨hbw, ⟨k0, k1, k2, k3, k4, k5, k6, k7, k8, k9, k10, k11, k12, k13, k14, k15, k16, k17⟩, j0, j1, j2, j3, j4, j5, j6, j7, j8, j9, j10, j11, j12, j13, j14, j15, j16, j17⟩ := HPb.out wr HBr2.out
        have HBW : Hid (Below w.heap.size w wr) := hbw
        clear hbw
        by_cases hlt : (k : Int) < (t.shifts.length : Int)
        · obtain ⟨x, hx⟩ : ∃ x, t.shifts[k]? = some x := ⟨_, List.getElem?_eq_getElem (by omega)⟩
          obtain ⟨g1, rfl, e1, e2⟩ := own_sh HAsh.out hx HBW.out
          obtain ⟨g2, rfl, e3, e4⟩ := own_sh HBsh.out hx HBW.out
          go_wp2_with fail
          go_quiet (fail)
          go_wp2_with fail
          exact ⟨⟨k + 1, by simp, by omega, (HPt.out _ _ HBr2.out (drewN_below _ _ _) : P _)⟩, by simp [intOf]; omega⟩
        · go_wp2_with fail
          go_meet
          case rel => exact HBr2.out
    case rest =>
      have HBP2 : Hid _ := hcut
      clear hcut
      clear k0 k1 k2 k3 k4 k5 k6 k7 k8 k9 k10 k11 k12 k13 k14 k15 k16 k17 j0 j1 j2 j3 j4 j5 j6 j7 j8 j9 j10 j11 j12 j13 j14 j15 j16 j17 HBW
      obtain ⟨hbw, ⟨k0, k1, k2, k3, k4, k5, k6, k7, k8, k9, k10, k11, k12, k13, k14, k15, k16, k17⟩, j0, j1, j2, j3, j4, j5, j6, j7, j8, j9, j10, j11, j12, j13, j14, j15, j16, j17⟩ := HPb.out wc HBP2.out
      clear hbw
      go_wp2_with fail
      have HLA : Hid (GA.length = t.runs.length ∧ GB.length = t.runs.length) := ⟨by have := congrArg List.length HGA.out.2; simpa using this, by have := congrArg List.length HGB.out.2; simpa using this⟩
      go_loopw [6] (fun i wr => ∃ k : Nat, i = .int .i64 k ∧ k ≤ t.runs.length ∧ Hid (P wr)) (fun i _ => t.runs.length - (intOf i).toNat)
      case atStart => exact ⟨0, rfl, Nat.zero_le _, HBP2⟩
      case round =>
        obtain ⟨k, rfl, hkl, HBr2⟩ := hrel
        clear k0 k1 k2 k3 k4 k5 k6 k7 k8 k9 k10 k11 k12 k13 k14 k15 k16 k17 j0 j1 j2 j3 j4 j5 j6 j7 j8 j9 j10 j11 j12 j13 j14 j15 j16 j17
        clear HBP2
        obtain ⟨hbw, ⟨k0, k1, k2, k3, k4, k5, k6, k7, k8, k9, k10, k11, k12, k13, k14, k15, k16, k17⟩, j0, j1, j2, j3, j4, j5, j6, j7, j8, j9, j10, j11, j12, j13, j14, j15, j16, j17⟩ := HPb.out wr HBr2.out
        have HBW : Hid (Below w.heap.size w wr) := hbw
        clear hbw
        by_cases hlt : (k : Int) < (t.runs.length : Int)
        · obtain ⟨r, hr⟩ : ∃ r, t.runs[k]? = some r := ⟨_, List.getElem?_eq_getElem (by omega)⟩
          have hrm : r ∈ t.runs := List.mem_of_getElem? hr
          have h7r := h7 r hrm
          obtain ⟨va, hva⟩ : ∃ va, GA[k]? = some (va, r) := by
            have h8 : (GA.map (·.2))[k]? = some r := by rw [HGA.out.2]; exact hr
            rw [List.getElem?_map] at h8
            cases hg : GA[k]? with
            | none => rw [hg] at h8; cases h8
            | some y => rw [hg] at h8; injection h8 with h8; exact ⟨y.1, by rw [← h8]⟩
          obtain ⟨vb, hvb⟩ : ∃ vb, GB[k]? = some (vb, r) := by
            have h8 : (GB.map (·.2))[k]? = some r := by rw [HGB.out.2]; exact hr
            rw [List.getElem?_map] at h8
            cases hg : GB[k]? with
            | none => rw [hg] at h8; cases h8
            | some y => rw [hg] at h8; injection h8 with h8; exact ⟨y.1, by rw [← h8]⟩
          have HRA : Hid (Rd w va r.kept) := HGA.out.1 _ (List.mem_of_getElem? hva)
          have HRB : Hid (Rd w vb r.kept) := HGB.out.1 _ (List.mem_of_getElem? hvb)
          obtain ⟨g1, rfl, e1, e2, e3, e4⟩ := own_run HAr.out HLA.out.1.symm hva HBW.out
          obtain ⟨g2, rfl, f1, f2, f3, f4⟩ := own_run HBr.out HLA.out.2.symm hvb HBW.out
          have HC1 : Hid (∀ W, Below w.heap.size w W → (W.cell? ⟨g1, k * 4, none⟩ = some (.int .i64 r.zeros) ∧ W.cell? ⟨g1, k * 4 + 1, none⟩ = some va ∧ W.cell? ⟨g1, k * 4 + 2, none⟩ = some (.int .i64 r.more) ∧ W.cell? ⟨g1, k * 4 + 3, none⟩ = some (.bool r.sticky)) ∧ (W.cell? ⟨g2, k * 4, none⟩ = some (.int .i64 r.zeros) ∧ W.cell? ⟨g2, k * 4 + 1, none⟩ = some vb ∧ W.cell? ⟨g2, k * 4 + 2, none⟩ = some (.int .i64 r.more) ∧ W.cell? ⟨g2, k * 4 + 3, none⟩ = some (.bool r.sticky))) := by
            show ∀ W, _
            intro W hW
            obtain ⟨g1', he1, u1, u2, u3, u4⟩ := own_run HAr.out HLA.out.1.symm hva hW
            obtain ⟨g2', he2, v1, v2, v3, v4⟩ := own_run HBr.out HLA.out.2.symm hvb hW
            injection he1 with he1
            injection he1 with he1
            subst he1
            injection he2 with he2
            injection he2 with he2
            subst he2
            exact ⟨⟨u1, u2, u3, u4⟩, v1, v2, v3, v4⟩
          have hk0 : (0 : Int) ≤ (k : Int) := by omega
          clear hva hvb hr
          obtain ⟨aa, cc, rfl, _⟩ := HRA.out.len
          obtain ⟨ab, cb, rfl, _⟩ := HRB.out.len
          go_upto_region 21 with fail
          go_cut [166] from 148 to 166 (fun x wx => x = .bool false ∧ P wx)
          case first =>
            have HBd : Hid (P wr.drew) := HPt.out _ _ HBr2.out ((Below.refl _ _).drew)
            have HKP : Hid (∀ W, P W → W.cell? ⟨w.heap.size, 17, none⟩ = some (.slice (some ⟨g1, 0, none⟩) t.runs.length m2) ∧ W.cell? ⟨w.heap.size + 1, 17, none⟩ = some (.slice (some ⟨g2, 0, none⟩) t.runs.length n2) ∧ (W.cell? ⟨g1, k * 4, none⟩ = some (.int .i64 r.zeros) ∧ W.cell? ⟨g1, k * 4 + 1, none⟩ = some (.slice aa r.kept.length cc) ∧ W.cell? ⟨g1, k * 4 + 2, none⟩ = some (.int .i64 r.more) ∧ W.cell? ⟨g1, k * 4 + 3, none⟩ = some (.bool r.sticky)) ∧ (W.cell? ⟨g2, k * 4, none⟩ = some (.int .i64 r.zeros) ∧ W.cell? ⟨g2, k * 4 + 1, none⟩ = some (.slice ab r.kept.length cb) ∧ W.cell? ⟨g2, k * 4 + 2, none⟩ = some (.int .i64 r.more) ∧ W.cell? ⟨g2, k * 4 + 3, none⟩ = some (.bool r.sticky))) := by
              show ∀ W, _
              intro W hW
              obtain ⟨_, ⟨_, _, _, _, _, _, _, _, _, _, _, _, _, _, _, _, _, y17⟩, _, _, _, _, _, _, _, _, _, _, _, _, _, _, _, _, _, z17⟩ := HPb.out W hW
              exact ⟨y17, z17, HC1.out W (HX.out _ hW)⟩
            go_region_held3 (fun W => W.cell? ⟨w.heap.size, 17, none⟩ = some (.slice (some ⟨g1, 0, none⟩) t.runs.length m2) ∧ W.cell? ⟨w.heap.size + 1, 17, none⟩ = some (.slice (some ⟨g2, 0, none⟩) t.runs.length n2) ∧ (W.cell? ⟨g1, k * 4, none⟩ = some (.int .i64 r.zeros) ∧ W.cell? ⟨g1, k * 4 + 1, none⟩ = some (.slice aa r.kept.length cc) ∧ W.cell? ⟨g1, k * 4 + 2, none⟩ = some (.int .i64 r.more) ∧ W.cell? ⟨g1, k * 4 + 3, none⟩ = some (.bool r.sticky)) ∧ (W.cell? ⟨g2, k * 4, none⟩ = some (.int .i64 r.zeros) ∧ W.cell? ⟨g2, k * 4 + 1, none⟩ = some (.slice ab r.kept.length cb) ∧ W.cell? ⟨g2, k * 4 + 2, none⟩ = some (.int .i64 r.more) ∧ W.cell? ⟨g2, k * 4 + 3, none⟩ = some (.bool r.sticky)))
              (first | (exact HKP.out _ HBd.out))
              ((go_at_call 19; refine (sameRun_any _ (.slice aa r.kept.length cc) (.slice ab r.kept.length cb) r (HRA.out.below (HX.out _ HBd.out)) (HRB.out.below (HX.out _ HBd.out)) h7r).mono ?_; rintro e w2 ⟨rfl, hq2⟩; have HB2 : Hid (P w2) := HPt.out _ _ HBd.out hq2; clear hq2 HBd; have HBd := HB2; clear HB2))
            all_goals (try go_wp2)
            all_goals go_meet
            all_goals exact ⟨rfl, HBd.out⟩
          case rest =>
            obtain ⟨rfl, hbb⟩ := hcut
            have HBB : Hid _ := hbb
            clear hbb
            go_wp2_with fail
            exact ⟨⟨k + 1, by simp, by omega, HBB⟩, by simp [intOf]; omega⟩
        · go_wp2_with fail
          go_ret
          exact ⟨rfl, HX.out _ HBr2.out⟩
end Go.Proofs.Qxb6616348aDoor
