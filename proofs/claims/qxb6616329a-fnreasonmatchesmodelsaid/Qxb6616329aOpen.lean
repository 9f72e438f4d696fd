import Derived.Test.Qxb6616329aLaw
import Derived.Deep.Slices
import Derived.Deep.Strs
import Derived.WideKeyElems2
import Derived.WideKeyArgs
set_option linter.unusedSimpArgs false
set_option linter.unusedVariables false
namespace Go.Proofs.Qxb6616329a
open Go.RowKit

section
variable {H : Type} {enc : TypeId × Value → H} {W : World} {sp : Nat → Bool}

theorem plain_addr {a : Addr} {v : Value} (h : W.cell? a = some v) : ∃ b off, a = ⟨b, off, none⟩ := by
  obtain ⟨b, off, spot⟩ := a
  have := World.cell?_spot h
  simp at this
  subst this
  exact ⟨b, off, rfl⟩

/-- the cells of a row of structs -/
theorem cells_at {b off i sz : Nat} {cs : List Value} (h : W.cells? 0 ((⟨b, off, none⟩ : Addr).add (i * sz)) sz = some cs) (j : Nat) (hj : j < sz) : W.cell? ⟨b, off + i * sz + j, none⟩ = cs[j]? := by
  obtain ⟨_, _, hc⟩ := World.cells?_some h
  have := hc j hj
  rw [addr_add, addr_add] at this
  exact this

theorem first_addr {a : Addr} {n sz : Nat} (hn : 0 < n) (hsz : 0 < sz) (h : ∀ i, i < n → ∃ cs, W.cells? 0 (a.add (i * sz)) sz = some cs) : ∃ b off, a = ⟨b, off, none⟩ := by
  obtain ⟨cs, hc⟩ := h 0 hn
  obtain ⟨_, hl, hx⟩ := World.cells?_some hc
  have := hx 0 hsz
  rw [List.getElem?_eq_getElem (by omega)] at this
  have h0 : (a.add (0 * sz)).add 0 = a := by simp [Addr.add]
  rw [h0] at this
  exact plain_addr this

theorem strs_of {fuel : Nat} {v : Value} {x : DataW H × List MemPlace} (h : DataW.trod enc Try.prog W 0 sp true fuel 46 [v] = some x) : ∃ xs : List Bs, StrsV W v xs ∧ ∀ l ∈ xs, l.length ≤ maxLen := by
  rcases Deep.open_slice1 Try.underlying46 cells9 h with ⟨hcs, _⟩ | ⟨a, len, cap, m, n, V, D, Pl, hcs, _, hl, hm, hmm, _, hx⟩
  · injection hcs with hv _
    subst hv
    exact ⟨[], strsV_nil W, by simp⟩
  · injection hcs with hv _
    subst hv
    have hlm : len ≤ m := by rw [hmm]; split <;> omega
    have hst : ∀ i, i < len → ∃ l : Bs, V i = .string (B l) ∧ l.length ≤ maxLen := by
      intro i hi
      obtain ⟨s, hs, _, hz⟩ := DataW.trod_string Try.underlying9 (hx i (by omega)).2
      injection hs with hs _
      exact ⟨s.data.toList, by rw [hs]; rfl, by simpa using hz⟩
    obtain ⟨f, hf⟩ := Deep.choose_lt hst
    refine ⟨(List.range len).map f, ?_, ?_⟩
    · refine ⟨some a, cap, by simp, fun h0 => ?_⟩
      simp only [List.length_map, List.length_range] at h0
      have c0 := (hx 0 (by omega)).1
      have h0' : a.add 0 = a := by simp [Addr.add]
      rw [h0'] at c0
      obtain ⟨b, off, rfl⟩ := plain_addr c0
      refine ⟨b, off, rfl, fun i hi => ?_⟩
      simp only [List.length_map, List.length_range] at hi
      rw [← addr_add, (hx i (by omega)).1, (hf i hi).1]
      simp [List.getD, hi]
    · intro l hl
      simp at hl
      obtain ⟨i, hi, rfl⟩ := hl
      exact (hf i hi).2

theorem cells42 : Try.prog.cellsOf 42 = 2 := by kernel_rfl
theorem cells44 : Try.prog.cellsOf 44 = 3 := by kernel_rfl
theorem cells48 : Try.prog.cellsOf 48 = 3 := by kernel_rfl
theorem cells46 : Try.prog.cellsOf 46 = 1 := by kernel_rfl
theorem cells40 : Try.prog.cellsOf 40 = 1 := by kernel_rfl
theorem cells37 : Try.prog.cellsOf 37 = 1 := by kernel_rfl

theorem cat_of {n : Nat} {cs : List Value} {x : DataW H × List MemPlace} (h : DataW.trod enc Try.prog W 0 sp true n 42 cs = some x) : ∃ c : Ct, cs = [.int .i64 c.1, .string (B c.2)] ∧ WfCt c := by
  obtain ⟨y0, y1, k, _, hl, h0, h1⟩ := ChangeShapes.trod_struct2 Try.underlying42 h
  rw [cells42] at hl
  match cs, hl with
  | [c0, c1], _ =>
    simp [cells3, cells9] at h0 h1
    obtain ⟨t, ht, _, hw⟩ := DataW.trod_int Try.underlying3 h0
    obtain ⟨s, hs, _, hz⟩ := DataW.trod_string Try.underlying9 h1
    injection ht with ht _
    injection hs with hs _
    exact ⟨(t, s.data.toList), by rw [ht, hs]; rfl, hw, by simpa using hz⟩

theorem row_of {fuel : Nat} {v : Value} {x : DataW H × List MemPlace} (h : DataW.trod enc Try.prog W 0 sp true fuel 40 [v] = some x) : ∃ xs : List Ct, RowV W v xs ∧ ∀ c ∈ xs, WfCt c := by
  rcases Deep.open_slice Try.underlying40 h with ⟨hcs, _⟩ | ⟨a, len, cap, m, n, D, Pl, hcs, _, hl, hm, hmm, _, hx⟩
  · injection hcs with hv _
    subst hv
    exact ⟨[], ⟨none, 0, rfl, fun h => by simp at h⟩, by simp⟩
  · injection hcs with hv _
    subst hv
    rw [cells42] at hx
    have hlm : len ≤ m := by rw [hmm]; split <;> omega
    have hst : ∀ i, i < len → ∃ c : Ct, W.cells? 0 (a.add (i * 2)) 2 = some [.int .i64 c.1, .string (B c.2)] ∧ WfCt c := by
      intro i hi
      obtain ⟨cs, h1, h2⟩ := hx i (by omega)
      obtain ⟨c, rfl, hc⟩ := cat_of h2
      exact ⟨c, h1, hc⟩
    obtain ⟨f, hf⟩ := Deep.choose_lt hst
    refine ⟨(List.range len).map f, ?_, ?_⟩
    · refine ⟨some a, cap, by simp, fun h0 => ?_⟩
      simp only [List.length_map, List.length_range] at h0
      obtain ⟨b, off, rfl⟩ := first_addr h0 (by omega) (fun i hi => ⟨_, (hf i hi).1⟩)
      refine ⟨b, off, rfl, fun i hi => ?_⟩
      simp only [List.length_map, List.length_range] at hi
      have e : ((List.range len).map f).getD i (0, []) = f i := by simp [List.getD, hi]
      rw [e]
      exact ⟨by simpa using cells_at (hf i hi).1 0 (by omega), by simpa using cells_at (hf i hi).1 1 (by omega)⟩
    · intro l hl
      simp at hl
      obtain ⟨i, hi, rfl⟩ := hl
      exact (hf i hi).2

theorem cats_of {fuel : Nat} {v : Value} {x : DataW H × List MemPlace} (h : DataW.trod enc Try.prog W 0 sp true fuel 23 [v] = some x) : ∃ xs : List (List Ct), CatsV W v xs ∧ ∀ r ∈ xs, ∀ c ∈ r, WfCt c := by
  rcases Deep.open_slice1 Try.underlying23 cells40 h with ⟨hcs, _⟩ | ⟨a, len, cap, m, n, V, D, Pl, hcs, _, hl, hm, hmm, _, hx⟩
  · injection hcs with hv _
    subst hv
    exact ⟨[], ⟨none, 0, rfl, fun h => by simp at h⟩, by simp⟩
  · injection hcs with hv _
    subst hv
    have hlm : len ≤ m := by rw [hmm]; split <;> omega
    have hst : ∀ i, i < len → ∃ r : List Ct, RowV W (V i) r ∧ ∀ c ∈ r, WfCt c := fun i hi => row_of (hx i (by omega)).2
    obtain ⟨f, hf⟩ := Deep.choose_lt hst
    refine ⟨(List.range len).map f, ?_, ?_⟩
    · refine ⟨some a, cap, by simp, fun h0 => ?_⟩
      simp only [List.length_map, List.length_range] at h0
      have c0 := (hx 0 (by omega)).1
      have h0' : a.add 0 = a := by simp [Addr.add]
      rw [h0'] at c0
      obtain ⟨b, off, rfl⟩ := plain_addr c0
      refine ⟨b, off, rfl, fun i hi => ?_⟩
      simp only [List.length_map, List.length_range] at hi
      have e : ((List.range len).map f).getD i [] = f i := by simp [List.getD, hi]
      rw [e]
      exact ⟨V i, by rw [← addr_add]; exact (hx i (by omega)).1, (hf i hi).1⟩
    · intro l hl
      simp at hl
      obtain ⟨i, hi, rfl⟩ := hl
      exact (hf i hi).2

theorem link_of {n : Nat} {cs : List Value} {x : DataW H × List MemPlace} (h : DataW.trod enc Try.prog W 0 sp true n 44 cs = some x) :
    ∃ l : Lk, cs = [.int .i64 l.tax, .string (B l.code), .string (B l.parent)] ∧ WfCt (l.tax, l.code) ∧ l.parent.length ≤ maxLen := by
  obtain ⟨y0, y1, y2, k, _, hl, h0, h1, h2⟩ := Deep.trod_struct3 Try.underlying44 h
  rw [cells44] at hl
  match cs, hl with
  | [c0, c1, c2], _ =>
    simp [cells3, cells9] at h0 h1 h2
    obtain ⟨t, ht, _, hw⟩ := DataW.trod_int Try.underlying3 h0
    obtain ⟨s, hs, _, hz⟩ := DataW.trod_string Try.underlying9 h1
    obtain ⟨p, hp, _, hpz⟩ := DataW.trod_string Try.underlying9 h2
    injection ht with ht _
    injection hs with hs _
    injection hp with hp _
    exact ⟨⟨t, s.data.toList, p.data.toList⟩, by rw [ht, hs, hp]; rfl, ⟨hw, by simpa using hz⟩, by simpa using hpz⟩

theorem links_of {fuel : Nat} {v : Value} {x : DataW H × List MemPlace} (h : DataW.trod enc Try.prog W 0 sp true fuel 24 [v] = some x) :
    ∃ xs : List Lk, LinksV W v xs ∧ ∀ l ∈ xs, WfCt (l.tax, l.code) ∧ l.parent.length ≤ maxLen := by
  rcases Deep.open_slice Try.underlying24 h with ⟨hcs, _⟩ | ⟨a, len, cap, m, n, D, Pl, hcs, _, hl, hm, hmm, _, hx⟩
  · injection hcs with hv _
    subst hv
    exact ⟨[], ⟨none, 0, rfl, fun h => by simp at h⟩, by simp⟩
  · injection hcs with hv _
    subst hv
    rw [cells44] at hx
    have hlm : len ≤ m := by rw [hmm]; split <;> omega
    have hst : ∀ i, i < len → ∃ l : Lk, W.cells? 0 (a.add (i * 3)) 3 = some [.int .i64 l.tax, .string (B l.code), .string (B l.parent)] ∧ WfCt (l.tax, l.code) ∧ l.parent.length ≤ maxLen := by
      intro i hi
      obtain ⟨cs, h1, h2⟩ := hx i (by omega)
      obtain ⟨c, rfl, hc⟩ := link_of h2
      exact ⟨c, h1, hc⟩
    obtain ⟨f, hf⟩ := @Deep.choose_lt Lk ⟨⟨0, [], []⟩⟩ _ _ hst
    refine ⟨(List.range len).map f, ?_, ?_⟩
    · refine ⟨some a, cap, by simp, fun h0 => ?_⟩
      simp only [List.length_map, List.length_range] at h0
      obtain ⟨b, off, rfl⟩ := first_addr h0 (by omega) (fun i hi => ⟨_, (hf i hi).1⟩)
      refine ⟨b, off, rfl, fun i hi => ?_⟩
      simp only [List.length_map, List.length_range] at hi
      have e : ((List.range len).map f).getD i ⟨0, [], []⟩ = f i := by simp [List.getD, hi]
      rw [e]
      exact ⟨by simpa using cells_at (hf i hi).1 0 (by omega), by simpa using cells_at (hf i hi).1 1 (by omega), by simpa using cells_at (hf i hi).1 2 (by omega)⟩
    · intro l hl
      simp at hl
      obtain ⟨i, hi, rfl⟩ := hl
      exact (hf i hi).2

theorem claim_of {n : Nat} {cs : List Value} {x : DataW H × List MemPlace} (h : DataW.trod enc Try.prog W 0 sp true n 48 cs = some x) :
    ∃ l : Cl, (∃ x y, cs = [x, .int .i64 l.tax, y] ∧ StrsV W x l.adom ∧ StrsV W y l.cat) ∧ ∀ c ∈ l.cat, WfCt (l.tax, c) := by
  obtain ⟨y0, y1, y2, k, _, hl, h0, h1, h2⟩ := Deep.trod_struct3 Try.underlying48 h
  rw [cells48] at hl
  match cs, hl with
  | [c0, c1, c2], _ =>
    simp [cells3, cells46] at h0 h1 h2
    obtain ⟨t, ht, _, hw⟩ := DataW.trod_int Try.underlying3 h1
    obtain ⟨xs, hxs, _⟩ := strs_of h0
    obtain ⟨ys, hys, hyl⟩ := strs_of h2
    injection ht with ht _
    exact ⟨⟨xs, t, ys⟩, ⟨c0, c2, by rw [ht], hxs, hys⟩, fun c hc => ⟨hw, hyl c hc⟩⟩

theorem claims_of {fuel : Nat} {v : Value} {x : DataW H × List MemPlace} (h : DataW.trod enc Try.prog W 0 sp true fuel 25 [v] = some x) :
    ∃ xs : List Cl, ClaimsV W v xs ∧ ∀ l ∈ xs, ∀ c ∈ l.cat, WfCt (l.tax, c) := by
  rcases Deep.open_slice Try.underlying25 h with ⟨hcs, _⟩ | ⟨a, len, cap, m, n, D, Pl, hcs, _, hl, hm, hmm, _, hx⟩
  · injection hcs with hv _
    subst hv
    exact ⟨[], ⟨none, 0, rfl, fun h => by simp at h⟩, by simp⟩
  · injection hcs with hv _
    subst hv
    rw [cells48] at hx
    have hlm : len ≤ m := by rw [hmm]; split <;> omega
    have hst : ∀ i, i < len → ∃ l : Cl, (∃ x y, W.cells? 0 (a.add (i * 3)) 3 = some [x, .int .i64 l.tax, y] ∧ StrsV W x l.adom ∧ StrsV W y l.cat) ∧ ∀ c ∈ l.cat, WfCt (l.tax, c) := by
      intro i hi
      obtain ⟨cs, h1, h2⟩ := hx i (by omega)
      obtain ⟨c, ⟨x, y, rfl, hxs, hys⟩, hc⟩ := claim_of h2
      exact ⟨c, ⟨x, y, h1, hxs, hys⟩, hc⟩
    obtain ⟨f, hf⟩ := @Deep.choose_lt Cl ⟨⟨[], 0, []⟩⟩ _ _ hst
    refine ⟨(List.range len).map f, ?_, ?_⟩
    · refine ⟨some a, cap, by simp, fun h0 => ?_⟩
      simp only [List.length_map, List.length_range] at h0
      obtain ⟨b, off, rfl⟩ := first_addr (W := W) (a := a) (sz := 3) h0 (by omega) (fun i hi => by obtain ⟨⟨x, y, h, _⟩, _⟩ := hf i hi; exact ⟨_, h⟩)
      refine ⟨b, off, rfl, fun i hi => ?_⟩
      simp only [List.length_map, List.length_range] at hi
      have e : ((List.range len).map f).getD i ⟨[], 0, []⟩ = f i := by simp [List.getD, hi]
      rw [e]
      obtain ⟨⟨x, y, h, hxs, hys⟩, _⟩ := hf i hi
      exact ⟨x, y, by simpa using cells_at h 0 (by omega), by simpa using cells_at h 1 (by omega), by simpa using cells_at h 2 (by omega), hxs, hys⟩
    · intro l hl
      simp at hl
      obtain ⟨i, hi, rfl⟩ := hl
      exact (hf i hi).2

theorem plainElem_bool_inv' {v : Value} {z : DataW H × List MemPlace} (h : plainElem Try.prog 4 v = some z) : ∃ x, v = .bool x ∧ z = (.lit (.bool x), []) := by
  unfold plainElem at h
  rw [Try.underlying4] at h
  cases v <;> simp at h
  exact ⟨_, rfl, h.symm⟩

def boolOf : DataW H → Bool
  | .lit (.bool b) => b
  | _ => false

theorem dom_of {fuel : Nat} {v : Value} {x : DataW H × List MemPlace} (h : DataW.trod enc Try.prog W 0 sp true fuel 37 [v] = some x) : ∃ (p : (Bs → Bool) × Nat), (∃ r, v = .map r) ∧ DomMap W v p.1 p.2 := by
  rcases WideElems.open_map Try.underlying37 h with ⟨hcs, _⟩ | ⟨b, es, clock, n, _, hcs, hb, _, F, _⟩
  · injection hcs with hv _
    subst hv
    refine ⟨(fun _ => false, 0), ⟨none, rfl⟩, fun w' e s hs => ?_, fun w' e ty => Maps.len_nil Try.underlying37 ty, fun _ _ => rfl, by simp⟩
    have := Maps.look_nil (w := w') false law9 Try.underlying37 (zero4 w') (WideMaps.keyOf_string_mk Try.underlying9 hs)
    rw [this]; rfl
  · injection hcs with hv _
    subst hv
    have hown := World.ownsMap_of_fit (R := plainElem (H := H) Try.prog 4) hb F (fun y _ z hz => by
      obtain ⟨c, h1, h2⟩ := WideElems.elemAt_bool Try.underlying4 hz
      rw [h1, h2]
      exact plainElem_bool Try.underlying4 c)
    generalize DataW.map ((es.toList.map (WideElems.rg Try.prog 9 (WideElems.elemAt enc Try.prog W 0 sp true n 4))).foldr DataW.insert []) = D at hown
    refine ⟨(fun l => boolOf (D.atKey (.string l) (.lit (.bool false))), Maps.size D), ⟨some b, rfl⟩, fun w' e s hs => ?_, fun w' e ty => ?_, fun h0 l => ?_, ?_⟩
    · have h' := hown.kept (ext_grown e) (by simp)
      obtain ⟨v, ps, hrun, hv⟩ := h'.lookup law9 Try.underlying37 (zero4 w') (plainElem_bool Try.underlying4 false) (WideMaps.keyOf_string_mk Try.underlying9 hs)
      obtain ⟨c, rfl, hc⟩ := plainElem_bool_inv' hv
      simp at hc
      rw [hrun]
      show Result.ok (Value.bool c) w' = Result.ok (Value.bool (boolOf (D.atKey (.string s.data.toList) (.lit (.bool false))))) w'
      rw [hc.1]; rfl
    · exact (hown.kept (ext_grown e) (by simp)).len Try.underlying37 ty
    · obtain ⟨es', rfl⟩ := hown.isMap
      have h0' : es'.length = 0 := h0
      have := List.eq_nil_of_length_eq_zero h0'
      subst this
      have : (DataW.map ([] : List (Lit × DataW H))).atKey (.string l) (.lit (.bool false)) = .lit (.bool false) := Maps.atKey_of_not_has (k := .string l) rfl _
      show boolOf ((DataW.map ([] : List (Lit × DataW H))).atKey (.string l) (.lit (.bool false))) = false
      rw [this]; rfl
    · exact Nat.le_trans hown.size_le F.size

theorem doms_of {fuel : Nat} {v : Value} {x : DataW H × List MemPlace} (h : DataW.trod enc Try.prog W 0 sp true fuel 22 [v] = some x) : ∃ fs ns, DomsV W v fs ns := by
  rcases Deep.open_slice1 Try.underlying22 cells37 h with ⟨hcs, _⟩ | ⟨a, len, cap, m, n, V, D, Pl, hcs, _, hl, hm, hmm, _, hx⟩
  · injection hcs with hv _
    subst hv
    exact ⟨[], [], rfl, none, 0, rfl, fun h => by simp at h⟩
  · injection hcs with hv _
    subst hv
    have hlm : len ≤ m := by rw [hmm]; split <;> omega
    have hst : ∀ i, i < len → ∃ p : (Bs → Bool) × Nat, (∃ r, V i = .map r) ∧ DomMap W (V i) p.1 p.2 := fun i hi => dom_of (hx i (by omega)).2
    obtain ⟨f, hf⟩ := Deep.choose_lt hst
    refine ⟨(List.range len).map (fun i => (f i).1), (List.range len).map (fun i => (f i).2), by simp, some a, cap, by simp, fun h0 => ?_⟩
    simp only [List.length_map, List.length_range] at h0
    have c0 := (hx 0 (by omega)).1
    have h0' : a.add 0 = a := by simp [Addr.add]
    rw [h0'] at c0
    obtain ⟨b, off, rfl⟩ := plain_addr c0
    refine ⟨b, off, rfl, fun i hi => ?_⟩
    simp only [List.length_map, List.length_range] at hi
    have e1 : ((List.range len).map (fun i => (f i).1)).getD i (fun _ => false) = (f i).1 := by simp [List.getD, hi]
    have e2 : ((List.range len).map (fun i => (f i).2)).getD i 0 = (f i).2 := by simp [List.getD, hi]
    rw [e1, e2]
    exact ⟨V i, by rw [← addr_add]; exact (hx i (by omega)).1, (hf i hi).1, (hf i hi).2⟩
end
end Go.Proofs.Qxb6616329a
