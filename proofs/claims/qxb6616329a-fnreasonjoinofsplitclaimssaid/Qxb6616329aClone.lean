import Derived.Test.Qxb6616329aModel
import Derived.Lib.SliceRun
set_option linter.unusedSimpArgs false
set_option linter.unusedVariables false
namespace Go.Proofs.Qxb6616329a
open Go.RowKit

/-- k are copied, the rest is empty -/
def strTo (xs : List Bs) (k : Nat) : List Value := strCells (xs.take k) ++ List.replicate (xs.length - k) (.string ByteArray.empty)
theorem strTo_length (xs : List Bs) (k : Nat) (h : k ≤ xs.length) : (strTo xs k).length = xs.length := by
  simp [strTo, strCells]; omega
theorem strTo_zero (xs : List Bs) : strTo xs 0 = List.replicate xs.length (.string ByteArray.empty) := by simp [strTo, strCells]
theorem strTo_all (xs : List Bs) (k : Nat) (h : ¬ k < xs.length) : strTo xs k = strCells xs := by
  simp [strTo, List.take_of_length_le (show xs.length ≤ k by omega), show xs.length - k = 0 by omega]
theorem strTo_step (xs : List Bs) (k : Nat) (h : k < xs.length) : (strTo xs k).set k (.string (B (xs.getD k []))) = strTo xs (k + 1) := by
  unfold strTo
  have hl : (strCells (xs.take k)).length = k := by simp [strCells]; omega
  rw [List.set_append_right _ _ (by omega), hl, Nat.sub_self]
  rw [show xs.length - k = (xs.length - (k + 1)) + 1 from by omega, List.replicate_succ, List.set_cons_zero]
  have e : strCells (xs.take (k + 1)) = strCells (xs.take k) ++ [.string (B (xs.getD k []))] := by
    rw [List.take_succ_eq_append_getElem h]
    unfold strCells
    rw [List.map_append]
    simp [List.getD, h]
  rw [e, List.append_assoc]
  rfl
theorem made_strs (n : Nat) : (madeCells (Value.string ByteArray.empty).cells (n * 1)).toList = List.replicate n (.string ByteArray.empty) := by
  rw [Nat.mul_one]; exact toList_madeCells_one _ _

/-- a []string in blocks from 'base' on -/
def StrsFrom (base : Nat) (w : World) (v : Value) (xs : List Bs) : Prop :=
  ∃ a cap, v = .slice a xs.length cap ∧ (0 < xs.length → ∃ b off, a = some ⟨b, off, none⟩ ∧ base ≤ b ∧ ∀ i, i < xs.length → w.cell? ⟨b, off + i, none⟩ = some (.string (B (xs.getD i []))))
theorem StrsFrom.view {base : Nat} {w : World} {v : Value} {xs : List Bs} (h : StrsFrom base w v xs) : StrsV w v xs := by
  obtain ⟨a, cap, hv, h⟩ := h
  refine ⟨a, cap, hv, fun h0 => ?_⟩
  obtain ⟨b, off, ha, _, hc⟩ := h h0
  exact ⟨b, off, ha, hc⟩
theorem StrsFrom.ext {base : Nat} {w w' : World} {v : Value} {xs : List Bs} (h : StrsFrom base w v xs) (e : Ext w w') : StrsFrom base w' v xs := by
  obtain ⟨a, cap, hv, h⟩ := h
  refine ⟨a, cap, hv, fun h0 => ?_⟩
  obtain ⟨b, off, ha, hb, hc⟩ := h h0
  exact ⟨b, off, ha, hb, fun i hi => e.cell (hc i hi)⟩
theorem StrsFrom.mono {base base' : Nat} {w : World} {v : Value} {xs : List Bs} (h : StrsFrom base w v xs) (hb : base' ≤ base) : StrsFrom base' w v xs := by
  obtain ⟨a, cap, hv, h⟩ := h
  refine ⟨a, cap, hv, fun h0 => ?_⟩
  obtain ⟨b, off, ha, hb', hc⟩ := h h0
  exact ⟨b, off, ha, by omega, hc⟩
theorem StrsFrom.setCell {base : Nat} {w : World} {v : Value} {xs : List Bs} (h : StrsFrom base w v xs) {p : Addr} (hp : p.block < base) (u : Value) : StrsFrom base (w.setCell p u) v xs := by
  obtain ⟨a, cap, hv, h⟩ := h
  refine ⟨a, cap, hv, fun h0 => ?_⟩
  obtain ⟨b, off, ha, hb, hc⟩ := h h0
  refine ⟨b, off, ha, hb, fun i hi => ?_⟩
  rw [World.cell?_setCell_other _ _ _ _ (by intro e; subst e; simp at hp; omega)]
  exact hc i hi

/-- a slice that owns the strings reads as them -/
theorem strsV_owned {w : World} {base g n cap : Nat} {xs : List Bs} (hn : n = xs.length) (hg : base ≤ g) (h : w.ownsRow base 9 1 (.slice (some ⟨g, 0, none⟩) n cap) n (strCells xs)) : StrsFrom base w (.slice (some ⟨g, 0, none⟩) n cap) xs := by
  subst hn
  refine ⟨_, cap, rfl, fun _ => ⟨g, 0, rfl, hg, fun i hi => ?_⟩⟩
  rw [Nat.zero_add, h.cellAt i (by omega), strCells_get xs i hi]

set_option maxHeartbeats 1000000 in
theorem cloneStrs_any (v : Value) (xs : List Bs) (w : World) (hv : StrsV w v xs) (hl : xs.length ≤ 1048576) :
    Calls Try.prog 22 #[v] w fun e w' => (∃ a' cap', e = .returned (.slice a' xs.length cap') ∧ StrsFrom w.heap.size w' (.slice a' xs.length cap') xs) ∧ Ext w w' := by
  obtain ⟨i0, hi, hz0, hz1, hz2⟩ := info_parts info9
  obtain ⟨a, cap, rfl, hcells⟩ := hv
  have hnil := fun w' => Lib.run_eql_slice_nil (P := Try.prog) w' 46 9 a xs.length cap 0 0 Try.underlying46
  cases a with
  | none =>
    have hx0 : xs = [] := by
      cases xs with
      | nil => rfl
      | cons y ys => obtain ⟨b, off, h, _⟩ := hcells (by simp); cases h
    subst hx0
    clear hcells
    simp only [List.length_nil, Option.isNone_none] at hnil
    go_enter Try.func22, Try.ntmps22
    go_wp2
    go_ret
    exact ⟨⟨none, 0, rfl, ⟨none, 0, rfl, fun h => by simp at h⟩⟩, Ext.refl _⟩
  | some ad =>
    have HC : Hid _ := hcells
    clear hcells
    go_enter Try.func22, Try.ntmps22
    go_wp2_with (at_make; refine wpList_make_full _ rfl _ _ 46 rfl w.heap.size 9 i0 (.string ByteArray.empty) 1 Try.underlying46 hi hz0 hz1 .i64 .i64 _ _ xs.length rfl rfl rfl rfl (by rw [hz2]; omega) (by unfold maxLen; omega) (Nat.le_refl _) ?_; intro w1 hown hgrow)
    have hb1 : Ext w w1 := (Below.refl _ _).grown hgrow (Nat.le_refl _) (fun k hk => by cases hk)
    rw [made_strs, ← strTo_zero] at hown
    clear hgrow hnil
    go_loopw [4] (fun i wr => ∃ k : Nat, i = .int .i64 k ∧ k ≤ xs.length ∧ wr.ownsRow w.heap.size 9 1 (.slice (some ⟨w.heap.size, 0, none⟩) xs.length xs.length) xs.length (strTo xs k) ∧ Ext w wr) (fun i _ => xs.length - (intOf i).toNat)
    case atStart => exact ⟨0, rfl, Nat.zero_le _, hown, hb1⟩
    case round =>
      clear hown hb1
      obtain ⟨k, rfl, hk, hown, he⟩ := hrel
      by_cases hlt : k < xs.length
      · obtain ⟨b, off, hab, hc⟩ := HC.out (by omega)
        injection hab with hab
        subst hab
        have ck := he.cell (hc k hlt)
        clear hc
        have hc : ∃ v, wr.cell? ⟨w.heap.size, k, none⟩ = some v := by
          have := hown.cellAt k (by omega)
          rw [List.getElem?_eq_getElem (by rw [strTo_length _ _ hk]; exact hlt)] at this
          exact ⟨_, this⟩
        obtain ⟨v, hc⟩ := hc
        have hf := hown.frozenAt k
        have HS : Hid _ := strTo_step xs k hlt
        generalize xs.getD k [] = y at *
        go_wp2
        go_roundw
        case rel => exact ⟨k + 1, by go_num, by omega, by rw [← HS.out]; exact (hown.stored k _).1, Below.setCell he (p := ⟨w.heap.size, k, none⟩) (Nat.le_refl _) _⟩
        case measure => simp [intOf]; omega
      · rw [strTo_all xs k hlt] at hown
        have HV : Hid _ := strsV_owned rfl (Nat.le_refl _) hown
        clear hown
        go_wp2
        go_ret
        exact ⟨⟨_, _, rfl, HV.out⟩, he⟩

/-! ### toClaims -/
theorem info68 : (Try.prog.info? 68).map (fun i => (i.zero, i.size, i.bytes)) = some (some (.agg #[.slice none 0 0, .int .i64 0, .slice none 0 0]), 3, 56) := by kernel_rfl

theorem Ext.frozen {w w' : World} (h : Ext w w') {b o : Nat} (hb : b < w.heap.size) : w'.frozen? ⟨b, o, none⟩ = w.frozen? ⟨b, o, none⟩ :=
  Below.frozen h (p := ⟨b, o, none⟩) hb

/-- the row g, of which k are filled -/
structure ToW (w wr : World) (g : Nat) (cls : List Cl) (k : Nat) : Prop where
  there : ∀ j, j < cls.length * 3 → ∃ v, wr.cell? ⟨g, j, none⟩ = some v
  open_ : ∀ j, wr.frozen? ⟨g, j, none⟩ = false
  done : ∀ i, i < k → ∃ x y, wr.cell? ⟨g, i * 3, none⟩ = some x ∧ wr.cell? ⟨g, i * 3 + 1, none⟩ = some (.int .i64 (cls.getD i ⟨[], 0, []⟩).tax) ∧ wr.cell? ⟨g, i * 3 + 2, none⟩ = some y ∧
    StrsFrom (g + 1) wr x (cls.getD i ⟨[], 0, []⟩).adom ∧ StrsFrom (g + 1) wr y (cls.getD i ⟨[], 0, []⟩).cat
  e : Ext w wr
  lt : g < wr.heap.size

theorem ToW.ext {w wr w' : World} {g : Nat} {cls : List Cl} {k : Nat} (h : ToW w wr g cls k) (e : Ext wr w') : ToW w w' g cls k := by
  refine ⟨fun j hj => ?_, fun j => (e.frozen h.lt).trans (h.open_ j), fun i hi => ?_, h.e.trans e, Nat.lt_of_lt_of_le h.lt e.size⟩
  · obtain ⟨v, hv⟩ := h.there j hj
    exact ⟨v, e.cell hv⟩
  · obtain ⟨x, y, h1, h2, h3, h4, h5⟩ := h.done i hi
    exact ⟨x, y, e.cell h1, e.cell h2, e.cell h3, h4.ext e, h5.ext e⟩

theorem toW_start {w w1 : World} {cls : List Cl} (hown : w1.ownsRow w.heap.size 68 3 (.slice (some ⟨w.heap.size, 0, none⟩) cls.length cls.length) cls.length (madeCells (Value.agg #[.slice none 0 0, .int .i64 0, .slice none 0 0]).cells (cls.length * 3)).toList)
    (hgrow : w.grownBy w1 none) : ToW w w1 w.heap.size cls 0 := by
  refine ⟨fun j hj => ?_, fun j => hown.frozenAt j, fun i hi => absurd hi (by omega), ⟨hgrow.os, hgrow.tape, hgrow.output, hgrow.size, fun k hk => hgrow.block k hk (by simp)⟩, (hown.lt w.heap.size rfl).2⟩
  have hl := hown.1
  have := hown.cellAt j hj
  rw [List.getElem?_eq_getElem (by rw [hl]; exact hj)] at this
  exact ⟨_, this⟩

theorem toW_end {w wr : World} {g : Nat} {cls : List Cl} {k : Nat} (h : ToW w wr g cls k) (hk : cls.length ≤ k) : ClaimsV wr (.slice (some ⟨g, 0, none⟩) cls.length cls.length) cls := by
  refine ⟨_, _, rfl, fun _ => ⟨g, 0, rfl, fun i hi => ?_⟩⟩
  obtain ⟨x, y, h1, h2, h3, h4, h5⟩ := h.done i (by omega)
  exact ⟨x, y, by simpa using h1, by simpa using h2, by simpa using h3, h4.view, h5.view⟩

theorem ne_off {g a b : Nat} (h : a ≠ b) : (⟨g, a, none⟩ : Addr) ≠ ⟨g, b, none⟩ := by intro e; injection e with _ e; exact h e

theorem toW_store {w w2 : World} {g : Nat} {cls : List Cl} {k : Nat} {vx vy : Value} (h : ToW w w2 g cls k) (hk : k < cls.length)
    (hx : StrsFrom (g + 1) w2 vx (cls.getD k ⟨[], 0, []⟩).adom) (hy : StrsFrom (g + 1) w2 vy (cls.getD k ⟨[], 0, []⟩).cat) (hg : w.heap.size ≤ g) :
    ToW w (((w2.setCell ⟨g, k * 3, none⟩ vx).setCell ⟨g, k * 3 + 1, none⟩ (.int .i64 (cls.getD k ⟨[], 0, []⟩).tax)).setCell ⟨g, k * 3 + 2, none⟩ vy) g cls (k + 1) := by
  obtain ⟨o0, d0⟩ := h.there (k * 3) (by omega)
  obtain ⟨o1, d1⟩ := h.there (k * 3 + 1) (by omega)
  obtain ⟨o2, d2⟩ := h.there (k * 3 + 2) (by omega)
  have far : ∀ j, j ≠ k * 3 → j ≠ k * 3 + 1 → j ≠ k * 3 + 2 → (((w2.setCell ⟨g, k * 3, none⟩ vx).setCell ⟨g, k * 3 + 1, none⟩ (.int .i64 (cls.getD k ⟨[], 0, []⟩).tax)).setCell ⟨g, k * 3 + 2, none⟩ vy).cell? ⟨g, j, none⟩ = w2.cell? ⟨g, j, none⟩ := by
    intro j h0 h1 h2
    rw [World.cell?_setCell_other _ _ _ _ (ne_off (Ne.symm h2)), World.cell?_setCell_other _ _ _ _ (ne_off (Ne.symm h1)), World.cell?_setCell_other _ _ _ _ (ne_off (Ne.symm h0))]
  have e0 : (((w2.setCell ⟨g, k * 3, none⟩ vx).setCell ⟨g, k * 3 + 1, none⟩ (.int .i64 (cls.getD k ⟨[], 0, []⟩).tax)).setCell ⟨g, k * 3 + 2, none⟩ vy).cell? ⟨g, k * 3, none⟩ = some vx := by
    rw [World.cell?_setCell_other _ _ _ _ (ne_off (by omega)), World.cell?_setCell_other _ _ _ _ (ne_off (by omega)), World.cell?_setCell_same _ _ _ d0]
  have e1 : (((w2.setCell ⟨g, k * 3, none⟩ vx).setCell ⟨g, k * 3 + 1, none⟩ (.int .i64 (cls.getD k ⟨[], 0, []⟩).tax)).setCell ⟨g, k * 3 + 2, none⟩ vy).cell? ⟨g, k * 3 + 1, none⟩ = some (.int .i64 (cls.getD k ⟨[], 0, []⟩).tax) := by
    rw [World.cell?_setCell_other _ _ _ _ (ne_off (by omega)), World.cell?_setCell_same _ _ _ (by rw [World.cell?_setCell_other _ _ _ _ (ne_off (by omega))]; exact d1)]
  have e2 : (((w2.setCell ⟨g, k * 3, none⟩ vx).setCell ⟨g, k * 3 + 1, none⟩ (.int .i64 (cls.getD k ⟨[], 0, []⟩).tax)).setCell ⟨g, k * 3 + 2, none⟩ vy).cell? ⟨g, k * 3 + 2, none⟩ = some vy := by
    rw [World.cell?_setCell_same _ _ _ (by rw [World.cell?_setCell_other _ _ _ _ (ne_off (by omega)), World.cell?_setCell_other _ _ _ _ (ne_off (by omega))]; exact d2)]
  have sf : ∀ {v : Value} {xs : List Bs}, StrsFrom (g + 1) w2 v xs → StrsFrom (g + 1) (((w2.setCell ⟨g, k * 3, none⟩ vx).setCell ⟨g, k * 3 + 1, none⟩ (.int .i64 (cls.getD k ⟨[], 0, []⟩).tax)).setCell ⟨g, k * 3 + 2, none⟩ vy) v xs := fun h =>
    ((h.setCell (p := ⟨g, _, none⟩) (Nat.lt_succ_self _) _).setCell (p := ⟨g, _, none⟩) (Nat.lt_succ_self _) _).setCell (p := ⟨g, _, none⟩) (Nat.lt_succ_self _) _
  refine ⟨fun j hj => ?_, fun j => ?_, fun i hi => ?_, ?_, ?_⟩
  · by_cases h0 : j = k * 3
    · subst h0; exact ⟨_, e0⟩
    · by_cases h1 : j = k * 3 + 1
      · subst h1; exact ⟨_, e1⟩
      · by_cases h2 : j = k * 3 + 2
        · subst h2; exact ⟨_, e2⟩
        · obtain ⟨v, hv⟩ := h.there j hj
          exact ⟨v, (far j h0 h1 h2).trans hv⟩
  · rw [World.frozen?_setCell, World.frozen?_setCell, World.frozen?_setCell]; exact h.open_ j
  · by_cases hik : i = k
    · subst hik
      exact ⟨vx, vy, e0, e1, e2, sf hx, sf hy⟩
    · obtain ⟨x, y, h1, h2, h3, h4, h5⟩ := h.done i (by omega)
      exact ⟨x, y, (far _ (by omega) (by omega) (by omega)).trans h1, (far _ (by omega) (by omega) (by omega)).trans h2, (far _ (by omega) (by omega) (by omega)).trans h3, sf h4, sf h5⟩
  · exact Below.setCell (Below.setCell (Below.setCell h.e (p := ⟨g, _, none⟩) hg _) (p := ⟨g, _, none⟩) hg _) (p := ⟨g, _, none⟩) hg _
  · simpa using h.lt

/-- nil, or a row of its own -/
def ToShape (v : Value) (n : Nat) : Prop := (v = .slice none 0 0 ∧ n = 0) ∨ ∃ g, v = .slice (some ⟨g, 0, none⟩) n n

set_option maxHeartbeats 4000000 in
theorem toClaims_any (v : Value) (cls : List Cl) (w : World) (hv : ClaimsV w v cls) (hl : cls.length ≤ 4096) (hok : ∀ c ∈ cls, ClOk c) :
    Calls Try.prog 9 #[v] w fun e w' => (∃ v', e = .returned v' ∧ ClaimsV w' v' cls ∧ ToShape v' cls.length) ∧ Ext w w' := by
  obtain ⟨i0, hi, hz0, hz1, hz2⟩ := info_parts info68
  obtain ⟨a, cap, rfl, hcells⟩ := hv
  have hnil := fun w' => Lib.run_eql_slice_nil (P := Try.prog) w' 25 48 a cls.length cap 0 0 Try.underlying25
  cases a with
  | none =>
    have hx0 : cls = [] := by
      cases cls with
      | nil => rfl
      | cons y ys => obtain ⟨b, off, h, _⟩ := hcells (by simp); cases h
    subst hx0
    clear hcells
    simp only [List.length_nil, Option.isNone_none] at hnil
    go_enter Try.func9, Try.ntmps9
    go_wp2
    go_ret
    exact ⟨⟨.slice none 0 0, rfl, ⟨none, 0, rfl, fun h => by simp at h⟩, .inl ⟨rfl, rfl⟩⟩, Ext.refl _⟩
  | some ad =>
    have HC : Hid _ := hcells
    have HOK : Hid (∀ c ∈ cls, ClOk c) := hok
    clear hcells hok
    go_enter Try.func9, Try.ntmps9
    go_wp2_with (at_make; refine wpList_make_full _ rfl _ _ 33 rfl w.heap.size 68 i0 (.agg #[.slice none 0 0, .int .i64 0, .slice none 0 0]) 3 Try.underlying33 hi hz0 hz1 .i64 .i64 _ _ cls.length rfl rfl rfl rfl (by rw [hz2]; omega) (by unfold maxLen; omega) (Nat.le_refl _) ?_; intro w1 hown hgrow)
    have hT : ToW w w1 w.heap.size cls 0 := toW_start hown hgrow
    clear hown hgrow hnil
    go_loopw [4] (fun i wr => ∃ k : Nat, i = .int .i64 k ∧ k ≤ cls.length ∧ ToW w wr w.heap.size cls k) (fun i _ => cls.length - (intOf i).toNat)
    case atStart => exact ⟨0, rfl, Nat.zero_le _, hT⟩
    case round =>
      clear hT
      obtain ⟨k, rfl, hk, hT⟩ := hrel
      by_cases hlt : k < cls.length
      · obtain ⟨b, off, hab, hc⟩ := HC.out (by omega)
        injection hab with hab
        subst hab
        obtain ⟨x, y, g0, g1, g2, gx, gy⟩ := hc k hlt
        clear hc
        have c0 := hT.e.cell g0
        have c1 := hT.e.cell g1
        have c2 := hT.e.cell g2
        have GX : Hid (StrsV wr x (cls.getD k ⟨[], 0, []⟩).adom) := gx.ext hT.e
        have GY : Hid (StrsV wr y (cls.getD k ⟨[], 0, []⟩).cat) := gy.ext hT.e
        have g0' := g0
        have g1' := g1
        have g2' := g2
        clear g0 g1 g2 gx gy
        have HK : Hid (ClOk (cls.getD k ⟨[], 0, []⟩)) := HOK.out _ (getD_mem' ⟨[], 0, []⟩ cls k hlt)
        obtain ⟨o0, d0⟩ := hT.there (k * 3) (by omega)
        obtain ⟨o1, d1⟩ := hT.there (k * 3 + 1) (by omega)
        obtain ⟨o2, d2⟩ := hT.there (k * 3 + 2) (by omega)
        have f0 := hT.open_ (k * 3)
        have f1 := hT.open_ (k * 3 + 1)
        have f2 := hT.open_ (k * 3 + 2)
        have HT : Hid _ := hT
        have hglt := hT.lt
        have HST : Hid (∀ vx vy, ∀ w2, Ext wr w2 → StrsFrom wr.heap.size w2 vx (cls.getD k ⟨[], 0, []⟩).adom → StrsFrom wr.heap.size w2 vy (cls.getD k ⟨[], 0, []⟩).cat →
            ToW w (((w2.setCell ⟨w.heap.size, k * 3, none⟩ vx).setCell ⟨w.heap.size, k * 3 + 1, none⟩ (.int .i64 (cls.getD k ⟨[], 0, []⟩).tax)).setCell ⟨w.heap.size, k * 3 + 2, none⟩ vy) w.heap.size cls (k + 1)) := fun vx vy w2 e2 hx hy => toW_store (hT.ext e2) (by omega) (hx.mono hT.lt) (hy.mono hT.lt) (Nat.le_refl _)
        generalize cls.getD k ⟨[], 0, []⟩ = cl at *
        have hkI : (k : Int) < (cls.length : Int) := by omega
        go_upto_region 7 with fail
        have hn0 := World.new_ne w ⟨b, off + k * 3, none⟩ g0'
        have hn1 := World.new_ne w ⟨b, off + k * 3 + 1, none⟩ g1'
        have hn2 := World.new_ne w ⟨b, off + k * 3 + 2, none⟩ g2'
        clear g0' g1' g2'
        go_region_held3 (fun w' => w'.cell? ⟨b, off + k * 3, none⟩ = some x ∧ w'.cell? ⟨b, off + k * 3 + 1, none⟩ = some (.int .i64 cl.tax) ∧ w'.cell? ⟨b, off + k * 3 + 2, none⟩ = some y)
          (first
            | go_keep
            | exact ⟨he1.cell c0, he1.cell c1, he1.cell c2⟩
            | exact ⟨he2.cell (he1.cell c0), he2.cell (he1.cell c1), he2.cell (he1.cell c2)⟩)
          ((first
            | (go_at_call_of 22 x; go_fit (cloneStrs_any x cl.adom _ (StrsV.ext GX.out (Ext.drew _)) HK.out.an); rintro e w1 ⟨⟨ax, cx, rfl, hvx⟩, he1⟩)
            | (go_at_call_of 22 y; go_fit (cloneStrs_any y cl.cat _ (StrsV.ext GY.out ((Ext.drew _).trans he1)) HK.out.cn); rintro e w2 ⟨⟨ay, cy, rfl, hvy⟩, he2⟩; have dd0 := he2.cell (he1.cell d0); have dd1 := he2.cell (he1.cell d1); have dd2 := he2.cell (he1.cell d2); have ff0 := (he2.frozen (Nat.lt_of_lt_of_le hglt he1.size)).trans ((he1.frozen hglt).trans f0); have ff1 := (he2.frozen (Nat.lt_of_lt_of_le hglt he1.size)).trans ((he1.frozen hglt).trans f1); have ff2 := (he2.frozen (Nat.lt_of_lt_of_le hglt he1.size)).trans ((he1.frozen hglt).trans f2))))
        have HR : Hid _ := HST.out _ _ w2 ((Ext.drew _).trans he1 |>.trans he2) (hvx.ext he2) (hvy.mono he1.size)
        clear he1 he2 hvx hvy dd0 dd1 dd2 ff0 ff1 ff2 c0 c1 c2 d0 d1 d2 f0 f1 f2 hT
        go_wp2
        go_roundw
        case rel => exact ⟨k + 1, by go_num, by omega, HR.out⟩
        case measure => simp [intOf]; omega
      · have HV : Hid _ := toW_end hT (by omega)
        have he := hT.e
        clear hT
        go_wp2
        go_ret
        exact ⟨⟨_, rfl, HV.out, .inr ⟨_, rfl⟩⟩, he⟩
end Go.Proofs.Qxb6616329a
