import Derived.Test.Qxb6616348aDoorChecked
import Derived.WalkKit
import Derived.Outline
import Derived.WalkLawsBesides
import Derived.WalkSpells
import Derived.Lib.SliceRun
import Derived.Deep.QuietTactic
import Derived.BigQuiet
import Derived.Deep.DeepFit
import Derived.Deep.DeepCutAuto
import Derived.Deep.CutBlock
import Derived.Deep.RegionHeld3
import Derived.OwnWalk
import Derived.Maps.AppendAt
import Derived.Laws.IdiomStrings
import Derived.Laws.CopyOwn
set_option linter.unusedSimpArgs false
set_option linter.unusedVariables false
namespace Go.Proofs.Qxb6616348aDoor
open Go.RowKit

abbrev Bs := List UInt8

/-- a row of memory of the call's own -/
structure Row where
  e : TypeId
  sz : Nat
  v : Value
  n : Nat
  xs : List Value

def apart (a b : Value) : Prop := a.ownBlock = none ∨ a.ownBlock ≠ b.ownBlock
theorem apart.symm {a b : Value} (h : apart a b) : apart b a := by
  unfold apart at *
  rcases h with h | h
  · cases hb : b.ownBlock with
    | none => exact .inl rfl
    | some k => right; rw [h]; simp
  · exact .inr (Ne.symm h)

/-- rows, each in a block of its own -/
structure Mem (w : World) (B : Nat) (R : List Row) : Prop where
  own : ∀ (i : Nat) (r : Row), R[i]? = some r → w.ownsRow B r.e r.sz r.v r.n r.xs
  far : ∀ (i j : Nat) (r s : Row), i ≠ j → R[i]? = some r → R[j]? = some s → apart r.v s.v
  size : B ≤ w.heap.size

theorem grownBy_refl (w : World) (row : Option Nat) : w.grownBy w row := ⟨rfl, rfl, rfl, Nat.le_refl _, fun _ _ _ => rfl⟩
theorem grownBy_drew (w : World) (row : Option Nat) : w.grownBy w.drew row := ⟨rfl, rfl, rfl, Nat.le_refl _, fun _ _ _ => rfl⟩
theorem grownBy_drewN (w : World) (m : Nat) (row : Option Nat) : w.grownBy (w.drewN m) row := ⟨rfl, rfl, rfl, Nat.le_refl _, fun _ _ _ => rfl⟩

theorem Mem.grow {w w' : World} {B : Nat} {R : List Row} (h : Mem w B R) (hg : w.grownBy w' none) : Mem w' B R :=
  ⟨fun i r hr => (h.own i r hr).kept hg (by cases r.v.ownBlock <;> simp), h.far, Nat.le_trans h.size hg.size⟩

theorem Mem.upd {w w' : World} {B : Nat} {R : List Row} (h : Mem w B R) {i : Nat} {r : Row} (hr : R[i]? = some r) (r' : Row) (ho : w'.ownsRow B r'.e r'.sz r'.v r'.n r'.xs) (hg : w.grownBy w' r.v.ownBlock)
    (hb : r'.v.ownBlock = r.v.ownBlock ∨ r'.v.ownBlock = some w.heap.size ∨ r'.v.ownBlock = none) : Mem w' B (R.set i r') := by
  have hi : i < R.length := (List.getElem?_eq_some_iff.1 hr).1
  have key : ∀ (j : Nat) (s : Row), i ≠ j → R[j]? = some s → apart s.v r'.v := by
    intro j s hij hs
    rcases hb with e | e | e
    · rcases h.far j i s r (Ne.symm hij) hs hr with f | f
      · exact .inl f
      · exact .inr (by rw [e]; exact f)
    · cases hs' : s.v.ownBlock with
      | none => exact .inl hs'
      | some k =>
        have := ((h.own j s hs).lt k hs').2
        refine .inr ?_
        rw [hs', e]
        intro e2
        injection e2 with e2
        omega
    · cases hs' : s.v.ownBlock with
      | none => exact .inl hs'
      | some k => refine .inr ?_; rw [hs', e]; simp
  refine ⟨?_, ?_, Nat.le_trans h.size hg.size⟩
  · intro j s hs
    by_cases e : i = j
    · subst e
      rw [List.getElem?_set_self hi] at hs
      injection hs with hs
      subst hs
      exact ho
    · rw [List.getElem?_set_ne e] at hs
      refine (h.own j s hs).kept hg ?_
      exact h.far j i s r (Ne.symm e) hs hr
  · intro j k s t hjk hs ht
    by_cases e : i = j
    · subst e
      rw [List.getElem?_set_self hi] at hs
      injection hs with hs
      subst hs
      rw [List.getElem?_set_ne hjk] at ht
      exact (key k t hjk ht).symm
    · rw [List.getElem?_set_ne e] at hs
      by_cases e2 : i = k
      · subst e2
        rw [List.getElem?_set_self hi] at ht
        injection ht with ht
        subst ht
        exact key j s e hs
      · rw [List.getElem?_set_ne e2] at ht
        exact h.far j k s t hjk hs ht

theorem Mem.add {w w' : World} {B : Nat} {R : List Row} (h : Mem w B R) (r : Row) (ho : w'.ownsRow B r.e r.sz r.v r.n r.xs) (hg : w.grownBy w' none)
    (hb : r.v.ownBlock = some w.heap.size ∨ r.v.ownBlock = none) : Mem w' B (R ++ [r]) := by
  have key : ∀ (j : Nat) (s : Row), R[j]? = some s → apart s.v r.v := by
    intro j s hs
    cases hs' : s.v.ownBlock with
    | none => exact .inl hs'
    | some k =>
      have := ((h.own j s hs).lt k hs').2
      refine .inr ?_
      rcases hb with e | e
      · rw [hs', e]
        intro e2
        injection e2 with e2
        omega
      · rw [hs', e]; simp
  have at_ : ∀ (j : Nat) (s : Row), (R ++ [r])[j]? = some s → R[j]? = some s ∨ (j = R.length ∧ s = r) := by
    intro j s hs
    by_cases hj : j < R.length
    · rw [List.getElem?_append_left hj] at hs
      exact .inl hs
    · rw [List.getElem?_append_right (by omega)] at hs
      by_cases e : j = R.length
      · subst e
        simp at hs
        exact .inr ⟨rfl, hs.symm⟩
      · rw [List.getElem?_eq_none (by simp; omega)] at hs
        cases hs
  refine ⟨?_, ?_, Nat.le_trans h.size hg.size⟩
  · intro j s hs
    rcases at_ j s hs with hs | ⟨_, rfl⟩
    · exact (h.own j s hs).kept hg (by cases s.v.ownBlock <;> simp)
    · exact ho
  · intro j k s t hjk hs ht
    rcases at_ j s hs with hs' | ⟨ej, es⟩
    · rcases at_ k t ht with ht' | ⟨ek, et⟩
      · exact h.far j k s t hjk hs' ht'
      · rw [et]; exact key j s hs'
    · rcases at_ k t ht with ht' | ⟨ek, et⟩
      · rw [es]; exact (key k t ht').symm
      · omega

/-- row i goes to the end, a nil row to its place -/
theorem Mem.move {w : World} {B : Nat} {R : List Row} (h : Mem w B R) {i : Nat} {r : Row} (hr : R[i]? = some r) : Mem w B (R.set i ⟨r.e, r.sz, .slice none 0 0, 0, []⟩ ++ [r]) := by
  have hi : i < R.length := (List.getElem?_eq_some_iff.1 hr).1
  have at_ : ∀ (j : Nat) (s : Row), (R.set i ⟨r.e, r.sz, .slice none 0 0, 0, []⟩ ++ [r])[j]? = some s → (j = i ∧ s = ⟨r.e, r.sz, .slice none 0 0, 0, []⟩) ∨ (j ≠ i ∧ j < R.length ∧ R[j]? = some s) ∨ (j = R.length ∧ s = r) := by
    intro j s hs
    by_cases hj : j < R.length
    · rw [List.getElem?_append_left (by simpa using hj)] at hs
      by_cases e : i = j
      · subst e
        rw [List.getElem?_set_self hi] at hs
        injection hs with hs
        exact .inl ⟨rfl, hs.symm⟩
      · rw [List.getElem?_set_ne e] at hs
        exact .inr (.inl ⟨Ne.symm e, hj, hs⟩)
    · rw [List.getElem?_append_right (by simp; omega)] at hs
      by_cases e : j = R.length
      · subst e
        simp at hs
        exact .inr (.inr ⟨rfl, hs.symm⟩)
      · rw [List.getElem?_eq_none (by simp; omega)] at hs
        cases hs
  refine ⟨?_, ?_, h.size⟩
  · intro j s hs
    rcases at_ j s hs with ⟨_, rfl⟩ | ⟨_, _, hs'⟩ | ⟨_, es⟩
    · exact World.ownsRow_nil w B _ _
    · exact h.own j s hs'
    · rw [es]; exact h.own i r hr
  · intro j k s t hjk hs ht
    rcases at_ j s hs with ⟨_, rfl⟩ | ⟨hj, hjl, hs'⟩ | ⟨ej, es⟩
    · exact .inl rfl
    · rcases at_ k t ht with ⟨_, rfl⟩ | ⟨_, _, ht'⟩ | ⟨_, et⟩
      · exact apart.symm (.inl rfl)
      · exact h.far j k s t hjk hs' ht'
      · rw [et]; exact h.far j i s r hj hs' hr
    · rcases at_ k t ht with ⟨_, rfl⟩ | ⟨hk, hkl, ht'⟩ | ⟨_, et⟩
      · exact apart.symm (.inl rfl)
      · rw [es]; exact h.far i k r t (Ne.symm hk) hr ht'
      · omega

theorem Mem.setCell {w : World} {B : Nat} {R : List Row} (h : Mem w B R) {i g n cap : Nat} {e sz : Nat} {xs : List Value} (hr : R[i]? = some ⟨e, sz, .slice (some ⟨g, 0, none⟩) n cap, n, xs⟩) (j : Nat) (u : Value) :
    Mem (w.setCell ⟨g, j, none⟩ u) B (R.set i ⟨e, sz, .slice (some ⟨g, 0, none⟩) n cap, n, xs.set j u⟩) := by
  have ho := h.own i _ hr
  have := World.ownsRow.stored (w := w) ho j u
  exact h.upd hr _ this.1 this.2 (.inl rfl)

theorem Mem.cell {w : World} {B : Nat} {R : List Row} (h : Mem w B R) {i g n cap : Nat} {e sz : Nat} {xs : List Value} (hr : R[i]? = some ⟨e, sz, .slice (some ⟨g, 0, none⟩) n cap, n, xs⟩) (j : Nat) (hj : j < n * sz) : w.cell? ⟨g, j, none⟩ = xs[j]? :=
  (h.own i _ hr).cellAt j hj
theorem Mem.frozen {w : World} {B : Nat} {R : List Row} (h : Mem w B R) {i g n cap : Nat} {e sz : Nat} {xs : List Value} (hr : R[i]? = some ⟨e, sz, .slice (some ⟨g, 0, none⟩) n cap, n, xs⟩) (j : Nat) : w.frozen? ⟨g, j, none⟩ = false :=
  (h.own i _ hr).frozenAt j

/-- what is appended: nothing, or cells at an address -/
def Src (w : World) (x : Value) (m : Nat) (news : List Value) (sz : Nat) : Prop :=
  news.length = m * sz ∧ (∀ u ∈ news, u.oneCell' = true) ∧ ((x = .slice none 0 0 ∧ m = 0) ∨ ∃ ad c, x = .slice (some ad) m c ∧ ∀ j u, news[j]? = some u → w.cell? (ad.add j) = some u)

/-- append onto row i -/
theorem Mem.append {w : World} {B : Nat} {R : List Row} (h : Mem w B R) {i : Nat} {e sz n : Nat} {v : Value} {xs : List Value} (hr : R[i]? = some ⟨e, sz, v, n, xs⟩)
    (t ty : TypeId) (inf : TypeInfo) (z : Value) (bytes : Nat) (ht : Tryd.prog.underlying t = some (.slice e)) (hi : Tryd.prog.info? e = some inf) (hz : inf.zero = some z) (hsize : inf.size = sz) (hby : inf.bytes = bytes) (hzs : z.cells.size = sz) (hsz : 0 < sz)
    (x : Value) (m : Nat) (news : List Value) (hx : Src w x m news sz) (h63 : n + m ≤ maxLen) (hbytes : (n + m) * bytes ≤ 140737488355328) :
    ∃ v' w', (Builtin.append_ #[t, t] ty #[v, x]).run Tryd.prog w = .ok v' w' ∧ Mem w' B (R.set i ⟨e, sz, v', n + m, xs ++ news⟩) ∧ Below B w w' := by
  have ho := h.own i _ hr
  obtain ⟨hl, h1, ⟨rfl, rfl⟩ | ⟨ad, c, rfl, hc⟩⟩ := hx
  · have hn : news = [] := List.eq_nil_of_length_eq_zero (by simpa using hl)
    subst hn
    refine ⟨v, w, run_append_owned_none (P := Tryd.prog) (w := w) B t ty e inf sz ht hi v n xs ho, ?_, Below.refl _ _⟩
    exact h.upd hr ⟨e, sz, v, n + 0, xs ++ []⟩ (by simpa using ho) (grownBy_refl w _) (.inl rfl)
  · obtain ⟨v', w', hrun, ho', hg, _, hat⟩ := run_append_own_at (P := Tryd.prog) w B t ty e inf z sz bytes ht hi hz hsize hby hzs hsz v n xs ho ad m c news hl hc h1 h63 hbytes h.size
    refine ⟨v', w', hrun, h.upd hr _ ho' hg (hat.imp id .inl), (Below.refl _ _).grown hg h.size (fun k hk => (ho.lt k hk).1)⟩

/-- an owned value is a slice of that length -/
theorem ownsRow_form {w : World} {B : Nat} {e sz n : Nat} {v : Value} {xs : List Value} (h : w.ownsRow B e sz v n xs) : ∃ a c, v = .slice a n c := by
  rcases h.2 with ⟨rfl, rfl⟩ | ⟨g, cap, cur, rfl, _⟩
  · exact ⟨_, _, rfl⟩
  · exact ⟨_, _, rfl⟩

theorem Mem.append' {w : World} {B : Nat} {R : List Row} (h : Mem w B R) (i : Nat) {e sz n : Nat} {v : Value} {xs : List Value} (hr : R[i]? = some ⟨e, sz, v, n, xs⟩)
    (t ty : TypeId) (inf : TypeInfo) (z : Value) (bytes : Nat) (ht : Tryd.prog.underlying t = some (.slice e)) (hi : Tryd.prog.info? e = some inf) (hz : inf.zero = some z) (hsize : inf.size = sz) (hby : inf.bytes = bytes) (hzs : z.cells.size = sz) (hsz : 0 < sz)
    (x : Value) (m : Nat) (news : List Value) (hx : Src w x m news sz) (h63 : n + m ≤ maxLen) (hbytes : (n + m) * bytes ≤ 140737488355328) :
    ∃ a' c' w', (Builtin.append_ #[t, t] ty #[v, x]).run Tryd.prog w = .ok (.slice a' (n + m) c') w' ∧ Mem w' B (R.set i ⟨e, sz, .slice a' (n + m) c', n + m, xs ++ news⟩) ∧ Below B w w' := by
  obtain ⟨v', w', hrun, hM, hB⟩ := h.append hr t ty inf z bytes ht hi hz hsize hby hzs hsz x m news hx h63 hbytes
  have hlt : i < R.length := (List.getElem?_eq_some_iff.1 hr).1
  obtain ⟨a', c', (hf : v' = .slice a' (n + m) c')⟩ := ownsRow_form (hM.own i _ (List.getElem?_set_self hlt))
  subst hf
  exact ⟨a', c', w', hrun, hM, hB⟩

/-- append onto row i, in the walk -/
theorem wpList_append_mem {w : World} {ops : Array Oper} {rest : List Oper} {o : Oper} {a : Act} {Q : Exit → Act → World → Prop} (hgd : o.guard = none) (s x : Operand) (t : TypeId)
    (ho : o.op = .call { callee := .builtin .append, args := #[s, x], argTypes := #[t, t] })
    {B : Nat} {R : List Row} (h : Mem w B R) (i : Nat) {e sz n : Nat} {v : Value} {xs : List Value} (hr : R[i]? = some ⟨e, sz, v, n, xs⟩)
    (inf : TypeInfo) (z : Value) (bytes : Nat) (ht : Tryd.prog.underlying t = some (.slice e)) (hi : Tryd.prog.info? e = some inf) (hz : inf.zero = some z) (hsize : inf.size = sz) (hby : inf.bytes = bytes) (hzs : z.cells.size = sz) (hsz : 0 < sz)
    (y : Value) (m : Nat) (news : List Value) (hs : a.eval s = v) (hxe : a.eval x = y) (hx : Src w y m news sz) (h63 : n + m ≤ maxLen) (hbytes : (n + m) * bytes ≤ 140737488355328)
    (hk : ∀ a' c' w', Mem w' B (R.set i ⟨e, sz, .slice a' (n + m) c', n + m, xs ++ news⟩) → Below B w w' → wpList Tryd.prog ops Q rest (a.put o.dst (.slice a' (n + m) c')) w') : wpList Tryd.prog ops Q (o :: rest) a w := by
  obtain ⟨a', c', w', hrun, hM, hB⟩ := h.append' i hr t o.type inf z bytes ht hi hz hsize hby hzs hsz y m news hx h63 hbytes
  refine wpList_plain hgd fun K hK => ?_
  unfold Oper.wp
  simp [execOp, ho, resolve, invoke, builtin, hs, hxe, hrun, Result.andThen]
  exact hK _ _ (hk a' c' w' hM hB)

/-- the same as a step of a region that draws its order -/
theorem step_append_mem {w : World} {ops : Array Oper} {o : Oper} {a : Act} {K : Act → World → Prop} {Q : Exit → Act → World → Prop} {E : Prop} (hgd : o.guard = none) (s x : Operand) (t : TypeId)
    (ho : o.op = .call { callee := .builtin .append, args := #[s, x], argTypes := #[t, t] })
    {B : Nat} {R : List Row} (h : Mem w B R) (i : Nat) {e sz n : Nat} {v : Value} {xs : List Value} (hr : R[i]? = some ⟨e, sz, v, n, xs⟩)
    (inf : TypeInfo) (z : Value) (bytes : Nat) (ht : Tryd.prog.underlying t = some (.slice e)) (hi : Tryd.prog.info? e = some inf) (hz : inf.zero = some z) (hsize : inf.size = sz) (hby : inf.bytes = bytes) (hzs : z.cells.size = sz) (hsz : 0 < sz)
    (y : Value) (m : Nat) (news : List Value) (hs : a.eval s = v) (hxe : a.eval x = y) (hx : Src w y m news sz) (h63 : n + m ≤ maxLen) (hbytes : (n + m) * bytes ≤ 140737488355328)
    (hk : ∀ a' c' w', Mem w' B (R.set i ⟨e, sz, .slice a' (n + m) c', n + m, xs ++ news⟩) → Below B w w' → K (a.put o.dst (.slice a' (n + m) c')) w') :
    if Region.wanted o (yielded ops a.tmps) = true then Oper.wp Tryd.prog o a w K Q else E := by
  have hw : Region.wanted o (yielded ops a.tmps) = true := by simp [Region.wanted, hgd]
  rw [if_pos hw]
  obtain ⟨a', c', w', hrun, hM, hB⟩ := h.append' i hr t o.type inf z bytes ht hi hz hsize hby hzs hsz y m news hx h63 hbytes
  unfold Oper.wp
  simp [execOp, ho, resolve, invoke, builtin, hs, hxe, hrun, Result.andThen]
  exact hk a' c' w' hM hB

theorem info5 : (Tryd.prog.info? 5).map (fun i => (i.zero, i.size, i.bytes)) = some (some (.int .u8 0), 1, 1) := by kernel_rfl

end Go.Proofs.Qxb6616348aDoor
