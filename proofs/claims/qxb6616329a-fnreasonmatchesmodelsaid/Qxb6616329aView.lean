import Derived.Test.Qxb6616329aStr
set_option linter.unusedSimpArgs false
set_option linter.unusedVariables false
namespace Go.Proofs.Qxb6616329a
open Go.RowKit

/-- w' is w with more blocks: all that was there is as it was -/
def Ext (w w' : World) : Prop := Below w.heap.size w w'
theorem Ext.refl (w : World) : Ext w w := Below.refl _ _
theorem Ext.trans {a b c : World} (h : Ext a b) (k : Ext b c) : Ext a c := Below.trans h (Below.mono k h.size)
theorem Ext.drewN (w : World) (n : Nat) : Ext w (w.drewN n) := ⟨rfl, rfl, rfl, Nat.le_refl _, fun _ _ => rfl⟩
theorem Ext.drew (w : World) : Ext w w.drew := ⟨rfl, rfl, rfl, Nat.le_refl _, fun _ _ => rfl⟩
theorem Ext.alloc (w : World) (o : Obj) : Ext w (w.alloc o) := (Below.refl _ _).alloc (Nat.le_refl _) o

theorem cell_lt {w : World} {b o : Nat} {v : Value} (h : w.cell? ⟨b, o, none⟩ = some v) : b < w.heap.size := by
  apply Classical.byContradiction
  intro hb
  have : w.heap[b]? = none := by simp; omega
  simp [World.cell?, this] at h

theorem Ext.cell {w w' : World} (h : Ext w w') {b o : Nat} {v : Value} (hc : w.cell? ⟨b, o, none⟩ = some v) : w'.cell? ⟨b, o, none⟩ = some v :=
  (Below.cell h (p := ⟨b, o, none⟩) (cell_lt hc)).trans hc

/-- a []string -/
def StrsV (w : World) (v : Value) (xs : List Bs) : Prop :=
  ∃ a cap, v = .slice a xs.length cap ∧ (0 < xs.length → ∃ b off, a = some ⟨b, off, none⟩ ∧ ∀ i, i < xs.length → w.cell? ⟨b, off + i, none⟩ = some (.string (B (xs.getD i []))))

theorem StrsV.ext {w w' : World} {v : Value} {xs : List Bs} (h : StrsV w v xs) (e : Ext w w') : StrsV w' v xs := by
  obtain ⟨a, cap, hv, h⟩ := h
  refine ⟨a, cap, hv, fun h0 => ?_⟩
  obtain ⟨b, off, ha, hc⟩ := h h0
  exact ⟨b, off, ha, fun i hi => e.cell (hc i hi)⟩

/-- a map[string]bool -/
structure DomMap (w : World) (m : Value) (f : Bs → Bool) (n : Nat) : Prop where
  look : ∀ w', Ext w w' → ∀ s : ByteArray, s.size ≤ maxLen → (Instr.lookup 37 m (.string s) false).run Try.prog w' = .ok (.bool (f s.data.toList)) w'
  len : ∀ w', Ext w w' → ∀ ty, (Builtin.len_ #[37] ty #[m]).run Try.prog w' = .ok (.int .i64 (n : Int)) w'
  none : n = 0 → ∀ l, f l = false
  small : n ≤ maxLen

theorem DomMap.ext {w w' : World} {m : Value} {f : Bs → Bool} {n : Nat} (h : DomMap w m f n) (e : Ext w w') : DomMap w' m f n :=
  ⟨fun w2 e2 => h.look w2 (e.trans e2), fun w2 e2 => h.len w2 (e.trans e2), h.none, h.small⟩

/-- a []map[string]bool -/
def DomsV (w : World) (v : Value) (fs : List (Bs → Bool)) (ns : List Nat) : Prop :=
  fs.length = ns.length ∧ ∃ a cap, v = .slice a fs.length cap ∧ (0 < fs.length → ∃ b off, a = some ⟨b, off, Option.none⟩ ∧ ∀ i, i < fs.length → ∃ m, w.cell? ⟨b, off + i, Option.none⟩ = some m ∧ (∃ r, m = .map r) ∧ DomMap w m (fs.getD i (fun _ => false)) (ns.getD i 0))

theorem DomsV.ext {w w' : World} {v : Value} {fs : List (Bs → Bool)} {ns : List Nat} (h : DomsV w v fs ns) (e : Ext w w') : DomsV w' v fs ns := by
  obtain ⟨hl, a, cap, hv, h⟩ := h
  refine ⟨hl, a, cap, hv, fun h0 => ?_⟩
  obtain ⟨b, off, ha, hc⟩ := h h0
  refine ⟨b, off, ha, fun i hi => ?_⟩
  obtain ⟨m, h1, h2, h3⟩ := hc i hi
  exact ⟨m, e.cell h1, h2, h3.ext e⟩
end Go.Proofs.Qxb6616329a
