import Derived.Test.Qxb6616348aDoorNew
set_option linter.unusedSimpArgs false
set_option linter.unusedVariables false
namespace Go.Proofs.Qxb6616348aDoor
open Go.RowKit

/-- a []byte that is read -/
def Rd (w : World) (v : Value) (l : Bs) : Prop :=
  ∃ a cap, v = .slice a l.length cap ∧ l.length ≤ cap ∧ ((a = none ∧ cap = 0) ∨ ∃ b off, a = some ⟨b, off, none⟩ ∧ ∀ i, i < l.length → w.cell? ⟨b, off + i, none⟩ = some (.int .u8 ((l.getD i 0).toNat : Int)))
theorem Rd.below {w w' : World} {v : Value} {l : Bs} (h : Rd w v l) (hb : Below w.heap.size w w') : Rd w' v l := by
  obtain ⟨a, c, hv, hc, hn | ⟨b, off, ha, hcell⟩⟩ := h
  · exact ⟨a, c, hv, hc, .inl hn⟩
  · refine ⟨a, c, hv, hc, .inr ⟨b, off, ha, fun i hi => ?_⟩⟩
    have h1 := hcell i hi
    rw [hb.cell (p := ⟨b, off + i, none⟩) (World.block_lt_of_cell? w _ h1), h1]
theorem Rd.src {w : World} {v : Value} {l : Bs} (h : Rd w v l) : Src w v l.length (cellsOf l) 1 := by
  obtain ⟨a, c, rfl, hc, ⟨rfl, h0⟩ | ⟨b, off, rfl, hcell⟩⟩ := h
  · refine ⟨by simp [cellsOf], cells_one l, ?_⟩
    have hl : l.length = 0 := by omega
    rw [hl, h0]
    exact .inl ⟨rfl, rfl⟩
  · refine ⟨by simp [cellsOf], cells_one l, .inr ⟨_, c, rfl, fun j u hj => ?_⟩⟩
    have hjl : j < l.length := by
      have := (List.getElem?_eq_some_iff.1 hj).1
      simpa [cellsOf] using this
    rw [addr_add, hcell j hjl, ← hj]
    simp [cellsOf, List.getD, hjl]
theorem own_rd {w : World} {B : Nat} {v : Value} {l : Bs} (h : w.ownsRow B 5 1 v l.length (cellsOf l)) : Rd w v l := by
  obtain ⟨a, c, rfl, hc⟩ := row_form h
  rcases h.2 with ⟨h1, h2⟩ | ⟨g, cap, cur, h1, _⟩
  · injection h1 with e1 e2 e3
    exact ⟨a, c, rfl, hc, .inl ⟨e1, e3⟩⟩
  · injection h1 with e1 e2 e3
    subst e1 e3
    refine ⟨_, c, rfl, hc, .inr ⟨g, 0, rfl, fun i hi => ?_⟩⟩
    rw [Nat.zero_add, h.cellAt i (by omega)]
    simp [cellsOf, List.getD, hi]
theorem Rd.len {w : World} {v : Value} {l : Bs} (h : Rd w v l) : ∃ a c, v = .slice a l.length c ∧ l.length ≤ c := by
  obtain ⟨a, c, hv, hc, _⟩ := h
  exact ⟨a, c, hv, hc⟩
theorem Rd.cell {w : World} {a : Option Addr} {n c : Nat} {l : Bs} (h : Rd w (.slice a n c) l) (k : Nat) (hk : k < l.length) : ∃ b off, a = some ⟨b, off, none⟩ ∧ w.cell? ⟨b, off + k, none⟩ = some (.int .u8 ((l.getD k 0).toNat : Int)) := by
  obtain ⟨a', c', hv, hc, ⟨rfl, h0⟩ | ⟨b, off, ha, hcell⟩⟩ := h
  · omega
  · injection hv with e1 _ _
    exact ⟨b, off, e1.trans ha, hcell k hk⟩
theorem Rd.take {w : World} {a : Option Addr} {c : Nat} {l : Bs} (h : Rd w (.slice a l.length c) l) (k : Nat) (hk : k ≤ l.length) : Rd w (.slice a k c) (l.take k) := by
  obtain ⟨a0, c0, hv, hcl, hx⟩ := h
  injection hv with h1 h2 h3
  subst h1 h3
  refine ⟨a, c, by simp [Nat.min_eq_left hk], by simp; omega, hx.imp id fun ⟨b, off, hab, hcell⟩ => ⟨b, off, hab, fun i hi => ?_⟩⟩
  have hi' : i < k ∧ i < l.length := by simp at hi; omega
  rw [hcell i hi'.2]
  simp [List.getD, List.getElem?_take, hi'.1]

/-- only draws -/
def Drawn (w w' : World) : Prop := ∃ n, w' = w.drewN n
theorem Drawn.refl (w : World) : Drawn w w := ⟨0, rfl⟩
theorem Drawn.cell {w w' : World} (h : Drawn w w') (p : Addr) : w'.cell? p = w.cell? p := by obtain ⟨n, rfl⟩ := h; rfl
theorem Drawn.below {w w' : World} (h : Drawn w w') (B : Nat) : Below B w w' := by obtain ⟨n, rfl⟩ := h; exact ⟨rfl, rfl, rfl, Nat.le_refl _, fun _ _ => rfl⟩
theorem drewN_drewN (w : World) (a b : Nat) : (w.drewN a).drewN b = w.drewN (a + b) := by
  unfold World.drewN; simp [Nat.add_assoc]
theorem Drawn.more {w w' : World} (h : Drawn w w') (n : Nat) : Drawn w (w'.drewN n) := by obtain ⟨m, rfl⟩ := h; exact ⟨m + n, drewN_drewN _ _ _⟩

set_option maxHeartbeats 2000000 in
set_option maxRecDepth 100000 in
theorem same_any (w : World) (va vb : Value) (l : Bs) (ha : Rd w va l) (hb : Rd w vb l) (hl : l.length ≤ 1073741824) :
    Calls Tryd.prog 10 #[va, vb] w fun e w' => e = .returned (.bool true) ∧ Below w.heap.size w w' := by
  obtain ⟨a1, c1, rfl, hc1⟩ := ha.len
  obtain ⟨a2, c2, rfl, hc2⟩ := hb.len
  have HA : Hid (Rd w (.slice a1 l.length c1) l) := ha
  have HB : Hid (Rd w (.slice a2 l.length c2) l) := hb
  clear ha hb
  go_enter Tryd.func10, Tryd.ntmps10
  go_wp2_with fail
  go_loopw [5] (fun i wr => ∃ k : Nat, i = .int .i64 k ∧ k ≤ l.length ∧ Drawn w wr) (fun i _ => l.length - (intOf i).toNat)
  case atStart => exact ⟨0, rfl, Nat.zero_le _, Drawn.refl w⟩
  case round =>
    obtain ⟨k, rfl, hkl, hD⟩ := hrel
    have HD : Hid (Drawn w wr) := hD
    clear hD
    by_cases hlt : (k : Int) < (l.length : Int)
    · obtain ⟨b1, o1, rfl, h1⟩ := HA.out.cell k (by omega)
      obtain ⟨b2, o2, rfl, h2⟩ := HB.out.cell k (by omega)
      rw [← HD.out.cell] at h1 h2
      generalize (l.getD k 0).toNat = x at h1 h2
      go_wp2_with fail
      go_quiet (fail)
      go_wp2_with fail
      exact ⟨⟨k + 1, by simp, by omega, HD.out.more _⟩, by simp [intOf]; omega⟩
    · go_wp2_with fail
      go_ret
      exact ⟨rfl, HD.out.below _⟩

set_option maxHeartbeats 2000000 in
set_option maxRecDepth 100000 in
theorem prefix_any (w : World) (v : Value) (l : Bs) (hv : Rd w v l) (hl : l.length ≤ 1073741824) :
    Calls Tryd.prog 11 #[v, .int .i64 40] w fun e w' => ∃ v', e = .returned v' ∧ Rd w' v' (l.take 40) ∧ w' = w := by
  obtain ⟨a, c, rfl, hc⟩ := hv.len
  have HV : Hid (Rd w (.slice a l.length c) l) := hv
  clear hv
  go_enter Tryd.func11, Tryd.ntmps11
  by_cases h40 : (l.length : Int) ≤ 40
  · go_wp2_with fail
    go_ret
    exact ⟨_, rfl, by rw [List.take_of_length_le (by omega)]; exact HV.out, rfl⟩
  · have h41 : (40 : Int) ≤ (c : Int) := by omega
    go_wp2_with fail
    go_ret
    exact ⟨_, rfl, HV.out.take 40 (by omega), rfl⟩

/-- nothing owned yet -/
theorem mem_nil (w : World) (B : Nat) (e sz : Nat) (h : B ≤ w.heap.size) : Mem w B [⟨e, sz, .slice none 0 0, 0, []⟩] := by
  refine ⟨?_, ?_, h⟩
  · intro i r hr
    match i, hr with
    | 0, hr => injection hr with hr; subst hr; exact World.ownsRow_nil _ _ _ _
    | i + 1, hr => simp at hr
  · intro i j r s hij hr hs
    match i, j, hr, hs with
    | 0, 0, _, _ => exact absurd rfl hij
    | 0, j + 1, _, hs => simp at hs
    | i + 1, _, hr, _ => simp at hr

end Go.Proofs.Qxb6616348aDoor
