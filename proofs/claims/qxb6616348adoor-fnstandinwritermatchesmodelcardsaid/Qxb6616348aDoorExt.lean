import Derived.Test.Qxb6616348aDoorSt
import Derived.BigRegion
set_option linter.unusedSimpArgs false
set_option linter.unusedVariables false
namespace Go.Proofs.Qxb6616348aDoor
open Go.RowKit

/-- extendRun's head: a run begins -/
def start (s : St) : St := if s.inRun then s else { s with inRun := true, length := 0, short := [], joins := s.us && !s.ex, run := ⟨0, [], 0, false⟩ }
def grow (s : St) (b : Bs) : St := if s.length + b.length ≤ 40 then { s with length := s.length + b.length, short := s.short ++ b } else { s with length := s.length + b.length }
def extendRun (s : St) (b : Bs) : St := grow (start s) b

/-- a []byte that is read: its bytes, outside block p -/
def SlA (w : World) (p : Nat) (v : Value) (l : Bs) : Prop :=
  ∃ a cap, v = .slice a l.length cap ∧ l.length ≤ cap ∧ ((a = none ∧ cap = 0) ∨ ∃ b off, a = some ⟨b, off, none⟩ ∧ b ≠ p ∧ ∀ i, i < l.length → w.cell? ⟨b, off + i, none⟩ = some (.int .u8 ((l.getD i 0).toNat : Int)))

/-- nothing outside block p has turned -/
def Off (p : Nat) (w w' : World) : Prop := ∀ q : Addr, q.block ≠ p → w'.cell? q = w.cell? q
theorem Off.refl (p : Nat) (w : World) : Off p w w := fun _ _ => rfl
theorem Off.set {p : Nat} {w w' : World} (h : Off p w w') (j : Nat) (u : Value) : Off p w (w'.setCell ⟨p, j, none⟩ u) := fun q hq =>
  (World.cell?_of_block (heap_setCell_other w' ⟨p, j, none⟩ q.block u hq)).trans (h q hq)
theorem Off.drew {p : Nat} {w w' : World} (h : Off p w w') : Off p w w'.drew := h
theorem SlA.off {w w' : World} {p : Nat} {v : Value} {l : Bs} (h : SlA w p v l) (ho : Off p w w') : SlA w' p v l := by
  obtain ⟨a, c, hv, hc, hn | ⟨b, off, ha, hb, hcell⟩⟩ := h
  · exact ⟨a, c, hv, hc, .inl hn⟩
  · exact ⟨a, c, hv, hc, .inr ⟨b, off, ha, hb, fun i hi => (ho _ hb).trans (hcell i hi)⟩⟩
theorem addr_add (g off j : Nat) : (⟨g, off, none⟩ : Addr).add j = ⟨g, off + j, none⟩ := by unfold Addr.add; split <;> simp_all
theorem cells_one (l : Bs) : ∀ u ∈ cellsOf l, u.oneCell' = true := by
  intro v hv
  simp [cellsOf] at hv
  obtain ⟨b, _, rfl⟩ := hv
  rfl
theorem SlA.src {w : World} {p : Nat} {v : Value} {l : Bs} (h : SlA w p v l) : Src w v l.length (cellsOf l) 1 := by
  obtain ⟨a, c, rfl, hc, ⟨rfl, h0⟩ | ⟨b, off, rfl, hb, hcell⟩⟩ := h
  · refine ⟨by simp [cellsOf], cells_one l, ?_⟩
    have hl : l.length = 0 := by omega
    rw [hl, h0]
    exact .inl ⟨rfl, rfl⟩
  · refine ⟨by simp [cellsOf], cells_one l, .inr ⟨_, c, rfl, fun j u hj => ?_⟩⟩
    have hjl : j < l.length := by
      have := (List.getElem?_eq_some_iff.1 hj).1
      simpa [cellsOf] using this
    rw [addr_add, hcell j hjl, ← hj]
    simp [cellsOf, List.getD, hjl]

theorem row_form {w : World} {B : Nat} {e sz n : Nat} {v : Value} {xs : List Value} (h : w.ownsRow B e sz v n xs) : ∃ a c, v = .slice a n c ∧ n ≤ c := by
  rcases h.2 with ⟨rfl, rfl⟩ | ⟨g, cap, cur, rfl, _, _, h3, _⟩
  · exact ⟨_, _, rfl, Nat.le_refl _⟩
  · exact ⟨_, _, rfl, h3⟩
/-- an owned slice cut to nothing -/
theorem row_cut {w : World} {B : Nat} {e sz n c : Nat} {a : Option Addr} {xs : List Value} (h : w.ownsRow B e sz (.slice a n c) n xs) : w.ownsRow B e sz (.slice a 0 c) 0 [] := by
  refine ⟨by simp, ?_⟩
  rcases h.2 with ⟨h, h2⟩ | ⟨g, cap, cur, h, h1, h2, h3, h4, h5, h6⟩
  · injection h with h7 h8 h9
    subst h7 h9
    exact .inl ⟨rfl, rfl⟩
  · injection h with h7 h8 h9
    subst h7 h9
    exact .inr ⟨g, c, cur, rfl, h1, h2, Nat.zero_le _, h4, h5, by simp⟩

section
variable {w : World} {B pw pt : Nat} {s : St} {vo vs vk vh vsh vr : Value} {G : List (Value × Run)}
theorem WrM.oout (h : WrM w B pw pt s vo vs vk vh vsh vr G) : w.ownsRow B 5 1 vo s.out.length (cellsOf s.out) := h.mem.own 2 _ rfl
theorem WrM.oshort (h : WrM w B pw pt s vo vs vk vh vsh vr G) : w.ownsRow B 5 1 vs s.short.length (cellsOf s.short) := h.mem.own 3 _ rfl
theorem WrM.okept (h : WrM w B pw pt s vo vs vk vh vsh vr G) : w.ownsRow B 5 1 vk s.run.kept.length (cellsOf s.run.kept) := h.mem.own 4 _ rfl
theorem WrM.ohead (h : WrM w B pw pt s vo vs vk vh vsh vr G) : w.ownsRow B 5 1 vh s.head.length (cellsOf s.head) := h.mem.own 5 _ rfl
theorem WrM.oshifts (h : WrM w B pw pt s vo vs vk vh vsh vr G) : w.ownsRow B 61 2 vsh s.shifts.length (shCells s.shifts) := h.mem.own 6 _ rfl
theorem WrM.oruns (h : WrM w B pw pt s vo vs vk vh vsh vr G) : w.ownsRow B 55 4 vr G.length (runCells G) := h.mem.own 7 _ rfl
end

theorem start_fin {w : World} {B pw pt : Nat} {s : St} {vo vh vsh vr : Value} {G : List (Value × Run)} {ash ak : Option Addr} {csh ck : Nat} (h : WrM w B pw pt s vo (.slice ash s.short.length csh) (.slice ak s.run.kept.length ck) vh vsh vr G)
    (hr : s.inRun = false) (X : Bool) (hX : X = (s.us && !s.ex)) :
    WrM ((((((((w.setCell ⟨pw, 7, none⟩ (.bool true)).setCell ⟨pw, 9, none⟩ (.int .i64 0)).setCell ⟨pw, 10, none⟩ (.slice ash 0 csh)).setCell ⟨pw, 8, none⟩ (.bool X)).setCell ⟨pw, 11, none⟩ (.int .i64 0)).setCell ⟨pw, 12, none⟩ (.slice ak 0 ck)).setCell ⟨pw, 13, none⟩ (.int .i64 0)).setCell ⟨pw, 14, none⟩ (.bool false)).drew
      B pw pt (start s) vo (.slice ash 0 csh) (.slice ak 0 ck) vh vsh vr G := by
  have e : start s = { s with inRun := true, length := 0, short := [], joins := X, run := ⟨0, [], 0, false⟩ } := by unfold start; rw [hr, hX]; rfl
  rw [e]
  have m1 := h.mem.upd (i := 3) rfl ⟨5, 1, .slice ash 0 csh, 0, []⟩ (row_cut h.oshort) (grownBy_refl w _) (.inl (by cases ash <;> rfl))
  have m2 := m1.upd (i := 4) rfl ⟨5, 1, .slice ak 0 ck, 0, []⟩ (row_cut h.okept) (grownBy_refl w _) (.inl (by cases ak <;> rfl))
  have m3 := ((((m2.setCell (i := 0) rfl 7 (.bool true)).setCell (i := 0) rfl 9 (.int .i64 0)).setCell (i := 0) rfl 10 (.slice ash 0 csh)).setCell (i := 0) rfl 8 (.bool X))
  have m4 := ((((m3.setCell (i := 0) rfl 11 (.int .i64 0)).setCell (i := 0) rfl 12 (.slice ak 0 ck)).setCell (i := 0) rfl 13 (.int .i64 0)).setCell (i := 0) rfl 14 (.bool false)).grow (grownBy_drew _ none)
  exact ⟨m4, h.runs⟩

set_option maxHeartbeats 4000000 in
set_option maxRecDepth 100000 in
theorem ext_in (w : World) (B pw pt : Nat) (s s1 s2 : St) (v : Value) (b : Bs) (H1 : Hid (start s = s1)) (H2 : Hid (grow s1 b = s2)) (h : WrV w B pw pt s) (hv : SlA w pw v b) (hb : s1.length + b.length ≤ 1073741824) (hsh : s1.short.length ≤ 1073741824) :
    Calls Tryd.prog 22 #[.pointer (some ⟨pw, 0, none⟩), v] w fun e w' => e = .returned (.tuple #[]) ∧ Aft w B pw pt s2 w' := by
  obtain ⟨vo, vs, vk, vh, vsh, vr, G, hM⟩ := h
  have HM : Hid (WrM w B pw pt s vo vs vk vh vsh vr G) := hM
  have HV : Hid (SlA w pw v b) := hv
  have HB : Hid (B ≤ pw) := hM.lt.1
  obtain ⟨av, cv, rfl, _, _⟩ := hv
  have c1 := hM.cw 1 (by omega)
  have c2 := hM.cw 2 (by omega)
  have c7 := hM.cw 7 (by omega)
  have c8 := hM.cw 8 (by omega)
  have c9 := hM.cw 9 (by omega)
  have c10 := hM.cw 10 (by omega)
  have c11 := hM.cw 11 (by omega)
  have c12 := hM.cw 12 (by omega)
  have c13 := hM.cw 13 (by omega)
  have c14 := hM.cw 14 (by omega)
  have ff := fun j => hM.fw j
  simp only [wcells, List.getElem?_cons_succ, List.getElem?_cons_zero] at c1 c2 c7 c8 c9 c10 c11 c12 c13 c14
  clear hM
  go_enter Tryd.func22, Tryd.ntmps22
  go_upto_if 8 with fail
  go_cut [8] (fun _ wx => ∃ vs vk, WrM wx B pw pt s1 vo vs vk vh vsh vr G ∧ Below B w wx ∧ Off pw w wx)
  case first =>
    cases hr : s.inRun
    · rw [hr] at c7
      obtain ⟨ash, csh, rfl, hcs⟩ := row_form HM.out.oshort
      obtain ⟨ak, ck, rfl, hck⟩ := row_form HM.out.okept
      cases hu : s.us
      · rw [hu] at c1
        go_wp2_with fail
        go_region
        go_wp2
        go_meet
        case rel =>
          rw [← H1.out]
          exact ⟨_, _, start_fin HM.out hr _ (by rw [hu]; rfl), (((((((((Below.refl _ _).setCell HB.out _).setCell HB.out _).setCell HB.out _).setCell HB.out _).setCell HB.out _).setCell HB.out _).setCell HB.out _).setCell HB.out _).drew, (((((((((Off.refl _ _).set _ _).set _ _).set _ _).set _ _).set _ _).set _ _).set _ _).set _ _).drew⟩
      · rw [hu] at c1
        go_wp2_with fail
        go_region
        go_wp2
        go_meet
        case rel =>
          rw [← H1.out]
          exact ⟨_, _, start_fin HM.out hr _ (by rw [hu]; simp), (((((((((Below.refl _ _).setCell HB.out _).setCell HB.out _).setCell HB.out _).setCell HB.out _).setCell HB.out _).setCell HB.out _).setCell HB.out _).setCell HB.out _).drew, (((((((((Off.refl _ _).set _ _).set _ _).set _ _).set _ _).set _ _).set _ _).set _ _).set _ _).drew⟩
    · rw [hr] at c7
      go_wp2_with fail
      go_meet
      case rel =>
        have e : s1 = s := by rw [← H1.out]; unfold start; rw [hr]; rfl
        rw [e]
        exact ⟨_, _, HM.out, Below.refl _ _, Off.refl _ _⟩
  case rest =>
    obtain ⟨vs1, vk1, hM1, hB1, hO1⟩ := hcut
    clear c1 c2 c7 c8 c9 c10 c11 c12 c13 c14 ff HM
    have d9 := hM1.cw 9 (by omega)
    have d10 := hM1.cw 10 (by omega)
    have q9 := hM1.fw 9
    simp only [wcells, List.getElem?_cons_succ, List.getElem?_cons_zero] at d9 d10
    have HM1 : Hid (WrM wc B pw pt s1 vo vs1 vk1 vh vsh vr G) := hM1
    have HB1 : Hid (Below B w wc) := hB1
    have HO1 : Hid (Off pw w wc) := hO1
    clear hM1 hB1 hO1
    obtain ⟨i0, hi, hz0, hz1, hz2⟩ := info_parts info5
    have hln : (s1.length : Int) + (b.length : Int) = ((s1.length + b.length : Nat) : Int) := by omega
    generalize hL : s1.length + b.length = L at *
    have HLe : Hid (s1.length + b.length = L) := hL
    clear hL
    by_cases h40 : (L : Int) ≤ 40
    · go_wp2_with (at_builtin; refine (wpList_append_mem rfl (.tmp 65) (.tmp 66) 22 rfl (HM1.out.mem.setCell (i := 0) rfl 9 (.int .i64 (L : Int))) 3 rfl i0 (.int .u8 0) 1 Tryd.underlying22 hi hz0 hz1 hz2 rfl (by decide) (.slice av b.length cv) b.length (cellsOf b) rfl rfl ((HV.out.off HO1.out).off ((Off.refl _ _).set _ _)).src (by unfold maxLen; omega) (by omega) ?_); intro a' c' w2 hM2 hB2; have k10 := hM2.cell (i := 0) rfl 10 (by omega); have q10 := hM2.frozen (i := 0) rfl 10; have HM2 : Hid _ := hM2; have HB2 : Hid _ := hB2; clear hM2 hB2)
      go_end0
      refine ⟨rfl, ?_⟩
      have e2 : s2 = { s1 with length := L, short := s1.short ++ b } := by rw [← H2.out]; unfold grow; rw [HLe.out, if_pos (by omega)]
      rw [e2]
      refine ⟨⟨vo, .slice a' (s1.short.length + b.length) c', vk1, vh, vsh, vr, G, ?_, HM1.out.runs⟩, ((HB1.out.setCell HB.out _).trans HB2.out).setCell HB.out _⟩
      have m := HM2.out.setCell (i := 0) rfl 10 (.slice a' (s1.short.length + b.length) c')
      have l1 : (s1.short ++ b).length = s1.short.length + b.length := by simp
      simp only [rows, rowB, l1, cellsOf_append]
      exact m
    · go_wp2
      go_end0
      refine ⟨rfl, ?_⟩
      have e2 : s2 = { s1 with length := L } := by rw [← H2.out]; unfold grow; rw [HLe.out, if_neg (by omega)]
      rw [e2]
      exact ⟨⟨vo, vs1, vk1, vh, vsh, vr, G, HM1.out.mem.setCell (i := 0) rfl 9 _, HM1.out.runs⟩, HB1.out.setCell HB.out _⟩

theorem extendRun_any (w : World) (B pw pt : Nat) (s : St) (v : Value) (b : Bs) (h : WrV w B pw pt s) (hv : SlA w pw v b) (hb : s.length + b.length ≤ 1073741824) (hsh : s.short.length ≤ 1073741824) :
    Calls Tryd.prog 22 #[.pointer (some ⟨pw, 0, none⟩), v] w fun e w' => e = .returned (.tuple #[]) ∧ Aft w B pw pt (extendRun s b) w' := by
  refine ext_in w B pw pt s (start s) (extendRun s b) v b (rfl : start s = start s) (rfl : grow (start s) b = extendRun s b) h hv ?_ ?_
  · unfold start
    split
    · exact hb
    · show 0 + b.length ≤ _; omega
  · unfold start
    split
    · exact hsh
    · exact Nat.zero_le _
end Go.Proofs.Qxb6616348aDoor
