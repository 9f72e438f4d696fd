import Derived.Test.Qxb6616348aDoorModelP
import Derived.Test.Qxb6616348aDoorPre
set_option linter.unusedSimpArgs false
set_option linter.unusedVariables false
namespace Go.Proofs.Qxb6616348aDoor
open Go.RowKit

theorem info44 : (Tryd.prog.info? 44).map (fun i => (i.zero, i.size, i.bytes)) = some (some (.agg #[.int .i64 0, .int .i64 0]), 2, 16) := by kernel_rfl
theorem info46 : (Tryd.prog.info? 46).map (fun i => (i.zero, i.size, i.bytes)) = some (some (.agg #[.int .i64 0, .slice none 0 0, .int .i64 0, .bool false]), 4, 48) := by kernel_rfl

/-! ### plain -/
theorem digs_snoc (r : Bs) (k : Nat) (hk : k < r.length) : digs (r.take (k + 1)) = digs (r.take k) ++ (if r.getD k 0 = 95 then [] else [r.getD k 0]) := by
  have e : r.take (k + 1) = r.take k ++ [r.getD k 0] := by
    rw [List.take_add_one, List.getElem?_eq_getElem hk]
    simp [List.getD, hk]
  rw [e]
  unfold digs
  rw [List.filter_append]
  congr 1
  generalize r.getD k 0 = x
  by_cases h : x = 95
  · rw [if_pos h, h]; rfl
  · rw [if_neg h]; simp [h]
theorem digs_le (r : Bs) : (digs r).length ≤ r.length := List.length_filter_le _ _
theorem fz_cons (c : UInt8) (l : Bs) : fz (c :: l) = if c = 48 then fz l + 1 else 0 := by
  unfold fz
  rw [List.takeWhile_cons]
  by_cases h : c = 48
  · simp [h]
  · simp [h]
theorem fz_step : ∀ {D : Bs} {k : Nat}, k ≤ fz D → k < D.length → D.getD k 0 = 48 → k + 1 ≤ fz D
  | [], k, _, hl, _ => by simp at hl
  | c :: l, 0, _, _, h => by
    have h' : c = 48 := h
    rw [fz_cons, if_pos h']; omega
  | c :: l, k + 1, hk, hl, h => by
    rw [fz_cons] at hk ⊢
    split at hk
    · rename_i hc
      rw [if_pos hc]
      have := fz_step (D := l) (k := k) (by omega) (by simpa using hl) h
      omega
    · omega
theorem fz_stop : ∀ {D : Bs} {k : Nat}, k ≤ fz D → k < D.length → D.getD k 0 ≠ 48 → fz D = k
  | [], k, _, hl, _ => by simp at hl
  | c :: l, 0, _, _, h => by
    have h' : c ≠ 48 := h
    rw [fz_cons, if_neg h']
  | c :: l, k + 1, hk, hl, h => by
    rw [fz_cons] at hk ⊢
    split at hk
    · rename_i hc
      rw [if_pos hc]
      have := fz_stop (D := l) (k := k) (by omega) (by simpa using hl) h
      omega
    · omega
/-- what a whole run writes -/
def emit (s : St) (r : Bs) : St :=
  if r.length ≤ 40 then { s with out := s.out ++ r } else longRun { s with length := r.length, run := valOf s.keep (digs r) }
/-- the fields that the model holds -/
structure Eq6 (s t : St) : Prop where
  out : s.out = t.out
  spaces : s.spaces = t.spaces
  full : s.full = t.full
  inRun : s.inRun = t.inRun
  shifts : s.shifts = t.shifts
  runs : s.runs = t.runs
theorem close_ran (s : St) (r : Bs) (h : s.inRun = false) : Eq6 (shut (emit s r)) (close (ran s r)) ∧ (close (ran s r)).ex = s.ex ∧ (close (ran s r)).mark = s.mark ∧ (close (ran s r)).us = s.us ∧ (close (ran s r)).keep = s.keep := by
  rw [close_eq]
  unfold emit
  by_cases h40 : r.length ≤ 40
  · rw [if_pos h40, if_pos (show (ran s r).length ≤ 40 from h40)]
    exact ⟨⟨rfl, rfl, rfl, h, rfl, rfl⟩, rfl, rfl, rfl, rfl⟩
  · rw [if_neg h40, if_neg (show ¬ (ran s r).length ≤ 40 from h40), longRun_eq, longRun_eq]
    exact ⟨⟨rfl, rfl, rfl, h, rfl, rfl⟩, rfl, rfl, rfl, rfl⟩
theorem emit_keep (s : St) (r : Bs) : (emit s r).inRun = s.inRun ∧ (emit s r).spaces = s.spaces ∧ (emit s r).full = s.full ∧ (emit s r).keep = s.keep := by
  unfold emit
  split
  · exact ⟨rfl, rfl, rfl, rfl⟩
  · rw [longRun_eq]; exact ⟨rfl, rfl, rfl, rfl⟩

/-- the model's bounds, k bytes read -/
structure MInv (t : St) (k : Nat) : Prop where
  out : t.out.length ≤ 4 * k
  sp : t.spaces ≤ 3
  sh : t.shifts.length ≤ k
  by1 : -(3 * (k : Int)) ≤ lastBy t.shifts
  by2 : lastBy t.shifts ≤ k
  runs : t.runs.length ≤ 3
  kept : ∀ r ∈ t.runs, r.kept.length ≤ k
theorem MInv.mono {t : St} {k k' : Nat} (h : MInv t k) (hk : k ≤ k') : MInv t k' :=
  ⟨by have := h.out; omega, h.sp, by have := h.sh; omega, by have := h.by1; omega, by have := h.by2; omega, h.runs, fun r hr => Nat.le_trans (h.kept r hr) hk⟩
theorem MInv.init (us : Bool) (keep : Nat) : MInv (init us keep) 0 :=
  ⟨by simp [Qxb6616348aDoor.init], by simp [Qxb6616348aDoor.init], by simp [Qxb6616348aDoor.init], by simp [Qxb6616348aDoor.init, lastBy], by simp [Qxb6616348aDoor.init, lastBy], by simp [Qxb6616348aDoor.init], by simp [Qxb6616348aDoor.init]⟩
theorem MInv.put {t : St} {k : Nat} (h : MInv t k) (c : UInt8) : MInv (put t c) (k + 1) := by
  obtain ⟨e1, e2, e3, e4, e5, e6, e7, e8, e9, e10, e11⟩ := put_keep t c
  have ho := put_out t c
  have h0 := h.mono (Nat.le_succ k)
  refine ⟨by have := h.out; omega, ho.2 h.sp, by rw [e8]; exact h0.sh, by rw [e8]; exact h0.by1, by rw [e8]; exact h0.by2, by rw [e7]; exact h0.runs, by rw [e7]; exact h0.kept⟩
theorem MInv.mstep {t : St} {k : Nat} (h : MInv t k) (c : UInt8) : MInv (mstep t c) (k + 1) := by
  unfold Qxb6616348aDoor.mstep
  split
  · split
    · exact h.put 32
    · exact h.mono (Nat.le_succ k)
  · exact h.put c
theorem MInv.eq6 {s t : St} {k : Nat} (h : MInv s k) (e : Eq6 s t) : MInv t k :=
  ⟨by rw [← e.out]; exact h.out, by rw [← e.spaces]; exact h.sp, by rw [← e.shifts]; exact h.sh, by rw [← e.shifts]; exact h.by1, by rw [← e.shifts]; exact h.by2, by rw [← e.runs]; exact h.runs, by rw [← e.runs]; exact h.kept⟩
theorem MInv.emit {t : St} {k : Nat} (h : MInv t k) (r : Bs) (hr : 1 ≤ r.length) : MInv (shut (emit t r)) (k + r.length) := by
  have h0 := h.mono (Nat.le_add_right k r.length)
  have hout := h.out
  have hsh := h.sh
  have hb1 := h.by1
  have hb2 := h.by2
  unfold Qxb6616348aDoor.emit
  by_cases h40 : r.length ≤ 40
  · rw [if_pos h40]
    refine ⟨by show (t.out ++ r).length ≤ _; rw [List.length_append]; omega, h0.sp, h0.sh, h0.by1, h0.by2, h0.runs, h0.kept⟩
  · rw [if_neg h40, longRun_eq]
    refine ⟨?_, h0.sp, ?_, ?_, ?_, ?_, ?_⟩
    · show (t.out ++ standIn (valOf t.keep (digs r)) (41 + min t.runs.length 3)).length ≤ _
      rw [List.length_append, standIn_len _ _ (by omega)]
      omega
    · show (t.shifts ++ [_]).length ≤ _
      rw [List.length_append]
      show t.shifts.length + 1 ≤ _
      omega
    · show _ ≤ lastBy (t.shifts ++ [_])
      rw [lastBy_snoc]
      show _ ≤ (r.length : Int) - ((41 + min t.runs.length 3 : Nat) : Int) + lastBy t.shifts
      omega
    · show lastBy (t.shifts ++ [_]) ≤ _
      rw [lastBy_snoc]
      show (r.length : Int) - ((41 + min t.runs.length 3 : Nat) : Int) + lastBy t.shifts ≤ _
      omega
    · show (if t.runs.length < 3 then t.runs ++ [_] else t.runs).length ≤ 3
      split
      · rw [List.length_append]; show t.runs.length + 1 ≤ 3; omega
      · exact h.runs
    · show ∀ x ∈ (if t.runs.length < 3 then t.runs ++ [valOf t.keep (digs r)] else t.runs), _
      intro x hx
      split at hx
      · rcases List.mem_append.1 hx with hx | hx
        · exact h0.kept x hx
        · have hx' : x = valOf t.keep (digs r) := by simpa using hx
          rw [hx']
          have h1 := valOf_kept t.keep (digs r)
          have h2 := digs_le r
          omega
      · exact h0.kept x hx

/-! ### the model in memory -/
def nilB : Row := ⟨5, 1, .slice none 0 0, 0, []⟩
def mcells (t : St) (vo vsh vr : Value) : List Value := [vo, .int .i64 t.spaces, .bool t.full, .bool t.inRun, vsh, vr]
def mrows (pm : Nat) (t : St) (vo vsh vr : Value) (d : Row) (G : List (Value × Run)) : List Row :=
  [⟨37, 6, ptr pm, 1, mcells t vo vsh vr⟩, rowB vo t.out, ⟨44, 2, vsh, t.shifts.length, shCells t.shifts⟩, ⟨46, 4, vr, G.length, runCells G⟩, d] ++ G.map (fun x => rowB x.1 x.2.kept)
structure MoM (w : World) (B pm : Nat) (t : St) (vo vsh vr : Value) (d : Row) (G : List (Value × Run)) : Prop where
  mem : Mem w B (mrows pm t vo vsh vr d G)
  runs : G.map (·.2) = t.runs
def MoV (w : World) (B pm : Nat) (t : St) : Prop := ∃ vo vsh vr G, MoM w B pm t vo vsh vr nilB G
section
variable {w w' : World} {B pm : Nat} {t : St} {vo vsh vr : Value} {d : Row} {G : List (Value × Run)}
theorem MoM.c (h : MoM w B pm t vo vsh vr d G) (j : Nat) (hj : j < 6) : w.cell? ⟨pm, j, none⟩ = (mcells t vo vsh vr)[j]? := h.mem.cell (i := 0) rfl j (by omega)
theorem MoM.f (h : MoM w B pm t vo vsh vr d G) (j : Nat) : w.frozen? ⟨pm, j, none⟩ = false := h.mem.frozen (i := 0) rfl j
theorem MoM.lt (h : MoM w B pm t vo vsh vr d G) : B ≤ pm := ((h.mem.own 0 _ rfl).lt pm rfl).1
theorem MoM.oout (h : MoM w B pm t vo vsh vr d G) : w.ownsRow B 5 1 vo t.out.length (cellsOf t.out) := h.mem.own 1 _ rfl
theorem MoM.oshifts (h : MoM w B pm t vo vsh vr d G) : w.ownsRow B 44 2 vsh t.shifts.length (shCells t.shifts) := h.mem.own 2 _ rfl
theorem MoM.oruns (h : MoM w B pm t vo vsh vr d G) : w.ownsRow B 46 4 vr G.length (runCells G) := h.mem.own 3 _ rfl
theorem MoM.od (h : MoM w B pm t vo vsh vr d G) : w.ownsRow B d.e d.sz d.v d.n d.xs := h.mem.own 4 _ rfl
theorem MoM.drop (h : MoM w B pm t vo vsh vr d G) : MoM w B pm t vo vsh vr nilB G :=
  ⟨h.mem.upd (i := 4) rfl nilB (World.ownsRow_nil _ _ _ _) (grownBy_refl w _) (.inr (.inr rfl)), h.runs⟩
theorem MoM.eq6 {s : St} (h : MoM w B pm s vo vsh vr d G) (e : Eq6 s t) : MoM w B pm t vo vsh vr d G := by
  refine ⟨?_, by rw [← e.runs]; exact h.runs⟩
  have := h.mem
  unfold mrows mcells at this ⊢
  rw [← e.out, ← e.spaces, ← e.full, ← e.inRun, ← e.shifts]
  exact this
theorem MoV.eq6 {s : St} (h : MoV w B pm s) (e : Eq6 s t) : MoV w B pm t := by
  obtain ⟨vo, vsh, vr, G, h⟩ := h
  exact ⟨vo, vsh, vr, G, h.eq6 e⟩
end

/-! ### zzIsDigit, zzIsMark -/
theorem isDigit_yes {c : UInt8} (h1 : (48 : Int) ≤ (c.toNat : Int)) (h2 : (c.toNat : Int) ≤ 57) : isDigit c = true := by unfold isDigit; simp; omega
theorem isDigit_lo {c : UInt8} (h1 : ¬ (48 : Int) ≤ (c.toNat : Int)) : isDigit c = false := by unfold isDigit; simp; omega
theorem isDigit_hi {c : UInt8} (h2 : ¬ (c.toNat : Int) ≤ 57) : isDigit c = false := by unfold isDigit; simp; omega
theorem digit16 (w : World) (c : UInt8) : Calls Tryd.prog 16 #[.int .u8 (c.toNat : Int)] w fun e w' => e = .returned (.bool (isDigit c)) ∧ w' = w := by
  by_cases h1 : (48 : Int) ≤ (c.toNat : Int)
  · by_cases h2 : (c.toNat : Int) ≤ 57
    · have e := isDigit_yes h1 h2
      rw [e]
      go_enter Tryd.func16, Tryd.ntmps16
      go_wp2
      go_ret
      exact ⟨rfl, rfl⟩
    · have e := isDigit_hi h2
      rw [e]
      go_enter Tryd.func16, Tryd.ntmps16
      go_wp2
      go_ret
      exact ⟨rfl, rfl⟩
  · have e := isDigit_lo h1
    rw [e]
    go_enter Tryd.func16, Tryd.ntmps16
    go_wp2
    go_ret
    exact ⟨rfl, rfl⟩
theorem byte_beq (c : UInt8) (k : Nat) (hk : k < 256) : (c == UInt8.ofNat k) = ((c.toNat : Int) == (k : Int)) := by
  cases h : (c == UInt8.ofNat k)
  · exact (byte_ne k hk h).symm
  · exact (byte_eq k hk h).symm
theorem isMark_int (c : UInt8) : isMark c = ((c.toNat : Int) == 101 || (c.toNat : Int) == 69 || (c.toNat : Int) == 100 || (c.toNat : Int) == 68) := by
  have h1 : (c == 101) = ((c.toNat : Int) == 101) := byte_beq c 101 (by omega)
  have h2 : (c == 69) = ((c.toNat : Int) == 69) := byte_beq c 69 (by omega)
  have h3 : (c == 100) = ((c.toNat : Int) == 100) := byte_beq c 100 (by omega)
  have h4 : (c == 68) = ((c.toNat : Int) == 68) := byte_beq c 68 (by omega)
  unfold isMark
  rw [h1, h2, h3, h4]
theorem mark18 (w : World) (c : UInt8) : Calls Tryd.prog 18 #[.int .u8 (c.toNat : Int)] w fun e w' => e = .returned (.bool (isMark c)) ∧ w' = w := by
  rw [isMark_int c]
  generalize (c.toNat : Int) = x
  go_enter Tryd.func18, Tryd.ntmps18
  go_wp2
  all_goals go_ret
  all_goals exact ⟨by simp_all, rfl⟩
end Go.Proofs.Qxb6616348aDoor
