import Derived.Test.Qxb6616348aDoorEm
import Derived.Test.Qxb6616348aDoorSta
set_option linter.unusedSimpArgs false
set_option linter.unusedVariables false
namespace Go.Proofs.Qxb6616348aDoor
open Go.RowKit

/-! ### plain: the model's steps -/
theorem model_nil (f : Nat) (t : St) : model f t [] = t := by cases f <;> rfl
theorem model_full (f : Nat) (t : St) (c : UInt8) (l : Bs) (h : t.full = true) : model (f + 1) t (c :: l) = model f (mstep t c) l := by
  rw [model, h]; rfl
theorem model_other (f : Nat) (t : St) (c : UInt8) (l : Bs) (h : isDigit c = false) : model (f + 1) t (c :: l) = model f (mstep t c) l := by
  rw [model, h]; simp
theorem model_stop (f : Nat) (t : St) (c : UInt8) (l : Bs) (hf : t.full = false) (h : isDigit c = true) (he : (((c :: l).drop (runLen (t.us && !t.ex) (c :: l))).isEmpty || ((t.us && !t.ex) && (c :: l).drop (runLen (t.us && !t.ex) (c :: l)) == [95])) = true) : model (f + 1) t (c :: l) = { t with inRun := true } := by
  rw [model, h, hf]
  simp only [Bool.not_true, Bool.or_self, Bool.false_eq_true, if_false]
  rw [if_pos he]
theorem model_run (f : Nat) (t : St) (c : UInt8) (l : Bs) (hf : t.full = false) (h : isDigit c = true) (he : (((c :: l).drop (runLen (t.us && !t.ex) (c :: l))).isEmpty || ((t.us && !t.ex) && (c :: l).drop (runLen (t.us && !t.ex) (c :: l)) == [95])) = false) : model (f + 1) t (c :: l) = model f (close (ran t ((c :: l).take (runLen (t.us && !t.ex) (c :: l))))) ((c :: l).drop (runLen (t.us && !t.ex) (c :: l))) := by
  rw [model, h, hf]
  simp only [Bool.not_true, Bool.or_self, Bool.false_eq_true, if_false]
  rw [if_neg (by rw [he]; simp)]
theorem put_eq6_full (t : St) (h : t.full = true) (hs : t.spaces < 3) : Eq6 { t with out := t.out ++ [32], spaces := t.spaces + 1 } (put t 32) := by
  obtain ⟨e1, e2, e3, e4, e5, e6, e7, e8, e9, e10, e11⟩ := put_keep t 32
  obtain ⟨a1, a2, a3⟩ := put_co t 32
  have hc : ¬ (t.full && ((32 : UInt8) != 32 || decide (3 ≤ t.spaces))) = true := by simp; omega
  rw [if_neg hc] at a1 a2 a3
  exact ⟨a1.symm, by rw [a2]; simp; omega, by rw [a3, h]; rfl, e6.symm, e8.symm, e7.symm⟩
theorem put_eq6 (t : St) (c : UInt8) (sp : Nat) (h : t.full = false) (hs : sp = if c == 32 then min (t.spaces + 1) 3 else t.spaces) : Eq6 { t with out := t.out ++ [c], spaces := sp, full := decide (512 ≤ t.out.length + 1) } (put t c) := by
  obtain ⟨e1, e2, e3, e4, e5, e6, e7, e8, e9, e10, e11⟩ := put_keep t c
  obtain ⟨a1, a2, a3⟩ := put_co t c
  have hc : ¬ (t.full && (c != 32 || decide (3 ≤ t.spaces))) = true := by rw [h]; simp
  rw [if_neg hc] at a1 a2 a3
  exact ⟨a1.symm, by rw [a2]; exact hs, by rw [a3, h]; rfl, e6.symm, e8.symm, e7.symm⟩
theorem mstep_keep2 (t : St) (c : UInt8) : (mstep t c).us = t.us ∧ (mstep t c).inRun = t.inRun ∧ (mstep t c).keep = t.keep := by
  unfold mstep
  split
  · split
    · exact ⟨(put_keep t 32).2.2.2.2.2.2.2.2.2.2, (put_keep t 32).2.2.2.2.2.1, (put_keep t 32).1⟩
    · exact ⟨rfl, rfl, rfl⟩
  · exact ⟨(put_keep t c).2.2.2.2.2.2.2.2.2.2, (put_keep t c).2.2.2.2.2.1, (put_keep t c).1⟩
theorem drop_at (text : Bs) (k : Nat) (h : k < text.length) : text.drop k = text.getD k 0 :: text.drop (k + 1) := by
  rw [List.drop_eq_getElem_cons h]
  simp [List.getD, h]
theorem runLen_dig (j : Bool) (c : UInt8) (l : Bs) (h : isDigit c = true) : runLen j (c :: l) = 1 + runLen j l := by rw [runLen, if_pos h]
theorem runLen_und (j : Bool) (c : UInt8) (l : Bs) (h : isDigit c = false) (h2 : (j && c == 95 && (l.head?.map isDigit == some true)) = true) : runLen j (c :: l) = 1 + runLen j l := by rw [runLen, if_neg (by rw [h]; simp), if_pos h2]
theorem runLen_no (j : Bool) (c : UInt8) (l : Bs) (h : isDigit c = false) (h2 : (j && c == 95 && (l.head?.map isDigit == some true)) = false) : runLen j (c :: l) = 0 := by rw [runLen, if_neg (by rw [h]; simp), if_neg (by rw [h2]; simp)]

/-- the model's loop, k bytes read -/
structure Lm (w0 wr : World) (B pm : Nat) (text : Bs) (us : Bool) (keep : Nat) (T : St) (k : Nat) (t : St) (x y : Bool) : Prop where
  mem : MoV wr B pm t
  bel : Below B w0 wr
  inv : MInv t k
  eqx : t.full = false → x = t.ex ∧ y = t.mark
  ir : t.inRun = false
  us : t.us = us
  keep : t.keep = keep
  mod : ∃ f, (text.drop k).length ≤ f ∧ model f t (text.drop k) = T
/-- what the model hands back -/
structure MoR (w : World) (t : St) (vo vsh vr : Value) (G : List (Value × Run)) : Prop where
  out : Rd w vo t.out
  shifts : w.ownsRow 0 44 2 vsh t.shifts.length (shCells t.shifts)
  runs : w.ownsRow 0 46 4 vr t.runs.length (runCells G)
  rds : ∀ x ∈ G, Rd w x.1 x.2.kept
  eq : G.map (·.2) = t.runs
theorem Mem.cons {w : World} {A B : Nat} {r0 : Row} {R : List Row} (h0 : w.ownsRow A r0.e r0.sz r0.v r0.n r0.xs) (hlt : ∀ k, r0.v.ownBlock = some k → k < B) (hAB : A ≤ B) (h : Mem w B R) : Mem w A (r0 :: R) := by
  have key : ∀ (j : Nat) (s : Row), R[j]? = some s → apart s.v r0.v := by
    intro j s hs
    cases hs' : s.v.ownBlock with
    | none => exact .inl hs'
    | some k =>
      refine .inr ?_
      rw [hs']
      intro e
      have h1 := ((h.own j s hs).lt k hs').1
      have h2 := hlt k e.symm
      omega
  refine ⟨?_, ?_, Nat.le_trans hAB h.size⟩
  · intro i r hr
    match i, hr with
    | 0, hr => injection hr with hr; subst hr; exact h0
    | i + 1, hr => exact own_mono (h.own i r hr) hAB
  · intro i j r s hij hr hs
    match i, j, hr, hs with
    | 0, 0, _, _ => exact absurd rfl hij
    | 0, j + 1, hr, hs => injection hr with hr; subst hr; exact (key j s hs).symm
    | i + 1, 0, hr, hs => injection hs with hs; subst hs; exact key i r hr
    | i + 1, j + 1, hr, hs => exact h.far i j r s (by omega) hr hs
def z6 : List Value := [.slice none 0 0, .int .i64 0, .bool false, .bool false, .slice none 0 0, .slice none 0 0]
theorem size37 : (Tryd.prog.info? 37).map (·.size) = some 6 := by kernel_rfl
theorem mcells_one (t : St) (a1 a2 a3 : Option Addr) (n1 n2 n3 c1 c2 c3 : Nat) : ∀ v ∈ mcells t (.slice a1 n1 c1) (.slice a2 n2 c2) (.slice a3 n3 c3), v.oneCell' = true := by
  intro u hu
  simp only [mcells, List.mem_cons, List.not_mem_nil, or_false] at hu
  rcases hu with rfl | rfl | rfl | rfl | rfl | rfl <;> rfl
/-- the two variables just made -/
theorem mo_start (w : World) (us : Bool) (keep : Nat) :
    MoV ((w.alloc (.cells z6.toArray 37)).alloc (.cells z6.toArray 37)) (w.heap.size + 1) (w.heap.size + 1) (init us keep) ∧
    ((w.alloc (.cells z6.toArray 37)).alloc (.cells z6.toArray 37)).ownsRow w.heap.size 37 6 (ptr w.heap.size) 1 z6 ∧
    Below w.heap.size w ((w.alloc (.cells z6.toArray 37)).alloc (.cells z6.toArray 37)) := by
  have hs : (w.alloc (.cells z6.toArray 37)).heap.size = w.heap.size + 1 := size_alloc _ _
  have m0 : Mem (w.alloc (.cells z6.toArray 37)) (w.heap.size + 1) [] := ⟨fun i r hr => by simp at hr, fun i j r s _ hr => by simp at hr, by rw [hs]; exact Nat.le_refl _⟩
  have o1 := World.ownsRow_lit (base := w.heap.size + 1) (e := 37) (size := 6) (w.alloc (.cells z6.toArray 37)) z6.toArray 1 (by rw [hs]; exact Nat.le_refl _) (by unfold maxLen; omega) rfl
  rw [hs] at o1
  have m1 := m0.add ⟨37, 6, ptr (w.heap.size + 1), 1, z6⟩ o1 (World.grownBy_alloc _ _ none) (.inl (by rw [hs]; rfl))
  have o0 := World.ownsRow_lit (base := w.heap.size) (e := 37) (size := 6) w z6.toArray 1 (Nat.le_refl _) (by unfold maxLen; omega) rfl
  refine ⟨⟨.slice none 0 0, .slice none 0 0, .slice none 0 0, [], ?_, rfl⟩, ?_, ((Below.refl _ _).alloc (Nat.le_refl _) _).alloc (by rw [hs]; omega) _⟩
  · have m2 := (((m1.addNil 5 1).addNil 44 2).addNil 46 4).addNil 5 1
    exact m2
  · exact o0.kept (World.grownBy_alloc _ _ none) (.inr (by simp [Value.ownBlock]))

theorem mo_end {w W0 wr : World} {T : St} {vo vsh vr : Value} {G : List (Value × Run)} (ho : W0.ownsRow w.heap.size 37 6 (ptr w.heap.size) 1 z6) (h : MoM wr (w.heap.size + 1) (w.heap.size + 1) T vo vsh vr nilB G) (hb : Below (w.heap.size + 1) W0 wr) :
    Mem wr w.heap.size (⟨37, 6, ptr w.heap.size, 1, z6⟩ :: mrows (w.heap.size + 1) T vo vsh vr nilB G) := by
  have ho' : wr.ownsRow w.heap.size 37 6 (ptr w.heap.size) 1 z6 := by
    refine ⟨ho.1, ho.2.imp id fun ⟨g, cap, cur, e1, e2, e3, e4⟩ => ⟨g, cap, cur, e1, e2, ?_, e4⟩⟩
    have e1' : ptr w.heap.size = .slice (some ⟨g, 0, none⟩) 1 cap := e1
    unfold ptr at e1'
    injection e1' with e5 _ _
    injection e5 with e5
    injection e5 with e5 _ _
    rw [hb.block g (by omega)]
    exact e3
  refine Mem.cons ho' ?_ (Nat.le_succ _) h.mem
  intro k hk
  have hk' : some w.heap.size = some k := hk
  injection hk' with hk'
  omega
theorem mo_fin {w W : World} {pm : Nat} {T : St} {a1 a2 a3 : Option Addr} {c1 c2 c3 : Nat} {G : List (Value × Run)} (hM : Mem W w.heap.size (⟨37, 6, ptr w.heap.size, 1, z6⟩ :: mrows pm T (.slice a1 T.out.length c1) (.slice a2 T.shifts.length c2) (.slice a3 G.length c3) nilB G)) (hG : G.map (·.2) = T.runs) :
    Mem (W.setCells w.heap.size 0 (mcells T (.slice a1 T.out.length c1) (.slice a2 T.shifts.length c2) (.slice a3 G.length c3))) w.heap.size (⟨37, 6, ptr w.heap.size, 1, (mcells T (.slice a1 T.out.length c1) (.slice a2 T.shifts.length c2) (.slice a3 G.length c3))⟩ :: mrows pm T (.slice a1 T.out.length c1) (.slice a2 T.shifts.length c2) (.slice a3 G.length c3) nilB G) ∧ MoR (W.setCells w.heap.size 0 (mcells T (.slice a1 T.out.length c1) (.slice a2 T.shifts.length c2) (.slice a3 G.length c3))) T (.slice a1 T.out.length c1) (.slice a2 T.shifts.length c2) (.slice a3 G.length c3) G := by
  have m : Mem (W.setCells w.heap.size 0 (mcells T (.slice a1 T.out.length c1) (.slice a2 T.shifts.length c2) (.slice a3 G.length c3))) w.heap.size (⟨37, 6, ptr w.heap.size, 1, (mcells T (.slice a1 T.out.length c1) (.slice a2 T.shifts.length c2) (.slice a3 G.length c3))⟩ :: mrows pm T (.slice a1 T.out.length c1) (.slice a2 T.shifts.length c2) (.slice a3 G.length c3) nilB G) := hM.setCells (i := 0) rfl 0 (mcells T (.slice a1 T.out.length c1) (.slice a2 T.shifts.length c2) (.slice a3 G.length c3))
  refine ⟨m, ⟨own_rd (m.own 2 _ rfl), own_mono (m.own 3 _ rfl) (Nat.zero_le _), ?_, ?_, hG⟩⟩
  · have := own_mono (m.own 4 _ rfl) (Nat.zero_le _)
    have hl : G.length = T.runs.length := by have := congrArg List.length hG; simpa using this
    rw [← hl]
    exact this
  · intro x hx
    obtain ⟨i, hi', hxi⟩ := List.getElem_of_mem hx
    refine own_rd (B := w.heap.size) (m.own (6 + i) (rowB x.1 x.2.kept) ?_)
    have h8 : (G.map (fun x => rowB x.1 x.2.kept))[i]? = some (rowB x.1 x.2.kept) := by rw [List.getElem?_map, List.getElem?_eq_getElem hi', hxi]; rfl
    rw [← h8, show 6 + i = (5 + i) + 1 by omega, List.getElem?_cons_succ]
    unfold mrows
    rw [List.getElem?_append_right (by show 5 ≤ 5 + i; omega)]
    show (G.map (fun x => rowB x.1 x.2.kept))[5 + i - 5]? = _
    rw [Nat.add_sub_cancel_left]

theorem mo_put {w2 : World} {B pm : Nat} {t : St} {c : UInt8} {vo vsh vr : Value} {a2 : Option Addr} {c2 : Nat} {G : List (Value × Run)} (hM2 : Mem w2 B ((mrows pm t vo vsh vr nilB G).set 1 ⟨5, 1, .slice a2 (t.out.length + 1) c2, t.out.length + 1, cellsOf t.out ++ [.int .u8 (c.toNat : Int)]⟩)) (hr : G.map (·.2) = t.runs) (hf : t.full = false) (X : Bool) (hX : X = decide (512 ≤ t.out.length + 1)) (hs : t.spaces = if c == 32 then min (t.spaces + 1) 3 else t.spaces) :
    MoV ((w2.setCell ⟨pm, 0, none⟩ (.slice a2 (t.out.length + 1) c2)).setCell ⟨pm, 2, none⟩ (.bool X)) B pm (put t c) := by
  subst hX
  refine MoV.eq6 (s := { t with out := t.out ++ [c], spaces := t.spaces, full := decide (512 ≤ t.out.length + 1) }) ⟨.slice a2 (t.out.length + 1) c2, vsh, vr, G, ?_, hr⟩ (put_eq6 t c t.spaces hf hs)
  have m := (hM2.setCell (i := 0) rfl 0 (.slice a2 (t.out.length + 1) c2)).setCell (i := 0) rfl 2 (.bool (decide (512 ≤ t.out.length + 1)))
  have e2 : (t.out ++ [c]).length = t.out.length + 1 := by simp
  simp only [mrows, rowB, e2, cellsOf_append]
  exact m
theorem mo_put_sp {w2 : World} {B pm : Nat} {t : St} {c : UInt8} {vo vsh vr : Value} {a2 : Option Addr} {c2 : Nat} {G : List (Value × Run)} (hM2 : Mem w2 B ((mrows pm t vo vsh vr nilB G).set 1 ⟨5, 1, .slice a2 (t.out.length + 1) c2, t.out.length + 1, cellsOf t.out ++ [.int .u8 (c.toNat : Int)]⟩)) (hr : G.map (·.2) = t.runs) (hf : t.full = false) (X : Bool) (hX : X = decide (512 ≤ t.out.length + 1)) (Y : Int) (hY : Y = ((t.spaces + 1 : Nat) : Int)) (hs : t.spaces + 1 = if c == 32 then min (t.spaces + 1) 3 else t.spaces) :
    MoV (((w2.setCell ⟨pm, 0, none⟩ (.slice a2 (t.out.length + 1) c2)).setCell ⟨pm, 1, none⟩ (.int .i64 Y)).setCell ⟨pm, 2, none⟩ (.bool X)) B pm (put t c) := by
  subst hX hY
  refine MoV.eq6 (s := { t with out := t.out ++ [c], spaces := t.spaces + 1, full := decide (512 ≤ t.out.length + 1) }) ⟨.slice a2 (t.out.length + 1) c2, vsh, vr, G, ?_, hr⟩ (put_eq6 t c (t.spaces + 1) hf hs)
  have m := ((hM2.setCell (i := 0) rfl 0 (.slice a2 (t.out.length + 1) c2)).setCell (i := 0) rfl 1 (.int .i64 ((t.spaces + 1 : Nat) : Int))).setCell (i := 0) rfl 2 (.bool (decide (512 ≤ t.out.length + 1)))
  have e2 : (t.out ++ [c]).length = t.out.length + 1 := by simp
  simp only [mrows, rowB, e2, cellsOf_append]
  exact m
theorem SlB.cells {w : World} {B b off n c : Nat} {l : Bs} (h : SlB w B (.slice (some ⟨b, off, none⟩) n c) l) : ∀ i, i < l.length → w.cell? ⟨b, off + i, none⟩ = some (.int .u8 ((l.getD i 0).toNat : Int)) := by
  intro i hi
  obtain ⟨a', c', hv, hc, ⟨rfl, h0⟩ | ⟨b', off', ha, _, hcell⟩⟩ := h
  · omega
  · injection hv with e1 _ _
    rw [ha] at e1
    injection e1 with e1
    injection e1 with e1 e2 _
    subst e1 e2
    exact hcell i hi

set_option maxHeartbeats 16000000 in
set_option maxRecDepth 100000 in
theorem model_in (w : World) (v : Value) (text : Bs) (us : Bool) (keep : Nat) (T : St) (HT : Hid (model text.length (init us keep) text = T)) (hv : SlB w w.heap.size v text) (hl : text.length ≤ 1048576) (hkp : (keep : Int) ≤ 9223372036854775807) :
    Calls Tryd.prog 9 #[v, .bool us, .int .i64 keep] w fun e w' => ∃ vo vsh vr G, e = .returned (.agg #[vo, .int .i64 T.spaces, .bool T.full, .bool T.inRun, vsh, vr]) ∧ MoR w' T vo vsh vr G ∧ Below w.heap.size w w' := by
  obtain ⟨av, cv, rfl, hcv⟩ := hv.len
  have HV : Hid (SlB w w.heap.size (.slice av text.length cv) text) := hv
  clear hv
  obtain ⟨i0, hi, hz0, hz1, hz2⟩ := info_parts info5
  have HST : Hid (MoV ((w.alloc (.cells #[.slice none 0 0, .int .i64 0, .bool false, .bool false, .slice none 0 0, .slice none 0 0] 37)).alloc (.cells #[.slice none 0 0, .int .i64 0, .bool false, .bool false, .slice none 0 0, .slice none 0 0] 37)) (w.heap.size + 1) (w.heap.size + 1) (init us keep) ∧ ((w.alloc (.cells #[.slice none 0 0, .int .i64 0, .bool false, .bool false, .slice none 0 0, .slice none 0 0] 37)).alloc (.cells #[.slice none 0 0, .int .i64 0, .bool false, .bool false, .slice none 0 0, .slice none 0 0] 37)).ownsRow w.heap.size 37 6 (ptr w.heap.size) 1 z6 ∧ Below w.heap.size w ((w.alloc (.cells #[.slice none 0 0, .int .i64 0, .bool false, .bool false, .slice none 0 0, .slice none 0 0] 37)).alloc (.cells #[.slice none 0 0, .int .i64 0, .bool false, .bool false, .slice none 0 0, .slice none 0 0] 37))) := mo_start w us keep
  go_enter Tryd.func9, Tryd.ntmps9
  go_upto_block 0 with fail
  generalize hW0 : ((w.alloc (.cells #[.slice none 0 0, .int .i64 0, .bool false, .bool false, .slice none 0 0, .slice none 0 0] 37)).alloc (.cells #[.slice none 0 0, .int .i64 0, .bool false, .bool false, .slice none 0 0, .slice none 0 0] 37)) = W0 at *
  clear hW0
  have HO0 : Hid (W0.ownsRow w.heap.size 37 6 (ptr w.heap.size) 1 z6) := HST.out.2.1
  have HB0 : Hid (Below w.heap.size w W0) := HST.out.2.2
  have HV0 : Hid (SlB W0 (w.heap.size + 1) (.slice av text.length cv) text) := (HV.out.below HB0.out).mono (Nat.le_succ _)
  have HL0 : Hid (Lm W0 W0 (w.heap.size + 1) (w.heap.size + 1) text us keep T 0 (init us keep) false false) :=
    ⟨HST.out.1, Below.refl _ _, MInv.init us keep, fun _ => ⟨rfl, rfl⟩, rfl, rfl, rfl, text.length, by simp, HT.out⟩
  clear HST HV HT
  go_wp2_with fail
  go_loopw [8, 9, 10] (fun ex mk i wr => ∃ (k : Nat) (t : St) (x y : Bool), ex = .bool x ∧ mk = .bool y ∧ i = .int .i64 k ∧ k ≤ text.length ∧ Hid (Lm W0 wr (w.heap.size + 1) (w.heap.size + 1) text us keep T k t x y)) (fun _ _ i _ => text.length - (intOf i).toNat)
  case atStart => exact ⟨0, init us keep, false, false, rfl, rfl, rfl, Nat.zero_le _, HL0.out⟩
  case round =>
    obtain ⟨k, t, x, y, rfl, rfl, rfl, hkl, HR⟩ := hrel
    clear HL0
    by_cases hlt : (k : Int) < (text.length : Int)
    · obtain ⟨b, off, hav, hcell⟩ := ((HV0.out.below HR.out.bel).rd).cell k (by omega)
      subst hav
      have HDR : Hid _ := drop_at text k (by omega)
      obtain ⟨c, hc⟩ : ∃ c, c = text.getD k 0 := ⟨_, rfl⟩
      rw [← hc] at hcell HDR
      clear hc
      have hInv := HR.out.inv
      have ho1 : t.out.length ≤ 4194304 := by have := hInv.out; omega
      have hsp := hInv.sp
      obtain ⟨vo, vsh, vr, G, hM⟩ := HR.out.mem
      obtain ⟨ao, co, rfl, hco⟩ := row_form hM.oout
      have HM : Hid (MoM wr (w.heap.size + 1) (w.heap.size + 1) t (.slice ao t.out.length co) vsh vr nilB G) := hM
      have c0 := hM.c 0 (by omega)
      have c1 := hM.c 1 (by omega)
      have c2 := hM.c 2 (by omega)
      have f1 := hM.f 1
      have f2 := hM.f 2
      simp only [mcells, List.getElem?_cons_succ, List.getElem?_cons_zero] at c0 c1 c2
      clear hM hInv
      cases hf : t.full
      · have HX : Hid (x = t.ex ∧ y = t.mark) := HR.out.eqx hf
        rw [hf] at c2
        cases hd : isDigit c
        · have HMD : Hid (∃ f, (text.drop (k + 1)).length ≤ f ∧ model f (mstep t c) (text.drop (k + 1)) = T) := by
            obtain ⟨f, h1, h2⟩ := HR.out.mod
            rw [HDR.out] at h1 h2
            cases f with
            | zero => simp at h1
            | succ f =>
              rw [model_other f t c _ hd] at h2
              exact ⟨f, by simp at h1 ⊢; omega, h2⟩
          have HE : Hid (mstep t c = put t c) := by show mstep t c = put t c; unfold mstep; rw [hf]; simp
          have HD16 : Hid (∀ W, Calls Tryd.prog 16 #[.int .u8 (c.toNat : Int)] W fun e w' => e = .returned (.bool false) ∧ w' = W) := by
            show ∀ W, _
            intro W
            have := digit16 W c
            rw [hd] at this
            exact this
          obtain ⟨im, him⟩ : ∃ im, im = isMark c := ⟨_, rfl⟩
          have HIM : Hid (im = isMark c) := him
          have HD18 : Hid (∀ W, Calls Tryd.prog 18 #[.int .u8 (c.toNat : Int)] W fun e w' => e = .returned (.bool im) ∧ w' = W) := by
            show ∀ W, _
            intro W
            rw [him]
            exact mark18 W c
          clear him
          go_upto_if 122 with (first | (go_at_call 16; refine (HD16.out _).mono ?_; rintro e w2 ⟨rfl, hw2⟩; obtain rfl := hw2.symm) | (go_at_call 18; refine (HD18.out _).mono ?_; rintro e w2 ⟨rfl, hw2⟩; obtain rfl := hw2.symm))
          go_cut [8, 9] from 14 to 155 (fun e m wx => e = .bool (marks t c).ex ∧ m = .bool (marks t c).mark ∧ Hid (wx = wr))
          case first => as_aux_lemma =>
            cases im
            · have hm : isMark c = false := HIM.out.symm
              by_cases h43 : (c == 43) = true
              · have b43 : ((c.toNat : Int) == 43) = true := byte_eq 43 (by omega) h43
                have hsg : isSign c = true := by unfold isSign; rw [h43]; rfl
                cases y
                · have HMK : Hid _ := marks_no (s := t) hm (.inr HX.out.2.symm)
                  go_wp2_with fail
                  go_meet
                  case rel => rw [HMK.out]; exact ⟨rfl, rfl, rfl⟩
                · have HMK : Hid _ := marks_sign (s := t) hm hsg HX.out.2.symm
                  go_wp2_with fail
                  go_meet
                  case rel => rw [HMK.out, HX.out.1]; exact ⟨rfl, rfl, rfl⟩
              · have b43 : ((c.toNat : Int) == 43) = false := byte_ne 43 (by omega) (by simpa using h43)
                by_cases h45 : (c == 45) = true
                · have b45 : ((c.toNat : Int) == 45) = true := byte_eq 45 (by omega) h45
                  have hsg : isSign c = true := by unfold isSign; rw [h45]; simp
                  cases y
                  · have HMK : Hid _ := marks_no (s := t) hm (.inr HX.out.2.symm)
                    go_wp2_with fail
                    go_meet
                    case rel => rw [HMK.out]; exact ⟨rfl, rfl, rfl⟩
                  · have HMK : Hid _ := marks_sign (s := t) hm hsg HX.out.2.symm
                    go_wp2_with fail
                    go_meet
                    case rel => rw [HMK.out, HX.out.1]; exact ⟨rfl, rfl, rfl⟩
                · have b45 : ((c.toNat : Int) == 45) = false := byte_ne 45 (by omega) (by simpa using h45)
                  have hsg : isSign c = false := by unfold isSign; rw [show (c == 43) = false by simpa using h43, show (c == 45) = false by simpa using h45]; rfl
                  have HMK : Hid _ := marks_no (s := t) hm (.inl hsg)
                  go_wp2_with fail
                  go_meet
                  case rel => rw [HMK.out]; exact ⟨rfl, rfl, rfl⟩
            · have HMK : Hid _ := marks_yes (s := t) HIM.out.symm
              go_wp2_with fail
              go_meet
              case rel => rw [HMK.out]; exact ⟨rfl, rfl, rfl⟩
          case rest => as_aux_lemma =>
            obtain ⟨rfl, rfl, HWc⟩ := hcut
            have hwc := HWc.out.symm
            subst hwc
            by_cases h32 : (c == 32) = true
            · have b32 : ((c.toNat : Int) == 32) = true := byte_eq 32 (by omega) h32
              by_cases hs3 : (t.spaces : Int) < 3
              · have HSP : Hid (t.spaces + 1 = if c == 32 then min (t.spaces + 1) 3 else t.spaces) := by show _ = _; rw [h32]; simp; omega
                go_wp2_with (at_builtin; refine wpList_append_mem rfl (.tmp 133) (.tmp 135) 22 rfl (HM.out.mem.grow (World.grownBy_alloc _ _ none)) 1 rfl i0 (.int .u8 0) 1 Tryd.underlying22 hi hz0 hz1 hz2 rfl (by decide) (.slice (some ⟨wr.heap.size, 0, none⟩) 1 1) 1 [.int .u8 (c.toNat : Int)] rfl rfl (src_one wr _ rfl 5) (by unfold maxLen; omega) (by omega) ?_; intro a2 c2' w2 hM2 hB2; have k0 := hM2.cell (i := 0) rfl 0 (by omega); have q0 := hM2.frozen (i := 0) rfl 0; have k1 : w2.cell? ⟨w.heap.size + 1, 1, none⟩ = some (.int .i64 t.spaces) := hM2.cell (i := 0) rfl 1 (by omega); have q1 := hM2.frozen (i := 0) rfl 1; have k2 : w2.cell? ⟨w.heap.size + 1, 2, none⟩ = some (.bool t.full) := hM2.cell (i := 0) rfl 2 (by omega); have q2 := hM2.frozen (i := 0) rfl 2; have HM2 : Hid _ := hM2; have HB2 : Hid _ := hB2; clear hM2 hB2)
                refine ⟨⟨k + 1, mstep t c, (marks t c).ex, (marks t c).mark, rfl, rfl, by simp, by omega, ?_⟩, by simp [intOf]; omega⟩
                obtain ⟨g1, g2, g3⟩ := mstep_keep2 t c
                refine ⟨?_, (((((HR.out.bel.alloc HM.out.mem.size _).trans HB2.out).setCell (Nat.le_refl _) _).setCell (Nat.le_refl _) _).setCell (Nat.le_refl _) _), HR.out.inv.mstep c, ?_, by rw [g2]; exact HR.out.ir, by rw [g1]; exact HR.out.us, by rw [g3]; exact HR.out.keep, HMD.out⟩
                · rw [HE.out]
                  exact mo_put_sp HM2.out HM.out.runs hf _ (by first | rfl | (rw [decide_eq_decide]; omega)) _ (by omega) HSP.out
                · intro _
                  rw [HE.out, (put_ex t c).1, (put_ex t c).2]
                  exact ⟨rfl, rfl⟩
              · have HSP : Hid (t.spaces = if c == 32 then min (t.spaces + 1) 3 else t.spaces) := by show _ = _; rw [h32]; simp; omega
                go_wp2_with (at_builtin; refine wpList_append_mem rfl (.tmp 133) (.tmp 135) 22 rfl (HM.out.mem.grow (World.grownBy_alloc _ _ none)) 1 rfl i0 (.int .u8 0) 1 Tryd.underlying22 hi hz0 hz1 hz2 rfl (by decide) (.slice (some ⟨wr.heap.size, 0, none⟩) 1 1) 1 [.int .u8 (c.toNat : Int)] rfl rfl (src_one wr _ rfl 5) (by unfold maxLen; omega) (by omega) ?_; intro a2 c2' w2 hM2 hB2; have k0 := hM2.cell (i := 0) rfl 0 (by omega); have q0 := hM2.frozen (i := 0) rfl 0; have k1 : w2.cell? ⟨w.heap.size + 1, 1, none⟩ = some (.int .i64 t.spaces) := hM2.cell (i := 0) rfl 1 (by omega); have q1 := hM2.frozen (i := 0) rfl 1; have k2 : w2.cell? ⟨w.heap.size + 1, 2, none⟩ = some (.bool t.full) := hM2.cell (i := 0) rfl 2 (by omega); have q2 := hM2.frozen (i := 0) rfl 2; have HM2 : Hid _ := hM2; have HB2 : Hid _ := hB2; clear hM2 hB2)
                refine ⟨⟨k + 1, mstep t c, (marks t c).ex, (marks t c).mark, rfl, rfl, by simp, by omega, ?_⟩, by simp [intOf]; omega⟩
                obtain ⟨g1, g2, g3⟩ := mstep_keep2 t c
                refine ⟨?_, ((((HR.out.bel.alloc HM.out.mem.size _).trans HB2.out).setCell (Nat.le_refl _) _).setCell (Nat.le_refl _) _), HR.out.inv.mstep c, ?_, by rw [g2]; exact HR.out.ir, by rw [g1]; exact HR.out.us, by rw [g3]; exact HR.out.keep, HMD.out⟩
                · rw [HE.out]
                  exact mo_put HM2.out HM.out.runs hf _ (by first | rfl | (rw [decide_eq_decide]; omega)) HSP.out
                · intro _
                  rw [HE.out, (put_ex t c).1, (put_ex t c).2]
                  exact ⟨rfl, rfl⟩
            · have b32 : ((c.toNat : Int) == 32) = false := byte_ne 32 (by omega) (by simpa using h32)
              have HSP : Hid (t.spaces = if c == 32 then min (t.spaces + 1) 3 else t.spaces) := by show _ = _; rw [if_neg h32]
              go_wp2_with (at_builtin; refine wpList_append_mem rfl (.tmp 133) (.tmp 135) 22 rfl (HM.out.mem.grow (World.grownBy_alloc _ _ none)) 1 rfl i0 (.int .u8 0) 1 Tryd.underlying22 hi hz0 hz1 hz2 rfl (by decide) (.slice (some ⟨wr.heap.size, 0, none⟩) 1 1) 1 [.int .u8 (c.toNat : Int)] rfl rfl (src_one wr _ rfl 5) (by unfold maxLen; omega) (by omega) ?_; intro a2 c2' w2 hM2 hB2; have k0 := hM2.cell (i := 0) rfl 0 (by omega); have q0 := hM2.frozen (i := 0) rfl 0; have k1 : w2.cell? ⟨w.heap.size + 1, 1, none⟩ = some (.int .i64 t.spaces) := hM2.cell (i := 0) rfl 1 (by omega); have q1 := hM2.frozen (i := 0) rfl 1; have k2 : w2.cell? ⟨w.heap.size + 1, 2, none⟩ = some (.bool t.full) := hM2.cell (i := 0) rfl 2 (by omega); have q2 := hM2.frozen (i := 0) rfl 2; have HM2 : Hid _ := hM2; have HB2 : Hid _ := hB2; clear hM2 hB2)
              refine ⟨⟨k + 1, mstep t c, (marks t c).ex, (marks t c).mark, rfl, rfl, by simp, by omega, ?_⟩, by simp [intOf]; omega⟩
              obtain ⟨g1, g2, g3⟩ := mstep_keep2 t c
              refine ⟨?_, ((((HR.out.bel.alloc HM.out.mem.size _).trans HB2.out).setCell (Nat.le_refl _) _).setCell (Nat.le_refl _) _), HR.out.inv.mstep c, ?_, by rw [g2]; exact HR.out.ir, by rw [g1]; exact HR.out.us, by rw [g3]; exact HR.out.keep, HMD.out⟩
              · rw [HE.out]
                exact mo_put HM2.out HM.out.runs hf _ (by first | rfl | (rw [decide_eq_decide]; omega)) HSP.out
              · intro _
                rw [HE.out, (put_ex t c).1, (put_ex t c).2]
                exact ⟨rfl, rfl⟩
        · have HD16 : Hid (∀ W, Calls Tryd.prog 16 #[.int .u8 (c.toNat : Int)] W fun e w' => e = .returned (.bool true) ∧ w' = W) := by
            show ∀ W, _
            intro W
            have := digit16 W c
            rw [hd] at this
            exact this
          have HCL : Hid (∀ i, i < text.length → wr.cell? ⟨b, off + i, none⟩ = some (.int .u8 ((text.getD i 0).toNat : Int))) := (HV0.out.below HR.out.bel).cells
          go_upto_region 13 with (go_at_call 16; refine (HD16.out _).mono ?_; rintro e w2 ⟨rfl, hw2⟩; obtain rfl := hw2.symm)
          go_cut [12] from 14 to 155 (fun jv wx => jv = .bool (us && !x) ∧ Hid (wx = wr))
          case first =>
            cases us
            · go_wp2_with fail
              go_meet
              case rel => exact ⟨rfl, rfl⟩
            · cases x
              · go_wp2_with fail
                go_meet
                case rel => exact ⟨rfl, rfl⟩
              · go_wp2_with fail
                go_meet
                case rel => exact ⟨rfl, rfl⟩
          case rest =>
            obtain ⟨rfl, HWc⟩ := hcut
            have hwc := HWc.out.symm
            subst hwc
            obtain ⟨j, hj⟩ : ∃ j, j = (us && !x) := ⟨_, rfl⟩
            rw [← hj]
            have HJ : Hid (j = (t.us && !t.ex)) := by show j = _; rw [hj, HR.out.us, HX.out.1]
            clear hj
            obtain ⟨p, hp⟩ : ∃ p, p = k + runLen j (text.drop k) := ⟨_, rfl⟩
            have hpk : k < p ∧ p ≤ text.length := by
              have h1 := runLen_le j (text.drop k)
              rw [List.length_drop] at h1
              have h2 : 1 ≤ runLen j (text.drop k) := by rw [HDR.out]; exact runLen_pos hd
              omega
            have HP : Hid (p = k + runLen j (text.drop k)) := hp
            clear hp
            go_upto_block 2 with fail
            go_cut [13] from 14 to 155 (fun e wx => e = .int .i64 (p : Int) ∧ Hid (wx = wr))
            case first => as_aux_lemma =>
              go_wp2_with fail
              go_loopw [13] (fun e wq => ∃ q : Nat, e = .int .i64 q ∧ k ≤ q ∧ q ≤ text.length ∧ Hid (p = q + runLen j (text.drop q)) ∧ Hid (wq = wr)) (fun e _ => text.length - (intOf e).toNat)
              case atStart => exact ⟨k, rfl, Nat.le_refl _, hkl, HP.out, rfl⟩
              case round =>
                obtain ⟨q, rfl, hkq, hql, HQ, HW⟩ := hrel
                have hwq := HW.out.symm
                subst hwq
                by_cases hq : (q : Int) < (text.length : Int)
                · have hcq := HCL.out q (by omega)
                  have HDQ : Hid _ := drop_at text q (by omega)
                  obtain ⟨d, hd'⟩ : ∃ d, d = text.getD q 0 := ⟨_, rfl⟩
                  rw [← hd'] at hcq HDQ
                  clear hd'
                  cases hdd : isDigit d
                  · have HDd : Hid (∀ W, Calls Tryd.prog 16 #[.int .u8 (d.toNat : Int)] W fun e w' => e = .returned (.bool false) ∧ w' = W) := by
                      show ∀ W, _
                      intro W
                      have := digit16 W d
                      rw [hdd] at this
                      exact this
                    cases j
                    · have HE : Hid (q = p) := by show q = p; rw [HQ.out, HDQ.out, runLen_no _ _ _ hdd (by simp)]; rfl
                      go_wp2_with (go_at_call 16; refine (HDd.out _).mono ?_; rintro e w2 ⟨rfl, hw2⟩; obtain rfl := hw2.symm)
                      go_meet
                      case rel => exact ⟨by rw [HE.out], rfl⟩
                    · by_cases h95 : (d == 95) = true
                      · have b95 : ((d.toNat : Int) == 95) = true := byte_eq 95 (by omega) h95
                        by_cases hq1 : (q : Int) + 1 < (text.length : Int)
                        · have hcr := HCL.out (q + 1) (by omega)
                          have HDR2 : Hid _ := drop_at text (q + 1) (by omega)
                          obtain ⟨d2, hd2⟩ : ∃ d2, d2 = text.getD (q + 1) 0 := ⟨_, rfl⟩
                          rw [← hd2] at hcr HDR2
                          clear hd2
                          cases hdd2 : isDigit d2
                          · have HDe : Hid (∀ W, Calls Tryd.prog 16 #[.int .u8 (d2.toNat : Int)] W fun e w' => e = .returned (.bool false) ∧ w' = W) := by
                              show ∀ W, _
                              intro W
                              have := digit16 W d2
                              rw [hdd2] at this
                              exact this
                            have HE : Hid (q = p) := by show q = p; rw [HQ.out, HDQ.out, runLen_no _ _ _ hdd (by rw [HDR2.out]; simp [hdd2])]; rfl
                            go_wp2_with (first | (go_at_call 16; refine (HDd.out _).mono ?_; rintro e w2 ⟨rfl, hw2⟩; obtain rfl := hw2.symm) | (go_at_call 16; refine (HDe.out _).mono ?_; rintro e w2 ⟨rfl, hw2⟩; obtain rfl := hw2.symm))
                            go_meet
                            case rel => exact ⟨by rw [HE.out], rfl⟩
                          · have HDe : Hid (∀ W, Calls Tryd.prog 16 #[.int .u8 (d2.toNat : Int)] W fun e w' => e = .returned (.bool true) ∧ w' = W) := by
                              show ∀ W, _
                              intro W
                              have := digit16 W d2
                              rw [hdd2] at this
                              exact this
                            have HE : Hid (p = (q + 1) + runLen true (text.drop (q + 1))) := by
                              show p = _
                              have h1 := HQ.out
                              rw [HDQ.out, runLen_und _ _ _ hdd (by rw [HDR2.out, h95]; simp [hdd2])] at h1
                              omega
                            go_wp2_with (first | (go_at_call 16; refine (HDd.out _).mono ?_; rintro e w2 ⟨rfl, hw2⟩; obtain rfl := hw2.symm) | (go_at_call 16; refine (HDe.out _).mono ?_; rintro e w2 ⟨rfl, hw2⟩; obtain rfl := hw2.symm))
                            exact ⟨⟨q + 1, by simp, by omega, by omega, HE.out, by first | exact rfl | exact trivial⟩, by simp [intOf]; omega⟩
                        · have HE : Hid (q = p) := by show q = p; rw [HQ.out, HDQ.out, runLen_no _ _ _ hdd (by rw [List.drop_of_length_le (by omega)]; simp)]; rfl
                          go_wp2_with (go_at_call 16; refine (HDd.out _).mono ?_; rintro e w2 ⟨rfl, hw2⟩; obtain rfl := hw2.symm)
                          go_meet
                          case rel => exact ⟨by rw [HE.out], rfl⟩
                      · have b95 : ((d.toNat : Int) == 95) = false := byte_ne 95 (by omega) (by simpa using h95)
                        have HE : Hid (q = p) := by show q = p; rw [HQ.out, HDQ.out, runLen_no _ _ _ hdd (by rw [show (d == 95) = false by simpa using h95]; simp)]; rfl
                        go_wp2_with (go_at_call 16; refine (HDd.out _).mono ?_; rintro e w2 ⟨rfl, hw2⟩; obtain rfl := hw2.symm)
                        go_meet
                        case rel => exact ⟨by rw [HE.out], rfl⟩
                  · have HDd : Hid (∀ W, Calls Tryd.prog 16 #[.int .u8 (d.toNat : Int)] W fun e w' => e = .returned (.bool true) ∧ w' = W) := by
                      show ∀ W, _
                      intro W
                      have := digit16 W d
                      rw [hdd] at this
                      exact this
                    have HE : Hid (p = (q + 1) + runLen j (text.drop (q + 1))) := by
                      show p = _
                      have h1 := HQ.out
                      rw [HDQ.out, runLen_dig _ _ _ hdd] at h1
                      omega
                    go_wp2_with (go_at_call 16; refine (HDd.out _).mono ?_; rintro e w2 ⟨rfl, hw2⟩; obtain rfl := hw2.symm)
                    exact ⟨⟨q + 1, by simp, by omega, by omega, HE.out, by first | exact rfl | exact trivial⟩, by simp [intOf]; omega⟩
                · have HE : Hid (q = p) := by show q = p; rw [HQ.out, List.drop_of_length_le (by omega)]; rfl
                  go_wp2_with fail
                  go_meet
                  case rel => exact ⟨by rw [HE.out], rfl⟩
            case rest => as_aux_lemma =>
              obtain ⟨rfl, HWc⟩ := hcut
              have hwc := HWc.out.symm
              subst hwc
              obtain ⟨E, hE⟩ : ∃ E : Bool, E = ((text.drop p).isEmpty || (j && text.drop p == [95])) := ⟨_, rfl⟩
              have HEE : Hid (E = ((text.drop p).isEmpty || (j && text.drop p == [95]))) := hE
              clear hE
              go_upto_region 20 with fail
              go_cut [106] from 14 to 155 (fun x wx => x = .bool E ∧ Hid (wx = wr))
              case first =>
                by_cases he : p = text.length
                · have heI : ((p : Int) == (text.length : Int)) = true := by rw [he]; simp
                  have HE : Hid (true = E) := by show true = E; rw [HEE.out, List.drop_of_length_le (by omega)]; rfl
                  clear he
                  go_wp2_with fail
                  go_meet
                  case rel => exact ⟨by rw [HE.out], rfl⟩
                · have heI : ((p : Int) == (text.length : Int)) = false := by rw [beq_eq_false_iff_ne]; omega
                  have hcp := HCL.out p (by omega)
                  have HDP : Hid _ := drop_at text p (by omega)
                  obtain ⟨d, hd'⟩ : ∃ d, d = text.getD p 0 := ⟨_, rfl⟩
                  rw [← hd'] at hcp HDP
                  clear hd'
                  cases j
                  · have HE : Hid (false = E) := by show false = E; rw [HEE.out, HDP.out]; rfl
                    go_wp2_with fail
                    go_meet
                    case rel => exact ⟨by rw [HE.out], rfl⟩
                  · by_cases h1 : p + 1 = text.length
                    · have h1I : ((p : Int) + 1 == (text.length : Int)) = true := by rw [beq_iff_eq]; omega
                      by_cases h95 : (d == 95) = true
                      · have b95 : ((d.toNat : Int) == 95) = true := byte_eq 95 (by omega) h95
                        have HE : Hid (true = E) := by
                          show true = E
                          have h95' : d = 95 := by simpa using h95
                          rw [HEE.out, HDP.out, List.drop_of_length_le (by omega), h95']; rfl
                        clear h1
                        go_wp2_with fail
                        go_meet
                        case rel => exact ⟨by rw [HE.out], rfl⟩
                      · have b95 : ((d.toNat : Int) == 95) = false := byte_ne 95 (by omega) (by simpa using h95)
                        have HE : Hid (false = E) := by
                          show false = E
                          have h95' : ¬ d = 95 := by simpa using h95
                          rw [HEE.out, HDP.out, List.drop_of_length_le (by omega)]
                          simp [h95']
                        clear h1
                        go_wp2_with fail
                        go_meet
                        case rel => exact ⟨by rw [HE.out], rfl⟩
                    · have h1I : ((p : Int) + 1 == (text.length : Int)) = false := by rw [beq_eq_false_iff_ne]; omega
                      have HE : Hid (false = E) := by
                        show false = E
                        rw [HEE.out, HDP.out, drop_at text (p + 1) (by omega)]
                        simp
                      go_wp2_with fail
                      go_meet
                      case rel => exact ⟨by rw [HE.out], rfl⟩
              case rest => as_aux_lemma =>
                obtain ⟨rfl, HWc⟩ := hcut
                have hwc := HWc.out.symm
                subst hwc
                have HDP : Hid (text.drop p = (c :: text.drop (k + 1)).drop (runLen (t.us && !t.ex) (c :: text.drop (k + 1)))) := by
                  show text.drop p = _
                  rw [← HDR.out, ← HJ.out, List.drop_drop, ← HP.out]
                cases E
                · obtain ⟨r, hr⟩ : ∃ r, r = (text.drop k).take (p - k) := ⟨_, rfl⟩
                  have hrl : r.length = p - k := by rw [hr, List.length_take, List.length_drop]; omega
                  have HRT : Hid (r = (c :: text.drop (k + 1)).take (runLen (t.us && !t.ex) (c :: text.drop (k + 1)))) := by
                    show r = _
                    rw [hr, ← HDR.out, ← HJ.out]
                    congr 1
                    have := HP.out
                    omega
                  have HSL : Hid (SlB wr (w.heap.size + 1) (.slice (some ⟨b, off + k, none⟩) (p - k) (cv - k)) r) := by
                    have h1 := (HV0.out.below HR.out.bel).drop k (by omega) (off + k) (text.length - k) (cv - k) rfl rfl (fun _ => rfl)
                    have h2 : SlB wr (w.heap.size + 1) (.slice (some ⟨b, off + k, none⟩) (text.drop k).length (cv - k)) (text.drop k) := by rw [List.length_drop]; exact h1
                    have h3 := h2.take (p - k) (by rw [List.length_drop]; omega)
                    rw [← hr] at h3
                    exact h3
                  have HEM : Hid (Calls Tryd.prog 17 #[.pointer (some ⟨w.heap.size + 1, 0, none⟩), .slice (some ⟨b, off + k, none⟩) (p - k) (cv - k), .int .i64 keep] wr fun e w' => e = .returned (.tuple #[]) ∧ MoV w' (w.heap.size + 1) (w.heap.size + 1) (emit t r) ∧ Below (w.heap.size + 1) wr w') := by
                    have hI := HR.out.inv
                    have i1 := hI.out
                    have i2 := hI.sh
                    have i3 := hI.by1
                    have i4 := hI.by2
                    have := emit_any wr (w.heap.size + 1) (w.heap.size + 1) t (.slice (some ⟨b, off + k, none⟩) (p - k) (cv - k)) r HR.out.mem HSL.out (by omega) (by omega) hI.runs (by omega) (by omega) (by omega) (by rw [HR.out.keep]; exact hkp)
                    rw [HR.out.keep] at this
                    exact this
                  have hk0 : (0 : Int) ≤ (k : Int) := by omega
                  have hkpI : (k : Int) ≤ (p : Int) := by omega
                  have hpcI : (p : Int) ≤ (cv : Int) := by omega
                  have hne : ¬ cv = k := by omega
                  go_upto_region 24 with (go_at_call 17; refine HEM.out.mono ?_; rintro e w3 ⟨rfl, hV3, hB3⟩; have HV3 : Hid (MoV w3 (w.heap.size + 1) (w.heap.size + 1) (emit t r)) := hV3; have HB3 : Hid (Below (w.heap.size + 1) wr w3) := hB3; clear hV3 hB3)
                  obtain ⟨vo3, vsh3, vr3, G3, hM3⟩ := HV3.out
                  obtain ⟨a3, c3, rfl, hc3⟩ := row_form hM3.oout
                  have HM3 : Hid (MoM w3 (w.heap.size + 1) (w.heap.size + 1) (emit t r) (.slice a3 (emit t r).out.length c3) vsh3 vr3 nilB G3) := hM3
                  have k0 := hM3.c 0 (by omega)
                  have k2 := hM3.c 2 (by omega)
                  have q2 := hM3.f 2
                  simp only [mcells, List.getElem?_cons_succ, List.getElem?_cons_zero] at k0 k2
                  have HMI : Hid (MInv (shut (emit t r)) p) := by
                    have := HR.out.inv.emit r (by omega)
                    rw [show k + r.length = p by omega] at this
                    exact this
                  have hol : (emit t r).out.length ≤ 4194304 := by
                    have h1 : (emit t r).out.length ≤ 4 * p := HMI.out.out
                    omega
                  clear hM3 hr hrl
                  go_wp2_with fail
                  refine ⟨⟨p, close (ran t r), x, y, rfl, rfl, by simp, by omega, ?_⟩, by simp [intOf]; omega⟩
                  obtain ⟨hq6, g1, g2, g3, g4⟩ := close_ran t r HR.out.ir
                  refine ⟨?_, (HR.out.bel.trans HB3.out).setCell (Nat.le_refl _) _, HMI.out.eq6 hq6, ?_, ?_, by rw [g3]; exact HR.out.us, by rw [g4]; exact HR.out.keep, ?_⟩
                  · refine MoV.eq6 (s := shut (emit t r)) ⟨.slice a3 (emit t r).out.length c3, vsh3, vr3, G3, ?_, HM3.out.runs⟩ hq6
                    have m := HM3.out.mem.setCell (i := 0) rfl 2 (.bool (decide (512 ≤ (emit t r).out.length)))
                    have e : (decide ((512 : Int) ≤ ((emit t r).out.length : Int))) = decide (512 ≤ (emit t r).out.length) := by rw [decide_eq_decide]; omega
                    first
                      | (rw [e]; exact m)
                      | exact m
                  · intro _
                    rw [g1, g2]
                    exact HX.out
                  · rw [← hq6.inRun]
                    show (emit t r).inRun = false
                    rw [(emit_keep t r).1]
                    exact HR.out.ir
                  · obtain ⟨f, h1, h2⟩ := HR.out.mod
                    rw [HDR.out] at h1 h2
                    cases f with
                    | zero => simp at h1
                    | succ f =>
                      have he2 := HEE.out
                      rw [HDP.out, HJ.out] at he2
                      rw [model_run f t c _ hf hd he2.symm, ← HRT.out, ← HDP.out] at h2
                      refine ⟨f, ?_, h2⟩
                      simp at h1 ⊢
                      omega
                · have HE : Hid ({ t with inRun := true } = T) := by
                    obtain ⟨f, h1, h2⟩ := HR.out.mod
                    rw [HDR.out] at h1 h2
                    cases f with
                    | zero => simp at h1
                    | succ f =>
                      have he2 := HEE.out
                      rw [HDP.out, HJ.out] at he2
                      rw [model_stop f t c _ hf hd he2.symm] at h2
                      exact h2
                  have c3' := HM.out.c 3 (by omega)
                  have f3 := HM.out.f 3
                  simp only [mcells, List.getElem?_cons_succ, List.getElem?_cons_zero] at c3'
                  have hM2 : MoM (wr.setCell ⟨w.heap.size + 1, 3, none⟩ (.bool true)) (w.heap.size + 1) (w.heap.size + 1) T (.slice ao t.out.length co) vsh vr nilB G := by
                    rw [← HE.out]
                    exact ⟨HM.out.mem.setCell (i := 0) rfl 3 (.bool true), HM.out.runs⟩
                  obtain ⟨G2, hG2⟩ : ∃ G2, G2 = G := ⟨_, rfl⟩
                  rw [← hG2] at hM2
                  obtain ⟨a1, c1, hv1, hco1⟩ := row_form hM2.oout
                  rw [hv1] at hM2
                  obtain ⟨a2, c2', rfl, hcsh⟩ := row_form hM2.oshifts
                  obtain ⟨a3, c3, rfl, hcr⟩ := row_form hM2.oruns
                  have hbel : Below (w.heap.size + 1) W0 (wr.setCell ⟨w.heap.size + 1, 3, none⟩ (.bool true)) := HR.out.bel.setCell (Nat.le_refl _) _
                  have HME : Hid (Mem (wr.setCell ⟨w.heap.size + 1, 3, none⟩ (.bool true)) w.heap.size (⟨37, 6, ptr w.heap.size, 1, z6⟩ :: mrows (w.heap.size + 1) T (.slice a1 T.out.length c1) (.slice a2 T.shifts.length c2') (.slice a3 G2.length c3) nilB G2)) := mo_end HO0.out hM2 hbel
                  have HMF : Hid _ := mo_fin HME.out hM2.runs
                  have HRG : Hid ((wr.setCell ⟨w.heap.size + 1, 3, none⟩ (.bool true)).rangeAt (w.heap.size + 1) 0 (mcells T (.slice a1 T.out.length c1) (.slice a2 T.shifts.length c2') (.slice a3 G2.length c3))) := HME.out.range (i := 1) rfl
                  have HTH : Hid ((wr.setCell ⟨w.heap.size + 1, 3, none⟩ (.bool true)).there w.heap.size 0 6) := HME.out.there (i := 0) rfl
                  have HONE : Hid ((mcells T (.slice a1 T.out.length c1) (.slice a2 T.shifts.length c2') (.slice a3 G2.length c3)).toArray.all (·.oneCell') = true) := all_oneCell_toArray (mcells_one T _ _ _ _ _ _ _ _ _)
                  have HBF : Hid (Below w.heap.size w ((wr.setCell ⟨w.heap.size + 1, 3, none⟩ (.bool true)).setCells w.heap.size 0 (mcells T (.slice a1 T.out.length c1) (.slice a2 T.shifts.length c2') (.slice a3 G2.length c3)))) := below_setCells (HB0.out.trans (Below.mono hbel (Nat.le_succ _))) (Nat.le_refl _) 0 _
                  clear hM2 hbel hv1 hG2
                  go_wp2_with (first
                    | (refine wpList_load_mid rfl 37 (.tmp 7) rfl (w.heap.size + 1) 0 rfl (mcells T (.slice a1 T.out.length c1) (.slice a2 T.shifts.length c2') (.slice a3 G2.length c3)) _ HRG.out Tryd.underlying37 rfl size37 ?_)
                    | (refine wpList_store_mid rfl 37 (.tmp 6) (.tmp 108) rfl w.heap.size 0 (mcells T (.slice a1 T.out.length c1) (.slice a2 T.shifts.length c2') (.slice a3 G2.length c3)).toArray rfl rfl HTH.out size37 HONE.out ?_))
                  (try simp only [Exit.inBlock, Exit.then])
                  refine bodyPost_ret (results_cell_row Tryd.results9 _ _ w.heap.size 37 (mcells T (.slice a1 T.out.length c1) (.slice a2 T.shifts.length c2') (.slice a3 G2.length c3)).toArray (0, 0) _ rfl (HMF.out.1.heap (i := 0) rfl) Tryd.underlying37 rfl size37) rfl ?_
                  first | exact ⟨_, _, _, rfl, ⟨G2, HMF.out.2⟩, HBF.out⟩ | exact ⟨_, _, _, G2, rfl, HMF.out.2, HBF.out⟩
      · rw [hf] at c2
        have HMD : Hid (∃ f, (text.drop (k + 1)).length ≤ f ∧ model f (mstep t c) (text.drop (k + 1)) = T) := by
          obtain ⟨f, h1, h2⟩ := HR.out.mod
          rw [HDR.out] at h1 h2
          cases f with
          | zero => simp at h1
          | succ f =>
            rw [model_full f t c _ hf] at h2
            exact ⟨f, by simp at h1 ⊢; omega, h2⟩
        by_cases h32 : (c == 32) = true
        · have b32 : ((c.toNat : Int) == 32) = true := byte_eq 32 (by omega) h32
          by_cases hs3 : (t.spaces : Int) < 3
          · have HE : Hid (mstep t c = put t 32) := by show mstep t c = put t 32; unfold mstep; rw [hf, h32]; simp; intro h; omega
            go_wp2_with (at_builtin; refine wpList_append_mem rfl (.tmp 32) (.tmp 33) 22 rfl (HM.out.mem.grow (World.grownBy_alloc _ _ none)) 1 rfl i0 (.int .u8 0) 1 Tryd.underlying22 hi hz0 hz1 hz2 rfl (by decide) (.slice (some ⟨wr.heap.size, 0, none⟩) 1 1) 1 [.int .u8 32] rfl rfl (src_one wr _ rfl 5) (by unfold maxLen; omega) (by omega) ?_; intro a2 c2' w2 hM2 hB2; have k0 := hM2.cell (i := 0) rfl 0 (by omega); have q0 := hM2.frozen (i := 0) rfl 0; have k1 : w2.cell? ⟨w.heap.size + 1, 1, none⟩ = some (.int .i64 t.spaces) := hM2.cell (i := 0) rfl 1 (by omega); have q1 := hM2.frozen (i := 0) rfl 1; have HM2 : Hid _ := hM2; have HB2 : Hid _ := hB2; clear hM2 hB2)
            refine ⟨⟨k + 1, mstep t c, x, y, rfl, rfl, by simp, by omega, ?_⟩, by simp [intOf]; omega⟩
            obtain ⟨g1, g2, g3⟩ := mstep_keep2 t c
            refine ⟨?_, ?_, HR.out.inv.mstep c, ?_, by rw [g2]; exact HR.out.ir, by rw [g1]; exact HR.out.us, by rw [g3]; exact HR.out.keep, HMD.out⟩
            · rw [HE.out]
              refine MoV.eq6 (s := { t with out := t.out ++ [32], spaces := t.spaces + 1 }) ⟨.slice a2 (t.out.length + 1) c2', vsh, vr, G, ?_, HM.out.runs⟩ (put_eq6_full t hf (by omega))
              have m := (HM2.out.setCell (i := 0) rfl 0 (.slice a2 (t.out.length + 1) c2')).setCell (i := 0) rfl 1 (.int .i64 ((t.spaces : Int) + 1))
              have e2 : (t.out ++ [32]).length = t.out.length + 1 := by simp
              simp only [mrows, rowB, e2, cellsOf_append]
              exact m
            · exact (((HR.out.bel.alloc HM.out.mem.size _).trans HB2.out).setCell (Nat.le_refl _) _).setCell (Nat.le_refl _) _
            · intro hff
              rw [HE.out, put_full 32 hf] at hff
              cases hff
          · have HE : Hid (mstep t c = t) := by show mstep t c = t; unfold mstep; rw [hf]; simp; intro _ h; omega
            go_wp2_with fail
            refine ⟨⟨k + 1, t, x, y, rfl, rfl, by simp, by omega, ?_⟩, by simp [intOf]; omega⟩
            have h2 := HMD.out
            rw [HE.out] at h2
            exact ⟨HR.out.mem, HR.out.bel, HR.out.inv.mono (Nat.le_succ k), HR.out.eqx, HR.out.ir, HR.out.us, HR.out.keep, h2⟩
        · have b32 : ((c.toNat : Int) == 32) = false := byte_ne 32 (by omega) (by simpa using h32)
          have HE : Hid (mstep t c = t) := by show mstep t c = t; unfold mstep; rw [hf]; simp; intro h; simp [h] at h32
          go_wp2_with fail
          refine ⟨⟨k + 1, t, x, y, rfl, rfl, by simp, by omega, ?_⟩, by simp [intOf]; omega⟩
          have h2 := HMD.out
          rw [HE.out] at h2
          exact ⟨HR.out.mem, HR.out.bel, HR.out.inv.mono (Nat.le_succ k), HR.out.eqx, HR.out.ir, HR.out.us, HR.out.keep, h2⟩
    · have HE : Hid (t = T) := by
        obtain ⟨f, h1, h2⟩ := HR.out.mod
        rw [List.drop_of_length_le (by omega), model_nil] at h2
        exact h2
      obtain ⟨vo, vsh, vr, G, hM⟩ := HR.out.mem
      rw [HE.out] at hM
      obtain ⟨a1, c1, rfl, hco⟩ := row_form hM.oout
      obtain ⟨a2, c2, rfl, hcsh⟩ := row_form hM.oshifts
      obtain ⟨a3, c3, rfl, hcr⟩ := row_form hM.oruns
      have HME : Hid (Mem wr w.heap.size (⟨37, 6, ptr w.heap.size, 1, z6⟩ :: mrows (w.heap.size + 1) T (.slice a1 T.out.length c1) (.slice a2 T.shifts.length c2) (.slice a3 G.length c3) nilB G)) := mo_end HO0.out hM HR.out.bel
      have HMF : Hid _ := mo_fin HME.out hM.runs
      have HRG : Hid (wr.rangeAt (w.heap.size + 1) 0 (mcells T (.slice a1 T.out.length c1) (.slice a2 T.shifts.length c2) (.slice a3 G.length c3))) := HME.out.range (i := 1) rfl
      have HTH : Hid (wr.there w.heap.size 0 6) := HME.out.there (i := 0) rfl
      have HONE : Hid ((mcells T (.slice a1 T.out.length c1) (.slice a2 T.shifts.length c2) (.slice a3 G.length c3)).toArray.all (·.oneCell') = true) := all_oneCell_toArray (mcells_one T _ _ _ _ _ _ _ _ _)
      have HBF : Hid (Below w.heap.size w (wr.setCells w.heap.size 0 (mcells T (.slice a1 T.out.length c1) (.slice a2 T.shifts.length c2) (.slice a3 G.length c3)))) := below_setCells (HB0.out.trans (Below.mono HR.out.bel (Nat.le_succ _))) (Nat.le_refl _) 0 _
      clear hM
      go_wp2_with (first
        | (refine wpList_load_mid rfl 37 (.tmp 7) rfl (w.heap.size + 1) 0 rfl (mcells T (.slice a1 T.out.length c1) (.slice a2 T.shifts.length c2) (.slice a3 G.length c3)) _ HRG.out Tryd.underlying37 rfl size37 ?_)
        | (refine wpList_store_mid rfl 37 (.tmp 6) (.tmp 156) rfl w.heap.size 0 (mcells T (.slice a1 T.out.length c1) (.slice a2 T.shifts.length c2) (.slice a3 G.length c3)).toArray rfl rfl HTH.out size37 HONE.out ?_))
      (try simp only [Exit.inBlock, Exit.then])
      refine bodyPost_ret (results_cell_row Tryd.results9 _ _ w.heap.size 37 (mcells T (.slice a1 T.out.length c1) (.slice a2 T.shifts.length c2) (.slice a3 G.length c3)).toArray (0, 0) _ rfl (HMF.out.1.heap (i := 0) rfl) Tryd.underlying37 rfl size37) rfl ?_
      first | exact ⟨_, _, _, rfl, ⟨G, HMF.out.2⟩, HBF.out⟩ | exact ⟨_, _, _, G, rfl, HMF.out.2, HBF.out⟩
end Go.Proofs.Qxb6616348aDoor
