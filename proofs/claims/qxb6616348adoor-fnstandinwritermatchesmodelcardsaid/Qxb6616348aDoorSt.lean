import Derived.Test.Qxb6616348aDoorMem
set_option linter.unusedSimpArgs false
set_option linter.unusedVariables false
namespace Go.Proofs.Qxb6616348aDoor
open Go.RowKit

structure Run where
  zeros : Nat
  kept : Bs
  more : Nat
  sticky : Bool

/-- the writer's state, in plain terms -/
structure St where
  us : Bool
  ex : Bool
  mark : Bool
  out : Bs
  spaces : Nat
  full : Bool
  inRun : Bool
  joins : Bool
  length : Nat
  short : Bs
  run : Run
  und : Bool
  head : Bs
  tlen : Nat
  keep : Nat
  shifts : List (Nat × Int)
  runs : List Run

def isMark (c : UInt8) : Bool := c == 101 || c == 69 || c == 100 || c == 68
def isSign (c : UInt8) : Bool := c == 43 || c == 45
def isDigit (c : UInt8) : Bool := 48 ≤ c.toNat && c.toNat ≤ 57

/-- put's first half: the marks -/
def marks (s : St) (c : UInt8) : St :=
  if isMark c then { s with ex := true, mark := true }
  else if isSign c && s.mark then { s with mark := false }
  else { s with ex := false, mark := false }
/-- put's second half -/
def lay (s : St) (c : UInt8) : St :=
  if s.full && (c != 32 || 3 ≤ s.spaces) then s
  else { s with out := s.out ++ [c], spaces := if c == 32 then min (s.spaces + 1) 3 else s.spaces, full := s.full || decide (512 ≤ s.out.length + 1) }
def put (s : St) (c : UInt8) : St := lay (marks s c) c

def cellsOf (l : Bs) : List Value := l.map (fun b => Value.int .u8 (b.toNat : Int))
def rowB (v : Value) (l : Bs) : Row := ⟨5, 1, v, l.length, cellsOf l⟩
def wcells (pt : Nat) (s : St) (vo vs vk : Value) : List Value :=
  [.pointer (some ⟨pt, 0, none⟩), .bool s.us, .bool s.ex, .bool s.mark, vo, .int .i64 s.spaces, .bool s.full, .bool s.inRun, .bool s.joins, .int .i64 s.length, vs, .int .i64 s.run.zeros, vk, .int .i64 s.run.more, .bool s.run.sticky, .bool s.und]
def tcells (s : St) (vh vsh vr : Value) : List Value := [vh, .int .i64 s.tlen, .int .i64 s.keep, .int .i64 0, vsh, vr]
def ptr (p : Nat) : Value := .slice (some ⟨p, 0, none⟩) 1 1
def shCells (l : List (Nat × Int)) : List Value := l.flatMap (fun x => [.int .i64 x.1, .int .i64 x.2])
def runCells (G : List (Value × Run)) : List Value := G.flatMap (fun x => [.int .i64 x.2.zeros, x.1, .int .i64 x.2.more, .bool x.2.sticky])

def rows (pw pt : Nat) (s : St) (vo vs vk vh vsh vr : Value) (G : List (Value × Run)) : List Row :=
  [⟨57, 16, ptr pw, 1, wcells pt s vo vs vk⟩, ⟨53, 6, ptr pt, 1, tcells s vh vsh vr⟩, rowB vo s.out, rowB vs s.short, rowB vk s.run.kept, rowB vh s.head,
   ⟨61, 2, vsh, s.shifts.length, shCells s.shifts⟩, ⟨55, 4, vr, G.length, runCells G⟩] ++ G.map (fun x => rowB x.1 x.2.kept)

/-- the writer in memory -/
structure WrM (w : World) (B pw pt : Nat) (s : St) (vo vs vk vh vsh vr : Value) (G : List (Value × Run)) : Prop where
  mem : Mem w B (rows pw pt s vo vs vk vh vsh vr G)
  runs : G.map (·.2) = s.runs
def WrV (w : World) (B pw pt : Nat) (s : St) : Prop := ∃ vo vs vk vh vsh vr G, WrM w B pw pt s vo vs vk vh vsh vr G

theorem WrM.cw {w : World} {B pw pt : Nat} {s : St} {vo vs vk vh vsh vr : Value} {G : List (Value × Run)} (h : WrM w B pw pt s vo vs vk vh vsh vr G) (j : Nat) (hj : j < 16) : w.cell? ⟨pw, j, none⟩ = (wcells pt s vo vs vk)[j]? :=
  h.mem.cell (i := 0) rfl j (by omega)
theorem WrM.fw {w : World} {B pw pt : Nat} {s : St} {vo vs vk vh vsh vr : Value} {G : List (Value × Run)} (h : WrM w B pw pt s vo vs vk vh vsh vr G) (j : Nat) : w.frozen? ⟨pw, j, none⟩ = false :=
  h.mem.frozen (i := 0) rfl j
theorem WrM.ct {w : World} {B pw pt : Nat} {s : St} {vo vs vk vh vsh vr : Value} {G : List (Value × Run)} (h : WrM w B pw pt s vo vs vk vh vsh vr G) (j : Nat) (hj : j < 6) : w.cell? ⟨pt, j, none⟩ = (tcells s vh vsh vr)[j]? :=
  h.mem.cell (i := 1) rfl j (by omega)
theorem WrM.ft {w : World} {B pw pt : Nat} {s : St} {vo vs vk vh vsh vr : Value} {G : List (Value × Run)} (h : WrM w B pw pt s vo vs vk vh vsh vr G) (j : Nat) : w.frozen? ⟨pt, j, none⟩ = false :=
  h.mem.frozen (i := 1) rfl j
theorem WrM.lt {w : World} {B pw pt : Nat} {s : St} {vo vs vk vh vsh vr : Value} {G : List (Value × Run)} (h : WrM w B pw pt s vo vs vk vh vsh vr G) : B ≤ pw ∧ B ≤ pt ∧ pw ≠ pt := by
  refine ⟨((h.mem.own 0 _ rfl).lt pw rfl).1, ((h.mem.own 1 _ rfl).lt pt rfl).1, ?_⟩
  rcases h.mem.far 0 1 _ _ (by omega) rfl rfl with h | h
  · cases h
  · intro e; exact h (by rw [e])

theorem byte_ne {c : UInt8} (k : Nat) (hk : k < 256) (h : (c == UInt8.ofNat k) = false) : ((c.toNat : Int) == (k : Int)) = false := by
  rw [beq_eq_false_iff_ne] at *
  intro e
  apply h
  apply UInt8.toNat_inj.1
  rw [UInt8.toNat_ofNat']
  omega
theorem byte_eq {c : UInt8} (k : Nat) (hk : k < 256) (h : (c == UInt8.ofNat k) = true) : ((c.toNat : Int) == (k : Int)) = true := by
  rw [beq_iff_eq] at *
  rw [h, UInt8.toNat_ofNat']
  omega

theorem marks_yes {s : St} {c : UInt8} (h : isMark c = true) : marks s c = { s with ex := true, mark := true } := by simp [marks, h]
theorem marks_sign {s : St} {c : UInt8} (h : isMark c = false) (h2 : isSign c = true) (h3 : s.mark = true) : marks s c = { s with mark := false } := by simp [marks, h, h2, h3]
theorem marks_no {s : St} {c : UInt8} (h : isMark c = false) (h2 : isSign c = false ∨ s.mark = false) : marks s c = { s with ex := false, mark := false } := by
  rcases h2 with h2 | h2 <;> simp [marks, h, h2]

/-- what is told of the world behind a call -/
def Aft (w : World) (B pw pt : Nat) (s : St) (w' : World) : Prop := WrV w' B pw pt s ∧ Below B w w'

theorem Mem.w456 {w : World} {B pw pt : Nat} {s : St} {vo vs vk : Value} {R : List Row} (hM : Mem w B R) (hr : R[0]? = some ⟨57, 16, ptr pw, 1, wcells pt s vo vs vk⟩) :
    w.cell? ⟨pw, 4, none⟩ = some vo ∧ w.cell? ⟨pw, 5, none⟩ = some (.int .i64 s.spaces) ∧ w.cell? ⟨pw, 6, none⟩ = some (.bool s.full) ∧ w.frozen? ⟨pw, 4, none⟩ = false ∧ w.frozen? ⟨pw, 5, none⟩ = false ∧ w.frozen? ⟨pw, 6, none⟩ = false :=
  ⟨hM.cell hr 4 (by omega), hM.cell hr 5 (by omega), hM.cell hr 6 (by omega), hM.frozen hr 4, hM.frozen hr 5, hM.frozen hr 6⟩

theorem src_one (w : World) (u : Value) (hu : u.oneCell' = true) (t : TypeId) : Src (w.alloc (.cells #[u] t)) (.slice (some ⟨w.heap.size, 0, none⟩) 1 1) 1 [u] 1 := by
  refine ⟨rfl, by simpa using hu, .inr ⟨_, _, rfl, fun j v hj => ?_⟩⟩
  cases j with
  | zero =>
    simp at hj
    subst hj
    exact (World.cell?_alloc_mark w #[u] t (0, 0) 0)
  | succ j => simp at hj

theorem cellsOf_append (a b : Bs) : cellsOf (a ++ b) = cellsOf a ++ cellsOf b := by simp [cellsOf]

/-- put's end: a byte that is no space -/
theorem lay_fin {w wc w2 : World} {B pw pt : Nat} {s1 : St} {vo vs vk vh vsh vr : Value} {G : List (Value × Run)} {c : UInt8} {a' : Option Addr} {c' : Nat} (hM : WrM wc B pw pt s1 vo vs vk vh vsh vr G) (hB : Below B w wc) (o : Obj)
    (h : Mem w2 B ((rows pw pt s1 vo vs vk vh vsh vr G).set 2 ⟨5, 1, .slice a' (s1.out.length + 1) c', s1.out.length + 1, cellsOf s1.out ++ [.int .u8 (c.toNat : Int)]⟩)) (hB2 : Below B (wc.alloc o) w2)
    (X : Bool) (hX : X = (s1.full || decide (512 ≤ s1.out.length + 1))) (hsk : (s1.full && (c != 32 || 3 ≤ s1.spaces)) = false) (h32 : (c == 32) = false) :
    Aft w B pw pt (lay s1 c) ((w2.setCell ⟨pw, 4, none⟩ (.slice a' (s1.out.length + 1) c')).setCell ⟨pw, 6, none⟩ (.bool X)) := by
  have hpw := hM.lt.1
  refine ⟨⟨.slice a' (s1.out.length + 1) c', vs, vk, vh, vsh, vr, G, ?_, ?_⟩, ?_⟩
  · have hm := (h.setCell (i := 0) rfl 4 (.slice a' (s1.out.length + 1) c')).setCell (i := 0) rfl 6 (.bool X)
    unfold lay
    rw [hsk, h32]
    have e1 : (s1.out ++ [c]).length = s1.out.length + 1 := by simp
    have e2 : cellsOf (s1.out ++ [c]) = cellsOf s1.out ++ [.int .u8 (c.toNat : Int)] := by simp [cellsOf]
    simp only [Bool.false_eq_true, if_false, rows, rowB, wcells, e1, e2]
    rw [← hX]
    exact hm
  · unfold lay; rw [hsk]; exact hM.runs
  · have hb3 : Below B w (wc.alloc o) := hB.trans ((Below.refl _ _).alloc hM.mem.size o)
    exact ((hb3.trans hB2).setCell hpw _).setCell hpw _

theorem lay_fin_space {w wc w2 : World} {B pw pt : Nat} {s1 : St} {vo vs vk vh vsh vr : Value} {G : List (Value × Run)} {c : UInt8} {a' : Option Addr} {c' : Nat} (hM : WrM wc B pw pt s1 vo vs vk vh vsh vr G) (hB : Below B w wc) (o : Obj)
    (h : Mem w2 B ((rows pw pt s1 vo vs vk vh vsh vr G).set 2 ⟨5, 1, .slice a' (s1.out.length + 1) c', s1.out.length + 1, cellsOf s1.out ++ [.int .u8 (c.toNat : Int)]⟩)) (hB2 : Below B (wc.alloc o) w2)
    (X : Bool) (hX : X = (s1.full || decide (512 ≤ s1.out.length + 1))) (Y : Int) (hY : Y = ((min (s1.spaces + 1) 3 : Nat) : Int)) (hsk : (s1.full && (c != 32 || 3 ≤ s1.spaces)) = false) (h32 : (c == 32) = true) :
    Aft w B pw pt (lay s1 c) (((w2.setCell ⟨pw, 4, none⟩ (.slice a' (s1.out.length + 1) c')).setCell ⟨pw, 5, none⟩ (.int .i64 Y)).setCell ⟨pw, 6, none⟩ (.bool X)) := by
  have hpw := hM.lt.1
  refine ⟨⟨.slice a' (s1.out.length + 1) c', vs, vk, vh, vsh, vr, G, ?_, ?_⟩, ?_⟩
  · have hm := ((h.setCell (i := 0) rfl 4 (.slice a' (s1.out.length + 1) c')).setCell (i := 0) rfl 5 (.int .i64 Y)).setCell (i := 0) rfl 6 (.bool X)
    unfold lay
    rw [hsk, h32]
    have e1 : (s1.out ++ [c]).length = s1.out.length + 1 := by simp
    have e2 : cellsOf (s1.out ++ [c]) = cellsOf s1.out ++ [.int .u8 (c.toNat : Int)] := by simp [cellsOf]
    simp only [Bool.false_eq_true, if_false, if_true, rows, rowB, wcells, e1, e2]
    rw [← hX, ← hY]
    exact hm
  · unfold lay; rw [hsk]; exact hM.runs
  · have hb3 : Below B w (wc.alloc o) := hB.trans ((Below.refl _ _).alloc hM.mem.size o)
    exact (((hb3.trans hB2).setCell hpw _).setCell hpw _).setCell hpw _

set_option maxHeartbeats 2000000 in
set_option maxRecDepth 100000 in
theorem put_in (w : World) (B pw pt : Nat) (s s1 s2 : St) (c : UInt8) (H1 : Hid (marks s c = s1)) (H2 : Hid (lay s1 c = s2)) (h : WrV w B pw pt s) (hb : s1.out.length ≤ 1073741824) (hsp : s1.spaces ≤ 3) :
    Calls Tryd.prog 21 #[.pointer (some ⟨pw, 0, none⟩), .int .u8 c.toNat] w fun e w' => e = .returned (.tuple #[]) ∧ Aft w B pw pt s2 w' := by
  obtain ⟨vo, vs, vk, vh, vsh, vr, G, hM⟩ := h
  have HM : Hid (WrM w B pw pt s vo vs vk vh vsh vr G) := hM
  have c2 := hM.cw 2 (by omega)
  have c3 := hM.cw 3 (by omega)
  have f2 := hM.fw 2
  have f3 := hM.fw 3
  simp only [wcells, List.getElem?_cons_succ, List.getElem?_cons_zero] at c2 c3
  have HB : Hid (B ≤ pw) := hM.lt.1
  clear hM
  go_enter Tryd.func21, Tryd.ntmps21
  go_upto_block 0 with fail
  go_cut [10] (fun _ wx => WrM wx B pw pt s1 vo vs vk vh vsh vr G ∧ Below B w wx)
  case first =>
    by_cases hh : (c == UInt8.ofNat 101) = true
    · have gy : ((c.toNat : Int) == 101) = true := byte_eq 101 (by omega) hh
      have HN : Hid (isMark c = true) := by show isMark c = true; unfold isMark; rw [show (c == 101) = true from hh]; simp
      clear hh
      go_wp2_with fail
      go_meet
      case rel =>
        rw [← H1.out, marks_yes HN.out]
        exact ⟨⟨(HM.out.mem.setCell (i := 0) rfl 2 (.bool true)).setCell (i := 0) rfl 3 (.bool true), HM.out.runs⟩, ((Below.refl _ _).setCell HB.out _).setCell HB.out _⟩
    have h1 : (c == UInt8.ofNat 101) = false := by simpa using hh
    have g1 : ((c.toNat : Int) == 101) = false := byte_ne 101 (by omega) h1
    clear hh
    by_cases hh : (c == UInt8.ofNat 69) = true
    · have gy : ((c.toNat : Int) == 69) = true := byte_eq 69 (by omega) hh
      have HN : Hid (isMark c = true) := by show isMark c = true; unfold isMark; rw [show (c == 69) = true from hh]; simp
      clear hh
      go_wp2_with fail
      go_meet
      case rel =>
        rw [← H1.out, marks_yes HN.out]
        exact ⟨⟨(HM.out.mem.setCell (i := 0) rfl 2 (.bool true)).setCell (i := 0) rfl 3 (.bool true), HM.out.runs⟩, ((Below.refl _ _).setCell HB.out _).setCell HB.out _⟩
    have h2 : (c == UInt8.ofNat 69) = false := by simpa using hh
    have g2 : ((c.toNat : Int) == 69) = false := byte_ne 69 (by omega) h2
    clear hh
    by_cases hh : (c == UInt8.ofNat 100) = true
    · have gy : ((c.toNat : Int) == 100) = true := byte_eq 100 (by omega) hh
      have HN : Hid (isMark c = true) := by show isMark c = true; unfold isMark; rw [show (c == 100) = true from hh]; simp
      clear hh
      go_wp2_with fail
      go_meet
      case rel =>
        rw [← H1.out, marks_yes HN.out]
        exact ⟨⟨(HM.out.mem.setCell (i := 0) rfl 2 (.bool true)).setCell (i := 0) rfl 3 (.bool true), HM.out.runs⟩, ((Below.refl _ _).setCell HB.out _).setCell HB.out _⟩
    have h3 : (c == UInt8.ofNat 100) = false := by simpa using hh
    have g3 : ((c.toNat : Int) == 100) = false := byte_ne 100 (by omega) h3
    clear hh
    by_cases hh : (c == UInt8.ofNat 68) = true
    · have gy : ((c.toNat : Int) == 68) = true := byte_eq 68 (by omega) hh
      have HN : Hid (isMark c = true) := by show isMark c = true; unfold isMark; rw [show (c == 68) = true from hh]; simp
      clear hh
      go_wp2_with fail
      go_meet
      case rel =>
        rw [← H1.out, marks_yes HN.out]
        exact ⟨⟨(HM.out.mem.setCell (i := 0) rfl 2 (.bool true)).setCell (i := 0) rfl 3 (.bool true), HM.out.runs⟩, ((Below.refl _ _).setCell HB.out _).setCell HB.out _⟩
    have h4 : (c == UInt8.ofNat 68) = false := by simpa using hh
    have g4 : ((c.toNat : Int) == 68) = false := byte_ne 68 (by omega) h4
    clear hh
    have HNM : Hid (isMark c = false) := by
      show isMark c = false
      unfold isMark
      simp only [Bool.or_eq_false_iff]
      exact ⟨⟨⟨h1, h2⟩, h3⟩, h4⟩
    clear h1 h2 h3 h4
    by_cases hh : (c == UInt8.ofNat 43) = true
    · have gy : ((c.toNat : Int) == 43) = true := byte_eq 43 (by omega) hh
      have HS : Hid (isSign c = true) := by show isSign c = true; unfold isSign; rw [show (c == 43) = true from hh]; simp
      clear hh
      cases hmk : s.mark
      · rw [hmk] at c3
        go_wp2_with fail
        go_meet
        case rel =>
          rw [← H1.out, marks_no HNM.out (.inr hmk)]
          exact ⟨⟨(HM.out.mem.setCell (i := 0) rfl 2 (.bool false)).setCell (i := 0) rfl 3 (.bool false), HM.out.runs⟩, ((Below.refl _ _).setCell HB.out _).setCell HB.out _⟩
      · rw [hmk] at c3
        go_wp2_with fail
        go_meet
        case rel =>
          rw [← H1.out, marks_sign HNM.out HS.out hmk]
          exact ⟨⟨HM.out.mem.setCell (i := 0) rfl 3 (.bool false), HM.out.runs⟩, (Below.refl _ _).setCell HB.out _⟩
    have h5 : (c == UInt8.ofNat 43) = false := by simpa using hh
    have g5 : ((c.toNat : Int) == 43) = false := byte_ne 43 (by omega) h5
    clear hh
    by_cases hh : (c == UInt8.ofNat 45) = true
    · have gy : ((c.toNat : Int) == 45) = true := byte_eq 45 (by omega) hh
      have HS : Hid (isSign c = true) := by show isSign c = true; unfold isSign; rw [show (c == 45) = true from hh]; simp
      clear hh
      cases hmk : s.mark
      · rw [hmk] at c3
        go_wp2_with fail
        go_meet
        case rel =>
          rw [← H1.out, marks_no HNM.out (.inr hmk)]
          exact ⟨⟨(HM.out.mem.setCell (i := 0) rfl 2 (.bool false)).setCell (i := 0) rfl 3 (.bool false), HM.out.runs⟩, ((Below.refl _ _).setCell HB.out _).setCell HB.out _⟩
      · rw [hmk] at c3
        go_wp2_with fail
        go_meet
        case rel =>
          rw [← H1.out, marks_sign HNM.out HS.out hmk]
          exact ⟨⟨HM.out.mem.setCell (i := 0) rfl 3 (.bool false), HM.out.runs⟩, (Below.refl _ _).setCell HB.out _⟩
    have h6 : (c == UInt8.ofNat 45) = false := by simpa using hh
    have g6 : ((c.toNat : Int) == 45) = false := byte_ne 45 (by omega) h6
    clear hh
    have HS : Hid (isSign c = false) := by
      show isSign c = false
      unfold isSign
      simp only [Bool.or_eq_false_iff]
      exact ⟨h5, h6⟩
    clear h5 h6
    go_wp2_with fail
    go_meet
    case rel =>
      rw [← H1.out, marks_no HNM.out (.inl HS.out)]
      exact ⟨⟨(HM.out.mem.setCell (i := 0) rfl 2 (.bool false)).setCell (i := 0) rfl 3 (.bool false), HM.out.runs⟩, ((Below.refl _ _).setCell HB.out _).setCell HB.out _⟩
  case rest =>
    obtain ⟨hM1, hB1⟩ := hcut
    clear c2 c3 f2 f3 HM
    have HM1 : Hid (WrM wc B pw pt s1 vo vs vk vh vsh vr G) := hM1
    have HB1 : Hid (Below B w wc) := hB1
    have d4 := hM1.cw 4 (by omega)
    have d5 := hM1.cw 5 (by omega)
    have d6 := hM1.cw 6 (by omega)
    simp only [wcells, List.getElem?_cons_succ, List.getElem?_cons_zero] at d4 d5 d6
    clear hM1 hB1
    obtain ⟨ao, co, rfl⟩ : ∃ ao co, vo = .slice ao s1.out.length co := ownsRow_form (HM1.out.mem.own 2 _ rfl)
    obtain ⟨i0, hi, hz0, hz1, hz2⟩ := info_parts info5
    cases hf : s1.full
    · rw [hf] at d6
      cases h32 : (c == UInt8.ofNat 32)
      · have g32 : ((c.toNat : Int) == 32) = false := byte_ne 32 (by omega) h32
        have HSK : Hid ((s1.full && (c != 32 || 3 ≤ s1.spaces)) = false) := by show _ = false; rw [hf]; rfl
        have H32 : Hid ((c == 32) = false) := h32
        clear h32
        go_wp2_with (at_builtin; refine wpList_append_mem rfl (.tmp 66) (.tmp 68) 22 rfl (HM1.out.mem.grow (World.grownBy_alloc _ _ none)) 2 rfl i0 (.int .u8 0) 1 Tryd.underlying22 hi hz0 hz1 hz2 rfl (by decide) (.slice (some ⟨wc.heap.size, 0, none⟩) 1 1) 1 [.int .u8 (c.toNat : Int)] rfl rfl (src_one wc _ rfl 5) (by unfold maxLen; omega) (by omega) ?_; intro a' c' w2 hM2 hB2; obtain ⟨k4, k5, k6, q4, q5, q6⟩ := hM2.w456 (s := s1) rfl; have HM2 : Hid _ := hM2; have HB2 : Hid _ := hB2; clear hM2 hB2)
        rw [hf] at k6
        go_wp2
        go_end0
        rw [← H2.out]
        exact ⟨rfl, lay_fin HM1.out HB1.out _ HM2.out HB2.out _ (by rw [hf]; simp; try omega) HSK.out H32.out⟩
      · have g32 : ((c.toNat : Int) == 32) = true := byte_eq 32 (by omega) h32
        have HSK : Hid ((s1.full && (c != 32 || 3 ≤ s1.spaces)) = false) := by show _ = false; rw [hf]; rfl
        have H32 : Hid ((c == 32) = true) := h32
        clear h32
        by_cases h3 : (s1.spaces : Int) + 1 ≤ 3
        · go_wp2_with (at_builtin; refine wpList_append_mem rfl (.tmp 66) (.tmp 68) 22 rfl (HM1.out.mem.grow (World.grownBy_alloc _ _ none)) 2 rfl i0 (.int .u8 0) 1 Tryd.underlying22 hi hz0 hz1 hz2 rfl (by decide) (.slice (some ⟨wc.heap.size, 0, none⟩) 1 1) 1 [.int .u8 (c.toNat : Int)] rfl rfl (src_one wc _ rfl 5) (by unfold maxLen; omega) (by omega) ?_; intro a' c' w2 hM2 hB2; obtain ⟨k4, k5, k6, q4, q5, q6⟩ := hM2.w456 (s := s1) rfl; have HM2 : Hid _ := hM2; have HB2 : Hid _ := hB2; clear hM2 hB2)
          go_end0
          rw [← H2.out]
          exact ⟨rfl, lay_fin_space HM1.out HB1.out _ HM2.out HB2.out _ (by rw [hf]; simp; try omega) _ (by omega) HSK.out H32.out⟩
        · go_wp2_with (at_builtin; refine wpList_append_mem rfl (.tmp 66) (.tmp 68) 22 rfl (HM1.out.mem.grow (World.grownBy_alloc _ _ none)) 2 rfl i0 (.int .u8 0) 1 Tryd.underlying22 hi hz0 hz1 hz2 rfl (by decide) (.slice (some ⟨wc.heap.size, 0, none⟩) 1 1) 1 [.int .u8 (c.toNat : Int)] rfl rfl (src_one wc _ rfl 5) (by unfold maxLen; omega) (by omega) ?_; intro a' c' w2 hM2 hB2; obtain ⟨k4, k5, k6, q4, q5, q6⟩ := hM2.w456 (s := s1) rfl; have HM2 : Hid _ := hM2; have HB2 : Hid _ := hB2; clear hM2 hB2)
          go_end0
          rw [← H2.out]
          exact ⟨rfl, lay_fin_space HM1.out HB1.out _ HM2.out HB2.out _ (by rw [hf]; simp; try omega) _ (by omega) HSK.out H32.out⟩
    · rw [hf] at d6
      cases h32 : (c == UInt8.ofNat 32)
      · have g32 : ((c.toNat : Int) != 32) = true := by have := byte_ne 32 (by omega) h32; simpa using this
        have HL : Hid (lay s1 c = s1) := by show lay s1 c = s1; unfold lay; rw [hf]; rw [if_pos (by have : (c == 32) = false := h32; simp [bne, this])]
        go_wp2
        (try simp only [Exit.inBlock, Exit.then])
        refine bodyPost_ret (results_none rfl _ _ _) rfl ?_
        exact ⟨rfl, by rw [← H2.out, HL.out]; exact ⟨⟨_, _, _, _, _, _, _, HM1.out⟩, HB1.out⟩⟩
      · have g32 : ((c.toNat : Int) != 32) = false := by have := byte_eq 32 (by omega) h32; simpa using this
        have g33 : ((c.toNat : Int) == 32) = true := byte_eq 32 (by omega) h32
        have H32 : Hid ((c == 32) = true) := h32
        clear h32
        by_cases h3 : (3 : Int) ≤ (s1.spaces : Int)
        · have HL : Hid (lay s1 c = s1) := by
            show lay s1 c = s1
            unfold lay
            rw [hf, if_pos]
            have : decide (3 ≤ s1.spaces) = true := by simp; omega
            rw [this]; simp
          go_wp2
          (try simp only [Exit.inBlock, Exit.then])
          refine bodyPost_ret (results_none rfl _ _ _) rfl ?_
          exact ⟨rfl, by rw [← H2.out, HL.out]; exact ⟨⟨_, _, _, _, _, _, _, HM1.out⟩, HB1.out⟩⟩
        · have HSK : Hid ((s1.full && (c != 32 || 3 ≤ s1.spaces)) = false) := by
            show _ = false
            have : decide (3 ≤ s1.spaces) = false := by simp; omega
            rw [hf, this, bne, H32.out]; rfl
          go_wp2_with (at_builtin; refine wpList_append_mem rfl (.tmp 66) (.tmp 68) 22 rfl (HM1.out.mem.grow (World.grownBy_alloc _ _ none)) 2 rfl i0 (.int .u8 0) 1 Tryd.underlying22 hi hz0 hz1 hz2 rfl (by decide) (.slice (some ⟨wc.heap.size, 0, none⟩) 1 1) 1 [.int .u8 (c.toNat : Int)] rfl rfl (src_one wc _ rfl 5) (by unfold maxLen; omega) (by omega) ?_; intro a' c' w2 hM2 hB2; obtain ⟨k4, k5, k6, q4, q5, q6⟩ := hM2.w456 (s := s1) rfl; have HM2 : Hid _ := hM2; have HB2 : Hid _ := hB2; clear hM2 hB2)
          go_end0
          rw [← H2.out]
          exact ⟨rfl, lay_fin_space HM1.out HB1.out _ HM2.out HB2.out _ (by rw [hf]; simp; try omega) _ (by omega) HSK.out H32.out⟩

theorem put_any (w : World) (B pw pt : Nat) (s : St) (c : UInt8) (h : WrV w B pw pt s) (hb : s.out.length ≤ 1073741824) (hsp : s.spaces ≤ 3) :
    Calls Tryd.prog 21 #[.pointer (some ⟨pw, 0, none⟩), .int .u8 c.toNat] w fun e w' => e = .returned (.tuple #[]) ∧ Aft w B pw pt (put s c) w' := by
  refine put_in w B pw pt s (marks s c) (put s c) c (rfl : marks s c = marks s c) (rfl : lay (marks s c) c = put s c) h ?_ ?_
  · have : (marks s c).out = s.out := by unfold marks; split <;> (try split) <;> rfl
    rw [this]; exact hb
  · have : (marks s c).spaces = s.spaces := by unfold marks; split <;> (try split) <;> rfl
    rw [this]; exact hsp
end Go.Proofs.Qxb6616348aDoor
