import Derived.Test.Qxb6616348aDoorFold
set_option linter.unusedSimpArgs false
set_option linter.unusedVariables false
namespace Go.Proofs.Qxb6616348aDoor
open Go.RowKit


/-- how many bytes of a run the text begins with -/
def runLen (j : Bool) : Bs → Nat
  | [] => 0
  | c :: l => if isDigit c then 1 + runLen j l else if j && c == 95 && (l.head?.map isDigit == some true) then 1 + runLen j l else 0
def digs (r : Bs) : Bs := r.filter (· != 95)
/-- the run r has been read -/
def ran (s : St) (r : Bs) : St := { s with length := r.length, short := r, run := valOf s.keep (digs r) }
def mstep (s : St) (c : UInt8) : St := if s.full then (if c == 32 && decide (s.spaces < 3) then put s 32 else s) else put s c
/-- the model, on the writer's state -/
def model : Nat → St → Bs → St
  | 0, s, _ => s
  | _ + 1, s, [] => s
  | f + 1, s, c :: l =>
    if s.full || !isDigit c then model f (mstep s c) l
    else
      let n := runLen (s.us && !s.ex) (c :: l)
      let rest := (c :: l).drop n
      if rest.isEmpty || ((s.us && !s.ex) && rest == [95]) then { s with inRun := true }
      else model f (close (ran s ((c :: l).take n))) rest

structure Co (s t : St) : Prop where
  out : s.out = t.out
  spaces : s.spaces = t.spaces
  full : s.full = t.full
  shifts : s.shifts = t.shifts
  runs : s.runs = t.runs
  us : s.us = t.us
  keep : s.keep = t.keep
  ex : s.full = false → s.ex = t.ex
  mark : s.full = false → s.mark = t.mark
  ri : s.inRun = false
  ti : t.inRun = false
  ru : s.und = false
structure Fin (s t : St) : Prop where
  out : s.out = t.out
  spaces : s.spaces = t.spaces
  full : s.full = t.full
  inRun : s.inRun = t.inRun
  shifts : s.shifts = t.shifts
  runs : s.runs = t.runs
theorem Co.fin {s t : St} (h : Co s t) : Fin s t := ⟨h.out, h.spaces, h.full, by rw [h.ri, h.ti], h.shifts, h.runs⟩

theorem put_ex (s : St) (c : UInt8) : (put s c).ex = (marks s c).ex ∧ (put s c).mark = (marks s c).mark := by
  unfold put lay
  split <;> exact ⟨rfl, rfl⟩
theorem put_co (s : St) (c : UInt8) : (put s c).out = (if s.full && (c != 32 || 3 ≤ s.spaces) then s.out else s.out ++ [c]) ∧ (put s c).spaces = (if s.full && (c != 32 || 3 ≤ s.spaces) then s.spaces else if c == 32 then min (s.spaces + 1) 3 else s.spaces) ∧ (put s c).full = (if s.full && (c != 32 || 3 ≤ s.spaces) then s.full else (s.full || decide (512 ≤ s.out.length + 1))) := by
  obtain ⟨e1, e2, e3⟩ := marks_out s c
  unfold put lay
  rw [e1, e2, e3]
  split
  · exact ⟨e1, e2, e3⟩
  · exact ⟨rfl, rfl, rfl⟩
theorem put_full {s : St} (c : UInt8) (h : s.full = true) : (put s c).full = true := by
  rw [(put_co s c).2.2, h]
  split <;> simp
theorem marks_congr {s t : St} (c : UInt8) (h1 : s.ex = t.ex) (h2 : s.mark = t.mark) : (marks s c).ex = (marks t c).ex ∧ (marks s c).mark = (marks t c).mark := by
  unfold marks
  rw [← h2]
  split
  · exact ⟨rfl, rfl⟩
  · split
    · exact ⟨h1, rfl⟩
    · exact ⟨rfl, rfl⟩

theorem Co.put {s t : St} (h : Co s t) (c : UInt8) : Co (put s c) (put t c) := by
  obtain ⟨a1, a2, a3⟩ := put_co s c
  obtain ⟨b1, b2, b3⟩ := put_co t c
  obtain ⟨e1, e2, e3, e4, e5, e6, e7, e8, e9, e10, e11⟩ := put_keep s c
  obtain ⟨f1, f2, f3, f4, f5, f6, f7, f8, f9, f10, f11⟩ := put_keep t c
  refine ⟨by rw [a1, b1, h.full, h.spaces, h.out], by rw [a2, b2, h.full, h.spaces], by rw [a3, b3, h.full, h.spaces, h.out], by rw [e8, f8, h.shifts], by rw [e7, f7, h.runs], by rw [e11, f11, h.us], by rw [e1, f1, h.keep], ?_, ?_, by rw [e6, h.ri], by rw [f6, h.ti], by rw [e5, h.ru]⟩
  · intro hf
    have hs : s.full = false := by cases hh : s.full with | false => rfl | true => rw [put_full c hh] at hf; cases hf
    rw [(put_ex s c).1, (put_ex t c).1]
    exact (marks_congr c (h.ex hs) (h.mark hs)).1
  · intro hf
    have hs : s.full = false := by cases hh : s.full with | false => rfl | true => rw [put_full c hh] at hf; cases hf
    rw [(put_ex s c).2, (put_ex t c).2]
    exact (marks_congr c (h.ex hs) (h.mark hs)).2
/-- a byte outside a run, put -/
theorem Co.mput {s t : St} (h : Co s t) (c : UInt8) : Co (Qxb6616348aDoor.put s c) (mstep t c) := by
  unfold mstep
  cases hf : t.full with
  | false => simp only [Bool.false_eq_true, if_false]; exact h.put c
  | true =>
    simp only [if_true]
    by_cases hc : (c == 32 && decide (t.spaces < 3)) = true
    · rw [if_pos hc]
      have : c = 32 := by simp at hc; exact hc.1
      subst this
      exact h.put 32
    · rw [if_neg hc]
      obtain ⟨a1, a2, a3⟩ := put_co s c
      have hcond : (s.full && (c != 32 || decide (3 ≤ s.spaces))) = true := by
        rw [h.full, hf, h.spaces]
        simp at hc ⊢
        by_cases h32 : c = 32
        · have := hc h32; right; omega
        · exact .inl h32
      rw [if_pos hcond] at a1 a2 a3
      obtain ⟨e1, e2, e3, e4, e5, e6, e7, e8, e9, e10, e11⟩ := put_keep s c
      refine ⟨by rw [a1, h.out], by rw [a2, h.spaces], by rw [a3, h.full], by rw [e8, h.shifts], by rw [e7, h.runs], by rw [e11, h.us], by rw [e1, h.keep], ?_, ?_, by rw [e6, h.ri], h.ti, by rw [e5, h.ru]⟩
      · intro hh; rw [a3, h.full, hf] at hh; cases hh
      · intro hh; rw [a3, h.full, hf] at hh; cases hh
theorem Co.step_full {s t : St} (h : Co s t) (hf : s.full = true) (c : UInt8) : Co (step s c) (mstep t c) := by
  unfold step mstep
  rw [h.ri, hf, ← h.full, hf, ← h.spaces]
  simp only [Bool.not_false, Bool.and_true, if_true]
  split
  · exact h.put 32
  · exact h
theorem Co.close {s t : St} (ho : s.out = t.out) (hsp : s.spaces = t.spaces) (hsh : s.shifts = t.shifts) (hr : s.runs = t.runs) (hus : s.us = t.us) (hk : s.keep = t.keep) (hex : s.ex = t.ex) (hm : s.mark = t.mark) (hl : s.length = t.length) (hrun : s.run = t.run) (hs : s.length ≤ 40 → s.short = t.short) :
    Co { Qxb6616348aDoor.close s with und := false } (Qxb6616348aDoor.close t) := by
  rw [close_eq s, close_eq t, ← hl]
  by_cases h40 : s.length ≤ 40
  · rw [if_pos h40, if_pos h40]
    exact ⟨by show s.out ++ s.short = t.out ++ t.short; rw [ho, hs h40], hsp, by show decide (512 ≤ (s.out ++ s.short).length) = decide (512 ≤ (t.out ++ t.short).length); rw [ho, hs h40], hsh, hr, hus, hk, fun _ => hex, fun _ => hm, rfl, rfl, rfl⟩
  · rw [if_neg h40, if_neg h40, longRun_eq, longRun_eq]
    have e1 : s.out ++ standIn s.run (41 + min s.runs.length 3) = t.out ++ standIn t.run (41 + min t.runs.length 3) := by rw [ho, hrun, hr]
    refine ⟨e1, hsp, by show decide (512 ≤ (s.out ++ standIn s.run (41 + min s.runs.length 3)).length) = decide (512 ≤ (t.out ++ standIn t.run (41 + min t.runs.length 3)).length); rw [e1], ?_, ?_, hus, hk, fun _ => hex, fun _ => hm, rfl, rfl, rfl⟩
    · simp [shut, hsh, ho, hr, hl]
    · show (if s.runs.length < 3 then s.runs ++ [s.run] else s.runs) = (if t.runs.length < 3 then t.runs ++ [t.run] else t.runs)
      rw [hr, hrun]

/-- the run goes on by r -/
def onRun (s : St) (D r : Bs) : St := setRun (grow s r) (valOf s.keep (D ++ digs r))
theorem dig_not95 {c : UInt8} (h : isDigit c = true) : c ≠ 95 := by
  intro e; subst e; exact absurd h (by decide)
theorem dig_on (s : St) (c : UInt8) (D : Bs) (hk : 1 ≤ s.keep) (hi : s.inRun = true) (hr : s.run = valOf s.keep D) (hc : isDigit c = true) : dig s [c] = onRun s D [c] := by
  rw [dig_eq s [c] D hk (by rw [start_of hi]; exact hr), start_of hi]
  unfold onRun digs
  have := dig_not95 hc
  simp [this]
theorem onRun_keep (s : St) (D r : Bs) : (onRun s D r).keep = s.keep ∧ (onRun s D r).inRun = s.inRun ∧ (onRun s D r).und = s.und ∧ (onRun s D r).joins = s.joins ∧ (onRun s D r).run = valOf s.keep (D ++ digs r) := by
  unfold onRun setRun grow
  split <;> exact ⟨rfl, rfl, rfl, rfl, rfl⟩
theorem onRun_onRun (s : St) (D a b : Bs) : norm (onRun (onRun s D a) (D ++ digs a) b) = norm (onRun s D (a ++ b)) := by
  unfold onRun
  have e : (setRun (grow s a) (valOf s.keep (D ++ digs a))).keep = s.keep := by show (grow s a).keep = _; rw [grow_keep]
  rw [e, grow_setRun, setRun_norm, setRun_norm, setRun_norm, grow_grow]
  unfold digs
  rw [List.filter_append, List.append_assoc]
  rfl
theorem onRun_nil (s : St) (D : Bs) (hr : s.run = valOf s.keep D) : norm (onRun s D []) = norm s := by
  have : norm (grow s []) = norm s := by
    by_cases h : s.length ≤ 40
    · rw [grow_pos (by simpa using h)]; simp
    · rw [grow_neg (by simpa using h)]; simp
  unfold onRun
  rw [setRun_norm, this]
  show setRun (norm s) (valOf s.keep (D ++ digs [])) = norm s
  have h2 : valOf s.keep (D ++ digs []) = (norm s).run := by show _ = s.run; rw [hr]; simp [digs]
  rw [h2]
  rfl
theorem step_dig {s : St} {c : UInt8} (hi : s.inRun = true) (hc : isDigit c = true) : step s c = dig (unund s) [c] := by unfold step; rw [hi, hc]; simp
theorem step_und {s : St} (hi : s.inRun = true) (hj : s.joins = true) (hu : s.und = false) : step s 95 = { s with und := true } := by
  unfold step; rw [hi, hj, hu]
  have : isDigit 95 = false := by decide
  simp [this]
theorem fold_run : ∀ (k : Nat) (l : Bs) (s : St) (D : Bs), l.length ≤ k → 1 ≤ s.keep → s.inRun = true → s.und = false → s.run = valOf s.keep D → norm ((l.take (runLen s.joins l)).foldl step s) = norm (onRun s D (l.take (runLen s.joins l))) := by
  intro k
  induction k with
  | zero =>
    intro l s D hl hk hi hu hr
    have : l = [] := List.eq_nil_of_length_eq_zero (by omega)
    subst this
    simp [runLen, onRun_nil s D hr]
  | succ k ih =>
    intro l s D hl hk hi hu hr
    cases l with
    | nil => simp [runLen, onRun_nil s D hr]
    | cons c l =>
      simp at hl
      by_cases hc : isDigit c = true
      · have e : runLen s.joins (c :: l) = runLen s.joins l + 1 := by simp [runLen, hc]; omega
        rw [e, List.take_succ_cons, List.foldl_cons, step_dig hi hc, unund_of hu, dig_on s c D hk hi hr hc]
        obtain ⟨k1, k2, k3, k4, k5⟩ := onRun_keep s D [c]
        have := ih l (onRun s D [c]) (D ++ digs [c]) (by omega) (by rw [k1]; exact hk) (by rw [k2]; exact hi) (by rw [k3]; exact hu) (by rw [k5, k1])
        rw [k4] at this
        rw [this, onRun_onRun]
        rfl
      · have hc' : isDigit c = false := by simpa using hc
        by_cases hx : (s.joins && c == 95 && (l.head?.map isDigit == some true)) = true
        · have hx' := hx
          simp only [Bool.and_eq_true] at hx'
          obtain ⟨⟨hj, h95⟩, hd⟩ := hx'
          have h95 : c = 95 := by simpa using h95
          subst h95
          cases l with
          | nil => simp at hd
          | cons d l =>
            have hd : isDigit d = true := by simpa using hd
            have e : runLen s.joins (95 :: d :: l) = runLen s.joins l + 1 + 1 := by
              rw [runLen, hc']
              simp only [Bool.false_eq_true, if_false, hx, if_true]
              rw [runLen, hd]
              simp only [if_true]
              omega
            rw [e, List.take_succ_cons, List.take_succ_cons, List.foldl_cons, List.foldl_cons, step_und hi hj hu]
            rw [step_dig (by exact hi) hd]
            have eu : unund { s with und := true } = grow s [95] := by
              have hu2 : ({ s with und := false } : St) = s := by cases s; simp at hu; subst hu; rfl
              unfold unund
              show (if true = true then extendRun { s with und := false } [95] else _) = _
              rw [if_pos rfl, hu2]
              unfold extendRun
              rw [start_of hi]
            have hgk : (grow s [95]).keep = s.keep := grow_keep s _
            have hgr : (grow s [95]).run = valOf (grow s [95]).keep D := by rw [grow_run, hgk, hr]
            have hgi : (grow s [95]).inRun = true := by rw [grow_inRun, hi]
            rw [eu, dig_on (grow s [95]) d D (by rw [hgk]; exact hk) hgi hgr hd]
            obtain ⟨k1, k2, k3, k4, k5⟩ := onRun_keep (grow s [95]) D [d]
            have hjj : (grow s [95]).joins = s.joins := by unfold grow; split <;> rfl
            have := ih l (onRun (grow s [95]) D [d]) (D ++ digs [d]) (by simp at hl; omega) (by rw [k1, hgk]; exact hk) (by rw [k2]; exact hgi) (by rw [k3, grow_und]; exact hu) (by rw [k5, k1])
            rw [k4, hjj] at this
            rw [this, onRun_onRun]
            unfold onRun
            rw [setRun_norm, setRun_norm, hgk, grow_grow]
            have : digs ([95] ++ ([d] ++ l.take (runLen s.joins l))) = digs ([d] ++ l.take (runLen s.joins l)) := by simp [digs]
            rw [← this]
            rfl
        · have e : runLen s.joins (c :: l) = 0 := by
            rw [runLen, hc']
            simp only [Bool.false_eq_true, if_false, hx]
          rw [e]
          simp [onRun_nil s D hr]

theorem Fin.of_norm {s s' t : St} (e : norm s = norm s') (h : Fin s' t) : Fin s t := by
  have e1 : s.out = s'.out := by have := congrArg St.out e; exact this
  have e2 : s.spaces = s'.spaces := by have := congrArg St.spaces e; exact this
  have e3 : s.full = s'.full := by have := congrArg St.full e; exact this
  have e4 : s.inRun = s'.inRun := by have := congrArg St.inRun e; exact this
  have e5 : s.shifts = s'.shifts := by have := congrArg St.shifts e; exact this
  have e6 : s.runs = s'.runs := by have := congrArg St.runs e; exact this
  exact ⟨e1.trans h.out, e2.trans h.spaces, e3.trans h.full, e4.trans h.inRun, e5.trans h.shifts, e6.trans h.runs⟩
theorem end_und {v : St} (hi : v.inRun = true) (hu : v.und = true) : endRun v = put { close v with und := false } 95 := by
  unfold endRun tail
  rw [if_pos hi, (close_und v).1, if_pos hu]
theorem end_no {v : St} (hi : v.inRun = true) (hu : v.und = false) : endRun v = { close v with und := false } := by
  unfold endRun tail
  have := (close_und v).1
  rw [if_pos hi, this, hu, if_neg (by simp)]
  rw [hu] at this
  rw [← this]
theorem step_other {v : St} {y : UInt8} (hi : v.inRun = true) (hy : isDigit y = false) (h : (y == 95 && v.joins && !v.und) = false) : step v y = put (endRun v) y := by
  unfold step
  rw [hi, hy]
  simp only [Bool.not_true, Bool.and_false, Bool.and_true, Bool.false_eq_true, if_false, h]
theorem mstep_keep (t : St) (c : UInt8) : (mstep t c).keep = t.keep := by
  unfold mstep
  split
  · split
    · exact (put_keep t 32).1
    · rfl
  · exact (put_keep t c).1
theorem close_keep (t : St) : (close t).keep = t.keep := by
  rw [close_eq]
  split
  · rfl
  · rw [longRun_eq]; rfl
theorem step_start {s : St} {c : UInt8} (hf : s.full = false) (hu : s.und = false) (hc : isDigit c = true) : step s c = step (start s) c := by
  have hu2 : (start s).und = false := by unfold start; split <;> exact hu
  rw [step_dig (start_inRun s) hc, unund_of hu2]
  unfold step
  rw [hf, hc]
  simp only [Bool.false_and, Bool.false_eq_true, if_false, if_true]
  rw [unund_of hu]
  unfold dig extendRun
  rw [start_of (start_inRun s)]
theorem runLen_pos {j : Bool} {c : UInt8} {l : Bs} (hc : isDigit c = true) : 1 ≤ runLen j (c :: l) := by
  rw [runLen, hc]; simp
theorem runLen_le (j : Bool) (l : Bs) : runLen j l ≤ l.length := by
  induction l with
  | nil => simp [runLen]
  | cons c l ih =>
    rw [runLen]
    split
    · simp; omega
    · split
      · simp; omega
      · simp
/-- where a run ends -/
theorem runLen_stop (j : Bool) (l : Bs) (x : UInt8) (l2 : Bs) (h : l.drop (runLen j l) = x :: l2) : isDigit x = false ∧ (j && x == 95 && (l2.head?.map isDigit == some true)) = false := by
  induction l with
  | nil => simp at h
  | cons c l ih =>
    rw [runLen] at h
    split at h
    · rw [Nat.add_comm, List.drop_succ_cons] at h
      exact ih h
    · rename_i hc
      split at h
      · rw [Nat.add_comm, List.drop_succ_cons] at h
        exact ih h
      · rename_i hx
        simp at h
        obtain ⟨rfl, rfl⟩ := h
        exact ⟨by simpa using hc, by simpa using hx⟩

theorem model_fold : ∀ (k : Nat) (text : Bs) (f : Nat) (s t : St), text.length ≤ k → text.length ≤ f → Co s t → 1 ≤ t.keep → Fin (text.foldl step s) (model f t text) := by
  intro k
  induction k with
  | zero =>
    intro text f s t hk hf h hkeep
    have : text = [] := List.eq_nil_of_length_eq_zero (by omega)
    subst this
    have : model f t [] = t := by cases f <;> rfl
    rw [this]
    exact h.fin
  | succ k ih =>
    intro text f s t hk hf h hkeep
    cases text with
    | nil =>
      have : model f t [] = t := by cases f <;> rfl
      rw [this]
      exact h.fin
    | cons c l =>
      simp only [List.length_cons] at hk hf
      obtain ⟨f, rfl⟩ : ∃ g, f = g + 1 := ⟨f - 1, by omega⟩
      by_cases hfull : s.full = true
      · have hm : model (f + 1) t (c :: l) = model f (mstep t c) l := by rw [model, ← h.full, hfull]; rfl
        rw [hm, List.foldl_cons]
        exact ih l f _ _ (by omega) (by omega) (h.step_full hfull c) (by rw [mstep_keep]; exact hkeep)
      · have hfull : s.full = false := by simpa using hfull
        by_cases hc : isDigit c = true
        · -- a run
          have hj : (t.us && !t.ex) = (s.us && !s.ex) := by rw [h.us, h.ex hfull]
          obtain ⟨n, hn⟩ : ∃ n, runLen (s.us && !s.ex) (c :: l) = n := ⟨_, rfl⟩
          have hn1 : 1 ≤ n := by rw [← hn]; exact runLen_pos hc
          obtain ⟨r, hr⟩ : ∃ r, (c :: l).take n = r := ⟨_, rfl⟩
          obtain ⟨rest, hrest⟩ : ∃ rest, (c :: l).drop n = rest := ⟨_, rfl⟩
          have hsplit : c :: l = r ++ rest := by rw [← hr, ← hrest, List.take_append_drop]
          have hrl : rest.length ≤ l.length := by rw [← hrest]; simp; omega
          have hmod : model (f + 1) t (c :: l) = if rest.isEmpty || ((s.us && !s.ex) && rest == [95]) then { t with inRun := true } else model f (close (ran t r)) rest := by
            rw [model, ← h.full, hfull, hc]
            simp only [Bool.not_true, Bool.or_self, Bool.false_eq_true, if_false, hj, hn, hr, hrest]
          have hst : start s = { s with inRun := true, length := 0, short := [], joins := s.us && !s.ex, run := ⟨0, [], 0, false⟩ } := by unfold start; rw [h.ri]; rfl
          have hks : s.keep = t.keep := h.keep
          have hfr : norm (r.foldl step s) = norm (onRun (start s) [] r) := by
            have e1 : r.foldl step s = r.foldl step (start s) := by
              obtain ⟨m, rfl⟩ : ∃ m, n = m + 1 := ⟨n - 1, by omega⟩
              rw [← hr, List.take_succ_cons, List.foldl_cons, List.foldl_cons, step_start hfull h.ru hc]
            have hjo : (start s).joins = (s.us && !s.ex) := by rw [hst]
            have := fold_run (c :: l).length (c :: l) (start s) [] (Nat.le_refl _) (by rw [start_keep, hks]; exact hkeep) (start_inRun s) (by rw [hst]; exact h.ru) (by rw [hst]; exact (valOf_nil _).symm)
            rw [hjo, hn, hr] at this
            rw [e1, this]
          obtain ⟨u, hu⟩ : ∃ u, onRun (start s) [] r = u := ⟨_, rfl⟩
          rw [hu] at hfr
          have hui : u.inRun = true := by rw [← hu, (onRun_keep _ _ _).2.1]; exact start_inRun s
          have huu : u.und = false := by rw [← hu, (onRun_keep _ _ _).2.2.1, hst]; exact h.ru
          have huj : u.joins = (s.us && !s.ex) := by rw [← hu, (onRun_keep _ _ _).2.2.2.1, hst]
          have hug : u.out = s.out ∧ u.spaces = s.spaces ∧ u.full = s.full ∧ u.shifts = s.shifts ∧ u.runs = s.runs ∧ u.us = s.us ∧ u.keep = s.keep ∧ u.ex = s.ex ∧ u.mark = s.mark ∧ u.length = r.length ∧ u.run = valOf s.keep (digs r) ∧ (u.length ≤ 40 → u.short = r) := by
            rw [← hu, hst]
            unfold onRun setRun grow
            by_cases h40 : r.length ≤ 40
            · simp [h40]
            · simp [h40]
          obtain ⟨g1, g2, g3, g4, g5, g6, g7, g8, g9, g10, g11, g12⟩ := hug
          rw [hmod, hsplit, List.foldl_append]
          by_cases hend : (rest.isEmpty || ((s.us && !s.ex) && rest == [95])) = true
          · rw [if_pos hend]
            have hfu : ∀ v : St, (v.out = u.out ∧ v.spaces = u.spaces ∧ v.full = u.full ∧ v.inRun = u.inRun ∧ v.shifts = u.shifts ∧ v.runs = u.runs) → Fin v { t with inRun := true } := fun v hv =>
              ⟨by rw [hv.1, g1]; exact h.out, by rw [hv.2.1, g2]; exact h.spaces, by rw [hv.2.2.1, g3]; exact h.full, by rw [hv.2.2.2.1, hui], by rw [hv.2.2.2.2.1, g4]; exact h.shifts, by rw [hv.2.2.2.2.2, g5]; exact h.runs⟩
            rcases Bool.or_eq_true _ _ ▸ hend with he | he
            · have : rest = [] := by simpa using he
              rw [this]
              exact Fin.of_norm hfr (hfu u ⟨rfl, rfl, rfl, rfl, rfl, rfl⟩)
            · have he' := Bool.and_eq_true _ _ ▸ he
              have : rest = [95] := by simpa using he'.2
              rw [this, List.foldl_cons, List.foldl_nil]
              refine Fin.of_norm (norm_congr1 (f := fun s => step s 95) (fun s => step_norm s 95) hfr) ?_
              show Fin (step u 95) _
              rw [step_und hui (by rw [huj]; exact he'.1) huu]
              exact hfu _ ⟨rfl, rfl, rfl, rfl, rfl, rfl⟩
          · rw [if_neg hend]
            have hend' : (rest.isEmpty || ((s.us && !s.ex) && rest == [95])) = false := by simpa using hend
            cases rest with
            | nil => simp at hend'
            | cons x l2 =>
              obtain ⟨hxd, hxs⟩ := runLen_stop (s.us && !s.ex) (c :: l) x l2 (by rw [hn, hrest])
              have hrk : (ran t r).keep = t.keep := rfl
              have hco : ∀ v : St, v.out = u.out → v.spaces = u.spaces → v.shifts = u.shifts → v.runs = u.runs → v.us = u.us → v.keep = u.keep → v.ex = u.ex → v.mark = u.mark → v.length = u.length → v.run = u.run → v.short = u.short → Co { close v with und := false } (close (ran t r)) := by
                intro v v1 v2 v3 v4 v5 v6 v7 v8 v9 v10 v11
                refine Co.close ?_ ?_ ?_ ?_ ?_ ?_ ?_ ?_ ?_ ?_ ?_
                · rw [v1, g1]; exact h.out
                · rw [v2, g2]; exact h.spaces
                · rw [v3, g4]; exact h.shifts
                · rw [v4, g5]; exact h.runs
                · rw [v5, g6]; exact h.us
                · rw [v6, g7]; exact h.keep
                · rw [v7, g8]; exact h.ex hfull
                · rw [v8, g9]; exact h.mark hfull
                · rw [v9, g10]; rfl
                · rw [v10, g11, hks]; rfl
                · intro h40; rw [v11]; exact g12 (by rw [← v9]; exact h40)
              have hkc : 1 ≤ (close (ran t r)).keep := by rw [close_keep, hrk]; exact hkeep
              obtain ⟨f, rfl⟩ : ∃ g, f = g + 1 := ⟨f - 1, by simp at hrl; omega⟩
              have hm1 : ∀ (g : Nat) (v : St) (y : UInt8) (m : Bs), isDigit y = false → model (g + 1) v (y :: m) = model g (mstep v y) m := by
                intro g v y m hy
                rw [model, hy]
                simp
              rw [hm1 f _ x l2 hxd, List.foldl_cons]
              by_cases hx95 : ((s.us && !s.ex) && x == 95) = true
              · obtain ⟨hjt, hx⟩ := Bool.and_eq_true _ _ ▸ hx95
                have hx : x = 95 := by simpa using hx
                subst hx
                cases l2 with
                | nil => rw [hjt] at hend'; simp at hend'
                | cons y l3 =>
                  have hy : isDigit y = false := by
                    rw [hjt] at hxs
                    simpa using hxs
                  obtain ⟨f, rfl⟩ : ∃ g, f = g + 1 := ⟨f - 1, by simp at hrl; omega⟩
                  rw [hm1 f _ y l3 hy, List.foldl_cons]
                  have e2 : norm (step (step (r.foldl step s) 95) y) = norm (step (step u 95) y) :=
                    norm_congr1 (f := fun s => step (step s 95) y) (fun s => by
                      show norm (step (step (norm s) 95) y) = norm (step (step s 95) y)
                      exact norm_congr1 (f := fun s => step s y) (fun s => step_norm s y) (step_norm s 95)) hfr
                  have e3 : step (step u 95) y = put (put { close { u with und := true } with und := false } 95) y := by
                    rw [step_und hui (by rw [huj]; exact hjt) huu]
                    rw [step_other (by exact hui) hy (by simp), end_und (by exact hui) rfl]
                  refine Fin.of_norm (fold_norm l3 e2) ?_
                  rw [e3]
                  have hc1 := (hco { u with und := true } rfl rfl rfl rfl rfl rfl rfl rfl rfl rfl rfl).mput 95
                  exact ih l3 f _ _ (by simp at hrl; omega) (by simp at hrl; omega) (hc1.mput y) (by rw [mstep_keep, mstep_keep]; exact hkc)
              · have e2 : norm (step (r.foldl step s) x) = norm (step u x) := norm_congr1 (f := fun s => step s x) (fun s => step_norm s x) hfr
                have hnj : (x == 95 && u.inRun && u.joins && !u.und) = false := by
                  rw [huj, hui]
                  cases hjj : (s.us && !s.ex) with
                  | false => simp
                  | true =>
                    rw [hjj] at hx95
                    have : (x == 95) = false := by simpa using hx95
                    rw [this]; rfl
                have e3 : step u x = put { close u with und := false } x := by
                  rw [step_other hui hxd (by rw [hui] at hnj; simpa using hnj), end_no hui huu]
                refine Fin.of_norm (fold_norm l2 e2) ?_
                rw [e3]
                exact ih l2 f _ _ (by simp at hrl; omega) (by simp at hrl; omega) ((hco u rfl rfl rfl rfl rfl rfl rfl rfl rfl rfl rfl).mput x) (by rw [mstep_keep]; exact hkc)
        · have hc' : isDigit c = false := by simpa using hc
          have hm : model (f + 1) t (c :: l) = model f (mstep t c) l := by rw [model, hc']; simp
          have hs : step s c = put s c := by
            unfold step endRun tail
            rw [hfull, hc', h.ri]
            simp [h.ru]
          rw [hm, List.foldl_cons, hs]
          exact ih l f _ _ (by omega) (by omega) (h.mput c) (by rw [mstep_keep]; exact hkeep)
theorem co_init (us : Bool) (keep : Nat) : Co (init us keep) (init us keep) := ⟨rfl, rfl, rfl, rfl, rfl, rfl, rfl, fun _ => rfl, fun _ => rfl, rfl, rfl, rfl⟩
theorem all_fin (us : Bool) (keep : Nat) (text : Bs) (hk : 1 ≤ keep) : Fin (all us keep text) (model text.length (init us keep) text) := by
  have h := model_fold text.length text text.length (init us keep) (init us keep) (Nat.le_refl _) (Nat.le_refl _) (co_init us keep) hk
  exact ⟨h.out, h.spaces, h.full, h.inRun, h.shifts, h.runs⟩
end Go.Proofs.Qxb6616348aDoor
