import Derived.Test.Qxb6616348aDoorEnd
set_option linter.unusedSimpArgs false
set_option linter.unusedVariables false
namespace Go.Proofs.Qxb6616348aDoor
open Go.RowKit

/-- where the first digit that is not 0 stands, and the last one -/
def fz (d : Bs) : Nat := (d.takeWhile (· == 48)).length
def lz (d : Bs) : Int := (d.length : Int) - 1 - ((d.reverse.takeWhile (· == 48)).length : Int)
/-- a run's value, of its digits -/
def valOf (keep : Nat) (D : Bs) : Run :=
  ⟨fz D, (D.drop (fz D)).take keep, (D.drop (fz D)).length - keep, ((D.drop (fz D)).drop keep).any (· != 48)⟩

theorem fz_le (d : Bs) : fz d ≤ d.length := by
  unfold fz
  induction d with
  | nil => simp
  | cons a l ih => simp only [List.takeWhile_cons]; split <;> simp <;> omega
theorem fz_all (d : Bs) (h : fz d = d.length) : ∀ x ∈ d, x = 48 := by
  induction d with
  | nil => simp
  | cons a l ih =>
    unfold fz at h
    rw [List.takeWhile_cons] at h
    split at h
    · rename_i ha
      intro x hx
      rcases List.mem_cons.1 hx with rfl | hx
      · simpa using ha
      · exact ih (by unfold fz; simpa using h) x hx
    · simp at h
theorem fz_append_all {D : Bs} (h : fz D = D.length) (d : Bs) : fz (D ++ d) = D.length + fz d := by
  have := fz_all D h
  unfold fz
  rw [List.takeWhile_append_of_pos (by intro x hx; simp [this x hx])]
  simp
theorem fz_append_lt {D : Bs} (h : fz D < D.length) (d : Bs) : fz (D ++ d) = fz D := by
  unfold fz at *
  rw [List.takeWhile_append]
  rw [if_neg (by omega)]
theorem lz_snoc (d : Bs) (c : UInt8) : lz (d ++ [c]) = if c = 48 then lz d else (d.length : Int) := by
  unfold lz
  rw [List.reverse_append]
  simp only [List.reverse_singleton, List.singleton_append, List.takeWhile_cons, List.length_append, List.length_singleton]
  by_cases h : c = 48
  · simp [h]; omega
  · simp [h]
theorem lz_lt (d : Bs) : lz d < d.length := by unfold lz; omega
theorem lz_ge (d : Bs) : -1 ≤ lz d := by
  unfold lz
  have : (d.reverse.takeWhile (· == 48)).length ≤ d.length := fun_tw d
  omega
where
  fun_tw (d : Bs) : (d.reverse.takeWhile (· == 48)).length ≤ d.length := by
    have := (List.takeWhile_sublist (p := (· == (48 : UInt8))) (l := d.reverse)).length_le
    simpa using this

theorem rev_ind {P : Bs → Prop} (h0 : P []) (h1 : ∀ d c, P d → P (d ++ [c])) : ∀ d, P d := by
  intro d
  have : ∀ e : Bs, P e.reverse := by
    intro e
    induction e with
    | nil => exact h0
    | cons a l ih => rw [List.reverse_cons]; exact h1 _ _ ih
  have h := this d.reverse
  rwa [List.reverse_reverse] at h
theorem any_drop_iff (d : Bs) (m : Nat) : (d.drop m).any (· != 48) = decide ((m : Int) ≤ lz d) := by
  induction d using rev_ind with
  | h0 => simp [lz]; omega
  | h1 d c ih =>
    rw [lz_snoc]
    by_cases hm : m ≤ d.length
    · rw [List.drop_append_of_le_length hm, List.any_append, ih]
      by_cases hc : c = 48
      · simp [hc]
      · have : (m : Int) ≤ (d.length : Int) := by omega
        simp [hc, this]
    · rw [List.drop_eq_nil_of_le (by simp; omega)]
      have := lz_lt d
      simp
      split <;> omega

theorem valOf_nil (keep : Nat) : valOf keep [] = ⟨0, [], 0, false⟩ := by simp [valOf, fz]

theorem add_val (s : St) (D d : Bs) (hk : 1 ≤ s.keep) (hr : s.run = valOf s.keep D) : add s d (fz d) (lz d) = { s with run := valOf s.keep (D ++ d) } := by
  have hz := fz_le D
  have hzd := fz_le d
  by_cases hall : fz D = D.length
  · have hv : valOf s.keep D = ⟨D.length, [], 0, false⟩ := by simp [valOf, hall]
    rw [hv] at hr
    have hfa := fz_append_all hall d
    have hdrop : (D ++ d).drop (D.length + fz d) = d.drop (fz d) := by simp [List.drop_append]
    have hst := any_drop_iff d (fz d + s.keep)
    unfold add addT addZ addD addL
    simp only [hr, List.length_nil, if_true, Nat.sub_zero, List.nil_append, Nat.zero_add, Bool.false_or]
    have hv2 : valOf s.keep (D ++ d) = ⟨D.length + fz d, (d.drop (fz d)).take s.keep, (d.drop (fz d)).length - s.keep, ((d.drop (fz d)).drop s.keep).any (· != 48)⟩ := by
      unfold valOf; rw [hfa, hdrop]
    rw [hv2]
    rw [List.drop_drop, hst]
    by_cases hn : (d.drop (fz d)).length ≤ s.keep
    · rw [if_neg (by omega), Nat.min_eq_left hn, List.take_length, List.take_of_length_le hn]
      have h1 : (d.drop (fz d)).length - s.keep = 0 := by omega
      have h2 : decide (((fz d + s.keep : Nat) : Int) ≤ lz d) = false := by
        have := lz_lt d
        simp at hn ⊢
        omega
      rw [h1, h2]
    · rw [if_pos (by omega), Nat.min_eq_right (by omega)]
      have h2 : decide (((fz d + s.keep : Nat) : Int) ≤ lz d) = decide ((s.keep : Int) ≤ lz d - fz d) := by
        congr 1
        simp
        omega
      rw [h2]
  · have hlt : fz D < D.length := by omega
    have hfa := fz_append_lt hlt d
    have hdrop : (D ++ d).drop (fz D) = D.drop (fz D) ++ d := by rw [List.drop_append_of_le_length hz]
    have hv2 : valOf s.keep (D ++ d) = ⟨fz D, (D.drop (fz D) ++ d).take s.keep, (D.drop (fz D) ++ d).length - s.keep, ((D.drop (fz D) ++ d).drop s.keep).any (· != 48)⟩ := by
      unfold valOf; rw [hfa, hdrop]
    have hv : valOf s.keep D = ⟨fz D, (D.drop (fz D)).take s.keep, (D.drop (fz D)).length - s.keep, ((D.drop (fz D)).drop s.keep).any (· != 48)⟩ := rfl
    generalize hg : D.drop (fz D) = sig at *
    have hsl : 1 ≤ sig.length := by rw [← hg]; simp; omega
    have hkl : s.run.kept.length = min s.keep sig.length := by rw [hr, hv]; simp
    have hst := any_drop_iff d (s.keep - sig.length)
    have hl := lz_lt d
    unfold add addT addZ addD addL
    have hk0 : ¬ s.run.kept.length = 0 := by omega
    simp only [if_neg hk0]
    rw [hv2]
    simp only [hr, hv]
    rw [List.take_append, List.drop_append, List.any_append, hst]
    have hk2 : (sig.take s.keep).length = min s.keep sig.length := by simp
    rw [hk2]
    by_cases hn : min d.length (s.keep - min s.keep sig.length) < d.length
    · rw [if_pos hn]
      have e1 : min d.length (s.keep - min s.keep sig.length) = s.keep - sig.length := by omega
      have e2 : sig.length - s.keep + (d.length - (s.keep - sig.length)) = (sig ++ d).length - s.keep := by simp; omega
      rw [e1, e2]
    · rw [if_neg hn]
      have e1 : min d.length (s.keep - min s.keep sig.length) = d.length := by omega
      have e2 : sig.length - s.keep = (sig ++ d).length - s.keep := by simp; omega
      have e3 : decide (((s.keep - sig.length : Nat) : Int) ≤ lz d) = false := by simp; omega
      rw [e1, List.take_length, e3, Bool.or_false, ← e2, List.take_of_length_le (l := d) (i := s.keep - sig.length) (by omega)]

/-- the byte step -/
def unund (s : St) : St := if s.und then extendRun { s with und := false } [95] else s
def dig (s : St) (d : Bs) : St := add (extendRun s d) d (fz d) (lz d)
def step (s : St) (c : UInt8) : St :=
  if s.full && !s.inRun then (if c == 32 && decide (s.spaces < 3) then put s 32 else s)
  else if isDigit c then dig (unund s) [c]
  else if c == 95 && s.inRun && s.joins && !s.und then { s with und := true }
  else put (endRun s) c
/-- 'short' is read only while the run is short -/
def norm (s : St) : St := { s with short := if s.length ≤ 40 then s.short else [] }
/-- head and length of the text, which a step does not touch -/
def setH (s : St) (h : Bs) (n : Nat) : St := { s with head := h, tlen := n }

theorem marks_norm (s : St) (c : UInt8) : marks (norm s) c = norm (marks s c) := by
  unfold marks
  split
  · rfl
  · have : (norm s).mark = s.mark := rfl
    rw [this]
    split <;> rfl
theorem lay_norm (s : St) (c : UInt8) : lay (norm s) c = norm (lay s c) := by
  unfold lay
  have h1 : (norm s).full = s.full := rfl
  have h2 : (norm s).spaces = s.spaces := rfl
  rw [h1, h2]
  split <;> rfl
theorem put_norm (s : St) (c : UInt8) : put (norm s) c = norm (put s c) := by unfold put; rw [marks_norm, lay_norm]
theorem addZ_norm (s : St) (f : Nat) : addZ (norm s) f = norm (addZ s f) := by
  unfold addZ
  have h1 : (norm s).run = s.run := rfl
  rw [h1]
  split <;> rfl
theorem addT_norm (s : St) (d : Bs) (l : Int) : addT (norm s) d l = norm (addT s d l) := by
  unfold addT
  have h1 : (norm s).run = s.run := rfl
  have h2 : (norm s).keep = s.keep := rfl
  simp only [h1, h2]
  split <;> rfl
theorem add_norm (s : St) (d : Bs) (f : Nat) (l : Int) : add (norm s) d f l = norm (add s d f l) := by
  unfold add
  rw [addZ_norm, addT_norm]
  rfl
theorem norm_norm (s : St) : norm (norm s) = norm s := by
  unfold norm
  by_cases h : s.length ≤ 40 <;> simp [h]
theorem ext_norm (s : St) (b : Bs) : norm (extendRun (norm s) b) = norm (extendRun s b) := by
  unfold extendRun start
  have h1 : (norm s).inRun = s.inRun := rfl
  rw [h1]
  split
  · have h2 : (norm s).length = s.length := rfl
    unfold grow
    rw [h2]
    split
    · rename_i h
      have h3 : (norm s).short = s.short := by show (if s.length ≤ 40 then s.short else []) = _; rw [if_pos (by omega)]
      rw [h3]; rfl
    · rename_i h
      unfold norm
      simp [h]
  · rfl
theorem close_norm (s : St) : norm (close (norm s)) = norm (close s) := by
  unfold close
  have h2 : (norm s).length = s.length := rfl
  simp only [h2]
  split
  · rename_i h
    have h3 : (norm s).short = s.short := by show (if s.length ≤ 40 then s.short else []) = _; rw [if_pos (by omega)]
    simp only [h3]
    unfold shut norm
    simp [h]
  · rename_i h
    unfold longRun shut norm
    simp [h]
    split <;> simp_all
theorem tail_norm (s : St) : tail (norm s) = norm (tail s) := by
  unfold tail
  have h1 : (norm s).und = s.und := rfl
  rw [h1]
  split
  · exact put_norm { s with und := false } 95
  · rfl
theorem end_norm (s : St) : norm (endRun (norm s)) = norm (endRun s) := by
  unfold endRun
  have h1 : (norm s).inRun = s.inRun := rfl
  rw [h1, ← tail_norm, ← tail_norm]
  split
  · rw [close_norm]
  · rw [norm_norm]
theorem unund_norm (s : St) : norm (unund (norm s)) = norm (unund s) := by
  unfold unund
  have h1 : (norm s).und = s.und := rfl
  rw [h1]
  split
  · exact ext_norm { s with und := false } [95]
  · exact norm_norm s
theorem norm_congr1 {f : St → St} (h : ∀ s, norm (f (norm s)) = norm (f s)) {a b : St} (e : norm a = norm b) : norm (f a) = norm (f b) := by rw [← h a, ← h b, e]
theorem dig_norm (s : St) (d : Bs) : norm (dig (norm s) d) = norm (dig s d) := by
  unfold dig
  rw [← add_norm, ← add_norm, ext_norm]
theorem step_norm (s : St) (c : UInt8) : norm (step (norm s) c) = norm (step s c) := by
  unfold step
  have h1 : (norm s).inRun = s.inRun := rfl
  have h2 : (norm s).full = s.full := rfl
  have h3 : (norm s).spaces = s.spaces := rfl
  have h4 : (norm s).joins = s.joins := rfl
  have h5 : (norm s).und = s.und := rfl
  rw [h1, h2, h3, h4, h5]
  split
  · split
    · rw [put_norm, norm_norm]
    · exact norm_norm s
  · split
    · exact norm_congr1 (f := fun s => dig s [c]) (fun s => dig_norm s [c]) (unund_norm s)
    · split
      · unfold norm; by_cases h : s.length ≤ 40 <;> simp [h]
      · rw [← put_norm, ← put_norm, end_norm]
theorem fold_norm (l : Bs) {a b : St} (e : norm a = norm b) : norm (l.foldl step a) = norm (l.foldl step b) := by
  induction l generalizing a b with
  | nil => exact e
  | cons c l ih => exact ih (norm_congr1 (f := fun s => step s c) (fun s => step_norm s c) e)

/-- two pieces of a run's digits -/
theorem grow_pos {s : St} {b : Bs} (h : s.length + b.length ≤ 40) : grow s b = { s with length := s.length + b.length, short := s.short ++ b } := by unfold grow; rw [if_pos h]
theorem grow_neg {s : St} {b : Bs} (h : ¬ s.length + b.length ≤ 40) : grow s b = { s with length := s.length + b.length } := by unfold grow; rw [if_neg h]
theorem norm_pos {s : St} (h : s.length ≤ 40) : norm s = s := by unfold norm; rw [if_pos h]
theorem norm_neg {s : St} (h : ¬ s.length ≤ 40) : norm s = { s with short := [] } := by unfold norm; rw [if_neg h]
theorem grow_grow (s : St) (a b : Bs) : norm (grow (grow s a) b) = norm (grow s (a ++ b)) := by
  have hab : (a ++ b).length = a.length + b.length := by simp
  by_cases h1 : s.length + a.length + b.length ≤ 40
  · rw [grow_pos (s := s) (b := a) (by omega), grow_pos (b := b) (by exact h1), grow_pos (b := a ++ b) (by omega), hab]
    simp [Nat.add_assoc]
  · by_cases h2 : s.length + a.length ≤ 40
    · rw [grow_pos (s := s) (b := a) h2, grow_neg (b := b) (by exact h1), grow_neg (b := a ++ b) (by omega), norm_neg (by exact h1), norm_neg (by simp; omega), hab]
      simp [Nat.add_assoc]
    · rw [grow_neg (s := s) (b := a) h2, grow_neg (b := b) (by exact h1), grow_neg (b := a ++ b) (by omega), norm_neg (by exact h1), norm_neg (by simp; omega), hab]
      simp [Nat.add_assoc]
theorem start_inRun (s : St) : (start s).inRun = true := by unfold start; split <;> simp_all
theorem start_of {s : St} (h : s.inRun = true) : start s = s := by unfold start; rw [h]; rfl
theorem grow_inRun (s : St) (b : Bs) : (grow s b).inRun = s.inRun := by unfold grow; split <;> rfl
theorem grow_run (s : St) (b : Bs) : (grow s b).run = s.run := by unfold grow; split <;> rfl
theorem grow_keep (s : St) (b : Bs) : (grow s b).keep = s.keep := by unfold grow; split <;> rfl
theorem start_keep (s : St) : (start s).keep = s.keep := by unfold start; split <;> rfl
theorem start_run (s : St) (D : Bs) (h : s.run = valOf s.keep D) : ∃ D', (start s).run = valOf s.keep D' ∧ D'.length ≤ D.length := by
  unfold start
  split
  · exact ⟨D, h, Nat.le_refl _⟩
  · exact ⟨[], (valOf_nil _).symm, Nat.zero_le _⟩
def setRun (s : St) (r : Run) : St := { s with run := r }
theorem dig_eq (s : St) (d D : Bs) (hk : 1 ≤ s.keep) (hr : (start s).run = valOf s.keep D) : dig s d = setRun (grow (start s) d) (valOf s.keep (D ++ d)) := by
  unfold dig extendRun
  have e1 : (grow (start s) d).keep = s.keep := by rw [grow_keep, start_keep]
  have e2 : (grow (start s) d).run = valOf s.keep D := by rw [grow_run, hr]
  rw [add_val _ D d (by rw [e1]; exact hk) (by rw [e1]; exact e2)]
  rw [show valOf (grow (start s) d).keep (D ++ d) = valOf s.keep (D ++ d) from by rw [e1]]
  rfl
theorem setRun_norm (s : St) (r : Run) : norm (setRun s r) = setRun (norm s) r := rfl
theorem grow_setRun (s : St) (r : Run) (b : Bs) : grow (setRun s r) b = setRun (grow s b) r := by unfold grow setRun; split <;> rfl
theorem dig_inRun (s : St) (d D : Bs) (hk : 1 ≤ s.keep) (hr : s.run = valOf s.keep D) : (dig s d).inRun = true := by
  obtain ⟨D', h', _⟩ := start_run s D hr
  rw [dig_eq s d D' hk h']
  show (grow (start s) d).inRun = true
  rw [grow_inRun, start_inRun]
theorem dig_dig (s : St) (a b D : Bs) (hk : 1 ≤ s.keep) (hr : s.run = valOf s.keep D) : norm (dig (dig s a) b) = norm (dig s (a ++ b)) := by
  obtain ⟨D', h', _⟩ := start_run s D hr
  have hi := dig_inRun s a D hk hr
  rw [dig_eq s a D' hk h'] at hi ⊢
  rw [dig_eq s (a ++ b) D' hk h']
  have hkk : (setRun (grow (start s) a) (valOf s.keep (D' ++ a))).keep = s.keep := by show (grow (start s) a).keep = _; rw [grow_keep, start_keep]
  rw [dig_eq _ b (D' ++ a) (by rw [hkk]; exact hk) (by rw [start_of hi, hkk]; rfl), start_of hi, hkk, grow_setRun]
  rw [setRun_norm, setRun_norm, setRun_norm, List.append_assoc, ← grow_grow]
  rfl

/-- what a fold over bytes keeps -/
structure Inv (s : St) (k o : Nat) : Prop where
  keep : 1 ≤ s.keep
  run : ∃ D : Bs, s.run = valOf s.keep D ∧ D.length ≤ k
  out : s.out.length ≤ o
  len : s.length + (if s.und then 1 else 0) ≤ k
  short : s.short.length ≤ s.length ∧ s.short.length ≤ 40
  spaces : s.spaces ≤ 3
  runs : s.runs.length ≤ 3
  kept : ∀ r ∈ s.runs, r.kept.length ≤ k
  shifts : s.shifts.length + (if s.inRun then 1 else 0) ≤ k
  by1 : -(2097152 * (s.shifts.length : Int)) ≤ lastBy s.shifts
  by2 : lastBy s.shifts ≤ 2097152 * (s.shifts.length : Int)

theorem put_keep (s : St) (c : UInt8) : (put s c).keep = s.keep ∧ (put s c).run = s.run ∧ (put s c).length = s.length ∧ (put s c).short = s.short ∧ (put s c).und = s.und ∧ (put s c).inRun = s.inRun ∧ (put s c).runs = s.runs ∧ (put s c).shifts = s.shifts ∧ (put s c).head = s.head ∧ (put s c).tlen = s.tlen ∧ (put s c).us = s.us := by
  unfold put lay
  have : ∀ t, marks s c = t → t.keep = s.keep ∧ t.run = s.run ∧ t.length = s.length ∧ t.short = s.short ∧ t.und = s.und ∧ t.inRun = s.inRun ∧ t.runs = s.runs ∧ t.shifts = s.shifts ∧ t.head = s.head ∧ t.tlen = s.tlen ∧ t.us = s.us := by
    intro t ht
    subst ht
    unfold marks
    split
    · simp
    · split <;> simp
  have h := this _ rfl
  split
  · exact h
  · exact h
theorem marks_out (s : St) (c : UInt8) : (marks s c).out = s.out ∧ (marks s c).spaces = s.spaces ∧ (marks s c).full = s.full := by
  unfold marks
  split
  · simp
  · split <;> simp
theorem put_out (s : St) (c : UInt8) : (put s c).out.length ≤ s.out.length + 1 ∧ (s.spaces ≤ 3 → (put s c).spaces ≤ 3) := by
  have h := marks_out s c
  unfold put lay
  split
  · rw [h.1, h.2.1]; exact ⟨by omega, id⟩
  · simp only [h.1, h.2.1, List.length_append, List.length_singleton]
    refine ⟨by omega, fun h3 => ?_⟩
    split <;> omega
theorem Inv.put {s : St} {k o : Nat} (h : Inv s k o) (c : UInt8) : Inv (put s c) k (o + 1) := by
  obtain ⟨e1, e2, e3, e4, e5, e6, e7, e8, _⟩ := put_keep s c
  have h2 := put_out s c
  exact ⟨by rw [e1]; exact h.keep, by rw [e1, e2]; exact h.run, by have := h.out; omega, by rw [e3, e5]; exact h.len, by rw [e3, e4]; exact h.short, h2.2 h.spaces, by rw [e7]; exact h.runs, by rw [e7]; exact h.kept, by rw [e8, e6]; exact h.shifts, by rw [e8]; exact h.by1, by rw [e8]; exact h.by2⟩
theorem Inv.mono {s : St} {k k' o o' : Nat} (h : Inv s k o) (hk : k ≤ k') (ho : o ≤ o') : Inv s k' o' := by
  obtain ⟨D, h1, h2⟩ := h.run
  exact ⟨h.keep, ⟨D, h1, by omega⟩, Nat.le_trans h.out ho, Nat.le_trans h.len hk, h.short, h.spaces, h.runs, fun r hr => Nat.le_trans (h.kept r hr) hk, Nat.le_trans h.shifts hk, h.by1, h.by2⟩
theorem lastBy_snoc (l : List (Nat × Int)) (x : Nat × Int) : lastBy (l ++ [x]) = x.2 := by simp [lastBy]
theorem standIn_len (r : Run) (n : Nat) (h : 18 ≤ n) : (standIn r n).length = n := by
  unfold standIn
  have : (r.kept.take 18).length ≤ 18 := by simp; omega
  simp only []
  split <;> simp <;> omega
theorem valOf_kept (keep : Nat) (D : Bs) : (valOf keep D).kept.length ≤ D.length := by simp [valOf]; omega
theorem longRun_eq (s : St) : longRun s = { s with
    out := s.out ++ standIn s.run (41 + min s.runs.length 3),
    runs := if s.runs.length < 3 then s.runs ++ [s.run] else s.runs,
    run := if s.runs.length < 3 then ⟨0, [], 0, false⟩ else s.run,
    shifts := s.shifts ++ [(s.out.length + (41 + min s.runs.length 3), (s.length : Int) - (41 + min s.runs.length 3 : Nat) + lastBy s.shifts)] } := by
  unfold longRun
  have hl : (s.out ++ standIn s.run (41 + min s.runs.length 3)).length = s.out.length + (41 + min s.runs.length 3) := by
    rw [List.length_append, standIn_len _ _ (by omega)]
  by_cases h : s.runs.length < 3
  · have h2 : min s.runs.length 3 < 3 := by omega
    simp only [h, h2, if_true, hl]
  · have h2 : ¬ min s.runs.length 3 < 3 := by omega
    simp only [h, h2, if_false, hl]
theorem close_eq (s : St) : close s = if s.length ≤ 40 then shut { s with inRun := false, out := s.out ++ s.short } else shut (longRun { s with inRun := false }) := by
  unfold close
  by_cases h : s.length ≤ 40
  · simp [h]
  · simp [h]
theorem Inv.close {s : St} {k o : Nat} (h : Inv s k o) (hk : k ≤ 1048576) (hi : s.inRun = true) : Inv (close s) k (o + 44) := by
  obtain ⟨D, hr, hD⟩ := h.run
  have hl := h.len
  have ho := h.out
  have hs := h.shifts
  rw [hi] at hs
  simp only [if_true] at hs
  rw [close_eq]
  by_cases h40 : s.length ≤ 40
  · rw [if_pos h40]
    refine ⟨h.keep, h.run, ?_, h.len, h.short, h.spaces, h.runs, h.kept, ?_, h.by1, h.by2⟩
    · show (s.out ++ s.short).length ≤ _
      have := h.short
      simp; omega
    · show s.shifts.length + (if false then 1 else 0) ≤ k
      simp; omega
  · rw [if_neg h40, longRun_eq]
    have b1 := h.by1
    have b2 := h.by2
    have hrn := h.runs
    refine ⟨h.keep, ?_, ?_, h.len, h.short, h.spaces, ?_, ?_, ?_, ?_, ?_⟩
    · show ∃ D : Bs, (if s.runs.length < 3 then (⟨0, [], 0, false⟩ : Run) else s.run) = valOf s.keep D ∧ _
      split
      · exact ⟨[], (valOf_nil _).symm, Nat.zero_le _⟩
      · exact ⟨D, hr, hD⟩
    · show (s.out ++ standIn s.run (41 + min s.runs.length 3)).length ≤ _
      rw [List.length_append, standIn_len _ _ (by omega)]
      omega
    · show (if s.runs.length < 3 then s.runs ++ [s.run] else s.runs).length ≤ 3
      split
      · simp; omega
      · omega
    · show ∀ r ∈ (if s.runs.length < 3 then s.runs ++ [s.run] else s.runs), r.kept.length ≤ k
      intro r hr'
      split at hr'
      · rcases List.mem_append.1 hr' with h' | h'
        · exact h.kept r h'
        · rw [List.mem_singleton.1 h', show _ = s.run from rfl, hr]
          exact Nat.le_trans (valOf_kept _ _) hD
      · exact h.kept r hr'
    · show (s.shifts ++ [_]).length + (if false then 1 else 0) ≤ k
      simp; omega
    · show -(2097152 * ((s.shifts ++ [_]).length : Int)) ≤ lastBy (s.shifts ++ [_])
      rw [lastBy_snoc]
      simp only [List.length_append, List.length_singleton]
      omega
    · show lastBy (s.shifts ++ [_]) ≤ 2097152 * ((s.shifts ++ [_]).length : Int)
      rw [lastBy_snoc]
      simp only [List.length_append, List.length_singleton]
      omega
theorem close_und (s : St) : (close s).und = s.und ∧ (close s).inRun = false := by
  rw [close_eq]
  split
  · exact ⟨rfl, rfl⟩
  · rw [longRun_eq]; exact ⟨rfl, rfl⟩
theorem Inv.tail {s : St} {k o : Nat} (h : Inv s k o) : Inv (tail s) k (o + 1) ∧ (tail s).und = false ∧ (tail s).inRun = s.inRun := by
  unfold Qxb6616348aDoor.tail
  split
  · rename_i hu
    obtain ⟨e1, e2, e3, e4, e5, e6, e7, e8, _⟩ := put_keep { s with und := false } 95
    have hl := h.len
    rw [hu] at hl
    have h0 : Inv { s with und := false } k o := ⟨h.keep, h.run, h.out, by simp at hl ⊢; omega, h.short, h.spaces, h.runs, h.kept, h.shifts, h.by1, h.by2⟩
    exact ⟨h0.put 95, e5, e6⟩
  · rename_i hu
    exact ⟨h.mono (Nat.le_refl _) (by omega), by simpa using hu, rfl⟩
theorem Inv.endRun {s : St} {k o : Nat} (h : Inv s k o) (hk : k ≤ 1048576) : Inv (endRun s) k (o + 45) ∧ (endRun s).und = false ∧ (endRun s).inRun = false := by
  unfold Qxb6616348aDoor.endRun
  split
  · rename_i hi
    have := (h.close hk hi).tail
    exact ⟨this.1, this.2.1, by rw [this.2.2]; exact (close_und s).2⟩
  · rename_i hi
    have := h.tail
    exact ⟨this.1.mono (Nat.le_refl _) (by omega), this.2.1, by rw [this.2.2]; simpa using hi⟩
theorem Inv.grow {s : St} {k o : Nat} (h : Inv s k o) (b : Bs) : Inv (grow s b) (k + b.length) o := by
  have hl := h.len
  have hs := h.short
  have hm := h.mono (Nat.le_add_right k b.length) (Nat.le_refl o)
  by_cases h40 : s.length + b.length ≤ 40
  · rw [grow_pos h40]
    exact ⟨hm.keep, hm.run, hm.out, by simp only []; split <;> simp_all <;> omega, by simp; omega, hm.spaces, hm.runs, hm.kept, hm.shifts, hm.by1, hm.by2⟩
  · rw [grow_neg h40]
    exact ⟨hm.keep, hm.run, hm.out, by simp only []; split <;> simp_all <;> omega, by simp; omega, hm.spaces, hm.runs, hm.kept, hm.shifts, hm.by1, hm.by2⟩
theorem Inv.start {s : St} {k o : Nat} (h : Inv s k o) (_hu : s.und = true → s.inRun = true) : Inv (start s) (k + 1) o ∧ (start s).und = s.und ∧ (s.inRun = true → Inv (start s) k o) := by
  have hm := h.mono (Nat.le_add_right k 1) (Nat.le_refl o)
  unfold Qxb6616348aDoor.start
  split
  · exact ⟨hm, rfl, fun _ => h⟩
  · rename_i hi
    refine ⟨⟨hm.keep, ⟨[], (valOf_nil _).symm, Nat.zero_le _⟩, hm.out, ?_, by simp, hm.spaces, hm.runs, hm.kept, ?_, hm.by1, hm.by2⟩, rfl, fun h' => absurd h' hi⟩
    · simp only []; split <;> omega
    · have := h.shifts
      simp at hi
      rw [hi] at this
      simp at this ⊢
      omega

theorem grow_und (s : St) (b : Bs) : (grow s b).und = s.und := by unfold grow; split <;> rfl
theorem Inv.setRun {s : St} {k o : Nat} (h : Inv s k o) (D : Bs) (hD : D.length ≤ k) : Inv (setRun s (valOf s.keep D)) k o :=
  ⟨h.keep, ⟨D, rfl, hD⟩, h.out, h.len, h.short, h.spaces, h.runs, h.kept, h.shifts, h.by1, h.by2⟩

theorem Inv.start0 {s : St} {k o : Nat} (h : Inv s k o) (hu : s.und = false) : s.inRun = true ∨ (s.inRun = false ∧ (Qxb6616348aDoor.start s).length = 0 ∧ (Qxb6616348aDoor.start s).short = [] ∧ (Qxb6616348aDoor.start s).run = valOf s.keep [] ∧ Inv (Qxb6616348aDoor.start s) (k + 1) o) := by
  cases hi : s.inRun
  · right
    have hs : Qxb6616348aDoor.start s = { s with inRun := true, length := 0, short := [], joins := s.us && !s.ex, run := ⟨0, [], 0, false⟩ } := by unfold Qxb6616348aDoor.start; rw [hi]; rfl
    refine ⟨rfl, by rw [hs], by rw [hs], by rw [hs, valOf_nil], (h.start (by rw [hu]; simp)).1⟩
  · exact .inl rfl

theorem Inv.dig {s : St} {k o : Nat} (h : Inv s k o) (d : Bs) (hd : 1 ≤ d.length) (hu : s.und = false) : Inv (dig s d) (k + d.length) o ∧ (dig s d).inRun = true ∧ (dig s d).und = false := by
  obtain ⟨D, hr, hD⟩ := h.run
  have hkk : (Qxb6616348aDoor.grow (Qxb6616348aDoor.start s) d).keep = s.keep := by rw [grow_keep, start_keep]
  have hin : (Qxb6616348aDoor.dig s d).inRun = true := dig_inRun s d D h.keep hr
  have huu : ∀ D', (Qxb6616348aDoor.start s).run = valOf s.keep D' → (Qxb6616348aDoor.dig s d).und = false := by
    intro D' h'
    rw [dig_eq s d D' h.keep h']
    show (Qxb6616348aDoor.grow (Qxb6616348aDoor.start s) d).und = false
    rw [grow_und, (h.start (by rw [hu]; simp)).2.1, hu]
  rcases h.start0 hu with hi | ⟨hi, hl, hsh, hrr, h1⟩
  · have hst := start_of hi
    have hrs : (Qxb6616348aDoor.start s).run = valOf s.keep D := by rw [hst, hr]
    refine ⟨?_, hin, huu D hrs⟩
    rw [dig_eq s d D h.keep hrs, ← hkk]
    refine Inv.setRun ?_ _ (by simp; omega)
    rw [hst]
    exact h.grow d
  · refine ⟨?_, hin, huu [] hrr⟩
    rw [dig_eq s d [] h.keep hrr, ← hkk]
    refine Inv.setRun ?_ _ (by simp)
    have h2 := h1.grow d
    refine ⟨h2.keep, ?_, h2.out, ?_, h2.short, h2.spaces, h2.runs, ?_, ?_, h2.by1, h2.by2⟩
    · refine ⟨[], ?_, Nat.zero_le _⟩
      rw [grow_run, grow_keep, start_keep, hrr]
    · rw [grow_und, (h.start (by rw [hu]; simp)).2.1, hu]
      have : (Qxb6616348aDoor.grow (Qxb6616348aDoor.start s) d).length = (Qxb6616348aDoor.start s).length + d.length := by unfold Qxb6616348aDoor.grow; split <;> rfl
      rw [this, hl]
      simp
    · intro r hr'
      have : (Qxb6616348aDoor.grow (Qxb6616348aDoor.start s) d).runs = s.runs := by unfold Qxb6616348aDoor.grow Qxb6616348aDoor.start; split <;> split <;> rfl
      rw [this] at hr'
      have := h.kept r hr'
      omega
    · have e : (Qxb6616348aDoor.grow (Qxb6616348aDoor.start s) d).shifts = s.shifts := by unfold Qxb6616348aDoor.grow Qxb6616348aDoor.start; split <;> split <;> rfl
      rw [e, grow_inRun, start_inRun]
      have := h.shifts
      rw [hi] at this
      simp at this ⊢
      omega
theorem Inv.unund {s : St} {k o : Nat} (h : Inv s k o) (hu : s.und = true → s.inRun = true) : Inv (unund s) k o ∧ (unund s).und = false ∧ ((unund s).inRun = s.inRun) := by
  unfold Qxb6616348aDoor.unund
  split
  · rename_i hun
    have hi := hu hun
    have hl := h.len
    rw [hun] at hl
    simp at hl
    unfold extendRun
    have hi2 : ({ s with und := false } : St).inRun = true := hi
    rw [start_of hi2]
    refine ⟨?_, by rw [grow_und], by rw [grow_inRun]⟩
    have hs := h.short
    by_cases h40 : s.length + 1 ≤ 40
    · rw [grow_pos (by exact h40)]
      exact ⟨h.keep, h.run, h.out, by simp; omega, by simp; omega, h.spaces, h.runs, h.kept, h.shifts, h.by1, h.by2⟩
    · rw [grow_neg (by exact h40)]
      exact ⟨h.keep, h.run, h.out, by simp; omega, by simp; omega, h.spaces, h.runs, h.kept, h.shifts, h.by1, h.by2⟩
  · rename_i hun
    exact ⟨h, by simpa using hun, rfl⟩

/-- the invariant of the fold -/
structure Good (s : St) (k : Nat) : Prop where
  inv : Inv s k (64 * k)
  und : s.und = true → s.inRun = true
theorem Good.step {s : St} {k : Nat} (h : Good s k) (hk : k ≤ 1048576) (c : UInt8) : Good (step s c) (k + 1) := by
  unfold Qxb6616348aDoor.step
  split
  · rename_i hf
    split
    · refine ⟨(h.inv.put 32).mono (by omega) (by omega), ?_⟩
      obtain ⟨e1, e2, e3, e4, e5, e6, _⟩ := put_keep s 32
      rw [e5, e6]
      exact h.und
    · exact ⟨h.inv.mono (by omega) (by omega), h.und⟩
  · split
    · have h1 := h.inv.unund h.und
      have h2 := h1.1.dig [c] (by simp) h1.2.1
      exact ⟨h2.1.mono (by simp) (by omega), fun _ => h2.2.1⟩
    · split
      · rename_i _ _ hc
        have hi : s.inRun = true := by cases hh : s.inRun <;> simp_all
        have hun : s.und = false := by cases hh : s.und <;> simp_all
        refine ⟨?_, fun _ => hi⟩
        have hm := h.inv.mono (k' := k + 1) (o' := 64 * (k + 1)) (by omega) (by omega)
        have hl := h.inv.len
        exact ⟨hm.keep, hm.run, hm.out, by rw [hun] at hl; simp at hl ⊢; omega, hm.short, hm.spaces, hm.runs, hm.kept, hm.shifts, hm.by1, hm.by2⟩
      · have h1 := h.inv.endRun hk
        refine ⟨(h1.1.put c).mono (by omega) (by omega), ?_⟩
        obtain ⟨e1, e2, e3, e4, e5, e6, _⟩ := put_keep (Qxb6616348aDoor.endRun s) c
        rw [e5, h1.2.1]
        simp
theorem Good.fold {s : St} {k : Nat} (h : Good s k) (l : Bs) (hk : k + l.length ≤ 1048576) : Good (l.foldl Qxb6616348aDoor.step s) (k + l.length) := by
  induction l generalizing s k with
  | nil => exact h
  | cons c l ih =>
    simp at hk
    have := ih (h.step (by omega) c) (by omega)
    rw [List.foldl_cons]
    rw [show k + (c :: l).length = k + 1 + l.length from by simp; omega]
    exact this

theorem unund_of {s : St} (h : s.und = false) : unund s = s := by unfold unund; rw [h]; rfl
/-- a round of the writer's loop: digits -/
theorem fold_digits {s : St} {k : Nat} (h : Good s k) (hf : (s.full && !s.inRun) = false) (d : Bs) (hd : 1 ≤ d.length) (hdig : ∀ c ∈ d, isDigit c = true) (hk : k + d.length ≤ 1048576) : norm (d.foldl step s) = norm (dig (unund s) d) := by
  have key : ∀ d : Bs, (1 ≤ d.length → (∀ c ∈ d, isDigit c = true) → k + d.length ≤ 1048576 → norm (d.foldl step s) = norm (dig (unund s) d)) := by
    intro d
    induction d using rev_ind with
    | h0 => simp
    | h1 d c ih =>
      intro _ hdig hk
      have hc : isDigit c = true := hdig c (by simp)
      by_cases hd0 : d = []
      · subst hd0
        show norm (step s c) = _
        unfold step
        rw [hf, hc]
        rfl
      · have h1 : 1 ≤ d.length := by cases d with | nil => exact absurd rfl hd0 | cons _ _ => simp
        simp at hk
        have hi := ih h1 (fun x hx => hdig x (by simp [hx])) (by omega)
        rw [List.foldl_append, List.foldl_cons, List.foldl_nil]
        rw [norm_congr1 (f := fun s => step s c) (fun s => step_norm s c) hi]
        have hu := h.inv.unund h.und
        obtain ⟨D, hr, hD⟩ := hu.1.run
        have hdd := hu.1.dig d h1 hu.2.1
        have : step (dig (unund s) d) c = dig (dig (unund s) d) [c] := by
          unfold step
          rw [hdd.2.1, hc]
          rw [unund_of hdd.2.2]
          simp
        show norm (step _ c) = _
        rw [this, dig_dig (unund s) d [c] D hu.1.keep hr]
  exact key d hd hdig hk

/-- a round of the writer's loop: nothing but a space joins -/
theorem fold_full_none {s : St} (hf : (s.full && !s.inRun) = true) (l : Bs) (h : 3 ≤ s.spaces ∨ ∀ c ∈ l, c ≠ 32) : l.foldl step s = s := by
  induction l with
  | nil => rfl
  | cons c l ih =>
    rw [List.foldl_cons]
    have : step s c = s := by
      unfold step
      rw [hf]
      rcases h with h | h
      · have : ¬ s.spaces < 3 := by omega
        simp [this]
      · have := h c (by simp)
        simp [this]
    rw [this]
    exact ih (h.imp id fun h x hx => h x (by simp [hx]))
theorem fold_full_space {s : St} (hf : (s.full && !s.inRun) = true) (l : Bs) (h : ∀ c ∈ l, c ≠ 32) (hs : s.spaces < 3) : (l ++ [32]).foldl step s = put s 32 := by
  rw [List.foldl_append, fold_full_none hf l (.inr h), List.foldl_cons, List.foldl_nil]
  unfold step
  rw [hf]
  simp [hs]

theorem marks_setH (s : St) (h : Bs) (n : Nat) (c : UInt8) : marks (setH s h n) c = setH (marks s c) h n := by
  unfold marks
  have e : (setH s h n).mark = s.mark := rfl
  rw [e]
  split
  · rfl
  · split <;> rfl
theorem lay_setH (s : St) (h : Bs) (n : Nat) (c : UInt8) : lay (setH s h n) c = setH (lay s c) h n := by
  unfold lay
  have e1 : (setH s h n).full = s.full := rfl
  have e2 : (setH s h n).spaces = s.spaces := rfl
  rw [e1, e2]
  split <;> rfl
theorem put_setH (s : St) (h : Bs) (n : Nat) (c : UInt8) : put (setH s h n) c = setH (put s c) h n := by unfold put; rw [marks_setH, lay_setH]
theorem start_setH (s : St) (h : Bs) (n : Nat) : start (setH s h n) = setH (start s) h n := by
  unfold start
  have e1 : (setH s h n).inRun = s.inRun := rfl
  rw [e1]
  split <;> rfl
theorem grow_setH (s : St) (h : Bs) (n : Nat) (b : Bs) : grow (setH s h n) b = setH (grow s b) h n := by
  unfold grow
  have e1 : (setH s h n).length = s.length := rfl
  rw [e1]
  split <;> rfl
theorem ext_setH (s : St) (h : Bs) (n : Nat) (b : Bs) : extendRun (setH s h n) b = setH (extendRun s b) h n := by unfold extendRun; rw [start_setH, grow_setH]
theorem add_setH (s : St) (h : Bs) (n : Nat) (d : Bs) (f : Nat) (l : Int) : add (setH s h n) d f l = setH (add s d f l) h n := by
  unfold add addT addZ addD addL
  have e1 : (setH s h n).run = s.run := rfl
  rw [e1]
  by_cases h0 : s.run.kept.length = 0
  · simp only [if_pos h0]
    have e2 : (setH s h n).keep = s.keep := rfl
    simp only [e2]
    split <;> rfl
  · simp only [if_neg h0]
    have e2 : (setH s h n).keep = s.keep := rfl
    simp only [e1, e2]
    split <;> rfl
theorem close_setH (s : St) (h : Bs) (n : Nat) : close (setH s h n) = setH (close s) h n := by
  rw [close_eq, close_eq]
  have e1 : (setH s h n).length = s.length := rfl
  rw [e1]
  split
  · rfl
  · rw [longRun_eq, longRun_eq]; rfl
theorem tail_setH (s : St) (h : Bs) (n : Nat) : tail (setH s h n) = setH (tail s) h n := by
  unfold tail
  have e1 : (setH s h n).und = s.und := rfl
  rw [e1]
  split
  · exact put_setH { s with und := false } h n 95
  · rfl
theorem end_setH (s : St) (h : Bs) (n : Nat) : endRun (setH s h n) = setH (endRun s) h n := by
  unfold endRun
  have e1 : (setH s h n).inRun = s.inRun := rfl
  rw [e1]
  split
  · rw [close_setH, tail_setH]
  · rw [tail_setH]
theorem unund_setH (s : St) (h : Bs) (n : Nat) : unund (setH s h n) = setH (unund s) h n := by
  unfold unund
  have e1 : (setH s h n).und = s.und := rfl
  rw [e1]
  split
  · exact ext_setH { s with und := false } h n [95]
  · rfl
theorem step_setH (s : St) (h : Bs) (n : Nat) (c : UInt8) : step (setH s h n) c = setH (step s c) h n := by
  unfold step
  have e1 : (setH s h n).inRun = s.inRun := rfl
  have e2 : (setH s h n).full = s.full := rfl
  have e3 : (setH s h n).spaces = s.spaces := rfl
  have e4 : (setH s h n).joins = s.joins := rfl
  have e5 : (setH s h n).und = s.und := rfl
  rw [e1, e2, e3, e4, e5]
  split
  · split
    · exact put_setH s h n 32
    · rfl
  · split
    · unfold dig; rw [unund_setH, ext_setH, add_setH]
    · split
      · rfl
      · rw [end_setH, put_setH]
theorem fold_setH (l : Bs) (s : St) (h : Bs) (n : Nat) : l.foldl step (setH s h n) = setH (l.foldl step s) h n := by
  induction l generalizing s with
  | nil => rfl
  | cons c l ih => rw [List.foldl_cons, step_setH, ih]; rfl

/-- what 'write' does first -/
def heads (s : St) (p : Bs) : St := setH s (s.head ++ p.take (40 - s.head.length)) (s.tlen + p.length)
def init (us : Bool) (keep : Nat) : St := ⟨us, false, false, [], 0, false, false, false, 0, [], ⟨0, [], 0, false⟩, false, [], 0, keep, [], []⟩
theorem good_init (us : Bool) (keep : Nat) (hk : 1 ≤ keep) : Good (init us keep) 0 := by
  refine ⟨⟨hk, ⟨[], (valOf_nil _).symm, Nat.zero_le _⟩, by simp [init], by simp [init], by simp [init], by simp [init], by simp [init], by simp [init], by simp [init], by simp [init, lastBy], by simp [init, lastBy]⟩, by simp [init]⟩
theorem Good.setH {s : St} {k : Nat} (h : Good s k) (b : Bs) (n : Nat) : Good (setH s b n) k :=
  ⟨⟨h.inv.keep, h.inv.run, h.inv.out, h.inv.len, h.inv.short, h.inv.spaces, h.inv.runs, h.inv.kept, h.inv.shifts, h.inv.by1, h.inv.by2⟩, h.und⟩
theorem setH_norm (s : St) (h : Bs) (n : Nat) : norm (setH s h n) = setH (norm s) h n := rfl
theorem setH_setH (s : St) (h h2 : Bs) (n n2 : Nat) : setH (setH s h n) h2 n2 = setH s h2 n2 := rfl
/-- the whole text's state -/
def all (us : Bool) (keep : Nat) (text : Bs) : St := setH (text.foldl step (init us keep)) (text.take 40) text.length
theorem fold_init_heads (us : Bool) (keep : Nat) (text : Bs) : text.foldl step (heads (init us keep) text) = all us keep text := by
  unfold heads all
  rw [fold_setH]
  show setH _ ([] ++ text.take (40 - 0)) (0 + text.length) = _
  simp
/-- the second piece -/
theorem fold_two (us : Bool) (keep : Nat) (a b : Bs) (t : St) (h : norm t = norm (all us keep a)) : norm (b.foldl step (heads t b)) = norm (all us keep (a ++ b)) := by
  have hh : t.head = a.take 40 := by have := congrArg St.head h; exact this
  have hn : t.tlen = a.length := by have := congrArg St.tlen h; exact this
  have h1 : norm (heads t b) = norm (setH (a.foldl step (init us keep)) (t.head ++ b.take (40 - t.head.length)) (t.tlen + b.length)) := by
    unfold heads
    rw [setH_norm, h, setH_norm]
    rfl
  rw [fold_norm b h1, fold_setH]
  unfold all
  rw [List.foldl_append, hh, hn]
  have e : a.take 40 ++ b.take (40 - (a.take 40).length) = (a ++ b).take 40 := by
    rw [List.take_append]
    congr 2
    simp
    omega
  rw [e]
  simp
end Go.Proofs.Qxb6616348aDoor
