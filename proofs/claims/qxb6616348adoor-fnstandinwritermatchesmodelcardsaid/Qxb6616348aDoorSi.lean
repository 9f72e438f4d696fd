import Derived.Test.Qxb6616348aDoorRep
set_option linter.unusedSimpArgs false
set_option linter.unusedVariables false
namespace Go.Proofs.Qxb6616348aDoor
open Go.RowKit

/-- the stand-in of a run, n digits -/
def standIn (r : Run) (n : Nat) : Bs :=
  let d := r.kept.take 18
  if 0 < r.zeros then List.replicate (n - d.length) 48 ++ d else d ++ List.replicate (n - d.length) 48

theorem below_grown {w w' : World} (h : Below w.heap.size w w') : ∀ k, k < w.heap.size → w'.heap[k]? = w.heap[k]? := fun k hk => h.block k hk

theorem Mem.below {w w' : World} {B : Nat} {R : List Row} (h : Mem w B R) (hb : Below w.heap.size w w') : Mem w' B R := by
  refine ⟨fun i r hr => ?_, h.far, Nat.le_trans h.size hb.size⟩
  have ho := h.own i r hr
  refine ⟨ho.1, ho.2.imp id fun ⟨g, cap, cur, e1, e2, e3, e4⟩ => ⟨g, cap, cur, e1, e2, ?_, e4⟩⟩
  rw [below_grown hb g (Array.getElem?_eq_some_iff.1 e3).1]
  exact e3

theorem Filled.src {w0 w : World} {n : Nat} (h : Filled w0 w n n) : Src w (.slice (some ⟨w0.heap.size, 0, none⟩) n n) n (cellsOf (List.replicate n 48)) 1 := by
  obtain ⟨cur, hh, hl, _, _, hx, _⟩ := h
  refine ⟨by simp [cellsOf], cells_one _, .inr ⟨_, _, rfl, fun j u hj => ?_⟩⟩
  have hjn : j < n := by have := (List.getElem?_eq_some_iff.1 hj).1; simpa [cellsOf] using this
  have hu : u = .int .u8 48 := by
    simp [cellsOf, hjn] at hj
    exact hj.symm
  rw [addr_add, Nat.zero_add, cell_of_row w w0.heap.size j cur.toArray 5 (0, 0) hh, hu]
  have := hx j hjn
  simpa using this

/-- the head of an owned row, as what is appended -/
theorem row_src {w : World} {B m c : Nat} {a : Option Addr} {l : Bs} (h : w.ownsRow B 5 1 (.slice a l.length c) l.length (cellsOf l)) (hm : m ≤ l.length) : Src w (.slice a m c) m (cellsOf (l.take m)) 1 := by
  refine ⟨by simp [cellsOf]; omega, cells_one _, ?_⟩
  rcases h.2 with ⟨h1, h2⟩ | ⟨g, cap, cur, h1, _⟩
  · injection h1 with e1 e2 e3
    subst e1 e3
    have : m = 0 := by omega
    subst this
    exact .inl ⟨rfl, rfl⟩
  · injection h1 with e1 e2 e3
    subst e1 e3
    refine .inr ⟨_, _, rfl, fun j u hj => ?_⟩
    have hjm : j < m ∧ j < l.length := by have := (List.getElem?_eq_some_iff.1 hj).1; simp [cellsOf] at this; omega
    rw [addr_add, Nat.zero_add, h.cellAt j (by omega), ← hj]
    simp [cellsOf, List.getElem?_take, hjm.1]

/-- append onto row i; a cell in another old block reads as before -/
theorem wpList_append_mem2 {w : World} {ops : Array Oper} {rest : List Oper} {o : Oper} {a : Act} {Q : Exit → Act → World → Prop} (hgd : o.guard = none) (s x : Operand) (t : TypeId)
    (ho : o.op = .call { callee := .builtin .append, args := #[s, x], argTypes := #[t, t] })
    {B : Nat} {R : List Row} (h : Mem w B R) (i : Nat) {e sz n : Nat} {v : Value} {xs : List Value} (hr : R[i]? = some ⟨e, sz, v, n, xs⟩)
    (inf : TypeInfo) (z : Value) (bytes : Nat) (ht : Tryd.prog.underlying t = some (.slice e)) (hi : Tryd.prog.info? e = some inf) (hz : inf.zero = some z) (hsize : inf.size = sz) (hby : inf.bytes = bytes) (hzs : z.cells.size = sz) (hsz : 0 < sz)
    (y : Value) (m : Nat) (news : List Value) (hs : a.eval s = v) (hxe : a.eval x = y) (hx : Src w y m news sz) (h63 : n + m ≤ maxLen) (hbytes : (n + m) * bytes ≤ 140737488355328)
    (hk : ∀ a' c' w', Mem w' B (R.set i ⟨e, sz, .slice a' (n + m) c', n + m, xs ++ news⟩) → Below B w w' → (∀ q u, w.cell? q = some u → some q.block ≠ v.ownBlock → w'.cell? q = some u) → wpList Tryd.prog ops Q rest (a.put o.dst (.slice a' (n + m) c')) w') : wpList Tryd.prog ops Q (o :: rest) a w := by
  have hown := h.own i _ hr
  have key : ∃ a' c' w', (Builtin.append_ #[t, t] o.type #[v, y]).run Tryd.prog w = .ok (.slice a' (n + m) c') w' ∧ Mem w' B (R.set i ⟨e, sz, .slice a' (n + m) c', n + m, xs ++ news⟩) ∧ Below B w w' ∧ (∀ q u, w.cell? q = some u → some q.block ≠ v.ownBlock → w'.cell? q = some u) := by
    obtain ⟨hl, h1, ⟨rfl, rfl⟩ | ⟨ad, c, rfl, hc⟩⟩ := hx
    · obtain ⟨a', c', w', hrun, hM, hB⟩ := h.append' i hr t o.type inf z bytes ht hi hz hsize hby hzs hsz (.slice none 0 0) 0 news ⟨hl, h1, .inl ⟨rfl, rfl⟩⟩ h63 hbytes
      have hr2 := run_append_owned_none (P := Tryd.prog) (w := w) B t o.type e inf sz ht hi v n xs hown
      rw [hr2] at hrun
      injection hrun with e1 e2
      subst e2
      exact ⟨a', c', w, by rw [hr2, e1], hM, hB, fun q u hq _ => hq⟩
    · obtain ⟨v', w', hrun, ho', hg, _, hat⟩ := run_append_own_at (P := Tryd.prog) w B t o.type e inf z sz bytes ht hi hz hsize hby hzs hsz v n xs hown ad m c news hl hc h1 h63 hbytes h.size
      obtain ⟨a', c', hf⟩ := ownsRow_form ho'
      subst hf
      exact ⟨a', c', w', hrun, h.upd hr _ ho' hg (hat.imp id .inl), (Below.refl _ _).grown hg h.size (fun k hk => (hown.lt k hk).1), fun q u hq hne => hg.cell hq hne⟩
  obtain ⟨a', c', w', hrun, hM, hB, hC⟩ := key
  refine wpList_plain hgd fun K hK => ?_
  unfold Oper.wp
  simp [execOp, ho, resolve, invoke, builtin, hs, hxe, hrun, Result.andThen]
  exact hK _ _ (hk a' c' w' hM hB hC)

theorem src_kept {w w' : World} {g n m : Nat} {news : List Value} {v : Value} (h : Src w (.slice (some ⟨g, 0, none⟩) n n) m news 1) (hc : ∀ q u, w.cell? q = some u → some q.block ≠ v.ownBlock → w'.cell? q = some u) (hne : v.ownBlock ≠ some g) : Src w' (.slice (some ⟨g, 0, none⟩) n n) m news 1 := by
  obtain ⟨h1, h2, ⟨h3, _⟩ | ⟨ad, c, h3, h4⟩⟩ := h
  · cases h3
  · refine ⟨h1, h2, .inr ⟨ad, c, h3, fun j u hj => hc _ u (h4 j u hj) ?_⟩⟩
    injection h3 with e1 e2 e3
    injection e1 with e1
    rw [← e1, addr_add]
    exact Ne.symm hne

def SiPost (w : World) (B pw pt : Nat) (s : St) (vo vs vk vh vsh vr : Value) (G : List (Value × Run)) (n : Nat) (e : Ending) (w' : World) : Prop :=
  ∃ a' c', e = .returned (.slice a' (s.out.length + n) c') ∧ Mem w' B ((rows pw pt s vo vs vk vh vsh vr G).set 2 ⟨5, 1, .slice a' (s.out.length + n) c', s.out.length + n, cellsOf (s.out ++ standIn s.run n)⟩) ∧ Below B w w'

set_option maxHeartbeats 4000000 in
set_option maxRecDepth 100000 in
theorem standIn_any (w : World) (B pw pt : Nat) (s : St) (vo vs vk vh vsh vr : Value) (G : List (Value × Run)) (n : Nat) (h : WrM w B pw pt s vo vs vk vh vsh vr G) (hn : 41 ≤ n) (hn2 : n ≤ 44) (ho : s.out.length ≤ 1073741824) (hkl : s.run.kept.length ≤ 1073741824) :
    Calls Tryd.prog 30 #[.pointer (some ⟨pw, 11, none⟩), vo, .int .i64 n] w fun e w' => SiPost w B pw pt s vo vs vk vh vsh vr G n e w' := by
  have c11 := h.cw 11 (by omega)
  have c12 := h.cw 12 (by omega)
  simp only [wcells, List.getElem?_cons_succ, List.getElem?_cons_zero] at c11 c12
  obtain ⟨ak, ck, rfl, hck⟩ := row_form h.okept
  obtain ⟨ao, co, rfl, hco⟩ := row_form h.oout
  have HM : Hid (WrM w B pw pt s (.slice ao s.out.length co) vs (.slice ak s.run.kept.length ck) vh vsh vr G) := h
  clear h
  obtain ⟨m, hm⟩ : ∃ m : Nat, m = min s.run.kept.length 18 := ⟨_, rfl⟩
  have hmin : min (s.run.kept.length : Int) 18 = (m : Int) := by omega
  have hmc : (m : Int) ≤ (ck : Int) := by omega
  have hm18 : m ≤ 18 := by omega
  have hmk : m ≤ s.run.kept.length := by omega
  have HMM : Hid (m = min s.run.kept.length 18) := hm
  clear hm
  have hnm : (n : Int) - (m : Int) = ((n - m : Nat) : Int) := by omega
  obtain ⟨z, hz⟩ : ∃ z : Nat, z = n - m := ⟨_, rfl⟩
  rw [← hz] at hnm
  have hz1 : 1 ≤ z ∧ z ≤ 100 := by omega
  have HZ : Hid (z = n - m) := hz
  clear hz
  go_enter Tryd.func30, Tryd.ntmps30
  go_wp2_with fail
  go_quiet (fail)
  go_wp2_with fail
  go_fit (repeat_any _ w.heap.size z hz1.1 hz1.2 (World.cell?_alloc_mark (w.drewN nq) #[.int .u8 48] 5 (0, 0) 0))
  rintro e w2 ⟨rfl, hF⟩
  have HF : Hid (Filled ((w.drewN nq).alloc (.cells #[.int .u8 48] 5)) w2 z z) := hF
  clear hF
  have hB2 : Below B w w2 := by
    obtain ⟨_, _, _, _, _, _, hb⟩ := HF.out
    have h0 : Below B w (w.drewN nq) := ⟨rfl, rfl, rfl, Nat.le_refl _, fun _ _ => rfl⟩
    have h1 : Below B w ((w.drewN nq).alloc (.cells #[.int .u8 48] 5)) := h0.alloc HM.out.mem.size _
    exact h1.trans (Below.mono hb (Nat.le_trans HM.out.mem.size (by simp [World.alloc])))
  have hM2 : Mem w2 B (rows pw pt s (.slice ao s.out.length co) vs (.slice ak s.run.kept.length ck) vh vsh vr G) := by
    obtain ⟨_, _, _, _, _, _, hb⟩ := HF.out
    exact ((HM.out.mem.grow (grownBy_drewN w nq none)).grow (World.grownBy_alloc _ _ none)).below hb
  have k11 : w2.cell? ⟨pw, 11, none⟩ = some (.int .i64 s.run.zeros) := hM2.cell (i := 0) rfl 11 (by omega)
  obtain ⟨i0, hi, hz0, hz1', hz2⟩ := info_parts info5
  have HM2 : Hid _ := hM2
  have HB2 : Hid _ := hB2
  clear hM2 hB2
  have HS : Hid (Src w2 (.slice (some ⟨w.heap.size + 1, 0, none⟩) z z) z (cellsOf (List.replicate z 48)) 1) := by
    have e : ((w.drewN nq).alloc (.cells #[.int .u8 48] 5)).heap.size = w.heap.size + 1 := by simp [World.alloc, World.drewN]
    have := HF.out.src
    rw [e] at this
    exact this
  by_cases hzr : (0 : Int) < (s.run.zeros : Int)
  · go_wp2_with (first
      | (at_builtin; refine wpList_append_mem rfl (.tmp 31) (.tmp 32) 22 rfl HM2.out 2 rfl i0 (.int .u8 0) 1 Tryd.underlying22 hi hz0 hz1' hz2 rfl (by decide) (.slice (some ⟨w.heap.size + 1, 0, none⟩) z z) z (cellsOf (List.replicate z 48)) rfl rfl HS.out (by unfold maxLen; omega) (by omega) ?_; intro a3 c3 w3 hM3 hB3; have HK3 : Hid (w3.ownsRow B 5 1 (.slice ak s.run.kept.length ck) s.run.kept.length (cellsOf s.run.kept)) := hM3.own 4 _ rfl; have HM3 : Hid _ := hM3; have HB3 : Hid _ := hB3; clear hM3 hB3)
      | (at_builtin; refine wpList_append_mem rfl (.tmp 33) (.tmp 34) 22 rfl HM3.out 2 rfl i0 (.int .u8 0) 1 Tryd.underlying22 hi hz0 hz1' hz2 rfl (by decide) (.slice ak m ck) m (cellsOf (s.run.kept.take m)) rfl rfl (row_src HK3.out hmk) (by unfold maxLen; omega) (by omega) ?_; intro a4 c4 w4 hM4 hB4; have HM4 : Hid _ := hM4; have HB4 : Hid _ := hB4; clear hM4 hB4))
    go_ret
    have hl : s.out.length + n = s.out.length + z + m := by have := HZ.out; omega
    have hx : cellsOf (s.out ++ standIn s.run n) = (cellsOf s.out ++ cellsOf (List.replicate z 48)) ++ cellsOf (s.run.kept.take m) := by
      have ht : s.run.kept.take 18 = s.run.kept.take m := by
        have := HMM.out
        by_cases h18 : 18 ≤ s.run.kept.length
        · rw [show m = 18 from by omega]
        · rw [List.take_of_length_le (by omega), List.take_of_length_le (by omega)]
      have hlm : (s.run.kept.take m).length = m := by simp; omega
      have hzp : 0 < s.run.zeros := by omega
      simp only [standIn, ht, hlm, hzp, if_true, cellsOf_append, ← HZ.out, List.append_assoc]
    refine ⟨a4, c4, by rw [hl]; rfl, ?_, HB2.out.trans (HB3.out.trans HB4.out)⟩
    rw [hl, hx]
    exact HM4.out
  · have HK2 : Hid (w2.ownsRow B 5 1 (.slice ak s.run.kept.length ck) s.run.kept.length (cellsOf s.run.kept)) := HM2.out.own 4 _ rfl
    have HNE : Hid ((Value.slice ao s.out.length co).ownBlock ≠ some (w.heap.size + 1)) := by
      intro e
      have := (HM.out.oout.lt _ e).2
      omega
    go_wp2_with (first
      | (at_builtin; refine wpList_append_mem2 rfl (.tmp 36) (.tmp 37) 22 rfl HM2.out 2 rfl i0 (.int .u8 0) 1 Tryd.underlying22 hi hz0 hz1' hz2 rfl (by decide) (.slice ak m ck) m (cellsOf (s.run.kept.take m)) rfl rfl (row_src HK2.out hmk) (by unfold maxLen; omega) (by omega) ?_; intro a3 c3 w3 hM3 hB3 hC3; have HS3 : Hid (Src w3 (.slice (some ⟨w.heap.size + 1, 0, none⟩) z z) z (cellsOf (List.replicate z 48)) 1) := src_kept HS.out hC3 HNE.out; have HM3 : Hid _ := hM3; have HB3 : Hid _ := hB3; clear hM3 hB3 hC3)
      | (at_builtin; refine wpList_append_mem rfl (.tmp 38) (.tmp 39) 22 rfl HM3.out 2 rfl i0 (.int .u8 0) 1 Tryd.underlying22 hi hz0 hz1' hz2 rfl (by decide) (.slice (some ⟨w.heap.size + 1, 0, none⟩) z z) z (cellsOf (List.replicate z 48)) rfl rfl HS3.out (by unfold maxLen; omega) (by omega) ?_; intro a4 c4 w4 hM4 hB4; have HM4 : Hid _ := hM4; have HB4 : Hid _ := hB4; clear hM4 hB4))
    go_ret
    have hl : s.out.length + n = s.out.length + m + z := by have := HZ.out; omega
    have hx : cellsOf (s.out ++ standIn s.run n) = (cellsOf s.out ++ cellsOf (s.run.kept.take m)) ++ cellsOf (List.replicate z 48) := by
      have ht : s.run.kept.take 18 = s.run.kept.take m := by
        have := HMM.out
        by_cases h18 : 18 ≤ s.run.kept.length
        · rw [show m = 18 from by omega]
        · rw [List.take_of_length_le (by omega), List.take_of_length_le (by omega)]
      have hlm : (s.run.kept.take m).length = m := by simp; omega
      have hzp : ¬ 0 < s.run.zeros := by omega
      simp only [standIn, ht, hlm, hzp, if_false, cellsOf_append, ← HZ.out, List.append_assoc]
    refine ⟨a4, c4, by rw [hl]; rfl, ?_, HB2.out.trans (HB3.out.trans HB4.out)⟩
    rw [hl, hx]
    exact HM4.out
end Go.Proofs.Qxb6616348aDoor
