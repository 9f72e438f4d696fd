import Derived.Test.Qxb6616348aDoorEndA
import Derived.Test.Qxb6616348aDoorScanW
import Derived.Lib.IndexLaws
set_option linter.unusedSimpArgs false
set_option linter.unusedVariables false
namespace Go.Proofs.Qxb6616348aDoor
open Go.RowKit

/-- a []byte that is read, in blocks below B -/
def SlB (w : World) (B : Nat) (v : Value) (l : Bs) : Prop :=
  ∃ a cap, v = .slice a l.length cap ∧ l.length ≤ cap ∧ ((a = none ∧ cap = 0) ∨ ∃ b off, a = some ⟨b, off, none⟩ ∧ b < B ∧ ∀ i, i < l.length → w.cell? ⟨b, off + i, none⟩ = some (.int .u8 ((l.getD i 0).toNat : Int)))
theorem SlB.below {w w' : World} {B : Nat} {v : Value} {l : Bs} (h : SlB w B v l) (hb : Below B w w') : SlB w' B v l := by
  obtain ⟨a, c, hv, hc, hn | ⟨b, off, ha, hbB, hcell⟩⟩ := h
  · exact ⟨a, c, hv, hc, .inl hn⟩
  · exact ⟨a, c, hv, hc, .inr ⟨b, off, ha, hbB, fun i hi => (hb.cell (p := ⟨b, off + i, none⟩) hbB).trans (hcell i hi)⟩⟩
theorem SlB.sla {w : World} {B p : Nat} {v : Value} {l : Bs} (h : SlB w B v l) (hp : B ≤ p) : SlA w p v l := by
  obtain ⟨a, c, hv, hc, hn | ⟨b, off, ha, hbB, hcell⟩⟩ := h
  · exact ⟨a, c, hv, hc, .inl hn⟩
  · exact ⟨a, c, hv, hc, .inr ⟨b, off, ha, by omega, hcell⟩⟩
def ShOk (t : St) : Prop := t.short.length ≤ t.length ∧ t.short.length ≤ 40
theorem Good.of_norm {s t : St} {k : Nat} (h : Good s k) (e : norm t = norm s) (hs : ShOk t) : Good t k := by
  have e1 : t.keep = s.keep := by have := congrArg St.keep e; exact this
  have e2 : t.run = s.run := by have := congrArg St.run e; exact this
  have e3 : t.out = s.out := by have := congrArg St.out e; exact this
  have e4 : t.length = s.length := by have := congrArg St.length e; exact this
  have e5 : t.und = s.und := by have := congrArg St.und e; exact this
  have e6 : t.inRun = s.inRun := by have := congrArg St.inRun e; exact this
  have e7 : t.spaces = s.spaces := by have := congrArg St.spaces e; exact this
  have e8 : t.runs = s.runs := by have := congrArg St.runs e; exact this
  have e9 : t.shifts = s.shifts := by have := congrArg St.shifts e; exact this
  have i := h.inv
  exact ⟨⟨by rw [e1]; exact i.keep, by rw [e1, e2]; exact i.run, by rw [e3]; exact i.out, by rw [e4, e5]; exact i.len, hs, by rw [e7]; exact i.spaces, by rw [e8]; exact i.runs, by rw [e8]; exact i.kept, by rw [e9, e6]; exact i.shifts, by rw [e9]; exact i.by1, by rw [e9]; exact i.by2⟩, by rw [e5, e6]; exact h.und⟩

/-- the loop's state behind i bytes -/
structure Lp (w wx : World) (B pw pt : Nat) (s1 : St) (b : Bs) (i : Nat) (t : St) : Prop where
  le : i ≤ b.length
  mem : WrV wx B pw pt t
  nrm : norm t = norm ((b.take i).foldl step s1)
  sh : ShOk t
  bel : Below B w wx

def WPost (w : World) (B pw pt : Nat) (s2 : St) (w' : World) : Prop := ∃ t, WrV w' B pw pt t ∧ norm t = norm s2 ∧ ShOk t ∧ Below B w w'

theorem head_end {b : Bs} {n : Nat} {hd : Bs} (hn : (n : Int) = min (b.length : Int) (40 - (hd.length : Int))) (h40 : hd.length ≤ 40) : b.take (40 - hd.length) = b.take n := by
  by_cases h : b.length ≤ 40 - hd.length
  · rw [List.take_of_length_le h, List.take_of_length_le (by omega)]
  · rw [show 40 - hd.length = n by omega]

theorem Lp.next {w wr wx : World} {B pw pt : Nat} {s1 t t' : St} {b : Bs} {k m : Nat} (h : Lp w wr B pw pt s1 b k t) (hm : k + m ≤ b.length) (hW : WrV wx B pw pt t') (hn : norm t' = norm (((b.drop k).take m).foldl step t)) (hs : ShOk t') (hb : Below B w wx) : Lp w wx B pw pt s1 b (k + m) t' := by
  refine ⟨hm, hW, ?_, hs, hb⟩
  rw [hn, take_add, List.foldl_append]
  exact fold_norm _ h.nrm
theorem Lp.done {w wr : World} {B pw pt : Nat} {s1 s2 t : St} {b : Bs} {k : Nat} (h : Lp w wr B pw pt s1 b k t) (hs : s2 = b.foldl step s1) (hn : (b.drop k).foldl step t = t) : WPost w B pw pt s2 wr := by
  refine ⟨t, h.mem, ?_, h.sh, h.bel⟩
  have e : b.foldl step s1 = (b.drop k).foldl step ((b.take k).foldl step s1) := by rw [← List.foldl_append, List.take_append_drop]
  rw [hs, e, ← fold_norm _ h.nrm, hn]
theorem Lp.good {w wr : World} {B pw pt : Nat} {s1 t : St} {b : Bs} {k k0 : Nat} (h : Lp w wr B pw pt s1 b k t) (hG : Good s1 k0) (hk : k0 + b.length ≤ 1048576) : Good t (k0 + k) := by
  have hl : (b.take k).length = k := by have := h.le; simp; omega
  have := hG.fold (b.take k) (by have := h.le; omega)
  rw [hl] at this
  exact this.of_norm h.nrm h.sh
theorem bytesOf_nat (l : Bs) : Lib.bytesOf (l.map (fun c => (c.toNat : Int))) = l := by
  unfold Lib.bytesOf
  rw [List.map_map]
  conv => rhs; rw [← List.map_id l]
  apply List.map_congr_left
  intro c _
  simp
theorem index_cases (l : Bs) (J : Int) (h : J = Lib.indexByte l 32) : (J = -1 ∧ ∀ c ∈ l, c ≠ 32) ∨ ∃ j : Nat, J = (j : Int) ∧ j < l.length ∧ l.take (j + 1) = l.take j ++ [32] ∧ ∀ c ∈ l.take j, c ≠ 32 := by
  have hg := Lib.indexByte_ge l 32
  by_cases h1 : J = -1
  · left
    refine ⟨h1, fun c hc e => ?_⟩
    obtain ⟨i, hi, hci⟩ := List.getElem_of_mem hc
    exact Lib.indexByte_none (h.symm.trans h1) i (by rw [List.getElem?_eq_getElem hi, hci, e])
  · right
    obtain ⟨j, hj⟩ : ∃ j : Nat, J = (j : Int) := ⟨J.toNat, by omega⟩
    obtain ⟨h2, h3⟩ := Lib.indexByte_some (h.symm.trans hj)
    have hlt : j < l.length := (List.getElem?_eq_some_iff.1 h2).1
    refine ⟨j, hj, hlt, ?_, ?_⟩
    · rw [List.take_add_one, h2]; rfl
    · intro c hc e
      obtain ⟨i, hi, hci⟩ := List.getElem_of_mem hc
      have hi' : i < j ∧ i < l.length := by simp at hi; omega
      refine h3 i hi'.1 ?_
      rw [List.getElem?_eq_getElem hi'.2]
      rw [List.getElem_take] at hci
      rw [hci, e]
theorem ShOk.put {t : St} (h : ShOk t) (c : UInt8) : ShOk (put t c) := by
  obtain ⟨_, _, e3, e4, _⟩ := put_keep t c
  unfold ShOk at *
  rw [e3, e4]
  exact h

theorem size_setCell (w : World) (a : Addr) (v : Value) : (w.setCell a v).heap.size = w.heap.size := by simp [World.setCell]
theorem add_keep (s : St) (d : Bs) (f : Nat) (l : Int) : (add s d f l).keep = s.keep := by
  unfold add addT addZ
  simp only []
  split <;> split <;> rfl
theorem tail_keep (s : St) : (tail s).keep = s.keep := by
  unfold tail
  split
  · exact (put_keep _ _).1
  · rfl
theorem close_keep' (t : St) : (close t).keep = t.keep := by
  rw [close_eq]
  split
  · rfl
  · rw [longRun_eq]; rfl
theorem unund_keep (t : St) : (unund t).keep = t.keep := by
  unfold unund
  split
  · unfold extendRun; rw [grow_keep, start_keep]
  · rfl
theorem step_keep (s : St) (c : UInt8) : (step s c).keep = s.keep := by
  unfold step
  split
  · split
    · exact (put_keep _ _).1
    · rfl
  · split
    · unfold dig extendRun; rw [add_keep, grow_keep, start_keep, unund_keep]
    · split
      · rfl
      · rw [(put_keep _ _).1]
        unfold endRun
        rw [tail_keep]
        split
        · exact close_keep' s
        · rfl
theorem fold_keep (l : Bs) (s : St) : (l.foldl step s).keep = s.keep := by
  induction l generalizing s with
  | nil => rfl
  | cons c l ih => rw [List.foldl_cons, ih, step_keep]
theorem Tab.belowB {w w' : World} {B : Nat} (h : Tab w) (hB : 2 < B) (hb : Below B w w') : Tab w' := by
  intro i v hv
  rw [hb.cell (p := ⟨2, i, none⟩) hB, h i v hv]
theorem WrV.below {w w' : World} {B pw pt : Nat} {t : St} (h : WrV w B pw pt t) (hb : Below w.heap.size w w') : WrV w' B pw pt t := by
  obtain ⟨vo, vs, vk, vh, vsh, vr, G, hM⟩ := h
  exact ⟨vo, vs, vk, vh, vsh, vr, G, hM.mem.below hb, hM.runs⟩
theorem WrV.size {w : World} {B pw pt : Nat} {t : St} (h : WrV w B pw pt t) : B ≤ w.heap.size := by
  obtain ⟨vo, vs, vk, vh, vsh, vr, G, hM⟩ := h
  exact hM.mem.size
theorem WrV.blk {w : World} {B pw pt : Nat} {t : St} (h : WrV w B pw pt t) : pw < w.heap.size := by
  obtain ⟨vo, vs, vk, vh, vsh, vr, G, hM⟩ := h
  exact ((hM.mem.own 0 _ rfl).lt pw rfl).2
theorem sla_one {w : World} {p : Nat} (c : UInt8) (hp : p < w.heap.size) : SlA (w.alloc (.cells #[.int .u8 (c.toNat : Int)] 5)) p (.slice (some ⟨w.heap.size, 0, none⟩) 1 1) [c] := by
  refine ⟨_, 1, rfl, Nat.le_refl _, .inr ⟨_, 0, rfl, by omega, fun i hi => ?_⟩⟩
  have : i = 0 := by simp at hi; exact hi
  subst this
  rw [World.cell?_alloc_mark]
  rfl
theorem dn_le (l : Bs) : dn l ≤ l.length := by
  unfold dn
  exact (List.takeWhile_sublist (p := isDigit) (l := l)).length_le
theorem dn_digits (l : Bs) : ∀ c ∈ l.take (dn l), isDigit c = true := by
  induction l with
  | nil => simp [dn]
  | cons a l ih =>
    unfold dn
    rw [List.takeWhile_cons]
    split
    · rename_i ha
      intro c hc
      rw [List.length_cons, List.take_succ_cons] at hc
      rcases List.mem_cons.1 hc with rfl | hc
      · exact ha
      · exact ih c hc
    · simp
/-- what 'add' asks of the run behind extendRun -/
theorem Inv.ext_run {t : St} {k o : Nat} (h : Inv t k o) (d : Bs) : (extendRun t d).run.zeros ≤ k ∧ (extendRun t d).run.more ≤ k ∧ (extendRun t d).run.kept.length ≤ (extendRun t d).keep ∧ (extendRun t d).run.kept.length ≤ k ∧ (extendRun t d).keep = t.keep := by
  obtain ⟨D, hr, hD⟩ := h.run
  obtain ⟨D', h', hl⟩ := start_run t D hr
  unfold extendRun
  rw [grow_run, grow_keep, start_keep, h']
  have h1 := fz_le D'
  refine ⟨by show fz D' ≤ k; omega, by show (D'.drop (fz D')).length - t.keep ≤ k; simp; omega, by show ((D'.drop (fz D')).take t.keep).length ≤ t.keep; simp; omega, ?_, rfl⟩
  exact Nat.le_trans (valOf_kept _ _) (by omega)

set_option maxHeartbeats 40000000 in
set_option maxRecDepth 100000 in
theorem write_in (w : World) (B pw pt : Nat) (s s1 s2 : St) (k0 : Nat) (v : Value) (b : Bs) (H1 : Hid (s1 = heads s b)) (H2 : Hid (s2 = b.foldl step s1)) (h : WrV w B pw pt s) (hG : Good s k0) (hk : k0 + b.length ≤ 1048576) (hv : SlB w B v b) (hT : Tab w) (hB2 : 2 < B) (hh : s.head.length ≤ 40) (ht : s.tlen ≤ 1048576) (hkp : (s.keep : Int) ≤ 9223372036854775807) :
    Calls Tryd.prog 14 #[.pointer (some ⟨pw, 0, none⟩), v] w fun e w' => e = .returned (.tuple #[]) ∧ WPost w B pw pt s2 w' := by
  obtain ⟨vo, vs, vk, vh, vsh, vr, G, hM⟩ := h
  have HM : Hid (WrM w B pw pt s vo vs vk vh vsh vr G) := hM
  have HB : Hid (B ≤ pw) := hM.lt.1
  have HBt : Hid (B ≤ pt) := hM.lt.2.1
  have HV : Hid (SlB w B v b) := hv
  have HT : Hid (Tab w) := hT
  have HG : Hid (Good s k0) := hG
  have c0 := hM.cw 0 (by omega)
  have t0 := hM.ct 0 (by omega)
  simp only [wcells, tcells, List.getElem?_cons_succ, List.getElem?_cons_zero] at c0 t0
  obtain ⟨ah, ch, rfl, hch⟩ := row_form hM.ohead
  clear hM hT hG
  obtain ⟨av, cv, rfl, hcv, hav⟩ := hv
  clear hav
  obtain ⟨n, hn⟩ : ∃ n : Nat, (n : Int) = min (b.length : Int) (40 - (s.head.length : Int)) := ⟨min b.length (40 - s.head.length), by omega⟩
  have hnb : n ≤ b.length := by omega
  have hn40 : n ≤ 40 := by omega
  have HTK : Hid (b.take (40 - s.head.length) = b.take n) := head_end hn hh
  have HN : Hid ((n : Int) = min (b.length : Int) (40 - (s.head.length : Int))) := hn
  have hmn : min (b.length : Int) (40 - (s.head.length : Int)) = (n : Int) := hn.symm
  clear hn
  obtain ⟨i0, hi, hz0, hz1, hz2⟩ := info_parts info5
  go_enter Tryd.func14, Tryd.ntmps14
  go_upto_if 26 with fail
  go_cut [27] (fun _ wx => WrV wx B pw pt { s with head := s.head ++ b.take n } ∧ Below B w wx)
  case first =>
    by_cases hn0 : (0 : Int) < (n : Int)
    · have HPW : Hid (SlA w pt (.slice av n cv) (b.take n)) := (HV.out.sla HBt.out).take n hnb
      have hnc : (n : Int) ≤ (cv : Int) := by omega
      go_upto_region 3 with fail
      go_cut [35] (fun _ wx => WrV wx B pw pt { s with head := s.head ++ b.take n } ∧ Below B w wx)
      case first =>
        go_region_law ((refine step_append_mem rfl (.tmp 31) (.tmp 34) 22 rfl (HM.out.mem.grow (grownBy_drew _ none)) 5 rfl i0 (.int .u8 0) 1 Tryd.underlying22 hi hz0 hz1 hz2 rfl (by decide) (.slice av n cv) n (cellsOf (b.take n)) (by simp [Act.eval, Act.put]) (by simp [Act.eval, Act.put]) (HPW.out.src_take hnb) (by unfold maxLen; omega) (by omega) ?_; intro a' c' w2 hM2 hB2; have k0' : w2.cell? ⟨pt, 0, none⟩ = some (.slice ah s.head.length ch) := hM2.cell (i := 1) rfl 0 (by omega); have q0 := hM2.frozen (i := 1) rfl 0))
        all_goals (try go_wp2)
        all_goals go_meet
        all_goals
          refine ⟨⟨vo, vs, vk, .slice a' (s.head.length + n) c', vsh, vr, G, ?_, HM.out.runs⟩, ((Below.refl _ _).drew.trans hB2).setCell HBt.out _⟩
          have m := hM2.setCell (i := 1) rfl 0 (.slice a' (s.head.length + n) c')
          have l1 : (s.head ++ b.take n).length = s.head.length + n := by simp; omega
          simp only [rows, rowB, l1, cellsOf_append]
          exact m
      case rest =>
        go_wp2
        go_meet
        case rel => exact hcut
    · go_wp2_with fail
      go_meet
      case rel =>
        have : n = 0 := by omega
        subst this
        have e : ({ s with head := s.head ++ b.take 0 } : St) = s := by simp
        rw [e]
        exact ⟨⟨_, _, _, _, _, _, _, HM.out⟩, Below.refl _ _⟩
  case rest =>
    obtain ⟨⟨vo1, vs1, vk1, vh1, vsh1, vr1, G1, hM1⟩, hB1⟩ := hcut
    clear c0 t0
    have t1 := hM1.ct 1 (by omega)
    have q1 := hM1.ft 1
    simp only [tcells, List.getElem?_cons_succ, List.getElem?_cons_zero] at t1
    have HM1 : Hid _ := hM1
    have HB1 : Hid _ := hB1
    clear hM1 hB1
    have HWT : Hid ((s.tlen : Int) + (b.length : Int) = ((s.tlen + b.length : Nat) : Int)) := by show _ = _; omega
    go_upto_block 0 with fail
    have HL0 : Hid (Lp w (wc.setCell ⟨pt, 1, none⟩ (.int .i64 ((s.tlen : Int) + (b.length : Int)))) B pw pt s1 b 0 s1) := by
      have e : s1 = { s with head := s.head ++ b.take n, tlen := s.tlen + b.length } := by rw [H1.out]; unfold heads setH; rw [HTK.out]
      refine ⟨Nat.zero_le _, ⟨vo1, vs1, vk1, vh1, vsh1, vr1, G1, ?_, ?_⟩, rfl, ?_, HB1.out.setCell HBt.out _⟩
      · rw [e, HWT.out]
        exact HM1.out.mem.setCell (i := 1) rfl 1 (.int .i64 ((s.tlen + b.length : Nat) : Int))
      · rw [e]; exact HM1.out.runs
      · rw [e]; exact HG.out.inv.short
    have HG1 : Hid (Good s1 k0) := by
      show Good s1 k0
      rw [H1.out]
      exact HG.out.setH _ _
    have hkp1 : s1.keep = s.keep := by rw [H1.out]; rfl
    clear HM HM1 HB1 t1 q1 HWT HG HTK HN hmn hnb hn40 ht hh
    go_wp2_with fail
    go_loopw [6] (fun i wr => ∃ (k : Nat) (t : St), i = .int .i64 k ∧ Hid (Lp w wr B pw pt s1 b k t)) (fun i _ => b.length - (intOf i).toNat)
    case atStart => exact ⟨0, s1, rfl, HL0⟩
    case round =>
      obtain ⟨k, t, rfl, HL⟩ := hrel
      clear HL0
      obtain ⟨vo2, vs2, vk2, vh2, vsh2, vr2, G2, hM⟩ := HL.out.mem
      have HM : Hid (WrM wr B pw pt t vo2 vs2 vk2 vh2 vsh2 vr2 G2) := hM
      have hkl := HL.out.le
      by_cases hlt : (k : Int) < (b.length : Int)
      · have HGt : Hid (Good t (k0 + k)) := HL.out.good HG1.out hk
        have c0 := hM.cw 0 (by omega)
        have c5 := hM.cw 5 (by omega)
        have c6 := hM.cw 6 (by omega)
        have c7 := hM.cw 7 (by omega)
        have c8 := hM.cw 8 (by omega)
        have c15 := hM.cw 15 (by omega)
        have q15 := hM.fw 15
        simp only [wcells, List.getElem?_cons_succ, List.getElem?_cons_zero] at c0 c5 c6 c7 c8 c15
        clear hM
        have HVr : Hid (SlB wr B (.slice av b.length cv) b) := HV.out.below HL.out.bel
        obtain ⟨g, off, rfl, HC⟩ : ∃ g off, av = some ⟨g, off, none⟩ ∧ Hid (g < B ∧ ∀ i, i < b.length → w.cell? ⟨g, off + i, none⟩ = some (.int .u8 ((b.getD i 0).toNat : Int))) := by
          obtain ⟨a, c, hv, _, ⟨_, h0⟩ | ⟨b', off, ha, hb, hc⟩⟩ := HV.out
          · injection hv with _ _ h3; omega
          · injection hv with h1 _ _
            exact ⟨b', off, h1.trans ha, hb, hc⟩
        have hcne : ¬ cv = k := by omega
        have hkc : (k : Int) ≤ (cv : Int) := by omega
        have hout := HGt.out.inv.out
        have hsp3 := HGt.out.inv.spaces
        cases hfi : (t.full && !t.inRun)
        · have HFI : Hid ((t.full && !t.inRun) = false) := hfi
          go_upto_region 7 with fail
          go_cut [61] from 47 to 173 (fun x wx => x = .bool false ∧ wx = wr)
          case first =>
            cases hf : t.full
            · rw [hf] at c6
              go_wp2_with fail
              go_meet
              case rel => exact ⟨rfl, rfl⟩
            · have hi : t.inRun = true := by rw [hf] at hfi; simpa using hfi
              rw [hf] at c6
              rw [hi] at c7
              go_wp2_with fail
              go_meet
              case rel => exact ⟨rfl, rfl⟩
          case rest =>
            obtain ⟨rfl, rfl⟩ := hcut
            clear hfi
            obtain ⟨c, hc⟩ : ∃ c, b.getD k 0 = c := ⟨_, rfl⟩
            have hck : wc.cell? ⟨g, off + k, none⟩ = some (.int .u8 (c.toNat : Int)) := by
              have h1 := HC.out.2 k (by omega)
              rw [HL.out.bel.cell (p := ⟨g, off + k, none⟩) HC.out.1, h1, hc]
            have HDC : Hid (b.drop k = c :: b.drop (k + 1)) := by
              show _ = _
              rw [List.drop_eq_getElem_cons (by omega)]
              congr 1
              rw [← hc]
              simp [List.getD, show k < b.length by omega]
            have HT1 : Hid ((b.drop k).take 1 = [c]) := by show _ = _; rw [HDC.out]; rfl
            clear hc
            have hcb : c.toNat < 256 := c.toNat_lt
            by_cases hdg : isDigit c = true
            · have h48 : (48 : Int) ≤ (c.toNat : Int) := by simp [isDigit] at hdg; omega
              have h57 : (c.toNat : Int) ≤ 57 := by simp [isDigit] at hdg; omega
              have HDG : Hid (isDigit c = true) := hdg
              clear hdg
              have HU : Hid (Inv (unund t) (k0 + k) (64 * (k0 + k)) ∧ (unund t).und = false ∧ (unund t).inRun = t.inRun) := HGt.out.inv.unund HGt.out.und
              go_upto_if 102 with fail
              go_cut [103] from 47 to 173 (fun _ wx => WrV wx B pw pt (unund t) ∧ Below B w wx)
              case first =>
                cases hun : t.und
                · rw [hun] at c15
                  go_wp2_with fail
                  go_meet
                  case rel =>
                    rw [unund_of hun]
                    exact ⟨HL.out.mem, HL.out.bel⟩
                · rw [hun] at c15
                  have HW1 : Hid (WrV ((wc.setCell ⟨pw, 15, none⟩ (.bool false)).alloc (.cells #[.int .u8 95] 5)) B pw pt { t with und := false }) :=
                    ⟨_, _, _, _, _, _, _, ⟨(HM.out.mem.setCell (i := 0) rfl 15 (.bool false)).grow (World.grownBy_alloc _ _ none), HM.out.runs⟩⟩
                  have HS1 : Hid (SlA ((wc.setCell ⟨pw, 15, none⟩ (.bool false)).alloc (.cells #[.int .u8 95] 5)) pw (.slice (some ⟨wc.heap.size, 0, none⟩) 1 1) [95]) := by
                    have := sla_one (w := wc.setCell ⟨pw, 15, none⟩ (.bool false)) (p := pw) 95 (by rw [size_setCell]; exact HL.out.mem.blk)
                    rw [size_setCell] at this
                    exact this
                  have hb1 : ({ t with und := false } : St).length + ([95] : Bs).length ≤ 1073741824 := by
                    have := HGt.out.inv.len
                    show t.length + 1 ≤ _
                    split at this <;> omega
                  have hb2 : ({ t with und := false } : St).short.length ≤ 1073741824 := by have := HL.out.sh.2; show t.short.length ≤ _; omega
                  go_wp2_with (go_at_call 22; refine (extendRun_any _ B pw pt { t with und := false } (.slice (some ⟨wc.heap.size, 0, none⟩) 1 1) [95] HW1.out HS1.out hb1 hb2).mono ?_; rintro e w3 ⟨rfl, hA⟩; have HA : Hid _ := hA; clear hA)
                  go_meet
                  case rel =>
                    have e : unund t = extendRun { t with und := false } [95] := by unfold unund; rw [hun]; rfl
                    rw [e]
                    exact ⟨HA.out.1, ((HL.out.bel.setCell HB.out _).trans ((Below.refl _ _).alloc (by rw [size_setCell]; exact HL.out.mem.size) _)).trans HA.out.2⟩
              case rest =>
                obtain ⟨hW, hbl⟩ := hcut
                have HW : Hid (WrV wc B pw pt (unund t)) := hW
                have HBl : Hid (Below B w wc) := hbl
                clear hW hbl c0 c5 c6 c7 c8 c15 q15 HM hck
                obtain ⟨sl, hsl⟩ : ∃ sl, sl = b.drop k := ⟨_, rfl⟩
                have hsll : sl.length = b.length - k := by rw [hsl]; simp
                obtain ⟨n, hn⟩ : ∃ n, n = dn sl := ⟨_, rfl⟩
                obtain ⟨d, hd⟩ : ∃ d, d = sl.take n := ⟨_, rfl⟩
                have hnl : n ≤ sl.length := by rw [hn]; exact dn_le sl
                have hn1 : 1 ≤ n := by
                  rw [hn]
                  refine dn_ge sl 1 (by omega) ?_
                  rw [hsl, HT1.out]
                  intro x hx
                  rw [List.mem_singleton.1 hx]
                  exact HDG.out
                have hdl : d.length = n := by rw [hd]; simp; omega
                obtain ⟨f, hf⟩ : ∃ f, f = fz d := ⟨_, rfl⟩
                obtain ⟨l, hl'⟩ : ∃ l, l = lz d := ⟨_, rfl⟩
                have hfd : f ≤ d.length := by rw [hf]; exact fz_le d
                have hla : -1 ≤ l := by rw [hl']; exact lz_ge d
                have hlb : l ≤ 1073741824 := by rw [hl']; have := lz_lt d; omega
                have hgp : g ≠ pw := by have := HC.out.1; have := HB.out; omega
                have hSA : SlA wc pw (.slice (some ⟨g, off + k, none⟩) (b.length - k) (cv - k)) sl := by
                  rw [hsl]
                  exact SlA.drop hgp hcv (fun i hi => (HBl.out.cell (p := ⟨g, off + i, none⟩) HC.out.1).trans (HC.out.2 i hi)) k (by omega) _ _ _ (by omega) (by omega) (fun _ => rfl)
                have HSCAN : Hid (Calls Tryd.prog 23 #[.slice (some ⟨g, off + k, none⟩) (b.length - k) (cv - k)] wc fun e w' => e = .returned (.tuple #[.int .i64 n, .int .i64 f, .int .i64 l]) ∧ Below wc.heap.size wc w') := by
                  have := scan_any wc pw _ sl hSA (HT.out.belowB hB2 HBl.out) (by omega)
                  rw [← hn, ← hd, ← hf, ← hl'] at this
                  exact this
                have HD : Hid (sl = b.drop k ∧ n = dn sl ∧ d = sl.take n ∧ f = fz d ∧ l = lz d) := ⟨hsl, hn, hd, hf, hl'⟩
                have HSA : Hid (SlA wc pw (.slice (some ⟨g, off + k, none⟩) n (cv - k)) d) := by
                  show SlA _ _ _ _
                  rw [hd]
                  have h2 := hSA
                  rw [← hsll] at h2
                  exact h2.take n hnl
                clear hsl hn hd hf hl' hSA
                have hkn : (k : Int) + (n : Int) ≤ (cv : Int) := by omega
                have hkn2 : (k : Int) ≤ (k : Int) + (n : Int) := by omega
                go_upto_region 21 with (go_at_call 23; refine HSCAN.out.mono ?_; rintro e w4 ⟨rfl, hb4⟩; have HB4 : Hid _ := hb4; clear hb4)
                have HW4 : Hid (WrV w4 B pw pt (unund t)) := HW.out.below HB4.out
                have HBl4 : Hid (Below B w w4) := HBl.out.trans (Below.mono HB4.out HW.out.size)
                have HSA4 : Hid (SlA w4 pw (.slice (some ⟨g, off + k, none⟩) n (cv - k)) d) := by
                  obtain ⟨a, c, hv, hc, hx⟩ := HSA.out
                  refine ⟨a, c, hv, hc, hx.imp id fun ⟨b', o', ha, hb', hcell⟩ => ⟨b', o', ha, hb', fun i hi => ?_⟩⟩
                  have h1 := hcell i hi
                  rw [HB4.out.cell (p := ⟨b', o' + i, none⟩) (World.block_lt_of_cell? wc _ h1), h1]
                have hlu := HU.out.1.len
                have hlu2 : (unund t).length + d.length ≤ 1073741824 := by split at hlu <;> omega
                have hlu3 : (unund t).short.length ≤ 1073741824 := by have := HU.out.1.short.2; omega
                obtain ⟨u, hu⟩ : ∃ u, u = extendRun (unund t) d := ⟨_, rfl⟩
                have hru := HU.out.1.ext_run d
                rw [← hu] at hru
                have HRU : Hid _ := hru
                clear hru
                have HUE : Hid (u = extendRun (unund t) d) := hu
                have HEXT : Hid (Calls Tryd.prog 22 #[.pointer (some ⟨pw, 0, none⟩), .slice (some ⟨g, off + k, none⟩) n (cv - k)] w4 fun e w' => e = .returned (.tuple #[]) ∧ Aft w4 B pw pt u w') := by
                  have := extendRun_any w4 B pw pt (unund t) _ d HW4.out HSA4.out hlu2 hlu3
                  rw [← hu] at this
                  exact this
                clear hu hlu
                go_upto_region 22 with (go_at_call 22; refine HEXT.out.mono ?_; rintro e w5 ⟨rfl, hA5⟩; have HA5 : Hid _ := hA5; clear hA5)
                obtain ⟨vo5, vs5, vk5, vh5, vsh5, vr5, G5, hM5⟩ := HA5.out.1
                have k0' := hM5.cw 0 (by omega)
                have k2' := hM5.ct 2 (by omega)
                simp only [wcells, tcells, List.getElem?_cons_succ, List.getElem?_cons_zero] at k0' k2'
                have HM5 : Hid _ := hM5
                clear hM5
                have HWd : Hid (WrV w5.drew B pw pt u) := ⟨_, _, _, _, _, _, _, ⟨HM5.out.mem.grow (grownBy_drew _ none), HM5.out.runs⟩⟩
                have HSA5 : Hid (SlA w5.drew pw (.slice (some ⟨g, off + k, none⟩) n (cv - k)) d) := by
                  obtain ⟨a, c, hv, hc, hx⟩ := HSA4.out
                  refine ⟨a, c, hv, hc, ?_⟩
                  rcases hx with hx | ⟨b', o', ha, hb', hcell⟩
                  · exact .inl hx
                  · injection hv with h1 _ _
                    rw [ha] at h1
                    injection h1 with h1
                    injection h1 with h1 h2 h3
                    subst h1
                    exact .inr ⟨g, o', ha, hb', fun i hi => (HA5.out.2.cell (p := ⟨g, o' + i, none⟩) HC.out.1).trans (hcell i hi)⟩
                have hku : (u.keep : Int) ≤ 9223372036854775807 := by
                  have e1 : u.keep = (unund t).keep := HRU.out.2.2.2.2
                  have e2 : (unund t).keep = t.keep := unund_keep t
                  have e3 : t.keep = ((b.take k).foldl step s1).keep := by have := congrArg St.keep HL.out.nrm; exact this
                  have e4 : ((b.take k).foldl step s1).keep = s1.keep := fold_keep _ _
                  rw [e1, e2, e3, e4, hkp1]
                  exact hkp
                go_cut [143] from 47 to 173 (fun _ wx => WrV wx B pw pt (dig (unund t) d) ∧ Below B w wx)
                case first =>
                  have hwr : IntKind.i64.wrap ((k : Int) + (n : Int)) = (k : Int) + (n : Int) := by rw [IntKind.wrap_i64]; omega
                  have hto : ((k : Int) + (n : Int)).toNat - k = n := by omega
                  have HADD : Hid (Calls Tryd.prog 24 #[.pointer (some ⟨pw, 11, none⟩), .slice (some ⟨g, off + k, none⟩) n (cv - k), .int .i64 f, .int .i64 l, .int .i64 u.keep] w5.drew fun e w' => e = .returned (.tuple #[]) ∧ Hid (WrV w' B pw pt (dig (unund t) d) ∧ Below B w w') ∧ w'.cell? ⟨pw, 0, none⟩ = some (.pointer (some ⟨pt, 0, none⟩)) ∧ w'.cell? ⟨pt, 2, none⟩ = some (.int .i64 u.keep)) := by
                    have e : dig (unund t) d = add u d f l := by
                      obtain ⟨_, _, _, h4, h5⟩ := HD.out
                      rw [h4, h5, HUE.out]; rfl
                    refine (add_any _ B pw pt u (.slice (some ⟨g, off + k, none⟩) n (cv - k)) d f l HWd.out HSA5.out hfd (by omega) (by have := HRU.out; omega) (by have := HRU.out; omega) HRU.out.2.2.1 (by have := HRU.out; omega) hku hla hlb).mono ?_
                    rintro e' w6 ⟨rfl, hA6⟩
                    refine ⟨rfl, by rw [e]; exact ⟨hA6.1, ((HBl4.out.trans HA5.out.2).drew).trans hA6.2⟩, ?_, ?_⟩
                    · obtain ⟨_, _, _, _, _, _, _, hM6⟩ := hA6.1
                      exact hM6.cw 0 (by omega)
                    · obtain ⟨_, _, _, _, _, _, _, hM6⟩ := hA6.1
                      have := hM6.ct 2 (by omega)
                      simp only [tcells, List.getElem?_cons_succ, List.getElem?_cons_zero] at this
                      rw [this, add_keep]
                  clear HWd HSA5 HSA4 HSA HW4 HW HBl HBl4 HEXT HSCAN HM5 HVr
                  go_region_held3 (fun w' => w'.cell? ⟨pw, 0, none⟩ = some (.pointer (some ⟨pt, 0, none⟩)) ∧ w'.cell? ⟨pt, 2, none⟩ = some (.int .i64 u.keep)) (first | go_keep | (exact ⟨s1', s2'⟩)) ((go_at_call 24; refine HADD.out.mono ?_; rintro e w6 ⟨rfl, HA6, s1', s2'⟩))
                  all_goals (try go_wp2)
                  all_goals go_meet
                  all_goals exact HA6.out
                case rest =>
                  obtain ⟨hW6, hB6⟩ := hcut
                  have HW6 : Hid _ := hW6
                  have HB6 : Hid _ := hB6
                  clear hW6 hB6 k0' k2'
                  have hnn : (k : Int) + (n : Int) ≤ (b.length : Int) := by omega
                  go_wp2_with fail
                  have HLn : Hid (Lp w wc B pw pt s1 b (k + n) (dig (unund t) d)) := by
                    obtain ⟨h1, h2, h3, h4, h5⟩ := HD.out
                    refine HL.out.next (by omega) HW6.out ?_ (HU.out.1.dig d (by omega) HU.out.2.1).1.short HB6.out
                    rw [← h1, ← h3]
                    exact (fold_digits HGt.out HFI.out d (by omega) (by rw [h3, h2]; exact dn_digits sl) (by omega)).symm
                  exact ⟨⟨k + n, _, by simp, HLn⟩, by simp [intOf]; omega⟩
            · have hdf : isDigit c = false := by simpa using hdg
              have HDF : Hid (isDigit c = false) := hdf
              have HND : Hid (¬ (48 ≤ (c.toNat : Int)) ∨ ¬ ((c.toNat : Int) ≤ 57)) := by
                show _ ∨ _
                simp [isDigit] at hdf
                omega
              clear hdg hdf
              go_upto_region 16 with fail
              go_cut [92] from 47 to 173 (fun x wx => x = .bool false ∧ wx = wc)
              case first =>
                rcases HND.out with h | h
                · go_wp2_with fail
                  go_meet
                  case rel => exact ⟨rfl, rfl⟩
                · by_cases h48 : 48 ≤ (c.toNat : Int)
                  · go_wp2_with fail
                    go_meet
                    case rel => exact ⟨rfl, rfl⟩
                  · go_wp2_with fail
                    go_meet
                    case rel => exact ⟨rfl, rfl⟩
              case rest =>
                obtain ⟨rfl, rfl⟩ := hcut
                go_upto_region 24 with fail
                obtain ⟨X, hX⟩ : ∃ X, X = (c == 95 && t.inRun && t.joins && !t.und) := ⟨_, rfl⟩
                go_cut [147] from 47 to 173 (fun x wx => x = .bool X ∧ wx = wc)
                case first =>
                  cases h95 : (c == UInt8.ofNat 95)
                  · have g95 : ((c.toNat : Int) == 95) = false := byte_ne 95 (by omega) h95
                    have hX0 : X = false := by rw [hX, show (c == 95) = false from h95]; rfl
                    subst hX0
                    clear hX h95
                    go_wp2_with fail
                    go_meet
                    case rel => exact ⟨rfl, rfl⟩
                  · have g95 : ((c.toNat : Int) == 95) = true := byte_eq 95 (by omega) h95
                    rw [show (c == 95) = true from h95] at hX
                    cases hir : t.inRun
                    · rw [hir] at c7 hX
                      have hX0 : X = false := by rw [hX]; rfl
                      subst hX0
                      clear hX h95
                      go_wp2_with fail
                      go_meet
                      case rel => exact ⟨rfl, rfl⟩
                    · rw [hir] at c7 hX
                      cases hjo : t.joins
                      · rw [hjo] at c8 hX
                        have hX0 : X = false := by rw [hX]; rfl
                        subst hX0
                        clear hX h95
                        go_wp2_with fail
                        go_meet
                        case rel => exact ⟨rfl, rfl⟩
                      · rw [hjo] at c8 hX
                        have hX0 : X = !t.und := by rw [hX]; simp
                        subst hX0
                        clear hX h95
                        go_wp2_with fail
                        go_meet
                        case rel => exact ⟨rfl, rfl⟩
                case rest =>
                  obtain ⟨rfl, rfl⟩ := hcut
                  have HX : Hid (X = (c == 95 && t.inRun && t.joins && !t.und)) := hX
                  clear hX
                  cases X
                  · -- a byte that is put
                    have HI := HGt.out.inv
                    have HIE : Hid (Inv t (k0 + k) (64 * (k0 + k))) := HI
                    have he := HI.endRun (by omega)
                    have ho2 := he.1.out
                    have hsp2 := he.1.spaces
                    have ho3 : (endRun t).out.length ≤ 1073741824 := by omega
                    have HSH : Hid (ShOk (endRun t)) := he.1.short
                    have ho4 : 64 * (k0 + k) ≤ 268435456 := by omega
                    have hk4 : k0 + k ≤ 1048576 := by omega
                    clear HI he ho2
                    go_wp2_with (first
                      | (go_at_call 25; refine (endRun_any _ B pw pt t (k0 + k) (64 * (k0 + k)) HL.out.mem HIE.out hk4 ho4).mono ?_; rintro e w3 ⟨rfl, hA⟩; have HA : Hid _ := hA; clear hA)
                      | (go_at_call 21; refine (put_any _ B pw pt (endRun t) c HA.out.1 ho3 hsp2).mono ?_; rintro e w4 ⟨rfl, hA2⟩; have HA2 : Hid _ := hA2; clear hA2))
                    have HLn : Hid (Lp w w4 B pw pt s1 b (k + 1) (put (endRun t) c)) := by
                      refine HL.out.next (by omega) HA2.out.1 ?_ (HSH.out.put c) (HL.out.bel.trans (HA.out.2.trans HA2.out.2))
                      rw [HT1.out, List.foldl_cons, List.foldl_nil]
                      unfold step
                      rw [HFI.out, HDF.out, ← HX.out]
                      rfl
                    exact ⟨⟨k + 1, put (endRun t) c, by simp, HLn⟩, by simp [intOf]; omega⟩
                  · -- an underscore that waits
                    go_wp2_with fail
                    have HLn : Hid (Lp w (wc.setCell ⟨pw, 15, none⟩ (.bool true)) B pw pt s1 b (k + 1) { t with und := true }) := by
                      refine HL.out.next (by omega) ⟨_, _, _, _, _, _, _, ⟨HM.out.mem.setCell (i := 0) rfl 15 (.bool true), HM.out.runs⟩⟩ ?_ HL.out.sh (HL.out.bel.setCell HB.out _)
                      rw [HT1.out, List.foldl_cons, List.foldl_nil]
                      unfold step
                      rw [HFI.out, HDF.out, ← HX.out]
                      rfl
                    exact ⟨⟨k + 1, _, by simp, HLn⟩, by simp [intOf]; omega⟩
        · -- full, outside a run
          obtain ⟨hf, hi⟩ : t.full = true ∧ t.inRun = false := by cases hh : t.full <;> cases hh2 : t.inRun <;> simp_all
          have HFI : Hid ((t.full && !t.inRun) = true) := hfi
          rw [hf] at c6
          rw [hi] at c7
          clear hfi
          obtain ⟨sl, hsl⟩ : ∃ sl, sl = b.drop k := ⟨_, rfl⟩
          have hsll : sl.length = b.length - k := by rw [hsl]; simp
          have HSL : Hid (sl = b.drop k) := hsl
          have HX : Hid (∀ i, i < b.length - k → wr.cell? ((⟨g, off + k, none⟩ : Addr).add i) = some (.int .u8 ((sl.map (fun c => (c.toNat : Int))).getD i 0))) := by
            show ∀ i, _
            intro i hi
            have h1 := HC.out.2 (k + i) (by omega)
            rw [addr_add, Nat.add_assoc, HL.out.bel.cell (p := ⟨g, off + (k + i), none⟩) HC.out.1, h1, HSL.out]
            simp [List.getD, show k + i < b.length by omega]
          have HXL : Hid ((sl.map (fun c => (c.toNat : Int))).length = b.length - k) := by show _ = _; simp [hsll]
          clear hsl
          obtain ⟨J, hJ⟩ : ∃ J, J = Lib.indexByte sl 32 := ⟨_, rfl⟩
          have HBO : Hid (Lib.indexByte (Lib.bytesOf (sl.map (fun c => (c.toNat : Int)))) ((32 : Int).toNat.toUInt8) = J) := by show _ = _; rw [bytesOf_nat, hJ]; rfl
          rcases index_cases sl J hJ with ⟨rfl, hno⟩ | ⟨j, rfl, hjl, htk, hno⟩
          · have HNO : Hid (∀ c ∈ sl, c ≠ 32) := hno
            clear hno hJ
            go_wp2_with (go_at_call 20; refine (Tryd.bytes_IndexByte_at ⟨g, off + k, none⟩ (b.length - k) (cv - k) (sl.map (fun c => (c.toNat : Int))) 32 wr HXL.out HX.out).mono ?_; rw [HBO.out]; rintro e w2 ⟨rfl, rfl⟩)
            (try simp only [Exit.inBlock, Exit.then])
            refine bodyPost_ret (results_none rfl _ _ _) rfl ?_
            exact ⟨rfl, HL.out.done H2.out (fold_full_none HFI.out _ (.inr (by rw [← HSL.out]; exact HNO.out)))⟩
          · have HNO : Hid (sl.take (j + 1) = sl.take j ++ [32] ∧ ∀ c ∈ sl.take j, c ≠ 32) := ⟨htk, hno⟩
            clear hno hJ htk
            by_cases h3 : (3 : Int) ≤ (t.spaces : Int)
            · go_wp2_with (go_at_call 20; refine (Tryd.bytes_IndexByte_at ⟨g, off + k, none⟩ (b.length - k) (cv - k) (sl.map (fun c => (c.toNat : Int))) 32 wr HXL.out HX.out).mono ?_; rw [HBO.out]; rintro e w2 ⟨rfl, rfl⟩)
              (try simp only [Exit.inBlock, Exit.then])
              refine bodyPost_ret (results_none rfl _ _ _) rfl ?_
              exact ⟨rfl, HL.out.done H2.out (fold_full_none HFI.out _ (.inl (by omega)))⟩
            · have hob : t.out.length ≤ 1073741824 := by omega
              go_wp2_with (first
                | (go_at_call 20; refine (Tryd.bytes_IndexByte_at ⟨g, off + k, none⟩ (b.length - k) (cv - k) (sl.map (fun c => (c.toNat : Int))) 32 wr HXL.out HX.out).mono ?_; rw [HBO.out]; rintro e w2 ⟨rfl, rfl⟩)
                | (go_at_call 21; refine (put_any _ B pw pt t 32 HL.out.mem hob hsp3).mono ?_; rintro e w3 ⟨rfl, hA⟩; have HA : Hid _ := hA; clear hA))
              have HLn : Hid (Lp w w3 B pw pt s1 b (k + (j + 1)) (put t 32)) := HL.out.next (by omega) HA.out.1 (by rw [← HSL.out, HNO.out.1, fold_full_space HFI.out _ HNO.out.2 (by omega)]) (HL.out.sh.put 32) (HL.out.bel.trans HA.out.2)
              exact ⟨⟨k + (j + 1), put t 32, by simp, HLn⟩, by simp [intOf]; omega⟩
      · go_wp2_with fail
        go_end0
        refine ⟨rfl, t, HL.out.mem, ?_, HL.out.sh, HL.out.bel⟩
        have e : b.take k = b := List.take_of_length_le (by omega)
        have := HL.out.nrm
        rw [e] at this
        rw [this, H2.out]
end Go.Proofs.Qxb6616348aDoor
