import Derived.Test.Qxb6616348aDoorMo
import Derived.BigRegion
import Derived.Deep.RegionLaw
import Derived.Deep.RegionWith
import Derived.Test.Qxb6616348aDoorAnyM
set_option linter.unusedSimpArgs false
set_option linter.unusedVariables false
namespace Go.Proofs.Qxb6616348aDoor
open Go.RowKit

/-- an owned row's tail, read -/
theorem own_tail {w : World} {B g cd x n' c' : Nat} {D : Bs} (h : w.ownsRow B 5 1 (.slice (some ⟨g, 0, none⟩) D.length cd) D.length (cellsOf D)) (z : Nat) (hz : z ≤ D.length) (hn : n' = D.length - z) (hc : n' ≤ c') (hx : 0 < n' → x = z) : Rd w (.slice (some ⟨g, x, none⟩) n' c') (D.drop z) := by
  subst hn
  refine ⟨_, c', by simp, by simpa using hc, .inr ⟨g, x, rfl, fun i hi => ?_⟩⟩
  have hi' : z + i < D.length := by simp at hi; omega
  rw [hx (by omega), h.cellAt (z + i) (by omega)]
  simp [cellsOf, List.getD, hi']
/-- sv is dv's tail, wherever dv is owned -/
def Tl (dv sv : Value) (D : Bs) (z : Nat) : Prop := ∀ (w : World) (B : Nat), w.ownsRow B 5 1 dv D.length (cellsOf D) → Rd w sv (D.drop z)
theorem rd_src_take {w : World} {a : Option Addr} {n c k : Nat} {l : Bs} (h : Rd w (.slice a n c) l) (hn : n = l.length) (hk : k ≤ n) : Src w (.slice a k c) k (cellsOf (l.take k)) 1 := by
  subst hn
  have := (h.take k hk).src
  rw [show (l.take k).length = k by simp; omega] at this
  exact this
theorem valOf_parts (keep : Nat) (D : Bs) (z K : Nat) (hz : z = fz D) (hK : K = min (D.drop z).length keep) : (valOf keep D) = ⟨z, (D.drop z).take K, (D.drop z).length - K, ((D.drop z).drop K).any (· != 48)⟩ := by
  subst hz
  unfold valOf
  have h1 : (D.drop (fz D)).take keep = (D.drop (fz D)).take K := by
    rw [hK]
    by_cases h : (D.drop (fz D)).length ≤ keep
    · rw [Nat.min_eq_left h, List.take_of_length_le h, List.take_length]
    · rw [Nat.min_eq_right (by omega)]
  have h2 : (D.drop (fz D)).drop keep = (D.drop (fz D)).drop K := by
    rw [hK]
    by_cases h : (D.drop (fz D)).length ≤ keep
    · rw [Nat.min_eq_left h, List.drop_of_length_le h, List.drop_length]
    · rw [Nat.min_eq_right (by omega)]
  rw [h1, h2]
  congr 1
  omega
theorem standIn_parts (keep : Nat) (D : Bs) (z K S n : Nat) (hz : z = fz D) (hK : K = min (D.drop z).length keep) (hS : S = min K 18) :
    standIn (valOf keep D) n = if 0 < z then List.replicate (n - S) 48 ++ (D.drop z).take S else (D.drop z).take S ++ List.replicate (n - S) 48 := by
  rw [valOf_parts keep D z K hz hK]
  unfold standIn
  have h1 : ((D.drop z).take K).take 18 = (D.drop z).take S := by
    rw [List.take_take, hS, Nat.min_comm]
  have h2 : ((D.drop z).take S).length = S := by rw [List.length_take]; omega
  simp only [h1, h2]

set_option maxHeartbeats 8000000 in
set_option maxRecDepth 100000 in
theorem emit_short (w : World) (B pm : Nat) (t : St) (v : Value) (r : Bs) (h : MoV w B pm t) (hv : SlB w B v r) (ho : t.out.length ≤ 8388608) (h40 : r.length ≤ 40) :
    Calls Tryd.prog 17 #[.pointer (some ⟨pm, 0, none⟩), v, .int .i64 t.keep] w fun e w' => e = .returned (.tuple #[]) ∧ MoV w' B pm (emit t r) ∧ Below B w w' := by
  obtain ⟨vo, vsh, vr, G, hM⟩ := h
  obtain ⟨ao, co, rfl, hco⟩ := row_form hM.oout
  obtain ⟨av, cv, rfl, hcv⟩ := hv.len
  have HM : Hid (MoM w B pm t (.slice ao t.out.length co) vsh vr nilB G) := hM
  have HV : Hid (SlB w B (.slice av r.length cv) r) := hv
  have HB : Hid (B ≤ pm) := hM.lt
  have c0 := hM.c 0 (by omega)
  simp only [mcells, List.getElem?_cons_succ, List.getElem?_cons_zero] at c0
  obtain ⟨i0, hi, hz0, hz1, hz2⟩ := info_parts info5
  clear hM hv
  have h40I : (r.length : Int) ≤ 40 := by omega
  go_enter Tryd.func17, Tryd.ntmps17
  go_wp2_with (at_builtin; refine wpList_append_mem rfl (.tmp 27) (.tmp 28) 22 rfl HM.out.mem 1 rfl i0 (.int .u8 0) 1 Tryd.underlying22 hi hz0 hz1 hz2 rfl (by decide) (.slice av r.length cv) r.length (cellsOf r) rfl rfl HV.out.rd.src (by unfold maxLen; omega) (by omega) ?_; intro a' c' w2 hM2 hB2; have k0 := hM2.cell (i := 0) rfl 0 (by omega); have q0 := hM2.frozen (i := 0) rfl 0; have HM2 : Hid _ := hM2; have HB2 : Hid _ := hB2; clear hM2 hB2)
  (try simp only [Exit.inBlock, Exit.then])
  refine bodyPost_ret (results_none rfl _ _ _) rfl ?_
  have e : emit t r = { t with out := t.out ++ r } := by unfold emit; rw [if_pos h40]
  rw [e]
  refine ⟨rfl, ⟨.slice a' (t.out.length + r.length) c', vsh, vr, G, ?_, HM.out.runs⟩, HB2.out.setCell HB.out _⟩
  have m := HM2.out.setCell (i := 0) rfl 0 (.slice a' (t.out.length + r.length) c')
  have l1 : (t.out ++ r).length = t.out.length + r.length := by simp
  simp only [mrows, rowB, l1, cellsOf_append]
  exact m

theorem sticky_snoc (sg : Bs) (K k : Nat) (h1 : K ≤ k) (h2 : k < sg.length) : ((sg.drop K).take (k + 1 - K)).any (· != 48) = (((sg.drop K).take (k - K)).any (· != 48) || (sg.getD k 0 != 48)) := by
  have e : (sg.drop K).take (k + 1 - K) = (sg.drop K).take (k - K) ++ [sg.getD k 0] := by
    rw [show k + 1 - K = (k - K) + 1 by omega, List.take_add_one, List.getElem?_drop, show K + (k - K) = k by omega, List.getElem?_eq_getElem h2]
    simp [List.getD, h2]
  rw [e, List.any_append]
  simp
theorem own_copied {w : World} {g B : Nat} {l : Bs} (hB : B ≤ g) (hl : l.length ≤ 1073741824) (h : w.heap[g]? = some (.cells (splice (List.replicate l.length (Value.int .u8 0)) 0 (cellsOf l)).toArray 5 (0, 0))) : w.ownsRow B 5 1 (.slice (some ⟨g, 0, none⟩) l.length l.length) l.length (cellsOf l) := by
  have e : splice (List.replicate l.length (Value.int .u8 0)) 0 (cellsOf l) = cellsOf l := by simp [splice, cellsOf]
  rw [e] at h
  refine ⟨by simp [cellsOf], .inr ⟨g, l.length, (cellsOf l).toArray, rfl, hB, h, Nat.le_refl _, by unfold maxLen; omega, by simp [cellsOf], ?_⟩⟩
  show (cellsOf l).take (l.length * 1) = cellsOf l
  rw [List.take_of_length_le (by simp [cellsOf])]
theorem At.of_rd {w : World} {a : Option Addr} {n c : Nat} {l : Bs} (h : Rd w (.slice a n c) l) : At w a l := by
  intro h0
  obtain ⟨a', c', hv, hc, ⟨rfl, h1⟩ | ⟨b, off, ha, hcell⟩⟩ := h
  · omega
  · injection hv with e1 _ _
    exact ⟨b, off, e1.trans ha, hcell⟩

theorem own_mono' {w : World} {B B' : Nat} {e sz n : Nat} {v : Value} {xs : List Value} (h : w.ownsRow B e sz v n xs) (hb : B' ≤ B) : w.ownsRow B' e sz v n xs := by
  refine ⟨h.1, h.2.imp id fun ⟨g, cap, cur, e1, e2, e3⟩ => ⟨g, cap, cur, e1, by omega, e3⟩⟩
/-- a new row, whatever made it -/
theorem Mem.addB' {w w' : World} {B : Nat} {R : List Row} (h : Mem w B R) (r : Row) (ho : w'.ownsRow w.heap.size r.e r.sz r.v r.n r.xs) (hb : Below w.heap.size w w') : Mem w' B (R ++ [r]) := by
  have h' := h.below hb
  have hB := h.size
  have key : ∀ (j : Nat) (s : Row), R[j]? = some s → apart s.v r.v := by
    intro j s hs
    cases hs' : s.v.ownBlock with
    | none => exact .inl hs'
    | some k =>
      have h1 := ((h.own j s hs).lt k hs').2
      refine .inr ?_
      rw [hs']
      intro e
      have := (ho.lt k e.symm).1
      omega
  have at_ : ∀ (j : Nat) (s : Row), (R ++ [r])[j]? = some s → R[j]? = some s ∨ (j = R.length ∧ s = r) := by
    intro j s hs
    by_cases hj : j < R.length
    · rw [List.getElem?_append_left hj] at hs
      exact .inl hs
    · rw [List.getElem?_append_right (by omega)] at hs
      by_cases e : j = R.length
      · subst e
        simp at hs
        exact .inr ⟨rfl, hs.symm⟩
      · rw [List.getElem?_eq_none (by simp; omega)] at hs
        cases hs
  refine ⟨?_, ?_, h'.size⟩
  · intro j s hs
    rcases at_ j s hs with hs | ⟨_, rfl⟩
    · exact h'.own j s hs
    · exact own_mono' ho hB
  · intro j k s t hjk hs ht
    rcases at_ j s hs with hs' | ⟨ej, es⟩
    · rcases at_ k t ht with ht' | ⟨ek, et⟩
      · exact h.far j k s t hjk hs' ht'
      · rw [et]; exact key j s hs'
    · rcases at_ k t ht with ht' | ⟨ek, et⟩
      · rw [es]; exact (key k t ht').symm
      · omega

set_option maxHeartbeats 16000000 in
set_option maxRecDepth 100000 in
theorem emit_long (w : World) (B pm : Nat) (t : St) (v : Value) (r : Bs) (h : MoV w B pm t) (hv : SlB w B v r) (hr : r.length ≤ 1048576) (ho : t.out.length ≤ 8388608) (hr3 : t.runs.length ≤ 3) (hsh : t.shifts.length ≤ 8388608) (hb1 : -8388608 ≤ lastBy t.shifts) (hb2 : lastBy t.shifts ≤ 8388608) (hkp : (t.keep : Int) ≤ 9223372036854775807) (h41 : ¬ r.length ≤ 40) :
    Calls Tryd.prog 17 #[.pointer (some ⟨pm, 0, none⟩), v, .int .i64 t.keep] w fun e w' => e = .returned (.tuple #[]) ∧ MoV w' B pm (emit t r) ∧ Below B w w' := by
  obtain ⟨vo, vsh, vr, G, hM⟩ := h
  obtain ⟨ao, co, rfl, hco⟩ := row_form hM.oout
  obtain ⟨ash, csh, rfl, hcsh⟩ := row_form hM.oshifts
  obtain ⟨ar, cr, rfl, hcr⟩ := row_form hM.oruns
  obtain ⟨av, cv, rfl, hcv⟩ := hv.len
  have HM : Hid (MoM w B pm t (.slice ao t.out.length co) (.slice ash t.shifts.length csh) (.slice ar G.length cr) nilB G) := hM
  have HV : Hid (SlB w B (.slice av r.length cv) r) := hv
  have HB : Hid (B ≤ pm) := hM.lt
  have hBw : B ≤ w.heap.size := hM.mem.size
  have c5 := hM.c 5 (by omega)
  simp only [mcells, List.getElem?_cons_succ, List.getElem?_cons_zero] at c5
  have hGl : G.length = t.runs.length := by have := congrArg List.length hM.runs; simpa using this
  have hG3 : G.length ≤ 3 := by omega
  have HGl : Hid (G.length = t.runs.length) := hGl
  clear hGl
  obtain ⟨n, hn⟩ : ∃ n : Nat, n = 41 + G.length := ⟨_, rfl⟩
  have hnI : (41 : Int) + (G.length : Int) = (n : Int) := by omega
  have hn41 : 41 ≤ n ∧ n ≤ 44 := by omega
  have HN : Hid (n = 41 + G.length) := hn
  clear hn
  obtain ⟨i0, hi, hz0, hz1, hz2⟩ := info_parts info5
  clear hM hv
  have h41I : ¬ (r.length : Int) ≤ 40 := by omega
  have HM1 : Hid (∀ w1 : World, w1.ownsRow B 5 1 (.slice (some ⟨w.heap.size, 0, none⟩) 0 r.length) 0 [] → w.grownBy w1 none → MoM w1 B pm t (.slice ao t.out.length co) (.slice ash t.shifts.length csh) (.slice ar G.length cr) (rowB (.slice (some ⟨w.heap.size, 0, none⟩) 0 r.length) []) G ∧ Below B w w1) := by
    show ∀ w1 : World, _
    intro w1 hown hgrow
    exact ⟨⟨HM.out.mem.upd (i := 4) rfl (rowB (.slice (some ⟨w.heap.size, 0, none⟩) 0 r.length) []) hown hgrow (.inr (.inl rfl)), HM.out.runs⟩, (Below.refl _ _).grown hgrow hBw (fun k hk => by cases hk)⟩
  go_enter Tryd.func17, Tryd.ntmps17
  go_upto_block 0 with (at_make; refine wpList_make_own _ rfl _ _ 22 rfl B 5 i0 (.int .u8 0) 1 Tryd.underlying22 hi hz0 hz1 .i64 .i64 _ r.length rfl rfl rfl (by rw [hz2]; omega) (by unfold maxLen; omega) hBw ?_; intro w1 hown hgrow; have HW1 : Hid _ := HM1.out w1 hown hgrow; clear hown hgrow)
  go_cut [8, 9] (fun d j wx => ∃ ad cd, d = .slice ad (digs r).length cd ∧ 0 < cd ∧ MoM wx B pm t (.slice ao t.out.length co) (.slice ash t.shifts.length csh) (.slice ar G.length cr) (rowB (.slice ad (digs r).length cd) (digs r)) G ∧ Below B w wx)
  case first => as_aux_lemma =>
    go_wp2_with fail
    go_loopw [8, 9] (fun d j wr => ∃ (k : Nat) (ad : Option Addr) (cd : Nat), j = .int .i64 k ∧ k ≤ r.length ∧ d = .slice ad (digs (r.take k)).length cd ∧ 0 < cd ∧ Hid (MoM wr B pm t (.slice ao t.out.length co) (.slice ash t.shifts.length csh) (.slice ar G.length cr) (rowB (.slice ad (digs (r.take k)).length cd) (digs (r.take k))) G ∧ Below B w wr)) (fun _ j _ => r.length - (intOf j).toNat)
    case atStart => exact ⟨0, some ⟨w.heap.size, 0, none⟩, r.length, rfl, Nat.zero_le _, rfl, by omega, HW1.out⟩
    case round =>
      obtain ⟨k, ad, cd, rfl, hkl, rfl, hcd0, HR⟩ := hrel
      clear HW1 c5 HM1
      by_cases hlt : (k : Int) < (r.length : Int)
      · obtain ⟨b, off, hav, hcell⟩ := ((HV.out.below HR.out.2).rd).cell k (by omega)
        subst hav
        have HSN : Hid _ := digs_snoc r k (by omega)
        obtain ⟨x, hx⟩ : ∃ x, x = r.getD k 0 := ⟨_, rfl⟩
        rw [← hx] at hcell HSN
        clear hx
        have hdl : (digs (r.take k)).length ≤ 1048576 := Nat.le_trans (digs_le _) (by simp; omega)
        by_cases h95 : (x == 95) = true
        · have b95 : ((x.toNat : Int) == 95) = true := byte_eq 95 (by omega) h95
          have n95 : ((x.toNat : Int) != 95) = false := by rw [bne, b95]; rfl
          go_wp2_with fail
          have e1 : digs (r.take (k + 1)) = digs (r.take k) := by rw [HSN.out, if_pos (by simpa using h95)]; simp
          exact ⟨⟨k + 1, ad, cd, by simp, by omega, by rw [e1], hcd0, by rw [e1]; exact HR.out⟩, by simp [intOf]; omega⟩
        · have b95 : ((x.toNat : Int) == 95) = false := byte_ne 95 (by omega) (by simpa using h95)
          have n95 : ((x.toNat : Int) != 95) = true := by rw [bne, b95]; rfl
          go_wp2_with (at_builtin; refine wpList_append_mem rfl (.tmp 55) (.tmp 60) 22 rfl (HR.out.1.mem.grow (World.grownBy_alloc _ _ none)) 4 rfl i0 (.int .u8 0) 1 Tryd.underlying22 hi hz0 hz1 hz2 rfl (by decide) (.slice (some ⟨wr.heap.size, 0, none⟩) 1 1) 1 [.int .u8 (x.toNat : Int)] rfl rfl (src_one wr _ rfl 5) (by unfold maxLen; omega) (by omega) ?_; intro a' c' w2 hM2 hB2; have HM2 : Hid _ := hM2; have HB2 : Hid _ := hB2; clear hM2 hB2)
          have e1 : digs (r.take (k + 1)) = digs (r.take k) ++ [x] := by rw [HSN.out, if_neg (by simpa using h95)]
          have e2 : (digs (r.take k) ++ [x]).length = (digs (r.take k)).length + 1 := by simp
          have hc' : 0 < c' := by
            obtain ⟨a1, c1, hv1, hc1⟩ := row_form (HM2.out.own 4 _ rfl)
            injection hv1 with _ _ h3
            omega
          refine ⟨⟨k + 1, a', c', by simp, by omega, by rw [e1, e2], hc', ?_⟩, by simp [intOf]; omega⟩
          rw [e1, e2]
          refine ⟨⟨?_, HR.out.1.runs⟩, (HR.out.2.alloc HR.out.1.mem.size _).trans HB2.out⟩
          simp only [mrows, rowB, e2, cellsOf_append]
          exact HM2.out
      · go_wp2_with fail
        go_meet
        case rel =>
          have e : r.take k = r := List.take_of_length_le (by omega)
          rw [e] at HR
          rw [e]
          exact ⟨ad, cd, rfl, hcd0, HR.out⟩
  case rest =>
    obtain ⟨ad, cd, rfl, hcd0, hM2, hB2⟩ := hcut
    obtain ⟨D, hD⟩ : ∃ D, D = digs r := ⟨_, rfl⟩
    rw [← hD] at hM2 ⊢
    have hDl : D.length ≤ 1048576 := by rw [hD]; exact Nat.le_trans (digs_le r) hr
    have HD : Hid (D = digs r) := hD
    clear hD
    have HMD : Hid (MoM wc B pm t (.slice ao t.out.length co) (.slice ash t.shifts.length csh) (.slice ar G.length cr) (rowB (.slice ad D.length cd) D) G) := hM2
    have HBD : Hid (Below B w wc) := hB2
    have hcd : D.length ≤ cd := by
      obtain ⟨a1, c1, hv1, hc1⟩ := row_form hM2.od
      injection hv1 with _ _ h3
      subst h3
      exact hc1
    clear hM2 hB2 HM HM1 c5
    go_upto_block 2 with fail
    go_cut [10] (fun z wx => z = .int .i64 (fz D) ∧ wx = wc)
    case first =>
      go_wp2_with fail
      go_loopw [10] (fun z wr => ∃ k : Nat, z = .int .i64 k ∧ k ≤ D.length ∧ Hid (k ≤ fz D) ∧ Hid (wr = wc)) (fun z _ => D.length - (intOf z).toNat)
      case atStart => exact ⟨0, rfl, Nat.zero_le _, Nat.zero_le _, rfl⟩
      case round =>
        obtain ⟨k, rfl, hkl, HK, HW⟩ := hrel
        by_cases hlt : (k : Int) < (D.length : Int)
        · obtain ⟨b, off, rfl, hcell⟩ := (own_rd (l := D) HMD.out.od).cell k (by omega)
          rw [← HW.out] at hcell
          by_cases h48 : (D.getD k 0 == 48) = true
          · have b48 : (((D.getD k 0).toNat : Int) == 48) = true := byte_eq 48 (by omega) h48
            generalize (D.getD k 0).toNat = x at hcell b48
            go_wp2_with fail
            exact ⟨⟨k + 1, by simp, by omega, fz_step HK.out (by omega) (by simpa using h48), HW.out⟩, by simp [intOf]; omega⟩
          · have b48 : (((D.getD k 0).toNat : Int) == 48) = false := byte_ne 48 (by omega) (by simpa using h48)
            have HE : Hid (fz D = k) := fz_stop HK.out (by omega) (by simpa using h48)
            generalize (D.getD k 0).toNat = x at hcell b48
            go_wp2_with fail
            go_meet
            case rel => exact ⟨by rw [HE.out], HW.out⟩
        · have HE : Hid (fz D = k) := by show fz D = k; have := fz_le D; have := HK.out; omega
          go_wp2_with fail
          go_meet
          case rel => exact ⟨by rw [HE.out], HW.out⟩
    case rest =>
      obtain ⟨rfl, rfl⟩ := hcut
      obtain ⟨z, hz⟩ : ∃ z, z = fz D := ⟨_, rfl⟩
      rw [← hz]
      have hzl : z ≤ D.length := by rw [hz]; exact fz_le D
      have HZ : Hid (z = fz D) := hz
      clear hz
      obtain ⟨L, hL⟩ : ∃ L, L = D.length - z := ⟨_, rfl⟩
      have hLD : L ≤ D.length := by omega
      have hLI : (D.length : Int) - (z : Int) = (L : Int) := by omega
      have HL : Hid (L = D.length - z) := hL
      go_upto_region 15 with fail
      go_cut [11] (fun s wx => (∃ a c, s = .slice a L c ∧ L ≤ c) ∧ Tl (.slice ad D.length cd) s D z ∧ wx = wc)
      case first =>
        cases ad with
        | none =>
          exfalso
          rcases HMD.out.od.2 with ⟨h1, h2⟩ | ⟨g, cap, cur, h1, _⟩
          · have h1' : Value.slice none D.length cd = .slice none 0 0 := h1
            injection h1' with _ h3 h4
            omega
          · have h1' : Value.slice none D.length cd = .slice (some ⟨g, 0, none⟩) D.length cap := h1
            injection h1' with h3 _ _
            cases h3
        | some p =>
          obtain ⟨g, rfl⟩ : ∃ g, p = ⟨g, 0, none⟩ := by
            rcases HMD.out.od.2 with ⟨h1, h2⟩ | ⟨g, cap, cur, h1, _⟩
            · have h1' : Value.slice (some p) D.length cd = .slice none 0 0 := h1
              injection h1' with h3 _ _
              cases h3
            · have h1' : Value.slice (some p) D.length cd = .slice (some ⟨g, 0, none⟩) D.length cap := h1
              injection h1' with h3 _ _
              injection h3 with h3
              exact ⟨g, h3⟩
          by_cases hcc : cd = z
          · subst hcc
            have hL0 : L = 0 := by omega
            subst hL0
            clear hL
            go_wp2_with fail
            go_meet
            case rel => exact ⟨⟨_, _, rfl, by omega⟩, fun w B h => own_tail h _ (by omega) (by omega) (by omega) (by omega), rfl⟩
          · subst hL
            clear hLI
            go_wp2_with fail
            go_meet
            case rel => exact ⟨⟨_, _, rfl, by omega⟩, fun w B h => own_tail h _ (by omega) (by omega) (by omega) (by omega), rfl⟩
      case rest =>
        obtain ⟨⟨asg, csg, rfl, hcsg⟩, hTl, rfl⟩ := hcut
        have HTL : Hid (Tl (.slice ad D.length cd) (.slice asg L csg) D z) := hTl
        clear hTl hL hLI
        obtain ⟨sg, hsg⟩ : ∃ sg, sg = D.drop z := ⟨_, rfl⟩
        have hsgl : sg.length = L := by rw [hsg, List.length_drop, HL.out]
        have HSG : Hid (sg = D.drop z) := hsg
        have HSL : Hid (sg.length = L) := hsgl
        clear hsg hsgl
        have HRS : Hid (∀ (W : World) (o : St) (vo vsh vr : Value) (H : List (Value × Run)), MoM W B pm o vo vsh vr (rowB (.slice ad D.length cd) D) H → Rd W (.slice asg L csg) sg) := by
          show ∀ (W : World) (o : St) (vo vsh vr : Value) (H : List (Value × Run)), _
          intro W o vo vsh vr H hm
          have := HTL.out W B hm.od
          rw [← HSG.out] at this
          exact this
        obtain ⟨K, hK⟩ : ∃ K : Nat, K = min L t.keep := ⟨_, rfl⟩
        have hKL : K ≤ L := by omega
        have HK : Hid (K = min L t.keep) := hK
        clear hK
        obtain ⟨S, hS⟩ : ∃ S : Nat, S = min K 18 := ⟨_, rfl⟩
        have hSK : S ≤ K := by omega
        have hS18 : S ≤ 18 := by omega
        have HS : Hid (S = min K 18) := hS
        clear hS
        go_upto_if 82 with fail
        go_cut [12] (fun x wx => x = .int .i64 (K : Int) ∧ wx = wc)
        case first =>
          by_cases hk : (L : Int) > (t.keep : Int)
          · have HE : Hid (K = t.keep) := by show K = t.keep; have := HK.out; omega
            go_wp2_with fail
            go_meet
            case rel => exact ⟨by rw [HE.out], rfl⟩
          · have HE : Hid (K = L) := by show K = L; have := HK.out; omega
            go_wp2_with fail
            go_meet
            case rel => exact ⟨by rw [HE.out], rfl⟩
        case rest =>
          obtain ⟨rfl, rfl⟩ := hcut
          go_upto_if 86 with fail
          go_cut [13] (fun x wx => x = .int .i64 (S : Int) ∧ wx = wc)
          case first =>
            by_cases hk : (K : Int) > 18
            · have HE : Hid (S = 18) := by show S = 18; have := HS.out; omega
              go_wp2_with fail
              go_meet
              case rel => exact ⟨by rw [HE.out]; rfl, rfl⟩
            · have HE : Hid (S = K) := by show S = K; have := HS.out; omega
              go_wp2_with fail
              go_meet
              case rel => exact ⟨by rw [HE.out], rfl⟩
          case rest =>
            obtain ⟨rfl, rfl⟩ := hcut
            obtain ⟨Z, hZ⟩ : ∃ Z : Nat, Z = n - S := ⟨_, rfl⟩
            have hZI : (n : Int) - (S : Int) = (Z : Int) := by omega
            have hZ44 : Z ≤ 44 := by omega
            have HZ2 : Hid (Z = n - S) := hZ
            clear hZ
            have HSI : Hid (standIn (valOf t.keep D) n = if 0 < z then List.replicate (n - S) 48 ++ (D.drop z).take S else (D.drop z).take S ++ List.replicate (n - S) 48) := standIn_parts t.keep D z K S n HZ.out (by rw [HK.out, HL.out, List.length_drop]) HS.out
            have hSc : (S : Int) ≤ (csg : Int) := by omega
            have hS0 : (0 : Int) ≤ (S : Int) := by omega
            obtain ⟨zb, hzb⟩ : ∃ zb : Bool, decide (0 < z) = zb := ⟨_, rfl⟩
            go_upto_if 88 with fail
            go_cut [14] (fun _ wx => ∃ (s : St) (a' : Option Addr) (c' : Nat), s = { t with out := t.out ++ standIn (valOf t.keep D) n } ∧ MoM wx B pm s (.slice a' s.out.length c') (.slice ash t.shifts.length csh) (.slice ar G.length cr) (rowB (.slice ad D.length cd) D) G ∧ Below B w wx)
            case first => as_aux_lemma =>
              by_cases hzb' : zb = true
              · subst hzb'
                have hzp : (z : Int) > 0 := by have := of_decide_eq_true hzb; omega
                clear hzb
                go_upto_block 4 with fail
                have HM0 : Hid (MoM wc B pm t (.slice ao t.out.length co) (.slice ash t.shifts.length csh) (.slice ar G.length cr) (rowB (.slice ad D.length cd) D) G) := HMD.out
                have HB0 : Hid (Below B w wc) := HBD.out
                go_cut [14] (fun _ wx => ∃ (s : St) (a' : Option Addr) (c' : Nat), s = { t with out := t.out ++ List.replicate Z 48 } ∧ MoM wx B pm s (.slice a' s.out.length c') (.slice ash t.shifts.length csh) (.slice ar G.length cr) (rowB (.slice ad D.length cd) D) G ∧ Below B w wx)
                case first =>
                  go_wp2_with fail
                  go_loopw [14] (fun i wr => ∃ (k : Nat) (s : St) (a' : Option Addr) (c' : Nat), i = .int .i64 k ∧ k ≤ Z ∧ s.out.length ≤ 16777216 + k ∧ Hid (s = { t with out := t.out ++ List.replicate k 48 }) ∧ Hid (MoM wr B pm s (.slice a' s.out.length c') (.slice ash t.shifts.length csh) (.slice ar G.length cr) (rowB (.slice ad D.length cd) D) G ∧ Below B w wr)) (fun i _ => Z - (intOf i).toNat)
                  case atStart => exact ⟨0, t, _, _, rfl, Nat.zero_le _, by omega, (by show t = _; simp), HM0.out, HB0.out⟩
                  case round =>
                    obtain ⟨k, s, a', c', rfl, hkz, hsl, HS, HR⟩ := hrel
                    by_cases hlt : (k : Int) < (Z : Int)
                    · have d0 := HR.out.1.c 0 (by omega)
                      simp only [mcells, List.getElem?_cons_succ, List.getElem?_cons_zero] at d0
                      go_wp2_with (at_builtin; refine wpList_append_mem rfl (.tmp 100) (.tmp 101) 22 rfl (HR.out.1.mem.grow (World.grownBy_alloc _ _ none)) 1 rfl i0 (.int .u8 0) 1 Tryd.underlying22 hi hz0 hz1 hz2 rfl (by decide) (.slice (some ⟨wr.heap.size, 0, none⟩) 1 1) 1 [.int .u8 48] rfl rfl (src_one wr _ rfl 5) (by unfold maxLen; omega) (by omega) ?_; intro a2 c2 w2 hM2 hB2; have k0 := hM2.cell (i := 0) rfl 0 (by omega); have q0 := hM2.frozen (i := 0) rfl 0; have HM2 : Hid _ := hM2; have HB2 : Hid _ := hB2; clear hM2 hB2)
                      have e2 : (s.out ++ [48]).length = s.out.length + 1 := by simp
                      refine ⟨⟨k + 1, { s with out := s.out ++ [48] }, a2, c2, by simp, by omega, by rw [e2]; omega, ?_, ?_, ((HR.out.2.alloc HR.out.1.mem.size _).trans HB2.out).setCell HB.out _⟩, by simp [intOf]; omega⟩
                      · show _ = _
                        rw [HS.out, List.replicate_succ', List.append_assoc]
                      · refine ⟨?_, HR.out.1.runs⟩
                        have m := HM2.out.setCell (i := 0) rfl 0 (.slice a2 (s.out.length + 1) c2)
                        simp only [mrows, rowB, e2, cellsOf_append]
                        exact m
                    · go_wp2_with fail
                      go_meet
                      case rel =>
                        obtain rfl : k = Z := by omega
                        exact ⟨s, a', c', HS.out, HR.out.1, HR.out.2⟩
                case rest =>
                  obtain ⟨s, a1, c1, hs, hM1, hB1⟩ := hcut
                  have hsl : s.out.length ≤ 16777216 := by rw [hs]; show (t.out ++ List.replicate Z 48).length ≤ _; simp; omega
                  have HS1 : Hid (s = { t with out := t.out ++ List.replicate Z 48 }) := hs
                  have HMs : Hid (MoM wc B pm s (.slice a1 s.out.length c1) (.slice ash t.shifts.length csh) (.slice ar G.length cr) (rowB (.slice ad D.length cd) D) G) := hM1
                  have HBs : Hid (Below B w wc) := hB1
                  have d0 := hM1.c 0 (by omega)
                  simp only [mcells, List.getElem?_cons_succ, List.getElem?_cons_zero] at d0
                  have HSR : Hid (Src wc (.slice asg S csg) S (cellsOf (sg.take S)) 1) := rd_src_take (HRS.out _ _ _ _ _ _ hM1) HSL.out.symm (by omega)
                  clear hs hM1 hB1
                  go_upto_region 27 with fail
                  have HH1 : Hid ((fun W => W.cell? ⟨pm, 0, none⟩ = some (.slice a1 s.out.length c1)) wc.drew) := d0
                  refine region_M (fun W => W.cell? ⟨pm, 0, none⟩ = some (.slice a1 s.out.length c1)) 11 (by kernel_rfl) ?_
                  simp only [List.size_toArray, List.length_cons, List.length_nil, Nat.reduceAdd, Array.replicate_succ, Array.replicate_zero, List.push_toArray, List.append_toArray, List.nil_append, List.cons_append]
                  refine anyM_take (i := 0) (oi := ⟨some 105, _, _, _, _, _⟩) (v := ?vp0) rfl (by kernel_rfl) (by kernel_rfl) (by kernel_rfl) (by kernel_rfl) (fun _ _ _ h => h) (Or.inl ⟨by rfl, ?hyp0⟩) HH1.out ?restp0
                  case hyp0 =>
                    intro w hSw
                    obtain s0 := hSw
                    go_simp
                    try with_reducible rfl
                  try simp only [Act.put, List.setIfInBounds_toArray, List.set_cons_zero, List.set_cons_succ]
                  refine anyM_take (i := 1) (oi := ⟨some 106, _, _, _, _, _⟩) (v := ?vp1) rfl (by kernel_rfl) (by kernel_rfl) (by kernel_rfl) (by kernel_rfl) (fun _ _ _ h => h) (Or.inl ⟨by rfl, ?hyp1⟩) HH1.out ?restp1
                  case hyp1 =>
                    intro w hSw
                    obtain s0 := hSw
                    go_simp
                    try with_reducible rfl
                  try simp only [Act.put, List.setIfInBounds_toArray, List.set_cons_zero, List.set_cons_succ]
                  refine anyM_take (i := 2) (oi := ⟨some 107, _, _, _, _, _⟩) (v := ?vp2) rfl (by kernel_rfl) (by kernel_rfl) (by kernel_rfl) (by kernel_rfl) (fun _ _ _ h => h) (Or.inl ⟨by rfl, ?hyp2⟩) HH1.out ?restp2
                  case hyp2 =>
                    intro w hSw
                    obtain s0 := hSw
                    go_simp
                    try with_reducible rfl
                  try simp only [Act.put, List.setIfInBounds_toArray, List.set_cons_zero, List.set_cons_succ]
                  refine anyM_take (i := 3) (oi := ⟨some 108, _, _, _, _, _⟩) (v := ?vp3) rfl (by kernel_rfl) (by kernel_rfl) (by kernel_rfl) (by kernel_rfl) (fun _ _ _ h => h) (Or.inl ⟨by rfl, ?hyp3⟩) HH1.out ?restp3
                  case hyp3 =>
                    intro w hSw
                    obtain s0 := hSw
                    go_simp
                    try with_reducible rfl
                  try simp only [Act.put, List.setIfInBounds_toArray, List.set_cons_zero, List.set_cons_succ]
                  refine anyM_take (i := 4) (oi := ⟨some 109, _, _, _, _, _⟩) (v := ?vp4) rfl (by kernel_rfl) (by kernel_rfl) (by kernel_rfl) (by kernel_rfl) (fun _ _ _ h => h) (Or.inl ⟨by rfl, ?hyp4⟩) HH1.out ?restp4
                  case hyp4 =>
                    intro w hSw
                    obtain s0 := hSw
                    go_simp
                    try with_reducible rfl
                  try simp only [Act.put, List.setIfInBounds_toArray, List.set_cons_zero, List.set_cons_succ]
                  refine anyM_take (i := 5) (oi := ⟨some 110, _, _, _, _, _⟩) (v := ?vp5) rfl (by kernel_rfl) (by kernel_rfl) (by kernel_rfl) (by kernel_rfl) (fun _ _ _ h => h) (Or.inl ⟨by rfl, ?hyp5⟩) HH1.out ?restp5
                  case hyp5 =>
                    intro w hSw
                    obtain s0 := hSw
                    go_simp
                    try with_reducible rfl
                  try simp only [Act.put, List.setIfInBounds_toArray, List.set_cons_zero, List.set_cons_succ]
                  refine anyM_take (i := 6) (oi := ⟨some 111, _, _, _, _, _⟩) (v := ?vp6) rfl (by kernel_rfl) (by kernel_rfl) (by kernel_rfl) (by kernel_rfl) (fun _ _ _ h => h) (Or.inl ⟨by rfl, ?hyp6⟩) HH1.out ?restp6
                  case hyp6 =>
                    intro w hSw
                    obtain s0 := hSw
                    go_simp
                    try with_reducible rfl
                  try simp only [Act.put, List.setIfInBounds_toArray, List.set_cons_zero, List.set_cons_succ]
                  refine anyM_take (i := 7) (oi := ⟨some 112, _, _, _, _, _⟩) (v := ?vp7) rfl (by kernel_rfl) (by kernel_rfl) (by kernel_rfl) (by kernel_rfl) (fun _ _ _ h => h) (Or.inl ⟨by rfl, ?hyp7⟩) HH1.out ?restp7
                  case hyp7 =>
                    intro w hSw
                    obtain s0 := hSw
                    go_simp
                    try with_reducible rfl
                  try simp only [Act.put, List.setIfInBounds_toArray, List.set_cons_zero, List.set_cons_succ]
                  refine anyM_one (i := 8) rfl (by kernel_rfl) (fun K hK => ?_)
                  refine step_append_mem rfl (.tmp 109) (.tmp 112) 22 rfl (HMs.out.mem.grow (grownBy_drew _ none)) 1 rfl i0 (.int .u8 0) 1 Tryd.underlying22 hi hz0 hz1 hz2 rfl (by decide) (.slice asg S csg) S (cellsOf (sg.take S)) (by simp [Act.eval, Act.put]) (by simp [Act.eval, Act.put]) HSR.out (by unfold maxLen; omega) (by omega) ?_
                  intro a2 c2 w2 hM2 hB2
                  have k0 : w2.cell? ⟨pm, 0, none⟩ = some (.slice a1 s.out.length c1) := hM2.cell (i := 0) rfl 0 (by omega)
                  have q0 : w2.frozen? ⟨pm, 0, none⟩ = false := hM2.frozen (i := 0) rfl 0
                  have HM2 : Hid _ := hM2
                  have HB2 : Hid _ := hB2
                  clear hM2 hB2
                  have HH2 : Hid ((fun W => W.cell? ⟨pm, 0, none⟩ = some (.slice a1 s.out.length c1)) w2) := k0
                  refine hK.out _ _ (fun _ => HH2.out) ?_
                  clear hK
                  try simp only [Act.put, List.setIfInBounds_toArray, List.set_cons_zero, List.set_cons_succ]
                  refine anyM_one (i := 9) (o := ⟨some 114, _, _, _, _, none⟩) rfl (by kernel_rfl) (fun K hK => ?_)
                  go_simp
                  refine hK.out _ _ (fun _ => HH2.out) ?_
                  clear hK
                  try simp only [Act.put, List.setIfInBounds_toArray, List.set_cons_zero, List.set_cons_succ]
                  refine anyM_one (i := 10) (o := ⟨some 115, _, _, _, _, none⟩) rfl (by kernel_rfl) (fun K hK => ?_)
                  go_simp
                  refine hK.out _ _ (fun _ => HH2.out) ?_
                  clear hK
                  try simp only [Act.put, List.setIfInBounds_toArray, List.set_cons_zero, List.set_cons_succ]
                  refine anyM_one (i := 11) rfl (by kernel_rfl) (fun K hK => ?_)
                  go_simp
                  refine hK.out _ _ (fun h => absurd rfl h) ?_
                  clear hK
                  refine anyM_done (by kernel_rfl) ?_ _
                  go_wp2
                  go_meet
                  case rel =>
                    have e2 : (s.out ++ sg.take S).length = s.out.length + S := by simp; have := HSL.out; omega
                    refine ⟨{ s with out := s.out ++ sg.take S }, a2, c2, ?_, ?_, (HBs.out.drew.trans HB2.out).setCell HB.out _⟩
                    · rw [HS1.out, HSI.out, if_pos (by omega), ← HZ2.out, HSG.out, List.append_assoc]
                    · refine ⟨?_, HMs.out.runs⟩
                      have m := HM2.out.setCell (i := 0) rfl 0 (.slice a2 (s.out.length + S) c2)
                      simp only [mrows, rowB, e2, cellsOf_append]
                      exact m
              · have hzb2 : zb = false := by simpa using hzb'
                subst hzb2
                have hzp : ¬ (z : Int) > 0 := by have := of_decide_eq_false hzb; omega
                clear hzb hzb'
                go_upto_region 28 with fail
                have d0 := HMD.out.c 0 (by omega)
                simp only [mcells, List.getElem?_cons_succ, List.getElem?_cons_zero] at d0
                have HSR : Hid (Src wc (.slice asg S csg) S (cellsOf (sg.take S)) 1) := rd_src_take (HRS.out _ _ _ _ _ _ HMD.out) HSL.out.symm (by omega)
                go_cut [124] (fun _ wx => ∃ (s : St) (a' : Option Addr) (c' : Nat), s = { t with out := t.out ++ sg.take S } ∧ MoM wx B pm s (.slice a' s.out.length c') (.slice ash t.shifts.length csh) (.slice ar G.length cr) (rowB (.slice ad D.length cd) D) G ∧ Below B w wx)
                case first =>
                  have HH1 : Hid ((fun W => W.cell? ⟨pm, 0, none⟩ = some (.slice ao t.out.length co)) wc.drew) := d0
                  refine region_M (fun W => W.cell? ⟨pm, 0, none⟩ = some (.slice ao t.out.length co)) 11 (by kernel_rfl) ?_
                  simp only [List.size_toArray, List.length_cons, List.length_nil, Nat.reduceAdd, Array.replicate_succ, Array.replicate_zero, List.push_toArray, List.append_toArray, List.nil_append, List.cons_append]
                  refine anyM_take (i := 0) (oi := ⟨some 116, _, _, _, _, _⟩) (v := ?vr0) rfl (by kernel_rfl) (by kernel_rfl) (by kernel_rfl) (by kernel_rfl) (fun _ _ _ h => h) (Or.inl ⟨by rfl, ?hyr0⟩) HH1.out ?restr0
                  case hyr0 =>
                    intro w hSw
                    obtain s0 := hSw
                    go_simp
                    try with_reducible rfl
                  try simp only [Act.put, List.setIfInBounds_toArray, List.set_cons_zero, List.set_cons_succ]
                  refine anyM_take (i := 1) (oi := ⟨some 117, _, _, _, _, _⟩) (v := ?vr1) rfl (by kernel_rfl) (by kernel_rfl) (by kernel_rfl) (by kernel_rfl) (fun _ _ _ h => h) (Or.inl ⟨by rfl, ?hyr1⟩) HH1.out ?restr1
                  case hyr1 =>
                    intro w hSw
                    obtain s0 := hSw
                    go_simp
                    try with_reducible rfl
                  try simp only [Act.put, List.setIfInBounds_toArray, List.set_cons_zero, List.set_cons_succ]
                  refine anyM_take (i := 2) (oi := ⟨some 118, _, _, _, _, _⟩) (v := ?vr2) rfl (by kernel_rfl) (by kernel_rfl) (by kernel_rfl) (by kernel_rfl) (fun _ _ _ h => h) (Or.inl ⟨by rfl, ?hyr2⟩) HH1.out ?restr2
                  case hyr2 =>
                    intro w hSw
                    obtain s0 := hSw
                    go_simp
                    try with_reducible rfl
                  try simp only [Act.put, List.setIfInBounds_toArray, List.set_cons_zero, List.set_cons_succ]
                  refine anyM_take (i := 3) (oi := ⟨some 119, _, _, _, _, _⟩) (v := ?vr3) rfl (by kernel_rfl) (by kernel_rfl) (by kernel_rfl) (by kernel_rfl) (fun _ _ _ h => h) (Or.inl ⟨by rfl, ?hyr3⟩) HH1.out ?restr3
                  case hyr3 =>
                    intro w hSw
                    obtain s0 := hSw
                    go_simp
                    try with_reducible rfl
                  try simp only [Act.put, List.setIfInBounds_toArray, List.set_cons_zero, List.set_cons_succ]
                  refine anyM_take (i := 4) (oi := ⟨some 120, _, _, _, _, _⟩) (v := ?vr4) rfl (by kernel_rfl) (by kernel_rfl) (by kernel_rfl) (by kernel_rfl) (fun _ _ _ h => h) (Or.inl ⟨by rfl, ?hyr4⟩) HH1.out ?restr4
                  case hyr4 =>
                    intro w hSw
                    obtain s0 := hSw
                    go_simp
                    try with_reducible rfl
                  try simp only [Act.put, List.setIfInBounds_toArray, List.set_cons_zero, List.set_cons_succ]
                  refine anyM_take (i := 5) (oi := ⟨some 121, _, _, _, _, _⟩) (v := ?vr5) rfl (by kernel_rfl) (by kernel_rfl) (by kernel_rfl) (by kernel_rfl) (fun _ _ _ h => h) (Or.inl ⟨by rfl, ?hyr5⟩) HH1.out ?restr5
                  case hyr5 =>
                    intro w hSw
                    obtain s0 := hSw
                    go_simp
                    try with_reducible rfl
                  try simp only [Act.put, List.setIfInBounds_toArray, List.set_cons_zero, List.set_cons_succ]
                  refine anyM_take (i := 6) (oi := ⟨some 122, _, _, _, _, _⟩) (v := ?vr6) rfl (by kernel_rfl) (by kernel_rfl) (by kernel_rfl) (by kernel_rfl) (fun _ _ _ h => h) (Or.inl ⟨by rfl, ?hyr6⟩) HH1.out ?restr6
                  case hyr6 =>
                    intro w hSw
                    obtain s0 := hSw
                    go_simp
                    try with_reducible rfl
                  try simp only [Act.put, List.setIfInBounds_toArray, List.set_cons_zero, List.set_cons_succ]
                  refine anyM_take (i := 7) (oi := ⟨some 123, _, _, _, _, _⟩) (v := ?vr7) rfl (by kernel_rfl) (by kernel_rfl) (by kernel_rfl) (by kernel_rfl) (fun _ _ _ h => h) (Or.inl ⟨by rfl, ?hyr7⟩) HH1.out ?restr7
                  case hyr7 =>
                    intro w hSw
                    obtain s0 := hSw
                    go_simp
                    try with_reducible rfl
                  try simp only [Act.put, List.setIfInBounds_toArray, List.set_cons_zero, List.set_cons_succ]
                  refine anyM_one (i := 8) rfl (by kernel_rfl) (fun K hK => ?_)
                  refine step_append_mem rfl (.tmp 120) (.tmp 123) 22 rfl (HMD.out.mem.grow (grownBy_drew _ none)) 1 rfl i0 (.int .u8 0) 1 Tryd.underlying22 hi hz0 hz1 hz2 rfl (by decide) (.slice asg S csg) S (cellsOf (sg.take S)) (by simp [Act.eval, Act.put]) (by simp [Act.eval, Act.put]) HSR.out (by unfold maxLen; omega) (by omega) ?_
                  intro a2 c2 w2 hM2 hB2
                  have k0 : w2.cell? ⟨pm, 0, none⟩ = some (.slice ao t.out.length co) := hM2.cell (i := 0) rfl 0 (by omega)
                  have q0 : w2.frozen? ⟨pm, 0, none⟩ = false := hM2.frozen (i := 0) rfl 0
                  have HM2 : Hid _ := hM2
                  have HB2 : Hid _ := hB2
                  clear hM2 hB2
                  have HH2 : Hid ((fun W => W.cell? ⟨pm, 0, none⟩ = some (.slice ao t.out.length co)) w2) := k0
                  refine hK.out _ _ (fun _ => HH2.out) ?_
                  clear hK
                  try simp only [Act.put, List.setIfInBounds_toArray, List.set_cons_zero, List.set_cons_succ]
                  refine anyM_one (i := 9) (o := ⟨some 125, _, _, _, _, none⟩) rfl (by kernel_rfl) (fun K hK => ?_)
                  go_simp
                  refine hK.out _ _ (fun _ => HH2.out) ?_
                  clear hK
                  try simp only [Act.put, List.setIfInBounds_toArray, List.set_cons_zero, List.set_cons_succ]
                  refine anyM_one (i := 10) (o := ⟨some 126, _, _, _, _, none⟩) rfl (by kernel_rfl) (fun K hK => ?_)
                  go_simp
                  refine hK.out _ _ (fun _ => HH2.out) ?_
                  clear hK
                  try simp only [Act.put, List.setIfInBounds_toArray, List.set_cons_zero, List.set_cons_succ]
                  refine anyM_one (i := 11) rfl (by kernel_rfl) (fun K hK => ?_)
                  go_simp
                  refine hK.out _ _ (fun h => absurd rfl h) ?_
                  clear hK
                  refine anyM_done (by kernel_rfl) ?_ _
                  go_wp2
                  go_meet
                  case rel =>
                    have e2 : (t.out ++ sg.take S).length = t.out.length + S := by simp; have := HSL.out; omega
                    refine ⟨{ t with out := t.out ++ sg.take S }, a2, c2, rfl, ?_, (HBD.out.drew.trans HB2.out).setCell HB.out _⟩
                    refine ⟨?_, HMD.out.runs⟩
                    have m := HM2.out.setCell (i := 0) rfl 0 (.slice a2 (t.out.length + S) c2)
                    simp only [mrows, rowB, e2, cellsOf_append]
                    exact m
                case rest =>
                  obtain ⟨s1, a1, c1, hs, hM1, hB1⟩ := hcut
                  have hsl1 : s1.out.length ≤ 16777216 := by rw [hs]; show (t.out ++ sg.take S).length ≤ _; simp; omega
                  have HS1 : Hid (s1 = { t with out := t.out ++ sg.take S }) := hs
                  have HM0 : Hid (MoM wc B pm s1 (.slice a1 s1.out.length c1) (.slice ash t.shifts.length csh) (.slice ar G.length cr) (rowB (.slice ad D.length cd) D) G) := hM1
                  have HB0 : Hid (Below B w wc) := hB1
                  clear hs hM1 hB1 d0 HSR
                  go_upto_block 6 with fail
                  go_cut [15] (fun _ wx => ∃ (s : St) (a' : Option Addr) (c' : Nat), s = { s1 with out := s1.out ++ List.replicate Z 48 } ∧ MoM wx B pm s (.slice a' s.out.length c') (.slice ash t.shifts.length csh) (.slice ar G.length cr) (rowB (.slice ad D.length cd) D) G ∧ Below B w wx)
                  case first =>
                    go_wp2_with fail
                    go_loopw [15] (fun i wr => ∃ (k : Nat) (s : St) (a' : Option Addr) (c' : Nat), i = .int .i64 k ∧ k ≤ Z ∧ s.out.length ≤ 16777216 + k ∧ Hid (s = { s1 with out := s1.out ++ List.replicate k 48 }) ∧ Hid (MoM wr B pm s (.slice a' s.out.length c') (.slice ash t.shifts.length csh) (.slice ar G.length cr) (rowB (.slice ad D.length cd) D) G ∧ Below B w wr)) (fun i _ => Z - (intOf i).toNat)
                    case atStart => exact ⟨0, s1, _, _, rfl, Nat.zero_le _, by omega, (by show s1 = _; simp), HM0.out, HB0.out⟩
                    case round =>
                      obtain ⟨k, s, a', c', rfl, hkz, hsl, HS, HR⟩ := hrel
                      by_cases hlt : (k : Int) < (Z : Int)
                      · have d0 := HR.out.1.c 0 (by omega)
                        simp only [mcells, List.getElem?_cons_succ, List.getElem?_cons_zero] at d0
                        go_wp2_with (at_builtin; refine wpList_append_mem rfl (.tmp 138) (.tmp 139) 22 rfl (HR.out.1.mem.grow (World.grownBy_alloc _ _ none)) 1 rfl i0 (.int .u8 0) 1 Tryd.underlying22 hi hz0 hz1 hz2 rfl (by decide) (.slice (some ⟨wr.heap.size, 0, none⟩) 1 1) 1 [.int .u8 48] rfl rfl (src_one wr _ rfl 5) (by unfold maxLen; omega) (by omega) ?_; intro a2 c2 w2 hM2 hB2; have k0 := hM2.cell (i := 0) rfl 0 (by omega); have q0 := hM2.frozen (i := 0) rfl 0; have HM2 : Hid _ := hM2; have HB2 : Hid _ := hB2; clear hM2 hB2)
                        have e2 : (s.out ++ [48]).length = s.out.length + 1 := by simp
                        refine ⟨⟨k + 1, { s with out := s.out ++ [48] }, a2, c2, by simp, by omega, by rw [e2]; omega, ?_, ?_, ((HR.out.2.alloc HR.out.1.mem.size _).trans HB2.out).setCell HB.out _⟩, by simp [intOf]; omega⟩
                        · show _ = _
                          rw [HS.out, List.replicate_succ', List.append_assoc]
                        · refine ⟨?_, HR.out.1.runs⟩
                          have m := HM2.out.setCell (i := 0) rfl 0 (.slice a2 (s.out.length + 1) c2)
                          simp only [mrows, rowB, e2, cellsOf_append]
                          exact m
                      · go_wp2_with fail
                        go_meet
                        case rel =>
                          obtain rfl : k = Z := by omega
                          exact ⟨s, a', c', HS.out, HR.out.1, HR.out.2⟩
                  case rest =>
                    obtain ⟨s, a2, c2, hs, hM2, hB2⟩ := hcut
                    go_wp2_with fail
                    go_meet
                    case rel =>
                      refine ⟨s, a2, c2, ?_, hM2, hB2⟩
                      rw [hs, HS1.out, HSI.out, if_neg (by omega), ← HZ2.out, HSG.out, List.append_assoc]
            case rest =>
              obtain ⟨sA, aA, cA, hsA, hMA, hBA⟩ := hcut
              have hoA : sA.out.length ≤ 16777216 := by
                rw [hsA]
                show (t.out ++ standIn (valOf t.keep D) n).length ≤ _
                rw [List.length_append, standIn_len _ _ (by omega)]
                omega
              have HSA : Hid (sA = { t with out := t.out ++ standIn (valOf t.keep D) n }) := hsA
              have HMA : Hid (MoM wc B pm sA (.slice aA sA.out.length cA) (.slice ash t.shifts.length csh) (.slice ar G.length cr) (rowB (.slice ad D.length cd) D) G) := hMA
              have HBA : Hid (Below B w wc) := hBA
              have c5 := hMA.c 5 (by omega)
              simp only [mcells, List.getElem?_cons_succ, List.getElem?_cons_zero] at c5
              clear hsA hMA hBA HMD HBD
              obtain ⟨X, hX⟩ : ∃ X : Bool, X = (sg.drop K).any (· != 48) := ⟨_, rfl⟩
              obtain ⟨kc, hkc⟩ : ∃ kc, kc = sg.take K := ⟨_, rfl⟩
              obtain rfl : K = kc.length := by rw [hkc, List.length_take]; have := HSL.out; omega
              obtain ⟨M, hMM⟩ : ∃ M : Nat, M = L - kc.length := ⟨_, rfl⟩
              have hMI : (L : Int) - (kc.length : Int) = (M : Int) := by omega
              have HV4 : Hid (valOf t.keep D = ⟨z, kc, M, X⟩) := by
                show valOf t.keep D = ⟨z, kc, M, X⟩
                rw [valOf_parts t.keep D z kc.length HZ.out (by rw [← HSG.out, HSL.out]; exact HK.out), ← HSG.out, ← hkc, HSL.out, hMM, hX]
              have HXX : Hid (X = (sg.drop kc.length).any (· != 48)) := hX
              have HAT : Hid (At wc asg kc) := by
                have h1 := HRS.out _ _ _ _ _ _ HMA.out
                have h2 : Rd wc (.slice asg sg.length csg) sg := by rw [HSL.out]; exact h1
                have h3 := h2.take kc.length (by have := HSL.out; omega)
                rw [← hkc] at h3
                exact At.of_rd h3
              clear hX hkc hMM
              obtain ⟨i6, hi6, hy0, hy1, hy2⟩ := info_parts info46
              obtain ⟨gb, hgb⟩ : ∃ gb : Bool, decide ((G.length : Int) < 3) = gb := ⟨_, rfl⟩
              go_upto_if 148 with fail
              go_cut [16] (fun _ wx => ∃ (sB : St) (vr : Value) (H : List (Value × Run)), sB = (if G.length < 3 then { sA with runs := sA.runs ++ [valOf t.keep D] } else sA : St) ∧ MoM wx B pm sB (.slice aA sA.out.length cA) (.slice ash t.shifts.length csh) vr nilB H ∧ Below B w wx)
              case first => as_aux_lemma =>
                by_cases hgb' : gb = true
                · subst hgb'
                  have hg3 : (G.length : Int) < 3 := of_decide_eq_true hgb
                  clear hgb
                  go_upto_block 8 with fail
                  go_cut [16, 17] (fun s j wx => s = .bool X ∧ wx = wc)
                  case first =>
                    go_wp2_with fail
                    go_loopw [16, 17] (fun s j wr => ∃ (k : Nat) (b : Bool), s = .bool b ∧ j = .int .i64 k ∧ kc.length ≤ k ∧ k ≤ L ∧ Hid (b = ((sg.drop kc.length).take (k - kc.length)).any (· != 48)) ∧ Hid (wr = wc)) (fun _ j _ => L - (intOf j).toNat)
                    case atStart => exact ⟨kc.length, false, rfl, rfl, Nat.le_refl _, hKL, (by show false = _; simp), rfl⟩
                    case round =>
                      obtain ⟨k, b, rfl, rfl, hkk, hkL, HBk, HW⟩ := hrel
                      by_cases hlt : (k : Int) < (L : Int)
                      · obtain ⟨g, off, rfl, hcell⟩ := (HRS.out _ _ _ _ _ _ HMA.out).cell k (by rw [HSL.out]; omega)
                        rw [← HW.out] at hcell
                        have HSN : Hid _ := sticky_snoc sg kc.length k hkk (by rw [HSL.out]; omega)
                        obtain ⟨x, hx⟩ : ∃ x, x = sg.getD k 0 := ⟨_, rfl⟩
                        rw [← hx] at hcell HSN
                        clear hx
                        by_cases h48 : (x == 48) = true
                        · have b48 : ((x.toNat : Int) == 48) = true := byte_eq 48 (by omega) h48
                          have n48 : ((x.toNat : Int) != 48) = false := by rw [bne, b48]; rfl
                          have HE : Hid (b = ((sg.drop kc.length).take (k + 1 - kc.length)).any (· != 48)) := by
                            show b = _
                            rw [HSN.out, ← HBk.out]
                            simp at h48
                            simp [h48]
                          go_wp2_with fail
                          exact ⟨⟨k + 1, b, rfl, by simp, by omega, by omega, HE.out, HW.out⟩, by simp [intOf]; omega⟩
                        · have b48 : ((x.toNat : Int) == 48) = false := byte_ne 48 (by omega) (by simpa using h48)
                          have n48 : ((x.toNat : Int) != 48) = true := by rw [bne, b48]; rfl
                          have HE : Hid (true = ((sg.drop kc.length).take (k + 1 - kc.length)).any (· != 48)) := by
                            show true = _
                            rw [HSN.out]
                            simp at h48
                            simp [h48]
                          go_wp2_with fail
                          exact ⟨⟨k + 1, true, rfl, by simp, by omega, by omega, HE.out, HW.out⟩, by simp [intOf]; omega⟩
                      · go_wp2_with fail
                        go_meet
                        case rel =>
                          refine ⟨?_, HW.out⟩
                          rw [HBk.out, HXX.out, List.take_of_length_le (by rw [List.length_drop, HSL.out]; omega)]
                  case rest =>
                    obtain ⟨rfl, rfl⟩ := hcut
                    have hkc1 : kc.length ≤ 1048576 := by omega
                    have hkcc : (kc.length : Int) ≤ (csg : Int) := by omega
                    go_wp2_with (first
                      | (at_make; refine wpList_make_full _ rfl _ _ 22 rfl wc.heap.size 5 i0 (.int .u8 0) 1 Tryd.underlying22 hi hz0 hz1 .i64 .i64 _ _ kc.length rfl rfl rfl rfl (by rw [hz2]; omega) (by unfold maxLen; omega) (Nat.le_refl _) ?_; intro w1 hown hgrow; have HC1 : Hid (MadeCopied kc asg wc w1) := made_copied kc asg wc w1 HAT.out hown hgrow; clear hown hgrow)
                      | (refine wpList_copy_splice rfl (.tmp 163) (.tmp 166) 22 22 rfl 5 Tryd.underlying22 size5 (some ⟨wc.heap.size, 0, none⟩) asg kc.length kc.length kc.length csg rfl rfl wc.heap.size 0 (List.replicate kc.length (.int .u8 0)) 5 HC1.out.1 (cellsOf kc) HC1.out.2.2.1 HC1.out.2.2.2.1 HC1.out.2.2.2.2.1 HC1.out.2.2.2.2.2 wc.heap.size wc HC1.out.2.1 (Nat.le_refl _) ?_; intro w2 HG2 hB2; have HM2 : Hid (Mem w2 B (mrows pm sA (.slice aA sA.out.length cA) (.slice ash t.shifts.length csh) (.slice ar G.length cr) (rowB (.slice ad D.length cd) D) G ++ [rowB (.slice (some ⟨wc.heap.size, 0, none⟩) kc.length kc.length) kc])) := HMA.out.mem.addB' _ (own_copied (Nat.le_refl _) (by omega) HG2.out) hB2; have HB2 : Hid (Below B w w2) := HBA.out.trans (Below.mono hB2 HMA.out.mem.size); have c5b : w2.cell? ⟨pm, 5, none⟩ = some (.slice ar G.length cr) := HM2.out.cell (i := 0) rfl 5 (by omega); clear hB2)
                      | (at_builtin; refine wpList_append_mem rfl (.tmp 172) (.tmp 181) 35 rfl (HM2.out.grow (World.grownBy_alloc _ _ none)) 3 rfl i6 (.agg #[.int .i64 0, .slice none 0 0, .int .i64 0, .bool false]) 48 Tryd.underlying35 hi6 hy0 hy1 hy2 rfl (by decide) (.slice (some ⟨w2.heap.size, 0, none⟩) 1 1) 1 [.int .i64 z, .slice (some ⟨wc.heap.size, 0, none⟩) kc.length kc.length, .int .i64 M, .bool X] rfl rfl (src_cells w2 [.int .i64 z, .slice (some ⟨wc.heap.size, 0, none⟩) kc.length kc.length, .int .i64 M, .bool X] 46 1 1 4 rfl (by intro u hu; simp at hu; rcases hu with rfl | rfl | rfl | rfl <;> rfl)) (by unfold maxLen; omega) (by omega) ?_; intro a3 c3 w3 hM3 hB3; have k5 : w3.cell? ⟨pm, 5, none⟩ = some (.slice ar G.length cr) := hM3.cell (i := 0) rfl 5 (by omega); have q5 := hM3.frozen (i := 0) rfl 5; have HM3 : Hid _ := hM3; have HB3 : Hid _ := hB3; clear hM3 hB3))
                    go_meet
                    case rel =>
                      refine ⟨{ sA with runs := sA.runs ++ [valOf t.keep D] }, .slice a3 (G.length + 1) c3, G ++ [(.slice (some ⟨wc.heap.size, 0, none⟩) kc.length kc.length, (⟨z, kc, M, X⟩ : Run))], by rw [if_pos (by omega)], ?_, ((HB2.out.alloc HM2.out.size _).trans HB3.out).setCell HB.out _⟩
                      refine MoM.drop (d := (rowB (.slice ad D.length cd) D)) ⟨?_, ?_⟩
                      · have m := HM3.out.setCell (i := 0) rfl 5 (.slice a3 (G.length + 1) c3)
                        have e1 : (G ++ [((Value.slice (some ⟨wc.heap.size, 0, none⟩) kc.length kc.length), (⟨z, kc, M, X⟩ : Run))]).map (fun x => rowB x.1 x.2.kept) = G.map (fun x => rowB x.1 x.2.kept) ++ [rowB (Value.slice (some ⟨wc.heap.size, 0, none⟩) kc.length kc.length) kc] := by simp
                        have e2 : runCells (G ++ [((Value.slice (some ⟨wc.heap.size, 0, none⟩) kc.length kc.length), (⟨z, kc, M, X⟩ : Run))]) = runCells G ++ [.int .i64 z, .slice (some ⟨wc.heap.size, 0, none⟩) kc.length kc.length, .int .i64 M, .bool X] := by simp [runCells]
                        have e3 : (G ++ [((Value.slice (some ⟨wc.heap.size, 0, none⟩) kc.length kc.length), (⟨z, kc, M, X⟩ : Run))]).length = G.length + 1 := by simp
                        simp only [mrows, e1, e2, e3]
                        exact m
                      · rw [List.map_append, HMA.out.runs]
                        show sA.runs ++ [(⟨z, kc, M, X⟩ : Run)] = sA.runs ++ [valOf t.keep D]
                        rw [HV4.out]
                · have hgb2 : gb = false := by simpa using hgb'
                  subst hgb2
                  have hg3 : ¬ (G.length : Int) < 3 := of_decide_eq_false hgb
                  clear hgb hgb'
                  go_wp2_with fail
                  go_meet
                  case rel => exact ⟨sA, _, G, by rw [if_neg (by omega)], HMA.out.drop, HBA.out⟩
              case rest => as_aux_lemma =>
                obtain ⟨sB, vr2, H, hsB, hMB, hBB⟩ := hcut
                have hB1 : sA.out.length = sB.out.length := by rw [hsB]; split <;> rfl
                have hB2 : t.shifts = sB.shifts := by rw [hsB, HSA.out]; split <;> rfl
                rw [hB1, hB2] at hMB
                have HSB : Hid (sB = (if G.length < 3 then { sA with runs := sA.runs ++ [valOf t.keep D] } else sA : St)) := hsB
                have HMB : Hid (MoM wc B pm sB (.slice aA sB.out.length cA) (.slice ash sB.shifts.length csh) vr2 nilB H) := hMB
                have HBB : Hid (Below B w wc) := hBB
                have hoB : sB.out.length ≤ 16777216 := by omega
                have hshl : sB.shifts.length ≤ 8388608 := by rw [← hB2]; exact hsh
                obtain ⟨Lb, hLb⟩ : ∃ Lb, Lb = lastBy sB.shifts := ⟨_, rfl⟩
                have hLb2 : -8388608 ≤ Lb ∧ Lb ≤ 8388608 := by rw [hLb, ← hB2]; exact ⟨hb1, hb2⟩
                have HLb : Hid (Lb = lastBy sB.shifts) := hLb
                have HB2e : Hid (t.shifts = sB.shifts) := hB2
                have t4 := hMB.c 4 (by omega)
                simp only [mcells, List.getElem?_cons_succ, List.getElem?_cons_zero] at t4
                clear hsB hMB hBB hLb hB1 hB2 c5 HMA HBA hb1 hb2 hsh
                have hrn : (r.length : Int) - (n : Int) ≤ 1048576 := by omega
                go_upto_if 194 with fail
                go_cut [19] (fun x wx => x = .int .i64 ((r.length : Int) - (n : Int) + Lb) ∧ Drawn wc wx)
                case first =>
                  by_cases hz : (sB.shifts.length : Int) > 0
                  · obtain ⟨g, rfl⟩ : ∃ g, ash = some ⟨g, 0, none⟩ := by
                      rcases HMB.out.oshifts.2 with ⟨h1, h2⟩ | ⟨g, cap, cur, h1, _⟩
                      · omega
                      · injection h1 with e1 _ _
                        exact ⟨g, e1⟩
                    have hcell : wc.cell? ⟨g, (sB.shifts.length - 1) * 2 + 1, none⟩ = some (.int .i64 Lb) := by
                      rw [HMB.out.oshifts.cellAt _ (by omega), HLb.out]
                      exact shCells_last _ (by omega)
                    go_wp2_with fail
                    go_quiet (fail)
                    go_wp2_with fail
                    go_meet
                    case rel => exact ⟨rfl, ⟨_, rfl⟩⟩
                  · go_wp2_with fail
                    go_meet
                    case rel =>
                      have e : sB.shifts = [] := List.eq_nil_of_length_eq_zero (by omega)
                      have : Lb = 0 := by rw [HLb.out, e]; rfl
                      rw [this]
                      exact ⟨by simp, Drawn.refl _⟩
                case rest =>
                  obtain ⟨rfl, hdr⟩ := hcut
                  obtain ⟨Y, hY⟩ : ∃ Y : Int, Y = (r.length : Int) - (n : Int) + Lb := ⟨_, rfl⟩
                  rw [← hY]
                  have HY : Hid (Y = (r.length : Int) - (n : Int) + Lb) := hY
                  clear hY t4
                  have HMC : Hid (MoM wc B pm sB (.slice aA sB.out.length cA) (.slice ash sB.shifts.length csh) vr2 nilB H) := by
                    obtain ⟨m, rfl⟩ := hdr
                    exact ⟨HMB.out.mem.grow (grownBy_drewN _ m none), HMB.out.runs⟩
                  have HBC : Hid (Below B w wc) := HBB.out.trans (hdr.below B)
                  have HF : Hid (Eq6 { sB with shifts := sB.shifts ++ [(sB.out.length, Y)] } (emit t r)) := by
                    have he : emit t r = longRun { t with length := r.length, run := valOf t.keep (digs r) } := by unfold emit; rw [if_neg h41]
                    have hn' : 41 + min t.runs.length 3 = n := by have := HN.out; have := HGl.out; omega
                    have hlen : (t.out ++ standIn (valOf t.keep (digs r)) n).length = t.out.length + n := by rw [List.length_append, standIn_len _ _ (by omega)]
                    have hY : Y = (r.length : Int) - (n : Int) + lastBy t.shifts := by rw [HY.out, HLb.out, HB2e.out]
                    have hs : sB.out = t.out ++ standIn (valOf t.keep (digs r)) n ∧ sB.spaces = t.spaces ∧ sB.full = t.full ∧ sB.inRun = t.inRun ∧ sB.runs = (if t.runs.length < 3 then t.runs ++ [valOf t.keep (digs r)] else t.runs) := by
                      rw [HSB.out, HSA.out, HGl.out, HD.out]
                      by_cases hg : t.runs.length < 3
                      · rw [if_pos hg, if_pos hg]; exact ⟨rfl, rfl, rfl, rfl, rfl⟩
                      · rw [if_neg hg, if_neg hg]; exact ⟨rfl, rfl, rfl, rfl, rfl⟩
                    obtain ⟨s1, s2, s3, s4, s5⟩ := hs
                    rw [he, longRun_eq]
                    refine ⟨?_, s2, s3, s4, ?_, s5⟩
                    · show sB.out = t.out ++ standIn (valOf t.keep (digs r)) (41 + min t.runs.length 3)
                      rw [hn', s1]
                    · show sB.shifts ++ [(sB.out.length, Y)] = t.shifts ++ [(t.out.length + (41 + min t.runs.length 3), (r.length : Int) - ((41 + min t.runs.length 3 : Nat) : Int) + lastBy t.shifts)]
                      rw [hn', s1, hlen, hY, HB2e.out]
                  have t0 := HMC.out.c 0 (by omega)
                  have t4 := HMC.out.c 4 (by omega)
                  simp only [mcells, List.getElem?_cons_succ, List.getElem?_cons_zero] at t0 t4
                  obtain ⟨i7, hi7, hx0, hx1, hx2⟩ := info_parts info44
                  have HSc : Hid (Src (wc.alloc (.cells #[.int .i64 sB.out.length, .int .i64 Y] 44)) (.slice (some ⟨wc.heap.size, 0, none⟩) 1 1) 1 [.int .i64 sB.out.length, .int .i64 Y] 2) := src_cells wc [.int .i64 sB.out.length, .int .i64 Y] 44 1 1 2 rfl (by intro u hu; simp at hu; rcases hu with rfl | rfl <;> rfl)
                  have t4a : (wc.alloc (.cells #[.int .i64 sB.out.length, .int .i64 Y] 44)).cell? ⟨pm, 4, none⟩ = some (.slice ash sB.shifts.length csh) := (HMC.out.mem.grow (World.grownBy_alloc _ _ none)).cell (i := 0) rfl 4 (by omega)
                  have t0a : (wc.alloc (.cells #[.int .i64 sB.out.length, .int .i64 Y] 44)).cell? ⟨pm, 0, none⟩ = some (.slice aA sB.out.length cA) := (HMC.out.mem.grow (World.grownBy_alloc _ _ none)).cell (i := 0) rfl 0 (by omega)
                  clear hdr HMB HBB
                  go_upto_region 46 with fail
                  have HH1 : Hid ((fun W => W.cell? ⟨pm, 4, none⟩ = some (.slice ash sB.shifts.length csh) ∧ W.cell? ⟨pm, 0, none⟩ = some (.slice aA sB.out.length cA)) wc.drew) := ⟨t4, t0⟩
                  have HH2 : Hid ((fun W => W.cell? ⟨pm, 4, none⟩ = some (.slice ash sB.shifts.length csh) ∧ W.cell? ⟨pm, 0, none⟩ = some (.slice aA sB.out.length cA)) (wc.alloc (.cells #[.int .i64 sB.out.length, .int .i64 Y] 44)).drew) := ⟨t4a, t0a⟩
                  refine region_M (fun W => W.cell? ⟨pm, 4, none⟩ = some (.slice ash sB.shifts.length csh) ∧ W.cell? ⟨pm, 0, none⟩ = some (.slice aA sB.out.length cA)) 16 (by kernel_rfl) ?_
                  simp only [List.size_toArray, List.length_cons, List.length_nil, Nat.reduceAdd, Array.replicate_succ, Array.replicate_zero, List.push_toArray, List.append_toArray, List.nil_append, List.cons_append]
                  refine anyM_take (i := 0) (oi := ⟨some 210, _, _, _, _, _⟩) (v := ?vg0) rfl (by kernel_rfl) (by kernel_rfl) (by kernel_rfl) (by kernel_rfl) (fun _ _ _ h => h) (Or.inl ⟨by rfl, ?hyg0⟩) HH1.out ?restg0
                  case hyg0 =>
                    intro w hSw
                    obtain ⟨s4, s0⟩ := hSw
                    go_simp
                    try with_reducible rfl
                  try simp only [Act.put, List.setIfInBounds_toArray, List.set_cons_zero, List.set_cons_succ]
                  refine anyM_take (i := 1) (oi := ⟨some 211, _, _, _, _, _⟩) (v := ?vg1) rfl (by kernel_rfl) (by kernel_rfl) (by kernel_rfl) (by kernel_rfl) (fun _ _ _ h => h) (Or.inl ⟨by rfl, ?hyg1⟩) HH1.out ?restg1
                  case hyg1 =>
                    intro w hSw
                    obtain ⟨s4, s0⟩ := hSw
                    go_simp
                    try with_reducible rfl
                  try simp only [Act.put, List.setIfInBounds_toArray, List.set_cons_zero, List.set_cons_succ]
                  refine anyM_take (i := 2) (oi := ⟨some 212, _, _, _, _, _⟩) (v := ?vg2) rfl (by kernel_rfl) (by kernel_rfl) (by kernel_rfl) (by kernel_rfl) (fun _ _ _ h => h) (Or.inl ⟨by rfl, ?hyg2⟩) HH1.out ?restg2
                  case hyg2 =>
                    intro w hSw
                    obtain ⟨s4, s0⟩ := hSw
                    go_simp
                    try with_reducible rfl
                  try simp only [Act.put, List.setIfInBounds_toArray, List.set_cons_zero, List.set_cons_succ]
                  refine anyM_take (i := 3) (oi := ⟨some 213, _, _, _, _, _⟩) (v := ?vg3) rfl (by kernel_rfl) (by kernel_rfl) (by kernel_rfl) (by kernel_rfl) (fun _ _ _ h => h) (Or.inl ⟨by rfl, ?hyg3⟩) HH1.out ?restg3
                  case hyg3 =>
                    intro w hSw
                    obtain ⟨s4, s0⟩ := hSw
                    go_simp
                    try with_reducible rfl
                  try simp only [Act.put, List.setIfInBounds_toArray, List.set_cons_zero, List.set_cons_succ]
                  refine anyM_take (i := 4) (oi := ⟨some 214, _, _, _, _, _⟩) (v := ?vg4) rfl (by kernel_rfl) (by kernel_rfl) (by kernel_rfl) (by kernel_rfl) (fun _ _ _ h => h) (Or.inl ⟨by rfl, ?hyg4⟩) HH1.out ?restg4
                  case hyg4 =>
                    intro w hSw
                    obtain ⟨s4, s0⟩ := hSw
                    go_simp
                    try with_reducible rfl
                  try simp only [Act.put, List.setIfInBounds_toArray, List.set_cons_zero, List.set_cons_succ]
                  refine anyM_take (i := 5) (oi := ⟨some 215, _, _, _, _, _⟩) (v := ?vg5) rfl (by kernel_rfl) (by kernel_rfl) (by kernel_rfl) (by kernel_rfl) (fun _ _ _ h => h) (Or.inl ⟨by rfl, ?hyg5⟩) HH1.out ?restg5
                  case hyg5 =>
                    intro w hSw
                    obtain ⟨s4, s0⟩ := hSw
                    go_simp
                    try with_reducible rfl
                  try simp only [Act.put, List.setIfInBounds_toArray, List.set_cons_zero, List.set_cons_succ]
                  refine anyM_take (i := 6) (oi := ⟨some 216, _, _, _, _, _⟩) (v := ?vg6) rfl (by kernel_rfl) (by kernel_rfl) (by kernel_rfl) (by kernel_rfl) (fun _ _ _ h => h) (Or.inl ⟨by rfl, ?hyg6⟩) HH1.out ?restg6
                  case hyg6 =>
                    intro w hSw
                    obtain ⟨s4, s0⟩ := hSw
                    go_simp
                    try with_reducible rfl
                  try simp only [Act.put, List.setIfInBounds_toArray, List.set_cons_zero, List.set_cons_succ]
                  refine anyM_take (i := 7) (oi := ⟨some 217, _, _, _, _, _⟩) (v := ?vg7) rfl (by kernel_rfl) (by kernel_rfl) (by kernel_rfl) (by kernel_rfl) (fun _ _ _ h => h) (Or.inl ⟨by rfl, ?hyg7⟩) HH1.out ?restg7
                  case hyg7 =>
                    intro w hSw
                    obtain ⟨s4, s0⟩ := hSw
                    go_simp
                    try with_reducible rfl
                  try simp only [Act.put, List.setIfInBounds_toArray, List.set_cons_zero, List.set_cons_succ]
                  refine anyM_take (i := 8) (oi := ⟨some 218, _, _, _, _, _⟩) (v := ?vg8) rfl (by kernel_rfl) (by kernel_rfl) (by kernel_rfl) (by kernel_rfl) (fun _ _ _ h => h) (Or.inl ⟨by rfl, ?hyg8⟩) HH1.out ?restg8
                  case hyg8 =>
                    intro w hSw
                    obtain ⟨s4, s0⟩ := hSw
                    go_simp
                    try with_reducible rfl
                  try simp only [Act.put, List.setIfInBounds_toArray, List.set_cons_zero, List.set_cons_succ]
                  refine anyM_take (i := 9) (oi := ⟨some 219, _, _, _, _, _⟩) (v := ?vg9) rfl (by kernel_rfl) (by kernel_rfl) (by kernel_rfl) (by kernel_rfl) (fun _ _ _ h => h) (Or.inl ⟨by rfl, ?hyg9⟩) HH1.out ?restg9
                  case hyg9 =>
                    intro w hSw
                    obtain ⟨s4, s0⟩ := hSw
                    go_simp
                    try with_reducible rfl
                  try simp only [Act.put, List.setIfInBounds_toArray, List.set_cons_zero, List.set_cons_succ]
                  refine anyM_take (i := 10) (oi := ⟨some 220, _, _, _, _, _⟩) (v := ?vg10) rfl (by kernel_rfl) (by kernel_rfl) (by kernel_rfl) (by kernel_rfl) (fun _ _ _ h => h) (Or.inl ⟨by rfl, ?hyg10⟩) HH1.out ?restg10
                  case hyg10 =>
                    intro w hSw
                    obtain ⟨s4, s0⟩ := hSw
                    go_simp
                    try with_reducible rfl
                  try simp only [Act.put, List.setIfInBounds_toArray, List.set_cons_zero, List.set_cons_succ]
                  refine anyM_take (i := 11) (oi := ⟨some 221, _, _, _, _, _⟩) (v := ?vg11) rfl (by kernel_rfl) (by kernel_rfl) (by kernel_rfl) (by kernel_rfl) (fun _ _ _ h => h) (Or.inl ⟨by rfl, ?hyg11⟩) HH1.out ?restg11
                  case hyg11 =>
                    intro w hSw
                    obtain ⟨s4, s0⟩ := hSw
                    go_simp
                    try with_reducible rfl
                  try simp only [Act.put, List.setIfInBounds_toArray, List.set_cons_zero, List.set_cons_succ]
                  refine anyM_one (i := 12) rfl (by kernel_rfl) (fun K hK => ?_)
                  go_simp
                  refine hK.out _ _ (fun _ => HH2.out) ?_
                  clear hK
                  try simp only [Act.put, List.setIfInBounds_toArray, List.set_cons_zero, List.set_cons_succ]
                  refine anyM_one (i := 13) rfl (by kernel_rfl) (fun K hK => ?_)
                  refine step_append_mem rfl (.tmp 214) (.tmp 222) 34 rfl ((HMC.out.mem.grow (World.grownBy_alloc _ _ none)).grow (grownBy_drew _ none)) 2 rfl i7 (.agg #[.int .i64 0, .int .i64 0]) 16 Tryd.underlying34 hi7 hx0 hx1 hx2 rfl (by decide) (.slice (some ⟨wc.heap.size, 0, none⟩) 1 1) 1 [.int .i64 sB.out.length, .int .i64 Y] (by simp [Act.eval, Act.put]) (by simp [Act.eval, Act.put]) (HSc.out.grow (grownBy_drew _ none)) (by unfold maxLen; omega) (by omega) ?_
                  intro a2 c2 w2 hM2 hB2
                  have k4' : w2.cell? ⟨pm, 4, none⟩ = some (.slice ash sB.shifts.length csh) := hM2.cell (i := 0) rfl 4 (by omega)
                  have k0' : w2.cell? ⟨pm, 0, none⟩ = some (.slice aA sB.out.length cA) := hM2.cell (i := 0) rfl 0 (by omega)
                  have q4 : w2.frozen? ⟨pm, 4, none⟩ = false := hM2.frozen (i := 0) rfl 4
                  have HM2 : Hid _ := hM2
                  have HB2 : Hid _ := hB2
                  clear hM2 hB2
                  have HH3 : Hid ((fun W => W.cell? ⟨pm, 4, none⟩ = some (.slice ash sB.shifts.length csh) ∧ W.cell? ⟨pm, 0, none⟩ = some (.slice aA sB.out.length cA)) w2) := ⟨k4', k0'⟩
                  refine hK.out _ _ (fun _ => HH3.out) ?_
                  clear hK
                  try simp only [Act.put, List.setIfInBounds_toArray, List.set_cons_zero, List.set_cons_succ]
                  refine anyM_one (i := 14) (o := ⟨some 224, _, _, _, _, none⟩) rfl (by kernel_rfl) (fun K hK => ?_)
                  go_simp
                  refine hK.out _ _ (fun _ => HH3.out) ?_
                  clear hK
                  try simp only [Act.put, List.setIfInBounds_toArray, List.set_cons_zero, List.set_cons_succ]
                  refine anyM_one (i := 15) (o := ⟨some 225, _, _, _, _, none⟩) rfl (by kernel_rfl) (fun K hK => ?_)
                  go_simp
                  refine hK.out _ _ (fun _ => HH3.out) ?_
                  clear hK
                  try simp only [Act.put, List.setIfInBounds_toArray, List.set_cons_zero, List.set_cons_succ]
                  refine anyM_one (i := 16) rfl (by kernel_rfl) (fun K hK => ?_)
                  go_simp
                  refine hK.out _ _ (fun h => absurd rfl h) ?_
                  clear hK
                  refine anyM_done (by kernel_rfl) ?_ _
                  go_wp2
                  go_end0
                  refine ⟨rfl, MoV.eq6 (s := { sB with shifts := sB.shifts ++ [(sB.out.length, Y)] }) ⟨.slice aA sB.out.length cA, .slice a2 (sB.shifts.length + 1) c2, vr2, H, ?_, HMC.out.runs⟩ HF.out, ((HBC.out.trans ((Below.refl _ _).alloc HMC.out.mem.size _)).drew.trans HB2.out).setCell HB.out _⟩
                  have m := HM2.out.setCell (i := 0) rfl 4 (.slice a2 (sB.shifts.length + 1) c2)
                  have e1 : (sB.shifts ++ [(sB.out.length, Y)]).length = sB.shifts.length + 1 := by simp
                  have e2 : shCells (sB.shifts ++ [(sB.out.length, Y)]) = shCells sB.shifts ++ [.int .i64 sB.out.length, .int .i64 Y] := by rw [shCells_append]; rfl
                  simp only [mrows, e1, e2]
                  exact m
theorem emit_any (w : World) (B pm : Nat) (t : St) (v : Value) (r : Bs) (h : MoV w B pm t) (hv : SlB w B v r) (hr : r.length ≤ 1048576) (ho : t.out.length ≤ 8388608) (hr3 : t.runs.length ≤ 3) (hsh : t.shifts.length ≤ 8388608) (hb1 : -8388608 ≤ lastBy t.shifts) (hb2 : lastBy t.shifts ≤ 8388608) (hkp : (t.keep : Int) ≤ 9223372036854775807) :
    Calls Tryd.prog 17 #[.pointer (some ⟨pm, 0, none⟩), v, .int .i64 t.keep] w fun e w' => e = .returned (.tuple #[]) ∧ MoV w' B pm (emit t r) ∧ Below B w w' := by
  by_cases h40 : r.length ≤ 40
  · exact emit_short w B pm t v r h hv ho h40
  · exact emit_long w B pm t v r h hv hr ho hr3 hsh hb1 hb2 hkp h40
end Go.Proofs.Qxb6616348aDoor
