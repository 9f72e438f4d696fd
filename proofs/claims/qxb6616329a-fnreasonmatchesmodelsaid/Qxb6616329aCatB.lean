import Derived.Test.Qxb6616329aMap
import Derived.Test.Qxb6616329aFits
set_option linter.unusedSimpArgs false
set_option linter.unusedVariables false
namespace Go.Proofs.Qxb6616329a
open Go.RowKit

/-- a gate.Union[gate.Category] -/
def CatMapsV (w : World) (v : Value) (rows : List (List Ct)) : Prop :=
  ∃ a cap, v = .slice a rows.length cap ∧ (0 < rows.length → ∃ b off, a = some ⟨b, off, none⟩ ∧ ∀ i, i < rows.length →
    ∃ m n, w.cell? ⟨b, off + i, none⟩ = some m ∧ (∃ r, m = .map r) ∧ CatMap w m (fun c => (rows.getD i []).any (eqs c)) n)
theorem CatMapsV.ext {w w' : World} {v : Value} {rows : List (List Ct)} (h : CatMapsV w v rows) (e : Ext w w') : CatMapsV w' v rows := by
  obtain ⟨a, cap, hv, h⟩ := h
  refine ⟨a, cap, hv, fun h0 => ?_⟩
  obtain ⟨b, off, ha, hc⟩ := h h0
  refine ⟨b, off, ha, fun i hi => ?_⟩
  obtain ⟨m, n, h1, h2, h3⟩ := hc i hi
  exact ⟨m, n, e.cell h1, h2, h3.ext e⟩

set_option maxHeartbeats 2000000 in
theorem CatHas_any (v : Value) (rows : List (List Ct)) (tax : Int) (code : Bs) (w : World) (hv : CatMapsV w v rows) (hl : rows.length ≤ 4096) (hwf : WfCt (tax, code)) :
    Calls Try.prog 35 #[v, .agg #[.int .i64 tax, .string (B code)]] w fun e w' => e = .returned (.bool (inSets rows (tax, code))) ∧ Ext w w' := by
  rw [inSets_def]
  generalize hp : (fun s : List Ct => s.any (eqs (tax, code))) = p
  have HP : Hid _ := hp
  clear hp
  obtain ⟨a, cap, rfl, hcells⟩ := hv
  have HC : Hid _ := hcells
  have HWF : Hid (WfCt (tax, code)) := hwf
  clear hcells hwf
  have hx0 : Ext w (w.alloc (.cells #[.int .i64 tax, .string (B code)] 54)) := Ext.alloc _ _
  go_enter Try.func35, Try.ntmps35
  go_wp2
  go_loop [9, 6] (fun i _ => ∃ k : Nat, i = .int .i64 k ∧ k ≤ rows.length ∧ Hid ((rows.take k).any p = false)) (fun i _ => rows.length - (intOf i).toNat)
  case atStart => exact ⟨0, rfl, Nat.zero_le _, (rfl : (rows.take 0).any p = false)⟩
  case round =>
    obtain ⟨k, rfl, hk, hno⟩ := hrel
    by_cases hlt : k < rows.length
    · obtain ⟨b, off, rfl, hc⟩ := HC.out (by omega)
      obtain ⟨m, n, hm, ⟨r, rfl⟩, hd⟩ := hc k hlt
      have hlook := hd.look _ hx0 tax code HWF.out
      have cm := hx0.cell hm
      have HS : Hid _ := any_step p [] rows k hlt
      have HT : Hid _ := any_at p [] rows k hlt
      have HPK : Hid (p (rows.getD k []) = (rows.getD k []).any (eqs (tax, code))) := by rw [← HP.out]; exact (rfl : _ = _)
      clear hc hd hm
      generalize rows.getD k [] = row at *
      cases ht : row.any (eqs (tax, code))
      · rw [ht] at hlook
        have HN : Hid ((rows.take (k + 1)).any p = false) := by show (rows.take (k + 1)).any p = false; rw [HS.out, hno.out, HPK.out, ht]; rfl
        clear ht
        go_wp2
        go_round
        case rel => exact ⟨k + 1, by go_num, by omega, HN⟩
        case measure => simp [intOf]; omega
      · rw [ht] at hlook
        have HN : Hid (rows.any p = true) := HT.out (by rw [HPK.out, ht])
        clear ht
        go_wp2
        go_ret
        exact ⟨ret_bool HN.out.symm, hx0⟩
    · have HN : Hid (rows.any p = false) := by show rows.any p = false; rw [← hno.out, List.take_of_length_le (by omega)]
      go_wp2
      go_ret
      exact ⟨ret_bool HN.out.symm, hx0⟩

def CatEmptyPost (rows : List (List Ct)) (e : Ending) : Prop := ∃ b, e = .returned (.bool b) ∧ (b = true → ∀ c, WfCt c → inSets rows c = false)

set_option maxHeartbeats 2000000 in
theorem CatEmpty_any (v : Value) (rows : List (List Ct)) (w : World) (hv : CatMapsV w v rows) (hl : rows.length ≤ 4096) :
    Calls Try.prog 19 #[v] w fun e w' => CatEmptyPost rows e ∧ w' = w := by
  obtain ⟨a, cap, rfl, hcells⟩ := hv
  have HC : Hid _ := hcells
  clear hcells
  go_enter Try.func19, Try.ntmps19
  go_wp2
  go_loop [7, 4] (fun i _ => ∃ k : Nat, i = .int .i64 k ∧ k ≤ rows.length ∧ Hid (∀ j, j < k → ∀ c, WfCt c → (rows.getD j []).any (eqs c) = false)) (fun i _ => rows.length - (intOf i).toNat)
  case atStart => exact ⟨0, rfl, Nat.zero_le _, (fun j hj => absurd hj (by omega) : ∀ j, j < 0 → ∀ c, WfCt c → (rows.getD j []).any (eqs c) = false)⟩
  case round =>
    obtain ⟨k, rfl, hk, hno⟩ := hrel
    by_cases hlt : k < rows.length
    · obtain ⟨b, off, rfl, hc⟩ := HC.out (by omega)
      obtain ⟨m, n, hm, ⟨r, rfl⟩, hd⟩ := hc k hlt
      have hlen := hd.len w (Ext.refl w)
      have HZ : Hid (n = 0 → ∀ c, WfCt c → (rows.getD k []).any (eqs c) = false) := hd.none
      clear hc hd
      by_cases hz : n = 0
      · have HN : Hid (∀ j, j < k + 1 → ∀ c, WfCt c → (rows.getD j []).any (eqs c) = false) := upTo_step (fun r : List Ct => ∀ c, WfCt c → r.any (eqs c) = false) [] rows k hlt hno.out (HZ.out hz)
        subst hz
        clear HZ
        go_wp2
        go_round
        case rel => exact ⟨k + 1, by go_num, by omega, HN⟩
        case measure => simp [intOf]; omega
      · have hp : (0 : Int) < (n : Int) := by omega
        go_wp2
        go_ret
        exact ⟨⟨false, rfl, fun h => by cases h⟩, rfl⟩
    · have HN : Hid (∀ c, WfCt c → inSets rows c = false) := by
        show ∀ c, WfCt c → inSets rows c = false
        intro c hc
        rw [inSets_def, List.any_eq_false]
        intro r hr
        rw [upTo_all (fun r : List Ct => ∀ c, WfCt c → r.any (eqs c) = false) [] rows k hlt hno.out r hr c hc]
        simp
      go_wp2
      go_ret
      exact ⟨⟨true, rfl, fun _ => HN.out⟩, rfl⟩

/-- a gate.Blocks without hooks, at block bb -/
structure BlocksW (w : World) (bb : Nat) (fs : List (Bs → Bool)) (rows : List (List Ct)) (par : Ct → Option Bs) (dv cv pm : Value) (np : Nat) : Prop where
  c0 : w.cell? ⟨bb, 0, none⟩ = some dv
  c1 : w.cell? ⟨bb, 1, none⟩ = some cv
  c2 : w.cell? ⟨bb, 2, none⟩ = some pm
  c3 : w.cell? ⟨bb, 3, none⟩ = some .nilFunc
  d : ∃ ns, DomsV w dv fs ns
  c : CatMapsV w cv rows
  p : ParMap w pm par np
  isMap : ∃ r, pm = .map r
theorem BlocksW.ext {w w' : World} {bb : Nat} {fs : List (Bs → Bool)} {rows : List (List Ct)} {par : Ct → Option Bs} {dv cv pm : Value} {np : Nat} (h : BlocksW w bb fs rows par dv cv pm np) (e : Ext w w') : BlocksW w' bb fs rows par dv cv pm np := by
  obtain ⟨ns, hd⟩ := h.d
  exact ⟨e.cell h.c0, e.cell h.c1, e.cell h.c2, e.cell h.c3, ⟨ns, hd.ext e⟩, h.c.ext e, h.p.ext e, h.isMap⟩

/-- c's box -/
structure BoxW (w wr : World) (cb : Nat) (tax : Int) (code : Bs) : Prop where
  c0 : wr.cell? ⟨cb, 0, none⟩ = some (.int .i64 tax)
  c1 : wr.cell? ⟨cb, 1, none⟩ = some (.string (B code))
  f1 : wr.frozen? ⟨cb, 1, none⟩ = false
  e : Ext w wr
theorem BoxW.ext {w wr w' : World} {cb : Nat} {tax : Int} {code : Bs} (h : BoxW w wr cb tax code) (e : Ext wr w') : BoxW w w' cb tax code :=
  ⟨e.cell h.c0, e.cell h.c1, (e.frozen (cell_lt h.c1)).trans h.f1, h.e.trans e⟩
theorem BoxW.store {w wr : World} {cb : Nat} {tax : Int} {code p : Bs} (h : BoxW w wr cb tax code) (hcb : w.heap.size ≤ cb) : BoxW w (wr.setCell ⟨cb, 1, none⟩ (.string (B p))) cb tax p := by
  refine ⟨?_, World.cell?_setCell_same _ _ _ h.c1, ?_, Below.setCell h.e (p := ⟨cb, 1, none⟩) hcb _⟩
  · rw [World.cell?_setCell_other _ _ _ _ (ne_off (by omega))]; exact h.c0
  · rw [World.frozen?_setCell]; exact h.f1

theorem catBlk_hit (hs : Ct → Bool) (par : Ct → Option Bs) (n : Nat) (c : Ct) (h : hs c = true) : catBlk hs par (n + 1) c = true := by
  unfold catBlk; rw [h]; rfl
theorem catBlk_end (hs : Ct → Bool) (par : Ct → Option Bs) (n : Nat) (c : Ct) (h : hs c = false) (hp : par c = none) : catBlk hs par (n + 1) c = false := by
  unfold catBlk; rw [h, hp]; rfl
theorem catBlk_next (hs : Ct → Bool) (par : Ct → Option Bs) (n : Nat) (c : Ct) (p : Bs) (h : hs c = false) (hp : par c = some p) : catBlk hs par (n + 1) c = catBlk hs par n (c.1, p) := by
  rw [catBlk, h, hp]; rfl

set_option maxHeartbeats 4000000 in
theorem categoryBlocked_any (bb : Nat) (fs : List (Bs → Bool)) (rows : List (List Ct)) (par : Ct → Option Bs) (dv cv pm : Value) (np : Nat) (tax : Int) (code0 : Bs) (w : World)
    (hb : BlocksW w bb fs rows par dv cv pm np) (hl : rows.length ≤ 4096) (hnp : np ≤ 256) (hwf : WfCt (tax, code0)) :
    Calls Try.prog 21 #[.pointer (some ⟨bb, 0, none⟩), .agg #[.int .i64 tax, .string (B code0)]] w fun e w' => e = .returned (.bool (catBlk (inSets rows) par (np + 1) (tax, code0))) ∧ Ext w w' := by
  have HB : Hid (BlocksW w bb fs rows par dv cv pm np) := hb
  have HWF : Hid (WfCt (tax, code0)) := hwf
  obtain ⟨r, rfl⟩ := hb.isMap
  have hx0 : Ext w (w.alloc (.cells #[.int .i64 tax, .string (B code0)] 54)) := Ext.alloc _ _
  have hlen := fun ty => hb.p.len _ hx0 ty
  have b2 := hx0.cell hb.c2
  clear hb hwf
  go_enter Try.func21, Try.ntmps21
  go_wp2
  clear hlen b2
  go_loopw [13, 5, 6] (fun i _ _ wr => ∃ (k : Nat) (code : Bs), i = .int .i64 k ∧ k ≤ np + 1 ∧ BoxW w wr w.heap.size tax code ∧ WfCt (tax, code) ∧ Hid (catBlk (inSets rows) par (np + 1 - k) (tax, code) = catBlk (inSets rows) par (np + 1) (tax, code0))) (fun i _ _ _ => np + 1 - (intOf i).toNat)
  case atStart => exact ⟨0, code0, rfl, Nat.zero_le _, ⟨by simp, by simp, by simp, hx0⟩, HWF.out, (rfl : catBlk (inSets rows) par (np + 1 - 0) (tax, code0) = catBlk (inSets rows) par (np + 1) (tax, code0))⟩
  case round =>
    obtain ⟨k, code, rfl, hk, hx, hwf, HM⟩ := hrel
    by_cases hlt : k < np + 1
    · obtain ⟨q, hq⟩ : ∃ q, np + 1 - k = q + 1 := ⟨np - k, by omega⟩
      have HQ : Hid (np + 1 - k = q + 1) := hq
      rw [hq] at HM
      clear hq
      have HW : Hid (WfCt (tax, code)) := hwf
      have HX : Hid (BoxW w wr w.heap.size tax code) := hx
      have x0 := hx.c0
      have x1 := hx.c1
      have b1 := hx.e.cell HB.out.c1
      clear hwf hx
      cases hin : inSets rows (tax, code)
      · have HIN : Hid (inSets rows (tax, code) = false) := hin
        clear hin
        go_upto_region 3 with fail
        go_region_held3 (fun w' => w'.cell? ⟨bb, 1, none⟩ = some cv ∧ w'.cell? ⟨w.heap.size, 0, none⟩ = some (.int .i64 tax) ∧ w'.cell? ⟨w.heap.size, 1, none⟩ = some (.string (B code)))
          (first
            | go_keep
            | exact ⟨he1.cell b1, he1.cell x0, he1.cell x1⟩)
          ((go_at_call 35; go_fit (CatHas_any cv rows tax code _ (CatMapsV.ext HB.out.c (HX.out.e.trans (Ext.drew _))) hl HW.out); rintro e w1 ⟨rfl, he1⟩; rw [HIN.out]))
        have hX1 : BoxW w w1 w.heap.size tax code := (HX.out.ext (Ext.drew _)).ext he1
        clear he1 x0 x1 b1
        have x0 := hX1.c0
        have x1 := hX1.c1
        have f1 := hX1.f1
        have b2 := hX1.e.cell HB.out.c2
        cases hp : par (tax, code) with
        | none =>
          have HN : Hid (catBlk (inSets rows) par (np + 1) (tax, code0) = false) := by
            show catBlk (inSets rows) par (np + 1) (tax, code0) = false
            rw [← HM.out]; exact catBlk_end _ _ _ _ HIN.out hp
          have hlook : ∀ nq, (Instr.lookup 55 (.map r) (.agg #[.int .i64 tax, .string (B code)]) true).run Try.prog (w1.drewN nq) = .ok (.tuple #[.string (B []), .bool false]) (w1.drewN nq) := fun nq => by
            have := HB.out.p.look (w1.drewN nq) (hX1.e.trans (Ext.drewN _ _)) tax code HW.out
            rw [hp] at this
            exact this
          clear hp
          go_wp2
          go_quiet (fail)
          go_wp2
          go_ret
          exact ⟨ret_bool HN.out.symm, hX1.e.trans (Ext.drewN _ _)⟩
        | some p =>
          have HN : Hid (catBlk (inSets rows) par q (tax, p) = catBlk (inSets rows) par (np + 1) (tax, code0)) := by
            show catBlk (inSets rows) par q (tax, p) = catBlk (inSets rows) par (np + 1) (tax, code0)
            rw [← HM.out]; exact (catBlk_next _ _ _ _ p HIN.out hp).symm
          have hlook : ∀ nq, (Instr.lookup 55 (.map r) (.agg #[.int .i64 tax, .string (B code)]) true).run Try.prog (w1.drewN nq) = .ok (.tuple #[.string (B p), .bool true]) (w1.drewN nq) := fun nq => by
            have := HB.out.p.look (w1.drewN nq) (hX1.e.trans (Ext.drewN _ _)) tax code HW.out
            rw [hp] at this
            exact this
          have HWP : Hid (WfCt (tax, p)) := ⟨HW.out.1, HB.out.p.wf _ p hp⟩
          clear hp
          go_wp2
          go_quiet (fail)
          go_wp2
          go_roundw
          case rel => exact ⟨k + 1, p, by go_num, by omega, (hX1.ext (Ext.drewN _ _)).store (Nat.le_refl _), HWP.out, by rw [show np + 1 - (k + 1) = q from by have := HQ.out; omega]; exact HN⟩
          case measure => simp [intOf]; omega
      · have HIN : Hid (inSets rows (tax, code) = true) := hin
        have HN : Hid (catBlk (inSets rows) par (np + 1) (tax, code0) = true) := by
          show catBlk (inSets rows) par (np + 1) (tax, code0) = true
          rw [← HM.out]; exact catBlk_hit _ _ _ _ hin
        clear hin
        go_upto_region 3 with fail
        go_region_held3 (fun w' => w'.cell? ⟨bb, 1, none⟩ = some cv ∧ w'.cell? ⟨w.heap.size, 0, none⟩ = some (.int .i64 tax) ∧ w'.cell? ⟨w.heap.size, 1, none⟩ = some (.string (B code)))
          (first
            | go_keep
            | exact ⟨he1.cell b1, he1.cell x0, he1.cell x1⟩)
          ((go_at_call 35; go_fit (CatHas_any cv rows tax code _ (CatMapsV.ext HB.out.c (HX.out.e.trans (Ext.drew _))) hl HW.out); rintro e w1 ⟨rfl, he1⟩; rw [HIN.out]))
        have he2 : Ext w w1 := (HX.out.e.trans (Ext.drew _)).trans he1
        clear he1 x0 x1 b1
        go_wp2
        go_ret
        exact ⟨ret_bool HN.out.symm, he2⟩
    · have hne : np + 1 - k = 0 := by omega
      rw [hne] at HM
      have HN : Hid (catBlk (inSets rows) par (np + 1) (tax, code0) = false) := by show catBlk (inSets rows) par (np + 1) (tax, code0) = false; rw [← HM.out]; rfl
      have he := hx.e
      clear hne hx
      go_wp2
      go_ret
      exact ⟨ret_bool HN.out.symm, he⟩
end Go.Proofs.Qxb6616329a
