import Derived.Test.Qxb6616329aCatB
import Derived.WalkSpells
set_option linter.unusedSimpArgs false
set_option linter.unusedVariables false
namespace Go.Proofs.Qxb6616329a
open Go.RowKit

theorem info53 : (Try.prog.info? 53).map (fun i => (i.zero, i.size, i.bytes)) = some (some (.map none), 1, 8) := by kernel_rfl

/-- the row g of maps, of which k are filled -/
structure BuildW (w wr : World) (g : Nat) (rows : List (List Ct)) (k : Nat) : Prop where
  there : ∀ j, j < rows.length → ∃ v, wr.cell? ⟨g, j, none⟩ = some v
  open_ : ∀ j, wr.frozen? ⟨g, j, none⟩ = false
  done : ∀ i, i < k → ∃ b n D, wr.cell? ⟨g, i, none⟩ = some (.map (some b)) ∧ b ≠ g ∧ wr.ownsMap Try.prog 54 (plainElem Try.prog 4) b n D ∧ SetD D (fun c => (rows.getD i []).any (eqs c))
  e : Ext w wr
  lt : g < wr.heap.size

theorem BuildW.ext {w wr w' : World} {g : Nat} {rows : List (List Ct)} {k : Nat} (h : BuildW w wr g rows k) (e : Ext wr w') : BuildW w w' g rows k := by
  refine ⟨fun j hj => ?_, fun j => (e.frozen h.lt).trans (h.open_ j), fun i hi => ?_, h.e.trans e, Nat.lt_of_lt_of_le h.lt e.size⟩
  · obtain ⟨v, hv⟩ := h.there j hj
    exact ⟨v, e.cell hv⟩
  · obtain ⟨b, n, D, h1, h2, h3, h4⟩ := h.done i hi
    exact ⟨b, n, D, e.cell h1, h2, h3.kept (ext_grown e) (by simp), h4⟩

theorem buildW_start {w w1 : World} {rows : List (List Ct)} (hown : w1.ownsRow w.heap.size 53 1 (.slice (some ⟨w.heap.size, 0, none⟩) rows.length rows.length) rows.length (madeCells (Value.map none).cells (rows.length * 1)).toList)
    (hgrow : w.grownBy w1 none) : BuildW w w1 w.heap.size rows 0 := by
  refine ⟨fun j hj => ?_, fun j => hown.frozenAt j, fun i hi => absurd hi (by omega), ⟨hgrow.os, hgrow.tape, hgrow.output, hgrow.size, fun k hk => hgrow.block k hk (by simp)⟩, (hown.lt w.heap.size rfl).2⟩
  have hl := hown.1
  have := hown.cellAt j (by omega)
  rw [List.getElem?_eq_getElem (by rw [hl]; omega)] at this
  exact ⟨_, this⟩

theorem buildW_store {w wr : World} {g : Nat} {rows : List (List Ct)} {k b n : Nat} {D : DataW Unit} (h : BuildW w wr g rows k) (hk : k < rows.length) (hb : b ≠ g) (hown : wr.ownsMap Try.prog 54 (plainElem Try.prog 4) b n D)
    (hs : SetD D (fun c => (rows.getD k []).any (eqs c))) (hg : w.heap.size ≤ g) : BuildW w (wr.setCell ⟨g, k, none⟩ (.map (some b))) g rows (k + 1) := by
  obtain ⟨o, d⟩ := h.there k hk
  refine ⟨fun j hj => ?_, fun j => by rw [World.frozen?_setCell]; exact h.open_ j, fun i hi => ?_, Below.setCell h.e (p := ⟨g, k, none⟩) hg _, by simpa using h.lt⟩
  · by_cases e : j = k
    · subst e; exact ⟨_, World.cell?_setCell_same _ _ _ d⟩
    · obtain ⟨v, hv⟩ := h.there j hj
      exact ⟨v, by rw [World.cell?_setCell_other _ _ _ _ (ne_off (Ne.symm e))]; exact hv⟩
  · by_cases e : i = k
    · subst e
      exact ⟨b, n, D, World.cell?_setCell_same _ _ _ d, hb, hown.setCell (a := ⟨g, i, none⟩) hb _, hs⟩
    · obtain ⟨b', n', D', h1, h2, h3, h4⟩ := h.done i (by omega)
      exact ⟨b', n', D', by rw [World.cell?_setCell_other _ _ _ _ (ne_off (Ne.symm e))]; exact h1, h2, h3.setCell (a := ⟨g, k, none⟩) h2 _, h4⟩

theorem buildW_end {w wr : World} {g : Nat} {rows : List (List Ct)} {k : Nat} (h : BuildW w wr g rows k) (hk : rows.length ≤ k) : CatMapsV wr (.slice (some ⟨g, 0, none⟩) rows.length rows.length) rows := by
  refine ⟨_, _, rfl, fun _ => ⟨g, 0, rfl, fun i hi => ?_⟩⟩
  obtain ⟨b, n, D, h1, h2, h3, h4⟩ := h.done i (by omega)
  exact ⟨_, _, by simpa using h1, ⟨_, rfl⟩, catMap_of h3 h4⟩

theorem set_step (row : List Ct) (j : Nat) (hj : j < row.length) : (fun c => (row.take j).any (eqs c) || eqs c (row.getD j (0, []))) = (fun c => (row.take (j + 1)).any (eqs c)) := by
  funext c
  rw [any_step (eqs c) (0, []) row j hj]

theorem par_step (links : List Lk) (j : Nat) (hj : j < links.length) :
    (fun c => if ((links.getD j ⟨0, [], []⟩).tax, (links.getD j ⟨0, [], []⟩).code) = c then some (links.getD j ⟨0, [], []⟩).parent else parentOf (links.take j) c) = parentOf (links.take (j + 1)) := by
  funext c
  rw [parTo_step links c j hj]
  unfold parTo
  by_cases h : ((links.getD j ⟨0, [], []⟩).tax, (links.getD j ⟨0, [], []⟩).code) = c
  · subst h; simp
  · rw [if_neg h, if_neg (fun h' => h (Prod.ext h'.1 h'.2))]

theorem parent_small (links : List Lk) (h : ∀ l ∈ links, l.parent.length ≤ maxLen) : ∀ c p, parentOf links c = some p → p.length ≤ maxLen := by
  intro c p
  unfold parentOf
  have gen : ∀ (ls : List Lk) (acc : Option Bs), (∀ l ∈ ls, l.parent.length ≤ maxLen) → (∀ q, acc = some q → q.length ≤ maxLen) → ∀ q, ls.foldl (fun a l => parTo a c l) acc = some q → q.length ≤ maxLen := by
    intro ls
    induction ls with
    | nil => intro acc _ ha q hq; exact ha q hq
    | cons l ls ih =>
      intro acc hl ha q hq
      rw [List.foldl_cons] at hq
      refine ih _ (fun x hx => hl x (by simp [hx])) ?_ q hq
      intro q' hq'
      unfold parTo at hq'
      split at hq'
      · injection hq' with hq'; subst hq'; exact hl l (by simp)
      · exact ha q' hq'
  exact gen links none h (fun q hq => by cases hq) p

set_option maxHeartbeats 8000000 in
set_option maxRecDepth 100000 in
theorem buildBlocks_any (dv cv lv : Value) (fs : List (Bs → Bool)) (ns : List Nat) (cats : List (List Ct)) (links : List Lk) (w : World)
    (hd : DomsV w dv fs ns) (hc : CatsV w cv cats) (hl : LinksV w lv links) (hcl : cats.length ≤ 4096) (hrl : ∀ r ∈ cats, r.length ≤ 1048576) (hll : links.length ≤ 256)
    (hcw : ∀ r ∈ cats, ∀ c ∈ r, WfCt c) (hlw : ∀ l ∈ links, WfCt (l.tax, l.code) ∧ l.parent.length ≤ maxLen) :
    Calls Try.prog 7 #[dv, cv, lv] w fun e w' => (∃ bb cv' pm np, e = .returned (.pointer (some ⟨bb, 0, none⟩)) ∧ np ≤ 256 ∧ BlocksW w' bb fs cats (parentOf links) dv cv' pm np) ∧ Ext w w' := by
  obtain ⟨i0, hi, hz0, hz1, hz2⟩ := info_parts info53
  have HD : Hid (DomsV w dv fs ns) := hd
  obtain ⟨hln, da, dcap, rfl, _⟩ := hd
  clear hln
  obtain ⟨ca, ccap, rfl, hcc⟩ := hc
  obtain ⟨la, lcap, rfl, hlc⟩ := hl
  have HC : Hid _ := hcc
  have HL : Hid _ := hlc
  have HRL : Hid (∀ r ∈ cats, r.length ≤ 1048576) := hrl
  have HCW : Hid (∀ r ∈ cats, ∀ c ∈ r, WfCt c) := hcw
  have HLW : Hid (∀ l ∈ links, WfCt (l.tax, l.code) ∧ l.parent.length ≤ maxLen) := hlw
  have hmk := fun (wx : World) (n : Int) => run_makeMap_hint wx 53 54 4 n Try.underlying53
  clear hcc hlc hrl hcw hlw
  go_enter Try.func7, Try.ntmps7
  go_wp2_with (at_make; refine wpList_make_full _ rfl _ _ 52 rfl w.heap.size 53 i0 (.map none) 1 Try.underlying52 hi hz0 hz1 .i64 .i64 _ _ cats.length rfl rfl rfl rfl (by rw [hz2]; omega) (by unfold maxLen; omega) (Nat.le_refl _) ?_; intro w1 hown hgrow)
  have hB0 : BuildW w w1 w.heap.size cats 0 := buildW_start hown hgrow
  clear hown hgrow hi hz0 hz1 hz2
  go_loopw [8, 9, 10] (fun i _ _ wr => ∃ k : Nat, i = .int .i64 k ∧ k ≤ cats.length ∧ BuildW w wr w.heap.size cats k) (fun i _ _ _ => cats.length - (intOf i).toNat)
  case atStart => exact ⟨0, rfl, Nat.zero_le _, hB0⟩
  case round =>
    clear hB0
    obtain ⟨k, rfl, hk, hB⟩ := hrel
    by_cases hlt : k < cats.length
    · obtain ⟨b, off, rfl, hc⟩ := HC.out (by omega)
      obtain ⟨mv, hm, hrow⟩ := hc k hlt
      clear hc
      have HM : Hid (w.cell? ⟨b, off + k, none⟩ = some mv) := hm
      have cm := hB.e.cell hm
      have HRW : Hid _ := HCW.out _ (getD_mem' [] cats k hlt)
      have hrz := HRL.out _ (getD_mem' [] cats k hlt)
      have HST : Hid (∀ w2 mb n D, BuildW w w2 w.heap.size cats k → mb ≠ w.heap.size → w2.ownsMap Try.prog 54 (plainElem Try.prog 4) mb n D → SetD D (fun c => (cats.getD k []).any (eqs c)) → BuildW w (w2.setCell ⟨w.heap.size, k, none⟩ (.map (some mb))) w.heap.size cats (k + 1)) :=
        fun w2 mb n D h1 h2 h3 h4 => buildW_store h1 hlt h2 h3 h4 (Nat.le_refl _)
      generalize cats.getD k [] = row at *
      obtain ⟨ra, rcap, rfl, hrc⟩ := hrow
      have HRC : Hid _ := hrc
      clear hrc hm
      go_wp2_with fail
      have hA : Ext wr (wr.alloc (.map #[] 0)) := Ext.alloc _ _
      have hO := World.ownsMap_made wr Try.prog 54 (plainElem (H := Unit) Try.prog 4)
      have HBm : Hid (∀ w2, Ext wr w2 → BuildW w w2 w.heap.size cats k) := fun w2 e => hB.ext e
      have hgm : wr.heap.size ≠ w.heap.size := by have := hB.lt; omega
      have HEW : Hid (Ext w wr) := hB.e
      generalize wr.alloc (.map #[] 0) = W1 at hA hO ⊢
      generalize hmb : wr.heap.size = mb at hO hgm ⊢
      have HMB : Hid (wr.heap.size = mb) := hmb
      clear hmb cm hB
      go_loopw [10] (fun i wq => ∃ (j : Nat) (D : DataW Unit) (n : Nat), i = .int .i64 j ∧ j ≤ row.length ∧ n ≤ j ∧ wq.ownsMap Try.prog 54 (plainElem Try.prog 4) mb n D ∧ SetD D (fun c => (row.take j).any (eqs c)) ∧ Ext wr wq) (fun i _ => row.length - (intOf i).toNat)
      case atStart => exact ⟨0, _, 0, rfl, Nat.zero_le _, Nat.le_refl _, hO, setD_empty, hA⟩
      case round =>
        clear hO hA
        obtain ⟨j, D, n, rfl, hj, hnj, hO, hS, hq⟩ := hrel
        have hew : Ext w wr := HEW.out.trans hq
        have hmw : w.heap.size ≤ mb := by rw [← HMB.out]; exact HEW.out.size
        have cm := hew.cell HM.out
        by_cases hjl : j < row.length
        · obtain ⟨rb, roff, rfl, hrc⟩ := HRC.out (by omega)
          obtain ⟨g0, g1⟩ := hrc j hjl
          clear hrc
          have hb1 : some rb ≠ some mb := by have := cell_lt g0; intro e; injection e with e; omega
          have hb2 : some b ≠ some mb := by have := cell_lt HM.out; intro e; injection e with e; omega
          have c0 := hew.cell g0
          have c1 := hew.cell g1
          have hx : WfCt (row.getD j (0, [])) := HRW.out _ (getD_mem' (0, []) row j hjl)
          have hS2 := setD_put hS _ hx
          rw [set_step row j hjl] at hS2
          obtain ⟨w2, hrun, hO2, hgr⟩ := hO.drew.update law54 Try.underlying53 (show n < maxLen by unfold maxLen; omega) (keyOfCt _ hx) (plainElem_bool Try.underlying4 true)
          clear g0 g1
          generalize row.getD j (0, []) = x at *
          obtain ⟨xt, xc⟩ := x
          have HS2 : Hid _ := hS2
          have HO2 : Hid _ := hO2
          have HGR : Hid (wr.drew.grownBy w2 (some mb)) := hgr
          clear hS2 hO2 hgr hS hO hx
          have hkI : (k : Int) < (cats.length : Int) := by omega
          have hjI : (j : Int) < (row.length : Int) := by omega
          go_upto_region 9 with fail
          go_region_held3 (fun w' => w'.cell? ⟨b, off + k, none⟩ = some (.slice (some ⟨rb, roff, none⟩) row.length rcap) ∧ w'.cell? ⟨rb, roff + j * 2, none⟩ = some (.int .i64 xt) ∧ w'.cell? ⟨rb, roff + j * 2 + 1, none⟩ = some (.string (B xc)))
            (first
              | go_keep
              | exact ⟨grown_cell HGR.out cm hb2, grown_cell HGR.out c0 hb1, grown_cell HGR.out c1 hb1⟩)
            (fail)
          have HE2 : Hid (Ext _ w2) := Below.grown (Below.drew hq) HGR.out hq.size (fun q hq' => by injection hq' with e; rw [← e, ← HMB.out]; exact Nat.le_refl _)
          clear hrun cm c0 c1 hq hew
          go_wp2
          go_roundw
          case rel => exact ⟨j + 1, _, n + 1, by go_num, by omega, by omega, HO2.out, HS2.out, HE2.out⟩
          case measure => simp [intOf]; omega
        · have hB1 := HBm.out wr hq
          obtain ⟨o, d⟩ := hB1.there k hlt
          have f := hB1.open_ k
          have hS' : SetD D (fun c => row.any (eqs c)) := by rw [List.take_of_length_le (by omega)] at hS; exact hS
          have HR : Hid _ := HST.out wr mb n D hB1 hgm hO hS'
          clear hB1 hS hS' hO hq hew
          go_wp2
          go_roundw
          case rel => exact ⟨k + 1, by go_num, by omega, HR.out⟩
          case measure => simp [intOf]; omega
    · have hCV := buildW_end hB (by omega)
      have hE := hB.e
      have HCV : Hid (CatMapsV wr (.slice (some ⟨w.heap.size, 0, none⟩) cats.length cats.length) cats) := hCV
      clear hB hCV hk hmk
      have hmk := fun (wx : World) (n : Int) => run_makeMap_hint wx 55 54 9 n Try.underlying55
      have hnil := fun wx => run_neq_slice_nil_any (P := Try.prog) wx 24 44 la links.length lcap 0 0 Try.underlying24
      go_upto_if 60 with fail
      go_cut [11, 12] (fun pm _ wx => (∃ r np, pm = .map r ∧ np ≤ 256 ∧ ParMap wx (.map r) (parentOf links) np) ∧ Ext wr wx)
      case first =>
        clear hnil
        cases la with
        | none =>
          have hx0 : links = [] := by
            cases links with
            | nil => rfl
            | cons y ys => obtain ⟨b, off, h, _⟩ := HL.out (by simp); cases h
          subst hx0
          go_wp2
          go_meet
          case rel => exact ⟨⟨none, 0, rfl, by omega, parMap_nil wr⟩, Ext.refl _⟩
        | some lad =>
          go_wp2_with fail
          have hA : Ext wr (wr.alloc (.map #[] 0)) := Ext.alloc _ _
          have hO := World.ownsMap_made wr Try.prog 54 (plainElem (H := Unit) Try.prog 9)
          have HEW : Hid (Ext w wr) := hE
          generalize wr.alloc (.map #[] 0) = W1 at hA hO ⊢
          generalize hmb : wr.heap.size = mb at hO ⊢
          have HMB : Hid (wr.heap.size = mb) := hmb
          clear hmb hmk
          go_loopw [12] (fun i wq => ∃ (j : Nat) (D : DataW Unit) (n : Nat) (keys : List Ct), i = .int .i64 j ∧ j ≤ links.length ∧ n ≤ j ∧ wq.ownsMap Try.prog 54 (plainElem Try.prog 9) mb n D ∧ ParD D (parentOf (links.take j)) keys ∧ Ext wr wq) (fun i _ => links.length - (intOf i).toNat)
          case atStart => exact ⟨0, _, 0, [], rfl, Nat.zero_le _, Nat.le_refl _, hO, parD_empty, hA⟩
          case round =>
            clear hO hA hE
            obtain ⟨j, D, n, keys, rfl, hj, hnj, hO, hS, hq⟩ := hrel
            have hew : Ext w wr := HEW.out.trans hq
            have hmw : w.heap.size ≤ mb := by rw [← HMB.out]; exact HEW.out.size
            by_cases hjl : j < links.length
            · obtain ⟨rb, roff, hab, hrc⟩ := HL.out (by omega)
              injection hab with hab
              subst hab
              obtain ⟨g0, g1, g2⟩ := hrc j hjl
              clear hrc
              have hb1 : some rb ≠ some mb := by have := cell_lt g0; intro e; injection e with e; omega
              have c0 := hew.cell g0
              have c1 := hew.cell g1
              have c2 := hew.cell g2
              obtain ⟨hx, hpl⟩ := HLW.out _ (getD_mem' ⟨0, [], []⟩ links j hjl)
              obtain ⟨keys', hS2⟩ := parD_put hS _ hx (links.getD j ⟨0, [], []⟩).parent
              rw [par_step links j hjl] at hS2
              obtain ⟨w2, hrun, hO2, hgr⟩ := hO.drew.update law54 Try.underlying55 (show n < maxLen by unfold maxLen; omega) (keyOfCt _ hx) (plainElem_string Try.underlying9 (show (B (links.getD j ⟨0, [], []⟩).parent).size ≤ maxLen from hpl))
              clear g0 g1 g2
              generalize links.getD j ⟨0, [], []⟩ = x at *
              obtain ⟨xt, xc, xp⟩ := x
              have HS2 : Hid _ := hS2
              have HO2 : Hid _ := hO2
              have HGR : Hid (wr.drew.grownBy w2 (some mb)) := hgr
              clear hS2 hO2 hgr hS hO hx hpl
              have hjI : (j : Int) < (links.length : Int) := by omega
              go_upto_region 17 with fail
              go_region_held3 (fun w' => w'.cell? ⟨rb, roff + j * 3, none⟩ = some (.int .i64 xt) ∧ w'.cell? ⟨rb, roff + j * 3 + 1, none⟩ = some (.string (B xc)) ∧ w'.cell? ⟨rb, roff + j * 3 + 2, none⟩ = some (.string (B xp)))
                (first
                  | go_keep
                  | exact ⟨grown_cell HGR.out c0 hb1, grown_cell HGR.out c1 hb1, grown_cell HGR.out c2 hb1⟩)
                (fail)
              have HE2 : Hid (Ext _ w2) := Below.grown (Below.drew hq) HGR.out hq.size (fun q hq' => by injection hq' with e; rw [← e, ← HMB.out]; exact Nat.le_refl _)
              clear hrun c0 c1 c2 hq hew
              go_wp2
              go_roundw
              case rel => exact ⟨j + 1, by omega, by omega, _, n + 1, by omega, HO2.out, ⟨keys', HS2.out⟩, HE2.out⟩
              case measure => simp [intOf]; omega
            · have hS' : ParD D (parentOf links) keys := by rw [List.take_of_length_le (by omega)] at hS; exact hS
              have hsz := hO.size_le
              have HP : Hid _ := parMap_of hO hS' (parent_small links (fun l hl => (HLW.out l hl).2))
              clear hS hS' hO
              go_wp2
              go_meet
              case rel => exact ⟨⟨some mb, _, rfl, by omega, HP.out⟩, hq⟩
      case rest =>
        obtain ⟨⟨r, np, rfl, hnp, hP⟩, hq⟩ := hcut
        have hew : Ext w wc := hE.trans hq
        have HP : Hid (ParMap wc (.map r) (parentOf links) np) := hP
        clear hP hnil hmk
        go_wp2
        go_ret
        refine ⟨⟨wc.heap.size, .slice (some ⟨w.heap.size, 0, none⟩) cats.length cats.length, .map r, np, rfl, hnp, ?_⟩, hew.trans (Ext.alloc _ _)⟩
        exact ⟨by simp, by simp, by simp, by simp, ⟨ns, DomsV.ext HD.out (hew.trans (Ext.alloc _ _))⟩, CatMapsV.ext HCV.out (hq.trans (Ext.alloc _ _)), HP.out.ext (Ext.alloc _ _), ⟨r, rfl⟩⟩
end Go.Proofs.Qxb6616329a
