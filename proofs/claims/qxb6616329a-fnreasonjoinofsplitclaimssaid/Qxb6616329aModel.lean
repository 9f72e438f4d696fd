import Derived.Test.Qxb6616329aFunc
import Derived.Test.Qxb6616329aHit
import Derived.Deep.RegionHeld3
set_option linter.unusedSimpArgs false
set_option linter.unusedVariables false
namespace Go.Proofs.Qxb6616329a
open Go.RowKit

/-- a []ClaimIn, or a []gate.Claims -/
def ClaimsV (w : World) (v : Value) (xs : List Cl) : Prop :=
  ∃ a cap, v = .slice a xs.length cap ∧ (0 < xs.length → ∃ b off, a = some ⟨b, off, none⟩ ∧ ∀ i, i < xs.length →
    ∃ x y, w.cell? ⟨b, off + i * 3, none⟩ = some x ∧ w.cell? ⟨b, off + i * 3 + 1, none⟩ = some (.int .i64 (xs.getD i ⟨[], 0, []⟩).tax) ∧ w.cell? ⟨b, off + i * 3 + 2, none⟩ = some y ∧
      StrsV w x (xs.getD i ⟨[], 0, []⟩).adom ∧ StrsV w y (xs.getD i ⟨[], 0, []⟩).cat)
theorem ClaimsV.ext {w w' : World} {v : Value} {xs : List Cl} (h : ClaimsV w v xs) (e : Ext w w') : ClaimsV w' v xs := by
  obtain ⟨a, cap, hv, h⟩ := h
  refine ⟨a, cap, hv, fun h0 => ?_⟩
  obtain ⟨b, off, ha, hc⟩ := h h0
  refine ⟨b, off, ha, fun i hi => ?_⟩
  obtain ⟨x, y, h1, h2, h3, h4, h5⟩ := hc i hi
  exact ⟨x, y, e.cell h1, e.cell h2, e.cell h3, h4.ext e, h5.ext e⟩

/-- one claim is small -/
structure ClOk (c : Cl) : Prop where
  an : c.adom.length ≤ 1048576
  al : ∀ l ∈ c.adom, l.length ≤ 1048576
  cn : c.cat.length ≤ 1048576
  cl : ∀ l ∈ c.cat, l.length ≤ 1048576
/-- all that 'reasonFits' lets by -/
structure Fits (fs : List (Bs → Bool)) (cats : List (List Ct)) (links : List Lk) (cls : List Cl) : Prop where
  d : fs.length ≤ 4096
  c : cats.length ≤ 4096
  cr : ∀ r ∈ cats, r.length ≤ 1048576
  l : links.length ≤ 256
  n : cls.length ≤ 4096
  cl : ∀ c ∈ cls, ClOk c

theorem getD_mem' {α : Type} (d : α) (xs : List α) (k : Nat) (hk : k < xs.length) : xs.getD k d ∈ xs := by
  simp [List.getD, hk]

def adomHit (fs : List (Bs → Bool)) (c : Cl) : Bool := c.adom.any (domHit fs)
def catHits (cats : List (List Ct)) (links : List Lk) (c : Cl) : Bool := c.cat.any (fun x => catHit cats links (c.tax, x))
theorem domAny_def (fs : List (Bs → Bool)) (cls : List Cl) : domAny fs cls = cls.any (adomHit fs) := rfl
theorem catAny_def (cats : List (List Ct)) (links : List Lk) (cls : List Cl) : catAny cats links cls = cls.any (catHits cats links) := rfl

set_option maxHeartbeats 4000000 in
theorem reasonModel_any (dv cv lv av : Value) (fs : List (Bs → Bool)) (ns : List Nat) (cats : List (List Ct)) (links : List Lk) (cls : List Cl) (w : World)
    (hd : DomsV w dv fs ns) (hc : CatsV w cv cats) (hl : LinksV w lv links) (ha : ClaimsV w av cls) (hf : Fits fs cats links cls) :
    Calls Try.prog 6 #[dv, cv, lv, av] w fun e w' => e = .returned (.string (B (reason fs cats links cls))) ∧ Ext w w' := by
  have HD : Hid (DomsV w dv fs ns) := hd
  have HCV : Hid (CatsV w cv cats) := hc
  have HL : Hid (LinksV w lv links) := hl
  obtain ⟨aa, acap, rfl, hcells⟩ := ha
  have HC : Hid _ := hcells
  have HFI : Hid (Fits fs cats links cls) := hf
  have hn := hf.n
  have hfd := hf.d
  clear hd hc hl hcells hf
  go_enter Try.func6, Try.ntmps6
  go_wp2
  go_loopw [9, 10] (fun i _ wr => (∃ k : Nat, i = .int .i64 k ∧ k ≤ cls.length ∧ Hid ((cls.take k).any (adomHit fs) = false)) ∧ Ext w wr) (fun i _ _ => cls.length - (intOf i).toNat)
  case atStart => exact ⟨⟨0, rfl, Nat.zero_le _, (rfl : (cls.take 0).any (adomHit fs) = false)⟩, Ext.refl _⟩
  case round =>
    obtain ⟨⟨k, rfl, hk, hno⟩, he⟩ := hrel
    by_cases hlt : k < cls.length
    · obtain ⟨b, off, rfl, hc⟩ := HC.out (by omega)
      obtain ⟨x, y, g0, g1, g2, gx, gy⟩ := hc k hlt
      clear hc
      have HS : Hid _ := any_step (adomHit fs) ⟨[], 0, []⟩ cls k hlt
      have HT : Hid _ := any_at (adomHit fs) ⟨[], 0, []⟩ cls k hlt
      have HK : Hid _ := HFI.out.cl _ (getD_mem' ⟨[], 0, []⟩ cls k hlt)
      generalize cls.getD k ⟨[], 0, []⟩ = cl at *
      have G0 : Hid (w.cell? ⟨b, off + k * 3, none⟩ = some x) := g0
      obtain ⟨xa, xcap, rfl, hxc⟩ := gx
      have c0 := he.cell g0
      have HX : Hid _ := hxc
      have hal := HK.out.an
      clear g0 g1 g2 gy hxc
      go_wp2
      go_loopw [10] (fun i wr => (∃ j : Nat, i = .int .i64 j ∧ j ≤ cl.adom.length ∧ Hid ((cl.adom.take j).any (domHit fs) = false)) ∧ Ext w wr) (fun i _ => cl.adom.length - (intOf i).toNat)
      case atStart => exact ⟨⟨0, rfl, Nat.zero_le _, (rfl : (cl.adom.take 0).any (domHit fs) = false)⟩, he⟩
      case round =>
        clear c0 he
        obtain ⟨⟨j, rfl, hj, hnoj⟩, he⟩ := hrel
        have c0 := he.cell G0.out
        by_cases hjl : j < cl.adom.length
        · obtain ⟨xb, xoff, rfl, hxc⟩ := HX.out (by omega)
          have cj := he.cell (hxc j hjl)
          clear hxc
          have HJ : Hid _ := any_step (domHit fs) [] cl.adom j hjl
          have HJT : Hid _ := any_at (domHit fs) [] cl.adom j hjl
          have hjz : (B (cl.adom.getD j [])).size ≤ 1048576 := HK.out.al _ (getD_mem cl.adom j hjl)
          generalize cl.adom.getD j [] = z at *
          have HD1 : Hid (DomsV wr dv fs ns) := DomsV.ext HD.out he
          cases hh : domHit fs z
          · have HN : Hid ((cl.adom.take (j + 1)).any (domHit fs) = false) := by show (cl.adom.take (j + 1)).any (domHit fs) = false; rw [HJ.out, hnoj.out, hh]; rfl
            have HH : Hid (domHit fs (B z).data.toList = false) := hh
            clear hh
            go_wp2_with fail
            go_fit (domainHit_any dv fs ns _ _ HD1.out hjz hfd)
            rintro e w1 ⟨rfl, he1⟩
            rw [HH.out]
            go_wp2
            go_roundw
            case rel => exact ⟨⟨j + 1, by go_num, by omega, HN⟩, he.trans he1⟩
            case measure => simp [intOf]; omega
          · have HN : Hid (reason fs cats links cls = sDomain) := by
              show reason fs cats links cls = sDomain
              unfold reason
              rw [domAny_def, HT.out (HJT.out hh)]; rfl
            have HH : Hid (domHit fs (B z).data.toList = true) := hh
            clear hh
            go_wp2_with fail
            go_fit (domainHit_any dv fs ns _ _ HD1.out hjz hfd)
            rintro e w1 ⟨rfl, he1⟩
            rw [HH.out]
            go_wp2
            go_ret
            exact ⟨by rw [HN.out]; rfl, he.trans he1⟩
        · have HN : Hid ((cls.take (k + 1)).any (adomHit fs) = false) := by
            show (cls.take (k + 1)).any (adomHit fs) = false
            rw [HS.out, hno.out]
            show adomHit fs cl = false
            unfold adomHit
            rw [← hnoj.out, List.take_of_length_le (by omega)]
          go_wp2
          go_roundw
          case rel => exact ⟨⟨k + 1, by go_num, by omega, HN⟩, he⟩
          case measure => simp [intOf]; omega
    · have HDA : Hid (domAny fs cls = false) := by show domAny fs cls = false; rw [domAny_def, ← hno.out, List.take_of_length_le (by omega)]
      clear hno
      go_wp2
      clear hlt hk
      go_loopw [11, 12] (fun i _ wq => (∃ k : Nat, i = .int .i64 k ∧ k ≤ cls.length ∧ Hid ((cls.take k).any (catHits cats links) = false)) ∧ Ext w wq) (fun i _ _ => cls.length - (intOf i).toNat)
      case atStart => exact ⟨⟨0, rfl, Nat.zero_le _, (rfl : (cls.take 0).any (catHits cats links) = false)⟩, he⟩
      case round =>
        clear he
        obtain ⟨⟨k, rfl, hk, hno⟩, he⟩ := hrel
        by_cases hlt : k < cls.length
        · obtain ⟨b, off, rfl, hc⟩ := HC.out (by omega)
          obtain ⟨x, y, g0, g1, g2, gx, gy⟩ := hc k hlt
          clear hc
          have HS : Hid _ := any_step (catHits cats links) ⟨[], 0, []⟩ cls k hlt
          have HT : Hid _ := any_at (catHits cats links) ⟨[], 0, []⟩ cls k hlt
          have HK : Hid _ := HFI.out.cl _ (getD_mem' ⟨[], 0, []⟩ cls k hlt)
          generalize cls.getD k ⟨[], 0, []⟩ = cl at *
          have G1 : Hid (w.cell? ⟨b, off + k * 3 + 1, none⟩ = some (.int .i64 cl.tax)) := g1
          have G2 : Hid (w.cell? ⟨b, off + k * 3 + 2, none⟩ = some y) := g2
          obtain ⟨xa, xcap, rfl, hxc⟩ := gy
          have c2 := he.cell g2
          have HX : Hid _ := hxc
          have hal := HK.out.cn
          clear g0 g1 g2 gx hxc
          go_wp2
          go_loopw [12] (fun i wq => (∃ j : Nat, i = .int .i64 j ∧ j ≤ cl.cat.length ∧ Hid ((cl.cat.take j).any (fun x => catHit cats links (cl.tax, x)) = false)) ∧ Ext w wq) (fun i _ => cl.cat.length - (intOf i).toNat)
          case atStart => exact ⟨⟨0, rfl, Nat.zero_le _, (rfl : (cl.cat.take 0).any (fun x => catHit cats links (cl.tax, x)) = false)⟩, he⟩
          case round =>
            clear c2 he
            obtain ⟨⟨j, rfl, hj, hnoj⟩, he⟩ := hrel
            have c1 := he.cell G1.out
            have c2 := he.cell G2.out
            by_cases hjl : j < cl.cat.length
            · obtain ⟨xb, xoff, rfl, hxc⟩ := HX.out (by omega)
              have cj := he.cell (hxc j hjl)
              clear hxc
              have HJ : Hid _ := any_step (fun x => catHit cats links (cl.tax, x)) [] cl.cat j hjl
              have HJT : Hid _ := any_at (fun x => catHit cats links (cl.tax, x)) [] cl.cat j hjl
              generalize cl.cat.getD j [] = z at *
              have hkI : (k : Int) < (cls.length : Int) := by omega
              have hjI : (j : Int) < (cl.cat.length : Int) := by omega
              go_upto_region 15 with fail
              have HE : Hid (Ext w wr) := he
              cases hh : catHit cats links (cl.tax, z)
              · have HN : Hid ((cl.cat.take (j + 1)).any (fun x => catHit cats links (cl.tax, x)) = false) := by
                  show (cl.cat.take (j + 1)).any (fun x => catHit cats links (cl.tax, x)) = false
                  rw [HJ.out, hnoj.out]; exact hh
                have HH : Hid _ := hh
                clear hh
                go_region_held3 (fun w' => w'.cell? ⟨b, off + k * 3 + 1, none⟩ = some (.int .i64 cl.tax) ∧ w'.cell? ⟨b, off + k * 3 + 2, none⟩ = some (.slice (some ⟨xb, xoff, none⟩) cl.cat.length xcap) ∧ w'.cell? ⟨xb, xoff + j, none⟩ = some (.string (B z)))
                  (first | go_keep | exact ⟨he1.cell c1, he1.cell c2, he1.cell cj⟩)
                  ((go_at_call 15; go_fit (catHit_any cv lv cats links cl.tax z _ (CatsV.ext HCV.out (HE.out.trans (Ext.drew _))) (LinksV.ext HL.out (HE.out.trans (Ext.drew _))) HFI.out.c HFI.out.cr HFI.out.l); rintro e w1 ⟨rfl, he1⟩; rw [HH.out]))
                have he2 : Ext w w1 := (HE.out.trans (Ext.drew _)).trans he1
                clear he c1 c2 cj he1
                go_wp2
                go_roundw
                case rel => exact ⟨⟨j + 1, by go_num, by omega, HN⟩, he2⟩
                case measure => simp [intOf]; omega
              · have HN : Hid (reason fs cats links cls = sCategory) := by
                  show reason fs cats links cls = sCategory
                  unfold reason
                  rw [HDA.out, catAny_def, HT.out (HJT.out hh)]; rfl
                have HH : Hid _ := hh
                clear hh
                go_region_held3 (fun w' => w'.cell? ⟨b, off + k * 3 + 1, none⟩ = some (.int .i64 cl.tax) ∧ w'.cell? ⟨b, off + k * 3 + 2, none⟩ = some (.slice (some ⟨xb, xoff, none⟩) cl.cat.length xcap) ∧ w'.cell? ⟨xb, xoff + j, none⟩ = some (.string (B z)))
                  (first | go_keep | exact ⟨he1.cell c1, he1.cell c2, he1.cell cj⟩)
                  ((go_at_call 15; go_fit (catHit_any cv lv cats links cl.tax z _ (CatsV.ext HCV.out (HE.out.trans (Ext.drew _))) (LinksV.ext HL.out (HE.out.trans (Ext.drew _))) HFI.out.c HFI.out.cr HFI.out.l); rintro e w1 ⟨rfl, he1⟩; rw [HH.out]))
                have he2 : Ext w w1 := (HE.out.trans (Ext.drew _)).trans he1
                clear he c1 c2 cj he1
                go_wp2
                go_ret
                exact ⟨by rw [HN.out]; rfl, he2⟩
            · have HN : Hid ((cls.take (k + 1)).any (catHits cats links) = false) := by
                show (cls.take (k + 1)).any (catHits cats links) = false
                rw [HS.out, hno.out]
                show catHits cats links cl = false
                unfold catHits
                rw [← hnoj.out, List.take_of_length_le (by omega)]
              clear c1
              go_wp2
              go_roundw
              case rel => exact ⟨⟨k + 1, by go_num, by omega, HN⟩, he⟩
              case measure => simp [intOf]; omega
        · have HN : Hid (reason fs cats links cls = []) := by
            show reason fs cats links cls = []
            unfold reason
            rw [HDA.out, catAny_def, ← List.take_of_length_le (l := cls) (i := k) (by omega), hno.out]; rfl
          go_wp2
          go_ret
          exact ⟨by rw [HN.out]; rfl, he⟩
end Go.Proofs.Qxb6616329a
