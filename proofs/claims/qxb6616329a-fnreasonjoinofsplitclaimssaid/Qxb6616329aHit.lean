import Derived.Test.Qxb6616329aCat
import Derived.OwnWalk
import Derived.Maps.AppendAt
set_option linter.unusedSimpArgs false
set_option linter.unusedVariables false
namespace Go.Proofs.Qxb6616329a
open Go.RowKit

theorem info9 : (Try.prog.info? 9).map (fun i => (i.zero, i.size, i.bytes)) = some (some (.string ByteArray.empty), 1, 16) := by kernel_rfl

theorem ext_grown {w w' : World} (h : Ext w w') : w.grownBy w' none := ⟨h.os, h.tape, h.output, h.size, fun k hk _ => h.block k hk⟩
theorem grown_cell {w w' : World} {row : Option Nat} (hg : w.grownBy w' row) {b o : Nat} {v : Value} (hc : w.cell? ⟨b, o, none⟩ = some v) (hne : some b ≠ row) : w'.cell? ⟨b, o, none⟩ = some v :=
  (World.cell?_of_block (w := w) (hg.block b (cell_lt hc) hne)).trans hc
theorem grown_frozen {w w' : World} {row : Option Nat} (hg : w.grownBy w' row) {b o : Nat} (hb : b < w.heap.size) (hne : some b ≠ row) : w'.frozen? ⟨b, o, none⟩ = w.frozen? ⟨b, o, none⟩ :=
  World.frozen?_of_block (w := w) (hg.block b hb hne)
theorem ext_owns {w w' : World} {base e size n : Nat} {v : Value} {xs : List Value} (h : w.ownsRow base e size v n xs) (he : Ext w w') : w'.ownsRow base e size v n xs :=
  h.kept (ext_grown he) (by cases v.ownBlock <;> simp)

def strCells (l : List Bs) : List Value := l.map (fun x => Value.string (B x))
theorem strCells_get (l : List Bs) (k : Nat) (hk : k < l.length) : (strCells l)[k]? = some (.string (B (l.getD k []))) := by
  simp [strCells, hk, List.getD]
theorem strCells_length (l : List Bs) : (strCells l).length = l.length := by simp [strCells]

/-- the slice of the codes that were passed -/
def SeenV (w : World) (base : Nat) (v : Value) (l : List Bs) : Prop :=
  ∃ g cap, v = .slice (some ⟨g, 0, none⟩) l.length cap ∧ w.ownsRow base 9 1 (.slice (some ⟨g, 0, none⟩) l.length cap) l.length (strCells l)

theorem SeenV.ext {w w' : World} {base : Nat} {v : Value} {l : List Bs} (h : SeenV w base v l) (e : Ext w w') : SeenV w' base v l := by
  obtain ⟨g, cap, hv, h⟩ := h
  exact ⟨g, cap, hv, ext_owns h e⟩

/-- what the call holds while it walks: c's box, the codes passed -/
structure HitW (w wr : World) (cb : Nat) (tax : Int) (code : Bs) (v : Value) (seen : List Bs) : Prop where
  c0 : wr.cell? ⟨cb, 0, none⟩ = some (.int .i64 tax)
  c1 : wr.cell? ⟨cb, 1, none⟩ = some (.string (B code))
  f1 : wr.frozen? ⟨cb, 1, none⟩ = false
  s : SeenV wr (cb + 1) v seen
  e : Ext w wr

theorem HitW.ext {w wr w' : World} {cb : Nat} {tax : Int} {code : Bs} {v : Value} {seen : List Bs} (h : HitW w wr cb tax code v seen) (e : Ext wr w') : HitW w w' cb tax code v seen :=
  ⟨e.cell h.c0, e.cell h.c1, (Below.frozen e (p := ⟨cb, 1, none⟩) (cell_lt h.c1)).trans h.f1, h.s.ext e, h.e.trans e⟩

theorem seen_not (seen : List Bs) (k : Nat) (code : Bs) (hk : ¬ k < seen.length) (h : ∀ j, j < k → seen.getD j [] ≠ code) : code ∉ seen := by
  intro hm
  obtain ⟨j, hj, rfl⟩ := List.mem_iff_getElem.1 hm
  exact h j (by omega) (by simp [List.getD, hj])
theorem seen_yes (seen : List Bs) (k : Nat) (code : Bs) (hk : k < seen.length) (h : seen.getD k [] = code) : code ∈ seen := by
  subst h
  simp [List.getD, hk]

theorem catMod_seen (hs : Ct → Bool) (par : Ct → Option Bs) (n : Nat) (seen : List Bs) (c : Ct) (h : c.2 ∈ seen) : catMod hs par (n + 1) seen c = false := by
  unfold catMod; rw [if_pos h]
theorem catMod_hit (hs : Ct → Bool) (par : Ct → Option Bs) (n : Nat) (seen : List Bs) (c : Ct) (h : c.2 ∉ seen) (hh : hs c = true) : catMod hs par (n + 1) seen c = true := by
  unfold catMod; rw [if_neg h, if_pos hh]
theorem catMod_end (hs : Ct → Bool) (par : Ct → Option Bs) (n : Nat) (seen : List Bs) (c : Ct) (h : c.2 ∉ seen) (hh : hs c = false) (hp : par c = none) : catMod hs par (n + 1) seen c = false := by
  unfold catMod; rw [if_neg h, if_neg (by rw [hh]; decide), hp]
theorem catMod_next (hs : Ct → Bool) (par : Ct → Option Bs) (n : Nat) (seen : List Bs) (c : Ct) (p : Bs) (h : c.2 ∉ seen) (hh : hs c = false) (hp : par c = some p) : catMod hs par (n + 1) seen c = catMod hs par n (seen ++ [c.2]) (c.1, p) := by
  rw [catMod, if_neg h, if_neg (by rw [hh]; decide), hp]

theorem hitW_start {w w1 : World} {tax : Int} {code0 : Bs} {n : Nat} (hown : w1.ownsRow (w.heap.size + 1) 9 1 (.slice (some ⟨w.heap.size + 1, 0, none⟩) 0 n) 0 [])
    (hgrow : (w.alloc (.cells #[.int .i64 tax, .string (B code0)] 42)).grownBy w1 none) : HitW w w1 w.heap.size tax code0 (.slice (some ⟨w.heap.size + 1, 0, none⟩) 0 n) [] := by
  have e : Ext (w.alloc (.cells #[.int .i64 tax, .string (B code0)] 42)) w1 := ⟨hgrow.os, hgrow.tape, hgrow.output, hgrow.size, fun k hk => hgrow.block k hk (by simp)⟩
  refine ⟨e.cell (by simp), e.cell (by simp), ?_, ⟨_, _, rfl, hown⟩, (Ext.alloc _ _).trans e⟩
  exact (Below.frozen e (p := ⟨w.heap.size, 1, none⟩) (by simp)).trans (by simp)

theorem SeenV.owns {w : World} {base g n cap : Nat} {l : List Bs} (h : SeenV w base (.slice (some ⟨g, 0, none⟩) n cap) l) : w.ownsRow base 9 1 (.slice (some ⟨g, 0, none⟩) l.length cap) l.length (strCells l) := by
  obtain ⟨g', cap', hv, h⟩ := h
  injection hv with h1 h2 h3
  injection h1 with h1
  injection h1 with h1
  subst h1; subst h3
  exact h

theorem hitW_append {w w2 w3 : World} {cb g cap : Nat} {tax : Int} {code : Bs} {seen : List Bs} {v' : Value} {o : Obj} (hW : HitW w w2 cb tax code (.slice (some ⟨g, 0, none⟩) seen.length cap) seen)
    (hown : w3.ownsRow (cb + 1) 9 1 v' (seen.length + 1) (strCells seen ++ [.string (B code)])) (hgrow : (w2.alloc o).grownBy w3 (Value.slice (some ⟨g, 0, none⟩) seen.length cap).ownBlock)
    (hnil : ¬ v' = .slice none 0 0) (hcb : w.heap.size ≤ cb) : HitW w w3 cb tax code v' (seen ++ [code]) := by
  have hg : cb + 1 ≤ g := (hW.s.owns.lt g rfl).1
  have hlt := cell_lt hW.c1
  have hne : some cb ≠ (Value.slice (some ⟨g, 0, none⟩) seen.length cap).ownBlock := by
    show some cb ≠ some g
    intro e; injection e with e; omega
  have ea := Ext.alloc w2 o
  refine ⟨grown_cell hgrow (ea.cell hW.c0) hne, grown_cell hgrow (ea.cell hW.c1) hne, ?_, ?_, ?_⟩
  · rw [grown_frozen hgrow (cell_lt (ea.cell hW.c1)) hne]
    exact (Below.frozen ea (p := ⟨cb, 1, none⟩) hlt).trans hW.f1
  · rcases hown.2 with ⟨h1, _⟩ | ⟨g', cap', cur, h1, _⟩
    · exact absurd h1 hnil
    · subst h1
      refine ⟨g', cap', by simp, ?_⟩
      have e : strCells (seen ++ [code]) = strCells seen ++ [.string (B code)] := by simp [strCells]
      rw [e, List.length_append]
      exact hown
  · exact Below.grown (Ext.trans hW.e ea) hgrow (Ext.trans hW.e ea).size (fun k hk => by have hk' : some g = some k := hk; injection hk' with e; omega)

theorem hitW_store {w w4 : World} {cb : Nat} {tax : Int} {code p : Bs} {v : Value} {seen : List Bs} (hW : HitW w w4 cb tax code v seen) (hcb : w.heap.size ≤ cb) :
    HitW w (w4.setCell ⟨cb, 1, none⟩ (.string (B p))) cb tax p v seen := by
  refine ⟨?_, World.cell?_setCell_same _ _ _ hW.c1, ?_, ?_, Below.setCell hW.e (p := ⟨cb, 1, none⟩) hcb _⟩
  · rw [World.cell?_setCell_other _ _ _ _ (by intro h; injection h with _ h2; cases h2)]; exact hW.c0
  · rw [World.frozen?_setCell]; exact hW.f1
  · obtain ⟨g, cap, hv, h⟩ := hW.s
    exact ⟨g, cap, hv, ownsRow_setCell_below h (a := ⟨cb, 1, none⟩) (Nat.lt_succ_self _) _⟩

set_option maxHeartbeats 4000000 in
theorem catHit_any (v lv : Value) (cats : List (List Ct)) (links : List Lk) (tax : Int) (code0 : Bs) (w : World) (hv : CatsV w v cats) (hlv : LinksV w lv links) (hcl : cats.length ≤ 4096) (hrl : ∀ r ∈ cats, r.length ≤ 1048576) (hll : links.length ≤ 256) :
    Calls Try.prog 15 #[v, lv, .agg #[.int .i64 tax, .string (B code0)]] w fun e w' => e = .returned (.bool (catHit cats links (tax, code0))) ∧ Ext w w' := by
  obtain ⟨i0, hi, hz0, hz1, hz2⟩ := info_parts info9
  have HV : Hid (CatsV w v cats) := hv
  have HLV : Hid (LinksV w lv links) := hlv
  obtain ⟨la, lcap, rfl, _⟩ := hlv
  have HR : Hid (∀ r ∈ cats, r.length ≤ 1048576) := hrl
  clear hv hrl
  go_enter Try.func15, Try.ntmps15
  go_wp2_with (at_make; refine wpList_make_own _ rfl _ _ 46 rfl (w.heap.size + 1) 9 i0 (.string ByteArray.empty) 1 Try.underlying46 hi hz0 hz1 .i64 .i64 _ (links.length + 1) rfl rfl (by omega) (by rw [hz2]; omega) (by unfold maxLen; omega) (by simp) ?_; intro w1 hown hgrow)
  have hW0 : HitW w w1 w.heap.size tax code0 (.slice (some ⟨w.heap.size + 1, 0, none⟩) 0 (links.length + 1)) [] := hitW_start (by simpa using hown) hgrow
  have HN0 : Hid (catMod (inSets cats) (parentOf links) (links.length + 2 - 0) [] (tax, code0) = catHit cats links (tax, code0)) := (rfl : _ = catHit cats links (tax, code0))
  clear hown hgrow
  go_loopw [7, 8, 9, 10, 11] (fun sv st _ _ _ wr => ∃ (n : Nat) (seen : List Bs) (code : Bs), st = .int .i64 n ∧ n ≤ links.length + 2 ∧ seen.length = n ∧ HitW w wr w.heap.size tax code sv seen ∧ Hid (catMod (inSets cats) (parentOf links) (links.length + 2 - n) seen (tax, code) = catHit cats links (tax, code0))) (fun _ st _ _ _ _ => links.length + 2 - (intOf st).toNat)
  case atStart => exact ⟨0, [], code0, rfl, by omega, rfl, hW0, HN0⟩
  case round =>
    obtain ⟨n, seen, code, rfl, hn, hsl, hW, HM⟩ := hrel
    have HSL : Hid (seen.length = n) := hsl
    by_cases hlt : n < links.length + 2
    · obtain ⟨q, hq⟩ : ∃ q, links.length + 2 - n = q + 1 := ⟨links.length + 2 - n - 1, by omega⟩
      have HQ : Hid (links.length + 2 - n = q + 1) := hq
      rw [hq] at HM
      clear hq
      have hsn : seen.length ≤ 258 := by omega
      clear hsl
      obtain ⟨g, cap, rfl, hown⟩ := hW.s
      have c0 := hW.c0
      have c1 := hW.c1
      have f1 := hW.f1
      have HO : Hid (wr.ownsRow (w.heap.size + 1) 9 1 (.slice (some ⟨g, 0, none⟩) seen.length cap) seen.length (strCells seen)) := hown
      clear hown
      go_wp2
      go_loopw [9] (fun kv wq => (∃ k : Nat, kv = .int .i64 k ∧ k ≤ seen.length ∧ Hid (∀ j, j < k → seen.getD j [] ≠ code)) ∧ ∃ m, wq = wr.drewN m) (fun kv _ => seen.length - (intOf kv).toNat)
      case atStart => exact ⟨⟨0, rfl, Nat.zero_le _, (fun j hj => absurd hj (by omega) : ∀ j, j < 0 → seen.getD j [] ≠ code)⟩, 0, rfl⟩
      case round =>
        obtain ⟨⟨k, rfl, hk, hne⟩, m, rfl⟩ := hrel
        by_cases hkl : k < seen.length
        · have ck : wr.cell? ⟨g, k, none⟩ = some (.string (B (seen.getD k []))) := (HO.out.cellAt k (by omega)).trans (strCells_get seen k hkl)
          have hkI : (k : Int) < (seen.length : Int) := by omega
          by_cases hxe : seen.getD k [] = code
          · have hce : ((B (seen.getD k [])).toList == (B code).toList) = true := by rw [hxe]; simp
            have HN : Hid (catHit cats links (tax, code0) = false) := by
              show catHit cats links (tax, code0) = false
              rw [← HM.out]; exact catMod_seen _ _ _ _ _ (seen_yes seen k code hkl hxe)
            clear hxe
            generalize seen.getD k [] = y at *
            go_wp2
            go_quiet (fail)
            go_wp2
            go_ret
            exact ⟨ret_bool HN.out.symm, (hW.e.trans (Ext.drewN _ _)).trans (Ext.drewN _ _)⟩
          · have hce : ((B (seen.getD k [])).toList == (B code).toList) = false := B_ne hxe
            have HN : Hid (∀ j, j < k + 1 → seen.getD j [] ≠ code) := by
              show ∀ j, j < k + 1 → seen.getD j [] ≠ code
              intro j hj
              by_cases e : j = k
              · subst e; exact hxe
              · exact hne.out j (by omega)
            clear hxe
            have HNE := hne
            clear hne
            generalize seen.getD k [] = y at ck hce
            go_wp2
            go_quiet (fail)
            go_wp2
            go_roundw
            case rel => exact ⟨⟨k + 1, by go_num, by omega, HN⟩, _, rfl⟩
            case measure => simp [intOf]; omega
        · have HNS : Hid (code ∉ seen) := seen_not seen k code hkl hne.out
          clear hne
          have HV1 : Hid (CatsV (wr.drewN m) v cats) := CatsV.ext HV.out (hW.e.trans (Ext.drewN _ _))
          go_wp2_with fail
          refine (inSets_any v cats tax code _ HV1.out hcl HR.out).mono ?_
          rintro e w2 ⟨rfl, he2⟩
          have hW2 : HitW w w2 w.heap.size tax code (.slice (some ⟨g, 0, none⟩) seen.length cap) seen := (hW.ext (Ext.drewN _ _)).ext he2
          clear hW c0 c1 f1 HO
          cases hin : inSets cats (tax, code)
          · have HIN : Hid _ := hin
            clear hin
            have hown := hW2.s.owns
            have c1 := hW2.c1
            have hsz2 : w.heap.size + 1 ≤ w2.heap.size := by have := cell_lt hW2.c1; omega
            go_wp2_with (first
              | (at_builtin; refine wpList_append_own _ rfl _ _ 46 rfl (w.heap.size + 1) 9 i0 (.string ByteArray.empty) 1 16 Try.underlying46 hi hz0 hz1 hz2 rfl (by decide) _ _ _ rfl (hown.alloc _) ⟨w2.heap.size, 0, none⟩ 1 1 [.string (B code)] rfl rfl ?c1 ?c2 ?c3 ?c4 ?c5 ?_)
              | fail)
            case c1 => exact cell_one_new _ _ _
            case c2 => intro u hu; simp at hu; subst hu; rfl
            case c3 => unfold maxLen; omega
            case c4 => omega
            case c5 => simp; omega
            intro v' w3 hown' hgrow hnil
            have hW3 : HitW w w3 w.heap.size tax code v' (seen ++ [code]) := hitW_append hW2 hown' hgrow hnil (Nat.le_refl _)
            clear hown hown' hgrow hnil hW2 c1
            have c0 := hW3.c0
            have c1 := hW3.c1
            have f1 := hW3.f1
            have HLV3 : Hid (LinksV w3 (.slice la links.length lcap) links) := LinksV.ext HLV.out hW3.e
            go_wp2_with fail
            refine (parentOf_any (.slice la links.length lcap) links tax code _ HLV3.out hll).mono ?_
            rintro e w4 ⟨rfl, he4⟩
            have hW4 : HitW w w4 w.heap.size tax code v' (seen ++ [code]) := hW3.ext he4
            clear hW3 c0 c1 f1
            have c1 := hW4.c1
            have f1 := hW4.f1
            cases hp : parentOf links (tax, code) with
            | none =>
              have HN : Hid (catHit cats links (tax, code0) = false) := by
                show catHit cats links (tax, code0) = false
                rw [← HM.out]; exact catMod_end _ _ _ _ _ HNS.out HIN.out hp
              clear hp
              go_wp2
              go_ret
              exact ⟨ret_bool HN.out.symm, hW4.e⟩
            | some p =>
              have HN : Hid (catMod (inSets cats) (parentOf links) q (seen ++ [code]) (tax, p) = catHit cats links (tax, code0)) := by
                show catMod (inSets cats) (parentOf links) q (seen ++ [code]) (tax, p) = catHit cats links (tax, code0)
                rw [← HM.out]; exact (catMod_next _ _ _ _ _ p HNS.out HIN.out hp).symm
              clear hp
              go_wp2
              go_roundw
              case rel => exact ⟨n + 1, seen ++ [code], p, by go_num, by omega, by rw [List.length_append, HSL.out]; rfl, hitW_store hW4 (Nat.le_refl _), by rw [show links.length + 2 - (n + 1) = q from by have := HQ.out; omega]; exact HN⟩
              case measure => simp [intOf]; omega
          · have HN : Hid (catHit cats links (tax, code0) = true) := by
              show catHit cats links (tax, code0) = true
              rw [← HM.out]; exact catMod_hit _ _ _ _ _ HNS.out hin
            clear hin
            go_wp2
            go_ret
            exact ⟨ret_bool HN.out.symm, hW2.e⟩
    · have hne : links.length + 2 - n = 0 := by omega
      rw [hne] at HM
      have HN : Hid (catHit cats links (tax, code0) = false) := by show catHit cats links (tax, code0) = false; rw [← HM.out]; rfl
      clear hne hsl
      go_wp2
      go_ret
      exact ⟨ret_bool HN.out.symm, hW.e⟩
end Go.Proofs.Qxb6616329a
