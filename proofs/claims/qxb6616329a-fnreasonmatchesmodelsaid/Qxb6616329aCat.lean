import Derived.Test.Qxb6616329aView
import Derived.Deep.DeepFit
import Derived.Deep.DeepCutAuto
set_option linter.unusedSimpArgs false
set_option linter.unusedVariables false
namespace Go.Proofs.Qxb6616329a
open Go.RowKit

/-- a []Cat -/
def RowV (w : World) (v : Value) (xs : List Ct) : Prop :=
  ∃ a cap, v = .slice a xs.length cap ∧ (0 < xs.length → ∃ b off, a = some ⟨b, off, none⟩ ∧ ∀ i, i < xs.length →
    w.cell? ⟨b, off + i * 2, none⟩ = some (.int .i64 (xs.getD i (0, [])).1) ∧ w.cell? ⟨b, off + i * 2 + 1, none⟩ = some (.string (B (xs.getD i (0, [])).2)))
/-- a [][]Cat -/
def CatsV (w : World) (v : Value) (xs : List (List Ct)) : Prop :=
  ∃ a cap, v = .slice a xs.length cap ∧ (0 < xs.length → ∃ b off, a = some ⟨b, off, none⟩ ∧ ∀ i, i < xs.length →
    ∃ m, w.cell? ⟨b, off + i, none⟩ = some m ∧ RowV w m (xs.getD i []))

theorem RowV.ext {w w' : World} {v : Value} {xs : List Ct} (h : RowV w v xs) (e : Ext w w') : RowV w' v xs := by
  obtain ⟨a, cap, hv, h⟩ := h
  refine ⟨a, cap, hv, fun h0 => ?_⟩
  obtain ⟨b, off, ha, hc⟩ := h h0
  exact ⟨b, off, ha, fun i hi => ⟨e.cell (hc i hi).1, e.cell (hc i hi).2⟩⟩
theorem CatsV.ext {w w' : World} {v : Value} {xs : List (List Ct)} (h : CatsV w v xs) (e : Ext w w') : CatsV w' v xs := by
  obtain ⟨a, cap, hv, h⟩ := h
  refine ⟨a, cap, hv, fun h0 => ?_⟩
  obtain ⟨b, off, ha, hc⟩ := h h0
  refine ⟨b, off, ha, fun i hi => ?_⟩
  obtain ⟨m, h1, h2⟩ := hc i hi
  exact ⟨m, e.cell h1, h2.ext e⟩

def eqs (c : Ct) (x : Ct) : Bool := x == c
theorem any_step {α : Type} (p : α → Bool) (d : α) (xs : List α) (k : Nat) (hk : k < xs.length) : (xs.take (k + 1)).any p = ((xs.take k).any p || p (xs.getD k d)) := by
  rw [List.take_succ_eq_append_getElem hk, List.any_append]
  simp [List.getD, hk]
theorem any_at {α : Type} (p : α → Bool) (d : α) (xs : List α) (k : Nat) (hk : k < xs.length) (h : p (xs.getD k d) = true) : xs.any p = true := by
  rw [List.any_eq_true]
  refine ⟨xs[k], List.getElem_mem _, ?_⟩
  simpa [List.getD, hk] using h
theorem inSets_def (cats : List (List Ct)) (c : Ct) : inSets cats c = cats.any (fun s => s.any (eqs c)) := rfl

theorem B_ne {a b : Bs} (h : ¬ a = b) : ((B a).toList == (B b).toList) = false := by
  rw [beq_eq_false_iff_ne, Lib.toList_data, Lib.toList_data, B_list, B_list]
  exact h

set_option maxHeartbeats 2000000 in
theorem inSets_any (v : Value) (cats : List (List Ct)) (tax : Int) (code : Bs) (w : World) (hv : CatsV w v cats) (hcl : cats.length ≤ 4096) (hrl : ∀ r ∈ cats, r.length ≤ 1048576) :
    Calls Try.prog 26 #[v, .agg #[.int .i64 tax, .string (B code)]] w fun e w' => e = .returned (.bool (inSets cats (tax, code))) ∧ Ext w w' := by
  rw [inSets_def]
  generalize hp : (fun s : List Ct => s.any (eqs (tax, code))) = p
  have HP : Hid _ := hp
  clear hp
  obtain ⟨a, cap, rfl, hcells⟩ := hv
  have HC : Hid _ := hcells
  have HR : Hid _ := hrl
  clear hcells hrl
  have hx0 : Ext w (w.alloc (.cells #[.int .i64 tax, .string (B code)] 42)) := Ext.alloc _ _
  go_enter Try.func26, Try.ntmps26
  go_wp2
  go_loopw [5, 6] (fun i _ wr => (∃ k : Nat, i = .int .i64 k ∧ k ≤ cats.length ∧ Hid ((cats.take k).any p = false)) ∧ ∃ m, wr = (w.alloc (.cells #[.int .i64 tax, .string (B code)] 42)).drewN m) (fun i _ _ => cats.length - (intOf i).toNat)
  case atStart => exact ⟨⟨0, rfl, Nat.zero_le _, (rfl : (cats.take 0).any p = false)⟩, 0, rfl⟩
  case round =>
    obtain ⟨⟨k, rfl, hk, hno⟩, m, rfl⟩ := hrel
    by_cases hlt : k < cats.length
    · obtain ⟨b, off, rfl, hc⟩ := HC.out (by omega)
      obtain ⟨mv, hm, hrow⟩ := hc k hlt
      have hm1 := hx0.cell hm
      have hrow1 := hrow.ext hx0
      clear hc hm hrow
      have HS := any_step p [] cats k hlt
      have HT := any_at p [] cats k hlt
      have hrz : (cats.getD k []).length ≤ 1048576 := HR.out _ (by simp [List.getD, hlt])
      generalize cats.getD k [] = row at *
      obtain ⟨ra, rcap, rfl, hrc⟩ := hrow1
      have HRC : Hid _ := hrc
      have HS' : Hid _ := HS
      have HT' : Hid _ := HT
      clear hrc HS HT
      go_wp2
      go_loopw [6] (fun i wr => (∃ j : Nat, i = .int .i64 j ∧ j ≤ row.length ∧ Hid ((row.take j).any (eqs (tax, code)) = false)) ∧ ∃ m, wr = (w.alloc (.cells #[.int .i64 tax, .string (B code)] 42)).drewN m) (fun i _ => row.length - (intOf i).toNat)
      case atStart => exact ⟨⟨0, rfl, Nat.zero_le _, (rfl : (row.take 0).any (eqs (tax, code)) = false)⟩, m, rfl⟩
      case round =>
        obtain ⟨⟨j, rfl, hj, hnoj⟩, m2, rfl⟩ := hrel
        by_cases hjl : j < row.length
        · obtain ⟨rb, roff, rfl, hrc⟩ := HRC.out (by omega)
          obtain ⟨c0, c1⟩ := hrc j hjl
          have HJ := any_step (eqs (tax, code)) (0, []) row j hjl
          have HJ2 := any_at (eqs (tax, code)) (0, []) row j hjl
          clear hrc
          generalize row.getD j (0, []) = x at *
          obtain ⟨xt, xc⟩ := x
          have HJ' : Hid _ := HJ
          have HJ2' : Hid _ := HJ2
          clear HJ HJ2
          have hjI : (j : Int) < (row.length : Int) := by omega
          have hkI : (k : Int) < (cats.length : Int) := by omega
          by_cases ht : xt = tax
          · have hte : ((xt : Int) == tax) = true := beq_iff_eq.2 ht
            by_cases hcd : xc = code
            · have hce : ((B xc).toList == (B code).toList) = true := by rw [hcd]; simp
              have HN : Hid (cats.any p = true) := HT'.out (by rw [← HP.out]; exact HJ2'.out (by simp [eqs, ht, hcd]))
              clear ht hcd
              go_wp2
              go_quiet (fail)
              go_wp2
              go_ret
              exact ⟨ret_bool HN.out.symm, Ext.trans hx0 (Ext.trans (Ext.drewN _ _) (Ext.drewN _ _))⟩
            · have hce : ((B xc).toList == (B code).toList) = false := B_ne hcd
              have HN : Hid ((row.take (j + 1)).any (eqs (tax, code)) = false) := by
                show (row.take (j + 1)).any (eqs (tax, code)) = false
                rw [HJ'.out, hnoj.out]; simp [eqs, hcd]
              clear ht hcd
              go_wp2
              go_quiet (fail)
              go_wp2
              go_roundw
              case rel => exact ⟨⟨j + 1, by go_num, by omega, HN⟩, _, rfl⟩
              case measure => simp [intOf]; omega
          · have hte : ((xt : Int) == tax) = false := beq_eq_false_iff_ne.2 ht
            go_wp2
            go_quiet (fail)
            go_wp2
            have HN : Hid ((row.take (j + 1)).any (eqs (tax, code)) = false) := by
              show (row.take (j + 1)).any (eqs (tax, code)) = false
              rw [HJ'.out, hnoj.out]; simp [eqs, ht]
            go_roundw
            case rel => exact ⟨⟨j + 1, by go_num, by omega, HN⟩, _, rfl⟩
            case measure => simp [intOf]; omega
        · have HN : Hid ((cats.take (k + 1)).any p = false) := by
            show (cats.take (k + 1)).any p = false
            rw [HS'.out, hno.out, ← HP.out, ← hnoj.out, List.take_of_length_le (by omega)]; simp
          go_wp2
          go_roundw
          case rel => exact ⟨⟨k + 1, by go_num, by omega, HN⟩, _, rfl⟩
          case measure => simp [intOf]; omega
    · have HN : Hid (cats.any p = false) := by show cats.any p = false; rw [← hno.out, List.take_of_length_le (by omega)]
      go_wp2
      go_ret
      exact ⟨ret_bool HN.out.symm, Ext.trans hx0 (Ext.drewN _ _)⟩

/-- a []ParentLink -/
def LinksV (w : World) (v : Value) (xs : List Lk) : Prop :=
  ∃ a cap, v = .slice a xs.length cap ∧ (0 < xs.length → ∃ b off, a = some ⟨b, off, none⟩ ∧ ∀ i, i < xs.length →
    w.cell? ⟨b, off + i * 3, none⟩ = some (.int .i64 (xs.getD i ⟨0, [], []⟩).tax) ∧ w.cell? ⟨b, off + i * 3 + 1, none⟩ = some (.string (B (xs.getD i ⟨0, [], []⟩).code)) ∧
    w.cell? ⟨b, off + i * 3 + 2, none⟩ = some (.string (B (xs.getD i ⟨0, [], []⟩).parent)))
theorem LinksV.ext {w w' : World} {v : Value} {xs : List Lk} (h : LinksV w v xs) (e : Ext w w') : LinksV w' v xs := by
  obtain ⟨a, cap, hv, h⟩ := h
  refine ⟨a, cap, hv, fun h0 => ?_⟩
  obtain ⟨b, off, ha, hc⟩ := h h0
  exact ⟨b, off, ha, fun i hi => ⟨e.cell (hc i hi).1, e.cell (hc i hi).2.1, e.cell (hc i hi).2.2⟩⟩

theorem parTo_step (links : List Lk) (c : Ct) (k : Nat) (hk : k < links.length) : parentOf (links.take (k + 1)) c = parTo (parentOf (links.take k) c) c (links.getD k ⟨0, [], []⟩) := by
  unfold parentOf
  rw [List.take_succ_eq_append_getElem hk, List.foldl_append]
  simp [List.getD, hk]

set_option maxHeartbeats 2000000 in
theorem parentOf_any (v : Value) (links : List Lk) (tax : Int) (code : Bs) (w : World) (hv : LinksV w v links) (hcl : links.length ≤ 256) :
    Calls Try.prog 27 #[v, .agg #[.int .i64 tax, .string (B code)]] w fun e w' =>
      e = .returned (.tuple #[.string (B ((parentOf links (tax, code)).getD [])), .bool (parentOf links (tax, code)).isSome]) ∧ Ext w w' := by
  obtain ⟨a, cap, rfl, hcells⟩ := hv
  have HC : Hid _ := hcells
  clear hcells
  have hx0 : Ext w (w.alloc (.cells #[.int .i64 tax, .string (B code)] 42)) := Ext.alloc _ _
  go_enter Try.func27, Try.ntmps27
  go_wp2
  go_loopw [6, 7, 8] (fun x ok i wr => (∃ (k : Nat) (o : Option Bs), i = .int .i64 k ∧ k ≤ links.length ∧ x = .string (B (o.getD [])) ∧ ok = .bool o.isSome ∧ Hid (parentOf (links.take k) (tax, code) = o)) ∧ ∃ m, wr = (w.alloc (.cells #[.int .i64 tax, .string (B code)] 42)).drewN m) (fun _ _ i _ => links.length - (intOf i).toNat)
  case atStart => exact ⟨⟨0, none, rfl, Nat.zero_le _, rfl, rfl, (rfl : parentOf (links.take 0) (tax, code) = none)⟩, 0, rfl⟩
  case round =>
    obtain ⟨⟨k, o, rfl, hk, rfl, rfl, hno⟩, m, rfl⟩ := hrel
    by_cases hlt : k < links.length
    · obtain ⟨b, off, rfl, hc⟩ := HC.out (by omega)
      obtain ⟨g0, g1, g2⟩ := hc k hlt
      have c0 := hx0.cell g0
      have c1 := hx0.cell g1
      have c2 := hx0.cell g2
      have HS := parTo_step links (tax, code) k hlt
      rw [hno.out] at HS
      clear hc g0 g1 g2
      generalize links.getD k ⟨0, [], []⟩ = lk at *
      obtain ⟨xt, xc, xp⟩ := lk
      have HS' : Hid (parentOf (links.take (k + 1)) (tax, code) = parTo o (tax, code) ⟨xt, xc, xp⟩) := HS
      clear HS
      have hkI : (k : Int) < (links.length : Int) := by omega
      by_cases ht : xt = tax
      · have hte : ((xt : Int) == tax) = true := beq_iff_eq.2 ht
        by_cases hcd : xc = code
        · have hce : ((B xc).toList == (B code).toList) = true := by rw [hcd]; simp
          have HN : Hid (parentOf (links.take (k + 1)) (tax, code) = some xp) := by
            show parentOf (links.take (k + 1)) (tax, code) = some xp
            rw [HS'.out]; simp [parTo, ht, hcd]
          clear ht hcd
          go_wp2
          go_quiet (fail)
          go_wp2
          go_roundw
          case rel => exact ⟨⟨k + 1, some xp, by go_num, by omega, rfl, rfl, HN⟩, _, rfl⟩
          case measure => simp [intOf]; omega
        · have hce : ((B xc).toList == (B code).toList) = false := B_ne hcd
          have HN : Hid (parentOf (links.take (k + 1)) (tax, code) = o) := by
            show parentOf (links.take (k + 1)) (tax, code) = o
            rw [HS'.out]; simp [parTo, hcd]
          clear ht hcd
          go_wp2
          go_quiet (fail)
          go_wp2
          go_roundw
          case rel => exact ⟨⟨k + 1, o, by go_num, by omega, rfl, rfl, HN⟩, _, rfl⟩
          case measure => simp [intOf]; omega
      · have hte : ((xt : Int) == tax) = false := beq_eq_false_iff_ne.2 ht
        have HN : Hid (parentOf (links.take (k + 1)) (tax, code) = o) := by
          show parentOf (links.take (k + 1)) (tax, code) = o
          rw [HS'.out]; simp [parTo, ht]
        clear ht
        go_wp2
        go_quiet (fail)
        go_wp2
        go_roundw
        case rel => exact ⟨⟨k + 1, o, by go_num, by omega, rfl, rfl, HN⟩, _, rfl⟩
        case measure => simp [intOf]; omega
    · have HN : Hid (parentOf links (tax, code) = o) := by show parentOf links (tax, code) = o; rw [← hno.out, List.take_of_length_le (by omega)]
      go_wp2
      go_ret2
      exact ⟨by rw [HN.out]; rfl, Ext.trans hx0 (Ext.drewN _ _)⟩
end Go.Proofs.Qxb6616329a
