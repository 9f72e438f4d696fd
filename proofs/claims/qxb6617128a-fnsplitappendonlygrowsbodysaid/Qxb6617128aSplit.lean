import Derived.Test.Qxb6617128aView
import Derived.Test.Qxb6617128aShelf
import Derived.Lib.SlBytesConst
set_option linter.unusedSimpArgs false
set_option linter.unusedVariables false
namespace Go.Proofs.Qxb6617128a
open Go.RowKit

/-- the numbers of bytes -/
def ints (l : Bs) : List Int := l.map (fun b => (b.toNat : Int))
theorem ints_length (l : Bs) : (ints l).length = l.length := by simp [ints]
theorem ints_range (l : Bs) : ∀ x ∈ ints l, 0 ≤ x ∧ x < 256 := by
  intro x hx
  simp [ints] at hx
  obtain ⟨b, _, rfl⟩ := hx
  have := b.toNat_lt
  omega
theorem bytesOf_ints (l : Bs) : Lib.bytesOf (ints l) = l := by
  simp only [Lib.bytesOf, ints, List.map_map]
  conv => rhs; rw [← List.map_id l]
  apply List.map_congr_left
  intro b _
  simp
theorem ints_getD (l : Bs) (i : Nat) (h : i < l.length) : (ints l).getD i 0 = ((l.getD i 0).toNat : Int) := by
  simp [ints, List.getD, h]
theorem addr_add (g off j : Nat) : (⟨g, off, none⟩ : Addr).add j = ⟨g, off + j, none⟩ := by unfold Addr.add; split <;> simp_all

/-- what split gives back -/
def SplitPost (w : World) (l : Bs) (nl : Bool) (o : Option Nat) (hv bv : Value) : Prop :=
  match o with
  | none => SlV w hv l nl ∧ SlV w bv [] true
  | some 0 => SlV w hv [] true ∧ SlV w bv (l.drop 2) false
  | some (e + 1) => SlV w hv (l.take (e + 1)) false ∧ SlV w bv (l.drop (e + 3)) false

theorem lit_cell (w : World) (l : Bs) (i : Nat) (h : i < l.length) (q : Nat × Nat) :
    (w.alloc (.cells (l.map (fun b => Value.int .u8 (b.toNat : Int))).toArray 5 q)).cell? ⟨w.heap.size, i, none⟩ = some (.int .u8 ((l.getD i 0).toNat : Int)) := by
  obtain ⟨x, y⟩ := q
  rw [World.cell?_alloc_mark]
  simp [List.getD, h]

theorem hasPrefix_any (a : Option Addr) (c : Nat) (l : Bs) (w : World) (hlc : l.length ≤ c) (hx : Hid (0 < l.length → ∃ b off, a = some ⟨b, off, none⟩ ∧ ∀ i, i < l.length → w.cell? ⟨b, off + i, none⟩ = some (.int .u8 ((l.getD i 0).toNat : Int)))) :
    Calls Try.prog 23 #[.slice a l.length c, .slice (some ⟨w.heap.size, 0, none⟩) 2 2] (w.alloc (.cells #[.int .u8 13, .int .u8 10] 5 (2, 3))) fun e w' => e = .returned (.bool (Lib.hasPrefix l [13, 10])) ∧ w' = w.alloc (.cells #[.int .u8 13, .int .u8 10] 5 (2, 3)) := by
  have := Try.bytes_HasPrefix_all a (some ⟨w.heap.size, 0, none⟩) l.length c 2 2 (ints l) (ints [13, 10]) (w.alloc (.cells #[.int .u8 13, .int .u8 10] 5 (2, 3))) (ints_length l) rfl hlc
    (fun h0 => by
      obtain ⟨b, off, ha, hc⟩ := hx.out h0
      refine ⟨b, off, ha, fun i hi => ?_⟩
      rw [ints_getD l i hi]
      exact (Ext.alloc w _).cell (hc i hi))
    (fun _ => ⟨_, _, rfl, fun i hi => by
      rw [Nat.zero_add, ints_getD [13, 10] i hi]
      exact lit_cell w [13, 10] i hi (2, 3)⟩)
  rw [bytesOf_ints, bytesOf_ints] at this
  exact this

theorem index_any (a : Addr) (c : Nat) (l : Bs) (w0 w : World) (m : Int) (hlc : l.length ≤ c) (hl : l.length ≤ 2097152)
    (hx : ∀ i, i < l.length → w.cell? (a.add i) = some (.int .u8 ((l.getD i 0).toNat : Int))) (hm : w.cell? ⟨0, 0, none⟩ = some (.int .i64 m)) :
    Calls Try.prog 24 #[.slice (some a) l.length c, .slice (some ⟨w.heap.size, 0, none⟩) 4 4] (w.alloc (.cells #[.int .u8 13, .int .u8 10, .int .u8 13, .int .u8 10] 5 (4, 5))) fun e w' => e = .returned (.int .i64 (Lib.index l [13, 10, 13, 10])) ∧ ∃ q, w' = (w.alloc (.cells #[.int .u8 13, .int .u8 10, .int .u8 13, .int .u8 10] 5 (4, 5))).drewN q := by
  have := Try.bytes_Index_at a ⟨w.heap.size, 0, none⟩ l.length c 4 4 (ints l) (ints [13, 10, 13, 10]) m (w.alloc (.cells #[.int .u8 13, .int .u8 10, .int .u8 13, .int .u8 10] 5 (4, 5))) (ints_length l) rfl (ints_range l) (ints_range _)
    (fun i hi => by
      rw [ints_getD l i hi]
      exact Lib.cell?_alloc_marked _ (hx i hi))
    (fun i hi => by
      rw [addr_add, Nat.zero_add, ints_getD [13, 10, 13, 10] i hi]
      exact lit_cell w [13, 10, 13, 10] i hi (4, 5))
    hlc (by omega) (by omega) (Lib.cell?_alloc_marked _ hm)
  rw [bytesOf_ints, bytesOf_ints] at this
  exact this

/-- bytes.Index at the mark of the empty line, any slice -/
theorem index_all (a : Option Addr) (c : Nat) (l : Bs) (w w1 : World) (m : Int) (hlc : l.length ≤ c) (hl : l.length ≤ 2097152) (he : Ext w w1)
    (hx : Hid (0 < l.length → ∃ b off, a = some ⟨b, off, none⟩ ∧ ∀ i, i < l.length → w.cell? ⟨b, off + i, none⟩ = some (.int .u8 ((l.getD i 0).toNat : Int)))) (hm : w.cell? ⟨0, 0, none⟩ = some (.int .i64 m)) :
    Calls Try.prog 24 #[.slice a l.length c, .slice (some ⟨w1.heap.size, 0, none⟩) 4 4] (w1.alloc (.cells #[.int .u8 13, .int .u8 10, .int .u8 13, .int .u8 10] 5 (4, 5))) fun e w' => e = .returned (.int .i64 (Lib.index l [13, 10, 13, 10])) ∧ Ext w w' := by
  have hE := he.trans (Ext.alloc w1 (.cells #[.int .u8 13, .int .u8 10, .int .u8 13, .int .u8 10] 5 (4, 5)))
  by_cases h4 : l.length < 4
  · refine (Any.bytes_Index_longer Try.lays185 a (some ⟨w1.heap.size, 0, none⟩) l.length c 4 4 _ (by omega) h4 (by omega)).mono fun e w' h => ?_
    rcases index_spec l with ⟨h1, _⟩ | ⟨i, _, h2, _⟩
    · rw [h1]
      exact ⟨h.1, by first | (rw [h.2]; exact hE) | (obtain ⟨q, hq⟩ := h.2; rw [hq]; exact hE.trans (Ext.drewN _ _))⟩
    · have := crlf_lt h2.2
      omega
  · obtain ⟨b, off, rfl, hc⟩ := hx.out (by omega)
    refine (index_any ⟨b, off, none⟩ c l w1 w1 m hlc hl (fun i hi => by rw [addr_add]; exact he.cell (hc i hi)) (he.cell hm)).mono fun e w' h => ?_
    obtain ⟨h1, q, rfl⟩ := h
    exact ⟨h1, hE.trans (Ext.drewN _ _)⟩

theorem hasPrefix_crlf {l : Bs} {b : Bool} (h : Lib.hasPrefix l [13, 10] = b) : b = true ↔ crlf l 0 := by
  subst h
  exact prefix_crlf l

theorem slV_drop {w : World} {b off c : Nat} {l : Bs} (hc : ∀ i, i < l.length → w.cell? ⟨b, off + i, none⟩ = some (.int .u8 ((l.getD i 0).toNat : Int))) (hlc : l.length ≤ c) (k : Nat) (hk : k ≤ l.length) (x n q : Nat) (hn : n = l.length - k) (hq : q = c - k) (hx : 0 < n → x = off + k) : SlV w (.slice (some ⟨b, x, none⟩) n q) (l.drop k) false := by
  subst hn hq
  refine ⟨_, c - k, by simp, by simp; omega, rfl, fun h0 => ⟨b, x, rfl, fun i hi => ?_⟩⟩
  simp at h0 hi
  rw [hx (by omega), Nat.add_assoc, hc (k + i) (by omega)]
  simp [List.getD]
theorem slV_take {w : World} {b off c : Nat} {l : Bs} (hc : ∀ i, i < l.length → w.cell? ⟨b, off + i, none⟩ = some (.int .u8 ((l.getD i 0).toNat : Int))) (hlc : l.length ≤ c) (k : Nat) (hk : k ≤ l.length) : SlV w (.slice (some ⟨b, off, none⟩) k c) (l.take k) false := by
  refine ⟨_, c, by simp [Nat.min_eq_left hk], by simp; omega, rfl, fun h0 => ⟨b, off, rfl, fun i hi => ?_⟩⟩
  have hi' : i < k ∧ i < l.length := by simp at hi; omega
  rw [hc i hi'.2]
  simp [List.getD, List.getElem?_take, hi'.1]

set_option maxHeartbeats 2000000 in
theorem split_any (v : Value) (l : Bs) (nl : Bool) (o : Option Nat) (m : Int) (w : World) (h : SlV w v l nl) (hl : l.length ≤ 2097152) (ho : IsFel l o) (hm : w.cell? ⟨0, 0, none⟩ = some (.int .i64 m)) :
    Calls Try.prog 20 #[v] w fun e w' => ∃ hv bv, e = .returned (.tuple #[hv, bv]) ∧ SplitPost w' l nl o hv bv ∧ Ext w w' := by
  have HV : Hid (SlV w v l nl) := h
  obtain ⟨a, c, rfl, hlc, hnl, hx⟩ := h
  have H : Hid _ := hx
  have HO : Hid (IsFel l o) := ho
  have HM : Hid (w.cell? ⟨0, 0, none⟩ = some (.int .i64 m)) := hm
  clear hx ho hm
  have kc := fun (w : World) (C : Array Value) (n c : Nat) => Lib.run_convert_bytes_const (P := Try.prog) w 27 5 C n c Try.underlying27 Try.underlying5
  go_enter Try.func20, Try.ntmps20
  go_wp2_with fail
  go_fit (hasPrefix_any a c l w hlc H)
  rintro e w1 ⟨rfl, rfl⟩
  have HE1 : Hid (Ext w (w.alloc (.cells #[.int .u8 13, .int .u8 10] 5 (2, 3)))) := Ext.alloc w _
  cases hp : Lib.hasPrefix l [13, 10]
  · have HN0 : Hid (¬ crlf l 0) := fun h => by have := (hasPrefix_crlf hp).2 h; cases this
    clear hp
    generalize w.alloc (.cells #[.int .u8 13, .int .u8 10] 5 (2, 3)) = w1 at HE1 ⊢
    go_wp2_with fail
    go_fit (index_all a c l w w1 m hlc hl HE1.out H HM.out)
    rintro e w2 ⟨rfl, hE2⟩
    have HE2 : Hid (Ext w w2) := hE2
    clear hE2 HE1
    rcases index_spec l with ⟨hi, hno⟩ | ⟨i, hi, hoc, hmn⟩
    · rw [hi]
      have HF : Hid (o = none) := isFel_unique HO.out (fel_none HN0.out hno)
      clear hi hno
      go_wp2
      go_ret2
      refine ⟨_, _, rfl, ?_, HE2.out⟩
      rw [HF.out]
      exact ⟨HV.out.ext HE2.out, slV_nil _⟩
    · rw [hi]
      have HF : Hid (o = some (i + 2)) := isFel_unique HO.out (fel_some HN0.out hoc hmn)
      have hb := crlf_lt hoc.2
      clear hi hmn hoc
      obtain ⟨b, off, rfl, hc⟩ := H.out (by omega)
      have HC : Hid _ := hc
      clear hc
      go_wp2
      go_quiet (fail)
      go_wp2
      · subst h
        go_ret2
        refine ⟨_, _, rfl, ?_, HE2.out.trans (Ext.drewN _ _)⟩
        rw [HF.out]
        exact ⟨slV_take (fun j hj => (HE2.out.trans (Ext.drewN _ _)).cell (HC.out j hj)) hlc (i + 2) (by omega), slV_drop (fun j hj => (HE2.out.trans (Ext.drewN _ _)).cell (HC.out j hj)) hlc (i + 4) (by omega) _ _ _ rfl (by omega) (by omega)⟩
      · go_ret2
        refine ⟨_, _, rfl, ?_, HE2.out.trans (Ext.drewN _ _)⟩
        rw [HF.out]
        exact ⟨slV_take (fun j hj => (HE2.out.trans (Ext.drewN _ _)).cell (HC.out j hj)) hlc (i + 2) (by omega), slV_drop (fun j hj => (HE2.out.trans (Ext.drewN _ _)).cell (HC.out j hj)) hlc (i + 4) (by omega) _ _ _ rfl (by omega) (by omega)⟩
  · have hcr := (hasPrefix_crlf hp).1 rfl
    have HF : Hid (o = some 0) := isFel_unique HO.out (fel_zero hcr)
    have hl2 := crlf_lt hcr
    clear hp hcr
    obtain ⟨b, off, rfl, hc⟩ := H.out (by omega)
    have HC : Hid _ := hc
    clear hc
    go_wp2
    go_quiet (fail)
    go_wp2
    · subst h
      go_ret2
      refine ⟨_, _, rfl, ?_, HE1.out.trans (Ext.drewN _ _)⟩
      rw [HF.out]
      exact ⟨slV_nil _, slV_drop (fun j hj => (HE1.out.trans (Ext.drewN _ _)).cell (HC.out j hj)) hlc 2 (by omega) _ _ _ rfl (by omega) (by omega)⟩
    · go_ret2
      refine ⟨_, _, rfl, ?_, HE1.out.trans (Ext.drewN _ _)⟩
      rw [HF.out]
      exact ⟨slV_nil _, slV_drop (fun j hj => (HE1.out.trans (Ext.drewN _ _)).cell (HC.out j hj)) hlc 2 (by omega) _ _ _ rfl (by omega) (by omega)⟩
end Go.Proofs.Qxb6617128a
