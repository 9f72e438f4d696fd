import Derived.Test.Qxb6617128aView
import Derived.Laws.IdiomStrings
import Derived.Laws.BytesArg
set_option linter.unusedSimpArgs false
set_option linter.unusedVariables false
namespace Go.Proofs.Qxb6617128a
open Go.RowKit

theorem info5 : (Try.prog.info? 5).map (fun i => (i.zero, i.size, i.bytes)) = some (some (.int .u8 0), 1, 1) := by kernel_rfl

def cellsOf (l : Bs) : List Value := l.map (fun b => Value.int .u8 (b.toNat : Int))
/-- the first k laid, the rest zero -/
def rowTo (l : Bs) (k : Nat) : List Value := cellsOf (l.take k) ++ List.replicate (l.length - k) (.int .u8 0)

theorem rowTo_length (l : Bs) (k : Nat) (h : k ≤ l.length) : (rowTo l k).length = l.length := by
  simp [rowTo, cellsOf]; omega
theorem rowTo_zero (l : Bs) : rowTo l 0 = List.replicate l.length (.int .u8 0) := by simp [rowTo, cellsOf]
theorem rowTo_all (l : Bs) : rowTo l l.length = cellsOf l := by
  simp [rowTo, cellsOf, List.take_of_length_le]
theorem rowTo_step (l : Bs) (k : Nat) (h : k < l.length) (x : UInt8) (hx : l.getD k 0 = x) : (rowTo l k).set k (.int .u8 (x.toNat : Int)) = rowTo l (k + 1) := by
  have hx' : l[k] = x := by simpa [List.getD, h] using hx
  subst hx'
  unfold rowTo
  have hl : (cellsOf (l.take k)).length = k := by simp [cellsOf]; omega
  rw [List.set_append_right _ _ (by omega), hl, Nat.sub_self]
  rw [show l.length - k = (l.length - (k + 1)) + 1 from by omega, List.replicate_succ, List.set_cons_zero]
  unfold cellsOf
  rw [List.take_succ_eq_append_getElem h, List.map_append, List.append_assoc]
  rfl

theorem made_bytes (n : Nat) : (madeCells (Value.int .u8 0).cells (n * 1)).toList = List.replicate n (.int .u8 0) := by
  rw [Nat.mul_one]; exact toList_madeCells_one _ _

theorem getD_left (a b : Bs) (k : Nat) (h : k < a.length) : (a ++ b).getD k 0 = a.getD k 0 := by simp [List.getD, List.getElem?_append_left h]
theorem getD_right (a b : Bs) (k : Nat) : (a ++ b).getD (a.length + k) 0 = b.getD k 0 := by simp [List.getD, List.getElem?_append_right]

/-- a row that owns the bytes l is a view of l -/
theorem slV_owned (w : World) (base g n : Nat) (l : Bs) (hn : l.length = n) (h : w.ownsRow base 5 1 (.slice (some ⟨g, 0, none⟩) n n) n (cellsOf l)) : SlV w (.slice (some ⟨g, 0, none⟩) n n) l false := by
  subst hn
  refine ⟨_, _, rfl, Nat.le_refl _, rfl, fun _ => ⟨g, 0, rfl, fun i hi => ?_⟩⟩
  rw [Nat.zero_add, h.cellAt i (by omega)]
  simp [cellsOf, hi, List.getD]

/-! ### zzJoin -/
set_option maxRecDepth 100000 in
set_option maxHeartbeats 2000000 in
theorem zzJoin_any (v1 v2 : Value) (a b : Bs) (n1 n2 : Bool) (w : World) (h1 : SlV w v1 a n1) (h2 : SlV w v2 b n2) (hl : a.length ≤ 2097152) (hl2 : b.length ≤ 2097152) :
    Calls Try.prog 16 #[v1, v2] w fun e w' => ∃ v, e = .returned v ∧ SlV w' v (a ++ b) false ∧ Ext w w' := by
  obtain ⟨a1, c1, rfl, _, _, hx1⟩ := h1
  obtain ⟨a2, c2, rfl, _, _, hx2⟩ := h2
  have H1 : Hid _ := hx1
  have H2 : Hid _ := hx2
  clear hx1 hx2
  obtain ⟨i0, hi, hz0, hz1, hz2⟩ := info_parts info5
  obtain ⟨n, hn⟩ : ∃ n : Nat, n = a.length + b.length := ⟨_, rfl⟩
  have hnI : (a.length : Int) + (b.length : Int) = (n : Int) := by omega
  have HLN : Hid ((a ++ b).length = n) := by show (a ++ b).length = n; simp; omega
  have hnb : n ≤ 4194304 := by omega
  have HSUM : Hid (n = a.length + b.length) := hn
  clear hn
  go_enter Try.func16, Try.ntmps16
  go_wp2_with (at_make; refine wpList_make_full _ rfl _ _ 27 rfl w.heap.size 5 i0 (.int .u8 0) 1 Try.underlying27 hi hz0 hz1 .i64 .i64 _ _ n rfl rfl (by first | rfl | (simp; go_num)) (by first | rfl | (simp; go_num)) (by rw [hz2]; omega) (by unfold maxLen; omega) (Nat.le_refl _) ?_; intro w1 hown hgrow)
  have hb1 : Below w.heap.size w w1 := (Below.refl _ _).grown hgrow (Nat.le_refl _) (fun k hk => by cases hk)
  rw [made_bytes] at hown
  have hown0 : w1.ownsRow w.heap.size 5 1 (.slice (some ⟨w.heap.size, 0, none⟩) n n) n (rowTo (a ++ b) 0) := by rw [rowTo_zero, HLN.out]; exact hown
  clear hown hgrow
  go_wp2
  go_loopw [6] (fun i wr => ∃ k : Nat, i = .int .i64 k ∧ k ≤ a.length ∧ wr.ownsRow w.heap.size 5 1 (.slice (some ⟨w.heap.size, 0, none⟩) n n) n (rowTo (a ++ b) k) ∧ Below w.heap.size w wr) (fun i _ => a.length - (intOf i).toNat)
  case atStart => exact ⟨0, rfl, Nat.zero_le _, hown0, hb1⟩
  case round =>
    obtain ⟨k, rfl, hk, hown, hb⟩ := hrel
    by_cases hlt : (k : Int) < (a.length : Int)
    · have hc : ∃ v, wr.cell? ⟨w.heap.size, k, none⟩ = some v := by
        have := hown.cellAt k (by have := HSUM.out; omega)
        rw [List.getElem?_eq_getElem (by rw [rowTo_length _ _ (by rw [HLN.out]; have := HSUM.out; omega), HLN.out]; have := HSUM.out; omega)] at this
        exact ⟨_, this⟩
      obtain ⟨v, hc⟩ := hc
      have hf := hown.frozenAt k
      obtain ⟨b1, o1, rfl, hc1⟩ := H1.out (by omega)
      have c1 : wr.cell? ⟨b1, o1 + k, none⟩ = some (.int .u8 ((a.getD k 0).toNat : Int)) := Ext.cell hb (hc1 k (by omega))
      clear hc1
      have HE : Hid ((a ++ b).getD k 0 = a.getD k 0) := getD_left a b k (by omega)
      have hkn : (k : Int) < (n : Int) := by omega
      generalize a.getD k 0 = x at c1 HE
      go_wp2
      go_roundw
      case rel => exact ⟨k + 1, by go_num, by omega, by rw [← rowTo_step (a ++ b) k (by rw [HLN.out]; have := HSUM.out; omega) x HE.out]; exact (hown.stored k _).1, hb.setCell (Nat.le_refl _) _⟩
      case measure => simp [intOf]; omega
    · obtain rfl : k = a.length := by omega
      clear hb1 hown0
      go_wp2
      go_loopw [7] (fun i wr => ∃ k : Nat, i = .int .i64 k ∧ k ≤ b.length ∧ wr.ownsRow w.heap.size 5 1 (.slice (some ⟨w.heap.size, 0, none⟩) n n) n (rowTo (a ++ b) (a.length + k)) ∧ Below w.heap.size w wr) (fun i _ => b.length - (intOf i).toNat)
      case atStart => exact ⟨0, rfl, Nat.zero_le _, hown, hb⟩
      case round =>
        clear hb hown
        obtain ⟨k, rfl, hk2, hown, hb⟩ := hrel
        by_cases hlt2 : (k : Int) < (b.length : Int)
        · have hc : ∃ v, wr.cell? ⟨w.heap.size, a.length + k, none⟩ = some v := by
            have := hown.cellAt (a.length + k) (by have := HSUM.out; omega)
            rw [List.getElem?_eq_getElem (by rw [rowTo_length _ _ (by rw [HLN.out]; have := HSUM.out; omega), HLN.out]; have := HSUM.out; omega)] at this
            exact ⟨_, this⟩
          obtain ⟨v, hc⟩ := hc
          have hf := hown.frozenAt (a.length + k)
          obtain ⟨b2, o2, rfl, hc2⟩ := H2.out (by omega)
          have c2 : wr.cell? ⟨b2, o2 + k, none⟩ = some (.int .u8 ((b.getD k 0).toNat : Int)) := Ext.cell hb (hc2 k (by omega))
          clear hc2
          have HE : Hid ((a ++ b).getD (a.length + k) 0 = b.getD k 0) := getD_right a b k
          have hkn : (a.length : Int) + (k : Int) < (n : Int) := by omega
          generalize b.getD k 0 = x at c2 HE
          go_wp2
          go_roundw
          case rel => exact ⟨k + 1, by go_num, by omega, by rw [← Nat.add_assoc, ← rowTo_step (a ++ b) (a.length + k) (by rw [HLN.out]; have := HSUM.out; omega) x HE.out]; exact (hown.stored _ _).1, hb.setCell (Nat.le_refl _) _⟩
          case measure => simp [intOf]; omega
        · have HV : Hid (SlV wr (.slice (some ⟨w.heap.size, 0, none⟩) n n) (a ++ b) false) := by
            refine slV_owned wr w.heap.size w.heap.size n (a ++ b) HLN.out ?_
            have e : a.length + k = n := by have := HSUM.out; omega
            rw [e] at hown
            rw [← rowTo_all, HLN.out]
            exact hown
          go_wp2
          go_ret
          exact ⟨_, rfl, HV.out, hb⟩
end Go.Proofs.Qxb6617128a
