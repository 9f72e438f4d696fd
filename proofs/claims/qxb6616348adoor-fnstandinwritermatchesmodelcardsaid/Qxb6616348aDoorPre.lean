import Derived.Test.Qxb6616348aDoorWr
import Derived.Test.Qxb6616348aDoorSameS
import Derived.ProofKit
set_option linter.unusedSimpArgs false
set_option linter.unusedVariables false
namespace Go.Proofs.Qxb6616348aDoor
open Go.RowKit

theorem SlB.rd {w : World} {B : Nat} {v : Value} {l : Bs} (h : SlB w B v l) : Rd w v l := by
  obtain ⟨a, c, hv, hc, hn | ⟨b, off, ha, _, hcell⟩⟩ := h
  · exact ⟨a, c, hv, hc, .inl hn⟩
  · exact ⟨a, c, hv, hc, .inr ⟨b, off, ha, hcell⟩⟩
theorem SlB.len {w : World} {B : Nat} {v : Value} {l : Bs} (h : SlB w B v l) : ∃ a c, v = .slice a l.length c ∧ l.length ≤ c := by
  obtain ⟨a, c, hv, hc, _⟩ := h
  exact ⟨a, c, hv, hc⟩
theorem SlB.take {w : World} {B : Nat} {a : Option Addr} {c : Nat} {l : Bs} (h : SlB w B (.slice a l.length c) l) (k : Nat) (hk : k ≤ l.length) : SlB w B (.slice a k c) (l.take k) := by
  obtain ⟨a0, c0, hv, hcl, hx⟩ := h
  injection hv with h1 h2 h3
  subst h1 h3
  refine ⟨a, c, by simp [Nat.min_eq_left hk], by simp; omega, hx.imp id fun ⟨b, off, hab, hb, hcell⟩ => ⟨b, off, hab, hb, fun i hi => ?_⟩⟩
  have hi' : i < k ∧ i < l.length := by simp at hi; omega
  rw [hcell i hi'.2]
  simp [List.getD, List.getElem?_take, hi'.1]
theorem SlB.drop {w : World} {B b off c : Nat} {l : Bs} (h : SlB w B (.slice (some ⟨b, off, none⟩) l.length c) l) (k : Nat) (hk : k ≤ l.length) (x n' c' : Nat) (hn : n' = l.length - k) (hc : c' = c - k) (hx : 0 < n' → x = off + k) : SlB w B (.slice (some ⟨b, x, none⟩) n' c') (l.drop k) := by
  subst hn hc
  obtain ⟨a0, c0, hv, hcl, hn | ⟨b', off', hab, hb, hcell⟩⟩ := h
  · injection hv with h1 _ _
    rw [hn.1] at h1
    cases h1
  · injection hv with h1 h2 h3
    rw [hab] at h1
    injection h1 with h1
    injection h1 with h1 h4 _
    subst h1 h3 h4
    refine ⟨_, c - k, by simp, by simp; omega, .inr ⟨b, x, rfl, hb, fun i hi => ?_⟩⟩
    simp at hi
    rw [hx (by omega), Nat.add_assoc, hcell (k + i) (by omega)]
    simp [List.getD]
theorem SlB.mono {w : World} {B B' : Nat} {v : Value} {l : Bs} (h : SlB w B v l) (hb : B ≤ B') : SlB w B' v l := by
  obtain ⟨a, c, hv, hc, hn | ⟨b, off, ha, h1, hcell⟩⟩ := h
  · exact ⟨a, c, hv, hc, .inl hn⟩
  · exact ⟨a, c, hv, hc, .inr ⟨b, off, ha, by omega, hcell⟩⟩

def IsB (e : Ending) : Prop := ∃ b, e = .returned (.bool b)
theorem bytes12 (a : Option Addr) (n c : Nat) (cut : Int) (us : Bool) (keep : Int) (w : World) (h1 : n ≤ 9223372036854775807) :
    Calls Tryd.prog 12 #[.slice a n c, .int .i64 cut, .bool us, .int .i64 keep] w fun e w' => IsB e ∧ w' = w := by
  by_cases g1 : (n : Int) > 1048576
  · go_enter Tryd.func12, Tryd.ntmps12
    go_wp2
    go_ret
    exact ⟨⟨_, rfl⟩, rfl⟩
  · go_enter Tryd.func12, Tryd.ntmps12
    go_wp2
    go_ret
    exact ⟨⟨_, rfl⟩, rfl⟩
theorem bytes5 (a : Option Addr) (n c : Nat) (us : Bool) (keep : Int) (w : World) (h1 : n ≤ 9223372036854775807) :
    Calls Tryd.prog 5 #[.slice a n c, .bool us, .int .i64 keep] w fun e w' => IsB e ∧ w' = w := by
  by_cases g1 : (n : Int) > 1048576
  · go_enter Tryd.func5, Tryd.ntmps5
    go_wp2
    go_ret
    exact ⟨⟨_, rfl⟩, rfl⟩
  · go_enter Tryd.func5, Tryd.ntmps5
    go_wp2
    go_ret
    exact ⟨⟨_, rfl⟩, rfl⟩
theorem neq_nil (w : World) (a : Option Addr) (n c : Nat) (nl : Bool) (h : a.isNone = nl) : (binOp .neq 22 (.slice a n c) (.slice none 0 0)).run Tryd.prog w = .ok (.bool (!nl)) w := by
  rw [← h]; exact run_neq_slice_nil_any w 22 5 a n c 0 0 Tryd.underlying22

set_option maxRecDepth 100000 in
theorem write7_any (w : World) (B pw pt : Nat) (s : St) (k0 : Nat) (v : Value) (b : Bs) (h : WrV w B pw pt s) (hG : Good s k0) (hk : k0 + b.length ≤ 1048576) (hv : SlB w B v b) (hT : Tab w) (hB2 : 2 < B) (hh : s.head.length ≤ 40) (ht : s.tlen ≤ 1048576) (hkp : (s.keep : Int) ≤ 9223372036854775807) :
    Calls Tryd.prog 7 #[.pointer (some ⟨pw, 0, none⟩), v] w fun e w' => e = .returned (.tuple #[]) ∧ WPost w B pw pt (b.foldl step (heads s b)) w' := by
  have HW : Hid (Calls Tryd.prog 14 #[.pointer (some ⟨pw, 0, none⟩), v] w fun e w' => e = .returned (.tuple #[]) ∧ WPost w B pw pt (b.foldl step (heads s b)) w') := write_in w B pw pt s (heads s b) _ k0 v b rfl rfl h hG hk hv hT hB2 hh ht hkp
  clear h hG hv hT
  go_enter Tryd.func7, Tryd.ntmps7
  go_wp2_with (go_at_call 14; refine HW.out.mono ?_; rintro e w2 ⟨rfl, hP⟩; have HP : Hid _ := hP; clear hP)
  go_end0
  exact ⟨rfl, HP.out⟩

/-! ### the text's copy -/
theorem made_bytes (n : Nat) : (madeCells (Value.int .u8 0).cells (n * 1)).toList = List.replicate n (.int .u8 0) := by
  rw [Nat.mul_one]; exact toList_madeCells_one _ _
theorem owned_heap {w : World} {base g n : Nat} {xs : List Value} (h : w.ownsRow base 5 1 (.slice (some ⟨g, 0, none⟩) n n) n xs) : w.heap[g]? = some (.cells xs.toArray 5 (0, 0)) := by
  obtain ⟨hl, ⟨h, _⟩ | ⟨g', cap, cur, he, hb, hh, _, _, hs, ht⟩⟩ := h
  · cases h
  · cases he
    rw [hh, ← ht, List.take_of_length_le (by simp; omega)]
theorem slb_row {w : World} {g : Nat} {l : Bs} (n : Nat) (hn : n = l.length) (h : w.heap[g]? = some (.cells (splice (List.replicate n (.int .u8 0)) 0 (cellsOf l)).toArray 5 (0, 0))) : SlB w w.heap.size (.slice (some ⟨g, 0, none⟩) n n) l := by
  subst hn
  refine ⟨_, _, rfl, Nat.le_refl _, .inr ⟨g, 0, rfl, (Array.getElem?_eq_some_iff.1 h).1, fun i hi => ?_⟩⟩
  simp [World.cell?, h, splice, cellsOf, hi, List.getD]
def MadeCopied (l0 : Bs) (a0 : Option Addr) (w' w1 : World) : Prop :=
  w1.heap[w'.heap.size]? = some (.cells (List.replicate l0.length (Value.int .u8 0)).toArray 5 (0, 0)) ∧ Below w'.heap.size w' w1 ∧
  (cellsOf l0).length = Nat.min l0.length l0.length ∧ (0 < (cellsOf l0).length → some (⟨w'.heap.size, 0, none⟩ : Addr) = some ⟨w'.heap.size, 0, none⟩ ∧ ∃ ad, a0 = some ad ∧ ∀ j v, (cellsOf l0)[j]? = some v → w1.cell? (ad.add j) = some v) ∧ 0 + (cellsOf l0).length ≤ (List.replicate l0.length (Value.int .u8 0)).length ∧ ∀ v ∈ cellsOf l0, v.oneCell' = true
/-- the bytes of a slice that came in, at a₀ -/
def At (w : World) (a0 : Option Addr) (l : Bs) : Prop := 0 < l.length → ∃ b off, a0 = some ⟨b, off, none⟩ ∧ ∀ i, i < l.length → w.cell? ⟨b, off + i, none⟩ = some (.int .u8 ((l.getD i 0).toNat : Int))
theorem made_copied (l0 : Bs) (a0 : Option Addr) (w' w1 : World) (hx : At w' a0 l0)
    (hown : w1.ownsRow w'.heap.size 5 1 (.slice (some ⟨w'.heap.size, 0, none⟩) l0.length l0.length) l0.length (madeCells (Value.int .u8 0).cells (l0.length * 1)).toList) (hgrow : w'.grownBy w1 none) : MadeCopied l0 a0 w' w1 := by
  have hb1 : Below w'.heap.size w' w1 := (Below.refl _ _).grown hgrow (Nat.le_refl _) (fun k hk => by cases hk)
  rw [made_bytes] at hown
  refine ⟨owned_heap hown, hb1, by simp [cellsOf], fun h0 => ⟨rfl, ?_⟩, by simp [cellsOf], cells_one l0⟩
  have hl0 : 0 < l0.length := by simpa [cellsOf] using h0
  obtain ⟨b, off, ha, hcell⟩ := hx hl0
  refine ⟨_, ha, fun j v hj => ?_⟩
  have hjl : j < l0.length := by
    have := (List.getElem?_eq_some_iff.1 hj).1
    simpa [cellsOf] using this
  have hc := hcell j hjl
  rw [addr_add, hb1.cell (p := ⟨b, off + j, none⟩) (World.block_lt_of_cell? w' _ hc), hc, ← hj]
  simp [cellsOf, List.getD, hjl]
end Go.Proofs.Qxb6616348aDoor
