import Derived.Test.Qxb6616348aDoorAdd
import Derived.Test.Qxb6616348aDoorShelf
import Derived.Lib.MakeNoZero
import Derived.Laws.Externs
import Derived.Deep.RegionLaw
set_option linter.unusedSimpArgs false
set_option linter.unusedVariables false
namespace Go.Proofs.Qxb6616348aDoor
open Go.RowKit

theorem fname34 : (Tryd.f34.name == "runtime.NumGoroutine") = false := by kernel_rfl
theorem fbody34 : Tryd.f34.body.isNone = true := by kernel_rfl
theorem fnext34 : Extern.findNext Tryd.f34 = none := by kernel_rfl
theorem ffind34 : Extern.find Tryd.f34 = some (Extern.BytealgMakeNoZero.makeNoZero #[3] #[22]) := by kernel_rfl

theorem make34 (n : Nat) (hn : n ≤ 1000) (w : World) : ∃ cs : Array Value, (callFunc 34 #[.int .i64 (n : Int)]).run Tryd.prog w = .ok (.value (.slice (some ⟨w.heap.size, 0, none⟩) n cs.size)) (w.drew.drew.alloc (.cells cs 5)) ∧ n ≤ cs.size := by
  obtain ⟨cs, hrun, hle, _⟩ := Lib.run_makeNoZero (P := Tryd.prog) w #[3] 22 5 Tryd.underlying22 n (by omega)
  refine ⟨cs, ?_, hle⟩
  rw [run_callFunc_extern Tryd.func34 fname34 fbody34 fnext34 ffind34, hrun]
  rfl

theorem size5 : (Tryd.prog.info? 5).map (·.size) = some 1 := by kernel_rfl

/-- the row as far as it is filled -/
def Filled (w0 w : World) (n bp : Nat) : Prop := ∃ cur : List Value, w.heap[w0.heap.size]? = some (.cells cur.toArray 5 (0, 0)) ∧ n ≤ cur.length ∧ bp ≤ n ∧ 0 < bp ∧ (∀ i, i < bp → cur[i]? = some (.int .u8 48)) ∧ Below w0.heap.size w0 w
theorem splice_get (cur : List Value) (off m : Nat) (x : Value) (h : off + m ≤ cur.length) (i : Nat) (hi : i < off + m) (h0 : ∀ i, i < off → cur[i]? = some x) : (splice cur off (List.replicate m x))[i]? = some x := by
  unfold splice
  by_cases h1 : i < off
  · rw [List.getElem?_append_left (by simp; omega), List.getElem?_take, if_pos h1]
    exact h0 i h1
  · rw [List.getElem?_append_right (by simp; omega), List.getElem?_append_left (by simp; omega), List.getElem?_replicate, if_pos (by simp; omega)]
theorem splice_length (cur : List Value) (off m : Nat) (x : Value) (h : off + m ≤ cur.length) : (splice cur off (List.replicate m x)).length = cur.length := by
  unfold splice; simp; omega

set_option maxHeartbeats 4000000 in
set_option maxRecDepth 100000 in
theorem repeat_any (w : World) (g n : Nat) (h1 : 1 ≤ n) (hn : n ≤ 100) (hc : w.cell? ⟨g, 0, none⟩ = some (.int .u8 48)) :
    Calls Tryd.prog 32 #[.slice (some ⟨g, 0, none⟩) 1 1, .int .i64 n] w fun e w' => e = .returned (.slice (some ⟨w.heap.size, 0, none⟩) n n) ∧ Filled w w' n n := by
  obtain ⟨cs, hmk, hle⟩ := make34 n (by omega) w
  have hd : (1 * n / 18446744073709551616 : Nat) = 0 := by omega
  have hm : (1 * n % 18446744073709551616 : Nat) = n := by omega
  have hn0 : ((n : Int) == 0) = false := by rw [beq_eq_false_iff_ne]; omega
  have hg : g < w.heap.size := World.block_lt_of_cell? w ⟨g, 0, none⟩ hc
  have HB : Hid (Below w.heap.size w (w.drew.drew.alloc (.cells cs 5))) := ((Below.refl _ _).drew.drew).alloc (Nat.le_refl _) _
  have HH : Hid ((w.drew.drew.alloc (.cells cs 5)).heap[w.heap.size]? = some (.cells cs.toList.toArray 5 (0, 0))) := heap_alloc_new w.drew.drew _
  have HC : Hid (∀ j v, [Value.int .u8 48][j]? = some v → (w.drew.drew.alloc (.cells cs 5)).cell? ((⟨g, 0, none⟩ : Addr).add j) = some v) := by
    show ∀ j v, _
    intro j v hj
    cases j with
    | zero =>
      simp at hj
      subst hj
      rw [addr_add]
      exact (HB.out.cell (p := ⟨g, 0, none⟩) hg).trans hc
    | succ j => simp at hj
  clear hc
  go_enter Tryd.func32, Tryd.ntmps32
  go_wp2_with fail
  go_fit (Tryd.bits_Mul 1 n (by omega) (by omega) w)
  rintro e w1 ⟨rfl, rfl⟩
  rw [hd, hm]
  go_wp2_with (refine wpList_copy_splice rfl (.tmp 58) (.tmp 59) 22 22 rfl 5 Tryd.underlying22 size5 (some ⟨w1.heap.size, 0, none⟩) (some ⟨g, 0, none⟩) n n 1 1 rfl rfl w1.heap.size 0 cs.toList 5 HH.out [.int .u8 48] (by simp [Nat.min_def]; omega) (fun _ => ⟨rfl, _, rfl, HC.out⟩) (by simp; omega) (by simp; rfl) w1.heap.size w1 HB.out (Nat.le_refl _) ?_; intro w2 HG2 hB2)
  have hF : Filled w1 w2 n 1 := ⟨_, HG2.out, by have := splice_length cs.toList 0 1 (.int .u8 48) (by simp; omega); simp only [List.replicate] at this; rw [this]; simpa using hle, h1, by omega, fun i hi => splice_get cs.toList 0 1 (.int .u8 48) (by simp; omega) i (by omega) (fun i hi => absurd hi (by omega)), hB2⟩
  clear HG2 hB2 HH HC HB hmk
  have HF : Hid (Filled w1 w2 n 1) := hF
  clear hF
  go_loopw [10, 11] (fun bp _ wr => ∃ k : Nat, bp = .int .i64 k ∧ 0 < k ∧ k ≤ n ∧ Hid (Filled w1 wr n k)) (fun bp _ _ => n - (intOf bp).toNat)
  case atStart => exact ⟨1, rfl, by omega, h1, HF⟩
  case round =>
    clear HF
    obtain ⟨k, rfl, hk0, hkn, HF⟩ := hrel
    by_cases hlt : (k : Int) < (n : Int)
    · obtain ⟨cur, hh, hl, _, _, hx, hB⟩ := HF.out
      have HX : Hid (∀ i, i < k → cur[i]? = some (.int .u8 48)) := hx
      have HB : Hid (Below w1.heap.size w1 wr) := hB
      have HH : Hid (wr.heap[w1.heap.size]? = some (.cells cur.toArray 5 (0, 0))) := hh
      have hmk : (k : Int) ≤ (n : Int) := by omega
      have hkne : ¬ n = k := by omega
      have hmin : min (k : Int) (n : Int) = (k : Int) := by omega
      obtain ⟨m, hm⟩ : ∃ m : Nat, m = min k (n - k) := ⟨_, rfl⟩
      have HSRC : Hid (∀ W : World, W.heap[w1.heap.size]? = some (.cells cur.toArray 5 (0, 0)) → ∀ j v, (List.replicate m (Value.int .u8 48))[j]? = some v → W.cell? ((⟨w1.heap.size, 0, none⟩ : Addr).add j) = some v) := by
        show ∀ W : World, _
        intro W hW j v hj
        have hjm : j < m := by have := (List.getElem?_eq_some_iff.1 hj).1; simpa using this
        rw [List.getElem?_replicate, if_pos hjm] at hj
        rw [addr_add, ← hj, Nat.zero_add, cell_of_row W w1.heap.size j cur.toArray 5 (0, 0) hW]
        have := hx j (by omega)
        simpa using this
      clear hh hx hB
      have HMN : Hid ((List.replicate m (Value.int .u8 48)).length = Nat.min k (n - k) ∧ k + (List.replicate m (Value.int .u8 48)).length ≤ cur.length ∧ ∀ v ∈ List.replicate m (Value.int .u8 48), v.oneCell' = true) := by
        refine ⟨by simp [hm], by simp; omega, fun v hv => ?_⟩
        rw [List.eq_of_mem_replicate hv]
        rfl
      have hlen : (List.replicate m (Value.int .u8 48)).length = m := by simp
      have hmb : m ≤ 100 := by omega
      have HM : Hid (m = min k (n - k)) := hm
      clear hm
      go_upto_region 20 with fail
      go_region_law ((refine (step_copy_splice rfl (.tmp 70) (.tmp 73) 22 22 rfl 5 Tryd.underlying22 size5 (some ⟨w1.heap.size, k, none⟩) (some ⟨w1.heap.size, 0, none⟩) (n - k) (n - k) k n (by simp [Act.eval, Act.put]) (by simp [Act.eval, Act.put]) w1.heap.size k cur 5 HH.out (List.replicate m (.int .u8 48)) HMN.out.1 (fun _ => ⟨rfl, _, rfl, HSRC.out _ HH.out⟩) HMN.out.2.1 HMN.out.2.2 w1.heap.size w1 HB.out.drew (Nat.le_refl _) ?_)); intro w4 HG4 hB4)
      have HF4 : Hid (Filled w1 w4 n (k + m)) := by
        have h4 := HMN.out.2.1
        rw [hlen] at h4
        have hl4 := splice_length cur k m (.int .u8 48) h4
        have hm4 := HM.out
        exact ⟨_, HG4.out, by rw [hl4]; exact hl, by omega, by omega, fun i hi => splice_get cur k m (.int .u8 48) h4 i hi HX.out, hB4⟩
      have hm1 : 0 < m := by have := HM.out; omega
      have hm2 : k + m ≤ n := by have := HM.out; omega
      clear HG4 hB4 HMN HSRC HX HH HB HM
      have hwr : IntKind.i64.wrap ((k : Int) + (m : Int)) = (k : Int) + (m : Int) := by rw [IntKind.wrap_i64]; omega
      simp only [Act.put, Act.eval, goInt, hlen]
      go_simp
      try simp only [hwr]
      go_roundw
      case rel => exact ⟨.int .i64 ((k : Int) + (m : Int)), _, _, _, _, _, _, _, _, _, _, _, _, _, _, _, _, ⟨k + m, by go_num, by omega, hm2, HF4⟩, rfl⟩
      case measure => simp [intOf]; omega
    · obtain rfl : k = n := by omega
      go_wp2
      go_ret
      exact ⟨rfl, HF.out⟩
end Go.Proofs.Qxb6616348aDoor
