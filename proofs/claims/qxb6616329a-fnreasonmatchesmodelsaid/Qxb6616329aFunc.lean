import Derived.Test.Qxb6616329aDomB
import Derived.Deep.DeepFit
set_option linter.unusedSimpArgs false
set_option linter.unusedVariables false
namespace Go.Proofs.Qxb6616329a
open Go.RowKit

/-- the method value b.domainBlocked -/
def fnDom (bb : Nat) : Value := .func (.func 18) #[.pointer (some ⟨bb, 0, none⟩)] #[]

theorem getD_mem (xs : List Bs) (k : Nat) (hk : k < xs.length) : xs.getD k [] ∈ xs := by
  simp [List.getD, hk]
theorem anyD_step (p : Bs → Bool) (xs : List Bs) (k : Nat) (hk : k < xs.length) : (xs.take (k + 1)).any p = ((xs.take k).any p || p (xs.getD k [])) := by
  rw [List.take_succ_eq_append_getElem hk, List.any_append]
  simp [List.getD, hk]
theorem anyD_hit (p : Bs → Bool) (xs : List Bs) (k : Nat) (hk : k < xs.length) (h : p (xs.getD k []) = true) : xs.any p = true := by
  rw [List.any_eq_true]
  refine ⟨xs[k], List.getElem_mem _, ?_⟩
  simpa [List.getD, hk] using h

set_option maxHeartbeats 2000000 in
theorem IndexFunc_dom (v x : Value) (bb : Nat) (fs : List (Bs → Bool)) (ns : List Nat) (xs : List Bs) (w : World) (hf : w.cell? ⟨bb, 0, none⟩ = some v) (hv : DomsV w v fs ns) (hx : StrsV w x xs)
    (hd : ∀ l ∈ xs, l.length ≤ 1048576) (hxl : xs.length ≤ 1048576) (hfs : fs.length ≤ 4096) :
    Calls Try.prog 28 #[x, .func (.func 18) #[.pointer (some ⟨bb, 0, none⟩)] #[]] w fun e w' => (∃ i : Int, e = .returned (.int .i64 i) ∧ decide (0 ≤ i) = xs.any (domBlk fs)) ∧ Ext w w' := by
  obtain ⟨a, cap, rfl, hcells⟩ := hx
  have HC : Hid _ := hcells
  have HF : Hid _ := hf
  have HV : Hid (DomsV w v fs ns) := hv
  have HD : Hid _ := hd
  clear hcells hf hv hd
  go_enter Try.func28, Try.ntmps28
  go_wp2
  go_loopw [8, 5] (fun i _ wr => (∃ k : Nat, i = .int .i64 k ∧ k ≤ xs.length ∧ Hid ((xs.take k).any (domBlk fs) = false)) ∧ Ext w wr) (fun i _ _ => xs.length - (intOf i).toNat)
  case atStart => exact ⟨⟨0, rfl, Nat.zero_le _, (rfl : (xs.take 0).any (domBlk fs) = false)⟩, Ext.refl _⟩
  case round =>
    obtain ⟨⟨k, rfl, hk, hno⟩, he⟩ := hrel
    by_cases hlt : k < xs.length
    · obtain ⟨b, off, rfl, hc⟩ := HC.out (by omega)
      have hck := he.cell (hc k hlt)
      clear hc
      have hf1 := he.cell HF.out
      have HV1 : Hid (DomsV wr v fs ns) := DomsV.ext HV.out he
      have hdk : (B (xs.getD k [])).size ≤ 1048576 := by
        rw [B_size]; exact HD.out _ (getD_mem xs k hlt)
      have HS : Hid ((xs.take (k + 1)).any (domBlk fs) = ((xs.take k).any (domBlk fs) || domBlk fs (xs.getD k []))) := anyD_step (domBlk fs) xs k hlt
      have HT : Hid (domBlk fs (xs.getD k []) = true → xs.any (domBlk fs) = true) := anyD_hit (domBlk fs) xs k hlt
      generalize xs.getD k [] = y at *
      cases hh : domBlk fs y
      · have HN : Hid ((xs.take (k + 1)).any (domBlk fs) = false) := by show (xs.take (k + 1)).any (domBlk fs) = false; rw [HS.out, hno.out, hh]; rfl
        have HH : Hid (domBlk fs (B y).data.toList = false) := hh
        clear hh
        go_wp2_with fail
        go_fit (domainBlocked_any v bb fs ns _ _ hf1 HV1.out hdk hfs)
        rintro e w1 ⟨rfl, he1⟩
        rw [HH.out]
        go_wp2
        go_roundw
        case rel => exact ⟨⟨k + 1, by go_num, by omega, HN⟩, Ext.trans he he1⟩
        case measure => simp [intOf]; omega
      · have HN : Hid (xs.any (domBlk fs) = true) := HT.out hh
        have HH : Hid (domBlk fs (B y).data.toList = true) := hh
        clear hh
        go_wp2_with fail
        go_fit (domainBlocked_any v bb fs ns _ _ hf1 HV1.out hdk hfs)
        rintro e w1 ⟨rfl, he1⟩
        rw [HH.out]
        go_wp2
        go_ret
        exact ⟨⟨(k : Int), rfl, by rw [HN.out]; simp⟩, Ext.trans he he1⟩
    · have HN : Hid (xs.any (domBlk fs) = false) := by show xs.any (domBlk fs) = false; rw [← hno.out, List.take_of_length_le (by omega)]
      go_wp2
      go_ret
      exact ⟨⟨-1, rfl, by rw [HN.out]; rfl⟩, he⟩

theorem ContainsFunc_dom (v x : Value) (bb : Nat) (fs : List (Bs → Bool)) (ns : List Nat) (xs : List Bs) (w : World) (hf : w.cell? ⟨bb, 0, none⟩ = some v) (hv : DomsV w v fs ns) (hx : StrsV w x xs)
    (hd : ∀ l ∈ xs, l.length ≤ 1048576) (hxl : xs.length ≤ 1048576) (hfs : fs.length ≤ 4096) :
    Calls Try.prog 17 #[x, .func (.func 18) #[.pointer (some ⟨bb, 0, none⟩)] #[]] w fun e w' => e = .returned (.bool (xs.any (domBlk fs))) ∧ Ext w w' := by
  go_enter Try.func17, Try.ntmps17
  go_wp2_with fail
  refine (IndexFunc_dom v x bb fs ns xs _ hf hv hx hd hxl hfs).mono ?_
  rintro e w1 ⟨⟨i, rfl, hi⟩, he⟩
  have HI : Hid _ := hi
  clear hi
  go_wp2
  go_ret
  exact ⟨ret_bool HI.out, he⟩
end Go.Proofs.Qxb6616329a
