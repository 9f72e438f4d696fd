import Derived.Test.Qxb6616348aDoorRows
import Derived.Test.Qxb6616348aDoorTie
import Derived.Test.Qxb6616348aDoorCards
import Derived.Test.Qxb6616348aDoorLaw3
import Derived.WalkKit
import Derived.ProofKit
import Derived.OpenShut
import Derived.ShutString
import Derived.ChangeOld
import Derived.ChangeSame
import Derived.ChangeVars
import Derived.JoinedOf
import Derived.RowKit
import Derived.LaidLaws
import Derived.LaidHandle
import Derived.Lib.LaidTab
import Derived.Stop.Joined
import Derived.Below
import Derived.SevenTiedAt
namespace Go.Proofs.Qxb6616348aDoor.fnStandInWriterMatchesModel
open Go.ChangeShapes Go.WideShapes Go.ChangeAt Go.RowKit
set_option linter.unusedVariables false
set_option linter.unusedSimpArgs false

theorem own : ownKnob Tryd.prog.godebug = none := by kernel_rfl
theorem laidOut : laidOutB Tryd.prog = true := by kernel_rfl
theorem gT : Tryd.prog.globalNamed "math/bits.deBruijn64tab" = some 2 := by kernel_rfl
theorem gTType : (Tryd.prog.globals[2]?).map (·.type) = some 78 := by kernel_rfl
theorem cells5 : Tryd.prog.cellsOf 5 = 1 := by kernel_rfl
theorem cells78 : Tryd.prog.cellsOf 78 = 64 := by kernel_rfl
def zs : List Int := tzTab.map Int.ofNat

/-- what the condition gives the walk: the table's cells -/
theorem tab_of_laid {W : World} (h : laidMetH Tryd.prog Rows.fnStandInWriterMatchesModelRow.laid W) : Tab W := by
  have h' : laidMet Tryd.prog [("math/bits.deBruijn64tab", Lib.tabData .u8 zs)] W := h
  have hT := Lib.tabIs_of_head gT gTType Tryd.underlying78 Tryd.underlying5 cells5 cells78 h'
  intro i v hv
  have hi : i < tzTab.length := (List.getElem?_eq_some_iff.1 hv).1
  have h1 := hT.cell gT i (by simpa [zs] using hi)
  rw [h1]
  have h2 : zs.getD i 0 = (v : Int) := by simp [zs, List.getD, hv]
  rw [h2]

/-- a world that meets the condition: the settled one, the table laid -/
noncomputable def laidWorld (os : Os) : World :=
  let w0 := World.holding Tryd.prog os ⟨#[], #[], []⟩
  { w0 with heap := w0.heap.modify 2 fun
      | .cells _ t frozen => .cells (zs.map fun z => Value.int .u8 z).toArray t frozen
      | o => o }
theorem laidWorld_met (os : Os) (args : Array Value) : laidMetH Tryd.prog Rows.fnStandInWriterMatchesModelRow.laid ((laidWorld os).forCall (fun _ _ => 0) ⟨#[], args, []⟩).memory :=
  laidMet_of_run' (l := [("math/bits.deBruijn64tab", Rows.laid_math_bits_deBruijn64tab)]) 8 (by kernel_rfl) (by kernel_rfl)

def IsRow (k : IntKind) (w : World) (a : Option Addr) (len cap : Nat) (zs : List Int) : Prop :=
  (a = none ∧ len = 0 ∧ cap = 0 ∧ zs = []) ∨
  ∃ x, a = some x ∧ len ≤ cap ∧ cap ≤ maxLen ∧ zs.length = cap ∧ (∀ i, i < zs.length → w.cell? (x.add i) = some (.int k (zs.getD i 0))) ∧ ∀ n ∈ zs, (Lit.int k n).wf = true

theorem u8_range {n : Int} (h : (Lit.int .u8 n).wf = true) : 0 ≤ n ∧ n < 256 := by
  have h2 : IntKind.u8.min ≤ n ∧ n ≤ IntKind.u8.max := by simpa [Lit.wf] using h
  have e1 : IntKind.u8.min = 0 := by decide
  have e2 : IntKind.u8.max = 255 := by decide
  rw [e1, e2] at h2
  omega
theorem i64_range {n : Int} (h : (Lit.int .i64 n).wf = true) : -9223372036854775808 ≤ n ∧ n ≤ 9223372036854775807 := by
  have h2 : IntKind.i64.min ≤ n ∧ n ≤ IntKind.i64.max := by simpa [Lit.wf] using h
  have e1 : IntKind.i64.min = -9223372036854775808 := by decide
  have e2 : IntKind.i64.max = 9223372036854775807 := by decide
  rw [e1, e2] at h2
  exact h2

/-- what came in, as it is read -/
theorem view_of {w : World} {a : Option Addr} {len cap : Nat} {zs : List Int} (h : IsRow .u8 w a len cap zs) : ∃ (l : Bs), l.length = len ∧ len ≤ maxLen ∧ len ≤ cap ∧ (a = none → cap = 0) ∧ At w a l := by
  rcases h with ⟨rfl, rfl, rfl, _⟩ | ⟨x, rfl, hlc, hm, hz, hcell, hwf⟩
  · exact ⟨[], rfl, Nat.zero_le _, Nat.le_refl _, fun _ => rfl, (fun h => by simp at h)⟩
  · have hlen : ((zs.take len).map (fun n => UInt8.ofNat n.toNat)).length = len := by simp; omega
    refine ⟨(zs.take len).map (fun n => UInt8.ofNat n.toNat), hlen, by omega, hlc, (fun h => by cases h), fun h0 => ?_⟩
    rw [hlen] at h0
    have c0 := hcell 0 (by omega)
    have h0' : x.add 0 = x := by simp [Addr.add]
    rw [h0'] at c0
    obtain ⟨b, off, spot⟩ := x
    have hs := World.cell?_spot c0
    simp at hs
    subst hs
    refine ⟨b, off, rfl, fun i hi => ?_⟩
    rw [hlen] at hi
    rw [← addr_add, hcell i (by omega)]
    have hi2 : i < zs.length := by omega
    have hr := u8_range (hwf zs[i] (List.getElem_mem hi2))
    have e1 : zs.getD i 0 = zs[i] := by simp [List.getD, hi2]
    have e2 : ((zs.take len).map (fun n => UInt8.ofNat n.toNat)).getD i 0 = UInt8.ofNat zs[i].toNat := by
      simp [List.getD, hi, hi2]
    have e3 : ((UInt8.ofNat zs[i].toNat).toNat : Int) = zs[i] := by
      rw [UInt8.toNat_ofNat']
      omega
    rw [e1, e2, e3]

theorem walk (a0 : Option Addr) (len0 cap0 : Nat) (z0 : List Int) (us : Bool) (keep : Int) (w : World) (w0 : IsRow .u8 w a0 len0 cap0 z0) (hT : Tab w) (hk : (Lit.int .i64 keep).wf = true) :
    Calls Tryd.prog 3 #[.slice a0 len0 cap0, .bool us, .int .i64 keep] w fun e w' => e = .returned (.bool true) ∧ Below w.heap.size w w' := by
  obtain ⟨l0, rfl, hb0, hlc, hn, h0⟩ := view_of w0
  exact law3_any w a0 cap0 l0 us keep h0 hlc hn hT (by unfold maxLen at hb0; omega) (i64_range hk).1 (i64_range hk).2

set_option maxRecDepth 100000 in
theorem lifted (os : Os) (started : os.Started) (H : Type) (enc : TypeId × Value → H) :
    ReturnsInHanded {} Tryd.checked os 3 .any (fun w args => (Rows.fnStandInWriterMatchesModelSpec.pre enc Tryd.prog Tryd.f3 Rows.fnStandInWriterMatchesModelRow.domain false w args ∧ laidMetH Tryd.prog Rows.fnStandInWriterMatchesModelRow.laid w) ∧ sizedMet enc Tryd.prog Tryd.f3 (OpenSpec.ofChange Rows.fnStandInWriterMatchesModelSpec) false w args)
      (Rows.fnStandInWriterMatchesModelSpec.post enc Tryd.prog Tryd.f3 false true false false) := by
  refine returnsInHanded_of_change_and (C := Tryd.checked) (X := fun w _ => laidMetH Tryd.prog Rows.fnStandInWriterMatchesModelRow.laid w) (fun _ _ _ hh h => h.of_heap hh) own started (by kernel_rfl) Tryd.func3
    (ChangeSpec.witness_at (enc := enc) (C := Tryd.checked) (os := os) (X := fun w _ => laidMetH Tryd.prog Rows.fnStandInWriterMatchesModelRow.laid w) false (laidWorld os) #[.slice none 0 0, .bool false, .int .i64 0] 8 rfl (by kernel_rfl) (by kernel_rfl) (by kernel_rfl) (by kernel_rfl) (by kernel_rfl) (laidWorld_met os _)) ?_
  intro W base args ds gs before hval0 hW _ _ hL _
  have hval : ∀ (j : Nat) t v, Tryd.f3.params[j]? = some t → args[j]? = some v → Value.okWide Tryd.prog W .any base t v := hval0
  have hW' := hW
  obtain ⟨p, q, hA0, hV, rfl, hfz, hnd⟩ := hW
  have hA : DataW.TrodAll enc Tryd.prog W 0 (fun _ => true) true Tryd.f3.params.toList args.toList ds p := hA0
  rw [Tryd.params3] at hA hval
  obtain ⟨v0, vs0, d0, ds0, p0, q0, hargs, rfl, rfl, h0, r0⟩ := trodAll_cons hA
  obtain ⟨v1, vs1, d1, ds1, p1, q1, rfl, rfl, rfl, h1, r1⟩ := trodAll_cons r0
  obtain ⟨v2, vs2, d2, ds2, p2, q2, rfl, rfl, rfl, h2, r2⟩ := trodAll_cons r1
  obtain ⟨rfl, rfl, rfl⟩ := trodAll_nil r2
  obtain rfl : args = #[v0, v1, v2] := by cases args; simp_all
  obtain ⟨rfl, rfl⟩ := trodVars_none hV
  obtain ⟨a0, len0, cap0, rfl⟩ := okWide_slice Tryd.underlying22 (hval 0 22 v0 rfl rfl)
  have k0 := h0
  have lt0 : ∀ x ∈ p0, x.block < W.heap.size := by obtain ⟨m, hm⟩ := k0; exact DataW.trod_lt m _ _ _ hm
  obtain ⟨z0, w0⟩ : ∃ zs, IsRow .u8 W a0 len0 cap0 zs := by
    obtain ⟨fuel, hf⟩ := h0
    rcases open_ints Tryd.underlying22 Tryd.underlying5 (by kernel_rfl) hf with ⟨hcs, _⟩ | ⟨x, l, c, zs, hcs, _, hl, hm, hz, _, hcell, hwz⟩
    · simp [Value.cells] at hcs
      obtain ⟨rfl, rfl, rfl⟩ := hcs
      exact ⟨[], .inl ⟨rfl, rfl, rfl, rfl⟩⟩
    · simp [Value.cells] at hcs
      obtain ⟨rfl, rfl, rfl⟩ := hcs
      exact ⟨zs, .inr ⟨_, rfl, hl, hm, by simpa using hz, hcell, hwz⟩⟩
  obtain ⟨b2, rfl, rfl, rfl⟩ := open_bool Tryd.underlying4 (hval 1 4 v1 rfl rfl) h1
  obtain ⟨n3, rfl, rfl, rfl, hw3⟩ := open_int Tryd.underlying3 (hval 2 3 v2 rfl rfl) h2
  clear hA0 hval0
  refine (walk a0 len0 cap0 z0 b2 n3 W w0 (tab_of_laid hL) hw3).mono fun e W' ⟨he, bel⟩ => ?_
  subst he
  exact ⟨_, rfl, _, _, _, [], _, [], hW', trodAll_mk1 (shut_bool Tryd.underlying4 _), (trodAll_cons_mk (Below.trod laidOut (by kernel_rfl) (of_decide_eq_true (by kernel_rfl)) k0 bel lt0) (trodAll_cons_mk (shut_bool Tryd.underlying4 _) (trodAll_cons_mk (shut_int Tryd.underlying3 hw3) trodAll_mk0))), rfl, bel.frame _, fun h => by cases h⟩

theorem over : Rows.FnStandInWriterMatchesModelSaid :=
  OpenClaim.holds_of_wide 3 Tryd.f3 rfl rfl rfl rfl rfl rfl rfl ⟨rfl, rfl, rfl, rfl, rfl⟩ rfl rfl rfl rfl rfl (by kernel_rfl) Tryd.func3 (by kernel_rfl)
    (of_decide_eq_true (by kernel_rfl)) (by unfold Func.isWrapper; first | (rw [if_pos (by decide +kernel)]; kernel_rfl) | (rw [if_neg (by decide +kernel)]; exact ⟨rfl, rfl⟩))
    (fun os started H enc _ => lifted os started H enc)

/-- ████ THE STATEMENT ████ -/
theorem proved : Rows.FnStandInWriterMatchesModelCardSaid :=
  Claim7.holds_tied_plain_at .later [] [.data] true (true, "7c045ef3f3c751ce568c0039e1b24d554f8bbe7e815f69994e1826e1f28b7f89") false
    over (fun _ h => by cases h) (by kernel_rfl) (fun _ h => by cases h) fnStandInWriterMatchesModel_row_tie rfl ⟨rfl, rfl⟩ (by kernel_rfl) rfl
    (fun f fn hf hfn => by
      obtain rfl : f = 3 := Option.some.inj ((show Tryd.prog.funcNamed "example.com/truedigit/truedigit/zzlaws_root_b1.FnStandInWriterMatchesModel" = some 3 by kernel_rfl).symm.trans hf) |>.symm
      obtain rfl : fn = Tryd.f3 := (Option.some.inj (Tryd.func3.symm.trans hfn)).symm
      exact ⟨by kernel_rfl, fun j t ht => by
        rw [Tryd.params3] at ht
        have h3 : t = 22 ∨ t = 3 ∨ t = 4 := by
          rcases j with _ | _ | _ | j
          · left; simpa using ht.symm
          · right; right; simpa using ht.symm
          · right; left; simpa using ht.symm
          · simp at ht
        rcases h3 with rfl | rfl | rfl
        · exact (show Tryd.prog.wantsStandIn 22 = false by kernel_rfl)
        · exact (show Tryd.prog.wantsStandIn 3 = false by kernel_rfl)
        · exact (show Tryd.prog.wantsStandIn 4 = false by kernel_rfl)⟩)
    (by kernel_rfl)
#print axioms proved
end Go.Proofs.Qxb6616348aDoor.fnStandInWriterMatchesModel
