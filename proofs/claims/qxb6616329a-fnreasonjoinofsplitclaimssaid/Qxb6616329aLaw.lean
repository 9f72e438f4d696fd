import Derived.Test.Qxb6616329aReason
import Derived.Test.Qxb6616329aBuild
set_option linter.unusedSimpArgs false
set_option linter.unusedVariables false
namespace Go.Proofs.Qxb6616329a
open Go.RowKit

/-- the impl's reason is the model's -/
theorem reasonB_eq (fs : List (Bs → Bool)) (cats : List (List Ct)) (links : List Lk) (np : Nat) (cls : List Cl) (h : ∃ ks : List Ct, ks.length ≤ np ∧ ∀ x, (parentOf links x).isSome = true → x ∈ ks) :
    reasonB fs cats (parentOf links) np cls = reason fs cats links cls := by
  obtain ⟨ks, hk, hx⟩ := h
  have e1 : adomBlk fs = adomHit fs := by
    funext c
    unfold adomBlk adomHit
    congr 1
    funext d
    exact domBlk_eq fs d
  have e2 : catBlks cats (parentOf links) np = catHits cats links := by
    funext c
    unfold catBlks catHits
    congr 1
    funext x
    exact (catMod_eq_catBlk (inSets cats) (parentOf links) (links.map (fun l => (l.tax, l.code))) ks (parentOf_keys links) hx (links.length + 2) (np + 1) (by simp) (by omega) (c.tax, x)).symm
  unfold reasonB reason
  rw [e1, e2]
  rfl

/-- the arguments, as they are read -/
structure ArgsW (w : World) (dv cv lv av : Value) (fs : List (Bs → Bool)) (ns : List Nat) (cats : List (List Ct)) (links : List Lk) (cls : List Cl) : Prop where
  d : DomsV w dv fs ns
  c : CatsV w cv cats
  l : LinksV w lv links
  a : ClaimsV w av cls
  cw : ∀ r ∈ cats, ∀ c ∈ r, WfCt c
  lw : ∀ l ∈ links, WfCt (l.tax, l.code) ∧ l.parent.length ≤ maxLen
  aw : ∀ c ∈ cls, ∀ x ∈ c.cat, WfCt (c.tax, x)

set_option maxHeartbeats 4000000 in
theorem law3 (s1 s2 : ByteArray) (dv cv lv av : Value) (fs : List (Bs → Bool)) (ns : List Nat) (cats : List (List Ct)) (links : List Lk) (cls : List Cl) (w : World) (h : ArgsW w dv cv lv av fs ns cats links cls) :
    Calls Try.prog 3 #[.string s1, .string s2, dv, cv, lv, av] w fun e w' => e = .returned (.bool true) ∧ Ext w w' := by
  have H : Hid (ArgsW w dv cv lv av fs ns cats links cls) := h
  clear h
  go_enter Try.func3, Try.ntmps3
  go_wp2_with fail
  go_fit (reasonFits_any s1 s2 dv cv lv av fs ns cats links cls _ H.out.d H.out.c H.out.l H.out.a)
  rintro e w' ⟨⟨b, rfl, hb⟩, rfl⟩
  cases b
  · go_wp2
    go_ret
    exact ⟨rfl, Ext.refl _⟩
  · have HF : Hid (Fits fs cats links cls) := hb rfl
    clear hb
    go_wp2_with fail
    go_fit (reasonModel_any dv cv lv av fs ns cats links cls _ H.out.d H.out.c H.out.l H.out.a HF.out)
    rintro e w1 ⟨rfl, he1⟩
    go_wp2_with fail
    go_fit (buildBlocks_any dv cv lv fs ns cats links _ (H.out.d.ext he1) (H.out.c.ext he1) (H.out.l.ext he1) HF.out.c HF.out.cr HF.out.l H.out.cw H.out.lw)
    rintro e w2 ⟨⟨bb, cv', pm, np, rfl, hnp, hB⟩, he2⟩
    have HB : Hid (BlocksW w2 bb fs cats (parentOf links) dv cv' pm np) := hB
    clear hB
    go_wp2_with fail
    go_fit (toClaims_any av cls _ (H.out.a.ext (he1.trans he2)) HF.out.n HF.out.cl)
    rintro e w3 ⟨⟨av', rfl, hA, _⟩, he3⟩
    have HA : Hid (ClaimsV w3 av' cls) := hA
    clear hA
    go_wp2_with fail
    go_fit (Reason_any bb fs cats (parentOf links) dv cv' pm np s1 s2 av' cls _ (HB.out.ext he3) HA.out HF.out.d HF.out.c hnp HF.out.n HF.out.cl H.out.aw)
    rintro e w4 ⟨rfl, he4⟩
    rw [reasonB_eq fs cats links np cls HB.out.p.keys]
    go_wp2
    go_ret
    exact ⟨rfl, ((he1.trans he2).trans he3).trans he4⟩

/-! ### the second law -/
theorem B_eq_true {a : Bs} {l : List UInt8} (h : a = l) : ((B a).toList == l) = true := by
  rw [Lib.toList_data, B_list, h]; simp
theorem B_eq_false {a : Bs} {l : List UInt8} (h : ¬ a = l) : ((B a).toList == l) = false := by
  rw [beq_eq_false_iff_ne, Lib.toList_data, B_list]; exact h

theorem reasonRank_any (l : Bs) (w : World) : Calls Try.prog 23 #[.string (B l)] w fun e w' => e = .returned (.int .i64 (rank l)) ∧ w' = w := by
  by_cases h1 : l = [99, 114, 101, 97, 116, 105, 118, 101]
  · have HR : Hid (rank l = 0) := by show rank l = 0; unfold rank; rw [if_pos h1]
    have b1 := B_eq_true h1
    clear h1
    go_enter Try.func23, Try.ntmps23
    go_wp2
    go_ret
    exact ⟨by rw [HR.out]; rfl, rfl⟩
  · by_cases h2 : l = [100, 111, 109, 97, 105, 110]
    · have HR : Hid (rank l = 1) := by show rank l = 1; unfold rank; rw [if_neg h1]; exact if_pos h2
      have b1 := B_eq_false h1
      have b2 := B_eq_true h2
      clear h1 h2
      go_enter Try.func23, Try.ntmps23
      go_wp2
      go_ret
      exact ⟨by rw [HR.out]; rfl, rfl⟩
    · by_cases h3 : l = [99, 97, 116, 101, 103, 111, 114, 121]
      · have HR : Hid (rank l = 2) := by show rank l = 2; unfold rank sDomain; rw [if_neg h1, if_neg h2]; exact if_pos h3
        have b1 := B_eq_false h1
        have b2 := B_eq_false h2
        have b3 := B_eq_true h3
        clear h1 h2 h3
        go_enter Try.func23, Try.ntmps23
        go_wp2
        go_ret
        exact ⟨by rw [HR.out]; rfl, rfl⟩
      · have HR : Hid (rank l = 3) := by show rank l = 3; unfold rank sDomain sCategory; rw [if_neg h1, if_neg h2, if_neg h3]
        have b1 := B_eq_false h1
        have b2 := B_eq_false h2
        have b3 := B_eq_false h3
        clear h1 h2 h3
        go_enter Try.func23, Try.ntmps23
        go_wp2
        go_ret
        exact ⟨by rw [HR.out]; rfl, rfl⟩

theorem firstReason_any (a b : Bs) (w : World) : Calls Try.prog 10 #[.string (B a), .string (B b)] w fun e w' => e = .returned (.string (B (firstReason a b))) ∧ w' = w := by
  by_cases h : rank b < rank a
  · have HF : Hid (firstReason a b = b) := by show firstReason a b = b; unfold firstReason; rw [if_pos h]
    go_enter Try.func10, Try.ntmps10
    go_wp2_with fail
    go_fit (reasonRank_any b _)
    rintro e w' ⟨rfl, rfl⟩
    go_wp2_with fail
    go_fit (reasonRank_any a _)
    rintro e w' ⟨rfl, rfl⟩
    go_wp2
    go_ret
    exact ⟨by rw [HF.out]; rfl, rfl⟩
  · have HF : Hid (firstReason a b = a) := by show firstReason a b = a; unfold firstReason; rw [if_neg h]
    go_enter Try.func10, Try.ntmps10
    go_wp2_with fail
    go_fit (reasonRank_any b _)
    rintro e w' ⟨rfl, rfl⟩
    go_wp2_with fail
    go_fit (reasonRank_any a _)
    rintro e w' ⟨rfl, rfl⟩
    go_wp2
    go_ret
    exact ⟨by rw [HF.out]; rfl, rfl⟩

theorem claimsV_take {w : World} {a : Option Addr} {cap : Nat} {cls : List Cl} (h : ClaimsV w (.slice a cls.length cap) cls) (c cap' : Nat) (hc : c ≤ cls.length) : ClaimsV w (.slice a c cap') (cls.take c) := by
  obtain ⟨a', cap0, hv, hx⟩ := h
  injection hv with h1 _ _
  subst h1
  have hl : (cls.take c).length = c := by simp; omega
  refine ⟨a, cap', by rw [hl], fun h0 => ?_⟩
  rw [hl] at h0
  obtain ⟨b, off, ha, hcs⟩ := hx (by omega)
  refine ⟨b, off, ha, fun i hi => ?_⟩
  rw [hl] at hi
  have e : (cls.take c).getD i ⟨[], 0, []⟩ = cls.getD i ⟨[], 0, []⟩ := by simp [List.getD, hi]
  rw [e]
  exact hcs i (by omega)

theorem claimsV_drop {w : World} {b0 off0 : Nat} {cap : Nat} {cls : List Cl} (h : ClaimsV w (.slice (some ⟨b0, off0, none⟩) cls.length cap) cls) (c cap' : Nat) (hc : c < cls.length) (a : Option Addr) (ha : a = some ⟨b0, off0 + c * 3, none⟩) :
    ClaimsV w (.slice a (cls.length - c) cap') (cls.drop c) := by
  obtain ⟨a', cap0, hv, hx⟩ := h
  injection hv with h1 _ _
  obtain ⟨b, off, ha', hcs⟩ := hx (by omega)
  rw [← h1] at ha'
  injection ha' with ha'
  injection ha' with hb ho
  subst hb; subst ho
  refine ⟨a, cap', by simp, fun h0 => ⟨b0, off0 + c * 3, ha, fun i hi => ?_⟩⟩
  simp at hi
  have e : (cls.drop c).getD i ⟨[], 0, []⟩ = cls.getD (c + i) ⟨[], 0, []⟩ := by simp [List.getD]
  rw [e]
  have := hcs (c + i) (by omega)
  rw [show off0 + (c + i) * 3 = off0 + c * 3 + i * 3 from by omega] at this
  exact this
end Go.Proofs.Qxb6616329a
