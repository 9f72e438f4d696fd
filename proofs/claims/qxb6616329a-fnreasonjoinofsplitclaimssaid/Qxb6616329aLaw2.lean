import Derived.Test.Qxb6616329aLaw
set_option linter.unusedSimpArgs false
set_option linter.unusedVariables false
namespace Go.Proofs.Qxb6616329a
open Go.RowKit

theorem claimsV_nil (w : World) (a : Option Addr) (cap : Nat) : ClaimsV w (.slice a 0 cap) [] := ⟨a, cap, rfl, fun h => by simp at h⟩

set_option maxHeartbeats 8000000 in
theorem law4 (s1 s2 : ByteArray) (dv cv lv av : Value) (cut : Int) (fs : List (Bs → Bool)) (ns : List Nat) (cats : List (List Ct)) (links : List Lk) (cls : List Cl) (w : World) (h : ArgsW w dv cv lv av fs ns cats links cls) :
    Calls Try.prog 4 #[.string s1, .string s2, dv, cv, lv, av, .int .i64 cut] w fun e w' => e = .returned (.bool true) ∧ Ext w w' := by
  have H : Hid (ArgsW w dv cv lv av fs ns cats links cls) := h
  clear h
  go_enter Try.func4, Try.ntmps4
  go_wp2_with fail
  go_fit (reasonFits_any s1 s2 dv cv lv av fs ns cats links cls _ H.out.d H.out.c H.out.l H.out.a)
  rintro e w' ⟨⟨b, rfl, hb⟩, rfl⟩
  cases b
  · go_wp2
    go_ret
    exact ⟨rfl, Ext.refl _⟩
  · have HF : Hid (Fits fs cats links cls) := hb rfl
    clear hb
    have hn := HF.out.n
    obtain ⟨aa, acap, rfl, _⟩ := H.out.a
    by_cases hk : 0 ≤ cut ∧ cut ≤ (cls.length : Int)
    · obtain ⟨hk0, hk1⟩ := hk
      obtain ⟨k, rfl⟩ := Int.eq_ofNat_of_zero_le hk0
      go_wp2_with fail
      go_fit (reasonModel_any dv cv lv _ fs ns cats links cls _ H.out.d H.out.c H.out.l H.out.a HF.out)
      rintro e w1 ⟨rfl, he1⟩
      go_wp2_with fail
      go_fit (toClaims_any _ cls _ (H.out.a.ext he1) HF.out.n HF.out.cl)
      rintro e w2 ⟨⟨av', rfl, hA, hsh⟩, he2⟩
      have HA : Hid (ClaimsV w2 av' cls) := hA
      clear hA
      go_wp2_with fail
      go_fit (buildBlocks_any dv cv lv fs ns cats links _ (H.out.d.ext (he1.trans he2)) (H.out.c.ext (he1.trans he2)) (H.out.l.ext (he1.trans he2)) HF.out.c HF.out.cr HF.out.l H.out.cw H.out.lw)
      rintro e w3 ⟨⟨bb, cv', pm, np, rfl, hnp, hB⟩, he3⟩
      have HB : Hid (BlocksW w3 bb fs cats (parentOf links) dv cv' pm np) := hB
      have HE3 : Hid (Ext w' w3) := (he1.trans he2).trans he3
      have HA3 : Hid (ClaimsV w3 av' cls) := HA.out.ext he3
      clear hB HA he1 he2 he3
      have HRE : Hid _ := reasonB_eq fs cats links np cls HB.out.p.keys
      have HRE1 : Hid _ := reasonB_eq fs cats links np (cls.take k) HB.out.p.keys
      have HRE2 : Hid _ := reasonB_eq fs cats links np (cls.drop k) HB.out.p.keys
      have HSP : Hid _ := reason_split fs cats links cls k
      have HREN : Hid _ := reasonB_eq fs cats links np [] HB.out.p.keys
      go_wp2_with fail
      go_fit (Reason_any bb fs cats (parentOf links) dv cv' pm np s1 s2 av' cls _ (HB.out.ext (Ext.alloc _ _)) (HA3.out.ext (Ext.alloc _ _)) HF.out.d HF.out.c hnp HF.out.n HF.out.cl H.out.aw)
      rintro e w4 ⟨rfl, he4⟩
      rw [HRE.out]
      have c0 : w4.cell? ⟨w3.heap.size, 0, none⟩ = some (.string s1) := he4.cell (by simp)
      have c1 : w4.cell? ⟨w3.heap.size, 1, none⟩ = some (.string s2) := he4.cell (by simp)
      have HE4 : Hid (Ext w3 w4) := (Ext.alloc _ _).trans he4
      clear he4
      rcases hsh with ⟨rfl, hz⟩ | ⟨g, rfl⟩
      · have hx0 : cls = [] := List.eq_nil_of_length_eq_zero hz
        subst hx0
        have hk0' : k = 0 := by simp at hk1; omega
        subst hk0'
        clear hz
        go_upto_region 10 with fail
        go_region_held3 (fun w' => w'.cell? ⟨w3.heap.size, 0, none⟩ = some (.string s1) ∧ w'.cell? ⟨w3.heap.size, 1, none⟩ = some (.string s2))
          (first
            | go_keep
            | exact ⟨he5.cell c0, he5.cell c1⟩)
          ((go_at_call 8; go_fit (Reason_any bb fs cats (parentOf links) dv cv' pm np s1 s2 (.slice none 0 0) [] _ (HB.out.ext (HE4.out.trans (Ext.drew _))) (HA3.out.ext (HE4.out.trans (Ext.drew _))) HF.out.d HF.out.c hnp (by simp) (by simp) (by simp)); rintro e w5 ⟨rfl, he5⟩; rw [HRE.out]))
        have HE5 : Hid (Ext w3 w5) := HE4.out.trans ((Ext.drew _).trans he5)
        have d0 : w5.cell? ⟨w3.heap.size, 0, none⟩ = some (.string s1) := he5.cell c0
        have d1 : w5.cell? ⟨w3.heap.size, 1, none⟩ = some (.string s2) := he5.cell c1
        have HSQ : Hid (reason fs cats links [] = firstReason (reason fs cats links []) (reason fs cats links [])) := HSP.out
        clear he5 c0 c1
        go_upto_region 11 with fail
        go_region_held3 (fun w' => w'.cell? ⟨w3.heap.size, 0, none⟩ = some (.string s1) ∧ w'.cell? ⟨w3.heap.size, 1, none⟩ = some (.string s2))
          (first
            | go_keep
            | exact ⟨he6.cell d0, he6.cell d1⟩)
          ((go_at_call 8; go_fit (Reason_any bb fs cats (parentOf links) dv cv' pm np s1 s2 (.slice none 0 0) [] _ (HB.out.ext (HE5.out.trans (Ext.drew _))) (HA3.out.ext (HE5.out.trans (Ext.drew _))) HF.out.d HF.out.c hnp (by simp) (by simp) (by simp)); rintro e w6 ⟨rfl, he6⟩; rw [HRE.out]))
        have HE6 : Hid (Ext w3 w6) := HE5.out.trans ((Ext.drew _).trans he6)
        clear he6 d0 d1
        go_wp2_with (go_at_call 10; go_fit (firstReason_any _ _ _); rintro e w' ⟨rfl, rfl⟩; rw [← HSQ.out])
        go_ret
        exact ⟨rfl, HE3.out.trans HE6.out⟩
      · go_upto_region 10 with fail
        go_region_held3 (fun w' => w'.cell? ⟨w3.heap.size, 0, none⟩ = some (.string s1) ∧ w'.cell? ⟨w3.heap.size, 1, none⟩ = some (.string s2))
          (first
            | go_keep
            | exact ⟨he5.cell c0, he5.cell c1⟩)
          ((go_at_call 8; go_fit (Reason_any bb fs cats (parentOf links) dv cv' pm np s1 s2 (.slice (some ⟨g, 0, none⟩) k cls.length) (cls.take k) _ (HB.out.ext (HE4.out.trans (Ext.drew _))) ((claimsV_take HA3.out k _ (by omega)).ext (HE4.out.trans (Ext.drew _))) HF.out.d HF.out.c hnp (by simp; omega) (fun c hc => HF.out.cl c (List.mem_of_mem_take hc)) (fun c hc => H.out.aw c (List.mem_of_mem_take hc))); rintro e w5 ⟨rfl, he5⟩; rw [HRE1.out]))
        have HE5 : Hid (Ext w3 w5) := HE4.out.trans ((Ext.drew _).trans he5)
        have d0 : w5.cell? ⟨w3.heap.size, 0, none⟩ = some (.string s1) := he5.cell c0
        have d1 : w5.cell? ⟨w3.heap.size, 1, none⟩ = some (.string s2) := he5.cell c1
        clear he5 c0 c1
        by_cases hlt : k < cls.length
        · have hkI : (k : Int) < (cls.length : Int) := by omega
          go_upto_region 11 with fail
          go_region_held3 (fun w' => w'.cell? ⟨w3.heap.size, 0, none⟩ = some (.string s1) ∧ w'.cell? ⟨w3.heap.size, 1, none⟩ = some (.string s2))
            (first
              | go_keep
              | exact ⟨he6.cell d0, he6.cell d1⟩)
            ((go_at_call 8; go_fit (Reason_any bb fs cats (parentOf links) dv cv' pm np s1 s2 (.slice (if cls.length = k then some ⟨g, 0, none⟩ else some ⟨g, k * 3, none⟩) (cls.length - k) (cls.length - k)) (cls.drop k) _ (HB.out.ext (HE5.out.trans (Ext.drew _))) ((claimsV_drop HA3.out k _ hlt _ (by rw [if_neg (by omega), Nat.zero_add])).ext (HE5.out.trans (Ext.drew _))) HF.out.d HF.out.c hnp (by simp; omega) (fun c hc => HF.out.cl c (List.mem_of_mem_drop hc)) (fun c hc => H.out.aw c (List.mem_of_mem_drop hc))); rintro e w6 ⟨rfl, he6⟩; rw [HRE2.out]))
          have HE6 : Hid (Ext w3 w6) := HE5.out.trans ((Ext.drew _).trans he6)
          clear he6 d0 d1
          go_wp2_with (go_at_call 10; go_fit (firstReason_any _ _ _); rintro e w' ⟨rfl, rfl⟩; rw [← HSP.out])
          go_ret
          exact ⟨rfl, HE3.out.trans HE6.out⟩
        · have hke : k = cls.length := by omega
          subst hke
          have HSQ : Hid (reason fs cats links cls = firstReason (reason fs cats links cls) (reason fs cats links [])) := by
            have := reason_split fs cats links cls cls.length
            rw [List.take_length, List.drop_length] at this
            exact this
          go_upto_region 11 with fail
          go_region_held3 (fun w' => w'.cell? ⟨w3.heap.size, 0, none⟩ = some (.string s1) ∧ w'.cell? ⟨w3.heap.size, 1, none⟩ = some (.string s2))
            (first
              | go_keep
              | exact ⟨he6.cell d0, he6.cell d1⟩)
            ((go_at_call 8; go_fit (Reason_any bb fs cats (parentOf links) dv cv' pm np s1 s2 (.slice (some ⟨g, 0, none⟩) 0 0) [] _ (HB.out.ext (HE5.out.trans (Ext.drew _))) ((claimsV_nil _ _ _).ext (HE5.out.trans (Ext.drew _))) HF.out.d HF.out.c hnp (by simp) (by simp) (by simp)); rintro e w6 ⟨rfl, he6⟩; rw [HREN.out]))
          have HE6 : Hid (Ext w3 w6) := HE5.out.trans ((Ext.drew _).trans he6)
          clear he6 d0 d1
          go_wp2_with (go_at_call 10; go_fit (firstReason_any _ _ _); rintro e w' ⟨rfl, rfl⟩; rw [← HSQ.out])
          go_ret
          exact ⟨rfl, HE3.out.trans HE6.out⟩
    · by_cases hneg : cut < 0
      · go_wp2
        go_ret
        exact ⟨rfl, Ext.refl _⟩
      · have hk2 : (cls.length : Int) < cut := by omega
        have hk3 : 0 ≤ cut := by omega
        clear hk
        go_wp2
        go_ret
        exact ⟨rfl, Ext.refl _⟩
end Go.Proofs.Qxb6616329a
