import Derived.Test.Qxb6616348aDoorExt
import Derived.Deep.RegionLaw
set_option linter.unusedSimpArgs false
set_option linter.unusedVariables false
namespace Go.Proofs.Qxb6616348aDoor
open Go.RowKit

/-- add's head: leading zeros; the digits behind them, and the last one that is not 0 -/
def addZ (s : St) (first : Nat) : St := if s.run.kept.length = 0 then { s with run := { s.run with zeros := s.run.zeros + first } } else s
def addD (s : St) (d : Bs) (first : Nat) : Bs := if s.run.kept.length = 0 then d.drop first else d
def addL (s : St) (first : Nat) (last : Int) : Int := if s.run.kept.length = 0 then last - first else last
/-- add's tail: n digits are kept, the rest counted -/
def addT (s : St) (d : Bs) (last : Int) : St :=
  let n := min d.length (s.keep - s.run.kept.length)
  if n < d.length then { s with run := { s.run with kept := s.run.kept ++ d.take n, more := s.run.more + (d.length - n), sticky := s.run.sticky || decide ((n : Int) ≤ last) } }
  else { s with run := { s.run with kept := s.run.kept ++ d.take n } }
def add (s : St) (d : Bs) (first : Nat) (last : Int) : St := addT (addZ s first) (addD s d first) (addL s first last)

theorem SlA.drop {w : World} {p b off c : Nat} {l : Bs} (hb : b ≠ p) (hcl : l.length ≤ c) (hcell : ∀ i, i < l.length → w.cell? ⟨b, off + i, none⟩ = some (.int .u8 ((l.getD i 0).toNat : Int))) (k : Nat) (hk : k ≤ l.length) (x n' c' : Nat) (hn : n' = l.length - k) (hc : c' = c - k)
    (hx : 0 < n' → x = off + k) : SlA w p (.slice (some ⟨b, x, none⟩) n' c') (l.drop k) := by
  subst hn hc
  refine ⟨_, c - k, by simp, by simp; omega, .inr ⟨b, x, rfl, hb, fun i hi => ?_⟩⟩
  simp at hi
  rw [hx (by omega), Nat.add_assoc, hcell (k + i) (by omega)]
  simp [List.getD]
theorem SlA.take {w : World} {p : Nat} {a : Option Addr} {c : Nat} {l : Bs} (h : SlA w p (.slice a l.length c) l) (k : Nat) (hk : k ≤ l.length) : SlA w p (.slice a k c) (l.take k) := by
  obtain ⟨a0, c0, hv, hcl, hx⟩ := h
  injection hv with h1 h2 h3
  subst h1 h3
  refine ⟨a, c, by simp [Nat.min_eq_left hk], by simp; omega, hx.imp id fun ⟨b, off, hab, hb, hcell⟩ => ⟨b, off, hab, hb, fun i hi => ?_⟩⟩
  have hi' : i < k ∧ i < l.length := by simp at hi; omega
  rw [hcell i hi'.2]
  simp [List.getD, List.getElem?_take, hi'.1]

theorem add_rel {w : World} {B pw pt : Nat} {s s1 : St} {vo vs vk vh vsh vr : Value} {G : List (Value × Run)} {d d1 : Bs} {first : Nat} {last last1 : Int}
    (he : s1 = { s with run := { s.run with zeros := s.run.zeros + first } } ∧ d1 = d.drop first ∧ last1 = last - first) (hM : WrM w B pw pt s vo vs vk vh vsh vr G) (hB : B ≤ pw) (a : Option Addr) (n c : Nat) (hS : SlA w pw (.slice a n c) (d.drop first)) (hn : n = d.length - first)
    (L Z : Int) (hL : L = last - first) (hZ : Z = ((s.run.zeros + first : Nat) : Int)) :
    (∃ a' c', Value.slice a n c = .slice a' d1.length c') ∧ SlA (w.setCell ⟨pw, 11, none⟩ (.int .i64 Z)) pw (.slice a n c) d1 ∧ Value.int .i64 L = .int .i64 last1 ∧ WrM (w.setCell ⟨pw, 11, none⟩ (.int .i64 Z)) B pw pt s1 vo vs vk vh vsh vr G ∧ Below B w (w.setCell ⟨pw, 11, none⟩ (.int .i64 Z)) := by
  obtain ⟨rfl, rfl, rfl⟩ := he
  subst hL hZ hn
  exact ⟨⟨a, c, by simp⟩, hS.off ((Off.refl _ _).set _ _), rfl, ⟨hM.mem.setCell (i := 0) rfl 11 _, hM.runs⟩, (Below.refl _ _).setCell hB _⟩

theorem SlA.src_take {w : World} {p : Nat} {a : Option Addr} {c n : Nat} {l : Bs} (h : SlA w p (.slice a n c) (l.take n)) (hn : n ≤ l.length) : Src w (.slice a n c) n (cellsOf (l.take n)) 1 := by
  have := h.src
  rw [show (l.take n).length = n from by simp; omega] at this
  exact this

theorem add_fin {w w2 : World} {B pw pt : Nat} {s : St} {vo vs vk vh vsh vr : Value} {G : List (Value × Run)} {k : Bs} (h : WrM w2 B pw pt { s with run := { s.run with kept := k } } vo vs vk vh vsh vr G) (hb : Below B w w2) (hB : B ≤ pw) (Z : Int) (X : Bool) {m : Nat} {t : Bool} (hZ : Z = (m : Int)) (hX : X = t) :
    Aft w B pw pt { s with run := { s.run with kept := k, more := m, sticky := t } } ((w2.setCell ⟨pw, 13, none⟩ (.int .i64 Z)).setCell ⟨pw, 14, none⟩ (.bool X)) := by
  subst hZ hX
  exact ⟨⟨vo, vs, vk, vh, vsh, vr, G, (h.mem.setCell (i := 0) rfl 13 _).setCell (i := 0) rfl 14 _, h.runs⟩, (hb.setCell hB _).setCell hB _⟩

set_option maxHeartbeats 4000000 in
set_option maxRecDepth 100000 in
theorem add_in (w : World) (B pw pt : Nat) (s s1 s2 : St) (v : Value) (d d1 : Bs) (first : Nat) (last last1 : Int) (H1 : Hid (addZ s first = s1)) (HD : Hid (addD s d first = d1)) (HL : Hid (addL s first last = last1)) (H2 : Hid (addT s1 d1 last1 = s2))
    (h : WrV w B pw pt s) (hv : SlA w pw v d) (hf : first ≤ d.length) (hd : d.length ≤ 1073741824) (hz : s.run.zeros ≤ 1073741824) (hmo : s1.run.more ≤ 1073741824) (hk : s1.run.kept.length ≤ s1.keep) (hkl : s1.run.kept.length ≤ 1073741824) (hkl0 : s.run.kept.length ≤ 1073741824) (hkp : (s1.keep : Int) ≤ 9223372036854775807) (hla : -1 ≤ last) (hlb : last ≤ 1073741824) :
    Calls Tryd.prog 24 #[.pointer (some ⟨pw, 11, none⟩), v, .int .i64 first, .int .i64 last, .int .i64 s1.keep] w fun e w' => e = .returned (.tuple #[]) ∧ Aft w B pw pt s2 w' := by
  obtain ⟨vo, vs, vk, vh, vsh, vr, G, hM⟩ := h
  have HM : Hid (WrM w B pw pt s vo vs vk vh vsh vr G) := hM
  have HV : Hid (SlA w pw v d) := hv
  have HB : Hid (B ≤ pw) := hM.lt.1
  obtain ⟨av, cv, rfl, hcv, hav⟩ := hv
  have c11 := hM.cw 11 (by omega)
  have c12 := hM.cw 12 (by omega)
  have q11 := hM.fw 11
  simp only [wcells, List.getElem?_cons_succ, List.getElem?_cons_zero] at c11 c12
  obtain ⟨ak, ck, rfl, hck⟩ := row_form hM.okept
  clear hM
  go_enter Tryd.func24, Tryd.ntmps24
  go_upto_if 17 with fail
  go_cut [1, 3] (fun t l wx => (∃ a c, t = .slice a d1.length c) ∧ SlA wx pw t d1 ∧ l = .int .i64 last1 ∧ WrM wx B pw pt s1 vo vs (.slice ak s.run.kept.length ck) vh vsh vr G ∧ Below B w wx)
  case first =>
    have hkk : (s.run.kept.length : Int) ≤ 1073741824 := by omega
    by_cases hk0 : s.run.kept.length = 0
    · have hk0I : ((s.run.kept.length : Int) == 0) = true := by simp [hk0]
      have e1 : s1 = { s with run := { s.run with zeros := s.run.zeros + first } } := by rw [← H1.out]; unfold addZ; rw [if_pos hk0]
      have e2 : d1 = d.drop first := by rw [← HD.out]; unfold addD; rw [if_pos hk0]
      have e3 : last1 = last - first := by rw [← HL.out]; unfold addL; rw [if_pos hk0]
      have HE : Hid (s1 = { s with run := { s.run with zeros := s.run.zeros + first } } ∧ d1 = d.drop first ∧ last1 = last - first) := ⟨e1, e2, e3⟩
      clear e1 e2 e3
      rcases hav with ⟨rfl, rfl⟩ | ⟨b, off, rfl, hbp, hcell⟩
      · obtain rfl : first = 0 := by omega
        go_wp2_with fail
        go_meet
        case rel =>
          have hd0 : d = [] := List.eq_nil_of_length_eq_zero (by omega)
          subst hd0
          exact add_rel HE.out HM.out HB.out _ _ _ ⟨none, 0, rfl, Nat.le_refl _, .inl ⟨rfl, rfl⟩⟩ rfl _ _ (by omega) (by omega)
      · have HCL : Hid _ := hcell
        clear hcell
        by_cases hcc : cv = first
        · subst hcc
          go_wp2_with fail
          go_meet
          case rel =>
            exact add_rel HE.out HM.out HB.out _ _ _ (SlA.drop hbp hcv HCL.out cv (by omega) _ _ _ (by omega) (by omega) (by omega)) (by omega) _ _ (by omega) (by omega)
        · go_wp2_with fail
          go_meet
          case rel =>
            exact add_rel HE.out HM.out HB.out _ _ _ (SlA.drop hbp hcv HCL.out first (by omega) _ _ _ (by omega) (by omega) (by omega)) (by omega) _ _ (by omega) (by omega)
    · have hk0I : ((s.run.kept.length : Int) == 0) = false := by rw [beq_eq_false_iff_ne]; omega
      go_wp2_with fail
      go_meet
      case rel =>
        have e1 : s1 = s := by rw [← H1.out]; unfold addZ; rw [if_neg hk0]
        have e2 : d1 = d := by rw [← HD.out]; unfold addD; rw [if_neg hk0]
        have e3 : last1 = last := by rw [← HL.out]; unfold addL; rw [if_neg hk0]
        rw [e1, e2, e3]
        exact ⟨⟨_, _, rfl⟩, HV.out, rfl, HM.out, Below.refl _ _⟩
  case rest =>
    obtain ⟨⟨a1, cc1, rfl⟩, hV1, rfl, hM1, hB1⟩ := hcut
    clear c11 c12 q11 HM HV hav hcv hck
    have HV1 : Hid (SlA wc pw (.slice a1 d1.length cc1) d1) := hV1
    have hcc1 : d1.length ≤ cc1 := by obtain ⟨_, _, hv, hc, _⟩ := hV1; injection hv with _ _ h3; omega
    have HM1 : Hid (WrM wc B pw pt s1 vo vs (.slice ak s.run.kept.length ck) vh vsh vr G) := hM1
    have HB1 : Hid (Below B w wc) := hB1
    have d12 := hM1.cw 12 (by omega)
    simp only [wcells, List.getElem?_cons_succ, List.getElem?_cons_zero] at d12
    have hkk : s1.run.kept.length = s.run.kept.length := by rw [← H1.out]; unfold addZ; split <;> rfl
    rw [← hkk] at d12 HM1
    have hd1 : d1.length ≤ 1073741824 := by rw [← HD.out]; unfold addD; split <;> (try simp) <;> omega
    clear hM1 hB1 hkk hV1
    obtain ⟨n, hn⟩ : ∃ n : Nat, n = min d1.length (s1.keep - s1.run.kept.length) := ⟨_, rfl⟩
    have hnd : n ≤ d1.length := by omega
    have HN : Hid (n = min d1.length (s1.keep - s1.run.kept.length)) := hn
    clear hn
    obtain ⟨i0, hi, hz0, hz1, hz2⟩ := info_parts info5
    go_upto_region 3 with fail
    go_cut [10] (fun t wx => t = .int .i64 (n : Int) ∧ wx = wc)
    case first =>
      by_cases hmin : (d1.length : Int) ≤ (s1.keep : Int) - (s1.run.kept.length : Int)
      · have HE : Hid (n = d1.length) := by show n = d1.length; have := HN.out; omega
        go_wp2
        go_meet
        case rel => exact ⟨by rw [HE.out], rfl⟩
      · have HE : Hid ((n : Int) = (s1.keep : Int) - (s1.run.kept.length : Int)) := by show (n : Int) = _; have := HN.out; omega
        go_wp2
        go_meet
        case rel => exact ⟨by rw [HE.out], rfl⟩
    case rest =>
      obtain ⟨rfl, rfl⟩ := hcut
      have HPW : Hid (SlA wc pw (.slice a1 n cc1) (d1.take n)) := HV1.out.take n hnd
      have hnc : (n : Int) ≤ (cc1 : Int) := by omega
      have hn0 : (0 : Int) ≤ (n : Int) := by omega
      go_upto_region 4 with fail
      go_cut [50] (fun _ wx => ∃ ak' ck', WrM wx B pw pt { s1 with run := { s1.run with kept := s1.run.kept ++ d1.take n } } vo vs (.slice ak' (s1.run.kept.length + n) ck') vh vsh vr G ∧ Below B w wx)
      case first =>
        go_region_law ((refine step_append_mem rfl (.tmp 46) (.tmp 49) 22 rfl (HM1.out.mem.grow (grownBy_drew _ none)) 4 rfl i0 (.int .u8 0) 1 Tryd.underlying22 hi hz0 hz1 hz2 rfl (by decide) (.slice a1 n cc1) n (cellsOf (d1.take n)) rfl rfl (HPW.out.src_take hnd) (by unfold maxLen; omega) (by omega) ?_; intro a' c' w2 hM2 hB2; have k12 : w2.cell? ⟨pw, 12, none⟩ = some (.slice ak s1.run.kept.length ck) := hM2.cell (i := 0) rfl 12 (by omega); have q12 := hM2.frozen (i := 0) rfl 12))
        go_wp2
        go_meet
        case rel =>
          refine ⟨a', c', ⟨?_, HM1.out.runs⟩, (HB1.out.drew.trans hB2).setCell HB.out _⟩
          have m := hM2.setCell (i := 0) rfl 12 (.slice a' (s1.run.kept.length + n) c')
          have l1 : (s1.run.kept ++ d1.take n).length = s1.run.kept.length + n := by simp; omega
          simp only [rows, rowB, l1, cellsOf_append]
          exact m
      case rest =>
        obtain ⟨ak', ck', hM2, hB2⟩ := hcut
        clear d12 HM1 HV1 HPW
        have k13 := hM2.cw 13 (by omega)
        have k14 := hM2.cw 14 (by omega)
        have q13 := hM2.fw 13
        have q14 := hM2.fw 14
        simp only [wcells, List.getElem?_cons_succ, List.getElem?_cons_zero] at k13 k14
        have HM2 : Hid (WrM wc B pw pt { s1 with run := { s1.run with kept := s1.run.kept ++ d1.take n } } vo vs (.slice ak' (s1.run.kept.length + n) ck') vh vsh vr G) := hM2
        have HB2 : Hid (Below B w wc) := hB2
        clear hM2 hB2
        by_cases hrest : (0 : Int) < (d1.length : Int) - (n : Int)
        · have HE : Hid (s2 = { s1 with run := { s1.run with kept := s1.run.kept ++ d1.take n, more := s1.run.more + (d1.length - n), sticky := s1.run.sticky || decide ((n : Int) ≤ last1) } }) := by
            show s2 = _
            rw [← H2.out]
            unfold addT
            simp only []
            rw [← HN.out, if_pos (by omega)]
          have hl1 : -1073741825 ≤ last1 ∧ last1 ≤ 1073741824 := by rw [← HL.out]; unfold addL; split <;> omega
          cases hst : s1.run.sticky
          · rw [hst] at k14
            go_wp2
            go_end0
            rw [HE.out]
            refine ⟨rfl, add_fin HM2.out HB2.out HB.out _ _ (by omega) ?_⟩
            rw [hst]; simp
          · rw [hst] at k14
            go_wp2
            go_end0
            rw [HE.out]
            refine ⟨rfl, add_fin HM2.out HB2.out HB.out _ _ (by omega) ?_⟩
            rw [hst]; simp
        · have HE : Hid (s2 = { s1 with run := { s1.run with kept := s1.run.kept ++ d1.take n } }) := by
            show s2 = _
            rw [← H2.out]
            unfold addT
            simp only []
            rw [← HN.out, if_neg (by omega)]
          go_wp2
          go_end0
          rw [HE.out]
          exact ⟨rfl, ⟨_, _, _, _, _, _, _, HM2.out⟩, HB2.out⟩

theorem add_any (w : World) (B pw pt : Nat) (s : St) (v : Value) (d : Bs) (first : Nat) (last : Int) (h : WrV w B pw pt s) (hv : SlA w pw v d) (hf : first ≤ d.length) (hd : d.length ≤ 1073741824) (hz : s.run.zeros ≤ 1073741824) (hmo : s.run.more ≤ 1073741824)
    (hk : s.run.kept.length ≤ s.keep) (hkl : s.run.kept.length ≤ 1073741824) (hkp : (s.keep : Int) ≤ 9223372036854775807) (hla : -1 ≤ last) (hlb : last ≤ 1073741824) :
    Calls Tryd.prog 24 #[.pointer (some ⟨pw, 11, none⟩), v, .int .i64 first, .int .i64 last, .int .i64 s.keep] w fun e w' => e = .returned (.tuple #[]) ∧ Aft w B pw pt (add s d first last) w' := by
  have e1 : (addZ s first).keep = s.keep := by unfold addZ; split <;> rfl
  have e2 : (addZ s first).run.kept = s.run.kept := by unfold addZ; split <;> rfl
  have e3 : (addZ s first).run.more = s.run.more := by unfold addZ; split <;> rfl
  have := add_in w B pw pt s (addZ s first) (add s d first last) v d (addD s d first) first last (addL s first last) (rfl : addZ s first = addZ s first) (rfl : addD s d first = addD s d first) (rfl : addL s first last = addL s first last) (rfl : addT (addZ s first) (addD s d first) (addL s first last) = add s d first last)
    h hv hf hd hz (by rw [e3]; exact hmo) (by rw [e2, e1]; exact hk) (by rw [e2]; exact hkl) hkl (by rw [e1]; exact hkp) hla hlb
  rw [e1] at this
  exact this
end Go.Proofs.Qxb6616348aDoor
