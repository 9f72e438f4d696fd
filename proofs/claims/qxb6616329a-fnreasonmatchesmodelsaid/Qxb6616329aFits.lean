import Derived.Test.Qxb6616329aModel
import Derived.Deep.CutBlock
set_option linter.unusedSimpArgs false
set_option linter.unusedVariables false
namespace Go.Proofs.Qxb6616329a
open Go.RowKit

def AddP (n k : Int) (e : Ending) : Prop := ∃ r : Int, e = .returned (.int .i64 r) ∧ 0 ≤ r ∧ r ≤ 2097152 ∧ (r ≤ 1048576 → n ≤ 1048576 ∧ k ≤ 1048576)

theorem addB_any (n k : Int) (w : World) (hn : 0 ≤ n) (hk : 0 ≤ k) :
    Calls Try.prog 11 #[.int .i64 n, .int .i64 k] w fun e w' => AddP n k e ∧ w' = w := by
  have hn' : ¬ n < 0 := by omega
  have hk' : ¬ k < 0 := by omega
  by_cases h1 : 1048576 < n
  · go_enter Try.func11, Try.ntmps11
    go_wp2
    go_ret
    exact ⟨⟨1048577, rfl, by omega, by omega, by omega⟩, rfl⟩
  · by_cases h2 : 1048576 < k
    · go_enter Try.func11, Try.ntmps11
      go_wp2
      go_ret
      exact ⟨⟨1048577, rfl, by omega, by omega, by omega⟩, rfl⟩
    · have h1' : n ≤ 1048576 := by omega
      have h2' : k ≤ 1048576 := by omega
      go_enter Try.func11, Try.ntmps11
      go_wp2
      go_ret
      exact ⟨⟨n + k, rfl, by omega, by omega, by omega⟩, rfl⟩

theorem addW_any (n c wd : Int) (w : World) (hn : 0 ≤ n) (hc : 0 ≤ c) (hw0 : 1 ≤ wd) (hw : wd ≤ 64) :
    Calls Try.prog 12 #[.int .i64 n, .int .i64 c, .int .i64 wd] w fun e w' => AddP n c e ∧ w' = w := by
  have hc' : ¬ c < 0 := by omega
  by_cases h1 : 1048576 < c
  · go_enter Try.func12, Try.ntmps12
    go_wp2
    go_ret
    exact ⟨⟨1048577, rfl, by omega, by omega, by omega⟩, rfl⟩
  · have h1' : c ≤ 1048576 := by omega
    have hm0 : 0 ≤ c * wd := Int.mul_nonneg hc (by omega)
    have hm1 : c * wd ≤ 67108864 := by
      have := Int.mul_le_mul h1' hw (by omega) (by omega)
      omega
    have hm2 : c ≤ c * wd := by
      have := Int.mul_le_mul_of_nonneg_left hw0 hc
      omega
    go_enter Try.func12, Try.ntmps12
    go_wp2_with fail
    go_fit (addB_any n (c * wd) _ hn hm0)
    rintro e w' ⟨⟨r, rfl, r0, r1, r2⟩, rfl⟩
    have R2 : Hid _ := r2
    clear r2
    go_wp2
    go_ret
    exact ⟨⟨r, rfl, r0, r1, fun h => by have := R2.out h; omega⟩, rfl⟩

def StrsBP (n : Int) (xs : List Bs) (e : Ending) : Prop := ∃ r : Int, e = .returned (.int .i64 r) ∧ 0 ≤ r ∧ r ≤ 2097152 ∧ (r ≤ 1048576 → n ≤ 1048576 ∧ xs.length ≤ 1048576 ∧ ∀ l ∈ xs, l.length ≤ 1048576)

theorem upTo_step {α : Type} (P : α → Prop) (d : α) (xs : List α) (k : Nat) (hk : k < xs.length) (h : ∀ j, j < k → P (xs.getD j d)) (hx : P (xs.getD k d)) : ∀ j, j < k + 1 → P (xs.getD j d) := by
  intro j hj
  by_cases e : j = k
  · subst e; exact hx
  · exact h j (by omega)
theorem upTo_all {α : Type} (P : α → Prop) (d : α) (xs : List α) (k : Nat) (hk : ¬ k < xs.length) (h : ∀ j, j < k → P (xs.getD j d)) : ∀ x ∈ xs, P x := by
  intro x hx
  obtain ⟨j, hj, rfl⟩ := List.mem_iff_getElem.1 hx
  have := h j (by omega)
  simpa [List.getD, hj] using this

set_option maxHeartbeats 1000000 in
theorem strsB_any (n : Int) (v : Value) (xs : List Bs) (w : World) (hn : 0 ≤ n) (hv : StrsV w v xs) :
    Calls Try.prog 13 #[.int .i64 n, v] w fun e w' => StrsBP n xs e ∧ w' = w := by
  obtain ⟨a, cap, rfl, hcells⟩ := hv
  have HC : Hid _ := hcells
  clear hcells
  go_enter Try.func13, Try.ntmps13
  go_wp2_with fail
  go_fit (addW_any n (xs.length : Int) 16 _ hn (by omega) (by omega) (by omega))
  rintro e w' ⟨⟨r, rfl, r0, r1, r2⟩, rfl⟩
  have R2 : Hid _ := r2
  clear r2
  go_wp2
  go_loop [0, 5] (fun s i => ∃ (k : Nat) (q : Int), i = .int .i64 k ∧ s = .int .i64 q ∧ k ≤ xs.length ∧ 0 ≤ q ∧ q ≤ 2097152 ∧ Hid (q ≤ 1048576 → r ≤ 1048576 ∧ ∀ j, j < k → (xs.getD j []).length ≤ 1048576)) (fun _ i => xs.length - (intOf i).toNat)
  case atStart => exact ⟨0, r, rfl, rfl, Nat.zero_le _, r0, r1, (fun h => ⟨h, fun j hj => absurd hj (by omega)⟩ : r ≤ 1048576 → _)⟩
  case round =>
    obtain ⟨k, q, rfl, rfl, hk, q0, q1, HQ⟩ := hrel
    by_cases hlt : k < xs.length
    · by_cases hq : q ≤ 1048576
      · obtain ⟨b, off, rfl, hc⟩ := HC.out (by omega)
        have ck := hc k hlt
        clear hc
        have HS : Hid _ := upTo_step (fun l : Bs => l.length ≤ 1048576) [] xs k hlt (HQ.out hq).2
        have HR1 : Hid _ := (HQ.out hq).1
        have hxl : xs.length ≤ 1048576 := by have := (R2.out HR1.out).2; omega
        generalize hy : xs.getD k [] = y at *
        clear hy
        go_wp2_with fail
        go_fit (addB_any q (((B y).size : Nat) : Int) _ q0 (by omega))
        rintro e w' ⟨⟨t, rfl, t0, t1, t2⟩, rfl⟩
        have T2 : Hid _ := t2
        clear t2
        go_wp2
        go_round
        case rel => exact ⟨k + 1, t, by go_num, rfl, by omega, t0, t1, (fun h => ⟨HR1.out, HS.out (by have := (T2.out h).2; rw [B_size] at this; omega)⟩ : t ≤ 1048576 → _)⟩
        case measure => simp [intOf]; omega
      · have hq' : 1048576 < q := by omega
        go_wp2
        go_ret
        exact ⟨⟨q, rfl, q0, q1, fun h => absurd h (by omega)⟩, rfl⟩
    · go_wp2
      go_ret
      exact ⟨⟨q, rfl, q0, q1, fun h => by
        have h1 := HQ.out h
        have h2 := R2.out h1.1
        exact ⟨h2.1, by omega, upTo_all (fun l : Bs => l.length ≤ 1048576) [] xs k hlt h1.2⟩⟩, rfl⟩

def FitsP (fs : List (Bs → Bool)) (cats : List (List Ct)) (links : List Lk) (cls : List Cl) (e : Ending) : Prop := ∃ b, e = .returned (.bool b) ∧ (b = true → Fits fs cats links cls)

set_option maxHeartbeats 8000000 in
set_option maxRecDepth 100000 in
theorem reasonFits_any (s1 s2 : ByteArray) (dv cv lv av : Value) (fs : List (Bs → Bool)) (ns : List Nat) (cats : List (List Ct)) (links : List Lk) (cls : List Cl) (w : World)
    (hd : DomsV w dv fs ns) (hc : CatsV w cv cats) (hl : LinksV w lv links) (ha : ClaimsV w av cls) :
    Calls Try.prog 5 #[.string s1, .string s2, dv, cv, lv, av] w fun e w' => FitsP fs cats links cls e ∧ w' = w := by
  obtain ⟨hln, da, dcap, rfl, hdc⟩ := hd
  clear hln
  obtain ⟨ca, ccap, rfl, hcc⟩ := hc
  obtain ⟨la, lcap, rfl, hlc⟩ := hl
  obtain ⟨aa, acap, rfl, hac⟩ := ha
  have HD : Hid _ := hdc
  have HC : Hid _ := hcc
  have HL : Hid _ := hlc
  have HA : Hid _ := hac
  clear hdc hcc hlc hac
  by_cases h1 : (fs.length : Int) ≤ 4096
  · by_cases h2 : (cats.length : Int) ≤ 4096
    · by_cases h3 : (links.length : Int) ≤ 256
      · by_cases h4 : (cls.length : Int) ≤ 4096
        · go_enter Try.func5, Try.ntmps5
          go_wp2
          go_loop [13] (fun i => ∃ k : Nat, i = .int .i64 k ∧ k ≤ fs.length) (fun i => fs.length - (intOf i).toNat)
          case atStart => exact ⟨0, rfl, Nat.zero_le _⟩
          case round =>
            obtain ⟨k, rfl, hk⟩ := hrel
            by_cases hlt : k < fs.length
            · obtain ⟨b, off, rfl, hc⟩ := HD.out (by omega)
              obtain ⟨m, hm, ⟨r, rfl⟩, hd⟩ := hc k hlt
              have hlen := hd.len w (Ext.refl w)
              clear hc hd
              generalize ns.getD k 0 = n at *
              by_cases hn : (n : Int) ≤ 4096
              · go_wp2
                go_round
                case rel => exact ⟨k + 1, by go_num, by omega⟩
                case measure => simp [intOf]; omega
              · have hn' : 4096 < (n : Int) := by omega
                go_wp2
                go_ret
                exact ⟨⟨false, rfl, fun h => by cases h⟩, rfl⟩
            · clear hk
              go_wp2_with fail
              go_fit (addB_any 0 (s1.size : Int) _ (by omega) (by omega))
              rintro e w' ⟨⟨n1, rfl, a0, a1, a2⟩, rfl⟩
              clear a2
              go_wp2_with fail
              go_fit (addB_any n1 (s2.size : Int) _ a0 (by omega))
              rintro e w' ⟨⟨n2, rfl, b0, b1, b2⟩, rfl⟩
              clear b2
              go_wp2_with fail
              go_fit (addW_any n2 (fs.length : Int) 8 _ b0 (by omega) (by omega) (by omega))
              rintro e w' ⟨⟨n3, rfl, c0, c1, c2⟩, rfl⟩
              clear c2
              go_wp2_with fail
              go_fit (addW_any n3 (cats.length : Int) 24 _ c0 (by omega) (by omega) (by omega))
              rintro e w' ⟨⟨n4, rfl, d0, d1, d2⟩, rfl⟩
              clear d2
              clear a0 a1 b0 b1 c0 c1
              go_upto_block 2 with fail
              go_cut [14, 15, 16] (fun s _ _ wx => (∃ q : Int, s = .int .i64 q ∧ 0 ≤ q ∧ q ≤ 2097152 ∧ Hid (q ≤ 1048576 → ∀ r ∈ cats, r.length ≤ 1048576)) ∧ wx = w')
              case first =>
                go_wp2_with fail
                go_loop [14, 15, 16] (fun s i _ => ∃ (k : Nat) (q : Int), i = .int .i64 k ∧ s = .int .i64 q ∧ k ≤ cats.length ∧ 0 ≤ q ∧ q ≤ 2097152 ∧ Hid (q ≤ 1048576 → ∀ j, j < k → (cats.getD j []).length ≤ 1048576)) (fun _ i _ => cats.length - (intOf i).toNat)
                case atStart => exact ⟨0, n4, rfl, rfl, Nat.zero_le _, d0, d1, (fun h j hj => absurd hj (by omega) : n4 ≤ 1048576 → ∀ j, j < 0 → (cats.getD j []).length ≤ 1048576)⟩
                case round =>
                  clear d0 d1
                  obtain ⟨k, q, rfl, rfl, hk, q0, q1, HQ⟩ := hrel
                  by_cases hlt : k < cats.length
                  · by_cases hq : q ≤ 1048576
                    · obtain ⟨b, off, rfl, hc⟩ := HC.out (by omega)
                      obtain ⟨mv, hm, hrow⟩ := hc k hlt
                      clear hc
                      have HS : Hid _ := upTo_step (fun r : List Ct => r.length ≤ 1048576) [] cats k hlt (HQ.out hq)
                      generalize hy : cats.getD k [] = row at *
                      clear hy
                      obtain ⟨ra, rcap, rfl, hrc⟩ := hrow
                      have HRC : Hid _ := hrc
                      clear hrc
                      go_wp2_with fail
                      go_fit (addW_any q (row.length : Int) 24 _ q0 (by omega) (by omega) (by omega))
                      rintro e w' ⟨⟨t, rfl, t0, t1, t2⟩, rfl⟩
                      have T2 : Hid _ := t2
                      clear t2
                      go_wp2_with fail
                      go_loop [14, 16] (fun s i => ∃ (j : Nat) (u : Int), i = .int .i64 j ∧ s = .int .i64 u ∧ j ≤ row.length ∧ 0 ≤ u ∧ u ≤ 2097152 ∧ Hid (u ≤ 1048576 → t ≤ 1048576)) (fun _ i => row.length - (intOf i).toNat)
                      case atStart => exact ⟨0, t, rfl, rfl, Nat.zero_le _, t0, t1, (fun h => h : t ≤ 1048576 → t ≤ 1048576)⟩
                      case round =>
                        clear t0 t1
                        obtain ⟨j, u, rfl, rfl, hj, u0, u1, HU⟩ := hrel
                        by_cases hjl : j < row.length
                        · by_cases hu : u ≤ 1048576
                          · obtain ⟨rb, roff, rfl, hrc⟩ := HRC.out (by omega)
                            obtain ⟨_, cj⟩ := hrc j hjl
                            have hrl : row.length ≤ 1048576 := by have := (T2.out (HU.out hu)).2; omega
                            have HU1 : Hid _ := HU.out hu
                            clear hrc
                            generalize row.getD j (0, []) = x at *
                            obtain ⟨xt, xc⟩ := x
                            go_wp2_with fail
                            go_fit (addB_any u (((B xc).size : Nat) : Int) _ u0 (by omega))
                            rintro e w' ⟨⟨z, rfl, z0, z1, z2⟩, rfl⟩
                            clear z2
                            go_wp2
                            go_round
                            case rel => exact ⟨j + 1, z, by go_num, rfl, by omega, z0, z1, (fun _ => HU1.out : z ≤ 1048576 → t ≤ 1048576)⟩
                            case measure => simp [intOf]; omega
                          · have hu' : 1048576 < u := by omega
                            go_wp2
                            go_round
                            case rel => exact ⟨k + 1, u, by go_num, rfl, by omega, u0, u1, (fun h => absurd h (by omega) : u ≤ 1048576 → ∀ j, j < k + 1 → (cats.getD j []).length ≤ 1048576)⟩
                            case measure => simp [intOf]; omega
                        · go_wp2
                          go_round
                          case rel => exact ⟨k + 1, u, by go_num, rfl, by omega, u0, u1, (fun h => HS.out (by have := (T2.out (HU.out h)).2; omega) : u ≤ 1048576 → ∀ j, j < k + 1 → (cats.getD j []).length ≤ 1048576)⟩
                          case measure => simp [intOf]; omega
                    · have hq' : 1048576 < q := by omega
                      go_wp2
                      go_meet
                      case rel => exact ⟨⟨q, rfl, q0, q1, (fun h => absurd h (by omega) : q ≤ 1048576 → ∀ r ∈ cats, r.length ≤ 1048576)⟩, rfl⟩
                  · go_wp2
                    go_meet
                    case rel => exact ⟨⟨q, rfl, q0, q1, (fun h => upTo_all (fun r : List Ct => r.length ≤ 1048576) [] cats k hlt (HQ.out h) : q ≤ 1048576 → ∀ r ∈ cats, r.length ≤ 1048576)⟩, rfl⟩
              case rest =>
                obtain ⟨⟨q, rfl, q0, q1, HQ⟩, rfl⟩ := hcut
                clear d0 d1
                go_wp2_with fail
                go_fit (addW_any q (links.length : Int) 40 _ q0 (by omega) (by omega) (by omega))
                rintro e w' ⟨⟨n5, rfl, e0, e1, e2⟩, rfl⟩
                have E2 : Hid _ := e2
                clear e2 q0 q1
                go_upto_block 6 with fail
                go_cut [14, 17] (fun s _ wx => (∃ u : Int, s = .int .i64 u ∧ 0 ≤ u ∧ u ≤ 2097152 ∧ Hid (u ≤ 1048576 → n5 ≤ 1048576)) ∧ wx = w')
                case first =>
                  go_wp2_with fail
                  go_loop [14, 17] (fun s i => ∃ (k : Nat) (u : Int), i = .int .i64 k ∧ s = .int .i64 u ∧ k ≤ links.length ∧ 0 ≤ u ∧ u ≤ 2097152 ∧ Hid (u ≤ 1048576 → n5 ≤ 1048576)) (fun _ i => links.length - (intOf i).toNat)
                  case atStart => exact ⟨0, n5, rfl, rfl, Nat.zero_le _, e0, e1, (fun h => h : n5 ≤ 1048576 → n5 ≤ 1048576)⟩
                  case round =>
                    clear e0 e1
                    obtain ⟨k, u, rfl, rfl, hk, u0, u1, HU⟩ := hrel
                    by_cases hlt : k < links.length
                    · by_cases hu : u ≤ 1048576
                      · obtain ⟨b, off, rfl, hc⟩ := HL.out (by omega)
                        obtain ⟨_, g1, g2⟩ := hc k hlt
                        clear hc
                        generalize links.getD k ⟨0, [], []⟩ = lk at *
                        obtain ⟨xt, xc, xp⟩ := lk
                        have HU1 : Hid _ := HU.out hu
                        go_wp2_with fail
                        go_fit (addB_any u (((B xc).size : Nat) : Int) _ u0 (by omega))
                        rintro e w' ⟨⟨z, rfl, z0, z1, z2⟩, rfl⟩
                        clear z2
                        go_wp2_with fail
                        go_fit (addB_any z (((B xp).size : Nat) : Int) _ z0 (by omega))
                        rintro e w' ⟨⟨y, rfl, y0, y1, y2⟩, rfl⟩
                        clear y2
                        go_wp2
                        go_round
                        case rel => exact ⟨k + 1, y, by go_num, rfl, by omega, y0, y1, (fun _ => HU1.out : y ≤ 1048576 → n5 ≤ 1048576)⟩
                        case measure => simp [intOf]; omega
                      · have hu' : 1048576 < u := by omega
                        go_wp2
                        go_meet
                        case rel => exact ⟨⟨u, rfl, u0, u1, HU⟩, rfl⟩
                    · go_wp2
                      go_meet
                      case rel => exact ⟨⟨u, rfl, u0, u1, HU⟩, rfl⟩
                case rest =>
                  obtain ⟨⟨u, rfl, u0, u1, HU⟩, rfl⟩ := hcut
                  clear e0 e1
                  go_wp2_with fail
                  go_fit (addW_any u (cls.length : Int) 56 _ u0 (by omega) (by omega) (by omega))
                  rintro e w' ⟨⟨n6, rfl, f0, f1, f2⟩, rfl⟩
                  have F2 : Hid _ := f2
                  clear f2 u0 u1
                  go_upto_block 8 with fail
                  go_cut [14, 18] (fun s _ wx => (∃ u : Int, s = .int .i64 u ∧ 0 ≤ u ∧ u ≤ 2097152 ∧ Hid (u ≤ 1048576 → n6 ≤ 1048576 ∧ ∀ c ∈ cls, ClOk c)) ∧ wx = w')
                  case first =>
                    go_wp2_with fail
                    go_loop [14, 18] (fun s i => ∃ (k : Nat) (u : Int), i = .int .i64 k ∧ s = .int .i64 u ∧ k ≤ cls.length ∧ 0 ≤ u ∧ u ≤ 2097152 ∧ Hid (u ≤ 1048576 → n6 ≤ 1048576 ∧ ∀ j, j < k → ClOk (cls.getD j ⟨[], 0, []⟩))) (fun _ i => cls.length - (intOf i).toNat)
                    case atStart => exact ⟨0, n6, rfl, rfl, Nat.zero_le _, f0, f1, (fun h => ⟨h, fun j hj => absurd hj (by omega)⟩ : n6 ≤ 1048576 → n6 ≤ 1048576 ∧ ∀ j, j < 0 → ClOk (cls.getD j ⟨[], 0, []⟩))⟩
                    case round =>
                      clear f0 f1
                      obtain ⟨k, u, rfl, rfl, hk, u0, u1, HU⟩ := hrel
                      by_cases hlt : k < cls.length
                      · by_cases hu : u ≤ 1048576
                        · obtain ⟨b, off, rfl, hc⟩ := HA.out (by omega)
                          obtain ⟨x, y, g0, _, g2, gx, gy⟩ := hc k hlt
                          clear hc
                          have HS : Hid _ := upTo_step ClOk ⟨[], 0, []⟩ cls k hlt (HU.out hu).2
                          have HU1 : Hid _ := (HU.out hu).1
                          generalize cls.getD k ⟨[], 0, []⟩ = cl at *
                          have GX : Hid _ := gx
                          have GY : Hid _ := gy
                          clear gx gy
                          go_wp2_with fail
                          go_fit (strsB_any u x cl.adom _ u0 GX.out)
                          rintro e w' ⟨⟨z, rfl, z0, z1, z2⟩, rfl⟩
                          have Z2 : Hid _ := z2
                          clear z2
                          go_wp2_with fail
                          go_fit (strsB_any z y cl.cat _ z0 GY.out)
                          rintro e w' ⟨⟨t, rfl, t0, t1, t2⟩, rfl⟩
                          have T2 : Hid _ := t2
                          clear t2
                          go_wp2
                          go_round
                          case rel => exact ⟨k + 1, t, by go_num, rfl, by omega, t0, t1, (fun h => ⟨HU1.out, HS.out ⟨(Z2.out (T2.out h).1).2.1, (Z2.out (T2.out h).1).2.2, (T2.out h).2.1, (T2.out h).2.2⟩⟩ : t ≤ 1048576 → n6 ≤ 1048576 ∧ ∀ j, j < k + 1 → ClOk (cls.getD j ⟨[], 0, []⟩))⟩
                          case measure => simp [intOf]; omega
                        · have hu' : 1048576 < u := by omega
                          go_wp2
                          go_meet
                          case rel => exact ⟨⟨u, rfl, u0, u1, (fun h => absurd h (by omega) : u ≤ 1048576 → n6 ≤ 1048576 ∧ ∀ c ∈ cls, ClOk c)⟩, rfl⟩
                      · go_wp2
                        go_meet
                        case rel => exact ⟨⟨u, rfl, u0, u1, (fun h => ⟨(HU.out h).1, upTo_all ClOk ⟨[], 0, []⟩ cls k hlt (HU.out h).2⟩ : u ≤ 1048576 → n6 ≤ 1048576 ∧ ∀ c ∈ cls, ClOk c)⟩, rfl⟩
                  case rest =>
                    obtain ⟨⟨t, rfl, t0, t1, HT⟩, rfl⟩ := hcut
                    go_wp2
                    go_ret
                    refine ⟨⟨_, rfl, fun h => ?_⟩, rfl⟩
                    have ht : t ≤ 1048576 := of_decide_eq_true h
                    have hh := HT.out ht
                    exact ⟨by omega, by omega, HQ.out (E2.out (HU.out (F2.out hh.1).1)).1, by omega, by omega, hh.2⟩
        · have h4' : 4096 < (cls.length : Int) := by omega
          go_enter Try.func5, Try.ntmps5
          go_wp2
          go_ret
          exact ⟨⟨false, rfl, fun h => by cases h⟩, rfl⟩
      · have h3' : 256 < (links.length : Int) := by omega
        go_enter Try.func5, Try.ntmps5
        go_wp2
        go_ret
        exact ⟨⟨false, rfl, fun h => by cases h⟩, rfl⟩
    · have h2' : 4096 < (cats.length : Int) := by omega
      go_enter Try.func5, Try.ntmps5
      go_wp2
      go_ret
      exact ⟨⟨false, rfl, fun h => by cases h⟩, rfl⟩
  · have h1' : 4096 < (fs.length : Int) := by omega
    go_enter Try.func5, Try.ntmps5
    go_wp2
    go_ret
    exact ⟨⟨false, rfl, fun h => by cases h⟩, rfl⟩
end Go.Proofs.Qxb6616329a
