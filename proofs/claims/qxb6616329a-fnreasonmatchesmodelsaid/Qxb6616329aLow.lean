import Derived.Test.Qxb6616329aStr
import Derived.Laws.IdiomStrings
import Derived.Laws.BytesArg
import Derived.OwnWalk
set_option linter.unusedSimpArgs false
set_option linter.unusedVariables false
namespace Go.Proofs.Qxb6616329a
open Go.RowKit

theorem info5 : (Try.prog.info? 5).map (fun i => (i.zero, i.size, i.bytes)) = some (some (.int .u8 0), 1, 1) := by kernel_rfl

/-- the bytes as cells -/
def cellsOf (l : Bs) : List Value := l.map (fun b => Value.int .u8 (b.toNat : Int))
/-- the first k made small, the rest zero -/
def lowTo (l : Bs) (k : Nat) : List Value := cellsOf ((lower l).take k) ++ List.replicate (l.length - k) (.int .u8 0)

theorem lowTo_length (l : Bs) (k : Nat) (h : k ≤ l.length) : (lowTo l k).length = l.length := by
  simp [lowTo, cellsOf, lower]; omega
theorem lowTo_zero (l : Bs) : lowTo l 0 = List.replicate l.length (.int .u8 0) := by simp [lowTo, cellsOf]
theorem lowTo_all (l : Bs) : lowTo l l.length = cellsOf (lower l) := by
  simp [lowTo, cellsOf, lower, List.take_of_length_le]
theorem lowTo_step (l : Bs) (k : Nat) (h : k < l.length) : (lowTo l k).set k (.int .u8 ((low l[k]).toNat : Int)) = lowTo l (k + 1) := by
  unfold lowTo
  have hl : (cellsOf ((lower l).take k)).length = k := by simp [cellsOf, lower]; omega
  rw [List.set_append_right _ _ (by omega), hl, Nat.sub_self]
  rw [show l.length - k = (l.length - (k + 1)) + 1 from by omega, List.replicate_succ, List.set_cons_zero]
  rw [List.take_succ_eq_append_getElem (by simpa [lower] using h)]
  simp [cellsOf, lower]

theorem lowTo_stepS (s : ByteArray) (k : Nat) (h : k < s.size) (x : Int) (hx : x = ((low s[k]).toNat : Int)) : (lowTo s.data.toList k).set k (.int .u8 x) = lowTo s.data.toList (k + 1) := by
  subst hx
  exact lowTo_step s.data.toList k (by simpa using h)

theorem low_yes (b : UInt8) (h1 : (65 : Int) ≤ (b.toNat : Int)) (h2 : (b.toNat : Int) ≤ 90) : (b.toNat : Int) + 32 = ((low b).toNat : Int) := by
  unfold low
  rw [if_pos ⟨by omega, by omega⟩]
  have : (b + 32).toNat = b.toNat + 32 := by rw [UInt8.toNat_add]; simp; omega
  rw [this]; omega
theorem low_no (b : UInt8) (h : (b.toNat : Int) < 65 ∨ 90 < (b.toNat : Int)) : (b.toNat : Int) = ((low b).toNat : Int) := by
  unfold low
  rw [if_neg (by omega)]

theorem addr_add (g off j : Nat) : (⟨g, off, none⟩ : Addr).add j = ⟨g, off + j, none⟩ := by unfold Addr.add; split <;> simp_all

/-- 'string(b)' where b owns the bytes l -/
theorem convert_owned (w : World) (base g n cap : Nat) (l : Bs) (hn : l.length = n) (h : w.ownsRow base 5 1 (.slice (some ⟨g, 0, none⟩) n cap) n (cellsOf l)) :
    (convert 82 9 (.slice (some ⟨g, 0, none⟩) n cap)).run Try.prog w = .ok (.string (B l)) w := by
  subst hn
  refine run_convert_bytes_back w 82 9 5 ⟨g, 0, none⟩ cap l Try.underlying82 Try.underlying5 Try.underlying9 ?_
  intro j hj
  rw [addr_add, Nat.zero_add, h.cellAt j (by omega)]
  simp [cellsOf, hj]

theorem made_bytes (n : Nat) : (madeCells (Value.int .u8 0).cells (n * 1)).toList = List.replicate n (.int .u8 0) := by
  rw [Nat.mul_one]; exact toList_madeCells_one _ _

set_option maxHeartbeats 1000000 in
theorem lowerASCII_any (s : ByteArray) (w : World) (hs : s.size ≤ 1048576) :
    Calls Try.prog 24 #[.string s] w fun e w' => e = .returned (.string (B (lower s.data.toList))) ∧ Below w.heap.size w w' := by
  obtain ⟨i0, hi, hz0, hz1, hz2⟩ := info_parts info5
  go_enter Try.func24, Try.ntmps24
  go_wp2_with (at_make; refine wpList_make_full _ rfl _ _ 82 rfl w.heap.size 5 i0 (.int .u8 0) 1 Try.underlying82 hi hz0 hz1 .i64 .i64 _ _ s.size rfl rfl rfl rfl (by rw [hz2]; omega) (by unfold maxLen; omega) (Nat.le_refl _) ?_; intro w1 hown hgrow)
  have hb1 : Below w.heap.size w w1 := (Below.refl _ _).grown hgrow (Nat.le_refl _) (fun k hk => by cases hk)
  rw [made_bytes] at hown
  have hl : s.data.toList.length = s.size := by simp
  have hown0 : w1.ownsRow w.heap.size 5 1 (.slice (some ⟨w.heap.size, 0, none⟩) s.size s.size) s.size (lowTo s.data.toList 0) := by rw [lowTo_zero, hl]; exact hown
  clear hown hgrow
  have HL : Hid _ := hl
  clear hl
  go_loopw [4, 5] (fun i c wr => ∃ k : Nat, i = .int .i64 k ∧ k ≤ s.size ∧ wr.ownsRow w.heap.size 5 1 (.slice (some ⟨w.heap.size, 0, none⟩) s.size s.size) s.size (lowTo s.data.toList k) ∧ Below w.heap.size w wr) (fun i _ _ => s.size - (intOf i).toNat)
  case atStart => exact ⟨0, rfl, Nat.zero_le _, hown0, hb1⟩
  case round =>
    obtain ⟨k, rfl, hk, hown, hb⟩ := hrel
    by_cases hlt : k < s.size
    · have hc : ∃ v, wr.cell? ⟨w.heap.size, k, none⟩ = some v := by
        have := hown.cellAt k (by omega)
        rw [List.getElem?_eq_getElem (by rw [lowTo_length _ _ (by rw [HL.out]; exact hk), HL.out]; exact hlt)] at this
        exact ⟨_, this⟩
      obtain ⟨v, hc⟩ := hc
      have hf := hown.frozenAt k
      have hbt := s[k].toNat_lt
      by_cases h1 : (65 : Int) ≤ (s[k].toNat : Int)
      · by_cases h2 : (s[k].toNat : Int) ≤ 90
        · have hle : ((s[k].toNat : Int) + 32) = ((low s[k]).toNat : Int) := low_yes _ h1 h2
          have HE : Hid _ := hle
          clear hle
          go_wp2
          go_roundw
          case rel => exact ⟨k + 1, by go_num, by omega, by rw [← lowTo_stepS s k hlt _ HE.out]; exact (hown.stored k _).1, hb.setCell (Nat.le_refl _) _⟩
          case measure => simp [intOf]; omega
        · have hle : (s[k].toNat : Int) = ((low s[k]).toNat : Int) := low_no _ (by omega)
          have HE : Hid _ := hle
          clear hle
          go_wp2
          go_roundw
          case rel => exact ⟨k + 1, by go_num, by omega, by rw [← lowTo_stepS s k hlt _ HE.out]; exact (hown.stored k _).1, hb.setCell (Nat.le_refl _) _⟩
          case measure => simp [intOf]; omega
      · have hle : (s[k].toNat : Int) = ((low s[k]).toNat : Int) := low_no _ (by omega)
        have HE : Hid _ := hle
        clear hle
        go_wp2
        go_roundw
        case rel => exact ⟨k + 1, by go_num, by omega, by rw [← lowTo_stepS s k hlt _ HE.out]; exact (hown.stored k _).1, hb.setCell (Nat.le_refl _) _⟩
        case measure => simp [intOf]; omega
    · have hke : k = s.data.toList.length := by rw [HL.out]; omega
      have hconv := convert_owned wr w.heap.size w.heap.size s.size s.size (lower s.data.toList) (by simp [lower]) (by rw [← lowTo_all, ← hke]; exact hown)
      clear hke
      go_wp2
      go_ret
      exact ⟨rfl, hb⟩

/-- '[]byte(s)' -/
theorem bytes_of (w : World) (s : ByteArray) : ∃ cap w1, (convert 9 82 (.string s)).run Try.prog w = .ok (.slice (some ⟨w.heap.size, 0, none⟩) s.size cap) w1 ∧
    (∀ j (hj : j < s.size), w1.cell? ⟨w.heap.size, j, none⟩ = some (.int .u8 (s[j].toNat : Int))) ∧ (∀ j, j < s.size → w1.frozen? ⟨w.heap.size, j, none⟩ = false) ∧ Below w.heap.size w w1 := by
  refine ⟨_, _, run_bytes_of_string w 9 82 5 s Try.underlying9 Try.underlying82 Try.underlying5, ?_, ?_, ?_⟩
  · intro j hj
    exact (World.cell?_alloc_mark w.drew _ _ _ j).trans (bytesRow_at s _ j hj)
  · intro j hj
    refine (World.frozen?_alloc_mark w.drew _ _ _ _ j).trans ?_
    have hsz : s.size ≤ (bytesRow s (grownCap w s.size 0 5)).size := by
      unfold bytesRow; simp
    rw [decide_eq_false (by omega)]
    rfl
  · exact ((Below.refl _ _).drew).alloc (Nat.le_refl _) _

/-- no capital before k -/
def noCap (s : ByteArray) (k : Nat) : Prop := ∀ j (hj : j < s.size), j < k → low s[j] = s[j]

theorem noCap_step (s : ByteArray) (k : Nat) (hk : k < s.size) (h : noCap s k) (hx : ¬ ((65 : Int) ≤ (s[k].toNat : Int) ∧ (s[k].toNat : Int) ≤ 90)) : noCap s (k + 1) := by
  intro j hj hjk
  by_cases e : j = k
  · subst e
    unfold low
    rw [if_neg (by omega)]
  · exact h j hj (by omega)

theorem noCap_all (s : ByteArray) (k : Nat) (hk : ¬ k < s.size) (h : noCap s k) : s.data.toList = lower s.data.toList := by
  unfold lower
  apply List.ext_getElem
  · simp
  · intro j h1 h2
    rw [List.getElem_map]
    exact (h j (by simpa using h1) (by have : j < s.size := by simpa using h1
                                       omega)).symm

/-- the bytes behind k rounds of the inner loop -/
def lowed (s : ByteArray) (k j : Nat) (hj : j < s.size) : Int := if j < k then ((low s[j]).toNat : Int) else (s[j].toNat : Int)

theorem lowed_start (s : ByteArray) (k j : Nat) (hj : j < s.size) (h : noCap s k) : (s[j].toNat : Int) = lowed s k j hj := by
  unfold lowed
  split
  · rw [h j hj (by assumption)]
  · rfl

theorem setCell_lowed {w : World} {s : ByteArray} {g k : Nat} (hk : k < s.size) (hc : ∀ j (hj : j < s.size), w.cell? ⟨g, j, none⟩ = some (.int .u8 (lowed s k j hj))) (x : Int) (hx : x = ((low s[k]).toNat : Int)) :
    ∀ j (hj : j < s.size), (w.setCell ⟨g, k, none⟩ (.int .u8 x)).cell? ⟨g, j, none⟩ = some (.int .u8 (lowed s (k + 1) j hj)) := by
  intro j hj
  by_cases e : j = k
  · subst e
    rw [World.cell?_setCell_same _ _ _ (hc j hj)]
    unfold lowed
    rw [if_pos (by omega), hx]
  · rw [World.cell?_setCell_other _ _ _ _ (by intro h; injection h with _ h2; exact e h2.symm), hc j hj]
    unfold lowed
    by_cases h : j < k
    · rw [if_pos h, if_pos (by omega)]
    · rw [if_neg h, if_neg (by omega)]

theorem keep_lowed {w : World} {s : ByteArray} {g k : Nat} (hk : k < s.size) (hc : ∀ j (hj : j < s.size), w.cell? ⟨g, j, none⟩ = some (.int .u8 (lowed s k j hj))) (hx : (s[k].toNat : Int) = ((low s[k]).toNat : Int)) :
    ∀ j (hj : j < s.size), w.cell? ⟨g, j, none⟩ = some (.int .u8 (lowed s (k + 1) j hj)) := by
  intro j hj
  rw [hc j hj]
  unfold lowed
  by_cases e : j = k
  · subst e
    rw [if_neg (by omega), if_pos (by omega), hx]
  · by_cases h : j < k
    · rw [if_pos h, if_pos (by omega)]
    · rw [if_neg h, if_neg (by omega)]

theorem convert_lowed (w : World) (s : ByteArray) (g cap k : Nat) (hk : ¬ k < s.size) (hc : ∀ j (hj : j < s.size), w.cell? ⟨g, j, none⟩ = some (.int .u8 (lowed s k j hj))) :
    (convert 82 9 (.slice (some ⟨g, 0, none⟩) s.size cap)).run Try.prog w = .ok (.string (B (lower s.data.toList))) w := by
  have hn : s.size = (lower s.data.toList).length := by simp [lower]
  rw [hn]
  refine run_convert_bytes_back w 82 9 5 ⟨g, 0, none⟩ cap _ Try.underlying82 Try.underlying5 Try.underlying9 ?_
  intro j hj
  have hj' : j < s.size := by rw [hn]; exact hj
  rw [addr_add, Nat.zero_add, hc j hj']
  unfold lowed
  rw [if_pos (by omega)]
  simp [lower]
  rfl

set_option maxHeartbeats 1000000 in
theorem asciiLower_any (s : ByteArray) (w : World) (hs : s.size ≤ 1048576) :
    Calls Try.prog 31 #[.string s] w fun e w' => e = .returned (.string (B (lower s.data.toList))) ∧ Below w.heap.size w w' := by
  go_enter Try.func31, Try.ntmps31
  go_wp2
  go_loop [3] (fun i => ∃ k : Nat, i = .int .i64 k ∧ k ≤ s.size ∧ noCap s k) (fun i => s.size - (intOf i).toNat)
  case atStart => exact ⟨0, rfl, Nat.zero_le _, fun j hj h => absurd h (by omega)⟩
  case round =>
    obtain ⟨k, rfl, hk, hno⟩ := hrel
    by_cases hlt : k < s.size
    · by_cases h1 : (65 : Int) ≤ (s[k].toNat : Int)
      · by_cases h2 : (s[k].toNat : Int) ≤ 90
        · obtain ⟨cap, w1, hconv, hcell, hfr, hb1⟩ := bytes_of w s
          have hst : ∀ j (hj : j < s.size), w1.cell? ⟨w.heap.size, j, none⟩ = some (.int .u8 (lowed s k j hj)) := fun j hj => by rw [← lowed_start s k j hj hno]; exact hcell j hj
          have HC : Hid _ := hst
          have HF : Hid _ := hfr
          clear hst hcell hfr
          go_wp2
          clear hconv
          go_loopw [5] (fun i wr => ∃ m : Nat, i = .int .i64 m ∧ m ≤ s.size ∧ Hid (∀ j (hj : j < s.size), wr.cell? ⟨w.heap.size, j, none⟩ = some (.int .u8 (lowed s m j hj))) ∧ Hid (∀ j, j < s.size → wr.frozen? ⟨w.heap.size, j, none⟩ = false) ∧ Below w.heap.size w wr) (fun i _ => s.size - (intOf i).toNat)
          case atStart => exact ⟨k, rfl, by omega, HC, HF, hb1⟩
          case round =>
            obtain ⟨m, rfl, hm, HCm, HFm, hb⟩ := hrel
            by_cases hlm : m < s.size
            · have hcm : wr.cell? ⟨w.heap.size, m, none⟩ = some (.int .u8 (s[m].toNat : Int)) := by
                have := HCm.out m hlm
                unfold lowed at this
                rw [if_neg (by omega)] at this
                exact this
              have hfm := HFm.out m hlm
              have hbt := s[m].toNat_lt
              by_cases g1 : (65 : Int) ≤ (s[m].toNat : Int)
              · by_cases g2 : (s[m].toNat : Int) ≤ 90
                · have HE : Hid _ := low_yes _ g1 g2
                  go_wp2
                  go_roundw
                  case rel => exact ⟨m + 1, by go_num, by omega, setCell_lowed hlm HCm.out _ HE.out, (fun j hj => by rw [World.frozen?_setCell]; exact HFm.out j hj : ∀ j, j < s.size → _), hb.setCell (Nat.le_refl _) _⟩
                  case measure => simp [intOf]; omega
                · have HE : Hid _ := low_no s[m] (by omega)
                  go_wp2
                  go_roundw
                  case rel => exact ⟨m + 1, by go_num, by omega, keep_lowed hlm HCm.out HE.out, HFm, hb⟩
                  case measure => simp [intOf]; omega
              · have HE : Hid _ := low_no s[m] (by omega)
                go_wp2
                go_roundw
                case rel => exact ⟨m + 1, by go_num, by omega, keep_lowed hlm HCm.out HE.out, HFm, hb⟩
                case measure => simp [intOf]; omega
            · have hconv := convert_lowed wr s w.heap.size cap m hlm HCm.out
              go_wp2
              go_ret
              exact ⟨rfl, hb⟩
        · have hno' := noCap_step s k hlt hno (by omega)
          go_wp2
          go_round
          case rel => exact ⟨k + 1, by go_num, by omega, hno'⟩
          case measure => simp [intOf]; omega
      · have hno' := noCap_step s k hlt hno (by omega)
        go_wp2
        go_round
        case rel => exact ⟨k + 1, by go_num, by omega, hno'⟩
        case measure => simp [intOf]; omega
    · have HE : Hid _ := noCap_all s k hlt hno
      go_wp2
      go_ret
      exact ⟨ret_str HE.out, Below.refl _ _⟩
end Go.Proofs.Qxb6616329a
