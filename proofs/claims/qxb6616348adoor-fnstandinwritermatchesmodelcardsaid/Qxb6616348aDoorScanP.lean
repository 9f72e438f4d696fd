import Derived.Test.Qxb6616348aDoorFold
import Derived.Lib.ItoaNum
import Derived.Lib.Endian
set_option linter.unusedSimpArgs false
set_option linter.unusedVariables false
namespace Go.Proofs.Qxb6616348aDoor
open Go.RowKit


/-- eight bytes as a number, the low byte first -/
def leval : Bs → Nat
  | [] => 0
  | c :: l => c.toNat + 256 * leval l
def vals : Bs → Nat
  | [] => 0
  | c :: l => (c.toNat - 48) + 256 * vals l
def rep8 (k : Nat) : Nat → Nat
  | 0 => 0
  | n + 1 => k + 256 * rep8 k n

theorem and_step (a y b h : Nat) (ha : a < 256) (hb : b < 256) : (a + 256 * y) &&& (b + 256 * h) = (a &&& b) + 256 * (y &&& h) := by
  have h1 : ((a + 256 * y) &&& (b + 256 * h)) % 2 ^ 8 = a &&& b := by
    rw [Nat.and_mod_two_pow]
    congr 1 <;> omega
  have h2 : ((a + 256 * y) &&& (b + 256 * h)) / 2 ^ 8 = y &&& h := by
    rw [Nat.and_div_two_pow]
    congr 1 <;> omega
  have := Nat.div_add_mod ((a + 256 * y) &&& (b + 256 * h)) (2 ^ 8)
  omega
theorem xor_step (a y b h : Nat) (ha : a < 256) (hb : b < 256) : (a + 256 * y) ^^^ (b + 256 * h) = (a ^^^ b) + 256 * (y ^^^ h) := by
  have h1 : ((a + 256 * y) ^^^ (b + 256 * h)) % 2 ^ 8 = a ^^^ b := by
    rw [Nat.xor_mod_two_pow]
    congr 1 <;> omega
  have h2 : ((a + 256 * y) ^^^ (b + 256 * h)) / 2 ^ 8 = y ^^^ h := by
    rw [Nat.xor_div_two_pow]
    congr 1 <;> omega
  have := Nat.div_add_mod ((a + 256 * y) ^^^ (b + 256 * h)) (2 ^ 8)
  omega
set_option maxRecDepth 20000 in
theorem byte_high : ∀ a : Nat, a < 256 → (a &&& 240 = 48 ↔ 48 ≤ a ∧ a ≤ 63) := by decide
theorem byte_and_lt (a : Nat) : a &&& 240 < 256 := by
  have := Nat.and_le_right (n := a) (m := 240)
  omega
set_option maxRecDepth 20000 in
theorem byte_xor : ∀ a : Nat, a < 58 → 48 ≤ a → a ^^^ 48 = a - 48 := by decide
theorem high_all (l : Bs) (h : leval l &&& rep8 240 l.length = rep8 48 l.length) : ∀ c ∈ l, 48 ≤ c.toNat ∧ c.toNat ≤ 63 := by
  induction l with
  | nil => simp
  | cons c l ih =>
    have hc := c.toNat_lt
    simp only [leval, List.length_cons, rep8] at h
    rw [and_step _ _ _ _ (by omega) (by omega)] at h
    have := byte_and_lt c.toNat
    have h1 : c.toNat &&& 240 = 48 := by omega
    have h2 : leval l &&& rep8 240 l.length = rep8 48 l.length := by omega
    intro x hx
    rcases List.mem_cons.1 hx with rfl | hx
    · exact (byte_high _ hc).1 h1
    · exact ih h2 x hx
/-- the bytes, 6 added to each -/
theorem high_six (l : Bs) (hl : ∀ c ∈ l, 48 ≤ c.toNat ∧ c.toNat ≤ 63) (h : (leval l + rep8 6 l.length) &&& rep8 240 l.length = rep8 48 l.length) : ∀ c ∈ l, 48 ≤ c.toNat ∧ c.toNat ≤ 57 := by
  induction l with
  | nil => simp
  | cons c l ih =>
    have hc := hl c (by simp)
    simp only [leval, List.length_cons, rep8] at h
    rw [show c.toNat + 256 * leval l + (6 + 256 * rep8 6 l.length) = (c.toNat + 6) + 256 * (leval l + rep8 6 l.length) from by omega, and_step _ _ _ _ (by omega) (by omega)] at h
    have := byte_and_lt (c.toNat + 6)
    have h1 : (c.toNat + 6) &&& 240 = 48 := by omega
    have h2 : (leval l + rep8 6 l.length) &&& rep8 240 l.length = rep8 48 l.length := by omega
    have h3 := (byte_high (c.toNat + 6) (by omega)).1 h1
    intro x hx
    rcases List.mem_cons.1 hx with rfl | hx
    · omega
    · exact ih (fun y hy => hl y (by simp [hy])) h2 x hx
theorem xor_vals (l : Bs) (hl : ∀ c ∈ l, 48 ≤ c.toNat ∧ c.toNat ≤ 57) : leval l ^^^ rep8 48 l.length = vals l := by
  induction l with
  | nil => rfl
  | cons c l ih =>
    have hc := hl c (by simp)
    simp only [leval, List.length_cons, rep8, vals]
    rw [xor_step _ _ _ _ (by omega) (by omega), byte_xor _ (by omega) (by omega), ih (fun y hy => hl y (by simp [hy]))]
theorem leval_lt (l : Bs) : leval l < 256 ^ l.length := by
  induction l with
  | nil => simp [leval]
  | cons c l ih =>
    have hc := c.toNat_lt
    simp only [leval, List.length_cons]
    rw [Nat.pow_succ]
    omega
theorem vals_lt (l : Bs) (hl : ∀ c ∈ l, 48 ≤ c.toNat ∧ c.toNat ≤ 57) : vals l < 256 ^ l.length := by
  induction l with
  | nil => simp [vals]
  | cons c l ih =>
    have hc := hl c (by simp)
    have := ih (fun y hy => hl y (by simp [hy]))
    simp only [vals, List.length_cons]
    rw [Nat.pow_succ]
    omega
theorem vals_zero (l : Bs) (hl : ∀ c ∈ l, 48 ≤ c.toNat ∧ c.toNat ≤ 57) (h : vals l = 0) : fz l = l.length ∧ lz l = -1 := by
  have hall : ∀ c ∈ l, c = 48 := by
    induction l with
    | nil => simp
    | cons c l ih =>
      simp only [vals] at h
      have hc := hl c (by simp)
      intro x hx
      rcases List.mem_cons.1 hx with rfl | hx
      · apply UInt8.toNat_inj.1; show x.toNat = 48; omega
      · exact ih (fun y hy => hl y (by simp [hy])) (by omega) x hx
  have h1 : ∀ m : Bs, (∀ c ∈ m, c = 48) → m.takeWhile (· == 48) = m := by
    intro m hm
    induction m with
    | nil => rfl
    | cons a m ih => rw [List.takeWhile_cons, if_pos (by simp [hm a (by simp)]), ih (fun c hc => hm c (by simp [hc]))]
  constructor
  · unfold fz; rw [h1 l hall]
  · unfold lz; rw [h1 l.reverse (fun c hc => hall c (by simpa using hc))]; simp; omega
/-- the first byte that is not 0, by the number's trailing zeros -/
theorem vals_first (l : Bs) (hl : ∀ c ∈ l, 48 ≤ c.toNat ∧ c.toNat ≤ 57) (j : Nat) (h0 : vals l % 256 ^ j = 0) (h1 : vals l / 256 ^ j % 256 ≠ 0) : fz l = j ∧ j < l.length := by
  induction l generalizing j with
  | nil => simp [vals] at h1
  | cons c l ih =>
    have hc := hl c (by simp)
    have hv : vals (c :: l) = (c.toNat - 48) + 256 * vals l := rfl
    cases j with
    | zero =>
      simp at h1
      have hne : c ≠ 48 := by
        intro e
        subst e
        rw [hv] at h1
        have : (48 : UInt8).toNat = 48 := rfl
        omega
      unfold fz
      rw [List.takeWhile_cons, if_neg (by simpa using hne)]
      simp
    | succ j =>
      have hm : vals (c :: l) % 256 = 0 := by
        rw [Nat.pow_succ] at h0
        have := Nat.mod_mul_left_mod (vals (c :: l)) (256 ^ j) 256
        rw [h0] at this
        simpa using this.symm
      have hc0 : c.toNat = 48 := by rw [hv] at hm; omega
      have hce : c = 48 := UInt8.toNat_inj.1 hc0
      have hvd : vals (c :: l) = 256 * vals l := by rw [hv, hc0]; omega
      have h0' : vals l % 256 ^ j = 0 := by
        rw [hvd, Nat.pow_succ, Nat.mul_comm (256 ^ j) 256, Nat.mul_mod_mul_left] at h0
        omega
      have h1' : vals l / 256 ^ j % 256 ≠ 0 := by
        rw [hvd, Nat.pow_succ, Nat.mul_comm (256 ^ j) 256, Nat.mul_div_mul_left _ _ (by omega)] at h1
        exact h1
      have := ih (fun y hy => hl y (by simp [hy])) j h0' h1'
      unfold fz at this ⊢
      rw [List.takeWhile_cons, if_pos (by simp [hce])]
      simp
      omega
/-- the last byte that is not 0, by the number's length -/
theorem vals_last (l : Bs) (hl : ∀ c ∈ l, 48 ≤ c.toNat ∧ c.toNat ≤ 57) (j : Nat) (h0 : 256 ^ j ≤ vals l) (h1 : vals l < 256 ^ (j + 1)) : lz l = j := by
  induction l generalizing j with
  | nil => have : 0 < 256 ^ j := Nat.pow_pos (by omega); simp [vals] at h0
  | cons c l ih =>
    have hc := hl c (by simp)
    have hv : vals (c :: l) = (c.toNat - 48) + 256 * vals l := rfl
    have hl' : ∀ c ∈ l, 48 ≤ c.toNat ∧ c.toNat ≤ 57 := fun y hy => hl y (by simp [hy])
    cases j with
    | zero =>
      simp at h0 h1
      have hv0 : vals l = 0 := by omega
      have hz := vals_zero l hl' hv0
      have hne : c ≠ 48 := by
        intro e
        subst e
        have : (48 : UInt8).toNat = 48 := rfl
        omega
      have h1 := hz.2
      unfold lz at h1 ⊢
      rw [List.reverse_cons, List.takeWhile_append]
      rw [if_pos (by simp at h1 ⊢; omega)]
      rw [List.takeWhile_cons, if_neg (by simpa using hne)]
      simp at h1 ⊢
    | succ j =>
      have h0' : 256 ^ j ≤ vals l := by rw [Nat.pow_succ] at h0; omega
      have h1' : vals l < 256 ^ (j + 1) := by
        have e : 256 ^ (j + 1 + 1) = 256 ^ (j + 1) * 256 := Nat.pow_succ ..
        rw [e] at h1
        omega
      have h := ih hl' j h0' h1'
      unfold lz at h ⊢
      rw [List.reverse_cons, List.takeWhile_append]
      rw [if_neg (by simp at h ⊢; omega)]
      simp at h ⊢
      omega
theorem and_bit (a y b h : Nat) (ha : a < 2) (hb : b < 2) : (a + 2 * y) &&& (b + 2 * h) = (a &&& b) + 2 * (y &&& h) := by
  have h1 : ((a + 2 * y) &&& (b + 2 * h)) % 2 ^ 1 = a &&& b := by
    rw [Nat.and_mod_two_pow]
    congr 1 <;> omega
  have h2 : ((a + 2 * y) &&& (b + 2 * h)) / 2 ^ 1 = y &&& h := by
    rw [Nat.and_div_two_pow]
    congr 1 <;> omega
  have := Nat.div_add_mod ((a + 2 * y) &&& (b + 2 * h)) (2 ^ 1)
  omega
theorem and_not (n y : Nat) (h : y < 2 ^ n) : y &&& (2 ^ n - 1 - y) = 0 := by
  induction n generalizing y with
  | zero => have : y = 0 := by simpa using h
            subst this; simp
  | succ n ih =>
    rw [Nat.pow_succ] at h ⊢
    have hy : y = y % 2 + 2 * (y / 2) := by omega
    have hz : 2 ^ n * 2 - 1 - y = (1 - y % 2) + 2 * (2 ^ n - 1 - y / 2) := by omega
    rw [hz]
    conv => lhs; lhs; rw [hy]
    rw [and_bit _ _ _ _ (by omega) (by omega), ih (y / 2) (by omega)]
    rcases Nat.mod_two_eq_zero_or_one y with e | e <;> rw [e] <;> rfl
theorem lowbit (n x : Nat) (h0 : 0 < x) (h : x < 2 ^ n) : ∃ k, k < n ∧ x &&& (2 ^ n - x) = 2 ^ k ∧ x % 2 ^ k = 0 ∧ x / 2 ^ k % 2 = 1 := by
  induction n generalizing x with
  | zero => simp at h; omega
  | succ n ih =>
    rw [Nat.pow_succ] at h
    rw [Nat.pow_succ]
    rcases Nat.mod_two_eq_zero_or_one x with e | e
    · obtain ⟨k, hk, h1, h2, h3⟩ := ih (x / 2) (by omega) (by omega)
      refine ⟨k + 1, by omega, ?_, ?_, ?_⟩
      · have hx : x = 0 + 2 * (x / 2) := by omega
        have hz : 2 ^ n * 2 - x = 0 + 2 * (2 ^ n - x / 2) := by omega
        rw [hz]
        conv => lhs; lhs; rw [hx]
        rw [and_bit _ _ _ _ (by omega) (by omega), h1, Nat.pow_succ]
        simp; omega
      · have hx : x = 2 * (x / 2) := by omega
        rw [hx, Nat.pow_succ, Nat.mul_comm (2 ^ k) 2, Nat.mul_mod_mul_left, h2]
      · have hx : x / 2 ^ (k + 1) = x / 2 / 2 ^ k := by rw [Nat.pow_succ, Nat.mul_comm, Nat.div_div_eq_div_mul]
        rw [hx]; exact h3
    · refine ⟨0, by omega, ?_, by omega, by simpa using e⟩
      have hx : x = 1 + 2 * (x / 2) := by omega
      have hz : 2 ^ n * 2 - x = 1 + 2 * (2 ^ n - 1 - x / 2) := by omega
      rw [hz]
      conv => lhs; lhs; rw [hx]
      rw [and_bit _ _ _ _ (by omega) (by omega), and_not n (x / 2) (by omega)]
      rfl
/-- a number's trailing zeros tell its first byte that is not 0 -/
theorem tz_byte (x k : Nat) (h2 : x % 2 ^ k = 0) (h3 : x / 2 ^ k % 2 = 1) : x % 256 ^ (k / 8) = 0 ∧ x / 256 ^ (k / 8) % 256 ≠ 0 := by
  have hp : 2 ^ k = 256 ^ (k / 8) * 2 ^ (k % 8) := by
    rw [show (256 : Nat) = 2 ^ 8 from rfl, ← Nat.pow_mul, ← Nat.pow_add]
    congr 1
    omega
  have hd : (256 : Nat) ^ (k / 8) ∣ x := Nat.dvd_trans ⟨2 ^ (k % 8), hp⟩ (Nat.dvd_of_mod_eq_zero h2)
  refine ⟨Nat.mod_eq_zero_of_dvd hd, fun h => ?_⟩
  rw [hp, ← Nat.div_div_eq_div_mul] at h3
  generalize x / 256 ^ (k / 8) = y at *
  have ht : k % 8 < 8 := Nat.mod_lt _ (by omega)
  generalize k % 8 = t at *
  have : t = 0 ∨ t = 1 ∨ t = 2 ∨ t = 3 ∨ t = 4 ∨ t = 5 ∨ t = 6 ∨ t = 7 := by omega
  rcases this with rfl | rfl | rfl | rfl | rfl | rfl | rfl | rfl <;> simp at h3 <;> omega
def tzTab : List Nat := [0, 1, 56, 2, 57, 49, 28, 3, 61, 58, 42, 50, 38, 29, 17, 4, 62, 47, 59, 36, 45, 43, 51, 22, 53, 39, 33, 30, 24, 18, 12, 5, 63, 55, 48, 27, 60, 41, 37, 16, 46, 35, 44, 21, 52, 32, 23, 11, 54, 26, 40, 15, 34, 20, 31, 10, 25, 14, 19, 9, 13, 8, 7, 6]
set_option maxRecDepth 20000 in
theorem tz_tab : ∀ k : Nat, k < 64 → tzTab[(2 ^ k * 285870213051353865 % 18446744073709551616) / 288230376151711744]? = some k := by decide
/-- a number's length tells its last byte that is not 0 -/
theorem len_byte (x L : Nat) (h1 : 1 ≤ L) (h2 : 2 ^ (L - 1) ≤ x) (h3 : x < 2 ^ L) : 256 ^ ((L - 1) / 8) ≤ x ∧ x < 256 ^ ((L - 1) / 8 + 1) := by
  rw [show (256 : Nat) = 2 ^ 8 from rfl, ← Nat.pow_mul, ← Nat.pow_mul]
  exact ⟨Nat.le_trans (Nat.pow_le_pow_right (by omega) (by omega)) h2, Nat.lt_of_lt_of_le h3 (Nat.pow_le_pow_right (by omega) (by omega))⟩

/-- how many digits b begins with -/
def dn (b : Bs) : Nat := (b.takeWhile isDigit).length
/-- the two indexes, behind i bytes -/
def sfirst (b : Bs) (i : Nat) : Int := if fz (b.take i) = i then -1 else fz (b.take i)
theorem lz_append (a b : Bs) : lz (a ++ b) = if lz b = -1 then lz a else a.length + lz b := by
  induction b using rev_ind with
  | h0 => simp [lz]
  | h1 b c ih =>
    rw [← List.append_assoc, lz_snoc, lz_snoc, ih]
    by_cases hc : c = 48
    · simp [hc]
    · simp [hc]
theorem take_add (b : Bs) (i j : Nat) : b.take (i + j) = b.take i ++ (b.drop i).take j := by rw [List.take_add]
/-- a round of eight -/
theorem sfirst_step (b : Bs) (i n : Nat) (h : i + n ≤ b.length) : sfirst b (i + n) = if fz (b.take i) = i then (if fz ((b.drop i).take n) = n then (-1 : Int) else i + fz ((b.drop i).take n)) else fz (b.take i) := by
  have hl : (b.take i).length = i := by simp; omega
  have hl2 : ((b.drop i).take n).length = n := by simp; omega
  have hf := fz_le (b.take i)
  unfold sfirst
  rw [take_add]
  by_cases h1 : fz (b.take i) = i
  · rw [if_pos h1, fz_append_all (by rw [h1, hl]), hl]
    by_cases h2 : fz ((b.drop i).take n) = n
    · rw [if_pos (by omega), if_pos h2]
    · rw [if_neg (by omega), if_neg h2]; omega
  · rw [if_neg h1, fz_append_lt (by omega), if_neg (by omega)]
theorem dn_ge (b : Bs) (i : Nat) (h : i ≤ b.length) (hd : ∀ c ∈ b.take i, isDigit c = true) : i ≤ dn b := by
  unfold dn
  have e : b = b.take i ++ b.drop i := (List.take_append_drop i b).symm
  rw [e, List.takeWhile_append_of_pos hd]
  simp; omega
theorem dn_eq (b : Bs) (i : Nat) (h : i ≤ b.length) (hd : ∀ c ∈ b.take i, isDigit c = true) (hn : ∀ c, b[i]? = some c → isDigit c = false) : dn b = i := by
  unfold dn
  have e : b = b.take i ++ b.drop i := (List.take_append_drop i b).symm
  rw [e, List.takeWhile_append_of_pos hd]
  have : (b.drop i).takeWhile isDigit = [] := by
    cases hc : b.drop i with
    | nil => rfl
    | cons c l =>
      have : b[i]? = some c := by rw [← List.getElem?_drop_zero' b i, hc]; rfl
      rw [List.takeWhile_cons, if_neg (by rw [hn c this]; simp)]
  rw [this]
  simp; omega
where
  List.getElem?_drop_zero' (b : Bs) (i : Nat) : (b.drop i)[0]? = b[i]? := by simp

theorem leval_eq : ∀ l : Bs, Lib.leNat l = leval l
  | [] => rfl
  | c :: l => by rw [Lib.leNat, leval, leval_eq l]
theorem bitLen_last (l : Bs) (hl : ∀ c ∈ l, 48 ≤ c.toNat ∧ c.toNat ≤ 57) (hx : vals l ≠ 0) (h8 : l.length = 8) : 1 ≤ Lib.bitLen (vals l) ∧ Lib.bitLen (vals l) ≤ 64 ∧ lz l = (((Lib.bitLen (vals l) - 1) / 8 : Nat) : Int) := by
  have hlt := vals_lt l hl
  rw [h8] at hlt
  obtain ⟨h1, h2, h3⟩ := Lib.bitLenAux_bounds 64 (vals l) (by simpa using hlt) hx
  have h4 := len_byte _ _ h1 h2 h3
  exact ⟨h1, Lib.bitLen_le _ 64 (by omega) (by simpa using hlt), vals_last l hl _ h4.1 h4.2⟩
end Go.Proofs.Qxb6616348aDoor
