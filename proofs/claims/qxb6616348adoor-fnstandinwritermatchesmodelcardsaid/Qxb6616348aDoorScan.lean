import Derived.Test.Qxb6616348aDoorScanP
import Derived.Test.Qxb6616348aDoorShelf
import Derived.Laws.BitsLemmas
set_option linter.unusedSimpArgs false
set_option linter.unusedVariables false
namespace Go.Proofs.Qxb6616348aDoor
open Go.RowKit

theorem wraps64 (n : Int) (h₀ : 0 ≤ n) (h₁ : n < 2 ^ 64) : IntKind.u64.wrap n = n := by rw [IntKind.wrap_u64]; omega
theorem band (a b : Nat) (ha : a < 18446744073709551616) (hb : b < 18446744073709551616) : bits .and .u64 (a : Int) (b : Int) = ((a &&& b : Nat) : Int) := (bits_nat .u64 64 (by decide) wraps64 a b ha hb).1
theorem bxor (a b : Nat) (ha : a < 18446744073709551616) (hb : b < 18446744073709551616) : bits .xor .u64 (a : Int) (b : Int) = ((a ^^^ b : Nat) : Int) := by
  have ha' : a % 2 ^ IntKind.u64.bits = a := Nat.mod_eq_of_lt ha
  have hb' : b % 2 ^ IntKind.u64.bits = b := Nat.mod_eq_of_lt hb
  simp only [bits, BitVec.ofInt_natCast, BitVec.toNat_xor, BitVec.toNat_ofNat, ha', hb']
  have hlt : a ^^^ b < 2 ^ 64 := Nat.xor_lt_two_pow ha hb
  exact wraps64 _ (Int.natCast_nonneg _) (by exact_mod_cast hlt)
/-- the laid table -/
def Tab (w : World) : Prop := ∀ i v : Nat, tzTab[i]? = some v → w.cell? ⟨2, i, none⟩ = some (.int .u8 v)

set_option maxHeartbeats 2000000 in
set_option maxRecDepth 100000 in
theorem tz_any (w : World) (x : Nat) (h0 : 0 < x) (hx : x < 18446744073709551616) (hT : Tab w) :
    Calls Tryd.prog 28 #[.int .u64 x] w fun e w' => ∃ k : Nat, k < 64 ∧ e = .returned (.int .i64 k) ∧ x % 2 ^ k = 0 ∧ x / 2 ^ k % 2 = 1 ∧ w' = w := by
  have hne : ((x : Int) == 0) = false := by rw [beq_eq_false_iff_ne]; omega
  obtain ⟨k, hk, h1, h2, h3⟩ := lowbit 64 x h0 hx
  obtain ⟨i, hi⟩ : ∃ i, i = (2 ^ k * 285870213051353865 % 18446744073709551616) / 288230376151711744 := ⟨_, rfl⟩
  have ht := tz_tab k hk
  rw [← hi] at ht
  have hcell := hT i k ht
  have hi64 : (0 : Int) ≤ (i : Int) ∧ (i : Int) < 64 := by omega
  have hw1 : IntKind.u64.wrap (-(x : Int)) = ((18446744073709551616 - x : Nat) : Int) := by rw [IntKind.wrap_u64]; omega
  have hb : bits .and .u64 (x : Int) ((18446744073709551616 - x : Nat) : Int) = ((2 ^ k : Nat) : Int) := by
    rw [band x _ hx (by omega)]
    exact congrArg _ h1
  have hw2 : IntKind.u64.wrap (bits .and .u64 (x : Int) (IntKind.u64.wrap (-(x : Int))) * 285870213051353865) / 288230376151711744 = (i : Int) := by
    rw [hw1, hb, IntKind.wrap_u64, hi]
    generalize 2 ^ k = P
    omega
  have HX : Hid (x % 2 ^ k = 0 ∧ x / 2 ^ k % 2 = 1) := ⟨h2, h3⟩
  clear hb hw1 h1 h2 h3 hi ht hT
  go_enter Tryd.func28, Tryd.ntmps28
  go_wp2_with fail
  go_ret
  exact ⟨k, hk, rfl, HX.out.1, HX.out.2, rfl⟩
end Go.Proofs.Qxb6616348aDoor
