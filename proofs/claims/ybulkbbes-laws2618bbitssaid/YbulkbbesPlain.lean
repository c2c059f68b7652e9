/- The plain facts on the bits of a double: no walk in sight. -/
import Ieee.Arith
import Derived.Laws.BitsLemmas
namespace Go.Proofs.Ybulkbbes

def big : Nat := 9223372036854775808
def expo : Nat := 9218868437227405312
def frac : Nat := 4503599627370495

theorem wraps_u64 (n : Int) (h0 : 0 ≤ n) (h1 : n < 2 ^ 64) : IntKind.u64.wrap n = n := by
  have : IntKind.u64.wrap n = n % 18446744073709551616 := by simp [IntKind.wrap, IntKind.bits, IntKind.signed]
  rw [this]
  omega

theorem and_u64 (a b : Nat) (ha : a < 2 ^ 64) (hb : b < 2 ^ 64) : bits .and .u64 a b = ((a &&& b : Nat) : Int) :=
  (bits_nat .u64 64 (by decide) wraps_u64 a b ha hb).1

theorem xor_u64 (a b : Nat) (ha : a < 2 ^ 64) (hb : b < 2 ^ 64) : bits .xor .u64 a b = ((a ^^^ b : Nat) : Int) := by
  have ha' : a % 2 ^ IntKind.u64.bits = a := Nat.mod_eq_of_lt ha
  have hb' : b % 2 ^ IntKind.u64.bits = b := Nat.mod_eq_of_lt hb
  simp only [bits, BitVec.ofInt_natCast, BitVec.toNat_xor, BitVec.toNat_ofNat, ha', hb']
  exact wraps_u64 _ (Int.natCast_nonneg _) (by exact_mod_cast Nat.xor_lt_two_pow ha hb)

theorem frac_mod (n : Nat) : n &&& frac = n % 2 ^ 52 := by
  have : frac = 2 ^ 52 - 1 := by decide
  rw [this, Nat.and_two_pow_sub_one_eq_mod]

theorem expo_div (n : Nat) : n &&& expo = (n / 2 ^ 52 % 2 ^ 11) * 2 ^ 52 := by
  have e : expo = (2 ^ 11 - 1) <<< 52 := by decide
  rw [e]
  have h : n &&& ((2 ^ 11 - 1) <<< 52) = ((n >>> 52) &&& (2 ^ 11 - 1)) <<< 52 := by
    apply Nat.eq_of_testBit_eq
    intro i
    simp only [Nat.testBit_and, Nat.testBit_shiftLeft, Nat.testBit_shiftRight]
    by_cases hi : 52 ≤ i
    · have : 52 + (i - 52) = i := by omega
      simp [hi, this]
    · simp [hi]
  rw [h, Nat.and_two_pow_sub_one_eq_mod, Nat.shiftRight_eq_div_pow, Nat.shiftLeft_eq]

/-- all exponent bits set and some fraction bit: a NaN -/
theorem nan_order (n : Nat) (h1 : n &&& expo = expo) (h2 : n &&& frac ≠ 0) : (Ieee.double.order n n != some .eq) = true := by
  rw [expo_div] at h1
  rw [frac_mod] at h2
  have hr : n % 2 ^ 63 > Ieee.double.infRung := by
    have e1 : Ieee.double.infRung = 9218868437227405312 := by decide
    have e2 : expo = 9218868437227405312 := rfl
    rw [e1]
    rw [e2] at h1
    omega
  have hd : ∃ s t, Ieee.double.read n = .nan s t := by
    have e3 : Ieee.double.signWeight = 2 ^ 63 := by decide
    have e4 : Ieee.double.binade = 2 ^ 52 := by decide
    have e1 : Ieee.double.infRung = 9218868437227405312 := by decide
    unfold Ieee.Format.read
    simp only [e3, e4, e1]
    rw [e1] at hr
    rw [if_neg (by omega), if_neg (by omega), if_neg (by omega)]
    exact ⟨_, _, rfl⟩
  obtain ⟨s, t, hd⟩ := hd
  unfold Ieee.Format.order
  rw [hd]
  rfl

end Go.Proofs.Ybulkbbes
