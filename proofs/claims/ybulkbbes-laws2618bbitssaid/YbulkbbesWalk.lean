/- LawS2618BBits (function 3) and what it calls: the walks. -/
import Derived.Test.YbulkbbesRows
import Derived.Test.YbulkbbesPlain
import Derived.WalkKit
import Derived.WalkSpells
import Derived.WalkLawsBesides
namespace Go.Proofs.Ybulkbbes
open Go.RowKit

theorem hide {p : Prop} (h : p) : Hid p := h
theorem unhide {p : Prop} (h : Hid p) : p := h

theorem from_bits (n : Int) (w : World) : (callFunc 9 #[.int .u64 n]).run Yba.prog w = .ok (.value (.float .f64 n.toNat)) w := by
  rw [@run_callFunc_extern Yba.prog 9 _ Extern.MathFloatBits.float64frombits Yba.func9 (by kernel_rfl) (by kernel_rfl) (by kernel_rfl) (by kernel_rfl)]
  rfl
theorem to_bits (n : Nat) (w : World) : (callFunc 8 #[.float .f64 n]).run Yba.prog w = .ok (.value (.int .u64 n)) w := by
  rw [@run_callFunc_extern Yba.prog 8 _ Extern.MathFloatBits.float64bits Yba.func8 (by kernel_rfl) (by kernel_rfl) (by kernel_rfl) (by kernel_rfl)]
  rfl

/-- the sign turned -/
def flip (n : Nat) : Nat := n ^^^ big

theorem neg_float (n : Nat) : Op.unary .neg (.float .f64 n) = pure (.float .f64 (flip n)) := rfl

set_option maxHeartbeats 400000 in
theorem at_neg (r : Int) (m : Nat) (w : World) (h0 : r < 0) (hm : IntKind.u64.wrap (wrap64 (-r)) = (m : Int)) :
    Calls Yba.prog 5 #[.int .i64 r] w fun e w' => e = .returned (.float .f64 (flip m)) ∧ w' = w := by
  have hb := from_bits
  have hn := neg_float
  go_enter Yba.func5, Yba.ntmps5
  go_wp2
  go_ret
  exact ⟨rfl, rfl⟩

set_option maxHeartbeats 400000 in
theorem at_pos (r : Nat) (w : World) (hw : IntKind.u64.wrap (r : Int) = (r : Int)) :
    Calls Yba.prog 5 #[.int .i64 (r : Int)] w fun e w' => e = .returned (.float .f64 r) ∧ w' = w := by
  have hb := from_bits
  have hp : ¬ (r : Int) < 0 := by omega
  go_enter Yba.func5, Yba.ntmps5
  go_wp2
  go_ret
  exact ⟨rfl, rfl⟩

set_option maxHeartbeats 400000 in
theorem nan_calls (n : Nat) (w : World) (hn : n < 2 ^ 64) :
    Calls Yba.prog 6 #[.int .u64 (n : Int)] w fun e w' => (∃ b, e = .returned (.bool b) ∧ (b = true → n &&& expo = expo ∧ n &&& frac ≠ 0)) ∧ w' = w := by
  have e1 : bits .and .u64 (n : Int) 9218868437227405312 = ((n &&& expo : Nat) : Int) := and_u64 n expo hn (by decide)
  have e2 : bits .and .u64 (n : Int) 4503599627370495 = ((n &&& frac : Nat) : Int) := and_u64 n frac hn (by decide)
  have H1 : Hid (((n &&& expo : Nat) : Int) = 9218868437227405312 → n &&& expo = expo) := hide (fun h => by unfold expo at *; omega)
  have H2 : Hid (((n &&& frac : Nat) : Int) ≠ 0 → n &&& frac ≠ 0) := hide (fun h => by omega)
  generalize n &&& expo = x at *
  generalize n &&& frac = y at *
  by_cases h1 : ((x : Int) == 9218868437227405312) = true
  · by_cases h2 : ((y : Int) != 0) = true
    · go_enter Yba.func6, Yba.ntmps6
      go_wp2
      go_ret
      exact ⟨⟨true, rfl, fun _ => ⟨(unhide H1) (by simpa using h1), (unhide H2) (by simpa using h2)⟩⟩, rfl⟩
    · have h2' : ((y : Int) != 0) = false := by simpa using h2
      clear h2
      go_enter Yba.func6, Yba.ntmps6
      go_wp2
      go_ret
      exact ⟨⟨false, rfl, fun h => by cases h⟩, rfl⟩
  · have h1' : ((x : Int) == 9218868437227405312) = false := by simpa using h1
    clear h1
    go_enter Yba.func6, Yba.ntmps6
    go_wp2
    go_ret
    exact ⟨⟨false, rfl, fun h => by cases h⟩, rfl⟩

set_option maxHeartbeats 400000 in
theorem isnan_calls (n : Nat) (w : World) (h : (Ieee.double.order n n != some .eq) = true) :
    Calls Yba.prog 7 #[.float .f64 n] w fun e w' => e = .returned (.bool true) ∧ w' = w := by
  have hf : (FloatKind.f64.format.order n n != some .eq) = true := h
  clear h
  go_enter Yba.func7, Yba.ntmps7
  go_wp2
  go_ret
  exact ⟨rfl, rfl⟩

set_option maxHeartbeats 400000 in
/-- the law's walk, behind 'doubleAt': f has the bits that are wanted -/
theorem law_calls (r : Int) (w : World) (h0 : -9223372036854775808 ≤ r) (h1 : r ≤ 9223372036854775807) :
    Calls Yba.prog 3 #[.int .i64 r] w fun e w' => e = .returned (.bool true) ∧ Grown w w' := by
  have hb := to_bits
  by_cases hneg : r < 0
  · obtain ⟨m, hm⟩ := Int.eq_ofNat_of_zero_le (show 0 ≤ -r by omega)
    have hw1 : IntKind.u64.wrap (wrap64 (-r)) = (m : Int) := by rw [IntKind.wrap_u64]; unfold wrap64; omega
    have H5 := hide (at_neg r m w hneg hw1)
    have hml : m < 2 ^ 64 := by omega
    have hfl : flip m < 2 ^ 64 := Nat.xor_lt_two_pow hml (by decide)
    have hx : bits .xor .u64 (m : Int) 9223372036854775808 = ((flip m : Nat) : Int) := xor_u64 m big hml (by decide)
    have hw2 : IntKind.u64.wrap (-IntKind.u64.wrap r) = (m : Int) := by rw [IntKind.wrap_u64, IntKind.wrap_u64]; omega
    generalize flip m = f at *
    have Hfl := hide hfl
    clear hw1 hfl hml hm
    go_enter Yba.func3, Yba.ntmps3
    go_wp2_with fail
    refine (unhide H5).mono ?_
    rintro e w' ⟨rfl, rfl⟩
    go_wp2_with fail
    refine (nan_calls f _ (unhide Hfl)).mono ?_
    rintro e w' ⟨⟨b, rfl, hnan⟩, rfl⟩
    cases b with
    | true =>
      have Hn := hide (nan_order f (hnan rfl).1 (hnan rfl).2)
      clear hnan
      go_wp2_with fail
      refine (isnan_calls f _ (unhide Hn)).mono ?_
      rintro e w' ⟨rfl, rfl⟩
      go_wp2
      go_ret
      exact ⟨rfl, Grown.refl _⟩
    | false =>
      clear hnan
      go_wp2
      go_ret
      exact ⟨by simp, Grown.refl _⟩
  · obtain ⟨f, rfl⟩ := Int.eq_ofNat_of_zero_le (show 0 ≤ r by omega)
    have hw1 : IntKind.u64.wrap (f : Int) = (f : Int) := by rw [IntKind.wrap_u64]; omega
    have H5 := hide (at_pos f w hw1)
    have Hfl : Hid (f < 2 ^ 64) := hide (by omega)
    go_enter Yba.func3, Yba.ntmps3
    go_wp2_with fail
    refine (unhide H5).mono ?_
    rintro e w' ⟨rfl, rfl⟩
    go_wp2_with fail
    refine (nan_calls f _ (unhide Hfl)).mono ?_
    rintro e w' ⟨⟨b, rfl, hnan⟩, rfl⟩
    cases b with
    | true =>
      have Hn := hide (nan_order f (hnan rfl).1 (hnan rfl).2)
      clear hnan
      go_wp2_with fail
      refine (isnan_calls f _ (unhide Hn)).mono ?_
      rintro e w' ⟨rfl, rfl⟩
      go_wp2
      go_ret
      exact ⟨rfl, Grown.refl _⟩
    | false =>
      clear hnan
      go_wp2
      go_ret
      exact ⟨by simp, Grown.refl _⟩

end Go.Proofs.Ybulkbbes
