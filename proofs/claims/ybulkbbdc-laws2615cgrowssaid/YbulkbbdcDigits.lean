/- leadingDigits (function 7): its contract. -/
import Derived.Test.YbulkbbdcRows
import Derived.WalkKit
import Derived.WalkSpells
import Derived.WalkLawsBesides
namespace Go.Proofs.Ybulkbbdc
open Go.RowKit

theorem hide {p : Prop} (h : p) : Hid p := h
theorem unhide {p : Prop} (h : Hid p) : p := h

/-- the byte at place i is an ASCII digit -/
def digB (s : ByteArray) (i : Nat) : Prop := ∃ h : i < s.size, 48 ≤ (s[i].toNat : Int) ∧ (s[i].toNat : Int) ≤ 57

/-- n is the number of digits at the head of s -/
def IsLead (s : ByteArray) (n : Nat) : Prop := n ≤ s.size ∧ (∀ i, i < n → digB s i) ∧ ¬ digB s n

set_option maxHeartbeats 400000 in
theorem lead_calls (s : ByteArray) (w : World) (hs : s.size ≤ maxLen) :
    Calls Yba.prog 7 #[.string s] w fun e w' => (∃ n : Nat, e = .returned (.int .i64 n) ∧ IsLead s n) ∧ w' = w := by
  unfold maxLen at hs
  go_enter Yba.func7, Yba.ntmps7
  go_wp2
  go_loop [3] (fun n => ∃ k : Nat, k ≤ s.size ∧ n = .int .i64 k ∧ Hid (∀ i, i < k → digB s i)) (fun n => s.size - (intOf n).toNat)
  case atStart => exact ⟨0, Nat.zero_le _, rfl, hide (fun i hi => by omega)⟩
  case round =>
    obtain ⟨k, hk, rfl, hd⟩ := hrel
    by_cases hlt : k < s.size
    · by_cases h1 : 48 ≤ (s[k].toNat : Int)
      · by_cases h2 : (s[k].toNat : Int) ≤ 57
        · go_wp2
          go_round
          case rel =>
            refine ⟨k + 1, by omega, by go_num, hide (fun i hi => ?_)⟩
            by_cases e : i = k
            · subst e; exact ⟨hlt, h1, h2⟩
            · exact (unhide hd) i (by omega)
          case measure => simp [intOf]; omega
        · go_wp2
          go_ret
          exact ⟨⟨k, rfl, hk, unhide hd, fun ⟨_, a, b⟩ => by omega⟩, rfl⟩
      · go_wp2
        go_ret
        exact ⟨⟨k, rfl, hk, unhide hd, fun ⟨_, a, b⟩ => by omega⟩, rfl⟩
    · go_wp2
      go_ret
      exact ⟨⟨k, rfl, hk, unhide hd, fun ⟨a, _⟩ => by omega⟩, rfl⟩

end Go.Proofs.Ybulkbbdc
