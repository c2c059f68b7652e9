/- zzs2617bcount (function 9). -/
import Derived.Test.YbulkbbeeMem
namespace Go.Proofs.Ybulkbbee
open Go.RowKit

/-- how often s stands among the first k of ss -/
def occ (ss : List ByteArray) (k : Nat) (s : ByteArray) : Nat := (ss.take k).countP fun t => t.data.toList == s.data.toList

theorem occ_zero (ss : List ByteArray) (s : ByteArray) : occ ss 0 s = 0 := by simp [occ]
theorem occ_succ (ss : List ByteArray) (k : Nat) (h : k < ss.length) (s : ByteArray) : occ ss (k + 1) s = occ ss k s + if (ss[k].data.toList == s.data.toList) = true then 1 else 0 := by
  unfold occ
  rw [List.take_succ_eq_append_getElem h, List.countP_append]
  rw [List.countP_singleton]
theorem occ_le (ss : List ByteArray) (k : Nat) (s : ByteArray) : occ ss k s ≤ k := by
  unfold occ
  have h1 := List.countP_le_length (p := fun t : ByteArray => t.data.toList == s.data.toList) (l := ss.take k)
  have h2 := List.length_take_le k ss
  omega

set_option maxHeartbeats 400000 in
theorem cnt_calls (a : Option Addr) (len cap : Nat) (ss : List ByteArray) (q : ByteArray) (w : World) (h : ArgStrs w a len ss) (hl : len ≤ 1024) :
    Calls Yba.prog 9 #[.slice a len cap, .string q] w fun e w' => e = .returned (.int .i64 (occ ss len q)) ∧ w' = w := by
  have H := hide h
  clear h
  go_enter Yba.func9, Yba.ntmps9
  go_wp2
  go_loop [5, 6] (fun n i => ∃ k : Nat, k ≤ len ∧ i = .int .i64 k ∧ n = .int .i64 (occ ss k q)) (fun _ i => len - (intOf i).toNat)
  case atStart => exact ⟨0, Nat.zero_le _, rfl, by rw [occ_zero]; rfl⟩
  case round =>
    obtain ⟨k, hk, rfl, rfl⟩ := hrel
    have hoc := occ_le ss k q
    by_cases hlt : k < len
    · obtain ⟨b, off, rfl, hb, hc⟩ := (unhide H).many (by omega)
      have hks : k < ss.length := by rw [(unhide H).ln]; exact hlt
      have c := hc k hks
      have hs := occ_succ ss k hks q
      rw [← ByteArray.toList_eq, ← ByteArray.toList_eq] at hs
      generalize ss[k] = s at *
      generalize occ ss k q = n at *
      have Hs := hide hs
      clear hc hs
      by_cases he : (s.toList == q.toList) = true
      · go_wp2
        go_round
        case rel => exact ⟨k + 1, by omega, by go_num, by rw [unhide Hs, if_pos he]; go_num⟩
        case measure => simp [intOf]; omega
      · have he' : (s.toList == q.toList) = false := by simpa using he
        clear he
        go_wp2
        go_round
        case rel => exact ⟨k + 1, by omega, by go_num, by rw [unhide Hs, he']; go_num⟩
        case measure => simp [intOf]; omega
    · obtain rfl : len = k := by omega
      go_wp2
      go_ret
      exact ⟨rfl, rfl⟩

end Go.Proofs.Ybulkbbee
