/- zzs2615ceq (function 12) at two slices that hold the same numbers. -/
import Derived.Test.YbulkbbdcMem
namespace Go.Proofs.Ybulkbbdc
open Go.RowKit Gr

set_option maxHeartbeats 400000 in
theorem eq_calls (xs : List Int) (v1 v2 : Value) (o1 p1 o2 p2 : Nat) (w : World) (h1 : SlAt w o1 p1 v1 xs) (h2 : SlAt w o2 p2 v2 xs) (hl : xs.length ≤ 1000) :
    Calls Yba.prog 12 #[v1, v2] w fun e w' => e = .returned (.bool true) ∧ ∃ m, w' = w.drewN m := by
  obtain ⟨a1, c1, rfl⟩ := h1.form
  obtain ⟨a2, c2, rfl⟩ := h2.form
  generalize hn : xs.length = n at *
  have Hn := hide hn
  have H1 := hide h1
  have H2 := hide h2
  clear hn h1 h2
  have hne : ((n : Int) != (n : Int)) = false := by simp
  go_enter Yba.func12, Yba.ntmps12
  go_wp2_with fail
  go_loopw [5] (fun i wr => ∃ k : Nat, k ≤ n ∧ i = .int .i64 k ∧ ∃ m, wr = w.drewN m) (fun i _ => n - (intOf i).toNat)
  case atStart => exact ⟨0, Nat.zero_le _, rfl, 0, rfl⟩
  case round =>
    obtain ⟨k, hk, rfl, m, rfl⟩ := hrel
    by_cases hlt : k < n
    · obtain ⟨g1, d1, e1, _, f1⟩ := (unhide H1).many (by rw [unhide Hn]; omega)
      obtain ⟨g2, d2, e2, _, f2⟩ := (unhide H2).many (by rw [unhide Hn]; omega)
      simp only [Value.slice.injEq] at e1 e2
      obtain ⟨rfl, -, rfl⟩ := e1
      obtain ⟨rfl, -, rfl⟩ := e2
      have q1 := f1 k (by rw [unhide Hn]; exact hlt)
      have q2 := f2 k (by rw [unhide Hn]; exact hlt)
      clear f1 f2
      generalize nth xs k = x at *
      have hx : (x != x) = false := by simp
      go_wp2_with fail
      go_quiet (fail)
      go_wp2
      go_roundw
      case rel => exact ⟨k + 1, by omega, by go_num, m + nq, rfl⟩
      case measure => simp [intOf]; omega
    · go_wp2
      go_ret
      exact ⟨rfl, m, rfl⟩

end Go.Proofs.Ybulkbbdc
