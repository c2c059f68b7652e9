/- sort.Search of nothing, findSibling in an empty table (functions 18, 15). -/
import Derived.Test.YbulkbbcaPrefix
namespace Go.Proofs.Ybulkbbca
open Go.RowKit

set_option maxHeartbeats 1000000 in
set_option maxRecDepth 100000 in
theorem search_calls (f : Value) (w : World) :
    Calls Yba.prog 18 #[.int .i64 0, f] w fun e w' => e = .returned (.int .i64 0) ∧ w' = w := by
  go_enter Yba.func18, Yba.ntmps18
  go_wp2_with fail
  go_loopw [5, 6] (fun c5 c6 wr => c5 = .int .i64 0 ∧ c6 = .int .i64 0 ∧ wr = w) (fun _ _ _ => 0)
  case atStart => exact ⟨rfl, rfl, rfl⟩
  case round =>
    obtain ⟨rfl, rfl, rfl⟩ := hrel
    go_wp2_with fail
    go_ret
    exact ⟨rfl, rfl⟩

theorem tabc_at (i : Nat) (h : 33 ≤ i ∧ i ≤ 35) : tabc[i]? = some (.slice none 0 0) := by
  obtain rfl | rfl | rfl : i = 33 ∨ i = 34 ∨ i = 35 := by omega
  all_goals rfl

set_option maxHeartbeats 1000000 in
set_option maxRecDepth 100000 in
theorem sib_calls (T : Nat) (xs : List Int) (w : World) (hT : RowAt w T 37 tabc) :
    Calls Yba.prog 15 #[.pointer (some ⟨T, 0, none⟩), .agg (u8s xs).toArray] w fun e w' => e = .returned (.tuple #[.int .i64 0, .bool false]) ∧ Below w.heap.size w w' := by
  generalize hw2 : ((w.alloc (.cells #[.pointer (some ⟨T, 0, none⟩)] 31)).alloc (.cells (u8s xs).toArray 32)) = w2
  have hb2 : Below w.heap.size w w2 := by rw [← hw2]; exact ((Below.refl _ _).alloc (Nat.le_refl _) _).alloc (by simp) _
  have r0 : RowAt w2 w.heap.size 31 [.pointer (some ⟨T, 0, none⟩)] := by rw [← hw2]; exact (row_new w [.pointer (some ⟨T, 0, none⟩)] 31).alloc _
  have rT : RowAt w2 T 37 tabc := by rw [← hw2]; exact (hT.alloc _).alloc _
  have c0 : w2.cell? ⟨w.heap.size, 0, none⟩ = some (.pointer (some ⟨T, 0, none⟩)) := by rw [r0.cell]; rfl
  have cT : w2.cell? ⟨T, 34, none⟩ = some (.slice none 0 0) := by rw [rT.cell, tabc_at 34 (by omega)]
  have Hb2 := hide hb2
  have HS := hide search_calls
  clear r0 hb2 rT hT
  go_enter Yba.func15, Yba.ntmps15
  go_wp2_with (first
    | (with_reducible refine wpList_box_row rfl 32 (.tmp 1) rfl (u8s xs).toArray rfl ?_)
    | (go_at_call 18; refine (unhide HS _ _).mono ?_; rintro e w3 ⟨rfl, rfl⟩))
  go_quiet (fail)
  go_wp2_with ((go_at_call 18; refine (unhide HS _ _).mono ?_; rintro e w3 ⟨rfl, rfl⟩))
  go_quiet (fail)
  go_wp2_with fail
  go_ret2
  exact ⟨rfl, below_drewN (below_drewN (unhide Hb2) _) _⟩

end Go.Proofs.Ybulkbbca
