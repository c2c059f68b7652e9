/- NewCounting, N and Count (functions 5, 6, 8), the law's own closure (4), context.Background (7). -/
import Derived.Test.YbulkbbeeCount9
import Derived.Test.YbulkbbeeLocks
import Derived.Conc.MuLone
import Derived.Maps.Own
import Derived.Maps.OwnOps
import Derived.Maps.OwnSet
import Derived.Maps.Views
namespace Go.Proofs.Ybulkbbee
open Go.RowKit Go.WideMaps Go.Maps Go.MuLone

theorem law9 : Keyed Yba.prog 9 := string_keyed Yba.underlying9
theorem zero3 (w : World) : (zeroValue 3).run Yba.prog w = .ok (.int .i64 0) w := by kernel_rfl

/-- the datum of a number -/
abbrev num (n : Nat) : DataW Unit := .lit (.int .i64 n)

/-- A Counting in memory, its lock free: the function that it wraps; a map that counts -/
structure Cnt (w : World) (gc gm : Nat) (f : Value) (n : Nat) (c : ByteArray → Nat) : Prop where
  row : RowAt w gc 44 [f, .int .i32 0, .int .u32 0, .map (some gm)]
  ne : gm ≠ gc
  map : ∃ D : DataW Unit, w.ownsMap Yba.prog 9 (plainElem Yba.prog 3) gm n D ∧ ∀ s : ByteArray, s.size ≤ maxLen → D.atKey (.string s.data.toList) (num 0) = num (c s)

set_option maxHeartbeats 400000 in
theorem n_calls (gc gm : Nat) (f : Value) (n : Nat) (c : ByteArray → Nat) (s : ByteArray) (hs : s.size ≤ maxLen) (w : World) (h : Cnt w gc gm f n c) :
    Calls Yba.prog 6 #[.pointer (some ⟨gc, 0, none⟩), .string s] w fun e w' => e = .returned (.int .i64 (c s)) ∧ w' = w := by
  obtain ⟨D, hown, hat⟩ := h.map
  have hats := hat s hs
  have hkey : keyOf Yba.prog 9 (.string s) = some (.string s.data.toList) := keyOf_string_mk Yba.underlying9 hs
  have c1 : w.cell? ⟨gc, 1, none⟩ = some (.int .i32 0) := h.row.cell 1
  have f1 := h.row.free 1
  have c3 : w.cell? ⟨gc, 3, none⟩ = some (.map (some gm)) := h.row.cell 3
  have hown1 := hown.setCell (a := ⟨gc, 1, none⟩) h.ne (.int .i32 1)
  have hback := set_back h.row (i := 1) (x := .int .i32 0) rfl (.int .i32 1)
  have Hats := hide hats
  have Hback := hide hback
  clear hat hats hback
  go_enter_defers Yba.func6, Yba.ntmps6
  go_wp2_with (first
    | (go_at_call 10; refine (lock_free Yba.muLib ⟨gc, 1, none⟩ _ c1 f1).mono ?_; rintro e w' ⟨rfl, rfl⟩)
    | (at_lookup; refine wpList_lookup_own_int _ rfl _ _ 35 rfl 9 3 .i64 law9 Yba.underlying35 Yba.underlying3 (zero3 _) gm n D rfl hown1 _ _ rfl hkey ?_; intro v hv hwv))
  refine leaves_cons (f := 11) (args := #[.pointer (some ⟨gc, 1, none⟩)]) (by simp) (by simp [go_sem]) ?_
  refine (unlock_deferred Yba.muLib ⟨gc, 1, none⟩ .returning _ ?_ ?_).mono ?_
  · exact World.cell?_setCell_same w ⟨gc, 1, none⟩ (.int .i32 1) c1
  · simp [f1]
  rintro e u' w'' ⟨rfl, rfl, rfl⟩
  refine ⟨_, results_tmp rfl _ _ _, ?_, unhide Hback⟩
  have := hv.symm.trans (unhide Hats)
  simp [num] at this
  rw [this]
  rfl

end Go.Proofs.Ybulkbbee
