/- The law's own closure (4), Count (8), NewCounting (5), context.Background (7). -/
import Derived.Test.YbulkbbeeN
namespace Go.Proofs.Ybulkbbee
open Go.RowKit Go.WideMaps Go.Maps Go.MuLone

theorem info9 : (Yba.prog.info? 9).map (fun i => (i.zero, i.size, i.bytes)) = some (some (.string ByteArray.empty), 1, 16) := by kernel_rfl

/-- the captured log in memory -/
structure Log (w : World) (gl B : Nat) (ls : List ByteArray) : Prop where
  all : ∃ lv, RowAt w gl 22 [lv] ∧ w.ownsRow B 9 1 lv ls.length (ls.map Value.string)
  gl : gl < B
  bs : B ≤ w.heap.size

/-- the closure's value -/
def clo (gl : Nat) : Value := .func (Fn.func 4) #[] #[.pointer (some ⟨gl, 0, none⟩)]

def lex (gl B : Nat) (k : Nat) : Prop := k = gl ∨ B ≤ k

set_option maxHeartbeats 400000 in
theorem clo_calls (ctx : Value) (s : ByteArray) (gl B : Nat) (ls : List ByteArray) (w : World) (hlog : Log w gl B ls) (hl : ls.length ≤ 1024) :
    Calls Yba.prog 4 #[ctx, .string s, .pointer (some ⟨gl, 0, none⟩)] w fun e w' => e = .returned (.tuple #[.string s, .nilIface]) ∧ Log w' gl B (ls ++ [s]) ∧ Kept (lex gl B) w w' := by
  obtain ⟨lv, hrow, hown⟩ := hlog.all
  have hgl := hlog.gl
  have hbs := hlog.bs
  have c0 : w.cell? ⟨gl, 0, none⟩ = some lv := hrow.cell 0
  obtain ⟨i0, hi, hz0, hz1, hz2⟩ := info_parts info9
  have Hrow := hide hrow
  clear hrow hlog
  go_enter Yba.func4, Yba.ntmps4
  go_wp2_with (at_builtin; refine wpList_append_own _ rfl _ _ 22 rfl B 9 i0 (.string ByteArray.empty) 1 16 Yba.underlying22 hi hz0 hz1 hz2 rfl (by decide) _ ls.length _ rfl (hown.alloc _) ⟨w.heap.size, 0, none⟩ 1 1 [.string s] rfl rfl (one_new rfl _ _) (oneCell_str _) (by unfold maxLen; omega) (by omega) (by simp; omega) ?_)
  intro v' w2 hown2 hgrow2 _
  obtain ⟨va, vc, rfl⟩ := own_form hown2
  have hblk : ∀ k, lv.ownBlock = some k → B ≤ k := fun k hk => (hown.lt k hk).1
  have kp : Kept (lex gl B) w w2 := ((Kept.refl _ w).alloc (.inr hbs) _).grown hgrow2 (fun k hk => .inr (hblk k hk)) (fun k hk => .inr (by simp at hk; omega))
  have old : w2.heap[gl]? = w.heap[gl]? := by
    have h1 := hgrow2.block gl (by simp; omega) (fun e => by have := hblk gl e.symm; omega)
    rw [h1]
    exact Below.heap_alloc w _ gl (by omega)
  have hrow2 : RowAt w2 gl 22 [lv] := old.trans (unhide Hrow)
  have d0 : w2.cell? ⟨gl, 0, none⟩ = some lv := hrow2.cell 0
  have d0f := hrow2.free 0
  have Hlog2 : Hid (Log (w2.setCell ⟨gl, 0, none⟩ (.slice va (ls.length + 1) vc)) gl B (ls ++ [s])) := by
    refine hide ⟨⟨_, hrow2.set 0 _, ?_⟩, hgl, ?_⟩
    · have e1 : (ls ++ [s]).length = ls.length + 1 := by simp
      have e2 : (ls ++ [s]).map Value.string = ls.map Value.string ++ [.string s] := by simp
      rw [e1, e2]
      exact ownsRow_setCell_below hown2 hgl _
    · have := kp.size
      simp [World.setCell]
      omega
  have Hkp := hide (kp.setCell (p := ⟨gl, 0, none⟩) (.inl rfl) (.slice va (ls.length + 1) vc))
  clear hown2 hgrow2 hown kp old hrow2 c0 hblk
  go_wp2
  go_ret2
  exact ⟨rfl, unhide Hlog2, unhide Hkp⟩

theorem new_calls (gl : Nat) (w : World) :
    Calls Yba.prog 5 #[clo gl] w fun e w' => e = .returned (.pointer (some ⟨w.heap.size + 1, 0, none⟩)) ∧ Cnt w' (w.heap.size + 1) w.heap.size (clo gl) 0 (fun _ => 0) ∧ Below w.heap.size w w' ∧ w'.heap.size = w.heap.size + 2 := by
  have hmm := @run_makeMap Yba.prog
  unfold clo
  go_enter Yba.func5, Yba.ntmps5
  go_wp2
  go_ret
  refine ⟨rfl, ⟨?_, by omega, .map [], ?_, ?_⟩, ((Below.refl _ _).alloc (Nat.le_refl _) _).alloc (by simp) _, by simp⟩
  · have := heap_alloc_new (w.alloc (.map #[] 0)) (.cells #[.func (Fn.func 4) #[] #[.pointer (some ⟨gl, 0, none⟩)], .int .i32 0, .int .u32 0, .map (some w.heap.size)] 44)
    unfold RowAt
    rw [show w.heap.size + 1 = (w.alloc (.map #[] 0)).heap.size by simp]
    exact this
  · exact (World.ownsMap_made w _ _ _).alloc _
  · intro s _
    rfl

theorem bg_calls (w : World) : Calls Yba.prog 7 #[] w fun e w' => e = .returned (.iface 47 (.agg #[])) ∧ w' = w := by
  go_enter Yba.func7, Yba.ntmps7
  go_wp2
  go_ret
  exact ⟨rfl, rfl⟩

end Go.Proofs.Ybulkbbee
