/- (*Table).Contact in an empty table (function 13). -/
import Derived.Test.YbulkbbcaEntry
namespace Go.Proofs.Ybulkbbca
open Go.RowKit

theorem con0_one : ∀ v, v ∈ con0 → v.oneCell' = true := by
  intro v hv
  have : con0.all (·.oneCell') = true := by kernel_rfl
  exact List.all_eq_true.1 this v hv
theorem size51c : (Yba.prog.info? 51).map (·.size) = some con0.length := size51
theorem row51 : ∃ d, Yba.prog.underlying 51 = some d ∧ d.isRow = true := ⟨_, Yba.underlying51, rfl⟩
theorem ent0_con : ent0 = con0 ++ [.int .u64 0, .int .i64 0, .pointer none] := rfl
theorem con_of_ent {w : World} {g : Nat} {e : TypeId} (h : RowAt w g e ent0) : w.rangeAt g 0 con0 := by
  refine h.range 0 _ (fun j v hv => ?_)
  rw [Nat.zero_add, ent0_con, List.getElem?_append_left (List.getElem?_eq_some_iff.1 hv).1]
  exact hv

set_option maxHeartbeats 1000000 in
set_option maxRecDepth 100000 in
theorem contact_calls (T : Nat) (xs : List Int) (hx : Id32 xs) (w : World) (hT : RowAt w T 37 tabc) :
    Calls Yba.prog 13 #[.pointer (some ⟨T, 0, none⟩), .agg (u8s xs).toArray] w fun e w' => e = .returned (.tuple #[.agg con0.toArray, .bool false]) ∧ Below w.heap.size w w' := by
  generalize hw2 : ((w.alloc (.cells (u8s xs).toArray 32)).alloc (.cells con0.toArray 51)) = w2
  have hb2 : Below w.heap.size w w2 := by rw [← hw2]; exact ((Below.refl _ _).alloc (Nat.le_refl _) _).alloc (by simp) _
  have r0 : RowAt w2 w.heap.size 32 (u8s xs) := by rw [← hw2]; exact (row_new w (u8s xs) 32).alloc _
  have r1 : RowAt w2 (w.heap.size + 1) 51 con0 := by
    rw [← hw2]
    have := row_new (w.alloc (.cells (u8s xs).toArray 32)) con0 51
    simpa using this
  have rT : RowAt w2 T 37 tabc := by rw [← hw2]; exact (hT.alloc _).alloc _
  have HS := hide (sib_calls T xs w2 rT)
  have Hlx : Hid ((Yba.prog.info? 32).map (·.size) = some (u8s xs).length) := hide (by rw [u8s_length, hx.len]; exact size32)
  have HE : Hid (∀ w3, Below w2.heap.size w2 w3 → Calls Yba.prog 16 #[.pointer (some ⟨T, 0, none⟩), .agg (u8s xs).toArray] w3 fun e w' => e = .returned (.tuple #[.agg ent0.toArray, .bool false]) ∧ Below w3.heap.size w3 w') := hide (fun w3 hb => entry_calls T xs hx w3 (rT.below hb rT.lt))
  have Hb2 := hide hb2
  have R0 := hide r0
  have R1 := hide r1
  clear r0 r1 hb2 rT hT hx
  go_enter Yba.func13, Yba.ntmps13
  go_wp2_with (first
    | (with_reducible refine wpList_box_row rfl 32 (.tmp 1) rfl (u8s xs).toArray rfl ?_)
    | (with_reducible refine wpList_alloc_row rfl 51 rfl con0.toArray (zero51 _) ?_)
    | (with_reducible refine wpList_alloc_row rfl 103 rfl ent0.toArray (zero103 _) ?_)
    | (with_reducible refine wpList_load_mid rfl 32 (.tmp 3) rfl w.heap.size 0 ?hx (u8s xs) _ ((unhide R0).all) Yba.underlying32 rfl (unhide Hlx) ?_)
    | (with_reducible refine wpList_load_mid rfl 32 (.tmp 3) rfl w.heap.size 0 ?hy (u8s xs) _ ((unhide R03).all) Yba.underlying32 rfl (unhide Hlx) ?_)
    | (go_at_call 15; refine (unhide HS).mono ?_; rintro e w3 ⟨rfl, hb3⟩; have R03 := hide ((unhide R0).below hb3 (unhide R0).lt); have Hb3 := hide hb3; clear hb3 HS)
    | (go_at_call 16; refine (unhide HE _ (unhide Hb3)).mono ?_; rintro e w4 ⟨rfl, hb4⟩; have Hb4 := hide hb4; clear hb4)
    | (with_reducible refine wpList_store_mid rfl 103 (.tmp 8) (.tmp 28) rfl w4.heap.size 0 ent0.toArray ?hx2 ?hy2 ?ht ?hi (all_oneCell_toArray ent0_one) ?_)
    | (with_reducible refine wpList_load_mid rfl 51 (.tmp 30) rfl w4.heap.size 0 ?hx3 con0 _ ?hr3 Yba.underlying51 rfl ?hs3 ?_)
    | (with_reducible refine wpList_store_mid rfl 51 (.tmp 4) (.tmp 31) rfl (w.heap.size + 1) 0 con0.toArray ?hx4 ?hy4 ?ht4 ?hi4 (all_oneCell_toArray con0_one) ?_))
  case hx => rfl
  case hy => rfl
  case hx3 => rfl
  case hx4 => rfl
  case hy4 => rfl
  case ht => exact (row_new w4 ent0 103).there 0 _ (by rw [ent0_length]; simp [ent0_length])
  case hi => simpa [ent0_length] using size103
  case hr3 => exact con_of_ent (row_made w4 ent0 ent0 103 rfl)
  case hs3 => exact size51c
  case ht4 => exact (((unhide R1).below ((unhide Hb3).trans ((unhide Hb4).mono (unhide Hb3).size)) (unhide R1).lt).made _ _).there 0 _ (by rw [con0_length]; simp [con0_length])
  case hi4 => simpa [con0_length] using size51
  have hb := (unhide Hb3).trans ((unhide Hb4).mono (unhide Hb3).size)
  have r5 := ((unhide R1).below hb (unhide R1).lt).made (.cells ent0.toArray 103) ent0
  have r6 := r5.fill con0 rfl
  have hb4 := Below.setCells (Below.made ((unhide Hb2).trans (hb.mono (unhide Hb2).size)) (.cells ent0.toArray 103) ent0 (Nat.le_trans (unhide Hb2).size hb.size)) (w.heap.size + 1) 0 con0 (by omega)
  exact bodyPost_ret (v := .tuple #[.agg con0.toArray, .bool false]) (results_cell_tmp Yba.results13 _ _ (w.heap.size + 1) 0 con0 _ rfl r6.all Yba.underlying51 rfl size51c) rfl ⟨rfl, hb4⟩

end Go.Proofs.Ybulkbbca
