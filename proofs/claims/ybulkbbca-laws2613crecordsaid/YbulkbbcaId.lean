/- zzs2613cid (function 8). -/
import Derived.Test.YbulkbbcaLaws
namespace Go.Proofs.Ybulkbbca
open Go.RowKit

def zid : List Value := u8s (List.replicate 32 0)
theorem idc_one (k : Int) : (idc k).toArray.all (·.oneCell') = true := all_oneCell_toArray (u8s_one _)
theorem zid_length : zid.length = 32 := by simp [zid, u8s]
theorem zid_set (k : Int) : zid.set 0 (.int .u8 k) = idc k := rfl
theorem zero32 (w : World) : (zeroValue 32).run Yba.prog w = .ok (.agg zid.toArray) w := by kernel_rfl

set_option maxHeartbeats 400000 in
set_option maxRecDepth 100000 in
theorem id_calls (k : Int) (w : World) :
    Calls Yba.prog 8 #[.int .u8 k] w fun e w' => e = .returned (.agg (idc k).toArray) ∧ Below w.heap.size w w' := by
  generalize hw2 : (w.alloc (.cells zid.toArray 32)).alloc (.cells zid.toArray 32) = w2
  have hb2 : Below w.heap.size w w2 := by rw [← hw2]; exact ((Below.refl _ _).alloc (Nat.le_refl _) _).alloc (by simp) _
  have r0 : RowAt w2 w.heap.size 32 zid := by rw [← hw2]; exact (row_new w zid 32).alloc _
  have r1 : RowAt w2 (w.heap.size + 1) 32 zid := by
    rw [← hw2]
    have := row_new (w.alloc (.cells zid.toArray 32)) zid 32
    simpa using this
  have c1 : w2.cell? ⟨w.heap.size + 1, 0, none⟩ = some (.int .u8 0) := r1.cell 0
  have f1 := r1.free 0
  have r1' := r1.set 0 (.int .u8 k)
  rw [zid_set] at r1'
  have r0' := r0.other ⟨w.heap.size + 1, 0, none⟩ (.int .u8 k) (by show w.heap.size ≠ w.heap.size + 1; omega)
  have hb3 := hb2.setCell (p := ⟨w.heap.size + 1, 0, none⟩) (Nat.le_succ _) (.int .u8 k)
  have R0 := hide r0'
  have R1 := hide r1'
  have Hb3 := hide hb3
  clear r0 r1 r0' r1' hb2 hb3
  go_enter Yba.func8, Yba.ntmps8
  go_wp2_with (first
    | (with_reducible refine wpList_alloc_row rfl 32 rfl zid.toArray (zero32 _) ?_)
    | (with_reducible refine wpList_load_mid rfl 32 (.tmp 3) rfl (w.heap.size + 1) 0 ?hx (idc k) _ ((unhide R1).range 0 _ (fun j v hv => by simpa using hv)) Yba.underlying32 rfl (by rw [idc_length]; exact size32) ?_)
    | (with_reducible refine wpList_store_mid rfl 32 (.tmp 2) (.tmp 6) rfl w.heap.size 0 (idc k).toArray ?hx2 ?hy2 ?ht ?hi (idc_one k) ?_))
  case hx => rfl
  case ht => exact (unhide R0).there 0 _ (by simp [zid_length, idc_length])
  case hi => rw [List.size_toArray, idc_length]; exact size32
  have hc := World.rangeAt_setCells_same _ w.heap.size 0 (idc k) ((unhide R0).there 0 _ (by simp [zid_length, idc_length]))
  have Hc := hide hc
  have Hb4 := hide (Below.setCells (unhide Hb3) w.heap.size 0 (idc k) (Nat.le_refl _))
  clear hc R0 R1 Hb3 c1 f1 hw2
  go_wp2
  refine bodyPost_ret (v := .agg (idc k).toArray) (results_cell_mid Yba.results8 _ _ w.heap.size 0 (idc k) _ rfl (unhide Hc) Yba.underlying32 rfl (by rw [idc_length]; exact size32)) rfl ⟨rfl, unhide Hb4⟩

end Go.Proofs.Ybulkbbca
