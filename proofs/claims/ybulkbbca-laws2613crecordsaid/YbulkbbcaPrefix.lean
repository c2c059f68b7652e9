/- (ID).CommonPrefixLen (function 17): bounds alone. -/
import Derived.Test.YbulkbbcaZeros
namespace Go.Proofs.Ybulkbbca
open Go.RowKit

theorem RowAt.fill {w : World} {g : Nat} {e : TypeId} {xs : List Value} (h : RowAt w g e xs) (vs : List Value) (hn : vs.length = xs.length) : RowAt (w.setCells g 0 vs) g e vs := by
  have := h.setCells 0 vs (by omega)
  have e1 : xs.take 0 ++ vs ++ xs.drop (0 + vs.length) = vs := by simp [hn]
  rwa [e1] at this
theorem row_made (w : World) (Z vs : List Value) (t : TypeId) (h : vs.length = Z.length) : RowAt ((w.alloc (.cells Z.toArray t)).setCells w.heap.size 0 vs) w.heap.size t vs := (row_new w Z t).fill vs h
theorem Below.made {B : Nat} {a w : World} (h : Below B a w) (o : Obj) (vs : List Value) (hB : B ≤ w.heap.size) : Below B a ((w.alloc o).setCells w.heap.size 0 vs) := Below.setCells (h.alloc hB o) _ _ _ hB
theorem RowAt.made {w : World} {g : Nat} {e : TypeId} {xs : List Value} (h : RowAt w g e xs) (o : Obj) (vs : List Value) : RowAt ((w.alloc o).setCells w.heap.size 0 vs) g e xs := (h.alloc o).setOther _ _ _ (Nat.ne_of_lt h.lt)
theorem RowAt.all {w : World} {g : Nat} {e : TypeId} {xs : List Value} (h : RowAt w g e xs) : w.rangeAt g 0 xs := h.range 0 _ (fun j v hv => by simpa using hv)

set_option maxHeartbeats 1000000 in
set_option maxRecDepth 100000 in
theorem prefix_calls (xs ys : List Int) (hx : Id32 xs) (hy : Id32 ys) (w : World) :
    Calls Yba.prog 17 #[.agg (u8s xs).toArray, .agg (u8s ys).toArray] w fun e w' => (∃ p : Int, 0 ≤ p ∧ p ≤ 256 ∧ e = .returned (.int .i64 p)) ∧ Below w.heap.size w w' := by
  generalize hw2 : ((w.alloc (.cells (u8s xs).toArray 32)).alloc (.cells (u8s ys).toArray 32)) = w2
  have hb2 : Below w.heap.size w w2 := by rw [← hw2]; exact ((Below.refl _ _).alloc (Nat.le_refl _) _).alloc (by simp) _
  have r0 : RowAt w2 w.heap.size 32 (u8s xs) := by rw [← hw2]; exact (row_new w (u8s xs) 32).alloc _
  have r1 : RowAt w2 (w.heap.size + 1) 32 (u8s ys) := by
    rw [← hw2]
    have := row_new (w.alloc (.cells (u8s xs).toArray 32)) (u8s ys) 32
    simpa using this
  have Hlx : Hid ((u8s xs).length = 32) := hide (by rw [u8s_length]; exact hx.len)
  have Hly : Hid ((u8s ys).length = 32) := hide (by rw [u8s_length]; exact hy.len)
  have HX := hide (xor_calls xs ys hx hy w2)
  have R0 := hide r0
  have R1 := hide r1
  have Hb2 := hide hb2
  clear hx hy r0 r1 hb2
  go_enter Yba.func17, Yba.ntmps17
  go_wp2_with (first
    | (with_reducible refine wpList_box_row rfl 32 (.tmp 0) rfl (u8s xs).toArray rfl ?_)
    | (with_reducible refine wpList_box_row rfl 32 (.tmp 1) rfl (u8s ys).toArray rfl ?_)
    | (with_reducible refine wpList_load_mid rfl 32 (.tmp 2) rfl w.heap.size 0 ?hx (u8s xs) _ ((unhide R0).range 0 _ (fun j v hv => by simpa using hv)) Yba.underlying32 rfl (by rw [unhide Hlx]; exact size32) ?_)
    | (with_reducible refine wpList_load_mid rfl 32 (.tmp 3) rfl (w.heap.size + 1) 0 ?hy (u8s ys) _ ((unhide R1).range 0 _ (fun j v hv => by simpa using hv)) Yba.underlying32 rfl (by rw [unhide Hly]; exact size32) ?_)
    | (go_at_call 22; refine (unhide HX).mono ?_; rintro e w3 ⟨ds, hds, rfl, hb3⟩; have Hds := hide hds; have Hb3 := hide hb3; clear hds hb3)
    | (with_reducible refine wpList_alloc_row rfl 32 rfl zid.toArray (zero32 _) ?_)
    | (with_reducible refine wpList_store_mid rfl 32 (.tmp 5) (.tmp 8) rfl w3.heap.size 0 (u8s ds).toArray ?hx2 ?hy2 ?ht ?hi (all_oneCell_toArray (u8s_one _)) ?_))
  case hx => rfl
  case ht => exact (row_new w3 zid 32).there 0 _ (by rw [zid_length, List.size_toArray, u8s_length, (unhide Hds).len]; omega)
  case hi => rw [List.size_toArray, u8s_length, (unhide Hds).len]; exact size32
  have r4 := row_made w3 zid (u8s ds) 32 (by rw [u8s_length, (unhide Hds).len, zid_length])
  have hb4 := Below.made ((unhide Hb2).trans ((unhide Hb3).mono (unhide Hb2).size)) (.cells zid.toArray 32) (u8s ds) (Nat.le_trans (unhide Hb2).size (unhide Hb3).size)
  generalize (w3.alloc (.cells zid.toArray 32)).setCells w3.heap.size 0 (u8s ds) = w4 at *
  have HZ := hide (zeros_calls w3.heap.size ds w4 (unhide Hds) r4)
  have Hb4 := hide hb4
  clear hb4 r4
  go_wp2_with (go_at_call 6; refine (unhide HZ).mono ?_; rintro e w5 ⟨⟨p, hp0, hp1, rfl⟩, hb5⟩)
  go_ret
  exact ⟨⟨p, hp0, hp1, rfl⟩, (unhide Hb4).trans (hb5.mono (unhide Hb4).size)⟩

end Go.Proofs.Ybulkbbca
