/- (*Table).Entry in an empty table (function 16). -/
import Derived.Test.YbulkbbcaSib
namespace Go.Proofs.Ybulkbbca
open Go.RowKit

/-- a contact, an entry of nothing -/
def con0 : List Value := idc 0 ++ [.int .u64 0, .int .u64 0, .pointer none, .int .u16 0] ++ u8s (List.replicate 32 0) ++ [.int .u64 0, .int .u64 0]
def ent0 : List Value := idc 0 ++ midc

theorem zero103 (w : World) : (zeroValue 103).run Yba.prog w = .ok (.agg ent0.toArray) w := by kernel_rfl
theorem zero51 (w : World) : (zeroValue 51).run Yba.prog w = .ok (.agg con0.toArray) w := by kernel_rfl
theorem ent0_length : ent0.length = 73 := rfl
theorem con0_length : con0.length = 70 := rfl

theorem ent0_one : ∀ v, v ∈ ent0 → v.oneCell' = true := by
  intro v hv
  have : ent0.all (·.oneCell') = true := by kernel_rfl
  exact List.all_eq_true.1 this v hv

def z32 : List Int := List.replicate 32 0
theorem tab_id {w : World} {T : Nat} (h : RowAt w T 37 tabc) : w.rangeAt T 0 (u8s z32) := by
  refine h.range 0 _ (fun j v hv => ?_)
  rw [Nat.zero_add]
  have hj : j < (u8s z32).length := (List.getElem?_eq_some_iff.1 hv).1
  show (u8s z32 ++ _)[j]? = some v
  rw [List.getElem?_append_left hj]
  exact hv

set_option maxHeartbeats 1000000 in
set_option maxRecDepth 100000 in
theorem entry_calls (T : Nat) (xs : List Int) (hx : Id32 xs) (w : World) (hT : RowAt w T 37 tabc) :
    Calls Yba.prog 16 #[.pointer (some ⟨T, 0, none⟩), .agg (u8s xs).toArray] w fun e w' => e = .returned (.tuple #[.agg ent0.toArray, .bool false]) ∧ Below w.heap.size w w' := by
  generalize hw2 : ((w.alloc (.cells (u8s xs).toArray 32)).alloc (.cells ent0.toArray 103)) = w2
  have hb2 : Below w.heap.size w w2 := by rw [← hw2]; exact ((Below.refl _ _).alloc (Nat.le_refl _) _).alloc (by simp) _
  have hs2 : w2.heap.size = w.heap.size + 2 := by rw [← hw2]; simp
  have r0 : RowAt w2 w.heap.size 32 (u8s xs) := by rw [← hw2]; exact (row_new w (u8s xs) 32).alloc _
  have r1 : RowAt w2 (w.heap.size + 1) 103 ent0 := by
    rw [← hw2]
    have := row_new (w.alloc (.cells (u8s xs).toArray 32)) ent0 103
    simpa using this
  have rT : RowAt w2 T 37 tabc := by rw [← hw2]; exact (hT.alloc _).alloc _
  have g0 : w2.rangeAt w.heap.size 0 (u8s xs) := r0.all
  have gT : w2.rangeAt T 0 (u8s z32) := tab_id rT
  have HP := hide (prefix_calls z32 xs id32_zero hx)
  have hlx : (Yba.prog.info? 32).map (·.size) = some (u8s xs).length := by rw [u8s_length, hx.len]; exact size32
  have hlz : (Yba.prog.info? 32).map (·.size) = some (u8s z32).length := size32
  have u32 := Yba.underlying32
  have Hb2 := hide hb2
  have R0 := hide r0
  have R1 := hide r1
  have RT := hide rT
  have Hs2 := hide hs2
  have HT := hide hT.lt
  clear r0 r1 hb2 rT hT hx hs2
  go_enter Yba.func16, Yba.ntmps16
  go_wp2_with (first
    | (with_reducible refine wpList_box_row rfl 32 (.tmp 1) rfl (u8s xs).toArray rfl ?_)
    | (with_reducible refine wpList_alloc_row rfl 103 rfl ent0.toArray (zero103 _) ?_))
  have G0 := hide g0
  have GT := hide gT
  clear hw2 g0 gT
  refine wp_region_noPanic ?_
  refine wp_region_held_drew (S := fun w' => w'.rangeAt w.heap.size 0 (u8s xs) ∧ w'.rangeAt T 0 (u8s z32)) (by kernel_rfl) ⟨unhide G0, unhide GT⟩ (fun hHeld => ?_)
  refine wpAnyH_take (i := 0) (v := .pointer (some ⟨T, 0, none⟩)) rfl (by kernel_rfl) (by kernel_rfl) (by kernel_rfl) (fun _ _ _ h => h) (Or.inl ⟨by rfl, fun w' _ => by go_simp⟩) hHeld ?_
  refine wpAnyH_take (i := 1) (v := .pointer (some ⟨T, 0, none⟩)) rfl (by kernel_rfl) (by kernel_rfl) (by kernel_rfl) (fun _ _ _ h => h) (Or.inl ⟨by rfl, fun w' _ => by go_simp⟩) hHeld ?_
  refine wpAnyH_take (i := 2) (v := .pointer (some ⟨T, 0, none⟩)) rfl (by kernel_rfl) (by kernel_rfl) (by kernel_rfl) (fun _ _ _ h => h) (Or.inl ⟨by rfl, fun w' _ => by go_simp⟩) hHeld ?_
  refine wpAnyH_take (i := 3) (v := .agg (u8s z32).toArray) rfl (by kernel_rfl) (by kernel_rfl) (by kernel_rfl) (fun _ _ _ h => h) (yieldsIf_load_mid (by rfl) 32 _ rfl T 0 rfl (u8s z32) _ (fun _ h => h.2) Yba.underlying32 rfl hlz) hHeld ?_
  refine wpAnyH_take (i := 4) (v := .agg (u8s xs).toArray) rfl (by kernel_rfl) (by kernel_rfl) (by kernel_rfl) (fun _ _ _ h => h) (yieldsIf_load_mid (by rfl) 32 _ rfl w.heap.size 0 rfl (u8s xs) _ (fun _ h => h.1) Yba.underlying32 rfl hlx) hHeld ?_
  change wpAnyH Yba.prog .any _ _ _ _ _ ⟨#[.pointer (some ⟨T, 0, none⟩), .agg (u8s xs).toArray, undef, .pointer (some ⟨w.heap.size, 0, none⟩), .pointer (some ⟨w.heap.size + 1, 0, none⟩), .bool false, undef, undef, .pointer (some ⟨T, 0, none⟩), .pointer (some ⟨T, 0, none⟩), .pointer (some ⟨T, 0, none⟩), .agg (u8s z32).toArray, .agg (u8s xs).toArray, undef, undef, undef, undef, undef, undef, undef, undef, undef, undef, undef, undef, undef, undef, undef, undef, undef, undef, undef, undef, undef, undef, undef, undef, undef, undef, undef, undef, undef, undef], []⟩ _
  refine wpAnyH_ready (rs := [5]) (by kernel_rfl) (by simp) ?_
  refine AllReadyH.cons rfl (fun K hK => ?_) AllReadyH.nil
  go_simp
  refine (unhide HP _).mono ?_
  rintro e w3 ⟨⟨p, hp0, hp1, rfl⟩, hb3⟩
  have hb3' : Below w2.heap.size w2 w3 := ⟨hb3.os, hb3.tape, hb3.output, hb3.size, hb3.block⟩
  have rT3 : RowAt w3 T 37 tabc := (unhide RT).below hb3' (unhide RT).lt
  have r13 : RowAt w3 (w.heap.size + 1) 103 ent0 := (unhide R1).below hb3' (unhide R1).lt
  have r03 : RowAt w3 w.heap.size 32 (u8s xs) := (unhide R0).below hb3' (unhide R0).lt
  refine hK.out _ _ ⟨r03.all, tab_id rT3⟩ (fun hHeld => ?_)
  clear hK K
  refine wpAnyH_take (i := 6) (v := .int .i64 p) rfl (by kernel_rfl) (by kernel_rfl) (by kernel_rfl) (fun _ _ _ h => h) (Or.inl ⟨by rfl, fun w' _ => by go_simp⟩) hHeld ?_
  refine wpAnyH_done (by kernel_rfl) ?_ _
  refine NoPanic.normal ?_
  clear hHeld hb3
  have c33 : w3.cell? ⟨T, 33, none⟩ = some (.slice none 0 0) := by rw [rT3.cell, tabc_at 33 (by omega)]
  have hpn : ¬ (p < 0) := by omega
  have Hb3 := hide ((unhide Hb2).trans (hb3'.mono (unhide Hb2).size))
  have R13 := hide r13
  clear rT3 r13 r03 hb3' u32 hlx hlz
  go_wp2_with (first
    | (with_reducible refine wpList_build_as rfl 103 #[] rfl (.agg ent0.toArray) ?hb ?_)
    | (with_reducible refine wpList_store_mid rfl 103 (.tmp 4) (.tmp 42) rfl (w.heap.size + 1) 0 ent0.toArray ?hx2 ?hy2 ?ht ?hi (all_oneCell_toArray ent0_one) ?_))
  case hb => rw [zero103]; rfl
  case ht => exact (unhide R13).there 0 _ (by rw [ent0_length]; omega)
  case hi => simpa [ent0_length] using size103
  have r4 := (unhide R13).fill ent0 rfl
  have hb4 := Below.setCells (unhide Hb3) (w.heap.size + 1) 0 ent0 (by omega)
  exact bodyPost_ret (v := .tuple #[.agg ent0.toArray, .bool false]) (results_cell_tmp Yba.results16 _ _ (w.heap.size + 1) 0 ent0 _ rfl r4.all Yba.underlying103 rfl (by rw [ent0_length]; exact size103)) rfl ⟨rfl, hb4⟩

end Go.Proofs.Ybulkbbca
