/- (ID).Xor (function 22). -/
import Derived.Test.YbulkbbcaId
import Derived.OpenShut
namespace Go.Proofs.Ybulkbbca
open Go.RowKit

def nth (D : List Int) (v : Nat) : Int := D.getD v 0

theorem u8s_at (xs : List Int) (i : Nat) (h : i < xs.length) : (u8s xs)[i]? = some (.int .u8 (nth xs i)) := by
  simp [u8s, nth, List.getD_eq_getElem?_getD, h]
theorem u8s_set (xs : List Int) (i : Nat) (x : Int) : (u8s xs).set i (.int .u8 x) = u8s (xs.set i x) := by simp [u8s, List.map_set]

/-- 32 bytes -/
structure Id32 (xs : List Int) : Prop where
  len : xs.length = 32
  byte : ∀ x, x ∈ xs → 0 ≤ x ∧ x ≤ 255

theorem Id32.at {xs : List Int} (h : Id32 xs) {i : Nat} (hi : i < 32) : 0 ≤ nth xs i ∧ nth xs i ≤ 255 := by
  apply h.byte
  unfold nth
  simp [List.getD_eq_getElem?_getD, h.len, hi]

theorem Id32.set {xs : List Int} (h : Id32 xs) (i : Nat) (x : Int) (hx : 0 ≤ x ∧ x ≤ 255) : Id32 (xs.set i x) := by
  refine ⟨by rw [List.length_set]; exact h.len, ?_⟩
  intro y hy
  rcases List.mem_or_eq_of_mem_set hy with h1 | h1
  · exact h.byte y h1
  · subst h1; exact hx

theorem id32_idn {k : Int} (h : 0 ≤ k ∧ k ≤ 255) : Id32 (idn k) := by
  refine ⟨by simp [idn], ?_⟩
  intro x hx
  simp only [idn, List.mem_cons, List.mem_replicate] at hx
  rcases hx with rfl | ⟨_, rfl⟩
  · exact h
  · omega

theorem id32_zero : Id32 (List.replicate 32 0) := ⟨by simp, fun x hx => by simp at hx; omega⟩

theorem xor_byte (a b : Int) : 0 ≤ bits .xor .u8 a b ∧ bits .xor .u8 a b ≤ 255 := by
  exact bounds_u8 (wf_bits .xor .u8 a b)

set_option maxHeartbeats 1000000 in
set_option maxRecDepth 100000 in
theorem xor_calls (xs ys : List Int) (hx : Id32 xs) (hy : Id32 ys) (w : World) :
    Calls Yba.prog 22 #[.agg (u8s xs).toArray, .agg (u8s ys).toArray] w fun e w' => ∃ ds, Id32 ds ∧ e = .returned (.agg (u8s ds).toArray) ∧ Below w.heap.size w w' := by
  generalize hw2 : (((w.alloc (.cells (u8s xs).toArray 32)).alloc (.cells (u8s ys).toArray 32)).alloc (.cells zid.toArray 32)).alloc (.cells zid.toArray 32) = w2
  have hb2 : Below w.heap.size w w2 := by rw [← hw2]; exact ((((Below.refl _ _).alloc (Nat.le_refl _) _).alloc (by simp) _).alloc (by simp; omega) _).alloc (by simp; omega) _
  have r0 : RowAt w2 w.heap.size 32 (u8s xs) := by rw [← hw2]; exact (((row_new w (u8s xs) 32).alloc _).alloc _).alloc _
  have r1 : RowAt w2 (w.heap.size + 1) 32 (u8s ys) := by
    rw [← hw2]
    have := ((row_new (w.alloc (.cells (u8s xs).toArray 32)) (u8s ys) 32).alloc (.cells zid.toArray 32)).alloc (.cells zid.toArray 32)
    simpa using this
  have r2 : RowAt w2 (w.heap.size + 1 + 1) 32 zid := by
    rw [← hw2]
    have := (row_new ((w.alloc (.cells (u8s xs).toArray 32)).alloc (.cells (u8s ys).toArray 32)) zid 32).alloc (.cells zid.toArray 32)
    simpa using this
  have r3 : RowAt w2 (w.heap.size + 1 + 1 + 1) 32 zid := by
    rw [← hw2]
    have := row_new (((w.alloc (.cells (u8s xs).toArray 32)).alloc (.cells (u8s ys).toArray 32)).alloc (.cells zid.toArray 32)) zid 32
    simpa using this
  have hz : zid = u8s (List.replicate 32 0) := rfl
  rw [hz] at r3
  have Hx := hide hx
  have Hy := hide hy
  have R0 := hide r0
  have R1 := hide r1
  have R2 := hide r2
  have R3 := hide r3
  have Hb2 := hide hb2
  clear hx hy r0 r1 r2 r3 hb2 hz
  go_enter Yba.func22, Yba.ntmps22
  go_wp2_with (first
    | (with_reducible refine wpList_box_row rfl 32 (.tmp 0) rfl (u8s xs).toArray rfl ?_)
    | (with_reducible refine wpList_box_row rfl 32 (.tmp 1) rfl (u8s ys).toArray rfl ?_)
    | (with_reducible refine wpList_alloc_row rfl 32 rfl zid.toArray (zero32 _) ?_))
  clear hw2
  go_loopw [7] (fun c wr => ∃ k : Nat, k ≤ 32 ∧ c = .int .i64 k ∧ ∃ ds, Hid (Id32 ds) ∧ Hid (RowAt wr (w.heap.size + 1 + 1 + 1) 32 (u8s ds)) ∧ Hid (RowAt wr w.heap.size 32 (u8s xs)) ∧ Hid (RowAt wr (w.heap.size + 1) 32 (u8s ys)) ∧ Hid (RowAt wr (w.heap.size + 1 + 1) 32 zid) ∧ Below w.heap.size w wr) (fun c _ => 32 - (intOf c).toNat)
  case atStart => exact ⟨0, Nat.zero_le _, rfl, _, hide id32_zero, R3, R0, R1, R2, unhide Hb2⟩
  case round =>
    clear R0 R1 R2 R3 Hb2
    obtain ⟨k, hk, rfl, ds, Hd, R3, R0, R1, R2, hbel⟩ := hrel
    by_cases hlt : k < 32
    · have c0 : wr.cell? ⟨w.heap.size, k, none⟩ = some (.int .u8 (nth xs k)) := by rw [(unhide R0).cell, u8s_at xs k (by rw [(unhide Hx).len]; exact hlt)]
      have c1 : wr.cell? ⟨w.heap.size + 1, k, none⟩ = some (.int .u8 (nth ys k)) := by rw [(unhide R1).cell, u8s_at ys k (by rw [(unhide Hy).len]; exact hlt)]
      have c3 : wr.cell? ⟨w.heap.size + 1 + 1 + 1, k, none⟩ = some (.int .u8 (nth ds k)) := by rw [(unhide R3).cell, u8s_at ds k (by rw [(unhide Hd).len]; exact hlt)]
      have f3 := (unhide R3).free k
      have hxb := xor_byte (nth xs k) (nth ys k)
      generalize nth xs k = x at *
      generalize nth ys k = y at *
      generalize nth ds k = z at *
      go_wp2_with fail
      go_region
      go_wp2
      go_roundw
      case rel =>
        refine ⟨k + 1, by omega, by go_num, _, hide ((unhide Hd).set k _ hxb), hide ?_, hide ?_, hide ?_, hide ?_, (hbel.setCell (p := ⟨w.heap.size + 1 + 1 + 1, k, none⟩) (by show w.heap.size ≤ w.heap.size + 1 + 1 + 1; omega) _).drew⟩
        · have := (unhide R3).set k (.int .u8 (bits .xor .u8 x y))
          rw [u8s_set] at this
          exact this
        · exact (unhide R0).other ⟨w.heap.size + 1 + 1 + 1, k, none⟩ _ (by show w.heap.size ≠ w.heap.size + 1 + 1 + 1; omega)
        · exact (unhide R1).other ⟨w.heap.size + 1 + 1 + 1, k, none⟩ _ (by show w.heap.size + 1 ≠ w.heap.size + 1 + 1 + 1; omega)
        · exact (unhide R2).other ⟨w.heap.size + 1 + 1 + 1, k, none⟩ _ (by show w.heap.size + 1 + 1 ≠ w.heap.size + 1 + 1 + 1; omega)
      case measure => simp [intOf]; omega
    · obtain rfl : k = 32 := by omega
      have hl : (u8s ds).length = 32 := by rw [u8s_length]; exact (unhide Hd).len
      have hc := World.rangeAt_setCells_same wr (w.heap.size + 1 + 1) 0 (u8s ds) ((unhide R2).there 0 _ (by rw [zid_length, hl]; omega))
      have Hc := hide hc
      have Hb4 := hide (Below.setCells hbel (w.heap.size + 1 + 1) 0 (u8s ds) (by omega))
      have Hl := hide hl
      have Hone : Hid ((u8s ds).toArray.all (·.oneCell') = true) := hide (all_oneCell_toArray (u8s_one _))
      clear hc hl
      go_wp2_with (first
        | (with_reducible refine wpList_load_mid rfl 32 (.tmp 5) rfl (w.heap.size + 1 + 1 + 1) 0 ?hx (u8s ds) _ ((unhide R3).range 0 _ (fun j v hv => by simpa using hv)) Yba.underlying32 rfl (by rw [unhide Hl]; exact size32) ?_)
        | (with_reducible refine wpList_store_mid rfl 32 (.tmp 4) (.tmp 20) rfl (w.heap.size + 1 + 1) 0 (u8s ds).toArray ?hx2 ?hy2 ?ht ?hi (unhide Hone) ?_))
      case hx => rfl
      case ht => exact (unhide R2).there 0 _ (by rw [zid_length, List.size_toArray, unhide Hl]; omega)
      case hi => rw [List.size_toArray, unhide Hl]; exact size32
      exact bodyPost_ret (v := .agg (u8s ds).toArray) (results_cell_mid Yba.results22 _ _ (w.heap.size + 1 + 1) 0 (u8s ds) _ rfl (unhide Hc) Yba.underlying32 rfl (by rw [unhide Hl]; exact size32)) rfl ⟨ds, unhide Hd, rfl, unhide Hb4⟩

end Go.Proofs.Ybulkbbca
