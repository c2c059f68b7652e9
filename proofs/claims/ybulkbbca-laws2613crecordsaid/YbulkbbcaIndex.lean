/- (*Node).savedIndex (function 12). -/
import Derived.Test.YbulkbbcaSt
namespace Go.Proofs.Ybulkbbca
open Go.RowKit

theorem zero105 (w : World) : (zeroValue 105).run Yba.prog w = .ok (.agg (scc 0 0).toArray) w := by kernel_rfl
theorem size105c (k f : Int) : (Yba.prog.info? 105).map (·.size) = some (scc k f).length := by rw [scc_length]; exact size105
theorem size32c (k : Int) : (Yba.prog.info? 32).map (·.size) = some (idc k).length := by rw [idc_length]; exact size32
theorem idc_one' (k : Int) : ∀ v, v ∈ idc k → v.oneCell' = true := u8s_one _
theorem scc_one (k f : Int) : ∀ v, v ∈ scc k f → v.oneCell' = true := by
  intro v hv
  simp only [scc, midc, List.mem_append] at hv
  rcases hv with (h | (h | h) | h) | h
  · exact u8s_one _ v h
  · simp only [List.mem_cons, List.not_mem_nil, or_false] at h
    rcases h with rfl | rfl | rfl | rfl <;> rfl
  · exact u8s_one _ v h
  · simp only [List.mem_cons, List.not_mem_nil, or_false] at h
    rcases h with rfl | rfl | rfl | rfl | rfl <;> rfl
  · simp only [List.mem_cons, List.not_mem_nil, or_false] at h
    subst h; rfl
theorem id_of_scc {w : World} {g : Nat} {e : TypeId} {k f : Int} (h : RowAt w g e (scc k f)) : w.rangeAt g 0 (idc k) := by
  refine h.range 0 _ (fun j v hv => ?_)
  rw [Nat.zero_add, scc, List.append_assoc, List.getElem?_append_left (List.getElem?_eq_some_iff.1 hv).1]
  exact hv
theorem scc_of_row {w : World} {g : Nat} {cur : List Value} {ss : List (Int × Int)} (hr : RowAt w g 105 cur) (ht : cur.take (ss.length * 74) = sccs ss) (j : Nat) (hj : j < ss.length) : w.rangeAt g (j * 74) (scc (ss[j]).1 (ss[j]).2) := by
  refine hr.range _ _ (fun c v hv => ?_)
  have hc : c < 74 := by have := (List.getElem?_eq_some_iff.1 hv).1; rwa [scc_length] at this
  rw [take_at ht (by have : (j + 1) * 74 ≤ ss.length * 74 := Nat.mul_le_mul_right _ hj; omega), sccs_at ss j c hj hc]
  exact hv

set_option maxHeartbeats 1000000 in
set_option maxRecDepth 100000 in
theorem index_calls (B : Nat) (v : Value) (ss : List (Int × Int)) (k : Int) (w : World) (h : St w B v ss) (hn : ss.length ≤ 1024) :
    Calls Yba.prog 12 #[.pointer (some ⟨B + 1, 0, none⟩), .agg (idc k).toArray] w fun e w' =>
      ((∃ i : Nat, ∃ hi : i < ss.length, (ss[i]).1 = k ∧ (∀ j (hj : j < i), (ss[j]).1 ≠ k) ∧ e = .returned (.int .i64 i)) ∨ ((∀ j (hj : j < ss.length), (ss[j]).1 ≠ k) ∧ e = .returned (.int .i64 (-1)))) ∧ Below w.heap.size w w' := by
  generalize hw2 : w.alloc (.cells (idc k).toArray 32) = w2
  have hb2 : Below w.heap.size w w2 := by rw [← hw2]; exact (Below.refl _ _).alloc (Nat.le_refl _) _
  have r0 : RowAt w2 w.heap.size 32 (idc k) := by rw [← hw2]; exact row_new w (idc k) 32
  have h2 := h.below hb2 (Nat.le_refl _)
  have c108 : w2.cell? ⟨B + 1, 108, none⟩ = some v := by rw [h2.node.cell, nodec_108]
  have HS := hide h
  have R0 := hide r0
  have Hb2 := hide hb2
  rcases h.form with ⟨rfl, rfl⟩ | ⟨g, cap, rfl, hg2, hg, hcap, cur, hcur⟩
  · clear h h2 r0 hb2
    go_enter Yba.func12, Yba.ntmps12
    go_wp2_with (first
      | (with_reducible refine wpList_box_row rfl 32 (.tmp 1) rfl (idc k).toArray rfl ?_))
    go_loopw [12] (fun c wr => c = .int .i64 0 ∧ wr = w2) (fun _ _ => 0)
    case atStart => exact ⟨rfl, rfl⟩
    case round =>
      obtain ⟨rfl, rfl⟩ := hrel
      go_wp2_with fail
      go_ret
      exact ⟨.inr ⟨by simp, rfl⟩, unhide Hb2⟩
  · have Hcur := hide hcur
    clear h h2 r0 hb2 hcur
    go_enter Yba.func12, Yba.ntmps12
    go_wp2_with (first
      | (with_reducible refine wpList_box_row rfl 32 (.tmp 1) rfl (idc k).toArray rfl ?_))
    clear hw2 c108
    go_loopw [12] (fun c wr => ∃ j : Nat, c = .int .i64 j ∧ Hid (j ≤ ss.length ∧ ∀ i (hi : i < j) (hi' : i < ss.length), (ss[i]).1 ≠ k) ∧ Hid (RowAt wr w.heap.size 32 (idc k)) ∧ Hid (Below w.heap.size w wr)) (fun c _ => ss.length - (intOf c).toNat)
    case atStart => exact ⟨0, rfl, hide ⟨Nat.zero_le _, fun i hi => absurd hi (Nat.not_lt_zero _)⟩, R0, Hb2⟩
    case round =>
      clear R0 Hb2
      obtain ⟨j, rfl, Hj, R0, Hb⟩ := hrel
      by_cases hlt : j < ss.length
      · have hr := (unhide Hcur).1.below (unhide Hb) hg
        have hsc := scc_of_row hr (unhide Hcur).2.2 j hlt
        have hnot := (unhide Hj).2
        obtain ⟨q, hq⟩ : ∃ q, q = ss[j] := ⟨_, rfl⟩
        rw [← hq] at hsc
        obtain ⟨kj, fj⟩ := q
        have Hq := hide hq
        have Hsc := hide hsc
        have HE := eq_ids kj k
        have hi0 : (0 : Int) ≤ j := by omega
        have hi1 : (j : Int) < ss.length := by omega
        clear hr hsc hq hnot
        have Hb3 := hide (Below.made (unhide Hb) (.cells (scc 0 0).toArray 105) (scc kj fj) (unhide Hb).size)
        by_cases hk : kj = k
        · subst hk
          go_wp2_with (first
            | (with_reducible refine wpList_load_mid rfl 105 (.tmp 15) rfl g (j * 74) ?hx (scc kj fj) _ ?hr Yba.underlying105 rfl ?hs ?_)
            | (with_reducible refine wpList_alloc_row rfl 105 rfl (scc 0 0).toArray (zero105 _) ?_)
            | (with_reducible refine wpList_store_mid rfl 105 (.tmp 6) (.tmp 16) rfl wr.heap.size 0 (scc kj fj).toArray ?hx2 ?hy2 ?ht ?hi (all_oneCell_toArray (scc_one _ _)) ?_)
            | (with_reducible refine wpList_load_mid rfl 32 (.tmp 19) rfl wr.heap.size 0 ?hx3 (idc kj) _ ?hr3 Yba.underlying32 rfl ?hs3 ?_)
            | (with_reducible refine wpList_load_mid rfl 32 (.tmp 3) rfl w.heap.size 0 ?hx4 (idc kj) _ ?hr4 Yba.underlying32 rfl ?hs4 ?_))
          case hr => exact unhide Hsc
          case hs => simpa using size105c kj fj
          case ht => exact (row_new wr (scc 0 0) 105).there 0 _ (by simp only [scc_length]; omega)
          case hi => simpa using size105c kj fj
          case hr3 => exact id_of_scc (row_made wr (scc 0 0) (scc kj fj) 105 (by rw [scc_length, scc_length]))
          case hs3 => simpa using size32c kj
          case hr4 => exact ((unhide R0).made _ _).all
          case hs4 => simpa using size32c kj
          go_ret
          exact ⟨.inl ⟨j, hlt, by rw [← unhide Hq], fun i hi => (unhide Hj).2 i hi (by omega), rfl⟩, unhide Hb3⟩
        · go_wp2_with (first
            | (with_reducible refine wpList_load_mid rfl 105 (.tmp 15) rfl g (j * 74) ?hxb (scc kj fj) _ ?hrb Yba.underlying105 rfl ?hsb ?_)
            | (with_reducible refine wpList_alloc_row rfl 105 rfl (scc 0 0).toArray (zero105 _) ?_)
            | (with_reducible refine wpList_store_mid rfl 105 (.tmp 6) (.tmp 16) rfl wr.heap.size 0 (scc kj fj).toArray ?hx2b ?hy2b ?htb ?hib (all_oneCell_toArray (scc_one _ _)) ?_)
            | (with_reducible refine wpList_load_mid rfl 32 (.tmp 19) rfl wr.heap.size 0 ?hx3b (idc kj) _ ?hr3b Yba.underlying32 rfl ?hs3b ?_)
            | (with_reducible refine wpList_load_mid rfl 32 (.tmp 3) rfl w.heap.size 0 ?hx4b (idc k) _ ?hr4b Yba.underlying32 rfl ?hs4b ?_))
          case hrb => exact unhide Hsc
          case hsb => simpa using size105c kj fj
          case htb => exact (row_new wr (scc 0 0) 105).there 0 _ (by simp only [scc_length]; omega)
          case hib => simpa using size105c kj fj
          case hr3b => exact id_of_scc (row_made wr (scc 0 0) (scc kj fj) 105 (by rw [scc_length, scc_length]))
          case hs3b => simpa using size32c kj
          case hr4b => exact ((unhide R0).made _ _).all
          case hs4b => simpa using size32c k
          go_roundw
          case rel =>
            refine ⟨j + 1, by go_num, hide ⟨by omega, ?_⟩, hide ((unhide R0).made _ _), Hb3⟩
            intro i hi hi'
            by_cases he : i = j
            · subst he; rw [← unhide Hq]; exact hk
            · exact (unhide Hj).2 i (by omega) hi'
          case measure => simp [intOf]; omega
      · have hj : j = ss.length := by have := (unhide Hj).1; omega
        have hlt' : ¬ ((j : Int) < ss.length) := by omega
        go_wp2_with fail
        go_ret
        exact ⟨.inr ⟨fun i hi => (unhide Hj).2 i (by omega) hi, rfl⟩, unhide Hb⟩

end Go.Proofs.Ybulkbbca
