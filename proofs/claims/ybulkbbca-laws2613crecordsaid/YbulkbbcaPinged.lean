/- (*Node).pingedSaved (function 9). -/
import Derived.Test.YbulkbbcaAfter
import Derived.Deep.RegionLaw
import Derived.Deep.CutRange
namespace Go.Proofs.Ybulkbbca
open Go.RowKit

theorem step_value {P : Program} {ops : Array Oper} {o : Oper} {a : Act} {w : World} {K : Act → World → Prop} {Q : Exit → Act → World → Prop} {E : Prop}
    (hg : o.guard = none) {v : Value} {w' : World} (hr : (execOp a.eval o).run P w = .ok (.value v) w') (hK : K (a.put o.dst v) w') :
    if Region.wanted o (yielded ops a.tmps) = true then Oper.wp P o a w K Q else E := by
  rw [if_pos (by simp [Region.wanted, hg])]
  unfold Oper.wp
  rw [hr]
  exact hK

theorem step_alloc_row {P : Program} {ops : Array Oper} {o : Oper} {a : Act} {w : World} {K : Act → World → Prop} {Q : Exit → Act → World → Prop} {E : Prop}
    (hg : o.guard = none) (t : TypeId) (ho : o.op = .alloc t) (Z : Array Value) (hz : (zeroValue t).run P w = .ok (.agg Z) w)
    (hK : K (a.put o.dst (.pointer (some ⟨w.heap.size, 0, none⟩))) (w.alloc (.cells Z t))) :
    if Region.wanted o (yielded ops a.tmps) = true then Oper.wp P o a w K Q else E := by
  refine step_value hg (v := .pointer (some ⟨w.heap.size, 0, none⟩)) (w' := w.alloc (.cells Z t)) ?_ hK
  unfold execOp
  simp only [ho, Instr.alloc, Sem.run_bind, hz, Result.andThen_ok]
  rfl
theorem step_store_row {P : Program} {ops : Array Oper} {op : Oper} {a : Act} {w : World} {K : Act → World → Prop} {Q : Exit → Act → World → Prop} {E : Prop}
    (hg : op.guard = none) (ty : TypeId) (x y : Operand) (ho : op.op = .store ty x y)
    (b o : Nat) (cells : Array Value) (hx : a.eval x = .pointer (some ⟨b, o, none⟩)) (hy : a.eval y = .agg cells)
    (ht : w.there b o cells.size) (hi : (P.info? ty).map (·.size) = some cells.size) (h1 : cells.all (·.oneCell') = true)
    (h : K (a.put op.dst undef) (w.setCells b o cells.toList)) :
    if Region.wanted op (yielded ops a.tmps) = true then Oper.wp P op a w K Q else E := by
  rw [if_pos (by simp [Region.wanted, hg])]
  exact wp_store_mid ty x y ho b o cells hx hy ht hi h1 h

theorem info105 : ∃ i, Yba.prog.info? 105 = some i ∧ i.size = 74 := by
  have h := size105
  cases hc : Yba.prog.info? 105 with
  | none => rw [hc] at h; cases h
  | some i => rw [hc] at h; exact ⟨i, rfl, by simpa using h⟩

theorem index_calls' (B : Nat) (v : Value) (ss : List (Int × Int)) (k : Int) (w : World) (h : St w B v ss) (hn : ss.length ≤ 1024) :
    Calls Yba.prog 12 #[.pointer (some ⟨B + 1, 0, none⟩), .agg (idc k).toArray] w fun e w' => ∃ n : Int,
      ((∃ i : Nat, ∃ hi : i < ss.length, (ss[i]).1 = k ∧ (∀ j (hj : j < i), (ss[j]).1 ≠ k) ∧ n = i) ∨ ((∀ j (hj : j < ss.length), (ss[j]).1 ≠ k) ∧ n = -1)) ∧ e = .returned (.int .i64 n) ∧ Below w.heap.size w w' := by
  refine (index_calls B v ss k w h hn).mono ?_
  rintro e w' ⟨⟨i, hi, h1, h2, rfl⟩ | ⟨h1, rfl⟩, hb⟩
  · exact ⟨i, .inl ⟨i, hi, h1, h2, rfl⟩, rfl, hb⟩
  · exact ⟨-1, .inr ⟨h1, rfl⟩, rfl, hb⟩

theorem St.count {w : World} {B g cap : Nat} {ss : List (Int × Int)} (h : St w B (.slice (some ⟨g, 0, none⟩) ss.length cap) ss) (i : Nat) (hi : i < ss.length) : w.cell? ⟨g, i * 74 + 73, none⟩ = some (.int .i64 (ss[i]).2) := by
  rcases h.form with ⟨h1, _⟩ | ⟨g', cap', h1, _, _, _, cur, hc1, _, hc3⟩
  · cases h1
  · cases h1
    rw [hc1.cell, take_at hc3 (by have : (i + 1) * 74 ≤ ss.length * 74 := Nat.mul_le_mul_right _ hi; omega), sccs_count hi]
theorem St.lt2 {w : World} {B g n cap : Nat} {ss : List (Int × Int)} (h : St w B (.slice (some ⟨g, 0, none⟩) n cap) ss) : B + 2 ≤ g ∧ g < w.heap.size := h.own.lt g rfl
theorem St.freeRow {w : World} {B g n cap : Nat} {ss : List (Int × Int)} (h : St w B (.slice (some ⟨g, 0, none⟩) n cap) ss) (o : Nat) : w.frozen? ⟨g, o, none⟩ = false := by
  rcases h.form with ⟨h1, _⟩ | ⟨g', cap', h1, _, _, _, cur, hc1, _, hc3⟩
  · cases h1
  · cases h1
    exact hc1.free _

set_option maxHeartbeats 1000000 in
set_option maxRecDepth 100000 in
theorem ping_calls (B : Nat) (v : Value) (ss : List (Int × Int)) (k : Int) (ans : Bool) (w : World) (h : St w B v ss) (hn : ss.length ≤ 1024) (hk : 0 ≤ k ∧ k ≤ 255) :
    Calls Yba.prog 9 #[.pointer (some ⟨B + 1, 0, none⟩), .agg (idc k).toArray, .bool ans] w fun e w' => e = .returned (.tuple #[]) ∧ (∃ v', St w' B v' (after k ans ss)) ∧ Below B w w' := by
  generalize hw2 : w.alloc (.cells (idc k).toArray 32) = w2
  have hB : B ≤ w.heap.size := Nat.le_of_lt h.tab.lt
  have hb2 : Below w.heap.size w w2 := by rw [← hw2]; exact (Below.refl _ _).alloc (Nat.le_refl _) _
  have r0 : RowAt w2 w.heap.size 32 (idc k) := by rw [← hw2]; exact row_new w (idc k) 32
  have h2 := h.below hb2 (Nat.le_refl _)
  have Hvlt := hide (fun k (hk : v.ownBlock = some k) => (h.own.lt k hk).2)
  have HI := hide (index_calls' B v ss k w2 h2 hn)
  have H2 := hide h2
  have R0 := hide r0
  have Hb2 := hide hb2
  have Hk := hide hk
  have hx := r0.all
  have hs := size32c k
  clear h h2 r0 hb2 hk
  go_enter Yba.func9, Yba.ntmps9
  go_wp2_with (first
    | (with_reducible refine wpList_box_row rfl 32 (.tmp 1) rfl (idc k).toArray rfl ?_)
    | (with_reducible refine wpList_load_mid rfl 32 (.tmp 4) rfl w.heap.size 0 ?hx (idc k) _ hx Yba.underlying32 rfl hs ?_)
    | (go_at_call 12; refine (unhide HI).mono ?_; rintro e w3 ⟨n, hres, rfl, hb3⟩; have Hres := hide hres; have Hb3 := hide hb3; clear hres hb3; refine unhide ?_))
  case hx => rfl
  refine hide ?_
  clear hx hw2
  have h3 := (unhide H2).below (unhide Hb3) (Nat.le_refl _)
  have r3 := (unhide R0).below (unhide Hb3) (unhide R0).lt
  have hbB : Below B w w3 := ((unhide Hb2).mono hB).trans ((unhide Hb3).mono (Nat.le_trans hB (unhide Hb2).size))
  have HbB := hide hbB
  have R3 := hide r3
  have H3 := hide h3
  clear R0 H2 HI hbB r3
  rcases unhide Hres with ⟨i, hi, hki, hbe, rfl⟩ | ⟨hno, rfl⟩
  · rcases h3.form with ⟨rfl, rfl⟩ | ⟨g, cap, rfl, hg2, hg, hcap, cur, hcur⟩
    · cases hi
    clear h3 hcur cur
    have Hki := hide hki
    have Hbe := hide hbe
    have hi0 : (0 : Int) ≤ i := by omega
    have hi1 : (i : Int) < ss.length := by omega
    have hin : ¬ ((i : Int) < 0) := by omega
    have c108 : w3.cell? ⟨B + 1, 108, none⟩ = some (.slice (some ⟨g, 0, none⟩) ss.length cap) := by rw [(unhide H3).node.cell, nodec_108]
    obtain ⟨f, hfe⟩ : ∃ f, f = (ss[i]).2 := ⟨_, rfl⟩
    have cg : w3.cell? ⟨g, i * 74 + 73, none⟩ = some (.int .i64 f) := by rw [hfe]; exact (unhide H3).count i hi
    have fg : w3.frozen? ⟨g, i * 74 + 73, none⟩ = false := (unhide H3).freeRow _
    have hse : ss[i] = (k, f) := by rw [hfe, ← hki]
    have Hse := hide hse
    clear hki hbe hfe hse
    go_upto_if 15 with fail
    go_cut [] from 16 to 26 (fun wx => Hid (St wx B (.slice (some ⟨g, 0, none⟩) ss.length cap) (ss.set i (k, nf ans f))) ∧ Hid (RowAt wx w.heap.size 32 (idc k)) ∧ Hid (Below B w wx))
    case first =>
      cases ans
      · go_wp2_with fail
        go_meet
        case rel =>
          have hx3 := (unhide H3).bump i hi (wrap64 (f + 1))
          have e1 : ((ss[i]).1, wrap64 (f + 1)) = (k, nf false f) := by rw [unhide Hse]; rfl
          rw [e1] at hx3
          exact ⟨hide hx3, hide ((unhide R3).other _ _ (by show w.heap.size ≠ g; have := unhide Hvlt g rfl; omega)), hide ((unhide HbB).setCell (p := ⟨g, i * 74 + 73, none⟩) (by show B ≤ g; omega) _)⟩
      · go_wp2_with fail
        go_meet
        case rel =>
          have e1 : ss.set i (k, nf true f) = ss := by
            have : nf true f = f := rfl
            rw [this, ← unhide Hse, List.set_getElem_self]
          rw [e1]
          exact ⟨H3, R3, HbB⟩
    case rest =>
      clear c108 cg fg R3 HbB H3
      obtain ⟨H4, R4, Hb4⟩ := hcut
      obtain ⟨f', hf'⟩ : ∃ f', f' = nf ans f := ⟨_, rfl⟩
      rw [← hf'] at H4
      have Hf' := hide hf'
      clear hf'
      have HC : Hid (∀ w', Below wc.heap.size wc w' → Calls Yba.prog 13 #[.pointer (some ⟨B, 0, none⟩), .agg (idc k).toArray] w' fun e w'' => e = .returned (.tuple #[.agg con0.toArray, .bool false]) ∧ Below w'.heap.size w' w'') :=
        hide (fun w' hb => contact_calls B (idn k) (id32_idn (unhide Hk)) w' ((unhide H4).below hb (Nat.le_refl _)).tab)
      go_upto_region 5 with fail
      go_cut [7, 8] from 27 to 35 (fun s7 s8 wx => (∃ b : Nat, s7 = .pointer (some ⟨b, 0, none⟩)) ∧ s8 = .bool false ∧ Hid (Below wc.heap.size wc wx))
      case first =>
        refine wp_region_noPanic ?_
        refine wp_region_held_drew (S := fun w' => Below wc.heap.size wc w') (by kernel_rfl) (Below.refl _ _).drew (fun hHeld => ?_)
        refine wpAnyH_take (i := 0) (v := .pointer (some ⟨B + 1, 0, none⟩)) rfl (by kernel_rfl) (by kernel_rfl) (by kernel_rfl) (fun _ _ _ h => h) (Or.inl ⟨by rfl, fun w' hw' => by go_simp⟩) hHeld ?_
        refine wpAnyH_take (i := 1) (v := .pointer (some ⟨B + 1, 0, none⟩)) rfl (by kernel_rfl) (by kernel_rfl) (by kernel_rfl) (fun _ _ _ h => h) (Or.inl ⟨by rfl, fun w' hw' => by go_simp⟩) hHeld ?_
        refine wpAnyH_take (i := 2) (v := .pointer (some ⟨B + 1, 82, none⟩)) rfl (by kernel_rfl) (by kernel_rfl) (by kernel_rfl) (fun _ _ _ h => h) (Or.inl ⟨by rfl, fun w' hw' => by go_simp⟩) hHeld ?_
        refine wpAnyH_take (i := 3) (v := .pointer (some ⟨B, 0, none⟩)) rfl (by kernel_rfl) (by kernel_rfl) (by kernel_rfl) (fun _ _ _ h => h) (Or.inl ⟨by rfl, fun w' hw' => by have hc : w'.cell? ⟨B + 1, 82, none⟩ = some (.pointer (some ⟨B, 0, none⟩)) := (by rw [((unhide H4).below hw' (Nat.le_refl _)).node.cell, nodec_82]); clear hw'; go_simp⟩) hHeld ?_
        refine wpAnyH_take (i := 4) (v := .agg (idc k).toArray) rfl (by kernel_rfl) (by kernel_rfl) (by kernel_rfl) (fun _ _ _ h => h) (yieldsIf_load_mid (by rfl) 32 _ rfl w.heap.size 0 rfl (idc k) _ (fun _ h => ((unhide R4).below h (unhide R4).lt).all) Yba.underlying32 rfl hs) hHeld ?_
        change wpAnyH Yba.prog .any _ _ _ _ _ ⟨#[_, _, _, _, _, _, _, _, _, _, _, _, _, _, _, _, _, _, _, _, _, _, _, _, _, _, _, _, _, _, _, _, _, _, _, _, _, _, _, _, _, _, _, _, _, _, _, _, _, _, _, _, _, _, _, _, _, _, _, _, _, _, _, _, _, _, _, _], []⟩ _
        refine wpAnyH_ready (rs := [5, 9]) (by kernel_rfl) (by simp) ?_
        refine AllReadyH.cons rfl (fun K hK => ?_) (AllReadyH.cons rfl (fun K hK => ?_) AllReadyH.nil)
        · go_simp
          refine (unhide HC _ hHeld).mono ?_
          rintro e w5 ⟨rfl, hb5⟩
          refine hK.out _ _ (hHeld.trans (hb5.mono hHeld.size)) (fun hHeld => ?_)
          clear hK K hb5
          refine wpAnyH_take (i := 6) (v := .tuple #[.agg con0.toArray, .bool false]) rfl (by kernel_rfl) (by kernel_rfl) (by kernel_rfl) (fun _ _ _ h => h) (Or.inl ⟨by rfl, fun w' hw' => by go_simp⟩) hHeld ?_
          refine wpAnyH_take (i := 7) (v := .agg con0.toArray) rfl (by kernel_rfl) (by kernel_rfl) (by kernel_rfl) (fun _ _ _ h => h) (Or.inl ⟨by rfl, fun w' hw' => by go_simp⟩) hHeld ?_
          refine wpAnyH_take (i := 8) (v := .bool false) rfl (by kernel_rfl) (by kernel_rfl) (by kernel_rfl) (fun _ _ _ h => h) (Or.inl ⟨by rfl, fun w' hw' => by go_simp⟩) hHeld ?_
          change wpAnyH Yba.prog .any _ _ _ _ _ ⟨#[_, _, _, _, _, _, _, _, _, _, _, _, _, _, _, _, _, _, _, _, _, _, _, _, _, _, _, _, _, _, _, _, _, _, _, _, _, _, _, _, _, _, _, _, _, _, _, _, _, _, _, _, _, _, _, _, _, _, _, _, _, _, _, _, _, _, _, _], []⟩ _
          refine wpAnyH_ready (rs := [9]) (by kernel_rfl) (by simp) ?_
          refine AllReadyH.cons rfl (fun K hK => ?_) AllReadyH.nil
          refine step_alloc_row rfl 51 rfl con0.toArray (zero51 _) ?_
          have hlt5 := hHeld.size
          refine hK.out _ _ (hHeld.alloc hHeld.size _) (fun hHeld => ?_)
          clear hK K
          change wpAnyH Yba.prog .any _ _ _ _ _ ⟨#[_, _, _, _, _, _, _, _, _, _, _, _, _, _, _, _, _, _, _, _, _, _, _, _, _, _, _, _, _, _, _, _, _, _, _, _, _, _, _, _, _, _, _, _, _, _, _, _, _, _, _, _, _, _, _, _, _, _, _, _, _, _, _, _, _, _, _, _], []⟩ _
          refine wpAnyH_ready (rs := [10]) (by kernel_rfl) (by simp) ?_
          refine AllReadyH.cons rfl (fun K hK => ?_) AllReadyH.nil
          refine step_store_row rfl 51 (.tmp 7) (.tmp 34) rfl w5.heap.size 0 con0.toArray rfl rfl ((row_new w5 con0 51).there 0 _ (by rw [List.size_toArray, con0_length]; omega)) (by rw [List.size_toArray]; exact size51c) (all_oneCell_toArray con0_one) ?_
          refine hK.out _ _ (Below.setCells hHeld _ _ _ (by first | exact Nat.le_refl _ | exact hlt5)) (fun hHeld => ?_)
          clear hK K
          refine wpAnyH_take (i := 11) (v := .bool false) rfl (by kernel_rfl) (by kernel_rfl) (by kernel_rfl) (fun _ _ _ h => h) (Or.inl ⟨by rfl, fun w' hw' => by go_simp⟩) hHeld ?_
          refine wpAnyH_done (by kernel_rfl) ?_ _
          refine NoPanic.normal ?_
          change Exit.then _ _ .normal ⟨#[_, _, _, _, _, _, _, _, _, _, _, _, _, _, _, _, _, _, _, _, _, _, _, _, _, _, _, _, _, _, _, _, _, _, _, _, _, _, _, _, _, _, _, _, _, _, _, _, _, _, _, _, _, _, _, _, _, _, _, _, _, _, _, _, _, _, _, _], []⟩ _
          dsimp only
          go_wp2_with fail
          go_meet
          case rel => exact ⟨⟨_, rfl⟩, rfl, hide hHeld⟩
        · refine step_alloc_row rfl 51 rfl con0.toArray (zero51 _) ?_
          have r5 := row_new wc.drew con0 51
          refine hK.out _ _ (hHeld.alloc (Nat.le_refl _) _) (fun hHeld => ?_)
          clear hK K
          generalize wc.drew.alloc (.cells con0.toArray 51) = wa at *
          change wpAnyH Yba.prog .any _ _ _ _ _ ⟨#[_, _, _, _, _, _, _, _, _, _, _, _, _, _, _, _, _, _, _, _, _, _, _, _, _, _, _, _, _, _, _, _, _, _, _, _, _, _, _, _, _, _, _, _, _, _, _, _, _, _, _, _, _, _, _, _, _, _, _, _, _, _, _, _, _, _, _, _], []⟩ _
          refine wpAnyH_ready (rs := [5]) (by kernel_rfl) (by simp) ?_
          refine AllReadyH.cons rfl (fun K hK => ?_) AllReadyH.nil
          go_simp
          refine (unhide HC _ hHeld).mono ?_
          rintro e w5 ⟨rfl, hb5⟩
          have r6 := r5.below hb5 r5.lt
          refine hK.out _ _ (hHeld.trans (hb5.mono hHeld.size)) (fun hHeld => ?_)
          clear hK K hb5
          refine wpAnyH_take (i := 6) (v := .tuple #[.agg con0.toArray, .bool false]) rfl (by kernel_rfl) (by kernel_rfl) (by kernel_rfl) (fun _ _ _ h => h) (Or.inl ⟨by rfl, fun w' hw' => by go_simp⟩) hHeld ?_
          refine wpAnyH_take (i := 7) (v := .agg con0.toArray) rfl (by kernel_rfl) (by kernel_rfl) (by kernel_rfl) (fun _ _ _ h => h) (Or.inl ⟨by rfl, fun w' hw' => by go_simp⟩) hHeld ?_
          refine wpAnyH_take (i := 8) (v := .bool false) rfl (by kernel_rfl) (by kernel_rfl) (by kernel_rfl) (fun _ _ _ h => h) (Or.inl ⟨by rfl, fun w' hw' => by go_simp⟩) hHeld ?_
          change wpAnyH Yba.prog .any _ _ _ _ _ ⟨#[_, _, _, _, _, _, _, _, _, _, _, _, _, _, _, _, _, _, _, _, _, _, _, _, _, _, _, _, _, _, _, _, _, _, _, _, _, _, _, _, _, _, _, _, _, _, _, _, _, _, _, _, _, _, _, _, _, _, _, _, _, _, _, _, _, _, _, _], []⟩ _
          refine wpAnyH_ready (rs := [10]) (by kernel_rfl) (by simp) ?_
          refine AllReadyH.cons rfl (fun K hK => ?_) AllReadyH.nil
          refine step_store_row rfl 51 (.tmp 7) (.tmp 34) rfl wc.heap.size 0 con0.toArray rfl rfl (r6.there 0 _ (by rw [List.size_toArray, con0_length]; omega)) (by rw [List.size_toArray]; exact size51c) (all_oneCell_toArray con0_one) ?_
          refine hK.out _ _ (Below.setCells hHeld _ _ _ (by first | exact Nat.le_refl _ | exact hlt5)) (fun hHeld => ?_)
          clear hK K
          refine wpAnyH_take (i := 11) (v := .bool false) rfl (by kernel_rfl) (by kernel_rfl) (by kernel_rfl) (fun _ _ _ h => h) (Or.inl ⟨by rfl, fun w' hw' => by go_simp⟩) hHeld ?_
          refine wpAnyH_done (by kernel_rfl) ?_ _
          refine NoPanic.normal ?_
          change Exit.then _ _ .normal ⟨#[_, _, _, _, _, _, _, _, _, _, _, _, _, _, _, _, _, _, _, _, _, _, _, _, _, _, _, _, _, _, _, _, _, _, _, _, _, _, _, _, _, _, _, _, _, _, _, _, _, _, _, _, _, _, _, _, _, _, _, _, _, _, _, _, _, _, _, _], []⟩ _
          dsimp only
          go_wp2_with fail
          go_meet
          case rel => exact ⟨⟨_, rfl⟩, rfl, hide hHeld⟩
      case rest =>
        obtain ⟨⟨b, rfl⟩, rfl, Hb5⟩ := hcut
        have H5 := hide ((unhide H4).below (unhide Hb5) (Nat.le_refl _))
        have Hb6 := hide ((unhide Hb4).trans ((unhide Hb5).mono (Nat.le_trans hB (unhide Hb4).size)))
        have hl' : (ss.set i (k, f')).length = ss.length := List.length_set
        have haf : after k ans ss = if gone ans f then (ss.set i (k, f')).take i ++ (ss.set i (k, f')).drop (i + 1) else ss.set i (k, f') := by
          rw [after_at k ans ss i hi (unhide Hki) (unhide Hbe), unhide Hse, ← unhide Hf', List.take_set_of_le (Nat.le_refl _), List.drop_set_of_lt (Nat.lt_succ_self _)]
        have hgn : gone ans f = (ans || f' == 3) := by rw [gone, ← unhide Hf']
        rw [hgn] at haf
        have H5' := unhide H5
        rw [← hl'] at H5'
        have hcap' : (ss.set i (k, f')).length ≤ cap := by rw [hl']; exact hcap
        have hi' : i < (ss.set i (k, f')).length := by rw [hl']; exact hi
        have cg : wc.cell? ⟨g, i * 74 + 73, none⟩ = some (.int .i64 f') := by
          rw [H5'.count i hi']
          simp
        clear H5
        generalize ss.set i (k, f') = st at *
        clear hl' H4 R4 Hb4 Hb5 HC hi1 Hki Hbe hgn Hse Hf'
        have c108 : wc.cell? ⟨B + 1, 108, none⟩ = some (.slice (some ⟨g, 0, none⟩) st.length cap) := by rw [H5'.node.cell, nodec_108]
        have hi1 : (i : Int) < st.length := by omega
        have hrem := (H5'.below (Below.refl wc.heap.size wc).drew (Nat.le_refl _)).remove i hi'
        have hrow : ∃ cur : List Value, RowAt wc g 105 cur ∧ cur.length = cap * 74 ∧ cur.take (st.length * 74) = sccs st := by
          rcases H5'.form with ⟨h1, _⟩ | ⟨g', cap', h1, _, _, _, cur, hc1, hc2, hc3⟩
          · cases h1
          · cases h1
            exact ⟨cur, hc1, hc2, hc3⟩
        obtain ⟨cur, hc1, hc2, hc3⟩ := hrow
        obtain ⟨news, hnw⟩ : ∃ news, news = sccs (st.drop (i + 1)) := ⟨_, rfl⟩
        have s1 : Hid (news.length = (st.length - (i + 1)) * 74) := hide (by rw [hnw, sccs_length, List.length_drop])
        obtain ⟨A, hA, hnews⟩ : ∃ A : Addr, (if cap = i + 1 then some (⟨g, 0, none⟩ : Addr) else some ⟨g, (i + 1) * 74, none⟩) = some A ∧ Hid (∀ j u, news[j]? = some u → wc.drew.cell? (A.add j) = some u) := by
          by_cases h : cap = i + 1
          · refine ⟨⟨g, 0, none⟩, by simp [h], fun j u hu => ?_⟩
            have h0 : news.length = 0 := by rw [unhide s1, show st.length - (i + 1) = 0 from by omega]
            rw [List.length_eq_zero_iff.1 h0] at hu
            simp at hu
          · refine ⟨⟨g, (i + 1) * 74, none⟩, by simp [h], fun j u hu => ?_⟩
            show wc.cell? _ = _
            have hj : j < (st.length - (i + 1)) * 74 := by rw [← unhide s1]; exact (List.getElem?_eq_some_iff.1 hu).1
            have hle : (i + 1) * 74 + (st.length - (i + 1)) * 74 = st.length * 74 := by rw [← Nat.add_mul]; congr 1; omega
            rw [Lib.add_plain, hc1.cell, take_at hc3 (by omega), sccs_split st (i + 1), List.getElem?_append_right (by rw [sccs_length, List.length_take, Nat.min_eq_left (by omega)]; omega), sccs_length, List.length_take, Nat.min_eq_left (by omega), Nat.add_sub_cancel_left, ← hnw]
            exact hu
        have s2 : Hid (∀ u ∈ news, u.oneCell' = true) := hide (by rw [hnw]; exact sccs_one _)
        have s3 : Hid (∀ j, j < news.length → (wc.drew.cell? ⟨g, 0 + i * 74 + j, none⟩).isSome = true ∧ wc.drew.frozen? ⟨g, 0 + i * 74 + j, none⟩ = false) := hide (by
          intro j hj
          rw [unhide s1] at hj
          have hle : i * 74 + (st.length - (i + 1)) * 74 ≤ cap * 74 := by rw [← Nat.add_mul]; exact Nat.mul_le_mul_right _ (by omega)
          refine ⟨?_, hc1.free _⟩
          show (wc.cell? _).isSome = true
          rw [hc1.cell, List.getElem?_eq_getElem (by omega)]
          rfl)
        have hnd := (show RowAt wc.drew (B + 1) 98 _ from H5'.node).setOther g (i * 74) news (by omega)
        have hsc : (wc.drew.setCells g (i * 74) news).cell? ⟨B + 1, 108, none⟩ = some (.slice (some ⟨g, 0, none⟩) st.length cap) := by rw [hnd.cell, nodec_108]
        have hsf : (wc.drew.setCells g (i * 74) news).frozen? ⟨B + 1, 108, none⟩ = false := hnd.free 108
        have hsc0 : (wc.drew.setCells g (0 + i * 74) news).cell? ⟨B + 1, 108, none⟩ = some (.slice (some ⟨g, 0, none⟩) st.length cap) := by rw [Nat.zero_add]; exact hsc
        have hsf0 : (wc.drew.setCells g (0 + i * 74) news).frozen? ⟨B + 1, 108, none⟩ = false := by rw [Nat.zero_add]; exact hsf
        have hic : i ≤ cap := by omega
        have hwr : IntKind.i64.wrap ((i : Int) + 1) = (i : Int) + 1 := by rw [IntKind.wrap_i64]; omega
        have hp0 : (0 : Int) ≤ (i : Int) + 1 := by omega
        have hp1 : (i : Int) + 1 ≤ (st.length : Int) := by omega
        have hp2 : ((i : Int) + 1).toNat = i + 1 := by omega
        obtain ⟨ti, hti, hts⟩ := info105
        rw [← hnw] at hrem
        have Hrem := hide hrem
        have Hfin := hide H5'
        have Hnw := hide hnw
        have Haf := hide haf
        have hroom : Hid (i + (st.length - (i + 1)) ≤ cap) := hide (by omega)
        clear hnd hrem H5' hc1 hc2 hc3 hnw haf
        have HB := hide ((Below.setCells (unhide Hb6).drew g (i * 74) news (by omega)).setCell (p := ⟨B + 1, 108, none⟩) (by show B ≤ B + 1; omega) (.slice (some ⟨g, 0, none⟩) (i + (st.length - (i + 1))) cap))
        cases ans
        · by_cases h3 : f' = 3
          · subst h3
            have He : Hid (after k false ss = st.take i ++ st.drop (i + 1)) := hide (by rw [unhide Haf]; rfl)
            go_wp2_with fail
            go_region_law (refine step_append_room rfl (.tmp 57) (.tmp 64) 83 rfl 105 ti 74 Yba.underlying83 hti hts g 0 i cap (by simp [Act.eval, Act.put]) A (st.length - (i + 1)) (cap - (i + 1)) news (by simp [Act.eval, Act.put]) s1.out hnews.out s2.out hroom.out s3.out ?_)
            all_goals go_end0
            all_goals exact ⟨rfl, ⟨_, by rw [unhide He]; exact unhide Hrem⟩, unhide HB⟩
          · have He : Hid (after k false ss = st) := hide (by rw [unhide Haf, if_neg]; simpa using h3)
            go_wp2_with fail
            go_end0
            exact ⟨rfl, ⟨_, by rw [unhide He]; exact unhide Hfin⟩, unhide Hb6⟩
        · have He : Hid (after k true ss = st.take i ++ st.drop (i + 1)) := hide (by rw [unhide Haf]; rfl)
          go_wp2_with fail
          go_region_law (refine step_append_room rfl (.tmp 57) (.tmp 64) 83 rfl 105 ti 74 Yba.underlying83 hti hts g 0 i cap (by simp [Act.eval, Act.put]) A (st.length - (i + 1)) (cap - (i + 1)) news (by simp [Act.eval, Act.put]) s1.out hnews.out s2.out hroom.out s3.out ?_)
          all_goals go_end0
          all_goals exact ⟨rfl, ⟨_, by rw [unhide He]; exact unhide Hrem⟩, unhide HB⟩
  · have He : Hid (after k ans ss = ss) := hide (after_none k ans ss hno)
    clear hno h3
    go_wp2_with fail
    exact bodyPost_ret (results_none rfl _ _ _) rfl ⟨rfl, ⟨_, by rw [unhide He]; exact unhide H3⟩, unhide HbB⟩

end Go.Proofs.Ybulkbbca
