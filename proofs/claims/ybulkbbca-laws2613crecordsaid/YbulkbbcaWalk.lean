/- LawS2613CRecord (function 5): the walk. -/
import Derived.Test.YbulkbbcaBuild
namespace Go.Proofs.Ybulkbbca
open Go.RowKit

/-- the slice that came in -/
def ArgAt (w : World) (a0 : Option Addr) (ss : List (Int × Int)) : Prop := ∀ j (hj : j < ss.length), ∃ g o, a0 = some ⟨g, o, none⟩ ∧ g < w.heap.size ∧
  w.cell? ⟨g, o + j * 2, none⟩ = some (.int .u8 (ss[j]).1) ∧ w.cell? ⟨g, o + j * 2 + 1, none⟩ = some (.int .i64 (ss[j]).2)

theorem ArgAt.below {w w' : World} {a0 : Option Addr} {ss : List (Int × Int)} (h : ArgAt w a0 ss) (hb : Below w.heap.size w w') : ArgAt w' a0 ss := by
  intro j hj
  obtain ⟨g, o, h0, h1, h2, h3⟩ := h j hj
  refine ⟨g, o, h0, Nat.lt_of_lt_of_le h1 hb.size, ?_, ?_⟩
  · rw [hb.cell h1]; exact h2
  · rw [hb.cell h1]; exact h3

theorem held_take {P : Program} {md : Region.Mode} {ops : Array Oper} {Q : Exit → Act → World → Prop} {S : World → Prop} {i : Nat} {oi : Oper} {fuel : Nat} {listed : Array Bool} {a : Act} {w : World} (d : Option Tmp) (v : Value) (hi : ops[i]? = some oi) (hd : oi.dst = d)
    (hs : Region.noSelect ops = true) (hf : Region.free md ops listed i = true) (hr : (Region.ready md ops listed).contains i = true)
    (hQ : ∀ c a w, Q (.panic c) (a.put oi.dst v) w → Q (.panic c) a w) (hy : YieldsIf P ops S oi v a) (hS : S w)
    (h : wpAnyH P md ops Q S fuel (listed.setIfInBounds i true) (a.put d v) w) : wpAnyH P md ops Q S (fuel + 1) listed a w := by
  subst hd
  exact wpAnyH_take hi hs hf hr hQ hy hS h

theorem exec_build1 {P : Program} {o : Oper} {a : Act} {w : World} (t : TypeId) (n : Nat) (x : Operand) (ho : o.op = .build t #[(n, x)]) (y : Value) (hx : a.eval x = y) (v : Value) (hb : (Instr.build t #[(n, y)]).run P w = .ok v w) :
    (execOp a.eval o).run P w = .ok (.value v) w := by
  unfold execOp
  simp only [ho, List.map_toArray, List.map_cons, List.map_nil, hx, Sem.run_bind]
  rw [hb]
  rfl
theorem exec_build2 {P : Program} {o : Oper} {a : Act} {w : World} (t : TypeId) (n m : Nat) (x z : Operand) (ho : o.op = .build t #[(n, x), (m, z)]) (y u : Value) (hx : a.eval x = y) (hz : a.eval z = u) (v : Value) (hb : (Instr.build t #[(n, y), (m, u)]).run P w = .ok v w) :
    (execOp a.eval o).run P w = .ok (.value v) w := by
  unfold execOp
  simp only [ho, List.map_toArray, List.map_cons, List.map_nil, hx, hz, Sem.run_bind]
  rw [hb]
  rfl
theorem exec_slice1 {P : Program} {o : Oper} {a : Act} {w : World} (t : TypeId) (l n : Nat) (x : Operand) (ho : o.op = .buildSlice t l #[(n, x)]) (y : Value) (hx : a.eval x = y) (v : Value) (w' : World) (hb : (Instr.buildSlice t l #[(n, y)]).run P w = .ok v w') :
    (execOp a.eval o).run P w = .ok (.value v) w' := by
  unfold execOp
  simp only [ho, List.map_toArray, List.map_cons, List.map_nil, hx, Sem.run_bind]
  rw [hb]
  rfl

/-- what is wanted, as cells -/
def wcs (ws : List (Int × Int)) : List Value := ws.flatMap fun p => [.int .u8 p.1, .int .i64 p.2]
theorem wcs_cons (p : Int × Int) (r : List (Int × Int)) : wcs (p :: r) = .int .u8 p.1 :: .int .i64 p.2 :: wcs r := by simp [wcs]
theorem wcs_append (a b : List (Int × Int)) : wcs (a ++ b) = wcs a ++ wcs b := by simp [wcs]
theorem wcs_length (ws : List (Int × Int)) : (wcs ws).length = ws.length * 2 := by
  induction ws with
  | nil => rfl
  | cons p r ih => rw [wcs_cons, List.length_cons, List.length_cons, ih, List.length_cons]; omega
theorem wcs_key (ws : List (Int × Int)) (j : Nat) (hj : j < ws.length) : (wcs ws)[j * 2]? = some (.int .u8 (ws[j]).1) := by
  induction ws generalizing j with
  | nil => cases hj
  | cons p r ih =>
    rw [wcs_cons]
    cases j with
    | zero => rfl
    | succ j => rw [show (j + 1) * 2 = j * 2 + 1 + 1 from by omega, List.getElem?_cons_succ, List.getElem?_cons_succ]; exact ih j (by simpa using hj)
theorem wcs_failed (ws : List (Int × Int)) (j : Nat) (hj : j < ws.length) : (wcs ws)[j * 2 + 1]? = some (.int .i64 (ws[j]).2) := by
  induction ws generalizing j with
  | nil => cases hj
  | cons p r ih =>
    rw [wcs_cons]
    cases j with
    | zero => rfl
    | succ j => rw [show (j + 1) * 2 + 1 = j * 2 + 1 + 1 + 1 from by omega, List.getElem?_cons_succ, List.getElem?_cons_succ]; exact ih j (by simpa using hj)
theorem info100 : (Yba.prog.info? 100).map (fun i => (i.zero, i.size, i.bytes)) = some (some (.agg #[.int .u8 0, .int .i64 0]), 2, 16) := by kernel_rfl

theorem St.grown {w w' : World} {B C : Nat} {v : Value} {ss : List (Int × Int)} {row : Option Nat} (h : St w B v ss) (hg : w.grownBy w' row) (hB : B + 2 ≤ C) (hv : ∀ x, v.ownBlock = some x → x < C) (hr : ∀ x, row = some x → C ≤ x) : St w' B v ss := by
  refine ⟨h.tab.grown hg (fun e => by have := hr B e.symm; omega), h.node.grown hg (fun e => by have := hr (B + 1) e.symm; omega), h.own.kept hg ?_⟩
  cases hv' : v.ownBlock with
  | none => exact .inl rfl
  | some x => exact .inr (fun e => by have h1 := hv x hv'; have h2 := hr x e.symm; omega)

theorem size_alloc1 (w : World) (o : Obj) : w.heap.size + 1 = (w.alloc o).heap.size := by simp
theorem le_alloc2 (w : World) (o p : Obj) : w.heap.size ≤ ((w.alloc o).alloc p).heap.size := by simp; omega
theorem one2 (x f : Int) : ∀ u ∈ [Value.int .u8 x, Value.int .i64 f], u.oneCell' = true := by
  intro u hu
  simp at hu
  rcases hu with rfl | rfl <;> rfl
theorem news_new (w : World) (a b : Value) (t : TypeId) (X : Nat) (hX : X = w.heap.size) : ∀ j u, [a, b][j]? = some u → (w.alloc (.cells #[a, b] t)).cell? ((⟨X, 0, none⟩ : Addr).add j) = some u := by
  subst hX
  exact World.news_of_block (heap_alloc_new w _)
theorem push_want {w wr w6 : World} {B C : Nat} {c v v' : Value} {ws af : List (Int × Int)} {x f : Int} {o1 o2 : Obj} (hown : wr.ownsRow C 100 2 c ws.length (wcs ws)) (hst : St wr B v af) (hb : Below w.heap.size w wr) (hC : C ≤ wr.heap.size)
    (hB : B + 2 ≤ C) (hv : ∀ y, v.ownBlock = some y → y < C) (hown6 : w6.ownsRow C 100 2 v' (ws.length + 1) (wcs ws ++ [.int .u8 x, .int .i64 f])) (hg : ((wr.alloc o1).alloc o2).grownBy w6 c.ownBlock) (hwB : w.heap.size = B) :
    w6.ownsRow C 100 2 v' (ws ++ [(x, f)]).length (wcs (ws ++ [(x, f)])) ∧ St w6 B v af ∧ Below w.heap.size w w6 ∧ C ≤ w6.heap.size := by
  have hr : ∀ y, c.ownBlock = some y → C ≤ y := fun y hy => (hown.lt y hy).1
  have h2 : St ((wr.alloc o1).alloc o2) B v af := (hst.below ((Below.refl wr.heap.size wr).alloc (Nat.le_refl _) o1) (Nat.le_refl _)).below ((Below.refl _ (wr.alloc o1)).alloc (Nat.le_refl _) o2) (Nat.le_refl _)
  have hs : w.heap.size ≤ wr.heap.size := hb.size
  refine ⟨?_, h2.grown hg hB hv hr, below_grown ((hb.alloc hs o1).alloc (by simp; omega) o2) hg (by simp; omega) (fun y hy => by have := hr y hy; omega), ?_⟩
  · have e1 : (ws ++ [(x, f)]).length = ws.length + 1 := by simp
    have e2 : wcs (ws ++ [(x, f)]) = wcs ws ++ [.int .u8 x, .int .i64 f] := by rw [wcs_append]; rfl
    rw [e1, e2]
    exact hown6
  · have := hg.size
    simp at this
    omega

theorem St.saved {w : World} {B : Nat} {v : Value} {ss : List (Int × Int)} (h : St w B v ss) : ∃ a cap, v = .slice a ss.length cap ∧ ∀ j (hj : j < ss.length), ∃ g, a = some ⟨g, 0, none⟩ ∧ g < w.heap.size ∧ w.rangeAt g (j * 74) (scc (ss[j]).1 (ss[j]).2) := by
  rcases h.form with ⟨rfl, rfl⟩ | ⟨g, cap, rfl, _, hg, _, cur, hc1, _, hc3⟩
  · exact ⟨none, 0, rfl, fun j hj => by cases hj⟩
  · exact ⟨_, cap, rfl, fun j hj => ⟨g, rfl, hg, scc_of_row hc1 hc3 j hj⟩⟩
theorem want_form {w : World} {C : Nat} {v : Value} {ws : List (Int × Int)} (h : w.ownsRow C 100 2 v ws.length (wcs ws)) : ∃ a cap, v = .slice a ws.length cap ∧ ∀ j (hj : j < ws.length), ∃ g, a = some ⟨g, 0, none⟩ ∧ g < w.heap.size ∧
    w.cell? ⟨g, j * 2, none⟩ = some (.int .u8 (ws[j]).1) ∧ w.cell? ⟨g, j * 2 + 1, none⟩ = some (.int .i64 (ws[j]).2) := by
  rcases h.2 with ⟨h1, h2⟩ | ⟨g, cap, cur, h1, h2, h3, h4, h5, h6, h7⟩
  · exact ⟨none, 0, by rw [h1, h2], fun j hj => by omega⟩
  · refine ⟨_, cap, h1, fun j hj => ⟨g, rfl, (Array.getElem?_eq_some_iff.1 h3).1, ?_, ?_⟩⟩
    · have := h.cells (g := g) (by rw [h1]; rfl) (j * 2) _ (wcs_key ws j hj)
      rwa [Lib.add_plain, Nat.zero_add] at this
    · have := h.cells (g := g) (by rw [h1]; rfl) (j * 2 + 1) _ (wcs_failed ws j hj)
      rwa [Lib.add_plain, Nat.zero_add] at this
theorem range_below {w w' : World} {g o : Nat} {cs : List Value} (h : w.rangeAt g o cs) (hg : g < w.heap.size) (hb : Below w.heap.size w w') : w'.rangeAt g o cs := fun j v hv => by
  rw [hb.cell (show (⟨g, o + j, none⟩ : Addr).block < w.heap.size from hg)]
  exact h j v hv
theorem id_range {w : World} {g o : Nat} {k f : Int} (h : w.rangeAt g o (scc k f)) : w.rangeAt g o (idc k) := fun j v hv => h j v (by
  rw [scc, List.append_assoc, List.getElem?_append_left (List.getElem?_eq_some_iff.1 hv).1]
  exact hv)
theorem count_range {w : World} {g o : Nat} {k f : Int} (h : w.rangeAt g o (scc k f)) : w.cell? ⟨g, o + 73, none⟩ = some (.int .i64 f) := h 73 _ (by simp [scc, midc, idc, idn, u8s])

set_option maxHeartbeats 6000000 in
set_option maxRecDepth 100000 in
theorem law_calls (a0 : Option Addr) (cap : Nat) (ss : List (Int × Int)) (k : Int) (ans : Bool) (w : World) (harg : ArgAt w a0 ss) (hk : 0 ≤ k ∧ k ≤ 255) (hss : ∀ p, p ∈ ss → 0 ≤ p.1 ∧ p.1 ≤ 255) :
    Calls Yba.prog 5 #[.slice a0 ss.length cap, .int .u8 k, .bool ans] w fun e w' => e = .returned (.bool true) ∧ Below w.heap.size w w' := by
  by_cases hlen : 1024 < ss.length
  · have hl : (1024 : Int) < ss.length := by omega
    go_enter Yba.func5, Yba.ntmps5
    go_wp2_with fail
    go_ret
    exact ⟨rfl, Below.refl _ _⟩
  have hl : ¬ ((1024 : Int) < ss.length) := by omega
  generalize hw2 : ((w.alloc (.cells tabc.toArray 37)).alloc (.cells (nodec w.heap.size (.slice none 0 0)).toArray 98)) = w2
  have hb2 : Below w.heap.size w w2 := by rw [← hw2]; exact ((Below.refl _ _).alloc (Nat.le_refl _) _).alloc (by simp) _
  have h2 : St w2 w.heap.size (.slice none 0 0) [] := by
    rw [← hw2]
    refine ⟨(row_new w tabc 37).alloc _, ?_, World.ownsRow_nil _ _ _ _⟩
    have := row_new (w.alloc (.cells tabc.toArray 37)) (nodec w.heap.size (.slice none 0 0)) 98
    simpa using this
  have H2 := hide h2
  have Hb2 := hide hb2
  have Harg := hide harg
  have Hk := hide hk
  have Hss := hide hss
  clear h2 hb2 harg hk hss
  go_enter Yba.func5, Yba.ntmps5
  go_wp2_with (first
    | (with_reducible refine wpList_build_as rfl 37 #[] rfl (.agg tabc.toArray) ?hb ?_)
    | (with_reducible refine wpList_box_row rfl 37 (.tmp 19) rfl tabc.toArray rfl ?_)
    | (with_reducible refine wpList_build_as rfl 98 #[(3, .tmp 20)] rfl (.agg (nodec w.heap.size (.slice none 0 0)).toArray) ?hb2 ?_)
    | (with_reducible refine wpList_box_row rfl 98 (.tmp 21) rfl (nodec w.heap.size (.slice none 0 0)).toArray rfl ?_))
  case hb => rfl
  case hb2 => kernel_rfl
  clear hw2
  go_loopw [25] (fun c wr => ∃ j : Nat, c = .int .i64 j ∧ Hid (j ≤ ss.length) ∧ Hid (∃ v, St wr w.heap.size v (ss.take j)) ∧ Hid (Below w.heap.size w wr)) (fun c _ => ss.length - (intOf c).toNat)
  case atStart => exact ⟨0, rfl, hide (Nat.zero_le _), hide ⟨_, unhide H2⟩, Hb2⟩
  case round =>
    clear H2 Hb2
    obtain ⟨j, rfl, Hj, Hst, Hb⟩ := hrel
    by_cases hlt : j < ss.length
    · obtain ⟨v, hst⟩ := unhide Hst
      obtain ⟨g, o, rfl, hg, c0, c1⟩ := (unhide Harg).below (unhide Hb) j hlt
      have hkj := unhide Hss _ (List.getElem_mem hlt)
      obtain ⟨kj, hkje⟩ : ∃ x, x = (ss[j]).1 := ⟨_, rfl⟩
      obtain ⟨fj, hfje⟩ : ∃ x, x = (ss[j]).2 := ⟨_, rfl⟩
      rw [← hkje] at c0 hkj
      rw [← hfje] at c1
      have hsp : ss.take (j + 1) = ss.take j ++ [(kj, fj)] := by rw [List.take_succ_eq_append_getElem hlt, hkje, hfje]
      have hln : (ss.take j).length = j := by rw [List.length_take]; omega
      obtain ⟨pr, hpr⟩ : ∃ x, x = ss.take j := ⟨_, rfl⟩
      rw [← hpr] at hsp hln hst
      have hi0 : (0 : Int) ≤ j := by omega
      have hi1 : (j : Int) < ss.length := by omega
      have Hsp := hide hsp
      have Hln := hide hln
      have Hkj := hide hkj
      have Hst' := hide hst
      clear hkje hfje hsp hln hkj hst hpr
      go_wp2_with fail
      have rq := row_new wr [.int .u8 kj, .int .i64 fj] 100
      have hst := unhide Hst'
      have sta := hst.below ((Below.refl wr.heap.size wr).alloc (Nat.le_refl _) (.cells #[.int .u8 kj, .int .i64 fj] 100)) (Nat.le_refl _)
      have hba := (unhide Hb).alloc (unhide Hb).size (.cells #[.int .u8 kj, .int .i64 fj] 100)
      have hvq : some wr.heap.size ≠ v.ownBlock := by
        intro e
        have := (hst.own.lt _ e.symm).2
        omega
      have Hvq := hide hvq
      have Hba := hide hba
      clear hvq hba hst c0 c1 hi0 hi1
      change RowAt (wr.alloc (.cells #[.int .u8 kj, .int .i64 fj] 100)) _ _ _ at rq
      generalize wr.alloc (.cells #[.int .u8 kj, .int .i64 fj] 100) = wa at *
      obtain ⟨ti, hti, hz, hsz, hby⟩ := info_parts info105'
      have hzs : (Value.agg (scc 0 0).toArray).cells.size = 74 := scc_length 0 0
      have h63 : pr.length + 1 ≤ maxLen := by rw [unhide Hln]; simp only [maxLen]; omega
      have hbytes : (pr.length + 1) * ((Yba.prog.info? 105).map (·.bytes)).getD 0 ≤ 140737488355328 := Nat.le_trans (Nat.mul_le_mul (show pr.length + 1 ≤ 1025 from by rw [unhide Hln]; omega) bytes105) (by omega)
      refine wp_region_noPanic ?_
      refine wp_region_held_drew (S := fun w' => RowAt w' wr.heap.size 100 [.int .u8 kj, .int .i64 fj]) (by kernel_rfl) rq (fun hHeld => ?_)
      have st4 : St wa.drew w.heap.size v pr := sta.below (Below.refl wa.heap.size wa).drew (Nat.le_refl _)
      refine held_take (i := 0) (some 29) (.pointer (some ⟨w.heap.size + 1, 0, none⟩)) rfl rfl (by kernel_rfl) (by kernel_rfl) (by kernel_rfl) (fun _ _ _ h => h) (Or.inl ⟨by rfl, fun w' hw' => by go_simp⟩) hHeld ?_
      simp only [Act.put, List.setIfInBounds_toArray, List.set_cons_zero, List.set_cons_succ]
      refine held_take (i := 1) (some 30) (.pointer (some ⟨w.heap.size + 1, 0, none⟩)) rfl rfl (by kernel_rfl) (by kernel_rfl) (by kernel_rfl) (fun _ _ _ h => h) (Or.inl ⟨by rfl, fun w' hw' => by go_simp⟩) hHeld ?_
      simp only [Act.put, List.setIfInBounds_toArray, List.set_cons_zero, List.set_cons_succ]
      refine held_take (i := 2) (some 31) (.pointer (some ⟨w.heap.size + 1, 0, none⟩)) rfl rfl (by kernel_rfl) (by kernel_rfl) (by kernel_rfl) (fun _ _ _ h => h) (Or.inl ⟨by rfl, fun w' hw' => by go_simp⟩) hHeld ?_
      simp only [Act.put, List.setIfInBounds_toArray, List.set_cons_zero, List.set_cons_succ]
      refine held_take (i := 3) (some 32) (.pointer (some ⟨w.heap.size + 1, 108, none⟩)) rfl rfl (by kernel_rfl) (by kernel_rfl) (by kernel_rfl) (fun _ _ _ h => h) (Or.inl ⟨by rfl, fun w' hw' => by go_simp⟩) hHeld ?_
      simp only [Act.put, List.setIfInBounds_toArray, List.set_cons_zero, List.set_cons_succ]
      refine held_take (i := 5) (some 34) (.pointer (some ⟨wr.heap.size, 0, none⟩)) rfl rfl (by kernel_rfl) (by kernel_rfl) (by kernel_rfl) (fun _ _ _ h => h) (Or.inl ⟨by rfl, fun w' hw' => by go_simp⟩) hHeld ?_
      simp only [Act.put, List.setIfInBounds_toArray, List.set_cons_zero, List.set_cons_succ]
      refine held_take (i := 6) (some 35) (.int .u8 kj) rfl rfl (by kernel_rfl) (by kernel_rfl) (by kernel_rfl) (fun _ _ _ h => h) (Or.inl ⟨by rfl, fun w' hw' => by have hc : w'.cell? ⟨wr.heap.size, 0, none⟩ = some (.int .u8 kj) := (by rw [RowAt.cell hw']; rfl); clear hw'; go_simp⟩) hHeld ?_
      simp only [Act.put, List.setIfInBounds_toArray, List.set_cons_zero, List.set_cons_succ]
      refine held_take (i := 10) (some 39) (.pointer (some ⟨wr.heap.size, 1, none⟩)) rfl rfl (by kernel_rfl) (by kernel_rfl) (by kernel_rfl) (fun _ _ _ h => h) (Or.inl ⟨by rfl, fun w' hw' => by go_simp⟩) hHeld ?_
      simp only [Act.put, List.setIfInBounds_toArray, List.set_cons_zero, List.set_cons_succ]
      refine held_take (i := 11) (some 40) (.int .i64 fj) rfl rfl (by kernel_rfl) (by kernel_rfl) (by kernel_rfl) (fun _ _ _ h => h) (Or.inl ⟨by rfl, fun w' hw' => by have hc : w'.cell? ⟨wr.heap.size, 1, none⟩ = some (.int .i64 fj) := (by rw [RowAt.cell hw']; rfl); clear hw'; go_simp⟩) hHeld ?_
      simp only [Act.put, List.setIfInBounds_toArray, List.set_cons_zero, List.set_cons_succ]
      refine wpAnyH_ready (rs := [4, 7]) (by kernel_rfl) (by simp) ?_
      refine AllReadyH.cons rfl (fun K hK => ?_) (AllReadyH.cons rfl (fun K hK => ?_) AllReadyH.nil)
      · have c4 : wa.cell? ⟨w.heap.size + 1, 108, none⟩ = some v := (by rw [sta.node.cell, nodec_108])
        go_simp
        clear c4
        refine hK.out _ _ (hHeld) (fun hHeld => ?_)
        clear hK K
        refine wpAnyH_ready (rs := [7]) (by kernel_rfl) (by simp) ?_
        refine AllReadyH.cons rfl (fun K hK => ?_) AllReadyH.nil
        go_simp
        refine (id_calls kj _).mono ?_
        rintro e w5 ⟨rfl, hb5⟩
        have st5 := (show St wa.drew w.heap.size v pr from st4).below hb5 (Nat.le_refl _)
        have hB5 : Below w.heap.size w w5 := (unhide Hba).drew.trans (hb5.mono (unhide Hba).size)
        refine hK.out _ _ (hHeld.below hb5 hHeld.lt) (fun hHeld => ?_)
        clear hK K
        refine held_take (i := 8) (some 37) (.agg (conc kj).toArray) rfl rfl (by kernel_rfl) (by kernel_rfl) (by kernel_rfl) (fun _ _ _ h => h) (Or.inl ⟨by rfl, fun w' _ => exec_build1 51 0 (.tmp 36) rfl (.agg (idc kj).toArray) rfl (.agg (conc kj).toArray) (build51 kj w')⟩) hHeld ?_
        simp only [Act.put, List.setIfInBounds_toArray, List.set_cons_zero, List.set_cons_succ]
        refine held_take (i := 9) (some 38) (.agg (entc kj).toArray) rfl rfl (by kernel_rfl) (by kernel_rfl) (by kernel_rfl) (fun _ _ _ h => h) (Or.inl ⟨by rfl, fun w' _ => exec_build1 103 0 (.tmp 37) rfl (.agg (conc kj).toArray) rfl (.agg (entc kj).toArray) (build103 kj w')⟩) hHeld ?_
        simp only [Act.put, List.setIfInBounds_toArray, List.set_cons_zero, List.set_cons_succ]
        refine held_take (i := 12) (some 41) (.agg (scc kj fj).toArray) rfl rfl (by kernel_rfl) (by kernel_rfl) (by kernel_rfl) (fun _ _ _ h => h) (Or.inl ⟨by rfl, fun w' _ => exec_build2 105 0 1 (.tmp 38) (.tmp 40) rfl (.agg (entc kj).toArray) (.int .i64 fj) rfl rfl (.agg (scc kj fj).toArray) (build105 kj fj w')⟩) hHeld ?_
        simp only [Act.put, List.setIfInBounds_toArray, List.set_cons_zero, List.set_cons_succ]
        refine wpAnyH_ready (rs := [13]) (by kernel_rfl) (by simp) ?_
        refine AllReadyH.cons rfl (fun K hK => ?_) AllReadyH.nil
        refine step_value rfl (exec_slice1 83 1 0 (.tmp 41) rfl (.agg (scc kj fj).toArray) rfl _ _ (slice105 kj fj _)) ?_
        change K (Act.put _ (some 42) _) _
        have st6 := st5.below ((Below.refl w5.heap.size w5).alloc (Nat.le_refl _) (.cells (scc kj fj).toArray 105)) (Nat.le_refl _)
        have hB6 := hB5.alloc (Nat.le_of_lt st5.tab.lt) (.cells (scc kj fj).toArray 105)
        have n6 := row_new w5 (scc kj fj) 105
        refine hK.out _ _ (hHeld.alloc _) (fun hHeld => ?_)
        clear hK K
        simp only [Act.put, List.setIfInBounds_toArray, List.set_cons_zero, List.set_cons_succ]
        generalize w5.alloc (.cells (scc kj fj).toArray 105) = w6 at *
        generalize w5.heap.size = q6 at *
        refine wpAnyH_ready (rs := [14]) (by kernel_rfl) (by simp) ?_
        refine AllReadyH.cons rfl (fun K hK => ?_) AllReadyH.nil
        refine step_append_lies w6 rfl (.tmp 33) (.tmp 42) 83 rfl (w.heap.size + 2) 105 ti (.agg (scc 0 0).toArray) 74 _ Yba.underlying83 hti hz hsz hby hzs (by omega) v pr.length (sccs pr) rfl st6.own ⟨q6, 0, none⟩ 1 1 (scc kj fj) rfl (by rw [scc_length]) (fun x u hu => by rw [Lib.add_plain, n6.cell, Nat.zero_add]; exact hu) (scc_one _ _) (by omega) h63 hbytes (Nat.succ_le_of_lt st6.node.lt) _ rfl ?_
        intro g7 cap7 w7 hown7 hgr7 hat7 hlt7
        change K (Act.put _ (some 43) _) _
        have c7 : w7.cell? ⟨w.heap.size + 1, 108, none⟩ = some v := by rw [(st6.node.grown hgr7 (st6.own_ne _ (by omega))).cell, nodec_108]
        have f7 : w7.frozen? ⟨w.heap.size + 1, 108, none⟩ = false := (st6.node.grown hgr7 (st6.own_ne _ (by omega))).free 108
        refine hK.out _ _ (hHeld.grown hgr7 (unhide Hvq)) (fun hHeld => ?_)
        clear hK K
        simp only [Act.put, List.setIfInBounds_toArray, List.set_cons_zero, List.set_cons_succ]
        refine held_take (i := 15) (some 44) (.pointer (some ⟨w.heap.size + 1, 0, none⟩)) rfl rfl (by kernel_rfl) (by kernel_rfl) (by kernel_rfl) (fun _ _ _ h => h) (Or.inl ⟨by rfl, fun w' hw' => by go_simp⟩) hHeld ?_
        simp only [Act.put, List.setIfInBounds_toArray, List.set_cons_zero, List.set_cons_succ]
        refine held_take (i := 16) (some 45) (.pointer (some ⟨w.heap.size + 1, 108, none⟩)) rfl rfl (by kernel_rfl) (by kernel_rfl) (by kernel_rfl) (fun _ _ _ h => h) (Or.inl ⟨by rfl, fun w' hw' => by go_simp⟩) hHeld ?_
        simp only [Act.put, List.setIfInBounds_toArray, List.set_cons_zero, List.set_cons_succ]
        refine wpAnyH_ready (rs := [17]) (by kernel_rfl) (by simp) ?_
        refine AllReadyH.cons rfl (fun K hK => ?_) AllReadyH.nil
        go_simp
        refine hK.out _ _ (hHeld.other _ _ (by show wr.heap.size ≠ w.heap.size + 1; have := (unhide Hst').node.lt; omega)) (fun hHeld => ?_)
        clear hK K
        have Hst8 := hide (st6.grow hown7 hgr7)
        have Hb8 := hide ((below_grown hB6 hgr7 (Nat.le_of_lt st6.tab.lt) (fun x hx => by have := (st6.own.lt x hx).1; omega)).setCell (p := ⟨w.heap.size + 1, 108, none⟩) (by show w.heap.size ≤ w.heap.size + 1; omega) (.slice (some ⟨g7, 0, none⟩) (pr.length + 1) cap7))
        clear c7 f7 hown7 hgr7 hat7 hlt7 st6 hB6 n6 hHeld
        refine wpAnyH_done (by kernel_rfl) ?_ _
        refine NoPanic.normal ?_
        go_wp2_with fail
        go_roundw
        case rel =>
          have hst8 := unhide Hst8
          rw [← unhide Hsp] at hst8
          exact ⟨j + 1, by go_num, hide hlt, hide ⟨_, hst8⟩, Hb8⟩
        case measure => simp [intOf]; omega
      · go_simp
        refine (id_calls kj _).mono ?_
        rintro e w5 ⟨rfl, hb5⟩
        have st5 := (show St wa.drew w.heap.size v pr from st4).below hb5 (Nat.le_refl _)
        have hB5 : Below w.heap.size w w5 := (unhide Hba).drew.trans (hb5.mono (unhide Hba).size)
        refine hK.out _ _ (hHeld.below hb5 hHeld.lt) (fun hHeld => ?_)
        clear hK K
        refine held_take (i := 8) (some 37) (.agg (conc kj).toArray) rfl rfl (by kernel_rfl) (by kernel_rfl) (by kernel_rfl) (fun _ _ _ h => h) (Or.inl ⟨by rfl, fun w' _ => exec_build1 51 0 (.tmp 36) rfl (.agg (idc kj).toArray) rfl (.agg (conc kj).toArray) (build51 kj w')⟩) hHeld ?_
        simp only [Act.put, List.setIfInBounds_toArray, List.set_cons_zero, List.set_cons_succ]
        refine held_take (i := 9) (some 38) (.agg (entc kj).toArray) rfl rfl (by kernel_rfl) (by kernel_rfl) (by kernel_rfl) (fun _ _ _ h => h) (Or.inl ⟨by rfl, fun w' _ => exec_build1 103 0 (.tmp 37) rfl (.agg (conc kj).toArray) rfl (.agg (entc kj).toArray) (build103 kj w')⟩) hHeld ?_
        simp only [Act.put, List.setIfInBounds_toArray, List.set_cons_zero, List.set_cons_succ]
        refine held_take (i := 12) (some 41) (.agg (scc kj fj).toArray) rfl rfl (by kernel_rfl) (by kernel_rfl) (by kernel_rfl) (fun _ _ _ h => h) (Or.inl ⟨by rfl, fun w' _ => exec_build2 105 0 1 (.tmp 38) (.tmp 40) rfl (.agg (entc kj).toArray) (.int .i64 fj) rfl rfl (.agg (scc kj fj).toArray) (build105 kj fj w')⟩) hHeld ?_
        simp only [Act.put, List.setIfInBounds_toArray, List.set_cons_zero, List.set_cons_succ]
        refine wpAnyH_ready (rs := [4, 13]) (by kernel_rfl) (by simp) ?_
        refine AllReadyH.cons rfl (fun K hK => ?_) (AllReadyH.cons rfl (fun K hK => ?_) AllReadyH.nil)
        · have c4 : w5.cell? ⟨w.heap.size + 1, 108, none⟩ = some v := (by rw [st5.node.cell, nodec_108])
          go_simp
          clear c4
          refine hK.out _ _ (hHeld) (fun hHeld => ?_)
          clear hK K
          refine wpAnyH_ready (rs := [13]) (by kernel_rfl) (by simp) ?_
          refine AllReadyH.cons rfl (fun K hK => ?_) AllReadyH.nil
          refine step_value rfl (exec_slice1 83 1 0 (.tmp 41) rfl (.agg (scc kj fj).toArray) rfl _ _ (slice105 kj fj _)) ?_
          change K (Act.put _ (some 42) _) _
          have st6 := st5.below ((Below.refl w5.heap.size w5).alloc (Nat.le_refl _) (.cells (scc kj fj).toArray 105)) (Nat.le_refl _)
          have hB6 := hB5.alloc (Nat.le_of_lt st5.tab.lt) (.cells (scc kj fj).toArray 105)
          have n6 := row_new w5 (scc kj fj) 105
          refine hK.out _ _ (hHeld.alloc _) (fun hHeld => ?_)
          clear hK K
          simp only [Act.put, List.setIfInBounds_toArray, List.set_cons_zero, List.set_cons_succ]
          generalize w5.alloc (.cells (scc kj fj).toArray 105) = w6 at *
          generalize w5.heap.size = q6 at *
          refine wpAnyH_ready (rs := [14]) (by kernel_rfl) (by simp) ?_
          refine AllReadyH.cons rfl (fun K hK => ?_) AllReadyH.nil
          refine step_append_lies w6 rfl (.tmp 33) (.tmp 42) 83 rfl (w.heap.size + 2) 105 ti (.agg (scc 0 0).toArray) 74 _ Yba.underlying83 hti hz hsz hby hzs (by omega) v pr.length (sccs pr) rfl st6.own ⟨q6, 0, none⟩ 1 1 (scc kj fj) rfl (by rw [scc_length]) (fun x u hu => by rw [Lib.add_plain, n6.cell, Nat.zero_add]; exact hu) (scc_one _ _) (by omega) h63 hbytes (Nat.succ_le_of_lt st6.node.lt) _ rfl ?_
          intro g7 cap7 w7 hown7 hgr7 hat7 hlt7
          change K (Act.put _ (some 43) _) _
          have c7 : w7.cell? ⟨w.heap.size + 1, 108, none⟩ = some v := by rw [(st6.node.grown hgr7 (st6.own_ne _ (by omega))).cell, nodec_108]
          have f7 : w7.frozen? ⟨w.heap.size + 1, 108, none⟩ = false := (st6.node.grown hgr7 (st6.own_ne _ (by omega))).free 108
          refine hK.out _ _ (hHeld.grown hgr7 (unhide Hvq)) (fun hHeld => ?_)
          clear hK K
          simp only [Act.put, List.setIfInBounds_toArray, List.set_cons_zero, List.set_cons_succ]
          refine held_take (i := 15) (some 44) (.pointer (some ⟨w.heap.size + 1, 0, none⟩)) rfl rfl (by kernel_rfl) (by kernel_rfl) (by kernel_rfl) (fun _ _ _ h => h) (Or.inl ⟨by rfl, fun w' hw' => by go_simp⟩) hHeld ?_
          simp only [Act.put, List.setIfInBounds_toArray, List.set_cons_zero, List.set_cons_succ]
          refine held_take (i := 16) (some 45) (.pointer (some ⟨w.heap.size + 1, 108, none⟩)) rfl rfl (by kernel_rfl) (by kernel_rfl) (by kernel_rfl) (fun _ _ _ h => h) (Or.inl ⟨by rfl, fun w' hw' => by go_simp⟩) hHeld ?_
          simp only [Act.put, List.setIfInBounds_toArray, List.set_cons_zero, List.set_cons_succ]
          refine wpAnyH_ready (rs := [17]) (by kernel_rfl) (by simp) ?_
          refine AllReadyH.cons rfl (fun K hK => ?_) AllReadyH.nil
          go_simp
          refine hK.out _ _ (hHeld.other _ _ (by show wr.heap.size ≠ w.heap.size + 1; have := (unhide Hst').node.lt; omega)) (fun hHeld => ?_)
          clear hK K
          have Hst8 := hide (st6.grow hown7 hgr7)
          have Hb8 := hide ((below_grown hB6 hgr7 (Nat.le_of_lt st6.tab.lt) (fun x hx => by have := (st6.own.lt x hx).1; omega)).setCell (p := ⟨w.heap.size + 1, 108, none⟩) (by show w.heap.size ≤ w.heap.size + 1; omega) (.slice (some ⟨g7, 0, none⟩) (pr.length + 1) cap7))
          clear c7 f7 hown7 hgr7 hat7 hlt7 st6 hB6 n6 hHeld
          refine wpAnyH_done (by kernel_rfl) ?_ _
          refine NoPanic.normal ?_
          go_wp2_with fail
          go_roundw
          case rel =>
            have hst8 := unhide Hst8
            rw [← unhide Hsp] at hst8
            exact ⟨j + 1, by go_num, hide hlt, hide ⟨_, hst8⟩, Hb8⟩
          case measure => simp [intOf]; omega
        · refine step_value rfl (exec_slice1 83 1 0 (.tmp 41) rfl (.agg (scc kj fj).toArray) rfl _ _ (slice105 kj fj _)) ?_
          change K (Act.put _ (some 42) _) _
          have st6 := st5.below ((Below.refl w5.heap.size w5).alloc (Nat.le_refl _) (.cells (scc kj fj).toArray 105)) (Nat.le_refl _)
          have hB6 := hB5.alloc (Nat.le_of_lt st5.tab.lt) (.cells (scc kj fj).toArray 105)
          have n6 := row_new w5 (scc kj fj) 105
          refine hK.out _ _ (hHeld.alloc _) (fun hHeld => ?_)
          clear hK K
          simp only [Act.put, List.setIfInBounds_toArray, List.set_cons_zero, List.set_cons_succ]
          generalize w5.alloc (.cells (scc kj fj).toArray 105) = w6 at *
          generalize w5.heap.size = q6 at *
          refine wpAnyH_ready (rs := [4]) (by kernel_rfl) (by simp) ?_
          refine AllReadyH.cons rfl (fun K hK => ?_) AllReadyH.nil
          have c4 : w6.cell? ⟨w.heap.size + 1, 108, none⟩ = some v := (by rw [st6.node.cell, nodec_108])
          go_simp
          clear c4
          refine hK.out _ _ (hHeld) (fun hHeld => ?_)
          clear hK K
          refine wpAnyH_ready (rs := [14]) (by kernel_rfl) (by simp) ?_
          refine AllReadyH.cons rfl (fun K hK => ?_) AllReadyH.nil
          refine step_append_lies w6 rfl (.tmp 33) (.tmp 42) 83 rfl (w.heap.size + 2) 105 ti (.agg (scc 0 0).toArray) 74 _ Yba.underlying83 hti hz hsz hby hzs (by omega) v pr.length (sccs pr) rfl st6.own ⟨q6, 0, none⟩ 1 1 (scc kj fj) rfl (by rw [scc_length]) (fun x u hu => by rw [Lib.add_plain, n6.cell, Nat.zero_add]; exact hu) (scc_one _ _) (by omega) h63 hbytes (Nat.succ_le_of_lt st6.node.lt) _ rfl ?_
          intro g7 cap7 w7 hown7 hgr7 hat7 hlt7
          change K (Act.put _ (some 43) _) _
          have c7 : w7.cell? ⟨w.heap.size + 1, 108, none⟩ = some v := by rw [(st6.node.grown hgr7 (st6.own_ne _ (by omega))).cell, nodec_108]
          have f7 : w7.frozen? ⟨w.heap.size + 1, 108, none⟩ = false := (st6.node.grown hgr7 (st6.own_ne _ (by omega))).free 108
          refine hK.out _ _ (hHeld.grown hgr7 (unhide Hvq)) (fun hHeld => ?_)
          clear hK K
          simp only [Act.put, List.setIfInBounds_toArray, List.set_cons_zero, List.set_cons_succ]
          refine held_take (i := 15) (some 44) (.pointer (some ⟨w.heap.size + 1, 0, none⟩)) rfl rfl (by kernel_rfl) (by kernel_rfl) (by kernel_rfl) (fun _ _ _ h => h) (Or.inl ⟨by rfl, fun w' hw' => by go_simp⟩) hHeld ?_
          simp only [Act.put, List.setIfInBounds_toArray, List.set_cons_zero, List.set_cons_succ]
          refine held_take (i := 16) (some 45) (.pointer (some ⟨w.heap.size + 1, 108, none⟩)) rfl rfl (by kernel_rfl) (by kernel_rfl) (by kernel_rfl) (fun _ _ _ h => h) (Or.inl ⟨by rfl, fun w' hw' => by go_simp⟩) hHeld ?_
          simp only [Act.put, List.setIfInBounds_toArray, List.set_cons_zero, List.set_cons_succ]
          refine wpAnyH_ready (rs := [17]) (by kernel_rfl) (by simp) ?_
          refine AllReadyH.cons rfl (fun K hK => ?_) AllReadyH.nil
          go_simp
          refine hK.out _ _ (hHeld.other _ _ (by show wr.heap.size ≠ w.heap.size + 1; have := (unhide Hst').node.lt; omega)) (fun hHeld => ?_)
          clear hK K
          have Hst8 := hide (st6.grow hown7 hgr7)
          have Hb8 := hide ((below_grown hB6 hgr7 (Nat.le_of_lt st6.tab.lt) (fun x hx => by have := (st6.own.lt x hx).1; omega)).setCell (p := ⟨w.heap.size + 1, 108, none⟩) (by show w.heap.size ≤ w.heap.size + 1; omega) (.slice (some ⟨g7, 0, none⟩) (pr.length + 1) cap7))
          clear c7 f7 hown7 hgr7 hat7 hlt7 st6 hB6 n6 hHeld
          refine wpAnyH_done (by kernel_rfl) ?_ _
          refine NoPanic.normal ?_
          go_wp2_with fail
          go_roundw
          case rel =>
            have hst8 := unhide Hst8
            rw [← unhide Hsp] at hst8
            exact ⟨j + 1, by go_num, hide hlt, hide ⟨_, hst8⟩, Hb8⟩
          case measure => simp [intOf]; omega
    · obtain rfl : j = ss.length := by have := unhide Hj; omega
      obtain ⟨v, hst⟩ := unhide Hst
      rw [List.take_length] at hst
      have hi1 : ¬ ((ss.length : Int) < ss.length) := by omega
      have Hst' := hide hst
      obtain ⟨i0, hi, hz0, hz1, hz2⟩ := info_parts info100
      clear hst Hst
      go_wp2_with (first
        | (go_at_call 8; refine (id_calls k _).mono ?_; rintro e w3 ⟨rfl, hb3⟩; have Hb3 := hide hb3; clear hb3)
        | (go_at_call 9; refine (ping_calls w.heap.size v ss k ans _ ((unhide Hst').below (unhide Hb3) (Nat.le_refl _)) (by omega) (unhide Hk)).mono ?_; rintro e w4 ⟨rfl, ⟨v4, hst4⟩, hb4⟩; have Hst4 := hide hst4; have Hb4 := hide hb4; clear hst4 hb4)
        | (at_make; refine wpList_make_own _ rfl _ _ 29 rfl w4.heap.size 100 i0 (.agg #[.int .u8 0, .int .i64 0]) 2 Yba.underlying29 hi hz0 hz1 _ _ _ ss.length rfl rfl rfl (by rw [hz2]; omega) (by unfold maxLen; omega) (Nat.le_refl _) ?_))
      intro w5 hown5 hgrow5
      have hbw4 : Below w.heap.size w w4 := (unhide Hb).trans (((unhide Hb3).mono (unhide Hb).size).trans (unhide Hb4))
      have hvlt : ∀ x, v4.ownBlock = some x → x < w4.heap.size := fun x hx => ((unhide Hst4).own.lt x hx).2
      have hB2 : w.heap.size + 2 ≤ w4.heap.size := (unhide Hst4).node.lt
      have hst5 := (unhide Hst4).grown hgrow5 hB2 hvlt (by intro x hx; cases hx)
      have hb5 : Below w.heap.size w w5 := below_grown hbw4 hgrow5 (by omega) (by intro x hx; cases hx)
      have hs5 := hgrow5.size
      obtain ⟨C, hC⟩ : ∃ C, C = w4.heap.size := ⟨_, rfl⟩
      rw [← hC] at hown5 hvlt hB2 hs5
      have HC := hide hC
      have Hvlt := hide hvlt
      have Hown5 := hide hown5
      have Hst5 := hide hst5
      have Hb5 := hide hb5
      clear hC hgrow5 hvlt hown5 hst5 hb5 hbw4 Hst4 Hb3 Hb4 Hst' hi1 Hb Hj
      go_wp2_with fail
      go_loopw [10, 11, 57] (fun c10 c11 c57 wr => ∃ (j : Nat) (dn : Bool) (ws : List (Int × Int)), c57 = .int .i64 j ∧ c11 = .bool dn ∧ Hid (j ≤ ss.length) ∧ Hid (ws.length ≤ j) ∧ Hid (ws ++ (if dn then ss.drop j else after k ans (ss.drop j)) = after k ans ss) ∧
        Hid (wr.ownsRow C 100 2 c10 ws.length (wcs ws)) ∧ Hid (St wr w.heap.size v4 (after k ans ss)) ∧ Hid (Below w.heap.size w wr) ∧ Hid (C ≤ wr.heap.size)) (fun _ _ c _ => ss.length - (intOf c).toNat)
      case atStart => exact ⟨0, false, [], rfl, rfl, hide (Nat.zero_le _), hide (Nat.le_refl _), hide rfl, (by rw [← unhide HC]; exact Hown5), Hst5, Hb5, hide hs5⟩
      case round =>
        clear Hown5 Hst5 Hb5
        obtain ⟨j, dn, ws, rfl, rfl, Hj, Hwl, Hws, Hown, Hst, Hb, Hcs⟩ := hrel
        by_cases hlt : j < ss.length
        · obtain ⟨g, o, rfl, hg, c0, c1⟩ := (unhide Harg).below (unhide Hb) j hlt
          obtain ⟨kj, hkje⟩ : ∃ x, x = (ss[j]).1 := ⟨_, rfl⟩
          obtain ⟨fj, hfje⟩ : ∃ x, x = (ss[j]).2 := ⟨_, rfl⟩
          rw [← hkje] at c0
          rw [← hfje] at c1
          have hdr : ss.drop j = (kj, fj) :: ss.drop (j + 1) := by rw [List.drop_eq_getElem_cons hlt, hkje, hfje]
          have hws := unhide Hws
          rw [hdr] at hws
          have Hws' := hide hws
          have hi0 : (0 : Int) ≤ j := by omega
          have hi1 : (j : Int) < ss.length := by omega
          clear hkje hfje hdr hws Hws
          have hwl : ws.length ≤ 1024 := by have := unhide Hwl; have := unhide Hj; omega
          have h02 : 0 < 2 := by omega
          have H63 : Hid (ws.length + 1 ≤ maxLen) := hide (by unfold maxLen; omega)
          have Hby : Hid ((ws.length + 1) * 16 ≤ 140737488355328) := hide (by omega)
          cases dn
          · by_cases hkk : kj = k
            · subst hkk
              cases ans
              · obtain ⟨f', hf'⟩ : ∃ x, x = wrap64 (fj + 1) := ⟨_, rfl⟩
                by_cases h3 : f' = 3
                · have h3' : wrap64 (fj + 1) = 3 := by rw [← hf', h3]
                  go_wp2
                  go_roundw
                  case rel =>
                    refine ⟨j + 1, true, ws, by go_num, rfl, hide hlt, hide (by have := unhide Hwl; omega), ?_, hide ((unhide Hown).alloc _), hide ((unhide Hst).below ((Below.refl wr.heap.size wr).alloc (Nat.le_refl _) _) (Nat.le_refl _)), hide ((unhide Hb).alloc (unhide Hb).size _), hide (by have := unhide Hcs; simp; omega)⟩
                    exact hide (by have h := unhide Hws'; simp only [Bool.false_eq_true, if_false, after, if_true, gone, nf, h3', Bool.false_or, beq_self_eq_true] at h; exact h)
                  case measure => simp [intOf]; omega
                · have h3' : ¬ (wrap64 (fj + 1) = 3) := by rw [← hf']; exact h3
                  go_wp2_with (at_builtin; refine wpList_append_own _ rfl _ _ 29 rfl C 100 i0 (.agg #[.int .u8 0, .int .i64 0]) 2 16 Yba.underlying29 hi hz0 hz1 hz2 rfl h02 _ ws.length (wcs ws) rfl (((unhide Hown).alloc _).alloc _) ⟨wr.heap.size + 1, 0, none⟩ 1 1 [.int .u8 kj, .int .i64 (wrap64 (fj + 1))] rfl rfl (news_new _ _ _ _ _ (size_alloc1 _ _)) (one2 _ _) (unhide H63) (unhide Hby) (Nat.le_trans (unhide Hcs) (le_alloc2 _ _ _)) ?_)
                  intro v' w6 hown6 hgrow6 _
                  have R := push_want (unhide Hown) (unhide Hst) (unhide Hb) (unhide Hcs) hB2 (unhide Hvlt) hown6 hgrow6 rfl
                  clear hown6 hgrow6
                  go_wp2
                  go_roundw
                  case rel =>
                    refine ⟨j + 1, true, ws ++ [(kj, (wrap64 (fj + 1)))], by go_num, rfl, hide hlt, hide (by have := unhide Hwl; simp; omega), ?_, hide R.1, hide R.2.1, hide R.2.2.1, hide R.2.2.2⟩
                    exact hide (by have h := unhide Hws'; simp only [Bool.false_eq_true, if_false, after, if_true, gone, nf, Bool.false_or, beq_iff_eq, h3'] at h; simpa using h)
                  case measure => simp [intOf]; omega
              · skip
                go_wp2
                go_roundw
                case rel =>
                  refine ⟨j + 1, true, ws, by go_num, rfl, hide hlt, hide (by have := unhide Hwl; omega), ?_, hide ((unhide Hown).alloc _), hide ((unhide Hst).below ((Below.refl wr.heap.size wr).alloc (Nat.le_refl _) _) (Nat.le_refl _)), hide ((unhide Hb).alloc (unhide Hb).size _), hide (by have := unhide Hcs; simp; omega)⟩
                  exact hide (by have h := unhide Hws'; simp only [Bool.false_eq_true, if_false, after, if_true, gone, nf, Bool.true_or] at h; exact h)
                case measure => simp [intOf]; omega
            · skip
              go_wp2_with (at_builtin; refine wpList_append_own _ rfl _ _ 29 rfl C 100 i0 (.agg #[.int .u8 0, .int .i64 0]) 2 16 Yba.underlying29 hi hz0 hz1 hz2 rfl h02 _ ws.length (wcs ws) rfl (((unhide Hown).alloc _).alloc _) ⟨wr.heap.size + 1, 0, none⟩ 1 1 [.int .u8 kj, .int .i64 fj] rfl rfl (news_new _ _ _ _ _ (size_alloc1 _ _)) (one2 _ _) (unhide H63) (unhide Hby) (Nat.le_trans (unhide Hcs) (le_alloc2 _ _ _)) ?_)
              intro v' w6 hown6 hgrow6 _
              have R := push_want (unhide Hown) (unhide Hst) (unhide Hb) (unhide Hcs) hB2 (unhide Hvlt) hown6 hgrow6 rfl
              clear hown6 hgrow6
              go_wp2
              go_roundw
              case rel =>
                refine ⟨j + 1, false, ws ++ [(kj, fj)], by go_num, rfl, hide hlt, hide (by have := unhide Hwl; simp; omega), ?_, hide R.1, hide R.2.1, hide R.2.2.1, hide R.2.2.2⟩
                exact hide (by have h := unhide Hws'; simp only [Bool.false_eq_true, if_false, after, hkk] at h; simpa using h)
              case measure => simp [intOf]; omega
          · skip
            go_wp2_with (at_builtin; refine wpList_append_own _ rfl _ _ 29 rfl C 100 i0 (.agg #[.int .u8 0, .int .i64 0]) 2 16 Yba.underlying29 hi hz0 hz1 hz2 rfl h02 _ ws.length (wcs ws) rfl (((unhide Hown).alloc _).alloc _) ⟨wr.heap.size + 1, 0, none⟩ 1 1 [.int .u8 kj, .int .i64 fj] rfl rfl (news_new _ _ _ _ _ (size_alloc1 _ _)) (one2 _ _) (unhide H63) (unhide Hby) (Nat.le_trans (unhide Hcs) (le_alloc2 _ _ _)) ?_)
            intro v' w6 hown6 hgrow6 _
            have R := push_want (unhide Hown) (unhide Hst) (unhide Hb) (unhide Hcs) hB2 (unhide Hvlt) hown6 hgrow6 rfl
            clear hown6 hgrow6
            go_wp2
            go_roundw
            case rel =>
              refine ⟨j + 1, true, ws ++ [(kj, fj)], by go_num, rfl, hide hlt, hide (by have := unhide Hwl; simp; omega), ?_, hide R.1, hide R.2.1, hide R.2.2.1, hide R.2.2.2⟩
              exact hide (by have h := unhide Hws'; simp only [if_true] at h; simpa using h)
            case measure => simp [intOf]; omega
        · obtain rfl : j = ss.length := by have := unhide Hj; omega
          have hws := unhide Hws
          rw [List.drop_length, after, ite_self, List.append_nil] at hws
          obtain ⟨af, haf⟩ : ∃ x, x = after k ans ss := ⟨_, rfl⟩
          rw [← haf] at hws Hst
          subst hws
          have hi1 : ¬ ((ss.length : Int) < ss.length) := by omega
          obtain ⟨a4, cap4, rfl, h4⟩ := (unhide Hst).saved
          obtain ⟨a5, cap5, rfl, h5⟩ := want_form (unhide Hown)
          have H4 := hide h4
          have H5 := hide h5
          have c108a : wr.cell? ⟨w.heap.size + 1, 108, none⟩ = some (.slice a4 ws.length cap4) := by rw [(unhide Hst).node.cell, nodec_108]
          have hnlta := (unhide Hst).node.lt
          have hal : ws.length ≤ 1024 := by have := unhide Hwl; omega
          clear h4 h5 haf Hown Hst Hws Hj
          go_wp2_with fail
          go_loopw [15] (fun c wx => ∃ j : Nat, c = .int .i64 j ∧ Hid (j ≤ ws.length) ∧ Hid (Below wr.heap.size wr wx)) (fun c _ => ws.length - (intOf c).toNat)
          case atStart => exact ⟨0, rfl, hide (Nat.zero_le _), hide (Below.refl _ _)⟩
          case round =>
            obtain ⟨j, rfl, Hj3, Hb3⟩ := hrel
            by_cases hlt : j < ws.length
            · obtain ⟨g4, rfl, hg4a, hr4⟩ := unhide H4 j hlt
              obtain ⟨g5, rfl, hg5a, hk5, hf5⟩ := unhide H5 j hlt
              obtain ⟨kj, hkj⟩ : ∃ x, x = (ws[j]).1 := ⟨_, rfl⟩
              obtain ⟨fj, hfj⟩ : ∃ x, x = (ws[j]).2 := ⟨_, rfl⟩
              rw [← hkj, ← hfj] at hr4
              rw [← hkj] at hk5
              rw [← hfj] at hf5
              have hr4' := range_below hr4 hg4a (unhide Hb3)
              have rg := id_range hr4'
              have cf4 := count_range hr4'
              have ck := ((unhide Hb3).cell (p := ⟨g5, j * 2, none⟩) hg5a).trans hk5
              have cf5 := ((unhide Hb3).cell (p := ⟨g5, j * 2 + 1, none⟩) hg5a).trans hf5
              have c108 := ((unhide Hb3).cell (p := ⟨w.heap.size + 1, 108, none⟩) hnlta).trans c108a
              have hg4 := Nat.lt_of_lt_of_le hg4a (unhide Hb3).size
              have hg5 := Nat.lt_of_lt_of_le hg5a (unhide Hb3).size
              have hnlt := Nat.lt_of_lt_of_le hnlta (unhide Hb3).size
              have HE := eq_ids kj kj
              have hi0 : (0 : Int) ≤ j := by omega
              have hi1' : (j : Int) < ws.length := by omega
              clear hr4 hr4' hk5 hf5 c108a hkj hfj H4 H5 hg4a hg5a hnlta
              go_wp2_with fail
              refine wp_region_noPanic ?_
              refine wp_region_held_drew (S := fun w' => Below wr.heap.size wr w') (by kernel_rfl) (Below.refl _ _).drew (fun hHeld => ?_)
              refine held_take (i := 0) (some 106) (.pointer (some ⟨w.heap.size + 1, 0, none⟩)) rfl rfl (by kernel_rfl) (by kernel_rfl) (by kernel_rfl) (fun _ _ _ h => h) (Or.inl ⟨by rfl, fun w' hw' => by go_simp⟩) hHeld ?_
              simp only [Act.put, List.setIfInBounds_toArray, List.set_cons_zero, List.set_cons_succ]
              refine held_take (i := 1) (some 107) (.pointer (some ⟨w.heap.size + 1, 0, none⟩)) rfl rfl (by kernel_rfl) (by kernel_rfl) (by kernel_rfl) (fun _ _ _ h => h) (Or.inl ⟨by rfl, fun w' hw' => by go_simp⟩) hHeld ?_
              simp only [Act.put, List.setIfInBounds_toArray, List.set_cons_zero, List.set_cons_succ]
              refine held_take (i := 2) (some 108) (.pointer (some ⟨w.heap.size + 1, 108, none⟩)) rfl rfl (by kernel_rfl) (by kernel_rfl) (by kernel_rfl) (fun _ _ _ h => h) (Or.inl ⟨by rfl, fun w' hw' => by go_simp⟩) hHeld ?_
              simp only [Act.put, List.setIfInBounds_toArray, List.set_cons_zero, List.set_cons_succ]
              refine held_take (i := 3) (some 109) (.slice (some ⟨g4, 0, none⟩) ws.length cap4) rfl rfl (by kernel_rfl) (by kernel_rfl) (by kernel_rfl) (fun _ _ _ h => h) (Or.inl ⟨by rfl, fun w' hw' => by have hc : w'.cell? ⟨w.heap.size + 1, 108, none⟩ = some (.slice (some ⟨g4, 0, none⟩) ws.length cap4) := (Below.cell (p := ⟨w.heap.size + 1, 108, none⟩) hw' hnlt).trans c108; clear hw'; go_simp⟩) hHeld ?_
              simp only [Act.put, List.setIfInBounds_toArray, List.set_cons_zero, List.set_cons_succ]
              refine held_take (i := 4) (some 110) (.int .i64 j) rfl rfl (by kernel_rfl) (by kernel_rfl) (by kernel_rfl) (fun _ _ _ h => h) (Or.inl ⟨by rfl, fun w' hw' => by go_simp⟩) hHeld ?_
              simp only [Act.put, List.setIfInBounds_toArray, List.set_cons_zero, List.set_cons_succ]
              refine held_take (i := 5) (some 111) (.pointer (some ⟨g4, j * 74, none⟩)) rfl rfl (by kernel_rfl) (by kernel_rfl) (by kernel_rfl) (fun _ _ _ h => h) (Or.inl ⟨by rfl, fun w' hw' => by go_simp⟩) hHeld ?_
              simp only [Act.put, List.setIfInBounds_toArray, List.set_cons_zero, List.set_cons_succ]
              refine held_take (i := 6) (some 112) (.pointer (some ⟨g4, j * 74, none⟩)) rfl rfl (by kernel_rfl) (by kernel_rfl) (by kernel_rfl) (fun _ _ _ h => h) (Or.inl ⟨by rfl, fun w' hw' => by go_simp⟩) hHeld ?_
              simp only [Act.put, List.setIfInBounds_toArray, List.set_cons_zero, List.set_cons_succ]
              refine held_take (i := 7) (some 113) (.pointer (some ⟨g4, j * 74, none⟩)) rfl rfl (by kernel_rfl) (by kernel_rfl) (by kernel_rfl) (fun _ _ _ h => h) (Or.inl ⟨by rfl, fun w' hw' => by go_simp⟩) hHeld ?_
              simp only [Act.put, List.setIfInBounds_toArray, List.set_cons_zero, List.set_cons_succ]
              refine held_take (i := 8) (some 114) (.pointer (some ⟨g4, j * 74, none⟩)) rfl rfl (by kernel_rfl) (by kernel_rfl) (by kernel_rfl) (fun _ _ _ h => h) (Or.inl ⟨by rfl, fun w' hw' => by go_simp⟩) hHeld ?_
              simp only [Act.put, List.setIfInBounds_toArray, List.set_cons_zero, List.set_cons_succ]
              refine held_take (i := 9) (some 115) (.agg (idc kj).toArray) rfl rfl (by kernel_rfl) (by kernel_rfl) (by kernel_rfl) (fun _ _ _ h => h) (yieldsIf_load_mid (by rfl) 32 _ rfl g4 (j * 74) rfl (idc kj) _ (fun _ h => range_below rg hg4 h) Yba.underlying32 rfl (size32c kj)) hHeld ?_
              simp only [Act.put, List.setIfInBounds_toArray, List.set_cons_zero, List.set_cons_succ]
              refine held_take (i := 10) (some 116) (.slice (some ⟨g5, 0, none⟩) ws.length cap5) rfl rfl (by kernel_rfl) (by kernel_rfl) (by kernel_rfl) (fun _ _ _ h => h) (Or.inl ⟨by rfl, fun w' hw' => by go_simp⟩) hHeld ?_
              simp only [Act.put, List.setIfInBounds_toArray, List.set_cons_zero, List.set_cons_succ]
              refine held_take (i := 11) (some 117) (.int .i64 j) rfl rfl (by kernel_rfl) (by kernel_rfl) (by kernel_rfl) (fun _ _ _ h => h) (Or.inl ⟨by rfl, fun w' hw' => by go_simp⟩) hHeld ?_
              simp only [Act.put, List.setIfInBounds_toArray, List.set_cons_zero, List.set_cons_succ]
              refine held_take (i := 12) (some 118) (.pointer (some ⟨g5, j * 2, none⟩)) rfl rfl (by kernel_rfl) (by kernel_rfl) (by kernel_rfl) (fun _ _ _ h => h) (Or.inl ⟨by rfl, fun w' hw' => by go_simp⟩) hHeld ?_
              simp only [Act.put, List.setIfInBounds_toArray, List.set_cons_zero, List.set_cons_succ]
              refine held_take (i := 13) (some 119) (.pointer (some ⟨g5, j * 2, none⟩)) rfl rfl (by kernel_rfl) (by kernel_rfl) (by kernel_rfl) (fun _ _ _ h => h) (Or.inl ⟨by rfl, fun w' hw' => by go_simp⟩) hHeld ?_
              simp only [Act.put, List.setIfInBounds_toArray, List.set_cons_zero, List.set_cons_succ]
              refine held_take (i := 14) (some 120) (.int .u8 kj) rfl rfl (by kernel_rfl) (by kernel_rfl) (by kernel_rfl) (fun _ _ _ h => h) (Or.inl ⟨by rfl, fun w' hw' => by have hc : w'.cell? ⟨g5, j * 2, none⟩ = some (.int .u8 kj) := (Below.cell (p := ⟨g5, j * 2, none⟩) hw' hg5).trans ck; clear hw'; go_simp⟩) hHeld ?_
              simp only [Act.put, List.setIfInBounds_toArray, List.set_cons_zero, List.set_cons_succ]
              refine wpAnyH_ready (rs := [15]) (by kernel_rfl) (by simp) ?_
              refine AllReadyH.cons rfl (fun K hK => ?_) AllReadyH.nil
              go_simp
              refine (id_calls kj _).mono ?_
              rintro e w7 ⟨rfl, hb7⟩
              refine hK.out _ _ (hHeld.trans (hb7.mono hHeld.size)) (fun hHeld => ?_)
              clear hK K hb7
              refine held_take (i := 16) (some 122) (.bool false) rfl rfl (by kernel_rfl) (by kernel_rfl) (by kernel_rfl) (fun _ _ _ h => h) (Or.inl ⟨by rfl, fun w' hw' => by go_simp⟩) hHeld ?_
              simp only [Act.put, List.setIfInBounds_toArray, List.set_cons_zero, List.set_cons_succ]
              refine held_take (i := 17) (some 123) (.bool false) rfl rfl (by kernel_rfl) (by kernel_rfl) (by kernel_rfl) (fun _ _ _ h => h) (Or.inl ⟨by rfl, fun w' hw' => by go_simp⟩) hHeld ?_
              simp only [Act.put, List.setIfInBounds_toArray, List.set_cons_zero, List.set_cons_succ]
              refine held_take (i := 18) (some 124) (.pointer (some ⟨w.heap.size + 1, 0, none⟩)) rfl rfl (by kernel_rfl) (by kernel_rfl) (by kernel_rfl) (fun _ _ _ h => h) (Or.inl ⟨by rfl, fun w' hw' => by go_simp⟩) hHeld ?_
              simp only [Act.put, List.setIfInBounds_toArray, List.set_cons_zero, List.set_cons_succ]
              refine held_take (i := 19) (some 125) (.pointer (some ⟨w.heap.size + 1, 0, none⟩)) rfl rfl (by kernel_rfl) (by kernel_rfl) (by kernel_rfl) (fun _ _ _ h => h) (Or.inl ⟨by rfl, fun w' hw' => by go_simp⟩) hHeld ?_
              simp only [Act.put, List.setIfInBounds_toArray, List.set_cons_zero, List.set_cons_succ]
              refine held_take (i := 20) (some 126) (.pointer (some ⟨w.heap.size + 1, 108, none⟩)) rfl rfl (by kernel_rfl) (by kernel_rfl) (by kernel_rfl) (fun _ _ _ h => h) (Or.inl ⟨by rfl, fun w' hw' => by go_simp⟩) hHeld ?_
              simp only [Act.put, List.setIfInBounds_toArray, List.set_cons_zero, List.set_cons_succ]
              refine held_take (i := 21) (some 127) (.slice (some ⟨g4, 0, none⟩) ws.length cap4) rfl rfl (by kernel_rfl) (by kernel_rfl) (by kernel_rfl) (fun _ _ _ h => h) (Or.inl ⟨by rfl, fun w' hw' => by have hc : w'.cell? ⟨w.heap.size + 1, 108, none⟩ = some (.slice (some ⟨g4, 0, none⟩) ws.length cap4) := (Below.cell (p := ⟨w.heap.size + 1, 108, none⟩) hw' hnlt).trans c108; clear hw'; go_simp⟩) hHeld ?_
              simp only [Act.put, List.setIfInBounds_toArray, List.set_cons_zero, List.set_cons_succ]
              refine held_take (i := 22) (some 128) (.int .i64 j) rfl rfl (by kernel_rfl) (by kernel_rfl) (by kernel_rfl) (fun _ _ _ h => h) (Or.inl ⟨by rfl, fun w' hw' => by go_simp⟩) hHeld ?_
              simp only [Act.put, List.setIfInBounds_toArray, List.set_cons_zero, List.set_cons_succ]
              refine held_take (i := 23) (some 129) (.pointer (some ⟨g4, j * 74, none⟩)) rfl rfl (by kernel_rfl) (by kernel_rfl) (by kernel_rfl) (fun _ _ _ h => h) (Or.inl ⟨by rfl, fun w' hw' => by go_simp⟩) hHeld ?_
              simp only [Act.put, List.setIfInBounds_toArray, List.set_cons_zero, List.set_cons_succ]
              refine held_take (i := 24) (some 130) (.pointer (some ⟨g4, j * 74 + 73, none⟩)) rfl rfl (by kernel_rfl) (by kernel_rfl) (by kernel_rfl) (fun _ _ _ h => h) (Or.inl ⟨by rfl, fun w' hw' => by go_simp⟩) hHeld ?_
              simp only [Act.put, List.setIfInBounds_toArray, List.set_cons_zero, List.set_cons_succ]
              refine held_take (i := 25) (some 131) (.int .i64 fj) rfl rfl (by kernel_rfl) (by kernel_rfl) (by kernel_rfl) (fun _ _ _ h => h) (Or.inl ⟨by rfl, fun w' hw' => by have hc : w'.cell? ⟨g4, j * 74 + 73, none⟩ = some (.int .i64 fj) := (Below.cell (p := ⟨g4, j * 74 + 73, none⟩) hw' hg4).trans cf4; clear hw'; go_simp⟩) hHeld ?_
              simp only [Act.put, List.setIfInBounds_toArray, List.set_cons_zero, List.set_cons_succ]
              refine held_take (i := 26) (some 132) (.slice (some ⟨g5, 0, none⟩) ws.length cap5) rfl rfl (by kernel_rfl) (by kernel_rfl) (by kernel_rfl) (fun _ _ _ h => h) (Or.inl ⟨by rfl, fun w' hw' => by go_simp⟩) hHeld ?_
              simp only [Act.put, List.setIfInBounds_toArray, List.set_cons_zero, List.set_cons_succ]
              refine held_take (i := 27) (some 133) (.int .i64 j) rfl rfl (by kernel_rfl) (by kernel_rfl) (by kernel_rfl) (fun _ _ _ h => h) (Or.inl ⟨by rfl, fun w' hw' => by go_simp⟩) hHeld ?_
              simp only [Act.put, List.setIfInBounds_toArray, List.set_cons_zero, List.set_cons_succ]
              refine held_take (i := 28) (some 134) (.pointer (some ⟨g5, j * 2, none⟩)) rfl rfl (by kernel_rfl) (by kernel_rfl) (by kernel_rfl) (fun _ _ _ h => h) (Or.inl ⟨by rfl, fun w' hw' => by go_simp⟩) hHeld ?_
              simp only [Act.put, List.setIfInBounds_toArray, List.set_cons_zero, List.set_cons_succ]
              refine held_take (i := 29) (some 135) (.pointer (some ⟨g5, j * 2 + 1, none⟩)) rfl rfl (by kernel_rfl) (by kernel_rfl) (by kernel_rfl) (fun _ _ _ h => h) (Or.inl ⟨by rfl, fun w' hw' => by go_simp⟩) hHeld ?_
              simp only [Act.put, List.setIfInBounds_toArray, List.set_cons_zero, List.set_cons_succ]
              refine held_take (i := 30) (some 136) (.int .i64 fj) rfl rfl (by kernel_rfl) (by kernel_rfl) (by kernel_rfl) (fun _ _ _ h => h) (Or.inl ⟨by rfl, fun w' hw' => by have hc : w'.cell? ⟨g5, j * 2 + 1, none⟩ = some (.int .i64 fj) := (Below.cell (p := ⟨g5, j * 2 + 1, none⟩) hw' hg5).trans cf5; clear hw'; go_simp⟩) hHeld ?_
              simp only [Act.put, List.setIfInBounds_toArray, List.set_cons_zero, List.set_cons_succ]
              refine held_take (i := 31) (some 137) (.bool false) rfl rfl (by kernel_rfl) (by kernel_rfl) (by kernel_rfl) (fun _ _ _ h => h) (Or.inl ⟨by rfl, fun w' hw' => by go_simp⟩) hHeld ?_
              simp only [Act.put, List.setIfInBounds_toArray, List.set_cons_zero, List.set_cons_succ]
              refine held_take (i := 32) (some 138) (.bool false) rfl rfl (by kernel_rfl) (by kernel_rfl) (by kernel_rfl) (fun _ _ _ h => h) (Or.inl ⟨by rfl, fun w' hw' => by go_simp⟩) hHeld ?_
              simp only [Act.put, List.setIfInBounds_toArray, List.set_cons_zero, List.set_cons_succ]
              refine wpAnyH_done (by kernel_rfl) ?_ _
              refine NoPanic.normal ?_
              have Hfin := hide ((unhide Hb3).trans (hHeld.mono (unhide Hb3).size))
              clear hHeld c108 rg ck cf4 cf5 HE
              go_wp2_with fail
              go_roundw
              case rel => exact ⟨j + 1, by go_num, hide (by have := hlt; omega), Hfin⟩
              case measure => simp [intOf]; omega
            · have hj3 : j = ws.length := by have := unhide Hj3; omega
              have hi1' : ¬ ((j : Int) < ws.length) := by omega
              go_wp2_with fail
              go_ret
              exact ⟨rfl, (unhide Hb).trans ((unhide Hb3).mono (unhide Hb).size)⟩

end Go.Proofs.Ybulkbbca
