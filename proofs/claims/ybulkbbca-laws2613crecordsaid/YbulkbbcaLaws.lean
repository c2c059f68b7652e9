/- Laws at single operations, for whatever program: boxes, zero values, results that lie in memory; worlds behind a store of many cells. -/
import Derived.Test.YbulkbbcaMem
import Derived.Laws.ResultCell
namespace Go.Proofs.Ybulkbbca
open Go.RowKit

section
variable {P : Program} {ops : Array Oper} {rest : List Oper} {o : Oper} {a : Act} {w : World} {Q : Exit → Act → World → Prop}

/-- an operation that yields a value -/
theorem wpList_value (hgd : o.guard = none) {v : Value} {w' : World} (hr : (execOp a.eval o).run P w = .ok (.value v) w') (h : wpList P ops Q rest (a.put o.dst v) w') : wpList P ops Q (o :: rest) a w :=
  wpList_plain hgd fun K hK => by
    unfold Oper.wp
    rw [hr]
    exact hK _ _ h

theorem wpList_box_row (hgd : o.guard = none) (t : TypeId) (x : Operand) (ho : o.op = .box t x) (C : Array Value) (hx : a.eval x = .agg C)
    (h : wpList P ops Q rest (a.put o.dst (.pointer (some ⟨w.heap.size, 0, none⟩))) (w.alloc (.cells C t))) : wpList P ops Q (o :: rest) a w := by
  refine wpList_value hgd (v := .pointer (some ⟨w.heap.size, 0, none⟩)) (w' := w.alloc (.cells C t)) ?_ h
  unfold execOp
  simp only [ho, hx]
  rfl

theorem wpList_alloc_row (hgd : o.guard = none) (t : TypeId) (ho : o.op = .alloc t) (Z : Array Value) (hz : (zeroValue t).run P w = .ok (.agg Z) w)
    (h : wpList P ops Q rest (a.put o.dst (.pointer (some ⟨w.heap.size, 0, none⟩))) (w.alloc (.cells Z t))) : wpList P ops Q (o :: rest) a w := by
  refine wpList_value hgd (v := .pointer (some ⟨w.heap.size, 0, none⟩)) (w' := w.alloc (.cells Z t)) ?_ h
  unfold execOp
  simp only [ho, Instr.alloc, Sem.run_bind, hz, Result.andThen_ok]
  rfl

theorem wpList_build_as (hgd : o.guard = none) (t : TypeId) (ps : Array (Nat × Operand)) (ho : o.op = .build t ps) (v : Value) (hb : (Instr.build t (ps.map fun p => (p.1, a.eval p.2))).run P w = .ok v w)
    (h : wpList P ops Q rest (a.put o.dst v) w) : wpList P ops Q (o :: rest) a w := by
  refine wpList_value hgd (v := v) (w' := w) ?_ h
  unfold execOp
  simp only [ho, Sem.run_bind]
  rw [hb]
  rfl
end

theorem Below.setCells {B : Nat} {a w : World} (h : Below B a w) (b o : Nat) (vs : List Value) (hb : B ≤ b) : Below B a (w.setCells b o vs) := by
  induction vs generalizing o w with
  | nil => exact h
  | cons v r ih => exact ih (h.setCell (p := ⟨b, o, none⟩) hb v) (o + 1)

theorem heap_setCells_other (w : World) (b o : Nat) (vs : List Value) (k : Nat) (h : k ≠ b) : (w.setCells b o vs).heap[k]? = w.heap[k]? := by
  induction vs generalizing o w with
  | nil => rfl
  | cons v r ih => exact (ih (w.setCell ⟨b, o, none⟩ v) (o + 1)).trans (heap_setCell_other w _ k v h)

theorem size_setCells (w : World) (b o : Nat) (vs : List Value) : (w.setCells b o vs).heap.size = w.heap.size := by
  induction vs generalizing o w with
  | nil => rfl
  | cons v r ih => exact (ih (w.setCell ⟨b, o, none⟩ v) (o + 1)).trans (by simp [World.setCell])

theorem RowAt.setCells {w : World} {g : Nat} {e : TypeId} {xs : List Value} (h : RowAt w g e xs) (o : Nat) (vs : List Value) (hn : o + vs.length ≤ xs.length) : RowAt (w.setCells g o vs) g e (xs.take o ++ vs ++ xs.drop (o + vs.length)) := by
  induction vs generalizing o w xs with
  | nil =>
    have e : xs.take o ++ [] ++ xs.drop (o + ([] : List Value).length) = xs := by simp
    rw [e]
    exact h
  | cons v r ih =>
    have h1 := h.set o v
    have h2 := ih (w := w.setCell ⟨g, o, none⟩ v) (xs := xs.set o v) h1 (o + 1) (by simp at hn ⊢; omega)
    have hlen : o < xs.length := by simp at hn; omega
    have e1 : (xs.set o v).take (o + 1) ++ r ++ (xs.set o v).drop (o + 1 + r.length) = xs.take o ++ (v :: r) ++ xs.drop (o + (v :: r).length) := by
      have t1 : (xs.set o v).take (o + 1) = xs.take o ++ [v] := by
        rw [List.take_succ_eq_append_getElem (by simpa using hlen)]
        have t3 : (List.take o xs).set o v = List.take o xs := List.set_eq_of_length_le (by simp; omega)
        simp [List.take_set, t3]
      have t2 : (xs.set o v).drop (o + 1 + r.length) = xs.drop (o + (v :: r).length) := by
        rw [List.drop_set_of_lt (by omega)]
        congr 1
        simp
        omega
      rw [t1, t2]
      simp
    rw [e1] at h2
    exact h2

/-- one result, in memory -/
theorem results_cell_mid {P : Program} {fn : Func} {p : Tmp} {ty : TypeId} (h : fn.results = #[.cell p ty]) (tmps : Array Value) (w : World) (b o : Nat) (cs : List Value) (d : TypeDesc)
    (hp : tmps.getD p undef = .pointer (some ⟨b, o, none⟩)) (hc : w.rangeAt b o cs) (hu : P.underlying ty = some d) (hd : d.isRow = true) (hi : (P.info? ty).map (·.size) = some cs.length) :
    (results fn tmps).run P w = .ok (.agg cs.toArray) w := by
  have hp' : tmps[p]?.getD undef = .pointer (some ⟨b, o, none⟩) := by simpa using hp
  simp [results, h, hp', asAddr, run_loadVar_mid w b o ty cs d hc hu hd hi]

/-- two results: one in memory, one in a slot -/
theorem results_cell_tmp {P : Program} {fn : Func} {p q : Tmp} {ty : TypeId} (h : fn.results = #[.cell p ty, .tmp q]) (tmps : Array Value) (w : World) (b o : Nat) (cs : List Value) (d : TypeDesc)
    (hp : tmps.getD p undef = .pointer (some ⟨b, o, none⟩)) (hc : w.rangeAt b o cs) (hu : P.underlying ty = some d) (hd : d.isRow = true) (hi : (P.info? ty).map (·.size) = some cs.length) :
    (results fn tmps).run P w = .ok (.tuple #[.agg cs.toArray, tmps.getD q undef]) w := by
  have hp' : tmps[p]?.getD undef = .pointer (some ⟨b, o, none⟩) := by simpa using hp
  simp [results, h, hp', asAddr, run_loadVar_mid w b o ty cs d hc hu hd hi]

theorem row_new (w : World) (xs : List Value) (e : TypeId) : RowAt (w.alloc (.cells xs.toArray e)) w.heap.size e xs := heap_alloc_new w _
theorem RowAt.alloc {w : World} {g : Nat} {e : TypeId} {xs : List Value} (h : RowAt w g e xs) (o : Obj) : RowAt (w.alloc o) g e xs := (Below.heap_alloc w o g h.lt).trans h
theorem RowAt.setOther {w : World} {g : Nat} {e : TypeId} {xs : List Value} (h : RowAt w g e xs) (b o : Nat) (vs : List Value) (hne : g ≠ b) : RowAt (w.setCells b o vs) g e xs := (heap_setCells_other w b o vs g hne).trans h

theorem u8s_one (xs : List Int) : ∀ v, v ∈ u8s xs → v.oneCell' = true := by
  intro v hv
  simp only [u8s, List.mem_map] at hv
  obtain ⟨x, _, rfl⟩ := hv
  rfl
theorem u8s_length (xs : List Int) : (u8s xs).length = xs.length := by simp [u8s]

theorem size32 : (Yba.prog.info? 32).map (·.size) = some 32 := by kernel_rfl
theorem size51 : (Yba.prog.info? 51).map (·.size) = some 70 := by kernel_rfl
theorem size103 : (Yba.prog.info? 103).map (·.size) = some 73 := by kernel_rfl
theorem size105 : (Yba.prog.info? 105).map (·.size) = some 74 := by kernel_rfl

end Go.Proofs.Ybulkbbca
