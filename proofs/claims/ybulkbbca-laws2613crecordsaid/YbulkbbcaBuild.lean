/- A saved contact is built, and appended. -/
import Derived.Test.YbulkbbcaPinged
namespace Go.Proofs.Ybulkbbca
open Go.RowKit

def conc (k : Int) : List Value := idc k ++ [.int .u64 0, .int .u64 0, .pointer none, .int .u16 0] ++ u8s (List.replicate 32 0) ++ [.int .u64 0, .int .u64 0]
def entc (k : Int) : List Value := idc k ++ midc

theorem build51 (k : Int) (w : World) : (Instr.build 51 #[(0, .agg (idc k).toArray)]).run Yba.prog w = .ok (.agg (conc k).toArray) w := by kernel_rfl
theorem build103 (k : Int) (w : World) : (Instr.build 103 #[(0, .agg (conc k).toArray)]).run Yba.prog w = .ok (.agg (entc k).toArray) w := by kernel_rfl
theorem build105 (k f : Int) (w : World) : (Instr.build 105 #[(0, .agg (entc k).toArray), (1, .int .i64 f)]).run Yba.prog w = .ok (.agg (scc k f).toArray) w := by kernel_rfl
theorem slice105 (k f : Int) (w : World) : (Instr.buildSlice 83 1 #[(0, .agg (scc k f).toArray)]).run Yba.prog w = .ok (.slice (some ⟨w.heap.size, 0, none⟩) 1 1) (w.alloc (.cells (scc k f).toArray 105)) := by kernel_rfl

theorem info105' : (Yba.prog.info? 105).map (fun i => (i.zero, i.size, i.bytes)) = some (some (.agg (scc 0 0).toArray), 74, (((Yba.prog.info? 105).map (·.bytes)).getD 0)) := by kernel_rfl
theorem bytes105 : ((Yba.prog.info? 105).map (·.bytes)).getD 0 ≤ 200 := by
  have h : decide (((Yba.prog.info? 105).map (·.bytes)).getD 0 ≤ 200) = true := by kernel_rfl
  exact of_decide_eq_true h

theorem grownBy_setCell (w : World) (b o : Nat) (v : Value) : w.grownBy (w.setCell ⟨b, o, none⟩ v) (some b) :=
  ⟨rfl, rfl, rfl, by simp [World.setCell], fun k _ hk => heap_setCell_other w ⟨b, o, none⟩ k v (by intro h; exact hk (by rw [h]))⟩

theorem RowAt.grown {w w' : World} {g : Nat} {e : TypeId} {xs : List Value} {row : Option Nat} (h : RowAt w g e xs) (hg : w.grownBy w' row) (hne : some g ≠ row) : RowAt w' g e xs := (hg.block g h.lt hne).trans h
theorem below_grown {B : Nat} {a w w' : World} {row : Option Nat} (h : Below B a w) (hg : w.grownBy w' row) (hB : B ≤ w.heap.size) (hr : ∀ k, row = some k → B ≤ k) : Below B a w' :=
  h.trans ⟨hg.os, hg.tape, hg.output, hg.size, fun k hk => hg.block k (Nat.lt_of_lt_of_le hk hB) (fun e => by have := hr k e.symm; omega)⟩

theorem St.own_ne {w : World} {B : Nat} {v : Value} {ss : List (Int × Int)} (h : St w B v ss) (g : Nat) (hg : g < B + 2) : some g ≠ v.ownBlock := by
  intro e
  have := (h.own.lt g e.symm).1
  omega

/-- one more is appended, and the node holds the new slice -/
theorem St.grow {w w' : World} {B g cap : Nat} {v : Value} {ss : List (Int × Int)} {k f : Int} (h : St w B v ss)
    (hown : w'.ownsRow (B + 2) 105 74 (.slice (some ⟨g, 0, none⟩) (ss.length + 1) cap) (ss.length + 1) (sccs ss ++ scc k f)) (hgr : w.grownBy w' v.ownBlock) :
    St (w'.setCell ⟨B + 1, 108, none⟩ (.slice (some ⟨g, 0, none⟩) (ss.length + 1) cap)) B (.slice (some ⟨g, 0, none⟩) (ss.length + 1) cap) (ss ++ [(k, f)]) := by
  have hg := (hown.lt g rfl).1
  refine ⟨(h.tab.grown hgr (h.own_ne B (by omega))).other _ _ (by show B ≠ B + 1; omega), ?_, ?_⟩
  · have := (h.node.grown hgr (h.own_ne (B + 1) (by omega))).set 108 (.slice (some ⟨g, 0, none⟩) (ss.length + 1) cap)
    rwa [nodec_set] at this
  · have e1 : (ss ++ [(k, f)]).length = ss.length + 1 := by simp
    have e2 : sccs (ss ++ [(k, f)]) = sccs ss ++ scc k f := by rw [sccs_append, sccs_cons, sccs_nil, List.append_nil]
    rw [e1, e2]
    refine hown.kept (grownBy_setCell w' (B + 1) 108 _) (.inr ?_)
    intro e
    have : g = B + 1 := by simpa [Value.ownBlock] using e
    omega

end Go.Proofs.Ybulkbbca
