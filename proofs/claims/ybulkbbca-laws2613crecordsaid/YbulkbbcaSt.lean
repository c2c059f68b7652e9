/- The node, its table, its saved contacts in memory. -/
import Derived.Test.YbulkbbcaEq
import Derived.Laws.AppendOwn
import Derived.Deep.AppendLies
namespace Go.Proofs.Ybulkbbca
open Go.RowKit

noncomputable def nodeZ : List Value := match Yba.prog.info? 98 with
  | some i => match i.zero with
    | some (.agg cs) => cs.toList
    | _ => []
  | none => []
/-- the node whose table lies at T and whose saved contacts are v -/
noncomputable def nodec (T : Nat) (v : Value) : List Value := (nodeZ.set 82 (.pointer (some ⟨T, 0, none⟩))).set 108 v

theorem nodeZ_length : nodeZ.length = 131 := by kernel_rfl
theorem nodec_length (T : Nat) (v : Value) : (nodec T v).length = 131 := by simp [nodec, nodeZ_length]
theorem nodec_108 (T : Nat) (v : Value) : (nodec T v)[108]? = some v := by simp [nodec, nodeZ_length]
theorem nodec_82 (T : Nat) (v : Value) : (nodec T v)[82]? = some (.pointer (some ⟨T, 0, none⟩)) := by simp [nodec, nodeZ_length]
theorem nodec_set (T : Nat) (v u : Value) : (nodec T v).set 108 u = nodec T u := by simp [nodec]
theorem build98 (T : Nat) (w : World) : (Instr.build 98 #[(3, .pointer (some ⟨T, 0, none⟩))]).run Yba.prog w = .ok (.agg (nodec T (.slice none 0 0)).toArray) w := by kernel_rfl
theorem build37 (w : World) : (Instr.build 37 #[]).run Yba.prog w = .ok (.agg tabc.toArray) w := by kernel_rfl

/-- the saved contacts as cells -/
def sccs (ss : List (Int × Int)) : List Value := ss.flatMap fun p => scc p.1 p.2
theorem sccs_nil : sccs [] = [] := rfl
theorem sccs_cons (p : Int × Int) (r : List (Int × Int)) : sccs (p :: r) = scc p.1 p.2 ++ sccs r := by simp [sccs]
theorem sccs_append (a b : List (Int × Int)) : sccs (a ++ b) = sccs a ++ sccs b := by simp [sccs]
theorem sccs_length (ss : List (Int × Int)) : (sccs ss).length = ss.length * 74 := by
  induction ss with
  | nil => rfl
  | cons p r ih => rw [sccs_cons, List.length_append, scc_length, ih, List.length_cons]; omega

theorem sccs_at (ss : List (Int × Int)) (j c : Nat) (hj : j < ss.length) (hc : c < 74) : (sccs ss)[j * 74 + c]? = (scc (ss[j]).1 (ss[j]).2)[c]? := by
  induction ss generalizing j with
  | nil => cases hj
  | cons p r ih =>
    rw [sccs_cons]
    cases j with
    | zero =>
      rw [List.getElem?_append_left (by rw [scc_length]; omega)]
      simp
    | succ j =>
      rw [List.getElem?_append_right (by rw [scc_length]; omega), scc_length, show (j + 1) * 74 + c - 74 = j * 74 + c from by omega]
      exact ih j (by simpa using hj)

/-- the world holds the table at B, the node at B + 1, and what it has saved in a row of its own -/
structure St (w : World) (B : Nat) (v : Value) (ss : List (Int × Int)) : Prop where
  tab : RowAt w B 37 tabc
  node : RowAt w (B + 1) 98 (nodec B v)
  own : w.ownsRow (B + 2) 105 74 v ss.length (sccs ss)

theorem St.below {w w' : World} {B C : Nat} {v : Value} {ss : List (Int × Int)} (h : St w B v ss) (hb : Below C w w') (hC : w.heap.size ≤ C) : St w' B v ss := by
  refine ⟨h.tab.below hb (Nat.lt_of_lt_of_le h.tab.lt hC), h.node.below hb (Nat.lt_of_lt_of_le h.node.lt hC), ?_⟩
  refine h.own.kept (row := none) ⟨hb.os, hb.tape, hb.output, hb.size, fun k hk _ => hb.block k (Nat.lt_of_lt_of_le hk hC)⟩ ?_
  cases hv : v.ownBlock with
  | none => exact .inl rfl
  | some k => exact .inr (by simp)

theorem St.form {w : World} {B : Nat} {v : Value} {ss : List (Int × Int)} (h : St w B v ss) : (v = .slice none 0 0 ∧ ss = []) ∨
    ∃ g cap, v = .slice (some ⟨g, 0, none⟩) ss.length cap ∧ B + 2 ≤ g ∧ g < w.heap.size ∧ ss.length ≤ cap ∧ ∃ cur : List Value, RowAt w g 105 cur ∧ cur.length = cap * 74 ∧ cur.take (ss.length * 74) = sccs ss := by
  rcases h.own.2 with ⟨h1, h2⟩ | ⟨g, cap, cur, h1, h2, h3, h4, h5, h6, h7⟩
  · exact .inl ⟨h1, List.eq_nil_of_length_eq_zero h2⟩
  · exact .inr ⟨g, cap, h1, h2, (Array.getElem?_eq_some_iff.1 h3).1, h4, cur.toList, h3, by simpa using h6, h7⟩

theorem take_at {cur : List Value} {n : Nat} {ss : List (Int × Int)} (h : cur.take (ss.length * 74) = sccs ss) (hn : n < ss.length * 74) : cur[n]? = (sccs ss)[n]? := by
  rw [← h, List.getElem?_take_of_lt hn]

end Go.Proofs.Ybulkbbca
