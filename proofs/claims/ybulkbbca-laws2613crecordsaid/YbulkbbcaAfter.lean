/- What pingedSaved leaves, as plain lists; and in memory. -/
import Derived.Test.YbulkbbcaIndex
namespace Go.Proofs.Ybulkbbca
open Go.RowKit

def nf (ans : Bool) (f : Int) : Int := if ans then f else wrap64 (f + 1)
def gone (ans : Bool) (f : Int) : Bool := ans || nf ans f == 3
def after (k : Int) (ans : Bool) : List (Int × Int) → List (Int × Int)
  | [] => []
  | p :: r => if p.1 = k then (if gone ans p.2 then r else (p.1, nf ans p.2) :: r) else p :: after k ans r

theorem after_none (k : Int) (ans : Bool) (ss : List (Int × Int)) (h : ∀ j (hj : j < ss.length), (ss[j]).1 ≠ k) : after k ans ss = ss := by
  induction ss with
  | nil => rfl
  | cons p r ih =>
    have h0 : p.1 ≠ k := h 0 (by simp)
    rw [after, if_neg h0, ih (fun j hj => by have := h (j + 1) (by simpa using hj); simpa using this)]

theorem after_at (k : Int) (ans : Bool) (ss : List (Int × Int)) (i : Nat) (hi : i < ss.length) (hk : (ss[i]).1 = k) (h : ∀ j (hj : j < i), (ss[j]).1 ≠ k) :
    after k ans ss = if gone ans (ss[i]).2 then ss.take i ++ ss.drop (i + 1) else ss.set i (k, nf ans (ss[i]).2) := by
  induction ss generalizing i with
  | nil => cases hi
  | cons p r ih =>
    cases i with
    | zero =>
      have hk' : p.1 = k := hk
      simp only [after, hk', if_true, List.take_zero, List.nil_append, List.drop_succ_cons, List.drop_zero, List.getElem_cons_zero, List.set_cons_zero]
    | succ i =>
      have h0 : p.1 ≠ k := h 0 (by omega)
      rw [after, if_neg h0, ih i (by simpa using hi) (by simpa using hk) (fun j hj => by have := h (j + 1) (by omega); simpa using this)]
      simp only [List.getElem_cons_succ, List.take_succ_cons, List.drop_succ_cons, List.set_cons_succ]
      split <;> simp

theorem sccs_set (ss : List (Int × Int)) (i : Nat) (hi : i < ss.length) (f : Int) : (sccs ss).set (i * 74 + 73) (.int .i64 f) = sccs (ss.set i ((ss[i]).1, f)) := by
  induction ss generalizing i with
  | nil => cases hi
  | cons p r ih =>
    rw [sccs_cons]
    cases i with
    | zero =>
      rw [List.set_append_left _ _ (by rw [scc_length]; omega), List.set_cons_zero, sccs_cons]
      congr 1
    | succ i =>
      rw [List.set_append_right _ _ (by rw [scc_length]; omega), scc_length, show (i + 1) * 74 + 73 - 74 = i * 74 + 73 from by omega, ih i (by simpa using hi)]
      simp [sccs_cons]

theorem sccs_split (ss : List (Int × Int)) (i : Nat) : sccs ss = sccs (ss.take i) ++ sccs (ss.drop i) := by rw [← sccs_append, List.take_append_drop]
theorem sccs_take (ss : List (Int × Int)) (i : Nat) (hi : i ≤ ss.length) : (sccs ss).take (i * 74) = sccs (ss.take i) := by
  rw [sccs_split ss i, List.take_left' (by rw [sccs_length, List.length_take, Nat.min_eq_left hi])]
theorem sccs_one (ss : List (Int × Int)) : ∀ v, v ∈ sccs ss → v.oneCell' = true := by
  intro v hv
  simp only [sccs, List.mem_flatMap] at hv
  obtain ⟨p, _, h⟩ := hv
  exact scc_one _ _ v h
theorem sccs_count {ss : List (Int × Int)} {i : Nat} (hi : i < ss.length) : (sccs ss)[i * 74 + 73]? = some (.int .i64 (ss[i]).2) := by
  rw [sccs_at ss i 73 hi (by omega)]
  simp [scc, midc, idc, idn, u8s]

/-- the count of failures of number i is set -/
theorem St.bump {w : World} {B g cap : Nat} {ss : List (Int × Int)} (h : St w B (.slice (some ⟨g, 0, none⟩) ss.length cap) ss) (i : Nat) (hi : i < ss.length) (f : Int) :
    St (w.setCell ⟨g, i * 74 + 73, none⟩ (.int .i64 f)) B (.slice (some ⟨g, 0, none⟩) ss.length cap) (ss.set i ((ss[i]).1, f)) := by
  rcases h.own.2 with ⟨h1, _⟩ | ⟨g', cap', cur, h1, h2, h3, h4, h5, h6, h7⟩
  · cases h1
  · cases h1
    have hm : (i + 1) * 74 ≤ ss.length * 74 := Nat.mul_le_mul_right _ hi
    refine ⟨h.tab.other _ _ (by show B ≠ g; omega), h.node.other _ _ (by show B + 1 ≠ g; omega), ⟨?_, .inr ⟨g, cap, cur.setIfInBounds (i * 74 + 73) (.int .i64 f), by rw [List.length_set], h2, ?_, ?_, h5, ?_, ?_⟩⟩⟩
    · rw [sccs_length]
    · rw [heap_setCell_same w g _ _ 105 _ h3]
    · rw [List.length_set]; exact h4
    · simpa using h6
    · rw [List.length_set, Array.toList_setIfInBounds, List.take_set, h7, sccs_set ss i hi f]

/-- number i is taken out -/
theorem St.remove {w : World} {B g cap : Nat} {ss : List (Int × Int)} (h : St w B (.slice (some ⟨g, 0, none⟩) ss.length cap) ss) (i : Nat) (hi : i < ss.length) :
    St ((w.setCells g (i * 74) (sccs (ss.drop (i + 1)))).setCell ⟨B + 1, 108, none⟩ (.slice (some ⟨g, 0, none⟩) (i + (ss.length - (i + 1))) cap)) B (.slice (some ⟨g, 0, none⟩) (i + (ss.length - (i + 1))) cap) (ss.take i ++ ss.drop (i + 1)) := by
  rcases h.own.2 with ⟨h1, _⟩ | ⟨g', cap', cur, h1, h2, h3, h4, h5, h6, h7⟩
  · cases h1
  · cases h1
    have hrow : RowAt w g 105 cur.toList := h3
    have hld : (sccs (ss.drop (i + 1))).length = (ss.length - (i + 1)) * 74 := by rw [sccs_length, List.length_drop]
    have hm : i * 74 + (ss.length - (i + 1)) * 74 ≤ cap * 74 := by rw [← Nat.add_mul]; exact Nat.mul_le_mul_right _ (by omega)
    have hcl : cur.toList.length = cap * 74 := by simpa using h6
    have hset := hrow.setCells (i * 74) (sccs (ss.drop (i + 1))) (by rw [hld, hcl]; exact hm)
    have hlen : (ss.take i ++ ss.drop (i + 1)).length = i + (ss.length - (i + 1)) := by simp; omega
    refine ⟨(h.tab.setOther _ _ _ (by omega)).other _ _ (by show B ≠ B + 1; omega), ?_, ⟨?_, .inr ⟨g, cap, _, by rw [hlen], h2, (hset.other _ _ (by show g ≠ B + 1; omega)), by omega, h5, ?_, ?_⟩⟩⟩
    · have := (h.node.setOther g (i * 74) (sccs (ss.drop (i + 1))) (by omega)).set 108 (.slice (some ⟨g, 0, none⟩) (i + (ss.length - (i + 1))) cap)
      rwa [nodec_set] at this
    · rw [sccs_length]
    · simp only [List.size_toArray, List.length_append, List.length_take, List.length_drop, Array.length_toList, hld, h6]
      omega
    · have ht : cur.toList.take (i * 74) = sccs (ss.take i) := by
        rw [← sccs_take ss i (by omega), ← h7, List.take_take]
        congr 1
        have : i * 74 ≤ ss.length * 74 := Nat.mul_le_mul_right _ (by omega)
        omega
      simp only [ht, hlen]
      rw [sccs_append, List.take_left' (by rw [List.length_append, sccs_length, hld, List.length_take, Nat.min_eq_left (by omega), Nat.add_mul])]

end Go.Proofs.Ybulkbbca
