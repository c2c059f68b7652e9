/- The plain graph that zzs2615cbuild makes of its input. -/
import Derived.Test.YbulkbbdcGraph
namespace Go.Proofs.Ybulkbbdc.Gr

structure Inp where
  n : Nat
  m : Nat
  edge : Nat → Bool
  has : Bool
  pick : Nat → Nat

def adjRow (i : Inp) (l j : Nat) : List Int := ((List.range j).filter fun r => i.edge (l * i.m + r)).map fun (r : Nat) => (r : Int)

theorem adjRow_zero (i : Inp) (l : Nat) : adjRow i l 0 = [] := by simp [adjRow]

theorem adjRow_yes (i : Inp) (l j : Nat) (h : i.edge (l * i.m + j) = true) : adjRow i l (j + 1) = adjRow i l j ++ [(j : Int)] := by
  unfold adjRow
  rw [List.range_succ, List.filter_append]
  simp [h]

theorem adjRow_no (i : Inp) (l j : Nat) (h : i.edge (l * i.m + j) = false) : adjRow i l (j + 1) = adjRow i l j := by
  unfold adjRow
  rw [List.range_succ, List.filter_append]
  simp [h]

theorem adjRow_length (i : Inp) (l j : Nat) : (adjRow i l j).length ≤ j := by
  unfold adjRow
  have := List.length_filter_le (fun r => i.edge (l * i.m + r)) (List.range j)
  simpa using this

theorem adjRow_mem {i : Inp} {l j : Nat} {r : Int} (h : r ∈ adjRow i l j) : 0 ≤ r ∧ r < j := by
  unfold adjRow at h
  simp only [List.mem_map, List.mem_filter, List.mem_range] at h
  obtain ⟨a, ⟨ha, _⟩, rfl⟩ := h
  omega

def adjs (i : Inp) : List (List Int) := (List.range i.n).map fun l => adjRow i l i.m

theorem adjs_row (i : Inp) (l : Nat) (h : l < i.n) : row (adjs i) l = adjRow i l i.m := by
  unfold row adjs
  simp [List.getD_eq_getElem?_getD, h]

theorem adjs_none (i : Inp) (l : Nat) (h : ¬ l < i.n) : row (adjs i) l = [] := by
  unfold row adjs
  simp [List.getD_eq_getElem?_getD, h]

/-- the pairs behind k rounds -/
def pairs (i : Inp) : Nat → List Int × List Int
  | 0 => (List.replicate i.n (-1), List.replicate i.m (-1))
  | k + 1 => if i.pick k < i.m ∧ nth (pairs i k).2 (i.pick k) < 0 then ((pairs i k).1.set k (i.pick k), (pairs i k).2.set (i.pick k) k) else pairs i k

theorem pairs_yes (i : Inp) (k : Nat) (h1 : i.pick k < i.m) (h2 : nth (pairs i k).2 (i.pick k) < 0) : pairs i (k + 1) = ((pairs i k).1.set k (i.pick k), (pairs i k).2.set (i.pick k) k) := by
  rw [pairs, if_pos ⟨h1, h2⟩]

theorem pairs_no (i : Inp) (k : Nat) (h : ¬ (i.pick k < i.m ∧ nth (pairs i k).2 (i.pick k) < 0)) : pairs i (k + 1) = pairs i k := by
  rw [pairs, if_neg h]

theorem pairs_len (i : Inp) (k : Nat) : (pairs i k).1.length = i.n ∧ (pairs i k).2.length = i.m := by
  induction k with
  | zero => simp [pairs]
  | succ k ih =>
    rw [pairs]
    split
    · simp [ih]
    · exact ih

theorem nth_replicate (n : Nat) (x : Int) (r : Nat) (h : r < n) : nth (List.replicate n x) r = x := by
  unfold nth
  simp [List.getD_eq_getElem?_getD, h]

theorem pairs_lt (i : Inp) (k : Nat) (hk : k ≤ i.n) : ∀ r, r < i.m → nth (pairs i k).2 r < i.n := by
  induction k with
  | zero =>
    intro r hr
    show nth (List.replicate i.m (-1)) r < i.n
    rw [nth_replicate _ _ _ hr]
    omega
  | succ k ih =>
    intro r hr
    by_cases h : i.pick k < i.m ∧ nth (pairs i k).2 (i.pick k) < 0
    · rw [pairs_yes i k h.1 h.2]
      show nth ((pairs i k).2.set (i.pick k) k) r < i.n
      rw [nth_set]
      split
      · omega
      · exact ih (by omega) r hr
    · rw [pairs_no i k h]
      exact ih (by omega) r hr

def rounds (i : Inp) : Nat := if i.has then i.n else 0

def grf (i : Inp) : Grf := { n := i.n, m := i.m, A := adjs i, PL := (pairs i (rounds i)).1, PR := (pairs i (rounds i)).2 }

theorem grf_ok (i : Inp) (hn : i.n ≤ 23) (hm : i.m ≤ 23) : Ok (grf i) := by
  have hl := pairs_len i (rounds i)
  refine ⟨hn, hm, by simp [grf, adjs], hl.1, hl.2, ?_, ?_, ?_⟩
  · intro p r hr
    by_cases hp : p < i.n
    · have h2 : r ∈ adjRow i p i.m := by rw [← adjs_row i p hp]; exact hr
      exact adjRow_mem h2
    · have h2 : r ∈ ([] : List Int) := by rw [← adjs_none i p hp]; exact hr
      cases h2
  · intro p
    by_cases hp : p < i.n
    · have e : row (grf i).A p = adjRow i p i.m := adjs_row i p hp
      rw [e]
      exact adjRow_length i p i.m
    · have e : row (grf i).A p = [] := adjs_none i p hp
      rw [e]
      exact Nat.zero_le _
  · intro r hr
    refine pairs_lt i (rounds i) ?_ r hr
    unfold rounds
    split <;> omega

end Go.Proofs.Ybulkbbdc.Gr
