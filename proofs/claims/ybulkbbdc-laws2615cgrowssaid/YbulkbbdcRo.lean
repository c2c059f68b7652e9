/- How a matcher lies in memory. -/
import Derived.Test.YbulkbbdcMem
namespace Go.Proofs.Ybulkbbdc
open Go.RowKit Gr

/-- the part of a matcher that is only read: the edges, the pairs; all of it in blocks below 'hi' -/
structure Ro (w : World) (lo hi ga gpl gpr : Nat) (g : Grf) : Prop where
  adj : ∃ vs : List Value, RowAt w ga 27 vs ∧ vs.length = g.n ∧ ∀ v, v < g.n → SlAt w lo hi (vs.getD v undef) (row g.A v)
  pl : IntsAt w gpl g.PL
  pr : IntsAt w gpr g.PR
  la : ga < hi
  lpl : gpl < hi
  lpr : gpr < hi
  oa : lo ≤ ga
  opl : lo ≤ gpl
  opr : lo ≤ gpr

theorem Ro.below {w w' : World} {lo hi ga gpl gpr B : Nat} {g : Grf} (h : Ro w lo hi ga gpl gpr g) (hb : Below B w w') (hB : hi ≤ B) : Ro w' lo hi ga gpl gpr g := by
  obtain ⟨vs, h1, h2, h3⟩ := h.adj
  exact ⟨⟨vs, h1.below hb (by have := h.la; omega), h2, fun v hv => (h3 v hv).below hb hB⟩, RowAt.below h.pl hb (by have := h.lpl; omega), RowAt.below h.pr hb (by have := h.lpr; omega), h.la, h.lpl, h.lpr, h.oa, h.opl, h.opr⟩

theorem Ro.kept {ex : Nat → Prop} {w w' : World} {lo hi ga gpl gpr : Nat} {g : Grf} (h : Ro w lo hi ga gpl gpr g) (hk : Kept ex w w') (hx : ∀ k, lo ≤ k → k < hi → ¬ ex k) : Ro w' lo hi ga gpl gpr g := by
  obtain ⟨vs, h1, h2, h3⟩ := h.adj
  exact ⟨⟨vs, h1.kept hk (hx ga h.oa h.la), h2, fun v hv => (h3 v hv).kept hk hx⟩, RowAt.kept h.pl hk (hx gpl h.opl h.lpl), RowAt.kept h.pr hk (hx gpr h.opr h.lpr), h.la, h.lpl, h.lpr, h.oa, h.opl, h.opr⟩

/-- the cell of the row of edges of the left vertex v -/
theorem Ro.rowOf {w : World} {lo hi ga gpl gpr : Nat} {g : Grf} (h : Ro w lo hi ga gpl gpr g) {v : Nat} (hv : v < g.n) : ∃ a cap, w.cell? ⟨ga, v, none⟩ = some (.slice a (row g.A v).length cap) ∧ SlAt w lo hi (.slice a (row g.A v).length cap) (row g.A v) := by
  obtain ⟨vs, h1, h2, h3⟩ := h.adj
  have h4 := h3 v hv
  obtain ⟨a, cap, e⟩ := h4.form
  refine ⟨a, cap, ?_, e ▸ h4⟩
  rw [h1.cell, ← e]
  simp [List.getD_eq_getElem?_getD, h2, hv]

/-- the edge number t of the left vertex v -/
theorem SlAt.at {w : World} {lo hi n cap : Nat} {a : Option Addr} {xs : List Int} (h : SlAt w lo hi (.slice a n cap) xs) (hn : n = xs.length) {t : Nat} (ht : t < n) : ∃ b, a = some ⟨b, 0, none⟩ ∧ b < hi ∧ w.cell? ⟨b, t, none⟩ = some (.int .i64 (nth xs t)) := by
  subst hn
  obtain ⟨b, c, e, hb, hc⟩ := h.many (by omega)
  simp only [Value.slice.injEq] at e
  exact ⟨b, e.1, hb.2, hc t ht⟩

/-- the matcher's own five cells -/
def mcells (ga gpl gpr gly n m : Nat) (q : Value) : List Value :=
  [.slice (some ⟨ga, 0, none⟩) n n, .slice (some ⟨gpl, 0, none⟩) n n, .slice (some ⟨gpr, 0, none⟩) m m, .slice (some ⟨gly, 0, none⟩) n n, q]

structure MAt (w : World) (gm ga gpl gpr gly n m : Nat) (q : Value) : Prop where
  c0 : w.cell? ⟨gm, 0, none⟩ = some (.slice (some ⟨ga, 0, none⟩) n n)
  c1 : w.cell? ⟨gm, 1, none⟩ = some (.slice (some ⟨gpl, 0, none⟩) n n)
  c2 : w.cell? ⟨gm, 2, none⟩ = some (.slice (some ⟨gpr, 0, none⟩) m m)
  c3 : w.cell? ⟨gm, 3, none⟩ = some (.slice (some ⟨gly, 0, none⟩) n n)
  c4 : w.cell? ⟨gm, 4, none⟩ = some q

theorem mat_of {w : World} {gm ga gpl gpr gly n m : Nat} {q : Value} (h : RowAt w gm 38 (mcells ga gpl gpr gly n m q)) : MAt w gm ga gpl gpr gly n m q :=
  ⟨h.cell 0, h.cell 1, h.cell 2, h.cell 3, h.cell 4⟩

end Go.Proofs.Ybulkbbdc
