/- The input struct of the bipartite laws, opened: two bytes, three slices of integers. -/
import Derived.Test.YbulkbbdcLayers1
import Derived.Lib.SmallJoins
namespace Go.Proofs.Ybulkbbdc
open Go.ChangeShapes Go.WideShapes Go.ChangeAt Go.RowKit Go.Deep Go.Joins Gr

theorem array5 {α : Type} {cs : Array α} (h : cs.size = 5) : ∃ c0 c1 c2 c3 c4, cs = #[c0, c1, c2, c3, c4] := by
  obtain ⟨l⟩ := cs
  match l, h with
  | [c0, c1, c2, c3, c4], _ => exact ⟨c0, c1, c2, c3, c4, rfl⟩

section
variable {H : Type} {enc : TypeId × Value → H} {P : Program} {w : World} {base : Nat} {spare : Nat → Bool} {held : Bool}

theorem open_agg5 {r : Reach} {b0 : Nat} {t : TypeId} {f0 f1 f2 f3 f4 : Field} {v : Value} {d : DataW H} {p : List MemPlace} (hs : P.underlying t = some (.struct #[f0, f1, f2, f3, f4])) (hone : oneCellFields P #[f0, f1, f2, f3, f4] = true) (hC : P.cellsOf t = 5)
    (hv : Value.okWide P w r b0 t v) (h : DataW.Trod enc P w base spare held t v d p) :
    ∃ (v0 v1 v2 v3 v4 : Value) (y0 y1 y2 y3 y4 : DataW H × List MemPlace) (n : Nat), v = .agg #[v0, v1, v2, v3, v4] ∧
      DataW.trod enc P w base spare held n f0.type [v0] = some y0 ∧ DataW.trod enc P w base spare held n f1.type [v1] = some y1 ∧ DataW.trod enc P w base spare held n f2.type [v2] = some y2 ∧
      DataW.trod enc P w base spare held n f3.type [v3] = some y3 ∧ DataW.trod enc P w base spare held n f4.type [v4] = some y4 := by
  obtain ⟨cs, rfl, hsz⟩ := okWide_struct hs hv
  obtain ⟨c0, c1, c2, c3, c4, rfl⟩ := array5 (hsz.trans hC)
  obtain ⟨fuel, hf⟩ := h
  obtain ⟨xs, n, _, _, hl, hlen, hx⟩ := DataW.trod_struct hs hf
  obtain ⟨o0, k0⟩ := hone_of hone 0 f0 rfl
  obtain ⟨o1, k1⟩ := hone_of hone 1 f1 rfl
  obtain ⟨o2, k2⟩ := hone_of hone 2 f2 rfl
  obtain ⟨o3, k3⟩ := hone_of hone 3 f3 rfl
  obtain ⟨o4, k4⟩ := hone_of hone 4 f4 rfl
  match xs, hlen with
  | [y0, y1, y2, y3, y4], _ =>
    exact ⟨c0, c1, c2, c3, c4, y0, y1, y2, y3, y4, n, rfl, by simpa [Value.cells, o0, k0] using hx 0 f0 rfl, by simpa [Value.cells, o1, k1] using hx 1 f1 rfl, by simpa [Value.cells, o2, k2] using hx 2 f2 rfl,
      by simpa [Value.cells, o3, k3] using hx 3 f3 rfl, by simpa [Value.cells, o4, k4] using hx 4 f4 rfl⟩

/-- a slice of integers that is read, as the walks want it -/
theorem argRow_of {k : IntKind} {t e : TypeId} {n : Nat} {v : Value} {y : DataW H × List MemPlace} (ht : P.underlying t = some (.slice e)) (he : P.underlying e = some (.int k)) (hc : P.cellsOf e = 1)
    (h : DataW.trod enc P w base (fun _ => true) held n t [v] = some y) :
    ∃ a len cap zs, v = .slice a len cap ∧ ArgRow k w a len zs ∧ ∀ i, i < zs.length → (Lit.int k (nth zs i)).wf = true := by
  rcases open_ints ht he hc h with ⟨hcs, _⟩ | ⟨x, l, c, zs, hcs, _, hl, hm, hz, _, hcell, hwz⟩
  · simp at hcs
    exact ⟨none, 0, 0, [], hcs, ⟨rfl, by omega, fun h => by omega⟩, fun i hi => by simp at hi⟩
  · simp at hcs
    simp at hz
    have hlz : l ≤ zs.length := by omega
    have hnt : ∀ i, i < l → nth (zs.take l) i = zs.getD i 0 := by
      intro i hi
      unfold nth
      simp [List.getD_eq_getElem?_getD, hi]
    refine ⟨some x, l, c, zs.take l, hcs, ⟨by simp; omega, by unfold maxLen at hm; omega, fun h0 => ?_⟩, fun i hi => ?_⟩
    · obtain ⟨b, off, rfl, hcl⟩ := ints_at hcell (by omega)
      refine ⟨b, off, rfl, World.block_lt_of_cell? w _ (hcl 0 (by omega)), fun i hi => ?_⟩
      rw [hnt i hi]
      exact hcl i (by omega)
    · have hi' : i < l := by simp at hi; omega
      rw [hnt i hi']
      apply hwz
      simp [List.getD_eq_getElem?_getD, show i < zs.length by omega]
end

theorem open_input {H : Type} {enc : TypeId × Value → H} {W : World} {base : Nat} {v : Value} {d : DataW H} {p : List MemPlace} (hv : Value.okWide Yba.prog W .any base 29 v) (h : DataW.Trod enc Yba.prog W 0 (fun _ => true) true 29 v d p) :
    ∃ NL NR ea el ec pa pl pc ja jl jc E K J, v = .agg #[.int .u8 NL, .int .u8 NR, .slice ea el ec, .slice pa pl pc, .slice ja jl jc] ∧ (0 ≤ NL ∧ NL ≤ 255) ∧ (0 ≤ NR ∧ NR ≤ 255) ∧
      ArgRow .u8 W ea el E ∧ ByteRow E ∧ ArgRow .u8 W pa pl K ∧ ByteRow K ∧ ArgRow .i64 W ja jl J := by
  obtain ⟨v0, v1, v2, v3, v4, y0, y1, y2, y3, y4, n, rfl, h0, h1, h2, h3, h4⟩ := open_agg5 Yba.underlying29 (by kernel_rfl) (by kernel_rfl) hv h
  obtain ⟨NL, e0, _, wl⟩ := DataW.trod_int Yba.underlying5 h0
  obtain ⟨NR, e1, _, wr⟩ := DataW.trod_int Yba.underlying5 h1
  obtain ⟨ea, el, ec, E, rfl, hE, hEw⟩ := argRow_of Yba.underlying24 Yba.underlying5 (by kernel_rfl) h2
  obtain ⟨pa, pl, pc, K, rfl, hK, hKw⟩ := argRow_of Yba.underlying24 Yba.underlying5 (by kernel_rfl) h3
  obtain ⟨ja, jl, jc, J, rfl, hJ, _⟩ := argRow_of Yba.underlying27 Yba.underlying3 (by kernel_rfl) h4
  simp at e0 e1
  subst e0 e1
  exact ⟨NL, NR, ea, el, ec, pa, pl, pc, ja, jl, jc, E, K, J, rfl, bounds_u8 wl, bounds_u8 wr, hE, fun i hi => bounds_u8 (hEw i hi), hK, fun i hi => bounds_u8 (hKw i hi), hJ⟩

end Go.Proofs.Ybulkbbdc
