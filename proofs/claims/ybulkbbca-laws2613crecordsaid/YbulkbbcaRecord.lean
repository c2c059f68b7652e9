/- LawS2613CRecord: the row, out of the walk (the frame after the guide's template). -/
import Derived.Test.YbulkbbcaRows
import Derived.Test.YbulkbbcaWalk
import Derived.WalkKit
import Derived.ProofKit
import Derived.OpenShut
import Derived.ChangeOld
import Derived.Below
import Derived.Deep.SlicePairs
namespace Go.Proofs.Ybulkbbca.lawS2613CRecord
open Go.ChangeShapes Go.WideShapes Go.ChangeAt Go.RowKit
set_option linter.unusedVariables false

theorem own : ownKnob Yba.prog.godebug = none := by kernel_rfl
theorem laidOut : laidOutB Yba.prog = true := by kernel_rfl

/-- a slice of pairs that is read, as the walk wants it -/
theorem arg_of {H : Type} {enc : TypeId × Value → H} {W : World} {n : Nat} {a : Option Addr} {len cap : Nat} {y : DataW H × List MemPlace} (h : DataW.trod enc Yba.prog W 0 (fun _ => true) true n 29 [.slice a len cap] = some y) :
    ∃ ss : List (Int × Int), ss.length = len ∧ ArgAt W a ss ∧ ∀ p, p ∈ ss → 0 ≤ p.1 ∧ p.1 ≤ 255 := by
  rcases Deep.open_slice_pairs Yba.underlying29 Yba.underlying100 (by kernel_rfl) rfl rfl (by kernel_rfl) (by kernel_rfl) h with ⟨hcs, _⟩ | ⟨x, l, c, m, f, V0, V1, D0, D1, P0, P1, hcs, _, hl, hm, hmm, _, hcell⟩
  · simp at hcs
    obtain ⟨rfl, rfl, rfl⟩ := hcs
    exact ⟨[], rfl, (by intro j hj; cases hj), (by intro p hp; cases hp)⟩
  · simp at hcs
    obtain ⟨rfl, rfl, rfl⟩ := hcs
    simp at hmm
    subst hmm
    have each : ∀ i, i < len → W.cell? (x.add (i * 2)) = some (.int .u8 (intOf (V0 i))) ∧ W.cell? (x.add (i * 2 + 1)) = some (.int .i64 (intOf (V1 i))) ∧ 0 ≤ intOf (V0 i) ∧ intOf (V0 i) ≤ 255 := by
      intro i hi
      obtain ⟨h0, h1, h2, h3⟩ := hcell i (by omega)
      obtain ⟨z0, e0, _, w0⟩ := DataW.trod_int Yba.underlying5 h2
      obtain ⟨z1, e1, _, w1⟩ := DataW.trod_int Yba.underlying3 h3
      simp at e0 e1
      rw [e0] at h0
      rw [e1] at h1
      rw [e0, e1]
      have hb := bounds_u8 w0
      exact ⟨h0, h1, hb.1, hb.2⟩
    refine ⟨(List.range len).map fun i => (intOf (V0 i), intOf (V1 i)), by simp, ?_, ?_⟩
    · intro j hj
      have hj' : j < len := by simpa using hj
      obtain ⟨h0, h1, _, _⟩ := each j hj'
      have hz := (each 0 (by omega)).1
      obtain ⟨b, off, spot⟩ := x
      have hspot : spot = none := by simpa [Addr.add] using World.cell?_spot hz
      subst hspot
      refine ⟨b, off, rfl, ?_, ?_, ?_⟩
      · have := World.block_lt_of_cell? W _ h0
        simpa [Addr.add_lit] using this
      · rw [Addr.add_lit] at h0
        simpa using h0
      · rw [Addr.add_lit] at h1
        simpa [Nat.add_assoc] using h1
    · intro p hp
      simp at hp
      obtain ⟨i, hi, rfl⟩ := hp
      obtain ⟨_, _, h2, h3⟩ := each i hi
      exact ⟨h2, h3⟩

set_option maxRecDepth 100000 in
theorem lifted (os : Os) (started : os.Started) (H : Type) (enc : TypeId × Value → H) :
    ReturnsInHanded {} Yba.checked os 5 .any (Rows.lawS2613CRecordSpec.pre6 enc Yba.prog Yba.f5 Rows.lawS2613CRecordRow.domain false) (Rows.lawS2613CRecordSpec.post enc Yba.prog Yba.f5 false true false false) := by
  refine returnsInHanded_of_change (C := Yba.checked) own started (by kernel_rfl) Yba.func5
    (ChangeSpec.witness6 (enc := enc) (C := Yba.checked) false ⟨#[], #[.slice none 0 0, .int .u8 0, .bool false], []⟩ 8 (by kernel_rfl) (by kernel_rfl) (by kernel_rfl) (by kernel_rfl)) ?_
  intro W base args ds gs before hval0 hW hcnd _
  have hval : ∀ (j : Nat) t v, Yba.f5.params[j]? = some t → args[j]? = some v → Value.okWide Yba.prog W .any base t v := hval0
  have hW' := hW
  obtain ⟨p, q, hA0, hV, rfl, hfz, hnd⟩ := hW
  have hA : DataW.TrodAll enc Yba.prog W 0 (fun _ => true) true Yba.f5.params.toList args.toList ds p := hA0
  rw [Yba.params5] at hA hval
  obtain ⟨v0, vs0, d0, ds0, p0, q0, hargs, rfl, rfl, h0, r0⟩ := trodAll_cons hA
  obtain ⟨v1, vs1, d1, ds1, p1, q1, rfl, rfl, rfl, h1, r1⟩ := trodAll_cons r0
  obtain ⟨v2, vs2, d2, ds2, p2, q2, rfl, rfl, rfl, h2, r2⟩ := trodAll_cons r1
  obtain ⟨rfl, rfl, rfl⟩ := trodAll_nil r2
  obtain rfl : args = #[v0, v1, v2] := by cases args; simp_all
  obtain ⟨rfl, rfl⟩ := trodVars_none hV
  obtain ⟨a0, len0, cap0, rfl⟩ := okWide_slice Yba.underlying29 (hval 0 29 v0 rfl rfl)
  have k0 := h0
  have lt0 : ∀ x ∈ p0, x.block < W.heap.size := by obtain ⟨m, hm⟩ := k0; exact DataW.trod_lt m _ _ _ hm
  obtain ⟨ss, rfl, harg, hss⟩ : ∃ ss : List (Int × Int), ss.length = len0 ∧ ArgAt W a0 ss ∧ ∀ p, p ∈ ss → 0 ≤ p.1 ∧ p.1 ≤ 255 := by
    obtain ⟨fuel, hf⟩ := h0
    exact arg_of (y := (d0, p0)) (by simpa [Value.cells] using hf)
  obtain ⟨a1, rfl, rfl, rfl, w1⟩ := open_int Yba.underlying5 (hval 1 5 v1 rfl rfl) h1
  obtain ⟨a2, rfl, rfl, rfl⟩ := open_bool Yba.underlying4 (hval 2 4 v2 rfl rfl) h2
  clear hA0 hval0
  refine (law_calls a0 cap0 ss a1 a2 W harg (bounds_u8 w1) hss).mono fun e W' ⟨he, bel⟩ => ?_
  subst he
  exact ⟨_, rfl, _, _, _, [], _, [], hW', trodAll_mk1 (shut_bool Yba.underlying4 _), (trodAll_cons_mk (Below.trod laidOut (by kernel_rfl) (of_decide_eq_true (by kernel_rfl)) k0 bel lt0) (trodAll_cons_mk (shut_int Yba.underlying5 w1) (trodAll_cons_mk (shut_bool Yba.underlying4 _) trodAll_mk0))), rfl, bel.frame _, fun h => by cases h⟩

theorem over : Rows.lawS2613CRecordRow.holds Yba.pinned (OpenSpec.ofChange Rows.lawS2613CRecordSpec) :=
  OpenClaim.holds_of_wide 5 Yba.f5 rfl rfl rfl rfl rfl rfl rfl ⟨rfl, rfl, rfl, rfl, rfl⟩ rfl rfl rfl rfl rfl (by kernel_rfl) Yba.func5 (by kernel_rfl)
    (of_decide_eq_true (by kernel_rfl)) (by unfold Func.isWrapper; first | (rw [if_pos (by decide +kernel)]; kernel_rfl) | (rw [if_neg (by decide +kernel)]; exact ⟨rfl, rfl⟩))
    (fun os started H enc _ => lifted os started H enc)

/-- THE STATEMENT -/
theorem proved : Rows.LawS2613CRecordSaid := over
end Go.Proofs.Ybulkbbca.lawS2613CRecord
