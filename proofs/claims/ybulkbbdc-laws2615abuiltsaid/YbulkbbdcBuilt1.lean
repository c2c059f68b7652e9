/- LawS2615ABuilt (function 4): the walk. -/
import Derived.Test.YbulkbbdcBuilt0
import Derived.ProofKit
import Derived.OpenShut
namespace Go.Proofs.Ybulkbbdc.lawS2615ABuilt
open Go.ChangeShapes Go.WideShapes Go.ChangeAt Go.RowKit
set_option linter.unusedVariables false

/-- WHAT THE WALK IS TOLD OF A SLICE OF INTEGERS THAT CAME IN: it is nil; or it leads to a row of 'cap' cells, the numbers 'zs' (the first 'len' are its elements, the rest its spare room), each fitting its kind. -/
def IsRow (k : IntKind) (w : World) (a : Option Addr) (len cap : Nat) (zs : List Int) : Prop :=
  (a = none ∧ len = 0 ∧ cap = 0 ∧ zs = []) ∨
  ∃ x, a = some x ∧ len ≤ cap ∧ cap ≤ maxLen ∧ zs.length = cap ∧ (∀ i, i < zs.length → w.cell? (x.add i) = some (.int k (zs.getD i 0))) ∧ ∀ n ∈ zs, (Lit.int k n).wf = true

theorem info5 : (Yba.prog.info? 5).map (fun i => (i.zero, i.size, i.bytes)) = some (some (.int .u8 0), 1, 1) := by kernel_rfl

/-- what a round of the loop does -/
theorem push_step {w wr w2 : World} {z0 : List Int} {k len0 : Nat} {v v' : Value} {zk : Int} {o : Obj} (hzl : len0 ≤ z0.length) (hlt : k < len0) (hz : z0[k]?.getD 0 = zk) (h0 : 0 ≤ zk)
    (hown : wr.ownsRow w.heap.size 5 1 v k (bcells (digs z0 k))) (hbel : Below w.heap.size w wr)
    (hown' : w2.ownsRow w.heap.size 5 1 v' (k + 1) (bcells (digs z0 k) ++ [.int .u8 (48 + zk % 10)])) (hg : (wr.alloc o).grownBy w2 v.ownBlock) :
    w2.ownsRow w.heap.size 5 1 v' (k + 1) (bcells (digs z0 (k + 1))) ∧ Below w.heap.size w w2 := by
  refine ⟨?_, (hbel.alloc hbel.size o).grown hg (by have := hbel.size; simp; omega) (fun g hg => (hown.lt g hg).1)⟩
  have hk : k < z0.length := by omega
  rw [digs_succ z0 k hk, bcells_append]
  have e : z0[k] = zk := by rw [← hz]; simp [hk]
  have : bcells [UInt8.ofNat (48 + z0[k].toNat % 10)] = [Value.int .u8 (48 + zk % 10)] := by
    simp only [bcells, List.map_cons, List.map_nil, dig_byte, e]
    congr 2
    omega
  rw [this]
  exact hown'

theorem size_le (l : List UInt8) (c : UInt8) (s : ByteArray) (k : Nat) (h : l.length = k) (h1 : (k : Int) ≤ 4096) (h2 : (s.size : Int) ≤ 4096) : (ByteArray.mk (l ++ [c] ++ s.data.toList).toArray).size ≤ maxLen := by
  have e : (ByteArray.mk (l ++ [c] ++ s.data.toList).toArray).size = l.length + 1 + s.size := by
    show (l ++ [c] ++ s.data.toList).toArray.size = _
    have h3 : s.data.size = s.size := rfl
    simp only [List.size_toArray, List.length_append, List.length_cons, List.length_nil, Array.length_toList, h3]
  rw [e]
  unfold maxLen
  omega

/-! ### STEP 1: THE WALK: the Go text returns true, AND WRITES NOTHING THAT WAS THERE: 'Below w.heap.size w w'' (Derived/Below.lean: '.refl', '.alloc', '.drew', '.setCell' at a new block, '.trans'). Open each 'IsRow' by 'rcases' AHEAD of 'go_enter'; part every test ahead of the walk. -/
theorem walk (a0 : Option Addr) (len0 cap0 : Nat) (z0 : List Int) (a1 : Bool) (a2 : Int) (a3 : ByteArray) (w : World) (w0 : IsRow .u8 w a0 len0 cap0 z0) (w2 : (Lit.int .u8 a2).wf = true) (w3 : a3.size ≤ maxLen) :
    Calls Yba.prog 4 #[.slice a0 len0 cap0, .bool a1, .int .u8 a2, .string a3] w fun e w' => e = .returned (.bool true) ∧ Below w.heap.size w w' := by
  have hzl : len0 ≤ z0.length := by
    rcases w0 with ⟨_, rfl, _, rfl⟩ | ⟨x, _, hl, _, hz, _⟩
    · simp
    · omega
  have hrow : ∀ k, k < len0 → ∃ b off, a0 = some ⟨b, off, none⟩ ∧ b < w.heap.size ∧ w.cell? ⟨b, off + k, none⟩ = some (.int .u8 (z0[k]?.getD 0)) ∧ 0 ≤ z0[k]?.getD 0 ∧ z0[k]?.getD 0 ≤ 255 := by
    intro k hk
    rcases w0 with ⟨_, rfl, _, rfl⟩ | ⟨x, rfl, hl, _, hz, hcell, hwz⟩
    · omega
    · obtain ⟨b, off, rfl, hc⟩ := ints_at hcell (by omega)
      have h1 := hc k (by omega)
      exact ⟨b, off, rfl, World.block_lt_of_cell? w _ h1, by simpa [List.getD] using h1, range_u8 hwz k⟩
  have Hrow := hide hrow
  have hk2 := bounds_u8 w2
  clear hrow w0 w2
  unfold maxLen at w3
  by_cases hb1 : (4096 : Int) < (len0 : Int)
  · go_enter Yba.func4, Yba.ntmps4
    go_wp2
    go_ret
    exact ⟨rfl, Below.refl _ _⟩
  by_cases hb2 : (4096 : Int) < (a3.size : Int)
  · go_enter Yba.func4, Yba.ntmps4
    go_wp2
    go_ret
    exact ⟨rfl, Below.refl _ _⟩
  obtain ⟨i0, hi, hz0, hz1, hz2⟩ := info_parts info5
  go_enter Yba.func4, Yba.ntmps4
  go_wp2_with (at_make; refine wpList_make_own _ rfl _ _ 24 rfl w.heap.size 5 i0 (.int .u8 0) 1 Yba.underlying24 hi hz0 hz1 _ _ _ (len0 + 1 + a3.size) rfl rfl (by omega) (by rw [hz2]; omega) (by unfold maxLen; omega) (Nat.le_refl _) ?_)
  intro w1 hown hgrow
  have hbel : Below w.heap.size w w1 := (Below.refl _ _).grown hgrow (Nat.le_refl _) (by intro k hk; cases hk)
  have hB : w.heap.size ≤ w1.heap.size := hgrow.size
  clear hgrow
  go_wp2_with fail
  go_loopw [9, 10] (fun v i wr => ∃ k : Nat, k ≤ len0 ∧ i = .int .i64 k ∧ wr.ownsRow w.heap.size 5 1 v k (bcells (digs z0 k)) ∧ Below w.heap.size w wr) (fun _ i _ => len0 - (intOf i).toNat)
  case atStart => exact ⟨0, Nat.zero_le _, rfl, hown, hbel⟩
  case round =>
    clear hown hbel hB
    obtain ⟨k, hk, rfl, hown, hbel⟩ := hrel
    by_cases hlt : k < len0
    · obtain ⟨b, off, rfl, hbs, hcell, hn0, hn1⟩ := (unhide Hrow) k hlt
      have hc : wr.cell? ⟨b, off + k, none⟩ = some (.int .u8 (z0[k]?.getD 0)) := (hbel.cell hbs).trans hcell
      clear hcell
      generalize hzk : z0[k]?.getD 0 = zk at *
      have Hzk := hide hzk
      clear hzk
      have hBr : w.heap.size ≤ wr.heap.size := hbel.size
      go_wp2_with (at_builtin; refine wpList_append_own _ rfl _ _ 24 rfl w.heap.size 5 i0 (.int .u8 0) 1 1 Yba.underlying24 hi hz0 hz1 hz2 rfl (by decide) _ k _ rfl (hown.alloc _) ⟨wr.heap.size, 0, none⟩ 1 1 [.int .u8 (48 + zk % 10)] rfl rfl (cell_one_new _ _ _) ?c2 (by unfold maxLen; omega) (by omega) ?c5 ?_)
      case c2 => intro u hu; simp at hu; subst hu; rfl
      case c5 => simp; omega
      intro v' w2 hown' hgrow _
      have R := push_step hzl hlt (unhide Hzk) hn0 hown hbel hown' hgrow
      clear hown' hgrow hown hbel
      go_wp2
      go_roundw
      case rel => exact ⟨k + 1, by omega, by go_num, R.1, R.2⟩
      case measure => simp [intOf]; omega
    · have hke : k = len0 := by omega
      subst hke
      have hBr : w.heap.size ≤ wr.heap.size := hbel.size
      have hdl : (digs z0 k).length = k := digs_length z0 k hzl
      cases a1 with
      | false =>
        have hconv := conv_own hown
        go_wp2_with fail
        refine (lead_calls _ _ (by simp [ByteArray.size, maxLen]; omega)).mono ?_
        rintro e w' ⟨⟨n, rfl, hn⟩, rfl⟩
        have hne : n = k := by
          have := lead_built (digs z0 k) [] (digs_dig z0 k) (by intro b hb; simp at hb) n (by simpa using hn)
          omega
        subst hne
        clear hconv hn
        go_wp2
        go_ret
        exact ⟨by simp, hbel⟩
      | true =>
        go_wp2_with fail
        refine (nondigit_calls a2 _ hk2.1 hk2.2).mono ?_
        rintro e w' ⟨⟨c, rfl, hc⟩, rfl⟩
        have Hc := hide hc
        clear hc
        go_wp2_with (at_builtin; refine wpList_append_own _ rfl (.tmp 44) (.tmp 47) 24 rfl w.heap.size 5 i0 (.int .u8 0) 1 1 Yba.underlying24 hi hz0 hz1 hz2 rfl (by decide) _ k _ rfl (hown.alloc _) ⟨w'.heap.size, 0, none⟩ 1 1 [.int .u8 c.toNat] rfl rfl (cell_one_new _ _ _) ?d2 (by unfold maxLen; omega) (by omega) ?d5 ?_)
        case d2 => intro u hu; simp at hu; subst hu; rfl
        case d5 => simp; omega
        intro v1 w2 hown1 hgrow1 _
        have hown1b : w2.ownsRow w.heap.size 5 1 v1 (k + 1) (bcells (digs z0 k ++ [c])) := by rw [bcells_append]; exact hown1
        have hbel1 : Below w.heap.size w w2 := (hbel.alloc hBr _).grown hgrow1 (by simp; omega) (fun g hg => (hown.lt g hg).1)
        clear hown1 hgrow1 hown hbel
        have hBr2 : w.heap.size ≤ w2.heap.size := hbel1.size
        go_wp2_with (at_builtin; refine Lib.wpList_append_own_string _ rfl (.tmp 49) (.tmp 50) 24 9 rfl w.heap.size 5 i0 Yba.underlying24 Yba.underlying9 hi hz0 hz1 hz2 _ (k + 1) _ rfl hown1b a3 rfl (by unfold maxLen; omega) (by omega) hBr2 ?_)
        intro v2 w3 hown2 hgrow2 _
        have hown2b : w3.ownsRow w.heap.size 5 1 v2 (k + 1 + a3.size) (bcells (digs z0 k ++ [c] ++ a3.data.toList)) := by rw [bcells_append]; exact hown2
        have hbel2 : Below w.heap.size w w3 := hbel1.grown hgrow2 hBr2 (fun g hg => (hown1b.lt g hg).1)
        obtain ⟨S, hS⟩ : ∃ S : ByteArray, S = ⟨(digs z0 k ++ [c] ++ a3.data.toList).toArray⟩ := ⟨_, rfl⟩
        have hconv := conv_own hown2b
        rw [← hS] at hconv
        have hSs : S.size ≤ maxLen := by rw [hS]; exact size_le _ _ _ _ hdl (by omega) (by omega)
        have HS := hide hS
        clear hown2 hgrow2 hown1b hbel1 hS
        go_wp2_with fail
        refine (lead_calls S _ hSs).mono ?_
        rintro e w' ⟨⟨n, rfl, hn⟩, rfl⟩
        have hne : n = k := by
          have := lead_built (digs z0 k) ([c] ++ a3.data.toList) (digs_dig z0 k) (by intro b hb; simp at hb; subst hb; exact unhide Hc) n (by rw [← List.append_assoc, ← unhide HS]; exact hn)
          omega
        subst hne
        clear hconv hn
        go_wp2
        go_ret
        exact ⟨by simp, hbel2⟩

end Go.Proofs.Ybulkbbdc.lawS2615ABuilt
