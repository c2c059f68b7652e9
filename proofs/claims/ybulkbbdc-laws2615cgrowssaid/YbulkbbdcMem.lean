/- Memory of the bipartite seat: rows of integers that fill a block; what is kept while a call writes its own blocks. -/
import Derived.Test.YbulkbbdcDigits
import Derived.Test.YbulkbbdcGraph
import Derived.Deep.QuietTactic
import Derived.BigQuiet
namespace Go.Proofs.Ybulkbbdc
open Go.RowKit Gr

theorem info3 : (Yba.prog.info? 3).map (fun i => (i.zero, i.size, i.bytes)) = some (some (.int .i64 0), 1, 8) := by kernel_rfl
theorem info4 : (Yba.prog.info? 4).map (fun i => (i.zero, i.size, i.bytes)) = some (some (.bool false), 1, 1) := by kernel_rfl
theorem info27 : (Yba.prog.info? 27).map (fun i => (i.zero, i.size, i.bytes)) = some (some (.slice none 0 0), 1, 24) := by kernel_rfl

/-- integers as cells -/
def icells (xs : List Int) : List Value := xs.map (Value.int .i64)
theorem icells_length (xs : List Int) : (icells xs).length = xs.length := by simp [icells]
theorem icells_append (xs ys : List Int) : icells (xs ++ ys) = icells xs ++ icells ys := by simp [icells]

theorem icells_at (xs : List Int) (i : Nat) (h : i < xs.length) : (icells xs)[i]? = some (.int .i64 (nth xs i)) := by
  simp [icells, nth, List.getD_eq_getElem?_getD, h]

/-- the block g is a row of cells of type e: just these -/
def RowAt (w : World) (g : Nat) (e : TypeId) (xs : List Value) : Prop := w.heap[g]? = some (.cells xs.toArray e (0, 0))

theorem RowAt.cell {w : World} {g : Nat} {e : TypeId} {xs : List Value} (h : RowAt w g e xs) (i : Nat) : w.cell? ⟨g, i, none⟩ = xs[i]? := by
  rw [cell_of_row w g i _ e (0, 0) h]
  simp

theorem RowAt.free {w : World} {g : Nat} {e : TypeId} {xs : List Value} (h : RowAt w g e xs) (i : Nat) : w.frozen? ⟨g, i, none⟩ = false := frozen_of_row w g i _ e h

theorem RowAt.lt {w : World} {g : Nat} {e : TypeId} {xs : List Value} (h : RowAt w g e xs) : g < w.heap.size := (Array.getElem?_eq_some_iff.1 h).1

theorem RowAt.set {w : World} {g : Nat} {e : TypeId} {xs : List Value} (h : RowAt w g e xs) (i : Nat) (v : Value) : RowAt (w.setCell ⟨g, i, none⟩ v) g e (xs.set i v) := by
  unfold RowAt
  rw [heap_setCell_same w g i _ e v h]
  simp

theorem RowAt.other {w : World} {g : Nat} {e : TypeId} {xs : List Value} (h : RowAt w g e xs) (a : Addr) (v : Value) (hne : g ≠ a.block) : RowAt (w.setCell a v) g e xs := by
  unfold RowAt
  rw [heap_setCell_other w a g v hne]
  exact h

theorem RowAt.below {B : Nat} {w w' : World} {g : Nat} {e : TypeId} {xs : List Value} (h : RowAt w g e xs) (hb : Below B w w') (hg : g < B) : RowAt w' g e xs := (hb.block g hg).trans h

/-- a row of integers -/
def IntsAt (w : World) (g : Nat) (xs : List Int) : Prop := RowAt w g 3 (icells xs)

theorem IntsAt.cell {w : World} {g : Nat} {xs : List Int} (h : IntsAt w g xs) {i : Nat} (hi : i < xs.length) : w.cell? ⟨g, i, none⟩ = some (.int .i64 (nth xs i)) := by
  rw [RowAt.cell h, icells_at xs i hi]

theorem IntsAt.free {w : World} {g : Nat} {xs : List Int} (h : IntsAt w g xs) (i : Nat) : w.frozen? ⟨g, i, none⟩ = false := RowAt.free h i

theorem IntsAt.set {w : World} {g : Nat} {xs : List Int} (h : IntsAt w g xs) (i : Nat) (x : Int) : IntsAt (w.setCell ⟨g, i, none⟩ (.int .i64 x)) g (xs.set i x) := by
  have := RowAt.set h i (.int .i64 x)
  unfold IntsAt
  have e : icells (xs.set i x) = (icells xs).set i (.int .i64 x) := by simp [icells, List.map_set]
  rw [e]
  exact this

/-- an owned row that fills its block -/
theorem rowAt_of_own {w : World} {base g n : Nat} {e : TypeId} {xs : List Value} (h : w.ownsRow base e 1 (.slice (some ⟨g, 0, none⟩) n n) n xs) : RowAt w g e xs ∧ base ≤ g := by
  rcases h.2 with ⟨h1, _⟩ | ⟨g', cap, cur, h1, hb, hh, _, _, hs, ht⟩
  · cases h1
  · simp at h1
    obtain ⟨rfl, rfl⟩ := h1
    refine ⟨?_, hb⟩
    unfold RowAt
    rw [hh]
    have : cur.toList = xs := by
      rw [← ht, List.take_of_length_le]
      simp [hs]
    rw [← this]

/-- WHAT IS KEPT: every block but those that 'ex' names -/
structure Kept (ex : Nat → Prop) (w w' : World) : Prop where
  os : w'.os = w.os
  tape : w'.tape = w.tape
  output : w'.output = w.output
  size : w.heap.size ≤ w'.heap.size
  block : ∀ k, ¬ ex k → w'.heap[k]? = w.heap[k]?

theorem Kept.refl (ex : Nat → Prop) (w : World) : Kept ex w w := ⟨rfl, rfl, rfl, Nat.le_refl _, fun _ _ => rfl⟩
theorem Kept.trans {ex : Nat → Prop} {a b c : World} (h : Kept ex a b) (k : Kept ex b c) : Kept ex a c :=
  ⟨k.os.trans h.os, k.tape.trans h.tape, k.output.trans h.output, Nat.le_trans h.size k.size, fun i hi => (k.block i hi).trans (h.block i hi)⟩
theorem Kept.mono {ex ex' : Nat → Prop} {w w' : World} (h : Kept ex w w') (hx : ∀ k, ex k → ex' k) : Kept ex' w w' := ⟨h.os, h.tape, h.output, h.size, fun k hk => h.block k fun hh => hk (hx k hh)⟩
theorem Kept.drew {ex : Nat → Prop} {a w : World} (h : Kept ex a w) : Kept ex a w.drew := ⟨h.os, h.tape, h.output, h.size, h.block⟩
theorem Kept.drewN {ex : Nat → Prop} {a w : World} (h : Kept ex a w) (n : Nat) : Kept ex a (w.drewN n) := ⟨h.os, h.tape, h.output, h.size, h.block⟩
theorem Kept.alloc {ex : Nat → Prop} {a w : World} (h : Kept ex a w) (hx : ex w.heap.size) (o : Obj) : Kept ex a (w.alloc o) := by
  refine h.trans ⟨rfl, rfl, rfl, by simp, fun k hk => ?_⟩
  have hne : k ≠ w.heap.size := fun e => hk (e ▸ hx)
  show (w.heap.push o)[k]? = _
  rw [Array.getElem?_push, if_neg hne]
theorem Kept.setCell {ex : Nat → Prop} {a w : World} (h : Kept ex a w) {p : Addr} (hp : ex p.block) (u : Value) : Kept ex a (w.setCell p u) :=
  h.trans ⟨rfl, rfl, rfl, by simp [World.setCell], fun k hk => heap_setCell_other w p k u (fun e => hk (e ▸ hp))⟩
theorem Kept.grown {ex : Nat → Prop} {a w w' : World} {r : Option Nat} (h : Kept ex a w) (hg : w.grownBy w' r) (hr : ∀ k, r = some k → ex k) (hn : ∀ k, w.heap.size ≤ k → ex k) : Kept ex a w' :=
  h.trans ⟨hg.os, hg.tape, hg.output, hg.size, fun k hk => by
    by_cases hl : k < w.heap.size
    · exact hg.block k hl (fun e => hk (hr k e.symm))
    · exact absurd (hn k (by omega)) hk⟩
theorem Kept.below {ex : Nat → Prop} {B : Nat} {w w' : World} (h : Kept ex w w') (hx : ∀ k, k < B → ¬ ex k) : Below B w w' := ⟨h.os, h.tape, h.output, h.size, fun k hk => h.block k (hx k hk)⟩
theorem Kept.of_below {B : Nat} {w w' : World} (h : Below B w w') : Kept (fun k => B ≤ k) w w' := ⟨h.os, h.tape, h.output, h.size, fun k hk => h.block k (by omega)⟩
theorem RowAt.kept {ex : Nat → Prop} {w w' : World} {g : Nat} {e : TypeId} {xs : List Value} (h : RowAt w g e xs) (hk : Kept ex w w') (hg : ¬ ex g) : RowAt w' g e xs := (hk.block g hg).trans h

theorem below_drewN {B : Nat} {a w : World} (h : Below B a w) (n : Nat) : Below B a (w.drewN n) := ⟨h.os, h.tape, h.output, h.size, h.block⟩

/-- A SLICE OF INTEGERS AS A VALUE: nil, or at the head of a block from 'lo' on and below 'hi'; its elements are xs -/
structure SlAt (w : World) (lo hi : Nat) (v : Value) (xs : List Int) : Prop where
  form : ∃ a cap, v = .slice a xs.length cap
  many : 0 < xs.length → ∃ g cap, v = .slice (some ⟨g, 0, none⟩) xs.length cap ∧ (lo ≤ g ∧ g < hi) ∧ ∀ i, i < xs.length → w.cell? ⟨g, i, none⟩ = some (.int .i64 (nth xs i))

theorem SlAt.below {B lo hi : Nat} {w w' : World} {v : Value} {xs : List Int} (h : SlAt w lo hi v xs) (hb : Below B w w') (hB : hi ≤ B) : SlAt w' lo hi v xs := by
  refine ⟨h.form, fun h0 => ?_⟩
  obtain ⟨g, cap, e, hg, hc⟩ := h.many h0
  exact ⟨g, cap, e, hg, fun i hi => (hb.cell (by show g < B; omega)).trans (hc i hi)⟩

theorem SlAt.kept {ex : Nat → Prop} {lo hi : Nat} {w w' : World} {v : Value} {xs : List Int} (h : SlAt w lo hi v xs) (hk : Kept ex w w') (hx : ∀ k, lo ≤ k → k < hi → ¬ ex k) : SlAt w' lo hi v xs := by
  refine ⟨h.form, fun h0 => ?_⟩
  obtain ⟨g, cap, e, hg, hc⟩ := h.many h0
  exact ⟨g, cap, e, hg, fun i hi => (World.cell?_of_block (w := w) (a := ⟨g, i, none⟩) (hk.block g (hx g hg.1 hg.2))).trans (hc i hi)⟩

theorem SlAt.wider {lo hi hi' : Nat} {w : World} {v : Value} {xs : List Int} (h : SlAt w lo hi v xs) (hh : hi ≤ hi') : SlAt w lo hi' v xs := by
  refine ⟨h.form, fun h0 => ?_⟩
  obtain ⟨g, cap, e, hg, hc⟩ := h.many h0
  exact ⟨g, cap, e, ⟨hg.1, by omega⟩, hc⟩

theorem SlAt.lower {lo lo' hi : Nat} {w : World} {v : Value} {xs : List Int} (h : SlAt w lo hi v xs) (hh : lo' ≤ lo) : SlAt w lo' hi v xs := by
  refine ⟨h.form, fun h0 => ?_⟩
  obtain ⟨g, cap, e, hg, hc⟩ := h.many h0
  exact ⟨g, cap, e, ⟨by omega, hg.2⟩, hc⟩

theorem slAt_nil (w : World) (lo hi : Nat) : SlAt w lo hi (.slice none 0 0) [] := ⟨⟨none, 0, rfl⟩, fun h => by simp at h⟩

theorem slAt_of_own {w : World} {base n : Nat} {v : Value} {xs : List Int} (h : w.ownsRow base 3 1 v n (icells xs)) : SlAt w base w.heap.size v xs := by
  have hn : n = xs.length := by have := h.1; rw [icells_length] at this; omega
  subst hn
  rcases h.2 with ⟨rfl, h0⟩ | ⟨g, cap, cur, rfl, hb, hh, _⟩
  · exact ⟨⟨none, 0, by rw [h0]⟩, fun h1 => by omega⟩
  · refine ⟨⟨_, cap, rfl⟩, fun _ => ⟨g, cap, rfl, ⟨hb, (Array.getElem?_eq_some_iff.1 hh).1⟩, fun i hi => ?_⟩⟩
    have := h.cells (g := g) rfl i _ (icells_at xs i hi)
    rw [Addr.add_lit] at this
    simpa using this

theorem slAt_of_ints {w : World} {g lo hi : Nat} {xs : List Int} (h : IntsAt w g xs) (hl : lo ≤ g) (hg : g < hi) (cap : Nat) : SlAt w lo hi (.slice (some ⟨g, 0, none⟩) xs.length cap) xs :=
  ⟨⟨_, cap, rfl⟩, fun _ => ⟨g, cap, rfl, ⟨hl, hg⟩, fun _ hi => h.cell hi⟩⟩

end Go.Proofs.Ybulkbbdc
