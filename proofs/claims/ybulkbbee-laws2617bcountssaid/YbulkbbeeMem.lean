/- Memory of the counting seat: rows that fill a block; a slice of strings that came in. -/
import Derived.Test.YbulkbbeeRows
import Derived.WalkKit
import Derived.WalkSpells
import Derived.WalkLawsBesides
import Derived.Deep.QuietTactic
import Derived.BigQuiet
namespace Go.Proofs.Ybulkbbee
open Go.RowKit

theorem hide {p : Prop} (h : p) : Hid p := h
theorem unhide {p : Prop} (h : Hid p) : p := h

/-- the block g is a row of cells of type e: just these -/
def RowAt (w : World) (g : Nat) (e : TypeId) (xs : List Value) : Prop := w.heap[g]? = some (.cells xs.toArray e (0, 0))

theorem RowAt.cell {w : World} {g : Nat} {e : TypeId} {xs : List Value} (h : RowAt w g e xs) (i : Nat) : w.cell? ⟨g, i, none⟩ = xs[i]? := by
  rw [cell_of_row w g i _ e (0, 0) h]
  simp
theorem RowAt.free {w : World} {g : Nat} {e : TypeId} {xs : List Value} (h : RowAt w g e xs) (i : Nat) : w.frozen? ⟨g, i, none⟩ = false := frozen_of_row w g i _ e h
theorem RowAt.lt {w : World} {g : Nat} {e : TypeId} {xs : List Value} (h : RowAt w g e xs) : g < w.heap.size := (Array.getElem?_eq_some_iff.1 h).1
theorem RowAt.set {w : World} {g : Nat} {e : TypeId} {xs : List Value} (h : RowAt w g e xs) (i : Nat) (v : Value) : RowAt (w.setCell ⟨g, i, none⟩ v) g e (xs.set i v) := by
  unfold RowAt
  rw [heap_setCell_same w g i _ e v h]
  simp
theorem RowAt.other {w : World} {g : Nat} {e : TypeId} {xs : List Value} (h : RowAt w g e xs) (a : Addr) (v : Value) (hne : g ≠ a.block) : RowAt (w.setCell a v) g e xs := by
  unfold RowAt
  rw [heap_setCell_other w a g v hne]
  exact h
theorem RowAt.below {B : Nat} {w w' : World} {g : Nat} {e : TypeId} {xs : List Value} (h : RowAt w g e xs) (hb : Below B w w') (hg : g < B) : RowAt w' g e xs := (hb.block g hg).trans h
theorem below_drewN {B : Nat} {a w : World} (h : Below B a w) (n : Nat) : Below B a (w.drewN n) := ⟨h.os, h.tape, h.output, h.size, h.block⟩

/-- a cell written and written back: the very same world -/
theorem set_back {w : World} {g : Nat} {e : TypeId} {xs : List Value} {i : Nat} {x : Value} (h : RowAt w g e xs) (hx : xs[i]? = some x) (y : Value) : (w.setCell ⟨g, i, none⟩ y).setCell ⟨g, i, none⟩ x = w := by
  have h1 := RowAt.set (RowAt.set h i y) i x
  have hi : i < xs.length := (List.getElem?_eq_some_iff.1 hx).1
  have e1 : (xs.set i y).set i x = xs := by
    rw [List.set_set]
    apply List.ext_getElem?
    intro j
    by_cases hj : i = j
    · subst hj; rw [List.getElem?_set_self hi, hx]
    · rw [List.getElem?_set_ne hj]
  rw [e1] at h1
  have hh : ((w.setCell ⟨g, i, none⟩ y).setCell ⟨g, i, none⟩ x).heap = w.heap := by
    apply Array.ext_getElem?
    intro k
    by_cases hk : k = g
    · subst hk
      exact h1.trans h.symm
    · rw [heap_setCell_other _ _ _ _ hk, heap_setCell_other _ _ _ _ hk]
  have hw : (w.setCell ⟨g, i, none⟩ y).setCell ⟨g, i, none⟩ x = { w with heap := ((w.setCell ⟨g, i, none⟩ y).setCell ⟨g, i, none⟩ x).heap } := rfl
  rw [hw, hh]

/-- WHAT IS KEPT: every block but those that 'ex' names -/
structure Kept (ex : Nat → Prop) (w w' : World) : Prop where
  os : w'.os = w.os
  tape : w'.tape = w.tape
  output : w'.output = w.output
  size : w.heap.size ≤ w'.heap.size
  block : ∀ k, ¬ ex k → w'.heap[k]? = w.heap[k]?

theorem Kept.refl (ex : Nat → Prop) (w : World) : Kept ex w w := ⟨rfl, rfl, rfl, Nat.le_refl _, fun _ _ => rfl⟩
theorem Kept.trans {ex : Nat → Prop} {a b c : World} (h : Kept ex a b) (k : Kept ex b c) : Kept ex a c :=
  ⟨k.os.trans h.os, k.tape.trans h.tape, k.output.trans h.output, Nat.le_trans h.size k.size, fun i hi => (k.block i hi).trans (h.block i hi)⟩
theorem Kept.mono {ex ex' : Nat → Prop} {w w' : World} (h : Kept ex w w') (hx : ∀ k, ex k → ex' k) : Kept ex' w w' := ⟨h.os, h.tape, h.output, h.size, fun k hk => h.block k fun hh => hk (hx k hh)⟩
theorem Kept.drewN {ex : Nat → Prop} {a w : World} (h : Kept ex a w) (n : Nat) : Kept ex a (w.drewN n) := ⟨h.os, h.tape, h.output, h.size, h.block⟩
theorem Kept.alloc {ex : Nat → Prop} {a w : World} (h : Kept ex a w) (hx : ex w.heap.size) (o : Obj) : Kept ex a (w.alloc o) := by
  refine h.trans ⟨rfl, rfl, rfl, by simp, fun k hk => ?_⟩
  have hne : k ≠ w.heap.size := fun e => hk (e ▸ hx)
  show (w.heap.push o)[k]? = _
  rw [Array.getElem?_push, if_neg hne]
theorem Kept.setCell {ex : Nat → Prop} {a w : World} (h : Kept ex a w) {p : Addr} (hp : ex p.block) (u : Value) : Kept ex a (w.setCell p u) :=
  h.trans ⟨rfl, rfl, rfl, by simp [World.setCell], fun k hk => heap_setCell_other w p k u (fun e => hk (e ▸ hp))⟩
theorem Kept.grown {ex : Nat → Prop} {a w w' : World} {r : Option Nat} (h : Kept ex a w) (hg : w.grownBy w' r) (hr : ∀ k, r = some k → ex k) (hn : ∀ k, w.heap.size ≤ k → ex k) : Kept ex a w' :=
  h.trans ⟨hg.os, hg.tape, hg.output, hg.size, fun k hk => by
    by_cases hl : k < w.heap.size
    · exact hg.block k hl (fun e => hk (hr k e.symm))
    · exact absurd (hn k (by omega)) hk⟩
theorem Kept.below {ex : Nat → Prop} {B : Nat} {w w' : World} (h : Kept ex w w') (hx : ∀ k, k < B → ¬ ex k) : Below B w w' := ⟨h.os, h.tape, h.output, h.size, fun k hk => h.block k (hx k hk)⟩
theorem RowAt.kept {ex : Nat → Prop} {w w' : World} {g : Nat} {e : TypeId} {xs : List Value} (h : RowAt w g e xs) (hk : Kept ex w w') (hg : ¬ ex g) : RowAt w' g e xs := (hk.block g hg).trans h

theorem own_form {w : World} {base n : Nat} {e : TypeId} {v : Value} {xs : List Value} (h : w.ownsRow base e 1 v n xs) : ∃ a c, v = .slice a n c := by
  rcases h.2 with ⟨rfl, h0⟩ | ⟨g, cap, cur, rfl, _⟩
  · exact ⟨none, 0, by rw [h0]⟩
  · exact ⟨_, cap, rfl⟩

theorem one_new {w : World} {s : Nat} (hs : w.heap.size = s) (x : Value) (e : TypeId) : ∀ j u, [x][j]? = some u → (w.alloc (.cells #[x] e)).cell? ((⟨s, 0, none⟩ : Addr).add j) = some u := by
  subst hs
  exact cell_one_new _ _ _

theorem oneCell_str (x : ByteArray) : ∀ u, u ∈ [Value.string x] → u.oneCell' = true := by
  intro u hu
  simp at hu
  subst hu
  rfl

/-- a slice of strings that came in -/
structure ArgStrs (w : World) (a : Option Addr) (len : Nat) (ss : List ByteArray) : Prop where
  ln : ss.length = len
  small : ∀ s, s ∈ ss → s.size ≤ maxLen
  many : 0 < len → ∃ b off, a = some ⟨b, off, none⟩ ∧ b < w.heap.size ∧ ∀ i (h : i < ss.length), w.cell? ⟨b, off + i, none⟩ = some (.string ss[i])

theorem ArgStrs.below {w w' : World} {a : Option Addr} {len : Nat} {ss : List ByteArray} (h : ArgStrs w a len ss) (hb : Below w.heap.size w w') : ArgStrs w' a len ss := by
  refine ⟨h.ln, h.small, fun h0 => ?_⟩
  obtain ⟨b, off, e, hlt, hc⟩ := h.many h0
  exact ⟨b, off, e, Nat.lt_of_lt_of_le hlt hb.size, fun i hi => (hb.cell hlt).trans (hc i hi)⟩

theorem ArgStrs.drewN {w : World} {a : Option Addr} {len : Nat} {ss : List ByteArray} (h : ArgStrs w a len ss) (n : Nat) : ArgStrs (w.drewN n) a len ss := ⟨h.ln, h.small, h.many⟩

end Go.Proofs.Ybulkbbee
