/- Memory of the saved-contacts seat: rows that fill a block; what is kept; the cells of an ID, of a saved contact. -/
import Derived.Test.YbulkbbcaRows
import Derived.WalkKit
import Derived.WalkSpells
import Derived.WalkLawsBesides
import Derived.Deep.QuietTactic
import Derived.BigQuiet
import Derived.Deep.MidRow
import Derived.Deep.RegionHeld3
namespace Go.Proofs.Ybulkbbca
open Go.RowKit

theorem hide {p : Prop} (h : p) : Hid p := h
theorem unhide {p : Prop} (h : Hid p) : p := h

/-- the block g is a row of cells of type e: just these -/
def RowAt (w : World) (g : Nat) (e : TypeId) (xs : List Value) : Prop := w.heap[g]? = some (.cells xs.toArray e (0, 0))

theorem RowAt.cell {w : World} {g : Nat} {e : TypeId} {xs : List Value} (h : RowAt w g e xs) (i : Nat) : w.cell? ⟨g, i, none⟩ = xs[i]? := by
  rw [cell_of_row w g i _ e (0, 0) h]
  simp
theorem RowAt.free {w : World} {g : Nat} {e : TypeId} {xs : List Value} (h : RowAt w g e xs) (i : Nat) : w.frozen? ⟨g, i, none⟩ = false := frozen_of_row w g i _ e h
theorem RowAt.lt {w : World} {g : Nat} {e : TypeId} {xs : List Value} (h : RowAt w g e xs) : g < w.heap.size := (Array.getElem?_eq_some_iff.1 h).1
theorem RowAt.set {w : World} {g : Nat} {e : TypeId} {xs : List Value} (h : RowAt w g e xs) (i : Nat) (v : Value) : RowAt (w.setCell ⟨g, i, none⟩ v) g e (xs.set i v) := by
  unfold RowAt
  rw [heap_setCell_same w g i _ e v h]
  simp
theorem RowAt.other {w : World} {g : Nat} {e : TypeId} {xs : List Value} (h : RowAt w g e xs) (a : Addr) (v : Value) (hne : g ≠ a.block) : RowAt (w.setCell a v) g e xs := by
  unfold RowAt
  rw [heap_setCell_other w a g v hne]
  exact h
theorem RowAt.below {B : Nat} {w w' : World} {g : Nat} {e : TypeId} {xs : List Value} (h : RowAt w g e xs) (hb : Below B w w') (hg : g < B) : RowAt w' g e xs := (hb.block g hg).trans h
theorem RowAt.range {w : World} {g : Nat} {e : TypeId} {xs : List Value} (h : RowAt w g e xs) (o : Nat) (cs : List Value) (hc : ∀ j v, cs[j]? = some v → xs[o + j]? = some v) : w.rangeAt g o cs :=
  fun j v hv => by rw [h.cell]; exact hc j v hv
theorem RowAt.there {w : World} {g : Nat} {e : TypeId} {xs : List Value} (h : RowAt w g e xs) (o n : Nat) (hn : o + n ≤ xs.length) : w.there g o n :=
  fun j hj => ⟨by rw [h.cell, List.getElem?_eq_getElem (by omega)]; rfl, h.free _⟩
theorem below_drewN {B : Nat} {a w : World} (h : Below B a w) (n : Nat) : Below B a (w.drewN n) := ⟨h.os, h.tape, h.output, h.size, h.block⟩

/-- bytes as cells -/
def u8s (xs : List Int) : List Value := xs.map (Value.int .u8)
/-- the ID whose first byte is k, the others 0 -/
def idn (k : Int) : List Int := k :: List.replicate 31 0
def idc (k : Int) : List Value := u8s (idn k)
/-- what lies between the ID and the count of failures -/
def midc : List Value := [.int .u64 0, .int .u64 0, .pointer none, .int .u16 0] ++ u8s (List.replicate 32 0) ++ [.int .u64 0, .int .u64 0, .int .u64 0, .int .i64 0, .pointer none]
/-- a saved contact -/
def scc (k f : Int) : List Value := idc k ++ midc ++ [.int .i64 f]
/-- an empty table; a node of nothing but its table and its saved contacts -/
def tabc : List Value := u8s (List.replicate 32 0) ++ [.int .i64 0, .slice none 0 0, .slice none 0 0, .slice none 0 0, .int .i64 0]

theorem idc_length (k : Int) : (idc k).length = 32 := by simp [idc, u8s, idn]
theorem scc_length (k f : Int) : (scc k f).length = 74 := by simp [scc, midc, idc, u8s, idn]

end Go.Proofs.Ybulkbbca
