/- '==' of two IDs. -/
import Derived.Test.YbulkbbcaContact
import Derived.ChangeKeysEq
namespace Go.Proofs.Ybulkbbca
open Go.RowKit

theorem cells5 : Yba.prog.cellsOf 5 = 1 := by kernel_rfl
theorem info5 : ∃ i, Yba.prog.info? 5 = some i := Option.isSome_iff_exists.1 (by kernel_rfl)
theorem plain5 : Yba.prog.plainKey 5 = true := by kernel_rfl

theorem eq_items (d : Nat) (xs ys : List Int) (w : World) : ∀ (is : List Nat), (∀ i ∈ is, i < xs.length ∧ i < ys.length) →
    (Op.eqItems (d + 1) 5 1 (u8s xs).toArray (u8s ys).toArray is).run Yba.prog w = .ok (is.all fun i => nth xs i == nth ys i) w
  | [], _ => by simp [Op.eqItems]
  | i :: is, h => by
    have hi := h i (by simp)
    have ih := eq_items d xs ys w is (fun j hj => h j (by simp [hj]))
    have px : (part 5 (u8s xs).toArray (i * 1)).run Yba.prog w = .ok (.int .u8 (nth xs i)) w :=
      run_part_plain w plain5 (by simp only [Nat.mul_one, List.getElem?_toArray]; exact u8s_at xs i hi.1)
    have py : (part 5 (u8s ys).toArray (i * 1)).run Yba.prog w = .ok (.int .u8 (nth ys i)) w :=
      run_part_plain w plain5 (by simp only [Nat.mul_one, List.getElem?_toArray]; exact u8s_at ys i hi.2)
    simp only [Op.eqItems, Sem.run_bind, px, py, Result.andThen_ok, run_equalIn_int w d 5 .u8 .u8 _ _ Yba.underlying5]
    by_cases he : nth xs i = nth ys i
    · simp [he, ih]
    · simp [he]

theorem all_idn (a b : Int) : ((List.range 32).all fun i => nth (idn a) i == nth (idn b) i) = (a == b) := by
  by_cases h : a = b
  · subst h
    simp
  · have h1 : ((List.range 32).all fun i => nth (idn a) i == nth (idn b) i) = false := List.all_eq_false.2 ⟨0, by simp, by simp [nth, idn, h]⟩
    rw [h1]
    simp [h]

theorem eq_ids (a b : Int) (w : World) : (Op.equalIn 10000 32 (.agg (idc a).toArray) (.agg (idc b).toArray)).run Yba.prog w = .ok (a == b) w := by
  obtain ⟨i, hi⟩ := info5
  rw [run_equalIn_array w 9999 _ _ Yba.underlying32 hi, cells5]
  unfold idc
  rw [eq_items 9998 (idn a) (idn b) w (List.range 32) (fun i hi => by simp [idn] at hi ⊢; omega)]
  rw [all_idn]

end Go.Proofs.Ybulkbbca
