/- zzs2615anondigit (function 8): its contract; and the plain facts on bytes for LawS2615ABuilt. -/
import Derived.Test.YbulkbbdcDigits
import Derived.Lib.AppendStr
import Derived.Laws.IdiomStrings
import Derived.Laws.BytesArg
namespace Go.Proofs.Ybulkbbdc
open Go.RowKit

set_option maxHeartbeats 400000 in
theorem nondigit_calls (k : Int) (w : World) (h0 : 0 ≤ k) (h1 : k ≤ 255) :
    Calls Yba.prog 8 #[.int .u8 k] w fun e w' => (∃ c : UInt8, e = .returned (.int .u8 c.toNat) ∧ ¬ (48 ≤ (c.toNat : Int) ∧ (c.toNat : Int) ≤ 57)) ∧ w' = w := by
  go_enter Yba.func8, Yba.ntmps8
  go_wp2
  · go_ret; exact ⟨⟨47, rfl, by decide⟩, rfl⟩
  · go_ret; exact ⟨⟨58, rfl, by decide⟩, rfl⟩
  · go_ret; exact ⟨⟨46, rfl, by decide⟩, rfl⟩
  · go_ret; exact ⟨⟨101, rfl, by decide⟩, rfl⟩
  · go_ret; exact ⟨⟨45, rfl, by decide⟩, rfl⟩
  · go_ret; exact ⟨⟨0, rfl, by decide⟩, rfl⟩
  · go_ret; exact ⟨⟨255, rfl, by decide⟩, rfl⟩
  · go_ret; exact ⟨⟨97, rfl, by decide⟩, rfl⟩

/-- bytes as cells -/
def bcells (l : List UInt8) : List Value := l.map fun b => Value.int .u8 (b.toNat : Int)

theorem bcells_length (l : List UInt8) : (bcells l).length = l.length := by simp [bcells]
theorem bcells_append (a b : List UInt8) : bcells (a ++ b) = bcells a ++ bcells b := by simp [bcells]
theorem bcells_str (s : ByteArray) : bcells s.data.toList = Lib.strCells s := rfl

/-- the digits that the law's loop writes: of the first k numbers -/
def digs (z : List Int) (k : Nat) : List UInt8 := (z.take k).map fun n => UInt8.ofNat (48 + n.toNat % 10)

theorem digs_length (z : List Int) (k : Nat) (h : k ≤ z.length) : (digs z k).length = k := by simp [digs]; omega

theorem digs_succ (z : List Int) (k : Nat) (h : k < z.length) : digs z (k + 1) = digs z k ++ [UInt8.ofNat (48 + (z[k]).toNat % 10)] := by
  unfold digs
  rw [List.take_succ_eq_append_getElem h, List.map_append]
  rfl

theorem dig_byte (n : Nat) : (UInt8.ofNat (48 + n % 10)).toNat = 48 + n % 10 := by
  have : n % 10 < 10 := Nat.mod_lt _ (by decide)
  rw [UInt8.toNat_ofNat']
  exact Nat.mod_eq_of_lt (by omega)

/-- 'string(b)' of a slice of bytes that the call owns -/
theorem conv_own {w : World} {base : Nat} {v : Value} {n : Nat} {l : List UInt8} (h : w.ownsRow base 5 1 v n (bcells l)) :
    (convert 24 9 v).run Yba.prog w = .ok (.string ⟨l.toArray⟩) w := by
  have hn : n = l.length := by have := h.1; rw [bcells_length] at this; omega
  rcases h.2 with ⟨rfl, h0⟩ | ⟨g, cap, cur, rfl, hb, hg, hnc, hcm, hcs, htake⟩
  · have hl : l = [] := List.eq_nil_of_length_eq_zero (by omega)
    subst hl
    exact run_convert_bytes_nil w 24 5 Yba.underlying24 Yba.underlying5 0 0 9 Yba.underlying9
  · subst hn
    refine run_convert_bytes_back w 24 9 5 ⟨g, 0, none⟩ cap l Yba.underlying24 Yba.underlying5 Yba.underlying9 ?_
    intro j hj
    refine h.cells (g := g) rfl j _ ?_
    simp [bcells, List.getElem?_eq_getElem hj]

/-- the leading digits of digits followed by nothing, or by something that begins with no digit -/
theorem lead_built (ds rest : List UInt8) (hd : ∀ b ∈ ds, 48 ≤ (b.toNat : Int) ∧ (b.toNat : Int) ≤ 57) (hr : ∀ b, rest[0]? = some b → ¬ (48 ≤ (b.toNat : Int) ∧ (b.toNat : Int) ≤ 57))
    (n : Nat) (h : IsLead ⟨(ds ++ rest).toArray⟩ n) : n = ds.length := by
  obtain ⟨h1, h2, h3⟩ := h
  have hsz : (ByteArray.mk (ds ++ rest).toArray).size = ds.length + rest.length := by simp [ByteArray.size]
  have hget : ∀ i (hi : i < (ByteArray.mk (ds ++ rest).toArray).size), (ByteArray.mk (ds ++ rest).toArray)[i] = (ds ++ rest)[i]'(by rw [hsz] at hi; simpa using hi) := by
    intro i hi
    rfl
  rcases Nat.lt_trichotomy n ds.length with hlt | he | hgt
  · exfalso
    apply h3
    refine ⟨by omega, ?_⟩
    rw [hget, List.getElem_append_left hlt]
    exact hd _ (List.getElem_mem _)
  · exact he
  · exfalso
    obtain ⟨hi, a⟩ := h2 ds.length hgt
    rw [hget] at a
    have hrl : 0 < rest.length := by rw [hsz] at hi; omega
    rw [List.getElem_append_right (Nat.le_refl _)] at a
    simp only [Nat.sub_self] at a
    exact hr rest[0] (by simp [List.getElem?_eq_getElem hrl]) a

theorem digs_dig (z : List Int) (k : Nat) : ∀ b ∈ digs z k, 48 ≤ (b.toNat : Int) ∧ (b.toNat : Int) ≤ 57 := by
  intro b hb
  simp only [digs, List.mem_map] at hb
  obtain ⟨n, _, rfl⟩ := hb
  rw [dig_byte]
  have : n.toNat % 10 < 10 := Nat.mod_lt _ (by decide)
  omega

end Go.Proofs.Ybulkbbdc
