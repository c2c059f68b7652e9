/- math/bits.LeadingZeros64, encoding/binary.BigEndian.Uint64 (functions 11, 10), off the shelf. -/
import Derived.Test.YbulkbbcaXor
import Derived.Shelf.Lay
import Derived.Shelf.Small.Bits
import Derived.Shelf.Bin.ReadersZ
namespace Go.Proofs
open Go.Shelf

shelf_lay Lays.n134 Nm 134 at Yba as Yba.lays134
shelf_lay LaysBin.n42 Mn 42 at Yba as Yba.lays42
end Go.Proofs
namespace Go.Proofs.Ybulkbbca
open Go.RowKit Go.Shelf

theorem lz_calls (x : Int) (h0 : 0 ≤ x) (h1 : x ≤ 18446744073709551615) (w : World) :
    Calls Yba.prog 11 #[.int .u64 x] w fun e w' => (∃ n : Int, 0 ≤ n ∧ n ≤ 64 ∧ e = .returned (.int .i64 n)) ∧ w' = w := by
  refine (Any.bits_LeadingZeros64 Yba.lays134 x w h0 h1).mono ?_
  rintro e w' ⟨rfl, rfl⟩
  have := Any.bitLen_le64 x h0 h1
  exact ⟨⟨_, by omega, by omega, rfl⟩, rfl⟩

theorem be_calls (a : Addr) (n c : Nat) (zs : List Int) (w : World) (hn : 8 ≤ n) (hl : 8 ≤ zs.length)
    (hcell : ∀ i, i < zs.length → w.cell? (a.add i) = some (.int .u8 (zs.getD i 0))) (hw : ∀ z ∈ zs, 0 ≤ z ∧ z ≤ 255) :
    Calls Yba.prog 10 #[.agg #[], .slice (some a) n c] w fun e w' => (∃ x : Int, 0 ≤ x ∧ x ≤ 18446744073709551615 ∧ e = .returned (.int .u64 x)) ∧ Below w.heap.size w w' := by
  have hw' : ∀ z ∈ zs, (Lit.int .u8 z).wf = true := by
    intro z hz
    have := hw z hz
    simp [Lit.wf, IntKind.min, IntKind.max, IntKind.signed, IntKind.bits]; omega
  refine (Any.binary_BE_Uint64_z Yba.lays42 a n c zs w hn hl hcell hw').mono ?_
  rintro e w' ⟨rfl, h⟩
  have hb := bounds_u64 (Lib.beZ8_wf zs hl hw')
  exact ⟨⟨_, hb.1, hb.2, rfl⟩, h⟩

end Go.Proofs.Ybulkbbca
