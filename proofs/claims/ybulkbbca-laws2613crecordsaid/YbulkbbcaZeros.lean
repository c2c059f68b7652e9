/- leadingZeros (function 6): bounds alone. -/
import Derived.Test.YbulkbbcaLen
import Derived.Deep.RegionWith
namespace Go.Proofs.Ybulkbbca
open Go.RowKit

set_option maxHeartbeats 1000000 in
set_option maxRecDepth 100000 in
theorem zeros_calls (g : Nat) (ds : List Int) (w : World) (hd : Id32 ds) (hr : RowAt w g 32 (u8s ds)) :
    Calls Yba.prog 6 #[.pointer (some ⟨g, 0, none⟩)] w fun e w' => (∃ p : Int, 0 ≤ p ∧ p ≤ 256 ∧ e = .returned (.int .i64 p)) ∧ Below w.heap.size w w' := by
  have Hd := hide hd
  have Hr := hide hr
  have hg := hr.lt
  clear hd hr
  go_enter Yba.func6, Yba.ntmps6
  go_wp2_with fail
  go_loopw [3, 4] (fun c3 c4 wr => ∃ (p : Int) (i : Nat), Hid (0 ≤ p ∧ p ≤ 8 * i) ∧ Hid (i % 8 = 0 ∧ i ≤ 32) ∧ c3 = .int .i64 p ∧ c4 = .int .i64 i ∧ Hid (RowAt wr g 32 (u8s ds)) ∧ Hid (Below w.heap.size w wr)) (fun _ c _ => 32 - (intOf c).toNat)
  case atStart => exact ⟨0, 0, hide (by omega), hide (by omega), rfl, rfl, Hr, hide (Below.refl _ _)⟩
  case round =>
    clear Hr
    obtain ⟨p, i, Hp, Hi, rfl, rfl, Hr, Hb⟩ := hrel
    by_cases hlt : i < 32
    · have hi24 : (i : Int) < 32 := by omega
      have hi25 : (i : Int) ≤ 32 := by omega
      have hi0 : (0 : Int) ≤ i := by omega
      have hne : ¬ (32 = i) := by omega
      have Hc := hide (be_calls ⟨g, i, none⟩ (32 - i) (32 - i) (ds.drop i) wr.drew (by have := unhide Hi; omega) (by rw [List.length_drop, (unhide Hd).len]; have := unhide Hi; omega)
        (by
          intro k hk
          rw [List.length_drop, (unhide Hd).len] at hk
          show wr.cell? _ = _
          rw [Lib.add_plain, (unhide Hr).cell, u8s_at ds (i + k) (by rw [(unhide Hd).len]; omega)]
          simp [nth, List.getD_eq_getElem?_getD])
        (fun z hz => (unhide Hd).byte z (List.mem_of_mem_drop hz)))
      go_wp2_with fail
      go_region_with (go_at_call 10; refine (unhide Hc).mono ?_; rintro e w' ⟨⟨x, hx0, hx1, rfl⟩, hb1⟩)
      have Hb1 := hide hb1
      have Hlz := hide (lz_calls x hx0 hx1)
      clear hx0 hx1 hb1
      have hr1 : RowAt w' g 32 (u8s ds) := (show RowAt wr.drew g 32 (u8s ds) from unhide Hr).below (unhide Hb1) (unhide Hr).lt
      have hb2 : Below w.heap.size w w' := (unhide Hb).drew.trans ((unhide Hb1).mono (unhide Hb).size)
      have Hr1 := hide hr1
      have Hb2 := hide hb2
      clear hr1 hb2
      have hp0 := (unhide Hp).1
      have hp1 := (unhide Hp).2
      by_cases hx : x = 0
      · subst hx
        go_wp2_with (go_at_call 11; refine ((unhide Hlz) _).mono ?_; rintro e w'' ⟨⟨n, hn0, hn1, rfl⟩, rfl⟩)
        go_roundw
        case rel => exact ⟨p + n, i + 8, hide (by omega), hide (by have := unhide Hi; omega), by go_num, by go_num, Hr1, Hb2⟩
        case measure => simp [intOf]; omega
      · go_wp2_with (go_at_call 11; refine ((unhide Hlz) _).mono ?_; rintro e w'' ⟨⟨n, hn0, hn1, rfl⟩, rfl⟩)
        go_ret
        exact ⟨⟨p + n, by omega, by have := unhide Hi; omega, rfl⟩, unhide Hb2⟩
    · obtain rfl : i = 32 := by have := unhide Hi; omega
      go_wp2_with fail
      go_ret
      exact ⟨⟨p, (unhide Hp).1, by have := (unhide Hp).2; omega, rfl⟩, unhide Hb⟩

end Go.Proofs.Ybulkbbca
