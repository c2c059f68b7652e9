/- LawS2617BCounts (function 3): the walk. -/
import Derived.Test.YbulkbbeeCount8
namespace Go.Proofs.Ybulkbbee
open Go.RowKit Go.WideMaps Go.Maps Go.MuLone

theorem up_occ (ss : List ByteArray) (k : Nat) (h : k < ss.length) : up (occ ss k) ss[k] = occ ss (k + 1) := by
  funext t
  rw [occ_succ ss k h t]
  unfold up
  by_cases e : t.data.toList = ss[k].data.toList
  · have e1 : occ ss k ss[k] = occ ss k t := by unfold occ; rw [e]
    have e2 : (ss[k].data.toList == t.data.toList) = true := by rw [e]; simp
    rw [if_pos e, if_pos e2, e1]
  · have e2 : ¬ (ss[k].data.toList == t.data.toList) = true := by
      intro x
      exact e (eq_of_beq x).symm
    rw [if_neg e, if_neg e2]
    rfl

theorem occ_none (ss : List ByteArray) : (fun _ => 0) = occ ss 0 := by
  funext t
  rw [occ_zero]

theorem Cnt.drewN {w : World} {gc gm n : Nat} {f : Value} {c : ByteArray → Nat} (h : Cnt w gc gm f n c) (m : Nat) : Cnt (w.drewN m) gc gm f n c := by
  obtain ⟨D, hown, hat⟩ := h.map
  exact ⟨h.row, h.ne, D, ownsMap_at hown rfl, hat⟩

set_option maxHeartbeats 1000000 in
set_option maxRecDepth 100000 in
theorem walk (a0 : Option Addr) (len cap : Nat) (ss : List ByteArray) (q : ByteArray) (w : World) (h : ArgStrs w a0 len ss) (hq : q.size ≤ maxLen) (hsm : len ≤ 9223372036854775807) :
    Calls Yba.prog 3 #[.slice a0 len cap, .string q] w fun e w' => e = .returned (.bool true) ∧ Below w.heap.size w w' := by
  by_cases hbig : (1024 : Int) < (len : Int)
  · go_enter Yba.func3, Yba.ntmps3
    go_wp2
    go_ret
    exact ⟨rfl, Below.refl _ _⟩
  have hl : len ≤ 1024 := by omega
  have hlen := h.ln
  have H := hide h
  have Hq := hide hq
  have Hlen := hide hlen
  generalize hw0 : w.alloc (.cells #[.slice none 0 0] 22) = w0
  have hs0 : w0.heap.size = w.heap.size + 1 := by rw [← hw0]; simp
  have hbw : Below w.heap.size w w0 := by rw [← hw0]; exact (Below.refl _ _).alloc (Nat.le_refl _) _
  have hrow0 : RowAt w0 w.heap.size 22 [.slice none 0 0] := by
    unfold RowAt
    rw [← hw0]
    exact heap_alloc_new w _
  have Hnew := hide (new_calls w.heap.size w0)
  rw [hs0] at Hnew
  have Hrow0 := hide hrow0
  have Hbw := hide hbw
  clear h hq hlen hs0 hrow0 hbw
  go_enter Yba.func3, Yba.ntmps3
  go_wp2_with fail
  refine (unhide Hnew).mono ?_
  rintro e w1 ⟨rfl, hcnt1, hb1, hs1⟩
  rw [occ_none ss] at hcnt1
  have hlog1 : Log w1 w.heap.size (w.heap.size + 3) [] := ⟨⟨_, (unhide Hrow0).below hb1 (by omega), World.ownsRow_nil _ _ _ _⟩, by omega, by omega⟩
  have Hcnt1 := hide hcnt1
  have Hlog1 := hide hlog1
  have Hb1 := hide ((unhide Hbw).trans (hb1.mono (by omega)))
  clear hw0 Hnew hcnt1 hlog1 hb1 hs1 Hrow0 Hbw
  go_wp2_with fail
  refine (n_calls _ _ _ _ _ q (unhide Hq) _ (unhide Hcnt1)).mono ?_
  rintro e w1' ⟨rfl, rfl⟩
  rw [occ_zero]
  go_wp2_with fail
  refine (bg_calls _).mono ?_
  rintro e w1'' ⟨rfl, rfl⟩
  obtain ⟨w1, rfl⟩ : ∃ x, x = w1'' := ⟨_, rfl⟩
  go_wp2_with fail
  go_loopw [9] (fun i wr => ∃ k : Nat, k ≤ len ∧ i = .int .i64 k ∧ Hid (Cnt wr (w.heap.size + 1 + 1) (w.heap.size + 1) (clo w.heap.size) k (occ ss k)) ∧ Hid (Log wr w.heap.size (w.heap.size + 3) (ss.take k)) ∧ Below w.heap.size w wr) (fun i _ => len - (intOf i).toNat)
  case atStart => exact ⟨0, Nat.zero_le _, rfl, Hcnt1, Hlog1, unhide Hb1⟩
  case round =>
    clear Hcnt1 Hlog1 Hb1
    obtain ⟨k, hk, rfl, Hcnt, Hlog, hbel⟩ := hrel
    by_cases hlt : k < len
    · obtain ⟨b, off, rfl, hb, hc⟩ := (unhide H).many (by omega)
      have hks : k < ss.length := by rw [unhide Hlen]; exact hlt
      have c := (hbel.cell hb).trans (hc k hks)
      have hss : ss[k].size ≤ maxLen := (unhide H).small _ (List.getElem_mem hks)
      have hup := up_occ ss k hks
      have htk : ss.take (k + 1) = ss.take k ++ [ss[k]] := List.take_succ_eq_append_getElem hks
      have htl : (ss.take k).length ≤ 1024 := by have := List.length_take_le k ss; omega
      have hoc : occ ss k ss[k] ≤ 1024 := by have := occ_le ss k ss[k]; omega
      generalize ss[k] = s at *
      have HC := hide (count_calls _ _ _ _ _ _ _ (.iface 47 (.agg #[])) s hss wr (unhide Hcnt) (unhide Hlog) htl (by omega) hoc (by omega) (by omega) (by omega) (by omega))
      rw [hup, ← htk] at HC
      have hne1 : (s.toList != s.toList) = false := by simp
      clear hc hup htk hss htl hoc
      go_wp2_with fail
      refine (unhide HC).mono ?_
      rintro e w2 ⟨rfl, hcnt2, hlog2, hk2⟩
      have Hcnt2 := hide hcnt2
      have Hlog2 := hide hlog2
      have hbel2 : Below w.heap.size w w2 := hbel.trans (hk2.below (by rintro j hj (h | h | h | h) <;> omega))
      have c2 := (hbel2.cell hb).trans ((hbel.cell hb).symm.trans c)
      clear HC hcnt2 hlog2 hk2 c Hcnt Hlog hbel
      go_wp2
      go_roundw
      case rel => exact ⟨k + 1, by omega, by go_num, Hcnt2, Hlog2, hbel2⟩
      case measure => simp [intOf]; omega
    · obtain rfl : len = k := by omega
      obtain ⟨w4, rfl⟩ : ∃ x, x = wr := ⟨_, rfl⟩
      obtain ⟨lv, hlrow, hlown⟩ := (unhide Hlog).all
      have htake : ss.take len = ss := List.take_of_length_le (by rw [unhide Hlen]; exact Nat.le_refl _)
      rw [htake, unhide Hlen] at hlown
      obtain ⟨la, lc, rfl⟩ := own_form hlown
      have cl : w4.cell? ⟨w.heap.size, 0, none⟩ = some (.slice la len lc) := hlrow.cell 0
      have hll : ((len : Int) != (len : Int)) = false := by simp
      have Hlown := hide hlown
      clear hlrow hlown htake Hlog
      go_wp2_with fail
      go_loopw [12] (fun i wr => ∃ k : Nat, k ≤ len ∧ i = .int .i64 k ∧ Hid (∃ m, wr = w4.drewN m)) (fun i _ => len - (intOf i).toNat)
      case atStart => exact ⟨0, Nat.zero_le _, rfl, hide ⟨0, rfl⟩⟩
      case round =>
        clear hk hlt
        obtain ⟨k, hk, rfl, Hm⟩ := hrel
        have hkw : Kept (fun _ => False) w4 wr := by obtain ⟨m, rfl⟩ := unhide Hm; exact (Kept.refl _ _).drewN m
        have hcw : ∀ a, wr.cell? a = w4.cell? a := fun a => World.cell?_of_block (w := w4) (hkw.block a.block (fun h => h))
        have cl2 := (hcw _).trans cl
        by_cases hlt : k < len
        · obtain ⟨b, off, rfl, hb, hc⟩ := (unhide H).many (by omega)
          have hks : k < ss.length := by rw [unhide Hlen]; exact hlt
          have c := (hcw _).trans ((hbel.cell hb).trans (hc k hks))
          obtain ⟨g, hg⟩ : ∃ g, la = some ⟨g, 0, none⟩ := by
            rcases (unhide Hlown).2 with ⟨e, h0⟩ | ⟨g, cp, cur, e, _⟩
            · omega
            · simp at e; exact ⟨g, e.1⟩
          subst hg
          have cg : wr.cell? ⟨g, k, none⟩ = some (.string ss[k]) := by
            rw [hcw]
            have := (unhide Hlown).cells (g := g) rfl k (.string ss[k]) (by simp [hks])
            rw [Addr.add_lit] at this
            simpa using this
          generalize ss[k] = s at *
          have hne1 : (s.toList != s.toList) = false := by simp
          clear hc hcw hkw cl
          go_wp2_with fail
          go_quiet (fail)
          go_wp2
          go_roundw
          case rel =>
            obtain ⟨m, hm⟩ := unhide Hm
            exact ⟨k + 1, by omega, by go_num, hide ⟨m + nq, by rw [hm, World.drewN_drewN]⟩⟩
          case measure => simp [intOf]; omega
        · obtain rfl : len = k := by omega
          have hcnt5 : Cnt wr (w.heap.size + 1 + 1) (w.heap.size + 1) (clo w.heap.size) len (occ ss len) := by obtain ⟨m, rfl⟩ := unhide Hm; exact (unhide Hcnt).drewN m
          have hbel5 : Below w.heap.size w wr := by obtain ⟨m, rfl⟩ := unhide Hm; exact below_drewN hbel m
          have harg5 : ArgStrs wr a0 len ss := (unhide H).below hbel5
          have HN := hide (fun s hs => n_calls _ _ _ _ _ s hs wr hcnt5)
          have HK := hide (fun s => cnt_calls a0 len cap ss s wr harg5 hl)
          have HNd := hide (fun m s hs => n_calls _ _ _ _ _ s hs _ (hcnt5.drewN m))
          have HKd := hide (fun m s => cnt_calls a0 len cap ss s _ (harg5.drewN m) hl)
          obtain ⟨w5, rfl⟩ : ∃ x, x = wr := ⟨_, rfl⟩
          have Harg5 := hide harg5
          have Hcnt5 := hide hcnt5
          clear hkw hcw cl hcnt5 harg5 Hcnt hbel Hm
          go_wp2_with fail
          refine ((unhide HK) q).mono ?_
          rintro e w' ⟨rfl, rfl⟩
          have hoq : (((occ ss len q : Nat) : Int) != ((occ ss len q : Nat) : Int)) = false := by simp
          go_wp2_with fail
          refine ((unhide HN) q (unhide Hq)).mono ?_
          rintro e w' ⟨rfl, rfl⟩
          go_wp2_with fail
          refine ((unhide HN) q (unhide Hq)).mono ?_
          rintro e w' ⟨rfl, rfl⟩
          obtain ⟨w5, rfl⟩ : ∃ x, x = w' := ⟨_, rfl⟩
          clear HN HK HNd HKd hoq
          go_wp2_with fail
          go_loopw [14] (fun i wr => ∃ k : Nat, k ≤ len ∧ i = .int .i64 k ∧ Hid (∃ m, wr = w5.drewN m)) (fun i _ => len - (intOf i).toNat)
          case atStart => exact ⟨0, Nat.zero_le _, rfl, hide ⟨0, rfl⟩⟩
          case round =>
            clear hk hlt
            obtain ⟨k, hk, rfl, Hm⟩ := hrel
            have hkw : Kept (fun _ => False) w5 wr := by obtain ⟨m, rfl⟩ := unhide Hm; exact (Kept.refl _ _).drewN m
            have hcw : ∀ a, wr.cell? a = w5.cell? a := fun a => World.cell?_of_block (w := w5) (hkw.block a.block (fun h => h))
            have cl3 := (hcw _).trans cl2
            have hcntR : Cnt wr (w.heap.size + 1 + 1) (w.heap.size + 1) (clo w.heap.size) len (occ ss len) := by obtain ⟨m, rfl⟩ := unhide Hm; exact (unhide Hcnt5).drewN m
            have hargR : ArgStrs wr a0 len ss := by obtain ⟨m, rfl⟩ := unhide Hm; exact (unhide Harg5).drewN m
            have hbelR : Below w.heap.size w wr := by obtain ⟨m, rfl⟩ := unhide Hm; exact below_drewN hbel5 m
            clear hkw hcw cl2
            by_cases hlt : k < len
            · have hks : k < ss.length := by rw [unhide Hlen]; exact hlt
              have hss : ss[k].size ≤ maxLen := (unhide H).small _ (List.getElem_mem hks)
              have HN3 := hide (fun n => Calls.quiet_of_same (n_calls _ _ _ _ _ ss[k] hss (wr.drewN n) (hcntR.drewN n)))
              have HK3 := hide (fun n => Calls.quiet_of_same (cnt_calls a0 len cap ss ss[k] (wr.drewN n) (hargR.drewN n) hl))
              obtain ⟨b, off, e, hb, hc⟩ := hargR.many (by omega)
              have c := hc k hks
              have hoq : (((occ ss len ss[k] : Nat) : Int) != ((occ ss len ss[k] : Nat) : Int)) = false := by simp
              generalize ss[k] = s at *
              generalize occ ss len s = oc at *
              clear hc hcntR hargR hss
              subst e
              go_wp2_with fail
              go_quiet ((first | (go_at_call 6; exact (unhide HN3) _) | (go_at_call 9; exact (unhide HK3) _)))
              go_wp2
              go_roundw
              case rel =>
                obtain ⟨m, hm⟩ := unhide Hm
                exact ⟨k + 1, by omega, by go_num, hide ⟨m + nq, by rw [hm, World.drewN_drewN]⟩⟩
              case measure => simp [intOf]; omega
            · clear hcntR hargR
              go_wp2
              go_ret
              exact ⟨by simp, hbelR⟩

end Go.Proofs.Ybulkbbee
