/- zzs2615cdist (function 10): the distances by relaxation. -/
import Derived.Test.YbulkbbdcRo
namespace Go.Proofs.Ybulkbbdc
open Go.RowKit Gr

/-- the first loop: the list as it stands behind k rounds -/
structure D0 (g : Grf) (k : Nat) (D : List Int) : Prop where
  len : D.length = g.n
  val : ∀ v, v < k → nth D v = if nth g.PL v < 0 then 0 else -1

theorem D0.step {g : Grf} {k : Nat} {D : List Int} (h : D0 g k D) (hk : k < g.n) (x : Int) (hx : x = if nth g.PL k < 0 then 0 else -1) : D0 g (k + 1) (D.set k x) := by
  refine ⟨by rw [List.length_set]; exact h.len, ?_⟩
  intro v hv
  by_cases e : v = k
  · subst e; rw [nth_set_self D v x (by rw [h.len]; exact hk)]; exact hx
  · rw [nth_set_ne D k v x e]; exact h.val v (by omega)

theorem mul_small {k n : Nat} (h1 : k ≤ n) (h2 : n ≤ 23) : k * n ≤ 529 := Nat.le_trans (Nat.mul_le_mul (Nat.le_trans h1 h2) h2) (by decide)

theorem Gr.RelIn.smallv {g : Grf} {k l t : Nat} {D : List Int} {ch : Bool} (h : RelIn g k l t D ch) (ok : Ok g) (hk : k ≤ g.n) (v : Nat) (hv : v < g.n) : nth D v ≤ 1000 := by
  have := h.hi v hv
  have a := mul_small hk ok.hn
  have e : ((k : Int) * (g.n : Int)) = ((k * g.n : Nat) : Int) := by simp
  have := h.ll
  have := ok.hn
  omega

theorem Gr.RelIn.small {g : Grf} {k l t : Nat} {D : List Int} {ch : Bool} (h : RelIn g k l t D ch) (ok : Ok g) (hk : k ≤ g.n) : nth D l ≤ 1000 := h.smallv ok hk l h.ll

theorem ints_made {w : World} {b n : Nat} (h : RowAt w b 3 (madeCells #[Value.int .i64 0] n).toList) : IntsAt w b (List.replicate n 0) := by
  rw [toList_madeCells_one] at h
  have e : icells (List.replicate n 0) = List.replicate n (Value.int .i64 0) := by simp [icells]
  unfold IntsAt
  rw [e]
  exact h

set_option maxHeartbeats 1000000 in
set_option maxRecDepth 100000 in
theorem dist_calls (g : Grf) (ok : Ok g) (w : World) (o p gm ga gpl gpr gly : Nat) (q : Value) (hro : Ro w o p ga gpl gpr g) (hp : p ≤ w.heap.size) (hm : RowAt w gm 38 (mcells ga gpl gpr gly g.n g.m q)) :
    Calls Yba.prog 10 #[.pointer (some ⟨gm, 0, none⟩)] w fun e w' => ∃ D b, IsDist g D ∧ (b = true ↔ Grows g D) ∧ e = .returned (.tuple #[.slice (some ⟨w.heap.size, 0, none⟩) g.n g.n, .bool b]) ∧ IntsAt w' w.heap.size D ∧ Below w.heap.size w w' := by
  have hgm : gm < w.heap.size := hm.lt
  obtain ⟨i0, hi, hz0, hz1, hz2⟩ := info_parts info3
  have Hok := hide ok
  have Hro := hide hro
  have Hm := hide hm
  have m0 := mat_of hm
  have hn23 : g.n ≤ 23 := ok.hn
  have hm23 : g.m ≤ 23 := ok.hm
  have hgpl : gpl < w.heap.size := by have := hro.lpl; omega
  have hgpr : gpr < w.heap.size := by have := hro.lpr; omega
  have hga : ga < w.heap.size := by have := hro.la; omega
  have c1 := m0.c1
  clear ok hro hm m0
  go_enter Yba.func10, Yba.ntmps10
  go_wp2_with (at_make; refine wpList_make_full _ rfl _ _ 27 rfl w.heap.size 3 i0 (.int .i64 0) 1 Yba.underlying27 hi hz0 hz1 _ _ _ _ g.n rfl rfl (by omega) (by omega) (by rw [hz2]; omega) (by unfold maxLen; omega) (by omega) ?_)
  intro w1 hown hgrow
  have hints : IntsAt w1 w.heap.size (List.replicate g.n 0) := ints_made (rowAt_of_own hown).1
  have hbel : Below w.heap.size w w1 := (Below.refl _ _).grown hgrow (by omega) (by intro k hk; cases hk)
  clear hown hgrow c1
  go_wp2_with fail
  go_loopw [6] (fun i wr => ∃ k : Nat, k ≤ g.n ∧ i = .int .i64 k ∧ ∃ D, Hid (D0 g k D) ∧ Hid (IntsAt wr w.heap.size D) ∧ Below w.heap.size w wr) (fun i _ => g.n - (intOf i).toNat)
  case atStart => exact ⟨0, Nat.zero_le _, rfl, _, hide ⟨by simp, fun v hv => by omega⟩, hints, hbel⟩
  case round =>
    clear hints hbel
    obtain ⟨k, hk, rfl, D, hD, hints, hbel⟩ := hrel
    by_cases hlt : k < g.n
    · have c1 : wr.cell? ⟨gm, 1, none⟩ = some (.slice (some ⟨gpl, 0, none⟩) g.n g.n) := (hbel.cell hgm).trans (mat_of (unhide Hm)).c1
      have c2 : wr.cell? ⟨gpl, k, none⟩ = some (.int .i64 (nth g.PL k)) := (hbel.cell hgpl).trans ((unhide Hro).pl.cell (by rw [(unhide Hok).lPL]; exact hlt))
      have c3 : wr.cell? ⟨w.heap.size, k, none⟩ = some (.int .i64 (nth D k)) := (unhide hints).cell (by rw [(unhide hD).len]; exact hlt)
      have c4 : wr.frozen? ⟨w.heap.size, k, none⟩ = false := (unhide hints).free k
      by_cases hneg : nth g.PL k < 0
      · go_wp2
        go_roundw
        case rel => exact ⟨k + 1, by omega, by go_num, _, hide ((unhide hD).step hlt 0 (by rw [if_pos hneg])), hide ((unhide hints).set k 0), hbel.setCell (Nat.le_refl _) _⟩
        case measure => simp [intOf]; omega
      · go_wp2
        go_roundw
        case rel => exact ⟨k + 1, by omega, by go_num, _, hide ((unhide hD).step hlt (-1) (by rw [if_neg (by omega)])), hide ((unhide hints).set k (-1)), hbel.setCell (Nat.le_refl _) _⟩
        case measure => simp [intOf]; omega
    · obtain rfl : k = g.n := by omega
      have hrel0 : Rel g 0 0 D false := Rel.zero (unhide hD).len (unhide hD).val
      have Hrel := hide hrel0
      clear hrel0 hD
      go_wp2_with fail
      go_loopw [7] (fun i wr => ∃ k : Nat, k ≤ g.n ∧ i = .int .i64 k ∧ ∃ D, Hid (Rel g k 0 D false) ∧ Hid (IntsAt wr w.heap.size D) ∧ Below w.heap.size w wr) (fun i _ => g.n + 1 - (intOf i).toNat)
      case atStart => exact ⟨0, Nat.zero_le _, rfl, D, Hrel, hints, hbel⟩
      case round =>
        clear hints hbel Hrel hk hlt
        obtain ⟨k, hk, rfl, D, Hrel, hints, hbel⟩ := hrel
        have hkn : (k : Int) ≤ (g.n : Int) := by omega
        go_wp2_with fail
        go_loopw [8, 9] (fun c i wr => ∃ l : Nat, l ≤ g.n ∧ i = .int .i64 l ∧ ∃ ch D, c = .bool ch ∧ Hid (Rel g k l D ch) ∧ Hid (IntsAt wr w.heap.size D) ∧ Below w.heap.size w wr) (fun _ i _ => g.n - (intOf i).toNat)
        case atStart => exact ⟨0, Nat.zero_le _, rfl, false, D, rfl, Hrel, hints, hbel⟩
        case round =>
          clear hints hbel Hrel
          obtain ⟨l, hl, rfl, ch, D, rfl, Hrel, hints, hbel⟩ := hrel
          by_cases hlt : l < g.n
          · have c3 : wr.cell? ⟨w.heap.size, l, none⟩ = some (.int .i64 (nth D l)) := (unhide hints).cell (by rw [(unhide Hrel).len]; exact hlt)
            by_cases hneg : nth D l < 0
            · go_wp2
              go_roundw
              case rel => exact ⟨l + 1, by omega, by go_num, ch, D, rfl, hide ((unhide Hrel).skip hlt hneg), hints, hbel⟩
              case measure => simp [intOf]; omega
            · have c0 : wr.cell? ⟨gm, 0, none⟩ = some (.slice (some ⟨ga, 0, none⟩) g.n g.n) := (hbel.cell hgm).trans (mat_of (unhide Hm)).c0
              obtain ⟨ar, cap, c5w, hsl⟩ := (unhide Hro).rowOf hlt
              have c5 : wr.cell? ⟨ga, l, none⟩ = some (.slice ar (row g.A l).length cap) := (hbel.cell hga).trans c5w
              have hwid : (row g.A l).length ≤ g.m := (unhide Hok).wid l
              generalize hlen : (row g.A l).length = rl at *
              have Hlen := hide hlen
              have Hin := hide ((unhide Hrel).start hlt (by omega))
              have Hsl := hide hsl
              clear hlen hsl c5w
              go_wp2_with fail
              go_loopw [8, 66] (fun c i wr => ∃ t : Nat, t ≤ rl ∧ i = .int .i64 t ∧ ∃ ch D, c = .bool ch ∧ Hid (RelIn g k l t D ch) ∧ Hid (IntsAt wr w.heap.size D) ∧ Below w.heap.size w wr) (fun _ i _ => rl - (intOf i).toNat)
              case atStart => exact ⟨0, Nat.zero_le _, rfl, ch, D, rfl, Hin, hints, hbel⟩
              case round =>
                clear hints hbel Hin Hrel c0 c3 c5 hneg
                obtain ⟨t, ht, rfl, ch, D, rfl, Hin, hints, hbel⟩ := hrel
                by_cases htl : t < rl
                · obtain ⟨b, rfl, hb, cw⟩ := (unhide Hsl).at (unhide Hlen).symm htl
                  have c2 : wr.cell? ⟨gm, 2, none⟩ = some (.slice (some ⟨gpr, 0, none⟩) g.m g.m) := (hbel.cell hgm).trans (mat_of (unhide Hm)).c2
                  have hedge := (unhide Hok).rng l (nth (row g.A l) t) (nth_mem (by rw [unhide Hlen]; exact htl))
                  obtain ⟨rN, hrN⟩ := Int.eq_ofNat_of_zero_le hedge.1
                  have cr : wr.cell? ⟨b, t, none⟩ = some (.int .i64 (rN : Int)) := by rw [← hrN]; exact (hbel.cell (show b < w.heap.size by omega)).trans cw
                  have hrm : rN < g.m := by omega
                  have cp : wr.cell? ⟨gpr, rN, none⟩ = some (.int .i64 (nth g.PR rN)) := (hbel.cell hgpr).trans ((unhide Hro).pr.cell (by rw [(unhide Hok).lPR]; exact hrm))
                  have hto : to g (nth (row g.A l) t) = nth g.PR rN := by unfold to; rw [hrN]; simp
                  have htgt : nth g.PR rN < g.n := (unhide Hok).tgt rN hrm
                  generalize nth g.PR rN = nx at *
                  have Hto := hide hto
                  clear hto hrN hedge cw
                  by_cases hneg : nx < 0
                  · have hguard : decide (0 ≤ nx) = false := by simp; omega
                    go_wp2_with fail
                    go_quiet (fail)
                    go_wp2
                    go_roundw
                    case rel => exact ⟨t + 1, by omega, by go_num, ch, D, rfl, hide ((unhide Hin).pass (fun v hv => by have := unhide Hto; omega)), hints, below_drewN hbel _⟩
                    case measure => simp [intOf]; omega
                  · obtain ⟨v, rfl⟩ := Int.eq_ofNat_of_zero_le (show 0 ≤ nx by omega)
                    have hvn : v < g.n := by omega
                    have cv : wr.cell? ⟨w.heap.size, v, none⟩ = some (.int .i64 (nth D v)) := (unhide hints).cell (by rw [(unhide Hin).len]; exact hvn)
                    have cvf : wr.frozen? ⟨w.heap.size, v, none⟩ = false := (unhide hints).free v
                    have cl : wr.cell? ⟨w.heap.size, l, none⟩ = some (.int .i64 (nth D l)) := (unhide hints).cell (by rw [(unhide Hin).len]; exact hlt)
                    have hdl0 := (unhide Hin).at0
                    have hdl1 := (unhide Hin).small (unhide Hok) hk
                    have hdv1 := (unhide Hin).smallv (unhide Hok) hk v hvn
                    generalize hdv : nth D v = dv at *
                    generalize hdl : nth D l = dl at *
                    have Hdv := hide hdv
                    have Hdl := hide hdl
                    clear hdv hdl
                    have hwrap : IntKind.i64.wrap (dl + 1) = dl + 1 := IntWalk.i64_in _ (by omega)
                    by_cases hn1 : dv < 0
                    · go_wp2_with fail
                      go_quiet (fail)
                      go_wp2
                      go_roundw
                      case rel => exact ⟨t + 1, by omega, by go_num, true, _, rfl, hide ((unhide Hin).better (unhide Hok) (by rw [unhide Hlen]; exact htl) v (unhide Hto) (by rw [unhide Hdv]; exact .inl hn1)), hide (by rw [unhide Hdl]; exact (unhide hints).set v (dl + 1)), (below_drewN (hbel.setCell (Nat.le_refl _) _) _)⟩
                      case measure => simp [intOf]; omega
                    · by_cases hn2 : dl + 1 < dv
                      · have hg2 : decide (dl + 1 < dv) = true := by simpa using hn2
                        go_wp2_with fail
                        go_quiet (fail)
                        go_wp2
                        go_roundw
                        case rel => exact ⟨t + 1, by omega, by go_num, true, _, rfl, hide ((unhide Hin).better (unhide Hok) (by rw [unhide Hlen]; exact htl) v (unhide Hto) (by rw [unhide Hdv, unhide Hdl]; exact .inr hn2)), hide (by rw [unhide Hdl]; exact (unhide hints).set v (dl + 1)), (below_drewN (hbel.setCell (Nat.le_refl _) _) _)⟩
                        case measure => simp [intOf]; omega
                      · have hg2 : decide (dl + 1 < dv) = false := by simpa using hn2
                        go_wp2_with fail
                        go_quiet (fail)
                        go_wp2
                        go_roundw
                        case rel =>
                          refine ⟨t + 1, by omega, by go_num, ch, D, rfl, hide ((unhide Hin).pass (fun u hu => ?_)), hints, below_drewN hbel _⟩
                          have e1 := unhide Hto
                          obtain rfl : u = v := by omega
                          rw [unhide Hdv, unhide Hdl]
                          omega
                        case measure => simp [intOf]; omega
                · obtain rfl : t = rl := by omega
                  go_wp2
                  go_roundw
                  case rel => exact ⟨l + 1, by omega, by go_num, ch, D, rfl, hide ((unhide Hin).finish (by have := unhide Hlen; omega)), hints, hbel⟩
                  case measure => simp [intOf]; omega
          · obtain rfl : l = g.n := by omega
            cases ch with
            | true =>
              have hkk : k < g.n := (unhide Hrel).chk rfl
              go_wp2
              go_roundw
              case rel => exact ⟨k + 1, by omega, by go_num, D, hide ((unhide Hrel).next (unhide Hok)), hints, hbel⟩
              case measure => simp [intOf]; omega
            | false =>
              have Hdist := hide ((unhide Hrel).still (unhide Hok))
              clear Hrel
              go_wp2_with fail
              go_loopw [13, 14] (fun c i wr => ∃ l : Nat, l ≤ g.n ∧ i = .int .i64 l ∧ ∃ b, c = .bool b ∧ Hid (Gro g D l 0 b) ∧ Hid (IntsAt wr w.heap.size D) ∧ Below w.heap.size w wr) (fun _ i _ => g.n - (intOf i).toNat)
              case atStart => exact ⟨0, Nat.zero_le _, rfl, false, rfl, hide (Gro.zero g D), hints, hbel⟩
              case round =>
                clear hints hbel
                obtain ⟨l, hl, rfl, b, rfl, Hg, hints, hbel⟩ := hrel
                by_cases hlt : l < g.n
                · have c3 : wr.cell? ⟨w.heap.size, l, none⟩ = some (.int .i64 (nth D l)) := (unhide hints).cell (by rw [(unhide Hdist).len]; exact hlt)
                  by_cases hneg : nth D l < 0
                  · go_wp2
                    go_roundw
                    case rel => exact ⟨l + 1, by omega, by go_num, b, rfl, hide ((unhide Hg).skip hneg), hints, hbel⟩
                    case measure => simp [intOf]; omega
                  · have c0 : wr.cell? ⟨gm, 0, none⟩ = some (.slice (some ⟨ga, 0, none⟩) g.n g.n) := (hbel.cell hgm).trans (mat_of (unhide Hm)).c0
                    obtain ⟨ar, cap, c5w, hsl⟩ := (unhide Hro).rowOf hlt
                    have c5 : wr.cell? ⟨ga, l, none⟩ = some (.slice ar (row g.A l).length cap) := (hbel.cell hga).trans c5w
                    have hwid : (row g.A l).length ≤ g.m := (unhide Hok).wid l
                    have Hpos : Hid (0 ≤ nth D l) := hide (by omega)
                    generalize hlen : (row g.A l).length = rl at *
                    have Hlen := hide hlen
                    have Hsl := hide hsl
                    clear hlen hsl c5w
                    go_wp2_with fail
                    go_loopw [13, 127] (fun c i wr => ∃ t : Nat, t ≤ rl ∧ i = .int .i64 t ∧ ∃ b, c = .bool b ∧ Hid (Gro g D l t b) ∧ Hid (IntsAt wr w.heap.size D) ∧ Below w.heap.size w wr) (fun _ i _ => rl - (intOf i).toNat)
                    case atStart => exact ⟨0, Nat.zero_le _, rfl, b, rfl, Hg, hints, hbel⟩
                    case round =>
                      clear hints hbel Hg c0 c3 c5 hneg
                      obtain ⟨t, ht, rfl, b, rfl, Hg, hints, hbel⟩ := hrel
                      by_cases htl : t < rl
                      · obtain ⟨ba, rfl, hba, cw⟩ := (unhide Hsl).at (unhide Hlen).symm htl
                        have c2 : wr.cell? ⟨gm, 2, none⟩ = some (.slice (some ⟨gpr, 0, none⟩) g.m g.m) := (hbel.cell hgm).trans (mat_of (unhide Hm)).c2
                        have hedge := (unhide Hok).rng l (nth (row g.A l) t) (nth_mem (by rw [unhide Hlen]; exact htl))
                        obtain ⟨rN, hrN⟩ := Int.eq_ofNat_of_zero_le hedge.1
                        have cr : wr.cell? ⟨ba, t, none⟩ = some (.int .i64 (rN : Int)) := by rw [← hrN]; exact (hbel.cell (show ba < w.heap.size by omega)).trans cw
                        have hrm : rN < g.m := by omega
                        have cp : wr.cell? ⟨gpr, rN, none⟩ = some (.int .i64 (nth g.PR rN)) := (hbel.cell hgpr).trans ((unhide Hro).pr.cell (by rw [(unhide Hok).lPR]; exact hrm))
                        have hto : to g (nth (row g.A l) t) = nth g.PR rN := by unfold to; rw [hrN]; simp
                        generalize nth g.PR rN = nx at *
                        have Hto := hide hto
                        clear hto hrN hedge cw
                        by_cases hneg : nx < 0
                        · go_wp2
                          go_roundw
                          case rel => exact ⟨t + 1, by omega, by go_num, true, rfl, hide ((unhide Hg).yes (unhide Hpos) (by rw [unhide Hto]; exact hneg)), hints, hbel⟩
                          case measure => simp [intOf]; omega
                        · go_wp2
                          go_roundw
                          case rel => exact ⟨t + 1, by omega, by go_num, b, rfl, hide ((unhide Hg).no (by rw [unhide Hto]; omega)), hints, hbel⟩
                          case measure => simp [intOf]; omega
                      · obtain rfl : t = rl := by omega
                        go_wp2
                        go_roundw
                        case rel => exact ⟨l + 1, by omega, by go_num, b, rfl, hide ((unhide Hg).finish (unhide Hpos) (unhide Hlen).symm), hints, hbel⟩
                        case measure => simp [intOf]; omega
                · obtain rfl : l = g.n := by omega
                  go_wp2
                  go_ret2
                  exact ⟨D, b, unhide Hdist, (unhide Hg).grows, rfl, unhide hints, hbel⟩

end Go.Proofs.Ybulkbbdc
