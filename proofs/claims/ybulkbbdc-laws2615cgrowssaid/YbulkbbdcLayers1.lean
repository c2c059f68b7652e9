/- LawS2615CLayers (function 6): the walk. -/
import Derived.Test.YbulkbbdcBuild
namespace Go.Proofs.Ybulkbbdc
open Go.RowKit Gr

theorem ArgRow.below {k : IntKind} {w w' : World} {a : Option Addr} {len : Nat} {zs : List Int} (h : ArgRow k w a len zs) (hb : Below w.heap.size w w') : ArgRow k w' a len zs := by
  refine ⟨h.ln, h.small, fun h0 => ?_⟩
  obtain ⟨b, off, e, hlt, hc⟩ := h.many h0
  exact ⟨b, off, e, Nat.lt_of_lt_of_le hlt hb.size, fun i hi => (hb.cell hlt).trans (hc i hi)⟩

/-- the law's 'seen': which of the first k of the queue are marked -/
def Seen (n : Nat) (Q : List Nat) (k : Nat) (sb : List Bool) : Prop := sb.length = n ∧ ∀ v, v < n → (sb.getD v false = true ↔ ∃ a, a < k ∧ qth Q a = v)

theorem seen_zero (n : Nat) (Q : List Nat) : Seen n Q 0 (List.replicate n false) := by
  refine ⟨by simp, ?_⟩
  intro v hv
  simp [List.getD_eq_getElem?_getD, hv]

theorem seen_step {n : Nat} {Q : List Nat} {k : Nat} {sb : List Bool} (h : Seen n Q k sb) (hq : qth Q k < n) : Seen n Q (k + 1) (sb.set (qth Q k) true) := by
  refine ⟨by rw [List.length_set]; exact h.1, ?_⟩
  intro v hv
  by_cases e : v = qth Q k
  · subst e
    have : (sb.set (qth Q k) true).getD (qth Q k) false = true := by simp [List.getD_eq_getElem?_getD, h.1, hq]
    rw [this]
    exact ⟨fun _ => ⟨k, by omega, rfl⟩, fun _ => rfl⟩
  · have e' : ¬ qth Q k = v := fun x => e x.symm
    have : (sb.set (qth Q k) true).getD v false = sb.getD v false := by simp [List.getD_eq_getElem?_getD, e']
    rw [this, h.2 v hv]
    constructor
    · rintro ⟨a, ha, x⟩; exact ⟨a, by omega, x⟩
    · rintro ⟨a, ha, x⟩
      by_cases ea : a = k
      · subst ea; exact absurd x e'
      · exact ⟨a, by omega, x⟩

theorem qth_inj {Q : List Nat} (hn : Q.Nodup) {a b : Nat} (ha : a < Q.length) (hb : b < Q.length) (h : qth Q a = qth Q b) : a = b := by
  unfold qth at h
  simp only [List.getD_eq_getElem?_getD, List.getElem?_eq_getElem ha, List.getElem?_eq_getElem hb, Option.getD_some] at h
  exact (List.getElem_inj hn).1 h

theorem seen_new {n : Nat} {Q : List Nat} {k : Nat} {sb : List Bool} (h : Seen n Q k sb) (hn : Q.Nodup) (hk : k < Q.length) (hq : qth Q k < n) : sb.getD (qth Q k) false = false := by
  refine Bool.eq_false_iff.2 fun e => ?_
  obtain ⟨a, ha, x⟩ := (h.2 _ hq).1 e
  have := qth_inj hn (by omega) hk x
  omega

def bcellsB (sb : List Bool) : List Value := sb.map Value.bool

theorem bcellsB_at (sb : List Bool) (i : Nat) (h : i < sb.length) : (bcellsB sb)[i]? = some (.bool (sb.getD i false)) := by
  simp [bcellsB, List.getD_eq_getElem?_getD, h]

set_option maxHeartbeats 1000000 in
set_option maxRecDepth 100000 in
theorem layers_walk (w : World) (NL NR : Int) (hNL : 0 ≤ NL ∧ NL ≤ 255) (hNR : 0 ≤ NR ∧ NR ≤ 255) (ea pa ja : Option Addr) (el ec pl pc jl jc : Nat) (E K J : List Int)
    (hE : ArgRow .u8 w ea el E) (hEb : ByteRow E) (hK : ArgRow .u8 w pa pl K) (hKb : ByteRow K) (hJ : ArgRow .i64 w ja jl J) :
    Calls Yba.prog 6 #[.agg #[.int .u8 NL, .int .u8 NR, .slice ea el ec, .slice pa pl pc, .slice ja jl jc]] w fun e w' => e = .returned (.bool true) ∧ Below w.heap.size w w' := by
  obtain ⟨i0, hi, hz0, hz1, hz2⟩ := info_parts info3
  obtain ⟨j0, hj, hy0, hy1, hy2⟩ := info_parts info4
  have hn23 : (inp NL NR E K).n ≤ 23 := by show (NL % 24).toNat ≤ 23; omega
  have hm23 : (inp NL NR E K).m ≤ 23 := by show (NR % 24).toNat ≤ 23; omega
  have Hok := hide (grf_ok _ hn23 hm23)
  generalize hw0 : w.alloc (.cells #[.int .u8 NL, .int .u8 NR, .slice ea el ec, .slice pa pl pc, .slice ja jl jc] 29) = w0
  have hs0 : w0.heap.size = w.heap.size + 1 := by rw [← hw0]; simp
  have hbw : Below w.heap.size w w0 := by rw [← hw0]; exact (Below.refl _ _).alloc (Nat.le_refl _) _
  have hbox : RowAt w0 w.heap.size 29 [.int .u8 NL, .int .u8 NR, .slice ea el ec, .slice pa pl pc, .slice ja jl jc] := by
    unfold RowAt
    rw [← hw0]
    exact heap_alloc_new w _
  have HB := hide (fun w' (h : Below w0.heap.size w0 w') => build_calls w' NL NR hNL hNR ea pa ja el ec pl pc jl jc E K J ((hE.below hbw).below h) hEb ((hK.below hbw).below h) hKb ((hJ.below hbw).below h))
  have k0 := hbox.cell 0
  have k1 := hbox.cell 1
  have k2 := hbox.cell 2
  have k3 := hbox.cell 3
  have k4 := hbox.cell 4
  simp at k0 k1 k2 k3 k4
  have Hbox := hide hbox
  have Hs0 := hide hs0
  have Hbw := hide hbw
  have hs0i : w.heap.size < w0.heap.size := by omega
  generalize inp NL NR E K = ip at *
  clear hE hEb hK hKb hJ hbox hs0 hbw
  go_enter Yba.func6, Yba.ntmps6
  go_wp2_with fail
  refine ((unhide HB) _ (Below.refl _ _)).mono ?_
  rintro e w1 ⟨ga, gpl, gpr, gly, gm, L0, rfl, hro1, hly1, hL0, hmt1, hlm1, hlo1, hb1⟩
  have hq1 : Below (w.heap.size + 1) w0 w1 := by rw [← unhide Hs0]; exact hb1
  have hbox1 := (unhide Hbox).below hq1 (Nat.lt_succ_self _)
  clear hw0 k0 k1 k2 k3 k4
  have k0 := hbox1.cell 0
  have k1 := hbox1.cell 1
  have k2 := hbox1.cell 2
  have k3 := hbox1.cell 3
  have k4 := hbox1.cell 4
  simp at k0 k1 k2 k3 k4
  have hgm1 := hmt1.lt
  have Hro1 := hide hro1
  have Hly1 := hide hly1
  have Hmt1 := hide hmt1
  have HL0 := hide hL0
  clear hro1 hly1 hmt1 hL0 hbox1 hq1
  go_wp2_with fail
  refine ((unhide HB) _ hb1).mono ?_
  rintro e w2 ⟨ra, rpl, rpr, rly, rm, L1, rfl, hro2, hly2, hL1, hmt2, hlm2, hlo2, hb2⟩
  have hgm2 := hmt2.lt
  have Hro2 := hide hro2
  have Hmt2 := hide hmt2
  clear hro2 hly2 hmt2 hL1 k0 k1 k2 k3 k4
  go_wp2_with fail
  refine (dist_calls (grf ip) (unhide Hok) _ _ _ _ _ _ _ _ _ (unhide Hro2) (by omega) (unhide Hmt2)).mono ?_
  rintro e w3 ⟨D, b, hD, hb, rfl, hiD, hb3⟩
  have hgd := RowAt.lt hiD
  have HD := hide hD
  have Hgr := hide hb
  have HiD := hide hiD
  have hs12 := hb2.size
  have hs01 := hb1.size
  have hs23 := hb3.size
  clear hD hb hiD
  have hro3 : Ro w3 w0.heap.size gly ga gpl gpr (grf ip) := ((unhide Hro1).below hb2 (by omega)).below hb3 (by omega)
  have hly3 : IntsAt w3 gly L0 := RowAt.below (RowAt.below (unhide Hly1) hb2 (by omega)) hb3 (by omega)
  have hmt3 := ((unhide Hmt1).below hb2 hgm1).below hb3 (by omega)
  go_wp2_with fail
  refine (layer_calls (grf ip) (unhide Hok) _ _ _ _ _ _ _ _ L0 hro3 (Nat.le_refl _) (by omega) (by omega) hmt3 hly3 (unhide HL0)).mono ?_
  rintro e w4 ⟨L, Q, b4, qv, rfl, hgrow, hL, hnd, hmem, hord, hst⟩
  have hLD : L = D := hL.unique (unhide HD)
  subst hLD
  have hiD4 : IntsAt w4 w2.heap.size L := RowAt.kept (unhide HiD) hst.kp (by rintro (h | h | h) <;> omega)
  have hm4 := mat_of hst.mt
  have c3 := hm4.c3
  have c4 := hm4.c4
  have hqs := slAt_of_own hst.qu
  have hql := length_reached hnd hmem
  have hlen := hL.len
  obtain ⟨qa, qc, hqv⟩ := own_form hst.qu
  subst hqv
  have Hq := hide hqs
  have Hly := hide hst.ly
  have HiD4 := hide hiD4
  have Hlo := hide hL.lo
  have Hql := hide hql
  have Hnd := hide hnd
  have Hmem := hide hmem
  have Hord := hide hord
  have Hlen := hide hlen
  have hbel4 : Below w.heap.size w w4 := (((unhide Hbw).trans (hb1.mono (by omega))).trans ((hb2.mono (by omega)).trans (hb3.mono (by omega)))).trans (hst.kp.below (by intro k hk h; rcases h with h | h | h <;> omega))
  have hnn : (grf ip).n ≤ 23 := hn23
  clear hgrow hL hqs hql hnd hmem hord hst hlen hiD4 hm4 hro3 hly3 hmt3 HD Hgr HiD Hmt1 Hro1 Hly1 HL0 Hro2 Hmt2 hb1 hb2 hb3 HB
  generalize (grf ip).n = n at *
  go_wp2_with fail
  go_loop [7] (fun c => ∃ k : Nat, k ≤ n ∧ c = .int .i64 k) (fun c => n - (intOf c).toNat)
  case atStart => exact ⟨0, Nat.zero_le _, rfl⟩
  case round =>
    obtain ⟨k, hk, rfl⟩ := hrel
    by_cases hlt : k < n
    · have cd : w4.cell? ⟨w2.heap.size, k, none⟩ = some (.int .i64 (nth L k)) := (unhide HiD4).cell (by rw [unhide Hlen]; exact hlt)
      have cy : w4.cell? ⟨gly, k, none⟩ = some (.int .i64 (nth L k)) := (unhide Hly).cell (by rw [unhide Hlen]; exact hlt)
      have hlo := (unhide Hlo) k hlt
      generalize nth L k = d at *
      by_cases hneg : d < 0
      · obtain rfl : d = -1 := by omega
        go_wp2
        go_round
        case rel => exact ⟨k + 1, by omega, by go_num⟩
        case measure => simp [intOf]; omega
      · have hdd : (d != d) = false := by simp
        go_wp2
        go_round
        case rel => exact ⟨k + 1, by omega, by go_num⟩
        case measure => simp [intOf]; omega
    · obtain rfl : n = k := by omega
      go_wp2_with fail
      go_loop [9, 10] (fun r c => ∃ k : Nat, k ≤ n ∧ c = .int .i64 k ∧ r = .int .i64 (reached L k)) (fun _ c => n - (intOf c).toNat)
      case atStart => exact ⟨0, Nat.zero_le _, rfl, rfl⟩
      case round =>
        clear hk hlt
        obtain ⟨k, hk, rfl, rfl⟩ := hrel
        have hrl := reached_le L k
        by_cases hlt : k < n
        · have cd : w4.cell? ⟨w2.heap.size, k, none⟩ = some (.int .i64 (nth L k)) := (unhide HiD4).cell (by rw [unhide Hlen]; exact hlt)
          have hrs := reached_succ L k
          generalize reached L k = rk at *
          generalize nth L k = d at *
          have Hrs := hide hrs
          clear hrs
          by_cases hpos : 0 ≤ d
          · go_wp2
            go_round
            case rel => exact ⟨k + 1, by omega, by go_num, by rw [unhide Hrs, if_pos hpos]; go_num⟩
            case measure => simp [intOf]; omega
          · go_wp2
            go_round
            case rel => exact ⟨k + 1, by omega, by go_num, by rw [unhide Hrs, if_neg (by omega)]; go_num⟩
            case measure => simp [intOf]; omega
        · obtain rfl : n = k := by omega
          rw [← unhide Hql]
          have hqn : Q.length ≤ n := by rw [unhide Hql]; exact reached_le L n
          have hqq : ((Q.length : Int) != (Q.length : Int)) = false := by simp
          clear hrl
          go_wp2_with (at_make; refine wpList_make_full _ rfl _ _ 40 rfl w4.heap.size 4 j0 (.bool false) 1 Yba.underlying40 hj hy0 hy1 _ _ _ _ n rfl rfl (by omega) (by omega) (by rw [hy2]; omega) (by unfold maxLen; omega) (by omega) ?_)
          intro w5 hown5 hgrow5
          have hr5 := (rowAt_of_own hown5).1
          rw [toList_madeCells_one] at hr5
          have hb5 : Below w4.heap.size w4 w5 := (Below.refl _ _).grown hgrow5 (Nat.le_refl _) (by intro k hk; cases hk)
          have Hsb : Hid (RowAt w5 w4.heap.size 4 (bcellsB (List.replicate n false))) := hide (by simpa [bcellsB] using hr5)
          have Hc3 := hide c3
          have Hc4 := hide c4
          have hgly4 : gly < w4.heap.size := RowAt.lt (unhide Hly)
          have hgd4 : w2.heap.size < w4.heap.size := RowAt.lt (unhide HiD4)
          have hgm4 : gm < w4.heap.size := World.block_lt_of_cell? w4 _ c4
          clear hown5 hgrow5 hr5 c3 c4 hqq
          go_wp2_with fail
          go_loopw [12] (fun c wr => ∃ k : Nat, k ≤ Q.length ∧ c = .int .i64 k ∧ ∃ sb, Hid (Seen n Q k sb) ∧ Hid (RowAt wr w4.heap.size 4 (bcellsB sb)) ∧ Below w4.heap.size w4 wr) (fun c _ => Q.length - (intOf c).toNat)
          case atStart => exact ⟨0, Nat.zero_le _, rfl, _, hide (seen_zero n Q), Hsb, hb5⟩
          case round =>
            clear Hsb hb5 hk hlt
            obtain ⟨k, hk, rfl, sb, Hsn, Hsb, hb5⟩ := hrel
            have c4 : wr.cell? ⟨gm, 4, none⟩ = some (.slice qa Q.length qc) := (hb5.cell hgm4).trans (unhide Hc4)
            by_cases hlt : k < Q.length
            · obtain ⟨qb, rfl, hqb, cq4⟩ := (unhide Hq).at (by rw [qi_length]) hlt
              have hcq : ∀ j, j < Q.length → wr.cell? ⟨qb, j, none⟩ = some (.int .i64 ((qth Q j : Nat) : Int)) := by
                intro j hj
                obtain ⟨qb', e, _, c⟩ := (unhide Hq).at (by rw [qi_length]) hj
                simp at e
                subst e
                rw [qi_at Q j hj] at c
                exact (hb5.cell hqb).trans c
              have hcd : ∀ v, v < n → wr.cell? ⟨w2.heap.size, v, none⟩ = some (.int .i64 (nth L v)) := fun v hv => (hb5.cell hgd4).trans ((unhide HiD4).cell (by rw [unhide Hlen]; exact hv))
              have hmem := ((unhide Hmem) _).1 (qth_mem Q k hlt)
              have cq := hcq k hlt
              have cs : wr.cell? ⟨w4.heap.size, qth Q k, none⟩ = some (.bool false) := by
                rw [(unhide Hsb).cell, bcellsB_at sb _ (by rw [(unhide Hsn).1]; exact hmem.1), seen_new (unhide Hsn) (unhide Hnd) hlt hmem.1]
              have csf := (unhide Hsb).free (qth Q k)
              have cd := hcd _ hmem.1
              have Hsb2 := hide ((unhide Hsb).set (qth Q k) (.bool true))
              have Hsn2 := hide (seen_step (unhide Hsn) hmem.1)
              have hbs : bcellsB (sb.set (qth Q k) true) = (bcellsB sb).set (qth Q k) (.bool true) := by simp [bcellsB, List.map_set]
              rw [← hbs] at Hsb2
              have hset : ∀ b o x, b ≠ w4.heap.size → wr.cell? ⟨b, o, none⟩ = some x → (wr.setCell ⟨w4.heap.size, qth Q k, none⟩ (.bool true)).cell? ⟨b, o, none⟩ = some x := by
                intro b o x hne hx
                exact (World.cell?_of_block (w := wr) (a := ⟨b, o, none⟩) (heap_setCell_other wr ⟨w4.heap.size, qth Q k, none⟩ b _ hne)).trans hx
              have s4 := hset gm 4 _ (by omega) c4
              have sd := hset _ _ _ (by omega) cd
              have hord : ∀ j, j < k → nth L (qth Q j) ≤ nth L (qth Q k) := fun j hj => (unhide Hord) j k hj hlt
              have hmemj : ∀ j, j < k → qth Q j < n := fun j hj => (((unhide Hmem) _).1 (qth_mem Q j (by omega))).1
              have hb6 := hb5.setCell (p := ⟨w4.heap.size, qth Q k, none⟩) (Nat.le_refl _) (.bool true)
              by_cases hk0 : k = 0
              · subst hk0
                generalize qth Q 0 = v at *
                generalize nth L v = d at *
                have hv1 : ¬ ((n : Int) ≤ (v : Int)) := by omega
                clear cq4 hcq hcd hbs hset hord hmemj
                go_wp2_with fail
                go_quiet (fail)
                go_wp2
                go_roundw
                case rel => exact ⟨1, by omega, rfl, _, Hsn2, Hsb2, below_drewN hb6 _⟩
                case measure => simp [intOf]; omega
              · obtain ⟨j, rfl⟩ : ∃ j, k = j + 1 := ⟨k - 1, by omega⟩
                have hj := hord j (by omega)
                have hjn := hmemj j (by omega)
                have sq := hset _ _ _ (by omega) (hcq j (by omega))
                have sdj := hset _ _ _ (by omega) (hcd _ hjn)
                have hord2 : decide (nth L (qth Q (j + 1)) < nth L (qth Q j)) = false := by simp; omega
                generalize qth Q (j + 1) = v at *
                generalize qth Q j = u at *
                generalize nth L v = d at *
                generalize nth L u = d2 at *
                have hv1 : ¬ ((n : Int) ≤ (v : Int)) := by omega
                clear cq4 hcq hcd hbs hset hord hmemj
                go_wp2_with fail
                go_quiet (fail)
                go_wp2
                go_roundw
                case rel => exact ⟨j + 1 + 1, by omega, by go_num, _, Hsn2, Hsb2, below_drewN hb6 _⟩
                case measure => simp [intOf]; omega
            · go_wp2
              go_ret
              exact ⟨rfl, hbel4.trans (hb5.mono hbel4.size)⟩

end Go.Proofs.Ybulkbbdc
