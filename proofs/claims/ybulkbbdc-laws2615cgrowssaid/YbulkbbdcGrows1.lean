/- LawS2615CGrows (function 5): the walk. -/
import Derived.Test.YbulkbbdcEq
import Derived.Test.YbulkbbdcLayers1
import Derived.Deep.RegionWith
namespace Go.Proofs.Ybulkbbdc
open Go.RowKit Gr

theorem SlAt.drewN {w : World} {lo hi : Nat} {v : Value} {xs : List Int} (h : SlAt w lo hi v xs) (n : Nat) : SlAt (w.drewN n) lo hi v xs := ⟨h.form, h.many⟩

/-- zzs2615ceq at two slices that hold the same numbers, in whatever world that has drawn -/
theorem eq_quiet (xs : List Int) (v1 v2 : Value) (o1 p1 o2 p2 : Nat) (w : World) (n : Nat) (h1 : SlAt w o1 p1 v1 xs) (h2 : SlAt w o2 p2 v2 xs) (hl : xs.length ≤ 1000) :
    Calls Yba.prog 12 #[v1, v2] (w.drewN n) fun e w'' => e = .returned (.bool true) ∧ ∃ m, w'' = w.drewN m :=
  Calls.quiet_of (eq_calls xs v1 v2 o1 p1 o2 p2 _ (h1.drewN n) (h2.drewN n) hl)

set_option maxHeartbeats 1000000 in
set_option maxRecDepth 100000 in
theorem grows_walk (w : World) (NL NR : Int) (hNL : 0 ≤ NL ∧ NL ≤ 255) (hNR : 0 ≤ NR ∧ NR ≤ 255) (ea pa ja : Option Addr) (el ec pl pc jl jc : Nat) (E K J : List Int)
    (hE : ArgRow .u8 w ea el E) (hEb : ByteRow E) (hK : ArgRow .u8 w pa pl K) (hKb : ByteRow K) (hJ : ArgRow .i64 w ja jl J) :
    Calls Yba.prog 5 #[.agg #[.int .u8 NL, .int .u8 NR, .slice ea el ec, .slice pa pl pc, .slice ja jl jc]] w fun e w' => e = .returned (.bool true) ∧ Below w.heap.size w w' := by
  have hn23 : (inp NL NR E K).n ≤ 23 := by show (NL % 24).toNat ≤ 23; omega
  have hm23 : (inp NL NR E K).m ≤ 23 := by show (NR % 24).toNat ≤ 23; omega
  have Hok := hide (grf_ok _ hn23 hm23)
  generalize hw0 : w.alloc (.cells #[.int .u8 NL, .int .u8 NR, .slice ea el ec, .slice pa pl pc, .slice ja jl jc] 29) = w0
  have hs0 : w0.heap.size = w.heap.size + 1 := by rw [← hw0]; simp
  have hbw : Below w.heap.size w w0 := by rw [← hw0]; exact (Below.refl _ _).alloc (Nat.le_refl _) _
  have hbox : RowAt w0 w.heap.size 29 [.int .u8 NL, .int .u8 NR, .slice ea el ec, .slice pa pl pc, .slice ja jl jc] := by
    unfold RowAt
    rw [← hw0]
    exact heap_alloc_new w _
  have HB := hide (fun w' (h : Below w0.heap.size w0 w') => build_calls w' NL NR hNL hNR ea pa ja el ec pl pc jl jc E K J ((hE.below hbw).below h) hEb ((hK.below hbw).below h) hKb ((hJ.below hbw).below h))
  have k0 := hbox.cell 0
  have k1 := hbox.cell 1
  have k2 := hbox.cell 2
  have k3 := hbox.cell 3
  have k4 := hbox.cell 4
  simp at k0 k1 k2 k3 k4
  have Hbox := hide hbox
  have Hs0 := hide hs0
  have Hbw := hide hbw
  have hs0i : w.heap.size < w0.heap.size := by omega
  generalize inp NL NR E K = ip at *
  clear hE hEb hK hKb hJ hbox hs0 hbw
  go_enter Yba.func5, Yba.ntmps5
  go_wp2_with fail
  refine ((unhide HB) _ (Below.refl _ _)).mono ?_
  rintro e w1 ⟨ga, gpl, gpr, gly, gm, L0, rfl, hro1, hly1, hL0, hmt1, hlm1, hlo1, hb1⟩
  have hq1 : Below (w.heap.size + 1) w0 w1 := by rw [← unhide Hs0]; exact hb1
  have hbox1 := (unhide Hbox).below hq1 (Nat.lt_succ_self _)
  clear hw0 k0 k1 k2 k3 k4
  have k0 := hbox1.cell 0
  have k1 := hbox1.cell 1
  have k2 := hbox1.cell 2
  have k3 := hbox1.cell 3
  have k4 := hbox1.cell 4
  simp at k0 k1 k2 k3 k4
  have hgm1 := hmt1.lt
  have Hro1 := hide hro1
  have Hly1 := hide hly1
  have Hmt1 := hide hmt1
  have HL0 := hide hL0
  clear hro1 hly1 hmt1 hL0 hbox1 hq1
  go_wp2_with fail
  refine ((unhide HB) _ hb1).mono ?_
  rintro e w2 ⟨ra, rpl, rpr, rly, rm, L1, rfl, hro2, hly2, hL1, hmt2, hlm2, hlo2, hb2⟩
  have hgm2 := hmt2.lt
  have Hro2 := hide hro2
  have Hmt2 := hide hmt2
  clear hro2 hly2 hmt2 hL1 k0 k1 k2 k3 k4
  go_wp2_with fail
  refine (dist_calls (grf ip) (unhide Hok) _ _ _ _ _ _ _ _ _ (unhide Hro2) (by omega) (unhide Hmt2)).mono ?_
  rintro e w3 ⟨D, b, hD, hb, rfl, hiD, hb3⟩
  have hgd := RowAt.lt hiD
  have HD := hide hD
  have Hgr := hide hb
  have HiD := hide hiD
  have hs12 := hb2.size
  have hs01 := hb1.size
  have hs23 := hb3.size
  clear hD hb hiD
  have hro3 : Ro w3 w0.heap.size gly ga gpl gpr (grf ip) := ((unhide Hro1).below hb2 (by omega)).below hb3 (by omega)
  have hly3 : IntsAt w3 gly L0 := RowAt.below (RowAt.below (unhide Hly1) hb2 (by omega)) hb3 (by omega)
  have hmt3 := ((unhide Hmt1).below hb2 hgm1).below hb3 (by omega)
  go_wp2_with fail
  refine (layer_calls (grf ip) (unhide Hok) _ _ _ _ _ _ _ _ L0 hro3 (Nat.le_refl _) (by omega) (by omega) hmt3 hly3 (unhide HL0)).mono ?_
  rintro e w4 ⟨L, Q, b4, qv, rfl, hgrow, hL, hnd, hmem, hord, hst⟩
  have hLD : L = D := hL.unique (unhide HD)
  subst hLD
  have hbb : b4 = b := by
    have h1 := unhide Hgr
    cases b4 <;> cases b <;> simp_all
  subst hbb
  have hbne : (b4 != b4) = false := by simp
  have hq4 : Ro w4 w0.heap.size gly ga gpl gpr (grf ip) := hro3.kept hst.kp (by intro k h1 h2 h; rcases h with h | h | h <;> omega)
  have hr4 : Ro w4 w1.heap.size rly ra rpl rpr (grf ip) := ((unhide Hro2).below hb3 (by omega)).kept hst.kp (by intro k h1 h2 h; rcases h with h | h | h <;> omega)
  have hm4 := mat_of hst.mt
  have hn4 := mat_of (((unhide Hmt2).below hb3 hgm2).kept hst.kp (by rintro (h | h | h) <;> omega))
  have c0 := hm4.c0
  have c1 := hm4.c1
  have c2 := hm4.c2
  have d0 : w4.cell? ⟨rm, 0, none⟩ = some (.slice (some ⟨ra, 0, none⟩) (grf ip).n (grf ip).n) := hn4.c0
  have d1 : w4.cell? ⟨rm, 1, none⟩ = some (.slice (some ⟨rpl, 0, none⟩) (grf ip).n (grf ip).n) := hn4.c1
  have d2 : w4.cell? ⟨rm, 2, none⟩ = some (.slice (some ⟨rpr, 0, none⟩) (grf ip).m (grf ip).m) := hn4.c2
  have ok := unhide Hok
  have hnn : (grf ip).n ≤ 23 := hn23
  have hmm : (grf ip).m ≤ 23 := hm23
  have s1 : SlAt w4 w0.heap.size gly (.slice (some ⟨gpl, 0, none⟩) (grf ip).n (grf ip).n) (grf ip).PL := by
    have := slAt_of_ints hq4.pl hq4.opl hq4.lpl (grf ip).n
    rw [ok.lPL] at this
    exact this
  have s2 : SlAt w4 w1.heap.size rly (.slice (some ⟨rpl, 0, none⟩) (grf ip).n (grf ip).n) (grf ip).PL := by
    have := slAt_of_ints hr4.pl hr4.opl hr4.lpl (grf ip).n
    rw [ok.lPL] at this
    exact this
  have s3 : SlAt w4 w0.heap.size gly (.slice (some ⟨gpr, 0, none⟩) (grf ip).m (grf ip).m) (grf ip).PR := by
    have := slAt_of_ints hq4.pr hq4.opr hq4.lpr (grf ip).m
    rw [ok.lPR] at this
    exact this
  have s4 : SlAt w4 w1.heap.size rly (.slice (some ⟨rpr, 0, none⟩) (grf ip).m (grf ip).m) (grf ip).PR := by
    have := slAt_of_ints hr4.pr hr4.opr hr4.lpr (grf ip).m
    rw [ok.lPR] at this
    exact this
  have l1 : (grf ip).PL.length ≤ 1000 := by rw [ok.lPL]; omega
  have l2 : (grf ip).PR.length ≤ 1000 := by rw [ok.lPR]; omega
  have HP := hide (fun n => eq_quiet (grf ip).PL _ _ _ _ _ _ w4 n s1 s2 l1)
  have HR := hide (fun n => eq_quiet (grf ip).PR _ _ _ _ _ _ w4 n s3 s4 l2)
  have hbel4 : Below w.heap.size w w4 := (((unhide Hbw).trans (hb1.mono (by omega))).trans ((hb2.mono (by omega)).trans (hb3.mono (by omega)))).trans (hst.kp.below (by intro k hk h; rcases h with h | h | h <;> omega))
  have Hq := hide hq4
  have Hr := hide hr4
  clear hgrow hL hnd hmem hord hst hm4 hn4 hro3 hly3 hmt3 HD Hgr HiD Hmt1 Hro1 Hly1 HL0 Hro2 Hmt2 hb1 hb2 hb3 HB hq4 hr4 s1 s2 s3 s4 l1 l2 ok
  have Hwid : Hid (∀ v, (row (grf ip).A v).length ≤ (grf ip).m) := hide (unhide Hok).wid
  have hnneq : (((grf ip).n : Int) != ((grf ip).n : Int)) = false := by simp
  go_wp2_with fail
  go_quiet ((first | (go_at_call_of 12 (gpl); exact (unhide HP) _) | (go_at_call_of 12 (gpr); exact (unhide HR) _)))
  go_wp2_with fail
  go_quiet (fail)
  go_wp2_with fail
  go_loopw [8] (fun c wr => ∃ k : Nat, k ≤ (grf ip).n ∧ c = .int .i64 k ∧ Hid (∃ m, wr = w4.drewN m)) (fun c _ => (grf ip).n - (intOf c).toNat)
  case atStart => exact ⟨0, Nat.zero_le _, rfl, hide ⟨_, by rw [World.drewN_drewN]⟩⟩
  case round =>
    obtain ⟨k, hk, rfl, Hm⟩ := hrel
    have hkw : Kept (fun _ => False) w4 wr := by obtain ⟨m, rfl⟩ := unhide Hm; exact (Kept.refl _ _).drewN m
    have hc : ∀ a, wr.cell? a = w4.cell? a := fun a => World.cell?_of_block (w := w4) (hkw.block a.block (fun h => h))
    have c0' := (hc _).trans c0
    have d0' := (hc _).trans d0
    have hq5 := (unhide Hq).kept hkw (fun _ _ _ h => h)
    have hr5 := (unhide Hr).kept hkw (fun _ _ _ h => h)
    clear hc hkw c0 c1 c2 d0 d1 d2
    by_cases hlt : k < (grf ip).n
    · obtain ⟨a1, p1, e1, t1⟩ := hq5.rowOf hlt
      obtain ⟨a2, p2, e2, t2⟩ := hr5.rowOf hlt
      have hw := (unhide Hwid) k
      have HE2 := hide (fun n => eq_quiet (row (grf ip).A k) _ _ _ _ _ _ wr n t1 t2 (by omega))
      generalize (row (grf ip).A k).length = rl at *
      clear t1 t2 hq5 hr5
      go_wp2_with fail
      go_quiet ((go_at_call 12; exact (unhide HE2) _))
      go_wp2
      go_roundw
      case rel =>
        obtain ⟨m, hm⟩ := unhide Hm
        exact ⟨k + 1, by omega, by go_num, hide ⟨m + nq, by rw [hm, World.drewN_drewN]⟩⟩
      case measure => simp [intOf]; omega
    · clear hq5 hr5
      go_wp2
      go_ret
      obtain ⟨m, hm⟩ := unhide Hm
      exact ⟨rfl, by rw [hm]; exact below_drewN hbel4 _⟩

end Go.Proofs.Ybulkbbdc
