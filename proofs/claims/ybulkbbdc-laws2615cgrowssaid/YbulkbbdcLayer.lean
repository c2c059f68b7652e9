/- layerFree (function 11): the layers by a queue. -/
import Derived.Test.YbulkbbdcRo
namespace Go.Proofs.Ybulkbbdc
open Go.RowKit Gr

def qi (Q : List Nat) : List Int := Q.map fun (v : Nat) => (v : Int)
theorem qi_length (Q : List Nat) : (qi Q).length = Q.length := by simp [qi]
theorem qi_append (Q : List Nat) (v : Nat) : qi (Q ++ [v]) = qi Q ++ [(v : Int)] := by simp [qi]
theorem qi_at (Q : List Nat) (i : Nat) (h : i < Q.length) : nth (qi Q) i = (qth Q i : Int) := by
  simp [qi, nth, qth, List.getD_eq_getElem?_getD, h]

/-- which blocks layerFree may write -/
def lex (gly gm B : Nat) (k : Nat) : Prop := k = gly ∨ k = gm ∨ B ≤ k

/-- what layerFree has in hand: the layers, the matcher's own cells, the queue -/
structure LSt (w wr : World) (gm ga gpl gpr gly : Nat) (g : Grf) (L : List Int) (Q : List Nat) (qv : Value) : Prop where
  ly : IntsAt wr gly L
  mt : RowAt wr gm 38 (mcells ga gpl gpr gly g.n g.m qv)
  qu : wr.ownsRow w.heap.size 3 1 qv Q.length (icells (qi Q))
  kp : Kept (lex gly gm w.heap.size) w wr

section
variable {w wr : World} {gm ga gpl gpr gly : Nat} {g : Grf} {L : List Int} {Q : List Nat} {qv : Value}

theorem LSt.setLy (h : LSt w wr gm ga gpl gpr gly g L Q qv) (hne : gm ≠ gly) (hly : gly < w.heap.size) (v : Nat) (x : Int) : LSt w (wr.setCell ⟨gly, v, none⟩ (.int .i64 x)) gm ga gpl gpr gly g (L.set v x) Q qv :=
  ⟨h.ly.set v x, h.mt.other _ _ hne, ownsRow_setCell_below h.qu hly _, h.kp.setCell (.inl rfl) _⟩

theorem LSt.drewN (h : LSt w wr gm ga gpl gpr gly g L Q qv) (n : Nat) : LSt w (wr.drewN n) gm ga gpl gpr gly g L Q qv :=
  ⟨h.ly, h.mt, h.qu, h.kp.drewN n⟩

theorem LSt.drew (h : LSt w wr gm ga gpl gpr gly g L Q qv) : LSt w wr.drew gm ga gpl gpr gly g L Q qv :=
  ⟨h.ly, h.mt, h.qu, h.kp.drew⟩

theorem LSt.push (h : LSt w wr gm ga gpl gpr gly g L Q qv) (hne : gm ≠ gly) (hly : gly < w.heap.size) (hgm : gm < w.heap.size) {o : Obj} {v' : Value} {w2 : World} (v : Nat)
    (hown : w2.ownsRow w.heap.size 3 1 v' (Q.length + 1) (icells (qi Q) ++ [.int .i64 v])) (hg : (wr.alloc o).grownBy w2 qv.ownBlock) :
    RowAt w2 gm 38 (mcells ga gpl gpr gly g.n g.m qv) ∧ LSt w (w2.setCell ⟨gm, 4, none⟩ v') gm ga gpl gpr gly g L (Q ++ [v]) v' := by
  have hs : w.heap.size ≤ wr.heap.size := h.kp.size
  have hblk : ∀ k, qv.ownBlock = some k → w.heap.size ≤ k := fun k hk => (h.qu.lt k hk).1
  have kp1 : Kept (lex gly gm w.heap.size) wr w2 :=
    ((Kept.refl _ wr).alloc (.inr (.inr hs)) o).grown hg (fun k hk => .inr (.inr (hblk k hk))) (fun k hk => .inr (.inr (by simp at hk; omega)))
  have old : ∀ k, k < w.heap.size → w2.heap[k]? = wr.heap[k]? := by
    intro k hk
    have h1 : w2.heap[k]? = (wr.alloc o).heap[k]? := hg.block k (by simp; omega) (fun e => by have := hblk k e.symm; omega)
    rw [h1]
    exact Below.heap_alloc wr o k (by omega)
  have mt2 : RowAt w2 gm 38 (mcells ga gpl gpr gly g.n g.m qv) := (old gm hgm).trans h.mt
  refine ⟨mt2, ?_, ?_, ?_, ?_⟩
  · exact RowAt.other ((old gly hly).trans h.ly) _ _ (fun e => hne e.symm)
  · exact mt2.set 4 v'
  · have e1 : (Q ++ [v]).length = Q.length + 1 := by simp
    have e2 : icells (qi (Q ++ [v])) = icells (qi Q) ++ [.int .i64 v] := by rw [qi_append, icells_append]; rfl
    rw [e1, e2]
    exact ownsRow_setCell_below hown hgm _
  · exact (h.kp.trans kp1).setCell (.inr (.inl rfl)) _
end

theorem one_new {w : World} {s : Nat} (hs : w.heap.size = s) (x : Value) (e : TypeId) : ∀ j u, [x][j]? = some u → (w.alloc (.cells #[x] e)).cell? ((⟨s, 0, none⟩ : Addr).add j) = some u := by
  subst hs
  exact cell_one_new _ _ _

theorem own_form {w : World} {base n : Nat} {e : TypeId} {v : Value} {xs : List Value} (h : w.ownsRow base e 1 v n xs) : ∃ a c, v = .slice a n c := by
  rcases h.2 with ⟨rfl, h0⟩ | ⟨g, cap, cur, rfl, _⟩
  · exact ⟨none, 0, by rw [h0]⟩
  · exact ⟨_, cap, rfl⟩

theorem oneCell_int (x : Int) : ∀ u, u ∈ [Value.int .i64 x] → u.oneCell' = true := by
  intro u hu
  simp at hu
  subst hu
  rfl

set_option maxHeartbeats 1000000 in
set_option maxRecDepth 100000 in
theorem layer_calls (g : Grf) (ok : Ok g) (w : World) (o p gm ga gpl gpr gly : Nat) (L0 : List Int) (hro : Ro w o p ga gpl gpr g) (hpl : p ≤ gly) (hpm : p ≤ gm) (hne : gm ≠ gly)
    (hm : RowAt w gm 38 (mcells ga gpl gpr gly g.n g.m (.slice none 0 0))) (hly : IntsAt w gly L0) (hL0 : L0.length = g.n) :
    Calls Yba.prog 11 #[.pointer (some ⟨gm, 0, none⟩)] w fun e w' => ∃ L Q b qv, e = .returned (.bool b) ∧ (b = true ↔ Grows g L) ∧ IsDist g L ∧ Q.Nodup ∧ (∀ v, v ∈ Q ↔ v < g.n ∧ 0 ≤ nth L v) ∧
      (∀ a c, a < c → c < Q.length → nth L (qth Q a) ≤ nth L (qth Q c)) ∧ LSt w w' gm ga gpl gpr gly g L Q qv := by
  have hgm : gm < w.heap.size := hm.lt
  have hgly : gly < w.heap.size := RowAt.lt hly
  obtain ⟨i0, hi, hz0, hz1, hz2⟩ := info_parts info3
  have Hok := hide ok
  have Hro := hide hro
  have hn23 : g.n ≤ 23 := ok.hn
  have hm23 : g.m ≤ 23 := ok.hm
  have hgpl : gpl < p := hro.lpl
  have hgpr : gpr < p := hro.lpr
  have hga : ga < p := hro.la
  have m0 := mat_of hm
  have c4 := m0.c4
  have c4f := hm.free 4
  have c1 := m0.c1
  have hst : LSt w (w.setCell ⟨gm, 4, none⟩ (.slice none 0 0)) gm ga gpl gpr gly g L0 [] (.slice none 0 0) :=
    ⟨RowAt.other hly _ _ (fun e => hne e.symm), hm.set 4 _, World.ownsRow_nil _ _ _ _, (Kept.refl _ _).setCell (.inr (.inl rfl)) _⟩
  have Hst := hide hst
  have Hini := hide (Ini.zero (g := g) hL0)
  clear ok hro hm m0 hst hly hL0
  go_enter Yba.func11, Yba.ntmps11
  go_wp2_with fail
  clear c1 c4 c4f
  go_loopw [24] (fun i wr => ∃ k : Nat, k ≤ g.n ∧ i = .int .i64 k ∧ ∃ L Q qv, Hid (Ini g k L Q) ∧ Hid (LSt w wr gm ga gpl gpr gly g L Q qv)) (fun i _ => g.n - (intOf i).toNat)
  case atStart => exact ⟨0, Nat.zero_le _, rfl, L0, [], _, Hini, Hst⟩
  case round =>
    clear Hini Hst
    obtain ⟨k, hk, rfl, L, Q, qv, Hini, Hst⟩ := hrel
    have hws : w.heap.size ≤ wr.heap.size := (unhide Hst).kp.size
    by_cases hlt : k < g.n
    · have hbel : Below p w wr := (unhide Hst).kp.below (fun k hk h => by rcases h with h | h | h <;> omega)
      have c2 : wr.cell? ⟨gpl, k, none⟩ = some (.int .i64 (nth g.PL k)) := (hbel.cell hgpl).trans ((unhide Hro).pl.cell (by rw [(unhide Hok).lPL]; exact hlt))
      have m0 := mat_of (unhide Hst).mt
      have c3 := m0.c3
      have c4 := m0.c4
      have c5 : wr.cell? ⟨gly, k, none⟩ = some (.int .i64 (nth L k)) := (unhide Hst).ly.cell (by rw [(unhide Hini).len]; exact hlt)
      have c5f : wr.frozen? ⟨gly, k, none⟩ = false := (unhide Hst).ly.free k
      have hql : Q.length ≤ k := (unhide Hini).ql
      clear m0 hbel
      by_cases hneg : nth g.PL k < 0
      · have Hst1 := hide ((unhide Hst).setLy hne hgly k 0)
        have hown := (unhide Hst1).qu
        have d4 := (mat_of (unhide Hst1).mt).c4
        go_wp2_with (at_builtin; refine wpList_append_own _ rfl _ _ 27 rfl w.heap.size 3 i0 (.int .i64 0) 1 8 Yba.underlying27 hi hz0 hz1 hz2 rfl (by decide) _ Q.length _ rfl (hown.alloc _) ⟨wr.heap.size, 0, none⟩ 1 1 [.int .i64 (k : Int)] rfl rfl (one_new (by simp) _ _) (oneCell_int _) (by unfold maxLen; omega) (by omega) (by simp; omega) ?_)
        intro v' w2 hown2 hgrow2 _
        obtain ⟨va, vc, rfl⟩ := own_form hown2
        have R := (unhide Hst1).push hne hgly hgm k hown2 hgrow2
        have e4 := (mat_of R.1).c4
        have e4f := R.1.free 4
        have Hst2 := hide R.2
        clear hown2 hgrow2 R hown d4 Hst1
        go_wp2
        go_roundw
        case rel => exact ⟨k + 1, by omega, by go_num, _, _, _, hide ((unhide Hini).free hlt hneg), Hst2⟩
        case measure => simp [intOf]; omega
      · go_wp2
        go_roundw
        case rel => exact ⟨k + 1, by omega, by go_num, _, Q, qv, hide ((unhide Hini).paired hlt (by omega)), hide ((unhide Hst).setLy hne hgly k (-1))⟩
        case measure => simp [intOf]; omega
    · obtain rfl : k = g.n := by omega
      have Hbfs := hide (unhide Hini).bfs
      clear Hini
      go_wp2_with fail
      go_loopw [5, 6] (fun c i wr => ∃ i' : Nat, i = .int .i64 i' ∧ ∃ b L Q qv, c = .bool b ∧ Hid (Bfs g i' 0 L Q b) ∧ Hid (LSt w wr gm ga gpl gpr gly g L Q qv)) (fun _ i _ => g.n - (intOf i).toNat)
      case atStart => exact ⟨0, rfl, false, L, Q, qv, rfl, Hbfs, Hst⟩
      case round =>
        clear Hbfs Hst hws hk hlt
        obtain ⟨i, rfl, b, L, Q, qv, rfl, Hbfs, Hst⟩ := hrel
        have hql : Q.length ≤ g.n := (unhide Hbfs).ql
        have hil : i ≤ Q.length := (unhide Hbfs).il
        have hlq : (qi Q).length = Q.length := qi_length Q
        have hws : w.heap.size ≤ wr.heap.size := (unhide Hst).kp.size
        have hsl0 := slAt_of_own (unhide Hst).qu
        obtain ⟨qa, qc, hqv⟩ := hsl0.form
        rw [hlq] at hqv
        subst hqv
        have m0 := mat_of (unhide Hst).mt
        have c4 := m0.c4
        clear m0 hlq
        by_cases hlt : i < Q.length
        · obtain ⟨qb, rfl, hqb, cq⟩ := hsl0.at (by rw [qi_length]) hlt
          rw [qi_at Q i hlt] at cq
          have hmem := ((unhide Hbfs).mem _).1 (qth_mem Q i hlt)
          generalize hl : qth Q i = l at *
          have Hl := hide hl
          have hln : l < g.n := hmem.1
          have hbel : Below p w wr := (unhide Hst).kp.below (fun k hk h => by rcases h with h | h | h <;> omega)
          have c0 := (mat_of (unhide Hst).mt).c0
          obtain ⟨ar, cap, c5w, hsl⟩ := (unhide Hro).rowOf hln
          have c5 : wr.cell? ⟨ga, l, none⟩ = some (.slice ar (row g.A l).length cap) := (hbel.cell hga).trans c5w
          have hwid : (row g.A l).length ≤ g.m := (unhide Hok).wid l
          generalize hlen : (row g.A l).length = rl at *
          have Hlen := hide hlen
          have Hsl := hide hsl
          have Hi := hide hlt
          clear hlen hsl c5w hl hmem hsl0 hbel
          go_wp2_with fail
          clear c0 c5 cq c4
          go_loopw [5, 78] (fun c j wr => ∃ t : Nat, t ≤ rl ∧ j = .int .i64 t ∧ ∃ b L Q qv, c = .bool b ∧ Hid (Bfs g i t L Q b) ∧ Hid (i < Q.length) ∧ Hid (qth Q i = l) ∧ Hid (LSt w wr gm ga gpl gpr gly g L Q qv)) (fun _ j _ => rl - (intOf j).toNat)
          case atStart => exact ⟨0, Nat.zero_le _, rfl, b, L, Q, _, rfl, Hbfs, Hi, Hl, Hst⟩
          case round =>
            clear Hbfs Hst Hi Hl hws hil hql hlt
            obtain ⟨t, ht, rfl, b, L, Q, qv, rfl, Hbfs, Hi, Hl, Hst⟩ := hrel
            by_cases htl : t < rl
            · obtain ⟨ba, rfl, hba, cw⟩ := (unhide Hsl).at (unhide Hlen).symm htl
              have hws : w.heap.size ≤ wr.heap.size := (unhide Hst).kp.size
              have hbel : Below p w wr := (unhide Hst).kp.below (fun k hk h => by rcases h with h | h | h <;> omega)
              have m0 := mat_of (unhide Hst).mt
              have c2 := m0.c2
              have c3 := m0.c3
              have hedge := (unhide Hok).rng l (nth (row g.A l) t) (nth_mem (by rw [unhide Hlen]; exact htl))
              obtain ⟨rN, hrN⟩ := Int.eq_ofNat_of_zero_le hedge.1
              have cr : wr.cell? ⟨ba, t, none⟩ = some (.int .i64 (rN : Int)) := by rw [← hrN]; exact (hbel.cell hba).trans cw
              have hrm : rN < g.m := by omega
              have cp : wr.cell? ⟨gpr, rN, none⟩ = some (.int .i64 (nth g.PR rN)) := (hbel.cell hgpr).trans ((unhide Hro).pr.cell (by rw [(unhide Hok).lPR]; exact hrm))
              have hto : to g (nth (row g.A l) t) = nth g.PR rN := by unfold to; rw [hrN]; simp
              have htgt : nth g.PR rN < g.n := (unhide Hok).tgt rN hrm
              generalize nth g.PR rN = nx at *
              have Hto := hide hto
              clear hto hrN hedge cw m0 hbel
              by_cases hneg : nx < 0
              · go_wp2
                go_roundw
                case rel => exact ⟨t + 1, by omega, by go_num, true, L, Q, qv, rfl, hide ((unhide Hbfs).free (by rw [unhide Hl, unhide Hto]; exact hneg)), Hi, Hl, Hst⟩
                case measure => simp [intOf]; omega
              · obtain ⟨v, rfl⟩ := Int.eq_ofNat_of_zero_le (show 0 ≤ nx by omega)
                have hvn : v < g.n := by omega
                have hlen := (unhide Hbfs).len
                have cv : wr.cell? ⟨gly, v, none⟩ = some (.int .i64 (nth L v)) := (unhide Hst).ly.cell (by rw [hlen]; exact hvn)
                have hlo := (unhide Hbfs).lo v hvn
                clear hlen
                by_cases hlv : nth L v < 0
                · have hl1 : nth L v = -1 := by omega
                  rw [hl1] at cv
                  have Hlv := hide hlv
                  have cvf : wr.frozen? ⟨gly, v, none⟩ = false := (unhide Hst).ly.free v
                  have cl : wr.cell? ⟨gly, l, none⟩ = some (.int .i64 (nth L l)) := (unhide Hst).ly.cell (by rw [(unhide Hbfs).len]; exact hln)
                  have hll0 : 0 ≤ nth L l := by rw [← unhide Hl]; exact (((unhide Hbfs).mem _).1 (qth_mem Q i (unhide Hi))).2
                  have hll1 : nth L l ≤ 23 := by have := (unhide Hbfs).hi i (unhide Hi); rw [unhide Hl] at this; have := unhide Hi; have := (unhide Hbfs).ql; omega
                  have hql : Q.length ≤ g.n := (unhide Hbfs).ql
                  have Hst1 := hide ((unhide Hst).setLy hne hgly v (nth L l + 1)).drew
                  generalize hll : nth L l = ll at *
                  have Hll := hide hll
                  clear hll hl1 hlv hlo
                  go_wp2_with fail
                  go_region
                  generalize (wr.setCell ⟨gly, v, none⟩ (.int .i64 (ll + 1))).drew = W1 at *
                  clear cv cvf cl c2 c3 cr cp hws
                  have hws : w.heap.size ≤ W1.heap.size := (unhide Hst1).kp.size
                  have hown := (unhide Hst1).qu
                  have d4 := (mat_of (unhide Hst1).mt).c4
                  go_wp2_with (at_builtin; refine wpList_append_own _ rfl _ _ 27 rfl w.heap.size 3 i0 (.int .i64 0) 1 8 Yba.underlying27 hi hz0 hz1 hz2 rfl (by decide) _ Q.length _ rfl (hown.alloc _) ⟨W1.heap.size, 0, none⟩ 1 1 [.int .i64 (v : Int)] rfl rfl (one_new rfl _ _) (oneCell_int _) (by unfold maxLen; omega) (by omega) (by simp; omega) ?_)
                  intro v' w2 hown2 hgrow2 _
                  obtain ⟨va, vc, rfl⟩ := own_form hown2
                  have R := (unhide Hst1).push hne hgly hgm v hown2 hgrow2
                  have e4 := (mat_of R.1).c4
                  have e4f := R.1.free 4
                  have Hst2 := hide R.2
                  clear hown2 hgrow2 R hown d4 Hst1
                  go_wp2
                  go_roundw
                  case rel =>
                    refine ⟨t + 1, by omega, by go_num, b, _, _, _, rfl, ?_, ?_, ?_, Hst2⟩
                    · have hb := (unhide Hbfs).push (unhide Hok) (unhide Hi) (by rw [unhide Hl, unhide Hlen]; exact htl) v (by rw [unhide Hl]; exact unhide Hto) (unhide Hlv)
                      rw [unhide Hl, unhide Hll] at hb
                      exact hb
                    · have := unhide Hi
                      exact hide (by simp; omega)
                    · refine hide ?_
                      rw [qth_append_left Q v i (unhide Hi)]
                      exact unhide Hl
                  case measure => simp [intOf]; omega
                · have hbq : (nth L v == -1) = false := by rw [beq_eq_false_iff_ne]; omega
                  go_wp2
                  go_roundw
                  case rel => exact ⟨t + 1, by omega, by go_num, b, L, Q, qv, rfl, hide ((unhide Hbfs).old (unhide Hi) v (by rw [unhide Hl]; exact unhide Hto) hvn (by omega)), Hi, Hl, Hst⟩
                  case measure => simp [intOf]; omega
            · obtain rfl : t = rl := by omega
              have hi2 : i < Q.length := unhide Hi
              have hqn : Q.length ≤ g.n := (unhide Hbfs).ql
              go_wp2
              go_roundw
              case rel => exact ⟨i + 1, by go_num, b, L, Q, qv, rfl, hide ((unhide Hbfs).finish hi2 (by rw [unhide Hl]; exact (unhide Hlen).symm)), Hst⟩
              case measure => simp [intOf]; omega
        · go_wp2
          go_ret
          exact ⟨L, Q, b, _, rfl, (unhide Hbfs).grows hlt, (unhide Hbfs).dist (unhide Hok) hlt, (unhide Hbfs).nd, (unhide Hbfs).mem, (unhide Hbfs).ord, unhide Hst⟩

end Go.Proofs.Ybulkbbdc
