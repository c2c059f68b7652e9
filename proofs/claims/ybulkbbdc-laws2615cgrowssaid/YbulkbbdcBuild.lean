/- zzs2615cbuild (function 9): the matcher that it makes. -/
import Derived.Test.YbulkbbdcDist
import Derived.Test.YbulkbbdcLayer
import Derived.Test.YbulkbbdcInp
namespace Go.Proofs.Ybulkbbdc
open Go.RowKit Gr

/-- a slice of integers that came in: its elements are zs -/
structure ArgRow (k : IntKind) (w : World) (a : Option Addr) (len : Nat) (zs : List Int) : Prop where
  ln : zs.length = len
  small : len ≤ 9223372036854775807
  many : 0 < len → ∃ b off, a = some ⟨b, off, none⟩ ∧ b < w.heap.size ∧ ∀ i, i < len → w.cell? ⟨b, off + i, none⟩ = some (.int k (nth zs i))

/-- bytes -/
def ByteRow (zs : List Int) : Prop := ∀ i, i < zs.length → 0 ≤ nth zs i ∧ nth zs i ≤ 255

def inp (NL NR : Int) (E K : List Int) : Inp where
  n := (NL % 24).toNat
  m := (NR % 24).toNat
  edge := fun k => decide (0 < E.length) && (bits .and .u8 (nth E (k % E.length)) 1 == 1)
  has := decide (0 < K.length)
  pick := fun l => (nth K (l % K.length)).toNat % ((NR % 24).toNat + 1)

theorem mul_small2 {k n : Nat} (h1 : k ≤ 23) (h2 : n ≤ 23) : k * n ≤ 529 := Nat.le_trans (Nat.mul_le_mul h1 h2) (by decide)

/-- the edges as they stand at the left vertex l behind r right vertices -/
structure ASt (wr : World) (ga lo S : Nat) (i : Inp) (l r : Nat) (vs : List Value) : Prop where
  row : RowAt wr ga 27 vs
  len : vs.length = i.n
  done : ∀ v, v < l → SlAt wr lo S (vs.getD v undef) (adjRow i v i.m)
  cur : l < i.n → wr.ownsRow S 3 1 (vs.getD l undef) (adjRow i l r).length (icells (adjRow i l r))
  rest : ∀ v, l < v → v < i.n → vs.getD v undef = .slice none 0 0
  ss : S ≤ wr.heap.size
  gs : ga < lo
  los : lo ≤ S

theorem getD_set_self (vs : List Value) (l : Nat) (x : Value) (h : l < vs.length) : (vs.set l x).getD l undef = x := by simp [List.getD_eq_getElem?_getD, h]
theorem getD_set_ne (vs : List Value) (l v : Nat) (x : Value) (h : v ≠ l) : (vs.set l x).getD v undef = vs.getD v undef := by
  have h' : ¬ l = v := fun e => h e.symm
  simp [List.getD_eq_getElem?_getD, h']

section
variable {wr : World} {ga lo S : Nat} {i : Inp} {l r : Nat} {vs : List Value}

theorem ASt.drewN (h : ASt wr ga lo S i l r vs) (n : Nat) : ASt (wr.drewN n) ga lo S i l r vs :=
  ⟨h.row, h.len, fun v hv => ⟨(h.done v hv).form, (h.done v hv).many⟩, h.cur, h.rest, h.ss, h.gs, h.los⟩

theorem ASt.no (h : ASt wr ga lo S i l r vs) (he : i.edge (l * i.m + r) = false) : ASt wr ga lo S i l (r + 1) vs := by
  refine ⟨h.row, h.len, h.done, ?_, h.rest, h.ss, h.gs, h.los⟩
  intro hl
  rw [adjRow_no i l r he]
  exact h.cur hl

theorem ASt.yes (h : ASt wr ga lo S i l r vs) (hl : l < i.n) (he : i.edge (l * i.m + r) = true) {o : Obj} {v' : Value} {w2 : World}
    (hown : w2.ownsRow S 3 1 v' ((adjRow i l r).length + 1) (icells (adjRow i l r) ++ [.int .i64 r])) (hg : (wr.alloc o).grownBy w2 (vs.getD l undef).ownBlock) :
    RowAt w2 ga 27 vs ∧ ASt (w2.setCell ⟨ga, l, none⟩ v') ga lo S i l (r + 1) (vs.set l v') := by
  have hblk : ∀ k, (vs.getD l undef).ownBlock = some k → S ≤ k := fun k hk => ((h.cur hl).lt k hk).1
  have hs := h.ss
  have old : ∀ k, k < S → w2.heap[k]? = wr.heap[k]? := by
    intro k hk
    have h1 : w2.heap[k]? = (wr.alloc o).heap[k]? := hg.block k (by simp; omega) (fun e => by have := hblk k e.symm; omega)
    rw [h1]
    exact Below.heap_alloc wr o k (by omega)
  have row2 : RowAt w2 ga 27 vs := (old ga (by have := h.gs; have := h.los; omega)).trans h.row
  have hsz : wr.heap.size ≤ w2.heap.size := Nat.le_trans (by simp) hg.size
  refine ⟨row2, row2.set l v', by rw [List.length_set]; exact h.len, ?_, ?_, ?_, ?_, h.gs, h.los⟩
  · intro v hv
    rw [getD_set_ne vs l v v' (by omega)]
    have hd := h.done v hv
    refine ⟨hd.form, fun h0 => ?_⟩
    obtain ⟨g, cap, e, hgb, hc⟩ := hd.many h0
    refine ⟨g, cap, e, hgb, fun j hj => ?_⟩
    have hga := h.gs
    refine (World.cell?_of_block (w := wr) (a := ⟨g, j, none⟩) ?_).trans (hc j hj)
    show (w2.setCell ⟨ga, l, none⟩ v').heap[g]? = _
    rw [heap_setCell_other w2 ⟨ga, l, none⟩ g v' (by show g ≠ ga; omega)]
    exact old g hgb.2
  · intro _
    rw [getD_set_self vs l v' (by rw [h.len]; exact hl), adjRow_yes i l r he]
    have e1 : (adjRow i l r ++ [(r : Int)]).length = (adjRow i l r).length + 1 := by simp
    have e2 : icells (adjRow i l r ++ [(r : Int)]) = icells (adjRow i l r) ++ [.int .i64 r] := by rw [icells_append]; rfl
    rw [e1, e2]
    exact ownsRow_setCell_below hown (by have := h.gs; have := h.los; show ga < S; omega) _
  · intro v hv hvn
    rw [getD_set_ne vs l v v' (by omega)]
    exact h.rest v hv hvn
  · show S ≤ (w2.setCell _ _).heap.size
    have : (w2.setCell ⟨ga, l, none⟩ v').heap.size = w2.heap.size := by simp [World.setCell]
    omega

theorem ASt.next (h : ASt wr ga lo S i l i.m vs) (hl : l < i.n) : ASt wr ga lo wr.heap.size i (l + 1) 0 vs := by
  refine ⟨h.row, h.len, ?_, ?_, ?_, Nat.le_refl _, h.gs, by have := h.los; have := h.ss; omega⟩
  · intro v hv
    by_cases e : v = l
    · subst e; exact (slAt_of_own (h.cur hl)).lower h.los
    · exact (h.done v (by omega)).wider h.ss
  · intro hl2
    rw [h.rest (l + 1) (by omega) hl2, adjRow_zero]
    exact World.ownsRow_nil _ _ _ _
  · intro v hv hvn
    exact h.rest v (by omega) hvn
end

def Neg (n k : Nat) (D : List Int) : Prop := D.length = n ∧ ∀ v, v < k → nth D v = -1

theorem neg_step {n k : Nat} {D : List Int} (h : Neg n k D) (hk : k < n) : Neg n (k + 1) (D.set k (-1)) := by
  refine ⟨by rw [List.length_set]; exact h.1, ?_⟩
  intro v hv
  by_cases e : v = k
  · subst e; exact nth_set_self D v _ (by rw [h.1]; exact hk)
  · rw [nth_set_ne D k v _ e]; exact h.2 v (by omega)

theorem neg_all {n : Nat} {D : List Int} (h : Neg n n D) : D = List.replicate n (-1) := by
  refine nth_ext (by simp [h.1]) ?_
  intro v hv
  rw [h.1] at hv
  rw [h.2 v hv, nth_replicate n (-1) v hv]

theorem build_ro {WA w' : World} {B P R Y : Nat} {i : Inp} {vs : List Value} (h : ASt WA (B + 1) (B + 2) P i i.n 0 vs) (hlo : B + 2 ≤ P) (hPR : P < R) (hRY : R < Y)
    (hp : IntsAt w' P (pairs i (rounds i)).1) (hr : IntsAt w' R (pairs i (rounds i)).2) (hb : Below P WA w') : Ro w' B Y (B + 1) P R (grf i) := by
  refine ⟨⟨vs, h.row.below hb (by omega), h.len, ?_⟩, hp, hr, by omega, by omega, by omega, by omega, by omega, by omega⟩
  intro v hv
  have e : row (grf i).A v = adjRow i v i.m := adjs_row i v hv
  rw [e]
  exact (((h.done v hv).below hb (Nat.le_refl _)).wider (by omega)).lower (by omega)

set_option maxHeartbeats 1000000 in
set_option maxRecDepth 100000 in
theorem build_calls (w : World) (NL NR : Int) (hNL : 0 ≤ NL ∧ NL ≤ 255) (hNR : 0 ≤ NR ∧ NR ≤ 255) (ea pa ja : Option Addr) (el ec pl pc jl jc : Nat) (E K J : List Int)
    (hE : ArgRow .u8 w ea el E) (hEb : ByteRow E) (hK : ArgRow .u8 w pa pl K) (hKb : ByteRow K) (hJ : ArgRow .i64 w ja jl J) :
    Calls Yba.prog 9 #[.agg #[.int .u8 NL, .int .u8 NR, .slice ea el ec, .slice pa pl pc, .slice ja jl jc]] w fun e w' => ∃ ga gpl gpr gly gm L0,
      e = .returned (.pointer (some ⟨gm, 0, none⟩)) ∧ Ro w' w.heap.size gly ga gpl gpr (grf (inp NL NR E K)) ∧ IntsAt w' gly L0 ∧ L0.length = (inp NL NR E K).n ∧
      RowAt w' gm 38 (mcells ga gpl gpr gly (inp NL NR E K).n (inp NL NR E K).m (.slice none 0 0)) ∧ gly < gm ∧ w.heap.size ≤ gly ∧ Below w.heap.size w w' := by
  have hn0 : NL % 24 = ((inp NL NR E K).n : Int) := by show NL % 24 = (((NL % 24).toNat : Nat) : Int); omega
  have hm0 : NR % 24 = ((inp NL NR E K).m : Int) := by show NR % 24 = (((NR % 24).toNat : Nat) : Int); omega
  have hedge : ∀ k, (inp NL NR E K).edge k = (decide (0 < el) && (bits .and .u8 (nth E (k % el)) 1 == 1)) := by intro k; rw [← hE.ln]; rfl
  have hhas : (inp NL NR E K).has = decide (0 < pl) := by rw [← hK.ln]; rfl
  have hpick : ∀ l, (inp NL NR E K).pick l = (nth K (l % pl)).toNat % ((inp NL NR E K).m + 1) := by intro l; rw [← hK.ln]; rfl
  generalize inp NL NR E K = i at *
  have hn23 : i.n ≤ 23 := by omega
  have hm23 : i.m ≤ 23 := by omega
  have Hedge := hide hedge
  have Hhas := hide hhas
  have Hpick := hide hpick
  have HE := hide hE
  have HK := hide hK
  have HJ := hide hJ
  have HEb := hide hEb
  have HKb := hide hKb
  have hel := hE.small
  have hpl := hK.small
  have hjl := hJ.small
  clear hedge hhas hpick hE hK hJ hEb hKb
  obtain ⟨i0, hi, hz0, hz1, hz2⟩ := info_parts info3
  obtain ⟨j0, hj, hy0, hy1, hy2⟩ := info_parts info27
  go_enter Yba.func9, Yba.ntmps9
  go_wp2_with (at_make; refine wpList_make_full _ rfl _ _ 36 rfl (w.heap.size + 1) 27 j0 (.slice none 0 0) 1 Yba.underlying36 hj hy0 hy1 _ _ _ _ i.n rfl rfl (by omega) (by omega) (by rw [hy2]; omega) (by unfold maxLen; omega) (by simp) ?_)
  intro w1 hown hgrow
  have hrow1 := (rowAt_of_own hown).1
  rw [toList_madeCells_one] at hrow1
  have hs1 : w.heap.size + 2 ≤ w1.heap.size := hrow1.lt
  have hast : ASt w1 (w.heap.size + 1) (w.heap.size + 2) w1.heap.size i 0 0 (List.replicate i.n (.slice none 0 0)) := by
    refine ⟨hrow1, by simp, fun v hv => by omega, ?_, ?_, Nat.le_refl _, by omega, hs1⟩
    · intro h
      rw [adjRow_zero]
      have e : (List.replicate i.n (Value.slice none 0 0)).getD 0 undef = .slice none 0 0 := by simp [List.getD_eq_getElem?_getD, h]
      rw [e]
      exact World.ownsRow_nil _ _ _ _
    · intro v _ hv
      simp [List.getD_eq_getElem?_getD, hv]
  generalize hw0 : w.alloc (.cells #[.int .u8 NL, .int .u8 NR, .slice ea el ec, .slice pa pl pc, .slice ja jl jc] 29) = w0 at *
  have hs0 : w0.heap.size = w.heap.size + 1 := by rw [← hw0]; simp
  have hbox : RowAt w0 w.heap.size 29 [.int .u8 NL, .int .u8 NR, .slice ea el ec, .slice pa pl pc, .slice ja jl jc] := by
    unfold RowAt
    rw [← hw0]
    exact heap_alloc_new w _
  have hbw : Below w.heap.size w w0 := by rw [← hw0]; exact (Below.refl _ _).alloc (Nat.le_refl _) _
  have hbel : Below (w.heap.size + 1) w0 w1 := (Below.refl _ _).grown hgrow (by omega) (by intro k hk; cases hk)
  have Hs0 := hide hs0
  have Hbox := hide hbox
  have Hbw := hide hbw
  have Hast := hide hast
  clear hown hgrow hrow1 hast hw0 hs0 hbox hbw
  go_wp2_with fail
  go_loopw [6] (fun c wr => ∃ l : Nat, l ≤ i.n ∧ c = .int .i64 l ∧ ∃ vs, Hid (ASt wr (w.heap.size + 1) (w.heap.size + 2) wr.heap.size i l 0 vs) ∧ Below (w.heap.size + 1) w0 wr) (fun c _ => i.n - (intOf c).toNat)
  case atStart => exact ⟨0, Nat.zero_le _, rfl, _, Hast, hbel⟩
  case round =>
    clear Hast hbel hs1
    obtain ⟨l, hl, rfl, vs, Hast, hbel⟩ := hrel
    by_cases hlt : l < i.n
    · obtain ⟨S, hS⟩ : ∃ S, S = wr.heap.size := ⟨_, rfl⟩
      rw [← hS] at Hast
      have hsS : w.heap.size + 2 ≤ S := (unhide Hast).los
      clear hS
      go_wp2_with fail
      go_loopw [7] (fun c wr => ∃ r : Nat, r ≤ i.m ∧ c = .int .i64 r ∧ ∃ vs, Hid (ASt wr (w.heap.size + 1) (w.heap.size + 2) S i l r vs) ∧ Below (w.heap.size + 1) w0 wr) (fun c _ => i.m - (intOf c).toNat)
      case atStart => exact ⟨0, Nat.zero_le _, rfl, _, Hast, hbel⟩
      case round =>
        clear Hast hbel
        obtain ⟨r, hr, rfl, vs, Hast, hbel⟩ := hrel
        by_cases hrt : r < i.m
        · have cb : wr.cell? ⟨w.heap.size, 2, none⟩ = some (.slice ea el ec) := (hbel.cell (Nat.lt_succ_self _)).trans ((unhide Hbox).cell 2)
          have hlm := mul_small2 (show l ≤ 23 by omega) hm23
          have hlm0 : (0 : Int) ≤ (l : Int) * (i.m : Int) := by rw [← Int.natCast_mul]; omega
          have hlm1 : (l : Int) * (i.m : Int) ≤ 529 := by rw [← Int.natCast_mul]; omega
          clear hlm
          by_cases hel0 : el = 0
          · have Hno : Hid (i.edge (l * i.m + r) = false) := hide (by rw [unhide Hedge, hel0]; simp)
            subst hel0
            have hguard : decide ((0 : Int) < ((0 : Nat) : Int)) = false := by simp
            go_wp2_with fail
            go_quiet (fail)
            go_wp2
            go_roundw
            case rel => exact ⟨r + 1, by omega, by go_num, vs, hide (((unhide Hast).no (unhide Hno)).drewN _), below_drewN hbel _⟩
            case measure => simp [intOf]; omega
          · obtain ⟨b, off, rfl, hbs, hc⟩ := (unhide HE).many (by omega)
            have hkl : (l * i.m + r) % el < el := Nat.mod_lt _ (by omega)
            have he : ((l : Int) * (i.m : Int) + (r : Int)) % (el : Int) = (((l * i.m + r) % el : Nat) : Int) := by rw [Int.natCast_emod]; simp
            have ce : wr.cell? ⟨b, off + (l * i.m + r) % el, none⟩ = some (.int .u8 (nth E ((l * i.m + r) % el))) := (((unhide Hbw).trans (hbel.mono (Nat.le_succ _))).cell hbs).trans (hc _ hkl)
            have hx := (unhide HEb) ((l * i.m + r) % el) (by rw [(unhide HE).ln]; exact hkl)
            have hed := (unhide Hedge) (l * i.m + r)
            generalize nth E ((l * i.m + r) % el) = x at *
            generalize (l * i.m + r) % el = kk at *
            have hpos : (0 : Int) < (el : Int) := by omega
            have hd : decide (0 < el) = true := by simp; omega
            rw [hd, Bool.true_and] at hed
            have Hed := hide hed
            clear hed hc
            have hposn : 0 < el := by omega
            by_cases hb : (bits .and .u8 x 1 == 1) = true
            · go_wp2_with fail
              go_quiet (fail)
              have HastD := hide ((unhide Hast).drewN nq)
              have hbelD := below_drewN hbel nq
              clear Hast hbel ce cb
              generalize wr.drewN nq = W1 at *
              have hws : S ≤ W1.heap.size := (unhide HastD).ss
              have hown := (unhide HastD).cur hlt
              have cg : W1.cell? ⟨w.heap.size + 1, l, none⟩ = some (vs.getD l undef) := by
                rw [(unhide HastD).row.cell]
                simp [List.getD_eq_getElem?_getD, (unhide HastD).len, hlt]
              have hal : (adjRow i l r).length ≤ r := adjRow_length i l r
              generalize hrv : vs.getD l undef = rv at *
              have Hrv := hide hrv
              clear hrv
              go_wp2_with (at_builtin; refine wpList_append_own _ rfl _ _ 27 rfl S 3 i0 (.int .i64 0) 1 8 Yba.underlying27 hi hz0 hz1 hz2 rfl (by decide) _ (adjRow i l r).length _ rfl (hown.alloc _) ⟨W1.heap.size, 0, none⟩ 1 1 [.int .i64 (r : Int)] rfl rfl (one_new rfl _ _) (oneCell_int _) (by unfold maxLen; omega) (by omega) (by simp; omega) ?_)
              intro v' w2 hown2 hgrow2 _
              obtain ⟨va, vc, rfl⟩ := own_form hown2
              have R := (unhide HastD).yes hlt (by rw [unhide Hed]; exact hb) hown2 (by rw [unhide Hrv]; exact hgrow2)
              have hblk : ∀ k, rv.ownBlock = some k → S ≤ k := fun k hk => (hown.lt k hk).1
              have hbel2 : Below (w.heap.size + 1) w0 w2 := (hbelD.alloc (by omega) _).grown hgrow2 (by simp; omega) (fun k hk => by have := hblk k hk; omega)
              have eg : w2.cell? ⟨w.heap.size + 1, l, none⟩ = some rv := by
                rw [R.1.cell, ← unhide Hrv]
                simp [List.getD_eq_getElem?_getD, (unhide HastD).len, hlt]
              have egf := R.1.free l
              have Hast2 := hide R.2
              clear hown2 hgrow2 R hown cg HastD hbelD hblk
              go_wp2
              go_roundw
              case rel => exact ⟨r + 1, by omega, by go_num, _, Hast2, hbel2.setCell (Nat.le_refl _) _⟩
              case measure => simp [intOf]; omega
            · have hb' : (bits .and .u8 x 1 == 1) = false := by simpa using hb
              clear hb
              go_wp2_with fail
              go_quiet (fail)
              go_wp2
              go_roundw
              case rel => exact ⟨r + 1, by omega, by go_num, vs, hide (((unhide Hast).no (by rw [unhide Hed]; exact hb')).drewN _), below_drewN hbel _⟩
              case measure => simp [intOf]; omega
        · obtain rfl : r = i.m := by omega
          go_wp2
          go_roundw
          case rel => exact ⟨l + 1, by omega, by go_num, vs, hide ((unhide Hast).next hlt), hbel⟩
          case measure => simp [intOf]; omega
    · obtain rfl : l = i.n := by omega
      have hs2 : w.heap.size + 2 ≤ wr.heap.size := (unhide Hast).los
      obtain ⟨WA, rfl⟩ : ∃ WA, WA = wr := ⟨_, rfl⟩
      obtain ⟨P, hP⟩ : ∃ P, P = WA.heap.size := ⟨_, rfl⟩
      have HP := hide hP
      have hlo : w.heap.size + 2 ≤ P := by omega
      rw [← hP] at Hast
      clear hP
      have hbelA := hbel
      clear hbel
      go_wp2_with (at_make; refine wpList_make_full _ rfl _ _ 27 rfl WA.heap.size 3 i0 (.int .i64 0) 1 Yba.underlying27 hi hz0 hz1 _ _ _ _ i.n rfl rfl (by omega) (by omega) (by rw [hz2]; omega) (by unfold maxLen; omega) (by omega) ?_)
      rw [← unhide HP]
      intro w2 hown2 hgrow2
      have hip2 : IntsAt w2 P (List.replicate i.n 0) := ints_made (rowAt_of_own hown2).1
      have hbP2 : Below P WA w2 := (Below.refl _ _).grown hgrow2 (by rw [unhide HP]; exact Nat.le_refl _) (by intro k hk; cases hk)
      clear hown2 hgrow2 hs2
      go_wp2_with fail
      go_loopw [10] (fun c wr => ∃ k : Nat, k ≤ i.n ∧ c = .int .i64 k ∧ ∃ D, Hid (Neg i.n k D) ∧ Hid (IntsAt wr P D) ∧ Below P WA wr) (fun c _ => i.n - (intOf c).toNat)
      case atStart => exact ⟨0, Nat.zero_le _, rfl, _, hide ⟨by simp, fun v hv => by omega⟩, hide hip2, hbP2⟩
      case round =>
        clear hip2 hbP2
        obtain ⟨k, hk, rfl, D, hD, hip, hbP⟩ := hrel
        by_cases hlt : k < i.n
        · have c3 : wr.cell? ⟨P, k, none⟩ = some (.int .i64 (nth D k)) := (unhide hip).cell (by rw [(unhide hD).1]; exact hlt)
          have c4 : wr.frozen? ⟨P, k, none⟩ = false := (unhide hip).free k
          go_wp2
          go_roundw
          case rel => exact ⟨k + 1, by omega, by go_num, _, hide (neg_step (unhide hD) hlt), hide ((unhide hip).set k (-1)), hbP.setCell (Nat.le_refl _) _⟩
          case measure => simp [intOf]; omega
        · obtain rfl : k = i.n := by omega
          have hDe := neg_all (unhide hD)
          subst hDe
          obtain ⟨WB, rfl⟩ : ∃ WB, WB = wr := ⟨_, rfl⟩
          obtain ⟨R, hR⟩ : ∃ R, R = WB.heap.size := ⟨_, rfl⟩
          have HR := hide hR
          have hPR : P < R := by rw [hR]; exact RowAt.lt (unhide hip)
          clear hR hD
          go_wp2_with (at_make; refine wpList_make_full _ rfl _ _ 27 rfl WB.heap.size 3 i0 (.int .i64 0) 1 Yba.underlying27 hi hz0 hz1 _ _ _ _ i.m rfl rfl (by omega) (by omega) (by rw [hz2]; omega) (by unfold maxLen; omega) (by omega) ?_)
          rw [← unhide HR]
          intro w3 hown3 hgrow3
          have hir3 : IntsAt w3 R (List.replicate i.m 0) := ints_made (rowAt_of_own hown3).1
          have hbR3 : Below R WB w3 := (Below.refl _ _).grown hgrow3 (by rw [unhide HR]; exact Nat.le_refl _) (by intro k hk; cases hk)
          clear hown3 hgrow3
          go_wp2_with fail
          go_loopw [12] (fun c wr => ∃ k : Nat, k ≤ i.m ∧ c = .int .i64 k ∧ ∃ D, Hid (Neg i.m k D) ∧ Hid (IntsAt wr R D) ∧ Below R WB wr) (fun c _ => i.m - (intOf c).toNat)
          case atStart => exact ⟨0, Nat.zero_le _, rfl, _, hide ⟨by simp, fun v hv => by omega⟩, hide hir3, hbR3⟩
          case round =>
            clear hir3 hbR3
            obtain ⟨k, hk, rfl, D, hD, hir, hbR⟩ := hrel
            by_cases hlt : k < i.m
            · have c3 : wr.cell? ⟨R, k, none⟩ = some (.int .i64 (nth D k)) := (unhide hir).cell (by rw [(unhide hD).1]; exact hlt)
              have c4 : wr.frozen? ⟨R, k, none⟩ = false := (unhide hir).free k
              go_wp2
              go_roundw
              case rel => exact ⟨k + 1, by omega, by go_num, _, hide (neg_step (unhide hD) hlt), hide ((unhide hir).set k (-1)), hbR.setCell (Nat.le_refl _) _⟩
              case measure => simp [intOf]; omega
            · obtain rfl : k = i.m := by omega
              have hDe := neg_all (unhide hD)
              subst hDe
              have hip4 : IntsAt wr P (List.replicate i.n (-1)) := RowAt.below (unhide hip) hbR hPR
              have hbP4 : Below P WA wr := hbP.trans (hbR.mono (by omega))
              have hRs : R < wr.heap.size := RowAt.lt (unhide hir)
              have Hip := hide hip4
              clear hip hbP hip4 hD hbR
              obtain ⟨w4, rfl⟩ : ∃ w4, w4 = wr := ⟨_, rfl⟩
              have ck : w4.cell? ⟨w.heap.size, 3, none⟩ = some (.slice pa pl pc) := ((hbelA.trans (hbP4.mono (by omega))).cell (Nat.lt_succ_self _)).trans ((unhide Hbox).cell 3)
              by_cases hp0 : pl = 0
              · have hgp : decide (0 < pl) = false := by simp; omega
                have hrd : pairs i (rounds i) = (List.replicate i.n (-1), List.replicate i.m (-1)) := by unfold rounds; rw [unhide Hhas, hgp]; rfl
                have hip : Hid (IntsAt w4 P (pairs i (rounds i)).1) := hide (by rw [hrd]; exact unhide Hip)
                have hir2 : Hid (IntsAt w4 R (pairs i (rounds i)).2) := hide (by rw [hrd]; exact unhide hir)
                have hbP := hbP4
                clear hir Hip hrd hbP4
                have hir := hir2
                clear hir2
                subst hp0
                obtain ⟨wr, rfl⟩ : ∃ wr, wr = w4 := ⟨_, rfl⟩
                obtain ⟨WC, rfl⟩ : ∃ WC, WC = wr := ⟨_, rfl⟩
                obtain ⟨Y, hY⟩ : ∃ Y, Y = WC.heap.size := ⟨_, rfl⟩
                have HY := hide hY
                have hRY : R < Y := by omega
                clear hY
                have cj : WC.cell? ⟨w.heap.size, 4, none⟩ = some (.slice ja jl jc) := ((hbelA.trans (hbP.mono (by omega))).cell (Nat.lt_succ_self _)).trans ((unhide Hbox).cell 4)
                go_wp2_with (at_make; refine wpList_make_full _ rfl _ _ 27 rfl WC.heap.size 3 i0 (.int .i64 0) 1 Yba.underlying27 hi hz0 hz1 _ _ _ _ i.n rfl rfl (by omega) (by omega) (by rw [hz2]; omega) (by unfold maxLen; omega) (by omega) ?_)
                rw [← unhide HY]
                intro w5 hown5 hgrow5
                have hiy5 : IntsAt w5 Y (List.replicate i.n 0) := ints_made (rowAt_of_own hown5).1
                have hbY5 : Below Y WC w5 := (Below.refl _ _).grown hgrow5 (by rw [unhide HY]; exact Nat.le_refl _) (by intro k hk; cases hk)
                have cj5 : w5.cell? ⟨w.heap.size, 4, none⟩ = some (.slice ja jl jc) := (hbY5.cell (show w.heap.size < Y by omega)).trans cj
                have hwc := hide cj
                clear hown5 hgrow5 cj
                by_cases hj0 : jl = 0
                · have hgj : decide (0 < jl) = false := by simp; omega
                  obtain ⟨D, hDl, hiy⟩ : ∃ D : List Int, D.length = i.n ∧ Hid (IntsAt w5 Y D) := ⟨_, by simp, hide hiy5⟩
                  have hbY := hbY5
                  obtain ⟨wr, rfl⟩ : ∃ wr, wr = w5 := ⟨_, rfl⟩
                  have hYs : Y < wr.heap.size := RowAt.lt (unhide hiy)
                  subst hj0
                  clear hiy5
                  go_wp2
                  go_ret
                  refine ⟨w.heap.size + 1, P, R, Y, wr.heap.size, D, rfl, ?_, ?_, hDl, ?_, hYs, by omega, ?_⟩
                  · exact build_ro (unhide Hast) hlo hPR (show R < Y by omega) (RowAt.below (unhide hip) (hbY.alloc (by omega) _) (by omega)) (RowAt.below (unhide hir) (hbY.alloc (by omega) _) (by omega)) ((hbP.trans ((hbY.alloc (by omega) _).mono (by omega))))
                  · exact RowAt.below (unhide hiy) ((Below.refl _ _).alloc (Nat.le_refl _) _) hYs
                  · exact heap_alloc_new wr _
                  · exact ((unhide Hbw).trans (hbelA.mono (Nat.le_succ _))).trans ((hbP.trans ((hbY.alloc (by omega) _).mono (by omega))).mono (by omega))
                · have hgj : decide (0 < jl) = true := by simp; omega
                  have hjp : 0 < jl := by omega
                  go_wp2_with fail
                  clear cj5
                  go_loopw [16] (fun c wr => ∃ k : Nat, k ≤ i.n ∧ c = .int .i64 k ∧ ∃ D : List Int, Hid (D.length = i.n) ∧ Hid (IntsAt wr Y D) ∧ Below Y WC wr) (fun c _ => i.n - (intOf c).toNat)
                  case atStart => exact ⟨0, Nat.zero_le _, rfl, _, hide (by simp), hide hiy5, hbY5⟩
                  case round =>
                    clear hiy5 hbY5
                    obtain ⟨k, hk, rfl, D, hDh, hiy, hbY⟩ := hrel
                    by_cases hlt : k < i.n
                    · obtain ⟨b, off, rfl, hbs, hc⟩ := (unhide HJ).many hjp
                      have hkl : k % jl < jl := Nat.mod_lt _ hjp
                      have he : (k : Int) % (jl : Int) = ((k % jl : Nat) : Int) := by rw [Int.natCast_emod]
                      have cj : wr.cell? ⟨w.heap.size, 4, none⟩ = some (.slice (some ⟨b, off, none⟩) jl jc) := (hbY.cell (show w.heap.size < Y by omega)).trans (unhide hwc)
                      have ce : wr.cell? ⟨b, off + k % jl, none⟩ = some (.int .i64 (nth J (k % jl))) := ((((unhide Hbw).trans (hbelA.mono (Nat.le_succ _))).trans ((hbP.trans (hbY.mono (by omega))).mono (by omega))).cell hbs).trans (hc _ hkl)
                      generalize nth J (k % jl) = x at *
                      generalize k % jl = kk at *
                      have cy : wr.cell? ⟨Y, k, none⟩ = some (.int .i64 (nth D k)) := (unhide hiy).cell (by rw [unhide hDh]; exact hlt)
                      have cyf : wr.frozen? ⟨Y, k, none⟩ = false := (unhide hiy).free k
                      have hpos : (0 : Int) < (jl : Int) := by omega
                      clear hc
                      go_wp2_with fail
                      go_region
                      go_wp2
                      go_roundw
                      case rel => exact ⟨k + 1, by omega, by go_num, _, hide (by rw [List.length_set]; exact unhide hDh), hide ((unhide hiy).set k x), (hbY.setCell (Nat.le_refl _) _).drew⟩
                      case measure => simp [intOf]; omega
                    · obtain rfl : k = i.n := by omega
                      have hYs : Y < wr.heap.size := RowAt.lt (unhide hiy)
                      have hDl : D.length = i.n := unhide hDh
                      go_wp2
                      go_ret
                      refine ⟨w.heap.size + 1, P, R, Y, wr.heap.size, D, rfl, ?_, ?_, hDl, ?_, hYs, by omega, ?_⟩
                      · exact build_ro (unhide Hast) hlo hPR (show R < Y by omega) (RowAt.below (unhide hip) (hbY.alloc (by omega) _) (by omega)) (RowAt.below (unhide hir) (hbY.alloc (by omega) _) (by omega)) ((hbP.trans ((hbY.alloc (by omega) _).mono (by omega))))
                      · exact RowAt.below (unhide hiy) ((Below.refl _ _).alloc (Nat.le_refl _) _) hYs
                      · exact heap_alloc_new wr _
                      · exact ((unhide Hbw).trans (hbelA.mono (Nat.le_succ _))).trans ((hbP.trans ((hbY.alloc (by omega) _).mono (by omega))).mono (by omega))
              · have hgp : decide (0 < pl) = true := by simp; omega
                have hpp : 0 < pl := by omega
                have hrd : Hid (rounds i = i.n) := hide (by unfold rounds; rw [unhide Hhas, hgp]; rfl)
                go_wp2_with fail
                clear ck
                go_loopw [13] (fun c wr => ∃ k : Nat, k ≤ i.n ∧ c = .int .i64 k ∧ Hid (IntsAt wr P (pairs i k).1) ∧ Hid (IntsAt wr R (pairs i k).2) ∧ R < wr.heap.size ∧ Below P WA wr) (fun c _ => i.n - (intOf c).toNat)
                case atStart => exact ⟨0, Nat.zero_le _, rfl, Hip, hir, hRs, hbP4⟩
                case round =>
                  clear Hip hir hRs hbP4
                  obtain ⟨k, hk, rfl, hip, hir, hRs, hbP⟩ := hrel
                  by_cases hlt : k < i.n
                  · obtain ⟨b, off, rfl, hbs, hc⟩ := (unhide HK).many hpp
                    have hkl : k % pl < pl := Nat.mod_lt _ hpp
                    have he : (k : Int) % (pl : Int) = ((k % pl : Nat) : Int) := by rw [Int.natCast_emod]
                    have ck : wr.cell? ⟨w.heap.size, 3, none⟩ = some (.slice (some ⟨b, off, none⟩) pl pc) := ((hbelA.trans (hbP.mono (by omega))).cell (Nat.lt_succ_self _)).trans ((unhide Hbox).cell 3)
                    have ce : wr.cell? ⟨b, off + k % pl, none⟩ = some (.int .u8 (nth K (k % pl))) := ((((unhide Hbw).trans (hbelA.mono (Nat.le_succ _))).trans (hbP.mono (by omega))).cell hbs).trans (hc _ hkl)
                    have hxb := (unhide HKb) (k % pl) (by rw [(unhide HK).ln]; exact hkl)
                    have hpk := (unhide Hpick) k
                    generalize nth K (k % pl) = x at *
                    generalize k % pl = kk at *
                    obtain ⟨xN, rfl⟩ := Int.eq_ofNat_of_zero_le hxb.1
                    have hxm : (xN : Int) % ((i.m : Int) + 1) = ((i.pick k : Nat) : Int) := by rw [hpk, Int.toNat_natCast, Int.natCast_emod]; simp
                    have hpos : (0 : Int) < (pl : Int) := by omega
                    have hpl2 := pairs_len i k
                    have cp : wr.cell? ⟨P, k, none⟩ = some (.int .i64 (nth (pairs i k).1 k)) := (unhide hip).cell (by rw [hpl2.1]; exact hlt)
                    have cpf : wr.frozen? ⟨P, k, none⟩ = false := (unhide hip).free k
                    have cr : i.pick k < i.m → wr.cell? ⟨R, i.pick k, none⟩ = some (.int .i64 (nth (pairs i k).2 (i.pick k))) := fun h => (unhide hir).cell (by rw [hpl2.2]; exact h)
                    have crf : wr.frozen? ⟨R, i.pick k, none⟩ = false := (unhide hir).free _
                    have hy := pairs_yes i k
                    have hno := pairs_no i k
                    generalize hc' : i.pick k = c at *
                    clear hpk hc hpl2 hc'
                    generalize nth (pairs i k).1 k = y1 at *
                    generalize nth (pairs i k).2 c = y2 at *
                    have Hy := hide hy
                    have Hno := hide hno
                    clear hy hno
                    by_cases h1 : c < i.m
                    · have cr2 := cr h1
                      clear cr
                      by_cases h2 : y2 < 0
                      · have hPs : P ≠ R := by omega
                        have crs : (wr.setCell ⟨P, k, none⟩ (.int .i64 (c : Int))).cell? ⟨R, c, none⟩ = some (.int .i64 y2) := (World.cell?_of_block (w := wr) (a := ⟨R, c, none⟩) (heap_setCell_other wr ⟨P, k, none⟩ R _ (by show R ≠ P; omega))).trans cr2
                        go_wp2_with fail
                        go_quiet (fail)
                        go_wp2
                        go_roundw
                        case rel =>
                          have e := (unhide Hy) h1 h2
                          have hip2 : IntsAt (wr.drewN nq) P (pairs i k).1 := unhide hip
                          have hir2 : IntsAt (wr.drewN nq) R (pairs i k).2 := unhide hir
                          refine ⟨k + 1, by omega, by go_num, hide ?_, hide ?_, ?_, ?_⟩
                          · rw [e]
                            exact RowAt.other (hip2.set k (c : Int)) _ _ (show P ≠ R by omega)
                          · rw [e]
                            have hir3 : IntsAt ((wr.drewN nq).setCell ⟨P, k, none⟩ (.int .i64 (c : Int))) R (pairs i k).2 := RowAt.other hir2 _ _ (show R ≠ P by omega)
                            exact hir3.set c (k : Int)
                          · simp [World.setCell]
                            exact hRs
                          · exact ((below_drewN hbP nq).setCell (Nat.le_refl _) _).setCell (show P ≤ R by omega) _
                        case measure => simp [intOf]; omega
                      · go_wp2_with fail
                        go_quiet (fail)
                        go_wp2
                        go_roundw
                        case rel =>
                          have e := (unhide Hno) (by omega)
                          exact ⟨k + 1, by omega, by go_num, hide (by rw [e]; exact unhide hip), hide (by rw [e]; exact unhide hir), hRs, below_drewN hbP _⟩
                        case measure => simp [intOf]; omega
                    · clear cr
                      go_wp2_with fail
                      go_quiet (fail)
                      go_wp2
                      go_roundw
                      case rel =>
                        have e := (unhide Hno) (by omega)
                        exact ⟨k + 1, by omega, by go_num, hide (by rw [e]; exact unhide hip), hide (by rw [e]; exact unhide hir), hRs, below_drewN hbP _⟩
                      case measure => simp [intOf]; omega
                  · obtain rfl : k = i.n := by omega
                    rw [← unhide hrd] at hip hir
                    obtain ⟨WC, rfl⟩ : ∃ WC, WC = wr := ⟨_, rfl⟩
                    obtain ⟨Y, hY⟩ : ∃ Y, Y = WC.heap.size := ⟨_, rfl⟩
                    have HY := hide hY
                    have hRY : R < Y := by omega
                    clear hY
                    have cj : WC.cell? ⟨w.heap.size, 4, none⟩ = some (.slice ja jl jc) := ((hbelA.trans (hbP.mono (by omega))).cell (Nat.lt_succ_self _)).trans ((unhide Hbox).cell 4)
                    go_wp2_with (at_make; refine wpList_make_full _ rfl _ _ 27 rfl WC.heap.size 3 i0 (.int .i64 0) 1 Yba.underlying27 hi hz0 hz1 _ _ _ _ i.n rfl rfl (by omega) (by omega) (by rw [hz2]; omega) (by unfold maxLen; omega) (by omega) ?_)
                    rw [← unhide HY]
                    intro w5 hown5 hgrow5
                    have hiy5 : IntsAt w5 Y (List.replicate i.n 0) := ints_made (rowAt_of_own hown5).1
                    have hbY5 : Below Y WC w5 := (Below.refl _ _).grown hgrow5 (by rw [unhide HY]; exact Nat.le_refl _) (by intro k hk; cases hk)
                    have cj5 : w5.cell? ⟨w.heap.size, 4, none⟩ = some (.slice ja jl jc) := (hbY5.cell (show w.heap.size < Y by omega)).trans cj
                    have hwc := hide cj
                    clear hown5 hgrow5 cj
                    by_cases hj0 : jl = 0
                    · have hgj : decide (0 < jl) = false := by simp; omega
                      obtain ⟨D, hDl, hiy⟩ : ∃ D : List Int, D.length = i.n ∧ Hid (IntsAt w5 Y D) := ⟨_, by simp, hide hiy5⟩
                      have hbY := hbY5
                      obtain ⟨wr, rfl⟩ : ∃ wr, wr = w5 := ⟨_, rfl⟩
                      have hYs : Y < wr.heap.size := RowAt.lt (unhide hiy)
                      subst hj0
                      clear hiy5
                      go_wp2
                      go_ret
                      refine ⟨w.heap.size + 1, P, R, Y, wr.heap.size, D, rfl, ?_, ?_, hDl, ?_, hYs, by omega, ?_⟩
                      · exact build_ro (unhide Hast) hlo hPR (show R < Y by omega) (RowAt.below (unhide hip) (hbY.alloc (by omega) _) (by omega)) (RowAt.below (unhide hir) (hbY.alloc (by omega) _) (by omega)) ((hbP.trans ((hbY.alloc (by omega) _).mono (by omega))))
                      · exact RowAt.below (unhide hiy) ((Below.refl _ _).alloc (Nat.le_refl _) _) hYs
                      · exact heap_alloc_new wr _
                      · exact ((unhide Hbw).trans (hbelA.mono (Nat.le_succ _))).trans ((hbP.trans ((hbY.alloc (by omega) _).mono (by omega))).mono (by omega))
                    · have hgj : decide (0 < jl) = true := by simp; omega
                      have hjp : 0 < jl := by omega
                      go_wp2_with fail
                      clear cj5
                      go_loopw [16] (fun c wr => ∃ k : Nat, k ≤ i.n ∧ c = .int .i64 k ∧ ∃ D : List Int, Hid (D.length = i.n) ∧ Hid (IntsAt wr Y D) ∧ Below Y WC wr) (fun c _ => i.n - (intOf c).toNat)
                      case atStart => exact ⟨0, Nat.zero_le _, rfl, _, hide (by simp), hide hiy5, hbY5⟩
                      case round =>
                        clear hiy5 hbY5
                        obtain ⟨k, hk, rfl, D, hDh, hiy, hbY⟩ := hrel
                        by_cases hlt : k < i.n
                        · obtain ⟨b, off, rfl, hbs, hc⟩ := (unhide HJ).many hjp
                          have hkl : k % jl < jl := Nat.mod_lt _ hjp
                          have he : (k : Int) % (jl : Int) = ((k % jl : Nat) : Int) := by rw [Int.natCast_emod]
                          have cj : wr.cell? ⟨w.heap.size, 4, none⟩ = some (.slice (some ⟨b, off, none⟩) jl jc) := (hbY.cell (show w.heap.size < Y by omega)).trans (unhide hwc)
                          have ce : wr.cell? ⟨b, off + k % jl, none⟩ = some (.int .i64 (nth J (k % jl))) := ((((unhide Hbw).trans (hbelA.mono (Nat.le_succ _))).trans ((hbP.trans (hbY.mono (by omega))).mono (by omega))).cell hbs).trans (hc _ hkl)
                          generalize nth J (k % jl) = x at *
                          generalize k % jl = kk at *
                          have cy : wr.cell? ⟨Y, k, none⟩ = some (.int .i64 (nth D k)) := (unhide hiy).cell (by rw [unhide hDh]; exact hlt)
                          have cyf : wr.frozen? ⟨Y, k, none⟩ = false := (unhide hiy).free k
                          have hpos : (0 : Int) < (jl : Int) := by omega
                          clear hc
                          go_wp2_with fail
                          go_region
                          go_wp2
                          go_roundw
                          case rel => exact ⟨k + 1, by omega, by go_num, _, hide (by rw [List.length_set]; exact unhide hDh), hide ((unhide hiy).set k x), (hbY.setCell (Nat.le_refl _) _).drew⟩
                          case measure => simp [intOf]; omega
                        · obtain rfl : k = i.n := by omega
                          have hYs : Y < wr.heap.size := RowAt.lt (unhide hiy)
                          have hDl : D.length = i.n := unhide hDh
                          go_wp2
                          go_ret
                          refine ⟨w.heap.size + 1, P, R, Y, wr.heap.size, D, rfl, ?_, ?_, hDl, ?_, hYs, by omega, ?_⟩
                          · exact build_ro (unhide Hast) hlo hPR (show R < Y by omega) (RowAt.below (unhide hip) (hbY.alloc (by omega) _) (by omega)) (RowAt.below (unhide hir) (hbY.alloc (by omega) _) (by omega)) ((hbP.trans ((hbY.alloc (by omega) _).mono (by omega))))
                          · exact RowAt.below (unhide hiy) ((Below.refl _ _).alloc (Nat.le_refl _) _) hYs
                          · exact heap_alloc_new wr _
                          · exact ((unhide Hbw).trans (hbelA.mono (Nat.le_succ _))).trans ((hbP.trans ((hbY.alloc (by omega) _).mono (by omega))).mono (by omega))

end Go.Proofs.Ybulkbbdc
