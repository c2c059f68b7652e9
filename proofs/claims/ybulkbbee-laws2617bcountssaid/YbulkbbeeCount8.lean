/- Count (function 8). -/
import Derived.Test.YbulkbbeeAdd
namespace Go.Proofs.Ybulkbbee
open Go.RowKit Go.WideMaps Go.Maps Go.MuLone

/-- one more of s -/
def up (c : ByteArray → Nat) (s : ByteArray) (t : ByteArray) : Nat := if t.data.toList = s.data.toList then c s + 1 else c t

def kex (gl gm gc B : Nat) (k : Nat) : Prop := k = gl ∨ k = gm ∨ k = gc ∨ B ≤ k

theorem str_ne {a b : List UInt8} (h : a ≠ b) : Lit.string a ≠ Lit.string b := by
  intro e
  simp at e
  exact h e

theorem ownsMap_at {w w' : World} {gm n : Nat} {D : DataW Unit} (h : w.ownsMap Yba.prog 9 (plainElem Yba.prog 3) gm n D) (e : w'.heap[gm]? = w.heap[gm]?) : w'.ownsMap Yba.prog 9 (plainElem Yba.prog 3) gm n D := by
  obtain ⟨es, clock, hb, F, hs, e2⟩ := h
  exact ⟨es, clock, e.trans hb, F, hs, e2⟩

theorem Log.kept {ex : Nat → Prop} {w w' : World} {gl B : Nat} {ls : List ByteArray} (h : Log w gl B ls) (hk : Kept ex w w') (hg : ¬ ex gl) (hB : ∀ k, B ≤ k → k < w.heap.size → ¬ ex k) : Log w' gl B ls := by
  obtain ⟨lv, h1, h2⟩ := h.all
  refine ⟨⟨lv, h1.kept hk hg, h2.1, ?_⟩, h.gl, Nat.le_trans h.bs hk.size⟩
  rcases h2.2 with x | ⟨g, cap, cur, e, hb, hh, r⟩
  · exact .inl x
  · exact .inr ⟨g, cap, cur, e, hb, (hk.block g (hB g hb (Array.getElem?_eq_some_iff.1 hh).1)).trans hh, r⟩

theorem put_at {D : DataW Unit} (hD : IsMap D) {c : ByteArray → Nat} {s : ByteArray} (hat : ∀ t : ByteArray, t.size ≤ maxLen → D.atKey (.string t.data.toList) (num 0) = num (c t)) :
    ∀ t : ByteArray, t.size ≤ maxLen → (D.put (.string s.data.toList) (num (c s + 1))).atKey (.string t.data.toList) (num 0) = num (up c s t) := by
  intro t ht
  unfold up
  by_cases e : t.data.toList = s.data.toList
  · rw [if_pos e, e]
    exact atKey_put_same hD (by simp [WideAt.IsKeyLit]) _ _
  · rw [if_neg e, atKey_put_other (str_ne e)]
    exact hat t ht

set_option maxHeartbeats 1000000 in
set_option maxRecDepth 100000 in
theorem count_calls (gl gm gc B : Nat) (n : Nat) (c : ByteArray → Nat) (ls : List ByteArray) (ctx : Value) (s : ByteArray) (hs : s.size ≤ maxLen) (w : World) (h : Cnt w gc gm (clo gl) n c) (hlog : Log w gl B ls)
    (hl : ls.length ≤ 1024) (hn : n ≤ 1024) (hc : c s ≤ 1024) (h1 : gc < B) (h2 : gm < B) (h3 : gl ≠ gc) (h4 : gl ≠ gm) :
    Calls Yba.prog 8 #[.pointer (some ⟨gc, 0, none⟩), ctx, .string s] w fun e w' => e = .returned (.tuple #[.string s, .nilIface]) ∧ Cnt w' gc gm (clo gl) (n + 1) (up c s) ∧ Log w' gl B (ls ++ [s]) ∧ Kept (kex gl gm gc B) w w' := by
  obtain ⟨D, hown, hat⟩ := h.map
  have hats := hat s hs
  have hkey : keyOf Yba.prog 9 (.string s) = some (.string s.data.toList) := keyOf_string_mk Yba.underlying9 hs
  have c1 : w.cell? ⟨gc, 1, none⟩ = some (.int .i32 0) := h.row.cell 1
  have f1 := h.row.free 1
  have c3 : w.cell? ⟨gc, 3, none⟩ = some (.map (some gm)) := h.row.cell 3
  have hne := h.ne
  have hown1 := hown.setCell (a := ⟨gc, 1, none⟩) h.ne (.int .i32 1)
  have hrow1 := h.row.set 1 (.int .i32 1)
  have Hrow := hide h.row
  have Hrow1 := hide hrow1
  have Hats := hide hats
  have Hat := hide hat
  have Hlog := hide hlog
  have hbs := hlog.bs
  clear hat hats hrow1 h hlog
  go_enter Yba.func8, Yba.ntmps8
  go_wp2_with (first
    | (go_at_call 10; refine (lock_free Yba.muLib ⟨gc, 1, none⟩ _ c1 f1).mono ?_; rintro e w' ⟨rfl, rfl⟩)
    | (at_lookup; refine wpList_lookup_own_int _ rfl _ _ 35 rfl 9 3 .i64 law9 Yba.underlying35 Yba.underlying3 (zero3 _) gm n D rfl hown1 _ _ rfl hkey ?_; intro v hv hwv; obtain rfl : v = (c s : Int) := by (have := hv.symm.trans (unhide Hats); simpa [num] using this))
    | (at_mapUpdate; refine wpList_mapUpdate_own _ rfl _ _ _ 35 rfl 9 3 law9 Yba.underlying35 _ gm n D rfl hown1 (by unfold maxLen; omega) _ _ _ rfl rfl hkey (num (c s + 1)) [] (plainElem_int Yba.underlying3 (WalkArith.wf_i64 (by omega))) ?_; intro w2 hown2 hgrow2))
  have hk2 : Kept (fun k => k = gc ∨ k = gm ∨ w.heap.size ≤ k) w w2 := ((Kept.refl _ w).setCell (.inl rfl) _).trans ⟨hgrow2.os, hgrow2.tape, hgrow2.output, hgrow2.size, fun k hk => by
    by_cases hl : k < (w.setCell ⟨gc, 1, none⟩ (.int .i32 1)).heap.size
    · exact hgrow2.block k hl (fun e => hk (.inr (.inl (by simpa using e))))
    · exact absurd (.inr (.inr (by simp [World.setCell] at hl; omega))) hk⟩
  have hrow2 : RowAt w2 gc 44 [clo gl, .int .i32 1, .int .u32 0, .map (some gm)] := by
    have := hgrow2.block gc (unhide Hrow1).lt (fun e => hne (by simpa using e.symm))
    exact this.trans (unhide Hrow1)
  refine (unlock_held Yba.muLib ⟨gc, 1, none⟩ _ (hrow2.cell 1) (hrow2.free 1)).mono ?_
  rintro e w3' ⟨rfl, hw3⟩
  obtain ⟨w3, rfl⟩ : ∃ w3, w3 = w3' := ⟨_, rfl⟩
  have hk3 : Kept (fun k => k = gc ∨ k = gm ∨ w.heap.size ≤ k) w w3 := by rw [hw3]; exact hk2.setCell (.inl rfl) _
  have hrow3 : RowAt w3 gc 44 [clo gl, .int .i32 0, .int .u32 0, .map (some gm)] := by rw [hw3]; exact hrow2.set 1 (.int .i32 0)
  have hown3 : w3.ownsMap Yba.prog 9 (plainElem Yba.prog 3) gm (n + 1) (D.put (.string s.data.toList) (num (c s + 1))) := by rw [hw3]; exact hown2.setCell (a := ⟨gc, 1, none⟩) hne _
  have hgl := (unhide Hlog).gl
  have hlog3 : Log w3 gl B ls := (unhide Hlog).kept hk3 (by rintro (h | h | h) <;> omega) (by rintro k hk hkw (h | h | h) <;> omega)
  have d0 : w3.cell? ⟨gc, 0, none⟩ = some (.func (Fn.func 4) #[] #[.pointer (some ⟨gl, 0, none⟩)]) := hrow3.cell 0
  have Hm3 := hide (put_at hown.isMap (unhide Hat) (s := s))
  have Hrow3 := hide hrow3
  have Hown3 := hide hown3
  have Hlog3 := hide hlog3
  clear hw3 hown2 hgrow2 hown1 hown hrow2 hk2 hrow3 hown3 hlog3 c1 c3 f1 Hrow Hrow1 Hats Hat Hlog
  go_wp2_with fail
  refine (clo_calls ctx s gl B ls _ (unhide Hlog3) hl).mono ?_
  rintro e w4 ⟨rfl, hlog4, hk4⟩
  have hrow4 : RowAt w4 gc 44 [clo gl, .int .i32 0, .int .u32 0, .map (some gm)] := (unhide Hrow3).kept hk4 (by rintro (h | h) <;> omega)
  have hown4 := ownsMap_at (unhide Hown3) (hk4.block gm (by rintro (h | h) <;> omega))
  have Hfin := hide (show Cnt w4 gc gm (clo gl) (n + 1) (up c s) ∧ Log w4 gl B (ls ++ [s]) ∧ Kept (kex gl gm gc B) w w4 from
    ⟨⟨hrow4, hne, _, hown4, unhide Hm3⟩, hlog4, (hk3.mono (by rintro k (h | h | h) <;> unfold kex <;> omega)).trans (hk4.mono (by rintro k (h | h) <;> unfold kex <;> omega))⟩)
  clear hrow4 hown4 hlog4 hk4 hk3 Hm3 Hrow3 Hown3 Hlog3 d0
  go_wp2
  go_ret2
  exact ⟨rfl, unhide Hfin⟩

end Go.Proofs.Ybulkbbee
