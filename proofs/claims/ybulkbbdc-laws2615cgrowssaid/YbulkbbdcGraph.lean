/- The plain mathematics of the two bipartite laws: no Go in sight. Alternating distances in a bipartite graph with a matching: by relaxation, and by a queue. -/
namespace Go.Proofs.Ybulkbbdc.Gr

def nth (D : List Int) (v : Nat) : Int := D.getD v 0
def row (A : List (List Int)) (v : Nat) : List Int := A.getD v []
def qth (Q : List Nat) (i : Nat) : Nat := Q.getD i 0

theorem nth_set (D : List Int) (v u : Nat) (x : Int) : nth (D.set v x) u = if u = v ∧ v < D.length then x else nth D u := by
  unfold nth
  simp only [List.getD_eq_getElem?_getD, List.getElem?_set]
  by_cases h : v = u
  · subst h
    by_cases h2 : v < D.length <;> simp [h2]
  · have h' : ¬ u = v := fun e => h e.symm
    simp [h, h']

theorem nth_set_self (D : List Int) (v : Nat) (x : Int) (h : v < D.length) : nth (D.set v x) v = x := by rw [nth_set]; simp [h]
theorem nth_set_ne (D : List Int) (v u : Nat) (x : Int) (h : u ≠ v) : nth (D.set v x) u = nth D u := by rw [nth_set]; simp [h]

theorem nth_ext {D E : List Int} (hl : D.length = E.length) (h : ∀ v, v < D.length → nth D v = nth E v) : D = E := by
  apply List.ext_getElem hl
  intro i h1 h2
  have := h i h1
  unfold nth at this
  simpa [List.getD_eq_getElem?_getD, h1, h2] using this

theorem qth_append_left (Q : List Nat) (x i : Nat) (h : i < Q.length) : qth (Q ++ [x]) i = qth Q i := by
  unfold qth
  simp [List.getD_eq_getElem?_getD, List.getElem?_append_left h]

theorem qth_append_last (Q : List Nat) (x : Nat) : qth (Q ++ [x]) Q.length = x := by
  unfold qth
  simp [List.getD_eq_getElem?_getD]

theorem qth_mem (Q : List Nat) (i : Nat) (h : i < Q.length) : qth Q i ∈ Q := by
  unfold qth
  simp [List.getD_eq_getElem?_getD, h]

theorem mem_qth {Q : List Nat} {v : Nat} (h : v ∈ Q) : ∃ i, i < Q.length ∧ qth Q i = v := by
  obtain ⟨i, hi, e⟩ := List.getElem_of_mem h
  refine ⟨i, hi, ?_⟩
  unfold qth
  simp [List.getD_eq_getElem?_getD, hi, e]

theorem mem_nth {xs : List Int} {r : Int} (h : r ∈ xs) : ∃ i, i < xs.length ∧ nth xs i = r := by
  obtain ⟨i, hi, e⟩ := List.getElem_of_mem h
  refine ⟨i, hi, ?_⟩
  unfold nth
  simp [List.getD_eq_getElem?_getD, hi, e]

theorem nth_mem {xs : List Int} {i : Nat} (h : i < xs.length) : nth xs i ∈ xs := by
  unfold nth
  simp [List.getD_eq_getElem?_getD, h]

structure Grf where
  n : Nat
  m : Nat
  A : List (List Int)
  PL : List Int
  PR : List Int

/-- where an edge by way of the right vertex r leads: the partner of r, or something negative -/
def to (g : Grf) (r : Int) : Int := nth g.PR r.toNat

structure Ok (g : Grf) : Prop where
  hn : g.n ≤ 23
  hm : g.m ≤ 23
  lA : g.A.length = g.n
  lPL : g.PL.length = g.n
  lPR : g.PR.length = g.m
  rng : ∀ p r, r ∈ row g.A p → 0 ≤ r ∧ r < g.m
  wid : ∀ p, (row g.A p).length ≤ g.m
  tgt : ∀ r, r < g.m → nth g.PR r < g.n

def Src (g : Grf) (v : Nat) : Prop := v < g.n ∧ nth g.PL v < 0
def Edge (g : Grf) (p v : Nat) : Prop := ∃ r, r ∈ row g.A p ∧ to g r = (v : Int)

def Reach (g : Grf) : Nat → Nat → Prop
  | 0, v => Src g v
  | k + 1, v => ∃ p, Reach g k p ∧ Edge g p v

theorem Edge.lt {g : Grf} (ok : Ok g) {p v : Nat} (h : Edge g p v) : v < g.n := by
  obtain ⟨r, hr, e⟩ := h
  have h1 := ok.rng p r hr
  have h2 := ok.tgt r.toNat (by omega)
  unfold to at e
  omega

theorem Reach.lt {g : Grf} (ok : Ok g) {k v : Nat} (h : Reach g k v) : v < g.n := by
  cases k with
  | zero => exact h.1
  | succ k => obtain ⟨p, _, he⟩ := h; exact he.lt ok

/-- D is the list of the distances; -1 where there is no way -/
structure IsDist (g : Grf) (D : List Int) : Prop where
  len : D.length = g.n
  lo : ∀ v, v < g.n → -1 ≤ nth D v
  snd : ∀ v, v < g.n → 0 ≤ nth D v → Reach g (nth D v).toNat v
  all : ∀ j v, Reach g j v → 0 ≤ nth D v ∧ nth D v ≤ j

theorem IsDist.unique {g : Grf} {D E : List Int} (h : IsDist g D) (k : IsDist g E) : D = E := by
  refine nth_ext (by rw [h.len, k.len]) ?_
  intro v hv
  rw [h.len] at hv
  have l1 := h.lo v hv
  have l2 := k.lo v hv
  by_cases h1 : 0 ≤ nth D v
  · have a := k.all _ v (h.snd v hv h1)
    have b := h.all _ v (k.snd v hv a.1)
    omega
  · by_cases h2 : 0 ≤ nth E v
    · have b := h.all _ v (k.snd v hv h2)
      omega
    · omega

/-! ### short ways: whatever is reached is reached within n steps -/

def cnt (n : Nat) (p : Nat → Prop) [DecidablePred p] : Nat := (List.range n).countP fun v => decide (p v)

theorem cnt_le (n : Nat) (p : Nat → Prop) [DecidablePred p] : cnt n p ≤ n := by
  unfold cnt
  have := List.countP_le_length (p := fun v => decide (p v)) (l := List.range n)
  simpa using this

theorem countP_lt {l : List Nat} {p q : Nat → Bool} (h : ∀ v, p v = true → q v = true) {u : Nat} (hu : u ∈ l) (hp : p u = false) (hq : q u = true) : l.countP p + 1 ≤ l.countP q := by
  induction l with
  | nil => cases hu
  | cons a l ih =>
    rw [List.countP_cons, List.countP_cons]
    have hle : l.countP p ≤ l.countP q := List.countP_mono_left fun x _ => h x
    rcases List.mem_cons.1 hu with e | e
    · subst e
      simp [hp, hq]
      omega
    · have := ih e
      by_cases ha : p a = true
      · simp [ha, h a ha]; omega
      · simp [ha]; split <;> omega

open Classical in
theorem lev_down {g : Grf} {k v : Nat} (h : Reach g k v) (hm : ∀ j, j < k → ¬ Reach g j v) : ∀ i, i ≤ k → ∃ u, Reach g i u ∧ ∀ j, j < i → ¬ Reach g j u := by
  induction k generalizing v with
  | zero =>
    intro i hi
    obtain rfl : i = 0 := by omega
    exact ⟨v, h, hm⟩
  | succ k ih =>
    intro i hi
    by_cases e : i = k + 1
    · subst e; exact ⟨v, h, hm⟩
    · obtain ⟨p, hp, he⟩ := h
      exact ih hp (fun j hj hr => hm (j + 1) (by omega) ⟨p, hr, he⟩) i (by omega)

open Classical in
theorem lev_lt {g : Grf} (ok : Ok g) {k v : Nat} (h : Reach g k v) (hm : ∀ j, j < k → ¬ Reach g j v) : k < g.n := by
  have key : ∀ i, i ≤ k + 1 → i ≤ cnt g.n (fun u => ∃ j, j < i ∧ Reach g j u) := by
    intro i
    induction i with
    | zero => intro _; omega
    | succ i ih =>
      intro hi
      obtain ⟨u, hu, hum⟩ := lev_down h hm i (by omega)
      have := ih (by omega)
      have h2 : cnt g.n (fun u => ∃ j, j < i ∧ Reach g j u) + 1 ≤ cnt g.n (fun u => ∃ j, j < i + 1 ∧ Reach g j u) := by
        unfold cnt
        refine countP_lt (u := u) ?_ (List.mem_range.2 (hu.lt ok)) ?_ ?_
        · intro v hv
          simp only [decide_eq_true_eq] at hv ⊢
          obtain ⟨j, hj, hr⟩ := hv
          exact ⟨j, by omega, hr⟩
        · simp only [decide_eq_false_iff_not]
          rintro ⟨j, hj, hr⟩
          exact hum j hj hr
        · simp only [decide_eq_true_eq]
          exact ⟨i, by omega, hu⟩
      omega
  have := key (k + 1) (Nat.le_refl _)
  have := cnt_le g.n (fun u => ∃ j, j < k + 1 ∧ Reach g j u)
  omega

theorem least {P : Nat → Prop} {k : Nat} (h : P k) : ∃ j, j ≤ k ∧ P j ∧ ∀ i, i < j → ¬ P i := by
  induction k using Nat.strongRecOn with
  | _ k ih =>
    by_cases e : ∃ i, i < k ∧ P i
    · obtain ⟨i, hi, hp⟩ := e
      obtain ⟨j, h1, h2, h3⟩ := ih i hi hp
      exact ⟨j, by omega, h2, h3⟩
    · exact ⟨k, Nat.le_refl _, h, fun i hi hp => e ⟨i, hi, hp⟩⟩

theorem Reach.short {g : Grf} (ok : Ok g) {k v : Nat} (h : Reach g k v) : ∃ j, j ≤ k ∧ j < g.n ∧ Reach g j v := by
  obtain ⟨j, h1, h2, h3⟩ := least (P := fun k => Reach g k v) h
  exact ⟨j, h1, lev_lt ok h2 h3, h2⟩

/-! ### relaxation -/

/-- round k, about to look at the left vertex l -/
structure Rel (g : Grf) (k l : Nat) (D : List Int) (ch : Bool) : Prop where
  len : D.length = g.n
  lo : ∀ v, v < g.n → -1 ≤ nth D v
  hi : ∀ v, v < g.n → nth D v ≤ k * g.n + l
  snd : ∀ v, v < g.n → 0 ≤ nth D v → Reach g (nth D v).toNat v
  rnd : ∀ j v, j ≤ k → Reach g j v → 0 ≤ nth D v ∧ nth D v ≤ j
  done : ∀ p, p < l → ∀ j, j ≤ k → Reach g j p → ∀ v, Edge g p v → 0 ≤ nth D v ∧ nth D v ≤ j + 1
  same : ch = false → ∀ p, p < l → 0 ≤ nth D p → ∀ v, Edge g p v → 0 ≤ nth D v ∧ nth D v ≤ nth D p + 1
  chk : ch = true → k < g.n

/-- round k, at the left vertex l, about to look at its edge number t -/
structure RelIn (g : Grf) (k l t : Nat) (D : List Int) (ch : Bool) : Prop where
  ll : l < g.n
  len : D.length = g.n
  lo : ∀ v, v < g.n → -1 ≤ nth D v
  hi : ∀ v, v < g.n → nth D v ≤ k * g.n + l + 1
  at0 : 0 ≤ nth D l
  at1 : nth D l ≤ k * g.n + l
  snd : ∀ v, v < g.n → 0 ≤ nth D v → Reach g (nth D v).toNat v
  rnd : ∀ j v, j ≤ k → Reach g j v → 0 ≤ nth D v ∧ nth D v ≤ j
  done : ∀ p, p < l → ∀ j, j ≤ k → Reach g j p → ∀ v, Edge g p v → 0 ≤ nth D v ∧ nth D v ≤ j + 1
  same : ch = false → ∀ p, p < l → 0 ≤ nth D p → ∀ v, Edge g p v → 0 ≤ nth D v ∧ nth D v ≤ nth D p + 1
  part : ∀ s, s < t → ∀ v : Nat, to g (nth (row g.A l) s) = (v : Int) → 0 ≤ nth D v ∧ nth D v ≤ nth D l + 1
  chk : ch = true → k < g.n

theorem Rel.skip {g : Grf} {k l : Nat} {D : List Int} {ch : Bool} (h : Rel g k l D ch) (_hl : l < g.n) (hneg : nth D l < 0) : Rel g k (l + 1) D ch := by
  refine ⟨h.len, h.lo, fun v hv => by have := h.hi v hv; omega, h.snd, h.rnd, ?_, ?_, ?_⟩
  · intro p hp j hj hr v he
    by_cases e : p = l
    · subst e
      have := h.rnd j p hj hr
      omega
    · exact h.done p (by omega) j hj hr v he
  · intro hc p hp h0 v he
    by_cases e : p = l
    · subst e; omega
    · exact h.same hc p (by omega) h0 v he
  · exact h.chk

theorem Rel.start {g : Grf} {k l : Nat} {D : List Int} {ch : Bool} (h : Rel g k l D ch) (hl : l < g.n) (hpos : 0 ≤ nth D l) : RelIn g k l 0 D ch :=
  ⟨hl, h.len, h.lo, fun v hv => by have := h.hi v hv; omega, hpos, h.hi l hl, h.snd, h.rnd, h.done, h.same, fun s hs => by omega, h.chk⟩

theorem RelIn.finish {g : Grf} {k l t : Nat} {D : List Int} {ch : Bool} (h : RelIn g k l t D ch) (ht : (row g.A l).length ≤ t) : Rel g k (l + 1) D ch := by
  have hall : ∀ v, Edge g l v → 0 ≤ nth D v ∧ nth D v ≤ nth D l + 1 := by
    rintro v ⟨r, hr, e⟩
    obtain ⟨s, hs, er⟩ := mem_nth hr
    exact h.part s (by omega) v (by rw [er]; exact e)
  refine ⟨h.len, h.lo, fun v hv => by have := h.hi v hv; omega, h.snd, h.rnd, ?_, ?_, ?_⟩
  · intro p hp j hj hr v he
    by_cases e : p = l
    · subst e
      have a := h.rnd j p hj hr
      have b := hall v he
      omega
    · exact h.done p (by omega) j hj hr v he
  · intro hc p hp h0 v he
    by_cases e : p = l
    · subst e; exact hall v he
    · exact h.same hc p (by omega) h0 v he
  · exact h.chk

/-- the edge leads nowhere, or brings nothing better -/
theorem RelIn.pass {g : Grf} {k l t : Nat} {D : List Int} {ch : Bool} (h : RelIn g k l t D ch) (hp : ∀ v : Nat, to g (nth (row g.A l) t) = (v : Int) → 0 ≤ nth D v ∧ nth D v ≤ nth D l + 1) : RelIn g k l (t + 1) D ch := by
  refine ⟨h.ll, h.len, h.lo, h.hi, h.at0, h.at1, h.snd, h.rnd, h.done, h.same, ?_, h.chk⟩
  intro s hs v hv
  by_cases e : s = t
  · subst e; exact hp v hv
  · exact h.part s (by omega) v hv

/-- the edge brings something better -/
theorem RelIn.better {g : Grf} (ok : Ok g) {k l t : Nat} {D : List Int} {ch : Bool} (h : RelIn g k l t D ch) (ht : t < (row g.A l).length) (v : Nat) (hv : to g (nth (row g.A l) t) = (v : Int))
    (hb : nth D v < 0 ∨ nth D l + 1 < nth D v) : RelIn g k l (t + 1) (D.set v (nth D l + 1)) true := by
  have hedge : Edge g l v := ⟨_, nth_mem ht, hv⟩
  have hvn : v < g.n := hedge.lt ok
  have hvl : v < D.length := by rw [h.len]; exact hvn
  have hlv : l ≠ v := by
    intro e
    subst e
    have := h.at0
    omega
  have e1 : nth (D.set v (nth D l + 1)) v = nth D l + 1 := nth_set_self D v _ hvl
  have e2 : ∀ u, u ≠ v → nth (D.set v (nth D l + 1)) u = nth D u := fun u hu => nth_set_ne D v u _ hu
  have a0 := h.at0
  have down : ∀ u c, 0 ≤ nth D u ∧ nth D u ≤ c → 0 ≤ nth (D.set v (nth D l + 1)) u ∧ nth (D.set v (nth D l + 1)) u ≤ c := by
    intro u c hu
    by_cases e : u = v
    · subst e; rw [e1]; omega
    · rw [e2 u e]; exact hu
  have hkn : k < g.n := by
    refine Nat.lt_of_not_le fun hk => ?_
    have hr : Reach g ((nth D l).toNat + 1) v := ⟨l, h.snd l h.ll a0, hedge⟩
    obtain ⟨i, hij, hin, hi⟩ := hr.short ok
    have := h.rnd i v (by omega) hi
    omega
  refine ⟨h.ll, by rw [List.length_set]; exact h.len, ?_, ?_, ?_, ?_, ?_, ?_, ?_, ?_, ?_, fun _ => hkn⟩
  · intro u hu
    by_cases e : u = v
    · subst e; rw [e1]; omega
    · rw [e2 u e]; exact h.lo u hu
  · intro u hu
    by_cases e : u = v
    · subst e; rw [e1]; have := h.at1; omega
    · rw [e2 u e]; exact h.hi u hu
  · rw [e2 l hlv]; exact h.at0
  · rw [e2 l hlv]; exact h.at1
  · intro u hu h0
    by_cases e : u = v
    · subst e
      rw [e1]
      have : (nth D l + 1).toNat = (nth D l).toNat + 1 := by omega
      rw [this]
      exact ⟨l, h.snd l h.ll a0, hedge⟩
    · rw [e2 u e] at h0 ⊢; exact h.snd u hu h0
  · intro j u hj hr
    exact down u _ (h.rnd j u hj hr)
  · intro p hp j hj hr u he
    exact down u _ (h.done p hp j hj hr u he)
  · intro hc; cases hc
  · intro s hs u hu
    rw [e2 l hlv]
    by_cases e : s = t
    · subst e
      have : u = v := by omega
      subst this
      rw [e1]; omega
    · exact down u _ (h.part s (by omega) u hu)

/-- the start: round 0 -/
theorem Rel.zero {g : Grf} {D : List Int} (hlen : D.length = g.n) (hD : ∀ v, v < g.n → nth D v = if nth g.PL v < 0 then 0 else -1) : Rel g 0 0 D false := by
  have h0 : ∀ v, Reach g 0 v → nth D v = 0 := by
    intro v hv
    have hs : Src g v := hv
    rw [hD v hs.1, if_pos hs.2]
  refine ⟨hlen, ?_, ?_, ?_, ?_, ?_, ?_, fun e => by cases e⟩
  · intro v hv; rw [hD v hv]; split <;> omega
  · intro v hv; rw [hD v hv]; split <;> omega
  · intro v hv hp
    rw [hD v hv] at hp ⊢
    split at hp
    · rename_i hs; rw [if_pos hs]; exact ⟨hv, hs⟩
    · omega
  · intro j v hj hr
    obtain rfl : j = 0 := by omega
    have := h0 v hr
    omega
  · intro p hp; omega
  · intro _ p hp; omega

/-- a round's end, something has turned: the next round -/
theorem Rel.next {g : Grf} (ok : Ok g) {k : Nat} {D : List Int} {ch : Bool} (h : Rel g k g.n D ch) : Rel g (k + 1) 0 D false := by
  refine ⟨h.len, h.lo, ?_, h.snd, ?_, ?_, ?_, fun e => by cases e⟩
  · intro v hv
    have := h.hi v hv
    have e : ((k + 1 : Nat) : Int) * g.n = k * g.n + g.n := by
      rw [Int.natCast_add, Int.add_mul]; simp
    rw [e]; omega
  · intro j v hj hr
    by_cases e : j = k + 1
    · subst e
      obtain ⟨p, hp, he⟩ := hr
      have := h.done p (hp.lt ok) k (Nat.le_refl _) hp v he
      omega
    · exact h.rnd j v (by omega) hr
  · intro p hp; omega
  · intro _ p hp; omega

/-- a round's end, nothing has turned: these are the distances -/
theorem Rel.still {g : Grf} (ok : Ok g) {k : Nat} {D : List Int} (h : Rel g k g.n D false) : IsDist g D := by
  refine ⟨h.len, h.lo, h.snd, ?_⟩
  intro j
  induction j with
  | zero => intro v hr; exact h.rnd 0 v (Nat.zero_le _) hr
  | succ j ih =>
    rintro v ⟨p, hp, he⟩
    have a := ih p hp
    have b := h.same rfl p (hp.lt ok) a.1 v he
    omega

/-- all rounds are done -/
theorem Rel.last {g : Grf} (ok : Ok g) {k l : Nat} {D : List Int} {ch : Bool} (h : Rel g k l D ch) (hk : g.n ≤ k) : IsDist g D := by
  refine ⟨h.len, h.lo, h.snd, ?_⟩
  intro j v hr
  obtain ⟨i, hij, hin, hi⟩ := hr.short ok
  have := h.rnd i v (by omega) hi
  omega

/-! ### the queue -/

/-- at the queue's place i, about to look at the edge number t of the vertex that stands there -/
structure Bfs (g : Grf) (i t : Nat) (L : List Int) (Q : List Nat) (b : Bool) : Prop where
  len : L.length = g.n
  lo : ∀ v, v < g.n → -1 ≤ nth L v
  nd : Q.Nodup
  mem : ∀ v, v ∈ Q ↔ v < g.n ∧ 0 ≤ nth L v
  snd : ∀ v, v < g.n → 0 ≤ nth L v → Reach g (nth L v).toNat v
  src : ∀ v, Src g v → nth L v = 0
  ord : ∀ a c, a < c → c < Q.length → nth L (qth Q a) ≤ nth L (qth Q c)
  top : i < Q.length → ∀ a, a < Q.length → nth L (qth Q a) ≤ nth L (qth Q i) + 1
  hi : ∀ a, a < Q.length → nth L (qth Q a) ≤ a
  done : ∀ a, a < i → ∀ v, Edge g (qth Q a) v → 0 ≤ nth L v ∧ nth L v ≤ nth L (qth Q a) + 1
  part : ∀ s, s < t → ∀ v : Nat, to g (nth (row g.A (qth Q i)) s) = (v : Int) → 0 ≤ nth L v ∧ nth L v ≤ nth L (qth Q i) + 1
  grow : b = true ↔ (∃ a, a < i ∧ ∃ r, r ∈ row g.A (qth Q a) ∧ to g r < 0) ∨ ∃ s, s < t ∧ to g (nth (row g.A (qth Q i)) s) < 0
  il : i ≤ Q.length

theorem nodup_le {Q R : List Nat} (hq : Q.Nodup) (h : ∀ v, v ∈ Q → v ∈ R) : Q.length ≤ R.length := by
  induction Q generalizing R with
  | nil => simp
  | cons a Q ih =>
    have hn := List.nodup_cons.1 hq
    have ha : a ∈ R := h a (by simp)
    have := ih (R := R.erase a) hn.2 (fun v hv => by
      have hva : v ≠ a := fun e => hn.1 (e ▸ hv)
      exact (List.mem_erase_of_ne hva).2 (h v (List.mem_cons_of_mem _ hv)))
    rw [List.length_erase_of_mem ha] at this
    have hpos : 0 < R.length := List.length_pos_of_mem ha
    simp only [List.length_cons]
    omega

theorem nodup_lt {Q : List Nat} {n : Nat} (hq : Q.Nodup) (h : ∀ v, v ∈ Q → v < n) : Q.length ≤ n := by
  have := nodup_le (R := List.range n) hq (fun v hv => List.mem_range.2 (h v hv))
  simpa using this

theorem Bfs.ql {g : Grf} {i t : Nat} {L : List Int} {Q : List Nat} {b : Bool} (h : Bfs g i t L Q b) : Q.length ≤ g.n :=
  nodup_lt h.nd fun v hv => ((h.mem v).1 hv).1

/-- the number of reached vertices among the first k -/
def reached (D : List Int) (k : Nat) : Nat := (List.range k).countP fun v => decide (0 ≤ nth D v)

theorem reached_succ (D : List Int) (k : Nat) : reached D (k + 1) = reached D k + if 0 ≤ nth D k then 1 else 0 := by
  unfold reached
  rw [List.range_succ, List.countP_append]
  by_cases h : 0 ≤ nth D k <;> simp [h]

theorem reached_le (D : List Int) (k : Nat) : reached D k ≤ k := by
  unfold reached
  have := List.countP_le_length (p := fun v => decide (0 ≤ nth D v)) (l := List.range k)
  simpa using this

theorem length_reached {n : Nat} {D : List Int} {Q : List Nat} (hq : Q.Nodup) (hm : ∀ v, v ∈ Q ↔ v < n ∧ 0 ≤ nth D v) : Q.length = reached D n := by
  have hf : ((List.range n).filter fun v => decide (0 ≤ nth D v)).length = reached D n := by
    unfold reached; rw [List.countP_eq_length_filter]
  rw [← hf]
  apply Nat.le_antisymm
  · refine nodup_le hq fun v hv => ?_
    have := (hm v).1 hv
    simp [this.1, this.2]
  · refine nodup_le (List.Pairwise.filter _ List.nodup_range) fun v hv => ?_
    simp at hv
    exact (hm v).2 hv

/-- the vertex in hand is done: the next one -/
theorem Bfs.finish {g : Grf} {i t : Nat} {L : List Int} {Q : List Nat} {b : Bool} (h : Bfs g i t L Q b) (hi : i < Q.length) (ht : t = (row g.A (qth Q i)).length) : Bfs g (i + 1) 0 L Q b := by
  refine ⟨h.len, h.lo, h.nd, h.mem, h.snd, h.src, h.ord, ?_, h.hi, ?_, fun s hs => by omega, ?_, hi⟩
  · intro h1 a ha
    have := h.top hi a ha
    have := h.ord i (i + 1) (by omega) h1
    omega
  · intro a ha v he
    by_cases e : a = i
    · subst e
      obtain ⟨r, hr, er⟩ := he
      obtain ⟨s, hs, es⟩ := mem_nth hr
      exact h.part s (by omega) v (by rw [es]; exact er)
    · exact h.done a (by omega) v he
  · rw [h.grow]
    constructor
    · rintro (⟨a, ha, hr⟩ | ⟨s, hs, hr⟩)
      · exact .inl ⟨a, by omega, hr⟩
      · exact .inl ⟨i, by omega, _, nth_mem (by omega), hr⟩
    · rintro (⟨a, ha, r, hr, hn⟩ | ⟨s, hs, hr⟩)
      · by_cases e : a = i
        · subst e
          obtain ⟨s, hs, es⟩ := mem_nth hr
          exact .inr ⟨s, by omega, by rw [es]; exact hn⟩
        · exact .inl ⟨a, by omega, r, hr, hn⟩
      · omega

/-- the edge leads to a free right vertex -/
theorem Bfs.free {g : Grf} {i t : Nat} {L : List Int} {Q : List Nat} {b : Bool} (h : Bfs g i t L Q b) (hn : to g (nth (row g.A (qth Q i)) t) < 0) : Bfs g i (t + 1) L Q true := by
  refine ⟨h.len, h.lo, h.nd, h.mem, h.snd, h.src, h.ord, h.top, h.hi, h.done, ?_, ?_, h.il⟩
  · intro s hs v hv
    by_cases e : s = t
    · subst e; omega
    · exact h.part s (by omega) v hv
  · exact ⟨fun _ => .inr ⟨t, by omega, hn⟩, fun _ => rfl⟩

/-- the edge leads to a vertex that is reached already -/
theorem Bfs.old {g : Grf} {i t : Nat} {L : List Int} {Q : List Nat} {b : Bool} (h : Bfs g i t L Q b) (hi : i < Q.length) (v : Nat) (hv : to g (nth (row g.A (qth Q i)) t) = (v : Int)) (hvn : v < g.n) (ho : 0 ≤ nth L v) :
    Bfs g i (t + 1) L Q b := by
  refine ⟨h.len, h.lo, h.nd, h.mem, h.snd, h.src, h.ord, h.top, h.hi, h.done, ?_, ?_, h.il⟩
  · intro s hs u hu
    by_cases e : s = t
    · subst e
      have : u = v := by omega
      subst this
      obtain ⟨a, ha, ea⟩ := mem_qth ((h.mem u).2 ⟨hvn, ho⟩)
      have := h.top hi a ha
      rw [ea] at this
      exact ⟨ho, this⟩
    · exact h.part s (by omega) u hu
  · rw [h.grow]
    constructor
    · rintro (x | ⟨s, hs, hr⟩)
      · exact .inl x
      · exact .inr ⟨s, by omega, hr⟩
    · rintro (x | ⟨s, hs, hr⟩)
      · exact .inl x
      · by_cases e : s = t
        · subst e; omega
        · exact .inr ⟨s, by omega, hr⟩

/-- the edge leads to a vertex that is new -/
theorem Bfs.push {g : Grf} (ok : Ok g) {i t : Nat} {L : List Int} {Q : List Nat} {b : Bool} (h : Bfs g i t L Q b) (hi : i < Q.length) (ht : t < (row g.A (qth Q i)).length) (v : Nat) (hv : to g (nth (row g.A (qth Q i)) t) = (v : Int))
    (hneg : nth L v < 0) : Bfs g i (t + 1) (L.set v (nth L (qth Q i) + 1)) (Q ++ [v]) b := by
  have hedge : Edge g (qth Q i) v := ⟨_, nth_mem ht, hv⟩
  have hvn : v < g.n := hedge.lt ok
  have hvl : v < L.length := by rw [h.len]; exact hvn
  have hqm := (h.mem _).1 (qth_mem Q i hi)
  have hvQ : v ∉ Q := fun hm => by have := ((h.mem v).1 hm).2; omega
  have e1 : nth (L.set v (nth L (qth Q i) + 1)) v = nth L (qth Q i) + 1 := nth_set_self L v _ hvl
  have e2 : ∀ u, u ≠ v → nth (L.set v (nth L (qth Q i) + 1)) u = nth L u := fun u hu => nth_set_ne L v u _ hu
  have qne : ∀ a, a < Q.length → qth Q a ≠ v := fun a ha e => hvQ (e ▸ qth_mem Q a ha)
  have e3 : ∀ a, a < Q.length → nth (L.set v (nth L (qth Q i) + 1)) (qth (Q ++ [v]) a) = nth L (qth Q a) := by
    intro a ha
    rw [qth_append_left Q v a ha, e2 _ (qne a ha)]
  have e4 : nth (L.set v (nth L (qth Q i) + 1)) (qth (Q ++ [v]) Q.length) = nth L (qth Q i) + 1 := by rw [qth_append_last, e1]
  have keep : ∀ u c, 0 ≤ nth L u ∧ nth L u ≤ c → 0 ≤ nth (L.set v (nth L (qth Q i) + 1)) u ∧ nth (L.set v (nth L (qth Q i) + 1)) u ≤ c := by
    intro u c hu
    have : u ≠ v := fun e => by subst e; omega
    rw [e2 u this]; exact hu
  have hll : (Q ++ [v]).length = Q.length + 1 := by simp
  refine ⟨by rw [List.length_set]; exact h.len, ?_, ?_, ?_, ?_, ?_, ?_, ?_, ?_, ?_, ?_, ?_, by omega⟩
  · intro u hu
    by_cases e : u = v
    · subst e; rw [e1]; omega
    · rw [e2 u e]; exact h.lo u hu
  · rw [List.nodup_append]
    refine ⟨h.nd, by simp, ?_⟩
    intro a ha c hc e
    simp at hc
    subst hc
    subst e
    exact hvQ ha
  · intro u
    rw [List.mem_append]
    by_cases e : u = v
    · subst e
      rw [e1]
      simp
      omega
    · rw [e2 u e, ← h.mem u]
      simp [e]
  · intro u hu h0
    by_cases e : u = v
    · subst e
      rw [e1]
      have : (nth L (qth Q i) + 1).toNat = (nth L (qth Q i)).toNat + 1 := by omega
      rw [this]
      exact ⟨_, h.snd _ hqm.1 hqm.2, hedge⟩
    · rw [e2 u e] at h0 ⊢; exact h.snd u hu h0
  · intro u hu
    have := h.src u hu
    have hne : u ≠ v := fun e => by subst e; omega
    rw [e2 u hne]; exact this
  · intro a c hac hc
    rw [hll] at hc
    by_cases e : c = Q.length
    · subst e
      rw [e4, e3 a hac]
      exact h.top hi a hac
    · rw [e3 a (by omega), e3 c (by omega)]
      exact h.ord a c hac (by omega)
  · intro _ a ha
    rw [hll] at ha
    rw [e3 i hi]
    by_cases e : a = Q.length
    · subst e; rw [e4]; omega
    · rw [e3 a (by omega)]; exact h.top hi a (by omega)
  · intro a ha
    rw [hll] at ha
    by_cases e : a = Q.length
    · subst e; rw [e4]; have := h.hi i hi; omega
    · rw [e3 a (by omega)]; exact h.hi a (by omega)
  · intro a ha u he
    rw [e3 a (by omega)]
    rw [qth_append_left Q v a (by omega)] at he
    exact keep u _ (h.done a ha u he)
  · intro s hs u hu
    rw [e3 i hi]
    rw [qth_append_left Q v i hi] at hu
    by_cases e : s = t
    · subst e
      have : u = v := by omega
      subst this
      rw [e1]; omega
    · exact keep u _ (h.part s (by omega) u hu)
  · rw [h.grow, qth_append_left Q v i hi]
    constructor
    · rintro (⟨a, ha, x⟩ | ⟨s, hs, hr⟩)
      · exact .inl ⟨a, ha, by rw [qth_append_left Q v a (by omega)]; exact x⟩
      · exact .inr ⟨s, by omega, hr⟩
    · rintro (⟨a, ha, x⟩ | ⟨s, hs, hr⟩)
      · exact .inl ⟨a, ha, by rw [qth_append_left Q v a (by omega)] at x; exact x⟩
      · by_cases e : s = t
        · subst e; omega
        · exact .inr ⟨s, by omega, hr⟩

/-- the first loop: the sources among the first k, in their order; the layers 0 and -1 -/
structure Ini (g : Grf) (k : Nat) (L : List Int) (Q : List Nat) : Prop where
  kn : k ≤ g.n
  len : L.length = g.n
  val : ∀ v, v < k → nth L v = if nth g.PL v < 0 then 0 else -1
  que : Q = (List.range k).filter fun v => decide (nth g.PL v < 0)

theorem Ini.zero {g : Grf} {L : List Int} (h : L.length = g.n) : Ini g 0 L [] := ⟨Nat.zero_le _, h, fun v hv => by omega, by simp⟩

theorem Ini.free {g : Grf} {k : Nat} {L : List Int} {Q : List Nat} (h : Ini g k L Q) (hk : k < g.n) (hp : nth g.PL k < 0) : Ini g (k + 1) (L.set k 0) (Q ++ [k]) := by
  refine ⟨hk, by rw [List.length_set]; exact h.len, ?_, ?_⟩
  · intro v hv
    by_cases e : v = k
    · subst e; rw [nth_set_self L v 0 (by rw [h.len]; exact hk), if_pos hp]
    · rw [nth_set_ne L k v 0 e]; exact h.val v (by omega)
  · rw [List.range_succ, List.filter_append, ← h.que]
    simp [hp]

theorem Ini.paired {g : Grf} {k : Nat} {L : List Int} {Q : List Nat} (h : Ini g k L Q) (hk : k < g.n) (hp : ¬ nth g.PL k < 0) : Ini g (k + 1) (L.set k (-1)) Q := by
  refine ⟨hk, by rw [List.length_set]; exact h.len, ?_, ?_⟩
  · intro v hv
    by_cases e : v = k
    · subst e; rw [nth_set_self L v _ (by rw [h.len]; exact hk), if_neg hp]
    · rw [nth_set_ne L k v _ e]; exact h.val v (by omega)
  · rw [List.range_succ, List.filter_append, ← h.que]
    simp [hp]

theorem Ini.ql {g : Grf} {k : Nat} {L : List Int} {Q : List Nat} (h : Ini g k L Q) : Q.length ≤ k := by
  rw [h.que]
  have := List.length_filter_le (fun v => decide (nth g.PL v < 0)) (List.range k)
  simpa using this

theorem Ini.bfs {g : Grf} {L : List Int} {Q : List Nat} (h : Ini g g.n L Q) : Bfs g 0 0 L Q false := by
  have hm : ∀ v, v ∈ Q ↔ v < g.n ∧ 0 ≤ nth L v := by
    intro v
    rw [h.que]
    simp only [List.mem_filter, List.mem_range, decide_eq_true_eq]
    constructor
    · rintro ⟨h1, h2⟩; rw [h.val v h1, if_pos h2]; exact ⟨h1, Int.le_refl _⟩
    · rintro ⟨h1, h2⟩
      rw [h.val v h1] at h2
      split at h2
      · exact ⟨h1, by assumption⟩
      · omega
  have hz : ∀ a, a < Q.length → nth L (qth Q a) = 0 := by
    intro a ha
    have := (hm _).1 (qth_mem Q a ha)
    have h2 := this.2
    rw [h.val _ this.1] at h2 ⊢
    split at h2
    · rename_i hx; rw [if_pos hx]
    · omega
  refine ⟨h.len, ?_, ?_, hm, ?_, ?_, ?_, ?_, ?_, ?_, ?_, ?_, Nat.zero_le _⟩
  · intro v hv; rw [h.val v hv]; split <;> omega
  · rw [h.que]; exact List.Pairwise.filter _ List.nodup_range
  · intro v hv h0
    rw [h.val v hv] at h0 ⊢
    split at h0
    · rename_i hx; rw [if_pos hx]; exact ⟨hv, hx⟩
    · omega
  · intro v hv; rw [h.val v hv.1, if_pos hv.2]
  · intro a c hac hc; rw [hz a (by omega), hz c hc]; exact Int.le_refl _
  · intro h0 a ha; rw [hz a ha, hz 0 h0]; omega
  · intro a ha; rw [hz a ha]; omega
  · intro a ha; omega
  · intro s hs; omega
  · constructor
    · intro e; cases e
    · rintro (⟨a, ha, _⟩ | ⟨s, hs, _⟩) <;> omega

/-- the queue is empty: these are the distances -/
theorem Bfs.dist {g : Grf} (ok : Ok g) {i : Nat} {L : List Int} {Q : List Nat} {b : Bool} (h : Bfs g i 0 L Q b) (hi : ¬ i < Q.length) : IsDist g L := by
  refine ⟨h.len, h.lo, h.snd, ?_⟩
  intro j
  induction j with
  | zero => intro v hr; have := h.src v hr; omega
  | succ j ih =>
    rintro v ⟨p, hp, he⟩
    have a := ih p hp
    have hpn : p < g.n := hp.lt ok
    obtain ⟨c, hc, ec⟩ := mem_qth ((h.mem p).2 ⟨hpn, a.1⟩)
    have := h.done c (by omega) v (by rw [ec]; exact he)
    rw [ec] at this
    omega

/-- whether the matching can grow, by the distances -/
def Grows (g : Grf) (D : List Int) : Prop := ∃ v, v < g.n ∧ 0 ≤ nth D v ∧ ∃ r, r ∈ row g.A v ∧ to g r < 0

theorem Bfs.grows {g : Grf} {i : Nat} {L : List Int} {Q : List Nat} {b : Bool} (h : Bfs g i 0 L Q b) (hi : ¬ i < Q.length) : b = true ↔ Grows g L := by
  rw [h.grow]
  constructor
  · rintro (⟨a, ha, x⟩ | ⟨s, hs, _⟩)
    · have := h.il
      have hm := (h.mem _).1 (qth_mem Q a (by omega))
      exact ⟨_, hm.1, hm.2, x⟩
    · omega
  · rintro ⟨v, hv, h0, x⟩
    obtain ⟨c, hc, ec⟩ := mem_qth ((h.mem v).2 ⟨hv, h0⟩)
    exact .inl ⟨c, by omega, by rw [ec]; exact x⟩

/-- the law's search for a free right vertex: the first l vertices, and t edges of the next -/
structure Gro (g : Grf) (D : List Int) (l t : Nat) (b : Bool) : Prop where
  iff : b = true ↔ (∃ v, v < l ∧ 0 ≤ nth D v ∧ ∃ r, r ∈ row g.A v ∧ to g r < 0) ∨ (0 ≤ nth D l ∧ ∃ s, s < t ∧ to g (nth (row g.A l) s) < 0)

theorem Gro.zero (g : Grf) (D : List Int) : Gro g D 0 0 false := by
  constructor
  constructor
  · intro e; cases e
  · rintro (⟨v, hv, _⟩ | ⟨_, s, hs, _⟩) <;> omega

theorem Gro.skip {g : Grf} {D : List Int} {l : Nat} {b : Bool} (h : Gro g D l 0 b) (hn : nth D l < 0) : Gro g D (l + 1) 0 b := by
  constructor
  rw [h.iff]
  constructor
  · rintro (⟨v, hv, x⟩ | ⟨_, s, hs, _⟩)
    · exact .inl ⟨v, by omega, x⟩
    · omega
  · rintro (⟨v, hv, h0, x⟩ | ⟨_, s, hs, _⟩)
    · by_cases e : v = l
      · subst e; omega
      · exact .inl ⟨v, by omega, h0, x⟩
    · omega

theorem Gro.finish {g : Grf} {D : List Int} {l t : Nat} {b : Bool} (h : Gro g D l t b) (h0 : 0 ≤ nth D l) (ht : t = (row g.A l).length) : Gro g D (l + 1) 0 b := by
  constructor
  rw [h.iff]
  constructor
  · rintro (⟨v, hv, x⟩ | ⟨_, s, hs, x⟩)
    · exact .inl ⟨v, by omega, x⟩
    · exact .inl ⟨l, by omega, h0, _, nth_mem (by omega), x⟩
  · rintro (⟨v, hv, h1, r, hr, x⟩ | ⟨_, s, hs, _⟩)
    · by_cases e : v = l
      · subst e
        obtain ⟨s, hs, es⟩ := mem_nth hr
        exact .inr ⟨h0, s, by omega, by rw [es]; exact x⟩
      · exact .inl ⟨v, by omega, h1, r, hr, x⟩
    · omega

theorem Gro.yes {g : Grf} {D : List Int} {l t : Nat} {b : Bool} (_h : Gro g D l t b) (h0 : 0 ≤ nth D l) (hn : to g (nth (row g.A l) t) < 0) : Gro g D l (t + 1) true :=
  ⟨⟨fun _ => .inr ⟨h0, t, by omega, hn⟩, fun _ => rfl⟩⟩

theorem Gro.no {g : Grf} {D : List Int} {l t : Nat} {b : Bool} (h : Gro g D l t b) (hn : ¬ to g (nth (row g.A l) t) < 0) : Gro g D l (t + 1) b := by
  constructor
  rw [h.iff]
  constructor
  · rintro (x | ⟨h0, s, hs, x⟩)
    · exact .inl x
    · exact .inr ⟨h0, s, by omega, x⟩
  · rintro (x | ⟨h0, s, hs, x⟩)
    · exact .inl x
    · by_cases e : s = t
      · subst e; omega
      · exact .inr ⟨h0, s, by omega, x⟩

theorem Gro.grows {g : Grf} {D : List Int} {b : Bool} (h : Gro g D g.n 0 b) : b = true ↔ Grows g D := by
  rw [h.iff]
  constructor
  · rintro (x | ⟨_, s, hs, _⟩)
    · exact x
    · omega
  · exact .inl

end Go.Proofs.Ybulkbbdc.Gr
