import Derived.Test.Qxb6605408aPlain
namespace Go.Proofs.Qxb6605408a
open Go.RowKit (wrap32)

/-- how many of f a, .., f (a + k - 1) have P -/
def cif (P : Nat → Bool) (f : Nat → Nat) (a : Nat) : Nat → Nat
  | 0 => 0
  | k + 1 => cif P f a k + (if P (f (a + k)) = true then 1 else 0)

theorem cif_mono {P P' : Nat → Bool} {f : Nat → Nat} {a : Nat} : ∀ {k}, (∀ j, j < k → P (f (a + j)) = true → P' (f (a + j)) = true) → cif P f a k ≤ cif P' f a k
  | 0, _ => Nat.le_refl _
  | k + 1, h => by
    have ih := cif_mono (P := P) (P' := P') (f := f) (a := a) (k := k) (fun j hj => h j (by omega))
    have := h k (by omega)
    unfold cif
    by_cases e : P (f (a + k)) = true
    · rw [if_pos e, if_pos (this e)]; omega
    · rw [if_neg e]; omega
theorem cif_eq {P P' : Nat → Bool} {f : Nat → Nat} {a : Nat} : ∀ {k}, (∀ j, j < k → P (f (a + j)) = true → P' (f (a + j)) = true) → cif P' f a k ≤ cif P f a k → ∀ j, j < k → P' (f (a + j)) = true → P (f (a + j)) = true
  | k + 1, h, hle, j, hj, hp => by
    have h1 := cif_mono (P := P) (P' := P') (f := f) (a := a) (k := k) (fun j hj => h j (by omega))
    have h2 := h k (by omega)
    unfold cif at hle
    by_cases e : j = k
    · subst e
      refine Decidable.by_contra (fun hn => ?_)
      rw [if_pos hp, if_neg hn] at hle
      omega
    · refine cif_eq (k := k) (fun j hj => h j (by omega)) ?_ j (by omega) hp
      by_cases e2 : P (f (a + k)) = true
      · rw [if_pos e2, if_pos (h2 e2)] at hle; omega
      · rw [if_neg e2] at hle; omega
theorem cif_pos {P : Nat → Bool} {f : Nat → Nat} {a : Nat} : ∀ {k}, 0 < cif P f a k → ∃ j, j < k ∧ P (f (a + j)) = true
  | k + 1, h => by
    unfold cif at h
    by_cases e : P (f (a + k)) = true
    · exact ⟨k, by omega, e⟩
    · rw [if_neg e] at h
      obtain ⟨j, hj, hp⟩ := cif_pos (k := k) h
      exact ⟨j, by omega, hp⟩
theorem cif_pos_of {P : Nat → Bool} {f : Nat → Nat} {a : Nat} : ∀ {k j}, j < k → P (f (a + j)) = true → 0 < cif P f a k
  | k + 1, j, hj, hp => by
    unfold cif
    by_cases e : j = k
    · subst e; rw [if_pos hp]; omega
    · have := cif_pos_of (P := P) (f := f) (a := a) (k := k) (j := j) (by omega) hp
      omega

/-- the sum over a list -/
theorem sum_occ_mem {q : List Nat} (hq : q.Nodup) (f : Nat → Nat) (a : Nat) : ∀ k, (q.map (fun v => occ f a k v)).sum = cif (fun v => decide (v ∈ q)) f a k
  | 0 => by
    have : ∀ l : List Nat, (l.map (fun v => occ f a 0 v)).sum = 0 := by
      intro l
      induction l with
      | nil => rfl
      | cons x l ih => rw [List.map_cons, List.sum_cons, ih]; rfl
    exact this q
  | k + 1 => by
    have ih := sum_occ_mem hq f a k
    have h1 : ∀ l : List Nat, l.Nodup → (l.map (fun v => occ f a (k + 1) v)).sum = (l.map (fun v => occ f a k v)).sum + (if f (a + k) ∈ l then 1 else 0) := by
      intro l
      induction l with
      | nil => intro _; rfl
      | cons x l ih =>
        intro hn
        rw [List.nodup_cons] at hn
        rw [List.map_cons, List.sum_cons, List.map_cons, List.sum_cons, ih hn.2, occ_succ]
        by_cases e : f (a + k) = x
        · rw [if_pos e, if_neg (by rw [e]; exact hn.1), if_pos (by rw [e]; exact List.mem_cons_self)]
          omega
        · rw [if_neg e]
          by_cases e2 : f (a + k) ∈ l
          · rw [if_pos e2, if_pos (List.mem_cons_of_mem _ e2)]; omega
          · rw [if_neg e2, if_neg (by rw [List.mem_cons]; rintro (h | h); exact e h; exact e2 h)]; omega
    rw [h1 q hq, ih]
    show _ = cif (fun v => decide (v ∈ q)) f a k + (if decide (f (a + k) ∈ q) = true then 1 else 0)
    simp

theorem range_count (f : Nat → Nat) (a u : Nat) : ∀ k, ((List.range k).map (fun j => f (a + j))).count u = occ f a k u
  | 0 => rfl
  | k + 1 => by
    rw [List.range_succ, List.map_append, List.count_append, range_count f a u k, occ_succ]
    simp [List.count_cons]
theorem ents_count (g : G) (v u : Nat) : (ents g v).count u = occ g.R (g.Q v) (g.Q (v + 1) - g.Q v) u := range_count g.R (g.Q v) u _

theorem allEnts_count (g : G) (u : Nat) : ∀ q : List Nat, (allEnts g q).count u = (q.map (fun v => occ g.R (g.Q v) (g.Q (v + 1) - g.Q v) u)).sum
  | [] => rfl
  | v :: q => by
    rw [allEnts, List.flatMap_cons, List.count_append, ents_count, List.map_cons, List.sum_cons]
    congr 1
    exact allEnts_count g u q

def slen (g : G) (u : Nat) : Nat := g.S (u + 1) - g.S u
/-- how many edges lead from u into P -/
def into (g : G) (P : Nat → Bool) (u : Nat) : Nat := cif P g.D (g.S u) (slen g u)

def TrOk (g : G) : Prop := ∀ w, w < g.n → ∀ x, x < g.n → occ g.R (g.Q w) (g.Q (w + 1) - g.Q w) x = occ g.D (g.S x) (g.S (x + 1) - g.S x) w
/-- the edges lead to vertices -/
def DOk (g : G) : Prop := ∀ u, u < g.n → ∀ k, k < slen g u → g.D (g.S u + k) < g.n

theorem allEnts_into {g : G} (ht : TrOk g) {q : List Nat} (hn : q.Nodup) (hq : ∀ v ∈ q, v < g.n) {u : Nat} (hu : u < g.n) : (allEnts g q).count u = into g (fun v => decide (v ∈ q)) u := by
  rw [allEnts_count]
  have : ∀ l : List Nat, (∀ v ∈ l, v < g.n) → (l.map (fun v => occ g.R (g.Q v) (g.Q (v + 1) - g.Q v) u)) = (l.map (fun v => occ g.D (g.S u) (slen g u) v)) := fun l hl => List.map_congr_left (fun v hv => ht v (hl v hv) u hu)
  rw [this q hq]
  exact sum_occ_mem hn _ _ _

theorem deg_cif (g : G) (u : Nat) : deg g u = into g (fun w => decide (g.dp ≤ g.lev w)) u := by
  have : ∀ k, degTo g u k = cif (fun w => decide (g.dp ≤ g.lev w)) g.D (g.S u) k := by
    intro k
    induction k with
    | zero => rfl
    | succ k ih => unfold degTo cif; rw [ih]; simp
  exact this _

/-! ### the sweeps -/
def intoTo (g : G) (A : Nat → Bool) (u : Nat) : Nat → Bool
  | 0 => false
  | k + 1 => if A (g.D (g.S u + k)) = true then true else intoTo g A u k
def allTo (g : G) (A : Nat → Bool) (u : Nat) : Nat → Bool
  | 0 => true
  | k + 1 => if A (g.D (g.S u + k)) = true then allTo g A u k else if g.dp ≤ g.lev (g.D (g.S u + k)) then false else allTo g A u k
def leftTo (g : G) (A : Nat → Bool) (u : Nat) : Nat → Nat
  | 0 => 0
  | k + 1 => if A (g.D (g.S u + k)) = true then leftTo g A u k else if g.dp ≤ g.lev (g.D (g.S u + k)) then leftTo g A u k + 1 else leftTo g A u k

theorem intoTo_iff {g : G} {A : Nat → Bool} {u : Nat} : ∀ k, intoTo g A u k = true ↔ ∃ j, j < k ∧ A (g.D (g.S u + j)) = true
  | 0 => by simp [intoTo]
  | k + 1 => by
    unfold intoTo
    by_cases e : A (g.D (g.S u + k)) = true
    · rw [if_pos e]; simp; exact ⟨k, by omega, e⟩
    · rw [if_neg e, intoTo_iff k]
      constructor
      · rintro ⟨j, hj, h⟩; exact ⟨j, by omega, h⟩
      · rintro ⟨j, hj, h⟩
        refine ⟨j, ?_, h⟩
        by_cases e2 : j = k
        · subst e2; exact absurd h e
        · omega
theorem allTo_iff {g : G} {A : Nat → Bool} {u : Nat} : ∀ k, allTo g A u k = true ↔ ∀ j, j < k → g.dp ≤ g.lev (g.D (g.S u + j)) → A (g.D (g.S u + j)) = true
  | 0 => by simp [allTo]
  | k + 1 => by
    unfold allTo
    by_cases e : A (g.D (g.S u + k)) = true
    · rw [if_pos e, allTo_iff k]
      constructor
      · intro h j hj hl
        by_cases e2 : j = k
        · subst e2; exact e
        · exact h j (by omega) hl
      · intro h j hj; exact h j (by omega)
    · rw [if_neg e]
      by_cases e3 : g.dp ≤ g.lev (g.D (g.S u + k))
      · rw [if_pos e3]
        simp only [Bool.false_eq_true, false_iff]
        intro h
        exact e (h k (by omega) e3)
      · rw [if_neg e3, allTo_iff k]
        constructor
        · intro h j hj hl
          by_cases e2 : j = k
          · subst e2; exact absurd hl e3
          · exact h j (by omega) hl
        · intro h j hj; exact h j (by omega)
/-- what has P and does not lie in A -/
theorem leftTo_eq {g : G} {A : Nat → Bool} {u : Nat} : ∀ k, (∀ j, j < k → A (g.D (g.S u + j)) = true → g.dp ≤ g.lev (g.D (g.S u + j))) → leftTo g A u k + cif A g.D (g.S u) k = cif (fun w => decide (g.dp ≤ g.lev w)) g.D (g.S u) k
  | 0, _ => rfl
  | k + 1, h => by
    have ih := leftTo_eq (A := A) (u := u) k (fun j hj => h j (by omega))
    have := h k (by omega)
    unfold leftTo cif
    by_cases e : A (g.D (g.S u + k)) = true
    · rw [if_pos e, if_pos e, if_pos (by simpa using this e)]; omega
    · rw [if_neg e, if_neg e]
      by_cases e2 : g.dp ≤ g.lev (g.D (g.S u + k))
      · rw [if_pos e2, if_pos (by simpa using e2)]; omega
      · rw [if_neg e2, if_neg (by simpa using e2)]; omega

/-- u is to be taken in -/
def takes (g : G) (A : Nat → Bool) (u : Nat) : Bool := intoTo g A u (slen g u) && (g.V u == g.vf || allTo g A u (slen g u))
def Closed (g : G) (A : Nat → Bool) : Prop := ∀ u, u < g.n → A u = false → ¬ g.lev u < g.dp → takes g A u = false
def Sub (g : G) (A : Nat → Bool) (s : ST) : Prop := ∀ u, u < g.n → A u = true → s.att u = g.a

/-! ### the marked vertices lie in the game -/
def LevOk (g : G) (s : ST) : Prop := ∀ v ∈ s.q, ¬ g.lev v < g.dp
theorem stepU_lev {g : G} {u : Nat} {s : ST} (h : LevOk g s) : LevOk g (stepU g u s) := by
  unfold stepU
  split
  · exact h
  · rename_i hc
    have h1 : ¬ g.lev u < g.dp := fun e => hc (.inl e)
    have hh : ∀ t : ST, t.q = s.q ++ [u] → LevOk g t := fun t ht v hv => by
      rw [ht] at hv
      simp at hv
      rcases hv with hv | hv
      · exact h v hv
      · rw [hv]; exact h1
    split
    · exact hh _ rfl
    · split
      · exact h
      · exact hh _ rfl
theorem steps_lev {g : G} : ∀ (l : List Nat) (s : ST), LevOk g s → LevOk g (steps g l s)
  | [], _, h => h
  | u :: l, s, h => steps_lev l (stepU g u s) (stepU_lev h)
theorem initTo_lev {g : G} {T : Nat → Nat} {s : ST} : ∀ k, (∀ i, i < k → ¬ g.lev (T i) < g.dp) → LevOk g (initTo g T s k)
  | 0, _ => fun v hv => by simp [initTo] at hv
  | k + 1, h => fun v hv => by
    simp only [initTo, List.mem_append, List.mem_singleton] at hv
    rcases hv with hv | hv
    · exact initTo_lev k (fun i hi => h i (by omega)) v hv
    · rw [hv]; exact h k (by omega)

/-! ### what is not touched -/
theorem stepU_out {g : G} {u x : Nat} {s : ST} (h : x ≠ u) : (stepU g u s).att x = s.att x ∧ (stepU g u s).cnt x = s.cnt x ∧ (stepU g u s).rem x = s.rem x := by
  unfold stepU
  split
  · exact ⟨rfl, rfl, rfl⟩
  · split
    · exact ⟨upd_other h, rfl, rfl⟩
    · split
      · exact ⟨rfl, upd_other h, upd_other h⟩
      · exact ⟨upd_other h, upd_other h, upd_other h⟩
theorem steps_out {g : G} {x : Nat} : ∀ (l : List Nat) (s : ST), x ∉ l → (steps g l s).att x = s.att x ∧ (steps g l s).cnt x = s.cnt x ∧ (steps g l s).rem x = s.rem x
  | [], _, _ => ⟨rfl, rfl, rfl⟩
  | u :: l, s, h => by
    rw [List.mem_cons, not_or] at h
    have h1 := stepU_out (g := g) (s := s) h.1
    have h2 := steps_out (g := g) l (stepU g u s) h.2
    exact ⟨h2.1.trans h1.1, h2.2.1.trans h1.2.1, h2.2.2.trans h1.2.2⟩
theorem steps_still {g : G} {x : Nat} : ∀ (l : List Nat) (s : ST), (g.lev x < g.dp ∨ g.V x = g.vf ∨ s.att x = g.a) → (steps g l s).cnt x = s.cnt x ∧ (steps g l s).rem x = s.rem x
  | [], _, _ => ⟨rfl, rfl⟩
  | u :: l, s, h => by
    have h1 : (stepU g u s).cnt x = s.cnt x ∧ (stepU g u s).rem x = s.rem x := by
      by_cases e : x = u
      · subst e
        unfold stepU
        split
        · exact ⟨rfl, rfl⟩
        · rename_i hc
          rcases h with h | h | h
          · exact absurd (.inl h) hc
          · rw [if_pos h]; exact ⟨rfl, rfl⟩
          · exact absurd (.inr h) hc
      · exact (stepU_out e).2
    have h2 := steps_still (x := x) l (stepU g u s) (h.imp id (Or.imp id (fun e => (stepU_keep g u s).att x e)))
    exact ⟨h2.1.trans h1.1, h2.2.trans h1.2⟩

/-! ### who was taken in, with his count at nought -/
def Took (g : G) (s0 s : ST) (M : Nat → Nat) : Prop := ∀ u, u < g.n → ¬ g.lev u < g.dp → g.V u ≠ g.vf → s0.att u ≠ g.a → s.att u = g.a → s.cnt u = g.a ∧ s.rem u ≤ 0 ∧ (deg g u : Int) - M u ≤ s.rem u
theorem stepU_took {g : G} (hs : Small g) {u : Nat} (hu : u < g.n) {s0 s : ST} {c M : Nat → Nat} (h : Cnt g s c) (hc : c u + 1 ≤ M u) (ht : Took g s0 s M) : Took g s0 (stepU g u s) M := by
  intro x hx h1 h2 h3 h4
  by_cases e : x = u
  · subst e
    by_cases h5 : s.att x = g.a
    · have : stepU g x s = s := if_pos (.inr h5)
      rw [this]
      exact ht x hx h1 h2 h3 h5
    · have h6 := left_eq hs hx ((h x hx h1 h5).2 h2)
      by_cases h7 : 0 < left g x s
      · rw [step_keep' h1 h5 h2 h7] at h4
        exact absurd h4 h5
      · rw [step_take' h1 h5 h2 h7]
        refine ⟨upd_same _ _ _, ?_, ?_⟩
        · show upd s.rem x _ x ≤ 0
          rw [upd_same]; omega
        · show _ ≤ upd s.rem x _ x
          rw [upd_same, h6]; omega
  · have h5 := stepU_out (g := g) (s := s) e
    rw [h5.1] at h4
    rw [h5.2.1, h5.2.2]
    exact ht x hx h1 h2 h3 h4
theorem steps_took {g : G} (hs : Small g) {s0 : ST} {M : Nat → Nat} : ∀ (l : List Nat) (s : ST) (c : Nat → Nat), (∀ u ∈ l, u < g.n) → Cnt g s c → (∀ u, u < g.n → c u + l.count u ≤ M u) → Took g s0 s M → Took g s0 (steps g l s) M
  | [], _, _, _, _, _, h => h
  | u :: l, s, c, hl, h, hM, ht => by
    have hu := hl u List.mem_cons_self
    have hMu := hM u hu
    rw [List.count_cons_self] at hMu
    refine steps_took hs l (stepU g u s) _ (fun v hv => hl v (List.mem_cons_of_mem _ hv)) (stepU_cnt hs hu h) (fun x hx => ?_) (stepU_took hs hu h (by omega) ht)
    have := hM x hx
    rw [List.count_cons] at this
    by_cases e : u = x
    · subst e; simp at this ⊢; omega
    · simp [e] at this ⊢; exact this

/-! ### the marked vertices lie in each closed set over the targets -/
theorem stepU_in {g : G} (hs : Small g) {A : Nat → Bool} {u : Nat} (hu : u < g.n) {s : ST} {c M : Nat → Nat} (h : Cnt g s c) (hc : c u + 1 ≤ M u)
    (hcl : ∀ u, u < g.n → ¬ g.lev u < g.dp → 0 < M u → (g.V u = g.vf ∨ deg g u ≤ M u) → A u = true) (hA : ∀ v ∈ s.q, A v = true) : ∀ v ∈ (stepU g u s).q, A v = true := by
  unfold stepU
  split
  · exact hA
  · rename_i hn
    have h1 : ¬ g.lev u < g.dp := fun e => hn (.inl e)
    have h2 : s.att u ≠ g.a := fun e => hn (.inr e)
    have hh : ∀ t : ST, t.q = s.q ++ [u] → A u = true → ∀ v ∈ t.q, A v = true := fun t ht hu v hv => by
      rw [ht] at hv
      simp at hv
      rcases hv with hv | hv
      · exact hA v hv
      · rw [hv]; exact hu
    split
    · rename_i h3
      exact hh _ rfl (hcl u hu h1 (by omega) (.inl h3))
    · rename_i h3
      split
      · exact hA
      · rename_i h4
        have h5 := left_eq hs hu ((h u hu h1 h2).2 h3)
        exact hh _ rfl (hcl u hu h1 (by omega) (.inr (by omega)))
theorem steps_in {g : G} (hs : Small g) {A : Nat → Bool} {M : Nat → Nat} (hcl : ∀ u, u < g.n → ¬ g.lev u < g.dp → 0 < M u → (g.V u = g.vf ∨ deg g u ≤ M u) → A u = true) :
    ∀ (l : List Nat) (s : ST) (c : Nat → Nat), (∀ u ∈ l, u < g.n) → Cnt g s c → (∀ u, u < g.n → c u + l.count u ≤ M u) → (∀ v ∈ s.q, A v = true) → ∀ v ∈ (steps g l s).q, A v = true
  | [], _, _, _, _, _, h => h
  | u :: l, s, c, hl, h, hM, ht => by
    have hu := hl u List.mem_cons_self
    have hMu := hM u hu
    rw [List.count_cons_self] at hMu
    refine steps_in hs hcl l (stepU g u s) _ (fun v hv => hl v (List.mem_cons_of_mem _ hv)) (stepU_cnt hs hu h) (fun x hx => ?_) (stepU_in hs hu h (by omega) hcl ht)
    have := hM x hx
    rw [List.count_cons] at this
    by_cases e : u = x
    · subst e; simp at this ⊢; omega
    · simp [e] at this ⊢; exact this

theorem runTo_in {g : G} (hR : ROk g) (hs : Small g) (ht : TrOk g) {A : Nat → Bool} {s0 : ST} (h0 : QIs g s0) (hc0 : ∀ v, v < g.n → s0.cnt v ≠ g.a) (hA0 : ∀ v ∈ s0.q, A v = true)
    (hcl : ∀ u, u < g.n → ¬ g.lev u < g.dp → 0 < into g A u → (g.V u = g.vf ∨ deg g u ≤ into g A u) → A u = true) :
    ∀ i, (∀ v ∈ (runTo g s0 i).q, A v = true) ∧ QIs g (runTo g s0 i) ∧ Cnt g (runTo g s0 i) (fun x => (allEnts g ((runTo g s0 i).q.take i)).count x)
  | 0 => ⟨hA0, h0, fun u hu _ _ => ⟨fun _ => by simp [allEnts], fun _ => .inl ⟨by simp [allEnts], hc0 u hu⟩⟩⟩
  | i + 1 => by
    obtain ⟨h1, h2, h3⟩ := runTo_in hR hs ht h0 hc0 hA0 hcl i
    by_cases hlt : i < (runTo g s0 i).q.length
    · have hv : (runTo g s0 i).q[i] < g.n := h2.lt _ (List.getElem_mem hlt)
      have e2 : allEnts g ((runTo g s0 i).q.take (i + 1)) = allEnts g ((runTo g s0 i).q.take i) ++ ents g (runTo g s0 i).q[i] := by
        rw [List.take_succ_eq_append_getElem hlt, allEnts, List.flatMap_append]
        simp [allEnts]
      have hM : ∀ x, x < g.n → (allEnts g ((runTo g s0 i).q.take i)).count x + (ents g (runTo g s0 i).q[i]).count x ≤ into g A x := fun x hx => by
        rw [← List.count_append, ← e2, allEnts_into ht (h2.nodup.sublist (List.take_sublist _ _)) (fun v hv => h2.lt v (List.mem_of_mem_take hv)) hx]
        exact cif_mono (fun j _ hj => h1 _ (List.mem_of_mem_take (of_decide_eq_true hj)))
      obtain ⟨m, hm⟩ := runTo_q g s0 i
      have ht : (runTo g s0 (i + 1)).q.take (i + 1) = (runTo g s0 i).q.take (i + 1) := by
        rw [hm, List.take_append_of_le_length (by omega)]
      rw [ht, runTo_succ hlt, inner_steps]
      refine ⟨steps_in hs hcl _ _ _ (ents_lt hR hv) h3 hM h1, steps_qis _ _ (ents_lt hR hv) h2, ?_⟩
      have h5 := steps_cnt hs (ents g (runTo g s0 i).q[i]) (runTo g s0 i) _ (ents_lt hR hv) h3
      intro x hx a b
      have := h5 x hx a b
      dsimp only
      rw [e2, List.count_append]
      exact this
    · rw [show runTo g s0 (i + 1) = runTo g s0 i from runTo_stuck (by omega) 1]
      refine ⟨h1, h2, ?_⟩
      rw [List.take_of_length_le (by omega)]
      rw [List.take_of_length_le (by omega)] at h3
      exact h3

/-- what the law asks of the game and of the call -/
structure LOk (g : G) (T : Nat → Nat) (nt : Nat) (s : ST) : Prop where
  hR : ROk g
  hs : Small g
  ht : TrOk g
  hD : DOk g
  hT : ∀ i, i < nt → T i < g.n
  hd : ∀ i j, i < j → j < nt → T i ≠ T j
  hl : ∀ i, i < nt → ¬ g.lev (T i) < g.dp
  h0 : ∀ v, v < g.n → s.att v ≠ g.a
  h1 : ∀ v, v < g.n → s.cnt v ≠ g.a

theorem LOk.facts {g : G} {T : Nat → Nat} {nt : Nat} {s : ST} (h : LOk g T nt s) :
    QIs g (attractF g T nt s) ∧ LevOk g (attractF g T nt s) ∧ (∀ u, u < g.n → (allEnts g (attractF g T nt s).q).count u = into g (fun v => decide (v ∈ (attractF g T nt s).q)) u) ∧ Cnt g (attractF g T nt s) (fun x => (allEnts g (attractF g T nt s).q).count x) := by
  have hq := attractF_qis h.hR h.hT h.hd h.h0
  refine ⟨hq, ?_, fun u hu => allEnts_into h.ht hq.nodup hq.lt hu, attractF_cnt h.hR h.hs h.hT h.h1⟩
  rw [attractF_steps h.hR h.hT]
  exact steps_lev _ _ (initTo_lev nt h.hl)

/-- a sweep takes in none but the marked -/
theorem LOk.sub {g : G} {T : Nat → Nat} {nt : Nat} {s : ST} (h : LOk g T nt s) {A : Nat → Bool} (hA : Sub g A (attractF g T nt s)) {u : Nat} (hu : u < g.n) (hl : ¬ g.lev u < g.dp) (htk : takes g A u = true) : (attractF g T nt s).att u = g.a := by
  obtain ⟨hq, hlv, hcn, hc⟩ := h.facts
  refine Decidable.by_contra (fun ha => ?_)
  have h1 := hc u hu hl ha
  dsimp only at h1
  rw [hcn u hu] at h1
  unfold takes at htk
  rw [Bool.and_eq_true, Bool.or_eq_true, intoTo_iff, allTo_iff, beq_iff_eq] at htk
  obtain ⟨⟨j, hj, hAj⟩, h2⟩ := htk
  have hmem : ∀ j, j < slen g u → A (g.D (g.S u + j)) = true → g.D (g.S u + j) ∈ (attractF g T nt s).q := fun j hj hAj => (hq.mem _ (h.hD u hu j hj)).2 (hA _ (h.hD u hu j hj) hAj)
  have hpos : 0 < into g (fun v => decide (v ∈ (attractF g T nt s).q)) u := cif_pos_of hj (by simpa using hmem j hj hAj)
  by_cases hv : g.V u = g.vf
  · have := h1.1 hv
    omega
  · rcases h2 with h2 | h2
    · exact hv h2
    · have hle : deg g u ≤ into g (fun v => decide (v ∈ (attractF g T nt s).q)) u := by
        rw [deg_cif]
        exact cif_mono (fun j hj hp => by
          have := hmem j hj (h2 j hj (of_decide_eq_true hp))
          simpa using this)
      rcases h1.2 hv with ⟨h3, _⟩ | ⟨_, _, h3⟩
      · omega
      · omega

/-- THE LAW -/
theorem LOk.least {g : G} {T : Nat → Nat} {nt : Nat} {s : ST} (h : LOk g T nt s) {A : Nat → Bool} (hTA : ∀ i, i < nt → A (T i) = true) (hA : Sub g A (attractF g T nt s)) (hcl : Closed g A) :
    ∀ u, u < g.n → (attractF g T nt s).att u = (if A u = true then g.a else s.att u) ∧
      ((∃ i, i < nt ∧ T i = u) ∨ g.lev u < g.dp ∨ g.V u = g.vf ∨ intoTo g A u (slen g u) = false → (attractF g T nt s).cnt u = s.cnt u ∧ (attractF g T nt s).rem u = s.rem u) ∧
      (¬ (∃ i, i < nt ∧ T i = u) → ¬ g.lev u < g.dp → g.V u ≠ g.vf → intoTo g A u (slen g u) = true → (attractF g T nt s).cnt u = g.a ∧ (attractF g T nt s).rem u = leftTo g A u (slen g u)) := by
  obtain ⟨hq, hlv, hcn, hc⟩ := h.facts
  have hiq := initTo_qis (T := T) h.h0 nt h.hT h.hd
  have hAlev : ∀ u, u < g.n → A u = true → ¬ g.lev u < g.dp := fun u hu ha => hlv u ((hq.mem u hu).2 (hA u hu ha))
  have hin := (runTo_in h.hR h.hs h.ht (A := A) hiq.1 (fun v hv => by rw [(initTo_cnt g T s nt).1]; exact h.h1 v hv) (fun v hv => by
      have hv2 := (hiq.1.mem v (hiq.1.lt v hv)).1 hv
      rcases hiq.2 v hv2 with ⟨i, hi, e⟩ | e
      · rw [e]; exact hTA i hi
      · exact absurd e (h.h0 v (hiq.1.lt v hv))) (fun u hu hl hpos hor => by
      refine Decidable.by_contra (fun hn => ?_)
      have hcu := hcl u hu (by simpa using hn) hl
      have : takes g A u = true := by
        unfold takes
        rw [Bool.and_eq_true, Bool.or_eq_true, intoTo_iff, allTo_iff, beq_iff_eq]
        refine ⟨cif_pos hpos, ?_⟩
        rcases hor with hor | hor
        · exact .inl hor
        · refine .inr (fun j hj hlj => ?_)
          rw [deg_cif] at hor
          exact cif_eq (P := A) (P' := fun w => decide (g.dp ≤ g.lev w)) (fun j hj hp => by
            have := hAlev _ (h.hD u hu j hj) hp
            simp; omega) hor j hj (by simpa using hlj)
      rw [this] at hcu
      cases hcu) (nt + g.n)).1
  have hAiff : ∀ u, u < g.n → (A u = true ↔ (attractF g T nt s).att u = g.a) := fun u hu => ⟨hA u hu, fun e => hin u ((hq.mem u hu).2 e)⟩
  have hinto : ∀ u, u < g.n → into g (fun v => decide (v ∈ (attractF g T nt s).q)) u = into g A u := fun u hu => by
    refine Nat.le_antisymm (cif_mono (fun j hj hp => ?_)) (cif_mono (fun j hj hp => ?_))
    · exact hin _ (of_decide_eq_true hp)
    · have := (hq.mem _ (h.hD u hu j hj)).2 (hA _ (h.hD u hu j hj) hp)
      simpa using this
  have hst := attractF_steps h.hR h.hT (s := s)
  have hkeep := (attractF_keep h.hR h.hT (s := s)).1
  intro u hu
  have hleft : leftTo g A u (slen g u) + into g A u = deg g u := by
    rw [deg_cif]
    refine leftTo_eq _ (fun j hj hp => ?_)
    have := hAlev _ (h.hD u hu j hj) hp
    omega
  have hcu : (allEnts g (attractF g T nt s).q).count u = into g A u := (hcn u hu).trans (hinto u hu)
  refine ⟨?_, fun hor => ?_, fun hnt hl hv hi => ?_⟩
  · by_cases e : A u = true
    · rw [if_pos e]; exact hA u hu e
    · rw [if_neg e]
      rcases hkeep.only u with e2 | e2
      · exact e2
      · exact absurd ((hAiff u hu).2 e2) e
  · have hi := initTo_cnt g T s nt
    rw [← hi.1, ← hi.2, hst]
    rcases hor with ⟨i, hi, e⟩ | hor | hor | hor
    · exact steps_still _ _ (.inr (.inr (by rw [← e]; exact initTo_mark g T s nt i hi)))
    · exact steps_still _ _ (.inl hor)
    · exact steps_still _ _ (.inr (.inl hor))
    · refine (steps_out _ _ (fun hm => ?_)).2
      have : 0 < (allEnts g (attractF g T nt s).q).count u := List.count_pos_iff.2 hm
      rw [hcu] at this
      have := (intoTo_iff (g := g) (A := A) (u := u) (slen g u)).2 (cif_pos this)
      rw [hor] at this
      cases this
  · have hpos : 0 < into g A u := by
      obtain ⟨j, hj, hp⟩ := (intoTo_iff _).1 hi
      exact cif_pos_of hj hp
    have hi0 : (initTo g T s nt).att u ≠ g.a := fun e => by
      rcases hiq.2 u e with ⟨i, hi, e2⟩ | e2
      · exact hnt ⟨i, hi, e2.symm⟩
      · exact h.h0 u hu e2
    by_cases ha : (attractF g T nt s).att u = g.a
    · have htook := steps_took h.hs (s0 := initTo g T s nt) (M := fun x => into g A x) (allEnts g (attractF g T nt s).q) (initTo g T s nt) (fun _ => 0) (allEnts_lt h.hR (attractF_qok h.hR h.hT))
        (fun u hu _ _ => ⟨fun _ => rfl, fun _ => .inl ⟨rfl, by rw [(initTo_cnt g T s nt).1]; exact h.h1 u hu⟩⟩) (fun x hx => by
          rw [Nat.zero_add, hcn x hx, hinto x hx]
          exact Nat.le_refl _) (fun x _ _ _ h1 h2 => absurd h2 h1)
      rw [← hst] at htook
      obtain ⟨t1, t2, t3⟩ := htook u hu hl hv hi0 ha
      dsimp only at t3
      exact ⟨t1, by omega⟩
    · have h1 := (hc u hu hl ha).2 hv
      dsimp only at h1
      rw [hcu] at h1
      rcases h1 with ⟨h2, _⟩ | ⟨h2, h3, _⟩
      · omega
      · exact ⟨h2, by omega⟩

/-! ### one sweep -/
def swU (g : G) (A : Nat → Bool) (u : Nat) : Nat → Bool := if A u = true ∨ g.lev u < g.dp then A else if takes g A u = true then upd A u true else A
def swTo (g : G) (A : Nat → Bool) : Nat → (Nat → Bool)
  | 0 => A
  | k + 1 => swU g (swTo g A k) k
def swAdds (g : G) (A : Nat → Bool) (u : Nat) : Bool := !(A u || decide (g.lev u < g.dp)) && takes g A u
def chTo (g : G) (A : Nat → Bool) : Nat → Bool
  | 0 => false
  | k + 1 => if swAdds g (swTo g A k) k = true then true else chTo g A k

def size (g : G) (A : Nat → Bool) : Nat := sumTo (fun v => if A v = true then 1 else 0) g.n

theorem swU_add {g : G} {A : Nat → Bool} {u : Nat} (h : swAdds g A u = true) : swU g A u = upd A u true := by
  unfold swAdds at h
  simp at h
  unfold swU
  rw [if_neg (by rintro (e | e); rw [h.1.1] at e; cases e; omega), if_pos h.2]
theorem swU_not {g : G} {A : Nat → Bool} {u : Nat} (h : swAdds g A u = false) : swU g A u = A := by
  unfold swU
  by_cases e : A u = true ∨ g.lev u < g.dp
  · rw [if_pos e]
  · rw [if_neg e, if_neg]
    intro e2
    have : swAdds g A u = true := by
      unfold swAdds
      rw [not_or] at e
      have e1 : A u = false := by simpa using e.1
      simp [e1, e2]
      omega
    rw [this] at h
    cases h

structure SwOk (g : G) (T : Nat → Nat) (nt : Nat) (s : ST) (A : Nat → Bool) : Prop where
  tgt : ∀ i, i < nt → A (T i) = true
  sub : Sub g A (attractF g T nt s)

theorem SwOk.step {g : G} {T : Nat → Nat} {nt : Nat} {s : ST} (h : LOk g T nt s) {A : Nat → Bool} (hA : SwOk g T nt s A) {u : Nat} (hu : u < g.n) : SwOk g T nt s (swU g A u) := by
  by_cases e : swAdds g A u = true
  · rw [swU_add e]
    refine ⟨fun i hi => ?_, fun v hv ha => ?_⟩
    · by_cases e2 : T i = u
      · rw [e2]; exact upd_same _ _ _
      · rw [upd_other e2]; exact hA.tgt i hi
    · by_cases e2 : v = u
      · subst e2
        unfold swAdds at e
        simp at e
        exact h.sub hA.sub hu (by omega) e.2
      · rw [upd_other e2] at ha
        exact hA.sub v hv ha
  · rw [swU_not (by simpa using e)]
    exact hA
theorem SwOk.sweep {g : G} {T : Nat → Nat} {nt : Nat} {s : ST} (h : LOk g T nt s) {A : Nat → Bool} (hA : SwOk g T nt s A) : ∀ k, k ≤ g.n → SwOk g T nt s (swTo g A k)
  | 0, _ => hA
  | k + 1, hk => SwOk.step h (SwOk.sweep h hA k (by omega)) (by omega)

theorem swTo_still {g : G} {A : Nat → Bool} : ∀ k, chTo g A k = false → swTo g A k = A ∧ ∀ u, u < k → swAdds g A u = false
  | 0, _ => ⟨rfl, fun u hu => by omega⟩
  | k + 1, h => by
    unfold chTo at h
    by_cases e : swAdds g (swTo g A k) k = true
    · rw [if_pos e] at h; cases h
    · rw [if_neg e] at h
      obtain ⟨h1, h2⟩ := swTo_still k h
      rw [h1] at e
      have e' : swAdds g A k = false := by simpa using e
      refine ⟨?_, fun u hu => ?_⟩
      · show swU g (swTo g A k) k = A
        rw [h1, swU_not e']
      · by_cases e2 : u = k
        · subst e2; exact e'
        · exact h2 u (by omega)
/-- a sweep that takes in none: the set is closed -/
theorem closed_of {g : G} {A : Nat → Bool} (h : chTo g A g.n = false) : Closed g (swTo g A g.n) := by
  obtain ⟨h1, h2⟩ := swTo_still g.n h
  rw [h1]
  intro u hu hA hl
  have := h2 u hu
  unfold swAdds at this
  rw [hA] at this
  simp at this
  exact this (by omega)

theorem size_step (g : G) (A : Nat → Bool) {u : Nat} (hu : u < g.n) : size g A + (if swAdds g A u = true then 1 else 0) ≤ size g (swU g A u) := by
  by_cases e : swAdds g A u = true
  · rw [if_pos e, swU_add e]
    have hAu : A u = false := by
      unfold swAdds at e
      simp at e
      exact e.1.1
    have h1 := sumTo_upd (f := fun v => if A v = true then 1 else 0) (n := g.n) hu (x := 1)
    have h2 : sumTo (fun v => if upd A u true v = true then 1 else 0) g.n = sumTo (fun j => if j = u then 1 else (if A j = true then 1 else 0)) g.n := by
      refine sumTo_congr (fun j _ => ?_)
      by_cases e2 : j = u
      · subst e2; rw [upd_same]; simp
      · rw [upd_other e2, if_neg e2]
    unfold size
    rw [h2]
    simp only [hAu] at h1
    simp at h1
    omega
  · rw [if_neg e, swU_not (by simpa using e)]
    exact Nat.le_refl _
theorem size_sweep (g : G) (A : Nat → Bool) : ∀ k, k ≤ g.n → size g A + (if chTo g A k = true then 1 else 0) ≤ size g (swTo g A k)
  | 0, _ => by simp [chTo, swTo]
  | k + 1, hk => by
    have ih := size_sweep g A k (by omega)
    have hs := size_step g (swTo g A k) (u := k) (by omega)
    show size g A + (if (if swAdds g (swTo g A k) k = true then true else chTo g A k) = true then 1 else 0) ≤ size g (swU g (swTo g A k) k)
    by_cases e : swAdds g (swTo g A k) k = true
    · rw [if_pos e] at hs ⊢
      rw [if_pos rfl]
      omega
    · rw [if_neg e] at hs ⊢
      omega
theorem size_le (g : G) (A : Nat → Bool) : size g A ≤ g.n := by
  unfold size
  have h : ∀ m, sumTo (fun _ => 1) m = m := by
    intro m
    induction m with
    | zero => rfl
    | succ m ih => rw [sumTo_succ, ih]
  have := sumTo_le (f := fun v => if A v = true then 1 else 0) (g := fun _ => 1) (k := g.n) (fun j _ => by split <;> omega)
  rw [h] at this
  exact this

end Go.Proofs.Qxb6605408a
