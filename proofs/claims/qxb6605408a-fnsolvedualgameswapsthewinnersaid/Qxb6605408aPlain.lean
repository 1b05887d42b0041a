import Derived.Test.Qxb6605408aAttP
namespace Go.Proofs.Qxb6605408a
open Go.RowKit (wrap32)

theorem wrap32_small {x : Int} (h1 : -2147483648 ≤ x) (h2 : x ≤ 2147483647) : wrap32 x = x := by
  unfold wrap32
  omega

/-- the entries of v's list -/
def ents (g : G) (v : Nat) : List Nat := (List.range (g.Q (v + 1) - g.Q v)).map (fun k => g.R (g.Q v + k))
def steps (g : G) (l : List Nat) (s : ST) : ST := l.foldl (fun s u => stepU g u s) s
/-- all entries of the lists of the vertices of q -/
def allEnts (g : G) (q : List Nat) : List Nat := q.flatMap (ents g)

theorem steps_append (g : G) (l m : List Nat) (s : ST) : steps g (l ++ m) s = steps g m (steps g l s) := List.foldl_append

theorem innerTo_steps (g : G) (v : Nat) (s : ST) : ∀ k, innerTo g v k s = steps g ((List.range k).map (fun k => g.R (g.Q v + k))) s
  | 0 => rfl
  | k + 1 => by
    rw [List.range_succ, List.map_append, steps_append, ← innerTo_steps g v s k]
    rfl
theorem inner_steps (g : G) (v : Nat) (s : ST) : inner g v s = steps g (ents g v) s := innerTo_steps g v s _

theorem stepU_q (g : G) (u : Nat) (s : ST) : ∃ m, (stepU g u s).q = s.q ++ m := by
  unfold stepU
  split
  · exact ⟨[], by simp⟩
  · split
    · exact ⟨[u], rfl⟩
    · split
      · exact ⟨[], by simp⟩
      · exact ⟨[u], rfl⟩
theorem steps_q (g : G) : ∀ (l : List Nat) (s : ST), ∃ m, (steps g l s).q = s.q ++ m
  | [], s => ⟨[], by simp [steps]⟩
  | u :: l, s => by
    obtain ⟨m1, h1⟩ := stepU_q g u s
    obtain ⟨m2, h2⟩ := steps_q g l (stepU g u s)
    refine ⟨m1 ++ m2, ?_⟩
    show (steps g l (stepU g u s)).q = _
    rw [h2, h1, List.append_assoc]

theorem runTo_q (g : G) (s0 : ST) (i : Nat) : ∃ m, (runTo g s0 (i + 1)).q = (runTo g s0 i).q ++ m := by
  by_cases h : i < (runTo g s0 i).q.length
  · rw [runTo_succ h, inner_steps]
    exact steps_q g _ _
  · rw [show runTo g s0 (i + 1) = runTo g s0 i from runTo_stuck (by omega) 1]
    exact ⟨[], by simp⟩
theorem runTo_q_le (g : G) (s0 : ST) (i : Nat) : ∀ k, (runTo g s0 i).q.length ≤ (runTo g s0 (i + k)).q.length
  | 0 => Nat.le_refl _
  | k + 1 => by
    have h1 := runTo_q_le g s0 i k
    obtain ⟨m, hm⟩ := runTo_q g s0 (i + k)
    rw [show i + (k + 1) = i + k + 1 by omega, hm]
    simp
    omega

theorem runTo_steps (g : G) (s0 : ST) : ∀ i, i ≤ (runTo g s0 i).q.length → runTo g s0 i = steps g (allEnts g ((runTo g s0 i).q.take i)) s0
  | 0, _ => by simp [allEnts, steps, runTo]
  | i + 1, hi => by
    have hlt : i < (runTo g s0 i).q.length := by
      refine Nat.lt_of_not_le (fun h => ?_)
      rw [show runTo g s0 (i + 1) = runTo g s0 i from runTo_stuck h 1] at hi
      omega
    have ih := runTo_steps g s0 i (by omega)
    obtain ⟨m, hm⟩ := runTo_q g s0 i
    have ht : (runTo g s0 (i + 1)).q.take (i + 1) = (runTo g s0 i).q.take i ++ [(runTo g s0 i).q[i]] := by
      rw [hm, List.take_append_of_le_length (by omega), List.take_succ_eq_append_getElem hlt]
    rw [ht, allEnts, List.flatMap_append, steps_append]
    show _ = steps g _ (steps g (allEnts g _) s0)
    rw [← ih, runTo_succ hlt, inner_steps]
    simp

/-- the run, as one list of entries -/
theorem attractF_steps {g : G} (hR : ROk g) {T : Nat → Nat} {nt : Nat} {s : ST} (hT : ∀ i, i < nt → T i < g.n) :
    attractF g T nt s = steps g (allEnts g (attractF g T nt s).q) (initTo g T s nt) := by
  have hl := runTo_len hR (s := s) hT (nt + g.n)
  have h1 := runTo_q_le g (initTo g T s nt) (attractF g T nt s).q.length (nt + g.n - (attractF g T nt s).q.length)
  rw [show (attractF g T nt s).q.length + (nt + g.n - (attractF g T nt s).q.length) = nt + g.n by unfold attractF; omega] at h1
  have h2 : (runTo g (initTo g T s nt) (attractF g T nt s).q.length).q.length ≤ (attractF g T nt s).q.length := h1
  have h3 := runTo_stuck h2 (nt + g.n - (attractF g T nt s).q.length)
  rw [show (attractF g T nt s).q.length + (nt + g.n - (attractF g T nt s).q.length) = nt + g.n by unfold attractF; omega] at h3
  have h4 : attractF g T nt s = runTo g (initTo g T s nt) (attractF g T nt s).q.length := h3
  have h5 := runTo_steps g (initTo g T s nt) (attractF g T nt s).q.length (by rw [← h4]; exact Nat.le_refl _)
  rw [← h4] at h5
  rw [List.take_of_length_le (Nat.le_refl _)] at h5
  exact h5

/-! ### what stays and what turns -/
structure Keep (g : G) (s t : ST) : Prop where
  att : ∀ u, s.att u = g.a → t.att u = g.a
  only : ∀ u, t.att u = s.att u ∨ t.att u = g.a
  cnt : ∀ u, t.cnt u = s.cnt u ∨ t.cnt u = g.a

theorem upd_or {α : Type} (f : Nat → α) (i : Nat) (v : α) (j : Nat) : upd f i v j = f j ∨ upd f i v j = v := by
  by_cases e : j = i
  · subst e; exact .inr (upd_same _ _ _)
  · exact .inl (upd_other e)
theorem upd_stay {α : Type} {f : Nat → α} (i : Nat) {v : α} {j : Nat} (h : f j = v) : upd f i v j = v := by
  rcases upd_or f i v j with e | e
  · rw [e, h]
  · exact e

theorem Keep.refl (g : G) (s : ST) : Keep g s s := ⟨fun _ h => h, fun _ => .inl rfl, fun _ => .inl rfl⟩
theorem Keep.trans {g : G} {s t r : ST} (h : Keep g s t) (k : Keep g t r) : Keep g s r :=
  ⟨fun u hu => k.att u (h.att u hu), fun u => by
    rcases k.only u with e | e
    · rw [e]; exact h.only u
    · exact .inr e, fun u => by
    rcases k.cnt u with e | e
    · rw [e]; exact h.cnt u
    · exact .inr e⟩
theorem stepU_keep (g : G) (u : Nat) (s : ST) : Keep g s (stepU g u s) := by
  unfold stepU
  split
  · exact Keep.refl g s
  · split
    · exact ⟨fun _ h => upd_stay _ h, fun _ => upd_or _ _ _ _, fun _ => .inl rfl⟩
    · split
      · exact ⟨fun _ h => h, fun _ => .inl rfl, fun _ => upd_or _ _ _ _⟩
      · exact ⟨fun _ h => upd_stay _ h, fun _ => upd_or _ _ _ _, fun _ => upd_or _ _ _ _⟩
theorem steps_keep (g : G) : ∀ (l : List Nat) (s : ST), Keep g s (steps g l s)
  | [], s => Keep.refl g s
  | u :: l, s => (stepU_keep g u s).trans (steps_keep g l (stepU g u s))
theorem initTo_keep (g : G) (T : Nat → Nat) (s : ST) : ∀ k, Keep g s (initTo g T s k)
  | 0 => ⟨fun _ h => h, fun _ => .inl rfl, fun _ => .inl rfl⟩
  | k + 1 => (initTo_keep g T s k).trans ⟨fun _ h => upd_stay _ h, fun _ => upd_or _ _ _ _, fun _ => .inl rfl⟩
theorem initTo_mark (g : G) (T : Nat → Nat) (s : ST) : ∀ k i, i < k → (initTo g T s k).att (T i) = g.a
  | k + 1, i, hi => by
    show upd (initTo g T s k).att (T k) g.a (T i) = _
    by_cases e : i = k
    · subst e; exact upd_same _ _ _
    · exact upd_stay _ (initTo_mark g T s k i (by omega))
theorem initTo_cnt (g : G) (T : Nat → Nat) (s : ST) : ∀ k, (initTo g T s k).cnt = s.cnt ∧ (initTo g T s k).rem = s.rem
  | 0 => ⟨rfl, rfl⟩
  | k + 1 => initTo_cnt g T s k

theorem attractF_keep {g : G} (hR : ROk g) {T : Nat → Nat} {nt : Nat} {s : ST} (hT : ∀ i, i < nt → T i < g.n) : Keep g s (attractF g T nt s) ∧ ∀ i, i < nt → (attractF g T nt s).att (T i) = g.a := by
  rw [attractF_steps hR hT]
  exact ⟨(initTo_keep g T s nt).trans (steps_keep g _ _), fun i hi => (steps_keep g _ _).att _ (initTo_mark g T s nt i hi)⟩

/-! ### the queue holds each marked vertex once -/
structure QIs (g : G) (s : ST) : Prop where
  nodup : s.q.Nodup
  mem : ∀ v, v < g.n → (v ∈ s.q ↔ s.att v = g.a)
  lt : ∀ v ∈ s.q, v < g.n

theorem QIs.mark {g : G} {s : ST} (h : QIs g s) {u : Nat} (hu : u < g.n) (ha : s.att u ≠ g.a) {t : ST} (hq : t.q = s.q ++ [u]) (hat : t.att = upd s.att u g.a) : QIs g t := by
  have hn : u ∉ s.q := fun hm => ha ((h.mem u hu).1 hm)
  refine ⟨?_, fun v hv => ?_, fun v hv => ?_⟩
  · rw [hq, List.nodup_append]
    refine ⟨h.nodup, by simp, fun a hA b hB => ?_⟩
    simp at hB
    subst hB
    exact fun e => hn (e ▸ hA)
  · rw [hq, hat]
    simp only [List.mem_append, List.mem_singleton]
    by_cases e : v = u
    · subst e; simp [upd_same]
    · rw [upd_other e]
      simp [e, h.mem v hv]
  · rw [hq] at hv
    simp at hv
    rcases hv with hv | hv
    · exact h.lt v hv
    · rw [hv]; exact hu

theorem stepU_qis {g : G} {u : Nat} (hu : u < g.n) {s : ST} (h : QIs g s) : QIs g (stepU g u s) := by
  unfold stepU
  split
  · exact h
  · rename_i hc
    have ha : s.att u ≠ g.a := fun e => hc (.inr e)
    split
    · exact h.mark hu ha rfl rfl
    · split
      · exact ⟨h.nodup, h.mem, h.lt⟩
      · exact h.mark hu ha rfl rfl
theorem steps_qis {g : G} : ∀ (l : List Nat) (s : ST), (∀ u ∈ l, u < g.n) → QIs g s → QIs g (steps g l s)
  | [], _, _, h => h
  | u :: l, s, hl, h => steps_qis l (stepU g u s) (fun v hv => hl v (List.mem_cons_of_mem _ hv)) (stepU_qis (hl u List.mem_cons_self) h)

theorem initTo_qis {g : G} {T : Nat → Nat} {s : ST} (h0 : ∀ v, v < g.n → s.att v ≠ g.a) : ∀ k, (∀ i, i < k → T i < g.n) → (∀ i j, i < j → j < k → T i ≠ T j) → QIs g (initTo g T s k) ∧ ∀ v, (initTo g T s k).att v = g.a → (∃ i, i < k ∧ v = T i) ∨ s.att v = g.a
  | 0, _, _ => ⟨⟨by simp [initTo], fun v hv => by simp [initTo]; exact h0 v hv, fun v hv => by simp [initTo] at hv⟩, fun v hv => .inr hv⟩
  | k + 1, hT, hd => by
    obtain ⟨ih, ih2⟩ := initTo_qis (T := T) h0 k (fun i hi => hT i (by omega)) (fun i j h1 h2 => hd i j h1 (by omega))
    have hk := hT k (by omega)
    refine ⟨ih.mark hk (fun e => ?_) rfl rfl, fun v hv => ?_⟩
    · rcases ih2 _ e with ⟨i, hi, e2⟩ | e2
      · exact hd i k hi (by omega) e2.symm
      · exact h0 _ hk e2
    · change upd (initTo g T s k).att (T k) g.a v = g.a at hv
      by_cases e : v = T k
      · exact .inl ⟨k, by omega, e⟩
      · rw [upd_other e] at hv
        rcases ih2 v hv with ⟨i, hi, e2⟩ | e2
        · exact .inl ⟨i, by omega, e2⟩
        · exact .inr e2

theorem ents_lt {g : G} (hR : ROk g) {v : Nat} (hv : v < g.n) : ∀ u ∈ ents g v, u < g.n := by
  intro u hu
  unfold ents at hu
  simp only [List.mem_map, List.mem_range] at hu
  obtain ⟨k, hk, rfl⟩ := hu
  exact hR v hv k hk
theorem allEnts_lt {g : G} (hR : ROk g) {q : List Nat} (hq : ∀ v ∈ q, v < g.n) : ∀ u ∈ allEnts g q, u < g.n := by
  intro u hu
  unfold allEnts at hu
  rw [List.mem_flatMap] at hu
  obtain ⟨v, hv, hu⟩ := hu
  exact ents_lt hR (hq v hv) u hu

theorem attractF_qok {g : G} (hR : ROk g) {T : Nat → Nat} {nt : Nat} {s : ST} (hT : ∀ i, i < nt → T i < g.n) : QOk g (attractF g T nt s) :=
  (runTo_phi hR (initTo_ok (g := g) (T := T) (s := s) hT) _).2

theorem attractF_qis {g : G} (hR : ROk g) {T : Nat → Nat} {nt : Nat} {s : ST} (hT : ∀ i, i < nt → T i < g.n) (hd : ∀ i j, i < j → j < nt → T i ≠ T j) (h0 : ∀ v, v < g.n → s.att v ≠ g.a) : QIs g (attractF g T nt s) := by
  rw [attractF_steps hR hT]
  exact steps_qis _ _ (allEnts_lt hR (attractF_qok hR hT)) (initTo_qis h0 nt hT hd).1

theorem step_own' {g : G} {u : Nat} {s : ST} (h1 : ¬ g.lev u < g.dp) (h2 : s.att u ≠ g.a) (h3 : g.V u = g.vf) : stepU g u s = { s with att := upd s.att u g.a, q := s.q ++ [u] } := by
  unfold stepU
  rw [if_neg (fun h => h.elim h1 h2), if_pos h3]
theorem step_keep' {g : G} {u : Nat} {s : ST} (h1 : ¬ g.lev u < g.dp) (h2 : s.att u ≠ g.a) (h3 : g.V u ≠ g.vf) (h4 : 0 < left g u s) : stepU g u s = { s with cnt := upd s.cnt u g.a, rem := upd s.rem u (left g u s) } := by
  unfold stepU
  rw [if_neg (fun h => h.elim h1 h2), if_neg h3, if_pos h4]
theorem step_take' {g : G} {u : Nat} {s : ST} (h1 : ¬ g.lev u < g.dp) (h2 : s.att u ≠ g.a) (h3 : g.V u ≠ g.vf) (h4 : ¬ 0 < left g u s) : stepU g u s = { att := upd s.att u g.a, cnt := upd s.cnt u g.a, rem := upd s.rem u (left g u s), q := s.q ++ [u] } := by
  unfold stepU
  rw [if_neg (fun h => h.elim h1 h2), if_neg h3, if_neg h4]
theorem degTo_a (g : G) (b : Int) (u : Nat) : ∀ k, degTo { g with a := b } u k = degTo g u k
  | 0 => rfl
  | k + 1 => by
    show degTo { g with a := b } u k + _ = degTo g u k + _
    rw [degTo_a g b u k]
theorem deg_a (g : G) (b : Int) (u : Nat) : deg { g with a := b } u = deg g u := degTo_a g b u _

/-! ### the counts -/
/-- what is known where c u entries of u have been gone through -/
def Cnt (g : G) (s : ST) (c : Nat → Nat) : Prop := ∀ u, u < g.n → ¬ g.lev u < g.dp → s.att u ≠ g.a →
  (g.V u = g.vf → c u = 0) ∧ (g.V u ≠ g.vf → (c u = 0 ∧ s.cnt u ≠ g.a) ∨ (s.cnt u = g.a ∧ s.rem u = (deg g u : Int) - c u ∧ (c u : Int) < deg g u))

def Small (g : G) : Prop := ∀ u, u < g.n → deg g u ≤ 1048576

theorem left_eq {g : G} (hs : Small g) {s : ST} {c u : Nat} (hu : u < g.n) (h : (c = 0 ∧ s.cnt u ≠ g.a) ∨ (s.cnt u = g.a ∧ s.rem u = (deg g u : Int) - c ∧ (c : Int) < deg g u)) : left g u s = (deg g u : Int) - (c + 1 : Nat) := by
  have hd := hs u hu
  unfold left
  rcases h with ⟨h1, h2⟩ | ⟨h1, h2, h3⟩
  · rw [if_neg h2, wrap32_small (by omega) (by omega)]
    omega
  · rw [if_pos h1, h2, wrap32_small (by omega) (by omega)]
    omega

theorem stepU_cnt {g : G} (hs : Small g) {u : Nat} (hu : u < g.n) {s : ST} {c : Nat → Nat} (h : Cnt g s c) : Cnt g (stepU g u s) (fun x => c x + if u = x then 1 else 0) := by
  intro x hx hl ha
  by_cases e : u = x
  · subst e
    dsimp only
    rw [if_pos rfl]
    have ha' : s.att u ≠ g.a := fun e => ha ((stepU_keep g u s).att u e)
    by_cases h3 : g.V u = g.vf
    · rw [step_own' hl ha' h3] at ha
      exact absurd (upd_same _ _ _) ha
    · have h5 := (h u hx hl ha').2 h3
      have h6 := left_eq hs hu h5
      by_cases h4 : 0 < left g u s
      · rw [step_keep' hl ha' h3 h4]
        refine ⟨fun h => absurd h h3, fun _ => .inr ⟨upd_same _ _ _, ?_, by omega⟩⟩
        show upd s.rem u _ u = _
        rw [upd_same]
        exact h6
      · rw [step_take' hl ha' h3 h4] at ha
        exact absurd (upd_same _ _ _) ha
  · dsimp only
    rw [if_neg e, Nat.add_zero]
    have e' : x ≠ u := fun h => e h.symm
    have hA : (stepU g u s).att x = s.att x ∧ (stepU g u s).cnt x = s.cnt x ∧ (stepU g u s).rem x = s.rem x := by
      unfold stepU
      split
      · exact ⟨rfl, rfl, rfl⟩
      · split
        · exact ⟨upd_other e', rfl, rfl⟩
        · split
          · exact ⟨rfl, upd_other e', upd_other e'⟩
          · exact ⟨upd_other e', upd_other e', upd_other e'⟩
    rw [hA.1] at ha
    rw [hA.2.1, hA.2.2]
    exact h x hx hl ha

theorem steps_cnt {g : G} (hs : Small g) : ∀ (l : List Nat) (s : ST) (c : Nat → Nat), (∀ u ∈ l, u < g.n) → Cnt g s c → Cnt g (steps g l s) (fun x => c x + l.count x)
  | [], s, c, _, h => h
  | u :: l, s, c, hl, h => by
    have ih := steps_cnt hs l (stepU g u s) _ (fun v hv => hl v (List.mem_cons_of_mem _ hv)) (stepU_cnt hs (hl u List.mem_cons_self) h)
    intro x hx h1 h2
    have := ih x hx h1 h2
    dsimp only at this ⊢
    have e : c x + (if u = x then 1 else 0) + l.count x = c x + (u :: l).count x := by
      rw [List.count_cons]
      by_cases e : u = x
      · subst e; simp; omega
      · simp [e]
    rw [e] at this
    exact this

/-- in the end: each entry of the marked vertices' lists has been counted -/
theorem attractF_cnt {g : G} (hR : ROk g) (hs : Small g) {T : Nat → Nat} {nt : Nat} {s : ST} (hT : ∀ i, i < nt → T i < g.n) (h0 : ∀ v, v < g.n → s.cnt v ≠ g.a) :
    Cnt g (attractF g T nt s) (fun x => (allEnts g (attractF g T nt s).q).count x) := by
  have h := steps_cnt hs (allEnts g (attractF g T nt s).q) (initTo g T s nt) (fun _ => 0) (allEnts_lt hR (attractF_qok hR hT)) (fun u hu _ _ => ⟨fun _ => rfl, fun _ => .inl ⟨rfl, by rw [(initTo_cnt g T s nt).1]; exact h0 u hu⟩⟩)
  rw [← attractF_steps hR hT] at h
  intro x hx h1 h2
  have := h x hx h1 h2
  dsimp only at this
  rw [Nat.zero_add] at this
  exact this

/-! ### once more, from what was marked -/
theorem idle_step {g : G} (hs : Small g) {u : Nat} (hu : u < g.n) {s : ST} {c : Nat → Nat} (h : Cnt g s c)
    (hk : ¬ g.lev u < g.dp → s.att u ≠ g.a → g.V u ≠ g.vf ∧ c u + 1 < deg g u) : (stepU g u s).att = s.att ∧ (stepU g u s).q = s.q := by
  unfold stepU
  split
  · exact ⟨rfl, rfl⟩
  · rename_i hc
    have h1 : ¬ g.lev u < g.dp := fun e => hc (.inl e)
    have h2 : s.att u ≠ g.a := fun e => hc (.inr e)
    obtain ⟨h3, h4⟩ := hk h1 h2
    rw [if_neg h3]
    have h5 := left_eq hs hu ((h u hu h1 h2).2 h3)
    rw [if_pos (by omega)]
    exact ⟨rfl, rfl⟩

theorem idle_steps {g : G} (hs : Small g) (M : Nat → Nat) : ∀ (l : List Nat) (s : ST) (c : Nat → Nat), (∀ u ∈ l, u < g.n) → Cnt g s c →
    (∀ u, u < g.n → c u + l.count u ≤ M u) → (∀ u, u < g.n → ¬ g.lev u < g.dp → s.att u ≠ g.a → 0 < M u → g.V u ≠ g.vf ∧ M u < deg g u) → (steps g l s).att = s.att ∧ (steps g l s).q = s.q
  | [], s, c, _, _, _, _ => ⟨rfl, rfl⟩
  | u :: l, s, c, hl, h, hM, hk => by
    have hu := hl u List.mem_cons_self
    have hMu := hM u hu
    rw [List.count_cons_self] at hMu
    have h1 := idle_step hs hu h (fun a b => by
      have := hk u hu a b (by omega)
      exact ⟨this.1, by omega⟩)
    have ih := idle_steps hs M l (stepU g u s) _ (fun v hv => hl v (List.mem_cons_of_mem _ hv)) (stepU_cnt hs hu h) (fun x hx => by
      have := hM x hx
      rw [List.count_cons] at this
      by_cases e : u = x
      · subst e; simp at this ⊢; omega
      · simp [e] at this ⊢; exact this) (fun x hx a b => by rw [h1.1] at b; exact hk x hx a b)
    exact ⟨ih.1.trans h1.1, ih.2.trans h1.2⟩

/-- a run from a list whose entries take nothing ends where it began -/
theorem runTo_idle {g : G} (hR : ROk g) (hs : Small g) {s0 : ST} (hq : QOk g s0) (hc : ∀ v, v < g.n → s0.cnt v ≠ g.a)
    (hk : ∀ u, u < g.n → ¬ g.lev u < g.dp → s0.att u ≠ g.a → 0 < (allEnts g s0.q).count u → g.V u ≠ g.vf ∧ (allEnts g s0.q).count u < deg g u) :
    ∀ i, (runTo g s0 i).att = s0.att ∧ (runTo g s0 i).q = s0.q ∧ Cnt g (runTo g s0 i) (fun x => (allEnts g (s0.q.take i)).count x)
  | 0 => ⟨rfl, rfl, fun u hu _ _ => ⟨fun _ => by simp [allEnts], fun _ => .inl ⟨by simp [allEnts], hc u hu⟩⟩⟩
  | i + 1 => by
    obtain ⟨h1, h2, h3⟩ := runTo_idle hR hs hq hc hk i
    by_cases hlt : i < (runTo g s0 i).q.length
    · rw [runTo_succ hlt, inner_steps]
      have hlt' : i < s0.q.length := by rw [← h2]; exact hlt
      have e1 : (runTo g s0 i).q[i] = s0.q[i] := by congr 1
      rw [e1]
      have hv : s0.q[i] < g.n := hq _ (List.getElem_mem hlt')
      have e2 : allEnts g (s0.q.take (i + 1)) = allEnts g (s0.q.take i) ++ ents g s0.q[i] := by
        rw [List.take_succ_eq_append_getElem hlt', allEnts, List.flatMap_append]
        simp [allEnts]
      have hle : ∀ x, (allEnts g (s0.q.take (i + 1))).count x ≤ (allEnts g s0.q).count x := fun x => by
        have : allEnts g s0.q = allEnts g (s0.q.take (i + 1)) ++ allEnts g (s0.q.drop (i + 1)) := by
          rw [allEnts, allEnts, allEnts, ← List.flatMap_append, List.take_append_drop]
        rw [this, List.count_append]
        omega
      have h4 := idle_steps hs (fun x => (allEnts g s0.q).count x) (ents g s0.q[i]) (runTo g s0 i) _ (ents_lt hR hv) h3 (fun x _ => by
        have := hle x
        rw [e2, List.count_append] at this
        exact this) (fun x hx a b => by rw [h1] at b; exact hk x hx a b)
      have h5 := steps_cnt hs (ents g s0.q[i]) (runTo g s0 i) _ (ents_lt hR hv) h3
      refine ⟨h4.1.trans h1, h4.2.trans h2, ?_⟩
      intro x hx a b
      have := h5 x hx a b
      dsimp only
      rw [e2, List.count_append]
      exact this
    · rw [show runTo g s0 (i + 1) = runTo g s0 i from runTo_stuck (by omega) 1]
      refine ⟨h1, h2, ?_⟩
      rw [h2] at hlt
      rw [List.take_of_length_le (by omega)]
      rw [List.take_of_length_le (by omega)] at h3
      exact h3

theorem allEnts_perm {g : G} {q r : List Nat} (h : q.Perm r) (x : Nat) : (allEnts g q).count x = (allEnts g r).count x := (h.flatMap_right _).count_eq x

/-- the sorted list of the marked vertices -/
def againL (g : G) (s : ST) : Nat → List Nat
  | 0 => []
  | k + 1 => againL g s k ++ (if s.att k = g.a then [k] else [])

theorem againL_mem (g : G) (s : ST) : ∀ k v, v ∈ againL g s k ↔ v < k ∧ s.att v = g.a
  | 0, v => by simp [againL]
  | k + 1, v => by
    unfold againL
    rw [List.mem_append, againL_mem g s k v]
    by_cases e : s.att k = g.a
    · rw [if_pos e]
      simp only [List.mem_singleton]
      constructor
      · rintro (⟨h1, h2⟩ | rfl)
        · exact ⟨by omega, h2⟩
        · exact ⟨by omega, e⟩
      · rintro ⟨h1, h2⟩
        by_cases e2 : v = k
        · exact .inr e2
        · exact .inl ⟨by omega, h2⟩
    · rw [if_neg e]
      simp only [List.not_mem_nil, or_false]
      constructor
      · rintro ⟨h1, h2⟩
        exact ⟨by omega, h2⟩
      · rintro ⟨h1, h2⟩
        refine ⟨?_, h2⟩
        by_cases e2 : v = k
        · subst e2; exact absurd h2 e
        · omega
theorem againL_nodup (g : G) (s : ST) : ∀ k, (againL g s k).Nodup
  | 0 => by simp [againL]
  | k + 1 => by
    unfold againL
    rw [List.nodup_append]
    refine ⟨againL_nodup g s k, by split <;> simp, fun a ha b hb => ?_⟩
    have h1 := ((againL_mem g s k a).1 ha).1
    split at hb
    · simp at hb; omega
    · simp at hb
theorem againL_perm {g : G} {s : ST} (h : QIs g s) : s.q.Perm (againL g s g.n) := by
  refine (List.perm_ext_iff_of_nodup h.nodup (againL_nodup g s g.n)).2 (fun v => ?_)
  rw [againL_mem]
  constructor
  · intro hv
    exact ⟨h.lt v hv, (h.mem v (h.lt v hv)).1 hv⟩
  · rintro ⟨h1, h2⟩
    exact (h.mem v h1).2 h2

/-- THE LAW: attracting once more, from what was marked, marks just that -/
theorem twice_law {g : G} (hR : ROk g) (hs : Small g) {T : Nat → Nat} {nt : Nat} {s : ST} (hT : ∀ i, i < nt → T i < g.n) (hd : ∀ i j, i < j → j < nt → T i ≠ T j)
    (h0 : ∀ v, v < g.n → s.att v ≠ g.a) (h1 : ∀ v, v < g.n → s.cnt v ≠ g.a) {b : Int} (hb : b ≠ g.a) (h2 : ∀ v, v < g.n → s.att v ≠ b) (h3 : ∀ v, v < g.n → s.cnt v ≠ b)
    {T' : Nat → Nat} (hT' : ∀ i (h : i < (againL g (attractF g T nt s) g.n).length), T' i = (againL g (attractF g T nt s) g.n)[i]) :
    ∀ v, v < g.n → ((attractF { g with a := b } T' (againL g (attractF g T nt s) g.n).length (attractF g T nt s)).att v = b ↔ (attractF g T nt s).att v = g.a) := by
  obtain ⟨s1, hs1⟩ : ∃ s1, s1 = attractF g T nt s := ⟨_, rfl⟩
  have hq := attractF_qis hR (s := s) hT hd h0
  have hc := attractF_cnt hR hs (s := s) hT h1
  have hk := (attractF_keep hR (s := s) hT).1
  rw [← hs1] at hT' hq hc hk ⊢
  obtain ⟨L, hL⟩ : ∃ L, L = againL g s1 g.n := ⟨_, rfl⟩
  have hp := againL_perm hq
  have hm : ∀ v, v ∈ L ↔ v < g.n ∧ s1.att v = g.a := fun v => by rw [hL]; exact againL_mem g s1 g.n v
  have hnd : L.Nodup := by rw [hL]; exact againL_nodup g s1 g.n
  rw [← hL] at hT' hp ⊢
  obtain ⟨g2, hg2⟩ : ∃ g2 : G, g2 = { g with a := b } := ⟨_, rfl⟩
  rw [← hg2]
  have ea : g2.a = b := by rw [hg2]
  have en : g2.n = g.n := by rw [hg2]
  have hR2 : ROk g2 := by rw [hg2]; exact hR
  have hs2 : Small g2 := fun u hu => by rw [hg2] at hu ⊢; rw [deg_a]; exact hs u hu
  have hb1 : ∀ v, v < g.n → s1.att v ≠ b := fun v hv => by
    rcases hk.only v with e | e
    · rw [e]; exact h2 v hv
    · rw [e]; exact fun h => hb h.symm
  have hb2 : ∀ v, v < g.n → s1.cnt v ≠ b := fun v hv => by
    rcases hk.cnt v with e | e
    · rw [e]; exact h3 v hv
    · rw [e]; exact fun h => hb h.symm
  have hT2 : ∀ i, i < L.length → T' i < g2.n := fun i hi => by
    rw [hT' i hi, en]
    exact ((hm _).1 (List.getElem_mem hi)).1
  have hi := initTo_qis (g := g2) (T := T') (s := s1) (by rw [en, ea]; exact hb1) L.length hT2 (fun i j h4 h5 => by
    rw [hT' i (by omega), hT' j h5]
    exact (List.pairwise_iff_getElem.1 hnd) i j (by omega) h5 h4)
  have hiq : ∀ k, k ≤ L.length → (initTo g2 T' s1 k).q = L.take k := by
    intro k
    induction k with
    | zero => intro _; simp [initTo]
    | succ k ih =>
      intro hk
      show (initTo g2 T' s1 k).q ++ [T' k] = _
      rw [ih (by omega), hT' k (by omega), List.take_succ_eq_append_getElem (by omega)]
  have hiq' := hiq L.length (Nat.le_refl _)
  rw [List.take_of_length_le (Nat.le_refl _)] at hiq'
  have hmark : ∀ v, v < g.n → ((initTo g2 T' s1 L.length).att v = b ↔ s1.att v = g.a) := fun v hv => by
    have := hi.1.mem v (by rw [en]; exact hv)
    rw [ea, hiq', hm v] at this
    rw [← this]
    simp [hv]
  have hidle := runTo_idle hR2 hs2 (s0 := initTo g2 T' s1 L.length) (fun v hv => hi.1.lt v hv) (fun v hv => by
      rw [(initTo_cnt g2 T' s1 L.length).1, ea]
      exact hb2 v (by rw [en] at hv; exact hv)) (fun u hu hl ha hpos => by
      rw [hiq'] at hpos ⊢
      have eP : ∀ x, (allEnts g2 L).count x = (allEnts g s1.q).count x := fun x => by
        rw [show allEnts g2 L = allEnts g L by rw [hg2]; rfl]
        exact (allEnts_perm hp x).symm
      rw [eP] at hpos ⊢
      have hu' : u < g.n := by rw [en] at hu; exact hu
      have ha' : s1.att u ≠ g.a := fun e => ha (by rw [ea]; exact (hmark u hu').2 e)
      have hl' : ¬ g.lev u < g.dp := by rw [hg2] at hl; exact hl
      have h6 := hc u hu' hl' ha'
      dsimp only at h6
      have hv' : g.V u ≠ g.vf := fun e => by have := h6.1 e; omega
      refine ⟨by rw [hg2]; exact hv', ?_⟩
      rcases h6.2 hv' with ⟨h7, _⟩ | ⟨_, _, h7⟩
      · omega
      · have : deg g2 u = deg g u := by rw [hg2]; exact deg_a g b u
        rw [this]; omega) (L.length + g2.n)
  intro v hv
  have : (attractF g2 T' L.length s1).att = (initTo g2 T' s1 L.length).att := hidle.1
  rw [this]
  exact hmark v hv

end Go.Proofs.Qxb6605408a
