import Derived.Test.Qxb6605408aLaw
namespace Go.Proofs.Qxb6605408a
open Go.RowKit

/-- what a solve writes -/
structure DS where
  lev : Nat → Int
  att : Nat → Int
  cnt : Nat → Int
  rem : Nat → Int
  won : Nat → Bool
  at_ : Int
def put (d : SD) (s : DS) : SD := { d with fL := s.lev, fW := s.won, fA := s.att, fC := s.cnt, fR := s.rem, at_ := s.at_ }
def attD (d : SD) (s : DS) (vf : Bool) (dp : Int) (L : List Nat) : DS :=
  { s with att := (attS (put d s) vf dp (asF L) L.length).att, cnt := (attS (put d s) vf dp (asF L) L.length).cnt, rem := (attS (put d s) vf dp (asF L) L.length).rem, at_ := wrap32 (s.at_ + 1) }
theorem aft_put (d : SD) (s : DS) (vf : Bool) (dp : Int) (L : List Nat) : aft (put d s) vf dp (asF L) L.length = put d (attD d s vf dp L) := rfl

def filtTo (p : Nat → Bool) (vs : List Nat) : Nat → List Nat
  | 0 => []
  | i + 1 => filtTo p vs i ++ (if p (vs.getD i 0) = true then [vs.getD i 0] else [])
def setTo {α : Type} (f : Nat → α) (p : Nat → Bool) (z : α) (vs : List Nat) : Nat → (Nat → α)
  | 0 => f
  | i + 1 => if p (vs.getD i 0) = true then upd (setTo f p z vs i) (vs.getD i 0) z else setTo f p z vs i
def topTo (fP : Nat → Int) (vs : List Nat) : Nat → Int
  | 0 => fP (vs.getD 0 0)
  | i + 1 => max (topTo fP vs i) (fP (vs.getD i 0))

def topOf (d : SD) (vs : List Nat) : Int := topTo d.fP vs vs.length
def favOf (d : SD) (vs : List Nat) : Bool := (topOf d vs).tmod 2 == 0
def hiOf (d : SD) (vs : List Nat) : List Nat := filtTo (fun v => d.fP v == topOf d vs) vs vs.length
def A1 (d : SD) (s : DS) (vs : List Nat) (dp : Int) : DS := attD d s (favOf d vs) dp (hiOf d vs)
def notIn (s : DS) (v : Nat) : Bool := s.att v != s.at_
def restOf (d : SD) (s : DS) (vs : List Nat) (dp : Int) : List Nat := filtTo (notIn (A1 d s vs dp)) vs vs.length
def A2 (d : SD) (s : DS) (vs : List Nat) (dp : Int) : DS := { A1 d s vs dp with lev := setTo (A1 d s vs dp).lev (notIn (A1 d s vs dp)) (wrap32 (dp + 1)) vs vs.length }
def A4 (r : List Nat) (dp : Int) (t : DS) : DS := { t with lev := setTo t.lev (fun _ => true) dp r r.length }
def lostOf (f : Bool) (r : List Nat) (t : DS) : List Nat := filtTo (fun v => t.won v != f) r r.length
def doneS (f : Bool) (vs : List Nat) (t : DS) : DS := { t with won := setTo t.won (fun _ => true) f vs vs.length }
def A5 (d : SD) (f : Bool) (r : List Nat) (dp : Int) (t : DS) : DS := attD d (A4 r dp t) (!f) dp (lostOf f r t)
def isIn (s : DS) (v : Nat) : Bool := s.att v == s.at_
def A6 (d : SD) (f : Bool) (r vs : List Nat) (dp : Int) (t : DS) : DS :=
  { A5 d f r dp t with won := setTo (A5 d f r dp t).won (isIn (A5 d f r dp t)) (!f) vs vs.length, lev := setTo (A5 d f r dp t).lev (isIn (A5 d f r dp t)) (wrap32 (dp - 1)) vs vs.length }
def remOf (d : SD) (f : Bool) (r vs : List Nat) (dp : Int) (t : DS) : List Nat := filtTo (notIn (A5 d f r dp t)) vs vs.length

/-- what a solve computes -/
def solveF (d : SD) : Nat → DS → List Nat → Int → DS
  | 0, s, _, _ => s
  | k + 1, s, vs, dp =>
    if vs.length = 0 then s
    else if (lostOf (favOf d vs) (restOf d s vs dp) (solveF d k (A2 d s vs dp) (restOf d s vs dp) (wrap32 (dp + 1)))).length = 0 then
      doneS (favOf d vs) vs (A4 (restOf d s vs dp) dp (solveF d k (A2 d s vs dp) (restOf d s vs dp) (wrap32 (dp + 1))))
    else
      solveF d k (A6 d (favOf d vs) (restOf d s vs dp) vs dp (solveF d k (A2 d s vs dp) (restOf d s vs dp) (wrap32 (dp + 1)))) (remOf d (favOf d vs) (restOf d s vs dp) vs dp (solveF d k (A2 d s vs dp) (restOf d s vs dp) (wrap32 (dp + 1)))) dp

theorem getD_mem {vs : List Nat} {i : Nat} (h : i < vs.length) : vs.getD i 0 ∈ vs := by
  rw [List.getD_eq_getElem?_getD, List.getElem?_eq_getElem h]
  exact List.getElem_mem h
theorem mem_getD {vs : List Nat} {v : Nat} (h : v ∈ vs) : ∃ i, i < vs.length ∧ vs.getD i 0 = v := by
  obtain ⟨i, hi, e⟩ := List.getElem_of_mem h
  exact ⟨i, hi, by rw [List.getD_eq_getElem?_getD, List.getElem?_eq_getElem hi]; exact e⟩

theorem filtTo_mem {p : Nat → Bool} {vs : List Nat} : ∀ i, i ≤ vs.length → ∀ v, v ∈ filtTo p vs i ↔ ∃ j, j < i ∧ vs.getD j 0 = v ∧ p v = true
  | 0, _, v => by simp [filtTo]
  | i + 1, hi, v => by
    unfold filtTo
    rw [List.mem_append, filtTo_mem i (by omega) v]
    constructor
    · rintro (⟨j, hj, e, hp⟩ | h)
      · exact ⟨j, by omega, e, hp⟩
      · by_cases e : p (vs.getD i 0) = true
        · rw [if_pos e] at h
          simp only [List.mem_singleton] at h
          exact ⟨i, by omega, h.symm, by rw [h]; exact e⟩
        · rw [if_neg e] at h
          simp at h
    · rintro ⟨j, hj, e, hp⟩
      by_cases hji : j = i
      · subst hji
        refine .inr ?_
        rw [e, if_pos hp]
        simp
      · exact .inl ⟨j, by omega, e, hp⟩
theorem filt_mem {p : Nat → Bool} {vs : List Nat} {v : Nat} : v ∈ filtTo p vs vs.length ↔ v ∈ vs ∧ p v = true := by
  rw [filtTo_mem _ (Nat.le_refl _)]
  constructor
  · rintro ⟨j, hj, e, hp⟩
    exact ⟨by rw [← e]; exact getD_mem hj, hp⟩
  · rintro ⟨h, hp⟩
    obtain ⟨j, hj, e⟩ := mem_getD h
    exact ⟨j, hj, e, hp⟩
theorem filtTo_len (p : Nat → Bool) (vs : List Nat) : ∀ i, (filtTo p vs i).length ≤ i
  | 0 => Nat.le_refl _
  | i + 1 => by
    have := filtTo_len p vs i
    unfold filtTo
    rw [List.length_append]
    split <;> simp <;> omega
theorem filtTo_mono (p : Nat → Bool) (vs : List Nat) (i : Nat) : ∀ k, (filtTo p vs (i + k)).length ≤ (filtTo p vs i).length + k
  | 0 => Nat.le_refl _
  | k + 1 => by
    have := filtTo_mono p vs i k
    show (filtTo p vs (i + k) ++ _).length ≤ _
    rw [List.length_append]
    split <;> simp <;> omega
/-- one falls out: the list is shorter -/
theorem filt_lt {p : Nat → Bool} {vs : List Nat} {v : Nat} (hv : v ∈ vs) (hp : p v = false) : (filtTo p vs vs.length).length < vs.length := by
  obtain ⟨j, hj, e⟩ := mem_getD hv
  have h1 := filtTo_len p vs j
  have h2 : filtTo p vs (j + 1) = filtTo p vs j := by
    show filtTo p vs j ++ _ = _
    rw [e, if_neg (by rw [hp]; simp), List.append_nil]
  have h3 := filtTo_mono p vs (j + 1) (vs.length - (j + 1))
  rw [show j + 1 + (vs.length - (j + 1)) = vs.length by omega, h2] at h3
  omega

theorem topTo_is (fP : Nat → Int) {vs : List Nat} (h0 : 0 < vs.length) : ∀ i, i ≤ vs.length → ∃ v ∈ vs, fP v = topTo fP vs i
  | 0, _ => ⟨vs.getD 0 0, getD_mem h0, rfl⟩
  | i + 1, hi => by
    obtain ⟨v, hv, e⟩ := topTo_is fP h0 i (by omega)
    show ∃ v ∈ vs, fP v = max (topTo fP vs i) (fP (vs.getD i 0))
    rcases Int.le_total (topTo fP vs i) (fP (vs.getD i 0)) with h | h
    · exact ⟨vs.getD i 0, getD_mem (by omega), by omega⟩
    · exact ⟨v, hv, by omega⟩

theorem setTo_out {α : Type} {f : Nat → α} {p : Nat → Bool} {z : α} {vs : List Nat} {v : Nat} (h : v ∉ vs) : ∀ i, i ≤ vs.length → setTo f p z vs i v = f v
  | 0, _ => rfl
  | i + 1, hi => by
    have ih := setTo_out (f := f) (p := p) (z := z) h i (by omega)
    have hne : v ≠ vs.getD i 0 := fun e => h (by rw [e]; exact getD_mem (by omega))
    show (if p (vs.getD i 0) = true then upd (setTo f p z vs i) (vs.getD i 0) z else setTo f p z vs i) v = _
    split
    · rw [upd_other hne, ih]
    · exact ih
theorem setTo_in {α : Type} {f : Nat → α} {p : Nat → Bool} {z : α} {vs : List Nat} : ∀ i, i ≤ vs.length → ∀ v, setTo f p z vs i v = (if (∃ j, j < i ∧ vs.getD j 0 = v) ∧ p v = true then z else f v)
  | 0, _, v => by rw [if_neg (by rintro ⟨⟨j, hj, _⟩, _⟩; omega)]; rfl
  | i + 1, hi, v => by
    have ih := setTo_in (f := f) (p := p) (z := z) (vs := vs) i (by omega) v
    show (if p (vs.getD i 0) = true then upd (setTo f p z vs i) (vs.getD i 0) z else setTo f p z vs i) v = _
    by_cases e : vs.getD i 0 = v
    · by_cases hp : p v = true
      · rw [if_pos (by rw [e]; exact hp), e, upd_same, if_pos ⟨⟨i, by omega, e⟩, hp⟩]
      · rw [if_neg (by rw [e]; exact hp), ih, if_neg (fun h => hp h.2), if_neg (fun h => hp h.2)]
    · have h1 : (∃ j, j < i + 1 ∧ vs.getD j 0 = v) ↔ ∃ j, j < i ∧ vs.getD j 0 = v := by
        constructor
        · rintro ⟨j, hj, ej⟩
          refine ⟨j, ?_, ej⟩
          by_cases hji : j = i
          · subst hji; exact absurd ej e
          · omega
        · rintro ⟨j, hj, ej⟩; exact ⟨j, by omega, ej⟩
      have h2 : (if p (vs.getD i 0) = true then upd (setTo f p z vs i) (vs.getD i 0) z else setTo f p z vs i) v = setTo f p z vs i v := by
        split
        · exact upd_other (fun h => e h.symm)
        · rfl
      rw [h2, ih]
      by_cases hc : (∃ j, j < i ∧ vs.getD j 0 = v) ∧ p v = true
      · rw [if_pos hc, if_pos ⟨h1.2 hc.1, hc.2⟩]
      · rw [if_neg hc, if_neg (fun h => hc ⟨h1.1 h.1, h.2⟩)]
theorem set_in {α : Type} {f : Nat → α} {p : Nat → Bool} {z : α} {vs : List Nat} {v : Nat} (hv : v ∈ vs) : setTo f p z vs vs.length v = if p v = true then z else f v := by
  rw [setTo_in _ (Nat.le_refl _) v]
  obtain ⟨j, hj, e⟩ := mem_getD hv
  by_cases hp : p v = true
  · rw [if_pos ⟨⟨j, hj, e⟩, hp⟩, if_pos hp]
  · rw [if_neg (fun h => hp h.2), if_neg hp]

/-! ### the lists get shorter -/
theorem asF_toN (L : List Nat) (i : Nat) : toN (asF L) i = L.getD i 0 := by unfold toN asF; omega
theorem attD_mark {d : SD} (hst : StateOk d) (s : DS) (vf : Bool) (dp : Int) {L : List Nat} (hL : ∀ v ∈ L, v < d.nV) : ∀ v ∈ L, (attD d s vf dp L).att v = (attD d s vf dp L).at_ := by
  intro v hv
  obtain ⟨j, hj, e⟩ := mem_getD hv
  have hst' : StateOk (put d s) := ⟨hst.eL, hst.eA, hst.eC, hst.eR, hst.eS, hst.eP, hst.tr⟩
  have h := (attractF_keep (rok_of hst' vf dp) (T := toN (asF L)) (nt := L.length) (s := stOf (put d s)) (fun i hi => by rw [asF_toN]; exact hL _ (getD_mem hi))).2 j hj
  rw [asF_toN, e] at h
  exact h

theorem hi_sub {d : SD} {vs : List Nat} : ∀ v ∈ hiOf d vs, v ∈ vs := fun _ hv => (filt_mem.1 hv).1
theorem rest_sub {d : SD} {s : DS} {vs : List Nat} {dp : Int} : ∀ v ∈ restOf d s vs dp, v ∈ vs := fun _ hv => (filt_mem.1 hv).1
theorem lost_sub {f : Bool} {r : List Nat} {t : DS} : ∀ v ∈ lostOf f r t, v ∈ r := fun _ hv => (filt_mem.1 hv).1
theorem rem_sub {d : SD} {f : Bool} {r vs : List Nat} {dp : Int} {t : DS} : ∀ v ∈ remOf d f r vs dp t, v ∈ vs := fun _ hv => (filt_mem.1 hv).1

theorem rest_lt {d : SD} (hst : StateOk d) (s : DS) {vs : List Nat} (hv : ∀ v ∈ vs, v < d.nV) (dp : Int) (h0 : vs.length ≠ 0) : (restOf d s vs dp).length < vs.length := by
  obtain ⟨v, hvv, e⟩ := topTo_is d.fP (vs := vs) (by omega) vs.length (Nat.le_refl _)
  refine filt_lt (v := v) hvv ?_
  have hhi : v ∈ hiOf d vs := filt_mem.2 ⟨hvv, by rw [beq_iff_eq]; exact e⟩
  have := attD_mark hst s (favOf d vs) dp (L := hiOf d vs) (fun u hu => hv u (hi_sub u hu)) v hhi
  unfold notIn
  rw [bne_eq_false_iff_eq]
  exact this
theorem rem_lt {d : SD} (hst : StateOk d) {f : Bool} {r vs : List Nat} (hr : ∀ v ∈ r, v ∈ vs) (hv : ∀ v ∈ vs, v < d.nV) (dp : Int) {t : DS} (h0 : (lostOf f r t).length ≠ 0) : (remOf d f r vs dp t).length < vs.length := by
  have hm : (lostOf f r t).getD 0 0 ∈ lostOf f r t := getD_mem (by omega)
  refine filt_lt (v := (lostOf f r t).getD 0 0) (hr _ (lost_sub _ hm)) ?_
  have := attD_mark hst (A4 r dp t) (!f) dp (L := lostOf f r t) (fun u hu => hv u (hr _ (lost_sub u hu))) _ hm
  unfold notIn
  rw [bne_eq_false_iff_eq]
  exact this

/-! ### the dual game -/
def dualOf (d : SD) : SD := { d with fV := fun u => !d.fV u, fP := fun v => wrap32 (d.fP v + 1) }

theorem stepU_flip (g : G) (u : Nat) (s : ST) : stepU { g with V := fun u => !g.V u, vf := !g.vf } u s = stepU g u s := by
  have hd : ∀ k, degTo { g with V := fun u => !g.V u, vf := !g.vf } u k = degTo g u k := by
    intro k
    induction k with
    | zero => rfl
    | succ k ih =>
      show degTo { g with V := fun u => !g.V u, vf := !g.vf } u k + _ = degTo g u k + _
      rw [ih]
  have hl : left { g with V := fun u => !g.V u, vf := !g.vf } u s = left g u s := by
    unfold left deg
    rw [hd]
  unfold stepU
  rw [hl]
  have hv : ((!g.V u) = !g.vf) ↔ g.V u = g.vf := by cases g.V u <;> cases g.vf <;> simp
  by_cases h1 : g.lev u < g.dp ∨ s.att u = g.a
  · rw [if_pos h1, if_pos h1]
  · rw [if_neg h1, if_neg h1]
    by_cases h2 : g.V u = g.vf
    · rw [if_pos h2, if_pos (hv.2 h2)]
    · rw [if_neg h2, if_neg (fun h => h2 (hv.1 h))]
theorem innerTo_flip (g : G) (v : Nat) (s : ST) : ∀ k, innerTo { g with V := fun u => !g.V u, vf := !g.vf } v k s = innerTo g v k s
  | 0 => rfl
  | k + 1 => by
    show stepU { g with V := fun u => !g.V u, vf := !g.vf } _ (innerTo { g with V := fun u => !g.V u, vf := !g.vf } v k s) = _
    rw [innerTo_flip g v s k, stepU_flip]
    rfl
theorem runTo_flip (g : G) (s0 : ST) : ∀ i, runTo { g with V := fun u => !g.V u, vf := !g.vf } s0 i = runTo g s0 i
  | 0 => rfl
  | i + 1 => by
    show (match (runTo { g with V := fun u => !g.V u, vf := !g.vf } s0 i).q[i]? with | some v => inner { g with V := fun u => !g.V u, vf := !g.vf } v (runTo { g with V := fun u => !g.V u, vf := !g.vf } s0 i) | none => runTo { g with V := fun u => !g.V u, vf := !g.vf } s0 i) = (match (runTo g s0 i).q[i]? with | some v => inner g v (runTo g s0 i) | none => runTo g s0 i)
    rw [runTo_flip g s0 i]
    split
    · exact innerTo_flip g _ _ _
    · rfl
theorem initTo_flip (g : G) (T : Nat → Nat) (s : ST) : ∀ k, initTo { g with V := fun u => !g.V u, vf := !g.vf } T s k = initTo g T s k
  | 0 => rfl
  | k + 1 => by
    show { initTo { g with V := fun u => !g.V u, vf := !g.vf } T s k with att := upd (initTo { g with V := fun u => !g.V u, vf := !g.vf } T s k).att (T k) g.a, q := (initTo { g with V := fun u => !g.V u, vf := !g.vf } T s k).q ++ [T k] } = { initTo g T s k with att := upd (initTo g T s k).att (T k) g.a, q := (initTo g T s k).q ++ [T k] }
    rw [initTo_flip g T s k]
theorem attractF_flip (g : G) (T : Nat → Nat) (nt : Nat) (s : ST) : attractF { g with V := fun u => !g.V u, vf := !g.vf } T nt s = attractF g T nt s := by
  unfold attractF
  rw [initTo_flip, runTo_flip]

/-- the two runs in step -/
structure Pair (s t : DS) : Prop where
  lev : t.lev = s.lev
  att : t.att = s.att
  cnt : t.cnt = s.cnt
  rem : t.rem = s.rem
  at_ : t.at_ = s.at_

theorem attD_flip {d : SD} {s t : DS} (h : Pair s t) (vf : Bool) (dp : Int) (L : List Nat) : Pair (attD d s vf dp L) (attD (dualOf d) t (!vf) dp L) ∧ (attD d s vf dp L).won = s.won ∧ (attD (dualOf d) t (!vf) dp L).won = t.won := by
  obtain ⟨h1, h2, h3, h4, h5⟩ := h
  have e : attS (put (dualOf d) t) (!vf) dp (asF L) L.length = attS (put d s) vf dp (asF L) L.length := by
    have e1 : mkG (put (dualOf d) t) (!vf) dp = { mkG (put d s) vf dp with V := fun u => !(mkG (put d s) vf dp).V u, vf := !(mkG (put d s) vf dp).vf } := by
      show G.mk d.nV (fun u => !d.fV u) t.lev (toN d.fSt) (toN d.fSu) (toN d.fPS) (toN d.fPr) (!vf) dp (wrap32 (t.at_ + 1)) = G.mk d.nV (fun u => !d.fV u) s.lev (toN d.fSt) (toN d.fSu) (toN d.fPS) (toN d.fPr) (!vf) dp (wrap32 (s.at_ + 1))
      rw [h1, h5]
    have e2 : stOf (put (dualOf d) t) = stOf (put d s) := by
      show ST.mk t.att t.cnt t.rem [] = ST.mk s.att s.cnt s.rem []
      rw [h2, h3, h4]
    unfold attS
    rw [e1, e2, attractF_flip]
  refine ⟨⟨h1, ?_, ?_, ?_, ?_⟩, rfl, rfl⟩
  · show (attS (put (dualOf d) t) (!vf) dp (asF L) L.length).att = _
    rw [e]; rfl
  · show (attS (put (dualOf d) t) (!vf) dp (asF L) L.length).cnt = _
    rw [e]; rfl
  · show (attS (put (dualOf d) t) (!vf) dp (asF L) L.length).rem = _
    rw [e]; rfl
  · show wrap32 (t.at_ + 1) = wrap32 (s.at_ + 1)
    rw [h5]

theorem filtTo_congr {p p' : Nat → Bool} {vs : List Nat} : ∀ i, i ≤ vs.length → (∀ v ∈ vs, p v = p' v) → filtTo p vs i = filtTo p' vs i
  | 0, _, _ => rfl
  | i + 1, hi, h => by
    show filtTo p vs i ++ _ = filtTo p' vs i ++ _
    rw [filtTo_congr i (by omega) h, h _ (getD_mem (by omega))]
theorem topTo_dual {fP fP' : Nat → Int} {vs : List Nat} (h0 : 0 < vs.length) (h : ∀ v ∈ vs, fP' v = fP v + 1) : ∀ i, i ≤ vs.length → topTo fP' vs i = topTo fP vs i + 1
  | 0, _ => h _ (getD_mem h0)
  | i + 1, hi => by
    show max (topTo fP' vs i) (fP' (vs.getD i 0)) = max (topTo fP vs i) (fP (vs.getD i 0)) + 1
    rw [topTo_dual h0 h i (by omega), h _ (getD_mem (by omega))]
    omega
theorem fav_flip (x : Int) : ((x + 1).tmod 2 == 0) = !(x.tmod 2 == 0) := by
  have h1 : (x + 1).tmod 2 = 0 ↔ (x + 1) % 2 = 0 := by
    constructor
    · intro h; exact Int.emod_eq_zero_of_dvd (Int.dvd_of_tmod_eq_zero h)
    · intro h; exact Int.tmod_eq_zero_of_dvd (Int.dvd_of_emod_eq_zero h)
  have h2 : x.tmod 2 = 0 ↔ x % 2 = 0 := by
    constructor
    · intro h; exact Int.emod_eq_zero_of_dvd (Int.dvd_of_tmod_eq_zero h)
    · intro h; exact Int.tmod_eq_zero_of_dvd (Int.dvd_of_emod_eq_zero h)
  by_cases e : x.tmod 2 = 0
  · have e2 : (x + 1).tmod 2 ≠ 0 := fun h => by have := h1.1 h; have := h2.1 e; omega
    simp [e, e2]
  · have e2 : (x + 1).tmod 2 = 0 := h1.2 (by have := mt h2.2 e; omega)
    simp [e, e2]

/-- THE LAW: the dual game's run keeps in step, and the winners are swapped -/
theorem dual_law {d : SD} (hst : StateOk d) : ∀ (k : Nat) (s t : DS) (vs : List Nat) (dp : Int), Pair s t → vs.length ≤ k → (∀ v ∈ vs, v < d.nV) → (∀ v ∈ vs, (dualOf d).fP v = d.fP v + 1) →
    Pair (solveF d k s vs dp) (solveF (dualOf d) k t vs dp) ∧ (∀ v ∈ vs, (solveF (dualOf d) k t vs dp).won v = !(solveF d k s vs dp).won v) ∧ (∀ v, v ∉ vs → (solveF d k s vs dp).won v = s.won v ∧ (solveF (dualOf d) k t vs dp).won v = t.won v)
  | 0, s, t, vs, dp, hp, hk, _, _ => ⟨hp, fun v hv => by
      have := List.length_pos_of_mem hv
      omega, fun _ _ => ⟨rfl, rfl⟩⟩
  | k + 1, s, t, vs, dp, hp, hk, hv, hP => by
    by_cases h0 : vs.length = 0
    · have e1 : solveF d (k + 1) s vs dp = s := if_pos h0
      have e2 : solveF (dualOf d) (k + 1) t vs dp = t := if_pos h0
      rw [e1, e2]
      exact ⟨hp, fun v hv => by
        have := List.length_pos_of_mem hv
        omega, fun _ _ => ⟨rfl, rfl⟩⟩
    have htop : topOf (dualOf d) vs = topOf d vs + 1 := topTo_dual (by omega) hP vs.length (Nat.le_refl _)
    have hfav : favOf (dualOf d) vs = !favOf d vs := by
      unfold favOf
      rw [htop, fav_flip]
    have hhi : hiOf (dualOf d) vs = hiOf d vs := by
      unfold hiOf
      refine filtTo_congr _ (Nat.le_refl _) (fun v hv => ?_)
      rw [htop, hP v hv]
      show (d.fP v + 1 == topOf d vs + 1) = (d.fP v == topOf d vs)
      by_cases e : d.fP v = topOf d vs
      · rw [e]; simp
      · have e2 : ¬ d.fP v + 1 = topOf d vs + 1 := by omega
        rw [beq_eq_false_iff_ne.2 e, beq_eq_false_iff_ne.2 e2]
    obtain ⟨p1, w1, w1'⟩ := attD_flip (d := d) hp (favOf d vs) dp (hiOf d vs)
    have hA1 : Pair (A1 d s vs dp) (A1 (dualOf d) t vs dp) := by
      unfold A1
      rw [hfav, hhi]
      exact p1
    have hni : notIn (A1 (dualOf d) t vs dp) = notIn (A1 d s vs dp) := by
      funext v
      unfold notIn
      rw [hA1.att, hA1.at_]
    have hrest : restOf (dualOf d) t vs dp = restOf d s vs dp := by
      unfold restOf
      rw [hni]
    have hA2 : Pair (A2 d s vs dp) (A2 (dualOf d) t vs dp) := ⟨by
      show setTo (A1 (dualOf d) t vs dp).lev (notIn (A1 (dualOf d) t vs dp)) _ vs vs.length = setTo (A1 d s vs dp).lev (notIn (A1 d s vs dp)) _ vs vs.length
      rw [hni, hA1.lev], hA1.att, hA1.cnt, hA1.rem, hA1.at_⟩
    have hrl := rest_lt hst s hv dp h0
    obtain ⟨q1, q2, q3⟩ := dual_law hst k (A2 d s vs dp) (A2 (dualOf d) t vs dp) (restOf d s vs dp) (wrap32 (dp + 1)) hA2 (by omega) (fun v h => hv v (rest_sub v h)) (fun v h => hP v (rest_sub v h))
    have hAw : (A2 d s vs dp).won = s.won ∧ (A2 (dualOf d) t vs dp).won = t.won := ⟨rfl, rfl⟩
    obtain ⟨X, hX⟩ : ∃ X, X = solveF d k (A2 d s vs dp) (restOf d s vs dp) (wrap32 (dp + 1)) := ⟨_, rfl⟩
    obtain ⟨Y, hY⟩ : ∃ Y, Y = solveF (dualOf d) k (A2 (dualOf d) t vs dp) (restOf d s vs dp) (wrap32 (dp + 1)) := ⟨_, rfl⟩
    obtain ⟨r, hr⟩ : ∃ r, r = restOf d s vs dp := ⟨_, rfl⟩
    obtain ⟨f, hf⟩ : ∃ f, f = favOf d vs := ⟨_, rfl⟩
    have hrs : ∀ v ∈ r, v ∈ vs := fun v h => rest_sub v (by rw [hr] at h; exact h)
    have e1 : solveF d (k + 1) s vs dp = if (lostOf f r X).length = 0 then doneS f vs (A4 r dp X) else solveF d k (A6 d f r vs dp X) (remOf d f r vs dp X) dp := by
      rw [hX, hr, hf]; exact if_neg h0
    have e2 : solveF (dualOf d) (k + 1) t vs dp = if (lostOf (!f) r Y).length = 0 then doneS (!f) vs (A4 r dp Y) else solveF (dualOf d) k (A6 (dualOf d) (!f) r vs dp Y) (remOf (dualOf d) (!f) r vs dp Y) dp := by
      have : solveF (dualOf d) (k + 1) t vs dp = _ := if_neg h0
      rw [this, hrest, hfav, hY, hr, hf]
    rw [← hX, ← hY] at q1 q2 q3
    rw [← hr] at q2 q3
    have hlost : lostOf (!f) r Y = lostOf f r X := by
      unfold lostOf
      refine filtTo_congr _ (Nat.le_refl _) (fun v hv => ?_)
      rw [q2 v hv]
      cases X.won v <;> cases f <;> rfl
    have hA4 : Pair (A4 r dp X) (A4 r dp Y) := ⟨by
      show setTo Y.lev _ dp r r.length = setTo X.lev _ dp r r.length
      rw [q1.lev], q1.att, q1.cnt, q1.rem, q1.at_⟩
    rw [e1, e2, hlost]
    by_cases hl : (lostOf f r X).length = 0
    · rw [if_pos hl, if_pos hl]
      refine ⟨⟨hA4.lev, hA4.att, hA4.cnt, hA4.rem, hA4.at_⟩, fun v hv => ?_, fun v hv => ?_⟩
      · show setTo Y.won (fun _ => true) (!f) vs vs.length v = !setTo X.won (fun _ => true) f vs vs.length v
        rw [set_in hv, set_in hv]
        rfl
      · show setTo X.won (fun _ => true) f vs vs.length v = s.won v ∧ setTo Y.won (fun _ => true) (!f) vs vs.length v = t.won v
        rw [setTo_out hv _ (Nat.le_refl _), setTo_out hv _ (Nat.le_refl _)]
        exact q3 v (fun h => hv (hrs v h))
    · rw [if_neg hl, if_neg hl]
      obtain ⟨p5, w5, w5'⟩ := attD_flip (d := d) hA4 (!f) dp (lostOf f r X)
      have hA5 : Pair (A5 d f r dp X) (A5 (dualOf d) (!f) r dp Y) := by
        unfold A5
        rw [hlost]
        exact p5
      have hwX : (A5 d f r dp X).won = X.won := rfl
      have hwY : (A5 (dualOf d) (!f) r dp Y).won = Y.won := rfl
      have hin : isIn (A5 (dualOf d) (!f) r dp Y) = isIn (A5 d f r dp X) := by
        funext v
        unfold isIn
        rw [hA5.att, hA5.at_]
      have hno : notIn (A5 (dualOf d) (!f) r dp Y) = notIn (A5 d f r dp X) := by
        funext v
        unfold notIn
        rw [hA5.att, hA5.at_]
      have hA6 : Pair (A6 d f r vs dp X) (A6 (dualOf d) (!f) r vs dp Y) := ⟨by
        show setTo (A5 (dualOf d) (!f) r dp Y).lev (isIn (A5 (dualOf d) (!f) r dp Y)) _ vs vs.length = setTo (A5 d f r dp X).lev (isIn (A5 d f r dp X)) _ vs vs.length
        rw [hin, hA5.lev], hA5.att, hA5.cnt, hA5.rem, hA5.at_⟩
      have hrem : remOf (dualOf d) (!f) r vs dp Y = remOf d f r vs dp X := by
        unfold remOf
        rw [hno]
      have hml := rem_lt hst (f := f) (r := r) (vs := vs) hrs hv dp (t := X) hl
      obtain ⟨u1, u2, u3⟩ := dual_law hst k (A6 d f r vs dp X) (A6 (dualOf d) (!f) r vs dp Y) (remOf d f r vs dp X) dp hA6 (by omega) (fun v h => hv v (rem_sub v h)) (fun v h => hP v (rem_sub v h))
      rw [hrem]
      refine ⟨u1, fun v hvv => ?_, fun v hvv => ?_⟩
      · by_cases hm : v ∈ remOf d f r vs dp X
        · exact u2 v hm
        · obtain ⟨x1, x2⟩ := u3 v hm
          rw [x1, x2]
          have hisin : isIn (A5 d f r dp X) v = true := by
            have : notIn (A5 d f r dp X) v ≠ true := fun h => hm (filt_mem.2 ⟨hvv, h⟩)
            unfold notIn at this
            unfold isIn
            simpa using this
          show setTo (A5 (dualOf d) (!f) r dp Y).won (isIn (A5 (dualOf d) (!f) r dp Y)) (!!f) vs vs.length v = !setTo (A5 d f r dp X).won (isIn (A5 d f r dp X)) (!f) vs vs.length v
          rw [hin, set_in hvv, set_in hvv, if_pos hisin, if_pos hisin]
      · obtain ⟨x1, x2⟩ := u3 v (fun h => hvv (rem_sub v h))
        rw [x1, x2]
        show setTo (A5 d f r dp X).won (isIn (A5 d f r dp X)) (!f) vs vs.length v = s.won v ∧ setTo (A5 (dualOf d) (!f) r dp Y).won (isIn (A5 (dualOf d) (!f) r dp Y)) (!!f) vs vs.length v = t.won v
        rw [setTo_out hvv _ (Nat.le_refl _), setTo_out hvv _ (Nat.le_refl _), hwX, hwY]
        exact q3 v (fun h => hvv (hrs v h))

end Go.Proofs.Qxb6605408a
