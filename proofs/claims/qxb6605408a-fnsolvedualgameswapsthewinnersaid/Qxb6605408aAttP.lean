import Derived.Test.Qxb6605408aCount
import Derived.RowKit
namespace Go.Proofs.Qxb6605408a
open Go.RowKit (wrap32)

/-- what an attract works over and does not write -/
structure G where
  n : Nat
  V : Nat → Bool
  lev : Nat → Int
  S : Nat → Nat
  D : Nat → Nat
  Q : Nat → Nat
  R : Nat → Nat
  vf : Bool
  dp : Int
  a : Int

/-- what it writes -/
structure ST where
  att : Nat → Int
  cnt : Nat → Int
  rem : Nat → Int
  q : List Nat

/-- how many of the first k successors of u lie in the game -/
def degTo (g : G) (u : Nat) : Nat → Nat
  | 0 => 0
  | k + 1 => degTo g u k + (if g.dp ≤ g.lev (g.D (g.S u + k)) then 1 else 0)
def deg (g : G) (u : Nat) : Nat := degTo g u (g.S (u + 1) - g.S u)

/-- the rest of the count at u, this entry taken off -/
def left (g : G) (u : Nat) (s : ST) : Int := wrap32 ((if s.cnt u = g.a then s.rem u else (deg g u : Int)) - 1)

/-- one entry u of a list of predecessors -/
def stepU (g : G) (u : Nat) (s : ST) : ST :=
  if g.lev u < g.dp ∨ s.att u = g.a then s
  else if g.V u = g.vf then { s with att := upd s.att u g.a, q := s.q ++ [u] }
  else if 0 < left g u s then { s with cnt := upd s.cnt u g.a, rem := upd s.rem u (left g u s) }
  else { att := upd s.att u g.a, cnt := upd s.cnt u g.a, rem := upd s.rem u (left g u s), q := s.q ++ [u] }

/-- the first k entries of v's list -/
def innerTo (g : G) (v : Nat) : Nat → ST → ST
  | 0, s => s
  | k + 1, s => stepU g (g.R (g.Q v + k)) (innerTo g v k s)
def inner (g : G) (v : Nat) (s : ST) : ST := innerTo g v (g.Q (v + 1) - g.Q v) s

/-- the first i places of the queue -/
def runTo (g : G) (s0 : ST) : Nat → ST
  | 0 => s0
  | i + 1 => match (runTo g s0 i).q[i]? with
    | some v => inner g v (runTo g s0 i)
    | none => runTo g s0 i

/-- the first k targets marked -/
def initTo (g : G) (T : Nat → Nat) (s : ST) : Nat → ST
  | 0 => { s with q := [] }
  | k + 1 => { initTo g T s k with att := upd (initTo g T s k).att (T k) g.a, q := (initTo g T s k).q ++ [T k] }

def attractF (g : G) (T : Nat → Nat) (nt : Nat) (s : ST) : ST := runTo g (initTo g T s nt) (nt + g.n)

theorem degTo_le (g : G) (u : Nat) : ∀ k, degTo g u k ≤ k
  | 0 => Nat.le_refl _
  | k + 1 => by
    have := degTo_le g u k
    unfold degTo
    split <;> omega

theorem initTo_q (g : G) (T : Nat → Nat) (s : ST) : ∀ k, (initTo g T s k).q.length = k
  | 0 => rfl
  | k + 1 => by simp [initTo, initTo_q g T s k]

theorem runTo_stuck {g : G} {s0 : ST} {i : Nat} (h : (runTo g s0 i).q.length ≤ i) : ∀ k, runTo g s0 (i + k) = runTo g s0 i
  | 0 => rfl
  | k + 1 => by
    have ih := runTo_stuck h k
    show (match (runTo g s0 (i + k)).q[i + k]? with | some v => inner g v (runTo g s0 (i + k)) | none => runTo g s0 (i + k)) = _
    rw [ih, List.getElem?_eq_none (by omega)]

theorem runTo_succ {g : G} {s0 : ST} {i : Nat} (h : i < (runTo g s0 i).q.length) : runTo g s0 (i + 1) = inner g ((runTo g s0 i).q[i]) (runTo g s0 i) := by
  show (match (runTo g s0 i).q[i]? with | some v => inner g v (runTo g s0 i) | none => runTo g s0 i) = _
  rw [List.getElem?_eq_getElem h]

/-! ### the queue does not outgrow the vertices -/
def un (g : G) (s : ST) : Nat := sumTo (fun v => if s.att v = g.a then 0 else 1) g.n
def phi (g : G) (s : ST) : Nat := s.q.length + un g s
/-- the queue holds vertices -/
def QOk (g : G) (s : ST) : Prop := ∀ v ∈ s.q, v < g.n

theorem sumTo_upd {f : Nat → Nat} {i n : Nat} (hi : i < n) {x : Nat} : sumTo (fun j => if j = i then x else f j) n + f i = sumTo f n + x := by
  induction n with
  | zero => omega
  | succ n ih =>
    rw [sumTo_succ, sumTo_succ]
    by_cases e : i = n
    · subst e
      have : sumTo (fun j => if j = i then x else f j) i = sumTo f i := sumTo_congr (fun j hj => if_neg (by omega))
      rw [this, if_pos rfl]
      omega
    · have := ih (by omega)
      rw [if_neg (fun h => e h.symm)]
      omega

theorem un_mark {g : G} {s : ST} {u : Nat} (hu : u < g.n) (h : s.att u ≠ g.a) (s' : ST) (hs : s'.att = upd s.att u g.a) : un g s' + 1 = un g s := by
  unfold un
  have h1 := sumTo_upd (f := fun v => if s.att v = g.a then 0 else 1) (n := g.n) hu (x := 0)
  have h2 : sumTo (fun v => if s'.att v = g.a then 0 else 1) g.n = sumTo (fun j => if j = u then 0 else (if s.att j = g.a then 0 else 1)) g.n := by
    refine sumTo_congr (fun j _ => ?_)
    rw [hs]
    by_cases e : j = u
    · subst e; rw [upd_same]; simp
    · rw [upd_other e, if_neg e]
  rw [h2]
  simp only [if_neg h] at h1
  omega

theorem step_phi {g : G} {u : Nat} (hu : u < g.n) (s : ST) : phi g (stepU g u s) = phi g s ∧ (QOk g s → QOk g (stepU g u s)) := by
  unfold stepU
  split
  · exact ⟨rfl, id⟩
  · rename_i h
    have ha : s.att u ≠ g.a := fun e => h (.inr e)
    have hq : ∀ t : ST, t.q = s.q ++ [u] → QOk g s → QOk g t := fun t ht hs v hv => by
      rw [ht] at hv
      simp at hv
      rcases hv with hv | hv
      · exact hs v hv
      · rw [hv]; exact hu
    split
    · refine ⟨?_, hq _ rfl⟩
      have := un_mark hu ha { s with att := upd s.att u g.a, q := s.q ++ [u] } rfl
      unfold phi
      simp
      omega
    · split
      · exact ⟨rfl, fun hs => hs⟩
      · refine ⟨?_, hq _ rfl⟩
        have := un_mark hu ha { att := upd s.att u g.a, cnt := upd s.cnt u g.a, rem := upd s.rem u (left g u s), q := s.q ++ [u] } rfl
        unfold phi
        simp
        omega

/-- the lists of predecessors hold vertices -/
def ROk (g : G) : Prop := ∀ v, v < g.n → ∀ k, k < g.Q (v + 1) - g.Q v → g.R (g.Q v + k) < g.n

theorem innerTo_phi {g : G} (hR : ROk g) {v : Nat} (hv : v < g.n) (s : ST) : ∀ k, k ≤ g.Q (v + 1) - g.Q v → phi g (innerTo g v k s) = phi g s ∧ (QOk g s → QOk g (innerTo g v k s))
  | 0, _ => ⟨rfl, id⟩
  | k + 1, hk => by
    have ih := innerTo_phi hR hv s k (by omega)
    have st := step_phi (hR v hv k (by omega)) (innerTo g v k s)
    exact ⟨st.1.trans ih.1, fun h => st.2 (ih.2 h)⟩

theorem runTo_phi {g : G} (hR : ROk g) {s0 : ST} (h0 : QOk g s0) : ∀ i, phi g (runTo g s0 i) = phi g s0 ∧ QOk g (runTo g s0 i)
  | 0 => ⟨rfl, h0⟩
  | i + 1 => by
    have ih := runTo_phi hR h0 i
    by_cases h : i < (runTo g s0 i).q.length
    · rw [runTo_succ h]
      have hv : (runTo g s0 i).q[i] < g.n := ih.2 _ (List.getElem_mem h)
      have st := innerTo_phi hR hv (runTo g s0 i) _ (Nat.le_refl _)
      exact ⟨st.1.trans ih.1, st.2 ih.2⟩
    · have := runTo_stuck (g := g) (s0 := s0) (i := i) (by omega) 1
      rw [this]
      exact ih

theorem initTo_ok {g : G} {T : Nat → Nat} {s : ST} : ∀ {k}, (∀ i, i < k → T i < g.n) → QOk g (initTo g T s k)
  | 0, _ => fun v hv => by simp [initTo] at hv
  | k + 1, h => fun v hv => by
    simp only [initTo, List.mem_append, List.mem_singleton] at hv
    rcases hv with hv | hv
    · exact initTo_ok (fun i hi => h i (by omega)) v hv
    · rw [hv]; exact h k (by omega)

theorem un_le (g : G) (s : ST) : un g s ≤ g.n := by
  unfold un
  have h : ∀ m, sumTo (fun _ => 1) m = m := by
    intro m
    induction m with
    | zero => rfl
    | succ m ih => rw [sumTo_succ, ih]
  have := sumTo_le (f := fun v => if s.att v = g.a then 0 else 1) (g := fun _ => 1) (k := g.n) (fun j _ => by split <;> omega)
  rw [h] at this
  exact this

/-- the queue is never longer than the targets and the vertices together -/
theorem runTo_len {g : G} (hR : ROk g) {T : Nat → Nat} {nt : Nat} {s : ST} (hT : ∀ i, i < nt → T i < g.n) (i : Nat) : (runTo g (initTo g T s nt) i).q.length ≤ nt + g.n := by
  have h1 := (runTo_phi hR (initTo_ok (g := g) (T := T) (s := s) hT) i).1
  have h2 := un_le g (initTo g T s nt)
  have h3 := initTo_q g T s nt
  unfold phi at h1
  omega

/-- where the queue has been gone through, all is done -/
theorem attractF_eq {g : G} (hR : ROk g) {T : Nat → Nat} {nt i : Nat} {s : ST} (hT : ∀ i, i < nt → T i < g.n) (hi : i ≤ (runTo g (initTo g T s nt) i).q.length) (hd : (runTo g (initTo g T s nt) i).q.length ≤ i) : attractF g T nt s = runTo g (initTo g T s nt) i := by
  have h1 := runTo_len hR (s := s) hT i
  unfold attractF
  rw [show nt + g.n = i + (nt + g.n - i) by omega]
  exact runTo_stuck hd _

end Go.Proofs.Qxb6605408a
