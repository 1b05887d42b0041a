import Derived.Test.Qxb6605408aAtt
namespace Go.Proofs.Qxb6605408a
open Go.RowKit

/-- the list as a row -/
def asF (L : List Nat) : Nat → Int := fun i => ((L.getD i 0 : Nat) : Int)

theorem againL_len (g : G) (s : ST) : ∀ k, (againL g s k).length ≤ k
  | 0 => Nat.le_refl _
  | k + 1 => by
    have := againL_len g s k
    unfold againL
    rw [List.length_append]
    split <;> simp <;> omega

theorem initTo_noq (g : G) (T : Nat → Nat) (s : ST) : ∀ k, initTo g T ⟨s.att, s.cnt, s.rem, []⟩ k = initTo g T s k
  | 0 => rfl
  | k + 1 => by
    show { initTo g T ⟨s.att, s.cnt, s.rem, []⟩ k with att := upd (initTo g T ⟨s.att, s.cnt, s.rem, []⟩ k).att (T k) g.a, q := (initTo g T ⟨s.att, s.cnt, s.rem, []⟩ k).q ++ [T k] } = { initTo g T s k with att := upd (initTo g T s k).att (T k) g.a, q := (initTo g T s k).q ++ [T k] }
    rw [initTo_noq g T s k]

theorem rok_of {d : SD} (hst : StateOk d) (vf : Bool) (dp : Int) : ROk (mkG d vf dp) := by
  intro v hv k hk
  have hv' : v < d.nV := hv
  have h1 := toN_mono hst.eP 0 v (by omega) (by omega)
  have h2 := toN_mono hst.eP (v + 1) d.nV (by omega) (Nat.le_refl _)
  change k < toN d.fPS (v + 1) - toN d.fPS v at hk
  show toN d.fPr (toN d.fPS v + k) < d.nV
  exact toN_to hst.eP _ (by omega) (by omega)
theorem dok_of {d : SD} (hst : StateOk d) (vf : Bool) (dp : Int) : ∀ u, u < (mkG d vf dp).n → ∀ k, k < (mkG d vf dp).S (u + 1) - (mkG d vf dp).S u → (mkG d vf dp).D ((mkG d vf dp).S u + k) < (mkG d vf dp).n := by
  intro v hv k hk
  have hv' : v < d.nV := hv
  have h1 := toN_mono hst.eS 0 v (by omega) (by omega)
  have h2 := toN_mono hst.eS (v + 1) d.nV (by omega) (Nat.le_refl _)
  change k < toN d.fSt (v + 1) - toN d.fSt v at hk
  show toN d.fSu (toN d.fSt v + k) < d.nV
  exact toN_to hst.eS _ (by omega) (by omega)
theorem small_of {d : SD} (hs : SSmall d) (hst : StateOk d) (vf : Bool) (dp : Int) : Small (mkG d vf dp) := by
  intro u hu
  have hu' : u < d.nV := hu
  have h1 := degTo_le (mkG d vf dp) u ((mkG d vf dp).S (u + 1) - (mkG d vf dp).S u)
  have h2 := toN_mono hst.eS (u + 1) d.nV (by omega) (Nat.le_refl _)
  have h3 := toN_end hst.eS
  have h4 := hs.sSu
  unfold deg
  change _ ≤ toN d.fSt (u + 1) - toN d.fSt u at h1
  omega

theorem wrap_next (x : Int) : wrap32 (x + 1) ≠ x := by unfold wrap32; omega
theorem wrap_two (x : Int) : wrap32 (wrap32 (x + 1) + 1) = wrap32 (x + 2) := by unfold wrap32; omega

theorem tgt_of {d : SD} {nt : Nat} {ft : Nat → Int} {dp : Int} (h : TargetsOk d nt ft dp) : (∀ i, i < nt → toN ft i < d.nV) ∧ (∀ i j, i < j → j < nt → toN ft i ≠ toN ft j) := by
  refine ⟨fun i hi => ?_, fun i j hi hj e => ?_⟩
  · have h1 := h.lo i hi
    have h2 := h.hi i hi
    unfold toN
    omega
  · have h1 := h.lo i (by omega)
    have h2 := h.lo j hj
    have h3 := h.diff i j hi hj
    unfold toN at e
    omega

theorem twice_all {d : SD} {vf : Bool} {dp : Int} {ft : Nat → Int} {nt : Nat} (hs : SSmall d) (hok : AttractOk d nt ft dp 2) :
    (∀ i, i < nt → (attS d vf dp ft nt).att (toN ft i) = wrap32 (d.at_ + 1)) ∧
    ∀ v, v < d.nV → ((attS (aft d vf dp ft nt) vf dp (asF (againL (mkG d vf dp) (attS d vf dp ft nt) d.nV)) (againL (mkG d vf dp) (attS d vf dp ft nt) d.nV).length).att v = wrap32 (wrap32 (d.at_ + 1) + 1) ↔ (attS d vf dp ft nt).att v = wrap32 (d.at_ + 1)) := by
  have hR := rok_of hok.st vf dp
  have hsm := small_of hs hok.st vf dp
  obtain ⟨hT, hd⟩ := tgt_of hok.tg
  have hu := hok.un
  refine ⟨(attractF_keep hR (s := stOf d) hT).2, fun v hv => ?_⟩
  have h := twice_law hR hsm (s := stOf d) hT hd (fun v hv => (hu 1 (by omega) (by omega) v hv).1) (fun v hv => (hu 1 (by omega) (by omega) v hv).2) (b := wrap32 (wrap32 (d.at_ + 1) + 1)) (wrap_next _)
    (fun v hv => by rw [wrap_two]; exact (hu 2 (by omega) (by omega) v hv).1) (fun v hv => by rw [wrap_two]; exact (hu 2 (by omega) (by omega) v hv).2)
    (T' := toN (asF (againL (mkG d vf dp) (attS d vf dp ft nt) d.nV))) (fun i hi => by
      change i < (againL (mkG d vf dp) (attS d vf dp ft nt) d.nV).length at hi
      show ((((againL (mkG d vf dp) (attS d vf dp ft nt) d.nV).getD i 0 : Nat) : Int)).toNat = (againL (mkG d vf dp) (attS d vf dp ft nt) d.nV)[i]
      simp [List.getD_eq_getElem?_getD, hi]) v hv
  have e : attS (aft d vf dp ft nt) vf dp (asF (againL (mkG d vf dp) (attS d vf dp ft nt) d.nV)) (againL (mkG d vf dp) (attS d vf dp ft nt) d.nV).length
      = attractF { mkG d vf dp with a := wrap32 (wrap32 (d.at_ + 1) + 1) } (toN (asF (againL (mkG d vf dp) (attS d vf dp ft nt) d.nV))) (againL (mkG d vf dp) (attS d vf dp ft nt) d.nV).length (attS d vf dp ft nt) := by
    show runTo _ (initTo _ _ ⟨(attS d vf dp ft nt).att, (attS d vf dp ft nt).cnt, (attS d vf dp ft nt).rem, []⟩ _) _ = runTo _ (initTo _ _ (attS d vf dp ft nt) _) _
    rw [initTo_noq]
    rfl
  rw [e]
  exact h

end Go.Proofs.Qxb6605408a
