import Derived.Test.Qxb6605408aEq
import Derived.Test.Qxb6605408aLaw
import Derived.Test.Qxb6605408aPlainL
namespace Go.Proofs.Qxb6605408a
open Go.RowKit
set_option linter.unusedVariables false

/-- the fields that the sweeps read -/
structure LEnv (w : World) (d : SD) (g : G) (b bL bV bS : Nat) (cL cV cS : Nat) (aD : Option Addr) (cD : Nat) : Prop where
  c0 : w.cell? ⟨b, 0, none⟩ = some (.slice (some ⟨bV, 0, none⟩) d.nV cV)
  c2 : w.cell? ⟨b, 2, none⟩ = some (.slice (some ⟨bS, 0, none⟩) (d.nV + 1) cS)
  c3 : w.cell? ⟨b, 3, none⟩ = some (.slice aD d.nSu cD)
  c4 : w.cell? ⟨b, 4, none⟩ = some (.slice (some ⟨bL, 0, none⟩) d.nV cL)
  lev : ∀ j, j < d.nV → w.cell? ⟨bL, j, none⟩ = some (.int .i32 (g.lev j))
  ver : ∀ j, j < d.nV → w.cell? ⟨bV, j, none⟩ = some (.bool (g.V j))
  st : ∀ j, j < d.nV + 1 → w.cell? ⟨bS, j, none⟩ = some (.int .i32 (g.S j))
  su : Part w aD (g.S 0) (g.S d.nV) g.D

theorem LEnv.below {w w' : World} {d : SD} {g : G} {b bL bV bS cL cV cS : Nat} {aD : Option Addr} {cD : Nat} (h : LEnv w d g b bL bV bS cL cV cS aD cD) (hb : Below w.heap.size w w') : LEnv w' d g b bL bV bS cL cV cS aD cD :=
  ⟨laterCell hb h.c0, laterCell hb h.c2, laterCell hb h.c3, laterCell hb h.c4, fun j hj => laterCell hb (h.lev j hj), fun j hj => laterCell hb (h.ver j hj), fun j hj => laterCell hb (h.st j hj), h.su.below hb⟩

/-- the game's numbers -/
structure LNum (d : SD) (g : G) : Prop where
  mS : ∀ a b, a ≤ b → b ≤ d.nV → g.S a ≤ g.S b
  sD : g.S d.nV ≤ d.nSu
  vD : ∀ e, g.S 0 ≤ e → e < g.S d.nV → g.D e < d.nV

theorem lnum_of {d : SD} (hst : StateOk d) (vf : Bool) (dp : Int) : LNum d (mkG d vf dp) := ⟨toN_mono hst.eS, toN_end hst.eS, toN_to hst.eS⟩

theorem lenv_of {w : World} {base b : Nat} {d : SD} {x : SA} (hst : StateOk d) (hbx : Box w b d x) (own : SOwn w base d x) (vf : Bool) (dp : Int) (hn : 0 < d.nV) :
    ∃ bL bV bS cL cV cS aD cD, LEnv w d (mkG d vf dp) b bL bV bS cL cV cS aD cD := by
  have eL := hst.eL
  have eS := hst.eS.len
  obtain ⟨bL, haL, rL⟩ := own.oL (by omega)
  obtain ⟨bV, haV, rV⟩ := own.oV (by omega)
  obtain ⟨bS, haS, rS⟩ := own.oSt (by omega)
  obtain ⟨c0, c1, c2, c3, c4, c5, c6, c7, c8, c9, c10, c11, c12⟩ := hbx.cells
  refine ⟨bL, bV, bS, x.cL, x.cV, x.cSt, x.aSu, x.cSu, by rw [c0, haV], by rw [c2, haS, eS], c3, by rw [c4, haL, eL], fun j hj => rL.cell (by omega), fun j hj => rV.cell hj, fun j hj => ?_, part_of hst.eS own.oSu.row⟩
  obtain ⟨b', off, e, hb, hc⟩ := row_toN hst.eS own.oSt.row (by omega)
  rw [haS] at e
  cases e
  have h1 := hc j hj
  rw [Nat.zero_add] at h1
  exact h1

theorem lok_of {d : SD} {vf : Bool} {dp : Int} {ft : Nat → Int} {nt : Nat} (hs : SSmall d) (hok : AttractOk d nt ft dp 1) : LOk (mkG d vf dp) (toN ft) nt (stOf d) := by
  obtain ⟨hT, hd⟩ := tgt_of hok.tg
  exact ⟨rok_of hok.st vf dp, small_of hs hok.st vf dp, hok.st.tr, dok_of hok.st vf dp, hT, hd, fun i hi => by
    have := hok.tg.lev i hi
    show ¬ d.fL (toN ft i) < dp
    unfold toN
    omega, fun v hv => (hok.un 1 (by omega) (by omega) v hv).1, fun v hv => (hok.un 1 (by omega) (by omega) v hv).2⟩

/-- the targets, as the sweeps begin -/
theorem sw_start {d : SD} {vf : Bool} {dp : Int} {ft : Nat → Int} {nt : Nat} (hs : SSmall d) (hok : AttractOk d nt ft dp 1) : SwOk (mkG d vf dp) (toN ft) nt (stOf d) (seenTo ft nt) := by
  have hl := lok_of (vf := vf) hs hok
  have htg := hok.tg
  refine ⟨fun i hi => ?_, fun u hu ha => ?_⟩
  · have h1 := htg.lo i hi
    exact (seenTo_iff ft (toN ft i) nt).2 ⟨i, hi, by unfold toN; omega⟩
  · obtain ⟨j, hj, e⟩ := (seenTo_iff ft u nt).1 ha
    have := (attractF_keep hl.hR (s := stOf d) hl.hT).2 j hj
    have e2 : toN ft j = u := by unfold toN; omega
    rw [e2] at this
    exact this

/-- what the second half asks at u -/
theorem least_all {d : SD} {vf : Bool} {dp : Int} {ft : Nat → Int} {nt : Nat} (hs : SSmall d) (hok : AttractOk d nt ft dp 1) {A : Nat → Bool} (hA : SwOk (mkG d vf dp) (toN ft) nt (stOf d) A) (hcl : Closed (mkG d vf dp) A) :
    ∀ u, u < d.nV → (attS d vf dp ft nt).att u = (if A u = true then wrap32 (d.at_ + 1) else d.fA u) ∧
      (seenTo ft nt u = true ∨ d.fL u < dp ∨ d.fV u = vf ∨ intoTo (mkG d vf dp) A u (slen (mkG d vf dp) u) = false → (attS d vf dp ft nt).cnt u = d.fC u ∧ (attS d vf dp ft nt).rem u = d.fR u) ∧
      (seenTo ft nt u = false → ¬ d.fL u < dp → d.fV u ≠ vf → intoTo (mkG d vf dp) A u (slen (mkG d vf dp) u) = true → (attS d vf dp ft nt).cnt u = wrap32 (d.at_ + 1) ∧ (attS d vf dp ft nt).rem u = leftTo (mkG d vf dp) A u (slen (mkG d vf dp) u)) := by
  intro u hu
  have h := (lok_of (vf := vf) hs hok).least hA.tgt hA.sub hcl u hu
  have hsee : seenTo ft nt u = true ↔ ∃ i, i < nt ∧ toN ft i = u := by
    rw [seenTo_iff]
    constructor
    · rintro ⟨j, hj, e⟩; exact ⟨j, hj, by unfold toN; omega⟩
    · rintro ⟨j, hj, e⟩
      have := hok.tg.lo j hj
      exact ⟨j, hj, by unfold toN at e; omega⟩
  refine ⟨h.1, fun hor => h.2.1 (hor.imp hsee.1 id), fun h1 h2 h3 h4 => h.2.2 (fun hx => ?_) h2 h3 h4⟩
  rw [hsee.2 hx] at h1
  cases h1

end Go.Proofs.Qxb6605408a
