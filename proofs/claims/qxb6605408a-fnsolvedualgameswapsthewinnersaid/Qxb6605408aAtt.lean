import Derived.Test.Qxb6605408aMem
import Derived.Test.Qxb6605408aAttWalk
namespace Go.Proofs.Qxb6605408a
open Go.RowKit
set_option linter.unusedVariables false

/-- the blocks that an attract over these fields writes -/
def wr4 (x : SA) (sb k : Nat) : Prop := (∃ y, x.aA = some y ∧ y.block = k) ∨ (∃ y, x.aC = some y ∧ y.block = k) ∨ (∃ y, x.aR = some y ∧ y.block = k) ∨ k = sb

/-- a field that an attract does not write -/
def still (x : SA) (y : Addr) : Prop := x.aV = some y ∨ x.aP = some y ∨ x.aSt = some y ∨ x.aSu = some y ∨ x.aL = some y ∨ x.aW = some y ∨ x.aPS = some y ∨ x.aPr = some y ∨ x.aVL = some y

theorem SOwn.mid {w : World} {base : Nat} {d : SD} {x : SA} (h : SOwn w base d x) : ∃ lo m1 m2 hi, (∀ y, still x y → y.block < lo ∨ hi ≤ y.block) ∧ lo ≤ m1 ∧ m1 ≤ m2 ∧ m2 ≤ hi ∧ (∀ y, x.aA = some y → lo ≤ y.block ∧ y.block < m1) ∧ (∀ y, x.aC = some y → m1 ≤ y.block ∧ y.block < m2) ∧ (∀ y, x.aR = some y → m2 ≤ y.block ∧ y.block < hi) := by
  obtain ⟨h0, h1, h2, h3, h4, h5, h6, h7, h8, h9, h10, h11, h12, b0, b1, b2, b3, b4, b5, b6, b7, b8, b9, b10, b11, b12, b13, p1, p2, p3, p4, p5, p6, p7, p8, p9, p10, p11, p12⟩ := h.chain
  refine ⟨h6, h7, h8, h9, fun y hy => ?_, by omega, by omega, by omega, p7, p8, p9⟩
  rcases hy with e | e | e | e | e | e | e | e | e
  · have := p1 y e; omega
  · have := p2 y e; omega
  · have := p3 y e; omega
  · have := p4 y e; omega
  · have := p5 y e; omega
  · have := p6 y e; omega
  · have := p10 y e; omega
  · have := p11 y e; omega
  · have := p12 y e; omega

theorem still_field {x : SA} {y : Addr} (h : still x y) : isField x y := by
  rcases h with e | e | e | e | e | e | e | e | e
  · exact .inl e
  · exact .inr (.inl e)
  · exact .inr (.inr (.inl e))
  · exact .inr (.inr (.inr (.inl e)))
  · exact .inr (.inr (.inr (.inr (.inl e))))
  · exact .inr (.inr (.inr (.inr (.inr (.inl e)))))
  · exact .inr (.inr (.inr (.inr (.inr (.inr (.inr (.inr (.inr (.inl e)))))))))
  · exact .inr (.inr (.inr (.inr (.inr (.inr (.inr (.inr (.inr (.inr (.inl e))))))))))
  · exact .inr (.inr (.inr (.inr (.inr (.inr (.inr (.inr (.inr (.inr (.inr e))))))))))

theorem InMem.stillOut {w : World} {base : Nat} {d : SD} {x : SA} {sb gb : Nat} (h : InMem w base d x sb gb) : ∀ y, still x y → ¬ wr4 x sb y.block := by
  obtain ⟨lo, m1, m2, hi, p0, q1, q2, q3, pA, pC, pR⟩ := h.own.mid
  have hgs := h.gs
  intro y hy hw
  have h1 := p0 y hy
  have h2 := h.lt y (still_field hy)
  rcases hw with ⟨z, e, f⟩ | ⟨z, e, f⟩ | ⟨z, e, f⟩ | f
  · have := pA z e; omega
  · have := pC z e; omega
  · have := pR z e; omega
  · omega

theorem InMem.gOut {w : World} {base : Nat} {d : SD} {x : SA} {sb gb : Nat} (h : InMem w base d x sb gb) : ¬ wr4 x sb gb := by
  have hgs := h.gs
  rintro (⟨z, e, f⟩ | ⟨z, e, f⟩ | ⟨z, e, f⟩ | f)
  · have := h.lt z (.inr (.inr (.inr (.inr (.inr (.inr (.inl e))))))); omega
  · have := h.lt z (.inr (.inr (.inr (.inr (.inr (.inr (.inr (.inl e)))))))); omega
  · have := h.lt z (.inr (.inr (.inr (.inr (.inr (.inr (.inr (.inr (.inl e))))))))); omega
  · omega

theorem InMem.turn {w w' : World} {base : Nat} {d : SD} {x : SA} {sb gb : Nat} (h : InMem w base d x sb gb) {a : Int} {fA fC fR : Nat → Int} (hc : Chg (wr4 x sb) w w') (hsb : ∀ i, i ≠ 6 → w'.cell? ⟨sb, i, none⟩ = w.cell? ⟨sb, i, none⟩)
    (c6 : w'.cell? ⟨sb, 6, none⟩ = some (.int .i32 a)) (f6 : w'.frozen? ⟨sb, 6, none⟩ = false) (oA : ORow w' 21 x.aA d.nA (fun i => .int .i32 (fA i))) (oC : ORow w' 21 x.aC d.nC (fun i => .int .i32 (fC i))) (oR : ORow w' 21 x.aR d.nR (fun i => .int .i32 (fR i))) :
    InMem w' base { d with at_ := a, fA := fA, fC := fC, fR := fR } x sb gb := by
  have hs := h.stillOut
  have hg := h.gOut
  have o := h.own
  obtain ⟨h0, h1, h2, h3, h4, h5, h6, h7, h8, h9, h10, h11, h12, b0, b1, b2, b3, b4, b5, b6, b7, b8, b9, b10, b11, b12, b13, pp⟩ := o.chain
  have hz := hc.size
  refine ⟨(hsb 0 (by omega)).trans h.c0, (hsb 1 (by omega)).trans h.c1, (hsb 2 (by omega)).trans h.c2, (hsb 3 (by omega)).trans h.c3, (hsb 4 (by omega)).trans h.c4, (hsb 5 (by omega)).trans h.c5, c6, (hsb 7 (by omega)).trans h.c7, (hsb 8 (by omega)).trans h.c8,
    laterCell' hc hg h.g0, laterCell' hc hg h.g1, laterCell' hc hg h.g2, laterCell' hc hg h.g3, f6, ?_, h.lt, h.gs⟩
  exact ⟨o.oV.chg hc (fun y e => hs y (.inl e)), o.oP.chg hc (fun y e => hs y (.inr (.inl e))), o.oSt.chg hc (fun y e => hs y (.inr (.inr (.inl e)))), o.oSu.chg hc (fun y e => hs y (.inr (.inr (.inr (.inl e))))), o.oL.chg hc (fun y e => hs y (.inr (.inr (.inr (.inr (.inl e)))))), o.oW.chg hc (fun y e => hs y (.inr (.inr (.inr (.inr (.inr (.inl e))))))), oA, oC, oR,
    o.oPS.chg hc (fun y e => hs y (.inr (.inr (.inr (.inr (.inr (.inr (.inl e)))))))), o.oPr.chg hc (fun y e => hs y (.inr (.inr (.inr (.inr (.inr (.inr (.inr (.inl e))))))))), o.oVL.chg hc (fun y e => hs y (.inr (.inr (.inr (.inr (.inr (.inr (.inr (.inr e))))))))),
    o.kV, o.kP, o.kSt, o.kSu, o.kL, o.kW, o.kA, o.kC, o.kR, o.kPS, o.kPr, o.kVL, h0, h1, h2, h3, h4, h5, h6, h7, h8, h9, h10, h11, h12, b0, b1, b2, b3, b4, b5, b6, b7, b8, b9, b10, b11, b12, Nat.le_trans b13 hz, pp⟩

theorem toN_mono {n ns nt : Nat} {fs ft : Nat → Int} (h : EdgesOk n ns fs nt ft) : ∀ a b, a ≤ b → b ≤ n → toN fs a ≤ toN fs b := by
  intro a b h1 h2
  have := mono_le h.mono h1 h2
  unfold toN
  omega
theorem toN_end {n ns nt : Nat} {fs ft : Nat → Int} (h : EdgesOk n ns fs nt ft) : toN fs n ≤ nt := by
  have := h.hi
  unfold toN
  omega
theorem toN_to {n ns nt : Nat} {fs ft : Nat → Int} (h : EdgesOk n ns fs nt ft) : ∀ e, toN fs 0 ≤ e → e < toN fs n → toN ft e < n := by
  intro e h1 h2
  unfold toN at h1 h2
  have h3 := h.lo
  have := h.to e (by omega) (by omega)
  unfold toN
  omega

theorem gok_of {d : SD} (hs : SSmall d) (hst : StateOk d) (hn : 0 < d.nV) {cD cR : Nat} (k1 : d.nSu ≤ cD) (k2 : d.nPr ≤ cR) (vf : Bool) (dp : Int) : GOk (mkG d vf dp) d.nSu cD d.nPr cR :=
  ⟨hn, hs.sV, toN_mono hst.eS, toN_mono hst.eP, toN_end hst.eS, hs.sSu, k1, toN_end hst.eP, hs.sPr, k2, toN_to hst.eS, toN_to hst.eP⟩

/-- what an attract hands back -/
def AttOut (w : World) (base : Nat) (d : SD) (x : SA) (sb gb : Nat) (vf : Bool) (dp : Int) (ft : Nat → Int) (nt : Nat) (e : Ending) (w' : World) : Prop :=
  e = .returned (.int .i32 (wrap32 (d.at_ + 1))) ∧ InMem w' base (aft d vf dp ft nt) x sb gb ∧ Chg (wr4 x sb) w w'

theorem attract_any (d : SD) (x : SA) (base sb gb : Nat) (at1 : Option Addr) (nt ct : Nat) (ft : Nat → Int) (vf : Bool) (dp : Int) (w : World) (hs : SSmall d) (hst : StateOk d) (hm : InMem w base d x sb gb) (ht : nt ≤ 1048576)
    (rt : Row w at1 nt (fun i => .int .i32 (ft i))) (htg : ∀ i, i < nt → 0 ≤ ft i ∧ ft i < d.nV) (hta : ∀ y, at1 = some y → ¬ wr4 x sb y.block) :
    Calls Try.prog 24 #[.pointer (some ⟨sb, 0, none⟩), .slice at1 nt ct, .bool vf, .int .i32 dp] w (AttOut w base d x sb gb vf dp ft nt) := by
  have c6 := hm.c6
  have f6 := hm.f6
  have hsb : sb < w.heap.size := lt_of_cell (a := ⟨sb, 6, none⟩) c6
  have hc0 : Chg (wr4 x sb) w (w.setCell ⟨sb, 6, none⟩ (.int .i32 (wrap32 (d.at_ + 1)))) := (Chg.refl _ _).setCell (fun _ => .inr (.inr (.inr rfl))) _
  have hcell : ∀ i, i ≠ 6 → (w.setCell ⟨sb, 6, none⟩ (.int .i32 (wrap32 (d.at_ + 1)))).cell? ⟨sb, i, none⟩ = w.cell? ⟨sb, i, none⟩ := fun i hi => cell_setCell_other (fun h => hi (by rw [Addr.mk.injEq] at h; exact h.2.1.symm))
  have hfr : (w.setCell ⟨sb, 6, none⟩ (.int .i32 (wrap32 (d.at_ + 1)))).frozen? ⟨sb, 6, none⟩ = false := (World.frozen?_setCell _ _ _ _).trans f6
  obtain ⟨lo, m1, m2, hi, p0, q1, q2, q3, pA, pC, pR⟩ := hm.own.mid
  have hgs := hm.gs
  have hlt := hm.lt
  rcases Nat.eq_zero_or_pos nt with h0 | h0
  · subst h0
    refine (attract_none d.at_ sb at1 ct vf dp w c6 f6).mono ?_
    rintro e w' ⟨rfl, o, rfl⟩
    have hrun : ∀ i, runTo (mkG d vf dp) (initTo (mkG d vf dp) (toN ft) (stOf d) 0) i = initTo (mkG d vf dp) (toN ft) (stOf d) 0 := fun i => by
      have := runTo_stuck (g := mkG d vf dp) (s0 := initTo (mkG d vf dp) (toN ft) (stOf d) 0) (i := 0) (Nat.le_refl _) i
      rw [Nat.zero_add] at this
      exact this
    have ha : attS d vf dp ft 0 = initTo (mkG d vf dp) (toN ft) (stOf d) 0 := hrun _
    have hch := hc0.alloc o
    have hsz : sb < (w.setCell ⟨sb, 6, none⟩ (.int .i32 (wrap32 (d.at_ + 1)))).heap.size := by simpa using hsb
    have hbl : Below (w.setCell ⟨sb, 6, none⟩ (.int .i32 (wrap32 (d.at_ + 1)))).heap.size (w.setCell ⟨sb, 6, none⟩ (.int .i32 (wrap32 (d.at_ + 1)))) ((w.setCell ⟨sb, 6, none⟩ (.int .i32 (wrap32 (d.at_ + 1)))).alloc o) := (Below.refl _ _).alloc (Nat.le_refl _) _
    have hrow : ∀ (a : Option Addr) (n : Nat) (f : Nat → Int), ORow w 21 a n (fun i => .int .i32 (f i)) → (∀ y, a = some y → y.block ≠ sb) → ORow ((w.setCell ⟨sb, 6, none⟩ (.int .i32 (wrap32 (d.at_ + 1)))).alloc o) 21 a n (fun i => .int .i32 (f i)) := by
      intro a n f h hne hn
      obtain ⟨g, e, hr⟩ := h hn
      exact ⟨g, e, (hr.setOther (hne _ e) _).alloc _⟩
    have hneA : ∀ y, x.aA = some y → y.block ≠ sb := fun y e => by have := hlt y (.inr (.inr (.inr (.inr (.inr (.inr (.inl e))))))); omega
    have hneC : ∀ y, x.aC = some y → y.block ≠ sb := fun y e => by have := hlt y (.inr (.inr (.inr (.inr (.inr (.inr (.inr (.inl e)))))))); omega
    have hneR : ∀ y, x.aR = some y → y.block ≠ sb := fun y e => by have := hlt y (.inr (.inr (.inr (.inr (.inr (.inr (.inr (.inr (.inl e))))))))); omega
    refine ⟨rfl, ?_, hch⟩
    unfold aft
    rw [ha]
    exact hm.turn hch (fun i hi => (hbl.cell (p := ⟨sb, i, none⟩) hsz).trans (hcell i hi)) ((hbl.cell (p := ⟨sb, 6, none⟩) hsz).trans (cell_setCell_same c6)) ((hbl.frozen (p := ⟨sb, 6, none⟩) hsz).trans hfr)
      (hrow _ _ _ hm.own.oA hneA) (hrow _ _ _ hm.own.oC hneC) (hrow _ _ _ hm.own.oR hneR)
  · have hn : 0 < d.nV := by have := htg 0 h0; omega
    have eA := hst.eA
    have eC := hst.eC
    have eR := hst.eR
    have eL := hst.eL
    have eS := hst.eS.len
    have eP := hst.eP.len
    obtain ⟨gA, haA, rA⟩ := hm.own.oA (by omega)
    obtain ⟨gC, haC, rC⟩ := hm.own.oC (by omega)
    obtain ⟨gR, haR, rR⟩ := hm.own.oR (by omega)
    obtain ⟨bL, haL, rL⟩ := hm.own.oL (by omega)
    obtain ⟨bV, haV, rV⟩ := hm.own.oV (by omega)
    obtain ⟨bS, haS, rS⟩ := hm.own.oSt (by omega)
    obtain ⟨bQ, haQ, rQ⟩ := hm.own.oPS (by omega)
    obtain ⟨bt, ot, hat, hbt, hct⟩ := rt h0
    have lA := hlt _ (.inr (.inr (.inr (.inr (.inr (.inr (.inl haA)))))))
    have lC := hlt _ (.inr (.inr (.inr (.inr (.inr (.inr (.inr (.inl haC))))))))
    have lR := hlt _ (.inr (.inr (.inr (.inr (.inr (.inr (.inr (.inr (.inl haR)))))))))
    have iA := pA _ haA
    have iC := pC _ haC
    have iR := pR _ haR
    dsimp only at lA lC lR iA iC iR
    have hw4 : ∀ k, wr4 x sb k ↔ tri gA gC gR k ∨ k = sb := fun k => by
      unfold wr4 tri
      rw [haA, haC, haR]
      constructor
      · rintro (⟨y, e, f⟩ | ⟨y, e, f⟩ | ⟨y, e, f⟩ | f)
        · cases e; exact .inl (.inl f.symm)
        · cases e; exact .inl (.inr (.inl f.symm))
        · cases e; exact .inl (.inr (.inr f.symm))
        · exact .inr f
      · rintro ((f | f | f) | f)
        · exact .inl ⟨_, rfl, f.symm⟩
        · exact .inr (.inl ⟨_, rfl, f.symm⟩)
        · exact .inr (.inr (.inl ⟨_, rfl, f.symm⟩))
        · exact .inr (.inr (.inr f))
    have hout : ∀ y, still x y → ¬ tri gA gC gR y.block := fun y hy h => hm.stillOut y hy ((hw4 _).2 (.inl h))
    have houtS : ∀ y, still x y → y.block ≠ sb := fun y hy h => hm.stillOut y hy ((hw4 _).2 (.inr h))
    have hgO : ¬ tri gA gC gR gb := fun h => hm.gOut ((hw4 _).2 (.inl h))
    have hsO : ¬ tri gA gC gR sb := by unfold tri; omega
    obtain ⟨W1, hW1⟩ : ∃ W, W = w.setCell ⟨sb, 6, none⟩ (.int .i32 (wrap32 (d.at_ + 1))) := ⟨_, rfl⟩
    have hgc : ∀ i, W1.cell? ⟨gb, i, none⟩ = w.cell? ⟨gb, i, none⟩ := fun i => by rw [hW1]; exact cell_setCell_other (fun h => by rw [Addr.mk.injEq] at h; omega)
    have hsc : ∀ i, i ≠ 6 → W1.cell? ⟨sb, i, none⟩ = w.cell? ⟨sb, i, none⟩ := fun i hi => by rw [hW1]; exact hcell i hi
    have hcf : ∀ b i, b ≠ sb → W1.cell? ⟨b, i, none⟩ = w.cell? ⟨b, i, none⟩ := fun b i hb => by rw [hW1]; exact cell_setCell_other (fun h => hb (by rw [Addr.mk.injEq] at h; exact h.1.symm))
    have sL := houtS _ (.inr (.inr (.inr (.inr (.inl haL)))))
    have sV := houtS _ (.inl haV)
    have sS := houtS _ (.inr (.inr (.inl haS)))
    have sQ := houtS _ (.inr (.inr (.inr (.inr (.inr (.inr (.inl haQ)))))))
    dsimp only at sL sV sS sQ
    have hc0W : Chg (fun k => k = sb) w W1 := by rw [hW1]; exact (Chg.refl (fun k => k = sb) w).setCell (p := ⟨sb, 6, none⟩) (fun _ => rfl) _
    have he : AEnv W1 (mkG d vf dp) sb gb gA gC gR bL bV bS bQ x.cL x.cA x.cC x.cR x.cV x.cSt x.cPS x.aSu d.nSu x.cSu x.aPr d.nPr x.cPr := by
      refine ⟨(hsc 0 (by omega)).trans hm.c0, ?_, ?_, ?_, ?_, ?_, (hsc 8 (by omega)).trans hm.c8, ?_, ?_, (hgc 3).trans hm.g3, fun j hj => ?_, fun j hj => ?_, fun j hj => ?_, fun j hj => ?_, ?_, ?_, hsO, hgO, ?_, ?_, ?_, ?_, ?_, ?_⟩
      · rw [hsc 1 (by omega), hm.c1, haL, eL]; rfl
      · rw [hsc 3 (by omega), hm.c3, haA, eA]; rfl
      · rw [hsc 4 (by omega), hm.c4, haC, eC]; rfl
      · rw [hsc 5 (by omega), hm.c5, haR, eR]; rfl
      · rw [hsc 7 (by omega), hm.c7, haQ, eP]; rfl
      · rw [hgc 0, hm.g0, haV]; rfl
      · rw [hgc 2, hm.g2, haS, eS]; rfl
      · rw [hcf bL j sL]; exact rL.cell (by rw [eL]; exact hj)
      · rw [hcf bV j sV]; exact rV.cell hj
      · rw [hcf bS j sS]
        obtain ⟨b, off, e, hb, hc⟩ := row_toN hst.eS hm.own.oSt.row (by omega)
        rw [haS] at e
        cases e
        have h1 := hc j hj
        rw [Nat.zero_add] at h1
        exact h1
      · rw [hcf bQ j sQ]
        obtain ⟨b, off, e, hb, hc⟩ := row_toN hst.eP hm.own.oPS.row (by omega)
        rw [haQ] at e
        cases e
        have h1 := hc j hj
        rw [Nat.zero_add] at h1
        exact h1
      · exact (part_of hst.eS hm.own.oSu.row).chg hc0W (fun y e => houtS y (.inr (.inr (.inr (.inl e)))))
      · exact (part_of hst.eP hm.own.oPr.row).chg hc0W (fun y e => houtS y (.inr (.inr (.inr (.inr (.inr (.inr (.inr (.inl e)))))))))
      · exact hout _ (.inr (.inr (.inr (.inr (.inl haL)))))
      · exact hout _ (.inl haV)
      · exact hout _ (.inr (.inr (.inl haS)))
      · exact hout _ (.inr (.inr (.inr (.inr (.inr (.inr (.inl haQ)))))))
      · exact fun y e => hout y (.inr (.inr (.inr (.inl e))))
      · exact fun y e => hout y (.inr (.inr (.inr (.inr (.inr (.inr (.inr (.inl e))))))))
    have hbA := hta _ hat
    rw [hw4] at hbA
    dsimp only at hbA
    subst hat
    refine (attract_main w (mkG d vf dp) (stOf d) d.at_ sb gb gA gC gR bL bV bS bQ x.cL x.cA x.cC x.cR x.cV x.cSt x.cPS x.aSu d.nSu x.cSu x.aPr d.nPr x.cPr bt ot nt ct (toN ft) h0 ht (fun i hi => ?_) hbt (fun i hi => ?_) ⟨fun h => hbA (.inl h), fun h => hbA (.inr h)⟩
      (gok_of hs hst hn hm.own.kSu hm.own.kPr vf dp) rfl c6 f6 (by rw [hW1] at he; exact he) ⟨by omega, by omega, by omega⟩ (by rw [eA] at rA; exact rA) (by rw [eC] at rC; exact rC) (by rw [eR] at rR; exact rR)).mono ?_
    · have := htg i hi
      show (ft i).toNat < d.nV
      omega
    · rw [hct i hi]
      have := htg i hi
      have e : ((toN ft i : Nat) : Int) = ft i := by unfold toN; omega
      show some (Value.int .i32 (ft i)) = some (Value.int .i32 ((toN ft i : Nat) : Int))
      rw [e]
    · rintro e w' ⟨rfl, hch, tA, tC, tR⟩
      have hch' : Chg (tri gA gC gR) W1 w' := by rw [hW1]; exact hch
      have hsz : sb < W1.heap.size := by rw [hW1]; simpa using hsb
      have hch2 : Chg (wr4 x sb) w w' := (hc0W.mono (fun k _ e => (hw4 k).2 (.inr e))).trans (hch'.mono (fun k _ e => (hw4 k).2 (.inl e)))
      refine ⟨rfl, ?_, hch2⟩
      refine hm.turn hch2 (fun i hi => (hch'.cell (p := ⟨sb, i, none⟩) hsz hsO).trans (hsc i hi)) ((hch'.cell (p := ⟨sb, 6, none⟩) hsz hsO).trans (by rw [hW1]; exact cell_setCell_same c6)) ((hch'.frozen (p := ⟨sb, 6, none⟩) hsz hsO).trans (by rw [hW1]; exact hfr)) (fun _ => ⟨gA, haA, ?_⟩) (fun _ => ⟨gC, haC, ?_⟩) (fun _ => ⟨gR, haR, ?_⟩)
      · rw [eA]; exact tA
      · rw [eC]; exact tC
      · rw [eR]; exact tR

set_option maxRecDepth 100000 in
set_option maxHeartbeats 8000000 in
theorem zzAttract_any (d : SD) (x : SA) (base sb gb : Nat) (at1 : Option Addr) (nt ct : Nat) (ft : Nat → Int) (vf : Bool) (dp : Int) (w : World) (hs : SSmall d) (hst : StateOk d) (hm : InMem w base d x sb gb) (ht : nt ≤ 1048576)
    (rt : Row w at1 nt (fun i => .int .i32 (ft i))) (htg : ∀ i, i < nt → 0 ≤ ft i ∧ ft i < d.nV) (hta : ∀ y, at1 = some y → ¬ wr4 x sb y.block) :
    Calls Try.prog 12 #[.pointer (some ⟨sb, 0, none⟩), .slice at1 nt ct, .bool vf, .int .i32 dp] w (AttOut w base d x sb gb vf dp ft nt) := by
  have H := hide (attract_any d x base sb gb at1 nt ct ft vf dp w hs hst hm ht rt htg hta)
  clear hs hst hm ht rt htg hta
  go_enter Try.func12, Try.ntmps12
  go_wp2_with fail
  refine (unhide H).mono ?_
  rintro e w' ⟨rfl, h1, h2⟩
  have H1 := hide (And.intro h1 h2)
  clear h1 h2
  go_wp2
  go_ret
  exact ⟨rfl, (unhide H1).1, (unhide H1).2⟩

end Go.Proofs.Qxb6605408a
