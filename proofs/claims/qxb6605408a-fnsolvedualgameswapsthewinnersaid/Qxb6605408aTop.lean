import Derived.Test.Qxb6605408aAtt
import Derived.Test.Qxb6605408aBytes
import Derived.Test.Qxb6605408aTooBig
namespace Go.Proofs.Qxb6605408a
open Go.RowKit
set_option linter.unusedVariables false

/-- the lengths fit an int -/
def Lens (d : SD) (nt : Nat) : Prop := d.nV ≤ 9223372036854775807 ∧ d.nP ≤ 9223372036854775807 ∧ d.nSt ≤ 9223372036854775807 ∧ d.nSu ≤ 9223372036854775807 ∧ d.nL ≤ 9223372036854775807 ∧ d.nW ≤ 9223372036854775807 ∧ d.nA ≤ 9223372036854775807 ∧ d.nC ≤ 9223372036854775807 ∧ d.nR ≤ 9223372036854775807 ∧ d.nPS ≤ 9223372036854775807 ∧ d.nPr ≤ 9223372036854775807 ∧ d.nVL ≤ 9223372036854775807 ∧ nt ≤ 9223372036854775807

/-- the box of a struct of thirteen fields -/
structure Box (w : World) (b : Nat) (d : SD) (x : SA) : Prop where
  c : ∀ i, i < 13 → w.cell? ⟨b, i, none⟩ = (vals d x)[i]?
  f : ∀ i, w.frozen? ⟨b, i, none⟩ = false

theorem Box.below {w w' : World} {b : Nat} {d : SD} {x : SA} (h : Box w b d x) (hb : Below w.heap.size w w') : Box w' b d x := by
  have hlt : b < w.heap.size := by
    have h0 := h.c 0 (by omega)
    exact lt_of_cell (a := ⟨b, 0, none⟩) (v := .slice x.aV d.nV x.cV) h0
  exact ⟨fun i hi => (hb.cell (p := ⟨b, i, none⟩) hlt).trans (h.c i hi), fun i => (hb.frozen (p := ⟨b, i, none⟩) hlt).trans (h.f i)⟩

theorem box_new (w : World) (d : SD) (x : SA) : Box (w.alloc (.cells (vals d x) 25)) w.heap.size d x := by
  refine ⟨fun i hi => ?_, fun i => ?_⟩
  · simp [go_sem]
  · simp [go_sem]

theorem Box.cells {w : World} {b : Nat} {d : SD} {x : SA} (h : Box w b d x) : w.cell? ⟨b, 0, none⟩ = some (.slice x.aV d.nV x.cV) ∧ w.cell? ⟨b, 1, none⟩ = some (.slice x.aP d.nP x.cP) ∧ w.cell? ⟨b, 2, none⟩ = some (.slice x.aSt d.nSt x.cSt) ∧ w.cell? ⟨b, 3, none⟩ = some (.slice x.aSu d.nSu x.cSu) ∧ w.cell? ⟨b, 4, none⟩ = some (.slice x.aL d.nL x.cL) ∧ w.cell? ⟨b, 5, none⟩ = some (.slice x.aW d.nW x.cW) ∧ w.cell? ⟨b, 6, none⟩ = some (.slice x.aA d.nA x.cA) ∧ w.cell? ⟨b, 7, none⟩ = some (.slice x.aC d.nC x.cC) ∧ w.cell? ⟨b, 8, none⟩ = some (.slice x.aR d.nR x.cR) ∧ w.cell? ⟨b, 9, none⟩ = some (.int .i32 d.at_) ∧ w.cell? ⟨b, 10, none⟩ = some (.slice x.aPS d.nPS x.cPS) ∧ w.cell? ⟨b, 11, none⟩ = some (.slice x.aPr d.nPr x.cPr) ∧ w.cell? ⟨b, 12, none⟩ = some (.slice x.aVL d.nVL x.cVL) :=
  ⟨h.c 0 (by omega), h.c 1 (by omega), h.c 2 (by omega), h.c 3 (by omega), h.c 4 (by omega), h.c 5 (by omega), h.c 6 (by omega), h.c 7 (by omega), h.c 8 (by omega), h.c 9 (by omega), h.c 10 (by omega), h.c 11 (by omega), h.c 12 (by omega)⟩
theorem Box.froz {w : World} {b : Nat} {d : SD} {x : SA} (h : Box w b d x) : w.frozen? ⟨b, 0, none⟩ = false ∧ w.frozen? ⟨b, 1, none⟩ = false ∧ w.frozen? ⟨b, 2, none⟩ = false ∧ w.frozen? ⟨b, 3, none⟩ = false ∧ w.frozen? ⟨b, 4, none⟩ = false ∧ w.frozen? ⟨b, 5, none⟩ = false ∧ w.frozen? ⟨b, 6, none⟩ = false ∧ w.frozen? ⟨b, 7, none⟩ = false ∧ w.frozen? ⟨b, 8, none⟩ = false ∧ w.frozen? ⟨b, 9, none⟩ = false ∧ w.frozen? ⟨b, 10, none⟩ = false ∧ w.frozen? ⟨b, 11, none⟩ = false ∧ w.frozen? ⟨b, 12, none⟩ = false :=
  ⟨h.f 0, h.f 1, h.f 2, h.f 3, h.f 4, h.f 5, h.f 6, h.f 7, h.f 8, h.f 9, h.f 10, h.f 11, h.f 12⟩

/-- the box, written over -/
def boxed (w : World) (b : Nat) (d : SD) (x : SA) : World := (((((((((((((w.setCell ⟨b, 0, none⟩ (.slice x.aV d.nV x.cV)).setCell ⟨b, 1, none⟩ (.slice x.aP d.nP x.cP)).setCell ⟨b, 2, none⟩ (.slice x.aSt d.nSt x.cSt)).setCell ⟨b, 3, none⟩ (.slice x.aSu d.nSu x.cSu)).setCell ⟨b, 4, none⟩ (.slice x.aL d.nL x.cL)).setCell ⟨b, 5, none⟩ (.slice x.aW d.nW x.cW)).setCell ⟨b, 6, none⟩ (.slice x.aA d.nA x.cA)).setCell ⟨b, 7, none⟩ (.slice x.aC d.nC x.cC)).setCell ⟨b, 8, none⟩ (.slice x.aR d.nR x.cR)).setCell ⟨b, 9, none⟩ (.int .i32 d.at_)).setCell ⟨b, 10, none⟩ (.slice x.aPS d.nPS x.cPS)).setCell ⟨b, 11, none⟩ (.slice x.aPr d.nPr x.cPr)).setCell ⟨b, 12, none⟩ (.slice x.aVL d.nVL x.cVL))

theorem boxed_box {w : World} {b : Nat} {d : SD} {x y : SA} (h : Box w b d y) : Box (boxed w b d x) b d x := by
  obtain ⟨c0, c1, c2, c3, c4, c5, c6, c7, c8, c9, c10, c11, c12⟩ := h.cells
  have k : ∀ (W : World) (i j : Nat) (u : Value), i ≠ j → (W.setCell ⟨b, i, none⟩ u).cell? ⟨b, j, none⟩ = W.cell? ⟨b, j, none⟩ := fun W i j u hij => cell_setCell_other (fun e => hij (by rw [Addr.mk.injEq] at e; exact e.2.1))
  refine ⟨fun i hi => ?_, fun i => by simp only [boxed, World.frozen?_setCell]; exact h.f i⟩
  have h13 : i = 0 ∨ i = 1 ∨ i = 2 ∨ i = 3 ∨ i = 4 ∨ i = 5 ∨ i = 6 ∨ i = 7 ∨ i = 8 ∨ i = 9 ∨ i = 10 ∨ i = 11 ∨ i = 12 := by omega
  unfold boxed
  rcases h13 with rfl | rfl | rfl | rfl | rfl | rfl | rfl | rfl | rfl | rfl | rfl | rfl | rfl
  · rw [k _ 12 0 _ (by omega), k _ 11 0 _ (by omega), k _ 10 0 _ (by omega), k _ 9 0 _ (by omega), k _ 8 0 _ (by omega), k _ 7 0 _ (by omega), k _ 6 0 _ (by omega), k _ 5 0 _ (by omega), k _ 4 0 _ (by omega), k _ 3 0 _ (by omega), k _ 2 0 _ (by omega), k _ 1 0 _ (by omega)]; exact cell_setCell_same (u := .slice y.aV d.nV y.cV) (by exact c0)
  · rw [k _ 12 1 _ (by omega), k _ 11 1 _ (by omega), k _ 10 1 _ (by omega), k _ 9 1 _ (by omega), k _ 8 1 _ (by omega), k _ 7 1 _ (by omega), k _ 6 1 _ (by omega), k _ 5 1 _ (by omega), k _ 4 1 _ (by omega), k _ 3 1 _ (by omega), k _ 2 1 _ (by omega)]; exact cell_setCell_same (u := .slice y.aP d.nP y.cP) (by rw [k _ 0 1 _ (by omega)]; exact c1)
  · rw [k _ 12 2 _ (by omega), k _ 11 2 _ (by omega), k _ 10 2 _ (by omega), k _ 9 2 _ (by omega), k _ 8 2 _ (by omega), k _ 7 2 _ (by omega), k _ 6 2 _ (by omega), k _ 5 2 _ (by omega), k _ 4 2 _ (by omega), k _ 3 2 _ (by omega)]; exact cell_setCell_same (u := .slice y.aSt d.nSt y.cSt) (by rw [k _ 1 2 _ (by omega), k _ 0 2 _ (by omega)]; exact c2)
  · rw [k _ 12 3 _ (by omega), k _ 11 3 _ (by omega), k _ 10 3 _ (by omega), k _ 9 3 _ (by omega), k _ 8 3 _ (by omega), k _ 7 3 _ (by omega), k _ 6 3 _ (by omega), k _ 5 3 _ (by omega), k _ 4 3 _ (by omega)]; exact cell_setCell_same (u := .slice y.aSu d.nSu y.cSu) (by rw [k _ 2 3 _ (by omega), k _ 1 3 _ (by omega), k _ 0 3 _ (by omega)]; exact c3)
  · rw [k _ 12 4 _ (by omega), k _ 11 4 _ (by omega), k _ 10 4 _ (by omega), k _ 9 4 _ (by omega), k _ 8 4 _ (by omega), k _ 7 4 _ (by omega), k _ 6 4 _ (by omega), k _ 5 4 _ (by omega)]; exact cell_setCell_same (u := .slice y.aL d.nL y.cL) (by rw [k _ 3 4 _ (by omega), k _ 2 4 _ (by omega), k _ 1 4 _ (by omega), k _ 0 4 _ (by omega)]; exact c4)
  · rw [k _ 12 5 _ (by omega), k _ 11 5 _ (by omega), k _ 10 5 _ (by omega), k _ 9 5 _ (by omega), k _ 8 5 _ (by omega), k _ 7 5 _ (by omega), k _ 6 5 _ (by omega)]; exact cell_setCell_same (u := .slice y.aW d.nW y.cW) (by rw [k _ 4 5 _ (by omega), k _ 3 5 _ (by omega), k _ 2 5 _ (by omega), k _ 1 5 _ (by omega), k _ 0 5 _ (by omega)]; exact c5)
  · rw [k _ 12 6 _ (by omega), k _ 11 6 _ (by omega), k _ 10 6 _ (by omega), k _ 9 6 _ (by omega), k _ 8 6 _ (by omega), k _ 7 6 _ (by omega)]; exact cell_setCell_same (u := .slice y.aA d.nA y.cA) (by rw [k _ 5 6 _ (by omega), k _ 4 6 _ (by omega), k _ 3 6 _ (by omega), k _ 2 6 _ (by omega), k _ 1 6 _ (by omega), k _ 0 6 _ (by omega)]; exact c6)
  · rw [k _ 12 7 _ (by omega), k _ 11 7 _ (by omega), k _ 10 7 _ (by omega), k _ 9 7 _ (by omega), k _ 8 7 _ (by omega)]; exact cell_setCell_same (u := .slice y.aC d.nC y.cC) (by rw [k _ 6 7 _ (by omega), k _ 5 7 _ (by omega), k _ 4 7 _ (by omega), k _ 3 7 _ (by omega), k _ 2 7 _ (by omega), k _ 1 7 _ (by omega), k _ 0 7 _ (by omega)]; exact c7)
  · rw [k _ 12 8 _ (by omega), k _ 11 8 _ (by omega), k _ 10 8 _ (by omega), k _ 9 8 _ (by omega)]; exact cell_setCell_same (u := .slice y.aR d.nR y.cR) (by rw [k _ 7 8 _ (by omega), k _ 6 8 _ (by omega), k _ 5 8 _ (by omega), k _ 4 8 _ (by omega), k _ 3 8 _ (by omega), k _ 2 8 _ (by omega), k _ 1 8 _ (by omega), k _ 0 8 _ (by omega)]; exact c8)
  · rw [k _ 12 9 _ (by omega), k _ 11 9 _ (by omega), k _ 10 9 _ (by omega)]; exact cell_setCell_same (u := .int .i32 d.at_) (by rw [k _ 8 9 _ (by omega), k _ 7 9 _ (by omega), k _ 6 9 _ (by omega), k _ 5 9 _ (by omega), k _ 4 9 _ (by omega), k _ 3 9 _ (by omega), k _ 2 9 _ (by omega), k _ 1 9 _ (by omega), k _ 0 9 _ (by omega)]; exact c9)
  · rw [k _ 12 10 _ (by omega), k _ 11 10 _ (by omega)]; exact cell_setCell_same (u := .slice y.aPS d.nPS y.cPS) (by rw [k _ 9 10 _ (by omega), k _ 8 10 _ (by omega), k _ 7 10 _ (by omega), k _ 6 10 _ (by omega), k _ 5 10 _ (by omega), k _ 4 10 _ (by omega), k _ 3 10 _ (by omega), k _ 2 10 _ (by omega), k _ 1 10 _ (by omega), k _ 0 10 _ (by omega)]; exact c10)
  · rw [k _ 12 11 _ (by omega)]; exact cell_setCell_same (u := .slice y.aPr d.nPr y.cPr) (by rw [k _ 10 11 _ (by omega), k _ 9 11 _ (by omega), k _ 8 11 _ (by omega), k _ 7 11 _ (by omega), k _ 6 11 _ (by omega), k _ 5 11 _ (by omega), k _ 4 11 _ (by omega), k _ 3 11 _ (by omega), k _ 2 11 _ (by omega), k _ 1 11 _ (by omega), k _ 0 11 _ (by omega)]; exact c11)
  · exact cell_setCell_same (u := .slice y.aVL d.nVL y.cVL) (by rw [k _ 11 12 _ (by omega), k _ 10 12 _ (by omega), k _ 9 12 _ (by omega), k _ 8 12 _ (by omega), k _ 7 12 _ (by omega), k _ 6 12 _ (by omega), k _ 5 12 _ (by omega), k _ 4 12 _ (by omega), k _ 3 12 _ (by omega), k _ 2 12 _ (by omega), k _ 1 12 _ (by omega), k _ 0 12 _ (by omega)]; exact c12)

theorem boxed_chg (w : World) (b : Nat) (d : SD) (x : SA) : Chg (fun k => k = b) w (boxed w b d x) :=
  (((((((((((((Chg.refl (fun k => k = b) w).setCell (p := ⟨b, 0, none⟩) (fun _ => rfl) _).setCell (p := ⟨b, 1, none⟩) (fun _ => rfl) _).setCell (p := ⟨b, 2, none⟩) (fun _ => rfl) _).setCell (p := ⟨b, 3, none⟩) (fun _ => rfl) _).setCell (p := ⟨b, 4, none⟩) (fun _ => rfl) _).setCell (p := ⟨b, 5, none⟩) (fun _ => rfl) _).setCell (p := ⟨b, 6, none⟩) (fun _ => rfl) _).setCell (p := ⟨b, 7, none⟩) (fun _ => rfl) _).setCell (p := ⟨b, 8, none⟩) (fun _ => rfl) _).setCell (p := ⟨b, 9, none⟩) (fun _ => rfl) _).setCell (p := ⟨b, 10, none⟩) (fun _ => rfl) _).setCell (p := ⟨b, 11, none⟩) (fun _ => rfl) _).setCell (p := ⟨b, 12, none⟩) (fun _ => rfl) _

theorem SOwn.low {w : World} {base : Nat} {d : SD} {x : SA} (h : SOwn w base d x) : ∀ y, isField x y → base ≤ y.block := by
  obtain ⟨h0, h1, h2, h3, h4, h5, h6, h7, h8, h9, h10, h11, h12, b0, b1, b2, b3, b4, b5, b6, b7, b8, b9, b10, b11, b12, b13, p1, p2, p3, p4, p5, p6, p7, p8, p9, p10, p11, p12⟩ := h.chain
  intro y hy
  rcases hy with e | e | e | e | e | e | e | e | e | e | e | e
  · have := p1 y e; omega
  · have := p2 y e; omega
  · have := p3 y e; omega
  · have := p4 y e; omega
  · have := p5 y e; omega
  · have := p6 y e; omega
  · have := p7 y e; omega
  · have := p8 y e; omega
  · have := p9 y e; omega
  · have := p10 y e; omega
  · have := p11 y e; omega
  · have := p12 y e; omega

theorem SOwn.chg {w w' : World} {base : Nat} {d : SD} {x : SA} {S : Nat → Prop} (h : SOwn w base d x) (hc : Chg S w w') (hs : ∀ y, isField x y → ¬ S y.block) : SOwn w' base d x := by
  obtain ⟨h0, h1, h2, h3, h4, h5, h6, h7, h8, h9, h10, h11, h12, b0, b1, b2, b3, b4, b5, b6, b7, b8, b9, b10, b11, b12, b13, pp⟩ := h.chain
  exact ⟨h.oV.chg hc (fun y e => hs y (.inl e)), h.oP.chg hc (fun y e => hs y (.inr (.inl e))), h.oSt.chg hc (fun y e => hs y (.inr (.inr (.inl e)))), h.oSu.chg hc (fun y e => hs y (.inr (.inr (.inr (.inl e))))), h.oL.chg hc (fun y e => hs y (.inr (.inr (.inr (.inr (.inl e)))))), h.oW.chg hc (fun y e => hs y (.inr (.inr (.inr (.inr (.inr (.inl e))))))), h.oA.chg hc (fun y e => hs y (.inr (.inr (.inr (.inr (.inr (.inr (.inl e)))))))), h.oC.chg hc (fun y e => hs y (.inr (.inr (.inr (.inr (.inr (.inr (.inr (.inl e))))))))), h.oR.chg hc (fun y e => hs y (.inr (.inr (.inr (.inr (.inr (.inr (.inr (.inr (.inl e)))))))))), h.oPS.chg hc (fun y e => hs y (.inr (.inr (.inr (.inr (.inr (.inr (.inr (.inr (.inr (.inl e))))))))))), h.oPr.chg hc (fun y e => hs y (.inr (.inr (.inr (.inr (.inr (.inr (.inr (.inr (.inr (.inr (.inl e)))))))))))), h.oVL.chg hc (fun y e => hs y (.inr (.inr (.inr (.inr (.inr (.inr (.inr (.inr (.inr (.inr (.inr e)))))))))))),
    h.kV, h.kP, h.kSt, h.kSu, h.kL, h.kW, h.kA, h.kC, h.kR, h.kPS, h.kPr, h.kVL, h0, h1, h2, h3, h4, h5, h6, h7, h8, h9, h10, h11, h12, b0, b1, b2, b3, b4, b5, b6, b7, b8, b9, b10, b11, b12, Nat.le_trans b13 hc.size, pp⟩

theorem Box.lt {w : World} {b : Nat} {d : SD} {x : SA} (h : Box w b d x) : b < w.heap.size := lt_of_cell (a := ⟨b, 0, none⟩) (h.c 0 (by omega))
theorem Box.chg {w w' : World} {b : Nat} {d : SD} {x : SA} {S : Nat → Prop} (h : Box w b d x) (hc : Chg S w w') (hs : ¬ S b) : Box w' b d x :=
  ⟨fun i hi => (hc.cell (p := ⟨b, i, none⟩) h.lt hs).trans (h.c i hi), fun i => (hc.frozen (p := ⟨b, i, none⟩) h.lt hs).trans (h.f i)⟩

/-- nothing below B has turned: as a Below -/
theorem Chg.toBelow {S : Nat → Prop} {w w' : World} {B : Nat} (h : Chg S w w') (hB : B ≤ w.heap.size) (hs : ∀ k, S k → B ≤ k) : Below B w w' := h.below hB hs

end Go.Proofs.Qxb6605408a
