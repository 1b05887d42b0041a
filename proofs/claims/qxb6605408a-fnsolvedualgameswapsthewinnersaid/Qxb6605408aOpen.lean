import Derived.Test.Qxb6605408aTop
import Derived.ProofKit
import Derived.OpenShut
import Derived.ChangeOld
import Derived.ChangeSlices
import Derived.Deep.Slices
import Derived.Deep.Grids
namespace Go.Proofs.Qxb6605408a
open Go.ChangeShapes Go.WideShapes Go.ChangeAt Go.RowKit
set_option linter.unusedVariables false

theorem own : ownKnob Try.prog.godebug = none := by kernel_rfl
theorem laidOut : laidOutB Try.prog = true := by kernel_rfl
theorem cells25 : Try.prog.cellsOf 25 = 13 := by kernel_rfl
theorem cells21 : Try.prog.cellsOf 21 = 1 := by kernel_rfl
theorem cells22 : Try.prog.cellsOf 22 = 1 := by kernel_rfl
theorem cells23 : Try.prog.cellsOf 23 = 1 := by kernel_rfl
theorem cells4 : Try.prog.cellsOf 4 = 1 := by kernel_rfl

theorem wf32 {x : Int} (h : (Lit.int .i32 x).wf = true) : -2147483648 ≤ x ∧ x ≤ 2147483647 := by
  have := bounds_i32 h
  omega

/-- a slice of int32 that came in -/
theorem open_rowI {H : Type} {enc : TypeId × Value → H} {W : World} {n : Nat} {v : Value} {y : DataW H × List MemPlace} (h : DataW.trod enc Try.prog W 0 (fun _ => true) true n 23 [v] = some y) :
    ∃ (a : Option Addr) (len cap : Nat) (f : Nat → Int), v = .slice a len cap ∧ len ≤ maxLen ∧ Row W a len (fun i => .int .i32 (f i)) ∧ I32 f := by
  rcases open_ints Try.underlying23 Try.underlying21 cells21 h with ⟨hcs, hx⟩ | ⟨x, l, c, zs, hcs, _, hl, hm, hz, hx, hcell, hws⟩
  · simp at hcs
    exact ⟨none, 0, 0, fun _ => 0, hcs, Nat.zero_le _, fun h => by omega, fun i => by simp⟩
  · simp at hcs
    simp only [if_true] at hz
    refine ⟨some x, l, c, fun i => zs.getD i 0, hcs, by omega, fun h0 => ?_, fun i => ?_⟩
    · have hl0 : 0 < zs.length := by omega
      obtain ⟨b, off, spot⟩ := x
      have hspot : spot = none := by simpa [Addr.add] using World.cell?_spot (hcell 0 hl0)
      subst hspot
      refine ⟨b, off, rfl, ?_, fun j hj => ?_⟩
      · have := lt_of_cell (hcell 0 hl0)
        simpa [Addr.add] using this
      · have := hcell j (by omega)
        rw [add_plain] at this
        exact this
    · by_cases hi : i < zs.length
      · have h1 := wf32 (hws zs[i] (List.getElem_mem hi))
        simp only [List.getD_eq_getElem?_getD, List.getElem?_eq_getElem hi, Option.getD_some]
        exact h1
      · simp only [List.getD_eq_getElem?_getD, List.getElem?_eq_none (Nat.le_of_not_lt hi), Option.getD_none]
        omega

/-- a slice of bools that came in -/
theorem open_rowB {H : Type} {enc : TypeId × Value → H} {W : World} {n : Nat} {v : Value} {y : DataW H × List MemPlace} (h : DataW.trod enc Try.prog W 0 (fun _ => true) true n 22 [v] = some y) :
    ∃ (a : Option Addr) (len cap : Nat) (f : Nat → Bool), v = .slice a len cap ∧ len ≤ maxLen ∧ Row W a len (fun i => .bool (f i)) := by
  rcases Deep.open_bools Try.underlying22 Try.underlying4 cells4 h with ⟨hcs, hx⟩ | ⟨x, l, c, B, hcs, _, hl, hm, hx, hcell⟩
  · simp at hcs
    exact ⟨none, 0, 0, fun _ => false, hcs, Nat.zero_le _, fun h => by omega⟩
  · simp at hcs
    refine ⟨some x, l, c, B, hcs, by omega, fun h0 => ?_⟩
    obtain ⟨b, off, spot⟩ := x
    have hspot : spot = none := by simpa [Addr.add] using World.cell?_spot (hcell 0 (by omega))
    subst hspot
    refine ⟨b, off, rfl, ?_, fun j hj => ?_⟩
    · have := lt_of_cell (hcell 0 (by omega))
      simpa [Addr.add] using this
    · have := hcell j (by omega)
      rw [add_plain] at this
      exact this

theorem array13 {α : Type} {cs : Array α} (h : cs.size = 13) : ∃ c0 c1 c2 c3 c4 c5 c6 c7 c8 c9 c10 c11 c12, cs = #[c0, c1, c2, c3, c4, c5, c6, c7, c8, c9, c10, c11, c12] := by
  obtain ⟨l⟩ := cs
  match l, h with
  | [c0, c1, c2, c3, c4, c5, c6, c7, c8, c9, c10, c11, c12], _ => exact ⟨c0, c1, c2, c3, c4, c5, c6, c7, c8, c9, c10, c11, c12, rfl⟩
theorem list13 {α : Type} {cs : List α} (h : cs.length = 13) : ∃ c0 c1 c2 c3 c4 c5 c6 c7 c8 c9 c10 c11 c12, cs = [c0, c1, c2, c3, c4, c5, c6, c7, c8, c9, c10, c11, c12] := by
  match cs, h with
  | [c0, c1, c2, c3, c4, c5, c6, c7, c8, c9, c10, c11, c12], _ => exact ⟨c0, c1, c2, c3, c4, c5, c6, c7, c8, c9, c10, c11, c12, rfl⟩

theorem trod_fields {H : Type} {enc : TypeId × Value → H} {W : World} {fuel : Nat} {c0 c1 c2 c3 c4 c5 c6 c7 c8 c9 c10 c11 c12 : Value} {x : DataW H × List MemPlace} (hf : DataW.trod enc Try.prog W 0 (fun _ => true) true fuel 25 [c0, c1, c2, c3, c4, c5, c6, c7, c8, c9, c10, c11, c12] = some x) :
    ∃ (n : Nat) (y0 y1 y2 y3 y4 y5 y6 y7 y8 y9 y10 y11 y12 : DataW H × List MemPlace), DataW.trod enc Try.prog W 0 (fun _ => true) true n 22 [c0] = some y0 ∧ DataW.trod enc Try.prog W 0 (fun _ => true) true n 23 [c1] = some y1 ∧ DataW.trod enc Try.prog W 0 (fun _ => true) true n 23 [c2] = some y2 ∧ DataW.trod enc Try.prog W 0 (fun _ => true) true n 23 [c3] = some y3 ∧ DataW.trod enc Try.prog W 0 (fun _ => true) true n 23 [c4] = some y4 ∧ DataW.trod enc Try.prog W 0 (fun _ => true) true n 22 [c5] = some y5 ∧ DataW.trod enc Try.prog W 0 (fun _ => true) true n 23 [c6] = some y6 ∧ DataW.trod enc Try.prog W 0 (fun _ => true) true n 23 [c7] = some y7 ∧ DataW.trod enc Try.prog W 0 (fun _ => true) true n 23 [c8] = some y8 ∧ DataW.trod enc Try.prog W 0 (fun _ => true) true n 21 [c9] = some y9 ∧ DataW.trod enc Try.prog W 0 (fun _ => true) true n 23 [c10] = some y10 ∧ DataW.trod enc Try.prog W 0 (fun _ => true) true n 23 [c11] = some y11 ∧ DataW.trod enc Try.prog W 0 (fun _ => true) true n 23 [c12] = some y12 := by
  obtain ⟨xs, n, _, hx, hl, hlen, hf⟩ := DataW.trod_struct Try.underlying25 hf
  obtain ⟨y0, y1, y2, y3, y4, y5, y6, y7, y8, y9, y10, y11, y12, rfl⟩ := list13 (hlen.trans (by rfl))
  refine ⟨n, y0, y1, y2, y3, y4, y5, y6, y7, y8, y9, y10, y11, y12, by simpa [cells21, cells22, cells23] using hf 0 _ rfl, by simpa [cells21, cells22, cells23] using hf 1 _ rfl, by simpa [cells21, cells22, cells23] using hf 2 _ rfl, by simpa [cells21, cells22, cells23] using hf 3 _ rfl, by simpa [cells21, cells22, cells23] using hf 4 _ rfl, by simpa [cells21, cells22, cells23] using hf 5 _ rfl, by simpa [cells21, cells22, cells23] using hf 6 _ rfl, by simpa [cells21, cells22, cells23] using hf 7 _ rfl, by simpa [cells21, cells22, cells23] using hf 8 _ rfl, by simpa [cells21, cells22, cells23] using hf 9 _ rfl, by simpa [cells21, cells22, cells23] using hf 10 _ rfl, by simpa [cells21, cells22, cells23] using hf 11 _ rfl, by simpa [cells21, cells22, cells23] using hf 12 _ rfl⟩

theorem open_solver {H : Type} {enc : TypeId × Value → H} {W : World} {r : Reach} {b0 : Nat} {v : Value} {dd : DataW H} {p : List MemPlace} (hv : Value.okWide Try.prog W r b0 25 v) (h : DataW.Trod enc Try.prog W 0 (fun _ => true) true 25 v dd p) :
    ∃ (d : SD) (x : SA), v = .agg (vals d x) ∧ SRows W d x ∧ (d.nV ≤ maxLen ∧ d.nP ≤ maxLen ∧ d.nSt ≤ maxLen ∧ d.nSu ≤ maxLen ∧ d.nL ≤ maxLen ∧ d.nW ≤ maxLen ∧ d.nA ≤ maxLen ∧ d.nC ≤ maxLen ∧ d.nR ≤ maxLen ∧ d.nPS ≤ maxLen ∧ d.nPr ≤ maxLen ∧ d.nVL ≤ maxLen) ∧ I32 d.fP ∧ I32 d.fSt ∧ I32 d.fSu ∧ I32 d.fL ∧ I32 d.fA ∧ I32 d.fC ∧ I32 d.fR ∧ I32 d.fPS ∧ I32 d.fPr ∧ I32 d.fVL ∧ (-2147483648 ≤ d.at_ ∧ d.at_ ≤ 2147483647) := by
  obtain ⟨cs, rfl, hsz⟩ := okWide_struct Try.underlying25 hv
  obtain ⟨c0, c1, c2, c3, c4, c5, c6, c7, c8, c9, c10, c11, c12, rfl⟩ := array13 (hsz.trans cells25)
  obtain ⟨fuel, hf⟩ := h
  obtain ⟨n, y0, y1, y2, y3, y4, y5, y6, y7, y8, y9, y10, y11, y12, h0, h1, h2, h3, h4, h5, h6, h7, h8, h9, h10, h11, h12⟩ := trod_fields (by simpa [Value.cells] using hf)
  obtain ⟨aV, nV, kV, fV, rfl, lV, rV⟩ := open_rowB h0
  obtain ⟨aP, nP, kP, fP, rfl, lP, rP, iP⟩ := open_rowI h1
  obtain ⟨aSt, nSt, kSt, fSt, rfl, lSt, rSt, iSt⟩ := open_rowI h2
  obtain ⟨aSu, nSu, kSu, fSu, rfl, lSu, rSu, iSu⟩ := open_rowI h3
  obtain ⟨aL, nL, kL, fL, rfl, lL, rL, iL⟩ := open_rowI h4
  obtain ⟨aW, nW, kW, fW, rfl, lW, rW⟩ := open_rowB h5
  obtain ⟨aA, nA, kA, fA, rfl, lA, rA, iA⟩ := open_rowI h6
  obtain ⟨aC, nC, kC, fC, rfl, lC, rC, iC⟩ := open_rowI h7
  obtain ⟨aR, nR, kR, fR, rfl, lR, rR, iR⟩ := open_rowI h8
  obtain ⟨at_, e9, _, wf9⟩ := DataW.trod_int Try.underlying21 h9
  simp only [List.cons.injEq, and_true] at e9
  subst e9
  obtain ⟨aPS, nPS, kPS, fPS, rfl, lPS, rPS, iPS⟩ := open_rowI h10
  obtain ⟨aPr, nPr, kPr, fPr, rfl, lPr, rPr, iPr⟩ := open_rowI h11
  obtain ⟨aVL, nVL, kVL, fVL, rfl, lVL, rVL, iVL⟩ := open_rowI h12
  refine ⟨⟨nV, fV, nP, fP, nSt, fSt, nSu, fSu, nL, fL, nW, fW, nA, fA, nC, fC, nR, fR, at_, nPS, fPS, nPr, fPr, nVL, fVL⟩, ⟨aV, kV, aP, kP, aSt, kSt, aSu, kSu, aL, kL, aW, kW, aA, kA, aC, kC, aR, kR, aPS, kPS, aPr, kPr, aVL, kVL⟩, rfl, ⟨rV, rP, rSt, rSu, rL, rW, rA, rC, rR, rPS, rPr, rVL⟩, ⟨lV, lP, lSt, lSu, lL, lW, lA, lC, lR, lPS, lPr, lVL⟩, iP, iSt, iSu, iL, iA, iC, iR, iPS, iPr, iVL, wf32 wf9⟩

end Go.Proofs.Qxb6605408a
