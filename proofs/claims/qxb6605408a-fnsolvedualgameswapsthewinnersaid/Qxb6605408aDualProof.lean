import Derived.Test.Qxb6605408aDual
import Derived.Test.Qxb6605408aOpen
namespace Go.Proofs.Qxb6605408a.DualRow
open Go.ChangeShapes Go.WideShapes Go.ChangeAt Go.RowKit
set_option linter.unusedVariables false

theorem rowI_of {H : Type} {enc : TypeId × Value → H} {W : World} {v : Value} {d : DataW H} {p : List MemPlace} (h : DataW.Trod enc Try.prog W 0 (fun _ => true) true 23 v d p) (hv : ∃ a l c, v = .slice a l c) :
    ∃ (a : Option Addr) (len cap : Nat) (f : Nat → Int), v = .slice a len cap ∧ len ≤ maxLen ∧ Row W a len (fun i => .int .i32 (f i)) ∧ I32 f := by
  obtain ⟨a, l, c, rfl⟩ := hv
  obtain ⟨fuel, hf⟩ := h
  exact open_rowI (by simpa [Value.cells] using hf)

set_option maxRecDepth 100000 in
theorem lifted (os : Os) (started : os.Started) (H : Type) (enc : TypeId × Value → H) :
    ReturnsInHanded {} Try.checked os 5 .any (Rows.fnSolveDualGameSwapsTheWinnerSpec.pre6 enc Try.prog Try.f5 Rows.fnSolveDualGameSwapsTheWinnerRow.domain false) (Rows.fnSolveDualGameSwapsTheWinnerSpec.post enc Try.prog Try.f5 false true false false) := by
  refine returnsInHanded_of_change (C := Try.checked) own started (by kernel_rfl) Try.func5
    (ChangeSpec.witness6 (enc := enc) (C := Try.checked) false ⟨#[], #[.agg #[.slice none 0 0, .slice none 0 0, .slice none 0 0, .slice none 0 0, .slice none 0 0, .slice none 0 0, .slice none 0 0, .slice none 0 0, .slice none 0 0, .int .i32 0, .slice none 0 0, .slice none 0 0, .slice none 0 0], .slice none 0 0, .int .i32 0], []⟩ 8 (by kernel_rfl) (by kernel_rfl) (by kernel_rfl) (by kernel_rfl)) ?_
  intro W base args ds gs before hval0 hW hcnd _
  have hval : ∀ (j : Nat) t v, Try.f5.params[j]? = some t → args[j]? = some v → Value.okWide Try.prog W .any base t v := hval0
  have hW' := hW
  obtain ⟨p, q, hA0, hV, rfl, hfz, hnd⟩ := hW
  have hA : DataW.TrodAll enc Try.prog W 0 (fun _ => true) true Try.f5.params.toList args.toList ds p := hA0
  rw [Try.params5] at hA hval
  obtain ⟨v0, vs0, d0, ds0, p0, q0, hargs, rfl, rfl, h0, r0⟩ := trodAll_cons hA
  obtain ⟨v1, vs1, d1, ds1, p1, q1, rfl, rfl, rfl, h1, r1⟩ := trodAll_cons r0
  obtain ⟨v2, vs2, d2, ds2, p2, q2, rfl, rfl, rfl, h2, r2⟩ := trodAll_cons r1
  obtain ⟨rfl, rfl, rfl⟩ := trodAll_nil r2
  obtain rfl : args = #[v0, v1, v2] := by cases args; simp_all
  obtain ⟨rfl, rfl⟩ := trodVars_none hV
  have k0 := h0
  have lt0 : ∀ x ∈ p0, x.block < W.heap.size := by obtain ⟨m, hm⟩ := k0; exact DataW.trod_lt m _ _ _ hm
  obtain ⟨d, x, rfl, hrows, ⟨l0, l1, l2, l3, l4, l5, l6, l7, l8, l9, l10, l11⟩, iP, iSt, iSu, iL, iA, iC, iR, iPS, iPr, iVL, iat⟩ := open_solver (hval 0 25 v0 rfl rfl) h0
  have k1 := h1
  have lt1 : ∀ x ∈ p1, x.block < W.heap.size := by obtain ⟨m, hm⟩ := k1; exact DataW.trod_lt m _ _ _ hm
  obtain ⟨at1, nt, ct, ft, rfl, lt, rt, it⟩ := rowI_of h1 (okWide_slice Try.underlying23 (hval 1 23 v1 rfl rfl))
  obtain ⟨dp, rfl, rfl, rfl, wf3⟩ := open_int Try.underlying21 (hval 2 21 v2 rfl rfl) h2
  clear hA0 hval0
  have hlens : Lens d nt := by
    unfold Lens
    unfold maxLen at l0 l1 l2 l3 l4 l5 l6 l7 l8 l9 l10 l11 lt
    omega
  refine (dual_any d x at1 nt ct ft dp W hrows rt hlens it iSt iSu iPS iPr iP).mono fun e W' ⟨he, bel⟩ => ?_
  subst he
  exact ⟨_, rfl, _, _, _, [], _, [], hW', trodAll_mk1 (shut_bool Try.underlying4 _), (trodAll_cons_mk (Below.trod laidOut (by kernel_rfl) (of_decide_eq_true (by kernel_rfl)) k0 bel lt0) (trodAll_cons_mk (Below.trod laidOut (by kernel_rfl) (of_decide_eq_true (by kernel_rfl)) k1 bel lt1) (trodAll_cons_mk (shut_int Try.underlying21 wf3) trodAll_mk0))), rfl, bel.frame _, fun h => by cases h⟩

theorem over : Rows.fnSolveDualGameSwapsTheWinnerRow.holds Try.pinned (OpenSpec.ofChange Rows.fnSolveDualGameSwapsTheWinnerSpec) :=
  OpenClaim.holds_of_wide 5 Try.f5 rfl rfl rfl rfl rfl rfl rfl ⟨rfl, rfl, rfl, rfl, rfl⟩ rfl rfl rfl rfl rfl (by kernel_rfl) Try.func5 (by kernel_rfl)
    (of_decide_eq_true (by kernel_rfl)) (by unfold Func.isWrapper; first | (rw [if_pos (by decide +kernel)]; kernel_rfl) | (rw [if_neg (by decide +kernel)]; exact ⟨rfl, rfl⟩))
    (fun os started H enc _ => lifted os started H enc)

end Go.Proofs.Qxb6605408a.DualRow

namespace Go.Proofs.Qxb6605408a
theorem fnSolveDualGameSwapsTheWinner_proved : Rows.FnSolveDualGameSwapsTheWinnerSaid := DualRow.over
end Go.Proofs.Qxb6605408a
