import Derived.Test.Qxb6605519aRepWalk
import Derived.Deep.SlicePairs
import Derived.ProofKit
namespace Go.Proofs.Qxb6605519a
open Go.ChangeShapes Go.WideShapes Go.ChangeAt Go.RowKit Go.Maps Go.WideMaps

theorem own : ownKnob Try.prog.godebug = none := by kernel_rfl
theorem cells25 : Try.prog.cellsOf 25 = 2 := by kernel_rfl

theorem W64.of_wf {x : Int} (h : (Lit.int .i64 x).wf = true) : W64 x := by
  have := bounds_i64 h
  exact ⟨this.1, by have := this.2; omega⟩

/-- a slice of pairs that came in -/
theorem open_pairs {H : Type} {enc : TypeId × Value → H} {W : World} {a : Option Addr} {len cap : Nat} {d : DataW H} {p : List MemPlace} (h : DataW.Trod enc Try.prog W 0 (fun _ => true) true 22 (.slice a len cap) d p) :
    len ≤ maxLen ∧ ∃ ps : Nat → Int × Int, PRow W a len ps ∧ AllW len ps := by
  obtain ⟨fuel, hf⟩ := h
  rcases Deep.open_slice_pairs Try.underlying22 Try.underlying25 cells25 rfl rfl cells3 cells3 hf with ⟨hcs, hx⟩ | ⟨x, l, c, m, n, V0, V1, D0, D1, P0, P1, hcs, hb, hl, hm, hmm, hx, hi⟩
  · simp [Value.cells] at hcs
    obtain ⟨rfl, rfl, rfl⟩ := hcs
    exact ⟨Nat.zero_le _, fun _ => (0, 0), fun h => by simp at h, fun j hj => by omega⟩
  · simp [Value.cells] at hcs
    obtain ⟨rfl, rfl, rfl⟩ := hcs
    simp only [if_true] at hmm
    subst hmm
    have each : ∀ i, i < m → ∃ q : Int × Int, V0 i = .int .i64 q.1 ∧ V1 i = .int .i64 q.2 ∧ W64 q.1 ∧ W64 q.2 := by
      intro i hi'
      obtain ⟨_, _, g0, g1⟩ := hi i hi'
      obtain ⟨x0, e0, _, w0⟩ := DataW.trod_int Try.underlying3 g0
      obtain ⟨x1, e1, _, w1⟩ := DataW.trod_int Try.underlying3 g1
      simp only [List.cons.injEq, and_true] at e0 e1
      exact ⟨(x0, x1), e0, e1, W64.of_wf w0, W64.of_wf w1⟩
    obtain ⟨q, hq⟩ := Deep.choose_lt each
    refine ⟨by omega, q, fun h0 => ?_, fun j hj => ⟨(hq j (by omega)).2.2.1, (hq j (by omega)).2.2.2⟩⟩
    have hc0 := (hi 0 (by omega)).1
    obtain ⟨b, off, spot⟩ := x
    have hspot : spot = none := by simpa [Addr.add] using World.cell?_spot hc0
    subst hspot
    have hlt := lt_of_cell hc0
    refine ⟨b, off, rfl, by simpa [Addr.add] using hlt, fun j hj => ?_⟩
    obtain ⟨c0, c1, _, _⟩ := hi j (by omega)
    rw [add_plain] at c0 c1
    rw [(hq j (by omega)).1] at c0
    rw [(hq j (by omega)).2.1] at c1
    exact ⟨c0, by rw [Nat.add_assoc]; exact c1⟩

end Go.Proofs.Qxb6605519a
