import Derived.Test.Qxb6605408aTop
import Derived.Lib.SmallJoins
namespace Go.Proofs.Qxb6605408a
open Go.RowKit
set_option linter.unusedVariables false

/-- some number -/
def SomeInt (e : Ending) : Prop := ∃ z : Int, e = .returned (.int .i64 z)

set_option maxRecDepth 100000 in
set_option maxHeartbeats 4000000 in
theorem calls_any (m n : Nat) (w : World) (hm : m ≤ 1048576) (hn : n ≤ 1048576) : Calls Try.prog 25 #[.int .i64 m, .int .i64 n] w fun e w' => SomeInt e ∧ w' = w := by
  by_cases h0 : m = 0
  · subst h0
    go_enter Try.func25, Try.ntmps25
    go_wp2
    go_ret
    exact ⟨⟨_, rfl⟩, rfl⟩
  · have d0 : ((m : Int) == 0) = false := by rw [beq_eq_false_iff_ne]; omega
    go_enter Try.func25, Try.ntmps25
    go_wp2
    go_loop [5, 6] (fun b j => ∃ (z : Int) (i : Nat), b = .int .i64 z ∧ j = .int .i64 i ∧ i ≤ n + 2) (fun _ j => n + 2 - (intOf j).toNat)
    case atStart => exact ⟨1, 2, rfl, rfl, by omega⟩
    case round =>
      obtain ⟨z, i, rfl, rfl, hi⟩ := hrel
      by_cases hl : i ≤ n
      · have hli : (i : Int) ≤ (n : Int) := by omega
        go_wp2
        · go_ret
          exact ⟨⟨_, rfl⟩, rfl⟩
        · go_round
          case rel => exact ⟨_, i + 1, rfl, by go_num, by omega⟩
          case measure => simp [intOf]; omega
      · have hli : ¬ (i : Int) ≤ (n : Int) := by omega
        go_wp2
        go_ret
        exact ⟨⟨_, rfl⟩, rfl⟩

set_option maxRecDepth 100000 in
set_option maxHeartbeats 4000000 in
theorem noTop_any (d : SD) (x : SA) (at1 : Option Addr) (nt ct : Nat) (ft : Nat → Int) (w : World) (hr : SRows w d x) (hs : SSmall d) (hnt : nt ≤ 1048576) (rt : Row w at1 nt (fun i => .int .i32 (ft i))) (hP : d.nP = d.nV) (htg : ∀ i, i < nt → 0 ≤ ft i ∧ ft i < d.nV) :
    Calls Try.prog 20 #[.agg (vals d x), .slice at1 nt ct] w fun e w' => Says (∀ i, i < nt → d.fP (ft i).toNat ≠ 2147483647) e ∧ Below w.heap.size w w' := by
  show Calls Try.prog 20 #[.agg #[.slice x.aV d.nV x.cV, .slice x.aP d.nP x.cP, .slice x.aSt d.nSt x.cSt, .slice x.aSu d.nSu x.cSu, .slice x.aL d.nL x.cL, .slice x.aW d.nW x.cW, .slice x.aA d.nA x.cA, .slice x.aC d.nC x.cC, .slice x.aR d.nR x.cR, .int .i32 d.at_, .slice x.aPS d.nPS x.cPS, .slice x.aPr d.nPr x.cPr, .slice x.aVL d.nVL x.cVL], .slice at1 nt ct] w _
  obtain ⟨W0, hW0⟩ : ∃ W, W = w.alloc (.cells (vals d x) 25) := ⟨_, rfl⟩
  have hb0 : Below w.heap.size w W0 := by rw [hW0]; exact (Below.refl _ _).alloc (Nat.le_refl _) _
  have hbx : Box W0 w.heap.size d x := by rw [hW0]; exact box_new w d x
  have HRP := hide (hr.rP.below hb0)
  have HT := hide (rt.below hb0)
  have HTG := hide htg
  have HB0 := hide hb0
  have c1 : W0.cell? ⟨w.heap.size, 1, none⟩ = some (.slice x.aP d.nP x.cP) := hbx.c 1 (by omega)
  have HC1 := hide c1
  have HNP := hide hP
  simp only [vals] at hW0
  clear hr hs rt htg hb0 hbx hP c1
  go_enter Try.func20, Try.ntmps20
  go_wp2
  rw [← hW0]
  clear hW0
  go_loop [9] (fun i => ∃ n : Nat, n ≤ nt ∧ i = .int .i64 n ∧ Hid (∀ i, i < n → d.fP (ft i).toNat ≠ 2147483647)) (fun i => nt - (intOf i).toNat)
  case atStart => exact ⟨0, Nat.zero_le _, rfl, fun i hi => by omega⟩
  case round =>
    obtain ⟨n, hn, rfl, HN⟩ := hrel
    by_cases hl : n < nt
    · obtain ⟨bt, ot, hat, hbt, hct⟩ := unhide HT (by omega)
      obtain ⟨q, hq⟩ : ∃ q : Nat, ft n = q := ⟨(ft n).toNat, by have := (unhide HTG n hl).1; omega⟩
      have hqn : q < d.nP := by have := (unhide HTG n hl).2; have := unhide HNP; omega
      obtain ⟨bp, op, hap, hbp, hcp⟩ := unhide HRP (by omega)
      have cT : W0.cell? ⟨bt, ot + n, none⟩ = some (.int .i32 (q : Nat)) := by rw [← hq]; exact hct n hl
      have cP : W0.cell? ⟨bp, op + q, none⟩ = some (.int .i32 (d.fP q)) := hcp q hqn
      have k1 : W0.cell? ⟨w.heap.size, 1, none⟩ = some (.slice (some ⟨bp, op, none⟩) d.nP x.cP) := by rw [← hap]; exact unhide HC1
      have hni : (n : Int) < (nt : Int) := by omega
      have hqi : (q : Int) < (d.nP : Int) := by omega
      have HQ := hide hq
      clear hq hct hcp hap
      subst hat
      by_cases kk : d.fP q = 2147483647
      · have dk : (d.fP q == 2147483647) = true := by rw [beq_iff_eq]; exact kk
        clear kk
        go_wp2
        go_ret
        exact ⟨says_no _, unhide HB0⟩
      · have dk : (d.fP q == 2147483647) = false := by rw [beq_eq_false_iff_ne]; exact kk
        have HK := hide kk
        clear kk
        go_wp2
        go_round
        case rel => exact ⟨n + 1, by omega, by go_num, fun i hi => by
          by_cases e : i = n
          · subst e; rw [unhide HQ]; simpa using unhide HK
          · exact unhide HN i (by omega)⟩
        case measure => simp [intOf]; omega
    · have hne : n = nt := by omega
      subst hne
      go_wp2
      go_ret
      exact ⟨says_yes (unhide HN), unhide HB0⟩

/-- a store into a row of the call's own -/
theorem own_store {w : World} {B n g cap j : Nat} {u : Value} {xs : List Value} (h : w.ownsRow B 21 1 (.slice (some ⟨g, 0, none⟩) n cap) n xs) (hj : j < n) : (w.setCell ⟨g, j, none⟩ u).ownsRow B 21 1 (.slice (some ⟨g, 0, none⟩) n cap) n (xs.set j u) := by
  obtain ⟨h1, h2⟩ := h
  refine ⟨by rw [List.length_set]; exact h1, ?_⟩
  rcases h2 with ⟨h3, _⟩ | ⟨g', cap', cur, hv, hg, hh, hc1, hc2, hc3, hc4⟩
  · cases h3
  · injection hv with e1 e2 e3
    injection e1 with e1
    have e4 : g = g' := by injection e1
    subst e4
    subst e3
    refine .inr ⟨g, cap, cur.setIfInBounds j u, rfl, hg, Joins.block_setCell hh u, hc1, hc2, by simpa using hc3, ?_⟩
    rw [Array.toList_setIfInBounds, List.take_set, hc4]

end Go.Proofs.Qxb6605408a
