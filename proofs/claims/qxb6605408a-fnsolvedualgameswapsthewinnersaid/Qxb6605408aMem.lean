import Derived.Test.Qxb6605408aReady
import Derived.Test.Qxb6605408aPlain
namespace Go.Proofs.Qxb6605408a
open Go.RowKit
set_option linter.unusedVariables false

/-- the game that an attract over the fields d works over -/
def mkG (d : SD) (vf : Bool) (dp : Int) : G := ⟨d.nV, d.fV, d.fL, toN d.fSt, toN d.fSu, toN d.fPS, toN d.fPr, vf, dp, wrap32 (d.at_ + 1)⟩
def stOf (d : SD) : ST := ⟨d.fA, d.fC, d.fR, []⟩
def attS (d : SD) (vf : Bool) (dp : Int) (ft : Nat → Int) (nt : Nat) : ST := attractF (mkG d vf dp) (toN ft) nt (stOf d)
/-- the fields behind an attract -/
def aft (d : SD) (vf : Bool) (dp : Int) (ft : Nat → Int) (nt : Nat) : SD := { d with at_ := wrap32 (d.at_ + 1), fA := (attS d vf dp ft nt).att, fC := (attS d vf dp ft nt).cnt, fR := (attS d vf dp ft nt).rem }

def isField (x : SA) (y : Addr) : Prop := x.aV = some y ∨ x.aP = some y ∨ x.aSt = some y ∨ x.aSu = some y ∨ x.aL = some y ∨ x.aW = some y ∨ x.aA = some y ∨ x.aC = some y ∨ x.aR = some y ∨ x.aPS = some y ∨ x.aPr = some y ∨ x.aVL = some y

/-- the solver, laid in memory -/
structure InMem (w : World) (base : Nat) (d : SD) (x : SA) (sb gb : Nat) : Prop where
  c0 : w.cell? ⟨sb, 0, none⟩ = some (.pointer (some ⟨gb, 0, none⟩))
  c1 : w.cell? ⟨sb, 1, none⟩ = some (.slice x.aL d.nL x.cL)
  c2 : w.cell? ⟨sb, 2, none⟩ = some (.slice x.aW d.nW x.cW)
  c3 : w.cell? ⟨sb, 3, none⟩ = some (.slice x.aA d.nA x.cA)
  c4 : w.cell? ⟨sb, 4, none⟩ = some (.slice x.aC d.nC x.cC)
  c5 : w.cell? ⟨sb, 5, none⟩ = some (.slice x.aR d.nR x.cR)
  c6 : w.cell? ⟨sb, 6, none⟩ = some (.int .i32 d.at_)
  c7 : w.cell? ⟨sb, 7, none⟩ = some (.slice x.aPS d.nPS x.cPS)
  c8 : w.cell? ⟨sb, 8, none⟩ = some (.slice x.aPr d.nPr x.cPr)
  g0 : w.cell? ⟨gb, 0, none⟩ = some (.slice x.aV d.nV x.cV)
  g1 : w.cell? ⟨gb, 1, none⟩ = some (.slice x.aP d.nP x.cP)
  g2 : w.cell? ⟨gb, 2, none⟩ = some (.slice x.aSt d.nSt x.cSt)
  g3 : w.cell? ⟨gb, 3, none⟩ = some (.slice x.aSu d.nSu x.cSu)
  f6 : w.frozen? ⟨sb, 6, none⟩ = false
  own : SOwn w base d x
  lt : ∀ y, isField x y → y.block < gb
  gs : gb < sb

theorem InMem.below {w w' : World} {base : Nat} {d : SD} {x : SA} {sb gb : Nat} (h : InMem w base d x sb gb) (hb : Below w.heap.size w w') : InMem w' base d x sb gb :=
  ⟨laterCell hb h.c0, laterCell hb h.c1, laterCell hb h.c2, laterCell hb h.c3, laterCell hb h.c4, laterCell hb h.c5, laterCell hb h.c6, laterCell hb h.c7, laterCell hb h.c8, laterCell hb h.g0, laterCell hb h.g1, laterCell hb h.g2, laterCell hb h.g3,
    laterFrozen hb (lt_of_cell (a := ⟨sb, 6, none⟩) h.c6) h.f6, h.own.below hb, h.lt, h.gs⟩

attribute [local go_sem ↓] Go.wp_at_zero Go.wp_at_succ

theorem SOwn.lt {w : World} {base : Nat} {d : SD} {x : SA} (h : SOwn w base d x) : ∀ y, isField x y → y.block < w.heap.size := by
  obtain ⟨h0, h1, h2, h3, h4, h5, h6, h7, h8, h9, h10, h11, h12, b0, b1, b2, b3, b4, b5, b6, b7, b8, b9, b10, b11, b12, b13, p1, p2, p3, p4, p5, p6, p7, p8, p9, p10, p11, p12⟩ := h.chain
  intro y hy
  rcases hy with e | e | e | e | e | e | e | e | e | e | e | e
  · have := p1 y e; omega
  · have := p2 y e; omega
  · have := p3 y e; omega
  · have := p4 y e; omega
  · have := p5 y e; omega
  · have := p6 y e; omega
  · have := p7 y e; omega
  · have := p8 y e; omega
  · have := p9 y e; omega
  · have := p10 y e; omega
  · have := p11 y e; omega
  · have := p12 y e; omega

/-- what the maker hands back -/
def Made (w : World) (d : SD) (x : SA) (base : Nat) (e : Ending) (w' : World) : Prop := e = .returned (.pointer (some ⟨w.heap.size + 1, 0, none⟩)) ∧ InMem w' base d x (w.heap.size + 1) w.heap.size ∧ Below w.heap.size w w' ∧ w.heap.size + 2 ≤ w'.heap.size

set_option maxRecDepth 100000 in
set_option maxHeartbeats 8000000 in
theorem newSolver_any (d : SD) (x : SA) (base : Nat) (w : World) (h : SOwn w base d x) :
    Calls Try.prog 11 #[.slice x.aV d.nV x.cV, .slice x.aP d.nP x.cP, .slice x.aSt d.nSt x.cSt, .slice x.aSu d.nSu x.cSu, .slice x.aL d.nL x.cL, .slice x.aW d.nW x.cW, .slice x.aA d.nA x.cA, .slice x.aC d.nC x.cC, .slice x.aR d.nR x.cR, .int .i32 d.at_, .slice x.aPS d.nPS x.cPS, .slice x.aPr d.nPr x.cPr, .slice x.aVL d.nVL x.cVL] w (Made w d x base) := by
  have hlt := h.lt
  have H := hide h
  have HLT := hide hlt
  clear h hlt
  go_enter Try.func11, Try.ntmps11
  go_wp2
  go_ret
  have hb : Below w.heap.size w ((w.alloc (.cells #[.slice x.aV d.nV x.cV, .slice x.aP d.nP x.cP, .slice x.aSt d.nSt x.cSt, .slice x.aSu d.nSu x.cSu] 48)).alloc (.cells #[.pointer (some ⟨w.heap.size, 0, none⟩), .slice x.aL d.nL x.cL, .slice x.aW d.nW x.cW, .slice x.aA d.nA x.cA, .slice x.aC d.nC x.cC, .slice x.aR d.nR x.cR, .int .i32 d.at_, .slice x.aPS d.nPS x.cPS, .slice x.aPr d.nPr x.cPr, .slice x.aVL d.nVL x.cVL] 50)) := ((Below.refl _ _).alloc (Nat.le_refl _) _).alloc (by simp) _
  refine ⟨rfl, ⟨?_, ?_, ?_, ?_, ?_, ?_, ?_, ?_, ?_, ?_, ?_, ?_, ?_, ?_, (unhide H).below hb, unhide HLT, Nat.lt_succ_self _⟩, hb, by simp⟩
  all_goals simp [go_sem]

theorem results_tmp6 {fn : Func} {a b c d e f : Tmp} (h : fn.results = #[.tmp a, .tmp b, .tmp c, .tmp d, .tmp e, .tmp f]) (tmps : Array Value) (P : Program) (w : World) :
    (results fn tmps).run P w = .ok (.tuple #[tmps.getD a undef, tmps.getD b undef, tmps.getD c undef, tmps.getD d undef, tmps.getD e undef, tmps.getD f undef]) w := by
  simp [results, h]

/-- what ZZSolverState hands back -/
def StateOut (d : SD) (x : SA) (e : Ending) : Prop := e = .returned (.tuple #[.slice x.aL d.nL x.cL, .slice x.aW d.nW x.cW, .slice x.aA d.nA x.cA, .slice x.aC d.nC x.cC, .slice x.aR d.nR x.cR, .int .i32 d.at_])

set_option maxRecDepth 100000 in
set_option maxHeartbeats 8000000 in
theorem solverState_any (d : SD) (x : SA) (base sb gb : Nat) (w : World) (h : InMem w base d x sb gb) :
    Calls Try.prog 13 #[.pointer (some ⟨sb, 0, none⟩)] w fun e w' => StateOut d x e ∧ Below w.heap.size w w' := by
  have c1 := h.c1
  have c2 := h.c2
  have c3 := h.c3
  have c4 := h.c4
  have c5 := h.c5
  have c6 := h.c6
  clear h
  go_enter Try.func13, Try.ntmps13
  go_wp2
  go_quiet (fail)
  go_wp2
  (try simp only [Exit.inBlock, Exit.then])
  refine bodyPost_ret (results_tmp6 rfl _ _ _) rfl ?_
  exact ⟨rfl, below_drawn _ _⟩

/-- an attract from no targets -/
theorem makeQ0 (n : Nat) (hn : n ≤ 1048576) (W : World) : (Instr.makeSlice 23 (.int .i64 0) (.int .i64 (n : Int))).run Try.prog W = .ok (.slice (some ⟨W.heap.size, 0, none⟩) 0 n) (W.alloc (.cells (madeCells #[.int .i32 0] n) 21)) := by
  obtain ⟨i, hi, h0, h1, h2⟩ := info_parts info21
  have h := run_make (P := Try.prog) W 23 21 i (.int .i32 0) Try.underlying23 hi h0 .i64 .i64 0 (n : Int) (by omega) (by omega) (by rw [h2]; omega) (by omega)
  rw [h1] at h
  simpa [Value.cells] using h

set_option maxRecDepth 100000 in
set_option maxHeartbeats 8000000 in
theorem attract_none (at_ : Int) (sb : Nat) (at1 : Option Addr) (ct : Nat) (vf : Bool) (dp : Int) (w : World) (c6 : w.cell? ⟨sb, 6, none⟩ = some (.int .i32 at_)) (f6 : w.frozen? ⟨sb, 6, none⟩ = false) :
    Calls Try.prog 24 #[.pointer (some ⟨sb, 0, none⟩), .slice at1 0 ct, .bool vf, .int .i32 dp] w fun e w' => e = .returned (.int .i32 (wrap32 (at_ + 1))) ∧ ∃ o, w' = (w.setCell ⟨sb, 6, none⟩ (.int .i32 (wrap32 (at_ + 1)))).alloc o := by
  have mk := makeQ0 0 (by omega)
  simp only [Int.ofNat_zero] at mk
  obtain ⟨X, hX⟩ : ∃ X, X = (w.setCell ⟨sb, 6, none⟩ (.int .i32 (wrap32 (at_ + 1)))).alloc (.cells (madeCells #[.int .i32 0] 0) 21) := ⟨_, rfl⟩
  go_enter Try.func24, Try.ntmps24
  go_wp2
  go_loopw [10, 34] (fun q i wr => q = .slice (some ⟨w.heap.size, 0, none⟩) 0 0 ∧ i = .int .i64 0 ∧ wr = X) (fun _ _ _ => 0)
  case atStart => exact ⟨rfl, rfl, hX.symm⟩
  case round =>
    have HX := hide hX
    clear hX
    obtain ⟨rfl, rfl, hw⟩ := hrel
    replace hw := hw.symm
    subst hw
    go_wp2
    go_loopw [10, 13] (fun q i wr => q = .slice (some ⟨w.heap.size, 0, none⟩) 0 0 ∧ i = .int .i64 0 ∧ wr = X) (fun _ _ _ => 0)
    case atStart => exact ⟨rfl, rfl, rfl⟩
    case round =>
      obtain ⟨rfl, rfl, hw⟩ := hrel
      replace hw := hw.symm
      subst hw
      go_wp2
      go_ret
      exact ⟨rfl, _, unhide HX⟩

end Go.Proofs.Qxb6605408a
