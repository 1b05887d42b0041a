import Derived.Test.Qxb6605408aSolveP
import Derived.Test.Qxb6605408aTop
import Derived.ArgAppend
namespace Go.Proofs.Qxb6605408a
open Go.RowKit
set_option linter.unusedVariables false

theorem qcells_get {q : List Nat} {i : Nat} (h : i < q.length) : (qcells q)[i]? = some (.int .i32 ((q[i] : Nat) : Int)) := by simp [qcells, h]

/-- a list of the call's own: nothing yet, or a row of its own -/
def Mine (w : World) (B : Nat) (v : Value) (L : List Nat) : Prop := (L = [] ∧ ∃ ao, v = .slice ao 0 0) ∨ w.ownsRow B 21 1 v L.length (qcells L)

theorem Mine.form {w : World} {B : Nat} {v : Value} {L : List Nat} (h : Mine w B v L) : ∃ a c, v = .slice a L.length c ∧ Row w a L.length (fun i => .int .i32 (asF L i)) ∧ (0 < L.length → ∀ y, a = some y → B ≤ y.block) ∧ (L.length = 0 → c = 0 ∨ True) := by
  rcases h with ⟨rfl, ao, rfl⟩ | h
  · exact ⟨ao, 0, rfl, fun h0 => absurd h0 (by simp), fun h0 => absurd h0 (by simp), fun _ => .inr trivial⟩
  · rcases h.2 with ⟨h3, h4⟩ | ⟨g, cap, cur, hv, hg, hh, r⟩
    · have hL : L = [] := List.eq_nil_of_length_eq_zero h4
      subst hL
      exact ⟨none, 0, h3, fun h0 => absurd h0 (by simp), fun h0 => absurd h0 (by simp), fun _ => .inr trivial⟩
    · subst hv
      refine ⟨some ⟨g, 0, none⟩, cap, rfl, fun h0 => ⟨g, 0, rfl, (Array.getElem?_eq_some_iff.1 hh).1, fun j hj => ?_⟩, fun _ y e => by cases e; exact hg, fun _ => .inr trivial⟩
      rw [Nat.zero_add, h.cellAt j (by omega), qcells_get hj]
      unfold asF
      simp [List.getD_eq_getElem?_getD, hj]

theorem Mine.keep {w w' : World} {B : Nat} {v : Value} {L : List Nat} (h : Mine w B v L) {S : Nat → Prop} (hc : Chg S w w') (hs : ∀ k, S k → k < B) : Mine w' B v L := by
  rcases h with h | h
  · exact .inl h
  · refine .inr (hc.ownsRow h (fun k hk hS => ?_))
    have := hs k hS
    rcases h.2 with ⟨h3, _⟩ | ⟨g, cap, cur, hv, hg, _⟩
    · subst h3; cases hk
    · subst hv
      simp [Value.ownBlock] at hk
      omega

/-- append of one, for the walk -/
theorem append_mine {ops : Array Oper} {rest : List Oper} {o : Oper} {a : Act} {Q : Exit → Act → World → Prop} (w : World) (hgd : o.guard = none) (s x : Operand)
    (ho : o.op = .call { callee := .builtin .append, args := #[s, x], argTypes := #[23, 23] }) (B : Nat) (v : Value) (L : List Nat) (hs : a.eval s = v) (hm : Mine w B v L) (hL : L.length ≤ 1048576)
    (ad : Addr) (c u : Nat) (hx : a.eval x = .slice (some ad) 1 c) (hc : ∀ j z, [Value.int .i32 (u : Int)][j]? = some z → w.cell? (ad.add j) = some z) (hB : B ≤ w.heap.size)
    (h : ∀ v' w', Mine w' B v' (L ++ [u]) → Below B w w' → wpList Try.prog ops Q rest (a.put o.dst v') w') : wpList Try.prog ops Q (o :: rest) a w := by
  obtain ⟨i, hi, h0, h1, h2⟩ := info_parts info21
  have hone : ∀ z ∈ [Value.int .i32 (u : Int)], z.oneCell' = true := isz _ _
  have hl1 : (qcells (L ++ [u])) = qcells L ++ [.int .i32 (u : Int)] := qcells_snoc L u
  rcases hm with ⟨rfl, ao, rfl⟩ | hm
  · refine wpList_append_grows w hgd s x 23 ho 21 i (.int .i32 0) 1 4 Try.underlying23 hi h0 h1 h2 rfl (by decide) ao 0 0 [] hs (fun _ => ⟨rfl, rfl⟩) rfl (fun b _ j z hz => by simp at hz) ad 1 c [.int .i32 (u : Int)] hx rfl hc hone (by omega) (by unfold maxLen; omega) (by omega) ?_
    intro v' w' hown hg
    refine h v' w' (.inr ?_) ((Below.refl _ _).grown hg hB (fun k hk => by cases hk))
    have := hown
    refine ⟨this.1, this.2.elim .inl (fun ⟨g, cap, cur, hv, hg2, r⟩ => .inr ⟨g, cap, cur, hv, Nat.le_trans hB hg2, r⟩)⟩
  · refine wpList_append_lies _ hgd s x 23 ho B 21 i (.int .i32 0) 1 4 Try.underlying23 hi h0 h1 h2 rfl (by decide) v L.length (qcells L) hs hm ad 1 c [.int .i32 (u : Int)] hx rfl hc hone (by decide) (by unfold maxLen; omega) (by omega) hB _ rfl ?_
    intro g cap w' hown hgr hat hlt
    refine h _ w' (.inr ?_) ((Below.refl _ _).grown hgr hB (fun k hk => ?_))
    · rw [hl1, List.length_append]; exact hown
    · rcases hm.2 with ⟨h3, _⟩ | ⟨g, cap, cur, hv, hg, _⟩
      · subst h3; cases hk
      · subst hv; cases hk; exact hg

/-- the blocks that a solve writes -/
def wr6 (x : SA) (sb k : Nat) : Prop := wr4 x sb k ∨ (∃ y, x.aL = some y ∧ y.block = k) ∨ (∃ y, x.aW = some y ∧ y.block = k)

theorem InMem.wr6_lt {w : World} {base : Nat} {d : SD} {x : SA} {sb gb : Nat} (h : InMem w base d x sb gb) : ∀ k, wr6 x sb k → k ≤ sb := by
  have hgs := h.gs
  rintro k ((⟨z, e, f⟩ | ⟨z, e, f⟩ | ⟨z, e, f⟩ | f) | ⟨z, e, f⟩ | ⟨z, e, f⟩)
  · have := h.lt z (.inr (.inr (.inr (.inr (.inr (.inr (.inl e))))))); omega
  · have := h.lt z (.inr (.inr (.inr (.inr (.inr (.inr (.inr (.inl e)))))))); omega
  · have := h.lt z (.inr (.inr (.inr (.inr (.inr (.inr (.inr (.inr (.inl e))))))))); omega
  · omega
  · have := h.lt z (.inr (.inr (.inr (.inr (.inl e))))); omega
  · have := h.lt z (.inr (.inr (.inr (.inr (.inr (.inl e)))))); omega

theorem InMem.sb_lt {w : World} {base : Nat} {d : SD} {x : SA} {sb gb : Nat} (h : InMem w base d x sb gb) : sb < w.heap.size := lt_of_cell (a := ⟨sb, 0, none⟩) h.c0

theorem InMem.setL {w : World} {base : Nat} {d : SD} {x : SA} {sb gb : Nat} (h : InMem w base d x sb gb) {gL : Nat} (haL : x.aL = some ⟨gL, 0, none⟩) (v : Nat) (z : Int) : InMem (w.setCell ⟨gL, v, none⟩ (.int .i32 z)) base { d with fL := upd d.fL v z } x sb gb := by
  have hlt := h.lt _ (.inr (.inr (.inr (.inr (.inl haL)))))
  have hgs := h.gs
  dsimp only at hlt
  have hc : Chg (fun k => k = gL) w (w.setCell ⟨gL, v, none⟩ (.int .i32 z)) := (Chg.refl (fun k => k = gL) w).setCell (p := ⟨gL, v, none⟩) (fun _ => rfl) _
  have hs : ¬ sb = gL := by omega
  have hg : ¬ gb = gL := by omega
  have o := h.own
  obtain ⟨h0, h1, h2, h3, h4, h5, h6, h7, h8, h9, h10, h11, h12, b0, b1, b2, b3, b4, b5, b6, b7, b8, b9, b10, b11, b12, b13, p1, p2, p3, p4, p5, p6, p7, p8, p9, p10, p11, p12⟩ := o.chain
  have pL := p5 _ haL
  dsimp only at pL
  refine ⟨laterCell' hc hs h.c0, laterCell' hc hs h.c1, laterCell' hc hs h.c2, laterCell' hc hs h.c3, laterCell' hc hs h.c4, laterCell' hc hs h.c5, laterCell' hc hs h.c6, laterCell' hc hs h.c7, laterCell' hc hs h.c8,
    laterCell' hc hg h.g0, laterCell' hc hg h.g1, laterCell' hc hg h.g2, laterCell' hc hg h.g3, (hc.frozen (p := ⟨sb, 6, none⟩) h.sb_lt hs).trans h.f6, ?_, h.lt, h.gs⟩
  refine ⟨o.oV.chg hc (fun y e => by have := p1 y e; omega), o.oP.chg hc (fun y e => by have := p2 y e; omega), o.oSt.chg hc (fun y e => by have := p3 y e; omega), o.oSu.chg hc (fun y e => by have := p4 y e; omega), ?_, o.oW.chg hc (fun y e => by have := p6 y e; omega), o.oA.chg hc (fun y e => by have := p7 y e; omega), o.oC.chg hc (fun y e => by have := p8 y e; omega), o.oR.chg hc (fun y e => by have := p9 y e; omega),
    o.oPS.chg hc (fun y e => by have := p10 y e; omega), o.oPr.chg hc (fun y e => by have := p11 y e; omega), o.oVL.chg hc (fun y e => by have := p12 y e; omega),
    o.kV, o.kP, o.kSt, o.kSu, o.kL, o.kW, o.kA, o.kC, o.kR, o.kPS, o.kPr, o.kVL, h0, h1, h2, h3, h4, h5, h6, h7, h8, h9, h10, h11, h12, b0, b1, b2, b3, b4, b5, b6, b7, b8, b9, b10, b11, b12, Nat.le_trans b13 hc.size, p1, p2, p3, p4, p5, p6, p7, p8, p9, p10, p11, p12⟩
  intro hn
  obtain ⟨g, e, r⟩ := o.oL hn
  rw [haL] at e
  cases e
  exact ⟨gL, haL, upd_row r⟩

theorem upd_rowB' {w : World} {b n i : Nat} {f : Nat → Bool} {v : Bool} (h : w.rowIs b 4 n (fun j => .bool (f j))) : (w.setCell ⟨b, i, none⟩ (.bool v)).rowIs b 4 n (fun j => .bool (upd f i v j)) :=
  (h.set i _).congr (fun j _ => by
    by_cases e : j = i
    · subst e; rw [if_pos rfl, upd_same]
    · rw [if_neg e, upd_other e])

theorem InMem.setW {w : World} {base : Nat} {d : SD} {x : SA} {sb gb : Nat} (h : InMem w base d x sb gb) {gL : Nat} (haL : x.aW = some ⟨gL, 0, none⟩) (v : Nat) (z : Bool) : InMem (w.setCell ⟨gL, v, none⟩ (.bool z)) base { d with fW := upd d.fW v z } x sb gb := by
  have hlt := h.lt _ (.inr (.inr (.inr (.inr (.inr (.inl haL))))))
  have hgs := h.gs
  dsimp only at hlt
  have hc : Chg (fun k => k = gL) w (w.setCell ⟨gL, v, none⟩ (.bool z)) := (Chg.refl (fun k => k = gL) w).setCell (p := ⟨gL, v, none⟩) (fun _ => rfl) _
  have hs : ¬ sb = gL := by omega
  have hg : ¬ gb = gL := by omega
  have o := h.own
  obtain ⟨h0, h1, h2, h3, h4, h5, h6, h7, h8, h9, h10, h11, h12, b0, b1, b2, b3, b4, b5, b6, b7, b8, b9, b10, b11, b12, b13, p1, p2, p3, p4, p5, p6, p7, p8, p9, p10, p11, p12⟩ := o.chain
  have pL := p6 _ haL
  dsimp only at pL
  refine ⟨laterCell' hc hs h.c0, laterCell' hc hs h.c1, laterCell' hc hs h.c2, laterCell' hc hs h.c3, laterCell' hc hs h.c4, laterCell' hc hs h.c5, laterCell' hc hs h.c6, laterCell' hc hs h.c7, laterCell' hc hs h.c8,
    laterCell' hc hg h.g0, laterCell' hc hg h.g1, laterCell' hc hg h.g2, laterCell' hc hg h.g3, (hc.frozen (p := ⟨sb, 6, none⟩) h.sb_lt hs).trans h.f6, ?_, h.lt, h.gs⟩
  refine ⟨o.oV.chg hc (fun y e => by have := p1 y e; omega), o.oP.chg hc (fun y e => by have := p2 y e; omega), o.oSt.chg hc (fun y e => by have := p3 y e; omega), o.oSu.chg hc (fun y e => by have := p4 y e; omega), o.oL.chg hc (fun y e => by have := p5 y e; omega), ?_, o.oA.chg hc (fun y e => by have := p7 y e; omega), o.oC.chg hc (fun y e => by have := p8 y e; omega), o.oR.chg hc (fun y e => by have := p9 y e; omega),
    o.oPS.chg hc (fun y e => by have := p10 y e; omega), o.oPr.chg hc (fun y e => by have := p11 y e; omega), o.oVL.chg hc (fun y e => by have := p12 y e; omega),
    o.kV, o.kP, o.kSt, o.kSu, o.kL, o.kW, o.kA, o.kC, o.kR, o.kPS, o.kPr, o.kVL, h0, h1, h2, h3, h4, h5, h6, h7, h8, h9, h10, h11, h12, b0, b1, b2, b3, b4, b5, b6, b7, b8, b9, b10, b11, b12, Nat.le_trans b13 hc.size, p1, p2, p3, p4, p5, p6, p7, p8, p9, p10, p11, p12⟩
  intro hn
  obtain ⟨g, e, r⟩ := o.oW hn
  rw [haL] at e
  cases e
  exact ⟨gL, haL, upd_rowB' r⟩

/-- vertices[:0:0] -/
theorem cutNone (a : Option Addr) (n c : Nat) (W : World) : (Instr.slice 23 (.slice a n c) none (some (.int .i64 0)) (some (.int .i64 0))).run Try.prog W = .ok (.slice a 0 0) W := by
  have h := run_slice_hm (P := Try.prog) (w := W) 23 a n c (by kernel_rfl) .i64 .i64 0 0 (by omega) (by omega) (by omega)
  rw [h]
  have hz : (sizeOf (Try.prog.elem 23)).run Try.prog W = .ok 1 W := by kernel_rfl
  rw [hz]
  simp [Result.andThen, sliced]

def lenOf : Value → Nat
  | .slice _ n _ => n
  | _ => 0

theorem small_put {d : SD} (h : SSmall d) (s : DS) : SSmall (put d s) := ⟨h.sV, h.sP, h.sSt, h.sSu, h.sL, h.sW, h.sA, h.sC, h.sR, h.sPS, h.sPr, h.sVL⟩
theorem state_put {d : SD} (h : StateOk d) (s : DS) : StateOk (put d s) := ⟨h.eL, h.eA, h.eC, h.eR, h.eS, h.eP, h.tr⟩

/-- what a solve hands back -/
def SolveOut (w : World) (base : Nat) (d : SD) (x : SA) (sb gb k : Nat) (s : DS) (vs : List Nat) (dp : Int) (e : Ending) (w' : World) : Prop :=
  e = .returned (.tuple #[]) ∧ InMem w' base (put d (solveF d k s vs dp)) x sb gb ∧ Chg (wr6 x sb) w w'

end Go.Proofs.Qxb6605408a
