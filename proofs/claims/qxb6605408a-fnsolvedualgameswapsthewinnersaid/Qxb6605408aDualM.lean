import Derived.Test.Qxb6605408aSolve
namespace Go.Proofs.Qxb6605408a
open Go.RowKit
set_option linter.unusedVariables false

def dsOf (d : SD) : DS := ⟨d.fL, d.fA, d.fC, d.fR, d.fW, d.at_⟩
theorem put_dsOf (d : SD) : put d (dsOf d) = d := rfl

/-- the vertices as a list -/
def lst (nt : Nat) (ft : Nat → Int) : List Nat := (List.range nt).map (toN ft)
theorem lst_len (nt : Nat) (ft : Nat → Int) : (lst nt ft).length = nt := by simp [lst]
theorem lst_get {nt : Nat} {ft : Nat → Int} {i : Nat} (h : i < nt) : (lst nt ft).getD i 0 = toN ft i := by simp [lst, List.getD_eq_getElem?_getD, h]
theorem lst_row {w : World} {a : Option Addr} {nt : Nat} {ft : Nat → Int} (h : Row w a nt (fun i => .int .i32 (ft i))) (h0 : ∀ i, i < nt → 0 ≤ ft i) : Row w a (lst nt ft).length (fun i => .int .i32 (asF (lst nt ft) i)) := by
  rw [lst_len]
  intro hn
  obtain ⟨b, o, e, hb, hc⟩ := h hn
  refine ⟨b, o, e, hb, fun j hj => ?_⟩
  rw [hc j hj]
  show some (Value.int .i32 (ft j)) = some (Value.int .i32 (((lst nt ft).getD j 0 : Nat) : Int))
  rw [lst_get hj]
  have := h0 j hj
  have e2 : ((toN ft j : Nat) : Int) = ft j := by unfold toN; omega
  rw [e2]
theorem lst_mem {nt : Nat} {ft : Nat → Int} {v : Nat} : v ∈ lst nt ft ↔ ∃ i, i < nt ∧ toN ft i = v := by
  simp only [lst, List.mem_map, List.mem_range]

theorem InMem.chg {w w' : World} {base : Nat} {d : SD} {x : SA} {sb gb : Nat} {S : Nat → Prop} (h : InMem w base d x sb gb) (hc : Chg S w w') (h1 : ¬ S sb) (h2 : ¬ S gb) (hs : ∀ y, isField x y → ¬ S y.block) : InMem w' base d x sb gb :=
  ⟨laterCell' hc h1 h.c0, laterCell' hc h1 h.c1, laterCell' hc h1 h.c2, laterCell' hc h1 h.c3, laterCell' hc h1 h.c4, laterCell' hc h1 h.c5, laterCell' hc h1 h.c6, laterCell' hc h1 h.c7, laterCell' hc h1 h.c8, laterCell' hc h2 h.g0, laterCell' hc h2 h.g1, laterCell' hc h2 h.g2, laterCell' hc h2 h.g3,
    (hc.frozen (p := ⟨sb, 6, none⟩) h.sb_lt h1).trans h.f6, h.own.chg hc hs, h.lt, h.gs⟩

/-- of the written blocks each is a field's or the solver's -/
theorem wr6_cases {x : SA} {sb k : Nat} (h : wr6 x sb k) : (∃ y, isField x y ∧ y.block = k) ∨ k = sb := by
  rcases h with (⟨z, e, f⟩ | ⟨z, e, f⟩ | ⟨z, e, f⟩ | f) | ⟨z, e, f⟩ | ⟨z, e, f⟩
  · exact .inl ⟨z, .inr (.inr (.inr (.inr (.inr (.inr (.inl e)))))), f⟩
  · exact .inl ⟨z, .inr (.inr (.inr (.inr (.inr (.inr (.inr (.inl e))))))), f⟩
  · exact .inl ⟨z, .inr (.inr (.inr (.inr (.inr (.inr (.inr (.inr (.inl e)))))))), f⟩
  · exact .inr f
  · exact .inl ⟨z, .inr (.inr (.inr (.inr (.inl e)))), f⟩
  · exact .inl ⟨z, .inr (.inr (.inr (.inr (.inr (.inl e))))), f⟩

/-- the owners and the priorities of the dual -/
def vp (x : SA) (k : Nat) : Prop := (∃ y, x.aV = some y ∧ y.block = k) ∨ (∃ y, x.aP = some y ∧ y.block = k)
theorem SOwn.dual {w w' : World} {base : Nat} {d : SD} {x : SA} (h : SOwn w base d x) (hc : Chg (vp x) w w') (oV : ORow w' 4 x.aV d.nV (fun i => .bool (!d.fV i))) (oP : ORow w' 21 x.aP d.nP (fun i => .int .i32 (wrap32 (d.fP i + 1)))) : SOwn w' base (dualOf d) x := by
  obtain ⟨h0, h1, h2, h3, h4, h5, h6, h7, h8, h9, h10, h11, h12, b0, b1, b2, b3, b4, b5, b6, b7, b8, b9, b10, b11, b12, b13, p1, p2, p3, p4, p5, p6, p7, p8, p9, p10, p11, p12⟩ := h.chain
  have hv : ∀ k, vp x k → h0 ≤ k ∧ k < h2 := by
    rintro k (⟨y, e, f⟩ | ⟨y, e, f⟩)
    · have := p1 y e; omega
    · have := p2 y e; omega
  exact ⟨oV, oP, h.oSt.chg hc (fun y e hh => by have := p3 y e; have := hv _ hh; omega), h.oSu.chg hc (fun y e hh => by have := p4 y e; have := hv _ hh; omega), h.oL.chg hc (fun y e hh => by have := p5 y e; have := hv _ hh; omega), h.oW.chg hc (fun y e hh => by have := p6 y e; have := hv _ hh; omega), h.oA.chg hc (fun y e hh => by have := p7 y e; have := hv _ hh; omega), h.oC.chg hc (fun y e hh => by have := p8 y e; have := hv _ hh; omega), h.oR.chg hc (fun y e hh => by have := p9 y e; have := hv _ hh; omega),
    h.oPS.chg hc (fun y e hh => by have := p10 y e; have := hv _ hh; omega), h.oPr.chg hc (fun y e hh => by have := p11 y e; have := hv _ hh; omega), h.oVL.chg hc (fun y e hh => by have := p12 y e; have := hv _ hh; omega),
    h.kV, h.kP, h.kSt, h.kSu, h.kL, h.kW, h.kA, h.kC, h.kR, h.kPS, h.kPr, h.kVL, h0, h1, h2, h3, h4, h5, h6, h7, h8, h9, h10, h11, h12, b0, b1, b2, b3, b4, b5, b6, b7, b8, b9, b10, b11, b12, Nat.le_trans b13 hc.size, p1, p2, p3, p4, p5, p6, p7, p8, p9, p10, p11, p12⟩
theorem SOwn.vpDiff {w : World} {base : Nat} {d : SD} {x : SA} (h : SOwn w base d x) : ∀ y z, x.aV = some y → x.aP = some z → y.block ≠ z.block := by
  obtain ⟨h0, h1, h2, h3, h4, h5, h6, h7, h8, h9, h10, h11, h12, b0, b1, b2, b3, b4, b5, b6, b7, b8, b9, b10, b11, b12, b13, p1, p2, p3, p4, p5, p6, p7, p8, p9, p10, p11, p12⟩ := h.chain
  intro y z e f
  have := p1 y e
  have := p2 z f
  omega

theorem state_dual {d : SD} (h : StateOk d) : StateOk (dualOf d) := ⟨h.eL, h.eA, h.eC, h.eR, h.eS, h.eP, h.tr⟩
theorem small_dual {d : SD} (h : SSmall d) : SSmall (dualOf d) := ⟨h.sV, h.sP, h.sSt, h.sSu, h.sL, h.sW, h.sA, h.sC, h.sR, h.sPS, h.sPr, h.sVL⟩

/-- the law, at the call -/
theorem dual_all {d : SD} {nt : Nat} {ft : Nat → Int} {dp : Int} (hst : StateOk d) (iP : I32 d.fP) (htg : ∀ i, i < nt → 0 ≤ ft i ∧ ft i < d.nV) (hno : ∀ i, i < nt → d.fP (ft i).toNat ≠ 2147483647) (hW : d.nW = d.nV) :
    ∀ v, seenTo ft nt v = true → (solveF (dualOf d) nt (dsOf (dualOf d)) (lst nt ft) dp).won v = !(solveF d nt (dsOf d) (lst nt ft) dp).won v := by
  intro v hv
  obtain ⟨j, hj, e⟩ := (seenTo_iff ft v nt).1 hv
  have hmem : v ∈ lst nt ft := lst_mem.2 ⟨j, hj, by unfold toN; omega⟩
  refine (dual_law hst nt (dsOf d) (dsOf (dualOf d)) (lst nt ft) dp ⟨rfl, rfl, rfl, rfl, rfl⟩ (by rw [lst_len]; exact Nat.le_refl _) (fun u hu => ?_) (fun u hu => ?_)).2.1 v hmem
  · obtain ⟨i, hi, e⟩ := lst_mem.1 hu
    have := htg i hi
    unfold toN at e
    omega
  · obtain ⟨i, hi, e⟩ := lst_mem.1 hu
    have h1 := hno i hi
    have h2 := iP (ft i).toNat
    change (ft i).toNat = u at e
    rw [e] at h1 h2
    show wrap32 (d.fP u + 1) = d.fP u + 1
    exact wrap32_small (by omega) (by omega)

set_option maxRecDepth 100000 in
set_option maxHeartbeats 4000000 in
theorem zzSolve_any (d : SD) (x : SA) (base sb gb k : Nat) (s : DS) (vs : List Nat) (nv : Nat) (a : Option Addr) (c : Nat) (dp : Int) (w : World) (hnv : vs.length = nv) (h : Calls Try.prog 26 #[.pointer (some ⟨sb, 0, none⟩), .slice a vs.length c, .int .i32 dp] w (SolveOut w base d x sb gb k s vs dp)) :
    Calls Try.prog 21 #[.pointer (some ⟨sb, 0, none⟩), .slice a nv c, .int .i32 dp] w (SolveOut w base d x sb gb k s vs dp) := by
  subst hnv
  have H := hide h
  clear h
  go_enter Try.func21, Try.ntmps21
  go_wp2_with fail
  refine (unhide H).mono ?_
  rintro e w' ⟨rfl, h1, h2⟩
  have H1 := hide (And.intro h1 h2)
  clear h1 h2
  go_wp2_with fail
  go_end0
  exact ⟨rfl, (unhide H1).1, (unhide H1).2⟩

theorem ORow.congr {w : World} {t : TypeId} {a : Option Addr} {n : Nat} {c c' : Nat → Value} (h : ORow w t a n c) (hc : ∀ i, i < n → c i = c' i) : ORow w t a n c' := by
  intro h0
  obtain ⟨g, e, r⟩ := h h0
  exact ⟨g, e, r.congr hc⟩

end Go.Proofs.Qxb6605408a
