import Derived.Test.Qxb6605408aTop
import Derived.Test.Qxb6605408aLaw
namespace Go.Proofs.Qxb6605408a
open Go.RowKit
set_option linter.unusedVariables false

theorem qcells_get {q : List Nat} {i : Nat} (h : i < q.length) : (qcells q)[i]? = some (.int .i32 ((q[i] : Nat) : Int)) := by simp [qcells, h]

theorem own_row {w : World} {B : Nat} {a : Option Addr} {c : Nat} {L : List Nat} (h : w.ownsRow B 21 1 (.slice a L.length c) L.length (qcells L)) : Row w a L.length (fun i => .int .i32 (asF L i)) ∧ ∀ y, a = some y → B ≤ y.block := by
  have h2 := h.2
  rcases h2 with ⟨h3, h4⟩ | ⟨g, cap, cur, hv, hg, hh, r⟩
  · injection h3 with e1 e2 e3
    refine ⟨fun h0 => by omega, fun y e => by rw [e1] at e; cases e⟩
  · injection hv with e1 e2 e3
    subst e1
    refine ⟨fun h0 => ⟨g, 0, rfl, (Array.getElem?_eq_some_iff.1 hh).1, fun j hj => ?_⟩, fun y e => by cases e; exact hg⟩
    rw [Nat.zero_add, h.cellAt j (by omega)]
    rw [qcells_get hj]
    unfold asF
    simp [List.getD_eq_getElem?_getD, hj]

attribute [local go_sem ↓] Go.wp_at_zero Go.wp_at_succ

set_option maxRecDepth 100000 in
set_option maxHeartbeats 16000000 in
theorem twice_any (d : SD) (x : SA) (at1 : Option Addr) (nt ct : Nat) (ft : Nat → Int) (vf : Bool) (dp : Int) (w : World) (hr : SRows w d x) (rt : Row w at1 nt (fun i => .int .i32 (ft i))) (hl : Lens d nt)
    (it : I32 ft) (iS : I32 d.fSt) (iU : I32 d.fSu) (iP : I32 d.fPS) (iR : I32 d.fPr) :
    Calls Try.prog 4 #[.agg (vals d x), .slice at1 nt ct, .bool vf, .int .i32 dp] w fun e w' => e = .returned (.bool true) ∧ Below w.heap.size w w' := by
  show Calls Try.prog 4 #[.agg #[.slice x.aV d.nV x.cV, .slice x.aP d.nP x.cP, .slice x.aSt d.nSt x.cSt, .slice x.aSu d.nSu x.cSu, .slice x.aL d.nL x.cL, .slice x.aW d.nW x.cW, .slice x.aA d.nA x.cA, .slice x.aC d.nC x.cC, .slice x.aR d.nR x.cR, .int .i32 d.at_, .slice x.aPS d.nPS x.cPS, .slice x.aPr d.nPr x.cPr, .slice x.aVL d.nVL x.cVL], .slice at1 nt ct, .bool vf, .int .i32 dp] w _
  have HR := hide hr
  have HT := hide rt
  have HL := hide hl
  have HI := hide (And.intro it (And.intro iS (And.intro iU (And.intro iP iR))))
  clear hr rt hl it iS iU iP iR
  go_enter Try.func4, Try.ntmps4
  go_wp2_with fail
  have hb0 : Below w.heap.size w (w.alloc (.cells (vals d x) 25)) := (Below.refl _ _).alloc (Nat.le_refl _) _
  refine (bytes17_any d x at1 nt ct vf dp _ (unhide HL)).mono ?_
  rintro e w1 ⟨⟨r, rfl⟩, hb1⟩
  have hbox := (box_new w d x).below hb1
  have hB1 := hb0.trans (hb1.mono hb0.size)
  have HB1 := hide hB1
  have BX := hide hbox
  obtain ⟨c0, c1, c2, c3, c4, c5, c6, c7, c8, c9, c10, c11, c12⟩ := hbox.cells
  clear hb0 hb1 hbox hB1 HL
  cases r
  · go_wp2
    go_ret
    exact ⟨rfl, unhide HB1⟩
  go_wp2_with fail
  refine (tooBig_any d x at1 nt ct w1).mono ?_
  rintro e w2 ⟨⟨r, rfl, hr2⟩, hb2⟩
  have hbox := (unhide BX).below hb2
  have hB2 := (unhide HB1).trans (hb2.mono (unhide HB1).size)
  have HB2 := hide hB2
  have HR2 := hide hr2
  clear hb2 hB2 hr2 HB1 BX c0 c1 c2 c3 c4 c5 c6 c7 c8 c9 c10 c11 c12
  have BX := hide hbox
  obtain ⟨c0, c1, c2, c3, c4, c5, c6, c7, c8, c9, c10, c11, c12⟩ := hbox.cells
  cases r
  case true =>
    go_wp2
    go_ret
    exact ⟨rfl, unhide HB2⟩
  obtain ⟨hs, hnt⟩ := unhide HR2 rfl
  have HS := hide hs
  have hnV := hs.sV
  have HBL := hide hbox.lt
  clear hbox hs HR2
  go_wp2_with fail
  refine (cloneSolver_any d x w2 (unhide HS) ((unhide HR).below (unhide HB2))).mono ?_
  rintro e w3 ⟨x', rfl, hown, hb3⟩
  have hbox := (unhide BX).below hb3
  have hB3 := (unhide HB2).trans (hb3.mono (unhide HB2).size)
  have HB3 := hide hB3
  have HO := hide hown
  clear hb3 hB3 hown BX c0 c1 c2 c3 c4 c5 c6 c7 c8 c9 c10 c11 c12
  have BX := hide hbox
  obtain ⟨c0, c1, c2, c3, c4, c5, c6, c7, c8, c9, c10, c11, c12⟩ := hbox.cells
  obtain ⟨z0, z1, z2, z3, z4, z5, z6, z7, z8, z9, z10, z11, z12⟩ := hbox.froz
  clear hbox HR
  simp only [vals]
  go_wp2_with fail
  obtain ⟨W4, hW4⟩ : ∃ W, W = boxed w3 w.heap.size d x' := ⟨_, rfl⟩
  have hbx4 : Box W4 w.heap.size d x' := by rw [hW4]; exact boxed_box (unhide BX)
  have hc4 : Chg (fun k => k = w.heap.size) w3 W4 := by rw [hW4]; exact boxed_chg _ _ _ _
  unfold boxed at hW4
  rw [← hW4]
  clear hW4 c0 c1 c2 c3 c4 c5 c6 c7 c8 c9 c10 c11 c12 z0 z1 z2 z3 z4 z5 z6 z7 z8 z9 z10 z11 z12
  have hown4 : SOwn W4 w2.heap.size d x' := (unhide HO).chg hc4 (fun y hy e => by have h1 := (unhide HO).low y hy; have h2 := unhide HBL; omega)
  have hB4 : Below w.heap.size w W4 := (unhide HB3).trans (hc4.toBelow (unhide HB3).size (fun k e => Nat.le_of_eq e.symm))
  have HFL := hide hown4.lt
  have HB24 := hide (Nat.le_trans (unhide HB2).size (Nat.le_refl _))
  clear BX HO HB3 hc4
  refine (cloneI_any at1 nt ct ft W4 hnt ((unhide HT).below hB4)).mono ?_
  rintro e w5 ⟨at', ct', rfl, ho5, hcap5, hb5, hbl5⟩
  have hbx5 := hbx4.below hb5
  have hown5 := hown4.below hb5
  have hB5 := hB4.trans (hb5.mono hB4.size)
  have HAT := hide hbl5
  have HO := hide hown5
  have HT5 := hide ho5
  have HB5 := hide hB5
  have BX := hide hbx5
  obtain ⟨c0, c1, c2, c3, c4, c5, c6, c7, c8, c9, c10, c11, c12⟩ := hbx5.cells
  clear hbx4 hown4 hB4 hb5 hbl5 hbx5 hown5 ho5 hB5 HT hcap5
  go_wp2_with fail
  refine (ready_any d x' at' nt ct' ft dp 2 w5 (unhide HS) (unhide HO).rows hnt (unhide HT5).row (unhide HI).1 (unhide HI).2.1 (unhide HI).2.2.1 (unhide HI).2.2.2.1 (unhide HI).2.2.2.2 (by omega) (by omega)).mono ?_
  rintro e w6 ⟨⟨r, rfl, hr6⟩, hb6⟩
  have hbox := (unhide BX).below hb6
  have hB6 := (unhide HB5).trans (hb6.mono (unhide HB5).size)
  have HO6 := hide ((unhide HO).below hb6)
  have HT6 := hide ((unhide HT5).below hb6)
  have HZ56 := hide hb6.size
  have HR6 := hide hr6
  have HB6 := hide hB6
  clear hb6 hr6 hB6 HB5 HO HT5 BX c0 c1 c2 c3 c4 c5 c6 c7 c8 c9 c10 c11 c12
  have BX := hide hbox
  obtain ⟨c0, c1, c2, c3, c4, c5, c6, c7, c8, c9, c10, c11, c12⟩ := hbox.cells
  clear hbox
  cases r
  · go_wp2
    go_ret
    exact ⟨rfl, unhide HB6⟩
  have hok := unhide HR6 rfl
  have HK := hide hok
  clear hok HR6 HI
  go_wp2_with fail
  refine (newSolver_any d x' w2.heap.size w6 (unhide HO6)).mono ?_
  rintro e w7 ⟨rfl, hm7, hb7, hz7⟩
  obtain ⟨sb, hsb⟩ : ∃ sb, sb = w6.heap.size + 1 := ⟨_, rfl⟩
  rw [← hsb] at hm7 ⊢
  have HM7 := hide hm7
  have HT7 := hide ((unhide HT6).below hb7)
  have HB7 := hide ((unhide HB6).trans (hb7.mono (unhide HB6).size))
  have hout : ∀ y, at' = some y → ¬ wr4 x' sb y.block := fun y e h => by
    have h1 := unhide HAT y e
    have h2 := unhide HZ56
    rcases h with ⟨z, e2, f⟩ | ⟨z, e2, f⟩ | ⟨z, e2, f⟩ | f
    · have := unhide HFL z (.inr (.inr (.inr (.inr (.inr (.inr (.inl e2))))))); omega
    · have := unhide HFL z (.inr (.inr (.inr (.inr (.inr (.inr (.inr (.inl e2)))))))); omega
    · have := unhide HFL z (.inr (.inr (.inr (.inr (.inr (.inr (.inr (.inr (.inl e2))))))))); omega
    · omega
  have hlow : ∀ k, wr4 x' sb k → w.heap.size ≤ k := fun k h => by
    have h1 := (unhide HO6).low
    have h2 := unhide HBL
    have h3 := (unhide HB6).size
    rcases h with ⟨z, e2, f⟩ | ⟨z, e2, f⟩ | ⟨z, e2, f⟩ | f
    · have := h1 z (.inr (.inr (.inr (.inr (.inr (.inr (.inl e2))))))); omega
    · have := h1 z (.inr (.inr (.inr (.inr (.inr (.inr (.inr (.inl e2)))))))); omega
    · have := h1 z (.inr (.inr (.inr (.inr (.inr (.inr (.inr (.inr (.inl e2))))))))); omega
    · omega
  have HOUT := hide hout
  have HLOW := hide hlow
  have HZ7 : Hid (∀ k, wr4 x' sb k → k < w7.heap.size) := fun k h => by
    have h3 := hb7.size
    rcases h with ⟨z, e2, f⟩ | ⟨z, e2, f⟩ | ⟨z, e2, f⟩ | f
    · have := (unhide HO6).lt z (.inr (.inr (.inr (.inr (.inr (.inr (.inl e2))))))); omega
    · have := (unhide HO6).lt z (.inr (.inr (.inr (.inr (.inr (.inr (.inr (.inl e2)))))))); omega
    · have := (unhide HO6).lt z (.inr (.inr (.inr (.inr (.inr (.inr (.inr (.inr (.inl e2))))))))); omega
    · omega
  clear hm7 hb7 hz7 hsb hout hlow HO6 HT6 BX HFL HAT HZ56 c0 c1 c2 c3 c4 c5 c6 c7 c8 c9 c10 c11 c12
  have hst := (unhide HK).st
  have HST := hide hst
  clear hst
  go_wp2_with fail
  have htg := (unhide HK).tg
  have hatt := zzAttract_any d x' w2.heap.size sb w6.heap.size at' nt ct' ft vf dp w7 (unhide HS) (unhide HST) (unhide HM7) hnt (unhide HT7).row (fun i hi => ⟨htg.lo i hi, htg.hi i hi⟩) (unhide HOUT)
  refine hatt.mono ?_
  clear hatt htg
  rintro e w8 ⟨rfl, hm8, hc8⟩
  have HB8 := hide ((unhide HB7).trans (hc8.toBelow (unhide HB7).size (unhide HLOW)))
  have HT8 := hide ((unhide HT7).chg hc8 (unhide HOUT))
  have HZ8 : Hid (∀ k, wr4 x' sb k → k < w8.heap.size) := fun k h => Nat.lt_of_lt_of_le (unhide HZ7 k h) hc8.size
  have HM8 := hide hm8
  clear hm8 hc8 HM7 HT7 HB7 HZ7
  obtain ⟨s1, hs1⟩ : ∃ s1, s1 = attS d vf dp ft nt := ⟨_, rfl⟩
  obtain ⟨d1, hd1⟩ : ∃ d1, d1 = aft d vf dp ft nt := ⟨_, rfl⟩
  rw [← hd1] at HM8
  go_wp2_with fail
  refine (solverState_any d1 x' w2.heap.size sb w6.heap.size w8 (unhide HM8)).mono ?_
  rintro e w9 ⟨hso, hb9⟩
  obtain ⟨pA, hpA⟩ : ∃ p, p = x'.aA := ⟨_, rfl⟩
  have hso' : e = .returned (.tuple #[.slice x'.aL d.nL x'.cL, .slice x'.aW d.nW x'.cW, .slice pA d.nA x'.cA, .slice x'.aC d.nC x'.cC, .slice x'.aR d.nR x'.cR, .int .i32 (wrap32 (d.at_ + 1))]) := by
    rw [hpA]; rw [hd1] at hso; exact hso
  subst hso'
  have HM9 := hide ((unhide HM8).below hb9)
  have HT9 := hide ((unhide HT8).below hb9)
  have HB9 := hide ((unhide HB8).trans (hb9.mono (unhide HB8).size))
  have HZ9 : Hid (∀ k, wr4 x' sb k → k < w9.heap.size) := fun k h => Nat.lt_of_lt_of_le (unhide HZ8 k h) hb9.size
  have HPA := hide hpA
  have HD1 := hide hd1
  have HS1 := hide hs1
  clear hso hb9 HM8 HT8 HB8 HZ8 hpA hd1 hs1
  have hnA : ((d.nA : Int) != (d.nV : Int)) = false := by have h := (unhide HST).eA; rw [bne_eq_false_iff_eq]; omega
  have mk := make22 d.nV (by omega)
  obtain ⟨a1, ha1⟩ : ∃ a1, a1 = wrap32 (d.at_ + 1) := ⟨_, rfl⟩
  rw [← ha1]
  have HA1 := hide ha1
  clear ha1
  obtain ⟨g1, hg1⟩ : ∃ g1, g1 = mkG d vf dp := ⟨_, rfl⟩
  obtain ⟨i0, hi, hz0, hz1', hz2⟩ := info_parts info21
  have HLAW := hide (twice_all (vf := vf) (unhide HS) (unhide HK))
  rw [← hg1, ← unhide HS1, ← unhide HD1, ← unhide HA1] at HLAW
  have HGA : Hid (g1.a = a1) := by show _ = _; rw [hg1, unhide HA1]; rfl
  have HRA : Hid (0 < d.nV → ∃ gA, pA = some ⟨gA, 0, none⟩ ∧ gA < w9.heap.size ∧ w9.rowIs gA 21 d.nV (fun i => .int .i32 (s1.att i))) := fun h0 => by
    have h1 := (unhide HM9).own.oA
    rw [unhide HD1] at h1
    have h2 := (unhide HST).eA
    obtain ⟨gA, e, r⟩ := h1 (by show 0 < d.nA; omega)
    refine ⟨gA, (unhide HPA).trans e, r.lt, ?_⟩
    have r' : w9.rowIs gA 21 d.nA (fun i => .int .i32 ((attS d vf dp ft nt).att i)) := r
    rw [unhide HS1, ← h2]
    exact r'
  have HST1 : Hid (SSmall d1 ∧ StateOk d1 ∧ d1.at_ = a1 ∧ d1.nV = d.nV) := by
    have h1 := unhide HS
    have h2 := unhide HST
    show _ ∧ _
    rw [unhide HD1, unhide HA1]
    exact ⟨⟨h1.sV, h1.sP, h1.sSt, h1.sSu, h1.sL, h1.sW, h1.sA, h1.sC, h1.sR, h1.sPS, h1.sPr, h1.sVL⟩, ⟨h2.eL, h2.eA, h2.eC, h2.eR, h2.eS, h2.eP, h2.tr⟩, rfl, rfl⟩
  have HTG : Hid (∀ i, i < nt → ∃ m : Nat, m < d.nV ∧ ft i = m ∧ s1.att m = a1) := fun i hi => by
    have h1 := (unhide HK).tg.lo i hi
    have h2 := (unhide HK).tg.hi i hi
    refine ⟨toN ft i, ?_, ?_, (unhide HLAW).1 i hi⟩
    · unfold toN; omega
    · unfold toN; omega
  clear hg1
  go_wp2
  clear mk hnA
  go_loopw [20, 21] (fun q i wr => ∃ (v : Nat) (a : Option Addr) (c : Nat), v ≤ d.nV ∧ i = .int .i64 v ∧ q = .slice a (againL g1 s1 v).length c ∧ wr.ownsRow (w9.heap.size + 1) 21 1 (.slice a (againL g1 s1 v).length c) (againL g1 s1 v).length (qcells (againL g1 s1 v)) ∧ wr.rowIs w9.heap.size 4 d.nV (fun j => .bool (decide (j < v ∧ s1.att j = a1))) ∧ Below w9.heap.size w9 wr ∧ w9.heap.size + 1 ≤ wr.heap.size) (fun _ i _ => d.nV - (intOf i).toNat)
  case atStart =>
    refine ⟨0, none, 0, Nat.zero_le _, rfl, rfl, World.ownsRow_nil _ _ _ _, (World.rowIs_made w9 (.bool false) d.nV 4).congr (fun j _ => by simp), (Below.refl _ _).alloc (Nat.le_refl _) _, by simp⟩
  case round =>
    obtain ⟨v, a, c, hv, rfl, rfl, hq, hin, hb, hsz⟩ := hrel
    by_cases hvl : v < d.nV
    · obtain ⟨gA, haA, hgl, rA⟩ := unhide HRA (by omega)
      have cA : wr.cell? ⟨gA, v, none⟩ = some (.int .i32 (s1.att v)) := laterCell' (Chg.of_below hb) (by omega) (rA.cell hvl)
      have cI : wr.cell? ⟨w9.heap.size, v, none⟩ = some (.bool (decide (v < v ∧ s1.att v = a1))) := hin.cell hvl
      have fI : wr.frozen? ⟨w9.heap.size, v, none⟩ = false := hin.frozen v
      have hvA : (v : Int) < (d.nA : Int) := by have := (unhide HST).eA; omega
      have hlen := againL_len g1 s1 v
      have HB := hide hb
      have HIN := hide hin
      have HCL := hide hvl
      clear rA hb hin
      subst haA
      by_cases k : s1.att v = a1
      · have dk : (s1.att v == a1) = true := by rw [beq_iff_eq]; exact k
        have HL1 : Hid (againL g1 s1 (v + 1) = againL g1 s1 v ++ [v]) := by
          show againL g1 s1 v ++ _ = _
          rw [if_pos (by rw [unhide HGA]; exact k)]
        have HKK := hide k
        clear k
        go_wp2_with (at_builtin; go_must (refine wpList_append_lies _ rfl (.tmp 116) (.tmp 119) 23 rfl (w9.heap.size + 1) 21 i0 (.int .i32 0) 1 4 Try.underlying23 hi hz0 hz1' hz2 rfl (by decide) _ _ _ rfl ((ownsRow_setCell_below hq (Nat.lt_succ_self _) _).alloc _) ⟨wr.heap.size, 0, none⟩ 1 1 [.int .i32 (v : Nat)] rfl rfl (by first | exact cell_one_new _ _ _ | (have h := cell_one_new (wr.setCell ⟨w9.heap.size, v, none⟩ (.bool true)) (.int .i32 (v : Nat)) 21; simp only [World.size_setCell] at h; exact h)) (isz _ _) (by decide) (by unfold maxLen; omega) (by omega) (by simp; omega) (wr.heap.size + 1) (by simp) ?_; intro qb' qc' w2' hown' hgrow hat hlt2))
        go_roundw
        case rel =>
          have hszg := hgrow.size
          simp at hszg
          have hgr : ((wr.setCell ⟨w9.heap.size, v, none⟩ (.bool true)).alloc (.cells #[.int .i32 (v : Nat)] 21)).grownBy w2' (Value.slice a (againL g1 s1 v).length c).ownBlock := hgrow
          have hbl : ∀ m, (Value.slice a (againL g1 s1 v).length c).ownBlock = some m → w9.heap.size + 1 ≤ m := fun m hm => by
            cases a with
            | none => cases hm
            | some y => cases hm; exact (own_row hq).2 y rfl
          refine ⟨v + 1, some ⟨qb', 0, none⟩, qc', by have := unhide HCL; omega, by go_num, ?_, ?_, ?_, ?_, ?_⟩
          · rw [unhide HL1, List.length_append]; rfl
          · rw [unhide HL1, qcells_snoc, List.length_append]; exact hown'
          · have h1 := (unhide HIN).set v (.bool true)
            have h2 : w2'.heap[w9.heap.size]? = (wr.setCell ⟨w9.heap.size, v, none⟩ (.bool true)).heap[w9.heap.size]? := by
              rw [hgr.block _ (by simp; omega) (fun e => by have := hbl _ e.symm; omega), Below.heap_alloc _ _ _ (by simp; omega)]
            refine (h1.of_block h2).congr (fun j hj => ?_)
            have hk := unhide HKK
            by_cases e : j = v
            · subst e; rw [if_pos rfl]; simp [hk]
            · rw [if_neg e]
              have : (j < v + 1) = (j < v) := by apply propext; omega
              simp [this]
          · exact (((unhide HB).setCell (p := ⟨w9.heap.size, v, none⟩) (Nat.le_refl _) _).alloc (by simp; omega) _).grown hgr (by simp; omega) (fun m hm => by have := hbl m hm; omega)
          · omega
        case measure => have := unhide HCL; simp [intOf]; omega
      · have dk : (s1.att v == a1) = false := by rw [beq_eq_false_iff_ne]; exact k
        have HL1 : Hid (againL g1 s1 (v + 1) = againL g1 s1 v) := by
          show againL g1 s1 v ++ _ = _
          rw [if_neg (by rw [unhide HGA]; exact k), List.append_nil]
        have HKK := hide k
        have HQ := hide hq
        clear k hq
        go_wp2
        go_roundw
        case rel =>
          refine ⟨v + 1, a, c, by have := unhide HCL; omega, by go_num, by rw [unhide HL1], by rw [unhide HL1]; exact unhide HQ, (unhide HIN).congr (fun j hj => ?_), unhide HB, hsz⟩
          have hk := unhide HKK
          by_cases e : j = v
          · subst e; simp [hk]
          · have : (j < v + 1) = (j < v) := by apply propext; omega
            simp [this]
        case measure => have := unhide HCL; simp [intOf]; omega
    · have hve : v = d.nV := by omega
      subst hve
      have hoR := own_row hq
      have HOR := hide hoR
      have HIN := hide hin
      have HB := hide hb
      have hL := againL_len g1 s1 d.nV
      have HMEM : Hid (∀ m ∈ againL g1 s1 d.nV, m < d.nV) := fun m hm => ((againL_mem g1 s1 d.nV m).1 hm).1
      obtain ⟨L, hLL⟩ : ∃ L, L = againL g1 s1 d.nV := ⟨_, rfl⟩
      rw [← hLL] at HOR hL HMEM HLAW ⊢
      have HLL := hide hLL
      clear hoR hin hb hq hLL hvl
      go_wp2
      go_loop [123] (fun i => ∃ k : Nat, k ≤ nt ∧ i = .int .i64 k) (fun i => nt - (intOf i).toNat)
      case atStart => exact ⟨0, Nat.zero_le _, rfl⟩
      case round =>
        obtain ⟨k, hk, rfl⟩ := hrel
        by_cases hkl : k < nt
        · obtain ⟨bt, hat, rT⟩ := unhide HT9 (by omega)
          obtain ⟨m, hm, hfm, hsm⟩ := unhide HTG k hkl
          have cT : wr.cell? ⟨bt, k, none⟩ = some (.int .i32 (m : Nat)) := by rw [← hfm]; exact laterCell' (Chg.of_below (unhide HB)) (by have := rT.lt; omega) (rT.cell hkl)
          have cI : wr.cell? ⟨w9.heap.size, m, none⟩ = some (.bool true) := by
            have h := (unhide HIN).cell hm
            rw [h]
            simp [hm, hsm]
          have hki : (k : Int) < (nt : Int) := by omega
          clear rT hfm hsm
          subst hat
          go_wp2
          go_round
          case rel => exact ⟨k + 1, by omega, by go_num⟩
          case measure => simp [intOf]; omega
        · have hke : k = nt := by omega
          subst hke
          clear hk hkl
          go_wp2_with fail
          refine (zzAttract_any d1 x' w2.heap.size sb w6.heap.size a L.length c (asF L) vf dp wr (unhide HST1).1 (unhide HST1).2.1 ((unhide HM9).below (unhide HB)) (by omega) (unhide HOR).1 (fun i hi => ?_) (fun y e h => ?_)).mono ?_
          · rw [(unhide HST1).2.2.2]
            have h1 := unhide HMEM _ (List.getElem_mem hi)
            unfold asF
            rw [List.getD_eq_getElem?_getD, List.getElem?_eq_getElem hi]
            simp
            omega
          · have h1 := (unhide HOR).2 y e
            have h2 := unhide HZ9 _ h
            omega
          rintro e w11 ⟨he, hm11, hc11⟩
          rw [(unhide HST1).2.2.1] at he
          subst he
          have hc9 : ¬ wr4 x' sb w9.heap.size := fun h => by have := unhide HZ9 _ h; omega
          have HIN11 := hide ((unhide HIN).of_block (hc11.block _ (unhide HIN).lt hc9))
          have HB11 := hide (((unhide HB9).trans ((unhide HB).mono (unhide HB9).size)).trans (hc11.toBelow (Nat.le_trans (unhide HB9).size (unhide HB).size) (unhide HLOW)))
          have HM11 := hide hm11
          clear hm11 hc11 hc9 HIN HB HM9 HB9 HOR HRA HTG HT9
          go_wp2_with fail
          refine (solverState_any (aft d1 vf dp (asF L) L.length) x' w2.heap.size sb w6.heap.size w11 (unhide HM11)).mono ?_
          rintro e w12 ⟨hso, hb12⟩
          have hso' : e = .returned (.tuple #[.slice x'.aL d.nL x'.cL, .slice x'.aW d.nW x'.cW, .slice pA d.nA x'.cA, .slice x'.aC d.nC x'.cC, .slice x'.aR d.nR x'.cR, .int .i32 (wrap32 (a1 + 1))]) := by
            rw [unhide HPA, ← (unhide HST1).2.2.1]; rw [unhide HD1] at hso ⊢; exact hso
          subst hso'
          have HRA : Hid (0 < d.nV → ∃ gA, pA = some ⟨gA, 0, none⟩ ∧ w12.rowIs gA 21 d.nV (fun i => .int .i32 ((attS d1 vf dp (asF L) L.length).att i))) := fun h0 => by
            have h1 := ((unhide HM11).below hb12).own.oA
            have h2 := (unhide HST).eA
            have h3 : (aft d1 vf dp (asF L) L.length).nA = d.nA := by rw [unhide HD1]; rfl
            obtain ⟨gA, e, r⟩ := h1 (by omega)
            refine ⟨gA, (unhide HPA).trans e, ?_⟩
            rw [← h2, ← h3]
            exact r
          have HIN12 := hide ((unhide HIN11).of_block (hb12.block _ (unhide HIN11).lt))
          have HB12 := hide ((unhide HB11).trans (hb12.mono (unhide HB11).size))
          have hnA : ((d.nA : Int) != (d.nV : Int)) = false := by have h := (unhide HST).eA; rw [bne_eq_false_iff_eq]; omega
          clear hso hb12 HIN11 HB11 HM11
          go_wp2
          clear hnA
          go_loopw [25] (fun i wr => ∃ k : Nat, k ≤ d.nV ∧ i = .int .i64 k ∧ Hid (Below w12.heap.size w12 wr)) (fun i _ => d.nV - (intOf i).toNat)
          case atStart => exact ⟨0, Nat.zero_le _, rfl, Below.refl _ _⟩
          case round =>
            obtain ⟨k, hk, rfl, HW⟩ := hrel
            by_cases hkl : k < d.nV
            · obtain ⟨gA, haA, rA⟩ := unhide HRA (by omega)
              have cA : wr.cell? ⟨gA, k, none⟩ = some (.int .i32 ((attS d1 vf dp (asF L) L.length).att k)) := laterCell (unhide HW) (rA.cell hkl)
              have hvA : (k : Int) < (d.nA : Int) := by have := (unhide HST).eA; omega
              have hki : (k : Int) < (d.nV : Int) := by omega
              have hlaw := (unhide HLAW).2 k hkl
              obtain ⟨t2, ht2⟩ : ∃ t2, t2 = (attS d1 vf dp (asF L) L.length).att k := ⟨_, rfl⟩
              rw [← ht2] at cA hlaw
              clear rA ht2
              by_cases e : s1.att k = a1
              · have cI : wr.cell? ⟨w9.heap.size, k, none⟩ = some (.bool true) := by
                  refine laterCell (unhide HW) ?_
                  rw [(unhide HIN12).cell hkl]; simp [hkl, e]
                have dA : (t2 == wrap32 (a1 + 1)) = true := by rw [beq_iff_eq]; exact hlaw.2 e
                clear e hlaw
                subst haA
                go_wp2
                go_quiet (fail)
                go_wp2
                go_roundw
                case rel => exact ⟨k + 1, by omega, by go_num, (unhide HW).trans ((below_drawn _ _).mono (unhide HW).size)⟩
                case measure => simp [intOf]; omega
              · have cI : wr.cell? ⟨w9.heap.size, k, none⟩ = some (.bool false) := by
                  refine laterCell (unhide HW) ?_
                  rw [(unhide HIN12).cell hkl]; simp [e]
                have dA : (t2 == wrap32 (a1 + 1)) = false := by rw [beq_eq_false_iff_ne]; exact fun h => e (hlaw.1 h)
                clear e hlaw
                subst haA
                go_wp2
                go_quiet (fail)
                go_wp2
                go_roundw
                case rel => exact ⟨k + 1, by omega, by go_num, (unhide HW).trans ((below_drawn _ _).mono (unhide HW).size)⟩
                case measure => simp [intOf]; omega
            · have hke : k = d.nV := by omega
              subst hke
              go_wp2
              go_ret
              exact ⟨rfl, (unhide HB12).trans ((unhide HW).mono (unhide HB12).size)⟩

end Go.Proofs.Qxb6605408a
