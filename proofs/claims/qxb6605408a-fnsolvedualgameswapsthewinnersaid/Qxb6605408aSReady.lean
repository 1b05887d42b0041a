import Derived.Test.Qxb6605408aCalls
import Derived.Test.Qxb6605408aLEnv
namespace Go.Proofs.Qxb6605408a
open Go.RowKit
set_option linter.unusedVariables false

theorem results_tmp4 {fn : Func} {a b c d : Tmp} (h : fn.results = #[.tmp a, .tmp b, .tmp c, .tmp d]) (tmps : Array Value) (P : Program) (w : World) :
    (results fn tmps).run P w = .ok (.tuple #[tmps.getD a undef, tmps.getD b undef, tmps.getD c undef, tmps.getD d undef]) w := by
  simp [results, h]

/-- what solveReady answers -/
structure SReady (w : World) (d : SD) (nt : Nat) (ft : Nat → Int) (a : Option Addr) (n : Nat) (w' : World) : Prop where
  st : StateOk d
  nP : d.nP = d.nV
  nW : d.nW = d.nV
  tg : ∀ i, i < nt → 0 ≤ ft i ∧ ft i < d.nV
  inV : ∃ g, a = some ⟨g, 0, none⟩ ∧ n = d.nV ∧ w.heap.size ≤ g ∧ w'.rowIs g 4 d.nV (fun v => .bool (seenTo ft nt v))
def SReadySays (w : World) (d : SD) (nt : Nat) (ft : Nat → Int) (e : Ending) (w' : World) : Prop := (∃ (a : Option Addr) (n c : Nat) (ps : Value) (z : Int) (r : Bool), e = .returned (.tuple #[.slice a n c, ps, .int .i64 z, .bool r]) ∧ (r = true → SReady w d nt ft a n w')) ∧ Below w.heap.size w w'
theorem sready_no {w w' : World} {d : SD} {nt : Nat} {ft : Nat → Int} (h : Below w.heap.size w w') : SReadySays w d nt ft (.returned (.tuple #[.slice none 0 0, .slice none 0 0, .int .i64 0, .bool false])) w' := ⟨⟨none, 0, 0, _, 0, false, rfl, fun h => by cases h⟩, h⟩

def icells (L : List Int) : List Value := L.map fun z => Value.int .i32 z
theorem icells_get {L : List Int} {i : Nat} (h : i < L.length) : (icells L)[i]? = some (.int .i32 (L.getD i 0)) := by simp [icells, h, List.getD_eq_getElem?_getD]
theorem icells_snoc (L : List Int) (z : Int) : icells (L ++ [z]) = icells L ++ [.int .i32 z] := by simp [icells]
theorem icells_set (L : List Int) (j : Nat) (z : Int) : icells (L.set j z) = (icells L).set j (.int .i32 z) := by simp [icells, List.map_set]

theorem own_unfrozen {w : World} {B n g cap : Nat} {xs : List Value} (h : w.ownsRow B 21 1 (.slice (some ⟨g, 0, none⟩) n cap) n xs) (i : Nat) : w.frozen? ⟨g, i, none⟩ = false := by
  rcases h.2 with ⟨h3, _⟩ | ⟨g', cap', cur, hv, hg, hh, _⟩
  · cases h3
  · injection hv with e1 e2 e3
    injection e1 with e1
    injection e1 with e1
    subst e1
    exact Joins.unfrozen_of_block hh i

attribute [local go_sem ↓] Go.wp_at_zero Go.wp_at_succ

set_option maxRecDepth 100000 in
set_option maxHeartbeats 16000000 in
theorem sready_any (d : SD) (x : SA) (at1 : Option Addr) (nt ct : Nat) (ft : Nat → Int) (dp : Int) (w : World) (hs : SSmall d) (hr : SRows w d x) (ht : nt ≤ 1048576) (rt : Row w at1 nt (fun i => .int .i32 (ft i))) (it : I32 ft)
    (iS : I32 d.fSt) (iU : I32 d.fSu) (iP : I32 d.fPS) (iR : I32 d.fPr) :
    Calls Try.prog 19 #[.agg (vals d x), .slice at1 nt ct, .int .i32 dp] w (SReadySays w d nt ft) := by
  show Calls Try.prog 19 #[.agg #[.slice x.aV d.nV x.cV, .slice x.aP d.nP x.cP, .slice x.aSt d.nSt x.cSt, .slice x.aSu d.nSu x.cSu, .slice x.aL d.nL x.cL, .slice x.aW d.nW x.cW, .slice x.aA d.nA x.cA, .slice x.aC d.nC x.cC, .slice x.aR d.nR x.cR, .int .i32 d.at_, .slice x.aPS d.nPS x.cPS, .slice x.aPr d.nPr x.cPr, .slice x.aVL d.nVL x.cVL], .slice at1 nt ct, .int .i32 dp] w _
  obtain ⟨W0, hW0⟩ : ∃ W, W = w.alloc (.cells (vals d x) 25) := ⟨_, rfl⟩
  have hb0 : Below w.heap.size w W0 := by rw [hW0]; exact (Below.refl _ _).alloc (Nat.le_refl _) _
  have hbx : Box W0 w.heap.size d x := by rw [hW0]; exact box_new w d x
  have HSTATE := hide (state_any d x W0 hs (hr.below hb0) iS iU iP iR)
  have HR := hide (hr.below hb0)
  have HT := hide (rt.below hb0)
  have HB0 := hide hb0
  have BX := hide hbx
  have HS := hide hs
  have hnV := hs.sV
  have HIT := hide it
  simp only [vals] at hW0
  clear hr rt hb0 hbx hs it iS iU iP iR
  go_enter Try.func19, Try.ntmps19
  go_wp2_with fail
  rw [← hW0]
  clear hW0
  refine (unhide HSTATE).mono ?_
  clear HSTATE
  rintro e w1 ⟨⟨r, rfl, hr1⟩, hb1⟩
  obtain ⟨c0, c1, c2, c3, c4, c5, c6, c7, c8, c9, c10, c11, c12⟩ := ((unhide BX).below hb1).cells
  have BX1 := hide ((unhide BX).below hb1)
  have HR1 := hide ((unhide HR).below hb1)
  have HT1 := hide ((unhide HT).below hb1)
  have HB1 := hide ((unhide HB0).trans (hb1.mono (unhide HB0).size))
  have HST := hide hr1
  clear hb1 hr1 BX HR HT HB0
  cases r
  case false =>
    go_wp2
    (try simp only [Exit.inBlock, Exit.then])
    refine bodyPost_ret (results_tmp4 rfl _ _ _) rfl ?_
    exact sready_no (unhide HB1)
  have hst := unhide HST rfl
  have HST1 := hide hst
  clear hst HST
  by_cases kP : d.nP = d.nV
  case neg =>
    have dP : ((d.nP : Int) != (d.nV : Int)) = true := by rw [bne_iff_ne]; omega
    go_wp2
    (try simp only [Exit.inBlock, Exit.then])
    refine bodyPost_ret (results_tmp4 rfl _ _ _) rfl ?_
    exact sready_no (unhide HB1)
  have dP : ((d.nP : Int) != (d.nV : Int)) = false := by rw [bne_eq_false_iff_eq]; omega
  have KP := hide kP
  clear kP
  by_cases kW : d.nW = d.nV
  case neg =>
    have dW : ((d.nW : Int) != (d.nV : Int)) = true := by rw [bne_iff_ne]; omega
    go_wp2
    (try simp only [Exit.inBlock, Exit.then])
    refine bodyPost_ret (results_tmp4 rfl _ _ _) rfl ?_
    exact sready_no (unhide HB1)
  have dW : ((d.nW : Int) != (d.nV : Int)) = false := by rw [bne_eq_false_iff_eq]; omega
  have KW := hide kW
  clear kW
  have mk := make22 d.nV (by omega)
  by_cases e0 : dp = -2147483648
  · have y0 : (dp == -2147483648) = true := by rw [beq_iff_eq]; exact e0
    clear e0
    go_wp2
    (try simp only [Exit.inBlock, Exit.then])
    refine bodyPost_ret (results_tmp4 rfl _ _ _) rfl ?_
    exact sready_no (unhide HB1)
  have y0 : (dp == -2147483648) = false := by rw [beq_eq_false_iff_ne]; exact e0
  clear e0
  cases e1 : decide (2147483647 < wrap64 (wrap64 (wrap64 dp + (nt : Int)) + 1))
  case true =>
    go_wp2
    (try simp only [Exit.inBlock, Exit.then])
    refine bodyPost_ret (results_tmp4 rfl _ _ _) rfl ?_
    exact sready_no (unhide HB1)
  go_wp2
  clear y0 e1
  clear mk dP dW c0 c1 c2 c3 c4 c5 c6 c7 c8 c9 c10 c11 c12
  go_loopw [61] (fun i wr => ∃ j : Nat, j ≤ nt ∧ i = .int .i64 j ∧ Hid (∀ m, m < j → 0 ≤ ft m ∧ ft m < d.nV) ∧ Hid (wr.rowIs w1.heap.size 4 d.nV (fun v => .bool (seenTo ft j v))) ∧ Hid (Below w1.heap.size w1 wr) ∧ w1.heap.size + 1 ≤ wr.heap.size) (fun i _ => nt - (intOf i).toNat)
  case atStart => exact ⟨0, Nat.zero_le _, rfl, fun m hm => by omega, World.rowIs_made w1 (.bool false) d.nV 4, (Below.refl _ _).alloc (Nat.le_refl _) _, by simp⟩
  case round =>
    obtain ⟨j, hj, rfl, HAL, HROW, HBR, hsz⟩ := hrel
    by_cases hjl : j < nt
    · as_aux_lemma =>
      obtain ⟨bt, ot, hat, hbt, hct⟩ := unhide HT1 (by omega)
      have gt : wr.cell? ⟨bt, ot + j, none⟩ = some (.int .i32 (ft j)) := laterCell (unhide HBR) (hct j hjl)
      have itj := unhide HIT j
      have hji : (j : Int) < (nt : Int) := by omega
      clear hct
      subst hat
      by_cases c1 : ft j < 0
      · have d1 : decide (ft j < 0) = true := by simpa using c1
        go_wp2
        (try simp only [Exit.inBlock, Exit.then])
        refine bodyPost_ret (results_tmp4 rfl _ _ _) rfl ?_
        exact sready_no ((unhide HB1).trans ((unhide HBR).mono (unhide HB1).size))
      have d1 : decide (ft j < 0) = false := by simpa using c1
      by_cases c2 : (d.nV : Int) ≤ ft j
      · have d2 : decide ((d.nV : Int) ≤ ft j) = true := by simpa using c2
        go_wp2
        (try simp only [Exit.inBlock, Exit.then])
        refine bodyPost_ret (results_tmp4 rfl _ _ _) rfl ?_
        exact sready_no ((unhide HB1).trans ((unhide HBR).mono (unhide HB1).size))
      have d2 : decide ((d.nV : Int) ≤ ft j) = false := by simpa using c2
      obtain ⟨q, hq⟩ : ∃ q : Nat, ft j = q := ⟨(ft j).toNat, by omega⟩
      have hqn : q < d.nV := by omega
      have gs : wr.cell? ⟨w1.heap.size, q, none⟩ = some (.bool (seenTo ft j q)) := (unhide HROW).cell hqn
      have gf : wr.frozen? ⟨w1.heap.size, q, none⟩ = false := (unhide HROW).frozen q
      rw [hq] at gt d1 d2 itj
      have hqi : (q : Int) < (d.nV : Int) := by omega
      have hq' := hide hq
      clear hq c1 c2
      cases hseen : seenTo ft j q
      · rw [hseen] at gs
        clear hseen
        go_wp2
        go_roundw
        case rel =>
          refine ⟨j + 1, by omega, by go_num, fun m hm => ?_, ?_, (unhide HBR).setCell (p := ⟨w1.heap.size, q, none⟩) (Nat.le_refl _) _, by simpa using hsz⟩
          · by_cases e : m = j
            · subst e
              rw [unhide hq']
              omega
            · exact unhide HAL m (by omega)
          · refine ((unhide HROW).set q _).congr (fun v hv => ?_)
            by_cases e : v = q
            · subst e
              rw [if_pos rfl]
              simp [seenTo, unhide hq']
            · rw [if_neg e]
              have : ¬ ((q : Int) = (v : Int)) := fun h => e (by omega)
              simp [seenTo, unhide hq', this]
        case measure => simp [intOf]; omega
      · rw [hseen] at gs
        go_wp2
        (try simp only [Exit.inBlock, Exit.then])
        refine bodyPost_ret (results_tmp4 rfl _ _ _) rfl ?_
        exact sready_no ((unhide HB1).trans ((unhide HBR).mono (unhide HB1).size))
    · have hje : j = nt := by omega
      subst hje
      obtain ⟨w2, rfl⟩ : ∃ w2, w2 = wr := ⟨_, rfl⟩
      have BX2 := hide ((unhide BX1).below (unhide HBR))
      have HR2 := hide ((unhide HR1).below (unhide HBR))
      have HT2 := hide ((unhide HT1).below (unhide HBR))
      have HB2 := hide ((unhide HB1).trans ((unhide HBR).mono (unhide HB1).size))
      have hlow : Hid (w.heap.size ≤ w1.heap.size) := (unhide HB1).size
      have hdS := (unhide HS).sSu
      clear BX1 HR1 HT1 HB1 HBR hj hjl
      go_wp2
      go_loopw [15] (fun i wr => ∃ v : Nat, v ≤ d.nV ∧ i = .int .i64 v ∧ Hid (Below w2.heap.size w2 wr)) (fun i _ => d.nV - (intOf i).toNat)
      case atStart => exact ⟨0, Nat.zero_le _, rfl, Below.refl _ _⟩
      case round =>
        obtain ⟨v, hv, rfl, HBV⟩ := hrel
        have HBO : Hid (Below w.heap.size w (wr)) := (unhide HB2).trans ((unhide HBV).mono (unhide HB2).size)
        by_cases hvl : v < d.nV
        · as_aux_lemma =>
          have hst := unhide HST1
          have rows := (unhide HR2).below (unhide HBV)
          obtain ⟨c0, c1, c2, c3, c4, c5, c6, c7, c8, c9, c10, c11, c12⟩ := ((unhide BX2).below (unhide HBV)).cells
          obtain ⟨bA, oA, haA, hbA, hcA⟩ := rows.rA (by have := hst.eA; omega)
          obtain ⟨bC, oC, haC, hbC, hcC⟩ := rows.rC (by have := hst.eC; omega)
          obtain ⟨bL, oL, haL, hbL, hcL⟩ := rows.rL (by have := hst.eL; omega)
          have k6 : wr.cell? ⟨w.heap.size, 6, none⟩ = some (.slice (some ⟨bA, oA, none⟩) d.nA x.cA) := by rw [← haA]; exact c6
          have k7 : wr.cell? ⟨w.heap.size, 7, none⟩ = some (.slice (some ⟨bC, oC, none⟩) d.nC x.cC) := by rw [← haC]; exact c7
          have k4 : wr.cell? ⟨w.heap.size, 4, none⟩ = some (.slice (some ⟨bL, oL, none⟩) d.nL x.cL) := by rw [← haL]; exact c4
          have qA : wr.cell? ⟨bA, oA + v, none⟩ = some (.int .i32 (d.fA v)) := hcA v (by have := hst.eA; omega)
          have qC : wr.cell? ⟨bC, oC + v, none⟩ = some (.int .i32 (d.fC v)) := hcC v (by have := hst.eC; omega)
          have qL : wr.cell? ⟨bL, oL + v, none⟩ = some (.int .i32 (d.fL v)) := hcL v (by have := hst.eL; omega)
          have qI : wr.cell? ⟨w1.heap.size, v, none⟩ = some (.bool (seenTo ft j v)) := laterCell (unhide HBV) ((unhide HROW).cell hvl)
          have iA : (v : Int) < (d.nA : Int) := by have := hst.eA; omega
          have iC : (v : Int) < (d.nC : Int) := by have := hst.eC; omega
          have iL : (v : Int) < (d.nL : Int) := by have := hst.eL; omega
          have iV : (v : Int) < (d.nV : Int) := by omega
          have HROWS := hide rows
          have k9 := c9
          have k2 := c2
          have k3 := c3
          have HC23 := hide (And.intro k2 k3)
          clear rows hcA hcC hcL haA haC haL hst k2 k3 c0 c1 c2 c3 c4 c5 c6 c7 c8 c9 c10 c11 c12
          by_cases z1 : d.at_ < d.fA v
          · have y1 : decide (d.at_ < d.fA v) = true := by simpa using z1
            clear z1
            go_wp2
            go_quiet (fail)
            go_wp2
            (try simp only [Exit.inBlock, Exit.then])
            refine bodyPost_ret (results_tmp4 rfl _ _ _) rfl ?_
            exact sready_no ((unhide HBO).trans ((below_drawn _ _).mono (unhide HBO).size))
          have y1 : decide (d.at_ < d.fA v) = false := by simpa using z1
          clear z1
          by_cases z2 : d.at_ < d.fC v
          · have y2 : decide (d.at_ < d.fC v) = true := by simpa using z2
            clear z2
            go_wp2
            go_quiet (fail)
            go_wp2
            (try simp only [Exit.inBlock, Exit.then])
            refine bodyPost_ret (results_tmp4 rfl _ _ _) rfl ?_
            exact sready_no ((unhide HBO).trans ((below_drawn _ _).mono (unhide HBO).size))
          have y2 : decide (d.at_ < d.fC v) = false := by simpa using z2
          clear z2
          cases hsee : seenTo ft j v
          case false =>
            rw [hsee] at qI
            clear hsee
            by_cases z3 : dp ≤ d.fL v
            · have y3 : decide (dp ≤ d.fL v) = true := by simpa using z3
              clear z3
              go_wp2
              go_quiet (fail)
              go_wp2
              (try simp only [Exit.inBlock, Exit.then])
              refine bodyPost_ret (results_tmp4 rfl _ _ _) rfl ?_
              exact sready_no ((unhide HBO).trans ((below_drawn _ _).mono (unhide HBO).size))
            · have y3 : decide (dp ≤ d.fL v) = false := by simpa using z3
              clear z3
              go_wp2
              go_quiet (fail)
              go_wp2
              go_roundw
              case rel => exact ⟨v + 1, by omega, by go_num, (unhide HBV).trans ((below_drawn _ _).mono (unhide HBV).size)⟩
              case measure => simp [intOf]; omega
          rw [hsee] at qI
          clear hsee
          by_cases z4 : d.fL v = dp
          case neg =>
            have y4 : (d.fL v != dp) = true := by rw [bne_iff_ne]; exact z4
            clear z4
            go_wp2
            go_quiet (fail)
            go_wp2
            (try simp only [Exit.inBlock, Exit.then])
            refine bodyPost_ret (results_tmp4 rfl _ _ _) rfl ?_
            exact sready_no ((unhide HBO).trans ((below_drawn _ _).mono (unhide HBO).size))
          have y4 : (d.fL v != dp) = false := by rw [bne_eq_false_iff_eq]; exact z4
          clear z4
          have hln := lnum_of (unhide HST1) true dp
          obtain ⟨bS, oS, haS, hbS, hcS⟩ := row_toN (unhide HST1).eS (unhide HROWS).rSt (by omega)
          have s0' : wr.cell? ⟨bS, oS + v, none⟩ = some (.int .i32 (toN d.fSt v : Nat)) := hcS v (by omega)
          have s1' : wr.cell? ⟨bS, oS + (v + 1), none⟩ = some (.int .i32 (toN d.fSt (v + 1) : Nat)) := hcS (v + 1) (by omega)
          have k2 : wr.cell? ⟨w.heap.size, 2, none⟩ = some (.slice (some ⟨bS, oS, none⟩) d.nSt x.cSt) := by rw [← haS]; exact (unhide HC23).1
          have hS0 := toN_mono (unhide HST1).eS 0 v (by omega) (by omega)
          have hS1 := toN_mono (unhide HST1).eS v (v + 1) (by omega) (by omega)
          have hS2 := toN_mono (unhide HST1).eS (v + 1) d.nV (by omega) (Nat.le_refl _)
          have hS3 := toN_end (unhide HST1).eS
          have iS : (v : Int) + 1 < (d.nSt : Int) := by have := (unhide HST1).eS.len; omega
          have iS' : (v : Int) < (d.nSt : Int) := by omega
          clear hcS hln haS
          go_wp2
          go_quiet (fail)
          go_wp2
          go_loopw [16, 17] (fun b e wr' => ∃ (st : Bool) (e0 : Nat), toN d.fSt v ≤ e0 ∧ e0 ≤ toN d.fSt (v + 1) ∧ e = .int .i64 e0 ∧ b = .bool st ∧ Hid (Below w2.heap.size w2 wr')) (fun _ e _ => toN d.fSt (v + 1) - (intOf e).toNat)
          case atStart => exact ⟨false, toN d.fSt v, Nat.le_refl _, hS1, rfl, rfl, (unhide HBV).trans ((below_drawn _ _).mono (unhide HBV).size)⟩
          case round =>
            clear s0' s1' k2 qA qC qL qI k6 k7 k4 k9 y1 y2 y4 HROWS HC23 HBV HBO
            obtain ⟨st, e0, he1, he2, rfl, rfl, HBV⟩ := hrel
            have rows := (unhide HR2).below (unhide HBV)
            obtain ⟨c0, c1, c2, c3, c4, c5, c6, c7, c8, c9, c10, c11, c12⟩ := ((unhide BX2).below (unhide HBV)).cells
            obtain ⟨bS, oS, haS, hbS, hcS⟩ := row_toN (unhide HST1).eS rows.rSt (by omega)
            have s1' : wr.cell? ⟨bS, oS + (v + 1), none⟩ = some (.int .i32 (toN d.fSt (v + 1) : Nat)) := hcS (v + 1) (by omega)
            have k2 : wr.cell? ⟨w.heap.size, 2, none⟩ = some (.slice (some ⟨bS, oS, none⟩) d.nSt x.cSt) := by rw [← haS]; exact c2
            have HBO : Hid (Below w.heap.size w (wr)) := (unhide HB2).trans ((unhide HBV).mono (unhide HB2).size)
            by_cases hel : e0 < toN d.fSt (v + 1)
            · obtain ⟨bd, od, had, hbd, hcd⟩ := part_of (unhide HST1).eS rows.rSu (by omega)
              obtain ⟨x0, hx0⟩ : ∃ x0, x0 = toN d.fSu e0 := ⟨_, rfl⟩
              have k3 : wr.cell? ⟨w.heap.size, 3, none⟩ = some (.slice (some ⟨bd, od, none⟩) d.nSu x.cSu) := by rw [← had]; exact c3
              have cx : wr.cell? ⟨bd, od + e0, none⟩ = some (.int .i32 (x0 : Nat)) := by rw [hx0]; exact hcd e0 (by omega) (by omega)
              have hxn : x0 < d.nV := by rw [hx0]; exact toN_to (unhide HST1).eS e0 (by omega) (by omega)
              have cI : wr.cell? ⟨w1.heap.size, x0, none⟩ = some (.bool (seenTo ft j x0)) := laterCell (unhide HBV) ((unhide HROW).cell hxn)
              have hei : (e0 : Int) < (toN d.fSt (v + 1) : Int) := by omega
              have hes : (e0 : Int) < (d.nSu : Int) := by omega
              have hxi : (x0 : Int) < (d.nV : Int) := by omega
              clear rows hcS hcd haS had hx0 c0 c1 c2 c3 c4 c5 c6 c7 c8 c9 c10 c11 c12
              cases hsx : seenTo ft j x0
              · rw [hsx] at cI
                clear hsx
                go_wp2
                (try (go_quiet (fail)))
                (try go_wp2)
                go_roundw
                case rel => exact ⟨st, e0 + 1, by omega, by omega, by go_num, rfl, by first | exact HBV | exact (unhide HBV).trans ((below_drawn _ _).mono (unhide HBV).size)⟩
                case measure => simp [intOf]; omega
              · rw [hsx] at cI
                clear hsx
                go_wp2
                (try (go_quiet (fail)))
                (try go_wp2)
                go_roundw
                case rel => exact ⟨true, e0 + 1, by omega, by omega, by go_num, rfl, by first | exact HBV | exact (unhide HBV).trans ((below_drawn _ _).mono (unhide HBV).size)⟩
                case measure => simp [intOf]; omega
            · have hee : e0 = toN d.fSt (v + 1) := by omega
              subst hee
              clear rows hcS haS c0 c1 c2 c3 c4 c5 c6 c7 c8 c9 c10 c11 c12
              cases st
              · go_wp2
                (try simp only [Exit.inBlock, Exit.then])
                refine bodyPost_ret (results_tmp4 rfl _ _ _) rfl ?_
                exact sready_no (unhide HBO)
              · go_wp2
                go_roundw
                case rel => exact ⟨v + 1, by omega, by go_num, HBV⟩
                case measure => simp [intOf]; omega
        · have hve : v = d.nV := by omega
          subst hve
          obtain ⟨w3, rfl⟩ : ∃ w3, w3 = wr := ⟨_, rfl⟩
          have HROW3 : Hid (w3.rowIs w1.heap.size 4 d.nV (fun v => .bool (seenTo ft j v))) := (unhide HROW).of_block ((unhide HBV).block _ (unhide HROW).lt)
          have hlt13 : w1.heap.size < w3.heap.size := (unhide HROW3).lt
          have HB3 := hide ((unhide HB2).trans ((unhide HBV).mono (unhide HB2).size))
          have BX3 := hide ((unhide BX2).below (unhide HBV))
          have HR3 := hide ((unhide HR2).below (unhide HBV))
          have HT3 := hide ((unhide HT2).below (unhide HBV))
          obtain ⟨ii, hi, hz0, hz1', hz2⟩ := info_parts info21
          clear HBO BX2 HR2 HT2 HB2 HBV HROW
          go_wp2
          go_loopw [18, 154] (fun p i wr => ∃ (n : Nat) (Lp : List Int) (a : Option Addr) (c : Nat), n ≤ j ∧ i = .int .i64 n ∧ p = .slice a Lp.length c ∧ Lp.length ≤ n ∧ Hid (wr.ownsRow w3.heap.size 21 1 (.slice a Lp.length c) Lp.length (icells Lp)) ∧ Hid (Below w3.heap.size w3 wr)) (fun _ i _ => j - (intOf i).toNat)
          case atStart => exact ⟨0, [], none, 0, Nat.zero_le _, rfl, rfl, Nat.le_refl _, World.ownsRow_nil _ _ _ _, Below.refl _ _⟩
          case round =>
            obtain ⟨n, Lp, a, c, hn, rfl, rfl, hlp, HOWN, HB4⟩ := hrel
            by_cases hnl : n < j
            · as_aux_lemma =>
              obtain ⟨q, hq⟩ : ∃ q : Nat, ft n = q := ⟨(ft n).toNat, by have := (unhide HAL n hnl).1; omega⟩
              have hqn : q < d.nP := by have := (unhide HAL n hnl).2; have := unhide KP; omega
              obtain ⟨bt, ot, hat, hbt, hct⟩ := (unhide HT3).below (unhide HB4) (by omega)
              obtain ⟨bp, op, hap, hbp, hcp⟩ := ((unhide HR3).below (unhide HB4)).rP (by omega)
              have cT : wr.cell? ⟨bt, ot + n, none⟩ = some (.int .i32 (q : Nat)) := by rw [← hq]; exact hct n hnl
              have cP : wr.cell? ⟨bp, op + q, none⟩ = some (.int .i32 (d.fP q)) := hcp q hqn
              have k1 : wr.cell? ⟨w.heap.size, 1, none⟩ = some (.slice (some ⟨bp, op, none⟩) d.nP x.cP) := by rw [← hap]; exact ((unhide BX3).below (unhide HB4)).c 1 (by omega)
              have hni : (n : Int) < (j : Int) := by omega
              have hqi : (q : Int) < (d.nP : Int) := by omega
              clear hq hct hcp hap
              subst hat
              go_wp2
              go_loop [22] (fun i => ∃ i0 : Nat, i0 ≤ Lp.length ∧ i = .int .i64 i0) (fun i => Lp.length - (intOf i).toNat)
              case atStart => exact ⟨0, Nat.zero_le _, rfl⟩
              case round =>
                clear cT cP k1
                obtain ⟨i0, hi0, rfl⟩ := hrel
                by_cases hil : i0 < Lp.length
                · obtain ⟨g, hag⟩ : ∃ g, a = some ⟨g, 0, none⟩ := by
                    rcases (unhide HOWN).2 with ⟨h3, h4⟩ | ⟨g, cap, cur, hv, hg, _⟩
                    · omega
                    · injection hv with e1 e2 e3; exact ⟨g, e1⟩
                  subst hag
                  obtain ⟨pz, hpz⟩ : ∃ pz, pz = Lp.getD i0 0 := ⟨_, rfl⟩
                  have cp : wr.cell? ⟨g, i0, none⟩ = some (.int .i32 pz) := by rw [(unhide HOWN).cellAt i0 (by omega), icells_get hil, hpz]
                  clear hpz
                  have hili : (i0 : Int) < (Lp.length : Int) := by omega
                  by_cases z1 : pz < d.fP q
                  · have y1 : decide (pz < d.fP q) = true := by simpa using z1
                    clear z1
                    go_wp2
                    go_round
                    case rel => exact ⟨i0 + 1, by omega, by go_num⟩
                    case measure => simp [intOf]; omega
                  have y1 : decide (pz < d.fP q) = false := by simpa using z1
                  clear z1
                  by_cases z2 : pz = d.fP q
                  · have y2 : (pz == d.fP q) = true := by rw [beq_iff_eq]; exact z2
                    clear z2
                    go_wp2
                    go_roundw
                    case rel => exact ⟨n + 1, Lp, some ⟨g, 0, none⟩, c, by omega, by go_num, rfl, by omega, HOWN, HB4⟩
                    case measure => simp [intOf]; omega
                  have y2 : (pz == d.fP q) = false := by rw [beq_eq_false_iff_ne]; exact z2
                  clear z2
                  have hsz3 := (unhide HB4).size
                  go_wp2_with (at_builtin; go_must (refine wpList_append_lies _ rfl (.tmp 189) (.tmp 190) 23 rfl w3.heap.size 21 ii (.int .i32 0) 1 4 Try.underlying23 hi hz0 hz1' hz2 rfl (by decide) _ _ _ rfl ((unhide HOWN).alloc _) ⟨wr.heap.size, 0, none⟩ 1 1 [.int .i32 0] rfl rfl (by first | exact cell_one_new _ _ _) (isz _ _) (by decide) (by unfold maxLen; omega) (by omega) (by simp; omega) (wr.heap.size + 1) (by simp) ?_; intro g' cap' w4 hown' hgrow hat' hlt4))
                  have HOWN4 : Hid (w4.ownsRow w3.heap.size 21 1 (.slice (some ⟨g', 0, none⟩) (Lp.length + 1) cap') (Lp.length + 1) (icells (Lp ++ [0]))) := by show World.ownsRow _ _ _ _ _ _ _; rw [icells_snoc]; exact hown'
                  have HB44 : Hid (Below w3.heap.size w3 w4) := ((unhide HB4).alloc (by omega) _).grown hgrow (by simp; omega) (fun k hk => by
                    rcases (unhide HOWN).2 with ⟨h3, _⟩ | ⟨g, cap, cur, hv, hg, _⟩
                    · rw [h3] at hk; cases hk
                    · rw [hv] at hk; cases hk; exact hg)
                  clear hown' hgrow hat' hlt4 hili
                  go_loopw [23] (fun jj wr => ∃ (j0 : Nat) (Lq : List Int), i0 ≤ j0 ∧ j0 ≤ Lp.length ∧ jj = .int .i64 j0 ∧ Lq.length = Lp.length + 1 ∧ Hid (wr.ownsRow w3.heap.size 21 1 (.slice (some ⟨g', 0, none⟩) (Lp.length + 1) cap') (Lp.length + 1) (icells Lq)) ∧ Hid (Below w3.heap.size w3 wr)) (fun jj _ => (intOf jj).toNat)
                  case atStart => exact ⟨Lp.length, Lp ++ [0], by omega, Nat.le_refl _, by go_num, by simp, HOWN4, HB44⟩
                  case round =>
                    clear HOWN4 HB44 HB4 HOWN
                    obtain ⟨j0, Lq, hj1, hj2, rfl, hlq, HOQ, HBQ⟩ := hrel
                    have hgb : w3.heap.size ≤ g' := by
                      rcases (unhide HOQ).2 with ⟨h3, _⟩ | ⟨g, cap, cur, hv, hg, _⟩
                      · cases h3
                      · injection hv with e1 e2 e3; injection e1 with e1; injection e1 with e1; omega
                    by_cases hjl : i0 < j0
                    · obtain ⟨j1, rfl⟩ : ∃ j1, j0 = j1 + 1 := ⟨j0 - 1, by omega⟩
                      obtain ⟨pz, hpz⟩ : ∃ pz, pz = Lq.getD j1 0 := ⟨_, rfl⟩
                      have q1 : wr.cell? ⟨g', j1, none⟩ = some (.int .i32 pz) := by rw [(unhide HOQ).cellAt j1 (by omega), icells_get (by omega), hpz]
                      clear hpz
                      obtain ⟨pz2, hpz2⟩ : ∃ pz2, pz2 = Lq.getD (j1 + 1) 0 := ⟨_, rfl⟩
                      have q2 : wr.cell? ⟨g', j1 + 1, none⟩ = some (.int .i32 pz2) := by rw [(unhide HOQ).cellAt (j1 + 1) (by omega), icells_get (by omega), hpz2]
                      clear hpz2
                      have q3 : wr.frozen? ⟨g', j1 + 1, none⟩ = false := own_unfrozen (unhide HOQ) _
                      have ji : (i0 : Int) < ((j1 + 1 : Nat) : Int) := by omega
                      go_wp2
                      go_roundw
                      case rel => exact ⟨j1, Lq.set (j1 + 1) pz, by omega, by omega, by go_num, by rw [List.length_set]; exact hlq, by rw [icells_set]; exact own_store (unhide HOQ) (by omega), (unhide HBQ).setCell (p := ⟨g', j1 + 1, none⟩) hgb _⟩
                      case measure => first | (simp [intOf]; done) | (simp [intOf]; omega)
                    · have hje : j0 = i0 := by omega
                      subst hje
                      obtain ⟨pz2, hpz2⟩ : ∃ pz2, pz2 = Lq.getD j0 0 := ⟨_, rfl⟩
                      have q2 : wr.cell? ⟨g', j0, none⟩ = some (.int .i32 pz2) := by rw [(unhide HOQ).cellAt j0 (by omega), icells_get (by omega), hpz2]
                      clear hpz2
                      have q3 : wr.frozen? ⟨g', j0, none⟩ = false := own_unfrozen (unhide HOQ) _
                      go_wp2
                      go_roundw
                      case rel => exact ⟨n + 1, Lq.set j0 (d.fP q), some ⟨g', 0, none⟩, cap', by omega, by go_num, by rw [List.length_set, hlq], by rw [List.length_set, hlq]; omega, by rw [List.length_set, hlq, icells_set]; exact own_store (unhide HOQ) (by omega), (unhide HBQ).setCell (p := ⟨g', j0, none⟩) hgb _⟩
                      case measure => first | (simp [intOf]; done) | (simp [intOf]; omega)
                · have hili : ¬ (i0 : Int) < (Lp.length : Int) := by omega
                  clear hil
                  have hsz3 := (unhide HB4).size
                  go_wp2_with (at_builtin; go_must (refine wpList_append_lies _ rfl (.tmp 189) (.tmp 190) 23 rfl w3.heap.size 21 ii (.int .i32 0) 1 4 Try.underlying23 hi hz0 hz1' hz2 rfl (by decide) _ _ _ rfl ((unhide HOWN).alloc _) ⟨wr.heap.size, 0, none⟩ 1 1 [.int .i32 0] rfl rfl (by first | exact cell_one_new _ _ _) (isz _ _) (by decide) (by unfold maxLen; omega) (by omega) (by simp; omega) (wr.heap.size + 1) (by simp) ?_; intro g' cap' w4 hown' hgrow hat' hlt4))
                  have HOWN4 : Hid (w4.ownsRow w3.heap.size 21 1 (.slice (some ⟨g', 0, none⟩) (Lp.length + 1) cap') (Lp.length + 1) (icells (Lp ++ [0]))) := by show World.ownsRow _ _ _ _ _ _ _; rw [icells_snoc]; exact hown'
                  have HB44 : Hid (Below w3.heap.size w3 w4) := ((unhide HB4).alloc (by omega) _).grown hgrow (by simp; omega) (fun k hk => by
                    rcases (unhide HOWN).2 with ⟨h3, _⟩ | ⟨g, cap, cur, hv, hg, _⟩
                    · rw [h3] at hk; cases hk
                    · rw [hv] at hk; cases hk; exact hg)
                  clear hown' hgrow hat' hlt4 hili
                  go_loopw [23] (fun jj wr => ∃ (j0 : Nat) (Lq : List Int), i0 ≤ j0 ∧ j0 ≤ Lp.length ∧ jj = .int .i64 j0 ∧ Lq.length = Lp.length + 1 ∧ Hid (wr.ownsRow w3.heap.size 21 1 (.slice (some ⟨g', 0, none⟩) (Lp.length + 1) cap') (Lp.length + 1) (icells Lq)) ∧ Hid (Below w3.heap.size w3 wr)) (fun jj _ => (intOf jj).toNat)
                  case atStart => exact ⟨Lp.length, Lp ++ [0], by omega, Nat.le_refl _, by go_num, by simp, HOWN4, HB44⟩
                  case round =>
                    clear HOWN4 HB44 HB4 HOWN
                    obtain ⟨j0, Lq, hj1, hj2, rfl, hlq, HOQ, HBQ⟩ := hrel
                    have hgb : w3.heap.size ≤ g' := by
                      rcases (unhide HOQ).2 with ⟨h3, _⟩ | ⟨g, cap, cur, hv, hg, _⟩
                      · cases h3
                      · injection hv with e1 e2 e3; injection e1 with e1; injection e1 with e1; omega
                    by_cases hjl : i0 < j0
                    · obtain ⟨j1, rfl⟩ : ∃ j1, j0 = j1 + 1 := ⟨j0 - 1, by omega⟩
                      obtain ⟨pz, hpz⟩ : ∃ pz, pz = Lq.getD j1 0 := ⟨_, rfl⟩
                      have q1 : wr.cell? ⟨g', j1, none⟩ = some (.int .i32 pz) := by rw [(unhide HOQ).cellAt j1 (by omega), icells_get (by omega), hpz]
                      clear hpz
                      obtain ⟨pz2, hpz2⟩ : ∃ pz2, pz2 = Lq.getD (j1 + 1) 0 := ⟨_, rfl⟩
                      have q2 : wr.cell? ⟨g', j1 + 1, none⟩ = some (.int .i32 pz2) := by rw [(unhide HOQ).cellAt (j1 + 1) (by omega), icells_get (by omega), hpz2]
                      clear hpz2
                      have q3 : wr.frozen? ⟨g', j1 + 1, none⟩ = false := own_unfrozen (unhide HOQ) _
                      have ji : (i0 : Int) < ((j1 + 1 : Nat) : Int) := by omega
                      go_wp2
                      go_roundw
                      case rel => exact ⟨j1, Lq.set (j1 + 1) pz, by omega, by omega, by go_num, by rw [List.length_set]; exact hlq, by rw [icells_set]; exact own_store (unhide HOQ) (by omega), (unhide HBQ).setCell (p := ⟨g', j1 + 1, none⟩) hgb _⟩
                      case measure => first | (simp [intOf]; done) | (simp [intOf]; omega)
                    · have hje : j0 = i0 := by omega
                      subst hje
                      obtain ⟨pz2, hpz2⟩ : ∃ pz2, pz2 = Lq.getD j0 0 := ⟨_, rfl⟩
                      have q2 : wr.cell? ⟨g', j0, none⟩ = some (.int .i32 pz2) := by rw [(unhide HOQ).cellAt j0 (by omega), icells_get (by omega), hpz2]
                      clear hpz2
                      have q3 : wr.frozen? ⟨g', j0, none⟩ = false := own_unfrozen (unhide HOQ) _
                      go_wp2
                      go_roundw
                      case rel => exact ⟨n + 1, Lq.set j0 (d.fP q), some ⟨g', 0, none⟩, cap', by omega, by go_num, by rw [List.length_set, hlq], by rw [List.length_set, hlq]; omega, by rw [List.length_set, hlq, icells_set]; exact own_store (unhide HOQ) (by omega), (unhide HBQ).setCell (p := ⟨g', j0, none⟩) hgb _⟩
                      case measure => first | (simp [intOf]; done) | (simp [intOf]; omega)
            · have hne : n = j := by omega
              subst hne
              have HCALL := hide (fun W => calls_any n Lp.length W ht (by omega))
              obtain ⟨w5, rfl⟩ : ∃ w5, w5 = wr := ⟨_, rfl⟩
              have k9 : w5.cell? ⟨w.heap.size, 9, none⟩ = some (.int .i32 d.at_) := ((unhide BX3).below (unhide HB4)).c 9 (by omega)
              go_wp2_with fail
              refine (unhide HCALL _).mono ?_
              rintro e w6 ⟨⟨z, rfl⟩, hw6⟩
              replace hw6 := hw6.symm
              subst hw6
              clear HCALL
              have hbF := (unhide HB3).trans ((unhide HB4).mono (unhide HB3).size)
              have hrF : w5.rowIs w1.heap.size 4 d.nV (fun v => .bool (seenTo ft n v)) := (unhide HROW3).of_block ((unhide HB4).block _ hlt13)
              have HF := hide (And.intro hbF hrF)
              clear hbF hrF
              go_wp2
              all_goals ((try simp only [Exit.inBlock, Exit.then]); refine bodyPost_ret (results_tmp4 rfl _ _ _) rfl ?_)
              all_goals first | exact sready_no (unhide HF).1 | exact ⟨⟨_, _, _, _, _, true, rfl, fun _ => ⟨unhide HST1, unhide KP, unhide KW, unhide HAL, ⟨w1.heap.size, rfl, rfl, unhide hlow, (unhide HF).2⟩⟩⟩, (unhide HF).1⟩

end Go.Proofs.Qxb6605408a
