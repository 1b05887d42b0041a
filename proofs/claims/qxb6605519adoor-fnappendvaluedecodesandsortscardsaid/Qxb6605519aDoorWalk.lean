import Derived.Test.Qxb6605519aDoorTop
namespace Go.Proofs.Qxb6605519aDoor
open Go.Shelf Go.RowKit Go.Sort

def Good (w : World) (e : Ending) (w' : World) : Prop := e = .returned (.bool true) ∧ Below w.heap.size w w'

theorem out_len (letters : Bool) (wd v : Int) (h1 : wd ≤ 65536) (h0 : -9223372036854775808 ≤ v) (h2 : v ≤ 9223372036854775807) : (outOf letters wd v).length ≤ 65536 := by
  cases letters
  · have := txt_length wd v
    have hpl : plen v ≤ 21 := by unfold plen; have := Lib.nDigits_le20 v.natAbs (by omega); split <;> omega
    show (txt wd v).length ≤ 65536
    omega
  · show 1 ≤ 65536
    omega

set_option maxHeartbeats 8000000 in
set_option maxRecDepth 100000 in
theorem top_letters (fr st cn wd i j vi vj : Int) (hi : wrap64 (fr + wrap64 (i * st)) = vi) (hj : wrap64 (fr + wrap64 (j * st)) = vj) (i0 : 0 ≤ vi) (i1 : vi < 52) (j0 : 0 ≤ vj) (j1 : vj < 52) (w0 : -65536 ≤ wd) (w1 : wd ≤ 65536) (w : World) (htab : TabOk w) :
    Calls Tryd.prog 3 #[.bool true, .int .i64 fr, .int .i64 st, .int .i64 cn, .int .i64 wd, .int .i64 i, .int .i64 j] w (Good w) := by
  have HT := hide (Lib.tabBelow_of_tabIs htab)
  have a1 : ¬ vi < 0 := by omega
  have a2 : ¬ (52 ≤ vi) := by omega
  have a3 : ¬ vj < 0 := by omega
  have a4 : ¬ (52 ≤ vj) := by omega
  have z1 : ¬ wd < -65536 := by omega
  have z2 : ¬ (65536 < wd) := by omega
  have n1 : (vi != vi) = false := by simp
  have n2 : (vj != vj) = false := by simp
  go_enter Tryd.func3, Tryd.ntmps3
  go_wp2_with fail
  refine (zzvalue_any true fr st cn wd i vi hi (by omega) (by omega) (fun _ => ⟨i0, i1⟩) w0 w1 w htab).mono ?_
  rintro e wA ⟨aA, cA, rfl, rA, bA⟩
  have RA := hide rA
  have BA := hide bA
  clear rA bA
  have hLA : Hid ((outOf true wd vi).length = 1) := rfl
  go_wp2_with fail
  refine (zzvalue_any true fr st cn wd j vj hj (by omega) (by omega) (fun _ => ⟨j0, j1⟩) w0 w1 wA ((unhide HT) _ (unhide BA))).mono ?_
  rintro e wB ⟨aB, cB, rfl, rB, bB⟩
  have RA2 := hide ((unhide RA).below bB)
  have RB := hide rB
  have BB := hide ((unhide BA).trans (bB.mono (unhide BA).size))
  clear rB bB RA BA
  go_wp2_with fail
  refine (decode_any true wd vi (by omega) (by omega) (fun _ => ⟨i0, i1⟩) w0 w1 aA cA wB (unhide RA2)).mono ?_
  rintro e w' ⟨rfl, hw⟩
  replace hw := hw.symm
  subst hw
  go_wp2_with fail
  refine (decode_any true wd vj (by omega) (by omega) (fun _ => ⟨j0, j1⟩) w0 w1 aB cB wB (unhide RB)).mono ?_
  rintro e w' ⟨rfl, hw⟩
  replace hw := hw.symm
  subst hw
  go_wp2
  go_ret
  exact ⟨rfl, unhide BB⟩

set_option maxHeartbeats 8000000 in
set_option maxRecDepth 100000 in
theorem top_out (letters : Bool) (fr st cn wd i j : Int) (hw : wd < -65536 ∨ 65536 < wd) (w : World) :
    Calls Tryd.prog 3 #[.bool letters, .int .i64 fr, .int .i64 st, .int .i64 cn, .int .i64 wd, .int .i64 i, .int .i64 j] w (Good w) := by
  rcases hw with h | h
  · go_enter Tryd.func3, Tryd.ntmps3
    go_wp2
    go_ret
    exact ⟨rfl, Below.refl _ _⟩
  · have h2 : ¬ wd < -65536 := by omega
    go_enter Tryd.func3, Tryd.ntmps3
    go_wp2
    go_ret
    exact ⟨rfl, Below.refl _ _⟩

set_option maxHeartbeats 8000000 in
set_option maxRecDepth 100000 in
theorem top_far (fr st cn wd i j vi vj : Int) (hi : wrap64 (fr + wrap64 (i * st)) = vi) (hj : wrap64 (fr + wrap64 (j * st)) = vj) (hf : vi < 0 ∨ 52 ≤ vi ∨ vj < 0 ∨ 52 ≤ vj) (w0 : -65536 ≤ wd) (w1 : wd ≤ 65536) (w : World) :
    Calls Tryd.prog 3 #[.bool true, .int .i64 fr, .int .i64 st, .int .i64 cn, .int .i64 wd, .int .i64 i, .int .i64 j] w (Good w) := by
  have z1 : ¬ wd < -65536 := by omega
  have z2 : ¬ (65536 < wd) := by omega
  by_cases a1 : vi < 0
  · go_enter Tryd.func3, Tryd.ntmps3
    go_wp2
    go_ret
    exact ⟨rfl, Below.refl _ _⟩
  · by_cases a2 : 52 ≤ vi
    · go_enter Tryd.func3, Tryd.ntmps3
      go_wp2
      go_ret
      exact ⟨rfl, Below.refl _ _⟩
    · by_cases a3 : vj < 0
      · go_enter Tryd.func3, Tryd.ntmps3
        go_wp2
        go_ret
        exact ⟨rfl, Below.refl _ _⟩
      · have a4 : 52 ≤ vj := by omega
        go_enter Tryd.func3, Tryd.ntmps3
        go_wp2
        go_ret
        exact ⟨rfl, Below.refl _ _⟩

set_option maxHeartbeats 8000000 in
set_option maxRecDepth 100000 in
theorem top_num (fr st cn wd i j vi vj : Int) (hi : wrap64 (fr + wrap64 (i * st)) = vi) (hj : wrap64 (fr + wrap64 (j * st)) = vj) (i0 : -9223372036854775808 ≤ vi) (i1 : vi ≤ 9223372036854775807) (j0 : -9223372036854775808 ≤ vj) (j1 : vj ≤ 9223372036854775807) (w0 : -65536 ≤ wd) (w1 : wd ≤ 65536) (w : World) (htab : TabOk w) :
    Calls Tryd.prog 3 #[.bool false, .int .i64 fr, .int .i64 st, .int .i64 cn, .int .i64 wd, .int .i64 i, .int .i64 j] w (Good w) := by
  have HT := hide (Lib.tabBelow_of_tabIs htab)
  have z1 : ¬ wd < -65536 := by omega
  have z2 : ¬ (65536 < wd) := by omega
  have n1 : (vi != vi) = false := by simp
  have n2 : (vj != vj) = false := by simp
  have hlA := txt_length wd vi
  have hlB := txt_length wd vj
  have m1 : (((outOf false wd vi).length : Int) != max wd (plen vi)) = false := by
    show (((txt wd vi).length : Int) != _) = false
    rw [hlA]; simp
  have m2 : (((outOf false wd vj).length : Int) != max wd (plen vj)) = false := by
    show (((txt wd vj).length : Int) != _) = false
    rw [hlB]; simp
  clear hlA hlB
  obtain ⟨LA, hLA⟩ : ∃ LA, LA = outOf false wd vi := ⟨_, rfl⟩
  obtain ⟨LB, hLB⟩ : ∃ LB, LB = outOf false wd vj := ⟨_, rfl⟩
  have cA := zzvalue_any false fr st cn wd i vi hi i0 i1 (fun h => by cases h) w0 w1 w htab
  have cB := fun (W : World) (hW : TabOk W) => zzvalue_any false fr st cn wd j vj hj j0 j1 (fun h => by cases h) w0 w1 W hW
  have dA := fun (a : Option Addr) (c : Nat) (W : World) (hW : BRow W a (outOf false wd vi)) => decode_any false wd vi i0 i1 (fun h => by cases h) w0 w1 a c W hW
  have dB := fun (a : Option Addr) (c : Nat) (W : World) (hW : BRow W a (outOf false wd vj)) => decode_any false wd vj j0 j1 (fun h => by cases h) w0 w1 a c W hW
  have oA := out_len false wd vi w1 i0 i1
  have oB := out_len false wd vj w1 j0 j1
  rw [← hLA] at cA dA m1 oA
  rw [← hLB] at cB dB m2 oB
  have HLA := hide hLA
  have HLB := hide hLB
  have CB := hide cB
  have DA := hide dA
  have DB := hide dB
  clear hLA hLB cB dA dB
  go_enter Tryd.func3, Tryd.ntmps3
  go_wp2_with fail
  refine cA.mono ?_
  rintro e wA ⟨aA, cpA, rfl, rA, bA⟩
  have RA := hide rA
  have BA := hide bA
  clear rA bA cA
  go_wp2_with fail
  refine (unhide CB wA ((unhide HT) _ (unhide BA))).mono ?_
  rintro e wB ⟨aB, cpB, rfl, rB, bB⟩
  have RA2 := hide ((unhide RA).below bB)
  have RB := hide rB
  have BB := hide ((unhide BA).trans (bB.mono (unhide BA).size))
  clear rB bB RA BA CB
  go_wp2_with fail
  refine (unhide DA aA cpA wB (unhide RA2)).mono ?_
  rintro e w' ⟨rfl, hw⟩
  replace hw := hw.symm
  subst hw
  go_wp2_with fail
  refine (unhide DB aB cpB wB (unhide RB)).mono ?_
  rintro e w' ⟨rfl, hw⟩
  replace hw := hw.symm
  subst hw
  clear DA DB
  go_wp2_with fail
  refine (plainLen_any vi i0 i1 wB).mono ?_
  rintro e wC ⟨rfl, bC⟩
  have RA3 := hide ((unhide RA2).below bC)
  have RB3 := hide ((unhide RB).below bC)
  have BC := hide ((unhide BB).trans (bC.mono (unhide BB).size))
  clear bC RA2 RB BB
  go_wp2_with fail
  refine (max_any wd (plen vi) wC).mono ?_
  rintro e w' ⟨rfl, hw⟩
  replace hw := hw.symm
  subst hw
  go_wp2_with fail
  refine (plainLen_any vj j0 j1 wC).mono ?_
  rintro e wD ⟨rfl, bD⟩
  have RA4 := hide ((unhide RA3).below bD)
  have RB4 := hide ((unhide RB3).below bD)
  have BD := hide ((unhide BC).trans (bD.mono (unhide BC).size))
  clear bD RA3 RB3 BC
  go_wp2_with fail
  refine (max_any wd (plen vj) wD).mono ?_
  rintro e w' ⟨rfl, hw⟩
  replace hw := hw.symm
  subst hw
  by_cases c1 : 0 ≤ vi
  · by_cases c2 : 0 ≤ vj
    · go_wp2_with fail
      refine (plainLen_any vi i0 i1 wD).mono ?_
      rintro e wE ⟨rfl, bE⟩
      have RA5 := hide ((unhide RA4).below bE)
      have RB5 := hide ((unhide RB4).below bE)
      have BE := hide ((unhide BD).trans (bE.mono (unhide BD).size))
      clear bE RA4 RB4 BD
      by_cases c3 : (plen vi : Int) ≤ wd
      · go_wp2_with fail
        refine (plainLen_any vj j0 j1 wE).mono ?_
        rintro e wF ⟨rfl, bF⟩
        have RA6 := hide ((unhide RA5).below bF)
        have RB6 := hide ((unhide RB5).below bF)
        have BF := hide ((unhide BE).trans (bF.mono (unhide BE).size))
        clear bF RA5 RB5 BE
        by_cases c4 : (plen vj : Int) ≤ wd
        · have hs := sorts wd vi vj c1 c2 c3 c4
          have l1 := txt_length wd vi
          have l2 := txt_length wd vj
          have e1 : LA = txt wd vi := unhide HLA
          have e2 : LB = txt wd vj := unhide HLB
          rw [← e1] at l1 hs
          rw [← e2] at l2 hs
          have l3 : LB.length = LA.length := by omega
          have hcb := cmpBytes_any LA.length (by omega) aA aB cpA cpB LA LB rfl l3 wF (unhide RA6) (unhide RB6)
          have HCB := hide hcb
          clear hcb e1 e2 l1 l2 m1 m2
          rw [l3]
          go_wp2_with fail
          refine (unhide HCB).mono ?_
          rintro e wG ⟨rfl, bG⟩
          have BG := hide ((unhide BF).trans (bG.mono (unhide BF).size))
          clear bG BF HCB
          rw [hs]
          go_wp2_with fail
          refine (cmpInt_any vi vj wG).mono ?_
          rintro e w' ⟨rfl, hw⟩
          replace hw := hw.symm
          subst hw
          have n3 : (cmpI vi vj != cmpI vi vj) = false := by simp
          go_wp2
          go_ret
          exact ⟨rfl, unhide BG⟩
        · go_wp2
          go_ret
          exact ⟨rfl, unhide BF⟩
      · go_wp2
        go_ret
        exact ⟨rfl, unhide BE⟩
    · go_wp2
      go_ret
      exact ⟨rfl, unhide BD⟩
  · go_wp2
    go_ret
    exact ⟨rfl, unhide BD⟩

theorem top_walk (letters : Bool) (fr st cn wd i j : Int) (w : World) (htab : TabOk w) :
    Calls Tryd.prog 3 #[.bool letters, .int .i64 fr, .int .i64 st, .int .i64 cn, .int .i64 wd, .int .i64 i, .int .i64 j] w (Good w) := by
  by_cases hw : wd < -65536 ∨ 65536 < wd
  · exact top_out letters fr st cn wd i j hw w
  · have h1 := wrap64_range (fr + wrap64 (i * st))
    have h2 := wrap64_range (fr + wrap64 (j * st))
    cases letters
    · exact top_num fr st cn wd i j _ _ rfl rfl h1.1 h1.2 h2.1 h2.2 (by omega) (by omega) w htab
    · by_cases hf : wrap64 (fr + wrap64 (i * st)) < 0 ∨ 52 ≤ wrap64 (fr + wrap64 (i * st)) ∨ wrap64 (fr + wrap64 (j * st)) < 0 ∨ 52 ≤ wrap64 (fr + wrap64 (j * st))
      · exact top_far fr st cn wd i j _ _ rfl rfl hf (by omega) (by omega) w
      · exact top_letters fr st cn wd i j _ _ rfl rfl (by omega) (by omega) (by omega) (by omega) (by omega) (by omega) w htab

end Go.Proofs.Qxb6605519aDoor
