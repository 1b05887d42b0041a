import Derived.Test.Qxb6605408aSolveM
namespace Go.Proofs.Qxb6605408a
open Go.RowKit
set_option linter.unusedVariables false

theorem maxIf (t p : Int) : (if t < p then p else t) = max t p := by split <;> omega
theorem Mine.below {w w' : World} {B : Nat} {v : Value} {L : List Nat} (h : Mine w B v L) (hb : Below w.heap.size w w') : Mine w' B v L :=
  h.keep (S := fun _ => False) ⟨hb.os, hb.tape, hb.output, hb.size, fun k hk _ => hb.block k hk⟩ (fun _ h => h.elim)
theorem InMem.far {w w' : World} {base : Nat} {d : SD} {x : SA} {sb gb : Nat} {S : Nat → Prop} (h : InMem w base d x sb gb) (hc : Chg S w w') (hs : ∀ k, S k → sb < k) : InMem w' base d x sb gb := by
  have hgs := h.gs
  have h1 : ¬ S sb := fun hh => by have := hs _ hh; omega
  have h2 : ¬ S gb := fun hh => by have := hs _ hh; omega
  exact ⟨laterCell' hc h1 h.c0, laterCell' hc h1 h.c1, laterCell' hc h1 h.c2, laterCell' hc h1 h.c3, laterCell' hc h1 h.c4, laterCell' hc h1 h.c5, laterCell' hc h1 h.c6, laterCell' hc h1 h.c7, laterCell' hc h1 h.c8, laterCell' hc h2 h.g0, laterCell' hc h2 h.g1, laterCell' hc h2 h.g2, laterCell' hc h2 h.g3,
    (hc.frozen (p := ⟨sb, 6, none⟩) h.sb_lt h1).trans h.f6, h.own.chg hc (fun y hy hh => by have h3 := hs _ hh; have h4 := h.lt y hy; omega), h.lt, h.gs⟩
theorem below_chg {S : Nat → Prop} {w w' : World} (h : Below w.heap.size w w') : Chg S w w' := ⟨h.os, h.tape, h.output, h.size, fun k hk _ => h.block k hk⟩

set_option maxRecDepth 100000 in
set_option maxHeartbeats 16000000 in
theorem solve_any (d : SD) (x : SA) (base sb gb : Nat) (hs : SSmall d) (hst : StateOk d) (hP : d.nP = d.nV) (hW : d.nW = d.nV) : ∀ (k : Nat) (s : DS) (vs : List Nat) (a : Option Addr) (c : Nat) (dp : Int) (w : World), vs.length ≤ k → k ≤ 1048576 → (∀ v ∈ vs, v < d.nV) → InMem w base (put d s) x sb gb → Row w a vs.length (fun i => .int .i32 (asF vs i)) → (0 < vs.length → ∀ y, a = some y → ¬ wr6 x sb y.block) →
    Calls Try.prog 26 #[.pointer (some ⟨sb, 0, none⟩), .slice a vs.length c, .int .i32 dp] w (SolveOut w base d x sb gb k s vs dp) := by
  intro k
  induction k using Nat.strongRecOn with
  | ind k ih =>
  intro s vs a c dp w hk hk1 hv hm hrow hout
  have HIH := hide ih
  have HS := hide hs
  have HST := hide hst
  have HNP := hide (And.intro hP hW)
  have HV0 := hide hv
  have HM0 := hide hm
  have HR0 := hide hrow
  have HO0 := hide hout
  clear ih hs hst hP hW hv hm hrow hout
  go_enter Try.func26, Try.ntmps26
  go_wp2_with fail
  go_loopw [1] (fun v wr => ∃ (ki : Nat) (si : DS) (vi : List Nat) (ai : Option Addr) (ci : Nat), v = .slice ai vi.length ci ∧ ki ≤ k ∧ vi.length ≤ ki ∧ Hid (solveF d ki si vi dp = solveF d k s vs dp) ∧ Hid (∀ u ∈ vi, u < d.nV) ∧ Hid (InMem wr base (put d si) x sb gb) ∧ Hid (Row wr ai vi.length (fun i => .int .i32 (asF vi i))) ∧ Hid (0 < vi.length → ∀ y, ai = some y → ¬ wr6 x sb y.block) ∧ Hid (Chg (wr6 x sb) w wr)) (fun v _ => lenOf v)
  case atStart => exact ⟨k, s, vs, a, c, rfl, Nat.le_refl _, hk, rfl, HV0, HM0, HR0, HO0, Chg.refl _ _⟩
  case round =>
    clear HV0 HM0 HR0 HO0
    obtain ⟨ki, si, vi, ai, ci, rfl, hki, hvk, HEQ, HV, HM, HR, HO, HC⟩ := hrel
    by_cases h0 : vi.length = 0
    · have d0 : decide ((0 : Int) < (vi.length : Int)) = false := by rw [h0]; rfl
      go_wp2_with fail
      go_end0
      have e : solveF d ki si vi dp = si := by
        cases ki with
        | zero => rfl
        | succ n => exact if_pos h0
      refine ⟨rfl, ?_, unhide HC⟩
      rw [← unhide HEQ, e]
      exact unhide HM
    · obtain ⟨k', rfl⟩ : ∃ k', ki = k' + 1 := ⟨ki - 1, by omega⟩
      have HE0 := hide h0
      have h0' : 0 < vi.length := by omega
      clear h0
      obtain ⟨bv, ov, hav, hbv, hcv⟩ := unhide HR h0'
      have HCV := hide hcv
      have HBV : Hid (¬ wr6 x sb bv) := unhide HO h0' ⟨bv, ov, none⟩ hav
      have hbv' := hide hbv
      clear hcv hbv
      subst hav
      obtain ⟨w1, rfl⟩ : ∃ w1, w1 = wr := ⟨_, rfl⟩
      have hnP : 0 < d.nP := by have h1 := (unhide HNP).1; have h2 := unhide HV _ (getD_mem h0'); omega
      obtain ⟨gP, haP, rP⟩ := (unhide HM).own.oP hnP
      have HRP : Hid (w1.rowIs gP 21 d.nP (fun i => .int .i32 (d.fP i))) := rP
      have c0 := (unhide HM).c0
      have g1 : w1.cell? ⟨gb, 1, none⟩ = some (.slice (some ⟨gP, 0, none⟩) d.nP x.cP) := by rw [(unhide HM).g1, haP]; rfl
      obtain ⟨v0, hv0⟩ : ∃ v0, v0 = vi.getD 0 0 := ⟨_, rfl⟩
      have cv : w1.cell? ⟨bv, ov, none⟩ = some (.int .i32 (v0 : Nat)) := by have h := unhide HCV 0 h0'; rw [hv0]; exact h
      have hv0n : v0 < d.nP := by rw [hv0, (unhide HNP).1]; exact unhide HV _ (getD_mem h0')
      have cp : w1.cell? ⟨gP, v0, none⟩ = some (.int .i32 (d.fP v0)) := rP.cell hv0n
      have hv0i : (v0 : Int) < (d.nP : Int) := by omega
      have d0 : decide ((0 : Int) < (vi.length : Int)) = true := by simpa using h0'
      have HV0 := hide hv0
      have HGP := hide haP
      have hli : (0 : Int) < (vi.length : Int) := by omega
      clear rP haP hv0
      go_wp2
      go_quiet (fail)
      go_wp2
      go_loopw [6, 43] (fun t i wr => ∃ n : Nat, n ≤ vi.length ∧ i = .int .i64 n ∧ t = .int .i32 (topTo d.fP vi n) ∧ Hid (Below w1.heap.size w1 wr)) (fun _ i _ => vi.length - (intOf i).toNat)
      case atStart => exact ⟨0, Nat.zero_le _, rfl, by rw [unhide HV0]; rfl, below_drawn _ _⟩
      case round =>
        clear cv cp hv0i hv0n d0
        obtain ⟨n, hn, rfl, rfl, HB⟩ := hrel
        by_cases hnl : n < vi.length
        · obtain ⟨v1, hv1⟩ : ∃ v1, v1 = vi.getD n 0 := ⟨_, rfl⟩
          have cv : wr.cell? ⟨bv, ov + n, none⟩ = some (.int .i32 (v1 : Nat)) := by refine laterCell (unhide HB) ?_; have h := unhide HCV n hnl; rw [hv1]; exact h
          have hv1n : v1 < d.nP := by rw [hv1, (unhide HNP).1]; exact unhide HV _ (getD_mem hnl)
          have cp : wr.cell? ⟨gP, v1, none⟩ = some (.int .i32 (d.fP v1)) := laterCell (unhide HB) ((unhide HRP).cell hv1n)
          have k0 := laterCell (unhide HB) c0
          have k1 := laterCell (unhide HB) g1
          have hv1i : (v1 : Int) < (d.nP : Int) := by omega
          have hni : (n : Int) < (vi.length : Int) := by omega
          have HT1 : Hid (topTo d.fP vi (n + 1) = max (topTo d.fP vi n) (d.fP v1)) := by show _ = _; rw [hv1]; rfl
          clear hv1
          go_wp2
          go_roundw
          case rel => exact ⟨n + 1, by omega, by go_num, by rw [unhide HT1, maxIf], HB⟩
          case measure => simp [intOf]; omega
        · have hne : n = vi.length := by omega
          subst hne
          obtain ⟨tp, htp⟩ : ∃ tp, tp = topTo d.fP vi vi.length := ⟨_, rfl⟩
          rw [← htp]
          have HTP : Hid (tp = topOf d vi) := htp
          clear htp
          obtain ⟨w2, rfl⟩ : ∃ w2, w2 = wr := ⟨_, rfl⟩
          go_wp2
          obtain ⟨f, hf⟩ : ∃ f, f = (tp.tmod 2 == 0) := ⟨_, rfl⟩
          rw [← hf]
          have HF : Hid (f = favOf d vi) := by show _ = _; rw [hf, unhide HTP]; rfl
          clear hf
          go_loopw [10, 65] (fun h i wr => ∃ n : Nat, n ≤ vi.length ∧ i = .int .i64 n ∧ Hid (Mine wr w2.heap.size h (filtTo (fun v => d.fP v == tp) vi n)) ∧ Hid (Below w2.heap.size w2 wr)) (fun _ i _ => vi.length - (intOf i).toNat)
          case atStart => exact ⟨0, Nat.zero_le _, rfl, .inl ⟨rfl, none, rfl⟩, Below.refl _ _⟩
          case round =>
            obtain ⟨n, hn', rfl, HMI, HB2⟩ := hrel
            by_cases hnl : n < vi.length
            · obtain ⟨v1, hv1⟩ : ∃ v1, v1 = vi.getD n 0 := ⟨_, rfl⟩
              have hb12 : Below w1.heap.size w1 wr := (unhide HB).trans ((unhide HB2).mono (unhide HB).size)
              have cv : wr.cell? ⟨bv, ov + n, none⟩ = some (.int .i32 (v1 : Nat)) := by refine laterCell hb12 ?_; have h := unhide HCV n hnl; rw [hv1]; exact h
              have hv1n : v1 < d.nP := by rw [hv1, (unhide HNP).1]; exact unhide HV _ (getD_mem hnl)
              have cp : wr.cell? ⟨gP, v1, none⟩ = some (.int .i32 (d.fP v1)) := laterCell hb12 ((unhide HRP).cell hv1n)
              have k0 := laterCell hb12 c0
              have k1 := laterCell hb12 g1
              have hv1i : (v1 : Int) < (d.nP : Int) := by omega
              have hni : (n : Int) < (vi.length : Int) := by omega
              have hsz := (unhide HB2).size
              have hfl := filtTo_len (fun v => d.fP v == tp) vi n
              by_cases kk : d.fP v1 = tp
              · have dk : (d.fP v1 == tp) = true := by rw [beq_iff_eq]; exact kk
                have HN : Hid (filtTo (fun v => d.fP v == tp) vi (n + 1) = filtTo (fun v => d.fP v == tp) vi n ++ [v1]) := by
                  show filtTo _ vi n ++ _ = _
                  rw [← hv1, if_pos dk]
                clear hb12 hv1 kk
                go_wp2_with (at_builtin; go_must (refine append_mine _ rfl (.tmp 81) (.tmp 83) rfl w2.heap.size _ (filtTo (fun v => d.fP v == tp) vi n) rfl ((unhide HMI).below ((Below.refl _ _).alloc (Nat.le_refl _) _)) (by omega) ⟨wr.heap.size, 0, none⟩ 1 v1 rfl (by first | exact cell_one_new _ _ _) (by simp; omega) ?_; intro r' w' hm' hb'))
                go_roundw
                case rel => exact ⟨n + 1, by omega, by go_num, by rw [unhide HN]; exact hm', (unhide HB2).trans (((Below.refl _ _).alloc hsz _).trans hb')⟩
                case measure => simp [intOf]; omega
              · have dk : (d.fP v1 == tp) = false := by rw [beq_eq_false_iff_ne]; exact kk
                have HN : Hid (filtTo (fun v => d.fP v == tp) vi (n + 1) = filtTo (fun v => d.fP v == tp) vi n) := by
                  show filtTo _ vi n ++ _ = _
                  rw [← hv1, if_neg (by show ¬ (d.fP v1 == tp) = true; rw [dk]; simp), List.append_nil]
                clear hb12 hv1 kk
                go_wp2
                go_roundw
                case rel => exact ⟨n + 1, by omega, by go_num, by rw [unhide HN]; exact unhide HMI, HB2⟩
                case measure => simp [intOf]; omega
            · have hne : n = vi.length := by omega
              subst hne
              obtain ⟨w3, rfl⟩ : ∃ w3, w3 = wr := ⟨_, rfl⟩
              have hfl := filtTo_len (fun v => d.fP v == tp) vi vi.length
              obtain ⟨L, hL⟩ : ∃ L, L = filtTo (fun v => d.fP v == tp) vi vi.length := ⟨_, rfl⟩
              rw [← hL] at HMI hfl
              have HLH : Hid (L = hiOf d vi) := by show _ = _; rw [hL, unhide HTP]; rfl
              clear hL
              obtain ⟨ah, ch, rfl, rowh, owh, _⟩ := (unhide HMI).form
              have hpos : 0 < L.length := by
                obtain ⟨v, hvv, e⟩ := topTo_is d.fP (vs := vi) h0' vi.length (Nat.le_refl _)
                rw [unhide HLH]
                exact List.length_pos_of_mem (filt_mem.2 ⟨hvv, by rw [beq_iff_eq]; exact e⟩)
              have hb13 : Below w1.heap.size w1 w3 := (unhide HB).trans ((unhide HB2).mono (unhide HB).size)
              have hm3 := (unhide HM).below hb13
              have hsb3 := (unhide HM).sb_lt
              have HATT := hide (attract_any (put d si) x base sb gb ah L.length ch (asF L) f dp w3 (small_put (unhide HS) si) (state_put (unhide HST) si) hm3 (by omega) rowh (fun i hi => by
                  have h1 : L.getD i 0 ∈ vi := by have h := getD_mem hi; rw [unhide HLH] at h ⊢; exact hi_sub _ h
                  have h2 := unhide HV _ h1
                  show 0 ≤ ((L.getD i 0 : Nat) : Int) ∧ ((L.getD i 0 : Nat) : Int) < d.nV
                  omega) (fun y e h => by
                  have h1 := owh hpos y e
                  have h2 := (unhide HM).wr6_lt _ (.inl h)
                  have h3 := (unhide HB).size
                  omega))
              have HB13 := hide hb13
              have HCV3 : Hid (∀ n, n < vi.length → w3.cell? ⟨bv, ov + n, none⟩ = some (.int .i32 (asF vi n))) := fun n hn => laterCell hb13 (unhide HCV n hn)
              have HLB : Hid (bv < w3.heap.size) := Nat.lt_of_lt_of_le (unhide hbv') hb13.size
              have HC3 : Hid (Chg (wr6 x sb) w w3) := (unhide HC).trans (below_chg hb13)
              clear HMI rowh owh hb13 hm3 hsb3 HB HB2 HCV hbv' HRP c0 g1 HC HGP
              go_wp2_with fail
              refine (unhide HATT).mono ?_
              clear HATT
              rintro e w4 ⟨he, hm4, hc4⟩
              have he' : e = .returned (.int .i32 (wrap32 (si.at_ + 1))) := he
              subst he'
              obtain ⟨s1, hs1⟩ : ∃ s1, s1 = attD d si f dp L := ⟨_, rfl⟩
              have HM4 : Hid (InMem w4 base (put d s1) x sb gb) := by show InMem _ _ _ _ _ _; rw [hs1]; exact hm4
              have HS1 : Hid (s1 = A1 d si vi dp) := by show _ = _; rw [hs1, unhide HF, unhide HLH]; rfl
              obtain ⟨a1, ha1⟩ : ∃ a1, a1 = s1.at_ := ⟨_, rfl⟩
              have ha1' : wrap32 (si.at_ + 1) = a1 := by rw [ha1, hs1]; rfl
              rw [ha1']
              have HA1 := hide ha1
              have HCV4 : Hid (∀ n, n < vi.length → w4.cell? ⟨bv, ov + n, none⟩ = some (.int .i32 (asF vi n))) := fun n hn => laterCell' hc4 (fun h => unhide HBV (.inl h)) (unhide HCV3 n hn)
              have HLB4 : Hid (bv < w4.heap.size) := Nat.lt_of_lt_of_le (unhide HLB) hc4.size
              have HC4 : Hid (Chg (wr6 x sb) w w4) := (unhide HC3).trans (hc4.mono (fun k _ h => .inl h))
              have HP4 : Hid (w1.heap.size ≤ w4.heap.size) := Nat.le_trans (unhide HB13).size hc4.size
              have hsb4 : sb < w4.heap.size := (unhide HM4).sb_lt
              clear hs1 ha1 ha1' he hm4 hc4 HCV3 HLB HC3 HB13 HM
              go_wp2
              go_loopw [14, 93] (fun r i wr => ∃ n : Nat, n ≤ vi.length ∧ i = .int .i64 n ∧ Hid (Mine wr w4.heap.size r (filtTo (notIn s1) vi n)) ∧ Hid (InMem wr base (put d { s1 with lev := setTo s1.lev (notIn s1) (wrap32 (dp + 1)) vi n }) x sb gb) ∧ Hid (Chg (fun k => wr6 x sb k ∨ w4.heap.size ≤ k) w4 wr)) (fun _ i _ => vi.length - (intOf i).toNat)
              case atStart => exact ⟨0, Nat.zero_le _, rfl, .inl ⟨rfl, none, rfl⟩, HM4, Chg.refl _ _⟩
              case round =>
                obtain ⟨n, hn2, rfl, HMI, HMn, HCn⟩ := hrel
                by_cases hnl : n < vi.length
                · obtain ⟨v1, hv1⟩ : ∃ v1, v1 = vi.getD n 0 := ⟨_, rfl⟩
                  have cv : wr.cell? ⟨bv, ov + n, none⟩ = some (.int .i32 (v1 : Nat)) := by
                    refine laterCell' (unhide HCn) (fun h => h.elim (unhide HBV) (fun h => by have := unhide HLB4; omega)) ?_
                    have h := unhide HCV4 n hnl; rw [hv1]; exact h
                  have hv1n : v1 < d.nV := by rw [hv1]; exact unhide HV _ (getD_mem hnl)
                  have hst := unhide HST
                  obtain ⟨gA, haA, rA⟩ := (unhide HMn).own.oA (by show 0 < d.nA; have := hst.eA; omega)
                  obtain ⟨gL, haL, rL⟩ := (unhide HMn).own.oL (by show 0 < d.nL; have := hst.eL; omega)
                  have c3 : wr.cell? ⟨sb, 3, none⟩ = some (.slice (some ⟨gA, 0, none⟩) d.nA x.cA) := by rw [(unhide HMn).c3, haA]; rfl
                  have c1 : wr.cell? ⟨sb, 1, none⟩ = some (.slice (some ⟨gL, 0, none⟩) d.nL x.cL) := by rw [(unhide HMn).c1, haL]; rfl
                  have cA : wr.cell? ⟨gA, v1, none⟩ = some (.int .i32 (s1.att v1)) := rA.cell (by show v1 < d.nA; have := hst.eA; omega)
                  have cL : wr.cell? ⟨gL, v1, none⟩ = some (.int .i32 (setTo s1.lev (notIn s1) (wrap32 (dp + 1)) vi n v1)) := rL.cell (by show v1 < d.nL; have := hst.eL; omega)
                  have fL : wr.frozen? ⟨gL, v1, none⟩ = false := rL.frozen v1
                  have hlA : (v1 : Int) < (d.nA : Int) := by have := hst.eA; omega
                  have hlL : (v1 : Int) < (d.nL : Int) := by have := hst.eL; omega
                  have hgL : gL < w4.heap.size := by have := (unhide HMn).lt _ (.inr (.inr (.inr (.inr (.inl haL))))); have := (unhide HMn).gs; dsimp only at *; omega
                  have HAL := hide haL
                  have hni : (n : Int) < (vi.length : Int) := by omega
                  have hsz := (unhide HCn).size
                  have hfl2 := filtTo_len (notIn s1) vi n
                  clear haA rA haL rL hst
                  by_cases kk : s1.att v1 = a1
                  · have dk : (s1.att v1 != a1) = false := by rw [bne_eq_false_iff_eq]; exact kk
                    have hno : notIn s1 v1 = false := by unfold notIn; rw [← unhide HA1]; exact dk
                    have HN : Hid (filtTo (notIn s1) vi (n + 1) = filtTo (notIn s1) vi n ∧ setTo s1.lev (notIn s1) (wrap32 (dp + 1)) vi (n + 1) = setTo s1.lev (notIn s1) (wrap32 (dp + 1)) vi n) := by
                      refine ⟨?_, ?_⟩
                      · show filtTo _ vi n ++ _ = _
                        rw [← hv1, hno, if_neg (by simp), List.append_nil]
                      · show (if notIn s1 (vi.getD n 0) = true then _ else _) = _
                        rw [← hv1, hno, if_neg (by simp)]
                    clear hv1 kk hno
                    go_wp2
                    go_roundw
                    case rel => exact ⟨n + 1, by omega, by go_num, by rw [(unhide HN).1]; exact HMI, by rw [(unhide HN).2]; exact HMn, HCn⟩
                    case measure => simp [intOf]; omega
                  · have dk : (s1.att v1 != a1) = true := by rw [bne_iff_ne]; exact kk
                    have hno : notIn s1 v1 = true := by unfold notIn; rw [← unhide HA1]; exact dk
                    have HN : Hid (filtTo (notIn s1) vi (n + 1) = filtTo (notIn s1) vi n ++ [v1] ∧ setTo s1.lev (notIn s1) (wrap32 (dp + 1)) vi (n + 1) = upd (setTo s1.lev (notIn s1) (wrap32 (dp + 1)) vi n) v1 (wrap32 (dp + 1))) := by
                      refine ⟨?_, ?_⟩
                      · show filtTo _ vi n ++ _ = _
                        rw [← hv1, hno, if_pos rfl]
                      · show (if notIn s1 (vi.getD n 0) = true then _ else _) = _
                        rw [← hv1, hno, if_pos rfl]
                    clear hv1 kk hno
                    go_wp2_with (at_builtin; go_must (refine append_mine _ rfl (.tmp 106) (.tmp 108) rfl w4.heap.size _ (filtTo (notIn s1) vi n) rfl ((unhide HMI).below ((Below.refl _ _).alloc (Nat.le_refl _) _)) (by omega) ⟨wr.heap.size, 0, none⟩ 1 v1 rfl (by first | exact cell_one_new _ _ _) (by simp; omega) ?_; intro r' w' hm' hb'; have hbb := ((Below.refl w4.heap.size wr).alloc hsz _).trans hb'; have q1 := (hbb.cell (p := ⟨sb, 1, none⟩) hsb4).trans c1; have q2 := (hbb.cell (p := ⟨gL, v1, none⟩) hgL).trans cL; have q3 := (hbb.frozen (p := ⟨gL, v1, none⟩) hgL).trans fL))
                    go_roundw
                    case rel =>
                      refine ⟨n + 1, by omega, by go_num, ?_, ?_, ?_⟩
                      · rw [(unhide HN).1]
                        exact hm'.keep (S := fun k => k = gL) ((Chg.refl (fun k => k = gL) w').setCell (p := ⟨gL, v1, none⟩) (fun _ => rfl) _) (fun k e => by omega)
                      · rw [(unhide HN).2]
                        exact ((unhide HMn).far (Chg.of_below hbb) (fun k h => by omega)).setL (unhide HAL) v1 _
                      · exact ((unhide HCn).trans ((Chg.of_below hbb).mono (fun k _ h => .inr h))).setCell (p := ⟨gL, v1, none⟩) (fun _ => .inl (.inr (.inl ⟨_, unhide HAL, rfl⟩))) _
                    case measure => simp [intOf]; omega
                · have hne : n = vi.length := by omega
                  subst hne
                  go_wp2_with fail
                  obtain ⟨w5, rfl⟩ : ∃ w5, w5 = wr := ⟨_, rfl⟩
                  obtain ⟨s2, hs2⟩ : ∃ s2 : DS, s2 = { s1 with lev := setTo s1.lev (notIn s1) (wrap32 (dp + 1)) vi vi.length } := ⟨_, rfl⟩
                  rw [← hs2] at HMn
                  obtain ⟨R, hR⟩ : ∃ R, R = filtTo (notIn s1) vi vi.length := ⟨_, rfl⟩
                  rw [← hR] at HMI
                  have HRR : Hid (R = restOf d si vi dp) := by show _ = _; rw [hR, unhide HS1]; rfl
                  have HS2 : Hid (s2 = A2 d si vi dp) := by show _ = _; rw [hs2, unhide HS1]; rfl
                  obtain ⟨ar, cr, rfl, rowr, owr, _⟩ := (unhide HMI).form
                  have hRl : R.length < vi.length := by rw [unhide HRR]; exact rest_lt (unhide HST) si (unhide HV) dp (unhide HE0)
                  have HRV : Hid (∀ v ∈ R, v ∈ vi) := fun v hv => by rw [unhide HRR] at hv; exact rest_sub v hv
                  have hnar : 0 < R.length → ∀ y, ar = some y → ¬ wr6 x sb y.block := fun h y e hh => by
                    have h1 := owr h y e
                    have h2 := (unhide HMn).wr6_lt _ hh
                    omega
                  have HREC := hide (unhide HIH k' (by omega) s2 R ar cr (wrap32 (dp + 1)) w5 (by omega) (by omega) (fun v hv => unhide HV v (unhide HRV v hv)) (unhide HMn) rowr hnar)
                  have HCV5 : Hid (∀ n, n < vi.length → w5.cell? ⟨bv, ov + n, none⟩ = some (.int .i32 (asF vi n))) := fun n hn => laterCell' (unhide HCn) (fun h => h.elim (unhide HBV) (fun h => by have := unhide HLB4; omega)) (unhide HCV4 n hn)
                  have HLB5 : Hid (bv < w5.heap.size) := Nat.lt_of_lt_of_le (unhide HLB4) (unhide HCn).size
                  have HC5 : Hid (Chg (wr6 x sb) w w5) := (unhide HC4).trans' (unhide HCn) (fun i hi h => h.elim id (fun h => by have := (unhide HC4).size; omega))
                  have HROW := hide rowr
                  have HNAR := hide hnar
                  clear hs2 hR rowr owr hnar HMI HMn HCn HC4 HCV4 HLB4 HM4 hn2 hnl HA1 HS1
                  go_wp2_with fail
                  refine (unhide HREC).mono ?_
                  clear HREC
                  rintro e w6 ⟨rfl, hm6, hc6⟩
                  obtain ⟨t, ht⟩ : ∃ t, t = solveF d k' s2 R (wrap32 (dp + 1)) := ⟨_, rfl⟩
                  rw [← ht] at hm6
                  have HM6 := hide hm6
                  have HTT : Hid (t = solveF d k' (A2 d si vi dp) (restOf d si vi dp) (wrap32 (dp + 1))) := by show _ = _; rw [ht, unhide HS2, unhide HRR]
                  have HCV6 : Hid (∀ n, n < vi.length → w6.cell? ⟨bv, ov + n, none⟩ = some (.int .i32 (asF vi n))) := fun n hn => laterCell' hc6 (unhide HBV) (unhide HCV5 n hn)
                  have HLB6 : Hid (bv < w6.heap.size) := Nat.lt_of_lt_of_le (unhide HLB5) hc6.size
                  have HC6 : Hid (Chg (wr6 x sb) w w6) := (unhide HC5).trans hc6
                  have HROW6 : Hid (Row w6 ar R.length (fun i => .int .i32 (asF R i))) := fun h => by
                    obtain ⟨b, o, e, hb, hc⟩ := unhide HROW h
                    exact ⟨b, o, e, Nat.lt_of_lt_of_le hb hc6.size, fun j hj => laterCell' hc6 (unhide HNAR h ⟨b, o, none⟩ e) (hc j hj)⟩
                  have hsb6 : sb < w6.heap.size := hm6.sb_lt
                  clear ht hm6 hc6 HCV5 HLB5 HC5 HROW
                  go_wp2
                  go_loopw [17, 126] (fun l i wr => ∃ n : Nat, n ≤ R.length ∧ i = .int .i64 n ∧ Hid (Mine wr w6.heap.size l (filtTo (fun v => t.won v != f) R n)) ∧ Hid (InMem wr base (put d { t with lev := setTo t.lev (fun _ => true) dp R n }) x sb gb) ∧ Hid (Chg (fun k => wr6 x sb k ∨ w6.heap.size ≤ k) w6 wr)) (fun _ i _ => R.length - (intOf i).toNat)
                  case atStart => exact ⟨0, Nat.zero_le _, rfl, .inl ⟨rfl, none, rfl⟩, HM6, Chg.refl _ _⟩
                  case round =>
                    obtain ⟨n, hn3, rfl, HMI, HMn, HCn⟩ := hrel
                    by_cases hnl : n < R.length
                    · obtain ⟨v1, hv1⟩ : ∃ v1, v1 = R.getD n 0 := ⟨_, rfl⟩
                      obtain ⟨br, orr, har, hbr, hcr⟩ := unhide HROW6 (by omega)
                      have cv : wr.cell? ⟨br, orr + n, none⟩ = some (.int .i32 (v1 : Nat)) := by
                        refine laterCell' (unhide HCn) (fun h => h.elim (unhide HNAR (by omega) _ har) (fun h => by omega)) ?_
                        have h := hcr n hnl; rw [hv1]; exact h
                      have hv1n : v1 < d.nV := by rw [hv1]; exact unhide HV _ (unhide HRV _ (getD_mem hnl))
                      have hst := unhide HST
                      have hnw := (unhide HNP).2
                      obtain ⟨gW, haW, rW⟩ := (unhide HMn).own.oW (by show 0 < d.nW; omega)
                      obtain ⟨gL, haL, rL⟩ := (unhide HMn).own.oL (by show 0 < d.nL; have := hst.eL; omega)
                      have c2 : wr.cell? ⟨sb, 2, none⟩ = some (.slice (some ⟨gW, 0, none⟩) d.nW x.cW) := by rw [(unhide HMn).c2, haW]; rfl
                      have c1 : wr.cell? ⟨sb, 1, none⟩ = some (.slice (some ⟨gL, 0, none⟩) d.nL x.cL) := by rw [(unhide HMn).c1, haL]; rfl
                      have cL : wr.cell? ⟨gL, v1, none⟩ = some (.int .i32 (setTo t.lev (fun _ => true) dp R n v1)) := rL.cell (by show v1 < d.nL; have := hst.eL; omega)
                      have fL : wr.frozen? ⟨gL, v1, none⟩ = false := rL.frozen v1
                      have hlW : (v1 : Int) < (d.nW : Int) := by omega
                      have hlL : (v1 : Int) < (d.nL : Int) := by have := hst.eL; omega
                      have hgL : gL < sb := by have h1 := (unhide HMn).lt _ (.inr (.inr (.inr (.inr (.inl haL))))); have h2 := (unhide HMn).gs; dsimp only at h1; omega
                      have hmS := (unhide HMn).setL haL v1 dp
                      have q2 : (wr.setCell ⟨gL, v1, none⟩ (.int .i32 dp)).cell? ⟨sb, 2, none⟩ = some (.slice (some ⟨gW, 0, none⟩) d.nW x.cW) := by rw [hmS.c2, haW]; rfl
                      have qW : (wr.setCell ⟨gL, v1, none⟩ (.int .i32 dp)).cell? ⟨gW, v1, none⟩ = some (.bool (t.won v1)) := by
                        obtain ⟨g', e', r'⟩ := hmS.own.oW (by show 0 < d.nW; omega)
                        rw [haW] at e'
                        cases e'
                        exact r'.cell (by show v1 < d.nW; omega)
                      have HMS := hide hmS
                      have HAL := hide haL
                      have HCS : Hid (Chg (fun k => k = gL) wr (wr.setCell ⟨gL, v1, none⟩ (.int .i32 dp))) := (Chg.refl (fun k => k = gL) wr).setCell (p := ⟨gL, v1, none⟩) (fun _ => rfl) _
                      have hni : (n : Int) < (R.length : Int) := by omega
                      have hsz := (unhide HCn).size
                      have hfl2 := filtTo_len (fun v => t.won v != f) R n
                      have HN1 : Hid (setTo t.lev (fun _ => true) dp R (n + 1) = upd (setTo t.lev (fun _ => true) dp R n) v1 dp) := by
                        show (if true = true then _ else _) = _
                        rw [if_pos rfl, ← hv1]
                      clear haW rW haL rL hst hcr hbr hmS hnw
                      subst har
                      by_cases kk : t.won v1 = f
                      · have dk : (!(t.won v1 == f)) = false := by rw [kk]; simp
                        have HN : Hid (filtTo (fun v => t.won v != f) R (n + 1) = filtTo (fun v => t.won v != f) R n) := by
                          show filtTo _ R n ++ _ = _
                          rw [← hv1, if_neg (by show ¬ (t.won v1 != f) = true; rw [kk]; simp), List.append_nil]
                        clear hv1 kk
                        go_wp2
                        go_roundw
                        case rel =>
                          refine ⟨n + 1, by omega, by go_num, by rw [unhide HN]; exact (unhide HMI).keep (unhide HCS) (fun k e => by omega), by rw [unhide HN1]; exact unhide HMS, ?_⟩
                          exact (unhide HCn).setCell (p := ⟨gL, v1, none⟩) (fun _ => .inl (.inr (.inl ⟨_, unhide HAL, rfl⟩))) _
                        case measure => simp [intOf]; omega
                      · have dk : (!(t.won v1 == f)) = true := by simpa using kk
                        have HN : Hid (filtTo (fun v => t.won v != f) R (n + 1) = filtTo (fun v => t.won v != f) R n ++ [v1]) := by
                          show filtTo _ R n ++ _ = _
                          rw [← hv1, if_pos (by show (t.won v1 != f) = true; rw [bne_iff_ne]; exact kk)]
                        clear hv1 kk
                        go_wp2_with (at_builtin; go_must (refine append_mine _ rfl (.tmp 146) (.tmp 148) rfl w6.heap.size _ (filtTo (fun v => t.won v != f) R n) rfl (((unhide HMI).keep (unhide HCS) (fun k e => by omega)).below ((Below.refl _ _).alloc (Nat.le_refl _) _)) (by omega) ⟨wr.heap.size, 0, none⟩ 1 v1 rfl (by first | exact cell_one_new _ _ _ | (have h := cell_one_new (wr.setCell ⟨gL, v1, none⟩ (.int .i32 dp)) (.int .i32 (v1 : Nat)) 21; simp only [World.size_setCell] at h; exact h)) (by simp; omega) ?_; intro r' w' hm' hb'))
                        go_roundw
                        case rel =>
                          have hbb := ((Below.refl w6.heap.size (wr.setCell ⟨gL, v1, none⟩ (.int .i32 dp))).alloc (by simpa using hsz) _).trans hb'
                          refine ⟨n + 1, by omega, by go_num, by rw [unhide HN]; exact hm', by rw [unhide HN1]; exact (unhide HMS).far (Chg.of_below hbb) (fun k h => by omega), ?_⟩
                          exact ((unhide HCn).setCell (p := ⟨gL, v1, none⟩) (fun _ => .inl (.inr (.inl ⟨_, unhide HAL, rfl⟩))) _).trans ((Chg.of_below hbb).mono (fun k _ h => .inr h))
                        case measure => simp [intOf]; omega
                    · have hne : n = R.length := by omega
                      subst hne
                      obtain ⟨w7, rfl⟩ : ∃ w7, w7 = wr := ⟨_, rfl⟩
                      have HM7 : Hid (InMem w7 base (put d (A4 R dp t)) x sb gb) := HMn
                      obtain ⟨LS, hLS⟩ : ∃ LS, LS = filtTo (fun v => t.won v != f) R R.length := ⟨_, rfl⟩
                      rw [← hLS] at HMI
                      have HLS : Hid (LS = lostOf f R t) := hLS
                      have hlsl : LS.length ≤ R.length := by rw [hLS]; exact filtTo_len _ _ _
                      clear hLS
                      obtain ⟨al, cl, rfl, rowl, owl, _⟩ := (unhide HMI).form
                      have HCV7 : Hid (∀ n, n < vi.length → w7.cell? ⟨bv, ov + n, none⟩ = some (.int .i32 (asF vi n))) := fun n hn => laterCell' (unhide HCn) (fun h => h.elim (unhide HBV) (fun h => by have := unhide HLB6; omega)) (unhide HCV6 n hn)
                      have HLB7 : Hid (bv < w7.heap.size) := Nat.lt_of_lt_of_le (unhide HLB6) (unhide HCn).size
                      have HC7 : Hid (Chg (wr6 x sb) w w7) := (unhide HC6).trans' (unhide HCn) (fun i hi h => h.elim id (fun h => by have := (unhide HC6).size; omega))
                      have HSTEP : Hid (solveF d k s vs dp = if LS.length = 0 then doneS f vi (A4 R dp t) else solveF d k' (A6 d f R vi dp t) (remOf d f R vi dp t) dp) := by
                        show _ = _
                        rw [← unhide HEQ, unhide HLS, unhide HTT, unhide HRR, unhide HF]
                        exact if_neg (unhide HE0)
                      clear HMn HCn HC6 HCV6 HLB6 HM6 HROW6 HEQ hn3 hnl HTT HS2
                      by_cases hl0 : LS.length = 0
                      · have dl0 : ((LS.length : Int) == 0) = true := by rw [hl0]; rfl
                        have HSTEP0 : Hid (solveF d k s vs dp = doneS f vi (A4 R dp t)) := by show _ = _; rw [unhide HSTEP, if_pos hl0]
                        clear HSTEP rowl owl HMI
                        go_wp2
                        go_loopw [156] (fun i wr => ∃ n : Nat, n ≤ vi.length ∧ i = .int .i64 n ∧ Hid (InMem wr base (put d { A4 R dp t with won := setTo (A4 R dp t).won (fun _ => true) f vi n }) x sb gb) ∧ Hid (Chg (wr6 x sb) w7 wr)) (fun i _ => vi.length - (intOf i).toNat)
                        case atStart => exact ⟨0, Nat.zero_le _, rfl, HM7, Chg.refl _ _⟩
                        case round =>
                          obtain ⟨n, hn4, rfl, HMn, HCn⟩ := hrel
                          by_cases hnl : n < vi.length
                          · obtain ⟨v1, hv1⟩ : ∃ v1, v1 = vi.getD n 0 := ⟨_, rfl⟩
                            have cv : wr.cell? ⟨bv, ov + n, none⟩ = some (.int .i32 (v1 : Nat)) := by
                              refine laterCell' (unhide HCn) (unhide HBV) ?_
                              have h := unhide HCV7 n hnl; rw [hv1]; exact h
                            have hv1n : v1 < d.nV := by rw [hv1]; exact unhide HV _ (getD_mem hnl)
                            have hnw := (unhide HNP).2
                            obtain ⟨gW, haW, rW⟩ := (unhide HMn).own.oW (by show 0 < d.nW; omega)
                            have c2 : wr.cell? ⟨sb, 2, none⟩ = some (.slice (some ⟨gW, 0, none⟩) d.nW x.cW) := by rw [(unhide HMn).c2, haW]; rfl
                            have cW : wr.cell? ⟨gW, v1, none⟩ = some (.bool (setTo (A4 R dp t).won (fun _ => true) f vi n v1)) := rW.cell (by show v1 < d.nW; omega)
                            have fW : wr.frozen? ⟨gW, v1, none⟩ = false := rW.frozen v1
                            have hlW : (v1 : Int) < (d.nW : Int) := by omega
                            have HMS := hide ((unhide HMn).setW haW v1 f)
                            have HAW := hide haW
                            have hni : (n : Int) < (vi.length : Int) := by omega
                            have HN1 : Hid (setTo (A4 R dp t).won (fun _ => true) f vi (n + 1) = upd (setTo (A4 R dp t).won (fun _ => true) f vi n) v1 f) := by
                              show (if true = true then _ else _) = _
                              rw [if_pos rfl, ← hv1]
                            clear haW rW hnw hv1
                            go_wp2
                            go_roundw
                            case rel => exact ⟨n + 1, by omega, by go_num, by rw [unhide HN1]; exact unhide HMS, (unhide HCn).setCell (p := ⟨gW, v1, none⟩) (fun _ => .inr (.inr ⟨_, unhide HAW, rfl⟩)) _⟩
                            case measure => simp [intOf]; omega
                          · have hne : n = vi.length := by omega
                            subst hne
                            go_wp2
                            (try simp only [Exit.inBlock, Exit.then])
                            refine bodyPost_ret (results_none rfl _ _ _) rfl ?_
                            exact ⟨rfl, by rw [unhide HSTEP0]; exact unhide HMn, (unhide HC7).trans (unhide HCn)⟩
                      · have dl0 : ((LS.length : Int) == 0) = false := by rw [beq_eq_false_iff_ne]; omega
                        have HSTEP1 : Hid (solveF d k s vs dp = solveF d k' (A6 d f R vi dp t) (remOf d f R vi dp t) dp) := by show _ = _; rw [unhide HSTEP, if_neg hl0]
                        have HREM : Hid ((remOf d f R vi dp t).length < vi.length) := rem_lt (unhide HST) (unhide HRV) (unhide HV) dp (by rw [← unhide HLS]; exact hl0)
                        have hlpos : 0 < LS.length := by omega
                        have HATT := hide (attract_any (put d (A4 R dp t)) x base sb gb al LS.length cl (asF LS) (!f) dp w7 (small_put (unhide HS) _) (state_put (unhide HST) _) (unhide HM7) (by omega) rowl (fun i hi => by
                            have h1 : LS.getD i 0 ∈ R := by have h := getD_mem hi; rw [unhide HLS] at h ⊢; exact lost_sub _ h
                            have h2 := unhide HV _ (unhide HRV _ h1)
                            show 0 ≤ ((LS.getD i 0 : Nat) : Int) ∧ ((LS.getD i 0 : Nat) : Int) < d.nV
                            omega) (fun y e h => by
                            have h1 := owl hlpos y e
                            have h2 := (unhide HM7).wr6_lt _ (.inl h)
                            omega))
                        clear HSTEP rowl owl HMI hl0
                        go_wp2_with fail
                        refine (unhide HATT).mono ?_
                        clear HATT
                        rintro e w8 ⟨he, hm8, hc8⟩
                        have he' : e = .returned (.int .i32 (wrap32 ((A4 R dp t).at_ + 1))) := he
                        subst he'
                        obtain ⟨s5, hs5⟩ : ∃ s5, s5 = attD d (A4 R dp t) (!f) dp LS := ⟨_, rfl⟩
                        have HM8 : Hid (InMem w8 base (put d s5) x sb gb) := by show InMem _ _ _ _ _ _; rw [hs5]; exact hm8
                        have HS5 : Hid (s5 = A5 d f R dp t) := by show _ = _; rw [hs5, unhide HLS]; rfl
                        obtain ⟨b1, hb1⟩ : ∃ b1, b1 = s5.at_ := ⟨_, rfl⟩
                        have hb1' : wrap32 ((A4 R dp t).at_ + 1) = b1 := by rw [hb1, hs5]; rfl
                        rw [hb1']
                        have HB1 := hide hb1
                        have HCV8 : Hid (∀ n, n < vi.length → w8.cell? ⟨bv, ov + n, none⟩ = some (.int .i32 (asF vi n))) := fun n hn => laterCell' hc8 (fun h => unhide HBV (.inl h)) (unhide HCV7 n hn)
                        have HLB8 : Hid (bv < w8.heap.size) := Nat.lt_of_lt_of_le (unhide HLB7) hc8.size
                        have HC8 : Hid (Chg (wr6 x sb) w w8) := (unhide HC7).trans (hc8.mono (fun k _ h => .inl h))
                        have hsb8 : sb < w8.heap.size := (unhide HM8).sb_lt
                        have cut := cutNone (some ⟨bv, ov, none⟩) vi.length ci
                        clear hs5 hb1 hb1' he hm8 hc8 HCV7 HLB7 HC7 HM7
                        go_wp2
                        clear cut
                        go_loopw [23, 178] (fun m i wr => ∃ n : Nat, n ≤ vi.length ∧ i = .int .i64 n ∧ Hid (Mine wr w8.heap.size m (filtTo (notIn s5) vi n)) ∧ Hid (InMem wr base (put d { s5 with won := setTo s5.won (isIn s5) (!f) vi n, lev := setTo s5.lev (isIn s5) (wrap32 (dp - 1)) vi n }) x sb gb) ∧ Hid (Chg (fun k => wr6 x sb k ∨ w8.heap.size ≤ k) w8 wr)) (fun _ i _ => vi.length - (intOf i).toNat)
                        case atStart => exact ⟨0, Nat.zero_le _, rfl, .inl ⟨rfl, _, rfl⟩, HM8, Chg.refl _ _⟩
                        case round =>
                          obtain ⟨n, hn4, rfl, HMI, HMn, HCn⟩ := hrel
                          by_cases hnl : n < vi.length
                          · obtain ⟨v1, hv1⟩ : ∃ v1, v1 = vi.getD n 0 := ⟨_, rfl⟩
                            have cv : wr.cell? ⟨bv, ov + n, none⟩ = some (.int .i32 (v1 : Nat)) := by
                              refine laterCell' (unhide HCn) (fun h => h.elim (unhide HBV) (fun h => by have := unhide HLB8; omega)) ?_
                              have h := unhide HCV8 n hnl; rw [hv1]; exact h
                            have hv1n : v1 < d.nV := by rw [hv1]; exact unhide HV _ (getD_mem hnl)
                            have hst := unhide HST
                            have hnw := (unhide HNP).2
                            obtain ⟨gA, haA, rA⟩ := (unhide HMn).own.oA (by show 0 < d.nA; have := hst.eA; omega)
                            have c3 : wr.cell? ⟨sb, 3, none⟩ = some (.slice (some ⟨gA, 0, none⟩) d.nA x.cA) := by rw [(unhide HMn).c3, haA]; rfl
                            have cA : wr.cell? ⟨gA, v1, none⟩ = some (.int .i32 (s5.att v1)) := rA.cell (by show v1 < d.nA; have := hst.eA; omega)
                            have hlA : (v1 : Int) < (d.nA : Int) := by have := hst.eA; omega
                            have hni : (n : Int) < (vi.length : Int) := by omega
                            have hsz := (unhide HCn).size
                            have hfl2 := filtTo_len (notIn s5) vi n
                            by_cases kk : s5.att v1 = b1
                            · have dk : (s5.att v1 == b1) = true := by rw [beq_iff_eq]; exact kk
                              have hin : isIn s5 v1 = true := by unfold isIn; rw [← unhide HB1]; exact dk
                              have hno : notIn s5 v1 = false := by unfold notIn; rw [← unhide HB1, bne_eq_false_iff_eq]; exact kk
                              have HN : Hid (filtTo (notIn s5) vi (n + 1) = filtTo (notIn s5) vi n ∧ setTo s5.won (isIn s5) (!f) vi (n + 1) = upd (setTo s5.won (isIn s5) (!f) vi n) v1 (!f) ∧ setTo s5.lev (isIn s5) (wrap32 (dp - 1)) vi (n + 1) = upd (setTo s5.lev (isIn s5) (wrap32 (dp - 1)) vi n) v1 (wrap32 (dp - 1))) := by
                                refine ⟨?_, ?_, ?_⟩
                                · show filtTo _ vi n ++ _ = _
                                  rw [← hv1, hno, if_neg (by simp), List.append_nil]
                                · show (if isIn s5 (vi.getD n 0) = true then _ else _) = _
                                  rw [← hv1, hin, if_pos rfl]
                                · show (if isIn s5 (vi.getD n 0) = true then _ else _) = _
                                  rw [← hv1, hin, if_pos rfl]
                              obtain ⟨gW, haW, rW⟩ := (unhide HMn).own.oW (by show 0 < d.nW; omega)
                              have c2 : wr.cell? ⟨sb, 2, none⟩ = some (.slice (some ⟨gW, 0, none⟩) d.nW x.cW) := by rw [(unhide HMn).c2, haW]; rfl
                              have cW : wr.cell? ⟨gW, v1, none⟩ = some (.bool (setTo s5.won (isIn s5) (!f) vi n v1)) := rW.cell (by show v1 < d.nW; omega)
                              have fW : wr.frozen? ⟨gW, v1, none⟩ = false := rW.frozen v1
                              have hlW : (v1 : Int) < (d.nW : Int) := by omega
                              have hmS := (unhide HMn).setW haW v1 (!f)
                              obtain ⟨gL, haL, rL⟩ := hmS.own.oL (by show 0 < d.nL; have := hst.eL; omega)
                              have q1 : (wr.setCell ⟨gW, v1, none⟩ (.bool (!f))).cell? ⟨sb, 1, none⟩ = some (.slice (some ⟨gL, 0, none⟩) d.nL x.cL) := by rw [hmS.c1, haL]; rfl
                              have q2 : (wr.setCell ⟨gW, v1, none⟩ (.bool (!f))).cell? ⟨gL, v1, none⟩ = some (.int .i32 (setTo s5.lev (isIn s5) (wrap32 (dp - 1)) vi n v1)) := rL.cell (by show v1 < d.nL; have := hst.eL; omega)
                              have q3 : (wr.setCell ⟨gW, v1, none⟩ (.bool (!f))).frozen? ⟨gL, v1, none⟩ = false := rL.frozen v1
                              have hlL : (v1 : Int) < (d.nL : Int) := by have := hst.eL; omega
                              have HMS := hide (hmS.setL haL v1 (wrap32 (dp - 1)))
                              have HAW := hide haW
                              have HAL := hide haL
                              have hgW : gW < sb := by have h1 := (unhide HMn).lt _ (.inr (.inr (.inr (.inr (.inr (.inl haW)))))); have h2 := (unhide HMn).gs; dsimp only at h1; omega
                              have hgL : gL < sb := by have h1 := (unhide HMn).lt _ (.inr (.inr (.inr (.inr (.inl haL))))); have h2 := (unhide HMn).gs; dsimp only at h1; omega
                              have HKEEP := hide (((unhide HMI).keep (S := fun k => k = gW) ((Chg.refl (fun k => k = gW) wr).setCell (p := ⟨gW, v1, none⟩) (fun _ => rfl) (.bool (!f))) (fun k e => by omega)).keep (S := fun k => k = gL) ((Chg.refl (fun k => k = gL) _).setCell (p := ⟨gL, v1, none⟩) (fun _ => rfl) (.int .i32 (wrap32 (dp - 1)))) (fun k e => by omega))
                              clear haA rA haL rL haW rW hst hnw hv1 kk hin hno hmS
                              go_wp2
                              go_roundw
                              case rel =>
                                refine ⟨n + 1, by omega, by go_num, by rw [(unhide HN).1]; exact unhide HKEEP, by rw [(unhide HN).2.1, (unhide HN).2.2]; exact unhide HMS, ?_⟩
                                exact ((unhide HCn).setCell (p := ⟨gW, v1, none⟩) (fun _ => .inl (.inr (.inr ⟨_, unhide HAW, rfl⟩))) _).setCell (p := ⟨gL, v1, none⟩) (fun _ => .inl (.inr (.inl ⟨_, unhide HAL, rfl⟩))) _
                              case measure => simp [intOf]; omega
                            · have dk : (s5.att v1 == b1) = false := by rw [beq_eq_false_iff_ne]; exact kk
                              have hin : isIn s5 v1 = false := by unfold isIn; rw [← unhide HB1]; exact dk
                              have hno : notIn s5 v1 = true := by unfold notIn; rw [← unhide HB1, bne_iff_ne]; exact kk
                              have HN : Hid (filtTo (notIn s5) vi (n + 1) = filtTo (notIn s5) vi n ++ [v1] ∧ setTo s5.won (isIn s5) (!f) vi (n + 1) = setTo s5.won (isIn s5) (!f) vi n ∧ setTo s5.lev (isIn s5) (wrap32 (dp - 1)) vi (n + 1) = setTo s5.lev (isIn s5) (wrap32 (dp - 1)) vi n) := by
                                refine ⟨?_, ?_, ?_⟩
                                · show filtTo _ vi n ++ _ = _
                                  rw [← hv1, hno, if_pos rfl]
                                · show (if isIn s5 (vi.getD n 0) = true then _ else _) = _
                                  rw [← hv1, hin, if_neg (by simp)]
                                · show (if isIn s5 (vi.getD n 0) = true then _ else _) = _
                                  rw [← hv1, hin, if_neg (by simp)]
                              clear haA rA hst hnw hv1 kk hin hno
                              go_wp2_with (at_builtin; go_must (refine append_mine _ rfl (.tmp 207) (.tmp 209) rfl w8.heap.size _ (filtTo (notIn s5) vi n) rfl ((unhide HMI).below ((Below.refl _ _).alloc (Nat.le_refl _) _)) (by omega) ⟨wr.heap.size, 0, none⟩ 1 v1 rfl (by first | exact cell_one_new _ _ _) (by simp; omega) ?_; intro r' w' hm' hb'))
                              go_roundw
                              case rel =>
                                have hbb := ((Below.refl w8.heap.size wr).alloc hsz _).trans hb'
                                exact ⟨n + 1, by omega, by go_num, by rw [(unhide HN).1]; exact hm', by rw [(unhide HN).2.1, (unhide HN).2.2]; exact (unhide HMn).far (Chg.of_below hbb) (fun k h => by omega), (unhide HCn).trans ((Chg.of_below hbb).mono (fun k _ h => .inr h))⟩
                              case measure => simp [intOf]; omega
                          · have hne : n = vi.length := by omega
                            subst hne
                            obtain ⟨RM, hRM⟩ : ∃ RM, RM = filtTo (notIn s5) vi vi.length := ⟨_, rfl⟩
                            rw [← hRM] at HMI
                            have HRM : Hid (RM = remOf d f R vi dp t) := by show _ = _; rw [hRM, unhide HS5]; rfl
                            clear hRM
                            have hrl : RM.length < vi.length := by rw [unhide HRM]; exact unhide HREM
                            obtain ⟨am, cm, rfl, rowm, owm, _⟩ := (unhide HMI).form
                            have HROWM := hide rowm
                            have HOWM := hide owm
                            clear rowm owm
                            go_wp2
                            go_roundw
                            case rel =>
                              refine ⟨k', A6 d f R vi dp t, RM, am, cm, rfl, by omega, by omega, ?_, ?_, ?_, HROWM, ?_, ?_⟩
                              · rw [unhide HSTEP1, unhide HRM]; exact rfl
                              · exact fun u hu => unhide HV u (by rw [unhide HRM] at hu; exact rem_sub u hu)
                              · have h := unhide HMn
                                rw [unhide HS5] at h
                                exact h
                              · exact fun h y e hh => by
                                  have h1 := unhide HOWM h y e
                                  have h2 := (unhide HMn).wr6_lt _ hh
                                  omega
                              · exact (unhide HC8).trans' (unhide HCn) (fun i hi h => h.elim id (fun h => by have := (unhide HC8).size; omega))
                            case measure => simp [lenOf]; omega

end Go.Proofs.Qxb6605408a
