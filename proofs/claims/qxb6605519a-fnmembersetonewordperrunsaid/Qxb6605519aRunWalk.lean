import Derived.Test.Qxb6605519aRepWalk
namespace Go.Proofs.Qxb6605519a
open Go.RowKit Go.Maps Go.WideMaps

set_option maxHeartbeats 4000000 in
set_option maxRecDepth 4000 in
theorem run_walk (a : Option Addr) (n cap : Nat) (w : World) (p : Nat → Int × Int) (hmax : n ≤ 9223372036854775807) (hr : PRow w a n p) (hw : AllW n p) :
    Calls Try.prog 4 #[.slice a n cap] w (Returns w) := by
  have HW := hide hw
  have HR := hide hr
  clear hr hw
  go_enter Try.func4, Try.ntmps4
  go_wp2_with fail
  refine (bytes9_any a n cap w).mono ?_
  rintro e w' ⟨⟨r, rfl⟩, hw⟩
  replace hw := hw.symm
  subst hw
  cases r
  · go_wp2
    go_ret
    exact ⟨rfl, Below.refl _ _⟩
  by_cases hl : (4096 : Int) < n
  · go_wp2
    go_ret
    exact ⟨rfl, Below.refl _ _⟩
  go_wp2
  go_loop [3] (fun i => ∃ k : Nat, k ≤ n ∧ i = .int .i64 k ∧ ∀ j, j < k → 0 ≤ (p j).2) (fun i => n - (intOf i).toNat)
  case atStart => exact ⟨0, Nat.zero_le _, rfl, fun j hj => by omega⟩
  case round =>
    obtain ⟨k, hk, rfl, hpos⟩ := hrel
    by_cases hlt : k < n
    · obtain ⟨b, off, rfl, hb, hc⟩ := unhide HR (by omega)
      have hc1 := (hc k hlt).2
      clear hc
      by_cases hneg : (p k).2 < 0
      · go_wp2
        go_ret
        exact ⟨rfl, Below.refl _ _⟩
      · go_wp2
        go_round
        case rel =>
          refine ⟨k + 1, by omega, by go_num, fun j hj => ?_⟩
          by_cases e : j = k
          · subst e; omega
          · exact hpos j (by omega)
        case measure => simp [intOf]; omega
    · obtain rfl : k = n := by omega
      have HP := hide hpos
      clear hpos
      go_wp2_with fail
      refine (clone_any a k cap _ (by omega) p (unhide HR)).mono ?_
      rintro e w1 ⟨a', c', rfl, hr1, hb1⟩
      go_wp2_with fail
      refine (newSet_any w1).mono ?_
      rintro e w' ⟨rfl, hw⟩
      have hs : St w a' k w1.heap.size p 0 (pre p 0) w' := by rw [hw]; exact St.start hr1 hb1
      generalize w1.heap.size = mb at *
      clear hr1 hb1 hw HR
      have HS := hide hs
      clear hs
      go_wp2
      go_loopw [5, 6] (fun t i wr => ∃ u : Nat, u ≤ k ∧ i = .int .i64 u ∧ t = .int .i64 (cnt sp (pre p u)) ∧ Hid (St w a' k mb p u (pre p u) wr)) (fun _ i _ => k - (intOf i).toNat)
      case atStart => exact ⟨0, Nat.zero_le _, rfl, rfl, HS⟩
      case round =>
        clear HS
        obtain ⟨u, hu, rfl, rfl, HS⟩ := hrel
        by_cases hlt2 : u < k
        · obtain ⟨b, off, rfl, hb, hc⟩ := (unhide HS).row (by omega)
          obtain ⟨cu0, cu1⟩ := hc u hlt2
          clear hc
          have hcl := cnt_le sp (pre p u)
          have hpl : (pre p u).length = u := by simp [pre]
          have hcs := cnt_snoc sp (pre p u) (p u)
          rw [← pre_succ, show sp (p u) = samePair (p u).1 (p u).2 from rfl] at hcs
          cases hany : (pre p u).any (samePair (p u).1 (p u).2)
          all_goals rw [hany] at hcs
          · go_wp2
            go_region_held3 (fun W => W.cell? ⟨b, off + u * 2, none⟩ = some (.int .i64 (p u).1) ∧ W.cell? ⟨b, off + u * 2 + 1, none⟩ = some (.int .i64 (p u).2)) (first | assumption | (simp [*]; done))
                (first
                  | (go_at_call 8; refine (St.step (by first | exact unhide HS | exact (unhide HS).drew | exact (unhide HS).draws _) (by unfold maxLen; omega) hlt2 (unhide HW) (unhide HP)).mono ?_; rw [hany]; rintro e w3 ⟨rfl, hs3⟩; obtain ⟨b3, off3, hx3, _, hc3⟩ := hs3.row (by omega); cases hx3; obtain ⟨k0, k1⟩ := hc3 u hlt2; clear hc3))
            go_wp2
            go_roundw
            case rel => exact ⟨u + 1, by omega, by go_num, by rw [hcs]; go_num, by rw [pre_succ]; exact hs3⟩
            case measure => simp [intOf]; omega
          · go_wp2
            go_region_held3 (fun W => W.cell? ⟨b, off + u * 2, none⟩ = some (.int .i64 (p u).1) ∧ W.cell? ⟨b, off + u * 2 + 1, none⟩ = some (.int .i64 (p u).2)) (first | assumption | (simp [*]; done))
                (first
                  | (go_at_call 8; refine (St.step (by first | exact unhide HS | exact (unhide HS).drew | exact (unhide HS).draws _) (by unfold maxLen; omega) hlt2 (unhide HW) (unhide HP)).mono ?_; rw [hany]; rintro e w3 ⟨rfl, hs3⟩; obtain ⟨b3, off3, hx3, _, hc3⟩ := hs3.row (by omega); cases hx3; obtain ⟨k0, k1⟩ := hc3 u hlt2; clear hc3))
            go_wp2
            go_roundw
            case rel => exact ⟨u + 1, by omega, by go_num, by rw [hcs]; rfl, by rw [pre_succ]; exact hs3⟩
            case measure => simp [intOf]; omega
        · obtain rfl : u = k := by omega
          go_wp2
          go_loopw [7, 8, 9] (fun t s i wr => ∃ v : Nat, v ≤ u ∧ i = .int .i64 v ∧ t = .int .i64 (cnt sp (pre p v)) ∧ s = .int .i64 (cnt sw (pre p v)) ∧ Hid (St w a' u mb p u (pre p u) wr)) (fun _ _ i _ => u - (intOf i).toNat)
          case atStart => exact ⟨0, Nat.zero_le _, rfl, rfl, rfl, HS⟩
          case round =>
            clear HS
            obtain ⟨v, hv, rfl, rfl, rfl, HS⟩ := hrel
            by_cases hlt3 : v < u
            · obtain ⟨b, off, rfl, _⟩ := (unhide HS).row (by omega)
              have hq1 := quo_is ((unhide HW) v hlt3).2 ((unhide HP) v hlt3)
              have hcl := cnt_le sp (pre p v)
              have hcl2 := cnt_le sw (pre p v)
              have hpl : (pre p v).length = v := by simp [pre]
              have hcs := cnt_snoc sp (pre p v) (p v)
              have hcs2 := cnt_snoc sw (pre p v) (p v)
              rw [← pre_succ, show sp (p v) = samePair (p v).1 (p v).2 from rfl] at hcs
              rw [← pre_succ, show sw (p v) = sameWord (p v).1 ((p v).2 / 64) from rfl] at hcs2
              have HCS := hide (And.intro hcs hcs2)
              clear hcs hcs2
              go_wp2
              go_loopw [10, 11, 12] (fun t s i wr => ∃ m : Nat, m ≤ v ∧ i = .int .i64 m ∧ t = .bool (!(pre p m).any (samePair (p v).1 (p v).2)) ∧ s = .bool (!(pre p m).any (sameWord (p v).1 ((p v).2 / 64))) ∧ Hid (St w (some ⟨b, off, none⟩) u mb p u (pre p u) wr)) (fun _ _ i _ => v - (intOf i).toNat)
              case atStart => exact ⟨0, Nat.zero_le _, rfl, rfl, rfl, HS⟩
              case round =>
                clear HS
                obtain ⟨m, hm, rfl, rfl, rfl, HS⟩ := hrel
                obtain ⟨b2, off2, hx, hb, hc⟩ := (unhide HS).row (by omega)
                cases hx
                obtain ⟨cu0, cu1⟩ := hc v hlt3
                by_cases hlt4 : m < v
                · obtain ⟨cm0, cm1⟩ := hc m (by omega)
                  have hq2 := quo_is ((unhide HW) m (by omega)).2 ((unhide HP) m (by omega))
                  have hstep := any_succ p m (samePair (p v).1 (p v).2)
                  have hstep2 := any_succ p m (sameWord (p v).1 ((p v).2 / 64))
                  clear hc
                  by_cases e0 : (p m).1 = (p v).1
                  · by_cases e1 : (p m).2 = (p v).2
                    · have e2 : (p m).2 / 64 = (p v).2 / 64 := by rw [e1]
                      have d0 : ((p m).1 == (p v).1) = true := by simpa using e0
                      have d1 : ((p m).2 == (p v).2) = true := by simpa using e1
                      have d2 : ((p m).2 / 64 == (p v).2 / 64) = true := by simpa using e2
                      go_wp2
                      go_quiet (fail)
                      go_wp2
                      go_quiet (fail)
                      go_wp2
                      go_quiet (fail)
                      go_wp2
                      go_roundw
                      case rel => exact ⟨m + 1, by omega, by go_num, by rw [hstep]; simp [samePair, e0, e1], by rw [hstep2]; simp [sameWord, e0, e2], hide (by first | exact unhide HS | exact (unhide HS).drew | exact (unhide HS).drew.drew | exact (unhide HS).drew.drew.drew | exact (unhide HS).draws _)⟩
                      case measure => simp [intOf]; omega
                    · by_cases e2 : (p m).2 / 64 = (p v).2 / 64
                      · have d0 : ((p m).1 == (p v).1) = true := by simpa using e0
                        have d1 : ((p m).2 == (p v).2) = false := by simpa using e1
                        have d2 : ((p m).2 / 64 == (p v).2 / 64) = true := by simpa using e2
                        go_wp2
                        go_quiet (fail)
                        go_wp2
                        go_quiet (fail)
                        go_wp2
                        go_quiet (fail)
                        go_wp2
                        go_roundw
                        case rel => exact ⟨m + 1, by omega, by go_num, by rw [hstep]; simp [samePair, e0, e1], by rw [hstep2]; simp [sameWord, e0, e2], hide (by first | exact unhide HS | exact (unhide HS).drew | exact (unhide HS).drew.drew | exact (unhide HS).drew.drew.drew | exact (unhide HS).draws _)⟩
                        case measure => simp [intOf]; omega
                      · have d0 : ((p m).1 == (p v).1) = true := by simpa using e0
                        have d1 : ((p m).2 == (p v).2) = false := by simpa using e1
                        have d2 : ((p m).2 / 64 == (p v).2 / 64) = false := by simpa using e2
                        go_wp2
                        go_quiet (fail)
                        go_wp2
                        go_quiet (fail)
                        go_wp2
                        go_quiet (fail)
                        go_wp2
                        go_roundw
                        case rel => exact ⟨m + 1, by omega, by go_num, by rw [hstep]; simp [samePair, e0, e1], by rw [hstep2]; simp [sameWord, e0, e2], hide (by first | exact unhide HS | exact (unhide HS).drew | exact (unhide HS).drew.drew | exact (unhide HS).drew.drew.drew | exact (unhide HS).draws _)⟩
                        case measure => simp [intOf]; omega
                  · have d0 : ((p m).1 == (p v).1) = false := by simpa using e0
                    go_wp2
                    go_quiet (fail)
                    go_wp2
                    go_roundw
                    case rel => exact ⟨m + 1, by omega, by go_num, by rw [hstep]; simp [samePair, e0], by rw [hstep2]; simp [sameWord, e0], hide (by first | exact unhide HS | exact (unhide HS).drew | exact (unhide HS).drew.drew | exact (unhide HS).drew.drew.drew | exact (unhide HS).draws _)⟩
                    case measure => simp [intOf]; omega
                · obtain rfl : m = v := by omega
                  clear hc cu0 cu1 hq1
                  obtain ⟨hcs, hcs2⟩ := unhide HCS
                  cases hany : (pre p m).any (samePair (p m).1 (p m).2)
                  all_goals cases hany2 : (pre p m).any (sameWord (p m).1 ((p m).2 / 64))
                  all_goals rw [hany] at hcs
                  all_goals rw [hany2] at hcs2
                  all_goals clear hany hany2 HCS
                  all_goals have HH := hide (And.intro hcs hcs2)
                  all_goals clear hcs hcs2
                  all_goals go_wp2
                  all_goals go_roundw
                  all_goals obtain ⟨hcs, hcs2⟩ := unhide HH
                  case rel => exact ⟨m + 1, by omega, by go_num, by rw [hcs]; go_num, by rw [hcs2]; go_num, HS⟩
                  case measure => simp [intOf]; omega
                  case rel => exact ⟨m + 1, by omega, by go_num, by rw [hcs]; go_num, by rw [hcs2]; rfl, HS⟩
                  case measure => simp [intOf]; omega
                  case rel => exact ⟨m + 1, by omega, by go_num, by rw [hcs]; rfl, by rw [hcs2]; go_num, HS⟩
                  case measure => simp [intOf]; omega
                  case rel => exact ⟨m + 1, by omega, by go_num, by rw [hcs]; rfl, by rw [hcs2]; rfl, HS⟩
                  case measure => simp [intOf]; omega
            · obtain rfl : v = u := by omega
              obtain ⟨D, ⟨es, clock, hh, F, _, hD⟩, _, _, hsz⟩ := (unhide HS).set
              have hes : es.size = cnt sw (pre p v) := by
                rw [← hsz, hD]
                simp [Maps.size, length_sorted]
              have hlen : (Builtin.len_ #[28] 3 #[.map (some mb)]).run Try.prog wr = .ok (.int .i64 (cnt sw (pre p v))) wr := by
                simp [Builtin.len_, run_underlying Try.underlying28, MapKept.run_getObj_map hh, goInt, Result.andThen, hes]
              clear F hD hsz
              go_wp2
              go_ret
              exact ⟨ret_bool (by simp), (unhide HS).old⟩

end Go.Proofs.Qxb6605519a
