import Derived.Test.Qxb6605386aRepPlain
import Derived.Deep.RegionHeld3
import Derived.Deep.DrawnRows
namespace Go.Proofs.Qxb6605386a
open Go.RowKit Go.Maps Go.WideMaps

theorem newKeySet_any (v m : Value) (w : World) (hv : ∃ a n c, v = .slice a n c) (hm : ∃ r, m = .map r) :
    Calls Try.prog 24 #[v, m] w fun e w' => e = .returned (.pointer (some ⟨w.heap.size, 0, none⟩)) ∧ w.alloc (.cells #[v, m] 50) = w' := by
  obtain ⟨a, n, c, rfl⟩ := hv
  obtain ⟨r, rfl⟩ := hm
  go_enter Try.func24, Try.ntmps24
  go_wp2
  go_ret
  exact ⟨rfl, rfl⟩

theorem ksList_any (sb : Nat) (v : Value) (w : World) (h : w.cell? ⟨sb, 0, none⟩ = some v) :
    Calls Try.prog 26 #[.pointer (some ⟨sb, 0, none⟩)] w fun e w' => e = .returned v ∧ w = w' := by
  go_enter Try.func26, Try.ntmps26
  go_wp2
  go_ret
  exact ⟨rfl, rfl⟩

theorem ksMap_any (sb : Nat) (v : Value) (w : World) (h : w.cell? ⟨sb, 1, none⟩ = some v) :
    Calls Try.prog 27 #[.pointer (some ⟨sb, 0, none⟩)] w fun e w' => e = .returned v ∧ w = w' := by
  go_enter Try.func27, Try.ntmps27
  go_wp2
  go_ret
  exact ⟨rfl, rfl⟩

theorem KS.heap {w w' : World} {base sb N : Nat} {L : List ByteArray} {M : Option (List ByteArray)} {ao : Option Addr} {cap : Nat} {mo : Option Nat} (h : KS w base sb N L M ao cap mo) (hh : w'.heap = w.heap) : KS w' base sb N L M ao cap mo := by
  have hc : ∀ a, w'.cell? a = w.cell? a := fun a => by simp [World.cell?, hh]
  have hf : ∀ a, w'.frozen? a = w.frozen? a := fun a => by simp [World.frozen?, hh]
  refine ⟨by rw [hc]; exact h.c0, by rw [hc]; exact h.c1, by rw [hf]; exact h.f0, by rw [hf]; exact h.f1, h.hsb, ?_, h.ne, h.nomap, fun K hK => ?_⟩
  · have := h.own
    unfold World.ownsRow at this ⊢
    rw [hh]; exact this
  · obtain ⟨mb, h1, h2, h3⟩ := h.map K hK
    refine ⟨mb, h1, h2, ?_⟩
    unfold OwnsSet World.ownsMap at h3 ⊢
    rw [hh]; exact h3

theorem KS.mono {w : World} {base sb N N' : Nat} {L : List ByteArray} {M : Option (List ByteArray)} {ao : Option Addr} {cap : Nat} {mo : Option Nat} (h : KS w base sb N L M ao cap mo) (hN : N ≤ N') : KS w base sb N' L M ao cap mo :=
  ⟨h.c0, h.c1, h.f0, h.f1, h.hsb, h.own, h.ne, h.nomap, fun K hK => by obtain ⟨mb, h1, h2, h3⟩ := h.map K hK; exact ⟨mb, h1, h2, World.ownsMap.mono h3 hN⟩⟩

/-- the keySet's blocks lie from base on -/
theorem KS.blocks {w : World} {base sb N : Nat} {L : List ByteArray} {M : Option (List ByteArray)} {ao : Option Addr} {cap : Nat} {mo : Option Nat} (h : KS w base sb N L M ao cap mo) : ∀ k, ksBlocks sb ao mo k → base ≤ k := by
  intro k hk
  rcases hk with rfl | ⟨x, hx, rfl⟩ | hm
  · exact h.hsb
  · exact (h.own.lt x.block (by subst hx; rfl)).1
  · cases M with
    | none => rw [h.nomap rfl] at hm; cases hm
    | some K =>
      obtain ⟨mb, h1, h2, _⟩ := h.map K rfl
      rw [h1] at hm
      cases hm
      exact h2

/-- the relation of the first loop -/
def Rel1 (w : World) (ss : List ByteArray) (j : Nat) (wr : World) : Prop :=
  Below w.heap.size w wr ∧ ∃ ao cap mo, KS wr w.heap.size w.heap.size (4096 + j) (stL (dd (ss.take j))) (stM (dd (ss.take j))) ao cap mo

theorem rel1_start (w : World) (ss : List ByteArray) : Rel1 w ss 0 (w.alloc (.cells #[.slice none 0 0, .map none] 50)) := by
  refine ⟨(Below.refl _ _).alloc (Nat.le_refl _) _, none, 0, none, ?_⟩
  refine ⟨by simp [stL, dd], by simp, by simp [World.frozen?_alloc_at], by simp [World.frozen?_alloc_at], Nat.le_refl _, ?_, by simp, by simp, ?_⟩
  · simpa [stL, dd] using World.ownsRow_nil _ _ _ _
  · intro K hK
    simp [stM, dd] at hK

theorem stL_len (D : List ByteArray) : (stL D).length ≤ 16 := by simp [stL]; omega
theorem stL_mem {D : List ByteArray} {x : ByteArray} (h : x ∈ stL D) : x ∈ D := List.mem_of_mem_take h

theorem Rel1.drew {w wr : World} {ss : List ByteArray} {j : Nat} (h : Rel1 w ss j wr) : Rel1 w ss j wr.drew := by
  obtain ⟨h1, ao, cap, mo, h2⟩ := h
  exact ⟨h1.drew, ao, cap, mo, h2.heap rfl⟩
theorem Rel1.drewN {w wr : World} {ss : List ByteArray} {j : Nat} (h : Rel1 w ss j wr) (n : Nat) : Rel1 w ss j (wr.drewN n) := by
  obtain ⟨h1, ao, cap, mo, h2⟩ := h
  exact ⟨⟨h1.os, h1.tape, h1.output, h1.size, h1.block⟩, ao, cap, mo, h2.heap rfl⟩

theorem had_step (w : World) (ss : List ByteArray) (j : Nat) (W : World) (h : Rel1 w ss j W) (hj : j < ss.length) (hlen : ss.length ≤ 4096) (hsz : ∀ s ∈ ss, s.size ≤ maxLen) :
    Calls Try.prog 25 #[.pointer (some ⟨w.heap.size, 0, none⟩), .string ss[j]] W fun e w' => e = .returned (.bool (hasS (ss.take j) ss[j])) ∧ Rel1 w ss (j + 1) w' := by
  obtain ⟨hb, ao, cap, mo, hk⟩ := h
  have hl := stL_len (dd (ss.take j))
  refine (zzHad_any w.heap.size w.heap.size (4096 + j) cap ao mo _ _ ss[j] W hk (by omega) (by omega) (by unfold maxLen; omega) (fun s hs => hsz s (List.mem_of_mem_take (mem_dd (stL_mem hs)))) (hsz _ (List.getElem_mem hj)) hb.size).mono ?_
  rintro e w' ⟨rfl, ao', cap', mo', hk', hch, _, _⟩
  rw [hadB_st, hasS_dd]
  rw [hadL_st, hadM_st, ← dd_snoc, ← take_snocS ss j hj] at hk'
  exact ⟨rfl, hb.trans (hch.below hb.size hk.blocks), ao', cap', mo', hk'⟩

theorem KS.below {w w' : World} {base sb N : Nat} {L : List ByteArray} {M : Option (List ByteArray)} {ao : Option Addr} {cap : Nat} {mo : Option Nat} (h : KS w base sb N L M ao cap mo) (hb : Below w.heap.size w w') : KS w' base sb N L M ao cap mo := by
  have hch : Chg (fun k => w.heap.size ≤ k) w w' := Chg.of_below hb
  have hsb : sb < w.heap.size := lt_of_cell h.c0
  refine ⟨(hb.cell (p := ⟨sb, 0, none⟩) hsb).trans h.c0, (hb.cell (p := ⟨sb, 1, none⟩) hsb).trans h.c1, (hb.frozen (p := ⟨sb, 0, none⟩) hsb).trans h.f0, (hb.frozen (p := ⟨sb, 1, none⟩) hsb).trans h.f1, h.hsb, ?_, h.ne, h.nomap, fun K hK => ?_⟩
  · exact hch.ownsRow h.own (fun k hk => Nat.not_le.2 (h.own.lt k hk).2)
  · obtain ⟨mb, h1, h2, h3⟩ := h.map K hK
    exact ⟨mb, h1, h2, h3.chg hch (Nat.not_le.2 h3.lt)⟩

attribute [local go_sem ↓] Go.wp_at_zero Go.wp_at_succ

set_option maxHeartbeats 4000000 in
theorem rep_walk_some (b off cap : Nat) (ss : List ByteArray) (w : World) (hcap : ss.length ≤ cap) (hlen : ss.length ≤ 4096) (hrow : StrRow w (some ⟨b, off, none⟩) ss) (hb : b < w.heap.size) (hsz : ∀ s ∈ ss, s.size ≤ maxLen)
    (hcell : ∀ j, j < ss.length → w.cell? ⟨b, off + j, none⟩ = some (.string (ss.getD j ByteArray.empty))) :
    Calls Try.prog 8 #[.slice (some ⟨b, off, none⟩) ss.length cap] w fun e w' => e = .returned (.bool true) ∧ Below w.heap.size w w' := by
  have hd1 : decide (4096 < (ss.length : Int)) = false := by simp; omega
  go_enter Try.func8, Try.ntmps8
  go_wp2_with fail
  refine (bytes30_any _ _ _ _ (by omega) hrow).mono ?_
  rintro e w' ⟨⟨r, rfl⟩, hw⟩
  replace hw := hw.symm
  subst hw
  cases r
  · go_wp2
    go_ret
    exact ⟨rfl, Below.refl _ _⟩
  go_wp2_with fail
  refine (size_any _ _ _ _ (by omega) hrow).mono ?_
  rintro e w' ⟨hw, n, rfl⟩
  replace hw := hw.symm
  subst hw
  by_cases hn : 1048576 < n
  · go_wp2
    go_ret
    exact ⟨rfl, Below.refl _ _⟩
  have hd2 : decide (1048576 < n) = false := by simpa using hn
  go_wp2_with fail
  refine (newKeySet_any _ _ _ ⟨_, _, _, rfl⟩ ⟨_, rfl⟩).mono ?_
  rintro e w' ⟨rfl, hw⟩
  have hR0 := rel1_start w ss
  rw [hw] at hR0
  clear hw
  go_wp2
  go_loopw [4] (fun i wr => ∃ j : Nat, j ≤ ss.length ∧ i = .int .i64 j ∧ Rel1 w ss j wr) (fun i _ => ss.length - (intOf i).toNat)
  case atStart => exact ⟨0, Nat.zero_le _, rfl, hR0⟩
  case round =>
    clear hR0
    obtain ⟨j, hj, rfl, hR⟩ := hrel
    by_cases hlt : j < ss.length
    · have hjc : (j : Int) ≤ (cap : Int) := by omega
      have hrw : StrRow wr (some ⟨b, off, none⟩) ss := hrow.below hR.1 (Nat.le_refl _)
      have hcx : wr.cell? ⟨b, off + j, none⟩ = some (.string ss[j]) := by
        rw [hR.1.cell (p := ⟨b, off + j, none⟩) hb, hcell j hlt]
        simp [List.getD, hlt]
      have h0j : (0 : Int) ≤ (j : Int) := by omega
      have hjl : (j : Int) < (ss.length : Int) := by omega
      go_wp2
      go_region_held3 (fun W => W.cell? ⟨b, off + j, none⟩ = some (.string ss[j])) (first | assumption | (simp [*]; done))
        (first
          | (go_at_call 25; refine (had_step w ss j _ (by first | exact hR | exact hR.drew | exact hR.drewN _) hlt hlen hsz).mono ?_; rintro e w1 ⟨rfl, hR1⟩; have hrw1 : StrRow w1 (some ⟨b, off, none⟩) ss := hrow.below hR1.1 (Nat.le_refl _); have hcx1 : w1.cell? ⟨b, off + j, none⟩ = some (.string ss[j]) := by rw [hR1.1.cell (p := ⟨b, off + j, none⟩) hb, hcell j hlt]; simp [List.getD, hlt])
          | (go_at_call 28; refine (contains_at _ _ _ (ss.take j) ss[j] _ (by simp; omega) (by omega) (by first | exact (hrw1.take j hj).heap rfl | exact (hrw.take j hj).heap rfl)).mono ?_; rintro e w2 ⟨rfl, hw⟩; replace hw := hw.symm; subst hw))
      go_wp2
      go_roundw
      case rel => exact ⟨j + 1, by omega, by go_num, by first | exact hR1 | exact hR1.drew | exact hR1.drewN _⟩
      case measure => simp [intOf]; omega
    · have hje : j = ss.length := by omega
      subst hje
      clear hlt hj
      obtain ⟨hbw, hKS⟩ := hR
      rw [List.take_length] at hKS
      obtain ⟨ao, cl, mo, hK⟩ := hKS
      have hrw : StrRow wr (some ⟨b, off, none⟩) ss := hrow.below hbw (Nat.le_refl _)
      go_wp2_with fail
      refine (count_any _ _ _ _ hlen hcap hrw).mono ?_
      rintro e w1 ⟨rfl, hb1⟩
      have hK1 := hK.below hb1
      have hbw1 : Below w.heap.size w w1 := hbw.trans (hb1.mono hbw.size)
      clear hrw hK hbw hb1 wr
      have hDl := dd_len ss
      have q1 := eqlNil36
      have q2 := neqNil36
      go_wp2_with fail
      refine (ksMap_any _ _ _ hK1.c1).mono ?_
      rintro e w' ⟨rfl, hw⟩
      subst hw
      by_cases hD : (dd ss).length ≤ 16
      · have hmo := hK1.nomap (stM_small hD)
        subst hmo
        rw [stL_small hD] at hK1
        have hd3 : decide (((dd ss).length : Int) ≤ 16) = true := by simp; omega
        have hd4 : decide (16 < ((dd ss).length : Int)) = false := by simp; omega
        go_wp2_with fail
        refine (ksList_any _ _ _ hK1.c0).mono ?_
        rintro e w' ⟨rfl, hw⟩
        subst hw
        go_wp2
        have hrl : StrRow w1 ao (dd ss) := strRow_own hK1.own
        have hLl : (dd ss).length = (dd ss).length := rfl
        clear hK1
        go_loopw [10, 11] (fun c i wr => ∃ j : Nat, j ≤ ss.length ∧ i = .int .i64 j ∧ c = .int .i64 ((dd (ss.take j)).length : Nat) ∧ (dd (ss.take j)).length ≤ (dd ss).length ∧ Below w1.heap.size w1 wr) (fun _ i _ => ss.length - (intOf i).toNat)
        case atStart => exact ⟨0, Nat.zero_le _, rfl, rfl, by simp [dd], Below.refl _ _⟩
        case round =>
          obtain ⟨j, hj, rfl, rfl, hnl, hbr⟩ := hrel
          by_cases hlt : j < ss.length
          · by_cases hnn : (dd (ss.take j)).length < (dd ss).length
            · have hjc : (j : Int) ≤ (cap : Int) := by omega
              have hbb : Below w.heap.size w wr := hbw1.trans (hbr.mono hbw1.size)
              have hrw : StrRow wr (some ⟨b, off, none⟩) ss := hrow.below hbb (Nat.le_refl _)
              have hcx : wr.cell? ⟨b, off + j, none⟩ = some (.string ss[j]) := by
                rw [hbb.cell (p := ⟨b, off + j, none⟩) hb, hcell j hlt]
                simp [List.getD, hlt]
              obtain ⟨g, lo, hao, hg, hgc⟩ := hrl (by omega)
              have hgx : wr.cell? ⟨g, lo + (dd (ss.take j)).length, none⟩ = some (.string ((dd ss).getD (dd (ss.take j)).length ByteArray.empty)) := by
                rw [hbr.cell (p := ⟨g, lo + (dd (ss.take j)).length, none⟩) hg]
                exact hgc _ (by omega)
              have hnn' : ((dd (ss.take j)).length : Int) < (dd ss).length := by omega
              have hdl := dstep_len (dd (ss.take j)) ss[j]
              rw [hasS_dd, ← dd_snoc, ← take_snocS ss j hlt] at hdl
              have hdl' := hide hdl
              have hDj := dd_len (ss.take j)
              have hDj2 : (ss.take j).length ≤ j := List.length_take_le _ _
              clear hdl hgc hrl
              subst hao
              go_wp2
              go_quiet ((go_at_call 28; exact Calls.quiet_of_same (contains_at _ _ _ (ss.take j) _ _ (by simp; omega) (by omega) ((hrw.take j hj).heap rfl))))
              cases hh : hasS (ss.take j) ss[j]
              · have hat := dd_at ss j hlt hh
                have hge : Hid ((dd ss).getD (dd (ss.take j)).length ByteArray.empty = ss[j]) := by
                  show (dd ss).getD (dd (ss.take j)).length ByteArray.empty = ss[j]
                  rw [List.getD, hat.1]; rfl
                rw [hge.out] at hgx
                clear hat
                have hn1 : ((dd (ss.take j)).length : Int) < (dd ss).length := by omega
                go_wp2
                go_quiet (fail)
                go_wp2
                go_roundw
                case rel => exact ⟨j + 1, by omega, by go_num, by rw [unhide hdl', hh]; go_num, by rw [unhide hdl', hh]; simp; omega, hbr.trans ((below_drawn _ _).mono hbr.size)⟩
                case measure => simp [intOf]; omega
              · go_wp2
                go_roundw
                case rel => exact ⟨j + 1, by omega, by go_num, by rw [unhide hdl', hh]; go_num, by rw [unhide hdl', hh]; simp; omega, hbr.trans ((below_drawn _ _).mono hbr.size)⟩
                case measure => simp [intOf]; omega
            · have hnn' : ¬ ((dd (ss.take j)).length : Int) < (dd ss).length := by omega
              go_wp2
              go_ret
              exact ⟨rfl, hbw1.trans (hbr.mono hbw1.size)⟩
          · go_wp2
            go_ret
            exact ⟨rfl, hbw1.trans (hbr.mono hbw1.size)⟩
      · obtain ⟨mb, hmo, _, hown⟩ := hK1.map _ (stM_big hD)
        subst hmo
        have hd3 : decide (((dd ss).length : Int) ≤ 16) = false := by simp; omega
        have hd4 : decide (16 < ((dd ss).length : Int)) = true := by simp; omega
        go_wp2_with (at_len; go_must (refine wpList_lenSet rfl _ rfl mb _ (dd ss) (dd ss).length rfl hown (by rw [dd_dd]) ?_))
        go_loop [7] (fun i => ∃ j : Nat, j ≤ ss.length ∧ i = .int .i64 j) (fun i => ss.length - (intOf i).toNat)
        case atStart => exact ⟨0, Nat.zero_le _, rfl⟩
        case round =>
          obtain ⟨j, hj, rfl⟩ := hrel
          by_cases hlt : j < ss.length
          · have hcx : w1.cell? ⟨b, off + j, none⟩ = some (.string ss[j]) := by
              rw [hbw1.cell (p := ⟨b, off + j, none⟩) hb, hcell j hlt]
              simp [List.getD, hlt]
            have hhas : hasS (dd ss) ss[j] = true := by rw [hasS_dd]; exact hasS_self hlt
            have hss : ss[j].size ≤ maxLen := hsz _ (List.getElem_mem hlt)
            go_wp2_with (at_lookup; go_must (refine wpList_look rfl _ _ rfl mb _ (dd ss) ss[j] rfl hown rfl hss true hhas ?_))
            go_round
            case rel => exact ⟨j + 1, by omega, by go_num⟩
            case measure => simp [intOf]; omega
          · clear hown
            have hL16 : (stL (dd ss)).length = 16 := by simp [stL]; omega
            have hK1c := hK1.c0
            rw [hL16] at hK1c
            go_wp2_with fail
            refine (ksList_any _ _ _ hK1c).mono ?_
            rintro e w' ⟨rfl, hw⟩
            subst hw
            go_wp2
            have hrl : StrRow w1 ao (stL (dd ss)) := strRow_own hK1.own
            have hLl : (stL (dd ss)).length = 16 := by simp [stL]; omega
            clear hK1
            go_loopw [10, 11] (fun c i wr => ∃ j : Nat, j ≤ ss.length ∧ i = .int .i64 j ∧ c = .int .i64 ((dd (ss.take j)).length : Nat) ∧ (dd (ss.take j)).length ≤ 16 ∧ Below w1.heap.size w1 wr) (fun _ i _ => ss.length - (intOf i).toNat)
            case atStart => exact ⟨0, Nat.zero_le _, rfl, rfl, by simp [dd], Below.refl _ _⟩
            case round =>
              obtain ⟨j, hj, rfl, rfl, hnl, hbr⟩ := hrel
              by_cases hlt : j < ss.length
              · by_cases hnn : (dd (ss.take j)).length < 16
                · have hjc : (j : Int) ≤ (cap : Int) := by omega
                  have hbb : Below w.heap.size w wr := hbw1.trans (hbr.mono hbw1.size)
                  have hrw : StrRow wr (some ⟨b, off, none⟩) ss := hrow.below hbb (Nat.le_refl _)
                  have hcx : wr.cell? ⟨b, off + j, none⟩ = some (.string ss[j]) := by
                    rw [hbb.cell (p := ⟨b, off + j, none⟩) hb, hcell j hlt]
                    simp [List.getD, hlt]
                  obtain ⟨g, lo, hao, hg, hgc⟩ := hrl (by omega)
                  have hgx : wr.cell? ⟨g, lo + (dd (ss.take j)).length, none⟩ = some (.string ((stL (dd ss)).getD (dd (ss.take j)).length ByteArray.empty)) := by
                    rw [hbr.cell (p := ⟨g, lo + (dd (ss.take j)).length, none⟩) hg]
                    exact hgc _ (by omega)
                  have hnn' : ((dd (ss.take j)).length : Int) < 16 := by omega
                  have hdl := dstep_len (dd (ss.take j)) ss[j]
                  rw [hasS_dd, ← dd_snoc, ← take_snocS ss j hlt] at hdl
                  have hdl' := hide hdl
                  have hDj := dd_len (ss.take j)
                  have hDj2 : (ss.take j).length ≤ j := List.length_take_le _ _
                  clear hdl hgc hrl
                  subst hao
                  go_wp2
                  go_quiet ((go_at_call 28; exact Calls.quiet_of_same (contains_at _ _ _ (ss.take j) _ _ (by simp; omega) (by omega) ((hrw.take j hj).heap rfl))))
                  cases hh : hasS (ss.take j) ss[j]
                  · have hat := dd_at ss j hlt hh
                    have hge : Hid ((stL (dd ss)).getD (dd (ss.take j)).length ByteArray.empty = ss[j]) := by
                      show (stL (dd ss)).getD (dd (ss.take j)).length ByteArray.empty = ss[j]
                      rw [List.getD, stL, List.getElem?_take, if_pos hnn, hat.1]; rfl
                    rw [hge.out] at hgx
                    clear hat
                    have hn1 : ((dd (ss.take j)).length : Int) < (stL (dd ss)).length := by omega
                    go_wp2
                    go_quiet (fail)
                    go_wp2
                    go_roundw
                    case rel => exact ⟨j + 1, by omega, by go_num, by rw [unhide hdl', hh]; go_num, by rw [unhide hdl', hh]; simp; omega, hbr.trans ((below_drawn _ _).mono hbr.size)⟩
                    case measure => simp [intOf]; omega
                  · go_wp2
                    go_roundw
                    case rel => exact ⟨j + 1, by omega, by go_num, by rw [unhide hdl', hh]; go_num, by rw [unhide hdl', hh]; simp; omega, hbr.trans ((below_drawn _ _).mono hbr.size)⟩
                    case measure => simp [intOf]; omega
                · have hnn' : ¬ ((dd (ss.take j)).length : Int) < 16 := by omega
                  go_wp2
                  go_ret
                  exact ⟨rfl, hbw1.trans (hbr.mono hbw1.size)⟩
              · go_wp2
                go_ret
                exact ⟨rfl, hbw1.trans (hbr.mono hbw1.size)⟩

end Go.Proofs.Qxb6605386a
