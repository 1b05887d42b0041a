import Derived.Test.Qxb6605519aCalls
import Derived.Deep.RegionHeld3
import Derived.BigQuiet
namespace Go.Proofs.Qxb6605519a
open Go.RowKit Go.Maps Go.WideMaps

def pre (p : Nat → Int × Int) (k : Nat) : List (Int × Int) := (List.range k).map p
theorem pre_succ (p : Nat → Int × Int) (k : Nat) : pre p (k + 1) = pre p k ++ [p k] := by simp [pre, List.range_succ]
theorem any_succ (p : Nat → Int × Int) (k : Nat) (f : Int × Int → Bool) : (pre p (k + 1)).any f = ((pre p k).any f || f (p k)) := by rw [pre_succ]; simp
theorem any_mem (p : Nat → Int × Int) {k n : Nat} (h : k < n) (f : Int × Int → Bool) (hf : f (p k) = true) : (pre p n).any f = true := by
  rw [List.any_eq_true]
  exact ⟨p k, List.mem_map.2 ⟨k, List.mem_range.2 h, rfl⟩, hf⟩

theorem PRow.below {w w' : World} {a : Option Addr} {n : Nat} {p : Nat → Int × Int} (h : PRow w a n p) (hb : Below w.heap.size w w') : PRow w' a n p := by
  intro h0
  obtain ⟨b, off, ha, hlt, hc⟩ := h h0
  exact ⟨b, off, ha, Nat.lt_of_lt_of_le hlt hb.size, fun j hj => ⟨(hb.cell (p := ⟨b, off + j * 2, none⟩) hlt).trans (hc j hj).1, (hb.cell (p := ⟨b, off + j * 2 + 1, none⟩) hlt).trans (hc j hj).2⟩⟩

def AllW (n : Nat) (p : Nat → Int × Int) : Prop := ∀ j, j < n → W64 (p j).1 ∧ W64 (p j).2
/-- block mb is the set that L left; the script's copy lies below it; what was there before the call is untouched -/
structure St (w0 : World) (a : Option Addr) (n mb : Nat) (p : Nat → Int × Int) (m : Nat) (L : List (Int × Int)) (W : World) : Prop where
  set : OwnsW W mb m L
  row : 0 < n → ∃ b off, a = some ⟨b, off, none⟩ ∧ b < mb ∧ ∀ j, j < n → W.cell? ⟨b, off + j * 2, none⟩ = some (.int .i64 (p j).1) ∧ W.cell? ⟨b, off + j * 2 + 1, none⟩ = some (.int .i64 (p j).2)
  old : Below w0.heap.size w0 W
  mb : w0.heap.size ≤ mb

theorem St.drew {w0 : World} {a : Option Addr} {n mb : Nat} {p : Nat → Int × Int} {m : Nat} {L : List (Int × Int)} {W : World} (h : St w0 a n mb p m L W) : St w0 a n mb p m L W.drew :=
  ⟨h.set, h.row, h.old.drew, h.mb⟩

theorem St.draws {w0 : World} {a : Option Addr} {n mb : Nat} {p : Nat → Int × Int} {m : Nat} {L : List (Int × Int)} {W : World} (h : St w0 a n mb p m L W) (k : Nat) : St w0 a n mb p m L (W.drewN k) :=
  ⟨h.set, h.row, ⟨h.old.os, h.old.tape, h.old.output, h.old.size, h.old.block⟩, h.mb⟩

theorem St.step {w0 : World} {a : Option Addr} {n mb : Nat} {p : Nat → Int × Int} {m : Nat} {L : List (Int × Int)} {W : World} (h : St w0 a n mb p m L W) (hm : m < maxLen) {k : Nat} (hk : k < n) (hw : AllW n p) (hp : ∀ j, j < n → 0 ≤ (p j).2) :
    Calls Try.prog 8 #[.map (some mb), .int .i64 (p k).1, .int .i64 (p k).2] W fun e w' => e = .returned (.bool (!L.any (samePair (p k).1 (p k).2))) ∧ St w0 a n mb p (m + 1) (L ++ [p k]) w' := by
  refine (zzadd_any W mb m L (p k).1 (p k).2 (hw k hk).1 (hw k hk).2 (hp k hk) h.set hm).mono ?_
  rintro e w' ⟨rfl, h1, h2⟩
  have hlt := h.set.lt
  refine ⟨rfl, h1, fun h0 => ?_, ?_, h.mb⟩
  · obtain ⟨b, off, ha, hb, hc⟩ := h.row h0
    refine ⟨b, off, ha, hb, fun j hj => ⟨?_, ?_⟩⟩
    · rw [h2.cell (p := ⟨b, off + j * 2, none⟩) (Nat.lt_trans hb hlt) (by simpa using Nat.ne_of_lt hb)]; exact (hc j hj).1
    · rw [h2.cell (p := ⟨b, off + j * 2 + 1, none⟩) (Nat.lt_trans hb hlt) (by simpa using Nat.ne_of_lt hb)]; exact (hc j hj).2
  · exact h.old.trans (h2.below h.old.size (fun k hk => by rw [hk]; exact h.mb))

theorem St.start {w0 w1 : World} {a : Option Addr} {n : Nat} {p : Nat → Int × Int} (hr : PRow w1 a n p) (hb : Below w0.heap.size w0 w1) : St w0 a n w1.heap.size p 0 [] (w1.alloc (.map #[] 0)) :=
  ⟨ownsW_made w1, fun h0 => by
    obtain ⟨b, off, ha, hlt, hc⟩ := hr h0
    have hbe : Below w1.heap.size w1 (w1.alloc (.map #[] 0)) := (Below.refl _ _).alloc (Nat.le_refl _) _
    exact ⟨b, off, ha, hlt, fun j hj => ⟨(hbe.cell (p := ⟨b, off + j * 2, none⟩) hlt).trans (hc j hj).1, (hbe.cell (p := ⟨b, off + j * 2 + 1, none⟩) hlt).trans (hc j hj).2⟩⟩,
    hb.alloc hb.size _, hb.size⟩

def Returns (w : World) (e : Ending) (w' : World) : Prop := e = .returned (.bool true) ∧ Below w.heap.size w w'

theorem rep_walk (a : Option Addr) (n cap : Nat) (w : World) (p : Nat → Int × Int) (hmax : n ≤ 9223372036854775807) (hr : PRow w a n p) (hw : AllW n p) :
    Calls Try.prog 3 #[.slice a n cap] w (Returns w) := by
  have HW := hide hw
  have HR := hide hr
  clear hr hw
  go_enter Try.func3, Try.ntmps3
  go_wp2_with fail
  refine (bytes5_any a n cap w).mono ?_
  rintro e w' ⟨⟨r, rfl⟩, hw⟩
  replace hw := hw.symm
  subst hw
  cases r
  · go_wp2
    go_ret
    exact ⟨rfl, Below.refl _ _⟩
  by_cases hl : (4096 : Int) < n
  · go_wp2
    go_ret
    exact ⟨rfl, Below.refl _ _⟩
  go_wp2
  go_loop [3] (fun i => ∃ k : Nat, k ≤ n ∧ i = .int .i64 k ∧ ∀ j, j < k → 0 ≤ (p j).2) (fun i => n - (intOf i).toNat)
  case atStart => exact ⟨0, Nat.zero_le _, rfl, fun j hj => by omega⟩
  case round =>
    obtain ⟨k, hk, rfl, hpos⟩ := hrel
    by_cases hlt : k < n
    · obtain ⟨b, off, rfl, hb, hc⟩ := unhide HR (by omega)
      have hc1 := (hc k hlt).2
      clear hc
      by_cases hneg : (p k).2 < 0
      · go_wp2
        go_ret
        exact ⟨rfl, Below.refl _ _⟩
      · go_wp2
        go_round
        case rel =>
          refine ⟨k + 1, by omega, by go_num, fun j hj => ?_⟩
          by_cases e : j = k
          · subst e; omega
          · exact hpos j (by omega)
        case measure => simp [intOf]; omega
    · obtain rfl : k = n := by omega
      have HP := hide hpos
      clear hpos
      go_wp2_with fail
      refine (clone_any a k cap _ (by omega) p (unhide HR)).mono ?_
      rintro e w1 ⟨a', c', rfl, hr1, hb1⟩
      go_wp2_with fail
      refine (newSet_any w1).mono ?_
      rintro e w' ⟨rfl, hw⟩
      have hs : St w a' k w1.heap.size p 0 (pre p 0) w' := by rw [hw]; exact St.start hr1 hb1
      generalize w1.heap.size = mb at *
      clear hr1 hb1 hw HR
      have HS := hide hs
      clear hs
      go_wp2
      go_loopw [5] (fun i wr => ∃ u : Nat, u ≤ k ∧ i = .int .i64 u ∧ Hid (St w a' k mb p u (pre p u) wr)) (fun i _ => k - (intOf i).toNat)
      case atStart => exact ⟨0, Nat.zero_le _, rfl, HS⟩
      case round =>
        clear HS
        obtain ⟨u, hu, rfl, HS⟩ := hrel
        by_cases hlt2 : u < k
        · obtain ⟨b, off, rfl, _⟩ := (unhide HS).row (by omega)
          go_wp2
          go_loopw [6, 7] (fun t i wr => ∃ m : Nat, m ≤ u ∧ i = .int .i64 m ∧ t = .bool (!(pre p m).any (samePair (p u).1 (p u).2)) ∧ Hid (St w (some ⟨b, off, none⟩) k mb p u (pre p u) wr)) (fun _ i _ => u - (intOf i).toNat)
          case atStart => exact ⟨0, Nat.zero_le _, rfl, rfl, HS⟩
          case round =>
            clear HS
            obtain ⟨m, hm, rfl, rfl, HS⟩ := hrel
            obtain ⟨b2, off2, hx, hb, hc⟩ := (unhide HS).row (by omega)
            cases hx
            obtain ⟨cu0, cu1⟩ := hc u hlt2
            by_cases hlt3 : m < u
            · obtain ⟨cm0, cm1⟩ := hc m (by omega)
              have hstep := any_succ p m (samePair (p u).1 (p u).2)
              clear hc
              by_cases e0 : (p m).1 = (p u).1
              · by_cases e1 : (p m).2 = (p u).2
                · have d0 : ((p m).1 == (p u).1) = true := by simpa using e0
                  have d1 : ((p m).2 == (p u).2) = true := by simpa using e1
                  go_wp2
                  go_quiet (fail)
                  go_wp2
                  go_roundw
                  case rel => exact ⟨m + 1, by omega, by go_num, by rw [hstep]; simp [samePair, e0, e1], hide (by first | exact unhide HS | exact (unhide HS).drew | exact (unhide HS).draws _)⟩
                  case measure => simp [intOf]; omega
                · have d0 : ((p m).1 == (p u).1) = true := by simpa using e0
                  have d1 : ((p m).2 == (p u).2) = false := by simpa using e1
                  go_wp2
                  go_quiet (fail)
                  go_wp2
                  go_roundw
                  case rel => exact ⟨m + 1, by omega, by go_num, by rw [hstep]; simp [samePair, e0, e1], hide (by first | exact unhide HS | exact (unhide HS).drew | exact (unhide HS).draws _)⟩
                  case measure => simp [intOf]; omega
              · have d0 : ((p m).1 == (p u).1) = false := by simpa using e0
                go_wp2
                go_quiet (fail)
                go_wp2
                go_roundw
                case rel => exact ⟨m + 1, by omega, by go_num, by rw [hstep]; simp [samePair, e0], hide (by first | exact unhide HS | exact (unhide HS).drew | exact (unhide HS).draws _)⟩
                case measure => simp [intOf]; omega
            · obtain rfl : m = u := by omega
              clear hc
              have HK := hide (And.intro cu0 cu1)
              go_wp2
              go_region_held3 (fun W => W.cell? ⟨b, off + m * 2, none⟩ = some (.int .i64 (p m).1) ∧ W.cell? ⟨b, off + m * 2 + 1, none⟩ = some (.int .i64 (p m).2)) (first | assumption | (simp [*]; done))
                (first
                  | (go_at_call 8; refine (St.step (by first | exact unhide HS | exact (unhide HS).drew | exact (unhide HS).draws _) (by unfold maxLen; omega) hlt2 (unhide HW) (unhide HP)).mono ?_; rintro e w3 ⟨rfl, hs3⟩; obtain ⟨b3, off3, hx3, _, hc3⟩ := hs3.row (by omega); cases hx3; obtain ⟨k0, k1⟩ := hc3 m hlt2; clear hc3))
              have hbb : ((!(pre p m).any (samePair (p m).1 (p m).2)) != (!(pre p m).any (samePair (p m).1 (p m).2))) = false := by simp
              go_wp2
              go_roundw
              case rel => exact ⟨m + 1, by omega, by go_num, by rw [pre_succ]; exact hs3⟩
              case measure => simp [intOf]; omega
        · obtain rfl : u = k := by omega
          have HS2 : Hid (St w a' u mb p (u + 0) (pre p u ++ pre p 0) wr) := by
            have : pre p u ++ pre p 0 = pre p u := by simp [pre]
            rw [this]; exact HS
          clear HS
          go_wp2
          go_loopw [8] (fun i wr => ∃ v : Nat, v ≤ u ∧ i = .int .i64 v ∧ Hid (St w a' u mb p (u + v) (pre p u ++ pre p v) wr)) (fun i _ => u - (intOf i).toNat)
          case atStart => exact ⟨0, Nat.zero_le _, rfl, HS2⟩
          case round =>
            clear HS2
            obtain ⟨v, hv, rfl, HS⟩ := hrel
            by_cases hlt3 : v < u
            · obtain ⟨b, off, rfl, hb, hc⟩ := (unhide HS).row (by omega)
              obtain ⟨cu0, cu1⟩ := hc v hlt3
              clear hc
              have hany : (pre p u ++ pre p v).any (samePair (p v).1 (p v).2) = true := by
                rw [List.any_append, any_mem p hlt3 _ (by simp [samePair])]; rfl
              go_wp2
              go_region_held3 (fun W => W.cell? ⟨b, off + v * 2, none⟩ = some (.int .i64 (p v).1) ∧ W.cell? ⟨b, off + v * 2 + 1, none⟩ = some (.int .i64 (p v).2)) (first | assumption | (simp [*]; done))
                (first
                  | (go_at_call 8; refine (St.step (by first | exact unhide HS | exact (unhide HS).drew | exact (unhide HS).draws _) (by unfold maxLen; omega) hlt3 (unhide HW) (unhide HP)).mono ?_; rw [hany]; rintro e w3 ⟨rfl, hs3⟩; obtain ⟨b3, off3, hx3, _, hc3⟩ := hs3.row (by omega); cases hx3; obtain ⟨k0, k1⟩ := hc3 v hlt3; clear hc3))
              go_wp2
              go_roundw
              case rel => exact ⟨v + 1, by omega, by go_num, by rw [pre_succ, ← List.append_assoc]; exact hs3⟩
              case measure => simp [intOf]; omega
            · go_wp2
              go_ret
              exact ⟨rfl, (unhide HS).old⟩

end Go.Proofs.Qxb6605519a
