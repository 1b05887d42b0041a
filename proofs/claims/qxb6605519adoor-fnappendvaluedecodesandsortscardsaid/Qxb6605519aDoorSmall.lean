import Derived.Test.Qxb6605519aDoorNeg
import Derived.Deep.QuietTactic
namespace Go.Proofs.Qxb6605519aDoor
open Go.Shelf Go.RowKit Go.Sort

theorem BRow.below {w w' : World} {a : Option Addr} {l : List UInt8} (h : BRow w a l) (hb : Below w.heap.size w w') : BRow w' a l := by
  intro h0
  obtain ⟨b, off, ha, hlt, hc⟩ := h h0
  exact ⟨b, off, ha, Nat.lt_of_lt_of_le hlt hb.size, fun j hj => (hb.cell (p := ⟨b, off + j, none⟩) hlt).trans (hc j hj)⟩

theorem max_any (a b : Int) (w : World) : Calls Tryd.prog 6 #[.int .i64 a, .int .i64 b] w fun e w' => e = .returned (.int .i64 (max a b)) ∧ w' = w := by
  by_cases h : b < a
  · have e : max a b = a := by omega
    rw [e]
    go_enter Tryd.func6, Tryd.ntmps6
    go_wp2
    go_ret
    exact ⟨rfl, rfl⟩
  · have e : max a b = b := by omega
    rw [e]
    go_enter Tryd.func6, Tryd.ntmps6
    go_wp2
    go_ret
    exact ⟨rfl, rfl⟩

def cmpI (a b : Int) : Int := if a < b then -1 else if b < a then 1 else 0
theorem cmpInt_any (a b : Int) (w : World) : Calls Tryd.prog 9 #[.int .i64 a, .int .i64 b] w fun e w' => e = .returned (.int .i64 (cmpI a b)) ∧ w' = w := by
  by_cases h : a < b
  · have e : cmpI a b = -1 := by unfold cmpI; rw [if_pos h]
    rw [e]
    go_enter Tryd.func9, Tryd.ntmps9
    go_wp2
    go_ret
    exact ⟨rfl, rfl⟩
  · by_cases h2 : b < a
    · have e : cmpI a b = 1 := by unfold cmpI; rw [if_neg h, if_pos h2]
      rw [e]
      go_enter Tryd.func9, Tryd.ntmps9
      go_wp2
      go_ret
      exact ⟨rfl, rfl⟩
    · have e : cmpI a b = 0 := by unfold cmpI; rw [if_neg h, if_neg h2]
      rw [e]
      go_enter Tryd.func9, Tryd.ntmps9
      go_wp2
      go_ret
      exact ⟨rfl, rfl⟩

theorem magnitude_any (v : Int) (h0 : -9223372036854775808 ≤ v) (h1 : v ≤ 9223372036854775807) (w : World) : Calls Tryd.prog 12 #[.int .i64 v] w fun e w' => e = .returned (.int .u64 (v.natAbs : Int)) ∧ w' = w := by
  by_cases h : v < 0
  · have e : ((v.natAbs : Nat) : Int) = -v := by omega
    rw [e]
    have e2 : IntKind.u64.wrap (IntKind.u64.wrap (-(v + 1)) + 1) = -v := by rw [IntKind.wrap_u64, IntKind.wrap_u64]; omega
    have e3 : IntKind.u64.wrap (-(v + 1)) = -(v + 1) := by rw [IntKind.wrap_u64]; omega
    go_enter Tryd.func12, Tryd.ntmps12
    go_wp2
    go_ret
    refine ⟨?_, rfl⟩
    show Ending.returned (.int .u64 _) = _
    congr 2
    first | omega | (rw [IntKind.wrap_u64]; omega) | (rw [IntKind.wrap_u64, IntKind.wrap_u64]; omega)
  · have e : ((v.natAbs : Nat) : Int) = v := by omega
    rw [e]
    go_enter Tryd.func12, Tryd.ntmps12
    go_wp2
    go_ret
    refine ⟨?_, rfl⟩
    show Ending.returned (.int .u64 _) = _
    congr 2

theorem make22 (n : Nat) (hn : n ≤ 1048576) (w : World) : (Instr.makeSlice 22 (.int .i64 (n : Int)) (.int .i64 (n : Int))).run Tryd.prog w = .ok (.slice (some ⟨w.heap.size, 0, none⟩) n n) (w.alloc (.cells (madeCells #[.int .u8 0] n) 5)) :=
  run_make_row' 22 5 (.int .u8 0) 1 Tryd.underlying22 info5 rfl .i64 .i64 n (by omega) (by omega) w

theorem setI {w : World} {g : Nat} {t : TypeId} {n : Nat} {c : Nat → Int} (h : w.rowIs g t n (fun j => .int .u8 (c j))) (i : Nat) (x : Int) : ∃ c' : Nat → Int, (w.setCell ⟨g, i, none⟩ (.int .u8 x)).rowIs g t n (fun j => .int .u8 (c' j)) :=
  ⟨fun j => if j = i then x else c j, (h.set i _).congr (fun j _ => by
    by_cases e : j = i
    · simp [e]
    · simp [e])⟩

set_option maxHeartbeats 1000000 in
theorem decimal_any (u : Nat) (hu : u < 18446744073709551616) (w : World) : Calls Tryd.prog 11 #[.int .u64 u] w fun e w' => (∃ a cap, e = .returned (.slice a (Lib.nDigits u) cap)) ∧ Below w.heap.size w w' := by
  have hN := Lib.nDigits_le20 u hu
  have hr0 : (w.alloc (.cells (Array.replicate 20 (.int .u8 0)) 37)).rowIs w.heap.size 37 20 (fun _ => .int .u8 0) := by
    have := World.rowIs_alloc w (Array.replicate 20 (.int .u8 0)) 37 (fun _ => .int .u8 0) (fun i hi => by simp at hi; simp [hi])
    simpa using this
  have HR := hide hr0
  clear hr0
  go_enter Tryd.func11, Tryd.ntmps11
  go_wp2
  go_loopw [0, 4] (fun x n wr => ∃ (k y : Nat) (c : Nat → Int), x = .int .u64 y ∧ n = .int .i64 k ∧ k + Lib.nDigits y = Lib.nDigits u ∧ y < 18446744073709551616 ∧ wr.rowIs w.heap.size 37 20 (fun j => .int .u8 (c j)) ∧ Below w.heap.size w wr ∧ wr.heap.size = w.heap.size + 1) (fun x _ _ => (Go.RowKit.intOf x).toNat)
  case atStart => exact ⟨0, u, fun _ => 0, rfl, rfl, by omega, hu, unhide HR, (Below.refl _ _).alloc (Nat.le_refl _) _, by simp⟩
  case round =>
    clear HR
    obtain ⟨k, y, c, rfl, rfl, hk, hy, hrow, hbr, hsz⟩ := hrel
    have hp := Lib.nDigits_pos y
    have hc : wr.cell? ⟨w.heap.size, k, none⟩ = some (.int .u8 (c k)) := hrow.cell (by omega)
    have hf : wr.frozen? ⟨w.heap.size, k, none⟩ = false := hrow.frozen _
    have hk20 : k < 20 := by omega
    by_cases hy10 : y < 10
    · have hq : (y : Int) / 10 = 0 := by omega
      have hnk : Lib.nDigits y = 1 := Lib.nDigits_small hy10
      have mk := make22 (k + 1) (by omega)
      rw [show ((k + 1 : Nat) : Int) = (k : Int) + 1 from by omega] at mk
      go_wp2
      go_loopw [6] (fun i wr => ∃ (m : Nat) (c d : Nat → Int), i = .int .i64 m ∧ m ≤ k + 1 ∧ wr.rowIs w.heap.size 37 20 (fun j => .int .u8 (c j)) ∧ wr.rowIs (w.heap.size + 1) 5 (k + 1) (fun j => .int .u8 (d j)) ∧ Below w.heap.size w wr) (fun i _ => k + 1 - (Go.RowKit.intOf i).toNat)
      case atStart =>
        obtain ⟨c', hc'⟩ := setI hrow k (48 + (y : Int) % 10)
        refine ⟨0, c', fun _ => 0, rfl, Nat.zero_le _, hc'.alloc _, ?_, (hbr.setCell (p := ⟨w.heap.size, k, none⟩) (Nat.le_refl _) _).alloc (by simp; omega) _⟩
        have := World.rowIs_made (wr.setCell ⟨w.heap.size, k, none⟩ (.int .u8 (48 + (y : Int) % 10))) (.int .u8 0) (k + 1) 5
        rw [World.size_setCell, hsz] at this
        exact this
      case round =>
        obtain ⟨m, c2, d, rfl, hm, hrow2, hrow3, hbr2⟩ := hrel
        by_cases hmk : m < k + 1
        · have g0 : ∃ x, wr.cell? ⟨w.heap.size, k - m, none⟩ = some (.int .u8 x) := ⟨_, hrow2.cell (by omega)⟩
          obtain ⟨x, g0⟩ := g0
          have g1 : wr.cell? ⟨w.heap.size + 1, m, none⟩ = some (.int .u8 (d m)) := hrow3.cell hmk
          have g2 : wr.frozen? ⟨w.heap.size + 1, m, none⟩ = false := hrow3.frozen _
          have i1 : (k : Int) - m < 20 := by omega
          have i2 : (0 : Int) ≤ (k : Int) - m := by omega
          obtain ⟨d', hd'⟩ := setI hrow3 m x
          have HD := hide hd'
          clear hd'
          go_wp2
          exact ⟨⟨m + 1, c2, d', by go_num, by omega, hrow2.setOther (by simp) _, unhide HD, hbr2.setCell (p := ⟨w.heap.size + 1, m, none⟩) (by simp) _⟩, by simp [Go.RowKit.intOf]; omega⟩
        · obtain rfl : m = k + 1 := by omega
          go_wp2
          go_ret
          refine ⟨⟨some ⟨w.heap.size + 1, 0, none⟩, k + 1, ?_⟩, hbr2⟩
          rw [← hk, hnk]
          rfl
    · have hnk := Lib.nDigits_big hy10
      obtain ⟨c', hc'⟩ := setI hrow k (48 + (y : Int) % 10)
      have HD := hide hc'
      clear hc'
      go_wp2
      exact ⟨⟨k + 1, y / 10, c', by go_num, by go_num, by omega, by omega, unhide HD, hbr.setCell (p := ⟨w.heap.size, k, none⟩) (Nat.le_refl _) _, by rw [World.size_setCell]; exact hsz⟩, by simp [Go.RowKit.intOf]; omega⟩

def plen (v : Int) : Nat := Lib.nDigits v.natAbs + if v < 0 then 1 else 0

theorem plainLen_any (v : Int) (h0 : -9223372036854775808 ≤ v) (h1 : v ≤ 9223372036854775807) (w : World) : Calls Tryd.prog 7 #[.int .i64 v] w fun e w' => e = .returned (.int .i64 (plen v : Int)) ∧ Below w.heap.size w w' := by
  have hN := Lib.nDigits_le20 v.natAbs (by omega)
  by_cases h : v < 0
  · have e : ((plen v : Nat) : Int) = (Lib.nDigits v.natAbs : Int) + 1 := by unfold plen; rw [if_pos h]; omega
    rw [e]
    clear e
    go_enter Tryd.func7, Tryd.ntmps7
    go_wp2_with fail
    refine (magnitude_any v h0 h1 w).mono ?_
    rintro e w' ⟨rfl, hw⟩
    replace hw := hw.symm
    subst hw
    go_wp2_with fail
    refine (decimal_any v.natAbs (by omega) _).mono ?_
    rintro e w1 ⟨⟨a, cap, rfl⟩, hb⟩
    go_wp2
    go_ret
    exact ⟨rfl, hb⟩
  · have e : ((plen v : Nat) : Int) = (Lib.nDigits v.natAbs : Int) := by unfold plen; rw [if_neg h]; omega
    rw [e]
    clear e
    go_enter Tryd.func7, Tryd.ntmps7
    go_wp2_with fail
    refine (magnitude_any v h0 h1 w).mono ?_
    rintro e w' ⟨rfl, hw⟩
    replace hw := hw.symm
    subst hw
    go_wp2_with fail
    refine (decimal_any v.natAbs (by omega) _).mono ?_
    rintro e w1 ⟨⟨a, cap, rfl⟩, hb⟩
    go_wp2
    go_ret
    exact ⟨rfl, hb⟩

end Go.Proofs.Qxb6605519aDoor
