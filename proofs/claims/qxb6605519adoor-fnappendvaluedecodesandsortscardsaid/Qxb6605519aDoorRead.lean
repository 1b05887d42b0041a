import Derived.Test.Qxb6605519aDoorSmall
import Derived.Test.Qxb6605519aDoorPlain
import Derived.Laws.BitsAllLaws
namespace Go.Proofs.Qxb6605519aDoor
open Go.Shelf Go.RowKit Go.Sort

theorem below_drewN {B : Nat} {w w' : World} (h : Below B w w') (n : Nat) : Below B w (w'.drewN n) := ⟨h.os, h.tape, h.output, h.size, h.block⟩

set_option maxHeartbeats 1000000 in
theorem cmpBytes_any (n : Nat) (hn : n ≤ 1048576) (a b : Option Addr) (ca cb : Nat) (la lb : List UInt8) (h1 : la.length = n) (h2 : lb.length = n) (w : World) (ra : BRow w a la) (rb : BRow w b lb) :
    Calls Tryd.prog 8 #[.slice a n ca, .slice b n cb] w fun e w' => e = .returned (.int .i64 (cmpB la lb)) ∧ Below w.heap.size w w' := by
  have RA := hide ra
  have RB := hide rb
  have H1 := hide h1
  have H2 := hide h2
  clear ra rb h1 h2
  go_enter Tryd.func8, Tryd.ntmps8
  go_wp2
  go_loopw [5] (fun i wr => ∃ k : Nat, k ≤ n ∧ i = .int .i64 k ∧ Hid (cmpB la lb = cmpB (la.drop k) (lb.drop k)) ∧ Below w.heap.size w wr) (fun i _ => n - (intOf i).toNat)
  case atStart => exact ⟨0, Nat.zero_le _, rfl, hide rfl, Below.refl _ _⟩
  case round =>
    obtain ⟨k, hk, rfl, HC, hbr⟩ := hrel
    by_cases hlt : k < n
    · have l1 := unhide H1
      have l2 := unhide H2
      obtain ⟨b1, o1, rfl, hb1, c1⟩ := unhide RA (by omega)
      obtain ⟨b2, o2, rfl, hb2, c2⟩ := unhide RB (by omega)
      have g1 : wr.cell? ⟨b1, o1 + k, none⟩ = some (.int .u8 ((la.getD k 0).toNat : Int)) := (hbr.cell (p := ⟨b1, o1 + k, none⟩) hb1).trans (c1 k (by omega))
      have g2 : wr.cell? ⟨b2, o2 + k, none⟩ = some (.int .u8 ((lb.getD k 0).toNat : Int)) := (hbr.cell (p := ⟨b2, o2 + k, none⟩) hb2).trans (c2 k (by omega))
      have hst := (unhide HC).trans (cmpB_drop la lb k (by omega) (by omega))
      clear c1 c2 l1 l2
      generalize (la.getD k 0).toNat = x at g1 hst
      generalize (lb.getD k 0).toNat = y at g2 hst
      by_cases hxy : x < y
      · have hi : (x : Int) < (y : Int) := by omega
        rw [if_pos hxy] at hst
        have HST := hide hst
        clear hst HC
        go_wp2
        go_quiet (fail)
        go_wp2
        go_ret
        rw [unhide HST]
        exact ⟨rfl, by first | exact hbr | exact hbr.drew | exact below_drewN hbr _ | exact below_drewN (below_drewN hbr _) _⟩
      · by_cases hyx : y < x
        · have hi : ¬ (x : Int) < (y : Int) := by omega
          have hi2 : (y : Int) < (x : Int) := by omega
          rw [if_neg hxy, if_pos hyx] at hst
          have HST := hide hst
          clear hst HC
          go_wp2
          go_quiet (fail)
          go_wp2
          go_quiet (fail)
          go_wp2
          go_ret
          rw [unhide HST]
          exact ⟨rfl, by first | exact hbr | exact hbr.drew | exact hbr.drew.drew | exact below_drewN hbr _ | exact below_drewN (below_drewN hbr _) _⟩
        · have hi : ¬ (x : Int) < (y : Int) := by omega
          have hi2 : ¬ (y : Int) < (x : Int) := by omega
          rw [if_neg hxy, if_neg hyx] at hst
          have HST := hide hst
          clear hst HC
          go_wp2
          go_quiet (fail)
          go_wp2
          go_quiet (fail)
          go_wp2
          go_roundw
          case rel => exact ⟨k + 1, by omega, by go_num, HST, by first | exact hbr | exact hbr.drew | exact hbr.drew.drew | exact below_drewN hbr _ | exact below_drewN (below_drewN hbr _) _⟩
          case measure => simp [intOf]; omega
    · obtain rfl : k = n := by omega
      have l1 := unhide H1
      have l2 := unhide H2
      have e : cmpB la lb = 0 := by
        rw [unhide HC, List.drop_eq_nil_of_le (by omega), List.drop_eq_nil_of_le (by omega)]
        rfl
      clear l1 l2 H1 H2 RA RB HC
      have E := hide e
      clear e
      go_wp2
      go_ret
      rw [unhide E]
      exact ⟨rfl, hbr⟩

theorem xor_max (N : Nat) (h : N < 18446744073709551616) : 18446744073709551615 ^^^ N = 18446744073709551615 - N := by
  have e1 : 18446744073709551615 - N = 2 ^ 64 - (N + 1) := by omega
  rw [e1]
  apply Nat.eq_of_testBit_eq
  intro i
  rw [Nat.testBit_xor, Nat.testBit_two_pow_sub_succ (by omega), show 18446744073709551615 = 2 ^ 64 - 1 from rfl, Nat.testBit_two_pow_sub_one]
  by_cases hi : i < 64
  · simp [hi]
  · have : N.testBit i = false := Nat.testBit_lt_two_pow (Nat.lt_of_lt_of_le h (Nat.pow_le_pow_right (n := 2) (i := 64) (by omega) (by omega)))
    simp [hi, this]

theorem neg_is (N : Nat) (h1 : 1 ≤ N) (h : N ≤ 9223372036854775808) : wrap64 (IntKind.u64.wrap (bits BinOp.xor IntKind.u64 IntKind.u64.max (N : Int) + 1)) = -(N : Int) := by
  have e : bits BinOp.xor IntKind.u64 IntKind.u64.max (N : Int) = ((18446744073709551615 - N : Nat) : Int) := by
    rw [← xor_max N (by omega)]
    exact u64_xor_nat 18446744073709551615 N (by omega) (by omega)
  rw [e, IntKind.wrap_u64]
  unfold wrap64
  omega

theorem ret_pair {a b : Int} (h : a = b) : Ending.returned (.tuple #[.int .i64 a, .bool true]) = .returned (.tuple #[.int .i64 b, .bool true]) := by rw [h]

theorem decode_letter (a : Option Addr) (cap k : Nat) (hk : k < 52) (w : World) (ra : BRow w a [letter k]) :
    Calls Tryd.prog 5 #[.bool true, .slice a 1 cap] w fun e w' => e = .returned (.tuple #[.int .i64 (k : Int), .bool true]) ∧ w' = w := by
  obtain ⟨b, off, rfl, hb, hc⟩ := ra (by simp)
  have c0 := hc 0 (by simp)
  rw [Nat.add_zero] at c0
  have e0 : ([letter k].getD 0 0) = letter k := rfl
  rw [e0] at c0
  clear e0 hc
  by_cases h26 : k < 26
  · have e1 : (letter k).toNat = 97 + k := by
      unfold letter; rw [if_pos h26, UInt8.toNat_ofNat']; omega
    unfold bcell at c0
    rw [e1] at c0
    rw [show ((97 + k : Nat) : Int) = 97 + (k : Int) from by omega] at c0
    have i1 : ¬ (97 + (k : Int) < 97) := by omega
    have i2 : ¬ (122 < 97 + (k : Int)) := by omega
    have i3 : (97 : Int) ≤ 97 + (k : Int) := by omega
    have i4 : 97 + (k : Int) ≤ 122 := by omega
    go_enter Tryd.func5, Tryd.ntmps5
    go_wp2
    go_ret2
    exact ⟨ret_pair (by omega), rfl⟩
  · have e1 : (letter k).toNat = 39 + k := by
      unfold letter; rw [if_neg h26, UInt8.toNat_ofNat']; omega
    unfold bcell at c0
    rw [e1] at c0
    rw [show ((39 + k : Nat) : Int) = 39 + (k : Int) from by omega] at c0
    have i1 : 39 + (k : Int) < 97 := by omega
    have i3 : ¬ (97 : Int) ≤ 39 + (k : Int) := by omega
    have i2 : (65 : Int) ≤ 39 + (k : Int) := by omega
    have i4 : 39 + (k : Int) ≤ 90 := by omega
    go_enter Tryd.func5, Tryd.ntmps5
    go_wp2
    go_ret2
    exact ⟨ret_pair (by omega), rfl⟩

set_option maxHeartbeats 1000000 in
set_option maxRecDepth 100000 in
theorem decode_nonneg (a : Option Addr) (cap n : Nat) (l : List UInt8) (hn : l.length = n) (h0 : 0 < n) (hmax : n ≤ 1048576) (hd : Digs l) (N : Nat) (hv : val l = N) (hN : N ≤ 9223372036854775807) (w : World) (ra : BRow w a l) :
    Calls Tryd.prog 5 #[.bool false, .slice a n cap] w fun e w' => e = .returned (.tuple #[.int .i64 (N : Int), .bool true]) ∧ w' = w := by
  obtain ⟨b, off, rfl, hb, hc⟩ := ra (by omega)
  have HC := hide hc
  have c0 := hc 0 (by omega)
  rw [Nat.add_zero] at c0
  have hd0 : isDig (l.getD 0 0) := hd _ (by rw [List.getD, List.getElem?_eq_getElem (by omega)]; simp)
  have i45 : (((l.getD 0 0).toNat : Int) == 45) = false := by
    have := hd0.1
    rw [beq_eq_false_iff_ne]
    omega
  unfold bcell at c0
  have HV := hide hv
  have HD := hide hd
  have HN := hide hn
  clear hc hv hd hn hd0
  generalize (l.getD 0 0).toNat = x0 at c0 i45
  go_enter Tryd.func5, Tryd.ntmps5
  go_wp2
  go_loop [7, 9] (fun i t => ∃ k : Nat, k ≤ n ∧ i = .int .i64 k ∧ t = .int .u64 (val (l.take k) : Int)) (fun i _ => n - (intOf i).toNat)
  case atStart => exact ⟨0, Nat.zero_le _, rfl, rfl⟩
  case round =>
    obtain ⟨k, hk, rfl, rfl⟩ := hrel
    have hn := unhide HN
    have hle := val_take_le l k
    rw [unhide HV] at hle
    by_cases hlt : k < n
    · have ck := unhide HC k (by omega)
      have hdk : isDig (l.getD k 0) := unhide HD _ (by rw [List.getD, List.getElem?_eq_getElem (by omega)]; simp)
      have hst := val_take_succ l k (by omega)
      have hle2 := val_take_le l (k + 1)
      rw [unhide HV, hst] at hle2
      unfold bcell at ck
      obtain ⟨d0, d1⟩ := hdk
      have HST := hide hst
      clear hst hn c0 i45
      generalize (l.getD k 0).toNat = x at *
      generalize hacc : val (l.take k) = acc at *
      obtain ⟨d, rfl⟩ : ∃ d, x = 48 + d := ⟨x - 48, by omega⟩
      rw [show ((48 + d : Nat) : Int) = 48 + (d : Int) from by omega] at ck
      have e1 : 48 + d - 48 = d := by omega
      rw [e1] at hle2 HST
      go_wp2
      go_round
      case rel =>
        refine ⟨_, _, _, _, ⟨k + 1, by omega, rfl, rfl⟩, rfl, rfl, by go_num, ?_⟩
        rw [unhide HST]
        go_num
      case measure => simp [intOf]; omega
    · obtain rfl : k = n := by omega
      have hv : val (l.take k) = N := by rw [List.take_of_length_le (by omega)]; exact unhide HV
      rw [hv]
      clear hv hle hn c0 i45
      go_wp2
      go_ret2
      exact ⟨rfl, rfl⟩

set_option maxHeartbeats 1000000 in
set_option maxRecDepth 100000 in
theorem decode_neg (a : Option Addr) (cap n : Nat) (l : List UInt8) (hn : l.length = n) (h0 : 0 < n) (hmax : n ≤ 1048576) (hd : Digs l) (N : Nat) (hv : val l = N) (hN : N ≤ 9223372036854775808) (h1 : 1 ≤ N) (w : World) (ra : BRow w a (45 :: l)) :
    Calls Tryd.prog 5 #[.bool false, .slice a (n + 1) cap] w fun e w' => e = .returned (.tuple #[.int .i64 (-(N : Int)), .bool true]) ∧ w' = w := by
  obtain ⟨b, off, rfl, hb, hc⟩ := ra (by simp)
  have HC : Hid (∀ j, j < n → w.cell? ⟨b, off + (j + 1), none⟩ = some (bcell (l.getD j 0))) := fun j hj => by
    have := hc (j + 1) (by simp; omega)
    exact this
  have c0 : w.cell? ⟨b, off, none⟩ = some (.int .u8 45) := hc 0 (by simp)
  have HV := hide hv
  have HD := hide hd
  have HN := hide hn
  clear hc hv hd hn
  go_enter Tryd.func5, Tryd.ntmps5
  go_wp2
  go_loop [7, 9] (fun i t => ∃ k : Nat, k ≤ n ∧ i = .int .i64 (k + 1) ∧ t = .int .u64 (val (l.take k) : Int)) (fun i _ => n + 1 - (intOf i).toNat)
  case atStart => exact ⟨0, Nat.zero_le _, rfl, rfl⟩
  case round =>
    obtain ⟨k, hk, rfl, rfl⟩ := hrel
    have hn := unhide HN
    have hle := val_take_le l k
    rw [unhide HV] at hle
    by_cases hlt : k < n
    · have ck := unhide HC k (by omega)
      have hdk : isDig (l.getD k 0) := unhide HD _ (by rw [List.getD, List.getElem?_eq_getElem (by omega)]; simp)
      have hst := val_take_succ l k (by omega)
      have hle2 := val_take_le l (k + 1)
      rw [unhide HV, hst] at hle2
      unfold bcell at ck
      obtain ⟨d0, d1⟩ := hdk
      have HST := hide hst
      clear hst hn c0
      generalize (l.getD k 0).toNat = x at *
      generalize hacc : val (l.take k) = acc at *
      obtain ⟨d, rfl⟩ : ∃ d, x = 48 + d := ⟨x - 48, by omega⟩
      rw [show ((48 + d : Nat) : Int) = 48 + (d : Int) from by omega] at ck
      have e1 : 48 + d - 48 = d := by omega
      rw [e1] at hle2 HST
      go_wp2
      go_round
      case rel =>
        refine ⟨k + 1, by omega, by go_num, ?_⟩
        rw [unhide HST]
        go_num
      case measure => simp [intOf]; omega
    · obtain rfl : k = n := by omega
      have hv : val (l.take k) = N := by rw [List.take_of_length_le (by omega)]; exact unhide HV
      rw [hv]
      clear hv hle hn c0
      have z0 : ((N : Int) == 0) = false := by rw [beq_eq_false_iff_ne]; omega
      have z1 : ¬ (9223372036854775808 : Int) < (N : Int) := by omega
      have z2 := neg_is N h1 hN
      go_wp2
      go_ret2
      exact ⟨rfl, rfl⟩

end Go.Proofs.Qxb6605519aDoor
