import Derived.Test.Qxb6605519aDoorRoom
namespace Go.Proofs.Qxb6605519aDoor
open Go.Shelf Go.RowKit Go.Sort Go.Lib

theorem nDigits_le : ∀ (k u : Nat), u < 10 ^ (k + 1) → nDigits u ≤ k + 1
  | 0, u, h => by rw [nDigits_small (by omega)]; omega
  | k + 1, u, h => by
    by_cases hu : u < 10
    · rw [nDigits_small hu]; omega
    · rw [nDigits_big hu]
      have := nDigits_le k (u / 10) (by rw [Nat.pow_succ] at h; omega)
      omega

theorem itoa_le (v : Int) (h0 : -9223372036854775808 ≤ v) (h1 : v ≤ 9223372036854775807) : (itoa v).length ≤ 20 := by
  unfold itoa
  split
  · rw [List.length_cons, decDigits_length]
    have := nDigits_le 18 v.natAbs (by omega)
    omega
  · rw [decDigits_length]
    have := nDigits_le 18 v.toNat (by omega)
    omega

theorem laidAt_split (c : Nat → Value) (b : UInt8) (l : List UInt8) (j : Nat) : laidAt (laidAt c 0 [b]) 1 l j = laidAt c 0 (b :: l) j := by
  have h := laidAt_cons c 0 b l j
  rw [← h]
  have e : laidAt c 0 [b] = fun i => if i = 0 then bcell b else c i := by
    funext i
    unfold laidAt
    by_cases hi : i = 0
    · subst hi; simp
    · rw [if_neg hi, if_neg (by simp; omega)]
  rw [e]

set_option maxHeartbeats 6400000 in
set_option maxRecDepth 100000 in
theorem appendIntI_room (B g : Nat) (v : Int) (h0 : -9223372036854775808 ≤ v) (h1 : v ≤ 9223372036854775807) (c : Nat → Value) (w : World) (hrow : w.rowIs g 37 20 c) (hB : B ≤ g)
    (htab : Lib.TabBelow Tryd.prog B w "internal/strconv.uint64pow10" .u64 Lib.pow10Tab) :
    Calls Tryd.prog 14 #[.slice (some ⟨g, 0, none⟩) 0 20, .int .i64 v, .int .i64 10] w fun e w' => e = .returned (.slice (some ⟨g, 0, none⟩) (itoa v).length 20) ∧ w'.rowIs g 37 20 (laidAt c 0 (itoa v)) ∧ Chg (fun k => k = g) w w' := by
  have hl := itoa_le v h0 h1
  by_cases hneg : v < 0
  · obtain ⟨u, rfl⟩ : ∃ u : Nat, v = -(u : Int) := ⟨v.natAbs, by omega⟩
    have hu1 : 1 ≤ u := by omega
    have hu64 : u < 18446744073709551616 := by omega
    have hwr : IntKind.u64.wrap (-IntKind.u64.wrap (-(u : Int))) = (u : Int) := by rw [IntKind.wrap_u64, IntKind.wrap_u64]; omega
    rw [Lib.itoa_neg u hu1] at hl ⊢
    rw [List.length_cons] at hl
    have hrowA := hrow.alloc (.cells #[.int .u8 45] 5)
    have hsrc : Src Tryd.prog 1 22 (.slice (some ⟨w.heap.size, 0, none⟩) 1 1) 1 ([(45 : UInt8)].map bcell) (w.alloc (.cells #[.int .u8 45] 5)) :=
      src_row (c := 1) [(45 : UInt8)] (fun j hj => by
        have : j = 0 := by simpa using hj
        subst this
        simp [Addr.add, bcell])
    have hrun := fun ty => append_room (ty := ty) (n := 0) hrowA _ [(45 : UInt8)] hsrc (by simp)
    have hrow1 := rowIs_setCells [(45 : UInt8)] 0 _ c hrowA
    have hch1 : Chg (fun k => k = g) w ((w.alloc (.cells #[.int .u8 45] 5)).setCells g 0 ([(45 : UInt8)].map bcell)) := chg_setCells _ _ _ _ ((Chg.refl _ w).alloc _)
    have htab1 : Lib.TabIs Tryd.prog ((w.alloc (.cells #[.int .u8 45] 5)).setCells g 0 ([(45 : UInt8)].map bcell)) "internal/strconv.uint64pow10" .u64 Lib.pow10Tab := by
      refine htab _ ⟨hch1.os, hch1.tape, hch1.output, hch1.size, fun k hk => hch1.block k ?_ ?_⟩
      · have := hrow.lt; omega
      · omega
    generalize hW : (w.alloc (.cells #[.int .u8 45] 5)).setCells g 0 ([(45 : UInt8)].map bcell) = W1 at hrun hrow1 hch1 htab1
    clear hW
    go_enter Tryd.func14, Tryd.ntmps14
    go_wp2_with (first
      | (at_builtin; refine wpList_append_run rfl _ _ 22 22 rfl _ _ _ rfl rfl (hrun _) ?_)
      | (go_at_call 15; refine (appendUint_room g 1 u _ W1 hrow1 hu64 (by omega) htab1).mono ?_; rintro e w2 ⟨rfl, hrow2, hch2⟩))
    go_ret
    refine ⟨?_, hrow2.congr (fun j _ => laidAt_split c 45 _ j), hch1.trans hch2⟩
    rw [show (decDigits u).length + 1 = 1 + (decDigits u).length from Nat.add_comm _ _]
    rfl
  · obtain ⟨u, rfl⟩ : ∃ u : Nat, v = u := ⟨v.toNat, by omega⟩
    have hu64 : u < 18446744073709551616 := by omega
    rw [Lib.itoa_nonneg] at hl ⊢
    go_enter Tryd.func14, Tryd.ntmps14
    go_wp2_with (go_at_call 15; refine (appendUint_room g 0 u c w hrow hu64 (by omega) htab.here).mono ?_; rintro e w2 ⟨rfl, hrow2, hch2⟩)
    go_ret
    exact ⟨rfl, hrow2, hch2⟩

theorem appendInt_room (B g : Nat) (v : Int) (h0 : -9223372036854775808 ≤ v) (h1 : v ≤ 9223372036854775807) (c : Nat → Value) (w : World) (hrow : w.rowIs g 37 20 c) (hB : B ≤ g)
    (htab : Lib.TabBelow Tryd.prog B w "internal/strconv.uint64pow10" .u64 Lib.pow10Tab) :
    Calls Tryd.prog 13 #[.slice (some ⟨g, 0, none⟩) 0 20, .int .i64 v, .int .i64 10] w fun e w' => e = .returned (.slice (some ⟨g, 0, none⟩) (itoa v).length 20) ∧ w'.rowIs g 37 20 (laidAt c 0 (itoa v)) ∧ Chg (fun k => k = g) w w' := by
  go_enter Tryd.func13, Tryd.ntmps13
  go_wp2_with (go_at_call 14; refine (appendIntI_room B g v h0 h1 c w hrow hB htab).mono ?_; rintro e w2 ⟨rfl, hrow2, hch2⟩)
  go_ret
  exact ⟨rfl, hrow2, hch2⟩

end Go.Proofs.Qxb6605519aDoor
