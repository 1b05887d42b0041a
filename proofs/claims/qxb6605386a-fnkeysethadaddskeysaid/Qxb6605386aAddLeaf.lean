import Derived.Test.Qxb6605386aRepWalk
namespace Go.Proofs.Qxb6605386a
open Go.RowKit Go.Maps Go.WideMaps

set_option maxHeartbeats 1000000 in
theorem bytes21_any (a0 : Option Addr) (cap0 : Nat) (s0 : List ByteArray) (u : Bool) (a2 : Option Addr) (cap2 : Nat) (s2 : List ByteArray) (key : ByteArray) (w : World) (hl0 : s0.length ≤ 9223372036854775807) (hl2 : s2.length ≤ 9223372036854775807) (h0 : StrRow w a0 s0) (h2 : StrRow w a2 s2) :
    Calls Try.prog 21 #[.slice a0 s0.length cap0, .bool u, .slice a2 s2.length cap2, .string key] w fun e w' => SomeBool e ∧ w' = w := by
  by_cases hbig : 1048576 < s0.length
  · go_enter Try.func21, Try.ntmps21
    go_wp2
    go_ret
    exact ⟨someBool _, rfl⟩
  have hd0 : decide (1048576 < (s0.length : Int)) = false := by simp; omega
  go_enter Try.func21, Try.ntmps21
  go_wp2
  go_loop [9, 10] (fun t i => ∃ k : Nat, k ≤ s0.length ∧ i = .int .i64 k ∧ ∃ n : Int, t = .int .i64 n) (fun _ i => s0.length - (intOf i).toNat)
  case atStart => exact ⟨0, Nat.zero_le _, rfl, _, rfl⟩
  case round =>
    obtain ⟨k, hk, rfl, n, rfl⟩ := hrel
    by_cases hlt : k < s0.length
    · obtain ⟨b, off, ha, _, hcell⟩ := h0 (by omega)
      have hcx : w.cell? ⟨b, off + k, none⟩ = some (.string (s0.getD k ByteArray.empty)) := hcell k hlt
      clear hcell
      subst ha
      go_wp2
      all_goals first
        | (go_ret; exact ⟨someBool _, rfl⟩)
        | (go_round
           case rel => exact ⟨k + 1, by omega, by go_num, _, rfl⟩
           case measure => simp [intOf]; omega)
    · by_cases hbig2 : 1048576 < s2.length
      · go_wp2
        go_ret
        exact ⟨someBool _, rfl⟩
      have hd2 : decide (1048576 < (s2.length : Int)) = false := by simp; omega
      go_wp2
      · go_ret
        exact ⟨someBool _, rfl⟩
      go_loop [9, 11] (fun t i => ∃ k : Nat, k ≤ s2.length ∧ i = .int .i64 k ∧ ∃ n : Int, t = .int .i64 n) (fun _ i => s2.length - (intOf i).toNat)
      case atStart => exact ⟨0, Nat.zero_le _, rfl, _, rfl⟩
      case round =>
        obtain ⟨k, hk, rfl, n, rfl⟩ := hrel
        by_cases hlt : k < s2.length
        · obtain ⟨b, off, ha, _, hcell⟩ := h2 (by omega)
          have hcx : w.cell? ⟨b, off + k, none⟩ = some (.string (s2.getD k ByteArray.empty)) := hcell k hlt
          clear hcell
          subst ha
          go_wp2
          all_goals first
            | (go_ret; exact ⟨someBool _, rfl⟩)
            | (go_round
               case rel => exact ⟨k + 1, by omega, by go_num, _, rfl⟩
               case measure => simp [intOf]; omega)
        · go_wp2
          all_goals (go_ret; exact ⟨someBool _, rfl⟩)

theorem own_of_rowIs {w : World} {base g n : Nat} {ss : List ByteArray} (hn : ss.length = n) (hb : base ≤ g) (hm : n ≤ maxLen) (h : w.rowIs g 9 n (fun i => .string (ss.getD i ByteArray.empty))) : w.ownsRow base 9 1 (.slice (some ⟨g, 0, none⟩) n n) n (ss.map Value.string) := by
  obtain ⟨c, hh, hs, hc⟩ := h
  refine ⟨by simp [hn], .inr ⟨g, n, c, rfl, hb, hh, Nat.le_refl _, hm, by omega, ?_⟩⟩
  apply List.ext_getElem?
  intro i
  by_cases hi : i < n
  · have := hc i hi
    simp only [Nat.mul_one, List.getElem?_take, hi, if_true, Array.getElem?_toList, this, List.getElem?_map]
    rw [List.getElem?_eq_getElem (by omega)]
    simp [List.getD, show i < ss.length by omega]
  · rw [List.getElem?_eq_none (by simp; omega), List.getElem?_eq_none (by simp; omega)]

theorem makeStr (n : Nat) (hn : n ≤ 4096) (w : World) : (Instr.makeSlice 32 (.int .i64 (n : Int)) (.int .i64 (n : Int))).run Try.prog w = .ok (.slice (some ⟨w.heap.size, 0, none⟩) n n) (w.alloc (.cells (madeCells #[.string ByteArray.empty] n) 9)) :=
  run_make_row' 32 9 (.string ByteArray.empty) 16 Try.underlying32 info9 rfl .i64 .i64 n (by omega) (by omega) w

theorem eqlNil32 (w : World) (a : Option Addr) (n c : Nat) : (binOp .eql 32 (.slice a n c) (.slice none 0 0)).run Try.prog w = .ok (.bool a.isNone) w := Lib.run_eql_slice_nil w 32 9 a n c 0 0 Try.underlying32

set_option maxHeartbeats 1000000 in
theorem clone_any (a : Option Addr) (cap : Nat) (ss : List ByteArray) (w : World) (hl : ss.length ≤ 4096) (hr : StrRow w a ss) :
    Calls Try.prog 23 #[.slice a ss.length cap] w fun e w' => ∃ ao c, e = .returned (.slice ao ss.length c) ∧ w'.ownsRow w.heap.size 9 1 (.slice ao ss.length c) ss.length (ss.map Value.string) ∧ ss.length ≤ c ∧ Below w.heap.size w w' := by
  have q := eqlNil32
  cases a with
  | none =>
    have hn : ss = [] := by
      cases ss with
      | nil => rfl
      | cons x t => obtain ⟨b, off, e, _⟩ := hr (by simp); cases e
    subst hn
    go_enter Try.func23, Try.ntmps23
    go_wp2
    go_ret
    exact ⟨none, 0, rfl, World.ownsRow_nil _ _ _ _, Nat.le_refl _, Below.refl _ _⟩
  | some x =>
    have mk := makeStr ss.length hl
    go_enter Try.func23, Try.ntmps23
    go_wp2
    go_loopw [4] (fun i wr => ∃ k : Nat, k ≤ ss.length ∧ i = .int .i64 k ∧ wr.rowIs w.heap.size 9 ss.length (fun i => if i < k then .string (ss.getD i ByteArray.empty) else .string ByteArray.empty) ∧ Below w.heap.size w wr) (fun i _ => ss.length - (intOf i).toNat)
    case atStart => exact ⟨0, Nat.zero_le _, rfl, (World.rowIs_made w (.string ByteArray.empty) ss.length 9).congr (fun i _ => by simp), (Below.refl _ _).alloc (Nat.le_refl _) _⟩
    case round =>
      obtain ⟨k, hk, rfl, hrow, hb⟩ := hrel
      by_cases hlt : k < ss.length
      · obtain ⟨b, off, ha, hbl, hcell⟩ := hr (by omega)
        cases ha
        have hcx : wr.cell? ⟨b, off + k, none⟩ = some (.string (ss.getD k ByteArray.empty)) := (hb.cell (p := ⟨b, off + k, none⟩) hbl).trans (hcell k hlt)
        have hold := hrow.cell hlt
        have hfz := hrow.frozen k
        simp only [Nat.lt_irrefl, if_false] at hold
        clear hcell
        go_wp2
        go_roundw
        case rel =>
          refine ⟨k + 1, by omega, by go_num, ?_, hb.setCell (p := ⟨w.heap.size, k, none⟩) (Nat.le_refl _) _⟩
          refine (hrow.set k _).congr (fun i hi => ?_)
          by_cases e : i = k
          · subst e
            simp [List.getD, hi]
          · by_cases h : i < k
            · simp [e, h, show i < k + 1 by omega]
            · simp [e, h, show ¬ i < k + 1 by omega]
        case measure => simp [intOf]; omega
      · have hke : k = ss.length := by omega
        subst hke
        go_wp2
        go_ret
        refine ⟨_, _, rfl, own_of_rowIs rfl (Nat.le_refl _) (by unfold maxLen; omega) (hrow.congr (fun i hi => by simp [hi])), Nat.le_refl _, hb⟩

end Go.Proofs.Qxb6605386a
