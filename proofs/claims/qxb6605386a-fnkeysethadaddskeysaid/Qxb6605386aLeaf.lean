import Derived.Test.Qxb6605386aRows
import Derived.WalkKit
import Derived.WalkSpells
import Derived.Below
import Derived.Deep.QuietTactic
import Derived.BigQuiet
import Derived.Deep.OwnRows
namespace Go.Proofs.Qxb6605386a
open Go.RowKit

/-- the slice value leads to just these strings -/
def StrRow (w : World) (a : Option Addr) (ss : List ByteArray) : Prop :=
  0 < ss.length → ∃ b off, a = some ⟨b, off, none⟩ ∧ b < w.heap.size ∧ ∀ j, j < ss.length → w.cell? ⟨b, off + j, none⟩ = some (.string (ss.getD j ByteArray.empty))

theorem StrRow.heap {w w' : World} {a : Option Addr} {ss : List ByteArray} (h : StrRow w a ss) (hh : w'.heap = w.heap) : StrRow w' a ss := by
  intro h0
  obtain ⟨b, off, ha, hb, hc⟩ := h h0
  exact ⟨b, off, ha, by rw [hh]; exact hb, fun j hj => by rw [← hc j hj]; simp [World.cell?, hh]⟩

theorem StrRow.below {B : Nat} {w w' : World} {a : Option Addr} {ss : List ByteArray} (h : StrRow w a ss) (hb : Below B w w') (hB : w.heap.size ≤ B) : StrRow w' a ss := by
  intro h0
  obtain ⟨b, off, ha, hlt, hc⟩ := h h0
  exact ⟨b, off, ha, Nat.lt_of_lt_of_le hlt hb.size, fun j hj => by rw [← hc j hj]; exact hb.cell (p := ⟨b, off + j, none⟩) (Nat.lt_of_lt_of_le hlt hB)⟩

theorem StrRow.take {w : World} {a : Option Addr} {ss : List ByteArray} (h : StrRow w a ss) (k : Nat) (hk : k ≤ ss.length) : StrRow w a (ss.take k) := by
  intro h0
  have hl : (ss.take k).length = k := by simp; omega
  obtain ⟨b, off, ha, hlt, hc⟩ := h (by omega)
  refine ⟨b, off, ha, hlt, fun j hj => ?_⟩
  rw [hc j (by omega)]
  simp [List.getD, show j < k by omega]

/-- is x among them -/
def hasS (ss : List ByteArray) (x : ByteArray) : Bool := ss.any fun s => s.toList == x.toList

theorem hasS_snoc (l : List ByteArray) (s x : ByteArray) : hasS (l ++ [s]) x = (hasS l x || (s.toList == x.toList)) := by
  simp [hasS]

theorem take_snocS (ss : List ByteArray) (k : Nat) (h : k < ss.length) : ss.take (k + 1) = ss.take k ++ [ss[k]] := by
  rw [List.take_succ_eq_append_getElem h]

theorem hasS_of_mem {l : List ByteArray} {x : ByteArray} {k : Nat} (h : k < l.length) (he : (l[k].toList == x.toList) = true) : hasS l x = true := by
  unfold hasS
  rw [List.any_eq_true]
  exact ⟨l[k], List.getElem_mem h, he⟩

theorem ret_bool {a b : Bool} (h : a = b) : Ending.returned (.bool a) = .returned (.bool b) := by rw [h]
theorem ret_int {k : IntKind} {a b : Int} (h : a = b) : Ending.returned (.int k a) = .returned (.int k b) := by rw [h]

set_option maxHeartbeats 400000 in
theorem contains_any (a : Option Addr) (cap : Nat) (ss : List ByteArray) (x : ByteArray) (w : World) (hlen : ss.length ≤ 9223372036854775807) (hc : StrRow w a ss) :
    Calls Try.prog 28 #[.slice a ss.length cap, .string x] w fun e w' => e = .returned (.bool (hasS ss x)) ∧ w' = w := by
  by_cases h0 : ss.length = 0
  · have hn : ss = [] := List.length_eq_zero_iff.1 h0
    subst hn
    clear hc h0
    show Calls Try.prog 28 #[.slice a 0 cap, .string x] w _
    go_enter Try.func28, Try.ntmps28
    go_wp2
    refine wp_loop_rounds 1 ?_
    rw [rounds_succ]
    go_wp2
    go_ret
    exact ⟨rfl, rfl⟩
  · obtain ⟨b, off, rfl, _, hcell⟩ := hc (by omega)
    clear hc
    go_enter Try.func28, Try.ntmps28
    go_wp2
    go_loop [5] (fun i => ∃ k : Nat, k ≤ ss.length ∧ i = .int .i64 k ∧ hasS (ss.take k) x = false) (fun i => ss.length - (intOf i).toNat)
    case atStart => exact ⟨0, Nat.zero_le _, rfl, rfl⟩
    case round =>
      obtain ⟨k, hk, rfl, hno⟩ := hrel
      have hcx : k < ss.length → w.cell? ⟨b, off + k, none⟩ = some (.string (ss.getD k ByteArray.empty)) := fun h => hcell k h
      go_wp2
      · have hlt : k < ss.length := by assumption
        have he : (ss[k].toList == x.toList) = true := by assumption
        go_ret
        exact ⟨ret_bool (hasS_of_mem hlt he).symm, rfl⟩
      · have hlt : k < ss.length := by assumption
        have he : (ss[k].toList == x.toList) = false := by assumption
        go_round
        case rel => exact ⟨k + 1, by omega, by go_num, by rw [take_snocS ss k hlt, hasS_snoc, hno, he]; rfl⟩
        case measure => simp [intOf]; omega
      · have hke : k = ss.length := by omega
        rw [hke, List.take_length] at hno
        go_ret
        exact ⟨ret_bool hno.symm, rfl⟩

/-- slices.Index: some number, not negative just if x is there -/
theorem index_any (a : Option Addr) (cap : Nat) (ss : List ByteArray) (x : ByteArray) (w : World) (hlen : ss.length ≤ 9223372036854775807) (hc : StrRow w a ss) :
    Calls Try.prog 47 #[.slice a ss.length cap, .string x] w fun e w' => ∃ n : Int, e = .returned (.int .i64 n) ∧ decide (0 ≤ n) = hasS ss x ∧ w' = w := by
  by_cases h0 : ss.length = 0
  · have hn : ss = [] := List.length_eq_zero_iff.1 h0
    subst hn
    clear hc h0
    show Calls Try.prog 47 #[.slice a 0 cap, .string x] w _
    go_enter Try.func47, Try.ntmps47
    go_wp2
    refine wp_loop_rounds 1 ?_
    rw [rounds_succ]
    go_wp2
    go_ret
    exact ⟨_, rfl, rfl, rfl⟩
  · obtain ⟨b, off, rfl, _, hcell⟩ := hc (by omega)
    clear hc
    go_enter Try.func47, Try.ntmps47
    go_wp2
    go_loop [8] (fun i => ∃ k : Nat, k ≤ ss.length ∧ i = .int .i64 k ∧ hasS (ss.take k) x = false) (fun i => ss.length - (intOf i).toNat)
    case atStart => exact ⟨0, Nat.zero_le _, rfl, rfl⟩
    case round =>
      obtain ⟨k, hk, rfl, hno⟩ := hrel
      have hcx : k < ss.length → w.cell? ⟨b, off + k, none⟩ = some (.string (ss.getD k ByteArray.empty)) := fun h => hcell k h
      go_wp2
      · have hlt : k < ss.length := by assumption
        have he : (x.toList == ss[k].toList) = true := by assumption
        go_ret
        exact ⟨_, rfl, by rw [hasS_of_mem hlt (by rw [beq_iff_eq] at he ⊢; exact he.symm)]; simp, rfl⟩
      · have hlt : k < ss.length := by assumption
        have he : (x.toList == ss[k].toList) = false := by assumption
        have he' : (ss[k].toList == x.toList) = false := by
          rw [beq_eq_false_iff_ne] at he ⊢; exact fun h => he h.symm
        go_round
        case rel => exact ⟨k + 1, by omega, by go_num, by rw [take_snocS ss k hlt, hasS_snoc, hno, he']; rfl⟩
        case measure => simp [intOf]; omega
      · have hke : k = ss.length := by omega
        rw [hke, List.take_length] at hno
        go_ret
        exact ⟨_, rfl, by rw [hno]; rfl, rfl⟩

theorem sliceContains_any (a : Option Addr) (cap : Nat) (ss : List ByteArray) (x : ByteArray) (w : World) (hlen : ss.length ≤ 9223372036854775807) (hc : StrRow w a ss) :
    Calls Try.prog 43 #[.slice a ss.length cap, .string x] w fun e w' => e = .returned (.bool (hasS ss x)) ∧ w' = w := by
  go_enter Try.func43, Try.ntmps43
  go_wp2_with fail
  refine (index_any a cap ss x w hlen hc).mono ?_
  rintro e w' ⟨n, rfl, hn, rfl⟩
  have hn' : Hid (decide (0 ≤ n) = hasS ss x) := hn
  clear hn
  go_wp2
  go_ret
  exact ⟨ret_bool hn'.out, rfl⟩

set_option maxHeartbeats 400000 in
theorem size_any (a : Option Addr) (cap : Nat) (ss : List ByteArray) (w : World) (hlen : ss.length ≤ 9223372036854775807) (hc : StrRow w a ss) :
    Calls Try.prog 22 #[.slice a ss.length cap] w fun e w' => w' = w ∧ ∃ n : Int, e = .returned (.int .i64 n) := by
  by_cases h0 : ss.length = 0
  · have hn : ss = [] := List.length_eq_zero_iff.1 h0
    subst hn
    clear hc h0
    show Calls Try.prog 22 #[.slice a 0 cap] w _
    go_enter Try.func22, Try.ntmps22
    go_wp2
    refine wp_loop_rounds 1 ?_
    rw [rounds_succ]
    go_wp2
    go_ret
    exact ⟨rfl, _, rfl⟩
  · obtain ⟨b, off, rfl, _, hcell⟩ := hc (by omega)
    clear hc
    go_enter Try.func22, Try.ntmps22
    go_wp2
    go_loop [3, 4] (fun t i => ∃ k : Nat, k ≤ ss.length ∧ i = .int .i64 k ∧ ∃ n : Int, t = .int .i64 n) (fun _ i => ss.length - (intOf i).toNat)
    case atStart => exact ⟨0, Nat.zero_le _, rfl, _, rfl⟩
    case round =>
      obtain ⟨k, hk, rfl, n, rfl⟩ := hrel
      have hcx : k < ss.length → w.cell? ⟨b, off + k, none⟩ = some (.string (ss.getD k ByteArray.empty)) := fun h => hcell k h
      go_wp2
      · go_ret
        exact ⟨rfl, _, rfl⟩
      · go_round
        case rel => exact ⟨k + 1, by omega, by go_num, _, rfl⟩
        case measure => simp [intOf]; omega
      · go_ret
        exact ⟨rfl, _, rfl⟩

/-- it returns some bool -/
def SomeBool (e : Ending) : Prop := ∃ r : Bool, e = .returned (.bool r)
theorem someBool (r : Bool) : SomeBool (.returned (.bool r)) := ⟨r, rfl⟩

set_option maxHeartbeats 400000 in
theorem bytes30_any (a : Option Addr) (cap : Nat) (ss : List ByteArray) (w : World) (hlen : ss.length ≤ 9223372036854775807) (hc : StrRow w a ss) :
    Calls Try.prog 30 #[.slice a ss.length cap] w fun e w' => SomeBool e ∧ w' = w := by
  by_cases h0 : ss.length = 0
  · have hn : ss = [] := List.length_eq_zero_iff.1 h0
    subst hn
    clear hc h0
    show Calls Try.prog 30 #[.slice a 0 cap] w _
    go_enter Try.func30, Try.ntmps30
    go_wp2
    refine wp_loop_rounds 1 ?_
    rw [rounds_succ]
    go_wp2
    go_ret
    exact ⟨someBool _, rfl⟩
  · obtain ⟨b, off, rfl, _, hcell⟩ := hc (by omega)
    clear hc
    by_cases hbig : 1048576 < ss.length
    · go_enter Try.func30, Try.ntmps30
      go_wp2
      go_ret
      exact ⟨someBool _, rfl⟩
    go_enter Try.func30, Try.ntmps30
    go_wp2
    go_loop [3, 4] (fun t i => ∃ k : Nat, k ≤ ss.length ∧ i = .int .i64 k ∧ ∃ n : Int, t = .int .i64 n) (fun _ i => ss.length - (intOf i).toNat)
    case atStart => exact ⟨0, Nat.zero_le _, rfl, _, rfl⟩
    case round =>
      obtain ⟨k, hk, rfl, n, rfl⟩ := hrel
      have hcx : k < ss.length → w.cell? ⟨b, off + k, none⟩ = some (.string (ss.getD k ByteArray.empty)) := fun h => hcell k h
      go_wp2
      all_goals first
        | (go_ret; exact ⟨someBool _, rfl⟩)
        | (go_round
           case rel => exact ⟨k + 1, by omega, by go_num, _, rfl⟩
           case measure => simp [intOf]; omega)

end Go.Proofs.Qxb6605386a
