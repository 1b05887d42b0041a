import Derived.Test.Qxb6605519aPlain
import Derived.Deep.OwnRows
import Derived.Deep.DeepMust
import Derived.BigQuiet
import Derived.Deep.QuietTactic
namespace Go.Proofs.Qxb6605519a
open Go.RowKit Go.Maps Go.WideMaps

theorem hide {p : Prop} (h : p) : Hid p := h
theorem unhide {p : Prop} (h : Hid p) : p := h
theorem ret_bool {a b : Bool} (h : a = b) : Ending.returned (.bool a) = .returned (.bool b) := by rw [h]
theorem lt_of_cell {w : World} {a : Addr} {v : Value} (h : w.cell? a = some v) : a.block < w.heap.size := by
  rcases Nat.lt_or_ge a.block w.heap.size with hlt | hge
  · exact hlt
  · simp [World.cell?, Array.getElem?_eq_none hge] at h

def SomeBool (e : Ending) : Prop := ∃ r : Bool, e = .returned (.bool r)
theorem someBool (r : Bool) : SomeBool (.returned (.bool r)) := ⟨r, rfl⟩

/-- the slice value leads to n pairs, the j-th of them p j -/
def PRow (w : World) (a : Option Addr) (n : Nat) (p : Nat → Int × Int) : Prop :=
  0 < n → ∃ b off, a = some ⟨b, off, none⟩ ∧ b < w.heap.size ∧ ∀ j, j < n → w.cell? ⟨b, off + j * 2, none⟩ = some (.int .i64 (p j).1) ∧ w.cell? ⟨b, off + j * 2 + 1, none⟩ = some (.int .i64 (p j).2)

theorem bytes5_any (a : Option Addr) (n cap : Nat) (w : World) : Calls Try.prog 5 #[.slice a n cap] w fun e w' => SomeBool e ∧ w' = w := by
  by_cases h : (1048576 : Int) < n
  · go_enter Try.func5, Try.ntmps5
    go_wp2
    go_ret
    exact ⟨someBool _, rfl⟩
  · go_enter Try.func5, Try.ntmps5
    go_wp2
    go_ret
    exact ⟨someBool _, rfl⟩
theorem bytes9_any (a : Option Addr) (n cap : Nat) (w : World) : Calls Try.prog 9 #[.slice a n cap] w fun e w' => SomeBool e ∧ w' = w := by
  by_cases h : (1048576 : Int) < n
  · go_enter Try.func9, Try.ntmps9
    go_wp2
    go_ret
    exact ⟨someBool _, rfl⟩
  · go_enter Try.func9, Try.ntmps9
    go_wp2
    go_ret
    exact ⟨someBool _, rfl⟩

theorem newSet_any (w : World) : Calls Try.prog 7 #[] w fun e w' => e = .returned (.map (some w.heap.size)) ∧ w' = w.alloc (.map #[] 0) := by
  have hmm := @run_makeMap Try.prog
  go_enter Try.func7, Try.ntmps7
  go_wp2
  go_ret
  exact ⟨rfl, rfl⟩

theorem zzadd_any (w : World) (mb n : Nat) (L : List (Int × Int)) (g h : Int) (wg : W64 g) (wh : W64 h) (h0 : 0 ≤ h) (hown : OwnsW w mb n L) (hn : n < maxLen) :
    Calls Try.prog 8 #[.map (some mb), .int .i64 g, .int .i64 h] w fun e w' => e = .returned (.bool (!L.any (samePair g h))) ∧ OwnsW w' mb (n + 1) (L ++ [(g, h)]) ∧ Chg (fun k => k = mb) w w' := by
  go_enter Try.func8, Try.ntmps8
  go_wp2_with fail
  refine (add_any w mb n L g h wg wh h0 hown hn).mono ?_
  rintro e w' ⟨rfl, h1, h2⟩
  go_wp2
  go_ret
  exact ⟨rfl, h1, h2⟩

theorem eqlNil22 (w : World) (a : Option Addr) (n c : Nat) : (binOp .eql 22 (.slice a n c) (.slice none 0 0)).run Try.prog w = .ok (.bool a.isNone) w := Lib.run_eql_slice_nil w 22 25 a n c 0 0 Try.underlying22
theorem info25 : (Try.prog.info? 25).map (fun i => (i.zero, i.size, i.bytes)) = some (some (.agg #[.int .i64 0, .int .i64 0]), 2, 16) := by kernel_rfl

theorem make22 (n : Nat) (hn : n ≤ 4096) (w : World) : (Instr.makeSlice 22 (.int .i64 (n : Int)) (.int .i64 (n : Int))).run Try.prog w = .ok (.slice (some ⟨w.heap.size, 0, none⟩) n n) (w.alloc (.cells (madeCells #[.int .i64 0, .int .i64 0] (n * 2)) 25)) := by
  obtain ⟨i, hi, hzz⟩ := Option.map_eq_some_iff.1 info25
  simp only [Prod.mk.injEq] at hzz
  obtain ⟨hz, hs, hb⟩ := hzz
  have := run_make (P := Try.prog) w 22 25 i _ Try.underlying22 hi hz .i64 .i64 (n : Int) (n : Int) (by omega) (Int.le_refl _) (by rw [hb]; omega) (by omega)
  simp only [Int.toNat_natCast, hs] at this
  exact this

/-- the cells of the copy behind k rounds -/
def cs (p : Nat → Int × Int) (k i : Nat) : Value := .int .i64 (if i / 2 < k then (if i % 2 = 0 then (p (i / 2)).1 else (p (i / 2)).2) else 0)

theorem cs_step (p : Nat → Int × Int) (k i : Nat) : cs p (k + 1) i = if i = k * 2 + 1 then .int .i64 (p k).2 else if i = k * 2 then .int .i64 (p k).1 else cs p k i := by
  unfold cs
  by_cases h1 : i = k * 2 + 1
  · subst h1
    rw [if_pos rfl]
    have e1 : (k * 2 + 1) / 2 = k := by omega
    have e2 : ¬ (k * 2 + 1) % 2 = 0 := by omega
    rw [e1, if_pos (by omega), if_neg e2]
  · by_cases h2 : i = k * 2
    · subst h2
      rw [if_neg h1, if_pos rfl]
      have e1 : (k * 2) / 2 = k := by omega
      rw [e1, if_pos (by omega), if_pos (by omega)]
    · rw [if_neg h1, if_neg h2]
      congr 1
      have : i / 2 < k + 1 ↔ i / 2 < k := by omega
      simp only [this]

theorem prow_of_cs {w : World} {g n : Nat} {p : Nat → Int × Int} (h : w.rowIs g 25 (n * 2) (cs p n)) : PRow w (some ⟨g, 0, none⟩) n p := by
  intro h0
  refine ⟨g, 0, rfl, h.lt, fun j hj => ⟨?_, ?_⟩⟩
  · rw [Nat.zero_add, h.cell (show j * 2 < n * 2 by omega)]
    unfold cs
    have e1 : (j * 2) / 2 = j := by omega
    rw [e1, if_pos hj, if_pos (by omega)]
  · rw [Nat.zero_add, h.cell (show j * 2 + 1 < n * 2 by omega)]
    unfold cs
    have e1 : (j * 2 + 1) / 2 = j := by omega
    rw [e1, if_pos hj, if_neg (by omega)]

theorem cs_zero (w : World) (n : Nat) (p : Nat → Int × Int) : (w.alloc (.cells (madeCells #[.int .i64 0, .int .i64 0] (n * 2)) 25)).rowIs w.heap.size 25 (n * 2) (cs p 0) := by
  have := World.rowIs_alloc w (madeCells #[.int .i64 0, .int .i64 0] (n * 2)) 25 (cs p 0) (fun i hi => by
    rw [size_madeCells] at hi
    simp [madeCells, hi, cs]
    rcases Nat.mod_two_eq_zero_or_one i with e | e <;> rw [e] <;> rfl)
  rw [size_madeCells] at this
  exact this

theorem clone_any (a : Option Addr) (n cap : Nat) (w : World) (hn : n ≤ 4096) (p : Nat → Int × Int) (hr : PRow w a n p) :
    Calls Try.prog 6 #[.slice a n cap] w fun e w' => ∃ a' c', e = .returned (.slice a' n c') ∧ PRow w' a' n p ∧ Below w.heap.size w w' := by
  have q := eqlNil22
  cases a with
  | none =>
    have h0 : n = 0 := by
      rcases Nat.eq_zero_or_pos n with h | h
      · exact h
      · obtain ⟨b, off, e, _⟩ := hr h; cases e
    subst h0
    go_enter Try.func6, Try.ntmps6
    go_wp2
    go_ret
    exact ⟨none, 0, rfl, fun h => by simp at h, Below.refl _ _⟩
  | some x =>
    have mk := make22 n hn
    have hz := hide (cs_zero w n p)
    go_enter Try.func6, Try.ntmps6
    go_wp2
    clear mk q
    go_loopw [4] (fun i wr => ∃ k : Nat, k ≤ n ∧ i = .int .i64 k ∧ wr.rowIs w.heap.size 25 (n * 2) (cs p k) ∧ Below w.heap.size w wr) (fun i _ => n - (intOf i).toNat)
    case atStart => exact ⟨0, Nat.zero_le _, rfl, unhide hz, (Below.refl _ _).alloc (Nat.le_refl _) _⟩
    case round =>
      clear hz
      obtain ⟨k, hk, rfl, hrow, hbr⟩ := hrel
      by_cases hlt : k < n
      · obtain ⟨b, off, hx, hb, hc⟩ := hr (by omega)
        cases hx
        obtain ⟨c0, c1⟩ := hc k hlt
        have d0 : wr.cell? ⟨b, off + k * 2, none⟩ = some (.int .i64 (p k).1) := (hbr.cell (p := ⟨b, off + k * 2, none⟩) hb).trans c0
        have d1 : wr.cell? ⟨b, off + k * 2 + 1, none⟩ = some (.int .i64 (p k).2) := (hbr.cell (p := ⟨b, off + k * 2 + 1, none⟩) hb).trans c1
        have g0 : wr.cell? ⟨w.heap.size, k * 2, none⟩ = some (cs p k (k * 2)) := hrow.cell (by omega)
        have g1 : wr.cell? ⟨w.heap.size, k * 2 + 1, none⟩ = some (cs p k (k * 2 + 1)) := hrow.cell (by omega)
        have f0 : wr.frozen? ⟨w.heap.size, k * 2, none⟩ = false := hrow.frozen _
        have f1 : wr.frozen? ⟨w.heap.size, k * 2 + 1, none⟩ = false := hrow.frozen _
        clear hc c0 c1
        go_wp2
        go_roundw
        case rel =>
          refine ⟨k + 1, by omega, by go_num, ?_, (hbr.setCell (p := ⟨w.heap.size, k * 2, none⟩) (Nat.le_refl _) _).setCell (p := ⟨w.heap.size, k * 2 + 1, none⟩) (Nat.le_refl _) _⟩
          exact ((hrow.set (k * 2) _).set (k * 2 + 1) _).congr (fun j hj => (cs_step p k j).symm)
        case measure => simp [intOf]; omega
      · obtain rfl : k = n := by omega
        go_wp2
        go_ret
        exact ⟨_, k, rfl, prow_of_cs hrow, hbr⟩

end Go.Proofs.Qxb6605519a
