import Derived.Test.Qxb6605408aRows
import Derived.Test.Qxb6605408aFrame
import Derived.WalkKit
import Derived.WalkSpells
import Derived.Below
import Derived.Deep.QuietTactic
import Derived.BigQuiet
import Derived.Deep.OwnRows
import Derived.Deep.DeepMust
import Derived.Laws.CopyOwn
namespace Go.Proofs.Qxb6605408a
open Go.RowKit

theorem hide {p : Prop} (h : p) : Hid p := h
theorem unhide {p : Prop} (h : Hid p) : p := h
theorem ret_bool {a b : Bool} (h : a = b) : Ending.returned (.bool a) = .returned (.bool b) := by rw [h]
theorem ret_int {k : IntKind} {a b : Int} (h : a = b) : Ending.returned (.int k a) = .returned (.int k b) := by rw [h]
theorem below_drawn (w : World) (n : Nat) : Below w.heap.size w (w.drewN n) := ⟨rfl, rfl, rfl, Nat.le_refl _, fun _ _ => rfl⟩
theorem lt_of_cell {w : World} {a : Addr} {v : Value} (h : w.cell? a = some v) : a.block < w.heap.size := by
  rcases Nat.lt_or_ge a.block w.heap.size with hlt | hge
  · exact hlt
  · simp [World.cell?, Array.getElem?_eq_none hge] at h

/-- the slice value leads to n cells, the j-th of them c j -/
def Row (w : World) (a : Option Addr) (n : Nat) (c : Nat → Value) : Prop :=
  0 < n → ∃ b off, a = some ⟨b, off, none⟩ ∧ b < w.heap.size ∧ ∀ j, j < n → w.cell? ⟨b, off + j, none⟩ = some (c j)

/-- the slice value leads to the n cells of a block of its own, of type t -/
def ORow (w : World) (t : TypeId) (a : Option Addr) (n : Nat) (c : Nat → Value) : Prop :=
  0 < n → ∃ g, a = some ⟨g, 0, none⟩ ∧ w.rowIs g t n c

theorem Row.below {w w' : World} {a : Option Addr} {n : Nat} {c : Nat → Value} (h : Row w a n c) (hb : Below w.heap.size w w') : Row w' a n c := by
  intro h0
  obtain ⟨b, off, ha, hlt, hc⟩ := h h0
  exact ⟨b, off, ha, Nat.lt_of_lt_of_le hlt hb.size, fun j hj => by rw [← hc j hj]; exact hb.cell (p := ⟨b, off + j, none⟩) hlt⟩

theorem ORow.row {w : World} {t : TypeId} {a : Option Addr} {n : Nat} {c : Nat → Value} (h : ORow w t a n c) : Row w a n c := by
  intro h0
  obtain ⟨g, ha, hr⟩ := h h0
  exact ⟨g, 0, ha, hr.lt, fun j hj => by rw [Nat.zero_add]; exact hr.cell hj⟩

theorem ORow.below {w w' : World} {t : TypeId} {a : Option Addr} {n : Nat} {c : Nat → Value} (h : ORow w t a n c) (hb : Below w.heap.size w w') : ORow w' t a n c := by
  intro h0
  obtain ⟨g, ha, hr⟩ := h h0
  exact ⟨g, ha, hr.of_block (hb.block g hr.lt)⟩

theorem ORow.chg {S : Nat → Prop} {w w' : World} {t : TypeId} {a : Option Addr} {n : Nat} {c : Nat → Value} (h : ORow w t a n c) (hb : Chg S w w') (hs : ∀ x, a = some x → ¬ S x.block) : ORow w' t a n c := by
  intro h0
  obtain ⟨g, ha, hr⟩ := h h0
  exact ⟨g, ha, hr.of_block (hb.block g hr.lt (hs _ ha))⟩

theorem info21 : (Try.prog.info? 21).map (fun i => (i.zero, i.size, i.bytes)) = some (some (.int .i32 0), 1, 4) := by kernel_rfl
theorem info4 : (Try.prog.info? 4).map (fun i => (i.zero, i.size, i.bytes)) = some (some (.bool false), 1, 1) := by kernel_rfl
theorem size21 : (Try.prog.info? 21).map (·.size) = some 1 := by kernel_rfl
theorem size4 : (Try.prog.info? 4).map (·.size) = some 1 := by kernel_rfl
theorem eqlNil23 (w : World) (a : Option Addr) (n c : Nat) : (binOp .eql 23 (.slice a n c) (.slice none 0 0)).run Try.prog w = .ok (.bool a.isNone) w := Lib.run_eql_slice_nil w 23 21 a n c 0 0 Try.underlying23
theorem eqlNil22 (w : World) (a : Option Addr) (n c : Nat) : (binOp .eql 22 (.slice a n c) (.slice none 0 0)).run Try.prog w = .ok (.bool a.isNone) w := Lib.run_eql_slice_nil w 22 4 a n c 0 0 Try.underlying22

theorem make23 (n : Nat) (hn : n ≤ 1073741824) (w : World) : (Instr.makeSlice 23 (.int .i64 (n : Int)) (.int .i64 (n : Int))).run Try.prog w = .ok (.slice (some ⟨w.heap.size, 0, none⟩) n n) (w.alloc (.cells (madeCells #[.int .i32 0] n) 21)) :=
  run_make_row' 23 21 (.int .i32 0) 4 Try.underlying23 info21 rfl .i64 .i64 n (by omega) (by omega) w
theorem make22 (n : Nat) (hn : n ≤ 1073741824) (w : World) : (Instr.makeSlice 22 (.int .i64 (n : Int)) (.int .i64 (n : Int))).run Try.prog w = .ok (.slice (some ⟨w.heap.size, 0, none⟩) n n) (w.alloc (.cells (madeCells #[.bool false] n) 4)) :=
  run_make_row' 22 4 (.bool false) 1 Try.underlying22 info4 rfl .i64 .i64 n (by omega) (by omega) w

theorem rowIs_of_list {w : World} {g : Nat} {t : TypeId} {n : Nat} {c : Nat → Value} {cs : List Value} (h : w.heap[g]? = some (.cells cs.toArray t (0, 0))) (hn : cs.length = n) (hc : ∀ j, j < n → cs[j]? = some (c j)) : w.rowIs g t n c :=
  ⟨cs.toArray, h, by simpa using hn, fun i hi => by simpa using hc i hi⟩

def cellsTo (n : Nat) (c : Nat → Value) : List Value := (List.range n).map c
theorem cellsTo_len (n : Nat) (c : Nat → Value) : (cellsTo n c).length = n := by simp [cellsTo]
theorem cellsTo_get {n : Nat} {c : Nat → Value} {j : Nat} (h : j < n) : (cellsTo n c)[j]? = some (c j) := by simp [cellsTo, h]

/-- copy over a whole row of the call's own -/
theorem copyRun (T E ty : TypeId) (hu : Try.prog.underlying T = some (.slice E)) (hs : (Try.prog.info? E).map (·.size) = some 1) (g n : Nat) (src : Option Addr) (capS : Nat) (c c0 : Nat → Value) (h1 : ∀ j, (c j).oneCell' = true) (W : World) (hsrc : Row W src n c) (hd : W.rowIs g E n c0) :
    ∃ W', (Builtin.copy_ #[T, T] ty #[.slice (some ⟨g, 0, none⟩) n n, .slice src n capS]).run Try.prog W = .ok (.int .i64 n) W' ∧ W'.rowIs g E n c ∧ Chg (fun k => k = g) W W' ∧ W'.heap.size = W.heap.size := by
  obtain ⟨cur, hg, hsz, hc⟩ := hd
  rcases Nat.eq_zero_or_pos n with h0 | h0
  · subst h0
    refine ⟨W, run_copy_none (P := Try.prog) W T T ty E _ _ 0 0 0 capS hu hs (by simp), ⟨cur, hg, hsz, fun i hi => by omega⟩, Chg.refl _ _, rfl⟩
  · obtain ⟨b, off, rfl, hb, hcell⟩ := hsrc h0
    have hrun := run_copy_row (P := Try.prog) W T T ty E g 0 n n ⟨b, off, none⟩ n capS cur E (cellsTo n c) hu hs hg (by rw [cellsTo_len]; simp) (fun j v hj => by
        have hjn : j < n := by
          have := (List.getElem?_eq_some_iff.1 hj).1
          rwa [cellsTo_len] at this
        rw [cellsTo_get hjn] at hj
        cases hj
        rw [show ((⟨b, off, none⟩ : Addr).add j) = ⟨b, off + j, none⟩ from by simp [Addr.add]]
        exact hcell j hjn) (by rw [cellsTo_len]; omega) (fun v hv => by
        simp only [cellsTo, List.mem_map] at hv
        obtain ⟨i, _, rfl⟩ := hv
        exact h1 i)
    rw [cellsTo_len] at hrun
    have e : (cur.toList.take 0 ++ cellsTo n c ++ cur.toList.drop (0 + n)).toArray = (cellsTo n c).toArray := by
      have hl : cur.toList.length ≤ 0 + n := by simp; omega
      rw [List.drop_eq_nil_of_le hl]
      simp
    rw [e] at hrun
    refine ⟨_, hrun, rowIs_of_list (setRow_heap W g cur _ E _ hg) (cellsTo_len _ _) (fun j hj => cellsTo_get hj), ?_, by simp [World.setRow]⟩
    exact ⟨rfl, rfl, rfl, by simp [World.setRow], fun k _ hk => setRow_other W g k _ hk⟩

set_option maxHeartbeats 1000000 in
theorem cloneI_any (a : Option Addr) (n cap : Nat) (f : Nat → Int) (w : World) (hn : n ≤ 1048576) (hr : Row w a n (fun i => .int .i32 (f i))) :
    Calls Try.prog 9 #[.slice a n cap] w fun e w' => ∃ a' c', e = .returned (.slice a' n c') ∧ ORow w' 21 a' n (fun i => .int .i32 (f i)) ∧ n ≤ c' ∧ Below w.heap.size w w' ∧ (∀ x, a' = some x → w.heap.size ≤ x.block ∧ x.block < w'.heap.size) := by
  have q := eqlNil23
  cases a with
  | none =>
    have h0 : n = 0 := by
      rcases Nat.eq_zero_or_pos n with h | h
      · exact h
      · obtain ⟨b, off, e, _⟩ := hr h; cases e
    subst h0
    go_enter Try.func9, Try.ntmps9
    go_wp2
    go_ret
    exact ⟨none, 0, rfl, fun h => by simp at h, Nat.le_refl _, Below.refl _ _, fun x hx => by cases hx⟩
  | some x =>
    have mk := make23 n (by omega)
    have hb0 : Below w.heap.size w (w.alloc (.cells (madeCells #[.int .i32 0] n) 21)) := (Below.refl _ _).alloc (Nat.le_refl _) _
    obtain ⟨W', hrun, hrow, hch, hsz⟩ := copyRun 23 21 3 Try.underlying23 size21 w.heap.size n (some x) cap (fun i => .int .i32 (f i)) _ (fun _ => rfl) _ (hr.below hb0) (World.rowIs_made w (.int .i32 0) n 21)
    have hb1 : Below w.heap.size w W' := hb0.trans (hch.below (by simp) (fun k hk => by rw [hk]; exact Nat.le_refl _))
    have hsz' : w.heap.size < W'.heap.size := by rw [hsz]; simp
    clear hch hsz hb0 hr
    have H := hide (And.intro hrow (And.intro hb1 hsz'))
    clear hrow hb1 hsz'
    go_enter Try.func9, Try.ntmps9
    go_wp2
    go_ret
    obtain ⟨hrow, hb1, hsz'⟩ := unhide H
    exact ⟨_, n, rfl, fun _ => ⟨_, rfl, hrow⟩, Nat.le_refl _, hb1, fun y hy => by cases hy; exact ⟨Nat.le_refl _, hsz'⟩⟩

set_option maxHeartbeats 1000000 in
theorem cloneB_any (a : Option Addr) (n cap : Nat) (f : Nat → Bool) (w : World) (hn : n ≤ 1048576) (hr : Row w a n (fun i => .bool (f i))) :
    Calls Try.prog 22 #[.slice a n cap] w fun e w' => ∃ a' c', e = .returned (.slice a' n c') ∧ ORow w' 4 a' n (fun i => .bool (f i)) ∧ n ≤ c' ∧ Below w.heap.size w w' ∧ (∀ x, a' = some x → w.heap.size ≤ x.block ∧ x.block < w'.heap.size) := by
  have q := eqlNil22
  cases a with
  | none =>
    have h0 : n = 0 := by
      rcases Nat.eq_zero_or_pos n with h | h
      · exact h
      · obtain ⟨b, off, e, _⟩ := hr h; cases e
    subst h0
    go_enter Try.func22, Try.ntmps22
    go_wp2
    go_ret
    exact ⟨none, 0, rfl, fun h => by simp at h, Nat.le_refl _, Below.refl _ _, fun x hx => by cases hx⟩
  | some x =>
    have mk := make22 n (by omega)
    have hb0 : Below w.heap.size w (w.alloc (.cells (madeCells #[.bool false] n) 4)) := (Below.refl _ _).alloc (Nat.le_refl _) _
    obtain ⟨W', hrun, hrow, hch, hsz⟩ := copyRun 22 4 3 Try.underlying22 size4 w.heap.size n (some x) cap (fun i => .bool (f i)) _ (fun _ => rfl) _ (hr.below hb0) (World.rowIs_made w (.bool false) n 4)
    have hb1 : Below w.heap.size w W' := hb0.trans (hch.below (by simp) (fun k hk => by rw [hk]; exact Nat.le_refl _))
    have hsz' : w.heap.size < W'.heap.size := by rw [hsz]; simp
    clear hch hsz hb0 hr
    have H := hide (And.intro hrow (And.intro hb1 hsz'))
    clear hrow hb1 hsz'
    go_enter Try.func22, Try.ntmps22
    go_wp2
    go_ret
    obtain ⟨hrow, hb1, hsz'⟩ := unhide H
    exact ⟨_, n, rfl, fun _ => ⟨_, rfl, hrow⟩, Nat.le_refl _, hb1, fun y hy => by cases hy; exact ⟨Nat.le_refl _, hsz'⟩⟩

end Go.Proofs.Qxb6605408a
