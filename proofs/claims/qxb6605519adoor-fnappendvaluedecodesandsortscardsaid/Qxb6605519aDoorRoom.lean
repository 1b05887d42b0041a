import Derived.Test.Qxb6605519aDoorRows
import Derived.Test.Qxb6605519aDoorFrame
import Derived.Test.Qxb6605519aDoorShelf
import Derived.Lib.Walk
import Derived.Lib.ItoaWalk
import Derived.Lib.ItoaMem
import Derived.Lib.ItoaLen
import Derived.Lib.AppendIntMem
import Derived.Lib.Slices
import Derived.Lib.Hide
import Derived.OwnWalk
import Derived.WalkKit
import Derived.WalkSpells
import Derived.BigCall
import Derived.BigGuard
import Derived.CellFam
import Derived.Deep.OwnRows
import Derived.Deep.AppendSrc
import Derived.Deep.DeepMust
import Derived.BigQuiet
namespace Go.Proofs.Qxb6605519aDoor
open Go.Shelf Go.RowKit Go.Sort Go.Lib

theorem hide {p : Prop} (h : p) : Hid p := h
theorem unhide {p : Prop} (h : Hid p) : p := h
theorem ret_bool {a b : Bool} (h : a = b) : Ending.returned (.bool a) = .returned (.bool b) := by rw [h]

/-- a built-in's run, at the operation -/
theorem wpList_append_run {w w' : World} {ops : Array Oper} {rest : List Oper} {o : Oper} {a : Act} {Q : Exit → Act → World → Prop} (hgd : o.guard = none) (s x : Operand) (t tx : TypeId)
    (ho : o.op = .call { callee := .builtin .append, args := #[s, x], argTypes := #[t, tx] }) (v vx r : Value) (hs : a.eval s = v) (hx : a.eval x = vx)
    (hrun : (Builtin.append_ #[t, tx] o.type #[v, vx]).run Tryd.prog w = .ok r w') (hK : wpList Tryd.prog ops Q rest (a.put o.dst r) w') : wpList Tryd.prog ops Q (o :: rest) a w := by
  refine wpList_plain hgd fun K' hK' => ?_
  unfold Oper.wp execOp
  simp only [ho, resolve, invoke, builtin, Sem.run_bind, Sem.run_pure, Result.andThen_ok, List.map_toArray, List.map_cons, List.map_nil, hs, hx, hrun]
  exact hK' _ _ hK

def bcell (b : UInt8) : Value := .int .u8 (b.toNat : Int)
/-- the cells c, the bytes l laid over them from n on -/
def laidAt (c : Nat → Value) (n : Nat) (l : List UInt8) (j : Nat) : Value := if n ≤ j ∧ j < n + l.length then bcell (l.getD (j - n) 0) else c j

theorem laidAt_nil (c : Nat → Value) (n j : Nat) : laidAt c n [] j = c j := by unfold laidAt; rw [if_neg (by simp)]
theorem laidAt_cons (c : Nat → Value) (n : Nat) (b : UInt8) (l : List UInt8) (j : Nat) : laidAt (fun i => if i = n then bcell b else c i) (n + 1) l j = laidAt c n (b :: l) j := by
  unfold laidAt
  by_cases h1 : n + 1 ≤ j ∧ j < n + 1 + l.length
  · rw [if_pos h1, if_pos (by simp; omega)]
    have e : j - n = (j - (n + 1)) + 1 := by omega
    rw [e]
    rfl
  · rw [if_neg h1]
    show (if j = n then bcell b else c j) = _
    by_cases h2 : j = n
    · subst h2
      rw [if_pos rfl, if_pos (by simp)]
      simp
    · rw [if_neg h2, if_neg (by simp; omega)]

theorem rowIs_setCells {g : Nat} {t : TypeId} {N : Nat} : ∀ (l : List UInt8) (n : Nat) (w : World) (c : Nat → Value), w.rowIs g t N c → (w.setCells g n (l.map bcell)).rowIs g t N (laidAt c n l)
  | [], n, _, c, h => h.congr (fun j _ => (laidAt_nil c n j).symm)
  | b :: l, n, _, c, h => (rowIs_setCells l (n + 1) _ _ (h.set n (bcell b))).congr (fun j _ => laidAt_cons c n b l j)

theorem chg_setCells {g : Nat} : ∀ (vs : List Value) (n : Nat) (w0 w : World), Chg (fun k => k = g) w0 w → Chg (fun k => k = g) w0 (w.setCells g n vs)
  | [], _, _, _, h => h
  | v :: vs, n, w0, _, h => chg_setCells vs (n + 1) w0 _ (h.setCell (p := ⟨g, n, none⟩) (fun _ => rfl) v)

theorem size_setCells {g : Nat} : ∀ (vs : List Value) (n : Nat) (w : World), (w.setCells g n vs).heap.size = w.heap.size
  | [], _, _ => rfl
  | v :: vs, n, w => by
    show ((w.setCell ⟨g, n, none⟩ v).setCells g (n + 1) vs).heap.size = _
    rw [size_setCells vs]
    simp [World.setCell]

theorem byteCells_map (l : List UInt8) : Lib.byteCells l = l.map bcell := rfl
theorem info5 : (Tryd.prog.info? 5).map (fun i => (i.zero, i.size, i.bytes)) = some (some (.int .u8 0), 1, 1) := by kernel_rfl

/-- append into the room of a row that is known whole -/
theorem append_room {w : World} {g n N : Nat} {t tx ty : TypeId} {c : Nat → Value} (h : w.rowIs g t N c) (x : Value) (l : List UInt8) (hs : Src Tryd.prog 1 tx x l.length (l.map bcell) w) (hfit : n + l.length ≤ N) :
    (Builtin.append_ #[22, tx] ty #[.slice (some ⟨g, 0, none⟩) n N, x]).run Tryd.prog w = .ok (.slice (some ⟨g, 0, none⟩) (n + l.length) N) (w.setCells g n (l.map bcell)) := by
  obtain ⟨i0, hi, hz0, hz1, hz2⟩ := info_parts info5
  have := run_append_room_src (P := Tryd.prog) w 22 tx ty 5 i0 Tryd.underlying22 hi g 0 n N x l.length (l.map bcell) (by rw [hz1]; exact hs) hfit
    (fun j hj => by
      rw [hz1, Nat.mul_one, Nat.zero_add, h.cell (by simp at hj; omega)]; rfl)
    (fun j hj => h.frozen _)
  rw [hz1, Nat.mul_one, Nat.zero_add] at this
  exact this

theorem bcell_one (l : List UInt8) : ∀ u ∈ l.map bcell, u.oneCell' = true := fun u hu => by
  obtain ⟨_, _, rfl⟩ := List.mem_map.1 hu
  rfl

theorem src_string (w : World) (l : List UInt8) : Src Tryd.prog 1 9 (.string ⟨l.toArray⟩) l.length (l.map bcell) w := by
  have := Src.ofString (P := Tryd.prog) w (tx := 9) Tryd.underlying9 ⟨l.toArray⟩
  have e1 : (⟨l.toArray⟩ : ByteArray).size = l.length := by simp [ByteArray.size]
  have e2 : Go.byteCells (⟨l.toArray⟩ : ByteArray) = l.map bcell := by simp [Go.byteCells, bcell]
  rw [e1, e2] at this
  exact this

theorem src_row {w : World} {a : Addr} {c : Nat} (l : List UInt8) (h : ∀ j, j < l.length → w.cell? (a.add j) = some (bcell (l.getD j 0))) : Src Tryd.prog 1 22 (.slice (some a) l.length c) l.length (l.map bcell) w :=
  Src.ofSlice w Tryd.underlying22 a l.length c (l.map bcell) (by simp) (fun j u hu => by
    have hj : j < l.length := by have := (List.getElem?_eq_some_iff.1 hu).1; simpa using this
    rw [h j hj]
    rw [List.getElem?_map, List.getElem?_eq_getElem hj] at hu
    simp only [Option.map_some, Option.some.injEq] at hu
    rw [← hu]
    simp [List.getD, hj]) (bcell_one l)

set_option maxHeartbeats 6400000 in
set_option maxRecDepth 100000 in
theorem appendUint_small (g n u : Nat) (c : Nat → Value) (w : World) (hrow : w.rowIs g 37 20 c) (hu : u < 100) (hfit : n + (decDigits u).length ≤ 20) :
    Calls Tryd.prog 15 #[.slice (some ⟨g, 0, none⟩) n 20, .int .u64 u, .int .i64 10] w fun e w' => e = .returned (.slice (some ⟨g, 0, none⟩) (n + (decDigits u).length) 20) ∧ w' = w.setCells g n ((decDigits u).map bcell) := by
  have hrun := fun ty => append_room (ty := ty) (n := n) hrow _ (decDigits u) (src_string w (decDigits u)) hfit
  go_enter Tryd.func15, Tryd.ntmps15
  go_wp2_with (first
    | (go_at_call 16; refine (Tryd.internal_strconv_small u hu _).mono ?_; rintro e w' ⟨rfl, hw⟩; replace hw := hw.symm; subst hw)
    | (at_builtin; refine wpList_append_run rfl _ _ 22 9 rfl _ _ _ rfl rfl (hrun _) ?_))
  go_wp2
  go_ret
  exact ⟨rfl, rfl⟩

theorem arr41 : Tryd.prog.arrayLen 41 = 24 := by simp [Program.arrayLen, Tryd.underlying41]

set_option maxHeartbeats 12800000 in
set_option maxRecDepth 100000 in
theorem appendUint_big (g n u : Nat) (c : Nat → Value) (w : World) (hrow : w.rowIs g 37 20 c) (hu : 100 ≤ u) (hu64 : u < 18446744073709551616) (hfit : n + (decDigits u).length ≤ 20)
    (htab : Lib.TabIs Tryd.prog w "internal/strconv.uint64pow10" .u64 Lib.pow10Tab) :
    Calls Tryd.prog 15 #[.slice (some ⟨g, 0, none⟩) n 20, .int .u64 u, .int .i64 10] w fun e w' => e = .returned (.slice (some ⟨g, 0, none⟩) (n + (decDigits u).length) 20) ∧ w'.rowIs g 37 20 (laidAt c n (decDigits u)) ∧ Chg (fun k => k = g) w w' := by
  have hu1 : 1 ≤ u := by omega
  have hlen := Lib.decDigits_length u
  have hnd20 : Lib.nDigits u ≤ 20 := by omega
  have hsl : ∀ W, (Instr.sliceAt 41 (.pointer (some ⟨w.heap.size, 0, none⟩)) none (some (.int .i64 (Lib.nDigits u : Int))) none).run Tryd.prog W = .ok (.slice (some ⟨w.heap.size, 0, none⟩) (Lib.nDigits u) 24) W := fun W => by
    rw [run_sliceAt_array_h W 41 ⟨w.heap.size, 0, none⟩ (by simp [Program.arrayLen, Program.elem, Tryd.underlying41]) .i64 (Lib.nDigits u : Int) (by omega) (by rw [arr41]; omega)]
    rw [arr41]
    go_simp
  have hH0 := Lib.holds_zero0 w 41 (Lib.nDigits u) (by omega)
  have hfmt := Tryd.internal_strconv_formatBase10 w.heap.size 0 24 u (Array.replicate (Lib.nDigits u) 0) (w.alloc (.cells Lib.zeros24 41)) hH0 (by rw [Array.size_replicate]; exact Lib.lt_pow_nDigits u) hu64 (by rw [Array.size_replicate]; omega)
  rw [Array.size_replicate] at hfmt
  have HH0 := hide hH0
  have iu : (100 : Int) ≤ (u : Int) := by omega
  have hglt := hrow.lt
  clear hH0
  go_enter Tryd.func15, Tryd.ntmps15
  go_wp2_with (first
    | (go_at_call 17; refine (Tryd.internal_strconv_numDigits u hu1 hu64 _ (Lib.tabIs_alloc htab _)).mono ?_; rintro e w' ⟨rfl, hw⟩; replace hw := hw.symm; subst hw))
  go_at_call 18
  refine hfmt.mono ?_
  rintro e w' ⟨rfl, k, v', dk, rfl, hF⟩
  have hcells : ∀ j, j < (decDigits u).length → ((putRow (fun (b : UInt8) => Value.int .u8 (b.toNat : Int)) (w.alloc (.cells Lib.zeros24 41)) w.heap.size 0 dk).drewN k).cell? ((⟨w.heap.size, 0, none⟩ : Addr).add j) = some (bcell ((decDigits u).getD j 0)) := by
    intro j hjl
    have e0 : (decDigits u).getD j 0 = (decDigits u)[j] := by simp [List.getD, hjl]
    rw [e0, Lib.row_is_numeral hF j hjl, Lib.add_plain, World.cell?_drewN]
    exact cell?_putRow (fun (b : UInt8) => Value.int .u8 (b.toNat : Int)) _ w.heap.size 0 _ dk (unhide HH0) (by rw [hF.size, Array.size_replicate]) j (by rw [hF.size]; rw [Lib.decDigits_length] at hjl; exact hjl)
  obtain ⟨os, eo⟩ := Lib.fin_at w (.cells Lib.zeros24 41) dk k 0
  have hnx2 : Below w.heap.size w ((putRow (fun (b : UInt8) => Value.int .u8 (b.toNat : Int)) (w.alloc (.cells Lib.zeros24 41)) w.heap.size 0 dk).drewN k) := by rw [eo]; exact Lib.below_grow _ w (Nat.le_refl _) k os
  generalize (putRow (fun (b : UInt8) => Value.int .u8 (b.toNat : Int)) (w.alloc (.cells Lib.zeros24 41)) w.heap.size 0 dk).drewN k = W2 at hcells hnx2 ⊢
  clear eo HH0 hfmt
  have hrow2 : W2.rowIs g 37 20 c := hrow.of_block (hnx2.block g hglt)
  have hch : Chg (fun k => k = g) w W2 := (Chg.of_below hnx2).mono (fun k hk h => by omega)
  have hrun := fun ty => append_room (ty := ty) (n := n) hrow2 _ (decDigits u) (src_row (c := 24) (decDigits u) hcells) hfit
  rw [hlen] at hrun
  go_wp2_with (at_builtin; refine wpList_append_run rfl _ _ 22 22 rfl _ _ _ rfl rfl (hrun _) ?_)
  go_wp2
  go_ret
  rw [hlen]
  exact ⟨rfl, rowIs_setCells _ _ _ _ hrow2, chg_setCells _ _ _ _ hch⟩

theorem appendUint_room (g n u : Nat) (c : Nat → Value) (w : World) (hrow : w.rowIs g 37 20 c) (hu64 : u < 18446744073709551616) (hfit : n + (decDigits u).length ≤ 20)
    (htab : Lib.TabIs Tryd.prog w "internal/strconv.uint64pow10" .u64 Lib.pow10Tab) :
    Calls Tryd.prog 15 #[.slice (some ⟨g, 0, none⟩) n 20, .int .u64 u, .int .i64 10] w fun e w' => e = .returned (.slice (some ⟨g, 0, none⟩) (n + (decDigits u).length) 20) ∧ w'.rowIs g 37 20 (laidAt c n (decDigits u)) ∧ Chg (fun k => k = g) w w' := by
  by_cases hu : u < 100
  · refine (appendUint_small g n u c w hrow hu hfit).mono ?_
    rintro e w' ⟨rfl, rfl⟩
    exact ⟨rfl, rowIs_setCells _ _ _ _ hrow, chg_setCells _ _ _ _ (Chg.refl _ _)⟩
  · exact appendUint_big g n u c w hrow (by omega) hu64 hfit htab

end Go.Proofs.Qxb6605519aDoor
