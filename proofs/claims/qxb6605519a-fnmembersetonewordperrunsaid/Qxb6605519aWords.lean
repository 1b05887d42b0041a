import Derived.Test.Qxb6605519aRows
import Derived.Test.Qxb6605519aFrame
import Derived.WalkKit
import Derived.WalkSpells
import Derived.Below
import Derived.Maps.OwnOps
import Derived.Maps.OwnSet
import Derived.Maps.Keyed
import Derived.WideKeyEntry
import Derived.DeepKeys4
import Derived.WideKeyPair
namespace Go.Proofs.Qxb6605519a
open Go.RowKit Go.Maps Go.WideMaps

theorem laidOut : laidOutB Try.prog = true := by kernel_rfl
theorem row33 : (33 : TypeId) < Try.prog.types.size := of_decide_eq_true (by kernel_rfl)
theorem cells33 : Try.prog.cellsOf 33 = 2 := by kernel_rfl
theorem cells3 : Try.prog.cellsOf 3 = 1 := by kernel_rfl
theorem wide33 : (match Try.prog.underlying 33 with | some (.array _ _) | some (.struct _) => true | _ => false) = true := by rw [Try.underlying33]
theorem law33 : KeyLaw Try.prog 33 := deep_law_laid laidOut (m := 2) (by omega) row33 (by kernel_rfl) wide33
theorem keyed33 : Keyed Try.prog 33 := Keyed.of_law law33
theorem zero34 (w : World) : (zeroValue 34).run Try.prog w = .ok (.int .u64 0) w := by kernel_rfl
theorem kt33 : Try.prog.keyType 33 = true := by kernel_rfl
theorem tsize : ∃ m, Try.prog.types.size = m + 1 := by
  have h : 33 < Try.prog.types.size := row33
  exact ⟨_, (Nat.succ_pred_eq_of_pos (Nat.lt_of_le_of_lt (Nat.zero_le _) h)).symm⟩

def W64 (x : Int) : Prop := -9223372036854775808 ≤ x ∧ x ≤ 9223372036854775807
theorem W64.wf {x : Int} (h : W64 x) : (Lit.int .i64 x).wf = true := WalkArith.wf_i64 (by have := h.1; have := h.2; omega)

/-- what a word's key reads as -/
def kl (g r : Int) : Lit := .string (keyBytes [.int .i64 g, .int .i64 r])

theorem key33 {g r : Int} (wg : W64 g) (wr : W64 r) : keyOf Try.prog 33 (.agg #[.int .i64 g, .int .i64 r]) = some (kl g r) := by
  obtain ⟨m, hm⟩ := tsize
  have wa := wg.wf
  have wb := wr.wf
  unfold keyOf
  simp only [Try.underlying33]
  rw [if_pos (by simp [kt33, Value.formed, Try.underlying33, cells33]), hm]
  unfold Program.keyLits
  simp [Try.underlying33, Value.cells, cells33, cells3, Program.keyLits, Try.underlying3, wa, wb]
  rfl

theorem kl_inj {g r g' r' : Int} (wg : W64 g) (wr : W64 r) (wg' : W64 g') (wr' : W64 r') (h : kl g r = kl g' r') : g = g' ∧ r = r' := by
  have h1 := key33 wg wr
  have h2 := key33 wg' wr'
  rw [h] at h1
  have := law33.inj h1 h2
  simpa using this

/-- behind the entry's making the look-up tells what it told before -/
theorem look_entry {w W2 : World} {mb n : Nat} {D : DataW Unit} (h : w.ownsMap Try.prog 33 (plainElem Try.prog 34) mb n D) (hn : n < maxLen) {g r c : Int} (wg : W64 g) (wr : W64 r)
    (hc : D.atKey (kl g r) (.lit (.int .u64 0)) = .lit (.int .u64 c)) {v : Value} (he : (Instr.mapEntry 28 (.map (some mb)) (.agg #[.int .i64 g, .int .i64 r])).run Try.prog w = .ok v W2) :
    (Instr.lookup 28 (.map (some mb)) (.agg #[.int .i64 g, .int .i64 r]) false).run Try.prog W2 = .ok (.int .u64 c) W2 := by
  have hkey := key33 wg wr
  have h' := h
  obtain ⟨c', hrun, hat, _⟩ := h.lookup_int keyed33 Try.underlying28 Try.underlying34 (zero34 w) hkey
  obtain rfl : c = c' := by rw [hc] at hat; simpa using hat
  obtain ⟨es, clock, hb, F, hs, hD⟩ := h'
  rcases law33.find w hkey es.toList F.keys with ⟨h1, h2⟩ | ⟨j, e0, h1, h2, h3⟩
  · obtain ⟨w', hup, hown', _⟩ := h.update keyed33 Try.underlying28 hn hkey (plainElem_int (a := 0) Try.underlying34 (by decide))
    simp [Instr.mapEntry, run_underlying Try.underlying28, MapKept.run_getObj_map hb, law33.check w false hkey, h1, MapKept.run_setObj_map _ hb, Result.andThen] at he
    simp [Instr.mapUpdate, run_underlying Try.underlying28, MapKept.run_getObj_map hb, law33.check w false hkey, h1, MapKept.run_setObj_map _ hb, Result.andThen] at hup
    obtain ⟨_, he⟩ := he
    rw [hup] at he
    subst he
    obtain ⟨c2, hrun2, hat2, _⟩ := hown'.lookup_int keyed33 Try.underlying28 Try.underlying34 (zero34 _) hkey
    rw [Maps.atKey_put_same h.isMap (by simp [kl, WideAt.IsKeyLit])] at hat2
    obtain rfl : 0 = c2 := by simpa using hat2
    rcases Maps.fit_look false keyed33 Try.underlying28 (zero34 w) hb F hkey with ⟨hr, _, _⟩ | ⟨e1, y, he1, hk1, _⟩
    · rw [hrun] at hr
      obtain rfl : c = 0 := by simpa using hr
      exact hrun2
    · exact absurd hk1 (h2 e1 he1)
  · have hj : es[j]? = some e0 := by simpa using h2
    have hsame : es.modify j (fun e => { e with key := .agg #[.int .i64 g, .int .i64 r] }) = es := by
      apply Array.ext'
      rw [Array.toList_modify, ChangeMaps.modify_eq_set _ _ _ _ h2]
      have : ({ e0 with key := .agg #[.int .i64 g, .int .i64 r] } : MapEntry) = e0 := by rw [← h3]
      rw [this]
      exact WideElems.set_self _ _ _ h2
    simp [Instr.mapEntry, run_underlying Try.underlying28, MapKept.run_getObj_map hb, law33.check w false hkey, h1, hj, h3, law33.stays w hkey, hsame, MapKept.run_setObj_map _ hb, Result.andThen] at he
    obtain ⟨_, he⟩ := he
    have hW2 : W2.ownsMap Try.prog 33 (plainElem (H := Unit) Try.prog 34) mb n D := by
      subst he
      exact ⟨es, clock, ChangeMaps.heap_setBlock_same hb _, F, hs, hD⟩
    obtain ⟨c2, hrun2, hat2, _⟩ := hW2.lookup_int keyed33 Try.underlying28 Try.underlying34 (zero34 _) hkey
    rw [hc] at hat2
    obtain rfl : c = c2 := by simpa using hat2
    exact hrun2

/-- 'm[k] op= v' in its two steps: the entry is made, the value is laid into it -/
theorem entry_eqs {w : World} {mb n : Nat} {D : DataW Unit} (h : w.ownsMap Try.prog 33 (plainElem Try.prog 34) mb n D) (hn : n < maxLen) {g r c d : Int} (wg : W64 g) (wr : W64 r)
    (hc : D.atKey (kl g r) (.lit (.int .u64 0)) = .lit (.int .u64 c)) (hd : (Lit.int .u64 d).wf = true) :
    ∃ v0 st W2 W3, (Instr.mapEntry 28 (.map (some mb)) (.agg #[.int .i64 g, .int .i64 r])).run Try.prog w = .ok (.tuple #[v0, .int .i64 st]) W2 ∧
      (Instr.lookup 28 (.map (some mb)) (.agg #[.int .i64 g, .int .i64 r]) false).run Try.prog w = .ok (.int .u64 c) w ∧
      (Instr.lookup 28 (.map (some mb)) (.agg #[.int .i64 g, .int .i64 r]) false).run Try.prog W2 = .ok (.int .u64 c) W2 ∧
      (Instr.entryStore 28 (.map (some mb)) (.int .i64 st) (.int .u64 d)).run Try.prog W2 = .ok () W3 ∧
      W3.ownsMap Try.prog 33 (plainElem Try.prog 34) mb (n + 1) (D.put (kl g r) (.lit (.int .u64 d))) ∧ Chg (fun k => k = mb) w W3 := by
  have h' := h
  obtain ⟨c', hrun, hat, _⟩ := h.lookup_int keyed33 Try.underlying28 Try.underlying34 (zero34 w) (key33 wg wr)
  obtain rfl : c = c' := by rw [hc] at hat; simpa using hat
  obtain ⟨w', hup, hown', hgr⟩ := h.update keyed33 Try.underlying28 hn (key33 wg wr) (plainElem_int Try.underlying34 hd)
  obtain ⟨es, clock, hb, F, hs, hD⟩ := h'
  obtain ⟨v0, st, es1, clock1, he, hv, hst⟩ := WideElems.entry_then_store law33 Try.underlying28 zero34 hb F (key33 wg wr)
  obtain ⟨es', clock', hes, hup2⟩ := hst (ChangeMaps.setBlock w mb (.map es1 clock1)) (.int .u64 d) (ChangeMaps.heap_setBlock_same hb _)
  rw [hup] at hup2
  have hw' : w' = ChangeMaps.setBlock w mb (.map es' clock') := by simpa using hup2
  have hss : ChangeMaps.setBlock (ChangeMaps.setBlock w mb (.map es1 clock1)) mb (.map es' clock') = w' := by rw [hw']; simp [ChangeMaps.setBlock]
  rw [hss] at hes
  refine ⟨v0, (st : Int), _, w', he, hrun, look_entry h hn wg wr hc he, hes, hown', ⟨hgr.os, hgr.tape, hgr.output, hgr.size, fun k hk hs => hgr.block k hk (by simpa using hs)⟩⟩

theorem add_new (w : World) (mb n : Nat) (D : DataW Unit) (g h r b c : Int) (wg : W64 g) (wr : W64 r) (h0 : 0 ≤ h) (hr : wrap64 (h.tdiv 64) = r) (hb : IntKind.u64.wrap (2 ^ (h % 64).toNat) = b)  (hown : w.ownsMap Try.prog 33 (plainElem Try.prog 34) mb n D) (hn : n < maxLen)
    (hc : D.atKey (kl g r) (.lit (.int .u64 0)) = .lit (.int .u64 c)) (hbc : (bits .and .u64 c b != 0) = false) (hd : (Lit.int .u64 (bits .or .u64 c b)).wf = true) :
    Calls Try.prog 10 #[.map (some mb), .int .i64 g, .int .i64 h] w fun e w' => e = .returned (.bool true) ∧ w'.ownsMap Try.prog 33 (plainElem Try.prog 34) mb (n + 1) (D.put (kl g r) (.lit (.int .u64 (bits .or .u64 c b)))) ∧ Chg (fun k => k = mb) w w' := by
  have hown1 := hown.alloc (.cells #[.int .i64 g, .int .i64 r] 33)
  have hch : Chg (fun k => k = mb) w (w.alloc (.cells #[.int .i64 g, .int .i64 r] 33)).drew := ((Chg.refl _ w).alloc _).drew
  obtain ⟨v0, st, W2, W3, e1, e2, e3, e4, hW3, hc3⟩ := entry_eqs hown1.drew hn wg wr hc hd
  have hc4 := hch.trans hc3
  clear hch hc3
  go_enter Try.func10, Try.ntmps10
  go_wp2_with (first | (at_lookup; refine wpList_lookup_own_int _ rfl _ _ 28 rfl 33 34 .u64 keyed33 Try.underlying28 Try.underlying34 (zero34 _) mb n _ rfl hown1 _ _ rfl (key33 wg wr) ?_; intro c2 hat hwc; obtain rfl : c = c2 := by (rw [hc] at hat; simpa using hat)) | go_in)
  go_region
  go_wp2
  go_ret
  exact ⟨rfl, hW3, hc4⟩

theorem add_held (w : World) (mb n : Nat) (D : DataW Unit) (g h r b c : Int) (wg : W64 g) (wr : W64 r) (h0 : 0 ≤ h) (hr : wrap64 (h.tdiv 64) = r) (hb : IntKind.u64.wrap (2 ^ (h % 64).toNat) = b)  (hown : w.ownsMap Try.prog 33 (plainElem Try.prog 34) mb n D)
    (hc : D.atKey (kl g r) (.lit (.int .u64 0)) = .lit (.int .u64 c)) (hbc : (bits .and .u64 c b != 0) = true) :
    Calls Try.prog 10 #[.map (some mb), .int .i64 g, .int .i64 h] w fun e w' => e = .returned (.bool false) ∧ w' = w.alloc (.cells #[.int .i64 g, .int .i64 r] 33) := by
  have hown1 := hown.alloc (.cells #[.int .i64 g, .int .i64 r] 33)
  go_enter Try.func10, Try.ntmps10
  go_wp2_with (first | (at_lookup; refine wpList_lookup_own_int _ rfl _ _ 28 rfl 33 34 .u64 keyed33 Try.underlying28 Try.underlying34 (zero34 _) mb n _ rfl hown1 _ _ rfl (key33 wg wr) ?_; intro c2 hat hwc; obtain rfl : c = c2 := by (rw [hc] at hat; simpa using hat)) | go_in)
  go_ret
  exact ⟨rfl, rfl⟩

end Go.Proofs.Qxb6605519a
