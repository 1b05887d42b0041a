import Derived.Test.Qxb6605386aRepWalk
import Derived.ProofKit
import Derived.OpenShut
import Derived.ShutString
import Derived.ChangeOld
import Derived.SliceStrings
namespace Go.Proofs.Qxb6605386a
open Go.ChangeShapes Go.WideShapes Go.ChangeAt Go.RowKit Go.Maps Go.WideMaps
set_option linter.unusedVariables false

theorem rep_walk_none (a : Option Addr) (cap : Nat) (w : World) :
    Calls Try.prog 8 #[.slice a 0 cap] w fun e w' => e = .returned (.bool true) ∧ Below w.heap.size w w' := by
  have hrow : ∀ W, StrRow W a [] := fun W h => by simp at h
  have q1 := eqlNil36
  have q2 := neqNil36
  go_enter Try.func8, Try.ntmps8
  go_wp2_with fail
  refine (bytes30_any a cap [] _ (by simp) (hrow _)).mono ?_
  rintro e w' ⟨⟨r, rfl⟩, hw⟩
  replace hw := hw.symm
  subst hw
  cases r
  · go_wp2
    go_ret
    exact ⟨rfl, Below.refl _ _⟩
  go_wp2_with fail
  refine (size_any a cap [] _ (by simp) (hrow _)).mono ?_
  rintro e w' ⟨hw, n, rfl⟩
  replace hw := hw.symm
  subst hw
  by_cases hn : 1048576 < n
  · go_wp2
    go_ret
    exact ⟨rfl, Below.refl _ _⟩
  have hd2 : decide (1048576 < n) = false := by simpa using hn
  go_wp2_with fail
  refine (newKeySet_any _ _ _ ⟨_, _, _, rfl⟩ ⟨_, rfl⟩).mono ?_
  rintro e w' ⟨rfl, hw⟩
  obtain ⟨hbw, ao, cl, mo, hK⟩ := rel1_start w []
  rw [hw] at hK hbw
  clear hw
  go_wp2
  refine wp_loop_rounds 1 ?_
  rw [rounds_succ]
  go_wp2_with fail
  refine (count_any a cap [] _ (by simp) (by simp) (hrow _)).mono ?_
  rintro e w1 ⟨rfl, hb1⟩
  have hK1 := hK.below hb1
  have hbw1 : Below w.heap.size w w1 := hbw.trans (hb1.mono hbw.size)
  clear hK hbw hb1
  have hmo := hK1.nomap rfl
  subst hmo
  have hc0 := hK1.c0
  have hc1 := hK1.c1
  have e0 : (stL (dd (List.take 0 ([] : List ByteArray)))).length = 0 := rfl
  have e1 : ((dd ([] : List ByteArray)).length : Int) = 0 := rfl
  rw [e0] at hc0
  rw [e1]
  clear hK1 e0 e1
  go_wp2_with fail
  refine (ksMap_any _ _ _ hc1).mono ?_
  rintro e w' ⟨rfl, hw⟩
  subst hw
  go_wp2_with fail
  refine (ksList_any _ _ _ hc0).mono ?_
  rintro e w' ⟨rfl, hw⟩
  subst hw
  go_wp2
  refine wp_loop_rounds 1 ?_
  rw [rounds_succ]
  go_wp2
  go_ret
  exact ⟨rfl, hbw1⟩

theorem rep_walk_long (a : Option Addr) (cap : Nat) (ss : List ByteArray) (w : World) (hmax : ss.length ≤ 9223372036854775807) (hl : 4096 < ss.length) (hrow : StrRow w a ss) :
    Calls Try.prog 8 #[.slice a ss.length cap] w fun e w' => e = .returned (.bool true) ∧ Below w.heap.size w w' := by
  go_enter Try.func8, Try.ntmps8
  go_wp2_with fail
  refine (bytes30_any a cap ss _ hmax hrow).mono ?_
  rintro e w' ⟨⟨r, rfl⟩, hw⟩
  replace hw := hw.symm
  subst hw
  cases r
  · go_wp2
    go_ret
    exact ⟨rfl, Below.refl _ _⟩
  go_wp2
  go_ret
  exact ⟨rfl, Below.refl _ _⟩

theorem rep_walk (a : Option Addr) (cap : Nat) (ss : List ByteArray) (w : World) (hcap : ss.length ≤ cap) (hmax : ss.length ≤ 9223372036854775807) (hrow : StrRow w a ss) (hsz : ∀ s ∈ ss, s.size ≤ maxLen) :
    Calls Try.prog 8 #[.slice a ss.length cap] w fun e w' => e = .returned (.bool true) ∧ Below w.heap.size w w' := by
  by_cases h0 : ss.length = 0
  · rw [h0]; exact rep_walk_none a cap w
  · by_cases hl : 4096 < ss.length
    · exact rep_walk_long a cap ss w hmax hl hrow
    · obtain ⟨b, off, rfl, hb, hcell⟩ := hrow (by omega)
      exact rep_walk_some b off cap ss w hcap (by omega) hrow hb hsz hcell

theorem own : ownKnob Try.prog.godebug = none := by kernel_rfl
theorem laidOut : laidOutB Try.prog = true := by kernel_rfl
theorem cells9 : Try.prog.cellsOf 9 = 1 := by kernel_rfl
theorem bytes9 : Try.prog.bytesOf 9 = 16 := by kernel_rfl

/-- a slice of strings that came in -/
theorem open_strRow {H : Type} {enc : TypeId × Value → H} {W : World} {a : Option Addr} {len cap : Nat} {d : DataW H} {p : List MemPlace} (h : DataW.Trod enc Try.prog W 0 (fun _ => true) true 32 (.slice a len cap) d p) :
    ∃ ss : List ByteArray, ss.length = len ∧ len ≤ cap ∧ cap ≤ maxLen ∧ StrRow W a ss ∧ (∀ s ∈ ss, s.size ≤ maxLen) ∧ (d = .nil ∨ ∃ es sp, d = .slice es sp ∧ es.length = len) := by
  have hlt : ∀ x ∈ p, x.block < W.heap.size := by obtain ⟨m, hm⟩ := h; exact DataW.trod_lt m _ _ _ hm
  obtain ⟨fuel, hf⟩ := h
  rcases open_strings Try.underlying32 Try.underlying9 cells9 hf with ⟨hcs, hx⟩ | ⟨x, l, c, ss, hcs, _, hl, hm, hz, hx, hcell, hws⟩
  · simp [Value.cells] at hcs
    obtain ⟨rfl, rfl, rfl⟩ := hcs
    exact ⟨[], rfl, Nat.le_refl _, Nat.zero_le _, fun h => by simp at h, by simp, .inl (by simpa using congrArg Prod.fst hx)⟩
  · simp [Value.cells] at hcs
    obtain ⟨rfl, rfl, rfl⟩ := hcs
    simp only [if_true] at hz
    have hd : d = .slice (strs (ss.take len)) (strs (ss.drop len)) := congrArg Prod.fst hx
    refine ⟨ss.take len, by simp; omega, hl, hm, fun h0 => ?_, fun s hs => hws s (List.mem_of_mem_take hs), .inr ⟨_, _, hd, by simp [strs]; omega⟩⟩
    have hl0 : 0 < ss.length := by simp at h0; omega
    obtain ⟨b, off, spot⟩ := x
    have hspot : spot = none := by simpa [Addr.add] using World.cell?_spot (hcell 0 hl0)
    subst hspot
    refine ⟨b, off, rfl, ?_, fun j hj => ?_⟩
    · have := lt_of_cell (hcell 0 hl0)
      simpa [Addr.add] using this
    · have hj' : j < len := by simp at hj; omega
      have := hcell j (by omega)
      rw [add_plain] at this
      rw [this]
      simp [List.getD, hj']

set_option maxRecDepth 100000 in
theorem rep_lifted (os : Os) (started : os.Started) (H : Type) (enc : TypeId × Value → H) :
    ReturnsInHanded {} Try.checked os 8 .any (Rows.fnKeySetHadReportsRepeatsSpec.pre6 enc Try.prog Try.f8 Rows.fnKeySetHadReportsRepeatsRow.domain false) (Rows.fnKeySetHadReportsRepeatsSpec.post enc Try.prog Try.f8 false true false false) := by
  refine returnsInHanded_of_change (C := Try.checked) own started (by kernel_rfl) Try.func8
    (ChangeSpec.witness6 (enc := enc) (C := Try.checked) false ⟨#[], #[.slice none 0 0], []⟩ 8 (by kernel_rfl) (by kernel_rfl) (by kernel_rfl) (by kernel_rfl)) ?_
  intro W base args ds gs before hval0 hW hcnd _
  have hval : ∀ (j : Nat) t v, Try.f8.params[j]? = some t → args[j]? = some v → Value.okWide Try.prog W .any base t v := hval0
  have hW' := hW
  obtain ⟨p, q, hA0, hV, rfl, hfz, hnd⟩ := hW
  have hA : DataW.TrodAll enc Try.prog W 0 (fun _ => true) true Try.f8.params.toList args.toList ds p := hA0
  rw [Try.params8] at hA hval
  obtain ⟨v0, vs0, d0, ds0, p0, q0, hargs, rfl, rfl, h0, r0⟩ := trodAll_cons hA
  obtain ⟨rfl, rfl, rfl⟩ := trodAll_nil r0
  obtain rfl : args = #[v0] := by cases args; simp_all
  obtain ⟨rfl, rfl⟩ := trodVars_none hV
  obtain ⟨a0, len0, cap0, rfl⟩ := okWide_slice Try.underlying32 (hval 0 32 v0 rfl rfl)
  have k0 := h0
  have lt0 : ∀ x ∈ p0, x.block < W.heap.size := by obtain ⟨m, hm⟩ := k0; exact DataW.trod_lt m _ _ _ hm
  obtain ⟨ss, rfl, hlc, hm, hrow, hsz, hd⟩ := open_strRow h0
  clear hA0 hval0
  refine (rep_walk a0 cap0 ss W hlc (by unfold maxLen at hm; omega) hrow hsz).mono fun e W' ⟨he, bel⟩ => ?_
  subst he
  exact ⟨_, rfl, _, _, _, [], _, [], hW', trodAll_mk1 (shut_bool Try.underlying4 _), (trodAll_cons_mk (Below.trod laidOut (by kernel_rfl) (of_decide_eq_true (by kernel_rfl)) k0 bel lt0) trodAll_mk0), rfl, bel.frame _, fun h => by cases h⟩

theorem rep_over : Rows.fnKeySetHadReportsRepeatsRow.holds Try.pinned (OpenSpec.ofChange Rows.fnKeySetHadReportsRepeatsSpec) :=
  OpenClaim.holds_of_wide 8 Try.f8 rfl rfl rfl rfl rfl rfl rfl ⟨rfl, rfl, rfl, rfl, rfl⟩ rfl rfl rfl rfl rfl (by kernel_rfl) Try.func8 (by kernel_rfl)
    (of_decide_eq_true (by kernel_rfl)) (by unfold Func.isWrapper; first | (rw [if_pos (by decide +kernel)]; kernel_rfl) | (rw [if_neg (by decide +kernel)]; exact ⟨rfl, rfl⟩))
    (fun os started H enc _ => rep_lifted os started H enc)

theorem fnKeySetHadReportsRepeats_proved : Rows.FnKeySetHadReportsRepeatsSaid := rep_over
end Go.Proofs.Qxb6605386a
