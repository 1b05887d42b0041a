import Derived.Test.Qxb6605386aAddWalkT
import Derived.ProofKit
import Derived.OpenShut
import Derived.ShutString
import Derived.ChangeOld
import Derived.SliceStrings
namespace Go.Proofs.Qxb6605386a.AddKey
open Go.ChangeShapes Go.WideShapes Go.ChangeAt Go.RowKit Go.Maps Go.WideMaps
open Go.ChangeMaps (open_string shut_string)
set_option linter.unusedVariables false

set_option maxRecDepth 100000 in
theorem add_walk_big (a0 : Option Addr) (cap0 : Nat) (s0 : List ByteArray) (u : Bool) (a2 : Option Addr) (cap2 : Nat) (s2 : List ByteArray) (key : ByteArray) (w : World) (hl0 : s0.length ≤ 9223372036854775807) (hl2 : s2.length ≤ 9223372036854775807) (hlk : key.size ≤ 9223372036854775807) (h0 : StrRow w a0 s0) (h2 : StrRow w a2 s2)
    (hbig : ¬ (s0.length ≤ 4096 ∧ s2.length ≤ 4096 ∧ key.size ≤ 1048576)) :
    Calls Try.prog 7 #[.slice a0 s0.length cap0, .bool u, .slice a2 s2.length cap2, .string key] w fun e w' => e = .returned (.bool true) ∧ Below w.heap.size w w' := by
  by_cases k0 : 4096 < s0.length
  · go_enter Try.func7, Try.ntmps7
    go_wp2_with fail
    refine (bytes21_any a0 cap0 s0 _ a2 cap2 s2 key w (by omega) (by omega) h0 h2).mono ?_
    rintro e w' ⟨⟨r, rfl⟩, hw⟩
    replace hw := hw.symm
    subst hw
    cases r
    · go_wp2
      go_ret
      exact ⟨rfl, Below.refl _ _⟩
    go_wp2
    go_ret
    exact ⟨rfl, Below.refl _ _⟩
  by_cases k2 : 4096 < s2.length
  · have hd1 : decide (4096 < (s0.length : Int)) = false := by simp; omega
    clear hbig
    go_enter Try.func7, Try.ntmps7
    go_wp2_with fail
    refine (bytes21_any a0 cap0 s0 _ a2 cap2 s2 key w (by omega) (by omega) h0 h2).mono ?_
    rintro e w' ⟨⟨r, rfl⟩, hw⟩
    replace hw := hw.symm
    subst hw
    cases r
    · go_wp2
      go_ret
      exact ⟨rfl, Below.refl _ _⟩
    go_wp2
    go_ret
    exact ⟨rfl, Below.refl _ _⟩
  have k3 : 1048576 < key.size := by omega
  have hd1 : decide (4096 < (s0.length : Int)) = false := by simp; omega
  have hd2 : decide (4096 < (s2.length : Int)) = false := by simp; omega
  clear hbig
  go_enter Try.func7, Try.ntmps7
  go_wp2_with fail
  refine (bytes21_any a0 cap0 s0 _ a2 cap2 s2 key w (by omega) (by omega) h0 h2).mono ?_
  rintro e w' ⟨⟨r, rfl⟩, hw⟩
  replace hw := hw.symm
  subst hw
  cases r
  · go_wp2
    go_ret
    exact ⟨rfl, Below.refl _ _⟩
  go_wp2
  go_ret
  exact ⟨rfl, Below.refl _ _⟩

theorem add_walk (a0 : Option Addr) (cap0 : Nat) (s0 : List ByteArray) (u : Bool) (a2 : Option Addr) (cap2 : Nat) (s2 : List ByteArray) (key : ByteArray) (w : World) (hl0 : s0.length ≤ 9223372036854775807) (hl2 : s2.length ≤ 9223372036854775807) (hlk : key.size ≤ 9223372036854775807)
    (hc0 : s0.length ≤ cap0) (hc2 : s2.length ≤ cap2) (h0 : StrRow w a0 s0) (h2 : StrRow w a2 s2) (hz0 : ∀ s ∈ s0, s.size ≤ maxLen) (hz2 : ∀ s ∈ s2, s.size ≤ maxLen) :
    Calls Try.prog 7 #[.slice a0 s0.length cap0, .bool u, .slice a2 s2.length cap2, .string key] w fun e w' => e = .returned (.bool true) ∧ Below w.heap.size w w' := by
  by_cases hb : s0.length ≤ 4096 ∧ s2.length ≤ 4096 ∧ key.size ≤ 1048576
  · obtain ⟨b0, b2, bk⟩ := hb
    cases u with
    | false =>
      cases hh : hasS s0 key
      · by_cases h16 : s0.length < 16
        · exact add_walk_F2 a0 cap0 s0 a2 cap2 s2 key w b0 b2 bk hc0 hc2 h0 h2 hz0 hz2 hh h16
        · exact add_walk_F3 a0 cap0 s0 a2 cap2 s2 key w b0 b2 bk hc0 hc2 h0 h2 hz0 hz2 hh (by omega)
      · exact add_walk_F1 a0 cap0 s0 a2 cap2 s2 key w b0 b2 bk hc0 hc2 h0 h2 hz0 hz2 hh
    | true =>
      cases hh : hasS s2 key
      · exact add_walk_T2 a0 cap0 s0 a2 cap2 s2 key w b0 b2 bk hc0 hc2 h0 h2 hz0 hz2 hh
      · exact add_walk_T1 a0 cap0 s0 a2 cap2 s2 key w b0 b2 bk hc0 hc2 h0 h2 hz0 hz2 hh
  · exact add_walk_big a0 cap0 s0 u a2 cap2 s2 key w hl0 hl2 hlk h0 h2 hb

theorem own : ownKnob Try.prog.godebug = none := by kernel_rfl
theorem laidOut : laidOutB Try.prog = true := by kernel_rfl
theorem cells9 : Try.prog.cellsOf 9 = 1 := by kernel_rfl
theorem bytes9 : Try.prog.bytesOf 9 = 16 := by kernel_rfl

/-- a slice of strings that came in -/
theorem open_strRow {H : Type} {enc : TypeId × Value → H} {W : World} {a : Option Addr} {len cap : Nat} {d : DataW H} {p : List MemPlace} (h : DataW.Trod enc Try.prog W 0 (fun _ => true) true 32 (.slice a len cap) d p) :
    ∃ ss : List ByteArray, ss.length = len ∧ len ≤ cap ∧ cap ≤ maxLen ∧ StrRow W a ss ∧ (∀ s ∈ ss, s.size ≤ maxLen) ∧ (d = .nil ∨ ∃ es sp, d = .slice es sp ∧ es.length = len) := by
  have hlt : ∀ x ∈ p, x.block < W.heap.size := by obtain ⟨m, hm⟩ := h; exact DataW.trod_lt m _ _ _ hm
  obtain ⟨fuel, hf⟩ := h
  rcases open_strings Try.underlying32 Try.underlying9 cells9 hf with ⟨hcs, hx⟩ | ⟨x, l, c, ss, hcs, _, hl, hm, hz, hx, hcell, hws⟩
  · simp [Value.cells] at hcs
    obtain ⟨rfl, rfl, rfl⟩ := hcs
    exact ⟨[], rfl, Nat.le_refl _, Nat.zero_le _, fun h => by simp at h, by simp, .inl (by simpa using congrArg Prod.fst hx)⟩
  · simp [Value.cells] at hcs
    obtain ⟨rfl, rfl, rfl⟩ := hcs
    simp only [if_true] at hz
    have hd : d = .slice (strs (ss.take len)) (strs (ss.drop len)) := congrArg Prod.fst hx
    refine ⟨ss.take len, by simp; omega, hl, hm, fun h0 => ?_, fun s hs => hws s (List.mem_of_mem_take hs), .inr ⟨_, _, hd, by simp [strs]; omega⟩⟩
    have hl0 : 0 < ss.length := by simp at h0; omega
    obtain ⟨b, off, spot⟩ := x
    have hspot : spot = none := by simpa [Addr.add] using World.cell?_spot (hcell 0 hl0)
    subst hspot
    refine ⟨b, off, rfl, ?_, fun j hj => ?_⟩
    · have := lt_of_cell (hcell 0 hl0)
      simpa [Addr.add] using this
    · have hj' : j < len := by simp at hj; omega
      have := hcell j (by omega)
      rw [add_plain] at this
      rw [this]
      simp [List.getD, hj']

set_option maxRecDepth 100000 in
theorem add_lifted (os : Os) (started : os.Started) (H : Type) (enc : TypeId × Value → H) :
    ReturnsInHanded {} Try.checked os 7 .any (Rows.fnKeySetHadAddsKeySpec.pre6 enc Try.prog Try.f7 Rows.fnKeySetHadAddsKeyRow.domain false) (Rows.fnKeySetHadAddsKeySpec.post enc Try.prog Try.f7 false true false false) := by
  refine returnsInHanded_of_change (C := Try.checked) own started (by kernel_rfl) Try.func7
    (ChangeSpec.witness6 (enc := enc) (C := Try.checked) false ⟨#[], #[.slice none 0 0, .bool false, .slice none 0 0, .string ByteArray.empty], []⟩ 8 (by kernel_rfl) (by kernel_rfl) (by kernel_rfl) (by kernel_rfl)) ?_
  intro W base args ds gs before hval0 hW hcnd _
  have hval : ∀ (j : Nat) t v, Try.f7.params[j]? = some t → args[j]? = some v → Value.okWide Try.prog W .any base t v := hval0
  have hW' := hW
  obtain ⟨p, q, hA0, hV, rfl, hfz, hnd⟩ := hW
  have hA : DataW.TrodAll enc Try.prog W 0 (fun _ => true) true Try.f7.params.toList args.toList ds p := hA0
  rw [Try.params7] at hA hval
  obtain ⟨v0, vs0, d0, ds0, p0, q0, hargs, rfl, rfl, h0, r0⟩ := trodAll_cons hA
  obtain ⟨v1, vs1, d1, ds1, p1, q1, rfl, rfl, rfl, h1, r1⟩ := trodAll_cons r0
  obtain ⟨v2, vs2, d2, ds2, p2, q2, rfl, rfl, rfl, h2, r2⟩ := trodAll_cons r1
  obtain ⟨v3, vs3, d3, ds3, p3, q3, rfl, rfl, rfl, h3, r3⟩ := trodAll_cons r2
  obtain ⟨rfl, rfl, rfl⟩ := trodAll_nil r3
  obtain rfl : args = #[v0, v1, v2, v3] := by cases args; simp_all
  obtain ⟨rfl, rfl⟩ := trodVars_none hV
  obtain ⟨a0, len0, cap0, rfl⟩ := okWide_slice Try.underlying32 (hval 0 32 v0 rfl rfl)
  have k0 := h0
  have lt0 : ∀ x ∈ p0, x.block < W.heap.size := by obtain ⟨m, hm⟩ := k0; exact DataW.trod_lt m _ _ _ hm
  obtain ⟨s0, rfl, hlc0, hm0, hrow0, hsz0, _⟩ := open_strRow h0
  obtain ⟨u, rfl, rfl, rfl⟩ := open_bool Try.underlying4 (hval 1 4 v1 rfl rfl) h1
  obtain ⟨a2, len2, cap2, rfl⟩ := okWide_slice Try.underlying32 (hval 2 32 v2 rfl rfl)
  have k2 := h2
  have lt2 : ∀ x ∈ p2, x.block < W.heap.size := by obtain ⟨m, hm⟩ := k2; exact DataW.trod_lt m _ _ _ hm
  obtain ⟨s2, rfl, hlc2, hm2, hrow2, hsz2, _⟩ := open_strRow h2
  obtain ⟨key, rfl, rfl, rfl, hkey⟩ := open_string Try.underlying9 (hval 3 9 v3 rfl rfl) h3
  clear hA0 hval0
  refine (add_walk a0 cap0 s0 u a2 cap2 s2 key W (by unfold maxLen at hm0; omega) (by unfold maxLen at hm2; omega) (by unfold maxLen at hkey; omega) hlc0 hlc2 hrow0 hrow2 hsz0 hsz2).mono fun e W' ⟨he, bel⟩ => ?_
  subst he
  exact ⟨_, rfl, _, _, _, [], _, [], hW', trodAll_mk1 (shut_bool Try.underlying4 _), (trodAll_cons_mk (Below.trod laidOut (by kernel_rfl) (of_decide_eq_true (by kernel_rfl)) k0 bel lt0) (trodAll_cons_mk (shut_bool Try.underlying4 _) (trodAll_cons_mk (Below.trod laidOut (by kernel_rfl) (of_decide_eq_true (by kernel_rfl)) k2 bel lt2) (trodAll_cons_mk (shut_string Try.underlying9 hkey) trodAll_mk0)))), rfl, bel.frame _, fun h => by cases h⟩

theorem add_over : Rows.fnKeySetHadAddsKeyRow.holds Try.pinned (OpenSpec.ofChange Rows.fnKeySetHadAddsKeySpec) :=
  OpenClaim.holds_of_wide 7 Try.f7 rfl rfl rfl rfl rfl rfl rfl ⟨rfl, rfl, rfl, rfl, rfl⟩ rfl rfl rfl rfl rfl (by kernel_rfl) Try.func7 (by kernel_rfl)
    (of_decide_eq_true (by kernel_rfl)) (by unfold Func.isWrapper; first | (rw [if_pos (by decide +kernel)]; kernel_rfl) | (rw [if_neg (by decide +kernel)]; exact ⟨rfl, rfl⟩))
    (fun os started H enc _ => add_lifted os started H enc)

end Go.Proofs.Qxb6605386a.AddKey

namespace Go.Proofs.Qxb6605386a
theorem fnKeySetHadAddsKey_proved : Rows.FnKeySetHadAddsKeySaid := AddKey.add_over
end Go.Proofs.Qxb6605386a
