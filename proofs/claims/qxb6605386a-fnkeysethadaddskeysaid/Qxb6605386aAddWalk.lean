import Derived.Test.Qxb6605386aAddLeaf
namespace Go.Proofs.Qxb6605386a
open Go.RowKit Go.Maps Go.WideMaps
set_option linter.unusedVariables false

theorem getD_left {s : List ByteArray} {x : ByteArray} {k : Nat} (h : k < s.length) : (s ++ [x]).getD k ByteArray.empty = s[k] := by
  rw [List.getD, List.getElem?_append_left h, List.getElem?_eq_getElem h]
  rfl
theorem hasS_last (s : List ByteArray) (x : ByteArray) : hasS (s ++ [x]) x = true := by simp [hasS]
theorem hasS_left {s : List ByteArray} {x y : ByteArray} (h : hasS s y = true) : hasS (s ++ [x]) y = true := by rw [hasS_snoc, h]; rfl

set_option maxRecDepth 100000 in
set_option maxHeartbeats 8000000 in
theorem add_walk_F1 (a0 : Option Addr) (cap0 : Nat) (s0 : List ByteArray) (a2 : Option Addr) (cap2 : Nat) (s2 : List ByteArray) (key : ByteArray) (w : World) (hl0 : s0.length ≤ 4096) (hl2 : s2.length ≤ 4096) (hlk : key.size ≤ 1048576) (hc0 : s0.length ≤ cap0) (hc2 : s2.length ≤ cap2) (h0 : StrRow w a0 s0) (h2 : StrRow w a2 s2)
    (hz0 : ∀ s ∈ s0, s.size ≤ maxLen) (hz2 : ∀ s ∈ s2, s.size ≤ maxLen) (hwas : hasS s0 key = true) :
    Calls Try.prog 7 #[.slice a0 s0.length cap0, .bool false, .slice a2 s2.length cap2, .string key] w fun e w' => e = .returned (.bool true) ∧ Below w.heap.size w w' := by
  have q1 := eqlNil36
  have q2 := run_makeMap_hint
  have hkm : key.size ≤ maxLen := by unfold maxLen; omega
  have hd1 : decide (4096 < (s0.length : Int)) = false := by simp; omega
  have hd2 : decide (4096 < (s2.length : Int)) = false := by simp; omega
  have hd3 : decide (1048576 < (key.size : Int)) = false := by simp; omega
  go_enter Try.func7, Try.ntmps7
  go_wp2_with fail
  refine (bytes21_any a0 cap0 s0 _ a2 cap2 s2 key w (by omega) (by omega) h0 h2).mono ?_
  rintro e w' ⟨⟨r, rfl⟩, hw⟩
  replace hw := hw.symm
  subst hw
  cases r
  · go_wp2
    go_ret
    exact ⟨rfl, Below.refl _ _⟩
  go_wp2_with fail
  refine (size_any a0 cap0 s0 _ (by omega) h0).mono ?_
  rintro e w' ⟨hw, n, rfl⟩
  replace hw := hw.symm
  subst hw
  go_wp2_with fail
  refine (size_any a2 cap2 s2 _ (by omega) h2).mono ?_
  rintro e w' ⟨hw, n2, rfl⟩
  replace hw := hw.symm
  subst hw
  go_wp2_with fail
  · go_ret
    exact ⟨rfl, Below.refl _ _⟩
  refine (clone_any a0 cap0 s0 w hl0 h0).mono ?_
  rintro e w1 ⟨ao, co, rfl, hown, hco, hb1⟩
  have hr01 : StrRow w1 a0 s0 := h0.below hb1 (Nat.le_refl _)
  go_wp2_with fail
  refine (clone_any a0 cap0 s0 w1 hl0 hr01).mono ?_
  rintro e w2 ⟨aw, cw, rfl, hownw, hcw, hb2⟩
  have hbw2 : Below w.heap.size w w2 := hb1.trans (hb2.mono hb1.size)
  have hown2 : w2.ownsRow w.heap.size 9 1 (.slice ao s0.length co) s0.length (s0.map Value.string) := (Chg.of_below hb2).ownsRow hown (fun k hk => Nat.not_le.2 (hown.lt k hk).2)
  have hlo := hown.lt
  have hlw := hownw.lt
  clear hown hr01
  have hs2 := Nat.le_trans hb1.size hb2.size
  go_wp2_with fail
  refine (newKeySet_any _ _ _ ⟨_, _, _, rfl⟩ ⟨_, rfl⟩).mono ?_
  rintro e w3 ⟨rfl, hw⟩
  have hch3 : Chg (fun _ => False) w2 w3 := by rw [← hw]; exact (Chg.refl _ _).alloc _
  have hKS : KS w3 w.heap.size w2.heap.size 4096 s0 none aw cw none := by
    refine ⟨by rw [← hw]; simp, by rw [← hw]; simp, by rw [← hw]; simp [World.frozen?_alloc_at], by rw [← hw]; simp [World.frozen?_alloc_at], hs2, ?_, ?_, by simp, by simp⟩
    · have := hch3.ownsRow hownw (fun _ _ h => h)
      obtain ⟨t1, t2⟩ := this
      refine ⟨t1, ?_⟩
      rcases t2 with t2 | ⟨g, cap, cur, hv, hg, r⟩
      · exact .inl t2
      · exact .inr ⟨g, cap, cur, hv, Nat.le_trans hb1.size hg, r⟩
    · intro x hx
      subst hx
      have := (hlw x.block rfl).2
      omega
  clear hw
  have hs3 := hch3.size
  go_wp2_with fail
  refine (zzHad_any w.heap.size w2.heap.size 4096 cw aw none s0 none key _ hKS hl0 hl0 (by unfold maxLen; omega) hz0 hkm (by omega)).mono ?_
  rintro e w4 ⟨rfl, al, cl, mo, hK, hch4, -, -⟩
  have hold4 : w4.ownsRow w.heap.size 9 1 (.slice ao s0.length co) s0.length (s0.map Value.string) := by
    refine hch4.ownsRow (hch3.ownsRow hown2 (fun _ _ h => h)) (fun k hk hb => ?_)
    have h1 := (hlo k hk).2
    have hz1 := hb1.size
    have hz2' := hb2.size
    rcases hb with hb | ⟨x, hx, hb⟩ | hb
    · omega
    · subst hx
      have := (hlw x.block rfl).1
      omega
    · cases hb
  have hbw4 : Below w.heap.size w w4 := hbw2.trans (((hch3.below (B := w.heap.size) hs2 (fun _ h => h.elim))).trans (hch4.below (by omega) hKS.blocks))
  clear hKS
  rw [show hadB s0 none key = true from hwas]
  rw [show hadL s0 none key = s0 from by simp [hadL, hwas], show hadM s0 none key = none from by simp [hadM, hwas]] at hK
  have hro4 : StrRow w4 ao s0 := strRow_own hold4
  go_wp2_with fail
  have hKc := hK.c0
  rw [show (s0).length = s0.length from rfl] at hKc
  refine (ksList_any _ _ _ hKc).mono ?_
  rintro e w' ⟨rfl, hw⟩
  subst hw
  go_wp2_with fail
  refine (ksMap_any _ _ _ hK.c1).mono ?_
  rintro e w' ⟨rfl, hw⟩
  subst hw
  have hmo := hK.nomap rfl
  subst hmo
  go_wp2_with fail
  refine (contains_any ao co s0 key _ (by omega) hro4).mono ?_
  rintro e w' ⟨rfl, hw⟩
  replace hw := hw.symm
  subst hw
  rw [show hasS s0 key = true from hwas]
  have hrn4 : StrRow w4 al (s0) := strRow_own hK.own
  clear hK hKc hold4 hownw hown2
  go_wp2
  go_loopw [21] (fun i wr => ∃ k : Nat, k ≤ s0.length ∧ i = .int .i64 k ∧ Below w4.heap.size w4 wr) (fun i _ => s0.length - (intOf i).toNat)
  case atStart => exact ⟨0, Nat.zero_le _, rfl, Below.refl _ _⟩
  case round =>
    obtain ⟨k, hk, rfl, hbr⟩ := hrel
    by_cases hlt : k < s0.length
    · obtain ⟨b, off, ha, hbl, hcell⟩ := hro4 (by omega)
      obtain ⟨b', off', ha', hbl', hcell'⟩ := hrn4 (by first | omega | (simp; done) | (simp; omega))
      have hcx : wr.cell? ⟨b, off + k, none⟩ = some (.string s0[k]) := by
        rw [hbr.cell (p := ⟨b, off + k, none⟩) hbl, hcell k hlt]
        simp [List.getD, hlt]
      have hcx' : wr.cell? ⟨b', off' + k, none⟩ = some (.string s0[k]) := by
        rw [hbr.cell (p := ⟨b', off' + k, none⟩) hbl', hcell' k (by first | omega | (simp; done) | (simp; omega))]
        simp [List.getD, hlt]
      have hki : (k : Int) < (s0.length : Int) := by omega
      clear hcell hcell'
      subst ha
      subst ha'
      go_wp2
      go_quiet (fail)
      go_wp2
      go_roundw
      case rel => exact ⟨k + 1, by omega, by go_num, hbr.trans ((below_drawn _ _).mono hbr.size)⟩
      case measure => simp [intOf]; omega
    · have hbw5 : Below w.heap.size w wr := hbw4.trans (hbr.mono hbw4.size)
      go_wp2
      go_ret
      exact ⟨rfl, hbw5⟩

set_option maxRecDepth 100000 in
set_option maxHeartbeats 8000000 in
theorem add_walk_F2 (a0 : Option Addr) (cap0 : Nat) (s0 : List ByteArray) (a2 : Option Addr) (cap2 : Nat) (s2 : List ByteArray) (key : ByteArray) (w : World) (hl0 : s0.length ≤ 4096) (hl2 : s2.length ≤ 4096) (hlk : key.size ≤ 1048576) (hc0 : s0.length ≤ cap0) (hc2 : s2.length ≤ cap2) (h0 : StrRow w a0 s0) (h2 : StrRow w a2 s2)
    (hz0 : ∀ s ∈ s0, s.size ≤ maxLen) (hz2 : ∀ s ∈ s2, s.size ≤ maxLen) (hwas : hasS s0 key = false) (h16 : s0.length < 16) :
    Calls Try.prog 7 #[.slice a0 s0.length cap0, .bool false, .slice a2 s2.length cap2, .string key] w fun e w' => e = .returned (.bool true) ∧ Below w.heap.size w w' := by
  have q1 := eqlNil36
  have q2 := run_makeMap_hint
  have hkm : key.size ≤ maxLen := by unfold maxLen; omega
  have hd1 : decide (4096 < (s0.length : Int)) = false := by simp; omega
  have hd2 : decide (4096 < (s2.length : Int)) = false := by simp; omega
  have hd3 : decide (1048576 < (key.size : Int)) = false := by simp; omega
  go_enter Try.func7, Try.ntmps7
  go_wp2_with fail
  refine (bytes21_any a0 cap0 s0 _ a2 cap2 s2 key w (by omega) (by omega) h0 h2).mono ?_
  rintro e w' ⟨⟨r, rfl⟩, hw⟩
  replace hw := hw.symm
  subst hw
  cases r
  · go_wp2
    go_ret
    exact ⟨rfl, Below.refl _ _⟩
  go_wp2_with fail
  refine (size_any a0 cap0 s0 _ (by omega) h0).mono ?_
  rintro e w' ⟨hw, n, rfl⟩
  replace hw := hw.symm
  subst hw
  go_wp2_with fail
  refine (size_any a2 cap2 s2 _ (by omega) h2).mono ?_
  rintro e w' ⟨hw, n2, rfl⟩
  replace hw := hw.symm
  subst hw
  go_wp2_with fail
  · go_ret
    exact ⟨rfl, Below.refl _ _⟩
  refine (clone_any a0 cap0 s0 w hl0 h0).mono ?_
  rintro e w1 ⟨ao, co, rfl, hown, hco, hb1⟩
  have hr01 : StrRow w1 a0 s0 := h0.below hb1 (Nat.le_refl _)
  go_wp2_with fail
  refine (clone_any a0 cap0 s0 w1 hl0 hr01).mono ?_
  rintro e w2 ⟨aw, cw, rfl, hownw, hcw, hb2⟩
  have hbw2 : Below w.heap.size w w2 := hb1.trans (hb2.mono hb1.size)
  have hown2 : w2.ownsRow w.heap.size 9 1 (.slice ao s0.length co) s0.length (s0.map Value.string) := (Chg.of_below hb2).ownsRow hown (fun k hk => Nat.not_le.2 (hown.lt k hk).2)
  have hlo := hown.lt
  have hlw := hownw.lt
  clear hown hr01
  have hs2 := Nat.le_trans hb1.size hb2.size
  go_wp2_with fail
  refine (newKeySet_any _ _ _ ⟨_, _, _, rfl⟩ ⟨_, rfl⟩).mono ?_
  rintro e w3 ⟨rfl, hw⟩
  have hch3 : Chg (fun _ => False) w2 w3 := by rw [← hw]; exact (Chg.refl _ _).alloc _
  have hKS : KS w3 w.heap.size w2.heap.size 4096 s0 none aw cw none := by
    refine ⟨by rw [← hw]; simp, by rw [← hw]; simp, by rw [← hw]; simp [World.frozen?_alloc_at], by rw [← hw]; simp [World.frozen?_alloc_at], hs2, ?_, ?_, by simp, by simp⟩
    · have := hch3.ownsRow hownw (fun _ _ h => h)
      obtain ⟨t1, t2⟩ := this
      refine ⟨t1, ?_⟩
      rcases t2 with t2 | ⟨g, cap, cur, hv, hg, r⟩
      · exact .inl t2
      · exact .inr ⟨g, cap, cur, hv, Nat.le_trans hb1.size hg, r⟩
    · intro x hx
      subst hx
      have := (hlw x.block rfl).2
      omega
  clear hw
  have hs3 := hch3.size
  go_wp2_with fail
  refine (zzHad_any w.heap.size w2.heap.size 4096 cw aw none s0 none key _ hKS hl0 hl0 (by unfold maxLen; omega) hz0 hkm (by omega)).mono ?_
  rintro e w4 ⟨rfl, al, cl, mo, hK, hch4, -, -⟩
  have hold4 : w4.ownsRow w.heap.size 9 1 (.slice ao s0.length co) s0.length (s0.map Value.string) := by
    refine hch4.ownsRow (hch3.ownsRow hown2 (fun _ _ h => h)) (fun k hk hb => ?_)
    have h1 := (hlo k hk).2
    have hz1 := hb1.size
    have hz2' := hb2.size
    rcases hb with hb | ⟨x, hx, hb⟩ | hb
    · omega
    · subst hx
      have := (hlw x.block rfl).1
      omega
    · cases hb
  have hbw4 : Below w.heap.size w w4 := hbw2.trans (((hch3.below (B := w.heap.size) hs2 (fun _ h => h.elim))).trans (hch4.below (by omega) hKS.blocks))
  clear hKS
  rw [show hadB s0 none key = false from hwas]
  rw [show hadL s0 none key = s0 ++ [key] from by simp [hadL, hwas, h16], show hadM s0 none key = none from by simp [hadM, hwas, h16]] at hK
  have hro4 : StrRow w4 ao s0 := strRow_own hold4
  go_wp2_with fail
  have hKc := hK.c0
  rw [show (s0 ++ [key]).length = s0.length + 1 from by simp] at hKc
  refine (ksList_any _ _ _ hKc).mono ?_
  rintro e w' ⟨rfl, hw⟩
  subst hw
  go_wp2_with fail
  refine (ksMap_any _ _ _ hK.c1).mono ?_
  rintro e w' ⟨rfl, hw⟩
  subst hw
  have hmo := hK.nomap rfl
  subst hmo
  go_wp2_with fail
  refine (contains_any ao co s0 key _ (by omega) hro4).mono ?_
  rintro e w' ⟨rfl, hw⟩
  replace hw := hw.symm
  subst hw
  rw [show hasS s0 key = false from hwas]
  have hd16 : decide ((s0.length : Int) < 16) = true := by simp; omega
  have hrn4 : StrRow w4 al (s0 ++ [key]) := strRow_own hK.own
  clear hK hKc hold4 hownw hown2
  go_wp2
  go_loopw [21] (fun i wr => ∃ k : Nat, k ≤ s0.length ∧ i = .int .i64 k ∧ Below w4.heap.size w4 wr) (fun i _ => s0.length - (intOf i).toNat)
  case atStart => exact ⟨0, Nat.zero_le _, rfl, Below.refl _ _⟩
  case round =>
    obtain ⟨k, hk, rfl, hbr⟩ := hrel
    by_cases hlt : k < s0.length
    · obtain ⟨b, off, ha, hbl, hcell⟩ := hro4 (by omega)
      obtain ⟨b', off', ha', hbl', hcell'⟩ := hrn4 (by first | omega | (simp; done) | (simp; omega))
      have hcx : wr.cell? ⟨b, off + k, none⟩ = some (.string s0[k]) := by
        rw [hbr.cell (p := ⟨b, off + k, none⟩) hbl, hcell k hlt]
        simp [List.getD, hlt]
      have hcx' : wr.cell? ⟨b', off' + k, none⟩ = some (.string s0[k]) := by
        rw [hbr.cell (p := ⟨b', off' + k, none⟩) hbl', hcell' k (by first | omega | (simp; done) | (simp; omega))]
        rw [getD_left hlt]
      have hki : (k : Int) < (s0.length : Int) := by omega
      clear hcell hcell'
      subst ha
      subst ha'
      go_wp2
      go_quiet (fail)
      go_wp2
      go_roundw
      case rel => exact ⟨k + 1, by omega, by go_num, hbr.trans ((below_drawn _ _).mono hbr.size)⟩
      case measure => simp [intOf]; omega
    · have hbw5 : Below w.heap.size w wr := hbw4.trans (hbr.mono hbw4.size)
      obtain ⟨b', off', ha', hbl', hcell'⟩ := hrn4 (by simp)
      have hcx' : wr.cell? ⟨b', off' + s0.length, none⟩ = some (.string key) := by
        rw [hbr.cell (p := ⟨b', off' + s0.length, none⟩) hbl', hcell' s0.length (by simp)]
        simp [List.getD]
      clear hcell'
      subst ha'
      go_wp2
      go_ret
      exact ⟨rfl, hbw5⟩

set_option maxRecDepth 100000 in
set_option maxHeartbeats 8000000 in
theorem add_walk_F3 (a0 : Option Addr) (cap0 : Nat) (s0 : List ByteArray) (a2 : Option Addr) (cap2 : Nat) (s2 : List ByteArray) (key : ByteArray) (w : World) (hl0 : s0.length ≤ 4096) (hl2 : s2.length ≤ 4096) (hlk : key.size ≤ 1048576) (hc0 : s0.length ≤ cap0) (hc2 : s2.length ≤ cap2) (h0 : StrRow w a0 s0) (h2 : StrRow w a2 s2)
    (hz0 : ∀ s ∈ s0, s.size ≤ maxLen) (hz2 : ∀ s ∈ s2, s.size ≤ maxLen) (hwas : hasS s0 key = false) (h16 : 16 ≤ s0.length) :
    Calls Try.prog 7 #[.slice a0 s0.length cap0, .bool false, .slice a2 s2.length cap2, .string key] w fun e w' => e = .returned (.bool true) ∧ Below w.heap.size w w' := by
  have q1 := eqlNil36
  have q2 := run_makeMap_hint
  have hkm : key.size ≤ maxLen := by unfold maxLen; omega
  have hd1 : decide (4096 < (s0.length : Int)) = false := by simp; omega
  have hd2 : decide (4096 < (s2.length : Int)) = false := by simp; omega
  have hd3 : decide (1048576 < (key.size : Int)) = false := by simp; omega
  go_enter Try.func7, Try.ntmps7
  go_wp2_with fail
  refine (bytes21_any a0 cap0 s0 _ a2 cap2 s2 key w (by omega) (by omega) h0 h2).mono ?_
  rintro e w' ⟨⟨r, rfl⟩, hw⟩
  replace hw := hw.symm
  subst hw
  cases r
  · go_wp2
    go_ret
    exact ⟨rfl, Below.refl _ _⟩
  go_wp2_with fail
  refine (size_any a0 cap0 s0 _ (by omega) h0).mono ?_
  rintro e w' ⟨hw, n, rfl⟩
  replace hw := hw.symm
  subst hw
  go_wp2_with fail
  refine (size_any a2 cap2 s2 _ (by omega) h2).mono ?_
  rintro e w' ⟨hw, n2, rfl⟩
  replace hw := hw.symm
  subst hw
  go_wp2_with fail
  · go_ret
    exact ⟨rfl, Below.refl _ _⟩
  refine (clone_any a0 cap0 s0 w hl0 h0).mono ?_
  rintro e w1 ⟨ao, co, rfl, hown, hco, hb1⟩
  have hr01 : StrRow w1 a0 s0 := h0.below hb1 (Nat.le_refl _)
  go_wp2_with fail
  refine (clone_any a0 cap0 s0 w1 hl0 hr01).mono ?_
  rintro e w2 ⟨aw, cw, rfl, hownw, hcw, hb2⟩
  have hbw2 : Below w.heap.size w w2 := hb1.trans (hb2.mono hb1.size)
  have hown2 : w2.ownsRow w.heap.size 9 1 (.slice ao s0.length co) s0.length (s0.map Value.string) := (Chg.of_below hb2).ownsRow hown (fun k hk => Nat.not_le.2 (hown.lt k hk).2)
  have hlo := hown.lt
  have hlw := hownw.lt
  clear hown hr01
  have hs2 := Nat.le_trans hb1.size hb2.size
  go_wp2_with fail
  refine (newKeySet_any _ _ _ ⟨_, _, _, rfl⟩ ⟨_, rfl⟩).mono ?_
  rintro e w3 ⟨rfl, hw⟩
  have hch3 : Chg (fun _ => False) w2 w3 := by rw [← hw]; exact (Chg.refl _ _).alloc _
  have hKS : KS w3 w.heap.size w2.heap.size 4096 s0 none aw cw none := by
    refine ⟨by rw [← hw]; simp, by rw [← hw]; simp, by rw [← hw]; simp [World.frozen?_alloc_at], by rw [← hw]; simp [World.frozen?_alloc_at], hs2, ?_, ?_, by simp, by simp⟩
    · have := hch3.ownsRow hownw (fun _ _ h => h)
      obtain ⟨t1, t2⟩ := this
      refine ⟨t1, ?_⟩
      rcases t2 with t2 | ⟨g, cap, cur, hv, hg, r⟩
      · exact .inl t2
      · exact .inr ⟨g, cap, cur, hv, Nat.le_trans hb1.size hg, r⟩
    · intro x hx
      subst hx
      have := (hlw x.block rfl).2
      omega
  clear hw
  have hs3 := hch3.size
  go_wp2_with fail
  refine (zzHad_any w.heap.size w2.heap.size 4096 cw aw none s0 none key _ hKS hl0 hl0 (by unfold maxLen; omega) hz0 hkm (by omega)).mono ?_
  rintro e w4 ⟨rfl, al, cl, mo, hK, hch4, -, -⟩
  have hold4 : w4.ownsRow w.heap.size 9 1 (.slice ao s0.length co) s0.length (s0.map Value.string) := by
    refine hch4.ownsRow (hch3.ownsRow hown2 (fun _ _ h => h)) (fun k hk hb => ?_)
    have h1 := (hlo k hk).2
    have hz1 := hb1.size
    have hz2' := hb2.size
    rcases hb with hb | ⟨x, hx, hb⟩ | hb
    · omega
    · subst hx
      have := (hlw x.block rfl).1
      omega
    · cases hb
  have hbw4 : Below w.heap.size w w4 := hbw2.trans (((hch3.below (B := w.heap.size) hs2 (fun _ h => h.elim))).trans (hch4.below (by omega) hKS.blocks))
  clear hKS
  rw [show hadB s0 none key = false from hwas]
  rw [show hadL s0 none key = s0 from by simp [hadL, hwas, show ¬ s0.length < 16 by omega], show hadM s0 none key = some (s0 ++ [key]) from by simp [hadM, hwas, show ¬ s0.length < 16 by omega]] at hK
  have hro4 : StrRow w4 ao s0 := strRow_own hold4
  go_wp2_with fail
  have hKc := hK.c0
  rw [show (s0).length = s0.length from rfl] at hKc
  refine (ksList_any _ _ _ hKc).mono ?_
  rintro e w' ⟨rfl, hw⟩
  subst hw
  go_wp2_with fail
  refine (ksMap_any _ _ _ hK.c1).mono ?_
  rintro e w' ⟨rfl, hw⟩
  subst hw
  obtain ⟨mb, hmo, -, hmap⟩ := hK.map _ rfl
  subst hmo
  go_wp2_with fail
  refine (contains_any ao co s0 key _ (by omega) hro4).mono ?_
  rintro e w' ⟨rfl, hw⟩
  replace hw := hw.symm
  subst hw
  rw [show hasS s0 key = false from hwas]
  have hd16 : decide ((s0.length : Int) < 16) = false := by simp; omega
  have hrn4 : StrRow w4 al (s0) := strRow_own hK.own
  clear hK hKc hold4 hownw hown2
  go_wp2
  go_loopw [21] (fun i wr => ∃ k : Nat, k ≤ s0.length ∧ i = .int .i64 k ∧ Below w4.heap.size w4 wr) (fun i _ => s0.length - (intOf i).toNat)
  case atStart => exact ⟨0, Nat.zero_le _, rfl, Below.refl _ _⟩
  case round =>
    obtain ⟨k, hk, rfl, hbr⟩ := hrel
    by_cases hlt : k < s0.length
    · obtain ⟨b, off, ha, hbl, hcell⟩ := hro4 (by omega)
      obtain ⟨b', off', ha', hbl', hcell'⟩ := hrn4 (by first | omega | (simp; done) | (simp; omega))
      have hcx : wr.cell? ⟨b, off + k, none⟩ = some (.string s0[k]) := by
        rw [hbr.cell (p := ⟨b, off + k, none⟩) hbl, hcell k hlt]
        simp [List.getD, hlt]
      have hcx' : wr.cell? ⟨b', off' + k, none⟩ = some (.string s0[k]) := by
        rw [hbr.cell (p := ⟨b', off' + k, none⟩) hbl', hcell' k (by first | omega | (simp; done) | (simp; omega))]
        simp [List.getD, hlt]
      have hki : (k : Int) < (s0.length : Int) := by omega
      clear hcell hcell'
      subst ha
      subst ha'
      go_wp2
      go_quiet (fail)
      go_wp2
      go_roundw
      case rel => exact ⟨k + 1, by omega, by go_num, hbr.trans ((below_drawn _ _).mono hbr.size)⟩
      case measure => simp [intOf]; omega
    · have hbw5 : Below w.heap.size w wr := hbw4.trans (hbr.mono hbw4.size)
      have hown5 : OwnsSet wr mb (4096 + 1) (s0 ++ [key]) := hmap.chg (Chg.of_below hbr) (Nat.not_le.2 hmap.lt)
      have hrb5 : StrRow wr ao s0 := hro4.below hbr (Nat.le_refl _)
      clear hmap
      go_wp2_with fail
      refine (count_any ao co s0 wr (by omega) (by omega) hrb5).mono ?_
      rintro e w6 ⟨rfl, hb6⟩
      have hown6 : OwnsSet w6 mb (4096 + 1) (s0 ++ [key]) := hown5.chg (Chg.of_below hb6) (Nat.not_le.2 hown5.lt)
      have hrb6 : StrRow w6 ao s0 := hrb5.below hb6 (Nat.le_refl _)
      have hbw6 : Below w.heap.size w w6 := hbw5.trans (hb6.mono hbw5.size)
      clear hown5 hrb5 hb6 hbw5
      have hdc := dd_len (s0)
      have hdk : (dd (s0 ++ [key])).length = (dd s0).length + 1 := by rw [dd_snoc, dstep_len, hasS_dd, hwas]; rfl
      have hdk' := hide hdk
      clear hdk
      have hlook := hown6.run_look key hkm
      rw [show hasS (s0 ++ [key]) key = true from hasS_last _ _] at hlook
      go_wp2_with (first
        | (at_len; go_must (refine wpList_lenSet rfl _ rfl mb (4096 + 1) (s0 ++ [key]) ((dd s0).length + 1) rfl hown6 (by first | rfl | exact unhide hdk') ?_)))
      clear hlook
      go_loop [23] (fun i => ∃ k : Nat, k ≤ (s0).length ∧ i = .int .i64 k) (fun i => (s0).length - (intOf i).toNat)
      case atStart => exact ⟨0, Nat.zero_le _, rfl⟩
      case round =>
        obtain ⟨k, hk, rfl⟩ := hrel
        by_cases hlt : k < (s0).length
        · obtain ⟨b, off, ha, hbl, hcell⟩ := hrb6 (by omega)
          have hcx : w6.cell? ⟨b, off + k, none⟩ = some (.string (s0)[k]) := by
            rw [hcell k hlt]
            simp [List.getD, hlt]
          have hhas : hasS (s0 ++ [key]) (s0)[k] = true := hasS_left (hasS_self hlt)
          have hss : (s0)[k].size ≤ maxLen := hz0 _ (List.getElem_mem hlt)
          clear hcell
          subst ha
          go_wp2_with (at_lookup; go_must (refine wpList_look rfl _ _ rfl mb (4096 + 1) (s0 ++ [key]) (s0)[k] rfl hown6 rfl hss true hhas ?_))
          go_round
          case rel => exact ⟨k + 1, by omega, by go_num⟩
          case measure => simp [intOf]; omega
        · go_wp2
          go_ret
          exact ⟨rfl, hbw6⟩

end Go.Proofs.Qxb6605386a
