import Derived.Test.Qxb6605386aAddWalk
namespace Go.Proofs.Qxb6605386a
open Go.RowKit Go.Maps Go.WideMaps
set_option linter.unusedVariables false

set_option maxRecDepth 100000 in
set_option maxHeartbeats 8000000 in
theorem add_walk_T1 (a0 : Option Addr) (cap0 : Nat) (s0 : List ByteArray) (a2 : Option Addr) (cap2 : Nat) (s2 : List ByteArray) (key : ByteArray) (w : World) (hl0 : s0.length ≤ 4096) (hl2 : s2.length ≤ 4096) (hlk : key.size ≤ 1048576) (hc0 : s0.length ≤ cap0) (hc2 : s2.length ≤ cap2) (h0 : StrRow w a0 s0) (h2 : StrRow w a2 s2)
    (hz0 : ∀ s ∈ s0, s.size ≤ maxLen) (hz2 : ∀ s ∈ s2, s.size ≤ maxLen) (hwas : hasS s2 key = true) :
    Calls Try.prog 7 #[.slice a0 s0.length cap0, .bool true, .slice a2 s2.length cap2, .string key] w fun e w' => e = .returned (.bool true) ∧ Below w.heap.size w w' := by
  have q1 := eqlNil36
  have q2 := run_makeMap_hint
  have hkm : key.size ≤ maxLen := by unfold maxLen; omega
  have hd1 : decide (4096 < (s0.length : Int)) = false := by simp; omega
  have hd2 : decide (4096 < (s2.length : Int)) = false := by simp; omega
  have hd3 : decide (1048576 < (key.size : Int)) = false := by simp; omega
  go_enter Try.func7, Try.ntmps7
  go_wp2_with fail
  refine (bytes21_any a0 cap0 s0 _ a2 cap2 s2 key w (by omega) (by omega) h0 h2).mono ?_
  rintro e w' ⟨⟨r, rfl⟩, hw⟩
  replace hw := hw.symm
  subst hw
  cases r
  · go_wp2
    go_ret
    exact ⟨rfl, Below.refl _ _⟩
  go_wp2_with fail
  refine (size_any a0 cap0 s0 _ (by omega) h0).mono ?_
  rintro e w' ⟨hw, n, rfl⟩
  replace hw := hw.symm
  subst hw
  go_wp2_with fail
  refine (size_any a2 cap2 s2 _ (by omega) h2).mono ?_
  rintro e w' ⟨hw, n2, rfl⟩
  replace hw := hw.symm
  subst hw
  go_wp2_with fail
  · go_ret
    exact ⟨rfl, Below.refl _ _⟩
  refine (clone_any a0 cap0 s0 w hl0 h0).mono ?_
  rintro e w1 ⟨ao, co, rfl, hown, hco, hb1⟩
  have hr01 : StrRow w1 a0 s0 := h0.below hb1 (Nat.le_refl _)
  go_wp2_with fail
  refine (clone_any a0 cap0 s0 w1 hl0 hr01).mono ?_
  rintro e w2 ⟨aw, cw, rfl, hownw, hcw, hb2⟩
  have hbw2 : Below w.heap.size w w2 := hb1.trans (hb2.mono hb1.size)
  have hown2 : w2.ownsRow w.heap.size 9 1 (.slice ao s0.length co) s0.length (s0.map Value.string) := (Chg.of_below hb2).ownsRow hown (fun k hk => Nat.not_le.2 (hown.lt k hk).2)
  have hlo := hown.lt
  have hlw := hownw.lt
  clear hown hr01
  have hs2 := Nat.le_trans hb1.size hb2.size
  have hm0 := ownsSet_made w2
  go_wp2
  go_loopw [12] (fun i wr => ∃ k : Nat, k ≤ s2.length ∧ i = .int .i64 k ∧ OwnsSet wr w2.heap.size k (s2.take k) ∧ Below w2.heap.size w2 wr) (fun i _ => s2.length - (intOf i).toNat)
  case atStart => exact ⟨0, Nat.zero_le _, rfl, hm0, (Below.refl _ _).alloc (Nat.le_refl _) _⟩
  case round =>
    obtain ⟨k, hk, rfl, hset, hbr0⟩ := hrel
    by_cases hlt : k < s2.length
    · obtain ⟨b, off, ha, hbl, hcell⟩ := h2 (by omega)
      have hcx : wr.cell? ⟨b, off + k, none⟩ = some (.string s2[k]) := by
        rw [hbr0.cell (p := ⟨b, off + k, none⟩) (Nat.lt_of_lt_of_le hbl hs2), hbw2.cell (p := ⟨b, off + k, none⟩) hbl, hcell k hlt]
        simp [List.getD, hlt]
      have hks : s2[k].size ≤ maxLen := hz2 _ (List.getElem_mem hlt)
      clear hcell
      subst ha
      go_wp2_with (at_mapUpdate; go_must (refine wpList_put rfl _ _ _ rfl w2.heap.size k (s2.take k) s2[k] rfl hset (by unfold maxLen; omega) rfl rfl hks ?_; intro w1 hown1 hgrow1))
      go_roundw
      case rel => exact ⟨k + 1, by omega, by go_num, by rw [take_snocS s2 k hlt]; exact hown1, hbr0.grown hgrow1 hbr0.size (fun j hj => by cases hj; exact Nat.le_refl _)⟩
      case measure => simp [intOf]; omega
    have hke : k = s2.length := by omega
    subst hke
    rw [List.take_length] at hset
    clear hlt hk hm0
    have hmlt := hset.lt
    have hbrs := hbr0.size
    go_wp2_with fail
    refine (newKeySet_any _ _ _ ⟨_, _, _, rfl⟩ ⟨_, rfl⟩).mono ?_
    rintro e w3 ⟨rfl, hw⟩
    have hch3 : Chg (fun k => w2.heap.size ≤ k) w2 w3 := by rw [← hw]; exact (Chg.of_below hbr0).alloc _
    have hch3' : Chg (fun _ => False) wr w3 := by rw [← hw]; exact (Chg.refl _ _).alloc _
    have hKS : KS w3 w.heap.size wr.heap.size 4096 s0 (some s2) aw cw (some w2.heap.size) := by
      refine ⟨by rw [← hw]; simp, by rw [← hw]; simp, by rw [← hw]; simp [World.frozen?_alloc_at], by rw [← hw]; simp [World.frozen?_alloc_at], by omega, ?_, ?_, by simp, fun K hK => ⟨_, rfl, hs2, ?_⟩⟩
      · have := hch3.ownsRow hownw (fun k hk => Nat.not_le.2 (hlw k hk).2)
        obtain ⟨t1, t2⟩ := this
        refine ⟨t1, ?_⟩
        rcases t2 with t2 | ⟨g, cap, cur, hv, hg, r⟩
        · exact .inl t2
        · exact .inr ⟨g, cap, cur, hv, Nat.le_trans hb1.size hg, r⟩
      · intro x hx
        subst hx
        have := (hlw x.block rfl).2
        omega
      · cases hK
        exact World.ownsMap.mono (hset.chg hch3' (fun h => h)) hl2
    clear hw hset
    have hs3 := hch3'.size
    go_wp2_with fail
    refine (zzHad_any w.heap.size wr.heap.size 4096 cw aw (some w2.heap.size) s0 (some s2) key _ hKS hl0 hl0 (by unfold maxLen; omega) hz0 hkm (by omega)).mono ?_
    rintro e w4 ⟨rfl, al, cl, mo, hK, hch4, -, -⟩
    have hold4 : w4.ownsRow w.heap.size 9 1 (.slice ao s0.length co) s0.length (s0.map Value.string) := by
      refine hch4.ownsRow (hch3.ownsRow hown2 (fun k hk => Nat.not_le.2 (Nat.lt_of_lt_of_le (hlo k hk).2 hb2.size))) (fun k hk hb => ?_)
      have h1 := (hlo k hk).2
      have hz1 := hb1.size
      have hz2' := hb2.size
      rcases hb with hb | ⟨x, hx, hb⟩ | hb
      · omega
      · subst hx
        have := (hlw x.block rfl).1
        omega
      · cases hb
        omega
    have hbw4 : Below w.heap.size w w4 := hbw2.trans (((hch3.below (B := w.heap.size) hs2 (fun k h => Nat.le_trans hs2 h))).trans (hch4.below (by omega) hKS.blocks))
    clear hKS
    rw [show hadB s0 (some s2) key = true from hwas]
    rw [show hadL s0 (some s2) key = s0 from rfl, show hadM s0 (some s2) key = some s2 from by simp [hadM, hwas]] at hK
    have hro4 : StrRow w4 ao s0 := strRow_own hold4
    go_wp2_with fail
    have hKc := hK.c0
    rw [show (s0).length = s0.length from rfl] at hKc
    refine (ksList_any _ _ _ hKc).mono ?_
    rintro e w' ⟨rfl, hw⟩
    subst hw
    go_wp2_with fail
    refine (ksMap_any _ _ _ hK.c1).mono ?_
    rintro e w' ⟨rfl, hw⟩
    subst hw
    obtain ⟨mb, hmo, -, hmap⟩ := hK.map _ rfl
    subst hmo
    go_wp2_with fail
    refine (contains_any a2 cap2 s2 key _ (by omega) (h2.below hbw4 (Nat.le_refl _))).mono ?_
    rintro e w' ⟨rfl, hw⟩
    replace hw := hw.symm
    subst hw
    rw [show hasS s2 key = true from hwas]
    have hrn4 : StrRow w4 al (s0) := strRow_own hK.own
    clear hK hKc hold4 hownw hown2
    go_wp2
    go_loopw [21] (fun i wr => ∃ k : Nat, k ≤ s0.length ∧ i = .int .i64 k ∧ Below w4.heap.size w4 wr) (fun i _ => s0.length - (intOf i).toNat)
    case atStart => exact ⟨0, Nat.zero_le _, rfl, Below.refl _ _⟩
    case round =>
      obtain ⟨k, hk, rfl, hbr⟩ := hrel
      by_cases hlt : k < s0.length
      · obtain ⟨b, off, ha, hbl, hcell⟩ := hro4 (by omega)
        obtain ⟨b', off', ha', hbl', hcell'⟩ := hrn4 (by first | omega | (simp; done) | (simp; omega))
        have hcx : wr.cell? ⟨b, off + k, none⟩ = some (.string s0[k]) := by
          rw [hbr.cell (p := ⟨b, off + k, none⟩) hbl, hcell k hlt]
          simp [List.getD, hlt]
        have hcx' : wr.cell? ⟨b', off' + k, none⟩ = some (.string s0[k]) := by
          rw [hbr.cell (p := ⟨b', off' + k, none⟩) hbl', hcell' k (by first | omega | (simp; done) | (simp; omega))]
          simp [List.getD, hlt]
        have hki : (k : Int) < (s0.length : Int) := by omega
        clear hcell hcell'
        subst ha
        subst ha'
        go_wp2
        go_quiet (fail)
        go_wp2
        go_roundw
        case rel => exact ⟨k + 1, by omega, by go_num, hbr.trans ((below_drawn _ _).mono hbr.size)⟩
        case measure => simp [intOf]; omega
      · have hbw5 : Below w.heap.size w wr := hbw4.trans (hbr.mono hbw4.size)
        have hown5 : OwnsSet wr mb (4096 + 1) (s2) := hmap.chg (Chg.of_below hbr) (Nat.not_le.2 hmap.lt)
        have hrb5 : StrRow wr a2 s2 := h2.below hbw5 (Nat.le_refl _)
        clear hmap
        go_wp2_with fail
        refine (count_any a2 cap2 s2 wr (by omega) (by omega) hrb5).mono ?_
        rintro e w6 ⟨rfl, hb6⟩
        have hown6 : OwnsSet w6 mb (4096 + 1) (s2) := hown5.chg (Chg.of_below hb6) (Nat.not_le.2 hown5.lt)
        have hrb6 : StrRow w6 a2 s2 := hrb5.below hb6 (Nat.le_refl _)
        have hbw6 : Below w.heap.size w w6 := hbw5.trans (hb6.mono hbw5.size)
        clear hown5 hrb5 hb6 hbw5
        have hdc := dd_len (s2)
        have hdk : (dd (s2)).length = (dd s2).length := rfl
        have hdk' := hide hdk
        clear hdk
        have hlook := hown6.run_look key hkm
        rw [show hasS (s2) key = true from hwas] at hlook
        go_wp2_with (first
          | (at_len; go_must (refine wpList_lenSet rfl _ rfl mb (4096 + 1) (s2) ((dd s2).length) rfl hown6 (by first | rfl | exact unhide hdk') ?_)))
        clear hlook
        go_loop [23] (fun i => ∃ k : Nat, k ≤ (s2).length ∧ i = .int .i64 k) (fun i => (s2).length - (intOf i).toNat)
        case atStart => exact ⟨0, Nat.zero_le _, rfl⟩
        case round =>
          obtain ⟨k, hk, rfl⟩ := hrel
          by_cases hlt : k < (s2).length
          · obtain ⟨b, off, ha, hbl, hcell⟩ := hrb6 (by omega)
            have hcx : w6.cell? ⟨b, off + k, none⟩ = some (.string (s2)[k]) := by
              rw [hcell k hlt]
              simp [List.getD, hlt]
            have hhas : hasS (s2) (s2)[k] = true := hasS_self hlt
            have hss : (s2)[k].size ≤ maxLen := hz2 _ (List.getElem_mem hlt)
            clear hcell
            subst ha
            go_wp2_with (at_lookup; go_must (refine wpList_look rfl _ _ rfl mb (4096 + 1) (s2) (s2)[k] rfl hown6 rfl hss true hhas ?_))
            go_round
            case rel => exact ⟨k + 1, by omega, by go_num⟩
            case measure => simp [intOf]; omega
          · go_wp2
            go_ret
            exact ⟨rfl, hbw6⟩

set_option maxRecDepth 100000 in
set_option maxHeartbeats 8000000 in
theorem add_walk_T2 (a0 : Option Addr) (cap0 : Nat) (s0 : List ByteArray) (a2 : Option Addr) (cap2 : Nat) (s2 : List ByteArray) (key : ByteArray) (w : World) (hl0 : s0.length ≤ 4096) (hl2 : s2.length ≤ 4096) (hlk : key.size ≤ 1048576) (hc0 : s0.length ≤ cap0) (hc2 : s2.length ≤ cap2) (h0 : StrRow w a0 s0) (h2 : StrRow w a2 s2)
    (hz0 : ∀ s ∈ s0, s.size ≤ maxLen) (hz2 : ∀ s ∈ s2, s.size ≤ maxLen) (hwas : hasS s2 key = false) :
    Calls Try.prog 7 #[.slice a0 s0.length cap0, .bool true, .slice a2 s2.length cap2, .string key] w fun e w' => e = .returned (.bool true) ∧ Below w.heap.size w w' := by
  have q1 := eqlNil36
  have q2 := run_makeMap_hint
  have hkm : key.size ≤ maxLen := by unfold maxLen; omega
  have hd1 : decide (4096 < (s0.length : Int)) = false := by simp; omega
  have hd2 : decide (4096 < (s2.length : Int)) = false := by simp; omega
  have hd3 : decide (1048576 < (key.size : Int)) = false := by simp; omega
  go_enter Try.func7, Try.ntmps7
  go_wp2_with fail
  refine (bytes21_any a0 cap0 s0 _ a2 cap2 s2 key w (by omega) (by omega) h0 h2).mono ?_
  rintro e w' ⟨⟨r, rfl⟩, hw⟩
  replace hw := hw.symm
  subst hw
  cases r
  · go_wp2
    go_ret
    exact ⟨rfl, Below.refl _ _⟩
  go_wp2_with fail
  refine (size_any a0 cap0 s0 _ (by omega) h0).mono ?_
  rintro e w' ⟨hw, n, rfl⟩
  replace hw := hw.symm
  subst hw
  go_wp2_with fail
  refine (size_any a2 cap2 s2 _ (by omega) h2).mono ?_
  rintro e w' ⟨hw, n2, rfl⟩
  replace hw := hw.symm
  subst hw
  go_wp2_with fail
  · go_ret
    exact ⟨rfl, Below.refl _ _⟩
  refine (clone_any a0 cap0 s0 w hl0 h0).mono ?_
  rintro e w1 ⟨ao, co, rfl, hown, hco, hb1⟩
  have hr01 : StrRow w1 a0 s0 := h0.below hb1 (Nat.le_refl _)
  go_wp2_with fail
  refine (clone_any a0 cap0 s0 w1 hl0 hr01).mono ?_
  rintro e w2 ⟨aw, cw, rfl, hownw, hcw, hb2⟩
  have hbw2 : Below w.heap.size w w2 := hb1.trans (hb2.mono hb1.size)
  have hown2 : w2.ownsRow w.heap.size 9 1 (.slice ao s0.length co) s0.length (s0.map Value.string) := (Chg.of_below hb2).ownsRow hown (fun k hk => Nat.not_le.2 (hown.lt k hk).2)
  have hlo := hown.lt
  have hlw := hownw.lt
  clear hown hr01
  have hs2 := Nat.le_trans hb1.size hb2.size
  have hm0 := ownsSet_made w2
  go_wp2
  go_loopw [12] (fun i wr => ∃ k : Nat, k ≤ s2.length ∧ i = .int .i64 k ∧ OwnsSet wr w2.heap.size k (s2.take k) ∧ Below w2.heap.size w2 wr) (fun i _ => s2.length - (intOf i).toNat)
  case atStart => exact ⟨0, Nat.zero_le _, rfl, hm0, (Below.refl _ _).alloc (Nat.le_refl _) _⟩
  case round =>
    obtain ⟨k, hk, rfl, hset, hbr0⟩ := hrel
    by_cases hlt : k < s2.length
    · obtain ⟨b, off, ha, hbl, hcell⟩ := h2 (by omega)
      have hcx : wr.cell? ⟨b, off + k, none⟩ = some (.string s2[k]) := by
        rw [hbr0.cell (p := ⟨b, off + k, none⟩) (Nat.lt_of_lt_of_le hbl hs2), hbw2.cell (p := ⟨b, off + k, none⟩) hbl, hcell k hlt]
        simp [List.getD, hlt]
      have hks : s2[k].size ≤ maxLen := hz2 _ (List.getElem_mem hlt)
      clear hcell
      subst ha
      go_wp2_with (at_mapUpdate; go_must (refine wpList_put rfl _ _ _ rfl w2.heap.size k (s2.take k) s2[k] rfl hset (by unfold maxLen; omega) rfl rfl hks ?_; intro w1 hown1 hgrow1))
      go_roundw
      case rel => exact ⟨k + 1, by omega, by go_num, by rw [take_snocS s2 k hlt]; exact hown1, hbr0.grown hgrow1 hbr0.size (fun j hj => by cases hj; exact Nat.le_refl _)⟩
      case measure => simp [intOf]; omega
    have hke : k = s2.length := by omega
    subst hke
    rw [List.take_length] at hset
    clear hlt hk hm0
    have hmlt := hset.lt
    have hbrs := hbr0.size
    go_wp2_with fail
    refine (newKeySet_any _ _ _ ⟨_, _, _, rfl⟩ ⟨_, rfl⟩).mono ?_
    rintro e w3 ⟨rfl, hw⟩
    have hch3 : Chg (fun k => w2.heap.size ≤ k) w2 w3 := by rw [← hw]; exact (Chg.of_below hbr0).alloc _
    have hch3' : Chg (fun _ => False) wr w3 := by rw [← hw]; exact (Chg.refl _ _).alloc _
    have hKS : KS w3 w.heap.size wr.heap.size 4096 s0 (some s2) aw cw (some w2.heap.size) := by
      refine ⟨by rw [← hw]; simp, by rw [← hw]; simp, by rw [← hw]; simp [World.frozen?_alloc_at], by rw [← hw]; simp [World.frozen?_alloc_at], by omega, ?_, ?_, by simp, fun K hK => ⟨_, rfl, hs2, ?_⟩⟩
      · have := hch3.ownsRow hownw (fun k hk => Nat.not_le.2 (hlw k hk).2)
        obtain ⟨t1, t2⟩ := this
        refine ⟨t1, ?_⟩
        rcases t2 with t2 | ⟨g, cap, cur, hv, hg, r⟩
        · exact .inl t2
        · exact .inr ⟨g, cap, cur, hv, Nat.le_trans hb1.size hg, r⟩
      · intro x hx
        subst hx
        have := (hlw x.block rfl).2
        omega
      · cases hK
        exact World.ownsMap.mono (hset.chg hch3' (fun h => h)) hl2
    clear hw hset
    have hs3 := hch3'.size
    go_wp2_with fail
    refine (zzHad_any w.heap.size wr.heap.size 4096 cw aw (some w2.heap.size) s0 (some s2) key _ hKS hl0 hl0 (by unfold maxLen; omega) hz0 hkm (by omega)).mono ?_
    rintro e w4 ⟨rfl, al, cl, mo, hK, hch4, -, -⟩
    have hold4 : w4.ownsRow w.heap.size 9 1 (.slice ao s0.length co) s0.length (s0.map Value.string) := by
      refine hch4.ownsRow (hch3.ownsRow hown2 (fun k hk => Nat.not_le.2 (Nat.lt_of_lt_of_le (hlo k hk).2 hb2.size))) (fun k hk hb => ?_)
      have h1 := (hlo k hk).2
      have hz1 := hb1.size
      have hz2' := hb2.size
      rcases hb with hb | ⟨x, hx, hb⟩ | hb
      · omega
      · subst hx
        have := (hlw x.block rfl).1
        omega
      · cases hb
        omega
    have hbw4 : Below w.heap.size w w4 := hbw2.trans (((hch3.below (B := w.heap.size) hs2 (fun k h => Nat.le_trans hs2 h))).trans (hch4.below (by omega) hKS.blocks))
    clear hKS
    rw [show hadB s0 (some s2) key = false from hwas]
    rw [show hadL s0 (some s2) key = s0 from rfl, show hadM s0 (some s2) key = some (s2 ++ [key]) from by simp [hadM, hwas]] at hK
    have hro4 : StrRow w4 ao s0 := strRow_own hold4
    go_wp2_with fail
    have hKc := hK.c0
    rw [show (s0).length = s0.length from rfl] at hKc
    refine (ksList_any _ _ _ hKc).mono ?_
    rintro e w' ⟨rfl, hw⟩
    subst hw
    go_wp2_with fail
    refine (ksMap_any _ _ _ hK.c1).mono ?_
    rintro e w' ⟨rfl, hw⟩
    subst hw
    obtain ⟨mb, hmo, -, hmap⟩ := hK.map _ rfl
    subst hmo
    go_wp2_with fail
    refine (contains_any a2 cap2 s2 key _ (by omega) (h2.below hbw4 (Nat.le_refl _))).mono ?_
    rintro e w' ⟨rfl, hw⟩
    replace hw := hw.symm
    subst hw
    rw [show hasS s2 key = false from hwas]
    have hrn4 : StrRow w4 al (s0) := strRow_own hK.own
    clear hK hKc hold4 hownw hown2
    go_wp2
    go_loopw [21] (fun i wr => ∃ k : Nat, k ≤ s0.length ∧ i = .int .i64 k ∧ Below w4.heap.size w4 wr) (fun i _ => s0.length - (intOf i).toNat)
    case atStart => exact ⟨0, Nat.zero_le _, rfl, Below.refl _ _⟩
    case round =>
      obtain ⟨k, hk, rfl, hbr⟩ := hrel
      by_cases hlt : k < s0.length
      · obtain ⟨b, off, ha, hbl, hcell⟩ := hro4 (by omega)
        obtain ⟨b', off', ha', hbl', hcell'⟩ := hrn4 (by first | omega | (simp; done) | (simp; omega))
        have hcx : wr.cell? ⟨b, off + k, none⟩ = some (.string s0[k]) := by
          rw [hbr.cell (p := ⟨b, off + k, none⟩) hbl, hcell k hlt]
          simp [List.getD, hlt]
        have hcx' : wr.cell? ⟨b', off' + k, none⟩ = some (.string s0[k]) := by
          rw [hbr.cell (p := ⟨b', off' + k, none⟩) hbl', hcell' k (by first | omega | (simp; done) | (simp; omega))]
          simp [List.getD, hlt]
        have hki : (k : Int) < (s0.length : Int) := by omega
        clear hcell hcell'
        subst ha
        subst ha'
        go_wp2
        go_quiet (fail)
        go_wp2
        go_roundw
        case rel => exact ⟨k + 1, by omega, by go_num, hbr.trans ((below_drawn _ _).mono hbr.size)⟩
        case measure => simp [intOf]; omega
      · have hbw5 : Below w.heap.size w wr := hbw4.trans (hbr.mono hbw4.size)
        have hown5 : OwnsSet wr mb (4096 + 1) (s2 ++ [key]) := hmap.chg (Chg.of_below hbr) (Nat.not_le.2 hmap.lt)
        have hrb5 : StrRow wr a2 s2 := h2.below hbw5 (Nat.le_refl _)
        clear hmap
        go_wp2_with fail
        refine (count_any a2 cap2 s2 wr (by omega) (by omega) hrb5).mono ?_
        rintro e w6 ⟨rfl, hb6⟩
        have hown6 : OwnsSet w6 mb (4096 + 1) (s2 ++ [key]) := hown5.chg (Chg.of_below hb6) (Nat.not_le.2 hown5.lt)
        have hrb6 : StrRow w6 a2 s2 := hrb5.below hb6 (Nat.le_refl _)
        have hbw6 : Below w.heap.size w w6 := hbw5.trans (hb6.mono hbw5.size)
        clear hown5 hrb5 hb6 hbw5
        have hdc := dd_len (s2)
        have hdk : (dd (s2 ++ [key])).length = (dd s2).length + 1 := by rw [dd_snoc, dstep_len, hasS_dd, hwas]; rfl
        have hdk' := hide hdk
        clear hdk
        have hlook := hown6.run_look key hkm
        rw [show hasS (s2 ++ [key]) key = true from hasS_last _ _] at hlook
        go_wp2_with (first
          | (at_len; go_must (refine wpList_lenSet rfl _ rfl mb (4096 + 1) (s2 ++ [key]) ((dd s2).length + 1) rfl hown6 (by first | rfl | exact unhide hdk') ?_)))
        clear hlook
        go_loop [23] (fun i => ∃ k : Nat, k ≤ (s2).length ∧ i = .int .i64 k) (fun i => (s2).length - (intOf i).toNat)
        case atStart => exact ⟨0, Nat.zero_le _, rfl⟩
        case round =>
          obtain ⟨k, hk, rfl⟩ := hrel
          by_cases hlt : k < (s2).length
          · obtain ⟨b, off, ha, hbl, hcell⟩ := hrb6 (by omega)
            have hcx : w6.cell? ⟨b, off + k, none⟩ = some (.string (s2)[k]) := by
              rw [hcell k hlt]
              simp [List.getD, hlt]
            have hhas : hasS (s2 ++ [key]) (s2)[k] = true := hasS_left (hasS_self hlt)
            have hss : (s2)[k].size ≤ maxLen := hz2 _ (List.getElem_mem hlt)
            clear hcell
            subst ha
            go_wp2_with (at_lookup; go_must (refine wpList_look rfl _ _ rfl mb (4096 + 1) (s2 ++ [key]) (s2)[k] rfl hown6 rfl hss true hhas ?_))
            go_round
            case rel => exact ⟨k + 1, by omega, by go_num⟩
            case measure => simp [intOf]; omega
          · go_wp2
            go_ret
            exact ⟨rfl, hbw6⟩

end Go.Proofs.Qxb6605386a
