import Derived.Test.Qxb6605519aDoorVal
namespace Go.Proofs.Qxb6605519aDoor
open Go.Shelf Go.RowKit Go.Sort Go.Lib

set_option maxHeartbeats 4000000 in
theorem value_neg (fr st cn wd i v : Int) (hv : wrap64 (fr + wrap64 (i * st)) = v) (h0 : -9223372036854775808 ≤ v) (h1 : v < 0) (w0 : -65536 ≤ wd) (w1 : wd ≤ 65536) (w : World)
    (htab : Lib.TabIs Tryd.prog w "internal/strconv.uint64pow10" .u64 Lib.pow10Tab) (E : List UInt8) (hD : 45 :: E = itoa v) (z : Nat) (hz : z = (wd - (E.length + 1)).toNat) :
    Calls Tryd.prog 10 #[.agg #[.bool false, .int .i64 fr, .int .i64 st, .int .i64 cn, .int .i64 wd], .slice none 0 0, .int .i64 i] w (Gives w (45 :: (List.replicate z 48 ++ E))) := by
  have hl := itoa_le v h0 (by omega)
  have hpos : 0 < E.length := by
    have hE : (45 :: E).length = (itoa v).length := by rw [hD]
    unfold itoa at hE
    rw [if_pos (by omega), List.length_cons, List.length_cons, decDigits_length] at hE
    have := nDigits_pos v.natAbs
    omega
  have hT : Lib.TabBelow Tryd.prog w.heap.size ((w.alloc (.cells #[.bool false, .int .i64 fr, .int .i64 st, .int .i64 cn, .int .i64 wd] 32)).alloc (.cells (Array.replicate 20 (.int .u8 0)) 37)) "internal/strconv.uint64pow10" .u64 Lib.pow10Tab := (Lib.tabBelow_of_tabIs htab).on (((Below.refl _ _).alloc (Nat.le_refl _) _).alloc (by simp) _)
  have hr0 : ((w.alloc (.cells #[.bool false, .int .i64 fr, .int .i64 st, .int .i64 cn, .int .i64 wd] 32)).alloc (.cells (Array.replicate 20 (.int .u8 0)) 37)).rowIs (w.heap.size + 1) 37 20 (fun _ => .int .u8 0) := by
    have := World.rowIs_alloc (w.alloc (.cells #[.bool false, .int .i64 fr, .int .i64 st, .int .i64 cn, .int .i64 wd] 32)) (Array.replicate 20 (.int .u8 0)) 37 (fun _ => .int .u8 0) (fun i hi => by simp at hi; simp [hi])
    simpa using this
  have hc0 : ((w.alloc (.cells #[.bool false, .int .i64 fr, .int .i64 st, .int .i64 cn, .int .i64 wd] 32)).alloc (.cells (Array.replicate 20 (.int .u8 0)) 37)).cell? ⟨w.heap.size, 4, none⟩ = some (.int .i64 wd) := by
    rw [World.cell?_alloc_past]
    · simp
    · simp
  have hcall := appendInt_room w.heap.size (w.heap.size + 1) v h0 (by omega) (fun _ => .int .u8 0) _ hr0 (by omega) hT
  have hb0 : Below w.heap.size w ((w.alloc (.cells #[.bool false, .int .i64 fr, .int .i64 st, .int .i64 cn, .int .i64 wd] 32)).alloc (.cells (Array.replicate 20 (.int .u8 0)) 37)) := ((Below.refl _ _).alloc (Nat.le_refl _) _).alloc (by simp) _
  have hs0 : ((w.alloc (.cells #[.bool false, .int .i64 fr, .int .i64 st, .int .i64 cn, .int .i64 wd] 32)).alloc (.cells (Array.replicate 20 (.int .u8 0)) 37)).heap.size = w.heap.size + 2 := by simp
  rw [← hD] at hcall hl
  rw [List.length_cons] at hcall hl
  have HZ := hide hz
  have HD := hide hD
  clear hT hr0 hz hD
  have HC := hide hc0
  have HS := hide (And.intro hb0 hs0)
  clear hc0 hb0 hs0
  obtain ⟨i0, hi, hz0, hz1, hz2⟩ := info_parts info5
  go_enter Tryd.func10, Tryd.ntmps10
  go_wp2_with fail
  refine hcall.mono ?_
  rintro e w2 ⟨rfl, hrow2, hch2⟩
  obtain ⟨hb0, hs0⟩ := unhide HS
  have hc2 : w2.cell? ⟨w.heap.size, 4, none⟩ = some (.int .i64 wd) := by
    rw [hch2.cell (p := ⟨w.heap.size, 4, none⟩) (by rw [hs0]; simp) (by simp)]
    exact unhide HC
  have hb2 : Below w.heap.size w w2 := hb0.trans (hch2.below hb0.size (fun k hk => by omega))
  have hs2 : w.heap.size + 2 ≤ w2.heap.size := by have := hch2.size; omega
  clear hb0 hs0 hch2 hcall HC HS
  have HB := hide hb2
  have HR := hide hrow2
  clear hb2 hrow2
  have h1E : (1 : Int) ≤ (E.length : Int) + 1 := by omega
  go_wp2
  go_region_law (refine step_append_lies _ rfl (.tmp 35) (.tmp 36) 22 rfl w2.heap.size 5 i0 (.int .u8 0) 1 1 Tryd.underlying22 hi hz0 hz1 hz2 rfl (by decide) _ 0 [] (by simp [Act.eval]) (World.ownsRow_nil _ _ _ _) ⟨w2.heap.size, 0, none⟩ 1 1 [.int .u8 45] (by simp [Act.eval]) rfl (cell_one_new w2 (.int .u8 45) 5 _ rfl) (fun u hu => by simp at hu; subst hu; rfl) (by decide) (by unfold maxLen; omega) (by omega) (by simp) (w2.heap.size + 1) (by simp) ?_; intro g cap' w3 hown' hgrow hat hlt)
  have HO := hide hown'
  clear hown'
  have hb3 : Below w2.heap.size w2 w3 := ((Below.refl _ w2).drew.alloc (Nat.le_refl _) _).grown hgrow (by simp) (fun k hk => by cases hk)
  simp [Act.put]
  go_wp2
  go_loopw [1, 10] (fun b zz wr => ∃ k : Nat, k ≤ z ∧ zz = .int .i64 (wd - (E.length + 1) - k) ∧ wr.ownsRow w2.heap.size 5 1 b (1 + k) (.int .u8 45 :: List.replicate k (.int .u8 48)) ∧ Below w2.heap.size w2 wr) (fun _ zz _ => (Go.RowKit.intOf zz).toNat)
  case atStart => exact ⟨0, Nat.zero_le _, by simp, unhide HO, hb3⟩
  case round =>
    clear hb3 HO
    obtain ⟨k, hk, rfl, hown, hbr⟩ := hrel
    have hz := unhide HZ
    by_cases hgt : 0 < wd - (E.length + 1) - k
    · have hwb : w2.heap.size ≤ wr.heap.size := hbr.size
      have hkz : k + 1 ≤ z := by omega
      have hz64 : z ≤ 65536 := by omega
      clear hz
      go_wp2_with (at_builtin; go_must (refine wpList_append_lies _ rfl (.tmp 44) (.tmp 45) 22 rfl w2.heap.size 5 i0 (.int .u8 0) 1 1 Tryd.underlying22 hi hz0 hz1 hz2 rfl (by decide) _ _ _ rfl (hown.alloc _) ⟨wr.heap.size, 0, none⟩ 1 1 [.int .u8 48] rfl rfl (cell_one_new _ _ _ _ rfl) (fun u hu => by simp at hu; subst hu; rfl) (by decide) (by unfold maxLen; omega) (by omega) (by simp; omega) (wr.heap.size + 1) (by simp) ?_; intro g cap' w3 hown' hgrow hat hlt))
      have hb3 : Below w2.heap.size w2 w3 := (hbr.alloc hwb _).grown hgrow (by simp; omega) (fun k hk => (hown.lt k hk).1)
      go_wp2
      go_roundw
      case rel =>
        refine ⟨k + 1, hkz, by go_num, ?_, hb3⟩
        rw [List.replicate_succ', ← List.cons_append]
        exact hown'
      case measure => simp [Go.RowKit.intOf]; omega
    · have hkz : k = z := by omega
      subst hkz
      have hz64 : k ≤ 65536 := by omega
      clear hz
      have hwb : w2.heap.size ≤ wr.heap.size := hbr.size
      have hrow3 : wr.rowIs (w.heap.size + 1) 37 20 (laidAt (fun _ => .int .u8 0) 0 (45 :: E)) := (unhide HR).of_block (hbr.block _ (by omega))
      have hnews : ∀ j u, (E.map bcell)[j]? = some u → wr.cell? ((⟨w.heap.size + 1, 1, none⟩ : Addr).add j) = some u := by
        intro j u hj
        have hjl : j < E.length := by have := (List.getElem?_eq_some_iff.1 hj).1; simpa using this
        rw [Lib.add_plain, hrow3.cell (by omega)]
        unfold laidAt
        rw [if_pos (by simp; omega)]
        rw [List.getElem?_map, List.getElem?_eq_getElem hjl] at hj
        simp only [Option.map_some, Option.some.injEq] at hj
        rw [← hj]
        have e : 1 + j - 0 = j + 1 := by omega
        rw [e]
        simp [List.getD, hjl]
      go_wp2_with (at_builtin; go_must (refine wpList_append_lies _ rfl (.tmp 47) (.tmp 48) 22 rfl w2.heap.size 5 i0 (.int .u8 0) 1 1 Tryd.underlying22 hi hz0 hz1 hz2 rfl (by decide) _ _ _ rfl hown ⟨w.heap.size + 1, 1, none⟩ E.length 19 (E.map bcell) rfl (by simp) hnews (bcell_one E) hpos (by unfold maxLen; omega) (by omega) hwb wr.heap.size rfl ?_; intro g cap' w3 hown' hgrow hat hlt))
      have hb3 : Below w2.heap.size w2 w3 := hbr.grown hgrow hwb (fun k hk => (hown.lt k hk).1)
      go_wp2
      go_ret
      have hb2 := unhide HB
      have e1 : .int .u8 45 :: List.replicate k (Value.int .u8 48) ++ E.map bcell = (45 :: (List.replicate k (48 : UInt8) ++ E)).map bcell := by simp [bcell]
      have e2 : 1 + k + E.length = (45 :: (List.replicate k (48 : UInt8) ++ E)).length := by simp; omega
      rw [e1, e2] at hown'
      obtain ⟨a, cap2, hv2, hbr2⟩ := brow_of_owns hown' (by simp)
      simp only [Value.slice.injEq, true_and] at hv2
      obtain ⟨rfl, rfl⟩ := hv2
      refine ⟨_, cap', ?_, hbr2, hb2.trans (hb3.mono hb2.size)⟩
      rw [← e2]
      rfl

end Go.Proofs.Qxb6605519aDoor
