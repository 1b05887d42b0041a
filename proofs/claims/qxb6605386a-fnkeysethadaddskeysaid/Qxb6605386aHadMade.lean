import Derived.Test.Qxb6605386aHadWalk
namespace Go.Proofs.Qxb6605386a
open Go.RowKit Go.Maps Go.WideMaps

theorem StrRow.chg {S : Nat → Prop} {w w' : World} {a : Option Addr} {ss : List ByteArray} (h : StrRow w a ss) (hc : Chg S w w') (hs : ∀ x, a = some x → ¬ S x.block) : StrRow w' a ss := by
  intro h0
  obtain ⟨b, off, ha, hlt, hcell⟩ := h h0
  exact ⟨b, off, ha, Nat.lt_of_lt_of_le hlt hc.size, fun j hj => by rw [← hcell j hj]; exact hc.cell (p := ⟨b, off + j, none⟩) hlt (hs ⟨b, off, none⟩ ha)⟩

theorem OwnsSet.chg {S : Nat → Prop} {w w' : World} {mb n : Nat} {K : List ByteArray} (h : OwnsSet w mb n K) (hc : Chg S w w') (hs : ¬ S mb) : OwnsSet w' mb n K := hc.ownsMap h hs

theorem OwnsSet.lt {w : World} {mb n : Nat} {K : List ByteArray} (h : OwnsSet w mb n K) : mb < w.heap.size := World.ownsMap.lt h

set_option maxHeartbeats 800000 in
/-- the list is full, and no map: a map is made -/
theorem had_list_full (sb cap : Nat) (ao : Option Addr) (L : List ByteArray) (key : ByteArray) (w : World) (hL : 16 ≤ L.length) (hL2 : L.length ≤ 4096) (hsz : ∀ s ∈ L, s.size ≤ maxLen) (hkey : key.size ≤ maxLen)
    (c0 : w.cell? ⟨sb, 0, none⟩ = some (.slice ao L.length cap)) (c1 : w.cell? ⟨sb, 1, none⟩ = some (.map none)) (f0 : w.frozen? ⟨sb, 0, none⟩ = false) (f1 : w.frozen? ⟨sb, 1, none⟩ = false)
    (hrow : StrRow w ao L) (hne : ∀ x, ao = some x → x.block ≠ sb) (hh : hasS L key = false) :
    Calls Try.prog 38 #[.pointer (some ⟨sb, 0, none⟩), .string key] w fun e w' => e = .returned (.bool false) ∧ OwnsSet w' w.heap.size (L.length + 1) (L ++ [key]) ∧ w'.cell? ⟨sb, 0, none⟩ = some (.slice ao L.length cap) ∧
      w'.cell? ⟨sb, 1, none⟩ = some (.map (some w.heap.size)) ∧ w'.frozen? ⟨sb, 0, none⟩ = false ∧ w'.frozen? ⟨sb, 1, none⟩ = false ∧ Chg (fun k => k = sb) w w' := by
  have q := eqlNil36
  have mk := run_makeMap_hint
  have hsb : sb < w.heap.size := lt_of_cell c0
  obtain ⟨b, off, rfl, hb, hcell⟩ := hrow (by omega)
  have hbs : b ≠ sb := hne _ rfl
  have hd16 : decide ((L.length : Int) < 16) = false := by simp; omega
  clear hne
  go_enter Try.func38, Try.ntmps38
  go_wp2_with (go_at_call 43; refine (sliceContains_any _ cap L key w (by omega) hrow).mono ?_; rintro e w' ⟨rfl, hw⟩; replace hw := hw.symm; subst hw)
  have hm0 : OwnsSet ((w.setCell ⟨sb, 1, none⟩ (.map (some w.heap.size))).alloc (.map #[] 0)) w.heap.size 0 [] := by
    have := ownsSet_made (w.setCell ⟨sb, 1, none⟩ (.map (some w.heap.size)))
    rwa [show (w.setCell ⟨sb, 1, none⟩ (.map (some w.heap.size))).heap.size = w.heap.size by simp [World.setCell]] at this
  go_loopw [43] (fun i wr => ∃ k : Nat, k ≤ L.length ∧ i = .int .i64 k ∧ OwnsSet wr w.heap.size k (L.take k) ∧ wr.cell? ⟨sb, 0, none⟩ = some (.slice (some ⟨b, off, none⟩) L.length cap) ∧
      wr.cell? ⟨sb, 1, none⟩ = some (.map (some w.heap.size)) ∧ wr.frozen? ⟨sb, 0, none⟩ = false ∧ wr.frozen? ⟨sb, 1, none⟩ = false ∧ Chg (fun k => k = sb) w wr) (fun i _ => L.length - (intOf i).toNat)
  case atStart =>
    have hs2 : sb < (w.setCell ⟨sb, 1, none⟩ (.map (some w.heap.size))).heap.size := by simpa [World.setCell] using hsb
    refine ⟨0, Nat.zero_le _, rfl, hm0, ?_, ?_, ?_, ?_, ((Chg.refl (fun k => k = sb) w).setCell (p := ⟨sb, 1, none⟩) (fun _ => rfl) _).alloc _⟩
    · rw [World.cell?_alloc_past _ _ _ hs2, cell_setCell_other (by simp)]; exact c0
    · rw [World.cell?_alloc_past _ _ _ hs2]; exact cell_setCell_same c1
    · rw [World.frozen?_alloc_past _ _ _ hs2, World.frozen?_setCell]; exact f0
    · rw [World.frozen?_alloc_past _ _ _ hs2, World.frozen?_setCell]; exact f1
  case round =>
    obtain ⟨k, hk, rfl, hown, d0, d1, e0, e1, hch⟩ := hrel
    by_cases hlt : k < L.length
    · have hcx : wr.cell? ⟨b, off + k, none⟩ = some (.string L[k]) := by
        rw [hch.cell (p := ⟨b, off + k, none⟩) hb hbs, hcell k hlt]
        simp [List.getD, hlt]
      have hks : L[k].size ≤ maxLen := hsz _ (List.getElem_mem hlt)
      go_wp2_with (at_mapUpdate; go_must (refine wpList_put rfl _ _ _ rfl w.heap.size k (L.take k) L[k] rfl hown (by unfold maxLen; omega) rfl rfl hks ?_; intro w1 hown1 hgrow1))
      have hsbm : some sb ≠ some w.heap.size := by simp; omega
      have hsr : sb < wr.heap.size := Nat.lt_of_lt_of_le hsb hch.size
      go_roundw
      case rel =>
        refine ⟨k + 1, by omega, by go_num, by rw [take_snocS L k hlt]; exact hown1, ?_, ?_, ?_, ?_, hch.grown hgrow1 (fun j hj hl => by cases hj; omega)⟩
        · rw [hgrow1.cell_far ⟨sb, 0, none⟩ hsr hsbm]; exact d0
        · rw [hgrow1.cell_far ⟨sb, 1, none⟩ hsr hsbm]; exact d1
        · rw [hgrow1.frozen_far ⟨sb, 0, none⟩ hsr hsbm]; exact e0
        · rw [hgrow1.frozen_far ⟨sb, 1, none⟩ hsr hsbm]; exact e1
      case measure => simp [intOf]; omega
    · have hke : k = L.length := by omega
      subst hke
      rw [List.take_length] at hown
      go_wp2_with (first
        | (at_lookup; go_must (refine wpList_look rfl _ _ rfl w.heap.size L.length L key rfl hown rfl hkey false hh ?_))
        | (at_mapUpdate; go_must (refine wpList_put rfl _ _ _ rfl w.heap.size L.length L key rfl hown (by unfold maxLen; omega) rfl rfl hkey ?_; intro w1 hown1 hgrow1)))
      have hsbm : some sb ≠ some w.heap.size := by simp; omega
      have hsr : sb < wr.heap.size := Nat.lt_of_lt_of_le hsb hch.size
      go_ret
      refine ⟨rfl, hown1, ?_, ?_, ?_, ?_, hch.grown hgrow1 (fun j hj hl => by cases hj; omega)⟩
      · rw [hgrow1.cell_far ⟨sb, 0, none⟩ hsr hsbm]; exact d0
      · rw [hgrow1.cell_far ⟨sb, 1, none⟩ hsr hsbm]; exact d1
      · rw [hgrow1.frozen_far ⟨sb, 0, none⟩ hsr hsbm]; exact e0
      · rw [hgrow1.frozen_far ⟨sb, 1, none⟩ hsr hsbm]; exact e1

end Go.Proofs.Qxb6605386a
