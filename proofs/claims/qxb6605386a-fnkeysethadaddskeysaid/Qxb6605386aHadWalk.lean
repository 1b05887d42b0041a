import Derived.Test.Qxb6605386aHad
namespace Go.Proofs.Qxb6605386a
open Go.RowKit Go.Maps Go.WideMaps

theorem eqlNil36 (w : World) (r : Option Nat) : (binOp .eql 36 (.map r) (.map none)).run Try.prog w = .ok (.bool r.isNone) w := run_eql_map_nil w _ _ _ r Try.underlying36
theorem neqNil36 (w : World) (r : Option Nat) : (binOp .neq 36 (.map r) (.map none)).run Try.prog w = .ok (.bool (!r.isNone)) w := run_neq_map_nil w _ _ _ r Try.underlying36

theorem had_map_yes (sb mb n : Nat) (K : List ByteArray) (key : ByteArray) (w : World) (hk : key.size ≤ maxLen) (c1 : w.cell? ⟨sb, 1, none⟩ = some (.map (some mb))) (hown : OwnsSet w mb n K)
    (hh : hasS K key = true) :
    Calls Try.prog 38 #[.pointer (some ⟨sb, 0, none⟩), .string key] w fun e w' => e = .returned (.bool true) ∧ w' = w := by
  have q := eqlNil36
  go_enter Try.func38, Try.ntmps38
  go_wp2_with (at_lookup; refine wpList_look rfl _ _ rfl mb n K key rfl hown rfl hk true hh ?_)
  go_ret
  exact ⟨rfl, rfl⟩

theorem had_map_no (sb mb n : Nat) (K : List ByteArray) (key : ByteArray) (w : World) (hk : key.size ≤ maxLen) (c1 : w.cell? ⟨sb, 1, none⟩ = some (.map (some mb))) (hown : OwnsSet w mb n K)
    (hn : n < maxLen) (hh : hasS K key = false) :
    Calls Try.prog 38 #[.pointer (some ⟨sb, 0, none⟩), .string key] w fun e w' => e = .returned (.bool false) ∧ OwnsSet w' mb (n + 1) (K ++ [key]) ∧ w.grownBy w' (some mb) := by
  have q := eqlNil36
  go_enter Try.func38, Try.ntmps38
  go_wp2_with (first
    | (at_lookup; refine wpList_look rfl _ _ rfl mb n K key rfl hown rfl hk false hh ?_)
    | (at_mapUpdate; refine wpList_put rfl _ _ _ rfl mb n K key rfl hown hn rfl rfl hk ?_; intro w1 hown1 hgrow1))
  go_ret
  exact ⟨rfl, hown1, hgrow1⟩

/-- the list, and no map: the key is there -/
theorem had_list_yes (sb cap : Nat) (ao : Option Addr) (L : List ByteArray) (key : ByteArray) (w : World) (hL : L.length ≤ 4096) (c0 : w.cell? ⟨sb, 0, none⟩ = some (.slice ao L.length cap)) (c1 : w.cell? ⟨sb, 1, none⟩ = some (.map none))
    (hrow : StrRow w ao L) (hh : hasS L key = true) :
    Calls Try.prog 38 #[.pointer (some ⟨sb, 0, none⟩), .string key] w fun e w' => e = .returned (.bool true) ∧ w' = w := by
  have q := eqlNil36
  go_enter Try.func38, Try.ntmps38
  go_wp2_with (go_at_call 43; refine (sliceContains_any ao cap L key w (by omega) hrow).mono ?_; rintro e w' ⟨rfl, rfl⟩)
  go_ret
  exact ⟨rfl, rfl⟩

/-- what an own row of strings reads as -/
theorem strRow_own {w : World} {base : Nat} {ao : Option Addr} {cap : Nat} {L : List ByteArray} (h : w.ownsRow base 9 1 (.slice ao L.length cap) L.length (L.map Value.string)) : StrRow w ao L := by
  intro h0
  have hlt := h.lt
  obtain ⟨g, cap', e, _, _⟩ := h.form h0
  simp only [Value.slice.injEq] at e
  obtain ⟨rfl, _, rfl⟩ := e
  refine ⟨g, 0, rfl, (hlt g rfl).2, fun j hj => ?_⟩
  rw [Nat.zero_add, h.cellAt j (by omega)]
  simp [hj]

theorem oneCell_str (s : ByteArray) : ∀ u ∈ [Value.string s], u.oneCell' = true := by
  intro u hu
  simp at hu
  subst hu
  rfl

theorem lt_of_cell {w : World} {a : Addr} {v : Value} (h : w.cell? a = some v) : a.block < w.heap.size := by
  rcases Nat.lt_or_ge a.block w.heap.size with hlt | hge
  · exact hlt
  · simp [World.cell?, Array.getElem?_eq_none hge] at h

/-- the list, and no map: the key is new, there is room -/
theorem had_list_add (base sb cap : Nat) (ao : Option Addr) (L : List ByteArray) (key : ByteArray) (w : World) (hL : L.length < 16) (c0 : w.cell? ⟨sb, 0, none⟩ = some (.slice ao L.length cap)) (f0 : w.frozen? ⟨sb, 0, none⟩ = false) (c1 : w.cell? ⟨sb, 1, none⟩ = some (.map none))
    (hown : w.ownsRow base 9 1 (.slice ao L.length cap) L.length (L.map Value.string)) (hne : some sb ≠ (Value.slice ao L.length cap).ownBlock) (hbase : base ≤ w.heap.size) (hh : hasS L key = false) :
    Calls Try.prog 38 #[.pointer (some ⟨sb, 0, none⟩), .string key] w fun e w' => e = .returned (.bool false) ∧ ∃ g cap' w1, w' = w1.setCell ⟨sb, 0, none⟩ (.slice (some ⟨g, 0, none⟩) (L.length + 1) cap') ∧ w1.ownsRow base 9 1 (.slice (some ⟨g, 0, none⟩) (L.length + 1) cap') (L.length + 1) (L.map Value.string ++ [Value.string key]) ∧
      (w.alloc (.cells #[.string key] 9)).grownBy w1 (Value.slice ao L.length cap).ownBlock ∧ ((Value.slice ao L.length cap).ownBlock = some g ∨ g = w.heap.size + 1) ∧ g < w1.heap.size := by
  have q := eqlNil36
  have hrow := strRow_own hown
  have hsb : sb < w.heap.size := lt_of_cell c0
  obtain ⟨i0, hi, hz0, hz1, hz2⟩ := info_parts info9
  go_enter Try.func38, Try.ntmps38
  go_wp2_with (first
    | (go_at_call 43; refine (sliceContains_any ao cap L key w (by omega) hrow).mono ?_; rintro e w' ⟨rfl, hw⟩; replace hw := hw.symm; subst hw)
    | (at_builtin; go_must (refine wpList_append_lies _ rfl (.tmp 28) (.tmp 30) 32 rfl base 9 i0 (.string ByteArray.empty) 1 16 Try.underlying32 hi hz0 hz1 hz2 rfl (by decide) _ _ _ rfl (hown.alloc _) ⟨w.heap.size, 0, none⟩ 1 1 [.string key] rfl rfl (cell_one_new _ _ _) (oneCell_str key) (by decide) (by unfold maxLen; omega) (by omega) (by simp; omega) (w.heap.size + 1) (by simp) ?_; intro g cap' w1 hown' hgrow hat hlt)
       have d0 : w1.cell? ⟨sb, 0, none⟩ = some (.slice ao L.length cap) := by rw [hgrow.cell_far ⟨sb, 0, none⟩ (by simp; omega) hne]; simpa [World.cell?_alloc_past, hsb] using c0
       have d1 : w1.frozen? ⟨sb, 0, none⟩ = false := by rw [hgrow.frozen_far ⟨sb, 0, none⟩ (by simp; omega) hne, frozen?_alloc_cells]; exact f0))
  go_ret
  exact ⟨rfl, g, cap', w1, rfl, hown', hgrow, hat, hlt⟩

end Go.Proofs.Qxb6605386a
