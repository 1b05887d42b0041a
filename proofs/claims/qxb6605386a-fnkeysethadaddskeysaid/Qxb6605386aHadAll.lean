import Derived.Test.Qxb6605386aHadMade
namespace Go.Proofs.Qxb6605386a
open Go.RowKit Go.Maps Go.WideMaps

/-- what a keySet at block sb holds: the list L; no map (none), or a map of the keys K (some K) -/
structure KS (w : World) (base sb N : Nat) (L : List ByteArray) (M : Option (List ByteArray)) (ao : Option Addr) (cap : Nat) (mo : Option Nat) : Prop where
  c0 : w.cell? ⟨sb, 0, none⟩ = some (.slice ao L.length cap)
  c1 : w.cell? ⟨sb, 1, none⟩ = some (.map mo)
  f0 : w.frozen? ⟨sb, 0, none⟩ = false
  f1 : w.frozen? ⟨sb, 1, none⟩ = false
  hsb : base ≤ sb
  own : w.ownsRow base 9 1 (.slice ao L.length cap) L.length (L.map Value.string)
  ne : ∀ x, ao = some x → x.block ≠ sb
  nomap : M = none → mo = none
  map : ∀ K, M = some K → ∃ mb, mo = some mb ∧ base ≤ mb ∧ OwnsSet w mb N K

/-- the blocks of a keySet -/
def ksBlocks (sb : Nat) (ao : Option Addr) (mo : Option Nat) (k : Nat) : Prop := k = sb ∨ (∃ x, ao = some x ∧ k = x.block) ∨ mo = some k

def hadB (L : List ByteArray) (M : Option (List ByteArray)) (key : ByteArray) : Bool :=
  match M with
  | none => hasS L key
  | some K => hasS K key
def hadL (L : List ByteArray) (M : Option (List ByteArray)) (key : ByteArray) : List ByteArray :=
  match M with
  | none => if hasS L key then L else if L.length < 16 then L ++ [key] else L
  | some _ => L
def hadM (L : List ByteArray) (M : Option (List ByteArray)) (key : ByteArray) : Option (List ByteArray) :=
  match M with
  | none => if hasS L key then none else if L.length < 16 then none else some (L ++ [key])
  | some K => if hasS K key then some K else some (K ++ [key])

theorem ownsSet_ne_cells {w : World} {mb n : Nat} {K : List ByteArray} (h : OwnsSet w mb n K) {a : Addr} {v : Value} (hc : w.cell? a = some v) : a.block ≠ mb := by
  intro e
  obtain ⟨es, clock, hb, _⟩ := h
  subst e
  simp [World.cell?, hb] at hc

theorem ownBlock_some {ao : Option Addr} {n cap k : Nat} (h : (Value.slice ao n cap).ownBlock = some k) : ∃ x, ao = some x ∧ k = x.block := by
  cases ao with
  | none => simp [Value.ownBlock] at h
  | some x => exact ⟨x, rfl, by simpa [Value.ownBlock] using h.symm⟩

theorem own_ne_map {w : World} {base mb N : Nat} {K L : List ByteArray} {ao : Option Addr} {cap : Nat} (ho : w.ownsRow base 9 1 (.slice ao L.length cap) L.length (L.map Value.string)) (hm : OwnsSet w mb N K) {x : Addr} (hx : ao = some x) : x.block ≠ mb := by
  subst hx
  obtain ⟨es, clock, hb, _⟩ := hm
  rcases ho.2 with ⟨h, _⟩ | ⟨g, cap', cur, hv, _, hg, _⟩
  · simp at h
  · simp at hv
    intro e
    rw [hv.1] at e
    simp at e
    subst e
    rw [hb] at hg
    simp at hg

theorem had_any (base sb N cap : Nat) (ao : Option Addr) (mo : Option Nat) (L : List ByteArray) (M : Option (List ByteArray)) (key : ByteArray) (w : World) (h : KS w base sb N L M ao cap mo) (hL : L.length ≤ 4096) (hLN : L.length ≤ N) (hN : N < maxLen)
    (hsz : ∀ s ∈ L, s.size ≤ maxLen) (hkey : key.size ≤ maxLen) (hbase : base ≤ w.heap.size) :
    Calls Try.prog 38 #[.pointer (some ⟨sb, 0, none⟩), .string key] w fun e w' => e = .returned (.bool (hadB L M key)) ∧ ∃ ao' cap' mo', KS w' base sb (N + 1) (hadL L M key) (hadM L M key) ao' cap' mo' ∧ Chg (ksBlocks sb ao mo) w w' ∧
      (ao' = ao ∨ ∃ x, ao' = some x ∧ (w.heap.size ≤ x.block ∨ ∃ y, ao = some y ∧ y.block = x.block)) ∧ (mo' = mo ∨ mo' = some w.heap.size) := by
  have hsb : sb < w.heap.size := lt_of_cell h.c0
  cases M with
  | some K =>
    obtain ⟨mb, rfl, hmb, hown⟩ := h.map K rfl
    have hsm : sb ≠ mb := ownsSet_ne_cells hown h.c0
    cases hh : hasS K key
    · refine (had_map_no sb mb N K key w hkey h.c1 hown hN hh).mono ?_
      rintro e w' ⟨rfl, hown1, hg⟩
      have hch : Chg (fun k => k = mb) w w' := (Chg.refl _ _).grown hg (fun k hk _ => by cases hk; rfl)
      refine ⟨by simp [hadB, hh], ao, cap, some mb, ?_, hch.mono (fun k _ hk => .inr (.inr (by rw [hk]))), .inl rfl, .inl rfl⟩
      simp only [hadL, hadM, hh]
      exact ⟨(hch.cell (p := ⟨sb, 0, none⟩) hsb hsm).trans h.c0, (hch.cell (p := ⟨sb, 1, none⟩) hsb hsm).trans h.c1, (hch.frozen (p := ⟨sb, 0, none⟩) hsb hsm).trans h.f0, (hch.frozen (p := ⟨sb, 1, none⟩) hsb hsm).trans h.f1, h.hsb,
        hch.ownsRow h.own (fun k hk => by obtain ⟨x, hx, rfl⟩ := ownBlock_some hk; exact own_ne_map h.own hown hx), h.ne, by simp, fun K' hK' => ⟨mb, rfl, hmb, by simp at hK'; subst hK'; exact hown1⟩⟩
    · refine (had_map_yes sb mb N K key w hkey h.c1 hown hh).mono ?_
      rintro e w' ⟨rfl, hw⟩
      replace hw := hw.symm
      subst hw
      refine ⟨by simp [hadB, hh], ao, cap, some mb, ?_, Chg.refl _ _, .inl rfl, .inl rfl⟩
      simp only [hadL, hadM, hh]
      exact ⟨h.c0, h.c1, h.f0, h.f1, h.hsb, h.own, h.ne, by simp, fun K' hK' => ⟨mb, rfl, hmb, by simp at hK'; subst hK'; exact World.ownsMap.mono hown (Nat.le_succ _)⟩⟩
  | none =>
    obtain rfl := h.nomap rfl
    have hrow := strRow_own h.own
    cases hh : hasS L key
    · by_cases hl : L.length < 16
      · have hne : some sb ≠ (Value.slice ao L.length cap).ownBlock := by
          intro e
          obtain ⟨x, hx, hb⟩ := ownBlock_some e.symm
          exact h.ne x hx hb.symm
        refine (had_list_add base sb cap ao L key w hl h.c0 h.f0 h.c1 h.own hne hbase hh).mono ?_
        rintro e w' ⟨rfl, g, cap', w1, rfl, hown, hg, hat, hlt⟩
        have hch1 : Chg (ksBlocks sb ao none) w w1 := ((Chg.refl _ _).alloc _).grown hg (fun k hk _ => .inr (.inl (ownBlock_some hk)))
        have hsb1 : sb < (w.alloc (.cells #[.string key] 9)).heap.size := by simp; omega
        have hgs : g ≠ sb := by
          intro e
          subst e
          rcases hat with hat | hat
          · exact hne hat.symm
          · omega
        have d0 : w1.cell? ⟨sb, 0, none⟩ = some (.slice ao L.length cap) := by rw [hg.cell_far ⟨sb, 0, none⟩ hsb1 hne, World.cell?_alloc_past _ _ _ hsb]; exact h.c0
        have d1 : w1.cell? ⟨sb, 1, none⟩ = some (.map none) := by rw [hg.cell_far ⟨sb, 1, none⟩ hsb1 hne, World.cell?_alloc_past _ _ _ hsb]; exact h.c1
        have e0 : w1.frozen? ⟨sb, 0, none⟩ = false := by rw [hg.frozen_far ⟨sb, 0, none⟩ hsb1 hne, World.frozen?_alloc_past _ _ _ hsb]; exact h.f0
        have e1 : w1.frozen? ⟨sb, 1, none⟩ = false := by rw [hg.frozen_far ⟨sb, 1, none⟩ hsb1 hne, World.frozen?_alloc_past _ _ _ hsb]; exact h.f1
        refine ⟨by simp [hadB, hh], some ⟨g, 0, none⟩, cap', none, ?_, hch1.setCell (p := ⟨sb, 0, none⟩) (fun _ => .inl rfl) _, .inr ⟨_, rfl, ?_⟩, .inl rfl⟩
        · simp only [hadL, hadM, hh, hl, if_true, Bool.false_eq_true, if_false]
          have hlen : (L ++ [key]).length = L.length + 1 := by simp
          have hmap : (L ++ [key]).map Value.string = L.map Value.string ++ [Value.string key] := by simp
          refine ⟨?_, ?_, ?_, ?_, h.hsb, ?_, ?_, fun _ => rfl, fun K hK => by cases hK⟩
          · rw [hlen]; exact cell_setCell_same d0
          · rw [cell_setCell_other (by simp)]; exact d1
          · rw [World.frozen?_setCell]; exact e0
          · rw [World.frozen?_setCell]; exact e1
          · rw [hlen, hmap]
            have hc2 : Chg (fun k => k = sb) w1 (w1.setCell ⟨sb, 0, none⟩ (.slice (some ⟨g, 0, none⟩) (L.length + 1) cap')) := (Chg.refl (fun k => k = sb) w1).setCell (p := ⟨sb, 0, none⟩) (fun _ => rfl) _
            exact hc2.ownsRow hown (fun k hk => by obtain ⟨x, hx, rfl⟩ := ownBlock_some hk; cases hx; exact hgs)
          · intro x hx
            cases hx
            exact hgs
        · rcases hat with hat | hat
          · obtain ⟨y, hy, e⟩ := ownBlock_some hat
            exact .inr ⟨y, hy, e.symm⟩
          · exact .inl (by show w.heap.size ≤ g; omega)
      · refine (had_list_full sb cap ao L key w (by omega) hL hsz hkey h.c0 h.c1 h.f0 h.f1 hrow h.ne hh).mono ?_
        rintro e w' ⟨rfl, hown, d0, d1, e0, e1, hch⟩
        refine ⟨by simp [hadB, hh], ao, cap, some w.heap.size, ?_, hch.mono (fun k _ hk => .inl hk), .inl rfl, .inr rfl⟩
        simp only [hadL, hadM, hh, hl, Bool.false_eq_true, if_false]
        exact ⟨d0, d1, e0, e1, h.hsb, hch.ownsRow h.own (fun k hk => by obtain ⟨x, hx, rfl⟩ := ownBlock_some hk; exact h.ne x hx), h.ne, by simp, fun K hK => ⟨_, rfl, hbase, by simp at hK; subst hK; exact World.ownsMap.mono hown (by omega)⟩⟩
    · refine (had_list_yes sb cap ao L key w hL h.c0 h.c1 hrow hh).mono ?_
      rintro e w' ⟨rfl, hw⟩
      replace hw := hw.symm
      subst hw
      refine ⟨by simp [hadB, hh], ao, cap, none, ?_, Chg.refl _ _, .inl rfl, .inl rfl⟩
      simp only [hadL, hadM, hh, if_true]
      exact ⟨h.c0, h.c1, h.f0, h.f1, h.hsb, h.own, h.ne, fun _ => rfl, fun K hK => by cases hK⟩

/-- ZZKeySetHad hands on -/
theorem zzHad_any (base sb N cap : Nat) (ao : Option Addr) (mo : Option Nat) (L : List ByteArray) (M : Option (List ByteArray)) (key : ByteArray) (w : World) (h : KS w base sb N L M ao cap mo) (hL : L.length ≤ 4096) (hLN : L.length ≤ N) (hN : N < maxLen)
    (hsz : ∀ s ∈ L, s.size ≤ maxLen) (hkey : key.size ≤ maxLen) (hbase : base ≤ w.heap.size) :
    Calls Try.prog 25 #[.pointer (some ⟨sb, 0, none⟩), .string key] w fun e w' => e = .returned (.bool (hadB L M key)) ∧ ∃ ao' cap' mo', KS w' base sb (N + 1) (hadL L M key) (hadM L M key) ao' cap' mo' ∧ Chg (ksBlocks sb ao mo) w w' ∧
      (ao' = ao ∨ ∃ x, ao' = some x ∧ (w.heap.size ≤ x.block ∨ ∃ y, ao = some y ∧ y.block = x.block)) ∧ (mo' = mo ∨ mo' = some w.heap.size) := by
  go_enter Try.func25, Try.ntmps25
  go_wp2_with fail
  refine (had_any base sb N cap ao mo L M key w h hL hLN hN hsz hkey hbase).mono ?_
  rintro e w' ⟨rfl, H⟩
  have H' := hide H
  clear H h
  go_wp2
  go_ret
  exact ⟨rfl, unhide H'⟩

end Go.Proofs.Qxb6605386a
