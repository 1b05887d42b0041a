import Derived.Test.Qxb6605408aClone
namespace Go.Proofs.Qxb6605408a
open Go.RowKit
set_option linter.unusedVariables false

/-- it returns a bool; where that is true, P holds -/
def Says (P : Prop) (e : Ending) : Prop := ∃ r : Bool, e = .returned (.bool r) ∧ (r = true → P)
theorem says_no (P : Prop) : Says P (.returned (.bool false)) := ⟨false, rfl, fun h => by cases h⟩
theorem says_yes {P : Prop} (h : P) : Says P (.returned (.bool true)) := ⟨true, rfl, fun _ => h⟩

/-- each fits an int32 -/
def I32 (f : Nat → Int) : Prop := ∀ i, -2147483648 ≤ f i ∧ f i ≤ 2147483647

/-- an edge list as the solver wants it -/
structure EdgesOk (n ns : Nat) (fs : Nat → Int) (nt : Nat) (ft : Nat → Int) : Prop where
  len : ns = n + 1
  lo : 0 ≤ fs 0
  hi : fs n ≤ nt
  mono : ∀ v, v < n → fs v ≤ fs (v + 1)
  to : ∀ e : Nat, fs 0 ≤ e → (e : Int) < fs n → 0 ≤ ft e ∧ ft e < n

theorem mono_le {fs : Nat → Int} {n : Nat} (h : ∀ v, v < n → fs v ≤ fs (v + 1)) : ∀ {a b : Nat}, a ≤ b → b ≤ n → fs a ≤ fs b := by
  intro a b hab
  induction hab with
  | refl => intro _; exact Int.le_refl _
  | step hb ih =>
    rename_i m
    intro hm
    have := ih (by omega)
    have h2 := h m (by omega)
    exact Int.le_trans this h2

set_option maxHeartbeats 4000000 in
theorem edges_any (n : Nat) (a1 : Option Addr) (ns c1 : Nat) (fs : Nat → Int) (a2 : Option Addr) (nt c2 : Nat) (ft : Nat → Int) (w : World) (hn : n ≤ 1048576) (hs : ns ≤ 1048576) (ht : nt ≤ 1048576) (is : I32 fs) (it : I32 ft)
    (r1 : Row w a1 ns (fun i => .int .i32 (fs i))) (r2 : Row w a2 nt (fun i => .int .i32 (ft i))) :
    Calls Try.prog 27 #[.int .i64 n, .slice a1 ns c1, .slice a2 nt c2] w fun e w' => Says (EdgesOk n ns fs nt ft) e ∧ Below w.heap.size w w' := by
  by_cases h1 : ¬ ns = n + 1
  · have d1 : ((ns : Int) != (n : Int) + 1) = true := by rw [bne_iff_ne]; omega
    go_enter Try.func27, Try.ntmps27
    go_wp2
    go_ret
    exact ⟨says_no _, Below.refl _ _⟩
  replace h1 : ns = n + 1 := by omega
  subst h1
  obtain ⟨b, off, rfl, hb, hc⟩ := r1 (by omega)
  have i0 := is 0
  have iN := is n
  have hc0 : w.cell? ⟨b, off, none⟩ = some (.int .i32 (fs 0)) := by simpa using hc 0 (by omega)
  have hcn : w.cell? ⟨b, off + n, none⟩ = some (.int .i32 (fs n)) := hc n (by omega)
  by_cases h2 : fs 0 < 0
  · have d2 : decide (fs 0 < 0) = true := by simpa using h2
    go_enter Try.func27, Try.ntmps27
    go_wp2
    go_ret
    exact ⟨says_no _, Below.refl _ _⟩
  have d2 : decide (fs 0 < 0) = false := by simpa using h2
  by_cases h3 : (nt : Int) < fs n
  · have d3 : decide ((nt : Int) < fs n) = true := by simpa using h3
    go_enter Try.func27, Try.ntmps27
    go_wp2
    go_ret
    exact ⟨says_no _, Below.refl _ _⟩
  have d3 : decide ((nt : Int) < fs n) = false := by simpa using h3
  have d1 : (((n + 1 : Nat) : Int) != (n : Int) + 1) = false := by simp
  go_enter Try.func27, Try.ntmps27
  go_wp2
  go_loopw [7] (fun i wr => ∃ k : Nat, k ≤ n ∧ i = .int .i64 k ∧ (∀ v, v < k → fs v ≤ fs (v + 1)) ∧ Below w.heap.size w wr) (fun i _ => n - (intOf i).toNat)
  case atStart => exact ⟨0, Nat.zero_le _, rfl, fun v hv => by omega, Below.refl _ _⟩
  case round =>
    obtain ⟨k, hk, rfl, hm, hbr⟩ := hrel
    have hm' := hide hm
    clear hm
    by_cases hlt : k < n
    · have hck : wr.cell? ⟨b, off + k, none⟩ = some (.int .i32 (fs k)) := (hbr.cell (p := ⟨b, off + k, none⟩) hb).trans (hc k (by omega))
      have hck1 : wr.cell? ⟨b, off + (k + 1), none⟩ = some (.int .i32 (fs (k + 1))) := (hbr.cell (p := ⟨b, off + (k + 1), none⟩) hb).trans (hc (k + 1) (by omega))
      have hki : (k : Int) < (n : Int) + 1 := by omega
      clear hc
      by_cases hgt : fs (k + 1) < fs k
      · have dg : decide (fs (k + 1) < fs k) = true := by simpa using hgt
        go_wp2
        go_quiet (fail)
        go_wp2
        go_ret
        exact ⟨says_no _, hbr.trans ((below_drawn _ _).mono hbr.size)⟩
      · have dg : decide (fs (k + 1) < fs k) = false := by simpa using hgt
        go_wp2
        go_quiet (fail)
        go_wp2
        go_roundw
        case rel => exact ⟨k + 1, by omega, by go_num, fun v hv => by
          by_cases e : v = k
          · subst e; omega
          · exact unhide hm' v (by omega), hbr.trans ((below_drawn _ _).mono hbr.size)⟩
        case measure => simp [intOf]; omega
    · have hke : k = n := by omega
      subst hke
      have hcr : ∀ j, j < k + 1 → wr.cell? ⟨b, off + j, none⟩ = some (.int .i32 (fs j)) := fun j hj => (hbr.cell (p := ⟨b, off + j, none⟩) hb).trans (hc j hj)
      have hcr0 : wr.cell? ⟨b, off, none⟩ = some (.int .i32 (fs 0)) := by simpa using hcr 0 (by omega)
      have hcrn : wr.cell? ⟨b, off + k, none⟩ = some (.int .i32 (fs k)) := hcr k (by omega)
      have r2' := r2.below hbr
      have h0n : fs 0 ≤ fs k := mono_le (unhide hm') (Nat.zero_le _) (Nat.le_refl _)
      clear hc hcr hc0 hcn r1 r2
      go_wp2
      go_loop [8] (fun i => ∃ e : Nat, fs 0 ≤ e ∧ (e : Int) ≤ fs k ∧ i = .int .i64 e ∧ ∀ j : Nat, fs 0 ≤ j → j < e → 0 ≤ ft j ∧ ft j < k) (fun i => (fs k).toNat - (intOf i).toNat)
      case atStart => exact ⟨(fs 0).toNat, by omega, by omega, by go_num, fun j h1 h2 => by omega⟩
      case round =>
        obtain ⟨e, he0, hen, rfl, hall⟩ := hrel
        have hall' := hide hall
        clear hall
        by_cases hel : (e : Int) < fs k
        · obtain ⟨b2, off2, ha2, hb2, hc2⟩ := r2' (by omega)
          have hce : wr.cell? ⟨b2, off2 + e, none⟩ = some (.int .i32 (ft e)) := hc2 e (by omega)
          have hei : (e : Int) < (nt : Int) := by omega
          have ie := it e
          clear hc2
          subst ha2
          by_cases hneg : ft e < 0
          · have dneg : decide (ft e < 0) = true := by simpa using hneg
            go_wp2
            go_ret
            exact ⟨says_no _, hbr⟩
          · have dneg : decide (ft e < 0) = false := by simpa using hneg
            by_cases hbig : (k : Int) ≤ ft e
            · have dbig : decide ((k : Int) ≤ ft e) = true := by simpa using hbig
              go_wp2
              go_ret
              exact ⟨says_no _, hbr⟩
            · have dbig : decide ((k : Int) ≤ ft e) = false := by simpa using hbig
              go_wp2
              go_round
              case rel => exact ⟨e + 1, by omega, by omega, by go_num, fun j h1 h2 => by
                by_cases ej : j = e
                · subst ej; omega
                · exact unhide hall' j h1 (by omega)⟩
              case measure => simp [intOf]; omega
        · go_wp2
          go_ret
          refine ⟨says_yes ⟨rfl, by omega, by omega, unhide hm', fun j h1 h2 => unhide hall' j h1 (by omega)⟩, hbr⟩

end Go.Proofs.Qxb6605408a
