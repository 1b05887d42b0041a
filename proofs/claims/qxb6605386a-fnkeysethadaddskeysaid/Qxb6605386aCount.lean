import Derived.Test.Qxb6605386aLeaf
namespace Go.Proofs.Qxb6605386a
open Go.RowKit

theorem contains_at (a : Option Addr) (n cap : Nat) (ss : List ByteArray) (x : ByteArray) (w : World) (hn : ss.length = n) (hlen : n ≤ 9223372036854775807) (hc : StrRow w a ss) :
    Calls Try.prog 28 #[.slice a n cap, .string x] w fun e w' => e = .returned (.bool (hasS ss x)) ∧ w' = w := by
  subst hn
  exact contains_any a cap ss x w hlen hc

/-- the different ones, in the order of their first coming -/
def dstep (D : List ByteArray) (x : ByteArray) : List ByteArray := if hasS D x then D else D ++ [x]
def dd (ss : List ByteArray) : List ByteArray := ss.foldl dstep []

theorem dd_snoc (l : List ByteArray) (x : ByteArray) : dd (l ++ [x]) = dstep (dd l) x := by simp [dd]

theorem toList_inj {a b : ByteArray} (h : a.toList = b.toList) : a = b := by
  have h' := congrArg List.toArray h
  cases a; cases b
  simpa [ByteArray.toList_eq] using h

theorem hasS_dstep (D : List ByteArray) (x y : ByteArray) : hasS (dstep D x) y = (hasS D y || (x.toList == y.toList)) := by
  unfold dstep
  split
  · rename_i h
    cases hxy : (x.toList == y.toList)
    · simp
    · rw [beq_iff_eq] at hxy
      have : x = y := toList_inj hxy
      subst this
      simp [h]
  · rw [hasS_snoc]

theorem hasS_fold (l : List ByteArray) : ∀ D y, hasS (l.foldl dstep D) y = (hasS D y || hasS l y) := by
  induction l with
  | nil => intro D y; simp [hasS]
  | cons x l ih =>
    intro D y
    rw [List.foldl_cons, ih, hasS_dstep]
    simp [hasS, Bool.or_assoc]

theorem hasS_dd (l : List ByteArray) (y : ByteArray) : hasS (dd l) y = hasS l y := by
  unfold dd
  rw [hasS_fold]
  simp [hasS]

theorem dstep_len (D : List ByteArray) (x : ByteArray) : (dstep D x).length = D.length + (if hasS D x then 0 else 1) := by
  unfold dstep; split <;> simp [*]

theorem dd_len (l : List ByteArray) : (dd l).length ≤ l.length := by
  have : ∀ (l D : List ByteArray), (l.foldl dstep D).length ≤ D.length + l.length := by
    intro l
    induction l with
    | nil => intro D; simp
    | cons x l ih =>
      intro D
      have := ih (dstep D x)
      have h2 := dstep_len D x
      rw [List.foldl_cons, List.length_cons]
      split at h2 <;> omega
  simpa [dd] using this l []


theorem hide {p : Prop} (h : p) : Hid p := h
theorem unhide {p : Prop} (h : Hid p) : p := h

theorem below_drawn (w : World) (n : Nat) : Below w.heap.size w (w.drewN n) := ⟨rfl, rfl, rfl, Nat.le_refl _, fun _ _ => rfl⟩

set_option maxHeartbeats 800000 in
theorem count_any (a : Option Addr) (cap : Nat) (ss : List ByteArray) (w : World) (hlen : ss.length ≤ 4096) (hcap : ss.length ≤ cap) (hc : StrRow w a ss) :
    Calls Try.prog 29 #[.slice a ss.length cap] w fun e w' => e = .returned (.int .i64 ((dd ss).length : Nat)) ∧ Below w.heap.size w w' := by
  by_cases h0 : ss.length = 0
  · have hn : ss = [] := List.length_eq_zero_iff.1 h0
    subst hn
    clear hc h0 hcap
    show Calls Try.prog 29 #[.slice a 0 cap] w _
    go_enter Try.func29, Try.ntmps29
    go_wp2
    refine wp_loop_rounds 1 ?_
    rw [rounds_succ]
    go_wp2
    go_ret
    exact ⟨rfl, Below.refl _ _⟩
  · obtain ⟨b, off, rfl, hb, hcell⟩ := hc (by omega)
    go_enter Try.func29, Try.ntmps29
    go_wp2
    go_loopw [3, 4] (fun c i wr => ∃ k : Nat, k ≤ ss.length ∧ i = .int .i64 k ∧ c = .int .i64 ((dd (ss.take k)).length : Nat) ∧ Below w.heap.size w wr) (fun _ i _ => ss.length - (intOf i).toNat)
    case atStart => exact ⟨0, Nat.zero_le _, rfl, rfl, Below.refl _ _⟩
    case round =>
      obtain ⟨k, hk, rfl, rfl, hbw⟩ := hrel
      have hd := dd_len (ss.take k)
      have hd2 : (ss.take k).length ≤ k := List.length_take_le _ _
      by_cases hlt : k < ss.length
      · have hcw := hc.below hbw (Nat.le_refl _)
        have hcx : wr.cell? ⟨b, off + k, none⟩ = some (.string (ss.getD k ByteArray.empty)) := (hbw.cell (p := ⟨b, off + k, none⟩) hb).trans (hcell k hlt)
        have hkc : (k : Int) ≤ (cap : Int) := by omega
        have hsn : Hid (dd (ss.take (k + 1)) = dstep (dd (ss.take k)) ss[k]) := by
          show dd (ss.take (k + 1)) = dstep (dd (ss.take k)) ss[k]
          rw [take_snocS ss k hlt, dd_snoc]
        have hdl := dstep_len (dd (ss.take k)) ss[k]
        rw [hasS_dd, ← hsn.out] at hdl
        have hdl' := hide hdl
        clear hcell hdl hc
        go_wp2
        go_quiet ((go_at_call 28; exact Calls.quiet_of_same (contains_at _ _ _ (ss.take k) _ _ (by simp; omega) (by omega) ((hcw.take k hk).heap rfl))))
        cases hh : hasS (ss.take k) ss[k]
        · go_wp2
          go_roundw
          case rel => exact ⟨k + 1, by omega, by go_num, by rw [unhide hdl', hh]; go_num, hbw.trans ((below_drawn _ _).mono hbw.size)⟩
          case measure => simp [intOf]; omega
        · go_wp2
          go_roundw
          case rel => exact ⟨k + 1, by omega, by go_num, by rw [unhide hdl', hh]; go_num, hbw.trans ((below_drawn _ _).mono hbw.size)⟩
          case measure => simp [intOf]; omega
      · have hke : k = ss.length := by omega
        go_wp2
        go_ret
        exact ⟨ret_int (by rw [hke, List.take_length]), hbw⟩

end Go.Proofs.Qxb6605386a
