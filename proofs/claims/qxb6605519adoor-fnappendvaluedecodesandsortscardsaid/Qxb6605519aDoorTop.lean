import Derived.Test.Qxb6605519aDoorRead
namespace Go.Proofs.Qxb6605519aDoor
open Go.Shelf Go.RowKit Go.Sort

/-- what a number's text is -/
def txt (wd v : Int) : List UInt8 :=
  if v < 0 then 45 :: (List.replicate (wd - ((Lib.decDigits v.natAbs).length + 1)).toNat 48 ++ Lib.decDigits v.natAbs) else List.replicate (wd - (Lib.decDigits v.natAbs).length).toNat 48 ++ Lib.decDigits v.natAbs

theorem txt_length (wd v : Int) : ((txt wd v).length : Int) = max wd (plen v) := by
  unfold txt plen
  have := Lib.nDigits_pos v.natAbs
  split
  · simp [Lib.decDigits_length]; omega
  · simp [Lib.decDigits_length]; omega

abbrev TabOk (w : World) : Prop := Lib.TabIs Tryd.prog w "internal/strconv.uint64pow10" .u64 Lib.pow10Tab

theorem value_num (fr st cn wd i v : Int) (hv : wrap64 (fr + wrap64 (i * st)) = v) (h0 : -9223372036854775808 ≤ v) (h1 : v ≤ 9223372036854775807) (w0 : -65536 ≤ wd) (w1 : wd ≤ 65536) (w : World) (htab : TabOk w) :
    Calls Tryd.prog 10 #[.agg #[.bool false, .int .i64 fr, .int .i64 st, .int .i64 cn, .int .i64 wd], .slice none 0 0, .int .i64 i] w (Gives w (txt wd v)) := by
  unfold txt
  split
  · rename_i hn
    refine value_neg fr st cn wd i v hv h0 hn w0 w1 w htab _ ?_ _ rfl
    unfold Lib.itoa
    rw [if_pos hn]
  · rename_i hn
    refine value_nonneg fr st cn wd i v hv (by omega) h1 w0 w1 w htab _ ?_ _ rfl
    unfold Lib.itoa
    rw [if_neg hn]
    congr 1
    omega

def outOf (letters : Bool) (wd v : Int) : List UInt8 := if letters then [letter v.toNat] else txt wd v

theorem zzvalue_any (letters : Bool) (fr st cn wd i v : Int) (hv : wrap64 (fr + wrap64 (i * st)) = v) (h0 : -9223372036854775808 ≤ v) (h1 : v ≤ 9223372036854775807) (hlet : letters = true → 0 ≤ v ∧ v < 52) (w0 : -65536 ≤ wd) (w1 : wd ≤ 65536) (w : World) (htab : TabOk w) :
    Calls Tryd.prog 4 #[.bool letters, .int .i64 fr, .int .i64 st, .int .i64 cn, .int .i64 wd, .slice none 0 0, .int .i64 i] w (Gives w (outOf letters wd v)) := by
  have hc : Calls Tryd.prog 10 #[.agg #[.bool letters, .int .i64 fr, .int .i64 st, .int .i64 cn, .int .i64 wd], .slice none 0 0, .int .i64 i] w (Gives w (outOf letters wd v)) := by
    cases letters
    · exact value_num fr st cn wd i v hv h0 h1 w0 w1 w htab
    · exact value_letter fr st cn wd i v hv (hlet rfl).1 (hlet rfl).2 w
  clear hlet
  go_enter Tryd.func4, Tryd.ntmps4
  go_wp2_with fail
  refine hc.mono ?_
  rintro e w2 ⟨a, cap, rfl, h2⟩
  go_wp2
  go_ret
  exact ⟨a, cap, rfl, h2⟩

theorem decode_any (letters : Bool) (wd v : Int) (h0 : -9223372036854775808 ≤ v) (h1 : v ≤ 9223372036854775807) (hlet : letters = true → 0 ≤ v ∧ v < 52) (w0 : -65536 ≤ wd) (w1 : wd ≤ 65536) (a : Option Addr) (cap : Nat) (w : World) (hr : BRow w a (outOf letters wd v)) :
    Calls Tryd.prog 5 #[.bool letters, .slice a (outOf letters wd v).length cap] w fun e w' => e = .returned (.tuple #[.int .i64 v, .bool true]) ∧ w' = w := by
  cases letters
  · have hlen := txt_length wd v
    have hpl : plen v ≤ 21 := by unfold plen; have := Lib.nDigits_le20 v.natAbs (by omega); split <;> omega
    unfold outOf at *
    simp only [Bool.false_eq_true, if_false] at *
    by_cases hn : v < 0
    · unfold txt at *
      rw [if_pos hn] at *
      have := decode_neg a cap _ (List.replicate (wd - ((Lib.decDigits v.natAbs).length + 1)).toNat 48 ++ Lib.decDigits v.natAbs) rfl (by simp; have := Lib.nDigits_pos v.natAbs; rw [Lib.decDigits_length]; omega) (by simp at hlen; simp; omega) (digs_pad _ _ (digs_dec _)) v.natAbs (by rw [val_pad, val_dec]) (by omega) (by omega) w hr
      rw [show -((v.natAbs : Nat) : Int) = v from by omega] at this
      exact this
    · unfold txt at *
      rw [if_neg hn] at *
      have := decode_nonneg a cap _ (List.replicate (wd - (Lib.decDigits v.natAbs).length).toNat 48 ++ Lib.decDigits v.natAbs) rfl (by simp; have := Lib.nDigits_pos v.natAbs; rw [Lib.decDigits_length]; omega) (by simp at hlen; simp; omega) (digs_pad _ _ (digs_dec _)) v.natAbs (by rw [val_pad, val_dec]) (by omega) w hr
      rw [show ((v.natAbs : Nat) : Int) = v from by omega] at this
      exact this
  · have hl := hlet rfl
    have := decode_letter a cap v.toNat (by omega) w hr
    rw [show ((v.toNat : Nat) : Int) = v from by omega] at this
    exact this

theorem sorts (wd vi vj : Int) (hi : 0 ≤ vi) (hj : 0 ≤ vj) (fi : (plen vi : Int) ≤ wd) (fj : (plen vj : Int) ≤ wd) : cmpB (txt wd vi) (txt wd vj) = cmpI vi vj := by
  have li := txt_length wd vi
  have lj := txt_length wd vj
  have hl : (txt wd vi).length = (txt wd vj).length := by omega
  have ei : txt wd vi = List.replicate (wd - (Lib.decDigits vi.natAbs).length).toNat 48 ++ Lib.decDigits vi.natAbs := by unfold txt; rw [if_neg (by omega)]
  have ej : txt wd vj = List.replicate (wd - (Lib.decDigits vj.natAbs).length).toNat 48 ++ Lib.decDigits vj.natAbs := by unfold txt; rw [if_neg (by omega)]
  have h := cmpB_val (txt wd vi) (txt wd vj) hl (by rw [ei]; exact digs_pad _ _ (digs_dec _)) (by rw [ej]; exact digs_pad _ _ (digs_dec _))
  rw [h, ei, ej, val_pad, val_pad, val_dec, val_dec]
  unfold cmpN cmpI
  have e1 : vi.natAbs < vj.natAbs ↔ vi < vj := by omega
  have e2 : vj.natAbs < vi.natAbs ↔ vj < vi := by omega
  simp only [e1, e2]

theorem wrap64_range (x : Int) : -9223372036854775808 ≤ wrap64 x ∧ wrap64 x ≤ 9223372036854775807 := by
  unfold wrap64
  omega

end Go.Proofs.Qxb6605519aDoor
