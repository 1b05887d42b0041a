import Derived.Lib.ItoaNum
import Derived.Lib.ItoaLen
namespace Go.Proofs.Qxb6605519aDoor
open Go.Lib

/-! No Go in sight. -/
def isDig (b : UInt8) : Prop := 48 ≤ b.toNat ∧ b.toNat ≤ 57
def Digs (l : List UInt8) : Prop := ∀ b ∈ l, isDig b

def vstep (acc : Nat) (b : UInt8) : Nat := acc * 10 + (b.toNat - 48)
/-- the number that a row of digits writes -/
def val (l : List UInt8) : Nat := l.foldl vstep 0
def dv : List UInt8 → Nat
  | [] => 0
  | b :: r => (b.toNat - 48) * 10 ^ r.length + dv r

theorem fold_dv : ∀ (l : List UInt8) (acc : Nat), l.foldl vstep acc = acc * 10 ^ l.length + dv l
  | [], acc => by simp [dv]
  | b :: r, acc => by
    rw [List.foldl_cons, fold_dv r]
    simp only [vstep, dv, List.length_cons, Nat.pow_succ]
    rw [Nat.add_mul, Nat.mul_assoc, Nat.mul_comm 10, Nat.add_assoc]

theorem val_dv (l : List UInt8) : val l = dv l := by unfold val; rw [fold_dv]; simp

theorem dv_lt : ∀ (l : List UInt8), Digs l → dv l < 10 ^ l.length
  | [], _ => by simp [dv]
  | b :: r, h => by
    have h1 := h b (List.mem_cons_self ..)
    have h2 := dv_lt r (fun x hx => h x (List.mem_cons_of_mem _ hx))
    simp only [dv, List.length_cons, Nat.pow_succ]
    have h3 : (b.toNat - 48) ≤ 9 := by have := h1.2; omega
    have h4 : (b.toNat - 48) * 10 ^ r.length ≤ 9 * 10 ^ r.length := Nat.mul_le_mul_right _ h3
    omega

theorem val_append (a b : List UInt8) : val (a ++ b) = val a * 10 ^ b.length + dv b := by
  unfold val
  rw [List.foldl_append, fold_dv]

theorem val_snoc (a : List UInt8) (b : UInt8) : val (a ++ [b]) = val a * 10 + (b.toNat - 48) := by
  unfold val
  rw [List.foldl_append]
  rfl

theorem val_take_le (l : List UInt8) (k : Nat) : val (l.take k) ≤ val l := by
  have h := val_append (l.take k) (l.drop k)
  rw [List.take_append_drop] at h
  rw [h]
  have := Nat.le_mul_of_pos_right (val (l.take k)) (Nat.pow_pos (n := (l.drop k).length) (show 0 < 10 by omega))
  omega

theorem val_take_succ (l : List UInt8) (k : Nat) (h : k < l.length) : val (l.take (k + 1)) = val (l.take k) * 10 + ((l.getD k 0).toNat - 48) := by
  have e : l.take (k + 1) = l.take k ++ [l.getD k 0] := by
    rw [List.take_add_one, List.getElem?_eq_getElem h]
    simp [List.getD, h]
  rw [e, val_snoc]

theorem toNat_dig (d : Nat) (h : d < 10) : (UInt8.ofNat (48 + d)).toNat = 48 + d := by
  rw [UInt8.toNat_ofNat']
  omega

theorem isDig_dig (d : Nat) (h : d < 10) : isDig (UInt8.ofNat (48 + d)) := by
  unfold isDig
  rw [toNat_dig d h]
  omega

theorem digs_dec (u : Nat) : Digs (decDigits u) := by
  induction u using decDigits.induct with
  | case1 u h =>
    rw [decDigits, dif_pos h]
    intro b hb
    rw [List.mem_singleton.1 hb]
    exact isDig_dig u h
  | case2 u h ih =>
    rw [decDigits, dif_neg h]
    intro b hb
    rcases List.mem_append.1 hb with hb | hb
    · exact ih b hb
    · rw [List.mem_singleton.1 hb]
      exact isDig_dig _ (Nat.mod_lt _ (by omega))

theorem val_dec (u : Nat) : val (decDigits u) = u := by
  induction u using decDigits.induct with
  | case1 u h =>
    rw [decDigits, dif_pos h]
    simp only [val, List.foldl_cons, List.foldl_nil, vstep, toNat_dig u h]
    omega
  | case2 u h ih =>
    rw [decDigits, dif_neg h, val_snoc, ih, toNat_dig _ (by omega)]
    omega

theorem digs_pad (z : Nat) (l : List UInt8) (h : Digs l) : Digs (List.replicate z 48 ++ l) := by
  intro b hb
  rcases List.mem_append.1 hb with hb | hb
  · rw [List.mem_replicate] at hb
    rw [hb.2]
    exact ⟨by decide, by decide⟩
  · exact h b hb

theorem val_pad (z : Nat) (l : List UInt8) : val (List.replicate z 48 ++ l) = val l := by
  induction z with
  | zero => rfl
  | succ z ih =>
    rw [List.replicate_succ, List.cons_append]
    show (List.replicate z 48 ++ l).foldl vstep (vstep 0 48) = _
    exact ih

def cmpN (a b : Nat) : Int := if a < b then -1 else if b < a then 1 else 0
def cmpB : List UInt8 → List UInt8 → Int
  | [], [] => 0
  | [], _ :: _ => -1
  | _ :: _, [] => 1
  | a :: r, b :: s => if a.toNat < b.toNat then -1 else if b.toNat < a.toNat then 1 else cmpB r s

theorem cmpB_dv : ∀ (l m : List UInt8), l.length = m.length → Digs l → Digs m → cmpB l m = cmpN (dv l) (dv m)
  | [], [], _, _, _ => rfl
  | a :: r, b :: s, hl, hd, he => by
    have hl' : r.length = s.length := by simpa using hl
    have ih := cmpB_dv r s hl' (fun x hx => hd x (List.mem_cons_of_mem _ hx)) (fun x hx => he x (List.mem_cons_of_mem _ hx))
    have h1 := hd a (List.mem_cons_self ..)
    have h2 := he b (List.mem_cons_self ..)
    have h3 := dv_lt r (fun x hx => hd x (List.mem_cons_of_mem _ hx))
    have h4 := dv_lt s (fun x hx => he x (List.mem_cons_of_mem _ hx))
    rw [hl'] at h3
    unfold cmpB dv
    rw [hl']
    generalize 10 ^ s.length = T at *
    have h5 := h1.1
    have h6 := h2.1
    rcases Nat.lt_trichotomy a.toNat b.toNat with h | h | h
    · rw [if_pos h]
      have : (a.toNat - 48 + 1) * T ≤ (b.toNat - 48) * T := Nat.mul_le_mul_right _ (by omega)
      rw [Nat.add_mul] at this
      unfold cmpN
      rw [if_pos (by omega)]
    · rw [if_neg (by omega), if_neg (by omega), ih, h]
      unfold cmpN
      have e1 : (b.toNat - 48) * T + dv r < (b.toNat - 48) * T + dv s ↔ dv r < dv s := by omega
      have e2 : (b.toNat - 48) * T + dv s < (b.toNat - 48) * T + dv r ↔ dv s < dv r := by omega
      simp only [e1, e2]
    · rw [if_neg (by omega), if_pos h]
      have : (b.toNat - 48 + 1) * T ≤ (a.toNat - 48) * T := Nat.mul_le_mul_right _ (by omega)
      rw [Nat.add_mul] at this
      unfold cmpN
      rw [if_neg (by omega), if_pos (by omega)]

theorem cmpB_val (l m : List UInt8) (h : l.length = m.length) (hd : Digs l) (he : Digs m) : cmpB l m = cmpN (val l) (val m) := by
  rw [val_dv, val_dv]; exact cmpB_dv l m h hd he

theorem cmpB_drop (l m : List UInt8) (k : Nat) (hl : k < l.length) (hm : k < m.length) : cmpB (l.drop k) (m.drop k) = if (l.getD k 0).toNat < (m.getD k 0).toNat then -1 else if (m.getD k 0).toNat < (l.getD k 0).toNat then 1 else cmpB (l.drop (k + 1)) (m.drop (k + 1)) := by
  have e1 : l.drop k = l.getD k 0 :: l.drop (k + 1) := by rw [List.drop_eq_getElem_cons hl]; simp [List.getD, hl]
  have e2 : m.drop k = m.getD k 0 :: m.drop (k + 1) := by rw [List.drop_eq_getElem_cons hm]; simp [List.getD, hm]
  rw [e1, e2]
  rfl

end Go.Proofs.Qxb6605519aDoor
