import Derived.Test.Qxb6605519aWords
import Derived.Laws.BitsAllLaws
import Derived.OpenShut
namespace Go.Proofs.Qxb6605519a
open Go.RowKit Go.Maps Go.WideMaps

/-! No Go in sight: what a script of adds leaves. -/

def sameWord (g r : Int) (p : Int × Int) : Bool := decide (p.1 = g) && decide (p.2 / 64 = r)
def samePair (g h : Int) (p : Int × Int) : Bool := decide (p.1 = g) && decide (p.2 = h)
def wstep (g r : Int) (acc : Nat) (p : Int × Int) : Nat := if sameWord g r p then acc ||| 2 ^ (p.2 % 64).toNat else acc
def wordOf (L : List (Int × Int)) (g r : Int) : Nat := L.foldl (wstep g r) 0

theorem wordOf_snoc (L : List (Int × Int)) (p : Int × Int) (g r : Int) : wordOf (L ++ [p]) g r = wstep g r (wordOf L g r) p := by
  simp [wordOf, List.foldl_append]

theorem bit_lt (x : Int) : 2 ^ (x % 64).toNat < 2 ^ 64 := Nat.pow_lt_pow_right (by omega) (by omega)

theorem fold_lt (g r : Int) : ∀ (L : List (Int × Int)) (a : Nat), a < 2 ^ 64 → L.foldl (wstep g r) a < 2 ^ 64
  | [], a, h => h
  | p :: L, a, h => by
    rw [List.foldl_cons]
    refine fold_lt g r L _ ?_
    unfold wstep
    split
    · exact Nat.or_lt_two_pow h (bit_lt _)
    · exact h

theorem wordOf_lt (L : List (Int × Int)) (g r : Int) : wordOf L g r < 2 ^ 64 := fold_lt g r L 0 (by omega)

theorem fold_bit (g r : Int) (i : Nat) : ∀ (L : List (Int × Int)) (a : Nat), (L.foldl (wstep g r) a).testBit i = (a.testBit i || L.any (fun p => sameWord g r p && decide ((p.2 % 64).toNat = i)))
  | [], a => by simp
  | p :: L, a => by
    rw [List.foldl_cons, fold_bit g r i L, List.any_cons]
    unfold wstep
    cases hs : sameWord g r p
    · simp
    · simp [Nat.testBit_or, Nat.testBit_two_pow, Bool.or_assoc]

theorem wordOf_bit (L : List (Int × Int)) (g r : Int) (i : Nat) : (wordOf L g r).testBit i = L.any (fun p => sameWord g r p && decide ((p.2 % 64).toNat = i)) := by
  unfold wordOf
  rw [fold_bit]
  simp

theorem same_place (g h : Int) (p : Int × Int) : (sameWord g (h / 64) p && decide ((p.2 % 64).toNat = (h % 64).toNat)) = samePair g h p := by
  unfold sameWord samePair
  rw [Bool.and_assoc]
  congr 1
  rw [Bool.eq_iff_iff]
  simp
  omega

theorem wordOf_has (L : List (Int × Int)) (g h : Int) : (wordOf L g (h / 64)).testBit (h % 64).toNat = L.any (samePair g h) := by
  rw [wordOf_bit]
  congr 1
  funext p
  exact same_place g h p

theorem and_zero (x i : Nat) (h : x.testBit i = false) : x &&& 2 ^ i = 0 := by
  apply Nat.eq_of_testBit_eq
  intro j
  rw [Nat.testBit_and, Nat.testBit_two_pow, Nat.zero_testBit]
  by_cases e : i = j
  · subst e; simp [h]
  · simp [e]

theorem and_pos (x i : Nat) (h : x.testBit i = true) : x &&& 2 ^ i ≠ 0 := by
  intro e
  have := congrArg (fun y => y.testBit i) e
  simp [Nat.testBit_and, h] at this

theorem or_held (x i : Nat) (h : x.testBit i = true) : x ||| 2 ^ i = x := by
  apply Nat.eq_of_testBit_eq
  intro j
  rw [Nat.testBit_or, Nat.testBit_two_pow]
  by_cases e : i = j
  · subst e; simp [h]
  · simp [e]

theorem wordOf_held (L : List (Int × Int)) (g h : Int) (hh : L.any (samePair g h) = true) (g' r' : Int) : wordOf (L ++ [(g, h)]) g' r' = wordOf L g' r' := by
  rw [wordOf_snoc]
  unfold wstep
  split
  · rename_i hs
    simp [sameWord] at hs
    obtain ⟨rfl, rfl⟩ := hs
    exact or_held _ _ (by rw [wordOf_has]; exact hh)
  · rfl

theorem any_word {L : List (Int × Int)} {g h : Int} (hh : L.any (samePair g h) = true) : L.any (sameWord g (h / 64)) = true := by
  rw [List.any_eq_true] at hh ⊢
  obtain ⟨p, hp, hs⟩ := hh
  refine ⟨p, hp, ?_⟩
  simp only [samePair, sameWord, Bool.and_eq_true, decide_eq_true_eq] at hs ⊢
  exact ⟨hs.1, by rw [hs.2]⟩

/-- how many of a row's members are the first of their sort (the row backwards) -/
def cntR {α : Type} (same : α → α → Bool) : List α → Nat
  | [] => 0
  | x :: r => cntR same r + if r.any (same x) then 0 else 1
def cnt {α : Type} (same : α → α → Bool) (L : List α) : Nat := cntR same L.reverse
theorem cnt_snoc {α : Type} (same : α → α → Bool) (L : List α) (x : α) : cnt same (L ++ [x]) = cnt same L + if L.any (same x) then 0 else 1 := by
  simp [cnt, cntR]
theorem cnt_le {α : Type} (same : α → α → Bool) (L : List α) : cnt same L ≤ L.length := by
  unfold cnt
  rw [← List.length_reverse]
  induction L.reverse with
  | nil => simp [cntR]
  | cons x r ih => simp only [cntR, List.length_cons]; split <;> omega

def sw (p q : Int × Int) : Bool := sameWord p.1 (p.2 / 64) q
def sp (p q : Int × Int) : Bool := samePair p.1 p.2 q

/-- block mb is the set that the script L leaves -/
def OwnsW (w : World) (mb n : Nat) (L : List (Int × Int)) : Prop :=
  ∃ D : DataW Unit, w.ownsMap Try.prog 33 (plainElem Try.prog 34) mb n D ∧ (∀ g r, W64 g → W64 r → D.atKey (kl g r) (.lit (.int .u64 0)) = .lit (.int .u64 (wordOf L g r))) ∧
    (∀ g r, W64 g → W64 r → has D (kl g r) = L.any (sameWord g r)) ∧ Maps.size D = cnt sw L

theorem ownsW_made (w : World) : OwnsW (w.alloc (.map #[] 0)) w.heap.size 0 [] :=
  ⟨.map [], World.ownsMap_made _ _ _ _, fun g r _ _ => by simp [DataW.atKey, wordOf], fun g r _ _ => by simp [has_eq], rfl⟩

theorem OwnsW.chg {S : Nat → Prop} {w w' : World} {mb n : Nat} {L : List (Int × Int)} (h : OwnsW w mb n L) (hc : Chg S w w') (hs : ¬ S mb) : OwnsW w' mb n L := by
  obtain ⟨D, h1, h2⟩ := h
  exact ⟨D, hc.ownsMap h1 hs, h2⟩

theorem OwnsW.lt {w : World} {mb n : Nat} {L : List (Int × Int)} (h : OwnsW w mb n L) : mb < w.heap.size := by
  obtain ⟨D, h1, _⟩ := h
  exact h1.lt

theorem isKey_kl (g r : Int) : WideAt.IsKeyLit (kl g r) := by simp [kl, WideAt.IsKeyLit]

theorem W64.div {h : Int} (wh : W64 h) (h0 : 0 ≤ h) : W64 (h / 64) := by
  have := wh.1; have := wh.2
  constructor <;> omega

theorem quo_is {h : Int} (wh : W64 h) (h0 : 0 ≤ h) : wrap64 (h.tdiv 64) = h / 64 := by
  rw [Int.tdiv_eq_ediv_of_nonneg h0]
  have := wh.1; have := wh.2
  unfold wrap64
  omega

theorem bit_is (h : Int) : IntKind.u64.wrap (2 ^ (h % 64).toNat) = ((2 ^ (h % 64).toNat : Nat) : Int) := by
  have := bit_lt h
  have e : (2 : Int) ^ (h % 64).toNat = ((2 ^ (h % 64).toNat : Nat) : Int) := by simp
  rw [e]
  generalize 2 ^ (h % 64).toNat = x at *
  simp [IntKind.wrap, IntKind.signed, IntKind.bits]
  omega

/-- '(memberSet).add' -/
theorem add_any (w : World) (mb n : Nat) (L : List (Int × Int)) (g h : Int) (wg : W64 g) (wh : W64 h) (h0 : 0 ≤ h) (hown : OwnsW w mb n L) (hn : n < maxLen) :
    Calls Try.prog 10 #[.map (some mb), .int .i64 g, .int .i64 h] w fun e w' => e = .returned (.bool (!L.any (samePair g h))) ∧ OwnsW w' mb (n + 1) (L ++ [(g, h)]) ∧ Chg (fun k => k = mb) w w' := by
  obtain ⟨D, ho, hat, hhas, hsz⟩ := hown
  have wr := wh.div h0
  have hr := quo_is wh h0
  have hb := bit_is h
  have hc := hat g (h / 64) wg wr
  have hlt := wordOf_lt L g (h / 64)
  have hbl := bit_lt h
  have hand := u64_and_nat (wordOf L g (h / 64)) (2 ^ (h % 64).toNat) hlt hbl
  have hor := u64_or_nat (wordOf L g (h / 64)) (2 ^ (h % 64).toNat) hlt hbl
  have hbit := wordOf_has L g h
  cases hp : L.any (samePair g h) with
  | true =>
    have hne : (bits .and .u64 ((wordOf L g (h / 64) : Nat) : Int) ((2 ^ (h % 64).toNat : Nat) : Int) != 0) = true := by
      rw [hand]
      have := and_pos _ _ (hbit.trans hp)
      simpa using this
    have hown2 : OwnsW w mb (n + 1) (L ++ [(g, h)]) :=
      ⟨D, ho.mono (Nat.le_succ _), fun g' r' hg hr => by rw [wordOf_held L g h hp]; exact hat g' r' hg hr, fun g' r' hg hr => by
        rw [hhas g' r' hg hr, List.any_append]
        cases hs : sameWord g' r' (g, h)
        · simp [hs]
        · simp [sameWord] at hs
          obtain ⟨rfl, rfl⟩ := hs
          rw [any_word hp]
          rfl, by
        rw [cnt_snoc, hsz]
        have : L.any (sw (g, h)) = true := any_word hp
        simp [this]⟩
    have hfin := hown2.chg (((Chg.refl (fun _ => False) w).alloc (.cells #[.int .i64 g, .int .i64 (h / 64)] 33))) (by simp)
    refine (add_held w mb n D g h (h / 64) _ _ wg wr h0 hr hb ho hc hne).mono ?_
    rintro e w' ⟨rfl, hw⟩
    replace hw := hw.symm
    subst hw
    exact ⟨rfl, hfin, (Chg.refl _ w).alloc _⟩
  | false =>
    have hne : (bits .and .u64 ((wordOf L g (h / 64) : Nat) : Int) ((2 ^ (h % 64).toNat : Nat) : Int) != 0) = false := by
      rw [hand]
      have := and_zero _ _ (hbit.trans hp)
      rw [this]
      rfl
    refine (add_new w mb n D g h (h / 64) _ _ wg wr h0 hr hb ho hn hc hne (wf_bits _ _ _ _)).mono ?_
    rintro e w' ⟨rfl, hown', hch⟩
    refine ⟨rfl, ⟨_, hown', fun g' r' hg hr => ?_, fun g' r' hg hr => ?_, ?_⟩, hch⟩
    · rw [hor]
      by_cases he : kl g' r' = kl g (h / 64)
      · obtain ⟨rfl, rfl⟩ := kl_inj hg hr wg wr he
        rw [atKey_put_same ho.isMap (isKey_kl _ _), wordOf_snoc]
        simp [wstep, sameWord]
      · rw [atKey_put_other he, hat g' r' hg hr, wordOf_snoc]
        have hs : sameWord g' r' (g, h) = false := by
          rw [Bool.eq_false_iff]
          intro hs
          simp [sameWord] at hs
          obtain ⟨rfl, rfl⟩ := hs
          exact he rfl
        simp [wstep, hs]
    · by_cases he : kl g' r' = kl g (h / 64)
      · obtain ⟨rfl, rfl⟩ := kl_inj hg hr wg wr he
        rw [has_put_same ho.isMap (isKey_kl _ _)]
        simp [sameWord]
      · rw [has_put_other he, hhas g' r' hg hr]
        have hs : sameWord g' r' (g, h) = false := by
          rw [Bool.eq_false_iff]
          intro hs
          simp [sameWord] at hs
          obtain ⟨rfl, rfl⟩ := hs
          exact he rfl
        simp [hs]
    · rw [size_put (ho.tidy keyed33), cnt_snoc, hhas g (h / 64) wg wr, hsz]
      have : L.any (sw (g, h)) = L.any (sameWord g (h / 64)) := rfl
      rw [this]
      split <;> simp_all

end Go.Proofs.Qxb6605519a
