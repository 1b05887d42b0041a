import Derived.Below
namespace Go.Proofs.Qxb6605408a

/-- f, but v at i -/
def upd {α : Type} (f : Nat → α) (i : Nat) (v : α) : Nat → α := fun j => if j = i then v else f j
theorem upd_same {α : Type} (f : Nat → α) (i : Nat) (v : α) : upd f i v i = v := by simp [upd]
theorem upd_other {α : Type} {f : Nat → α} {i j : Nat} {v : α} (h : j ≠ i) : upd f i v j = f j := by simp [upd, h]

/-- how often x stands among g a, .., g (a + k - 1) -/
def occ (g : Nat → Nat) (a : Nat) : Nat → Nat → Nat
  | 0, _ => 0
  | k + 1, x => occ g a k x + (if g (a + k) = x then 1 else 0)

theorem occ_zero (g : Nat → Nat) (a : Nat) (x : Nat) : occ g a 0 x = 0 := rfl
theorem occ_succ (g : Nat → Nat) (a k : Nat) (x : Nat) : occ g a (k + 1) x = occ g a k x + (if g (a + k) = x then 1 else 0) := rfl
theorem occ_le (g : Nat → Nat) (a : Nat) (x : Nat) : ∀ k, occ g a k x ≤ k
  | 0 => Nat.le_refl _
  | k + 1 => by
    have := occ_le g a x k
    rw [occ_succ]
    split <;> omega

theorem occ_congr {g g' : Nat → Nat} {a : Nat} {x : Nat} : ∀ {k}, (∀ j, j < k → g (a + j) = g' (a + j)) → occ g a k x = occ g' a k x
  | 0, _ => rfl
  | k + 1, h => by rw [occ_succ, occ_succ, occ_congr (fun j hj => h j (by omega)), h k (by omega)]

theorem occ_upd_out {g : Nat → Nat} {a p : Nat} {v x : Nat} {k : Nat} (h : p < a ∨ a + k ≤ p) : occ (upd g p v) a k x = occ g a k x :=
  occ_congr (fun j hj => upd_other (by omega))

theorem occ_add (g : Nat → Nat) (a k : Nat) (x : Nat) : ∀ m, occ g a (k + m) x = occ g a k x + occ g (a + k) m x
  | 0 => by simp [occ]
  | m + 1 => by
    rw [← Nat.add_assoc, occ_succ, occ_succ, occ_add g a k x m, Nat.add_assoc a k m]
    omega

theorem occ_mono (g : Nat → Nat) (a : Nat) (x : Nat) {k m : Nat} (h : k ≤ m) : occ g a k x ≤ occ g a m x := by
  obtain ⟨d, rfl⟩ := Nat.exists_eq_add_of_le h
  rw [occ_add]
  omega

theorem occ_pos {g : Nat → Nat} {a x : Nat} : ∀ {k}, 0 < occ g a k x → ∃ j, j < k ∧ g (a + j) = x
  | 0, h => by simp [occ] at h
  | k + 1, h => by
    rw [occ_succ] at h
    by_cases e : g (a + k) = x
    · exact ⟨k, by omega, e⟩
    · rw [if_neg e] at h
      obtain ⟨j, hj, he⟩ := occ_pos (k := k) (by omega)
      exact ⟨j, by omega, he⟩

theorem occ_pos_of {g : Nat → Nat} {a x k j : Nat} (hj : j < k) (h : g (a + j) = x) : 0 < occ g a k x := by
  have h1 := occ_mono g a x (show j + 1 ≤ k by omega)
  rw [occ_succ, if_pos h] at h1
  omega

/-- the sum of f 0, .., f (k - 1) -/
def sumTo (f : Nat → Nat) : Nat → Nat
  | 0 => 0
  | k + 1 => sumTo f k + f k

theorem sumTo_succ (f : Nat → Nat) (k : Nat) : sumTo f (k + 1) = sumTo f k + f k := rfl
theorem sumTo_congr {f f' : Nat → Nat} : ∀ {k}, (∀ j, j < k → f j = f' j) → sumTo f k = sumTo f' k
  | 0, _ => rfl
  | k + 1, h => by rw [sumTo_succ, sumTo_succ, sumTo_congr (fun j hj => h j (by omega)), h k (by omega)]
theorem sumTo_const0 : ∀ k, sumTo (fun _ => 0) k = 0
  | 0 => rfl
  | k + 1 => by rw [sumTo_succ, sumTo_const0 k]
theorem sumTo_add (f g : Nat → Nat) : ∀ k, sumTo (fun j => f j + g j) k = sumTo f k + sumTo g k
  | 0 => rfl
  | k + 1 => by simp only [sumTo_succ, sumTo_add f g k]; omega
theorem sumTo_le {f g : Nat → Nat} : ∀ {k}, (∀ j, j < k → f j ≤ g j) → sumTo f k ≤ sumTo g k
  | 0, _ => Nat.le_refl _
  | k + 1, h => by
    have h1 := sumTo_le (f := f) (g := g) (k := k) (fun j hj => h j (by omega))
    have h2 := h k (by omega)
    rw [sumTo_succ, sumTo_succ]; omega
theorem sumTo_mono (f : Nat → Nat) {j k : Nat} (h : j ≤ k) : sumTo f j ≤ sumTo f k := by
  induction h with
  | refl => exact Nat.le_refl _
  | step _ ih => rw [sumTo_succ]; omega
theorem sumTo_term (f : Nat → Nat) {i k : Nat} (hi : i < k) : f i ≤ sumTo f k := by
  have := sumTo_mono f (show i + 1 ≤ k by omega)
  rw [sumTo_succ] at this
  omega
/-- no one is more, and the sums are one: then each is one -/
theorem sumTo_eq {f g : Nat → Nat} : ∀ {k}, (∀ j, j < k → f j ≤ g j) → sumTo f k = sumTo g k → ∀ i, i < k → f i = g i
  | k + 1, h, h0, i, hi => by
    have h1 := sumTo_le (f := f) (g := g) (k := k) (fun j hj => h j (by omega))
    have h2 := h k (by omega)
    rw [sumTo_succ, sumTo_succ] at h0
    by_cases e : i = k
    · subst e; omega
    · exact sumTo_eq (f := f) (g := g) (k := k) (fun j hj => h j (by omega)) (by omega) i (by omega)
/-- the sum over a single place -/
theorem sumTo_single (x : Nat) (k : Nat) (hk : x < k) : sumTo (fun j => if x = j then 1 else 0) k = 1 := by
  have : ∀ m : Nat, sumTo (fun j => if x = j then 1 else 0) m = if x < m then 1 else 0 := by
    intro m
    induction m with
    | zero => rfl
    | succ m ih =>
      rw [sumTo_succ, ih]
      by_cases h1 : x < m
      · rw [if_pos h1, if_neg (by omega), if_pos (by omega)]
      · by_cases h2 : x = m
        · rw [if_neg h1, if_pos h2, if_pos (by omega)]
        · rw [if_neg h1, if_neg h2, if_neg (by omega)]
  rw [this, if_pos hk]

/-- all occurrences together: how many there are -/
theorem sum_occ {g : Nat → Nat} {a n : Nat} : ∀ {k}, (∀ j, j < k → g (a + j) < n) → sumTo (fun x => occ g a k x) n = k
  | 0, _ => sumTo_const0 n
  | k + 1, h => by
    have h1 := sum_occ (g := g) (a := a) (n := n) (k := k) (fun j hj => h j (by omega))
    have h2 := h k (by omega)
    show sumTo (fun x => occ g a k x + (if g (a + k) = x then 1 else 0)) n = _
    rw [sumTo_add, h1, sumTo_single _ _ h2]

/-! ### the transposed lists, laid by counting -/

/-- how many edges lead to w -/
def din (S D : Nat → Nat) (n w : Nat) : Nat := occ D (S 0) (S n - S 0) w
/-- where the list of w begins -/
def psum (S D : Nat → Nat) (n j : Nat) : Nat := sumTo (din S D n) j
/-- tStart while it counts: edges up to e -/
def T1 (S D : Nat → Nat) (e j : Nat) : Nat := if j = 0 then 0 else occ D (S 0) (e - S 0) (j - 1)
/-- tStart while it sums up: k places done -/
def T2 (S D : Nat → Nat) (n k j : Nat) : Nat := if j ≤ k then psum S D n j else din S D n (j - 1)

theorem T1_step {S D : Nat → Nat} {e : Nat} (h : S 0 ≤ e) (j : Nat) : T1 S D (e + 1) j = if j = D e + 1 then T1 S D e j + 1 else T1 S D e j := by
  unfold T1
  by_cases h0 : j = 0
  · simp [h0]
  · rw [if_neg h0, if_neg h0, show e + 1 - S 0 = (e - S 0) + 1 by omega, occ_succ, show S 0 + (e - S 0) = e by omega]
    by_cases h1 : j = D e + 1
    · rw [if_pos h1, if_pos (by omega)]
    · rw [if_neg h1, if_neg (by omega)]; rfl

theorem T2_start {S D : Nat → Nat} {n : Nat} (j : Nat) : T1 S D (S n) j = T2 S D n 0 j := by
  unfold T1 T2
  by_cases h0 : j = 0
  · subst h0; simp [psum, sumTo]
  · rw [if_neg h0, if_neg (by omega)]; rfl

theorem T2_step {S D : Nat → Nat} {n k : Nat} (j : Nat) : T2 S D n (k + 1) j = if j = k + 1 then T2 S D n k (k + 1) + T2 S D n k k else T2 S D n k j := by
  unfold T2
  by_cases h1 : j = k + 1
  · subst h1
    rw [if_pos (Nat.le_refl _), if_pos rfl, if_neg (by omega), if_pos (Nat.le_refl _)]
    show sumTo _ (k + 1) = _
    rw [sumTo_succ]
    simp only [psum, Nat.add_sub_cancel]
    omega
  · rw [if_neg h1]
    by_cases h2 : j ≤ k
    · rw [if_pos (by omega), if_pos h2]
    · rw [if_neg (by omega), if_neg h2]

theorem T2_end {S D : Nat → Nat} {n j : Nat} (h : j ≤ n) : T2 S D n n j = psum S D n j := if_pos h

theorem psum_total {S D : Nat → Nat} {n : Nat} (hD : ∀ e, S 0 ≤ e → e < S n → D e < n) : psum S D n n = S n - S 0 := by
  unfold psum
  exact sum_occ (fun j hj => hD _ (by omega) (by omega))

theorem psum_succ (S D : Nat → Nat) (n w : Nat) : psum S D n (w + 1) = psum S D n w + din S D n w := rfl

/-- the count up to e, one more where the edge e leads there, is no more than the whole -/
theorem occ_lt_din {S D : Nat → Nat} {n e : Nat} (h0 : S 0 ≤ e) (h1 : e < S n) : occ D (S 0) (e - S 0) (D e) < din S D n (D e) := by
  have := occ_mono D (S 0) (D e) (show (e - S 0) + 1 ≤ S n - S 0 by omega)
  rw [occ_succ, show S 0 + (e - S 0) = e by omega, if_pos rfl] at this
  unfold din
  omega
theorem occ_le_din {S D : Nat → Nat} {n e w : Nat} (h1 : e ≤ S n) : occ D (S 0) (e - S 0) w ≤ din S D n w := occ_mono D (S 0) w (by omega)

/-- how many of the edges that were laid from u on, and at u up to e, lead from x to w -/
def laid (S D : Nat → Nat) (u e x w : Nat) : Nat := if x < u then occ D (S x) (S (x + 1) - S x) w else if x = u then occ D (S u) (e - S u) w else 0

/-- t, with the edges up to e (of the vertex u) laid -/
structure TLaid (S D : Nat → Nat) (n u e : Nat) (t : Nat → Nat) : Prop where
  val : ∀ i, i < psum S D n n → t i < n
  cnt : ∀ w, w < n → ∀ x, occ t (psum S D n w) (occ D (S 0) (e - S 0) w) x = laid S D u e x w

theorem laid_zero {S D : Nat → Nat} (x w : Nat) : laid S D 0 (S 0) x w = 0 := by
  unfold laid
  by_cases h : x = 0
  · subst h; simp [occ]
  · simp [h]

theorem TLaid.start {S D : Nat → Nat} {n : Nat} (hD : ∀ e, S 0 ≤ e → e < S n → D e < n) : TLaid S D n 0 (S 0) (fun _ => 0) := by
  refine ⟨fun i hi => ?_, fun w hw x => ?_⟩
  · rcases Nat.eq_zero_or_pos n with h | h
    · subst h; simp [psum, sumTo] at hi
    · exact h
  · rw [laid_zero, Nat.sub_self]; rfl

theorem laid_next {S D : Nat → Nat} {u x w : Nat} (hm : S u ≤ S (u + 1)) : laid S D u (S (u + 1)) x w = laid S D (u + 1) (S (u + 1)) x w := by
  unfold laid
  by_cases h1 : x < u
  · rw [if_pos h1, if_pos (by omega)]
  · by_cases h2 : x = u
    · subst h2; rw [if_neg h1, if_pos rfl, if_pos (by omega)]
    · rw [if_neg h1, if_neg h2, if_neg (by omega)]
      by_cases h3 : x = u + 1
      · rw [if_pos h3, Nat.sub_self]; rfl
      · rw [if_neg h3]

theorem TLaid.next {S D : Nat → Nat} {n u : Nat} {t : Nat → Nat} (h : TLaid S D n u (S (u + 1)) t) (hm : S u ≤ S (u + 1)) : TLaid S D n (u + 1) (S (u + 1)) t :=
  ⟨h.val, fun w hw x => by rw [h.cnt w hw x, laid_next hm]⟩

theorem TLaid.step {S D : Nat → Nat} {n u e : Nat} {t : Nat → Nat} (h : TLaid S D n u e t) (hu : u < n) (hue : S u ≤ e) (h0 : S 0 ≤ e) (h1 : e < S n) :
    TLaid S D n u (e + 1) (upd t (psum S D n (D e) + occ D (S 0) (e - S 0) (D e)) u) := by
  have hlt := occ_lt_din (D := D) h0 h1
  refine ⟨fun i hi => ?_, fun w hw x => ?_⟩
  · by_cases e1 : i = psum S D n (D e) + occ D (S 0) (e - S 0) (D e)
    · subst e1; rw [upd_same]; exact hu
    · rw [upd_other e1]; exact h.val i hi
  · have es : e + 1 - S 0 = (e - S 0) + 1 := by omega
    have hl : laid S D u (e + 1) x w = laid S D u e x w + (if x = u ∧ D e = w then 1 else 0) := by
      unfold laid
      by_cases c1 : x < u
      · rw [if_pos c1, if_pos c1, if_neg (by omega)]; rfl
      · rw [if_neg c1, if_neg c1]
        by_cases c2 : x = u
        · rw [if_pos c2, if_pos c2, show e + 1 - S u = (e - S u) + 1 by omega, occ_succ, show S u + (e - S u) = e by omega]
          simp [c2]
        · rw [if_neg c2, if_neg c2, if_neg (by omega)]
    rw [hl, es, occ_succ, show S 0 + (e - S 0) = e by omega]
    by_cases c : D e = w
    · subst c
      rw [if_pos rfl, occ_succ, upd_same, occ_upd_out (.inr (Nat.le_refl _)), h.cnt _ hw x]
      by_cases c2 : u = x
      · simp [c2]
      · have c3 : ¬ x = u := fun h => c2 h.symm
        simp [c2, c3]
    · rw [if_neg c, if_neg (by omega), Nat.add_zero, Nat.add_zero, ← h.cnt w hw x]
      refine occ_upd_out ?_
      have hw1 := occ_le_din (S := S) (D := D) (n := n) (e := e) (w := w) (by omega)
      have p1 := psum_succ S D n w
      have p2 := psum_succ S D n (D e)
      rcases Nat.lt_or_ge (D e) w with c3 | c3
      · have := sumTo_mono (din S D n) (show D e + 1 ≤ w by omega)
        change psum S D n (D e + 1) ≤ psum S D n w at this
        omega
      · have := sumTo_mono (din S D n) (show w + 1 ≤ D e by omega)
        change psum S D n (w + 1) ≤ psum S D n (D e) at this
        omega

/-- in the end the list of w holds each x as often as an edge leads from x to w -/
theorem TLaid.whole {S D : Nat → Nat} {n : Nat} {t : Nat → Nat} (h : TLaid S D n n (S n) t) {w x : Nat} (hw : w < n) (hx : x < n) : occ t (psum S D n w) (din S D n w) x = occ D (S x) (S (x + 1) - S x) w := by
  have := h.cnt w hw x
  unfold laid at this
  rw [if_pos hx] at this
  exact this

end Go.Proofs.Qxb6605408a
