import Derived.Test.Qxb6605408aTrans
import Derived.Test.Qxb6605408aPlain
import Derived.Deep.AppendLies
import Derived.Maps.AppendAt
namespace Go.Proofs.Qxb6605408a
open Go.RowKit
set_option linter.unusedVariables false

theorem laterCell' {S : Nat → Prop} {w w' : World} (h : Chg S w w') {b i : Nat} {v : Value} (hs : ¬ S b) (hc : w.cell? ⟨b, i, none⟩ = some v) : w'.cell? ⟨b, i, none⟩ = some v :=
  (h.cell (p := ⟨b, i, none⟩) (lt_of_cell (a := ⟨b, i, none⟩) hc) hs).trans hc

/-- what holds of a game with no word on memory -/
structure GOk (g : G) (nD cD nR cR : Nat) : Prop where
  n0 : 0 < g.n
  n1 : g.n ≤ 1048576
  mS : ∀ a b, a ≤ b → b ≤ g.n → g.S a ≤ g.S b
  mQ : ∀ a b, a ≤ b → b ≤ g.n → g.Q a ≤ g.Q b
  sD : g.S g.n ≤ nD
  dD : nD ≤ 1048576
  eD : nD ≤ cD
  sR : g.Q g.n ≤ nR
  dR : nR ≤ 1048576
  eR : nR ≤ cR
  vD : ∀ e, g.S 0 ≤ e → e < g.S g.n → g.D e < g.n
  vR : ∀ e, g.Q 0 ≤ e → e < g.Q g.n → g.R e < g.n

/-- the blocks that an attract writes -/
def tri (gA gC gR : Nat) (k : Nat) : Prop := k = gA ∨ k = gC ∨ k = gR

/-- the solver in memory: what an attract reads and does not write -/
structure AEnv (w : World) (g : G) (sb gb gA gC gR bL bV bS bQ : Nat) (cL cA cC cR cV cS cQ : Nat) (aD : Option Addr) (nD cD : Nat) (aR : Option Addr) (nR cRr : Nat) : Prop where
  c0 : w.cell? ⟨sb, 0, none⟩ = some (.pointer (some ⟨gb, 0, none⟩))
  c1 : w.cell? ⟨sb, 1, none⟩ = some (.slice (some ⟨bL, 0, none⟩) g.n cL)
  c3 : w.cell? ⟨sb, 3, none⟩ = some (.slice (some ⟨gA, 0, none⟩) g.n cA)
  c4 : w.cell? ⟨sb, 4, none⟩ = some (.slice (some ⟨gC, 0, none⟩) g.n cC)
  c5 : w.cell? ⟨sb, 5, none⟩ = some (.slice (some ⟨gR, 0, none⟩) g.n cR)
  c7 : w.cell? ⟨sb, 7, none⟩ = some (.slice (some ⟨bQ, 0, none⟩) (g.n + 1) cQ)
  c8 : w.cell? ⟨sb, 8, none⟩ = some (.slice aR nR cRr)
  g0 : w.cell? ⟨gb, 0, none⟩ = some (.slice (some ⟨bV, 0, none⟩) g.n cV)
  g2 : w.cell? ⟨gb, 2, none⟩ = some (.slice (some ⟨bS, 0, none⟩) (g.n + 1) cS)
  g3 : w.cell? ⟨gb, 3, none⟩ = some (.slice aD nD cD)
  lev : ∀ j, j < g.n → w.cell? ⟨bL, j, none⟩ = some (.int .i32 (g.lev j))
  ver : ∀ j, j < g.n → w.cell? ⟨bV, j, none⟩ = some (.bool (g.V j))
  st : ∀ j, j < g.n + 1 → w.cell? ⟨bS, j, none⟩ = some (.int .i32 (g.S j))
  ps : ∀ j, j < g.n + 1 → w.cell? ⟨bQ, j, none⟩ = some (.int .i32 (g.Q j))
  su : Part w aD (g.S 0) (g.S g.n) g.D
  pr : Part w aR (g.Q 0) (g.Q g.n) g.R
  apart : ¬ tri gA gC gR sb ∧ ¬ tri gA gC gR gb ∧ ¬ tri gA gC gR bL ∧ ¬ tri gA gC gR bV ∧ ¬ tri gA gC gR bS ∧ ¬ tri gA gC gR bQ ∧ (∀ y, aD = some y → ¬ tri gA gC gR y.block) ∧ (∀ y, aR = some y → ¬ tri gA gC gR y.block)

theorem Part.chg {P : Nat → Prop} {w w' : World} {a : Option Addr} {lo hi : Nat} {D : Nat → Nat} (h : Part w a lo hi D) (hb : Chg P w w') (hs : ∀ y, a = some y → ¬ P y.block) : Part w' a lo hi D := by
  intro h0
  obtain ⟨b, off, ha, hlt, hc⟩ := h h0
  exact ⟨b, off, ha, Nat.lt_of_lt_of_le hlt hb.size, fun j h1 h2 => by rw [← hc j h1 h2]; exact hb.cell (p := ⟨b, off + j, none⟩) hlt (hs ⟨b, off, none⟩ ha)⟩

theorem AEnv.chg {w w' : World} {g : G} {sb gb gA gC gR bL bV bS bQ cL cA cC cR cV cS cQ : Nat} {aD : Option Addr} {nD cD : Nat} {aR : Option Addr} {nR cRr : Nat}
    (h : AEnv w g sb gb gA gC gR bL bV bS bQ cL cA cC cR cV cS cQ aD nD cD aR nR cRr) (hc : Chg (tri gA gC gR) w w') : AEnv w' g sb gb gA gC gR bL bV bS bQ cL cA cC cR cV cS cQ aD nD cD aR nR cRr := by
  obtain ⟨a1, a2, a3, a4, a5, a6, a7, a8⟩ := h.apart
  exact ⟨laterCell' hc a1 h.c0, laterCell' hc a1 h.c1, laterCell' hc a1 h.c3, laterCell' hc a1 h.c4, laterCell' hc a1 h.c5, laterCell' hc a1 h.c7, laterCell' hc a1 h.c8, laterCell' hc a2 h.g0, laterCell' hc a2 h.g2, laterCell' hc a2 h.g3,
    fun j hj => laterCell' hc a3 (h.lev j hj), fun j hj => laterCell' hc a4 (h.ver j hj), fun j hj => laterCell' hc a5 (h.st j hj), fun j hj => laterCell' hc a6 (h.ps j hj), h.su.chg hc a7, h.pr.chg hc a8, h.apart⟩

theorem isz (k : IntKind) (x : Int) : ∀ u ∈ [Value.int k x], u.oneCell' = true := by
  intro u hu
  simp at hu
  subst hu
  rfl

def qcells (q : List Nat) : List Value := q.map fun (v : Nat) => Value.int .i32 (v : Int)

/-- the three rows and the queue, as they stand -/
structure Rows3 (w : World) (B : Nat) (g : G) (gA gC gR : Nat) (qb qc : Nat) (s : ST) : Prop where
  rA : w.rowIs gA 21 g.n (fun i => .int .i32 (s.att i))
  rC : w.rowIs gC 21 g.n (fun i => .int .i32 (s.cnt i))
  rR : w.rowIs gR 21 g.n (fun i => .int .i32 (s.rem i))
  qu : w.ownsRow B 21 1 (.slice (some ⟨qb, 0, none⟩) s.q.length qc) s.q.length (qcells s.q)

theorem cutRun (a : Option Addr) (n c lo hi : Nat) (h1 : lo ≤ hi) (h2 : hi ≤ c) : ∃ a', (∀ W : World, (Instr.slice 23 (.slice a n c) (some (.int .i32 (lo : Int))) (some (.int .i32 (hi : Int))) none).run Try.prog W = .ok (.slice a' (hi - lo) (c - lo)) W) ∧
    (lo < hi → ∀ b off, a = some ⟨b, off, none⟩ → a' = some ⟨b, off + lo, none⟩) := by
  refine ⟨if c = lo then a else a.map (·.add (lo * 1)), fun W => ?_, fun hlt b off ha => ?_⟩
  · have h := run_slice_lh (P := Try.prog) (w := W) 23 a n c (by kernel_rfl) .i32 .i32 (lo : Int) (hi : Int) (by omega) (by omega) (by omega)
    rw [h]
    have hz : (sizeOf (Try.prog.elem 23)).run Try.prog W = .ok 1 W := by kernel_rfl
    rw [hz]
    simp [Result.andThen, sliced]
  · rw [if_neg (by omega), ha]
    simp [Addr.add]

theorem makeQ (n : Nat) (hn : n ≤ 1048576) (W : World) : (Instr.makeSlice 23 (.int .i64 0) (.int .i64 (n : Int))).run Try.prog W = .ok (.slice (some ⟨W.heap.size, 0, none⟩) 0 n) (W.alloc (.cells (madeCells #[.int .i32 0] n) 21)) := by
  obtain ⟨i, hi, h0, h1, h2⟩ := info_parts info21
  have h := run_make (P := Try.prog) W 23 21 i (.int .i32 0) Try.underlying23 hi h0 .i64 .i64 0 (n : Int) (by omega) (by omega) (by rw [h2]; omega) (by omega)
  rw [h1] at h
  simpa [Value.cells] using h

/-- one entry: where it changes nothing -/
theorem step_low {g : G} {u : Nat} {s : ST} (h : g.lev u < g.dp) : stepU g u s = s := if_pos (.inl h)
theorem step_in {g : G} {u : Nat} {s : ST} (h : s.att u = g.a) : stepU g u s = s := if_pos (.inr h)
theorem step_own {g : G} {u : Nat} {s : ST} (h1 : ¬ g.lev u < g.dp) (h2 : s.att u ≠ g.a) (h3 : g.V u = g.vf) : stepU g u s = { s with att := upd s.att u g.a, q := s.q ++ [u] } := by
  unfold stepU
  rw [if_neg (fun h => h.elim h1 h2), if_pos h3]
theorem step_keep {g : G} {u : Nat} {s : ST} (h1 : ¬ g.lev u < g.dp) (h2 : s.att u ≠ g.a) (h3 : g.V u ≠ g.vf) (h4 : 0 < left g u s) : stepU g u s = { s with cnt := upd s.cnt u g.a, rem := upd s.rem u (left g u s) } := by
  unfold stepU
  rw [if_neg (fun h => h.elim h1 h2), if_neg h3, if_pos h4]
theorem step_take {g : G} {u : Nat} {s : ST} (h1 : ¬ g.lev u < g.dp) (h2 : s.att u ≠ g.a) (h3 : g.V u ≠ g.vf) (h4 : ¬ 0 < left g u s) : stepU g u s = { att := upd s.att u g.a, cnt := upd s.cnt u g.a, rem := upd s.rem u (left g u s), q := s.q ++ [u] } := by
  unfold stepU
  rw [if_neg (fun h => h.elim h1 h2), if_neg h3, if_neg h4]

theorem upd_row {w : World} {b n i : Nat} {f : Nat → Int} {v : Int} (h : w.rowIs b 21 n (fun j => .int .i32 (f j))) : (w.setCell ⟨b, i, none⟩ (.int .i32 v)).rowIs b 21 n (fun j => .int .i32 (upd f i v j)) :=
  (h.set i _).congr (fun j _ => by
    by_cases e : j = i
    · subst e; rw [if_pos rfl, upd_same]
    · rw [if_neg e, upd_other e])

theorem qcells_snoc (q : List Nat) (u : Nat) : qcells (q ++ [u]) = qcells q ++ [.int .i32 (u : Int)] := by simp [qcells]
theorem innerTo_q (g : G) (v : Nat) (s : ST) (k : Nat) : ∃ m, (innerTo g v k s).q = s.q ++ m := by rw [innerTo_steps]; exact steps_q g _ s
set_option maxRecDepth 100000 in
set_option maxHeartbeats 16000000 in
theorem attract_main (w : World) (g : G) (s0 : ST) (at_ : Int) (sb gb gA gC gR bL bV bS bQ cL cA cC cR cV cS cQ : Nat) (aD : Option Addr) (nD cD : Nat) (aR : Option Addr) (nR cRr : Nat)
    (bt ot nt ct : Nat) (T : Nat → Nat) (ht0 : 0 < nt) (ht1 : nt ≤ 1048576) (hT : ∀ i, i < nt → T i < g.n) (hbt : bt < w.heap.size) (hct : ∀ i, i < nt → w.cell? ⟨bt, ot + i, none⟩ = some (.int .i32 (T i)))
    (hbtA : ¬ tri gA gC gR bt ∧ bt ≠ sb) (hg : GOk g nD cD nR cRr) (ha : g.a = wrap32 (at_ + 1))
    (h6 : w.cell? ⟨sb, 6, none⟩ = some (.int .i32 at_)) (f6 : w.frozen? ⟨sb, 6, none⟩ = false)
    (he : AEnv (w.setCell ⟨sb, 6, none⟩ (.int .i32 g.a)) g sb gb gA gC gR bL bV bS bQ cL cA cC cR cV cS cQ aD nD cD aR nR cRr) (hd : gA ≠ gC ∧ gA ≠ gR ∧ gC ≠ gR)
    (rA : w.rowIs gA 21 g.n (fun i => .int .i32 (s0.att i))) (rC : w.rowIs gC 21 g.n (fun i => .int .i32 (s0.cnt i))) (rR : w.rowIs gR 21 g.n (fun i => .int .i32 (s0.rem i))) :
    Calls Try.prog 24 #[.pointer (some ⟨sb, 0, none⟩), .slice (some ⟨bt, ot, none⟩) nt ct, .bool g.vf, .int .i32 g.dp] w fun e w' => e = .returned (.int .i32 g.a) ∧ Chg (tri gA gC gR) (w.setCell ⟨sb, 6, none⟩ (.int .i32 g.a)) w' ∧
      w'.rowIs gA 21 g.n (fun i => .int .i32 ((attractF g T nt s0).att i)) ∧ w'.rowIs gC 21 g.n (fun i => .int .i32 ((attractF g T nt s0).cnt i)) ∧ w'.rowIs gR 21 g.n (fun i => .int .i32 ((attractF g T nt s0).rem i)) := by
  have hsb : sb < w.heap.size := lt_of_cell h6
  obtain ⟨W1, hW1⟩ : ∃ W, W = w.setCell ⟨sb, 6, none⟩ (.int .i32 g.a) := ⟨_, rfl⟩
  rw [← hW1] at he ⊢
  have hz1 : W1.heap.size = w.heap.size := by rw [hW1]; simp
  have hap := he.apart
  have r0 : W1.rowIs gA 21 g.n (fun i => .int .i32 (s0.att i)) ∧ W1.rowIs gC 21 g.n (fun i => .int .i32 (s0.cnt i)) ∧ W1.rowIs gR 21 g.n (fun i => .int .i32 (s0.rem i)) := by
    rw [hW1]
    have h1 := hap.1
    unfold tri at h1
    exact ⟨rA.setOther (by dsimp; omega) _, rC.setOther (by dsimp; omega) _, rR.setOther (by dsimp; omega) _⟩
  have ht : ∀ i, i < nt → W1.cell? ⟨bt, ot + i, none⟩ = some (.int .i32 (T i)) := fun i hi => by
    rw [hW1, cell_setCell_other (fun h => hbtA.2 (by rw [Addr.mk.injEq] at h; exact h.1.symm))]
    exact hct i hi
  obtain ⟨i0, hi, hz0, hz1', hz2⟩ := info_parts info21
  have hc3 := he.c3
  have H := hide he
  have HG := hide hg
  have HT := hide ht
  have HTn := hide hT
  have HR0 := hide r0
  have hwa : Hid (g.a = wrap32 (at_ + 1)) := ha
  have hn0 := hg.n0
  have hn1 := hg.n1
  have h6' : W1.cell? ⟨sb, 6, none⟩ = some (.int .i32 g.a) := by rw [hW1]; exact cell_setCell_same h6
  have hgA : gA < w.heap.size := by rw [← hz1]; exact r0.1.lt
  have hgC : gC < w.heap.size := by rw [← hz1]; exact r0.2.1.lt
  have hgR : gR < w.heap.size := by rw [← hz1]; exact r0.2.2.lt
  have HZ := hide hz1
  have HD := hide hd
  have HAP := hide hap
  have HBT := hide hbtA
  have HW1 := hide hW1
  have HH := hide (And.intro hc3 h6')
  clear he hg ht hT r0 ha hap hd rA rC rR hct hbtA hW1 hc3 h6' hz1
  have mk := makeQ nt ht1
  go_enter Try.func24, Try.ntmps24
  go_wp2
  rw [← unhide hwa, ← unhide HW1]
  clear mk
  go_loopw [10, 34] (fun v i wr => ∃ k qb qc : Nat, k ≤ nt ∧ i = .int .i64 k ∧ v = .slice (some ⟨qb, 0, none⟩) k qc ∧ Rows3 wr w.heap.size g gA gC gR qb qc (initTo g T s0 k) ∧ Chg (tri gA gC gR) W1 wr) (fun _ i _ => nt - (intOf i).toNat)
  case atStart =>
    obtain ⟨a1, a2, a3⟩ := unhide HR0
    refine ⟨0, w.heap.size, nt, Nat.zero_le _, rfl, by first | rfl | rw [unhide HZ], ⟨a1.alloc _, a2.alloc _, a3.alloc _, ?_⟩, (Chg.refl _ _).alloc _⟩
    rw [← unhide HZ]
    exact World.ownsRow_made W1 _ nt (Nat.le_refl _) (by unfold maxLen; omega) (by simp [size_madeCells])
  case round =>
    obtain ⟨k, qb, qc, hk, rfl, rfl, hr3, hch⟩ := hrel
    by_cases hlt : k < nt
    · have hcT : wr.cell? ⟨bt, ot + k, none⟩ = some (.int .i32 (T k)) := laterCell' hch (unhide HBT).1 (unhide HT k hlt)
      have hTk : T k < g.n := unhide HTn k hlt
      have g3 := laterCell' hch (unhide HAP).1 (unhide HH).1
      have gAc : wr.cell? ⟨gA, T k, none⟩ = some (.int .i32 ((initTo g T s0 k).att (T k))) := hr3.rA.cell hTk
      have gAf : wr.frozen? ⟨gA, T k, none⟩ = false := hr3.rA.frozen _
      have hws : w.heap.size ≤ wr.heap.size := by rw [← unhide HZ]; exact hch.size
      have hql := initTo_q g T s0 k
      have hqo := hr3.qu
      rw [hql] at hqo
      have HR3 := hide hr3
      clear hr3 hql
      go_wp2_with (at_builtin; go_must (refine wpList_append_lies _ rfl (.tmp 45) (.tmp 47) 23 rfl w.heap.size 21 i0 (.int .i32 0) 1 4 Try.underlying23 hi hz0 hz1' hz2 rfl (by decide) _ _ _ rfl ((ownsRow_setCell_below hqo hgA _).alloc _) ⟨wr.heap.size, 0, none⟩ 1 1 [.int .i32 (T k : Nat)] rfl rfl (by first | exact cell_one_new _ _ _ | (have h := cell_one_new (wr.setCell ⟨gA, T k, none⟩ (.int .i32 g.a)) (.int .i32 (T k : Nat)) 21; rwa [World.size_setCell] at h)) (isz _ _) (by decide) (by unfold maxLen; omega) (by omega) (by simp; omega) (wr.heap.size + 1) (by simp) ?_; intro qb' qc' w2 hown' hgrow hat hlt2))
      go_roundw
      case rel =>
        have hr3 := unhide HR3
        obtain ⟨dAC, dAR, dCR⟩ := unhide HD
        have hsz := hgrow.size
        simp at hsz
        have hgr : ((wr.setCell ⟨gA, T k, none⟩ (.int .i32 g.a)).alloc (.cells #[.int .i32 (T k : Nat)] 21)).grownBy w2 (some qb) := hgrow
        have hqlt := (hqo.lt qb rfl).1
        have hch2 : Chg (tri gA gC gR) W1 w2 := (((hch.setCell (p := ⟨gA, T k, none⟩) (fun _ => .inl rfl) (.int .i32 g.a)).alloc _).grown hgr (fun m hm hl => by cases hm; rw [unhide HZ] at hl; omega))
        have hbl : ∀ m, m < w.heap.size → w2.heap[m]? = (wr.setCell ⟨gA, T k, none⟩ (.int .i32 g.a)).heap[m]? := fun m hm => by
          rw [hgr.block m (by simp; omega) (fun e => by cases e; omega), Below.heap_alloc _ _ _ (by simp; omega)]
        refine ⟨k + 1, qb', qc', by omega, by go_num, rfl, ⟨?_, ?_, ?_, ?_⟩, hch2⟩
        · exact (upd_row hr3.rA).of_block (hbl _ hgA)
        · exact (hr3.rC.setOther (by dsimp; omega) _).of_block (hbl _ hgC)
        · exact (hr3.rR.setOther (by dsimp; omega) _).of_block (hbl _ hgR)
        · show w2.ownsRow _ _ _ (.slice _ ((initTo g T s0 k).q ++ [T k]).length _) ((initTo g T s0 k).q ++ [T k]).length (qcells ((initTo g T s0 k).q ++ [T k]))
          rw [qcells_snoc, List.length_append, initTo_q]
          exact hown'
      case measure => simp [intOf]; omega
    · have hke : nt = k := by omega
      subst hke
      obtain ⟨si, hsi⟩ : ∃ si, si = initTo g T s0 nt := ⟨_, rfl⟩
      have hql := initTo_q g T s0 nt
      have hG := unhide HG
      have hRok : ROk g := fun v hv m hm => by
        have h1 := hG.mQ 0 v (by omega) (by omega)
        have h2 := hG.mQ (v + 1) g.n (by omega) (Nat.le_refl _)
        exact hG.vR _ (by omega) (by omega)
      have hlen : ∀ m, (runTo g si m).q.length ≤ nt + g.n := fun m => by rw [hsi]; exact runTo_len hRok (unhide HTn) m
      have hqk : ∀ m, QOk g (runTo g si m) := fun m => (runTo_phi hRok (by rw [hsi]; exact initTo_ok (unhide HTn)) m).2
      have hfin : ∀ m, m ≤ (runTo g si m).q.length → (runTo g si m).q.length ≤ m → attractF g T nt s0 = runTo g si m := fun m h1 h2 => by rw [hsi] at h1 h2 ⊢; exact attractF_eq hRok (unhide HTn) h1 h2
      have hph : ∀ m s, s = runTo g si m → phi g s ≤ nt + g.n := fun m s e => by
        rw [e, (runTo_phi hRok (by rw [hsi]; exact initTo_ok (unhide HTn)) m).1, hsi]
        have h1 := un_le g (initTo g T s0 nt)
        have h2 := initTo_q g T s0 nt
        unfold phi
        omega
      have HPH := hide hph
      clear hph
      rw [← hsi] at hr3 hql
      have HLEN := hide hlen
      have HQK := hide hqk
      have HFIN := hide hfin
      have hr3' := hide hr3
      have HQL := hide hql
      clear hsi hql hG hRok hlen hqk hfin hr3
      have HE3 := hide (unhide H).c3
      have HE5 := hide (unhide H).c5
      go_wp2
      go_loopw [10, 13] (fun v i wr => ∃ i' qb qc : Nat, v = .slice (some ⟨qb, 0, none⟩) (runTo g si i').q.length qc ∧ i = .int .i64 i' ∧ i' ≤ (runTo g si i').q.length ∧ Rows3 wr w.heap.size g gA gC gR qb qc (runTo g si i') ∧ Chg (tri gA gC gR) W1 wr) (fun _ i _ => nt + g.n - (intOf i).toNat)
      case atStart => exact ⟨0, qb, qc, by show _ = Value.slice _ si.q.length _; rw [unhide HQL], rfl, Nat.zero_le _, unhide hr3', hch⟩
      case round =>
        clear hr3' hch
        obtain ⟨i', qb, qc, rfl, rfl, hi', hr3, hch⟩ := hrel
        have hlen1 := unhide HLEN i'
        by_cases hlt : i' < (runTo g si i').q.length
        · obtain ⟨s, hs⟩ : ∃ s, s = runTo g si i' := ⟨_, rfl⟩
          have hnext : runTo g si (i' + 1) = inner g ((runTo g si i').q[i']) (runTo g si i') := runTo_succ hlt
          have hvn0 : (runTo g si i').q[i'] < g.n := unhide HQK i' _ (List.getElem_mem hlt)
          have hcq : wr.cell? ⟨qb, i', none⟩ = some (.int .i32 ((runTo g si i').q[i'] : Nat)) := by
            rw [hr3.qu.cellAt i' (by omega)]
            simp [qcells, hlt]
          have hqmax := unhide HLEN (i' + 1)
          obtain ⟨v, hv⟩ : ∃ v, v = (runTo g si i').q[i'] := ⟨_, rfl⟩
          rw [← hv] at hnext hvn0 hcq
          rw [← hs] at hnext hi' hr3 hlen1 hlt ⊢
          have HN := hide hnext
          have HPHI : Hid (phi g s ≤ nt + g.n) := unhide HPH i' s hs
          clear hnext hv hs
          have henv := (unhide H).chg hch
          have e0 := henv.c7
          have e8 := henv.c8
          have p0 := henv.ps v (by omega)
          have p1 := henv.ps (v + 1) (by omega)
          have hG := unhide HG
          have hQ0 := hG.mQ 0 v (by omega) (by omega)
          have hQ1 := hG.mQ v (v + 1) (by omega) (by omega)
          have hQ2 := hG.mQ (v + 1) g.n (by omega) (Nat.le_refl _)
          have hQ3 := hG.sR
          have hQ4 := hG.eR
          have hQ5 := hG.dR
          obtain ⟨ac, hcut, hac⟩ := cutRun aR nR cRr (g.Q v) (g.Q (v + 1)) hQ1 (by omega)
          have hii : (i' : Int) < (s.q.length : Int) := by omega
          have hr3' := hide hr3
          have HAC := hide hac
          clear henv hG hr3 hac
          go_wp2
          go_quiet (fail)
          go_wp2
          go_loopw [10, 83] (fun v' i wr => ∃ k qb qc : Nat, v' = .slice (some ⟨qb, 0, none⟩) (innerTo g v k s).q.length qc ∧ i = .int .i64 k ∧ k ≤ g.Q (v + 1) - g.Q v ∧ Rows3 wr w.heap.size g gA gC gR qb qc (innerTo g v k s) ∧ Chg (tri gA gC gR) W1 wr) (fun _ i _ => (g.Q (v + 1) - g.Q v) - (intOf i).toNat)
          case atStart =>
            have h := unhide hr3'
            exact ⟨0, qb, qc, rfl, rfl, Nat.zero_le _, ⟨h.rA, h.rC, h.rR, h.qu⟩, hch.drewN _⟩
          case round =>
            clear hr3' hch hcut hcq e0 e8 p0 p1 hii
            obtain ⟨k, qb, qc, rfl, rfl, hk, hr3, hch⟩ := hrel
            obtain ⟨t, ht⟩ : ∃ t, t = innerTo g v k s := ⟨_, rfl⟩
            rw [← ht] at hr3 ⊢
            have hlenT : (innerTo g v k s).q.length ≤ nt + g.n := by
              have hG := unhide HG
              have hRok : ROk g := fun v hv m hm => by
                have h1 := hG.mQ 0 v (by omega) (by omega)
                have h2 := hG.mQ (v + 1) g.n (by omega) (Nat.le_refl _)
                exact hG.vR _ (by omega) (by omega)
              have h1 := (innerTo_phi hRok hvn0 s k hk).1
              have h2 := (innerTo_phi hRok hvn0 s _ (Nat.le_refl _)).1
              have h3 := (unhide HPHI)
              unfold phi at h1 h3
              omega
            rw [← ht] at hlenT
            by_cases hkl : k < g.Q (v + 1) - g.Q v
            · obtain ⟨u, hu0⟩ : ∃ u, u = g.R (g.Q v + k) := ⟨_, rfl⟩
              have henv := (unhide H).chg hch
              obtain ⟨bp, op, hap, hbp, hcp⟩ := henv.pr (by omega)
              have hcu : wr.cell? ⟨bp, op + g.Q v + k, none⟩ = some (.int .i32 (u : Nat)) := by
                rw [hu0, Nat.add_assoc]; exact hcp _ (by omega) (by omega)
              have hu : u < g.n := by rw [hu0]; exact (unhide HG).vR _ (by omega) (by omega)
              have hsub := unhide HAC (by omega) bp op hap
              have hI : Hid (innerTo g v (k + 1) s = stepU g u t) := by show _ = _; rw [hu0, ht]; rfl
              have c0 := henv.c0
              have c1 := henv.c1
              have c3 := henv.c3
              have c4 := henv.c4
              have g0 := henv.g0
              have lv : wr.cell? ⟨bL, u, none⟩ = some (.int .i32 (g.lev u)) := henv.lev u hu
              have vv : wr.cell? ⟨bV, u, none⟩ = some (.bool (g.V u)) := henv.ver u hu
              have aa : wr.cell? ⟨gA, u, none⟩ = some (.int .i32 (t.att u)) := hr3.rA.cell hu
              have af : wr.frozen? ⟨gA, u, none⟩ = false := hr3.rA.frozen u
              have cc : wr.cell? ⟨gC, u, none⟩ = some (.int .i32 (t.cnt u)) := hr3.rC.cell hu
              have cf : wr.frozen? ⟨gC, u, none⟩ = false := hr3.rC.frozen u
              have rr : wr.cell? ⟨gR, u, none⟩ = some (.int .i32 (t.rem u)) := hr3.rR.cell hu
              have rf : wr.frozen? ⟨gR, u, none⟩ = false := hr3.rR.frozen u
              have hki : (k : Int) < ((g.Q (v + 1) - g.Q v : Nat) : Int) := by omega
              have hws : w.heap.size ≤ wr.heap.size := by rw [← unhide HZ]; exact hch.size
              have HENV := hide henv
              have hr3' := hide hr3
              have hqo := hr3.qu
              clear hcp henv hr3 hu0 ht hap
              subst hsub
              by_cases k1 : g.lev u < g.dp
              · have d1 : decide (g.lev u < g.dp) = true := by simpa using k1
                go_wp2; go_roundw
                case rel =>
                  have hI2 := (unhide hI).trans (step_low k1)
                  exact ⟨k + 1, qb, qc, by rw [hI2], by go_num, by omega, by rw [hI2]; exact unhide hr3', hch⟩
                case measure => simp [intOf]; omega
              have d1 : decide (g.lev u < g.dp) = false := by simpa using k1
              have hlv := hide k1
              by_cases k2 : t.att u = g.a
              · have d2 : (t.att u == g.a) = true := by rw [beq_iff_eq]; exact k2
                have K2 := hide k2
                clear k2
                go_wp2; go_roundw
                case rel =>
                  have hI2 := (unhide hI).trans (step_in (unhide K2))
                  exact ⟨k + 1, qb, qc, by rw [hI2], by go_num, by omega, by rw [hI2]; exact unhide hr3', hch⟩
                case measure => simp [intOf]; omega
              have d2 : (t.att u == g.a) = false := by rw [beq_eq_false_iff_ne]; exact k2
              have hat0 : Hid (t.att u ≠ g.a) := k2
              clear k1 k2
              by_cases k3 : g.V u = g.vf
              · have d3 : (!(g.V u == g.vf)) = false := by rw [k3]; simp
                have hvn : Hid (g.V u = g.vf) := k3
                clear k3
                go_wp2_with (at_builtin; go_must (refine wpList_append_lies _ rfl (.tmp 218) (.tmp 220) 23 rfl w.heap.size 21 i0 (.int .i32 0) 1 4 Try.underlying23 hi hz0 hz1' hz2 rfl (by decide) _ _ _ rfl ((ownsRow_setCell_below hqo hgA _).alloc _) ⟨wr.heap.size, 0, none⟩ 1 1 [.int .i32 (u : Nat)] rfl rfl (by first | exact cell_one_new _ _ _ | (have h := cell_one_new (wr.setCell ⟨gA, u, none⟩ (.int .i32 g.a)) (.int .i32 (u : Nat)) 21; simp only [World.size_setCell] at h; exact h)) (isz _ _) (by decide) (by unfold maxLen; omega) (by omega) (by simp; omega) (wr.heap.size + 1) (by simp) ?_; intro qb' qc' w2 hown' hgrow hat hlt2))
                go_roundw
                case rel =>
                  obtain ⟨dAC, dAR, dCR⟩ := unhide HD
                  have hsz := hgrow.size
                  simp at hsz
                  have hgr : ((wr.setCell ⟨gA, u, none⟩ (.int .i32 g.a)).alloc (.cells #[.int .i32 (u : Nat)] 21)).grownBy w2 (some qb) := hgrow
                  have hqlt := (hqo.lt qb rfl).1
                  have hch2 : Chg (tri gA gC gR) W1 w2 := (((hch.setCell (p := ⟨gA, u, none⟩) (fun _ => .inl rfl) (.int .i32 g.a)).alloc _).grown hgr (fun m hm hl => by cases hm; rw [unhide HZ] at hl; omega))
                  have hbl : ∀ m, m < w.heap.size → w2.heap[m]? = (wr.setCell ⟨gA, u, none⟩ (.int .i32 g.a)).heap[m]? := fun m hm => by
                    rw [hgr.block m (by simp; omega) (fun e => by cases e; omega), Below.heap_alloc _ _ _ (by simp; omega)]
                  have hI2 : innerTo g v (k + 1) s = { att := upd t.att u g.a, cnt := t.cnt, rem := t.rem, q := t.q ++ [u] } := (unhide hI).trans (step_own (unhide hlv) (unhide hat0) (unhide hvn))
                  refine ⟨k + 1, qb', qc', ?_, by go_num, by omega, ?_, hch2⟩
                  · rw [hI2]; simp
                  · rw [hI2]
                    refine ⟨(upd_row (unhide hr3').rA).of_block (hbl _ hgA), ((unhide hr3').rC.setOther (by dsimp; omega) _).of_block (hbl _ hgC), ((unhide hr3').rR.setOther (by dsimp; omega) _).of_block (hbl _ hgR), ?_⟩
                    show w2.ownsRow _ _ _ (.slice _ (t.q ++ [u]).length _) (t.q ++ [u]).length (qcells (t.q ++ [u]))
                    rw [qcells_snoc, List.length_append]
                    exact hown'
                case measure => simp [intOf]; omega
              have d3 : (!(g.V u == g.vf)) = true := by simpa using k3
              have hvn : Hid (g.V u ≠ g.vf) := k3
              clear k3
              by_cases k4 : t.cnt u = g.a
              · have d4 : (t.cnt u != g.a) = false := by rw [bne_eq_false_iff_eq]; exact k4
                obtain ⟨r0, hr00⟩ : ∃ r0, r0 = t.rem u := ⟨_, rfl⟩
                have hr0 : Hid (left g u t = wrap32 (r0 - 1)) := by show _ = _; unfold left; rw [if_pos k4, hr00]
                have eA := (unhide hr3').rA
                have eC : wr.rowIs gC 21 g.n (fun j => .int .i32 (upd t.cnt u g.a j)) := (unhide hr3').rC.congr (fun j _ => by
                  by_cases e : j = u
                  · subst e; rw [upd_same, k4]
                  · rw [upd_other e])
                have eR : wr.rowIs gR 21 g.n (fun j => .int .i32 (upd t.rem u r0 j)) := (unhide hr3').rR.congr (fun j _ => by
                  by_cases e : j = u
                  · subst e; rw [upd_same, hr00]
                  · rw [upd_other e])
                have eq := hqo
                have ech := hch
                clear hr00 k4 rr rf aa af c3
                have gR0 : wr.cell? ⟨gR, u, none⟩ = some (.int .i32 r0) := by have h := eR.cell hu; rwa [upd_same] at h
                have gRf : wr.frozen? ⟨gR, u, none⟩ = false := eR.frozen _
                have gA0 : wr.cell? ⟨gA, u, none⟩ = some (.int .i32 (t.att u)) := eA.cell hu
                have gAf : wr.frozen? ⟨gA, u, none⟩ = false := eA.frozen _
                have f3 := laterCell' ech (unhide HAP).1 (unhide HE3)
                have f5 := laterCell' ech (unhide HAP).1 (unhide HE5)
                have hws2 : w.heap.size ≤ wr.heap.size := by rw [← unhide HZ]; exact ech.size
                have hsR : sb ≠ gR := fun h => (unhide HAP).1 (.inr (.inr h))
                have n5 : (wr.setCell ⟨gR, u, none⟩ (.int .i32 (wrap32 (r0 - 1)))).cell? ⟨sb, 5, none⟩ = some (.slice (some ⟨gR, 0, none⟩) g.n cR) := by
                  rw [cell_setCell_other (fun h => hsR (by rw [Addr.mk.injEq] at h; exact h.1.symm))]; exact f5
                have n3 : (wr.setCell ⟨gR, u, none⟩ (.int .i32 (wrap32 (r0 - 1)))).cell? ⟨sb, 3, none⟩ = some (.slice (some ⟨gA, 0, none⟩) g.n cA) := by
                  rw [cell_setCell_other (fun h => hsR (by rw [Addr.mk.injEq] at h; exact h.1.symm))]; exact f3
                have gA1 : (wr.setCell ⟨gR, u, none⟩ (.int .i32 (wrap32 (r0 - 1)))).cell? ⟨gA, u, none⟩ = some (.int .i32 (t.att u)) := (eA.setOther (fun h => (unhide HD).2.1 h) _).cell hu
                have gAf1 : (wr.setCell ⟨gR, u, none⟩ (.int .i32 (wrap32 (r0 - 1)))).frozen? ⟨gA, u, none⟩ = false := (eA.setOther (fun h => (unhide HD).2.1 h) _).frozen _
                have HSR := hide hsR
                clear hsR
                have eR2 := hide eR
                have eA2 := hide eA
                have eC2 := hide eC
                clear eR eA eC
                by_cases hpos : 0 < wrap32 (r0 - 1)
                · have dpos : decide (0 < wrap32 (r0 - 1)) = true := by simpa using hpos
                  go_wp2; go_roundw
                  case rel =>
                    obtain ⟨dAC, dAR, dCR⟩ := unhide HD
                    have hI2 : innerTo g v (k + 1) s = { t with cnt := upd t.cnt u g.a, rem := upd t.rem u (left g u t) } := (unhide hI).trans (step_keep (by have h := unhide hlv; omega) (unhide hat0) (unhide hvn) (by rw [unhide hr0]; exact hpos))
                    refine ⟨k + 1, qb, qc, ?_, by go_num, by omega, ?_, ech.setCell (p := ⟨gR, u, none⟩) (fun _ => .inr (.inr rfl)) _⟩
                    · rw [hI2]
                    · rw [hI2]
                      refine ⟨(unhide eA2).setOther (by dsimp; omega) _, (unhide eC2).setOther (by dsimp; omega) _, (upd_row (unhide eR2)).congr (fun j _ => ?_), ownsRow_setCell_below eq hgR _⟩
                      show Value.int .i32 (upd (upd t.rem u r0) u (wrap32 (r0 - 1)) j) = Value.int .i32 (upd t.rem u (left g u t) j)
                      rw [unhide hr0]
                      by_cases e : j = u
                      · subst e; rw [upd_same, upd_same]
                      · rw [upd_other e, upd_other e, upd_other e]
                  case measure => simp [intOf]; omega
                · have dpos : decide (0 < wrap32 (r0 - 1)) = false := by simpa using hpos
                  go_wp2_with (at_builtin; go_must (refine wpList_append_lies _ rfl (.tmp 218) (.tmp 220) 23 rfl w.heap.size 21 i0 (.int .i32 0) 1 4 Try.underlying23 hi hz0 hz1' hz2 rfl (by decide) _ _ _ rfl ((ownsRow_setCell_below (ownsRow_setCell_below eq hgR (.int .i32 (wrap32 (r0 - 1)))) hgA _).alloc _) ⟨wr.heap.size, 0, none⟩ 1 1 [.int .i32 (u : Nat)] rfl rfl (by first | exact cell_one_new _ _ _ | (have h := cell_one_new ((wr.setCell ⟨gR, u, none⟩ (.int .i32 (wrap32 (r0 - 1)))).setCell ⟨gA, u, none⟩ (.int .i32 g.a)) (.int .i32 (u : Nat)) 21; simp only [World.size_setCell] at h; exact h)) (isz _ _) (by decide) (by unfold maxLen; omega) (by omega) (by simp; omega) (wr.heap.size + 1) (by simp) ?_; intro qb' qc' w2 hown' hgrow hat hlt2))
                  go_roundw
                  case rel =>
                    obtain ⟨dAC, dAR, dCR⟩ := unhide HD
                    have hsz := hgrow.size
                    simp at hsz
                    have hgr : (((wr.setCell ⟨gR, u, none⟩ (.int .i32 (wrap32 (r0 - 1)))).setCell ⟨gA, u, none⟩ (.int .i32 g.a)).alloc (.cells #[.int .i32 (u : Nat)] 21)).grownBy w2 (some qb) := hgrow
                    have hqlt := (eq.lt qb rfl).1
                    have hch2 : Chg (tri gA gC gR) W1 w2 := ((((ech.setCell (p := ⟨gR, u, none⟩) (fun _ => .inr (.inr rfl)) (.int .i32 (wrap32 (r0 - 1)))).setCell (p := ⟨gA, u, none⟩) (fun _ => .inl rfl) (.int .i32 g.a)).alloc _).grown hgr (fun m hm hl => by cases hm; rw [unhide HZ] at hl; omega))
                    have hbl : ∀ m, m < w.heap.size → w2.heap[m]? = ((wr.setCell ⟨gR, u, none⟩ (.int .i32 (wrap32 (r0 - 1)))).setCell ⟨gA, u, none⟩ (.int .i32 g.a)).heap[m]? := fun m hm => by
                      rw [hgr.block m (by simp; omega) (fun e => by cases e; omega), Below.heap_alloc _ _ _ (by simp; omega)]
                    have hI2 : innerTo g v (k + 1) s = { att := upd t.att u g.a, cnt := upd t.cnt u g.a, rem := upd t.rem u (left g u t), q := t.q ++ [u] } := (unhide hI).trans (step_take (by have h := unhide hlv; omega) (unhide hat0) (unhide hvn) (by rw [unhide hr0]; exact hpos))
                    refine ⟨k + 1, qb', qc', ?_, by go_num, by omega, ?_, hch2⟩
                    · rw [hI2]; simp
                    · rw [hI2]
                      refine ⟨(upd_row ((unhide eA2).setOther (by dsimp; omega) _)).of_block (hbl _ hgA), (((unhide eC2).setOther (by dsimp; omega) _).setOther (by dsimp; omega) _).of_block (hbl _ hgC), (((upd_row (v := wrap32 (r0 - 1)) (unhide eR2)).congr (fun j _ => by show Value.int .i32 (upd (upd t.rem u r0) u (wrap32 (r0 - 1)) j) = Value.int .i32 (upd t.rem u (left g u t) j); rw [unhide hr0]; by_cases e : j = u; (subst e; rw [upd_same, upd_same]); rw [upd_other e, upd_other e, upd_other e])).setOther (by dsimp; omega) _).of_block (hbl _ hgR), ?_⟩
                      show w2.ownsRow _ _ _ (.slice _ (t.q ++ [u]).length _) (t.q ++ [u]).length (qcells (t.q ++ [u]))
                      rw [qcells_snoc, List.length_append]
                      exact hown'
                  case measure => simp [intOf]; omega
              · have d4 : (t.cnt u != g.a) = true := by rw [bne_iff_ne]; exact k4
                have HK4 : Hid (left g u t = wrap32 ((deg g u : Int) - 1)) := by show _ = _; unfold left; rw [if_neg k4]
                have c5 := (unhide HENV).c5
                have rr1 : (wr.setCell ⟨gC, u, none⟩ (.int .i32 g.a)).cell? ⟨gR, u, none⟩ = some (.int .i32 (t.rem u)) := ((unhide hr3').rR.setOther (fun h => (unhide HD).2.2 h.symm) _).cell hu
                have rf1 : (wr.setCell ⟨gC, u, none⟩ (.int .i32 g.a)).frozen? ⟨gR, u, none⟩ = false := ((unhide hr3').rR.setOther (fun h => (unhide HD).2.2 h.symm) _).frozen _
                have rr2 : (wr.setCell ⟨gR, u, none⟩ (.int .i32 0)).cell? ⟨gC, u, none⟩ = some (.int .i32 (t.cnt u)) := ((unhide hr3').rC.setOther (fun h => (unhide HD).2.2 h) _).cell hu
                have rf2 : (wr.setCell ⟨gR, u, none⟩ (.int .i32 0)).frozen? ⟨gC, u, none⟩ = false := ((unhide hr3').rC.setOther (fun h => (unhide HD).2.2 h) _).frozen _
                clear k4
                go_wp2
                go_region
                obtain ⟨W2, hW2⟩ : ∃ W, W = ((wr.setCell ⟨gC, u, none⟩ (.int .i32 g.a)).setCell ⟨gR, u, none⟩ (.int .i32 0)).drew := ⟨_, rfl⟩
                rw [← hW2]
                obtain ⟨dAC, dAR, dCR⟩ := unhide HD
                have qA : Hid (W2.rowIs gA 21 g.n (fun i => .int .i32 (t.att i))) := by
                  show _; rw [hW2]; exact ((unhide hr3').rA.setOther (by dsimp; omega) _).setOther (by dsimp; omega) _
                have qC : Hid (W2.rowIs gC 21 g.n (fun i => .int .i32 (upd t.cnt u g.a i))) := by
                  show _; rw [hW2]; exact (upd_row (unhide hr3').rC).setOther (by dsimp; omega) _
                have qR : Hid (W2.rowIs gR 21 g.n (fun i => .int .i32 (upd t.rem u 0 i))) := by
                  show _; rw [hW2]; exact upd_row ((unhide hr3').rR.setOther (by dsimp; omega) _)
                have qq : Hid (W2.ownsRow w.heap.size 21 1 (.slice (some ⟨qb, 0, none⟩) t.q.length qc) t.q.length (qcells t.q)) := by
                  show _; rw [hW2]; exact ownsRow_setCell_below (ownsRow_setCell_below hqo hgC _) hgR _
                have qch : Chg (tri gA gC gR) W1 W2 := by
                  rw [hW2]; exact ((hch.setCell (p := ⟨gC, u, none⟩) (fun _ => .inr (.inl rfl)) _).setCell (p := ⟨gR, u, none⟩) (fun _ => .inr (.inr rfl)) _).drew
                have QCH := hide qch
                have henv2 := (unhide H).chg qch
                clear hW2 rr1 rf1 rr2 rf2 c0 c1 c3 c4 c5 g0 lv vv aa af cc cf rr rf hcu hws HENV hr3' hqo hch dAC dAR dCR qch d1 d2 d3 d4
                have c0 := henv2.c0
                have g2 := henv2.g2
                have g3 := henv2.g3
                have s0' : W2.cell? ⟨bS, u, none⟩ = some (.int .i32 (g.S u)) := henv2.st u (by omega)
                have s1' : W2.cell? ⟨bS, u + 1, none⟩ = some (.int .i32 (g.S (u + 1))) := henv2.st (u + 1) (by omega)
                have hG := unhide HG
                have hS0 := hG.mS 0 u (by omega) (by omega)
                have hS1 := hG.mS u (u + 1) (by omega) (by omega)
                have hS2 := hG.mS (u + 1) g.n (by omega) (Nat.le_refl _)
                have hS3 := hG.sD
                have hS4 := hG.eD
                have hS5 := hG.dD
                obtain ⟨ac2, hcut2, hac2⟩ := cutRun aD nD cD (g.S u) (g.S (u + 1)) hS1 (by omega)
                have HAC2 := hide hac2
                clear henv2 hG hac2
                go_wp2
                go_quiet (fail)
                go_wp2
                go_loopw [171] (fun i wr => ∃ k2 : Nat, i = .int .i64 k2 ∧ k2 ≤ g.S (u + 1) - g.S u ∧ wr.rowIs gA 21 g.n (fun i => .int .i32 (t.att i)) ∧ wr.rowIs gC 21 g.n (fun i => .int .i32 (upd t.cnt u g.a i)) ∧ wr.rowIs gR 21 g.n (fun i => .int .i32 (upd t.rem u (degTo g u k2 : Nat) i)) ∧ wr.ownsRow w.heap.size 21 1 (.slice (some ⟨qb, 0, none⟩) t.q.length qc) t.q.length (qcells t.q) ∧ Chg (tri gA gC gR) W1 wr) (fun i _ => (g.S (u + 1) - g.S u) - (intOf i).toNat)
                case atStart => exact ⟨0, rfl, Nat.zero_le _, unhide qA, unhide qC, unhide qR, unhide qq, (unhide QCH).drewN _⟩
                case round =>
                  clear qA qC qR qq QCH c0 g2 g3 s0' s1' hcut2
                  obtain ⟨k2, rfl, hk2, eA, eC, eR, eq, ech⟩ := hrel
                  by_cases hk2l : k2 < g.S (u + 1) - g.S u
                  · obtain ⟨x, hx0⟩ : ∃ x, x = g.D (g.S u + k2) := ⟨_, rfl⟩
                    have henv3 := (unhide H).chg ech
                    obtain ⟨bd, od, had, hbd, hcd⟩ := henv3.su (by omega)
                    have hcx : wr.cell? ⟨bd, od + g.S u + k2, none⟩ = some (.int .i32 (x : Nat)) := by
                      rw [hx0, Nat.add_assoc]; exact hcd _ (by omega) (by omega)
                    have hx : x < g.n := by rw [hx0]; exact (unhide HG).vD _ (by omega) (by omega)
                    have hsub2 := unhide HAC2 (by omega) bd od had
                    have e1 := henv3.c1
                    have e5 := henv3.c5
                    have lx : wr.cell? ⟨bL, x, none⟩ = some (.int .i32 (g.lev x)) := henv3.lev x hx
                    have rr : wr.cell? ⟨gR, u, none⟩ = some (.int .i32 (degTo g u k2 : Nat)) := by have h := eR.cell hu; rwa [upd_same] at h
                    have rf : wr.frozen? ⟨gR, u, none⟩ = false := eR.frozen u
                    have hk2i : (k2 : Int) < ((g.S (u + 1) - g.S u : Nat) : Int) := by omega
                    have hdl := degTo_le g u k2
                    have HD2 : Hid (degTo g u (k2 + 1) = degTo g u k2 + (if g.dp ≤ g.lev x then 1 else 0)) := by show _ = _; rw [hx0]; rfl
                    have HE := hide (And.intro eA (And.intro eC (And.intro eR (And.intro eq ech))))
                    clear hcd henv3 hx0 had eA eC eR eq ech
                    subst hsub2
                    by_cases k5 : g.dp ≤ g.lev x
                    · have d5 : decide (g.dp ≤ g.lev x) = true := by simpa using k5
                      have K5 := hide k5
                      clear k5
                      go_wp2
                      go_roundw
                      case rel =>
                        obtain ⟨eA, eC, eR, eq, ech⟩ := unhide HE
                        obtain ⟨dAC, dAR, dCR⟩ := unhide HD
                        have hdd := unhide HD2
                        rw [if_pos (unhide K5)] at hdd
                        refine ⟨k2 + 1, by go_num, by omega, eA.setOther (by dsimp; omega) _, eC.setOther (by dsimp; omega) _, (upd_row eR).congr (fun j _ => ?_), ownsRow_setCell_below eq hgR _, ech.setCell (p := ⟨gR, u, none⟩) (fun _ => .inr (.inr rfl)) _⟩
                        rw [hdd]
                        by_cases e : j = u
                        · subst e; rw [upd_same, upd_same]; first | rfl | (rw [wrap32_small (by omega) (by omega)]; simp) | simp
                        · rw [upd_other e, upd_other e, upd_other e]
                      case measure => simp [intOf]; omega
                    · have d5 : decide (g.dp ≤ g.lev x) = false := by simpa using k5
                      have K5 := hide k5
                      clear k5
                      go_wp2
                      go_roundw
                      case rel =>
                        obtain ⟨eA, eC, eR, eq, ech⟩ := unhide HE
                        have hdd := unhide HD2
                        rw [if_neg (unhide K5), Nat.add_zero] at hdd
                        exact ⟨k2 + 1, by go_num, by omega, eA, eC, by rw [hdd]; exact eR, eq, ech⟩
                      case measure => simp [intOf]; omega
                  · have hk2e : k2 = g.S (u + 1) - g.S u := by omega
                    subst hk2e
                    obtain ⟨r0, hr00⟩ : ∃ r0 : Int, r0 = (degTo g u (g.S (u + 1) - g.S u) : Nat) := ⟨_, rfl⟩
                    have hr0 : Hid (left g u t = wrap32 (r0 - 1)) := by show _ = _; rw [unhide HK4, hr00]; rfl
                    rw [← hr00] at eR
                    clear hr00 hk2 hk2l HK4
                    have gR0 : wr.cell? ⟨gR, u, none⟩ = some (.int .i32 r0) := by have h := eR.cell hu; rwa [upd_same] at h
                    have gRf : wr.frozen? ⟨gR, u, none⟩ = false := eR.frozen _
                    have gA0 : wr.cell? ⟨gA, u, none⟩ = some (.int .i32 (t.att u)) := eA.cell hu
                    have gAf : wr.frozen? ⟨gA, u, none⟩ = false := eA.frozen _
                    have f3 := laterCell' ech (unhide HAP).1 (unhide HE3)
                    have f5 := laterCell' ech (unhide HAP).1 (unhide HE5)
                    have hws2 : w.heap.size ≤ wr.heap.size := by rw [← unhide HZ]; exact ech.size
                    have hsR : sb ≠ gR := fun h => (unhide HAP).1 (.inr (.inr h))
                    have n5 : (wr.setCell ⟨gR, u, none⟩ (.int .i32 (wrap32 (r0 - 1)))).cell? ⟨sb, 5, none⟩ = some (.slice (some ⟨gR, 0, none⟩) g.n cR) := by
                      rw [cell_setCell_other (fun h => hsR (by rw [Addr.mk.injEq] at h; exact h.1.symm))]; exact f5
                    have n3 : (wr.setCell ⟨gR, u, none⟩ (.int .i32 (wrap32 (r0 - 1)))).cell? ⟨sb, 3, none⟩ = some (.slice (some ⟨gA, 0, none⟩) g.n cA) := by
                      rw [cell_setCell_other (fun h => hsR (by rw [Addr.mk.injEq] at h; exact h.1.symm))]; exact f3
                    have gA1 : (wr.setCell ⟨gR, u, none⟩ (.int .i32 (wrap32 (r0 - 1)))).cell? ⟨gA, u, none⟩ = some (.int .i32 (t.att u)) := (eA.setOther (fun h => (unhide HD).2.1 h) _).cell hu
                    have gAf1 : (wr.setCell ⟨gR, u, none⟩ (.int .i32 (wrap32 (r0 - 1)))).frozen? ⟨gA, u, none⟩ = false := (eA.setOther (fun h => (unhide HD).2.1 h) _).frozen _
                    have HSR := hide hsR
                    clear hsR
                    have eR2 := hide eR
                    have eA2 := hide eA
                    have eC2 := hide eC
                    clear eR eA eC
                    by_cases hpos : 0 < wrap32 (r0 - 1)
                    · have dpos : decide (0 < wrap32 (r0 - 1)) = true := by simpa using hpos
                      go_wp2; go_roundw
                      case rel =>
                        obtain ⟨dAC, dAR, dCR⟩ := unhide HD
                        have hI2 : innerTo g v (k + 1) s = { t with cnt := upd t.cnt u g.a, rem := upd t.rem u (left g u t) } := (unhide hI).trans (step_keep (by have h := unhide hlv; omega) (unhide hat0) (unhide hvn) (by rw [unhide hr0]; exact hpos))
                        refine ⟨k + 1, qb, qc, ?_, by go_num, by omega, ?_, ech.setCell (p := ⟨gR, u, none⟩) (fun _ => .inr (.inr rfl)) _⟩
                        · rw [hI2]
                        · rw [hI2]
                          refine ⟨(unhide eA2).setOther (by dsimp; omega) _, (unhide eC2).setOther (by dsimp; omega) _, (upd_row (unhide eR2)).congr (fun j _ => ?_), ownsRow_setCell_below eq hgR _⟩
                          show Value.int .i32 (upd (upd t.rem u r0) u (wrap32 (r0 - 1)) j) = Value.int .i32 (upd t.rem u (left g u t) j)
                          rw [unhide hr0]
                          by_cases e : j = u
                          · subst e; rw [upd_same, upd_same]
                          · rw [upd_other e, upd_other e, upd_other e]
                      case measure => simp [intOf]; omega
                    · have dpos : decide (0 < wrap32 (r0 - 1)) = false := by simpa using hpos
                      go_wp2_with (at_builtin; go_must (refine wpList_append_lies _ rfl (.tmp 218) (.tmp 220) 23 rfl w.heap.size 21 i0 (.int .i32 0) 1 4 Try.underlying23 hi hz0 hz1' hz2 rfl (by decide) _ _ _ rfl ((ownsRow_setCell_below (ownsRow_setCell_below eq hgR (.int .i32 (wrap32 (r0 - 1)))) hgA _).alloc _) ⟨wr.heap.size, 0, none⟩ 1 1 [.int .i32 (u : Nat)] rfl rfl (by first | exact cell_one_new _ _ _ | (have h := cell_one_new ((wr.setCell ⟨gR, u, none⟩ (.int .i32 (wrap32 (r0 - 1)))).setCell ⟨gA, u, none⟩ (.int .i32 g.a)) (.int .i32 (u : Nat)) 21; simp only [World.size_setCell] at h; exact h)) (isz _ _) (by decide) (by unfold maxLen; omega) (by omega) (by simp; omega) (wr.heap.size + 1) (by simp) ?_; intro qb' qc' w2 hown' hgrow hat hlt2))
                      go_roundw
                      case rel =>
                        obtain ⟨dAC, dAR, dCR⟩ := unhide HD
                        have hsz := hgrow.size
                        simp at hsz
                        have hgr : (((wr.setCell ⟨gR, u, none⟩ (.int .i32 (wrap32 (r0 - 1)))).setCell ⟨gA, u, none⟩ (.int .i32 g.a)).alloc (.cells #[.int .i32 (u : Nat)] 21)).grownBy w2 (some qb) := hgrow
                        have hqlt := (eq.lt qb rfl).1
                        have hch2 : Chg (tri gA gC gR) W1 w2 := ((((ech.setCell (p := ⟨gR, u, none⟩) (fun _ => .inr (.inr rfl)) (.int .i32 (wrap32 (r0 - 1)))).setCell (p := ⟨gA, u, none⟩) (fun _ => .inl rfl) (.int .i32 g.a)).alloc _).grown hgr (fun m hm hl => by cases hm; rw [unhide HZ] at hl; omega))
                        have hbl : ∀ m, m < w.heap.size → w2.heap[m]? = ((wr.setCell ⟨gR, u, none⟩ (.int .i32 (wrap32 (r0 - 1)))).setCell ⟨gA, u, none⟩ (.int .i32 g.a)).heap[m]? := fun m hm => by
                          rw [hgr.block m (by simp; omega) (fun e => by cases e; omega), Below.heap_alloc _ _ _ (by simp; omega)]
                        have hI2 : innerTo g v (k + 1) s = { att := upd t.att u g.a, cnt := upd t.cnt u g.a, rem := upd t.rem u (left g u t), q := t.q ++ [u] } := (unhide hI).trans (step_take (by have h := unhide hlv; omega) (unhide hat0) (unhide hvn) (by rw [unhide hr0]; exact hpos))
                        refine ⟨k + 1, qb', qc', ?_, by go_num, by omega, ?_, hch2⟩
                        · rw [hI2]; simp
                        · rw [hI2]
                          refine ⟨(upd_row ((unhide eA2).setOther (by dsimp; omega) _)).of_block (hbl _ hgA), (((unhide eC2).setOther (by dsimp; omega) _).setOther (by dsimp; omega) _).of_block (hbl _ hgC), (((upd_row (v := wrap32 (r0 - 1)) (unhide eR2)).congr (fun j _ => by show Value.int .i32 (upd (upd t.rem u r0) u (wrap32 (r0 - 1)) j) = Value.int .i32 (upd t.rem u (left g u t) j); rw [unhide hr0]; by_cases e : j = u; (subst e; rw [upd_same, upd_same]); rw [upd_other e, upd_other e, upd_other e])).setOther (by dsimp; omega) _).of_block (hbl _ hgR), ?_⟩
                          show w2.ownsRow _ _ _ (.slice _ (t.q ++ [u]).length _) (t.q ++ [u]).length (qcells (t.q ++ [u]))
                          rw [qcells_snoc, List.length_append]
                          exact hown'
                      case measure => simp [intOf]; omega
            · have hke : k = g.Q (v + 1) - g.Q v := by omega
              subst hke
              have hN : runTo g si (i' + 1) = t := (unhide HN).trans ht.symm
              have hHN := hide hN
              have hr3' := hide hr3
              have hlt' := hide hlt
              clear hN ht hr3 hkl
              go_wp2
              go_roundw
              case rel =>
                have hN := unhide hHN
                have hle : i' + 1 ≤ (runTo g si (i' + 1)).q.length := by
                  obtain ⟨m, hm⟩ := innerTo_q g v s (g.Q (v + 1) - g.Q v)
                  rw [unhide HN]
                  show _ ≤ (innerTo g v _ s).q.length
                  rw [hm]
                  simp
                  have := unhide hlt'
                  omega
                refine ⟨i' + 1, qb, qc, by rw [hN], by go_num, hle, by rw [hN]; exact unhide hr3', hch⟩
              case measure => simp [intOf]; omega
        · have hie : i' = (runTo g si i').q.length := by omega
          have hf := unhide HFIN i' hi' (by omega)
          have hfH := hide hf
          have hr3' := hide hr3
          have hni : ¬ (i' : Int) < ((runTo g si i').q.length : Int) := by omega
          clear hf hr3 hie
          go_wp2
          go_ret
          rw [unhide hfH]
          exact ⟨by first | rfl | simp, hch, (unhide hr3').rA, (unhide hr3').rC, (unhide hr3').rR⟩

end Go.Proofs.Qxb6605408a
