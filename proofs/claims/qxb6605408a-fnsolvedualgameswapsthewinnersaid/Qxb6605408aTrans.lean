import Derived.Test.Qxb6605408aEdges
import Derived.Test.Qxb6605408aCount
import Derived.RegionTactic
import Derived.BigRegion
namespace Go.Proofs.Qxb6605408a
open Go.RowKit
set_option linter.unusedVariables false

theorem info3 : (Try.prog.info? 3).map (fun i => (i.zero, i.size, i.bytes)) = some (some (.int .i64 0), 1, 8) := by kernel_rfl
theorem size3 : (Try.prog.info? 3).map (·.size) = some 1 := by kernel_rfl
theorem make56 (n : Nat) (hn : n ≤ 1073741824) (w : World) : (Instr.makeSlice 56 (.int .i64 (n : Int)) (.int .i64 (n : Int))).run Try.prog w = .ok (.slice (some ⟨w.heap.size, 0, none⟩) n n) (w.alloc (.cells (madeCells #[.int .i64 0] n) 3)) :=
  run_make_row' 56 3 (.int .i64 0) 8 Try.underlying56 info3 rfl .i64 .i64 n (by omega) (by omega) w

/-- the part of a list of edges that counts -/
def Part (w : World) (a : Option Addr) (lo hi : Nat) (D : Nat → Nat) : Prop :=
  lo < hi → ∃ b off, a = some ⟨b, off, none⟩ ∧ b < w.heap.size ∧ ∀ e, lo ≤ e → e < hi → w.cell? ⟨b, off + e, none⟩ = some (.int .i32 (D e))
theorem Part.below {w w' : World} {a : Option Addr} {lo hi : Nat} {D : Nat → Nat} (h : Part w a lo hi D) (hb : Below w.heap.size w w') : Part w' a lo hi D := by
  intro h0
  obtain ⟨b, off, ha, hlt, hc⟩ := h h0
  exact ⟨b, off, ha, Nat.lt_of_lt_of_le hlt hb.size, fun j h1 h2 => by rw [← hc j h1 h2]; exact hb.cell (p := ⟨b, off + j, none⟩) hlt⟩

theorem mono_leN {S : Nat → Nat} {n : Nat} (h : ∀ v, v < n → S v ≤ S (v + 1)) : ∀ a b : Nat, a ≤ b → b ≤ n → S a ≤ S b := by
  intro a b hab
  induction hab with
  | refl => intro _; exact Nat.le_refl _
  | step hb ih =>
    rename_i m
    intro hm
    exact Nat.le_trans (ih (by omega)) (h m (by omega))

/-- each vertex's list in R holds, in any order, one entry u for each edge from u to it -/
def Transp (n : Nat) (S D Q R : Nat → Nat) : Prop := ∀ w, w < n → ∀ x, x < n → occ R (Q w) (Q (w + 1) - Q w) x = occ D (S x) (S (x + 1) - S x) w

theorem T1_le (S D : Nat → Nat) (e j : Nat) : T1 S D e j ≤ e := by
  unfold T1
  split
  · omega
  · have := occ_le D (S 0) (j - 1) (e - S 0)
    omega

set_option maxRecDepth 100000 in
set_option maxHeartbeats 8000000 in
theorem trans_any (n : Nat) (aS : Option Addr) (cS : Nat) (S : Nat → Nat) (aD : Option Addr) (nD cD : Nat) (D : Nat → Nat) (aP : Option Addr) (cP : Nat) (Q : Nat → Nat) (aR : Option Addr) (nR cR : Nat) (R : Nat → Nat) (w : World)
    (hn : n ≤ 1048576) (rS : Row w aS (n + 1) (fun i => .int .i32 (S i))) (rP : Row w aP (n + 1) (fun i => .int .i32 (Q i))) (rD : Part w aD (S 0) (S n) D) (rR : Part w aR (Q 0) (Q n) R)
    (mS : ∀ v, v < n → S v ≤ S (v + 1)) (mQ : ∀ v, v < n → Q v ≤ Q (v + 1)) (hSn : S n ≤ nD) (hnD : nD ≤ 1048576) (hQn : Q n ≤ nR) (hnR : nR ≤ 1048576)
    (hD : ∀ e, S 0 ≤ e → e < S n → D e < n) (hR : ∀ e, Q 0 ≤ e → e < Q n → R e < n) :
    Calls Try.prog 28 #[.int .i64 n, .slice aS ((n + 1 : Nat)) cS, .slice aD nD cD, .slice aP ((n + 1 : Nat)) cP, .slice aR nR cR] w fun e w' => Says (Transp n S D Q R) e ∧ Below w.heap.size w w' := by
  obtain ⟨bs, os, rfl, hbs, hcs⟩ := rS (by omega)
  obtain ⟨bp, op, rfl, hbp, hcp⟩ := rP (by omega)
  have hmS := hide (mono_leN mS)
  have hmQ := hide (mono_leN mQ)
  have HD := hide hD
  have HR := hide hR
  have HS := hide hcs
  have HP := hide hcp
  clear mS mQ hD hR hcs hcp rS rP
  have mk0 := make56 (n + 1) (by omega)
  have ec : ((n + 1 : Nat) : Int) = (n : Int) + 1 := by omega
  rw [ec] at mk0
  clear ec
  have hr0 : (w.alloc (.cells (madeCells #[.int .i64 0] (n + 1)) 3)).rowIs w.heap.size 3 (n + 1) (fun j => .int .i64 (T1 S D (S 0) j)) := (World.rowIs_made w (.int .i64 0) (n + 1) 3).congr (fun i _ => by
    have : T1 S D (S 0) i = 0 := by unfold T1; split <;> simp [occ]
    rw [this]; rfl)
  have HR0 := hide hr0
  clear hr0
  go_enter Try.func28, Try.ntmps28
  go_wp2
  clear mk0
  go_loopw [12] (fun i wr => ∃ u : Nat, u ≤ n ∧ i = .int .i64 u ∧ wr.rowIs w.heap.size 3 (n + 1) (fun j => .int .i64 (T1 S D (S u) j)) ∧ Below w.heap.size w wr ∧ wr.heap.size = w.heap.size + 1) (fun i _ => n - (intOf i).toNat)
  case atStart => exact ⟨0, Nat.zero_le _, rfl, unhide HR0, (Below.refl _ _).alloc (Nat.le_refl _) _, by simp⟩
  case round =>
    clear HR0
    obtain ⟨u, hu, rfl, hrow, hbr, hsz⟩ := hrel
    by_cases hlt : u < n
    · have hcu : wr.cell? ⟨bs, os + u, none⟩ = some (.int .i32 (S u)) := (hbr.cell (p := ⟨bs, os + u, none⟩) hbs).trans (unhide HS u (by omega))
      have hSu1 : S (u + 1) ≤ S n := unhide hmS _ _ (by omega) (Nat.le_refl _)
      have hSu0 : S u ≤ S (u + 1) := unhide hmS _ _ (by omega) (by omega)
      have hS0u : S 0 ≤ S u := unhide hmS _ _ (by omega) (by omega)
      have hsz' := hide hsz
      clear hsz
      go_wp2
      go_loopw [13] (fun i wr => ∃ e : Nat, S u ≤ e ∧ e ≤ S (u + 1) ∧ i = .int .i64 e ∧ wr.rowIs w.heap.size 3 (n + 1) (fun j => .int .i64 (T1 S D e j)) ∧ Below w.heap.size w wr ∧ Hid (wr.heap.size = w.heap.size + 1)) (fun i _ => S (u + 1) - (intOf i).toNat)
      case atStart => exact ⟨S u, Nat.le_refl _, hSu0, rfl, hrow, hbr, hsz'⟩
      case round =>
        clear hrow hbr hsz' hcu
        obtain ⟨e, he0, he1, rfl, hrow, hbr, hsz⟩ := hrel
        have hcu1 : wr.cell? ⟨bs, os + (u + 1), none⟩ = some (.int .i32 (S (u + 1))) := (hbr.cell (p := ⟨bs, os + (u + 1), none⟩) hbs).trans (unhide HS (u + 1) (by omega))
        by_cases hel : e < S (u + 1)
        · obtain ⟨bd, od, had, hbd, hcd⟩ := rD (by omega)
          have hDe : D e < n := unhide HD e (by omega) (by omega)
          have hce : wr.cell? ⟨bd, od + e, none⟩ = some (.int .i32 (D e)) := (hbr.cell (p := ⟨bd, od + e, none⟩) hbd).trans (hcd e (by omega) (by omega))
          have hct : wr.cell? ⟨w.heap.size, D e + 1, none⟩ = some (.int .i64 (T1 S D e (D e + 1))) := hrow.cell (by omega)
          have hft : wr.frozen? ⟨w.heap.size, D e + 1, none⟩ = false := hrow.frozen _
          have hTb := T1_le S D e (D e + 1)
          clear hcd
          subst had
          go_wp2
          go_roundw
          case rel =>
            refine ⟨e + 1, by omega, by omega, by go_num, ?_, hbr.setCell (p := ⟨w.heap.size, D e + 1, none⟩) (Nat.le_refl _) _, by unfold Hid; rw [World.size_setCell]; exact unhide hsz⟩
            refine (hrow.set (D e + 1) _).congr (fun j hj => ?_)
            rw [T1_step (by omega)]
            by_cases ej : j = D e + 1
            · rw [if_pos ej, if_pos ej, ej]; go_num
            · rw [if_neg ej, if_neg ej]
          case measure => simp [intOf]; omega
        · have hee : e = S (u + 1) := by omega
          subst hee
          go_wp2
          go_roundw
          case rel => exact ⟨u + 1, by omega, by go_num, hrow, hbr, unhide hsz⟩
          case measure => simp [intOf]; omega
    · have hue : n = u := by omega
      subst hue
      have hr2 : wr.rowIs w.heap.size 3 (n + 1) (fun j => .int .i64 (T2 S D n 0 j)) := hrow.congr (fun j _ => by rw [T2_start])
      have hS0n : S 0 ≤ S n := unhide hmS _ _ (by omega) (Nat.le_refl _)
      have htot : psum S D n n = S n - S 0 := psum_total (unhide HD)
      have hpb : ∀ j, j ≤ n → psum S D n j ≤ S n := fun j hj => by
        have := sumTo_mono (din S D n) hj
        change psum S D n j ≤ psum S D n n at this
        omega
      have hdb : ∀ j, din S D n j ≤ S n := fun j => by
        have := occ_le D (S 0) j (S n - S 0)
        unfold din; omega
      have hpb' := hide hpb
      have hdb' := hide hdb
      have htot' := hide htot
      have hsz' := hide hsz
      clear hrow hpb hdb htot hsz
      go_wp2
      go_loopw [14] (fun i wr => ∃ k : Nat, k ≤ n ∧ i = .int .i64 k ∧ wr.rowIs w.heap.size 3 (n + 1) (fun j => .int .i64 (T2 S D n k j)) ∧ Below w.heap.size w wr ∧ Hid (wr.heap.size = w.heap.size + 1)) (fun i _ => n - (intOf i).toNat)
      case atStart => exact ⟨0, Nat.zero_le _, rfl, hr2, hbr, hsz'⟩
      case round =>
        clear hr2 hbr hsz'
        obtain ⟨k, hk, rfl, hrow, hbr, hsz⟩ := hrel
        by_cases hlt : k < n
        · have hck : wr.cell? ⟨w.heap.size, k, none⟩ = some (.int .i64 (T2 S D n k k)) := hrow.cell (by omega)
          have hck1 : wr.cell? ⟨w.heap.size, k + 1, none⟩ = some (.int .i64 (T2 S D n k (k + 1))) := hrow.cell (by omega)
          have hfk1 : wr.frozen? ⟨w.heap.size, k + 1, none⟩ = false := hrow.frozen _
          have b1 : T2 S D n k k ≤ S n := by unfold T2; rw [if_pos (Nat.le_refl _)]; exact unhide hpb' k (by omega)
          have b2 : T2 S D n k (k + 1) ≤ S n := by unfold T2; rw [if_neg (by omega)]; exact unhide hdb' _
          have hki : (k : Int) + 1 < (n : Int) + 1 := by omega
          have hki2 : (k : Int) < (n : Int) + 1 := by omega
          go_wp2
          go_region
          all_goals go_wp2
          all_goals go_roundw
          case rel =>
            refine ⟨k + 1, by omega, by go_num, ?_, hbr.drew.setCell (p := ⟨w.heap.size, k + 1, none⟩) (Nat.le_refl _) _, (World.size_setCell wr _ _).trans (unhide hsz)⟩
            refine (World.rowIs.set (w := wr.drew) hrow (k + 1) _).congr (fun j hj => ?_)
            rw [T2_step]
            by_cases ej : j = k + 1
            · rw [if_pos ej, if_pos ej]; go_num
            · rw [if_neg ej, if_neg ej]
          case measure => simp [intOf]; omega
        · have hke : n = k := by omega
          subst hke
          have hps : wr.rowIs w.heap.size 3 (n + 1) (fun j => .int .i64 (psum S D n j)) := hrow.congr (fun j hj => by rw [T2_end (by omega)])
          have hcn : wr.cell? ⟨w.heap.size, n, none⟩ = some (.int .i64 (psum S D n n)) := hps.cell (by omega)
          have htb := unhide hpb' n (Nat.le_refl _)
          have mk1 := make23 (psum S D n n) (by omega)
          have mk2 := make56 n (by omega)
          have hsz2 := unhide hsz
          obtain ⟨W2, hW2⟩ : ∃ W, W = (wr.alloc (.cells (madeCells #[.int .i32 0] (psum S D n n)) 21)).alloc (.cells (madeCells #[.int .i64 0] n) 3) := ⟨_, rfl⟩
          have hs2 : W2.heap.size = w.heap.size + 3 := by rw [hW2]; simp [hsz2]
          have hb2 : Below (w.heap.size + 1) wr W2 := by
            rw [hW2]
            exact ((Below.refl _ _).alloc (by omega) _).alloc (by simp; omega) _
          have hp2 : W2.rowIs w.heap.size 3 (n + 1) (fun j => .int .i64 (psum S D n j)) := hps.of_block (hb2.block _ (by omega))
          have ht2 : W2.rowIs (w.heap.size + 1) 21 (psum S D n n) (fun _ => .int .i32 0) := by
            rw [hW2]
            have := (World.rowIs_made wr (.int .i32 0) (psum S D n n) 21).alloc (.cells (madeCells #[.int .i64 0] n) 3)
            rwa [hsz2] at this
          have hf2 : W2.rowIs (w.heap.size + 2) 3 n (fun _ => .int .i64 0) := by
            rw [hW2]
            have := World.rowIs_made (wr.alloc (.cells (madeCells #[.int .i32 0] (psum S D n n)) 21)) (.int .i64 0) n 3
            rwa [show (wr.alloc (.cells (madeCells #[.int .i32 0] (psum S D n n)) 21)).heap.size = w.heap.size + 2 by simp [hsz2]] at this
          have hsrc : Row W2 (some ⟨w.heap.size, 0, none⟩) n (fun j => .int .i64 (psum S D n j)) := fun _ => ⟨w.heap.size, 0, rfl, by omega, fun j hj => by rw [Nat.zero_add]; exact hp2.cell (by omega)⟩
          obtain ⟨W3, hrun, hf3, hch3, hs3⟩ := copyRun 56 3 3 Try.underlying56 size3 (w.heap.size + 2) n (some ⟨w.heap.size, 0, none⟩) (n + 1) (fun j => .int .i64 (psum S D n j)) _ (fun _ => rfl) W2 hsrc hf2
          have hp3 : W3.rowIs w.heap.size 3 (n + 1) (fun j => .int .i64 (psum S D n j)) := hp2.of_block (hch3.block _ (by omega) (by simp))
          have ht3 : W3.rowIs (w.heap.size + 1) 21 (psum S D n n) (fun _ => .int .i32 0) := ht2.of_block (hch3.block _ (by omega) (by simp))
          have hb3 : Below w.heap.size w W3 := hbr.trans ((hb2.mono (by omega)).trans (hch3.below (by omega) (fun k hk => by omega)))
          have hz3 : W3.heap.size = w.heap.size + 3 := by rw [hs3, hs2]
          rw [hW2] at hrun
          have H3 := hide (And.intro hp3 (And.intro ht3 (And.intro hf3 (And.intro hb3 hz3))))
          clear hp3 ht3 hf3 hb3 hz3 hs3 hch3 hsrc hf2 ht2 hp2 hb2 hs2 hW2 W2 hps hrow hbr hsz
          go_wp2
          clear hrun mk1 mk2 hcn hsz2
          go_loopw [17] (fun i wr => ∃ u : Nat, ∃ t : Nat → Nat, u ≤ n ∧ i = .int .i64 u ∧ TLaid S D n u (S u) t ∧ wr.rowIs w.heap.size 3 (n + 1) (fun j => .int .i64 (psum S D n j)) ∧ wr.rowIs (w.heap.size + 1) 21 (psum S D n n) (fun j => .int .i32 (t j)) ∧
              wr.rowIs (w.heap.size + 2) 3 n (fun x => .int .i64 ((psum S D n x + occ D (S 0) (S u - S 0) x : Nat) : Int)) ∧ Below w.heap.size w wr ∧ Hid (wr.heap.size = w.heap.size + 3)) (fun i _ => n - (intOf i).toNat)
          case atStart =>
            obtain ⟨hp3, ht3, hf3, hb3, hz3⟩ := unhide H3
            exact ⟨0, fun _ => 0, Nat.zero_le _, rfl, TLaid.start (unhide HD), hp3, ht3, hf3.congr (fun x _ => by rw [Nat.sub_self, occ_zero]; rfl), hb3, hz3⟩
          case round =>
            clear H3 W3
            obtain ⟨u, t, hu, rfl, htl, hp, ht, hf, hbr, hsz⟩ := hrel
            by_cases hlt : u < n
            · have hcu : wr.cell? ⟨bs, os + u, none⟩ = some (.int .i32 (S u)) := (hbr.cell (p := ⟨bs, os + u, none⟩) hbs).trans (unhide HS u (by omega))
              have hSu1 : S (u + 1) ≤ S n := unhide hmS _ _ (by omega) (Nat.le_refl _)
              have hSu0 : S u ≤ S (u + 1) := unhide hmS _ _ (by omega) (by omega)
              have hS0u : S 0 ≤ S u := unhide hmS _ _ (by omega) (by omega)
              go_wp2
              go_loopw [18] (fun i wr => ∃ e : Nat, ∃ t : Nat → Nat, S u ≤ e ∧ e ≤ S (u + 1) ∧ i = .int .i64 e ∧ TLaid S D n u e t ∧ wr.rowIs w.heap.size 3 (n + 1) (fun j => .int .i64 (psum S D n j)) ∧ wr.rowIs (w.heap.size + 1) 21 (psum S D n n) (fun j => .int .i32 (t j)) ∧
                  wr.rowIs (w.heap.size + 2) 3 n (fun x => .int .i64 ((psum S D n x + occ D (S 0) (e - S 0) x : Nat) : Int)) ∧ Below w.heap.size w wr ∧ Hid (wr.heap.size = w.heap.size + 3)) (fun i _ => S (u + 1) - (intOf i).toNat)
              case atStart => exact ⟨S u, t, Nat.le_refl _, hSu0, rfl, htl, hp, ht, hf, hbr, hsz⟩
              case round =>
                clear htl hp ht hf hbr hsz hcu t
                obtain ⟨e, t, he0, he1, rfl, htl, hp, ht, hf, hbr, hsz⟩ := hrel
                have hcu1 : wr.cell? ⟨bs, os + (u + 1), none⟩ = some (.int .i32 (S (u + 1))) := (hbr.cell (p := ⟨bs, os + (u + 1), none⟩) hbs).trans (unhide HS (u + 1) (by omega))
                by_cases hel : e < S (u + 1)
                · obtain ⟨bd, od, had, hbd, hcd⟩ := rD (by omega)
                  have hDe : D e < n := unhide HD e (by omega) (by omega)
                  have hce : wr.cell? ⟨bd, od + e, none⟩ = some (.int .i32 (D e)) := (hbr.cell (p := ⟨bd, od + e, none⟩) hbd).trans (hcd e (by omega) (by omega))
                  have hlt2 := occ_lt_din (D := D) (n := n) (show S 0 ≤ e by omega) (by omega)
                  have hpm := sumTo_mono (din S D n) (show D e + 1 ≤ n by omega)
                  change psum S D n (D e + 1) ≤ psum S D n n at hpm
                  rw [psum_succ] at hpm
                  obtain ⟨q, hq⟩ : ∃ q, q = psum S D n (D e) + occ D (S 0) (e - S 0) (D e) := ⟨_, rfl⟩
                  have hqb : q < psum S D n n := by omega
                  have hcf : wr.cell? ⟨w.heap.size + 2, D e, none⟩ = some (.int .i64 (q : Nat)) := by rw [hq]; exact hf.cell hDe
                  have hff : wr.frozen? ⟨w.heap.size + 2, D e, none⟩ = false := hf.frozen _
                  have hct : wr.cell? ⟨w.heap.size + 1, q, none⟩ = some (.int .i32 (t q)) := ht.cell hqb
                  have hft : wr.frozen? ⟨w.heap.size + 1, q, none⟩ = false := ht.frozen _
                  have hq' := hide hq
                  have hbb : S n ≤ 1048576 := by omega
                  clear hcd hq hlt2 hpm
                  subst had
                  go_wp2
                  go_roundw
                  case rel =>
                    refine ⟨e + 1, upd t q u, by omega, by omega, by go_num, ?_, ?_, ?_, ?_, ?_, ?_⟩
                    · rw [unhide hq']; exact htl.step hlt he0 (by omega) (by omega)
                    · exact (hp.setOther (by dsimp; omega) _).setOther (by dsimp; omega) _
                    · refine ((ht.set q _).setOther (by dsimp; omega) _).congr (fun j hj => ?_)
                      by_cases ej : j = q
                      · subst ej; rw [upd_same, if_pos rfl]
                      · rw [upd_other ej, if_neg ej]
                    · refine ((hf.setOther (by dsimp; omega) _).set (D e) _).congr (fun x hx => ?_)
                      rw [show e + 1 - S 0 = (e - S 0) + 1 by omega, occ_succ, show S 0 + (e - S 0) = e by omega]
                      by_cases ej : x = D e
                      · subst ej; rw [if_pos rfl, if_pos rfl, unhide hq']; go_num
                      · rw [if_neg ej, if_neg (fun h => ej h.symm)]; rfl
                    · exact (hbr.setCell (p := ⟨w.heap.size + 1, q, none⟩) (by dsimp; omega) _).setCell (p := ⟨w.heap.size + 2, D e, none⟩) (by dsimp; omega) _
                    · unfold Hid; rw [World.size_setCell, World.size_setCell]; exact unhide hsz
                  case measure => simp [intOf]; omega
                · have hee : e = S (u + 1) := by omega
                  subst hee
                  go_wp2
                  go_roundw
                  case rel => exact ⟨u + 1, t, by omega, by go_num, htl.next hSu0, hp, ht, hf, hbr, hsz⟩
                  case measure => simp [intOf]; omega
            · have hue : n = u := by omega
              subst hue
              have hsz2 := unhide hsz
              have mk3 := make56 n (by omega)
              have hr4 : (wr.alloc (.cells (madeCells #[.int .i64 0] n) 3)).rowIs (w.heap.size + 3) 3 n (fun _ => .int .i64 0) := by
                have := World.rowIs_made wr (.int .i64 0) n 3
                rwa [hsz2] at this
              have hp4 := hp.alloc (.cells (madeCells #[.int .i64 0] n) 3)
              have ht4 := ht.alloc (.cells (madeCells #[.int .i64 0] n) 3)
              have hb4 := hbr.alloc hbr.size (.cells (madeCells #[.int .i64 0] n) 3)
              have H4 := hide (And.intro hr4 (And.intro hp4 (And.intro ht4 hb4)))
              clear hr4 hp4 ht4 hb4 hf hp ht hbr hsz
              go_wp2
              clear mk3
              go_loopw [21] (fun i wr => ∃ k : Nat, k ≤ n ∧ i = .int .i64 k ∧ (∀ v, v < k → ∀ x, x < n → occ R (Q v) (Q (v + 1) - Q v) x = occ D (S x) (S (x + 1) - S x) v) ∧ wr.rowIs w.heap.size 3 (n + 1) (fun j => .int .i64 (psum S D n j)) ∧
                  wr.rowIs (w.heap.size + 1) 21 (psum S D n n) (fun j => .int .i32 (t j)) ∧ wr.rowIs (w.heap.size + 3) 3 n (fun _ => .int .i64 0) ∧ Below w.heap.size w wr) (fun i _ => n - (intOf i).toNat)
              case atStart =>
                obtain ⟨hr4, hp4, ht4, hb4⟩ := unhide H4
                exact ⟨0, Nat.zero_le _, rfl, fun v hv => by omega, hp4, ht4, hr4, hb4⟩
              case round =>
                clear H4 hsz2
                obtain ⟨k, hk, rfl, hall, hp, ht, hc, hbr⟩ := hrel
                have hall' := hide hall
                have htl' := hide htl
                clear hall
                by_cases hlt : k < n
                · have hck : wr.cell? ⟨bp, op + k, none⟩ = some (.int .i32 (Q k)) := (hbr.cell (p := ⟨bp, op + k, none⟩) hbp).trans (unhide HP k (by omega))
                  have hck1 : wr.cell? ⟨bp, op + (k + 1), none⟩ = some (.int .i32 (Q (k + 1))) := (hbr.cell (p := ⟨bp, op + (k + 1), none⟩) hbp).trans (unhide HP (k + 1) (by omega))
                  have hQ1 : Q (k + 1) ≤ Q n := unhide hmQ _ _ (by omega) (Nat.le_refl _)
                  have hQ0 : Q k ≤ Q (k + 1) := unhide hmQ _ _ (by omega) (by omega)
                  have hQ00 : Q 0 ≤ Q k := unhide hmQ _ _ (by omega) (by omega)
                  have hcp0 : wr.cell? ⟨w.heap.size, k, none⟩ = some (.int .i64 (psum S D n k)) := hp.cell (by omega)
                  have hcp1 : wr.cell? ⟨w.heap.size, k + 1, none⟩ = some (.int .i64 (psum S D n (k + 1))) := hp.cell (by omega)
                  have hpk := unhide hpb' k (by omega)
                  have hpk1 := unhide hpb' (k + 1) (by omega)
                  have hpm : psum S D n k ≤ psum S D n (k + 1) := by rw [psum_succ]; omega
                  have hpm2 : psum S D n (k + 1) ≤ psum S D n n := sumTo_mono (din S D n) (by omega)
                  have hki : (k : Int) + 1 < (n : Int) + 1 := by omega
                  have hki2 : (k : Int) < (n : Int) + 1 := by omega
                  by_cases hne : Q (k + 1) - Q k ≠ psum S D n (k + 1) - psum S D n k
                  · have dne : (((Q (k + 1) : Nat) : Int) - ((Q k : Nat) : Int) != ((psum S D n (k + 1) : Nat) : Int) - ((psum S D n k : Nat) : Int)) = true := by rw [bne_iff_ne]; omega
                    go_wp2
                    go_quiet (fail)
                    go_wp2
                    go_ret
                    exact ⟨says_no _, hbr.trans ((below_drawn _ _).mono hbr.size)⟩
                  · have dne : (((Q (k + 1) : Nat) : Int) - ((Q k : Nat) : Int) != ((psum S D n (k + 1) : Nat) : Int) - ((psum S D n k : Nat) : Int)) = false := by rw [bne_eq_false_iff_eq]; omega
                    have heq := hide (show Q (k + 1) - Q k = psum S D n (k + 1) - psum S D n k by omega)
                    clear hne
                    go_wp2
                    go_quiet (fail)
                    go_wp2
                    go_loopw [24] (fun i wr => ∃ i' : Nat, psum S D n k ≤ i' ∧ i' ≤ psum S D n (k + 1) ∧ i = .int .i64 i' ∧ wr.rowIs w.heap.size 3 (n + 1) (fun j => .int .i64 (psum S D n j)) ∧
                        wr.rowIs (w.heap.size + 1) 21 (psum S D n n) (fun j => .int .i32 (t j)) ∧ wr.rowIs (w.heap.size + 3) 3 n (fun x => .int .i64 (occ t (psum S D n k) (i' - psum S D n k) x : Nat)) ∧ Below w.heap.size w wr) (fun i _ => psum S D n (k + 1) - (intOf i).toNat)
                    case atStart => exact ⟨psum S D n k, Nat.le_refl _, hpm, rfl, hp, ht, hc.congr (fun x _ => by rw [Nat.sub_self, occ_zero]; rfl), hbr.trans ((below_drawn _ _).mono hbr.size)⟩
                    case round =>
                      clear hp ht hc hbr hck hck1 hcp0 hcp1 dne
                      obtain ⟨i', hi0, hi1, rfl, hp, ht, hc, hbr⟩ := hrel
                      have hcp1 : wr.cell? ⟨w.heap.size, k + 1, none⟩ = some (.int .i64 (psum S D n (k + 1))) := hp.cell (by omega)
                      by_cases hil : i' < psum S D n (k + 1)
                      · have htv := (unhide htl').val i' (by omega)
                        have hct : wr.cell? ⟨w.heap.size + 1, i', none⟩ = some (.int .i32 (t i')) := ht.cell (by omega)
                        have hcc : wr.cell? ⟨w.heap.size + 3, t i', none⟩ = some (.int .i64 (occ t (psum S D n k) (i' - psum S D n k) (t i') : Nat)) := hc.cell htv
                        have hcf : wr.frozen? ⟨w.heap.size + 3, t i', none⟩ = false := hc.frozen _
                        have hob := occ_le t (psum S D n k) (t i') (i' - psum S D n k)
                        go_wp2
                        go_roundw
                        case rel =>
                          refine ⟨i' + 1, by omega, by omega, by go_num, hp.setOther (by dsimp; omega) _, ht.setOther (by dsimp; omega) _, ?_, hbr.setCell (p := ⟨w.heap.size + 3, t i', none⟩) (by dsimp; omega) _⟩
                          refine (hc.set (t i') _).congr (fun x hx => ?_)
                          rw [show i' + 1 - psum S D n k = (i' - psum S D n k) + 1 by omega, occ_succ, show psum S D n k + (i' - psum S D n k) = i' by omega]
                          by_cases ej : x = t i'
                          · subst ej; rw [if_pos rfl, if_pos rfl]; go_num
                          · rw [if_neg ej, if_neg (fun h => ej h.symm)]; rfl
                        case measure => simp [intOf]; omega
                      · have hie : i' = psum S D n (k + 1) := by omega
                        subst hie
                        have hdk : psum S D n (k + 1) - psum S D n k = din S D n k := by rw [psum_succ]; omega
                        have hc2 : wr.rowIs (w.heap.size + 3) 3 n (fun x => .int .i64 (occ D (S x) (S (x + 1) - S x) k : Nat)) := hc.congr (fun x hx => by rw [hdk, (unhide htl').whole hlt hx])
                        clear hdk hc
                        go_wp2
                        go_loopw [25] (fun i wr => ∃ i' : Nat, Q k ≤ i' ∧ i' ≤ Q (k + 1) ∧ i = .int .i64 i' ∧ (∀ x, x < n → occ R (Q k) (i' - Q k) x ≤ occ D (S x) (S (x + 1) - S x) k) ∧ wr.rowIs w.heap.size 3 (n + 1) (fun j => .int .i64 (psum S D n j)) ∧
                            wr.rowIs (w.heap.size + 1) 21 (psum S D n n) (fun j => .int .i32 (t j)) ∧ wr.rowIs (w.heap.size + 3) 3 n (fun x => .int .i64 (((occ D (S x) (S (x + 1) - S x) k : Nat) : Int) - ((occ R (Q k) (i' - Q k) x : Nat) : Int))) ∧ Below w.heap.size w wr) (fun i _ => Q (k + 1) - (intOf i).toNat)
                        case atStart => exact ⟨Q k, Nat.le_refl _, hQ0, rfl, fun x _ => by rw [Nat.sub_self, occ_zero]; exact Nat.zero_le _, hp, ht, hc2.congr (fun x _ => by rw [Nat.sub_self, occ_zero]; simp), hbr⟩
                        case round =>
                          clear hp ht hc2 hbr hcp1
                          obtain ⟨i', hi0, hi1, rfl, hle, hp, ht, hc, hbr⟩ := hrel
                          have hle' := hide hle
                          clear hle
                          by_cases hil : i' < Q (k + 1)
                          · obtain ⟨br, or_, har, hbrr, hcr⟩ := rR (by omega)
                            have hRi : R i' < n := unhide HR i' (by omega) (by omega)
                            have hci : wr.cell? ⟨br, or_ + i', none⟩ = some (.int .i32 (R i')) := (hbr.cell (p := ⟨br, or_ + i', none⟩) hbrr).trans (hcr i' (by omega) (by omega))
                            have hle2 := unhide hle' (R i') hRi
                            have hob := occ_le D (S (R i')) k (S (R i' + 1) - S (R i'))
                            have hS1 : S (R i' + 1) ≤ S n := unhide hmS _ _ (by omega) (Nat.le_refl _)
                            obtain ⟨cv, hcv⟩ : ∃ cv : Int, cv = ((occ D (S (R i')) (S (R i' + 1) - S (R i')) k : Nat) : Int) - ((occ R (Q k) (i' - Q k) (R i') : Nat) : Int) := ⟨_, rfl⟩
                            have hcv0 : 0 ≤ cv := by omega
                            have hcv1 : cv ≤ 1048576 := by omega
                            have hcc : wr.cell? ⟨w.heap.size + 3, R i', none⟩ = some (.int .i64 cv) := by rw [hcv]; exact hc.cell hRi
                            have hcf : wr.frozen? ⟨w.heap.size + 3, R i', none⟩ = false := hc.frozen _
                            have hcv' := hide hcv
                            have hii : (i' : Int) < (nR : Int) := by omega
                            clear hcr hcv hle2 hob hS1
                            subst har
                            by_cases hz : cv = 0
                            · subst hz
                              go_wp2
                              go_ret
                              exact ⟨says_no _, hbr.setCell (p := ⟨w.heap.size + 3, R i', none⟩) (by dsimp; omega) _⟩
                            · have hz' : 1 ≤ cv := by omega
                              go_wp2
                              go_roundw
                              case rel =>
                                have hst : ∀ x, occ R (Q k) (i' + 1 - Q k) x = occ R (Q k) (i' - Q k) x + (if R i' = x then 1 else 0) := fun x => by
                                  rw [show i' + 1 - Q k = (i' - Q k) + 1 by omega, occ_succ, show Q k + (i' - Q k) = i' by omega]
                                refine ⟨i' + 1, by omega, by omega, by go_num, fun x hx => ?_, hp.setOther (by dsimp; omega) _, ht.setOther (by dsimp; omega) _, ?_, hbr.setCell (p := ⟨w.heap.size + 3, R i', none⟩) (by dsimp; omega) _⟩
                                · rw [hst]
                                  have h1 := unhide hle' x hx
                                  have h2 := unhide hcv'
                                  by_cases ex : R i' = x
                                  · subst ex; rw [if_pos rfl]; omega
                                  · rw [if_neg ex]; omega
                                · refine (hc.set (R i') _).congr (fun x hx => ?_)
                                  rw [hst]
                                  by_cases ej : x = R i'
                                  · subst ej
                                    have h2 := unhide hcv'
                                    rw [if_pos rfl, if_pos rfl, show cv - 1 = _ from congrArg (· - 1) h2]
                                    congr 1
                                    omega
                                  · rw [if_neg ej, if_neg (fun h => ej h.symm)]; rfl
                              case measure => simp [intOf]; omega
                          · have hie : i' = Q (k + 1) := by omega
                            subst hie
                            have heqAll : ∀ x, x < n → occ R (Q k) (Q (k + 1) - Q k) x = occ D (S x) (S (x + 1) - S x) k := by
                              refine sumTo_eq (unhide hle') ?_
                              have e1 := sum_occ (g := R) (a := Q k) (n := n) (k := Q (k + 1) - Q k) (fun j hj => unhide HR _ (by omega) (by omega))
                              have e2 := sum_occ (g := t) (a := psum S D n k) (n := n) (k := din S D n k) (fun j hj => (unhide htl').val _ (by have := psum_succ S D n k; omega))
                              have e3 : sumTo (fun x => occ t (psum S D n k) (din S D n k) x) n = sumTo (fun x => occ D (S x) (S (x + 1) - S x) k) n := sumTo_congr (fun x hx => (unhide htl').whole hlt hx)
                              have e4 := unhide heq
                              have e5 := psum_succ S D n k
                              show sumTo (fun x => occ R (Q k) (Q (k + 1) - Q k) x) n = sumTo (fun x => occ D (S x) (S (x + 1) - S x) k) n
                              rw [e1, ← e3, e2]
                              omega
                            have hc0 : wr.rowIs (w.heap.size + 3) 3 n (fun _ => .int .i64 0) := hc.congr (fun x hx => by rw [heqAll x hx]; congr 1; omega)
                            have HQ := hide heqAll
                            clear heqAll hc
                            go_wp2
                            go_roundw
                            case rel => exact ⟨k + 1, by omega, by go_num, fun v hv x hx => by
                              by_cases ev : v = k
                              · subst ev; exact unhide HQ x hx
                              · exact unhide hall' v (by omega) x hx, hp, ht, hc0, hbr⟩
                            case measure => simp [intOf]; omega
                · have hke : n = k := by omega
                  subst hke
                  go_wp2
                  go_ret
                  exact ⟨says_yes (unhide hall'), hbr⟩

end Go.Proofs.Qxb6605408a
