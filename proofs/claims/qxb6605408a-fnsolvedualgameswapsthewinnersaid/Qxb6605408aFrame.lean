import Derived.Below
import Derived.Deep.OwnRows
import Derived.Maps.OwnSet
import Derived.Deep.Draws
namespace Go.Proofs.Qxb6605408a
open Go.RowKit

theorem cell_setCell_other {w : World} {a b : Addr} {v : Value} (h : a ≠ b) : (w.setCell a v).cell? b = w.cell? b := World.cell?_setCell_other w a b v h
theorem cell_setCell_same {w : World} {a : Addr} {u v : Value} (h : w.cell? a = some u) : (w.setCell a v).cell? a = some v := World.cell?_setCell_same w a v h

/-- of the blocks that are there only those of S may have turned -/
structure Chg (S : Nat → Prop) (w w' : World) : Prop where
  os : w'.os = w.os
  tape : w'.tape = w.tape
  output : w'.output = w.output
  size : w.heap.size ≤ w'.heap.size
  block : ∀ k, k < w.heap.size → ¬ S k → w'.heap[k]? = w.heap[k]?

theorem Chg.refl (S : Nat → Prop) (w : World) : Chg S w w := ⟨rfl, rfl, rfl, Nat.le_refl _, fun _ _ _ => rfl⟩

theorem Chg.trans {S : Nat → Prop} {a b c : World} (h : Chg S a b) (k : Chg S b c) : Chg S a c :=
  ⟨k.os.trans h.os, k.tape.trans h.tape, k.output.trans h.output, Nat.le_trans h.size k.size, fun i hi hs => (k.block i (Nat.lt_of_lt_of_le hi h.size) hs).trans (h.block i hi hs)⟩

theorem Chg.mono {S T : Nat → Prop} {w w' : World} (h : Chg S w w') (hs : ∀ k, k < w.heap.size → S k → T k) : Chg T w w' :=
  ⟨h.os, h.tape, h.output, h.size, fun k hk ht => h.block k hk (fun s => ht (hs k hk s))⟩

/-- what lies beyond the old world counts for nothing -/
theorem Chg.trans' {S T : Nat → Prop} {a b c : World} (h : Chg S a b) (k : Chg T b c) (hT : ∀ i, i < a.heap.size → T i → S i) : Chg S a c :=
  ⟨k.os.trans h.os, k.tape.trans h.tape, k.output.trans h.output, Nat.le_trans h.size k.size, fun i hi hs => (k.block i (Nat.lt_of_lt_of_le hi h.size) (fun t => hs (hT i hi t))).trans (h.block i hi hs)⟩

theorem Chg.alloc {S : Nat → Prop} {a w : World} (h : Chg S a w) (o : Obj) : Chg S a (w.alloc o) :=
  ⟨h.os, h.tape, h.output, by have := h.size; simp; omega, fun k hk hs => (Below.heap_alloc w o k (Nat.lt_of_lt_of_le hk h.size)).trans (h.block k hk hs)⟩

theorem Chg.setCell {S : Nat → Prop} {a w : World} (h : Chg S a w) {p : Addr} (hp : p.block < a.heap.size → S p.block) (u : Value) : Chg S a (w.setCell p u) :=
  ⟨h.os, h.tape, h.output, by have := h.size; simpa [World.setCell] using this, fun k hk hs => (Below.heap_setCell w p u k (fun e => hs (by subst e; exact hp hk))).trans (h.block k hk hs)⟩

theorem Chg.grown {S : Nat → Prop} {a w w' : World} {row : Option Nat} (h : Chg S a w) (hg : w.grownBy w' row) (hr : ∀ k, row = some k → k < a.heap.size → S k) : Chg S a w' :=
  ⟨hg.os.trans h.os, hg.tape.trans h.tape, hg.output.trans h.output, Nat.le_trans h.size hg.size, fun k hk hs => (hg.block k (Nat.lt_of_lt_of_le hk h.size) (fun e => hs (hr k e.symm hk))).trans (h.block k hk hs)⟩

theorem Chg.drewN {S : Nat → Prop} {a w : World} (h : Chg S a w) (n : Nat) : Chg S a (w.drewN n) := ⟨h.os, h.tape, h.output, h.size, h.block⟩
theorem Chg.drew {S : Nat → Prop} {a w : World} (h : Chg S a w) : Chg S a w.drew := ⟨h.os, h.tape, h.output, h.size, h.block⟩

theorem Chg.below {S : Nat → Prop} {w w' : World} {B : Nat} (h : Chg S w w') (hB : B ≤ w.heap.size) (hs : ∀ k, S k → B ≤ k) : Below B w w' :=
  ⟨h.os, h.tape, h.output, h.size, fun k hk => h.block k (Nat.lt_of_lt_of_le hk hB) (fun s => by have := hs k s; omega)⟩

theorem Chg.of_below {w w' : World} {B : Nat} (h : Below B w w') : Chg (fun k => B ≤ k) w w' :=
  ⟨h.os, h.tape, h.output, h.size, fun k _ hs => h.block k (Nat.lt_of_not_le hs)⟩

theorem Chg.cell {S : Nat → Prop} {w w' : World} (h : Chg S w w') {p : Addr} (hp : p.block < w.heap.size) (hs : ¬ S p.block) : w'.cell? p = w.cell? p :=
  World.cell?_of_block (h.block p.block hp hs)
theorem Chg.frozen {S : Nat → Prop} {w w' : World} (h : Chg S w w') {p : Addr} (hp : p.block < w.heap.size) (hs : ¬ S p.block) : w'.frozen? p = w.frozen? p :=
  World.frozen?_of_block (h.block p.block hp hs)

/-- an own row stays own where its block has not turned -/
theorem Chg.ownsRow {S : Nat → Prop} {w w' : World} (h : Chg S w w') {base : Nat} {e : TypeId} {size : Nat} {v : Value} {n : Nat} {xs : List Value} (ho : w.ownsRow base e size v n xs) (hs : ∀ k, v.ownBlock = some k → ¬ S k) : w'.ownsRow base e size v n xs := by
  obtain ⟨h1, h2⟩ := ho
  refine ⟨h1, ?_⟩
  rcases h2 with h2 | ⟨g, cap, cur, hv, hg, hh, r⟩
  · exact Or.inl h2
  · have hlt : g < w.heap.size := (Array.getElem?_eq_some_iff.1 hh).1
    exact Or.inr ⟨g, cap, cur, hv, hg, (h.block g hlt (hs g (by subst hv; rfl))).trans hh, r⟩

theorem Chg.ownsMap {H : Type} {S : Nat → Prop} {w w' : World} (h : Chg S w w') {P : Program} {k : TypeId} {R : Value → Option (DataW H × List MemPlace)} {b n : Nat} {D : DataW H} (ho : w.ownsMap P k R b n D) (hs : ¬ S b) : w'.ownsMap P k R b n D := by
  have hlt := ho.lt
  obtain ⟨es, clock, hb, r⟩ := ho
  exact ⟨es, clock, (h.block b hlt hs).trans hb, r⟩

end Go.Proofs.Qxb6605408a
