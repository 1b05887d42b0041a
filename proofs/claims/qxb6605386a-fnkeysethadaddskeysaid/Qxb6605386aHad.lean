import Derived.Test.Qxb6605386aCount
import Derived.Test.Qxb6605386aFrame
import Derived.Maps.OwnOps
import Derived.Maps.AppendAt
import Derived.Deep.AppendLies
import Derived.Deep.DeepMust
namespace Go.Proofs.Qxb6605386a
open Go.RowKit Go.Maps Go.WideMaps

theorem law9 : Keyed Try.prog 9 := string_keyed Try.underlying9
theorem zero4 (w : World) : (zeroValue 4).run Try.prog w = .ok (.bool false) w := by kernel_rfl
theorem info9 : (Try.prog.info? 9).map (fun i => (i.zero, i.size, i.bytes)) = some (some (.string ByteArray.empty), 1, 16) := by kernel_rfl

theorem run_makeMap_hint (h : Int) (w : World) : (Instr.makeMap 36 (some (.int .i64 h))).run Try.prog w = .ok (.map (some w.heap.size)) (w.alloc (.map #[] 0)) := by
  simp [Instr.makeMap, run_underlying Try.underlying36, asInt, asIntOf, Result.andThen]

def litS (s : ByteArray) : Lit := .string s.data.toList
def keysS (K : List ByteArray) : List Lit := K.map litS
/-- block mb is a map that holds just the keys K, each with true -/
def OwnsSet (w : World) (mb n : Nat) (K : List ByteArray) : Prop := w.ownsMap Try.prog 9 (plainElem (H := Unit) Try.prog 4) mb n (setOf (.lit (.bool true)) (keysS K))

theorem toList_data (a : ByteArray) : a.toList = a.data.toList := by rw [ByteArray.toList_eq]

theorem keyLit_of {s : ByteArray} : WideAt.IsKeyLit (litS s) := by simp [WideAt.IsKeyLit, litS]

theorem keysS_lit (K : List ByteArray) : ∀ x ∈ keysS K, WideAt.IsKeyLit x := by
  intro x hx
  simp only [keysS, List.mem_map] at hx
  obtain ⟨s, _, rfl⟩ := hx
  exact keyLit_of

theorem sameKey_litS (s x : ByteArray) : (litS s).sameKey (litS x) = (s.toList == x.toList) := by
  rw [Bool.eq_iff_iff, WideAt.sameKey_iff keyLit_of, beq_iff_eq, toList_data, toList_data]
  simp [litS]

theorem any_keysS (K : List ByteArray) (x : ByteArray) : (keysS K).any (fun y => y.sameKey (litS x)) = hasS K x := by
  unfold keysS hasS
  rw [List.any_map]
  congr 1
  funext s
  exact sameKey_litS s x

theorem has_keysS (K : List ByteArray) (x : ByteArray) : Maps.has (setOf (H := Unit) (.lit (.bool true)) (keysS K)) (litS x) = hasS K x := by
  rw [has_setOf _ _ _ (keysS_lit K), any_keysS]

theorem atKey_fold (u z : DataW Unit) (k : Lit) (hk : WideAt.IsKeyLit k) : ∀ (acc : List Lit) (m : DataW Unit), IsMap m →
    (acc.foldl (fun m x => m.put x u) m).atKey k z = if acc.any (fun x => x.sameKey k) then u else m.atKey k z
  | [], m, _ => by simp
  | x :: r, m, hm => by
    rw [List.foldl_cons, atKey_fold u z k hk r (m.put x u) (hm.put x u), List.any_cons]
    by_cases e : k = x
    · subst e
      rw [atKey_put_same hm hk, WideAt.sameKey_self hk]
      simp
    · rw [atKey_put_other e, sameKey_ne (fun e' => e e'.symm)]
      simp

theorem atKey_keysS (K : List ByteArray) (x : ByteArray) : (setOf (H := Unit) (.lit (.bool true)) (keysS K)).atKey (litS x) (.lit (.bool false)) = .lit (.bool (hasS K x)) := by
  unfold setOf
  rw [atKey_fold _ _ _ keyLit_of _ _ isMap_empty, any_keysS]
  split
  · rename_i h; rw [h]
  · rename_i h; simp at h; rw [h]; rfl

theorem addKey_fold (K : List ByteArray) : ∀ D : List ByteArray, (keysS K).foldl addKey (keysS D) = keysS (K.foldl dstep D) := by
  induction K with
  | nil => intro D; rfl
  | cons x K ih =>
    intro D
    show (keysS K).foldl addKey (addKey (keysS D) (litS x)) = _
    have h : addKey (keysS D) (litS x) = keysS (dstep D x) := by
      unfold addKey dstep
      rw [any_keysS]
      split
      · rfl
      · simp [keysS]
    rw [h, ih]
    rfl

theorem size_keysS (K : List ByteArray) : Maps.size (setOf (H := Unit) (.lit (.bool true)) (keysS K)) = (dd K).length := by
  rw [size_setOf _ _ (keysS_lit K)]
  have := addKey_fold K []
  show ((keysS K).foldl addKey (keysS [])).length = _
  rw [this]
  simp [keysS, dd]

theorem plainElem_bool_inv {P : Program} {e : TypeId} (he : P.underlying e = some .bool) {v : Value} {z : DataW Unit × List MemPlace} (h : plainElem P e v = some z) : ∃ x, v = .bool x ∧ z = (.lit (.bool x), []) := by
  unfold plainElem at h
  rw [he] at h
  cases v <;> simp at h
  subst h
  exact ⟨_, rfl, rfl⟩

/-- 'm[k]' of the set: just whether the key is there -/
theorem OwnsSet.run_look {w : World} {mb n : Nat} {K : List ByteArray} (h : OwnsSet w mb n K) (x : ByteArray) (hx : x.size ≤ maxLen) :
    (Instr.lookup 36 (.map (some mb)) (.string x) false).run Try.prog w = .ok (.bool (hasS K x)) w := by
  obtain ⟨v, ps, hrun, hv⟩ := World.ownsMap.lookup h law9 Try.underlying36 (zero4 w) (plainElem_bool Try.underlying4 false) (keyOf_string_mk Try.underlying9 hx)
  obtain ⟨c, rfl, hc⟩ := plainElem_bool_inv Try.underlying4 hv
  simp only [Prod.mk.injEq] at hc
  have h2 := atKey_keysS K x
  unfold litS at h2
  rw [h2] at hc
  have h3 : hasS K x = c := by simpa using hc.1
  rw [hrun, h3]

theorem wpList_look {w : World} {ops : Array Oper} {rest : List Oper} {o : Oper} {a : Act} {Q : Exit → Act → World → Prop}
    (hg : o.guard = none) (m x : Operand) (hop : o.op = Op.lookup 36 m x false) (mb n : Nat) (K : List ByteArray) (s : ByteArray)
    (hm : a.eval m = .map (some mb)) (hown : OwnsSet w mb n K) (hx : a.eval x = .string s) (hs : s.size ≤ maxLen) (c : Bool) (hc : hasS K s = c)
    (hK : wpList Try.prog ops Q rest (a.put o.dst (.bool c)) w) :
    wpList Try.prog ops Q (o :: rest) a w := by
  subst hc
  refine wpList_plain hg fun K' hK' => ?_
  have hrun := hown.run_look s hs
  unfold Oper.wp
  simp [execOp, hop, hm, hx, hrun, Result.andThen]
  exact hK' _ _ hK

theorem wpList_lenSet {w : World} {ops : Array Oper} {rest : List Oper} {o : Oper} {a : Act} {Q : Exit → Act → World → Prop}
    (hg : o.guard = none) (m : Operand) (hop : o.op = Op.call { callee := Callee.builtin Builtin.len, args := #[m], argTypes := #[36] }) (mb n : Nat) (K : List ByteArray) (c : Nat)
    (hm : a.eval m = .map (some mb)) (hown : OwnsSet w mb n K) (hc : (dd K).length = c)
    (hK : wpList Try.prog ops Q rest (a.put o.dst (.int .i64 (c : Int))) w) :
    wpList Try.prog ops Q (o :: rest) a w := by
  refine wpList_len_own (w := w) hg m 36 hop 9 4 Try.underlying36 _ mb n _ hm hown ?_
  rw [size_keysS, hc]
  exact hK

theorem wpList_put {w : World} {ops : Array Oper} {rest : List Oper} {o : Oper} {a : Act} {Q : Exit → Act → World → Prop}
    (hg : o.guard = none) (m x v : Operand) (hop : o.op = Op.mapUpdate 36 m x v) (mb n : Nat) (K : List ByteArray) (s : ByteArray)
    (hm : a.eval m = .map (some mb)) (hown : OwnsSet w mb n K) (hn : n < maxLen) (hx : a.eval x = .string s) (hv : a.eval v = .bool true) (hs : s.size ≤ maxLen)
    (hK : ∀ w', OwnsSet w' mb (n + 1) (K ++ [s]) → w.grownBy w' (some mb) → wpList Try.prog ops Q rest (a.put o.dst undef) w') :
    wpList Try.prog ops Q (o :: rest) a w := by
  refine wpList_mapUpdate_own w hg m x v 36 hop 9 4 law9 Try.underlying36 _ mb n _ hm hown hn _ _ _ hx hv (keyOf_string_mk Try.underlying9 hs) _ _ (plainElem_bool Try.underlying4 true) ?_
  intro w' h1 h2
  refine hK w' ?_ h2
  unfold OwnsSet
  have : keysS (K ++ [s]) = keysS K ++ [litS s] := by simp [keysS]
  rw [this, setOf_snoc]
  exact h1

theorem ownsSet_made (w : World) : OwnsSet (w.alloc (.map #[] 0)) w.heap.size 0 [] := World.ownsMap_made _ _ _ _

end Go.Proofs.Qxb6605386a
