import Derived.Test.Qxb6605519aDoorInt
import Derived.Deep.AppendLies
import Derived.Deep.RegionLaw
namespace Go.Proofs.Qxb6605519aDoor
open Go.Shelf Go.RowKit Go.Sort Go.Lib

/-- the slice value leads to the bytes l -/
def BRow (w : World) (a : Option Addr) (l : List UInt8) : Prop :=
  0 < l.length → ∃ b off, a = some ⟨b, off, none⟩ ∧ b < w.heap.size ∧ ∀ j, j < l.length → w.cell? ⟨b, off + j, none⟩ = some (bcell (l.getD j 0))

def abc : ByteArray := ⟨#[97, 98, 99, 100, 101, 102, 103, 104, 105, 106, 107, 108, 109, 110, 111, 112, 113, 114, 115, 116, 117, 118, 119, 120, 121, 122, 65, 66, 67, 68, 69, 70, 71, 72, 73, 74, 75, 76, 77, 78, 79, 80, 81, 82, 83, 84, 85, 86, 87, 88, 89, 90]⟩
def letter (k : Nat) : UInt8 := UInt8.ofNat (if k < 26 then 97 + k else 39 + k)
theorem abc_at (k : Nat) (h : k < abc.size) : abc[k]'h = letter k := by
  have hs : abc.size = 52 := by decide
  have h2 : ∀ k : Fin 52, abc.data.toList.getD k.val 0 = letter k.val := by decide
  have h3 := h2 ⟨k, by omega⟩
  rw [← h3]
  have h4 : k < abc.data.toList.length := by simpa using h
  simp only [List.getD, List.getElem?_eq_getElem h4, Option.getD_some]
  rfl

/-- what appendValue gives -/
def Gives (w : World) (l : List UInt8) (e : Ending) (w' : World) : Prop := ∃ a cap, e = .returned (.slice a l.length cap) ∧ BRow w' a l ∧ Below w.heap.size w w'

theorem cell_new0 (W : World) (H : Nat) (hH : W.heap.size = H) (v : Value) (r : Array Value) (t : TypeId) : (W.alloc (.cells (#[v] ++ r) t)).cell? ⟨H, 0, none⟩ = some v := by
  subst hH
  rw [World.cell?_alloc_new, Array.getElem?_append_left (by simp)]
  rfl

theorem value_letter (fr st cn wd i v : Int) (hv : wrap64 (fr + wrap64 (i * st)) = v) (h0 : 0 ≤ v) (h1 : v < 52) (w : World) :
    Calls Tryd.prog 10 #[.agg #[.bool true, .int .i64 fr, .int .i64 st, .int .i64 cn, .int .i64 wd], .slice none 0 0, .int .i64 i] w (Gives w [letter v.toNat]) := by
  have hab := abc_at v.toNat (by have : abc.size = 52 := by decide
                                 omega)
  unfold abc at hab
  go_enter Tryd.func10, Tryd.ntmps10
  go_wp2
  go_ret
  refine ⟨_, _, rfl, fun _ => ⟨_, 0, rfl, by simp, fun j hj => ?_⟩, ?_⟩
  · have : j = 0 := by simpa using hj
    subst this
    exact cell_new0 _ _ (by simp) _ _ _
  · exact (((((Below.refl _ w).alloc (Nat.le_refl _) _).alloc (by simp) _)).alloc (by simp; omega) _).drew

theorem cell_one_new (w : World) (v : Value) (t : TypeId) (H : Nat) (hH : w.heap.size = H) : ∀ j u, [v][j]? = some u → (w.alloc (.cells #[v] t)).cell? ((⟨H, 0, none⟩ : Addr).add j) = some u := by
  intro j u hj
  subst hH
  match j, hj with
  | 0, hj =>
    simp at hj
    subst hj
    simp [Addr.add]

theorem brow_of_owns {w : World} {B : Nat} {v : Value} {l : List UInt8} (h : w.ownsRow B 5 1 v l.length (l.map bcell)) (h0 : 0 < l.length) : ∃ a cap, v = .slice a l.length cap ∧ BRow w a l := by
  obtain ⟨g, cap, hv, hb, hlt⟩ := h.form h0
  subst hv
  refine ⟨_, cap, rfl, fun _ => ⟨g, 0, rfl, hlt, fun j hj => ?_⟩⟩
  have := h.cells (g := g) rfl j (bcell (l.getD j 0)) (by rw [List.getElem?_map, List.getElem?_eq_getElem hj]; simp [List.getD, hj])
  rw [Lib.add_plain] at this
  exact this

set_option maxHeartbeats 4000000 in
theorem value_nonneg (fr st cn wd i v : Int) (hv : wrap64 (fr + wrap64 (i * st)) = v) (h0 : 0 ≤ v) (h1 : v ≤ 9223372036854775807) (w0 : -65536 ≤ wd) (w1 : wd ≤ 65536) (w : World)
    (htab : Lib.TabIs Tryd.prog w "internal/strconv.uint64pow10" .u64 Lib.pow10Tab) (D : List UInt8) (hD : D = itoa v) (z : Nat) (hz : z = (wd - D.length).toNat) :
    Calls Tryd.prog 10 #[.agg #[.bool false, .int .i64 fr, .int .i64 st, .int .i64 cn, .int .i64 wd], .slice none 0 0, .int .i64 i] w (Gives w (List.replicate z 48 ++ D)) := by
  have hl := itoa_le v (by omega) h1
  have hpos : 0 < D.length := by
    rw [hD]; unfold itoa; rw [if_neg (by omega), decDigits_length]; exact nDigits_pos _
  have hT : Lib.TabBelow Tryd.prog w.heap.size ((w.alloc (.cells #[.bool false, .int .i64 fr, .int .i64 st, .int .i64 cn, .int .i64 wd] 32)).alloc (.cells (Array.replicate 20 (.int .u8 0)) 37)) "internal/strconv.uint64pow10" .u64 Lib.pow10Tab := (Lib.tabBelow_of_tabIs htab).on (((Below.refl _ _).alloc (Nat.le_refl _) _).alloc (by simp) _)
  have hr0 : ((w.alloc (.cells #[.bool false, .int .i64 fr, .int .i64 st, .int .i64 cn, .int .i64 wd] 32)).alloc (.cells (Array.replicate 20 (.int .u8 0)) 37)).rowIs (w.heap.size + 1) 37 20 (fun _ => .int .u8 0) := by
    have := World.rowIs_alloc (w.alloc (.cells #[.bool false, .int .i64 fr, .int .i64 st, .int .i64 cn, .int .i64 wd] 32)) (Array.replicate 20 (.int .u8 0)) 37 (fun _ => .int .u8 0) (fun i hi => by simp at hi; simp [hi])
    simpa using this
  have hc0 : ((w.alloc (.cells #[.bool false, .int .i64 fr, .int .i64 st, .int .i64 cn, .int .i64 wd] 32)).alloc (.cells (Array.replicate 20 (.int .u8 0)) 37)).cell? ⟨w.heap.size, 4, none⟩ = some (.int .i64 wd) := by
    rw [World.cell?_alloc_past]
    · simp
    · simp
  have hcall := appendInt_room w.heap.size (w.heap.size + 1) v (by omega) h1 (fun _ => .int .u8 0) _ hr0 (by omega) hT
  have hb0 : Below w.heap.size w ((w.alloc (.cells #[.bool false, .int .i64 fr, .int .i64 st, .int .i64 cn, .int .i64 wd] 32)).alloc (.cells (Array.replicate 20 (.int .u8 0)) 37)) := ((Below.refl _ _).alloc (Nat.le_refl _) _).alloc (by simp) _
  have hs0 : ((w.alloc (.cells #[.bool false, .int .i64 fr, .int .i64 st, .int .i64 cn, .int .i64 wd] 32)).alloc (.cells (Array.replicate 20 (.int .u8 0)) 37)).heap.size = w.heap.size + 2 := by simp
  rw [← hD] at hcall hl
  have HZ := hide hz
  have HD := hide hD
  clear hT hr0 hz hD
  have HC := hide hc0
  have HS := hide (And.intro hb0 hs0)
  clear hc0 hb0 hs0
  obtain ⟨i0, hi, hz0, hz1, hz2⟩ := info_parts info5
  go_enter Tryd.func10, Tryd.ntmps10
  go_wp2_with fail
  refine hcall.mono ?_
  rintro e w2 ⟨rfl, hrow2, hch2⟩
  obtain ⟨hb0, hs0⟩ := unhide HS
  have hc2 : w2.cell? ⟨w.heap.size, 4, none⟩ = some (.int .i64 wd) := by
    rw [hch2.cell (p := ⟨w.heap.size, 4, none⟩) (by rw [hs0]; simp) (by simp)]
    exact unhide HC
  have hb2 : Below w.heap.size w w2 := hb0.trans (hch2.below hb0.size (fun k hk => by omega))
  have hs2 : w.heap.size + 2 ≤ w2.heap.size := by have := hch2.size; omega
  clear hb0 hs0 hch2 hcall HC HS
  have HB := hide hb2
  have HR := hide hrow2
  clear hb2 hrow2
  go_wp2
  go_loopw [1, 10] (fun b zz wr => ∃ k : Nat, k ≤ z ∧ zz = .int .i64 (wd - D.length - k) ∧ wr.ownsRow w2.heap.size 5 1 b k (List.replicate k (.int .u8 48)) ∧ Below w2.heap.size w2 wr) (fun _ zz _ => (Go.RowKit.intOf zz).toNat)
  case atStart => exact ⟨0, Nat.zero_le _, by simp, World.ownsRow_nil _ _ _ _, Below.refl _ _⟩
  case round =>
    obtain ⟨k, hk, rfl, hown, hbr⟩ := hrel
    have hz := unhide HZ
    by_cases hgt : 0 < wd - D.length - k
    · have hwb : w2.heap.size ≤ wr.heap.size := hbr.size
      have hkz : k + 1 ≤ z := by omega
      have hz64 : z ≤ 65536 := by omega
      clear hz
      go_wp2_with (at_builtin; go_must (refine wpList_append_lies _ rfl (.tmp 44) (.tmp 45) 22 rfl w2.heap.size 5 i0 (.int .u8 0) 1 1 Tryd.underlying22 hi hz0 hz1 hz2 rfl (by decide) _ _ _ rfl (hown.alloc _) ⟨wr.heap.size, 0, none⟩ 1 1 [.int .u8 48] rfl rfl (cell_one_new _ _ _ _ rfl) (fun u hu => by simp at hu; subst hu; rfl) (by decide) (by unfold maxLen; omega) (by omega) (by simp; omega) (wr.heap.size + 1) (by simp) ?_; intro g cap' w3 hown' hgrow hat hlt))
      have hb3 : Below w2.heap.size w2 w3 := (hbr.alloc hwb _).grown hgrow (by simp; omega) (fun k hk => (hown.lt k hk).1)
      go_wp2
      go_roundw
      case rel =>
        refine ⟨k + 1, hkz, by go_num, ?_, hb3⟩
        rw [List.replicate_succ']
        exact hown'
      case measure => simp [Go.RowKit.intOf]; omega
    · have hkz : k = z := by omega
      subst hkz
      have hz64 : k ≤ 65536 := by omega
      clear hz
      have hwb : w2.heap.size ≤ wr.heap.size := hbr.size
      have hrow3 : wr.rowIs (w.heap.size + 1) 37 20 (laidAt (fun _ => .int .u8 0) 0 D) := (unhide HR).of_block (hbr.block _ (by omega))
      have hnews : ∀ j u, (D.map bcell)[j]? = some u → wr.cell? ((⟨w.heap.size + 1, 0, none⟩ : Addr).add j) = some u := by
        intro j u hj
        have hjl : j < D.length := by have := (List.getElem?_eq_some_iff.1 hj).1; simpa using this
        rw [Lib.add_plain, Nat.zero_add, hrow3.cell (by omega)]
        unfold laidAt
        rw [if_pos (by omega)]
        rw [List.getElem?_map, List.getElem?_eq_getElem hjl] at hj
        simp only [Option.map_some, Option.some.injEq] at hj
        rw [← hj]
        simp [List.getD, hjl]
      go_wp2_with (at_builtin; go_must (refine wpList_append_lies _ rfl (.tmp 47) (.tmp 48) 22 rfl w2.heap.size 5 i0 (.int .u8 0) 1 1 Tryd.underlying22 hi hz0 hz1 hz2 rfl (by decide) _ _ _ rfl hown ⟨w.heap.size + 1, 0, none⟩ D.length 20 (D.map bcell) rfl (by simp) hnews (bcell_one D) hpos (by unfold maxLen; omega) (by omega) hwb wr.heap.size rfl ?_; intro g cap' w3 hown' hgrow hat hlt))
      have hb3 : Below w2.heap.size w2 w3 := hbr.grown hgrow hwb (fun k hk => (hown.lt k hk).1)
      go_wp2
      go_ret
      have hb2 := unhide HB
      have e1 : List.replicate k (Value.int .u8 48) ++ D.map bcell = (List.replicate k (48 : UInt8) ++ D).map bcell := by simp [bcell]
      have e2 : k + D.length = (List.replicate k (48 : UInt8) ++ D).length := by simp
      rw [e1, e2] at hown'
      obtain ⟨a, cap2, hv2, hbr2⟩ := brow_of_owns hown' (by simp; omega)
      simp only [Value.slice.injEq, true_and] at hv2
      obtain ⟨rfl, rfl⟩ := hv2
      refine ⟨_, cap', ?_, hbr2, hb2.trans (hb3.mono hb2.size)⟩
      rw [← e2]
      rfl

end Go.Proofs.Qxb6605519aDoor
