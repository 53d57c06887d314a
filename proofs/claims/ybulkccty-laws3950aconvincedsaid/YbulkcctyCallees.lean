/-
  Seat b3950a. The library's four functions by their contracts of the shelf, laid at this dump: slices.Clone (4), slices.Sort (5), slices.Equal (7), slices.BinarySearch (23); nil and empty slices too.
-/
import Derived.Test.YbulkcctyRows
import Derived.Test.YbulkcctyPlain
import Derived.WalkKit
import Derived.Ground.NamesProg
import Derived.Ground.Names2Prog
import Derived.Shelf.Lay
import Derived.Shelf.Slices.Clone
import Derived.Shelf.Slices.Equal
import Derived.Shelf.Spec.SearchS
import Derived.Shelf.Sort.Plain
import Derived.Shelf.Slices.In.SortNone
import Derived.Sort.OwnSorted
import Derived.Sort.Grow
import Derived.Lib.OwnBridge
namespace Go.Proofs
open Go.Shelf
shelf_lay Lays2.n16 Nm2 16 at Yba as Yba.laysClone
shelf_lay Lays.n190 Nm 190 at Yba as Yba.laysSort
shelf_lay Lays.n193 Nm 193 at Yba as Yba.laysEqual
shelf_lay Lays2.n26 Nm2 26 at Yba as Yba.laysSearch
end Go.Proofs

namespace Go.Proofs.Ybulkccty
open Go.RowKit Go.Shelf Go.Sort

/-- A slice of strings as it lies in memory. -/
def CameS (w : World) (a0 : Option Addr) (len : Nat) (ss : List ByteArray) : Prop :=
  ss.length = len ∧ ∀ j, j < len → ∃ x, a0 = some x ∧ w.cell? (x.add j) = some (.string (ss.getD j ByteArray.empty))

theorem cameS_later {w w' : World} {a0 : Option Addr} {len : Nat} {ss : List ByteArray} (h : CameS w a0 len ss) (hb : Below w.heap.size w w') : CameS w' a0 len ss :=
  ⟨h.1, fun j hj => by
    obtain ⟨x, hx, hc⟩ := h.2 j hj
    exact ⟨x, hx, (hb.cell (block_lt_of_cell hc)).trans hc⟩⟩

/-- A slice of strings that the call itself made. -/
def OwnS (base : Nat) (w : World) (a : Option Addr) (n c : Nat) (ss : List ByteArray) : Prop :=
  (a = none ∧ n = 0 ∧ c = 0 ∧ ss = []) ∨ (∃ g, a = some ⟨g, 0, none⟩ ∧ w.ownsRow base 9 1 (.slice (some ⟨g, 0, none⟩) n c) n (ss.map Value.string))

theorem OwnS.came {base : Nat} {w : World} {a : Option Addr} {n c : Nat} {ss : List ByteArray} (h : OwnS base w a n c ss) : CameS w a n ss := by
  rcases h with ⟨rfl, rfl, rfl, rfl⟩ | ⟨g, rfl, h⟩
  · exact ⟨rfl, fun j hj => by omega⟩
  · have hl : ss.length = n := by simpa using h.1
    refine ⟨hl, fun j hj => ⟨_, rfl, ?_⟩⟩
    have := h.cellAt j (by omega)
    rw [Addr.add_lit, Nat.zero_add, this, List.getElem?_map, List.getElem?_eq_getElem (by omega)]
    simp [List.getD, List.getElem?_eq_getElem (show j < ss.length by omega)]

theorem CameS.addr {w : World} {a : Option Addr} {n : Nat} {ss : List ByteArray} (h : CameS w a n ss) (hn : 0 < n) : ∃ b off, a = some ⟨b, off, none⟩ ∧ ∀ j, j < n → w.cell? ⟨b, off + j, none⟩ = some (.string (ss.getD j ByteArray.empty)) := by
  obtain ⟨⟨b, off, spot⟩, rfl, hc⟩ := h.2 0 hn
  have hspot : spot = none := by simpa [Addr.add] using World.cell?_spot hc
  subst hspot
  refine ⟨b, off, rfl, fun j hj => ?_⟩
  obtain ⟨x, hx, hcj⟩ := h.2 j hj
  cases hx
  rw [Addr.add_lit] at hcj; exact hcj

theorem clone_any (a : Option Addr) (n c : Nat) (ss : List ByteArray) (w : World) (hn : n ≤ 1024) (h : Hid (CameS w a n ss)) :
    Calls Yba.prog 4 #[.slice a n c] w fun e w' => ∃ a' c', e = .returned (.slice a' n c') ∧ OwnS w.heap.size w' a' n c' ss ∧ Below w.heap.size w w' := by
  cases a with
  | none =>
    have h0 : n = 0 := by
      rcases Nat.eq_zero_or_pos n with h0 | h0
      · exact h0
      · obtain ⟨x, hx, _⟩ := h.out.2 0 h0; cases hx
    subst h0
    have hs : ss = [] := List.length_eq_zero_iff.1 h.out.1
    subst hs
    refine (Any.slices_Clone_string_nil Yba.laysClone 0 c w).mono ?_
    rintro e w' ⟨rfl, rfl⟩
    exact ⟨none, 0, rfl, .inl ⟨rfl, rfl, rfl, rfl⟩, Below.refl _ _⟩
  | some x =>
    have fin : ∀ (v' : Value) (w' : World), w'.ownsRow w.heap.size 9 1 v' n (ss.map Value.string) → v' ≠ .slice none 0 0 → Below w.heap.size w w' → ∃ a' c', Ending.returned v' = .returned (.slice a' n c') ∧ OwnS w.heap.size w' a' n c' ss ∧ Below w.heap.size w w' := by
      intro v' w' ho hne hb
      rcases ho.2 with ⟨h0, _⟩ | ⟨g, cap, cur, rfl, _⟩
      · exact absurd h0 hne
      · exact ⟨_, cap, rfl, .inr ⟨g, rfl, ho⟩, hb⟩
    rcases Nat.eq_zero_or_pos n with h0 | h0
    · subst h0
      have hs : ss = [] := List.length_eq_zero_iff.1 h.out.1
      subst hs
      refine (Any.slices_Clone_string_zero Yba.laysClone x c w).mono ?_
      rintro e w' ⟨v', rfl, ho, hne, hb⟩
      exact fin v' w' ho hne hb
    · obtain ⟨b, off, hx, hc⟩ := h.out.addr h0
      cases hx
      have hl := h.out.1
      refine (Any.slices_Clone_string Yba.laysClone b off n c ss w (by omega) (by omega) (fun j hj => hc j (by omega))).mono ?_
      rintro e w' ⟨v', rfl, ho, hne, hb⟩
      rw [List.take_of_length_le (by omega)] at ho
      exact fin v' w' ho hne hb

/-- The strings in the order of their bytes. -/
def sorted (ss : List ByteArray) : List ByteArray := ((ss.map (·.data.toList)).mergeSort fun x y => decide (x ≤ y)).map fun l => ⟨l.toArray⟩

theorem sorted_length (ss : List ByteArray) : (sorted ss).length = ss.length := by simp [sorted]

theorem sorted_enc (ss : List ByteArray) : ((ss.map (·.data.toList)).mergeSort fun x y => decide (x ≤ y)).map encStr = (sorted ss).map Value.string := by
  simp [sorted, Function.comp_def]

theorem sorted_asc (ss : List ByteArray) : Asc (sorted ss) := by
  have hp : ((ss.map (·.data.toList)).mergeSort fun x y => decide (x ≤ y)).Pairwise fun x y => decide (x ≤ y) = true :=
    List.pairwise_mergeSort (fun a b c h1 h2 => by simp only [decide_eq_true_eq] at *; exact List.le_trans h1 h2) (fun a b => by
      rcases List.le_total a b with h | h
      · simp [h]
      · simp [h]) _
  intro i j hij hj
  rw [sorted_length] at hj
  have hlen : ((ss.map (·.data.toList)).mergeSort fun x y => decide (x ≤ y)).length = ss.length := by simp
  obtain ⟨L, hL⟩ : ∃ L, ((ss.map (·.data.toList)).mergeSort fun x y => decide (x ≤ y)) = L := ⟨_, rfl⟩
  have hs : sorted ss = L.map fun l => ⟨l.toArray⟩ := by unfold sorted; rw [hL]
  rw [hL] at hp hlen
  rw [hs]
  have hi' : i < L.length := by omega
  have hj' : j < L.length := by omega
  simp only [List.getD, List.getElem?_map, List.getElem?_eq_getElem hi', List.getElem?_eq_getElem hj', Option.map_some, Option.getD_some, Lib.toList_data]
  rcases Nat.lt_or_eq_of_le hij with h | h
  · simpa using List.pairwise_iff_getElem.1 hp i j hi' hj' h
  · subst h; exact List.le_refl _

theorem sort_any (base : Nat) (a : Option Addr) (n c : Nat) (ss : List ByteArray) (w : World) (hn : n ≤ 1024) (hb : base ≤ w.heap.size) (h : Hid (OwnS base w a n c ss)) :
    Calls Yba.prog 5 #[.slice a n c] w fun e w' => e = .returned (.tuple #[]) ∧ OwnS base w' a n c (sorted ss) ∧ Below base w w' := by
  rcases h.out with ⟨rfl, rfl, rfl, rfl⟩ | ⟨g, rfl, ho⟩
  · refine (calls_of_every_depth fun D => AnyS.slices_Sort_string_none_alone Yba.laysSort D none 0 w).mono ?_
    rintro e w' ⟨rfl, rfl⟩
    exact ⟨rfl, .inl ⟨rfl, rfl, rfl, by simp [sorted]⟩, Below.refl _ _⟩
  · have hl : ss.length = n := by simpa using ho.1
    rw [← Lib.map_encStr] at ho
    obtain ⟨g', cap', hv, hbg, hgl, hnc, hcm, hlen, hH⟩ := Lib.holds_of_ownsRow ho (by simp)
    cases hv
    have hs := Any.slices_Sort_string Yba.laysSort g 0 c (ss.map (·.data.toList)) w hH hgl (by omega)
    rw [hlen] at hs
    refine hs.mono ?_
    rintro e w' ⟨rfl, nn, os, rfl⟩
    refine ⟨rfl, .inr ⟨g, rfl, ?_⟩, (Below.refl _ _).grown (grownBy_sorted _) hb (fun j hj => by cases hj; exact hbg)⟩
    rcases ho.2 with ⟨h0, _⟩ | ⟨g', cap', cur, hv, hbase, hbl, h1, h2, h3, h4⟩
    · cases h0
    cases hv
    have := ownsRow_sorted (n := nn) (os := os) (ss := ss.map (·.data.toList)) (ts := (ss.map (·.data.toList)).mergeSort fun x y => decide (x ≤ y)) (List.length_mergeSort _) hbase hbl (by omega) h2 h3
    rw [hlen, sorted_enc] at this
    exact this

theorem equal_any (a b : Option Addr) (n c d : Nat) (ss : List ByteArray) (w : World) (hn : n ≤ 1024) (h1 : Hid (CameS w a n ss)) (h2 : Hid (CameS w b n ss)) :
    Calls Yba.prog 7 #[.slice a n c, .slice b n d] w fun e w' => e = .returned (.bool true) ∧ ∃ q, w' = w.drewN q := by
  rcases Nat.eq_zero_or_pos n with h0 | h0
  · subst h0
    refine (Any.slices_Equal_string_empty Yba.laysEqual a b c 0 d w (by omega)).mono ?_
    rintro e w' ⟨rfl, rfl⟩
    exact ⟨rfl, 0, rfl⟩
  · obtain ⟨b1, o1, rfl, c1⟩ := h1.out.addr h0
    obtain ⟨b2, o2, rfl, c2⟩ := h2.out.addr h0
    have hl := h1.out.1
    refine (Any.slices_Equal_string Yba.laysEqual b1 o1 n c b2 o2 n d ss ss w (by omega) (by omega) (by omega) (by omega) (fun j hj => c1 j (by omega)) (fun j hj => c2 j (by omega))).mono ?_
    rintro e w' ⟨rfl, hq⟩
    exact ⟨by simp, hq⟩

set_option maxHeartbeats 1600000 in
set_option maxRecDepth 100000 in
theorem search_none (a : Option Addr) (c : Nat) (x : ByteArray) (w : World) :
    Calls Yba.prog 23 #[.slice a 0 c, .string x] w fun e w' => e = .returned (.tuple #[.int .i64 0, .bool false]) ∧ ∃ q, w' = w.drewN q := by
  go_enter Yba.func23, Yba.ntmps23
  go_wp2
  refine wp_loop_rounds 1 ?_
  rw [rounds_succ]
  go_wp2
  go_ret2
  exact ⟨rfl, 0, rfl⟩

theorem search_any (a : Option Addr) (n c : Nat) (zs : List ByteArray) (x : ByteArray) (w : World) (hn : n ≤ 1024) (h : Hid (CameS w a n zs)) (ha : Hid (Asc zs)) :
    Calls Yba.prog 23 #[.slice a n c, .string x] w fun e w' => (∃ i : Int, e = .returned (.tuple #[.int .i64 i, .bool (isIn zs x)])) ∧ ∃ q, w' = w.drewN q := by
  have hl := h.out.1
  rcases Nat.eq_zero_or_pos n with h0 | h0
  · subst h0
    have hz : zs = [] := List.length_eq_zero_iff.1 hl
    subst hz
    refine (search_none a c x w).mono ?_
    rintro e w' ⟨rfl, hq⟩
    exact ⟨⟨0, rfl⟩, hq⟩
  · obtain ⟨b, off, rfl, hc⟩ := h.out.addr h0
    refine (Any2.slices_BinarySearch_string Yba.laysSearch b off n c (rowOf zs x) x w (by omega) (fun j hj => ?_)).mono ?_
    · rw [rowOf, if_pos (by omega)]; exact hc j hj
    · rintro e w' ⟨rfl, hq⟩
      rw [found zs x ha.out n hl]
      exact ⟨⟨_, rfl⟩, hq⟩
end Go.Proofs.Ybulkccty
