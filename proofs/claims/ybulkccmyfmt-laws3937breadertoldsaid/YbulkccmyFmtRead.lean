/-
  Seat b3937aF. The contracts of the law's own reader ('ReadAt', 29) and of 'at' (8), 'crc' (5) through it.
-/
import Derived.Test.YbulkccmyFmtErr
namespace Go.Proofs.YbulkccmyFmt
open Go.RowKit

/-- The reader's block. -/
def Rdr (R : Nat) (d : Value) (fail : Bool) (calls pos n : Int) (w : World) : Prop :=
  w.heap[R]? = some (.cells #[d, .bool fail, .int .i64 calls, .int .i64 pos, .int .i64 n] 26 (0, 0))

section
variable {R : Nat} {d : Value} {fail : Bool} {calls pos n : Int} {w : World}
theorem Rdr.c0 (h : Rdr R d fail calls pos n w) : w.cell? ⟨R, 0, none⟩ = some d := by rw [cell_of_row _ _ _ _ _ _ h]; rfl
theorem Rdr.c1 (h : Rdr R d fail calls pos n w) : w.cell? ⟨R, 1, none⟩ = some (.bool fail) := by rw [cell_of_row _ _ _ _ _ _ h]; rfl
theorem Rdr.c2 (h : Rdr R d fail calls pos n w) : w.cell? ⟨R, 2, none⟩ = some (.int .i64 calls) := by rw [cell_of_row _ _ _ _ _ _ h]; rfl
theorem Rdr.c3 (h : Rdr R d fail calls pos n w) : w.cell? ⟨R, 3, none⟩ = some (.int .i64 pos) := by rw [cell_of_row _ _ _ _ _ _ h]; rfl
theorem Rdr.c4 (h : Rdr R d fail calls pos n w) : w.cell? ⟨R, 4, none⟩ = some (.int .i64 n) := by rw [cell_of_row _ _ _ _ _ _ h]; rfl
theorem Rdr.fr (h : Rdr R d fail calls pos n w) (j : Nat) : w.frozen? ⟨R, j, none⟩ = false := frozen_of_row _ _ _ _ _ h
theorem Rdr.s2 (h : Rdr R d fail calls pos n w) (k : Int) : Rdr R d fail k pos n (w.setCell ⟨R, 2, none⟩ (.int .i64 k)) := heap_setCell_same _ _ _ _ _ _ h
theorem Rdr.s3 (h : Rdr R d fail calls pos n w) (k : Int) : Rdr R d fail calls k n (w.setCell ⟨R, 3, none⟩ (.int .i64 k)) := heap_setCell_same _ _ _ _ _ _ h
theorem Rdr.s4 (h : Rdr R d fail calls pos n w) (k : Int) : Rdr R d fail calls pos k (w.setCell ⟨R, 4, none⟩ (.int .i64 k)) := heap_setCell_same _ _ _ _ _ _ h
theorem Rdr.lt (h : Rdr R d fail calls pos n w) : R < w.heap.size := lt_of_block h
theorem Rdr.other (h : Rdr R d fail calls pos n w) {a : Addr} (ha : R ≠ a.block) (u : Value) : Rdr R d fail calls pos n (w.setCell a u) := by
  unfold Rdr; rw [Below.heap_setCell _ _ _ _ ha]; exact h
theorem Rdr.alloc (h : Rdr R d fail calls pos n w) (o : Obj) : Rdr R d fail calls pos n (w.alloc o) := by
  unfold Rdr; rw [Below.heap_alloc _ _ _ h.lt]; exact h
theorem Rdr.below {w' : World} (h : Rdr R d fail calls pos n w) (hb : Below w.heap.size w w') : Rdr R d fail calls pos n w' := by
  unfold Rdr; rw [hb.block R h.lt]; exact h
end

theorem one_new {W : World} {v : Value} {t : TypeId} {n : Nat} (h : n = W.heap.size) : (W.alloc (.cells #[v] t)).cell? ⟨n, 0, none⟩ = some v := by
  subst h
  rw [cell_of_row _ _ _ _ _ (0, 0) (heap_alloc_new W _)]; rfl

set_option maxHeartbeats 800000 in
set_option maxRecDepth 100000 in
/-- The read fails. -/
theorem read_fail (b0 R g cap : Nat) (d : Value) (c0 p0 n0 off : Int) (w : World) (hR : Hid (Rdr R d true c0 p0 n0 w)) (hc : 0 ≤ c0) (hc' : c0 ≤ 10) (hb : b0 ≤ R) :
    Calls Ybaf.prog 29 #[.pointer (some ⟨R, 0, none⟩), .slice (some ⟨g, 0, none⟩) 4 cap, .int .i64 off] w fun e w' => ∃ (b : Nat) (s : ByteArray),
      e = .returned (.tuple #[.int .i64 0, .iface 56 (.pointer (some ⟨b, 0, none⟩))]) ∧ w'.cell? ⟨b, 0, none⟩ = some (.string s) ∧ Rdr R d true (c0 + 1) off 4 w' ∧ Below b0 w w' := by
  have q1 := hR.out.c1
  have q2 := hR.out.c2
  have q3 := hR.out.c3
  have q4 := hR.out.c4
  have f2 := hR.out.fr 2
  have f3 := hR.out.fr 3
  have f4 := hR.out.fr 4
  have hlt := hR.out.lt
  go_enter Ybaf.func29, Ybaf.ntmps29
  go_wp2
  go_ret2
  refine ⟨w.heap.size, { data := #[122, 122, 32, 114, 101, 97, 100, 32, 102, 97, 105, 108, 115] }, rfl, one_new (by simp [World.setCell]), ((((hR.out.s2 _).s3 _).s4 _).alloc _), ((((Below.refl _ _).setCell (p := ⟨R, 2, none⟩) hb _).setCell (p := ⟨R, 3, none⟩) hb _).setCell (p := ⟨R, 4, none⟩) hb _).alloc (by simp; omega) _⟩

/-- The octets that the reader has laid. -/
def Laid (z : List Int) (off : Int) (m : Nat) (L : List Value) : Prop := L.length = 4 ∧ ∀ j, j < m → L[j]? = some (.int .u8 (byteAt z (off + (j : Int))))

theorem laid_step {z : List Int} {off : Int} {m : Nat} {L : List Value} (h : Laid z off m L) (hm : m < 4) : Laid z off (m + 1) (L.set m (.int .u8 (byteAt z (off + (m : Int))))) := by
  refine ⟨by simpa using h.1, fun j hj => ?_⟩
  have hl := h.1
  by_cases e : j = m
  · subst e
    rw [List.getElem?_set_self (by omega)]
  · rw [List.getElem?_set_ne (fun e' => e e'.symm)]
    exact h.2 j (by omega)

set_option maxHeartbeats 800000 in
set_option maxRecDepth 100000 in
/-- The read goes well. -/
theorem read_ok (b0 R g len cap : Nat) (a0 : Option Addr) (z : List Int) (L : List Value) (c0 p0 n0 off : Int) (w : World) (hR : Hid (Rdr R (.slice a0 len cap) false c0 p0 n0 w)) (hc : 0 ≤ c0) (hc' : c0 ≤ 10) (hb : b0 ≤ R)
    (hgR : g ≠ R) (hown : Hid (w.ownsRow b0 5 1 (.slice (some ⟨g, 0, none⟩) 4 4) 4 L)) (hlen : len ≤ 4096) (ho : 0 ≤ off) (ho' : off ≤ 8000000000) (hcm : Hid (∀ w', Below b0 w w' → Came w' a0 len z)) :
    Calls Ybaf.prog 29 #[.pointer (some ⟨R, 0, none⟩), .slice (some ⟨g, 0, none⟩) 4 4, .int .i64 off] w fun e w' => ∃ L',
      e = .returned (.tuple #[.int .i64 4, .nilIface]) ∧ w'.ownsRow b0 5 1 (.slice (some ⟨g, 0, none⟩) 4 4) 4 L' ∧ Laid z off 4 L' ∧ Rdr R (.slice a0 len cap) false (c0 + 1) off 4 w' ∧ Below b0 w w' := by
  have q1 := hR.out.c1
  have q2 := hR.out.c2
  have q3 := hR.out.c3
  have q4 := hR.out.c4
  have f2 := hR.out.fr 2
  have f3 := hR.out.fr 3
  have f4 := hR.out.fr 4
  have hlt := hR.out.lt
  have hne : (Value.slice (some ⟨g, 0, none⟩) 4 4).ownBlock ≠ some R := by simpa [Value.ownBlock] using hgR
  have H1 := ((hR.out.s2 (c0 + 1)).s3 off).s4 4
  have H2 := ownsRow_setCell_other (ownsRow_setCell_other (ownsRow_setCell_other hown.out (a := ⟨R, 2, none⟩) hne (.int .i64 (c0 + 1))) (a := ⟨R, 3, none⟩) hne (.int .i64 off)) (a := ⟨R, 4, none⟩) hne (.int .i64 4)
  have H3 : Below b0 w (((w.setCell ⟨R, 2, none⟩ (.int .i64 (c0 + 1))).setCell ⟨R, 3, none⟩ (.int .i64 off)).setCell ⟨R, 4, none⟩ (.int .i64 4)) := (((Below.refl _ _).setCell (p := ⟨R, 2, none⟩) hb _).setCell (p := ⟨R, 3, none⟩) hb _).setCell (p := ⟨R, 4, none⟩) hb _
  have HH1 : Hid (Rdr R (.slice a0 len cap) false (c0 + 1) off 4 (((w.setCell ⟨R, 2, none⟩ (.int .i64 (c0 + 1))).setCell ⟨R, 3, none⟩ (.int .i64 off)).setCell ⟨R, 4, none⟩ (.int .i64 4))) := H1
  have HH2 : Hid ((((w.setCell ⟨R, 2, none⟩ (.int .i64 (c0 + 1))).setCell ⟨R, 3, none⟩ (.int .i64 off)).setCell ⟨R, 4, none⟩ (.int .i64 4)).ownsRow b0 5 1 (.slice (some ⟨g, 0, none⟩) 4 4) 4 L) := H2
  have HH3 : Hid (Below b0 w (((w.setCell ⟨R, 2, none⟩ (.int .i64 (c0 + 1))).setCell ⟨R, 3, none⟩ (.int .i64 off)).setCell ⟨R, 4, none⟩ (.int .i64 4))) := H3
  have hL4 : Hid (L.length = 4) := by have := hown.out.1; show L.length = 4; omega
  clear H1 H2 H3
  go_enter Ybaf.func29, Ybaf.ntmps29
  go_wp2
  go_loopw [32] (fun i wr => ∃ (m : Nat) (K : List Value), m ≤ 4 ∧ i = .int .i64 m ∧ Hid (Laid z off m K) ∧ Hid (wr.ownsRow b0 5 1 (.slice (some ⟨g, 0, none⟩) 4 4) 4 K) ∧ Hid (Rdr R (.slice a0 len cap) false (c0 + 1) off 4 wr) ∧ Hid (Below b0 w wr)) (fun i _ => 4 - (intOf i).toNat)
  case atStart => exact ⟨0, L, by omega, rfl, ⟨hL4, fun j hj => by omega⟩, HH2, HH1, HH3⟩
  case round =>
    clear HH1 HH2 HH3 q1 q2 q3 q4 f2 f3 f4
    obtain ⟨m, K, hm, rfl, hK, hO, hRr, hbw⟩ := hrel
    by_cases hm4 : m < 4
    · obtain ⟨u, hu⟩ : ∃ u, wr.cell? ⟨g, m, none⟩ = some u := by
        have hl := hK.out.1
        rw [hO.out.cellAt m (by omega)]
        exact ⟨K[m], List.getElem?_eq_getElem (by omega)⟩
      have hfz := hO.out.frozenAt m
      have r0 := hRr.out.c0
      have hcw : Hid (Came wr a0 len z) := hcm.out wr hbw.out
      go_wp2_with (go_at_call 7; refine (bbyte_any a0 len cap z (off + (m : Int)) _ hlen (by omega) (by omega) hcw).mono ?_; rintro e w' ⟨rfl, rfl⟩)
      have hst := hO.out.stored m (.int .u8 (byteAt z (off + (m : Int))))
      have hge := (hO.out.lt g rfl).1
      go_roundw
      case rel => exact ⟨m + 1, _, by omega, by go_num, laid_step hK.out hm4, hst.1, hRr.out.other (a := ⟨g, m, none⟩) (fun e => hgR e.symm) _, hbw.out.setCell (p := ⟨g, m, none⟩) hge _⟩
      case measure => simp [intOf]; omega
    · obtain rfl : m = 4 := by omega
      go_wp2
      go_ret2
      exact ⟨K, rfl, hO.out, hK.out, hRr.out, hbw.out⟩
end Go.Proofs.YbulkccmyFmt
