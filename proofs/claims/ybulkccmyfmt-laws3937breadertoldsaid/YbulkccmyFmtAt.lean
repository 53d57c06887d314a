/-
  Seat b3937aF. 'at' (8) and 'crc' (5) through the law's own reader.
-/
import Derived.Test.YbulkccmyFmtRead
import Derived.Deep.RegionWith
namespace Go.Proofs.YbulkccmyFmt
open Go.RowKit

theorem rdr_grown {R : Nat} {d : Value} {fail : Bool} {calls pos n : Int} {w w' : World} (h : Rdr R d fail calls pos n w) (hg : w.grownBy w' none) : Rdr R d fail calls pos n w' := by
  unfold Rdr; rw [hg.block R h.lt (by simp)]; exact h

theorem meth (a : Addr) (w : World) : (method 177 24 (.pointer (some a)) "ReadAt").run Ybaf.prog w = .ok (29, .pointer (some a)) w := by kernel_rfl

set_option maxHeartbeats 800000 in
set_option maxRecDepth 100000 in
theorem at_fail (b0 X R : Nat) (d : Value) (c0 p0 n0 pos : Int) (w : World) (hR : Hid (Rdr R d true c0 p0 n0 w)) (hc : 0 ≤ c0) (hc' : c0 ≤ 10) (hb : b0 ≤ R)
    (x0 : w.cell? ⟨X, 0, none⟩ = some (.iface 24 (.pointer (some ⟨R, 0, none⟩)))) (x1 : w.cell? ⟨X, 1, none⟩ = some (.slice none 0 0)) :
    Calls Ybaf.prog 8 #[.pointer (some ⟨X, 0, none⟩), .int .i64 pos, .int .i64 4] w fun e w' => ∃ p,
      e = .returned (.tuple #[.slice none 0 0, .iface 55 (.pointer (some p))]) ∧ Rdr R d true (c0 + 1) pos 4 w' ∧ Below b0 w w' := by
  have hneq := fun (w : World) (a : Option Addr) (n c : Nat) => run_neq_slice_nil_any (P := Ybaf.prog) w 22 5 a n c 0 0 Ybaf.underlying22
  obtain ⟨i0, hi, hz0, hz1, hz2⟩ := info_parts Ybaf.info5
  have hlt := hR.out.lt
  have hX := block_lt_of_cell x0
  have hme := meth
  go_enter Ybaf.func8, Ybaf.ntmps8
  go_wp2_with (at_make; refine wpList_make_full _ rfl _ _ 22 rfl b0 5 i0 (.int .u8 0) 1 Ybaf.underlying22 hi hz0 hz1 .i64 .i64 _ _ 4 rfl rfl rfl rfl (by rw [hz2]; omega) (by unfold maxLen; omega) (by omega) ?_)
  intro w1 hown1 hgrow1
  have y0 : w1.cell? ⟨X, 0, none⟩ = some (.iface 24 (.pointer (some ⟨R, 0, none⟩))) := hgrow1.cell x0 (by simp)
  have HR1 : Hid (Rdr R d true c0 p0 n0 w1) := rdr_grown hR.out hgrow1
  have hb1 : Below b0 w w1 := (Below.refl _ _).grown hgrow1 (by omega) (fun k hk => by cases hk)
  clear hown1 hgrow1 x0 x1
  go_wp2_with fail
  refine (read_fail b0 R w.heap.size 4 d c0 p0 n0 pos w1 HR1 hc hc' hb).mono ?_
  rintro e w2 ⟨b, s, rfl, hcb, hR2, hb2⟩
  have HR2 : Hid (Rdr R d true (c0 + 1) pos 4 w2) := hR2
  clear hR2
  go_wp2_with fail
  have hbl := block_lt_of_cell hcb
  have hcb' : (w2.alloc (.cells #[.iface 56 (.pointer (some ⟨b, 0, none⟩))] 20)).cell? ⟨b, 0, none⟩ = some (.string s) := (World.cell?_alloc_past _ _ _ hbl).trans hcb
  refine (errorf_any w2.heap.size ⟨b, 0, none⟩ s _ (one_new rfl) hcb').mono ?_
  rintro e w3 ⟨p, rfl, hb3⟩
  have hs1 := hb1.size
  have hs2 := hb2.size
  have hba : Below b0 w (w2.alloc (.cells #[.iface 56 (.pointer (some ⟨b, 0, none⟩))] 20)) := (hb1.trans hb2).alloc (by omega) _
  have hbw : Below b0 w w3 := hba.trans (hb3.mono (by simp; omega))
  have HR3 : Hid (Rdr R d true (c0 + 1) pos 4 w3) := (HR2.out.alloc _).below hb3
  clear hcb hcb' hb3 hba HR2 HR1
  go_wp2
  go_ret2
  exact ⟨p, rfl, HR3.out, hbw⟩

set_option maxHeartbeats 800000 in
set_option maxRecDepth 100000 in
theorem at_ok (b0 X R len cap : Nat) (a0 : Option Addr) (z : List Int) (c0 p0 n0 pos : Int) (w : World) (hR : Hid (Rdr R (.slice a0 len cap) false c0 p0 n0 w)) (hc : 0 ≤ c0) (hc' : c0 ≤ 10) (hb : b0 ≤ R)
    (hlen : len ≤ 4096) (ho : 0 ≤ pos) (ho' : pos ≤ 8000000000) (hcm : Hid (∀ w', Below b0 w w' → Came w' a0 len z))
    (x0 : w.cell? ⟨X, 0, none⟩ = some (.iface 24 (.pointer (some ⟨R, 0, none⟩)))) (x1 : w.cell? ⟨X, 1, none⟩ = some (.slice none 0 0)) :
    Calls Ybaf.prog 8 #[.pointer (some ⟨X, 0, none⟩), .int .i64 pos, .int .i64 4] w fun e w' => ∃ g L',
      e = .returned (.tuple #[.slice (some ⟨g, 0, none⟩) 4 4, .nilIface]) ∧ Hid (w'.ownsRow b0 5 1 (.slice (some ⟨g, 0, none⟩) 4 4) 4 L' ∧ Laid z pos 4 L' ∧ Rdr R (.slice a0 len cap) false (c0 + 1) pos 4 w' ∧ Below b0 w w') := by
  have hneq := fun (w : World) (a : Option Addr) (n c : Nat) => run_neq_slice_nil_any (P := Ybaf.prog) w 22 5 a n c 0 0 Ybaf.underlying22
  obtain ⟨i0, hi, hz0, hz1, hz2⟩ := info_parts Ybaf.info5
  have hlt := hR.out.lt
  have hX := block_lt_of_cell x0
  have hme := meth
  go_enter Ybaf.func8, Ybaf.ntmps8
  go_wp2_with (at_make; refine wpList_make_full _ rfl _ _ 22 rfl b0 5 i0 (.int .u8 0) 1 Ybaf.underlying22 hi hz0 hz1 .i64 .i64 _ _ 4 rfl rfl rfl rfl (by rw [hz2]; omega) (by unfold maxLen; omega) (by omega) ?_)
  intro w1 hown1 hgrow1
  have y0 : w1.cell? ⟨X, 0, none⟩ = some (.iface 24 (.pointer (some ⟨R, 0, none⟩))) := hgrow1.cell x0 (by simp)
  have HR1 : Hid (Rdr R (.slice a0 len cap) false c0 p0 n0 w1) := rdr_grown hR.out hgrow1
  have hb1 : Below b0 w w1 := (Below.refl _ _).grown hgrow1 (by omega) (fun k hk => by cases hk)
  obtain ⟨L1, HO1⟩ : ∃ L1 : List Value, Hid (w1.ownsRow b0 5 1 (.slice (some ⟨w.heap.size, 0, none⟩) 4 4) 4 L1) := ⟨_, hown1⟩
  have hcm1 : Hid (∀ w', Below b0 w1 w' → Came w' a0 len z) := fun w' hb' => hcm.out w' (hb1.trans hb')
  clear hown1 hgrow1 x0 x1
  go_wp2_with fail
  refine (read_ok b0 R w.heap.size len cap a0 z L1 c0 p0 n0 pos w1 HR1 hc hc' hb (by omega) HO1 hlen ho ho' hcm1).mono ?_
  rintro e w2 ⟨L', rfl, hO2, hL2, hR2, hb2⟩
  have HF : Hid (w2.ownsRow b0 5 1 (.slice (some ⟨w.heap.size, 0, none⟩) 4 4) 4 L' ∧ Laid z pos 4 L' ∧ Rdr R (.slice a0 len cap) false (c0 + 1) pos 4 w2 ∧ Below b0 w w2) := ⟨hO2, hL2, hR2, hb1.trans hb2⟩
  clear hO2 hL2 hR2 hb2 hcm1 HO1 HR1
  go_wp2
  go_ret2
  exact ⟨_, L', rfl, HF⟩
end Go.Proofs.YbulkccmyFmt
