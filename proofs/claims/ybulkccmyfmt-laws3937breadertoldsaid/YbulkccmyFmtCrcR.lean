/-
  Seat b3937aF. 'crc' (5) through the law's own reader.
-/
import Derived.Test.YbulkccmyFmtAt
namespace Go.Proofs.YbulkccmyFmt
open Go.RowKit

theorem rdr_drew {R : Nat} {d : Value} {fail : Bool} {calls pos n : Int} {w : World} (h : Hid (Rdr R d fail calls pos n w)) : Hid (Rdr R d fail calls pos n w.drew) := h

theorem pos_wrap (c s k : Int) (hs : s = 20 ∨ s = 32) (hc : 0 ≤ c) (hc' : c ≤ 65535) (hk : 0 ≤ k) (hk' : k ≤ 65535) :
    IntKind.i64.wrap (IntKind.i64.wrap (1032 + IntKind.i64.wrap (c * s)) + IntKind.i64.wrap (4 * k)) = 1032 + c * s + 4 * k := by
  rcases hs with rfl | rfl <;> simp only [IntKind.wrap_i64] <;> omega

set_option maxHeartbeats 1600000 in
set_option maxRecDepth 100000 in
theorem crc_fail (b0 X R : Nat) (d : Value) (c s k : Int) (w : World) (hR : Hid (Rdr R d true 0 0 0 w)) (hb : b0 ≤ R) (hs : s = 20 ∨ s = 32) (hc : 0 ≤ c) (hc' : c ≤ 65535) (hk : 0 ≤ k) (hk' : k ≤ 65535)
    (x0 : w.cell? ⟨X, 0, none⟩ = some (.iface 24 (.pointer (some ⟨R, 0, none⟩)))) (x1 : w.cell? ⟨X, 1, none⟩ = some (.slice none 0 0)) (x5 : w.cell? ⟨X, 5, none⟩ = some (.int .i64 s)) (x261 : w.cell? ⟨X, 261, none⟩ = some (.int .u32 c)) :
    Calls Ybaf.prog 5 #[.pointer (some ⟨X, 0, none⟩), .int .i64 k] w fun e w' => ∃ p,
      e = .returned (.tuple #[.int .u32 0, .iface 55 (.pointer (some p))]) ∧ Rdr R d true 1 (1032 + c * s + 4 * k) 4 w' ∧ Below b0 w w' := by
  have hpw := pos_wrap c s k hs hc hc' hk hk'
  have HPW : Hid (IntKind.i64.wrap (IntKind.i64.wrap (1032 + IntKind.i64.wrap (c * s)) + IntKind.i64.wrap (4 * k)) = 1032 + c * s + 4 * k) := hpw
  clear hpw
  rcases hs with rfl | rfl
  all_goals
    go_enter Ybaf.func5, Ybaf.ntmps5
    go_wp2
    go_region_with (first
      | (go_at_call 9; refine (len_any X c _ hc hc' ?_).mono ?_; exact x261; rintro e w' ⟨rfl, rfl⟩)
      | (go_at_call 8; refine (at_fail b0 X R d 0 0 0 _ _ ?_ (by omega) (by omega) hb ?_ ?_).mono ?_; exact rdr_drew hR; exact x0; exact x1; rintro e w' ⟨p, rfl, hR2, hb2⟩))
    all_goals
      go_wp2
      go_ret2
      rw [HPW.out] at hR2
      exact ⟨p, rfl, hR2, (Below.refl _ _).drew.trans hb2⟩

/-- The word that the reader's four octets spell. -/
def wordAt (z : List Int) (pos : Int) : Int := byteAt z pos * 16777216 + byteAt z (pos + 1) * 65536 + byteAt z (pos + 2) * 256 + byteAt z (pos + 3)

theorem laid_cell {w : World} {b0 g : Nat} {z : List Int} {off : Int} {L : List Value} (hO : w.ownsRow b0 5 1 (.slice (some ⟨g, 0, none⟩) 4 4) 4 L) (hL : Laid z off 4 L) (j : Nat) (hj : j < 4) : w.cell? ⟨g, j, none⟩ = some (.int .u8 (byteAt z (off + (j : Int)))) := by
  rw [hO.cellAt j (by omega)]; exact hL.2 j hj

theorem zero_off (p : Int) : p + ((0 : Nat) : Int) = p := by omega

theorem came_all {b0 : Nat} {a0 : Option Addr} {len : Nat} {z : List Int} {w : World} (h : Hid (∀ w', Below b0 w w' → Came w' a0 len z)) : Hid (∀ w', Below b0 w.drew w' → Came w' a0 len z) := fun w' hb => h.out w' ((Below.refl _ _).drew.trans hb)

set_option maxHeartbeats 1600000 in
set_option maxRecDepth 100000 in
theorem crc_ok (b0 X R len cap : Nat) (a0 : Option Addr) (z : List Int) (c s k : Int) (w : World) (hR : Hid (Rdr R (.slice a0 len cap) false 0 0 0 w)) (hb : b0 ≤ R) (hs : s = 20 ∨ s = 32) (hc : 0 ≤ c) (hc' : c ≤ 65535) (hk : 0 ≤ k) (hk' : k ≤ 65535)
    (hlen : len ≤ 4096) (hcm : Hid (∀ w', Below b0 w w' → Came w' a0 len z))
    (x0 : w.cell? ⟨X, 0, none⟩ = some (.iface 24 (.pointer (some ⟨R, 0, none⟩)))) (x1 : w.cell? ⟨X, 1, none⟩ = some (.slice none 0 0)) (x5 : w.cell? ⟨X, 5, none⟩ = some (.int .i64 s)) (x261 : w.cell? ⟨X, 261, none⟩ = some (.int .u32 c)) :
    Calls Ybaf.prog 5 #[.pointer (some ⟨X, 0, none⟩), .int .i64 k] w fun e w' => 
      e = .returned (.tuple #[.int .u32 (wordAt z (1032 + c * s + 4 * k)), .nilIface]) ∧ Rdr R (.slice a0 len cap) false 1 (1032 + c * s + 4 * k) 4 w' ∧ Below b0 w w' := by
  have hpw := pos_wrap c s k hs hc hc' hk hk'
  have HPW : Hid (IntKind.i64.wrap (IntKind.i64.wrap (1032 + IntKind.i64.wrap (c * s)) + IntKind.i64.wrap (4 * k)) = 1032 + c * s + 4 * k) := hpw
  have hp0 : Hid (0 ≤ 1032 + c * s + 4 * k ∧ 1032 + c * s + 4 * k ≤ 8000000000) := by rcases hs with rfl | rfl <;> exact ⟨by omega, by omega⟩
  have HOCT : Hid (∀ i, 0 ≤ byteAt z i ∧ byteAt z i ≤ 255) := fun i => byteAt_oct (hcm.out w (Below.refl _ _)).oct i
  clear hpw
  rcases hs with rfl | rfl
  all_goals
    go_enter Ybaf.func5, Ybaf.ntmps5
    go_wp2
    go_region_with (first
      | (go_at_call 9; refine (len_any X c _ hc hc' ?_).mono ?_; exact x261; rintro e w' ⟨rfl, rfl⟩)
      | (go_at_call 8; refine (at_ok b0 X R len cap a0 z 0 0 0 _ _ ?_ (by omega) (by omega) hb hlen ?_ ?_ ?_ ?_ ?_).mono ?_; exact rdr_drew hR; (rw [HPW.out]; exact hp0.out.1); (rw [HPW.out]; exact hp0.out.2); exact came_all hcm; exact x0; exact x1; rintro e w' ⟨g, L', rfl, hF⟩))
    all_goals
      rw [HPW.out] at hF
      go_wp2_with fail
      obtain ⟨hO, hL, hR2, hb2⟩ := hF.out
      have l0 := laid_cell hO hL 0 (by omega)
      rw [zero_off] at l0
      refine (be32_any g 0 4 _ _ _ _ w' (HOCT.out _) (HOCT.out _) (HOCT.out _) (HOCT.out _) l0 (laid_cell hO hL 1 (by omega)) (laid_cell hO hL 2 (by omega)) (laid_cell hO hL 3 (by omega))).mono ?_
      rintro e w2 ⟨rfl, hb3⟩
      have HR3 := hR2.below hb3
      have hb4 := (Below.refl _ _).drew.trans (hb2.trans (hb3.mono (by have := hR2.lt; omega)))
      have HF3 : Hid (Rdr R (.slice a0 len cap) false 1 _ 4 w2 ∧ Below b0 w w2) := ⟨HR3, hb4⟩
      clear hO hL hR2 hb2 hb3 HR3 hb4 l0 hF
      go_wp2
      go_ret2
      exact ⟨rfl, HF3.out⟩
end Go.Proofs.YbulkccmyFmt
