/-
  Seat b3937aF. The contracts of 'at' (8) and 'crc' (5) on a file held in memory.
-/
import Derived.Test.YbulkccmyFmtSmall
namespace Go.Proofs.YbulkccmyFmt
open Go.RowKit

set_option maxRecDepth 100000 in
theorem at_mem (B g n pos : Nat) (w : World) (hn : n ≤ 100000) (hp : pos + 4 ≤ n) (c1 : w.cell? ⟨B, 1, none⟩ = some (.slice (some ⟨g, 0, none⟩) n n)) :
    Calls Ybaf.prog 8 #[.pointer (some ⟨B, 0, none⟩), .int .i64 pos, .int .i64 4] w fun e w' => e = .returned (.tuple #[.slice (some ⟨g, pos, none⟩) 4 (n - pos), .nilIface]) ∧ w' = w := by
  have hneq := fun (w : World) (a : Option Addr) (n c : Nat) => run_neq_slice_nil_any (P := Ybaf.prog) w 22 5 a n c 0 0 Ybaf.underlying22
  have hp' : ¬ n = pos := by omega
  go_enter Ybaf.func8, Ybaf.ntmps8
  go_wp2
  go_ret2
  refine ⟨?_, rfl⟩
  show Ending.returned (.tuple #[.slice (some ⟨g, pos, none⟩) (pos + 4 - pos) (n - pos), .nilIface]) = _
  rw [Nat.add_sub_cancel_left]

set_option maxHeartbeats 800000 in
set_option maxRecDepth 100000 in
theorem crc_mem (B g n : Nat) (c s k : Int) (pos : Nat) (b0 b1 b2 b3 : Int) (w : World) (hn : n ≤ 100000) (hp : pos + 4 ≤ n) (hpos : (pos : Int) = 1032 + c * s + 4 * k) (hc0 : 0 ≤ c) (hc1 : c ≤ 255) (hk0 : 0 ≤ k) (hk1 : k ≤ 255) (hs : s = 20 ∨ s = 32)
    (h0 : 0 ≤ b0 ∧ b0 ≤ 255) (h1 : 0 ≤ b1 ∧ b1 ≤ 255) (h2 : 0 ≤ b2 ∧ b2 ≤ 255) (h3 : 0 ≤ b3 ∧ b3 ≤ 255)
    (c1 : w.cell? ⟨B, 1, none⟩ = some (.slice (some ⟨g, 0, none⟩) n n)) (c5 : w.cell? ⟨B, 5, none⟩ = some (.int .i64 s)) (c261 : w.cell? ⟨B, 261, none⟩ = some (.int .u32 c))
    (m0 : w.cell? ⟨g, pos, none⟩ = some (.int .u8 b0)) (m1 : w.cell? ⟨g, pos + 1, none⟩ = some (.int .u8 b1)) (m2 : w.cell? ⟨g, pos + 2, none⟩ = some (.int .u8 b2)) (m3 : w.cell? ⟨g, pos + 3, none⟩ = some (.int .u8 b3)) :
    Calls Ybaf.prog 5 #[.pointer (some ⟨B, 0, none⟩), .int .i64 k] w fun e w' => e = .returned (.tuple #[.int .u32 (b0 * 16777216 + b1 * 65536 + b2 * 256 + b3), .nilIface]) ∧ Below w.heap.size w w' := by
  have HP : Hid ((pos : Int) = 1032 + c * s + 4 * k) := hpos
  clear hpos
  rcases hs with rfl | rfl
  · go_enter Ybaf.func5, Ybaf.ntmps5
    go_wp2
    go_quiet (first
      | (go_at_call 9; exact Calls.quiet_of_same (len_any B c _ hc0 (by omega) (by simpa using c261)))
      | (go_at_call 8; rw [show (1032 + c * 20 + 4 * k) = (pos : Int) from by rw [HP.out]]; exact Calls.quiet_of_same (at_mem B g n pos _ hn hp (by simpa using c1))))
    go_wp2_with fail
    refine (be32_any g pos (n - pos) b0 b1 b2 b3 _ h0 h1 h2 h3 (by simpa using m0) (by simpa using m1) (by simpa using m2) (by simpa using m3)).mono ?_
    rintro e w2 ⟨rfl, hb2⟩
    go_wp2
    go_ret2
    exact ⟨rfl, (below_drewN (Below.refl _ _) _).trans hb2⟩
  · go_enter Ybaf.func5, Ybaf.ntmps5
    go_wp2
    go_quiet (first
      | (go_at_call 9; exact Calls.quiet_of_same (len_any B c _ hc0 (by omega) (by simpa using c261)))
      | (go_at_call 8; rw [show (1032 + c * 32 + 4 * k) = (pos : Int) from by rw [HP.out]]; exact Calls.quiet_of_same (at_mem B g n pos _ hn hp (by simpa using c1))))
    go_wp2_with fail
    refine (be32_any g pos (n - pos) b0 b1 b2 b3 _ h0 h1 h2 h3 (by simpa using m0) (by simpa using m1) (by simpa using m2) (by simpa using m3)).mono ?_
    rintro e w2 ⟨rfl, hb2⟩
    go_wp2
    go_ret2
    exact ⟨rfl, (below_drewN (Below.refl _ _) _).trans hb2⟩
end Go.Proofs.YbulkccmyFmt
