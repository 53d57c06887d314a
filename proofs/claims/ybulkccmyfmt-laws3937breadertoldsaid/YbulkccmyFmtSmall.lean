/-
  Seat b3937aF. The contracts of the small functions: zzs3937bbyte (7), len (9), Uint32 (10).
-/
import Derived.Test.YbulkccmyFmtRows
import Derived.WalkKit
import Derived.WalkSpells
import Derived.WalkSmall
import Derived.Deep.QuietTactic
import Derived.BigQuiet
namespace Go.Proofs.YbulkccmyFmt
open Go.RowKit

/-- What zzs3937bbyte gives. -/
def byteAt (z : List Int) (i : Int) : Int := if i < 0 then 0 else if z.length = 0 then i % 256 else z.getD (i % z.length).toNat 0

/-- What a slice of octets that came in gives. -/
structure Came (w : World) (a0 : Option Addr) (len : Nat) (z : List Int) : Prop where
  zlen : z.length = len
  oct : ∀ c ∈ z, 0 ≤ c ∧ c ≤ 255
  at' : ∀ j : Nat, j < len → ∃ x, a0 = some x ∧ w.cell? (x.add j) = some (.int .u8 (z.getD j 0))

theorem getD_oct {z : List Int} (h : ∀ c ∈ z, 0 ≤ c ∧ c ≤ 255) (j : Nat) : 0 ≤ z.getD j 0 ∧ z.getD j 0 ≤ 255 := by
  by_cases hj : j < z.length
  · have := h z[j] (List.getElem_mem hj)
    simpa [List.getD, hj] using this
  · simp [List.getD, List.getElem?_eq_none (Nat.le_of_not_lt hj)]

theorem byteAt_oct {z : List Int} (h : ∀ c ∈ z, 0 ≤ c ∧ c ≤ 255) (i : Int) : 0 ≤ byteAt z i ∧ byteAt z i ≤ 255 := by
  unfold byteAt
  split
  · omega
  · split
    · omega
    · exact getD_oct h _

theorem came_later {w w' : World} {a0 : Option Addr} {len : Nat} {z : List Int} (h : Came w a0 len z) (hb : Below w.heap.size w w') : Came w' a0 len z :=
  ⟨h.zlen, h.oct, fun j hj => by
    obtain ⟨x, hx, hc⟩ := h.at' j hj
    exact ⟨x, hx, (hb.cell (block_lt_of_cell hc)).trans hc⟩⟩

theorem bbyte_any (a0 : Option Addr) (len cap : Nat) (z : List Int) (i : Int) (w : World) (hl : len ≤ 4096) (hi : 0 ≤ i) (hi2 : i ≤ 9000000000) (hc : Hid (Came w a0 len z)) :
    Calls Ybaf.prog 7 #[.slice a0 len cap, .int .i64 i] w fun e w' => e = .returned (.int .u8 (byteAt z i)) ∧ w' = w := by
  have hzl := hc.out.zlen
  by_cases h0 : len = 0
  · subst h0
    have HB : Hid (byteAt z i = i % 256) := by
      show _ = _
      unfold byteAt; rw [if_neg (by omega), if_pos hzl]
    go_enter Ybaf.func7, Ybaf.ntmps7
    go_wp2
    go_ret
    rw [HB.out]
    exact ⟨rfl, rfl⟩
  · have h0' : ¬ (len : Int) = 0 := by omega
    obtain ⟨k, hk⟩ : ∃ k : Nat, i % len = k := ⟨(i % len).toNat, by have := Int.emod_nonneg i h0'; omega⟩
    have hkl : k < len := by have := Int.emod_lt_of_pos i (show (0 : Int) < len by omega); omega
    have HB : Hid (byteAt z i = z.getD k 0) := by
      show _ = _
      unfold byteAt; rw [if_neg (by omega), if_neg (by omega), hzl, hk]; rfl
    obtain ⟨x, hx, cx⟩ := hc.out.at' k hkl
    subst hx
    obtain ⟨q, hq⟩ : ∃ q, q = z.getD k 0 := ⟨_, rfl⟩
    rw [← hq] at HB cx
    clear hq
    go_enter Ybaf.func7, Ybaf.ntmps7
    go_wp2
    go_ret
    rw [HB.out]
    exact ⟨rfl, rfl⟩

theorem len_any (B : Nat) (c : Int) (w : World) (h0 : 0 ≤ c) (h1 : c ≤ 65535) (hc : w.cell? ⟨B, 261, none⟩ = some (.int .u32 c)) :
    Calls Ybaf.prog 9 #[.pointer (some ⟨B, 0, none⟩)] w fun e w' => e = .returned (.int .i64 c) ∧ w' = w := by
  go_enter Ybaf.func9, Ybaf.ntmps9
  go_wp2
  go_ret
  exact ⟨rfl, rfl⟩

theorem or_nat (a b i : Nat) (h : b < 2 ^ i) : (b ||| a * 2 ^ i) = a * 2 ^ i + b := by
  rw [Nat.or_comm, Nat.mul_comm, ← Nat.two_pow_add_eq_or_of_lt h]

theorem or_hi (a b : Int) (i : Nat) (ha : 0 ≤ a) (hb : 0 ≤ b) (hbi : b < 2 ^ i) (hs : a * 2 ^ i < 4294967296) (hb2 : b < 4294967296) : bits .or .u32 b (a * 2 ^ i) = a * 2 ^ i + b := by
  obtain ⟨m, rfl⟩ := Int.eq_ofNat_of_zero_le ha
  obtain ⟨n, rfl⟩ := Int.eq_ofNat_of_zero_le hb
  have hp : ((m : Int) * 2 ^ i) = ((m * 2 ^ i : Nat) : Int) := by simp
  rw [hp] at hs ⊢
  rw [u32_or _ _ (by omega) (by omega) (by omega) (by omega)]
  have e := or_nat m n i (by have : ((2 : Int) ^ i) = ((2 ^ i : Nat) : Int) := by simp
                             rw [this] at hbi; omega)
  simp only [Int.toNat_natCast]
  rw [e]; simp

theorem or_lo (a b : Int) (i : Nat) (ha : 0 ≤ a) (hb : 0 ≤ b) (hbi : b < 2 ^ i) (hs : a * 2 ^ i < 4294967296) (hb2 : b < 4294967296) : bits .or .u32 (a * 2 ^ i) b = a * 2 ^ i + b := by
  obtain ⟨m, rfl⟩ := Int.eq_ofNat_of_zero_le ha
  obtain ⟨n, rfl⟩ := Int.eq_ofNat_of_zero_le hb
  have hp : ((m : Int) * 2 ^ i) = ((m * 2 ^ i : Nat) : Int) := by simp
  rw [hp] at hs ⊢
  rw [u32_or _ _ (by omega) (by omega) (by omega) (by omega)]
  have e := or_nat m n i (by have : ((2 : Int) ^ i) = ((2 ^ i : Nat) : Int) := by simp
                             rw [this] at hbi; omega)
  simp only [Int.toNat_natCast]
  rw [Nat.or_comm, e]; simp

theorem be_up {b0 b1 b2 b3 : Int} (h0 : 0 ≤ b0) (h0' : b0 ≤ 255) (h1 : 0 ≤ b1) (h1' : b1 ≤ 255) (h2 : 0 ≤ b2) (h2' : b2 ≤ 255) (h3 : 0 ≤ b3) (h3' : b3 ≤ 255) : bits .or .u32 (bits .or .u32 (bits .or .u32 b3 (b2 * 256)) (b1 * 65536)) (b0 * 16777216) = b0 * 16777216 + b1 * 65536 + b2 * 256 + b3 := by
  have e1 := or_hi b2 b3 8 h2 h3 (by omega) (by omega) (by omega)
  have e2 := or_hi b1 (b2 * 2 ^ 8 + b3) 16 h1 (by omega) (by omega) (by omega) (by omega)
  have e3 := or_hi b0 (b1 * 2 ^ 16 + (b2 * 2 ^ 8 + b3)) 24 h0 (by omega) (by omega) (by omega) (by omega)
  rw [show b2 * 256 = b2 * 2 ^ 8 by omega, e1, show b1 * 65536 = b1 * 2 ^ 16 by omega, e2, show b0 * 16777216 = b0 * 2 ^ 24 by omega, e3]
  omega
theorem be_down {b0 b1 b2 b3 : Int} (h0 : 0 ≤ b0) (h0' : b0 ≤ 255) (h1 : 0 ≤ b1) (h1' : b1 ≤ 255) (h2 : 0 ≤ b2) (h2' : b2 ≤ 255) (h3 : 0 ≤ b3) (h3' : b3 ≤ 255) : bits .or .u32 (bits .or .u32 (bits .or .u32 (b0 * 16777216) (b1 * 65536)) (b2 * 256)) b3 = b0 * 16777216 + b1 * 65536 + b2 * 256 + b3 := by
  have f1 : bits .or .u32 (b0 * 16777216) (b1 * 65536) = (b0 * 256 + b1) * 65536 := by
    have := or_lo b0 (b1 * 65536) 24 h0 (by omega) (by omega) (by omega) (by omega)
    rw [show b0 * 16777216 = b0 * 2 ^ 24 by omega, this]; omega
  have f2 : bits .or .u32 ((b0 * 256 + b1) * 65536) (b2 * 256) = ((b0 * 256 + b1) * 256 + b2) * 256 := by
    have := or_lo (b0 * 256 + b1) (b2 * 256) 16 (by omega) (by omega) (by omega) (by omega) (by omega)
    rw [show (b0 * 256 + b1) * 65536 = (b0 * 256 + b1) * 2 ^ 16 by omega, this]; omega
  have f3 := or_lo ((b0 * 256 + b1) * 256 + b2) b3 8 (by omega) h3 (by omega) (by omega) (by omega)
  rw [f1, f2, show ((b0 * 256 + b1) * 256 + b2) * 256 = ((b0 * 256 + b1) * 256 + b2) * 2 ^ 8 by omega, f3]
  omega

set_option maxRecDepth 100000 in
theorem be32_any (g off cap : Nat) (b0 b1 b2 b3 : Int) (w : World) (h0 : 0 ≤ b0 ∧ b0 ≤ 255) (h1 : 0 ≤ b1 ∧ b1 ≤ 255) (h2 : 0 ≤ b2 ∧ b2 ≤ 255) (h3 : 0 ≤ b3 ∧ b3 ≤ 255)
    (c0 : w.cell? ⟨g, off, none⟩ = some (.int .u8 b0)) (c1 : w.cell? ⟨g, off + 1, none⟩ = some (.int .u8 b1)) (c2 : w.cell? ⟨g, off + 2, none⟩ = some (.int .u8 b2)) (c3 : w.cell? ⟨g, off + 3, none⟩ = some (.int .u8 b3)) :
    Calls Ybaf.prog 10 #[.agg #[], .slice (some ⟨g, off, none⟩) 4 cap] w fun e w' => e = .returned (.int .u32 (b0 * 16777216 + b1 * 65536 + b2 * 256 + b3)) ∧ Below w.heap.size w w' := by
  have hg := block_lt_of_cell c0
  obtain ⟨h0, h0'⟩ := h0
  obtain ⟨h1, h1'⟩ := h1
  obtain ⟨h2, h2'⟩ := h2
  obtain ⟨h3, h3'⟩ := h3
  go_enter Ybaf.func10, Ybaf.ntmps10
  go_wp2
  go_quiet (fail)
  go_wp2
  go_ret
  refine ⟨?_, below_drewN ((Below.refl _ _).alloc (Nat.le_refl _) _) _⟩
  show Ending.returned (.int .u32 _) = _
  rw [be_up h0 h0' h1 h1' h2 h2' h3 h3']
end Go.Proofs.YbulkccmyFmt
