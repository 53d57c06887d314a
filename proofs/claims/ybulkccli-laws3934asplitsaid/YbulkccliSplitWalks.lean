/-
  Seat b3934a. The walks of LawS3934ASplit (function 4).
-/
import Derived.Test.YbulkccliExactWalks
namespace Go.Proofs.Ybulkccli
open Go.RowKit

theorem split_big (a0 : Option Addr) (len0 cap0 : Nat) (c a b : Int) (w : World) (h : 1024 < len0) :
    Calls Yba.prog 4 #[.slice a0 len0 cap0, .int .u8 c, .int .u16 a, .int .u16 b] w fun e w' => e = .returned (.bool true) ∧ Below w.heap.size w w' := by
  have h1 : (1024 : Int) < (len0 : Int) := by omega
  go_enter Yba.func4, Yba.ntmps4
  go_wp2
  go_ret
  exact ⟨rfl, Below.refl _ _⟩

theorem own_below {w w' : World} {base e B n : Nat} {v : Value} {xs : List Value} (h : w.ownsRow base e 1 v n xs) (hb : Below B w w') (hv : ∀ g, v.ownBlock = some g → g < B) : w'.ownsRow base e 1 v n xs := by
  refine ⟨h.1, ?_⟩
  rcases h.2 with hn | ⟨g, cap, cur, rfl, hbg, hgg, rest⟩
  · exact .inl hn
  · exact .inr ⟨g, cap, cur, rfl, hbg, by rw [hb.block g (hv g rfl)]; exact hgg, rest⟩

/-- The source's cells for the copies: nil or not. -/
def Src (a0 : Option Addr) (X : List Value) (w : World) : Prop := 0 < X.length → ∃ ad, a0 = some ad ∧ ∀ j v, X[j]? = some v → w.cell? (ad.add j) = some v

theorem src_pos {a0 : Option Addr} {X : List Value} {w w1 : World} {g : Nat} (h : Src a0 X w) (hb : Below w.heap.size w w1) :
    Hid (0 < X.length → some (⟨g, 0, none⟩ : Addr) = some ⟨g, 0, none⟩ ∧ ∃ ad, a0 = some ad ∧ ∀ j v, X[j]? = some v → w1.cell? (ad.add j) = some v) := by
  intro hp
  obtain ⟨ad, e, hc⟩ := h hp
  exact ⟨rfl, ad, e, fun j v hj => (hb.cell (block_lt_of_cell (hc j v hj))).trans (hc j v hj)⟩

theorem all_u8 {zs : List Int} {c : Int} {k : Nat} {X : List Value} (hX : X = zs.map (Value.int .u8)) : ∀ j, j < X.length + k → ∃ z, (X ++ List.replicate k (Value.int .u8 c))[j]? = some (.int .u8 z) := by
  intro j hj
  by_cases h : j < X.length
  · rw [List.getElem?_append_left h]
    have h' : j < zs.length := by simpa [hX] using h
    exact ⟨zs[j], by simp [hX, h']⟩
  · rw [List.getElem?_append_right (by omega), List.getElem?_replicate, if_pos (by omega)]
    exact ⟨c, rfl⟩

theorem rep_at {base g n0 cap g' n' cap' : Nat} {xs : List Value} {c : Int} {w w' : World} {k : Nat} (h : Rep base (.slice (some ⟨g, 0, none⟩) n0 cap) n0 xs c w k (.slice (some ⟨g', 0, none⟩) n' cap') w') : g' = g ∨ w.heap.size ≤ g' := by
  rcases h.at' with e | e
  · left; simpa [Value.ownBlock] using e
  · right; exact e g' rfl

set_option maxHeartbeats 1600000 in
theorem split_any (a0 : Option Addr) (len0 cap0 : Nat) (zs : List Int) (X : List Value) (c a b : Int) (w : World) (h : len0 ≤ 1024) (ha : 0 ≤ a) (ha2 : a ≤ 65535) (hb : 0 ≤ b) (hb2 : b ≤ 65535)
    (hX : X = zs.map (Value.int .u8)) (hXl : X.length = len0) (hsrc : Src a0 X w) :
    Calls Yba.prog 4 #[.slice a0 len0 cap0, .int .u8 c, .int .u16 a, .int .u16 b] w fun e w' => e = .returned (.bool true) ∧ Below w.heap.size w w' := by
  have h1 : ¬ (1024 : Int) < (len0 : Int) := by omega
  obtain ⟨i0, hi, hz0, hz1, hz2⟩ := info_parts Yba.info5
  have hX1 : ∀ v ∈ X, v.oneCell' = true := by rw [hX]; exact ints_oneCell _ _
  have HX : Hid (X = zs.map (Value.int .u8)) := hX
  have HSRC : Hid (Src a0 X w) := hsrc
  clear hX hsrc
  go_enter Yba.func4, Yba.ntmps4
  go_wp2_with (at_make; refine wpList_make_full _ rfl _ _ 22 rfl w.heap.size 5 i0 (.int .u8 0) 1 Yba.underlying22 hi hz0 hz1 .i64 .i64 _ _ len0 rfl rfl rfl rfl (by rw [hz2]; omega) (by unfold maxLen; omega) (by omega) ?_)
  intro w1 hown1 hgrow1
  have hb1 : Below w.heap.size w w1 := (Below.refl _ _).grown hgrow1 (Nat.le_refl _) (fun k hk => by cases hk)
  obtain ⟨M, hg1, hM⟩ := row_some hown1
  have hlt1 := lt_of_block hg1
  clear hown1 hgrow1
  have S1 := src_pos (g := w.heap.size) HSRC.out hb1
  go_wp2_with (refine wpList_copy_splice rfl (.tmp 28) (.tmp 29) 22 22 rfl 5 Yba.underlying22 (by simp [hi, hz1]) (some ⟨w.heap.size, 0, none⟩) a0 len0 len0 len0 cap0 rfl rfl w.heap.size 0 M 5 hg1 X (by simp [hXl]) S1.out (by omega) hX1 w.heap.size w hb1 (Nat.le_refl _) ?_)
  intro w2 HG2 hb2
  have hg2 := HG2.out
  rw [splice_whole (by omega)] at hg2
  have hown2 : w2.ownsRow w.heap.size 5 1 (.slice (some ⟨w.heap.size, 0, none⟩) len0 len0) len0 X := owns_of_whole (Nat.le_refl _) hg2 hXl h
  have hs2 := lt_of_block hg2
  clear HG2 hg1 hM hb1 S1 hlt1 hg2
  have HO2 : Hid (w2.ownsRow w.heap.size 5 1 (.slice (some ⟨w.heap.size, 0, none⟩) len0 len0) len0 X) := hown2
  clear hown2
  go_wp2_with (at_make; refine wpList_make_full _ rfl _ _ 22 rfl w.heap.size 5 i0 (.int .u8 0) 1 Yba.underlying22 hi hz0 hz1 .i64 .i64 _ _ len0 rfl rfl rfl rfl (by rw [hz2]; omega) (by unfold maxLen; omega) (by omega) ?_)
  intro w3 hown3 hgrow3
  have hb3 : Below w2.heap.size w2 w3 := (Below.refl _ _).grown hgrow3 (Nat.le_refl _) (fun k hk => by cases hk)
  obtain ⟨M3, hg3, hM3⟩ := row_some hown3
  clear hown3 hgrow3
  have hb3' : Below w.heap.size w w3 := hb2.trans (hb3.mono (by omega))
  have S3 := src_pos (g := w2.heap.size) HSRC.out hb3'
  go_wp2_with (refine wpList_copy_splice rfl (.tmp 34) (.tmp 35) 22 22 rfl 5 Yba.underlying22 (by simp [hi, hz1]) (some ⟨w2.heap.size, 0, none⟩) a0 len0 len0 len0 cap0 rfl rfl w2.heap.size 0 M3 5 hg3 X (by simp [hXl]) S3.out (by omega) hX1 w2.heap.size w2 hb3 (Nat.le_refl _) ?_)
  intro w4 HG4 hb4
  have hg4 := HG4.out
  rw [splice_whole (by omega)] at hg4
  have hs4 := lt_of_block hg4
  have HO4 : Hid (w4.ownsRow w.heap.size 5 1 (.slice (some ⟨w2.heap.size, 0, none⟩) len0 len0) len0 X) := owns_of_whole (by omega) hg4 hXl h
  have HP4 : Hid (w4.ownsRow w.heap.size 5 1 (.slice (some ⟨w.heap.size, 0, none⟩) len0 len0) len0 X) := own_below HO2.out hb4 (fun g hg => by simp [Value.ownBlock] at hg; omega)
  have hb4' : Below w.heap.size w w4 := hb2.trans (hb4.mono (by omega))
  clear HG4 hg3 hM3 hb3 S3 HO2 hb3' hb2 hb4 hg4 hX1 HSRC
  go_wp2_with fail
  refine (repeat_some w.heap.size w.heap.size len0 len0 X c (a % 2048) w4 HP4.out (by omega) (by omega) (by omega)).mono ?_
  rintro e w5 ⟨g5, cap5, rfl, R5⟩
  have hs5 := R5.grown.size
  have hb5 : Below w.heap.size w w5 := hb4'.grown R5.grown (by omega) (fun k hk => by simp [Value.ownBlock] at hk; omega)
  have hg5 : g5 = w.heap.size ∨ w4.heap.size ≤ g5 := rep_at R5
  have HO5 : Hid (w5.ownsRow w.heap.size 5 1 (.slice (some ⟨w2.heap.size, 0, none⟩) len0 len0) len0 X) := HO4.out.kept R5.grown (.inr (by simp [Value.ownBlock]; omega))
  have HR5 : Hid (Rep w.heap.size (.slice (some ⟨w.heap.size, 0, none⟩) len0 len0) len0 X c w4 (a % 2048).toNat (.slice (some ⟨g5, 0, none⟩) (len0 + (a % 2048).toNat) cap5) w5) := R5
  clear R5 HO4 HP4 hb4'
  go_wp2_with fail
  refine (repeat_some w.heap.size g5 (len0 + (a % 2048).toNat) cap5 (X ++ List.replicate (a % 2048).toNat (.int .u8 c)) c (b % 2048) w5 HR5.out.own (by omega) (by omega) (by omega)).mono ?_
  rintro e w6 ⟨g6, cap6, rfl, R6⟩
  have hs6 := R6.grown.size
  have hb6 : Below w.heap.size w w6 := hb5.grown R6.grown (by omega) (fun k hk => by simp [Value.ownBlock] at hk; omega)
  have hg6 : g6 = g5 ∨ w5.heap.size ≤ g6 := rep_at R6
  have HO6 : Hid (w6.ownsRow w.heap.size 5 1 (.slice (some ⟨w2.heap.size, 0, none⟩) len0 len0) len0 X) := HO5.out.kept R6.grown (.inr (by simp [Value.ownBlock]; omega))
  have HP6 : Hid (w6.ownsRow w.heap.size 5 1 (.slice (some ⟨g6, 0, none⟩) (len0 + (a % 2048).toNat + (b % 2048).toNat) cap6) (len0 + (a % 2048).toNat + (b % 2048).toNat) (X ++ List.replicate ((a % 2048).toNat + (b % 2048).toNat) (.int .u8 c))) := by
    have := R6.own
    rw [List.append_assoc, List.replicate_append_replicate] at this
    exact this
  clear R6 HR5 HO5 hb5
  go_wp2_with fail
  refine (repeat_some w.heap.size w2.heap.size len0 len0 X c (a % 2048 + b % 2048) w6 HO6.out (by omega) (by omega) (by omega)).mono ?_
  rintro e w7 ⟨g7, cap7, rfl, R7⟩
  have hb7 : Below w.heap.size w w7 := hb6.grown R7.grown (by omega) (fun k hk => by simp [Value.ownBlock] at hk; omega)
  have hxy : (a % 2048 + b % 2048).toNat = (a % 2048).toNat + (b % 2048).toNat := by omega
  have HP7 : Hid (w7.ownsRow w.heap.size 5 1 (.slice (some ⟨g6, 0, none⟩) (len0 + (a % 2048).toNat + (b % 2048).toNat) cap6) (len0 + (a % 2048).toNat + (b % 2048).toNat) (X ++ List.replicate ((a % 2048).toNat + (b % 2048).toNat) (.int .u8 c))) := HP6.out.kept R7.grown (.inr (by simp [Value.ownBlock]; omega))
  have HC7 : Hid (∀ j, j < len0 + (a % 2048).toNat + (b % 2048).toNat → ∃ z, w7.cell? ⟨g6, j, none⟩ = some (.int .u8 z) ∧ w7.cell? ⟨g7, j, none⟩ = some (.int .u8 z)) := by
    intro j hj
    obtain ⟨z, hz⟩ := all_u8 (c := c) (k := (a % 2048).toNat + (b % 2048).toNat) HX.out j (by omega)
    refine ⟨z, ?_, ?_⟩
    · rw [HP7.out.cellAt j (by omega)]; exact hz
    · rw [R7.own.cellAt j (by omega), hxy]; exact hz
  clear R7 HP7 HP6 HO6 hb6 HX hxy
  go_wp2
  go_loopw [15] (fun i wr => ∃ k q : Nat, k ≤ len0 + (a % 2048).toNat + (b % 2048).toNat ∧ i = .int .i64 k ∧ wr = w7.drewN q) (fun i _ => len0 + (a % 2048).toNat + (b % 2048).toNat - (intOf i).toNat)
  case atStart => exact ⟨0, 0, by omega, rfl, rfl⟩
  case round =>
    obtain ⟨k, q, hk, rfl, rfl⟩ := hrel
    by_cases hlt : k < len0 + (a % 2048).toNat + (b % 2048).toNat
    · obtain ⟨z, c1, c2⟩ := HC7.out k hlt
      go_wp2
      go_quiet (fail)
      go_wp2
      go_roundw
      case rel => exact ⟨k + 1, _, by omega, by go_num, rfl⟩
      case measure => simp [intOf]; omega
    · go_wp2
      go_ret
      exact ⟨rfl, below_drewN hb7 _⟩
end Go.Proofs.Ybulkccli
