/-
  Seat b3934a. The walks of LawS3934AExact (function 3), a case each.
-/
import Derived.Test.YbulkccliRepeat
import Derived.WalkSpells
import Derived.WalkSmall
import Derived.Laws.CopyOwn
import Derived.Deep.QuietTactic
import Derived.BigQuiet
namespace Go.Proofs.Ybulkccli
open Go.RowKit

theorem exact_big (a0 : Option Addr) (len0 cap0 : Nat) (c n : Int) (w : World) (h : 1024 < len0) :
    Calls Yba.prog 3 #[.slice a0 len0 cap0, .int .u8 c, .int .i64 n] w fun e w' => e = .returned (.bool true) ∧ Below w.heap.size w w' := by
  have h1 : (1024 : Int) < (len0 : Int) := by omega
  go_enter Yba.func3, Yba.ntmps3
  go_wp2
  go_ret
  exact ⟨rfl, Below.refl _ _⟩

theorem exact_many (a0 : Option Addr) (len0 cap0 : Nat) (c n : Int) (w : World) (h : len0 ≤ 1024) (hn : 4096 < n) :
    Calls Yba.prog 3 #[.slice a0 len0 cap0, .int .u8 c, .int .i64 n] w fun e w' => e = .returned (.bool true) ∧ Below w.heap.size w w' := by
  have h1 : ¬ (1024 : Int) < (len0 : Int) := by omega
  go_enter Yba.func3, Yba.ntmps3
  go_wp2
  go_ret
  exact ⟨rfl, Below.refl _ _⟩

theorem row_whole {w : World} {base e : Nat} {g n : Nat} {xs : List Value} (h : w.ownsRow base e 1 (.slice (some ⟨g, 0, none⟩) n n) n xs) : w.heap[g]? = some (.cells xs.toArray e (0, 0)) := by
  rcases h.2 with ⟨h', _⟩ | ⟨g', cap', cur, h', _, hg, _, _, hcs, htake⟩
  · simp at h'
  · simp only [Value.slice.injEq, Option.some.injEq, Addr.mk.injEq, and_true, true_and] at h'
    obtain ⟨rfl, rfl⟩ := h'
    rw [hg, ← htake, List.take_of_length_le (by simp [hcs])]

theorem row_some {w : World} {base e : Nat} {g n : Nat} {xs : List Value} (h : w.ownsRow base e 1 (.slice (some ⟨g, 0, none⟩) n n) n xs) : ∃ M : List Value, w.heap[g]? = some (.cells M.toArray e (0, 0)) ∧ M.length = n :=
  ⟨xs, row_whole h, by have := h.1; omega⟩

theorem splice_whole {M X : List Value} (h : M.length = X.length) : splice M 0 X = X := by
  simp [splice, ← h]

theorem owns_of_whole {w : World} {base e g n : Nat} {X : List Value} (hb : base ≤ g) (hg : w.heap[g]? = some (.cells X.toArray e (0, 0))) (hX : X.length = n) (hn : n ≤ 1024) : w.ownsRow base e 1 (.slice (some ⟨g, 0, none⟩) n n) n X :=
  ⟨by omega, .inr ⟨g, n, X.toArray, rfl, hb, hg, Nat.le_refl _, by unfold maxLen; omega, by simp [hX], by rw [List.take_of_length_le (by simp; omega)]⟩⟩

/-- 'appendRepeat' on a row that is not nil. -/
theorem repeat_some (base g n0 cap : Nat) (xs : List Value) (c n : Int) (w : World) (hown : w.ownsRow base 5 1 (.slice (some ⟨g, 0, none⟩) n0 cap) n0 xs) (hb : base ≤ w.heap.size) (hn0 : n0 ≤ 8192) (hn : n ≤ 4096) :
    Calls Yba.prog 5 #[.slice (some ⟨g, 0, none⟩) n0 cap, .int .u8 c, .int .i64 n] w fun e w' => ∃ g' cap', e = .returned (.slice (some ⟨g', 0, none⟩) (n0 + n.toNat) cap') ∧ Rep base (.slice (some ⟨g, 0, none⟩) n0 cap) n0 xs c w n.toNat (.slice (some ⟨g', 0, none⟩) (n0 + n.toNat) cap') w' := by
  refine (repeat_any base _ n0 xs c n w hown hb hn0 hn).mono ?_
  rintro e w' ⟨v', rfl, hrep⟩
  rcases hrep.own.2 with ⟨h, _⟩ | ⟨g', cap', cur, rfl, _⟩
  · exact absurd (hrep.nil.1 h).1 (by simp)
  · exact ⟨g', cap', rfl, hrep⟩

theorem getD_some {X : List Value} {j : Nat} {v : Value} (h : X[j]? = some v) : j < X.length := (List.getElem?_eq_some_iff.1 h).1

set_option maxHeartbeats 800000 in
theorem exact_some (x : Addr) (len0 cap0 : Nat) (z0 : List Int) (c n : Int) (w : World) (h : len0 ≤ 1024) (hn : n ≤ 4096) (hlc : len0 ≤ z0.length)
    (hc : ∀ i, i < z0.length → w.cell? (x.add i) = some (.int .u8 (z0.getD i 0))) :
    Calls Yba.prog 3 #[.slice (some x) len0 cap0, .int .u8 c, .int .i64 n] w fun e w' => e = .returned (.bool true) ∧ Below w.heap.size w w' := by
  have h1 : ¬ (1024 : Int) < (len0 : Int) := by omega
  obtain ⟨i0, hi, hz0, hz1, hz2⟩ := info_parts Yba.info5
  have hneq := fun (w : World) (a : Option Addr) (n c : Nat) => run_neq_slice_nil_any (P := Yba.prog) w 22 5 a n c 0 0 Yba.underlying22
  have heql := fun (w : World) (a : Option Addr) (n c : Nat) => Lib.run_eql_slice_nil (P := Yba.prog) w 22 5 a n c 0 0 Yba.underlying22
  obtain ⟨X, hX⟩ : ∃ X : List Value, X = (z0.take len0).map (Value.int .u8) := ⟨_, rfl⟩
  have hXl : X.length = len0 := by rw [hX]; simp; omega
  have hXg : ∀ j, j < len0 → X[j]? = some (.int .u8 (z0.getD j 0)) := by
    intro j hj
    have hj' : j < z0.length := by omega
    simp [hX, hj, hj']
  have hX1 : ∀ v ∈ X, v.oneCell' = true := by rw [hX]; exact ints_oneCell _ _
  have HX : Hid (∀ j, j < len0 → X[j]? = some (.int .u8 (z0.getD j 0))) := hXg
  have HC : Hid (∀ i, i < z0.length → w.cell? (x.add i) = some (.int .u8 (z0.getD i 0))) := hc
  clear hX hXg hc
  go_enter Yba.func3, Yba.ntmps3
  go_wp2_with (at_make; refine wpList_make_full _ rfl _ _ 22 rfl w.heap.size 5 i0 (.int .u8 0) 1 Yba.underlying22 hi hz0 hz1 .i64 .i64 _ _ len0 rfl rfl rfl rfl (by rw [hz2]; omega) (by unfold maxLen; omega) (by omega) ?_)
  intro w1 hown1 hgrow1
  have hb1 : Below w.heap.size w w1 := (Below.refl _ _).grown hgrow1 (Nat.le_refl _) (fun k hk => by cases hk)
  obtain ⟨M, hg1, hM⟩ := row_some hown1
  clear hown1 hgrow1
  have S1 : Hid (0 < X.length → some (⟨w.heap.size, 0, none⟩ : Addr) = some ⟨w.heap.size, 0, none⟩ ∧ ∃ ad, some x = some ad ∧ ∀ j v, X[j]? = some v → w1.cell? (ad.add j) = some v) := by
    intro hpos
    refine ⟨rfl, x, rfl, fun j v hj => ?_⟩
    have hjl := getD_some hj
    rw [HX.out j (by omega)] at hj
    rw [← Option.some.inj hj]
    have hcj := HC.out j (by omega)
    exact (hb1.cell (block_lt_of_cell hcj)).trans hcj
  go_wp2_with (refine wpList_copy_splice rfl (.tmp 24) (.tmp 25) 22 22 rfl 5 Yba.underlying22 (by simp [hi, hz1]) (some ⟨w.heap.size, 0, none⟩) (some x) len0 len0 len0 cap0 rfl rfl w.heap.size 0 M 5 hg1 X (by simp [hXl]) S1.out (by omega) hX1 w.heap.size w hb1 (Nat.le_refl _) ?_)
  intro w2 HG2 hb2
  have hg2 := HG2.out
  rw [splice_whole (by omega)] at hg2
  have hown2 : w2.ownsRow w.heap.size 5 1 (.slice (some ⟨w.heap.size, 0, none⟩) len0 len0) len0 X := owns_of_whole (Nat.le_refl _) hg2 hXl h
  have hs2 := hb2.size
  clear HG2 hg1 hM hb1 S1
  go_wp2_with fail
  refine (repeat_some w.heap.size w.heap.size len0 len0 X c n w2 hown2 hs2 (by omega) hn).mono ?_
  rintro e w3 ⟨g', cap', rfl, hrep⟩
  have hb3 : Below w.heap.size w w3 := hb2.grown hrep.grown hs2 (fun k hk => by simp [Value.ownBlock] at hk; omega)
  have HR : Hid (∀ j, j < len0 → w3.cell? ⟨g', j, none⟩ = some (.int .u8 (z0.getD j 0))) := by
    intro j hj
    rw [hrep.own.cellAt j (by omega), List.getElem?_append_left (by omega)]
    exact HX.out j hj
  have HT : Hid (∀ j, len0 ≤ j → j < len0 + n.toNat → w3.cell? ⟨g', j, none⟩ = some (.int .u8 c)) := by
    intro j hj hj2
    rw [hrep.own.cellAt j (by omega), List.getElem?_append_right (by omega), List.getElem?_replicate, if_pos (by omega)]
  have HD : Hid (∀ j, j < len0 → w3.cell? ⟨w.heap.size, j, none⟩ = some (.int .u8 (z0.getD j 0))) := by
    intro j hj
    rw [hrep.kept w.heap.size j rfl hj, hown2.cellAt j (by omega)]
    exact HX.out j hj
  have HS : Hid (∀ j, j < len0 → w3.cell? (x.add j) = some (.int .u8 (z0.getD j 0))) := by
    intro j hj
    have hcj := HC.out j (by omega)
    exact (hb3.cell (block_lt_of_cell hcj)).trans hcj
  clear hrep hown2 hb2 hg2 hs2 hX1 HX HC
  by_cases hneg : n < 0
  all_goals
    go_wp2
    go_loopw [10] (fun i wr => ∃ k q : Nat, k ≤ len0 ∧ i = .int .i64 k ∧ wr = w3.drewN q) (fun i _ => len0 - (intOf i).toNat)
    case atStart => exact ⟨0, 0, by omega, rfl, rfl⟩
    case round =>
      obtain ⟨k, q, hk, rfl, rfl⟩ := hrel
      by_cases hlt : k < len0
      · obtain ⟨zk, hzk⟩ : ∃ zk, zk = z0.getD k 0 := ⟨_, rfl⟩
        have r1 : w3.cell? ⟨g', k, none⟩ = some (.int .u8 zk) := by rw [hzk]; exact HR.out k hlt
        have d1 : w3.cell? ⟨w.heap.size, k, none⟩ = some (.int .u8 zk) := by rw [hzk]; exact HD.out k hlt
        have s1 : w3.cell? (x.add k) = some (.int .u8 zk) := by rw [hzk]; exact HS.out k hlt
        clear hzk
        go_wp2
        go_quiet (fail)
        go_wp2
        go_quiet (fail)
        go_wp2
        go_roundw
        case rel => exact ⟨k + 1, _, by omega, by go_num, rfl⟩
        case measure => simp [intOf]; omega
      · go_wp2
        clear HR HD HS
        go_loop [11] (fun i => ∃ j : Nat, len0 ≤ j ∧ j ≤ len0 + n.toNat ∧ i = .int .i64 j) (fun i => len0 + n.toNat - (intOf i).toNat)
        case atStart => exact ⟨len0, by omega, by omega, rfl⟩
        case round =>
          obtain ⟨j, hj1, hj2, rfl⟩ := hrel
          by_cases hlt2 : j < len0 + n.toNat
          · have t1 : w3.cell? ⟨g', j, none⟩ = some (.int .u8 c) := HT.out j hj1 hlt2
            first
              | (exfalso; omega)
              | skip
            all_goals
              go_wp2
              go_round
              case rel => exact ⟨j + 1, by omega, by omega, by go_num⟩
              case measure => simp [intOf]; omega
          · by_cases hz : n = 0
            all_goals first
              | (exfalso; omega)
              | (go_wp2; go_ret; exact ⟨rfl, below_drewN hb3 _⟩)

/-- 'appendRepeat' on nil: nothing to append. -/
theorem repeat_nil0 (c n : Int) (w : World) (hn : n ≤ 0) :
    Calls Yba.prog 5 #[.slice none 0 0, .int .u8 c, .int .i64 n] w fun e w' => e = .returned (.slice none 0 0) ∧ Below w.heap.size w w' := by
  refine (repeat_any w.heap.size _ 0 [] c n w (World.ownsRow_nil _ _ _ _) (Nat.le_refl _) (by omega) (by omega)).mono ?_
  rintro e w' ⟨v', rfl, hrep⟩
  obtain rfl := hrep.nil.2 ⟨rfl, by omega⟩
  exact ⟨rfl, (Below.refl _ _).grown hrep.grown (Nat.le_refl _) (fun k hk => by cases hk)⟩

/-- 'appendRepeat' on nil: something is appended. -/
theorem repeat_nil1 (c n : Int) (w : World) (hn0 : 0 < n) (hn : n ≤ 4096) :
    Calls Yba.prog 5 #[.slice none 0 0, .int .u8 c, .int .i64 n] w fun e w' => ∃ g' cap', e = .returned (.slice (some ⟨g', 0, none⟩) n.toNat cap') ∧ Below w.heap.size w w' ∧ Hid (∀ j, j < n.toNat → w'.cell? ⟨g', j, none⟩ = some (.int .u8 c)) := by
  refine (repeat_any w.heap.size _ 0 [] c n w (World.ownsRow_nil _ _ _ _) (Nat.le_refl _) (by omega) (by omega)).mono ?_
  rintro e w' ⟨v', rfl, hrep⟩
  have hown := hrep.own
  simp only [Nat.zero_add, List.nil_append] at hown
  rcases hown.2 with ⟨h, _⟩ | ⟨g', cap', cur, rfl, _⟩
  · have := (hrep.nil.1 h).2; omega
  · refine ⟨g', cap', rfl, (Below.refl _ _).grown hrep.grown (Nat.le_refl _) (fun k hk => by cases hk), fun j hj => ?_⟩
    rw [hown.cellAt j (by omega), List.getElem?_replicate, if_pos hj]

set_option maxHeartbeats 800000 in
theorem exact_nil (c n : Int) (w : World) (hn : n ≤ 4096) :
    Calls Yba.prog 3 #[.slice none 0 0, .int .u8 c, .int .i64 n] w fun e w' => e = .returned (.bool true) ∧ Below w.heap.size w w' := by
  have hneq := fun (w : World) (a : Option Addr) (n c : Nat) => run_neq_slice_nil_any (P := Yba.prog) w 22 5 a n c 0 0 Yba.underlying22
  have heql := fun (w : World) (a : Option Addr) (n c : Nat) => Lib.run_eql_slice_nil (P := Yba.prog) w 22 5 a n c 0 0 Yba.underlying22
  by_cases hpos : 0 < n
  · go_enter Yba.func3, Yba.ntmps3
    go_wp2_with fail
    refine (repeat_nil1 c n w hpos hn).mono ?_
    rintro e w3 ⟨g', cap', rfl, hb3, HT⟩
    go_wp2
    refine wp_loop_rounds 1 ?_
    rw [rounds_succ]
    go_wp2
    go_loop [11] (fun i => ∃ j : Nat, j ≤ n.toNat ∧ i = .int .i64 j) (fun i => n.toNat - (intOf i).toNat)
    case atStart => exact ⟨0, by omega, rfl⟩
    case round =>
      obtain ⟨j, hj2, rfl⟩ := hrel
      by_cases hlt2 : j < n.toNat
      · have t1 : w3.cell? ⟨g', j, none⟩ = some (.int .u8 c) := HT.out j hlt2
        go_wp2
        go_round
        case rel => exact ⟨j + 1, by omega, by go_num⟩
        case measure => simp [intOf]; omega
      · go_wp2
        go_ret
        exact ⟨rfl, hb3⟩
  · by_cases hneg : n < 0
    all_goals
      go_enter Yba.func3, Yba.ntmps3
      go_wp2_with fail
      refine (repeat_nil0 c n w (by omega)).mono ?_
      rintro e w3 ⟨rfl, hb3⟩
      go_wp2
      refine wp_loop_rounds 1 ?_
      rw [rounds_succ]
      go_wp2
      refine wp_loop_rounds 1 ?_
      rw [rounds_succ]
      go_wp2
      go_ret
      exact ⟨rfl, hb3⟩

end Go.Proofs.Ybulkccli
