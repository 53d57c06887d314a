/-
  Seat b3950a. The walks of LawS3950AConvinced (3).
-/
import Derived.Test.YbulkcctyConv
namespace Go.Proofs.Ybulkccty
open Go.RowKit

theorem law_big (a0 : Option Addr) (len cap : Nat) (s : ByteArray) (pick : Int) (w : World) (h : 1024 < len) :
    Calls Yba.prog 3 #[.slice a0 len cap, .string s, .int .u8 pick] w fun e w' => e = .returned (.bool true) ∧ Below w.heap.size w w' := by
  have h1 : (1024 : Int) < (len : Int) := by omega
  go_enter Yba.func3, Yba.ntmps3
  go_wp2
  go_ret
  exact ⟨rfl, Below.refl _ _⟩

/-- The process that the law makes. -/
def proc (x : ByteArray) (ms : Value) : Array Value :=
  #[.string x, .slice none 0 0, .nilFunc, .map none, .slice none 0 0, .map none, .map none, .slice none 0 0, .bool false, .map none, ms,
    .int .i64 0, .bool false, .string { data := #[] }, .pointer none, .slice none 0 0, .map none, .map none, .map none, .int .i64 0, .map none,
    .slice none 0 0, .bool false, .string { data := #[] }, .int .i64 0, .string { data := #[] }, .string { data := #[] }, .slice none 0 0, .slice none 0 0,
    .int .i64 0, .string { data := #[] }, .int .i64 0, .slice none 0 0]

theorem proc_0 (w : World) (x : ByteArray) (ms : Value) : (w.alloc (.cells (proc x ms) 49)).cell? ⟨w.heap.size, 0, none⟩ = some (.string x) := by
  rw [cell_of_row _ _ _ _ _ (0, 0) (heap_alloc_new w _)]; rfl
theorem proc_10 (w : World) (x : ByteArray) (ms : Value) : (w.alloc (.cells (proc x ms) 49)).cell? ⟨w.heap.size, 10, none⟩ = some ms := by
  rw [cell_of_row _ _ _ _ _ (0, 0) (heap_alloc_new w _)]; rfl

set_option maxHeartbeats 1600000 in
set_option maxRecDepth 100000 in
theorem law_even (a0 : Option Addr) (len cap : Nat) (ss : List ByteArray) (s : ByteArray) (pick : Int) (w : World) (h : len ≤ 1024) (hp0 : 0 ≤ pick) (hp1 : pick ≤ 255) (hcs : Hid (CameS w a0 len ss)) (hpk : ¬ pick % 2 = 1) :
    Calls Yba.prog 3 #[.slice a0 len cap, .string s, .int .u8 pick] w fun e w' => e = .returned (.bool true) ∧ Below w.heap.size w w' := by
  have h1 : ¬ (1024 : Int) < (len : Int) := by omega
  go_enter Yba.func3, Yba.ntmps3
  go_wp2_with fail
  refine (clone_any a0 len cap ss w h hcs).mono ?_
  rintro e w1 ⟨a1, c1, rfl, hO1, hb1⟩
  have HO1 : Hid (OwnS w.heap.size w1 a1 len c1 ss) := hO1
  clear hO1
  go_wp2_with fail
  refine (sort_any w.heap.size a1 len c1 ss w1 h hb1.size HO1).mono ?_
  rintro e w2 ⟨rfl, hO2, hb2⟩
  have HA : Hid (Asc (sorted ss)) := sorted_asc ss
  obtain ⟨zs, hzs⟩ : ∃ zs, zs = sorted ss := ⟨_, rfl⟩
  rw [← hzs] at hO2 HA
  have hl : zs.length = len := hO2.came.1
  have HC2 : Hid (CameS w2 a1 len zs) := hO2.came
  have hbw2 : Below w.heap.size w w2 := hb1.trans hb2
  clear hO2 hb1 hb2 HO1 hzs hcs
  go_wp2_with fail
  refine (clone_any a1 len c1 zs w2 h HC2).mono ?_
  rintro e w3 ⟨a2, c2, rfl, hO3, hb3⟩
  have HB4 : Hid (CameS (w3.alloc (.cells (proc s (.slice a1 len c1)) 49)) a2 len zs) := cameS_later hO3.came ((Below.refl _ _).alloc (Nat.le_refl _) _)
  have HC4 : Hid (CameS (w3.alloc (.cells (proc s (.slice a1 len c1)) 49)) a1 len zs) := cameS_later (cameS_later HC2.out hb3) ((Below.refl _ _).alloc (Nat.le_refl _) _)
  have hbw3 : Below w.heap.size w w3 := hbw2.trans (hb3.mono hbw2.size)
  have hbw4 : Below w.heap.size w (w3.alloc (.cells (proc s (.slice a1 len c1)) 49)) := hbw3.alloc hbw3.size _
  clear hO3 hb3 HC2 hbw2
  go_wp2_with fail
  cases hin : isIn zs s
  · skip
    refine (conv_out w3.heap.size a1 len c1 zs s (w3.alloc (.cells (proc s (.slice a1 len c1)) 49)) h HC4 HA (proc_10 _ _ _) (proc_0 _ _ _) hin).mono ?_
    rintro e w5 ⟨rfl, q, hw5⟩
    have d0 : w5.cell? ⟨w3.heap.size, 0, none⟩ = some (.string s) := by rw [hw5]; exact proc_0 _ _ _
    have d10 : w5.cell? ⟨w3.heap.size, 10, none⟩ = some (.slice a1 len c1) := by rw [hw5]; exact proc_10 _ _ _
    have HC5 : Hid (CameS w5 a1 len zs) := by rw [hw5]; exact cameS_drewN HC4.out q
    have HB5 : Hid (CameS w5 a2 len zs) := by rw [hw5]; exact cameS_drewN HB4.out q
    have hbw5 : Below w.heap.size w w5 := by rw [hw5]; exact below_drewN hbw4 q
    clear hw5 HC4 HB4 hbw4 hbw3
    go_wp2
    go_loop [11, 52] (fun s11 s52 => ∃ k : Nat, k ≤ len ∧ s52 = .int .i64 k ∧ s11 = .bool (isIn (zs.take k) s)) (fun _ s52 => len - (intOf s52).toNat)
    case atStart => exact ⟨0, by omega, rfl, rfl⟩
    case round =>
      obtain ⟨k, hk, rfl, rfl⟩ := hrel
      by_cases hlt : k < len
      · obtain ⟨b, off, rfl, hc⟩ := HC5.out.addr (by omega)
        have hck := hc k hlt
        clear hc
        have hstep := isIn_step (x := s) (show k < zs.length by omega)
        obtain ⟨y, hy⟩ : ∃ y, y = zs.getD k ByteArray.empty := ⟨_, rfl⟩
        rw [← hy] at hck hstep
        have HST : Hid (isIn (zs.take (k + 1)) s = (isIn (zs.take k) s || (y.toList == s.toList))) := hstep
        clear hy hstep
        obtain ⟨f, hf⟩ : ∃ f, f = isIn (zs.take k) s := ⟨_, rfl⟩
        rw [← hf] at HST ⊢
        clear hf
        cases hyx : (y.toList == s.toList)
        · go_wp2
          go_round
          case rel => exact ⟨k + 1, by omega, by go_num, by rw [HST.out, hyx, Bool.or_false]⟩
          case measure => simp [intOf]; omega
        · go_wp2
          go_round
          case rel => exact ⟨k + 1, by omega, by go_num, by rw [HST.out, hyx, Bool.or_true]⟩
          case measure => simp [intOf]; omega
      · obtain rfl : k = len := by omega
        rw [List.take_of_length_le (by omega), hin]
        skip
        clear hin
        go_wp2_with (go_at_call 7; refine (equal_any a1 a2 k c1 c2 zs w5 h HC5 HB5).mono ?_; rintro e w' ⟨rfl, q2, rfl⟩)
        go_ret
        exact ⟨rfl, below_drewN hbw5 q2⟩
  · skip
    refine (conv_in w3.heap.size a1 len c1 zs s (w3.alloc (.cells (proc s (.slice a1 len c1)) 49)) h HC4 HA (proc_10 _ _ _) (proc_0 _ _ _) hin).mono ?_
    rintro e w5 ⟨rfl, q, hw5⟩
    have d0 : w5.cell? ⟨w3.heap.size, 0, none⟩ = some (.string s) := by rw [hw5]; exact proc_0 _ _ _
    have d10 : w5.cell? ⟨w3.heap.size, 10, none⟩ = some (.slice a1 len c1) := by rw [hw5]; exact proc_10 _ _ _
    have HC5 : Hid (CameS w5 a1 len zs) := by rw [hw5]; exact cameS_drewN HC4.out q
    have HB5 : Hid (CameS w5 a2 len zs) := by rw [hw5]; exact cameS_drewN HB4.out q
    have hbw5 : Below w.heap.size w w5 := by rw [hw5]; exact below_drewN hbw4 q
    clear hw5 HC4 HB4 hbw4 hbw3
    go_wp2
    go_loop [11, 52] (fun s11 s52 => ∃ k : Nat, k ≤ len ∧ s52 = .int .i64 k ∧ s11 = .bool (isIn (zs.take k) s)) (fun _ s52 => len - (intOf s52).toNat)
    case atStart => exact ⟨0, by omega, rfl, rfl⟩
    case round =>
      obtain ⟨k, hk, rfl, rfl⟩ := hrel
      by_cases hlt : k < len
      · obtain ⟨b, off, rfl, hc⟩ := HC5.out.addr (by omega)
        have hck := hc k hlt
        clear hc
        have hstep := isIn_step (x := s) (show k < zs.length by omega)
        obtain ⟨y, hy⟩ : ∃ y, y = zs.getD k ByteArray.empty := ⟨_, rfl⟩
        rw [← hy] at hck hstep
        have HST : Hid (isIn (zs.take (k + 1)) s = (isIn (zs.take k) s || (y.toList == s.toList))) := hstep
        clear hy hstep
        obtain ⟨f, hf⟩ : ∃ f, f = isIn (zs.take k) s := ⟨_, rfl⟩
        rw [← hf] at HST ⊢
        clear hf
        cases hyx : (y.toList == s.toList)
        · go_wp2
          go_round
          case rel => exact ⟨k + 1, by omega, by go_num, by rw [HST.out, hyx, Bool.or_false]⟩
          case measure => simp [intOf]; omega
        · go_wp2
          go_round
          case rel => exact ⟨k + 1, by omega, by go_num, by rw [HST.out, hyx, Bool.or_true]⟩
          case measure => simp [intOf]; omega
      · obtain rfl : k = len := by omega
        rw [List.take_of_length_le (by omega), hin]
        have hpos5 : 0 < k := by have := isIn_pos hin; omega
        clear hin
        go_wp2_with (go_at_call 7; refine (equal_any a1 a2 k c1 c2 zs w5 h HC5 HB5).mono ?_; rintro e w' ⟨rfl, q2, rfl⟩)
        go_ret
        exact ⟨rfl, below_drewN hbw5 q2⟩

set_option maxHeartbeats 1600000 in
set_option maxRecDepth 100000 in
theorem law_picked (a0 : Option Addr) (len cap : Nat) (ss : List ByteArray) (s : ByteArray) (pick : Int) (w : World) (h : len ≤ 1024) (hp0 : 0 ≤ pick) (hp1 : pick ≤ 255) (hcs : Hid (CameS w a0 len ss)) (hpk : pick % 2 = 1) (hpos : 0 < len) :
    Calls Yba.prog 3 #[.slice a0 len cap, .string s, .int .u8 pick] w fun e w' => e = .returned (.bool true) ∧ Below w.heap.size w w' := by
  have h1 : ¬ (1024 : Int) < (len : Int) := by omega
  go_enter Yba.func3, Yba.ntmps3
  go_wp2_with fail
  refine (clone_any a0 len cap ss w h hcs).mono ?_
  rintro e w1 ⟨a1, c1, rfl, hO1, hb1⟩
  have HO1 : Hid (OwnS w.heap.size w1 a1 len c1 ss) := hO1
  clear hO1
  go_wp2_with fail
  refine (sort_any w.heap.size a1 len c1 ss w1 h hb1.size HO1).mono ?_
  rintro e w2 ⟨rfl, hO2, hb2⟩
  have HA : Hid (Asc (sorted ss)) := sorted_asc ss
  obtain ⟨zs, hzs⟩ : ∃ zs, zs = sorted ss := ⟨_, rfl⟩
  rw [← hzs] at hO2 HA
  have hl : zs.length = len := hO2.came.1
  have HC2 : Hid (CameS w2 a1 len zs) := hO2.came
  have hbw2 : Below w.heap.size w w2 := hb1.trans hb2
  clear hO2 hb1 hb2 HO1 hzs hcs
  obtain ⟨j, hj⟩ : ∃ j : Nat, pick / 2 % (len : Int) = (j : Int) := ⟨(pick / 2 % (len : Int)).toNat, by have := Int.emod_nonneg (pick / 2) (show (len : Int) ≠ 0 by omega); omega⟩
  have hjl : j < len := by have := Int.emod_lt_of_pos (pick / 2) (show (0 : Int) < (len : Int) by omega); omega
  obtain ⟨b0, off0, ha1, hc0⟩ := HC2.out.addr hpos
  have hcj := hc0 j hjl
  obtain ⟨yp, hyp⟩ : ∃ y, y = zs.getD j ByteArray.empty := ⟨_, rfl⟩
  rw [← hyp] at hcj
  clear hc0 hyp
  subst ha1
  obtain ⟨a1, ha1⟩ : ∃ a1 : Option Addr, a1 = some ⟨b0, off0, none⟩ := ⟨_, rfl⟩
  go_wp2_with fail
  clear hj hcj
  rw [← ha1] at HC2 ⊢
  clear ha1
  refine (clone_any a1 len c1 zs w2 h HC2).mono ?_
  rintro e w3 ⟨a2, c2, rfl, hO3, hb3⟩
  have HB4 : Hid (CameS (w3.alloc (.cells (proc yp (.slice a1 len c1)) 49)) a2 len zs) := cameS_later hO3.came ((Below.refl _ _).alloc (Nat.le_refl _) _)
  have HC4 : Hid (CameS (w3.alloc (.cells (proc yp (.slice a1 len c1)) 49)) a1 len zs) := cameS_later (cameS_later HC2.out hb3) ((Below.refl _ _).alloc (Nat.le_refl _) _)
  have hbw3 : Below w.heap.size w w3 := hbw2.trans (hb3.mono hbw2.size)
  have hbw4 : Below w.heap.size w (w3.alloc (.cells (proc yp (.slice a1 len c1)) 49)) := hbw3.alloc hbw3.size _
  clear hO3 hb3 HC2 hbw2
  go_wp2_with fail
  cases hin : isIn zs yp
  · skip
    refine (conv_out w3.heap.size a1 len c1 zs yp (w3.alloc (.cells (proc yp (.slice a1 len c1)) 49)) h HC4 HA (proc_10 _ _ _) (proc_0 _ _ _) hin).mono ?_
    rintro e w5 ⟨rfl, q, hw5⟩
    have d0 : w5.cell? ⟨w3.heap.size, 0, none⟩ = some (.string yp) := by rw [hw5]; exact proc_0 _ _ _
    have d10 : w5.cell? ⟨w3.heap.size, 10, none⟩ = some (.slice a1 len c1) := by rw [hw5]; exact proc_10 _ _ _
    have HC5 : Hid (CameS w5 a1 len zs) := by rw [hw5]; exact cameS_drewN HC4.out q
    have HB5 : Hid (CameS w5 a2 len zs) := by rw [hw5]; exact cameS_drewN HB4.out q
    have hbw5 : Below w.heap.size w w5 := by rw [hw5]; exact below_drewN hbw4 q
    clear hw5 HC4 HB4 hbw4 hbw3
    go_wp2
    go_loop [11, 52] (fun s11 s52 => ∃ k : Nat, k ≤ len ∧ s52 = .int .i64 k ∧ s11 = .bool (isIn (zs.take k) yp)) (fun _ s52 => len - (intOf s52).toNat)
    case atStart => exact ⟨0, by omega, rfl, rfl⟩
    case round =>
      obtain ⟨k, hk, rfl, rfl⟩ := hrel
      by_cases hlt : k < len
      · obtain ⟨b, off, rfl, hc⟩ := HC5.out.addr (by omega)
        have hck := hc k hlt
        clear hc
        have hstep := isIn_step (x := yp) (show k < zs.length by omega)
        obtain ⟨y, hy⟩ : ∃ y, y = zs.getD k ByteArray.empty := ⟨_, rfl⟩
        rw [← hy] at hck hstep
        have HST : Hid (isIn (zs.take (k + 1)) yp = (isIn (zs.take k) yp || (y.toList == yp.toList))) := hstep
        clear hy hstep
        obtain ⟨f, hf⟩ : ∃ f, f = isIn (zs.take k) yp := ⟨_, rfl⟩
        rw [← hf] at HST ⊢
        clear hf
        cases hyx : (y.toList == yp.toList)
        · go_wp2
          go_round
          case rel => exact ⟨k + 1, by omega, by go_num, by rw [HST.out, hyx, Bool.or_false]⟩
          case measure => simp [intOf]; omega
        · go_wp2
          go_round
          case rel => exact ⟨k + 1, by omega, by go_num, by rw [HST.out, hyx, Bool.or_true]⟩
          case measure => simp [intOf]; omega
      · obtain rfl : k = len := by omega
        rw [List.take_of_length_le (by omega), hin]
        skip
        clear hin
        go_wp2_with (go_at_call 7; refine (equal_any a1 a2 k c1 c2 zs w5 h HC5 HB5).mono ?_; rintro e w' ⟨rfl, q2, rfl⟩)
        go_ret
        exact ⟨rfl, below_drewN hbw5 q2⟩
  · skip
    refine (conv_in w3.heap.size a1 len c1 zs yp (w3.alloc (.cells (proc yp (.slice a1 len c1)) 49)) h HC4 HA (proc_10 _ _ _) (proc_0 _ _ _) hin).mono ?_
    rintro e w5 ⟨rfl, q, hw5⟩
    have d0 : w5.cell? ⟨w3.heap.size, 0, none⟩ = some (.string yp) := by rw [hw5]; exact proc_0 _ _ _
    have d10 : w5.cell? ⟨w3.heap.size, 10, none⟩ = some (.slice a1 len c1) := by rw [hw5]; exact proc_10 _ _ _
    have HC5 : Hid (CameS w5 a1 len zs) := by rw [hw5]; exact cameS_drewN HC4.out q
    have HB5 : Hid (CameS w5 a2 len zs) := by rw [hw5]; exact cameS_drewN HB4.out q
    have hbw5 : Below w.heap.size w w5 := by rw [hw5]; exact below_drewN hbw4 q
    clear hw5 HC4 HB4 hbw4 hbw3
    go_wp2
    go_loop [11, 52] (fun s11 s52 => ∃ k : Nat, k ≤ len ∧ s52 = .int .i64 k ∧ s11 = .bool (isIn (zs.take k) yp)) (fun _ s52 => len - (intOf s52).toNat)
    case atStart => exact ⟨0, by omega, rfl, rfl⟩
    case round =>
      obtain ⟨k, hk, rfl, rfl⟩ := hrel
      by_cases hlt : k < len
      · obtain ⟨b, off, rfl, hc⟩ := HC5.out.addr (by omega)
        have hck := hc k hlt
        clear hc
        have hstep := isIn_step (x := yp) (show k < zs.length by omega)
        obtain ⟨y, hy⟩ : ∃ y, y = zs.getD k ByteArray.empty := ⟨_, rfl⟩
        rw [← hy] at hck hstep
        have HST : Hid (isIn (zs.take (k + 1)) yp = (isIn (zs.take k) yp || (y.toList == yp.toList))) := hstep
        clear hy hstep
        obtain ⟨f, hf⟩ : ∃ f, f = isIn (zs.take k) yp := ⟨_, rfl⟩
        rw [← hf] at HST ⊢
        clear hf
        cases hyx : (y.toList == yp.toList)
        · go_wp2
          go_round
          case rel => exact ⟨k + 1, by omega, by go_num, by rw [HST.out, hyx, Bool.or_false]⟩
          case measure => simp [intOf]; omega
        · go_wp2
          go_round
          case rel => exact ⟨k + 1, by omega, by go_num, by rw [HST.out, hyx, Bool.or_true]⟩
          case measure => simp [intOf]; omega
      · obtain rfl : k = len := by omega
        rw [List.take_of_length_le (by omega), hin]
        have hpos5 : 0 < k := by have := isIn_pos hin; omega
        clear hin
        go_wp2_with (go_at_call 7; refine (equal_any a1 a2 k c1 c2 zs w5 h HC5 HB5).mono ?_; rintro e w' ⟨rfl, q2, rfl⟩)
        go_ret
        exact ⟨rfl, below_drewN hbw5 q2⟩

set_option maxHeartbeats 1600000 in
set_option maxRecDepth 100000 in
theorem law_empty (a0 : Option Addr) (len cap : Nat) (ss : List ByteArray) (s : ByteArray) (pick : Int) (w : World) (h : len ≤ 1024) (hp0 : 0 ≤ pick) (hp1 : pick ≤ 255) (hcs : Hid (CameS w a0 len ss)) (hpk : pick % 2 = 1) (hl0 : len = 0) :
    Calls Yba.prog 3 #[.slice a0 len cap, .string s, .int .u8 pick] w fun e w' => e = .returned (.bool true) ∧ Below w.heap.size w w' := by
  subst hl0
  go_enter Yba.func3, Yba.ntmps3
  go_wp2_with fail
  refine (clone_any a0 0 cap ss w h hcs).mono ?_
  rintro e w1 ⟨a1, c1, rfl, hO1, hb1⟩
  have HO1 : Hid (OwnS w.heap.size w1 a1 0 c1 ss) := hO1
  clear hO1
  go_wp2_with fail
  refine (sort_any w.heap.size a1 0 c1 ss w1 h hb1.size HO1).mono ?_
  rintro e w2 ⟨rfl, hO2, hb2⟩
  have HA : Hid (Asc (sorted ss)) := sorted_asc ss
  obtain ⟨zs, hzs⟩ : ∃ zs, zs = sorted ss := ⟨_, rfl⟩
  rw [← hzs] at hO2 HA
  have hl : zs.length = 0 := hO2.came.1
  have HC2 : Hid (CameS w2 a1 0 zs) := hO2.came
  have hbw2 : Below w.heap.size w w2 := hb1.trans hb2
  clear hO2 hb1 hb2 HO1 hzs hcs
  obtain rfl : zs = [] := List.length_eq_zero_iff.1 hl
  go_wp2_with fail
  refine (clone_any a1 0 c1 [] w2 h HC2).mono ?_
  rintro e w3 ⟨a2, c2, rfl, hO3, hb3⟩
  have HB4 : Hid (CameS (w3.alloc (.cells (proc s (.slice a1 0 c1)) 49)) a2 0 []) := cameS_later hO3.came ((Below.refl _ _).alloc (Nat.le_refl _) _)
  have HC4 : Hid (CameS (w3.alloc (.cells (proc s (.slice a1 0 c1)) 49)) a1 0 []) := cameS_later (cameS_later HC2.out hb3) ((Below.refl _ _).alloc (Nat.le_refl _) _)
  have hbw3 : Below w.heap.size w w3 := hbw2.trans (hb3.mono hbw2.size)
  have hbw4 : Below w.heap.size w (w3.alloc (.cells (proc s (.slice a1 0 c1)) 49)) := hbw3.alloc hbw3.size _
  clear hO3 hb3 HC2 hbw2
  go_wp2_with fail
  refine (conv_out w3.heap.size a1 0 c1 [] s (w3.alloc (.cells (proc s (.slice a1 0 c1)) 49)) h HC4 HA (proc_10 _ _ _) (proc_0 _ _ _) rfl).mono ?_
  rintro e w5 ⟨rfl, q, hw5⟩
  have d0 : w5.cell? ⟨w3.heap.size, 0, none⟩ = some (.string s) := by rw [hw5]; exact proc_0 _ _ _
  have d10 : w5.cell? ⟨w3.heap.size, 10, none⟩ = some (.slice a1 0 c1) := by rw [hw5]; exact proc_10 _ _ _
  have HC5 : Hid (CameS w5 a1 0 []) := by rw [hw5]; exact cameS_drewN HC4.out q
  have HB5 : Hid (CameS w5 a2 0 []) := by rw [hw5]; exact cameS_drewN HB4.out q
  have hbw5 : Below w.heap.size w w5 := by rw [hw5]; exact below_drewN hbw4 q
  clear hw5 HC4 HB4 hbw4 hbw3
  go_wp2
  refine wp_loop_rounds 1 ?_
  rw [rounds_succ]
  go_wp2_with (go_at_call 7; refine (equal_any a1 a2 0 c1 c2 [] w5 h HC5 HB5).mono ?_; rintro e w' ⟨rfl, q2, rfl⟩)
  go_ret
  exact ⟨rfl, below_drewN hbw5 q2⟩

theorem law_any (a0 : Option Addr) (len cap : Nat) (ss : List ByteArray) (s : ByteArray) (pick : Int) (w : World) (h : len ≤ 1024) (hp0 : 0 ≤ pick) (hp1 : pick ≤ 255) (hcs : CameS w a0 len ss) :
    Calls Yba.prog 3 #[.slice a0 len cap, .string s, .int .u8 pick] w fun e w' => e = .returned (.bool true) ∧ Below w.heap.size w w' := by
  by_cases hpk : pick % 2 = 1
  · rcases Nat.eq_zero_or_pos len with h0 | h0
    · exact law_empty a0 len cap ss s pick w h hp0 hp1 hcs hpk h0
    · exact law_picked a0 len cap ss s pick w h hp0 hp1 hcs hpk h0
  · exact law_even a0 len cap ss s pick w h hp0 hp1 hcs hpk
end Go.Proofs.Ybulkccty
