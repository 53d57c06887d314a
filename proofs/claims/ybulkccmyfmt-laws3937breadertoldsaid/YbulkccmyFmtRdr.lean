/-
  Seat b3937aF. The walks of LawS3937BReader (3).
-/
import Derived.Test.YbulkccmyFmtCrcR
namespace Go.Proofs.YbulkccmyFmt
open Go.RowKit

set_option maxHeartbeats 1600000 in
set_option maxRecDepth 100000 in
theorem want_any (a0 : Option Addr) (len cap : Nat) (z : List Int) (pos : Int) (w : World) (hl : len ≤ 4096) (h0 : 0 ≤ pos) (h1 : pos ≤ 8000000000) (hcm : Hid (Came w a0 len z)) :
    Calls Ybaf.prog 6 #[.slice a0 len cap, .int .i64 pos] w fun e w' => e = .returned (.int .u32 (wordAt z pos)) ∧ w' = w := by
  have HOCT : Hid (∀ i, 0 ≤ byteAt z i ∧ byteAt z i ≤ 255) := fun i => byteAt_oct hcm.out.oct i
  have B0 : Hid (∀ w1, w1 = w → Calls Ybaf.prog 7 #[.slice a0 len cap, .int .i64 pos] w1 fun e w' => e = .returned (.int .u8 (byteAt z pos)) ∧ w' = w) := fun w1 e1 => by subst e1; exact bbyte_any a0 len cap z pos _ hl (by omega) (by omega) hcm
  have B1 : Hid (∀ w1, w1 = w → Calls Ybaf.prog 7 #[.slice a0 len cap, .int .i64 (pos + 1)] w1 fun e w' => e = .returned (.int .u8 (byteAt z (pos + 1))) ∧ w' = w) := fun w1 e1 => by subst e1; exact bbyte_any a0 len cap z (pos + 1) _ hl (by omega) (by omega) hcm
  have B2 : Hid (∀ w1, w1 = w → Calls Ybaf.prog 7 #[.slice a0 len cap, .int .i64 (pos + 2)] w1 fun e w' => e = .returned (.int .u8 (byteAt z (pos + 2))) ∧ w' = w) := fun w1 e1 => by subst e1; exact bbyte_any a0 len cap z (pos + 2) _ hl (by omega) (by omega) hcm
  have B3 : Hid (∀ w1, w1 = w → Calls Ybaf.prog 7 #[.slice a0 len cap, .int .i64 (pos + 3)] w1 fun e w' => e = .returned (.int .u8 (byteAt z (pos + 3))) ∧ w' = w) := fun w1 e1 => by subst e1; exact bbyte_any a0 len cap z (pos + 3) _ hl (by omega) (by omega) hcm
  obtain ⟨b0, hb0⟩ : ∃ b, b = byteAt z pos := ⟨_, rfl⟩
  obtain ⟨b1, hb1⟩ : ∃ b, b = byteAt z (pos + 1) := ⟨_, rfl⟩
  obtain ⟨b2, hb2⟩ : ∃ b, b = byteAt z (pos + 2) := ⟨_, rfl⟩
  obtain ⟨b3, hb3⟩ : ∃ b, b = byteAt z (pos + 3) := ⟨_, rfl⟩
  have o0 := HOCT.out pos
  have o1 := HOCT.out (pos + 1)
  have o2 := HOCT.out (pos + 2)
  have o3 := HOCT.out (pos + 3)
  have HW : Hid (wordAt z pos = b0 * 16777216 + b1 * 65536 + b2 * 256 + b3) := by rw [hb0, hb1, hb2, hb3]; rfl
  rw [← hb0] at B0 o0
  rw [← hb1] at B1 o1
  rw [← hb2] at B2 o2
  rw [← hb3] at B3 o3
  clear hb0 hb1 hb2 hb3 hcm HOCT
  obtain ⟨o0, o0'⟩ := o0
  obtain ⟨o1, o1'⟩ := o1
  obtain ⟨o2, o2'⟩ := o2
  obtain ⟨o3, o3'⟩ := o3
  have HDN : Hid (bits .or .u32 (bits .or .u32 (bits .or .u32 (b0 * 16777216) (b1 * 65536)) (b2 * 256)) b3 = b0 * 16777216 + b1 * 65536 + b2 * 256 + b3) := be_down o0 o0' o1 o1' o2 o2' o3 o3'
  go_enter Ybaf.func6, Ybaf.ntmps6
  go_wp2_with fail
  refine (B0.out _ rfl).mono ?_
  rintro e w' ⟨rfl, rfl⟩
  go_wp2_with fail
  refine (B1.out _ rfl).mono ?_
  rintro e w' ⟨rfl, rfl⟩
  go_wp2_with fail
  refine (B2.out _ rfl).mono ?_
  rintro e w' ⟨rfl, rfl⟩
  go_wp2_with fail
  refine (B3.out _ rfl).mono ?_
  rintro e w' ⟨rfl, rfl⟩
  go_wp2
  go_ret
  refine ⟨?_, rfl⟩
  show Ending.returned (.int .u32 _) = _
  rw [HDN.out, HW.out]

theorem rdr_big (a0 : Option Addr) (len cap : Nat) (c k : Int) (wide fail : Bool) (w : World) (h : 4096 < len) :
    Calls Ybaf.prog 3 #[.slice a0 len cap, .int .u16 c, .bool wide, .int .u16 k, .bool fail] w fun e w' => e = .returned (.bool true) ∧ Below w.heap.size w w' := by
  have h1 : (4096 : Int) < (len : Int) := by omega
  go_enter Ybaf.func3, Ybaf.ntmps3
  go_wp2
  go_ret
  exact ⟨rfl, Below.refl _ _⟩

theorem build_rdr (r : Value) (sm : Int) (a : Addr) (hr : r = .iface 24 (.pointer (some a))) (w : World) : (Instr.build 34 #[(0, r), (3, .int .i64 2), (5, .int .i64 sm)]).run Ybaf.prog w = .ok (.agg (xfile r (.slice none 0 0) 0 sm 0)) w := by
  subst hr; kernel_rfl

theorem wpList_build_rdr {w : World} {ops : Array Oper} {rest : List Oper} {o : Oper} {ac : Act} {Q : Exit → Act → World → Prop} (hgd : o.guard = none) (x0 x5 : Operand)
    (ho : o.op = Op.build 34 #[(0, x0), (3, .const (.int .i64 2)), (5, x5)]) (a : Addr) (sm : Int) (h0 : ac.eval x0 = .iface 24 (.pointer (some a))) (h5 : ac.eval x5 = .int .i64 sm)
    (h : wpList Ybaf.prog ops Q rest (ac.put o.dst (.agg (xfile (.iface 24 (.pointer (some a))) (.slice none 0 0) 0 sm 0))) w) : wpList Ybaf.prog ops Q (o :: rest) ac w := by
  refine wpList_plain hgd fun K hK => ?_
  have hr := build_rdr _ sm a rfl w
  have h3 : ac.eval (.const (.int .i64 2)) = .int .i64 2 := rfl
  unfold Oper.wp execOp
  simp only [ho, List.map_toArray, List.map_cons, List.map_nil, h0, h3, h5, Sem.run_bind, hr, Result.andThen_ok, Sem.run_pure]
  exact hK _ _ h

theorem rdr_new (w : World) (d : Value) (fail : Bool) : Rdr w.heap.size d fail 0 0 0 (w.alloc (.cells #[d, .bool fail, .int .i64 0, .int .i64 0, .int .i64 0] 26)) := heap_alloc_new w _

/-- The world behind the law's two builds. -/
def madeR (w : World) (d : Value) (fail : Bool) (s c : Int) : World :=
  (w.alloc (.cells #[d, .bool fail, .int .i64 0, .int .i64 0, .int .i64 0] 26)).alloc (.cells (xfile (.iface 24 (.pointer (some ⟨w.heap.size, 0, none⟩))) (.slice none 0 0) 0 s c) 34)

theorem madeR_rdr (w : World) (d : Value) (fail : Bool) (s c : Int) : Hid (Rdr w.heap.size d fail 0 0 0 (madeR w d fail s c)) := (rdr_new w d fail).alloc _
theorem madeR_cell (w : World) (d : Value) (fail : Bool) (s c : Int) (j : Nat) : (madeR w d fail s c).cell? ⟨w.heap.size + 1, j, none⟩ = (xfile (.iface 24 (.pointer (some ⟨w.heap.size, 0, none⟩))) (.slice none 0 0) 0 s c)[j]? := by
  have h := madeX_cell (w.alloc (.cells #[d, .bool fail, .int .i64 0, .int .i64 0, .int .i64 0] 26)) (xfile (.iface 24 (.pointer (some ⟨w.heap.size, 0, none⟩))) (.slice none 0 0) 0 s c) j
  have hs : (w.alloc (.cells #[d, .bool fail, .int .i64 0, .int .i64 0, .int .i64 0] 26)).heap.size = w.heap.size + 1 := by simp
  rw [hs] at h
  exact h
theorem madeR_below (w : World) (d : Value) (fail : Bool) (s c : Int) : Below w.heap.size w (madeR w d fail s c) := ((Below.refl _ _).alloc (Nat.le_refl _) _).alloc (by simp) _

set_option maxHeartbeats 1600000 in
set_option maxRecDepth 100000 in
theorem rdr_slim_fail (a0 : Option Addr) (len cap : Nat) (z : List Int) (c k : Int) (w : World) (h : len ≤ 4096) (hc0 : 0 ≤ c) (hc1 : c ≤ 65535) (hk0 : 0 ≤ k) (hk1 : k ≤ 65535)
    (_hcm : Hid (Came w a0 len z)) :
    Calls Ybaf.prog 3 #[.slice a0 len cap, .int .u16 c, .bool false, .int .u16 k, .bool true] w fun e w' => e = .returned (.bool true) ∧ Below w.heap.size w w' := by
  have h1 : ¬ (4096 : Int) < (len : Int) := by omega
  have x261 := xfile_261 (.iface 24 (.pointer (some ⟨w.heap.size, 0, none⟩))) (.slice none 0 0) 0 20 0
  have xset := fun v => xfile_set (.iface 24 (.pointer (some ⟨w.heap.size, 0, none⟩))) (.slice none 0 0) 0 20 0 v
  go_enter Ybaf.func3, Ybaf.ntmps3
  go_wp2_with (refine wpList_build_rdr rfl (.tmp 26) (.tmp 27) rfl ⟨w.heap.size, 0, none⟩ 20 rfl rfl ?_)
  clear x261 xset
  refine (crc_fail w.heap.size (w.heap.size + 1) w.heap.size (.slice a0 len cap) c 20 k (madeR w (.slice a0 len cap) true 20 c) (madeR_rdr _ _ _ _ _) (Nat.le_refl _) (.inl rfl) hc0 hc1 hk0 hk1 ((madeR_cell _ _ _ _ _ _).trans (xfile_0 _ _ _ _ _)) ((madeR_cell _ _ _ _ _ _).trans (xfile_1 _ _ _ _ _)) ((madeR_cell _ _ _ _ _ _).trans (xfile_5 _ _ _ _ _)) ((madeR_cell _ _ _ _ _ _).trans (xfile_261 _ _ _ _ _))).mono ?_
  rintro e w1 ⟨p, rfl, hR, hb⟩
  have hbw : Below w.heap.size w w1 := (madeR_below _ _ _ _ _).trans hb
  have c2 := hR.c2
  have c3 := hR.c3
  have c4 := hR.c4
  clear hR hb
  go_wp2
  go_ret
  exact ⟨rfl, hbw⟩

set_option maxHeartbeats 1600000 in
set_option maxRecDepth 100000 in
theorem rdr_slim_ok (a0 : Option Addr) (len cap : Nat) (z : List Int) (c k : Int) (w : World) (h : len ≤ 4096) (hc0 : 0 ≤ c) (hc1 : c ≤ 65535) (hk0 : 0 ≤ k) (hk1 : k ≤ 65535)
    (hcm : Hid (Came w a0 len z)) :
    Calls Ybaf.prog 3 #[.slice a0 len cap, .int .u16 c, .bool false, .int .u16 k, .bool false] w fun e w' => e = .returned (.bool true) ∧ Below w.heap.size w w' := by
  have h1 : ¬ (4096 : Int) < (len : Int) := by omega
  have x261 := xfile_261 (.iface 24 (.pointer (some ⟨w.heap.size, 0, none⟩))) (.slice none 0 0) 0 20 0
  have xset := fun v => xfile_set (.iface 24 (.pointer (some ⟨w.heap.size, 0, none⟩))) (.slice none 0 0) 0 20 0 v
  go_enter Ybaf.func3, Ybaf.ntmps3
  go_wp2_with (refine wpList_build_rdr rfl (.tmp 26) (.tmp 27) rfl ⟨w.heap.size, 0, none⟩ 20 rfl rfl ?_)
  clear x261 xset
  refine (crc_ok w.heap.size (w.heap.size + 1) w.heap.size len cap a0 z c 20 k (madeR w (.slice a0 len cap) false 20 c) (madeR_rdr _ _ _ _ _) (Nat.le_refl _) (.inl rfl) hc0 hc1 hk0 hk1 h (fun w' hb' => came_later hcm.out ((madeR_below _ _ _ _ _).trans hb')) ((madeR_cell _ _ _ _ _ _).trans (xfile_0 _ _ _ _ _)) ((madeR_cell _ _ _ _ _ _).trans (xfile_1 _ _ _ _ _)) ((madeR_cell _ _ _ _ _ _).trans (xfile_5 _ _ _ _ _)) ((madeR_cell _ _ _ _ _ _).trans (xfile_261 _ _ _ _ _))).mono ?_
  rintro e w1 ⟨rfl, hR, hb⟩
  have hbw : Below w.heap.size w w1 := (madeR_below _ _ _ _ _).trans hb
  have c2 := hR.c2
  have c3 := hR.c3
  have c4 := hR.c4
  have HC1 : Hid (Came w1 a0 len z) := came_later hcm.out hbw
  clear hR hb hcm
  go_wp2_with (go_at_call 6; refine (want_any a0 len cap z (1032 + c * 20 + 4 * k) w1 h (by omega) (by omega) HC1).mono ?_; rintro e w' ⟨rfl, rfl⟩)
  go_ret
  exact ⟨rfl, hbw⟩

set_option maxHeartbeats 1600000 in
set_option maxRecDepth 100000 in
theorem rdr_wide_fail (a0 : Option Addr) (len cap : Nat) (z : List Int) (c k : Int) (w : World) (h : len ≤ 4096) (hc0 : 0 ≤ c) (hc1 : c ≤ 65535) (hk0 : 0 ≤ k) (hk1 : k ≤ 65535)
    (_hcm : Hid (Came w a0 len z)) :
    Calls Ybaf.prog 3 #[.slice a0 len cap, .int .u16 c, .bool true, .int .u16 k, .bool true] w fun e w' => e = .returned (.bool true) ∧ Below w.heap.size w w' := by
  have h1 : ¬ (4096 : Int) < (len : Int) := by omega
  have x261 := xfile_261 (.iface 24 (.pointer (some ⟨w.heap.size, 0, none⟩))) (.slice none 0 0) 0 32 0
  have xset := fun v => xfile_set (.iface 24 (.pointer (some ⟨w.heap.size, 0, none⟩))) (.slice none 0 0) 0 32 0 v
  go_enter Ybaf.func3, Ybaf.ntmps3
  go_wp2_with (refine wpList_build_rdr rfl (.tmp 26) (.tmp 27) rfl ⟨w.heap.size, 0, none⟩ 32 rfl rfl ?_)
  clear x261 xset
  refine (crc_fail w.heap.size (w.heap.size + 1) w.heap.size (.slice a0 len cap) c 32 k (madeR w (.slice a0 len cap) true 32 c) (madeR_rdr _ _ _ _ _) (Nat.le_refl _) (.inr rfl) hc0 hc1 hk0 hk1 ((madeR_cell _ _ _ _ _ _).trans (xfile_0 _ _ _ _ _)) ((madeR_cell _ _ _ _ _ _).trans (xfile_1 _ _ _ _ _)) ((madeR_cell _ _ _ _ _ _).trans (xfile_5 _ _ _ _ _)) ((madeR_cell _ _ _ _ _ _).trans (xfile_261 _ _ _ _ _))).mono ?_
  rintro e w1 ⟨p, rfl, hR, hb⟩
  have hbw : Below w.heap.size w w1 := (madeR_below _ _ _ _ _).trans hb
  have c2 := hR.c2
  have c3 := hR.c3
  have c4 := hR.c4
  clear hR hb
  go_wp2
  go_ret
  exact ⟨rfl, hbw⟩

set_option maxHeartbeats 1600000 in
set_option maxRecDepth 100000 in
theorem rdr_wide_ok (a0 : Option Addr) (len cap : Nat) (z : List Int) (c k : Int) (w : World) (h : len ≤ 4096) (hc0 : 0 ≤ c) (hc1 : c ≤ 65535) (hk0 : 0 ≤ k) (hk1 : k ≤ 65535)
    (hcm : Hid (Came w a0 len z)) :
    Calls Ybaf.prog 3 #[.slice a0 len cap, .int .u16 c, .bool true, .int .u16 k, .bool false] w fun e w' => e = .returned (.bool true) ∧ Below w.heap.size w w' := by
  have h1 : ¬ (4096 : Int) < (len : Int) := by omega
  have x261 := xfile_261 (.iface 24 (.pointer (some ⟨w.heap.size, 0, none⟩))) (.slice none 0 0) 0 32 0
  have xset := fun v => xfile_set (.iface 24 (.pointer (some ⟨w.heap.size, 0, none⟩))) (.slice none 0 0) 0 32 0 v
  go_enter Ybaf.func3, Ybaf.ntmps3
  go_wp2_with (refine wpList_build_rdr rfl (.tmp 26) (.tmp 27) rfl ⟨w.heap.size, 0, none⟩ 32 rfl rfl ?_)
  clear x261 xset
  refine (crc_ok w.heap.size (w.heap.size + 1) w.heap.size len cap a0 z c 32 k (madeR w (.slice a0 len cap) false 32 c) (madeR_rdr _ _ _ _ _) (Nat.le_refl _) (.inr rfl) hc0 hc1 hk0 hk1 h (fun w' hb' => came_later hcm.out ((madeR_below _ _ _ _ _).trans hb')) ((madeR_cell _ _ _ _ _ _).trans (xfile_0 _ _ _ _ _)) ((madeR_cell _ _ _ _ _ _).trans (xfile_1 _ _ _ _ _)) ((madeR_cell _ _ _ _ _ _).trans (xfile_5 _ _ _ _ _)) ((madeR_cell _ _ _ _ _ _).trans (xfile_261 _ _ _ _ _))).mono ?_
  rintro e w1 ⟨rfl, hR, hb⟩
  have hbw : Below w.heap.size w w1 := (madeR_below _ _ _ _ _).trans hb
  have c2 := hR.c2
  have c3 := hR.c3
  have c4 := hR.c4
  have HC1 : Hid (Came w1 a0 len z) := came_later hcm.out hbw
  clear hR hb hcm
  go_wp2_with (go_at_call 6; refine (want_any a0 len cap z (1032 + c * 32 + 4 * k) w1 h (by omega) (by omega) HC1).mono ?_; rintro e w' ⟨rfl, rfl⟩)
  go_ret
  exact ⟨rfl, hbw⟩

theorem rdr_walk (a0 : Option Addr) (len cap : Nat) (z : List Int) (c k : Int) (wide fail : Bool) (w : World) (h : len ≤ 4096) (hc0 : 0 ≤ c) (hc1 : c ≤ 65535) (hk0 : 0 ≤ k) (hk1 : k ≤ 65535)
    (hcm : Hid (Came w a0 len z)) :
    Calls Ybaf.prog 3 #[.slice a0 len cap, .int .u16 c, .bool wide, .int .u16 k, .bool fail] w fun e w' => e = .returned (.bool true) ∧ Below w.heap.size w w' := by
  cases wide <;> cases fail
  · exact rdr_slim_ok a0 len cap z c k w h hc0 hc1 hk0 hk1 hcm
  · exact rdr_slim_fail a0 len cap z c k w h hc0 hc1 hk0 hk1 hcm
  · exact rdr_wide_ok a0 len cap z c k w h hc0 hc1 hk0 hk1 hcm
  · exact rdr_wide_fail a0 len cap z c k w h hc0 hc1 hk0 hk1 hcm
end Go.Proofs.YbulkccmyFmt
