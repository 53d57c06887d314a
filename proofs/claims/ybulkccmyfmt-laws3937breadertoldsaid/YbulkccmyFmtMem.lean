/-
  Seat b3937aF. The walks of LawS3937BMemory (4).
-/
import Derived.Test.YbulkccmyFmtCrc
namespace Go.Proofs.YbulkccmyFmt
open Go.RowKit

theorem Ybaf.info5 : (Ybaf.prog.info? 5).map (fun i => (i.zero, i.size, i.bytes)) = some (some (.int .u8 0), 1, 1) := by kernel_rfl

theorem mem_big (a0 : Option Addr) (len cap : Nat) (c k ex : Int) (wide : Bool) (w : World) (h : 4096 < len) :
    Calls Ybaf.prog 4 #[.slice a0 len cap, .int .u8 c, .bool wide, .int .u8 k, .int .u8 ex] w fun e w' => e = .returned (.bool true) ∧ Below w.heap.size w w' := by
  have h1 : (4096 : Int) < (len : Int) := by omega
  go_enter Ybaf.func4, Ybaf.ntmps4
  go_wp2
  go_ret
  exact ⟨rfl, Below.refl _ _⟩

/-- The bytes of the made file: those below m are laid. -/
def Filled (z : List Int) (n m : Nat) (L : List Value) : Prop := L.length = n ∧ ∀ j, j < m → L[j]? = some (.int .u8 (byteAt z ((j : Int) * 3 + 1)))

theorem filled_step {z : List Int} {n m : Nat} {L : List Value} (h : Filled z n m L) (hm : m < n) : Filled z n (m + 1) (L.set m (.int .u8 (byteAt z ((m : Int) * 3 + 1)))) := by
  refine ⟨by simpa using h.1, fun j hj => ?_⟩
  have hl := h.1
  by_cases e : j = m
  · subst e
    rw [List.getElem?_set_self (by omega)]
  · rw [List.getElem?_set_ne (fun e' => e e'.symm)]
    exact h.2 j (by omega)

/-- The cells of an indexFile of version 2: its reader, its bytes, its size, its sums' width; c in the fan-out's last place. -/
def xfile (r mem : Value) (sz sm c : Int) : Array Value :=
  #[r, mem, .int .i64 sz, .int .i64 2, .int .u8 0, .int .i64 sm] ++ (Array.replicate 255 (.int .u32 0) ++ #[.int .u32 c, .int .i64 0, .slice none 0 0])

theorem xfile_0 (r mem : Value) (sz sm c : Int) : (xfile r mem sz sm c)[0]? = some r := by unfold xfile; rw [Array.getElem?_append_left (by simp)]; rfl
theorem xfile_1 (r mem : Value) (sz sm c : Int) : (xfile r mem sz sm c)[1]? = some mem := by unfold xfile; rw [Array.getElem?_append_left (by simp)]; rfl
theorem xfile_5 (r mem : Value) (sz sm c : Int) : (xfile r mem sz sm c)[5]? = some (.int .i64 sm) := by unfold xfile; rw [Array.getElem?_append_left (by simp)]; rfl
theorem xfile_261 (r mem : Value) (sz sm c : Int) : (xfile r mem sz sm c)[261]? = some (.int .u32 c) := by
  unfold xfile; rw [Array.getElem?_append_right (by simp), Array.getElem?_append_right (by simp)]; simp
theorem xfile_set (r mem : Value) (sz sm c c' : Int) : (xfile r mem sz sm c).setIfInBounds 261 (.int .u32 c') = xfile r mem sz sm c' := by
  unfold xfile
  rw [Array.setIfInBounds_append_right (by simp), Array.setIfInBounds_append_right (by simp)]
  simp

theorem build_mem (a : Option Addr) (n c : Nat) (sz sm : Int) (w : World) : (Instr.build 34 #[(1, .slice a n c), (2, .int .i64 sz), (3, .int .i64 2), (5, .int .i64 sm)]).run Ybaf.prog w = .ok (.agg (xfile .nilIface (.slice a n c) sz sm 0)) w := by kernel_rfl

theorem wpList_build_mem {w : World} {ops : Array Oper} {rest : List Oper} {o : Oper} {ac : Act} {Q : Exit → Act → World → Prop} (hgd : o.guard = none) (x1 x2 x5 : Operand)
    (ho : o.op = Op.build 34 #[(1, x1), (2, x2), (3, .const (.int .i64 2)), (5, x5)]) (a : Option Addr) (n c : Nat) (sz sm : Int) (h1 : ac.eval x1 = .slice a n c) (h2 : ac.eval x2 = .int .i64 sz) (h5 : ac.eval x5 = .int .i64 sm)
    (h : wpList Ybaf.prog ops Q rest (ac.put o.dst (.agg (xfile .nilIface (.slice a n c) sz sm 0))) w) : wpList Ybaf.prog ops Q (o :: rest) ac w := by
  refine wpList_plain hgd fun K hK => ?_
  have hr := build_mem a n c sz sm w
  have h3 : ac.eval (.const (.int .i64 2)) = .int .i64 2 := rfl
  unfold Oper.wp execOp
  simp only [ho, List.map_toArray, List.map_cons, List.map_nil, h1, h2, h3, h5, Sem.run_bind, hr, Result.andThen_ok, Sem.run_pure]
  exact hK _ _ h

/-- The world behind '&indexFile{..}' and the fan-out's last count. -/
def madeX (w : World) (X : Array Value) : World := w.alloc (.cells X 34)
theorem madeX_cell (w : World) (X : Array Value) (j : Nat) : (madeX w X).cell? ⟨w.heap.size, j, none⟩ = X[j]? := cell_of_row _ _ _ _ _ (0, 0) (heap_alloc_new w _)

theorem filled_cell {w : World} {base g n : Nat} {z : List Int} {L : List Value} (hO : w.ownsRow base 5 1 (.slice (some ⟨g, 0, none⟩) n n) n L) (hF : Filled z n n L) (j : Nat) (hj : j < n) : w.cell? ⟨g, j, none⟩ = some (.int .u8 (byteAt z ((j : Int) * 3 + 1))) := by
  rw [hO.cellAt j (by omega)]; exact hF.2 j hj

theorem came_drewN {w : World} {a0 : Option Addr} {len : Nat} {z : List Int} (h : Came w a0 len z) (n : Nat) : Hid (Came (w.drewN n) a0 len z) := Came.mk h.zlen h.oct h.at'

set_option maxHeartbeats 1600000 in
set_option maxRecDepth 100000 in
theorem mem_walk (a0 : Option Addr) (len cap : Nat) (z : List Int) (c k ex : Int) (s : Int) (wide : Bool) (hw : (wide = false ∧ s = 20) ∨ (wide = true ∧ s = 32)) (w : World) (h : len ≤ 4096) (hc0 : 0 ≤ c) (hc1 : c ≤ 255) (hk0 : 0 ≤ k) (hk1 : k ≤ 255) (hx0 : 0 ≤ ex) (hx1 : ex ≤ 255)
    (hcm : Hid (Came w a0 len z)) :
    Calls Ybaf.prog 4 #[.slice a0 len cap, .int .u8 c, .bool wide, .int .u8 k, .int .u8 ex] w fun e w' => e = .returned (.bool true) ∧ Below w.heap.size w w' := by
  have h1 : ¬ (4096 : Int) < (len : Int) := by omega
  obtain ⟨i0, hi, hz0, hz1, hz2⟩ := info_parts Ybaf.info5
  have hs : 20 ≤ s ∧ s ≤ 32 := by omega
  obtain ⟨pos, hpos⟩ : ∃ pos : Nat, (pos : Int) = 1032 + c * s + 4 * k := ⟨(1032 + c * s + 4 * k).toNat, by rcases hw with ⟨_, rfl⟩ | ⟨_, rfl⟩ <;> omega⟩
  have hpb : pos ≤ 20000 := by rcases hw with ⟨_, rfl⟩ | ⟨_, rfl⟩ <;> omega
  obtain ⟨n, hn⟩ : ∃ n : Nat, (n : Int) = 1032 + c * s + 4 * k + 4 + ex % 8 := ⟨(1032 + c * s + 4 * k + 4 + ex % 8).toNat, by rcases hw with ⟨_, rfl⟩ | ⟨_, rfl⟩ <;> omega⟩
  have hnb : n ≤ 30000 := by rcases hw with ⟨_, rfl⟩ | ⟨_, rfl⟩ <;> omega
  have hpn : pos + 4 ≤ n := by omega
  have HP : Hid ((pos : Int) = 1032 + c * s + 4 * k) := hpos
  have HN : Hid ((n : Int) = 1032 + c * s + 4 * k + 4 + ex % 8) := hn
  clear hpos hn hs
  rcases hw with ⟨rfl, rfl⟩ | ⟨rfl, rfl⟩
  · go_enter Ybaf.func4, Ybaf.ntmps4
    go_wp2_with (at_make; refine wpList_make_full _ rfl _ _ 22 rfl w.heap.size 5 i0 (.int .u8 0) 1 Ybaf.underlying22 hi hz0 hz1 .i64 .i64 _ _ n rfl rfl (by rw [HN.out]) (by rw [HN.out]) (by rw [hz2]; omega) (by unfold maxLen; omega) (by omega) ?_)
    intro w1 hown1 hgrow1
    have hb1 : Below w.heap.size w w1 := (Below.refl _ _).grown hgrow1 (Nat.le_refl _) (fun k hk => by cases hk)
    have hL1 := hown1.1
    obtain ⟨L1, hL⟩ : ∃ L1 : List Value, Hid (w1.ownsRow w.heap.size 5 1 (.slice (some ⟨w.heap.size, 0, none⟩) n n) n L1) ∧ Hid (Filled z n 0 L1) := ⟨_, hown1, by have := hown1.1; omega, fun j hj => by omega⟩
    obtain ⟨HO1, HF1⟩ := hL
    clear hown1 hgrow1 hL1
    go_wp2
    go_loopw [44] (fun i wr => ∃ (m : Nat) (L : List Value), m ≤ n ∧ i = .int .i64 m ∧ Hid (Filled z n m L) ∧ Hid (wr.ownsRow w.heap.size 5 1 (.slice (some ⟨w.heap.size, 0, none⟩) n n) n L) ∧ Below w.heap.size w wr) (fun i _ => n - (intOf i).toNat)
    case atStart => exact ⟨0, L1, by omega, rfl, HF1, HO1, hb1⟩
    case round =>
      clear HF1 HO1 hb1
      obtain ⟨m, L, hm, rfl, hF, hO, hb⟩ := hrel
      by_cases hlt : m < n
      · have hLm : ∃ u, wr.cell? ⟨w.heap.size, m, none⟩ = some u := by
          have hl := hF.out.1
          rw [hO.out.cellAt m (by omega)]
          exact ⟨L[m], List.getElem?_eq_getElem (by omega)⟩
        obtain ⟨u, hu⟩ := hLm
        have hfz := hO.out.frozenAt m
        have hcw : Hid (Came wr a0 len z) := came_later hcm.out hb
        go_wp2_with (go_at_call 7; refine (bbyte_any a0 len cap z _ _ h (by omega) (by omega) hcw).mono ?_; rintro e w' ⟨rfl, rfl⟩)
        have hst := hO.out.stored m (.int .u8 (byteAt z ((m : Int) * 3 + 1)))
        go_roundw
        case rel => exact ⟨m + 1, _, by omega, by go_num, filled_step hF.out hlt, hst.1, hb.setCell (p := ⟨w.heap.size, m, none⟩) (Nat.le_refl _) _⟩
        case measure => simp [intOf]; omega
      · obtain rfl : m = n := by omega
        have hsz := hb.size
        have x261 := xfile_261 .nilIface (.slice (some ⟨w.heap.size, 0, none⟩) m m) (1032 + c * 20 + 4 * k + 4 + ex % 8) 20 0
        have xset := fun v => xfile_set .nilIface (.slice (some ⟨w.heap.size, 0, none⟩) m m) (1032 + c * 20 + 4 * k + 4 + ex % 8) 20 0 v
        go_wp2_with (refine wpList_build_mem rfl (.tmp 56) (.tmp 57) (.tmp 58) rfl (some ⟨w.heap.size, 0, none⟩) m m (1032 + c * 20 + 4 * k + 4 + ex % 8) 20 rfl rfl rfl ?_)
        clear x261 xset
        obtain ⟨X, hX⟩ : ∃ X, X = xfile .nilIface (.slice (some ⟨w.heap.size, 0, none⟩) m m) (1032 + c * 20 + 4 * k + 4 + ex % 8) 20 c := ⟨_, rfl⟩
        have hbX : Below w.heap.size w (madeX wr X) := hb.alloc hsz _
        have HM : Hid (∀ j, j < m → (madeX wr X).cell? ⟨w.heap.size, j, none⟩ = some (.int .u8 (byteAt z ((j : Int) * 3 + 1)))) := fun j hj => filled_cell (hO.out.alloc _) hF.out j hj
        have hgs : w.heap.size < wr.heap.size := (hO.out.lt _ rfl).2
        have hsX : (madeX wr X).heap.size = wr.heap.size + 1 := by simp [madeX]
        have q1 : (madeX wr X).cell? ⟨wr.heap.size, 1, none⟩ = some (.slice (some ⟨w.heap.size, 0, none⟩) m m) := by rw [madeX_cell, hX]; exact xfile_1 _ _ _ _ _
        have q5 : (madeX wr X).cell? ⟨wr.heap.size, 5, none⟩ = some (.int .i64 20) := by rw [madeX_cell, hX]; exact xfile_5 _ _ _ _ _
        have q261 : (madeX wr X).cell? ⟨wr.heap.size, 261, none⟩ = some (.int .u32 c) := by rw [madeX_cell, hX]; exact xfile_261 _ _ _ _ _
        rw [← hX]
        refine (crc_mem wr.heap.size w.heap.size m c 20 k pos _ _ _ _ (madeX wr X) (by omega) hpn HP.out hc0 hc1 hk0 hk1 (.inl rfl) (byteAt_oct hcm.out.oct _) (byteAt_oct hcm.out.oct _) (byteAt_oct hcm.out.oct _) (byteAt_oct hcm.out.oct _) q1 q5 q261 (HM.out pos (by omega)) (HM.out (pos + 1) (by omega)) (HM.out (pos + 2) (by omega)) (HM.out (pos + 3) (by omega))).mono ?_
        rintro e w3 ⟨rfl, hb3⟩
        have HM3 : Hid (∀ j, j < m → w3.cell? ⟨w.heap.size, j, none⟩ = some (.int .u8 (byteAt z ((j : Int) * 3 + 1)))) := fun j hj => (hb3.cell (p := ⟨w.heap.size, j, none⟩) (by show w.heap.size < _; omega)).trans (HM.out j hj)
        have hbw3 : Below w.heap.size w w3 := hbX.trans (hb3.mono (by omega))
        have HC3 : Hid (Came w3 a0 len z) := came_later hcm.out hbw3
        rw [← HP.out]
        have HOCT : Hid (∀ i, 0 ≤ byteAt z i ∧ byteAt z i ≤ 255) := fun i => byteAt_oct hcm.out.oct i
        clear hX hbX HM hsX q1 q5 q261 hb3 hF hO hb hcm
        go_wp2
        go_loopw [78] (fun i wq => ∃ j : Nat, j ≤ m ∧ i = .int .i64 j ∧ Hid (∃ q, wq = w3.drewN q)) (fun i _ => m - (intOf i).toNat)
        case atStart => exact ⟨0, by omega, rfl, 0, rfl⟩
        case round =>
          obtain ⟨j, hj, rfl, hwq⟩ := hrel
          have HM4 : Hid (∀ j, j < m → wr.cell? ⟨w.heap.size, j, none⟩ = some (.int .u8 (byteAt z ((j : Int) * 3 + 1)))) := by
            obtain ⟨q, hq⟩ := hwq.out
            rw [hq]; exact HM3
          have HC4 : Hid (Came wr a0 len z) := by
            obtain ⟨q, hq⟩ := hwq.out
            rw [hq]; exact came_drewN HC3.out q
          have hbw4 : Below w.heap.size w wr := by
            obtain ⟨q, hq⟩ := hwq.out
            rw [hq]; exact below_drewN hbw3 q
          by_cases hjm : j < m
          · have cj := HM4.out j hjm
            go_wp2
            go_quiet ((go_at_call 7; exact Calls.quiet_of_same (bbyte_any a0 len cap z ((j : Int) * 3 + 1) _ h (by omega) (by omega) (came_drewN HC4.out _))))
            go_wp2
            go_roundw
            case rel => exact ⟨j + 1, by omega, by go_num, by obtain ⟨q, hq⟩ := hwq.out; exact ⟨q + nq, by rw [hq]; simp⟩⟩
            case measure => simp [intOf]; omega
          · have d0 := HM4.out pos (by omega)
            have d1 := HM4.out (pos + 1) (by omega)
            rw [show ((pos + 1 : Nat) : Int) = (pos : Int) + 1 from by omega] at d1
            have d2 := HM4.out (pos + 2) (by omega)
            rw [show ((pos + 2 : Nat) : Int) = (pos : Int) + 2 from by omega] at d2
            have d3 := HM4.out (pos + 3) (by omega)
            rw [show ((pos + 3 : Nat) : Int) = (pos : Int) + 3 from by omega] at d3
            obtain ⟨b0, hb0⟩ : ∃ b, b = byteAt z ((pos : Int) * 3 + 1) := ⟨_, rfl⟩
            obtain ⟨b1, hb1⟩ : ∃ b, b = byteAt z (((pos : Int) + 1) * 3 + 1) := ⟨_, rfl⟩
            obtain ⟨b2, hb2⟩ : ∃ b, b = byteAt z (((pos : Int) + 2) * 3 + 1) := ⟨_, rfl⟩
            obtain ⟨b3, hb3⟩ : ∃ b, b = byteAt z (((pos : Int) + 3) * 3 + 1) := ⟨_, rfl⟩
            have o0 := HOCT.out ((pos : Int) * 3 + 1)
            have o1 := HOCT.out (((pos : Int) + 1) * 3 + 1)
            have o2 := HOCT.out (((pos : Int) + 2) * 3 + 1)
            have o3 := HOCT.out (((pos : Int) + 3) * 3 + 1)
            rw [← hb0] at d0 o0 ⊢
            rw [← hb1] at d1 o1 ⊢
            rw [← hb2] at d2 o2 ⊢
            rw [← hb3] at d3 o3 ⊢
            clear hb0 hb1 hb2 hb3
            obtain ⟨o0, o0'⟩ := o0
            obtain ⟨o1, o1'⟩ := o1
            obtain ⟨o2, o2'⟩ := o2
            obtain ⟨o3, o3'⟩ := o3
            have hdn := be_down o0 o0' o1 o1' o2 o2' o3 o3'
            go_wp2
            go_quiet (fail)
            go_wp2
            go_ret
            exact ⟨rfl, below_drewN hbw4 _⟩
  · go_enter Ybaf.func4, Ybaf.ntmps4
    go_wp2_with (at_make; refine wpList_make_full _ rfl _ _ 22 rfl w.heap.size 5 i0 (.int .u8 0) 1 Ybaf.underlying22 hi hz0 hz1 .i64 .i64 _ _ n rfl rfl (by rw [HN.out]) (by rw [HN.out]) (by rw [hz2]; omega) (by unfold maxLen; omega) (by omega) ?_)
    intro w1 hown1 hgrow1
    have hb1 : Below w.heap.size w w1 := (Below.refl _ _).grown hgrow1 (Nat.le_refl _) (fun k hk => by cases hk)
    have hL1 := hown1.1
    obtain ⟨L1, hL⟩ : ∃ L1 : List Value, Hid (w1.ownsRow w.heap.size 5 1 (.slice (some ⟨w.heap.size, 0, none⟩) n n) n L1) ∧ Hid (Filled z n 0 L1) := ⟨_, hown1, by have := hown1.1; omega, fun j hj => by omega⟩
    obtain ⟨HO1, HF1⟩ := hL
    clear hown1 hgrow1 hL1
    go_wp2
    go_loopw [44] (fun i wr => ∃ (m : Nat) (L : List Value), m ≤ n ∧ i = .int .i64 m ∧ Hid (Filled z n m L) ∧ Hid (wr.ownsRow w.heap.size 5 1 (.slice (some ⟨w.heap.size, 0, none⟩) n n) n L) ∧ Below w.heap.size w wr) (fun i _ => n - (intOf i).toNat)
    case atStart => exact ⟨0, L1, by omega, rfl, HF1, HO1, hb1⟩
    case round =>
      clear HF1 HO1 hb1
      obtain ⟨m, L, hm, rfl, hF, hO, hb⟩ := hrel
      by_cases hlt : m < n
      · have hLm : ∃ u, wr.cell? ⟨w.heap.size, m, none⟩ = some u := by
          have hl := hF.out.1
          rw [hO.out.cellAt m (by omega)]
          exact ⟨L[m], List.getElem?_eq_getElem (by omega)⟩
        obtain ⟨u, hu⟩ := hLm
        have hfz := hO.out.frozenAt m
        have hcw : Hid (Came wr a0 len z) := came_later hcm.out hb
        go_wp2_with (go_at_call 7; refine (bbyte_any a0 len cap z _ _ h (by omega) (by omega) hcw).mono ?_; rintro e w' ⟨rfl, rfl⟩)
        have hst := hO.out.stored m (.int .u8 (byteAt z ((m : Int) * 3 + 1)))
        go_roundw
        case rel => exact ⟨m + 1, _, by omega, by go_num, filled_step hF.out hlt, hst.1, hb.setCell (p := ⟨w.heap.size, m, none⟩) (Nat.le_refl _) _⟩
        case measure => simp [intOf]; omega
      · obtain rfl : m = n := by omega
        have hsz := hb.size
        have x261 := xfile_261 .nilIface (.slice (some ⟨w.heap.size, 0, none⟩) m m) (1032 + c * 32 + 4 * k + 4 + ex % 8) 32 0
        have xset := fun v => xfile_set .nilIface (.slice (some ⟨w.heap.size, 0, none⟩) m m) (1032 + c * 32 + 4 * k + 4 + ex % 8) 32 0 v
        go_wp2_with (refine wpList_build_mem rfl (.tmp 56) (.tmp 57) (.tmp 58) rfl (some ⟨w.heap.size, 0, none⟩) m m (1032 + c * 32 + 4 * k + 4 + ex % 8) 32 rfl rfl rfl ?_)
        clear x261 xset
        obtain ⟨X, hX⟩ : ∃ X, X = xfile .nilIface (.slice (some ⟨w.heap.size, 0, none⟩) m m) (1032 + c * 32 + 4 * k + 4 + ex % 8) 32 c := ⟨_, rfl⟩
        have hbX : Below w.heap.size w (madeX wr X) := hb.alloc hsz _
        have HM : Hid (∀ j, j < m → (madeX wr X).cell? ⟨w.heap.size, j, none⟩ = some (.int .u8 (byteAt z ((j : Int) * 3 + 1)))) := fun j hj => filled_cell (hO.out.alloc _) hF.out j hj
        have hgs : w.heap.size < wr.heap.size := (hO.out.lt _ rfl).2
        have hsX : (madeX wr X).heap.size = wr.heap.size + 1 := by simp [madeX]
        have q1 : (madeX wr X).cell? ⟨wr.heap.size, 1, none⟩ = some (.slice (some ⟨w.heap.size, 0, none⟩) m m) := by rw [madeX_cell, hX]; exact xfile_1 _ _ _ _ _
        have q5 : (madeX wr X).cell? ⟨wr.heap.size, 5, none⟩ = some (.int .i64 32) := by rw [madeX_cell, hX]; exact xfile_5 _ _ _ _ _
        have q261 : (madeX wr X).cell? ⟨wr.heap.size, 261, none⟩ = some (.int .u32 c) := by rw [madeX_cell, hX]; exact xfile_261 _ _ _ _ _
        rw [← hX]
        refine (crc_mem wr.heap.size w.heap.size m c 32 k pos _ _ _ _ (madeX wr X) (by omega) hpn HP.out hc0 hc1 hk0 hk1 (.inr rfl) (byteAt_oct hcm.out.oct _) (byteAt_oct hcm.out.oct _) (byteAt_oct hcm.out.oct _) (byteAt_oct hcm.out.oct _) q1 q5 q261 (HM.out pos (by omega)) (HM.out (pos + 1) (by omega)) (HM.out (pos + 2) (by omega)) (HM.out (pos + 3) (by omega))).mono ?_
        rintro e w3 ⟨rfl, hb3⟩
        have HM3 : Hid (∀ j, j < m → w3.cell? ⟨w.heap.size, j, none⟩ = some (.int .u8 (byteAt z ((j : Int) * 3 + 1)))) := fun j hj => (hb3.cell (p := ⟨w.heap.size, j, none⟩) (by show w.heap.size < _; omega)).trans (HM.out j hj)
        have hbw3 : Below w.heap.size w w3 := hbX.trans (hb3.mono (by omega))
        have HC3 : Hid (Came w3 a0 len z) := came_later hcm.out hbw3
        rw [← HP.out]
        have HOCT : Hid (∀ i, 0 ≤ byteAt z i ∧ byteAt z i ≤ 255) := fun i => byteAt_oct hcm.out.oct i
        clear hX hbX HM hsX q1 q5 q261 hb3 hF hO hb hcm
        go_wp2
        go_loopw [78] (fun i wq => ∃ j : Nat, j ≤ m ∧ i = .int .i64 j ∧ Hid (∃ q, wq = w3.drewN q)) (fun i _ => m - (intOf i).toNat)
        case atStart => exact ⟨0, by omega, rfl, 0, rfl⟩
        case round =>
          obtain ⟨j, hj, rfl, hwq⟩ := hrel
          have HM4 : Hid (∀ j, j < m → wr.cell? ⟨w.heap.size, j, none⟩ = some (.int .u8 (byteAt z ((j : Int) * 3 + 1)))) := by
            obtain ⟨q, hq⟩ := hwq.out
            rw [hq]; exact HM3
          have HC4 : Hid (Came wr a0 len z) := by
            obtain ⟨q, hq⟩ := hwq.out
            rw [hq]; exact came_drewN HC3.out q
          have hbw4 : Below w.heap.size w wr := by
            obtain ⟨q, hq⟩ := hwq.out
            rw [hq]; exact below_drewN hbw3 q
          by_cases hjm : j < m
          · have cj := HM4.out j hjm
            go_wp2
            go_quiet ((go_at_call 7; exact Calls.quiet_of_same (bbyte_any a0 len cap z ((j : Int) * 3 + 1) _ h (by omega) (by omega) (came_drewN HC4.out _))))
            go_wp2
            go_roundw
            case rel => exact ⟨j + 1, by omega, by go_num, by obtain ⟨q, hq⟩ := hwq.out; exact ⟨q + nq, by rw [hq]; simp⟩⟩
            case measure => simp [intOf]; omega
          · have d0 := HM4.out pos (by omega)
            have d1 := HM4.out (pos + 1) (by omega)
            rw [show ((pos + 1 : Nat) : Int) = (pos : Int) + 1 from by omega] at d1
            have d2 := HM4.out (pos + 2) (by omega)
            rw [show ((pos + 2 : Nat) : Int) = (pos : Int) + 2 from by omega] at d2
            have d3 := HM4.out (pos + 3) (by omega)
            rw [show ((pos + 3 : Nat) : Int) = (pos : Int) + 3 from by omega] at d3
            obtain ⟨b0, hb0⟩ : ∃ b, b = byteAt z ((pos : Int) * 3 + 1) := ⟨_, rfl⟩
            obtain ⟨b1, hb1⟩ : ∃ b, b = byteAt z (((pos : Int) + 1) * 3 + 1) := ⟨_, rfl⟩
            obtain ⟨b2, hb2⟩ : ∃ b, b = byteAt z (((pos : Int) + 2) * 3 + 1) := ⟨_, rfl⟩
            obtain ⟨b3, hb3⟩ : ∃ b, b = byteAt z (((pos : Int) + 3) * 3 + 1) := ⟨_, rfl⟩
            have o0 := HOCT.out ((pos : Int) * 3 + 1)
            have o1 := HOCT.out (((pos : Int) + 1) * 3 + 1)
            have o2 := HOCT.out (((pos : Int) + 2) * 3 + 1)
            have o3 := HOCT.out (((pos : Int) + 3) * 3 + 1)
            rw [← hb0] at d0 o0 ⊢
            rw [← hb1] at d1 o1 ⊢
            rw [← hb2] at d2 o2 ⊢
            rw [← hb3] at d3 o3 ⊢
            clear hb0 hb1 hb2 hb3
            obtain ⟨o0, o0'⟩ := o0
            obtain ⟨o1, o1'⟩ := o1
            obtain ⟨o2, o2'⟩ := o2
            obtain ⟨o3, o3'⟩ := o3
            have hdn := be_down o0 o0' o1 o1' o2 o2' o3 o3'
            go_wp2
            go_quiet (fail)
            go_wp2
            go_ret
            exact ⟨rfl, below_drewN hbw4 _⟩
end Go.Proofs.YbulkccmyFmt
