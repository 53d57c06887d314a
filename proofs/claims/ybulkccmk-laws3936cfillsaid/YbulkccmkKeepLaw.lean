/-
  Seat b3936a. The walks of LawS3936CKeep (3).
-/
import Derived.Test.YbulkccmkKeep
import Derived.Laws.CopyOwn
namespace Go.Proofs.Ybulkccmk
open Go.RowKit Go.MuLone

theorem klaw_big (a0 : Option Addr) (len cap : Nat) (s : ByteArray) (w : World) (h : 1024 < len) :
    Calls Yba.prog 3 #[.slice a0 len cap, .string s] w fun e w' => e = .returned (.bool true) ∧ Below w.heap.size w w' := by
  have h1 : (1024 : Int) < (len : Int) := by omega
  go_enter Yba.func3, Yba.ntmps3
  go_wp2
  go_ret
  exact ⟨rfl, Below.refl _ _⟩

theorem row_whole {w : World} {base e : Nat} {g n : Nat} {xs : List Value} (h : w.ownsRow base e 1 (.slice (some ⟨g, 0, none⟩) n n) n xs) : w.heap[g]? = some (.cells xs.toArray e (0, 0)) := by
  rcases h.2 with ⟨h', _⟩ | ⟨g', cap', cur, h', _, hg, _, _, hcs, htake⟩
  · simp at h'
  · simp only [Value.slice.injEq, Option.some.injEq, Addr.mk.injEq, and_true, true_and] at h'
    obtain ⟨rfl, rfl⟩ := h'
    rw [hg, ← htake, List.take_of_length_le (by simp [hcs])]

theorem row_some {w : World} {base e : Nat} {g n : Nat} {xs : List Value} (h : w.ownsRow base e 1 (.slice (some ⟨g, 0, none⟩) n n) n xs) : ∃ M : List Value, w.heap[g]? = some (.cells M.toArray e (0, 0)) ∧ M.length = n :=
  ⟨xs, row_whole h, by have := h.1; omega⟩

theorem splice_whole {M X : List Value} (h : M.length = X.length) : splice M 0 X = X := by
  simp [splice, ← h]

theorem owns_of_whole {w : World} {base e g n : Nat} {X : List Value} (hb : base ≤ g) (hg : w.heap[g]? = some (.cells X.toArray e (0, 0))) (hX : X.length = n) (hn : n ≤ 1024) : w.ownsRow base e 1 (.slice (some ⟨g, 0, none⟩) n n) n X :=
  ⟨by omega, .inr ⟨g, n, X.toArray, rfl, hb, hg, Nat.le_refl _, by unfold maxLen; omega, by simp [hX], by rw [List.take_of_length_le (by simp; omega)]⟩⟩

/-- What a slice of strings that came in gives. -/
def CameS (w : World) (a0 : Option Addr) (len : Nat) (ss : List ByteArray) : Prop :=
  ss.length = len ∧ ∀ j, j < len → ∃ x, a0 = some x ∧ w.cell? (x.add j) = some (.string (ss.getD j ByteArray.empty))

theorem cameS_later {w w' : World} {a0 : Option Addr} {len : Nat} {ss : List ByteArray} (h : CameS w a0 len ss) (hb : Below w.heap.size w w') : CameS w' a0 len ss :=
  ⟨h.1, fun j hj => by
    obtain ⟨x, hx, hc⟩ := h.2 j hj
    exact ⟨x, hx, (hb.cell (block_lt_of_cell hc)).trans hc⟩⟩

theorem copy_pos {a0 : Option Addr} {len g : Nat} {ss : List ByteArray} {w : World} (h : CameS w a0 len ss) :
    Hid (0 < (ss.map Value.string).length → some (⟨g, 0, none⟩ : Addr) = some ⟨g, 0, none⟩ ∧ ∃ ad, a0 = some ad ∧ ∀ j v, (ss.map Value.string)[j]? = some v → w.cell? (ad.add j) = some v) := by
  intro hp
  have hl := h.1
  rw [List.length_map] at hp
  obtain ⟨x, hx, _⟩ := h.2 0 (by omega)
  refine ⟨rfl, x, hx, fun j v hj => ?_⟩
  have hjl : j < ss.length := by have := (List.getElem?_eq_some_iff.1 hj).1; simpa using this
  obtain ⟨y, hy, hc⟩ := h.2 j (by omega)
  obtain rfl : y = x := by rw [hx] at hy; exact (Option.some.inj hy).symm
  rw [hc]
  simpa [hjl] using hj

/-- The world behind '&Queue{spares: sp}'. -/
def madeQ (w : World) (sp : Value) : World :=
  w.alloc (.cells #[.string { data := #[] }, .nilIface, .nilIface, .int .i64 0, .int .i64 0, .pointer none, .pointer none, .slice none 0 0, .int .i32 0, .int .u32 0, .slice none 0 0, .chan none, sp] 42)
theorem madeQ_que (w : World) (sp : Value) : Que w.heap.size 0 sp (madeQ w sp) := heap_alloc_new w _

theorem own_later {w w' : World} {base e B n : Nat} {v : Value} {xs : List Value} (h : w.ownsRow base e 1 v n xs) (hb : ∀ k, k ≠ B → w'.heap[k]? = w.heap[k]?) (hv : v.ownBlock ≠ some B) : w'.ownsRow base e 1 v n xs := by
  refine ⟨h.1, ?_⟩
  rcases h.2 with hn | ⟨g, cap, cur, rfl, hbg, hgg, rest⟩
  · exact .inl hn
  · exact .inr ⟨g, cap, cur, rfl, hbg, by rw [hb g (fun e => hv (by rw [e]; rfl))]; exact hgg, rest⟩

theorem str_at {w : World} {base g n cap m : Nat} {ss : List ByteArray} {more : List Value} (h : w.ownsRow base 9 1 (.slice (some ⟨g, 0, none⟩) m cap) m (ss.map Value.string ++ more)) (hl : ss.length = n) (hnm : n ≤ m) (j : Nat) (hj : j < n) :
    w.cell? ⟨g, j, none⟩ = some (.string (ss.getD j ByteArray.empty)) := by
  rw [h.cellAt j (by omega), List.getElem?_append_left (by simp; omega)]
  have : j < ss.length := by omega
  simp [this]

set_option maxHeartbeats 1600000 in
set_option maxRecDepth 100000 in
theorem klaw_any (a0 : Option Addr) (len cap : Nat) (ss : List ByteArray) (s : ByteArray) (w : World) (h : len ≤ 1024) (hcs : Hid (CameS w a0 len ss)) :
    Calls Yba.prog 3 #[.slice a0 len cap, .string s] w fun e w' => e = .returned (.bool true) ∧ Below w.heap.size w w' := by
  have h1 : ¬ (1024 : Int) < (len : Int) := by omega
  obtain ⟨i0, hi, hz0, hz1, hz2⟩ := info_parts Yba.info9
  obtain ⟨X, hX⟩ : ∃ X : List Value, X = ss.map Value.string := ⟨_, rfl⟩
  have hXl : X.length = len := by rw [hX, List.length_map]; exact hcs.out.1
  have hX1 : ∀ v ∈ X, v.oneCell' = true := by
    rw [hX]; intro v hv
    obtain ⟨_, _, rfl⟩ := List.mem_map.1 hv
    rfl
  have HX : Hid (X = ss.map Value.string) := hX
  clear hX
  go_enter Yba.func3, Yba.ntmps3
  go_wp2_with (at_make; refine wpList_make_full _ rfl _ _ 22 rfl w.heap.size 9 i0 (.string ByteArray.empty) 1 Yba.underlying22 hi hz0 hz1 .i64 .i64 _ _ len rfl rfl rfl rfl (by rw [hz2]; omega) (by unfold maxLen; omega) (by omega) ?_)
  intro w1 hown1 hgrow1
  have hb1 : Below w.heap.size w w1 := (Below.refl _ _).grown hgrow1 (Nat.le_refl _) (fun k hk => by cases hk)
  obtain ⟨M, hg1, hM⟩ := row_some hown1
  have S1 : Hid (0 < X.length → some (⟨w.heap.size, 0, none⟩ : Addr) = some ⟨w.heap.size, 0, none⟩ ∧ ∃ ad, a0 = some ad ∧ ∀ j v, X[j]? = some v → w1.cell? (ad.add j) = some v) := by
    rw [HX.out]; exact copy_pos (cameS_later hcs.out hb1)
  clear hown1 hgrow1
  go_wp2_with (refine wpList_copy_splice rfl (.tmp 17) (.tmp 18) 22 22 rfl 9 Yba.underlying22 (by simp [hi, hz1]) (some ⟨w.heap.size, 0, none⟩) a0 len len len cap rfl rfl w.heap.size 0 M 9 hg1 X (by simp [hXl]) S1.out (by omega) hX1 w.heap.size w hb1 (Nat.le_refl _) ?_)
  intro w2 HG2 hb2
  have hg2 := HG2.out
  rw [splice_whole (by omega)] at hg2
  have HO2 : Hid (w2.ownsRow w.heap.size 9 1 (.slice (some ⟨w.heap.size, 0, none⟩) len len) len X) := owns_of_whole (Nat.le_refl _) hg2 hXl h
  have hs2 := lt_of_block hg2
  clear HG2 hg1 hM hb1 S1 hg2 hX1
  go_wp2_with fail
  have hQ0 := madeQ_que w2 (.slice (some ⟨w.heap.size, 0, none⟩) len len)
  have hOQ : (madeQ w2 (.slice (some ⟨w.heap.size, 0, none⟩) len len)).ownsRow w.heap.size 9 1 (.slice (some ⟨w.heap.size, 0, none⟩) len len) len X := HO2.out.alloc _
  have hbQ : Below w.heap.size w (madeQ w2 (.slice (some ⟨w.heap.size, 0, none⟩) len len)) := hb2.alloc (by omega) _
  by_cases hn : len < 20
  · refine (keep_room w.heap.size w2.heap.size len len (some ⟨w.heap.size, 0, none⟩) s X _ hQ0 hOQ hn (by omega)).mono ?_
    rintro e w3 ⟨rfl, g', cap', hQ3, hO3, hb3⟩
    have hbw3 : Below w.heap.size w w3 := hbQ.trans hb3
    have HC : Hid (∀ j, j < len → w3.cell? ⟨g', j, none⟩ = some (.string (ss.getD j ByteArray.empty))) := by
      intro j hj
      rw [HX.out] at hO3
      exact str_at hO3 hcs.out.1 (by omega) j hj
    have HL : w3.cell? ⟨g', len, none⟩ = some (.string s) := by
      rw [hO3.cellAt len (by omega), List.getElem?_append_right (by omega)]
      simp [hXl]
    have HS : Hid (CameS w3 a0 len ss) := cameS_later hcs.out hbw3
    have q12 := hQ3.c12
    have hn' : (len : Int) < 20 := by omega
    clear hQ3 hO3 hb3 hQ0 hOQ hbQ HO2 hcs HX hb2
    go_wp2
    go_loopw [10] (fun i wr => ∃ k q : Nat, k ≤ len ∧ i = .int .i64 k ∧ wr = w3.drewN q) (fun i _ => len - (intOf i).toNat)
    case atStart => exact ⟨0, 0, by omega, rfl, rfl⟩
    case round =>
      obtain ⟨k, q, hk, rfl, rfl⟩ := hrel
      by_cases hlt : k < len
      · obtain ⟨x, hx, cx⟩ := HS.out.2 k hlt
        have c1 := HC.out k hlt
        subst hx
        obtain ⟨t, ht⟩ : ∃ t, t = ss.getD k ByteArray.empty := ⟨_, rfl⟩
        rw [← ht] at cx c1
        clear ht
        go_wp2
        go_quiet (fail)
        go_wp2
        go_roundw
        case rel => exact ⟨k + 1, _, by omega, by go_num, rfl⟩
        case measure => simp [intOf]; omega
      · go_wp2
        go_ret
        exact ⟨rfl, below_drewN hbw3 _⟩
  · refine (keep_full w2.heap.size len len (some ⟨w.heap.size, 0, none⟩) s _ hQ0 (by omega)).mono ?_
    rintro e w3 ⟨rfl, hw3⟩
    have hQ3 : Que w2.heap.size 0 (.slice (some ⟨w.heap.size, 0, none⟩) len len) w3 := by rw [hw3]; exact (hQ0.s8 1).s8 0
    have hne := own_ne hQ0 hOQ
    have hO3 : w3.ownsRow w.heap.size 9 1 (.slice (some ⟨w.heap.size, 0, none⟩) len len) len X := by
      rw [hw3]; exact ownsRow_setCell_other (ownsRow_setCell_other hOQ hne _) hne _
    have hbw3 : Below w.heap.size w w3 := by
      rw [hw3]
      exact (hbQ.setCell (p := ⟨w2.heap.size, 8, none⟩) (by show w.heap.size ≤ w2.heap.size; omega) _).setCell (p := ⟨w2.heap.size, 8, none⟩) (by show w.heap.size ≤ w2.heap.size; omega) _
    have HC : Hid (∀ j, j < len → w3.cell? ⟨w.heap.size, j, none⟩ = some (.string (ss.getD j ByteArray.empty))) := by
      intro j hj
      rw [HX.out, ← List.append_nil (ss.map Value.string)] at hO3
      exact str_at hO3 hcs.out.1 (by omega) j hj
    have HS : Hid (CameS w3 a0 len ss) := cameS_later hcs.out hbw3
    have q12 := hQ3.c12
    have hn' : ¬ (len : Int) < 20 := by omega
    clear hQ3 hO3 hQ0 hOQ hbQ HO2 hcs HX hb2 hw3 hne
    go_wp2
    go_loopw [10] (fun i wr => ∃ k q : Nat, k ≤ len ∧ i = .int .i64 k ∧ wr = w3.drewN q) (fun i _ => len - (intOf i).toNat)
    case atStart => exact ⟨0, 0, by omega, rfl, rfl⟩
    case round =>
      obtain ⟨k, q, hk, rfl, rfl⟩ := hrel
      by_cases hlt : k < len
      · obtain ⟨x, hx, cx⟩ := HS.out.2 k hlt
        have c1 := HC.out k hlt
        subst hx
        obtain ⟨t, ht⟩ : ∃ t, t = ss.getD k ByteArray.empty := ⟨_, rfl⟩
        rw [← ht] at cx c1
        clear ht
        go_wp2
        go_quiet (fail)
        go_wp2
        go_roundw
        case rel => exact ⟨k + 1, _, by omega, by go_num, rfl⟩
        case measure => simp [intOf]; omega
      · go_wp2
        go_ret
        exact ⟨rfl, below_drewN hbw3 _⟩
end Go.Proofs.Ybulkccmk
