/-
  Seat b3936a. The walks of LawS3936CFill (4).
-/
import Derived.Test.YbulkccmkKeepLaw
import Derived.Deep.RegionWith
namespace Go.Proofs.Ybulkccmk
open Go.RowKit Go.MuLone

theorem flaw_big (a0 : Option Addr) (len cap : Nat) (w : World) (h : 1024 < len) :
    Calls Yba.prog 4 #[.slice a0 len cap] w fun e w' => e = .returned (.bool true) ∧ Below w.heap.size w w' := by
  have h1 : (1024 : Int) < (len : Int) := by omega
  go_enter Yba.func4, Yba.ntmps4
  go_wp2
  go_ret
  exact ⟨rfl, Below.refl _ _⟩

/-- The queue at B keeps the first m names. -/
structure Kept (B b0 m cap : Nat) (a : Option Addr) (ss : List ByteArray) (w : World) : Prop where
  que : Que B 0 (.slice a m cap) w
  own : w.ownsRow b0 9 1 (.slice a m cap) m ((ss.take m).map Value.string)

theorem take_str (ss : List ByteArray) (m : Nat) (hm : m < ss.length) : (ss.take (m + 1)).map Value.string = (ss.take m).map Value.string ++ [.string (ss.getD m ByteArray.empty)] := by
  have : ss.take (m + 1) = ss.take m ++ [ss.getD m ByteArray.empty] := by
    rw [List.take_succ_eq_append_getElem hm]
    congr 2
    simp [List.getD, hm]
  rw [this, List.map_append]
  rfl

theorem kept_more {B b0 m g' cap' : Nat} {ss : List ByteArray} {w' : World} (hm : m < ss.length) (h1 : Que B 0 (.slice (some ⟨g', 0, none⟩) (m + 1) cap') w')
    (h2 : w'.ownsRow b0 9 1 (.slice (some ⟨g', 0, none⟩) (m + 1) cap') (m + 1) ((ss.take m).map Value.string ++ [.string (ss.getD m ByteArray.empty)])) : Kept B b0 (m + 1) cap' (some ⟨g', 0, none⟩) ss w' := by
  refine ⟨h1, ?_⟩
  have e := take_str ss m hm
  rw [e]; exact h2

theorem kept_full {B b0 m cap : Nat} {a : Option Addr} {ss : List ByteArray} {w : World} (h : Kept B b0 m cap a ss w) : Kept B b0 m cap a ss ((w.setCell ⟨B, 8, none⟩ (.int .i32 1)).setCell ⟨B, 8, none⟩ (.int .i32 0)) := by
  have hne := own_ne h.que h.own
  exact ⟨(h.que.s8 1).s8 0, ownsRow_setCell_other (ownsRow_setCell_other h.own hne _) hne _⟩

theorem kept_shape {B b0 m cap : Nat} {a : Option Addr} {ss : List ByteArray} {w : World} (h : Kept B b0 (m + 1) cap a ss w) : ∃ g, a = some ⟨g, 0, none⟩ ∧ g ≠ B ∧ m + 1 ≤ cap := by
  have hne := own_ne h.que h.own
  rcases h.own.2 with ⟨_, h0⟩ | ⟨g, cap', cur, hv, _, _, hc, _⟩
  · omega
  · simp only [Value.slice.injEq, true_and] at hv
    obtain ⟨rfl, rfl⟩ := hv
    exact ⟨g, rfl, fun e => hne (by rw [e]; rfl), hc⟩

theorem kept_cell {B b0 m cap g : Nat} {ss : List ByteArray} {w : World} (h : Kept B b0 m cap (some ⟨g, 0, none⟩) ss w) (hm : m ≤ ss.length) (j : Nat) (hj : j < m) : w.cell? ⟨g, j, none⟩ = some (.string (ss.getD j ByteArray.empty)) := by
  rw [h.own.cellAt j (by omega)]
  have h1 : j < ss.length := by omega
  simp [hj, h1]

theorem kept_less {B b0 m cap g : Nat} {ss : List ByteArray} {w : World} (h : Kept B b0 (m + 1) cap (some ⟨g, 0, none⟩) ss w) (hm : m < ss.length) :
    Kept B b0 m cap (some ⟨g, 0, none⟩) ss (((w.setCell ⟨B, 8, none⟩ (.int .i32 1)).setCell ⟨B, 12, none⟩ (.slice (some ⟨g, 0, none⟩) m cap)).setCell ⟨B, 8, none⟩ (.int .i32 0)) := by
  have hne := own_ne h.que h.own
  refine ⟨((h.que.s8 1).s12 _).s8 0, ?_⟩
  have e := take_str ss m hm
  have ho := h.own
  rw [e] at ho
  have ho2 := ownsRow_pop (by simp; omega) ho
  have hne2 : (Value.slice (some ⟨g, 0, none⟩) m cap).ownBlock ≠ some B := hne
  exact ownsRow_setCell_other (ownsRow_setCell_other (ownsRow_setCell_other ho2 hne2 _) hne2 _) hne2 _

/-- takeSpare on a queue that keeps the first n + 1 names: the last of them. -/
theorem take_kept (B b0 n cap g : Nat) (ss : List ByteArray) (t : ByteArray) (w : World) (hb : b0 ≤ B) (hn : n < 20) (hm : n < ss.length) (ht : Hid (t = ss.getD n ByteArray.empty)) (hK : Kept B b0 (n + 1) cap (some ⟨g, 0, none⟩) ss w) :
    Calls Yba.prog 6 #[.pointer (some ⟨B, 0, none⟩)] w fun e w' => e = .returned (.string t) ∧ Hid (Kept B b0 n cap (some ⟨g, 0, none⟩) ss w') ∧ Below b0 w w' := by
  obtain ⟨g', hg, hgB, hcap⟩ := kept_shape hK
  simp only [Option.some.injEq, Addr.mk.injEq, and_true] at hg
  subst hg
  have hc := kept_cell hK (by omega) n (by omega)
  rw [← ht.out] at hc
  refine (take_some B n cap g t w hK.que hgB hcap hn hc).mono ?_
  rintro e w' ⟨rfl, rfl⟩
  exact ⟨rfl, kept_less hK hm, (((Below.refl _ _).setCell (p := ⟨B, 8, none⟩) hb _).setCell (p := ⟨B, 12, none⟩) hb _).setCell (p := ⟨B, 8, none⟩) hb _⟩

theorem take_nil (B b0 cap : Nat) (a : Option Addr) (w : World) (hb : b0 ≤ B) (hQ : Que B 0 (.slice a 0 cap) w) :
    Calls Yba.prog 6 #[.pointer (some ⟨B, 0, none⟩)] w fun e w' => e = .returned (.string ByteArray.empty) ∧ w'.cell? ⟨B, 12, none⟩ = some (.slice a 0 cap) ∧ Below b0 w w' := by
  refine (take_none B cap a w hQ).mono ?_
  rintro e w' ⟨rfl, rfl⟩
  exact ⟨rfl, ((hQ.s8 1).s8 0).c12, ((Below.refl _ _).setCell (p := ⟨B, 8, none⟩) hb _).setCell (p := ⟨B, 8, none⟩) hb _⟩

theorem kept_drew {B b0 m cap : Nat} {a : Option Addr} {ss : List ByteArray} {w : World} (h : Kept B b0 m cap a ss w) : Kept B b0 m cap a ss w.drew := ⟨h.que, h.own⟩

set_option maxHeartbeats 1600000 in
set_option maxRecDepth 100000 in
theorem flaw_any (a0 : Option Addr) (len cap : Nat) (ss : List ByteArray) (w : World) (h : len ≤ 1024) (hcs : Hid (CameS w a0 len ss)) :
    Calls Yba.prog 4 #[.slice a0 len cap] w fun e w' => e = .returned (.bool true) ∧ Below w.heap.size w w' := by
  have h1 : ¬ (1024 : Int) < (len : Int) := by omega
  have hsl : Hid (ss.length = len) := hcs.out.1
  go_enter Yba.func4, Yba.ntmps4
  go_wp2
  go_loopw [4, 5] (fun c i wr => ∃ (k m : Nat) (a : Option Addr) (sc : Nat), k ≤ len ∧ i = .int .i64 k ∧ c = .int .i64 m ∧ m ≤ k ∧ m ≤ 20 ∧ (k ≤ m ∨ 20 ≤ m) ∧ Hid (Kept w.heap.size w.heap.size m sc a ss wr) ∧ Below w.heap.size w wr) (fun _ i _ => len - (intOf i).toNat)
  case atStart =>
    refine ⟨0, 0, none, 0, by omega, rfl, rfl, by omega, by omega, by omega, ⟨madeQ_que w (.slice none 0 0), ?_⟩, (Below.refl _ _).alloc (Nat.le_refl _) _⟩
    exact World.ownsRow_nil _ _ _ _
  case round =>
    obtain ⟨k, m, a, sc, hk, rfl, rfl, hm1, hm2, hm3, hK, hb⟩ := hrel
    by_cases hlt : k < len
    · obtain ⟨x, hx, cx0⟩ := hcs.out.2 k hlt
      have cx : wr.cell? (x.add k) = some (.string (ss.getD k ByteArray.empty)) := (hb.cell (block_lt_of_cell cx0)).trans cx0
      subst hx
      obtain ⟨t, ht⟩ : ∃ t, t = ss.getD k ByteArray.empty := ⟨_, rfl⟩
      rw [← ht] at cx
      have HT : Hid (t = ss.getD k ByteArray.empty) := ht
      clear ht cx0
      by_cases h20 : k < 20
      · obtain rfl : m = k := by omega
        have h20' : (m : Int) < 20 := by omega
        go_wp2_with (go_at_call 5; refine (keep_room w.heap.size w.heap.size m sc a t ((ss.take m).map Value.string) _ hK.out.que hK.out.own h20 (Nat.le_refl _)).mono ?_; rintro e w' ⟨rfl, g', cap', hQ3, hO3, hb3⟩)
        have R := kept_more (ss := ss) (by rw [hsl.out]; exact hlt) hQ3 (by rw [← HT.out]; exact hO3)
        go_roundw
        case rel => exact ⟨m + 1, m + 1, some ⟨g', 0, none⟩, cap', by omega, by go_num, by go_num, by omega, by omega, by omega, R, hb.trans hb3⟩
        case measure => simp [intOf]; omega
      · have h20' : ¬ (k : Int) < 20 := by omega
        have R := kept_full hK.out
        have Rb : Below w.heap.size w ((wr.setCell ⟨w.heap.size, 8, none⟩ (.int .i32 1)).setCell ⟨w.heap.size, 8, none⟩ (.int .i32 0)) := (hb.setCell (p := ⟨w.heap.size, 8, none⟩) (Nat.le_refl _) _).setCell (p := ⟨w.heap.size, 8, none⟩) (Nat.le_refl _) _
        have HR : Hid (Kept w.heap.size w.heap.size m sc a ss ((wr.setCell ⟨w.heap.size, 8, none⟩ (.int .i32 1)).setCell ⟨w.heap.size, 8, none⟩ (.int .i32 0))) := R
        clear R
        go_wp2_with (go_at_call 5; refine (keep_full w.heap.size m sc a t _ hK.out.que (by omega)).mono ?_; rintro e w' ⟨rfl, rfl⟩)
        go_roundw
        case rel => exact ⟨k + 1, m, a, sc, by omega, by go_num, rfl, by omega, by omega, by omega, HR, Rb⟩
        case measure => simp [intOf]; omega
    · have q12 := hK.out.que.c12
      have hmlen : m ≤ len := by omega
      have HS : Hid (CameS wr a0 len ss) := cameS_later hcs.out hb
      clear hm3 hm1
      go_wp2
      go_loopw [7] (fun i wq => ∃ j q : Nat, j ≤ m ∧ i = .int .i64 j ∧ wq = wr.drewN q) (fun i _ => m - (intOf i).toNat)
      case atStart => exact ⟨0, 0, by omega, rfl, rfl⟩
      case round =>
        obtain ⟨j, q, hj, rfl, rfl⟩ := hrel
        by_cases hjm : j < m
        · obtain ⟨m', rfl⟩ : ∃ m', m = m' + 1 := ⟨m - 1, by omega⟩
          obtain ⟨g, hg, hgB, hcap⟩ := kept_shape hK.out
          subst hg
          obtain ⟨x, hx, cx⟩ := HS.out.2 j (by omega)
          subst hx
          have c1 := kept_cell hK.out (by rw [hsl.out]; omega) j hjm
          obtain ⟨t, ht⟩ : ∃ t, t = ss.getD j ByteArray.empty := ⟨_, rfl⟩
          rw [← ht] at cx c1
          clear ht
          go_wp2
          go_quiet (fail)
          go_wp2
          go_roundw
          case rel => exact ⟨j + 1, _, by omega, by go_num, rfl⟩
          case measure => simp [intOf]; omega
        · clear q12
          have HB : Below w.heap.size w (wr.drewN q) := below_drewN hb q
          have HK2 : Hid (Kept w.heap.size w.heap.size m sc a ss (wr.drewN q)) := ⟨hK.out.que, hK.out.own⟩
          clear hK HS hb
          go_wp2
          go_loopw [8] (fun i wq => ∃ j : Nat, ∃ b, j ≤ m ∧ i = .int .i64 ((j : Int) - 1) ∧ Hid (Kept w.heap.size w.heap.size j sc b ss wq) ∧ Below w.heap.size w wq) (fun i _ => (intOf i + 1).toNat)
          case atStart => exact ⟨m, a, Nat.le_refl _, rfl, HK2, HB⟩
          case round =>
            clear HK2 HB
            obtain ⟨n, b, hn, rfl, hK3, hb3⟩ := hrel
            by_cases hn0 : 0 < n
            · obtain ⟨n', rfl⟩ : ∃ n', n = n' + 1 := ⟨n - 1, by omega⟩
              obtain ⟨g, hg, hgB, hcap⟩ := kept_shape hK3.out
              subst hg
              have hsl' : n' < ss.length := by rw [hsl.out]; omega
              obtain ⟨x, hx, cx⟩ := (cameS_later hcs.out hb3).2 n' (by omega)
              subst hx
              obtain ⟨t, ht⟩ : ∃ t, t = ss.getD n' ByteArray.empty := ⟨_, rfl⟩
              rw [← ht] at cx
              have HT : Hid (t = ss.getD n' ByteArray.empty) := ht
              clear ht
              have hxlt : Hid (∀ w' : World, Below w.heap.size wr.drew w' → w'.cell? (x.add n') = some (.string t)) := by
                intro w' hb'
                have hlt0 : (x.add n').block < w.heap.size := by
                  obtain ⟨y, hy, cy⟩ := hcs.out.2 n' (by omega)
                  obtain rfl := Option.some.inj hy
                  exact block_lt_of_cell cy
                exact (hb'.cell hlt0).trans cx
              go_wp2
              go_region_with (go_at_call 6; refine (take_kept w.heap.size w.heap.size n' sc g ss t _ (Nat.le_refl _) (by omega) hsl' HT ?_).mono ?_; exact kept_drew hK3.out; rintro e w' ⟨rfl, hK4, hb4⟩; have cx' := hxlt.out w' hb4)
              all_goals
                go_wp2
                go_roundw
                case rel => exact ⟨n', some ⟨g, 0, none⟩, by omega, by go_num, hK4, hb3.drew.trans hb4⟩
                case measure => simp [intOf]
            · obtain rfl : n = 0 := by omega
              go_wp2_with (go_at_call 6; refine (take_nil w.heap.size w.heap.size sc b _ (Nat.le_refl _) hK3.out.que).mono ?_; rintro e w' ⟨rfl, q12', hb4⟩)
              go_ret
              exact ⟨rfl, hb3.trans hb4⟩
end Go.Proofs.Ybulkccmk
