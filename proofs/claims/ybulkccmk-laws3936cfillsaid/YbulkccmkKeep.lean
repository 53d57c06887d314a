/-
  Seat b3936a. The contracts of '(*Queue).keepSpare' (5) and '(*Queue).takeSpare' (6): the queue is a block of thirteen cells that the law itself made: the lock's state at place 8, the spares at place 12.
-/
import Derived.Test.YbulkccmkRows
import Derived.Test.YbulkccmkLocks
import Derived.WalkKit
import Derived.WalkSpells
import Derived.WalkSmall
import Derived.Deep.QuietTactic
import Derived.BigQuiet
namespace Go.Proofs.Ybulkccmk
open Go.RowKit Go.MuLone

theorem Yba.info9 : (Yba.prog.info? 9).map (fun i => (i.zero, i.size, i.bytes)) = some (some (.string ByteArray.empty), 1, 16) := by kernel_rfl

/-- The queue's block: the lock's state st, the spares sp. -/
def Que (B : Nat) (st : Int) (sp : Value) (w : World) : Prop :=
  w.heap[B]? = some (.cells #[.string ByteArray.empty, .nilIface, .nilIface, .int .i64 0, .int .i64 0, .pointer none, .pointer none, .slice none 0 0, .int .i32 st, .int .u32 0, .slice none 0 0, .chan none, sp] 42 (0, 0))

section
variable {B : Nat} {st : Int} {sp : Value} {w : World}
theorem Que.c8 (h : Que B st sp w) : w.cell? ⟨B, 8, none⟩ = some (.int .i32 st) := by rw [cell_of_row _ _ _ _ _ _ h]; rfl
theorem Que.c12 (h : Que B st sp w) : w.cell? ⟨B, 12, none⟩ = some sp := by rw [cell_of_row _ _ _ _ _ _ h]; rfl
theorem Que.fr (h : Que B st sp w) (j : Nat) : w.frozen? ⟨B, j, none⟩ = false := frozen_of_row _ _ _ _ _ h
theorem Que.s8 (h : Que B st sp w) (k : Int) : Que B k sp (w.setCell ⟨B, 8, none⟩ (.int .i32 k)) := heap_setCell_same _ _ _ _ _ _ h
theorem Que.s12 (h : Que B st sp w) (u : Value) : Que B st u (w.setCell ⟨B, 12, none⟩ u) := heap_setCell_same _ _ _ _ _ _ h
theorem Que.lt (h : Que B st sp w) : B < w.heap.size := lt_of_block h
end

/-- keepSpare where twenty are kept already. -/
theorem keep_full (B n cap : Nat) (a : Option Addr) (s : ByteArray) (w : World) (hQ : Hid (Que B 0 (.slice a n cap) w)) (hn : 20 ≤ n) :
    Calls Yba.prog 5 #[.pointer (some ⟨B, 0, none⟩), .string s] w fun e w' => e = .returned (.bool false) ∧
      w' = (w.setCell ⟨B, 8, none⟩ (.int .i32 1)).setCell ⟨B, 8, none⟩ (.int .i32 0) := by
  have h8 := hQ.out.c8
  have h12 := hQ.out.c12
  have f8 := hQ.out.fr 8
  have hn' : (20 : Int) ≤ n := by omega
  go_enter_defers Yba.func5, Yba.ntmps5
  go_wp2_with (go_at_call 7; refine (lock_free Yba.muLib ⟨B, 8, none⟩ _ h8 f8).mono ?_; rintro e w' ⟨rfl, rfl⟩)
  refine leaves_cons (f := 8) (args := #[.pointer (some ⟨B, 8, none⟩)]) (by simp) (by simp [go_sem]) ?_
  refine (unlock_deferred Yba.muLib ⟨B, 8, none⟩ .returning _ ?_ ?_).mono ?_
  · exact World.cell?_setCell_same w ⟨B, 8, none⟩ (.int .i32 1) h8
  · simp [f8]
  rintro e u' w'' ⟨rfl, rfl, rfl⟩
  exact ⟨_, results_tmp rfl _ _ _, rfl, rfl⟩

theorem own_ne {B base n : Nat} {st : Int} {sp v : Value} {xs : List Value} {w : World} (hQ : Que B st sp w) (h : w.ownsRow base 9 1 v n xs) : v.ownBlock ≠ some B := by
  rcases h.2 with ⟨rfl, _⟩ | ⟨g, cap, cur, rfl, _, hg, _⟩
  · simp [Value.ownBlock]
  · simp only [Value.ownBlock, ne_eq, Option.some.injEq]
    rintro rfl
    unfold Que at hQ
    rw [hQ] at hg
    simp at hg

theorem que_grown {B : Nat} {st : Int} {sp : Value} {w w1 : World} {row : Option Nat} (hQ : Que B st sp w) (hg : w.grownBy w1 row) (hne : row ≠ some B) : Que B st sp w1 := by
  unfold Que
  rw [hg.block B hQ.lt (fun e => hne e.symm)]
  exact hQ

theorem que_alloc {B : Nat} {st : Int} {sp : Value} {w : World} (hQ : Que B st sp w) (o : Obj) : Que B st sp (w.alloc o) := by
  unfold Que
  rw [Below.heap_alloc _ _ _ hQ.lt]
  exact hQ

theorem shape_pos {w : World} {base n : Nat} {v : Value} {xs : List Value} (h : w.ownsRow base 9 1 v (n + 1) xs) : ∃ g cap, v = .slice (some ⟨g, 0, none⟩) (n + 1) cap := by
  rcases h.2 with ⟨_, h⟩ | ⟨g, cap, cur, rfl, _⟩
  · omega
  · exact ⟨g, cap, rfl⟩

set_option maxHeartbeats 800000 in
set_option maxRecDepth 100000 in
/-- keepSpare where there is room. -/
theorem keep_room (b0 B n cap : Nat) (a : Option Addr) (s : ByteArray) (xs : List Value) (w : World) (hQ : Hid (Que B 0 (.slice a n cap) w)) (hown : Hid (w.ownsRow b0 9 1 (.slice a n cap) n xs)) (hn : n < 20) (hb : b0 ≤ B) :
    Calls Yba.prog 5 #[.pointer (some ⟨B, 0, none⟩), .string s] w fun e w' => e = .returned (.bool true) ∧ ∃ g' cap',
      Que B 0 (.slice (some ⟨g', 0, none⟩) (n + 1) cap') w' ∧ w'.ownsRow b0 9 1 (.slice (some ⟨g', 0, none⟩) (n + 1) cap') (n + 1) (xs ++ [.string s]) ∧ Below b0 w w' := by
  have h8 := hQ.out.c8
  have h12 := hQ.out.c12
  have f8 := hQ.out.fr 8
  have f12 := hQ.out.fr 12
  have hn' : (n : Int) < 20 := by omega
  have hlt := hQ.out.lt
  obtain ⟨i0, hi, hz0, hz1, hz2⟩ := info_parts Yba.info9
  have hne := own_ne hQ.out hown.out
  have HNE : Hid ((Value.slice a n cap).ownBlock ≠ some B) := hne
  clear hne
  have hown1 : Hid ((w.setCell ⟨B, 8, none⟩ (.int .i32 1)).ownsRow b0 9 1 (.slice a n cap) n xs) := ownsRow_setCell_other hown.out HNE.out _
  have hQ1 : Hid (Que B 1 (.slice a n cap) (w.setCell ⟨B, 8, none⟩ (.int .i32 1))) := hQ.out.s8 1
  go_enter_defers Yba.func5, Yba.ntmps5
  go_wp2_with (first
    | (go_at_call 7; refine (lock_free Yba.muLib ⟨B, 8, none⟩ _ h8 f8).mono ?_; rintro e w' ⟨rfl, rfl⟩)
    | (at_builtin; (refine wpList_append_own _ rfl _ _ 22 rfl b0 9 i0 (.string ByteArray.empty) 1 16 Yba.underlying22 hi hz0 hz1 hz2 rfl (by decide) _ n xs rfl (hown1.out.alloc _) ⟨w.heap.size, 0, none⟩ 1 1 [.string s] rfl rfl ?c1 ?c2 (by unfold maxLen; omega) (by omega) ?c5 ?_)))
  case c1 =>
    have h := cell_one_new (w.setCell ⟨B, 8, none⟩ (.int .i32 1)) (.string s) 9
    rw [show (w.setCell ⟨B, 8, none⟩ (.int .i32 1)).heap.size = w.heap.size from by simp [World.setCell]] at h
    exact h
  case c2 => intro u hu; simp at hu; subst hu; rfl
  case c5 => simp; omega
  intro v' w1 ho1 hg1 _
  have hQa := que_alloc hQ1.out (.cells #[.string s] 9)
  have hQ2 := que_grown hQa hg1 HNE.out
  have hbw : Below b0 w w1 := (((Below.refl b0 w).setCell (p := ⟨B, 8, none⟩) hb (.int .i32 1)).alloc (by simp; omega) (.cells #[.string s] 9)).grown hg1 (by simp; omega) (fun k hk => (hown1.out.lt k hk).1)
  obtain ⟨g', cap', hv⟩ := shape_pos ho1
  rw [hv]
  rw [hv] at ho1
  clear hv hg1 hQa hown1 hQ1 hown hQ h8 h12 f8 f12
  have HO : Hid (w1.ownsRow b0 9 1 (.slice (some ⟨g', 0, none⟩) (n + 1) cap') (n + 1) (xs ++ [.string s])) := ho1
  have HQ2 : Hid (Que B 1 (.slice a n cap) w1) := hQ2
  have h12 := hQ2.c12
  have f12 := hQ2.fr 12
  clear ho1 hQ2
  go_wp2
  refine leaves_cons (f := 8) (args := #[.pointer (some ⟨B, 8, none⟩)]) (by simp) (by simp [go_sem]) ?_
  have HQ3 := HQ2.out.s12 (.slice (some ⟨g', 0, none⟩) (n + 1) cap')
  refine (unlock_deferred Yba.muLib ⟨B, 8, none⟩ .returning _ HQ3.c8 (HQ3.fr 8)).mono ?_
  rintro e u' w'' ⟨rfl, rfl, rfl⟩
  have HQ4 := HQ3.s8 0
  have hne2 := own_ne HQ2.out HO.out
  exact ⟨_, results_tmp rfl _ _ _, rfl, g', cap', HQ4, ownsRow_setCell_other (ownsRow_setCell_other HO.out hne2 _) hne2 _, (hbw.setCell (p := ⟨B, 12, none⟩) hb _).setCell (p := ⟨B, 8, none⟩) hb _⟩

set_option maxRecDepth 100000 in
/-- takeSpare where none is kept. -/
theorem take_none (B cap : Nat) (a : Option Addr) (w : World) (hQ : Hid (Que B 0 (.slice a 0 cap) w)) :
    Calls Yba.prog 6 #[.pointer (some ⟨B, 0, none⟩)] w fun e w' => e = .returned (.string ByteArray.empty) ∧ 
      w' = (w.setCell ⟨B, 8, none⟩ (.int .i32 1)).setCell ⟨B, 8, none⟩ (.int .i32 0) := by
  have h8 := hQ.out.c8
  have h12 := hQ.out.c12
  have f8 := hQ.out.fr 8
  go_enter_defers Yba.func6, Yba.ntmps6
  go_wp2_with (go_at_call 7; refine (lock_free Yba.muLib ⟨B, 8, none⟩ _ h8 f8).mono ?_; rintro e w' ⟨rfl, rfl⟩)
  refine leaves_cons (f := 8) (args := #[.pointer (some ⟨B, 8, none⟩)]) (by simp) (by simp [go_sem]) ?_
  refine (unlock_deferred Yba.muLib ⟨B, 8, none⟩ .returning _ ?_ ?_).mono ?_
  · exact World.cell?_setCell_same w ⟨B, 8, none⟩ (.int .i32 1) h8
  · simp [f8]
  rintro e u' w'' ⟨rfl, rfl, rfl⟩
  exact ⟨_, results_tmp rfl _ _ _, rfl, rfl⟩

set_option maxHeartbeats 800000 in
set_option maxRecDepth 100000 in
/-- takeSpare: the last one is handed back. -/
theorem take_some (B n cap g : Nat) (s : ByteArray) (w : World) (hQ : Hid (Que B 0 (.slice (some ⟨g, 0, none⟩) (n + 1) cap) w)) (hgB : g ≠ B) (hcap : n + 1 ≤ cap) (hn : n < 20) (hc : w.cell? ⟨g, n, none⟩ = some (.string s)) :
    Calls Yba.prog 6 #[.pointer (some ⟨B, 0, none⟩)] w fun e w' => e = .returned (.string s) ∧ 
      w' = ((w.setCell ⟨B, 8, none⟩ (.int .i32 1)).setCell ⟨B, 12, none⟩ (.slice (some ⟨g, 0, none⟩) n cap)).setCell ⟨B, 8, none⟩ (.int .i32 0) := by
  have h8 := hQ.out.c8
  have h12 := hQ.out.c12
  have f8 := hQ.out.fr 8
  have f12 := hQ.out.fr 12
  have hn' : (n : Int) < 20 := by omega
  have HQ3 := ((hQ.out.s8 1).s12 (.slice (some ⟨g, 0, none⟩) n cap))
  have H3 : Hid (Que B 1 (.slice (some ⟨g, 0, none⟩) n cap) ((w.setCell ⟨B, 8, none⟩ (.int .i32 1)).setCell ⟨B, 12, none⟩ (.slice (some ⟨g, 0, none⟩) n cap))) := HQ3
  clear HQ3
  go_enter_defers Yba.func6, Yba.ntmps6
  go_wp2_with (go_at_call 7; refine (lock_free Yba.muLib ⟨B, 8, none⟩ _ h8 f8).mono ?_; rintro e w' ⟨rfl, rfl⟩)
  refine leaves_cons (f := 8) (args := #[.pointer (some ⟨B, 8, none⟩)]) (by simp) (by simp [go_sem]) ?_
  refine (unlock_deferred Yba.muLib ⟨B, 8, none⟩ .returning _ H3.out.c8 (H3.out.fr 8)).mono ?_
  rintro e u' w'' ⟨rfl, rfl, rfl⟩
  exact ⟨_, results_tmp rfl _ _ _, rfl, rfl⟩
end Go.Proofs.Ybulkccmk
