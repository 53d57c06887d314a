/-
  Seat b3950a. The contracts of 'member' (10) and 'convinced' (6).
-/
import Derived.Test.YbulkcctyCallees
import Derived.WalkSpells
import Derived.WalkSmall
import Derived.Deep.QuietTactic
import Derived.BigQuiet
namespace Go.Proofs.Ybulkccty
open Go.RowKit

theorem cameS_drewN {w : World} {a : Option Addr} {n : Nat} {ss : List ByteArray} (h : CameS w a n ss) (q : Nat) : CameS (w.drewN q) a n ss := h

set_option maxHeartbeats 1600000 in
set_option maxRecDepth 100000 in
theorem member_any (P : Nat) (a : Option Addr) (n c : Nat) (zs : List ByteArray) (x : ByteArray) (w : World) (hn : n ≤ 1024) (h : Hid (CameS w a n zs)) (ha : Hid (Asc zs)) (h10 : w.cell? ⟨P, 10, none⟩ = some (.slice a n c)) :
    Calls Yba.prog 10 #[.pointer (some ⟨P, 0, none⟩), .string x] w fun e w' => e = .returned (.bool (isIn zs x)) ∧ ∃ q, w' = w.drewN q := by
  go_enter Yba.func10, Yba.ntmps10
  go_wp2_with fail
  refine (search_any a n c zs x w hn h ha).mono ?_
  rintro e w' ⟨⟨i, rfl⟩, q, rfl⟩
  go_wp2
  go_ret
  exact ⟨rfl, q, rfl⟩

set_option maxHeartbeats 1600000 in
set_option maxRecDepth 100000 in
theorem conv_in (P : Nat) (a : Option Addr) (n c : Nat) (zs : List ByteArray) (x : ByteArray) (w : World) (hn : n ≤ 1024) (h : Hid (CameS w a n zs)) (ha : Hid (Asc zs)) (h10 : w.cell? ⟨P, 10, none⟩ = some (.slice a n c)) (h0 : w.cell? ⟨P, 0, none⟩ = some (.string x)) (hin : isIn zs x = true) :
    Calls Yba.prog 6 #[.pointer (some ⟨P, 0, none⟩)] w fun e w' => e = .returned (.int .i64 (((n : Int) - 1) / 3 + 1)) ∧ ∃ q, w' = w.drewN q := by
  have hpos : 0 < n := by have := isIn_pos hin; have := h.out.1; omega
  have hM := member_any P a n c zs x w hn h ha h10
  rw [hin] at hM
  clear hin h
  go_enter Yba.func6, Yba.ntmps6
  go_wp2_with fail
  refine hM.mono ?_
  rintro e w' ⟨rfl, q, rfl⟩
  clear hM
  go_wp2
  go_ret
  exact ⟨rfl, q, rfl⟩

set_option maxHeartbeats 1600000 in
set_option maxRecDepth 100000 in
theorem conv_out (P : Nat) (a : Option Addr) (n c : Nat) (zs : List ByteArray) (x : ByteArray) (w : World) (hn : n ≤ 1024) (h : Hid (CameS w a n zs)) (ha : Hid (Asc zs)) (h10 : w.cell? ⟨P, 10, none⟩ = some (.slice a n c)) (h0 : w.cell? ⟨P, 0, none⟩ = some (.string x)) (hin : isIn zs x = false) :
    Calls Yba.prog 6 #[.pointer (some ⟨P, 0, none⟩)] w fun e w' => e = .returned (.int .i64 ((n : Int) / 2 + 1)) ∧ ∃ q, w' = w.drewN q := by
  have hM := member_any P a n c zs x w hn h ha h10
  rw [hin] at hM
  clear hin h
  go_enter Yba.func6, Yba.ntmps6
  go_wp2_with fail
  refine hM.mono ?_
  rintro e w' ⟨rfl, q, rfl⟩
  clear hM
  go_wp2
  go_ret
  exact ⟨rfl, q, rfl⟩
end Go.Proofs.Ybulkccty
