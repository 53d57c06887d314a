/-
  Seat b3934a. The contract of 'appendRepeat' (function 5): the loop of appends onto a row that the call's caller made.
-/
import Derived.Test.YbulkccliParts
namespace Go.Proofs.Ybulkccli
open Go.RowKit

set_option maxHeartbeats 400000 in
theorem repeat_any (base : Nat) (v : Value) (n0 : Nat) (xs : List Value) (c n : Int) (w : World) (hown : w.ownsRow base 5 1 v n0 xs) (hb : base ≤ w.heap.size) (hn0 : n0 ≤ 8192) (hn : n ≤ 4096) :
    Calls Yba.prog 5 #[v, .int .u8 c, .int .i64 n] w fun e w' => ∃ v', e = .returned v' ∧ Rep base v n0 xs c w n.toNat v' w' := by
  obtain ⟨i0, hi, hz0, hz1, hz2⟩ := info_parts Yba.info5
  go_enter Yba.func5, Yba.ntmps5
  go_wp2
  go_loopw [0, 8] (fun u i wr => ∃ k : Nat, k ≤ n.toNat ∧ i = .int .i64 k ∧ Rep base v n0 xs c w k u wr) (fun _ i _ => n.toNat - (intOf i).toNat)
  case atStart => exact ⟨0, Nat.zero_le _, rfl, rep_zero hown⟩
  case round =>
    obtain ⟨k, hk, rfl, hrep⟩ := hrel
    have hsz := hrep.grown.size
    by_cases hlt : (k : Int) < n
    · go_wp2_with (at_builtin; refine wpList_append_kept _ rfl _ _ 22 rfl base 5 i0 (.int .u8 0) 1 Yba.underlying22 hi hz0 hz1 hz2 rfl _ (n0 + k) (xs ++ List.replicate k (.int .u8 c)) rfl (hrep.own.alloc _) ⟨wr.heap.size, 0, none⟩ 1 1 [.int .u8 c] rfl rfl ?c1 ?c2 (by omega) ?c3 ?c4 ?c5 ?_)
      case c1 =>
        intro j u hj
        match j, hj with
        | 0, hj => simp at hj; subst hj; simp [Addr.add]
      case c2 => intro u hu; simp at hu; subst hu; rfl
      case c3 => unfold maxLen; omega
      case c4 => omega
      case c5 => simp; omega
      · intro v' w1 h1 h2 h3 h4 h5
        have R := rep_step hrep hown h1 h2 h3 h4 h5
        clear h1 h2 h3 h4 h5 hrep
        go_wp2
        go_roundw
        case rel => exact ⟨k + 1, by omega, by go_num, R⟩
        case measure => simp [intOf]; omega
    · go_wp2
      go_ret
      obtain rfl : k = n.toNat := by omega
      exact ⟨_, rfl, hrep⟩

end Go.Proofs.Ybulkccli
