/-
  Seat b3950a. The plain law: of a sorted list of strings the halving search finds a string just where it is among them. No Go in sight but the model's order of strings.
-/
import Derived.Shelf.Spec.SearchS
namespace Go.Proofs.Ybulkccty
open Go.RowKit

theorem less_eq : ∀ (x y : List UInt8), Op.bytesLess x y = decide (x < y)
  | [], [] => by simp [Op.bytesLess]
  | _ :: _, [] => by simp [Op.bytesLess]
  | [], _ :: _ => by simp [Op.bytesLess]
  | a :: x, b :: y => by
    rw [Op.bytesLess, less_eq x y]
    simp only [List.cons_lt_cons_iff]
    by_cases h1 : a < b <;> by_cases h2 : a = b <;> by_cases h3 : x < y <;> simp [h1, h2, h3]

/-- Ascending in the order of bytes. -/
def Asc (zs : List ByteArray) : Prop := ∀ i j, i ≤ j → j < zs.length → (zs.getD i ByteArray.empty).toList ≤ (zs.getD j ByteArray.empty).toList

/-- Whether the string is among them. -/
def isIn (zs : List ByteArray) (x : ByteArray) : Bool := zs.any fun y => y.toList == x.toList

theorem isIn_iff {zs : List ByteArray} {x : ByteArray} : isIn zs x = true ↔ ∃ j, j < zs.length ∧ (zs.getD j ByteArray.empty).toList = x.toList := by
  unfold isIn
  rw [List.any_eq_true]
  constructor
  · rintro ⟨y, hy, he⟩
    obtain ⟨j, hj, rfl⟩ := List.getElem_of_mem hy
    refine ⟨j, hj, ?_⟩
    have := eq_of_beq he
    simpa [List.getD, List.getElem?_eq_getElem hj] using this
  · rintro ⟨j, hj, he⟩
    refine ⟨zs[j], List.getElem_mem hj, ?_⟩
    simp only [List.getD, List.getElem?_eq_getElem hj, Option.getD_some] at he
    rw [he]; simp

theorem isIn_step {zs : List ByteArray} {x : ByteArray} {k : Nat} (hk : k < zs.length) : isIn (zs.take (k + 1)) x = (isIn (zs.take k) x || ((zs.getD k ByteArray.empty).toList == x.toList)) := by
  have e : zs.take (k + 1) = zs.take k ++ [zs.getD k ByteArray.empty] := by
    rw [List.take_add_one]
    simp [List.getD, List.getElem?_eq_getElem hk]
  unfold isIn
  rw [e, List.any_append]
  simp

theorem isIn_pos {zs : List ByteArray} {x : ByteArray} (h : isIn zs x = true) : 0 < zs.length := by
  obtain ⟨j, hj, _⟩ := isIn_iff.1 h
  omega

theorem head_of (f : Nat → Bool) (hd : ∀ t, f (t + 1) = true → f t = true) : ∀ n, (∀ t, n ≤ t → f t = false) → ∃ k, k ≤ n ∧ (∀ t, t < k → f t = true) ∧ (∀ t, k ≤ t → f t = false)
  | 0, h => ⟨0, Nat.le_refl _, fun t ht => by omega, fun t _ => h t (Nat.zero_le _)⟩
  | n + 1, h => by
    cases hf : f n with
    | true =>
      refine ⟨n + 1, Nat.le_refl _, fun t ht => ?_, h⟩
      have down : ∀ d, d ≤ n → f (n - d) = true := by
        intro d
        induction d with
        | zero => intro _; exact hf
        | succ d ih => intro hd'; exact hd _ (by rw [show n - (d + 1) + 1 = n - d by omega]; exact ih (by omega))
      have := down (n - t) (by omega)
      rwa [show n - (n - t) = t by omega] at this
    | false =>
      obtain ⟨k, hk, h1, h2⟩ := head_of f hd n (fun t ht => by
        by_cases e : t = n
        · rw [e]; exact hf
        · exact h t (by omega))
      exact ⟨k, by omega, h1, h2⟩

/-- The elements, and the target behind them. -/
def rowOf (zs : List ByteArray) (x : ByteArray) (t : Nat) : ByteArray := if t < zs.length then zs.getD t ByteArray.empty else x

theorem toList_inj {x y : ByteArray} (h : x.toList = y.toList) : x = y := by
  rw [Lib.toList_data, Lib.toList_data] at h
  cases x; cases y
  simpa using h

theorem found (zs : List ByteArray) (x : ByteArray) (ha : Asc zs) (n : Nat) (hn : zs.length = n) :
    decide (Lib.bsGo (fun t => Op.bytesLess (rowOf zs x t).toList x.toList) n 0 n < n ∧ rowOf zs x (Lib.bsGo (fun t => Op.bytesLess (rowOf zs x t).toList x.toList) n 0 n) = x) = isIn zs x := by
  subst hn
  have hlt : ∀ t, Op.bytesLess (rowOf zs x t).toList x.toList = decide ((rowOf zs x t).toList < x.toList) := fun t => less_eq _ _
  have hout : ∀ t, zs.length ≤ t → Op.bytesLess (rowOf zs x t).toList x.toList = false := fun t ht => by
    rw [hlt, rowOf, if_neg (by omega)]
    exact decide_eq_false (List.lt_irrefl _)
  obtain ⟨k, hk, h1, h2⟩ := head_of (fun t => Op.bytesLess (rowOf zs x t).toList x.toList) (fun t ht => by
    by_cases hb : t + 1 < zs.length
    · have hle := ha t (t + 1) (by omega) hb
      simp only [hlt, decide_eq_true_eq] at ht ⊢
      rw [rowOf, if_pos hb] at ht
      rw [rowOf, if_pos (by omega)]
      exact List.lt_of_le_of_lt hle ht
    · simp only [hout (t + 1) (by omega)] at ht
      cases ht) zs.length hout
  rw [Lib.bsGo_spec _ k h1 h2 zs.length 0 zs.length (by omega) (by omega) hk]
  rw [Bool.eq_iff_iff, decide_eq_true_eq]
  constructor
  · rintro ⟨hkl, he⟩
    refine isIn_iff.2 ⟨k, hkl, ?_⟩
    rw [rowOf, if_pos hkl] at he
    rw [he]
  · intro hi
    obtain ⟨j, hj, hje⟩ := isIn_iff.1 hi
    have hkj : k ≤ j := by
      rcases Nat.lt_or_ge j k with h | h
      · have := h1 j h
        simp only [hlt, decide_eq_true_eq] at this
        rw [rowOf, if_pos hj, hje] at this
        exact absurd this (List.lt_irrefl _)
      · exact h
    have hkl : k < zs.length := by omega
    refine ⟨hkl, ?_⟩
    have hge := h2 k (Nat.le_refl _)
    simp only [hlt, decide_eq_false_iff_not] at hge
    have hle := ha k j hkj hj
    rw [hje] at hle
    rw [rowOf, if_pos hkl] at hge ⊢
    exact toList_inj (List.le_antisymm hle (List.not_lt.1 hge))
end Go.Proofs.Ybulkccty
