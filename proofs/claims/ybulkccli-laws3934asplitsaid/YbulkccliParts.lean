/-
  Seat b3934a. Plain laws, no walk: an append onto a row that the call itself made, told more finely than the kit's 'run_append_own': the cells that were owned before stay as they were, and the new value lies in the old block or in a new one. And 'Rep': what 'appendRepeat' leaves.
-/
import Derived.Test.YbulkccliRows
import Derived.WalkKit
namespace Go.Proofs.Ybulkccli
open Go.RowKit

theorem Yba.info5 : (Yba.prog.info? 5).map (fun i => (i.zero, i.size, i.bytes)) = some (some (.int .u8 0), 1, 1) := by kernel_rfl

theorem run_append_kept {P : Program} (w : World) (base : Nat) (t ty e : TypeId) (i : TypeInfo) (z : Value) (bytes : Nat) (ht : P.underlying t = some (.slice e)) (hi : P.info? e = some i) (hz : i.zero = some z)
    (hsize : i.size = 1) (hby : i.bytes = bytes) (hzs : z.cells.size = 1)
    (v : Value) (n : Nat) (xs : List Value) (hown : w.ownsRow base e 1 v n xs)
    (a : Addr) (m c : Nat) (news : List Value) (hl : news.length = m * 1) (hnews : ∀ j u, news[j]? = some u → w.cell? (a.add j) = some u) (h1 : ∀ u ∈ news, u.oneCell' = true) (hm : 0 < m)
    (h63 : n + m ≤ maxLen) (hbytes : (n + m) * bytes ≤ 140737488355328) (hbase : base ≤ w.heap.size) :
    ∃ v' w', (Builtin.append_ #[t, t] ty #[v, .slice (some a) m c]).run P w = .ok v' w' ∧ w'.ownsRow base e 1 v' (n + m) (xs ++ news) ∧ w.grownBy w' v.ownBlock ∧
      (v' = .slice none 0 0 ↔ v = .slice none 0 0 ∧ m = 0) ∧
      (∀ g j, v.ownBlock = some g → j < n → w'.cell? ⟨g, j, none⟩ = w.cell? ⟨g, j, none⟩) ∧ (v'.ownBlock = v.ownBlock ∨ v'.ownBlock = some w.heap.size) := by
  obtain ⟨v', w', hr, h2, h3, h4⟩ := run_append_own (P := P) w base t ty e i z 1 bytes ht hi hz hsize hby hzs (by omega) v n xs hown a m c news hl hnews h1 h63 hbytes hbase
  have hsmall : n + m ≤ 9223372036854775807 := by simp only [maxLen] at h63; omega
  have hl' : news.length = m * i.size := by rw [hsize]; exact hl
  subst hby
  refine ⟨v', w', hr, h2, h3, h4, ?_⟩
  rcases hown.2 with ⟨rfl, rfl⟩ | ⟨g, cap, cur, rfl, hbg, hg, hnc, hcm, hcs, htake⟩
  · have hr2 := run_append_nil (P := P) w t ty e i z ht hi hz a m c news hl' hnews hm (by omega) (by have hb := hbytes; simp only [Nat.zero_add] at hb; omega)
    rw [hr] at hr2
    injection hr2 with e1 e2
    subst e1
    exact ⟨fun g j hg => by simp [Value.ownBlock] at hg, .inr rfl⟩
  · by_cases hroom : n + m ≤ cap
    · have hfit : n * i.size + news.length ≤ cur.size := by rw [hl, hcs, hsize]; omega
      have hr2 := run_append_room (P := P) w t ty e i ht hi g n cap cur hg a m c news hl' hnews h1 hroom hfit
      rw [hr] at hr2
      injection hr2 with e1 e2
      subst e1
      subst e2
      refine ⟨fun g' j hg' hj => ?_, .inl rfl⟩
      simp only [Value.ownBlock, Option.some.injEq] at hg'
      subst hg'
      rw [cell_of_row _ _ _ _ _ _ (setRow_heap w g cur _ e _ hg), cell_of_row _ _ _ _ _ _ hg, hsize]
      rw [List.getElem?_toArray, List.append_assoc, List.getElem?_append_left (by rw [List.length_take]; simp; omega), List.getElem?_take, if_pos (by omega)]
      simp
    · have holds : ∀ j u, xs[j]? = some u → w.cell? ((⟨g, 0, none⟩ : Addr).add j) = some u := hown.cells (g := g) rfl
      have hr2 := run_append_grow (P := P) w t ty e i z ht hi hz ⟨g, 0, none⟩ n cap xs (by rw [hsize]; exact hown.1) holds a m c news hl' hnews (by omega) (by omega) (growslice_fits (by omega) hbytes)
      rw [hr] at hr2
      injection hr2 with e1 e2
      subst e1
      subst e2
      refine ⟨fun g' j hg' hj => ?_, .inr rfl⟩
      simp only [Value.ownBlock, Option.some.injEq] at hg'
      subst hg'
      exact World.cell?_of_block (w := w) (Below.heap_alloc w.drew _ g (Array.getElem?_eq_some_iff.1 hg).1)

theorem wpList_append_kept {P : Program} (w : World) {ops : Array Oper} {rest : List Oper} {o : Oper} {a : Act} {Q : Exit → Act → World → Prop} (hgd : o.guard = none) (s x : Operand) (t : TypeId)
    (ho : o.op = .call { callee := .builtin .append, args := #[s, x], argTypes := #[t, t] })
    (base : Nat) (e : TypeId) (i : TypeInfo) (z : Value) (bytes : Nat) (ht : P.underlying t = some (.slice e)) (hi : P.info? e = some i) (hz : i.zero = some z)
    (hsize : i.size = 1) (hby : i.bytes = bytes) (hzs : z.cells.size = 1)
    (v : Value) (n : Nat) (xs : List Value) (hs : a.eval s = v) (hown : w.ownsRow base e 1 v n xs)
    (ad : Addr) (m c : Nat) (news : List Value) (hx : a.eval x = .slice (some ad) m c) (hl : news.length = m * 1) (hnews : ∀ j u, news[j]? = some u → w.cell? (ad.add j) = some u) (h1 : ∀ u ∈ news, u.oneCell' = true) (hm : 0 < m)
    (h63 : n + m ≤ maxLen) (hbytes : (n + m) * bytes ≤ 140737488355328) (hbase : base ≤ w.heap.size)
    (h : ∀ v' w', w'.ownsRow base e 1 v' (n + m) (xs ++ news) → w.grownBy w' v.ownBlock → (v' = .slice none 0 0 ↔ v = .slice none 0 0 ∧ m = 0) →
      (∀ g j, v.ownBlock = some g → j < n → w'.cell? ⟨g, j, none⟩ = w.cell? ⟨g, j, none⟩) → (v'.ownBlock = v.ownBlock ∨ v'.ownBlock = some w.heap.size) → wpList P ops Q rest (a.put o.dst v') w') : wpList P ops Q (o :: rest) a w := by
  refine wpList_plain hgd fun K hK => ?_
  obtain ⟨v', w', hr, h2, h3, h4, h5, h6⟩ := run_append_kept (P := P) w base t o.type e i z bytes ht hi hz hsize hby hzs v n xs hown ad m c news hl hnews h1 hm h63 hbytes hbase
  unfold Oper.wp execOp
  simp only [ho, resolve, invoke, builtin, Sem.run_bind, Sem.run_pure, Result.andThen_ok, List.map_toArray, List.map_cons, List.map_nil, hs, hx, hr]
  exact hK _ _ (h v' w' h2 h3 h4 h5 h6)

/-- What 'appendRepeat' leaves behind k rounds. -/
structure Rep (base : Nat) (v : Value) (n0 : Nat) (xs : List Value) (c : Int) (w : World) (k : Nat) (v' : Value) (w' : World) : Prop where
  own : w'.ownsRow base 5 1 v' (n0 + k) (xs ++ List.replicate k (.int .u8 c))
  nil : v' = .slice none 0 0 ↔ v = .slice none 0 0 ∧ k = 0
  grown : w.grownBy w' v.ownBlock
  kept : ∀ g j, v.ownBlock = some g → j < n0 → w'.cell? ⟨g, j, none⟩ = w.cell? ⟨g, j, none⟩
  at' : v'.ownBlock = v.ownBlock ∨ ∀ g, v'.ownBlock = some g → w.heap.size ≤ g

theorem rep_zero {base : Nat} {v : Value} {n0 : Nat} {xs : List Value} {c : Int} {w : World} (h : w.ownsRow base 5 1 v n0 xs) : Rep base v n0 xs c w 0 v w :=
  ⟨by simpa using h, by simp, World.grownBy.refl _ _, fun _ _ _ _ => rfl, .inl rfl⟩

theorem rep_step {base : Nat} {v : Value} {n0 : Nat} {xs : List Value} {c : Int} {w wr w1 : World} {k : Nat} {u u' : Value} {o : Obj} (h : Rep base v n0 xs c w k u wr) (hv : w.ownsRow base 5 1 v n0 xs)
    (h1 : w1.ownsRow base 5 1 u' (n0 + k + 1) (xs ++ (List.replicate k (.int .u8 c) ++ [.int .u8 c]))) (h2 : (wr.alloc o).grownBy w1 u.ownBlock) (h3 : ¬ u' = .slice none 0 0)
    (h4 : ∀ g j, u.ownBlock = some g → j < n0 + k → w1.cell? ⟨g, j, none⟩ = (wr.alloc o).cell? ⟨g, j, none⟩) (h5 : u'.ownBlock = u.ownBlock ∨ u'.ownBlock = some (wr.heap.size + 1)) :
    Rep base v n0 xs c w (k + 1) u' w1 := by
  have hsz := h.grown.size
  have hsa : (wr.alloc o).heap.size = wr.heap.size + 1 := by simp
  refine ⟨?_, ?_, ⟨?_, ?_, ?_, ?_, ?_⟩, ?_, ?_⟩
  · rw [List.replicate_succ']; exact h1
  · constructor
    · intro hh; exact absurd hh h3
    · intro hh; omega
  · rw [h2.os]; exact h.grown.os
  · rw [h2.tape]; exact h.grown.tape
  · rw [h2.output]; exact h.grown.output
  · have := h2.size; omega
  · intro g hg hne
    rw [h2.block g (by omega) ?_, Below.heap_alloc _ _ _ (by omega), h.grown.block g hg hne]
    intro e
    rcases h.at' with h6 | h6
    · exact hne (e.trans h6)
    · have := h6 g e.symm; omega
  · intro g j hg hj
    have hlt := (hv.lt g hg).2
    by_cases e : u.ownBlock = some g
    · rw [h4 g j e (by omega), World.cell?_of_block (w := wr) (Below.heap_alloc _ _ _ (by show g < _; omega)), h.kept g j hg hj]
    · rw [World.cell?_of_block (w := wr.alloc o) (h2.block g (by omega) (fun e' => e e'.symm)), World.cell?_of_block (w := wr) (Below.heap_alloc _ _ _ (by show g < _; omega)), h.kept g j hg hj]
  · rcases h5 with h5 | h5
    · rw [h5]; exact h.at'
    · right
      intro g hg
      rw [h5] at hg
      simp at hg
      omega

end Go.Proofs.Ybulkccli
