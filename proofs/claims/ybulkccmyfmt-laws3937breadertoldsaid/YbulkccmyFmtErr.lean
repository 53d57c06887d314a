/-
  Seat b3937aF. fmt.Errorf (11) at "reading the index: %w" over an error that errors.New made: some error that is not nil; nothing old has turned. fmt's text itself is never looked at.
-/
import Derived.Test.YbulkccmyFmtMem
import Derived.Stop.CallBack
import Derived.Stop.IfaceNil
namespace Go.Proofs.YbulkccmyFmt
open Go.RowKit Go.Extern.Stop Go.Stop Go.Extern

/-- "reading the index: %w" -/
abbrev fmtS : ByteArray := { data := #[114, 101, 97, 100, 105, 110, 103, 32, 116, 104, 101, 32, 105, 110, 100, 101, 120, 58, 32, 37, 119] }

theorem Ybaf.call12 (args : Array Value) (w : World) : (callFunc 12 args).run Ybaf.prog w = ((FmtStop.errorf #[9, 53] #[36] args).run Ybaf.prog w).andThen fun v w' => .ok (.value v) w' :=
  run_callFunc_extern Ybaf.func12 (by kernel_rfl) (by kernel_rfl) (by kernel_rfl) (by kernel_rfl) args w
theorem Ybaf.guard (name : String) (w : World) : (FmtStop.guard name).run Ybaf.prog w = .ok () w := by kernel_rfl
theorem Ybaf.fmt0r (w : World) : (FmtDoors.printed fmtS 1).run Ybaf.prog w = .ok [(0, 119, false)] w := by kernel_rfl
theorem Ybaf.ptr55 (w : World) : (FmtStop.ptrTo "fmt.wrapError").run Ybaf.prog w = .ok 55 w := by kernel_rfl
theorem Ybaf.elem55 (w : World) : (elemOf 55).run Ybaf.prog w = .ok 75 w := by kernel_rfl
theorem Ybaf.isError56 (w : World) : (FmtDoors.textMethod 56 "Error").run Ybaf.prog w = .ok true w := by kernel_rfl
theorem Ybaf.opPlain56 (name : String) (a : Addr) (s : ByteArray) (w : World) (hc : w.cell? a = some (.string s)) :
    ∃ sh, (FmtStop.operand name true 119 false (.iface 56 (.pointer (some a)))).run Ybaf.prog w = .ok (sh, s.data.toList) w := by
  have h1 : (typeStr 56).run Ybaf.prog w = .ok Ybaf.t56.str w := by kernel_rfl
  have d2 : Ybaf.t56.desc = .pointer 58 := rfl
  have d3 : Ybaf.t58.desc = .named "errors.errorString" 57 := rfl
  refine ⟨14 :: FmtStop.pack Ybaf.t56.str.toUTF8.data.toList, ?_⟩
  simp [FmtStop.operand, h1, d2, d3, run_load, hc]

set_option maxHeartbeats 800000 in
set_option maxRecDepth 100000 in
theorem errorf_any (A : Nat) (a : Addr) (s : ByteArray) (w : World) (hA : w.cell? ⟨A, 0, none⟩ = some (.iface 56 (.pointer (some a)))) (hs : w.cell? a = some (.string s)) :
    Calls Ybaf.prog 11 #[.string fmtS, .slice (some ⟨A, 0, none⟩) 1 1] w fun e w' => ∃ p, e = .returned (.iface 55 (.pointer (some p))) ∧ Below w.heap.size w w' := by
  have h1 := Ybaf.call12
  have h2 := Ybaf.guard
  have h3 := Ybaf.fmt0r
  have h4 := Ybaf.ptr55
  have h5 := Ybaf.elem55
  have h6 := Ybaf.isError56
  obtain ⟨sh, h7⟩ := Ybaf.opPlain56 "fmt.errorf" a s w hs
  go_enter Ybaf.func11, Ybaf.ntmps11
  go_wp2
  go_ret
  exact ⟨_, rfl, ((Below.refl _ _).alloc (Nat.le_refl _) _).drew⟩
end Go.Proofs.YbulkccmyFmt
