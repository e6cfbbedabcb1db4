import Derived.Test.Qxb6612367aSorted
import Derived.Maps.Own
import Derived.Maps.OwnOps
import Derived.Maps.OwnSet
namespace Go.Proofs.Qxb6612367a
open Go.RowKit
set_option linter.unusedVariables false

set_option maxHeartbeats 400000 in
theorem entry_yes (T M : Nat) (a z t : Int) (w : World) (hT : T < w.heap.size) (c6 : w.cell? ⟨T, 6, none⟩ = some (.map (some M)))
    (hlook : (Instr.lookup 53 (.map (some M)) (.int .u64 t) true).run Try.prog w = .ok (.tuple #[.agg #[.int .u8 a, .int .u64 z], .bool true]) w) :
    Calls Try.prog 8 #[.pointer (some ⟨T, 0, none⟩), .int .u64 t] w fun e w' => e = .returned (.tuple #[.int .u8 a, .bool (a != 0)]) ∧ ∃ C q, w' = (w.alloc (.cells C 43)).drewN q := by
  go_enter Try.func8, Try.ntmps8
  go_wp2
  go_quiet (fail)
  go_wp2
  go_ret2
  exact ⟨rfl, _, _, rfl⟩

set_option maxHeartbeats 400000 in
theorem entry_no (T M : Nat) (a z t m : Int) (ok : Bool) (w : World) (hT : T < w.heap.size) (c6 : w.cell? ⟨T, 6, none⟩ = some (.map (some M)))
    (hlook : (Instr.lookup 53 (.map (some M)) (.int .u64 t) true).run Try.prog w = .ok (.tuple #[.agg #[.int .u8 a, .int .u64 z], .bool false]) w)
    (H : ∀ C, Calls Try.prog 16 #[.pointer (some ⟨T, 0, none⟩), .int .u64 t] (w.alloc (.cells C 43)) fun e w' => e = .returned (.tuple #[.int .u8 m, .bool ok]) ∧ ∃ q, w' = (w.alloc (.cells C 43)).drewN q) :
    Calls Try.prog 8 #[.pointer (some ⟨T, 0, none⟩), .int .u64 t] w fun e w' => e = .returned (.tuple #[.int .u8 m, .bool ok]) ∧ ∃ C q, w' = (w.alloc (.cells C 43)).drewN q := by
  have HH : Hid _ := H
  clear H
  go_enter Try.func8, Try.ntmps8
  go_wp2_with (go_at_call 15; go_in)
  refine (HH.out _).mono ?_
  rintro e w' ⟨rfl, q, rfl⟩
  go_wp2
  go_ret2
  exact ⟨rfl, _, _, rfl⟩
end Go.Proofs.Qxb6612367a
