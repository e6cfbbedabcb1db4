import Derived.Test.Qxb6612278aRows
import Derived.WalkKit
import Derived.ProofKit
import Derived.LaidEqlPtr
import Derived.Deep.QuietTactic
import Derived.BigQuiet
namespace Go.Proofs.Qxb6612278a
open Go.RowKit

theorem info60 : (Try.prog.info? 60).map (fun i => (i.zero, i.size, i.bytes)) = some (some (.agg #[.string ⟨#[]⟩, .nilIface]), 2, 32) := by kernel_rfl

theorem eql_ptr (F o1 o2 : Nat) (w : World) :
    (binOp .eql 56 (.pointer (some ⟨F, o1, none⟩)) (.pointer (some ⟨F, o2, none⟩))).run Try.prog w = .ok (.bool (decide (o1 = o2))) w := by
  obtain ⟨j, hj, _, hsz, _⟩ := info_parts info60
  by_cases h : o1 = o2
  · subst h
    rw [run_eql_ptr_same (te := 60) (j := j) w _ Try.underlying56 hj]
    simp
  · have hs : (sameAddr ⟨F, o1, none⟩ ⟨F, o2, none⟩).run Try.prog w = .ok false w := by
      simp [sameAddr]
    have hh : ∀ d : Nat, (Op.equalIn (d + 1) 56 (.pointer (some ⟨F, o1, none⟩)) (.pointer (some ⟨F, o2, none⟩))).run Try.prog w = .ok false w := fun d => by
      simp [Op.equalIn, run_underlying Try.underlying56, sizeOf, typeInfo, hj, hs, hsz]
    simp only [binOp]
    simp [Op.equal, Op.maxDepth, hh 9999, h]

set_option maxHeartbeats 400000 in
theorem ends_none (D F off n c cap : Nat) (w : World) (hc : w.cell? ⟨D, 10, none⟩ = some (.slice (some ⟨F, 0, none⟩) n c)) :
    Calls Try.prog 11 #[.pointer (some ⟨D, 0, none⟩), .slice (some ⟨F, off, none⟩) 0 cap] w fun e w' => e = .returned (.bool false) ∧ ∃ q, w' = w.drewN q := by
  go_enter Try.func11, Try.ntmps11
  go_wp2
  go_quiet (fail)
  go_wp2
  go_quiet (fail)
  go_wp2
  go_ret
  exact ⟨rfl, _, World.drewN_drewN ..⟩

set_option maxHeartbeats 400000 in
theorem ends_long (D F off n m c cap : Nat) (w : World) (hn : n < m) (hc : w.cell? ⟨D, 10, none⟩ = some (.slice (some ⟨F, 0, none⟩) n c)) :
    Calls Try.prog 11 #[.pointer (some ⟨D, 0, none⟩), .slice (some ⟨F, off, none⟩) m cap] w fun e w' => e = .returned (.bool false) ∧ ∃ q, w' = w.drewN q := by
  have h0 : 0 < m := by omega
  have h1 : (0 : Int) < (m : Int) := by omega
  have h2 : decide (m ≤ n) = false := by simp; omega
  go_enter Try.func11, Try.ntmps11
  go_wp2
  go_quiet (fail)
  go_wp2
  go_quiet (fail)
  go_wp2
  go_ret
  exact ⟨rfl, _, World.drewN_drewN ..⟩

set_option maxHeartbeats 400000 in
theorem ends_tail (D F off n m d c cap : Nat) (w : World) (hd : d + m = n) (hm : n ≤ 65536) (h0 : 0 < m) (hc : w.cell? ⟨D, 10, none⟩ = some (.slice (some ⟨F, 0, none⟩) n c)) :
    Calls Try.prog 11 #[.pointer (some ⟨D, 0, none⟩), .slice (some ⟨F, off, none⟩) m cap] w fun e w' => e = .returned (.bool (decide (d * 2 = off))) ∧ ∃ q, w' = w.drewN q := by
  have h1 : (0 : Int) < (m : Int) := by omega
  have h2 : (m : Int) ≤ (n : Int) := by omega
  have hw : IntKind.i64.wrap ((n : Int) - (m : Int)) = (d : Int) := by rw [IntKind.wrap_i64]; omega
  have h3 : (d : Int) < (n : Int) := by omega
  have heq := fun o1 o2 w => eql_ptr F o1 o2 w
  go_enter Try.func11, Try.ntmps11
  go_wp2
  go_quiet (fail)
  go_wp2
  go_quiet (fail)
  go_wp2
  go_ret
  exact ⟨rfl, _, World.drewN_drewN ..⟩

theorem grown_drewN {W w' : World} (h : Grown W w') (q : Nat) : Grown W (w'.drewN q) := h

theorem zero53size : ((Try.prog.info? 53).bind (fun i => i.zero)).map (fun v => match v with | .agg cs => cs.size | _ => 0) = some 148 := by kernel_rfl

theorem zero53 : ∃ cs : Array Value, cs.size = 148 ∧ ∀ w, (zeroValue 53).run Try.prog w = .ok (.agg cs) w := by
  have h := zero53size
  cases hi : Try.prog.info? 53 with
  | none => rw [hi] at h; cases h
  | some i =>
    rw [hi] at h
    cases hz : i.zero with
    | none => simp [hz] at h
    | some z =>
      simp [hz] at h
      split at h
      · next cs => exact ⟨cs, h, fun w => by simp [zeroValue, typeInfo, hi, hz]⟩
      · cases h

/-- ZZendsBlock answers what endsBlock answers over a new decoder whose member block is 'block'. -/
theorem zz_any (F off n c m cap : Nat) (r : Bool) (w : World)
    (H : ∀ D w', w'.cell? ⟨D, 10, none⟩ = some (.slice (some ⟨F, 0, none⟩) n c) → Calls Try.prog 11 #[.pointer (some ⟨D, 0, none⟩), .slice (some ⟨F, off, none⟩) m cap] w' fun e w'' => e = .returned (.bool r) ∧ ∃ q, w'' = w'.drewN q) :
    Calls Try.prog 7 #[.slice (some ⟨F, 0, none⟩) n c, .slice (some ⟨F, off, none⟩) m cap] w fun e w' => e = .returned (.bool r) ∧ Grown w w' := by
  obtain ⟨cs, hcs, hz⟩ := zero53
  have h10 : cs[10]? = some cs[10] := by simp
  have HH : Hid _ := H
  clear H
  go_enter Try.func7, Try.ntmps7
  go_wp2_with fail
  refine (HH.out w.heap.size _ ?_).mono ?_
  · simp [hcs]
  rintro e w' ⟨rfl, q, rfl⟩
  go_wp2
  go_ret
  exact ⟨rfl, grown_drewN ((Grown.refl _).alloc _ _) q⟩

/-- ZZnewMembers lays one new block. -/
theorem new_any (c : Nat) (hc : c ≤ 65536) (w : World) :
    Calls Try.prog 6 #[.int .i64 c] w fun e w' => e = .returned (.slice (some ⟨w.heap.size, 0, none⟩) c c) ∧ ∃ cs, w' = w.alloc (.cells cs 60) := by
  obtain ⟨i, hi, hz0, hz1, hz2⟩ := info_parts info60
  have hmk := fun w => run_make (P := Try.prog) w 22 60 i _ Try.underlying22 hi hz0 .i64 .i64 (c : Int) (c : Int) (by omega) (by omega) (by rw [hz2]; omega) (by omega)
  simp only [Int.toNat_natCast] at hmk
  go_enter Try.func6, Try.ntmps6
  go_wp2
  go_ret
  exact ⟨rfl, _, rfl⟩
end Go.Proofs.Qxb6612278a
