import Derived.Test.Qxb6612367aFunc
namespace Go.Proofs.Qxb6612367a
open Go.RowKit
set_option linter.unusedVariables false

/-- No block begins at or ahead of t. -/
theorem block_nil (x v : Value) (t : Int) (w : World)
    (H : Calls Try.prog 19 #[x, .int .u64 t] w fun e w' => e = .returned (.tuple #[.int .i64 0, .bool false]) ∧ w' = w) :
    Calls Try.prog 17 #[x, v, .int .u64 t] w fun e w' => e = .returned (.slice none 0 0) ∧ w' = w := by
  have HH : Hid _ := H
  clear H
  go_enter Try.func17, Try.ntmps17
  go_wp2_with fail
  refine Calls.mono HH.out ?_
  rintro e w' ⟨rfl, rfl⟩
  go_wp2
  go_ret
  exact ⟨rfl, rfl⟩

/-- The last block that begins at or ahead of t: the search ended at i, and did not hit: i = s + 1. -/
theorem block_miss (x : Value) (g n cap s : Nat) (t : Int) (w : World) (hs : s * 128 < n) (hn : n ≤ 65536) (hcap : n ≤ cap)
    (H : Calls Try.prog 19 #[x, .int .u64 t] w fun e w' => e = .returned (.tuple #[.int .i64 ((s + 1 : Nat) : Int), .bool false]) ∧ w' = w) :
    Calls Try.prog 17 #[x, .slice (some ⟨g, 0, none⟩) n cap, .int .u64 t] w fun e w' => e = .returned (.slice (some ⟨g, s * 128, none⟩) (min (s * 128 + 128) n - s * 128) (cap - s * 128)) ∧ w' = w := by
  have HH : Hid _ := H
  clear H
  have e1 : ((s + 1 : Nat) : Int) = (s : Int) + 1 := by omega
  have e2 : (((s : Int) + 1) == 0) = false := by simp; omega
  have e3 : ¬ cap = s * 128 := by omega
  rw [e1] at HH
  by_cases hm : s * 128 + 128 ≤ n
  · rw [show min (s * 128 + 128) n = s * 128 + 128 by omega]
    go_enter Try.func17, Try.ntmps17
    go_wp2_with fail
    refine Calls.mono HH.out ?_
    rintro e w' ⟨rfl, rfl⟩
    go_wp2
    go_ret
    exact ⟨rfl, rfl⟩
  · rw [show min (s * 128 + 128) n = n by omega]
    have hm' : n < s * 128 + 128 := by omega
    have hm2 : n ≤ s * 128 + 128 := by omega
    clear hm
    go_enter Try.func17, Try.ntmps17
    go_wp2_with fail
    refine Calls.mono HH.out ?_
    rintro e w' ⟨rfl, rfl⟩
    go_wp2
    go_ret
    exact ⟨rfl, rfl⟩

/-- .. and hit: i = s. -/
theorem block_hit (x : Value) (g n cap s : Nat) (t : Int) (w : World) (hs : s * 128 < n) (hn : n ≤ 65536) (hcap : n ≤ cap)
    (H : Calls Try.prog 19 #[x, .int .u64 t] w fun e w' => e = .returned (.tuple #[.int .i64 (s : Int), .bool true]) ∧ w' = w) :
    Calls Try.prog 17 #[x, .slice (some ⟨g, 0, none⟩) n cap, .int .u64 t] w fun e w' => e = .returned (.slice (some ⟨g, s * 128, none⟩) (min (s * 128 + 128) n - s * 128) (cap - s * 128)) ∧ w' = w := by
  have HH : Hid _ := H
  clear H
  have e2 : (((s : Int) + 1) == 0) = false := by simp; omega
  have e3 : ¬ cap = s * 128 := by omega
  by_cases hm : s * 128 + 128 ≤ n
  · rw [show min (s * 128 + 128) n = s * 128 + 128 by omega]
    go_enter Try.func17, Try.ntmps17
    go_wp2_with fail
    refine Calls.mono HH.out ?_
    rintro e w' ⟨rfl, rfl⟩
    go_wp2
    go_ret
    exact ⟨rfl, rfl⟩
  · rw [show min (s * 128 + 128) n = n by omega]
    have hm' : n < s * 128 + 128 := by omega
    have hm2 : n ≤ s * 128 + 128 := by omega
    clear hm
    go_enter Try.func17, Try.ntmps17
    go_wp2_with fail
    refine Calls.mono HH.out ?_
    rintro e w' ⟨rfl, rfl⟩
    go_wp2
    go_ret
    exact ⟨rfl, rfl⟩
end Go.Proofs.Qxb6612367a
