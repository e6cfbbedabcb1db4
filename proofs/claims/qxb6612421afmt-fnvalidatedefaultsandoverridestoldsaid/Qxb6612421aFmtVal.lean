import Derived.Test.Qxb6612421aFmtFacts
import Derived.WalkKit
import Derived.WalkSpells
import Derived.Laws.EntriesVeiled
namespace Go.Proofs.Qxb6612421aFmt
open Go.RowKit Go.Extern.Stop Go.Stop Go.Extern
attribute [local go_sem] call16 guardF fmtA fmtAr fmtA0 fmtA0r fmtB fmtBr fmtB0 fmtB0r op3 op3w strict3 ptr55 elem55 isError55 ptr53 elem53 isError53

theorem default_any (w : World) :
    Calls Tryf.prog 9 #[] w fun e w' => e = .returned (.agg #[.int .i64 10, .int .i64 50, .bool false, .bool false, .bool false, .nilFunc]) ∧ w' = w.alloc (.cells #[.int .i64 10, .int .i64 50, .bool false, .bool false, .bool false, .nilFunc] 30) := by
  go_enter Tryf.func9, Tryf.ntmps9
  go_wp2
  exact bodyPost_ret (v := .agg #[.int .i64 10, .int .i64 50, .bool false, .bool false, .bool false, .nilFunc]) (by simp [results, Tryf.results9, go_sem]) rfl ⟨rfl, rfl⟩

/-- Within range: no error. -/
theorem valid_ok (a b : Int) (h1 : 0 ≤ a) (h2 : 0 ≤ b) (h3 : b ≤ 4095) (w : World) :
    Calls Tryf.prog 10 #[.agg #[.int .i64 a, .int .i64 b, .bool false, .bool false, .bool false, .nilFunc]] w fun e w' => e = .returned .nilIface ∧ w' = w.alloc (.cells #[.int .i64 a, .int .i64 b, .bool false, .bool false, .bool false, .nilFunc] 30) := by
  go_enter Tryf.func10, Tryf.ntmps10
  go_wp2
  go_ret
  exact ⟨rfl, rfl⟩

set_option maxHeartbeats 400000 in
theorem valid_win (F : Interp) (a b : Int) (h1 : a < 0) (w : World) (hF : F.answers w.tape) :
    Calls Tryf.prog 10 #[.agg #[.int .i64 a, .int .i64 b, .bool false, .bool false, .bool false, .nilFunc]] w fun e w' => (∃ p, e = .returned (.iface 55 (.pointer (some p)))) ∧ Below w.heap.size w w' := by
  have hF' := answers_open hF
  go_enter Tryf.func10, Tryf.ntmps10
  go_wp2
  go_ret
  exact ⟨⟨_, rfl⟩, ((((Below.refl _ _).alloc (Nat.le_refl _) _).alloc (by simp) _).alloc (by simp; omega) _).drew⟩

set_option maxHeartbeats 400000 in
theorem valid_low (F : Interp) (a b : Int) (h1 : 0 ≤ a) (h2 : b < 0) (w : World) (hF : F.answers w.tape) :
    Calls Tryf.prog 10 #[.agg #[.int .i64 a, .int .i64 b, .bool false, .bool false, .bool false, .nilFunc]] w fun e w' => (∃ p, e = .returned (.iface 55 (.pointer (some p)))) ∧ Below w.heap.size w w' := by
  have hF' := answers_open hF
  go_enter Tryf.func10, Tryf.ntmps10
  go_wp2
  go_ret
  exact ⟨⟨_, rfl⟩, ((((Below.refl _ _).alloc (Nat.le_refl _) _).alloc (by simp) _).alloc (by simp; omega) _).drew⟩

set_option maxHeartbeats 400000 in
theorem valid_deep (F : Interp) (a b : Int) (h1 : 0 ≤ a) (h2 : 4095 < b) (w : World) (hF : F.answers w.tape) :
    Calls Tryf.prog 10 #[.agg #[.int .i64 a, .int .i64 b, .bool false, .bool false, .bool false, .nilFunc]] w fun e w' => (∃ p, e = .returned (.iface 55 (.pointer (some p)))) ∧ Below w.heap.size w w' := by
  have hF' := answers_open hF
  go_enter Tryf.func10, Tryf.ntmps10
  go_wp2
  go_ret
  exact ⟨⟨_, rfl⟩, ((((Below.refl _ _).alloc (Nat.le_refl _) _).alloc (by simp) _).alloc (by simp; omega) _).drew⟩

/-- Out of range: an error. -/
theorem valid_bad (F : Interp) (a b : Int) (h : ¬ (0 ≤ a ∧ 0 ≤ b ∧ b ≤ 4095)) (w : World) (hF : F.answers w.tape) :
    Calls Tryf.prog 10 #[.agg #[.int .i64 a, .int .i64 b, .bool false, .bool false, .bool false, .nilFunc]] w fun e w' => (∃ p, e = .returned (.iface 55 (.pointer (some p)))) ∧ Below w.heap.size w w' := by
  by_cases h1 : a < 0
  · exact valid_win F a b h1 w hF
  · by_cases h2 : b < 0
    · exact valid_low F a b (by omega) h2 w hF
    · exact valid_deep F a b (by omega) (by omega) w hF
end Go.Proofs.Qxb6612421aFmt
