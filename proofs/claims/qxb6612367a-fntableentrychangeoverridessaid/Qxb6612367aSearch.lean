import Derived.Test.Qxb6612367aRows
import Derived.Test.Qxb6612367aPlain
import Derived.WalkKit
import Derived.ProofKit
import Derived.Deep.QuietTactic
import Derived.BigQuiet
namespace Go.Proofs.Qxb6612367a
open Go.RowKit
set_option linter.unusedVariables false

theorem less_any (x y : Int) (w : World) :
    Calls Try.prog 22 #[.int .u64 x, .int .u64 y] w fun e w' => e = .returned (.bool (decide (x < y))) ∧ w' = w := by
  go_enter Try.func22, Try.ntmps22
  go_wp2
  go_ret
  exact ⟨rfl, rfl⟩

theorem ident_any (x : Int) (h0 : 0 ≤ x) (_h1 : x ≤ 18446744073709551615) (w : World) :
    Calls Try.prog 27 #[.int .u64 x] w fun e w' => e = .returned (.int .u64 (x / 256)) ∧ w' = w := by
  go_enter Try.func27, Try.ntmps27
  go_wp2
  go_ret
  exact ⟨rfl, rfl⟩

/-- The lists of a word. -/
def lst (x : Int) : Int := bits BinOp.and IntKind.u64 x 255 % 256

theorem lists_any (x : Int) (_h0 : 0 ≤ x) (_h1 : x ≤ 18446744073709551615) (w : World) :
    Calls Try.prog 21 #[.int .u64 x] w fun e w' => e = (.returned (.int .u8 (lst x))) ∧ w' = w := by
  go_enter Try.func21, Try.ntmps21
  go_wp2
  go_ret
  exact ⟨rfl, rfl⟩
theorem comp_lt (x y : Int) (h : x < y) (w : World) :
    Calls Try.prog 26 #[.int .u64 x, .int .u64 y] w fun e w' => e = .returned (.int .i64 (-1)) ∧ w' = w := by
  go_enter Try.func26, Try.ntmps26
  go_wp2
  go_ret
  exact ⟨rfl, rfl⟩
theorem comp_gt (x y : Int) (h : y < x) (w : World) :
    Calls Try.prog 26 #[.int .u64 x, .int .u64 y] w fun e w' => e = .returned (.int .i64 1) ∧ w' = w := by
  go_enter Try.func26, Try.ntmps26
  go_wp2
  go_ret
  exact ⟨rfl, rfl⟩
theorem comp_eq (x : Int) (w : World) :
    Calls Try.prog 26 #[.int .u64 x, .int .u64 x] w fun e w' => e = .returned (.int .i64 0) ∧ w' = w := by
  go_enter Try.func26, Try.ntmps26
  go_wp2
  go_ret
  exact ⟨rfl, rfl⟩

set_option maxHeartbeats 400000 in
theorem bin_some (b off n c : Nat) (xs : List Int) (t : Int) (w : World) (hl : xs.length = n) (hn : n ≤ 65536) (hp : 0 < n)
    (hc : ∀ i, i < n → w.cell? ⟨b, off + i, none⟩ = some (.int .u64 (xs.getD i 0))) :
    Calls Try.prog 19 #[.slice (some ⟨b, off, none⟩) n c, .int .u64 t] w fun e w' => e = .returned (.tuple #[.int .i64 (place xs t : Nat), .bool (hit xs t)]) ∧ w' = w := by
  have HC : Hid _ := hc
  clear hc
  obtain ⟨R, hR⟩ : ∃ R, R = bs (fun h => decide (xs.getD h 0 < t)) n 0 n := ⟨_, rfl⟩
  have HP : Hid (place xs t = R) := by rw [hR]; unfold Hid place; rw [hl]
  have HR : Hid _ := hR
  have HL : Hid _ := hl
  clear hR hl
  go_enter Try.func19, Try.ntmps19
  go_wp2_with fail
  go_loop [7, 8] (fun si sj => ∃ i j : Nat, i ≤ j ∧ j ≤ n ∧ si = .int .i64 i ∧ sj = .int .i64 j ∧ bs (fun h => decide (xs.getD h 0 < t)) n i j = R) (fun si sj => (intOf sj - intOf si).toNat)
  case atStart => exact ⟨0, n, by omega, by omega, rfl, rfl, HR.out.symm⟩
  case round =>
    obtain ⟨i, j, hij, hjn, rfl, rfl, hbs⟩ := hrel
    have HB : Hid _ := hbs
    clear hbs
    by_cases hlt : i < j
    · obtain ⟨h, hh⟩ : ∃ h : Nat, h = (i + j) / 2 := ⟨_, rfl⟩
      have e : ((i : Int) + (j : Int)) / 2 = (h : Int) := by omega
      have b1 : i ≤ h := by omega
      have b2 : h < j := by omega
      have b3 : h < n := by omega
      have HH : Hid _ := hh
      clear hh
      obtain ⟨x, hx⟩ : ∃ x, x = xs.getD h 0 := ⟨_, rfl⟩
      have hcell := HC.out h b3
      rw [← hx] at hcell
      have HX : Hid _ := hx
      clear hx
      by_cases hlx : x < t
      · have hd : decide (x < t) = true := by simp [hlx]
        have hu : bs (fun h => decide (xs.getD h 0 < t)) n (h + 1) j = R := by
          rw [HH.out, ← bs_up _ n i j hlt (by omega) (by rw [← HH.out, ← HX.out]; exact hd)]; exact HB.out
        have HU : Hid _ := hu
        clear hu
        go_wp2_with fail
        refine (less_any x t _).mono ?_
        rintro e w' ⟨rfl, rfl⟩
        go_wp2
        go_round
        case rel => exact ⟨h + 1, j, by omega, by omega, by go_num, rfl, HU.out⟩
        case measure => simp [intOf]; omega
      · have hd : decide (x < t) = false := by simpa using hlx
        have hu : bs (fun h => decide (xs.getD h 0 < t)) n i h = R := by
          rw [HH.out, ← bs_down _ n i j hlt (by omega) (by rw [← HH.out, ← HX.out]; exact hd)]; exact HB.out
        have HU : Hid _ := hu
        clear hu
        go_wp2_with fail
        refine (less_any x t _).mono ?_
        rintro e w' ⟨rfl, rfl⟩
        go_wp2
        go_round
        case rel => exact ⟨i, h, by omega, by omega, rfl, rfl, HU.out⟩
        case measure => simp [intOf]; omega
    · obtain rfl : i = j := by omega
      have HE : Hid (place xs t = i) := by
        have h1 := HB.out
        rw [bs_done] at h1
        exact HP.out.trans h1.symm
      by_cases hin : i < n
      · obtain ⟨x, hx⟩ : ∃ x, x = xs.getD i 0 := ⟨_, rfl⟩
        have hcell := HC.out i hin
        rw [← hx] at hcell
        have HX : Hid _ := hx
        clear hx
        by_cases hxt : x = t
        · have HF : Hid (hit xs t = true) := by unfold Hid hit; rw [HE.out, HL.out, ← HX.out]; simp [hin, hxt]
          subst hxt
          go_wp2
          go_ret2
          exact ⟨by rw [HE.out, HF.out]; rfl, rfl⟩
        · have HF : Hid (hit xs t = false) := by unfold Hid hit; rw [HE.out, HL.out, ← HX.out]; simp [hxt]
          have hne : (x == t) = false := by simp [hxt]
          go_wp2
          go_ret2
          exact ⟨by rw [HE.out, HF.out]; rfl, rfl⟩
      · have HF : Hid (hit xs t = false) := by unfold Hid hit; rw [HE.out, HL.out]; simp [hin]
        go_wp2
        go_ret2
        exact ⟨by rw [HE.out, HF.out]; rfl, rfl⟩

theorem bin_none (a : Option Addr) (c : Nat) (t : Int) (w : World) :
    Calls Try.prog 19 #[.slice a 0 c, .int .u64 t] w fun e w' => e = .returned (.tuple #[.int .i64 0, .bool false]) ∧ w' = w := by
  go_enter Try.func19, Try.ntmps19
  go_wp2_with fail
  refine wp_loop_rounds 1 ?_
  rw [rounds_succ]
  go_wp2
  go_ret2
  exact ⟨rfl, rfl⟩
end Go.Proofs.Qxb6612367a
