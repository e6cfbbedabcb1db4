import Derived.Test.Qxb6612307aRows
import Derived.WalkKit
import Derived.ProofKit
namespace Go.Proofs.Qxb6612307a
open Go.RowKit

/-- Which bytes may open an identifier. -/
def startB (c : Int) : Bool := decide ((97 ≤ c ∧ c ≤ 122) ∨ (65 ≤ c ∧ c ≤ 90) ∨ c = 95)

theorem startB_yes {c : Int} (h : (97 ≤ c ∧ c ≤ 122) ∨ (65 ≤ c ∧ c ≤ 90) ∨ c = 95) : startB c = true := by simpa [startB] using h
theorem startB_no {c : Int} (h : ¬ ((97 ≤ c ∧ c ≤ 122) ∨ (65 ≤ c ∧ c ≤ 90) ∨ c = 95)) : startB c = false := by simpa [startB] using h

theorem start_any (c : Int) (w : World) :
    Calls Try.prog 5 #[.int .u8 c] w fun e w' => e = .returned (.bool (startB c)) ∧ w' = w := by
  by_cases h1 : 97 ≤ c
  · by_cases h2 : c ≤ 122
    · rw [startB_yes (by omega)]
      go_enter Try.func5, Try.ntmps5
      go_wp2
      go_ret
      exact ⟨rfl, rfl⟩
    · rw [startB_no (by omega)]
      have h3 : (c == 95) = false := by simp; omega
      have h4 : ¬ c ≤ 90 := by omega
      go_enter Try.func5, Try.ntmps5
      go_wp2
      go_ret
      exact ⟨rfl, rfl⟩
  · by_cases h2 : 65 ≤ c
    · by_cases h3 : c ≤ 90
      · rw [startB_yes (by omega)]
        go_enter Try.func5, Try.ntmps5
        go_wp2
        go_ret
        exact ⟨rfl, rfl⟩
      · by_cases h4 : c = 95
        · subst h4
          rw [startB_yes (by omega)]
          go_enter Try.func5, Try.ntmps5
          go_wp2
          go_ret
          exact ⟨rfl, rfl⟩
        · rw [startB_no (by omega)]
          have h5 : (c == 95) = false := by simp; omega
          go_enter Try.func5, Try.ntmps5
          go_wp2
          go_ret
          exact ⟨rfl, rfl⟩
    · rw [startB_no (by omega)]
      have h5 : (c == 95) = false := by simp; omega
      go_enter Try.func5, Try.ntmps5
      go_wp2
      go_ret
      exact ⟨rfl, rfl⟩

/-- The hand-written alphabet, place by place. -/
def alphaAt (k : Nat) : Int := if k < 26 then 65 + k else if k = 26 then 95 else 70 + k

def alpha : ByteArray := ⟨#[65, 66, 67, 68, 69, 70, 71, 72, 73, 74, 75, 76, 77, 78, 79, 80, 81, 82, 83, 84, 85, 86, 87, 88, 89, 90, 95, 97, 98, 99, 100, 101, 102, 103, 104, 105, 106, 107, 108, 109, 110, 111, 112, 113, 114, 115, 116, 117, 118, 119, 120, 121, 122]⟩

theorem alpha_at : ∀ (k : Nat) (h : k < 53), (((alpha[k]'h).toNat : Nat) : Int) = alphaAt k := by decide +kernel

/-- A byte stands at some place of the alphabet just if it may open an identifier. -/
theorem start_of_at {c : Int} {k : Nat} (hk : k < 53) (h : alphaAt k = c) : startB c = true := by
  apply startB_yes
  unfold alphaAt at h
  split at h
  · omega
  · split at h <;> omega

theorem start_of_none {c : Int} (h : ∀ j, j < 53 → ¬ alphaAt j = c) : startB c = false := by
  apply startB_no
  intro hc
  rcases hc with hc | hc | hc
  · refine h (c.toNat - 70) (by omega) ?_
    unfold alphaAt
    rw [if_neg (by omega), if_neg (by omega)]
    omega
  · refine h (c.toNat - 65) (by omega) ?_
    unfold alphaAt
    rw [if_pos (by omega)]
    omega
  · refine h 26 (by omega) ?_
    unfold alphaAt
    rw [if_neg (by omega), if_pos rfl]
    omega

set_option maxHeartbeats 400000 in
theorem alpha_any (c : Int) (w : World) :
    Calls Try.prog 6 #[.int .u8 c] w fun e w' => e = .returned (.bool (startB c)) ∧ w' = w := by
  go_enter Try.func6, Try.ntmps6
  go_wp2
  go_loop [3] (fun i => ∃ k : Nat, k ≤ 53 ∧ i = .int .i64 k ∧ ∀ j, j < k → ¬ alphaAt j = c) (fun i => 53 - (intOf i).toNat)
  case atStart => exact ⟨0, by omega, rfl, fun j hj => by omega⟩
  case round =>
    obtain ⟨k, hk, rfl, hno⟩ := hrel
    have HN : Hid _ := hno
    clear hno
    by_cases hlt : k < 53
    · go_wp2
      · have hyes : ((((alpha[k]'hlt).toNat : Nat) : Int) == c) = true := by assumption
        rw [alpha_at k hlt, beq_iff_eq] at hyes
        have hs := start_of_at hlt hyes
        go_ret
        exact ⟨by rw [hs]; rfl, rfl⟩
      · have hnot : ((((alpha[k]'hlt).toNat : Nat) : Int) == c) = false := by assumption
        rw [alpha_at k hlt, beq_eq_false_iff_ne] at hnot
        go_round
        case rel =>
          refine ⟨k + 1, by omega, by go_num, fun j hj => ?_⟩
          by_cases e : j = k
          · subst e; exact hnot
          · exact HN.out j (by omega)
        case measure => simp [intOf]; omega
    · have hs := start_of_none (c := c) (fun j hj => HN.out j (by omega))
      go_wp2
      go_ret
      exact ⟨rfl, rfl⟩

/-- How many identifier-start bytes lie in [0, n]. -/
def rank (n : Int) : Int := (if 65 ≤ n then (if 90 < n then 26 else n - 64) else 0) + (if 95 ≤ n then 1 else 0) + (if 97 ≤ n then (if 122 < n then 26 else n - 96) else 0)

theorem rank_bounds (n : Int) : 0 ≤ rank n ∧ rank n ≤ 53 := by unfold rank; omega
theorem rank_low : rank (-1) = 0 := by decide
theorem rank_yes {n : Int} (h : startB n = true) : rank n = rank (n - 1) + 1 := by
  have h' : (97 ≤ n ∧ n ≤ 122) ∨ (65 ≤ n ∧ n ≤ 90) ∨ n = 95 := by simpa [startB] using h
  unfold rank
  omega
theorem rank_no {n : Int} (h : startB n = false) : rank n = rank (n - 1) := by
  have h' : ¬ ((97 ≤ n ∧ n ≤ 122) ∨ (65 ≤ n ∧ n ≤ 90) ∨ n = 95) := by simpa [startB] using h
  unfold rank
  omega

theorem rank_any (n : Int) (h0 : 0 ≤ n) (h1 : n ≤ 255) (w : World) :
    Calls Try.prog 7 #[.int .i64 n] w fun e w' => e = .returned (.int .i64 (rank n)) ∧ w' = w := by
  by_cases a1 : 65 ≤ n
  · by_cases a2 : 90 < n
    · by_cases a3 : 95 ≤ n
      · by_cases a4 : 97 ≤ n
        · by_cases a5 : 122 < n
          · rw [show rank n = 53 by unfold rank; omega]
            go_enter Try.func7, Try.ntmps7
            go_wp2
            go_ret
            exact ⟨rfl, rfl⟩
          · rw [show rank n = 27 + (n - 97 + 1) by unfold rank; omega]
            go_enter Try.func7, Try.ntmps7
            go_wp2
            go_ret
            exact ⟨rfl, rfl⟩
        · rw [show rank n = 27 by unfold rank; omega]
          go_enter Try.func7, Try.ntmps7
          go_wp2
          go_ret
          exact ⟨rfl, rfl⟩
      · rw [show rank n = 26 by unfold rank; omega]
        have a4 : ¬ 97 ≤ n := by omega
        go_enter Try.func7, Try.ntmps7
        go_wp2
        go_ret
        exact ⟨rfl, rfl⟩
    · rw [show rank n = n - 65 + 1 by unfold rank; omega]
      have a3 : ¬ 95 ≤ n := by omega
      have a4 : ¬ 97 ≤ n := by omega
      go_enter Try.func7, Try.ntmps7
      go_wp2
      go_ret
      exact ⟨rfl, rfl⟩
  · rw [show rank n = 0 by unfold rank; omega]
    have a3 : ¬ 95 ≤ n := by omega
    have a4 : ¬ 97 ≤ n := by omega
    go_enter Try.func7, Try.ntmps7
    go_wp2
    go_ret
    exact ⟨rfl, rfl⟩
end Go.Proofs.Qxb6612307a
