import Derived.Test.Qxb6612367aSearch
namespace Go.Proofs.Qxb6612367a
open Go.RowKit
set_option linter.unusedVariables false

set_option maxHeartbeats 800000 in
theorem domain_some (b off n c : Nat) (es : List Int) (w : World) (hn : n ≤ 65536) (hp : 0 < n)
    (hz : ∀ i, i < n → 0 ≤ es.getD i 0 ∧ es.getD i 0 ≤ 18446744073709551615)
    (hc : ∀ i, i < n → w.cell? ⟨b, off + i, none⟩ = some (.int .u64 (es.getD i 0))) :
    Calls Try.prog 6 #[.slice (some ⟨b, off, none⟩) n c] w fun e w' => ∃ r, e = .returned (.bool r) ∧ ∃ q, w' = w.drewN q := by
  have HC : Hid _ := hc
  have HZ : Hid _ := hz
  clear hc hz
  go_enter Try.func6, Try.ntmps6
  go_wp2_with fail
  go_loopw [3] (fun si wr => ∃ k : Nat, k ≤ n ∧ si = .int .i64 k ∧ ∃ q, wr = w.drewN q) (fun si _ => n - (intOf si).toNat)
  case atStart => exact ⟨0, by omega, rfl, 0, rfl⟩
  case round =>
    obtain ⟨k, hk, rfl, q, rfl⟩ := hrel
    by_cases hlt : k < n
    · obtain ⟨x, hx⟩ : ∃ x, x = es.getD k 0 := ⟨_, rfl⟩
      have hbd := HZ.out k hlt
      have hcw := HC.out k hlt
      rw [← hx] at hcw hbd
      clear hx
      by_cases h0 : (bits BinOp.and IntKind.u64 x 255 == 0) = true
      · go_wp2
        go_ret
        exact ⟨_, rfl, _, rfl⟩
      · have h0' : (bits BinOp.and IntKind.u64 x 255 == 0) = false := by simpa using h0
        clear h0
        by_cases h7 : 7 < bits BinOp.and IntKind.u64 x 255
        · go_wp2
          go_ret
          exact ⟨_, rfl, _, rfl⟩
        · by_cases hk0 : k = 0
          · subst hk0
            rw [Nat.add_zero] at hcw
            go_wp2
            go_quiet (fail)
            go_wp2
            go_roundw
            case rel => exact ⟨1, by omega, by go_num, _, by first | rfl | exact World.drewN_drewN ..⟩
            case measure => simp [intOf]; omega
          · obtain ⟨j, rfl⟩ : ∃ j, k = j + 1 := ⟨k - 1, by omega⟩
            obtain ⟨y, hy⟩ : ∃ y, y = es.getD j 0 := ⟨_, rfl⟩
            have hbd2 := HZ.out j (by omega)
            have hcw2 := HC.out j (by omega)
            rw [← hy] at hcw2 hbd2
            clear hy
            by_cases hge : x / 256 ≤ y / 256
            · go_wp2
              go_quiet (fail)
              go_wp2
              go_ret
              exact ⟨_, rfl, _, by first | rfl | exact World.drewN_drewN ..⟩
            · have hge' : decide (x / 256 ≤ y / 256) = false := by simpa using hge
              go_wp2
              go_quiet (fail)
              go_wp2
              go_roundw
              case rel => exact ⟨j + 1 + 1, by omega, by go_num, _, by first | rfl | exact World.drewN_drewN ..⟩
              case measure => simp [intOf]; omega
    · go_wp2
      go_ret
      exact ⟨_, rfl, _, rfl⟩

theorem domain_none (a : Option Addr) (c : Nat) (w : World) :
    Calls Try.prog 6 #[.slice a 0 c] w fun e w' => ∃ r, e = .returned (.bool r) ∧ ∃ q, w' = w.drewN q := by
  go_enter Try.func6, Try.ntmps6
  go_wp2_with fail
  refine wp_loop_rounds 1 ?_
  rw [rounds_succ]
  go_wp2
  go_ret
  exact ⟨_, rfl, 0, rfl⟩

theorem bytes_any (a : Option Addr) (n c : Nat) (i o t : Int) (w : World) (hn : n ≤ 1048576) :
    Calls Try.prog 10 #[.slice a n c, .int .u64 i, .int .u8 o, .int .u64 t] w fun e w' => e = .returned (.bool true) ∧ w' = w := by
  go_enter Try.func10, Try.ntmps10
  go_wp2
  go_ret
  exact ⟨rfl, rfl⟩

theorem bytes_long (a : Option Addr) (n c : Nat) (i o t : Int) (w : World) (hn : 1048576 < n) :
    Calls Try.prog 10 #[.slice a n c, .int .u64 i, .int .u8 o, .int .u64 t] w fun e w' => e = .returned (.bool false) ∧ w' = w := by
  go_enter Try.func10, Try.ntmps10
  go_wp2
  go_ret
  exact ⟨rfl, rfl⟩
end Go.Proofs.Qxb6612367a
