import Derived.Test.Qxb6612367aSearch
namespace Go.Proofs.Qxb6612367a
open Go.RowKit
set_option linter.unusedVariables false

/-- What the closure of (entryIndex).search answers. -/
def cmpI (x t : Int) : Int := if x < t then -1 else if t < x then 1 else 0

theorem clos_any (x t : Int) (h0 : 0 ≤ x) (h1 : x ≤ 18446744073709551615) (w : World) :
    Calls Try.prog 25 #[.int .u64 x, .int .u64 t] w fun e w' => e = .returned (.int .i64 (cmpI (x / 256) t)) ∧ w' = w := by
  by_cases a : x / 256 < t
  · rw [show cmpI (x / 256) t = -1 by simp [cmpI, a]]
    go_enter Try.func25, Try.ntmps25
    go_wp2_with fail
    refine (ident_any x h0 h1 _).mono ?_
    rintro e w' ⟨rfl, rfl⟩
    go_wp2_with fail
    refine (comp_lt _ _ a _).mono ?_
    rintro e w' ⟨rfl, rfl⟩
    go_wp2
    go_ret
    exact ⟨rfl, rfl⟩
  · by_cases b : t < x / 256
    · rw [show cmpI (x / 256) t = 1 by simp [cmpI, a, b]]
      go_enter Try.func25, Try.ntmps25
      go_wp2_with fail
      refine (ident_any x h0 h1 _).mono ?_
      rintro e w' ⟨rfl, rfl⟩
      go_wp2_with fail
      refine (comp_gt _ _ b _).mono ?_
      rintro e w' ⟨rfl, rfl⟩
      go_wp2
      go_ret
      exact ⟨rfl, rfl⟩
    · obtain rfl : t = x / 256 := by omega
      rw [show cmpI (x / 256) (x / 256) = 0 by simp [cmpI]]
      go_enter Try.func25, Try.ntmps25
      go_wp2_with fail
      refine (ident_any x h0 h1 _).mono ?_
      rintro e w' ⟨rfl, rfl⟩
      go_wp2_with fail
      refine (comp_eq _ _).mono ?_
      rintro e w' ⟨rfl, rfl⟩
      go_wp2
      go_ret
      exact ⟨rfl, rfl⟩

theorem keysOf_getD (zs : List Int) (h : Nat) : (keysOf zs).getD h 0 = zs.getD h 0 / 256 := by
  simp [keysOf, List.getD_eq_getElem?_getD, List.getElem?_map]
  cases zs[h]? <;> simp

theorem keysOf_length (zs : List Int) : (keysOf zs).length = zs.length := by simp [keysOf]

theorem cmpI_lt (x t : Int) : decide (cmpI x t < 0) = decide (x < t) := by
  unfold cmpI
  by_cases a : x < t
  · simp [a]
  · by_cases b : t < x <;> simp [a, b]

theorem cmpI_eq (x t : Int) : (cmpI x t == 0) = decide (x = t) := by
  unfold cmpI
  by_cases a : x < t
  · simp [a]; omega
  · by_cases b : t < x
    · simp [a, b]; omega
    · simp [a, b]; omega

set_option maxHeartbeats 400000 in
theorem binf_some (b off n c : Nat) (zs : List Int) (t : Int) (w : World) (hl : zs.length = n) (hn : n ≤ 65536) (hp : 0 < n)
    (hz : ∀ i, i < n → 0 ≤ zs.getD i 0 ∧ zs.getD i 0 ≤ 18446744073709551615)
    (hc : ∀ i, i < n → w.cell? ⟨b, off + i, none⟩ = some (.int .u64 (zs.getD i 0))) :
    Calls Try.prog 24 #[.slice (some ⟨b, off, none⟩) n c, .int .u64 t, .func (.func 25) #[] #[]] w fun e w' => e = .returned (.tuple #[.int .i64 (place (keysOf zs) t : Nat), .bool (hit (keysOf zs) t)]) ∧ w' = w := by
  have HC : Hid _ := hc
  have HZ : Hid _ := hz
  clear hc hz
  obtain ⟨R, hR⟩ : ∃ R, R = bs (fun h => decide ((keysOf zs).getD h 0 < t)) n 0 n := ⟨_, rfl⟩
  have hl' : (keysOf zs).length = n := by rw [keysOf_length]; exact hl
  have HP : Hid (place (keysOf zs) t = R) := by rw [hR]; unfold Hid place; rw [hl']
  have HR : Hid _ := hR
  have HL : Hid _ := hl'
  clear hR hl hl'
  go_enter Try.func24, Try.ntmps24
  go_wp2_with fail
  go_loop [9, 10] (fun si sj => ∃ i j : Nat, i ≤ j ∧ j ≤ n ∧ si = .int .i64 i ∧ sj = .int .i64 j ∧ bs (fun h => decide ((keysOf zs).getD h 0 < t)) n i j = R) (fun si sj => (intOf sj - intOf si).toNat)
  case atStart => exact ⟨0, n, by omega, by omega, rfl, rfl, HR.out.symm⟩
  case round =>
    obtain ⟨i, j, hij, hjn, rfl, rfl, hbs⟩ := hrel
    have HB : Hid _ := hbs
    clear hbs
    by_cases hlt : i < j
    · obtain ⟨h, hh⟩ : ∃ h : Nat, h = (i + j) / 2 := ⟨_, rfl⟩
      have e : ((i : Int) + (j : Int)) / 2 = (h : Int) := by omega
      have b1 : i ≤ h := by omega
      have b2 : h < j := by omega
      have b3 : h < n := by omega
      have HH : Hid _ := hh
      clear hh
      obtain ⟨x, hx⟩ : ∃ x, x = zs.getD h 0 := ⟨_, rfl⟩
      have hcell := HC.out h b3
      have hbd := HZ.out h b3
      rw [← hx] at hcell hbd
      have HX : Hid ((keysOf zs).getD h 0 = x / 256) := by rw [hx]; exact keysOf_getD zs h
      clear hx
      obtain ⟨y, hy⟩ : ∃ y, y = cmpI (x / 256) t := ⟨_, rfl⟩
      have hcl := fun w => clos_any x t hbd.1 hbd.2 w
      rw [← hy] at hcl
      have HCL : Hid _ := hcl
      clear hcl
      have hly : decide (y < 0) = decide ((keysOf zs).getD h 0 < t) := by rw [hy, HX.out]; exact cmpI_lt _ _
      clear hy hbd
      by_cases hlx : y < 0
      · have hu : bs (fun h => decide ((keysOf zs).getD h 0 < t)) n (h + 1) j = R := by
          rw [HH.out, ← bs_up _ n i j hlt (by omega) (by rw [← HH.out]; show decide _ = true; rw [← hly]; simpa using hlx)]; exact HB.out
        have HU : Hid _ := hu
        clear hu hly
        go_wp2_with fail
        refine (HCL.out _).mono ?_
        rintro e w' ⟨rfl, rfl⟩
        go_wp2
        go_round
        case rel => exact ⟨h + 1, j, by omega, by omega, by go_num, rfl, HU.out⟩
        case measure => simp [intOf]; omega
      · have hu : bs (fun h => decide ((keysOf zs).getD h 0 < t)) n i h = R := by
          rw [HH.out, ← bs_down _ n i j hlt (by omega) (by rw [← HH.out]; show decide _ = false; rw [← hly]; simpa using hlx)]; exact HB.out
        have HU : Hid _ := hu
        clear hu hly
        go_wp2_with fail
        refine (HCL.out _).mono ?_
        rintro e w' ⟨rfl, rfl⟩
        go_wp2
        go_round
        case rel => exact ⟨i, h, by omega, by omega, rfl, rfl, HU.out⟩
        case measure => simp [intOf]; omega
    · obtain rfl : i = j := by omega
      have HE : Hid (place (keysOf zs) t = i) := by
        have h1 := HB.out
        rw [bs_done] at h1
        exact HP.out.trans h1.symm
      by_cases hin : i < n
      · obtain ⟨x, hx⟩ : ∃ x, x = zs.getD i 0 := ⟨_, rfl⟩
        have hcell := HC.out i hin
        have hbd := HZ.out i hin
        rw [← hx] at hcell hbd
        have HX : Hid ((keysOf zs).getD i 0 = x / 256) := by rw [hx]; exact keysOf_getD zs i
        clear hx
        obtain ⟨y, hy⟩ : ∃ y, y = cmpI (x / 256) t := ⟨_, rfl⟩
        have hcl := fun w => clos_any x t hbd.1 hbd.2 w
        rw [← hy] at hcl
        have HCL : Hid _ := hcl
        clear hcl
        have HF : Hid (hit (keysOf zs) t = (y == 0)) := by
          unfold Hid hit
          rw [HE.out, HL.out, HX.out, hy, cmpI_eq]
          simp [hin]
        clear hy hbd
        go_wp2_with fail
        refine (HCL.out _).mono ?_
        rintro e w' ⟨rfl, rfl⟩
        go_wp2
        go_ret2
        exact ⟨by rw [HE.out, HF.out]; rfl, rfl⟩
      · have HF : Hid (hit (keysOf zs) t = false) := by unfold Hid hit; rw [HE.out, HL.out]; simp [hin]
        go_wp2
        go_ret2
        exact ⟨by rw [HE.out, HF.out]; rfl, rfl⟩

theorem binf_none (a : Option Addr) (c : Nat) (t : Int) (w : World) :
    Calls Try.prog 24 #[.slice a 0 c, .int .u64 t, .func (.func 25) #[] #[]] w fun e w' => e = .returned (.tuple #[.int .i64 0, .bool false]) ∧ w' = w := by
  go_enter Try.func24, Try.ntmps24
  go_wp2_with fail
  refine wp_loop_rounds 1 ?_
  rw [rounds_succ]
  go_wp2
  go_ret2
  exact ⟨rfl, rfl⟩

theorem lists_none (a : Option Addr) (c : Nat) (t : Int) (w : World) :
    Calls Try.prog 18 #[.slice a 0 c, .int .u64 t] w fun e w' => e = .returned (.tuple #[.int .u8 0, .bool false]) ∧ w' = w := by
  go_enter Try.func18, Try.ntmps18
  go_wp2_with (go_at_call 20; go_in)
  refine (binf_none a c t _).mono ?_
  rintro e w' ⟨rfl, rfl⟩
  go_wp2
  go_ret2
  exact ⟨rfl, rfl⟩

/-- The answer of (entryIndex).lists over the words zs. -/
def ansM (zs : List Int) (t : Int) : Int := if hit (keysOf zs) t = true then lst (zs.getD (place (keysOf zs) t) 0) else 0

theorem lists_some (b off n c : Nat) (zs : List Int) (t : Int) (w : World) (hl : zs.length = n) (hn : n ≤ 65536) (hp : 0 < n)
    (hz : ∀ i, i < n → 0 ≤ zs.getD i 0 ∧ zs.getD i 0 ≤ 18446744073709551615)
    (hc : ∀ i, i < n → w.cell? ⟨b, off + i, none⟩ = some (.int .u64 (zs.getD i 0))) :
    Calls Try.prog 18 #[.slice (some ⟨b, off, none⟩) n c, .int .u64 t] w fun e w' => e = .returned (.tuple #[.int .u8 (ansM zs t), .bool (hit (keysOf zs) t)]) ∧ w' = w := by
  have hb := fun w1 (hc1 : ∀ i, i < n → w1.cell? ⟨b, off + i, none⟩ = some (.int .u64 (zs.getD i 0))) => binf_some b off n c zs t w1 hl hn hp hz hc1
  have HB : Hid _ := hb
  have HC : Hid _ := hc
  clear hb
  cases hh : hit (keysOf zs) t with
  | true =>
    have hlt := hit_lt hh
    rw [keysOf_length, hl] at hlt
    have HA : Hid (ansM zs t = lst (zs.getD (place (keysOf zs) t) 0)) := by unfold Hid ansM; rw [if_pos hh]
    have hcell := hc _ hlt
    have hbd := hz _ hlt
    rw [hh] at HB
    clear hh hc hz hl
    generalize place (keysOf zs) t = i at *
    generalize zs.getD i 0 = x at *
    go_enter Try.func18, Try.ntmps18
    go_wp2_with (go_at_call 20; go_in)
    refine (HB.out _ (by exact HC.out)).mono ?_
    rintro e w' ⟨rfl, rfl⟩
    go_wp2_with fail
    refine (lists_any x hbd.1 hbd.2 _).mono ?_
    rintro e w' ⟨rfl, rfl⟩
    go_wp2
    go_ret2
    exact ⟨by rw [HA.out]; rfl, rfl⟩
  | false =>
    have HA : Hid (ansM zs t = 0) := by unfold Hid ansM; rw [hh]; simp
    rw [hh] at HB
    clear hh hc hz hl
    generalize place (keysOf zs) t = i at *
    go_enter Try.func18, Try.ntmps18
    go_wp2_with (go_at_call 20; go_in)
    refine (HB.out _ (by exact HC.out)).mono ?_
    rintro e w' ⟨rfl, rfl⟩
    go_wp2
    go_ret2
    exact ⟨by rw [HA.out]; rfl, rfl⟩
end Go.Proofs.Qxb6612367a
