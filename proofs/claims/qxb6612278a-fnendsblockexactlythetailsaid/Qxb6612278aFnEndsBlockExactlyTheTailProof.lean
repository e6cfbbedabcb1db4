/-
  THE SHELL OF A PROOF OF 'Rows.FnEndsBlockExactlyTheTailSaid', WRITTEN BY PROGRAM (proof-skeleton.mjs) off the guide's own print for that function. Not trusted: Lean checks it.
  The walk is filled in by hand (an AI agent); all else is the guide's template at this function's number and types.
-/
import Derived.Test.Qxb6612278aWalks
import Derived.WalkKit
import Derived.ProofKit
import Derived.OpenShut
import Derived.ShutString
namespace Go.Proofs.Qxb6612278a.fnEndsBlockExactlyTheTail
open Go.ChangeShapes Go.WideShapes Go.ChangeAt Go.RowKit
open Go.ChangeMaps (open_string shut_string)
set_option linter.unusedVariables false      -- a walk need not use every 'w<i>' (that an integer argument fits its kind)

theorem own : ownKnob Try.prog.godebug = none := by kernel_rfl

theorem grown_trans {a b c : World} (h : Grown a b) (k : Grown b c) : Grown a c :=
  ⟨World.keptBut_trans h.1 k.1, fun x => (k.2.1 x).trans (h.2.1 x), Nat.le_trans h.2.2 k.2.2⟩

/-- The cut is empty and lies at the array's end. -/
theorem inside_end (c n : Nat) (w : World) (h1 : c ≤ 65536) (h2 : n ≤ c) :
    Calls Try.prog 3 #[.int .i64 c, .int .i64 n, .int .i64 c, .int .i64 c] w fun e w' => e = .returned (.bool true) ∧ Grown w w' := by
  go_enter Try.func3, Try.ntmps3
  go_wp2_with fail
  refine (new_any c h1 w).mono ?_
  rintro e w1 ⟨rfl, cs, rfl⟩
  go_wp2_with fail
  refine (zz_any _ 0 n c 0 0 false _ (fun D w' h => ends_none D _ 0 n c 0 w' h)).mono ?_
  rintro e w' ⟨rfl, hg⟩
  go_wp2
  go_ret
  exact ⟨rfl, grown_trans ((Grown.refl _).alloc _ _) hg⟩

/-- The cut is empty and lies ahead of the array's end. -/
theorem inside_none (c n lo : Nat) (w : World) (h1 : c ≤ 65536) (h2 : n ≤ c) (h3 : lo < c) :
    Calls Try.prog 3 #[.int .i64 c, .int .i64 n, .int .i64 lo, .int .i64 lo] w fun e w' => e = .returned (.bool true) ∧ Grown w w' := by
  have h4 : ¬ c = lo := by omega
  go_enter Try.func3, Try.ntmps3
  go_wp2_with fail
  refine (new_any c h1 w).mono ?_
  rintro e w1 ⟨rfl, cs, rfl⟩
  go_wp2_with fail
  refine (zz_any _ (lo * 2) n c 0 (c - lo) false _ (fun D w' h => ends_none D _ (lo * 2) n c (c - lo) w' h)).mono ?_
  rintro e w' ⟨rfl, hg⟩
  go_wp2
  go_ret
  exact ⟨rfl, grown_trans ((Grown.refl _).alloc _ _) hg⟩

/-- The cut is longer than the block. -/
theorem inside_long (c n lo hi : Nat) (w : World) (h1 : c ≤ 65536) (h2 : n ≤ c) (h3 : lo < hi) (h4 : hi ≤ c) (h5 : n < hi - lo) :
    Calls Try.prog 3 #[.int .i64 c, .int .i64 n, .int .i64 lo, .int .i64 hi] w fun e w' => e = .returned (.bool true) ∧ Grown w w' := by
  have h6 : ¬ c = lo := by omega
  have h7 : ((hi : Int) == (n : Int)) = false := by simp; omega
  go_enter Try.func3, Try.ntmps3
  go_wp2_with fail
  refine (new_any c h1 w).mono ?_
  rintro e w1 ⟨rfl, cs, rfl⟩
  go_wp2_with fail
  refine (zz_any _ (lo * 2) n c (hi - lo) (c - lo) false _ (fun D w' h => ends_long D _ (lo * 2) n (hi - lo) c (c - lo) w' h5 h)).mono ?_
  rintro e w' ⟨rfl, hg⟩
  go_wp2
  go_ret
  exact ⟨rfl, grown_trans ((Grown.refl _).alloc _ _) hg⟩

/-- The cut is no longer than the block: it is the tail just if it ends where the block ends. -/
theorem inside_tail (c n lo hi : Nat) (w : World) (h1 : c ≤ 65536) (h2 : n ≤ c) (h3 : lo < hi) (h4 : hi ≤ c) (h5 : hi - lo ≤ n) :
    Calls Try.prog 3 #[.int .i64 c, .int .i64 n, .int .i64 lo, .int .i64 hi] w fun e w' => e = .returned (.bool true) ∧ Grown w w' := by
  have h6 : ¬ c = lo := by omega
  have hr : decide ((n - (hi - lo)) * 2 = lo * 2) = ((hi : Int) == (n : Int)) := by
    rw [Bool.eq_iff_iff]; simp; omega
  generalize hb : ((hi : Int) == (n : Int)) = b at hr
  have hz := fun (F : Nat) (w : World) => zz_any F (lo * 2) n c (hi - lo) (c - lo) b w (fun D w' h => hr ▸ ends_tail D F (lo * 2) n (hi - lo) (n - (hi - lo)) c (c - lo) w' (by omega) (by omega) (by omega) h)
  have HZ : Hid _ := hz
  clear hz hr
  go_enter Try.func3, Try.ntmps3
  go_wp2_with fail
  refine (new_any c h1 w).mono ?_
  rintro e w1 ⟨rfl, cs, rfl⟩
  go_wp2_with fail
  refine (HZ.out _ _).mono ?_
  rintro e w' ⟨rfl, hg⟩
  go_wp2
  go_ret
  exact ⟨rfl, grown_trans ((Grown.refl _).alloc _ _) hg⟩

/-- Inside the ranges: the law's own comparison. -/
theorem inside (c n lo hi : Nat) (w : World) (h1 : c ≤ 65536) (h2 : n ≤ c) (h3 : lo ≤ hi) (h4 : hi ≤ c) :
    Calls Try.prog 3 #[.int .i64 c, .int .i64 n, .int .i64 lo, .int .i64 hi] w fun e w' => e = .returned (.bool true) ∧ Grown w w' := by
  by_cases e1 : lo = hi
  · subst e1
    by_cases e2 : lo = c
    · subst e2
      exact inside_end lo n w h1 h2
    · exact inside_none c n lo w h1 h2 (by omega)
  · by_cases e3 : n < hi - lo
    · exact inside_long c n lo hi w h1 h2 (by omega) h4 e3
    · exact inside_tail c n lo hi w h1 h2 (by omega) h4 (by omega)

/-! ### STEP 1: THE WALK: the Go text returns true. 'Grown w w'': the world has at most new blocks (Derived/RowKit3.lean). Part the cases AHEAD of 'go_enter' where a test parts the walk; take each callee by a contract of your own. -/
theorem walk (a0 : Int) (a1 : Int) (a2 : Int) (a3 : Int) (w0 : (Lit.int .i64 a0).wf = true) (w1 : (Lit.int .i64 a1).wf = true) (w2 : (Lit.int .i64 a2).wf = true) (w3 : (Lit.int .i64 a3).wf = true) (w : World) :
    Calls Try.prog 3 #[.int .i64 a0, .int .i64 a1, .int .i64 a2, .int .i64 a3] w fun e w' => e = .returned (.bool true) ∧ Grown w w' := by
  by_cases b1 : a0 < 0
  · have d1 : decide (a0 < 0) = true := by simp [b1]
    go_enter Try.func3, Try.ntmps3
    go_wp2
    go_ret
    exact ⟨rfl, Grown.refl _⟩
  by_cases b2 : 65536 < a0
  · go_enter Try.func3, Try.ntmps3
    go_wp2
    go_ret
    exact ⟨rfl, Grown.refl _⟩
  by_cases b3 : a1 < 0
  · go_enter Try.func3, Try.ntmps3
    go_wp2
    go_ret
    exact ⟨rfl, Grown.refl _⟩
  by_cases b4 : a0 < a1
  · go_enter Try.func3, Try.ntmps3
    go_wp2
    go_ret
    exact ⟨rfl, Grown.refl _⟩
  by_cases b5 : a2 < 0
  · go_enter Try.func3, Try.ntmps3
    go_wp2
    go_ret
    exact ⟨rfl, Grown.refl _⟩
  by_cases b6 : a3 < a2
  · go_enter Try.func3, Try.ntmps3
    go_wp2
    go_ret
    exact ⟨rfl, Grown.refl _⟩
  by_cases b7 : a0 < a3
  · go_enter Try.func3, Try.ntmps3
    go_wp2
    go_ret
    exact ⟨rfl, Grown.refl _⟩
  obtain ⟨c, rfl⟩ := Int.eq_ofNat_of_zero_le (show 0 ≤ a0 by omega)
  obtain ⟨n, rfl⟩ := Int.eq_ofNat_of_zero_le (show 0 ≤ a1 by omega)
  obtain ⟨lo, rfl⟩ := Int.eq_ofNat_of_zero_le (show 0 ≤ a2 by omega)
  obtain ⟨hi, rfl⟩ := Int.eq_ofNat_of_zero_le (show 0 ≤ a3 by omega)
  clear w0 w1 w2 w3
  exact inside c n lo hi w (by omega) (by omega) (by omega) (by omega)

/-! ### THE ROW's STEP: WRITTEN OUT: LEAVE IT -/
set_option maxRecDepth 100000 in
theorem lifted (os : Os) (started : os.Started) (H : Type) (enc : TypeId × Value → H) :
    ReturnsInHanded {} Try.checked os 3 .any (Rows.fnEndsBlockExactlyTheTailSpec.pre6 enc Try.prog Try.f3 Rows.fnEndsBlockExactlyTheTailRow.domain false) (Rows.fnEndsBlockExactlyTheTailSpec.post enc Try.prog Try.f3 false true false false) := by
  refine returnsInHanded_of_change (C := Try.checked) own started (by kernel_rfl) Try.func3
    (ChangeSpec.witness6 (enc := enc) (C := Try.checked) false ⟨#[], #[.int .i64 0, .int .i64 0, .int .i64 0, .int .i64 0], []⟩ 8 (by kernel_rfl) (by kernel_rfl) (by kernel_rfl) (by kernel_rfl)) ?_
  intro W base args ds gs before hval0 hW hcnd _
  have hval : ∀ (j : Nat) t v, Try.f3.params[j]? = some t → args[j]? = some v → Value.okWide Try.prog W .any base t v := hval0
  have hW' := hW
  obtain ⟨p, q, hA0, hV, rfl, hfz, hnd⟩ := hW
  have hA : DataW.TrodAll enc Try.prog W 0 (fun _ => true) true Try.f3.params.toList args.toList ds p := hA0
  rw [Try.params3] at hA hval
  obtain ⟨v0, vs0, d0, ds0, p0, q0, hargs, rfl, rfl, h0, r0⟩ := trodAll_cons hA
  obtain ⟨v1, vs1, d1, ds1, p1, q1, rfl, rfl, rfl, h1, r1⟩ := trodAll_cons r0
  obtain ⟨v2, vs2, d2, ds2, p2, q2, rfl, rfl, rfl, h2, r2⟩ := trodAll_cons r1
  obtain ⟨v3, vs3, d3, ds3, p3, q3, rfl, rfl, rfl, h3, r3⟩ := trodAll_cons r2
  obtain ⟨rfl, rfl, rfl⟩ := trodAll_nil r3
  obtain rfl : args = #[v0, v1, v2, v3] := by cases args; simp_all
  obtain ⟨rfl, rfl⟩ := trodVars_none hV
  obtain ⟨a0, rfl, rfl, rfl, w0⟩ := open_int Try.underlying3 (hval 0 3 v0 rfl rfl) h0
  obtain ⟨a1, rfl, rfl, rfl, w1⟩ := open_int Try.underlying3 (hval 1 3 v1 rfl rfl) h1
  obtain ⟨a2, rfl, rfl, rfl, w2⟩ := open_int Try.underlying3 (hval 2 3 v2 rfl rfl) h2
  obtain ⟨a3, rfl, rfl, rfl, w3⟩ := open_int Try.underlying3 (hval 3 3 v3 rfl rfl) h3
  clear hA0 hval0
  simp only [List.append_nil] at hW'
  refine (walk a0 a1 a2 a3 w0 w1 w2 w3 W).mono fun e W' ⟨he, hg⟩ => ?_
  subst he
  exact ⟨_, rfl, post_of_same (pa := []) (pv := []) hW' (fun _ _ _ => (trodAll_cons_mk (shut_bool Try.underlying4 _) trodAll_mk0)) (fun sp _ => (trodAll_cons_mk (shut_int Try.underlying3 w0) (trodAll_cons_mk (shut_int Try.underlying3 w1) (trodAll_cons_mk (shut_int Try.underlying3 w2) (trodAll_cons_mk (shut_int Try.underlying3 w3) trodAll_mk0))))) (fun _ _ => rfl) rfl
    (hg.frame _) hg.2.1 (ok_one (by kernel_rfl) rfl (okWide_bool_mk Try.underlying4 _))⟩

theorem over : Rows.fnEndsBlockExactlyTheTailRow.holds Try.pinned (OpenSpec.ofChange Rows.fnEndsBlockExactlyTheTailSpec) :=
  OpenClaim.holds_of_wide 3 Try.f3 rfl rfl rfl rfl rfl rfl rfl ⟨rfl, rfl, rfl, rfl, rfl⟩ rfl rfl rfl rfl rfl (by kernel_rfl) Try.func3 (by kernel_rfl)
    (of_decide_eq_true (by kernel_rfl)) (by unfold Func.isWrapper; first | (rw [if_pos (by decide +kernel)]; kernel_rfl) | (rw [if_neg (by decide +kernel)]; exact ⟨rfl, rfl⟩))
    (fun os started H enc _ => lifted os started H enc)

/-- ████ THE STATEMENT ████ -/
theorem proved : Rows.FnEndsBlockExactlyTheTailSaid :=
  over
#print axioms proved
end Go.Proofs.Qxb6612278a.fnEndsBlockExactlyTheTail
