import Derived.Test.Qxb6612421aFmtVal
namespace Go.Proofs.Qxb6612421aFmt
open Go.RowKit Go.Extern.Stop Go.Stop Go.Extern

theorem below_alloc {w w' : World} (h : Below w.heap.size w w') (o : Obj) : Below w.heap.size w (w'.alloc o) := h.alloc h.size o

/-- Within range: accepted, and so it says. -/
theorem law_ok (a b : Int) (h1 : 0 ≤ a) (h2 : 0 ≤ b) (h3 : b ≤ 4095) (w : World) :
    Calls Tryf.prog 4 #[.int .i64 a, .int .i64 b] w fun e w' => e = .returned (.bool true) ∧ Below w.heap.size w w' := by
  go_enter Tryf.func4, Tryf.ntmps4
  go_wp2_with fail
  refine (default_any _).mono ?_
  rintro e w1 ⟨rfl, rfl⟩
  go_wp2_with fail
  refine (valid_ok 10 50 (by omega) (by omega) (by omega) _).mono ?_
  rintro e w1 ⟨rfl, rfl⟩
  go_wp2_with fail
  refine (default_any _).mono ?_
  rintro e w1 ⟨rfl, rfl⟩
  go_wp2_with fail
  refine (valid_ok a b h1 h2 h3 _).mono ?_
  rintro e w1 ⟨rfl, rfl⟩
  go_wp2
  go_ret
  exact ⟨rfl, by repeat (first | exact Below.refl _ _ | apply below_alloc)⟩

/-- The window is negative. -/
theorem law_win (F : Interp) (a b : Int) (h1 : a < 0) (w : World) (hF : F.answers w.tape) :
    Calls Tryf.prog 4 #[.int .i64 a, .int .i64 b] w fun e w' => e = .returned (.bool true) ∧ Below w.heap.size w w' := by
  go_enter Tryf.func4, Tryf.ntmps4
  go_wp2_with fail
  refine (default_any _).mono ?_
  rintro e w1 ⟨rfl, rfl⟩
  go_wp2_with fail
  refine (valid_ok 10 50 (by omega) (by omega) (by omega) _).mono ?_
  rintro e w1 ⟨rfl, rfl⟩
  go_wp2_with fail
  refine (default_any _).mono ?_
  rintro e w1 ⟨rfl, rfl⟩
  go_wp2_with fail
  refine (valid_bad F a b (by omega) _ (by exact hF)).mono ?_
  rintro e w1 ⟨⟨p, rfl⟩, hb⟩
  have HB : Hid _ := hb
  clear hb
  go_wp2
  go_ret
  refine ⟨rfl, Below.trans ?_ (HB.out.mono ?_)⟩
  · repeat (first | exact Below.refl _ _ | apply below_alloc)
  · simp; omega

/-- The depth is negative. -/
theorem law_low (F : Interp) (a b : Int) (h1 : 0 ≤ a) (h2 : b < 0) (w : World) (hF : F.answers w.tape) :
    Calls Tryf.prog 4 #[.int .i64 a, .int .i64 b] w fun e w' => e = .returned (.bool true) ∧ Below w.heap.size w w' := by
  go_enter Tryf.func4, Tryf.ntmps4
  go_wp2_with fail
  refine (default_any _).mono ?_
  rintro e w1 ⟨rfl, rfl⟩
  go_wp2_with fail
  refine (valid_ok 10 50 (by omega) (by omega) (by omega) _).mono ?_
  rintro e w1 ⟨rfl, rfl⟩
  go_wp2_with fail
  refine (default_any _).mono ?_
  rintro e w1 ⟨rfl, rfl⟩
  go_wp2_with fail
  refine (valid_bad F a b (by omega) _ (by exact hF)).mono ?_
  rintro e w1 ⟨⟨p, rfl⟩, hb⟩
  have HB : Hid _ := hb
  clear hb
  go_wp2
  go_ret
  refine ⟨rfl, Below.trans ?_ (HB.out.mono ?_)⟩
  · repeat (first | exact Below.refl _ _ | apply below_alloc)
  · simp; omega

/-- The depth is beyond its range. -/
theorem law_deep (F : Interp) (a b : Int) (h1 : 0 ≤ a) (h2 : 4095 < b) (w : World) (hF : F.answers w.tape) :
    Calls Tryf.prog 4 #[.int .i64 a, .int .i64 b] w fun e w' => e = .returned (.bool true) ∧ Below w.heap.size w w' := by
  have h3 : decide (b ≤ 4095) = false := by simp; omega
  go_enter Tryf.func4, Tryf.ntmps4
  go_wp2_with fail
  refine (default_any _).mono ?_
  rintro e w1 ⟨rfl, rfl⟩
  go_wp2_with fail
  refine (valid_ok 10 50 (by omega) (by omega) (by omega) _).mono ?_
  rintro e w1 ⟨rfl, rfl⟩
  go_wp2_with fail
  refine (default_any _).mono ?_
  rintro e w1 ⟨rfl, rfl⟩
  go_wp2_with fail
  refine (valid_bad F a b (by omega) _ (by exact hF)).mono ?_
  rintro e w1 ⟨⟨p, rfl⟩, hb⟩
  have HB : Hid _ := hb
  clear hb
  go_wp2
  go_ret
  refine ⟨rfl, Below.trans ?_ (HB.out.mono ?_)⟩
  · repeat (first | exact Below.refl _ _ | apply below_alloc)
  · simp; omega

/-- ████ THE WALK: for every window and depth, whatever fmt gives, the law returns true and turns nothing that was there. -/
theorem law_any (F : Interp) (a b : Int) (w : World) (hF : F.answers w.tape) :
    Calls Tryf.prog 4 #[.int .i64 a, .int .i64 b] w fun e w' => e = .returned (.bool true) ∧ Below w.heap.size w w' := by
  by_cases h1 : a < 0
  · exact law_win F a b h1 w hF
  · by_cases h2 : b < 0
    · exact law_low F a b (by omega) h2 w hF
    · by_cases h3 : 4095 < b
      · exact law_deep F a b (by omega) h3 w hF
      · exact law_ok a b (by omega) (by omega) (by omega) w
end Go.Proofs.Qxb6612421aFmt
