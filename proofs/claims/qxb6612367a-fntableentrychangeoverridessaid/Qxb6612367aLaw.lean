import Derived.Test.Qxb6612367aState
namespace Go.Proofs.Qxb6612367a
open Go.RowKit
set_option linter.unusedVariables false

theorem has_empty (k : Lit) : Maps.has (.map [] : DataW Unit) k = false := rfl

theorem key_ne {a b : Int} (h : ¬ a = b) : (Lit.int .u64 a) ≠ Lit.int .u64 b := fun e => h (by injection e)

/-- The bytes' bound says no. -/
theorem law_bytes (a0 : Option Addr) (n c : Nat) (a1 a2 a3 : Int) (w : World) (hn : 1048576 < n) :
    Calls Try.prog 4 #[.slice a0 n c, .int .u64 a1, .int .u8 a2, .int .u64 a3] w fun e w' => e = .returned (.bool true) ∧ Below w.heap.size w w' := by
  go_enter Try.func4, Try.ntmps4
  go_wp2_with fail
  refine (bytes_long a0 n c a1 a2 a3 _ hn).mono ?_
  rintro e w' ⟨rfl, rfl⟩
  go_wp2
  go_ret
  exact ⟨rfl, Below.refl _ _⟩

theorem law_long (a0 : Option Addr) (n c : Nat) (a1 a2 a3 : Int) (w : World) (hn : n ≤ 1048576) (hl : 65536 < n) :
    Calls Try.prog 4 #[.slice a0 n c, .int .u64 a1, .int .u8 a2, .int .u64 a3] w fun e w' => e = .returned (.bool true) ∧ Below w.heap.size w w' := by
  go_enter Try.func4, Try.ntmps4
  go_wp2_with fail
  refine (bytes_any a0 n c a1 a2 a3 _ hn).mono ?_
  rintro e w' ⟨rfl, rfl⟩
  go_wp2
  go_ret
  exact ⟨rfl, Below.refl _ _⟩

theorem law_on (a0 : Option Addr) (n c : Nat) (a1 a2 a3 : Int) (w : World) (hn : n ≤ 65536) (ho : 7 < a2) :
    Calls Try.prog 4 #[.slice a0 n c, .int .u64 a1, .int .u8 a2, .int .u64 a3] w fun e w' => e = .returned (.bool true) ∧ Below w.heap.size w w' := by
  go_enter Try.func4, Try.ntmps4
  go_wp2_with fail
  refine (bytes_any a0 n c a1 a2 a3 _ (by omega)).mono ?_
  rintro e w' ⟨rfl, rfl⟩
  go_wp2
  go_ret
  exact ⟨rfl, Below.refl _ _⟩

theorem below_drewN' {B : Nat} {w w' : World} {q : Nat} (h : Below B (w.drewN q) w') : Below B w w' := ⟨h.os, h.tape, h.output, h.size, h.block⟩

set_option maxHeartbeats 800000 in
theorem law_core (a0 : Option Addr) (n c : Nat) (es : List Int) (a1 a2 a3 : Int) (w : World) (hn : n ≤ 65536) (ho : a2 ≤ 7) (hl : es.length ≤ 65536) (hz : Words es)
    (w1 : (Lit.int .u64 a1).wf = true) (w3 : (Lit.int .u64 a3).wf = true)
    (HD : Calls Try.prog 6 #[.slice a0 n c] w fun e w' => ∃ r, e = .returned (.bool r) ∧ ∃ q, w' = w.drewN q)
    (HBd : ∀ W : World, W.heap.size = w.heap.size → (∀ a, W.cell? a = w.cell? a) → Calls Try.prog 7 #[.slice a0 n c, .slice none 0 0, .slice none 0 0] W fun e w' => e = .returned (.pointer (some ⟨W.heap.size + 1, 0, none⟩)) ∧ ∃ ids, St W.heap.size W w' es ids 0 (.map [])) :
    Calls Try.prog 4 #[.slice a0 n c, .int .u64 a1, .int .u8 a2, .int .u64 a3] w fun e w' => e = .returned (.bool true) ∧ Below w.heap.size w w' := by
  have H6 : Hid _ := HD
  have H7 : Hid _ := HBd
  have HZ : Hid _ := hz
  have HL : Hid _ := hl
  clear HD HBd hz hl
  go_enter Try.func4, Try.ntmps4
  go_wp2_with fail
  refine (bytes_any a0 n c a1 a2 a3 _ (by omega)).mono ?_
  rintro e w' ⟨rfl, rfl⟩
  go_wp2_with fail
  refine Calls.mono H6.out ?_
  rintro e w' ⟨r, rfl, q, rfl⟩
  cases r with
  | false =>
    go_wp2
    go_ret
    exact ⟨rfl, ⟨rfl, rfl, rfl, Nat.le_refl _, fun _ _ => rfl⟩⟩
  | true =>
    go_wp2_with fail
    refine (H7.out (w'.drewN q) rfl (fun _ => rfl)).mono ?_
    rintro e W2 ⟨rfl, ids, hs⟩
    have HS : Hid _ := hs
    clear hs
    go_wp2_with fail
    refine (st_entry_no HS.out HZ.out HL.out a3 w3 (has_empty _)).mono ?_
    rintro e W3 ⟨rfl, hs3⟩
    have HS3 : Hid _ := hs3
    clear hs3 HS
    go_wp2_with fail
    refine (st_set HS3.out (Nat.le_refl _) a1 a2 w1).mono ?_
    rintro e W4 ⟨rfl, hs4⟩
    have HS4 : Hid _ := hs4
    clear hs4 HS3
    go_wp2_with fail
    refine (st_entry_yes HS4.out a1 a2 w1 (Maps.has_put_same Maps.isMap_empty (by trivial) _) (Maps.atKey_put_same Maps.isMap_empty (by trivial) _ _)).mono ?_
    rintro e W5 ⟨rfl, hs5⟩
    have HS5 : Hid _ := hs5
    clear hs5 HS4
    by_cases hid : a3 = a1
    · have hid' : (a3 == a1) = true := by simp [hid]
      have hb := below_drewN' HS5.out.2.2.2
      have HB : Hid _ := hb
      clear hb hid
      go_wp2
      go_ret
      exact ⟨rfl, HB.out⟩
    · have hid' : (a3 == a1) = false := by simp [hid]
      have HI : Hid _ := hid
      clear hid
      go_wp2_with fail
      refine (st_entry_no HS5.out HZ.out HL.out a3 w3 (by rw [Maps.has_put_other (key_ne HI.out)]; exact has_empty _)).mono ?_
      rintro e W6 ⟨rfl, hs6⟩
      have hb := below_drewN' hs6.2.2.2
      have HB : Hid _ := hb
      clear hb hs6 HS5
      go_wp2
      go_ret
      exact ⟨rfl, HB.out⟩
end Go.Proofs.Qxb6612367a
