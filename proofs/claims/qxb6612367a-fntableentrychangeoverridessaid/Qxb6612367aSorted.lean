import Derived.Test.Qxb6612367aBlock
namespace Go.Proofs.Qxb6612367a
open Go.RowKit
set_option linter.unusedVariables false

/-- The slice v leads to a row of the numbers zs. -/
def RowIs (w : World) (v : Value) (zs : List Int) : Prop :=
  (zs.length = 0 ∧ ∃ a c, v = .slice a 0 c) ∨
  (0 < zs.length ∧ ∃ g off cap, v = .slice (some ⟨g, off, none⟩) zs.length cap ∧ zs.length ≤ cap ∧ ∀ i, i < zs.length → w.cell? ⟨g, off + i, none⟩ = some (.int .u64 (zs.getD i 0)))

theorem RowIs.drewN {w : World} {v : Value} {zs : List Int} (h : RowIs w v zs) (n : Nat) : RowIs (w.drewN n) v zs := h

/-- Every number of the list is a word. -/
def Words (zs : List Int) : Prop := ∀ i, i < zs.length → 0 ≤ zs.getD i 0 ∧ zs.getD i 0 ≤ 18446744073709551615

theorem bin_any {x : Value} {ids : List Int} {w : World} (h : RowIs w x ids) (hn : ids.length ≤ 65536) (t : Int) :
    Calls Try.prog 19 #[x, .int .u64 t] w fun e w' => e = .returned (.tuple #[.int .i64 (place ids t : Nat), .bool (hit ids t)]) ∧ w' = w := by
  rcases h with ⟨h0, a, c, rfl⟩ | ⟨h0, g, off, cap, rfl, hcap, hc⟩
  · have hp : place ids t = 0 := by have := place_le ids t; omega
    have hh : hit ids t = false := by unfold hit; rw [h0]; simp
    rw [hp, hh]
    exact bin_none a c t w
  · exact bin_some g off ids.length cap ids t w rfl hn h0 hc

theorem lists_of {u : Value} {zs : List Int} {w : World} (h : RowIs w u zs) (hn : zs.length ≤ 65536) (hz : Words zs) (t : Int) :
    Calls Try.prog 18 #[u, .int .u64 t] w fun e w' => e = .returned (.tuple #[.int .u8 (ansM zs t), .bool (hit (keysOf zs) t)]) ∧ w' = w := by
  rcases h with ⟨h0, a, c, rfl⟩ | ⟨h0, g, off, cap, rfl, hcap, hc⟩
  · have hh : hit (keysOf zs) t = false := by unfold hit; rw [keysOf_length, h0]; simp
    have ha : ansM zs t = 0 := by unfold ansM; rw [hh]; simp
    rw [hh, ha]
    exact lists_none a c t w
  · exact lists_some g off zs.length cap zs t w rfl hn h0 hz hc

theorem blockOf_le (es ids : List Int) (t : Int) : (blockOf es ids t).length ≤ es.length := by
  unfold blockOf
  split
  · simp
  · simp; omega

theorem blockOf_words {es : List Int} (h : Words es) (ids : List Int) (t : Int) : Words (blockOf es ids t) := by
  intro i hi
  unfold blockOf at hi ⊢
  split at hi
  · simp at hi
  · rename_i hne
    rw [if_neg hne]
    have hl : i < 128 ∧ (after ids t - 1) * 128 + i < es.length := by simp at hi; omega
    have e : ((es.drop ((after ids t - 1) * 128)).take 128).getD i 0 = es.getD ((after ids t - 1) * 128 + i) 0 := by
      simp [List.getD_eq_getElem?_getD, List.getElem?_drop, hl.1]
    rw [e]
    exact h _ hl.2

/-- The block, as a row. -/
theorem block_row {es ids : List Int} {t : Int} {w : World} {g cap s : Nat} (ha : after ids t = s + 1) (hs : s * 128 < es.length) (hcap : es.length ≤ cap)
    (hc : ∀ i, i < es.length → w.cell? ⟨g, 0 + i, none⟩ = some (.int .u64 (es.getD i 0))) :
    RowIs w (.slice (some ⟨g, s * 128, none⟩) (min (s * 128 + 128) es.length - s * 128) (cap - s * 128)) (blockOf es ids t) := by
  have e : blockOf es ids t = (es.drop (s * 128)).take 128 := by
    unfold blockOf
    rw [ha, if_neg (by omega)]
    rfl
  have hl : (blockOf es ids t).length = min (s * 128 + 128) es.length - s * 128 := by
    rw [e]; simp; omega
  refine .inr ⟨by omega, g, s * 128, cap - s * 128, by rw [hl], by omega, fun i hi => ?_⟩
  have h1 : i < 128 := by omega
  have h2 : s * 128 + i < es.length := by omega
  have e2 : (blockOf es ids t).getD i 0 = es.getD (s * 128 + i) 0 := by
    rw [e]
    simp [List.getD_eq_getElem?_getD, List.getElem?_drop, h1]
  rw [e2]
  have := hc _ h2
  rwa [Nat.zero_add] at this

theorem block_any {x v : Value} {es ids : List Int} {w : World} {g cap : Nat} (hx : RowIs w x ids) (hv : (es.length = 0 ∧ v = .slice none 0 0) ∨ (v = .slice (some ⟨g, 0, none⟩) es.length cap ∧ es.length ≤ cap ∧ ∀ i, i < es.length → w.cell? ⟨g, 0 + i, none⟩ = some (.int .u64 (es.getD i 0))))
    (hk : ids.length = (es.length + 127) / 128) (hn : es.length ≤ 65536) (t : Int) :
    ∃ u, RowIs w u (blockOf es ids t) ∧ ∀ n, Calls Try.prog 17 #[x, v, .int .u64 t] (w.drewN n) fun e w' => e = .returned u ∧ w' = w.drewN n := by
  have hb := fun n => bin_any (hx.drewN n) (by omega) t
  have hal := after_le ids t
  cases ha : after ids t with
  | zero =>
    have hh : hit ids t = false := by
      cases h : hit ids t with
      | false => rfl
      | true => unfold after at ha; rw [if_pos h] at ha; omega
    have hp : place ids t = 0 := by unfold after at ha; rw [hh] at ha; simpa using ha
    rw [hp, hh] at hb
    refine ⟨.slice none 0 0, .inl ⟨by unfold blockOf; rw [if_pos ha]; rfl, none, 0, rfl⟩, fun n => block_nil x v t _ (hb n)⟩
  | succ s =>
    have hs : s * 128 < es.length := by omega
    rcases hv with ⟨h0, _⟩ | ⟨rfl, hcap, hc⟩
    · omega
    · refine ⟨_, block_row ha hs hcap hc, fun n => ?_⟩
      cases hh : hit ids t with
      | true =>
        have hp : place ids t = s := by unfold after at ha; rw [if_pos hh] at ha; omega
        rw [hp, hh] at hb
        exact block_hit x g es.length cap s t _ hs hn hcap (hb n)
      | false =>
        have hp : place ids t = s + 1 := by unfold after at ha; rw [hh] at ha; simpa using ha
        rw [hp, hh] at hb
        exact block_miss x g es.length cap s t _ hs hn hcap (hb n)

/-- The answer of sortedLists. -/
def sM (es ids : List Int) (t : Int) : Int := ansM (blockOf es ids t) t
def sOk (es ids : List Int) (t : Int) : Bool := hit (keysOf (blockOf es ids t)) t

set_option maxHeartbeats 400000 in
theorem sorted_of (T : Nat) (v0 v1 u : Value) (m : Int) (ok : Bool) (t : Int) (w : World)
    (c0 : w.cell? ⟨T, 0, none⟩ = some v0) (c1 : w.cell? ⟨T, 1, none⟩ = some v1)
    (H17 : ∀ n, Calls Try.prog 17 #[v1, v0, .int .u64 t] (w.drewN n) fun e w' => e = .returned u ∧ w' = w.drewN n)
    (H18 : ∀ n, Calls Try.prog 18 #[u, .int .u64 t] (w.drewN n) fun e w' => e = .returned (.tuple #[.int .u8 m, .bool ok]) ∧ w' = w.drewN n) :
    Calls Try.prog 16 #[.pointer (some ⟨T, 0, none⟩), .int .u64 t] w fun e w' => e = .returned (.tuple #[.int .u8 m, .bool ok]) ∧ ∃ q, w' = w.drewN q := by
  have HA : Hid _ := H17
  have HB : Hid _ := H18
  clear H17 H18
  go_enter Try.func16, Try.ntmps16
  go_wp2
  go_quiet (first | (go_at_call 17; exact Calls.quiet_of_same (HA.out _)) | (go_at_call 18; exact Calls.quiet_of_same (HB.out _)))
  go_wp2
  go_ret2
  exact ⟨rfl, _, rfl⟩
end Go.Proofs.Qxb6612367a
