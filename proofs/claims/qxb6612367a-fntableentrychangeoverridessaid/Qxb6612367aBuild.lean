import Derived.Test.Qxb6612367aTable
namespace Go.Proofs.Qxb6612367a
open Go.RowKit
set_option linter.unusedVariables false

/-- THE TABLE AS BUILT: over the first k entries. -/
def Built (M : Nat) (W0 w : World) (es : List Int) : Prop :=
  ∃ v0 v1 ids, Tab M w v0 v1 es ids ∧ ids.length = (es.length + 127) / 128 ∧ Below (M + 1) W0 w

theorem tab_new (w : World) : Built w.heap.size ((w.alloc (.map #[] 0)).alloc (.cells #[.slice none 0 0, .slice none 0 0, .slice none 0 0, .slice none 0 0, .slice none 0 0, .slice none 0 0, .map (some w.heap.size), .int .i64 0] 55))
    ((w.alloc (.map #[] 0)).alloc (.cells #[.slice none 0 0, .slice none 0 0, .slice none 0 0, .slice none 0 0, .slice none 0 0, .slice none 0 0, .map (some w.heap.size), .int .i64 0] 55)) [] := by
  refine ⟨.slice none 0 0, .slice none 0 0, [], ⟨?_, ?_, ?_, fun o => ?_, World.ownsRow_nil _ _ _ _, World.ownsRow_nil _ _ _ _, fun k h _ => by simp [Value.ownBlock] at h, by simp⟩, by simp, Below.refl _ _⟩
  · rw [World.cell?_alloc_at _ _ _ _ (by simp)]; rfl
  · rw [World.cell?_alloc_at _ _ _ _ (by simp)]; rfl
  · rw [World.cell?_alloc_at _ _ _ _ (by simp)]; rfl
  · rw [frozen?_alloc_cells]
    simp [World.frozen?]

theorem built_app0 {M : Nat} {W0 w : World} {es : List Int} (h : Built M W0 w es) (hn : es.length ≤ 65536) (hd : ¬ es.length % 128 = 0) (x : Int) :
    Calls Try.prog 13 #[.pointer (some ⟨M + 1, 0, none⟩), .int .u64 x] w fun e w' => e = .returned (.tuple #[]) ∧ Built M W0 w' (es ++ [x]) := by
  obtain ⟨v0, v1, ids, ht, hl, hb⟩ := h
  refine (app0 M w v0 v1 es ids x ht hn).mono ?_
  rintro e w' ⟨rfl, v', ht', hb'⟩
  exact ⟨rfl, v', v1, ids, ht', by rw [List.length_append]; simp; omega, hb.trans hb'⟩

/-- .. at the head of a block: the entry is there, its block's identity is not yet. -/
def Half (M : Nat) (W0 w : World) (es : List Int) (x : Int) : Prop :=
  ∃ v0 v1 ids, Tab M w v0 v1 (es ++ [x]) ids ∧ ids.length = (es.length + 127) / 128 ∧ Below (M + 1) W0 w

theorem built_half {M : Nat} {W0 w : World} {es : List Int} (h : Built M W0 w es) (hn : es.length ≤ 65536) (x : Int) :
    Calls Try.prog 13 #[.pointer (some ⟨M + 1, 0, none⟩), .int .u64 x] w fun e w' => e = .returned (.tuple #[]) ∧ Half M W0 w' es x := by
  obtain ⟨v0, v1, ids, ht, hl, hb⟩ := h
  refine (app0 M w v0 v1 es ids x ht hn).mono ?_
  rintro e w' ⟨rfl, v', ht', hb'⟩
  exact ⟨rfl, v', v1, ids, ht', hl, hb.trans hb'⟩

theorem half_app1 {M : Nat} {W0 w : World} {es : List Int} {x : Int} (h : Half M W0 w es x) (hn : es.length ≤ 65536) (hd : es.length % 128 = 0) (y : Int) :
    Calls Try.prog 14 #[.pointer (some ⟨M + 1, 0, none⟩), .int .u64 y] w fun e w' => e = .returned (.tuple #[]) ∧ Built M W0 w' (es ++ [x]) := by
  obtain ⟨v0, v1, ids, ht, hl, hb⟩ := h
  refine (app1 M w v0 v1 (es ++ [x]) ids y ht (by omega)).mono ?_
  rintro e w' ⟨rfl, v', ht', hb'⟩
  exact ⟨rfl, v0, v', ids ++ [y], ht', by rw [List.length_append, List.length_append]; simp; omega, hb.trans hb'⟩

theorem Built.below {M : Nat} {W0 w : World} {es : List Int} (h : Built M W0 w es) : Below (M + 1) W0 w := by obtain ⟨_, _, _, _, _, h⟩ := h; exact h
theorem Half.below {M : Nat} {W0 w : World} {es : List Int} {x : Int} (h : Half M W0 w es x) : Below (M + 1) W0 w := by obtain ⟨_, _, _, _, _, h⟩ := h; exact h

theorem take_snoc (es : List Int) (k : Nat) (h : k < es.length) : es.take (k + 1) = es.take k ++ [es.getD k 0] := by
  rw [List.take_succ_eq_append_getElem h]
  simp [List.getD_eq_getElem?_getD, h]

theorem lt_of_cell {w : World} {a : Addr} {v : Value} (h : w.cell? a = some v) : a.block < w.heap.size := by
  by_cases e : a.block < w.heap.size
  · exact e
  · have : w.heap[a.block]? = none := by simp; omega
    simp [World.cell?, this] at h

set_option maxHeartbeats 800000 in
theorem build_some (b off n c : Nat) (es : List Int) (w : World) (hl : es.length = n) (hn : n ≤ 65536) (hp : 0 < n)
    (hz : Words es)
    (hc : ∀ i, i < n → w.cell? ⟨b, off + i, none⟩ = some (.int .u64 (es.getD i 0))) :
    Calls Try.prog 7 #[.slice (some ⟨b, off, none⟩) n c, .slice none 0 0, .slice none 0 0] w fun e w' => e = .returned (.pointer (some ⟨w.heap.size + 1, 0, none⟩)) ∧ ∃ W0, Below w.heap.size w W0 ∧ W0.ownsMap Try.prog 40 chElem w.heap.size 0 (.map []) ∧ Built w.heap.size W0 w' es := by
  have hb0 : b < w.heap.size := by have := lt_of_cell (hc 0 hp); exact this
  obtain ⟨W0, hW0⟩ : ∃ W0, W0 = (w.alloc (.map #[] 0)).alloc (.cells #[.slice none 0 0, .slice none 0 0, .slice none 0 0, .slice none 0 0, .slice none 0 0, .slice none 0 0, .map (some w.heap.size), .int .i64 0] 55) := ⟨_, rfl⟩
  have hB0 : Below w.heap.size w W0 := by rw [hW0]; exact ((Below.refl _ _).alloc (Nat.le_refl _) _).alloc (by simp) _
  have hM0 : W0.ownsMap Try.prog 40 chElem w.heap.size 0 (.map []) := by rw [hW0]; exact (World.ownsMap_made w _ _ _).alloc _
  have hT0 : Built w.heap.size W0 W0 [] := by rw [hW0]; exact tab_new w
  have hnew := new_any w
  rw [← hW0] at hnew
  have HN : Hid _ := hnew
  have HX : Hid _ := And.intro hB0 (And.intro hM0 hT0)
  have HC : Hid _ := hc
  have HL : Hid _ := hl
  have HZ : Hid _ := hz
  clear hnew hB0 hM0 hT0 hW0 hc hl hz
  generalize hM : w.heap.size = M at *
  go_enter Try.func7, Try.ntmps7
  go_wp2_with fail
  refine Calls.mono HN.out ?_
  rintro e w' ⟨rfl, rfl⟩
  go_wp2_with fail
  go_loopw [8] (fun si wr => ∃ k : Nat, k ≤ n ∧ si = .int .i64 k ∧ Built M w' wr (es.take k)) (fun si _ => n - (intOf si).toNat)
  case atStart => exact ⟨0, by omega, rfl, HX.out.2.2⟩
  case round =>
    obtain ⟨k, hk, rfl, hbt⟩ := hrel
    have HBT : Hid _ := hbt
    clear hbt
    have hlk : (es.take k).length = k := by rw [List.length_take, HL.out]; omega
    have HLK : Hid _ := hlk
    clear hlk
    by_cases hlt : k < n
    · obtain ⟨x, hx⟩ : ∃ x, x = es.getD k 0 := ⟨_, rfl⟩
      have hbd := HZ.out k (by rw [HL.out]; exact hlt)
      have hcw := HC.out k hlt
      rw [← hx] at hcw hbd
      have HE : Hid (es.take (k + 1) = es.take k ++ [x]) := by rw [hx]; exact take_snoc es k (by rw [HL.out]; exact hlt)
      clear hx
      have hold : ∀ wx : World, Below (M + 1) w' wx → wx.cell? ⟨b, off + k, none⟩ = some (.int .u64 x) := fun wx hbx =>
        (hbx.cell (p := ⟨b, off + k, none⟩) (by show b < M + 1; omega)).trans ((HX.out.1.cell (p := ⟨b, off + k, none⟩) hb0).trans hcw)
      have hc1 := hold _ (Built.below HBT.out)
      have HO : Hid _ := hold
      clear hold hcw
      by_cases hd : k % 128 = 0
      · have hd' : ((k : Int) % 128 == 0) = true := by simp; omega
        go_wp2_with fail
        refine (built_half HBT.out (by rw [HLK.out]; omega) x).mono ?_
        rintro e w1 ⟨rfl, hh⟩
        have hc2 := HO.out _ (Half.below hh)
        have HH : Hid _ := hh
        clear hh
        go_wp2_with fail
        refine (half_app1 HH.out (by rw [HLK.out]; omega) (by rw [HLK.out]; exact hd) _).mono ?_
        rintro e w2 ⟨rfl, hh2⟩
        have HH2 : Hid _ := hh2
        clear hh2
        go_wp2
        go_roundw
        case rel => exact ⟨k + 1, by omega, by go_num, by rw [HE.out]; exact HH2.out⟩
        case measure => simp [intOf]; omega
      · have hd' : ((k : Int) % 128 == 0) = false := by simp; omega
        go_wp2_with fail
        refine (built_app0 HBT.out (by rw [HLK.out]; omega) (by rw [HLK.out]; exact hd) x).mono ?_
        rintro e w1 ⟨rfl, hh⟩
        have HH : Hid _ := hh
        clear hh
        go_wp2
        go_roundw
        case rel => exact ⟨k + 1, by omega, by go_num, by rw [HE.out]; exact HH.out⟩
        case measure => simp [intOf]; omega
    · obtain rfl : k = n := by omega
      have HT : Hid (es.take k = es) := List.take_of_length_le (by rw [HL.out]; exact Nat.le_refl _)
      rw [HT.out] at HBT
      go_wp2_with fail
      refine wp_loop_rounds 1 ?_
      rw [rounds_succ]
      go_wp2
      go_ret
      exact ⟨rfl, w', HX.out.1, HX.out.2.1, HBT.out⟩

set_option maxHeartbeats 400000 in
theorem build_none (a : Option Addr) (c : Nat) (w : World) :
    Calls Try.prog 7 #[.slice a 0 c, .slice none 0 0, .slice none 0 0] w fun e w' => e = .returned (.pointer (some ⟨w.heap.size + 1, 0, none⟩)) ∧ ∃ W0, Below w.heap.size w W0 ∧ W0.ownsMap Try.prog 40 chElem w.heap.size 0 (.map []) ∧ Built w.heap.size W0 w' [] := by
  obtain ⟨W0, hW0⟩ : ∃ W0, W0 = (w.alloc (.map #[] 0)).alloc (.cells #[.slice none 0 0, .slice none 0 0, .slice none 0 0, .slice none 0 0, .slice none 0 0, .slice none 0 0, .map (some w.heap.size), .int .i64 0] 55) := ⟨_, rfl⟩
  have hB0 : Below w.heap.size w W0 := by rw [hW0]; exact ((Below.refl _ _).alloc (Nat.le_refl _) _).alloc (by simp) _
  have hM0 : W0.ownsMap Try.prog 40 chElem w.heap.size 0 (.map []) := by rw [hW0]; exact (World.ownsMap_made w _ _ _).alloc _
  have hT0 : Built w.heap.size W0 W0 [] := by rw [hW0]; exact tab_new w
  have hnew := new_any w
  rw [← hW0] at hnew
  have HN : Hid _ := hnew
  have HX : Hid _ := And.intro hB0 (And.intro hM0 hT0)
  clear hnew hB0 hM0 hT0 hW0
  generalize hM : w.heap.size = M at *
  go_enter Try.func7, Try.ntmps7
  go_wp2_with fail
  refine Calls.mono HN.out ?_
  rintro e w' ⟨rfl, rfl⟩
  go_wp2_with fail
  refine wp_loop_rounds 1 ?_
  rw [rounds_succ]
  go_wp2_with fail
  refine wp_loop_rounds 1 ?_
  rw [rounds_succ]
  go_wp2
  go_ret
  exact ⟨rfl, w', HX.out.1, HX.out.2.1, HX.out.2.2⟩
end Go.Proofs.Qxb6612367a
