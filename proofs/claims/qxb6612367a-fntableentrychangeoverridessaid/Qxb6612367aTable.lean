import Derived.Test.Qxb6612367aEntry
import Derived.Maps.AppendAt
namespace Go.Proofs.Qxb6612367a
open Go.RowKit
set_option linter.unusedVariables false

theorem info56 : (Try.prog.info? 56).map (fun i => (i.zero, i.size, i.bytes)) = some (some (.int .u64 0), 1, 8) := by kernel_rfl
theorem info40 : (Try.prog.info? 40).map (fun i => (i.zero, i.size, i.bytes)) = some (some (.int .u64 0), 1, 8) := by kernel_rfl

def wds (zs : List Int) : List Value := zs.map (Value.int .u64)
theorem wds_length (zs : List Int) : (wds zs).length = zs.length := by simp [wds]
theorem wds_snoc (zs : List Int) (x : Int) : wds (zs ++ [x]) = wds zs ++ [.int .u64 x] := by simp [wds]

/-- THE TABLE AT BLOCK M + 1: its two slices own their rows, from block M + 2 on, apart from each other; its map lies at block M. -/
structure Tab (M : Nat) (w : World) (v0 v1 : Value) (es ids : List Int) : Prop where
  c0 : w.cell? ⟨M + 1, 0, none⟩ = some v0
  c1 : w.cell? ⟨M + 1, 1, none⟩ = some v1
  c6 : w.cell? ⟨M + 1, 6, none⟩ = some (.map (some M))
  fr : ∀ o, w.frozen? ⟨M + 1, o, none⟩ = false
  r0 : w.ownsRow (M + 2) 56 1 v0 es.length (wds es)
  r1 : w.ownsRow (M + 2) 40 1 v1 ids.length (wds ids)
  apart : ∀ k, v0.ownBlock = some k → v1.ownBlock = some k → False
  size : M + 2 ≤ w.heap.size

theorem new_any (w : World) :
    Calls Try.prog 12 #[] w fun e w' => e = .returned (.pointer (some ⟨w.heap.size + 1, 0, none⟩)) ∧ w' = (w.alloc (.map #[] 0)).alloc (.cells #[.slice none 0 0, .slice none 0 0, .slice none 0 0, .slice none 0 0, .slice none 0 0, .slice none 0 0, .map (some w.heap.size), .int .i64 0] 55) := by
  have hmm := @run_makeMap Try.prog
  go_enter Try.func12, Try.ntmps12
  go_wp2
  go_ret
  exact ⟨rfl, rfl⟩

/-- What has one element more is no nil slice. -/
theorem own_shape {w : World} {B e n : Nat} {v : Value} {xs : List Value} (h : w.ownsRow B e 1 v (n + 1) xs) : ∃ g cap, v = .slice (some ⟨g, 0, none⟩) (n + 1) cap ∧ B ≤ g := by
  obtain ⟨_, h | ⟨g, cap, cur, hv, hb, _⟩⟩ := h
  · omega
  · exact ⟨g, cap, hv, hb⟩

/-- Blocks below M + 2 but the row's are as they were. -/
theorem grow_block {M : Nat} {w w1 : World} {o : Obj} {row : Option Nat} (hs : M + 2 ≤ w.heap.size) (hr : ∀ k, row = some k → M + 2 ≤ k) (hg : (w.alloc o).grownBy w1 row) :
    ∀ k, k < M + 2 → w1.heap[k]? = w.heap[k]? := by
  intro k hk
  rw [hg.block k (by simp; omega) (fun e => by have := hr k e.symm; omega)]
  exact Below.heap_alloc w o k (by omega)

theorem Tab.row0 {M : Nat} {w : World} {v0 v1 : Value} {es ids : List Int} (h : Tab M w v0 v1 es ids) : ∀ k, v0.ownBlock = some k → M + 2 ≤ k := fun k hk => (h.r0.lt k hk).1
theorem Tab.row1 {M : Nat} {w : World} {v0 v1 : Value} {es ids : List Int} (h : Tab M w v0 v1 es ids) : ∀ k, v1.ownBlock = some k → M + 2 ≤ k := fun k hk => (h.r1.lt k hk).1

theorem ne_off {b o o' : Nat} (h : o ≠ o') : (⟨b, o, none⟩ : Addr) ≠ ⟨b, o', none⟩ := fun e => h (by injection e)

theorem tab_app0 {M : Nat} {w w1 : World} {v0 v1 v' : Value} {es ids : List Int} {x : Int} {o : Obj} (h : Tab M w v0 v1 es ids)
    (hown : w1.ownsRow (M + 2) 56 1 v' (es.length + 1) (wds es ++ [.int .u64 x])) (hg : (w.alloc o).grownBy w1 v0.ownBlock)
    (hloc : v'.ownBlock = v0.ownBlock ∨ v'.ownBlock = some (w.alloc o).heap.size) :
    Tab M (w1.setCell ⟨M + 1, 0, none⟩ v') v' v1 (es ++ [x]) ids ∧ Below (M + 1) w (w1.setCell ⟨M + 1, 0, none⟩ v') := by
  have hb := grow_block h.size h.row0 hg
  have hcell : ∀ o, w1.cell? ⟨M + 1, o, none⟩ = w.cell? ⟨M + 1, o, none⟩ := fun o => World.cell?_of_block (hb (M + 1) (by omega))
  have hfr : ∀ o, w1.frozen? ⟨M + 1, o, none⟩ = w.frozen? ⟨M + 1, o, none⟩ := fun o => World.frozen?_of_block (hb (M + 1) (by omega))
  have hsz : w.heap.size ≤ w1.heap.size := Nat.le_trans (by simp) hg.size
  refine ⟨⟨World.cell?_setCell_same _ _ _ ((hcell 0).trans h.c0), ?_, ?_, fun o => ?_, ?_, ?_, fun k e0 e1 => ?_, ?_⟩, ?_⟩
  · rw [World.cell?_setCell_other _ _ _ _ (ne_off (by omega)), hcell]; exact h.c1
  · rw [World.cell?_setCell_other _ _ _ _ (ne_off (by omega)), hcell]; exact h.c6
  · rw [World.frozen?_setCell, hfr]; exact h.fr o
  · rw [wds_snoc, List.length_append]
    exact ownsRow_setCell_below hown (by show M + 1 < M + 2; omega) _
  · refine ownsRow_setCell_below ((h.r1.alloc o).kept hg ?_) (by show M + 1 < M + 2; omega) _
    cases e : v1.ownBlock with
    | none => exact .inl rfl
    | some k => exact .inr (fun e2 => h.apart k e2.symm e)
  · rcases hloc with e | e
    · exact h.apart k (e.symm.trans e0) e1
    · have := (h.r1.lt k e1).2
      rw [e] at e0
      simp at e0
      omega
  · have := h.size
    simp [World.setCell]
    omega
  · refine ⟨hg.os, hg.tape, hg.output, by simpa [World.setCell] using hsz, fun k hk => ?_⟩
    rw [Below.heap_setCell _ _ _ _ (by show k ≠ M + 1; omega)]
    exact hb k (by omega)

set_option maxHeartbeats 400000 in
theorem app0 (M : Nat) (w : World) (v0 v1 : Value) (es ids : List Int) (x : Int) (h : Tab M w v0 v1 es ids) (hn : es.length ≤ 65536) :
    Calls Try.prog 13 #[.pointer (some ⟨M + 1, 0, none⟩), .int .u64 x] w fun e w' => e = .returned (.tuple #[]) ∧ ∃ v', Tab M w' v' v1 (es ++ [x]) ids ∧ Below (M + 1) w w' := by
  obtain ⟨i, hi, hz0, hz1, hz2⟩ := info_parts info56
  have c0 := h.c0
  have fr := h.fr 0
  have hsz := h.size
  have HT : Hid _ := h
  clear h
  go_enter Try.func13, Try.ntmps13
  go_wp2_with (at_builtin; refine wpList_append_own_at _ rfl _ _ 45 rfl (M + 2) 56 i (.int .u64 0) 1 8 Try.underlying45 hi hz0 hz1 hz2 rfl (by decide) v0 es.length (wds es) rfl (HT.out.r0.alloc _) ⟨w.heap.size, 0, none⟩ 1 1 [.int .u64 x] rfl rfl (cell_one_new _ _ _) (ints_oneCell .u64 [x]) (by unfold maxLen; omega) (by omega) (by simp; omega) ?_; intro v' w1 hown' hgrow hnil hloc; have hd : w1.cell? ⟨M + 1, 0, none⟩ = some v0 := (World.cell?_of_block (grow_block HT.out.size HT.out.row0 hgrow (M + 1) (by omega))).trans HT.out.c0; have hf : w1.frozen? ⟨M + 1, 0, none⟩ = false := (World.frozen?_of_block (grow_block HT.out.size HT.out.row0 hgrow (M + 1) (by omega))).trans (HT.out.fr 0); have HF : Hid _ := tab_app0 HT.out hown' hgrow hloc; obtain ⟨g, cap, hv, _⟩ := own_shape hown'; clear hown' hgrow hnil hloc; rw [hv] at HF ⊢; clear hv)
  go_end0
  exact ⟨rfl, _, HF.out⟩
theorem tab_app1 {M : Nat} {w w1 : World} {v0 v1 v' : Value} {es ids : List Int} {x : Int} {o : Obj} (h : Tab M w v0 v1 es ids)
    (hown : w1.ownsRow (M + 2) 40 1 v' (ids.length + 1) (wds ids ++ [.int .u64 x])) (hg : (w.alloc o).grownBy w1 v1.ownBlock)
    (hloc : v'.ownBlock = v1.ownBlock ∨ v'.ownBlock = some (w.alloc o).heap.size) :
    Tab M (w1.setCell ⟨M + 1, 1, none⟩ v') v0 v' es (ids ++ [x]) ∧ Below (M + 1) w (w1.setCell ⟨M + 1, 1, none⟩ v') := by
  have hb := grow_block h.size h.row1 hg
  have hcell : ∀ o, w1.cell? ⟨M + 1, o, none⟩ = w.cell? ⟨M + 1, o, none⟩ := fun o => World.cell?_of_block (hb (M + 1) (by omega))
  have hfr : ∀ o, w1.frozen? ⟨M + 1, o, none⟩ = w.frozen? ⟨M + 1, o, none⟩ := fun o => World.frozen?_of_block (hb (M + 1) (by omega))
  have hsz : w.heap.size ≤ w1.heap.size := Nat.le_trans (by simp) hg.size
  refine ⟨⟨?_, World.cell?_setCell_same _ _ _ ((hcell 1).trans h.c1), ?_, fun o => ?_, ?_, ?_, fun k e0 e1 => ?_, ?_⟩, ?_⟩
  · rw [World.cell?_setCell_other _ _ _ _ (ne_off (by omega)), hcell]; exact h.c0
  · rw [World.cell?_setCell_other _ _ _ _ (ne_off (by omega)), hcell]; exact h.c6
  · rw [World.frozen?_setCell, hfr]; exact h.fr o
  · refine ownsRow_setCell_below ((h.r0.alloc o).kept hg ?_) (by show M + 1 < M + 2; omega) _
    cases e : v0.ownBlock with
    | none => exact .inl rfl
    | some k => exact .inr (fun e2 => h.apart k e e2.symm)
  · rw [wds_snoc, List.length_append]
    exact ownsRow_setCell_below hown (by show M + 1 < M + 2; omega) _
  · rcases hloc with e | e
    · exact h.apart k e0 (e.symm.trans e1)
    · have := (h.r0.lt k e0).2
      rw [e] at e1
      simp at e1
      omega
  · have := h.size
    simp [World.setCell]
    omega
  · refine ⟨hg.os, hg.tape, hg.output, by simpa [World.setCell] using hsz, fun k hk => ?_⟩
    rw [Below.heap_setCell _ _ _ _ (by show k ≠ M + 1; omega)]
    exact hb k (by omega)

set_option maxHeartbeats 400000 in
theorem app1 (M : Nat) (w : World) (v0 v1 : Value) (es ids : List Int) (x : Int) (h : Tab M w v0 v1 es ids) (hn : ids.length ≤ 65536) :
    Calls Try.prog 14 #[.pointer (some ⟨M + 1, 0, none⟩), .int .u64 x] w fun e w' => e = .returned (.tuple #[]) ∧ ∃ v', Tab M w' v0 v' es (ids ++ [x]) ∧ Below (M + 1) w w' := by
  obtain ⟨i, hi, hz0, hz1, hz2⟩ := info_parts info40
  have c0 := h.c1
  have fr := h.fr 1
  have hsz := h.size
  have HT : Hid _ := h
  clear h
  go_enter Try.func14, Try.ntmps14
  go_wp2_with (at_builtin; refine wpList_append_own_at _ rfl _ _ 47 rfl (M + 2) 40 i (.int .u64 0) 1 8 Try.underlying47 hi hz0 hz1 hz2 rfl (by decide) v1 ids.length (wds ids) rfl (HT.out.r1.alloc _) ⟨w.heap.size, 0, none⟩ 1 1 [.int .u64 x] rfl rfl (cell_one_new _ _ _) (ints_oneCell .u64 [x]) (by unfold maxLen; omega) (by omega) (by simp; omega) ?_; intro v' w1 hown' hgrow hnil hloc; have hd : w1.cell? ⟨M + 1, 1, none⟩ = some v1 := (World.cell?_of_block (grow_block HT.out.size HT.out.row1 hgrow (M + 1) (by omega))).trans HT.out.c1; have hf : w1.frozen? ⟨M + 1, 1, none⟩ = false := (World.frozen?_of_block (grow_block HT.out.size HT.out.row1 hgrow (M + 1) (by omega))).trans (HT.out.fr 1); have HF : Hid _ := tab_app1 HT.out hown' hgrow hloc; obtain ⟨g, cap, hv, _⟩ := own_shape hown'; clear hown' hgrow hnil hloc; rw [hv] at HF ⊢; clear hv)
  go_end0
  exact ⟨rfl, _, HF.out⟩

/-! ### the map of changes -/
/-- How an element of the map reads: by its lists alone. -/
def chElem : Value → Option (DataW Unit × List MemPlace)
  | .agg cs => match cs.toList with
    | [.int .u8 a, .int .u64 _] => some (.lit (.int .u8 a), [])
    | _ => none
  | _ => none

theorem chElem_mk (a b : Int) : chElem (.agg #[.int .u8 a, .int .u64 b]) = some (.lit (.int .u8 a), []) := rfl

theorem chElem_inv {v : Value} {a : Int} {ps : List MemPlace} (h : chElem v = some (.lit (.int .u8 a), ps)) : ∃ b, v = .agg #[.int .u8 a, .int .u64 b] := by
  unfold chElem at h
  split at h
  · split at h
    · rename_i cs a' b' e
      simp only [Option.some.injEq, Prod.mk.injEq, DataW.lit.injEq, Lit.int.injEq, true_and] at h
      obtain ⟨rfl, _⟩ := h
      refine ⟨b', ?_⟩
      congr 1
      apply Array.toList_inj.1
      exact e
    · cases h
  · cases h

theorem zero43 (w : World) : (zeroValue 43).run Try.prog w = .ok (.agg #[.int .u8 0, .int .u64 0]) w := by kernel_rfl
theorem law40 : Maps.Keyed Try.prog 40 := Maps.int_keyed Try.underlying40

theorem ownsMap_of_block {w w' : World} {b n : Nat} {D : DataW Unit} (h : w.ownsMap Try.prog 40 chElem b n D) (e : w'.heap[b]? = w.heap[b]?) : w'.ownsMap Try.prog 40 chElem b n D := by
  obtain ⟨es, clock, hb, r⟩ := h
  exact ⟨es, clock, e.trans hb, r⟩

/-- The map has no such key. -/
theorem look_no {w : World} {M n : Nat} {D : DataW Unit} {t : Int} (h : w.ownsMap Try.prog 40 chElem M n D) (ht : (Lit.int .u64 t).wf = true) (hh : Maps.has D (.int .u64 t) = false) :
    ∃ z, (Instr.lookup 53 (.map (some M)) (.int .u64 t) true).run Try.prog w = .ok (.tuple #[.agg #[.int .u8 0, .int .u64 z], .bool false]) w := by
  obtain ⟨v, ps, hr, hv⟩ := h.look_ok law40 Try.underlying53 (zero43 w) (chElem_mk 0 0) (Maps.keyOf_int_mk Try.underlying40 ht)
  rw [hh] at hr
  rw [Maps.atKey_of_not_has hh] at hv
  obtain ⟨b, rfl⟩ := chElem_inv hv
  exact ⟨b, hr⟩

/-- The map has it, with the lists a. -/
theorem look_yes {w : World} {M n : Nat} {D : DataW Unit} {t a : Int} (h : w.ownsMap Try.prog 40 chElem M n D) (ht : (Lit.int .u64 t).wf = true) (hh : Maps.has D (.int .u64 t) = true) (ha : D.atKey (.int .u64 t) (.lit (.int .u8 0)) = .lit (.int .u8 a)) :
    ∃ z, (Instr.lookup 53 (.map (some M)) (.int .u64 t) true).run Try.prog w = .ok (.tuple #[.agg #[.int .u8 a, .int .u64 z], .bool true]) w := by
  obtain ⟨v, ps, hr, hv⟩ := h.look_ok law40 Try.underlying53 (zero43 w) (chElem_mk 0 0) (Maps.keyOf_int_mk Try.underlying40 ht)
  rw [hh] at hr
  rw [ha] at hv
  obtain ⟨b, rfl⟩ := chElem_inv hv
  exact ⟨b, hr⟩

set_option maxHeartbeats 400000 in
theorem set_any (T M : Nat) (w : World) (D : DataW Unit) (t a : Int) (c6 : w.cell? ⟨T, 6, none⟩ = some (.map (some M))) (h : w.ownsMap Try.prog 40 chElem M 0 D) (ht : (Lit.int .u64 t).wf = true) :
    Calls Try.prog 11 #[.pointer (some ⟨T, 0, none⟩), .int .u64 t, .int .u8 a] w fun e w' => e = .returned (.tuple #[]) ∧ w'.ownsMap Try.prog 40 chElem M 1 (D.put (.int .u64 t) (.lit (.int .u8 a))) ∧ w.grownBy w' (some M) := by
  have HM : Hid _ := h
  clear h
  go_enter Try.func11, Try.ntmps11
  go_wp2_with (at_mapUpdate; refine wpList_mapUpdate_own _ rfl _ _ _ 53 rfl 40 43 law40 Try.underlying53 chElem M 0 D rfl HM.out (by unfold maxLen; omega) _ _ _ rfl rfl (Maps.keyOf_int_mk Try.underlying40 ht) _ [] (chElem_mk a 0) ?_; intro w1 hown1 hgrow1)
  go_end0
  exact ⟨rfl, hown1, hgrow1⟩
end Go.Proofs.Qxb6612367a
