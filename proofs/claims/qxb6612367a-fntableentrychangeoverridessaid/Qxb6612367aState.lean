import Derived.Test.Qxb6612367aBuild
import Derived.Test.Qxb6612367aDomain
namespace Go.Proofs.Qxb6612367a
open Go.RowKit
set_option linter.unusedVariables false

theorem row_cells {w : World} {B e g n cap : Nat} {zs : List Int} (h : w.ownsRow B e 1 (.slice (some ⟨g, 0, none⟩) n cap) zs.length (wds zs)) : ∀ i, i < zs.length → w.cell? ⟨g, 0 + i, none⟩ = some (.int .u64 (zs.getD i 0)) := by
  intro i hi
  have := h.cells (g := g) rfl i (.int .u64 (zs.getD i 0)) (by simp [wds, List.getD_eq_getElem?_getD, hi])
  have e : (⟨g, 0, none⟩ : Addr).add i = ⟨g, 0 + i, none⟩ := by
    by_cases h0 : i = 0
    · subst h0; simp [Addr.add]
    · simp [Addr.add, h0]
  rwa [e] at this

theorem rowIs_of {w : World} {B e : Nat} {v : Value} {zs : List Int} (h : w.ownsRow B e 1 v zs.length (wds zs)) : RowIs w v zs := by
  have h' := h
  obtain ⟨_, ⟨rfl, h0⟩ | ⟨g, cap, cur, rfl, _, _, hc, _⟩⟩ := h'
  · exact .inl ⟨h0, none, 0, rfl⟩
  · by_cases h0 : zs.length = 0
    · exact .inl ⟨h0, _, cap, by rw [h0]⟩
    · exact .inr ⟨by omega, g, 0, cap, rfl, hc, row_cells h⟩

theorem row0_of {w : World} {B e : Nat} {v : Value} {zs : List Int} (h : w.ownsRow B e 1 v zs.length (wds zs)) :
    ∃ g cap, (zs.length = 0 ∧ v = .slice none 0 0) ∨ (v = .slice (some ⟨g, 0, none⟩) zs.length cap ∧ zs.length ≤ cap ∧ ∀ i, i < zs.length → w.cell? ⟨g, 0 + i, none⟩ = some (.int .u64 (zs.getD i 0))) := by
  have h' := h
  obtain ⟨_, ⟨rfl, h0⟩ | ⟨g, cap, cur, rfl, _, _, hc, _⟩⟩ := h'
  · exact ⟨0, 0, .inl ⟨h0, rfl⟩⟩
  · exact ⟨g, cap, .inr ⟨rfl, hc, row_cells h⟩⟩

theorem Tab.grown {M : Nat} {w w' : World} {v0 v1 : Value} {es ids : List Int} {row : Option Nat} (h : Tab M w v0 v1 es ids) (hg : w.grownBy w' row) (hr : ∀ k, row = some k → k ≤ M) : Tab M w' v0 v1 es ids := by
  have hs := h.size
  have hb : ∀ k, M + 1 ≤ k → k < w.heap.size → w'.heap[k]? = w.heap[k]? := fun k h1 h2 => hg.block k h2 (fun e => by have := hr k e.symm; omega)
  have hk : ∀ {v : Value}, (∀ k, v.ownBlock = some k → M + 2 ≤ k) → v.ownBlock = none ∨ v.ownBlock ≠ row := fun {v} hv => by
    cases e : v.ownBlock with
    | none => exact .inl rfl
    | some k => exact .inr (fun e2 => by have := hv k e; have := hr k e2.symm; omega)
  have hcell : ∀ o, w'.cell? ⟨M + 1, o, none⟩ = w.cell? ⟨M + 1, o, none⟩ := fun o => World.cell?_of_block (hb (M + 1) (by omega) (by omega))
  exact ⟨(hcell 0).trans h.c0, (hcell 1).trans h.c1, (hcell 6).trans h.c6, fun o => (World.frozen?_of_block (a := ⟨M + 1, o, none⟩) (hb (M + 1) (by omega) (by omega))).trans (h.fr o),
    h.r0.kept hg (hk h.row0), h.r1.kept hg (hk h.row1), h.apart, Nat.le_trans hs hg.size⟩

/-- THE STATE: the table over es and ids, its map D, and nothing old turned. -/
def St (M : Nat) (w0 w : World) (es ids : List Int) (n : Nat) (D : DataW Unit) : Prop :=
  (∃ v0 v1, Tab M w v0 v1 es ids) ∧ ids.length = (es.length + 127) / 128 ∧ w.ownsMap Try.prog 40 chElem M n D ∧ Below M w0 w

theorem St.later {M : Nat} {w0 w : World} {es ids : List Int} {n : Nat} {D : DataW Unit} (h : St M w0 w es ids n D) (C : Array Value) (q : Nat) : St M w0 ((w.alloc (.cells C 43)).drewN q) es ids n D := by
  obtain ⟨⟨v0, v1, ht⟩, hl, hm, hb⟩ := h
  have hs := ht.size
  refine ⟨⟨v0, v1, ?_⟩, hl, ?_, ?_⟩
  · have := ht.grown (World.grownBy_alloc w (.cells C 43) none) (fun k e => by cases e)
    exact ⟨this.c0, this.c1, this.c6, this.fr, this.r0, this.r1, this.apart, this.size⟩
  · exact hm.alloc (.cells C 43)
  · have := hb.alloc (by have := hb.size; omega) (.cells C 43)
    exact ⟨this.os, this.tape, this.output, this.size, this.block⟩

theorem st_build_of {w0 w' : World} {es : List Int} (h : ∃ W0, Below w0.heap.size w0 W0 ∧ W0.ownsMap Try.prog 40 chElem w0.heap.size 0 (.map []) ∧ Built w0.heap.size W0 w' es) :
    ∃ ids, St w0.heap.size w0 w' es ids 0 (.map []) := by
  obtain ⟨W0, hb, hm, v0, v1, ids, ht, hl, hb2⟩ := h
  exact ⟨ids, ⟨v0, v1, ht⟩, hl, ownsMap_of_block hm (hb2.block _ (by omega)), hb.trans (hb2.mono (by omega))⟩

theorem st_entry_no {M : Nat} {w0 w : World} {es ids : List Int} {n : Nat} {D : DataW Unit} (h : St M w0 w es ids n D) (hw : Words es) (hn : es.length ≤ 65536) (t : Int) (ht : (Lit.int .u64 t).wf = true) (hh : Maps.has D (.int .u64 t) = false) :
    Calls Try.prog 8 #[.pointer (some ⟨M + 1, 0, none⟩), .int .u64 t] w fun e w' => e = .returned (.tuple #[.int .u8 (sM es ids t), .bool (sOk es ids t)]) ∧ St M w0 w' es ids n D := by
  have hS := h
  obtain ⟨⟨v0, v1, hT⟩, hl, hm, hb⟩ := h
  obtain ⟨z, hlook⟩ := look_no hm ht hh
  have hs := hT.size
  refine (entry_no (M + 1) M 0 z t (sM es ids t) (sOk es ids t) w (by omega) hT.c6 hlook (fun C => ?_)).mono ?_
  · have hT2 := hT.grown (World.grownBy_alloc w (.cells C 43) none) (fun k e => by cases e)
    obtain ⟨g, cap, hr0⟩ := row0_of hT2.r0
    obtain ⟨u, hu, h17⟩ := block_any (rowIs_of hT2.r1) hr0 hl hn t
    exact sorted_of (M + 1) v0 v1 u _ _ t _ hT2.c0 hT2.c1 h17 (fun k => lists_of (hu.drewN k) (Nat.le_trans (blockOf_le es ids t) hn) (blockOf_words hw ids t) t)
  · rintro e w' ⟨rfl, C, q, rfl⟩
    exact ⟨rfl, hS.later C q⟩

theorem st_entry_yes {M : Nat} {w0 w : World} {es ids : List Int} {n : Nat} {D : DataW Unit} (h : St M w0 w es ids n D) (t a : Int) (ht : (Lit.int .u64 t).wf = true) (hh : Maps.has D (.int .u64 t) = true) (ha : D.atKey (.int .u64 t) (.lit (.int .u8 0)) = .lit (.int .u8 a)) :
    Calls Try.prog 8 #[.pointer (some ⟨M + 1, 0, none⟩), .int .u64 t] w fun e w' => e = .returned (.tuple #[.int .u8 a, .bool (a != 0)]) ∧ St M w0 w' es ids n D := by
  have hS := h
  obtain ⟨⟨v0, v1, hT⟩, hl, hm, hb⟩ := h
  obtain ⟨z, hlook⟩ := look_yes hm ht hh ha
  have hs := hT.size
  refine (entry_yes (M + 1) M a z t w (by omega) hT.c6 hlook).mono ?_
  rintro e w' ⟨rfl, C, q, rfl⟩
  exact ⟨rfl, hS.later C q⟩

theorem st_set {M : Nat} {w0 w : World} {es ids : List Int} {D : DataW Unit} (h : St M w0 w es ids 0 D) (hM : M ≤ w0.heap.size) (t a : Int) (ht : (Lit.int .u64 t).wf = true) :
    Calls Try.prog 11 #[.pointer (some ⟨M + 1, 0, none⟩), .int .u64 t, .int .u8 a] w fun e w' => e = .returned (.tuple #[]) ∧ St M w0 w' es ids 1 (D.put (.int .u64 t) (.lit (.int .u8 a))) := by
  obtain ⟨⟨v0, v1, hT⟩, hl, hm, hb⟩ := h
  refine (set_any (M + 1) M w D t a hT.c6 hm ht).mono ?_
  rintro e w' ⟨rfl, hm', hg⟩
  refine ⟨rfl, ⟨v0, v1, hT.grown hg (fun k e => by injection e with e; omega)⟩, hl, hm', hb.grown hg (Nat.le_trans hM hb.size) (fun k e => by injection e with e; omega)⟩
end Go.Proofs.Qxb6612367a
