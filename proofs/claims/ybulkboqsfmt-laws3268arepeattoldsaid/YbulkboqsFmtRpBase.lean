import Derived.Test.YbulkboqsFmtRows
import Derived.WalkKit
import Derived.WalkLawsBesides
import Derived.WalkSpells
import Derived.Maps.OwnSet
import Derived.Maps.AppendAt
import Derived.Deep.QuietTactic
import Derived.BigQuiet
namespace Go.Proofs.YbulkboqsFmt.Rp
open Go.RowKit Go Go.Maps

/-! ### What a step may turn: the blocks of S, and new ones. -/
structure Keeps (S : Nat → Prop) (w w' : World) : Prop where
  os : w'.os = w.os
  tape : w'.tape = w.tape
  output : w'.output = w.output
  size : w.heap.size ≤ w'.heap.size
  block : ∀ k, k < w.heap.size → ¬ S k → w'.heap[k]? = w.heap[k]?

/-- S, and the blocks that have come. -/
def Grow (S : Nat → Prop) (w w' : World) : Nat → Prop := fun k => S k ∨ (w.heap.size ≤ k ∧ k < w'.heap.size)

theorem Keeps.refl (S : Nat → Prop) (w : World) : Keeps S w w := ⟨rfl, rfl, rfl, Nat.le_refl _, fun _ _ _ => rfl⟩
theorem Keeps.trans {S : Nat → Prop} {a b c : World} (h : Keeps S a b) (k : Keeps (Grow S a b) b c) : Keeps S a c :=
  ⟨k.os.trans h.os, k.tape.trans h.tape, k.output.trans h.output, Nat.le_trans h.size k.size, fun i hi hs => (k.block i (Nat.lt_of_lt_of_le hi h.size) (fun hg => hg.elim hs (fun h' => by omega))).trans (h.block i hi hs)⟩
theorem Keeps.drewN {S : Nat → Prop} {a w : World} (h : Keeps S a w) (n : Nat) : Keeps S a (w.drewN n) := ⟨h.os, h.tape, h.output, h.size, h.block⟩
theorem Keeps.drew {S : Nat → Prop} {a w : World} (h : Keeps S a w) : Keeps S a w.drew := ⟨h.os, h.tape, h.output, h.size, h.block⟩
theorem Keeps.alloc {S : Nat → Prop} {a w : World} (h : Keeps S a w) (o : Obj) : Keeps S a (w.alloc o) :=
  ⟨h.os, h.tape, h.output, by have := h.size; simp; omega, fun k hk hs => (Below.heap_alloc _ _ _ (by have := h.size; omega)).trans (h.block k hk hs)⟩
theorem Keeps.setCell {S : Nat → Prop} {a w : World} (h : Keeps S a w) {p : Addr} (hp : S p.block ∨ a.heap.size ≤ p.block) (u : Value) : Keeps S a (w.setCell p u) :=
  ⟨h.os, h.tape, h.output, by simpa [World.setCell] using h.size, fun k hk hs => (Below.heap_setCell _ _ _ _ (fun e => by subst e; exact hp.elim hs (by omega))).trans (h.block k hk hs)⟩
theorem Keeps.grown {S : Nat → Prop} {a w w' : World} {row : Option Nat} (h : Keeps S a w) (hg : w.grownBy w' row) (hr : ∀ k, row = some k → S k ∨ a.heap.size ≤ k) : Keeps S a w' :=
  ⟨hg.os.trans h.os, hg.tape.trans h.tape, hg.output.trans h.output, Nat.le_trans h.size hg.size, fun k hk hs => (hg.block k (by have := h.size; omega) (fun e => by rcases hr k e.symm with h' | h'; exact hs h'; omega)).trans (h.block k hk hs)⟩
theorem Keeps.mono {S S' : Nat → Prop} {a w : World} (h : Keeps S a w) (hs : ∀ k, S k → S' k) : Keeps S' a w := ⟨h.os, h.tape, h.output, h.size, fun k hk hn => h.block k hk (fun e => hn (hs k e))⟩
theorem Keeps.below {S : Nat → Prop} {B : Nat} {a w : World} (h : Keeps S a w) (hB : B ≤ a.heap.size) (hs : ∀ k, S k → B ≤ k) : Below B a w :=
  ⟨h.os, h.tape, h.output, h.size, fun k hk => h.block k (by omega) (fun e => by have := hs k e; omega)⟩
theorem Grow.refl {S : Nat → Prop} {w : World} {k : Nat} (h : S k) : Grow S w w k := .inl h
theorem Grow.step {S : Nat → Prop} {a b c : World} (h1 : a.heap.size ≤ b.heap.size) (h2 : b.heap.size ≤ c.heap.size) {k : Nat} (h : Grow (Grow S a b) b c k) : Grow S a c k := by
  rcases h with (h | h) | h
  · exact .inl h
  · exact .inr ⟨h.1, by omega⟩
  · exact .inr ⟨by omega, h.2⟩

/-! ### The builder in memory. -/
abbrev nilS : Value := .slice none 0 0
/-- The cells of a builder. 'V': its slices by their places. -/
def bc (ids : Value) (V : Nat → Value) (hlp : Nat) : Array Value :=
  #[.pointer none, ids, V 2, V 3, V 4, V 5, nilS, nilS, nilS, nilS, nilS, V 11, nilS, nilS, nilS, .map none, .map none, .string ⟨#[114]⟩, .int .i64 hlp, .map none]
/-- The places of the slices that grow; what each holds. -/
def at5 (i : Nat) : Prop := i = 2 ∨ i = 3 ∨ i = 4 ∨ i = 5 ∨ i = 11
def el (i : Nat) : TypeId := if i = 2 then 9 else if i = 4 then 3 else 54
def upd {α : Type} (f : Nat → α) (i : Nat) (x : α) : Nat → α := fun j => if j = i then x else f j

theorem bc_upd (ids : Value) (V : Nat → Value) (hlp i : Nat) (v : Value) (hi : at5 i) : (bc ids V hlp).setIfInBounds i v = bc ids (upd V i v) hlp := by
  rcases hi with rfl | rfl | rfl | rfl | rfl <;> rfl
theorem bc_size (ids : Value) (V : Nat → Value) (hlp : Nat) : (bc ids V hlp).size = 20 := rfl

/-- The builder at block L: its cells; its slices, each in a row of its own, all among S. -/
structure Bld (w : World) (S : Nat → Prop) (L : Nat) (ids : Value) (hlp : Nat) (V : Nat → Value) (N : Nat → Nat) : Prop where
  inS : S L
  lt : ∀ k, S k → k < w.heap.size
  cells : w.heap[L]? = some (.cells (bc ids V hlp) 40 (0, 0))
  row : ∀ i, at5 i → ∃ xs, w.ownsRow 0 (el i) 1 (V i) (N i) xs
  sub : ∀ i, at5 i → ∀ k, (V i).ownBlock = some k → S k ∧ k ≠ L
  apart : ∀ i j, at5 i → at5 j → i ≠ j → ∀ k, (V i).ownBlock = some k → (V j).ownBlock ≠ some k

theorem Bld.cell {w : World} {S : Nat → Prop} {L : Nat} {ids : Value} {hlp : Nat} {V : Nat → Value} {N : Nat → Nat} (h : Bld w S L ids hlp V N) {i : Nat} {v : Value} (hv : (bc ids V hlp)[i]? = some v) : w.cell? ⟨L, i, none⟩ = some v := by
  simp [World.cell?, h.cells, hv]
theorem Bld.free {w : World} {S : Nat → Prop} {L : Nat} {ids : Value} {hlp : Nat} {V : Nat → Value} {N : Nat → Nat} (h : Bld w S L ids hlp V N) (i : Nat) : w.frozen? ⟨L, i, none⟩ = false := by
  simp [World.frozen?, h.cells]
theorem Bld.form {w : World} {S : Nat → Prop} {L : Nat} {ids : Value} {hlp : Nat} {V : Nat → Value} {N : Nat → Nat} (h : Bld w S L ids hlp V N) (i : Nat) (hi : at5 i) : ∃ a c, V i = .slice a (N i) c := by
  obtain ⟨xs, _, h | ⟨g, c, _, h, _⟩⟩ := h.row i hi
  · exact ⟨none, 0, by rw [h.1, h.2]⟩
  · exact ⟨_, _, h⟩

/-- Nothing of the builder has turned. -/
theorem Bld.keep {w w' : World} {S S' T : Nat → Prop} {L : Nat} {ids : Value} {hlp : Nat} {V : Nat → Value} {N : Nat → Nat} (h : Bld w S L ids hlp V N) (hk : Keeps T w w') (hT : ∀ k, T k → ¬ S k) (hS : ∀ k, S k → S' k) (hlt : ∀ k, S' k → k < w'.heap.size) : Bld w' S' L ids hlp V N where
  inS := hS _ h.inS
  lt := hlt
  cells := (hk.block L (h.lt L h.inS) (fun e => hT L e h.inS)).trans h.cells
  row := fun i hi => by
    obtain ⟨xs, h1, h2⟩ := h.row i hi
    refine ⟨xs, h1, ?_⟩
    rcases h2 with h2 | ⟨g, cap, cur, hv, hg, hh, r⟩
    · exact .inl h2
    · have hs := (h.sub i hi g (by rw [hv]; rfl)).1
      exact .inr ⟨g, cap, cur, hv, hg, (hk.block g (h.lt g hs) (fun e => hT g e hs)).trans hh, r⟩
  sub := fun i hi k hk' => ⟨hS _ (h.sub i hi k hk').1, (h.sub i hi k hk').2⟩
  apart := h.apart

theorem Bld.alloc {w : World} {S : Nat → Prop} {L : Nat} {ids : Value} {hlp : Nat} {V : Nat → Value} {N : Nat → Nat} (h : Bld w S L ids hlp V N) (o : Obj) : Bld (w.alloc o) S L ids hlp V N :=
  h.keep (T := fun _ => False) ((Keeps.refl _ _).alloc o) (fun _ e => e.elim) (fun _ e => e) (fun k hk => by have := h.lt k hk; simp; omega)
theorem Bld.drew {w : World} {S : Nat → Prop} {L : Nat} {ids : Value} {hlp : Nat} {V : Nat → Value} {N : Nat → Nat} (h : Bld w S L ids hlp V N) : Bld w.drew S L ids hlp V N :=
  h.keep (T := fun _ => False) ((Keeps.refl _ _).drew) (fun _ e => e.elim) (fun _ e => e) (fun k hk => h.lt k hk)
theorem Bld.wide {w : World} {S S' : Nat → Prop} {L : Nat} {ids : Value} {hlp : Nat} {V : Nat → Value} {N : Nat → Nat} (h : Bld w S L ids hlp V N) (hS : ∀ k, S k → S' k) (hlt : ∀ k, S' k → k < w.heap.size) : Bld w S' L ids hlp V N :=
  h.keep (T := fun _ => False) (Keeps.refl _ _) (fun _ e => e.elim) hS hlt

/-- Another cell of the builder is written. -/
theorem Bld.put {w : World} {S : Nat → Prop} {L : Nat} {ids ids' : Value} {hlp hlp' : Nat} {V : Nat → Value} {N : Nat → Nat} (h : Bld w S L ids hlp V N) (i : Nat) (u : Value) (e : (bc ids V hlp).setIfInBounds i u = bc ids' V hlp') : Bld (w.setCell ⟨L, i, none⟩ u) S L ids' hlp' V N where
  inS := h.inS
  lt := fun k hk => by simpa [World.setCell] using h.lt k hk
  cells := by rw [heap_setCell_same w L i _ 40 u h.cells, e]
  row := fun j hj => by
    obtain ⟨xs, hx⟩ := h.row j hj
    exact ⟨xs, ownsRow_setCell_other hx (fun e => (h.sub j hj L e).2 rfl) u⟩
  sub := h.sub
  apart := h.apart

/-- Behind an append to slice i. -/
theorem Bld.appended {w w1 : World} {S S1 : Nat → Prop} {L : Nat} {ids : Value} {hlp : Nat} {V : Nat → Value} {N : Nat → Nat} (h : Bld w S L ids hlp V N) (i : Nat) (hi : at5 i) {v' : Value} {m : Nat} {ys : List Value}
    (hown : w1.ownsRow 0 (el i) 1 v' (N i + m) ys) (hg : w.grownBy w1 (V i).ownBlock) (hat : v'.ownBlock = (V i).ownBlock ∨ v'.ownBlock = some w.heap.size) (hS : ∀ k, S k → S1 k) (hnew : ∀ k, v'.ownBlock = some k → S1 k) (hlt : ∀ k, S1 k → k < w1.heap.size) :
    w1.heap[L]? = some (.cells (bc ids V hlp) 40 (0, 0)) ∧ Bld (w1.setCell ⟨L, i, none⟩ v') S1 L ids hlp (upd V i v') (upd N i (N i + m)) := by
  have hLne : some L ≠ (V i).ownBlock := fun e => (h.sub i hi L e.symm).2 rfl
  have hL : w1.heap[L]? = some (.cells (bc ids V hlp) 40 (0, 0)) := (hg.block L (h.lt L h.inS) hLne).trans h.cells
  have hLlt := h.lt L h.inS
  have hvL : v'.ownBlock ≠ some L := by
    rcases hat with e | e
    · rw [e]; exact fun e' => hLne e'.symm
    · rw [e]; intro e'; simp at e'; omega
  refine ⟨hL, ⟨hS _ h.inS, fun k hk => by simpa [World.setCell] using hlt k hk, by rw [heap_setCell_same w1 L i _ 40 v' hL, bc_upd _ _ _ _ _ hi], fun j hj => ?_, fun j hj k hk => ?_, fun j l hj hl hjl k hk => ?_⟩⟩
  · by_cases hji : j = i
    · subst hji
      simp only [upd, if_pos]
      exact ⟨ys, ownsRow_setCell_other hown hvL _⟩
    · simp only [upd, if_neg hji]
      obtain ⟨xs, hx⟩ := h.row j hj
      refine ⟨xs, ownsRow_setCell_other (hx.kept hg ?_) (fun e => (h.sub j hj L e).2 rfl) _⟩
      cases hb : (V j).ownBlock with
      | none => exact .inl rfl
      | some k => exact .inr (fun e => h.apart j i hj hi hji k hb e.symm)
  · by_cases hji : j = i
    · subst hji
      simp only [upd, if_pos] at hk
      exact ⟨hnew k hk, fun e => hvL (by rw [hk, e])⟩
    · simp only [upd, if_neg hji] at hk
      exact ⟨hS _ (h.sub j hj k hk).1, (h.sub j hj k hk).2⟩
  · have hold : ∀ j, at5 j → (V j).ownBlock = some k → k < w.heap.size := fun j hj e => h.lt k (h.sub j hj k e).1
    by_cases hji : j = i
    · subst hji
      simp only [upd, if_pos, if_neg (show l ≠ j from fun e => hjl e.symm)] at hk ⊢
      rcases hat with e | e
      · exact h.apart j l hj hl hjl k (e ▸ hk)
      · intro e'
        rw [e] at hk
        have := hold l hl e'
        simp at hk
        omega
    · simp only [upd, if_neg hji] at hk
      by_cases hli : l = i
      · subst hli
        simp only [upd, if_pos]
        rcases hat with e | e
        · rw [e]; exact h.apart j l hj hl hjl k hk
        · rw [e]; intro e'
          have := hold j hj hk
          simp at e'
          omega
      · simp only [upd, if_neg hli]
        exact h.apart j l hj hl hjl k hk
end Go.Proofs.YbulkboqsFmt.Rp
