import Derived.Test.YbulkborgDoorTie
import Derived.Test.YbulkborgDoorCards
import Derived.Test.YbulkborgDoorAddr
import Derived.ProofKit
import Derived.LaidMore
import Derived.OpenShut
import Derived.Stop.Joined
import Derived.SevenTiedAt
namespace Go.Proofs.YbulkborgDoor
open Go.ChangeShapes Go.WideShapes Go.ChangeAt Go.WideMaps Go.WideElems Go.RowKit

theorem own : ownKnob Ybad.prog.godebug = none := by kernel_rfl
theorem laidOut : laidOutB Ybad.prog = true := by kernel_rfl
theorem gz4 : Ybad.prog.globalNamed "net/netip.z4" = some 1 := by kernel_rfl
theorem gz6 : Ybad.prog.globalNamed "net/netip.z6noz" = some 0 := by kernel_rfl
theorem tz4 : (Ybad.prog.globals[1]?).map (·.type) = some 28 := by kernel_rfl
theorem tz6 : (Ybad.prog.globals[0]?).map (·.type) = some 28 := by kernel_rfl

/-- What the two rows list. -/
def laid2 {H : Type} : List (String × DataW H) := [("net/netip.z4", Rows.laid_net_netip_z4), ("net/netip.z6noz", Rows.laid_net_netip_z6noz)]

/-- A handle's one cell is a pointer. -/
theorem handle_cell {H : Type} {enc : TypeId × Value → H} {W : World} {base : Nat} {sp : Nat → Bool} {held : Bool} {fuel : Nat} {cs : List Value} {x : DataW H × List MemPlace}
    (h : DataW.trod enc Ybad.prog W base sp held fuel 28 cs = some x) : ∃ z, cs[0]? = some (.pointer z) := by
  obtain ⟨xs, n, rfl, rfl, hl, hx, hel⟩ := DataW.trod_struct Ybad.underlying28 h
  have c28 : Ybad.prog.cellsOf 28 = 1 := by kernel_rfl
  have c26 : Ybad.prog.cellsOf 26 = 1 := by kernel_rfl
  have h0 : DataW.trod enc Ybad.prog W base sp held n 26 (List.take (Ybad.prog.cellsOf 26) (List.drop 0 cs)) = xs[0]? := hel 0 _ rfl
  rw [c26] at h0
  rw [c28] at hl
  match cs, hl with
  | [c], _ =>
    have hx1 : xs.length = 1 := hx
    match xs, hx1, h0 with
    | [y], _, h0 =>
      simp only [List.drop_zero, List.take_succ_cons, List.take_zero, List.getElem?_cons_zero] at h0
      cases n with
      | zero => simp [DataW.trod] at h0
      | succ n =>
        rw [DataW.trod_step] at h0
        unfold DataW.trodStep at h0
        simp only [Ybad.underlying26] at h0
        cases c <;> simp_all

/-- WHAT THE CONDITION GIVES THE WALKS: the two variables' cells hold pointers. -/
theorem of_laid {W : World} (h : laidMetH Ybad.prog laid2 W) : ∃ z4 z6, W.cell? ⟨1, 0, none⟩ = some (.pointer z4) ∧ W.cell? ⟨0, 0, none⟩ = some (.pointer z6) := by
  rw [MakeChecks.laidMetH_plain _ _ _ (by kernel_rfl)] at h
  obtain ⟨ps, ⟨g0, t0, cs0, f0, p0, q0, hg0, ht0, hv0, hd0, ⟨g1, t1, cs1, f1, p1, q1, hg1, ht1, hv1, hd1, _, _⟩, _⟩, _, _⟩ := h
  obtain rfl := Option.some.inj (gz4.symm.trans hg0)
  obtain rfl := Option.some.inj (gz6.symm.trans hg1)
  obtain rfl := Option.some.inj (tz4.symm.trans ht0)
  obtain rfl := Option.some.inj (tz6.symm.trans ht1)
  obtain ⟨z4, e4⟩ := handle_cell hd0
  obtain ⟨z6, e6⟩ := handle_cell hd1
  refine ⟨z4, z6, ?_, ?_⟩
  · have := World.var?_cell hg0 hv0 0
    rw [this]; simpa using e4
  · have := World.var?_cell hg1 hv1 0
    rw [this]; simpa using e6

theorem lt_of_cell {W : World} {B j : Nat} {v : Value} (h : W.cell? ⟨B, j, none⟩ = some v) : B < W.heap.size := by
  by_cases hb : B < W.heap.size
  · exact hb
  · have e : W.heap[B]? = none := by simp; omega
    simp [World.cell?, e] at h

theorem by_of_wf {k : Int} (hw : (Lit.int .u8 k).wf = true) : Em.By k := by
  simp [Lit.wf] at hw
  have h1 : IntKind.min .u8 = 0 := by decide
  have h2 : IntKind.max .u8 = 255 := by decide
  unfold Em.By
  omega

/-- An argument of the type [16]byte: sixteen octets. -/
theorem open_b16 {H : Type} {enc : TypeId × Value → H} {W : World} {base b0 : Nat} {sp : Nat → Bool} {held : Bool} {r : Reach} {v : Value} {d : DataW H} {ps : List MemPlace} (hval : Value.okWide Ybad.prog W r b0 22 v)
    (hd : DataW.Trod enc Ybad.prog W base sp held 22 v d ps) : ∃ b : Nat → Int, v = .agg (Em.b16 b) ∧ ∀ i, Em.By (b i) := by
  simp only [Value.okWide, Ybad.underlying22] at hval
  obtain ⟨cs, rfl, hsz, _⟩ := hval
  obtain ⟨fuel, hf⟩ := hd
  obtain ⟨xs, m, rfl, _, hl, hn, hel⟩ := DataW.trod_array Ybad.underlying22 hf
  have c5 : Ybad.prog.cellsOf 5 = 1 := by kernel_rfl
  have c22 : Ybad.prog.cellsOf 22 = 16 := by kernel_rfl
  rw [c5] at hel
  rw [c22] at hsz
  have key : ∀ i, i < 16 → ∃ k : Int, cs[i]? = some (.int .u8 k) ∧ Em.By k := by
    intro i hi
    have h := hel i hi
    have hx : xs[i]? = some xs[i] := by simp
    rw [hx] at h
    obtain ⟨k, e1, _, hw⟩ := DataW.trod_int Ybad.underlying5 h
    refine ⟨k, ?_, ?_⟩
    · have e2 := congrArg (fun l : List Value => l[0]?) e1
      simpa [Value.cells] using e2
    · exact by_of_wf hw
  refine ⟨fun i => if h : i < 16 then (key i h).choose else 0, ?_, ?_⟩
  · congr 1
    apply Array.ext_getElem?
    intro i
    by_cases hi : i < 16
    · rw [(key i hi).choose_spec.1]
      obtain rfl | rfl | rfl | rfl | rfl | rfl | rfl | rfl | rfl | rfl | rfl | rfl | rfl | rfl | rfl | rfl : i = 0 ∨ i = 1 ∨ i = 2 ∨ i = 3 ∨ i = 4 ∨ i = 5 ∨ i = 6 ∨ i = 7 ∨ i = 8 ∨ i = 9 ∨ i = 10 ∨ i = 11 ∨ i = 12 ∨ i = 13 ∨ i = 14 ∨ i = 15 := by omega
      all_goals rfl
    · rw [Array.getElem?_eq_none (by omega), Array.getElem?_eq_none (by simp [Em.b16]; omega)]
  · intro i
    by_cases hi : i < 16
    · simp only [hi, dif_pos]; exact (key i hi).choose_spec.2
    · simp only [hi, dif_neg, not_false_eq_true]; unfold Em.By; omega
end Go.Proofs.YbulkborgDoor
