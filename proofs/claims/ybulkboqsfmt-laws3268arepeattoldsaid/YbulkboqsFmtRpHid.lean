import Derived.Test.YbulkboqsFmtRpAdd
import Derived.Stop.CallBack
import Derived.Stop.IfaceNil
import Derived.Deep.RegionWith
import GoSem.ClaimData
namespace Go.Proofs.YbulkboqsFmt.Rp
open Go.RowKit Go Go.Maps Go.Extern.Stop Go.Stop Go.Extern

theorem Ybaf.call23 (args : Array Value) (w : World) : (callFunc 23 args).run Ybaf.prog w = ((FmtStop.sprintf #[9, 138] #[9] args).run Ybaf.prog w).andThen fun v w' => .ok (.value v) w' :=
  run_callFunc_extern Ybaf.func23 (by kernel_rfl) (by kernel_rfl) (by kernel_rfl) (by kernel_rfl) args w
theorem Ybaf.guard (name : String) (w : World) : (FmtStop.guard name).run Ybaf.prog w = .ok () w := by kernel_rfl
theorem Ybaf.fmt0 : FmtStop.printed? ⟨#[37, 115, 35, 37, 100]⟩ 2 = some [(0, 115, false), (1, 100, false)] := by kernel_rfl
theorem Ybaf.fmt0r (w : World) : (FmtDoors.printed ⟨#[37, 115, 35, 37, 100]⟩ 2).run Ybaf.prog w = .ok [(0, 115, false), (1, 100, false)] w := by kernel_rfl
def Ybaf.shape3 : List UInt8 := [5, 3, 0, 0, 0, 0, 0, 0, 0, 105, 110, 116]
theorem Ybaf.op3_100 (name : String) (x : Int) (w : World) : (FmtStop.operand name false 100 false (.iface 3 (.int .i64 x))).run Ybaf.prog w = .ok (Ybaf.shape3, Go.Extern.Stop.digits 8 (x % 2 ^ 64).toNat) w := by kernel_rfl
def Ybaf.shape9 : List UInt8 := [12, 6, 0, 0, 0, 0, 0, 0, 0, 115, 116, 114, 105, 110, 103]
theorem Ybaf.op9_115 (name : String) (x : ByteArray) (w : World) : (FmtStop.operand name false 115 false (.iface 9 (.string x))).run Ybaf.prog w = .ok (Ybaf.shape9, FmtStop.pack x.data.toList) w := by kernel_rfl
attribute [local go_sem] Ybaf.call23 Ybaf.guard Ybaf.fmt0 Ybaf.fmt0r Ybaf.op3_100 Ybaf.op9_115

theorem After.pre {S : Nat → Prop} {w W w2 : World} {L : Nat} {ids : Value} {hlp : Nat} {N : Nat → Nat} {n2 d : Nat} (h : After S W w2 L ids hlp N n2 d) (hK : Keeps S w W) : After S w w2 L ids hlp N n2 d := by
  obtain ⟨V', N', B, e, b, K⟩ := h
  refine ⟨V', N', B.wide (fun k hk => ?_) (fun k hk => ?_), e, b, hK.trans (K.mono fun k hk => .inl hk)⟩
  · rcases hk with hk | hk
    · exact .inl hk
    · exact .inr ⟨Nat.le_trans hK.size hk.1, hk.2⟩
  · rcases hk with hk | hk
    · exact B.lt k (.inl hk)
    · exact hk.2

set_option maxHeartbeats 1000000 in
theorem hidden_any (F : Interp) (S : Nat → Prop) (L : Nat) (ids : Value) (hlp : Nat) (V : Nat → Value) (N : Nat → Nat) (w : World) (hF : F.answers w.tape) (h : Bld w S L ids hlp V N) (hN : ∀ i, at5 i → N i ≤ 100000) (hh : hlp ≤ 100000) :
    Calls Ybaf.prog 14 #[.pointer (some ⟨L, 0, none⟩)] w fun e w' => e = .returned (.int .i32 (N 2)) ∧ After S w w' L ids (hlp + 1) N (N 2 + 1) 1 := by
  have hF' := answers_open hF
  have k18 : w.cell? ⟨L, 18, none⟩ = some (.int .i64 hlp) := h.cell rfl
  have k18f := h.free 18
  go_enter Ybaf.func14, Ybaf.ntmps14
  go_wp2
  have B1 := h.put (ids' := ids) (hlp' := hlp + 1) 18 (.int .i64 (hlp + 1 : Nat)) rfl
  have K1 := (Keeps.refl S w).setCell (p := ⟨L, 18, none⟩) (.inl h.inS) (.int .i64 (hlp + 1 : Nat))
  have hF1 : F.answers (w.setCell ⟨L, 18, none⟩ (.int .i64 (hlp + 1 : Nat))).tape := hF
  have e1 : ((hlp + 1 : Nat) : Int) = (hlp : Int) + 1 := by omega
  rw [e1] at B1 K1 hF1
  clear hF' hF k18 k18f h
  generalize w.setCell ⟨L, 18, none⟩ (.int .i64 ((hlp : Int) + 1)) = w1 at *
  have hF' := answers_open hF1
  have k17 : w1.cell? ⟨L, 17, none⟩ = some (.string ⟨#[114]⟩) := B1.cell rfl
  have k18 : w1.cell? ⟨L, 18, none⟩ = some (.int .i64 ((hlp : Int) + 1)) := B1.cell (by rw [← e1]; rfl)
  have hLlt := B1.lt L B1.inS
  clear e1
  have B2 := ((B1.alloc (.cells #[.iface 9 (.string ⟨#[114]⟩), .iface 3 (.int .i64 ((hlp : Int) + 1))] 20)).drew).drew
  have K2 := ((K1.alloc (.cells #[.iface 9 (.string ⟨#[114]⟩), .iface 3 (.int .i64 ((hlp : Int) + 1))] 20)).drew).drew
  go_region_with (go_at_call 22; refine (Hidden_any S L ids (hlp + 1) V N _ _ B2 hN).mono ?_; rintro e w2 ⟨rfl, hA⟩)
  all_goals
    go_wp2
    go_ret
    exact ⟨rfl, hA.pre K2⟩
end Go.Proofs.YbulkboqsFmt.Rp
