import Derived.Test.Qxb6612240aDoorSizes
import Derived.ProofKit
import Derived.OpenShut
import Derived.LaidLaws
import Derived.Lay
import Derived.MakeChecks
import Derived.ChangeOld
import Derived.Stop.Joined
namespace Go.Proofs.Qxb6612240aDoor
open Go.ChangeShapes Go.WideShapes Go.RowKit

def laid4 : List (String × DataW Unit) := [("io.EOF", Rows.laid_io_EOF), ("io.ErrNoProgress", Rows.laid_io_ErrNoProgress), ("bufio.ErrBufferFull", Rows.laid_bufio_ErrBufferFull), ("bufio.errNegativeRead", Rows.laid_bufio_errNegativeRead)]

theorem own : ownKnob Tryd.prog.godebug = none := by kernel_rfl
theorem laidOut : laidOutB Tryd.prog = true := by kernel_rfl
theorem gE : Tryd.prog.globalNamed "io.EOF" = some 1 := by kernel_rfl
theorem gN : Tryd.prog.globalNamed "io.ErrNoProgress" = some 3 := by kernel_rfl
theorem gF : Tryd.prog.globalNamed "bufio.ErrBufferFull" = some 0 := by kernel_rfl
theorem gR : Tryd.prog.globalNamed "bufio.errNegativeRead" = some 2 := by kernel_rfl
theorem tE : (Tryd.prog.globals[1]?).map (·.type) = some 28 := by kernel_rfl
theorem tN : (Tryd.prog.globals[3]?).map (·.type) = some 28 := by kernel_rfl
theorem tF : (Tryd.prog.globals[0]?).map (·.type) = some 28 := by kernel_rfl
theorem tR : (Tryd.prog.globals[2]?).map (·.type) = some 28 := by kernel_rfl
theorem star : "*" ++ "errors.errorString" = "*errors.errorString" := by decide
theorem cells78 : Tryd.prog.cellsOf 78 = 1 := by kernel_rfl
theorem cells9 : Tryd.prog.cellsOf 9 = 1 := by kernel_rfl
theorem row59 (u : TypeId) (h : Tryd.prog.typeName? 3 u = some "*errors.errorString") : u = 59 :=
  typeName_ptr_named (nm := "errors.errorString") (by rw [star]; kernel_rfl) (by kernel_rfl) (by decide) u (by rw [star]; exact h)

/-- WHAT THE CONDITION GIVES THE WALKS: the two sentinels that the road meets. -/
theorem sentinels_of_laid {W : World} (h : laidMetH Tryd.prog laid4 W) :
    ∃ aE aF : Addr, W.cell? ⟨1, 0, none⟩ = some (.iface 59 (.pointer (some aE))) ∧ W.cell? ⟨0, 0, none⟩ = some (.iface 59 (.pointer (some aF))) ∧ Sen W aE aF W.heap.size := by
  rw [MakeChecks.laidMetH_plain _ _ _ (by kernel_rfl)] at h
  obtain ⟨ps, ⟨g0, t0, cs0, f0, p0, q0, hg0, ht0, hv0, hd0, ⟨g1, t1, cs1, f1, p1, q1, hg1, ht1, hv1, hd1, ⟨g2, t2, cs2, f2, p2, q2, hg2, ht2, hv2, hd2, ⟨g3, t3, cs3, f3, p3, q3, hg3, ht3, hv3, hd3, hq3, e3⟩, e2⟩, e1⟩, e0⟩, hnd, hrows⟩ := h
  obtain rfl := Option.some.inj (gE.symm.trans hg0)
  obtain rfl := Option.some.inj (gN.symm.trans hg1)
  obtain rfl := Option.some.inj (gF.symm.trans hg2)
  obtain rfl := Option.some.inj (gR.symm.trans hg3)
  obtain rfl := Option.some.inj (tE.symm.trans ht0)
  obtain rfl := Option.some.inj (tN.symm.trans ht1)
  obtain rfl := Option.some.inj (tF.symm.trans ht2)
  obtain rfl := Option.some.inj (tR.symm.trans ht3)
  have hq3' : q3 = [] := hq3
  subst hq3'
  subst e3
  subst e2
  subst e1
  subst e0
  obtain ⟨l0⟩ := cs0
  obtain ⟨l2⟩ := cs2
  have ok0 : ∀ u v, l0 = [.iface u v] → Value.okWide Tryd.prog W .any 0 u v := fun u v e => by
    subst e
    exact (hrows 1 0 (by simp [MemPlace.row])).2 u v (by simpa using World.var?_cell hg0 hv0 0)
  have ok2 : ∀ u v, l2 = [.iface u v] → Value.okWide Tryd.prog W .any 0 u v := fun u v e => by
    subst e
    exact (hrows 0 0 (by simp [MemPlace.row])).2 u v (by simpa using World.var?_cell hg2 hv2 0)
  obtain ⟨a0, s0, rfl, hc0, hs0, hz0, rfl⟩ := errorString_of_trod Tryd.underlying28 row59 Tryd.underlying59 Tryd.underlying78 rfl rfl Tryd.underlying9 cells78 cells9 hd0 ok0
  obtain ⟨a2, s2, rfl, hc2, hs2, hz2, rfl⟩ := errorString_of_trod Tryd.underlying28 row59 Tryd.underlying59 Tryd.underlying78 rfl rfl Tryd.underlying9 cells78 cells9 hd2 ok2
  obtain ⟨c0, t0, hb0⟩ := (hrows a0.block a0.off (by simp [MemPlace.row])).1
  obtain ⟨c2, t2, hb2⟩ := (hrows a2.block a2.off (by simp [MemPlace.row])).1
  refine ⟨a0, a2, by simpa using World.var?_cell hg0 hv0 0, by simpa using World.var?_cell hg2 hv2 0, ?_, lt_of_block hb0, lt_of_block hb2, ⟨c0, t0, hb0⟩, ⟨c2, t2, hb2⟩⟩
  rintro rfl
  simp [MemPlace.row] at hnd

theorem met (os : Os) (args : Array Value) : laidMetH Tryd.prog laid4 ((World.laidAll Tryd.prog os laid4).forCall (fun _ _ => 0) ⟨#[], args, []⟩).memory := by
  rw [MakeChecks.laidMetH_plain _ _ _ (by kernel_rfl)]
  exact laidMet_laidAll _ (by kernel_rfl) (by kernel_rfl)

/-- WHAT THE WALK IS TOLD OF A SLICE OF INTEGERS THAT CAME IN -/
def IsRow (k : IntKind) (w : World) (a : Option Addr) (len cap : Nat) (zs : List Int) : Prop :=
  (a = none ∧ len = 0 ∧ cap = 0 ∧ zs = []) ∨
  ∃ x, a = some x ∧ len ≤ cap ∧ cap ≤ maxLen ∧ zs.length = cap ∧ (∀ i, i < zs.length → w.cell? (x.add i) = some (.int k (zs.getD i 0))) ∧ ∀ n ∈ zs, (Lit.int k n).wf = true

theorem IsRow.came {w : World} {a : Option Addr} {len cap : Nat} {zs : List Int} (h : IsRow .u8 w a len cap zs) : ∃ D : List Int, D.length = len ∧ Came w a cap D ∧ ∀ x ∈ D, 0 ≤ x ∧ x ≤ 255 := by
  rcases h with ⟨rfl, rfl, rfl, rfl⟩ | ⟨x, rfl, hl, hm, hz, hcell, hwz⟩
  · exact ⟨[], rfl, .inl ⟨rfl, rfl, rfl⟩, by simp⟩
  · refine ⟨zs.take len, by rw [List.length_take]; omega, .inr ⟨x, rfl, fun i hi => ?_⟩, fun z hz' => bounds_u8 (hwz z (List.mem_of_mem_take hz'))⟩
    rw [List.length_take] at hi
    rw [hcell i (by omega)]
    simp only [List.getD_eq_getElem?_getD]
    rw [List.getElem?_take_of_lt (by omega)]

end Go.Proofs.Qxb6612240aDoor
