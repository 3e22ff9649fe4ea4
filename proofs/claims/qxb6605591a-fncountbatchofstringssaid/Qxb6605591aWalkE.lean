import Derived.Test.Qxb6605591aWalkD
import Derived.Laws.CopyOwn
import Derived.Lib.SliceRun
namespace Go.Proofs.Qxb6605591a
open Go.RowKit

theorem Try.info5 : (Try.prog.info? 5).map (fun i => (i.zero, i.size, i.bytes)) = some (some (.int .u8 0), 1, 1) := by kernel_rfl
theorem Try.size5 : (Try.prog.info? 5).map (·.size) = some 1 := by kernel_rfl

theorem made (len : Nat) (h : len ≤ 1048576) : ∃ M : List Value, M.length = len ∧ ∀ w : World, (Instr.makeSlice 22 (.int .i64 (len : Int)) (.int .i64 (len : Int))).run Try.prog w = .ok (.slice (some ⟨w.heap.size, 0, none⟩) len len) (w.alloc (.cells M.toArray 5)) := by
  obtain ⟨i0, hi, hz0, hz1, hz2⟩ := info_parts Try.info5
  refine ⟨(madeCells (Value.int .u8 0).cells (len * 1)).toList, by simp [size_madeCells], fun w => ?_⟩
  have := run_make (P := Try.prog) w 22 5 i0 (.int .u8 0) Try.underlying22 hi hz0 .i64 .i64 (len : Int) (len : Int) (by omega) (by omega) (by rw [hz2]; omega) (by omega)
  rw [hz1] at this
  simpa using this

theorem copied {cs M : List Value} (h : M.length = cs.length) : splice M 0 cs = cs := by
  simp [splice, List.drop_of_length_le (by omega : M.length ≤ cs.length)]

set_option maxHeartbeats 400000 in
theorem clone_some (x : Addr) (len cap : Nat) (cs : List Value) (w : World) (hz : cs.length = len) (h1 : ∀ v ∈ cs, v.oneCell' = true) (hcell : ∀ j v, cs[j]? = some v → w.cell? (x.add j) = some v) (hlen : len ≤ 1048576) :
    Calls Try.prog 10 #[.slice (some x) len cap] w fun e w' => e = .returned (.slice (some ⟨w.heap.size, 0, none⟩) len len) ∧ w'.heap[w.heap.size]? = some (.cells cs.toArray 5 (0, 0)) ∧ Below w.heap.size w w' := by
  have q22 : ∀ (w : World) (a : Option Addr) (n c n' c' : Nat), (binOp .eql 22 (.slice a n c) (.slice none n' c')).run Try.prog w = .ok (.bool a.isNone) w := fun w a n c n' c' => Lib.run_eql_slice_nil w _ _ a n c n' c' Try.underlying22
  obtain ⟨M, hM, hmk⟩ := made len hlen
  have HM := hd hM
  have HZ := hd hz
  have HC := hd hcell
  clear hM hz hcell
  have hg : (w.alloc (.cells M.toArray 5)).heap[w.heap.size]? = some (.cells M.toArray 5 (0, 0)) := heap_alloc_new _ _
  have hb : Below w.heap.size w (w.alloc (.cells M.toArray 5)) := (Below.refl _ _).alloc (Nat.le_refl _) _
  have K1 : Hid (cs.length = Nat.min len len) := by rw [HZ.out]; exact (Nat.min_self _).symm
  have K2 : Hid (0 < cs.length → some (⟨w.heap.size, 0, none⟩ : Addr) = some ⟨w.heap.size, 0, none⟩ ∧ ∃ ad, some x = some ad ∧ ∀ j v, cs[j]? = some v → (w.alloc (.cells M.toArray 5)).cell? (ad.add j) = some v) :=
    fun _ => ⟨rfl, x, rfl, fun j v hj => cell_later hb (HC.out j v hj)⟩
  have K3 : Hid (0 + cs.length ≤ M.length) := by rw [HM.out, HZ.out, Nat.zero_add]; exact Nat.le_refl _
  go_enter Try.func10, Try.ntmps10
  go_wp2_with (refine wpList_copy_splice rfl (.tmp 9) (.tmp 10) 22 22 rfl 5 Try.underlying22 Try.size5 (some ⟨w.heap.size, 0, none⟩) (some x) len len len cap rfl rfl w.heap.size 0 M 5 hg cs K1.out K2.out K3.out h1 w.heap.size w hb (Nat.le_refl _) ?_; intro w2 HG hB2)
  go_ret
  exact ⟨rfl, by rw [← copied (M := M) (cs := cs) (by rw [HM.out, HZ.out])]; exact HG.out, hB2⟩

set_option maxHeartbeats 400000 in
theorem clone_nil (w : World) : Calls Try.prog 10 #[.slice none 0 0] w fun e w' => e = .returned (.slice none 0 0) ∧ w' = w := by
  have q22 : ∀ (w : World) (a : Option Addr) (n c n' c' : Nat), (binOp .eql 22 (.slice a n c) (.slice none n' c')).run Try.prog w = .ok (.bool a.isNone) w := fun w a n c n' c' => Lib.run_eql_slice_nil w _ _ a n c n' c' Try.underlying22
  go_enter Try.func10, Try.ntmps10
  go_wp2
  go_ret
  exact ⟨rfl, rfl⟩

end Go.Proofs.Qxb6605591a
