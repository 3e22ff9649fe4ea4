import Derived.Test.Qxb6612802aRows
import Derived.WalkKit
import Derived.ProofKit
import Derived.WalkSpells
import Derived.Below
import Derived.OneCell
import Derived.Laws.CopyOwn
import Derived.Lib.SliceRun
import Derived.Shelf.Bytes.SlCountOne
import Derived.Lib.SlBytesConst
namespace Go.Proofs.Qxb6612802a
open Go.RowKit

theorem hd {p : Prop} (h : p) : Hid p := h
theorem Try.info5 : (Try.prog.info? 5).map (fun i => (i.zero, i.size, i.bytes)) = some (some (.int .u8 0), 1, 1) := by kernel_rfl
theorem Try.size5 : (Try.prog.info? 5).map (·.size) = some 1 := by kernel_rfl

/-- how many newlines -/
def cnt (xs : List Int) : Nat := Lib.countByte (Lib.bytesOf xs) (10 : Int).toNat.toUInt8
theorem cnt_app (xs ys : List Int) : cnt (xs ++ ys) = cnt xs + cnt ys := by simp [cnt, Lib.countByte, Lib.bytesOf]
theorem cnt_nil : cnt [] = 0 := rfl
theorem cnt_le (xs : List Int) : cnt xs ≤ xs.length := by
  have := List.count_le_length (a := (10 : Int).toNat.toUInt8) (l := Lib.bytesOf xs)
  simpa [cnt, Lib.countByte, Lib.bytesOf_length] using this
theorem cnt_ten : cnt [10] = 1 := by decide +kernel
theorem cnt_other {x : Int} (h0 : 0 ≤ x) (h1 : x < 256) (h : x ≠ 10) : cnt [x] = 0 := by
  simp only [cnt, Lib.countByte, Lib.bytesOf, List.map_cons, List.map_nil]
  rw [List.count_eq_zero]
  simp only [List.mem_singleton]
  intro e
  have := congrArg UInt8.toNat e
  simp at this
  omega

theorem slice_to (g o n c k : Nat) (h : k ≤ c) (w : World) : (Instr.slice 22 (.slice (some ⟨g, o, none⟩) n c) none (some (.int .i64 (k : Int))) none).run Try.prog w = .ok (.slice (some ⟨g, o, none⟩) k c) w := by
  go_simp
theorem slice_to_nil (w : World) : (Instr.slice 22 (.slice none 0 0) none (some (.int .i64 0)) none).run Try.prog w = .ok (.slice none 0 0) w := by
  go_simp

set_option maxHeartbeats 2000000 in
theorem count_some (g o n c b2 d : Nat) (xs : List Int) (w : World) (hx : xs.length = n) (hc : ∀ i, i < n → w.cell? ⟨g, o + i, none⟩ = some (.int .u8 (xs.getD i 0))) (hc2 : w.cell? ⟨b2, 0, none⟩ = some (.int .u8 10)) :
    Calls Try.prog 16 #[.slice (some ⟨g, o, none⟩) n c, .slice (some ⟨b2, 0, none⟩) 1 d] w fun e w' => e = .returned (.int .i64 (cnt xs)) ∧ w' = w := by
  go_enter Try.func16, Try.ntmps16
  go_wp2
  rw [run_callFunc_extern Try.func18 (by kernel_rfl) (by kernel_rfl) (by kernel_rfl) (e := Extern.BytealgCount.count) (by kernel_rfl), Lib.run_countSlice w g o n c xs hx hc 10]
  simp only [Result.andThen]
  rw [Oper.upon_value]
  go_wp2
  go_ret
  exact ⟨rfl, rfl⟩

set_option maxHeartbeats 2000000 in
theorem count_nil (b2 d : Nat) (w : World) (hc2 : w.cell? ⟨b2, 0, none⟩ = some (.int .u8 10)) :
    Calls Try.prog 16 #[.slice none 0 0, .slice (some ⟨b2, 0, none⟩) 1 d] w fun e w' => e = .returned (.int .i64 0) ∧ w' = w := by
  go_enter Try.func16, Try.ntmps16
  go_wp2
  rw [run_callFunc_extern Try.func18 (by kernel_rfl) (by kernel_rfl) (by kernel_rfl) (e := Extern.BytealgCount.count) (by kernel_rfl), Lib.run_countNil w 0 0 10]
  simp only [Result.andThen]
  rw [Oper.upon_value]
  go_wp2
  go_ret
  exact ⟨rfl, rfl⟩

set_option maxHeartbeats 2000000 in
theorem line_some (g o n c : Nat) (xs : List Int) (k : Int) (w : World) (hx : xs.length = n) (hnc : n ≤ c) (hcm : c ≤ 9223372036854775807) (hc : ∀ i, i < n → w.cell? ⟨g, o + i, none⟩ = some (.int .u8 (xs.getD i 0))) (hn : n ≤ 2000000) (hk : k ≤ n) :
    Calls Try.prog 14 #[.slice (some ⟨g, o, none⟩) n c, .int .i64 k] w fun e w' => e = .returned (.int .i64 (1 + cnt (xs.take k.toNat))) ∧ Below w.heap.size w w' := by
  have kc := fun w : World => Lib.run_convert_bytes_const (P := Try.prog) w 22 5 #[.int .u8 10] 1 1 Try.underlying22 Try.underlying5
  have HX := hd hx
  have HC := hd hc
  have hl : cnt (xs.take k.toNat) ≤ n := Nat.le_trans (cnt_le _) (by rw [List.length_take]; omega)
  have hk0 : (max k 0).toNat = k.toNat := by omega
  clear hx hc
  have hb : Below w.heap.size w (w.alloc (.cells #[.int .u8 10] 5 (#[Value.int .u8 10].size, #[Value.int .u8 10].size + 1))) := (Below.refl _ _).alloc (Nat.le_refl _) _
  have ht : (xs.take k.toNat).length = k.toNat := by rw [List.length_take, HX.out]; omega
  have hcs : Hid (∀ i, i < k.toNat → (w.alloc (.cells #[.int .u8 10] 5 (#[Value.int .u8 10].size, #[Value.int .u8 10].size + 1))).cell? ⟨g, o + i, none⟩ = some (.int .u8 ((xs.take k.toNat).getD i 0))) := by
    intro i hi
    rw [cell_later hb (HC.out i (by omega))]
    simp only [List.getD_eq_getElem?_getD]
    rw [List.getElem?_take_of_lt hi]
  have h10 : (w.alloc (.cells #[.int .u8 10] 5 (#[Value.int .u8 10].size, #[Value.int .u8 10].size + 1))).cell? ⟨w.heap.size, 0, none⟩ = some (.int .u8 10) := by
    unfold World.cell?
    simp only [heap_alloc_new]
    rfl
  have HT := hd ht
  clear ht
  go_enter Try.func14, Try.ntmps14
  go_wp2_with (go_at_call 16; refine (count_some g o k.toNat c w.heap.size 1 (xs.take k.toNat) _ HT.out hcs.out h10).mono ?_; rintro e w' ⟨rfl, rfl⟩)
  go_ret
  exact ⟨rfl, hb⟩

set_option maxHeartbeats 2000000 in
theorem line_nil (k : Int) (w : World) (hk : k ≤ 0) :
    Calls Try.prog 14 #[.slice none 0 0, .int .i64 k] w fun e w' => e = .returned (.int .i64 1) ∧ Below w.heap.size w w' := by
  have kc := fun w : World => Lib.run_convert_bytes_const (P := Try.prog) w 22 5 #[.int .u8 10] 1 1 Try.underlying22 Try.underlying5
  have hk0 : max k 0 = 0 := by omega
  have hb : Below w.heap.size w (w.alloc (.cells #[.int .u8 10] 5 (#[Value.int .u8 10].size, #[Value.int .u8 10].size + 1))) := (Below.refl _ _).alloc (Nat.le_refl _) _
  have h10 : (w.alloc (.cells #[.int .u8 10] 5 (#[Value.int .u8 10].size, #[Value.int .u8 10].size + 1))).cell? ⟨w.heap.size, 0, none⟩ = some (.int .u8 10) := by
    unfold World.cell?
    simp only [heap_alloc_new]
    rfl
  go_enter Try.func14, Try.ntmps14
  go_wp2_with (go_at_call 16; refine (count_nil w.heap.size 1 _ h10).mono ?_; rintro e w' ⟨rfl, rfl⟩)
  go_ret
  exact ⟨rfl, hb⟩

/-- a slice of bytes: nil, or a window -/
def Buf (w : World) (v : Value) (xs : List Int) : Prop :=
  xs.length ≤ 2000000 ∧ ((v = .slice none 0 0 ∧ xs = []) ∨ ∃ g o c, v = .slice (some ⟨g, o, none⟩) xs.length c ∧ xs.length ≤ c ∧ c ≤ 9223372036854775807 ∧ ∀ i, i < xs.length → w.cell? ⟨g, o + i, none⟩ = some (.int .u8 (xs.getD i 0)))

theorem Buf.later {w w' : World} {v : Value} {xs : List Int} (h : Buf w v xs) (hb : Below w.heap.size w w') : Buf w' v xs := by
  refine ⟨h.1, h.2.imp id ?_⟩
  rintro ⟨g, o, c, h1, h2, h3, h4⟩
  exact ⟨g, o, c, h1, h2, h3, fun i hi => cell_later hb (h4 i hi)⟩

/-- ZZLineAt -/
theorem line_any {w : World} {v : Value} {xs : List Int} (h : Buf w v xs) (k : Int) (hk : k ≤ xs.length) :
    Calls Try.prog 7 #[v, .int .i64 k] w fun e w' => e = .returned (.int .i64 (1 + cnt (xs.take k.toNat))) ∧ Below w.heap.size w w' := by
  rcases h with ⟨hn, ⟨rfl, rfl⟩ | ⟨g, o, c, rfl, h2, h3, h4⟩⟩
  · have hk' : k ≤ 0 := by simpa using hk
    have e : cnt (([] : List Int).take k.toNat) = 0 := by simp [cnt_nil]
    rw [e]
    clear hn hk e
    go_enter Try.func7, Try.ntmps7
    go_wp2_with (go_at_call 14; refine (line_nil k w hk').mono ?_; rintro e w' ⟨rfl, hb⟩)
    go_ret
    exact ⟨rfl, hb⟩
  · have H := line_some g o xs.length c xs k w rfl h2 h3 h4 hn hk
    generalize 1 + (cnt (xs.take k.toNat) : Int) = m at *
    generalize xs.length = n at *
    clear h4
    go_enter Try.func7, Try.ntmps7
    go_wp2_with (go_at_call 14; refine H.mono ?_; rintro e w' ⟨rfl, hb⟩)
    go_ret
    exact ⟨rfl, hb⟩
end Go.Proofs.Qxb6612802a
