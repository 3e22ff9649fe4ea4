import Derived.Test.Qxb6612240aDoorFill2
import Derived.Lib.Walk
import Derived.Lib.Bytealg
import Derived.Lib.Bytes
import Derived.Shelf.Bytes.SlIndexAt
namespace Go.Proofs.Qxb6612240aDoor
open Go.RowKit

theorem byte10 (x : Int) (h0 : 0 ≤ x) (h1 : x ≤ 255) : (UInt8.ofNat x.toNat == (10 : UInt8)) = decide (x = 10) := by
  have key : ∀ n : Fin 256, (UInt8.ofNat n.val == (10 : UInt8)) = decide ((n.val : Int) = 10) := by decide +kernel
  have := key ⟨x.toNat, by omega⟩
  have e : ((x.toNat : Nat) : Int) = x := by omega
  simpa only [e] using this

/-- where the first newline stands -/
theorem ib_spec (xs : List Int) (hx : ∀ x ∈ xs, 0 ≤ x ∧ x ≤ 255) : (Lib.indexByte (Lib.bytesOf xs) 10 = -1 ∧ 10 ∉ xs) ∨ (∃ j : Nat, Lib.indexByte (Lib.bytesOf xs) 10 = j ∧ j < xs.length ∧ xs.getD j 0 = 10 ∧ 10 ∉ xs.take j) := by
  induction xs with
  | nil => exact Or.inl ⟨rfl, by simp⟩
  | cons x xs ih =>
    have hx0 := hx x (List.mem_cons_self ..)
    have e : Lib.indexByte (Lib.bytesOf (x :: xs)) 10 = if decide (x = 10) = true then 0 else if Lib.indexByte (Lib.bytesOf xs) 10 == -1 then -1 else Lib.indexByte (Lib.bytesOf xs) 10 + 1 := by
      show (if (UInt8.ofNat x.toNat == (10 : UInt8)) = true then _ else _) = _
      rw [byte10 x hx0.1 hx0.2]
      rfl
    by_cases h : x = 10
    · refine Or.inr ⟨0, ?_, by simp, by simpa using h, by simp⟩
      rw [e, if_pos (by simpa using h)]; rfl
    · rcases ih (fun y hy => hx y (List.mem_cons_of_mem _ hy)) with ⟨h1, h2⟩ | ⟨j, h1, h2, h3, h4⟩
      · refine Or.inl ⟨?_, ?_⟩
        · rw [e, if_neg (by simpa using h), h1]; rfl
        · simp only [List.mem_cons, not_or]; exact ⟨fun h' => h h'.symm, h2⟩
      · refine Or.inr ⟨j + 1, ?_, by simp only [List.length_cons]; omega, by simpa using h3, ?_⟩
        · rw [e, if_neg (by simpa using h), h1, if_neg (by simp)]; rfl
        · simp only [List.take_succ_cons, List.mem_cons, not_or]; exact ⟨fun h' => h h'.symm, h4⟩

set_option maxHeartbeats 400000 in
theorem ib20 (a : Addr) (n c : Nat) (xs : List Int) (rz : Int) (w : World) (hx : xs.length = n) (hc : ∀ i, i < n → w.cell? (a.add i) = some (.int .u8 (xs.getD i 0))) (hz : Lib.indexByte (Lib.bytesOf xs) 10 = rz) :
    Calls Tryd.prog 20 #[.slice (some a) n c, .int .u8 10] w fun e w' => e = .returned (.int .i64 rz) ∧ w' = w := by
  have HC := hd hc
  have HX := hd hx
  have HZ := hd hz
  clear hc hx hz
  go_enter Tryd.func20, Tryd.ntmps20
  go_wp2
  rw [run_callFunc_extern Tryd.func24 (by kernel_rfl) (by kernel_rfl) (by kernel_rfl) (e := Extern.BytealgIndexByte.indexByte) (by kernel_rfl), Lib.run_indexByteAt w a n c xs HX.out HC.out 10]
  simp only [Result.andThen]
  rw [Oper.upon_value]
  go_wp2
  go_ret
  exact ⟨ret_int HZ.out, rfl⟩

section
variable {rr br bb : Nat} {aE aF : Addr} {da : Option Addr} {D : List Int} {i r wp : Nat} {Bf : List Int} {err : Value}

set_option maxHeartbeats 400000 in
theorem readErr_any (w : World) (h : Rd w rr br bb aE aF da D i r wp Bf err) (he : err = .nilIface ∨ err = .iface 59 (.pointer (some aE))) :
    Calls Tryd.prog 21 #[.pointer (some ⟨br, 0, none⟩)] w fun e w' => e = .returned err ∧ Rd w' rr br bb aE aF da D i r wp Bf .nilIface ∧ Keeps [rr, br, bb] w w' := by
  obtain ⟨c0, c1, c2, c3, c4, ⟨lb, c5⟩, ⟨ls, c6⟩⟩ := h.cells
  have f4 := h.free 4
  rcases he with rfl | rfl
  all_goals
    go_enter Tryd.func21, Tryd.ntmps21
    go_wp2
    go_ret
    exact ⟨rfl, h.setE _, (Keeps.refl _ _).setCell (by simp) _⟩

set_option maxHeartbeats 400000 in
theorem buffered_any (w : World) (h : Rd w rr br bb aE aF da D i r wp Bf err) (hr : r ≤ wp) (hw : wp ≤ Bf.length) :
    Calls Tryd.prog 22 #[.pointer (some ⟨br, 0, none⟩)] w fun e w' => e = .returned (.int .i64 (wp - r : Nat)) ∧ ∃ m, w' = w.drewN m := by
  obtain ⟨c0, c1, c2, c3, c4, ⟨lb, c5⟩, ⟨ls, c6⟩⟩ := h.cells
  have hn := h.hN
  have e : IntKind.i64.wrap ((wp : Int) - r) = wp - r := by rw [IntKind.wrap_i64]; omega
  go_enter Tryd.func22, Tryd.ntmps22
  go_wp2
  go_quiet (fail)
  go_wp2
  go_ret
  exact ⟨ret_int (by omega), _, rfl⟩
end

end Go.Proofs.Qxb6612240aDoor
