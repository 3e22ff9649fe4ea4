import Derived.Test.Qxb6605591aRows
import Derived.Test.Qxb6605591aPlain
import Derived.WalkKit
import Derived.ProofKit
import Derived.WalkSpells
import Derived.Below
import Derived.Lib.Walk
import Derived.Lib.Bytealg
namespace Go.Proofs.Qxb6605591a
open Go.RowKit

theorem hd {p : Prop} (h : p) : Hid p := h
theorem ret_int {k : IntKind} {a b : Int} (h : a = b) : Ending.returned (.int k a) = .returned (.int k b) := by rw [h]

set_option maxHeartbeats 400000 in
theorem ib33 (s : ByteArray) (c : Int) (w : World) :
    Calls Try.prog 33 #[.string s, .int .u8 c] w fun e w' => e = .returned (.int .i64 (Lib.indexByte s.data.toList c.toNat.toUInt8)) ∧ w' = w := by
  go_enter Try.func33, Try.ntmps33
  go_wp2
  rw [run_callFunc_extern Try.func34 (by kernel_rfl) (by kernel_rfl) (by kernel_rfl) (e := Extern.BytealgIndexByte.indexByte) (by kernel_rfl), Lib.run_indexByteString]
  simp only [Result.andThen]
  rw [Oper.upon_value]
  go_wp2
  go_ret
  exact ⟨rfl, rfl⟩

theorem ib_space (c : Int) (h0 : 0 ≤ c) (h1 : c ≤ 255) :
    (0 ≤ Lib.indexByte (⟨#[32, 9, 13, 10]⟩ : ByteArray).data.toList c.toNat.toUInt8) ↔ Pl.isSp c = true := by
  have key : ∀ n : Fin 256, decide (0 ≤ Lib.indexByte [32, 9, 13, 10] (n.val.toUInt8)) = Pl.isSp (n.val : Int) := by decide +kernel
  have := key ⟨c.toNat, by omega⟩
  have e : ((c.toNat : Nat) : Int) = c := by omega
  simp only [e] at this
  rw [← this]
  simp

set_option maxHeartbeats 400000 in
theorem ib30 (c : Int) (h0 : 0 ≤ c) (h1 : c ≤ 255) (w : World) :
    Calls Try.prog 30 #[.string ⟨#[32, 9, 13, 10]⟩, .int .u8 c] w fun e w' => ∃ r : Int, e = .returned (.int .i64 r) ∧ (0 ≤ r ↔ Pl.isSp c = true) ∧ w' = w := by
  go_enter Try.func30, Try.ntmps30
  go_wp2_with (go_at_call 33; refine (ib33 _ _ _).mono ?_; rintro e w' ⟨rfl, rfl⟩)
  go_ret
  exact ⟨_, rfl, ib_space c h0 h1, rfl⟩

theorem ib30_no (c : Int) (h0 : 0 ≤ c) (h1 : c ≤ 255) (hs : Pl.isSp c = false) (w : World) :
    Calls Try.prog 30 #[.string ⟨#[32, 9, 13, 10]⟩, .int .u8 c] w fun e w' => ∃ r : Int, e = .returned (.int .i64 r) ∧ r < 0 ∧ w' = w := by
  refine (ib30 c h0 h1 w).mono ?_
  rintro e w' ⟨r, rfl, hr, rfl⟩
  refine ⟨r, rfl, ?_, rfl⟩
  rw [hs] at hr
  have : ¬ 0 ≤ r := fun h => by have := hr.1 h; cases this
  omega
theorem ib30_yes (c : Int) (h0 : 0 ≤ c) (h1 : c ≤ 255) (hs : Pl.isSp c = true) (w : World) :
    Calls Try.prog 30 #[.string ⟨#[32, 9, 13, 10]⟩, .int .u8 c] w fun e w' => ∃ r : Int, e = .returned (.int .i64 r) ∧ 0 ≤ r ∧ w' = w := by
  refine (ib30 c h0 h1 w).mono ?_
  rintro e w' ⟨r, rfl, hr, rfl⟩
  exact ⟨r, rfl, hr.2 hs, rfl⟩

set_option maxHeartbeats 400000 in
theorem isSpace_any (c : Int) (w : World) :
    Calls Try.prog 31 #[.int .u8 c] w fun e w' => e = .returned (.bool (Pl.isSp c)) ∧ w' = w := by
  go_enter Try.func31, Try.ntmps31
  go_wp2
  all_goals (go_ret; refine ⟨?_, rfl⟩; simp_all [Pl.isSp])

end Go.Proofs.Qxb6605591a
