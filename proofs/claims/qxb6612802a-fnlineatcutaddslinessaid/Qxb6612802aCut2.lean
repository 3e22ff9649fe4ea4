import Derived.Test.Qxb6612802aCut
namespace Go.Proofs.Qxb6612802a
open Go.RowKit

set_option maxRecDepth 100000 in
set_option maxHeartbeats 3000000 in
theorem cut_out (a : Option Addr) (n c : Nat) (k m : Int) (w : World) (h : ¬ n ≤ 1048576 ∨ (n ≤ 1048576 ∧ (k < 0 ∨ (0 ≤ k ∧ m < k) ∨ (0 ≤ k ∧ k ≤ m ∧ (n : Int) < m)))) :
    Calls Try.prog 3 #[.slice a n c, .int .i64 k, .int .i64 m] w fun e w' => e = .returned (.bool true) ∧ Below w.heap.size w w' := by
  rcases h with h | ⟨hn, h | ⟨h1, h2⟩ | ⟨h1, h2, h3⟩⟩
  · go_enter Try.func3, Try.ntmps3
    go_wp2_with (go_at_call 6; refine (zz6_no _ _ _ _ _ h _).mono ?_; rintro e w' ⟨rfl, rfl⟩)
    go_ret
    exact ⟨rfl, Below.refl _ _⟩
  all_goals
    go_enter Try.func3, Try.ntmps3
    go_wp2_with (go_at_call 6; refine (zz6 _ _ _ _ _ hn _).mono ?_; rintro e w' ⟨rfl, rfl⟩)
    go_ret
    exact ⟨rfl, Below.refl _ _⟩

theorem slice_nil (w : World) : (Instr.slice 22 (.slice none 0 0) (some (.int .i64 0)) none none).run Try.prog w = .ok (.slice none 0 0) w := by
  go_simp

set_option maxRecDepth 100000 in
set_option maxHeartbeats 3000000 in
theorem cut_nil (w : World) : Calls Try.prog 3 #[.slice none 0 0, .int .i64 0, .int .i64 0] w fun e w' => e = .returned (.bool true) ∧ Below w.heap.size w w' := by
  have B0 : Buf w (.slice none 0 0) [] := ⟨by simp, .inl ⟨rfl, rfl⟩⟩
  have hs := slice_nil
  have hcn : cnt [] = 0 := cnt_nil
  go_enter Try.func3, Try.ntmps3
  go_wp2_with (first
      | (go_at_call 6; refine (zz6 _ _ _ _ _ (by omega) _).mono ?_; rintro e w' ⟨rfl, rfl⟩)
      | (go_at_call 7; refine (line_any B0 0 (by simp)).mono ?_; rintro e w3 ⟨rfl, b3⟩; have B1 := B0.later b3)
      | (go_at_call 7; refine (line_any B1 0 (by simp)).mono ?_; rintro e w4 ⟨rfl, b4⟩; have B2 := B1.later b4)
      | (go_at_call 7; refine (line_any B2 0 (by simp)).mono ?_; rintro e w5 ⟨rfl, b5⟩))
  go_ret
  exact ⟨rfl, (b3.trans (b4.mono b3.size)).trans (b5.mono (Nat.le_trans b3.size b4.size))⟩
end Go.Proofs.Qxb6612802a
