import Derived.Test.Qxb6612240aDoorNew
namespace Go.Proofs.Qxb6612240aDoor
open Go.RowKit

set_option maxRecDepth 100000 in
theorem zz5 (a : Option Addr) (n c : Nat) (k1 k2 k3 : Int) (b1 b2 : Bool) (hn : n ≤ 1048576) (w : World) :
    Calls Tryd.prog 5 #[.slice a n c, .int .i64 k1, .int .i64 k2, .int .i64 k3, .bool b1, .bool b2] w fun e w' => e = .returned (.bool true) ∧ w = w' := by
  go_enter Tryd.func5, Tryd.ntmps5
  go_wp2
  go_ret
  exact ⟨rfl, rfl⟩
set_option maxRecDepth 100000 in
theorem zz5_no (a : Option Addr) (n c : Nat) (k1 k2 k3 : Int) (b1 b2 : Bool) (hn : ¬ n ≤ 1048576) (w : World) :
    Calls Tryd.prog 5 #[.slice a n c, .int .i64 k1, .int .i64 k2, .int .i64 k3, .bool b1, .bool b2] w fun e w' => e = .returned (.bool false) ∧ w = w' := by
  go_enter Tryd.func5, Tryd.ntmps5
  go_wp2
  go_ret
  exact ⟨rfl, rfl⟩
set_option maxRecDepth 100000 in
theorem zz13 (a : Option Addr) (n c : Nat) (k1 k2 k3 : Int) (hn : n ≤ 1048576) (w : World) :
    Calls Tryd.prog 13 #[.slice a n c, .int .i64 k1, .int .i64 k2, .int .i64 k3] w fun e w' => e = .returned (.bool true) ∧ w = w' := by
  go_enter Tryd.func13, Tryd.ntmps13
  go_wp2
  go_ret
  exact ⟨rfl, rfl⟩
set_option maxRecDepth 100000 in
theorem zz13_no (a : Option Addr) (n c : Nat) (k1 k2 k3 : Int) (hn : ¬ n ≤ 1048576) (w : World) :
    Calls Tryd.prog 13 #[.slice a n c, .int .i64 k1, .int .i64 k2, .int .i64 k3] w fun e w' => e = .returned (.bool false) ∧ w = w' := by
  go_enter Tryd.func13, Tryd.ntmps13
  go_wp2
  go_ret
  exact ⟨rfl, rfl⟩

theorem clone_nil (w : World) : Calls Tryd.prog 6 #[.slice none 0 0] w fun e w' => e = .returned (.slice none 0 0) ∧ w = w' := by
  have q22 : ∀ (w : World) (a : Option Addr) (n c n' c' : Nat), (binOp .eql 22 (.slice a n c) (.slice none n' c')).run Tryd.prog w = .ok (.bool a.isNone) w := fun w a n c n' c' => Lib.run_eql_slice_nil w _ _ a n c n' c' Tryd.underlying22
  go_enter Tryd.func6, Tryd.ntmps6
  go_wp2
  go_ret
  exact ⟨rfl, rfl⟩

theorem set_take (xs cur : List Int) (j : Nat) (hj : j < xs.length) (hl : cur.length = xs.length) : (xs.take j ++ cur.drop j).set j (xs.getD j 0) = xs.take (j + 1) ++ cur.drop (j + 1) := by
  have e1 : (xs.take j).length = j := by rw [List.length_take]; omega
  have e2 : cur.drop j = cur[j] :: cur.drop (j + 1) := List.drop_eq_getElem_cons (by omega)
  rw [e2, List.set_append_right _ _ (by omega), e1, Nat.sub_self, List.set_cons_zero, List.take_succ_eq_append_getElem hj, List.append_assoc]
  simp [List.getD_eq_getElem?_getD, List.getElem?_eq_getElem hj]

set_option maxHeartbeats 1000000 in
/-- b1Clone -/
theorem clone_some (x : Addr) (cap : Nat) (xs : List Int) (w : World) (hlen : xs.length ≤ 1048576) (hcell : ∀ i, i < xs.length → w.cell? (x.add i) = some (.int .u8 (xs.getD i 0))) :
    Calls Tryd.prog 6 #[.slice (some x) xs.length cap] w fun e w' => e = .returned (.slice (some ⟨w.heap.size, 0, none⟩) xs.length xs.length) ∧ w'.heap[w.heap.size]? = some (.cells (bs xs).toArray 5 (0, 0)) ∧ Below w.heap.size w w' := by
  have q22 : ∀ (w : World) (a : Option Addr) (n c n' c' : Nat), (binOp .eql 22 (.slice a n c) (.slice none n' c')).run Tryd.prog w = .ok (.bool a.isNone) w := fun w a n c n' c' => Lib.run_eql_slice_nil w _ _ a n c n' c' Tryd.underlying22
  obtain ⟨cur, hc1, _, hmk⟩ := make_bytes xs.length xs.length (Nat.le_refl _) (by omega)
  have HC := hd hcell
  have HL := hd hc1
  clear hcell hc1
  go_enter Tryd.func6, Tryd.ntmps6
  go_wp2
  go_loopw [4] (fun i wr => ∃ j : Nat, i = .int .i64 j ∧ j ≤ xs.length ∧ wr.heap[w.heap.size]? = some (.cells (bs (xs.take j ++ cur.drop j)).toArray 5 (0, 0)) ∧ Below w.heap.size w wr) (fun i _ => xs.length - (intOf i).toNat)
  case atStart => exact ⟨0, rfl, Nat.zero_le _, by simpa using heap_alloc_new w _, (Below.refl _ _).alloc (Nat.le_refl _) _⟩
  case round =>
    obtain ⟨j, rfl, hj, hrow, hbel⟩ := hrel
    by_cases hjl : j < xs.length
    · have hc : wr.cell? (x.add j) = some (.int .u8 (xs.getD j 0)) := cell_later hbel (HC.out j hjl)
      have hl2 : (xs.take j ++ cur.drop j).length = xs.length := by
        rw [List.length_append, List.length_take, List.length_drop, HL.out]; omega
      have hd1 : wr.cell? ⟨w.heap.size, j, none⟩ = some (.int .u8 ((xs.take j ++ cur.drop j).getD j 0)) := row_cell hrow (by rw [List.getElem?_toArray]; exact bs_at (by omega))
      have hf1 : wr.frozen? ⟨w.heap.size, j, none⟩ = false := row_free hrow
      have HR := hd hrow
      have HL2 := hd hl2
      clear hrow hl2
      go_wp2
      go_round
      case measure => simp [intOf]; omega
      case rel =>
        refine ⟨j + 1, by go_num, by omega, ?_, hbel.setCell (Nat.le_refl _) _⟩
        rw [row_setCell HR.out]
        have e := set_take xs cur j hjl HL.out
        rw [← e]
        simp [bs, List.map_set, List.getElem?_eq_getElem hjl]
    · have hjj : j = xs.length := by omega
      have HR : Hid (wr.heap[w.heap.size]? = some (.cells (bs xs).toArray 5 (0, 0))) := by
        rw [hjj, List.take_length, List.drop_of_length_le (by rw [HL.out]; exact Nat.le_refl _), List.append_nil] at hrow
        exact hrow
      clear hrow
      go_wp2
      go_ret
      exact ⟨rfl, HR.out, hbel⟩

end Go.Proofs.Qxb6612240aDoor
