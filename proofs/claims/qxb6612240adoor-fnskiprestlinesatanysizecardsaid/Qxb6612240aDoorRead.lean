import Derived.Test.Qxb6612240aDoorBase
namespace Go.Proofs.Qxb6612240aDoor
open Go.RowKit

set_option maxHeartbeats 400000 in
theorem rread_eof (rr : Nat) (aE : Addr) (da : Option Addr) (n : Nat) (pr : Int) (p : Value) (w : World)
    (h : w.heap[rr]? = some (.cells #[.slice da n n, .int .i64 n, .int .i64 pr] 52 (0, 0))) (g1 : w.cell? ⟨1, 0, none⟩ = some (.iface 59 (.pointer (some aE)))) :
    Calls Tryd.prog 42 #[.pointer (some ⟨rr, 0, none⟩), p] w fun e w' => e = .returned (.tuple #[.int .i64 0, .iface 59 (.pointer (some aE))]) ∧ w'.heap = w.heap ∧ Keeps [] w w' := by
  have c0 : w.cell? ⟨rr, 0, none⟩ = some (.slice da n n) := row_cell h rfl
  have c1 : w.cell? ⟨rr, 1, none⟩ = some (.int .i64 n) := row_cell h rfl
  clear h
  go_enter Tryd.func42, Tryd.ntmps42
  go_wp2
  go_quiet (fail)
  go_wp2
  go_quiet (fail)
  go_wp2
  go_ret2
  exact ⟨rfl, rfl, ((Keeps.refl _ _).drewN _).drewN _⟩

attribute [local go_sem ↓] Go.wp_at_zero Go.wp_at_succ
set_option maxHeartbeats 1000000 in
theorem rread_some (rr db g : Nat) (D : List Int) (i : Nat) (pr : Int) (cur : List Int) (off n c m : Nat) (w : World)
    (h : w.heap[rr]? = some (.cells #[.slice (some ⟨db, 0, none⟩) D.length D.length, .int .i64 i, .int .i64 pr] 52 (0, 0)))
    (hD : w.heap[db]? = some (.cells (bs D).toArray 5 (0, 0))) (hg : w.heap[g]? = some (.cells (bs cur).toArray 5 (0, 0)))
    (hi : i < D.length) (hl : D.length ≤ 1048576) (hfit : off + n ≤ cur.length) (h1 : rr ≠ db) (h2 : rr ≠ g) (hm : Nat.min (D.length - i) n = m) :
    Calls Tryd.prog 42 #[.pointer (some ⟨rr, 0, none⟩), .slice (some ⟨g, off, none⟩) n c] w fun e w' =>
      e = .returned (.tuple #[.int .i64 m, .nilIface]) ∧ w'.heap[rr]? = some (.cells #[.slice (some ⟨db, 0, none⟩) D.length D.length, .int .i64 (i + m : Nat), .int .i64 (-1)] 52 (0, 0)) ∧
      w'.heap[g]? = some (.cells (bs (splice cur off ((D.drop i).take m))).toArray 5 (0, 0)) ∧ Keeps [rr, g] w w' := by
  have m1 : m ≤ n := by rw [← hm]; exact Nat.min_le_right _ _
  have m2 : m ≤ D.length - i := by rw [← hm]; exact Nat.min_le_left _ _
  have HMn := hd hm
  clear hm
  have c0 : w.cell? ⟨rr, 0, none⟩ = some (.slice (some ⟨db, 0, none⟩) D.length D.length) := row_cell h rfl
  have c1 : w.cell? ⟨rr, 1, none⟩ = some (.int .i64 i) := row_cell h rfl
  have c2 : w.cell? ⟨rr, 2, none⟩ = some (.int .i64 pr) := row_cell h rfl
  have f1 : w.frozen? ⟨rr, 1, none⟩ = false := row_free h
  have f2 : w.frozen? ⟨rr, 2, none⟩ = false := row_free h
  have hi0 : (0 : Int) ≤ (i : Int) := by omega
  have hi1 : (i : Int) < (D.length : Int) := by omega
  go_enter Tryd.func42, Tryd.ntmps42
  go_wp2
  go_quiet (fail)
  go_wp2
  have k1 : Keeps [rr, g] w ((w.drewN nq).setCell ⟨rr, 2, none⟩ (.int .i64 (-1))) := ((Keeps.refl _ _).drewN nq).setCell (by simp) _
  have r1 : ((w.drewN nq).setCell ⟨rr, 2, none⟩ (.int .i64 (-1))).heap[rr]? = some (.cells #[.slice (some ⟨db, 0, none⟩) D.length D.length, .int .i64 i, .int .i64 (-1)] 52 (0, 0)) := row_setCell (w := w.drewN nq) h _
  have d1 : ((w.drewN nq).setCell ⟨rr, 2, none⟩ (.int .i64 (-1))).heap[db]? = some (.cells (bs D).toArray 5 (0, 0)) := by rw [Below.heap_setCell _ _ _ _ (Ne.symm h1)]; exact hD
  have q1 : ((w.drewN nq).setCell ⟨rr, 2, none⟩ (.int .i64 (-1))).heap[g]? = some (.cells (bs cur).toArray 5 (0, 0)) := by rw [Below.heap_setCell _ _ _ _ (Ne.symm h2)]; exact hg
  generalize (w.drewN nq).setCell ⟨rr, 2, none⟩ (.int .i64 (-1)) = w1 at *
  clear c0 c1 c2 f1 f2 h hD hg
  have c0 : w1.cell? ⟨rr, 0, none⟩ = some (.slice (some ⟨db, 0, none⟩) D.length D.length) := row_cell r1 rfl
  have c1 : w1.cell? ⟨rr, 1, none⟩ = some (.int .i64 i) := row_cell r1 rfl
  have f1 : w1.frozen? ⟨rr, 1, none⟩ = false := row_free r1
  have HM := hd (take_len D i m m2)
  have HS := hd (row_src (i := i) (m := m) d1)
  have hsl : ∀ w : World, (Instr.slice 22 (.slice (some ⟨db, 0, none⟩) D.length D.length) (some (.int .i64 (i : Int))) none none).run Tryd.prog w = .ok (.slice (some ⟨db, i, none⟩) (D.length - i) (D.length - i)) w := by
    intro w; go_simp; rw [if_pos (by omega), if_neg (by omega)]
  go_region_held3 (fun w' => w'.cell? ⟨rr, 0, none⟩ = some (.slice (some ⟨db, 0, none⟩) D.length D.length) ∧ w'.cell? ⟨rr, 1, none⟩ = some (.int .i64 i)) (first | go_keep | exact ⟨hk4.cell c0 (by simpa using h2), hk4.cell c1 (by simpa using h2)⟩)
    ((refine copy_drawn (by rfl) (.tmp 20) (.tmp 29) (by rfl) _ (some ⟨g, off, none⟩) (some ⟨db, i, none⟩) n c (D.length - i) (D.length - i) (by rfl) (by rfl) g off cur ((D.drop i).take m) q1 m HM.out HMn.out (fun _ => ⟨rfl, ⟨db, i, none⟩, rfl, HS.out⟩) (by omega) ?_; intro w4 hg4 hk4))
  have r4 := hk4.row r1 (by simpa using h2)
  have k4 := (k1.drew).trans (hk4.mono (T := [rr, g]) (by simp))
  clear c0 c1 f1 r1 d1 q1 k1 HS HM HMn hsl
  have c1 : w4.cell? ⟨rr, 1, none⟩ = some (.int .i64 i) := row_cell r4 rfl
  have f1 : w4.frozen? ⟨rr, 1, none⟩ = false := row_free r4
  go_wp2
  go_ret2
  refine ⟨rfl, ?_, ?_, k4.setCell (by simp) _⟩
  · have := row_setCell (j := 1) r4 (.int .i64 ((i : Int) + m))
    rw [this]
    simp
  · rw [Below.heap_setCell _ _ _ _ (Ne.symm h2)]; exact hg4

end Go.Proofs.Qxb6612240aDoor
