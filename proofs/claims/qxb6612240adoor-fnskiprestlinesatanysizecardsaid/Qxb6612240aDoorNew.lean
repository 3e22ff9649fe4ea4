import Derived.Test.Qxb6612240aDoorEnds
namespace Go.Proofs.Qxb6612240aDoor
open Go.RowKit

/-- bytes.NewReader -/
theorem newR_any (da : Option Addr) (n : Nat) (w : World) :
    Calls Tryd.prog 15 #[.slice da n n] w fun e w' => e = .returned (.pointer (some ⟨w.heap.size, 0, none⟩)) ∧ w'.heap[w.heap.size]? = some (.cells #[.slice da n n, .int .i64 0, .int .i64 (-1)] 52 (0, 0)) ∧ Keeps [] w w' ∧ w'.heap.size = w.heap.size + 1 := by
  go_enter Tryd.func15, Tryd.ntmps15
  go_wp2
  go_ret
  exact ⟨rfl, heap_alloc_new w _, (Keeps.refl _ _).alloc _, by simp⟩

set_option maxHeartbeats 1000000 in
/-- (*bufio.Reader).reset of a new Reader -/
theorem reset_any (br bb rr n : Nat) (w : World) (hb : w.heap[br]? = some (.cells #[.slice none 0 0, .nilIface, .int .i64 0, .int .i64 0, .nilIface, .int .i64 0, .int .i64 0] 49 (0, 0))) :
    Calls Tryd.prog 18 #[.pointer (some ⟨br, 0, none⟩), .slice (some ⟨bb, 0, none⟩) n n, .iface 38 (.pointer (some ⟨rr, 0, none⟩))] w fun e w' => e = .returned (.tuple #[]) ∧ w'.heap[br]? = some (.cells #[.slice (some ⟨bb, 0, none⟩) n n, .iface 38 (.pointer (some ⟨rr, 0, none⟩)), .int .i64 0, .int .i64 0, .nilIface, .int .i64 (-1), .int .i64 (-1)] 49 (0, 0)) ∧ Keeps [br] w w' := by
  have r0 : w.heap[br]? = some (.cells #[.slice none 0 0, .nilIface, .int .i64 0, .int .i64 0, .nilIface, .int .i64 0, .int .i64 0] 49 (0, 0)) := hb
  have c0 : w.cell? ⟨br, 0, none⟩ = some (.slice none 0 0) := row_cell r0 rfl
  have f0 : w.frozen? ⟨br, 0, none⟩ = false := row_free r0
  have r1 : (w.setCell ⟨br, 0, none⟩ (.slice (some ⟨bb, 0, none⟩) n n)).heap[br]? = some (.cells #[.slice (some ⟨bb, 0, none⟩) n n, .nilIface, .int .i64 0, .int .i64 0, .nilIface, .int .i64 0, .int .i64 0] 49 (0, 0)) := row_setCell r0 _
  have c1 : (w.setCell ⟨br, 0, none⟩ (.slice (some ⟨bb, 0, none⟩) n n)).cell? ⟨br, 1, none⟩ = some (.nilIface) := row_cell r1 rfl
  have f1 : (w.setCell ⟨br, 0, none⟩ (.slice (some ⟨bb, 0, none⟩) n n)).frozen? ⟨br, 1, none⟩ = false := row_free r1
  have r2 : ((w.setCell ⟨br, 0, none⟩ (.slice (some ⟨bb, 0, none⟩) n n)).setCell ⟨br, 1, none⟩ (.iface 38 (.pointer (some ⟨rr, 0, none⟩)))).heap[br]? = some (.cells #[.slice (some ⟨bb, 0, none⟩) n n, .iface 38 (.pointer (some ⟨rr, 0, none⟩)), .int .i64 0, .int .i64 0, .nilIface, .int .i64 0, .int .i64 0] 49 (0, 0)) := row_setCell r1 _
  have c2 : ((w.setCell ⟨br, 0, none⟩ (.slice (some ⟨bb, 0, none⟩) n n)).setCell ⟨br, 1, none⟩ (.iface 38 (.pointer (some ⟨rr, 0, none⟩)))).cell? ⟨br, 2, none⟩ = some (.int .i64 0) := row_cell r2 rfl
  have f2 : ((w.setCell ⟨br, 0, none⟩ (.slice (some ⟨bb, 0, none⟩) n n)).setCell ⟨br, 1, none⟩ (.iface 38 (.pointer (some ⟨rr, 0, none⟩)))).frozen? ⟨br, 2, none⟩ = false := row_free r2
  have r3 : (((w.setCell ⟨br, 0, none⟩ (.slice (some ⟨bb, 0, none⟩) n n)).setCell ⟨br, 1, none⟩ (.iface 38 (.pointer (some ⟨rr, 0, none⟩)))).setCell ⟨br, 2, none⟩ (.int .i64 0)).heap[br]? = some (.cells #[.slice (some ⟨bb, 0, none⟩) n n, .iface 38 (.pointer (some ⟨rr, 0, none⟩)), .int .i64 0, .int .i64 0, .nilIface, .int .i64 0, .int .i64 0] 49 (0, 0)) := row_setCell r2 _
  have c3 : (((w.setCell ⟨br, 0, none⟩ (.slice (some ⟨bb, 0, none⟩) n n)).setCell ⟨br, 1, none⟩ (.iface 38 (.pointer (some ⟨rr, 0, none⟩)))).setCell ⟨br, 2, none⟩ (.int .i64 0)).cell? ⟨br, 3, none⟩ = some (.int .i64 0) := row_cell r3 rfl
  have f3 : (((w.setCell ⟨br, 0, none⟩ (.slice (some ⟨bb, 0, none⟩) n n)).setCell ⟨br, 1, none⟩ (.iface 38 (.pointer (some ⟨rr, 0, none⟩)))).setCell ⟨br, 2, none⟩ (.int .i64 0)).frozen? ⟨br, 3, none⟩ = false := row_free r3
  have r4 : ((((w.setCell ⟨br, 0, none⟩ (.slice (some ⟨bb, 0, none⟩) n n)).setCell ⟨br, 1, none⟩ (.iface 38 (.pointer (some ⟨rr, 0, none⟩)))).setCell ⟨br, 2, none⟩ (.int .i64 0)).setCell ⟨br, 3, none⟩ (.int .i64 0)).heap[br]? = some (.cells #[.slice (some ⟨bb, 0, none⟩) n n, .iface 38 (.pointer (some ⟨rr, 0, none⟩)), .int .i64 0, .int .i64 0, .nilIface, .int .i64 0, .int .i64 0] 49 (0, 0)) := row_setCell r3 _
  have c4 : ((((w.setCell ⟨br, 0, none⟩ (.slice (some ⟨bb, 0, none⟩) n n)).setCell ⟨br, 1, none⟩ (.iface 38 (.pointer (some ⟨rr, 0, none⟩)))).setCell ⟨br, 2, none⟩ (.int .i64 0)).setCell ⟨br, 3, none⟩ (.int .i64 0)).cell? ⟨br, 4, none⟩ = some (.nilIface) := row_cell r4 rfl
  have f4 : ((((w.setCell ⟨br, 0, none⟩ (.slice (some ⟨bb, 0, none⟩) n n)).setCell ⟨br, 1, none⟩ (.iface 38 (.pointer (some ⟨rr, 0, none⟩)))).setCell ⟨br, 2, none⟩ (.int .i64 0)).setCell ⟨br, 3, none⟩ (.int .i64 0)).frozen? ⟨br, 4, none⟩ = false := row_free r4
  have r5 : (((((w.setCell ⟨br, 0, none⟩ (.slice (some ⟨bb, 0, none⟩) n n)).setCell ⟨br, 1, none⟩ (.iface 38 (.pointer (some ⟨rr, 0, none⟩)))).setCell ⟨br, 2, none⟩ (.int .i64 0)).setCell ⟨br, 3, none⟩ (.int .i64 0)).setCell ⟨br, 4, none⟩ (.nilIface)).heap[br]? = some (.cells #[.slice (some ⟨bb, 0, none⟩) n n, .iface 38 (.pointer (some ⟨rr, 0, none⟩)), .int .i64 0, .int .i64 0, .nilIface, .int .i64 0, .int .i64 0] 49 (0, 0)) := row_setCell r4 _
  have c5 : (((((w.setCell ⟨br, 0, none⟩ (.slice (some ⟨bb, 0, none⟩) n n)).setCell ⟨br, 1, none⟩ (.iface 38 (.pointer (some ⟨rr, 0, none⟩)))).setCell ⟨br, 2, none⟩ (.int .i64 0)).setCell ⟨br, 3, none⟩ (.int .i64 0)).setCell ⟨br, 4, none⟩ (.nilIface)).cell? ⟨br, 5, none⟩ = some (.int .i64 0) := row_cell r5 rfl
  have f5 : (((((w.setCell ⟨br, 0, none⟩ (.slice (some ⟨bb, 0, none⟩) n n)).setCell ⟨br, 1, none⟩ (.iface 38 (.pointer (some ⟨rr, 0, none⟩)))).setCell ⟨br, 2, none⟩ (.int .i64 0)).setCell ⟨br, 3, none⟩ (.int .i64 0)).setCell ⟨br, 4, none⟩ (.nilIface)).frozen? ⟨br, 5, none⟩ = false := row_free r5
  have r6 : ((((((w.setCell ⟨br, 0, none⟩ (.slice (some ⟨bb, 0, none⟩) n n)).setCell ⟨br, 1, none⟩ (.iface 38 (.pointer (some ⟨rr, 0, none⟩)))).setCell ⟨br, 2, none⟩ (.int .i64 0)).setCell ⟨br, 3, none⟩ (.int .i64 0)).setCell ⟨br, 4, none⟩ (.nilIface)).setCell ⟨br, 5, none⟩ (.int .i64 (-1))).heap[br]? = some (.cells #[.slice (some ⟨bb, 0, none⟩) n n, .iface 38 (.pointer (some ⟨rr, 0, none⟩)), .int .i64 0, .int .i64 0, .nilIface, .int .i64 (-1), .int .i64 0] 49 (0, 0)) := row_setCell r5 _
  have c6 : ((((((w.setCell ⟨br, 0, none⟩ (.slice (some ⟨bb, 0, none⟩) n n)).setCell ⟨br, 1, none⟩ (.iface 38 (.pointer (some ⟨rr, 0, none⟩)))).setCell ⟨br, 2, none⟩ (.int .i64 0)).setCell ⟨br, 3, none⟩ (.int .i64 0)).setCell ⟨br, 4, none⟩ (.nilIface)).setCell ⟨br, 5, none⟩ (.int .i64 (-1))).cell? ⟨br, 6, none⟩ = some (.int .i64 0) := row_cell r6 rfl
  have f6 : ((((((w.setCell ⟨br, 0, none⟩ (.slice (some ⟨bb, 0, none⟩) n n)).setCell ⟨br, 1, none⟩ (.iface 38 (.pointer (some ⟨rr, 0, none⟩)))).setCell ⟨br, 2, none⟩ (.int .i64 0)).setCell ⟨br, 3, none⟩ (.int .i64 0)).setCell ⟨br, 4, none⟩ (.nilIface)).setCell ⟨br, 5, none⟩ (.int .i64 (-1))).frozen? ⟨br, 6, none⟩ = false := row_free r6
  have r7 : Hid ((((((((w.setCell ⟨br, 0, none⟩ (.slice (some ⟨bb, 0, none⟩) n n)).setCell ⟨br, 1, none⟩ (.iface 38 (.pointer (some ⟨rr, 0, none⟩)))).setCell ⟨br, 2, none⟩ (.int .i64 0)).setCell ⟨br, 3, none⟩ (.int .i64 0)).setCell ⟨br, 4, none⟩ (.nilIface)).setCell ⟨br, 5, none⟩ (.int .i64 (-1))).setCell ⟨br, 6, none⟩ (.int .i64 (-1))).heap[br]? = some (.cells #[.slice (some ⟨bb, 0, none⟩) n n, .iface 38 (.pointer (some ⟨rr, 0, none⟩)), .int .i64 0, .int .i64 0, .nilIface, .int .i64 (-1), .int .i64 (-1)] 49 (0, 0))) := row_setCell r6 _
  have k7 : Keeps [br] w (((((((w.setCell ⟨br, 0, none⟩ (.slice (some ⟨bb, 0, none⟩) n n)).setCell ⟨br, 1, none⟩ (.iface 38 (.pointer (some ⟨rr, 0, none⟩)))).setCell ⟨br, 2, none⟩ (.int .i64 0)).setCell ⟨br, 3, none⟩ (.int .i64 0)).setCell ⟨br, 4, none⟩ (.nilIface)).setCell ⟨br, 5, none⟩ (.int .i64 (-1))).setCell ⟨br, 6, none⟩ (.int .i64 (-1))) := ((((((((Keeps.refl _ _).setCell (by simp) _).setCell (by simp) _).setCell (by simp) _).setCell (by simp) _).setCell (by simp) _).setCell (by simp) _).setCell (by simp) _)
  clear hb r0 r1 r2 r3 r4 r5 r6
  go_enter Tryd.func18, Tryd.ntmps18
  go_wp2
  go_end0
  exact ⟨rfl, r7.out, k7⟩


theorem not_brd (a : Addr) (w : World) : (Instr.typeAssert (.iface 38 (.pointer (some a))) 46 36 true).run Tryd.prog w = .ok (.tuple #[.pointer none, .bool false]) w := by kernel_rfl

set_option maxHeartbeats 1000000 in
/-- bufio.NewReaderSize over a bytes.Reader -/
theorem newRS_any (rr N : Nat) (size : Int) (hN : max size 16 = (N : Int)) (hN2 : N ≤ 65536) (w : World) :
    Calls Tryd.prog 14 #[.iface 38 (.pointer (some ⟨rr, 0, none⟩)), .int .i64 size] w fun e w' => e = .returned (.pointer (some ⟨w.heap.size, 0, none⟩)) ∧
      w'.heap[w.heap.size]? = some (.cells #[.slice (some ⟨w.heap.size + 1, 0, none⟩) N N, .iface 38 (.pointer (some ⟨rr, 0, none⟩)), .int .i64 0, .int .i64 0, .nilIface, .int .i64 (-1), .int .i64 (-1)] 49 (0, 0)) ∧
      (∃ Bf : List Int, Bf.length = N ∧ (∀ x ∈ Bf, x = 0) ∧ w'.heap[w.heap.size + 1]? = some (.cells (bs Bf).toArray 5 (0, 0))) ∧ Keeps [] w w' := by
  obtain ⟨cur, hc1, hc2, hmk⟩ := make_bytes N N (Nat.le_refl _) (by omega)
  have nb := not_brd
  have hr1 : ((w.alloc (.cells #[.slice none 0 0, .nilIface, .int .i64 0, .int .i64 0, .nilIface, .int .i64 0, .int .i64 0] 49 (0, 0))).alloc (.cells (bs cur).toArray 5)).heap[w.heap.size]? = some (.cells #[.slice none 0 0, .nilIface, .int .i64 0, .int .i64 0, .nilIface, .int .i64 0, .int .i64 0] 49 (0, 0)) := by
    rw [Below.heap_alloc _ _ _ (by simp)]; exact heap_alloc_new w _
  have hr2 : ((w.alloc (.cells #[.slice none 0 0, .nilIface, .int .i64 0, .int .i64 0, .nilIface, .int .i64 0, .int .i64 0] 49 (0, 0))).alloc (.cells (bs cur).toArray 5)).heap[w.heap.size + 1]? = some (.cells (bs cur).toArray 5 (0, 0)) := by
    have := heap_alloc_new (w.alloc (.cells #[.slice none 0 0, .nilIface, .int .i64 0, .int .i64 0, .nilIface, .int .i64 0, .int .i64 0] 49 (0, 0))) (.cells (bs cur).toArray 5)
    have e : (w.alloc (.cells #[.slice none 0 0, .nilIface, .int .i64 0, .int .i64 0, .nilIface, .int .i64 0, .int .i64 0] 49 (0, 0))).heap.size = w.heap.size + 1 := by simp
    rw [e] at this
    exact this
  have hk : Keeps [] w ((w.alloc (.cells #[.slice none 0 0, .nilIface, .int .i64 0, .int .i64 0, .nilIface, .int .i64 0, .int .i64 0] 49 (0, 0))).alloc (.cells (bs cur).toArray 5)) := ((Keeps.refl _ _).alloc _).alloc _
  go_enter Tryd.func14, Tryd.ntmps14
  go_wp2_with (go_at_call 18; refine (reset_any w.heap.size (w.heap.size + 1) rr N _ hr1).mono ?_; rintro e w2 ⟨rfl, h1, h2⟩)
  go_ret
  refine ⟨rfl, h1, ⟨cur, hc1, hc2, h2.row hr2 (by simp)⟩, ?_⟩
  refine ⟨h2.os.trans hk.os, h2.tape.trans hk.tape, h2.output.trans hk.output, Nat.le_trans hk.size h2.size, fun k hk1 _ => ?_⟩
  rw [h2.block k (by have := hk.size; omega) (by simp; omega)]
  exact hk.block k hk1 (by simp)

/-- ZZnewLineReader -/
theorem newLR_any (da : Option Addr) (D : List Int) (N : Nat) (size longest line : Int) (cut skip : Bool) (aE aF : Addr) (hN : max size 16 = (N : Int)) (hN2 : N ≤ 65536) (hD : D.length ≤ 1048576) (hD8 : ∀ x ∈ D, 0 ≤ x ∧ x ≤ 255) (w : World)
    (hw : 1 < w.heap.size) (pD : 0 < D.length → ∃ db, da = some ⟨db, 0, none⟩ ∧ db < w.heap.size ∧ 1 < db ∧ w.heap[db]? = some (.cells (bs D).toArray 5 (0, 0)))
    (g0 : w.cell? ⟨0, 0, none⟩ = some (.iface 59 (.pointer (some aF)))) (g1 : w.cell? ⟨1, 0, none⟩ = some (.iface 59 (.pointer (some aE)))) (hs : Sen w aE aF w.heap.size) :
    Calls Tryd.prog 7 #[.slice da D.length D.length, .int .i64 size, .int .i64 longest, .int .i64 line, .bool cut, .bool skip] w fun e w' => ∃ lr, e = .returned (.pointer (some ⟨lr, 0, none⟩)) ∧ w.heap.size + 2 < lr ∧
      Lrd w' w.heap.size (w.heap.size + 1) (w.heap.size + 2) lr aE aF da D N D longest line cut skip ∧ Keeps [] w w' := by
  go_enter Tryd.func7, Tryd.ntmps7
  go_wp2_with (first | (go_at_call 15; refine (newR_any da D.length w).mono ?_; rintro e w1 ⟨rfl, hr1, hk1, hs1⟩) | (go_at_call 14; refine (newRS_any w.heap.size N size hN hN2 w1).mono ?_; rintro e w2 ⟨rfl, h1, ⟨Bf, h2, h3, h4⟩, h5⟩; rw [hs1] at h1 h4))
  go_ret
  refine ⟨w2.heap.size, rfl, ?_, ?_, ?_⟩
  · have := lt_of_block h4
    omega
  · have hk2 : Keeps [] w w2 := hk1.trans h5
    have hk3 : Keeps [] w2 (w2.alloc (.cells #[.pointer (some ⟨w.heap.size + 1, 0, none⟩), .int .i64 longest, .int .i64 line, .bool cut, .bool skip, .slice none 0 0] 41 (0, 0))) := (Keeps.refl _ _).alloc _
    have hk4 := hk2.trans hk3
    refine ⟨0, 0, 0, Bf, false, ⟨⟨-1, (h5.trans hk3).row hr1 (by simp)⟩, ⟨-1, -1, ?_⟩, hk3.row h4 (by simp), fun h => ?_, by omega, by omega, hk4.cell g0 (by simp), hk4.cell g1 (by simp), hw, ⟨by omega, by omega⟩, hD, fun x hx => by rw [h3 x hx]; omega, hD8⟩, Nat.le_refl _, Nat.zero_le _, h2, Nat.zero_le _, (fun h => by cases h), by simp [rem], ?_, heap_alloc_new w2 _, hs.keeps hk4 (by simp)⟩
    · rw [h2]; exact hk3.row h1 (by simp)
    · obtain ⟨db, x1, x2, x3, x4⟩ := pD h
      exact ⟨db, x1, x2, x3, hk4.row x4 (by simp)⟩
    · exact lt_of_block h4
  · exact (hk1.trans h5).alloc _

end Go.Proofs.Qxb6612240aDoor
