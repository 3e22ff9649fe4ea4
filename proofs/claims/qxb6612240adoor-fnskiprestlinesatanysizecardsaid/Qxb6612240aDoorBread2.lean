import Derived.Test.Qxb6612240aDoorBread
namespace Go.Proofs.Qxb6612240aDoor
open Go.RowKit

theorem cell_set {w : World} {p q : Addr} {u v : Value} (h : w.cell? q = some u) (hne : p ≠ q) : (w.setCell p v).cell? q = some u := (World.cell?_setCell_other _ _ _ _ hne).trans h
theorem rem_len {D : List Int} {i r wp : Nat} {Bf : List Int} (hw : wp ≤ Bf.length) : wp - r ≤ (rem D i r wp Bf).length := by
  have := buf_len (r := r) hw
  unfold rem; rw [List.length_append]; omega
theorem rem_take {D : List Int} {i r wp m : Nat} {Bf : List Int} (hw : wp ≤ Bf.length) (hm : m ≤ wp - r) : (rem D i r wp Bf).take m = (Bf.drop r).take m := by
  have := buf_len (r := r) hw
  unfold rem
  rw [List.take_append_of_le_length (by omega), List.take_take, Nat.min_eq_left hm]
theorem rem_drop {D : List Int} {i r wp m : Nat} {Bf : List Int} (hw : wp ≤ Bf.length) (hm : m ≤ wp - r) : rem D i (r + m) wp Bf = (rem D i r wp Bf).drop m := by
  have := buf_len (r := r) hw
  unfold rem
  rw [List.drop_append_of_le_length (by omega), List.drop_take, List.drop_drop]
  congr 2
  omega

section
variable {rr br bb : Nat} {aE aF : Addr} {da : Option Addr} {D : List Int} {i r wp : Nat} {Bf : List Int}
attribute [local go_sem ↓] Go.wp_at_zero Go.wp_at_succ

set_option maxRecDepth 100000 in
set_option maxHeartbeats 2000000 in
theorem bread_buf {eb : Bool} (w : World) (h : Rd w rr br bb aE aF da D i r wp Bf (errV aE eb)) (hr : r < wp) (hw : wp ≤ Bf.length) (hi : i ≤ D.length) (he : eb = true → i = D.length) (g off n c : Nat) (cur : List Int) (h0 : 1 ≤ n) (hn : n ≤ 9223372036854775807) (hg : w.heap[g]? = some (.cells (bs cur).toArray 5 (0, 0))) (hfit : off + n ≤ cur.length) (hgb : bb < g) :
    Calls Tryd.prog 40 #[.pointer (some ⟨br, 0, none⟩), .slice (some ⟨g, off, none⟩) n c] w fun e w' => ∃ nn er, e = .returned (.tuple #[.int .i64 nn, er]) ∧ ReadOut w w' rr br bb aE aF da D Bf.length (rem D i r wp Bf) g off n cur nn er := by
  have HE := hd he
  clear he
  obtain ⟨c0, c1, c2, c3, c4, ⟨lb, c5⟩, ⟨ls, c6⟩⟩ := h.cells
  have hnn := h.hN
  have hdl := h.hD
  have x1 := h.hrb
  have x2 := h.hbb
  have h0' : (1 : Int) ≤ (n : Int) := by omega
  have b0 : ((n : Int) == 0) = false := by simp; omega
  have b1 : ((r : Int) == (wp : Int)) = false := by simp; omega
  obtain ⟨m, hm⟩ : ∃ m, Nat.min (wp - r) n = m := ⟨_, rfl⟩
  have m1 : m ≤ wp - r := by rw [← hm]; exact Nat.min_le_left _ _
  have m2 : m ≤ n := by rw [← hm]; exact Nat.min_le_right _ _
  have m3 : 1 ≤ m := by
    have : 1 ≤ min (wp - r) n := by omega
    exact hm ▸ this
  have HM := hd hm
  clear hm
  go_enter Tryd.func40, Tryd.ntmps40
  go_wp2
  go_quiet (fail)
  have h1 : Rd (w.drewN nq) _ _ _ _ _ _ _ _ _ _ _ _ := h.heap rfl
  have k1 : Keeps [rr, br, bb, g] w (w.drewN nq) := (Keeps.refl _ _).drewN nq
  have hg1 : (w.drewN nq).heap[g]? = some (.cells (bs cur).toArray 5 (0, 0)) := hg
  generalize w.drewN nq = w1 at *
  clear c0 c1 c2 c3 c4 c5 c6 h hg
  obtain ⟨c0, c1, c2, c3, c4, ⟨lb, c5⟩, ⟨ls, c6⟩⟩ := h1.cells
  have pbb := h1.pbb
  obtain ⟨sp, hsp, hsl⟩ := slice_mid' bb Bf.length r wp (by omega) hw
  obtain rfl : sp = ⟨bb, r, none⟩ := hsp (by omega)
  clear hsp
  have HL := hd (take_len Bf r m (by omega))
  have HS := hd (row_src (i := r) (m := m) pbb)
  go_wp2_with fail
  go_region_held3 (fun w' => w'.cell? ⟨br, 0, none⟩ = some (.slice (some ⟨bb, 0, none⟩) Bf.length Bf.length) ∧ w'.cell? ⟨br, 2, none⟩ = some (.int .i64 r) ∧ w'.cell? ⟨br, 3, none⟩ = some (.int .i64 wp)) (first | go_keep | exact ⟨hk2.cell c0 (by simp; omega), hk2.cell c2 (by simp; omega), hk2.cell c3 (by simp; omega)⟩) ((refine copy_drawn (by rfl) (.tmp 109) (.tmp 122) (by rfl) w1.drew (some ⟨g, off, none⟩) (some ⟨bb, r, none⟩) n c (wp - r) (Bf.length - r) (by rfl) (by rfl) g off cur ((Bf.drop r).take m) hg1 m HL.out HM.out (fun _ => ⟨rfl, ⟨bb, r, none⟩, rfl, HS.out⟩) (by omega) ?_; intro w2 hb2 hk2))
  have h2 : Rd w2 rr br bb aE aF da D i r wp Bf (errV aE eb) := (Rd.heap (w' := w1.drew) h1 rfl).keeps hk2 (by simp; omega)
  have k2 : Keeps [rr, br, bb, g] w w2 := k1.drew.trans (hk2.mono (by simp))
  clear c0 c1 c2 c3 c4 c5 c6 h1 k1 hg1 pbb hsl HL HS HM hk2
  obtain ⟨c0, c1, c2, c3, c4, ⟨lb, c5⟩, ⟨ls, c6⟩⟩ := h2.cells
  have f2 := h2.free 2
  go_wp2_with fail
  have h3 : Rd (w2.setCell ⟨br, 2, none⟩ (.int .i64 ((r : Int) + m))) rr br bb aE aF da D i (r + m) wp Bf (errV aE eb) := h2.setR' (r + m) (by omega)
  have k3 : Keeps [rr, br, bb, g] w (w2.setCell ⟨br, 2, none⟩ (.int .i64 ((r : Int) + m))) := k2.setCell (by simp) _
  have hb3 : (w2.setCell ⟨br, 2, none⟩ (.int .i64 ((r : Int) + m))).heap[g]? = some (.cells (bs (splice cur off ((Bf.drop r).take m))).toArray 5 (0, 0)) := by rw [Below.heap_setCell _ _ _ _ (by simp; omega)]; exact hb2
  generalize w2.setCell ⟨br, 2, none⟩ (.int .i64 ((r : Int) + m)) = w3 at *
  clear c0 c1 c2 c3 c4 c5 c6 f2 h2 k2 hb2
  obtain ⟨c0, c1, c2, c3, c4, ⟨lb, c5⟩, ⟨ls, c6⟩⟩ := h3.cells
  have f5 := h3.free 5
  have f6 := h3.free 6
  have cb : w3.cell? ⟨bb, r + m - 1, none⟩ = some (.int .u8 (Bf.getD (r + m - 1) 0)) := row_cell h3.pbb (by simpa using bs_at (l := Bf) (j := r + m - 1) (by omega))
  generalize Bf.getD (r + m - 1) 0 = cc at cb
  have HB3 := hd hb3
  clear hb3
  have y1 : (0 : Int) ≤ (r : Int) + m - 1 := by omega
  have y2 : (r : Int) + m - 1 < (Bf.length : Int) := by omega
  have y3 : ((r : Int) + m - 1).toNat = r + m - 1 := by omega
  have c2' : w3.cell? ⟨br, 2, none⟩ = some (.int .i64 ((r : Int) + m)) := by simpa using c2
  clear c2
  go_region
  go_wp2
  go_ret2
  refine ⟨_, _, rfl, Or.inr ⟨m, rfl, rfl, m3, m2, ?_, ?_, ⟨i, r + m, wp, Bf, eb, Rd.heap ((h3.setLB _).setLS (-1)) rfl, by omega, hw, rfl, hi, HE.out, ?_⟩, Keeps.drew ((k3.setCell (by simp) _).setCell (by simp) _)⟩⟩
  · have := rem_len (D := D) (i := i) (r := r) hw; omega
  · rw [rem_take hw m1]
    show ((w3.setCell _ _).setCell _ _).heap[g]? = _
    rw [Below.heap_setCell _ _ _ _ (by simp; omega), Below.heap_setCell _ _ _ _ (by simp; omega)]
    exact HB3.out
  · exact rem_drop hw m1

set_option maxRecDepth 100000 in
set_option maxHeartbeats 2000000 in
theorem bread_small_eof (w : World) (h : Rd w rr br bb aE aF da D D.length wp wp Bf .nilIface) (g off n c : Nat) (cur : List Int) (h0 : 1 ≤ n) (hs : n < Bf.length) :
    Calls Tryd.prog 40 #[.pointer (some ⟨br, 0, none⟩), .slice (some ⟨g, off, none⟩) n c] w fun e w' => ∃ nn er, e = .returned (.tuple #[.int .i64 nn, er]) ∧ ReadOut w w' rr br bb aE aF da D Bf.length (rem D D.length wp wp Bf) g off n cur nn er := by
  obtain ⟨c0, c1, c2, c3, c4, ⟨lb, c5⟩, ⟨ls, c6⟩⟩ := h.cells
  have hnn := h.hN
  have h0' : (1 : Int) ≤ (n : Int) := by omega
  have h0'' : (n : Int) < (Bf.length : Int) := by omega
  have b0 : ((n : Int) == 0) = false := by simp; omega
  go_enter Tryd.func40, Tryd.ntmps40
  go_wp2
  go_quiet (fail)
  have h1 : Rd (w.drewN nq) _ _ _ _ _ _ _ _ _ _ _ _ := h.heap rfl
  have k1 : Keeps [rr, br, bb] w (w.drewN nq) := (Keeps.refl _ _).drewN nq
  generalize w.drewN nq = w1 at *
  clear c0 c1 c2 c3 c4 c5 c6 h
  obtain ⟨c0, c1, c2, c3, c4, ⟨lb, c5⟩, ⟨ls, c6⟩⟩ := h1.cells
  have f2 := h1.free 2
  have f3 := h1.free 3
  go_wp2_with fail
  have h2 : Rd ((w1.setCell ⟨br, 2, none⟩ (.int .i64 0)).setCell ⟨br, 3, none⟩ (.int .i64 0)) rr br bb aE aF da D D.length 0 0 Bf .nilIface := (h1.setR 0).setW 0
  have k2 : Keeps [rr, br, bb] w ((w1.setCell ⟨br, 2, none⟩ (.int .i64 0)).setCell ⟨br, 3, none⟩ (.int .i64 0)) := (k1.setCell (by simp) _).setCell (by simp) _
  generalize (w1.setCell ⟨br, 2, none⟩ (.int .i64 0)).setCell ⟨br, 3, none⟩ (.int .i64 0) = w2 at *
  clear c0 c1 c2 c3 c4 c5 c6 f2 f3 h1 k1
  obtain ⟨c0, c1, c2, c3, c4, ⟨lb, c5⟩, ⟨ls, c6⟩⟩ := h2.cells
  obtain ⟨pr, prr⟩ := h2.prr
  have g1 := h2.g1
  have f4 := h2.free 4
  have hm := method_rd
  go_region_held3 (fun w' => w'.cell? ⟨br, 0, none⟩ = some (.slice (some ⟨bb, 0, none⟩) Bf.length Bf.length) ∧ w'.cell? ⟨br, 1, none⟩ = some (.iface 38 (.pointer (some ⟨rr, 0, none⟩)))) (first | go_keep | exact ⟨cell_set c03 (by simp), cell_set c13 (by simp)⟩) ((go_at_call 42; refine (rread_eof rr aE da D.length pr _ w2.drew prr g1).mono ?_; rintro e w3 ⟨rfl, hh3, hk3⟩; have c03 := hk3.cell c0 (by simp); have c13 := hk3.cell c1 (by simp); have c43 : w3.cell? ⟨br, 4, none⟩ = some .nilIface := hk3.cell c4 (by simp); have f43 : w3.frozen? ⟨br, 4, none⟩ = false := (Rd.heap (w' := w3) h2 hh3).free 4))
  have h3 : Rd w3 _ _ _ _ _ _ _ _ _ _ _ _ := h2.heap hh3
  have k3 : Keeps [rr, br, bb] w w3 := k2.drew.trans (hk3.mono (by simp))
  clear c0 c1 c2 c3 c4 c5 c6 h2 k2 prr g1 hm hh3 hk3 f4 c43 f43 c03 c13
  go_wp2_with fail
  refine (readErr_any _ (h3.setE _) (Or.inr rfl)).mono ?_
  rintro e w4 ⟨rfl, h4, k4⟩
  have k4' := (k3.setCell (p := ⟨br, 4, none⟩) (by simp) (.iface 59 (.pointer (some aE)))).trans k4
  go_wp2
  go_ret2
  exact ⟨_, _, rfl, Or.inl ⟨rfl, rfl, by rw [rem_at, List.drop_length], ⟨D.length, 0, 0, Bf, false, h4, by omega, by omega, rfl, by omega, (fun h => by cases h), by rw [rem_at, List.drop_length]⟩, k4'⟩⟩

set_option maxRecDepth 100000 in
set_option maxHeartbeats 3000000 in
theorem bread_small_some (w : World) (h : Rd w rr br bb aE aF da D i wp wp Bf .nilIface) (hi : i < D.length) (g off n c : Nat) (cur : List Int) (h0 : 1 ≤ n) (hs : n < Bf.length) (hg : w.heap[g]? = some (.cells (bs cur).toArray 5 (0, 0))) (hfit : off + n ≤ cur.length) (hgb : bb < g) :
    Calls Tryd.prog 40 #[.pointer (some ⟨br, 0, none⟩), .slice (some ⟨g, off, none⟩) n c] w fun e w' => ∃ nn er, e = .returned (.tuple #[.int .i64 nn, er]) ∧ ReadOut w w' rr br bb aE aF da D Bf.length (rem D i wp wp Bf) g off n cur nn er := by
  obtain ⟨c0, c1, c2, c3, c4, ⟨lb, c5⟩, ⟨ls, c6⟩⟩ := h.cells
  have hnn := h.hN
  have hdl := h.hD
  have x1 := h.hrb
  have x2 := h.hbb
  have h0' : (1 : Int) ≤ (n : Int) := by omega
  have h0'' : (n : Int) < (Bf.length : Int) := by omega
  have b0 : ((n : Int) == 0) = false := by simp; omega
  obtain ⟨q, hq⟩ : ∃ q, Nat.min (D.length - i) Bf.length = q := ⟨_, rfl⟩
  have q1 : q ≤ D.length - i := by rw [← hq]; exact Nat.min_le_left _ _
  have q2 : q ≤ Bf.length := by rw [← hq]; exact Nat.min_le_right _ _
  have q3 : 1 ≤ q := by
    have : 1 ≤ min (D.length - i) Bf.length := by omega
    exact hq ▸ this
  have HQ := hd hq
  clear hq
  obtain ⟨m, hm⟩ : ∃ m, Nat.min (q - 0) n = m := ⟨_, rfl⟩
  have m1 : m ≤ q := by rw [← hm]; exact Nat.min_le_left _ _
  have m2 : m ≤ n := by rw [← hm]; exact Nat.min_le_right _ _
  have m3 : 1 ≤ m := by
    have : 1 ≤ min (q - 0) n := by omega
    exact hm ▸ this
  have HM := hd hm
  clear hm
  have bq : ((q : Int) == 0) = false := by simp; omega
  go_enter Tryd.func40, Tryd.ntmps40
  go_wp2
  go_quiet (fail)
  have h1 : Rd (w.drewN nq) _ _ _ _ _ _ _ _ _ _ _ _ := h.heap rfl
  have k1 : Keeps [rr, br, bb, g] w (w.drewN nq) := (Keeps.refl _ _).drewN nq
  have hg1 : (w.drewN nq).heap[g]? = some (.cells (bs cur).toArray 5 (0, 0)) := hg
  generalize w.drewN nq = w1 at *
  clear c0 c1 c2 c3 c4 c5 c6 h hg
  obtain ⟨c0, c1, c2, c3, c4, ⟨lb, c5⟩, ⟨ls, c6⟩⟩ := h1.cells
  have f2 := h1.free 2
  have f3 := h1.free 3
  go_wp2_with fail
  have h2 : Rd ((w1.setCell ⟨br, 2, none⟩ (.int .i64 0)).setCell ⟨br, 3, none⟩ (.int .i64 0)) rr br bb aE aF da D i 0 0 Bf .nilIface := (h1.setR 0).setW 0
  have k2 : Keeps [rr, br, bb, g] w ((w1.setCell ⟨br, 2, none⟩ (.int .i64 0)).setCell ⟨br, 3, none⟩ (.int .i64 0)) := (k1.setCell (by simp) _).setCell (by simp) _
  have hg2 : ((w1.setCell ⟨br, 2, none⟩ (.int .i64 0)).setCell ⟨br, 3, none⟩ (.int .i64 0)).heap[g]? = some (.cells (bs cur).toArray 5 (0, 0)) := by rw [Below.heap_setCell _ _ _ _ (by simp; omega), Below.heap_setCell _ _ _ _ (by simp; omega)]; exact hg1
  generalize (w1.setCell ⟨br, 2, none⟩ (.int .i64 0)).setCell ⟨br, 3, none⟩ (.int .i64 0) = w2 at *
  clear c0 c1 c2 c3 c4 c5 c6 f2 f3 h1 k1 hg1
  obtain ⟨c0, c1, c2, c3, c4, ⟨lb, c5⟩, ⟨ls, c6⟩⟩ := h2.cells
  obtain ⟨pr, prr⟩ := h2.prr
  obtain ⟨lb', ls', pbr⟩ := h2.pbr
  have pbb := h2.pbb
  obtain ⟨db, hda, hdb, hdb1, pD⟩ := h2.pD (by omega)
  rw [hda] at prr
  have f4 := h2.free 4
  have hme := method_rd
  go_region_held3 (fun w' => w'.cell? ⟨br, 0, none⟩ = some (.slice (some ⟨bb, 0, none⟩) Bf.length Bf.length) ∧ w'.cell? ⟨br, 1, none⟩ = some (.iface 38 (.pointer (some ⟨rr, 0, none⟩)))) (first | go_keep | exact ⟨cell_set c03 (by simp), cell_set c13 (by simp)⟩) ((go_at_call 42; refine (rread_some rr db bb D i pr Bf 0 Bf.length Bf.length q w2.drew prr pD pbb hi hdl (by omega) (by omega) (by omega) HQ.out).mono ?_; rintro e w3 ⟨rfl, hr3, hb3, hk3⟩; have c03 := hk3.cell c0 (by simp; omega); have c13 := hk3.cell c1 (by simp; omega); have c43 : w3.cell? ⟨br, 4, none⟩ = some .nilIface := hk3.cell c4 (by simp; omega); have f43 : w3.frozen? ⟨br, 4, none⟩ = false := row_free (hk3.row pbr (by simp; omega))))
  have hl : ((D.drop i).take q).length = q := take_len _ _ _ q1
  have h3 : Rd w3 rr br bb aE aF da D (i + q) 0 0 (splice Bf 0 ((D.drop i).take q)) .nilIface := by
    refine h2.turn ((Keeps.refl _ _).drew.trans (hk3.mono (by simp))) ⟨_, by rw [hda]; exact hr3⟩ ⟨lb', ls', hk3.row pbr (by simp; omega)⟩ hb3 (splice_len (by omega)) (fun x hx => ?_)
    rcases splice_mem hx with hx | hx
    · exact h2.hB8 x hx
    · exact h2.hD8 x (List.mem_of_mem_drop (List.mem_of_mem_take hx))
  have k3 : Keeps [rr, br, bb, g] w w3 := k2.drew.trans (hk3.mono (by simp))
  have hg3 := hk3.row hg2 (by simp; omega)
  have e1 : (splice Bf 0 ((D.drop i).take q)).length = Bf.length := splice_len (by omega)
  have HR := hd (rem_read D i 0 q Bf (by omega) q1)
  have HEl := hd e1
  clear c0 c1 c2 c3 c4 c5 c6 h2 k2 prr pbr pbb pD hme hr3 hb3 hk3 f4 c43 f43 c03 c13 hl e1 HQ hg2
  generalize splice Bf 0 ((D.drop i).take q) = Bf1 at *
  have h4 : Rd (w3.setCell ⟨br, 4, none⟩ .nilIface) rr br bb aE aF da D (i + q) 0 0 Bf1 .nilIface := h3.setE _
  have k4 : Keeps [rr, br, bb, g] w (w3.setCell ⟨br, 4, none⟩ .nilIface) := k3.setCell (by simp) _
  have hg4 : (w3.setCell ⟨br, 4, none⟩ .nilIface).heap[g]? = some (.cells (bs cur).toArray 5 (0, 0)) := by rw [Below.heap_setCell _ _ _ _ (by simp; omega)]; exact hg3
  generalize w3.setCell ⟨br, 4, none⟩ .nilIface = w4 at *
  clear h3 k3 hg3
  obtain ⟨c0, c1, c2, c3, c4, ⟨lb, c5⟩, ⟨ls, c6⟩⟩ := h4.cells
  have f3 := h4.free 3
  go_wp2_with fail
  have h5 : Rd (w4.setCell ⟨br, 3, none⟩ (.int .i64 q)) rr br bb aE aF da D (i + q) 0 q Bf1 .nilIface := h4.setW q
  have k5 : Keeps [rr, br, bb, g] w (w4.setCell ⟨br, 3, none⟩ (.int .i64 q)) := k4.setCell (by simp) _
  have hg5 : (w4.setCell ⟨br, 3, none⟩ (.int .i64 q)).heap[g]? = some (.cells (bs cur).toArray 5 (0, 0)) := by rw [Below.heap_setCell _ _ _ _ (by simp; omega)]; exact hg4
  generalize w4.setCell ⟨br, 3, none⟩ (.int .i64 q) = w5 at *
  clear h4 k4 hg4 c0 c1 c2 c3 c4 c5 c6 f3
  obtain ⟨c0, c1, c2, c3, c4, ⟨lb, c5⟩, ⟨ls, c6⟩⟩ := h5.cells
  have c2' : w5.cell? ⟨br, 2, none⟩ = some (.int .i64 0) := c2
  clear c2
  have hw1 : q ≤ Bf1.length := by rw [HEl.out]; exact q2
  have pbb := h5.pbb
  have hsl : ∀ w : World, (Instr.slice 22 (.slice (some ⟨bb, 0, none⟩) Bf1.length Bf1.length) (some (.int .i64 0)) (some (.int .i64 (q : Int))) none).run Tryd.prog w = .ok (.slice (some ⟨bb, 0, none⟩) q Bf1.length) w := by
    intro w
    obtain ⟨sp, e1, e2⟩ := slice_mid' bb Bf1.length 0 q (by omega) hw1
    have := e2 w
    rw [e1 (by omega), Nat.sub_zero, Nat.sub_zero] at this
    exact this
  have HL := hd (take_len Bf1 0 m (by omega))
  have HS := hd (row_src (i := 0) (m := m) pbb)
  have HM2 : Hid (Nat.min q n = m) := HM
  go_region_held3 (fun w' => w'.cell? ⟨br, 0, none⟩ = some (.slice (some ⟨bb, 0, none⟩) Bf1.length Bf1.length) ∧ w'.cell? ⟨br, 2, none⟩ = some (.int .i64 0) ∧ w'.cell? ⟨br, 3, none⟩ = some (.int .i64 q)) (first | go_keep | exact ⟨hk6.cell c0 (by simp; omega), hk6.cell c2' (by simp; omega), hk6.cell c3 (by simp; omega)⟩) ((refine copy_drawn (by rfl) (.tmp 109) (.tmp 122) (by rfl) w5.drew (some ⟨g, off, none⟩) (some ⟨bb, 0, none⟩) n c q Bf1.length (by rfl) (by rfl) g off cur ((Bf1.drop 0).take m) hg5 m HL.out HM2.out (fun _ => ⟨rfl, ⟨bb, 0, none⟩, rfl, HS.out⟩) (by omega) ?_; intro w6 hb6 hk6))
  have h6 : Rd w6 rr br bb aE aF da D (i + q) 0 q Bf1 .nilIface := (Rd.heap (w' := w5.drew) h5 rfl).keeps hk6 (by simp; omega)
  have k6 : Keeps [rr, br, bb, g] w w6 := k5.drew.trans (hk6.mono (by simp))
  clear c0 c1 c2' c3 c4 c5 c6 h5 k5 hg5 pbb hsl HL HS HM HM2 hk6
  obtain ⟨c0, c1, c2, c3, c4, ⟨lb, c5⟩, ⟨ls, c6⟩⟩ := h6.cells
  have f2 := h6.free 2
  go_wp2_with fail
  have h3 : Rd (w6.setCell ⟨br, 2, none⟩ (.int .i64 m)) rr br bb aE aF da D (i + q) m q Bf1 .nilIface := h6.setR m
  have k3 : Keeps [rr, br, bb, g] w (w6.setCell ⟨br, 2, none⟩ (.int .i64 m)) := k6.setCell (by simp) _
  have hb3 : (w6.setCell ⟨br, 2, none⟩ (.int .i64 m)).heap[g]? = some (.cells (bs (splice cur off ((Bf1.drop 0).take m))).toArray 5 (0, 0)) := by rw [Below.heap_setCell _ _ _ _ (by simp; omega)]; exact hb6
  generalize w6.setCell ⟨br, 2, none⟩ (.int .i64 m) = w7 at *
  clear c0 c1 c2 c3 c4 c5 c6 f2 h6 k6 hb6
  obtain ⟨c0, c1, c2, c3, c4, ⟨lb, c5⟩, ⟨ls, c6⟩⟩ := h3.cells
  have f5 := h3.free 5
  have f6 := h3.free 6
  have cb : w7.cell? ⟨bb, m - 1, none⟩ = some (.int .u8 (Bf1.getD (m - 1) 0)) := row_cell h3.pbb (by simpa using bs_at (l := Bf1) (j := m - 1) (by omega))
  generalize Bf1.getD (m - 1) 0 = cc at cb
  have HB3 := hd hb3
  clear hb3
  have y1 : (0 : Int) ≤ (m : Int) - 1 := by omega
  have y2 : (m : Int) - 1 < (Bf1.length : Int) := by omega
  have y3 : ((m : Int) - 1).toNat = m - 1 := by omega
  go_region
  go_wp2
  go_ret2
  have hRR : rem D i wp wp Bf = rem D (i + q) 0 q Bf1 := by
    have := HR.out
    rw [Nat.zero_add] at this
    rw [this, rem_at, rem_at]
  rw [hRR]
  refine ⟨_, _, rfl, Or.inr ⟨m, rfl, rfl, m3, m2, ?_, ?_, ⟨i + q, m, q, Bf1, false, Rd.heap ((h3.setLB _).setLS (-1)) rfl, by omega, hw1, HEl.out, by omega, (fun h => by cases h), ?_⟩, Keeps.drew ((k3.setCell (by simp) _).setCell (by simp) _)⟩⟩
  · have := rem_len (D := D) (i := i + q) (r := 0) hw1; omega
  · rw [rem_take hw1 (by omega)]
    show ((w7.setCell _ _).setCell _ _).heap[g]? = _
    rw [Below.heap_setCell _ _ _ _ (by simp; omega), Below.heap_setCell _ _ _ _ (by simp; omega)]
    exact HB3.out
  · have := rem_drop (D := D) (i := i + q) (r := 0) (m := m) hw1 (by omega)
    rw [Nat.zero_add] at this
    exact this

/-- Read(p), p not empty: EOF where nothing is left; else some bytes. -/
theorem bread_any {N : Nat} {R : List Int} (w : World) (h : Brd w rr br bb aE aF da D N R) (g off n c : Nat) (cur : List Int) (h0 : 1 ≤ n) (hn : n ≤ 9223372036854775807) (hg : w.heap[g]? = some (.cells (bs cur).toArray 5 (0, 0))) (hfit : off + n ≤ cur.length) (hgb : bb < g) :
    Calls Tryd.prog 40 #[.pointer (some ⟨br, 0, none⟩), .slice (some ⟨g, off, none⟩) n c] w fun e w' => ∃ nn er, e = .returned (.tuple #[.int .i64 nn, er]) ∧ ReadOut w w' rr br bb aE aF da D N R g off n cur nn er := by
  obtain ⟨i, r, wp, Bf, eb, h1, hr, hw, rfl, hi, he, rfl⟩ := h
  rcases Nat.lt_or_ge r wp with hlt | hge
  · exact bread_buf w h1 hlt hw hi he g off n c cur h0 hn hg hfit hgb
  · obtain rfl : r = wp := by omega
    cases eb
    · have h1' : Rd w rr br bb aE aF da D i r r Bf .nilIface := h1
      rcases Nat.lt_or_ge n Bf.length with hs | hs
      · rcases Nat.lt_or_ge i D.length with hi' | hi'
        · exact bread_small_some w h1' hi' g off n c cur h0 hs hg hfit hgb
        · obtain rfl : i = D.length := by omega
          exact bread_small_eof w h1' g off n c cur h0 hs
      · rcases Nat.lt_or_ge i D.length with hi' | hi'
        · exact bread_big_some w h1' hw hi' g off n c cur hs hn hg hfit hgb
        · obtain rfl : i = D.length := by omega
          exact bread_big_eof w h1' hw g off n c cur hs hn
    · obtain rfl : i = D.length := he rfl
      exact bread_pend w h1 hw g off n c cur h0 hn
end

end Go.Proofs.Qxb6612240aDoor
