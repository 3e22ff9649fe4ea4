import Derived.Test.Qxb6612240aDoorSkip
namespace Go.Proofs.Qxb6612240aDoor
open Go.RowKit

/-- a bufio.Reader with what it still has to read -/
def Brd (w : World) (rr br bb : Nat) (aE aF : Addr) (da : Option Addr) (D : List Int) (N : Nat) (R : List Int) : Prop :=
  ∃ (i r wp : Nat) (Bf : List Int) (eb : Bool), Rd w rr br bb aE aF da D i r wp Bf (errV aE eb) ∧ r ≤ wp ∧ wp ≤ Bf.length ∧ Bf.length = N ∧ i ≤ D.length ∧ (eb = true → i = D.length) ∧ rem D i r wp Bf = R

/-- what Read(p) leaves, p the place off of the row g -/
def ReadOut (w0 w : World) (rr br bb : Nat) (aE aF : Addr) (da : Option Addr) (D : List Int) (N : Nat) (R : List Int) (g off n : Nat) (cur : List Int) (nn : Int) (er : Value) : Prop :=
  (nn = 0 ∧ er = .iface 59 (.pointer (some aE)) ∧ R = [] ∧ Brd w rr br bb aE aF da D N [] ∧ Keeps [rr, br, bb] w0 w) ∨
  (∃ m : Nat, nn = m ∧ er = .nilIface ∧ 1 ≤ m ∧ m ≤ n ∧ m ≤ R.length ∧ w.heap[g]? = some (.cells (bs (splice cur off (R.take m))).toArray 5 (0, 0)) ∧ Brd w rr br bb aE aF da D N (R.drop m) ∧ Keeps [rr, br, bb, g] w0 w)

theorem rem_at (D : List Int) (i wp : Nat) (Bf : List Int) : rem D i wp wp Bf = D.drop i := by simp [rem]

section
variable {rr br bb : Nat} {aE aF : Addr} {da : Option Addr} {D : List Int} {i r wp : Nat} {Bf : List Int}

set_option maxRecDepth 100000 in
set_option maxHeartbeats 2000000 in
theorem bread_pend (w : World) (h : Rd w rr br bb aE aF da D D.length wp wp Bf (.iface 59 (.pointer (some aE)))) (hw : wp ≤ Bf.length) (g off n c : Nat) (cur : List Int) (h0 : 1 ≤ n) (hn : n ≤ 9223372036854775807) :
    Calls Tryd.prog 40 #[.pointer (some ⟨br, 0, none⟩), .slice (some ⟨g, off, none⟩) n c] w fun e w' => ∃ nn er, e = .returned (.tuple #[.int .i64 nn, er]) ∧ ReadOut w w' rr br bb aE aF da D Bf.length (rem D D.length wp wp Bf) g off n cur nn er := by
  obtain ⟨c0, c1, c2, c3, c4, ⟨lb, c5⟩, ⟨ls, c6⟩⟩ := h.cells
  have hnn := h.hN
  have h0' : (1 : Int) ≤ (n : Int) := by omega
  have b0 : ((n : Int) == 0) = false := by simp; omega
  go_enter Tryd.func40, Tryd.ntmps40
  go_wp2
  go_quiet (fail)
  have h1 : Rd (w.drewN nq) _ _ _ _ _ _ _ _ _ _ _ _ := h.heap rfl
  have k1 : Keeps [rr, br, bb] w (w.drewN nq) := (Keeps.refl _ _).drewN nq
  generalize w.drewN nq = w1 at *
  clear c0 c1 c2 c3 c4 c5 c6 h
  obtain ⟨c0, c1, c2, c3, c4, ⟨lb, c5⟩, ⟨ls, c6⟩⟩ := h1.cells
  go_wp2_with (go_at_call 21; refine (readErr_any _ h1 (Or.inr rfl)).mono ?_; rintro e w2 ⟨rfl, h2, k2⟩)
  go_ret2
  refine ⟨_, _, rfl, Or.inl ⟨rfl, rfl, by rw [rem_at, List.drop_length], ⟨D.length, wp, wp, Bf, false, h2, by omega, hw, rfl, by omega, (fun h => by cases h), by rw [rem_at, List.drop_length]⟩, k1.trans k2⟩⟩

set_option maxRecDepth 100000 in
set_option maxHeartbeats 2000000 in
theorem bread_big_eof (w : World) (h : Rd w rr br bb aE aF da D D.length wp wp Bf .nilIface) (hw : wp ≤ Bf.length) (g off n c : Nat) (cur : List Int) (h0 : Bf.length ≤ n) (hn : n ≤ 9223372036854775807) :
    Calls Tryd.prog 40 #[.pointer (some ⟨br, 0, none⟩), .slice (some ⟨g, off, none⟩) n c] w fun e w' => ∃ nn er, e = .returned (.tuple #[.int .i64 nn, er]) ∧ ReadOut w w' rr br bb aE aF da D Bf.length (rem D D.length wp wp Bf) g off n cur nn er := by
  obtain ⟨c0, c1, c2, c3, c4, ⟨lb, c5⟩, ⟨ls, c6⟩⟩ := h.cells
  have hnn := h.hN
  have h0' : (1 : Int) ≤ (n : Int) := by omega
  have h0'' : (Bf.length : Int) ≤ (n : Int) := by omega
  have b0 : ((n : Int) == 0) = false := by simp; omega
  go_enter Tryd.func40, Tryd.ntmps40
  go_wp2
  go_quiet (fail)
  have h1 : Rd (w.drewN nq) _ _ _ _ _ _ _ _ _ _ _ _ := h.heap rfl
  have k1 : Keeps [rr, br, bb] w (w.drewN nq) := (Keeps.refl _ _).drewN nq
  generalize w.drewN nq = w1 at *
  clear c0 c1 c2 c3 c4 c5 c6 h
  obtain ⟨c0, c1, c2, c3, c4, ⟨lb, c5⟩, ⟨ls, c6⟩⟩ := h1.cells
  obtain ⟨pr, prr⟩ := h1.prr
  have g1 := h1.g1
  have hm := method_rd
  go_wp2_with fail
  refine (rread_eof rr aE da D.length pr _ _ prr g1).mono ?_
  rintro e w2 ⟨rfl, hh2, hk2⟩
  have h2 : Rd w2 _ _ _ _ _ _ _ _ _ _ _ _ := h1.heap hh2
  have k2 : Keeps [rr, br, bb] w w2 := k1.trans (hk2.mono (by simp))
  clear c0 c1 c2 c3 c4 c5 c6 h1 k1 prr g1 hm hh2 hk2
  obtain ⟨c0, c1, c2, c3, c4, ⟨lb, c5⟩, ⟨ls, c6⟩⟩ := h2.cells
  have f4 := h2.free 4
  go_wp2_with fail
  refine (readErr_any _ (h2.setE _) (Or.inr rfl)).mono ?_
  rintro e w3 ⟨rfl, h3, k3⟩
  have k3' := (k2.setCell (p := ⟨br, 4, none⟩) (by simp) (.iface 59 (.pointer (some aE)))).trans k3
  go_wp2
  go_ret2
  exact ⟨_, _, rfl, Or.inl ⟨rfl, rfl, by rw [rem_at, List.drop_length], ⟨D.length, wp, wp, Bf, false, h3, by omega, hw, rfl, by omega, (fun h => by cases h), by rw [rem_at, List.drop_length]⟩, k3'⟩⟩

set_option maxRecDepth 100000 in
set_option maxHeartbeats 2000000 in
theorem bread_big_some (w : World) (h : Rd w rr br bb aE aF da D i wp wp Bf .nilIface) (hw : wp ≤ Bf.length) (hi : i < D.length) (g off n c : Nat) (cur : List Int) (h0 : Bf.length ≤ n) (hn : n ≤ 9223372036854775807) (hg : w.heap[g]? = some (.cells (bs cur).toArray 5 (0, 0))) (hfit : off + n ≤ cur.length) (hgb : bb < g) :
    Calls Tryd.prog 40 #[.pointer (some ⟨br, 0, none⟩), .slice (some ⟨g, off, none⟩) n c] w fun e w' => ∃ nn er, e = .returned (.tuple #[.int .i64 nn, er]) ∧ ReadOut w w' rr br bb aE aF da D Bf.length (rem D i wp wp Bf) g off n cur nn er := by
  obtain ⟨c0, c1, c2, c3, c4, ⟨lb, c5⟩, ⟨ls, c6⟩⟩ := h.cells
  have hnn := h.hN
  have hdl := h.hD
  have x1 := h.hrb
  have x2 := h.hbb
  have h0' : (1 : Int) ≤ (n : Int) := by omega
  have h0'' : (Bf.length : Int) ≤ (n : Int) := by omega
  have b0 : ((n : Int) == 0) = false := by simp; omega
  obtain ⟨m, hm⟩ : ∃ m, Nat.min (D.length - i) n = m := ⟨_, rfl⟩
  have m1 : m ≤ D.length - i := by rw [← hm]; exact Nat.min_le_left _ _
  have m2 : m ≤ n := by rw [← hm]; exact Nat.min_le_right _ _
  have m3 : 1 ≤ m := by
    have : 1 ≤ min (D.length - i) n := by omega
    exact hm ▸ this
  have HM := hd hm
  clear hm
  go_enter Tryd.func40, Tryd.ntmps40
  go_wp2
  go_quiet (fail)
  have h1 : Rd (w.drewN nq) _ _ _ _ _ _ _ _ _ _ _ _ := h.heap rfl
  have k1 : Keeps [rr, br, bb, g] w (w.drewN nq) := (Keeps.refl _ _).drewN nq
  have hg1 : (w.drewN nq).heap[g]? = some (.cells (bs cur).toArray 5 (0, 0)) := hg
  generalize w.drewN nq = w1 at *
  clear c0 c1 c2 c3 c4 c5 c6 h hg
  obtain ⟨c0, c1, c2, c3, c4, ⟨lb, c5⟩, ⟨ls, c6⟩⟩ := h1.cells
  obtain ⟨pr, prr⟩ := h1.prr
  obtain ⟨lb', ls', pbr⟩ := h1.pbr
  obtain ⟨db, hda, hdb, _, pD⟩ := h1.pD (by omega)
  rw [hda] at prr
  have hme := method_rd
  go_wp2_with fail
  refine (rread_some rr db g D i pr cur off n c m _ prr pD hg1 hi hdl hfit (by omega) (by omega) HM.out).mono ?_
  rintro e w2 ⟨rfl, hr2, hb2, hk2⟩
  have h2 : Rd w2 rr br bb aE aF da D (i + m) wp wp Bf .nilIface := by
    obtain ⟨p1, p2, p3, p4, p5, p6, p7, p8, p9, p10, p11, p12, p13⟩ := h1
    refine ⟨⟨_, by rw [hda]; exact hr2⟩, ⟨lb', ls', hk2.row pbr (by simp; omega)⟩, hk2.row p3 (by simp; omega), fun _ => ⟨db, hda, hdb, by assumption, hk2.row pD (by simp; omega)⟩, p5, p6, hk2.cell p7 (by simp; omega), hk2.cell p8 (by simp; omega), p9, p10, p11, p12, p13⟩
  have k2 : Keeps [rr, br, bb, g] w w2 := k1.trans (hk2.mono (by simp))
  clear c0 c1 c2 c3 c4 c5 c6 h1 k1 prr pD pbr hme hr2 hk2 hg1
  obtain ⟨c0, c1, c2, c3, c4, ⟨lb, c5⟩, ⟨ls, c6⟩⟩ := h2.cells
  have f4 := h2.free 4
  have f5 := h2.free 5
  have f6 := h2.free 6
  have hl : ((D.drop i).take m).length = m := take_len _ _ _ m1
  have hsl : (splice cur off ((D.drop i).take m)).length = cur.length := splice_len (by omega)
  have cb : w2.cell? ⟨g, off + (m - 1), none⟩ = some (.int .u8 ((splice cur off ((D.drop i).take m)).getD (off + (m - 1)) 0)) := row_cell hb2 (by simpa using bs_at (j := off + (m - 1)) (by omega))
  generalize (splice cur off ((D.drop i).take m)).getD (off + (m - 1)) 0 = cc at cb
  have HB2 := hd hb2
  clear hb2 hl hsl HM
  go_wp2_with fail
  refine (readErr_any _ (((h2.setE .nilIface).setLB _).setLS (-1)) (Or.inl rfl)).mono ?_
  rintro e w3 ⟨rfl, h3, k3⟩
  have k3' := (((k2.setCell (p := ⟨br, 4, none⟩) (by simp) .nilIface).setCell (p := ⟨br, 5, none⟩) (by simp) (.int .i64 (wrap64 cc))).setCell (p := ⟨br, 6, none⟩) (by simp) (.int .i64 (-1))).trans (k3.mono (T := [rr, br, bb, g]) (by simp))
  have hb3 := k3.row (g := g) (by rw [Below.heap_setCell _ _ _ _ (by simp; omega), Below.heap_setCell _ _ _ _ (by simp; omega), Below.heap_setCell _ _ _ _ (by simp; omega)]; exact HB2.out) (by simp; omega)
  clear c0 c1 c2 c3 c4 c5 c6 f4 f5 f6 h2 k2 k3 cb
  go_wp2
  go_ret2
  refine ⟨_, _, rfl, Or.inr ⟨m, rfl, rfl, m3, m2, ?_, ?_, ⟨i + m, wp, wp, Bf, false, h3, by omega, hw, rfl, by omega, (fun h => by cases h), ?_⟩, k3'⟩⟩
  · rw [rem_at, List.length_drop]; exact m1
  · rw [rem_at]; exact hb3
  · rw [rem_at, rem_at, List.drop_drop]
end

end Go.Proofs.Qxb6612240aDoor
