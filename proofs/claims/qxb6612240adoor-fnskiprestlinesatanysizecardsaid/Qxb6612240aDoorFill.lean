import Derived.Test.Qxb6612240aDoorRd
import Derived.LoopN
namespace Go.Proofs.Qxb6612240aDoor
open Go.RowKit

/-- what fill leaves -/
def Filled (w0 w : World) (rr br bb : Nat) (aE aF : Addr) (da : Option Addr) (D : List Int) (i : Nat) (n : Nat) (R : List Int) (N : Nat) : Prop :=
  ∃ (i' wp' : Nat) (Bf' : List Int) (err' : Value), Rd w rr br bb aE aF da D i' 0 wp' Bf' err' ∧ rem D i' 0 wp' Bf' = R ∧ wp' ≤ Bf'.length ∧ Bf'.length = N ∧ i' ≤ D.length ∧ n ≤ wp' ∧
    ((err' = .nilIface ∧ i < i') ∨ (err' = .iface 59 (.pointer (some aE)) ∧ i' = D.length)) ∧ Keeps [rr, br, bb] w0 w

attribute [local go_sem ↓] Go.wp_at_zero Go.wp_at_succ
set_option maxHeartbeats 1000000 in
theorem fill0_eof {rr br bb : Nat} {aE aF : Addr} {da : Option Addr} {D : List Int} {wp : Nat} {Bf : List Int} (w : World) (h : Rd w rr br bb aE aF da D D.length 0 wp Bf .nilIface) (hw : wp < Bf.length) :
    Calls Tryd.prog 23 #[.pointer (some ⟨br, 0, none⟩)] w fun e w' => e = .returned (.tuple #[]) ∧ Filled w w' rr br bb aE aF da D D.length wp (rem D D.length 0 wp Bf) Bf.length := by
  obtain ⟨c0, c1, c2, c3, c4, ⟨lb, c5⟩, ⟨ls, c6⟩⟩ := h.cells
  have hn := h.hN
  have hwi : (wp : Int) < (Bf.length : Int) := by omega
  go_enter Tryd.func23, Tryd.ntmps23
  go_wp2
  go_quiet (fail)
  go_wp2
  refine wp_loop_rounds 1 ?_
  rw [rounds_succ]
  go_wp2_with fail
  have h1 : Rd (w.drewN nq) _ _ _ _ _ _ _ _ _ _ _ _ := h.heap rfl
  have k1 : Keeps [rr, br, bb] w (w.drewN nq) := (Keeps.refl _ _).drewN nq
  generalize w.drewN nq = w1 at *
  clear c0 c1 c2 c3 c4 c5 c6 h
  obtain ⟨c0, c1, c2, c3, c4, ⟨lb, c5⟩, ⟨ls, c6⟩⟩ := h1.cells
  obtain ⟨pr, prr⟩ := h1.prr
  have g1 := h1.g1
  have hs := slice_tail bb Bf.length wp hw
  have hm := method_rd
  go_region_held3 (fun w' => w'.cell? ⟨br, 0, none⟩ = some (.slice (some ⟨bb, 0, none⟩) Bf.length Bf.length) ∧ w'.cell? ⟨br, 1, none⟩ = some (.iface 38 (.pointer (some ⟨rr, 0, none⟩))) ∧ w'.cell? ⟨br, 3, none⟩ = some (.int .i64 wp)) (first | go_keep | exact ⟨hk2.cell c0 (by simp), hk2.cell c1 (by simp), hk2.cell c3 (by simp)⟩) ((go_at_call 42; refine (rread_eof rr aE da D.length pr _ w1.drew prr g1).mono ?_; rintro e w2 ⟨rfl, hh2, hk2⟩))
  have h2 : Rd w2 _ _ _ _ _ _ _ _ _ _ _ _ := h1.heap hh2
  have k2 : Keeps [rr, br, bb] w w2 := k1.drew.trans (hk2.mono (by simp))
  clear c0 c1 c2 c3 c4 c5 c6 h1 k1 prr g1 hs hm hh2 hk2
  obtain ⟨c0, c1, c2, c3, c4, ⟨lb, c5⟩, ⟨ls, c6⟩⟩ := h2.cells
  have f3 := h2.free 3
  have f4 := h2.free 4
  go_wp2
  refine bodyPost_ret (results_none rfl _ _ _) rfl ?_
  exact ⟨rfl, D.length, wp, Bf, _, (h2.setW wp).setE _, rfl, by omega, rfl, by omega, by omega, Or.inr ⟨rfl, rfl⟩, (k2.setCell (by simp) _).setCell (by simp) _⟩

set_option maxHeartbeats 1000000 in
theorem fill0_some {rr br bb : Nat} {aE aF : Addr} {da : Option Addr} {D : List Int} {i wp : Nat} {Bf : List Int} (w : World) (h : Rd w rr br bb aE aF da D i 0 wp Bf .nilIface) (hw : wp < Bf.length) (hi : i < D.length) :
    Calls Tryd.prog 23 #[.pointer (some ⟨br, 0, none⟩)] w fun e w' => e = .returned (.tuple #[]) ∧ Filled w w' rr br bb aE aF da D i wp (rem D i 0 wp Bf) Bf.length := by
  obtain ⟨c0, c1, c2, c3, c4, ⟨lb, c5⟩, ⟨ls, c6⟩⟩ := h.cells
  have hn := h.hN
  have hdl := h.hD
  have hwi : (wp : Int) < (Bf.length : Int) := by omega
  obtain ⟨m, hm⟩ : ∃ m, Nat.min (D.length - i) (Bf.length - wp) = m := ⟨_, rfl⟩
  have m1 : m ≤ D.length - i := by rw [← hm]; exact Nat.min_le_left _ _
  have m2 : m ≤ Bf.length - wp := by rw [← hm]; exact Nat.min_le_right _ _
  have m3 : 1 ≤ m := by
    have : 1 ≤ min (D.length - i) (Bf.length - wp) := by omega
    exact hm ▸ this
  have HM := hd hm
  clear hm
  go_enter Tryd.func23, Tryd.ntmps23
  go_wp2
  go_quiet (fail)
  go_wp2
  refine wp_loop_rounds 1 ?_
  rw [rounds_succ]
  go_wp2_with fail
  have h1 : Rd (w.drewN nq) _ _ _ _ _ _ _ _ _ _ _ _ := h.heap rfl
  have k1 : Keeps [rr, br, bb] w (w.drewN nq) := (Keeps.refl _ _).drewN nq
  generalize w.drewN nq = w1 at *
  clear c0 c1 c2 c3 c4 c5 c6 h
  obtain ⟨c0, c1, c2, c3, c4, ⟨lb, c5⟩, ⟨ls, c6⟩⟩ := h1.cells
  obtain ⟨pr, prr⟩ := h1.prr
  obtain ⟨lb', ls', pbr⟩ := h1.pbr
  have pbb := h1.pbb
  have x1 := h1.hrb
  have x2 := h1.hbb
  obtain ⟨db, hda, hdb, _, pD⟩ := h1.pD (by omega)
  rw [hda] at prr
  have hs := slice_tail bb Bf.length wp hw
  have hme := method_rd
  go_region_held3 (fun w' => w'.cell? ⟨br, 0, none⟩ = some (.slice (some ⟨bb, 0, none⟩) Bf.length Bf.length) ∧ w'.cell? ⟨br, 1, none⟩ = some (.iface 38 (.pointer (some ⟨rr, 0, none⟩))) ∧ w'.cell? ⟨br, 3, none⟩ = some (.int .i64 wp)) (first | go_keep | exact ⟨hk2.cell c0 (by simp; omega), hk2.cell c1 (by simp; omega), hk2.cell c3 (by simp; omega)⟩) ((go_at_call 42; refine (rread_some rr db bb D i pr Bf wp (Bf.length - wp) (Bf.length - wp) m w1.drew prr pD pbb hi hdl (by omega) (by omega) (by omega) HM.out).mono ?_; rintro e w2 ⟨rfl, hr2, hb2, hk2⟩))
  have hl : ((D.drop i).take m).length = m := take_len _ _ _ m1
  have h2 : Rd w2 rr br bb aE aF da D (i + m) 0 wp (splice Bf wp ((D.drop i).take m)) .nilIface := by
    refine h1.turn ((Keeps.refl _ _).drew.trans (hk2.mono (by simp))) ⟨_, by rw [hda]; exact hr2⟩ ⟨lb', ls', hk2.row pbr (by simp; omega)⟩ hb2 (splice_len (by omega)) (fun x hx => ?_)
    rcases splice_mem hx with hx | hx
    · exact h1.hB8 x hx
    · exact h1.hD8 x (List.mem_of_mem_drop (List.mem_of_mem_take hx))
  have k2 : Keeps [rr, br, bb] w w2 := k1.drew.trans (hk2.mono (by simp))
  have e1 : (splice Bf wp ((D.drop i).take m)).length = Bf.length := splice_len (by omega)
  have HR := hd (rem_read D i wp m Bf (by omega) m1)
  have HE := hd e1
  clear c0 c1 c2 c3 c4 c5 c6 h1 k1 prr pbb pD pbr hs hme hb2 hr2 hk2 hl e1 HM
  generalize splice Bf wp ((D.drop i).take m) = Bf' at *
  obtain ⟨c0, c1, c2, c3, c4, ⟨lb, c5⟩, ⟨ls, c6⟩⟩ := h2.cells
  have f3 := h2.free 3
  go_wp2
  refine bodyPost_ret (results_none rfl _ _ _) rfl ?_
  have e2 := HE.out
  exact ⟨rfl, i + m, wp + m, Bf', _, h2.setW (wp + m), HR.out, by omega, e2, by omega, by omega, Or.inl ⟨rfl, by omega⟩, k2.setCell (by simp) _⟩

end Go.Proofs.Qxb6612240aDoor
