import Derived.Test.Qxb6612240aDoorFill
namespace Go.Proofs.Qxb6612240aDoor
open Go.RowKit
attribute [local go_sem ↓] Go.wp_at_zero Go.wp_at_succ
set_option maxHeartbeats 2000000 in
theorem fillr_eof {rr br bb : Nat} {aE aF : Addr} {da : Option Addr} {D : List Int} {r wp : Nat} {Bf : List Int} (w : World) (h : Rd w rr br bb aE aF da D D.length r wp Bf .nilIface) (hr0 : 0 < r) (hr : r ≤ wp) (hw : wp ≤ Bf.length) :
    Calls Tryd.prog 23 #[.pointer (some ⟨br, 0, none⟩)] w fun e w' => e = .returned (.tuple #[]) ∧ Filled w w' rr br bb aE aF da D D.length (wp - r) (rem D D.length r wp Bf) Bf.length := by
  obtain ⟨c0, c1, c2, c3, c4, ⟨lb, c5⟩, ⟨ls, c6⟩⟩ := h.cells
  have hn := h.hN
  have x1 := h.hrb
  have x2 := h.hbb
  have pbb := h.pbb
  obtain ⟨lb', ls', pbr⟩ := h.pbr
  obtain ⟨pr', prr⟩ := h.prr
  obtain ⟨sp, hsp, hsl⟩ := slice_mid bb Bf.length r wp hr hw
  have HP : Hid (0 < wp - r → ∃ ad, sp = some ad ∧ ∀ j v, (bs ((Bf.drop r).take (wp - r)))[j]? = some v → w.cell? (ad.add j) = some v) :=
    fun hp => ⟨⟨bb, r, none⟩, hsp (by omega), row_src pbb⟩
  have HL := hd (take_len Bf r (wp - r) (by omega))
  have HN : Hid (Nat.min (wp - r) Bf.length = wp - r) := Nat.min_eq_left (by omega)
  clear hsp
  go_enter Tryd.func23, Tryd.ntmps23
  go_wp2_with fail
  go_region_held3 (fun w' => w'.cell? ⟨br, 0, none⟩ = some (.slice (some ⟨bb, 0, none⟩) Bf.length Bf.length) ∧ w'.cell? ⟨br, 2, none⟩ = some (.int .i64 r) ∧ w'.cell? ⟨br, 3, none⟩ = some (.int .i64 wp)) (first | go_keep | exact ⟨hk2.cell c0 (by simp; omega), hk2.cell c2 (by simp; omega), hk2.cell c3 (by simp; omega)⟩) ((refine copy_drawn (by rfl) (.tmp 13) (.tmp 26) (by rfl) w.drew (some ⟨bb, 0, none⟩) sp Bf.length Bf.length (wp - r) (Bf.length - r) (by rfl) (by rfl) bb 0 Bf ((Bf.drop r).take (wp - r)) pbb (wp - r) HL.out HN.out (fun hp => ⟨rfl, HP.out hp⟩) (by omega) ?_; intro w2 hb2 hk2))
  have h2 : Rd w2 rr br bb aE aF da D D.length r wp (splice Bf 0 ((Bf.drop r).take (wp - r))) .nilIface := by
    refine h.turn ((Keeps.refl _ _).drew.trans (hk2.mono (by simp))) ⟨_, hk2.row prr (by simp; omega)⟩ ⟨lb', ls', hk2.row pbr (by simp; omega)⟩ hb2 (splice_len (by rw [HL.out]; omega)) (fun x hx => ?_)
    rcases splice_mem hx with hx | hx
    · exact h.hB8 x hx
    · exact h.hB8 x (List.mem_of_mem_drop (List.mem_of_mem_take hx))
  have k2 : Keeps [rr, br, bb] w w2 := (Keeps.refl _ _).drew.trans (hk2.mono (by simp))
  have HR0 := hd (rem_slide D D.length r wp Bf hr hw)
  have HE0 : Hid ((splice Bf 0 ((Bf.drop r).take (wp - r))).length = Bf.length) := splice_len (by rw [HL.out]; omega)
  clear c0 c1 c2 c3 c4 c5 c6 h prr pbb pbr hb2 hk2 HL HN HP hsl
  generalize splice Bf 0 ((Bf.drop r).take (wp - r)) = Bf1 at *
  obtain ⟨c0, c1, c2, c3, c4, ⟨lb, c5⟩, ⟨ls, c6⟩⟩ := h2.cells
  have f3 := h2.free 3
  have f2 := h2.free 2
  go_wp2
  go_region
  go_wp2
  have ez : ((wp : Int) - r) = ((wp - r : Nat) : Int) := by omega
  rw [ez]
  have h : Rd (((w2.setCell ⟨br, 3, none⟩ (.int .i64 ((wp - r : Nat) : Int))).setCell ⟨br, 2, none⟩ (.int .i64 0)).drew) rr br bb aE aF da D D.length 0 (wp - r) Bf1 .nilIface := ((h2.setW (wp - r)).setR 0).heap rfl
  have k0 : Keeps [rr, br, bb] w (((w2.setCell ⟨br, 3, none⟩ (.int .i64 ((wp - r : Nat) : Int))).setCell ⟨br, 2, none⟩ (.int .i64 0)).drew) := ((k2.setCell (by simp) _).setCell (by simp) _).drew
  generalize ((w2.setCell ⟨br, 3, none⟩ (.int .i64 ((wp - r : Nat) : Int))).setCell ⟨br, 2, none⟩ (.int .i64 0)).drew = w3 at *
  clear c0 c1 c2 c3 c4 c5 c6 f2 f3 h2 k2 ez
  have hp0 : wp - r < Bf1.length := by rw [HE0.out]; omega
  have hn1 : Bf1.length ≤ 65536 := by rw [HE0.out]; omega
  generalize hp : wp - r = p at *
  have HPp := hd hp
  clear hp
  obtain ⟨c0, c1, c2, c3, c4, ⟨lb, c5⟩, ⟨ls, c6⟩⟩ := h.cells
  have hw := hp0
  have hwi : (p : Int) < (Bf1.length : Int) := by omega
  go_quiet (fail)
  go_wp2
  refine wp_loop_rounds 1 ?_
  rw [rounds_succ]
  go_wp2_with fail
  have h1 : Rd (w3.drewN nq) _ _ _ _ _ _ _ _ _ _ _ _ := h.heap rfl
  have k1 : Keeps [rr, br, bb] w (w3.drewN nq) := k0.drewN nq
  generalize w3.drewN nq = w1 at *
  clear c0 c1 c2 c3 c4 c5 c6 h
  obtain ⟨c0, c1, c2, c3, c4, ⟨lb, c5⟩, ⟨ls, c6⟩⟩ := h1.cells
  obtain ⟨pr, prr⟩ := h1.prr
  have g1 := h1.g1
  have hs := slice_tail bb Bf1.length p hw
  have hm := method_rd
  go_region_held3 (fun w' => w'.cell? ⟨br, 0, none⟩ = some (.slice (some ⟨bb, 0, none⟩) Bf1.length Bf1.length) ∧ w'.cell? ⟨br, 1, none⟩ = some (.iface 38 (.pointer (some ⟨rr, 0, none⟩))) ∧ w'.cell? ⟨br, 3, none⟩ = some (.int .i64 p)) (first | go_keep | exact ⟨hk2.cell c0 (by simp), hk2.cell c1 (by simp), hk2.cell c3 (by simp)⟩) ((go_at_call 42; refine (rread_eof rr aE da D.length pr _ w1.drew prr g1).mono ?_; rintro e w2 ⟨rfl, hh2, hk2⟩))
  have h2 : Rd w2 _ _ _ _ _ _ _ _ _ _ _ _ := h1.heap hh2
  have k2 : Keeps [rr, br, bb] w w2 := k1.drew.trans (hk2.mono (by simp))
  clear c0 c1 c2 c3 c4 c5 c6 h1 k1 prr g1 hs hm hh2 hk2
  obtain ⟨c0, c1, c2, c3, c4, ⟨lb, c5⟩, ⟨ls, c6⟩⟩ := h2.cells
  have f3 := h2.free 3
  have f4 := h2.free 4
  go_wp2
  refine bodyPost_ret (results_none rfl _ _ _) rfl ?_
  exact ⟨rfl, D.length, p, Bf1, _, (h2.setW p).setE _, HR0.out, by omega, HE0.out, by omega, by have := HPp.out; omega, Or.inr ⟨rfl, rfl⟩, (k2.setCell (by simp) _).setCell (by simp) _⟩

set_option maxHeartbeats 2000000 in
theorem fillr_some {rr br bb : Nat} {aE aF : Addr} {da : Option Addr} {D : List Int} {i r wp : Nat} {Bf : List Int} (w : World) (h : Rd w rr br bb aE aF da D i r wp Bf .nilIface) (hr0 : 0 < r) (hr : r ≤ wp) (hw : wp ≤ Bf.length) (hi : i < D.length) :
    Calls Tryd.prog 23 #[.pointer (some ⟨br, 0, none⟩)] w fun e w' => e = .returned (.tuple #[]) ∧ Filled w w' rr br bb aE aF da D i (wp - r) (rem D i r wp Bf) Bf.length := by
  obtain ⟨c0, c1, c2, c3, c4, ⟨lb, c5⟩, ⟨ls, c6⟩⟩ := h.cells
  have hn := h.hN
  have x1 := h.hrb
  have x2 := h.hbb
  have pbb := h.pbb
  obtain ⟨lb', ls', pbr⟩ := h.pbr
  obtain ⟨pr', prr⟩ := h.prr
  obtain ⟨sp, hsp, hsl⟩ := slice_mid bb Bf.length r wp hr hw
  have HP : Hid (0 < wp - r → ∃ ad, sp = some ad ∧ ∀ j v, (bs ((Bf.drop r).take (wp - r)))[j]? = some v → w.cell? (ad.add j) = some v) :=
    fun hp => ⟨⟨bb, r, none⟩, hsp (by omega), row_src pbb⟩
  have HL := hd (take_len Bf r (wp - r) (by omega))
  have HN : Hid (Nat.min (wp - r) Bf.length = wp - r) := Nat.min_eq_left (by omega)
  clear hsp
  go_enter Tryd.func23, Tryd.ntmps23
  go_wp2_with fail
  go_region_held3 (fun w' => w'.cell? ⟨br, 0, none⟩ = some (.slice (some ⟨bb, 0, none⟩) Bf.length Bf.length) ∧ w'.cell? ⟨br, 2, none⟩ = some (.int .i64 r) ∧ w'.cell? ⟨br, 3, none⟩ = some (.int .i64 wp)) (first | go_keep | exact ⟨hk2.cell c0 (by simp; omega), hk2.cell c2 (by simp; omega), hk2.cell c3 (by simp; omega)⟩) ((refine copy_drawn (by rfl) (.tmp 13) (.tmp 26) (by rfl) w.drew (some ⟨bb, 0, none⟩) sp Bf.length Bf.length (wp - r) (Bf.length - r) (by rfl) (by rfl) bb 0 Bf ((Bf.drop r).take (wp - r)) pbb (wp - r) HL.out HN.out (fun hp => ⟨rfl, HP.out hp⟩) (by omega) ?_; intro w2 hb2 hk2))
  have h2 : Rd w2 rr br bb aE aF da D i r wp (splice Bf 0 ((Bf.drop r).take (wp - r))) .nilIface := by
    refine h.turn ((Keeps.refl _ _).drew.trans (hk2.mono (by simp))) ⟨_, hk2.row prr (by simp; omega)⟩ ⟨lb', ls', hk2.row pbr (by simp; omega)⟩ hb2 (splice_len (by rw [HL.out]; omega)) (fun x hx => ?_)
    rcases splice_mem hx with hx | hx
    · exact h.hB8 x hx
    · exact h.hB8 x (List.mem_of_mem_drop (List.mem_of_mem_take hx))
  have k2 : Keeps [rr, br, bb] w w2 := (Keeps.refl _ _).drew.trans (hk2.mono (by simp))
  have HR0 := hd (rem_slide D i r wp Bf hr hw)
  have HE0 : Hid ((splice Bf 0 ((Bf.drop r).take (wp - r))).length = Bf.length) := splice_len (by rw [HL.out]; omega)
  clear c0 c1 c2 c3 c4 c5 c6 h prr pbb pbr hb2 hk2 HL HN HP hsl
  generalize splice Bf 0 ((Bf.drop r).take (wp - r)) = Bf1 at *
  obtain ⟨c0, c1, c2, c3, c4, ⟨lb, c5⟩, ⟨ls, c6⟩⟩ := h2.cells
  have f3 := h2.free 3
  have f2 := h2.free 2
  go_wp2
  go_region
  go_wp2
  have ez : ((wp : Int) - r) = ((wp - r : Nat) : Int) := by omega
  rw [ez]
  have h : Rd (((w2.setCell ⟨br, 3, none⟩ (.int .i64 ((wp - r : Nat) : Int))).setCell ⟨br, 2, none⟩ (.int .i64 0)).drew) rr br bb aE aF da D i 0 (wp - r) Bf1 .nilIface := ((h2.setW (wp - r)).setR 0).heap rfl
  have k0 : Keeps [rr, br, bb] w (((w2.setCell ⟨br, 3, none⟩ (.int .i64 ((wp - r : Nat) : Int))).setCell ⟨br, 2, none⟩ (.int .i64 0)).drew) := ((k2.setCell (by simp) _).setCell (by simp) _).drew
  generalize ((w2.setCell ⟨br, 3, none⟩ (.int .i64 ((wp - r : Nat) : Int))).setCell ⟨br, 2, none⟩ (.int .i64 0)).drew = w3 at *
  clear c0 c1 c2 c3 c4 c5 c6 f2 f3 h2 k2 ez
  have hp0 : wp - r < Bf1.length := by rw [HE0.out]; omega
  have hn1 : Bf1.length ≤ 65536 := by rw [HE0.out]; omega
  generalize hp : wp - r = p at *
  have HPp := hd hp
  clear hp
  obtain ⟨c0, c1, c2, c3, c4, ⟨lb, c5⟩, ⟨ls, c6⟩⟩ := h.cells
  have hw := hp0
  have hdl := h.hD
  have hwi : (p : Int) < (Bf1.length : Int) := by omega
  obtain ⟨m, hm⟩ : ∃ m, Nat.min (D.length - i) (Bf1.length - p) = m := ⟨_, rfl⟩
  have m1 : m ≤ D.length - i := by rw [← hm]; exact Nat.min_le_left _ _
  have m2 : m ≤ Bf1.length - p := by rw [← hm]; exact Nat.min_le_right _ _
  have m3 : 1 ≤ m := by
    have : 1 ≤ min (D.length - i) (Bf1.length - p) := by omega
    exact hm ▸ this
  have HM := hd hm
  clear hm
  go_quiet (fail)
  go_wp2
  refine wp_loop_rounds 1 ?_
  rw [rounds_succ]
  go_wp2_with fail
  have h1 : Rd (w3.drewN nq) _ _ _ _ _ _ _ _ _ _ _ _ := h.heap rfl
  have k1 : Keeps [rr, br, bb] w (w3.drewN nq) := k0.drewN nq
  generalize w3.drewN nq = w1 at *
  clear c0 c1 c2 c3 c4 c5 c6 h
  obtain ⟨c0, c1, c2, c3, c4, ⟨lb, c5⟩, ⟨ls, c6⟩⟩ := h1.cells
  obtain ⟨pr, prr⟩ := h1.prr
  obtain ⟨lb', ls', pbr⟩ := h1.pbr
  have pbb := h1.pbb
  have x1 := h1.hrb
  have x2 := h1.hbb
  obtain ⟨db, hda, hdb, _, pD⟩ := h1.pD (by omega)
  rw [hda] at prr
  have hs := slice_tail bb Bf1.length p hw
  have hme := method_rd
  go_region_held3 (fun w' => w'.cell? ⟨br, 0, none⟩ = some (.slice (some ⟨bb, 0, none⟩) Bf1.length Bf1.length) ∧ w'.cell? ⟨br, 1, none⟩ = some (.iface 38 (.pointer (some ⟨rr, 0, none⟩))) ∧ w'.cell? ⟨br, 3, none⟩ = some (.int .i64 p)) (first | go_keep | exact ⟨hk2.cell c0 (by simp; omega), hk2.cell c1 (by simp; omega), hk2.cell c3 (by simp; omega)⟩) ((go_at_call 42; refine (rread_some rr db bb D i pr Bf1 p (Bf1.length - p) (Bf1.length - p) m w1.drew prr pD pbb hi hdl (by omega) (by omega) (by omega) HM.out).mono ?_; rintro e w2 ⟨rfl, hr2, hb2, hk2⟩))
  have hl : ((D.drop i).take m).length = m := take_len _ _ _ m1
  have h2 : Rd w2 rr br bb aE aF da D (i + m) 0 p (splice Bf1 p ((D.drop i).take m)) .nilIface := by
    refine h1.turn ((Keeps.refl _ _).drew.trans (hk2.mono (by simp))) ⟨_, by rw [hda]; exact hr2⟩ ⟨lb', ls', hk2.row pbr (by simp; omega)⟩ hb2 (splice_len (by omega)) (fun x hx => ?_)
    rcases splice_mem hx with hx | hx
    · exact h1.hB8 x hx
    · exact h1.hD8 x (List.mem_of_mem_drop (List.mem_of_mem_take hx))
  have k2 : Keeps [rr, br, bb] w w2 := k1.drew.trans (hk2.mono (by simp))
  have e1 : (splice Bf1 p ((D.drop i).take m)).length = Bf1.length := splice_len (by omega)
  have HR := hd (rem_read D i p m Bf1 (by omega) m1)
  have HE := hd e1
  clear c0 c1 c2 c3 c4 c5 c6 h1 k1 prr pbb pD pbr hs hme hb2 hr2 hk2 hl e1 HM
  generalize splice Bf1 p ((D.drop i).take m) = Bf1' at *
  obtain ⟨c0, c1, c2, c3, c4, ⟨lb, c5⟩, ⟨ls, c6⟩⟩ := h2.cells
  have f3 := h2.free 3
  go_wp2
  refine bodyPost_ret (results_none rfl _ _ _) rfl ?_
  have e2 := HE.out
  exact ⟨rfl, i + m, p + m, Bf1', _, h2.setW (p + m), HR.out.trans HR0.out, by omega, e2.trans HE0.out, by omega, by have := HPp.out; omega, Or.inl ⟨rfl, by omega⟩, k2.setCell (by simp) _⟩


theorem fill_any {rr br bb : Nat} {aE aF : Addr} {da : Option Addr} {D : List Int} {i r wp : Nat} {Bf : List Int} (w : World) (h : Rd w rr br bb aE aF da D i r wp Bf .nilIface) (hr : r ≤ wp) (hw : wp ≤ Bf.length) (hf : wp - r < Bf.length) (hi : i ≤ D.length) :
    Calls Tryd.prog 23 #[.pointer (some ⟨br, 0, none⟩)] w fun e w' => e = .returned (.tuple #[]) ∧ Filled w w' rr br bb aE aF da D i (wp - r) (rem D i r wp Bf) Bf.length := by
  by_cases h0 : 0 < r
  · rcases Nat.lt_or_ge i D.length with h1 | h1
    · exact fillr_some w h h0 hr hw h1
    · obtain rfl : i = D.length := by omega
      exact fillr_eof w h h0 hr hw
  · obtain rfl : r = 0 := by omega
    rcases Nat.lt_or_ge i D.length with h1 | h1
    · exact fill0_some w h (by omega) h1
    · obtain rfl : i = D.length := by omega
      exact fill0_eof w h (by omega)

end Go.Proofs.Qxb6612240aDoor
