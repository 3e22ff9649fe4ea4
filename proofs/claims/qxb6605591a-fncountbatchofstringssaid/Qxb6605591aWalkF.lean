import Derived.Test.Qxb6605591aWalkE
import Derived.LoopN
namespace Go.Proofs.Qxb6605591a
open Go.RowKit

theorem count_end {zs : List Int} {most T : Int} {q : Nat} (h : ¬ Pl.lead zs = zs.length) (h1 : zs.getD (Pl.lead zs) 0 = 91) (hq : Pl.lead zs + 1 + Pl.lead (zs.drop (Pl.lead zs + 1)) = q) (h2 : ¬ (q = zs.length ∨ zs.getD q 0 = 93)) (hT : Pl.tc false false 0 (zs.drop (Pl.lead zs + 1)) = T) : Pl.countVal zs most = Pl.clampT most (1 + T) := by
  rw [count_some h h1 hq h2, hT]
theorem clamp1 {most T : Int} (h : most < T) (h1 : most < 1) : Pl.clampT most T = 1 := by unfold Pl.clampT; rw [if_pos h, if_pos h1]
theorem clamp2 {most T : Int} (h : most < T) (h1 : ¬ most < 1) : Pl.clampT most T = most := by unfold Pl.clampT; rw [if_pos h, if_neg h1]
theorem clamp3 {most T : Int} (h : ¬ most < T) (h1 : ¬ T < 1) : Pl.clampT most T = T := by unfold Pl.clampT; rw [if_neg h, if_neg h1]

set_option maxHeartbeats 2000000 in
theorem model_any (b : Nat) (zs : List Int) (cap : Nat) (most : Int) (w : World) (h : Lies w b zs) :
    Calls Try.prog 12 #[.slice (some ⟨b, 0, none⟩) zs.length cap, .int .i64 most] w fun e w' => e = .returned (.int .i64 (Pl.countVal zs most)) ∧ w' = w := by
  have hn := h.2.2
  have hp := Pl.lead_le zs
  generalize hP : Pl.lead zs = p at hp
  have HP : Hid (0 + Pl.lead (zs.drop 0) = p) := by rw [List.drop_zero, hP]; exact Nat.zero_add _
  by_cases e1 : p = zs.length
  · have HV := hd (count_zero (most := most) (hP.trans e1))
    clear hP
    have e1' : ((p : Int) == (zs.length : Int)) = true := by simp; omega
    generalize Pl.countVal zs most = V at *
    clear e1
    go_enter Try.func12, Try.ntmps12
    go_wp2_with (go_at_call 27; refine (fns_to b zs cap _ 0 p _ (by omega) (by omega) HP h).mono ?_; rintro e w' ⟨rfl, rfl⟩)
    go_ret
    exact ⟨ret_int (by rw [HV.out]), rfl⟩
  have ep : ((p : Int) == (zs.length : Int)) = false := by simp; omega
  have hlp : p < zs.length := by omega
  obtain ⟨c, HC, c0, c1, hcell⟩ := h.at p hlp
  by_cases e2 : c = 91
  case neg =>
    have HV := hd (count_one (most := most) (by rw [hP]; exact e1) (by rw [hP, ← HC.out]; exact e2))
    clear hP
    have b91 : (c != 91) = true := by rw [bne_iff_ne]; exact e2
    generalize Pl.countVal zs most = V at *
    clear e1 e2
    go_enter Try.func12, Try.ntmps12
    go_wp2_with (go_at_call 27; refine (fns_to b zs cap _ 0 p _ (by omega) (by omega) HP h).mono ?_; rintro e w' ⟨rfl, rfl⟩)
    go_ret
    exact ⟨ret_int (by rw [HV.out]), rfl⟩
  have hq := Pl.lead_bound zs (p + 1) (by omega)
  generalize hQ : p + 1 + Pl.lead (zs.drop (p + 1)) = q at hq
  have HQ := hd hQ
  by_cases e3 : q = zs.length ∨ zs.getD q 0 = 93
  case pos =>
    have HV := hd (count_none (most := most) (q := q) (by rw [hP]; exact e1) (by rw [hP, ← HC.out]; exact e2) (by rw [hP]; exact hQ) e3)
    clear hP hQ e1
    subst e2
    generalize Pl.countVal zs most = V at *
    by_cases e4 : q = zs.length
    · have eq : ((q : Int) == (zs.length : Int)) = true := by simp; omega
      clear e3 e4
      go_enter Try.func12, Try.ntmps12
      go_wp2_with fail
      refine (fns_to b zs cap _ 0 p _ (by omega) (by omega) HP h).mono ?_
      rintro e w' ⟨rfl, rfl⟩
      go_wp2_with fail
      refine (fns_to b zs cap _ (p + 1) q _ (by omega) (by omega) HQ h).mono ?_
      rintro e w' ⟨rfl, rfl⟩
      go_wp2
      go_ret
      exact ⟨ret_int (by rw [HV.out]), rfl⟩
    · have eq : ((q : Int) == (zs.length : Int)) = false := by simp; omega
      have e5 : zs.getD q 0 = 93 := e3.resolve_left e4
      obtain ⟨c', HC', c0', c1', hcell'⟩ := h.at q (by omega)
      obtain rfl : c' = 93 := HC'.out.trans e5
      have hlq : q < zs.length := by omega
      clear e3 e4 e5 HC'
      go_enter Try.func12, Try.ntmps12
      go_wp2_with fail
      refine (fns_to b zs cap _ 0 p _ (by omega) (by omega) HP h).mono ?_
      rintro e w' ⟨rfl, rfl⟩
      go_wp2_with fail
      refine (fns_to b zs cap _ (p + 1) q _ (by omega) (by omega) HQ h).mono ?_
      rintro e w' ⟨rfl, rfl⟩
      go_wp2
      go_ret
      exact ⟨ret_int (by rw [HV.out]), rfl⟩
  obtain ⟨T, hT⟩ : ∃ T, Pl.tc false false 0 (zs.drop (p + 1)) = T := ⟨_, rfl⟩
  have hTb := Pl.tc_nonneg false false 0 (zs.drop (p + 1))
  rw [hT] at hTb
  have hT1 : T ≤ zs.length := by have := hTb.2; simp at this; omega
  have hT0 := hTb.1
  clear hTb
  have HV := hd (count_end (most := most) (q := q) (T := T) (by rw [hP]; exact e1) (by rw [hP, ← HC.out]; exact e2) (by rw [hP]; exact hQ) e3 (by rw [hP]; exact hT))
  have HT := hd hT
  clear hP hQ e1 hT
  subst e2
  generalize Pl.countVal zs most = V at *
  have e4 : ¬ q = zs.length := fun h => e3 (Or.inl h)
  have e5 : ¬ zs.getD q 0 = 93 := fun h => e3 (Or.inr h)
  have eq : ((q : Int) == (zs.length : Int)) = false := by simp; omega
  obtain ⟨c', HC', c0', c1', hcell'⟩ := h.at q (by omega)
  have eq93 : (c' == 93) = false := ne_beq (by rw [HC'.out]; exact e5)
  have hlq : q < zs.length := by omega
  clear e3 e4 e5 HC'
  by_cases m1 : most < 1 + T
  · by_cases m2 : most < 1
    · have HW := hd (HV.out.trans (clamp1 m1 m2))
      clear HV
      go_enter Try.func12, Try.ntmps12
      go_wp2_with fail
      refine (fns_to b zs cap _ 0 p _ (by omega) (by omega) HP h).mono ?_
      rintro e w' ⟨rfl, rfl⟩
      go_wp2_with fail
      refine (fns_to b zs cap _ (p + 1) q _ (by omega) (by omega) HQ h).mono ?_
      rintro e w' ⟨rfl, rfl⟩
      go_wp2_with (go_at_call 28; refine (tc_to b zs cap _ (p + 1) T _ (by omega) (by omega) HT h).mono ?_; rintro e w' ⟨rfl, rfl⟩)
      go_ret
      exact ⟨ret_int (by rw [HW.out]), rfl⟩
    · have HW := hd (HV.out.trans (clamp2 m1 m2))
      clear HV
      go_enter Try.func12, Try.ntmps12
      go_wp2_with fail
      refine (fns_to b zs cap _ 0 p _ (by omega) (by omega) HP h).mono ?_
      rintro e w' ⟨rfl, rfl⟩
      go_wp2_with fail
      refine (fns_to b zs cap _ (p + 1) q _ (by omega) (by omega) HQ h).mono ?_
      rintro e w' ⟨rfl, rfl⟩
      go_wp2_with (go_at_call 28; refine (tc_to b zs cap _ (p + 1) T _ (by omega) (by omega) HT h).mono ?_; rintro e w' ⟨rfl, rfl⟩)
      go_ret
      exact ⟨ret_int (by rw [HW.out]), rfl⟩
  · have HW := hd (HV.out.trans (clamp3 m1 (by omega)))
    clear HV
    go_enter Try.func12, Try.ntmps12
    go_wp2_with fail
    refine (fns_to b zs cap _ 0 p _ (by omega) (by omega) HP h).mono ?_
    rintro e w' ⟨rfl, rfl⟩
    go_wp2_with fail
    refine (fns_to b zs cap _ (p + 1) q _ (by omega) (by omega) HQ h).mono ?_
    rintro e w' ⟨rfl, rfl⟩
    go_wp2_with (go_at_call 28; refine (tc_to b zs cap _ (p + 1) T _ (by omega) (by omega) HT h).mono ?_; rintro e w' ⟨rfl, rfl⟩)
    go_ret
    exact ⟨ret_int (by rw [HW.out]), rfl⟩

set_option maxHeartbeats 400000 in
theorem space_nil (bw : Nat) (w : World) (hw : w.cell? ⟨bw, 0, none⟩ = some (.slice none 0 0)) :
    Calls Try.prog 25 #[.pointer (some ⟨bw, 0, none⟩), .int .i64 0] w fun e w' => e = .returned (.int .i64 0) ∧ w' = w := by
  go_enter Try.func25, Try.ntmps25
  go_wp2
  refine wp_loop_rounds 1 ?_
  rw [rounds_succ]
  go_wp2
  go_ret
  exact ⟨rfl, rfl⟩

set_option maxHeartbeats 400000 in
theorem count_nil (most : Int) (w : World) :
    Calls Try.prog 11 #[.slice none 0 0, .int .i64 most] w fun e w' => e = .returned (.int .i64 0) ∧ Below w.heap.size w w' := by
  go_enter Try.func11, Try.ntmps11
  go_wp2_with (go_at_call 25; refine (space_nil _ _ (by simp)).mono ?_; rintro e w' ⟨rfl, rfl⟩)
  go_ret
  exact ⟨rfl, (Below.refl _ _).alloc (Nat.le_refl _) _⟩

set_option maxHeartbeats 400000 in
theorem fns_nil (w : World) :
    Calls Try.prog 27 #[.slice none 0 0, .int .i64 0] w fun e w' => e = .returned (.int .i64 0) ∧ w' = w := by
  go_enter Try.func27, Try.ntmps27
  go_wp2
  refine wp_loop_rounds 1 ?_
  rw [rounds_succ]
  go_wp2
  go_ret
  exact ⟨rfl, rfl⟩

set_option maxHeartbeats 400000 in
theorem model_nil (most : Int) (w : World) :
    Calls Try.prog 12 #[.slice none 0 0, .int .i64 most] w fun e w' => e = .returned (.int .i64 0) ∧ w' = w := by
  go_enter Try.func12, Try.ntmps12
  go_wp2_with (go_at_call 27; refine (fns_nil _).mono ?_; rintro e w' ⟨rfl, rfl⟩)
  go_ret
  exact ⟨rfl, rfl⟩

set_option maxHeartbeats 400000 in
theorem bytes9 (a : Option Addr) (len cap : Nat) (most : Int) (w : World) (hl : len ≤ 9223372036854775807) :
    Calls Try.prog 9 #[.slice a len cap, .int .i64 most] w fun e w' => e = .returned (.bool (decide ((len : Int) ≤ 1048576))) ∧ w' = w := by
  by_cases h : (len : Int) ≤ 1048576
  · rw [decide_eq_true h]
    go_enter Try.func9, Try.ntmps9
    go_wp2
    go_ret
    exact ⟨rfl, rfl⟩
  · rw [decide_eq_false h]
    go_enter Try.func9, Try.ntmps9
    go_wp2
    go_ret
    exact ⟨rfl, rfl⟩

end Go.Proofs.Qxb6605591a
