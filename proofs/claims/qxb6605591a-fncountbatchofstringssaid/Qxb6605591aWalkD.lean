import Derived.Test.Qxb6605591aWalkC
namespace Go.Proofs.Qxb6605591a
open Go.RowKit

theorem Lies.below {w w' : World} {b : Nat} {zs : List Int} (h : Lies w b zs) (hb : Below w.heap.size w w') : Lies w' b zs :=
  ⟨fun i hi => cell_later hb (h.1 i hi), h.2⟩

theorem space_to (bw b : Nat) (zs : List Int) (cap : Nat) (i0 : Int) (k m : Nat) (w : World) (hi : i0 = k) (hk : k ≤ zs.length) (hm : Hid (k + Pl.lead (zs.drop k) = m)) (h : Lies w b zs) (hw : w.cell? ⟨bw, 0, none⟩ = some (.slice (some ⟨b, 0, none⟩) zs.length cap)) :
    Calls Try.prog 25 #[.pointer (some ⟨bw, 0, none⟩), .int .i64 i0] w fun e w' => e = .returned (.int .i64 m) ∧ w' = w := by
  refine (space_any bw b zs cap i0 w h hw (by omega) (by omega)).mono ?_
  rintro e w' ⟨rfl, rfl⟩
  subst hi
  rw [Int.toNat_natCast, hm.out]
  exact ⟨rfl, rfl⟩
theorem fns_to (b : Nat) (zs : List Int) (cap : Nat) (i0 : Int) (k m : Nat) (w : World) (hi : i0 = k) (hk : k ≤ zs.length) (hm : Hid (k + Pl.lead (zs.drop k) = m)) (h : Lies w b zs) :
    Calls Try.prog 27 #[.slice (some ⟨b, 0, none⟩) zs.length cap, .int .i64 i0] w fun e w' => e = .returned (.int .i64 m) ∧ w' = w := by
  refine (fns_any b zs cap i0 w h (by omega) (by omega)).mono ?_
  rintro e w' ⟨rfl, rfl⟩
  subst hi
  rw [Int.toNat_natCast, hm.out]
  exact ⟨rfl, rfl⟩
theorem cq_to (b : Nat) (zs : List Int) (cap : Nat) (i0 : Int) (k m : Nat) (w : World) (hi : i0 = k) (hk : k < zs.length) (hm : Hid (k + 1 + Pl.cq (zs.drop (k + 1)) = m)) (h : Lies w b zs) :
    Calls Try.prog 26 #[.slice (some ⟨b, 0, none⟩) zs.length cap, .int .i64 i0] w fun e w' => e = .returned (.int .i64 m) ∧ w' = w := by
  refine (cq_any b zs cap i0 w h (by omega) (by omega)).mono ?_
  rintro e w' ⟨rfl, rfl⟩
  subst hi
  rw [Int.toNat_natCast, hm.out]
  exact ⟨rfl, rfl⟩
theorem tc_to (b : Nat) (zs : List Int) (cap : Nat) (i0 : Int) (k : Nat) (T : Int) (w : World) (hi : i0 = k) (hk : k ≤ zs.length) (hm : Hid (Pl.tc false false 0 (zs.drop k) = T)) (h : Lies w b zs) :
    Calls Try.prog 28 #[.slice (some ⟨b, 0, none⟩) zs.length cap, .int .i64 i0] w fun e w' => e = .returned (.int .i64 T) ∧ w' = w := by
  refine (tc_any b zs cap i0 w h (by omega) (by omega)).mono ?_
  rintro e w' ⟨rfl, rfl⟩
  subst hi
  rw [Int.toNat_natCast, hm.out]
  exact ⟨rfl, rfl⟩

theorem tc_skip {d : Int} {l : List Int} {i m : Nat} {c : Int} (h : i < l.length) (e : c = l.getD i 0) (h1 : c = 34) (hm : i + 1 + Pl.cq (l.drop (i + 1)) = m) : Pl.tc false false d (l.drop i) = Pl.tc false false d (l.drop (m + 1)) := by
  rw [tc_q h e h1, Pl.tc_string, List.drop_drop]
  congr 2
  omega

theorem clamp_out (most T nn x : Int) (h1 : 1 ≤ nn) (h2 : nn ≤ most ∨ nn = 1) (hx : 0 ≤ x) (hT : nn + x = T) (h : x = 0 ∨ most ≤ nn) : Pl.clampT most T = nn := by
  unfold Pl.clampT
  split <;> split <;> omega

theorem count_zero {zs : List Int} {most : Int} (h : Pl.lead zs = zs.length) : Pl.countVal zs most = 0 := by
  unfold Pl.countVal; rw [if_pos h]
theorem count_one {zs : List Int} {most : Int} (h : ¬ Pl.lead zs = zs.length) (h1 : ¬ zs.getD (Pl.lead zs) 0 = 91) : Pl.countVal zs most = 1 := by
  unfold Pl.countVal; rw [if_neg h, if_pos h1]
theorem count_none {zs : List Int} {most : Int} {q : Nat} (h : ¬ Pl.lead zs = zs.length) (h1 : zs.getD (Pl.lead zs) 0 = 91) (hq : Pl.lead zs + 1 + Pl.lead (zs.drop (Pl.lead zs + 1)) = q) (h2 : q = zs.length ∨ zs.getD q 0 = 93) : Pl.countVal zs most = 0 := by
  unfold Pl.countVal; rw [if_neg h, if_neg (by rw [h1]; simp), hq, if_pos h2]
theorem count_some {zs : List Int} {most : Int} {q : Nat} (h : ¬ Pl.lead zs = zs.length) (h1 : zs.getD (Pl.lead zs) 0 = 91) (hq : Pl.lead zs + 1 + Pl.lead (zs.drop (Pl.lead zs + 1)) = q) (h2 : ¬ (q = zs.length ∨ zs.getD q 0 = 93)) : Pl.countVal zs most = Pl.clampT most (1 + Pl.tc false false 0 (zs.drop (Pl.lead zs + 1))) := by
  unfold Pl.countVal; rw [if_neg h, if_neg (by rw [h1]; simp), hq, if_neg h2]
theorem tc_from {zs : List Int} {p q : Nat} (hq : p + 1 + Pl.lead (zs.drop (p + 1)) = q) : Pl.tc false false 0 (zs.drop q) = Pl.tc false false 0 (zs.drop (p + 1)) := by
  rw [← Pl.tc_lead 0 (zs.drop (p + 1)), List.drop_drop, hq]

set_option maxHeartbeats 2000000 in
theorem count_any (b : Nat) (zs : List Int) (cap : Nat) (most : Int) (w : World) (h : Lies w b zs) (hm1 : -9223372036854775808 ≤ most) (hm2 : most ≤ 9223372036854775807) :
    Calls Try.prog 11 #[.slice (some ⟨b, 0, none⟩) zs.length cap, .int .i64 most] w fun e w' => e = .returned (.int .i64 (Pl.countVal zs most)) ∧ Below w.heap.size w w' := by
  have hn := h.2.2
  have hp := Pl.lead_le zs
  generalize hP : Pl.lead zs = p at hp
  have HP : Hid (0 + Pl.lead (zs.drop 0) = p) := by rw [List.drop_zero, hP]; exact Nat.zero_add _
  have hl1 : ∀ o, Lies (w.alloc o) b zs := fun o => h.below ((Below.refl _ _).alloc (Nat.le_refl _) o)
  by_cases e1 : p = zs.length
  · have HV := hd (count_zero (most := most) (hP.trans e1))
    clear hP
    have e1' : ((p : Int) == (zs.length : Int)) = true := by simp; omega
    generalize Pl.countVal zs most = V at *
    have HE := hd e1
    clear e1
    go_enter Try.func11, Try.ntmps11
    go_wp2_with (go_at_call 25; refine (space_to _ b zs cap _ 0 p _ (by omega) (by omega) HP (hl1 _) (by simp)).mono ?_; rintro e w' ⟨rfl, rfl⟩)
    go_ret
    exact ⟨ret_int (by rw [HV.out]), (Below.refl _ _).alloc (Nat.le_refl _) _⟩
  have ep : ((p : Int) == (zs.length : Int)) = false := by simp; omega
  have hlp : p < zs.length := by omega
  obtain ⟨c, HC, c0, c1, hcell⟩ := h.at p hlp
  have hcell1 : ∀ o, (w.alloc o).cell? ⟨b, p, none⟩ = some (.int .u8 c) := fun o => cell_later ((Below.refl _ _).alloc (Nat.le_refl _) o) hcell
  by_cases e2 : c = 91
  case neg =>
    have HV := hd (count_one (most := most) (by rw [hP]; exact e1) (by rw [hP, ← HC.out]; exact e2))
    clear hP
    have b91 : (c != 91) = true := by rw [bne_iff_ne]; exact e2
    generalize Pl.countVal zs most = V at *
    clear e1 e2
    go_enter Try.func11, Try.ntmps11
    go_wp2_with (go_at_call 25; refine (space_to _ b zs cap _ 0 p _ (by omega) (by omega) HP (hl1 _) (by simp)).mono ?_; rintro e w' ⟨rfl, rfl⟩)
    go_ret
    exact ⟨ret_int (by rw [HV.out]), (Below.refl _ _).alloc (Nat.le_refl _) _⟩
  have hq := Pl.lead_bound zs (p + 1) (by omega)
  generalize hQ : p + 1 + Pl.lead (zs.drop (p + 1)) = q at hq
  have HQ := hd hQ
  by_cases e3 : q = zs.length ∨ zs.getD q 0 = 93
  case pos =>
    have HV := hd (count_none (most := most) (q := q) (by rw [hP]; exact e1) (by rw [hP, ← HC.out]; exact e2) (by rw [hP]; exact hQ) e3)
    clear hP hQ e1
    subst e2
    generalize Pl.countVal zs most = V at *
    by_cases e4 : q = zs.length
    · have eq : ((q : Int) == (zs.length : Int)) = true := by simp; omega
      clear e3 e4
      go_enter Try.func11, Try.ntmps11
      go_wp2_with fail
      refine (space_to _ b zs cap _ 0 p _ (by omega) (by omega) HP (hl1 _) (by simp)).mono ?_
      rintro e w' ⟨rfl, rfl⟩
      go_wp2_with fail
      refine (space_to _ b zs cap _ (p + 1) q _ (by omega) (by omega) HQ (hl1 _) (by simp)).mono ?_
      rintro e w' ⟨rfl, rfl⟩
      go_wp2
      go_ret
      exact ⟨ret_int (by rw [HV.out]), (Below.refl _ _).alloc (Nat.le_refl _) _⟩
    · have eq : ((q : Int) == (zs.length : Int)) = false := by simp; omega
      have e5 : zs.getD q 0 = 93 := e3.resolve_left e4
      obtain ⟨c', HC', c0', c1', hcell'⟩ := h.at q (by omega)
      obtain rfl : c' = 93 := HC'.out.trans e5
      have hcell2 : ∀ o, (w.alloc o).cell? ⟨b, q, none⟩ = some (.int .u8 93) := fun o => cell_later ((Below.refl _ _).alloc (Nat.le_refl _) o) hcell'
      have hlq : q < zs.length := by omega
      clear e3 e4 e5 HC'
      go_enter Try.func11, Try.ntmps11
      go_wp2_with fail
      refine (space_to _ b zs cap _ 0 p _ (by omega) (by omega) HP (hl1 _) (by simp)).mono ?_
      rintro e w' ⟨rfl, rfl⟩
      go_wp2_with fail
      refine (space_to _ b zs cap _ (p + 1) q _ (by omega) (by omega) HQ (hl1 _) (by simp)).mono ?_
      rintro e w' ⟨rfl, rfl⟩
      go_wp2
      go_ret
      exact ⟨ret_int (by rw [HV.out]), (Below.refl _ _).alloc (Nat.le_refl _) _⟩
  have HV := hd (count_some (most := most) (q := q) (by rw [hP]; exact e1) (by rw [hP, ← HC.out]; exact e2) (by rw [hP]; exact hQ) e3)
  have HV2 : Hid (Pl.countVal zs most = Pl.clampT most (1 + Pl.tc false false 0 (zs.drop q))) := by rw [tc_from hQ, ← hP]; exact HV
  clear HV hP hQ e1
  subst e2
  generalize Pl.countVal zs most = V at *
  generalize hT : 1 + Pl.tc false false 0 (zs.drop q) = T at *
  have HT := hd hT
  clear hT
  have e4 : ¬ q = zs.length := fun h => e3 (Or.inl h)
  have e5 : ¬ zs.getD q 0 = 93 := fun h => e3 (Or.inr h)
  have eq : ((q : Int) == (zs.length : Int)) = false := by simp; omega
  obtain ⟨c', HC', c0', c1', hcell'⟩ := h.at q (by omega)
  have eq93 : (c' == 93) = false := ne_beq (by rw [HC'.out]; exact e5)
  have hcell2 : ∀ o, (w.alloc o).cell? ⟨b, q, none⟩ = some (.int .u8 c') := fun o => cell_later ((Below.refl _ _).alloc (Nat.le_refl _) o) hcell'
  have hlq : q < zs.length := by omega
  clear e3 e4 e5 HC'
  go_enter Try.func11, Try.ntmps11
  go_wp2_with fail
  refine (space_to _ b zs cap _ 0 p _ (by omega) (by omega) HP (hl1 _) (by simp)).mono ?_
  rintro e w' ⟨rfl, rfl⟩
  go_wp2_with fail
  refine (space_to _ b zs cap _ (p + 1) q _ (by omega) (by omega) HQ (hl1 _) (by simp)).mono ?_
  rintro e w' ⟨rfl, rfl⟩
  go_wp2
  clear hcell1 hcell2 hcell' hcell HC HP HQ
  go_loop [6, 7, 8] (fun i n d => ∃ (k : Nat) (nn dd : Int), k ≤ zs.length + 1 ∧ i = .int .i64 k ∧ n = .int .i64 nn ∧ d = .int .i64 dd ∧ -(k : Int) ≤ dd ∧ dd ≤ (k : Int) ∧ 1 ≤ nn ∧ nn ≤ (k : Int) + 1 ∧ Hid (nn ≤ most ∨ nn = 1) ∧ Hid (nn + Pl.tc false false dd (zs.drop k) = T)) (fun i _ _ => zs.length + 1 - (intOf i).toNat)
  case atStart => exact ⟨q, 1, 0, by omega, rfl, rfl, rfl, by omega, by omega, by omega, by omega, Or.inr rfl, HT⟩
  case round =>
    obtain ⟨k, nn, dd, hk, rfl, rfl, rfl, d1, d2, n1, n2, HM, HK⟩ := hrel
    by_cases hlt : k < zs.length
    case neg =>
      go_wp2
      go_ret
      refine ⟨ret_int ?_, (Below.refl _ _).alloc (Nat.le_refl _) _⟩
      rw [HV2.out]
      have h0 := Pl.tc_end false false dd zs k (by omega)
      exact (clamp_out most T nn _ n1 HM.out (by omega) HK.out (Or.inl h0)).symm
    by_cases hmo : nn < most
    case neg =>
      go_wp2
      go_ret
      refine ⟨ret_int ?_, (Below.refl _ _).alloc (Nat.le_refl _) _⟩
      rw [HV2.out]
      exact (clamp_out most T nn _ n1 HM.out (Pl.tc_nonneg false false dd (zs.drop k)).1 HK.out (Or.inr (by omega))).symm
    clear HM
    obtain ⟨c, HC, c0, c1, hcell⟩ := h.at k hlt
    have hcell1 : ∀ o, (w.alloc o).cell? ⟨b, k, none⟩ = some (.int .u8 c) := fun o => cell_later ((Below.refl _ _).alloc (Nat.le_refl _) o) hcell
    clear hcell
    by_cases h34 : c = 34
    · have hmb := Pl.cq_bound zs (k + 1) (by omega)
      generalize hM : k + 1 + Pl.cq (zs.drop (k + 1)) = m at hmb
      have hkm : k < m := by omega
      have HN := hd (tc_skip (d := dd) hlt HC.out h34 hM)
      have HMm := hd hM
      clear HC hM
      subst h34
      go_wp2_with (go_at_call 26; refine (cq_to b zs cap _ k m _ (by omega) (by omega) HMm (hl1 _)).mono ?_; rintro e w' ⟨rfl, rfl⟩)
      go_round
      case rel => exact ⟨m + 1, nn, dd, by omega, by go_num, rfl, rfl, by omega, by omega, by omega, by omega, Or.inl (by omega), by rw [← HN.out]; exact HK⟩
      case measure => simp [intOf]; omega
    have b34 := ne_beq h34
    by_cases h123 : c = 123
    · have HN := hd (tc_o (x := false) (d := dd) hlt HC.out (Or.inl h123))
      clear HC h34 b34
      subst h123
      go_wp2
      go_round
      case rel => exact ⟨k + 1, nn, dd + 1, by omega, by go_num, rfl, rfl, by omega, by omega, by omega, by omega, Or.inl (by omega), by rw [← HN.out]; exact HK⟩
      case measure => simp [intOf]; omega
    have b123 := ne_beq h123
    by_cases h91 : c = 91
    · have HN := hd (tc_o (x := false) (d := dd) hlt HC.out (Or.inr h91))
      clear HC h34 b34 h123 b123
      subst h91
      go_wp2
      go_round
      case rel => exact ⟨k + 1, nn, dd + 1, by omega, by go_num, rfl, rfl, by omega, by omega, by omega, by omega, Or.inl (by omega), by rw [← HN.out]; exact HK⟩
      case measure => simp [intOf]; omega
    have b91 := ne_beq h91
    by_cases h125 : c = 125
    · have HN := hd (tc_c (x := false) (d := dd) hlt HC.out (Or.inl h125))
      clear HC h34 b34 h123 b123 h91 b91
      subst h125
      go_wp2
      go_round
      case rel => exact ⟨k + 1, nn, dd - 1, by omega, by go_num, rfl, rfl, by omega, by omega, by omega, by omega, Or.inl (by omega), by rw [← HN.out]; exact HK⟩
      case measure => simp [intOf]; omega
    have b125 := ne_beq h125
    by_cases h93 : c = 93
    · have HN := hd (tc_c (x := false) (d := dd) hlt HC.out (Or.inr h93))
      clear HC h34 b34 h123 b123 h91 b91 h125 b125
      subst h93
      go_wp2
      go_round
      case rel => exact ⟨k + 1, nn, dd - 1, by omega, by go_num, rfl, rfl, by omega, by omega, by omega, by omega, Or.inl (by omega), by rw [← HN.out]; exact HK⟩
      case measure => simp [intOf]; omega
    have b93 := ne_beq h93
    by_cases h44 : c = 44
    · by_cases hd0 : dd = 0
      · have HN := hd (tc_k (x := false) (d := dd) hlt HC.out h44 hd0)
        clear HC h34 b34 h123 b123 h91 b91 h125 b125 h93 b93
        subst h44 hd0
        go_wp2
        go_round
        case rel => exact ⟨k + 1, nn + 1, 0, by omega, by go_num, rfl, rfl, by omega, by omega, by omega, by omega, Or.inl (by omega), by have := HK.out; rw [HN.out] at this; apply hd; omega⟩
        case measure => simp [intOf]; omega
      · have HN := hd (tc_n (x := false) (d := dd) hlt HC.out h34 h123 h91 h125 h93 (fun h => hd0 h.2))
        have bd0 := ne_beq hd0
        clear HC h34 b34 h123 b123 h91 b91 h125 b125 h93 b93
        subst h44
        go_wp2
        go_round
        case rel => exact ⟨k + 1, nn, dd, by omega, by go_num, rfl, rfl, by omega, by omega, by omega, by omega, Or.inl (by omega), by rw [← HN.out]; exact HK⟩
        case measure => simp [intOf]; omega
    · have HN := hd (tc_n (x := false) (d := dd) hlt HC.out h34 h123 h91 h125 h93 (fun h => h44 h.1))
      have b44 := ne_beq h44
      clear HC
      go_wp2
      go_round
      case rel => exact ⟨k + 1, nn, dd, by omega, by go_num, rfl, rfl, by omega, by omega, by omega, by omega, Or.inl (by omega), by rw [← HN.out]; exact HK⟩
      case measure => simp [intOf]; omega

end Go.Proofs.Qxb6605591a
