import Derived.Test.Qxb6605591aWalkJ
namespace Go.Proofs.Qxb6605591a
open Go.RowKit

theorem want0 (most : Int) : Pl.want 0 most = 0 := rfl
theorem want1 {k : Nat} {most : Int} (h0 : 0 < k) (h : most < k) (h1 : most < 1) : Pl.want k most = 1 := by unfold Pl.want; rw [if_pos h0, clamp1 h h1]
theorem want2 {k : Nat} {most : Int} (h0 : 0 < k) (h : most < k) (h1 : ¬ most < 1) : Pl.want k most = most := by unfold Pl.want; rw [if_pos h0, clamp2 h h1]
theorem want3 {k : Nat} {most : Int} (h0 : 0 < k) (h : ¬ most < k) : Pl.want k most = k := by unfold Pl.want; rw [if_pos h0, clamp3 h (by omega)]

theorem count_batch_len (ss : List ByteArray) (most : Int) : Pl.countVal ((91 :: Pl.batchT (SI ss)) ++ [93]) most = Pl.want ss.length most := by
  have := Pl.count_batch (SI ss) most (SI_nonneg ss)
  rw [SI_len] at this
  exact this

set_option maxHeartbeats 2000000 in
theorem batch_some (b off : Nat) (ss : List ByteArray) (cap : Nat) (most : Int) (w : World) (h : Strs w b off ss) (hp : 0 < ss.length) (hm1 : -9223372036854775808 ≤ most) (hm2 : most ≤ 9223372036854775807) :
    Calls Try.prog 4 #[.slice (some ⟨b, off, none⟩) ss.length cap, .int .i64 most] w fun e w' => e = .returned (.bool true) ∧ Below w.heap.size w w' := by
  have hn := h.2.2
  by_cases hlen : (ss.length : Int) ≤ 1048576
  case neg =>
    go_enter Try.func4, Try.ntmps4
    go_wp2_with fail
    refine (bytes13 b off ss cap most _ h).mono ?_
    rintro e w' ⟨⟨r, rfl⟩, rfl⟩
    cases r
    all_goals
      go_wp2
      go_ret
      exact ⟨rfl, Below.refl _ _⟩
  go_enter Try.func4, Try.ntmps4
  go_wp2_with fail
  refine (bytes13 b off ss cap most _ h).mono ?_
  rintro e w' ⟨⟨r, rfl⟩, hw⟩
  subst hw
  cases r
  case false =>
    go_wp2
    go_ret
    exact ⟨rfl, Below.refl _ _⟩
  go_wp2
  go_loop [5, 6] (fun t i => ∃ (k : Nat) (T : Int), k ≤ ss.length ∧ i = .int .i64 k ∧ t = .int .i64 T ∧ 0 ≤ T ∧ T ≤ 1048576 ∧ Hid ((sumT ((SI ss).take k) : Int) = T)) (fun _ i => ss.length - (intOf i).toNat)
  case atStart => exact ⟨0, 0, Nat.zero_le _, rfl, rfl, by omega, by omega, rfl⟩
  case round =>
    obtain ⟨k, T, hk, rfl, rfl, t0, t1, HT⟩ := hrel
    by_cases hlt : k < ss.length
    case pos =>
      obtain ⟨s, HS, s1, hcell⟩ := h.at k hlt
      by_cases hb1 : (s.size : Int) ≤ 1048576
      case neg =>
        go_wp2
        go_ret
        exact ⟨rfl, Below.refl _ _⟩
      by_cases hb2 : T + ((s.size : Int) + 16) ≤ 1048576
      · go_wp2
        go_round
        case rel => exact ⟨k + 1, T + (s.size + 16), by omega, by go_num, rfl, by omega, by omega, by have := sum_succ hlt HS.out; have := HT.out; apply hd; omega⟩
        case measure => simp [intOf]; omega
      · go_wp2
        go_ret
        exact ⟨rfl, Below.refl _ _⟩
    obtain rfl : k = ss.length := by omega
    obtain ⟨T, rfl⟩ := Int.eq_ofNat_of_zero_le t0
    have HT2 : Hid (sumT (SI ss) = T) := by have := HT.out; rw [List.take_of_length_le (by rw [SI_len]; exact Nat.le_refl _)] at this; apply hd; omega
    clear HT hlt
    obtain ⟨M, hM, hmk⟩ := made0 T (by omega)
    have HM := hd hM
    clear hM
    have ho := fun (o : Obj) => (own0 w'.heap.size w' M (2 + 6 * T) (Nat.le_refl _) HM.out (by omega)).alloc o
    go_wp2_with (at_builtin; refine app_plain rfl (.tmp 43) (.tmp 44) rfl w'.heap.size w' _ _ [] [91] (w'.heap.size + 1) 1 rfl rfl (ho _) (((Below.refl _ _).alloc (Nat.le_refl _) _).alloc (by simp) _) (by simp; omega) (by have := heap_alloc_new (w'.alloc (.cells M.toArray 5)) (.cells #[.int .u8 91] 5); simpa using this) (by simp) ?_; intro v1 w1 hown1 hb1 hs1)
    clear hmk ho HM
    go_loopw [7, 8] (fun v i wr => ∃ k : Nat, k ≤ ss.length ∧ i = .int .i64 k ∧ Own w'.heap.size wr v (91 :: Pl.batchT ((SI ss).take k)) ∧ Below w'.heap.size w' wr ∧ w'.heap.size ≤ wr.heap.size) (fun _ i _ => ss.length - (intOf i).toNat)
    case atStart => exact ⟨0, Nat.zero_le _, rfl, hown1, hb1, hs1⟩
    case round =>
      obtain ⟨k, hk, rfl, hownR, hbR, hsR⟩ := hrel
      clear hown1 hb1 hs1
      have HL : Hid ((91 :: Pl.batchT ((SI ss).take k)).length ≤ 9000000) := by
        have e1 := bat_len ((SI ss).take k)
        have e2 := sum_mono (SI ss) k
        have e3 := HT2.out
        show _ ≤ _
        rw [List.length_cons]
        omega
      by_cases hlt : k < ss.length
      case pos =>
        obtain ⟨s, HS, s1, hcell0⟩ := h.at k hlt
        have hcl : ∀ w2, Below w'.heap.size w' w2 → w2.cell? ⟨b, off + k, none⟩ = some (.string s) := fun w2 hb => cell_later hb hcell0
        have hcell := hcl wr hbR
        clear hcell0
        have HZ : Hid (s.size ≤ 1048576) := by
          have e1 := sum_succ hlt HS.out
          have e2 := sum_mono (SI ss) (k + 1)
          have e3 := HT2.out
          show _ ≤ _
          omega
        by_cases hk0 : k = 0
        · have HN : Hid (91 :: Pl.batchT ((SI ss).take (k + 1)) = (91 :: Pl.batchT ((SI ss).take k)) ++ Pl.encS (sI s)) := by
            subst hk0; exact bat_first hp HS.out
          clear HS
          generalize 91 :: Pl.batchT ((SI ss).take k) = R at *
          have hk1 : k < 1 := by omega
          clear hk0
          go_wp2_with (go_at_call 14; refine (json_any w'.heap.size _ R s _ hownR hsR HZ.out (by have := HL.out; omega)).mono ?_; rintro e w2 ⟨v2, rfl, hown2, hb2, hs2⟩)
          go_roundw
          case rel => exact ⟨k + 1, by omega, by go_num, by rw [← HN.out] at hown2; exact hown2, hbR.trans hb2, hs2⟩
          case measure => simp [intOf]; omega
        · have HN := hd (bat_succ hlt (by omega) HS.out)
          clear HS
          generalize 91 :: Pl.batchT ((SI ss).take k) = R at *
          have hk1 : 1 ≤ k := by omega
          clear hk0
          go_wp2_with (first | (at_builtin; refine app_plain rfl (.tmp 54) (.tmp 55) rfl w'.heap.size w' _ _ R [44, 32] wr.heap.size 2 rfl rfl (hownR.alloc _) (hbR.alloc hsR _) (by simp; omega) (heap_alloc_new _ _) (by have := HL.out; simp; omega) ?_; intro v1 w1 hown1 hb1 hs1; have hcell1 := hcl _ hb1) | (go_at_call 14; refine (json_any w'.heap.size _ (R ++ [44, 32]) s _ hown1 hs1 HZ.out (by have := HL.out; simp; omega)).mono ?_; rintro e w2 ⟨v2, rfl, hown2, hb2, hs2⟩))
          go_roundw
          case rel => exact ⟨k + 1, by omega, by go_num, by rw [← HN.out] at hown2; exact hown2, hb1.trans hb2, hs2⟩
          case measure => simp [intOf]; omega
      case neg =>
        obtain rfl : k = ss.length := by omega
        rw [List.take_of_length_le (by rw [SI_len]; exact Nat.le_refl _)] at hownR HL
        have HC : Hid (Pl.countVal ((91 :: Pl.batchT (SI ss)) ++ [93]) most = Pl.want ss.length most) := by
          have := count_batch_len ss most
          exact this
        have hr := bat_le (SI ss) (SI_le ss)
        have hr2 : ∀ x ∈ (91 :: Pl.batchT (SI ss)) ++ [93], 0 ≤ x ∧ x ≤ 255 := hr
        have HR := hd hr2
        clear hr hr2 hlt HT2
        generalize 91 :: Pl.batchT (SI ss) = R at *
        by_cases m1 : most < (ss.length : Int)
        · by_cases m2 : most < 1
          · have HV := hd (HC.out.trans (want1 hp m1 m2))
            clear HC
            go_wp2_with (first | (at_builtin; refine app_plain rfl (.tmp 63) (.tmp 64) rfl w'.heap.size w' _ _ R [93] wr.heap.size 1 rfl rfl (hownR.alloc _) (hbR.alloc hsR _) (by simp; omega) (heap_alloc_new _ _) (by have := HL.out; simp; omega) ?_; intro v1 w1 hown1 hb1 hs1) | fail)
            obtain ⟨g, cp, hv, hL⟩ := hown1.lies (by simp) HR.out (by have := HL.out; simp; omega)
            rw [hv]
            refine (count_any _ _ _ _ _ hL hm1 hm2).mono ?_
            rintro e w3 ⟨rfl, hb3⟩
            rw [HV.out]
            go_wp2
            go_ret
            exact ⟨rfl, hb1.trans (hb3.mono hs1)⟩
          · have HV := hd (HC.out.trans (want2 hp m1 m2))
            clear HC
            go_wp2_with (first | (at_builtin; refine app_plain rfl (.tmp 63) (.tmp 64) rfl w'.heap.size w' _ _ R [93] wr.heap.size 1 rfl rfl (hownR.alloc _) (hbR.alloc hsR _) (by simp; omega) (heap_alloc_new _ _) (by have := HL.out; simp; omega) ?_; intro v1 w1 hown1 hb1 hs1) | fail)
            obtain ⟨g, cp, hv, hL⟩ := hown1.lies (by simp) HR.out (by have := HL.out; simp; omega)
            rw [hv]
            refine (count_any _ _ _ _ _ hL hm1 hm2).mono ?_
            rintro e w3 ⟨rfl, hb3⟩
            rw [HV.out]
            go_wp2
            go_ret
            exact ⟨by simp, hb1.trans (hb3.mono hs1)⟩
        · have HV := hd (HC.out.trans (want3 hp m1))
          have m3 : 1 ≤ (ss.length : Int) := by omega
          clear HC
          go_wp2_with (first | (at_builtin; refine app_plain rfl (.tmp 63) (.tmp 64) rfl w'.heap.size w' _ _ R [93] wr.heap.size 1 rfl rfl (hownR.alloc _) (hbR.alloc hsR _) (by simp; omega) (heap_alloc_new _ _) (by have := HL.out; simp; omega) ?_; intro v1 w1 hown1 hb1 hs1) | fail)
          obtain ⟨g, cp, hv, hL⟩ := hown1.lies (by simp) HR.out (by have := HL.out; simp; omega)
          rw [hv]
          refine (count_any _ _ _ _ _ hL hm1 hm2).mono ?_
          rintro e w3 ⟨rfl, hb3⟩
          rw [HV.out]
          go_wp2
          go_ret
          exact ⟨by simp, hb1.trans (hb3.mono hs1)⟩

end Go.Proofs.Qxb6605591a
