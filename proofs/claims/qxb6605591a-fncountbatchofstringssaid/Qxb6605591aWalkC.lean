import Derived.Test.Qxb6605591aWalkB
namespace Go.Proofs.Qxb6605591a
open Go.RowKit

theorem ne_beq {c k : Int} (h : ¬ c = k) : (c == k) = false := by simp [h]

theorem tc_q {x : Bool} {d : Int} {l : List Int} {i : Nat} {c : Int} (h : i < l.length) (e : c = l.getD i 0) (h1 : c = 34) : Pl.tc false x d (l.drop i) = Pl.tc true x d (l.drop (i + 1)) := by
  rw [Pl.tc_f x d l i h, ← e, h1]; rfl
theorem tc_o {x : Bool} {d : Int} {l : List Int} {i : Nat} {c : Int} (h : i < l.length) (e : c = l.getD i 0) (h1 : c = 123 ∨ c = 91) : Pl.tc false x d (l.drop i) = Pl.tc false x (d + 1) (l.drop (i + 1)) := by
  rw [Pl.tc_f x d l i h, ← e, if_neg (by omega), if_pos h1]
theorem tc_c {x : Bool} {d : Int} {l : List Int} {i : Nat} {c : Int} (h : i < l.length) (e : c = l.getD i 0) (h1 : c = 125 ∨ c = 93) : Pl.tc false x d (l.drop i) = Pl.tc false x (d - 1) (l.drop (i + 1)) := by
  rw [Pl.tc_f x d l i h, ← e, if_neg (by omega), if_neg (by omega), if_pos h1]
theorem tc_k {x : Bool} {d : Int} {l : List Int} {i : Nat} {c : Int} (h : i < l.length) (e : c = l.getD i 0) (h1 : c = 44) (h2 : d = 0) : Pl.tc false x d (l.drop i) = Pl.tc false x d (l.drop (i + 1)) + 1 := by
  rw [Pl.tc_f x d l i h, ← e, if_neg (by omega), if_neg (by omega), if_neg (by omega), if_pos ⟨h1, h2⟩]
theorem tc_n {x : Bool} {d : Int} {l : List Int} {i : Nat} {c : Int} (h : i < l.length) (e : c = l.getD i 0) (h1 : ¬ c = 34) (h2 : ¬ c = 123) (h3 : ¬ c = 91) (h4 : ¬ c = 125) (h5 : ¬ c = 93) (h6 : ¬ (c = 44 ∧ d = 0)) : Pl.tc false x d (l.drop i) = Pl.tc false x d (l.drop (i + 1)) := by
  rw [Pl.tc_f x d l i h, ← e, if_neg h1, if_neg (by omega), if_neg (by omega), if_neg h6]

set_option maxHeartbeats 2000000 in
theorem tc_any (b : Nat) (zs : List Int) (cap : Nat) (i0 : Int) (w : World) (h : Lies w b zs) (g0 : 0 ≤ i0) (g1 : i0 ≤ zs.length) :
    Calls Try.prog 28 #[.slice (some ⟨b, 0, none⟩) zs.length cap, .int .i64 i0] w fun e w' => e = .returned (.int .i64 (Pl.tc false false 0 (zs.drop i0.toNat))) ∧ w' = w := by
  obtain ⟨n0, rfl⟩ := Int.eq_ofNat_of_zero_le g0
  rw [Int.toNat_natCast]
  have hn := h.2.2
  generalize hT : Pl.tc false false 0 (zs.drop n0) = T
  have HT := hd hT
  clear hT
  go_enter Try.func28, Try.ntmps28
  go_wp2
  go_loop [5, 6, 7, 8, 9] (fun s e d m j => ∃ (sb eb : Bool) (dd mm : Int) (k : Nat), k ≤ zs.length ∧ s = .bool sb ∧ e = .bool eb ∧ d = .int .i64 dd ∧ m = .int .i64 mm ∧ j = .int .i64 k ∧ -(k : Int) ≤ dd ∧ dd ≤ (k : Int) ∧ 0 ≤ mm ∧ mm ≤ (k : Int) ∧ Hid (mm + Pl.tc sb eb dd (zs.drop k) = T)) (fun _ _ _ _ j => zs.length - (intOf j).toNat)
  case atStart => exact ⟨false, false, 0, 0, n0, by omega, rfl, rfl, rfl, rfl, rfl, by omega, by omega, by omega, by omega, by rw [HT.out]; exact Int.zero_add _⟩
  case round =>
    obtain ⟨sb, eb, dd, mm, k, hk, rfl, rfl, rfl, rfl, rfl, d1, d2, m1, m2, HK⟩ := hrel
    by_cases hlt : k < zs.length
    · obtain ⟨c, HC, c0, c1, hcell⟩ := h.at k hlt
      cases sb
      · by_cases h34 : c = 34
        · have HN := hd (tc_q (x := eb) (d := dd) hlt HC.out h34)
          clear HC
          subst h34
          go_wp2
          go_round
          case rel => exact ⟨true, eb, dd, mm, k + 1, by omega, rfl, rfl, rfl, rfl, by go_num, by omega, by omega, by omega, by omega, by rw [← HN.out]; exact HK⟩
          case measure => simp [intOf]; omega
        have b34 := ne_beq h34
        by_cases h123 : c = 123
        · have HN := hd (tc_o (x := eb) (d := dd) hlt HC.out (Or.inl h123))
          clear HC h34 b34
          subst h123
          go_wp2
          go_round
          case rel => exact ⟨false, eb, dd + 1, mm, k + 1, by omega, rfl, rfl, rfl, rfl, by go_num, by omega, by omega, by omega, by omega, by rw [← HN.out]; exact HK⟩
          case measure => simp [intOf]; omega
        have b123 := ne_beq h123
        by_cases h91 : c = 91
        · have HN := hd (tc_o (x := eb) (d := dd) hlt HC.out (Or.inr h91))
          clear HC h34 b34 h123 b123
          subst h91
          go_wp2
          go_round
          case rel => exact ⟨false, eb, dd + 1, mm, k + 1, by omega, rfl, rfl, rfl, rfl, by go_num, by omega, by omega, by omega, by omega, by rw [← HN.out]; exact HK⟩
          case measure => simp [intOf]; omega
        have b91 := ne_beq h91
        by_cases h125 : c = 125
        · have HN := hd (tc_c (x := eb) (d := dd) hlt HC.out (Or.inl h125))
          clear HC h34 b34 h123 b123 h91 b91
          subst h125
          go_wp2
          go_round
          case rel => exact ⟨false, eb, dd - 1, mm, k + 1, by omega, rfl, rfl, rfl, rfl, by go_num, by omega, by omega, by omega, by omega, by rw [← HN.out]; exact HK⟩
          case measure => simp [intOf]; omega
        have b125 := ne_beq h125
        by_cases h93 : c = 93
        · have HN := hd (tc_c (x := eb) (d := dd) hlt HC.out (Or.inr h93))
          clear HC h34 b34 h123 b123 h91 b91 h125 b125
          subst h93
          go_wp2
          go_round
          case rel => exact ⟨false, eb, dd - 1, mm, k + 1, by omega, rfl, rfl, rfl, rfl, by go_num, by omega, by omega, by omega, by omega, by rw [← HN.out]; exact HK⟩
          case measure => simp [intOf]; omega
        have b93 := ne_beq h93
        by_cases h44 : c = 44
        · by_cases hd0 : dd = 0
          · have HN := hd (tc_k (x := eb) (d := dd) hlt HC.out h44 hd0)
            clear HC h34 b34 h123 b123 h91 b91 h125 b125 h93 b93
            subst h44 hd0
            go_wp2
            go_round
            case rel => exact ⟨false, eb, 0, mm + 1, k + 1, by omega, rfl, rfl, rfl, rfl, by go_num, by omega, by omega, by omega, by omega, by have := HK.out; rw [HN.out] at this; apply hd; omega⟩
            case measure => simp [intOf]; omega
          · have HN := hd (tc_n (x := eb) (d := dd) hlt HC.out h34 h123 h91 h125 h93 (fun h => hd0 h.2))
            have bd0 := ne_beq hd0
            clear HC h34 b34 h123 b123 h91 b91 h125 b125 h93 b93
            subst h44
            go_wp2
            go_round
            case rel => exact ⟨false, eb, dd, mm, k + 1, by omega, rfl, rfl, rfl, rfl, by go_num, by omega, by omega, by omega, by omega, by rw [← HN.out]; exact HK⟩
            case measure => simp [intOf]; omega
        · have HN := hd (tc_n (x := eb) (d := dd) hlt HC.out h34 h123 h91 h125 h93 (fun h => h44 h.1))
          have b44 := ne_beq h44
          clear HC
          go_wp2
          go_round
          case rel => exact ⟨false, eb, dd, mm, k + 1, by omega, rfl, rfl, rfl, rfl, by go_num, by omega, by omega, by omega, by omega, by rw [← HN.out]; exact HK⟩
          case measure => simp [intOf]; omega
      · cases eb
        · by_cases h92 : c = 92
          · have HN := hd (Pl.tc_tf_esc dd zs k hlt (HC.out.symm.trans h92))
            clear HC
            subst h92
            go_wp2
            go_round
            case rel => exact ⟨true, true, dd, mm, k + 1, by omega, rfl, rfl, rfl, rfl, by go_num, by omega, by omega, by omega, by omega, by rw [← HN.out]; exact HK⟩
            case measure => simp [intOf]; omega
          have b92 := ne_beq h92
          by_cases h34 : c = 34
          · have HN := hd (Pl.tc_tf_quote dd zs k hlt (HC.out.symm.trans h34))
            clear HC h92 b92
            subst h34
            go_wp2
            go_round
            case rel => exact ⟨false, false, dd, mm, k + 1, by omega, rfl, rfl, rfl, rfl, by go_num, by omega, by omega, by omega, by omega, by rw [← HN.out]; exact HK⟩
            case measure => simp [intOf]; omega
          · have HN := hd (Pl.tc_tf dd zs k hlt (by rw [← HC.out]; exact h34) (by rw [← HC.out]; exact h92))
            have b34 := ne_beq h34
            clear HC
            go_wp2
            go_round
            case rel => exact ⟨true, false, dd, mm, k + 1, by omega, rfl, rfl, rfl, rfl, by go_num, by omega, by omega, by omega, by omega, by rw [← HN.out]; exact HK⟩
            case measure => simp [intOf]; omega
        · have HN := hd (Pl.tc_tt dd zs k hlt)
          clear HC
          go_wp2
          go_round
          case rel => exact ⟨true, false, dd, mm, k + 1, by omega, rfl, rfl, rfl, rfl, by go_num, by omega, by omega, by omega, by omega, by rw [← HN.out]; exact HK⟩
          case measure => simp [intOf]; omega
    · go_wp2
      go_ret
      refine ⟨ret_int ?_, rfl⟩
      have := HK.out
      rw [Pl.tc_end _ _ _ zs k (by omega)] at this
      omega

end Go.Proofs.Qxb6605591a
