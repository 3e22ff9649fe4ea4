import Derived.Test.Qxb6605591aWalkA
import Derived.Below
namespace Go.Proofs.Qxb6605591a
open Go.RowKit

/-- the bytes zs lie at the head of block b -/
def Lies (w : World) (b : Nat) (zs : List Int) : Prop :=
  (∀ i, i < zs.length → w.cell? ⟨b, i, none⟩ = some (.int .u8 (zs.getD i 0))) ∧ (∀ i : Nat, 0 ≤ zs.getD i 0 ∧ zs.getD i 0 ≤ 255) ∧ zs.length ≤ 100000000

theorem Lies.at {w : World} {b : Nat} {zs : List Int} (h : Lies w b zs) (k : Nat) (hk : k < zs.length) :
    ∃ c : Int, Hid (c = zs.getD k 0) ∧ 0 ≤ c ∧ c ≤ 255 ∧ w.cell? ⟨b, k, none⟩ = some (.int .u8 c) :=
  ⟨_, hd rfl, (h.2.1 k).1, (h.2.1 k).2, h.1 k hk⟩

set_option maxHeartbeats 400000 in
theorem fns_any (b : Nat) (zs : List Int) (cap : Nat) (i0 : Int) (w : World) (h : Lies w b zs) (g0 : 0 ≤ i0) (g1 : i0 ≤ zs.length) :
    Calls Try.prog 27 #[.slice (some ⟨b, 0, none⟩) zs.length cap, .int .i64 i0] w fun e w' => e = .returned (.int .i64 (i0.toNat + Pl.lead (zs.drop i0.toNat) : Nat)) ∧ w' = w := by
  obtain ⟨n0, rfl⟩ := Int.eq_ofNat_of_zero_le g0
  rw [Int.toNat_natCast]
  have hn := h.2.2
  generalize hT : n0 + Pl.lead (zs.drop n0) = T
  have HT := hd hT
  clear hT
  go_enter Try.func27, Try.ntmps27
  go_wp2
  go_loop [1] (fun i => ∃ k : Nat, k ≤ zs.length ∧ i = .int .i64 k ∧ Hid (k + Pl.lead (zs.drop k) = T)) (fun i => zs.length - (intOf i).toNat)
  case atStart => exact ⟨n0, by omega, rfl, HT⟩
  case round =>
    obtain ⟨k, hk, rfl, HK⟩ := hrel
    by_cases hlt : k < zs.length
    · obtain ⟨c, HC, c0, c1, hcell⟩ := h.at k hlt
      cases hsp : Pl.isSp c
      · go_wp2_with (go_at_call 31; refine (isSpace_any _ _).mono ?_; rintro e w' ⟨rfl, rfl⟩)
        go_ret
        refine ⟨ret_int ?_, rfl⟩
        have := HK.out
        rw [Pl.lead_at zs k hlt, ← HC.out, hsp] at this
        simp at this
        omega
      · go_wp2_with (go_at_call 31; refine (isSpace_any _ _).mono ?_; rintro e w' ⟨rfl, rfl⟩)
        go_round
        case rel =>
          refine ⟨k + 1, by omega, by go_num, hd ?_⟩
          have := HK.out
          rw [Pl.lead_at zs k hlt, ← HC.out, hsp] at this
          simp at this
          omega
        case measure => simp [intOf]; omega
    · go_wp2
      go_ret
      refine ⟨ret_int ?_, rfl⟩
      have := HK.out
      rw [Pl.lead_end zs k (by omega)] at this
      omega

set_option maxHeartbeats 400000 in
theorem space_any (bw b : Nat) (zs : List Int) (cap : Nat) (i0 : Int) (w : World) (h : Lies w b zs) (hw : w.cell? ⟨bw, 0, none⟩ = some (.slice (some ⟨b, 0, none⟩) zs.length cap)) (g0 : 0 ≤ i0) (g1 : i0 ≤ zs.length) :
    Calls Try.prog 25 #[.pointer (some ⟨bw, 0, none⟩), .int .i64 i0] w fun e w' => e = .returned (.int .i64 (i0.toNat + Pl.lead (zs.drop i0.toNat) : Nat)) ∧ w' = w := by
  obtain ⟨n0, rfl⟩ := Int.eq_ofNat_of_zero_le g0
  rw [Int.toNat_natCast]
  have hn := h.2.2
  generalize hT : n0 + Pl.lead (zs.drop n0) = T
  have HT := hd hT
  clear hT
  go_enter Try.func25, Try.ntmps25
  go_wp2
  go_loop [1] (fun i => ∃ k : Nat, k ≤ zs.length ∧ i = .int .i64 k ∧ Hid (k + Pl.lead (zs.drop k) = T)) (fun i => zs.length - (intOf i).toNat)
  case atStart => exact ⟨n0, by omega, rfl, HT⟩
  case round =>
    obtain ⟨k, hk, rfl, HK⟩ := hrel
    by_cases hlt : k < zs.length
    · obtain ⟨c, HC, c0, c1, hcell⟩ := h.at k hlt
      cases hsp : Pl.isSp c
      · go_wp2_with (go_at_call 30; refine (ib30_no _ (by omega) (by omega) hsp _).mono ?_; rintro e w' ⟨r, rfl, hr, rfl⟩)
        go_ret
        refine ⟨ret_int ?_, rfl⟩
        have := HK.out
        rw [Pl.lead_at zs k hlt, ← HC.out, hsp] at this
        simp at this
        omega
      · go_wp2_with (go_at_call 30; refine (ib30_yes _ (by omega) (by omega) hsp _).mono ?_; rintro e w' ⟨r, rfl, hr, rfl⟩)
        go_round
        case rel =>
          refine ⟨k + 1, by omega, by go_num, hd ?_⟩
          have := HK.out
          rw [Pl.lead_at zs k hlt, ← HC.out, hsp] at this
          simp at this
          omega
        case measure => simp [intOf]; omega
    · go_wp2
      go_ret
      refine ⟨ret_int ?_, rfl⟩
      have := HK.out
      rw [Pl.lead_end zs k (by omega)] at this
      omega

set_option maxHeartbeats 400000 in
theorem cq_any (b : Nat) (zs : List Int) (cap : Nat) (i0 : Int) (w : World) (h : Lies w b zs) (g0 : 0 ≤ i0) (g1 : i0 < zs.length) :
    Calls Try.prog 26 #[.slice (some ⟨b, 0, none⟩) zs.length cap, .int .i64 i0] w fun e w' => e = .returned (.int .i64 (i0.toNat + 1 + Pl.cq (zs.drop (i0.toNat + 1)) : Nat)) ∧ w' = w := by
  obtain ⟨n0, rfl⟩ := Int.eq_ofNat_of_zero_le g0
  rw [Int.toNat_natCast]
  have hn := h.2.2
  generalize hT : n0 + 1 + Pl.cq (zs.drop (n0 + 1)) = T
  have HT := hd hT
  clear hT
  go_enter Try.func26, Try.ntmps26
  go_wp2
  go_loop [5] (fun i => ∃ k : Nat, k ≤ zs.length + 1 ∧ i = .int .i64 k ∧ Hid (k ≤ zs.length → k + Pl.cq (zs.drop k) = T) ∧ Hid (zs.length < k → T = zs.length)) (fun i => zs.length + 1 - (intOf i).toNat)
  case atStart => exact ⟨n0 + 1, by omega, by go_num, fun _ => HT, fun h => by omega⟩
  case round =>
    obtain ⟨k, hk, rfl, HK, HE⟩ := hrel
    by_cases hlt : k < zs.length
    · obtain ⟨c, HC, c0, c1, hcell⟩ := h.at k hlt
      have HK' := hd (HK.out (by omega))
      clear HK HE
      by_cases c92 : c = 92
      · subst c92
        go_wp2
        go_round
        case rel =>
          refine ⟨k + 2, by omega, by go_num, fun h' => ?_, fun h' => ?_⟩
          · have := HK'.out
            rcases (show k + 1 < zs.length ∨ k + 1 = zs.length by omega) with h1 | h1
            · rw [Pl.cq_esc zs k h1 HC.out.symm] at this; omega
            · omega
          · have := HK'.out
            rw [Pl.cq_esc_end zs k (by omega) HC.out.symm] at this; omega
        case measure => simp [intOf]; omega
      · have b92 : (c == 92) = false := by simp [c92]
        by_cases c34 : c = 34
        · subst c34
          go_wp2
          go_ret
          refine ⟨ret_int ?_, rfl⟩
          have := HK'.out
          rw [Pl.cq_quote zs k hlt HC.out.symm] at this
          omega
        · have b34 : (c == 34) = false := by simp [c34]
          go_wp2
          go_round
          case rel =>
            refine ⟨k + 1, by omega, by go_num, fun h' => ?_, fun h' => ?_⟩
            · have := HK'.out
              rw [Pl.cq_plain zs k hlt (by rw [← HC.out]; exact c34) (by rw [← HC.out]; exact c92)] at this
              omega
            · omega
          case measure => simp [intOf]; omega
    · go_wp2
      go_ret
      refine ⟨ret_int ?_, rfl⟩
      rcases (show k = zs.length ∨ zs.length < k by omega) with h1 | h1
      · have := HK.out (by omega)
        rw [Pl.cq_end zs k (by omega)] at this
        omega
      · have := HE.out h1; omega

end Go.Proofs.Qxb6605591a
