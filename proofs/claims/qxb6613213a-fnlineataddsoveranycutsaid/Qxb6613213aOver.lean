import Derived.Test.Qxb6613213aCut
namespace Go.Proofs.Qxb6613213a
open Go.RowKit

set_option maxRecDepth 100000 in
set_option maxHeartbeats 3000000 in
theorem over_some (x : Addr) (cap : Nat) (xs : List Int) (k m : Nat) (w : World) (hcell : ∀ j v, (bs xs)[j]? = some v → w.cell? (x.add j) = some v) (hlen : xs.length ≤ 1048576) (hk : k ≤ xs.length) (hm : (m : Int) ≤ 9223372036854775807 - (k : Int)) :
    Calls Try.prog 5 #[.slice (some x) xs.length cap, .int .i64 k, .int .i64 m] w fun e w' => e = .returned (.bool true) ∧ Below w.heap.size w w' := by
  obtain ⟨M, hM, hmk⟩ := made xs.length xs.length (Nat.le_refl _) (by omega)
  have hg : (w.alloc (.cells M.toArray 5)).heap[w.heap.size]? = some (.cells M.toArray 5 (0, 0)) := heap_alloc_new _ _
  have hb : Below w.heap.size w (w.alloc (.cells M.toArray 5)) := (Below.refl _ _).alloc (Nat.le_refl _) _
  have HC := hd hcell
  have K1 : Hid ((bs xs).length = Nat.min xs.length xs.length) := by rw [bs_len]; exact (Nat.min_self _).symm
  have K3 : Hid (0 + (bs xs).length ≤ M.length) := by rw [hM, bs_len, Nat.zero_add]; exact Nat.le_refl _
  have K4 : Hid (splice M 0 (bs xs) = bs xs ++ []) := by rw [copied (by rw [hM, bs_len]), List.append_nil]; rfl
  have K5 : Hid (xs.length ≤ 2000000) := by apply hd; omega
  have h1 := bs_one xs
  clear hcell hM
  obtain ⟨v1, hs1, hv1⟩ := slice_from (n := xs.length) (k := k) w.heap.size (by omega)
  have HV1 := hd hv1
  obtain ⟨hs2, hv2⟩ := slice_head (n := xs.length) (k := k) w.heap.size hk
  have HV2 := hd hv2
  clear hv1 hv2
  have L2 := Nat.le_trans (cnt_le (xs.take k)) (List.length_take_le _ _)
  have L3 : cnt ((xs.drop k).take m) ≤ xs.length := Nat.le_trans (cnt_le _) (by rw [List.length_take, List.length_drop]; omega)
  have R0 : Hid (1 + (cnt (xs.take ((k : Int) + (m : Int)).toNat) : Int) = 1 + ((cnt (xs.take k) : Int) + (cnt ((xs.drop k).take m) : Int))) := by
    have e : ((k : Int) + (m : Int)).toNat = k + m := by omega
    rw [e, cnt_cut]; apply hd; omega
  have R1 : Hid (1 + (cnt (xs.take (k : Int).toNat) : Int) = 1 + (cnt (xs.take k) : Int)) := rfl
  have R2 : Hid (1 + (cnt ((xs.drop k).take (m : Int).toNat) : Int) = 1 + (cnt ((xs.drop k).take m) : Int)) := rfl
  have R3 : Hid (1 + (cnt ((xs.take k).take (k : Int).toNat) : Int) = 1 + (cnt (xs.take k) : Int)) := by
    rw [Int.toNat_natCast, List.take_take, Nat.min_self]; rfl
  have HI1 : Hid (0 ≤ (k : Int) + (m : Int)) := by apply hd; omega
  have HI2 : Hid (0 ≤ (k : Int)) := by apply hd; omega
  have HI3 : Hid (0 ≤ (m : Int)) := by apply hd; omega
  generalize cnt (xs.take k) = ck at *
  generalize cnt ((xs.drop k).take m) = cm at *
  have T1 : (1 + ((ck : Int) + (cm : Int)) == 1 + (ck : Int) + (1 + (cm : Int)) - 1) = true := by rw [beq_iff_eq]; omega
  go_enter Try.func5, Try.ntmps5
  go_wp2_with (first
    | (go_at_call 8; refine (zz8 _ _ _ _ _ hlen _).mono ?_; rintro e w' ⟨rfl, rfl⟩)
    | (refine wpList_copy_splice rfl (.tmp 41) (.tmp 42) 27 27 rfl 5 Try.underlying27 Try.size5 (some ⟨w.heap.size, 0, none⟩) (some x) xs.length xs.length xs.length cap rfl rfl w.heap.size 0 M 5 hg (bs xs) K1.out (fun _ => ⟨rfl, x, rfl, fun j v hj => cell_later hb (HC.out j v hj)⟩) K3.out h1 w.heap.size w hb (Nat.le_refl _) ?_; intro w2 HG hB2; rw [K4.out] at HG; have B0 := row_buf HG.out (Nat.le_refl _) (by omega) K5.out)
    | (go_at_call 9; refine (line_is B0 ((k : Int) + (m : Int)) _ HI1.out R0.out).mono ?_; rintro e w3 ⟨rfl, b3⟩; have B1 := B0.later b3)
    | (go_at_call 9; refine (line_is B1 (k : Int) _ HI2.out R1.out).mono ?_; rintro e w4 ⟨rfl, b4⟩; have B2 := B1.later b4; have B3 := HV1.out w4 xs rfl B2)
    | (go_at_call 9; refine (line_is B3 (m : Int) _ HI3.out R2.out).mono ?_; rintro e w5 ⟨rfl, b5⟩; have B4 := HV2.out w5 xs rfl (B2.later b5))
    | (go_at_call 9; refine (line_is B4 (k : Int) _ HI2.out R3.out).mono ?_; rintro e w6 ⟨rfl, b6⟩))
  go_ret
  have c0 := hB2
  have c1 := c0.trans (b3.mono c0.size)
  have c2 := c1.trans (b4.mono c1.size)
  have c3 := c2.trans (b5.mono c2.size)
  have c4 := c3.trans (b6.mono c3.size)
  refine ⟨?_, c4⟩
  show Ending.returned (.bool (decide (1 + (ck : Int) ≤ (k : Int) + 1))) = _
  rw [decide_eq_true (by omega)]

set_option maxRecDepth 100000 in
set_option maxHeartbeats 3000000 in
theorem over_nil (m : Int) (w : World) (hm : 0 ≤ m) (hm2 : m ≤ 9223372036854775807) : Calls Try.prog 5 #[.slice none 0 0, .int .i64 0, .int .i64 m] w fun e w' => e = .returned (.bool true) ∧ Below w.heap.size w w' := by
  have B0 : Buf w (.slice none 0 0) [] := ⟨by simp, .inl ⟨rfl, rfl⟩⟩
  have hs := slice_nil
  have hs2 := slice_to_nil
  have R0 : ∀ z : Int, Hid (1 + (cnt (([] : List Int).take z.toNat) : Int) = 1) := fun z => by rw [List.take_nil]; rfl
  go_enter Try.func5, Try.ntmps5
  go_wp2_with (first
      | (go_at_call 8; refine (zz8 _ _ _ _ _ (by omega) _).mono ?_; rintro e w' ⟨rfl, rfl⟩)
      | (go_at_call 9; refine (line_is B0 m _ hm (R0 _).out).mono ?_; rintro e w3 ⟨rfl, b3⟩; have B1 := B0.later b3)
      | (go_at_call 9; refine (line_is B1 0 _ (by omega) (R0 _).out).mono ?_; rintro e w4 ⟨rfl, b4⟩; have B2 := B1.later b4)
      | (go_at_call 9; refine (line_is B2 m _ hm (R0 _).out).mono ?_; rintro e w5 ⟨rfl, b5⟩; have B3 := B2.later b5)
      | (go_at_call 9; refine (line_is B3 0 _ (by omega) (R0 _).out).mono ?_; rintro e w6 ⟨rfl, b6⟩))
  go_ret
  have c0 := b3
  have c1 := c0.trans (b4.mono c0.size)
  have c2 := c1.trans (b5.mono c1.size)
  have c3 := c2.trans (b6.mono c2.size)
  exact ⟨rfl, c3⟩

set_option maxRecDepth 100000 in
set_option maxHeartbeats 3000000 in
theorem over_out (a : Option Addr) (n c : Nat) (k m : Int) (w : World) (h : ¬ n ≤ 1048576 ∨ (n ≤ 1048576 ∧ (k < 0 ∨ (0 ≤ k ∧ (n : Int) < k) ∨ (0 ≤ k ∧ k ≤ n ∧ m < 0) ∨ (0 ≤ k ∧ k ≤ n ∧ 0 ≤ m ∧ 9223372036854775807 - k < m)))) :
    Calls Try.prog 5 #[.slice a n c, .int .i64 k, .int .i64 m] w fun e w' => e = .returned (.bool true) ∧ Below w.heap.size w w' := by
  rcases h with h | ⟨hn, h | ⟨h1, h2⟩ | ⟨h1, h2, h3⟩ | ⟨h1, h2, h3, h4⟩⟩
  · go_enter Try.func5, Try.ntmps5
    go_wp2_with (go_at_call 8; refine (zz8_no _ _ _ _ _ h _).mono ?_; rintro e w' ⟨rfl, rfl⟩)
    go_ret
    exact ⟨rfl, Below.refl _ _⟩
  all_goals
    go_enter Try.func5, Try.ntmps5
    go_wp2_with (go_at_call 8; refine (zz8 _ _ _ _ _ hn _).mono ?_; rintro e w' ⟨rfl, rfl⟩)
    go_ret
    exact ⟨rfl, Below.refl _ _⟩

end Go.Proofs.Qxb6613213a
