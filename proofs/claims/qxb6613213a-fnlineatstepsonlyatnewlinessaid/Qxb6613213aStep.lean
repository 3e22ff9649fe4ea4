import Derived.Test.Qxb6613213aCut
namespace Go.Proofs.Qxb6613213a
open Go.RowKit

set_option maxRecDepth 100000 in
set_option maxHeartbeats 3000000 in
theorem step_zero (x : Addr) (cap : Nat) (xs : List Int)  (w : World) (hcell : ∀ j v, (bs xs)[j]? = some v → w.cell? (x.add j) = some v)  (hlen : xs.length ≤ 1048576) :
    Calls Try.prog 6 #[.slice (some x) xs.length cap, .int .i64 0] w fun e w' => e = .returned (.bool true) ∧ Below w.heap.size w w' := by
  obtain ⟨M, hM, hmk⟩ := made xs.length xs.length (Nat.le_refl _) (by omega)
  have hg : (w.alloc (.cells M.toArray 5)).heap[w.heap.size]? = some (.cells M.toArray 5 (0, 0)) := heap_alloc_new _ _
  have hb : Below w.heap.size w (w.alloc (.cells M.toArray 5)) := (Below.refl _ _).alloc (Nat.le_refl _) _
  have HC := hd hcell
  have K1 : Hid ((bs xs).length = Nat.min xs.length xs.length) := by rw [bs_len]; exact (Nat.min_self _).symm
  have K3 : Hid (0 + (bs xs).length ≤ M.length) := by rw [hM, bs_len, Nat.zero_add]; exact Nat.le_refl _
  have K4 : Hid (splice M 0 (bs xs) = bs xs ++ []) := by rw [copied (by rw [hM, bs_len]), List.append_nil]; rfl
  have K5 : Hid (xs.length ≤ 2000000) := by apply hd; omega
  have h1 := bs_one xs
  clear hcell hM
  have HI0 : Hid (0 ≤ (0 : Int)) := by apply hd; omega
  have R0 : Hid (1 + (cnt (xs.take (0 : Int).toNat) : Int) = 1) := rfl
  go_enter Try.func6, Try.ntmps6
  go_wp2_with (first
    | (go_at_call 10; refine (zz10 _ _ _ _ hlen _).mono ?_; rintro e w' ⟨rfl, rfl⟩)
    | (refine wpList_copy_splice rfl (.tmp 22) (.tmp 23) 27 27 rfl 5 Try.underlying27 Try.size5 (some ⟨w.heap.size, 0, none⟩) (some x) xs.length xs.length xs.length cap rfl rfl w.heap.size 0 M 5 hg (bs xs) K1.out (fun _ => ⟨rfl, x, rfl, fun j v hj => cell_later hb (HC.out j v hj)⟩) K3.out h1 w.heap.size w hb (Nat.le_refl _) ?_; intro w2 HG hB2; rw [K4.out] at HG; have B0 := row_buf HG.out (Nat.le_refl _) (by omega) K5.out)
    | (go_at_call 9; refine (line_is B0 0 _ HI0.out R0.out).mono ?_; rintro e w3 ⟨rfl, b3⟩; have B1 := B0.later b3))
  go_ret
  have c0 := hB2
  have c1 := c0.trans (b3.mono c0.size)
  exact ⟨rfl, c1⟩

set_option maxRecDepth 100000 in
set_option maxHeartbeats 3000000 in
theorem step_past (x : Addr) (cap : Nat) (xs : List Int) (m : Int) (w : World) (hcell : ∀ j v, (bs xs)[j]? = some v → w.cell? (x.add j) = some v) (hm : (xs.length : Int) < m) (hlen : xs.length ≤ 1048576) :
    Calls Try.prog 6 #[.slice (some x) xs.length cap, .int .i64 m] w fun e w' => e = .returned (.bool true) ∧ Below w.heap.size w w' := by
  obtain ⟨M, hM, hmk⟩ := made xs.length xs.length (Nat.le_refl _) (by omega)
  have hg : (w.alloc (.cells M.toArray 5)).heap[w.heap.size]? = some (.cells M.toArray 5 (0, 0)) := heap_alloc_new _ _
  have hb : Below w.heap.size w (w.alloc (.cells M.toArray 5)) := (Below.refl _ _).alloc (Nat.le_refl _) _
  have HC := hd hcell
  have K1 : Hid ((bs xs).length = Nat.min xs.length xs.length) := by rw [bs_len]; exact (Nat.min_self _).symm
  have K3 : Hid (0 + (bs xs).length ≤ M.length) := by rw [hM, bs_len, Nat.zero_add]; exact Nat.le_refl _
  have K4 : Hid (splice M 0 (bs xs) = bs xs ++ []) := by rw [copied (by rw [hM, bs_len]), List.append_nil]; rfl
  have K5 : Hid (xs.length ≤ 2000000) := by apply hd; omega
  have h1 := bs_one xs
  clear hcell hM
  have HI0 : Hid (0 ≤ (0 : Int)) := by apply hd; omega
  have R0 : Hid (1 + (cnt (xs.take (0 : Int).toNat) : Int) = 1) := rfl
  have HI1 : Hid (0 ≤ m) := by apply hd; omega
  have HI2 : Hid (0 ≤ (xs.length : Int)) := by apply hd; omega
  have R1 : Hid (1 + (cnt (xs.take m.toNat) : Int) = 1 + (cnt xs : Int)) := by rw [List.take_of_length_le (by omega)]; rfl
  have R2 : Hid (1 + (cnt (xs.take (xs.length : Int).toNat) : Int) = 1 + (cnt xs : Int)) := by rw [Int.toNat_natCast, List.take_length]; rfl
  go_enter Try.func6, Try.ntmps6
  go_wp2_with (first
    | (go_at_call 10; refine (zz10 _ _ _ _ hlen _).mono ?_; rintro e w' ⟨rfl, rfl⟩)
    | (refine wpList_copy_splice rfl (.tmp 22) (.tmp 23) 27 27 rfl 5 Try.underlying27 Try.size5 (some ⟨w.heap.size, 0, none⟩) (some x) xs.length xs.length xs.length cap rfl rfl w.heap.size 0 M 5 hg (bs xs) K1.out (fun _ => ⟨rfl, x, rfl, fun j v hj => cell_later hb (HC.out j v hj)⟩) K3.out h1 w.heap.size w hb (Nat.le_refl _) ?_; intro w2 HG hB2; rw [K4.out] at HG; have B0 := row_buf HG.out (Nat.le_refl _) (by omega) K5.out)
    | (go_at_call 9; refine (line_is B0 0 _ HI0.out R0.out).mono ?_; rintro e w3 ⟨rfl, b3⟩; have B1 := B0.later b3)
    | (go_at_call 9; refine (line_is B1 m _ HI1.out R1.out).mono ?_; rintro e w4 ⟨rfl, b4⟩; have B2 := B1.later b4)
    | (go_at_call 9; refine (line_is B2 (xs.length : Int) _ HI2.out R2.out).mono ?_; rintro e w5 ⟨rfl, b5⟩))
  go_ret
  have c0 := hB2
  have c1 := c0.trans (b3.mono c0.size)
  have c2 := c1.trans (b4.mono c1.size)
  have c3 := c2.trans (b5.mono c2.size)
  exact ⟨rfl, c3⟩

set_option maxRecDepth 100000 in
set_option maxHeartbeats 3000000 in
theorem step_ten (x : Addr) (cap : Nat) (xs : List Int) (p : Nat) (w : World) (hcell : ∀ j v, (bs xs)[j]? = some v → w.cell? (x.add j) = some v) (hp : p < xs.length) (hc10 : xs.getD p 0 = 10) (hlen : xs.length ≤ 1048576) :
    Calls Try.prog 6 #[.slice (some x) xs.length cap, .int .i64 ((p : Int) + 1)] w fun e w' => e = .returned (.bool true) ∧ Below w.heap.size w w' := by
  obtain ⟨M, hM, hmk⟩ := made xs.length xs.length (Nat.le_refl _) (by omega)
  have hg : (w.alloc (.cells M.toArray 5)).heap[w.heap.size]? = some (.cells M.toArray 5 (0, 0)) := heap_alloc_new _ _
  have hb : Below w.heap.size w (w.alloc (.cells M.toArray 5)) := (Below.refl _ _).alloc (Nat.le_refl _) _
  have HC := hd hcell
  have K1 : Hid ((bs xs).length = Nat.min xs.length xs.length) := by rw [bs_len]; exact (Nat.min_self _).symm
  have K3 : Hid (0 + (bs xs).length ≤ M.length) := by rw [hM, bs_len, Nat.zero_add]; exact Nat.le_refl _
  have K4 : Hid (splice M 0 (bs xs) = bs xs ++ []) := by rw [copied (by rw [hM, bs_len]), List.append_nil]; rfl
  have K5 : Hid (xs.length ≤ 2000000) := by apply hd; omega
  have h1 := bs_one xs
  clear hcell hM
  have HI0 : Hid (0 ≤ (0 : Int)) := by apply hd; omega
  have R0 : Hid (1 + (cnt (xs.take (0 : Int).toNat) : Int) = 1) := rfl
  have HI1 : Hid (0 ≤ (p : Int) + 1) := by apply hd; omega
  have HI2 : Hid (0 ≤ (p : Int)) := by apply hd; omega
  have L2 := Nat.le_trans (cnt_le (xs.take p)) (List.length_take_le _ _)
  have R1 : Hid (1 + (cnt (xs.take ((p : Int) + 1).toNat) : Int) = 1 + (cnt (xs.take p) : Int) + 1) := by
    have e : ((p : Int) + 1).toNat = p + 1 := by omega
    have e2 : (xs.drop p).take 1 = [xs.getD p 0] := by
      rw [List.drop_eq_getElem_cons hp, List.take_succ_cons, List.take_zero, List.getD_eq_getElem?_getD, List.getElem?_eq_getElem hp]; rfl
    rw [e, cnt_cut, e2]
    rw [hc10, cnt_ten]
    apply hd; omega
  have R2 : Hid (1 + (cnt (xs.take (p : Int).toNat) : Int) = 1 + (cnt (xs.take p) : Int)) := rfl
  generalize cnt (xs.take p) = cp at *
  have hch : xs.getD p 0 = xs.getD p 0 := rfl
  generalize hcg : xs.getD p 0 = ch at *
  have HCH := hd hcg
  clear hcg hch
  go_enter Try.func6, Try.ntmps6
  go_wp2_with (first
    | (go_at_call 10; refine (zz10 _ _ _ _ hlen _).mono ?_; rintro e w' ⟨rfl, rfl⟩)
    | (refine wpList_copy_splice rfl (.tmp 22) (.tmp 23) 27 27 rfl 5 Try.underlying27 Try.size5 (some ⟨w.heap.size, 0, none⟩) (some x) xs.length xs.length xs.length cap rfl rfl w.heap.size 0 M 5 hg (bs xs) K1.out (fun _ => ⟨rfl, x, rfl, fun j v hj => cell_later hb (HC.out j v hj)⟩) K3.out h1 w.heap.size w hb (Nat.le_refl _) ?_; intro w2 HG hB2; rw [K4.out] at HG; have B0 := row_buf HG.out (Nat.le_refl _) (by omega) K5.out)
    | (go_at_call 9; refine (line_is B0 0 _ HI0.out R0.out).mono ?_; rintro e w3 ⟨rfl, b3⟩; have B1 := B0.later b3; have hcl := cell_tail rfl B1 hp; rw [HCH.out] at hcl)
    | (go_at_call 9; refine (line_is B1 ((p : Int) + 1) _ HI1.out R1.out).mono ?_; rintro e w4 ⟨rfl, b4⟩; have B2 := B1.later b4)
    | (go_at_call 9; refine (line_is B2 (p : Int) _ HI2.out R2.out).mono ?_; rintro e w5 ⟨rfl, b5⟩))
  go_ret
  have c0 := hB2
  have c1 := c0.trans (b3.mono c0.size)
  have c2 := c1.trans (b4.mono c1.size)
  have c3 := c2.trans (b5.mono c2.size)
  exact ⟨rfl, c3⟩

set_option maxRecDepth 100000 in
set_option maxHeartbeats 3000000 in
theorem step_not (x : Addr) (cap : Nat) (xs : List Int) (p : Nat) (w : World) (hcell : ∀ j v, (bs xs)[j]? = some v → w.cell? (x.add j) = some v) (hp : p < xs.length) (hu : 0 ≤ xs.getD p 0 ∧ xs.getD p 0 < 256) (hc10 : ¬ xs.getD p 0 = 10) (hlen : xs.length ≤ 1048576) :
    Calls Try.prog 6 #[.slice (some x) xs.length cap, .int .i64 ((p : Int) + 1)] w fun e w' => e = .returned (.bool true) ∧ Below w.heap.size w w' := by
  obtain ⟨M, hM, hmk⟩ := made xs.length xs.length (Nat.le_refl _) (by omega)
  have hg : (w.alloc (.cells M.toArray 5)).heap[w.heap.size]? = some (.cells M.toArray 5 (0, 0)) := heap_alloc_new _ _
  have hb : Below w.heap.size w (w.alloc (.cells M.toArray 5)) := (Below.refl _ _).alloc (Nat.le_refl _) _
  have HC := hd hcell
  have K1 : Hid ((bs xs).length = Nat.min xs.length xs.length) := by rw [bs_len]; exact (Nat.min_self _).symm
  have K3 : Hid (0 + (bs xs).length ≤ M.length) := by rw [hM, bs_len, Nat.zero_add]; exact Nat.le_refl _
  have K4 : Hid (splice M 0 (bs xs) = bs xs ++ []) := by rw [copied (by rw [hM, bs_len]), List.append_nil]; rfl
  have K5 : Hid (xs.length ≤ 2000000) := by apply hd; omega
  have h1 := bs_one xs
  clear hcell hM
  have HI0 : Hid (0 ≤ (0 : Int)) := by apply hd; omega
  have R0 : Hid (1 + (cnt (xs.take (0 : Int).toNat) : Int) = 1) := rfl
  have HI1 : Hid (0 ≤ (p : Int) + 1) := by apply hd; omega
  have HI2 : Hid (0 ≤ (p : Int)) := by apply hd; omega
  have L2 := Nat.le_trans (cnt_le (xs.take p)) (List.length_take_le _ _)
  have R1 : Hid (1 + (cnt (xs.take ((p : Int) + 1).toNat) : Int) = 1 + (cnt (xs.take p) : Int)) := by
    have e : ((p : Int) + 1).toNat = p + 1 := by omega
    have e2 : (xs.drop p).take 1 = [xs.getD p 0] := by
      rw [List.drop_eq_getElem_cons hp, List.take_succ_cons, List.take_zero, List.getD_eq_getElem?_getD, List.getElem?_eq_getElem hp]; rfl
    rw [e, cnt_cut, e2]
    rw [cnt_other hu.1 hu.2 hc10]
    apply hd; omega
  have R2 : Hid (1 + (cnt (xs.take (p : Int).toNat) : Int) = 1 + (cnt (xs.take p) : Int)) := rfl
  generalize cnt (xs.take p) = cp at *
  have hch : xs.getD p 0 = xs.getD p 0 := rfl
  generalize hcg : xs.getD p 0 = ch at *
  have HCH := hd hcg
  clear hcg hch
  go_enter Try.func6, Try.ntmps6
  go_wp2_with (first
    | (go_at_call 10; refine (zz10 _ _ _ _ hlen _).mono ?_; rintro e w' ⟨rfl, rfl⟩)
    | (refine wpList_copy_splice rfl (.tmp 22) (.tmp 23) 27 27 rfl 5 Try.underlying27 Try.size5 (some ⟨w.heap.size, 0, none⟩) (some x) xs.length xs.length xs.length cap rfl rfl w.heap.size 0 M 5 hg (bs xs) K1.out (fun _ => ⟨rfl, x, rfl, fun j v hj => cell_later hb (HC.out j v hj)⟩) K3.out h1 w.heap.size w hb (Nat.le_refl _) ?_; intro w2 HG hB2; rw [K4.out] at HG; have B0 := row_buf HG.out (Nat.le_refl _) (by omega) K5.out)
    | (go_at_call 9; refine (line_is B0 0 _ HI0.out R0.out).mono ?_; rintro e w3 ⟨rfl, b3⟩; have B1 := B0.later b3; have hcl := cell_tail rfl B1 hp; rw [HCH.out] at hcl)
    | (go_at_call 9; refine (line_is B1 ((p : Int) + 1) _ HI1.out R1.out).mono ?_; rintro e w4 ⟨rfl, b4⟩; have B2 := B1.later b4)
    | (go_at_call 9; refine (line_is B2 (p : Int) _ HI2.out R2.out).mono ?_; rintro e w5 ⟨rfl, b5⟩))
  go_ret
  have c0 := hB2
  have c1 := c0.trans (b3.mono c0.size)
  have c2 := c1.trans (b4.mono c1.size)
  have c3 := c2.trans (b5.mono c2.size)
  exact ⟨rfl, c3⟩

set_option maxRecDepth 100000 in
set_option maxHeartbeats 3000000 in
theorem step_nil (m : Int) (w : World) (hm : 0 ≤ m) : Calls Try.prog 6 #[.slice none 0 0, .int .i64 m] w fun e w' => e = .returned (.bool true) ∧ Below w.heap.size w w' := by
  have B0 : Buf w (.slice none 0 0) [] := ⟨by simp, .inl ⟨rfl, rfl⟩⟩
  have R0 : ∀ z : Int, Hid (1 + (cnt (([] : List Int).take z.toNat) : Int) = 1) := fun z => by rw [List.take_nil]; rfl
  by_cases h0 : m = 0
  · subst h0
    go_enter Try.func6, Try.ntmps6
    go_wp2_with (first
      | (go_at_call 10; refine (zz10 _ _ _ _ (by omega) _).mono ?_; rintro e w' ⟨rfl, rfl⟩)
      | (go_at_call 9; refine (line_is B0 0 _ (by omega) (R0 _).out).mono ?_; rintro e w3 ⟨rfl, b3⟩))
    go_ret
    exact ⟨rfl, b3⟩
  · have h1 : 0 < m := by omega
    go_enter Try.func6, Try.ntmps6
    go_wp2_with (first
      | (go_at_call 10; refine (zz10 _ _ _ _ (by omega) _).mono ?_; rintro e w' ⟨rfl, rfl⟩)
      | (go_at_call 9; refine (line_is B0 0 _ (by omega) (R0 _).out).mono ?_; rintro e w3 ⟨rfl, b3⟩; have B1 := B0.later b3)
      | (go_at_call 9; refine (line_is B1 m _ hm (R0 _).out).mono ?_; rintro e w4 ⟨rfl, b4⟩; have B2 := B1.later b4)
      | (go_at_call 9; refine (line_is B2 0 _ (by omega) (R0 _).out).mono ?_; rintro e w5 ⟨rfl, b5⟩))
    go_ret
    have c0 := b3
    have c1 := c0.trans (b4.mono c0.size)
    have c2 := c1.trans (b5.mono c1.size)
    exact ⟨rfl, c2⟩

set_option maxRecDepth 100000 in
set_option maxHeartbeats 3000000 in
theorem step_out (a : Option Addr) (n c : Nat) (k : Int) (w : World) (h : ¬ n ≤ 1048576 ∨ (n ≤ 1048576 ∧ k < 0)) :
    Calls Try.prog 6 #[.slice a n c, .int .i64 k] w fun e w' => e = .returned (.bool true) ∧ Below w.heap.size w w' := by
  rcases h with h | ⟨hn, h⟩
  · go_enter Try.func6, Try.ntmps6
    go_wp2_with (go_at_call 10; refine (zz10_no _ _ _ _ h _).mono ?_; rintro e w' ⟨rfl, rfl⟩)
    go_ret
    exact ⟨rfl, Below.refl _ _⟩
  · go_enter Try.func6, Try.ntmps6
    go_wp2_with (go_at_call 10; refine (zz10 _ _ _ _ hn _).mono ?_; rintro e w' ⟨rfl, rfl⟩)
    go_ret
    exact ⟨rfl, Below.refl _ _⟩

end Go.Proofs.Qxb6613213a
