import Derived.Test.Qxb6612802aNlA
namespace Go.Proofs.Qxb6612802a
open Go.RowKit

set_option maxRecDepth 100000 in
set_option maxHeartbeats 4000000 in
theorem nl_sn (x : Addr) (ca : Nat) (xs ys : List Int) (n : Int) (w : World) (hca : ∀ j v, (bs xs)[j]? = some v → w.cell? (x.add j) = some v) (hys : ys.length = 0) (hlen : xs.length + ys.length ≤ 1048576) :
    Calls Try.prog 4 #[(.slice (some x) xs.length ca), (.slice none 0 0), .int .i64 0, .int .i64 n] w fun e w' => e = .returned (.bool true) ∧ Below w.heap.size w w' := by
  obtain ⟨zs, cx, cj, hzs, hS⟩ : ∃ zs cx cj, zs = xs ++ [10] ++ ys ∧ Says xs ys zs 0 cx cj := ⟨_, _, _, rfl, says xs ys 0⟩
  have HZ := hd hzs
  have HX : Hid (xs.length ≤ 2000000) := by apply hd; omega
  have HY : Hid (ys.length ≤ 2000000) := by apply hd; omega
  have hlz := hS.len
  have hlx := hS.lx
  have hlj := hS.lj
  have hz0 : Hid (zs ≠ []) := by rw [hzs]; simp [Hid]
  clear hzs
  obtain ⟨M, hM, hmk⟩ := made xs.length xs.length (Nat.le_refl _) (by omega)
  have K1 : Hid ((bs xs).length = Nat.min xs.length xs.length) := by rw [bs_len]; exact (Nat.min_self _).symm
  have K3 : Hid (0 + (bs xs).length ≤ M.length) := by rw [hM, bs_len, Nat.zero_add]; exact Nat.le_refl _
  have K4 : Hid (splice M 0 (bs xs) = bs xs ++ []) := by rw [copied (by rw [hM, bs_len]), List.append_nil]; rfl
  have hg : (w.alloc (.cells M.toArray 5)).heap[w.heap.size]? = some (.cells M.toArray 5 (0, 0)) := heap_alloc_new _ _
  have hb : Below w.heap.size w (w.alloc (.cells M.toArray 5)) := (Below.refl _ _).alloc (Nat.le_refl _) _
  have h1 := bs_one xs
  have HCA := hd hca
  clear hca hM
  obtain ⟨C, hC, hmkc0⟩ := made 0 (xs.length + 1 + 0) (by omega) (by omega)
  have hmkc : ∀ w : World, (Instr.makeSlice 22 (.int .i64 0) (.int .i64 ((xs.length : Int) + 1))).run Try.prog w = .ok (.slice (some ⟨w.heap.size, 0, none⟩) 0 (xs.length + 1 + 0)) (w.alloc (.cells C.toArray 5)) := by
    intro w
    have e : ((xs.length : Int) + 1 : Int) = ((xs.length + 1 + 0 : Nat) : Int) := by omega
    rw [e]
    exact hmkc0 w
  have HC := hd hC
  clear hmkc0 hC
  have R0 : Hid (1 + (cnt (xs.take ((xs.length : Int) : Int).toNat) : Int) = 1 + (cx : Int)) := by
    have e : ((xs.length : Int) : Int).toNat = xs.length := by omega
    rw [e]
    exact hS.a
  have R1 : Hid (1 + (cnt (zs.take ((xs.length : Int) : Int).toNat) : Int) = 1 + (cx : Int)) := by
    have e : ((xs.length : Int) : Int).toNat = xs.length := by omega
    rw [e]
    exact hS.c0
  have R2 : Hid (1 + (cnt (zs.take ((xs.length : Int) + 1 : Int).toNat) : Int) = 1 + (cx : Int) + 1) := by
    have e : ((xs.length : Int) + 1 : Int).toNat = xs.length + 1 := by omega
    rw [e]
    exact hS.c1
  have R3 : Hid (1 + (cnt (zs.take ((xs.length : Int) + 1 : Int).toNat) : Int) = 1 + (cx : Int) + (1 + (cj : Int))) := by
    have e : ((xs.length : Int) + 1 : Int).toNat = xs.length + 1 + 0 := by omega
    rw [e]
    exact hS.c2
  have R4 : Hid (1 + (cnt (ys.take (0 : Int).toNat) : Int) = 1 + (cj : Int)) := by
    have e : (0 : Int).toNat = 0 := by omega
    rw [e]
    exact hS.b
  have R5 : Hid (n < 0 → 1 + (cnt (zs.take n.toNat) : Int) = 1) := fun h => by
    have e : n.toNat = 0 := by omega
    rw [e]; rfl
  have R6 : Hid (1 + (cnt (zs.take (0 : Int).toNat) : Int) = 1) := rfl
  by_cases hn : n < 0
  · go_enter Try.func4, Try.ntmps4
    go_wp2_with (first
      | (go_at_call 8; refine (zz8 _ _ _ _ _ _ _ _ (by omega) _).mono ?_; rintro e w' ⟨rfl, rfl⟩)
      | (refine wpList_copy_splice rfl (.tmp 44) (.tmp 45) 22 22 rfl 5 Try.underlying22 Try.size5 (some ⟨w.heap.size, 0, none⟩) (some x) xs.length xs.length xs.length ca rfl rfl w.heap.size 0 M 5 hg (bs xs) K1.out (fun _ => ⟨rfl, x, rfl, fun j v hj => cell_later hb (HCA.out j v hj)⟩) K3.out h1 w.heap.size w hb (Nat.le_refl _) ?_; intro wa HG hBa; rw [K4.out] at HG; have BA := row_buf HG.out (Nat.le_refl _) (by omega) HX.out; have BB : Buf wa (.slice none 0 0) ys := ⟨HY.out, .inl ⟨rfl, List.eq_nil_of_length_eq_zero hys⟩⟩)
      | (at_builtin; refine app_buf rfl (.tmp 64) (.tmp 65) rfl wa.heap.size wa _ _ _ [] xs rfl rfl (World.ownsRow_made (base := wa.heap.size) (e := 5) (size := 1) wa C.toArray _ (Nat.le_refl _) (by unfold maxLen; omega) (by have := HC.out; simp; omega)) ((Below.refl _ _).alloc (Nat.le_refl _) _) (by simp) (BA.later ((Below.refl _ _).alloc (Nat.le_refl _) _)) (by simp; omega) ?_; intro v1 w1 ow1 be1 si1; rw [List.nil_append] at ow1)
      | (at_builtin; refine app_buf rfl (.tmp 67) (.tmp 68) rfl wa.heap.size wa _ _ _ xs [10] rfl rfl (ow1.alloc _) (be1.alloc si1 _) (by simp; omega) (row_buf (xs := [10]) (M := []) (heap_alloc_new _ _) (Nat.le_refl _) (by simp) (by simp)) (by simp; omega) ?_; intro v2 w2 ow2 be2 si2)
      | (at_builtin; refine app_buf rfl (.tmp 70) (.tmp 71) rfl wa.heap.size wa _ _ _ (xs ++ [10]) ys rfl rfl ow2 be2 si2 (BB.later be2) (by simp; omega) ?_; intro v3 w3 ow3 be3 si3; rw [← HZ.out] at ow3; have BC := own_buf ow3 hz0.out (by omega); have BA3 := BA.later be3; have BB3 := BB.later be3)
      | (go_at_call 7; refine (line_is BA3 (xs.length : Int) _ (by omega) R0.out).mono ?_; rintro e w4 ⟨rfl, b4⟩; have BC4 := BC.later b4)
      | (go_at_call 7; refine (line_is BC4 (xs.length : Int) _ (by omega) R1.out).mono ?_; rintro e w5 ⟨rfl, b5⟩; have BC5 := BC4.later b5)
      | (go_at_call 7; refine (line_is BC5 ((xs.length : Int) + 1) _ (by omega) R2.out).mono ?_; rintro e w6 ⟨rfl, b6⟩; have BC6 := BC5.later b6)
      | (go_at_call 7; refine (line_is BC6 ((xs.length : Int) + 1) _ (by omega) R3.out).mono ?_; rintro e w7 ⟨rfl, b7⟩; have BC7 := BC6.later b7; have BB7 := (((BB3.later b4).later b5).later b6).later b7)
      | (go_at_call 7; refine (line_is BB7 0 _ (by omega) R4.out).mono ?_; rintro e w8 ⟨rfl, b8⟩; have BC8 := BC7.later b8)
      | (go_at_call 7; refine (line_is BC8 n _ (by omega) (R5.out hn)).mono ?_; rintro e w9 ⟨rfl, b9⟩; have BC9 := BC8.later b9)
      | (go_at_call 7; refine (line_is BC9 0 _ (by omega) R6.out).mono ?_; rintro e w10 ⟨rfl, b10⟩))
    go_ret
    have c0 := hBa
    have c1 := c0.trans (be3.mono c0.size)
    have c2 := c1.trans (b4.mono c1.size)
    have c3 := c2.trans (b5.mono c2.size)
    have c4 := c3.trans (b6.mono c3.size)
    have c5 := c4.trans (b7.mono c4.size)
    have c6 := c5.trans (b8.mono c5.size)
    have c7 := c6.trans (b9.mono c6.size)
    have c8 := c7.trans (b10.mono c7.size)
    exact ⟨rfl, c8⟩
  · go_enter Try.func4, Try.ntmps4
    go_wp2_with (first
      | (go_at_call 8; refine (zz8 _ _ _ _ _ _ _ _ (by omega) _).mono ?_; rintro e w' ⟨rfl, rfl⟩)
      | (refine wpList_copy_splice rfl (.tmp 44) (.tmp 45) 22 22 rfl 5 Try.underlying22 Try.size5 (some ⟨w.heap.size, 0, none⟩) (some x) xs.length xs.length xs.length ca rfl rfl w.heap.size 0 M 5 hg (bs xs) K1.out (fun _ => ⟨rfl, x, rfl, fun j v hj => cell_later hb (HCA.out j v hj)⟩) K3.out h1 w.heap.size w hb (Nat.le_refl _) ?_; intro wa HG hBa; rw [K4.out] at HG; have BA := row_buf HG.out (Nat.le_refl _) (by omega) HX.out; have BB : Buf wa (.slice none 0 0) ys := ⟨HY.out, .inl ⟨rfl, List.eq_nil_of_length_eq_zero hys⟩⟩)
      | (at_builtin; refine app_buf rfl (.tmp 64) (.tmp 65) rfl wa.heap.size wa _ _ _ [] xs rfl rfl (World.ownsRow_made (base := wa.heap.size) (e := 5) (size := 1) wa C.toArray _ (Nat.le_refl _) (by unfold maxLen; omega) (by have := HC.out; simp; omega)) ((Below.refl _ _).alloc (Nat.le_refl _) _) (by simp) (BA.later ((Below.refl _ _).alloc (Nat.le_refl _) _)) (by simp; omega) ?_; intro v1 w1 ow1 be1 si1; rw [List.nil_append] at ow1)
      | (at_builtin; refine app_buf rfl (.tmp 67) (.tmp 68) rfl wa.heap.size wa _ _ _ xs [10] rfl rfl (ow1.alloc _) (be1.alloc si1 _) (by simp; omega) (row_buf (xs := [10]) (M := []) (heap_alloc_new _ _) (Nat.le_refl _) (by simp) (by simp)) (by simp; omega) ?_; intro v2 w2 ow2 be2 si2)
      | (at_builtin; refine app_buf rfl (.tmp 70) (.tmp 71) rfl wa.heap.size wa _ _ _ (xs ++ [10]) ys rfl rfl ow2 be2 si2 (BB.later be2) (by simp; omega) ?_; intro v3 w3 ow3 be3 si3; rw [← HZ.out] at ow3; have BC := own_buf ow3 hz0.out (by omega); have BA3 := BA.later be3; have BB3 := BB.later be3)
      | (go_at_call 7; refine (line_is BA3 (xs.length : Int) _ (by omega) R0.out).mono ?_; rintro e w4 ⟨rfl, b4⟩; have BC4 := BC.later b4)
      | (go_at_call 7; refine (line_is BC4 (xs.length : Int) _ (by omega) R1.out).mono ?_; rintro e w5 ⟨rfl, b5⟩; have BC5 := BC4.later b5)
      | (go_at_call 7; refine (line_is BC5 ((xs.length : Int) + 1) _ (by omega) R2.out).mono ?_; rintro e w6 ⟨rfl, b6⟩; have BC6 := BC5.later b6)
      | (go_at_call 7; refine (line_is BC6 ((xs.length : Int) + 1) _ (by omega) R3.out).mono ?_; rintro e w7 ⟨rfl, b7⟩; have BC7 := BC6.later b7; have BB7 := (((BB3.later b4).later b5).later b6).later b7)
      | (go_at_call 7; refine (line_is BB7 0 _ (by omega) R4.out).mono ?_; rintro e w8 ⟨rfl, b8⟩; have BC8 := BC7.later b8))
    go_ret
    have c0 := hBa
    have c1 := c0.trans (be3.mono c0.size)
    have c2 := c1.trans (b4.mono c1.size)
    have c3 := c2.trans (b5.mono c2.size)
    have c4 := c3.trans (b6.mono c3.size)
    have c5 := c4.trans (b7.mono c4.size)
    have c6 := c5.trans (b8.mono c5.size)
    exact ⟨rfl, c6⟩

end Go.Proofs.Qxb6612802a
