import Derived.Test.Qxb6612802aLine
import Derived.Laws.Cover3
namespace Go.Proofs.Qxb6612802a
open Go.RowKit

theorem made (len c : Nat) (h : len ≤ c) (h : c ≤ 3000000) : ∃ M : List Value, M.length = c ∧ ∀ w : World, (Instr.makeSlice 22 (.int .i64 (len : Int)) (.int .i64 (c : Int))).run Try.prog w = .ok (.slice (some ⟨w.heap.size, 0, none⟩) len c) (w.alloc (.cells M.toArray 5)) := by
  obtain ⟨i0, hi, hz0, hz1, hz2⟩ := info_parts Try.info5
  refine ⟨(madeCells (Value.int .u8 0).cells (c * 1)).toList, by simp [size_madeCells], fun w => ?_⟩
  have := run_make (P := Try.prog) w 22 5 i0 (.int .u8 0) Try.underlying22 hi hz0 .i64 .i64 (len : Int) (c : Int) (by omega) (by omega) (by rw [hz2]; omega) (by omega)
  rw [hz1] at this
  simpa using this

def bs (l : List Int) : List Value := l.map (Value.int .u8)
theorem bs_len (l : List Int) : (bs l).length = l.length := by simp [bs]
theorem bs_at {l : List Int} {j : Nat} (h : j < l.length) : (bs l)[j]? = some (.int .u8 (l.getD j 0)) := by simp [bs, h]
theorem bs_one (l : List Int) : ∀ v ∈ bs l, v.oneCell' = true := ints_oneCell _ _
theorem copied {cs M : List Value} (h : M.length = cs.length) : splice M 0 cs = cs := by
  simp [splice, List.drop_of_length_le (by omega : M.length ≤ cs.length)]

theorem row_buf {w : World} {g : Nat} {xs : List Int} {c : Nat} {M : List Value} (hg : w.heap[g]? = some (.cells (bs xs ++ M).toArray 5 (0, 0))) (h : xs.length ≤ c) (hc : c ≤ 3000000) (hx : xs.length ≤ 2000000) : Buf w (.slice (some ⟨g, 0, none⟩) xs.length c) xs := by
  refine ⟨hx, .inr ⟨g, 0, c, rfl, h, by omega, fun i hi => ?_⟩⟩
  have hb := bs_at hi
  have hl : i < (bs xs).length := by rw [bs_len]; exact hi
  simp only [World.cell?, hg, Nat.zero_add, List.getElem?_toArray]
  rw [List.getElem?_append_left hl]
  exact hb

theorem slice_from {n k : Nat} (g : Nat) (h : k ≤ n) : ∃ v, (∀ w : World, (Instr.slice 22 (.slice (some ⟨g, 0, none⟩) n n) (some (.int .i64 (k : Int))) none none).run Try.prog w = .ok v w) ∧ ∀ w xs, xs.length = n → Buf w (.slice (some ⟨g, 0, none⟩) n n) xs → Buf w v (xs.drop k) := by
  refine ⟨.slice (some (if n = k then ⟨g, 0, none⟩ else ⟨g, k, none⟩)) (n - k) (n - k), fun w => ?_, fun w xs hx hB => ?_⟩
  · go_simp
    by_cases e : n = k
    · rw [if_pos e, if_pos e]
    · rw [if_neg e, if_neg e]
  · obtain ⟨hn, ⟨h0, _⟩ | ⟨g', o', c', h1, h2, h3, h4⟩⟩ := hB
    · cases h0
    · subst hx
      cases h1
      refine ⟨by rw [List.length_drop]; omega, .inr ?_⟩
      by_cases e : xs.length = k
      · rw [if_pos e]
        refine ⟨g, 0, xs.length - k, by rw [List.length_drop], by rw [List.length_drop]; exact Nat.le_refl _, by omega, fun i hi => ?_⟩
        rw [List.length_drop] at hi
        omega
      · rw [if_neg e]
        refine ⟨g, k, xs.length - k, by rw [List.length_drop], by rw [List.length_drop]; exact Nat.le_refl _, by omega, fun i hi => ?_⟩
        rw [List.length_drop] at hi
        have := h4 (k + i) (by omega)
        rw [Nat.zero_add] at this
        rw [this]
        simp [List.getD_eq_getElem?_getD, List.getElem?_drop]

theorem slice_one {n k : Nat} (g : Nat) (h : k < n) : (∀ w : World, (Instr.slice 22 (.slice (some ⟨g, 0, none⟩) n n) (some (.int .i64 (k : Int))) (some (.int .i64 ((k : Int) + 1))) none).run Try.prog w = .ok (.slice (some ⟨g, k, none⟩) 1 (n - k)) w) ∧ ∀ w xs, xs.length = n → Buf w (.slice (some ⟨g, 0, none⟩) n n) xs → Buf w (.slice (some ⟨g, k, none⟩) 1 (n - k)) [xs.getD k 0] := by
  refine ⟨fun w => ?_, fun w xs hx hB => ?_⟩
  · go_simp
    rw [if_pos (by omega), if_neg (by omega)]
  · obtain ⟨hn, ⟨h0, _⟩ | ⟨g', o', c', h1, h2, h3, h4⟩⟩ := hB
    · cases h0
    · subst hx
      cases h1
      refine ⟨by simp, .inr ⟨g, k, xs.length - k, rfl, by simp; omega, by omega, fun i hi => ?_⟩⟩
      have := h4 k (by omega)
      rw [Nat.zero_add] at this
      obtain rfl : i = 0 := by simpa using hi
      simpa using this

theorem cell_tail {w : World} {g : Nat} {n k : Nat} {xs : List Int} (hx : xs.length = n) (h : Buf w (.slice (some ⟨g, 0, none⟩) n n) xs) (hk : k < n) : w.cell? ⟨g, k, none⟩ = some (.int .u8 (xs.getD k 0)) := by
  obtain ⟨hn, ⟨h0, _⟩ | ⟨g', o', c', h1, h2, h3, h4⟩⟩ := h
  · cases h0
  · subst hx
    cases h1
    have := h4 k hk
    rwa [Nat.zero_add] at this

theorem cnt_cut (xs : List Int) (k m : Nat) : cnt (xs.take (k + m)) = cnt (xs.take k) + cnt ((xs.drop k).take m) := by
  rw [List.take_add, cnt_app]

set_option maxRecDepth 100000 in
theorem zz6 (a : Option Addr) (n c : Nat) (k m : Int) (hn : n ≤ 1048576) (w : World) :
    Calls Try.prog 6 #[.slice a n c, .int .i64 k, .int .i64 m] w fun e w' => e = .returned (.bool true) ∧ w = w' := by
  go_enter Try.func6, Try.ntmps6
  go_wp2
  go_ret
  exact ⟨rfl, rfl⟩

set_option maxRecDepth 100000 in
theorem zz6_no (a : Option Addr) (n c : Nat) (k m : Int) (hn : ¬ n ≤ 1048576) (w : World) :
    Calls Try.prog 6 #[.slice a n c, .int .i64 k, .int .i64 m] w fun e w' => e = .returned (.bool false) ∧ w = w' := by
  go_enter Try.func6, Try.ntmps6
  go_wp2
  go_ret
  exact ⟨rfl, rfl⟩

set_option maxRecDepth 100000 in
set_option maxHeartbeats 3000000 in
theorem cut_some (x : Addr) (cap : Nat) (xs : List Int) (k m : Nat) (w : World) (hcell : ∀ j v, (bs xs)[j]? = some v → w.cell? (x.add j) = some v) (hu : ∀ z ∈ xs, 0 ≤ z ∧ z < 256) (hlen : xs.length ≤ 1048576) (hkm : k + m ≤ xs.length) :
    Calls Try.prog 3 #[.slice (some x) xs.length cap, .int .i64 k, .int .i64 ((k : Int) + (m : Int))] w fun e w' => e = .returned (.bool true) ∧ Below w.heap.size w w' := by
  obtain ⟨M, hM, hmk⟩ := made xs.length xs.length (Nat.le_refl _) (by omega)
  have hg : (w.alloc (.cells M.toArray 5)).heap[w.heap.size]? = some (.cells M.toArray 5 (0, 0)) := heap_alloc_new _ _
  have hb : Below w.heap.size w (w.alloc (.cells M.toArray 5)) := (Below.refl _ _).alloc (Nat.le_refl _) _
  have HC := hd hcell
  have K1 : Hid ((bs xs).length = Nat.min xs.length xs.length) := by rw [bs_len]; exact (Nat.min_self _).symm
  have K3 : Hid (0 + (bs xs).length ≤ M.length) := by rw [hM, bs_len, Nat.zero_add]; exact Nat.le_refl _
  have K4 : Hid (splice M 0 (bs xs) = bs xs ++ []) := by rw [copied (by rw [hM, bs_len]), List.append_nil]; rfl
  have K5 : Hid (xs.length ≤ 2000000) := by apply hd; omega
  have h1 := bs_one xs
  have HU := hd hu
  clear hcell hM hu
  obtain ⟨v1, hs1, hv1⟩ := slice_from (n := xs.length) (k := k) w.heap.size (by omega)
  have HV1 := hd hv1
  clear hv1
  have HS := cnt_cut xs k m
  have L2 := Nat.le_trans (cnt_le (xs.take k)) (List.length_take_le _ _)
  have L3 := Nat.le_trans (cnt_le ((xs.drop k).take m)) (List.length_take_le _ _)
  have E1 : ((k : Int) + (m : Int)).toNat = k + m := by omega
  have E2 : ((k : Int) + (m : Int) - (k : Int)).toNat = m := by omega
  by_cases hk : k < xs.length
  · obtain ⟨hs2, hv2⟩ := slice_one w.heap.size hk
    have HV2 := hd hv2
    clear hv2
    have hux : 0 ≤ xs.getD k 0 ∧ xs.getD k 0 < 256 := HU.out _ (by rw [List.getD_eq_getElem?_getD, List.getElem?_eq_getElem hk]; exact List.getElem_mem hk)
    have T1 : xs.getD k 0 = 10 → cnt [xs.getD k 0] = 1 := fun e => by rw [e]; exact cnt_ten
    have T2 : ¬ xs.getD k 0 = 10 → cnt [xs.getD k 0] = 0 := cnt_other hux.1 hux.2
    have T := Classical.em (xs.getD k 0 = 10)
    have HV3 : Hid (∀ w : World, Buf w (.slice (some ⟨w.heap.size, 0, none⟩) xs.length xs.length) xs → True) := fun _ _ => trivial
    generalize hch : xs.getD k 0 = ch at *
    have HCH := hd hch
    clear hch hux
    rcases T with T | T
    all_goals
      first | (have hc1 := T1 T) | (have hc1 := T2 T)
      clear T1 T2
      go_enter Try.func3, Try.ntmps3
      go_wp2_with (first
        | (go_at_call 6; refine (zz6 _ _ _ _ _ hlen _).mono ?_; rintro e w' ⟨rfl, rfl⟩)
        | (refine wpList_copy_splice rfl (.tmp 38) (.tmp 39) 22 22 rfl 5 Try.underlying22 Try.size5 (some ⟨w.heap.size, 0, none⟩) (some x) xs.length xs.length xs.length cap rfl rfl w.heap.size 0 M 5 hg (bs xs) K1.out (fun _ => ⟨rfl, x, rfl, fun j v hj => cell_later hb (HC.out j v hj)⟩) K3.out h1 w.heap.size w hb (Nat.le_refl _) ?_; intro w2 HG hB2; rw [K4.out] at HG; have B0 := row_buf HG.out (Nat.le_refl _) (by omega) K5.out)
        | (go_at_call 7; refine (line_any B0 ((k : Int) + (m : Int)) (by omega)).mono ?_; rintro e w3 ⟨rfl, b3⟩; have B1 := B0.later b3)
        | (go_at_call 7; refine (line_any B1 (k : Int) (by omega)).mono ?_; rintro e w4 ⟨rfl, b4⟩; have B2 := B1.later b4; have B3 := HV1.out w4 xs rfl B2)
        | (go_at_call 7; refine (line_any B3 ((k : Int) + (m : Int) - (k : Int)) (by rw [List.length_drop]; omega)).mono ?_; rintro e w5 ⟨rfl, b5⟩; have B4 := B2.later b5; have hcl := cell_tail rfl B4 hk; rw [HCH.out] at hcl; have B5 := HV2.out w5 xs rfl B4; rw [HCH.out] at B5)
        | (go_at_call 7; refine (line_any B5 1 (by simp)).mono ?_; rintro e w6 ⟨rfl, b6⟩))
      go_ret
      exact ⟨rfl, (((hB2.trans (b3.mono hB2.size)).trans (b4.mono (Nat.le_trans hB2.size b3.size))).trans (b5.mono (Nat.le_trans (Nat.le_trans hB2.size b3.size) b4.size))).trans (b6.mono (Nat.le_trans (Nat.le_trans (Nat.le_trans hB2.size b3.size) b4.size) b5.size))⟩
  · go_enter Try.func3, Try.ntmps3
    go_wp2_with (first
      | (go_at_call 6; refine (zz6 _ _ _ _ _ hlen _).mono ?_; rintro e w' ⟨rfl, rfl⟩)
      | (refine wpList_copy_splice rfl (.tmp 38) (.tmp 39) 22 22 rfl 5 Try.underlying22 Try.size5 (some ⟨w.heap.size, 0, none⟩) (some x) xs.length xs.length xs.length cap rfl rfl w.heap.size 0 M 5 hg (bs xs) K1.out (fun _ => ⟨rfl, x, rfl, fun j v hj => cell_later hb (HC.out j v hj)⟩) K3.out h1 w.heap.size w hb (Nat.le_refl _) ?_; intro w2 HG hB2; rw [K4.out] at HG; have B0 := row_buf HG.out (Nat.le_refl _) (by omega) K5.out)
      | (go_at_call 7; refine (line_any B0 ((k : Int) + (m : Int)) (by omega)).mono ?_; rintro e w3 ⟨rfl, b3⟩; have B1 := B0.later b3)
      | (go_at_call 7; refine (line_any B1 (k : Int) (by omega)).mono ?_; rintro e w4 ⟨rfl, b4⟩; have B2 := B1.later b4; have B3 := HV1.out w4 xs rfl B2)
      | (go_at_call 7; refine (line_any B3 ((k : Int) + (m : Int) - (k : Int)) (by rw [List.length_drop]; omega)).mono ?_; rintro e w5 ⟨rfl, b5⟩))
    go_ret
    exact ⟨rfl, ((hB2.trans (b3.mono hB2.size)).trans (b4.mono (Nat.le_trans hB2.size b3.size))).trans (b5.mono (Nat.le_trans (Nat.le_trans hB2.size b3.size) b4.size))⟩
end Go.Proofs.Qxb6612802a
