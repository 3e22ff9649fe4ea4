import Derived.Test.Qxb6613213aLine
import Derived.Laws.Cover3
namespace Go.Proofs.Qxb6613213a
open Go.RowKit

theorem made (len c : Nat) (h : len ≤ c) (h : c ≤ 3000000) : ∃ M : List Value, M.length = c ∧ ∀ w : World, (Instr.makeSlice 27 (.int .i64 (len : Int)) (.int .i64 (c : Int))).run Try.prog w = .ok (.slice (some ⟨w.heap.size, 0, none⟩) len c) (w.alloc (.cells M.toArray 5)) := by
  obtain ⟨i0, hi, hz0, hz1, hz2⟩ := info_parts Try.info5
  refine ⟨(madeCells (Value.int .u8 0).cells (c * 1)).toList, by simp [size_madeCells], fun w => ?_⟩
  have := run_make (P := Try.prog) w 27 5 i0 (.int .u8 0) Try.underlying27 hi hz0 .i64 .i64 (len : Int) (c : Int) (by omega) (by omega) (by rw [hz2]; omega) (by omega)
  rw [hz1] at this
  simpa using this

def bs (l : List Int) : List Value := l.map (Value.int .u8)
theorem bs_len (l : List Int) : (bs l).length = l.length := by simp [bs]
theorem bs_at {l : List Int} {j : Nat} (h : j < l.length) : (bs l)[j]? = some (.int .u8 (l.getD j 0)) := by simp [bs, h]
theorem bs_one (l : List Int) : ∀ v ∈ bs l, v.oneCell' = true := ints_oneCell _ _
theorem copied {cs M : List Value} (h : M.length = cs.length) : splice M 0 cs = cs := by
  simp [splice, List.drop_of_length_le (by omega : M.length ≤ cs.length)]

theorem row_buf {w : World} {g : Nat} {xs : List Int} {c : Nat} {M : List Value} (hg : w.heap[g]? = some (.cells (bs xs ++ M).toArray 5 (0, 0))) (h : xs.length ≤ c) (hc : c ≤ 3000000) (hx : xs.length ≤ 2000000) : Buf w (.slice (some ⟨g, 0, none⟩) xs.length c) xs := by
  refine ⟨hx, .inr ⟨g, 0, c, rfl, h, by omega, fun i hi => ?_⟩⟩
  have hb := bs_at hi
  have hl : i < (bs xs).length := by rw [bs_len]; exact hi
  simp only [World.cell?, hg, Nat.zero_add, List.getElem?_toArray]
  rw [List.getElem?_append_left hl]
  exact hb

theorem slice_from {n k : Nat} (g : Nat) (h : k ≤ n) : ∃ v, (∀ w : World, (Instr.slice 27 (.slice (some ⟨g, 0, none⟩) n n) (some (.int .i64 (k : Int))) none none).run Try.prog w = .ok v w) ∧ ∀ w xs, xs.length = n → Buf w (.slice (some ⟨g, 0, none⟩) n n) xs → Buf w v (xs.drop k) := by
  refine ⟨.slice (some (if n = k then ⟨g, 0, none⟩ else ⟨g, k, none⟩)) (n - k) (n - k), fun w => ?_, fun w xs hx hB => ?_⟩
  · go_simp
    by_cases e : n = k
    · rw [if_pos e, if_pos e]
    · rw [if_neg e, if_neg e]
  · obtain ⟨hn, ⟨h0, _⟩ | ⟨g', o', c', h1, h2, h3, h4⟩⟩ := hB
    · cases h0
    · subst hx
      cases h1
      refine ⟨by rw [List.length_drop]; omega, .inr ?_⟩
      by_cases e : xs.length = k
      · rw [if_pos e]
        refine ⟨g, 0, xs.length - k, by rw [List.length_drop], by rw [List.length_drop]; exact Nat.le_refl _, by omega, fun i hi => ?_⟩
        rw [List.length_drop] at hi
        omega
      · rw [if_neg e]
        refine ⟨g, k, xs.length - k, by rw [List.length_drop], by rw [List.length_drop]; exact Nat.le_refl _, by omega, fun i hi => ?_⟩
        rw [List.length_drop] at hi
        have := h4 (k + i) (by omega)
        rw [Nat.zero_add] at this
        rw [this]
        simp [List.getD_eq_getElem?_getD, List.getElem?_drop]

theorem slice_head {n k : Nat} (g : Nat) (h : k ≤ n) : (∀ w : World, (Instr.slice 27 (.slice (some ⟨g, 0, none⟩) n n) none (some (.int .i64 (k : Int))) none).run Try.prog w = .ok (.slice (some ⟨g, 0, none⟩) k n) w) ∧ ∀ w xs, xs.length = n → Buf w (.slice (some ⟨g, 0, none⟩) n n) xs → Buf w (.slice (some ⟨g, 0, none⟩) k n) (xs.take k) := by
  refine ⟨fun w => slice_to g 0 n n k h w, fun w xs hx hB => ?_⟩
  obtain ⟨hn, ⟨h0, _⟩ | ⟨g', o', c', h1, h2, h3, h4⟩⟩ := hB
  · cases h0
  · subst hx
    cases h1
    have hl : (xs.take k).length = k := by rw [List.length_take]; omega
    refine ⟨by omega, .inr ⟨g, 0, xs.length, by rw [hl], by omega, by omega, fun i hi => ?_⟩⟩
    rw [h4 i (by omega)]
    simp only [List.getD_eq_getElem?_getD]
    rw [List.getElem?_take_of_lt (by omega)]

theorem cell_tail {w : World} {g : Nat} {n k : Nat} {xs : List Int} (hx : xs.length = n) (h : Buf w (.slice (some ⟨g, 0, none⟩) n n) xs) (hk : k < n) : w.cell? ⟨g, k, none⟩ = some (.int .u8 (xs.getD k 0)) := by
  obtain ⟨hn, ⟨h0, _⟩ | ⟨g', o', c', h1, h2, h3, h4⟩⟩ := h
  · cases h0
  · subst hx
    cases h1
    have := h4 k hk
    rwa [Nat.zero_add] at this

theorem cnt_cut (xs : List Int) (k m : Nat) : cnt (xs.take (k + m)) = cnt (xs.take k) + cnt ((xs.drop k).take m) := by
  rw [List.take_add, cnt_app]


theorem line_is {w : World} {v : Value} {xs : List Int} (h : Buf w v xs) (k r : Int) (hk : 0 ≤ k) (hr : 1 + (cnt (xs.take k.toNat) : Int) = r) :
    Calls Try.prog 9 #[v, .int .i64 k] w fun e w' => e = .returned (.int .i64 r) ∧ Below w.heap.size w w' := by
  rw [← hr]
  exact line_any h k hk

set_option maxRecDepth 100000 in
theorem zz8 (a : Option Addr) (n c : Nat) (k m : Int) (hn : n ≤ 1048576) (w : World) :
    Calls Try.prog 8 #[.slice a n c, .int .i64 k, .int .i64 m] w fun e w' => e = .returned (.bool true) ∧ w = w' := by
  go_enter Try.func8, Try.ntmps8
  go_wp2
  go_ret
  exact ⟨rfl, rfl⟩

set_option maxRecDepth 100000 in
theorem zz8_no (a : Option Addr) (n c : Nat) (k m : Int) (hn : ¬ n ≤ 1048576) (w : World) :
    Calls Try.prog 8 #[.slice a n c, .int .i64 k, .int .i64 m] w fun e w' => e = .returned (.bool false) ∧ w = w' := by
  go_enter Try.func8, Try.ntmps8
  go_wp2
  go_ret
  exact ⟨rfl, rfl⟩

set_option maxRecDepth 100000 in
theorem zz10 (a : Option Addr) (n c : Nat) (k : Int) (hn : n ≤ 1048576) (w : World) :
    Calls Try.prog 10 #[.slice a n c, .int .i64 k] w fun e w' => e = .returned (.bool true) ∧ w = w' := by
  go_enter Try.func10, Try.ntmps10
  go_wp2
  go_ret
  exact ⟨rfl, rfl⟩

set_option maxRecDepth 100000 in
theorem zz10_no (a : Option Addr) (n c : Nat) (k : Int) (hn : ¬ n ≤ 1048576) (w : World) :
    Calls Try.prog 10 #[.slice a n c, .int .i64 k] w fun e w' => e = .returned (.bool false) ∧ w = w' := by
  go_enter Try.func10, Try.ntmps10
  go_wp2
  go_ret
  exact ⟨rfl, rfl⟩

theorem slice_nil (w : World) : (Instr.slice 27 (.slice none 0 0) (some (.int .i64 0)) none none).run Try.prog w = .ok (.slice none 0 0) w := by
  go_simp

theorem row_src {w : World} {x : Addr} {z0 : List Int} {len0 : Nat} (hl : len0 ≤ z0.length) (hcell : ∀ i, i < z0.length → w.cell? (x.add i) = some (.int .u8 (z0.getD i 0))) : ∀ j v, (bs (z0.take len0))[j]? = some v → w.cell? (x.add j) = some v := by
  intro j v hj
  have hlt : (z0.take len0).length = len0 := by rw [List.length_take]; omega
  have hj' : j < (z0.take len0).length := by
    have := (List.getElem?_eq_some_iff.1 hj).1
    rwa [bs_len] at this
  rw [bs_at hj'] at hj
  have hj2 : j < z0.length := by omega
  rw [hcell j hj2, ← hj]
  simp only [List.getD_eq_getElem?_getD]
  rw [List.getElem?_take_of_lt (by omega)]

end Go.Proofs.Qxb6613213a
