import Derived.Test.Qxb6612802aCut
import Derived.Laws.AppendOwnNone
namespace Go.Proofs.Qxb6612802a
open Go.RowKit

theorem line_is {w : World} {v : Value} {xs : List Int} (h : Buf w v xs) (k r : Int) (hk : k ≤ xs.length) (hr : 1 + (cnt (xs.take k.toNat) : Int) = r) :
    Calls Try.prog 7 #[v, .int .i64 k] w fun e w' => e = .returned (.int .i64 r) ∧ Below w.heap.size w w' := by
  rw [← hr]
  exact line_any h k hk

theorem Buf.cells {w : World} {v : Value} {xs : List Int} (h : Buf w v xs) : (v = .slice none 0 0 ∧ xs = []) ∨ ∃ ad c, v = .slice (some ad) xs.length c ∧ ∀ j u, (bs xs)[j]? = some u → w.cell? (ad.add j) = some u := by
  rcases h.2 with h | ⟨g, o, c, rfl, _, _, h4⟩
  · exact .inl h
  · refine .inr ⟨⟨g, o, none⟩, c, rfl, fun j u hj => ?_⟩
    have hj' : j < xs.length := by
      have := (List.getElem?_eq_some_iff.1 hj).1
      rwa [bs_len] at this
    rw [bs_at hj'] at hj
    have e : (⟨g, o, none⟩ : Addr).add j = ⟨g, o + j, none⟩ := by unfold Addr.add; split <;> simp_all
    rw [e, h4 j hj', ← hj]

/-- 'c = append(c, a...)', a nil or not -/
theorem app_buf {ops : Array Oper} {rest : List Oper} {o : Oper} {a : Act} {Q : Exit → Act → World → Prop} (hgd : o.guard = none) (s x : Operand)
    (ho : o.op = .call { callee := .builtin .append, args := #[s, x], argTypes := #[22, 22] })
    (B : Nat) (w0 W : World) (v u : Value) (L ys : List Int) (hs : a.eval s = v) (hx : a.eval x = u)
    (hown : W.ownsRow B 5 1 v L.length (bs L)) (hbel : Below B w0 W) (hB : B ≤ W.heap.size) (hu : Buf W u ys) (hlen : L.length + ys.length ≤ 100000000)
    (h : ∀ v' w1, w1.ownsRow B 5 1 v' (L ++ ys).length (bs (L ++ ys)) → Below B w0 w1 → B ≤ w1.heap.size → wpList Try.prog ops Q rest (a.put o.dst v') w1) : wpList Try.prog ops Q (o :: rest) a W := by
  obtain ⟨i0, hi, hz0, hz1, hz2⟩ := info_parts Try.info5
  rcases hu.cells with ⟨rfl, rfl⟩ | ⟨ad, c, rfl, hc⟩
  · refine wpList_append_own_none hgd s x 22 ho B 5 i0 1 Try.underlying22 hi v L.length (bs L) hs hown hx (h v W ?_ hbel hB)
    rw [List.append_nil]
    exact hown
  · refine wpList_append_own W hgd s x 22 ho B 5 i0 (.int .u8 0) 1 1 Try.underlying22 hi hz0 hz1 hz2 rfl (by decide) v L.length (bs L) hs hown ad ys.length c (bs ys) hx (by rw [bs_len]; omega) hc (bs_one _) (by unfold maxLen; omega) (by omega) hB ?_
    intro v' w1 h2 h3 _
    refine h v' w1 ?_ (hbel.grown h3 hB (fun k hk => (World.ownsRow.lt hown k hk).1)) (Nat.le_trans hB h3.size)
    rw [List.length_append]
    have e : bs (L ++ ys) = bs L ++ bs ys := by simp [bs]
    rw [e]
    exact h2

theorem own_buf {w : World} {B : Nat} {v : Value} {L : List Int} (h : w.ownsRow B 5 1 v L.length (bs L)) (h0 : L ≠ []) (hl : L.length ≤ 2000000) : Buf w v L := by
  refine ⟨hl, .inr ?_⟩
  rcases h.2 with ⟨_, h1⟩ | ⟨g, cap, cur, rfl, _, hg, h2, h3, _⟩
  · exact absurd (List.eq_nil_of_length_eq_zero h1) h0
  · refine ⟨g, 0, cap, rfl, h2, by unfold maxLen at h3; omega, fun i hi => ?_⟩
    rw [Nat.zero_add, h.cellAt i (by omega), bs_at hi]

set_option maxRecDepth 100000 in
theorem zz8 (a b : Option Addr) (n c n' c' : Nat) (k m : Int) (hn : n + n' ≤ 1048576) (w : World) :
    Calls Try.prog 8 #[.slice a n c, .slice b n' c', .int .i64 k, .int .i64 m] w fun e w' => e = .returned (.bool true) ∧ w = w' := by
  go_enter Try.func8, Try.ntmps8
  go_wp2
  go_ret
  exact ⟨rfl, rfl⟩

set_option maxRecDepth 100000 in
theorem zz8_no (a b : Option Addr) (n c n' c' : Nat) (k m : Int) (hn : ¬ n + n' ≤ 1048576) (w : World) :
    Calls Try.prog 8 #[.slice a n c, .slice b n' c', .int .i64 k, .int .i64 m] w fun e w' => e = .returned (.bool false) ∧ w = w' := by
  by_cases h1 : n ≤ 1048576
  · by_cases h2 : n' ≤ 1048576
    · go_enter Try.func8, Try.ntmps8
      go_wp2
      go_ret
      exact ⟨rfl, rfl⟩
    · go_enter Try.func8, Try.ntmps8
      go_wp2
      go_ret
      exact ⟨rfl, rfl⟩
  · go_enter Try.func8, Try.ntmps8
    go_wp2
    go_ret
    exact ⟨rfl, rfl⟩

set_option maxRecDepth 100000 in
set_option maxHeartbeats 3000000 in
theorem nl_out (a b : Option Addr) (n c n' c' : Nat) (j m : Int) (w : World) (h : ¬ n + n' ≤ 1048576 ∨ (n + n' ≤ 1048576 ∧ (j < 0 ∨ (0 ≤ j ∧ (n' : Int) < j)))) :
    Calls Try.prog 4 #[.slice a n c, .slice b n' c', .int .i64 j, .int .i64 m] w fun e w' => e = .returned (.bool true) ∧ Below w.heap.size w w' := by
  rcases h with h | ⟨hn, h | ⟨h1, h2⟩⟩
  · go_enter Try.func4, Try.ntmps4
    go_wp2_with (go_at_call 8; refine (zz8_no _ _ _ _ _ _ _ _ h _).mono ?_; rintro e w' ⟨rfl, rfl⟩)
    go_ret
    exact ⟨rfl, Below.refl _ _⟩
  all_goals
    go_enter Try.func4, Try.ntmps4
    go_wp2_with (go_at_call 8; refine (zz8 _ _ _ _ _ _ _ _ hn _).mono ?_; rintro e w' ⟨rfl, rfl⟩)
    go_ret
    exact ⟨rfl, Below.refl _ _⟩

/-- what lineAt answers along c = a + newline + b -/
structure Says (xs ys zs : List Int) (j : Nat) (cx cj : Nat) : Prop where
  len : zs.length = xs.length + 1 + ys.length
  a : 1 + (cnt (xs.take xs.length) : Int) = 1 + (cx : Int)
  c0 : 1 + (cnt (zs.take xs.length) : Int) = 1 + (cx : Int)
  c1 : 1 + (cnt (zs.take (xs.length + 1)) : Int) = 1 + (cx : Int) + 1
  c2 : 1 + (cnt (zs.take (xs.length + 1 + j)) : Int) = 1 + (cx : Int) + (1 + (cj : Int))
  b : 1 + (cnt (ys.take j) : Int) = 1 + (cj : Int)
  lx : cx ≤ xs.length
  lj : cj ≤ ys.length

theorem says (xs ys : List Int) (j : Nat) : Says xs ys (xs ++ [10] ++ ys) j (cnt xs) (cnt (ys.take j)) := by
  have e1 : (xs ++ [10] ++ ys).take (xs.length + 1) = xs ++ [10] := List.take_left' (by simp)
  have e0 : (xs ++ [10] ++ ys).take xs.length = xs := by rw [List.append_assoc]; exact List.take_left' rfl
  have ej : (xs ++ [10] ++ ys).take (xs.length + 1 + j) = xs ++ [10] ++ ys.take j := by
    have : xs.length + 1 = (xs ++ [10]).length := by simp
    rw [this, List.take_length_add_append]
  refine ⟨by simp; omega, by rw [List.take_length], by rw [e0], ?_, ?_, rfl, cnt_le _, Nat.le_trans (cnt_le _) (List.length_take_le' _ _)⟩
  · rw [e1, cnt_app, cnt_ten]; omega
  · rw [ej, cnt_app, cnt_app, cnt_ten]; omega

end Go.Proofs.Qxb6612802a
