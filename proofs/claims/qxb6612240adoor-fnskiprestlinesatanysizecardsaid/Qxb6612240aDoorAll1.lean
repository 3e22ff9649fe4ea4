import Derived.Test.Qxb6612240aDoorAll
import Derived.Deep.LoopGhost
namespace Go.Proofs.Qxb6612240aDoor
open Go.RowKit

/-- the slice value v reads as the bytes L -/
def Reads (w : World) (v : Value) (L : List Int) : Prop :=
  ∃ (g C : Nat), v = .slice (some ⟨g, 0, none⟩) L.length C ∧ L.length ≤ C ∧ ∀ i, i < L.length → w.cell? ⟨g, i, none⟩ = some (.int .u8 (L.getD i 0))

section
variable {w0 w w2 : World} {rr br bb : Nat} {aE aF : Addr} {da : Option Addr} {D : List Int} {N : Nat} {R0 R : List Int} {g l C : Nat} {cur : List Int} {cks : List Ck} {cv : Value}

theorem splice_nothing (cur : List Int) (l : Nat) : splice cur l [] = cur := by simp [splice]

theorem Ra.stay (h : Ra w0 w rr br bb aE aF da D N R0 [] g l C cur cks cv) (q2 : Brd w2 rr br bb aE aF da D N []) (q3 : Keeps [rr, br, bb] w w2) :
    Ra w0 w2 rr br bb aE aF da D N R0 [] g l C cur cks cv := by
  have ho := h.1.ord
  have h2 := h.2.1
  have hrow := q3.row h.2.2.2.1 (by simp; omega)
  have := h.read (w2 := w2) (m := 0) (by have := h.2.2.2.2.2.1; omega) (Nat.zero_le _) (by rw [List.take_zero, splice_nothing]; exact hrow) q2 (q3.mono (by simp))
  rw [List.take_zero, splice_nothing] at this
  exact this

theorem Ra.alone (h : Ra w0 w rr br bb aE aF da D N R0 [] g l C cur [] cv) : Reads w (.slice (some ⟨g, 0, none⟩) l C) R0 := by
  have ht := h.total
  obtain ⟨h1, h2, h3, h4, h5, h6, h7, h8, h9, h10, h11⟩ := h
  simp only [List.flatMap_nil, List.nil_append, List.append_nil] at h9
  have hl : R0.length = l := by simp [sumL] at ht; omega
  refine ⟨g, C, by rw [hl], by omega, fun i hi => ?_⟩
  refine row_cell h4 ?_
  have hi2 : i < cur.length := by omega
  have := bs_at hi2
  rw [List.getElem?_toArray, this, ← h9]
  simp only [List.getD_eq_getElem?_getD]
  rw [List.getElem?_take_of_lt (by omega)]
end

theorem bs_app (a b : List Int) : bs (a ++ b) = bs a ++ bs b := by simp [bs]

/-- 'final = append(final, chunk...)' -/
theorem appB_plain {ops : Array Oper} {rest : List Oper} {o : Oper} {a : Act} {Q : Exit → Act → World → Prop} (hgd : o.guard = none) (s x : Operand)
    (ho : o.op = .call { callee := .builtin .append, args := #[s, x], argTypes := #[22, 22] }) (B : Nat) (w0 W : World) (v : Value) (L : List Int) (g l C : Nat) (cur : List Int) (hs : a.eval s = v) (hx : a.eval x = .slice (some ⟨g, 0, none⟩) l C)
    (hown : W.ownsRow B 5 1 v L.length (bs L)) (hbel : Below B w0 W) (hB : B ≤ W.heap.size) (hg : W.heap[g]? = some (.cells (bs cur).toArray 5 (0, 0))) (hl : l ≤ cur.length) (hlen : L.length + l ≤ 100000000)
    (h : ∀ v' w1, w1.ownsRow B 5 1 v' (L ++ cur.take l).length (bs (L ++ cur.take l)) → Below B w0 w1 → B ≤ w1.heap.size → wpList Tryd.prog ops Q rest (a.put o.dst v') w1) : wpList Tryd.prog ops Q (o :: rest) a W := by
  obtain ⟨i0, hi, hz0, hz1, hz2⟩ := info_parts Tryd.info5
  have hlt : (cur.take l).length = l := by rw [List.length_take]; omega
  refine wpList_append_own W hgd s x 22 ho B 5 i0 (.int .u8 0) 1 1 Tryd.underlying22 hi hz0 hz1 hz2 rfl (by decide) v L.length (bs L) hs hown ⟨g, 0, none⟩ l C (bs (cur.take l)) hx (by rw [bs_len, hlt]; omega) ?_ (bs_one _) (by unfold maxLen; omega) (by omega) hB ?_
  · intro j u hu
    have := row_src (i := 0) (m := l) hg j u (by simpa using hu)
    exact this
  · intro v' w1 h2 h3 _
    refine h v' w1 ?_ (hbel.grown h3 hB (fun k hk => (World.ownsRow.lt hown k hk).1)) (Nat.le_trans hB h3.size)
    rw [List.length_append, hlt, bs_app]
    exact h2

theorem own_reads {w : World} {B : Nat} {v : Value} {L : List Int} (h : w.ownsRow B 5 1 v L.length (bs L)) (h0 : 0 < L.length) : Reads w v L := by
  rcases h.2 with ⟨_, h1⟩ | ⟨g, cap, cur, rfl, _, hg, h2, h3, _⟩
  · omega
  · refine ⟨g, cap, rfl, h2, fun i hi => ?_⟩
    rw [h.cellAt i (by omega), bs_at hi]

/-- the row that 'append([]byte(nil), make(n)...)[:0]' owns -/
theorem own_zero {w : World} {g C : Nat} (hg : w.heap[g]? = some (.cells (bs (List.replicate C 0)).toArray 5 (0, 0))) (hC : C ≤ 9223372036854775807) : w.ownsRow g 5 1 (.slice (some ⟨g, 0, none⟩) 0 C) ([] : List Int).length (bs []) :=
  ⟨rfl, .inr ⟨g, C, _, rfl, Nat.le_refl _, hg, Nat.zero_le _, by unfold maxLen; exact hC, by simp [bs], by simp [bs]⟩⟩

theorem slice_zero (g l C : Nat) (w : World) : (Instr.slice 22 (.slice (some ⟨g, 0, none⟩) l C) none (some (.int .i64 0)) none).run Tryd.prog w = .ok (.slice (some ⟨g, 0, none⟩) 0 C) w := by
  go_simp

theorem flat_take (cks : List Ck) (j : Nat) (h : j < cks.length) : (cks.take (j + 1)).flatMap Ck.bytes = (cks.take j).flatMap Ck.bytes ++ (cks[j]'h).cur.take (cks[j]'h).l := by
  rw [List.take_succ_eq_append_getElem h, List.flatMap_append]
  simp [Ck.bytes]
theorem sumL_take (cks : List Ck) (j : Nat) : sumL (cks.take j) ≤ sumL cks := by
  induction cks generalizing j with
  | nil => simp [sumL]
  | cons x r ih =>
    cases j with
    | zero => simp [sumL]
    | succ j => have := ih j; simp [sumL]; omega

end Go.Proofs.Qxb6612240aDoor
