import Derived.Test.Qxb6612240aDoorZeros
import Derived.Deep.AppendLies
namespace Go.Proofs.Qxb6612240aDoor
open Go.RowKit

/-- a chunk: the first l bytes of the row g -/
structure Ck where
  g : Nat
  l : Nat
  C : Nat
  cur : List Int
def Ck.val (c : Ck) : Value := .slice (some ⟨c.g, 0, none⟩) c.l c.C
def Ck.bytes (c : Ck) : List Int := c.cur.take c.l
def Ck.ok (c : Ck) (w : World) (lo hi : Nat) : Prop := lo < c.g ∧ c.g < hi ∧ w.heap[c.g]? = some (.cells (bs c.cur).toArray 5 (0, 0)) ∧ c.cur.length = c.C ∧ c.l ≤ c.C

/-- what ReadAll has at its loop's head -/
def Ra (w0 w : World) (rr br bb : Nat) (aE aF : Addr) (da : Option Addr) (D : List Int) (N : Nat) (R0 R : List Int) (g l C : Nat) (cur : List Int) (cks : List Ck) (cv : Value) : Prop :=
  Brd w rr br bb aE aF da D N R ∧ bb < g ∧ w0.heap.size ≤ g ∧ w.heap[g]? = some (.cells (bs cur).toArray 5 (0, 0)) ∧ cur.length = C ∧ l ≤ C ∧ (∀ c ∈ cks, c.ok w bb g ∧ w0.heap.size ≤ c.g) ∧
    w.ownsRow w0.heap.size 22 1 cv cks.length (cks.map Ck.val) ∧ (cks.flatMap Ck.bytes) ++ (cur.take l ++ R) = R0 ∧ Keeps [rr, br, bb] w0 w ∧ bb < w0.heap.size

/-- the slice value v holds the bytes L -/
def HoldsB (w : World) (v : Value) (L : List Int) : Prop :=
  ∃ (g C : Nat) (cur : List Int), v = .slice (some ⟨g, 0, none⟩) L.length C ∧ w.heap[g]? = some (.cells (bs cur).toArray 5 (0, 0)) ∧ cur.take L.length = L ∧ L.length ≤ C

def sumL : List Ck → Nat
  | [] => 0
  | c :: r => c.l + sumL r
theorem sumL_append (a : List Ck) (c : Ck) : sumL (a ++ [c]) = sumL a + c.l := by
  induction a with
  | nil => simp [sumL]
  | cons x r ih => simp [sumL, ih]; omega
theorem sumL_bytes (a : List Ck) (w : World) (lo hi : Nat) (h : ∀ c ∈ a, c.ok w lo hi) : (a.flatMap Ck.bytes).length = sumL a := by
  induction a with
  | nil => rfl
  | cons x r ih =>
    have hx := h x (List.mem_cons_self ..)
    have := ih fun c hc => h c (List.mem_cons_of_mem _ hc)
    simp only [List.flatMap_cons, List.length_append, sumL, this, Ck.bytes, List.length_take]
    have h4 := hx.2.2.2.1
    have h5 := hx.2.2.2.2
    omega

theorem slice_room (g l C : Nat) (h : l < C) (w : World) : (Instr.slice 22 (.slice (some ⟨g, 0, none⟩) l C) (some (.int .i64 (l : Int))) (some (.int .i64 (C : Int))) none).run Tryd.prog w = .ok (.slice (some ⟨g, l, none⟩) (C - l) (C - l)) w := by
  have h1 : l ≤ C := by omega
  have h2 : ¬ C = l := by omega
  go_simp
theorem nil_brd (a : Addr) (w : World) : (nilAhead 186 36 (.pointer (some a)) "Read").run Tryd.prog w = .ok (some false) w := by kernel_rfl
theorem method_brd (a : Addr) (w : World) : (method 186 36 (.pointer (some a)) "Read").run Tryd.prog w = .ok (40, .pointer (some a)) w := by kernel_rfl
theorem made_bytes (n : Nat) : madeCells (Value.int .u8 0).cells n = (bs (List.replicate n 0)).toArray := by
  have e : (Value.int .u8 0).cells = #[Value.int .u8 0] := rfl
  apply Array.ext
  · simp [madeCells, bs]
  · intro i h1 h2
    simp [madeCells, bs, Nat.mod_one, e]
theorem make_bytes (l n : Nat) (hl : l ≤ n) (h : n ≤ 100000000) : ∃ cur : List Int, cur.length = n ∧ (∀ x ∈ cur, x = 0) ∧ ∀ w : World, (Instr.makeSlice 22 (.int .i64 (l : Int)) (.int .i64 (n : Int))).run Tryd.prog w = .ok (.slice (some ⟨w.heap.size, 0, none⟩) l n) (w.alloc (.cells (bs cur).toArray 5)) := by
  obtain ⟨i0, hi, hz0, hz1, hz2⟩ := info_parts Tryd.info5
  refine ⟨List.replicate n 0, List.length_replicate, fun x hx => (List.mem_replicate.1 hx).2, fun w => ?_⟩
  have := run_make (P := Tryd.prog) w 22 5 i0 (.int .u8 0) Tryd.underlying22 hi hz0 .i64 .i64 (l : Int) (n : Int) (by omega) (by omega) (by rw [hz2]; omega) (by omega)
  rw [hz1, Nat.mul_one, made_bytes] at this
  simpa using this
theorem Tryd.info22 : (Tryd.prog.info? 22).map (fun i => (i.zero, i.size, i.bytes)) = some (some (.slice none 0 0), 1, 24) := by kernel_rfl
theorem made4 : ∃ M : List Value, M.length = 4 ∧ ∀ w : World, (Instr.makeSlice 54 (.int .i64 0) (.int .i64 4)).run Tryd.prog w = .ok (.slice (some ⟨w.heap.size, 0, none⟩) 0 4) (w.alloc (.cells M.toArray 22)) := by
  obtain ⟨i0, hi, hz0, hz1, hz2⟩ := info_parts Tryd.info22
  refine ⟨(madeCells (Value.slice none 0 0).cells 4).toList, by simp [size_madeCells], fun w => ?_⟩
  have := run_make (P := Tryd.prog) w 54 22 i0 (.slice none 0 0) Tryd.underlying54 hi hz0 .i64 .i64 0 4 (by omega) (by omega) (by rw [hz2]; omega) (by omega)
  rw [hz1] at this
  rw [Array.toArray_toList]
  exact this


theorem Brd.heap {w w' : World} {rr br bb : Nat} {aE aF : Addr} {da : Option Addr} {D : List Int} {N : Nat} {R : List Int} (h : Brd w rr br bb aE aF da D N R) (e : w'.heap = w.heap) : Brd w' rr br bb aE aF da D N R := by
  obtain ⟨i, r, wp, Bf, eb, h1, h2⟩ := h
  exact ⟨i, r, wp, Bf, eb, h1.heap e, h2⟩
theorem Brd.keeps {S : List Nat} {w w' : World} {rr br bb : Nat} {aE aF : Addr} {da : Option Addr} {D : List Int} {N : Nat} {R : List Int} (h : Brd w rr br bb aE aF da D N R) (k : Keeps S w w') (hs : ∀ x ∈ S, bb < x) : Brd w' rr br bb aE aF da D N R := by
  obtain ⟨i, r, wp, Bf, eb, h1, h2⟩ := h
  exact ⟨i, r, wp, Bf, eb, h1.keeps k hs, h2⟩
theorem Brd.ord {w : World} {rr br bb : Nat} {aE aF : Addr} {da : Option Addr} {D : List Int} {N : Nat} {R : List Int} (h : Brd w rr br bb aE aF da D N R) : rr < br ∧ br < bb := by
  obtain ⟨i, r, wp, Bf, eb, h1, h2⟩ := h
  exact ⟨h1.hrb, h1.hbb⟩

theorem owns_keeps {w w' : World} {S : List Nat} {base : Nat} {e : TypeId} {v : Value} {n : Nat} {xs : List Value} (h : w.ownsRow base e 1 v n xs) (k : Keeps S w w') (hS : ∀ g, v.ownBlock = some g → g ∉ S) : w'.ownsRow base e 1 v n xs := by
  refine ⟨h.1, ?_⟩
  rcases h.2 with hn | ⟨g, cap, cur, rfl, hb, hg, rest⟩
  · exact Or.inl hn
  · exact Or.inr ⟨g, cap, cur, rfl, hb, k.row hg (hS g rfl), rest⟩
/-- a row of bytes is no row of slices -/
theorem owns_other {w : World} {base g : Nat} {v : Value} {n : Nat} {xs : List Value} {cur : Array Value} (h : w.ownsRow base 22 1 v n xs) (hg : w.heap[g]? = some (.cells cur 5 (0, 0))) : v.ownBlock ≠ some g := by
  intro e
  rcases h.2 with ⟨rfl, _⟩ | ⟨g', cap, cur', rfl, hb, hg', rest⟩
  · simp [Value.ownBlock] at e
  · simp [Value.ownBlock] at e
    subst e
    rw [hg'] at hg
    simp at hg
theorem owns_ge {w : World} {base g : Nat} {t : TypeId} {v : Value} {n : Nat} {xs : List Value} (h : w.ownsRow base t 1 v n xs) (e : v.ownBlock = some g) : base ≤ g := (h.lt g e).1
theorem Ck.ok.keeps {c : Ck} {w w' : World} {lo hi : Nat} {S : List Nat} (h : c.ok w lo hi) (k : Keeps S w w') (hS : c.g ∉ S) : c.ok w' lo hi := ⟨h.1, h.2.1, k.row h.2.2.1 hS, h.2.2.2⟩
theorem Ck.ok.up {c : Ck} {w : World} {lo hi hi' : Nat} (h : c.ok w lo hi) (hh : hi ≤ hi') : c.ok w lo hi' := ⟨h.1, Nat.lt_of_lt_of_le h.2.1 hh, h.2.2⟩

theorem take_splice (cur c : List Int) (l m : Nat) (hm : c.length = m) (h : l + m ≤ cur.length) : (splice cur l c).take (l + m) = cur.take l ++ c := by
  subst hm
  unfold splice
  have e1 : (cur.take l).length = l := by rw [List.length_take]; omega
  rw [← List.append_assoc, List.take_append_of_le_length (by rw [List.length_append]; omega), List.take_of_length_le (by rw [List.length_append]; omega)]

section
variable {w0 w w2 : World} {rr br bb : Nat} {aE aF : Addr} {da : Option Addr} {D : List Int} {N : Nat} {R0 R : List Int} {g l C : Nat} {cur : List Int} {cks : List Ck} {cv : Value}

theorem Ra.total (h : Ra w0 w rr br bb aE aF da D N R0 R g l C cur cks cv) : sumL cks + l + R.length = R0.length := by
  obtain ⟨h1, h2, h3, h4, h5, h6, h7, h8, h9, h10, h11⟩ := h
  have := congrArg List.length h9
  rw [List.length_append, List.length_append, List.length_take, sumL_bytes cks w bb g fun c hc => (h7 c hc).1] at this
  omega

/-- some bytes have been read into the row -/
theorem Ra.read {m : Nat} (h : Ra w0 w rr br bb aE aF da D N R0 R g l C cur cks cv) (hm : l + m ≤ C) (hmR : m ≤ R.length)
    (q1 : w2.heap[g]? = some (.cells (bs (splice cur l (R.take m))).toArray 5 (0, 0))) (q2 : Brd w2 rr br bb aE aF da D N (R.drop m)) (q3 : Keeps [rr, br, bb, g] w w2) :
    Ra w0 w2 rr br bb aE aF da D N R0 (R.drop m) g (l + m) C (splice cur l (R.take m)) cks cv := by
  have ho := h.1.ord
  obtain ⟨h1, h2, h3, h4, h5, h6, h7, h8, h9, h10, h11⟩ := h
  have hl : (R.take m).length = m := by rw [List.length_take]; omega
  refine ⟨q2, h2, h3, q1, by rw [splice_len (by omega)]; exact h5, hm, fun c hc => ⟨(h7 c hc).1.keeps q3 ?_, (h7 c hc).2⟩, owns_keeps h8 q3 ?_, ?_, ?_, h11⟩
  · have h := (h7 c hc).1
    have a1 := h.1
    have a2 := h.2.1
    simp; omega
  · intro k hk
    have hk1 := owns_ge h8 hk
    have hk2 : k ≠ g := fun e => owns_other h8 h4 (e ▸ hk)
    simp; omega
  · rw [take_splice cur (R.take m) l m hl (by omega), List.append_assoc, List.take_append_drop]
    exact h9
  · refine ⟨q3.os.trans h10.os, q3.tape.trans h10.tape, q3.output.trans h10.output, Nat.le_trans h10.size q3.size, fun k hk hn => ?_⟩
    rw [q3.block k (Nat.lt_of_lt_of_le hk h10.size) (by simp at hn ⊢; omega)]
    exact h10.block k hk hn

/-- the row goes among the chunks; a new one comes -/
theorem Ra.next {w1 w3 : World} {cv' : Value} {C' : Nat} {o : Obj} (h : Ra w0 w rr br bb aE aF da D N R0 R g l C cur cks cv)
    (q1 : w1.ownsRow w0.heap.size 22 1 cv' (cks.length + 1) (cks.map Ck.val ++ [.slice (some ⟨g, 0, none⟩) l C])) (q2 : (w.alloc o).grownBy w1 cv.ownBlock)
    (q3 : w3.heap[w1.heap.size]? = some (.cells (bs (List.replicate C' 0)).toArray 5 (0, 0))) (q4 : Keeps [] w1 w3) :
    Ra w0 w3 rr br bb aE aF da D N R0 R w1.heap.size 0 C' (List.replicate C' 0) (cks ++ [⟨g, l, C, cur⟩]) cv' := by
  have ho := h.1.ord
  obtain ⟨h1, h2, h3, h4, h5, h6, h7, h8, h9, h10, h11⟩ := h
  have hcv : ∀ k, cv.ownBlock = some k → w0.heap.size ≤ k ∧ k ≠ g := fun k hk => ⟨owns_ge h8 hk, fun e => owns_other h8 h4 (e ▸ hk)⟩
  -- what stands in w stands in w3, but for cv's own block
  have kA : ∀ k ob, w.heap[k]? = some ob → cv.ownBlock ≠ some k → w3.heap[k]? = some ob := by
    intro k ob hk hne
    have hlt := lt_of_block hk
    have e1 : (w.alloc o).heap[k]? = some ob := by rw [Below.heap_alloc _ _ _ hlt]; exact hk
    have e2 : w1.heap[k]? = some ob := by rw [q2.block k (lt_of_block e1) (fun e => hne e.symm)]; exact e1
    exact q4.row e2 (by simp)
  have hsz : w.heap.size < w1.heap.size := by have := q2.size; simp at this; omega
  have hw0 := h10.size
  have hglt := lt_of_block h4
  have kK : Keeps [rr, br, bb] w0 w3 := by
    refine ⟨(q4.os.trans q2.os).trans h10.os, (q4.tape.trans q2.tape).trans h10.tape, (q4.output.trans q2.output).trans h10.output, by have := q4.size; omega, fun k hk hn => ?_⟩
    rw [q4.block k (by omega) (by simp), q2.block k (by simp; omega) (fun e => by have := (hcv k e.symm).1; omega), Below.heap_alloc _ _ _ (by omega)]
    exact h10.block k hk hn
  refine ⟨?_, by omega, by omega, q3, by simp, by omega, ?_, ?_, ?_, kK, h11⟩
  · obtain ⟨i, r, wp, Bf, eb, x1, x2⟩ := h1
    have kb : Keeps (cv.ownBlock.toList) w w3 := by
      refine ⟨q4.os.trans q2.os, q4.tape.trans q2.tape, q4.output.trans q2.output, by have := q4.size; omega, fun k hk hn => ?_⟩
      rw [q4.block k (by omega) (by simp), q2.block k (by simp; omega) (fun e => hn (by rw [← e]; simp)), Below.heap_alloc _ _ _ hk]
    refine ⟨i, r, wp, Bf, eb, x1.keeps kb (fun x hx => ?_), x2⟩
    have := (hcv x (by simpa using hx)).1
    omega
  · intro c hc
    rcases List.mem_append.1 hc with hc | hc
    · have hk := h7 c hc
      refine ⟨⟨hk.1.1, by have := hk.1.2.1; omega, kA _ _ hk.1.2.2.1 (owns_other h8 hk.1.2.2.1), hk.1.2.2.2⟩, hk.2⟩
    · obtain rfl := List.mem_singleton.1 hc
      exact ⟨⟨h2, by show g < _; omega, kA _ _ h4 (owns_other h8 h4), h5, h6⟩, h3⟩
  · have := owns_keeps q1 q4 (by simp)
    rw [List.length_append, List.map_append]
    exact this
  · rw [List.flatMap_append]
    simp only [List.take_zero, List.nil_append, List.append_assoc]
    show _ ++ ((cur.take l ++ []) ++ R) = R0
    rw [List.append_nil]
    exact h9
end

end Go.Proofs.Qxb6612240aDoor
