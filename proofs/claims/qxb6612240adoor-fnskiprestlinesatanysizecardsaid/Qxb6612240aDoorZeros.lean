import Derived.Test.Qxb6612240aDoorBread2
import Derived.Laws.AppendOwn
namespace Go.Proofs.Qxb6612240aDoor
open Go.RowKit

theorem zeros_cells (n : Nat) : Builtin.zeroCells (Value.int .u8 0).cells n = (bs (List.replicate n 0)).toArray := by
  have e : (Value.int .u8 0).cells = #[Value.int .u8 0] := rfl
  rw [e]
  apply Array.ext
  · simp [Builtin.zeroCells, bs]
  · intro i h1 h2
    simp [Builtin.zeroCells, bs, Nat.mod_one]

theorem run_append_zeros (w : World) (ty : TypeId) (n : Nat) (h1 : 1 ≤ n) (h2 : n ≤ 1000000000) :
    ∃ C, n ≤ C ∧ C ≤ 9223372036854775807 ∧ (Builtin.append_ #[22, 3] ty #[.slice none 0 0, .int .i64 (n : Int)]).run Tryd.prog w = .ok (.slice (some ⟨w.heap.size, 0, none⟩) n C) (w.drew.alloc (.cells (bs (List.replicate C 0)).toArray 5)) := by
  obtain ⟨i0, hi, hz0, hz1, hz2⟩ := info_parts Tryd.info5
  refine ⟨grownCap w n 0 5, grownCap_ge _ _ _ _, ?_, ?_⟩
  · have := grownCap_le_maxLen w n 0 5 (by unfold maxLen; omega)
    unfold maxLen at this; omega
  have e1 : IntKind.i64.wrap (n : Int) = n := by rw [IntKind.wrap_i64]; omega
  have n1 : ¬ (n : Int) < 0 := by omega
  have n2 : ¬ (281474976710656 : Int) < (n : Int) := by omega
  have n3 : n ≠ 0 := by omega
  have n4 : ¬ (9223372036854775807 : Int) < (n : Int) := by omega
  have n5 : ¬ 281474976710656 < Builtin.nextslicecap n 0 := by rw [nextslicecap_zero h1]; omega
  simp [Builtin.append_, run_underlying Tryd.underlying22, run_underlying Tryd.underlying3, sizeOf, typeInfo, hi, hz0, hz1, hz2, asInt, asIntOf, e1, zeroValue, n1, n2, n3, n4, n5, Question.forced, run_firstCells_none, newRow]
  refine ⟨rfl, ?_⟩
  show w.drew.alloc (Obj.cells (Builtin.zeroCells (Value.int .u8 0).cells n ++ Builtin.zeroCells (Value.int .u8 0).cells (grownCap w n 0 5 - n)) 5) = _
  have hge := grownCap_ge w n 0 5
  rw [zeros_cells, zeros_cells]
  have e : (bs (List.replicate n 0)).toArray ++ (bs (List.replicate (grownCap w n 0 5 - n) 0)).toArray = (bs (List.replicate (grownCap w n 0 5) 0)).toArray := by
    have e2 : bs (List.replicate n 0) ++ bs (List.replicate (grownCap w n 0 5 - n) 0) = bs (List.replicate (grownCap w n 0 5) 0) := by
      unfold bs
      rw [← List.map_append, List.replicate_append_replicate, Nat.add_sub_cancel' hge]
    rw [List.append_toArray, e2]
  rw [e]

/-- 'append([]byte(nil), make([]byte, n)...)' -/
theorem app_zeros {ops : Array Oper} {rest : List Oper} {o : Oper} {a : Act} {Q : Exit → Act → World → Prop} (hgd : o.guard = none) (x : Operand)
    (ho : o.op = .call { callee := .builtin .append, args := #[.const (.slice none 0 0), x], argTypes := #[22, 3] }) (W : World) (n : Nat) (z : Int) (hx : a.eval x = .int .i64 z) (hz : z = n) (h1 : 1 ≤ n) (h2 : n ≤ 1000000000)
    (h : ∀ C w', n ≤ C → C ≤ 9223372036854775807 → w'.heap[W.heap.size]? = some (.cells (bs (List.replicate C 0)).toArray 5 (0, 0)) → Keeps [] W w' → wpList Tryd.prog ops Q rest (a.put o.dst (.slice (some ⟨W.heap.size, 0, none⟩) n C)) w') : wpList Tryd.prog ops Q (o :: rest) a W := by
  subst hz
  obtain ⟨C, c1, c2, hrun⟩ := run_append_zeros W o.type n h1 h2
  refine wpList_plain hgd fun K hK => ?_
  have hs : a.eval (.const (.slice none 0 0)) = .slice none 0 0 := rfl
  unfold Oper.wp
  simp [execOp, ho, resolve, invoke, builtin, hs, hx, hrun, Result.andThen]
  exact hK _ _ (h C _ c1 c2 (heap_alloc_new W.drew _) ((Keeps.refl _ _).drew.alloc _))

theorem Keeps.grown {S : List Nat} {w0 w w' : World} {row : Option Nat} (h : Keeps S w0 w) (hg : w.grownBy w' row) (hr : ∀ k, row = some k → k ∈ S ∨ w0.heap.size ≤ k) : Keeps S w0 w' :=
  ⟨hg.os.trans h.os, hg.tape.trans h.tape, hg.output.trans h.output, Nat.le_trans h.size hg.size, fun k hk hn => by
    rw [hg.block k (Nat.lt_of_lt_of_le hk h.size) (fun e => (hr k e.symm).elim hn (fun h' => by omega))]
    exact h.block k hk hn⟩

end Go.Proofs.Qxb6612240aDoor
