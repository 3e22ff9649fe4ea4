import Derived.Test.Qxb6612240aDoorRows
import Derived.WalkKit
import Derived.ProofKit
import Derived.WalkSpells
import Derived.Below
import Derived.OneCell
import Derived.Laws.CopyOwn
import Derived.Lib.SliceRun
import Derived.Deep.RegionHeld3
import Derived.Deep.DrawnRows
import Derived.Deep.QuietTactic
import Derived.BigQuiet
namespace Go.Proofs.Qxb6612240aDoor
open Go.RowKit

theorem hd {p : Prop} (h : p) : Hid p := h
theorem ret_int {k : IntKind} {a b : Int} (h : a = b) : Ending.returned (.int k a) = .returned (.int k b) := by rw [h]
theorem ne_beq {c k : Int} (h : ¬ c = k) : (c == k) = false := by simp [h]

/-- bytes as cells -/
def bs (l : List Int) : List Value := l.map (Value.int .u8)
theorem bs_len (l : List Int) : (bs l).length = l.length := by simp [bs]
theorem bs_at {l : List Int} {j : Nat} (h : j < l.length) : (bs l)[j]? = some (.int .u8 (l.getD j 0)) := by simp [bs, h]
theorem bs_one (l : List Int) : ∀ v ∈ bs l, v.oneCell' = true := ints_oneCell _ _
theorem bs_splice (l : List Int) (off : Nat) (c : List Int) : splice (bs l) off (bs c) = bs (splice l off c) := by
  simp [splice, bs, List.map_take, List.map_drop]

/-- nothing has turned but the listed blocks; new blocks may have come -/
structure Keeps (S : List Nat) (w w' : World) : Prop where
  os : w'.os = w.os
  tape : w'.tape = w.tape
  output : w'.output = w.output
  size : w.heap.size ≤ w'.heap.size
  block : ∀ k, k < w.heap.size → k ∉ S → w'.heap[k]? = w.heap[k]?

theorem Keeps.refl (S : List Nat) (w : World) : Keeps S w w := ⟨rfl, rfl, rfl, Nat.le_refl _, fun _ _ _ => rfl⟩
theorem Keeps.trans {S : List Nat} {a b c : World} (h : Keeps S a b) (k : Keeps S b c) : Keeps S a c :=
  ⟨k.os.trans h.os, k.tape.trans h.tape, k.output.trans h.output, Nat.le_trans h.size k.size, fun i hi hs => (k.block i (Nat.lt_of_lt_of_le hi h.size) hs).trans (h.block i hi hs)⟩
theorem Keeps.mono {S T : List Nat} {a b : World} (h : Keeps S a b) (hs : ∀ x ∈ S, x ∈ T) : Keeps T a b :=
  ⟨h.os, h.tape, h.output, h.size, fun i hi hn => h.block i hi fun hx => hn (hs i hx)⟩
theorem Keeps.drewN {S : List Nat} {a b : World} (h : Keeps S a b) (n : Nat) : Keeps S a (b.drewN n) :=
  ⟨h.os, h.tape, h.output, h.size, h.block⟩
theorem Keeps.drew {S : List Nat} {a b : World} (h : Keeps S a b) : Keeps S a b.drew :=
  ⟨h.os, h.tape, h.output, h.size, h.block⟩
theorem Keeps.setCell {S : List Nat} {a b : World} (h : Keeps S a b) {p : Addr} (hp : p.block ∈ S) (v : Value) : Keeps S a (b.setCell p v) :=
  h.trans ⟨rfl, rfl, rfl, by simp [World.setCell], fun k _ hn => Below.heap_setCell _ _ _ _ (fun e => hn (e ▸ hp))⟩
theorem Keeps.alloc {S : List Nat} {a b : World} (h : Keeps S a b) (o : Obj) : Keeps S a (b.alloc o) :=
  h.trans ⟨rfl, rfl, rfl, by simp, fun k hk _ => Below.heap_alloc _ _ _ hk⟩
theorem Keeps.below {S : List Nat} {a b : World} {B : Nat} (h : Keeps S a b) (hB : B ≤ a.heap.size) (hs : ∀ x ∈ S, B ≤ x) : Below B a b :=
  ⟨h.os, h.tape, h.output, h.size, fun k hk => h.block k (by omega) fun hx => by have := hs k hx; omega⟩
theorem Keeps.of_below {S : List Nat} {a b : World} {B : Nat} (h : Below B a b) (hs : ∀ k, k < a.heap.size → k ∉ S → k < B ∨ b.heap[k]? = a.heap[k]?) : Keeps S a b :=
  ⟨h.os, h.tape, h.output, h.size, fun k hk hn => (hs k hk hn).elim (h.block k) id⟩
theorem Keeps.cell {S : List Nat} {a b : World} (h : Keeps S a b) {p : Addr} {v : Value} (hc : a.cell? p = some v) (hp : p.block ∉ S) : b.cell? p = some v := by
  rw [World.cell?_of_block (h.block _ (World.block_lt_of_cell? _ _ hc) hp)]; exact hc
theorem Keeps.row {S : List Nat} {a b : World} (h : Keeps S a b) {g : Nat} {o : Obj} (hc : a.heap[g]? = some o) (hp : g ∉ S) : b.heap[g]? = some o := by
  rw [h.block g (lt_of_block hc) hp]; exact hc

/-- a block of cells behind a store into it -/
theorem row_setCell {w : World} {g j : Nat} {cs : Array Value} {t : TypeId} {fr : Nat × Nat} (h : w.heap[g]? = some (.cells cs t fr)) (v : Value) : (w.setCell ⟨g, j, none⟩ v).heap[g]? = some (.cells (cs.setIfInBounds j v) t fr) := by
  have hlt := lt_of_block h
  have h' : w.heap[g] = .cells cs t fr := by simpa [Array.getElem?_eq_getElem hlt] using h
  show (w.heap.modify g _)[g]? = _
  rw [Array.getElem?_eq_getElem (by simpa using hlt), Array.getElem_modify_self, h']
  rfl
theorem row_cell {w : World} {g j : Nat} {cs : Array Value} {t : TypeId} {v : Value} {fr : Nat × Nat} (h : w.heap[g]? = some (.cells cs t fr)) (hv : cs[j]? = some v) : w.cell? ⟨g, j, none⟩ = some v := by
  simp [World.cell?, h, hv]
theorem row_free {w : World} {g j : Nat} {cs : Array Value} {t : TypeId} (h : w.heap[g]? = some (.cells cs t (0, 0))) : w.frozen? ⟨g, j, none⟩ = false := by
  simp [World.frozen?, h]

theorem Tryd.info5 : (Tryd.prog.info? 5).map (fun i => (i.zero, i.size, i.bytes)) = some (some (.int .u8 0), 1, 1) := by kernel_rfl
theorem Tryd.size5 : (Tryd.prog.info? 5).map (·.size) = some 1 := by kernel_rfl

/-- the cells of a row, from a place on -/
theorem row_src {w : World} {db i m : Nat} {D : List Int} (hD : w.heap[db]? = some (.cells (bs D).toArray 5 (0, 0))) : ∀ j v, (bs ((D.drop i).take m))[j]? = some v → w.cell? ((⟨db, i, none⟩ : Addr).add j) = some v := by
  intro j v hj
  have hadd : (⟨db, i, none⟩ : Addr).add j = ⟨db, i + j, none⟩ := Addr.add_mid _ _ _
  rw [hadd]
  refine row_cell hD ?_
  have hj' : j < ((D.drop i).take m).length := by
    have := (List.getElem?_eq_some_iff.1 hj).1
    simpa [bs] using this
  rw [bs_at hj'] at hj
  rw [List.length_take, List.length_drop] at hj'
  have e : ((D.drop i).take m).getD j 0 = D.getD (i + j) 0 := by
    simp only [List.getD_eq_getElem?_getD]
    rw [List.getElem?_take_of_lt (by omega), List.getElem?_drop]
  rw [e] at hj
  rw [← hj]
  have h2 : i + j < D.length := by omega
  simpa using bs_at h2
theorem take_len (D : List Int) (i m : Nat) (h : m ≤ D.length - i) : ((D.drop i).take m).length = m := by
  rw [List.length_take, List.length_drop]
  exact Nat.min_eq_left h

theorem slice_tail (g n i : Nat) (h : i < n) (w : World) : (Instr.slice 22 (.slice (some ⟨g, 0, none⟩) n n) (some (.int .i64 (i : Int))) none none).run Tryd.prog w = .ok (.slice (some ⟨g, i, none⟩) (n - i) (n - i)) w := by
  go_simp; rw [if_pos (by omega), if_neg (by omega)]
theorem slice_mid (g n r wp : Nat) (h1 : r ≤ wp) (h2 : wp ≤ n) : ∃ sp : Option Addr, (r < n → sp = some ⟨g, r, none⟩) ∧ ∀ w : World, (Instr.slice 22 (.slice (some ⟨g, 0, none⟩) n n) (some (.int .i64 (r : Int))) (some (.int .i64 (wp : Int))) none).run Tryd.prog w = .ok (.slice sp (wp - r) (n - r)) w := by
  refine ⟨if n = r then some ⟨g, 0, none⟩ else some ⟨g, r, none⟩, fun h => if_neg (by omega), fun w => ?_⟩
  go_simp
theorem slice_mid' (g n r wp : Nat) (h1 : r ≤ wp) (h2 : wp ≤ n) : ∃ sp : Addr, (r < n → sp = ⟨g, r, none⟩) ∧ ∀ w : World, (Instr.slice 22 (.slice (some ⟨g, 0, none⟩) n n) (some (.int .i64 (r : Int))) (some (.int .i64 (wp : Int))) none).run Tryd.prog w = .ok (.slice (some sp) (wp - r) (n - r)) w := by
  by_cases h : n = r
  · subst h
    refine ⟨⟨g, 0, none⟩, fun h' => absurd h' (Nat.lt_irrefl _), fun w => ?_⟩
    go_simp
  · obtain ⟨sp, e1, e2⟩ := slice_mid g n r wp h1 h2
    exact ⟨⟨g, r, none⟩, fun _ => rfl, fun w => by rw [e2 w, e1 (by omega)]⟩
theorem method_rd (a : Addr) (w : World) : (method 186 38 (.pointer (some a)) "Read").run Tryd.prog w = .ok (42, .pointer (some a)) w := by kernel_rfl

/-! 'copy' of bytes: what it does to the one row -/
theorem copy_run (W : World) (dp sp : Option Addr) (dLen dCap sLen sCap : Nat) (ty : TypeId) (g off : Nat) (cur cs : List Int) (hg : W.heap[g]? = some (.cells (bs cur).toArray 5 (0, 0))) (m : Nat) (hm : cs.length = m) (hn : Nat.min sLen dLen = m)
    (hpos : 0 < m → dp = some ⟨g, off, none⟩ ∧ ∃ ad, sp = some ad ∧ ∀ j v, (bs cs)[j]? = some v → W.cell? (ad.add j) = some v) (hfit : off + m ≤ cur.length) :
    ∃ w', Sem.run Tryd.prog (Builtin.copy_ #[22, 22] ty #[.slice dp dLen dCap, .slice sp sLen sCap]) W = .ok (goInt m) w' ∧ w'.heap[g]? = some (.cells (bs (splice cur off cs)).toArray 5 (0, 0)) ∧ Keeps [g] W w' := by
  subst hm
  replace hn := hn.symm
  by_cases h0 : cs.length = 0
  · obtain rfl : cs = [] := List.eq_nil_of_length_eq_zero h0
    refine ⟨W, run_copy_none (P := Tryd.prog) W 22 22 ty 5 dp sp dLen dCap sLen sCap Tryd.underlying22 Tryd.size5 (by simpa using hn.symm), ?_, Keeps.refl _ _⟩
    simpa [splice] using hg
  · obtain ⟨rfl, ad, rfl, hsrc⟩ := hpos (by omega)
    have hrun := run_copy_row (P := Tryd.prog) W 22 22 ty 5 g off dLen dCap ad sLen sCap (bs cur).toArray 5 (bs cs) Tryd.underlying22 Tryd.size5 hg (by rw [bs_len]; exact hn) hsrc (by simpa [bs_len] using hfit) (bs_one _)
    have e : (List.take off (bs cur).toArray.toList ++ bs cs ++ List.drop (off + (bs cs).length) (bs cur).toArray.toList) = splice (bs cur) off (bs cs) := by simp [splice]
    rw [e, bs_len] at hrun
    refine ⟨W.setRow g (splice (bs cur) off (bs cs)).toArray, hrun, ?_, ⟨rfl, rfl, rfl, by simp [World.setRow], fun k _ hk => setRow_other _ _ _ _ (by simpa using hk)⟩⟩
    rw [← bs_splice]
    exact setRow_heap _ _ _ _ _ _ hg

theorem copy_plain {ops : Array Oper} {rest : List Oper} {o : Oper} {a : Act} {Q : Exit → Act → World → Prop} (hgd : o.guard = none) (d s : Operand)
    (ho : o.op = .call { callee := .builtin .copy, args := #[d, s], argTypes := #[22, 22] }) (W : World) (dp sp : Option Addr) (dLen dCap sLen sCap : Nat) (hd : a.eval d = .slice dp dLen dCap) (hs : a.eval s = .slice sp sLen sCap)
    (g off : Nat) (cur cs : List Int) (hg : W.heap[g]? = some (.cells (bs cur).toArray 5 (0, 0))) (m : Nat) (hm : cs.length = m) (hn : Nat.min sLen dLen = m)
    (hpos : 0 < m → dp = some ⟨g, off, none⟩ ∧ ∃ ad, sp = some ad ∧ ∀ j v, (bs cs)[j]? = some v → W.cell? (ad.add j) = some v) (hfit : off + m ≤ cur.length)
    (h : ∀ w', w'.heap[g]? = some (.cells (bs (splice cur off cs)).toArray 5 (0, 0)) → Keeps [g] W w' → wpList Tryd.prog ops Q rest (a.put o.dst (goInt m)) w') : wpList Tryd.prog ops Q (o :: rest) a W := by
  obtain ⟨w', hrun, h1, h2⟩ := copy_run W dp sp dLen dCap sLen sCap o.type g off cur cs hg m hm hn hpos hfit
  refine wpList_plain hgd fun K hK => ?_
  unfold Oper.wp
  simp [execOp, ho, resolve, invoke, builtin, hd, hs, hrun, Result.andThen]
  exact hK _ _ (h w' h1 h2)

theorem copy_drawn {ops : Array Oper} {o : Oper} {a : Act} {K : Act → World → Prop} {Q : Exit → Act → World → Prop} {E : Prop} (hgd : o.guard = none) (d s : Operand)
    (ho : o.op = .call { callee := .builtin .copy, args := #[d, s], argTypes := #[22, 22] }) (W : World) (dp sp : Option Addr) (dLen dCap sLen sCap : Nat) (hd : a.eval d = .slice dp dLen dCap) (hs : a.eval s = .slice sp sLen sCap)
    (g off : Nat) (cur cs : List Int) (hg : W.heap[g]? = some (.cells (bs cur).toArray 5 (0, 0))) (m : Nat) (hm : cs.length = m) (hn : Nat.min sLen dLen = m)
    (hpos : 0 < m → dp = some ⟨g, off, none⟩ ∧ ∃ ad, sp = some ad ∧ ∀ j v, (bs cs)[j]? = some v → W.cell? (ad.add j) = some v) (hfit : off + m ≤ cur.length)
    (h : ∀ w', w'.heap[g]? = some (.cells (bs (splice cur off cs)).toArray 5 (0, 0)) → Keeps [g] W w' → K (a.put o.dst (goInt m)) w') : if Region.wanted o (yielded ops a.tmps) = true then Oper.wp Tryd.prog o a W K Q else E := by
  have hw : Region.wanted o (yielded ops a.tmps) = true := by simp [Region.wanted, hgd]
  rw [if_pos hw]
  obtain ⟨w', hrun, h1, h2⟩ := copy_run W dp sp dLen dCap sLen sCap o.type g off cur cs hg m hm hn hpos hfit
  unfold Oper.wp
  simp [execOp, ho, resolve, invoke, builtin, hd, hs, hrun, Result.andThen]
  exact h w' h1 h2

end Go.Proofs.Qxb6612240aDoor
