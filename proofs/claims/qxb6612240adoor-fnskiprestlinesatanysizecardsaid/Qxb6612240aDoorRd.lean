import Derived.Test.Qxb6612240aDoorRead
namespace Go.Proofs.Qxb6612240aDoor
open Go.RowKit

/-- A bufio.Reader (block br, its buffer: block bb) over a bytes.Reader (block rr) over the bytes D. -/
structure Rd (w : World) (rr br bb : Nat) (aE aF : Addr) (da : Option Addr) (D : List Int) (i r wp : Nat) (Bf : List Int) (err : Value) : Prop where
  prr : ∃ pr : Int, w.heap[rr]? = some (.cells #[.slice da D.length D.length, .int .i64 i, .int .i64 pr] 52 (0, 0))
  pbr : ∃ lb ls : Int, w.heap[br]? = some (.cells #[.slice (some ⟨bb, 0, none⟩) Bf.length Bf.length, .iface 38 (.pointer (some ⟨rr, 0, none⟩)), .int .i64 r, .int .i64 wp, err, .int .i64 lb, .int .i64 ls] 49 (0, 0))
  pbb : w.heap[bb]? = some (.cells (bs Bf).toArray 5 (0, 0))
  pD : 0 < D.length → ∃ db, da = some ⟨db, 0, none⟩ ∧ db < rr ∧ 1 < db ∧ w.heap[db]? = some (.cells (bs D).toArray 5 (0, 0))
  hrb : rr < br
  hbb : br < bb
  g0 : w.cell? ⟨0, 0, none⟩ = some (.iface 59 (.pointer (some aF)))
  g1 : w.cell? ⟨1, 0, none⟩ = some (.iface 59 (.pointer (some aE)))
  h1 : 1 < rr
  hN : 16 ≤ Bf.length ∧ Bf.length ≤ 65536
  hD : D.length ≤ 1048576
  hB8 : ∀ x ∈ Bf, 0 ≤ x ∧ x ≤ 255
  hD8 : ∀ x ∈ D, 0 ≤ x ∧ x ≤ 255

variable {w w' : World} {rr br bb : Nat} {aE aF : Addr} {da : Option Addr} {D : List Int} {i r wp : Nat} {Bf : List Int} {err : Value}

theorem Rd.heap (h : Rd w rr br bb aE aF da D i r wp Bf err) (e : w'.heap = w.heap) : Rd w' rr br bb aE aF da D i r wp Bf err := by
  obtain ⟨p1, p2, p3, p4, p5, p6, p7, p8, p9, p10, p11, p12, p13⟩ := h
  refine ⟨by rw [e]; exact p1, by rw [e]; exact p2, by rw [e]; exact p3, fun h => ?_, p5, p6, ?_, ?_, p9, p10, p11, p12, p13⟩
  · obtain ⟨db, x1, x2, x3, x4⟩ := p4 h
    exact ⟨db, x1, x2, x3, by rw [e]; exact x4⟩
  · rw [World.cell?_of_block (w := w) (by rw [e])]; exact p7
  · rw [World.cell?_of_block (w := w) (by rw [e])]; exact p8

/-- whatever leaves these blocks alone -/
theorem Rd.keeps {S : List Nat} (h : Rd w rr br bb aE aF da D i r wp Bf err) (k : Keeps S w w') (hs : ∀ x ∈ S, bb < x) : Rd w' rr br bb aE aF da D i r wp Bf err := by
  obtain ⟨⟨pr, p1⟩, ⟨lb, ls, p2⟩, p3, p4, p5, p6, p7, p8, p9, p10, p11, p12, p13⟩ := h
  have no : ∀ g, g ≤ bb → g ∉ S := fun g hg hx => by have := hs g hx; omega
  refine ⟨⟨pr, k.row p1 (no _ (by omega))⟩, ⟨lb, ls, k.row p2 (no _ (by omega))⟩, k.row p3 (no _ (by omega)), fun h => ?_, p5, p6, k.cell p7 (no _ (by simp)), k.cell p8 (no _ (by simp; omega)), p9, p10, p11, p12, p13⟩
  obtain ⟨db, x1, x2, x3, x4⟩ := p4 h
  exact ⟨db, x1, x2, x3, k.row x4 (no _ (by omega))⟩

/-- the blocks below bb but br, rr, bb stand; what the three hold is told -/
theorem Rd.turn {i' r' wp' : Nat} {Bf' : List Int} {err' : Value} (h : Rd w rr br bb aE aF da D i r wp Bf err) (k : Keeps [rr, br, bb] w w')
    (q1 : ∃ pr : Int, w'.heap[rr]? = some (.cells #[.slice da D.length D.length, .int .i64 i', .int .i64 pr] 52 (0, 0)))
    (q2 : ∃ lb ls : Int, w'.heap[br]? = some (.cells #[.slice (some ⟨bb, 0, none⟩) Bf.length Bf.length, .iface 38 (.pointer (some ⟨rr, 0, none⟩)), .int .i64 r', .int .i64 wp', err', .int .i64 lb, .int .i64 ls] 49 (0, 0)))
    (q3 : w'.heap[bb]? = some (.cells (bs Bf').toArray 5 (0, 0))) (q4 : Bf'.length = Bf.length) (q5 : ∀ x ∈ Bf', 0 ≤ x ∧ x ≤ 255) : Rd w' rr br bb aE aF da D i' r' wp' Bf' err' := by
  obtain ⟨p1, p2, p3, p4, p5, p6, p7, p8, p9, p10, p11, p12, p13⟩ := h
  refine ⟨q1, by rw [q4]; exact q2, q3, fun h => ?_, p5, p6, k.cell p7 (by simp; omega), k.cell p8 (by simp; omega), p9, by rw [q4]; exact p10, p11, q5, p13⟩
  obtain ⟨db, x1, x2, x3, x4⟩ := p4 h
  exact ⟨db, x1, x2, x3, k.row x4 (by simp; omega)⟩

theorem Rd.store (h : Rd w rr br bb aE aF da D i r wp Bf err) (j : Nat) (v : Value) {r' wp' : Nat} {err' : Value}
    (hv : ∀ lb ls : Int, ∃ lb' ls' : Int, (#[.slice (some ⟨bb, 0, none⟩) Bf.length Bf.length, .iface 38 (.pointer (some ⟨rr, 0, none⟩)), .int .i64 r, .int .i64 wp, err, .int .i64 lb, .int .i64 ls] : Array Value).setIfInBounds j v = #[.slice (some ⟨bb, 0, none⟩) Bf.length Bf.length, .iface 38 (.pointer (some ⟨rr, 0, none⟩)), .int .i64 r', .int .i64 wp', err', .int .i64 lb', .int .i64 ls']) :
    Rd (w.setCell ⟨br, j, none⟩ v) rr br bb aE aF da D i r' wp' Bf err' := by
  have h' := h
  obtain ⟨⟨pr, p1⟩, ⟨lb, ls, p2⟩, p3, p4, p5, p6, p7, p8, p9, p10, p11, p12, p13⟩ := h
  obtain ⟨lb', ls', e⟩ := hv lb ls
  refine h'.turn ((Keeps.refl _ _).setCell (by simp) _) ⟨pr, ?_⟩ ⟨lb', ls', ?_⟩ ?_ rfl p12
  · rw [Below.heap_setCell _ _ _ _ (by simp; omega)]; exact p1
  · rw [row_setCell p2, e]
  · rw [Below.heap_setCell _ _ _ _ (by simp; omega)]; exact p3
theorem Rd.setR (h : Rd w rr br bb aE aF da D i r wp Bf err) (r' : Nat) : Rd (w.setCell ⟨br, 2, none⟩ (.int .i64 r')) rr br bb aE aF da D i r' wp Bf err := h.store 2 _ fun lb ls => ⟨lb, ls, rfl⟩
theorem Rd.setW (h : Rd w rr br bb aE aF da D i r wp Bf err) (wp' : Nat) : Rd (w.setCell ⟨br, 3, none⟩ (.int .i64 wp')) rr br bb aE aF da D i r wp' Bf err := h.store 3 _ fun lb ls => ⟨lb, ls, rfl⟩
theorem Rd.setE (h : Rd w rr br bb aE aF da D i r wp Bf err) (err' : Value) : Rd (w.setCell ⟨br, 4, none⟩ err') rr br bb aE aF da D i r wp Bf err' := h.store 4 _ fun lb ls => ⟨lb, ls, rfl⟩
theorem Rd.setLB (h : Rd w rr br bb aE aF da D i r wp Bf err) (x : Int) : Rd (w.setCell ⟨br, 5, none⟩ (.int .i64 x)) rr br bb aE aF da D i r wp Bf err := h.store 5 _ fun _ ls => ⟨x, ls, rfl⟩
theorem Rd.setLS (h : Rd w rr br bb aE aF da D i r wp Bf err) (x : Int) : Rd (w.setCell ⟨br, 6, none⟩ (.int .i64 x)) rr br bb aE aF da D i r wp Bf err := h.store 6 _ fun lb _ => ⟨lb, x, rfl⟩

theorem Rd.cells (h : Rd w rr br bb aE aF da D i r wp Bf err) : w.cell? ⟨br, 0, none⟩ = some (.slice (some ⟨bb, 0, none⟩) Bf.length Bf.length) ∧ w.cell? ⟨br, 1, none⟩ = some (.iface 38 (.pointer (some ⟨rr, 0, none⟩))) ∧
    w.cell? ⟨br, 2, none⟩ = some (.int .i64 r) ∧ w.cell? ⟨br, 3, none⟩ = some (.int .i64 wp) ∧ w.cell? ⟨br, 4, none⟩ = some err ∧ (∃ lb : Int, w.cell? ⟨br, 5, none⟩ = some (.int .i64 lb)) ∧ (∃ ls : Int, w.cell? ⟨br, 6, none⟩ = some (.int .i64 ls)) := by
  obtain ⟨lb, ls, p2⟩ := h.pbr
  exact ⟨row_cell p2 rfl, row_cell p2 rfl, row_cell p2 rfl, row_cell p2 rfl, row_cell p2 rfl, ⟨lb, row_cell p2 rfl⟩, ⟨ls, row_cell p2 rfl⟩⟩
theorem Rd.free (h : Rd w rr br bb aE aF da D i r wp Bf err) (j : Nat) : w.frozen? ⟨br, j, none⟩ = false := by
  obtain ⟨lb, ls, p2⟩ := h.pbr
  exact row_free p2

/-- what is still to be read -/
def rem (D : List Int) (i r wp : Nat) (Bf : List Int) : List Int := (Bf.drop r).take (wp - r) ++ D.drop i

theorem splice_len {off : Nat} {cur c : List Int} (h : off + c.length ≤ cur.length) : (splice cur off c).length = cur.length := length_splice _ _ _ h
theorem splice_mem {off : Nat} {cur c : List Int} {x : Int} (h : x ∈ splice cur off c) : x ∈ cur ∨ x ∈ c := by
  simp only [splice, List.mem_append] at h
  rcases h with h | h | h
  · exact Or.inl (List.mem_of_mem_take h)
  · exact Or.inr h
  · exact Or.inl (List.mem_of_mem_drop h)

/-- behind the slide: the buffer's head is what was left -/
theorem rem_slide (D : List Int) (i r wp : Nat) (Bf : List Int) (hr : r ≤ wp) (hw : wp ≤ Bf.length) : rem D i 0 (wp - r) (splice Bf 0 ((Bf.drop r).take (wp - r))) = rem D i r wp Bf := by
  have hl : ((Bf.drop r).take (wp - r)).length = wp - r := take_len _ _ _ (by omega)
  simp only [rem, splice, List.take_zero, List.nil_append, List.drop_zero, Nat.sub_zero]
  rw [List.take_append_of_le_length (by omega), List.take_of_length_le (by omega)]
/-- behind a read into the buffer's tail -/
theorem rem_read (D : List Int) (i wp m : Nat) (Bf : List Int) (hw : wp + m ≤ Bf.length) (hm : m ≤ D.length - i) : rem D (i + m) 0 (wp + m) (splice Bf wp ((D.drop i).take m)) = rem D i 0 wp Bf := by
  have hl : ((D.drop i).take m).length = m := take_len _ _ _ hm
  simp only [rem, splice, List.drop_zero, Nat.sub_zero]
  rw [List.take_append, List.take_append]
  have e1 : (Bf.take wp).length = wp := by rw [List.length_take]; omega
  rw [e1, hl, List.take_of_length_le (by omega), show wp + m - wp = m by omega, List.take_of_length_le (l := (D.drop i).take m) (by omega), Nat.sub_self, List.take_zero, List.append_nil, List.append_assoc]
  congr 1
  have := List.take_append_drop m (D.drop i)
  rw [List.drop_drop] at this
  exact this

end Go.Proofs.Qxb6612240aDoor
