import Derived.Test.Qxb6605591aWalkF
import Derived.Deep.AppendLies
import Derived.Deep.RegionHeld3
import Derived.Deep.DrawnRows
namespace Go.Proofs.Qxb6605591a
open Go.RowKit

/-- the slice value v is the call's own (from block B on) and holds the bytes L -/
def Own (B : Nat) (w : World) (v : Value) (L : List Int) : Prop := w.ownsRow B 5 1 v L.length (L.map (Value.int .u8))

theorem Own.alloc {B : Nat} {w : World} {v : Value} {L : List Int} (h : Own B w v L) (o : Obj) : Own B (w.alloc o) v L := World.ownsRow.alloc h o
theorem Own.drew {B : Nat} {w : World} {v : Value} {L : List Int} (h : Own B w v L) : Own B w.drew v L := h

theorem app_core {B : Nat} {w0 W w1 : World} {v v' : Value} {L news : List Int} (hown : Own B W v L) (hbel : Below B w0 W) (hB : B ≤ W.heap.size)
    (h' : w1.ownsRow B 5 1 v' (L.length + news.length) (L.map (Value.int .u8) ++ news.map (Value.int .u8))) (hg : W.grownBy w1 v.ownBlock) : Own B w1 v' (L ++ news) ∧ Below B w0 w1 ∧ B ≤ w1.heap.size := by
  refine ⟨?_, hbel.grown hg hB (fun k hk => (World.ownsRow.lt hown k hk).1), Nat.le_trans hB hg.size⟩
  unfold Own
  rw [List.length_append, List.map_append]
  exact h'

theorem app_plain {ops : Array Oper} {rest : List Oper} {o : Oper} {a : Act} {Q : Exit → Act → World → Prop} (hgd : o.guard = none) (s x : Operand)
    (ho : o.op = .call { callee := .builtin .append, args := #[s, x], argTypes := #[22, 22] })
    (B : Nat) (w0 W : World) (v : Value) (L news : List Int) (g c : Nat) (hs : a.eval s = v) (hx : a.eval x = .slice (some ⟨g, 0, none⟩) news.length c)
    (hown : Own B W v L) (hbel : Below B w0 W) (hB : B ≤ W.heap.size) (hg : W.heap[g]? = some (.cells (news.map (Value.int .u8)).toArray 5 (0, 0))) (hlen : L.length + news.length ≤ 100000000)
    (h : ∀ v' w1, Own B w1 v' (L ++ news) → Below B w0 w1 → B ≤ w1.heap.size → wpList Try.prog ops Q rest (a.put o.dst v') w1) : wpList Try.prog ops Q (o :: rest) a W := by
  obtain ⟨i0, hi, hz0, hz1, hz2⟩ := info_parts Try.info5
  refine wpList_append_own W hgd s x 22 ho B 5 i0 (.int .u8 0) 1 1 Try.underlying22 hi hz0 hz1 hz2 rfl (by decide) v L.length (L.map (Value.int .u8)) hs hown ⟨g, 0, none⟩ news.length c (news.map (Value.int .u8)) hx (by simp) ?_ (ints_oneCell _ _) (by unfold maxLen; omega) (by omega) hB ?_
  · intro j u hu
    exact World.news_of_block hg j u (by simpa using hu)
  · intro v' w1 h2 h3 _
    obtain ⟨r1, r2, r3⟩ := app_core hown hbel hB h2 h3
    exact h v' w1 r1 r2 r3

theorem app_drawn {ops : Array Oper} {o : Oper} {a : Act} {K : Act → World → Prop} {Q : Exit → Act → World → Prop} {E : Prop} (hgd : o.guard = none) (s x : Operand)
    (ho : o.op = .call { callee := .builtin .append, args := #[s, x], argTypes := #[22, 22] })
    (B : Nat) (w0 W : World) (v : Value) (L news : List Int) (g c : Nat) (hs : a.eval s = v) (hx : a.eval x = .slice (some ⟨g, 0, none⟩) news.length c)
    (hown : Own B W v L) (hbel : Below B w0 W) (hB : B ≤ W.heap.size) (hg : W.heap[g]? = some (.cells (news.map (Value.int .u8)).toArray 5 (0, 0))) (hlen : L.length + news.length ≤ 100000000)
    (h : ∀ v' w1, Own B w1 v' (L ++ news) → Below B w0 w1 → B ≤ w1.heap.size → K (a.put o.dst v') w1) : if Region.wanted o (yielded ops a.tmps) = true then Oper.wp Try.prog o a W K Q else E := by
  have hw : Region.wanted o (yielded ops a.tmps) = true := by simp [Region.wanted, hgd]
  rw [if_pos hw]
  obtain ⟨i0, hi, hz0, hz1, hz2⟩ := info_parts Try.info5
  refine wp_append_own W s x 22 ho B 5 i0 (.int .u8 0) 1 1 Try.underlying22 hi hz0 hz1 hz2 rfl (by decide) v L.length (L.map (Value.int .u8)) hs hown ⟨g, 0, none⟩ news.length c (news.map (Value.int .u8)) hx (by simp) ?_ (ints_oneCell _ _) (by unfold maxLen; omega) (by omega) hB ?_
  · intro j u hu
    exact World.news_of_block hg j u (by simpa using hu)
  · intro v' w1 h2 h3 _
    obtain ⟨r1, r2, r3⟩ := app_core hown hbel hB h2 h3
    exact h v' w1 r1 r2 r3

end Go.Proofs.Qxb6605591a
