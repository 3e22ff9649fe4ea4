import Derived.Test.Qxb6612240aDoorSmall
namespace Go.Proofs.Qxb6612240aDoor
open Go.RowKit

section
variable {w : World} {rr br bb : Nat} {aE aF : Addr} {da : Option Addr} {D : List Int} {i r wp : Nat} {Bf : List Int} {err : Value}
theorem Rd.setR' (h : Rd w rr br bb aE aF da D i r wp Bf err) (r' : Nat) {z : Int} (hz : z = r') : Rd (w.setCell ⟨br, 2, none⟩ (.int .i64 z)) rr br bb aE aF da D i r' wp Bf err := by subst hz; exact h.setR r'
theorem Rd.setW' (h : Rd w rr br bb aE aF da D i r wp Bf err) (wp' : Nat) {z : Int} (hz : z = wp') : Rd (w.setCell ⟨br, 3, none⟩ (.int .i64 z)) rr br bb aE aF da D i r wp' Bf err := by subst hz; exact h.setW wp'
end

/-- the reader's pending error: none, or EOF with all read -/
def errV (aE : Addr) (eb : Bool) : Value := if eb = true then .iface 59 (.pointer (some aE)) else .nilIface

theorem take_add_drop (l : List Int) (r s j : Nat) : (l.drop r).take (s + j) = (l.drop r).take s ++ (l.drop (r + s)).take j := by
  rw [List.take_add, List.drop_drop]

theorem rem_found {D : List Int} {i r wp s j : Nat} {Bf : List Int} (hw : wp ≤ Bf.length) (hs : r + s ≤ wp) (hj : j < wp - (r + s)) (h10 : ((Bf.drop (r + s)).take (wp - (r + s))).getD j 0 = 10) :
    rem D i r wp Bf = (Bf.drop r).take (s + j) ++ 10 :: rem D i (r + (j + s + 1)) wp Bf := by
  have hb : r + s + j < Bf.length := by omega
  have e0 : Bf[r + s + j] = 10 := by
    rw [List.getD_eq_getElem?_getD, List.getElem?_take_of_lt hj, List.getElem?_drop, List.getElem?_eq_getElem hb] at h10
    exact h10
  unfold rem
  have e1 : wp - r = (s + j) + (wp - r - (s + j)) := by omega
  have e2 : (Bf.drop (r + (s + j))).take (wp - r - (s + j)) = 10 :: (Bf.drop (r + (j + s + 1))).take (wp - (r + (j + s + 1))) := by
    have hlt : r + (s + j) < Bf.length := by omega
    rw [List.drop_eq_getElem_cons hlt]
    have e3 : wp - r - (s + j) = (wp - (r + (j + s + 1))) + 1 := by omega
    rw [e3, List.take_succ_cons]
    have e4 : r + (s + j) + 1 = r + (j + s + 1) := by omega
    have e5 : Bf[r + (s + j)] = 10 := by
      have : r + (s + j) = r + s + j := by omega
      simp only [this]; exact e0
    rw [e4, e5]
  rw [e1, take_add_drop, e2]
  simp

theorem none_found {r wp s j : Nat} {Bf : List Int} (hj : j ≤ wp - (r + s)) (h1 : 10 ∉ (Bf.drop r).take s) (h2 : 10 ∉ ((Bf.drop (r + s)).take (wp - (r + s))).take j) : 10 ∉ (Bf.drop r).take (s + j) := by
  rw [take_add_drop, List.mem_append]
  rw [List.take_take, Nat.min_eq_left hj] at h2
  exact fun h => h.elim h1 h2

theorem none_buffered {r wp s : Nat} {Bf : List Int} (hs : r + s ≤ wp) (h1 : 10 ∉ (Bf.drop r).take s) (h2 : 10 ∉ (Bf.drop (r + s)).take (wp - (r + s))) : 10 ∉ (Bf.drop r).take (wp - r) := by
  have e : wp - r = s + (wp - (r + s)) := by omega
  rw [e, take_add_drop, List.mem_append]
  exact fun h => h.elim h1 h2

theorem rem_all {D : List Int} {i r wp : Nat} {Bf : List Int} (hi : i = D.length) : rem D i r wp Bf = (Bf.drop r).take (wp - r) := by
  subst hi; unfold rem; rw [List.drop_length]; simp
theorem rem_nil {D : List Int} {i wp : Nat} {Bf : List Int} (hi : i = D.length) : rem D i wp wp Bf = [] := by
  subst hi; unfold rem; rw [List.drop_length]; simp
theorem rem_full {D : List Int} {i r wp : Nat} {Bf : List Int} : rem D i r wp Bf = (Bf.drop r).take (wp - r) ++ rem D i wp wp Bf := by
  unfold rem; simp
theorem buf_len {r wp : Nat} {Bf : List Int} (hw : wp ≤ Bf.length) : ((Bf.drop r).take (wp - r)).length = wp - r := take_len _ _ _ (by omega)
/-- behind fill the first bytes are what they were -/
theorem none_filled {D D' : List Int} {i r wp i' wp' : Nat} {Bf Bf' : List Int} (hw : wp ≤ Bf.length) (hw' : wp' ≤ Bf'.length) (hle : wp - r ≤ wp') (hR : rem D' i' 0 wp' Bf' = rem D i r wp Bf) (h : 10 ∉ (Bf.drop r).take (wp - r)) : 10 ∉ (Bf'.drop 0).take (wp - r) := by
  have e : (Bf'.drop 0).take (wp - r) = (Bf.drop r).take (wp - r) := by
    have h2 := congrArg (List.take (wp - r)) hR
    unfold rem at h2
    have l1 : (List.take (wp' - 0) (List.drop 0 Bf')).length = wp' := by rw [List.length_take]; simp; omega
    have l2 := buf_len (r := r) hw
    rw [List.take_append_of_le_length (by omega), List.take_append_of_le_length (by omega), List.take_take, List.take_take] at h2
    rw [Nat.min_eq_left (by omega), Nat.min_self] at h2
    exact h2
  rw [e]; exact h

end Go.Proofs.Qxb6612240aDoor
