import Derived.Test.Qxb6612240aDoorSlice
import Derived.LaidEql
namespace Go.Proofs.Qxb6612240aDoor
open Go.RowKit

/-- what follows the first newline -/
def afterNl : List Int → List Int
  | [] => []
  | x :: r => if x = 10 then r else afterNl r
theorem afterNl_skip (p t : List Int) (h : 10 ∉ p) : afterNl (p ++ t) = afterNl t := by
  induction p with
  | nil => rfl
  | cons x p ih =>
    simp only [List.mem_cons, not_or] at h
    show (if x = 10 then _ else afterNl (p ++ t)) = _
    rw [if_neg (fun e => h.1 e.symm), ih h.2]
theorem afterNl_found (p t : List Int) (h : 10 ∉ p) : afterNl (p ++ 10 :: t) = t := by
  rw [afterNl_skip p _ h]; rfl
theorem afterNl_none (p : List Int) (h : 10 ∉ p) : afterNl p = [] := by
  have := afterNl_skip p [] h
  rw [List.append_nil] at this
  exact this

/-- the two sentinels are two, and stand below B -/
def Sen (w : World) (aE aF : Addr) (B : Nat) : Prop :=
  aE ≠ aF ∧ aE.block < B ∧ aF.block < B ∧ (∃ c t, w.heap[aE.block]? = some (.cells c t (0, 0))) ∧ (∃ c t, w.heap[aF.block]? = some (.cells c t (0, 0)))
theorem Sen.keeps {w w' : World} {aE aF : Addr} {B : Nat} {S : List Nat} (h : Sen w aE aF B) (k : Keeps S w w') (hs : ∀ x ∈ S, B ≤ x) : Sen w' aE aF B := by
  obtain ⟨h1, h2, h3, ⟨c, t, h4⟩, ⟨c', t', h5⟩⟩ := h
  exact ⟨h1, h2, h3, ⟨c, t, k.row h4 fun hx => by have := hs _ hx; omega⟩, ⟨c', t', k.row h5 fun hx => by have := hs _ hx; omega⟩⟩

theorem Tryd.comp59 : (Tryd.prog.info? 59).map (·.comparable) = some true := by kernel_rfl
theorem Tryd.size78 : (Tryd.prog.info? 78).map (·.size) = some 1 := by kernel_rfl

theorem eql_same (a : Addr) (w : World) : (binOp .eql 28 (.iface 59 (.pointer (some a))) (.iface 59 (.pointer (some a)))).run Tryd.prog w = .ok (.bool true) w := by
  obtain ⟨i, hi, hcmp⟩ := Option.map_eq_some_iff.1 Tryd.comp59
  obtain ⟨j, hj, _⟩ := Option.map_eq_some_iff.1 Tryd.size78
  exact run_eql_iface_ptr_same w a Tryd.underlying28 Tryd.underlying59 hi hcmp hj
theorem eql_other {w : World} {aE aF : Addr} {B : Nat} (h : Sen w aE aF B) : (binOp .eql 28 (.iface 59 (.pointer (some aE))) (.iface 59 (.pointer (some aF)))).run Tryd.prog w = .ok (.bool false) w := by
  obtain ⟨i, hi, hcmp⟩ := Option.map_eq_some_iff.1 Tryd.comp59
  obtain ⟨j, hj, hjs⟩ := Option.map_eq_some_iff.1 Tryd.size78
  obtain ⟨h1, _, _, ⟨c, t, h4⟩, ⟨c', t', h5⟩⟩ := h
  exact run_eql_iface_ptr_other w Tryd.underlying28 Tryd.underlying59 hi hcmp hj (by omega) h1 h4 h5
theorem eql_nil_left (t : TypeId) (v : Value) (w : World) : (binOp .eql 28 .nilIface (.iface t v)).run Tryd.prog w = .ok (.bool false) w := run_eql_iface_nil_left w t v Tryd.underlying28

/-- a lineReader with what it still has to read -/
def Lrd (w : World) (rr br bb lr : Nat) (aE aF : Addr) (da : Option Addr) (D : List Int) (N : Nat) (R : List Int) (longest line : Int) (cut skip : Bool) : Prop :=
  ∃ (i r wp : Nat) (Bf : List Int) (eb : Bool), Rd w rr br bb aE aF da D i r wp Bf (errV aE eb) ∧ r ≤ wp ∧ wp ≤ Bf.length ∧ Bf.length = N ∧ i ≤ D.length ∧ (eb = true → i = D.length) ∧ rem D i r wp Bf = R ∧ bb < lr ∧
    w.heap[lr]? = some (.cells #[.pointer (some ⟨br, 0, none⟩), .int .i64 longest, .int .i64 line, .bool cut, .bool skip, .slice none 0 0] 41 (0, 0)) ∧ Sen w aE aF rr

theorem Lrd.row {w : World} {rr br bb lr : Nat} {aE aF : Addr} {da : Option Addr} {D : List Int} {N : Nat} {R : List Int} {longest line : Int} {cut skip : Bool} (h : Lrd w rr br bb lr aE aF da D N R longest line cut skip) :
    w.heap[lr]? = some (.cells #[.pointer (some ⟨br, 0, none⟩), .int .i64 longest, .int .i64 line, .bool cut, .bool skip, .slice none 0 0] 41 (0, 0)) := by
  obtain ⟨_, _, _, _, _, _, _, _, _, _, _, _, _, h1, _⟩ := h; exact h1

theorem Lrd.done {w : World} {rr br bb lr : Nat} {aE aF : Addr} {da : Option Addr} {D : List Int} {N : Nat} {R : List Int} {longest line : Int} {cut skip : Bool} {i r wp : Nat} {Bf : List Int} {eb : Bool}
    (h1 : Rd w rr br bb aE aF da D i r wp Bf (errV aE eb)) (h2 : r ≤ wp) (h3 : wp ≤ Bf.length) (h4 : Bf.length = N) (h5 : i ≤ D.length) (h6 : eb = true → i = D.length) (h7 : rem D i r wp Bf = R) (h8 : bb < lr)
    (h9 : w.heap[lr]? = some (.cells #[.pointer (some ⟨br, 0, none⟩), .int .i64 longest, .int .i64 line, .bool cut, .bool skip, .slice none 0 0] 41 (0, 0))) (h10 : Sen w aE aF rr) :
    Lrd (w.setCell ⟨lr, 4, none⟩ (.bool false)) rr br bb lr aE aF da D N R longest line cut false := by
  have x1 := h1.hrb
  have x2 := h1.hbb
  have k : Keeps [lr] w (w.setCell ⟨lr, 4, none⟩ (.bool false)) := (Keeps.refl _ _).setCell (by simp) _
  exact ⟨i, r, wp, Bf, eb, h1.keeps k (by simp; omega), h2, h3, h4, h5, h6, h7, h8, row_setCell h9 _, h10.keeps k (by simp; omega)⟩

set_option maxRecDepth 100000 in
set_option maxHeartbeats 2000000 in
theorem skipRest_any {rr br bb lr : Nat} {aE aF : Addr} {da : Option Addr} {D : List Int} {N : Nat} {R : List Int} {longest line : Int} {cut skip : Bool} (w : World) (h : Lrd w rr br bb lr aE aF da D N R longest line cut skip) :
    Calls Tryd.prog 16 #[.pointer (some ⟨lr, 0, none⟩)] w fun e w' => e = .returned .nilIface ∧ Lrd w' rr br bb lr aE aF da D N (afterNl R) longest line cut false ∧ Keeps [rr, br, bb, lr] w w' := by
  obtain ⟨R0, hR0⟩ : ∃ R0, afterNl R = R0 := ⟨_, rfl⟩
  rw [hR0]
  have qs := eql_same
  have qn := eql_nil_left
  go_enter Tryd.func16, Tryd.ntmps16
  go_wp2
  go_loopg [4] R.length (fun gk er wr => ∃ (R' : List Int) (er' : Value), er = er' ∧ Lrd wr rr br bb lr aE aF da D N R' longest line cut skip ∧ Keeps [rr, br, bb, lr] w wr ∧ Hid (afterNl R' = R0) ∧ Hid (R'.length ≤ gk))
  case atStart => exact ⟨R, _, rfl, h, Keeps.refl _ _, hR0, Nat.le_refl _⟩
  case round =>
    clear h hR0
    obtain ⟨R', er', rfl, h, hk, HR, HG⟩ := hrel
    have c0 : wr.cell? ⟨lr, 0, none⟩ = some (.pointer (some ⟨br, 0, none⟩)) := row_cell h.row rfl
    obtain ⟨i, r, wp, Bf, eb, h1, hr, hw, hN, hi, he, hrem, hlr, hrow, hsen⟩ := h
    have HN := hd hN
    have HE := hd he
    have HM := hd hrem
    clear hN he hrem
    go_wp2_with fail
    refine (readSlice_any _ h1 hr hw hi HE.out).mono ?_
    rintro e w2 ⟨ln, er, rfl, i2, r2, wp2, Bf2, eb2, h2, hr2, hw2, hN2, hi2, he2, k2, hS⟩
    rw [HM.out] at hS
    have hrow2 := k2.row hrow (by simp; have := h1.hrb; have := h1.hbb; omega)
    have hsen2 := hsen.keeps k2 (by simp; have := h1.hrb; have := h1.hbb; omega)
    have k2' := hk.trans (k2.mono (T := [rr, br, bb, lr]) (by simp))
    have HN2 := hd (hN2.trans HN.out)
    have HE2 := hd he2
    have g0 := h2.g0
    have g1 := h2.g1
    clear c0 h1 hr hw hi HE HM hrow hsen k2 hk hN2 he2 HN
    have f4 : w2.frozen? ⟨lr, 4, none⟩ = false := row_free hrow2
    have c4 : w2.cell? ⟨lr, 4, none⟩ = some (.bool skip) := row_cell hrow2 rfl
    have hx1 := h2.hrb
    have hx2 := h2.hbb
    rcases hS with ⟨rfl, pre, hp1, hp2⟩ | ⟨rfl, hp1, hp2⟩ | ⟨rfl, pre, hp1, hp2, hp3⟩
    · have HP : Hid (rem D i2 r2 wp2 Bf2 = R0) := by rw [← HR.out, hp1, afterNl_found _ _ hp2]; exact hd rfl
      clear hp1 hp2
      go_wp2
      go_ret
      exact ⟨rfl, Lrd.done h2 hr2 hw2 HN2.out hi2 HE2.out HP.out hlr hrow2 hsen2, k2'.setCell (by simp) _⟩
    · have HP : Hid (rem D i2 r2 wp2 Bf2 = R0) := by rw [← HR.out, afterNl_none _ hp1]; exact hd hp2
      clear hp1 hp2
      have qo := eql_other hsen2
      go_wp2
      go_ret
      exact ⟨rfl, Lrd.done h2 hr2 hw2 HN2.out hi2 HE2.out HP.out hlr hrow2 hsen2, k2'.setCell (by simp) _⟩
    · have HP : Hid (afterNl (rem D i2 r2 wp2 Bf2) = R0) := by rw [← HR.out, hp1, afterNl_skip _ _ hp2]; exact hd rfl
      have HQ : Hid ((rem D i2 r2 wp2 Bf2).length < R'.length) := by rw [hp1, List.length_append]; apply hd; omega
      clear hp1 hp2 hp3
      go_wp2
      go_roundg (rem D i2 r2 wp2 Bf2).length
      case measure => have := HG.out; have := HQ.out; omega
      case rel => exact ⟨_, _, rfl, ⟨i2, r2, wp2, Bf2, eb2, h2, hr2, hw2, HN2.out, hi2, HE2.out, rfl, hlr, hrow2, hsen2⟩, k2', HP, Nat.le_refl _⟩

end Go.Proofs.Qxb6612240aDoor
