import Derived.Test.Qxb6612240aDoorPlain
import Derived.Deep.LoopGhost
namespace Go.Proofs.Qxb6612240aDoor
open Go.RowKit

/-- what ReadSlice leaves -/
def Sliced (w0 w : World) (rr br bb : Nat) (aE aF : Addr) (da : Option Addr) (D : List Int) (R : List Int) (N : Nat) (er : Value) : Prop :=
  ∃ (i' r' wp' : Nat) (Bf' : List Int) (eb' : Bool), Rd w rr br bb aE aF da D i' r' wp' Bf' (errV aE eb') ∧ r' ≤ wp' ∧ wp' ≤ Bf'.length ∧ Bf'.length = N ∧ i' ≤ D.length ∧ (eb' = true → i' = D.length) ∧ Keeps [rr, br, bb] w0 w ∧
    ((er = .nilIface ∧ ∃ pre, R = pre ++ 10 :: rem D i' r' wp' Bf' ∧ 10 ∉ pre) ∨ (er = .iface 59 (.pointer (some aE)) ∧ 10 ∉ R ∧ rem D i' r' wp' Bf' = []) ∨ (er = .iface 59 (.pointer (some aF)) ∧ ∃ pre, R = pre ++ rem D i' r' wp' Bf' ∧ 10 ∉ pre ∧ 0 < pre.length))

set_option maxRecDepth 100000 in
set_option maxHeartbeats 2000000 in
theorem readSlice_any {rr br bb : Nat} {aE aF : Addr} {da : Option Addr} {D : List Int} {i r wp : Nat} {Bf : List Int} {eb : Bool} (w : World) (h : Rd w rr br bb aE aF da D i r wp Bf (errV aE eb)) (hr : r ≤ wp) (hw : wp ≤ Bf.length) (hi : i ≤ D.length) (he : eb = true → i = D.length) :
    Calls Tryd.prog 19 #[.pointer (some ⟨br, 0, none⟩), .int .u8 10] w fun e w' => ∃ line er, e = .returned (.tuple #[line, er]) ∧ Sliced w w' rr br bb aE aF da D (rem D i r wp Bf) Bf.length er := by
  obtain ⟨R, hR⟩ : ∃ R, rem D i r wp Bf = R := ⟨_, rfl⟩
  obtain ⟨N, hN⟩ : ∃ N, Bf.length = N := ⟨_, rfl⟩
  rw [hR, hN]
  go_enter Tryd.func19, Tryd.ntmps19
  go_wp2
  go_loopg [4, 5, 6] (2 * (D.length - i) + 1) (fun gk line er sv wr => ∃ (i r wp : Nat) (Bf : List Int) (eb : Bool) (s : Nat), line = .slice none 0 0 ∧ er = .nilIface ∧ sv = .int .i64 s ∧ Rd wr rr br bb aE aF da D i r wp Bf (errV aE eb) ∧ r ≤ wp ∧ wp ≤ Bf.length ∧ Hid (Bf.length = N) ∧ i ≤ D.length ∧ (eb = true → i = D.length) ∧ Keeps [rr, br, bb] w wr ∧
    Hid (rem D i r wp Bf = R) ∧ r + s ≤ wp ∧ Hid (10 ∉ (Bf.drop r).take s) ∧ Hid (2 * (D.length - i) + (if eb = true then 0 else 1) ≤ gk))
  case atStart => exact ⟨i, r, wp, Bf, eb, 0, rfl, rfl, rfl, h, hr, hw, hN, hi, he, Keeps.refl _ _, hR, by omega, by apply hd; simp, by apply hd; split <;> omega⟩
  case round =>
    clear h hr hw hi he hR hN
    obtain ⟨i, r, wp, Bf, eb, s, rfl, rfl, rfl, h, hr, hw, HN, hi, he, hk, HR, hs, HS, HG⟩ := hrel
    have HEe := hd he
    clear he
    obtain ⟨c0, c1, c2, c3, c4, ⟨lb, c5⟩, ⟨ls, c6⟩⟩ := h.cells
    have hn := h.hN
    have e1 : IntKind.i64.wrap ((r : Int) + s) = r + s := by rw [IntKind.wrap_i64]; omega
    obtain ⟨sp, hsp, hsl0⟩ := slice_mid' bb Bf.length (r + s) wp hs hw
    have hsl : ∀ w : World, (Instr.slice 22 (.slice (some ⟨bb, 0, none⟩) Bf.length Bf.length) (some (.int .i64 ((r : Int) + s))) (some (.int .i64 (wp : Int))) none).run Tryd.prog w = .ok (.slice (some sp) (wp - (r + s)) (Bf.length - (r + s))) w := by
      intro w; have := hsl0 w; simpa using this
    clear hsl0
    have pbb := h.pbb
    obtain ⟨rz, hrz⟩ : ∃ rz, Lib.indexByte (Lib.bytesOf ((Bf.drop (r + s)).take (wp - (r + s)))) 10 = rz := ⟨_, rfl⟩
    have HZ := hd hrz
    clear hrz
    have HL := hd (take_len Bf (r + s) (wp - (r + s)) (by omega))
    have HC : Hid (∀ j, j < wp - (r + s) → wr.cell? (sp.add j) = some (.int .u8 (((Bf.drop (r + s)).take (wp - (r + s))).getD j 0))) := by
      intro j hj
      rw [hsp (by omega)]
      exact row_src pbb j _ (bs_at (by rw [HL.out]; exact hj))
    clear hsp
    go_wp2
    go_quiet ((go_at_call 20; exact Calls.quiet_of_same (ib20 _ _ _ _ rz _ HL.out HC.out HZ.out)))
    have HX : Hid ((rz = -1 ∧ 10 ∉ (Bf.drop (r + s)).take (wp - (r + s))) ∨ (∃ j : Nat, rz = j ∧ j < wp - (r + s) ∧ ((Bf.drop (r + s)).take (wp - (r + s))).getD j 0 = 10 ∧ 10 ∉ ((Bf.drop (r + s)).take (wp - (r + s))).take j)) := by
      have := ib_spec ((Bf.drop (r + s)).take (wp - (r + s))) (fun x hx => h.hB8 x (List.mem_of_mem_drop (List.mem_of_mem_take hx)))
      rw [HZ.out, HL.out] at this
      exact this
    have h1 : Rd (wr.drewN nq) _ _ _ _ _ _ _ _ _ _ _ _ := h.heap rfl
    have k1 : Keeps [rr, br, bb] w (wr.drewN nq) := hk.drewN nq
    generalize wr.drewN nq = w1 at *
    clear c0 c1 c2 c3 c4 c5 c6 h hk hsl e1 HZ HL HC pbb
    obtain ⟨c0, c1, c2, c3, c4, ⟨lb, c5⟩, ⟨ls, c6⟩⟩ := h1.cells
    rcases HX.out with ⟨hz, HX2⟩ | ⟨j, hz, hj, HX2, HX3⟩
    case inr =>
      subst hz
      clear HX
      have HXa := hd HX2
      have HXb := hd HX3
      clear HX2 HX3
      have e1 : IntKind.i64.wrap ((r : Int) + ((j : Int) + s)) = r + (j + s) := by rw [IntKind.wrap_i64]; omega
      have e2 : IntKind.i64.wrap ((r : Int) + ((j : Int) + s) + 1) = r + (j + s) + 1 := by rw [IntKind.wrap_i64]; omega
      have hsl : ∀ w : World, (Instr.slice 22 (.slice (some ⟨bb, 0, none⟩) Bf.length Bf.length) (some (.int .i64 (r : Int))) (some (.int .i64 ((r : Int) + ((j : Int) + s) + 1))) none).run Tryd.prog w = .ok (.slice (some ⟨bb, r, none⟩) (j + s + 1) (Bf.length - r)) w := by
        intro w
        obtain ⟨sp, q1, q2⟩ := slice_mid bb Bf.length r (r + (j + s) + 1) (by omega) (by omega)
        have := q2 w
        rw [q1 (by omega), show r + (j + s) + 1 - r = j + s + 1 by omega] at this
        simpa using this
      go_wp2
      go_quiet (fail)
      have h2 : Rd (w1.drewN nq) _ _ _ _ _ _ _ _ _ _ _ _ := h1.heap rfl
      have k2 : Keeps [rr, br, bb] w (w1.drewN nq) := k1.drewN nq
      generalize w1.drewN nq = w2 at *
      clear c0 c1 c2 c3 c4 c5 c6 h1 k1 hsl e1 e2
      obtain ⟨c0, c1, c2, c3, c4, ⟨lb, c5⟩, ⟨ls, c6⟩⟩ := h2.cells
      have f2 := h2.free 2
      have f5 := h2.free 5
      have f6 := h2.free 6
      have hrp := h2.hbb
      have cb : w2.cell? ⟨bb, r + (j + s), none⟩ = some (.int .u8 (Bf.getD (r + (j + s)) 0)) := row_cell h2.pbb (by simpa using bs_at (l := Bf) (j := r + (j + s)) (by omega))
      generalize Bf.getD (r + (j + s)) 0 = cc at cb
      go_wp2
      go_ret2
      refine ⟨_, _, rfl, i, r + (j + s + 1), wp, Bf, eb, ((h2.setR' (r + (j + s + 1)) (by omega)).setLB _).setLS (-1), by omega, hw, HN.out, hi, HEe.out, ((k2.setCell (by simp) _).setCell (by simp) _).setCell (by simp) _, Or.inl ⟨rfl, (Bf.drop r).take (s + j), ?_, ?_⟩⟩
      · rw [← HR.out]; exact rem_found hw hs hj HXa.out
      · exact none_found (by omega) HS.out HXb.out
    case inl =>
      subst hz
      have HXa := hd HX2
      clear HX HX2
      have HB := hd (none_buffered hs HS.out HXa.out)
      clear HXa
      cases eb
      case true =>
        have hid := HEe.out rfl
        have HI := hd hid
        clear hid HEe
        have c4' : w1.cell? ⟨br, 4, none⟩ = some (.iface 59 (.pointer (some aE))) := c4
        clear c4
        obtain ⟨sp, hsp, hsl⟩ := slice_mid' bb Bf.length r wp hr hw
        by_cases hrw : r = wp
        · clear hsp
          subst hrw
          rw [Nat.sub_self] at hsl
          go_wp2
          go_quiet (fail)
          have h2 : Rd (w1.drewN nq) _ _ _ _ _ _ _ _ _ _ _ _ := h1.heap rfl
          have k2 : Keeps [rr, br, bb] w (w1.drewN nq) := k1.drewN nq
          generalize w1.drewN nq = w2 at *
          clear c0 c1 c2 c3 c4' c5 c6 h1 k1 hsl
          obtain ⟨c0, c1, c2, c3, c4, ⟨lb, c5⟩, ⟨ls, c6⟩⟩ := h2.cells
          have f2 := h2.free 2
          go_wp2_with fail
          refine (readErr_any _ (h2.setR r) (Or.inr rfl)).mono ?_
          rintro e w3 ⟨rfl, h3, k3⟩
          have k3' := (k2.setCell (p := ⟨br, 2, none⟩) (by simp) (.int .i64 r)).trans k3
          clear c0 c1 c2 c3 c4 c5 c6 f2 h2 k2 k3
          go_wp2
          go_ret2
          exact ⟨_, _, rfl, i, r, r, Bf, false, h3, by omega, hw, HN.out, hi, (fun h => by cases h), k3', Or.inr (Or.inl ⟨rfl, by rw [← HR.out, rem_all HI.out]; exact HB.out, rem_nil HI.out⟩)⟩
        · obtain rfl : sp = ⟨bb, r, none⟩ := hsp (by omega)
          clear hsp
          go_wp2
          go_quiet (fail)
          have h2 : Rd (w1.drewN nq) _ _ _ _ _ _ _ _ _ _ _ _ := h1.heap rfl
          have k2 : Keeps [rr, br, bb] w (w1.drewN nq) := k1.drewN nq
          generalize w1.drewN nq = w2 at *
          clear c0 c1 c2 c3 c4' c5 c6 h1 k1 hsl
          obtain ⟨c0, c1, c2, c3, c4, ⟨lb, c5⟩, ⟨ls, c6⟩⟩ := h2.cells
          have f2 := h2.free 2
          go_wp2_with fail
          refine (readErr_any _ (h2.setR wp) (Or.inr rfl)).mono ?_
          rintro e w3 ⟨rfl, h3, k3⟩
          have k3' := (k2.setCell (p := ⟨br, 2, none⟩) (by simp) (.int .i64 wp)).trans k3
          clear c0 c1 c2 c3 c4 c5 c6 f2 h2 k2 k3
          obtain ⟨c0, c1, c2, c3, c4, ⟨lb, c5⟩, ⟨ls, c6⟩⟩ := h3.cells
          have f5 := h3.free 5
          have f6 := h3.free 6
          have hrp := h3.hbb
          have cb : w3.cell? ⟨bb, r + (wp - r - 1), none⟩ = some (.int .u8 (Bf.getD (r + (wp - r - 1)) 0)) := row_cell h3.pbb (by simpa using bs_at (l := Bf) (j := r + (wp - r - 1)) (by omega))
          generalize Bf.getD (r + (wp - r - 1)) 0 = cc at cb
          go_wp2
          go_ret2
          exact ⟨_, _, rfl, i, wp, wp, Bf, false, (h3.setLB _).setLS (-1), by omega, hw, HN.out, hi, (fun h => by cases h), (k3'.setCell (by simp) _).setCell (by simp) _, Or.inr (Or.inl ⟨rfl, by rw [← HR.out, rem_all HI.out]; exact HB.out, rem_nil HI.out⟩)⟩
      case false =>
        clear HEe
        have c4' : w1.cell? ⟨br, 4, none⟩ = some .nilIface := c4
        clear c4
        have h1' : Rd w1 rr br bb aE aF da D i r wp Bf .nilIface := h1
        clear h1
        by_cases hfull : (Bf.length : Int) ≤ ((wp - r : Nat) : Int)
        · have hr0 : r = 0 := by omega
          have hwN : wp = Bf.length := by omega
          have HRW := hd (And.intro hr0 hwN)
          clear hr0 hwN
          go_wp2
          go_quiet ((go_at_call 22; exact Calls.quiet_of (buffered_any _ (h1'.heap rfl) hr hw)))
          have h2 : Rd (w1.drewN nq) _ _ _ _ _ _ _ _ _ _ _ _ := h1'.heap rfl
          have k2 : Keeps [rr, br, bb] w (w1.drewN nq) := k1.drewN nq
          generalize w1.drewN nq = w2 at *
          clear c0 c1 c2 c3 c4' c5 c6 h1' k1
          obtain ⟨c0, c1, c2, c3, c4, ⟨lb, c5⟩, ⟨ls, c6⟩⟩ := h2.cells
          have f2 := h2.free 2
          have f5 := h2.free 5
          have f6 := h2.free 6
          have hrp := h2.hbb
          have hrq := h2.hrb
          have g0 := h2.g0
          have cb : w2.cell? ⟨bb, Bf.length - 1, none⟩ = some (.int .u8 (Bf.getD (Bf.length - 1) 0)) := row_cell h2.pbb (by simpa using bs_at (l := Bf) (j := Bf.length - 1) (by omega))
          generalize Bf.getD (Bf.length - 1) 0 = cc at cb
          go_wp2
          go_ret2
          have hL := buf_len (r := r) hw
          exact ⟨_, _, rfl, i, wp, wp, Bf, false, ((h2.setR wp).setLB _).setLS (-1), by omega, hw, HN.out, hi, (fun h => by cases h), ((k2.setCell (by simp) _).setCell (by simp) _).setCell (by simp) _, Or.inr (Or.inr ⟨rfl, (Bf.drop r).take (wp - r), by rw [← HR.out]; exact rem_full, HB.out, by omega⟩)⟩
        · go_wp2
          go_quiet ((go_at_call 22; exact Calls.quiet_of (buffered_any _ (h1'.heap rfl) hr hw)))
          have h2 : Rd (w1.drewN nq) _ _ _ _ _ _ _ _ _ _ _ _ := h1'.heap rfl
          have k2 : Keeps [rr, br, bb] w (w1.drewN nq) := k1.drewN nq
          generalize w1.drewN nq = w2 at *
          clear c0 c1 c2 c3 c4' c5 c6 h1' k1
          obtain ⟨c0, c1, c2, c3, c4, ⟨lb, c5⟩, ⟨ls, c6⟩⟩ := h2.cells
          have e1 : IntKind.i64.wrap ((wp : Int) - r) = wp - r := by rw [IntKind.wrap_i64]; omega
          go_wp2
          go_quiet (fail)
          have h3 : Rd (w2.drewN nq) _ _ _ _ _ _ _ _ _ _ _ _ := h2.heap rfl
          have k3 : Keeps [rr, br, bb] w (w2.drewN nq) := k2.drewN nq
          generalize w2.drewN nq = w3 at *
          clear c0 c1 c2 c3 c4 c5 c6 h2 k2
          go_wp2_with (go_at_call 23; refine (fill_any _ h3 hr hw (by omega) hi).mono ?_; rintro e w4 ⟨rfl, hF⟩)
          obtain ⟨i4, wp4, Bf4, err4, h4, hR4, hw4, hN4, hi4, hn4, he4, k4⟩ := hF
          rcases he4 with ⟨rfl, hlt⟩ | ⟨rfl, heq⟩
          · go_roundg (2 * (D.length - i4) + 1)
            case measure => have := HG.out; simp at this; omega
            case rel => exact ⟨i4, 0, wp4, Bf4, false, wp - r, rfl, rfl, by go_num, h4, Nat.zero_le _, hw4, hN4.trans HN.out, hi4, (fun h => by cases h), k3.trans k4, hR4.trans HR.out, by omega, none_filled hw hw4 hn4 hR4 HB.out, by apply hd; simp⟩
          · go_roundg 0
            case measure => have := HG.out; simp at this; omega
            case rel => exact ⟨i4, 0, wp4, Bf4, true, wp - r, rfl, rfl, by go_num, h4, Nat.zero_le _, hw4, hN4.trans HN.out, hi4, fun _ => heq, k3.trans k4, hR4.trans HR.out, by omega, none_filled hw hw4 hn4 hR4 HB.out, by apply hd; simp; omega⟩

end Go.Proofs.Qxb6612240aDoor
