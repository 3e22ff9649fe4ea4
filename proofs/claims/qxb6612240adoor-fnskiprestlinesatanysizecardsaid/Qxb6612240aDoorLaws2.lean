import Derived.Test.Qxb6612240aDoorLaws
namespace Go.Proofs.Qxb6612240aDoor
open Go.RowKit

/-- a slice that reads as L, wherever it lies -/
def Wnd (w : World) (u : Value) (L : List Int) : Prop :=
  ∃ (sp : Option Addr) (C : Nat), u = .slice sp L.length C ∧ (0 < L.length → ∃ g o, sp = some ⟨g, o, none⟩ ∧ L.length ≤ C ∧ ∀ i, i < L.length → w.cell? ⟨g, o + i, none⟩ = some (.int .u8 (L.getD i 0)))
theorem Wnd.keeps {w w' : World} {u : Value} {L : List Int} {S : List Nat} (h : Wnd w u L) (k : Keeps S w w') (hS : ∀ g o C, u = .slice (some ⟨g, o, none⟩) L.length C → g ∉ S) : Wnd w' u L := by
  obtain ⟨sp, C, rfl, h2⟩ := h
  refine ⟨sp, C, rfl, fun h0 => ?_⟩
  obtain ⟨g, o, rfl, h3, h4⟩ := h2 h0
  exact ⟨g, o, rfl, h3, fun i hi => k.cell (h4 i hi) (hS g o C rfl)⟩
theorem Reads.keeps {w w' : World} {v : Value} {L : List Int} (h : Reads w v L) (k : Keeps [] w w') : Reads w' v L := by
  obtain ⟨g, C, h1, h2, h3⟩ := h
  exact ⟨g, C, h1, h2, fun i hi => k.cell (h3 i hi) (by simp)⟩

set_option maxHeartbeats 1000000 in
/-- b1SameBytes at two slices that read alike -/
theorem same_true (w : World) (v u : Value) (L : List Int) (hL : L.length ≤ 2000000) (hv : Reads w v L) (hu : Wnd w u L) :
    Calls Tryd.prog 11 #[v, u] w fun e w' => e = .returned (.bool true) ∧ Keeps [] w w' := by
  obtain ⟨g, C, rfl, hC, hc⟩ := hv
  obtain ⟨sp, C2, rfl, hs⟩ := hu
  by_cases h0 : L.length = 0
  · rw [h0]
    clear hc hs hL hC h0
    go_enter Tryd.func11, Tryd.ntmps11
    go_wp2
    refine wp_loop_rounds 1 ?_
    rw [rounds_succ]
    go_wp2
    go_ret
    exact ⟨rfl, Keeps.refl _ _⟩
  · obtain ⟨g2, o2, rfl, hC2, hc2⟩ := hs (by omega)
    have H1 := hd hc
    have H2 := hd hc2
    clear hc hc2 hs
    go_enter Tryd.func11, Tryd.ntmps11
    go_wp2
    go_loopw [5] (fun i wr => ∃ j : Nat, i = .int .i64 j ∧ j ≤ L.length ∧ Keeps [] w wr) (fun i _ => L.length - (intOf i).toNat)
    case atStart => exact ⟨0, rfl, Nat.zero_le _, Keeps.refl _ _⟩
    case round =>
      obtain ⟨j, rfl, hj, hk⟩ := hrel
      by_cases hjl : j < L.length
      · have c1 : wr.cell? ⟨g, j, none⟩ = some (.int .u8 (L.getD j 0)) := hk.cell (H1.out j hjl) (by simp)
        have c2 : wr.cell? ⟨g2, o2 + j, none⟩ = some (.int .u8 (L.getD j 0)) := hk.cell (H2.out j hjl) (by simp)
        generalize L.getD j 0 = ch at *
        go_wp2
        go_quiet (fail)
        go_wp2
        go_round
        case measure => simp [intOf]; omega
        case rel => exact ⟨j + 1, by go_num, by omega, hk.drewN nq⟩
      · go_wp2
        go_ret
        exact ⟨rfl, hk⟩

/-- what follows the k-th newline -/
def afterK : Nat → List Int → List Int
  | 0, L => L
  | n + 1, L => afterNl (afterK n L)

theorem after_step {D : List Int} {i : Nat} (hi : i < D.length) (h : ¬ D.getD i 0 = 10) : afterNl (D.drop i) = afterNl (D.drop (i + 1)) := by
  rw [List.drop_eq_getElem_cons hi]
  rw [List.getD_eq_getElem?_getD, List.getElem?_eq_getElem hi] at h
  show (if D[i] = 10 then _ else _) = _
  exact if_neg h
theorem after_found {D : List Int} {i : Nat} (hi : i < D.length) (h : D.getD i 0 = 10) : afterNl (D.drop i) = D.drop (i + 1) := by
  rw [List.drop_eq_getElem_cons hi]
  rw [List.getD_eq_getElem?_getD, List.getElem?_eq_getElem hi] at h
  show (if D[i] = 10 then _ else _) = _
  exact if_pos h

theorem slice_from (g n k : Nat) (h : k ≤ n) : ∃ v, (∀ w : World, (Instr.slice 22 (.slice (some ⟨g, 0, none⟩) n n) (some (.int .i64 (k : Int))) none none).run Tryd.prog w = .ok v w) ∧ ∀ (w : World) (D : List Int), D.length = n → w.heap[g]? = some (.cells (bs D).toArray 5 (0, 0)) → Wnd w v (D.drop k) := by
  refine ⟨.slice (some (if n = k then ⟨g, 0, none⟩ else ⟨g, k, none⟩)) (n - k) (n - k), fun w => ?_, fun w D hx hr => ?_⟩
  · go_simp
    by_cases e : n = k
    · rw [if_pos e, if_pos e]
    · rw [if_neg e, if_neg e]
  · subst hx
    refine ⟨_, D.length - k, by rw [List.length_drop], fun h0 => ?_⟩
    rw [List.length_drop] at h0
    rw [if_neg (by omega)]
    refine ⟨g, k, rfl, by rw [List.length_drop]; exact Nat.le_refl _, fun i hi => ?_⟩
    rw [List.length_drop] at hi
    refine row_cell hr ?_
    rw [List.getElem?_toArray, bs_at (by omega)]
    simp [List.getD_eq_getElem?_getD, List.getElem?_drop]
theorem slice_nil (w : World) : (Instr.slice 22 (.slice none 0 0) (some (.int .i64 0)) none none).run Tryd.prog w = .ok (.slice none 0 0) w := by
  go_simp
theorem afterK_nil (k : Nat) : afterK k [] = [] := by
  induction k with
  | zero => rfl
  | succ n ih => show afterNl (afterK n []) = []; rw [ih]; rfl
theorem afterNl_len (L : List Int) : (afterNl L).length ≤ L.length := by
  induction L with
  | nil => simp [afterNl]
  | cons x r ih =>
    show (if x = 10 then r else afterNl r).length ≤ _
    split <;> simp <;> omega
theorem afterK_len (k : Nat) (L : List Int) : (afterK k L).length ≤ L.length := by
  induction k with
  | zero => exact Nat.le_refl _
  | succ n ih => exact Nat.le_trans (afterNl_len _) ih

set_option maxRecDepth 100000 in
set_option maxHeartbeats 2000000 in
/-- b1AfterLines -/
theorem lines_any (db : Nat) (D : List Int) (k : Nat) (w : World) (hD : D.length ≤ 1048576) (hk : k ≤ 65536) (hrow : w.heap[db]? = some (.cells (bs D).toArray 5 (0, 0))) :
    Calls Tryd.prog 12 #[.slice (some ⟨db, 0, none⟩) D.length D.length, .int .i64 k] w fun e w' => ∃ u, e = .returned u ∧ (∀ w'' : World, w''.heap[db]? = some (.cells (bs D).toArray 5 (0, 0)) → Wnd w'' u (afterK k D)) ∧ Keeps [] w w' := by
  have HR := hd hrow
  clear hrow
  go_enter Tryd.func12, Tryd.ntmps12
  go_wp2
  go_loopw [5, 6] (fun i n wr => ∃ (ii nn : Nat), i = .int .i64 ii ∧ n = .int .i64 nn ∧ nn ≤ k ∧ ii ≤ D.length ∧ Hid (D.drop ii = afterK nn D) ∧ Hid (wr.heap[db]? = some (.cells (bs D).toArray 5 (0, 0))) ∧ Keeps [] w wr) (fun _ n _ => k - (intOf n).toNat)
  case atStart => exact ⟨0, 0, rfl, rfl, Nat.zero_le _, Nat.zero_le _, rfl, HR, Keeps.refl _ _⟩
  case round =>
    clear HR
    obtain ⟨ii, nn, rfl, rfl, hnk, hiD, HA, HR, hkp⟩ := hrel
    by_cases hn : nn < k
    · go_wp2
      go_loopw [5] (fun i wq => ∃ (jj : Nat), i = .int .i64 jj ∧ jj ≤ D.length ∧ Hid (afterNl (D.drop jj) = afterK (nn + 1) D) ∧ Hid (wq.heap[db]? = some (.cells (bs D).toArray 5 (0, 0))) ∧ Keeps [] w wq) (fun i _ => D.length - (intOf i).toNat)
      case atStart => exact ⟨ii, rfl, hiD, by rw [HA.out]; rfl, HR, hkp⟩
      case round =>
        clear HR hkp
        obtain ⟨jj, rfl, hjD, HB, HR, hkp⟩ := hrel
        by_cases hjl : jj < D.length
        · have c : wr.cell? ⟨db, jj, none⟩ = some (.int .u8 (D.getD jj 0)) := row_cell HR.out (by rw [List.getElem?_toArray]; exact bs_at hjl)
          by_cases h10 : D.getD jj 0 = 10
          · have HF := hd (after_found hjl h10)
            rw [h10] at c
            clear h10
            go_wp2
            go_round
            case measure => simp [intOf]; omega
            case rel => exact ⟨jj + 1, nn + 1, by go_num, by go_num, by omega, by omega, HF.out.symm.trans HB.out, HR, hkp⟩
          · have HF := hd (after_step hjl h10)
            generalize D.getD jj 0 = ch at *
            go_wp2
            go_round
            case measure => simp [intOf]; omega
            case rel => exact ⟨jj + 1, by go_num, by omega, HF.out.symm.trans HB.out, HR, hkp⟩
        · have hjj : jj = D.length := by omega
          have HF : Hid (D.drop jj = afterK (nn + 1) D) := by
            rw [← HB.out, hjj, List.drop_length]; rfl
          have hjf : ¬ ((jj : Int) < (D.length : Int)) := by omega
          clear hjj
          go_wp2
          go_round
          case measure => simp [intOf]; omega
          case rel => exact ⟨jj, nn + 1, rfl, by go_num, by omega, by omega, HF, HR, hkp⟩
    · have hnn : nn = k := by omega
      obtain ⟨v, hs, hv⟩ := slice_from db D.length ii hiD
      have HV : Hid (∀ w'' : World, w''.heap[db]? = some (.cells (bs D).toArray 5 (0, 0)) → Wnd w'' v (afterK k D)) := by
        intro w'' hr
        have := hv w'' D rfl hr
        rw [HA.out, hnn] at this
        exact this
      clear hv hnn
      go_wp2
      go_ret
      exact ⟨v, rfl, HV.out, hkp⟩

set_option maxRecDepth 100000 in
set_option maxHeartbeats 2000000 in
theorem lines_nil (k : Nat) (w : World) (hk : k ≤ 65536) :
    Calls Tryd.prog 12 #[.slice none 0 0, .int .i64 k] w fun e w' => ∃ u, e = .returned u ∧ (∀ w'' : World, Wnd w'' u (afterK k [])) ∧ Keeps [] w w' := by
  have hs := slice_nil
  have HV : Hid (∀ w : World, Wnd w (.slice none 0 0) (afterK k [])) := fun w => by rw [afterK_nil]; exact ⟨none, 0, rfl, fun h => by simp at h⟩
  go_enter Tryd.func12, Tryd.ntmps12
  go_wp2
  go_loopw [5, 6] (fun i n wr => ∃ nn : Nat, i = .int .i64 0 ∧ n = .int .i64 nn ∧ nn ≤ k ∧ Keeps [] w wr) (fun _ n _ => k - (intOf n).toNat)
  case atStart => exact ⟨0, rfl, rfl, Nat.zero_le _, Keeps.refl _ _⟩
  case round =>
    obtain ⟨nn, rfl, rfl, hnk, hkp⟩ := hrel
    by_cases hn : nn < k
    · go_wp2
      refine wp_loop_rounds 1 ?_
      rw [rounds_succ]
      go_wp2
      go_round
      case measure => simp [intOf]; omega
      case rel => exact ⟨nn + 1, rfl, by go_num, by omega, hkp⟩
    · go_wp2
      go_ret
      exact ⟨_, rfl, HV.out, hkp⟩

end Go.Proofs.Qxb6612240aDoor
