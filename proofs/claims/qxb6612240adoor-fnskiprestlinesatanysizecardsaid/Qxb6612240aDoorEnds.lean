import Derived.Test.Qxb6612240aDoorAll2
namespace Go.Proofs.Qxb6612240aDoor
open Go.RowKit

section
variable {w w' : World} {rr br bb lr : Nat} {aE aF : Addr} {da : Option Addr} {D : List Int} {N : Nat} {R : List Int} {longest line : Int} {cut skip : Bool}

/-- whatever leaves a reader's blocks, its data and the sentinels alone -/
theorem Lrd.frame {S : List Nat} (h : Lrd w rr br bb lr aE aF da D N R longest line cut skip) (k : Keeps S w w') (B : Nat) (hS : ∀ x ∈ S, B ≤ x ∧ x ≠ rr ∧ x ≠ br ∧ x ≠ bb ∧ x ≠ lr)
    (h2 : 1 < B) (hda : ∀ db, da = some ⟨db, 0, none⟩ → db < B) (hE : aE.block < B) (hF : aF.block < B) : Lrd w' rr br bb lr aE aF da D N R longest line cut skip := by
  obtain ⟨i, r, wp, Bf, eb, hrd, q2, q3, q4, q5, q6, q7, q8, q9, q10⟩ := h
  obtain ⟨⟨pr, p1⟩, ⟨lb, ls, p2⟩, p3, p4, p5, p6, p7, p8, p9, p10, p11, p12, p13⟩ := hrd
  have lo : ∀ g, g < B → g ∉ S := fun g hg hx => by have := (hS g hx).1; omega
  have e1 : rr ∉ S := fun hx => (hS _ hx).2.1 rfl
  have e2 : br ∉ S := fun hx => (hS _ hx).2.2.1 rfl
  have e3 : bb ∉ S := fun hx => (hS _ hx).2.2.2.1 rfl
  have e4 : lr ∉ S := fun hx => (hS _ hx).2.2.2.2 rfl
  obtain ⟨s1, s2, s3, ⟨c, t, s4⟩, ⟨c', t', s5⟩⟩ := q10
  refine ⟨i, r, wp, Bf, eb, ⟨⟨pr, k.row p1 e1⟩, ⟨lb, ls, k.row p2 e2⟩, k.row p3 e3, fun h => ?_, p5, p6, k.cell p7 (lo _ (by simp; omega)), k.cell p8 (lo _ (by simp; omega)), p9, p10, p11, p12, p13⟩, q2, q3, q4, q5, q6, q7, q8, k.row q9 e4, s1, s2, s3, ⟨c, t, k.row s4 (lo _ hE)⟩, ⟨c', t', k.row s5 (lo _ hF)⟩⟩
  obtain ⟨db, x1, x2, x3, x4⟩ := p4 h
  exact ⟨db, x1, x2, x3, k.row x4 (lo _ (hda db x1))⟩

theorem Lrd.brd (h : Lrd w rr br bb lr aE aF da D N R longest line cut skip) : Brd w rr br bb aE aF da D N R := by
  obtain ⟨i, r, wp, Bf, eb, hrd, q2, q3, q4, q5, q6, q7, q8, q9, q10⟩ := h
  exact ⟨i, r, wp, Bf, eb, hrd, q2, q3, q4, q5, q6, q7⟩
theorem Lrd.lt (h : Lrd w rr br bb lr aE aF da D N R longest line cut skip) : bb < lr := by
  obtain ⟨i, r, wp, Bf, eb, hrd, q2, q3, q4, q5, q6, q7, q8, q9, q10⟩ := h
  exact q8
theorem Lrd.rlen (h : Lrd w rr br bb lr aE aF da D N R longest line cut skip) : R.length ≤ 2000000 := by
  obtain ⟨i, r, wp, Bf, eb, hrd, q2, q3, q4, q5, q6, q7, q8, q9, q10⟩ := h
  rw [← q7]
  unfold rem
  rw [List.length_append, List.length_take, List.length_drop, List.length_drop]
  have := hrd.hN
  have := hrd.hD
  omega

/-- ZZlineReaderRest -/
theorem rest_any (w : World) (h : Lrd w rr br bb lr aE aF da D N R longest line cut skip) :
    Calls Tryd.prog 10 #[.pointer (some ⟨lr, 0, none⟩)] w fun e w' => ∃ v, e = .returned v ∧ Reads w' v R ∧ Keeps [rr, br, bb] w w' := by
  have c0 : w.cell? ⟨lr, 0, none⟩ = some (.pointer (some ⟨br, 0, none⟩)) := row_cell h.row rfl
  have hb := h.brd
  have hl := h.rlen
  have hbw : bb < w.heap.size := Nat.lt_trans h.lt (lt_of_block h.row)
  clear h
  go_enter Tryd.func10, Tryd.ntmps10
  go_wp2_with (go_at_call 17; refine (readAll_any w hb hl hbw).mono ?_; rintro e w2 ⟨v, rfl, hv, hB, hk⟩)
  go_ret
  exact ⟨v, rfl, hv, hk⟩

/-- ZZskipRest -/
theorem zskip_any (w : World) (h : Lrd w rr br bb lr aE aF da D N R longest line cut skip) :
    Calls Tryd.prog 8 #[.pointer (some ⟨lr, 0, none⟩)] w fun e w' => e = .returned .nilIface ∧ Lrd w' rr br bb lr aE aF da D N (afterNl R) longest line cut false ∧ Keeps [rr, br, bb, lr] w w' := by
  have H := skipRest_any w h
  clear h
  go_enter Tryd.func8, Tryd.ntmps8
  go_wp2_with (go_at_call 16; refine H.mono ?_; rintro e w2 ⟨rfl, hL, hk⟩)
  go_ret
  exact ⟨rfl, hL, hk⟩

theorem results_tmp4 {fn : Func} {t u v s : Tmp} (h : fn.results = #[.tmp t, .tmp u, .tmp v, .tmp s]) (tmps : Array Value) (P : Program) (w : World) :
    (results fn tmps).run P w = .ok (.tuple #[tmps.getD t undef, tmps.getD u undef, tmps.getD v undef, tmps.getD s undef]) w := by
  simp [results, h]

/-- ZZlineReaderState -/
theorem state_any (w : World) (h : Lrd w rr br bb lr aE aF da D N R longest line cut skip) :
    Calls Tryd.prog 9 #[.pointer (some ⟨lr, 0, none⟩)] w fun e w' => e = .returned (.tuple #[.int .i64 longest, .int .i64 line, .bool cut, .bool skip]) ∧ Keeps [] w w' := by
  have c1 : w.cell? ⟨lr, 1, none⟩ = some (.int .i64 longest) := row_cell h.row rfl
  have c2 : w.cell? ⟨lr, 2, none⟩ = some (.int .i64 line) := row_cell h.row rfl
  have c3 : w.cell? ⟨lr, 3, none⟩ = some (.bool cut) := row_cell h.row rfl
  have c4 : w.cell? ⟨lr, 4, none⟩ = some (.bool skip) := row_cell h.row rfl
  clear h
  go_enter Tryd.func9, Tryd.ntmps9
  go_wp2
  go_quiet (fail)
  go_wp2
  refine bodyPost_ret (results_tmp4 rfl _ _ _) rfl ?_
  exact ⟨rfl, (Keeps.refl _ _).drewN nq⟩
end

end Go.Proofs.Qxb6612240aDoor
