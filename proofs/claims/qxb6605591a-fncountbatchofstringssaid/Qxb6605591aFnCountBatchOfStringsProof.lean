/-
  'Rows.FnCountBatchOfStringsSaid', proved. The frame is the guide's shell for a law over slices (proof-skeleton.mjs), its first argument turned to a slice of strings.
-/
import Derived.Test.Qxb6605591aWalkK
import Derived.WalkKit
import Derived.ProofKit
import Derived.OpenShut
import Derived.ShutString
import Derived.ChangeOld
import Derived.Below
import Derived.SliceStrings
namespace Go.Proofs.Qxb6605591a.fnCountBatchOfStrings
open Go.ChangeShapes Go.WideShapes Go.ChangeAt Go.RowKit
open Go.ChangeMaps (open_string shut_string)
set_option linter.unusedVariables false

theorem own : ownKnob Try.prog.godebug = none := by kernel_rfl
theorem laidOut : laidOutB Try.prog = true := by kernel_rfl

theorem made2 : ∃ M : List Value, M.length = 2 ∧ ∀ w : World, (Instr.makeSlice 22 (.int .i64 0) (.int .i64 2)).run Try.prog w = .ok (.slice (some ⟨w.heap.size, 0, none⟩) 0 2) (w.alloc (.cells M.toArray 5)) := by
  obtain ⟨M, h1, h2⟩ := made0 0 (by omega)
  exact ⟨M, h1, h2⟩
theorem count_empty (most : Int) : Pl.countVal ([91] ++ [93]) most = 0 := by
  have := count_batch_len [] most
  exact this

set_option maxHeartbeats 1000000 in
theorem batch_none (a : Option Addr) (cap : Nat) (most : Int) (w : World) (hm1 : -9223372036854775808 ≤ most) (hm2 : most ≤ 9223372036854775807) :
    Calls Try.prog 4 #[.slice a 0 cap, .int .i64 most] w fun e w' => e = .returned (.bool true) ∧ Below w.heap.size w w' := by
  obtain ⟨M, hM, hmk⟩ := made2
  have HM := hd hM
  clear hM
  go_enter Try.func4, Try.ntmps4
  go_wp2_with fail
  refine (bytes13_none a cap most _).mono ?_
  rintro e w' ⟨⟨r, rfl⟩, hw⟩
  subst hw
  cases r
  case false =>
    go_wp2
    go_ret
    exact ⟨rfl, Below.refl _ _⟩
  go_wp2
  refine wp_loop_rounds 1 ?_
  rw [rounds_succ]
  have ho := fun (o : Obj) => (own0 w'.heap.size w' M 2 (Nat.le_refl _) HM.out (by omega)).alloc o
  go_wp2_with (at_builtin; refine app_plain rfl (.tmp 43) (.tmp 44) rfl w'.heap.size w' _ _ [] [91] (w'.heap.size + 1) 1 rfl rfl (ho _) (((Below.refl _ _).alloc (Nat.le_refl _) _).alloc (by simp) _) (by simp; omega) (by have := heap_alloc_new (w'.alloc (.cells M.toArray 5)) (.cells #[.int .u8 91] 5); simpa using this) (by simp) ?_; intro v1 w1 hown1 hb1 hs1)
  refine wp_loop_rounds 1 ?_
  rw [rounds_succ]
  clear ho hmk HM
  rw [List.nil_append] at hown1
  go_wp2_with (first | (at_builtin; refine app_plain rfl (.tmp 63) (.tmp 64) rfl w'.heap.size w' _ _ [91] [93] w1.heap.size 1 rfl rfl (hown1.alloc _) (hb1.alloc hs1 _) (by simp; omega) (heap_alloc_new _ _) (by simp) ?_; intro v2 w2 hown2 hb2 hs2) | fail)
  obtain ⟨g, cp, hv, hL⟩ := hown2.lies (by simp) (by intro x hx; simp at hx; omega) (by simp)
  rw [hv]
  refine (count_any _ _ _ _ _ hL hm1 hm2).mono ?_
  rintro e w3 ⟨rfl, hb3⟩
  rw [count_empty]
  go_wp2
  go_ret
  exact ⟨rfl, hb2.trans (hb3.mono hs2)⟩

/-- WHAT THE WALK IS TOLD OF THE SLICE OF STRINGS THAT CAME IN. -/
def IsStrs (w : World) (a : Option Addr) (len cap : Nat) (ss : List ByteArray) : Prop :=
  (a = none ∧ len = 0 ∧ cap = 0) ∨
  ∃ x, a = some x ∧ len ≤ cap ∧ cap ≤ maxLen ∧ ss.length = cap ∧ (∀ i, i < ss.length → w.cell? (x.add i) = some (.string (ss.getD i ByteArray.empty))) ∧ ∀ s ∈ ss, s.size ≤ maxLen

theorem walk (a0 : Option Addr) (len0 cap0 : Nat) (ss : List ByteArray) (a1 : Int) (w : World) (w0 : IsStrs w a0 len0 cap0 ss) (w1 : (Lit.int .i64 a1).wf = true) :
    Calls Try.prog 4 #[.slice a0 len0 cap0, .int .i64 a1] w fun e w' => e = .returned (.bool true) ∧ Below w.heap.size w w' := by
  have hm := bounds_i64 w1
  rcases w0 with ⟨rfl, rfl, rfl⟩ | ⟨x, rfl, hlc, hcm, hz, hcell, hws⟩
  · exact batch_none _ _ _ _ hm.1 hm.2
  · by_cases hp : len0 = 0
    · subst hp
      exact batch_none _ _ _ _ hm.1 hm.2
    · unfold maxLen at hcm hws
      obtain ⟨b, off, spot⟩ := x
      have hspot : spot = none := by simpa [Addr.add] using World.cell?_spot (hcell 0 (by omega))
      subst hspot
      have hl : (ss.take len0).length = len0 := by simp; omega
      have hS : Strs w b off (ss.take len0) := by
        refine ⟨fun j hj => ?_, fun s hs => ?_, by omega⟩
        · rw [hl] at hj
          have e := hcell j (by omega)
          rw [Go.WideShapes.add_plain] at e
          rw [e]
          simp [List.getElem?_take_of_lt hj]
        · have := hws s (List.mem_of_mem_take hs)
          omega
      have := batch_some b off (ss.take len0) cap0 a1 w hS (by omega) hm.1 hm.2
      rw [hl] at this
      exact this

set_option maxRecDepth 100000 in
theorem lifted (os : Os) (started : os.Started) (H : Type) (enc : TypeId × Value → H) :
    ReturnsInHanded {} Try.checked os 4 .any (Rows.fnCountBatchOfStringsSpec.pre6 enc Try.prog Try.f4 Rows.fnCountBatchOfStringsRow.domain false) (Rows.fnCountBatchOfStringsSpec.post enc Try.prog Try.f4 false true false false) := by
  refine returnsInHanded_of_change (C := Try.checked) own started (by kernel_rfl) Try.func4
    (ChangeSpec.witness6 (enc := enc) (C := Try.checked) false ⟨#[], #[.slice none 0 0, .int .i64 0], []⟩ 8 (by kernel_rfl) (by kernel_rfl) (by kernel_rfl) (by kernel_rfl)) ?_
  intro W base args ds gs before hval0 hW hcnd _
  have hval : ∀ (j : Nat) t v, Try.f4.params[j]? = some t → args[j]? = some v → Value.okWide Try.prog W .any base t v := hval0
  have hW' := hW
  obtain ⟨p, q, hA0, hV, rfl, hfz, hnd⟩ := hW
  have hA : DataW.TrodAll enc Try.prog W 0 (fun _ => true) true Try.f4.params.toList args.toList ds p := hA0
  rw [Try.params4] at hA hval
  obtain ⟨v0, vs0, d0, ds0, p0, q0, hargs, rfl, rfl, h0, r0⟩ := trodAll_cons hA
  obtain ⟨v1, vs1, d1, ds1, p1, q1, rfl, rfl, rfl, h1, r1⟩ := trodAll_cons r0
  obtain ⟨rfl, rfl, rfl⟩ := trodAll_nil r1
  obtain rfl : args = #[v0, v1] := by cases args; simp_all
  obtain ⟨rfl, rfl⟩ := trodVars_none hV
  obtain ⟨a0, len0, cap0, rfl⟩ := okWide_slice Try.underlying26 (hval 0 26 v0 rfl rfl)
  have k0 := h0
  have lt0 : ∀ x ∈ p0, x.block < W.heap.size := by obtain ⟨m, hm⟩ := k0; exact DataW.trod_lt m _ _ _ hm
  obtain ⟨ss, w0⟩ : ∃ ss, IsStrs W a0 len0 cap0 ss := by
    obtain ⟨fuel, hf⟩ := h0
    rcases open_strings Try.underlying26 Try.underlying9 (by kernel_rfl) hf with ⟨hcs, _⟩ | ⟨x, l, c, ss, hcs, _, hl, hm, hz, _, hcell, hws⟩
    · simp [Value.cells] at hcs
      obtain ⟨rfl, rfl, rfl⟩ := hcs
      exact ⟨[], .inl ⟨rfl, rfl, rfl⟩⟩
    · simp [Value.cells] at hcs
      obtain ⟨rfl, rfl, rfl⟩ := hcs
      exact ⟨ss, .inr ⟨_, rfl, hl, hm, by simpa using hz, hcell, hws⟩⟩
  obtain ⟨a1, rfl, rfl, rfl, w1⟩ := open_int Try.underlying3 (hval 1 3 v1 rfl rfl) h1
  clear hA0 hval0
  refine (walk a0 len0 cap0 ss a1 W w0 w1).mono fun e W' ⟨he, bel⟩ => ?_
  subst he
  exact ⟨_, rfl, _, _, _, [], _, [], hW', trodAll_mk1 (shut_bool Try.underlying4 _), (trodAll_cons_mk (Below.trod laidOut (by kernel_rfl) (of_decide_eq_true (by kernel_rfl)) k0 bel lt0) (trodAll_cons_mk (shut_int Try.underlying3 w1) trodAll_mk0)), rfl, bel.frame _, fun h => by cases h⟩

theorem over : Rows.fnCountBatchOfStringsRow.holds Try.pinned (OpenSpec.ofChange Rows.fnCountBatchOfStringsSpec) :=
  OpenClaim.holds_of_wide 4 Try.f4 rfl rfl rfl rfl rfl rfl rfl ⟨rfl, rfl, rfl, rfl, rfl⟩ rfl rfl rfl rfl rfl (by kernel_rfl) Try.func4 (by kernel_rfl)
    (of_decide_eq_true (by kernel_rfl)) (by unfold Func.isWrapper; first | (rw [if_pos (by decide +kernel)]; kernel_rfl) | (rw [if_neg (by decide +kernel)]; exact ⟨rfl, rfl⟩))
    (fun os started H enc _ => lifted os started H enc)

/-- THE STATEMENT -/
theorem proved : Rows.FnCountBatchOfStringsSaid := over
#print axioms proved
end Go.Proofs.Qxb6605591a.fnCountBatchOfStrings
