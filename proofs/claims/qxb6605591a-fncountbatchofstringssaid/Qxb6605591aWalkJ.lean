import Derived.Test.Qxb6605591aWalkI
namespace Go.Proofs.Qxb6605591a
open Go.RowKit

def sumT : List (List Int) → Nat
  | [] => 0
  | s :: r => s.length + 16 + sumT r
theorem sumT_append (a b : List (List Int)) : sumT (a ++ b) = sumT a + sumT b := by
  induction a with
  | nil => simp [sumT]
  | cons s r ih => simp [sumT, ih]; omega
theorem enc_len (s : List Int) : (Pl.encS s).length ≤ 6 * s.length + 2 := by
  have := esc_len s
  simp [Pl.encS]; omega
theorem more_len (r : List (List Int)) : (r.flatMap (fun t => 44 :: 32 :: Pl.encS t)).length ≤ 6 * sumT r := by
  induction r with
  | nil => simp
  | cons s r ih =>
    have := enc_len s
    simp only [List.flatMap_cons, List.length_append, List.length_cons, sumT]
    omega
theorem bat_len (r : List (List Int)) : (Pl.batchT r).length ≤ 6 * sumT r := by
  cases r with
  | nil => simp [Pl.batchT]
  | cons s r =>
    have := enc_len s
    have := more_len r
    simp only [Pl.batchT, List.length_append, sumT]
    omega

def SI (ss : List ByteArray) : List (List Int) := ss.map sI
theorem SI_len (ss : List ByteArray) : (SI ss).length = ss.length := by simp [SI]
theorem SI_succ {ss : List ByteArray} {k : Nat} {s : ByteArray} (h : k < ss.length) (hs : s = ss.getD k ByteArray.empty) : (SI ss).take (k + 1) = (SI ss).take k ++ [sI s] := by
  rw [List.take_succ_eq_append_getElem (by rw [SI_len]; exact h)]
  congr 2
  rw [hs]
  simp [SI, h]
theorem sum_succ {ss : List ByteArray} {k : Nat} {s : ByteArray} (h : k < ss.length) (hs : s = ss.getD k ByteArray.empty) : sumT ((SI ss).take (k + 1)) = sumT ((SI ss).take k) + s.size + 16 := by
  rw [SI_succ h hs, sumT_append]
  simp [sumT, sI_len]
  omega
theorem sum_mono (L : List (List Int)) (k : Nat) : sumT (L.take k) ≤ sumT L := by
  have := sumT_append (L.take k) (L.drop k)
  rw [List.take_append_drop] at this
  omega
theorem mem_sum (L : List (List Int)) (s : List Int) (h : s ∈ L) : s.length ≤ sumT L := by
  induction L with
  | nil => simp at h
  | cons t r ih =>
    simp only [sumT]
    rcases List.mem_cons.1 h with rfl | h'
    · omega
    · have := ih h'; omega
theorem bat_first {ss : List ByteArray} {s : ByteArray} (h : 0 < ss.length) (hs : s = ss.getD 0 ByteArray.empty) : 91 :: Pl.batchT ((SI ss).take (0 + 1)) = (91 :: Pl.batchT ((SI ss).take 0)) ++ Pl.encS (sI s) := by
  rw [SI_succ h hs, Pl.batch_snoc]; simp [Pl.batchT]
theorem bat_succ {ss : List ByteArray} {k : Nat} {s : ByteArray} (h : k < ss.length) (h0 : 0 < k) (hs : s = ss.getD k ByteArray.empty) : 91 :: Pl.batchT ((SI ss).take (k + 1)) = ((91 :: Pl.batchT ((SI ss).take k)) ++ [44, 32]) ++ Pl.encS (sI s) := by
  rw [SI_succ h hs, Pl.batch_snoc, if_neg]
  · simp
  · intro e
    have := congrArg List.length e
    rw [List.length_take, SI_len, List.length_nil] at this
    omega
theorem SI_nonneg (ss : List ByteArray) : ∀ s ∈ SI ss, ∀ c ∈ s, 0 ≤ c := by
  intro s hs c hc
  simp only [SI, List.mem_map] at hs
  obtain ⟨t, _, rfl⟩ := hs
  simp only [sI, List.mem_map] at hc
  obtain ⟨u, _, rfl⟩ := hc
  omega
theorem sI_le (s : ByteArray) : ∀ c ∈ sI s, 0 ≤ c ∧ c ≤ 255 := by
  intro c hc
  simp only [sI, List.mem_map] at hc
  obtain ⟨u, _, rfl⟩ := hc
  have := u.toNat_lt
  omega
theorem hexd_le (n : Int) (h0 : 0 ≤ n) (h1 : n < 16) : 0 ≤ Pl.hexd n ∧ Pl.hexd n ≤ 255 := by unfold Pl.hexd; split <;> omega
theorem escC_le (c : Int) (h : 0 ≤ c ∧ c ≤ 255) : ∀ x ∈ Pl.escC c, 0 ≤ x ∧ x ≤ 255 := by
  have a1 := h.1
  unfold Pl.escC
  split
  · simp; omega
  · split
    · have h1 := hexd_le (c / 16) (by omega) (by omega)
      have h2 := hexd_le (c % 16) (by omega) (by omega)
      simp; omega
    · simp; omega
theorem encS_le (s : List Int) (h : ∀ c ∈ s, 0 ≤ c ∧ c ≤ 255) : ∀ x ∈ Pl.encS s, 0 ≤ x ∧ x ≤ 255 := by
  intro x hx
  simp only [Pl.encS, Pl.escS, List.mem_cons, List.mem_append, List.mem_flatMap, List.not_mem_nil, or_false] at hx
  rcases hx with rfl | ⟨c, hc, hx⟩ | rfl
  · omega
  · exact escC_le c (h c hc) x hx
  · omega
theorem bat_le (L : List (List Int)) (h : ∀ s ∈ L, ∀ c ∈ s, 0 ≤ c ∧ c ≤ 255) : ∀ x ∈ 91 :: (Pl.batchT L ++ [93]), 0 ≤ x ∧ x ≤ 255 := by
  intro x hx
  have key : ∀ x ∈ Pl.batchT L, 0 ≤ x ∧ x ≤ 255 := by
    intro x hx
    cases L with
    | nil => simp [Pl.batchT] at hx
    | cons s r =>
      simp only [Pl.batchT, List.mem_append, List.mem_flatMap, List.mem_cons] at hx
      rcases hx with hx | ⟨t, ht, rfl | rfl | hx⟩
      · exact encS_le s (h s (List.mem_cons_self ..)) x hx
      · omega
      · omega
      · exact encS_le t (h t (List.mem_cons_of_mem _ ht)) x hx
  simp only [List.mem_cons, List.mem_append, List.not_mem_nil, or_false] at hx
  rcases hx with rfl | hx | rfl
  · omega
  · exact key x hx
  · omega
theorem SI_le (ss : List ByteArray) : ∀ s ∈ SI ss, ∀ c ∈ s, 0 ≤ c ∧ c ≤ 255 := by
  intro s hs
  simp only [SI, List.mem_map] at hs
  obtain ⟨t, _, rfl⟩ := hs
  exact sI_le t

theorem Own.lies {B : Nat} {w : World} {v : Value} {L : List Int} (h : Own B w v L) (hp : 0 < L.length) (hr : ∀ x ∈ L, 0 ≤ x ∧ x ≤ 255) (hl : L.length ≤ 100000000) :
    ∃ g cap, v = .slice (some ⟨g, 0, none⟩) L.length cap ∧ Lies w g L := by
  obtain ⟨g, cap, rfl⟩ : ∃ g cap, v = .slice (some ⟨g, 0, none⟩) L.length cap := by
    rcases h.2 with ⟨_, h0⟩ | ⟨g, cap, cur, rfl, _⟩
    · omega
    · exact ⟨g, cap, rfl⟩
  refine ⟨g, cap, rfl, fun i hi => ?_, fun i => ?_, hl⟩
  · rw [World.ownsRow.cellAt h i (by omega)]
    simp [hi]
  · by_cases hi : i < L.length
    · have : L.getD i 0 = L[i] := by simp [hi]
      rw [this]
      exact hr _ (List.getElem_mem hi)
    · have : L.getD i 0 = 0 := by simp [List.getElem?_eq_none (by omega : L.length ≤ i)]
      rw [this]; omega

theorem made0 (T : Nat) (h : T ≤ 1048576) : ∃ M : List Value, M.length = 2 + 6 * T ∧ ∀ w : World, (Instr.makeSlice 22 (.int .i64 0) (.int .i64 (2 + 6 * (T : Int)))).run Try.prog w = .ok (.slice (some ⟨w.heap.size, 0, none⟩) 0 (2 + 6 * T)) (w.alloc (.cells M.toArray 5)) := by
  obtain ⟨i0, hi, hz0, hz1, hz2⟩ := info_parts Try.info5
  refine ⟨(madeCells (Value.int .u8 0).cells ((2 + 6 * T) * 1)).toList, by simp [size_madeCells], fun w => ?_⟩
  have := run_make (P := Try.prog) w 22 5 i0 (.int .u8 0) Try.underlying22 hi hz0 .i64 .i64 0 (2 + 6 * (T : Int)) (by omega) (by omega) (by rw [hz2]; omega) (by omega)
  have e : (2 + 6 * (T : Int)).toNat = 2 + 6 * T := by omega
  rw [hz1, e] at this
  simpa using this
theorem own0 (B : Nat) (w : World) (M : List Value) (n : Nat) (hB : B ≤ w.heap.size) (hM : M.length = n) (hn : n ≤ 100000000) : Own B (w.alloc (.cells M.toArray 5)) (.slice (some ⟨w.heap.size, 0, none⟩) 0 n) [] :=
  World.ownsRow_made w M.toArray n hB (by unfold maxLen; omega) (by simp [hM])

end Go.Proofs.Qxb6605591a
