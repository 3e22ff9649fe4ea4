import Derived.Test.Qxb6605591aWalkH
namespace Go.Proofs.Qxb6605591a
open Go.RowKit

/-- a bool comes back -/
def RetBool (e : Ending) : Prop := ∃ r : Bool, e = .returned (.bool r)

/-- the strings ss lie from the place off of block b on -/
def Strs (w : World) (b off : Nat) (ss : List ByteArray) : Prop :=
  (∀ j, j < ss.length → w.cell? ⟨b, off + j, none⟩ = some (.string (ss.getD j ByteArray.empty))) ∧ (∀ s ∈ ss, s.size ≤ 9223372036854775807) ∧ ss.length ≤ 9223372036854775807

theorem Strs.at {w : World} {b off : Nat} {ss : List ByteArray} (h : Strs w b off ss) (k : Nat) (hk : k < ss.length) :
    ∃ s : ByteArray, Hid (s = ss.getD k ByteArray.empty) ∧ s.size ≤ 9223372036854775807 ∧ w.cell? ⟨b, off + k, none⟩ = some (.string s) := by
  refine ⟨_, hd rfl, ?_, h.1 k hk⟩
  have : ss.getD k ByteArray.empty = ss[k] := by simp [hk]
  rw [this]
  exact h.2.1 _ (List.getElem_mem hk)

theorem Strs.below {w w' : World} {b off : Nat} {ss : List ByteArray} (h : Strs w b off ss) (hb : Below w.heap.size w w') : Strs w' b off ss :=
  ⟨fun i hi => cell_later hb (h.1 i hi), h.2⟩

set_option maxHeartbeats 400000 in
theorem bytes13 (b off : Nat) (ss : List ByteArray) (cap : Nat) (most : Int) (w : World) (h : Strs w b off ss) :
    Calls Try.prog 13 #[.slice (some ⟨b, off, none⟩) ss.length cap, .int .i64 most] w fun e w' => RetBool e ∧ w' = w := by
  have hn := h.2.2
  by_cases hlen : (ss.length : Int) ≤ 1048576
  case neg =>
    go_enter Try.func13, Try.ntmps13
    go_wp2
    go_ret
    exact ⟨⟨_, rfl⟩, rfl⟩
  go_enter Try.func13, Try.ntmps13
  go_wp2
  go_loop [5, 6] (fun t i => ∃ (k : Nat) (tt : Int), k ≤ ss.length ∧ i = .int .i64 k ∧ t = .int .i64 tt ∧ 0 ≤ tt ∧ tt ≤ 1048576) (fun _ i => ss.length - (intOf i).toNat)
  case atStart => exact ⟨0, _, Nat.zero_le _, rfl, rfl, by omega, by omega⟩
  case round =>
    obtain ⟨k, tt, hk, rfl, rfl, t0, t1⟩ := hrel
    by_cases hlt : k < ss.length
    case neg =>
      go_wp2
      go_ret
      exact ⟨⟨_, rfl⟩, rfl⟩
    obtain ⟨s, HS, s1, hcell⟩ := h.at k hlt
    by_cases hb1 : (s.size : Int) ≤ 1048576
    case neg =>
      go_wp2
      go_ret
      exact ⟨⟨_, rfl⟩, rfl⟩
    by_cases hb2 : tt + (s.size : Int) ≤ 1048576
    · go_wp2
      go_round
      case rel => exact ⟨k + 1, tt + s.size, by omega, by go_num, rfl, by omega, by omega⟩
      case measure => simp [intOf]; omega
    · go_wp2
      go_ret
      exact ⟨⟨_, rfl⟩, rfl⟩

set_option maxHeartbeats 400000 in
theorem bytes13_none (a : Option Addr) (cap : Nat) (most : Int) (w : World) :
    Calls Try.prog 13 #[.slice a 0 cap, .int .i64 most] w fun e w' => RetBool e ∧ w' = w := by
  go_enter Try.func13, Try.ntmps13
  go_wp2
  refine wp_loop_rounds 1 ?_
  rw [rounds_succ]
  go_wp2
  go_ret
  exact ⟨⟨_, rfl⟩, rfl⟩

end Go.Proofs.Qxb6605591a
