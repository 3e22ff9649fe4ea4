import Derived.Test.Qxb6605591aWalkG
namespace Go.Proofs.Qxb6605591a
open Go.RowKit

def sI (s : ByteArray) : List Int := s.data.toList.map (fun c => (c.toNat : Int))
theorem sI_len (s : ByteArray) : (sI s).length = s.size := by simp [sI]
theorem sI_at (s : ByteArray) (k : Nat) (h : k < s.size) : (sI s).getD k 0 = ((s[k]'h).toNat : Int) := by
  have h' : k < s.data.toList.length := by simpa using h
  simp only [sI, List.getD_eq_getElem?_getD, List.getElem?_map, List.getElem?_eq_getElem h', Option.map_some, Option.getD_some]
  rfl
theorem s_at (s : ByteArray) (k : Nat) (h : k < s.size) : ∃ c : Int, Hid (c = (sI s).getD k 0) ∧ 0 ≤ c ∧ c ≤ 255 ∧ ∀ w, (Instr.index 9 (.string s) (.int .i64 (k : Int))).run Try.prog w = .ok (.int .u8 c) w := by
  refine ⟨((s[k]'h).toNat : Int), hd (sI_at s k h).symm, by omega, ?_, fun w => ?_⟩
  · have := (s[k]'h).toNat_lt; omega
  · go_simp

theorem esc_len (l : List Int) : (Pl.escS l).length ≤ 6 * l.length := by
  induction l with
  | nil => simp [Pl.escS]
  | cons c l ih =>
    have e : Pl.escS (c :: l) = Pl.escC c ++ Pl.escS l := by simp [Pl.escS]
    have : (Pl.escC c).length ≤ 6 := by unfold Pl.escC; split <;> (try split) <;> simp
    rw [e, List.length_append, List.length_cons]
    omega
theorem run_len (L : List Int) (s : ByteArray) (k : Nat) (hs : s.size ≤ 1048576) (hL : L.length ≤ 10000000) : (L ++ 34 :: Pl.escS ((sI s).take k)).length ≤ 20000000 := by
  have h1 := esc_len ((sI s).take k)
  have h2 := List.length_take_le' k (sI s)
  rw [sI_len] at h2
  simp only [List.length_append, List.length_cons]
  omega
theorem esc_next (L : List Int) {s : ByteArray} {k : Nat} {c : Int} {news : List Int} (h : k < s.size) (hc : c = (sI s).getD k 0) (hn : news = Pl.escC c) :
    (L ++ 34 :: Pl.escS ((sI s).take k)) ++ news = L ++ 34 :: Pl.escS ((sI s).take (k + 1)) := by
  have h' : k < (sI s).length := by rw [sI_len]; exact h
  rw [List.take_succ_eq_append_getElem h']
  have : (sI s)[k] = c := by rw [hc]; simp [h']
  rw [this, hn]
  simp [Pl.escS]
theorem and15 (c : Int) (h0 : 0 ≤ c) (h1 : c < 32) : bits .and .u8 c 15 = c % 16 := by
  have key : ∀ n : Fin 32, bits .and .u8 (n.val : Int) 15 = (n.val : Int) % 16 := by decide +kernel
  have := key ⟨c.toNat, by omega⟩
  have e : ((c.toNat : Nat) : Int) = c := by omega
  simpa only [e] using this
theorem hex_at (x : Int) (h0 : 0 ≤ x) (h1 : x < 16) (w : World) : (Instr.index 9 (.string ⟨#[48, 49, 50, 51, 52, 53, 54, 55, 56, 57, 97, 98, 99, 100, 101, 102]⟩) (.int .u8 x)).run Try.prog w = .ok (.int .u8 (Pl.hexd x)) w := by
  have key : ∀ n : Fin 16, (((⟨#[48, 49, 50, 51, 52, 53, 54, 55, 56, 57, 97, 98, 99, 100, 101, 102]⟩ : ByteArray)[n.val]'n.isLt).toNat : Int) = Pl.hexd (n.val : Int) := by decide +kernel
  have := key ⟨x.toNat, by omega⟩
  have e : ((x.toNat : Nat) : Int) = x := by omega
  simp only [e] at this
  go_simp

attribute [local go_sem ↓] Go.wp_at_zero Go.wp_at_succ
set_option maxHeartbeats 1000000 in
theorem json_any (B : Nat) (v : Value) (L : List Int) (s : ByteArray) (w : World) (hown : Own B w v L) (hB : B ≤ w.heap.size) (hs : s.size ≤ 1048576) (hL : L.length ≤ 10000000) :
    Calls Try.prog 14 #[v, .string s] w fun e w' => ∃ v', e = .returned v' ∧ Own B w' v' (L ++ Pl.encS (sI s)) ∧ Below B w w' ∧ B ≤ w'.heap.size := by
  go_enter Try.func14, Try.ntmps14
  go_wp2_with (at_builtin; refine app_plain rfl (.tmp 7) (.tmp 8) rfl B w _ v L [34] w.heap.size 1 rfl rfl (hown.alloc _) ((Below.refl _ _).alloc hB _) (by simp; omega) (heap_alloc_new _ _) (by simp; omega) ?_; intro v1 w1 hown1 hb1 hs1)
  go_loopw [0, 5] (fun v i wr => ∃ k : Nat, k ≤ s.size ∧ i = .int .i64 k ∧ Own B wr v (L ++ 34 :: Pl.escS ((sI s).take k)) ∧ Below B w wr ∧ B ≤ wr.heap.size) (fun _ i _ => s.size - (intOf i).toNat)
  case atStart => exact ⟨0, Nat.zero_le _, rfl, by simpa [Pl.escS] using hown1, hb1, hs1⟩
  case round =>
    obtain ⟨k, hk, rfl, hownR, hbR, hsR⟩ := hrel
    clear hown1 hb1 hs1
    have hlen := run_len L s k hs hL
    by_cases hlt : k < s.size
    · obtain ⟨c, HC, c0, c1, hidx⟩ := s_at s k hlt
      have HN := hd (fun (news : List Int) (hn : news = Pl.escC c) => esc_next L hlt HC.out hn)
      generalize L ++ 34 :: Pl.escS ((sI s).take k) = R at *
      by_cases h34 : c = 34
      · subst h34
        go_wp2_with (at_builtin; refine app_plain rfl (.tmp 25) (.tmp 27) rfl B w _ _ R [92, 34] wr.heap.size 2 rfl rfl (hownR.alloc _) (hbR.alloc hsR _) (by simp; omega) (heap_alloc_new _ _) (by simp; omega) ?_; intro v2 w2 hown2 hb2 hs2)
        go_roundw
        case rel => exact ⟨k + 1, by omega, by go_num, by rw [← HN.out [92, 34] rfl]; exact hown2, hb2, hs2⟩
        case measure => simp [intOf]; omega
      have b34 := ne_beq h34
      by_cases h92 : c = 92
      · clear h34 b34
        subst h92
        go_wp2_with (at_builtin; refine app_plain rfl (.tmp 25) (.tmp 27) rfl B w _ _ R [92, 92] wr.heap.size 2 rfl rfl (hownR.alloc _) (hbR.alloc hsR _) (by simp; omega) (heap_alloc_new _ _) (by simp; omega) ?_; intro v2 w2 hown2 hb2 hs2)
        go_roundw
        case rel => exact ⟨k + 1, by omega, by go_num, by rw [← HN.out [92, 92] rfl]; exact hown2, hb2, hs2⟩
        case measure => simp [intOf]; omega
      have b92 := ne_beq h92
      by_cases h32 : c < 32
      · have hE : Pl.escC c = [92, 117, 48, 48, Pl.hexd (c / 16), Pl.hexd (c % 16)] := by unfold Pl.escC; rw [if_neg (by omega), if_pos h32]
        have HE := hd hE
        clear hE
        have ha := and15 c c0 h32
        have hi1 := hex_at (c / 16) (by omega) (by omega)
        have hi2 := hex_at (c % 16) (by omega) (by omega)
        generalize Pl.hexd (c / 16) = X at *
        generalize Pl.hexd (c % 16) = Y at *
        have hy0 : 0 ≤ c % 16 := by omega
        have hy1 : c % 16 < 16 := by omega
        generalize c % 16 = y at *
        have hx0 : 0 ≤ c / 16 := by omega
        have hx1 : c / 16 < 16 := by omega
        go_wp2_with fail
        go_region_held3 (fun _ => True) (trivial) ((refine app_drawn (by rfl) (.tmp 31) (.tmp 38) (by rfl) B w _ _ R [92, 117, 48, 48, X, Y] wr.heap.size 6 (by rfl) (by rfl) ((hownR.alloc _).drew) ((hbR.alloc hsR _).drew) (by simp; omega) (heap_alloc_new wr _) (by simp; omega) ?_; intro v2 w2 hown2 hb2 hs2))
        all_goals
          go_wp2
          go_roundw
          case rel => exact ⟨k + 1, by omega, by go_num, by rw [← HN.out _ HE.out.symm]; exact hown2, hb2, hs2⟩
          case measure => simp [intOf]; omega
      · have hE : Pl.escC c = [c] := by unfold Pl.escC; rw [if_neg (by omega), if_neg h32]
        have HE := hd hE
        clear hE
        go_wp2_with (at_builtin; refine app_plain rfl (.tmp 40) (.tmp 42) rfl B w _ _ R [c] wr.heap.size 1 rfl rfl (hownR.alloc _) (hbR.alloc hsR _) (by simp; omega) (heap_alloc_new _ _) (by simp; omega) ?_; intro v2 w2 hown2 hb2 hs2)
        go_roundw
        case rel => exact ⟨k + 1, by omega, by go_num, by rw [← HN.out [c] HE.out.symm]; exact hown2, hb2, hs2⟩
        case measure => simp [intOf]; omega
    · have e : (sI s).take k = sI s := List.take_of_length_le (by rw [sI_len]; omega)
      rw [e] at hownR hlen
      have hF : (L ++ 34 :: Pl.escS (sI s)) ++ [34] = L ++ Pl.encS (sI s) := by simp [Pl.encS]
      have HF := hd hF
      clear hF e
      generalize L ++ 34 :: Pl.escS (sI s) = R at *
      go_wp2_with (at_builtin; refine app_plain rfl (.tmp 44) (.tmp 45) rfl B w _ _ R [34] wr.heap.size 1 rfl rfl (hownR.alloc _) (hbR.alloc hsR _) (by simp; omega) (heap_alloc_new _ _) (by simp; omega) ?_; intro v2 w2 hown2 hb2 hs2)
      go_ret
      exact ⟨v2, rfl, by rw [← HF.out]; exact hown2, hb2, hs2⟩
end Go.Proofs.Qxb6605591a
