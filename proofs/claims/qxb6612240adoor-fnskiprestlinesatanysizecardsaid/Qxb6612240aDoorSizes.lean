import Derived.Test.Qxb6612240aDoorExact
namespace Go.Proofs.Qxb6612240aDoor
open Go.RowKit

/-- two readers side by side over the same data -/
def Two (w : World) (b ra lra rb lrb : Nat) (aE aF : Addr) (da : Option Addr) (D : List Int) (NA NB : Nat) (R : List Int) (sa sb : Bool) : Prop :=
  Lrd w ra (ra + 1) (ra + 2) lra aE aF da D NA R 0 0 false sa ∧ Lrd w rb (rb + 1) (rb + 2) lrb aE aF da D NB R 0 0 false sb ∧ Dat w b da D ∧
    b ≤ ra ∧ ra + 2 < lra ∧ lra < rb ∧ rb + 2 < lrb ∧ 1 < b ∧ (∀ db, da = some ⟨db, 0, none⟩ → db < ra) ∧ aE.block < ra ∧ aF.block < ra

section
variable {w w' : World} {b ra lra rb lrb : Nat} {aE aF : Addr} {da : Option Addr} {D : List Int} {NA NB : Nat} {R R' : List Int} {sa sb sa' sb' : Bool}

theorem Two.keep0 (h : Two w b ra lra rb lrb aE aF da D NA NB R sa sb) (k : Keeps [] w w') : Two w' b ra lra rb lrb aE aF da D NA NB R sa sb := by
  obtain ⟨h1, h2, h3, r⟩ := h
  exact ⟨h1.keep0 k, h2.keep0 k, h3.keeps k (by simp), r⟩
/-- the first has moved -/
theorem Two.frameB {S : List Nat} (h : Two w b ra lra rb lrb aE aF da D NA NB R sa sb) (k : Keeps S w w') (hS : ∀ x ∈ S, ra ≤ x ∧ x ≤ lra) : Lrd w' rb (rb + 1) (rb + 2) lrb aE aF da D NB R 0 0 false sb ∧ Dat w' b da D := by
  obtain ⟨h1, h2, h3, q1, q2, q3, q4, q5, q6, q7, q8⟩ := h
  refine ⟨h2.frame k ra (fun x hx => ?_) (by omega) q6 q7 q8, h3.keeps k fun db e hx => ?_⟩
  · have := hS x hx; omega
  · have := hS _ hx; have := q6 db e; omega
/-- the second has moved -/
theorem Two.frameA {S : List Nat} (h : Lrd w ra (ra + 1) (ra + 2) lra aE aF da D NA R 0 0 false sa) (k : Keeps S w w') (q2 : ra + 2 < lra) (q3 : lra < rb) (q5 : 1 < ra) (q6 : ∀ db, da = some ⟨db, 0, none⟩ → db < ra) (q7 : aE.block < ra) (q8 : aF.block < ra) (hS : ∀ x ∈ S, rb ≤ x) :
    Lrd w' ra (ra + 1) (ra + 2) lra aE aF da D NA R 0 0 false sa := by
  refine h.frame k ra (fun x hx => ?_) q5 q6 q7 q8
  have := hS x hx; omega
end

theorem lines_int {w : World} {B : Nat} {da : Option Addr} {D : List Int} (h : Dat w B da D) (k : Nat) (z : Int) (hz : z = (k : Int)) (hk : z ≤ 65536) (hD : D.length ≤ 1048576) :
    Calls Tryd.prog 12 #[.slice da D.length D.length, .int .i64 z] w fun e w' => ∃ u, e = .returned u ∧ (∀ (w'' : World) (B' : Nat), Dat w'' B' da D → Wnd w'' u (afterK k D)) ∧ Keeps [] w w' := by
  rw [hz]
  exact lines_dat h k (by omega) hD

set_option maxRecDepth 100000 in
set_option maxHeartbeats 4000000 in
theorem sizes_any (a : Option Addr) (cap : Nat) (D : List Int) (k : Nat) (z sizeA sizeB : Int) (aE aF : Addr) (w : World) (hz : Hid (z = (k : Int))) (hlen : D.length ≤ 1048576) (hk : z ≤ 65536) (hk0 : 0 ≤ z) (hsA : sizeA ≤ 65536) (hsB : sizeB ≤ 65536) (hin : Came w a cap D) (hD8 : ∀ x ∈ D, 0 ≤ x ∧ x ≤ 255)
    (hw : 1 < w.heap.size) (g0 : w.cell? ⟨0, 0, none⟩ = some (.iface 59 (.pointer (some aF)))) (g1 : w.cell? ⟨1, 0, none⟩ = some (.iface 59 (.pointer (some aE)))) (hs : Sen w aE aF w.heap.size) :
    Calls Tryd.prog 4 #[.slice a D.length cap, .int .i64 z, .int .i64 sizeA, .int .i64 sizeB] w fun e w' => e = .returned (.bool true) ∧ Below w.heap.size w w' := by
  obtain ⟨NA, hNA⟩ : ∃ N : Nat, max sizeA 16 = (N : Int) := ⟨(max sizeA 16).toNat, by omega⟩
  obtain ⟨NB, hNB⟩ : ∃ N : Nat, max sizeB 16 = (N : Int) := ⟨(max sizeB 16).toNat, by omega⟩
  have HNA2 : Hid (NA ≤ 65536) := by apply hd; omega
  have HNB2 : Hid (NB ≤ 65536) := by apply hd; omega
  have HNA := hd hNA
  have HNB := hd hNB
  have HD8 := hd hD8
  have G0 := hd g0
  have G1 := hd g1
  have HW := hd hw
  have HRL : Hid ((afterK k D).length ≤ 2000000) := by have := afterK_len k D; apply hd; omega
  clear hNA hNB hD8 g0 g1 hw
  obtain ⟨tok7⟩ : Nonempty Nat := ⟨0⟩
  go_enter Tryd.func4, Tryd.ntmps4
  go_wp2_with (first
    | (go_at_call 13; refine (zz13 _ _ _ _ _ _ hlen _).mono ?_; rintro e w' ⟨rfl, rfl⟩)
    | (go_at_call 6; refine (clone_any hin hlen).mono ?_; rintro e w1 ⟨da, rfl, hdat, b1⟩)
    | (go_at_call 7; clear tok7; refine (newLR_any da D NA sizeA 0 0 false true aE aF HNA.out HNA2.out hlen HD8.out w1 (Nat.lt_of_lt_of_le HW.out b1.size) (hdat.pD HW.out) (cell_later b1 G0.out) (cell_later b1 G1.out) (hs.later b1 b1.size)).mono ?_; rintro e w2 ⟨lra, rfl, hlra, hA2, k2⟩; have b2 := b1.trans (k2.below b1.size (by simp)))
    | (go_at_call 7; refine (newLR_any da D NB sizeB 0 0 false true aE aF HNB.out HNB2.out hlen HD8.out w2 (Nat.lt_of_lt_of_le HW.out b2.size) ((hdat.keeps k2 (by simp)).pD HW.out) (cell_later b2 G0.out) (cell_later b2 G1.out) (hs.later b2 b2.size)).mono ?_; rintro e w3 ⟨lrb, rfl, hlrb, hB3, k3⟩))
  have ht : Two w3 w.heap.size w1.heap.size lra w2.heap.size lrb aE aF da D NA NB D true true := by
    have e1 := lt_of_block hA2.row
    refine ⟨hA2.keep0 k3, hB3, (hdat.keeps k2 (by simp)).keeps k3 (by simp), b1.size, by omega, by omega, by omega, HW.out, hdat.lt, ?_, ?_⟩
    · have := hs.2.1; have := b1.size; omega
    · have := hs.2.2.1; have := b1.size; omega
  have b3 := b2.trans (k3.below b2.size (by simp))
  clear hin hs hdat b1 k2 hA2 hlra b2 k3 hB3 hlrb G0 G1 HD8 HNA HNB HNA2 HNB2 HW hsA hsB
  generalize w1.heap.size = ra at *
  generalize w2.heap.size = rb at *
  generalize hbq : w.heap.size = b at *
  have HBQ := hd hbq
  clear hbq
  go_loopw [11] (fun i wr => ∃ (j : Nat) (sa sb : Bool), i = .int .i64 j ∧ Hid (j ≤ k) ∧ Two wr b ra lra rb lrb aE aF da D NA NB (afterK j D) sa sb ∧ Hid (0 < j → sa = false ∧ sb = false) ∧ Below b w wr) (fun i _ => k - (intOf i).toNat)
  case atStart => exact ⟨0, true, true, rfl, Nat.zero_le _, ht, (fun h => absurd h (Nat.lt_irrefl _)), b3⟩
  case round =>
    clear ht b3
    obtain ⟨j, sa, sb, rfl, HJ, ht, HS, hbel⟩ := hrel
    have HT := hd ht
    obtain ⟨hA, hB, hdat, q1, q2, q3, q4, q5, q6, q7, q8⟩ := ht
    have Hq6 := hd q6
    clear q6 q7 q8
    by_cases hj : (j : Int) < z
    · clear hdat hB
      obtain ⟨tok8⟩ : Nonempty Nat := ⟨0⟩
      go_wp2_with (first
        | (go_at_call 8; clear tok8; refine (zskip_any wr hA).mono ?_; rintro e w4 ⟨rfl, hA4, k4⟩; obtain ⟨hB4, hd4⟩ := HT.out.frameB k4 (by simp; omega))
        | (go_at_call 8; refine (zskip_any w4 hB4).mono ?_; rintro e w5 ⟨rfl, hB5, k5⟩))
      go_round
      case measure => have := hz.out; simp [intOf]; omega
      case rel =>
        have h0 := HT.out
        obtain ⟨_, _, _, _, _, _, _, _, r6, r7, r8⟩ := h0
        have hA5 := Two.frameA (rb := rb) hA4 k5 q2 q3 (by omega) r6 r7 r8 (by simp; omega)
        have hd5 := hd4.keeps k5 (fun db e hx => by have := r6 db e; simp at hx; omega)
        refine ⟨j + 1, false, false, by go_num, by have := hz.out; apply hd; omega, ⟨hA5, hB5, hd5, q1, q2, q3, q4, q5, r6, r7, r8⟩, fun _ => ⟨rfl, rfl⟩, ?_⟩
        have c4 := hbel.trans (k4.below (by have := lt_of_block hA.row; omega) (by simp; omega))
        exact c4.trans (k5.below (by have := lt_of_block hA4.row; omega) (by simp; omega))
    · have hjk : j = k := by have := hz.out; have := HJ.out; omega
      subst hjk
      obtain ⟨tok9⟩ : Nonempty Nat := ⟨0⟩
      obtain ⟨tok10⟩ : Nonempty Nat := ⟨0⟩
      obtain ⟨tok11⟩ : Nonempty Nat := ⟨0⟩
      by_cases hj0 : z = 0
      · have hj1 : j = 0 := by have := hz.out; omega
        subst hj0
        go_wp2_with (first
          | (go_at_call 9; clear tok9; refine (state_any wr hA).mono ?_; rintro e w4 ⟨rfl, k4⟩; have hB4 := hB.keep0 k4)
          | (go_at_call 9; refine (state_any w4 hB4).mono ?_; rintro e w5 ⟨rfl, k5⟩; have hd5 := (hdat.keeps k4 (by simp)).keeps k5 (by simp))
          | (go_at_call 12; refine (lines_int hd5 j 0 hz.out hk hlen).mono ?_; rintro e w6 ⟨u, rfl, hu, k6⟩; have HU := hd hu; clear hu; have k46 := (k4.trans k5).trans k6; have HT6 := hd (HT.out.keep0 k46); have hA6 := HT6.out.1)
          | (go_at_call 10; clear tok10; refine (rest_any w6 hA6).mono ?_; rintro e w7 ⟨v, rfl, hv, k7⟩; obtain ⟨hB7, hd7⟩ := HT6.out.frameB k7 (by simp; omega))
          | (go_at_call 11; clear tok11; refine (same_true w7 v u (afterK j D) HRL.out hv (HU.out w7 b hd7)).mono ?_; rintro e w8 ⟨rfl, k8⟩; have hB8 := hB7.keep0 k8)
          | (go_at_call 10; refine (rest_any w8 hB8).mono ?_; rintro e w9 ⟨v9, rfl, hv9, k9⟩; have hd9 := (hd7.keeps k8 (by simp)).keeps k9 (by intro db e hx; have := Hq6.out db e; simp at hx; omega))
          | (go_at_call 11; refine (same_true w9 v9 u (afterK j D) HRL.out hv9 (HU.out w9 b hd9)).mono ?_; rintro e w10 ⟨rfl, k10⟩))
        go_ret
        have e0 := lt_of_block hA.row
        have c6 := hbel.trans (k46.below (by omega) (by simp))
        have c7 := c6.trans (k7.below (by have := k46.size; omega) (by simp; omega))
        have c8 := c7.trans (k8.below (by have := k46.size; have := k7.size; omega) (by simp))
        have c9 := c8.trans (k9.below (by have := k46.size; have := k7.size; have := k8.size; omega) (by simp; omega))
        have c10 := c9.trans (k10.below (by have := k46.size; have := k7.size; have := k8.size; have := k9.size; omega) (by simp))
        exact ⟨rfl, by rw [HBQ.out]; exact c10⟩
      · obtain ⟨rfl, rfl⟩ := HS.out (by have := hz.out; omega)
        go_wp2_with (first
          | (go_at_call 9; clear tok9; refine (state_any wr hA).mono ?_; rintro e w4 ⟨rfl, k4⟩; have hB4 := hB.keep0 k4)
          | (go_at_call 9; refine (state_any w4 hB4).mono ?_; rintro e w5 ⟨rfl, k5⟩; have hd5 := (hdat.keeps k4 (by simp)).keeps k5 (by simp))
          | (go_at_call 12; refine (lines_int hd5 j z hz.out hk hlen).mono ?_; rintro e w6 ⟨u, rfl, hu, k6⟩; have HU := hd hu; clear hu; have k46 := (k4.trans k5).trans k6; have HT6 := hd (HT.out.keep0 k46); have hA6 := HT6.out.1)
          | (go_at_call 10; clear tok10; refine (rest_any w6 hA6).mono ?_; rintro e w7 ⟨v, rfl, hv, k7⟩; obtain ⟨hB7, hd7⟩ := HT6.out.frameB k7 (by simp; omega))
          | (go_at_call 11; clear tok11; refine (same_true w7 v u (afterK j D) HRL.out hv (HU.out w7 b hd7)).mono ?_; rintro e w8 ⟨rfl, k8⟩; have hB8 := hB7.keep0 k8)
          | (go_at_call 10; refine (rest_any w8 hB8).mono ?_; rintro e w9 ⟨v9, rfl, hv9, k9⟩; have hd9 := (hd7.keeps k8 (by simp)).keeps k9 (by intro db e hx; have := Hq6.out db e; simp at hx; omega))
          | (go_at_call 11; refine (same_true w9 v9 u (afterK j D) HRL.out hv9 (HU.out w9 b hd9)).mono ?_; rintro e w10 ⟨rfl, k10⟩))
        go_ret
        have e0 := lt_of_block hA.row
        have c6 := hbel.trans (k46.below (by omega) (by simp))
        have c7 := c6.trans (k7.below (by have := k46.size; omega) (by simp; omega))
        have c8 := c7.trans (k8.below (by have := k46.size; have := k7.size; omega) (by simp))
        have c9 := c8.trans (k9.below (by have := k46.size; have := k7.size; have := k8.size; omega) (by simp; omega))
        have c10 := c9.trans (k10.below (by have := k46.size; have := k7.size; have := k8.size; have := k9.size; omega) (by simp))
        exact ⟨rfl, by rw [HBQ.out]; exact c10⟩

set_option maxRecDepth 100000 in
set_option maxHeartbeats 4000000 in
theorem sizes_out (a : Option Addr) (n cap : Nat) (z sizeA sizeB : Int) (w : World) (h : ¬ n ≤ 1048576 ∨ (n ≤ 1048576 ∧ (z < 0 ∨ (0 ≤ z ∧ 65536 < z) ∨ (0 ≤ z ∧ z ≤ 65536 ∧ 65536 < sizeA) ∨ (0 ≤ z ∧ z ≤ 65536 ∧ sizeA ≤ 65536 ∧ 65536 < sizeB)))) :
    Calls Tryd.prog 4 #[.slice a n cap, .int .i64 z, .int .i64 sizeA, .int .i64 sizeB] w fun e w' => e = .returned (.bool true) ∧ Below w.heap.size w w' := by
  rcases h with h | ⟨hn, h | ⟨h1, h2⟩ | ⟨h1, h2, h3⟩ | ⟨h1, h2, h3, h4⟩⟩
  · go_enter Tryd.func4, Tryd.ntmps4
    go_wp2_with (go_at_call 13; refine (zz13_no _ _ _ _ _ _ h _).mono ?_; rintro e w' ⟨rfl, rfl⟩)
    go_ret
    exact ⟨rfl, Below.refl _ _⟩
  all_goals
    go_enter Tryd.func4, Tryd.ntmps4
    go_wp2_with (go_at_call 13; refine (zz13 _ _ _ _ _ _ hn _).mono ?_; rintro e w' ⟨rfl, rfl⟩)
    go_ret
    exact ⟨rfl, Below.refl _ _⟩

end Go.Proofs.Qxb6612240aDoor
