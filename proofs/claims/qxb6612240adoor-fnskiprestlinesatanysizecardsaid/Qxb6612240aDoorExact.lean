import Derived.Test.Qxb6612240aDoorLaws2
namespace Go.Proofs.Qxb6612240aDoor
open Go.RowKit

/-- the data, a row of its own from block B on, or nil -/
def Dat (w : World) (B : Nat) (da : Option Addr) (D : List Int) : Prop :=
  (da = none ∧ D = []) ∨ ∃ db, da = some ⟨db, 0, none⟩ ∧ B ≤ db ∧ w.heap[db]? = some (.cells (bs D).toArray 5 (0, 0))
theorem Dat.keeps {w w' : World} {B : Nat} {da : Option Addr} {D : List Int} {S : List Nat} (h : Dat w B da D) (k : Keeps S w w') (hS : ∀ db, da = some ⟨db, 0, none⟩ → db ∉ S) : Dat w' B da D :=
  h.imp id fun ⟨db, h1, h2, h3⟩ => ⟨db, h1, h2, k.row h3 (hS db h1)⟩
theorem Dat.lt {w : World} {B : Nat} {da : Option Addr} {D : List Int} (h : Dat w B da D) : ∀ db, da = some ⟨db, 0, none⟩ → db < w.heap.size := by
  intro db e
  rcases h with ⟨rfl, _⟩ | ⟨db', h1, _, h3⟩
  · cases e
  · rw [h1] at e; cases e; exact lt_of_block h3
/-- what came in -/
def Came (w : World) (a : Option Addr) (cap : Nat) (D : List Int) : Prop :=
  (a = none ∧ cap = 0 ∧ D = []) ∨ ∃ x, a = some x ∧ ∀ i, i < D.length → w.cell? (x.add i) = some (.int .u8 (D.getD i 0))

theorem clone_any {w : World} {a : Option Addr} {cap : Nat} {D : List Int} (h : Came w a cap D) (hlen : D.length ≤ 1048576) :
    Calls Tryd.prog 6 #[.slice a D.length cap] w fun e w' => ∃ da, e = .returned (.slice da D.length D.length) ∧ Dat w' w.heap.size da D ∧ Below w.heap.size w w' := by
  rcases h with ⟨rfl, rfl, rfl⟩ | ⟨x, rfl, hc⟩
  · refine (clone_nil w).mono ?_
    rintro e w' ⟨rfl, rfl⟩
    exact ⟨none, rfl, .inl ⟨rfl, rfl⟩, Below.refl _ _⟩
  · refine (clone_some x cap D w hlen hc).mono ?_
    rintro e w' ⟨rfl, h1, h2⟩
    exact ⟨_, rfl, .inr ⟨_, rfl, Nat.le_refl _, h1⟩, h2⟩

theorem lines_dat {w : World} {B : Nat} {da : Option Addr} {D : List Int} (h : Dat w B da D) (k : Nat) (hk : k ≤ 65536) (hD : D.length ≤ 1048576) :
    Calls Tryd.prog 12 #[.slice da D.length D.length, .int .i64 k] w fun e w' => ∃ u, e = .returned u ∧ (∀ (w'' : World) (B' : Nat), Dat w'' B' da D → Wnd w'' u (afterK k D)) ∧ Keeps [] w w' := by
  rcases h with ⟨rfl, rfl⟩ | ⟨db, rfl, _, h3⟩
  · refine (lines_nil k w hk).mono ?_
    rintro e w' ⟨u, rfl, h1, h2⟩
    exact ⟨u, rfl, fun w'' _ _ => h1 w'', h2⟩
  · refine (lines_any db D k w hD hk h3).mono ?_
    rintro e w' ⟨u, rfl, h1, h2⟩
    refine ⟨u, rfl, fun w'' B' hd' => ?_, h2⟩
    rcases hd' with ⟨h', _⟩ | ⟨db', h', _, h3'⟩
    · cases h'
    · cases h'; exact h1 w'' h3'

theorem lines_one {w : World} {B : Nat} {da : Option Addr} {D : List Int} (h : Dat w B da D) (hD : D.length ≤ 1048576) :
    Calls Tryd.prog 12 #[.slice da D.length D.length, .int .i64 1] w fun e w' => ∃ u, e = .returned u ∧ Wnd w' u (afterNl D) ∧ Keeps [] w w' := by
  refine (lines_dat h 1 (by omega) hD).mono ?_
  rintro e w' ⟨u, rfl, h1, h2⟩
  exact ⟨u, rfl, h1 w' B (h.keeps h2 (by simp)), h2⟩

section
variable {w w' : World} {rr br bb lr : Nat} {aE aF : Addr} {da : Option Addr} {D : List Int} {N : Nat} {R : List Int} {longest line : Int} {cut skip : Bool}
theorem Lrd.keep0 (h : Lrd w rr br bb lr aE aF da D N R longest line cut skip) (k : Keeps [] w w') : Lrd w' rr br bb lr aE aF da D N R longest line cut skip := by
  refine h.frame k (2 + aE.block + aF.block + (da.map (·.block)).getD 0 + 1) (by simp) (by omega) (fun db e => ?_) (by omega) (by omega)
  subst e
  simp
  omega
theorem Dat.pD {B : Nat} (h : Dat w B da D) (hB : 1 < B) : 0 < D.length → ∃ db, da = some ⟨db, 0, none⟩ ∧ db < w.heap.size ∧ 1 < db ∧ w.heap[db]? = some (.cells (bs D).toArray 5 (0, 0)) := by
  intro h0
  rcases h with ⟨_, rfl⟩ | ⟨db, h1, h2, h3⟩
  · simp at h0
  · exact ⟨db, h1, lt_of_block h3, by omega, h3⟩
theorem Sen.later {B B' : Nat} (h : Sen w aE aF B) (k : Below B w w') (hB : B ≤ B') : Sen w' aE aF B' := by
  obtain ⟨h1, h2, h3, ⟨c, t, h4⟩, ⟨c', t', h5⟩⟩ := h
  exact ⟨h1, by omega, by omega, ⟨c, t, by rw [k.block _ h2]; exact h4⟩, ⟨c', t', by rw [k.block _ h3]; exact h5⟩⟩
end

set_option maxRecDepth 100000 in
set_option maxHeartbeats 4000000 in
theorem exact_any (a : Option Addr) (cap : Nat) (D : List Int) (size longest line : Int) (cut skip : Bool) (aE aF : Addr) (w : World) (hlen : D.length ≤ 1048576) (hsize : size ≤ 65536) (hin : Came w a cap D) (hD8 : ∀ x ∈ D, 0 ≤ x ∧ x ≤ 255)
    (hw : 1 < w.heap.size) (g0 : w.cell? ⟨0, 0, none⟩ = some (.iface 59 (.pointer (some aF)))) (g1 : w.cell? ⟨1, 0, none⟩ = some (.iface 59 (.pointer (some aE)))) (hs : Sen w aE aF w.heap.size) :
    Calls Tryd.prog 3 #[.slice a D.length cap, .int .i64 size, .int .i64 longest, .int .i64 line, .bool cut, .bool skip] w fun e w' => e = .returned (.bool true) ∧ Below w.heap.size w w' := by
  obtain ⟨N, hN⟩ : ∃ N : Nat, max size 16 = (N : Int) := ⟨(max size 16).toNat, by omega⟩
  have HN2 : Hid (N ≤ 65536) := by apply hd; omega
  have HN := hd hN
  have HD8 := hd hD8
  have G0 := hd g0
  have G1 := hd g1
  have HW := hd hw
  have HRL : Hid ((afterNl D).length ≤ 2000000) := by have := afterNl_len D; apply hd; omega
  clear hN hD8 g0 g1 hw
  go_enter Tryd.func3, Tryd.ntmps3
  go_wp2_with (first
    | (go_at_call 5; refine (zz5 _ _ _ _ _ _ _ _ hlen _).mono ?_; rintro e w' ⟨rfl, rfl⟩)
    | (go_at_call 6; refine (clone_any hin hlen).mono ?_; rintro e w1 ⟨da, rfl, hdat, b1⟩)
    | (go_at_call 7; refine (newLR_any da D N size longest line cut skip aE aF HN.out HN2.out hlen HD8.out w1 (Nat.lt_of_lt_of_le HW.out b1.size) (hdat.pD HW.out) (cell_later b1 G0.out) (cell_later b1 G1.out) (hs.later b1 b1.size)).mono ?_; rintro e w2 ⟨lr, rfl, hlr, hL2, k2⟩)
    | (go_at_call 8; refine (zskip_any w2 hL2).mono ?_; rintro e w3 ⟨rfl, hL3, k3⟩)
    | (go_at_call 9; refine (state_any w3 hL3).mono ?_; rintro e w4 ⟨rfl, k4⟩; have hL4 := hL3.keep0 k4)
    | (go_at_call 10; refine (rest_any w4 hL4).mono ?_; rintro e w5 ⟨v, rfl, hv, k5⟩)
    | (go_at_call 12; refine (lines_one ((((hdat.keeps k2 (by simp)).keeps k3 (by intro db e; have := hdat.lt db e; simp; omega)).keeps k4 (by simp)).keeps k5 (by intro db e; have := hdat.lt db e; simp; omega)) hlen).mono ?_; rintro e w6 ⟨u, rfl, hu, k6⟩)
    | (go_at_call 11; refine (same_true w6 v u (afterNl D) HRL.out (hv.keeps k6) hu).mono ?_; rintro e w7 ⟨rfl, k7⟩))
  go_ret
  have s1 := b1.size
  have c2 := b1.trans (k2.below s1 (by simp))
  have c3 := c2.trans (k3.below c2.size (by simp; omega))
  have c4 := c3.trans (k4.below c3.size (by simp))
  have c5 := c4.trans (k5.below c4.size (by simp; omega))
  have c6 := c5.trans (k6.below c5.size (by simp))
  have c7 := c6.trans (k7.below c6.size (by simp))
  exact ⟨rfl, c7⟩

set_option maxRecDepth 100000 in
set_option maxHeartbeats 4000000 in
theorem exact_out (a : Option Addr) (n cap : Nat) (size longest line : Int) (cut skip : Bool) (w : World) (h : ¬ n ≤ 1048576 ∨ (n ≤ 1048576 ∧ 65536 < size)) :
    Calls Tryd.prog 3 #[.slice a n cap, .int .i64 size, .int .i64 longest, .int .i64 line, .bool cut, .bool skip] w fun e w' => e = .returned (.bool true) ∧ Below w.heap.size w w' := by
  rcases h with h | ⟨hn, h⟩
  · go_enter Tryd.func3, Tryd.ntmps3
    go_wp2_with (go_at_call 5; refine (zz5_no _ _ _ _ _ _ _ _ h _).mono ?_; rintro e w' ⟨rfl, rfl⟩)
    go_ret
    exact ⟨rfl, Below.refl _ _⟩
  · go_enter Tryd.func3, Tryd.ntmps3
    go_wp2_with (go_at_call 5; refine (zz5 _ _ _ _ _ _ _ _ hn _).mono ?_; rintro e w' ⟨rfl, rfl⟩)
    go_ret
    exact ⟨rfl, Below.refl _ _⟩

end Go.Proofs.Qxb6612240aDoor
