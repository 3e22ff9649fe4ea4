import Derived.Test.Qxb6612240aDoorAll1
namespace Go.Proofs.Qxb6612240aDoor
open Go.RowKit

theorem Ra.start {w : World} {rr br bb : Nat} {aE aF : Addr} {da : Option Addr} {D : List Int} {N : Nat} {R : List Int} {cu : List Int} {M : List Value} (h : Brd w rr br bb aE aF da D N R) (hbw : bb < w.heap.size) (hcu : cu.length = 512) (hM : M.length = 4) :
    Ra w ((w.alloc (.cells (bs cu).toArray 5)).alloc (.cells M.toArray 22)) rr br bb aE aF da D N R R w.heap.size 0 512 cu [] (.slice (some ⟨w.heap.size + 1, 0, none⟩) 0 4) := by
  have k : Keeps [] w ((w.alloc (.cells (bs cu).toArray 5)).alloc (.cells M.toArray 22)) := ((Keeps.refl _ _).alloc _).alloc _
  have hs : (w.alloc (.cells (bs cu).toArray 5)).heap.size = w.heap.size + 1 := by simp
  refine ⟨h.keeps k (by simp), hbw, Nat.le_refl _, ?_, hcu, by omega, by simp, ?_, by simp, k.mono (by simp), hbw⟩
  · rw [Below.heap_alloc _ _ _ (by omega)]; exact heap_alloc_new w _
  · have := World.ownsRow_made (base := w.heap.size) (e := 22) (size := 1) (w.alloc (.cells (bs cu).toArray 5)) M.toArray 4 (by omega) (by decide) (by simp [hM])
    rw [hs] at this
    exact this

/-- 'chunks = append(chunks, b)' -/
theorem appC_plain {ops : Array Oper} {rest : List Oper} {o : Oper} {a : Act} {Q : Exit → Act → World → Prop} (hgd : o.guard = none) (s x : Operand)
    (ho : o.op = .call { callee := .builtin .append, args := #[s, x], argTypes := #[54, 54] }) (B : Nat) (w1 : World) (v u : Value) (n : Nat) (xs : List Value) (hs : a.eval s = v) (hx : a.eval x = .slice (some ⟨w1.heap.size, 0, none⟩) 1 1)
    (hu : u.oneCell' = true) (hown : w1.ownsRow B 22 1 v n xs) (hB : B ≤ w1.heap.size) (hn : n ≤ 10000000)
    (h : ∀ gc cc w', w'.ownsRow B 22 1 (.slice (some ⟨gc, 0, none⟩) (n + 1) cc) (n + 1) (xs ++ [u]) → (w1.alloc (.cells #[u] 22)).grownBy w' v.ownBlock → wpList Tryd.prog ops Q rest (a.put o.dst (.slice (some ⟨gc, 0, none⟩) (n + 1) cc)) w') : wpList Tryd.prog ops Q (o :: rest) a (w1.alloc (.cells #[u] 22)) := by
  obtain ⟨i0, hi, hz0, hz1, hz2⟩ := info_parts Tryd.info22
  refine wpList_append_own _ hgd s x 54 ho B 22 i0 (.slice none 0 0) 1 24 Tryd.underlying54 hi hz0 hz1 hz2 rfl (by decide) v n xs hs (hown.alloc _) ⟨w1.heap.size, 0, none⟩ 1 1 [u] hx rfl ?_ (by simpa using hu) (by unfold maxLen; omega) (by omega) (by simp; omega) ?_
  · intro j y hy
    exact World.news_of_block (heap_alloc_new w1 _) j y hy
  · intro v' w' h1 h2 _
    obtain ⟨gc, cc, hv⟩ : ∃ gc cc, v' = .slice (some ⟨gc, 0, none⟩) (n + 1) cc := by
      rcases h1.2 with ⟨_, h0⟩ | ⟨gc, cc, cur, hv, _⟩
      · omega
      · exact ⟨gc, cc, hv⟩
    rw [hv] at h1 ⊢
    exact h gc cc w' h1 h2

attribute [local go_sem ↓] Go.wp_at_zero Go.wp_at_succ
set_option maxRecDepth 100000 in
set_option maxHeartbeats 3000000 in
theorem readAll_any {rr br bb : Nat} {aE aF : Addr} {da : Option Addr} {D : List Int} {N : Nat} {R : List Int} (w : World) (h : Brd w rr br bb aE aF da D N R) (hR : R.length ≤ 2000000) (hbw : bb < w.heap.size) :
    Calls Tryd.prog 17 #[.iface 36 (.pointer (some ⟨br, 0, none⟩))] w fun e w' => ∃ v, e = .returned (.tuple #[v, .nilIface]) ∧ Reads w' v R ∧ Brd w' rr br bb aE aF da D N [] ∧ Keeps [rr, br, bb] w w' := by
  obtain ⟨M, hM, hmk⟩ := made4
  obtain ⟨cu, hcu, _, hm5⟩ := make_bytes 0 512 (by omega) (by omega)
  have hm5' : ∀ w : World, (Instr.makeSlice 22 (.int .i64 0) (.int .i64 512)).run Tryd.prog w = .ok (.slice (some ⟨w.heap.size, 0, none⟩) 0 512) (w.alloc (.cells (bs cu).toArray 5)) := hm5
  clear hm5
  have HR := hd hR
  clear hR
  go_enter Tryd.func17, Tryd.ntmps17
  go_wp2
  go_loopg [4, 5, 6, 7] R.length (fun gk b nx ch fs wr => ∃ (R' cur : List Int) (cks : List Ck) (g l C nxv s gc cc : Nat), b = .slice (some ⟨g, 0, none⟩) l C ∧ ch = .slice (some ⟨gc, 0, none⟩) cks.length cc ∧ nx = .int .i64 nxv ∧ fs = .int .i64 s ∧ s = sumL cks ∧ cks.length ≤ s ∧ Ra w wr rr br bb aE aF da D N R R' g l C cur cks (.slice (some ⟨gc, 0, none⟩) cks.length cc) ∧ l < C ∧ 256 ≤ C ∧ C ≤ 9223372036854775807 ∧ 256 ≤ nxv ∧ 2 * nxv ≤ 3 * C ∧ nxv ≤ 10000000 ∧ Hid (R'.length ≤ gk))
  case atStart => exact ⟨R, cu, [], w.heap.size, 0, 512, 256, 0, w.heap.size + 1, 4, rfl, rfl, rfl, rfl, rfl, Nat.le_refl _, Ra.start h hbw hcu hM, by omega, by omega, by omega, by omega, by omega, by omega, Nat.le_refl _⟩
  case round =>
    clear h hbw hmk hm5' hcu hM
    obtain ⟨R', cur, cks, g, l, C, nxv, s, gc, cc, rfl, rfl, rfl, rfl, hs, hks, hra, hlC, hC1, hC2, hn1, hn2, hn3, HG⟩ := hrel
    have HSs := hd hs
    clear hs
    have ht := hra.total
    have hll : s + l + R'.length ≤ 2000000 := by have := HR.out; have := HSs.out; omega
    have HT := hd ht
    clear ht
    have hsl := slice_room g l C hlC
    have hnb := nil_brd
    have hme := method_brd
    have hB : Brd wr.drew rr br bb aE aF da D N R' := hra.1.heap rfl
    have hg : wr.drew.heap[g]? = some (.cells (bs cur).toArray 5 (0, 0)) := hra.2.2.2.1
    have hcl := hra.2.2.2.2.1
    have hgb := hra.2.1
    go_wp2_with fail
    go_region_held3 (fun _ => True) (trivial) ((go_at_call 40; refine (bread_any wr.drew hB g l (C - l) (C - l) cur (by omega) (by omega) hg (by omega) hgb).mono ?_; rintro e w2 ⟨nn, er, rfl, hO⟩))
    clear hB hg hsl hnb hme
    rcases hO with ⟨rfl, rfl, hR0, hB2, hk2⟩ | ⟨m, rfl, rfl, hm1, hm2, hm3, hrow, hB2, hk2⟩
    case inr =>
      have hra2 := hra.read (m := m) (by omega) hm3 hrow hB2 ((Keeps.refl _ _).drew.trans hk2)
      clear hra hrow hB2 hk2 hcl
      have HL : Hid ((R'.drop m).length + m = R'.length) := by rw [List.length_drop]; apply hd; omega
      generalize R'.drop m = R2 at *
      generalize splice cur l (R'.take m) = cur2 at *
      have hlm : l + m ≤ C := by omega
      have hcl := hra2.2.2.2.2.1
      by_cases hmv : (C : Int) - ((l : Int) + m) < (C : Int) / 16
      · have hown := hra2.2.2.2.2.2.2.2.1
        have hk0 : cks.length ≤ 10000000 := by omega
        have hsz : w.heap.size ≤ w2.heap.size := hra2.2.2.2.2.2.2.2.2.2.1.size
        go_wp2_with (first | (at_builtin; refine appC_plain rfl (.tmp 76) (.tmp 78) rfl w.heap.size w2 _ (.slice (some ⟨g, 0, none⟩) (l + m) C) cks.length (cks.map Ck.val) rfl rfl rfl hown hsz hk0 ?_; intro gc' cc' w3 hq1 hq2) | (at_builtin; refine app_zeros rfl (.tmp 84) rfl _ nxv _ rfl (by omega) (by omega) (by omega) ?_; intro C' w4 hC3 hC4 hq3 hq4))
        have hsl := sumL_append cks ⟨g, l + m, C, cur2⟩
        go_roundg R2.length
        case measure => have := HG.out; have := HL.out; omega
        case rel => exact ⟨R2, List.replicate C' 0, cks ++ [⟨g, l + m, C, cur2⟩], w3.heap.size, 0, C', nxv + nxv / 2, s + (l + m), gc', cc', rfl, by simp, by go_num, by go_num, by rw [hsl, HSs.out], by simp; omega, by simpa using hra2.next hq1 hq2 hq3 hq4, by omega, by omega, hC4, by omega, by omega, by omega, Nat.le_refl _⟩
      · go_wp2
        go_roundg R2.length
        case measure => have := HG.out; have := HL.out; omega
        case rel => exact ⟨R2, cur2, cks, g, l + m, C, nxv, s, gc, cc, rfl, rfl, rfl, rfl, HSs.out, hks, hra2, by omega, hC1, hC2, hn1, hn2, hn3, Nat.le_refl _⟩
    case inl =>
      subst hR0
      have hra2 := hra.stay hB2 ((Keeps.refl _ _).drew.trans hk2)
      clear hra hB2 hk2 hcl
      have qs := eql_same
      obtain ⟨_, _, _, _, _, hrd, _⟩ := hra2.1
      have g1 := hrd.g1
      clear hrd
      have hlC' : l ≤ C := by omega
      by_cases hc0 : cks = []
      · subst hc0
        have hL : Hid (Reads w2 (.slice (some ⟨g, 0, none⟩) l C) R) := hra2.alone
        go_wp2
        go_ret2
        exact ⟨.slice (some ⟨g, 0, none⟩) l C, rfl, hL.out, hra2.1, hra2.2.2.2.2.2.2.2.2.2.1⟩
      · have hpos : 0 < cks.length := by
          rcases cks with _ | ⟨c, r⟩
          · exact absurd rfl hc0
          · simp
        clear hc0
        have hne : ¬ ((cks.length : Int) = 0) := by omega
        have hz := slice_zero
        go_wp2_with (at_builtin; refine app_zeros rfl (.tmp 49) rfl _ (s + l) _ rfl (by omega) (by omega) (by omega) ?_; intro C' w3 hC3 hC4 hq3 hq4)
        have hown0 := own_zero hq3 hC4
        have hb0 : Below w2.heap.size w2 w3 := ⟨hq4.os, hq4.tape, hq4.output, hq4.size, fun k hk => hq4.block k hk (by simp)⟩
        have hs0 := hq4.size
        clear hq3 hq4 hz
        have HRA := hd hra2
        have HSM := hd (sumL_bytes cks w2 bb g fun c hc => (hra2.2.2.2.2.2.2.1 c hc).1)
        clear hra2
        go_loopw [54, 10] (fun i v wr => ∃ (j : Nat) (L : List Int), i = .int .i64 j ∧ j ≤ cks.length ∧ Hid (L = (cks.take j).flatMap Ck.bytes) ∧ wr.ownsRow w2.heap.size 5 1 v L.length (bs L) ∧ Below w2.heap.size w2 wr ∧ w2.heap.size ≤ wr.heap.size) (fun i _ _ => cks.length - (intOf i).toNat)
        case atStart => exact ⟨0, [], rfl, Nat.zero_le _, rfl, hown0, hb0, hs0⟩
        case round =>
          clear hown0 hb0 hs0
          obtain ⟨j, L, rfl, hj, HLL, hown, hbel, hsz⟩ := hrel
          have hra := HRA.out
          by_cases hjl : j < cks.length
          · obtain ⟨cg, cl, cC, ccur, hcj⟩ : ∃ cg cl cC ccur, cks[j] = ⟨cg, cl, cC, ccur⟩ := ⟨_, _, _, _, rfl⟩
            have hck := (hra.2.2.2.2.2.2.1 _ (List.getElem_mem hjl)).1
            have hfl := flat_take cks j hjl
            rw [hcj] at hck hfl
            have hcl : wr.cell? ⟨gc, j, none⟩ = some (.slice (some ⟨cg, 0, none⟩) cl cC) := by
              refine cell_later hbel ?_
              rw [hra.2.2.2.2.2.2.2.1.cellAt j (by omega), List.getElem?_map, List.getElem?_eq_getElem hjl, hcj]
              rfl
            have hrow : wr.heap[cg]? = some (.cells (bs ccur).toArray 5 (0, 0)) := by
              rw [hbel.block cg (lt_of_block hck.2.2.1)]
              exact hck.2.2.1
            have hcl2 : cl ≤ ccur.length := by
              have h1 : ccur.length = cC := hck.2.2.2.1
              have h2 : cl ≤ cC := hck.2.2.2.2
              omega
            have hlen : L.length + cl ≤ 100000000 := by
              have h1 : L.length + cl = ((cks.take (j + 1)).flatMap Ck.bytes).length := by
                rw [hfl, List.length_append, ← HLL.out, List.length_take]
                show _ = _ + min cl ccur.length
                omega
              have h2 := sumL_bytes (cks.take (j + 1)) w2 bb g fun c hc => (hra.2.2.2.2.2.2.1 c (List.mem_of_mem_take hc)).1
              have h3 := sumL_take cks (j + 1)
              have h4 := HSs.out
              omega
            have HFL := hd hfl
            clear hfl hck hcj hra
            go_wp2_with (at_builtin; refine appB_plain rfl (.tmp 58) (.tmp 59) rfl w2.heap.size w2 _ _ L cg cl cC ccur rfl rfl hown hbel hsz hrow hcl2 hlen ?_; intro v' w4 ho4 hb4 hs4)
            go_round
            case measure => simp [intOf]; omega
            case rel => exact ⟨j + 1, _, by go_num, by omega, by rw [HFL.out, ← HLL.out]; rfl, ho4, hb4, hs4⟩
          · have hjj : j = cks.length := by omega
            have hLL := HLL.out
            rw [hjj, List.take_length] at hLL
            have hrow : wr.heap[g]? = some (.cells (bs cur).toArray 5 (0, 0)) := by
              rw [hbel.block g (lt_of_block hra.2.2.2.1)]
              exact hra.2.2.2.1
            have hlcu : l ≤ cur.length := by have := hra.2.2.2.2.1; omega
            have hall : Hid (L ++ cur.take l = R) := by
              have := hra.2.2.2.2.2.2.2.2.1
              rw [List.append_nil, ← hLL] at this
              exact this
            have hlen : L.length + l ≤ 100000000 := by
              have h1 := congrArg List.length hall.out
              rw [List.length_append, List.length_take] at h1
              have h2 := HR.out
              omega
            have hRpos : Hid (0 < R.length) := by
              have := hra.total
              have h4 := HSs.out
              apply hd
              simp at this
              omega
            clear hra hLL
            go_wp2_with (at_builtin; refine appB_plain rfl (.tmp 62) (.tmp 63) rfl w2.heap.size w2 _ _ L g l C cur rfl rfl hown hbel hsz hrow hlcu hlen ?_; intro v' w4 ho4 hb4 hs4)
            rw [hall.out] at ho4
            go_ret2
            have hra := HRA.out
            have hk4 : Keeps [] w2 w4 := Keeps.of_below hb4 fun k hk _ => .inl hk
            exact ⟨v', rfl, own_reads ho4 hRpos.out, hra.1.keeps hk4 (by simp), hra.2.2.2.2.2.2.2.2.2.1.trans (hk4.mono (by simp))⟩

end Go.Proofs.Qxb6612240aDoor
