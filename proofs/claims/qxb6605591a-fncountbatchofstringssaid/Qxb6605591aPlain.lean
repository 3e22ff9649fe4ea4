namespace Go.Proofs.Qxb6605591a.Pl

def isSp (c : Int) : Bool := c == 32 || c == 9 || c == 13 || c == 10

def lead : List Int → Nat
  | [] => 0
  | c :: r => if isSp c = true then lead r + 1 else 0

def cq : List Int → Nat
  | [] => 0
  | [c] => if c = 92 then 1 else if c = 34 then 0 else 1
  | c :: d :: r => if c = 92 then cq r + 2 else if c = 34 then 0 else cq (d :: r) + 1

def tc : Bool → Bool → Int → List Int → Int
  | _, _, _, [] => 0
  | true, true, d, _ :: r => tc true false d r
  | true, false, d, c :: r => if c = 92 then tc true true d r else if c = 34 then tc false false d r else tc true false d r
  | false, e, d, c :: r => if c = 34 then tc true e d r else if c = 123 ∨ c = 91 then tc false e (d + 1) r else if c = 125 ∨ c = 93 then tc false e (d - 1) r else if c = 44 ∧ d = 0 then tc false e d r + 1 else tc false e d r

theorem tc_string (d : Int) (r : List Int) : tc true false d r = tc false false d (r.drop (cq r + 1)) := by
  fun_induction cq r <;> simp_all [tc]

theorem lead_le (l : List Int) : lead l ≤ l.length := by
  induction l with
  | nil => simp [lead]
  | cons c r ih => simp only [lead, List.length_cons]; split <;> omega

theorem tc_lead (d : Int) (l : List Int) : tc false false d (l.drop (lead l)) = tc false false d l := by
  induction l with
  | nil => simp [lead]
  | cons c r ih =>
    simp only [lead]
    by_cases h : isSp c = true
    · rw [if_pos h, List.drop_succ_cons, ih]
      have h' : c = 32 ∨ c = 9 ∨ c = 13 ∨ c = 10 := by simpa [isSp, or_assoc] using h
      rcases h' with h' | h' | h' | h' <;> subst h' <;> simp [tc]
    · rw [if_neg h]; rfl

theorem tc_nonneg (s e : Bool) (d : Int) (l : List Int) : 0 ≤ tc s e d l ∧ tc s e d l ≤ l.length := by
  fun_induction tc s e d l <;> simp_all <;> omega

/-! the value of Count -/
def clampT (most T : Int) : Int := if (if most < T then most else T) < 1 then 1 else (if most < T then most else T)
def countVal (l : List Int) (most : Int) : Int :=
  if lead l = l.length then 0 else if l.getD (lead l) 0 ≠ 91 then 1
  else if lead l + 1 + lead (l.drop (lead l + 1)) = l.length ∨ l.getD (lead l + 1 + lead (l.drop (lead l + 1))) 0 = 93 then 0
  else clampT most (1 + tc false false 0 (l.drop (lead l + 1)))

/-! the batch of strings -/
def hexd (n : Int) : Int := if n < 10 then 48 + n else 87 + n
def escC (c : Int) : List Int := if c = 34 ∨ c = 92 then [92, c] else if c < 32 then [92, 117, 48, 48, hexd (c / 16), hexd (c % 16)] else [c]
def escS (s : List Int) : List Int := s.flatMap escC
def encS (s : List Int) : List Int := 34 :: (escS s ++ [34])
def batchT : List (List Int) → List Int
  | [] => []
  | s :: r => encS s ++ r.flatMap (fun t => 44 :: 32 :: encS t)

theorem hexd_in (n : Int) (h0 : 0 ≤ n) (h1 : n < 16) : hexd n ≠ 92 ∧ hexd n ≠ 34 := by
  unfold hexd; split <;> omega

theorem tc_esc (d : Int) (s r : List Int) (h : ∀ c ∈ s, 0 ≤ c) : tc true false d (escS s ++ 34 :: r) = tc false false d r := by
  induction s with
  | nil => simp [escS, tc]
  | cons c s ih =>
    have ih' := ih fun x hx => h x (List.mem_cons_of_mem _ hx)
    have hc := h c (List.mem_cons_self ..)
    have e : escS (c :: s) ++ 34 :: r = escC c ++ (escS s ++ 34 :: r) := by simp [escS]
    rw [e]
    unfold escC
    split
    · rename_i h1
      simp [tc, ih']
    · rename_i h1
      split
      · rename_i h2
        have a1 := hexd_in (c / 16) (by omega) (by omega)
        have a2 := hexd_in (c % 16) (by omega) (by omega)
        simp [tc, ih', a1, a2]
      · have n1 : ¬ c = 34 := fun e => h1 (Or.inl e)
        have n2 : ¬ c = 92 := fun e => h1 (Or.inr e)
        simp [tc, ih', n1, n2]

theorem tc_enc (d : Int) (s r : List Int) (h : ∀ c ∈ s, 0 ≤ c) : tc false false d (encS s ++ r) = tc false false d r := by
  have e : encS s ++ r = 34 :: (escS s ++ 34 :: r) := by simp [encS]
  rw [e]
  simp only [tc, if_true]
  exact tc_esc d s r h

theorem tc_more (ss : List (List Int)) (r : List Int) (h : ∀ s ∈ ss, ∀ c ∈ s, 0 ≤ c) :
    tc false false 0 (ss.flatMap (fun t => 44 :: 32 :: encS t) ++ r) = ss.length + tc false false 0 r := by
  induction ss with
  | nil => simp
  | cons s ss ih =>
    have e : (s :: ss).flatMap (fun t => 44 :: 32 :: encS t) ++ r = 44 :: 32 :: (encS s ++ (ss.flatMap (fun t => 44 :: 32 :: encS t) ++ r)) := by simp
    rw [e]
    have ih' := ih fun x hx => h x (List.mem_cons_of_mem _ hx)
    have := tc_enc 0 s (ss.flatMap (fun t => 44 :: 32 :: encS t) ++ r) (h s (List.mem_cons_self ..))
    simp only [tc]
    simp [this, ih']
    omega

def want (k : Nat) (most : Int) : Int := if 0 < k then clampT most k else 0

theorem count_batch (ss : List (List Int)) (most : Int) (h : ∀ s ∈ ss, ∀ c ∈ s, 0 ≤ c) :
    countVal (91 :: (batchT ss ++ [93])) most = want ss.length most := by
  have l0 : lead (91 :: (batchT ss ++ [93])) = 0 := by simp [lead, isSp]
  unfold countVal
  rw [l0]
  cases ss with
  | nil => simp [batchT, lead, isSp, want]
  | cons s r =>
    have e : batchT (s :: r) ++ [93] = 34 :: (escS s ++ [34] ++ (r.flatMap (fun t => 44 :: 32 :: encS t) ++ [93])) := by simp [batchT, encS]
    have l1 : lead (batchT (s :: r) ++ [93]) = 0 := by rw [e]; simp [lead, isSp]
    have t1 : tc false false 0 (batchT (s :: r) ++ [93]) = r.length := by
      have e2 : batchT (s :: r) ++ [93] = encS s ++ (r.flatMap (fun t => 44 :: 32 :: encS t) ++ [93]) := by simp [batchT]
      rw [e2, tc_enc 0 s _ (h s (List.mem_cons_self ..)), tc_more r _ fun x hx => h x (List.mem_cons_of_mem _ hx)]
      simp [tc]
    have d1 : (91 :: (batchT (s :: r) ++ [93])).drop (0 + 1) = batchT (s :: r) ++ [93] := rfl
    rw [d1, l1, t1]
    rw [e]
    simp [want]
    rw [Int.add_comm]

theorem batch_snoc (ss : List (List Int)) (t : List Int) : batchT (ss ++ [t]) = if ss = [] then encS t else batchT ss ++ 44 :: 32 :: encS t := by
  cases ss with
  | nil => simp [batchT]
  | cons s r => simp [batchT]

/-! steps by places -/
theorem drop_at (l : List Int) (i : Nat) (h : i < l.length) : l.drop i = l.getD i 0 :: l.drop (i + 1) := by
  rw [List.drop_eq_getElem_cons h]; simp [List.getD, h]
theorem lead_at (l : List Int) (i : Nat) (h : i < l.length) : lead (l.drop i) = if isSp (l.getD i 0) = true then lead (l.drop (i + 1)) + 1 else 0 := by
  rw [drop_at l i h]; rfl
theorem lead_end (l : List Int) (i : Nat) (h : l.length ≤ i) : lead (l.drop i) = 0 := by
  rw [List.drop_of_length_le h]; rfl
theorem lead_bound (l : List Int) (i : Nat) (h : i ≤ l.length) : i + lead (l.drop i) ≤ l.length := by
  have := lead_le (l.drop i); simp at this; omega

theorem cq_le (l : List Int) : cq l ≤ l.length := by
  fun_induction cq l <;> simp_all <;> omega
theorem cq_bound (l : List Int) (i : Nat) (h : i ≤ l.length) : i + cq (l.drop i) ≤ l.length := by
  have := cq_le (l.drop i); simp at this; omega
theorem cq_end (l : List Int) (i : Nat) (h : l.length ≤ i) : cq (l.drop i) = 0 := by
  rw [List.drop_of_length_le h]; rfl
theorem cq_quote (l : List Int) (i : Nat) (h : i < l.length) (e : l.getD i 0 = 34) : cq (l.drop i) = 0 := by
  rw [drop_at l i h, e]; cases l.drop (i + 1) <;> simp [cq]
theorem cq_plain (l : List Int) (i : Nat) (h : i < l.length) (e : l.getD i 0 ≠ 34) (e' : l.getD i 0 ≠ 92) : cq (l.drop i) = cq (l.drop (i + 1)) + 1 := by
  rw [drop_at l i h]
  generalize l.getD i 0 = c at *
  cases l.drop (i + 1) <;> simp [cq, e, e']
theorem cq_esc (l : List Int) (i : Nat) (h : i + 1 < l.length) (e : l.getD i 0 = 92) : cq (l.drop i) = cq (l.drop (i + 2)) + 2 := by
  rw [drop_at l i (by omega), e, drop_at l (i + 1) h]; simp [cq]
theorem cq_esc_end (l : List Int) (i : Nat) (h : i + 1 = l.length) (e : l.getD i 0 = 92) : cq (l.drop i) = 1 := by
  rw [drop_at l i (by omega), e, List.drop_of_length_le (by omega)]; simp [cq]

/-! the one-pass machine, by places -/
theorem tc_end (s e : Bool) (d : Int) (l : List Int) (i : Nat) (h : l.length ≤ i) : tc s e d (l.drop i) = 0 := by
  rw [List.drop_of_length_le h]; cases s <;> cases e <;> rfl
theorem tc_tt (d : Int) (l : List Int) (i : Nat) (h : i < l.length) : tc true true d (l.drop i) = tc true false d (l.drop (i + 1)) := by
  rw [drop_at l i h]; rfl
theorem tc_tf_esc (d : Int) (l : List Int) (i : Nat) (h : i < l.length) (e : l.getD i 0 = 92) : tc true false d (l.drop i) = tc true true d (l.drop (i + 1)) := by
  rw [drop_at l i h, e]; rfl
theorem tc_tf_quote (d : Int) (l : List Int) (i : Nat) (h : i < l.length) (e : l.getD i 0 = 34) : tc true false d (l.drop i) = tc false false d (l.drop (i + 1)) := by
  rw [drop_at l i h, e]; rfl
theorem tc_tf (d : Int) (l : List Int) (i : Nat) (h : i < l.length) (e : l.getD i 0 ≠ 34) (e' : l.getD i 0 ≠ 92) : tc true false d (l.drop i) = tc true false d (l.drop (i + 1)) := by
  rw [drop_at l i h]; simp only [tc]; rw [if_neg e', if_neg e]
theorem tc_f (x : Bool) (d : Int) (l : List Int) (i : Nat) (h : i < l.length) : tc false x d (l.drop i) = if l.getD i 0 = 34 then tc true x d (l.drop (i + 1)) else if l.getD i 0 = 123 ∨ l.getD i 0 = 91 then tc false x (d + 1) (l.drop (i + 1)) else if l.getD i 0 = 125 ∨ l.getD i 0 = 93 then tc false x (d - 1) (l.drop (i + 1)) else if l.getD i 0 = 44 ∧ d = 0 then tc false x d (l.drop (i + 1)) + 1 else tc false x d (l.drop (i + 1)) := by
  rw [drop_at l i h]; cases x <;> rfl

end Go.Proofs.Qxb6605591a.Pl
