import Derived.Test.Qxb6627478aSplit
namespace Go.Proofs.Qxb6627478a

/-! The plain law: the answers for the keywords that come up for the first time add up to all expressions. -/
def keyIn (Q : List (Int × Nat)) (k : Int) : Bool := Q.any (fun y => y.1 == k)
def sumTo (P : List (Int × Nat)) : Nat → Nat
  | 0 => 0
  | i + 1 => sumTo P i + (if keyIn (P.take i) (P.getD i (0, 0)).1 then 0 else cntF P (P.getD i (0, 0)).1)
theorem sumTo_old (P : List (Int × Nat)) (i : Nat) (h : keyIn (P.take i) (P.getD i (0, 0)).1 = true) : sumTo P (i + 1) = sumTo P i := by
  show sumTo P i + _ = _; rw [if_pos h]; rfl
theorem sumTo_new (P : List (Int × Nat)) (i : Nat) (h : keyIn (P.take i) (P.getD i (0, 0)).1 = false) : sumTo P (i + 1) = sumTo P i + cntF P (P.getD i (0, 0)).1 := by
  show sumTo P i + _ = _; rw [if_neg (by rw [h]; simp)]
theorem keyIn_snoc (Q : List (Int × Nat)) (x : Int × Nat) (k : Int) : keyIn (Q ++ [x]) k = (keyIn Q k || (x.1 == k)) := by simp [keyIn]
theorem tot_cons (x : Int × Nat) (P : List (Int × Nat)) : tot (x :: P) = x.2 + tot P := by simp [tot]
theorem tot_filter_or (P : List (Int × Nat)) (f g : Int × Nat → Bool) (h : ∀ x, f x = true → g x = true → False) : tot (P.filter (fun x => f x || g x)) = tot (P.filter f) + tot (P.filter g) := by
  induction P with
  | nil => rfl
  | cons x P ih =>
    simp only [List.filter_cons]
    cases hf : f x <;> cases hg : g x
    · simpa using ih
    · simp only [Bool.false_or, if_true, Bool.false_eq_true, if_false, tot_cons]; rw [ih]; omega
    · simp only [Bool.or_false, if_true, Bool.false_eq_true, if_false, tot_cons]; rw [ih]; omega
    · exact absurd (h x hf hg) (by simp)
theorem sumTo_is (P : List (Int × Nat)) : ∀ i, i ≤ P.length → sumTo P i = tot (P.filter (fun x => keyIn (P.take i) x.1)) := by
  intro i
  induction i with
  | zero =>
    intro _
    have : P.filter (fun x => keyIn (P.take 0) x.1) = [] := by
      rw [List.filter_eq_nil_iff]; intro a _; simp [keyIn]
    rw [this]; rfl
  | succ i ih =>
    intro hi
    have hs := take_snoc P (0, 0) i (by omega)
    have ih' := ih (by omega)
    generalize P.getD i (0, 0) = x at hs
    have hx : P.getD i (0, 0) = x := by
      have h1 := take_snoc P (0, 0) i (by omega)
      rw [hs] at h1
      have := List.append_cancel_left h1
      simpa using this.symm
    cases hk : keyIn (P.take i) x.1
    · rw [sumTo_new P i (by rw [hx]; exact hk), ih', hx, hs]
      have e : (fun y : Int × Nat => keyIn (P.take i ++ [x]) y.1) = (fun y => keyIn (P.take i) y.1 || (x.1 == y.1)) := by funext y; rw [keyIn_snoc]
      rw [e, tot_filter_or P (fun y => keyIn (P.take i) y.1) (fun y => x.1 == y.1) (fun y h1 h2 => by
        have : x.1 = y.1 := by simpa using h2
        rw [← this, hk] at h1; cases h1)]
      congr 1
      unfold cntF tot
      congr 3
      funext y
      exact Bool.beq_comm
    · rw [sumTo_old P i (by rw [hx]; exact hk), ih', hs]
      congr 1
      apply List.filter_congr
      intro y _
      rw [keyIn_snoc]
      cases h2 : (x.1 == y.1)
      · simp
      · have : x.1 = y.1 := by simpa using h2
        rw [← this, hk]; rfl
theorem sumTo_all (P : List (Int × Nat)) : sumTo P P.length = tot P := by
  rw [sumTo_is P P.length (Nat.le_refl _), List.take_length]
  congr 1
  rw [List.filter_eq_self]
  intro x hx
  simp only [keyIn, List.any_eq_true]
  exact ⟨x, hx, by simp⟩
theorem tot_filter_le (P : List (Int × Nat)) (f : Int × Nat → Bool) : tot (P.filter f) ≤ tot P := by
  induction P with
  | nil => exact Nat.le_refl _
  | cons x P ih =>
    simp only [List.filter_cons]
    cases f x
    · simp only [Bool.false_eq_true, if_false, tot_cons]; omega
    · simp only [if_true, tot_cons]; omega
theorem sumTo_le (P : List (Int × Nat)) (i : Nat) (hi : i ≤ P.length) : sumTo P i ≤ tot P := by
  rw [sumTo_is P i hi]
  exact tot_filter_le P _

/-! How often an expression comes up. -/
def seen (L : List Nat) (q : Nat) : Nat := (L.filter (fun x => x == q)).length
theorem seen_snoc (L : List Nat) (x q : Nat) : seen (L ++ [x]) q = seen L q + (if x = q then 1 else 0) := by
  by_cases h : x = q
  · simp [seen, h]
  · simp [seen, h]
theorem seen_le (L : List Nat) (q : Nat) : seen L q ≤ L.length := List.length_filter_le _ _
theorem seen_zero (L : List Nat) (q : Nat) (h : q ∉ L) : seen L q = 0 := by
  unfold seen
  rw [List.length_eq_zero_iff, List.filter_eq_nil_iff]
  intro x hx e
  have : x = q := by simpa using e
  subst this; exact h hx
theorem seen_one (L : List Nat) (q : Nat) (hn : L.Nodup) (h : q ∈ L) : seen L q = 1 := by
  induction L with
  | nil => cases h
  | cons x L ih =>
    rw [List.nodup_cons] at hn
    by_cases e : x = q
    · subst e
      have := seen_zero L x hn.1
      unfold seen at this ⊢
      simp [this]
    · have hq : q ∈ L := by
        rcases List.mem_cons.1 h with h | h
        · exact absurd h.symm e
        · exact h
      have := ih hn.2 hq
      unfold seen at this ⊢
      simp [e, this]
theorem pats_sub (LL : List Ln) (k : Int) : (pats LL k).Sublist (LL.flatMap fun x => x.2.2) := by
  induction LL with
  | nil => exact List.Sublist.slnil
  | cons x LL ih =>
    have h1 := pats_append [x] LL k
    rw [List.singleton_append] at h1
    rw [h1, List.flatMap_cons]
    cases hk : (x.1 == k)
    · rw [pats_one_no x k hk, List.nil_append]; exact ih.trans (List.sublist_append_right _ _)
    · rw [pats_one_yes x k hk]; exact List.Sublist.append (List.Sublist.refl _) ih
theorem pats_mem (LL : List Ln) (x : Ln) (hx : x ∈ LL) (q : Nat) (hq : q ∈ x.2.2) : q ∈ pats LL x.1 := by
  unfold pats
  rw [List.mem_flatMap]
  exact ⟨x, List.mem_filter.2 ⟨hx, by simp⟩, hq⟩
theorem once (LL : List Ln) (x : Ln) (hx : x ∈ LL) (q : Nat) (hq : q ∈ x.2.2) (hn : (LL.flatMap fun x => x.2.2).Nodup) : seen (pats LL x.1) q = 1 :=
  seen_one _ _ ((pats_sub LL x.1).nodup hn) (pats_mem LL x hx q hq)
end Go.Proofs.Qxb6627478a
