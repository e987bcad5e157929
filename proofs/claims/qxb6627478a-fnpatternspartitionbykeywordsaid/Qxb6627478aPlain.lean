/-! Plain lists: no Go in sight. A shape: a keyword and how many expressions. -/
namespace Go.Proofs.Qxb6627478a
def tot (P : List (Int × Nat)) : Nat := (P.map (·.2)).sum
def cntF (P : List (Int × Nat)) (k : Int) : Nat := ((P.filter (fun x => x.1 == k)).map (·.2)).sum

theorem take_snoc {α : Type} (L : List α) (d : α) (k : Nat) (h : k < L.length) : L.take (k + 1) = L.take k ++ [L.getD k d] := by
  rw [List.take_succ_eq_append_getElem h]; simp [h]
theorem tot_append (A B : List (Int × Nat)) : tot (A ++ B) = tot A + tot B := by simp [tot]
theorem tot_one (x : Int × Nat) : tot [x] = x.2 := by simp [tot]
theorem tot_take (P : List (Int × Nat)) (j : Nat) (h : j < P.length) : tot (P.take (j + 1)) = tot (P.take j) + (P.getD j (0, 0)).2 := by
  rw [take_snoc P (0, 0) j h, tot_append, tot_one]
theorem tot_take_le (P : List (Int × Nat)) (j : Nat) : tot (P.take j) ≤ tot P := by
  have := tot_append (P.take j) (P.drop j)
  rw [List.take_append_drop] at this; omega
theorem cntF_append (A B : List (Int × Nat)) (k : Int) : cntF (A ++ B) k = cntF A k + cntF B k := by simp [cntF]
theorem cntF_one_yes (x : Int × Nat) (k : Int) (h : (x.1 == k) = true) : cntF [x] k = x.2 := by simp [cntF, h]
theorem cntF_one_no (x : Int × Nat) (k : Int) (h : (x.1 == k) = false) : cntF [x] k = 0 := by simp [cntF, h]
theorem cntF_take_yes (P : List (Int × Nat)) (k : Int) (j : Nat) (h : j < P.length) (hk : ((P.getD j (0, 0)).1 == k) = true) : cntF (P.take (j + 1)) k = cntF (P.take j) k + (P.getD j (0, 0)).2 := by
  rw [take_snoc P (0, 0) j h, cntF_append, cntF_one_yes _ _ hk]
theorem cntF_take_no (P : List (Int × Nat)) (k : Int) (j : Nat) (h : j < P.length) (hk : ((P.getD j (0, 0)).1 == k) = false) : cntF (P.take (j + 1)) k = cntF (P.take j) k := by
  rw [take_snoc P (0, 0) j h, cntF_append, cntF_one_no _ _ hk]; rfl
theorem cntF_le (P : List (Int × Nat)) (k : Int) : cntF P k ≤ tot P := by
  induction P with
  | nil => simp [cntF, tot]
  | cons x P ih =>
    have h1 := cntF_append [x] P k
    have h2 := tot_append [x] P
    rw [List.singleton_append] at h1 h2
    rw [h1, h2, tot_one]
    cases h : (x.1 == k)
    · rw [cntF_one_no x k h]; omega
    · rw [cntF_one_yes x k h]; omega
theorem tot_ge_len {P : List (Int × Nat)} (h : ∀ x ∈ P, x.2 ≤ 255) : tot P ≤ 255 * P.length := by
  induction P with
  | nil => simp [tot]
  | cons x P ih =>
    have h2 := tot_append [x] P
    rw [List.singleton_append] at h2
    rw [h2, tot_one]
    have := h x (by simp)
    have := ih (fun y hy => h y (by simp [hy]))
    simp only [List.length_cons]; omega
/-- The lines from 'f' to 't'. -/
def seg (P : List (Int × Nat)) (f t : Nat) : List (Int × Nat) := (P.drop f).take (t - f)
theorem seg_nil (P : List (Int × Nat)) (f : Nat) : seg P f f = [] := by simp [seg]
theorem seg_snoc (P : List (Int × Nat)) (f t : Nat) (h : f ≤ t) (ht : t < P.length) : seg P f (t + 1) = seg P f t ++ [P.getD t (0, 0)] := by
  unfold seg
  rw [show t + 1 - f = (t - f) + 1 by omega, take_snoc (P.drop f) (0, 0) (t - f) (by rw [List.length_drop]; omega)]
  congr 2
  simp [List.getElem?_drop, show f + (t - f) = t by omega]
theorem seg_zero (P : List (Int × Nat)) (t : Nat) : seg P 0 t = P.take t := by simp [seg]
theorem seg_end (P : List (Int × Nat)) (f : Nat) : seg P f P.length = P.drop f := by
  unfold seg; exact List.take_of_length_le (by rw [List.length_drop]; exact Nat.le_refl _)
theorem seg_yes (P : List (Int × Nat)) (k : Int) (f t : Nat) (h : f ≤ t) (ht : t < P.length) (hk : ((P.getD t (0, 0)).1 == k) = true) : cntF (seg P f (t + 1)) k = cntF (seg P f t) k + (P.getD t (0, 0)).2 := by
  rw [seg_snoc P f t h ht, cntF_append, cntF_one_yes _ _ hk]
theorem seg_no (P : List (Int × Nat)) (k : Int) (f t : Nat) (h : f ≤ t) (ht : t < P.length) (hk : ((P.getD t (0, 0)).1 == k) = false) : cntF (seg P f (t + 1)) k = cntF (seg P f t) k := by
  rw [seg_snoc P f t h ht, cntF_append, cntF_one_no _ _ hk]; rfl
theorem tot_seg_le (P : List (Int × Nat)) (f t : Nat) : tot (seg P f t) ≤ tot P := by
  unfold seg
  have h1 := tot_append (P.take f) (P.drop f)
  rw [List.take_append_drop] at h1
  have h2 := tot_take_le (P.drop f) (t - f)
  omega
end Go.Proofs.Qxb6627478a
