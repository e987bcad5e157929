/-! Plain lists: no Go in sight. -/
namespace Go.Proofs.Qxb6627447a
def inB (V : List Int) (x : Int) : Bool := V.contains x
def keep (V L : List Int) : List Int := L.filter (fun x => !inB V x)
def last64 (L : List Int) : List Int := L.drop (L.length - 64)

theorem keep_nil (V : List Int) : keep V [] = [] := rfl
theorem keep_append (V A B : List Int) : keep V (A ++ B) = keep V A ++ keep V B := by simp [keep]
theorem keep_one_in (V : List Int) (x : Int) (h : inB V x = true) : keep V [x] = [] := by simp only [keep, List.filter_cons, h]; rfl
theorem keep_one_out (V : List Int) (x : Int) (h : inB V x = false) : keep V [x] = [x] := by simp only [keep, List.filter_cons, h]; rfl
theorem keep_len (V L : List Int) : (keep V L).length ≤ L.length := List.length_filter_le _ _
theorem keep_mem (V L : List Int) (x : Int) (h : x ∈ keep V L) : inB V x = false := by
  have := (List.mem_filter.1 h).2
  simpa using this
theorem keep_keep (V L : List Int) (h : ∀ x ∈ L, inB V x = false) : keep V L = L := by
  unfold keep
  exact List.filter_eq_self.2 (fun x hx => by rw [h x hx]; rfl)
theorem take_snoc (L : List Int) (k : Nat) (h : k < L.length) : L.take (k + 1) = L.take k ++ [L.getD k 0] := by
  rw [List.take_succ_eq_append_getElem h]; simp [h]
theorem drop_cons (L : List Int) (k : Nat) (h : k < L.length) : L.drop k = L.getD k 0 :: L.drop (k + 1) := by
  rw [List.drop_eq_getElem_cons h]; simp [h]
theorem keep_take_in (V L : List Int) (k : Nat) (h : k < L.length) (hx : inB V (L.getD k 0) = true) : keep V (L.take (k + 1)) = keep V (L.take k) := by
  rw [take_snoc L k h, keep_append, keep_one_in V _ hx, List.append_nil]
theorem keep_take_out (V L : List Int) (k : Nat) (h : k < L.length) (hx : inB V (L.getD k 0) = false) : keep V (L.take (k + 1)) = keep V (L.take k) ++ [L.getD k 0] := by
  rw [take_snoc L k h, keep_append, keep_one_out V _ hx]
theorem keep_drop_in (V L : List Int) (k : Nat) (h : k < L.length) (hx : inB V (L.getD k 0) = true) : keep V (L.drop k) = keep V (L.drop (k + 1)) := by
  rw [drop_cons L k h, show L.getD k 0 :: L.drop (k + 1) = [L.getD k 0] ++ L.drop (k + 1) from rfl, keep_append, keep_one_in V _ hx, List.nil_append]
theorem keep_drop_out (V L : List Int) (k : Nat) (h : k < L.length) (hx : inB V (L.getD k 0) = false) : keep V (L.drop k) = L.getD k 0 :: keep V (L.drop (k + 1)) := by
  rw [drop_cons L k h, show L.getD k 0 :: L.drop (k + 1) = [L.getD k 0] ++ L.drop (k + 1) from rfl, keep_append, keep_one_out V _ hx]; rfl

theorem last64_short (L : List Int) (h : L.length ≤ 64) : last64 L = L := by unfold last64; rw [show L.length - 64 = 0 by omega]; rfl
theorem last64_len (L : List Int) : (last64 L).length = min 64 L.length := by unfold last64; rw [List.length_drop]; omega
theorem last64_tail (A M : List Int) (h : M.length = 64) : last64 (A ++ M) = M := by
  unfold last64
  rw [List.length_append, show A.length + M.length - 64 = A.length by omega, List.drop_left]
theorem last64_last64 (X Y : List Int) : last64 (last64 X ++ Y) = last64 (X ++ Y) := by
  unfold last64
  by_cases h : X.length ≤ 64
  · rw [show X.length - 64 = 0 by omega]; rfl
  · have e : X ++ Y = X.take (X.length - 64) ++ (X.drop (X.length - 64) ++ Y) := by rw [← List.append_assoc, List.take_append_drop]
    have l1 : (X.take (X.length - 64)).length = X.length - 64 := by rw [List.length_take]; omega
    have l2 : (X.drop (X.length - 64)).length = 64 := by rw [List.length_drop]; omega
    rw [List.length_append, List.length_append, l2]
    conv => rhs; rw [e]
    rw [show X.length + Y.length - 64 = (X.take (X.length - 64)).length + (64 + Y.length - 64) by omega, ← List.drop_drop, List.drop_left]
theorem last64_mem (L : List Int) (x : Int) (h : x ∈ last64 L) : x ∈ L := List.mem_of_mem_drop h

/-- Behind loop 1: what the window holds. -/
theorem scan_one (V S : List Int) (i : Nat) (M : List Int) (hM : M = keep V (S.drop i)) (hl : M.length ≤ 64) (he : i = 0 ∨ M.length = 64) : last64 (keep V S) = M := by
  rcases he with h | h
  · subst h; rw [List.drop_zero] at hM; subst hM; exact last64_short _ hl
  · have e : keep V S = keep V (S.take i) ++ M := by rw [hM, ← keep_append, List.take_append_drop]
    rw [e]; exact last64_tail _ _ h
/-- Behind loop 2. -/
theorem scan_two (V F S : List Int) (i : Nat) (M1 M : List Int) (h1 : last64 (keep V S) = M1) (hM : M = keep V (F.drop i) ++ M1) (hl : M.length ≤ 64) (he : i = 0 ∨ M.length = 64) : last64 (keep V F ++ keep V S) = M := by
  have hl1 := last64_len (keep V S)
  rw [h1] at hl1
  by_cases hs : (keep V S).length ≤ 64
  · have h2 : M1 = keep V S := by rw [← h1]; exact last64_short _ hs
    rcases he with h | h
    · subst h; rw [List.drop_zero, h2] at hM; rw [← hM]; exact last64_short _ hl
    · have e : keep V F ++ keep V S = keep V (F.take i) ++ M := by rw [hM, h2, ← List.append_assoc, ← keep_append V (F.take i), List.take_append_drop]
      rw [e]; exact last64_tail _ _ h
  · have hM1 : M1.length = 64 := by omega
    have hk : keep V (F.drop i) = [] := List.eq_nil_of_length_eq_zero (by rw [hM, List.length_append] at hl; omega)
    rw [hk, List.nil_append] at hM
    subst hM
    have e : keep V S = (keep V S).take ((keep V S).length - 64) ++ M := by rw [← h1]; unfold last64; rw [List.take_append_drop]
    rw [e, ← List.append_assoc]; exact last64_tail _ _ hM1
/-- One step and two steps come to the same. -/
theorem folds (V F S : List Int) (c : Nat) : last64 (keep V (last64 (keep V F ++ keep V (S.take c))) ++ keep V (S.drop c)) = last64 (keep V F ++ keep V S) := by
  rw [keep_keep V _ (fun x hx => by
    have := last64_mem _ _ hx
    rw [← keep_append] at this
    exact keep_mem _ _ _ this), last64_last64, List.append_assoc, ← keep_append V (S.take c), List.take_append_drop]
theorem contains_false_take (V : List Int) (k : Nat) (x y : Int) (hk : V[k]? = some y) (h : inB (V.take k) x = false) (hxy : (y == x) = false) : inB (V.take (k + 1)) x = false := by
  have hl : k < V.length := (List.getElem?_eq_some_iff.1 hk).1
  rw [List.take_succ_eq_append_getElem hl]
  have hy : V[k] = y := (List.getElem?_eq_some_iff.1 hk).2
  simp only [inB, List.contains_eq_mem, decide_eq_false_iff_not, List.mem_append, not_or, List.mem_singleton, hy] at *
  exact ⟨h, fun e => by simp [e] at hxy⟩
theorem contains_true_at (V : List Int) (k : Nat) (x y : Int) (hk : V[k]? = some y) (hxy : (y == x) = true) : inB V x = true := by
  have : y = x := by simpa using hxy
  subst this
  simpa [inB] using List.mem_of_getElem? hk
end Go.Proofs.Qxb6627447a
