import Derived.Test.Qxb6627478aBuild
import Derived.Deep.DeepCutAuto
import Derived.Deep.CutBlock
import Derived.Laws.Pointers
import Derived.LaidEqlPtr
namespace Go.Proofs.Qxb6627478a
open Go.ChangeShapes Go.WideShapes Go.ChangeAt Go.RowKit

theorem flat_at (LL : List Ln) : ∀ (j i : Nat), j < LL.length → i < 5 → (LL.flatMap fun x => lineCells x.1 x.2.1)[j * 5 + i]? = (lineCells (LL.getD j ln0).1 (LL.getD j ln0).2.1)[i]? := by
  induction LL with
  | nil => intro j i hj _; simp at hj
  | cons x LL ih =>
    intro j i hj hi
    rw [List.flatMap_cons]
    cases j with
    | zero =>
      rw [Nat.zero_mul, Nat.zero_add, List.getElem?_append_left (by simp [lineCells]; omega)]
      rfl
    | succ j =>
      rw [List.getElem?_append_right (by simp [lineCells]; omega)]
      have e : (j + 1) * 5 + i - (lineCells x.1 x.2.1).length = j * 5 + i := by simp [lineCells]; omega
      rw [e, ih j i (by simpa using hj) hi]
      rfl
theorem Grp.lns {w : World} {B : Nat} {v : Value} {LL : List Ln} (G : Grp w B v LL) : ∃ la lc, v = .slice la LL.length lc ∧ LL.length ≤ lc ∧ Lns w la LL.length LL := by
  obtain ⟨la, lc, rfl, hsh⟩ := own_shape G.lines
  refine ⟨la, lc, rfl, ?_, rfl, ?_, ?_⟩
  · rcases hsh with ⟨_, h, _⟩ | ⟨_, _, _, _, h, _⟩
    · omega
    · exact h
  · rcases hsh with ⟨_, h, _⟩ | ⟨g, rfl, _, hlt, _, _⟩
    · exact .inl h
    · refine .inr ⟨g, 0, rfl, hlt, fun j hj i u hu => ?_⟩
      have hi : i < 5 := by simpa [lineCells] using (List.getElem?_eq_some_iff.1 hu).1
      rw [Nat.zero_add, G.lines.cellAt (j * 5 + i) (by omega), flat_at LL j i hj hi]
      exact hu
  · intro x hx
    have hr := G.rows x hx
    obtain ⟨pa, pc, e, hp⟩ := own_shape hr
    refine ⟨pa, pc, e, rfl, ?_⟩
    rcases hp with ⟨h1, h2, h3⟩ | ⟨g, rfl, _, hlt, _, _⟩
    · exact .inl ⟨h1, h2, h3⟩
    · refine .inr ⟨g, rfl, hlt, fun j u hj => ?_⟩
      rw [e] at hr
      have hjl : j < x.2.2.length := by simpa using (List.getElem?_eq_some_iff.1 hj).1
      rw [hr.cellAt j (by omega)]
      exact hj
theorem build_n (vol : ByteArray) (a : Option Addr) (n c : Nat) (P : List (Int × Nat)) (w : World) (hs : Shp w a n P) (hn : n ≤ 16384) :
    Calls Try.prog 7 #[.string vol, .slice a n c] w fun e w' => ∃ la lc LL, e = .returned (.agg #[.string vol, .slice la n lc]) ∧ shapes LL = P ∧ n ≤ lc ∧ Lns w' la n LL ∧ (LL.flatMap fun x => x.2.2).Nodup ∧ (∀ q ∈ (LL.flatMap fun x => x.2.2), Live48 w' q) ∧ Below w.heap.size w w' := by
  refine (build_any vol a n c P w hs hn).mono ?_
  rintro e w' ⟨v, LL, rfl, hS, G, hb⟩
  obtain ⟨la, lc, rfl, hlc, hL⟩ := G.lns
  have hln : LL.length = n := by rw [← hs.1, ← hS]; simp [shapes]
  rw [hln] at hlc hL ⊢
  exact ⟨la, lc, LL, rfl, hS, hlc, hL, G.nodup, G.fresh, hb⟩
theorem Lns.take {w : World} {a : Option Addr} {n c : Nat} {LL : List Ln} (h : Lns w a n LL) (hc : c ≤ n) : Lns w a c (LL.take c) := by
  refine ⟨by rw [List.length_take, h.1]; omega, ?_, fun x hx => h.2.2 x (List.mem_of_mem_take hx)⟩
  rcases h.2.1 with h0 | ⟨b, o, e, hlt, hcell⟩
  · exact .inl (by omega)
  · refine .inr ⟨b, o, e, hlt, fun j hj => ?_⟩
    have := hcell j (by omega)
    have e2 : (LL.take c).getD j ln0 = LL.getD j ln0 := by simp [List.getD, hj]
    rw [e2]; exact this
theorem Lns.drop {w : World} {a : Option Addr} {n c : Nat} {LL : List Ln} (h : Lns w a n LL) (hc : c ≤ n) : Lns w (a.map (fun x => x.add (c * 5))) (n - c) (LL.drop c) := by
  refine ⟨by rw [List.length_drop, h.1], ?_, fun x hx => h.2.2 x (List.mem_of_mem_drop hx)⟩
  rcases h.2.1 with h0 | ⟨b, o, rfl, hlt, hcell⟩
  · exact .inl (by omega)
  · refine .inr ⟨b, o + c * 5, by simp [Addr.add_lit], hlt, fun j hj => ?_⟩
    have := hcell (c + j) (by omega)
    have e2 : (LL.drop c).getD j ln0 = LL.getD (c + j) ln0 := by simp [List.getD]
    rw [e2, show o + c * 5 + j * 5 = o + (c + j) * 5 by omega]; exact this
theorem Lns.none_left {w : World} {a : Option Addr} {n c : Nat} {LL : List Ln} (h : Lns w a n LL) (hc : c = n) : Lns w a (n - c) (LL.drop c) :=
  ⟨by rw [List.length_drop, h.1], .inl (by omega), fun x hx => h.2.2 x (List.mem_of_mem_drop hx)⟩
theorem count0_any (a : Option Addr) (n c : Nat) (P : List (Int × Nat)) (t : Nat) (k : Int) (w : World) (hs : Shp w a n P) (hn : n ≤ 1048576) (htn : t ≤ n) (hT : tot P ≤ 1048576) :
    Calls Try.prog 9 #[.slice a n c, .int .i64 0, .int .i64 t, .int .i64 k] w fun e w' => e = .returned (.int .i64 ((cntF (P.take t) k : Nat) : Int)) ∧ w' = w := by
  have := count_any a n c P 0 t k w hs hn (Nat.zero_le _) htn hT
  rw [seg_zero] at this
  exact this

theorem neq_ptr_same {P : Program} {tp te : TypeId} {j : TypeInfo} (w : World) (a : Addr) (hp : P.underlying tp = some (.pointer te)) (hte : P.info? te = some j) :
    (binOp .neq tp (.pointer (some a)) (.pointer (some a))).run P w = .ok (.bool false) w := by
  have h : ∀ d : Nat, (Op.equalIn (d + 1) tp (.pointer (some a)) (.pointer (some a))).run P w = .ok true w := fun d => by
    simp [Op.equalIn, run_underlying hp, sizeOf, typeInfo, hte, run_sameAddr_same]
  simp only [binOp]
  simp [Op.equal, Op.maxDepth, h 9999]
theorem Try.info48 : ∃ j, Try.prog.info? 48 = some j ∧ j.size ≠ 0 := by
  have h : (Try.prog.info? 48).map (fun i => i.size != 0) = some true := by kernel_rfl
  obtain ⟨j, h1, h2⟩ := Option.map_eq_some_iff.1 h
  exact ⟨j, h1, by simpa using h2⟩
theorem PSl.at {w : World} {a : Option Addr} {n c : Nat} {ids : List Nat} (h : PSl w a n c ids) (j : Nat) (hj : j < n) : ∃ g, a = some ⟨g, 0, none⟩ ∧ w.cell? ⟨g, j, none⟩ = some (.pointer (some ⟨ids.getD j 0, 0, none⟩)) := by
  rcases h.2 with ⟨_, h0, _⟩ | ⟨g, e, _, hc⟩
  · omega
  · refine ⟨g, e, hc j _ ?_⟩
    have := h.1
    simp [ptr, show j < ids.length by omega]
theorem isNone_of {a : Option Addr} {n : Nat} (h : a = none ↔ n = 0) : a.isNone = ((n : Int) == 0) := by
  cases a with
  | none => have := h.1 rfl; subst this; rfl
  | some x =>
    have : ¬ n = 0 := fun e => by have := h.2 e; cases this
    show false = _
    symm; rw [beq_eq_false_iff_ne]; omega

theorem getD_right (A B : List Nat) (k : Nat) : (A ++ B).getD (A.length + k) 0 = B.getD k 0 := by
  simp only [List.getD]
  rw [List.getElem?_append_right (by omega), show A.length + k - A.length = k by omega]

theorem heap3 (w : World) (X Y Z : Obj) : (((w.alloc X).alloc Y).alloc Z).heap[w.heap.size]? = some X ∧ (((w.alloc X).alloc Y).alloc Z).heap[w.heap.size + 1]? = some Y ∧ (((w.alloc X).alloc Y).alloc Z).heap[w.heap.size + 1 + 1]? = some Z ∧ (((w.alloc X).alloc Y).alloc Z).heap.size = w.heap.size + 1 + 1 + 1 := by
  have e : ((w.alloc X).alloc Y).heap.size = w.heap.size + 1 + 1 := by simp
  refine ⟨?_, ?_, ?_, by simp⟩
  · rw [Below.heap_alloc _ _ _ (by omega)]; exact heap_alloc2_old w X Y
  · rw [Below.heap_alloc _ _ _ (by omega)]; exact heap_alloc2_new w X Y
  · have := heap_alloc_new ((w.alloc X).alloc Y) Z
    rwa [e] at this

set_option maxHeartbeats 2000000 in
set_option maxRecDepth 100000 in
theorem split_main (vol : ByteArray) (a : Option Addr) (n c : Nat) (P : List (Int × Nat)) (cut : Nat) (k : Int) (w : World) (hs : Shp w a n P) (hv : vol.size ≤ 65536) (hn : n ≤ 16384) (hT : tot P ≤ 16384) (hcut0 : cut ≤ n) :
    Calls Try.prog 3 #[.string vol, .slice a n c, .int .i64 cut, .int .i64 k] w fun e w' => e = .returned (.bool true) ∧ Below w.heap.size w w' := by
  have q30 : ∀ (w : World) (a : Option Addr) (n c n' c' : Nat), (binOp .eql 30 (.slice a n c) (.slice none n' c')).run Try.prog w = .ok (.bool a.isNone) w := fun w a n c n' c' => Lib.run_eql_slice_nil w _ _ a n c n' c' Try.underlying30
  go_enter Try.func3, Try.ntmps3
  go_wp2_with fail
  refine (zz5_any vol a n c cut k w (by unfold maxLen; omega) (by unfold maxLen; omega)).mono ?_
  rintro e w' ⟨B, rfl, rfl, hB⟩
  obtain rfl := hB hv hn
  clear hB
  go_wp2_with fail
  refine (total_any a n c P 16384 _ hs (by omega) (by omega)).mono ?_
  rintro e w1 ⟨T, rfl, rfl, _, hT2⟩
  have hTT : T = tot P := hT2 hT
  have hT3 : T ≤ 16384 := by omega
  clear hTT hT2
  go_wp2_with fail
  refine (build_n vol a n c P _ hs hn).mono ?_
  rintro e w2 ⟨la, lc, LL, rfl, hSh, hlc, hL, _, _, hb2⟩
  have HSh : Hid (shapes LL = P) := hSh
  clear hSh
  have hs2 := hs.below hb2
  have hcl : cut ≤ lc := by omega
  go_upto_region 13 with (fail)
  go_cut [11] (fun p wx => p = .pointer (some ⟨w2.heap.size + 1 + 1, 0, none⟩) ∧ ∃ XA XC, Lns w2 XA (n - cut) (LL.drop cut) ∧
      wx = ((w2.alloc (.cells #[.string vol, .slice la n lc] 27)).alloc (.cells #[.string vol, .slice la cut lc] 27)).alloc (.cells #[.string vol, .slice XA (n - cut) XC] 27))
  case first =>
    by_cases hsc2 : lc = cut
    · go_wp2
      go_meet
      case rel => exact ⟨rfl, la, 0, hL.none_left (by omega), by rw [hsc2]⟩
    · go_wp2
      go_meet
      case rel => exact ⟨rfl, _, _, hL.drop hcut0, rfl⟩
  case rest =>
    obtain ⟨rfl, XA, XC, hX, rfl⟩ := hcut
    have hb4 : Below w2.heap.size w2 (((w2.alloc (.cells #[.string vol, .slice la n lc] 27)).alloc (.cells #[.string vol, .slice la cut lc] 27)).alloc (.cells #[.string vol, .slice XA (n - cut) XC] 27)) :=
      (((Below.refl _ _).alloc (Nat.le_refl _) _).alloc (by simp) _).alloc (by simp; omega) _
    have h3 := heap3 w2 (.cells #[.string vol, .slice la n lc] 27) (.cells #[.string vol, .slice la cut lc] 27) (.cells #[.string vol, .slice XA (n - cut) XC] 27)
    have c00 : (((w2.alloc (.cells #[.string vol, .slice la n lc] 27)).alloc (.cells #[.string vol, .slice la cut lc] 27)).alloc (.cells #[.string vol, .slice XA (n - cut) XC] 27)).cell? ⟨w2.heap.size, 0, none⟩ = some (.string vol) := (cell_of_row _ _ 0 _ _ _ h3.1).trans rfl
    have c01 : (((w2.alloc (.cells #[.string vol, .slice la n lc] 27)).alloc (.cells #[.string vol, .slice la cut lc] 27)).alloc (.cells #[.string vol, .slice XA (n - cut) XC] 27)).cell? ⟨w2.heap.size, 1, none⟩ = some (.slice la n lc) := (cell_of_row _ _ 1 _ _ _ h3.1).trans rfl
    have c10 : (((w2.alloc (.cells #[.string vol, .slice la n lc] 27)).alloc (.cells #[.string vol, .slice la cut lc] 27)).alloc (.cells #[.string vol, .slice XA (n - cut) XC] 27)).cell? ⟨w2.heap.size + 1, 0, none⟩ = some (.string vol) := (cell_of_row _ _ 0 _ _ _ h3.2.1).trans rfl
    have c11 : (((w2.alloc (.cells #[.string vol, .slice la n lc] 27)).alloc (.cells #[.string vol, .slice la cut lc] 27)).alloc (.cells #[.string vol, .slice XA (n - cut) XC] 27)).cell? ⟨w2.heap.size + 1, 1, none⟩ = some (.slice la cut lc) := (cell_of_row _ _ 1 _ _ _ h3.2.1).trans rfl
    have c20 : (((w2.alloc (.cells #[.string vol, .slice la n lc] 27)).alloc (.cells #[.string vol, .slice la cut lc] 27)).alloc (.cells #[.string vol, .slice XA (n - cut) XC] 27)).cell? ⟨w2.heap.size + 1 + 1, 0, none⟩ = some (.string vol) := (cell_of_row _ _ 0 _ _ _ h3.2.2.1).trans rfl
    have c21 : (((w2.alloc (.cells #[.string vol, .slice la n lc] 27)).alloc (.cells #[.string vol, .slice la cut lc] 27)).alloc (.cells #[.string vol, .slice XA (n - cut) XC] 27)).cell? ⟨w2.heap.size + 1 + 1, 1, none⟩ = some (.slice XA (n - cut) XC) := (cell_of_row _ _ 1 _ _ _ h3.2.2.1).trans rfl
    have hz4 : w2.heap.size + 1 + 1 < (((w2.alloc (.cells #[.string vol, .slice la n lc] 27)).alloc (.cells #[.string vol, .slice la cut lc] 27)).alloc (.cells #[.string vol, .slice XA (n - cut) XC] 27)).heap.size := by rw [h3.2.2.2]; omega
    clear h3
    have hL4 := hL.below hb4
    have hX4 := hX.below hb4
    have hs4 := hs2.below hb4
    have hbt : Below w1.heap.size w1 _ := hb2.trans (hb4.mono hb2.size)
    generalize ((w2.alloc (.cells #[.string vol, .slice la n lc] 27)).alloc (.cells #[.string vol, .slice la cut lc] 27)).alloc (.cells #[.string vol, .slice XA (n - cut) XC] 27) = w4 at *
    clear hL hX hs2 hs hb2 hb4
    have hTs : tot (shapes LL) ≤ 1048576 := by rw [HSh.out]; omega
    have hTt : tot (shapes (LL.take cut)) ≤ 1048576 := by rw [shapes_take]; exact Nat.le_trans (tot_take_le _ _) hTs
    have hTd : tot (shapes (LL.drop cut)) ≤ 1048576 := by
      have h1 := tot_append ((shapes LL).take cut) ((shapes LL).drop cut)
      rw [List.take_append_drop] at h1
      rw [shapes_drop]; omega
    go_wp2_with fail
    refine (patterns_any vol la n lc LL k w4 hL4 (by omega) hTs).mono ?_
    rintro e w5 ⟨ra, rc, rfl, hR, hrn, hb5⟩
    have d10 := (hb5.cell (p := ⟨w2.heap.size + 1, 0, none⟩) (by show w2.heap.size + 1 < _; omega)).trans c10
    have d11 := (hb5.cell (p := ⟨w2.heap.size + 1, 1, none⟩) (by show w2.heap.size + 1 < _; omega)).trans c11
    have d20 := (hb5.cell (p := ⟨w2.heap.size + 1 + 1, 0, none⟩) (by show w2.heap.size + 1 + 1 < _; omega)).trans c20
    have d21 := (hb5.cell (p := ⟨w2.heap.size + 1 + 1, 1, none⟩) (by show w2.heap.size + 1 + 1 < _; omega)).trans c21
    have hL5 := hL4.below hb5
    have hX5 := hX4.below hb5
    have hs5 := hs4.below hb5
    have hbt5 := hbt.trans (hb5.mono hbt.size)
    have hz5 : w2.heap.size + 1 + 1 < w5.heap.size := by have := hb5.size; omega
    clear c00 c01 c10 c11 c20 c21 hL4 hX4 hs4 hb5
    go_wp2_with fail
    refine (patterns_any vol la cut lc (LL.take cut) k w5 (hL5.take hcut0) (by omega) hTt).mono ?_
    rintro e w6 ⟨aa, ac, rfl, hA, han, hb6⟩
    have d20' := (hb6.cell (p := ⟨w2.heap.size + 1 + 1, 0, none⟩) (by show w2.heap.size + 1 + 1 < _; omega)).trans d20
    have d21' := (hb6.cell (p := ⟨w2.heap.size + 1 + 1, 1, none⟩) (by show w2.heap.size + 1 + 1 < _; omega)).trans d21
    have hX6 := hX5.below hb6
    have hs6 := hs5.below hb6
    have hR6 := hR.below hb6
    have hbt6 := hbt5.trans (hb6.mono hbt5.size)
    clear d10 d11 d20 d21 hL5 hX5 hs5 hR hb6 hbt5
    go_wp2_with fail
    refine (patterns_any vol XA (n - cut) XC (LL.drop cut) k w6 hX6 (by omega) hTd).mono ?_
    rintro e w7 ⟨ba, bc, rfl, hBb, hbn, hb7⟩
    have hs7 := hs6.below hb7
    have hR7 := hR6.below hb7
    have hA7 := hA.below hb7
    have hfin := hbt6.trans (hb7.mono hbt6.size)
    clear d20' d21' hX6 hs6 hR6 hA hb7 hbt6
    go_wp2_with fail
    refine (count0_any a n c P cut k w7 hs7 (by omega) hcut0 (by omega)).mono ?_
    rintro e w8 ⟨rfl, rfl⟩
    go_wp2_with fail
    refine (count_any a n c P cut n k w8 hs7 (by omega) hcut0 (Nat.le_refl _) (by omega)).mono ?_
    rintro e w9 ⟨rfl, rfl⟩
    have hPn : P.length = n := hs7.1
    have ec1 : cntF (P.take cut) k = (pats (LL.take cut) k).length := by rw [pats_len, shapes_take, HSh.out]
    have ec2 : cntF (seg P cut n) k = (pats (LL.drop cut) k).length := by rw [pats_len, shapes_drop, HSh.out, ← hPn, seg_end]
    have ec3 : pats LL k = pats (LL.take cut) k ++ pats (LL.drop cut) k := by rw [← pats_append, List.take_append_drop]
    have hlA : (pats (LL.take cut) k).length ≤ 1048576 := by rw [pats_len]; exact Nat.le_trans (cntF_le _ _) hTt
    have hlB : (pats (LL.drop cut) k).length ≤ 1048576 := by rw [pats_len]; exact Nat.le_trans (cntF_le _ _) hTd
    rw [ec1, ec2]
    rw [ec3] at hR7 hrn ⊢
    clear ec1 ec2 ec3 hTs hTt hTd hPn
    generalize pats (LL.take cut) k = A at *
    generalize pats (LL.drop cut) k = Bp at *
    rw [List.length_append] at hR7 hrn ⊢
    have n1 := isNone_of hrn
    have n2 := isNone_of han
    have n3 := isNone_of hbn
    rw [Int.natCast_add] at n1
    clear hrn han hbn
    obtain ⟨j48, hj48, _⟩ := Try.info48
    have qn : ∀ (w : World) (x : Addr), (binOp .neq 33 (.pointer (some x)) (.pointer (some x))).run Try.prog w = .ok (.bool false) w := fun w x => neq_ptr_same w x Try.underlying33 hj48
    clear hj48
    go_wp2_with fail
    go_loopw [18] (fun i wr => ∃ m kk : Nat, kk ≤ A.length ∧ i = .int .i64 kk ∧ wr = w9.drewN m) (fun i _ => A.length - (intOf i).toNat)
    case atStart => exact ⟨0, 0, Nat.zero_le _, rfl, rfl⟩
    case round =>
      obtain ⟨m, kk, hkk, rfl, rfl⟩ := hrel
      by_cases hlt : kk < A.length
      · obtain ⟨g, rfl, f1⟩ := hR7.at kk (by omega)
        obtain ⟨g', rfl, f2⟩ := hA7.at kk hlt
        have e : (A ++ Bp).getD kk 0 = A.getD kk 0 := by simp [List.getD, List.getElem?_append_left hlt]
        rw [e] at f1
        clear e
        generalize A.getD kk 0 = x at *
        have b1 : (kk : Int) < ((A.length + Bp.length : Nat) : Int) := by omega
        have b2 : (kk : Int) < (A.length : Int) := by omega
        go_wp2_with fail
        go_quiet (fail)
        go_wp2
        go_roundw
        case rel => exact ⟨_, kk + 1, by omega, by go_num, rfl⟩
        case measure => simp [intOf]; omega
      · go_wp2_with fail
        go_loopw [19] (fun i wr => ∃ m k2 : Nat, k2 ≤ Bp.length ∧ i = .int .i64 k2 ∧ wr = w9.drewN m) (fun i _ => Bp.length - (intOf i).toNat)
        case atStart => exact ⟨m, 0, Nat.zero_le _, rfl, rfl⟩
        case round =>
          obtain ⟨m2, k2, hk2, rfl, rfl⟩ := hrel
          by_cases hlt2 : k2 < Bp.length
          · obtain ⟨g, rfl, f1⟩ := hR7.at (A.length + k2) (by omega)
            obtain ⟨g', rfl, f2⟩ := hBb.at k2 hlt2
            have e := getD_right A Bp k2
            rw [e] at f1
            clear e
            generalize Bp.getD k2 0 = x at *
            have b1 : (A.length : Int) + (k2 : Int) < ((A.length + Bp.length : Nat) : Int) := by omega
            have b2 : (k2 : Int) < (Bp.length : Int) := by omega
            go_wp2_with fail
            go_quiet (fail)
            go_wp2
            go_roundw
            case rel => exact ⟨_, k2 + 1, by omega, by go_num, rfl⟩
            case measure => simp [intOf]; omega
          · go_wp2
            go_ret
            exact ⟨rfl, ⟨hfin.os, hfin.tape, hfin.output, hfin.size, hfin.block⟩⟩
end Go.Proofs.Qxb6627478a
