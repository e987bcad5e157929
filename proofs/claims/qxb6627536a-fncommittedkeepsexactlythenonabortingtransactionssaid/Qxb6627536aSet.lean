import Derived.Test.Qxb6627536aRef
namespace Go.Proofs.Qxb6627536a
open Go.ChangeShapes Go.WideShapes Go.ChangeAt Go.RowKit

set_option maxHeartbeats 1000000 in
set_option maxRecDepth 100000 in
theorem ref_sparse (g : Nat) (x : Int) (w : World) (B bound k : Nat) (dv : Value) (dn : Nat) (r : Option Nat) (T : Int → Bool) (hx : Ok64 x) (h : w.heap[g]? = some (.cells #[.int .i64 bound, dv, .map r] 49 (0, 0))) (V : TabV w B bound k dv dn r T)
    (hgB : g < B) (hB : B ≤ w.heap.size) (hk : k ≤ 100000) (c2 : ¬ (0 ≤ x ∧ x < bound)) :
    Calls Try.prog 17 #[.pointer (some ⟨g, 0, none⟩), .int .i64 x] w fun e w' => RefDone g B bound (k + 1) T x w e w' := by
  have hbd := V.bnd
  have hxr : x < 0 ∨ (bound : Int) ≤ x := by omega
  have w2 := wrap_ge hx hbd hxr
  have k0 := cell_of_row w g 0 _ _ _ h
  have k2 := cell_of_row w g 2 _ _ _ h
  simp at k0 k2
  have f2 : w.frozen? ⟨g, 2, none⟩ = false := frozen_of_row w g 2 _ _ h
  have HG : Hid (w.heap[g]? = some (.cells #[.int .i64 bound, dv, .map r] 49 (0, 0))) := h
  clear h
  have hglt : g < w.heap.size := by omega
  rcases Option.eq_none_or_eq_some r with rfl | ⟨mb, rfl⟩
  · have hmm := @run_makeMap Try.prog
    have V1 : TabV (w.setCell ⟨g, 2, none⟩ (.map (some w.heap.size))) B bound k dv dn none T := V.same (fun b hb _ => heap_setCell_other _ _ _ _ (show b ≠ g by omega))
    have V2 := V1.made (by simpa using hB)
    have hsz : (w.setCell ⟨g, 2, none⟩ (.map (some w.heap.size))).heap.size = w.heap.size := by simp
    rw [hsz] at V2
    have HG2 : Hid (((w.setCell ⟨g, 2, none⟩ (.map (some w.heap.size))).alloc (.map #[] 0)).heap[g]? = some (.cells #[.int .i64 bound, dv, .map (some w.heap.size)] 49 (0, 0))) := by
      show _ = _
      rw [Below.heap_alloc _ _ _ (by rw [hsz]; exact hglt), heap_setCell_same _ _ 2 _ _ _ HG.out]
      rfl
    have hbl : Below g w ((w.setCell ⟨g, 2, none⟩ (.map (some w.heap.size))).alloc (.map #[] 0)) := ((Below.refl _ _).setCell (by simp) _).alloc (by rw [hsz]; omega) _
    clear V1 hsz
    have hT0 : T x = false := by
      rcases V.sparse with ⟨_, hf⟩ | ⟨_, _, _, hr, _⟩
      · exact hf x hxr
      · simp at hr
    have e0 : ((w.setCell ⟨g, 2, none⟩ (.map (some w.heap.size))).alloc (.map #[] 0)).heap.size = w.heap.size + 1 := by simp
    have kk := (cell_of_row _ g 2 _ _ _ HG2.out)
    simp at kk
    have HE : Hid (((w.setCell ⟨g, 2, none⟩ (.map (some w.heap.size))).alloc (.map #[] 0)).heap.size = w.heap.size + 1) := e0
    clear e0
    rcases V2.sparse with ⟨hr, _⟩ | ⟨mb, D, n, hr, hmb, hmap, hn, hsp⟩
    · simp at hr
    · simp at hr
      obtain ⟨v, ps, hrun, hv⟩ := hmap.lookup keyed3 Try.underlying47 (zero57 _) rdP_nil (keyOf3 hx)
      rcases hsp x hx hxr with ⟨_, ha⟩ | ⟨ht, _⟩
      · rw [ha] at hv
        have := rdP_inv_nil hv
        subst this
        subst hr
        clear V hv ha
        obtain ⟨w1, hrun1, hown1, hgrow1⟩ := (hmap.alloc (.cells #[.bool false] 4)).update (key := .int .i64 x) (val := .pointer (some ⟨w.heap.size + 1, 0, none⟩)) keyed3 Try.underlying47 (show n < maxLen by unfold maxLen; omega) (keyOf3 hx) (rdP_at (w.heap.size + 1))
        have V3 := V2.put hx hxr (by rw [HE.out]; omega) hmb hmap hn hsp (by rw [HE.out]; exact hown1) hgrow1
        rw [HE.out] at V3
        have hq1 : w1.heap[w.heap.size + 1]? = some (.cells #[.bool false] 4 (0, 0)) := by
          rw [hgrow1.block _ (by simp) (by simp), ← HE.out]
          exact heap_alloc_new _ _
        have HD : Hid (SetDone g B bound (k + 1) T x w (w1.setCell ⟨w.heap.size + 1, 0, none⟩ (.bool true))) := by
          refine ⟨((hbl.alloc (by rw [HE.out]; omega) _).grown hgrow1 (by simp; omega) (fun q hq => by simp at hq; omega)).setCell (by simp; omega) _, _, _, _, ?_, V3⟩
          rw [heap_setCell_other _ _ _ _ (show g ≠ w.heap.size + 1 by omega), hgrow1.block g (by simp; omega) (by simp; omega), Below.heap_alloc _ _ _ (by rw [HE.out]; omega)]
          exact HG2.out
        have hc := (cell_of_row _ _ 0 _ _ _ hq1).trans rfl
        have hf : w1.frozen? ⟨w.heap.size + 1, 0, none⟩ = false := frozen_of_row _ _ _ _ _ hq1
        clear hown1 hgrow1 hq1 V3 V2 hsp hmap
        go_enter Try.func17, Try.ntmps17
        go_wp2
        go_ret
        exact ⟨_, 0, rfl, ⟨_, hc⟩, hf, HD.out⟩
      · rw [hT0] at ht
        simp at ht
  · have kk := k2
    have hmm := @run_makeMap Try.prog
    rcases V.sparse with ⟨hr, _⟩ | ⟨mb', D, n, hr, hmb, hmap, hn, hsp⟩
    · simp at hr
    · simp at hr
      subst hr
      have hmlt := hmap.lt
      have hmg := map_ne_cells hmap HG.out
      obtain ⟨v, ps, hrun, hv⟩ := hmap.lookup keyed3 Try.underlying47 (zero57 _) rdP_nil (keyOf3 hx)
      rcases hsp x hx hxr with ⟨_, ha⟩ | ⟨ht, q, ha, hq, hqB, _⟩
      · rw [ha] at hv
        have := rdP_inv_nil hv
        subst this
        clear hv ha
        obtain ⟨w1, hrun1, hown1, hgrow1⟩ := (hmap.alloc (.cells #[.bool false] 4)).update (key := .int .i64 x) (val := .pointer (some ⟨w.heap.size, 0, none⟩)) keyed3 Try.underlying47 (show n < maxLen by unfold maxLen; omega) (keyOf3 hx) (rdP_at w.heap.size)
        have V3 := V.put hx hxr hB hmb hmap hn hsp hown1 hgrow1
        have hq1 : w1.heap[w.heap.size]? = some (.cells #[.bool false] 4 (0, 0)) := by
          rw [hgrow1.block _ (by simp) (by simp; omega)]
          exact heap_alloc_new _ _
        have HD : Hid (SetDone g B bound (k + 1) T x w (w1.setCell ⟨w.heap.size, 0, none⟩ (.bool true))) := by
          refine ⟨((((Below.refl _ _).alloc (by omega) _).grown hgrow1 (by simp; omega) (fun q hq => by simp at hq; omega)).setCell (by simp; omega) _), _, _, _, ?_, V3⟩
          rw [heap_setCell_other _ _ _ _ (show g ≠ w.heap.size by omega), hgrow1.block g (by simp; omega) (by simp; omega), Below.heap_alloc _ _ _ (by omega)]
          exact HG.out
        have hc := (cell_of_row _ _ 0 _ _ _ hq1).trans rfl
        have hf : w1.frozen? ⟨w.heap.size, 0, none⟩ = false := frozen_of_row _ _ _ _ _ hq1
        clear hown1 hgrow1 hq1 V3 V hsp hmap
        go_enter Try.func17, Try.ntmps17
        go_wp2
        go_ret
        exact ⟨_, 0, rfl, ⟨_, hc⟩, hf, HD.out⟩
      · rw [ha] at hv
        have := rdP_inv_at hv
        subst this
        clear hv ha
        have V3 := (V.again ht hq).mono (Nat.le_succ k)
        have HD : Hid (SetDone g B bound (k + 1) T x w (w.setCell ⟨q, 0, none⟩ (.bool true))) := by
          refine ⟨(Below.refl _ _).setCell (by simp; omega) _, _, _, _, ?_, V3⟩
          rw [heap_setCell_other _ _ _ _ (show g ≠ q by omega)]
          exact HG.out
        have hc := (cell_of_row _ _ 0 _ _ _ hq).trans rfl
        have hf : w.frozen? ⟨q, 0, none⟩ = false := frozen_of_row _ _ _ _ _ hq
        clear hq V3 V hsp hmap
        go_enter Try.func17, Try.ntmps17
        go_wp2
        go_ret
        exact ⟨_, 0, rfl, ⟨_, hc⟩, hf, HD.out⟩

theorem ref_any (g : Nat) (x : Int) (w : World) (B bound k : Nat) (dv : Value) (dn : Nat) (r : Option Nat) (T : Int → Bool) (hx : Ok64 x) (h : w.heap[g]? = some (.cells #[.int .i64 bound, dv, .map r] 49 (0, 0))) (V : TabV w B bound k dv dn r T)
    (hgB : g < B) (hB : B ≤ w.heap.size) (hk : k ≤ 100000) :
    Calls Try.prog 17 #[.pointer (some ⟨g, 0, none⟩), .int .i64 x] w fun e w' => RefDone g B bound (k + 1) T x w e w' := by
  by_cases c2 : 0 ≤ x ∧ x < bound
  · exact ref_dense g x w B bound k dv dn r T hx h V hgB hB c2
  · exact ref_sparse g x w B bound k dv dn r T hx h V hgB hB hk c2

set_option maxHeartbeats 1000000 in
set_option maxRecDepth 100000 in
theorem set_any (g : Nat) (x : Int) (w : World) (B bound k : Nat) (dv : Value) (dn : Nat) (r : Option Nat) (T : Int → Bool) (hx : Ok64 x) (h : w.heap[g]? = some (.cells #[.int .i64 bound, dv, .map r] 49 (0, 0))) (V : TabV w B bound k dv dn r T)
    (hgB : g < B) (hB : B ≤ w.heap.size) (hk : k ≤ 100000) :
    Calls Try.prog 16 #[.pointer (some ⟨g, 0, none⟩), .int .i64 x, .bool true] w fun e w' => (∃ v, e = .returned v) ∧ SetDone g B bound (k + 1) T x w w' := by
  have R := ref_any g x w B bound k dv dn r T hx h V hgB hB hk
  clear h V
  go_enter Try.func16, Try.ntmps16
  go_wp2_with fail
  refine R.mono ?_
  rintro e w1 ⟨q, o, rfl, ⟨v, hc⟩, hf, hD⟩
  have HD : Hid (SetDone g B bound (k + 1) T x w (w1.setCell ⟨q, o, none⟩ (.bool true))) := hD
  clear hD
  go_wp2
  exact bodyPost_end (results_none rfl _ _ _) rfl ⟨⟨_, rfl⟩, HD.out⟩

/-- The bound of the dense part. -/
def bnd (n : Nat) : Nat := 2 * n + 64
set_option maxHeartbeats 1000000 in
set_option maxRecDepth 100000 in
theorem new_any (n : Nat) (w : World) (hn : n ≤ 100000) :
    Calls Try.prog 15 #[.int .i64 n] w fun e w' => e = .returned (.agg #[.int .i64 (bnd n : Int), .slice none 0 0, .map none]) ∧ Below w.heap.size w w' ∧ w'.heap.size = w.heap.size + 1 := by
  go_enter Try.func15, Try.ntmps15
  go_wp2
  refine bodyPost_ret (results_cell_row rfl _ _ w.heap.size 49 #[.int .i64 (bnd n : Int), .slice none 0 0, .map none] (0, 0) _ rfl ?_ Try.underlying49 rfl (by kernel_rfl)) rfl ⟨rfl, (Below.refl _ _).alloc (Nat.le_refl _) _, by simp⟩
  rw [show (bnd n : Int) = 2 * (n : Int) + 64 by unfold bnd; omega]
  exact heap_alloc_new _ _
end Go.Proofs.Qxb6627536a
