import Derived.Test.Qxb6627536aSet
import Derived.Deep.WholeRow
import Derived.Laws.ResultCell
namespace Go.Proofs.Qxb6627536a
open Go.ChangeShapes Go.WideShapes Go.ChangeAt Go.RowKit

/-- Some operation of L is an abort. -/
def anyAb (L : List Rec) : Bool := L.any (fun o => o.act == 4)
theorem anyAb_no (L : List Rec) (j : Nat) (h : j < L.length) (hn : ((L.getD j r0).act == 4) = false) : anyAb (L.take (j + 1)) = anyAb (L.take j) := by
  rw [take_snoc L r0 j h]
  unfold anyAb
  rw [List.any_append, List.any_cons, hn]
  simp
theorem anyAb_yes (L : List Rec) (j : Nat) (h : j < L.length) (hn : ((L.getD j r0).act == 4) = true) : anyAb (L.take (j + 1)) = true := by
  rw [take_snoc L r0 j h]
  unfold anyAb
  rw [List.any_append, List.any_cons, hn]
  simp
theorem aborts_no (L : List Rec) (j : Nat) (h : j < L.length) (hn : ((L.getD j r0).act == 4) = false) (x : Int) : aborts (L.take (j + 1)) x = aborts (L.take j) x := by
  rw [take_snoc L r0 j h]
  unfold aborts
  rw [List.any_append, List.any_cons, hn]
  simp
theorem aborts_upd (L : List Rec) (j : Nat) (h : j < L.length) (hn : ((L.getD j r0).act == 4) = true) (x : Int) : aborts (L.take (j + 1)) x = upd (aborts (L.take j)) (L.getD j r0).txn x := by
  rw [take_snoc L r0 j h]
  unfold aborts upd
  rw [List.any_append, List.any_cons, hn]
  simp only [List.any_nil, Bool.or_false, Bool.true_and]
  congr 1
  exact Bool.beq_comm
def OkOps (L : List Rec) : Prop := ∀ o ∈ L, Ok64 o.txn
theorem OkOps.at {L : List Rec} (h : OkOps L) (j : Nat) (hj : j < L.length) : Ok64 (L.getD j r0).txn := by
  refine h _ ?_
  simp [List.getD, hj]
theorem store_new (w : World) (x : Rec) : (storeCells ⟨w.heap.size, 0, none⟩ (opCells x)).run Try.prog (w.alloc (.cells #[.int .u8 0, .bool false, .int .u8 0, .int .u8 0, .int .u8 0, .int .i64 0, .int .i64 0, .int .i64 0] 42)) = .ok () (w.alloc (.cells (opCells x).toArray 42)) := by
  have := run_storeCells_new (P := Try.prog) w 42 #[.int .u8 0, .bool false, .int .u8 0, .int .u8 0, .int .u8 0, .int .i64 0, .int .i64 0, .int .i64 0] (opCells x).toArray (size42a x) rfl (all_oneCell_toArray (oneCells x))
  simpa using this

/-- The state of the loop that reads the aborts. -/
structure AbIn (W0 wr : World) (g bound j : Nat) (L : List Rec) : Prop where
  tab : ∃ dv dn r, wr.heap[g]? = some (.cells #[.int .i64 bound, dv, .map r] 49 (0, 0)) ∧ TabV wr (g + 1) bound j dv dn r (aborts (L.take j))
  bel : Below g W0 wr
  sz : g + 1 ≤ wr.heap.size

set_option maxHeartbeats 1000000 in
set_option maxRecDepth 100000 in
theorem aborted_any (p : Nat) (a : Option Addr) (n c : Nat) (iv nv pv : Value) (L : List Rec) (w : World) (hp : w.heap[p]? = some (.cells #[.slice a n c, iv, nv, pv] 33 (0, 0))) (hs : OpsAt w a n L) (hok : OkOps L) (hn : n ≤ 20000) :
    Calls Try.prog 13 #[.pointer (some ⟨p, 0, none⟩)] w fun e w' => ∃ B dv dn r, e = .returned (.tuple #[.agg #[.int .i64 (bnd n : Int), dv, .map r], .bool (anyAb L)]) ∧ TabV w' B (bnd n) n dv dn r (aborts L) ∧ Below w.heap.size w w' := by
  have hl := hs.1
  have hplt : p < w.heap.size := (Array.getElem?_eq_some_iff.1 hp).1
  have hb0 : Below w.heap.size w (w.alloc (.cells #[.int .i64 0, .slice none 0 0, .map none] 49)) := (Below.refl _ _).alloc (Nat.le_refl _) _
  have hr0 : (w.alloc (.cells #[.int .i64 0, .slice none 0 0, .map none] 49)).heap[w.heap.size]? = some (.cells #[.int .i64 0, .slice none 0 0, .map none] 49 (0, 0)) := heap_alloc_new _ _
  have hsz0 : (w.alloc (.cells #[.int .i64 0, .slice none 0 0, .map none] 49)).heap.size = w.heap.size + 1 := by simp
  have kp : (w.alloc (.cells #[.int .i64 0, .slice none 0 0, .map none] 49)).cell? ⟨p, 0, none⟩ = some (.slice a n c) := by
    rw [cell_of_row _ p 0 _ _ _ ((hb0.block p hplt).trans hp)]; rfl
  go_enter Try.func13, Try.ntmps13
  go_wp2_with fail
  refine (new_any n _ (by omega)).mono ?_
  rintro e w1 ⟨rfl, hb1, hs1⟩
  rw [hsz0] at hs1
  have hb1' : Below w.heap.size w w1 := hb0.trans (hb1.mono (by rw [hsz0]; omega))
  have HR : Hid (w1.heap[w.heap.size]? = some (.cells #[.int .i64 0, .slice none 0 0, .map none] 49 (0, 0))) := (hb1.block w.heap.size (by rw [hsz0]; omega)).trans hr0
  have HP : Hid (w1.heap[p]? = some (.cells #[.slice a n c, iv, nv, pv] 33 (0, 0))) := (hb1'.block p hplt).trans hp
  have HS : Hid (w1.heap.size = w.heap.size + 2) := hs1
  clear hb1 hs1 hsz0 hb0 hr0 kp
  have kp : ∀ o, (w1.alloc o).cell? ⟨p, 0, none⟩ = some (.slice a n c) := fun o => by
    rw [cell_of_row _ p 0 _ _ _ ((Below.heap_alloc _ _ _ (by rw [HS.out]; omega)).trans HP.out)]; rfl
  have hs1 : OpsAt w1 a n L := hs.below hb1'
  have hbnd : bnd n ≤ 1000000 := by unfold bnd; omega
  have V0 : TabV (w1.alloc (.cells #[.int .i64 (bnd n), .slice none 0 0, .map none] 49)) (w1.heap.size + 1) (bnd n) 0 (.slice none 0 0) 0 none (aborts (L.take 0)) := by
    refine ⟨⟨[], World.ownsRow_nil _ _ _ _, by intro m hm; omega⟩, Nat.zero_le _, hbnd, fun _ _ _ => rfl, .inl ⟨rfl, fun _ _ => rfl⟩⟩
  have I0 : AbIn w1 (w1.alloc (.cells #[.int .i64 (bnd n), .slice none 0 0, .map none] 49)) w1.heap.size (bnd n) 0 L :=
    ⟨⟨_, _, _, heap_alloc_new _ _, V0⟩, (Below.refl _ _).alloc (Nat.le_refl _) _, by simp⟩
  clear V0
  go_wp2_with fail
  go_loopw [5, 19] (fun b i wr => ∃ j : Nat, j ≤ n ∧ i = .int .i64 j ∧ b = .bool (anyAb (L.take j)) ∧ AbIn w1 wr w1.heap.size (bnd n) j L) (fun _ i _ => n - (intOf i).toNat)
  case atStart => exact ⟨0, Nat.zero_le _, rfl, rfl, I0⟩
  case round =>
    obtain ⟨j, hj, rfl, rfl, I⟩ := hrel
    clear I0 kp
    by_cases hlt : j < n
    · rcases hs1.2 with h0 | ⟨b, o, rfl, hbw, hc⟩
      · omega
      · have hcj : OpAt wr b (o + j * 8) (L.getD j r0) := fun i u hu => (I.bel.cell hbw).trans (hc j hlt i u hu)
        clear hc
        have hst := store_new wr (L.getD j r0)
        have hokj := hok.at j (by omega)
        have HN := fun h => anyAb_no L j (by omega) h
        have HY := fun h => anyAb_yes L j (by omega) h
        have HN2 := fun h => aborts_no L j (by omega) h
        have HY2 := fun h => aborts_upd L j (by omega) h
        have HC : Hid ((wr.alloc (.cells (opCells (L.getD j r0)).toArray 42)).heap[wr.heap.size]? = some (.cells (opCells (L.getD j r0)).toArray 42 (0, 0))) := heap_alloc_new _ _
        have c0 : (wr.alloc (.cells (opCells (L.getD j r0)).toArray 42)).cell? ⟨wr.heap.size, 0, none⟩ = some (.int .u8 (L.getD j r0).act) := (cell_of_row _ _ 0 _ _ _ HC.out).trans rfl
        have c5 : (wr.alloc (.cells (opCells (L.getD j r0)).toArray 42)).cell? ⟨wr.heap.size, 5, none⟩ = some (.int .i64 (L.getD j r0).txn) := (cell_of_row _ _ 5 _ _ _ HC.out).trans rfl
        generalize L.getD j r0 = y at *
        have bj : (j : Int) < (n : Int) := by omega
        have hba : Below wr.heap.size wr (wr.alloc (.cells (opCells y).toArray 42)) := (Below.refl _ _).alloc (Nat.le_refl _) _
        have I1 : AbIn w1 (wr.alloc (.cells (opCells y).toArray 42)) w1.heap.size (bnd n) j L := by
          obtain ⟨dv, dn, r, h1, h2⟩ := I.tab
          have := I.sz
          exact ⟨⟨dv, dn, r, (hba.block _ (by omega)).trans h1, h2.below hba⟩, I.bel.trans (hba.mono (by omega)), by simp; omega⟩
        clear hba I
        cases hya : (y.act == 4)
        · have ha : y.act ≠ 4 := by simpa using hya
          have HI : Hid (AbIn w1 (wr.alloc (.cells (opCells y).toArray 42)) w1.heap.size (bnd n) (j + 1) L) := by
            obtain ⟨dv, dn, r, h1, h2⟩ := I1.tab
            exact ⟨⟨dv, dn, r, h1, (h2.mono (Nat.le_succ j)).ext (HN2 hya)⟩, I1.bel, I1.sz⟩
          have HB : Hid (anyAb (L.take (j + 1)) = anyAb (L.take j)) := HN hya
          clear HN HY HN2 HY2 I1
          go_wp2_with (first
            | (refine wpList_load_mid rfl 42 (.tmp 21) rfl b (o + j * 8) rfl (opCells y) _ hcj Try.underlying42 rfl (size42 y) ?_))
          go_roundw
          case rel => exact ⟨j + 1, by omega, by go_num, by rw [HB.out], HI.out⟩
          case measure => simp [intOf]; omega
        · have ha : y.act = 4 := by simpa using hya
          obtain ⟨dv, dn, r, h1, h2⟩ := I1.tab
          have S := set_any w1.heap.size y.txn _ (w1.heap.size + 1) (bnd n) j dv dn r _ hokj h1 h2 (Nat.lt_succ_self _) I1.sz (by omega)
          have HB : Hid (anyAb (L.take (j + 1)) = true) := HY hya
          clear h1 h2
          go_wp2_with (first
            | (refine wpList_load_mid rfl 42 (.tmp 21) rfl b (o + j * 8) rfl (opCells y) _ hcj Try.underlying42 rfl (size42 y) ?_))
          refine S.mono ?_
          rintro e w2 ⟨⟨v, rfl⟩, hbel2, dv', dn', r', h1, h2⟩
          have hsz2 : w1.heap.size + 1 ≤ w2.heap.size := (Array.getElem?_eq_some_iff.1 h1).1
          have HI : Hid (AbIn w1 w2 w1.heap.size (bnd n) (j + 1) L) := ⟨⟨dv', dn', r', h1, h2.ext (HY2 hya)⟩, I1.bel.trans hbel2, hsz2⟩
          clear HN HY HN2 HY2 I1 h1 h2 hbel2 hsz2 S
          go_wp2
          go_roundw
          case rel => exact ⟨j + 1, by omega, by go_num, by rw [HB.out], HI.out⟩
          case measure => simp [intOf]; omega
    · have hL : L.take j = L := List.take_of_length_le (by omega)
      obtain ⟨dv, dn, r, h1, h2⟩ := I.tab
      have hr1 : wr.heap[w.heap.size]? = some (.cells #[.int .i64 0, .slice none 0 0, .map none] 49 (0, 0)) := (I.bel.block _ (by rw [HS.out]; omega)).trans HR.out
      obtain ⟨Dl, hown, _⟩ := h2.dense
      obtain ⟨ao, cap, rfl, _⟩ := own_shape hown
      have HB : Hid (anyAb (L.take j) = anyAb L) := congrArg anyAb hL
      have HV : Hid (TabV wr (w1.heap.size + 1) (bnd n) n (.slice ao dn cap) dn r (aborts L)) := by
        rw [hL] at h2
        exact h2.mono hj
      have k0 : wr.cell? ⟨w1.heap.size, 0, none⟩ = some (.int .i64 (bnd n)) := (cell_of_row _ _ 0 _ _ _ h1).trans rfl
      have k1 : wr.cell? ⟨w1.heap.size, 1, none⟩ = some (.slice ao dn cap) := (cell_of_row _ _ 1 _ _ _ h1).trans rfl
      have k2 : wr.cell? ⟨w1.heap.size, 2, none⟩ = some (.map r) := (cell_of_row _ _ 2 _ _ _ h1).trans rfl
      have r0' : wr.cell? ⟨w.heap.size, 0, none⟩ = some (.int .i64 0) := (cell_of_row _ _ 0 _ _ _ hr1).trans rfl
      have r1' : wr.cell? ⟨w.heap.size, 1, none⟩ = some (.slice none 0 0) := (cell_of_row _ _ 1 _ _ _ hr1).trans rfl
      have r2' : wr.cell? ⟨w.heap.size, 2, none⟩ = some (.map none) := (cell_of_row _ _ 2 _ _ _ hr1).trans rfl
      have f0 : wr.frozen? ⟨w.heap.size, 0, none⟩ = false := frozen_of_row _ _ _ _ _ hr1
      have f1 : wr.frozen? ⟨w.heap.size, 1, none⟩ = false := frozen_of_row _ _ _ _ _ hr1
      have f2 : wr.frozen? ⟨w.heap.size, 2, none⟩ = false := frozen_of_row _ _ _ _ _ hr1
      have HR1 : Hid (wr.heap[w.heap.size]? = some (.cells #[.int .i64 0, .slice none 0 0, .map none] 49 (0, 0))) := hr1
      have hbel : Below w.heap.size w wr := hb1'.trans (I.bel.mono (by rw [HS.out]; omega))
      clear hr1 h1 h2 hown
      go_wp2
      have hblk : (((wr.setCell ⟨w.heap.size, 0, none⟩ (.int .i64 (bnd n))).setCell ⟨w.heap.size, 1, none⟩ (.slice ao dn cap)).setCell ⟨w.heap.size, 2, none⟩ (.map r)).heap[w.heap.size]? = some (.cells #[.int .i64 (bnd n), .slice ao dn cap, .map r] 49 (0, 0)) := by
        rw [heap_setCell_same _ _ 2 #[.int .i64 (bnd n), .slice ao dn cap, .map none] 49 _ (by rw [heap_setCell_same _ _ 1 #[.int .i64 (bnd n), .slice none 0 0, .map none] 49 _ (by rw [heap_setCell_same _ _ 0 _ _ _ HR1.out]; rfl)]; rfl)]; rfl
      have hload := run_loadVar_row (P := Try.prog) _ w.heap.size 49 49 _ (0, 0) _ hblk Try.underlying49 rfl (by kernel_rfl)
      refine bodyPost_ret (v := .tuple #[.agg #[.int .i64 (bnd n), .slice ao dn cap, .map r], .bool (anyAb (L.take j))]) ?_ rfl ⟨w1.heap.size + 1, _, dn, r, by rw [HB.out], ?_, ?_⟩
      · rw [results_cell_tmp rfl]
        simp [asAddr, Result.andThen, hload]
      · exact HV.out.same (fun b hb _ => by
          have := HS.out
          rw [heap_setCell_other _ _ _ _ (show b ≠ w.heap.size by omega), heap_setCell_other _ _ _ _ (show b ≠ w.heap.size by omega), heap_setCell_other _ _ _ _ (show b ≠ w.heap.size by omega)])
      · exact ((hbel.setCell (Nat.le_refl _) _).setCell (Nat.le_refl _) _).setCell (Nat.le_refl _) _
end Go.Proofs.Qxb6627536a
