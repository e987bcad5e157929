import Derived.Test.Qxb6627536aBase
import Derived.OwnWalk
import Derived.Laws.OwnMore
import Derived.Laws.Cover3
import Derived.Lib.SliceRun
namespace Go.Proofs.Qxb6627536a
open Go.ChangeShapes Go.WideShapes Go.ChangeAt Go.RowKit

theorem Try.info42 : (Try.prog.info? 42).map (fun i => (i.zero, i.size, i.bytes)) = some (some (.agg #[.int .u8 0, .bool false, .int .u8 0, .int .u8 0, .int .u8 0, .int .i64 0, .int .i64 0, .int .i64 0]), 8, 32) := by kernel_rfl
theorem Try.info9 : (Try.prog.info? 9).map (fun i => (i.zero, i.size, i.bytes)) = some (some (.string ⟨#[]⟩), 1, 16) := by kernel_rfl
theorem info_parts {P : Program} {t : TypeId} {z : Value} {s b : Nat} (h : (P.info? t).map (fun i => (i.zero, i.size, i.bytes)) = some (some z, s, b)) : ∃ i, P.info? t = some i ∧ i.zero = some z ∧ i.size = s ∧ i.bytes = b := by
  obtain ⟨i, hi, hzz⟩ := Option.map_eq_some_iff.1 h
  simp only [Prod.mk.injEq] at hzz
  exact ⟨i, hi, hzz.1, hzz.2.1, hzz.2.2⟩
theorem size37 (o : Rec) : (Try.prog.info? 37).map (·.size) = some (opCells o).length := by
  have : (Try.prog.info? 37).map (·.size) = some 8 := by kernel_rfl
  rw [this]; rfl
theorem size42 (o : Rec) : (Try.prog.info? 42).map (·.size) = some (opCells o).length := by
  have : (Try.prog.info? 42).map (·.size) = some 8 := by kernel_rfl
  rw [this]; rfl
theorem size42a (o : Rec) : (Try.prog.info? 42).map (·.size) = some (opCells o).toArray.size := by
  have : (Try.prog.info? 42).map (·.size) = some 8 := by kernel_rfl
  rw [this]; rfl
theorem len8 (o : Rec) : (opCells o).length = 8 := rfl

@[go_sem] theorem eql22 (w : World) (a : Option Addr) (n c : Nat) : (binOp .eql 22 (.slice a n c) (.slice none 0 0)).run Try.prog w = .ok (.bool a.isNone) w := Lib.run_eql_slice_nil w 22 37 a n c 0 0 Try.underlying22
@[go_sem] theorem eql23 (w : World) (a : Option Addr) (n c : Nat) : (binOp .eql 23 (.slice a n c) (.slice none 0 0)).run Try.prog w = .ok (.bool a.isNone) w := Lib.run_eql_slice_nil w 23 9 a n c 0 0 Try.underlying23

/-- The first j operations of L lie in the row of block g; the row has room for n. -/
structure Fill (wr : World) (g n j : Nat) (L : List Rec) : Prop where
  blk : ∃ cs, wr.heap[g]? = some (.cells cs 42 (0, 0)) ∧ cs.size = n * 8
  cells : ∀ q, q < j → OpAt wr g (q * 8) (L.getD q r0)
theorem Fill.lt {wr : World} {g n j : Nat} {L : List Rec} (F : Fill wr g n j L) : g < wr.heap.size := by
  obtain ⟨cs, h, _⟩ := F.blk
  exact (Array.getElem?_eq_some_iff.1 h).1
theorem Fill.below {wr w' : World} {g n j : Nat} {L : List Rec} (F : Fill wr g n j L) (hb : Below wr.heap.size wr w') : Fill w' g n j L := by
  obtain ⟨cs, h, h2⟩ := F.blk
  exact ⟨⟨cs, (hb.block g F.lt).trans h, h2⟩, fun q hq i u hu => (hb.cell F.lt).trans (F.cells q hq i u hu)⟩
theorem Fill.there {wr : World} {g n j : Nat} {L : List Rec} (F : Fill wr g n j L) (q : Nat) (hq : q < n) (x : Rec) : wr.there g (q * 8) (opCells x).toArray.size := by
  obtain ⟨cs, h, h2⟩ := F.blk
  intro i hi
  have hi : i < 8 := hi
  refine ⟨?_, frozen_of_row _ _ _ _ _ h⟩
  rw [cell_of_row _ _ _ _ _ _ h]
  simp
  omega
theorem heap_setCells (b : Nat) : ∀ (vs : List Value) (o : Nat) (w : World) (cs : Array Value) (t : TypeId), w.heap[b]? = some (.cells cs t (0, 0)) → ∃ cs', (w.setCells b o vs).heap[b]? = some (.cells cs' t (0, 0)) ∧ cs'.size = cs.size
  | [], _, _, cs, _, h => ⟨cs, h, rfl⟩
  | v :: r, o, w, cs, t, h => by
    rw [World.setCells]
    obtain ⟨cs', h1, h2⟩ := heap_setCells b r (o + 1) (w.setCell ⟨b, o, none⟩ v) _ t (heap_setCell_same w b o cs t v h)
    exact ⟨cs', h1, by simpa using h2⟩
theorem below_setCells {K : Nat} {w : World} (b : Nat) (hK : K ≤ b) : ∀ (vs : List Value) (o : Nat) (w' : World), Below K w w' → Below K w (w'.setCells b o vs)
  | [], _, _, h => h
  | v :: r, o, w', h => by
    rw [World.setCells]
    exact below_setCells b hK r (o + 1) _ (h.setCell hK v)
theorem run_stores {P : Program} {w : World} {b o : Nat} {x : Rec} (ht : w.there b o (opCells x).toArray.size) : (storeCells ⟨b, o, none⟩ (opCells x)).run P w = .ok () (w.setCells b o (opCells x)) := by
  have := run_storeCells_cells (P := P) b o (opCells x) 0 w (fun j hj => (ht j hj).1) (fun j hj => (ht j hj).2) (oneCells x)
  simpa using this
theorem Fill.step {wr : World} {g n j : Nat} {L : List Rec} (F : Fill wr g n j L) (hj : j < n) : Fill (wr.setCells g (j * 8) (opCells (L.getD j r0))) g n (j + 1) L := by
  have ht := F.there j hj (L.getD j r0)
  obtain ⟨cs, h, h2⟩ := F.blk
  obtain ⟨cs', h3, h4⟩ := heap_setCells g (opCells (L.getD j r0)) (j * 8) wr cs 42 h
  refine ⟨⟨cs', h3, by omega⟩, fun q hq => ?_⟩
  by_cases e : q = j
  · subst e
    exact World.rangeAt_setCells_same _ _ _ _ ht
  · exact World.rangeAt_setCells_apart (F.cells q (by omega)) _ _ _ (.inr (.inl (by rw [len8]; omega)))
theorem OpsAt.nil {w : World} {n : Nat} {L : List Rec} (h : OpsAt w none n L) : n = 0 := by
  rcases h.2 with h | ⟨_, _, e, _⟩
  · exact h
  · simp at e
theorem StrsAt.nil {w : World} {n : Nat} {L : List ByteArray} (h : StrsAt w none n L) : n = 0 := by
  rcases h.2.2 with h | ⟨_, _, e, _⟩
  · exact h
  · simp at e

set_option maxHeartbeats 1000000 in
set_option maxRecDepth 100000 in
theorem toOps_any (oa : Option Addr) (on oc : Nat) (L : List Rec) (w : World) (hs : OpsAt w oa on L) (hn : on ≤ 16384) :
    Calls Try.prog 7 #[.slice oa on oc] w fun e w' => ∃ ra rc, e = .returned (.slice ra on rc) ∧ OpsAt w' ra on L ∧ Below w.heap.size w w' := by
  obtain ⟨i2, hi2, hz20, hz21, hz22⟩ := info_parts Try.info42
  have hl := hs.1
  cases oa with
  | none =>
    have h0 := hs.nil
    subst h0
    go_enter Try.func7, Try.ntmps7
    go_wp2
    go_ret
    exact ⟨none, 0, rfl, ⟨hl, .inl rfl⟩, Below.refl _ _⟩
  | some ad =>
    go_enter Try.func7, Try.ntmps7
    go_wp2_with (at_make; refine wpList_make_full _ rfl _ _ 26 rfl w.heap.size 42 i2 _ 8 Try.underlying26 hi2 hz20 hz21 _ _ _ _ on rfl rfl rfl rfl (by rw [hz22]; omega) (by unfold maxLen; omega) (Nat.le_refl _) ?_)
    intro w0 hown hgrow
    have F0 : Fill w0 w.heap.size on 0 L := by
      rcases hown.2 with ⟨h, _⟩ | ⟨g, cap, cur, e, _, hh, _, _, hsz, _⟩
      · simp at h
      · simp at e
        obtain ⟨rfl, rfl⟩ := e
        exact ⟨⟨cur, hh, hsz⟩, by intro q hq; omega⟩
    have hb0 : Below w.heap.size w w0 := (Below.refl _ _).grown hgrow (Nat.le_refl _) (by simp)
    clear hown hgrow
    go_wp2_with fail
    go_loopw [4] (fun i wr => ∃ j : Nat, j ≤ on ∧ i = .int .i64 j ∧ Fill wr w.heap.size on j L ∧ Below w.heap.size w wr) (fun i _ => on - (intOf i).toNat)
    case atStart => exact ⟨0, Nat.zero_le _, rfl, F0, hb0⟩
    case round =>
      obtain ⟨j, hj, rfl, F, hb⟩ := hrel
      clear F0 hb0
      by_cases hlt : j < on
      · rcases hs.2 with h0 | ⟨b, o, e, hbw, hc⟩
        · omega
        · simp at e
          subst e
          have hcj : OpAt wr b (o + j * 8) (L.getD j r0) := fun i u hu => (hb.cell hbw).trans (hc j hlt i u hu)
          clear hc
          have F1 := fun (w1 : World) (h : Below wr.heap.size wr w1) => (F.below h).step hlt
          have F2 := fun (w1 : World) (h : Below wr.heap.size wr w1) => (F.below h).there j hlt (L.getD j r0)
          generalize L.getD j r0 = y at *
          have bj : (j : Int) < (on : Int) := by omega
          go_wp2_with (first
            | (refine wpList_load_mid rfl 37 (.tmp 20) rfl b (o + j * 8) rfl (opCells y) _ hcj Try.underlying37 rfl (size37 y) ?_))
          refine (one_any y _).mono ?_
          rintro e w1 ⟨rfl, hb1⟩
          have ht := F2 w1 hb1
          have F3 := F1 w1 hb1
          have hb3 : Below w.heap.size w (w1.setCells w.heap.size (j * 8) (opCells y)) := below_setCells _ (Nat.le_refl _) _ _ _ (hb.trans (hb1.mono hb.size))
          clear F1 F2
          have hst := run_stores (P := Try.prog) ht
          clear ht
          go_wp2
          go_roundw
          case rel => exact ⟨j + 1, by omega, by go_num, F3, hb3⟩
          case measure => simp [intOf]; omega
      · go_wp2
        go_ret
        refine ⟨_, _, rfl, ⟨hl, ?_⟩, hb⟩
        exact .inr ⟨_, 0, rfl, F.lt, fun q hq => by rw [Nat.zero_add]; exact F.cells q (by omega)⟩

structure FillS (wr : World) (g n j : Nat) (L : List ByteArray) : Prop where
  blk : ∃ cs, wr.heap[g]? = some (.cells cs 9 (0, 0)) ∧ cs.size = n
  cells : ∀ q, q < j → wr.cell? ⟨g, q, none⟩ = some (.string (L.getD q ⟨#[]⟩))
theorem FillS.lt {wr : World} {g n j : Nat} {L : List ByteArray} (F : FillS wr g n j L) : g < wr.heap.size := by
  obtain ⟨cs, h, _⟩ := F.blk
  exact (Array.getElem?_eq_some_iff.1 h).1
theorem FillS.step {wr : World} {g n j : Nat} {L : List ByteArray} (F : FillS wr g n j L) (hj : j < n) : FillS (wr.setCell ⟨g, j, none⟩ (.string (L.getD j ⟨#[]⟩))) g n (j + 1) L := by
  obtain ⟨cs, h, h2⟩ := F.blk
  have h3 := heap_setCell_same wr g j cs 9 (.string (L.getD j ⟨#[]⟩)) h
  refine ⟨⟨_, h3, by simpa using h2⟩, fun q hq => ?_⟩
  rw [cell_of_row _ _ _ _ _ _ h3]
  by_cases e : q = j
  · subst e
    rw [Array.getElem?_setIfInBounds_self_of_lt (by omega)]
  · rw [Array.getElem?_setIfInBounds_ne (by omega), ← cell_of_row _ _ _ _ _ _ h]
    exact F.cells q (by omega)

set_option maxHeartbeats 1000000 in
set_option maxRecDepth 100000 in
theorem clone_any (ia : Option Addr) (im ic : Nat) (SS : List ByteArray) (w : World) (hs : StrsAt w ia im SS) (hn : im ≤ 65536) :
    Calls Try.prog 8 #[.slice ia im ic] w fun e w' => ∃ ra rc, e = .returned (.slice ra im rc) ∧ StrsAt w' ra im SS ∧ ra.isNone = ia.isNone ∧ Below w.heap.size w w' := by
  obtain ⟨i2, hi2, hz20, hz21, hz22⟩ := info_parts Try.info9
  have hl := hs.1
  cases ia with
  | none =>
    have h0 := hs.nil
    subst h0
    go_enter Try.func8, Try.ntmps8
    go_wp2
    go_ret
    exact ⟨none, 0, rfl, ⟨hl, hs.2.1, .inl rfl⟩, rfl, Below.refl _ _⟩
  | some ad =>
    go_enter Try.func8, Try.ntmps8
    go_wp2_with (at_make; refine wpList_make_full _ rfl _ _ 23 rfl w.heap.size 9 i2 _ 1 Try.underlying23 hi2 hz20 hz21 _ _ _ _ im rfl rfl rfl rfl (by rw [hz22]; omega) (by unfold maxLen; omega) (Nat.le_refl _) ?_)
    intro w0 hown hgrow
    have F0 : FillS w0 w.heap.size im 0 SS := by
      rcases hown.2 with ⟨h, _⟩ | ⟨g, cap, cur, e, _, hh, _, _, hsz, _⟩
      · simp at h
      · simp at e
        obtain ⟨rfl, rfl⟩ := e
        exact ⟨⟨cur, hh, by simpa using hsz⟩, by intro q hq; omega⟩
    have hb0 : Below w.heap.size w w0 := (Below.refl _ _).grown hgrow (Nat.le_refl _) (by simp)
    clear hown hgrow
    go_wp2_with fail
    go_loopw [4] (fun i wr => ∃ j : Nat, j ≤ im ∧ i = .int .i64 j ∧ FillS wr w.heap.size im j SS ∧ Below w.heap.size w wr) (fun i _ => im - (intOf i).toNat)
    case atStart => exact ⟨0, Nat.zero_le _, rfl, F0, hb0⟩
    case round =>
      obtain ⟨j, hj, rfl, F, hb⟩ := hrel
      clear F0 hb0
      by_cases hlt : j < im
      · rcases hs.2.2 with h0 | ⟨b, o, e, hbw, hc⟩
        · omega
        · simp at e
          subst e
          have hcj := (hb.cell (p := ⟨b, o + j, none⟩) hbw).trans (hc j hlt)
          clear hc
          have F3 := F.step hlt
          have hb3 : Below w.heap.size w (wr.setCell ⟨w.heap.size, j, none⟩ (.string (SS.getD j ⟨#[]⟩))) := hb.setCell (Nat.le_refl _) _
          obtain ⟨cs, hcs, hsz⟩ := F.blk
          have hold : wr.cell? ⟨w.heap.size, j, none⟩ = some cs[j] := by rw [cell_of_row _ _ _ _ _ _ hcs]; simp
          have hfz : wr.frozen? ⟨w.heap.size, j, none⟩ = false := frozen_of_row _ _ _ _ _ hcs
          clear hcs F
          generalize SS.getD j ⟨#[]⟩ = y at *
          generalize cs[j] = z at *
          have bj : (j : Int) < (im : Int) := by omega
          go_wp2
          go_roundw
          case rel => exact ⟨j + 1, by omega, by go_num, F3, hb3⟩
          case measure => simp [intOf]; omega
      · go_wp2
        go_ret
        refine ⟨_, _, rfl, ⟨hl, hs.2.1, ?_⟩, rfl, hb⟩
        exact .inr ⟨_, 0, rfl, F.lt, fun q hq => by rw [Nat.zero_add]; exact F.cells q (by omega)⟩
end Go.Proofs.Qxb6627536a
