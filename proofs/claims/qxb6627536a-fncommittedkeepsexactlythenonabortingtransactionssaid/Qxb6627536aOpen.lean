import Derived.Test.Qxb6627536aPlain
import Derived.Deep.SlicePairs
import Derived.SliceStrings
namespace Go.Proofs.Qxb6627536a
open Go.ChangeShapes Go.WideShapes Go.ChangeAt Go.RowKit

theorem Try.own : ownKnob Try.prog.godebug = none := by kernel_rfl
theorem Try.laidOut : laidOutB Try.prog = true := by kernel_rfl
theorem Try.cells37 : Try.prog.cellsOf 37 = 8 := by kernel_rfl
theorem Try.cells2 : Try.prog.cellsOf 2 = 1 := by kernel_rfl
theorem Try.cells3 : Try.prog.cellsOf 3 = 1 := by kernel_rfl
theorem Try.cells4 : Try.prog.cellsOf 4 = 1 := by kernel_rfl
theorem Try.cells5 : Try.prog.cellsOf 5 = 1 := by kernel_rfl
theorem Try.cells9 : Try.prog.cellsOf 9 = 1 := by kernel_rfl

theorem open_op {H : Type} {enc : TypeId × Value → H} {w : World} {sp : Nat → Bool} {held : Bool} {n : Nat} {cs : List Value} {y : DataW H × List MemPlace} (hlen : cs.length = 8)
    (h : DataW.trod enc Try.prog w 0 sp held n 37 cs = some y) : ∃ x : Rec, cs = opCells x ∧ Ok64 x.txn := by
  obtain ⟨xs, k, hk, hxy, _, hxl, hf⟩ := DataW.trod_struct Try.underlying37 h
  match cs, hlen with
  | [v0, v1, v2, v3, v4, v5, v6, v7], _ =>
    match xs, hxl with
    | [y0, y1, y2, y3, y4, y5, y6, y7], _ =>
      have g0 := hf 0 _ rfl
      have g1 := hf 1 _ rfl
      have g2 := hf 2 _ rfl
      have g3 := hf 3 _ rfl
      have g4 := hf 4 _ rfl
      have g5 := hf 5 _ rfl
      have g6 := hf 6 _ rfl
      have g7 := hf 7 _ rfl
      simp [Try.cells2, Try.cells3, Try.cells4, Try.cells5] at g0 g1 g2 g3 g4 g5 g6 g7
      obtain ⟨z0, e0, _, _⟩ := DataW.trod_int Try.underlying5 g0
      obtain ⟨z1, e1, _⟩ := DataW.trod_bool Try.underlying4 g1
      obtain ⟨z2, e2, _, _⟩ := DataW.trod_int Try.underlying5 g2
      obtain ⟨z3, e3, _, _⟩ := DataW.trod_int Try.underlying5 g3
      obtain ⟨z4, e4, _, _⟩ := DataW.trod_int Try.underlying5 g4
      obtain ⟨z5, e5, _, w5⟩ := DataW.trod_int Try.underlying3 g5
      obtain ⟨z6, e6, _, _⟩ := DataW.trod_int Try.underlying3 g6
      obtain ⟨z7, e7, _, _⟩ := DataW.trod_int Try.underlying2 g7
      simp at e0 e1 e2 e3 e4 e5 e6 e7
      subst e0 e1 e2 e3 e4 e5 e6 e7
      exact ⟨⟨z0, z1, z2, z3, z4, z5, z6, z7⟩, rfl, w5⟩

/-- The operations, opened. -/
theorem open_ops {H : Type} {enc : TypeId × Value → H} {w : World} {sp : Nat → Bool} {held : Bool} {a : Option Addr} {len cap : Nat} {d : DataW H} {p : List MemPlace}
    (h : DataW.Trod enc Try.prog w 0 sp held 22 (.slice a len cap) d p) : ∃ L, OpsAt w a len L ∧ OkOps L ∧ len ≤ maxLen := by
  obtain ⟨fuel, hf⟩ := h
  rcases Deep.open_slice Try.underlying22 hf with ⟨hcs, _⟩ | ⟨x, l, c, m, nn, D, Pl, hcs, _, hl, hm, hmm, _, hx⟩
  · simp [Value.cells] at hcs
    obtain ⟨rfl, rfl, rfl⟩ := hcs
    exact ⟨[], ⟨rfl, .inl rfl⟩, (fun o ho => by simp at ho), Nat.zero_le _⟩
  · simp [Value.cells] at hcs
    obtain ⟨rfl, rfl, rfl⟩ := hcs
    have hlm : len ≤ m := by rw [hmm]; split <;> omega
    by_cases hlen : len = 0
    · subst hlen
      exact ⟨[], ⟨rfl, .inl rfl⟩, (fun o ho => by simp at ho), Nat.zero_le _⟩
    · obtain ⟨b, off, spot⟩ := x
      have hspot : spot = none := by
        obtain ⟨cs', h1, _⟩ := hx 0 (by omega)
        rw [Try.cells37] at h1
        obtain ⟨_, hlen, hcell⟩ := World.cells?_some h1
        have hc0 := hcell 0 (by omega)
        rw [List.getElem?_eq_getElem (by omega)] at hc0
        simpa [Addr.add] using World.cell?_spot hc0
      subst hspot
      have each : ∀ i, i < len → ∃ y : Rec, OpAt w b (off + i * 8) y ∧ Ok64 y.txn := by
        intro i hi
        obtain ⟨cs', h1, h2⟩ := hx i (by omega)
        rw [Try.cells37] at h1
        obtain ⟨_, hlen, hcell⟩ := World.cells?_some h1
        obtain ⟨y, rfl, hy⟩ := open_op hlen h2
        refine ⟨y, fun j u hu => ?_, hy⟩
        have hj : j < 8 := by
          have := (List.getElem?_eq_some_iff.1 hu).1
          rwa [len8] at this
        have := hcell j hj
        rw [Addr.add_lit, Addr.add_lit] at this
        rw [this, ← hu]
      obtain ⟨q, hq⟩ : ∃ q : Nat → Rec, ∀ i, i < len → OpAt w b (off + i * 8) (q i) ∧ Ok64 (q i).txn :=
        ⟨fun i => if h : i < len then (each i h).choose else r0, fun i hi => by simp only [hi, dite_true]; exact (each i hi).choose_spec⟩
      refine ⟨(List.range len).map q, ⟨by simp, .inr ⟨b, off, rfl, ?_, fun j hj => ?_⟩⟩, ?_, by omega⟩
      · have := block_lt_of_cell ((hq 0 (by omega)).1 0 _ rfl)
        simpa using this
      · have : ((List.range len).map q).getD j r0 = q j := by simp [List.getD, hj]
        rw [this]
        exact (hq j hj).1
      · intro o ho
        obtain ⟨i, hi, rfl⟩ := List.mem_map.1 ho
        exact (hq i (List.mem_range.1 hi)).2

/-- The strings, opened. -/
theorem open_strs {H : Type} {enc : TypeId × Value → H} {w : World} {sp : Nat → Bool} {held : Bool} {a : Option Addr} {len cap : Nat} {d : DataW H} {p : List MemPlace}
    (h : DataW.Trod enc Try.prog w 0 sp held 23 (.slice a len cap) d p) : ∃ SS, StrsAt w a len SS ∧ len ≤ maxLen := by
  obtain ⟨fuel, hf⟩ := h
  rcases open_strings Try.underlying23 Try.underlying9 Try.cells9 hf with ⟨hcs, _⟩ | ⟨x, l, c, ss, hcs, _, hl, hm, hsl, _, hx, hsz⟩
  · simp [Value.cells] at hcs
    obtain ⟨rfl, rfl, rfl⟩ := hcs
    exact ⟨[], ⟨rfl, by simp, .inl rfl⟩, Nat.zero_le _⟩
  · simp [Value.cells] at hcs
    obtain ⟨rfl, rfl, rfl⟩ := hcs
    have hlm : len ≤ ss.length := by rw [hsl]; split <;> omega
    refine ⟨ss.take len, ⟨by simp; omega, fun s hs => hsz s (List.mem_of_mem_take hs), ?_⟩, by omega⟩
    by_cases hlen : len = 0
    · exact .inl hlen
    · right
      obtain ⟨b, off, spot⟩ := x
      have hspot : spot = none := by simpa [Addr.add] using World.cell?_spot (hx 0 (by omega))
      subst hspot
      refine ⟨b, off, rfl, ?_, fun j hj => ?_⟩
      · have := block_lt_of_cell (hx 0 (by omega))
        simpa [Addr.add] using this
      · have := hx j (by omega)
        rw [Addr.add_lit] at this
        rw [this]
        simp [List.getD, hj]
        rfl
end Go.Proofs.Qxb6627536a
