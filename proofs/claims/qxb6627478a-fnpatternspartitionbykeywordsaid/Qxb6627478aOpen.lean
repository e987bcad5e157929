import Derived.Test.Qxb6627478aSplit
import Derived.Deep.SlicePairs
namespace Go.Proofs.Qxb6627478a
open Go.ChangeShapes Go.WideShapes Go.ChangeAt Go.RowKit
open Go.ChangeMaps (open_string shut_string)

theorem Try.own : ownKnob Try.prog.godebug = none := by kernel_rfl
theorem Try.laidOut : laidOutB Try.prog = true := by kernel_rfl
theorem Try.cells36 : Try.prog.cellsOf 36 = 2 := by kernel_rfl
theorem Try.cells3 : Try.prog.cellsOf 3 = 1 := by kernel_rfl
theorem Try.cells5 : Try.prog.cellsOf 5 = 1 := by kernel_rfl

/-- The shapes, opened. -/
theorem open_shapes {H : Type} {enc : TypeId × Value → H} {w : World} {sp : Nat → Bool} {held : Bool} {a : Option Addr} {len cap : Nat} {d : DataW H} {p : List MemPlace}
    (h : DataW.Trod enc Try.prog w 0 sp held 22 (.slice a len cap) d p) : ∃ P, Shp w a len P ∧ len ≤ maxLen := by
  obtain ⟨fuel, hf⟩ := h
  rcases Deep.open_slice_pairs Try.underlying22 Try.underlying36 Try.cells36 rfl rfl Try.cells3 Try.cells5 hf with ⟨hcs, _⟩ | ⟨x, l, c, m, nn, V0, V1, D0, D1, P0, P1, hcs, _, hl, hm, hmm, _, hx⟩
  · simp [Value.cells] at hcs
    obtain ⟨rfl, rfl, rfl⟩ := hcs
    exact ⟨[], ⟨rfl, by simp, .inl rfl⟩, Nat.zero_le _⟩
  · simp [Value.cells] at hcs
    obtain ⟨rfl, rfl, rfl⟩ := hcs
    have hlm : len ≤ m := by rw [hmm]; split <;> omega
    have h0 : ∀ i, i < len → ∃ z : Int, V0 i = .int .i64 z := fun i hi => by
      obtain ⟨z, e, _, _⟩ := DataW.trod_int Try.underlying3 (hx i (by omega)).2.2.1
      exact ⟨z, by simpa using e⟩
    have h1 : ∀ i, i < len → ∃ z : Nat, V1 i = .int .u8 (z : Int) ∧ z ≤ 255 := fun i hi => by
      obtain ⟨z, e, _, wz⟩ := DataW.trod_int Try.underlying5 (hx i (by omega)).2.2.2
      have hb := bounds_u8 wz
      obtain ⟨z, rfl⟩ := Int.eq_ofNat_of_zero_le hb.1
      exact ⟨z, by simpa using e, by omega⟩
    refine ⟨(List.range len).map (fun i => (intOf (V0 i), (intOf (V1 i)).toNat)), ⟨by simp, ?_, ?_⟩, by omega⟩
    · intro y hy
      obtain ⟨i, hi, rfl⟩ := List.mem_map.1 hy
      obtain ⟨z, e, hz⟩ := h1 i (List.mem_range.1 hi)
      simp [e, intOf]; exact hz
    · by_cases hlen : len = 0
      · exact .inl hlen
      · right
        obtain ⟨b, off, spot⟩ := x
        have hspot : spot = none := by simpa [Addr.add] using World.cell?_spot (hx 0 (by omega)).1
        subst hspot
        refine ⟨b, off, rfl, ?_, fun j hj => ?_⟩
        · have := block_lt_of_cell (hx 0 (by omega)).1
          simpa [Addr.add] using this
        · obtain ⟨z0, e0⟩ := h0 j hj
          obtain ⟨z1, e1, _⟩ := h1 j hj
          have g0 := (hx j (by omega)).1
          have g1 := (hx j (by omega)).2.1
          rw [Addr.add_lit] at g0 g1
          rw [g0, Nat.add_assoc, g1, e0, e1]
          simp [hj, e0, e1, intOf]
end Go.Proofs.Qxb6627478a
