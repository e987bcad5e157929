import Derived.Test.Qxb6630930aPk
namespace Go.Proofs.Qxb6630930a
open Go.ChangeShapes Go.WideShapes Go.ChangeAt Go.RowKit

theorem Try.own : ownKnob Try.prog.godebug = none := by kernel_rfl
theorem Try.laidOut : laidOutB Try.prog = true := by kernel_rfl
theorem Try.cells5 : Try.prog.cellsOf 5 = 1 := by kernel_rfl
theorem Try.cells22 : Try.prog.cellsOf 22 = 16 := by kernel_rfl

/-- WHAT THE WALK IS TOLD OF A SLICE OF INTEGERS THAT CAME IN. -/
def IsRow (k : IntKind) (w : World) (a : Option Addr) (len cap : Nat) (zs : List Int) : Prop :=
  (a = none ∧ len = 0 ∧ cap = 0 ∧ zs = []) ∨
  ∃ x, a = some x ∧ len ≤ cap ∧ cap ≤ maxLen ∧ zs.length = cap ∧ (∀ i, i < zs.length → w.cell? (x.add i) = some (.int k (zs.getD i 0))) ∧ ∀ n ∈ zs, (Lit.int k n).wf = true

theorem IsRow.dataAt {w : World} {a : Option Addr} {len cap : Nat} {zs : List Int} (h : IsRow .u8 w a len cap zs) : DataAt w a len cap zs := by
  rcases h with ⟨rfl, rfl, rfl, rfl⟩ | ⟨x, rfl, hlc, _, hz, hc, _⟩
  · exact ⟨Nat.le_refl _, fun _ => ⟨rfl, rfl⟩, fun _ h => (by cases h), fun _ h => (by cases h)⟩
  · refine ⟨by omega, fun h => (by cases h), fun ad e h0 => ?_, fun ad e j hj => ?_⟩
    · cases e
      have := block_lt_of_cell (hc 0 (by omega))
      simpa [Addr.add] using this
    · cases e; exact hc j (by omega)
theorem IsRow.shape {w : World} {a : Option Addr} {len cap : Nat} {zs : List Int} (h : IsRow .u8 w a len cap zs) : len ≤ cap ∧ (len = 0 ∨ ∃ b o, a = some ⟨b, o, none⟩) := by
  rcases h with ⟨rfl, rfl, rfl, rfl⟩ | ⟨x, rfl, hlc, _, hz, hc, _⟩
  · exact ⟨Nat.le_refl _, .inl rfl⟩
  · refine ⟨hlc, ?_⟩
    by_cases h0 : len = 0
    · exact .inl h0
    · obtain ⟨b, off, spot⟩ := x
      have hspot : spot = none := by simpa [Addr.add] using World.cell?_spot (hc 0 (by omega))
      subst hspot
      exact .inr ⟨b, off, rfl⟩

theorem bounds_of {n : Int} (h : (Lit.int .u8 n).wf = true) : 0 ≤ n ∧ n ≤ 255 := bounds_u8 h

/-- An array of bytes, opened. -/
theorem open_bytes16 {H : Type} {enc : TypeId × Value → H} {w : World} {base : Nat} {sp : Nat → Bool} {held : Bool} {r : Reach} {b0 : Nat} {v : Value} {d : DataW H} {p : List MemPlace}
    (hv : Value.okWide Try.prog w r b0 22 v) (h : DataW.Trod enc Try.prog w base sp held 22 v d p) : ∃ zs : List Int, v = .agg (arr zs) ∧ zs.length = 16 := by
  have hv2 : ∃ cs, v = .agg cs ∧ cs.size = 16 := by
    simp only [Value.okWide, Try.underlying22, Try.cells22] at hv
    obtain ⟨cs, h1, h2, _⟩ := hv
    exact ⟨cs, h1, h2⟩
  obtain ⟨cs, rfl, hs⟩ := hv2
  obtain ⟨fuel, hf⟩ := h
  obtain ⟨xs, m, rfl, _, hl, hxl, hx⟩ := DataW.trod_array Try.underlying22 hf
  have hall : ∀ i, i < 16 → ∃ z : Int, cs[i]? = some (.int .u8 z) := by
    intro i hi
    have h1 := hx i hi
    rw [Try.cells5] at h1
    cases hxi : xs[i]? with
    | none => simp at hxi; omega
    | some y =>
      rw [hxi] at h1
      obtain ⟨z, e0, _, _⟩ := DataW.trod_int Try.underlying5 h1
      refine ⟨z, ?_⟩
      have h2 := congrArg (fun l : List Value => l[0]?) e0
      simp only [Value.cells, Nat.mul_one] at h2
      simpa [List.getElem?_take, List.getElem?_drop] using h2
  refine ⟨(List.range 16).map (fun i => intOf (cs[i]?.getD undef)), ?_, by simp⟩
  congr 1
  apply Array.ext_getElem?
  intro i
  by_cases hi : i < 16
  · obtain ⟨z, hz⟩ := hall i hi
    rw [hz]
    simp [arr, hi, hz, intOf]
  · rw [Array.getElem?_eq_none (by omega)]
    rw [Array.getElem?_eq_none (by simp [arr]; omega)]
end Go.Proofs.Qxb6630930a
