import Derived.Test.Qxb6627536aMake
import Derived.Maps.Own
import Derived.Maps.OwnSet
import Derived.Maps.Views
import Derived.Maps.Keyed
namespace Go.Proofs.Qxb6627536a
open Go.ChangeShapes Go.WideShapes Go.ChangeAt Go.RowKit

/-- A number that an int can hold. -/
def Ok64 (x : Int) : Prop := (Lit.int .i64 x).wf = true
theorem Ok64.bounds {x : Int} (h : Ok64 x) : -9223372036854775808 ≤ x ∧ x ≤ 9223372036854775807 := by
  have h1 : IntKind.i64.min = -9223372036854775808 := by decide
  have h2 : IntKind.i64.max = 9223372036854775807 := by decide
  unfold Ok64 Lit.wf at h
  simp [h1, h2] at h
  exact h
theorem wrap64 (x : Int) : IntKind.u64.wrap x = x % 18446744073709551616 := by
  have h1 : IntKind.u64.signed = false := rfl
  have h2 : (2 : Int) ^ IntKind.u64.bits = 18446744073709551616 := by decide
  simp [IntKind.wrap, h1, h2]
theorem wrap_nat {n : Nat} (h : n ≤ 1000000) : IntKind.u64.wrap (n : Int) = n := by
  rw [wrap64]
  omega
theorem wrap_ge {x : Int} {n : Nat} (hx : Ok64 x) (hn : n ≤ 1000000) (h : x < 0 ∨ (n : Int) ≤ x) : (n : Int) ≤ IntKind.u64.wrap x := by
  have hb := hx.bounds
  rw [wrap64]
  omega

/-- How an element of the sparse part reads: by its block's number. -/
def rdP : Value → Option (DataW Unit × List MemPlace)
  | .pointer none => some (.lit (.bool false), [])
  | .pointer (some ⟨q, 0, none⟩) => some (.lit (.int .u64 (q : Int)), [])
  | _ => none
theorem rdP_nil : rdP (.pointer none) = some (.lit (.bool false), []) := rfl
theorem rdP_at (q : Nat) : rdP (.pointer (some ⟨q, 0, none⟩)) = some (.lit (.int .u64 (q : Int)), []) := rfl
theorem rdP_inv_nil {v : Value} {ps : List MemPlace} (h : rdP v = some (.lit (.bool false), ps)) : v = .pointer none := by
  unfold rdP at h
  split at h <;> simp_all
theorem rdP_inv_at {v : Value} {q : Nat} {ps : List MemPlace} (h : rdP v = some (.lit (.int .u64 (q : Int)), ps)) : v = .pointer (some ⟨q, 0, none⟩) := by
  unfold rdP at h
  split at h <;> simp_all
  omega
theorem keyed3 : Maps.Keyed Try.prog 3 := Maps.int_keyed Try.underlying3
theorem zero57 (w : World) : (zeroValue 57).run Try.prog w = .ok (.pointer none) w := by kernel_rfl
def key (x : Int) : Lit := .int .i64 x
theorem keyOf3 {x : Int} (h : Ok64 x) : keyOf Try.prog 3 (.int .i64 x) = some (key x) := Maps.keyOf_int_mk Try.underlying3 h
theorem key_ne {x y : Int} (h : x ≠ y) : key x ≠ key y := by simpa [key] using h
theorem key_lit {x : Int} (h : Ok64 x) : WideAt.IsKeyLit (key x) := keyed3.key (keyOf3 h)
abbrev zd : DataW Unit := .lit (.bool false)

/-- What the table says of x, by its sparse part. -/
def SpAt (w : World) (D : DataW Unit) (dv : Value) (B : Nat) (x : Int) (t : Bool) : Prop :=
  (t = false ∧ D.atKey (key x) zd = zd) ∨ (t = true ∧ ∃ q : Nat, D.atKey (key x) zd = .lit (.int .u64 (q : Int)) ∧ w.heap[q]? = some (.cells #[.bool true] 4 (0, 0)) ∧ B ≤ q ∧ dv.ownBlock ≠ some q)

/-- The table's content: what it says of each number is T. -/
structure TabV (w : World) (B bound k : Nat) (dv : Value) (dn : Nat) (r : Option Nat) (T : Int → Bool) : Prop where
  dense : ∃ Dl : List Bool, w.ownsRow B 4 1 dv dn (Dl.map .bool) ∧ ∀ m : Nat, m < dn → T (m : Int) = Dl.getD m false
  small : dn ≤ bound
  bnd : bound ≤ 1000000
  gap : ∀ x : Int, (dn : Int) ≤ x → x < (bound : Int) → T x = false
  sparse : (r = none ∧ ∀ x : Int, x < 0 ∨ (bound : Int) ≤ x → T x = false) ∨
    ∃ mb D n, r = some mb ∧ B ≤ mb ∧ w.ownsMap Try.prog 3 rdP mb n D ∧ n ≤ k ∧ ∀ x : Int, Ok64 x → x < 0 ∨ (bound : Int) ≤ x → SpAt w D dv B x (T x)

theorem own_shape {w : World} {base : Nat} {e : TypeId} {size : Nat} {v : Value} {n : Nat} {xs : List Value} (h : w.ownsRow base e size v n xs) :
    ∃ ao cap, v = .slice ao n cap ∧ ((ao = none ∧ n = 0 ∧ cap = 0) ∨ ∃ g, ao = some ⟨g, 0, none⟩ ∧ base ≤ g ∧ g < w.heap.size ∧ n ≤ cap ∧ cap ≤ maxLen) := by
  rcases h.2 with ⟨rfl, rfl⟩ | ⟨g, cap, cur, rfl, hg, hh, hn, hm, _⟩
  · exact ⟨none, 0, rfl, .inl ⟨rfl, rfl, rfl⟩⟩
  · exact ⟨_, cap, rfl, .inr ⟨g, rfl, hg, (Array.getElem?_eq_some_iff.1 hh).1, hn, hm⟩⟩
theorem own_below {w w' : World} {B : Nat} {e : TypeId} {sz : Nat} {v : Value} {n : Nat} {xs : List Value} (h : w.ownsRow B e sz v n xs) {K : Nat} (hb : Below K w w') (hK : ∀ g, v.ownBlock = some g → g < K) : w'.ownsRow B e sz v n xs := by
  refine ⟨h.1, ?_⟩
  rcases h.2 with h | ⟨g, cap, cur, rfl, hg, hh, r⟩
  · exact .inl h
  · exact .inr ⟨g, cap, cur, rfl, hg, (hb.block g (hK g rfl)).trans hh, r⟩
theorem map_below {w w' : World} {b n : Nat} {D : DataW Unit} (h : w.ownsMap Try.prog 3 rdP b n D) (hb : Below w.heap.size w w') : w'.ownsMap Try.prog 3 rdP b n D := by
  have hlt := h.lt
  obtain ⟨es, clock, h1, r⟩ := h
  exact ⟨es, clock, (hb.block b hlt).trans h1, r⟩
theorem SpAt.below {w w' : World} {D : DataW Unit} {dv : Value} {B : Nat} {x : Int} {t : Bool} (h : SpAt w D dv B x t) (hb : Below w.heap.size w w') : SpAt w' D dv B x t := by
  rcases h with h | ⟨ht, q, h1, h2, h3⟩
  · exact .inl h
  · exact .inr ⟨ht, q, h1, (hb.block q (Array.getElem?_eq_some_iff.1 h2).1).trans h2, h3⟩
theorem TabV.below {w w' : World} {B bound k : Nat} {dv : Value} {dn : Nat} {r : Option Nat} {T : Int → Bool} (h : TabV w B bound k dv dn r T) (hb : Below w.heap.size w w') : TabV w' B bound k dv dn r T := by
  refine ⟨?_, h.small, h.bnd, h.gap, ?_⟩
  · obtain ⟨Dl, h1, h2⟩ := h.dense
    exact ⟨Dl, own_below h1 hb (fun g hg => (h1.lt g hg).2), h2⟩
  · rcases h.sparse with h | ⟨mb, D, n, h1, h2, h3, h4, h5⟩
    · exact .inl h
    · exact .inr ⟨mb, D, n, h1, h2, map_below h3 hb, h4, fun x hx hr => (h5 x hx hr).below hb⟩

set_option maxHeartbeats 1000000 in
set_option maxRecDepth 100000 in
theorem at_any (g : Nat) (x : Int) (w : World) (B bound k : Nat) (dv : Value) (dn : Nat) (r : Option Nat) (T : Int → Bool) (hx : Ok64 x) (h : w.heap[g]? = some (.cells #[.int .i64 bound, dv, .map r] 49 (0, 0))) (V : TabV w B bound k dv dn r T) :
    Calls Try.prog 14 #[.pointer (some ⟨g, 0, none⟩), .int .i64 x] w fun e w' => e = .returned (.bool (T x)) ∧ w' = w := by
  have k0 := cell_of_row w g 0 _ _ _ h
  have k1 := cell_of_row w g 1 _ _ _ h
  have k2 := cell_of_row w g 2 _ _ _ h
  simp at k0 k1 k2
  clear h
  have hs := V.small
  have hbd := V.bnd
  obtain ⟨Dl, hown, hT⟩ := V.dense
  obtain ⟨ao, cap, rfl, hsh⟩ := own_shape hown
  by_cases c1 : 0 ≤ x ∧ x < dn
  · obtain ⟨m, rfl⟩ := Int.eq_ofNat_of_zero_le c1.1
    have hm : m < dn := by omega
    rw [hT m hm]
    have hl := hown.1
    rcases hsh with h0 | ⟨gd, rfl, _⟩
    · omega
    · have hc := hown.cellAt m (by omega)
      rw [show (Dl.map Value.bool)[m]? = some (.bool (Dl.getD m false)) by
        simp at hl
        simp [List.getD, show m < Dl.length by omega]] at hc
      generalize Dl.getD m false = tv at *
      clear hT hown V hx hl
      have b1 : (m : Int) < (dn : Int) := c1.2
      go_enter Try.func14, Try.ntmps14
      go_wp2
      go_ret
      exact ⟨rfl, rfl⟩
  · have w1 := wrap_ge hx (show dn ≤ 1000000 by omega) (by omega)
    by_cases c2 : 0 ≤ x ∧ x < bound
    · rw [V.gap x (by omega) c2.2]
      obtain ⟨m, rfl⟩ := Int.eq_ofNat_of_zero_le c2.1
      have b1 : (m : Int) < (bound : Int) := c2.2
      have b2 : (dn : Int) ≤ (m : Int) := by omega
      clear hT hown V hx
      go_enter Try.func14, Try.ntmps14
      go_wp2
      go_ret
      exact ⟨rfl, rfl⟩
    · have w2 := wrap_ge hx hbd (by omega)
      rcases V.sparse with ⟨rfl, hf⟩ | ⟨mb, D, n, rfl, hmb, hmap, hn, hsp⟩
      · rw [hf x (by omega)]
        have hl := Maps.look_nil (w := w) false keyed3 Try.underlying47 (zero57 w) (keyOf3 hx)
        simp at hl
        clear hT hown V hx hf
        go_enter Try.func14, Try.ntmps14
        go_wp2
        go_ret
        exact ⟨rfl, rfl⟩
      · obtain ⟨v, ps, hrun, hv⟩ := hmap.lookup keyed3 Try.underlying47 (zero57 w) rdP_nil (keyOf3 hx)
        rcases hsp x hx (by omega) with ⟨ht, ha⟩ | ⟨ht, q, ha, hq, _⟩
        · rw [ha] at hv
          have := rdP_inv_nil hv
          subst this
          rw [ht]
          clear hT hown V hx hsp hv hmap ha
          go_enter Try.func14, Try.ntmps14
          go_wp2
          go_ret
          exact ⟨rfl, rfl⟩
        · rw [ha] at hv
          have := rdP_inv_at hv
          subst this
          have hc := cell_of_row w q 0 _ _ _ hq
          simp at hc
          rw [ht]
          clear hT hown V hx hsp hv hmap ha hq
          go_enter Try.func14, Try.ntmps14
          go_wp2
          go_ret
          exact ⟨rfl, rfl⟩
end Go.Proofs.Qxb6627536a
