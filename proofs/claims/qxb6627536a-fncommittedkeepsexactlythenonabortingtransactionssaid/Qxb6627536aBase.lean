import Derived.Test.Qxb6627536aRows
import Derived.WalkKit
import Derived.ProofKit
import Derived.OpenShut
import Derived.ShutString
import Derived.ChangeOld
import Derived.Below
import Derived.WalkLawsBesides
import Derived.Deep.QuietTactic
import Derived.BigQuiet
import Derived.WalkSpells
import Derived.Deep.MidRow
namespace Go.Proofs.Qxb6627536a
open Go.ChangeShapes Go.WideShapes Go.ChangeAt Go.RowKit

/-- One operation, as plain data. -/
structure Rec where
  act : Int
  up : Bool
  asg : Int
  sp : Int
  cap : Int
  txn : Int
  item : Int
  opd : Int
def r0 : Rec := ⟨0, false, 0, 0, 0, 0, 0, 0⟩
def opCells (o : Rec) : List Value := [.int .u8 o.act, .bool o.up, .int .u8 o.asg, .int .u8 o.sp, .int .u8 o.cap, .int .i64 o.txn, .int .i64 o.item, .int .i64 o.opd]
abbrev OpAt (w : World) (b o : Nat) (x : Rec) : Prop := w.rangeAt b o (opCells x)
/-- A slice of operations. -/
def OpsAt (w : World) (a : Option Addr) (n : Nat) (L : List Rec) : Prop :=
  L.length = n ∧ (n = 0 ∨ ∃ b o, a = some ⟨b, o, none⟩ ∧ b < w.heap.size ∧ ∀ j, j < n → OpAt w b (o + j * 8) (L.getD j r0))
theorem OpsAt.below {w w' : World} {a : Option Addr} {n : Nat} {L : List Rec} (h : OpsAt w a n L) (hb : Below w.heap.size w w') : OpsAt w' a n L := by
  refine ⟨h.1, ?_⟩
  rcases h.2 with h | ⟨b, o, e, hlt, hc⟩
  · exact .inl h
  · exact .inr ⟨b, o, e, Nat.lt_of_lt_of_le hlt hb.size, fun j hj i u hu => (hb.cell hlt).trans (hc j hj i u hu)⟩
theorem OpsAt.drewN {w : World} {a : Option Addr} {n : Nat} {L : List Rec} (h : OpsAt w a n L) (k : Nat) : OpsAt (w.drewN k) a n L := h
/-- A slice of strings. -/
def StrsAt (w : World) (a : Option Addr) (n : Nat) (SS : List ByteArray) : Prop :=
  SS.length = n ∧ (∀ s ∈ SS, s.size ≤ maxLen) ∧ (n = 0 ∨ ∃ b o, a = some ⟨b, o, none⟩ ∧ b < w.heap.size ∧ ∀ j, j < n → w.cell? ⟨b, o + j, none⟩ = some (.string (SS.getD j ⟨#[]⟩)))
theorem StrsAt.below {w w' : World} {a : Option Addr} {n : Nat} {SS : List ByteArray} (h : StrsAt w a n SS) (hb : Below w.heap.size w w') : StrsAt w' a n SS := by
  refine ⟨h.1, h.2.1, ?_⟩
  rcases h.2.2 with h | ⟨b, o, e, hlt, hc⟩
  · exact .inl h
  · exact .inr ⟨b, o, e, Nat.lt_of_lt_of_le hlt hb.size, fun j hj => (hb.cell hlt).trans (hc j hj)⟩
theorem StrsAt.drewN {w : World} {a : Option Addr} {n : Nat} {L : List ByteArray} (h : StrsAt w a n L) (k : Nat) : StrsAt (w.drewN k) a n L := h
theorem StrsAt.small {w : World} {a : Option Addr} {n : Nat} {SS : List ByteArray} (h : StrsAt w a n SS) (j : Nat) (hj : j < n) : (SS.getD j ⟨#[]⟩).size ≤ maxLen := by
  refine h.2.1 _ ?_
  have := h.1
  simp [List.getD, show j < SS.length by omega]


/-- Some bool is returned. -/
def AnyBool (e : Ending) : Prop := ∃ B : Bool, e = .returned (.bool B)
/-- The size guard's answer. -/
def TooBig (on im mx : Nat) (e : Ending) : Prop := ∃ B : Bool, e = .returned (.bool B) ∧ (B = false → on ≤ mx ∧ im ≤ 65536)
/-- Some operation of L aborts x. -/
def aborts (L : List Rec) (x : Int) : Bool := L.any (fun o => o.act == 4 && o.txn == x)
theorem take_snoc {α : Type} (L : List α) (d : α) (j : Nat) (h : j < L.length) : L.take (j + 1) = L.take j ++ [L.getD j d] := by
  rw [List.take_add_one]
  simp [List.getD, h]
theorem aborts_step (L : List Rec) (j : Nat) (x : Int) (h : j < L.length) (hf : aborts (L.take j) x = false) (hn : ((L.getD j r0).act == 4 && (L.getD j r0).txn == x) = false) : aborts (L.take (j + 1)) x = false := by
  rw [take_snoc L r0 j h]
  unfold aborts at *
  rw [List.any_append, hf, List.any_cons, hn]
  rfl
theorem aborts_yes (L : List Rec) (j : Nat) (x : Int) (h : j < L.length) (hy : ((L.getD j r0).act == 4 && (L.getD j r0).txn == x) = true) : aborts L x = true := by
  unfold aborts
  refine List.any_eq_true.2 ⟨_, ?_, hy⟩
  simp [List.getD, h]

set_option maxHeartbeats 1000000 in
theorem zz5_any (oa : Option Addr) (on oc : Nat) (ia : Option Addr) (im ic : Nat) (SS : List ByteArray) (nm : Int) (w : World) (h1 : on ≤ maxLen) (h2 : im ≤ maxLen) (hs : StrsAt w ia im SS) :
    Calls Try.prog 5 #[.slice oa on oc, .slice ia im ic, .int .u8 nm] w fun e w' => AnyBool e ∧ w' = w := by
  unfold maxLen at h1 h2
  by_cases c1 : on ≤ 1048576
  · by_cases c2 : im ≤ 1048576
    · by_cases c3 : on + im ≤ 1048576
      · have i1 : (on : Int) ≤ 1048576 := by omega
        have i2 : (im : Int) ≤ 1048576 := by omega
        have i3 : (on : Int) + (im : Int) ≤ 1048576 := by omega
        go_enter Try.func5, Try.ntmps5
        go_wp2_with fail
        go_loop [7, 8] (fun t i => ∃ j T : Nat, j ≤ im ∧ i = .int .i64 j ∧ t = .int .i64 T ∧ T ≤ 1048576) (fun _ i => im - (intOf i).toNat)
        case atStart => exact ⟨0, on + im, Nat.zero_le _, rfl, by go_num, c3⟩
        case round =>
          obtain ⟨j, T, hj, rfl, rfl, hT⟩ := hrel
          by_cases hlt : j < im
          · have hsz := hs.small j hlt
            unfold maxLen at hsz
            rcases hs.2.2 with h0 | ⟨b, o, rfl, _, hc⟩
            · omega
            · have hcj := hc j hlt
              clear hc
              generalize SS.getD j ⟨#[]⟩ = s at *
              have bj : (j : Int) < (im : Int) := by omega
              by_cases d1 : s.size ≤ 1048576
              · have e1 : (s.size : Int) ≤ 1048576 := by omega
                by_cases d2 : T + s.size ≤ 1048576
                · have e2 : (T : Int) + (s.size : Int) ≤ 1048576 := by omega
                  go_wp2
                  go_round
                  case rel => exact ⟨j + 1, T + s.size, by omega, by go_num, by go_num, d2⟩
                  case measure => simp [intOf]; omega
                · have e2 : (1048576 : Int) < (T : Int) + (s.size : Int) := by omega
                  go_wp2
                  go_ret
                  exact ⟨⟨false, rfl⟩, rfl⟩
              · have e1 : (1048576 : Int) < (s.size : Int) := by omega
                go_wp2
                go_ret
                exact ⟨⟨false, rfl⟩, rfl⟩
          · go_wp2
            go_ret
            exact ⟨⟨true, rfl⟩, rfl⟩
      · go_enter Try.func5, Try.ntmps5
        have i1 : (on : Int) ≤ 1048576 := by omega
        have i2 : (im : Int) ≤ 1048576 := by omega
        have i3 : 1048576 < (on : Int) + (im : Int) := by omega
        go_wp2
        go_ret
        exact ⟨⟨false, rfl⟩, rfl⟩
    · go_enter Try.func5, Try.ntmps5
      have i1 : (on : Int) ≤ 1048576 := by omega
      have i2 : 1048576 < (im : Int) := by omega
      go_wp2
      go_ret
      exact ⟨⟨false, rfl⟩, rfl⟩
  · have i1 : 1048576 < (on : Int) := by omega
    go_enter Try.func5, Try.ntmps5
    go_wp2
    go_ret
    exact ⟨⟨false, rfl⟩, rfl⟩

set_option maxHeartbeats 1000000 in
theorem zz12_any (oa : Option Addr) (on oc : Nat) (ia : Option Addr) (im ic : Nat) (SS : List ByteArray) (nm t : Int) (w : World) (h1 : on ≤ maxLen) (h2 : im ≤ maxLen) (hs : StrsAt w ia im SS) :
    Calls Try.prog 12 #[.slice oa on oc, .slice ia im ic, .int .u8 nm, .int .i64 t] w fun e w' => AnyBool e ∧ w' = w := by
  unfold maxLen at h1 h2
  by_cases c1 : on ≤ 1048576
  · by_cases c2 : im ≤ 1048576
    · by_cases c3 : on + im ≤ 1048576
      · have i1 : (on : Int) ≤ 1048576 := by omega
        have i2 : (im : Int) ≤ 1048576 := by omega
        have i3 : (on : Int) + (im : Int) ≤ 1048576 := by omega
        go_enter Try.func12, Try.ntmps12
        go_wp2_with fail
        go_loop [9, 10] (fun t i => ∃ j T : Nat, j ≤ im ∧ i = .int .i64 j ∧ t = .int .i64 T ∧ T ≤ 1048576) (fun _ i => im - (intOf i).toNat)
        case atStart => exact ⟨0, on + im, Nat.zero_le _, rfl, by go_num, c3⟩
        case round =>
          obtain ⟨j, T, hj, rfl, rfl, hT⟩ := hrel
          by_cases hlt : j < im
          · have hsz := hs.small j hlt
            unfold maxLen at hsz
            rcases hs.2.2 with h0 | ⟨b, o, rfl, _, hc⟩
            · omega
            · have hcj := hc j hlt
              clear hc
              generalize SS.getD j ⟨#[]⟩ = s at *
              have bj : (j : Int) < (im : Int) := by omega
              by_cases d1 : s.size ≤ 1048576
              · have e1 : (s.size : Int) ≤ 1048576 := by omega
                by_cases d2 : T + s.size ≤ 1048576
                · have e2 : (T : Int) + (s.size : Int) ≤ 1048576 := by omega
                  go_wp2
                  go_round
                  case rel => exact ⟨j + 1, T + s.size, by omega, by go_num, by go_num, d2⟩
                  case measure => simp [intOf]; omega
                · have e2 : (1048576 : Int) < (T : Int) + (s.size : Int) := by omega
                  go_wp2
                  go_ret
                  exact ⟨⟨false, rfl⟩, rfl⟩
              · have e1 : (1048576 : Int) < (s.size : Int) := by omega
                go_wp2
                go_ret
                exact ⟨⟨false, rfl⟩, rfl⟩
          · go_wp2
            go_ret
            exact ⟨⟨true, rfl⟩, rfl⟩
      · go_enter Try.func12, Try.ntmps12
        have i1 : (on : Int) ≤ 1048576 := by omega
        have i2 : (im : Int) ≤ 1048576 := by omega
        have i3 : 1048576 < (on : Int) + (im : Int) := by omega
        go_wp2
        go_ret
        exact ⟨⟨false, rfl⟩, rfl⟩
    · go_enter Try.func12, Try.ntmps12
      have i1 : (on : Int) ≤ 1048576 := by omega
      have i2 : 1048576 < (im : Int) := by omega
      go_wp2
      go_ret
      exact ⟨⟨false, rfl⟩, rfl⟩
  · have i1 : 1048576 < (on : Int) := by omega
    go_enter Try.func12, Try.ntmps12
    go_wp2
    go_ret
    exact ⟨⟨false, rfl⟩, rfl⟩


set_option maxHeartbeats 1000000 in
theorem zz6_any (oa : Option Addr) (on oc : Nat) (ia : Option Addr) (im ic : Nat) (SS : List ByteArray) (mx : Nat) (w : World) (h1 : on ≤ maxLen) (h2 : im ≤ maxLen) (hs : StrsAt w ia im SS) (hmx : mx ≤ 16384) :
    Calls Try.prog 6 #[.slice oa on oc, .slice ia im ic, .int .i64 (mx : Int)] w fun e w' => TooBig on im mx e ∧ w' = w := by
  unfold maxLen at h1 h2
  by_cases c1 : on ≤ mx
  · by_cases c2 : im ≤ 65536
    · by_cases c3 : on * 40 + im * 16 ≤ 1048576
      · have i1 : (on : Int) ≤ (mx : Int) := by omega
        have i2 : (im : Int) ≤ 65536 := by omega
        have i3 : (on : Int) * 40 + (im : Int) * 16 ≤ 1048576 := by omega
        go_enter Try.func6, Try.ntmps6
        go_wp2_with fail
        go_loop [7, 8] (fun t i => ∃ j T : Nat, j ≤ im ∧ i = .int .i64 j ∧ t = .int .i64 T ∧ T ≤ 1048576) (fun _ i => im - (intOf i).toNat)
        case atStart => exact ⟨0, on * 40 + im * 16, Nat.zero_le _, rfl, by go_num, c3⟩
        case round =>
          obtain ⟨j, T, hj, rfl, rfl, hT⟩ := hrel
          by_cases hlt : j < im
          · have hsz := hs.small j hlt
            unfold maxLen at hsz
            rcases hs.2.2 with h0 | ⟨b, o, rfl, _, hc⟩
            · omega
            · have hcj := hc j hlt
              clear hc
              generalize SS.getD j ⟨#[]⟩ = s at *
              have bj : (j : Int) < (im : Int) := by omega
              by_cases d1 : s.size ≤ 1048576 - T
              · have e1 : (s.size : Int) ≤ 1048576 - (T : Int) := by omega
                go_wp2
                go_round
                case rel => exact ⟨j + 1, T + s.size, by omega, by go_num, by go_num, by omega⟩
                case measure => simp [intOf]; omega
              · have e1 : 1048576 - (T : Int) < (s.size : Int) := by omega
                go_wp2
                go_ret
                exact ⟨⟨true, rfl, by simp⟩, rfl⟩
          · go_wp2
            go_ret
            exact ⟨⟨false, rfl, fun _ => ⟨c1, c2⟩⟩, rfl⟩
      · have i1 : (on : Int) ≤ (mx : Int) := by omega
        have i2 : (im : Int) ≤ 65536 := by omega
        have i3 : 1048576 < (on : Int) * 40 + (im : Int) * 16 := by omega
        go_enter Try.func6, Try.ntmps6
        go_wp2
        go_ret
        exact ⟨⟨true, rfl, by simp⟩, rfl⟩
    · have i1 : (on : Int) ≤ (mx : Int) := by omega
      have i2 : 65536 < (im : Int) := by omega
      go_enter Try.func6, Try.ntmps6
      go_wp2
      go_ret
      exact ⟨⟨true, rfl, by simp⟩, rfl⟩
  · have i1 : (mx : Int) < (on : Int) := by omega
    go_enter Try.func6, Try.ntmps6
    go_wp2
    go_ret
    exact ⟨⟨true, rfl, by simp⟩, rfl⟩

set_option maxHeartbeats 1000000 in
theorem zz10_any (oa : Option Addr) (on oc : Nat) (L : List Rec) (x : Int) (w : World) (hs : OpsAt w oa on L) (hn : on ≤ 1048576) :
    Calls Try.prog 10 #[.slice oa on oc, .int .i64 x] w fun e w' => e = .returned (.bool (aborts L x)) ∧ w' = w := by
  have hl := hs.1
  go_enter Try.func10, Try.ntmps10
  go_wp2_with fail
  go_loop [5] (fun i => ∃ j : Nat, j ≤ on ∧ i = .int .i64 j ∧ aborts (L.take j) x = false) (fun i => on - (intOf i).toNat)
  case atStart => exact ⟨0, Nat.zero_le _, rfl, rfl⟩
  case round =>
    obtain ⟨j, hj, rfl, hA⟩ := hrel
    have HA : Hid (aborts (L.take j) x = false) := hA
    clear hA
    by_cases hlt : j < on
    · rcases hs.2 with h0 | ⟨b, o, rfl, _, hc⟩
      · omega
      · have hy := aborts_step L j x (by omega)
        have hyes := aborts_yes L j x (by omega)
        have h0 := hc j hlt 0 _ rfl
        rw [Nat.add_zero] at h0
        have h5 := hc j hlt 5 _ rfl
        clear hc
        generalize L.getD j r0 = y at *
        have bj : (j : Int) < (on : Int) := by omega
        cases hya : (y.act == 4)
        · have ha : y.act ≠ 4 := by simpa using hya
          go_wp2
          go_round
          case rel => exact ⟨j + 1, by omega, by go_num, hy HA.out (by simp [hya])⟩
          case measure => simp [intOf]; omega
        · have ha : y.act = 4 := by simpa using hya
          cases hyt : (y.txn == x)
          · have ht : y.txn ≠ x := by simpa using hyt
            go_wp2
            go_round
            case rel => exact ⟨j + 1, by omega, by go_num, hy HA.out (by simp [hyt])⟩
            case measure => simp [intOf]; omega
          · have ht : y.txn = x := by simpa using hyt
            have HR : Hid (aborts L x = true) := hyes (by simp [hya, hyt])
            clear hy hyes
            go_wp2
            go_ret
            rw [HR.out]
            exact ⟨rfl, rfl⟩
    · have HR : Hid (aborts L x = false) := by
        have := HA.out
        rw [List.take_of_length_le (by omega)] at this
        exact this
      go_wp2
      go_ret
      rw [HR.out]
      exact ⟨rfl, rfl⟩

theorem oneCells (o : Rec) : ∀ u ∈ opCells o, u.oneCell' = true := by
  intro u hu
  simp only [opCells, List.mem_cons, List.not_mem_nil, or_false] at hu
  rcases hu with rfl | rfl | rfl | rfl | rfl | rfl | rfl | rfl <;> rfl
set_option maxHeartbeats 1000000 in
set_option maxRecDepth 100000 in
theorem one_any (o : Rec) (w : World) : Calls Try.prog 11 #[.agg (opCells o).toArray] w fun e w' => e = .returned (.agg (opCells o).toArray) ∧ Below w.heap.size w w' := by
  unfold opCells
  go_enter Try.func11, Try.ntmps11
  go_wp2
  refine bodyPost_ret (results_cell_row rfl _ _ (w.heap.size + 1) 42 (opCells o).toArray (0, 0) _ rfl ?_ Try.underlying42 rfl (by kernel_rfl)) rfl ⟨rfl, ?_⟩
  · exact heap_alloc2_new _ _ _
  · exact ((Below.refl _ _).alloc (Nat.le_refl _) _).alloc (by simp) _
end Go.Proofs.Qxb6627536a
