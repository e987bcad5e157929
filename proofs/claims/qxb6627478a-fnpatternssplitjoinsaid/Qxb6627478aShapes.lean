import Derived.Test.Qxb6627478aRows
import Derived.Test.Qxb6627478aPlain
import Derived.WalkKit
import Derived.ProofKit
import Derived.OpenShut
import Derived.ShutString
import Derived.ChangeOld
import Derived.Below
import Derived.WalkLawsBesides
import Derived.Deep.QuietTactic
import Derived.BigQuiet
import Derived.WalkSpells
namespace Go.Proofs.Qxb6627478a
open Go.ChangeShapes Go.WideShapes Go.ChangeAt Go.RowKit

/-- The shapes as the walk is told of them. -/
def Shp (w : World) (a : Option Addr) (n : Nat) (P : List (Int × Nat)) : Prop :=
  P.length = n ∧ (∀ x ∈ P, x.2 ≤ 255) ∧ (n = 0 ∨ ∃ b o, a = some ⟨b, o, none⟩ ∧ b < w.heap.size ∧ ∀ j, j < n → w.cell? ⟨b, o + j * 2, none⟩ = some (.int .i64 (P.getD j (0, 0)).1) ∧ w.cell? ⟨b, o + j * 2 + 1, none⟩ = some (.int .u8 ((P.getD j (0, 0)).2 : Int)))
theorem Shp.below {w w' : World} {a : Option Addr} {n : Nat} {P : List (Int × Nat)} (h : Shp w a n P) (hb : Below w.heap.size w w') : Shp w' a n P := by
  refine ⟨h.1, h.2.1, ?_⟩
  rcases h.2.2 with h | ⟨b, o, e, hlt, hc⟩
  · exact .inl h
  · exact .inr ⟨b, o, e, Nat.lt_of_lt_of_le hlt hb.size, fun j hj => ⟨(hb.cell hlt).trans (hc j hj).1, (hb.cell hlt).trans (hc j hj).2⟩⟩
theorem Shp.drewN {w : World} {a : Option Addr} {n : Nat} {P : List (Int × Nat)} (h : Shp w a n P) (k : Nat) : Shp (w.drewN k) a n P := h
theorem Shp.small {w : World} {a : Option Addr} {n : Nat} {P : List (Int × Nat)} (h : Shp w a n P) (j : Nat) : (P.getD j (0, 0)).2 ≤ 255 := by
  by_cases hj : j < P.length
  · refine h.2.1 _ ?_
    simp [List.getD, hj]
  · simp [List.getD, List.getElem?_eq_none (Nat.le_of_not_lt hj)]

set_option maxHeartbeats 1000000 in
theorem total_any (a : Option Addr) (n c : Nat) (P : List (Int × Nat)) (bound : Nat) (w : World) (hs : Shp w a n P) (hn : n ≤ 1048576) (hb : bound ≤ 1048576) :
    Calls Try.prog 6 #[.slice a n c, .int .i64 bound] w fun e w' => ∃ T : Nat, e = .returned (.int .i64 T) ∧ w' = w ∧ (T ≤ bound → T = tot P) ∧ (tot P ≤ bound → T = tot P) := by
  have hl := hs.1
  go_enter Try.func6, Try.ntmps6
  go_wp2_with fail
  go_loop [5, 6] (fun t i => ∃ j : Nat, j ≤ n ∧ i = .int .i64 j ∧ t = .int .i64 ((tot (P.take j) : Nat) : Int) ∧ tot (P.take j) ≤ bound) (fun _ i => n - (intOf i).toNat)
  case atStart => exact ⟨0, Nat.zero_le _, rfl, rfl, by simp [tot]⟩
  case round =>
    obtain ⟨j, hj, rfl, rfl, hT⟩ := hrel
    by_cases hlt : j < n
    · have HT : Hid (tot (P.take (j + 1)) = tot (P.take j) + (P.getD j (0, 0)).2) := tot_take P j (by omega)
      have HL : Hid (tot (P.take (j + 1)) ≤ tot P) := tot_take_le P (j + 1)
      have h255 := hs.small j
      rcases hs.2.2 with h0 | ⟨b, o, rfl, _, hc⟩
      · omega
      · obtain ⟨_, hc1⟩ := hc j hlt
        clear hc
        generalize (P.getD j (0, 0)).2 = y at *
        generalize hTT : tot (P.take j) = T at *
        clear hTT
        have bj : (j : Int) < (n : Int) := by omega
        clear hl
        by_cases hbig : T + y ≤ bound
        · have hbi : (T : Int) + (y : Int) ≤ (bound : Int) := by omega
          go_wp2
          go_round
          case rel => exact ⟨j + 1, by omega, by go_num, by rw [HT.out]; go_num, by rw [HT.out]; exact hbig⟩
          case measure => simp [intOf]; omega
        · have hbi : (bound : Int) < (T : Int) + (y : Int) := by omega
          go_wp2
          go_ret
          exact ⟨T + y, by simp, rfl, fun h => by omega, fun h => by have h1 := HT.out; have h2 := HL.out; omega⟩
    · have he : P.take j = P := List.take_of_length_le (by omega)
      rw [he] at hT ⊢
      generalize hTT : tot P = T at hT ⊢
      have HTT : Hid (tot P = T) := hTT
      clear hTT
      go_wp2
      go_ret
      exact ⟨T, rfl, rfl, fun _ => HTT.out.symm, fun _ => HTT.out.symm⟩

set_option maxHeartbeats 1000000 in
theorem count_any (a : Option Addr) (n c : Nat) (P : List (Int × Nat)) (f t : Nat) (k : Int) (w : World) (hs : Shp w a n P) (hn : n ≤ 1048576) (hft : f ≤ t) (htn : t ≤ n) (hT : tot P ≤ 1048576) :
    Calls Try.prog 9 #[.slice a n c, .int .i64 f, .int .i64 t, .int .i64 k] w fun e w' => e = .returned (.int .i64 ((cntF (seg P f t) k : Nat) : Int)) ∧ w' = w := by
  have hl := hs.1
  go_enter Try.func9, Try.ntmps9
  go_wp2_with fail
  go_loop [9, 10] (fun s i => ∃ j : Nat, f ≤ j ∧ j ≤ t ∧ i = .int .i64 j ∧ s = .int .i64 ((cntF (seg P f j) k : Nat) : Int)) (fun _ i => t - (intOf i).toNat)
  case atStart => exact ⟨f, Nat.le_refl _, hft, rfl, by rw [seg_nil]; rfl⟩
  case round =>
    obtain ⟨j, hfj, hj, rfl, rfl⟩ := hrel
    by_cases hlt : j < t
    · have HY := seg_yes P k f j hfj (by omega)
      have HN := seg_no P k f j hfj (by omega)
      have hle := Nat.le_trans (cntF_le (seg P f j) k) (tot_seg_le P f j)
      have h255 := hs.small j
      rcases hs.2.2 with h0 | ⟨b, o, rfl, _, hc⟩
      · omega
      · obtain ⟨hc0, hc1⟩ := hc j (by omega)
        clear hc
        generalize (P.getD j (0, 0)).2 = y at *
        generalize (P.getD j (0, 0)).1 = x at *
        generalize hTT : cntF (seg P f j) k = T at *
        clear hTT
        have bj : (j : Int) < (n : Int) := by omega
        have bj2 : (j : Int) < (t : Int) := by omega
        clear hl
        cases hxk : (x == k)
        · have HX : Hid (cntF (seg P f (j + 1)) k = T) := HN hxk
          clear HY HN
          go_wp2
          go_round
          case rel => exact ⟨j + 1, by omega, by omega, by go_num, by rw [HX.out]⟩
          case measure => simp [intOf]; omega
        · have HX : Hid (cntF (seg P f (j + 1)) k = T + y) := HY hxk
          clear HY HN
          go_wp2
          go_round
          case rel => exact ⟨j + 1, by omega, by omega, by go_num, by rw [HX.out]; go_num⟩
          case measure => simp [intOf]; omega
    · obtain rfl : j = t := by omega
      go_wp2
      go_ret
      exact ⟨rfl, rfl⟩

set_option maxHeartbeats 1000000 in
theorem zz5_any (s : ByteArray) (a : Option Addr) (n c : Nat) (cut k : Int) (w : World) (h1 : s.size ≤ maxLen) (h2 : n ≤ maxLen) :
    Calls Try.prog 5 #[.string s, .slice a n c, .int .i64 cut, .int .i64 k] w fun e w' => ∃ B, e = .returned (.bool B) ∧ w' = w ∧ (s.size ≤ 65536 → n ≤ 16384 → B = true) := by
  unfold maxLen at *
  go_enter Try.func5, Try.ntmps5
  go_wp2
  all_goals go_ret
  all_goals refine ⟨_, rfl, rfl, ?_⟩
  all_goals intro g1 g2
  all_goals first
    | rfl
    | (exfalso; omega)
set_option maxHeartbeats 1000000 in
theorem zz10_any (s : ByteArray) (a : Option Addr) (n c : Nat) (k : Int) (w : World) (h1 : s.size ≤ maxLen) (h2 : n ≤ maxLen) :
    Calls Try.prog 10 #[.string s, .slice a n c, .int .i64 k] w fun e w' => ∃ B, e = .returned (.bool B) ∧ w' = w ∧ (s.size ≤ 65536 → n ≤ 16384 → B = true) := by
  unfold maxLen at *
  go_enter Try.func10, Try.ntmps10
  go_wp2
  all_goals go_ret
  all_goals refine ⟨_, rfl, rfl, ?_⟩
  all_goals intro g1 g2
  all_goals first
    | rfl
    | (exfalso; omega)

set_option maxHeartbeats 1000000 in
set_option maxRecDepth 100000 in
theorem regexp_any (w : World) : Calls Try.prog 11 #[] w fun e w' => e = .returned (.pointer (some ⟨w.heap.size, 0, none⟩)) ∧ Below w.heap.size w w' ∧ w'.heap.size = w.heap.size + 1 ∧ ∃ cs, w'.heap[w.heap.size]? = some (.cells cs 48 (0, 0)) := by
  go_enter Try.func11, Try.ntmps11
  go_wp2
  go_ret
  exact ⟨rfl, (Below.refl _ _).alloc (Nat.le_refl _) _, by simp, _, heap_alloc_new w _⟩
end Go.Proofs.Qxb6627478a
