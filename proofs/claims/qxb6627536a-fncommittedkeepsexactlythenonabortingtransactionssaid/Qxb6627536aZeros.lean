import Derived.Test.Qxb6627536aTab
import Derived.Lib.AppendZeros
import Derived.Maps.AppendAt
namespace Go.Proofs.Qxb6627536a
open Go.ChangeShapes Go.WideShapes Go.ChangeAt Go.RowKit

section
variable {P : Program} (w : World)
theorem zeros_one (z : Value) (hz1 : z.cells = #[z]) (m : Nat) : Builtin.zeroCells z.cells m = (List.replicate m z).toArray := by
  rw [hz1]
  apply Array.ext
  · simp [Builtin.zeroCells]
  · intro j h1 h2
    simp [Builtin.zeroCells, Nat.mod_one]

/-- 'append(s, make([]T, m)...)' on a slice of the call's own, elements of one cell. -/
theorem run_append_zeros (base : Nat) (t tn ty e : TypeId) (kn : IntKind) (i : TypeInfo) (z : Value) (bytes : Nat) (ht : P.underlying t = some (.slice e)) (htn : P.underlying tn = some (.int kn)) (hi : P.info? e = some i) (hz : i.zero = some z)
    (hsize : i.size = 1) (hby : i.bytes = bytes) (hz1 : z.cells = #[z]) (ho : z.oneCell' = true)
    (v : Value) (n : Nat) (xs : List Value) (hown : w.ownsRow base e 1 v n xs) (m : Nat) (h0 : 0 < m) (h63 : n + m ≤ maxLen) (hbytes : (n + m) * bytes ≤ 140737488355328) (hbase : base ≤ w.heap.size) :
    ∃ v' w', (Builtin.append_ #[t, tn] ty #[v, .int .i64 m]).run P w = .ok v' w' ∧ w'.ownsRow base e 1 v' (n + m) (xs ++ List.replicate m z) ∧ w.grownBy w' v.ownBlock ∧ (v'.ownBlock = v.ownBlock ∨ v'.ownBlock = some w.heap.size) := by
  subst hby
  have hsmall : n + m ≤ 9223372036854775807 := by simp only [maxLen] at h63; omega
  have hlen : (xs ++ List.replicate m z).length = (n + m) * 1 := by rw [List.length_append, hown.1]; simp
  have hzs : z.cells.size = 1 := by rw [hz1]; rfl
  have hn : m ≠ 0 := by omega
  have hmi : (m : Int) ≤ 9223372036854775807 := by omega
  have hw : IntKind.i64.wrap (m : Int) = m := by rw [IntKind.wrap_i64]; omega
  have hneg : ¬ ((m : Int) < 0) := by omega
  have hb1 : m * i.bytes ≤ 140737488355328 := Nat.le_trans (Nat.mul_le_mul_right _ (Nat.le_add_left m n)) hbytes
  have h48i : ¬ (281474976710656 < (m : Int) * (i.bytes : Int)) := by
    rw [← Int.natCast_mul]
    omega
  have grown : ∀ (old : Nat), old < n + m → ∀ (row : Option Nat),
      (w.drew.alloc (.cells (xs.toArray ++ (List.replicate m z).toArray ++ Builtin.zeroCells z.cells (grownCap w (n + m) old e - (n + m))) e)).ownsRow base e 1
        (.slice (some ⟨w.heap.size, 0, none⟩) (n + m) (grownCap w (n + m) old e)) (n + m) (xs ++ List.replicate m z) ∧
      w.grownBy (w.drew.alloc (.cells (xs.toArray ++ (List.replicate m z).toArray ++ Builtin.zeroCells z.cells (grownCap w (n + m) old e - (n + m))) e)) row := by
    intro old ho row
    have hge := grownCap_ge w (n + m) old e
    have hcm : grownCap w (n + m) old e ≤ maxLen := grownCap_le_maxLen w (n + m) old e h63
    refine ⟨⟨hlen, .inr ⟨w.heap.size, _, _, rfl, hbase, heap_alloc_new w.drew _, hge, hcm, ?_, ?_⟩⟩, ⟨rfl, rfl, rfl, by simp, fun k hk _ => heap_alloc_old w.drew _ hk⟩⟩
    · have := hown.1
      simp only [Array.size_append, List.size_toArray, size_zeroCells, hzs, List.length_replicate]
      omega
    · simp only [Array.toList_append]
      rw [← hlen]
      exact List.take_left
  rcases hown.2 with ⟨rfl, rfl⟩ | ⟨g, cap, cur, rfl, hbg, hg, hnc, hcm, hcs, htake⟩
  · have hx : xs = [] := List.eq_nil_of_length_eq_zero (by simpa using hown.1)
    subst hx
    have hr := Lib.run_append_nil_zeros (P := P) w t tn ty e i z .i64 kn ht htn hi hz m h0 (by omega) hmi (by omega)
    have hgr := grown 0 (by omega) (Value.ownBlock (.slice none 0 0))
    rw [zeros_one z hz1 m] at hr
    simp only [Nat.zero_add, List.nil_append, Array.empty_append] at hgr ⊢
    exact ⟨_, _, hr, hgr.1, hgr.2, .inr rfl⟩
  · by_cases hroom : n + m ≤ cap
    · have hst := run_storeCells_at P g (n * 1) e (List.replicate m z) 0 cur w hg (by simp; omega) (by intro u hu; rw [List.eq_of_mem_replicate hu]; exact ho)
      simp only [Nat.add_zero, Nat.mul_one] at hst
      have hr : (Builtin.append_ #[t, tn] ty #[.slice (some ⟨g, 0, none⟩) n cap, .int .i64 m]).run P w = .ok (.slice (some ⟨g, 0, none⟩) (n + m) cap) (w.setRow g (cur.toList.take n ++ List.replicate m z ++ cur.toList.drop (n + (List.replicate m z).length)).toArray) := by
        simp [Builtin.append_, run_underlying ht, run_underlying htn, sizeOf, typeInfo, zeroValue, hi, hz, hsize, asInt, asIntOf, hw, hn, hneg, h48i, hroom, zeros_one z hz1 m, Addr.add_lit, hst]
      refine ⟨_, _, hr, ⟨hlen, .inr ⟨g, cap, _, rfl, hbg, setRow_heap w g cur _ e _ hg, hroom, hcm, ?_, ?_⟩⟩, ⟨rfl, rfl, rfl, by simp, fun k _ hk => setRow_other w g k _ (fun e => hk (by simp [Value.ownBlock, e]))⟩, .inl rfl⟩
      · simp only [List.size_toArray, List.length_append, List.length_take, List.length_drop, Array.length_toList, List.length_replicate]
        omega
      · rw [Nat.mul_one] at htake
        rw [htake, ← hlen]
        exact List.take_left
    · have holds : ∀ j u, xs[j]? = some u → w.cell? ((⟨g, 0, none⟩ : Addr).add j) = some u := hown.cells (g := g) rfl
      have hfo := run_firstCells_some (P := P) w.drew 1 n ⟨g, 0, none⟩ n cap xs hown.1 (by simpa using holds)
      have h63' : ¬ (9223372036854775807 < ((n : Int) + (m : Int))) := by omega
      have h48' : ¬ (281474976710656 < Builtin.nextslicecap (n + m) cap * i.bytes) := by have := growslice_fits (bytes := i.bytes) (show cap < n + m by omega) hbytes; omega
      have hr : (Builtin.append_ #[t, tn] ty #[.slice (some ⟨g, 0, none⟩) n cap, .int .i64 m]).run P w = .ok (.slice (some ⟨w.heap.size, 0, none⟩) (n + m) (grownCap w (n + m) cap e))
        (w.drew.alloc (.cells (xs.toArray ++ (List.replicate m z).toArray ++ Builtin.zeroCells z.cells (grownCap w (n + m) cap e - (n + m))) e)) := by
        simp [Builtin.append_, run_underlying ht, run_underlying htn, sizeOf, typeInfo, zeroValue, hi, hz, hsize, asInt, asIntOf, hw, hn, hneg, h48i, hroom, h63', h48', Question.forced, zeros_one z hz1, hfo, newRow, grownCap]
      have hgr := grown cap (by omega) (Value.ownBlock (.slice (some ⟨g, 0, none⟩) n cap))
      exact ⟨_, _, hr, hgr.1, hgr.2, .inr rfl⟩
end
end Go.Proofs.Qxb6627536a
