import Derived.Test.Qxb6627478aOpen
import Derived.Test.Qxb6627478aPart
namespace Go.Proofs.Qxb6627478a.fnPatternsPartitionByKeyword
open Go.ChangeShapes Go.WideShapes Go.ChangeAt Go.RowKit
open Go.ChangeMaps (open_string shut_string)
set_option linter.unusedVariables false

set_option maxHeartbeats 1000000 in
set_option maxRecDepth 100000 in
/-- Too long: true at once. -/
theorem big (vol : ByteArray) (a : Option Addr) (n c : Nat) (k : Int) (w : World) (h1 : vol.size ≤ maxLen) (h2 : n ≤ maxLen) (hb : 65536 < vol.size ∨ (vol.size ≤ 65536 ∧ 256 < n)) :
    Calls Try.prog 4 #[.string vol, .slice a n c, .int .i64 k] w fun e w' => e = .returned (.bool true) ∧ Below w.heap.size w w' := by
  rcases hb with b1 | ⟨b1, b2⟩
  all_goals
    go_enter Try.func4, Try.ntmps4
    go_wp2_with fail
    refine (zz10_any vol a n c k w h1 h2).mono ?_
    rintro e w' ⟨B, rfl, rfl, hB⟩
    clear hB
    cases B
    all_goals
      go_wp2
      go_ret
      exact ⟨rfl, Below.refl _ _⟩

set_option maxHeartbeats 1000000 in
set_option maxRecDepth 100000 in
/-- Too many expressions: true at once. -/
theorem outside (vol : ByteArray) (a : Option Addr) (n c : Nat) (P : List (Int × Nat)) (k : Int) (w : World) (hs : Shp w a n P) (h1 : vol.size ≤ 65536) (h2 : n ≤ 256) (b1 : 4096 < tot P) :
    Calls Try.prog 4 #[.string vol, .slice a n c, .int .i64 k] w fun e w' => e = .returned (.bool true) ∧ Below w.heap.size w w' := by
  go_enter Try.func4, Try.ntmps4
  go_wp2_with fail
  refine (zz10_any vol a n c k w (by unfold maxLen; omega) (by unfold maxLen; omega)).mono ?_
  rintro e w' ⟨B, rfl, rfl, hB⟩
  obtain rfl := hB h1 (by omega)
  clear hB
  go_wp2_with fail
  refine (total_any a n c P 4096 _ hs (by omega) (by omega)).mono ?_
  rintro e w1 ⟨T, rfl, rfl, hT1, hT2⟩
  have hT3 : 4096 < (T : Int) := by
    by_cases h : T ≤ 4096
    · have := hT1 h; omega
    · omega
  clear hT1 hT2
  go_wp2
  go_ret
  exact ⟨rfl, Below.refl _ _⟩

theorem walk (vol : ByteArray) (a : Option Addr) (n c : Nat) (P : List (Int × Nat)) (k : Int) (w : World) (h1 : vol.size ≤ maxLen) (hs : Shp w a n P) (h2 : n ≤ maxLen) :
    Calls Try.prog 4 #[.string vol, .slice a n c, .int .i64 k] w fun e w' => e = .returned (.bool true) ∧ Below w.heap.size w w' := by
  by_cases hb : vol.size ≤ 65536 ∧ n ≤ 256
  · by_cases hT : tot P ≤ 4096
    · exact part_main vol a n c P k w hs hb.1 hb.2 hT
    · exact outside vol a n c P k w hs hb.1 hb.2 (by omega)
  · exact big vol a n c k w h1 h2 (by omega)

set_option maxRecDepth 100000 in
theorem lifted (os : Os) (started : os.Started) (H : Type) (enc : TypeId × Value → H) :
    ReturnsInHanded {} Try.checked os 4 .any (Rows.fnPatternsPartitionByKeywordSpec.pre6 enc Try.prog Try.f4 Rows.fnPatternsPartitionByKeywordRow.domain false) (Rows.fnPatternsPartitionByKeywordSpec.post enc Try.prog Try.f4 false true false false) := by
  refine returnsInHanded_of_change (C := Try.checked) Try.own started (by kernel_rfl) Try.func4
    (ChangeSpec.witness6 (enc := enc) (C := Try.checked) false ⟨#[], #[.string ⟨#[]⟩, .slice none 0 0, .int .i64 0], []⟩ 8 (by kernel_rfl) (by kernel_rfl) (by kernel_rfl) (by kernel_rfl)) ?_
  intro W base args ds gs before hval0 hW hcnd _
  have hval : ∀ (j : Nat) t v, Try.f4.params[j]? = some t → args[j]? = some v → Value.okWide Try.prog W .any base t v := hval0
  have hW' := hW
  obtain ⟨p, q, hA0, hV, rfl, hfz, hnd⟩ := hW
  have hA : DataW.TrodAll enc Try.prog W 0 (fun _ => true) true Try.f4.params.toList args.toList ds p := hA0
  rw [Try.params4] at hA hval
  obtain ⟨v0, vs0, d0, ds0, p0, q0, hargs, rfl, rfl, h0, r0⟩ := trodAll_cons hA
  obtain ⟨v1, vs1, d1, ds1, p1, q1, rfl, rfl, rfl, h1, r1⟩ := trodAll_cons r0
  obtain ⟨v2, vs2, d2, ds2, p2, q2, rfl, rfl, rfl, h2, r2⟩ := trodAll_cons r1
  obtain ⟨rfl, rfl, rfl⟩ := trodAll_nil r2
  obtain rfl : args = #[v0, v1, v2] := by cases args; simp_all
  obtain ⟨rfl, rfl⟩ := trodVars_none hV
  obtain ⟨a0, rfl, rfl, rfl, w0⟩ := open_string Try.underlying9 (hval 0 9 v0 rfl rfl) h0
  obtain ⟨a1, len1, cap1, rfl⟩ := okWide_slice Try.underlying22 (hval 1 22 v1 rfl rfl)
  have k1 := h1
  have lt1 : ∀ x ∈ p1, x.block < W.heap.size := by obtain ⟨m, hm⟩ := k1; exact DataW.trod_lt m _ _ _ hm
  obtain ⟨z1, w1, l1⟩ := open_shapes h1
  obtain ⟨a2, rfl, rfl, rfl, w2⟩ := open_int Try.underlying3 (hval 2 3 v2 rfl rfl) h2
  clear hA0 hval0
  refine (walk a0 a1 len1 cap1 z1 a2 W w0 w1 l1).mono fun e W' ⟨he, bel⟩ => ?_
  subst he
  exact ⟨_, rfl, _, _, _, [], _, [], hW', trodAll_mk1 (shut_bool Try.underlying4 _), (trodAll_cons_mk (shut_string Try.underlying9 w0) (trodAll_cons_mk (Below.trod Try.laidOut (by kernel_rfl) (of_decide_eq_true (by kernel_rfl)) k1 bel lt1) (trodAll_cons_mk (shut_int Try.underlying3 w2) trodAll_mk0))), rfl, bel.frame _, fun h => by cases h⟩

theorem over : Rows.fnPatternsPartitionByKeywordRow.holds Try.pinned (OpenSpec.ofChange Rows.fnPatternsPartitionByKeywordSpec) :=
  OpenClaim.holds_of_wide 4 Try.f4 rfl rfl rfl rfl rfl rfl rfl ⟨rfl, rfl, rfl, rfl, rfl⟩ rfl rfl rfl rfl rfl (by kernel_rfl) Try.func4 (by kernel_rfl)
    (of_decide_eq_true (by kernel_rfl)) (by unfold Func.isWrapper; first | (rw [if_pos (by decide +kernel)]; kernel_rfl) | (rw [if_neg (by decide +kernel)]; exact ⟨rfl, rfl⟩))
    (fun os started H enc _ => lifted os started H enc)

theorem proved : Rows.FnPatternsPartitionByKeywordSaid := over
end Go.Proofs.Qxb6627478a.fnPatternsPartitionByKeyword
