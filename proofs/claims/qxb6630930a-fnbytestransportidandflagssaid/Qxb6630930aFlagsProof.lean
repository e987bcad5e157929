import Derived.Test.Qxb6630930aFlags
namespace Go.Proofs.Qxb6630930a.fnBytesTransportIDAndFlags
open Go.ChangeShapes Go.WideShapes Go.ChangeAt Go.RowKit
set_option linter.unusedVariables false

set_option maxHeartbeats 1000000 in
set_option maxRecDepth 100000 in
/-- Too long: true at once. -/
theorem long (t dt pr : Int) (cf : Bool) (hops : Int) (tid dst : List Int) (ctx : Int) (a : Option Addr) (len cap : Nat) (w : World)
    (HT : Hid (tid.length = 16)) (HD : Hid (dst.length = 16)) (hl : 1048576 < len) :
    Calls Try.prog 4 #[.int .u8 t, .int .u8 dt, .int .u8 pr, .bool cf, .int .u8 hops, .agg (arr tid), .agg (arr dst), .int .u8 ctx, .slice a len cap] w
      fun e w' => e = .returned (.bool true) ∧ Below w.heap.size w w' := by
  have hA0 := heap_alloc2_old w (.cells (arr tid) 22) (.cells (arr dst) 22)
  have hB0 := heap_alloc2_new w (.cells (arr tid) 22) (.cells (arr dst) 22)
  have hb0 : Below w.heap.size w ((w.alloc (.cells (arr tid) 22)).alloc (.cells (arr dst) 22)) := ((Below.refl _ _).alloc (Nat.le_refl _) _).alloc (by simp) _
  go_enter Try.func4, Try.ntmps4
  go_wp2_with (first
    | (refine wpList_load_row rfl 22 (.tmp 14) rfl w.heap.size rfl 22 (arr tid) (0,0) _ hA0 Try.underlying22 rfl (size22 HT.out) ?_)
    | (refine wpList_load_row rfl 22 (.tmp 15) rfl (w.heap.size+1) rfl 22 (arr dst) (0,0) _ hB0 Try.underlying22 rfl (size22 HD.out) ?_))
  refine (zz8_no _ _ _ _ _ _ _ _ _ _ _ _ hl).mono ?_
  rintro e w2 ⟨rfl, hb⟩
  have hb2 : Below w.heap.size w w2 := hb0.trans (hb.mono (by rw [size_alloc2]; omega))
  clear hA0 hB0 hb0 hb
  go_wp2
  go_ret
  exact ⟨rfl, hb2⟩

theorem walk (t dt pr : Int) (cf : Bool) (hops : Int) (tid dst : List Int) (ctx : Int) (a : Option Addr) (len cap : Nat) (zs : List Int) (w : World)
    (wt : (Lit.int .u8 t).wf = true) (wdt : (Lit.int .u8 dt).wf = true) (wpr : (Lit.int .u8 pr).wf = true) (whops : (Lit.int .u8 hops).wf = true)
    (htid : tid.length = 16) (hdst : dst.length = 16) (wctx : (Lit.int .u8 ctx).wf = true) (hd : IsRow .u8 w a len cap zs) :
    Calls Try.prog 4 #[.int .u8 t, .int .u8 dt, .int .u8 pr, .bool cf, .int .u8 hops, .agg (arr tid), .agg (arr dst), .int .u8 ctx, .slice a len cap] w
      fun e w' => e = .returned (.bool true) ∧ Below w.heap.size w w' := by
  by_cases hl : len ≤ 1048576
  · have bt := bounds_of wt
    have bdt := bounds_of wdt
    have bpr := bounds_of wpr
    exact law4 t dt pr cf hops tid dst ctx a len cap zs w bt.1 bt.2 bdt.1 bdt.2 bpr.1 bpr.2 hl htid hdst hd.dataAt
  · exact long t dt pr cf hops tid dst ctx a len cap w htid hdst (by omega)

set_option maxRecDepth 100000 in
theorem lifted (os : Os) (started : os.Started) (H : Type) (enc : TypeId × Value → H) :
    ReturnsInHanded {} Try.checked os 4 .any (Rows.fnBytesTransportIDAndFlagsSpec.pre6 enc Try.prog Try.f4 Rows.fnBytesTransportIDAndFlagsRow.domain false) (Rows.fnBytesTransportIDAndFlagsSpec.post enc Try.prog Try.f4 false true false false) := by
  refine returnsInHanded_of_change (C := Try.checked) Try.own started (by kernel_rfl) Try.func4
    (ChangeSpec.witness6 (enc := enc) (C := Try.checked) false ⟨#[], #[.int .u8 0, .int .u8 0, .int .u8 0, .bool false, .int .u8 0, .agg #[.int .u8 0, .int .u8 0, .int .u8 0, .int .u8 0, .int .u8 0, .int .u8 0, .int .u8 0, .int .u8 0, .int .u8 0, .int .u8 0, .int .u8 0, .int .u8 0, .int .u8 0, .int .u8 0, .int .u8 0, .int .u8 0], .agg #[.int .u8 0, .int .u8 0, .int .u8 0, .int .u8 0, .int .u8 0, .int .u8 0, .int .u8 0, .int .u8 0, .int .u8 0, .int .u8 0, .int .u8 0, .int .u8 0, .int .u8 0, .int .u8 0, .int .u8 0, .int .u8 0], .int .u8 0, .slice none 0 0], []⟩ 8 (by kernel_rfl) (by kernel_rfl) (by kernel_rfl) (by kernel_rfl)) ?_
  intro W base args ds gs before hval0 hW hcnd _
  have hval : ∀ (j : Nat) t v, Try.f4.params[j]? = some t → args[j]? = some v → Value.okWide Try.prog W .any base t v := hval0
  have hW' := hW
  obtain ⟨p, q, hA0, hV, rfl, hfz, hnd⟩ := hW
  have hA : DataW.TrodAll enc Try.prog W 0 (fun _ => true) true Try.f4.params.toList args.toList ds p := hA0
  rw [Try.params4] at hA hval
  obtain ⟨v0, vs0, d0, ds0, p0, q0, hargs, rfl, rfl, h0, r0⟩ := trodAll_cons hA
  obtain ⟨v1, vs1, d1, ds1, p1, q1, rfl, rfl, rfl, h1, r1⟩ := trodAll_cons r0
  obtain ⟨v2, vs2, d2, ds2, p2, q2, rfl, rfl, rfl, h2, r2⟩ := trodAll_cons r1
  obtain ⟨v3, vs3, d3, ds3, p3, q3, rfl, rfl, rfl, h3, r3⟩ := trodAll_cons r2
  obtain ⟨v4, vs4, d4, ds4, p4, q4, rfl, rfl, rfl, h4, r4⟩ := trodAll_cons r3
  obtain ⟨v5, vs5, d5, ds5, p5, q5, rfl, rfl, rfl, h5, r5⟩ := trodAll_cons r4
  obtain ⟨v6, vs6, d6, ds6, p6, q6, rfl, rfl, rfl, h6, r6⟩ := trodAll_cons r5
  obtain ⟨v7, vs7, d7, ds7, p7, q7, rfl, rfl, rfl, h7, r7⟩ := trodAll_cons r6
  obtain ⟨v8, vs8, d8, ds8, p8, q8, rfl, rfl, rfl, h8, r8⟩ := trodAll_cons r7
  obtain ⟨rfl, rfl, rfl⟩ := trodAll_nil r8
  obtain rfl : args = #[v0, v1, v2, v3, v4, v5, v6, v7, v8] := by cases args; simp_all
  obtain ⟨rfl, rfl⟩ := trodVars_none hV
  obtain ⟨a0, rfl, rfl, rfl, w0⟩ := open_int Try.underlying5 (hval 0 5 v0 rfl rfl) h0
  obtain ⟨a1, rfl, rfl, rfl, w1⟩ := open_int Try.underlying5 (hval 1 5 v1 rfl rfl) h1
  obtain ⟨a2, rfl, rfl, rfl, w2⟩ := open_int Try.underlying5 (hval 2 5 v2 rfl rfl) h2
  obtain ⟨a3, rfl, rfl, rfl⟩ := open_bool Try.underlying4 (hval 3 4 v3 rfl rfl) h3
  obtain ⟨a4, rfl, rfl, rfl, w4⟩ := open_int Try.underlying5 (hval 4 5 v4 rfl rfl) h4
  have k5 := h5
  have lt5 : ∀ x ∈ p5, x.block < W.heap.size := by obtain ⟨m, hm⟩ := k5; exact DataW.trod_lt m _ _ _ hm
  obtain ⟨a5, rfl, w5⟩ := open_bytes16 (hval 5 22 v5 rfl rfl) h5
  have k6 := h6
  have lt6 : ∀ x ∈ p6, x.block < W.heap.size := by obtain ⟨m, hm⟩ := k6; exact DataW.trod_lt m _ _ _ hm
  obtain ⟨a6, rfl, w6⟩ := open_bytes16 (hval 6 22 v6 rfl rfl) h6
  obtain ⟨a7, rfl, rfl, rfl, w7⟩ := open_int Try.underlying5 (hval 7 5 v7 rfl rfl) h7
  obtain ⟨a8, len8, cap8, rfl⟩ := okWide_slice Try.underlying23 (hval 8 23 v8 rfl rfl)
  have k8 := h8
  have lt8 : ∀ x ∈ p8, x.block < W.heap.size := by obtain ⟨m, hm⟩ := k8; exact DataW.trod_lt m _ _ _ hm
  obtain ⟨z8, w8⟩ : ∃ zs, IsRow .u8 W a8 len8 cap8 zs := by
    obtain ⟨fuel, hf⟩ := h8
    rcases open_ints Try.underlying23 Try.underlying5 (by kernel_rfl) hf with ⟨hcs, _⟩ | ⟨x, l, c, zs, hcs, _, hl, hm, hz, _, hcell, hwz⟩
    · simp [Value.cells] at hcs
      obtain ⟨rfl, rfl, rfl⟩ := hcs
      exact ⟨[], .inl ⟨rfl, rfl, rfl, rfl⟩⟩
    · simp [Value.cells] at hcs
      obtain ⟨rfl, rfl, rfl⟩ := hcs
      exact ⟨zs, .inr ⟨_, rfl, hl, hm, by simpa using hz, hcell, hwz⟩⟩
  clear hA0 hval0
  refine (walk a0 a1 a2 a3 a4 a5 a6 a7 a8 len8 cap8 z8 W w0 w1 w2 w4 w5 w6 w7 w8).mono fun e W' ⟨he, bel⟩ => ?_
  subst he
  exact ⟨_, rfl, _, _, _, [], _, [], hW', trodAll_mk1 (shut_bool Try.underlying4 _), (trodAll_cons_mk (shut_int Try.underlying5 w0) (trodAll_cons_mk (shut_int Try.underlying5 w1) (trodAll_cons_mk (shut_int Try.underlying5 w2) (trodAll_cons_mk (shut_bool Try.underlying4 a3) (trodAll_cons_mk (shut_int Try.underlying5 w4) (trodAll_cons_mk (Below.trod Try.laidOut (by kernel_rfl) (of_decide_eq_true (by kernel_rfl)) k5 bel lt5) (trodAll_cons_mk (Below.trod Try.laidOut (by kernel_rfl) (of_decide_eq_true (by kernel_rfl)) k6 bel lt6) (trodAll_cons_mk (shut_int Try.underlying5 w7) (trodAll_cons_mk (Below.trod Try.laidOut (by kernel_rfl) (of_decide_eq_true (by kernel_rfl)) k8 bel lt8) trodAll_mk0))))))))), rfl, bel.frame _, fun h => by cases h⟩

theorem over : Rows.fnBytesTransportIDAndFlagsRow.holds Try.pinned (OpenSpec.ofChange Rows.fnBytesTransportIDAndFlagsSpec) :=
  OpenClaim.holds_of_wide 4 Try.f4 rfl rfl rfl rfl rfl rfl rfl ⟨rfl, rfl, rfl, rfl, rfl⟩ rfl rfl rfl rfl rfl (by kernel_rfl) Try.func4 (by kernel_rfl)
    (of_decide_eq_true (by kernel_rfl)) (by unfold Func.isWrapper; first | (rw [if_pos (by decide +kernel)]; kernel_rfl) | (rw [if_neg (by decide +kernel)]; exact ⟨rfl, rfl⟩))
    (fun os started H enc _ => lifted os started H enc)

theorem proved : Rows.FnBytesTransportIDAndFlagsSaid := over
end Go.Proofs.Qxb6630930a.fnBytesTransportIDAndFlags
