import Derived.Test.Qxb6630930aHead
import Derived.Test.Qxb6630930aOpen
namespace Go.Proofs.Qxb6630930a
open Go.ChangeShapes Go.WideShapes Go.ChangeAt Go.RowKit

set_option maxHeartbeats 400000 in
theorem zz8_yes (t dt pr : Int) (cf : Bool) (hops : Int) (A B : Array Value) (ctx : Int) (a : Option Addr) (len cap : Nat) (w : World) (hl : len ≤ 1048576) :
    Calls Try.prog 8 #[.int .u8 t, .int .u8 dt, .int .u8 pr, .bool cf, .int .u8 hops, .agg A, .agg B, .int .u8 ctx, .slice a len cap] w
      fun e w' => e = .returned (.bool true) ∧ Below w.heap.size w w' := by
  go_enter Try.func8, Try.ntmps8
  go_wp2
  go_ret
  exact ⟨rfl, ((Below.refl _ _).alloc (Nat.le_refl _) _).alloc (by simp) _⟩
set_option maxHeartbeats 400000 in
theorem zz8_no (t dt pr : Int) (cf : Bool) (hops : Int) (A B : Array Value) (ctx : Int) (a : Option Addr) (len cap : Nat) (w : World) (hl : 1048576 < len) :
    Calls Try.prog 8 #[.int .u8 t, .int .u8 dt, .int .u8 pr, .bool cf, .int .u8 hops, .agg A, .agg B, .int .u8 ctx, .slice a len cap] w
      fun e w' => e = .returned (.bool false) ∧ Below w.heap.size w w' := by
  go_enter Try.func8, Try.ntmps8
  go_wp2
  go_ret
  exact ⟨rfl, ((Below.refl _ _).alloc (Nat.le_refl _) _).alloc (by simp) _⟩

theorem flg_facts (t dt pr : Int) (cf : Bool) : let f := flg t dt pr cf false
    0 ≤ f ∧ f < 64 ∧ f % 4 = t % 4 ∧ f / 4 % 4 = dt % 4 ∧ f / 16 % 2 = pr % 2 ∧ f / 32 % 2 = (if cf then 1 else 0) ∧ f / 64 = 0 ∧ flg t dt pr cf true = f + 64 := by
  cases cf <;> simp [flg] <;> omega

/-- The two-address head against the one-address head. -/
theorem heads (t dt pr : Int) (cf : Bool) (hops : Int) (tid dst : List Int) (ctx : Int) (zs : List Int) (h1 : tid.length = 16) (j : Nat) (hj : 2 ≤ j) :
    (head t dt pr cf hops true tid dst ctx ++ zs).getD (j + 16) 0 = (head t dt pr cf hops false tid dst ctx ++ zs).getD j 0 := by
  obtain ⟨i, rfl⟩ : ∃ i, j = i + 2 := ⟨j - 2, by omega⟩
  simp only [head, List.getD, if_true, Bool.false_eq_true, if_false, List.append_nil, List.append_assoc]
  show ((_ :: _ :: (tid ++ (dst ++ ([ctx] ++ zs))))[i + 2 + 16]?).getD 0 = ((_ :: _ :: (dst ++ ([ctx] ++ zs)))[i + 1 + 1]?).getD 0
  rw [show i + 2 + 16 = (i + 16) + 1 + 1 by omega]
  simp only [List.getElem?_cons_succ]
  rw [List.getElem?_append_right (by omega), show i + 16 - tid.length = i by omega]

theorem wpList_buildAt {P : Program} {ops : Array Oper} {rest : List Oper} {o : Oper} {a : Act} {w : World} {Q : Exit → Act → World → Prop} (d : Nat) (_hdst : o.dst = some d) (hgd : o.guard = none) (ty : TypeId) (parts : Array (Nat × Operand)) (ho : o.op = .build ty parts)
    (ps : Array (Nat × Value)) (hps : (parts.map fun (i, x) => (i, a.eval x)) = ps) (v : Value) (hrun : (Instr.build ty ps).run P w = .ok v w) (h : wpList P ops Q rest (a.put o.dst v) w) : wpList P ops Q (o :: rest) a w :=
  wpList_buildOf hgd ty parts ho ps hps v hrun h

set_option maxHeartbeats 1000000 in
set_option maxRecDepth 100000 in
theorem law4 (t dt pr : Int) (cf : Bool) (hops : Int) (tid dst : List Int) (ctx : Int) (a : Option Addr) (len cap : Nat) (zs : List Int) (w : World)
    (t0 : 0 ≤ t) (t1 : t ≤ 255) (d0 : 0 ≤ dt) (d1 : dt ≤ 255) (p0 : 0 ≤ pr) (p1 : pr ≤ 255) (hl : len ≤ 1048576)
    (htid : tid.length = 16) (hdst : dst.length = 16) (hd : DataAt w a len cap zs) :
    Calls Try.prog 4 #[.int .u8 t, .int .u8 dt, .int .u8 pr, .bool cf, .int .u8 hops, .agg (arr tid), .agg (arr dst), .int .u8 ctx, .slice a len cap] w
      fun e w' => e = .returned (.bool true) ∧ Below w.heap.size w w' := by
  have HT : Hid (tid.length = 16) := htid
  have HD : Hid (dst.length = 16) := hdst
  clear htid hdst
  have hA0 := heap_alloc2_old w (.cells (arr tid) 22) (.cells (arr dst) 22)
  have hB0 := heap_alloc2_new w (.cells (arr tid) 22) (.cells (arr dst) 22)
  have hb0 : Below w.heap.size w ((w.alloc (.cells (arr tid) 22)).alloc (.cells (arr dst) 22)) := ((Below.refl _ _).alloc (Nat.le_refl _) _).alloc (by simp) _
  go_enter Try.func4, Try.ntmps4
  go_wp2_with (first
    | (refine wpList_load_row rfl 22 (.tmp 14) rfl w.heap.size rfl 22 (arr tid) (0,0) _ hA0 Try.underlying22 rfl (size22 HT.out) ?_)
    | (refine wpList_load_row rfl 22 (.tmp 15) rfl (w.heap.size+1) rfl 22 (arr dst) (0,0) _ hB0 Try.underlying22 rfl (size22 HD.out) ?_))
  refine (zz8_yes _ _ _ _ _ _ _ _ _ _ _ _ hl).mono ?_
  rintro e w2 ⟨rfl, hb⟩
  have hA2 : w2.heap[w.heap.size]? = some (.cells (arr tid) 22 (0, 0)) := (hb.block _ (by rw [size_alloc2]; omega)).trans hA0
  have hB2 : w2.heap[w.heap.size+1]? = some (.cells (arr dst) 22 (0, 0)) := (hb.block _ (by rw [size_alloc2]; omega)).trans hB0
  have hb2 : Below w.heap.size w w2 := hb0.trans (hb.mono (by rw [size_alloc2]; omega))
  have hs2 : w.heap.size + 1 < w2.heap.size := by have := hb.size; rw [size_alloc2] at this; omega
  clear hA0 hB0 hb0 hb
  have hA3 := (Below.heap_alloc w2 (.cells (pk t dt pr cf hops true tid dst ctx (Value.slice a len cap)) 30) _ (by omega)).trans hA2
  have hB3 := (Below.heap_alloc w2 (.cells (pk t dt pr cf hops true tid dst ctx (Value.slice a len cap)) 30) _ (by omega)).trans hB2
  go_wp2_with (first
    | (refine wpList_load_row rfl 22 (.tmp 14) rfl w.heap.size rfl 22 (arr tid) (0,0) _ hA2 Try.underlying22 rfl (size22 HT.out) ?_)
    | (refine wpList_load_row rfl 22 (.tmp 15) rfl (w.heap.size+1) rfl 22 (arr dst) (0,0) _ hB2 Try.underlying22 rfl (size22 HD.out) ?_)
    | (refine wpList_load_row rfl 22 (.tmp 14) rfl w.heap.size rfl 22 (arr tid) (0,0) _ hA3 Try.underlying22 rfl (size22 HT.out) ?_)
    | (refine wpList_load_row rfl 22 (.tmp 15) rfl (w.heap.size+1) rfl 22 (arr dst) (0,0) _ hB3 Try.underlying22 rfl (size22 HD.out) ?_)
    | (refine wpList_buildAt 49 rfl rfl 30 _ rfl (pkParts t dt pr cf hops true tid dst ctx (.slice a len cap)) (by simp [Act.eval, pkParts]) _ (run_build' t dt pr cf hops true tid dst ctx _ _ _ _ HT.out HD.out) ?_)
    | (refine wpList_buildAt 60 rfl rfl 30 _ rfl (pkParts t dt pr cf hops false tid dst ctx (.slice a len cap)) (by simp [Act.eval, pkParts]) _ (run_build' t dt pr cf hops false tid dst ctx _ _ _ _ HT.out HD.out) ?_))
  have hT4 := (Below.heap_alloc (w2.alloc (.cells (pk t dt pr cf hops true tid dst ctx (Value.slice a len cap)) 30)) (.cells (pk t dt pr cf hops false tid dst ctx (Value.slice a len cap)) 30) w2.heap.size (by simp)).trans (heap_alloc_new w2 (.cells (pk t dt pr cf hops true tid dst ctx (Value.slice a len cap)) 30))
  have hO4 := heap_alloc2_new w2 (.cells (pk t dt pr cf hops true tid dst ctx (Value.slice a len cap)) 30) (.cells (pk t dt pr cf hops false tid dst ctx (Value.slice a len cap)) 30)
  have hA4 := (Below.heap_alloc (w2.alloc (.cells (pk t dt pr cf hops true tid dst ctx (Value.slice a len cap)) 30)) (.cells (pk t dt pr cf hops false tid dst ctx (Value.slice a len cap)) 30) w.heap.size (by simp; omega)).trans hA3
  have hb4 := (hb2.alloc hb2.size (.cells (pk t dt pr cf hops true tid dst ctx (Value.slice a len cap)) 30)).alloc (by have := hb2.size; simp; omega) (.cells (pk t dt pr cf hops false tid dst ctx (Value.slice a len cap)) 30)
  have hs4 := size_alloc2 w2 (.cells (pk t dt pr cf hops true tid dst ctx (Value.slice a len cap)) 30) (.cells (pk t dt pr cf hops false tid dst ctx (Value.slice a len cap)) 30)
  have hs5 : w.heap.size < w2.heap.size := by omega
  generalize w2.heap.size = g1 at *
  generalize (w2.alloc (.cells (pk t dt pr cf hops true tid dst ctx (Value.slice a len cap)) 30)).alloc (.cells (pk t dt pr cf hops false tid dst ctx (Value.slice a len cap)) 30) = w4 at *
  have hs4' : g1 + 1 < w4.heap.size := by omega
  clear hA3 hB3 hA2 hB2 hb2 hs2 hs4 w2
  refine (bytes_n (35 + len) g1 t dt pr cf hops true tid dst ctx a len cap zs w4 rfl t0 t1 d0 d1 p0 p1 hl HT.out HD.out hT4 (hd.below hb4 (Nat.le_refl _))).mono ?_
  rintro e w5 ⟨ga, rfl, hga, hga', hca, hb5⟩
  have HCA : Hid (∀ j, j < 35 + len → w5.cell? ⟨ga, j, none⟩ = some (.int .u8 ((head t dt pr cf hops true tid dst ctx ++ zs.take len).getD j 0))) := hca
  clear hca
  have hO5 := (hb5.block (g1 + 1) hs4').trans hO4
  have hA5 := (hb5.block w.heap.size (by omega)).trans hA4
  have hb5' : Below w.heap.size w w5 := hb4.trans (hb5.mono hb4.size)
  clear hO4 hA4 hT4
  go_wp2_with fail
  refine (bytes_n (19 + len) (g1 + 1) t dt pr cf hops false tid dst ctx a len cap zs w5 rfl t0 t1 d0 d1 p0 p1 hl HT.out HD.out hO5 (hd.below hb5' (Nat.le_refl _))).mono ?_
  rintro e w6 ⟨gb, rfl, hgb, hgb', hcb, hb6⟩
  have HCB : Hid (∀ j, j < 19 + len → w6.cell? ⟨gb, j, none⟩ = some (.int .u8 ((head t dt pr cf hops false tid dst ctx ++ zs.take len).getD j 0))) := hcb
  have HCA6 : Hid (∀ j, j < 35 + len → w6.cell? ⟨ga, j, none⟩ = some (.int .u8 ((head t dt pr cf hops true tid dst ctx ++ zs.take len).getD j 0))) := fun j hj => (hb6.cell hga').trans (HCA.out j hj)
  clear hcb HCA
  have hA6 := (hb6.block w.heap.size (by have := hb5.size; omega)).trans hA5
  have hb6' : Below w.heap.size w w6 := hb5'.trans (hb6.mono hb5'.size)
  clear hO5 hA5 hb5 hb6 hb5' hb4
  obtain ⟨f0, f1, e1, e2, e3, e4, e5, e6⟩ := flg_facts t dt pr cf
  obtain ⟨q0, q1, _, _, _⟩ := head_at t dt pr cf hops false tid dst ctx (zs.take len) HT.out HD.out
  obtain ⟨r0, r1, _, _, r4⟩ := head_at t dt pr cf hops true tid dst ctx (zs.take len) HT.out HD.out
  have F0 : w6.cell? ⟨gb, 0, none⟩ = some (.int .u8 (flg t dt pr cf false)) := by rw [HCB.out 0 (by omega), q0]
  have F1 : w6.cell? ⟨ga, 0, none⟩ = some (.int .u8 (flg t dt pr cf false + 64)) := by rw [HCA6.out 0 (by omega), r0, e6]
  have F2 : w6.cell? ⟨gb, 1, none⟩ = some (.int .u8 hops) := by rw [HCB.out 1 (by omega), q1]
  have F3 : w6.cell? ⟨ga, 1, none⟩ = some (.int .u8 hops) := by rw [HCA6.out 1 (by omega), r1]
  have F4 : Hid (∀ j, j < 16 → ∃ x, w6.cell? ⟨ga, 2 + j, none⟩ = some (.int .u8 x) ∧ w6.cell? ⟨w.heap.size, j, none⟩ = some (.int .u8 x)) := fun j hj =>
    ⟨tid.getD j 0, by rw [HCA6.out (2 + j) (by omega)]; exact congrArg _ (congrArg _ (r4 rfl j hj)), by rw [cell_of_row w6 _ j _ _ _ hA6]; simp [arr, HT.out, hj]⟩
  have F5 : Hid (∀ j, 2 ≤ j → j < 19 + len → ∃ x, w6.cell? ⟨ga, j + 16, none⟩ = some (.int .u8 x) ∧ w6.cell? ⟨gb, j, none⟩ = some (.int .u8 x)) := fun j h2 hj =>
    ⟨_, by rw [HCA6.out (j + 16) (by omega), heads _ _ _ _ _ _ _ _ _ HT.out j h2], HCB.out j hj⟩
  generalize flg t dt pr cf false = f at *
  clear q0 q1 r0 r1 r4 HCA6 HCB hA6 hd e6
  have E1 : (f % 4 != t % 4) = false := by rw [e1]; simp
  have E2 : (f / 4 % 4 != dt % 4) = false := by rw [e2]; simp
  have E3 : (f / 16 % 2 != pr % 2) = false := by rw [e3]; simp
  have E5 : (f / 64 != 0) = false := by rw [e5]; simp
  clear e1 e2 e3 e5
  have b0 : (0 : Int) < ((19 + len : Nat) : Int) := by omega
  have b1 : (1 : Int) < ((19 + len : Nat) : Int) := by omega
  have b2 : (0 : Int) < ((35 + len : Nat) : Int) := by omega
  have b3 : (1 : Int) < ((35 + len : Nat) : Int) := by omega
  cases cf
  all_goals
    simp only [Bool.false_eq_true, if_false, if_true] at e4
    go_wp2
    go_quiet (fail)
    go_wp2_with fail
    go_loopw [24] (fun i wr => ∃ n i3 : Nat, i3 ≤ 16 ∧ i = .int .i64 i3 ∧ wr = w6.drewN n) (fun i _ => 16 - (intOf i).toNat)
    case atStart => exact ⟨_, 0, Nat.zero_le _, rfl, rfl⟩
    case round =>
      obtain ⟨n3, i3, hi3, rfl, rfl⟩ := hrel
      by_cases hlt3 : i3 < 16
      · obtain ⟨x, f1, f2⟩ := F4.out i3 hlt3
        have b4 : (i3 : Int) < 16 := by omega
        have b5 : (2 : Int) + (i3 : Int) < ((35 + len : Nat) : Int) := by omega
        go_wp2_with fail
        go_quiet (fail)
        go_wp2
        go_roundw
        case rel => exact ⟨_, i3 + 1, by omega, by go_num, rfl⟩
        case measure => simp [intOf]; omega
      · go_wp2_with fail
        go_loopw [25] (fun i wr => ∃ n i2 : Nat, 2 ≤ i2 ∧ i2 ≤ 19 + len ∧ i = .int .i64 i2 ∧ wr = w6.drewN n) (fun i _ => 19 + len - (intOf i).toNat)
        case atStart => exact ⟨n3, 2, Nat.le_refl _, by omega, rfl, rfl⟩
        case round =>
          obtain ⟨n2, i2, hki, hil, rfl, rfl⟩ := hrel
          by_cases hlt2 : i2 < 19 + len
          · obtain ⟨x, f1, f2⟩ := F5.out i2 hki hlt2
            have b4 : (i2 : Int) < ((19 + len : Nat) : Int) := by omega
            have b5 : (i2 : Int) + 16 < ((35 + len : Nat) : Int) := by omega
            go_wp2_with fail
            go_quiet (fail)
            go_wp2
            go_roundw
            case rel => exact ⟨_, i2 + 1, by omega, by omega, by go_num, rfl⟩
            case measure => simp [intOf]; omega
          · go_wp2
            go_ret
            exact ⟨rfl, ⟨hb6'.os, hb6'.tape, hb6'.output, hb6'.size, hb6'.block⟩⟩
end Go.Proofs.Qxb6630930a
