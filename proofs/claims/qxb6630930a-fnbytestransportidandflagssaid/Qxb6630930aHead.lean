import Derived.Test.Qxb6630930aPk
namespace Go.Proofs.Qxb6630930a
open Go.ChangeShapes Go.WideShapes Go.ChangeAt Go.RowKit

theorem size22 {l : List Int} (h : l.length = 16) : (Try.prog.info? 22).map (·.size) = some (arr l).size := by
  rw [arr_size h]; kernel_rfl

theorem bytes_n (n b : Nat) (t dt pr : Int) (cf : Bool) (hops : Int) (ht : Bool) (tid dst : List Int) (ctx : Int) (a : Option Addr) (len cap : Nat) (zs : List Int) (w : World) (hn : headLen ht + len = n)
    (t0 : 0 ≤ t) (t1 : t ≤ 255) (d0 : 0 ≤ dt) (d1 : dt ≤ 255) (p0 : 0 ≤ pr) (p1 : pr ≤ 255) (hl : len ≤ 1048576)
    (htid : tid.length = 16) (hdst : dst.length = 16) (hg : w.heap[b]? = some (.cells (pk t dt pr cf hops ht tid dst ctx (.slice a len cap)) 30 (0, 0))) (hd : DataAt w a len cap zs) :
    Calls Try.prog 6 #[.pointer (some ⟨b, 0, none⟩)] w fun e w' => ∃ g, e = .returned (.slice (some ⟨g, 0, none⟩) n n) ∧ w.heap.size ≤ g ∧ g < w'.heap.size ∧
      (∀ j, j < n → w'.cell? ⟨g, j, none⟩ = some (.int .u8 ((head t dt pr cf hops ht tid dst ctx ++ zs.take len).getD j 0))) ∧ Below w.heap.size w w' := by
  subst hn
  exact bytes_row b t dt pr cf hops ht tid dst ctx a len cap zs w t0 t1 d0 d1 p0 p1 hl htid hdst hg hd
theorem size_n (n b : Nat) {t dt pr : Int} {cf : Bool} {hops : Int} {ht : Bool} {tid dst : List Int} {ctx : Int} {a : Option Addr} {len cap : Nat} {w : World} (hn : headLen ht + len = n) (hl : len ≤ 1048576)
    (htid : tid.length = 16) (hdst : dst.length = 16) (hg : w.heap[b]? = some (.cells (pk t dt pr cf hops ht tid dst ctx (.slice a len cap)) 30 (0, 0))) :
    Calls Try.prog 7 #[.pointer (some ⟨b, 0, none⟩)] w fun e w' => e = .returned (.int .i64 (n : Int)) ∧ w' = w := by
  subst hn
  obtain ⟨c0, c1, c2, c3, c4, c5, c6, c22, c38, c39⟩ := pk_cell htid hdst hg
  exact size_any b ht a len cap w hl c5 c39
theorem getD_take (zs : List Int) (n j : Nat) (h : j < n) : (zs.take n).getD j 0 = zs.getD j 0 := by
  simp [h]
theorem getD_app (H zs : List Int) (n j : Nat) (h : j < H.length + n) : (H ++ zs.take n).getD j 0 = (H ++ zs).getD j 0 := by
  by_cases h1 : j < H.length
  · simp [List.getElem?_append_left h1]
  · simp [List.getElem?_append_right (Nat.le_of_not_lt h1), show j - H.length < n by omega]
theorem getD_app_r (H zs : List Int) (n j : Nat) (h : j < n) : (H ++ zs.take n).getD (H.length + j) 0 = zs.getD j 0 := by
  simp only [List.getD]
  rw [List.getElem?_append_right (by omega)]
  simp [h]
theorem head_at (t dt pr : Int) (cf : Bool) (hops : Int) (ht : Bool) (tid dst : List Int) (ctx : Int) (zs : List Int) (h1 : tid.length = 16) (h2 : dst.length = 16) :
    let L := head t dt pr cf hops ht tid dst ctx ++ zs
    let off := if ht then 18 else 2
    L.getD 0 0 = flg t dt pr cf ht ∧ L.getD 1 0 = hops ∧ (∀ j, j < 16 → L.getD (off + j) 0 = dst.getD j 0) ∧ L.getD (off + 16) 0 = ctx ∧ (ht = true → ∀ j, j < 16 → L.getD (2 + j) 0 = tid.getD j 0) := by
  cases ht
  · refine ⟨by simp [head], by simp [head], fun j hj => ?_, ?_, by simp⟩
    · simp only [head, List.getD, Bool.false_eq_true, if_false, List.append_nil, List.append_assoc]
      rw [List.getElem?_append_right (by simp), List.getElem?_append_left (by simp; omega)]
      simp
    · simp only [head, List.getD, Bool.false_eq_true, if_false, List.append_nil, List.append_assoc]
      rw [List.getElem?_append_right (by simp), List.getElem?_append_right (by simp; omega)]
      simp [h2]
  · refine ⟨by simp [head], by simp [head], fun j hj => ?_, ?_, fun _ j hj => ?_⟩
    · simp only [head, List.getD, if_true, List.append_assoc]
      rw [List.getElem?_append_right (by simp; omega), List.getElem?_append_right (by simp; omega), List.getElem?_append_left (by simp; omega)]
      simp [h1, show 18 + j - 2 - 16 = j by omega]
    · simp only [head, List.getD, if_true, List.append_assoc]
      rw [List.getElem?_append_right (by simp), List.getElem?_append_right (by simp; omega), List.getElem?_append_right (by simp; omega)]
      simp [h1, h2]
    · simp only [head, List.getD, if_true, List.append_assoc]
      rw [List.getElem?_append_right (by simp), List.getElem?_append_left (by simp; omega)]
      simp

theorem size_alloc2 (w : World) (a b : Obj) : ((w.alloc a).alloc b).heap.size = w.heap.size + 2 := by simp

set_option maxHeartbeats 1000000 in
set_option maxRecDepth 100000 in
theorem law3S (t dt pr : Int) (cf : Bool) (hops : Int) (ht : Bool) (tid dst : List Int) (ctx : Int) (bd od len cap : Nat) (zs : List Int) (k : Nat) (w : World)
    (t0 : 0 ≤ t) (t1 : t ≤ 255) (d0 : 0 ≤ dt) (d1 : dt ≤ 255) (p0 : 0 ≤ pr) (p1 : pr ≤ 255) (hl : len ≤ 1048576) (hk : k ≤ len) (hlc : len ≤ cap)
    (htid : tid.length = 16) (hdst : dst.length = 16) (hd : DataAt w (some ⟨bd, od, none⟩) len cap zs) :
    Calls Try.prog 3 #[.int .u8 t, .int .u8 dt, .int .u8 pr, .bool cf, .int .u8 hops, .bool ht, .agg (arr tid), .agg (arr dst), .int .u8 ctx, .slice (some ⟨bd, od, none⟩) len cap, .int .i64 k] w
      fun e w' => e = .returned (.bool true) ∧ Below w.heap.size w w' := by
  have HT : Hid (tid.length = 16) := htid
  have HD : Hid (dst.length = 16) := hdst
  clear htid hdst
  have hA0 := heap_alloc2_old w (.cells (arr tid) 22) (.cells (arr dst) 22)
  have hB0 := heap_alloc2_new w (.cells (arr tid) 22) (.cells (arr dst) 22)
  have hb0 : Below w.heap.size w ((w.alloc (.cells (arr tid) 22)).alloc (.cells (arr dst) 22)) := ((Below.refl _ _).alloc (Nat.le_refl _) _).alloc (by simp) _
  go_enter Try.func3, Try.ntmps3
  go_wp2_with (first
    | (refine wpList_load_row rfl 22 (.tmp 17) rfl w.heap.size rfl 22 (arr tid) (0,0) _ hA0 Try.underlying22 rfl (size22 HT.out) ?_)
    | (refine wpList_load_row rfl 22 (.tmp 18) rfl (w.heap.size+1) rfl 22 (arr dst) (0,0) _ hB0 Try.underlying22 rfl (size22 HD.out) ?_))
  refine (zz5_yes _ _ _ _ _ _ _ _ _ _ _ _ _ _ hl).mono ?_
  rintro e w2 ⟨rfl, hb⟩
  have hA2 : w2.heap[w.heap.size]? = some (.cells (arr tid) 22 (0, 0)) := (hb.block _ (by rw [size_alloc2]; omega)).trans hA0
  have hB2 : w2.heap[w.heap.size+1]? = some (.cells (arr dst) 22 (0, 0)) := (hb.block _ (by rw [size_alloc2]; omega)).trans hB0
  have hb2 : Below w.heap.size w w2 := hb0.trans (hb.mono (by rw [size_alloc2]; omega))
  have hs2 : w.heap.size + 1 < w2.heap.size := by have := hb.size; rw [size_alloc2] at this; omega
  clear hA0 hB0 hb0 hb
  go_wp2_with (first
    | (refine wpList_load_row rfl 22 (.tmp 17) rfl w.heap.size rfl 22 (arr tid) (0,0) _ hA2 Try.underlying22 rfl (size22 HT.out) ?_)
    | (refine wpList_load_row rfl 22 (.tmp 18) rfl (w.heap.size+1) rfl 22 (arr dst) (0,0) _ hB2 Try.underlying22 rfl (size22 HD.out) ?_)
    | (refine wpList_buildOf rfl 30 _ rfl (pkParts t dt pr cf hops ht tid dst ctx (.slice (some ⟨bd, od, none⟩) len cap)) (by simp [Act.eval, pkParts]) _ (run_build' t dt pr cf hops ht tid dst ctx _ _ _ _ HT.out HD.out) ?_))
  have hA3 := (Below.heap_alloc w2 (.cells (pk t dt pr cf hops ht tid dst ctx (Value.slice (some ⟨bd, od, none⟩) len cap)) 30) _ (by omega)).trans hA2
  have hB3 := (Below.heap_alloc w2 (.cells (pk t dt pr cf hops ht tid dst ctx (Value.slice (some ⟨bd, od, none⟩) len cap)) 30) _ (by omega)).trans hB2
  have hP3 := heap_alloc_new w2 (.cells (pk t dt pr cf hops ht tid dst ctx (Value.slice (some ⟨bd, od, none⟩) len cap)) 30)
  have hb3 := hb2.alloc hb2.size (.cells (pk t dt pr cf hops ht tid dst ctx (Value.slice (some ⟨bd, od, none⟩) len cap)) 30)
  have hs3 : w2.heap.size < (w2.alloc (.cells (pk t dt pr cf hops ht tid dst ctx (Value.slice (some ⟨bd, od, none⟩) len cap)) 30)).heap.size := by simp
  generalize w2.heap.size = g1 at *
  generalize w2.alloc (.cells (pk t dt pr cf hops ht tid dst ctx (Value.slice (some ⟨bd, od, none⟩) len cap)) 30) = w3 at *
  clear hA2 hB2 hb2 w2
  have hkc : k ≤ cap := by omega
  refine wp_region_still_tail 13 (by kernel_rfl) (by kernel_rfl) ?_
  simp only [List.take_succ_cons, List.take_zero, List.drop_succ_cons, List.drop_zero]
  still_step
  still_step
  still_step
  still_step
  still_step
  still_step
  refine wpStill_load_row rfl 22 (.tmp 17) rfl w.heap.size rfl 22 (arr tid) (0,0) _ hA3 Try.underlying22 rfl (size22 HT.out) ?_
  refine wpStill_load_row rfl 22 (.tmp 18) rfl (w.heap.size+1) rfl 22 (arr dst) (0,0) _ hB3 Try.underlying22 rfl (size22 HD.out) ?_
  still_step
  still_step
  still_step
  still_step
  refine wpStill_buildOf rfl 30 _ rfl (pkParts t dt pr cf hops ht tid dst ctx (.slice (some ⟨bd, od, none⟩) k cap)) (by simp [Act.eval, pkParts]) _ (run_build' t dt pr cf hops ht tid dst ctx _ _ _ _ HT.out HD.out) ?_
  refine wpStill_nil ?_
  go_wp2_with fail
  have hP4 := (Below.heap_alloc w3 (.cells (pk t dt pr cf hops ht tid dst ctx (Value.slice (some ⟨bd, od, none⟩) k cap)) 30) g1 hs3).trans hP3
  have hB4 := (Below.heap_alloc w3 (.cells (pk t dt pr cf hops ht tid dst ctx (Value.slice (some ⟨bd, od, none⟩) k cap)) 30) _ (by omega)).trans hB3
  have hH4 := heap_alloc_new w3 (.cells (pk t dt pr cf hops ht tid dst ctx (Value.slice (some ⟨bd, od, none⟩) k cap)) 30)
  have hb4 := (hb3.alloc hb3.size (.cells (pk t dt pr cf hops ht tid dst ctx (Value.slice (some ⟨bd, od, none⟩) k cap)) 30)).drew
  have hs4 : w3.heap.size < (w3.alloc (.cells (pk t dt pr cf hops ht tid dst ctx (Value.slice (some ⟨bd, od, none⟩) k cap)) 30)).drew.heap.size := by simp
  rw [← heap_drew] at hP4 hB4 hH4
  generalize w3.heap.size = g2 at *
  generalize (w3.alloc (.cells (pk t dt pr cf hops ht tid dst ctx (Value.slice (some ⟨bd, od, none⟩) k cap)) 30)).drew = w4 at *
  clear hA3 hB3 hP3 hb3 w3
  cases ht
  · refine (bytes_n (19 + len) g1 t dt pr cf hops false tid dst ctx (some ⟨bd,od,none⟩) len cap zs w4 rfl t0 t1 d0 d1 p0 p1 hl HT.out HD.out hP4 (hd.below hb4 (Nat.le_refl _))).mono ?_
    rintro e w5 ⟨gw, rfl, hgw, hgw', hcw, hb5⟩
    have HCW : Hid (∀ j, j < 19 + len → w5.cell? ⟨gw, j, none⟩ = some (.int .u8 ((head t dt pr cf hops false tid dst ctx ++ zs.take len).getD j 0))) := hcw
    clear hcw
    have hH5 := (hb5.block g2 hs4).trans hH4
    have hB5 := (hb5.block _ (by omega)).trans hB4
    have hP5 := (hb5.block _ (by omega)).trans hP4
    have hb5' : Below w.heap.size w w5 := hb4.trans (hb5.mono hb4.size)
    clear hH4 hB4 hP4
    go_wp2_with fail
    refine (bytes_n (19 + k) g2 t dt pr cf hops false tid dst ctx (some ⟨bd,od,none⟩) k cap zs w5 rfl t0 t1 d0 d1 p0 p1 (by omega) HT.out HD.out hH5 ((hd.below hb5' (Nat.le_refl _)).cut hk (fun h => by cases h))).mono ?_
    rintro e w6 ⟨gv, rfl, hgv, hgv', hcv, hb6⟩
    have HCV : Hid (∀ j, j < 19 + k → w6.cell? ⟨gv, j, none⟩ = some (.int .u8 ((head t dt pr cf hops false tid dst ctx ++ zs.take k).getD j 0))) := hcv
    clear hcv
    have HCW6 : Hid (∀ j, j < 19 + len → w6.cell? ⟨gw, j, none⟩ = some (.int .u8 ((head t dt pr cf hops false tid dst ctx ++ zs.take len).getD j 0))) := fun j hj => (hb6.cell hgw').trans (HCW.out j hj)
    clear HCW
    have hB6 := (hb6.block _ (by have := hb5.size; omega)).trans hB5
    have hP6 := (hb6.block _ (by have := hb5.size; omega)).trans hP5
    have hb6' : Below w.heap.size w w6 := hb5'.trans (hb6.mono hb5'.size)
    clear hH5 hB5 hP5 hb5 hb6 hb5' hb4
    go_wp2_with fail
    refine (size_n (19 + len) g1 rfl hl HT.out HD.out hP6).mono ?_
    rintro e w7 ⟨rfl, rfl⟩
    clear hP6
    go_wp2_with fail
    have hHl : (head t dt pr cf hops false tid dst ctx).length = 19 := head_length _ _ _ _ _ _ _ _ _ HT.out HD.out
    have F1 : Hid (∀ j, j < 19 + k → ∃ x, w7.cell? ⟨gw, j, none⟩ = some (.int .u8 x) ∧ w7.cell? ⟨gv, j, none⟩ = some (.int .u8 x)) := fun j hj =>
      ⟨_, HCW6.out j (by omega), by rw [getD_app _ _ len j (by omega), ← getD_app _ _ k j (by omega)]; exact HCV.out j hj⟩
    have F2 : Hid (∀ j, j < len → ∃ x, w7.cell? ⟨gw, 19 + j, none⟩ = some (.int .u8 x) ∧ w7.cell? ⟨bd, od + j, none⟩ = some (.int .u8 x)) := fun j hj =>
      ⟨zs.getD j 0, by rw [HCW6.out (19 + j) (by omega), ← hHl, getD_app_r _ _ _ _ hj], by have := (hd.below hb6' (Nat.le_refl _)).2.2.2 _ rfl j hj; rwa [Addr.add_lit] at this⟩
    obtain ⟨_, q1, q2, q3, _⟩ := head_at t dt pr cf hops false tid dst ctx (zs.take len) HT.out HD.out
    have F3 : w7.cell? ⟨gw, 1, none⟩ = some (.int .u8 hops) := by rw [HCW6.out 1 (by omega), q1]
    have F4 : Hid (∀ j, j < 16 → ∃ x, w7.cell? ⟨gw, 2 + j, none⟩ = some (.int .u8 x) ∧ w7.cell? ⟨w.heap.size + 1, j, none⟩ = some (.int .u8 x)) := fun j hj =>
      ⟨dst.getD j 0, by rw [HCW6.out (2 + j) (by omega)]; exact congrArg _ (congrArg _ (q2 j hj)), by rw [cell_of_row w7 _ j _ _ _ hB6]; simp [arr, HD.out, hj]⟩
    have F5 : w7.cell? ⟨gw, 18, none⟩ = some (.int .u8 ctx) := by rw [HCW6.out 18 (by omega)]; exact congrArg _ (congrArg _ q3)
    clear hHl q1 q2 q3 HCW6 HCV hB6 hd
    go_loopw [28] (fun i wr => ∃ n kk : Nat, kk ≤ 19 + k ∧ i = .int .i64 kk ∧ wr = w7.drewN n) (fun i _ => 19 + k - (intOf i).toNat)
    case atStart => exact ⟨0, 0, Nat.zero_le _, rfl, rfl⟩
    case round =>
      obtain ⟨n, kk, hkk, rfl, rfl⟩ := hrel
      by_cases hlt : kk < 19 + k
      · obtain ⟨x, f1, f2⟩ := F1.out kk hlt
        have b1 : (kk : Int) < ((19 + len : Nat) : Int) := by omega
        have b2 : (kk : Int) < ((19 + k : Nat) : Int) := by omega
        go_wp2_with fail
        go_quiet (fail)
        go_wp2
        go_roundw
        case rel => exact ⟨_, kk + 1, by omega, by go_num, rfl⟩
        case measure => simp [intOf]; omega
      · go_wp2_with fail
        go_loopw [29] (fun i wr => ∃ n i2 : Nat, k ≤ i2 ∧ i2 ≤ len ∧ i = .int .i64 i2 ∧ wr = w7.drewN n) (fun i _ => len - (intOf i).toNat)
        case atStart => exact ⟨n, k, Nat.le_refl _, hk, rfl, rfl⟩
        case round =>
          obtain ⟨n2, i2, hki, hil, rfl, rfl⟩ := hrel
          by_cases hlt2 : i2 < len
          · obtain ⟨x, f1, f2⟩ := F2.out i2 hlt2
            have b1 : (i2 : Int) < (len : Int) := by omega
            have b2 : (19 : Int) + (i2 : Int) < ((19 + len : Nat) : Int) := by omega
            have hsub : (19 : Int) + (k : Int) + (i2 : Int) - (k : Int) = 19 + (i2 : Int) := by omega
            go_wp2_with fail
            go_quiet (fail)
            go_wp2
            go_roundw
            case rel => exact ⟨_, i2 + 1, by omega, by omega, by go_num, rfl⟩
            case measure => simp [intOf]; omega
          · go_wp2_with fail
            go_loopw [31] (fun i wr => ∃ n i3 : Nat, i3 ≤ 16 ∧ i = .int .i64 i3 ∧ wr = w7.drewN n) (fun i _ => 16 - (intOf i).toNat)
            case atStart => exact ⟨n2, 0, Nat.zero_le _, rfl, rfl⟩
            case round =>
              obtain ⟨n3, i3, hi3, rfl, rfl⟩ := hrel
              by_cases hlt3 : i3 < 16
              · obtain ⟨x, f1, f2⟩ := F4.out i3 hlt3
                have b1 : (i3 : Int) < 16 := by omega
                have b2 : (2 : Int) + (i3 : Int) < ((19 + len : Nat) : Int) := by omega
                go_wp2_with fail
                go_quiet (fail)
                go_wp2
                go_roundw
                case rel => exact ⟨_, i3 + 1, by omega, by go_num, rfl⟩
                case measure => simp [intOf]; omega
              · have b2 : (18 : Int) < ((19 + len : Nat) : Int) := by omega
                go_wp2
                go_ret
                exact ⟨rfl, ⟨hb6'.os, hb6'.tape, hb6'.output, hb6'.size, hb6'.block⟩⟩
  · refine (bytes_n (35 + len) g1 t dt pr cf hops true tid dst ctx (some ⟨bd,od,none⟩) len cap zs w4 rfl t0 t1 d0 d1 p0 p1 hl HT.out HD.out hP4 (hd.below hb4 (Nat.le_refl _))).mono ?_
    rintro e w5 ⟨gw, rfl, hgw, hgw', hcw, hb5⟩
    have HCW : Hid (∀ j, j < 35 + len → w5.cell? ⟨gw, j, none⟩ = some (.int .u8 ((head t dt pr cf hops true tid dst ctx ++ zs.take len).getD j 0))) := hcw
    clear hcw
    have hH5 := (hb5.block g2 hs4).trans hH4
    have hB5 := (hb5.block _ (by omega)).trans hB4
    have hP5 := (hb5.block _ (by omega)).trans hP4
    have hb5' : Below w.heap.size w w5 := hb4.trans (hb5.mono hb4.size)
    clear hH4 hB4 hP4
    go_wp2_with fail
    refine (bytes_n (35 + k) g2 t dt pr cf hops true tid dst ctx (some ⟨bd,od,none⟩) k cap zs w5 rfl t0 t1 d0 d1 p0 p1 (by omega) HT.out HD.out hH5 ((hd.below hb5' (Nat.le_refl _)).cut hk (fun h => by cases h))).mono ?_
    rintro e w6 ⟨gv, rfl, hgv, hgv', hcv, hb6⟩
    have HCV : Hid (∀ j, j < 35 + k → w6.cell? ⟨gv, j, none⟩ = some (.int .u8 ((head t dt pr cf hops true tid dst ctx ++ zs.take k).getD j 0))) := hcv
    clear hcv
    have HCW6 : Hid (∀ j, j < 35 + len → w6.cell? ⟨gw, j, none⟩ = some (.int .u8 ((head t dt pr cf hops true tid dst ctx ++ zs.take len).getD j 0))) := fun j hj => (hb6.cell hgw').trans (HCW.out j hj)
    clear HCW
    have hB6 := (hb6.block _ (by have := hb5.size; omega)).trans hB5
    have hP6 := (hb6.block _ (by have := hb5.size; omega)).trans hP5
    have hb6' : Below w.heap.size w w6 := hb5'.trans (hb6.mono hb5'.size)
    clear hH5 hB5 hP5 hb5 hb6 hb5' hb4
    go_wp2_with fail
    refine (size_n (35 + len) g1 rfl hl HT.out HD.out hP6).mono ?_
    rintro e w7 ⟨rfl, rfl⟩
    clear hP6
    go_wp2_with fail
    have hHl : (head t dt pr cf hops true tid dst ctx).length = 35 := head_length _ _ _ _ _ _ _ _ _ HT.out HD.out
    have F1 : Hid (∀ j, j < 35 + k → ∃ x, w7.cell? ⟨gw, j, none⟩ = some (.int .u8 x) ∧ w7.cell? ⟨gv, j, none⟩ = some (.int .u8 x)) := fun j hj =>
      ⟨_, HCW6.out j (by omega), by rw [getD_app _ _ len j (by omega), ← getD_app _ _ k j (by omega)]; exact HCV.out j hj⟩
    have F2 : Hid (∀ j, j < len → ∃ x, w7.cell? ⟨gw, 35 + j, none⟩ = some (.int .u8 x) ∧ w7.cell? ⟨bd, od + j, none⟩ = some (.int .u8 x)) := fun j hj =>
      ⟨zs.getD j 0, by rw [HCW6.out (35 + j) (by omega), ← hHl, getD_app_r _ _ _ _ hj], by have := (hd.below hb6' (Nat.le_refl _)).2.2.2 _ rfl j hj; rwa [Addr.add_lit] at this⟩
    obtain ⟨_, q1, q2, q3, _⟩ := head_at t dt pr cf hops true tid dst ctx (zs.take len) HT.out HD.out
    have F3 : w7.cell? ⟨gw, 1, none⟩ = some (.int .u8 hops) := by rw [HCW6.out 1 (by omega), q1]
    have F4 : Hid (∀ j, j < 16 → ∃ x, w7.cell? ⟨gw, 18 + j, none⟩ = some (.int .u8 x) ∧ w7.cell? ⟨w.heap.size + 1, j, none⟩ = some (.int .u8 x)) := fun j hj =>
      ⟨dst.getD j 0, by rw [HCW6.out (18 + j) (by omega)]; exact congrArg _ (congrArg _ (q2 j hj)), by rw [cell_of_row w7 _ j _ _ _ hB6]; simp [arr, HD.out, hj]⟩
    have F5 : w7.cell? ⟨gw, 34, none⟩ = some (.int .u8 ctx) := by rw [HCW6.out 34 (by omega)]; exact congrArg _ (congrArg _ q3)
    clear hHl q1 q2 q3 HCW6 HCV hB6 hd
    go_loopw [28] (fun i wr => ∃ n kk : Nat, kk ≤ 35 + k ∧ i = .int .i64 kk ∧ wr = w7.drewN n) (fun i _ => 35 + k - (intOf i).toNat)
    case atStart => exact ⟨0, 0, Nat.zero_le _, rfl, rfl⟩
    case round =>
      obtain ⟨n, kk, hkk, rfl, rfl⟩ := hrel
      by_cases hlt : kk < 35 + k
      · obtain ⟨x, f1, f2⟩ := F1.out kk hlt
        have b1 : (kk : Int) < ((35 + len : Nat) : Int) := by omega
        have b2 : (kk : Int) < ((35 + k : Nat) : Int) := by omega
        go_wp2_with fail
        go_quiet (fail)
        go_wp2
        go_roundw
        case rel => exact ⟨_, kk + 1, by omega, by go_num, rfl⟩
        case measure => simp [intOf]; omega
      · go_wp2_with fail
        go_loopw [29] (fun i wr => ∃ n i2 : Nat, k ≤ i2 ∧ i2 ≤ len ∧ i = .int .i64 i2 ∧ wr = w7.drewN n) (fun i _ => len - (intOf i).toNat)
        case atStart => exact ⟨n, k, Nat.le_refl _, hk, rfl, rfl⟩
        case round =>
          obtain ⟨n2, i2, hki, hil, rfl, rfl⟩ := hrel
          by_cases hlt2 : i2 < len
          · obtain ⟨x, f1, f2⟩ := F2.out i2 hlt2
            have b1 : (i2 : Int) < (len : Int) := by omega
            have b2 : (35 : Int) + (i2 : Int) < ((35 + len : Nat) : Int) := by omega
            have hsub : (35 : Int) + (k : Int) + (i2 : Int) - (k : Int) = 35 + (i2 : Int) := by omega
            go_wp2_with fail
            go_quiet (fail)
            go_wp2
            go_roundw
            case rel => exact ⟨_, i2 + 1, by omega, by omega, by go_num, rfl⟩
            case measure => simp [intOf]; omega
          · go_wp2_with fail
            go_loopw [31] (fun i wr => ∃ n i3 : Nat, i3 ≤ 16 ∧ i = .int .i64 i3 ∧ wr = w7.drewN n) (fun i _ => 16 - (intOf i).toNat)
            case atStart => exact ⟨n2, 0, Nat.zero_le _, rfl, rfl⟩
            case round =>
              obtain ⟨n3, i3, hi3, rfl, rfl⟩ := hrel
              by_cases hlt3 : i3 < 16
              · obtain ⟨x, f1, f2⟩ := F4.out i3 hlt3
                have b1 : (i3 : Int) < 16 := by omega
                have b2 : (18 : Int) + (i3 : Int) < ((35 + len : Nat) : Int) := by omega
                go_wp2_with fail
                go_quiet (fail)
                go_wp2
                go_roundw
                case rel => exact ⟨_, i3 + 1, by omega, by go_num, rfl⟩
                case measure => simp [intOf]; omega
              · have b2 : (34 : Int) < ((35 + len : Nat) : Int) := by omega
                go_wp2
                go_ret
                exact ⟨rfl, ⟨hb6'.os, hb6'.tape, hb6'.output, hb6'.size, hb6'.block⟩⟩
set_option maxHeartbeats 1000000 in
set_option maxRecDepth 100000 in
theorem law3Z (t dt pr : Int) (cf : Bool) (hops : Int) (ht : Bool) (tid dst : List Int) (ctx : Int) (a : Option Addr) (len cap : Nat) (zs : List Int) (k : Nat) (w : World)
    (t0 : 0 ≤ t) (t1 : t ≤ 255) (d0 : 0 ≤ dt) (d1 : dt ≤ 255) (p0 : 0 ≤ pr) (p1 : pr ≤ 255) (hl : len ≤ 1048576) (hk : k ≤ len) (hlc : len ≤ cap) (HL0 : Hid (len = 0))
    (htid : tid.length = 16) (hdst : dst.length = 16) (hd : DataAt w a len cap zs) :
    Calls Try.prog 3 #[.int .u8 t, .int .u8 dt, .int .u8 pr, .bool cf, .int .u8 hops, .bool ht, .agg (arr tid), .agg (arr dst), .int .u8 ctx, .slice a len cap, .int .i64 k] w
      fun e w' => e = .returned (.bool true) ∧ Below w.heap.size w w' := by
  have HT : Hid (tid.length = 16) := htid
  have HD : Hid (dst.length = 16) := hdst
  clear htid hdst
  have hA0 := heap_alloc2_old w (.cells (arr tid) 22) (.cells (arr dst) 22)
  have hB0 := heap_alloc2_new w (.cells (arr tid) 22) (.cells (arr dst) 22)
  have hb0 : Below w.heap.size w ((w.alloc (.cells (arr tid) 22)).alloc (.cells (arr dst) 22)) := ((Below.refl _ _).alloc (Nat.le_refl _) _).alloc (by simp) _
  go_enter Try.func3, Try.ntmps3
  go_wp2_with (first
    | (refine wpList_load_row rfl 22 (.tmp 17) rfl w.heap.size rfl 22 (arr tid) (0,0) _ hA0 Try.underlying22 rfl (size22 HT.out) ?_)
    | (refine wpList_load_row rfl 22 (.tmp 18) rfl (w.heap.size+1) rfl 22 (arr dst) (0,0) _ hB0 Try.underlying22 rfl (size22 HD.out) ?_))
  refine (zz5_yes _ _ _ _ _ _ _ _ _ _ _ _ _ _ hl).mono ?_
  rintro e w2 ⟨rfl, hb⟩
  have hA2 : w2.heap[w.heap.size]? = some (.cells (arr tid) 22 (0, 0)) := (hb.block _ (by rw [size_alloc2]; omega)).trans hA0
  have hB2 : w2.heap[w.heap.size+1]? = some (.cells (arr dst) 22 (0, 0)) := (hb.block _ (by rw [size_alloc2]; omega)).trans hB0
  have hb2 : Below w.heap.size w w2 := hb0.trans (hb.mono (by rw [size_alloc2]; omega))
  have hs2 : w.heap.size + 1 < w2.heap.size := by have := hb.size; rw [size_alloc2] at this; omega
  clear hA0 hB0 hb0 hb
  go_wp2_with (first
    | (refine wpList_load_row rfl 22 (.tmp 17) rfl w.heap.size rfl 22 (arr tid) (0,0) _ hA2 Try.underlying22 rfl (size22 HT.out) ?_)
    | (refine wpList_load_row rfl 22 (.tmp 18) rfl (w.heap.size+1) rfl 22 (arr dst) (0,0) _ hB2 Try.underlying22 rfl (size22 HD.out) ?_)
    | (refine wpList_buildOf rfl 30 _ rfl (pkParts t dt pr cf hops ht tid dst ctx (.slice a len cap)) (by simp [Act.eval, pkParts]) _ (run_build' t dt pr cf hops ht tid dst ctx _ _ _ _ HT.out HD.out) ?_))
  have hA3 := (Below.heap_alloc w2 (.cells (pk t dt pr cf hops ht tid dst ctx (Value.slice a len cap)) 30) _ (by omega)).trans hA2
  have hB3 := (Below.heap_alloc w2 (.cells (pk t dt pr cf hops ht tid dst ctx (Value.slice a len cap)) 30) _ (by omega)).trans hB2
  have hP3 := heap_alloc_new w2 (.cells (pk t dt pr cf hops ht tid dst ctx (Value.slice a len cap)) 30)
  have hb3 := hb2.alloc hb2.size (.cells (pk t dt pr cf hops ht tid dst ctx (Value.slice a len cap)) 30)
  have hs3 : w2.heap.size < (w2.alloc (.cells (pk t dt pr cf hops ht tid dst ctx (Value.slice a len cap)) 30)).heap.size := by simp
  generalize w2.heap.size = g1 at *
  generalize w2.alloc (.cells (pk t dt pr cf hops ht tid dst ctx (Value.slice a len cap)) 30) = w3 at *
  clear hA2 hB2 hb2 w2
  have hkc : k ≤ cap := by omega
  refine wp_region_still_tail 13 (by kernel_rfl) (by kernel_rfl) ?_
  simp only [List.take_succ_cons, List.take_zero, List.drop_succ_cons, List.drop_zero]
  still_step
  still_step
  still_step
  still_step
  still_step
  still_step
  refine wpStill_load_row rfl 22 (.tmp 17) rfl w.heap.size rfl 22 (arr tid) (0,0) _ hA3 Try.underlying22 rfl (size22 HT.out) ?_
  refine wpStill_load_row rfl 22 (.tmp 18) rfl (w.heap.size+1) rfl 22 (arr dst) (0,0) _ hB3 Try.underlying22 rfl (size22 HD.out) ?_
  still_step
  still_step
  still_step
  still_step
  refine wpStill_buildOf rfl 30 _ rfl (pkParts t dt pr cf hops ht tid dst ctx (.slice a k cap)) (by simp [Act.eval, pkParts]) _ (run_build' t dt pr cf hops ht tid dst ctx _ _ _ _ HT.out HD.out) ?_
  refine wpStill_nil ?_
  go_wp2_with fail
  have hP4 := (Below.heap_alloc w3 (.cells (pk t dt pr cf hops ht tid dst ctx (Value.slice a k cap)) 30) g1 hs3).trans hP3
  have hB4 := (Below.heap_alloc w3 (.cells (pk t dt pr cf hops ht tid dst ctx (Value.slice a k cap)) 30) _ (by omega)).trans hB3
  have hH4 := heap_alloc_new w3 (.cells (pk t dt pr cf hops ht tid dst ctx (Value.slice a k cap)) 30)
  have hb4 := (hb3.alloc hb3.size (.cells (pk t dt pr cf hops ht tid dst ctx (Value.slice a k cap)) 30)).drew
  have hs4 : w3.heap.size < (w3.alloc (.cells (pk t dt pr cf hops ht tid dst ctx (Value.slice a k cap)) 30)).drew.heap.size := by simp
  rw [← heap_drew] at hP4 hB4 hH4
  generalize w3.heap.size = g2 at *
  generalize (w3.alloc (.cells (pk t dt pr cf hops ht tid dst ctx (Value.slice a k cap)) 30)).drew = w4 at *
  clear hA3 hB3 hP3 hb3 w3
  cases ht
  · refine (bytes_n (19 + len) g1 t dt pr cf hops false tid dst ctx a len cap zs w4 rfl t0 t1 d0 d1 p0 p1 hl HT.out HD.out hP4 (hd.below hb4 (Nat.le_refl _))).mono ?_
    rintro e w5 ⟨gw, rfl, hgw, hgw', hcw, hb5⟩
    have HCW : Hid (∀ j, j < 19 + len → w5.cell? ⟨gw, j, none⟩ = some (.int .u8 ((head t dt pr cf hops false tid dst ctx ++ zs.take len).getD j 0))) := hcw
    clear hcw
    have hH5 := (hb5.block g2 hs4).trans hH4
    have hB5 := (hb5.block _ (by omega)).trans hB4
    have hP5 := (hb5.block _ (by omega)).trans hP4
    have hb5' : Below w.heap.size w w5 := hb4.trans (hb5.mono hb4.size)
    clear hH4 hB4 hP4
    go_wp2_with fail
    refine (bytes_n (19 + k) g2 t dt pr cf hops false tid dst ctx a k cap zs w5 rfl t0 t1 d0 d1 p0 p1 (by omega) HT.out HD.out hH5 ((hd.below hb5' (Nat.le_refl _)).cut hk (fun h => (hd.2.1 h).2))).mono ?_
    rintro e w6 ⟨gv, rfl, hgv, hgv', hcv, hb6⟩
    have HCV : Hid (∀ j, j < 19 + k → w6.cell? ⟨gv, j, none⟩ = some (.int .u8 ((head t dt pr cf hops false tid dst ctx ++ zs.take k).getD j 0))) := hcv
    clear hcv
    have HCW6 : Hid (∀ j, j < 19 + len → w6.cell? ⟨gw, j, none⟩ = some (.int .u8 ((head t dt pr cf hops false tid dst ctx ++ zs.take len).getD j 0))) := fun j hj => (hb6.cell hgw').trans (HCW.out j hj)
    clear HCW
    have hB6 := (hb6.block _ (by have := hb5.size; omega)).trans hB5
    have hP6 := (hb6.block _ (by have := hb5.size; omega)).trans hP5
    have hb6' : Below w.heap.size w w6 := hb5'.trans (hb6.mono hb5'.size)
    clear hH5 hB5 hP5 hb5 hb6 hb5' hb4
    go_wp2_with fail
    refine (size_n (19 + len) g1 rfl hl HT.out HD.out hP6).mono ?_
    rintro e w7 ⟨rfl, rfl⟩
    clear hP6
    go_wp2_with fail
    have hHl : (head t dt pr cf hops false tid dst ctx).length = 19 := head_length _ _ _ _ _ _ _ _ _ HT.out HD.out
    have F1 : Hid (∀ j, j < 19 + k → ∃ x, w7.cell? ⟨gw, j, none⟩ = some (.int .u8 x) ∧ w7.cell? ⟨gv, j, none⟩ = some (.int .u8 x)) := fun j hj =>
      ⟨_, HCW6.out j (by omega), by rw [getD_app _ _ len j (by omega), ← getD_app _ _ k j (by omega)]; exact HCV.out j hj⟩
    obtain ⟨_, q1, q2, q3, _⟩ := head_at t dt pr cf hops false tid dst ctx (zs.take len) HT.out HD.out
    have F3 : w7.cell? ⟨gw, 1, none⟩ = some (.int .u8 hops) := by rw [HCW6.out 1 (by omega), q1]
    have F4 : Hid (∀ j, j < 16 → ∃ x, w7.cell? ⟨gw, 2 + j, none⟩ = some (.int .u8 x) ∧ w7.cell? ⟨w.heap.size + 1, j, none⟩ = some (.int .u8 x)) := fun j hj =>
      ⟨dst.getD j 0, by rw [HCW6.out (2 + j) (by omega)]; exact congrArg _ (congrArg _ (q2 j hj)), by rw [cell_of_row w7 _ j _ _ _ hB6]; simp [arr, HD.out, hj]⟩
    have F5 : w7.cell? ⟨gw, 18, none⟩ = some (.int .u8 ctx) := by rw [HCW6.out 18 (by omega)]; exact congrArg _ (congrArg _ q3)
    clear hHl q1 q2 q3 HCW6 HCV hB6 hd
    go_loopw [28] (fun i wr => ∃ n kk : Nat, kk ≤ 19 + k ∧ i = .int .i64 kk ∧ wr = w7.drewN n) (fun i _ => 19 + k - (intOf i).toNat)
    case atStart => exact ⟨0, 0, Nat.zero_le _, rfl, rfl⟩
    case round =>
      obtain ⟨n, kk, hkk, rfl, rfl⟩ := hrel
      by_cases hlt : kk < 19 + k
      · obtain ⟨x, f1, f2⟩ := F1.out kk hlt
        have b1 : (kk : Int) < ((19 + len : Nat) : Int) := by omega
        have b2 : (kk : Int) < ((19 + k : Nat) : Int) := by omega
        go_wp2_with fail
        go_quiet (fail)
        go_wp2
        go_roundw
        case rel => exact ⟨_, kk + 1, by omega, by go_num, rfl⟩
        case measure => simp [intOf]; omega
      · go_wp2_with fail
        go_loopw [29] (fun i wr => ∃ n i2 : Nat, k ≤ i2 ∧ i2 ≤ len ∧ i = .int .i64 i2 ∧ wr = w7.drewN n) (fun i _ => len - (intOf i).toNat)
        case atStart => exact ⟨n, k, Nat.le_refl _, hk, rfl, rfl⟩
        case round =>
          obtain ⟨n2, i2, hki, hil, rfl, rfl⟩ := hrel
          by_cases hlt2 : i2 < len
          · exact absurd HL0.out (by omega)
          · go_wp2_with fail
            go_loopw [31] (fun i wr => ∃ n i3 : Nat, i3 ≤ 16 ∧ i = .int .i64 i3 ∧ wr = w7.drewN n) (fun i _ => 16 - (intOf i).toNat)
            case atStart => exact ⟨n2, 0, Nat.zero_le _, rfl, rfl⟩
            case round =>
              obtain ⟨n3, i3, hi3, rfl, rfl⟩ := hrel
              by_cases hlt3 : i3 < 16
              · obtain ⟨x, f1, f2⟩ := F4.out i3 hlt3
                have b1 : (i3 : Int) < 16 := by omega
                have b2 : (2 : Int) + (i3 : Int) < ((19 + len : Nat) : Int) := by omega
                go_wp2_with fail
                go_quiet (fail)
                go_wp2
                go_roundw
                case rel => exact ⟨_, i3 + 1, by omega, by go_num, rfl⟩
                case measure => simp [intOf]; omega
              · have b2 : (18 : Int) < ((19 + len : Nat) : Int) := by omega
                go_wp2
                go_ret
                exact ⟨rfl, ⟨hb6'.os, hb6'.tape, hb6'.output, hb6'.size, hb6'.block⟩⟩
  · refine (bytes_n (35 + len) g1 t dt pr cf hops true tid dst ctx a len cap zs w4 rfl t0 t1 d0 d1 p0 p1 hl HT.out HD.out hP4 (hd.below hb4 (Nat.le_refl _))).mono ?_
    rintro e w5 ⟨gw, rfl, hgw, hgw', hcw, hb5⟩
    have HCW : Hid (∀ j, j < 35 + len → w5.cell? ⟨gw, j, none⟩ = some (.int .u8 ((head t dt pr cf hops true tid dst ctx ++ zs.take len).getD j 0))) := hcw
    clear hcw
    have hH5 := (hb5.block g2 hs4).trans hH4
    have hB5 := (hb5.block _ (by omega)).trans hB4
    have hP5 := (hb5.block _ (by omega)).trans hP4
    have hb5' : Below w.heap.size w w5 := hb4.trans (hb5.mono hb4.size)
    clear hH4 hB4 hP4
    go_wp2_with fail
    refine (bytes_n (35 + k) g2 t dt pr cf hops true tid dst ctx a k cap zs w5 rfl t0 t1 d0 d1 p0 p1 (by omega) HT.out HD.out hH5 ((hd.below hb5' (Nat.le_refl _)).cut hk (fun h => (hd.2.1 h).2))).mono ?_
    rintro e w6 ⟨gv, rfl, hgv, hgv', hcv, hb6⟩
    have HCV : Hid (∀ j, j < 35 + k → w6.cell? ⟨gv, j, none⟩ = some (.int .u8 ((head t dt pr cf hops true tid dst ctx ++ zs.take k).getD j 0))) := hcv
    clear hcv
    have HCW6 : Hid (∀ j, j < 35 + len → w6.cell? ⟨gw, j, none⟩ = some (.int .u8 ((head t dt pr cf hops true tid dst ctx ++ zs.take len).getD j 0))) := fun j hj => (hb6.cell hgw').trans (HCW.out j hj)
    clear HCW
    have hB6 := (hb6.block _ (by have := hb5.size; omega)).trans hB5
    have hP6 := (hb6.block _ (by have := hb5.size; omega)).trans hP5
    have hb6' : Below w.heap.size w w6 := hb5'.trans (hb6.mono hb5'.size)
    clear hH5 hB5 hP5 hb5 hb6 hb5' hb4
    go_wp2_with fail
    refine (size_n (35 + len) g1 rfl hl HT.out HD.out hP6).mono ?_
    rintro e w7 ⟨rfl, rfl⟩
    clear hP6
    go_wp2_with fail
    have hHl : (head t dt pr cf hops true tid dst ctx).length = 35 := head_length _ _ _ _ _ _ _ _ _ HT.out HD.out
    have F1 : Hid (∀ j, j < 35 + k → ∃ x, w7.cell? ⟨gw, j, none⟩ = some (.int .u8 x) ∧ w7.cell? ⟨gv, j, none⟩ = some (.int .u8 x)) := fun j hj =>
      ⟨_, HCW6.out j (by omega), by rw [getD_app _ _ len j (by omega), ← getD_app _ _ k j (by omega)]; exact HCV.out j hj⟩
    obtain ⟨_, q1, q2, q3, _⟩ := head_at t dt pr cf hops true tid dst ctx (zs.take len) HT.out HD.out
    have F3 : w7.cell? ⟨gw, 1, none⟩ = some (.int .u8 hops) := by rw [HCW6.out 1 (by omega), q1]
    have F4 : Hid (∀ j, j < 16 → ∃ x, w7.cell? ⟨gw, 18 + j, none⟩ = some (.int .u8 x) ∧ w7.cell? ⟨w.heap.size + 1, j, none⟩ = some (.int .u8 x)) := fun j hj =>
      ⟨dst.getD j 0, by rw [HCW6.out (18 + j) (by omega)]; exact congrArg _ (congrArg _ (q2 j hj)), by rw [cell_of_row w7 _ j _ _ _ hB6]; simp [arr, HD.out, hj]⟩
    have F5 : w7.cell? ⟨gw, 34, none⟩ = some (.int .u8 ctx) := by rw [HCW6.out 34 (by omega)]; exact congrArg _ (congrArg _ q3)
    clear hHl q1 q2 q3 HCW6 HCV hB6 hd
    go_loopw [28] (fun i wr => ∃ n kk : Nat, kk ≤ 35 + k ∧ i = .int .i64 kk ∧ wr = w7.drewN n) (fun i _ => 35 + k - (intOf i).toNat)
    case atStart => exact ⟨0, 0, Nat.zero_le _, rfl, rfl⟩
    case round =>
      obtain ⟨n, kk, hkk, rfl, rfl⟩ := hrel
      by_cases hlt : kk < 35 + k
      · obtain ⟨x, f1, f2⟩ := F1.out kk hlt
        have b1 : (kk : Int) < ((35 + len : Nat) : Int) := by omega
        have b2 : (kk : Int) < ((35 + k : Nat) : Int) := by omega
        go_wp2_with fail
        go_quiet (fail)
        go_wp2
        go_roundw
        case rel => exact ⟨_, kk + 1, by omega, by go_num, rfl⟩
        case measure => simp [intOf]; omega
      · go_wp2_with fail
        go_loopw [29] (fun i wr => ∃ n i2 : Nat, k ≤ i2 ∧ i2 ≤ len ∧ i = .int .i64 i2 ∧ wr = w7.drewN n) (fun i _ => len - (intOf i).toNat)
        case atStart => exact ⟨n, k, Nat.le_refl _, hk, rfl, rfl⟩
        case round =>
          obtain ⟨n2, i2, hki, hil, rfl, rfl⟩ := hrel
          by_cases hlt2 : i2 < len
          · exact absurd HL0.out (by omega)
          · go_wp2_with fail
            go_loopw [31] (fun i wr => ∃ n i3 : Nat, i3 ≤ 16 ∧ i = .int .i64 i3 ∧ wr = w7.drewN n) (fun i _ => 16 - (intOf i).toNat)
            case atStart => exact ⟨n2, 0, Nat.zero_le _, rfl, rfl⟩
            case round =>
              obtain ⟨n3, i3, hi3, rfl, rfl⟩ := hrel
              by_cases hlt3 : i3 < 16
              · obtain ⟨x, f1, f2⟩ := F4.out i3 hlt3
                have b1 : (i3 : Int) < 16 := by omega
                have b2 : (18 : Int) + (i3 : Int) < ((35 + len : Nat) : Int) := by omega
                go_wp2_with fail
                go_quiet (fail)
                go_wp2
                go_roundw
                case rel => exact ⟨_, i3 + 1, by omega, by go_num, rfl⟩
                case measure => simp [intOf]; omega
              · have b2 : (34 : Int) < ((35 + len : Nat) : Int) := by omega
                go_wp2
                go_ret
                exact ⟨rfl, ⟨hb6'.os, hb6'.tape, hb6'.output, hb6'.size, hb6'.block⟩⟩
end Go.Proofs.Qxb6630930a
