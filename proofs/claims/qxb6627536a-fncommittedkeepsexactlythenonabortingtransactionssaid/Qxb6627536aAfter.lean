import Derived.Test.Qxb6627536aPlain
import Derived.LaidEqlPtr
namespace Go.Proofs.Qxb6627536a
open Go.ChangeShapes Go.WideShapes Go.ChangeAt Go.RowKit

theorem Try.info33 : ∃ j, Try.prog.info? 33 = some j := by
  have h : (Try.prog.info? 33).map (fun i => i.size != 0) = some true := by kernel_rfl
  obtain ⟨j, h1, h2⟩ := Option.map_eq_some_iff.1 h
  exact ⟨j, h1⟩
@[go_sem] theorem eql29 (w : World) (a : Addr) : (binOp .eql 29 (.pointer (some a)) (.pointer (some a))).run Try.prog w = .ok (.bool true) w := by
  obtain ⟨j, hj⟩ := Try.info33
  exact run_eql_ptr_same w a Try.underlying29 hj
theorem own_base {w : World} {B B' : Nat} {e : TypeId} {sz : Nat} {v : Value} {n : Nat} {xs : List Value} (h : w.ownsRow B e sz v n xs) (hB : B' ≤ B) : w.ownsRow B' e sz v n xs := by
  refine ⟨h.1, ?_⟩
  rcases h.2 with h | ⟨g, cap, cur, rfl, hg, r⟩
  · exact .inl h
  · exact .inr ⟨g, cap, cur, rfl, Nat.le_trans hB hg, r⟩
theorem flat_take (L : List Rec) (j : Nat) (h : j < L.length) : (L.take (j + 1)).flatMap opCells = (L.take j).flatMap opCells ++ opCells (L.getD j r0) := by
  rw [take_snoc L r0 j h]
  simp

set_option maxHeartbeats 2000000 in
set_option maxRecDepth 100000 in
theorem after_any (oa : Option Addr) (on oc : Nat) (ia : Option Addr) (im ic : Nat) (nm t : Int) (L : List Rec) (SS : List ByteArray) (w : World) (h1 : on ≤ maxLen) (h2 : im ≤ maxLen) (ho : OpsAt w oa on L) (hs : StrsAt w ia im SS) (hok : OkOps L) (ht : Ok64 t) :
    Calls Try.prog 4 #[.slice oa on oc, .slice ia im ic, .int .u8 nm, .int .i64 t] w fun e w' => e = .returned (.bool true) ∧ Below w.heap.size w w' := by
  obtain ⟨i2, hi2, hz20, hz21, hz22⟩ := info_parts Try.info42
  have hl := ho.1
  go_enter Try.func4, Try.ntmps4
  go_wp2_with fail
  refine (zz12_any oa on oc ia im ic SS nm t w h1 h2 hs).mono ?_
  rintro e w' ⟨⟨Bq, rfl⟩, rfl⟩
  cases Bq
  · go_wp2
    go_ret
    exact ⟨rfl, Below.refl _ _⟩
  go_wp2_with fail
  refine (zz6_any oa on oc ia im ic SS 16384 _ h1 h2 hs (Nat.le_refl _)).mono ?_
  rintro e w' ⟨⟨Bq, rfl, hB⟩, rfl⟩
  cases Bq
  rotate_left
  · clear hB
    go_wp2
    go_ret
    exact ⟨rfl, Below.refl _ _⟩
  obtain ⟨ho1, hi1⟩ := hB rfl
  clear hB h1 h2
  go_wp2_with fail
  refine (toOps_any oa on oc L _ ho ho1).mono ?_
  rintro e w1 ⟨ra, rc, rfl, hR1, hb1⟩
  have ho2 := ho.below hb1
  have hs2 := hs.below hb1
  clear ho hs
  have i1 : (on : Int) ≤ 16384 := by omega
  go_wp2_with (at_make; refine wpList_make_own _ rfl _ _ 26 rfl w1.heap.size 42 i2 _ 8 Try.underlying26 hi2 hz20 hz21 _ _ _ (on + 1) rfl rfl (by omega) (by rw [hz22]; omega) (by unfold maxLen; omega) (Nat.le_refl _) ?_)
  intro w2 hown2 hgrow2
  have hb2 : Below w1.heap.size w1 w2 := (Below.refl _ _).grown hgrow2 (Nat.le_refl _) (by simp)
  clear hgrow2
  go_wp2_with fail
  go_loopw [10, 11] (fun v i wr => ∃ j : Nat, j ≤ on ∧ i = .int .i64 j ∧ wr.ownsRow w1.heap.size 42 8 v j ((L.take j).flatMap opCells) ∧ Below w1.heap.size w1 wr) (fun _ i _ => on - (intOf i).toNat)
  case atStart => exact ⟨0, Nat.zero_le _, rfl, hown2, hb2⟩
  case round =>
    obtain ⟨j, hj, rfl, hown, hb⟩ := hrel
    clear hown2 hb2
    obtain ⟨av, cv, rfl, -⟩ := own_shape hown
    by_cases hlt : j < on
    · rcases ho2.2 with h0 | ⟨b, o, rfl, hbw, hc⟩
      · omega
      · have hcj : OpAt wr b (o + j * 8) (L.getD j r0) := fun i u hu => (hb.cell hbw).trans (hc j hlt i u hu)
        clear hc
        have HF : Hid ((L.take (j + 1)).flatMap opCells = (L.take j).flatMap opCells ++ opCells (L.getD j r0)) := flat_take L j (by omega)
        generalize L.getD j r0 = y at *
        have bj : (j : Int) < (on : Int) := by omega
        go_wp2_with (first
            | (refine wpList_load_mid rfl 37 (.tmp 43) rfl b (o + j * 8) rfl (opCells y) _ hcj Try.underlying37 rfl (size37 y) ?_))
        refine (one_any y _).mono ?_
        rintro e w3 ⟨rfl, hb3⟩
        have hown3 := own_below hown hb3 (fun g hg => (hown.lt g hg).2)
        have hb4 : Below w1.heap.size w1 w3 := hb.trans (hb3.mono hb.size)
        have hsz4 := hb4.size
        clear hown hb hb3
        unfold opCells
        go_wp2_with (at_builtin; refine wpList_append_own _ rfl (.tmp 40) (.tmp 46) 26 rfl w1.heap.size 42 i2 _ 8 32 Try.underlying26 hi2 hz20 hz21 hz22 rfl (by decide) _ _ _ rfl (hown3.alloc _) ⟨w3.heap.size, 0, none⟩ 1 1 (opCells y) rfl rfl news8 (oneCells y) (by unfold maxLen; omega) (by omega) (by simp; omega) ?_)
        intro v' w4 hown4 hgrow4 _
        have hb5 : Below w1.heap.size w1 w4 := (hb4.alloc hsz4 _).grown hgrow4 (by simp; omega) (fun q hq => (hown3.lt q hq).1)
        rw [← HF.out] at hown4
        clear hown3 hgrow4 hb4
        go_wp2
        go_roundw
        case rel => exact ⟨j + 1, by omega, by go_num, hown4, hb5⟩
        case measure => simp [intOf]; omega
    · have hLt : L.take j = L := List.take_of_length_le (by omega)
      rw [hLt] at hown
      obtain rfl : j = on := by omega
      clear hLt hlt hj
      have hszb := hb.size
      go_wp2_with (at_builtin; refine wpList_append_own _ rfl (.tmp 48) (.tmp 51) 26 rfl w1.heap.size 42 i2 _ 8 32 Try.underlying26 hi2 hz20 hz21 hz22 rfl (by decide) _ _ _ rfl (hown.alloc _) ⟨wr.heap.size, 0, none⟩ 1 1 (opCells (abRec t)) rfl rfl (news8 (y := abRec t)) (oneCells _) (by unfold maxLen; omega) (by omega) (by simp; omega) ?_)
      intro v' w4 hown4 hgrow4 _
      have hb5 : Below w1.heap.size w1 w4 := (hb.alloc hszb _).grown hgrow4 (by simp; omega) (fun q hq => (hown.lt q hq).1)
      obtain ⟨ae, ce, rfl, -⟩ := own_shape hown4
      have hE : OpsAt w4 ae (j + 1) (L ++ [abRec t]) := ops_of_own (by simpa using hown4) (by simp; omega)
      clear hown hgrow4 hown4 hb
      have hR2 := hR1.below hb5
      have hs3 := hs2.below hb5
      have hb6 := hb1.trans (hb5.mono hb1.size)
      clear hR1 hs2 hb5 hb1 ho2
      go_wp2_with fail
      refine (clone_any ia im ic SS _ hs3 hi1).mono ?_
      rintro e w5 ⟨ca, cc, rfl, -, -, hb7⟩
      have hE5 := hE.below hb7
      have hR5 := hR2.below hb7
      have hs5 := hs3.below hb7
      have hb8 := hb6.trans (hb7.mono hb6.size)
      clear hE hR2 hs3 hb7 hb6
      have hb9 : Below w5.heap.size w5 (w5.alloc (.cells #[.slice ra j rc, .slice ca im cc, .int .u8 nm, .slice none 0 0] 33)) := (Below.refl _ _).alloc (Nat.le_refl _) _
      have hE6 := hE5.below hb9
      have hR6 := hR5.below hb9
      have hs6 := hs5.below hb9
      have hb10 := hb8.trans (hb9.mono hb8.size)
      have HB0 : Hid ((w5.alloc (.cells #[.slice ra j rc, .slice ca im cc, .int .u8 nm, .slice none 0 0] 33)).heap[w5.heap.size]? = some (.cells #[.slice ra j rc, .slice ca im cc, .int .u8 nm, .slice none 0 0] 33 (0, 0))) := heap_alloc_new _ _
      have hlt0 : w5.heap.size < (w5.alloc (.cells #[.slice ra j rc, .slice ca im cc, .int .u8 nm, .slice none 0 0] 33)).heap.size := by simp
      clear hE5 hR5 hs5 hb9 hb8
      go_wp2_with fail
      generalize w5.heap.size = p0 at *
      generalize (w5.alloc (.cells #[.slice ra j rc, .slice ca im cc, .int .u8 nm, .slice none 0 0] 33)) = w6 at *
      refine (clone_any ia im ic SS _ hs6 hi1).mono ?_
      rintro e w7 ⟨ca1, cc1, rfl, -, -, hb7⟩
      have hE7 := hE6.below hb7
      have hR7 := hR6.below hb7
      have hb11 := hb10.trans (hb7.mono hb10.size)
      have HB1 : Hid (w7.heap[p0]? = some (.cells #[.slice ra j rc, .slice ca im cc, .int .u8 nm, .slice none 0 0] 33 (0, 0))) := (hb7.block _ hlt0).trans HB0.out
      have hlt1 : p0 < w7.heap.size := Nat.lt_of_lt_of_le hlt0 hb7.size
      clear hE6 hR6 hs6 hb7 hb10 HB0 hlt0
      have hb9 : Below w7.heap.size w7 (w7.alloc (.cells #[.slice ae (j + 1) ce, .slice ca1 im cc1, .int .u8 nm, .slice none 0 0] 33)) := (Below.refl _ _).alloc (Nat.le_refl _) _
      have hE8 := hE7.below hb9
      have hR8 := hR7.below hb9
      have hb12 := hb11.trans (hb9.mono hb11.size)
      have HB2 : Hid ((w7.alloc (.cells #[.slice ae (j + 1) ce, .slice ca1 im cc1, .int .u8 nm, .slice none 0 0] 33)).heap[p0]? = some (.cells #[.slice ra j rc, .slice ca im cc, .int .u8 nm, .slice none 0 0] 33 (0, 0))) := (hb9.block _ hlt1).trans HB1.out
      have HC2 : Hid ((w7.alloc (.cells #[.slice ae (j + 1) ce, .slice ca1 im cc1, .int .u8 nm, .slice none 0 0] 33)).heap[w7.heap.size]? = some (.cells #[.slice ae (j + 1) ce, .slice ca1 im cc1, .int .u8 nm, .slice none 0 0] 33 (0, 0))) := heap_alloc_new _ _
      have hltc : w7.heap.size < (w7.alloc (.cells #[.slice ae (j + 1) ce, .slice ca1 im cc1, .int .u8 nm, .slice none 0 0] 33)).heap.size := by simp
      clear hE7 hR7 hb9 hb11 HB1
      go_wp2_with fail
      generalize w7.heap.size = p1 at *
      generalize (w7.alloc (.cells #[.slice ae (j + 1) ce, .slice ca1 im cc1, .int .u8 nm, .slice none 0 0] 33)) = w8 at *
      refine (committed_any p0 ra j rc ca im cc nm L _ HB2.out hR8 hok (by omega)).mono ?_
      rintro e w9 ⟨q0, a0, n0, c0, rfl, hq0, hK0, hb9, -⟩
      have hE9 := hE8.below hb9
      have HC9 := (hb9.block _ hltc).trans HC2.out
      have hb13 := hb12.trans (hb9.mono hb12.size)
      clear hE8 hR8 hb9 hb12 HB2 HC2 hltc hlt1
      go_wp2_with fail
      refine (committed_any p1 ae (j + 1) ce ca1 im cc1 nm (L ++ [abRec t]) _ HC9 hE9 (hok.snoc ht) (by omega)).mono ?_
      rintro e w10 ⟨q1, a1, n1, c1, rfl, hq1, hK1, hb9, -⟩
      have hK0' := hK0.below hb9
      have hq0' : w10.heap[q0]? = some (.cells #[.slice a0 n0 c0, .slice ca im cc, .int .u8 nm, .slice none 0 0] 33 (0, 0)) := (hb9.block _ (Array.getElem?_eq_some_iff.1 hq0).1).trans hq0
      have hb14 := hb13.trans (hb9.mono hb13.size)
      have hnoab := keep_noAb (L ++ [abRec t])
      have hokk := (hok.snoc ht).keep (L ++ [abRec t])
      have hn1le : n1 ≤ 20000 := by
        rw [← hK1.1]
        unfold keepBy
        refine Nat.le_trans (List.length_filter_le _ _) ?_
        simp
        omega
      have hn0le : n0 ≤ 20000 := by
        rw [← hK0.1]
        unfold keepBy
        refine Nat.le_trans (List.length_filter_le _ _) ?_
        omega
      clear hE9 HC9 hb13 hb9 hK0 hq0 hok ht
      rw [keep_snoc] at hK1 hnoab hokk
      generalize keepBy L L = K0 at *
      have k0 : w10.cell? ⟨q0, 0, none⟩ = some (.slice a0 n0 c0) := (cell_of_row _ _ 0 _ _ _ hq0').trans rfl
      have k1 : w10.cell? ⟨q1, 0, none⟩ = some (.slice a1 n1 c1) := (cell_of_row _ _ 0 _ _ _ hq1).trans rfl
      have k2 : w10.cell? ⟨q1, 2, none⟩ = some (.int .u8 nm) := (cell_of_row _ _ 2 _ _ _ hq1).trans rfl
      have HQ1 : Hid (w10.heap[q1]? = some (.cells #[.slice a1 n1 c1, .slice ca1 im cc1, .int .u8 nm, .slice none 0 0] 33 (0, 0))) := hq1
      clear hq1 hq0'
      go_wp2_with fail
      go_loopw [16, 17] (fun kv iv wr => ∃ (i m : Nat), i ≤ n0 ∧ iv = .int .i64 i ∧ kv = .int .i64 ((notOf t (K0.take i)).length : Nat) ∧ wr = w10.drewN m) (fun _ iv _ => n0 - (intOf iv).toNat)
      case atStart => exact ⟨0, 0, Nat.zero_le _, rfl, rfl, rfl⟩
      case round =>
        obtain ⟨i, m, hi, rfl, rfl, rfl⟩ := hrel
        have hl0 := hK0'.1
        have hl1' := hK1.1
        by_cases hlt : i < n0
        · rcases hK0'.2 with h0 | ⟨b0, o0, rfl, hbw0, hc0⟩
          · omega
          · have hd := hc0 i hlt
            clear hc0
            have HS1 := fun h => notOf_step t K0 i (by omega) h
            have HS2 := fun h => notOf_take t K0 i (by omega) h
            generalize K0.getD i r0 = y at *
            have e0 : w10.cell? ⟨b0, o0 + i * 8, none⟩ = some (.int .u8 y.act) := hd 0 _ rfl
            have e1 : w10.cell? ⟨b0, o0 + i * 8 + 1, none⟩ = some (.bool y.up) := hd 1 _ rfl
            have e2 : w10.cell? ⟨b0, o0 + i * 8 + 2, none⟩ = some (.int .u8 y.asg) := hd 2 _ rfl
            have e3 : w10.cell? ⟨b0, o0 + i * 8 + 3, none⟩ = some (.int .u8 y.sp) := hd 3 _ rfl
            have e4 : w10.cell? ⟨b0, o0 + i * 8 + 4, none⟩ = some (.int .u8 y.cap) := hd 4 _ rfl
            have e5 : w10.cell? ⟨b0, o0 + i * 8 + 5, none⟩ = some (.int .i64 y.txn) := hd 5 _ rfl
            have e6 : w10.cell? ⟨b0, o0 + i * 8 + 6, none⟩ = some (.int .i64 y.item) := hd 6 _ rfl
            have e7 : w10.cell? ⟨b0, o0 + i * 8 + 7, none⟩ = some (.int .i64 y.opd) := hd 7 _ rfl
            clear hd
            have bi : (i : Int) < (n0 : Int) := by omega
            cases hyt : (y.txn == t)
            · have hne : y.txn ≠ t := by simpa using hyt
              obtain ⟨g1, g2, g3⟩ := HS2 hyt
              have HG1 : Hid ((notOf t (K0.take (i + 1))).length = (notOf t (K0.take i)).length + 1) := g1
              clear HS1 HS2 g1
              rw [hl1'] at g2
              rcases hK1.2 with h0 | ⟨b1, o1, rfl, hbw1, hc1⟩
              · omega
              · have hd := hc1 (notOf t (K0.take i)).length g2
                rw [g3] at hd
                clear hc1 g3
                generalize (notOf t (K0.take i)).length = kk at *
                have d0 : w10.cell? ⟨b1, o1 + kk * 8, none⟩ = some (.int .u8 y.act) := hd 0 _ rfl
                have d1 : w10.cell? ⟨b1, o1 + kk * 8 + 1, none⟩ = some (.bool y.up) := hd 1 _ rfl
                have d2 : w10.cell? ⟨b1, o1 + kk * 8 + 2, none⟩ = some (.int .u8 y.asg) := hd 2 _ rfl
                have d3 : w10.cell? ⟨b1, o1 + kk * 8 + 3, none⟩ = some (.int .u8 y.sp) := hd 3 _ rfl
                have d4 : w10.cell? ⟨b1, o1 + kk * 8 + 4, none⟩ = some (.int .u8 y.cap) := hd 4 _ rfl
                have d5 : w10.cell? ⟨b1, o1 + kk * 8 + 5, none⟩ = some (.int .i64 y.txn) := hd 5 _ rfl
                have d6 : w10.cell? ⟨b1, o1 + kk * 8 + 6, none⟩ = some (.int .i64 y.item) := hd 6 _ rfl
                have d7 : w10.cell? ⟨b1, o1 + kk * 8 + 7, none⟩ = some (.int .i64 y.opd) := hd 7 _ rfl
                clear hd
                have bk : (kk : Int) < (n1 : Int) := by omega
                have hdk : decide ((n1 : Int) ≤ (kk : Int)) = false := by simp; omega
                go_wp2_with fail
                go_quiet (fail)
                go_wp2
                go_roundw
                case rel => exact ⟨i + 1, _, by omega, by go_num, by rw [HG1.out]; go_num, rfl⟩
                case measure => simp [intOf]; omega
            · have heq : y.txn = t := by simpa using hyt
              have HG1 : Hid ((notOf t (K0.take (i + 1))).length = (notOf t (K0.take i)).length) := HS1 hyt
              clear HS1 HS2
              go_wp2
              go_roundw
              case rel => exact ⟨i + 1, m, by omega, by go_num, by rw [HG1.out], rfl⟩
              case measure => simp [intOf]; omega
        · have hKt : K0.take i = K0 := List.take_of_length_le (by omega)
          rw [hKt, hl1']
          have hdr : Below w'.heap.size w' (w10.drewN m) := ⟨hb14.os, hb14.tape, hb14.output, hb14.size, hb14.block⟩
          have hK2 : OpsAt (w10.drewN m) a1 n1 (notOf t K0) := hK1
          have HQ2 : Hid ((w10.drewN m).heap[q1]? = some (.cells #[.slice a1 n1 c1, .slice ca1 im cc1, .int .u8 nm, .slice none 0 0] 33 (0, 0))) := HQ1.out
          have k1' : (w10.drewN m).cell? ⟨q1, 0, none⟩ = some (.slice a1 n1 c1) := k1
          have k0' : (w10.drewN m).cell? ⟨q0, 0, none⟩ = some (.slice a0 n0 c0) := k0
          have k2' : (w10.drewN m).cell? ⟨q1, 2, none⟩ = some (.int .u8 nm) := k2
          clear hK1 HQ1 hK0' k0 k1 k2 hb14
          generalize w10.drewN m = wz at *
          go_wp2_with fail
          go_loop [18] (fun iv => ∃ (f : Nat), f ≤ n1 ∧ iv = .int .i64 f) (fun iv => n1 - (intOf iv).toNat)
          case atStart => exact ⟨0, Nat.zero_le _, rfl⟩
          case round =>
            obtain ⟨f, hf, rfl⟩ := hrel
            by_cases hlt2 : f < n1
            · rcases hK2.2 with h0 | ⟨b1, o1, rfl, hbw1, hc1⟩
              · omega
              · have hd := hc1 f hlt2
                have d0 := hd 0 _ rfl
                rw [Nat.add_zero] at d0
                have d5 := hd 5 _ rfl
                have n5 := notOf_mem t K0 f (by omega)
                have n0' := noAb_at _ hnoab f (by omega)
                clear hc1 hd
                generalize (notOf t K0).getD f r0 = y at *
                have bf : (f : Int) < (n1 : Int) := by omega
                have b5 : (y.txn == t) = false := by simpa using n5
                have b0' : (y.act == 4) = false := by simpa using n0'
                go_wp2
                go_round
                case rel => exact ⟨f + 1, by omega, by go_num⟩
                case measure => simp [intOf]; omega
            · go_wp2_with fail
              refine (committed_any q1 a1 n1 c1 ca1 im cc1 nm (notOf t K0) _ HQ2.out hK2 hokk hn1le).mono ?_
              rintro e w11 ⟨q, a', n', c', rfl, -, -, hb15, hqq⟩
              obtain rfl := hqq hnoab
              have hb16 := hdr.trans (hb15.mono hdr.size)
              clear hb15 hqq
              go_wp2
              go_ret
              exact ⟨rfl, hb16⟩
end Go.Proofs.Qxb6627536a
