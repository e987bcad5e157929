import Derived.Test.Qxb6627536aAfter
import Derived.Deep.RegionHeld3
import Derived.Deep.DeepCutAuto
import Derived.Deep.CutBlock
namespace Go.Proofs.Qxb6627536a
open Go.ChangeShapes Go.WideShapes Go.ChangeAt Go.RowKit

theorem keep_take (M L : List Rec) (j : Nat) (h : j < L.length) (hn : aborts M (L.getD j r0).txn = false) :
    (keepBy M (L.take (j + 1))).length = (keepBy M (L.take j)).length + 1 ∧ (keepBy M (L.take j)).length < (keepBy M L).length ∧ (keepBy M L).getD (keepBy M (L.take j)).length r0 = L.getD j r0 := by
  have e1 := keepBy_yes M L j h hn
  have e2 : keepBy M L = keepBy M (L.take j) ++ ([L.getD j r0] ++ keepBy M (L.drop (j + 1))) := by
    rw [← List.append_assoc, ← e1]
    unfold keepBy
    rw [← List.filter_append, List.take_append_drop]
  refine ⟨by rw [e1]; simp, by rw [e2]; simp, ?_⟩
  rw [e2]
  simp [List.getD]
theorem noAct (L : List Rec) (j : Nat) (h : j < L.length) (hn : aborts L (L.getD j r0).txn = false) : ((L.getD j r0).act == 4) = false := by
  cases hy : ((L.getD j r0).act == 4)
  · rfl
  · rw [aborts_yes L j _ h (by rw [hy]; simp)] at hn
    cases hn
theorem neq_ptr_same {P : Program} {tp te : TypeId} {j : TypeInfo} (w : World) (a : Addr) (hp : P.underlying tp = some (.pointer te)) (hte : P.info? te = some j) :
    (binOp .neq tp (.pointer (some a)) (.pointer (some a))).run P w = .ok (.bool false) w := by
  have h : ∀ d : Nat, (Op.equalIn (d + 1) tp (.pointer (some a)) (.pointer (some a))).run P w = .ok true w := fun d => by
    simp [Op.equalIn, run_underlying hp, sizeOf, typeInfo, hte, run_sameAddr_same]
  simp only [binOp]
  simp [Op.equal, Op.maxDepth, h 9999]
@[go_sem] theorem neq29 (w : World) (a : Addr) : (binOp .neq 29 (.pointer (some a)) (.pointer (some a))).run Try.prog w = .ok (.bool false) w := by
  obtain ⟨j, hj⟩ := Try.info33
  exact neq_ptr_same w a Try.underlying29 hj
@[go_sem] theorem neq44 (w : World) (a : Addr) : (binOp .neq 44 (.pointer (some a)) (.pointer (some a))).run Try.prog w = .ok (.bool false) w := by
  obtain ⟨j, hj, -⟩ := info_parts Try.info9
  exact neq_ptr_same w a Try.underlying44 hj

/-- The slice's header and two operations, as they lie while a comparison is walked. -/
abbrev Two (W : World) (q : Nat) (v : Value) (b1 o1 b o : Nat) (y : Rec) (w' : World) : Prop :=
  Below W.heap.size W w' ∧ w'.cell? ⟨q, 0, none⟩ = some v ∧
  w'.cell? ⟨b1, o1, none⟩ = some (.int .u8 y.act) ∧ w'.cell? ⟨b1, o1 + 1, none⟩ = some (.bool y.up) ∧ w'.cell? ⟨b1, o1 + 2, none⟩ = some (.int .u8 y.asg) ∧ w'.cell? ⟨b1, o1 + 3, none⟩ = some (.int .u8 y.sp) ∧
  w'.cell? ⟨b1, o1 + 4, none⟩ = some (.int .u8 y.cap) ∧ w'.cell? ⟨b1, o1 + 5, none⟩ = some (.int .i64 y.txn) ∧ w'.cell? ⟨b1, o1 + 6, none⟩ = some (.int .i64 y.item) ∧ w'.cell? ⟨b1, o1 + 7, none⟩ = some (.int .i64 y.opd) ∧
  w'.cell? ⟨b, o, none⟩ = some (.int .u8 y.act) ∧ w'.cell? ⟨b, o + 1, none⟩ = some (.bool y.up) ∧ w'.cell? ⟨b, o + 2, none⟩ = some (.int .u8 y.asg) ∧ w'.cell? ⟨b, o + 3, none⟩ = some (.int .u8 y.sp) ∧
  w'.cell? ⟨b, o + 4, none⟩ = some (.int .u8 y.cap) ∧ w'.cell? ⟨b, o + 5, none⟩ = some (.int .i64 y.txn) ∧ w'.cell? ⟨b, o + 6, none⟩ = some (.int .i64 y.item) ∧ w'.cell? ⟨b, o + 7, none⟩ = some (.int .i64 y.opd)
theorem Two.mk {W : World} {q : Nat} {v : Value} {b1 o1 b o : Nat} {y : Rec} (h0 : W.cell? ⟨q, 0, none⟩ = some v) (h1 : OpAt W b1 o1 y) (h2 : OpAt W b o y) : Two W q v b1 o1 b o y W.drew :=
  ⟨(Below.refl _ _).drew, h0, h1 0 _ rfl, h1 1 _ rfl, h1 2 _ rfl, h1 3 _ rfl, h1 4 _ rfl, h1 5 _ rfl, h1 6 _ rfl, h1 7 _ rfl, h2 0 _ rfl, h2 1 _ rfl, h2 2 _ rfl, h2 3 _ rfl, h2 4 _ rfl, h2 5 _ rfl, h2 6 _ rfl, h2 7 _ rfl⟩
theorem below_cell {w w' : World} {a : Addr} {u : Value} (hb : Below w.heap.size w w') (h : w.cell? a = some u) : w'.cell? a = some u := (hb.cell (World.block_lt_of_cell? w a h)).trans h
theorem Two.next {W : World} {q : Nat} {v : Value} {b1 o1 b o : Nat} {y : Rec} {w w' : World} (T : Two W q v b1 o1 b o y w) (hb : Below w.heap.size w w') : Two W q v b1 o1 b o y w' := by
  obtain ⟨B, c0, d0, d1, d2, d3, d4, d5, d6, d7, e0, e1, e2, e3, e4, e5, e6, e7⟩ := T
  exact ⟨B.trans (hb.mono B.size), below_cell hb c0, below_cell hb d0, below_cell hb d1, below_cell hb d2, below_cell hb d3, below_cell hb d4, below_cell hb d5, below_cell hb d6, below_cell hb d7, below_cell hb e0, below_cell hb e1, below_cell hb e2, below_cell hb e3, below_cell hb e4, below_cell hb e5, below_cell hb e6, below_cell hb e7⟩
theorem one8 (y : Rec) (w : World) : Calls Try.prog 11 #[.agg #[.int .u8 y.act, .bool y.up, .int .u8 y.asg, .int .u8 y.sp, .int .u8 y.cap, .int .i64 y.txn, .int .i64 y.item, .int .i64 y.opd]] w fun e w' => e = .returned (.agg #[.int .u8 y.act, .bool y.up, .int .u8 y.asg, .int .u8 y.sp, .int .u8 y.cap, .int .i64 y.txn, .int .i64 y.item, .int .i64 y.opd]) ∧ Below w.heap.size w w' := one_any y w

set_option maxHeartbeats 2000000 in
set_option maxRecDepth 100000 in
theorem keeps_any (oa : Option Addr) (on oc : Nat) (ia : Option Addr) (im ic : Nat) (nm : Int) (L : List Rec) (SS : List ByteArray) (w : World) (h1 : on ≤ maxLen) (h2 : im ≤ maxLen) (ho : OpsAt w oa on L) (hs : StrsAt w ia im SS) (hok : OkOps L) :
    Calls Try.prog 3 #[.slice oa on oc, .slice ia im ic, .int .u8 nm] w fun e w' => e = .returned (.bool true) ∧ Below w.heap.size w w' := by
  have hl := ho.1
  go_enter Try.func3, Try.ntmps3
  go_wp2_with fail
  refine (zz5_any oa on oc ia im ic SS nm w h1 h2 hs).mono ?_
  rintro e w' ⟨⟨Bq, rfl⟩, rfl⟩
  cases Bq
  · go_wp2
    go_ret
    exact ⟨rfl, Below.refl _ _⟩
  go_wp2_with fail
  refine (zz6_any oa on oc ia im ic SS 4096 _ h1 h2 hs (by omega)).mono ?_
  rintro e w' ⟨⟨Bq, rfl, hB⟩, rfl⟩
  cases Bq
  rotate_left
  · clear hB
    go_wp2
    go_ret
    exact ⟨rfl, Below.refl _ _⟩
  obtain ⟨ho1, hi1⟩ := hB rfl
  clear hB h1 h2
  go_wp2_with fail
  refine (toOps_any oa on oc L _ ho (by omega)).mono ?_
  rintro e w1 ⟨ra, rc, rfl, hR1, hb1⟩
  have ho2 := ho.below hb1
  have hs2 := hs.below hb1
  clear ho hs
  go_wp2_with fail
  refine (clone_any ia im ic SS _ hs2 hi1).mono ?_
  rintro e w2 ⟨ca, cc, rfl, hC2, hnil, hb2⟩
  have ho3 := ho2.below hb2
  have hs3 := hs2.below hb2
  have hR3 := hR1.below hb2
  have hb3 := hb1.trans (hb2.mono hb1.size)
  clear ho2 hs2 hR1 hb1 hb2
  have hb4 : Below w2.heap.size w2 (w2.alloc (.cells #[.slice ra on rc, .slice ca im cc, .int .u8 nm, .slice none 0 0] 33)) := (Below.refl _ _).alloc (Nat.le_refl _) _
  have ho5 := ho3.below hb4
  have hs5 := hs3.below hb4
  have hR5 := hR3.below hb4
  have hC5 := hC2.below hb4
  have hb5 := hb3.trans (hb4.mono hb3.size)
  have HB0 : Hid ((w2.alloc (.cells #[.slice ra on rc, .slice ca im cc, .int .u8 nm, .slice none 0 0] 33)).heap[w2.heap.size]? = some (.cells #[.slice ra on rc, .slice ca im cc, .int .u8 nm, .slice none 0 0] 33 (0, 0))) := heap_alloc_new _ _
  have hlt0 : w2.heap.size < (w2.alloc (.cells #[.slice ra on rc, .slice ca im cc, .int .u8 nm, .slice none 0 0] 33)).heap.size := by simp
  clear ho3 hs3 hR3 hC2 hb3 hb4
  have HN : Hid (ca.isNone = ia.isNone) := hnil
  clear hnil
  go_wp2_with fail
  generalize w2.heap.size = p0 at *
  generalize (w2.alloc (.cells #[.slice ra on rc, .slice ca im cc, .int .u8 nm, .slice none 0 0] 33)) = w3 at *
  refine (committed_any p0 ra on rc ca im cc nm L _ HB0.out hR5 hok (by omega)).mono ?_
  rintro e w4 ⟨q0, a0, n0, c0, rfl, hq0, hK0, hb6, hqp⟩
  have ho6 := ho5.below hb6
  have hs6 := hs5.below hb6
  have hR6 := hR5.below hb6
  have hC6 := hC5.below hb6
  have hb7 := hb5.trans (hb6.mono hb5.size)
  have hp0 : w4.heap[p0]? = some (.cells #[.slice ra on rc, .slice ca im cc, .int .u8 nm, .slice none 0 0] 33 (0, 0)) := (hb6.block _ hlt0).trans HB0.out
  have k0 : w4.cell? ⟨q0, 0, none⟩ = some (.slice a0 n0 c0) := (cell_of_row _ _ 0 _ _ _ hq0).trans rfl
  have k1 : w4.cell? ⟨q0, 1, none⟩ = some (.slice ca im cc) := (cell_of_row _ _ 1 _ _ _ hq0).trans rfl
  have k2 : w4.cell? ⟨q0, 2, none⟩ = some (.int .u8 nm) := (cell_of_row _ _ 2 _ _ _ hq0).trans rfl
  have p1 : w4.cell? ⟨p0, 0, none⟩ = some (.slice ra on rc) := (cell_of_row _ _ 0 _ _ _ hp0).trans rfl
  have HQP : Hid (anyAb L = false → q0 = p0) := hqp
  clear ho5 hs5 hR5 hC5 hb5 hb6 HB0 hlt0 hq0 hp0 hqp hok
  have hl0 := hK0.1
  have hn0 : n0 ≤ on := by
    rw [← hl0, ← hl]
    exact List.length_filter_le _ _
  go_wp2_with fail
  go_loopw [11, 12, 13] (fun ab kv iv wr => ∃ i : Nat, i ≤ on ∧ iv = .int .i64 i ∧ kv = .int .i64 ((keepBy L (L.take i)).length : Nat) ∧ ab = .bool (anyAb (L.take i)) ∧ Below w4.heap.size w4 wr) (fun _ _ iv _ => on - (intOf iv).toNat)
  case atStart => exact ⟨0, Nat.zero_le _, rfl, rfl, rfl, Below.refl _ _⟩
  case round =>
    obtain ⟨i, hi, rfl, rfl, rfl, hb⟩ := hrel
    by_cases hlt : i < on
    · have hon := ho6.below hb
      have hKn := hK0.below hb
      have kn := below_cell hb k0
      rcases hon.2 with h0 | ⟨b, o, rfl, hbw, hc⟩
      · omega
      · have hd := hc i hlt
        clear hc
        have HA1 := anyAb_no L i (by omega)
        have HA2 := anyAb_yes L i (by omega)
        have HK1 := keepBy_no L L i (by omega)
        have HK2 := keep_take L L i (by omega)
        have HN4 := noAct L i (by omega)
        have bi : (i : Int) < (on : Int) := by omega
        have h5 : wr.cell? ⟨b, o + i * 8 + 5, none⟩ = some (.int .i64 (L.getD i r0).txn) := hd 5 _ rfl
        have h4 : wr.cell? ⟨b, o + i * 8, none⟩ = some (.int .u8 (L.getD i r0).act) := hd 0 _ rfl
        clear k0 k1 k2 p1
        generalize L.getD i r0 = y at *
        go_wp2_with fail
        refine (zz10_any _ on oc L _ _ hon (by omega)).mono ?_
        rintro e wr ⟨rfl, rfl⟩
        cases hab : aborts L y.txn
        · obtain ⟨g1, g2, g3⟩ := HK2 hab
          have n4 := HN4 hab
          have HG : Hid ((keepBy L (L.take (i + 1))).length = (keepBy L (L.take i)).length + 1) := g1
          have HA : Hid (anyAb (L.take (i + 1)) = anyAb (L.take i)) := HA1 n4
          clear HA1 HA2 HK1 HK2 HN4 g1
          rw [hl0] at g2
          rcases hKn.2 with h0 | ⟨b1, o1, rfl, hbw1, hc1⟩
          · omega
          · have hd1 := hc1 _ g2
            rw [g3] at hd1
            clear hc1 g3
            generalize (keepBy L (L.take i)).length = kk at *
            have bk : (kk : Int) < (n0 : Int) := by omega
            have hdk : ¬ n0 ≤ kk := by omega
            have HT : Hid (Two wr q0 (.slice (some ⟨b1, o1, none⟩) n0 c0) b1 (o1 + kk * 8) b (o + i * 8) y wr.drew) := Two.mk kn hd1 hd
            clear hd hd1 h4 h5 kn hKn
            go_wp2_with fail
            go_region_held3 (fun w' => Below wr.heap.size wr w' ∧ w'.cell? ⟨q0, 0, none⟩ = some (.slice (some ⟨b1, o1, none⟩) n0 c0) ∧
              w'.cell? ⟨b1, o1 + kk * 8, none⟩ = some (.int .u8 y.act) ∧ w'.cell? ⟨b1, o1 + kk * 8 + 1, none⟩ = some (.bool y.up) ∧ w'.cell? ⟨b1, o1 + kk * 8 + 2, none⟩ = some (.int .u8 y.asg) ∧ w'.cell? ⟨b1, o1 + kk * 8 + 3, none⟩ = some (.int .u8 y.sp) ∧
              w'.cell? ⟨b1, o1 + kk * 8 + 4, none⟩ = some (.int .u8 y.cap) ∧ w'.cell? ⟨b1, o1 + kk * 8 + 5, none⟩ = some (.int .i64 y.txn) ∧ w'.cell? ⟨b1, o1 + kk * 8 + 6, none⟩ = some (.int .i64 y.item) ∧ w'.cell? ⟨b1, o1 + kk * 8 + 7, none⟩ = some (.int .i64 y.opd) ∧
              w'.cell? ⟨b, o + i * 8, none⟩ = some (.int .u8 y.act) ∧ w'.cell? ⟨b, o + i * 8 + 1, none⟩ = some (.bool y.up) ∧ w'.cell? ⟨b, o + i * 8 + 2, none⟩ = some (.int .u8 y.asg) ∧ w'.cell? ⟨b, o + i * 8 + 3, none⟩ = some (.int .u8 y.sp) ∧
              w'.cell? ⟨b, o + i * 8 + 4, none⟩ = some (.int .u8 y.cap) ∧ w'.cell? ⟨b, o + i * 8 + 5, none⟩ = some (.int .i64 y.txn) ∧ w'.cell? ⟨b, o + i * 8 + 6, none⟩ = some (.int .i64 y.item) ∧ w'.cell? ⟨b, o + i * 8 + 7, none⟩ = some (.int .i64 y.opd))
              (first | exact HT.out | exact Two.next (by assumption) (by assumption))
              (first | (go_at_call 11; refine (one8 y _).mono ?_; rintro e w' ⟨rfl, hb3⟩))
            rename_i hHeld
            have hbb := hHeld.1
            clear hHeld HT
            go_wp2
            go_roundw
            case rel => exact ⟨i + 1, by omega, by go_num, by rw [HG.out]; go_num, by rw [HA.out], hb.trans (hbb.mono hb.size)⟩
            case measure => simp [intOf]; omega
        · have HG : Hid (keepBy L (L.take (i + 1)) = keepBy L (L.take i)) := HK1 hab
          clear HK1 HK2 HN4 hd kn hKn
          cases hya : (y.act == 4)
          · have ha : y.act ≠ 4 := by simpa using hya
            have HA : Hid (anyAb (L.take (i + 1)) = anyAb (L.take i)) := HA1 hya
            clear HA1 HA2
            go_wp2
            go_roundw
            case rel => exact ⟨i + 1, by omega, by go_num, by rw [HG.out], by rw [HA.out], hb⟩
            case measure => simp [intOf]; omega
          · have ha : y.act = 4 := by simpa using hya
            have HA : Hid (anyAb (L.take (i + 1)) = true) := HA2 hya
            clear HA1 HA2
            go_wp2
            go_roundw
            case rel => exact ⟨i + 1, by omega, by go_num, by rw [HG.out], by rw [HA.out], hb⟩
            case measure => simp [intOf]; omega
    · obtain rfl : i = on := by omega
      have hLt : L.take i = L := List.take_of_length_le (by omega)
      rw [hLt, hl0]
      clear hLt hlt hi
      have ho9 := ho6.below hb
      have hR9 := hR6.below hb
      have hs9 := hs6.below hb
      have hC9 := hC6.below hb
      have j0 := below_cell hb k0
      have j1 := below_cell hb k1
      have j2 := below_cell hb k2
      have j3 := below_cell hb p1
      have hb9 := hb7.trans (hb.mono hb7.size)
      clear ho6 hR6 hs6 hC6 k0 k1 k2 p1 hb7 hb hK0 hl0
      go_upto_region 24 with (fail)
      go_cut [11, 93] (fun _ v wx => v = .bool false ∧ wx = wr)
      case first =>
        cases hab : anyAb L
        · have hne : ∀ w : World, (binOp .neq 29 (.pointer (some ⟨q0, 0, none⟩)) (.pointer (some ⟨p0, 0, none⟩))).run Try.prog w = .ok (.bool false) w := fun w => by
            rw [HQP.out hab]
            exact neq29 w _
          go_wp2
          go_meet
          case rel => exact ⟨rfl, rfl⟩
        · go_wp2
          go_meet
          case rel => exact ⟨rfl, rfl⟩
      case rest =>
        obtain ⟨rfl, hwx⟩ := hcut
        rw [hwx]
        clear hwx
        clear HQP hn0 j0
        have hn1 : ca.isNone = ia.isNone := HN.out
        clear HN
        go_wp2_with fail
        clear hn1 j2
        go_loopw [14] (fun iv wx => ∃ f m : Nat, f ≤ im ∧ iv = .int .i64 f ∧ wx = wr.drewN m) (fun iv _ => im - (intOf iv).toNat)
        case atStart => exact ⟨0, 0, Nat.zero_le _, rfl, rfl⟩
        case round =>
          obtain ⟨f, m, hf, rfl, rfl⟩ := hrel
          by_cases hlt : f < im
          · rcases hs9.2.2 with h0 | ⟨b, o, rfl, hbw, hc⟩
            · omega
            · rcases hC9.2.2 with h0 | ⟨b1, o1, rfl, hbw1, hc1⟩
              · omega
              · have e0 := hc f hlt
                have e1 := hc1 f hlt
                clear hc hc1
                generalize SS.getD f ⟨#[]⟩ = st at *
                have bf : (f : Int) < (im : Int) := by omega
                go_wp2_with fail
                go_quiet (fail)
                go_wp2
                go_roundw
                case rel => exact ⟨f + 1, _, by omega, by go_num, rfl⟩
                case measure => simp [intOf]; omega
          · have hdr : Below w'.heap.size w' (wr.drewN m) := ⟨hb9.os, hb9.tape, hb9.output, hb9.size, hb9.block⟩
            have ho10 : OpsAt (wr.drewN m) oa i L := ho9
            have hR10 : OpsAt (wr.drewN m) ra i L := hR9
            have hC10 : StrsAt (wr.drewN m) ca im SS := hC9
            have l1 : (wr.drewN m).cell? ⟨q0, 1, none⟩ = some (.slice ca im cc) := j1
            have l3 : (wr.drewN m).cell? ⟨p0, 0, none⟩ = some (.slice ra i rc) := j3
            clear hb9 ho9 hR9 hC9 hs9 j1 j3
            generalize wr.drewN m = wz at *
            go_upto_region 35 with (fail)
            go_cut [148] (fun v wx => v = .bool false ∧ ∃ m : Nat, wx = wz.drewN m)
            case first =>
              by_cases him : 0 < im
              · rcases hC10.2.2 with h0 | ⟨b1, o1, rfl, hbw1, hc1⟩
                · omega
                · clear hc1
                  have him2 : (0 : Int) < (im : Int) := by omega
                  go_wp2_with fail
                  go_quiet (fail)
                  go_wp2
                  go_meet
                  case rel => exact ⟨rfl, _, rfl⟩
              · obtain rfl : im = 0 := by omega
                go_wp2_with fail
                go_quiet (fail)
                go_wp2
                go_meet
                case rel => exact ⟨rfl, _, rfl⟩
            case rest =>
              obtain ⟨rfl, m2, rfl⟩ := hcut
              have hd2 : Below w'.heap.size w' (wz.drewN m2) := ⟨hdr.os, hdr.tape, hdr.output, hdr.size, hdr.block⟩
              have ho11 : OpsAt (wz.drewN m2) oa i L := ho10
              have hR11 : OpsAt (wz.drewN m2) ra i L := hR10
              have l4 : (wz.drewN m2).cell? ⟨p0, 0, none⟩ = some (.slice ra i rc) := l3
              clear hdr ho10 hR10 hC10 l1 l3
              generalize wz.drewN m2 = wv at *
              go_wp2_with fail
              go_loopw [15] (fun iv wx => ∃ f : Nat, f ≤ i ∧ iv = .int .i64 f ∧ Below wv.heap.size wv wx) (fun iv _ => i - (intOf iv).toNat)
              case atStart => exact ⟨0, Nat.zero_le _, rfl, Below.refl _ _⟩
              case round =>
                obtain ⟨f, hf, rfl, hb⟩ := hrel
                by_cases hlt : f < i
                · have hon := ho11.below hb
                  have hRn := hR11.below hb
                  have kn := below_cell hb l4
                  rcases hon.2 with h0 | ⟨b, o, rfl, hbw, hc⟩
                  · omega
                  · rcases hRn.2 with h0 | ⟨b1, o1, rfl, hbw1, hc1⟩
                    · omega
                    · have hd := hc f hlt
                      have hd1 := hc1 f hlt
                      clear hc hc1
                      generalize L.getD f r0 = y at *
                      have bf : (f : Int) < (i : Int) := by omega
                      have HT : Hid (Two wr p0 (.slice (some ⟨b1, o1, none⟩) i rc) b1 (o1 + f * 8) b (o + f * 8) y wr.drew) := Two.mk kn hd1 hd
                      clear hd hd1 kn hon hRn
                      go_wp2_with fail
                      go_region_held3 (fun w' => Below wr.heap.size wr w' ∧ w'.cell? ⟨p0, 0, none⟩ = some (.slice (some ⟨b1, o1, none⟩) i rc) ∧
                        w'.cell? ⟨b1, o1 + f * 8, none⟩ = some (.int .u8 y.act) ∧ w'.cell? ⟨b1, o1 + f * 8 + 1, none⟩ = some (.bool y.up) ∧ w'.cell? ⟨b1, o1 + f * 8 + 2, none⟩ = some (.int .u8 y.asg) ∧ w'.cell? ⟨b1, o1 + f * 8 + 3, none⟩ = some (.int .u8 y.sp) ∧ w'.cell? ⟨b1, o1 + f * 8 + 4, none⟩ = some (.int .u8 y.cap) ∧ w'.cell? ⟨b1, o1 + f * 8 + 5, none⟩ = some (.int .i64 y.txn) ∧ w'.cell? ⟨b1, o1 + f * 8 + 6, none⟩ = some (.int .i64 y.item) ∧ w'.cell? ⟨b1, o1 + f * 8 + 7, none⟩ = some (.int .i64 y.opd) ∧
                        w'.cell? ⟨b, o + f * 8, none⟩ = some (.int .u8 y.act) ∧ w'.cell? ⟨b, o + f * 8 + 1, none⟩ = some (.bool y.up) ∧ w'.cell? ⟨b, o + f * 8 + 2, none⟩ = some (.int .u8 y.asg) ∧ w'.cell? ⟨b, o + f * 8 + 3, none⟩ = some (.int .u8 y.sp) ∧ w'.cell? ⟨b, o + f * 8 + 4, none⟩ = some (.int .u8 y.cap) ∧ w'.cell? ⟨b, o + f * 8 + 5, none⟩ = some (.int .i64 y.txn) ∧ w'.cell? ⟨b, o + f * 8 + 6, none⟩ = some (.int .i64 y.item) ∧ w'.cell? ⟨b, o + f * 8 + 7, none⟩ = some (.int .i64 y.opd))
                        (first | exact HT.out | exact Two.next (by assumption) (by assumption))
                        (first | (go_at_call 11; refine (one8 y _).mono ?_; rintro e w' ⟨rfl, hb3⟩))
                      rename_i hHeld
                      have hbb := hHeld.1
                      clear hHeld HT
                      go_wp2
                      go_roundw
                      case rel => exact ⟨f + 1, by omega, by go_num, hb.trans (hbb.mono hb.size)⟩
                      case measure => simp [intOf]; omega
                · go_wp2
                  go_ret
                  exact ⟨rfl, hd2.trans (hb.mono hd2.size)⟩
end Go.Proofs.Qxb6627536a
