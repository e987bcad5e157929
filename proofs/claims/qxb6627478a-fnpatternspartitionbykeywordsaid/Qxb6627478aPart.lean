import Derived.Test.Qxb6627478aOnce
import Derived.StillTailTactics
namespace Go.Proofs.Qxb6627478a
open Go.ChangeShapes Go.WideShapes Go.ChangeAt Go.RowKit

theorem eql_ptr_other {w : World} {x q : Nat} (hx : Live48 w x) (hq : Live48 w q) (hne : x ≠ q) : (binOp .eql 33 (.pointer (some ⟨x, 0, none⟩)) (.pointer (some ⟨q, 0, none⟩))).run Try.prog w = .ok (.bool false) w := by
  obtain ⟨j48, hj48, hsz⟩ := Try.info48
  obtain ⟨c1, h1⟩ := hx
  obtain ⟨c2, h2⟩ := hq
  exact run_eql_ptr_other w Try.underlying33 hj48 hsz (fun e => hne (congrArg Addr.block e)) h1 h2
theorem count0n_any (a : Option Addr) (n c : Nat) (P : List (Int × Nat)) (k : Int) (w : World) (hs : Shp w a n P) (hn : n ≤ 1048576) (hT : tot P ≤ 1048576) :
    Calls Try.prog 9 #[.slice a n c, .int .i64 0, .int .i64 n, .int .i64 k] w fun e w' => e = .returned (.int .i64 ((cntF P k : Nat) : Int)) ∧ w' = w := by
  have := count0_any a n c P n k w hs hn (Nat.le_refl _) hT
  rw [List.take_of_length_le (by rw [hs.1]; exact Nat.le_refl _)] at this
  exact this

theorem keyIn_step (P : List (Int × Nat)) (r : Nat) (x : Int) (h : r < P.length) : keyIn (P.take (r + 1)) x = (keyIn (P.take r) x || ((P.getD r (0, 0)).1 == x)) := by
  rw [take_snoc P (0, 0) r h, keyIn_snoc]
theorem seen_step (R : List Nat) (r y : Nat) (h : r < R.length) : seen (R.take (r + 1)) y = seen (R.take r) y + (if R.getD r 0 = y then 1 else 0) := by
  rw [take_snoc R 0 r h, seen_snoc]

set_option maxHeartbeats 4000000 in
set_option maxRecDepth 100000 in
theorem part_main (vol : ByteArray) (a : Option Addr) (n c : Nat) (P : List (Int × Nat)) (k : Int) (w : World) (hs : Shp w a n P) (hv : vol.size ≤ 65536) (hn : n ≤ 256) (hT : tot P ≤ 4096) :
    Calls Try.prog 4 #[.string vol, .slice a n c, .int .i64 k] w fun e w' => e = .returned (.bool true) ∧ Below w.heap.size w w' := by
  have q30 : ∀ (w : World) (a : Option Addr) (n c n' c' : Nat), (binOp .eql 30 (.slice a n c) (.slice none n' c')).run Try.prog w = .ok (.bool a.isNone) w := fun w a n c n' c' => Lib.run_eql_slice_nil w _ _ a n c n' c' Try.underlying30
  go_enter Try.func4, Try.ntmps4
  go_wp2_with fail
  refine (zz10_any vol a n c k w (by unfold maxLen; omega) (by unfold maxLen; omega)).mono ?_
  rintro e w' ⟨B, rfl, rfl, hB⟩
  obtain rfl := hB hv (by omega)
  clear hB
  go_wp2_with fail
  refine (total_any a n c P 4096 _ hs (by omega) (by omega)).mono ?_
  rintro e w1 ⟨T, rfl, rfl, -, hT2⟩
  obtain rfl : T = tot P := hT2 hT
  clear hT2
  go_wp2_with fail
  refine (build_n vol a n c P _ hs (by omega)).mono ?_
  rintro e w2 ⟨la, lc, LL, rfl, hSh, hlc, hL, hnd, hlive, hb2⟩
  have HSh : Hid (shapes LL = P) := hSh
  have HND : Hid ((LL.flatMap fun x => x.2.2).Nodup) := hnd
  have HLV : Hid (∀ q ∈ (LL.flatMap fun x => x.2.2), Live48 w2 q) := hlive
  clear hSh hnd hlive
  have hs2 := hs.below hb2
  have hTs : tot (shapes LL) ≤ 1048576 := by rw [HSh.out]; omega
  go_wp2_with fail
  have hb4 : Below w2.heap.size w2 (w2.alloc (.cells #[.string vol, .slice la n lc] 27)) := (Below.refl _ _).alloc (Nat.le_refl _) _
  have h4 := heap_alloc_new w2 (.cells #[.string vol, .slice la n lc] 27)
  have c0 : (w2.alloc (.cells #[.string vol, .slice la n lc] 27)).cell? ⟨w2.heap.size, 0, none⟩ = some (.string vol) := (cell_of_row _ _ 0 _ _ _ h4).trans rfl
  have c1 : (w2.alloc (.cells #[.string vol, .slice la n lc] 27)).cell? ⟨w2.heap.size, 1, none⟩ = some (.slice la n lc) := (cell_of_row _ _ 1 _ _ _ h4).trans rfl
  have hz4 : w2.heap.size < (w2.alloc (.cells #[.string vol, .slice la n lc] 27)).heap.size := by simp
  have hL4 := hL.below hb4
  have hs4 := hs2.below hb4
  have HLV4 : Hid (∀ q ∈ (LL.flatMap fun x => x.2.2), Live48 (w2.alloc (.cells #[.string vol, .slice la n lc] 27)) q) := fun q hq => (HLV.out q hq).alloc _
  have hbt : Below w1.heap.size w1 _ := hb2.trans (hb4.mono hb2.size)
  clear h4 hL hs2 hs hb2 hb4 HLV
  generalize hg : w2.heap.size = g at *
  clear hg
  generalize w2.alloc (.cells #[.string vol, .slice la n lc] 27) = w4 at *
  refine (count0n_any a n c P k w4 hs4 (by omega) (by omega)).mono ?_
  rintro e w5 ⟨rfl, rfl⟩
  go_wp2_with fail
  refine (patterns_any vol la n lc LL k w5 hL4 (by omega) hTs).mono ?_
  rintro e w6 ⟨ra, rc, rfl, -, hrn, hb6⟩
  have e1 : cntF P k = (pats LL k).length := by rw [pats_len, HSh.out]
  rw [e1]
  have hpk : (pats LL k).length ≤ 1048576 := by rw [← e1]; exact Nat.le_trans (cntF_le _ _) (by omega)
  clear e1
  have n1 := isNone_of hrn
  clear hrn
  generalize (pats LL k).length = m0 at *
  have d0 := (hb6.cell (p := ⟨g, 0, none⟩) hz4).trans c0
  have d1 := (hb6.cell (p := ⟨g, 1, none⟩) hz4).trans c1
  have hL6 := hL4.below hb6
  have hs6 := hs4.below hb6
  have HLV6 : Hid (∀ q ∈ (LL.flatMap fun x => x.2.2), Live48 w6 q) := fun q hq => (HLV4.out q hq).below hb6 (HLV4.out q hq).lt
  have hbt6 := hbt.trans (hb6.mono hbt.size)
  have hz6 : g < w6.heap.size := by have := hb6.size; omega
  clear c0 c1 hz4 hL4 hs4 HLV4 hbt hb6
  go_wp2_with fail
  clear n1 q30
  have hPl : P.length = n := hs6.1
  have HPl : Hid (P.length = n) := hPl
  clear hPl
  have HTT : Hid (sumTo P n = tot P) := by show _ = _; rw [← HPl.out]; exact sumTo_all P
  have hTP : tot P ≤ 4096 := hT
  clear hT
  have qs : ∀ (w : World) (x : Addr), (binOp .eql 33 (.pointer (some x)) (.pointer (some x))).run Try.prog w = .ok (.bool true) w := fun w x => by
    obtain ⟨j48, hj48, _⟩ := Try.info48
    exact run_eql_ptr_same w x Try.underlying33 hj48
  go_loopw [11, 12] (fun s i wr => ∃ j : Nat, j ≤ n ∧ i = .int .i64 j ∧ s = .int .i64 ((sumTo P j : Nat) : Int) ∧ Below w6.heap.size w6 wr) (fun _ i _ => n - (intOf i).toNat)
  case atStart => exact ⟨0, Nat.zero_le _, rfl, rfl, Below.refl _ _⟩
  case round =>
    obtain ⟨j, hj, rfl, rfl, hbo⟩ := hrel
    rename World => wo
    have hsl := sumTo_le P j (by rw [HPl.out]; exact hj)
    by_cases hlt : j < n
    · have hjP : j < P.length := by rw [HPl.out]; exact hlt
      have hjL : j < LL.length := by rw [hL6.1]; exact hlt
      have hmem : LL.getD j ln0 ∈ LL := by simp [List.getD, hjL]
      have hkx : (P.getD j (0, 0)).1 = (LL.getD j ln0).1 := by rw [← HSh.out]; simp [shapes, List.getD, hjL]
      have hil : (LL.getD j ln0).2.2.length ≤ 255 := by
        have h1 := hs6.small j
        have h2 : (P.getD j (0, 0)).2 = (LL.getD j ln0).2.2.length := by rw [← HSh.out]; simp [shapes, List.getD, hjL]
        omega
      have HON := fun q hq => once LL (LL.getD j ln0) hmem q hq HND.out
      have HOLD := sumTo_old P j
      have HNEW := sumTo_new P j
      obtain ⟨pa, pc, hpv, hp⟩ := hL6.2.2 _ hmem
      have HSUB : Hid (∀ q ∈ (LL.getD j ln0).2.2, Live48 w6 q) := fun q hq => HLV6.out q (List.mem_flatMap.2 ⟨_, hmem, hq⟩)
      rcases hs6.2.2 with h0 | ⟨b, o, rfl, hbw, hcs⟩
      · omega
      rcases hL6.2.1 with h0 | ⟨lb, lo, rfl, hlbw, hcl⟩
      · omega
      have hline := hcl j hlt 4 _ rfl
      have hkw := (hcs j hlt).1
      have HKW : Hid (∀ r, r < n → w6.cell? ⟨b, o + r * 2, none⟩ = some (.int .i64 (P.getD r (0, 0)).1)) := fun r hr => (hcs r hr).1
      clear hcs hcl hjL hmem
      rw [hkx] at hkw HOLD HNEW
      generalize LL.getD j ln0 = z at *
      obtain ⟨x, pv, ids⟩ := z
      simp only at hpv hp hline hkw HON HOLD HNEW HSUB hil
      subst hpv
      clear hkx
      have e0 := (hbo.cell (p := ⟨g, 0, none⟩) hz6).trans d0
      have e1 := (hbo.cell (p := ⟨g, 1, none⟩) hz6).trans d1
      have e2 := (hbo.cell (p := ⟨b, o + j * 2, none⟩) hbw).trans hkw
      have hcnt : cntF P x = (pats LL x).length := by rw [pats_len, HSh.out]
      have hpl : (pats LL x).length ≤ 4096 := by rw [← hcnt]; exact Nat.le_trans (cntF_le _ _) hTP
      have HMEM : Hid (∀ q ∈ pats LL x, Live48 w6 q) := fun q hq => HLV6.out q ((pats_sub LL x).mem hq)
      rw [hcnt] at HNEW
      clear hcnt
      have bj : (j : Int) < (n : Int) := by omega
      go_wp2_with fail
      refine wp_region_still_tail 6 (by kernel_rfl) (by kernel_rfl) ?_
      simp only [List.take_succ_cons, List.take_zero, List.drop_succ_cons, List.drop_zero]
      still_step
      still_step
      still_step
      still_step
      still_step
      still_step
      refine wpStill_nil ?_
      go_wp2_with fail
      refine (patterns_any vol (some ⟨lb, lo, none⟩) n lc LL x wo.drew (hL6.below hbo.drew) (by omega) hTs).mono ?_
      rintro e w7 ⟨ri, rc2, rfl, hRi, -, hb7⟩
      have hb7' : Below w6.heap.size w6 w7 := hbo.drew.trans (hb7.mono hbo.size)
      have f1 := (hb7'.cell (p := ⟨g, 1, none⟩) hz6).trans d1
      have f4 := (hb7'.cell (p := ⟨lb, lo + j * 5 + 4, none⟩) hlbw).trans hline
      have hp7 := hp.below hb7'
      have HK7 : Hid (∀ r, r < n → w7.cell? ⟨b, o + r * 2, none⟩ = some (.int .i64 (P.getD r (0, 0)).1)) := fun r hr => (hb7'.cell hbw).trans (HKW.out r hr)
      have k7 := (hb7'.cell (p := ⟨b, o + j * 2, none⟩) hbw).trans hkw
      have HV7 : Hid (∀ q ∈ pats LL x, Live48 w7 q) := fun q hq => (HMEM.out q hq).below hb7' (HMEM.out q hq).lt
      have HI7 : Hid (∀ q ∈ ids, Live48 w7 q) := fun q hq => (HSUB.out q hq).below hb7' (HSUB.out q hq).lt
      clear e0 e1 e2 hb7 hp HKW HMEM HSUB hkw hline
      generalize pats LL x = R at *
      have HON' : Hid (∀ q, q ∈ ids → seen R q = 1) := HON
      clear HON
      have HO : Hid (keyIn (P.take j) x = true → sumTo P (j + 1) = sumTo P j) := HOLD
      have HN : Hid (keyIn (P.take j) x = false → sumTo P (j + 1) = sumTo P j + R.length) := HNEW
      clear HOLD HNEW
      go_wp2_with fail
      go_loopw [15] (fun i wr => ∃ m q : Nat, q ≤ ids.length ∧ i = .int .i64 q ∧ wr = w7.drewN m) (fun i _ => ids.length - (intOf i).toNat)
      case atStart => exact ⟨0, 0, Nat.zero_le _, rfl, rfl⟩
      case round =>
        obtain ⟨m, q, hq, rfl, rfl⟩ := hrel
        by_cases hltq : q < ids.length
        · obtain ⟨g', rfl, v2⟩ := hp7.at q hltq
          have hym : ids.getD q 0 ∈ ids := by simp [List.getD, hltq]
          have HY1 : Hid (seen R (ids.getD q 0) = 1) := HON'.out _ hym
          have HYL : Hid (Live48 w7 (ids.getD q 0)) := HI7.out _ hym
          clear hym
          generalize ids.getD q 0 = y at *
          have bq : (q : Int) < (ids.length : Int) := by omega
          go_wp2_with fail
          go_loopw [16, 17] (fun s t wr => ∃ m r : Nat, r ≤ R.length ∧ t = .int .i64 r ∧ s = .int .i64 ((seen (R.take r) y : Nat) : Int) ∧ wr = w7.drewN m) (fun _ t _ => R.length - (intOf t).toNat)
          case atStart => exact ⟨m, 0, Nat.zero_le _, rfl, rfl, rfl⟩
          case round =>
            obtain ⟨m2, r, hr, rfl, rfl, rfl⟩ := hrel
            have hsle := seen_le (R.take r) y
            have hsl2 := List.length_take_le r R
            by_cases hltr : r < R.length
            · obtain ⟨gr, rfl, v1⟩ := hRi.at r hltr
              have HST := seen_step R r y hltr
              have hxm : R.getD r 0 ∈ R := by simp [List.getD, hltr]
              have HXL : Hid (Live48 w7 (R.getD r 0)) := HV7.out _ hxm
              clear hxm
              generalize R.getD r 0 = x' at *
              have br : (r : Int) < (R.length : Int) := by omega
              by_cases hxy : x' = y
              · subst hxy
                have HSS : Hid (seen (R.take (r + 1)) x' = seen (R.take r) x' + 1) := by show _ = _; rw [HST]; simp
                clear HST
                generalize seen (R.take r) x' = s0 at *
                go_wp2_with fail
                go_quiet (fail)
                go_wp2
                go_roundw
                case rel => exact ⟨_, r + 1, by omega, by go_num, by rw [HSS.out]; go_num, rfl⟩
                case measure => simp [intOf]; omega
              · have HSS : Hid (seen (R.take (r + 1)) y = seen (R.take r) y) := by show _ = _; rw [HST]; simp [hxy]
                clear HST
                have qo : ∀ m, (binOp .eql 33 (.pointer (some ⟨x', 0, none⟩)) (.pointer (some ⟨y, 0, none⟩))).run Try.prog (w7.drewN m) = .ok (.bool false) (w7.drewN m) := fun m => eql_ptr_other (w := w7.drewN m) HXL.out HYL.out hxy
                generalize seen (R.take r) y = s0 at *
                go_wp2_with fail
                go_quiet (fail)
                go_wp2
                go_roundw
                case rel => exact ⟨_, r + 1, by omega, by go_num, by rw [HSS.out], rfl⟩
                case measure => simp [intOf]; omega
            · have hR1 : seen (R.take r) y = 1 := by rw [List.take_of_length_le (by omega)]; exact HY1.out
              rw [hR1]
              clear hsle
              go_wp2
              go_roundw
              case rel => exact ⟨_, q + 1, by omega, by go_num, rfl⟩
              case measure => simp [intOf]; omega
        · go_wp2_with fail
          go_loopw [18, 19] (fun f i wr => ∃ m r : Nat, r ≤ j ∧ i = .int .i64 r ∧ f = .bool (!(keyIn (P.take r) x)) ∧ wr = w7.drewN m) (fun _ i _ => j - (intOf i).toNat)
          case atStart => exact ⟨m, 0, Nat.zero_le _, rfl, rfl, rfl⟩
          case round =>
            obtain ⟨m2, r, hr, rfl, rfl, rfl⟩ := hrel
            by_cases hltr : r < j
            · have HKS := keyIn_step P r x (by omega)
              have kr := HK7.out r (by omega)
              generalize (P.getD r (0, 0)).1 = z at *
              generalize keyIn (P.take r) x = kb at *
              have br : (r : Int) < (n : Int) := by omega
              have br2 : (r : Int) < (j : Int) := by omega
              cases hzx : (z == x)
              · have HKT : Hid (keyIn (P.take (r + 1)) x = kb) := by show _ = _; rw [HKS, hzx, Bool.or_false]
                clear HKS
                go_wp2_with fail
                go_quiet (fail)
                go_wp2
                go_roundw
                case rel => exact ⟨_, r + 1, by omega, by go_num, by rw [HKT.out], rfl⟩
                case measure => simp [intOf]; omega
              · have HKT : Hid (keyIn (P.take (r + 1)) x = true) := by show _ = _; rw [HKS, hzx, Bool.or_true]
                clear HKS
                go_wp2_with fail
                go_quiet (fail)
                go_wp2
                go_roundw
                case rel => exact ⟨_, r + 1, by omega, by go_num, by rw [HKT.out]; rfl, rfl⟩
                case measure => simp [intOf]; omega
            · obtain rfl : r = j := by omega
              cases hkb : keyIn (P.take r) x
              · have HS1 : Hid (sumTo P (r + 1) = sumTo P r + R.length) := HN.out hkb
                clear HN HO
                generalize sumTo P r = s0 at *
                go_wp2
                go_roundw
                case rel => exact ⟨r + 1, by omega, by go_num, by rw [HS1.out]; go_num, ⟨hb7'.os, hb7'.tape, hb7'.output, hb7'.size, hb7'.block⟩⟩
                case measure => simp [intOf]; omega
              · have HS1 : Hid (sumTo P (r + 1) = sumTo P r) := HO.out hkb
                clear HN HO
                generalize sumTo P r = s0 at *
                go_wp2
                go_roundw
                case rel => exact ⟨r + 1, by omega, by go_num, by rw [HS1.out], ⟨hb7'.os, hb7'.tape, hb7'.output, hb7'.size, hb7'.block⟩⟩
                case measure => simp [intOf]; omega
    · obtain rfl : j = n := by omega
      rw [HTT.out]
      have hz : ((tot P : Int) == (tot P : Int)) = true := by simp
      go_wp2
      go_ret
      exact ⟨rfl, hbt6.trans (hbo.mono hbt6.size)⟩
end Go.Proofs.Qxb6627478a
