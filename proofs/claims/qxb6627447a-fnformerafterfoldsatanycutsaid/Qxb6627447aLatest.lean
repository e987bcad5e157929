import Derived.Test.Qxb6627447aFormer
import Derived.Deep.DeepCutAuto
import Derived.Deep.CutBlock
import Derived.Laws.CopyOwn
import Derived.WalkSpells
namespace Go.Proofs.Qxb6627447a
open Go.ChangeShapes Go.WideShapes Go.ChangeAt Go.RowKit

set_option maxHeartbeats 1000000 in
theorem zz5_any (number start : Int) (sa : Option Addr) (sl sc : Nat) (na : Option Addr) (nl nc : Nat) (fa : Option Addr) (fl fc : Nat) (va : Option Addr) (vl vc : Nat) (w : World)
    (h1 : sl ≤ maxLen) (h2 : nl ≤ maxLen) (h3 : fl ≤ maxLen) (h4 : vl ≤ maxLen) :
    Calls Try.prog 5 #[.int .u64 number, .int .u64 start, .slice sa sl sc, .slice na nl nc, .slice fa fl fc, .slice va vl vc] w fun e w' =>
      ∃ B, e = .returned (.bool B) ∧ w' = w ∧ (sl ≤ 4096 → nl ≤ 65536 → fl ≤ 4096 → vl ≤ 4096 → B = true) := by
  unfold maxLen at *
  go_enter Try.func5, Try.ntmps5
  go_wp2
  all_goals go_ret
  all_goals refine ⟨_, rfl, rfl, ?_⟩
  all_goals intro g1 g2 g3 g4
  all_goals first
    | rfl
    | (exfalso; omega)

theorem Try.info22s : (Try.prog.info? 22).map (·.size) = some 1 := by kernel_rfl

/-- An owned row, as the block that it is. -/
theorem own_block {w : World} {base g n : Nat} {xs : List Value} (h : w.ownsRow base 22 1 (.slice (some ⟨g, 0, none⟩) n n) n xs) : ∃ cur : List Value, w.heap[g]? = some (.cells cur.toArray 22 (0, 0)) ∧ cur.length = n := by
  rcases h.2 with ⟨e, _⟩ | ⟨g', cap, cur, e, hg, hh, hn, hm, hs, _⟩
  · cases e
  · cases e
    exact ⟨cur.toList, by simpa using hh, by simpa using hs⟩

theorem Sl.copied {w : World} {g n : Nat} {V : List Int} {cur : List Value} (hV : V.length = n) (hc : cur.length = n) (hg : w.heap[g]? = some (.cells (splice cur 0 (V.map (Value.int .u64))).toArray 22 (0, 0))) :
    Sl w (some ⟨g, 0, none⟩) n V := by
  refine ⟨hV, .inr ⟨g, 0, rfl, (Array.getElem?_eq_some_iff.1 hg).1, fun j hj => ?_⟩⟩
  have e : splice cur 0 (V.map (Value.int .u64)) = V.map (Value.int .u64) := by simp [splice, hV, ← hc]
  rw [Nat.zero_add, cell_of_row w g j _ _ _ hg, e]
  simp [show j < V.length by omega]

/-- The window of 64 numbers. -/
def bufOf (l : List Int) : Array Value := (l.map (Value.int .u64)).toArray
theorem run_alloc29 (w : World) : (Instr.alloc 29 true (.tuple #[])).run Try.prog w = .ok (.pointer (some ⟨w.heap.size, 0, none⟩)) (w.alloc (.cells (bufOf (List.replicate 64 0)) 29)) := by kernel_rfl
theorem wpList_buf {ops : Array Oper} {rest : List Oper} {o : Oper} {a : Act} {w : World} {Q : Exit → Act → World → Prop} (hgd : o.guard = none) (ho : o.op = .alloc 29)
    (h : ∀ w4, Hid (w4.heap[w.heap.size]? = some (.cells (bufOf (List.replicate 64 0)) 29 (0, 0))) → Below w.heap.size w w4 → wpList Try.prog ops Q rest (a.put o.dst (.pointer (some ⟨w.heap.size, 0, none⟩))) w4) :
    wpList Try.prog ops Q (o :: rest) a w :=
  wpList_plain hgd fun K hK => by
    unfold Oper.wp
    have hrun : (execOp a.eval o).run Try.prog w = .ok (.value (.pointer (some ⟨w.heap.size, 0, none⟩))) (w.alloc (.cells (bufOf (List.replicate 64 0)) 29)) := by
      unfold execOp
      simp only [ho, Sem.run_bind, run_alloc29, Result.andThen_ok, Sem.run_pure]
    rw [hrun]
    exact hK _ _ (h _ (heap_alloc_new w _) ((Below.refl _ _).alloc (Nat.le_refl _) _))

structure BufRel (W4 wr : World) (bb : Nat) (cur : List Int) (p : Nat) (M : List Int) : Prop where
  bel : Below bb W4 wr
  blk : wr.heap[bb]? = some (.cells (bufOf cur) 29 (0, 0))
  len : cur.length = 64
  sum : p + M.length = 64
  suf : cur.drop p = M
theorem BufRel.cell {W4 wr : World} {bb : Nat} {cur : List Int} {p : Nat} {M : List Int} (h : BufRel W4 wr bb cur p M) (j : Nat) (hj : j < 64) : wr.cell? ⟨bb, j, none⟩ = some (.int .u64 (cur.getD j 0)) ∧ wr.frozen? ⟨bb, j, none⟩ = false := by
  refine ⟨?_, frozen_of_row wr bb j _ _ h.blk⟩
  rw [cell_of_row wr bb j _ _ _ h.blk]
  simp [bufOf, h.len, hj]
theorem BufRel.push {W4 wr : World} {bb : Nat} {cur : List Int} {p : Nat} {M : List Int} (h : BufRel W4 wr bb cur p M) (hp : 0 < p) (y : Int) :
    BufRel W4 (wr.setCell ⟨bb, p - 1, none⟩ (.int .u64 y)) bb (cur.set (p - 1) y) (p - 1) (y :: M) := by
  refine ⟨h.bel.setCell (Nat.le_refl _) _, ?_, by simp [h.len], by have := h.sum; simp; omega, ?_⟩
  · rw [heap_setCell_same wr bb (p - 1) _ _ _ h.blk]
    simp [bufOf, List.map_set]
  · have hl := h.len
    have hs := h.sum
    rw [List.drop_eq_getElem_cons (by simp; omega)]
    simp only [List.getElem_set_self]
    rw [show p - 1 + 1 = p by omega, List.drop_set_of_lt (by omega), h.suf]

set_option maxHeartbeats 2000000 in
set_option maxRecDepth 100000 in
theorem latest_main (number start : Int) (sa : Option Addr) (sl sc : Nat) (S : List Int) (na : Option Addr) (nl nc : Nat) (fa : Option Addr) (fl fc : Nat) (F : List Int) (va : Option Addr) (vl vc : Nat) (V : List Int) (w : World)
    (hS : Sl w sa sl S) (hF : Sl w fa fl F) (hV : Sl w va vl V) (bs : sl ≤ 4096) (bn : nl ≤ 65536) (bf : fl ≤ 4096) (bv : vl ≤ 4096) :
    Calls Try.prog 3 #[.int .u64 number, .int .u64 start, .slice sa sl sc, .slice na nl nc, .slice fa fl fc, .slice va vl vc] w fun e w' =>
      e = .returned (.bool true) ∧ Below w.heap.size w w' := by
  obtain ⟨i0, hi, hz0, hz1, hz2⟩ := info_parts Try.info22
  have q23 : ∀ (w : World) (a : Option Addr) (n c n' c' : Nat), (binOp .neq 23 (.slice a n c) (.slice none n' c')).run Try.prog w = .ok (.bool (!a.isNone)) w := fun w a n c n' c' => run_neq_slice_nil_any w _ _ a n c n' c' Try.underlying23
  have q23' : ∀ (w : World) (a : Option Addr) (n c n' c' : Nat), (binOp .eql 23 (.slice a n c) (.slice none n' c')).run Try.prog w = .ok (.bool a.isNone) w := fun w a n c n' c' => Lib.run_eql_slice_nil w _ _ a n c n' c' Try.underlying23
  go_enter Try.func3, Try.ntmps3
  go_wp2_with fail
  refine (zz5_any number start sa sl sc na nl nc fa fl fc va vl vc w (by unfold maxLen; omega) (by unfold maxLen; omega) (by unfold maxLen; omega) (by unfold maxLen; omega)).mono ?_
  rintro e w' ⟨B, rfl, rfl, hB⟩
  obtain rfl := hB bs bn bf bv
  clear hB
  go_upto_if 43 with (fail)
  go_cut [5] (fun v wx => ∃ va' vc', v = .slice va' vl vc' ∧ Sl wx va' vl V ∧ Below w'.heap.size w' wx)
  case first =>
    cases va with
    | none =>
      go_wp2
      go_meet
      case rel => exact ⟨none, vc, rfl, hV, Below.refl _ _⟩
    | some ad =>
      go_wp2_with (at_make; refine wpList_make_full _ rfl _ _ 23 rfl w'.heap.size 22 i0 (.int .u64 0) 1 Try.underlying23 hi hz0 hz1 _ _ _ _ vl rfl rfl rfl rfl ?b2 ?b3 (Nat.le_refl _) ?_)
      case b2 => rw [hz2]; omega
      case b3 => unfold maxLen; omega
      intro w1 hown1 hgrow1
      have hb1 : Below w'.heap.size w' w1 := (Below.refl _ _).grown hgrow1 (Nat.le_refl _) (fun k h => by cases h)
      obtain ⟨cur, hcur, hcl⟩ := own_block hown1
      have hV1 := hV.below hb1
      clear hown1 hgrow1
      have K1 : Hid ((V.map (Value.int .u64)).length = Nat.min vl vl) := by show _ = _; simp [hV.1]
      have K2 : Hid (0 < (V.map (Value.int .u64)).length → (some (⟨w'.heap.size, 0, none⟩ : Addr)) = some ⟨w'.heap.size, 0, none⟩ ∧ ∃ ad', some ad = some ad' ∧ ∀ j v, (V.map (Value.int .u64))[j]? = some v → w1.cell? (ad'.add j) = some v) := by
        intro hpos
        refine ⟨rfl, ad, rfl, fun j u hj => ?_⟩
        have hjn : j < V.length := by simpa using (List.getElem?_eq_some_iff.1 hj).1
        rcases hV1.2 with h0 | ⟨b, o, e, _, hc⟩
        · have := hV.1; omega
        · cases e
          rw [Addr.add_lit, hc j (by have := hV.1; omega), ← hj]
          simp [hjn]
      have K3 : Hid (0 + (V.map (Value.int .u64)).length ≤ cur.length) := by show _ ≤ _; simp [hV.1, hcl]
      go_wp2_with (refine wpList_copy_splice rfl (.tmp 47) (.tmp 48) 23 23 rfl 22 Try.underlying23 Try.info22s _ _ vl vl vl vc rfl rfl w'.heap.size 0 cur 22 hcur (V.map (Value.int .u64)) K1.out K2.out K3.out (ints_oneCell _ _) w'.heap.size w' hb1 (Nat.le_refl _) ?_)
      intro w2 hg2 hb2
      go_wp2
      go_meet
      case rel => exact ⟨_, vl, rfl, Sl.copied hV.1 hcl hg2.out, hb2⟩
  case rest =>
    obtain ⟨va', vc', rfl, hV', hb'⟩ := hcut
    have hS' := hS.below hb'
    have hF' := hF.below hb'
    clear hS hF hV
    go_wp2_with fail
    have ba : Below wc.heap.size wc (wc.alloc (.cells #[.int .u64 number, .int .u64 start, .slice sa sl sc, .slice na nl nc, .slice fa fl fc] 27)) := (Below.refl _ _).alloc (Nat.le_refl _) _
    refine (former_any number start sa sl sc S na nl nc fa fl fc F va' vl vc' V _ (hS'.below ba) (hF'.below ba) (hV'.below ba) bs bf bv).mono ?_
    rintro e w3 ⟨ra, rc, rfl, hR, hrc, hrn, hb3⟩
    have hbc : Below wc.heap.size wc w3 := ba.trans (hb3.mono ba.size)
    have hS3 := hS'.below hbc
    have hF3 := hF'.below hbc
    have hV3 := hV'.below hbc
    have hb4 : Below w'.heap.size w' w3 := hb'.trans (hbc.mono hb'.size)
    clear hS' hF' hV' hb' hb3 ba hbc
    generalize hRR : last64 (keep V F ++ keep V S) = R at *
    have HRR : Hid (last64 (keep V F ++ keep V S) = R) := hRR
    clear hRR
    go_wp2_with (refine wpList_buf rfl rfl ?_)
    intro w4 hbuf hb5
    have hb6 : Below w'.heap.size w' w4 := hb4.trans (hb5.mono hb4.size)
    have R0 : BufRel w3 w4 w3.heap.size (List.replicate 64 0) 64 [] := ⟨hb5, hbuf.out, by simp, rfl, by simp⟩
    clear hb5 hbuf hb6
    go_upto_block 0 with (fail)
    go_cut [17] (fun p wx => ∃ (pN : Nat) (cur M1 : List Int), pN ≤ 64 ∧ p = .int .i64 pN ∧ BufRel w3 wx w3.heap.size cur pN M1 ∧ Hid (last64 (keep V S) = M1))
    case first =>
      go_wp2_with fail
      go_loopw [17, 18] (fun p i wr => ∃ (i1 pN : Nat) (cur : List Int), i1 ≤ sl ∧ pN ≤ 64 ∧ i = .int .i64 ((i1 : Int) - 1) ∧ p = .int .i64 pN ∧ BufRel w3 wr w3.heap.size cur pN (keep V (S.drop i1))) (fun _ i _ => (intOf i + 1).toNat)
      case atStart => exact ⟨sl, 64, _, Nat.le_refl _, Nat.le_refl _, rfl, rfl, by rw [List.drop_of_length_le (by rw [hS3.1]; exact Nat.le_refl _), keep_nil]; exact R0⟩
      case round =>
        obtain ⟨i1, pN, cur, hi1, hpN, rfl, rfl, R⟩ := hrel
        clear R0
        by_cases hgo1 : 0 < i1
        · by_cases hgo2 : 0 < pN
          · have hSr := hS3.below R.bel
            have hVr := hV3.below R.bel
            have HSl : Hid (S.length = sl) := hS3.1
            rcases hSr.2 with h0 | ⟨b, o, rfl, hbw, hc⟩
            · omega
            · have hck := hc (i1 - 1) (by omega)
              have HKI := keep_drop_in V S (i1 - 1) (by rw [HSl.out]; omega)
              have HKO := keep_drop_out V S (i1 - 1) (by rw [HSl.out]; omega)
              rw [show i1 - 1 + 1 = i1 by omega] at HKI HKO
              clear hc hSr
              generalize S.getD (i1 - 1) 0 = y at *
              have hidx : (0 : Int) ≤ (i1 : Int) - 1 := by omega
              have hidx2 : (i1 : Int) - 1 < (sl : Int) := by omega
              cases hin : inB V y
              · have HX : Hid (keep V (S.drop (i1 - 1)) = y :: keep V (S.drop i1)) := HKO hin
                clear HKI HKO
                go_wp2_with fail
                refine (zzIn_any va' vl vc' V y _ hVr (by omega)).mono ?_
                rintro e w5 ⟨rfl, rfl⟩
                rw [hin]
                obtain ⟨hcp, hfz⟩ := R.cell (pN - 1) (by omega)
                go_wp2
                go_roundw
                case rel => exact ⟨i1 - 1, pN - 1, cur.set (pN - 1) y, by omega, by omega, by go_num, by go_num, by rw [HX.out]; exact R.push hgo2 y⟩
                case measure => simp [intOf]; omega
              · have HX : Hid (keep V (S.drop (i1 - 1)) = keep V (S.drop i1)) := HKI hin
                clear HKI HKO
                go_wp2_with fail
                refine (zzIn_any va' vl vc' V y _ hVr (by omega)).mono ?_
                rintro e w5 ⟨rfl, rfl⟩
                rw [hin]
                go_wp2
                go_roundw
                case rel => exact ⟨i1 - 1, pN, cur, by omega, hpN, by go_num, rfl, by rw [HX.out]; exact R⟩
                case measure => simp [intOf]; omega
          · go_wp2
            go_meet
            case rel => exact ⟨pN, cur, _, hpN, rfl, R, scan_one V S i1 _ rfl (by have := R.sum; omega) (.inr (by have := R.sum; omega))⟩
        · go_wp2
          go_meet
          case rel => exact ⟨pN, cur, _, hpN, rfl, R, scan_one V S i1 _ rfl (by have := R.sum; omega) (.inl (by omega))⟩
    case rest =>
      obtain ⟨p1, cur1, M1, hp1, rfl, R1, H1⟩ := hcut
      clear R0
      go_upto_block 2 with (fail)
      go_cut [17] (fun p wx => ∃ (pN : Nat) (cur M : List Int), pN ≤ 64 ∧ p = .int .i64 pN ∧ BufRel w3 wx w3.heap.size cur pN M ∧ Hid (last64 (keep V F ++ keep V S) = M))
      case first =>
        go_wp2_with fail
        go_loopw [17, 19] (fun p i wr => ∃ (i1 pN : Nat) (cur : List Int), i1 ≤ fl ∧ pN ≤ 64 ∧ i = .int .i64 ((i1 : Int) - 1) ∧ p = .int .i64 pN ∧ BufRel w3 wr w3.heap.size cur pN (keep V (F.drop i1) ++ M1)) (fun _ i _ => (intOf i + 1).toNat)
        case atStart => exact ⟨fl, p1, _, Nat.le_refl _, hp1, rfl, rfl, by rw [List.drop_of_length_le (by rw [hF3.1]; exact Nat.le_refl _), keep_nil]; exact R1⟩
        case round =>
          obtain ⟨i1, pN, cur, hi1, hpN, rfl, rfl, R⟩ := hrel
          clear R1
          by_cases hgo1 : 0 < i1
          · by_cases hgo2 : 0 < pN
            · have hFr := hF3.below R.bel
              have hVr := hV3.below R.bel
              have HFl : Hid (F.length = fl) := hF3.1
              rcases hFr.2 with h0 | ⟨b, o, rfl, hbw, hc⟩
              · omega
              · have hck := hc (i1 - 1) (by omega)
                have HKI := keep_drop_in V F (i1 - 1) (by rw [HFl.out]; omega)
                have HKO := keep_drop_out V F (i1 - 1) (by rw [HFl.out]; omega)
                rw [show i1 - 1 + 1 = i1 by omega] at HKI HKO
                clear hc hFr
                generalize F.getD (i1 - 1) 0 = y at *
                have hidx : (0 : Int) ≤ (i1 : Int) - 1 := by omega
                have hidx2 : (i1 : Int) - 1 < (fl : Int) := by omega
                cases hin : inB V y
                · have HX : Hid (keep V (F.drop (i1 - 1)) = y :: keep V (F.drop i1)) := HKO hin
                  clear HKI HKO
                  go_wp2_with fail
                  refine (zzIn_any va' vl vc' V y _ hVr (by omega)).mono ?_
                  rintro e w5 ⟨rfl, rfl⟩
                  rw [hin]
                  obtain ⟨hcp, hfz⟩ := R.cell (pN - 1) (by omega)
                  go_wp2
                  go_roundw
                  case rel => exact ⟨i1 - 1, pN - 1, cur.set (pN - 1) y, by omega, by omega, by go_num, by go_num, by rw [HX.out]; exact R.push hgo2 y⟩
                  case measure => simp [intOf]; omega
                · have HX : Hid (keep V (F.drop (i1 - 1)) = keep V (F.drop i1)) := HKI hin
                  clear HKI HKO
                  go_wp2_with fail
                  refine (zzIn_any va' vl vc' V y _ hVr (by omega)).mono ?_
                  rintro e w5 ⟨rfl, rfl⟩
                  rw [hin]
                  go_wp2
                  go_roundw
                  case rel => exact ⟨i1 - 1, pN, cur, by omega, hpN, by go_num, rfl, by rw [HX.out]; exact R⟩
                  case measure => simp [intOf]; omega
            · go_wp2
              go_meet
              case rel => exact ⟨pN, cur, _, hpN, rfl, R, scan_two V F S i1 M1 _ H1.out rfl (by have := R.sum; omega) (.inr (by have := R.sum; omega))⟩
          · go_wp2
            go_meet
            case rel => exact ⟨pN, cur, _, hpN, rfl, R, scan_two V F S i1 M1 _ H1.out rfl (by have := R.sum; omega) (.inl (by omega))⟩
      case rest =>
        obtain ⟨pN, cur, M, hpN, rfl, RB, H2⟩ := hcut
        clear R1 H1
        obtain rfl : R = M := HRR.out.symm.trans H2.out
        clear HRR H2
        have hsum := RB.sum
        have hRr := hR.below RB.bel
        have hfin := hb4.trans (RB.bel.mono hb4.size)
        have hcur := RB.suf
        have FB : Hid (∀ j, j < 64 → _ = some (Value.int .u64 (cur.getD j 0)) ∧ _ = false) := fun j hj => RB.cell j hj
        clear RB hR hS3 hF3 hV3 hb4
        have hpI : (64 : Int) - (pN : Int) = (R.length : Int) := by omega
        cases ra with
        | none =>
          have h0 : R.length = 0 := hrn.1 rfl
          have hz : ((R.length : Int) == 0) = true := by rw [h0]; rfl
          go_wp2_with fail
          refine wp_loop_rounds 1 ?_
          rw [rounds_succ]
          go_wp2
          go_ret
          exact ⟨rfl, hfin⟩
        | some ad =>
          have h0 : ¬ R.length = 0 := fun h => by have := hrn.2 h; cases this
          have hz : ((R.length : Int) == 0) = false := by rw [beq_eq_false_iff_ne]; omega
          rcases hRr.2 with h1 | ⟨b, o, e, hbw, hc⟩
          · exact absurd h1 h0
          · cases e
            have FR : Hid (∀ j, j < R.length → _ = some (Value.int .u64 (R.getD j 0))) := fun j hj => hc j hj
            clear hc hRr hrn
            have FE : Hid (∀ j, j < R.length → cur.getD (pN + j) 0 = R.getD j 0) := fun j hj => by rw [← hcur]; simp [List.getElem?_drop]
            clear hcur
            go_wp2_with fail
            go_loopw [21] (fun i wr => ∃ n kk : Nat, kk ≤ R.length ∧ i = .int .i64 kk ∧ wr = wc.drewN n) (fun i _ => R.length - (intOf i).toNat)
            case atStart => exact ⟨0, 0, Nat.zero_le _, rfl, rfl⟩
            case round =>
              obtain ⟨n, kk, hkk, rfl, rfl⟩ := hrel
              by_cases hlt : kk < R.length
              · have f1 := FR.out kk hlt
                have f2 := (FB.out (pN + kk) (by omega)).1
                rw [FE.out kk hlt] at f2
                generalize R.getD kk 0 = x at *
                have b1 : (kk : Int) < (R.length : Int) := by omega
                have b2 : (pN : Int) + (kk : Int) < 64 := by omega
                go_wp2_with fail
                go_quiet (fail)
                go_wp2
                go_roundw
                case rel => exact ⟨_, kk + 1, by omega, by go_num, rfl⟩
                case measure => simp [intOf]; omega
              · go_wp2
                go_ret
                exact ⟨rfl, ⟨hfin.os, hfin.tape, hfin.output, hfin.size, hfin.block⟩⟩
end Go.Proofs.Qxb6627447a
