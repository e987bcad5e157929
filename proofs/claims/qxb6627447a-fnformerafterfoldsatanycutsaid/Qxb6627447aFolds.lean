import Derived.Test.Qxb6627447aLatest
namespace Go.Proofs.Qxb6627447a
open Go.ChangeShapes Go.WideShapes Go.ChangeAt Go.RowKit

set_option maxHeartbeats 1000000 in
theorem zz8_any (number start : Int) (sa : Option Addr) (sl sc : Nat) (na : Option Addr) (nl nc : Nat) (fa : Option Addr) (fl fc : Nat) (va : Option Addr) (vl vc : Nat) (cut : Int) (w : World)
    (h1 : sl ≤ maxLen) (h2 : nl ≤ maxLen) (h3 : fl ≤ maxLen) (h4 : vl ≤ maxLen) :
    Calls Try.prog 8 #[.int .u64 number, .int .u64 start, .slice sa sl sc, .slice na nl nc, .slice fa fl fc, .slice va vl vc, .int .i64 cut] w fun e w' =>
      ∃ B, e = .returned (.bool B) ∧ w' = w ∧ (sl ≤ 4096 → nl ≤ 65536 → fl ≤ 4096 → vl ≤ 4096 → B = true) := by
  unfold maxLen at *
  go_enter Try.func8, Try.ntmps8
  go_wp2
  all_goals go_ret
  all_goals refine ⟨_, rfl, rfl, ?_⟩
  all_goals intro g1 g2 g3 g4
  all_goals first
    | rfl
    | (exfalso; omega)

theorem Sl.take {w : World} {a : Option Addr} {n c : Nat} {L : List Int} (h : Sl w a n L) (hc : c ≤ n) : Sl w a c (L.take c) := by
  refine ⟨by rw [List.length_take, h.1]; omega, ?_⟩
  rcases h.2 with h0 | ⟨b, o, e, hlt, hcell⟩
  · exact .inl (by omega)
  · refine .inr ⟨b, o, e, hlt, fun j hj => ?_⟩
    rw [hcell j (by omega)]; simp [hj]
theorem Sl.drop {w : World} {a : Option Addr} {n c : Nat} {L : List Int} (h : Sl w a n L) (hc : c ≤ n) : Sl w (a.map (fun x => x.add c)) (n - c) (L.drop c) := by
  refine ⟨by rw [List.length_drop, h.1], ?_⟩
  rcases h.2 with h0 | ⟨b, o, rfl, hlt, hcell⟩
  · exact .inl (by omega)
  · refine .inr ⟨b, o + c, by simp [Addr.add_lit], hlt, fun j hj => ?_⟩
    rw [Nat.add_assoc, hcell (c + j) (by omega)]; simp
theorem Sl.none_left {w : World} {a : Option Addr} {n c : Nat} {L : List Int} (h : Sl w a n L) (hc : c = n) : Sl w a (n - c) (L.drop c) :=
  ⟨by rw [List.length_drop, h.1], .inl (by omega)⟩

theorem last_out (V F S : List Int) (x : Int) (h : x ∈ last64 (keep V F ++ keep V S)) : inB V x = false := by
  have h2 := last64_mem _ _ h
  rw [← keep_append] at h2
  exact keep_mem _ _ _ h2
theorem Sl.drewN {w : World} {a : Option Addr} {n : Nat} {L : List Int} (h : Sl w a n L) (k : Nat) : Sl (w.drewN k) a n L := h

set_option maxHeartbeats 4000000 in
set_option maxRecDepth 100000 in
theorem folds_main (number start : Int) (sa : Option Addr) (sl sc : Nat) (S : List Int) (na : Option Addr) (nl nc : Nat) (fa : Option Addr) (fl fc : Nat) (F : List Int) (va : Option Addr) (vl vc : Nat) (V : List Int) (cut : Nat) (w : World)
    (hS : Sl w sa sl S) (hF : Sl w fa fl F) (hV : Sl w va vl V) (bs : sl ≤ 4096) (bn : nl ≤ 65536) (bf : fl ≤ 4096) (bv : vl ≤ 4096) (hcut0 : cut ≤ sl) (hsc : sl ≤ sc) :
    Calls Try.prog 4 #[.int .u64 number, .int .u64 start, .slice sa sl sc, .slice na nl nc, .slice fa fl fc, .slice va vl vc, .int .i64 cut] w fun e w' =>
      e = .returned (.bool true) ∧ Below w.heap.size w w' := by
  obtain ⟨i0, hi, hz0, hz1, hz2⟩ := info_parts Try.info22
  have q23 : ∀ (w : World) (a : Option Addr) (n c n' c' : Nat), (binOp .neq 23 (.slice a n c) (.slice none n' c')).run Try.prog w = .ok (.bool (!a.isNone)) w := fun w a n c n' c' => run_neq_slice_nil_any w _ _ a n c n' c' Try.underlying23
  go_enter Try.func4, Try.ntmps4
  go_wp2_with fail
  refine (zz8_any number start sa sl sc na nl nc fa fl fc va vl vc cut w (by unfold maxLen; omega) (by unfold maxLen; omega) (by unfold maxLen; omega) (by unfold maxLen; omega)).mono ?_
  rintro e w' ⟨B, rfl, rfl, hB⟩
  obtain rfl := hB bs bn bf bv
  clear hB
  go_upto_if 58 with (fail)
  go_cut [5] (fun v wx => ∃ va' vc', v = .slice va' vl vc' ∧ Sl wx va' vl V ∧ Below w'.heap.size w' wx)
  case first =>
    cases va with
    | none =>
      go_wp2
      go_meet
      case rel => exact ⟨none, vc, rfl, hV, Below.refl _ _⟩
    | some ad =>
      go_wp2_with (at_make; refine wpList_make_full _ rfl _ _ 23 rfl w'.heap.size 22 i0 (.int .u64 0) 1 Try.underlying23 hi hz0 hz1 _ _ _ _ vl rfl rfl rfl rfl ?b2 ?b3 (Nat.le_refl _) ?_)
      case b2 => rw [hz2]; omega
      case b3 => unfold maxLen; omega
      intro w1 hown1 hgrow1
      have hb1 : Below w'.heap.size w' w1 := (Below.refl _ _).grown hgrow1 (Nat.le_refl _) (fun k h => by cases h)
      obtain ⟨cur, hcur, hcl⟩ := own_block hown1
      have hV1 := hV.below hb1
      clear hown1 hgrow1
      have K1 : Hid ((V.map (Value.int .u64)).length = Nat.min vl vl) := by show _ = _; simp [hV.1]
      have K2 : Hid (0 < (V.map (Value.int .u64)).length → (some (⟨w'.heap.size, 0, none⟩ : Addr)) = some ⟨w'.heap.size, 0, none⟩ ∧ ∃ ad', some ad = some ad' ∧ ∀ j v, (V.map (Value.int .u64))[j]? = some v → w1.cell? (ad'.add j) = some v) := by
        intro hpos
        refine ⟨rfl, ad, rfl, fun j u hj => ?_⟩
        have hjn : j < V.length := by simpa using (List.getElem?_eq_some_iff.1 hj).1
        rcases hV1.2 with h0 | ⟨b, o, e, _, hc⟩
        · have := hV.1; omega
        · cases e
          rw [Addr.add_lit, hc j (by have := hV.1; omega), ← hj]
          simp [hjn]
      have K3 : Hid (0 + (V.map (Value.int .u64)).length ≤ cur.length) := by show _ ≤ _; simp [hV.1, hcl]
      go_wp2_with (refine wpList_copy_splice rfl (.tmp 62) (.tmp 63) 23 23 rfl 22 Try.underlying23 Try.info22s _ _ vl vl vl vc rfl rfl w'.heap.size 0 cur 22 hcur (V.map (Value.int .u64)) K1.out K2.out K3.out (ints_oneCell _ _) w'.heap.size w' hb1 (Nat.le_refl _) ?_)
      intro w2 hg2 hb2
      go_wp2
      go_meet
      case rel => exact ⟨_, vl, rfl, Sl.copied hV.1 hcl hg2.out, hb2⟩
  case rest =>
    obtain ⟨va', vc', rfl, hV', hb'⟩ := hcut
    have hS' := hS.below hb'
    have hF' := hF.below hb'
    clear hS hF hV
    go_wp2_with fail
    have ba : Below wc.heap.size wc (wc.alloc (.cells #[.int .u64 number, .int .u64 start, .slice sa sl sc, .slice na nl nc, .slice fa fl fc] 27)) := (Below.refl _ _).alloc (Nat.le_refl _) _
    refine (former_any number start sa sl sc S na nl nc fa fl fc F va' vl vc' V _ (hS'.below ba) (hF'.below ba) (hV'.below ba) bs bf bv).mono ?_
    rintro e w3 ⟨ra, rc, rfl, hR, hrc, _, hb3⟩
    have hbc : Below wc.heap.size wc w3 := ba.trans (hb3.mono ba.size)
    have hS3 := hS'.below hbc
    have hF3 := hF'.below hbc
    have hV3 := hV'.below hbc
    have hb4 : Below w'.heap.size w' w3 := hb'.trans (hbc.mono hb'.size)
    clear hS' hF' hV' hb' hb3 ba hbc
    have hcc : cut ≤ sc := by omega
    go_wp2_with fail
    have ba : Below w3.heap.size w3 (w3.alloc (.cells #[.int .u64 number, .int .u64 start, .slice sa cut sc, .slice na nl nc, .slice fa fl fc] 27)) := (Below.refl _ _).alloc (Nat.le_refl _) _
    refine (former_any number start sa cut sc (S.take cut) na nl nc fa fl fc F va' vl vc' V _ ((hS3.take hcut0).below ba) (hF3.below ba) (hV3.below ba) (by omega) bf bv).mono ?_
    rintro e w5 ⟨ma, mc, rfl, hM, _, _, hb5⟩
    have hbc : Below w3.heap.size w3 w5 := ba.trans (hb5.mono ba.size)
    have hS5 := hS3.below hbc
    have hF5 := hF3.below hbc
    have hV5 := hV3.below hbc
    have hR5 := hR.below hbc
    have hb6 : Below w'.heap.size w' w5 := hb4.trans (hbc.mono hb4.size)
    clear hS3 hF3 hV3 hR hb4 hb5 ba hbc
    have hml := last64_len (keep V F ++ keep V (S.take cut))
    have HF := folds V F S cut
    generalize last64 (keep V F ++ keep V (S.take cut)) = M at *
    have HFF : Hid (last64 (keep V M ++ keep V (S.drop cut)) = last64 (keep V F ++ keep V S)) := HF
    clear HF
    have hml2 : M.length ≤ 64 := by omega
    clear hml
    go_upto_region 21 with (fail)
    go_cut [20] (fun p wx => p = .pointer (some ⟨w5.heap.size, 0, none⟩) ∧ ∃ XA XC, Sl w5 XA (sl - cut) (S.drop cut) ∧ wx = w5.alloc (.cells #[.int .u64 number, .int .u64 start, .slice XA (sl - cut) XC, .slice na nl nc, .slice ma M.length mc] 27))
    case first =>
      by_cases hsc2 : sc = cut
      · go_wp2
        go_meet
        case rel => exact ⟨rfl, _, _, hS5.none_left (by omega), rfl⟩
      · go_wp2
        go_meet
        case rel => exact ⟨rfl, _, _, hS5.drop hcut0, rfl⟩
    case rest =>
      obtain ⟨rfl, XA, XC, hX, rfl⟩ := hcut
      go_wp2_with fail
      have ba : Below w5.heap.size w5 (w5.alloc (.cells #[.int .u64 number, .int .u64 start, .slice XA (sl - cut) XC, .slice na nl nc, .slice ma M.length mc] 27)) := (Below.refl _ _).alloc (Nat.le_refl _) _
      refine (former_any number start XA (sl - cut) XC (S.drop cut) na nl nc ma M.length mc M va' vl vc' V _ (hX.below ba) (hM.below ba) (hV5.below ba) (by omega) (by omega) bv).mono ?_
      rintro e w7 ⟨ta, tc, rfl, hT, _, _, hb7⟩
      have hbc : Below w5.heap.size w5 w7 := ba.trans (hb7.mono ba.size)
      have hS7 := hS5.below hbc
      have hF7 := hF5.below hbc
      have hV7 := hV5.below hbc
      have hR7 := hR5.below hbc
      have hfin : Below w'.heap.size w' w7 := hb6.trans (hbc.mono hb6.size)
      rw [HFF.out] at hT ⊢
      have HRl : Hid ((last64 (keep V F ++ keep V S)).length = min 64 (keep V F ++ keep V S).length) := last64_len _
      have HRm : Hid (∀ j, j < (last64 (keep V F ++ keep V S)).length → inB V ((last64 (keep V F ++ keep V S)).getD j 0) = false) := fun j hj => by
        refine last_out V F S _ ?_
        simp [List.getD, hj]
      clear hS5 hF5 hV5 hR5 hX hM HFF hb6 hb7 ba hbc hml2
      generalize last64 (keep V F ++ keep V S) = R at *
      have hRl64 : R.length ≤ 64 := by have := HRl.out; omega
      go_wp2_with fail
      go_loopw [22] (fun i wr => ∃ n kk : Nat, kk ≤ R.length ∧ i = .int .i64 kk ∧ wr = w7.drewN n) (fun i _ => R.length - (intOf i).toNat)
      case atStart => exact ⟨0, 0, Nat.zero_le _, rfl, rfl⟩
      case round =>
        obtain ⟨n, kk, hkk, rfl, rfl⟩ := hrel
        by_cases hlt : kk < R.length
        · rcases hR7.2 with h0 | ⟨b, o, rfl, hbw, hc⟩
          · omega
          · rcases hT.2 with h0 | ⟨b2, o2, rfl, hbw2, hc2⟩
            · omega
            · have f1 := hc kk hlt
              have f2 := hc2 kk hlt
              clear hc hc2
              generalize R.getD kk 0 = x at *
              have b1 : (kk : Int) < (R.length : Int) := by omega
              go_wp2_with fail
              go_quiet (fail)
              go_wp2
              go_roundw
              case rel => exact ⟨_, kk + 1, by omega, by go_num, rfl⟩
              case measure => simp [intOf]; omega
        · go_wp2_with fail
          go_loop [23, 24] (fun c i => ∃ j : Nat, j ≤ fl ∧ i = .int .i64 j ∧ c = .int .i64 (((keep V (F.take j)).length : Nat) : Int)) (fun _ i => fl - (intOf i).toNat)
          case atStart => exact ⟨0, Nat.zero_le _, rfl, rfl⟩
          case round =>
            obtain ⟨j, hj, rfl, rfl⟩ := hrel
            have HLl : Hid (F.length = fl) := hF7.1
            have hkl : (keep V (F.take j)).length ≤ 4096 := by
              have h1 := keep_len V (F.take j)
              have h2 := List.length_take_le j F
              omega
            by_cases hltj : j < fl
            · rcases hF7.2 with h0 | ⟨b, o, rfl, hbw, hc⟩
              · omega
              · have hck := hc j hltj
                have HKI := keep_take_in V F j (by rw [HLl.out]; exact hltj)
                have HKO := keep_take_out V F j (by rw [HLl.out]; exact hltj)
                clear hc
                generalize F.getD j 0 = y at *
                have bj : (j : Int) < (fl : Int) := by omega
                cases hin : inB V y
                · have HX : Hid ((keep V (F.take (j + 1))).length = (keep V (F.take j)).length + 1) := by show _ = _; rw [HKO hin]; simp
                  clear HKI HKO
                  generalize (keep V (F.take j)).length = cj at *
                  go_wp2_with fail
                  refine (zzIn_any va' vl vc' V y _ (hV7.drewN _) (by omega)).mono ?_
                  rintro e w8 ⟨rfl, rfl⟩
                  rw [hin]
                  go_wp2
                  go_round
                  case rel => exact ⟨j + 1, by omega, by go_num, by rw [HX.out]; go_num⟩
                  case measure => simp [intOf]; omega
                · have HX : Hid ((keep V (F.take (j + 1))).length = (keep V (F.take j)).length) := by show _ = _; rw [HKI hin]
                  clear HKI HKO
                  generalize (keep V (F.take j)).length = cj at *
                  go_wp2_with fail
                  refine (zzIn_any va' vl vc' V y _ (hV7.drewN _) (by omega)).mono ?_
                  rintro e w8 ⟨rfl, rfl⟩
                  rw [hin]
                  go_wp2
                  go_round
                  case rel => exact ⟨j + 1, by omega, by go_num, by rw [HX.out]⟩
                  case measure => simp [intOf]; omega
            · have HTk : Hid (F.take j = F) := List.take_of_length_le (by rw [HLl.out]; omega)
              rw [HTk.out] at hkl ⊢
              generalize hcF : (keep V F).length = cF at *
              have HcF : Hid ((keep V F).length = cF) := hcF
              clear hcF
              go_wp2_with fail
              go_loop [23, 25] (fun c i => ∃ j : Nat, j ≤ sl ∧ i = .int .i64 j ∧ c = .int .i64 ((cF + (keep V (S.take j)).length : Nat) : Int)) (fun _ i => sl - (intOf i).toNat)
              case atStart => exact ⟨0, Nat.zero_le _, rfl, rfl⟩
              case round =>
                obtain ⟨j, hj, rfl, rfl⟩ := hrel
                have HLl : Hid (S.length = sl) := hS7.1
                have hkl : (keep V (S.take j)).length ≤ 4096 := by
                  have h1 := keep_len V (S.take j)
                  have h2 := List.length_take_le j S
                  omega
                by_cases hltj : j < sl
                · rcases hS7.2 with h0 | ⟨b, o, rfl, hbw, hc⟩
                  · omega
                  · have hck := hc j hltj
                    have HKI := keep_take_in V S j (by rw [HLl.out]; exact hltj)
                    have HKO := keep_take_out V S j (by rw [HLl.out]; exact hltj)
                    clear hc
                    generalize S.getD j 0 = y at *
                    have bj : (j : Int) < (sl : Int) := by omega
                    cases hin : inB V y
                    · have HX : Hid ((keep V (S.take (j + 1))).length = (keep V (S.take j)).length + 1) := by show _ = _; rw [HKO hin]; simp
                      clear HKI HKO
                      generalize (keep V (S.take j)).length = cj at *
                      go_wp2_with fail
                      refine (zzIn_any va' vl vc' V y _ (hV7.drewN _) (by omega)).mono ?_
                      rintro e w8 ⟨rfl, rfl⟩
                      rw [hin]
                      go_wp2
                      go_round
                      case rel => exact ⟨j + 1, by omega, by go_num, by rw [HX.out]; go_num⟩
                      case measure => simp [intOf]; omega
                    · have HX : Hid ((keep V (S.take (j + 1))).length = (keep V (S.take j)).length) := by show _ = _; rw [HKI hin]
                      clear HKI HKO
                      generalize (keep V (S.take j)).length = cj at *
                      go_wp2_with fail
                      refine (zzIn_any va' vl vc' V y _ (hV7.drewN _) (by omega)).mono ?_
                      rintro e w8 ⟨rfl, rfl⟩
                      rw [hin]
                      go_wp2
                      go_round
                      case rel => exact ⟨j + 1, by omega, by go_num, by rw [HX.out]; go_num⟩
                      case measure => simp [intOf]; omega
                · have HTk : Hid (S.take j = S) := List.take_of_length_le (by rw [HLl.out]; omega)
                  rw [HTk.out] at hkl ⊢
                  have HKl : Hid (R.length = min 64 (cF + (keep V S).length)) := by
                    have := HRl.out
                    rw [List.length_append, HcF.out] at this
                    exact this
                  generalize (keep V S).length = cS at *
                  have hz : ((R.length : Int) != (if 64 < (cF : Int) + (cS : Int) then 64 else (cF : Int) + (cS : Int))) = false := by
                    have := HKl.out
                    rw [bne_eq_false_iff_eq]
                    split <;> omega
                  by_cases hbig : 64 < (cF : Int) + (cS : Int)
                  all_goals
                    simp only [hbig, if_true, if_false] at hz
                    go_wp2_with fail
                    go_loop [27] (fun i => ∃ j : Nat, j ≤ R.length ∧ i = .int .i64 j) (fun i => R.length - (intOf i).toNat)
                    case atStart => exact ⟨0, Nat.zero_le _, rfl⟩
                    case round =>
                      obtain ⟨j, hj, rfl⟩ := hrel
                      by_cases hltj : j < R.length
                      · rcases hR7.2 with h0 | ⟨b, o, rfl, hbw, hc⟩
                        · omega
                        · have hck := hc j hltj
                          have hin := HRm.out j hltj
                          clear hc
                          generalize R.getD j 0 = y at *
                          have bj : (j : Int) < (R.length : Int) := by omega
                          go_wp2_with fail
                          refine (zzIn_any va' vl vc' V y _ (hV7.drewN _) (by omega)).mono ?_
                          rintro e w8 ⟨rfl, rfl⟩
                          rw [hin]
                          go_wp2
                          go_round
                          case rel => exact ⟨j + 1, by omega, by go_num⟩
                          case measure => simp [intOf]; omega
                      · go_wp2
                        go_ret
                        exact ⟨rfl, ⟨hfin.os, hfin.tape, hfin.output, hfin.size, hfin.block⟩⟩
end Go.Proofs.Qxb6627447a
