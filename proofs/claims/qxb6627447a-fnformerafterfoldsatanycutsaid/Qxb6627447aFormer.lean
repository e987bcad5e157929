import Derived.Test.Qxb6627447aRows
import Derived.Test.Qxb6627447aPlain
import Derived.WalkKit
import Derived.ProofKit
import Derived.OpenShut
import Derived.ShutString
import Derived.ChangeOld
import Derived.Below
import Derived.WalkLawsBesides
import Derived.Deep.QuietTactic
import Derived.BigQuiet
namespace Go.Proofs.Qxb6627447a
open Go.ChangeShapes Go.WideShapes Go.ChangeAt Go.RowKit

theorem Try.info22 : (Try.prog.info? 22).map (fun i => (i.zero, i.size, i.bytes)) = some (some (.int .u64 0), 1, 8) := by kernel_rfl

/-- A slice of numbers as the walk is told of it: empty, or at an address with its cells below B. -/
def Sl (w : World) (a : Option Addr) (len : Nat) (L : List Int) : Prop :=
  L.length = len ∧ (len = 0 ∨ ∃ b o, a = some ⟨b, o, none⟩ ∧ b < w.heap.size ∧ ∀ j, j < len → w.cell? ⟨b, o + j, none⟩ = some (.int .u64 (L.getD j 0)))
theorem Sl.below {w w' : World} {a : Option Addr} {len : Nat} {L : List Int} (h : Sl w a len L) (hb : Below w.heap.size w w') : Sl w' a len L := by
  refine ⟨h.1, ?_⟩
  rcases h.2 with h | ⟨b, o, e, hlt, hc⟩
  · exact .inl h
  · exact .inr ⟨b, o, e, Nat.lt_of_lt_of_le hlt hb.size, fun j hj => (hb.cell hlt).trans (hc j hj)⟩

set_option maxHeartbeats 400000 in
theorem contains_any (a : Option Addr) (n c : Nat) (V : List Int) (x : Int) (w : World) (hs : Sl w a n V) (hn : n ≤ 1048576) :
    Calls Try.prog 9 #[.slice a n c, .int .u64 x] w fun e w' => e = .returned (.bool (inB V x)) ∧ w' = w := by
  obtain ⟨hl, hs⟩ := hs
  rcases hs with h0 | ⟨b, o, rfl, _, hc⟩
  · subst h0
    have hV : V = [] := List.eq_nil_of_length_eq_zero hl
    subst hV
    clear hl hn
    go_enter Try.func9, Try.ntmps9
    go_wp2_with fail
    refine wp_loop_rounds 1 ?_
    rw [rounds_succ]
    go_wp2
    go_ret
    exact ⟨rfl, rfl⟩
  · have HC : Hid (∀ k, k < n → ∃ y, w.cell? ⟨b, o + k, none⟩ = some (.int .u64 y) ∧ Hid (V[k]? = some y)) := fun k hk => ⟨V.getD k 0, hc k hk, by show V[k]? = _; simp [show k < V.length by omega]⟩
    have HL : Hid (V.length = n) := hl
    clear hc hl
    go_enter Try.func9, Try.ntmps9
    go_wp2_with fail
    go_loop [9] (fun i => ∃ k : Nat, k ≤ n ∧ i = .int .i64 k ∧ Hid (inB (V.take k) x = false)) (fun i => n - (intOf i).toNat)
    case atStart => exact ⟨0, Nat.zero_le _, rfl, rfl⟩
    case round =>
      obtain ⟨k, hk, rfl, HK⟩ := hrel
      by_cases hlt : k < n
      · obtain ⟨y, hy, HY⟩ := HC.out k hlt
        cases hxy : (y == x)
        · go_wp2
          go_round
          case rel => exact ⟨k + 1, by omega, by go_num, contains_false_take V k x y HY.out HK.out hxy⟩
          case measure => simp [intOf]; omega
        · go_wp2
          go_ret
          exact ⟨by rw [contains_true_at V k x y HY.out hxy]; rfl, rfl⟩
      · have hv : inB V x = false := by
          have := HK.out
          rw [List.take_of_length_le (by have := HL.out; omega)] at this
          exact this
        go_wp2
        go_ret
        exact ⟨rfl, rfl⟩

set_option maxHeartbeats 400000 in
theorem zzIn_any (a : Option Addr) (n c : Nat) (V : List Int) (x : Int) (w : World) (hs : Sl w a n V) (hn : n ≤ 1048576) :
    Calls Try.prog 7 #[.slice a n c, .int .u64 x] w fun e w' => e = .returned (.bool (inB V x)) ∧ w' = w := by
  obtain ⟨hl, hs⟩ := hs
  rcases hs with h0 | ⟨b, o, rfl, _, hc⟩
  · subst h0
    have hV : V = [] := List.eq_nil_of_length_eq_zero hl
    subst hV
    clear hl hn
    go_enter Try.func7, Try.ntmps7
    go_wp2_with fail
    refine wp_loop_rounds 1 ?_
    rw [rounds_succ]
    go_wp2
    go_ret
    exact ⟨rfl, rfl⟩
  · have HC : Hid (∀ k, k < n → ∃ y, w.cell? ⟨b, o + k, none⟩ = some (.int .u64 y) ∧ Hid (V[k]? = some y)) := fun k hk => ⟨V.getD k 0, hc k hk, by show V[k]? = _; simp [show k < V.length by omega]⟩
    have HL : Hid (V.length = n) := hl
    clear hc hl
    go_enter Try.func7, Try.ntmps7
    go_wp2_with fail
    go_loop [5] (fun i => ∃ k : Nat, k ≤ n ∧ i = .int .i64 k ∧ Hid (inB (V.take k) x = false)) (fun i => n - (intOf i).toNat)
    case atStart => exact ⟨0, Nat.zero_le _, rfl, rfl⟩
    case round =>
      obtain ⟨k, hk, rfl, HK⟩ := hrel
      by_cases hlt : k < n
      · obtain ⟨y, hy, HY⟩ := HC.out k hlt
        cases hxy : (y == x)
        · go_wp2
          go_round
          case rel => exact ⟨k + 1, by omega, by go_num, contains_false_take V k x y HY.out HK.out hxy⟩
          case measure => simp [intOf]; omega
        · go_wp2
          go_ret
          exact ⟨by rw [contains_true_at V k x y HY.out hxy]; rfl, rfl⟩
      · have hv : inB V x = false := by
          have := HK.out
          rw [List.take_of_length_le (by have := HL.out; omega)] at this
          exact this
        go_wp2
        go_ret
        exact ⟨rfl, rfl⟩

/-- A slice of the call's own, or nil: what it owns, and its shape. -/
theorem own_shape {w : World} {base : Nat} {v : Value} {n : Nat} {xs : List Value} (h : w.ownsRow base 22 1 v n xs) :
    ∃ ao cap, v = .slice ao n cap ∧ ((ao = none ∧ n = 0 ∧ cap = 0) ∨ ∃ g, ao = some ⟨g, 0, none⟩ ∧ base ≤ g ∧ g < w.heap.size ∧ n ≤ cap ∧ cap ≤ maxLen) := by
  rcases h.2 with ⟨rfl, rfl⟩ | ⟨g, cap, cur, rfl, hg, hh, hn, hm, _⟩
  · exact ⟨none, 0, rfl, .inl ⟨rfl, rfl, rfl⟩⟩
  · exact ⟨_, cap, rfl, .inr ⟨g, rfl, hg, (Array.getElem?_eq_some_iff.1 hh).1, hn, hm⟩⟩

theorem news1 {w : World} {x : Value} {t : TypeId} : ∀ j u, [x][j]? = some u → (w.alloc (.cells #[x] t)).cell? ((⟨w.heap.size, 0, none⟩ : Addr).add j) = some u := by
  intro j u hj
  match j, hj with
  | 0, hj => simp at hj; subst hj; simp [Addr.add]

/-- What has been gathered ahead of list i. -/
def gath (V F S : List Int) (i : Nat) : List Int := if i = 0 then [] else if i = 1 then keep V F else keep V F ++ keep V S
theorem gath_len (V F S : List Int) (i : Nat) : (gath V F S i).length ≤ F.length + S.length := by
  unfold gath
  have := keep_len V F
  have := keep_len V S
  split
  · simp
  · split
    · omega
    · rw [List.length_append]; omega

/-- The limbs of the inner loop's relation. -/
structure InRel (W0 wr : World) (v : Value) (X : List Int) : Prop where
  own : wr.ownsRow W0.heap.size 22 1 v X.length (X.map (Value.int .u64))
  bel : Below W0.heap.size W0 wr
  nil : X = [] → v = .slice none 0 0
theorem InRel.push {W0 wr w' : World} {v v' : Value} {X : List Int} {y : Int} (h : InRel W0 wr v X) (o : Obj)
    (hown : w'.ownsRow W0.heap.size 22 1 v' (X.length + 1) (X.map (Value.int .u64) ++ [.int .u64 y])) (hg : (wr.alloc o).grownBy w' v.ownBlock) : InRel W0 w' v' (X ++ [y]) := by
  refine ⟨by simpa using hown, ?_, fun e => by simp at e⟩
  refine (h.bel.alloc h.bel.size o).grown hg (by have := h.bel.size; simp; omega) (fun k hk => ?_)
  exact (h.own.lt k hk).1

set_option maxHeartbeats 2000000 in
theorem former_any (number start : Int) (sa : Option Addr) (sl sc : Nat) (S : List Int) (na : Option Addr) (nl nc : Nat) (fa : Option Addr) (fl fc : Nat) (F : List Int) (va : Option Addr) (vl vc : Nat) (V : List Int) (w : World)
    (hS : Sl w sa sl S) (hF : Sl w fa fl F) (hV : Sl w va vl V) (bs : sl ≤ 4096) (bf : fl ≤ 4096) (bv : vl ≤ 4096) :
    Calls Try.prog 6 #[.agg #[.int .u64 number, .int .u64 start, .slice sa sl sc, .slice na nl nc, .slice fa fl fc], .slice va vl vc] w fun e w' =>
      ∃ ra rc, e = .returned (.slice ra (last64 (keep V F ++ keep V S)).length rc) ∧ Sl w' ra (last64 (keep V F ++ keep V S)).length (last64 (keep V F ++ keep V S)) ∧ ((last64 (keep V F ++ keep V S)).length ≤ rc) ∧ (ra = none ↔ (last64 (keep V F ++ keep V S)).length = 0) ∧ Below w.heap.size w w' := by
  obtain ⟨i0, hi, hz0, hz1, hz2⟩ := info_parts Try.info22
  have hb0 : Below w.heap.size w ((w.alloc (.cells #[.int .u64 number, .int .u64 start, .slice sa sl sc, .slice na nl nc, .slice fa fl fc] 27)).alloc (.cells #[.slice fa fl fc, .slice sa sl sc] 23)) := ((Below.refl _ _).alloc (Nat.le_refl _) _).alloc (by simp) _
  have hc0 : ((w.alloc (.cells #[.int .u64 number, .int .u64 start, .slice sa sl sc, .slice na nl nc, .slice fa fl fc] 27)).alloc (.cells #[.slice fa fl fc, .slice sa sl sc] 23)).cell? ⟨w.heap.size + 1, 0, none⟩ = some (.slice fa fl fc) := by simp
  have hc1 : ((w.alloc (.cells #[.int .u64 number, .int .u64 start, .slice sa sl sc, .slice na nl nc, .slice fa fl fc] 27)).alloc (.cells #[.slice fa fl fc, .slice sa sl sc] 23)).cell? ⟨w.heap.size + 1, 1, none⟩ = some (.slice sa sl sc) := by simp
  have hsz : w.heap.size + 1 < ((w.alloc (.cells #[.int .u64 number, .int .u64 start, .slice sa sl sc, .slice na nl nc, .slice fa fl fc] 27)).alloc (.cells #[.slice fa fl fc, .slice sa sl sc] 23)).heap.size := by simp
  go_enter Try.func6, Try.ntmps6
  go_wp2_with fail
  generalize (w.alloc (.cells #[.int .u64 number, .int .u64 start, .slice sa sl sc, .slice na nl nc, .slice fa fl fc] 27)).alloc (.cells #[.slice fa fl fc, .slice sa sl sc] 23) = W0 at *
  have hS0 := hS.below hb0
  have hF0 := hF.below hb0
  have hV0 := hV.below hb0
  have hSl : S.length ≤ 4096 := by rw [hS.1]; exact bs
  have hFl : F.length ≤ 4096 := by rw [hF.1]; exact bf
  generalize hg : w.heap.size + 1 = g at *
  clear hS hF hV hg
  -- the two lists, by their number
  have HL : Hid (∀ ii, ii < 2 → ∃ la ll lc L, W0.cell? ⟨g, ii, none⟩ = some (.slice la ll lc) ∧ Sl W0 la ll L ∧ ll ≤ 4096 ∧ Hid (gath V F S (ii + 1) = gath V F S ii ++ keep V L)) := by
    intro ii hii
    match ii, hii with
    | 0, _ => exact ⟨fa, fl, fc, F, hc0, hF0, bf, rfl⟩
    | 1, _ => exact ⟨sa, sl, sc, S, hc1, hS0, bs, rfl⟩
  clear hc0 hc1 hS0 hF0 bs bf
  go_loopw [5, 17] (fun v i wr => ∃ ii : Nat, ii ≤ 2 ∧ i = .int .i64 ii ∧ InRel W0 wr v (gath V F S ii)) (fun _ i _ => 2 - (intOf i).toNat)
  case atStart => exact ⟨0, by omega, rfl, World.ownsRow_nil _ _ _ _, Below.refl _ _, fun _ => rfl⟩
  case round =>
    obtain ⟨ii, hii, rfl, R⟩ := hrel
    by_cases hlt : ii < 2
    · obtain ⟨la, ll, lc, L, hcl, hL, bll, HG⟩ := HL.out ii hlt
      have hcr : wr.cell? ⟨g, ii, none⟩ = some (.slice la ll lc) := (R.bel.cell hsz).trans hcl
      have hLl := hL.1
      have HLl : Hid (L.length = ll) := hLl
      clear hcl hLl
      have bi : (ii : Int) < 2 := by omega
      go_wp2_with fail
      rcases hL.2 with h0 | ⟨b, o, rfl, hbw, hcells⟩
      · subst h0
        have hL0 : L = [] := List.eq_nil_of_length_eq_zero HLl.out
        subst hL0
        refine wp_loop_rounds 1 ?_
        rw [rounds_succ]
        go_wp2
        go_roundw
        case rel => exact ⟨ii + 1, by omega, by go_num, by rw [HG.out, keep_nil, List.append_nil]; exact R⟩
        case measure => simp [intOf]; omega
      · have HC : Hid (∀ k, k < ll → W0.cell? ⟨b, o + k, none⟩ = some (.int .u64 (L.getD k 0))) := hcells
        clear hcells hcr
        go_loopw [5, 23] (fun v i wr => ∃ k : Nat, k ≤ ll ∧ i = .int .i64 k ∧ InRel W0 wr v (gath V F S ii ++ keep V (L.take k))) (fun _ i _ => ll - (intOf i).toNat)
        case atStart => exact ⟨0, Nat.zero_le _, rfl, by rw [List.take_zero, keep_nil, List.append_nil]; exact R⟩
        case round =>
          rename_i wr1 _
          clear R
          obtain ⟨k, hk, rfl, R⟩ := hrel
          by_cases hltk : k < ll
          · have hck : wr.cell? ⟨b, o + k, none⟩ = some (.int .u64 (L.getD k 0)) := (R.bel.cell hbw).trans (HC.out k hltk)
            have HKI := keep_take_in V L k (by rw [HLl.out]; exact hltk)
            have HKO := keep_take_out V L k (by rw [HLl.out]; exact hltk)
            have HLn : (gath V F S ii ++ keep V (L.take k)).length ≤ 20000 := by
              have h1 := gath_len V F S ii
              have h2 := keep_len V (L.take k)
              have h3 := List.length_take_le k L
              rw [List.length_append]; omega
            generalize L.getD k 0 = y at *
            cases hin : inB V y
            · have HX : Hid (keep V (L.take (k + 1)) = keep V (L.take k) ++ [y]) := HKO hin
              clear HKI HKO
              go_wp2_with fail
              refine (contains_any va vl vc V y _ (hV0.below R.bel) (by omega)).mono ?_
              rintro e w' ⟨rfl, rfl⟩
              rw [hin]
              go_wp2_with (at_builtin; refine wpList_append_own _ rfl (.tmp 31) (.tmp 33) 23 rfl W0.heap.size 22 i0 (.int .u64 0) 1 8 Try.underlying23 hi hz0 hz1 hz2 rfl (by decide) _ _ _ rfl (R.own.alloc _) ⟨w'.heap.size, 0, none⟩ 1 1 [.int .u64 y] rfl rfl news1 ?c2 ?c3 ?c4 ?c5 ?_)
              case c2 => simp [Value.oneCell']
              case c3 => unfold maxLen; omega
              case c4 => omega
              case c5 => have := R.bel.size; simp; omega
              intro v' w1 hown' hgrow _
              have R1 := R.push (y := y) (v' := v') _ (by simpa using hown') hgrow
              clear hown' hgrow
              go_wp2
              go_roundw
              case rel => exact ⟨k + 1, by omega, by go_num, by rw [HX.out, ← List.append_assoc]; exact R1⟩
              case measure => simp [intOf]; omega
            · have HX : Hid (keep V (L.take (k + 1)) = keep V (L.take k)) := HKI hin
              clear HKI HKO
              go_wp2_with fail
              refine (contains_any va vl vc V y _ (hV0.below R.bel) (by omega)).mono ?_
              rintro e w' ⟨rfl, rfl⟩
              rw [hin]
              go_wp2
              go_roundw
              case rel => exact ⟨k + 1, by omega, by go_num, by rw [HX.out]; exact R⟩
              case measure => simp [intOf]; omega
          · go_wp2
            go_roundw
            case rel => exact ⟨ii + 1, by omega, by go_num, by
              have : L.take k = L := List.take_of_length_le (by rw [HLl.out]; omega)
              rw [this] at R
              rw [HG.out]; exact R⟩
            case measure => simp [intOf]; omega
    · have h2 : ii = 2 := by omega
      subst h2
      have hK : gath V F S 2 = keep V F ++ keep V S := rfl
      rw [hK] at R
      have hKl : (keep V F ++ keep V S).length ≤ 20000 := by
        have h1 := keep_len V F
        have h2 := keep_len V S
        rw [List.length_append]; omega
      have HNil : Hid (keep V F ++ keep V S = [] → _ = Value.slice none 0 0) := R.nil
      have hown := R.own
      have hbel := R.bel
      clear R hK HL
      generalize hKK : keep V F ++ keep V S = K at hown HNil hKl
      have HKK : Hid (keep V F ++ keep V S = K) := hKK
      clear hKK
      obtain ⟨ao, cap, rfl, hsh⟩ := own_shape hown
      by_cases hk64 : K.length ≤ 64
      · have HE : Hid (last64 K = K) := last64_short K hk64
        go_wp2
        go_ret
        rw [HKK.out, HE.out]
        refine ⟨ao, cap, rfl, ⟨rfl, ?_⟩, ?_, ?_, hb0.trans (hbel.mono hb0.size)⟩
        · rcases hsh with ⟨_, h0, _⟩ | ⟨g', rfl, _, hlt', _, _⟩
          · exact .inl h0
          · refine .inr ⟨g', 0, rfl, hlt', fun j hj => ?_⟩
            rw [Nat.zero_add, hown.cellAt j (by omega)]
            simp [hj]
        · rcases hsh with ⟨_, h0, _⟩ | ⟨g', rfl, _, _, hn, _⟩
          · omega
          · exact hn
        · constructor
          · rintro rfl
            rcases hsh with ⟨_, h0, _⟩ | ⟨g', e, _⟩
            · exact h0
            · cases e
          · intro h0
            have := HNil.out (List.eq_nil_of_length_eq_zero h0)
            simp only [Value.slice.injEq] at this
            exact this.1
      · rcases hsh with ⟨_, h0, _⟩ | ⟨g', rfl, _, hlt', hn, hm⟩
        · omega
        · have HE : Hid ((last64 K).length = 64) := by have := last64_len K; show _ = _; omega
          have hc64 : 64 < K.length := by omega
          have hcap : ¬ cap = K.length - 64 := by omega
          go_wp2
          go_ret
          rw [HKK.out, HE.out]
          refine ⟨some ⟨g', K.length - 64, none⟩, cap - (K.length - 64), ?_, ⟨HE.out, .inr ⟨g', K.length - 64, rfl, hlt', fun j hj => ?_⟩⟩, by omega, ⟨fun h => (by cases h), fun h => (by cases h)⟩, hb0.trans (hbel.mono hb0.size)⟩
          · show Ending.returned (.slice _ (K.length - (K.length - 64)) _) = _
            rw [show K.length - (K.length - 64) = 64 by omega]
          · rw [hown.cellAt (K.length - 64 + j) (by omega)]
            unfold last64
            simp [show K.length - 64 + j < K.length by omega]
end Go.Proofs.Qxb6627447a
