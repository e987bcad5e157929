import Derived.Test.Qxb6630930aRows
import Derived.WalkKit
import Derived.ProofKit
import Derived.OpenShut
import Derived.ShutString
import Derived.ChangeOld
import Derived.Below
import Derived.WalkLawsBesides
import Derived.Deep.QuietTactic
import Derived.BigQuiet
import Derived.Laws.BitsAllLaws
namespace Go.Proofs.Qxb6630930a
open Go.ChangeShapes Go.WideShapes Go.ChangeAt Go.RowKit

theorem Try.info5 : (Try.prog.info? 5).map (fun i => (i.zero, i.size, i.bytes)) = some (some (.int .u8 0), 1, 1) := by kernel_rfl

/-! ### plain -/
def headLen (ht : Bool) : Nat := if ht then 35 else 19
def low4 (t dt : Int) : Int := t % 4 + 4 * (dt % 4)
def flg (t dt pr : Int) (cf ht : Bool) : Int := t % 4 + 4 * (dt % 4) + 16 * (pr % 2) + (if cf then 32 else 0) + (if ht then 64 else 0)
def head (t dt pr : Int) (cf : Bool) (hops : Int) (ht : Bool) (tid dst : List Int) (ctx : Int) : List Int :=
  [flg t dt pr cf ht, hops] ++ (if ht then tid else []) ++ dst ++ [ctx]

theorem and3 (x : Int) (h0 : 0 ≤ x) (h1 : x ≤ 255) : bits .and .u8 x 3 = x % 4 := by
  rw [u8_and x 3 h0 (by omega) (by omega) (by omega)]
  show ((x.toNat &&& 3 : Nat) : Int) = _
  rw [nat_mask2]; omega
theorem and1 (x : Int) (h0 : 0 ≤ x) (h1 : x ≤ 255) : bits .and .u8 x 1 = x % 2 := by
  rw [u8_and x 1 h0 (by omega) (by omega) (by omega)]
  show ((x.toNat &&& 1 : Nat) : Int) = _
  rw [nat_mask1]; omega
theorem orJoin (i : Nat) (x y : Int) (h0 : 0 ≤ x) (hx : x < 2 ^ i) (hy0 : 0 ≤ y) (hy : y < 256) (hx2 : x < 256) (hm : y.toNat % 2 ^ i = 0) : bits .or .u8 x y = x + y := by
  rw [u8_or x y h0 hx2 hy0 hy, Nat.or_comm, nat_join i y.toNat x.toNat hm (by have : (x.toNat : Int) < ((2 ^ i : Nat) : Int) := by simpa [Int.toNat_of_nonneg h0] using hx
                                                                              omega)]
  omega
theorem low4_raw (t dt : Int) (t0 : 0 ≤ t) (t1 : t ≤ 255) (d0 : 0 ≤ dt) (d1 : dt ≤ 255) :
    bits .or .u8 (bits .and .u8 t 3) (bits .and .u8 dt 3 * 4 % 256) = low4 t dt := by
  rw [and3 t t0 t1, and3 dt d0 d1, orJoin 2 _ _ (by omega) (by omega) (by omega) (by omega) (by omega) (by omega)]
  unfold low4; omega
theorem flg_raw (t dt pr : Int) (p0 : 0 ≤ pr) (p1 : pr ≤ 255) :
    bits .or .u8 (low4 t dt) (bits .and .u8 pr 1 * 16 % 256) = flg t dt pr false false := by
  have : 0 ≤ low4 t dt ∧ low4 t dt < 16 := by unfold low4; omega
  rw [and1 pr p0 p1, orJoin 4 _ _ (by omega) (by omega) (by omega) (by omega) (by omega) (by omega)]
  unfold low4 flg; simp; omega
theorem flg_cf (t dt pr : Int) : bits .or .u8 (flg t dt pr false false) 32 = flg t dt pr true false := by
  have : 0 ≤ flg t dt pr false false ∧ flg t dt pr false false < 32 := by unfold flg; simp; omega
  rw [orJoin 5 _ _ (by omega) (by omega) (by omega) (by omega) (by omega) (by decide)]
  unfold flg; simp
theorem flg_ht (t dt pr : Int) (cf : Bool) : bits .or .u8 (flg t dt pr cf false) 64 = flg t dt pr cf true := by
  have : 0 ≤ flg t dt pr cf false ∧ flg t dt pr cf false < 64 := by unfold flg; cases cf <;> simp <;> omega
  rw [orJoin 6 _ _ (by omega) (by omega) (by omega) (by omega) (by omega) (by decide)]
  unfold flg; simp

set_option maxHeartbeats 400000 in
theorem size_any (b : Nat) (ht : Bool) (a : Option Addr) (len cap : Nat) (w : World) (hl : len ≤ 1048576)
    (h5 : w.cell? ⟨b, 5, none⟩ = some (.bool ht)) (h39 : w.cell? ⟨b, 39, none⟩ = some (.slice a len cap)) :
    Calls Try.prog 7 #[.pointer (some ⟨b, 0, none⟩)] w fun e w' => e = .returned (.int .i64 ((headLen ht + len : Nat) : Int)) ∧ w' = w := by
  cases ht
  · go_enter Try.func7, Try.ntmps7
    go_wp2
    go_ret
    exact ⟨by simp [headLen], rfl⟩
  · go_enter Try.func7, Try.ntmps7
    go_wp2
    go_ret
    exact ⟨by simp [headLen]; omega, rfl⟩

set_option maxHeartbeats 400000 in
theorem typeBits_any (b : Nat) (t dt : Int) (w : World) (t0 : 0 ≤ t) (t1 : t ≤ 255) (d0 : 0 ≤ dt) (d1 : dt ≤ 255)
    (h0 : w.cell? ⟨b, 0, none⟩ = some (.int .u8 t)) (h1 : w.cell? ⟨b, 1, none⟩ = some (.int .u8 dt)) :
    Calls Try.prog 10 #[.pointer (some ⟨b, 0, none⟩)] w fun e w' => e = .returned (.int .u8 (low4 t dt)) ∧ ∃ n, w' = w.drewN n := by
  go_enter Try.func10, Try.ntmps10
  go_wp2
  go_quiet (fail)
  go_wp2
  go_ret
  exact ⟨by rw [← low4_raw t dt t0 t1 d0 d1]; rfl, _, rfl⟩

theorem news2 {w : World} {x y : Value} {t : TypeId} : ∀ j u, [x, y][j]? = some u → (w.alloc (.cells #[x, y] t)).cell? ((⟨w.heap.size, 0, none⟩ : Addr).add j) = some u := by
  intro j u hj
  match j, hj with
  | 0, hj => simp at hj; subst hj; simp [Addr.add]
  | 1, hj => simp at hj; subst hj; simp [Addr.add]
theorem news1 {w : World} {x : Value} {t : TypeId} : ∀ j u, [x][j]? = some u → (w.alloc (.cells #[x] t)).cell? ((⟨w.heap.size, 0, none⟩ : Addr).add j) = some u := by
  intro j u hj
  match j, hj with
  | 0, hj => simp at hj; subst hj; simp [Addr.add]
theorem newsRow {w : World} {b o : Nat} {l : List Int} {n : Nat} (hl : l.length = n) (h : ∀ j, j < n → w.cell? ⟨b, o + j, none⟩ = some (.int .u8 (l.getD j 0))) :
    ∀ j u, (l.map (Value.int .u8))[j]? = some u → w.cell? ((⟨b, o, none⟩ : Addr).add j) = some u := by
  intro j u hj
  have hjn : j < l.length := by simpa using (List.getElem?_eq_some_iff.1 hj).1
  rw [Addr.add_lit, h j (by omega), ← hj]
  simp [hjn]

theorem newsAny {w w4 : World} {a : Option Addr} {len : Nat} {zs : List Int} (hzl : len ≤ zs.length)
    (hc : ∀ ad, a = some ad → 0 < len → ∀ p : Addr, p.block = ad.block → w4.cell? p = w.cell? p) (hz : ∀ ad, a = some ad → ∀ j, j < len → w.cell? (ad.add j) = some (.int .u8 (zs.getD j 0))) :
    ∀ ad, a = some ad → ∀ j u, ((zs.take len).map (Value.int .u8))[j]? = some u → w4.cell? (ad.add j) = some u := by
  intro ad had j u hu
  have hj : j < len := by
    have := (List.getElem?_eq_some_iff.1 hu).1
    simp at this; omega
  have hz' : j < zs.length := by omega
  rw [hc ad had (by omega) (ad.add j) (by unfold Addr.add; split <;> rfl), hz ad had j hj, ← hu]
  simp [hj, hz']
theorem haw' {B : Nat} {w w4 : World} (hb : Below B w w4) {a : Option Addr} {len : Nat} (h : ∀ ad, a = some ad → 0 < len → ad.block < B) :
    ∀ ad, a = some ad → 0 < len → ∀ p : Addr, p.block = ad.block → w4.cell? p = w.cell? p :=
  fun ad had h0 _ hp => hb.cell (by rw [hp]; exact h ad had h0)

set_option maxHeartbeats 1000000 in
theorem bytes_any (b : Nat) (t dt pr : Int) (cf : Bool) (hops : Int) (ht : Bool) (tid dst : List Int) (ctx : Int) (a : Option Addr) (len cap : Nat) (zs : List Int) (w : World)
    (t0 : 0 ≤ t) (t1 : t ≤ 255) (d0 : 0 ≤ dt) (d1 : dt ≤ 255) (p0 : 0 ≤ pr) (p1 : pr ≤ 255) (hl : len ≤ 1048576) (hbw : b < w.heap.size)
    (htid : tid.length = 16) (hdst : dst.length = 16)
    (h0 : w.cell? ⟨b, 0, none⟩ = some (.int .u8 t)) (h1 : w.cell? ⟨b, 1, none⟩ = some (.int .u8 dt)) (h2 : w.cell? ⟨b, 2, none⟩ = some (.int .u8 pr)) (h3 : w.cell? ⟨b, 3, none⟩ = some (.bool cf))
    (h4 : w.cell? ⟨b, 4, none⟩ = some (.int .u8 hops)) (h5 : w.cell? ⟨b, 5, none⟩ = some (.bool ht)) (h38 : w.cell? ⟨b, 38, none⟩ = some (.int .u8 ctx)) (h39 : w.cell? ⟨b, 39, none⟩ = some (.slice a len cap))
    (h6 : ∀ j, j < 16 → w.cell? ⟨b, 6 + j, none⟩ = some (.int .u8 (tid.getD j 0))) (h22 : ∀ j, j < 16 → w.cell? ⟨b, 22 + j, none⟩ = some (.int .u8 (dst.getD j 0)))
    (hnone : a = none → len = 0 ∧ cap = 0) (hzl : len ≤ zs.length) (haw : ∀ ad, a = some ad → 0 < len → ad.block < w.heap.size) (hz : ∀ ad, a = some ad → ∀ j, j < len → w.cell? (ad.add j) = some (.int .u8 (zs.getD j 0))) :
    Calls Try.prog 6 #[.pointer (some ⟨b, 0, none⟩)] w fun e w' => ∃ g, e = .returned (.slice (some ⟨g, 0, none⟩) (headLen ht + len) (headLen ht + len)) ∧ w.heap.size ≤ g ∧
      w'.ownsRow w.heap.size 5 1 (.slice (some ⟨g, 0, none⟩) (headLen ht + len) (headLen ht + len)) (headLen ht + len) ((head t dt pr cf hops ht tid dst ctx ++ zs.take len).map (.int .u8)) ∧ Below w.heap.size w w' := by
  obtain ⟨i0, hi, hz0, hz1, hz2⟩ := info_parts Try.info5
  have H6 : Hid (∀ j, j < 16 → w.cell? ⟨b, 6 + j, none⟩ = some (.int .u8 (tid.getD j 0))) := h6
  have H22 : Hid (∀ j, j < 16 → w.cell? ⟨b, 22 + j, none⟩ = some (.int .u8 (dst.getD j 0))) := h22
  have HZ : Hid (∀ ad, a = some ad → ∀ j, j < len → w.cell? (ad.add j) = some (.int .u8 (zs.getD j 0))) := hz
  have HA : Hid (∀ ad, a = some ad → 0 < len → ad.block < w.heap.size) := haw
  have HN : Hid (a = none → len = 0 ∧ cap = 0) := hnone
  have HT : Hid (tid.length = 16) := htid
  have HD : Hid (dst.length = 16) := hdst
  clear h6 h22 hz haw hnone htid hdst
  have r1 := flg_raw t dt pr p0 p1
  have r2 := flg_cf t dt pr
  have r3 := flg_ht t dt pr cf
  cases cf <;> cases ht
  · go_enter Try.func6, Try.ntmps6
    go_wp2_with fail
    go_quiet ((go_at_call 10; refine Calls.quiet_of (typeBits_any b t dt _ t0 t1 d0 d1 ?_ ?_) <;> simp [h0, h1]))
    go_wp2_with fail
    refine (size_any b false a len cap _ hl (by simpa using h5) (by simpa using h39)).mono ?_
    rintro e w' ⟨rfl, rfl⟩
    go_wp2_with (at_make; refine wpList_make_own _ rfl _ _ 23 rfl w.heap.size 5 i0 (.int .u8 0) 1 Try.underlying23 hi hz0 hz1 _ _ _ (headLen false + len) rfl rfl rfl ?b2 ?b3 (Nat.le_refl _) ?_)
    case b2 => rw [hz2]; simp [headLen]; omega
    case b3 => simp [headLen, maxLen]; omega
    intro w1 hown1 hgrow1
    have hb1 : Below w.heap.size w w1 := Below.grown (⟨rfl, rfl, rfl, Nat.le_refl _, fun _ _ => rfl⟩ : Below w.heap.size w (w.drewN nq)) hgrow1 (Nat.le_refl _) (fun k h => by cases h)
    have hc1 : ∀ o, w1.cell? ⟨b, o, none⟩ = w.cell? ⟨b, o, none⟩ := fun o => hb1.cell (p := ⟨b, o, none⟩) hbw
    go_wp2_with (at_builtin; refine wpList_append_fits _ rfl (.tmp 29) (.tmp 35) 23 rfl w.heap.size 5 i0 1 Try.underlying23 hi hz1 w.heap.size 0 _ [] rfl (hown1.alloc _) ⟨w1.heap.size, 0, none⟩ 2 2 [.int .u8 (flg t dt pr false false), .int .u8 hops] rfl rfl news2 (by simp [Value.oneCell']) ?b4 ?_)
    case b4 => simp [headLen]; omega
    intro w2 hown2 hgrow2
    have hb2 : Below w.heap.size w w2 := (hb1.alloc hb1.size _).grown hgrow2 (by have := hb1.size; simp; omega) (fun k hk => by cases hk; exact Nat.le_refl _)
    have hc2 : ∀ o, w2.cell? ⟨b, o, none⟩ = w.cell? ⟨b, o, none⟩ := fun o => hb2.cell (p := ⟨b, o, none⟩) hbw
    clear hown1 hgrow1 hgrow2 hc1 hb1
    go_wp2_with (at_builtin; refine wpList_append_fits _ rfl (.tmp 47) (.tmp 51) 23 rfl w.heap.size 5 i0 1 Try.underlying23 hi hz1 w.heap.size 2 _ _ rfl hown2 ⟨b, 22, none⟩ 16 16 (dst.map (.int .u8)) rfl (by simp [HD.out]) (newsRow HD.out (fun j hj => (hb2.cell hbw).trans (H22.out j hj))) (ints_oneCell _ _) ?b6 ?_)
    case b6 => simp [headLen]; omega
    intro w3 hown3 hgrow3
    have hb3 : Below w.heap.size w w3 := hb2.grown hgrow3 hb2.size (fun k hk => by cases hk; exact Nat.le_refl _)
    have hc3 : ∀ o, w3.cell? ⟨b, o, none⟩ = w.cell? ⟨b, o, none⟩ := fun o => hb3.cell (p := ⟨b, o, none⟩) hbw
    clear hown2 hgrow3 hc2 hb2
    go_wp2_with (at_builtin; refine wpList_append_fits _ rfl (.tmp 53) (.tmp 58) 23 rfl w.heap.size 5 i0 1 Try.underlying23 hi hz1 w.heap.size 18 _ _ rfl (hown3.alloc _) ⟨w3.heap.size, 0, none⟩ 1 1 [.int .u8 ctx] rfl rfl news1 (by simp [Value.oneCell']) ?b7 ?_)
    case b7 => simp [headLen]
    intro w4 hown4 hgrow4
    have hb4 : Below w.heap.size w w4 := (hb3.alloc hb3.size _).grown hgrow4 (by have := hb3.size; simp; omega) (fun k hk => by cases hk; exact Nat.le_refl _)
    have hc4 : ∀ o, w4.cell? ⟨b, o, none⟩ = w.cell? ⟨b, o, none⟩ := fun o => hb4.cell (p := ⟨b, o, none⟩) hbw
    clear hown3 hgrow4 hc3 hb3
    go_wp2_with (at_builtin; refine wpList_append_fits_any _ rfl (.tmp 60) (.tmp 64) 23 rfl w.heap.size 5 i0 1 Try.underlying23 hi hz1 w.heap.size 19 _ _ rfl hown4 a len cap ((zs.take len).map (.int .u8)) rfl ?b8 HN.out ?b10 (ints_oneCell _ _) ?b9 ?_)
    case b8 => simp; omega
    case b9 => simp [headLen]
    case b10 => exact newsAny hzl (fun ad had h0 => haw' hb4 HA.out ad had h0) HZ.out
    intro w5 hown5 hgrow5
    have hb5 : Below w.heap.size w w5 := hb4.grown hgrow5 hb4.size (fun k hk => by cases hk; exact Nat.le_refl _)
    clear hown4 hgrow5 hc4 hb4
    go_wp2
    go_ret
    refine ⟨w.heap.size, ?_, Nat.le_refl _, ?_, hb5⟩
    · simp [headLen]
    · simpa [headLen, head] using hown5

  · go_enter Try.func6, Try.ntmps6
    go_wp2_with fail
    go_quiet ((go_at_call 10; refine Calls.quiet_of (typeBits_any b t dt _ t0 t1 d0 d1 ?_ ?_) <;> simp [h0, h1]))
    go_wp2_with fail
    refine (size_any b true a len cap _ hl (by simpa using h5) (by simpa using h39)).mono ?_
    rintro e w' ⟨rfl, rfl⟩
    go_wp2_with (at_make; refine wpList_make_own _ rfl _ _ 23 rfl w.heap.size 5 i0 (.int .u8 0) 1 Try.underlying23 hi hz0 hz1 _ _ _ (headLen true + len) rfl rfl rfl ?b2 ?b3 (Nat.le_refl _) ?_)
    case b2 => rw [hz2]; simp [headLen]; omega
    case b3 => simp [headLen, maxLen]; omega
    intro w1 hown1 hgrow1
    have hb1 : Below w.heap.size w w1 := Below.grown (⟨rfl, rfl, rfl, Nat.le_refl _, fun _ _ => rfl⟩ : Below w.heap.size w (w.drewN nq)) hgrow1 (Nat.le_refl _) (fun k h => by cases h)
    have hc1 : ∀ o, w1.cell? ⟨b, o, none⟩ = w.cell? ⟨b, o, none⟩ := fun o => hb1.cell (p := ⟨b, o, none⟩) hbw
    go_wp2_with (at_builtin; refine wpList_append_fits _ rfl (.tmp 29) (.tmp 35) 23 rfl w.heap.size 5 i0 1 Try.underlying23 hi hz1 w.heap.size 0 _ [] rfl (hown1.alloc _) ⟨w1.heap.size, 0, none⟩ 2 2 [.int .u8 (flg t dt pr false true), .int .u8 hops] rfl rfl news2 (by simp [Value.oneCell']) ?b4 ?_)
    case b4 => simp [headLen]; omega
    intro w2 hown2 hgrow2
    have hb2 : Below w.heap.size w w2 := (hb1.alloc hb1.size _).grown hgrow2 (by have := hb1.size; simp; omega) (fun k hk => by cases hk; exact Nat.le_refl _)
    have hc2 : ∀ o, w2.cell? ⟨b, o, none⟩ = w.cell? ⟨b, o, none⟩ := fun o => hb2.cell (p := ⟨b, o, none⟩) hbw
    clear hown1 hgrow1 hgrow2 hc1 hb1
    go_wp2_with (at_builtin; refine wpList_append_fits _ rfl (.tmp 41) (.tmp 45) 23 rfl w.heap.size 5 i0 1 Try.underlying23 hi hz1 w.heap.size 2 _ _ rfl hown2 ⟨b, 6, none⟩ 16 16 (tid.map (.int .u8)) rfl (by simp [HT.out]) (newsRow HT.out (fun j hj => (hb2.cell hbw).trans (H6.out j hj))) (ints_oneCell _ _) ?b5 ?_)
    case b5 => simp [headLen]; omega
    intro w2' hown2' hgrow2'
    have hb2' : Below w.heap.size w w2' := hb2.grown hgrow2' hb2.size (fun k hk => by cases hk; exact Nat.le_refl _)
    have hc2' : ∀ o, w2'.cell? ⟨b, o, none⟩ = w.cell? ⟨b, o, none⟩ := fun o => hb2'.cell (p := ⟨b, o, none⟩) hbw
    clear hown2 hgrow2' hc2 hb2
    have hb2 := hb2'
    clear hb2'
    go_wp2_with (at_builtin; refine wpList_append_fits _ rfl (.tmp 47) (.tmp 51) 23 rfl w.heap.size 5 i0 1 Try.underlying23 hi hz1 w.heap.size 18 _ _ rfl hown2' ⟨b, 22, none⟩ 16 16 (dst.map (.int .u8)) rfl (by simp [HD.out]) (newsRow HD.out (fun j hj => (hb2.cell hbw).trans (H22.out j hj))) (ints_oneCell _ _) ?b6 ?_)
    case b6 => simp [headLen]; omega
    intro w3 hown3 hgrow3
    have hb3 : Below w.heap.size w w3 := hb2.grown hgrow3 hb2.size (fun k hk => by cases hk; exact Nat.le_refl _)
    have hc3 : ∀ o, w3.cell? ⟨b, o, none⟩ = w.cell? ⟨b, o, none⟩ := fun o => hb3.cell (p := ⟨b, o, none⟩) hbw
    clear hown2' hgrow3 hc2' hb2
    go_wp2_with (at_builtin; refine wpList_append_fits _ rfl (.tmp 53) (.tmp 58) 23 rfl w.heap.size 5 i0 1 Try.underlying23 hi hz1 w.heap.size 34 _ _ rfl (hown3.alloc _) ⟨w3.heap.size, 0, none⟩ 1 1 [.int .u8 ctx] rfl rfl news1 (by simp [Value.oneCell']) ?b7 ?_)
    case b7 => simp [headLen]
    intro w4 hown4 hgrow4
    have hb4 : Below w.heap.size w w4 := (hb3.alloc hb3.size _).grown hgrow4 (by have := hb3.size; simp; omega) (fun k hk => by cases hk; exact Nat.le_refl _)
    have hc4 : ∀ o, w4.cell? ⟨b, o, none⟩ = w.cell? ⟨b, o, none⟩ := fun o => hb4.cell (p := ⟨b, o, none⟩) hbw
    clear hown3 hgrow4 hc3 hb3
    go_wp2_with (at_builtin; refine wpList_append_fits_any _ rfl (.tmp 60) (.tmp 64) 23 rfl w.heap.size 5 i0 1 Try.underlying23 hi hz1 w.heap.size 35 _ _ rfl hown4 a len cap ((zs.take len).map (.int .u8)) rfl ?b8 HN.out ?b10 (ints_oneCell _ _) ?b9 ?_)
    case b8 => simp; omega
    case b9 => simp [headLen]
    case b10 => exact newsAny hzl (fun ad had h0 => haw' hb4 HA.out ad had h0) HZ.out
    intro w5 hown5 hgrow5
    have hb5 : Below w.heap.size w w5 := hb4.grown hgrow5 hb4.size (fun k hk => by cases hk; exact Nat.le_refl _)
    clear hown4 hgrow5 hc4 hb4
    go_wp2
    go_ret
    refine ⟨w.heap.size, ?_, Nat.le_refl _, ?_, hb5⟩
    · simp [headLen]
    · simpa [headLen, head] using hown5

  · go_enter Try.func6, Try.ntmps6
    go_wp2_with fail
    go_quiet ((go_at_call 10; refine Calls.quiet_of (typeBits_any b t dt _ t0 t1 d0 d1 ?_ ?_) <;> simp [h0, h1]))
    go_wp2_with fail
    refine (size_any b false a len cap _ hl (by simpa using h5) (by simpa using h39)).mono ?_
    rintro e w' ⟨rfl, rfl⟩
    go_wp2_with (at_make; refine wpList_make_own _ rfl _ _ 23 rfl w.heap.size 5 i0 (.int .u8 0) 1 Try.underlying23 hi hz0 hz1 _ _ _ (headLen false + len) rfl rfl rfl ?b2 ?b3 (Nat.le_refl _) ?_)
    case b2 => rw [hz2]; simp [headLen]; omega
    case b3 => simp [headLen, maxLen]; omega
    intro w1 hown1 hgrow1
    have hb1 : Below w.heap.size w w1 := Below.grown (⟨rfl, rfl, rfl, Nat.le_refl _, fun _ _ => rfl⟩ : Below w.heap.size w (w.drewN nq)) hgrow1 (Nat.le_refl _) (fun k h => by cases h)
    have hc1 : ∀ o, w1.cell? ⟨b, o, none⟩ = w.cell? ⟨b, o, none⟩ := fun o => hb1.cell (p := ⟨b, o, none⟩) hbw
    go_wp2_with (at_builtin; refine wpList_append_fits _ rfl (.tmp 29) (.tmp 35) 23 rfl w.heap.size 5 i0 1 Try.underlying23 hi hz1 w.heap.size 0 _ [] rfl (hown1.alloc _) ⟨w1.heap.size, 0, none⟩ 2 2 [.int .u8 (flg t dt pr true false), .int .u8 hops] rfl rfl news2 (by simp [Value.oneCell']) ?b4 ?_)
    case b4 => simp [headLen]; omega
    intro w2 hown2 hgrow2
    have hb2 : Below w.heap.size w w2 := (hb1.alloc hb1.size _).grown hgrow2 (by have := hb1.size; simp; omega) (fun k hk => by cases hk; exact Nat.le_refl _)
    have hc2 : ∀ o, w2.cell? ⟨b, o, none⟩ = w.cell? ⟨b, o, none⟩ := fun o => hb2.cell (p := ⟨b, o, none⟩) hbw
    clear hown1 hgrow1 hgrow2 hc1 hb1
    go_wp2_with (at_builtin; refine wpList_append_fits _ rfl (.tmp 47) (.tmp 51) 23 rfl w.heap.size 5 i0 1 Try.underlying23 hi hz1 w.heap.size 2 _ _ rfl hown2 ⟨b, 22, none⟩ 16 16 (dst.map (.int .u8)) rfl (by simp [HD.out]) (newsRow HD.out (fun j hj => (hb2.cell hbw).trans (H22.out j hj))) (ints_oneCell _ _) ?b6 ?_)
    case b6 => simp [headLen]; omega
    intro w3 hown3 hgrow3
    have hb3 : Below w.heap.size w w3 := hb2.grown hgrow3 hb2.size (fun k hk => by cases hk; exact Nat.le_refl _)
    have hc3 : ∀ o, w3.cell? ⟨b, o, none⟩ = w.cell? ⟨b, o, none⟩ := fun o => hb3.cell (p := ⟨b, o, none⟩) hbw
    clear hown2 hgrow3 hc2 hb2
    go_wp2_with (at_builtin; refine wpList_append_fits _ rfl (.tmp 53) (.tmp 58) 23 rfl w.heap.size 5 i0 1 Try.underlying23 hi hz1 w.heap.size 18 _ _ rfl (hown3.alloc _) ⟨w3.heap.size, 0, none⟩ 1 1 [.int .u8 ctx] rfl rfl news1 (by simp [Value.oneCell']) ?b7 ?_)
    case b7 => simp [headLen]
    intro w4 hown4 hgrow4
    have hb4 : Below w.heap.size w w4 := (hb3.alloc hb3.size _).grown hgrow4 (by have := hb3.size; simp; omega) (fun k hk => by cases hk; exact Nat.le_refl _)
    have hc4 : ∀ o, w4.cell? ⟨b, o, none⟩ = w.cell? ⟨b, o, none⟩ := fun o => hb4.cell (p := ⟨b, o, none⟩) hbw
    clear hown3 hgrow4 hc3 hb3
    go_wp2_with (at_builtin; refine wpList_append_fits_any _ rfl (.tmp 60) (.tmp 64) 23 rfl w.heap.size 5 i0 1 Try.underlying23 hi hz1 w.heap.size 19 _ _ rfl hown4 a len cap ((zs.take len).map (.int .u8)) rfl ?b8 HN.out ?b10 (ints_oneCell _ _) ?b9 ?_)
    case b8 => simp; omega
    case b9 => simp [headLen]
    case b10 => exact newsAny hzl (fun ad had h0 => haw' hb4 HA.out ad had h0) HZ.out
    intro w5 hown5 hgrow5
    have hb5 : Below w.heap.size w w5 := hb4.grown hgrow5 hb4.size (fun k hk => by cases hk; exact Nat.le_refl _)
    clear hown4 hgrow5 hc4 hb4
    go_wp2
    go_ret
    refine ⟨w.heap.size, ?_, Nat.le_refl _, ?_, hb5⟩
    · simp [headLen]
    · simpa [headLen, head] using hown5

  · go_enter Try.func6, Try.ntmps6
    go_wp2_with fail
    go_quiet ((go_at_call 10; refine Calls.quiet_of (typeBits_any b t dt _ t0 t1 d0 d1 ?_ ?_) <;> simp [h0, h1]))
    go_wp2_with fail
    refine (size_any b true a len cap _ hl (by simpa using h5) (by simpa using h39)).mono ?_
    rintro e w' ⟨rfl, rfl⟩
    go_wp2_with (at_make; refine wpList_make_own _ rfl _ _ 23 rfl w.heap.size 5 i0 (.int .u8 0) 1 Try.underlying23 hi hz0 hz1 _ _ _ (headLen true + len) rfl rfl rfl ?b2 ?b3 (Nat.le_refl _) ?_)
    case b2 => rw [hz2]; simp [headLen]; omega
    case b3 => simp [headLen, maxLen]; omega
    intro w1 hown1 hgrow1
    have hb1 : Below w.heap.size w w1 := Below.grown (⟨rfl, rfl, rfl, Nat.le_refl _, fun _ _ => rfl⟩ : Below w.heap.size w (w.drewN nq)) hgrow1 (Nat.le_refl _) (fun k h => by cases h)
    have hc1 : ∀ o, w1.cell? ⟨b, o, none⟩ = w.cell? ⟨b, o, none⟩ := fun o => hb1.cell (p := ⟨b, o, none⟩) hbw
    go_wp2_with (at_builtin; refine wpList_append_fits _ rfl (.tmp 29) (.tmp 35) 23 rfl w.heap.size 5 i0 1 Try.underlying23 hi hz1 w.heap.size 0 _ [] rfl (hown1.alloc _) ⟨w1.heap.size, 0, none⟩ 2 2 [.int .u8 (flg t dt pr true true), .int .u8 hops] rfl rfl news2 (by simp [Value.oneCell']) ?b4 ?_)
    case b4 => simp [headLen]; omega
    intro w2 hown2 hgrow2
    have hb2 : Below w.heap.size w w2 := (hb1.alloc hb1.size _).grown hgrow2 (by have := hb1.size; simp; omega) (fun k hk => by cases hk; exact Nat.le_refl _)
    have hc2 : ∀ o, w2.cell? ⟨b, o, none⟩ = w.cell? ⟨b, o, none⟩ := fun o => hb2.cell (p := ⟨b, o, none⟩) hbw
    clear hown1 hgrow1 hgrow2 hc1 hb1
    go_wp2_with (at_builtin; refine wpList_append_fits _ rfl (.tmp 41) (.tmp 45) 23 rfl w.heap.size 5 i0 1 Try.underlying23 hi hz1 w.heap.size 2 _ _ rfl hown2 ⟨b, 6, none⟩ 16 16 (tid.map (.int .u8)) rfl (by simp [HT.out]) (newsRow HT.out (fun j hj => (hb2.cell hbw).trans (H6.out j hj))) (ints_oneCell _ _) ?b5 ?_)
    case b5 => simp [headLen]; omega
    intro w2' hown2' hgrow2'
    have hb2' : Below w.heap.size w w2' := hb2.grown hgrow2' hb2.size (fun k hk => by cases hk; exact Nat.le_refl _)
    have hc2' : ∀ o, w2'.cell? ⟨b, o, none⟩ = w.cell? ⟨b, o, none⟩ := fun o => hb2'.cell (p := ⟨b, o, none⟩) hbw
    clear hown2 hgrow2' hc2 hb2
    have hb2 := hb2'
    clear hb2'
    go_wp2_with (at_builtin; refine wpList_append_fits _ rfl (.tmp 47) (.tmp 51) 23 rfl w.heap.size 5 i0 1 Try.underlying23 hi hz1 w.heap.size 18 _ _ rfl hown2' ⟨b, 22, none⟩ 16 16 (dst.map (.int .u8)) rfl (by simp [HD.out]) (newsRow HD.out (fun j hj => (hb2.cell hbw).trans (H22.out j hj))) (ints_oneCell _ _) ?b6 ?_)
    case b6 => simp [headLen]; omega
    intro w3 hown3 hgrow3
    have hb3 : Below w.heap.size w w3 := hb2.grown hgrow3 hb2.size (fun k hk => by cases hk; exact Nat.le_refl _)
    have hc3 : ∀ o, w3.cell? ⟨b, o, none⟩ = w.cell? ⟨b, o, none⟩ := fun o => hb3.cell (p := ⟨b, o, none⟩) hbw
    clear hown2' hgrow3 hc2' hb2
    go_wp2_with (at_builtin; refine wpList_append_fits _ rfl (.tmp 53) (.tmp 58) 23 rfl w.heap.size 5 i0 1 Try.underlying23 hi hz1 w.heap.size 34 _ _ rfl (hown3.alloc _) ⟨w3.heap.size, 0, none⟩ 1 1 [.int .u8 ctx] rfl rfl news1 (by simp [Value.oneCell']) ?b7 ?_)
    case b7 => simp [headLen]
    intro w4 hown4 hgrow4
    have hb4 : Below w.heap.size w w4 := (hb3.alloc hb3.size _).grown hgrow4 (by have := hb3.size; simp; omega) (fun k hk => by cases hk; exact Nat.le_refl _)
    have hc4 : ∀ o, w4.cell? ⟨b, o, none⟩ = w.cell? ⟨b, o, none⟩ := fun o => hb4.cell (p := ⟨b, o, none⟩) hbw
    clear hown3 hgrow4 hc3 hb3
    go_wp2_with (at_builtin; refine wpList_append_fits_any _ rfl (.tmp 60) (.tmp 64) 23 rfl w.heap.size 5 i0 1 Try.underlying23 hi hz1 w.heap.size 35 _ _ rfl hown4 a len cap ((zs.take len).map (.int .u8)) rfl ?b8 HN.out ?b10 (ints_oneCell _ _) ?b9 ?_)
    case b8 => simp; omega
    case b9 => simp [headLen]
    case b10 => exact newsAny hzl (fun ad had h0 => haw' hb4 HA.out ad had h0) HZ.out
    intro w5 hown5 hgrow5
    have hb5 : Below w.heap.size w w5 := hb4.grown hgrow5 hb4.size (fun k hk => by cases hk; exact Nat.le_refl _)
    clear hown4 hgrow5 hc4 hb4
    go_wp2
    go_ret
    refine ⟨w.heap.size, ?_, Nat.le_refl _, ?_, hb5⟩
    · simp [headLen]
    · simpa [headLen, head] using hown5
end Go.Proofs.Qxb6630930a
