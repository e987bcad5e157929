import Derived.Test.Qxb6627478aShapes
import Derived.Deep.MidRow
import Derived.Laws.AppendOwnNone
namespace Go.Proofs.Qxb6627478a
open Go.ChangeShapes Go.WideShapes Go.ChangeAt Go.RowKit

theorem Try.info33 : (Try.prog.info? 33).map (fun i => (i.zero, i.size, i.bytes)) = some (some (.pointer none), 1, 8) := by kernel_rfl
theorem Try.info39 : (Try.prog.info? 39).map (fun i => (i.zero, i.size, i.bytes)) = some (some (.agg #[.int .i64 0, .string ⟨#[]⟩, .int .i64 0, .slice none 0 0, .slice none 0 0]), 5, 80) := by kernel_rfl

/-- An expression's token: the pointer to its block. -/
def ptr (x : Nat) : Value := .pointer (some ⟨x, 0, none⟩)
theorem ptrs_oneCell (l : List Nat) : ∀ u ∈ l.map ptr, u.oneCell' = true := by
  intro u hu
  obtain ⟨_, _, rfl⟩ := List.mem_map.1 hu
  rfl
/-- A line: its keyword, its slice of expressions, the expressions' blocks. -/
abbrev Ln := Int × Value × List Nat
def ln0 : Ln := (0, .slice none 0 0, [])
def lineCells (k : Int) (pv : Value) : List Value := [.int .i64 k, .string ⟨#[]⟩, .int .i64 0, .slice none 0 0, pv]
def LnAt (w : World) (b o : Nat) (x : Ln) : Prop := ∀ i u, (lineCells x.1 x.2.1)[i]? = some u → w.cell? ⟨b, o + i, none⟩ = some u
/-- A slice of expressions. -/
def PSl (w : World) (a : Option Addr) (n c : Nat) (ids : List Nat) : Prop :=
  ids.length = n ∧ ((a = none ∧ n = 0 ∧ c = 0) ∨ ∃ g, a = some ⟨g, 0, none⟩ ∧ g < w.heap.size ∧ ∀ j u, (ids.map ptr)[j]? = some u → w.cell? ⟨g, j, none⟩ = some u)
theorem PSl.below {w w' : World} {a : Option Addr} {n c : Nat} {ids : List Nat} (h : PSl w a n c ids) (hb : Below w.heap.size w w') : PSl w' a n c ids := by
  refine ⟨h.1, ?_⟩
  rcases h.2 with h | ⟨g, e, hlt, hc⟩
  · exact .inl h
  · exact .inr ⟨g, e, Nat.lt_of_lt_of_le hlt hb.size, fun j u hj => (hb.cell hlt).trans (hc j u hj)⟩
def PvAt (w : World) (x : Ln) : Prop := ∃ pa pc, x.2.1 = .slice pa x.2.2.length pc ∧ PSl w pa x.2.2.length pc x.2.2
def Lns (w : World) (a : Option Addr) (n : Nat) (LL : List Ln) : Prop :=
  LL.length = n ∧ (n = 0 ∨ ∃ b o, a = some ⟨b, o, none⟩ ∧ b < w.heap.size ∧ ∀ j, j < n → LnAt w b (o + j * 5) (LL.getD j ln0)) ∧ ∀ x ∈ LL, PvAt w x
theorem Lns.below {w w' : World} {a : Option Addr} {n : Nat} {LL : List Ln} (h : Lns w a n LL) (hb : Below w.heap.size w w') : Lns w' a n LL := by
  refine ⟨h.1, ?_, fun x hx => ?_⟩
  · rcases h.2.1 with h | ⟨b, o, e, hlt, hc⟩
    · exact .inl h
    · exact .inr ⟨b, o, e, Nat.lt_of_lt_of_le hlt hb.size, fun j hj i u hu => (hb.cell hlt).trans (hc j hj i u hu)⟩
  · obtain ⟨pa, pc, e, hp⟩ := h.2.2 x hx
    exact ⟨pa, pc, e, hp.below hb⟩

/-- The expressions of the lines of keyword k. -/
def pats (LL : List Ln) (k : Int) : List Nat := (LL.filter (fun x => x.1 == k)).flatMap (fun x => x.2.2)
def shapes (LL : List Ln) : List (Int × Nat) := LL.map (fun x => (x.1, x.2.2.length))
theorem pats_append (A B : List Ln) (k : Int) : pats (A ++ B) k = pats A k ++ pats B k := by simp [pats]
theorem pats_one_yes (x : Ln) (k : Int) (hk : (x.1 == k) = true) : pats [x] k = x.2.2 := by simp only [pats, List.filter_cons, hk]; simp
theorem pats_one_no (x : Ln) (k : Int) (hk : (x.1 == k) = false) : pats [x] k = [] := by simp only [pats, List.filter_cons, hk]; simp
theorem pats_take_yes (LL : List Ln) (k : Int) (j : Nat) (h : j < LL.length) (hk : ((LL.getD j ln0).1 == k) = true) : pats (LL.take (j + 1)) k = pats (LL.take j) k ++ (LL.getD j ln0).2.2 := by
  rw [take_snoc LL ln0 j h, pats_append, pats_one_yes _ _ hk]
theorem pats_take_no (LL : List Ln) (k : Int) (j : Nat) (h : j < LL.length) (hk : ((LL.getD j ln0).1 == k) = false) : pats (LL.take (j + 1)) k = pats (LL.take j) k := by
  rw [take_snoc LL ln0 j h, pats_append, pats_one_no _ _ hk, List.append_nil]
theorem pats_len (LL : List Ln) (k : Int) : (pats LL k).length = cntF (shapes LL) k := by
  induction LL with
  | nil => rfl
  | cons x LL ih =>
    have h1 := pats_append [x] LL k
    have h2 := cntF_append (shapes [x]) (shapes LL) k
    have h3 : shapes [x] ++ shapes LL = shapes (x :: LL) := rfl
    rw [List.singleton_append] at h1
    rw [h3] at h2
    rw [h1, h2, List.length_append, ih]
    congr 1
    cases hk : (x.1 == k)
    · rw [show shapes [x] = [(x.1, x.2.2.length)] from rfl, cntF_one_no _ _ hk, pats_one_no x k hk]; rfl
    · rw [show shapes [x] = [(x.1, x.2.2.length)] from rfl, cntF_one_yes _ _ hk, pats_one_yes x k hk]
theorem shapes_take (LL : List Ln) (j : Nat) : shapes (LL.take j) = (shapes LL).take j := by simp [shapes, List.map_take]
theorem shapes_drop (LL : List Ln) (j : Nat) : shapes (LL.drop j) = (shapes LL).drop j := by simp [shapes, List.map_drop]

structure InRel (W0 wr : World) (v : Value) (X : List Nat) : Prop where
  own : wr.ownsRow W0.heap.size 33 1 v X.length (X.map ptr)
  bel : Below W0.heap.size W0 wr
  nil : X = [] → v = .slice none 0 0
theorem own_shape {w : World} {base : Nat} {e : TypeId} {size : Nat} {v : Value} {n : Nat} {xs : List Value} (h : w.ownsRow base e size v n xs) :
    ∃ ao cap, v = .slice ao n cap ∧ ((ao = none ∧ n = 0 ∧ cap = 0) ∨ ∃ g, ao = some ⟨g, 0, none⟩ ∧ base ≤ g ∧ g < w.heap.size ∧ n ≤ cap ∧ cap ≤ maxLen) := by
  rcases h.2 with ⟨rfl, rfl⟩ | ⟨g, cap, cur, rfl, hg, hh, hn, hm, _⟩
  · exact ⟨none, 0, rfl, .inl ⟨rfl, rfl, rfl⟩⟩
  · exact ⟨_, cap, rfl, .inr ⟨g, rfl, hg, (Array.getElem?_eq_some_iff.1 hh).1, hn, hm⟩⟩

set_option maxHeartbeats 2000000 in
set_option maxRecDepth 100000 in
theorem patterns_any (vol : ByteArray) (a : Option Addr) (n c : Nat) (LL : List Ln) (k : Int) (w : World) (hs : Lns w a n LL) (hn : n ≤ 1048576) (hT : tot (shapes LL) ≤ 1048576) :
    Calls Try.prog 8 #[.agg #[.string vol, .slice a n c], .int .i64 k] w fun e w' =>
      ∃ ra rc, e = .returned (.slice ra (pats LL k).length rc) ∧ PSl w' ra (pats LL k).length rc (pats LL k) ∧ (ra = none ↔ (pats LL k).length = 0) ∧ Below w.heap.size w w' := by
  obtain ⟨i0, hi, hz0, hz1, hz2⟩ := info_parts Try.info33
  have hl := hs.1
  have hb0 : Below w.heap.size w (w.alloc (.cells #[.string vol, .slice a n c] 27)) := (Below.refl _ _).alloc (Nat.le_refl _) _
  go_enter Try.func8, Try.ntmps8
  go_wp2_with fail
  have hs0 := hs.below hb0
  generalize w.alloc (.cells #[.string vol, .slice a n c] 27) = W0 at *
  clear hs
  go_loopw [5, 11] (fun v i wr => ∃ j : Nat, j ≤ n ∧ i = .int .i64 j ∧ InRel W0 wr v (pats (LL.take j) k)) (fun _ i _ => n - (intOf i).toNat)
  case atStart => exact ⟨0, Nat.zero_le _, rfl, World.ownsRow_nil _ _ _ _, Below.refl _ _, fun _ => rfl⟩
  case round =>
    obtain ⟨j, hj, rfl, R⟩ := hrel
    by_cases hlt : j < n
    · rcases hs0.2.1 with h0 | ⟨b, o, rfl, hbw, hc⟩
      · omega
      · have hjl : j < LL.length := by omega
        have HY := pats_take_yes LL k j hjl
        have HN := pats_take_no LL k j hjl
        have hx : LL.getD j ln0 ∈ LL := by simp [List.getD, hjl]
        obtain ⟨pa, pc, hpv, hp⟩ := hs0.2.2 _ hx
        have hat := hc j hlt
        have hle : (pats (LL.take j) k).length ≤ 1048576 := by
          rw [pats_len, shapes_take]
          exact Nat.le_trans (cntF_le _ _) (Nat.le_trans (tot_take_le _ _) hT)
        have hle2 : (LL.getD j ln0).2.2.length ≤ 1048576 := by
          have h1 := tot_take (shapes LL) j (by simpa [shapes] using hjl)
          have h2 := tot_take_le (shapes LL) (j + 1)
          have h3 : ((shapes LL).getD j (0, 0)).2 = (LL.getD j ln0).2.2.length := by simp [shapes, List.getD, hjl]
          omega
        clear hc hx
        generalize LL.getD j ln0 = x at *
        obtain ⟨x1, pv, ids⟩ := x
        simp only at hpv hp hat HY HN hle2
        subst hpv
        have c0 : wr.cell? ⟨b, o + j * 5, none⟩ = some (.int .i64 x1) := (R.bel.cell hbw).trans (hat 0 _ rfl)
        have c1 : wr.cell? ⟨b, o + j * 5 + 1, none⟩ = some (.string ⟨#[]⟩) := (R.bel.cell hbw).trans (hat 1 _ rfl)
        have c2 : wr.cell? ⟨b, o + j * 5 + 2, none⟩ = some (.int .i64 0) := (R.bel.cell hbw).trans (hat 2 _ rfl)
        have c3 : wr.cell? ⟨b, o + j * 5 + 3, none⟩ = some (.slice none 0 0) := (R.bel.cell hbw).trans (hat 3 _ rfl)
        have c4 : wr.cell? ⟨b, o + j * 5 + 4, none⟩ = some (.slice pa ids.length pc) := (R.bel.cell hbw).trans (hat 4 _ rfl)
        have hpr := hp.below R.bel
        clear hat hp hl
        have bj : (j : Int) < (n : Int) := by omega
        cases hxk : (x1 == k)
        · have HX : Hid (pats (LL.take (j + 1)) k = pats (LL.take j) k) := HN hxk
          clear HY HN
          go_wp2
          go_roundw
          case rel => exact ⟨j + 1, by omega, by go_num, by rw [HX.out]; exact ⟨R.own.alloc _, R.bel.alloc R.bel.size _, R.nil⟩⟩
          case measure => simp [intOf]; omega
        · have HX : Hid (pats (LL.take (j + 1)) k = pats (LL.take j) k ++ ids) := HY hxk
          clear HY HN
          rcases hpr.2 with ⟨rfl, h0, rfl⟩ | ⟨g, rfl, hgw, hcg⟩
          · have hids : ids = [] := List.eq_nil_of_length_eq_zero h0
            subst hids
            go_wp2_with (at_builtin; refine wpList_append_own_none rfl (.tmp 19) (.tmp 21) 30 rfl W0.heap.size 33 i0 1 Try.underlying30 hi _ _ _ rfl (R.own.alloc _) rfl ?_)
            go_roundw
            case rel => exact ⟨j + 1, by omega, by go_num, by rw [HX.out, List.append_nil]; exact ⟨R.own.alloc _, R.bel.alloc R.bel.size _, R.nil⟩⟩
            case measure => simp [intOf]; omega
          · have HCG : Hid (∀ (o' : Obj) j u, (ids.map ptr)[j]? = some u → (wr.alloc o').cell? ((⟨g, 0, none⟩ : Addr).add j) = some u) := fun o' j u hj => by
              rw [Addr.add_lit, Nat.zero_add, World.cell?_alloc_past _ _ _ hgw]
              exact hcg j u hj
            clear hcg
            go_wp2_with (at_builtin; refine wpList_append_own _ rfl (.tmp 19) (.tmp 21) 30 rfl W0.heap.size 33 i0 (.pointer none) 1 8 Try.underlying30 hi hz0 hz1 hz2 rfl (by decide) _ _ _ rfl (R.own.alloc _) ⟨g, 0, none⟩ ids.length pc (ids.map ptr) rfl ?c1 (HCG.out _) (ptrs_oneCell _) ?c3 ?c4 ?c5 ?_)
            case c1 => simp
            case c3 => unfold maxLen; omega
            case c4 => omega
            case c5 => have := R.bel.size; simp; omega
            intro v' w1 hown' hgrow hnil
            have R1 : InRel W0 w1 v' (pats (LL.take j) k ++ ids) := by
              refine ⟨by simpa using hown', ?_, fun e => ?_⟩
              · exact (R.bel.alloc R.bel.size _).grown hgrow (by have := R.bel.size; simp; omega) (fun q hq => (R.own.lt q hq).1)
              · rw [List.append_eq_nil_iff] at e
                exact hnil.2 ⟨R.nil e.1, by simp [e.2]⟩
            clear hown' hgrow hnil
            go_wp2
            go_roundw
            case rel => exact ⟨j + 1, by omega, by go_num, by rw [HX.out]; exact R1⟩
            case measure => simp [intOf]; omega
    · have he : LL.take j = LL := List.take_of_length_le (by omega)
      rw [he] at R
      obtain ⟨ao, cap, rfl, hsh⟩ := own_shape R.own
      go_wp2
      go_ret
      refine ⟨ao, cap, rfl, ⟨rfl, ?_⟩, ?_, hb0.trans (R.bel.mono hb0.size)⟩
      · rcases hsh with ⟨rfl, h0, rfl⟩ | ⟨g, rfl, _, hlt', _, _⟩
        · exact .inl ⟨rfl, h0, rfl⟩
        · refine .inr ⟨g, rfl, hlt', fun q u hq => ?_⟩
          have hql : q < (pats LL k).length := by simpa using (List.getElem?_eq_some_iff.1 hq).1
          rw [R.own.cellAt q (by omega)]
          exact hq
      · constructor
        · rintro rfl
          rcases hsh with ⟨_, h0, _⟩ | ⟨g, e, _⟩
          · exact h0
          · cases e
        · intro h0
          have := R.nil (List.eq_nil_of_length_eq_zero h0)
          simp only [Value.slice.injEq] at this
          exact this.1
end Go.Proofs.Qxb6627478a
