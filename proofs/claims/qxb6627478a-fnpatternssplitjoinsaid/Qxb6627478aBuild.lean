import Derived.Test.Qxb6627478aPatterns
import Derived.Deep.RegionLawGrows
namespace Go.Proofs.Qxb6627478a
open Go.ChangeShapes Go.WideShapes Go.ChangeAt Go.RowKit

/-- 'append' on a slice of the call's own, as one step of a region that draws. -/
theorem step_append_own {P : Program} {ops : Array Oper} {o : Oper} {a : Act} {w : World} {K : Act → World → Prop} {Q : Exit → Act → World → Prop} {E : Prop}
    (hg : o.guard = none) (s x : Operand) (t : TypeId) (ho : o.op = Op.call { callee := Callee.builtin Builtin.append, args := #[s, x], argTypes := #[t, t] })
    (base : Nat) (e : TypeId) (i : TypeInfo) (z : Value) (size bytes : Nat) (ht : P.underlying t = some (.slice e)) (hi : P.info? e = some i) (hz : i.zero = some z)
    (hsize : i.size = size) (hby : i.bytes = bytes) (hzs : z.cells.size = size) (hsz : 0 < size)
    (v : Value) (n : Nat) (xs : List Value) (hs : a.eval s = v) (hown : w.ownsRow base e size v n xs)
    (ad : Addr) (m c : Nat) (news : List Value) (hx : a.eval x = .slice (some ad) m c) (hl : news.length = m * size) (hnews : ∀ j u, news[j]? = some u → w.cell? (ad.add j) = some u) (h1 : ∀ u ∈ news, u.oneCell' = true)
    (h63 : n + m ≤ maxLen) (hbytes : (n + m) * bytes ≤ 140737488355328) (hbase : base ≤ w.heap.size)
    (h : ∀ v' w', w'.ownsRow base e size v' (n + m) (xs ++ news) → w.grownBy w' v.ownBlock → K (a.put o.dst v') w') :
    if Region.wanted o (yielded ops a.tmps) = true then Oper.wp P o a w K Q else E := by
  have hw : Region.wanted o (yielded ops a.tmps) = true := by simp [Region.wanted, hg]
  rw [if_pos hw]
  exact wp_append_own w s x t ho base e i z size bytes ht hi hz hsize hby hzs hsz v n xs hs hown ad m c news hx hl hnews h1 h63 hbytes hbase fun v' w' h2 h3 _ => h v' w' h2 h3

/-- A call of a Go function without arguments, by its contract, as one step of a region that draws. -/
theorem step_call0 {P : Program} {ops : Array Oper} {o : Oper} {a : Act} {w : World} {K : Act → World → Prop} {Q : Exit → Act → World → Prop} {E : Prop}
    (hg : o.guard = none) (f : FuncId) (hrun : (callFunc f #[]).run P w = .ok (.enter f #[]) w) (ho : o.op = Op.call { callee := Callee.value (Operand.func f), args := #[], argTypes := #[] })
    (R : Value → World → Prop) (hc : Calls P f #[] w fun e w' => ∃ v, e = .returned v ∧ R v w') (h : ∀ v w', R v w' → K (a.put o.dst v) w') :
    if Region.wanted o (yielded ops a.tmps) = true then Oper.wp P o a w K Q else E := by
  have hw : Region.wanted o (yielded ops a.tmps) = true := by simp [Region.wanted, hg]
  rw [if_pos hw]
  unfold Oper.wp
  simp [execOp, ho, resolve, invoke, go_sem, hrun]
  refine hc.mono ?_
  rintro e w' ⟨v, rfl, hR⟩
  exact h v w' hR

theorem enter11 (w : World) : (callFunc 11 #[]).run Try.prog w = .ok (.enter 11 #[]) w := by kernel_rfl
theorem regexp_call (w : World) : Calls Try.prog 11 #[] w fun e w' => ∃ v, e = .returned v ∧ (v = .pointer (some ⟨w.heap.size, 0, none⟩) ∧ Below w.heap.size w w' ∧ w'.heap.size = w.heap.size + 1 ∧ ∃ cs, w'.heap[w.heap.size]? = some (.cells cs 48 (0, 0))) :=
  (regexp_any w).mono fun _ _ ⟨h1, h2, h3, h4⟩ => ⟨_, h1, rfl, h2, h3, h4⟩

/-- The block of an expression. -/
def Live48 (w : World) (q : Nat) : Prop := ∃ cs, w.heap[q]? = some (.cells cs 48 (0, 0))
theorem Live48.lt {w : World} {q : Nat} (h : Live48 w q) : q < w.heap.size := by
  obtain ⟨cs, h⟩ := h
  exact (Array.getElem?_eq_some_iff.1 h).1
theorem Live48.below {w w' : World} {q K : Nat} (h : Live48 w q) (hb : Below K w w') (hq : q < K) : Live48 w' q := by
  obtain ⟨cs, h⟩ := h
  exact ⟨cs, (hb.block q hq).trans h⟩
theorem Live48.alloc {w : World} {q : Nat} (h : Live48 w q) (o : Obj) : Live48 (w.alloc o) q := by
  have hlt := h.lt
  obtain ⟨cs, h⟩ := h
  exact ⟨cs, (Below.heap_alloc w o q hlt).trans h⟩
theorem Live48.grown {w w' : World} {q B sz n : Nat} {e : TypeId} {v : Value} {xs : List Value} (h : Live48 w q) (hv : w.ownsRow B e sz v n xs) (he : e ≠ 48) (hg : w.grownBy w' v.ownBlock) : Live48 w' q := by
  have hlt := h.lt
  obtain ⟨cs, h⟩ := h
  refine ⟨cs, (hg.block q hlt (fun e2 => ?_)).trans h⟩
  rcases hv.2 with ⟨rfl, _⟩ | ⟨g, cap, cur, rfl, _, hh, _⟩
  · simp [Value.ownBlock] at e2
  · simp [Value.ownBlock] at e2
    subst e2
    rw [h] at hh
    simp at hh
    exact he hh.2.symm
theorem Live48.set {w : World} {q g i : Nat} {u : Value} {c : Array Value} {t : TypeId} (h : Live48 w q) (hg : w.heap[g]? = some (.cells c t (0, 0))) (ht : t ≠ 48) : Live48 (w.setCell ⟨g, i, none⟩ u) q := by
  obtain ⟨cs, h⟩ := h
  have hne : q ≠ g := fun e => by
    subst e
    rw [h] at hg
    simp at hg
    exact ht hg.2.symm
  exact ⟨cs, (heap_setCell_other w ⟨g, i, none⟩ q u hne).trans h⟩

/-- The lines that have been built: the row of lines, each line's row of expressions, all expressions apart. -/
structure Grp (wr : World) (B : Nat) (v : Value) (LL : List Ln) : Prop where
  lines : wr.ownsRow B 39 5 v LL.length (LL.flatMap fun x => lineCells x.1 x.2.1)
  rows : ∀ x ∈ LL, wr.ownsRow B 33 1 x.2.1 x.2.2.length (x.2.2.map ptr)
  nodup : (LL.flatMap fun x => x.2.2).Nodup
  fresh : ∀ q ∈ (LL.flatMap fun x => x.2.2), Live48 wr q

/-- The inner loop: the line that is being filled lies in block lb. -/
structure InB (W1 ws : World) (lb : Nat) (x : Int) (pv : Value) (ids : List Nat) : Prop where
  blk : ws.heap[lb]? = some (.cells (lineCells x pv).toArray 39 (0, 0))
  own : ws.ownsRow (lb + 1) 33 1 pv ids.length (ids.map ptr)
  bel : Below lb W1 ws
  nodup : ids.Nodup
  fresh : ∀ q ∈ ids, lb ≤ q ∧ Live48 ws q

theorem own_below {w w' : World} {B : Nat} {e : TypeId} {sz : Nat} {v : Value} {n : Nat} {xs : List Value} (h : w.ownsRow B e sz v n xs) {K : Nat} (hb : Below K w w') (hK : ∀ g, v.ownBlock = some g → g < K) : w'.ownsRow B e sz v n xs := by
  refine ⟨h.1, ?_⟩
  rcases h.2 with h | ⟨g, cap, cur, rfl, hg, hh, r⟩
  · exact .inl h
  · exact .inr ⟨g, cap, cur, rfl, hg, (hb.block g (hK g rfl)).trans hh, r⟩
theorem own_base {w : World} {B B' : Nat} {e : TypeId} {sz : Nat} {v : Value} {n : Nat} {xs : List Value} (h : w.ownsRow B e sz v n xs) (hB : B' ≤ B) : w.ownsRow B' e sz v n xs := by
  refine ⟨h.1, ?_⟩
  rcases h.2 with h | ⟨g, cap, cur, rfl, hg, r⟩
  · exact .inl h
  · exact .inr ⟨g, cap, cur, rfl, Nat.le_trans hB hg, r⟩
theorem news1 {w : World} {x : Value} {t : TypeId} : ∀ j u, [x][j]? = some u → (w.alloc (.cells #[x] t)).cell? ((⟨w.heap.size, 0, none⟩ : Addr).add j) = some u := by
  intro j u hj
  match j, hj with
  | 0, hj => simp at hj; subst hj; simp [Addr.add]
theorem InB.mid {wr ws w1 w2 : World} {lb : Nat} {x : Int} {pv : Value} {ids : List Nat} (I : InB wr ws lb x pv ids) (o : Obj) (hb1 : Below ws.heap.size ws w1) (hgrow : (w1.alloc o).grownBy w2 pv.ownBlock) :
    w2.heap[lb]? = some (.cells (lineCells x pv).toArray 39 (0, 0)) := by
  have hlb : lb < ws.heap.size := (Array.getElem?_eq_some_iff.1 I.blk).1
  have h1 := hb1.size
  rw [hgrow.block lb (by simp; omega) (fun e => by have := (I.own.lt lb e.symm).1; omega), Below.heap_alloc _ _ _ (by omega), hb1.block lb hlb]
  exact I.blk
theorem InB.step {wr ws w1 w2 : World} {lb : Nat} {x : Int} {pv v' : Value} {ids : List Nat} (I : InB wr ws lb x pv ids) (o : Obj) (hb1 : Below ws.heap.size ws w1) (hv1 : Live48 w1 ws.heap.size)
    (hown : w2.ownsRow (lb + 1) 33 1 v' (ids.length + 1) (ids.map ptr ++ [ptr ws.heap.size])) (hgrow : (w1.alloc o).grownBy w2 pv.ownBlock) :
    InB wr (w2.setCell ⟨lb, 4, none⟩ v') lb x v' (ids ++ [ws.heap.size]) := by
  have hlb : lb < ws.heap.size := (Array.getElem?_eq_some_iff.1 I.blk).1
  have hmid := I.mid o hb1 hgrow
  have hs1 := hb1.size
  have hown1 : (w1.alloc o).ownsRow (lb + 1) 33 1 pv ids.length (ids.map ptr) := (own_below I.own hb1 (fun g hg => (I.own.lt g hg).2)).alloc o
  refine ⟨?_, ?_, ?_, ?_, ?_⟩
  · rw [heap_setCell_same w2 lb 4 _ _ _ hmid]
    simp [lineCells]
  · have := ownsRow_setCell_below hown (a := ⟨lb, 4, none⟩) (by simp) v'
    simpa using this
  · have h2 : Below lb wr w2 := ((I.bel.trans (hb1.mono (by omega))).alloc (by omega) o).grown hgrow (by simp; omega) (fun q hq => by have := (I.own.lt q hq).1; omega)
    exact h2.setCell (Nat.le_refl _) _
  · rw [List.nodup_append]
    refine ⟨I.nodup, by simp, fun q hq r hr => ?_⟩
    simp at hr
    have := (I.fresh q hq).2.lt
    omega
  · intro q hq
    rcases List.mem_append.1 hq with h | h
    · have hf := I.fresh q h
      exact ⟨hf.1, (((hf.2.below hb1 hf.2.lt).alloc o).grown hown1 (by decide) hgrow).set hmid (by decide)⟩
    · simp at h
      subst h
      exact ⟨by omega, ((hv1.alloc o).grown hown1 (by decide) hgrow).set hmid (by decide)⟩

theorem own_apart {w : World} {B B' : Nat} {p v : Value} {n m sz sz' : Nat} {xs ys : List Value} (hp : w.ownsRow B 33 sz p n xs) (hv : w.ownsRow B' 39 sz' v m ys) : p.ownBlock = none ∨ p.ownBlock ≠ v.ownBlock := by
  rcases hp.2 with ⟨rfl, _⟩ | ⟨g, cap, cur, rfl, _, hh, _⟩
  · exact .inl rfl
  · right
    rcases hv.2 with ⟨rfl, _⟩ | ⟨g', cap', cur', rfl, _, hh', _⟩
    · simp [Value.ownBlock]
    · intro e
      simp [Value.ownBlock] at e
      subst e
      rw [hh] at hh'
      simp at hh'
theorem Grp.setBelow {w : World} {B : Nat} {v : Value} {LL : List Ln} (G : Grp w B v LL) {g i : Nat} {c : Array Value} (hg : w.heap[g]? = some (.cells c 27 (0, 0))) (ha : g < B) (u : Value) : Grp (w.setCell ⟨g, i, none⟩ u) B v LL :=
  ⟨ownsRow_setCell_below G.lines ha u, fun x hx => ownsRow_setCell_below (G.rows x hx) ha u, G.nodup, fun q hq => (G.fresh q hq).set hg (by decide)⟩
theorem Grp.weak {w : World} {B B' : Nat} {v : Value} {LL : List Ln} (G : Grp w B v LL) (hB : B' ≤ B) : Grp w B' v LL :=
  ⟨own_base G.lines hB, fun x hx => own_base (G.rows x hx) hB, G.nodup, G.fresh⟩
theorem flat_snoc (LL : List Ln) (x : Ln) : (LL ++ [x]).flatMap (fun x => lineCells x.1 x.2.1) = LL.flatMap (fun x => lineCells x.1 x.2.1) ++ lineCells x.1 x.2.1 := by simp
theorem Grp.step {wo wr w2 : World} {B g5 : Nat} {x : Int} {v v' pv : Value} {LL : List Ln} {ids : List Nat} (G : Grp wo B v LL) (I : InB wo wr wo.heap.size x pv ids) (o : Obj) (hB : g5 < B) (hB2 : B ≤ wo.heap.size) {c5 : Array Value} (hg5 : w2.heap[g5]? = some (.cells c5 27 (0, 0)))
    (hown : w2.ownsRow B 39 5 v' (LL.length + 1) (LL.flatMap (fun x => lineCells x.1 x.2.1) ++ lineCells x pv)) (hgrow : (wr.alloc o).grownBy w2 v.ownBlock) :
    Grp (w2.setCell ⟨g5, 1, none⟩ v') B v' (LL ++ [(x, pv, ids)]) := by
  have hlines : (wr.alloc o).ownsRow B 39 5 v LL.length (LL.flatMap fun x => lineCells x.1 x.2.1) := (own_below G.lines I.bel (fun g hg => (G.lines.lt g hg).2)).alloc o
  refine ⟨?_, ?_, ?_, ?_⟩
  · rw [flat_snoc, List.length_append]
    exact ownsRow_setCell_below hown (a := ⟨g5, 1, none⟩) hB v'
  · intro y hy
    rcases List.mem_append.1 hy with h | h
    · have h1 := (own_below (G.rows y h) I.bel (fun g hg => ((G.rows y h).lt g hg).2)).alloc o
      exact ownsRow_setCell_below (h1.kept hgrow (own_apart h1 hlines)) (a := ⟨g5, 1, none⟩) hB v'
    · simp at h
      subst h
      have h1 := (own_base I.own (show B ≤ wo.heap.size + 1 by omega)).alloc o
      exact ownsRow_setCell_below (h1.kept hgrow (own_apart h1 hlines)) (a := ⟨g5, 1, none⟩) hB v'
  · rw [List.flatMap_append, List.nodup_append]
    refine ⟨G.nodup, by simpa using I.nodup, fun q hq r hr => ?_⟩
    have h1 := (G.fresh q hq).lt
    have h2 := (I.fresh r (by simpa using hr)).1
    omega
  · intro q hq
    rw [List.flatMap_append] at hq
    rcases List.mem_append.1 hq with h | h
    · have hf := G.fresh q h
      exact (((hf.below I.bel hf.lt).alloc o).grown hlines (by decide) hgrow).set hg5 (by decide)
    · have hf := (I.fresh q (by simpa using h)).2
      exact ((hf.alloc o).grown hlines (by decide) hgrow).set hg5 (by decide)

set_option maxHeartbeats 2000000 in
set_option maxRecDepth 100000 in
theorem build_any (vol : ByteArray) (a : Option Addr) (n c : Nat) (P : List (Int × Nat)) (w : World) (hs : Shp w a n P) (hn : n ≤ 16384) :
    Calls Try.prog 7 #[.string vol, .slice a n c] w fun e w' => ∃ v LL, e = .returned (.agg #[.string vol, v]) ∧ shapes LL = P ∧ Grp w' w.heap.size v LL ∧ Below w.heap.size w w' := by
  obtain ⟨i3, hi3, hz30, hz31, hz32⟩ := info_parts Try.info33
  obtain ⟨i9, hi9, hz90, hz91, hz92⟩ := info_parts Try.info39
  have hl := hs.1
  have hr0 := heap_alloc2_old w (.cells #[.string ⟨#[]⟩, .slice none 0 0] 27) (.cells #[.string vol, .slice none 0 0] 27)
  have hg0 := heap_alloc2_new w (.cells #[.string ⟨#[]⟩, .slice none 0 0] 27) (.cells #[.string vol, .slice none 0 0] 27)
  have hb0 : Below w.heap.size w ((w.alloc (.cells #[.string ⟨#[]⟩, .slice none 0 0] 27)).alloc (.cells #[.string vol, .slice none 0 0] 27)) := ((Below.refl _ _).alloc (Nat.le_refl _) _).alloc (by simp) _
  go_enter Try.func7, Try.ntmps7
  go_wp2_with fail
  generalize (w.alloc (.cells #[.string ⟨#[]⟩, .slice none 0 0] 27)).alloc (.cells #[.string vol, .slice none 0 0] 27) = W0 at *
  go_loopw [6] (fun i wr => ∃ (j : Nat) (v : Value) (LL : List Ln), j ≤ n ∧ i = .int .i64 j ∧ Hid (shapes LL = P.take j) ∧ Grp wr (w.heap.size + 2) v LL ∧
      Hid (wr.heap[w.heap.size + 1]? = some (.cells #[.string vol, v] 27 (0, 0))) ∧ Hid (wr.heap[w.heap.size]? = some (.cells #[.string ⟨#[]⟩, .slice none 0 0] 27 (0, 0))) ∧ Below w.heap.size w wr) (fun i _ => n - (intOf i).toNat)
  case atStart => exact ⟨0, .slice none 0 0, [], Nat.zero_le _, rfl, rfl, ⟨World.ownsRow_nil _ _ _ _, by simp, by simp, by simp⟩, hg0, hr0, hb0⟩
  case round =>
    obtain ⟨j, v, LL, hj, rfl, HS, G, HG5, HR, hbel⟩ := hrel
    clear hr0 hg0 hb0
    rename World => wo
    by_cases hlt : j < n
    · rcases hs.2.2 with h0 | ⟨b, o, rfl, hbw, hc⟩
      · omega
      · obtain ⟨hc0, hc1⟩ := hc j hlt
        have h255 := hs.small j
        have HSn : Hid (P.take (j + 1) = P.take j ++ [P.getD j (0, 0)]) := take_snoc P (0, 0) j (by omega)
        have d0 := (hbel.cell (p := ⟨b, o + j * 2, none⟩) hbw).trans hc0
        have d1 := (hbel.cell (p := ⟨b, o + j * 2 + 1, none⟩) hbw).trans hc1
        have hbwr : b < wo.heap.size := Nat.lt_of_lt_of_le hbw hbel.size
        have d2 : ∀ o', (wo.alloc o').cell? ⟨b, o + j * 2 + 1, none⟩ = some (.int .u8 ((P.getD j (0, 0)).2 : Int)) := fun o' => (World.cell?_alloc_past _ _ _ hbwr).trans d1
        clear hc hc0 hc1 hl
        have hpx : (P.getD j (0, 0)) = ((P.getD j (0, 0)).1, (P.getD j (0, 0)).2) := rfl
        generalize P.getD j (0, 0) = px at *
        obtain ⟨x, y⟩ := px
        simp only at d0 d1 d2 h255
        clear hpx
        have bj : (j : Int) < (n : Int) := by omega
        go_wp2_with fail
        have I0 : InB wo (wo.alloc (.cells #[.int .i64 x, .string ⟨#[]⟩, .int .i64 0, .slice none 0 0, .slice none 0 0] 39)) wo.heap.size x (.slice none 0 0) [] :=
          ⟨heap_alloc_new wo _, World.ownsRow_nil _ _ _ _, (Below.refl _ _).alloc (Nat.le_refl _) _, by simp, by simp⟩
        go_loopw [9] (fun i ws => ∃ (pv : Value) (ids : List Nat), ids.length ≤ y ∧ i = .int .i64 (ids.length : Nat) ∧ InB wo ws wo.heap.size x pv ids) (fun i _ => y - (intOf i).toNat)
        case atStart => exact ⟨_, [], Nat.zero_le _, rfl, I0⟩
        case round =>
          obtain ⟨pv, ids, hids, rfl, I⟩ := hrel
          clear I0
          by_cases hlt2 : ids.length < y
          · have c4 : wr.cell? ⟨wo.heap.size, 4, none⟩ = some pv := by rw [cell_of_row wr _ 4 _ _ _ I.blk]; rfl
            have hlb : wo.heap.size < wr.heap.size := (Array.getElem?_eq_some_iff.1 I.blk).1
            obtain ⟨ao, cap, rfl, _⟩ := own_shape I.own
            go_wp2_with fail
            go_region_law (first
              | (refine step_append_own rfl (.tmp 36) (.tmp 38) 30 rfl (wo.heap.size + 1) 33 i3 (.pointer none) 1 8 Try.underlying30 hi3 hz30 hz31 hz32 rfl (by decide) _ ids.length (ids.map ptr) rfl (hown1.alloc _) ⟨w1.heap.size, 0, none⟩ 1 1 [ptr wr.heap.size] rfl rfl news1 (by simp [Value.oneCell', ptr]) (by unfold maxLen; omega) (by omega) (by have := hb1.size; simp; omega) ?_; intro v' w2 hown' hgrow; have hmid := I.mid _ hb1 hgrow; have s4 : w2.cell? ⟨wo.heap.size, 4, none⟩ = some (.slice ao ids.length cap) := (cell_of_row w2 _ 4 _ _ _ hmid).trans rfl; have sf : w2.frozen? ⟨wo.heap.size, 4, none⟩ = false := frozen_of_row w2 _ 4 _ _ hmid; have I1 := I.step _ hb1 HS1.out hown' hgrow; obtain ⟨ao', cap', rfl, _⟩ := own_shape hown'; clear hown' hgrow hmid)
              | (refine step_call0 rfl 11 (enter11 _) rfl _ (regexp_call _) ?_; rintro v1 w1 ⟨rfl, hb1', -, hs1'⟩; have hb1 : Below wr.heap.size wr w1 := ⟨hb1'.os, hb1'.tape, hb1'.output, hb1'.size, hb1'.block⟩; have HS1 : Hid (Live48 w1 wr.heap.size) := hs1'; clear hb1' hs1'; have e4 : w1.cell? ⟨wo.heap.size, 4, none⟩ = some (.slice ao ids.length cap) := (hb1.cell hlb).trans c4; have e5 : ∀ o', (w1.alloc o').cell? ⟨wo.heap.size, 4, none⟩ = some (.slice ao ids.length cap) := (fun o' => (World.cell?_alloc_past _ _ _ (Nat.lt_of_lt_of_le hlb hb1.size)).trans e4); have hown1 := own_below I.own hb1 (fun g hg => (I.own.lt g hg).2)))
            all_goals
              go_wp2
              go_roundw
              case rel => exact ⟨_, ids ++ [wr.heap.size], by simp; omega, by simp, I1⟩
              case measure => simp [intOf]; omega
          · have HYy : Hid (ids.length = y) := (by omega : ids.length = y)
            have hlb : wo.heap.size < wr.heap.size := (Array.getElem?_eq_some_iff.1 I.blk).1
            have hwo : w.heap.size + 1 < wo.heap.size := (Array.getElem?_eq_some_iff.1 HG5.out).1
            have k0 : wr.cell? ⟨wo.heap.size, 0, none⟩ = some (.int .i64 x) := by rw [cell_of_row wr _ 0 _ _ _ I.blk]; rfl
            have k1 : wr.cell? ⟨wo.heap.size, 1, none⟩ = some (.string ⟨#[]⟩) := by rw [cell_of_row wr _ 1 _ _ _ I.blk]; rfl
            have k2 : wr.cell? ⟨wo.heap.size, 2, none⟩ = some (.int .i64 0) := by rw [cell_of_row wr _ 2 _ _ _ I.blk]; rfl
            have k3 : wr.cell? ⟨wo.heap.size, 3, none⟩ = some (.slice none 0 0) := by rw [cell_of_row wr _ 3 _ _ _ I.blk]; rfl
            have k4 : wr.cell? ⟨wo.heap.size, 4, none⟩ = some pv := by rw [cell_of_row wr _ 4 _ _ _ I.blk]; rfl
            have G5r : wr.heap[w.heap.size + 1]? = some (.cells #[.string vol, v] 27 (0, 0)) := (I.bel.block _ hwo).trans HG5.out
            have kg : wr.cell? ⟨w.heap.size + 1, 1, none⟩ = some v := by rw [cell_of_row wr _ 1 _ _ _ G5r]; rfl
            have HG5r := G5r
            have HG5R : Hid (wr.heap[w.heap.size + 1]? = some (.cells #[.string vol, v] 27 (0, 0))) := G5r
            clear G5r HG5r
            obtain ⟨ap, cp, rfl, _⟩ := own_shape I.own
            obtain ⟨av, cv, rfl, _⟩ := own_shape G.lines
            have hLl : LL.length ≤ 16384 := by
              have := congrArg List.length HS.out
              simp [shapes] at this
              omega
            have hlines := own_below G.lines I.bel (fun g hg => (G.lines.lt g hg).2)
            have hsz0 := hbel.size
            go_wp2_with (at_builtin; refine wpList_append_own _ rfl (.tmp 42) (.tmp 44) 25 rfl (w.heap.size + 2) 39 i9 (.agg #[.int .i64 0, .string ⟨#[]⟩, .int .i64 0, .slice none 0 0, .slice none 0 0]) 5 80 Try.underlying25 hi9 hz90 hz91 hz92 rfl (by decide) _ _ _ rfl (hlines.alloc _) ⟨wr.heap.size, 0, none⟩ 1 1 (lineCells x (.slice ap ids.length cp)) rfl rfl ?e1 ?e2 ?e3 ?e4 ?e5 ?_)
            case e1 =>
              intro q u hq
              rw [Addr.add_lit, Nat.zero_add, cell_of_row _ _ q _ _ _ (heap_alloc_new wr _)]
              simpa [lineCells] using hq
            case e2 => intro u hu; simp [lineCells] at hu; rcases hu with rfl | rfl | rfl | rfl | rfl <;> rfl
            case e3 => unfold maxLen; omega
            case e4 => omega
            case e5 => simp; omega
            intro v' w2 hown' hgrow _
            have hw2 : wr.heap.size + 1 ≤ w2.heap.size := by have := hgrow.size; simpa using this
            have HM : Hid (w2.heap[w.heap.size + 1]? = some (.cells #[.string vol, .slice av LL.length cv] 27 (0, 0))) := by
              show _ = _
              rw [hgrow.block _ (by simp; omega) (fun e => by have := (G.lines.lt _ e.symm).1; omega), Below.heap_alloc _ _ _ (by omega)]
              exact HG5R.out
            have HM0 : Hid (w2.heap[w.heap.size]? = some (.cells #[.string ⟨#[]⟩, .slice none 0 0] 27 (0, 0))) := by
              show _ = _
              rw [hgrow.block _ (by simp; omega) (fun e => by have := (G.lines.lt _ e.symm).1; omega), Below.heap_alloc _ _ _ (by omega), I.bel.block _ (by omega)]
              exact HR.out
            have G1 := G.step (g5 := w.heap.size + 1) I _ (by omega) (by omega) HM.out hown' hgrow
            have hb2 : Below w.heap.size w (w2.setCell ⟨w.heap.size + 1, 1, none⟩ v') :=
              (((hbel.trans (I.bel.mono hbel.size)).alloc (by omega) _).grown hgrow (by simp; omega) (fun q hq => by have := (G.lines.lt q hq).1; omega)).setCell (by simp) _
            have s1 : w2.cell? ⟨w.heap.size + 1, 1, none⟩ = some (.slice av LL.length cv) := (cell_of_row w2 _ 1 _ _ _ HM.out).trans rfl
            have sf : w2.frozen? ⟨w.heap.size + 1, 1, none⟩ = false := frozen_of_row w2 _ 1 _ _ HM.out
            obtain ⟨ao', cap', rfl, _⟩ := own_shape hown'
            clear hown' hgrow
            go_wp2
            go_roundw
            case rel =>
              refine ⟨j + 1, _, LL ++ [(x, .slice ap ids.length cp, ids)], by omega, by go_num, ?_, G1, ?_, ?_, hb2⟩
              · show _ = _
                rw [HSn.out, ← HS.out, ← HYy.out]
                simp [shapes]
              · show _ = _
                rw [heap_setCell_same w2 _ 1 _ _ _ HM.out]
                rfl
              · show _ = _
                rw [heap_setCell_other _ _ _ _ (by simp)]
                exact HM0.out
            case measure => simp [intOf]; omega
    · have hP : P.take j = P := List.take_of_length_le (by omega)
      obtain ⟨av, cv, rfl, _⟩ := own_shape G.lines
      have k0 : wo.cell? ⟨w.heap.size + 1, 0, none⟩ = some (.string vol) := (cell_of_row wo _ 0 _ _ _ HG5.out).trans rfl
      have k1 : wo.cell? ⟨w.heap.size + 1, 1, none⟩ = some (.slice av LL.length cv) := (cell_of_row wo _ 1 _ _ _ HG5.out).trans rfl
      have r0 : wo.cell? ⟨w.heap.size, 0, none⟩ = some (.string ⟨#[]⟩) := (cell_of_row wo _ 0 _ _ _ HR.out).trans rfl
      have r1 : wo.cell? ⟨w.heap.size, 1, none⟩ = some (.slice none 0 0) := (cell_of_row wo _ 1 _ _ _ HR.out).trans rfl
      have f0 : wo.frozen? ⟨w.heap.size, 0, none⟩ = false := frozen_of_row wo _ 0 _ _ HR.out
      have f1 : wo.frozen? ⟨w.heap.size, 1, none⟩ = false := frozen_of_row wo _ 1 _ _ HR.out
      go_wp2
      have hblk : ((wo.setCell ⟨w.heap.size, 0, none⟩ (.string vol)).setCell ⟨w.heap.size, 1, none⟩ (.slice av LL.length cv)).heap[w.heap.size]? = some (.cells #[.string vol, .slice av LL.length cv] 27 (0, 0)) := by
        rw [heap_setCell_same _ _ 1 #[.string vol, .slice none 0 0] 27 _ (by rw [heap_setCell_same _ _ 0 _ _ _ HR.out]; rfl)]; rfl
      refine bodyPost_ret (results_cell_row rfl _ _ w.heap.size 27 _ (0, 0) _ rfl hblk Try.underlying27 rfl (by kernel_rfl)) rfl ⟨_, LL, rfl, HS.out.trans hP, ?_, ?_⟩
      · exact ((G.setBelow HR.out (by omega) _).setBelow (heap_setCell_same _ _ 0 _ _ _ HR.out) (by omega) _).weak (by omega)
      · exact (hbel.setCell (Nat.le_refl _) _).setCell (Nat.le_refl _) _
end Go.Proofs.Qxb6627478a
