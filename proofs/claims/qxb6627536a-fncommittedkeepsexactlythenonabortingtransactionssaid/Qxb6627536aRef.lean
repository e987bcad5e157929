import Derived.Test.Qxb6627536aZeros
import Derived.Deep.RegionLawGrows
namespace Go.Proofs.Qxb6627536a
open Go.ChangeShapes Go.WideShapes Go.ChangeAt Go.RowKit

/-- The table's word once x has been set. -/
def upd (T : Int → Bool) (x : Int) : Int → Bool := fun y => T y || (y == x)
theorem upd_same (T : Int → Bool) (x : Int) : upd T x x = true := by simp [upd]
theorem upd_other (T : Int → Bool) {x y : Int} (h : y ≠ x) : upd T x y = T y := by simp [upd, h]
theorem upd_true {T : Int → Bool} {x : Int} (h : T x = true) (y : Int) : upd T x y = T y := by
  by_cases e : y = x
  · subst e; rw [upd_same, h]
  · exact upd_other T e

section
variable {w w' : World} {B bound k : Nat} {dv : Value} {dn : Nat} {r : Option Nat} {T : Int → Bool}
theorem own_of_block {e : TypeId} {sz : Nat} {v : Value} {n : Nat} {xs : List Value} (h : w.ownsRow B e sz v n xs) (hh : ∀ g, v.ownBlock = some g → w'.heap[g]? = w.heap[g]?) : w'.ownsRow B e sz v n xs := by
  refine ⟨h.1, ?_⟩
  rcases h.2 with h | ⟨g, cap, cur, rfl, hg, hg2, r⟩
  · exact .inl h
  · exact .inr ⟨g, cap, cur, rfl, hg, (hh g rfl).trans hg2, r⟩
theorem map_of_block {b n : Nat} {D : DataW Unit} (h : w.ownsMap Try.prog 3 rdP b n D) (hh : w'.heap[b]? = w.heap[b]?) : w'.ownsMap Try.prog 3 rdP b n D := by
  obtain ⟨es, clock, h1, r⟩ := h
  exact ⟨es, clock, hh.trans h1, r⟩
theorem TabV.same (V : TabV w B bound k dv dn r T) (hh : ∀ b, B ≤ b → b < w.heap.size → w'.heap[b]? = w.heap[b]?) : TabV w' B bound k dv dn r T := by
  refine ⟨?_, V.small, V.bnd, V.gap, ?_⟩
  · obtain ⟨Dl, h1, h2⟩ := V.dense
    exact ⟨Dl, own_of_block h1 (fun g hg => hh g (h1.lt g hg).1 (h1.lt g hg).2), h2⟩
  · rcases V.sparse with h | ⟨mb, D, n, h1, h2, h3, h4, h5⟩
    · exact .inl h
    · refine .inr ⟨mb, D, n, h1, h2, map_of_block h3 (hh mb h2 h3.lt), h4, fun x hx hr => ?_⟩
      rcases h5 x hx hr with h | ⟨ht, q, q1, q2, q3, q4⟩
      · exact .inl h
      · exact .inr ⟨ht, q, q1, (hh q q3 (Array.getElem?_eq_some_iff.1 q2).1).trans q2, q3, q4⟩
theorem TabV.ext {T' : Int → Bool} (V : TabV w B bound k dv dn r T) (h : ∀ y, T' y = T y) : TabV w B bound k dv dn r T' := by
  have : T' = T := funext h
  rw [this]
  exact V
theorem TabV.mono {k' : Nat} (V : TabV w B bound k dv dn r T) (h : k ≤ k') : TabV w B bound k' dv dn r T := by
  refine ⟨V.dense, V.small, V.bnd, V.gap, ?_⟩
  rcases V.sparse with h | ⟨mb, D, n, h1, h2, h3, h4, h5⟩
  · exact .inl h
  · exact .inr ⟨mb, D, n, h1, h2, h3, by omega, h5⟩
theorem map_ne_cells {b n q : Nat} {D : DataW Unit} {cs : Array Value} {t : TypeId} {fr : Nat × Nat} (h : w.ownsMap Try.prog 3 rdP b n D) (hq : w.heap[q]? = some (.cells cs t fr)) : b ≠ q := by
  intro e
  subst e
  obtain ⟨es, clock, h1, _⟩ := h
  rw [h1] at hq
  simp at hq

/-- A number of the dense part is set. -/
theorem TabV.hit {gd cap m : Nat} (V : TabV w B bound k (.slice (some ⟨gd, 0, none⟩) dn cap) dn r T) (hm : m < dn) : TabV (w.setCell ⟨gd, m, none⟩ (.bool true)) B bound k (.slice (some ⟨gd, 0, none⟩) dn cap) dn r (upd T (m : Int)) := by
  have hs := V.small
  obtain ⟨Dl, h1, h2⟩ := V.dense
  have hl := h1.1
  simp at hl
  have hblk : ∃ cs, w.heap[gd]? = some (.cells cs 4 (0, 0)) := by
    rcases h1.2 with ⟨h, _⟩ | ⟨g, cap', cur, e, _, hh, _⟩
    · simp at h
    · simp at e
      obtain ⟨rfl, rfl⟩ := e
      exact ⟨cur, hh⟩
  obtain ⟨cs, hcs⟩ := hblk
  refine ⟨⟨Dl.set m true, ?_, ?_⟩, V.small, V.bnd, ?_, ?_⟩
  · have := (h1.stored m (.bool true)).1
    rwa [← List.map_set] at this
  · intro j hj
    by_cases e : j = m
    · subst e
      rw [upd_same]
      simp [List.getD, show j < Dl.length by omega]
    · rw [upd_other _ (by omega), h2 j hj]
      simp [List.getD, List.getElem?_set_ne (show m ≠ j by omega)]
  · intro x h3 h4
    rw [upd_other _ (by omega)]
    exact V.gap x h3 h4
  · rcases V.sparse with ⟨hr, hf⟩ | ⟨mb, D, n, hr, h3, h4, h5, h6⟩
    · refine .inl ⟨hr, fun x hx => ?_⟩
      rw [upd_other _ (by omega)]
      exact hf x hx
    · refine .inr ⟨mb, D, n, hr, h3, map_of_block h4 (heap_setCell_other _ _ _ _ (map_ne_cells h4 hcs)), h5, fun x hx hxr => ?_⟩
      rw [upd_other _ (by omega)]
      rcases h6 x hx hxr with h | ⟨ht, q, q1, q2, q3, q4⟩
      · exact .inl h
      · refine .inr ⟨ht, q, q1, ?_, q3, q4⟩
        rw [heap_setCell_other _ _ _ _ (fun e => q4 (by simp [Value.ownBlock, e]))]
        exact q2

/-- The dense part grows by zeros. -/
theorem TabV.grow {dv' : Value} {m : Nat} (V : TabV w B bound k dv dn r T) (Dl : List Bool) (h2 : ∀ j : Nat, j < dn → T (j : Int) = Dl.getD j false) (hl : Dl.length = dn) (hb : dn + m ≤ bound)
    (hown : w'.ownsRow B 4 1 dv' (dn + m) (Dl.map .bool ++ List.replicate m (.bool false))) (hg : w.grownBy w' dv.ownBlock) (hwhere : dv'.ownBlock = dv.ownBlock ∨ dv'.ownBlock = some w.heap.size)
    (hcells : ∀ g, dv.ownBlock = some g → ∃ cs, w.heap[g]? = some (.cells cs 4 (0, 0))) :
    TabV w' B bound k dv' (dn + m) r T := by
  refine ⟨⟨Dl ++ List.replicate m false, by simpa using hown, ?_⟩, hb, V.bnd, fun x h3 h4 => V.gap x (by omega) h4, ?_⟩
  · intro j hj
    by_cases hjn : j < dn
    · rw [h2 j hjn]
      simp [List.getD, List.getElem?_append_left (show j < Dl.length by omega)]
    · rw [V.gap j (by omega) (by omega)]
      simp [List.getD, List.getElem?_append_right (show Dl.length ≤ j by omega)]
      cases h : (List.replicate m false)[j - Dl.length]? with
      | none => rfl
      | some b => simp [List.getElem?_replicate] at h; simp [h]
  · rcases V.sparse with h | ⟨mb, D, n, hr, h3, h4, h5, h6⟩
    · exact .inl h
    · have hne : some mb ≠ dv.ownBlock := by
        intro e
        obtain ⟨cs, hcs⟩ := hcells mb e.symm
        exact map_ne_cells h4 hcs rfl
      refine .inr ⟨mb, D, n, hr, h3, h4.kept hg hne, h5, fun x hx hxr => ?_⟩
      rcases h6 x hx hxr with h | ⟨ht, q, q1, q2, q3, q4⟩
      · exact .inl h
      · have hq := (Array.getElem?_eq_some_iff.1 q2).1
        refine .inr ⟨ht, q, q1, (hg.block q hq (fun e => q4 e.symm)).trans q2, q3, ?_⟩
        rcases hwhere with e | e <;> rw [e]
        · exact q4
        · simp; omega
theorem TabV.denseCells (V : TabV w B bound k dv dn r T) : ∀ g, dv.ownBlock = some g → ∃ cs, w.heap[g]? = some (.cells cs 4 (0, 0)) := by
  intro g hg
  obtain ⟨Dl, h1, h2⟩ := V.dense
  rcases h1.2 with ⟨rfl, _⟩ | ⟨g', cap', cur, rfl, _, hh, _⟩
  · simp [Value.ownBlock] at hg
  · simp [Value.ownBlock] at hg
    subst hg
    exact ⟨cur, hh⟩

/-- A first map is made. -/
theorem TabV.made (V : TabV w B bound k dv dn none T) (hB : B ≤ w.heap.size) : TabV (w.alloc (.map #[] 0)) B bound k dv dn (some w.heap.size) T := by
  refine ⟨?_, V.small, V.bnd, V.gap, ?_⟩
  · obtain ⟨Dl, h1, h2⟩ := V.dense
    exact ⟨Dl, h1.alloc _, h2⟩
  · rcases V.sparse with ⟨_, hf⟩ | ⟨_, _, _, hr, _⟩
    · exact .inr ⟨_, .map [], 0, rfl, hB, World.ownsMap_made _ _ _ _, Nat.zero_le _, fun x hx hxr => .inl ⟨hf x hxr, rfl⟩⟩
    · simp at hr

/-- A number outside the dense part is set for the first time. -/
theorem TabV.put {mb n : Nat} {D : DataW Unit} {w1 : World} {x : Int} (V : TabV w B bound k dv dn (some mb) T) (hx : Ok64 x) (hxr : x < 0 ∨ (bound : Int) ≤ x) (hB : B ≤ w.heap.size) (hmb : B ≤ mb)
    (hm : w.ownsMap Try.prog 3 rdP mb n D) (hn : n ≤ k) (hsp : ∀ x : Int, Ok64 x → x < 0 ∨ (bound : Int) ≤ x → SpAt w D dv B x (T x))
    (hown : w1.ownsMap Try.prog 3 rdP mb (n + 1) (D.put (key x) (.lit (.int .u64 (w.heap.size : Int))))) (hg : (w.alloc (.cells #[.bool false] 4)).grownBy w1 (some mb)) :
    TabV (w1.setCell ⟨w.heap.size, 0, none⟩ (.bool true)) B bound (k + 1) dv dn (some mb) (upd T x) := by
  have hmlt := hm.lt
  have hq0 : w1.heap[w.heap.size]? = some (.cells #[.bool false] 4 (0, 0)) := by
    rw [hg.block _ (by simp) (by simp; omega)]
    exact heap_alloc_new w _
  have old : ∀ b, b < w.heap.size → b ≠ mb → (w1.setCell ⟨w.heap.size, 0, none⟩ (.bool true)).heap[b]? = w.heap[b]? := by
    intro b hb hne
    rw [heap_setCell_other _ _ _ _ (show b ≠ w.heap.size by omega), hg.block b (by simp; omega) (by simpa using hne), Below.heap_alloc _ _ _ hb]
  refine ⟨?_, V.small, V.bnd, ?_, ?_⟩
  · obtain ⟨Dl, h1, h2⟩ := V.dense
    refine ⟨Dl, own_of_block h1 (fun g hg2 => old g (h1.lt g hg2).2 (fun e => ?_)), fun j hj => ?_⟩
    · subst e
      obtain ⟨cs, hcs⟩ := V.denseCells g hg2
      exact map_ne_cells hm hcs rfl
    · have := V.small
      rw [upd_other _ (by omega)]
      exact h2 j hj
  · intro y h3 h4
    rw [upd_other _ (by omega)]
    exact V.gap y h3 h4
  · refine .inr ⟨mb, _, n + 1, rfl, hmb, map_of_block hown (heap_setCell_other _ _ _ _ (show mb ≠ w.heap.size by omega)), by omega, fun y hy hyr => ?_⟩
    by_cases e : y = x
    · subst e
      rw [upd_same]
      refine .inr ⟨rfl, w.heap.size, Maps.atKey_put_same hm.isMap (key_lit hx) _ _, ?_, hB, ?_⟩
      · rw [heap_setCell_same _ _ _ _ _ _ hq0]; rfl
      · intro e
        have := (Array.getElem?_eq_some_iff.1 (V.denseCells _ e).choose_spec).1
        omega
    · rw [upd_other _ e]
      have ha := Maps.atKey_put_other (D := D) (key_ne e) (.lit (.int .u64 (w.heap.size : Int))) zd
      rcases hsp y hy hyr with ⟨ht, h⟩ | ⟨ht, q, q1, q2, q3, q4⟩
      · exact .inl ⟨ht, ha.trans h⟩
      · exact .inr ⟨ht, q, ha.trans q1, (old q (Array.getElem?_eq_some_iff.1 q2).1 (fun e => map_ne_cells hm q2 e.symm)).trans q2, q3, q4⟩

/-- A number outside the dense part is set once more. -/
theorem TabV.again {q : Nat} {x : Int} (V : TabV w B bound k dv dn r T) (hT : T x = true) (hq : w.heap[q]? = some (.cells #[.bool true] 4 (0, 0))) : TabV (w.setCell ⟨q, 0, none⟩ (.bool true)) B bound k dv dn r (upd T x) := by
  refine (V.same fun b _ _ => ?_).ext (upd_true hT)
  by_cases e : b = q
  · subst e
    rw [heap_setCell_same _ _ _ _ _ _ hq, hq]
    rfl
  · exact heap_setCell_other _ _ _ _ e
end

/-- What a 'set' leaves. -/
def SetDone (g B bound k : Nat) (T : Int → Bool) (x : Int) (w w' : World) : Prop :=
  Below g w w' ∧ ∃ dv dn r, w'.heap[g]? = some (.cells #[.int .i64 bound, dv, .map r] 49 (0, 0)) ∧ TabV w' B bound k dv dn r (upd T x)

/-- What 'ref' hands back: a place that may be written; once true lies there, x is set. -/
def RefDone (g B bound k : Nat) (T : Int → Bool) (x : Int) (w : World) (e : Ending) (w' : World) : Prop :=
  ∃ q o, e = .returned (.pointer (some ⟨q, o, none⟩)) ∧ (∃ v, w'.cell? ⟨q, o, none⟩ = some v) ∧ w'.frozen? ⟨q, o, none⟩ = false ∧ SetDone g B bound k T x w (w'.setCell ⟨q, o, none⟩ (.bool true))

@[go_sem] theorem eql47 (w : World) (m : Option Nat) : (binOp .eql 47 (.map m) (.map none)).run Try.prog w = .ok (.bool m.isNone) w := run_eql_map_nil w 47 3 57 m Try.underlying47

/-- 'append(s, make([]T, m)...)' on a slice of the call's own, as one step of a region that draws. -/
theorem step_append_zeros {P : Program} {ops : Array Oper} {o : Oper} {a : Act} {w : World} {K : Act → World → Prop} {Q : Exit → Act → World → Prop} {E : Prop}
    (hg : o.guard = none) (s x : Operand) (t tn : TypeId) (ho : o.op = Op.call { callee := Callee.builtin Builtin.append, args := #[s, x], argTypes := #[t, tn] })
    (base : Nat) (e : TypeId) (kn : IntKind) (i : TypeInfo) (z : Value) (bytes : Nat) (ht : P.underlying t = some (.slice e)) (htn : P.underlying tn = some (.int kn)) (hi : P.info? e = some i) (hz : i.zero = some z)
    (hsize : i.size = 1) (hby : i.bytes = bytes) (hz1 : z.cells = #[z]) (hone : z.oneCell' = true)
    (v : Value) (n : Nat) (xs : List Value) (hs : a.eval s = v) (hown : w.ownsRow base e 1 v n xs) (N : Int) (m : Nat) (hx : a.eval x = .int .i64 N) (hN : N = (m : Int)) (h0 : 0 < m) (h63 : n + m ≤ maxLen) (hbytes : (n + m) * bytes ≤ 140737488355328) (hbase : base ≤ w.heap.size)
    (h : ∀ v' w', w'.ownsRow base e 1 v' (n + m) (xs ++ List.replicate m z) → w.grownBy w' v.ownBlock → (v'.ownBlock = v.ownBlock ∨ v'.ownBlock = some w.heap.size) → K (a.put o.dst v') w') :
    if Region.wanted o (yielded ops a.tmps) = true then Oper.wp P o a w K Q else E := by
  have hw : Region.wanted o (yielded ops a.tmps) = true := by simp [Region.wanted, hg]
  rw [if_pos hw]
  subst hN
  obtain ⟨v', w', hr, h1, h2, h3⟩ := run_append_zeros (P := P) w base t tn o.type e kn i z bytes ht htn hi hz hsize hby hz1 hone v n xs hown m h0 h63 hbytes hbase
  exact Lib.wp_append_run w s x t tn ho v _ hs hx v' w' hr (h v' w' h1 h2 h3)

theorem Try.info4 : (Try.prog.info? 4).map (fun i => (i.zero, i.size, i.bytes)) = some (some (.bool false), 1, 1) := by kernel_rfl

theorem wz (dn j : Nat) (h : dn + j ≤ 1000000) : IntKind.i64.wrap (IntKind.i64.wrap ((dn : Int) + (j : Int) + 1) - (dn : Int)) = ((j + 1 : Nat) : Int) := by
  rw [IntKind.wrap_i64, IntKind.wrap_i64]
  omega
set_option maxHeartbeats 1000000 in
set_option maxRecDepth 100000 in
theorem ref_dense (g : Nat) (x : Int) (w : World) (B bound k : Nat) (dv : Value) (dn : Nat) (r : Option Nat) (T : Int → Bool) (hx : Ok64 x) (h : w.heap[g]? = some (.cells #[.int .i64 bound, dv, .map r] 49 (0, 0))) (V : TabV w B bound k dv dn r T)
    (hgB : g < B) (hB : B ≤ w.heap.size) (c2 : 0 ≤ x ∧ x < bound) :
    Calls Try.prog 17 #[.pointer (some ⟨g, 0, none⟩), .int .i64 x] w fun e w' => RefDone g B bound (k + 1) T x w e w' := by
  have k0 := cell_of_row w g 0 _ _ _ h
  have k1 := cell_of_row w g 1 _ _ _ h
  have k2 := cell_of_row w g 2 _ _ _ h
  simp at k0 k1 k2
  have f1 : w.frozen? ⟨g, 1, none⟩ = false := frozen_of_row w g 1 _ _ h
  have f2 : w.frozen? ⟨g, 2, none⟩ = false := frozen_of_row w g 2 _ _ h
  have HG : Hid (w.heap[g]? = some (.cells #[.int .i64 bound, dv, .map r] 49 (0, 0))) := h
  clear h
  have hs := V.small
  have hbd := V.bnd
  obtain ⟨Dl, hown, hT⟩ := V.dense
  obtain ⟨ao, cap, rfl, hsh⟩ := own_shape hown
  obtain ⟨m, rfl⟩ := Int.eq_ofNat_of_zero_le c2.1
  have b1 : (m : Int) < (bound : Int) := c2.2
  by_cases hm : m < dn
  · have b2 : (m : Int) < (dn : Int) := by omega
    rcases hsh with h0 | ⟨gd, rfl, hgd, _⟩
    · omega
    · have hc := hown.cellAt m (by omega)
      have hl := hown.1
      simp at hl
      rw [List.getElem?_eq_getElem (by simp; omega)] at hc
      have hfz := hown.frozenAt m
      have hgr := (hown.stored m (.bool true)).2
      have V1 := (V.hit hm).mono (Nat.le_succ k)
      have HD : Hid (SetDone g B bound (k + 1) T (m : Int) w (w.setCell ⟨gd, m, none⟩ (.bool true))) := ⟨(Below.refl _ _).setCell (by simp; omega) _, _, _, _, (heap_setCell_other _ _ _ _ (show g ≠ gd by omega)).trans HG.out, V1⟩
      clear hT V hx V1 hgr hown
      go_enter Try.func17, Try.ntmps17
      go_wp2
      go_ret
      exact ⟨gd, m, rfl, ⟨_, hc⟩, hfz, HD.out⟩
  · obtain ⟨i4, hi4, hz40, hz41, hz42⟩ := info_parts Try.info4
    obtain ⟨j, rfl⟩ : ∃ j, m = dn + j := ⟨m - dn, by omega⟩
    have hl := hown.1
    simp at hl
    have hglt : g < w.heap.size := by omega
    have hdl := fun q hq => (hown.lt q hq)
    have V0 := V
    go_enter Try.func17, Try.ntmps17
    go_wp2_with fail
    go_region_law (refine step_append_zeros rfl (.tmp 52) (.tmp 60) 46 3 rfl B 4 .i64 i4 (.bool false) 1 Try.underlying46 Try.underlying3 hi4 hz40 hz41 hz42 rfl rfl (.slice ao dn cap) dn (Dl.map .bool) rfl hown _ (j + 1) rfl (wz _ _ (by omega)) (by omega) (by unfold maxLen; omega) (by omega) hB ?_; intro v' w1 hown' hgrow' hwhere; have hgrow : w.grownBy w1 (Value.slice ao dn cap).ownBlock := ⟨hgrow'.1, hgrow'.2, hgrow'.3, hgrow'.4, hgrow'.5⟩; clear hgrow'; have hs1 := hgrow.size; have HM : Hid (w1.heap[g]? = some (.cells #[.int .i64 bound, .slice ao dn cap, .map r] 49 (0, 0))) := ((hgrow.block g hglt (fun e => by have := (hdl g e.symm).1; omega)).trans HG.out); have s1 : w1.cell? ⟨g, 1, none⟩ = some (.slice ao dn cap) := (cell_of_row w1 _ 1 _ _ _ HM.out).trans rfl; have sf : w1.frozen? ⟨g, 1, none⟩ = false := frozen_of_row w1 _ 1 _ _ HM.out; have V1 := V0.grow (m := j + 1) Dl hT hl (by omega) hown' hgrow hwhere V0.denseCells; have hbl : Below g w w1 := ((Below.refl _ _).grown hgrow (by omega) (fun q hq => by have := (hdl q hq).1; omega)); obtain ⟨ao', cap', rfl, hsh'⟩ := own_shape hown'; clear hgrow hwhere)
    all_goals
      rcases hsh' with h0 | ⟨gd, rfl, hgd, _, _⟩
      · omega
      · have V2 : TabV (w1.setCell ⟨g, 1, none⟩ (.slice (some ⟨gd, 0, none⟩) (dn + (j + 1)) cap')) B bound k (.slice (some ⟨gd, 0, none⟩) (dn + (j + 1)) cap') (dn + (j + 1)) r T := V1.same (fun b hb _ => heap_setCell_other _ _ _ _ (show b ≠ g by omega))
        have hgne : gd ≠ g := by omega
        have hc : (w1.setCell ⟨g, 1, none⟩ (.slice (some ⟨gd, 0, none⟩) (dn + (j + 1)) cap')).cell? ⟨gd, dn + j, none⟩ = some (.bool false) := by
          rw [World.cell?_of_block (w := w1) (heap_setCell_other _ _ _ _ hgne), hown'.cellAt (dn + j) (by omega), List.getElem?_append_right (by simp; omega)]
          simp [hl]
        have hfz : (w1.setCell ⟨g, 1, none⟩ (.slice (some ⟨gd, 0, none⟩) (dn + (j + 1)) cap')).frozen? ⟨gd, dn + j, none⟩ = false := by
          rw [World.frozen?_of_block (w := w1) (heap_setCell_other _ _ _ _ hgne)]
          exact hown'.frozenAt (dn + j)
        have HD : Hid (SetDone g B bound (k + 1) T ((dn + j : Nat) : Int) w ((w1.setCell ⟨g, 1, none⟩ (.slice (some ⟨gd, 0, none⟩) (dn + (j + 1)) cap')).setCell ⟨gd, dn + j, none⟩ (.bool true))) := by
          refine ⟨(hbl.setCell (by simp) _).setCell (by simp; omega) _, _, _, _, ?_, (V2.hit (m := dn + j) (by omega)).mono (Nat.le_succ k)⟩
          rw [heap_setCell_other _ _ _ _ (show g ≠ gd by omega), heap_setCell_same w1 _ 1 _ _ _ HM.out]
          rfl
        have b2 : (dn : Int) + (j : Int) < ((dn + (j + 1) : Nat) : Int) := by omega
        clear V V0 V1 V2 hT hown hown' hdl hsh
        go_wp2
        go_ret
        exact ⟨gd, dn + j, rfl, ⟨_, hc⟩, hfz, HD.out⟩
end Go.Proofs.Qxb6627536a
