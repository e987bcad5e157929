import Derived.Test.Qxb6627536aAborted
namespace Go.Proofs.Qxb6627536a
open Go.ChangeShapes Go.WideShapes Go.ChangeAt Go.RowKit

/-- The operations whose transaction aborts nowhere in M. -/
def keepBy (M L : List Rec) : List Rec := L.filter (fun o => !aborts M o.txn)
theorem keepBy_no (M L : List Rec) (j : Nat) (h : j < L.length) (hn : aborts M (L.getD j r0).txn = true) : keepBy M (L.take (j + 1)) = keepBy M (L.take j) := by
  rw [take_snoc L r0 j h]
  unfold keepBy
  rw [List.filter_append, List.filter_cons, hn]
  simp
theorem keepBy_yes (M L : List Rec) (j : Nat) (h : j < L.length) (hn : aborts M (L.getD j r0).txn = false) : keepBy M (L.take (j + 1)) = keepBy M (L.take j) ++ [L.getD j r0] := by
  rw [take_snoc L r0 j h]
  unfold keepBy
  rw [List.filter_append, List.filter_cons, hn]
  simp
theorem keepBy_len (M L : List Rec) (j : Nat) : (keepBy M (L.take j)).length ≤ j := by
  unfold keepBy
  refine Nat.le_trans (List.length_filter_le _ _) ?_
  simp
  omega
theorem aborts_of_any (L : List Rec) (h : anyAb L = false) (x : Int) : aborts L x = false := by
  unfold anyAb at h
  unfold aborts
  rw [List.any_eq_false] at h ⊢
  intro o ho
  have := h o ho
  simp at this
  simp [this]
theorem keepBy_id (L : List Rec) (h : anyAb L = false) : keepBy L L = L := by
  unfold keepBy
  rw [List.filter_eq_self]
  intro o _
  simp [aborts_of_any L h]

/-- The new schedule, while it is filled. -/
structure CIn (W0 ws : World) (q : Nat) (v iv nv : Value) (M : List Rec) : Prop where
  blk : ws.heap[q]? = some (.cells #[v, iv, nv, .slice none 0 0] 33 (0, 0))
  own : ws.ownsRow W0.heap.size 42 8 v M.length (M.flatMap opCells)
  bel : Below W0.heap.size W0 ws
  ge : W0.heap.size ≤ q

theorem CIn.alloc {W0 ws : World} {q : Nat} {v iv nv : Value} {M : List Rec} (C : CIn W0 ws q v iv nv M) (o : Obj) : CIn W0 (ws.alloc o) q v iv nv M :=
  ⟨(Below.heap_alloc _ _ _ (Array.getElem?_eq_some_iff.1 C.blk).1).trans C.blk, C.own.alloc o, C.bel.alloc C.bel.size o, C.ge⟩
theorem CIn.mid {W0 ws w7 : World} {q : Nat} {v iv nv : Value} {M : List Rec} (C : CIn W0 ws q v iv nv M) (o : Obj) (hg : (ws.alloc o).grownBy w7 v.ownBlock) : w7.heap[q]? = some (.cells #[v, iv, nv, .slice none 0 0] 33 (0, 0)) := by
  have hq : q < ws.heap.size := (Array.getElem?_eq_some_iff.1 C.blk).1
  rw [hg.block q (by simp; omega) (fun e => ?_), Below.heap_alloc _ _ _ hq]
  · exact C.blk
  · rcases C.own.2 with ⟨rfl, _⟩ | ⟨g, cap, cur, rfl, _, hh, _⟩
    · simp [Value.ownBlock] at e
    · simp [Value.ownBlock] at e
      subst e
      rw [C.blk] at hh
      simp at hh
theorem CIn.step {W0 ws w7 : World} {q : Nat} {v v' iv nv : Value} {M : List Rec} {y : Rec} (C : CIn W0 ws q v iv nv M) (o : Obj) (hown : w7.ownsRow W0.heap.size 42 8 v' (M.length + 1) (M.flatMap opCells ++ opCells y)) (hg : (ws.alloc o).grownBy w7 v.ownBlock) :
    CIn W0 (w7.setCell ⟨q, 0, none⟩ v') q v' iv nv (M ++ [y]) := by
  have hmid := C.mid o hg
  have hsz := C.bel.size
  refine ⟨?_, ?_, ?_, C.ge⟩
  · rw [heap_setCell_same _ _ 0 _ _ _ hmid]
    rfl
  · have h1 : w7.ownsRow W0.heap.size 42 8 v' (M ++ [y]).length ((M ++ [y]).flatMap opCells) := by simpa using hown
    refine own_of_block h1 (fun g hg2 => heap_setCell_other _ _ _ _ (fun e => ?_))
    rcases h1.2 with ⟨rfl, _⟩ | ⟨g', cap, cur, rfl, _, hh, _⟩
    · simp [Value.ownBlock] at hg2
    · simp [Value.ownBlock] at hg2
      subst hg2
      simp at e
      subst e
      rw [hmid] at hh
      simp at hh
  · exact ((C.bel.alloc hsz o).grown hg (by simp; omega) (fun k hk => (C.own.lt k hk).1)).setCell C.ge _
theorem news8 {w : World} {y : Rec} {t : TypeId} : ∀ j u, (opCells y)[j]? = some u → (w.alloc (.cells (opCells y).toArray t)).cell? ((⟨w.heap.size, 0, none⟩ : Addr).add j) = some u := by
  intro j u hj
  rw [Addr.add_mid, Nat.zero_add, cell_of_row _ _ j _ _ _ (heap_alloc_new w _)]
  simpa using hj
/-- 'append' on a slice of the call's own, as one step of a region that draws. -/
theorem step_append_own {P : Program} {ops : Array Oper} {o : Oper} {a : Act} {w : World} {K : Act → World → Prop} {Q : Exit → Act → World → Prop} {E : Prop}
    (hg : o.guard = none) (s x : Operand) (t : TypeId) (ho : o.op = Op.call { callee := Callee.builtin Builtin.append, args := #[s, x], argTypes := #[t, t] })
    (base : Nat) (e : TypeId) (i : TypeInfo) (z : Value) (size bytes : Nat) (ht : P.underlying t = some (.slice e)) (hi : P.info? e = some i) (hz : i.zero = some z)
    (hsize : i.size = size) (hby : i.bytes = bytes) (hzs : z.cells.size = size) (hsz : 0 < size)
    (v : Value) (n : Nat) (xs : List Value) (hs : a.eval s = v) (hown : w.ownsRow base e size v n xs)
    (ad : Addr) (m c : Nat) (news : List Value) (hx : a.eval x = .slice (some ad) m c) (hl : news.length = m * size) (hnews : ∀ j u, news[j]? = some u → w.cell? (ad.add j) = some u) (h1 : ∀ u ∈ news, u.oneCell' = true)
    (h63 : n + m ≤ maxLen) (hbytes : (n + m) * bytes ≤ 140737488355328) (hbase : base ≤ w.heap.size)
    (h : ∀ v' w', w'.ownsRow base e size v' (n + m) (xs ++ news) → w.grownBy w' v.ownBlock → K (a.put o.dst v') w') :
    if Region.wanted o (yielded ops a.tmps) = true then Oper.wp P o a w K Q else E := by
  have hw : Region.wanted o (yielded ops a.tmps) = true := by simp [Region.wanted, hg]
  rw [if_pos hw]
  exact wp_append_own w s x t ho base e i z size bytes ht hi hz hsize hby hzs hsz v n xs hs hown ad m c news hx hl hnews h1 h63 hbytes hbase fun v' w' h2 h3 _ => h v' w' h2 h3
theorem flat_get (M : List Rec) (j i : Nat) (hj : j < M.length) (hi : i < 8) : (M.flatMap opCells)[j * 8 + i]? = (opCells (M.getD j r0))[i]? := by
  induction M generalizing j with
  | nil => simp at hj
  | cons x M ih =>
    rw [List.flatMap_cons]
    cases j with
    | zero => rw [List.getElem?_append_left (by rw [len8]; omega)]; simp
    | succ j =>
      rw [List.getElem?_append_right (by rw [len8]; omega), len8, show (j + 1) * 8 + i - 8 = j * 8 + i by omega, ih j (by simpa using hj)]
      simp
theorem ops_of_own {w : World} {B n cap : Nat} {a : Option Addr} {M : List Rec} (h : w.ownsRow B 42 8 (.slice a n cap) n (M.flatMap opCells)) (hn : M.length = n) : OpsAt w a n M := by
  refine ⟨hn, ?_⟩
  rcases h.2 with ⟨_, h0⟩ | ⟨g, cap', cur, e, _, hh, _⟩
  · exact .inl h0
  · simp at e
    obtain ⟨rfl, rfl⟩ := e
    refine .inr ⟨g, 0, rfl, (Array.getElem?_eq_some_iff.1 hh).1, fun j hj i u hu => ?_⟩
    have hi : i < 8 := by
      have := (List.getElem?_eq_some_iff.1 hu).1
      rwa [len8] at this
    have := h.cellAt (j * 8 + i) (by omega)
    rw [flat_get M j i (by omega) hi, hu] at this
    simpa using this
theorem CIn.ops {W0 ws : World} {q cap : Nat} {a : Option Addr} {iv nv : Value} {M : List Rec} (C : CIn W0 ws q (.slice a M.length cap) iv nv M) : OpsAt ws a M.length M := ops_of_own C.own rfl

set_option maxHeartbeats 2000000 in
set_option maxRecDepth 100000 in
theorem committed_any (p : Nat) (a : Option Addr) (n c : Nat) (ia : Option Addr) (im ic : Nat) (nm : Int) (L : List Rec) (w : World) (hp : w.heap[p]? = some (.cells #[.slice a n c, .slice ia im ic, .int .u8 nm, .slice none 0 0] 33 (0, 0))) (hs : OpsAt w a n L) (hok : OkOps L) (hn : n ≤ 20000) :
    Calls Try.prog 9 #[.pointer (some ⟨p, 0, none⟩)] w fun e w' => ∃ q a' n' c', e = .returned (.pointer (some ⟨q, 0, none⟩)) ∧ w'.heap[q]? = some (.cells #[.slice a' n' c', .slice ia im ic, .int .u8 nm, .slice none 0 0] 33 (0, 0)) ∧
      OpsAt w' a' n' (keepBy L L) ∧ Below w.heap.size w w' ∧ (anyAb L = false → q = p) := by
  have hl := hs.1
  have hplt : p < w.heap.size := (Array.getElem?_eq_some_iff.1 hp).1
  have HP : Hid (w.heap[p]? = some (.cells #[.slice a n c, .slice ia im ic, .int .u8 nm, .slice none 0 0] 33 (0, 0))) := hp
  go_enter Try.func9, Try.ntmps9
  go_wp2_with fail
  refine (aborted_any p a n c _ _ _ L _ hp hs hok hn).mono ?_
  rintro e w1 ⟨B, dv, dn, r, rfl, V, hb1⟩
  clear hp
  obtain ⟨Dl, hown, -⟩ := V.dense
  obtain ⟨ao, cap, rfl, -⟩ := own_shape hown
  clear hown Dl
  have hb2 : Below w.heap.size w (w1.alloc (.cells #[.int .i64 (bnd n), .slice ao dn cap, .map r] 49)) := hb1.alloc hb1.size _
  cases hany : anyAb L
  · go_wp2
    go_ret
    exact ⟨p, a, n, c, rfl, (hb2.block p hplt).trans HP.out, by rw [keepBy_id L hany]; exact hs.below hb2, hb2, fun _ => rfl⟩
  · have HT : Hid ((w1.alloc (.cells #[.int .i64 (bnd n), .slice ao dn cap, .map r] 49)).heap[w1.heap.size]? = some (.cells #[.int .i64 (bnd n), .slice ao dn cap, .map r] 49 (0, 0))) := heap_alloc_new _ _
    have V2 := V.below ((Below.refl w1.heap.size w1).alloc (Nat.le_refl _) (.cells #[.int .i64 (bnd n), .slice ao dn cap, .map r] 49))
    have HSZ : Hid (w1.heap.size < (w1.alloc (.cells #[.int .i64 (bnd n), .slice ao dn cap, .map r] 49)).heap.size) := by show _ < _; simp
    have kp0 : (w1.alloc (.cells #[.int .i64 (bnd n), .slice ao dn cap, .map r] 49)).cell? ⟨p, 0, none⟩ = some (.slice a n c) := (cell_of_row _ _ 0 _ _ _ ((hb2.block p hplt).trans HP.out)).trans rfl
    have hs2 := hs.below hb2
    clear V hb1 hs
    go_wp2_with fail
    generalize w1.heap.size = g at *
    generalize (w1.alloc (.cells #[.int .i64 (bnd n), .slice ao dn cap, .map r] 49)) = W2 at *
    go_loopw [5, 24] (fun kv i wr => ∃ j : Nat, j ≤ n ∧ i = .int .i64 j ∧ kv = .int .i64 ((keepBy L (L.take j)).length : Nat) ∧ Below W2.heap.size W2 wr) (fun _ i _ => n - (intOf i).toNat)
    case atStart => exact ⟨0, Nat.zero_le _, rfl, rfl, Below.refl _ _⟩
    case round =>
      obtain ⟨j, hj, rfl, rfl, hbel⟩ := hrel
      clear kp0
      have hkl := keepBy_len L L j
      by_cases hlt : j < n
      · rcases hs2.2 with h0 | ⟨b, o, rfl, hbw, hc⟩
        · omega
        · have hcj : OpAt wr b (o + j * 8) (L.getD j r0) := fun i u hu => (hbel.cell hbw).trans (hc j hlt i u hu)
          clear hc
          have hst := store_new wr (L.getD j r0)
          have hokj := hok.at j (by omega)
          have HN := fun h => keepBy_no L L j (by omega) h
          have HY := fun h => keepBy_yes L L j (by omega) h
          have HC : Hid ((wr.alloc (.cells (opCells (L.getD j r0)).toArray 42)).heap[wr.heap.size]? = some (.cells (opCells (L.getD j r0)).toArray 42 (0, 0))) := heap_alloc_new _ _
          have c5 : (wr.alloc (.cells (opCells (L.getD j r0)).toArray 42)).cell? ⟨wr.heap.size, 5, none⟩ = some (.int .i64 (L.getD j r0).txn) := (cell_of_row _ _ 5 _ _ _ HC.out).trans rfl
          generalize L.getD j r0 = y at *
          have bj : (j : Int) < (n : Int) := by omega
          have hbel1 : Below W2.heap.size W2 (wr.alloc (.cells (opCells y).toArray 42)) := hbel.alloc hbel.size _
          have A := at_any g y.txn _ B (bnd n) n (.slice ao dn cap) dn r (aborts L) hokj ((hbel1.block g HSZ.out).trans HT.out) (V2.below hbel1)
          clear hbel
          go_wp2_with (first
            | (refine wpList_load_mid rfl 42 (.tmp 26) rfl b (o + j * 8) rfl (opCells y) _ hcj Try.underlying42 rfl (size42 y) ?_))
          refine A.mono ?_
          rintro e w3 ⟨rfl, rfl⟩
          clear A
          cases hya : aborts L y.txn
          · have HK : Hid ((keepBy L (L.take (j + 1))).length = (keepBy L (L.take j)).length + 1) := by
              show _ = _
              rw [HY hya]; simp
            clear HN HY
            go_wp2
            go_roundw
            case rel => exact ⟨j + 1, by omega, by go_num, by rw [HK.out]; go_num, hbel1⟩
            case measure => simp [intOf]; omega
          · have HK : Hid ((keepBy L (L.take (j + 1))).length = (keepBy L (L.take j)).length) := by
              show _ = _
              rw [HN hya]
            clear HN HY
            go_wp2
            go_roundw
            case rel => exact ⟨j + 1, by omega, by go_num, by rw [HK.out], hbel1⟩
            case measure => simp [intOf]; omega
      · obtain ⟨i2, hi2, hz20, hz21, hz22⟩ := info_parts Try.info42
        have hb3 : Below w.heap.size w wr := hb2.trans (hbel.mono hb2.size)
        have kp1 : ∀ w', Below w.heap.size w w' → w'.cell? ⟨p, 1, none⟩ = some (.slice ia im ic) := fun w' h => (cell_of_row _ _ 1 _ _ _ ((h.block p hplt).trans HP.out)).trans rfl
        have kp2 : ∀ w', Below w.heap.size w w' → w'.cell? ⟨p, 2, none⟩ = some (.int .u8 nm) := fun w' h => (cell_of_row _ _ 2 _ _ _ ((h.block p hplt).trans HP.out)).trans rfl
        have kp10 := kp1 wr hb3
        have kp20 := kp2 wr hb3
        have hwsz := hb3.size
        generalize (keepBy L (L.take j)).length = kl at *
        obtain ⟨w4, hrun4, hown4, hgrow'⟩ := run_make_own (P := Try.prog) wr.drew wr.heap.size 26 42 i2 _ 8 Try.underlying26 hi2 hz20 hz21 .i64 .i64 kl (by rw [hz22]; omega) (by unfold maxLen; omega) (Nat.le_refl _)
        have hgrow4 : wr.grownBy w4 none := ⟨hgrow'.1, hgrow'.2, hgrow'.3, hgrow'.4, hgrow'.5⟩
        have hb4 : Below w.heap.size w w4 := hb3.grown hgrow4 hwsz (by simp)
        have kp11 := kp1 w4 hb4
        have kp21 := kp2 w4 hb4
        have hl4 : wr.heap.size < w4.heap.size := (hown4.lt wr.heap.size rfl).2
        clear hgrow' kp1 kp2
        go_wp2_with fail
        go_region
        have hq4 : wr.heap.size < (w4.alloc (.cells #[.slice (some ⟨wr.heap.size, 0, none⟩) 0 kl, .slice ia im ic, .int .u8 nm, .slice none 0 0] 33)).heap.size := by simp; omega
        have C0 : CIn wr (w4.alloc (.cells #[.slice (some ⟨wr.heap.size, 0, none⟩) 0 kl, .slice ia im ic, .int .u8 nm, .slice none 0 0] 33)) w4.heap.size (.slice (some ⟨wr.heap.size, 0, none⟩) 0 kl) (.slice ia im ic) (.int .u8 nm) [] :=
          ⟨heap_alloc_new _ _, hown4.alloc _, ((Below.refl _ _).grown hgrow4 (Nat.le_refl _) (by simp)).alloc (by omega) _, by omega⟩
        have kp3 : (w4.alloc (.cells #[.slice (some ⟨wr.heap.size, 0, none⟩) 0 kl, .slice ia im ic, .int .u8 nm, .slice none 0 0] 33)).cell? ⟨p, 0, none⟩ = some (.slice a n c) := (cell_of_row _ _ 0 _ _ _ (((hb4.alloc hb4.size _).block p hplt).trans HP.out)).trans rfl
        clear hown4 hgrow4 hrun4 kp11 kp21 kp10 kp20 hq4
        generalize w4.heap.size = q at *
        generalize (w4.alloc (.cells #[.slice (some ⟨wr.heap.size, 0, none⟩) 0 kl, .slice ia im ic, .int .u8 nm, .slice none 0 0] 33)) = W5 at *
        go_wp2_with fail
        obtain ⟨wo, hwo⟩ : ∃ x, x = wr := ⟨_, rfl⟩
        subst hwo
        clear hkl hj hlt
        go_loopw [52] (fun i ws => ∃ (j : Nat) (v : Value), j ≤ n ∧ i = .int .i64 j ∧ CIn wo ws q v (.slice ia im ic) (.int .u8 nm) (keepBy L (L.take j))) (fun i _ => n - (intOf i).toNat)
        case atStart => exact ⟨0, _, Nat.zero_le _, rfl, C0⟩
        case round =>
          obtain ⟨i, v, hi, rfl, C⟩ := hrel
          clear C0 kp3
          have hkl := keepBy_len L L i
          by_cases hlt : i < n
          · have hbw2 : Below W2.heap.size W2 wr := hbel.trans (C.bel.mono hbel.size)
            rcases hs2.2 with h0 | ⟨b, o, rfl, hbw, hc⟩
            · omega
            · have hcj : OpAt wr b (o + i * 8) (L.getD i r0) := fun k u hu => (hbw2.cell hbw).trans (hc i hlt k u hu)
              clear hc
              have hst := store_new wr (L.getD i r0)
              have hokj := hok.at i (by omega)
              have HN := fun h => keepBy_no L L i (by omega) h
              have HY := fun h => keepBy_yes L L i (by omega) h
              have HC : Hid ((wr.alloc (.cells (opCells (L.getD i r0)).toArray 42)).heap[wr.heap.size]? = some (.cells (opCells (L.getD i r0)).toArray 42 (0, 0))) := heap_alloc_new _ _
              have c5 : (wr.alloc (.cells (opCells (L.getD i r0)).toArray 42)).cell? ⟨wr.heap.size, 5, none⟩ = some (.int .i64 (L.getD i r0).txn) := (cell_of_row _ _ 5 _ _ _ HC.out).trans rfl
              generalize L.getD i r0 = y at *
              have bj : (i : Int) < (n : Int) := by omega
              have hbel1 : Below W2.heap.size W2 (wr.alloc (.cells (opCells y).toArray 42)) := hbw2.alloc hbw2.size _
              have A := at_any g y.txn _ B (bnd n) n (.slice ao dn cap) dn r (aborts L) hokj ((hbel1.block g HSZ.out).trans HT.out) (V2.below hbel1)
              have C1 : CIn wo (wr.alloc (.cells (opCells y).toArray 42)) q v (.slice ia im ic) (.int .u8 nm) (keepBy L (L.take i)) := C.alloc _
              clear hbw2 hbel1 C
              go_wp2_with (first
                | (refine wpList_load_mid rfl 42 (.tmp 54) rfl b (o + i * 8) rfl (opCells y) _ hcj Try.underlying42 rfl (size42 y) ?_))
              refine A.mono ?_
              rintro e w6 ⟨rfl, rfl⟩
              clear A hst hcj
              cases hya : aborts L y.txn
              · have HK : Hid (keepBy L (L.take (i + 1)) = keepBy L (L.take i) ++ [y]) := HY hya
                clear HN HY
                have hld : OpAt (wr.alloc (.cells (opCells y).toArray 42)) wr.heap.size 0 y := fun k u hu => by
                  rw [Nat.zero_add, cell_of_row _ _ k _ _ _ HC.out]
                  simpa using hu
                obtain ⟨av, cv, rfl, -⟩ := own_shape C1.own
                have s0 : (wr.alloc (.cells (opCells y).toArray 42)).cell? ⟨q, 0, none⟩ = some (.slice av (keepBy L (L.take i)).length cv) := (cell_of_row _ _ 0 _ _ _ C1.blk).trans rfl
                generalize (wr.alloc (.cells (opCells y).toArray 42)) = ws at *
                have d0 : ws.cell? ⟨wr.heap.size, 0, none⟩ = some (.int .u8 y.act) := hld 0 _ rfl
                have d1 : ws.cell? ⟨wr.heap.size, 1, none⟩ = some (.bool y.up) := hld 1 _ rfl
                have d2 : ws.cell? ⟨wr.heap.size, 2, none⟩ = some (.int .u8 y.asg) := hld 2 _ rfl
                have d3 : ws.cell? ⟨wr.heap.size, 3, none⟩ = some (.int .u8 y.sp) := hld 3 _ rfl
                have d4 : ws.cell? ⟨wr.heap.size, 4, none⟩ = some (.int .u8 y.cap) := hld 4 _ rfl
                have d5 : ws.cell? ⟨wr.heap.size, 5, none⟩ = some (.int .i64 y.txn) := hld 5 _ rfl
                have d6 : ws.cell? ⟨wr.heap.size, 6, none⟩ = some (.int .i64 y.item) := hld 6 _ rfl
                have d7 : ws.cell? ⟨wr.heap.size, 7, none⟩ = some (.int .i64 y.opd) := hld 7 _ rfl
                clear hld
                have hqlt : q < ws.heap.size := (Array.getElem?_eq_some_iff.1 C1.blk).1
                have hLen : (keepBy L (L.take i)).length ≤ 20000 := by omega
                have hgeq := C1.bel.size
                have s01 : ∀ o, (ws.alloc o).cell? ⟨q, 0, none⟩ = some (.slice av (keepBy L (L.take i)).length cv) := fun o => (World.cell?_alloc_past _ _ _ hqlt).trans s0
                go_wp2_with fail
                go_region_law (refine step_append_own rfl (.tmp 64) (.tmp 66) 26 rfl wo.heap.size 42 i2 _ 8 32 Try.underlying26 hi2 hz20 hz21 hz22 rfl (by decide) (.slice av (keepBy L (L.take i)).length cv) (keepBy L (L.take i)).length ((keepBy L (L.take i)).flatMap opCells) rfl (World.ownsRow.alloc (w := ws.drew) C1.own _) ⟨ws.heap.size, 0, none⟩ 1 1 (opCells y) rfl rfl (news8 (w := ws.drew) (t := 42)) (oneCells y) (by unfold maxLen; omega) (by omega) (by have := C1.bel.size; simp; omega) ?_; intro v' w7 hown7 hgrow7'; have hgrow7 : (ws.alloc (.cells (opCells y).toArray 42)).grownBy w7 (Value.slice av (keepBy L (L.take i)).length cv).ownBlock := ⟨hgrow7'.1, hgrow7'.2, hgrow7'.3, hgrow7'.4, hgrow7'.5⟩; clear hgrow7'; have hmid := C1.mid _ hgrow7; have m0 : w7.cell? ⟨q, 0, none⟩ = some (.slice av (keepBy L (L.take i)).length cv) := (cell_of_row w7 _ 0 _ _ _ hmid).trans rfl; have mf : w7.frozen? ⟨q, 0, none⟩ = false := frozen_of_row w7 _ 0 _ _ hmid; have C7 := C1.step _ hown7 hgrow7; obtain ⟨ao', cap', rfl, -⟩ := own_shape hown7; clear hown7 hgrow7 hmid)
                all_goals
                  go_wp2
                  go_roundw
                  case rel => exact ⟨i + 1, _, by omega, by go_num, by rw [HK.out]; exact C7⟩
                  case measure => simp [intOf]; omega
              · have HK : Hid (keepBy L (L.take (i + 1)) = keepBy L (L.take i)) := HN hya
                clear HN HY
                go_wp2
                go_roundw
                case rel => exact ⟨i + 1, v, by omega, by go_num, by rw [HK.out]; exact C1⟩
                case measure => simp [intOf]; omega
          · have hL : L.take i = L := List.take_of_length_le (by omega)
            obtain ⟨av, cv, rfl, -⟩ := own_shape C.own
            rw [hL] at C
            go_wp2
            go_ret
            refine ⟨q, _, _, _, rfl, C.blk, ?_, hb3.trans (C.bel.mono hb3.size), fun h => by rw [hany] at h; simp at h⟩
            exact C.ops
end Go.Proofs.Qxb6627536a
