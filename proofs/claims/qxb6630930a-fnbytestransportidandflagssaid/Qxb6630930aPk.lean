import Derived.Test.Qxb6630930aBytes
import Derived.StillTailTactics
namespace Go.Proofs.Qxb6630930a
/-- One operation whose run is known: the walk goes on. -/
theorem wpList_val {P : Program} {ops : Array Oper} {rest : List Oper} {o : Oper} {a : Act} {w : World} {Q : Exit → Act → World → Prop} (hgd : o.guard = none) (v : Value)
    (hrun : (execOp a.eval o).run P w = .ok (.value v) w) (h : wpList P ops Q rest (a.put o.dst v) w) : wpList P ops Q (o :: rest) a w :=
  wpList_plain hgd fun K hK => by
    unfold Oper.wp
    rw [hrun]
    exact hK _ _ h
theorem wpList_buildOf {P : Program} {ops : Array Oper} {rest : List Oper} {o : Oper} {a : Act} {w : World} {Q : Exit → Act → World → Prop} (hgd : o.guard = none) (ty : TypeId) (parts : Array (Nat × Operand)) (ho : o.op = .build ty parts)
    (ps : Array (Nat × Value)) (hps : (parts.map fun (i, x) => (i, a.eval x)) = ps) (v : Value) (hrun : (Instr.build ty ps).run P w = .ok v w) (h : wpList P ops Q rest (a.put o.dst v) w) : wpList P ops Q (o :: rest) a w :=
  wpList_val hgd v (by unfold execOp; simp only [ho, hps, Sem.run_bind, hrun, Result.andThen_ok, Sem.run_pure]) h
theorem wpStill_val {P : Program} {ops : Array Oper} {rest : List Oper} {o : Oper} {a : Act} {w : World} {Q : Act → Prop} (hgd : o.guard = none) (v : Value)
    (hrun : (execOp a.eval o).run P w = .ok (.value v) w) (h : wpStill P ops w Q rest (a.put o.dst v)) : wpStill P ops w Q (o :: rest) a := by
  refine wpStill_step fun K hK => ?_
  simp only [Region.wanted, hgd, if_true]
  unfold Oper.still
  rw [hrun]
  exact ⟨rfl, hK _ h⟩
open Go.ChangeShapes Go.WideShapes Go.ChangeAt Go.RowKit

theorem wpStill_load_row {P : Program} {ops : Array Oper} {rest : List Oper} {o : Oper} {a : Act} {w : World} {Q : Act → Prop} (hgd : o.guard = none) (ty : TypeId) (x : Operand) (ho : o.op = .load ty x)
    (g : Nat) (hx : a.eval x = .pointer (some ⟨g, 0, none⟩)) (t : TypeId) (cs : Array Value) (fr : Nat × Nat) (d : TypeDesc) (hg : w.heap[g]? = some (.cells cs t fr))
    (hu : P.underlying ty = some d) (hd : (match d with | .struct _ | .array _ _ => true | _ => false) = true) (hi : (P.info? ty).map (·.size) = some cs.size)
    (h : wpStill P ops w Q rest (a.put o.dst (.agg cs))) : wpStill P ops w Q (o :: rest) a :=
  wpStill_val hgd (.agg cs) (by
    unfold execOp
    simp only [ho, hx, Instr.loadAt, Instr.sureAddr, Sem.run_bind, Sem.run_pure, Result.andThen_ok, run_loadVar_row w g t ty cs fr d hg hu hd hi]) h
theorem wpStill_buildOf {P : Program} {ops : Array Oper} {rest : List Oper} {o : Oper} {a : Act} {w : World} {Q : Act → Prop} (hgd : o.guard = none) (ty : TypeId) (parts : Array (Nat × Operand)) (ho : o.op = .build ty parts)
    (ps : Array (Nat × Value)) (hps : (parts.map fun (i, x) => (i, a.eval x)) = ps) (v : Value) (hrun : (Instr.build ty ps).run P w = .ok v w) (h : wpStill P ops w Q rest (a.put o.dst v)) : wpStill P ops w Q (o :: rest) a :=
  wpStill_val hgd v (by unfold execOp; simp only [ho, hps, Sem.run_bind, hrun, Result.andThen_ok, Sem.run_pure]) h

def arr (l : List Int) : Array Value := (l.map (Value.int .u8)).toArray
def pk (t dt pr : Int) (cf : Bool) (hops : Int) (ht : Bool) (tid dst : List Int) (ctx : Int) (sl : Value) : Array Value :=
  #[.int .u8 t, .int .u8 dt, .int .u8 pr, .bool cf, .int .u8 hops, .bool ht] ++ arr tid ++ arr dst ++ #[.int .u8 ctx, sl]

theorem list16 {l : List Int} (h : l.length = 16) : ∃ x0 x1 x2 x3 x4 x5 x6 x7 x8 x9 x10 x11 x12 x13 x14 x15, l = [x0, x1, x2, x3, x4, x5, x6, x7, x8, x9, x10, x11, x12, x13, x14, x15] := by
  match l, h with
  | [x0, x1, x2, x3, x4, x5, x6, x7, x8, x9, x10, x11, x12, x13, x14, x15], _ => exact ⟨x0, x1, x2, x3, x4, x5, x6, x7, x8, x9, x10, x11, x12, x13, x14, x15, rfl⟩

theorem run_build (t dt pr : Int) (cf : Bool) (hops : Int) (ht : Bool) (tid dst : List Int) (ctx : Int) (a : Option Addr) (len cap : Nat) (w : World) (h1 : tid.length = 16) (h2 : dst.length = 16) :
    (Instr.build 30 #[(0, .int .u8 t), (1, .int .u8 dt), (2, .int .u8 pr), (3, .bool cf), (4, .int .u8 hops), (5, .bool ht), (6, .agg (arr tid)), (7, .agg (arr dst)), (8, .int .u8 ctx), (9, .slice a len cap)]).run Try.prog w
      = .ok (.agg (pk t dt pr cf hops ht tid dst ctx (.slice a len cap))) w := by
  obtain ⟨x0, x1, x2, x3, x4, x5, x6, x7, x8, x9, x10, x11, x12, x13, x14, x15, rfl⟩ := list16 h1
  obtain ⟨y0, y1, y2, y3, y4, y5, y6, y7, y8, y9, y10, y11, y12, y13, y14, y15, rfl⟩ := list16 h2
  kernel_rfl

def pkParts (t dt pr : Int) (cf : Bool) (hops : Int) (ht : Bool) (tid dst : List Int) (ctx : Int) (sl : Value) : Array (Nat × Value) :=
  #[(0, .int .u8 t), (1, .int .u8 dt), (2, .int .u8 pr), (3, .bool cf), (4, .int .u8 hops), (5, .bool ht), (6, .agg (arr tid)), (7, .agg (arr dst)), (8, .int .u8 ctx), (9, sl)]
theorem run_build' (t dt pr : Int) (cf : Bool) (hops : Int) (ht : Bool) (tid dst : List Int) (ctx : Int) (a : Option Addr) (len cap : Nat) (w : World) (h1 : tid.length = 16) (h2 : dst.length = 16) :
    (Instr.build 30 (pkParts t dt pr cf hops ht tid dst ctx (.slice a len cap))).run Try.prog w = .ok (.agg (pk t dt pr cf hops ht tid dst ctx (.slice a len cap))) w := run_build t dt pr cf hops ht tid dst ctx a len cap w h1 h2

theorem pk_cell {w : World} {g : Nat} {t dt pr : Int} {cf : Bool} {hops : Int} {ht : Bool} {tid dst : List Int} {ctx : Int} {sl : Value} (h1 : tid.length = 16) (h2 : dst.length = 16)
    (hg : w.heap[g]? = some (.cells (pk t dt pr cf hops ht tid dst ctx sl) 30 (0, 0))) :
    w.cell? ⟨g, 0, none⟩ = some (.int .u8 t) ∧ w.cell? ⟨g, 1, none⟩ = some (.int .u8 dt) ∧ w.cell? ⟨g, 2, none⟩ = some (.int .u8 pr) ∧ w.cell? ⟨g, 3, none⟩ = some (.bool cf) ∧
    w.cell? ⟨g, 4, none⟩ = some (.int .u8 hops) ∧ w.cell? ⟨g, 5, none⟩ = some (.bool ht) ∧ (∀ j, j < 16 → w.cell? ⟨g, 6 + j, none⟩ = some (.int .u8 (tid.getD j 0))) ∧
    (∀ j, j < 16 → w.cell? ⟨g, 22 + j, none⟩ = some (.int .u8 (dst.getD j 0))) ∧ w.cell? ⟨g, 38, none⟩ = some (.int .u8 ctx) ∧ w.cell? ⟨g, 39, none⟩ = some sl := by
  have hc : ∀ j, w.cell? ⟨g, j, none⟩ = (pk t dt pr cf hops ht tid dst ctx sl)[j]? := fun j => cell_of_row w g j _ 30 (0, 0) hg
  have hp : ∀ j : Nat, (pk t dt pr cf hops ht tid dst ctx sl)[j]? = ([.int .u8 t, .int .u8 dt, .int .u8 pr, .bool cf, .int .u8 hops, .bool ht] ++ (tid.map (Value.int .u8) ++ (dst.map (Value.int .u8) ++ [.int .u8 ctx, sl])))[j]? := by
    intro j
    simp [pk, arr]
  refine ⟨by rw [hc, hp]; rfl, by rw [hc, hp]; rfl, by rw [hc, hp]; rfl, by rw [hc, hp]; rfl, by rw [hc, hp]; rfl, by rw [hc, hp]; rfl, fun j hj => ?_, fun j hj => ?_, ?_, ?_⟩
  · rw [hc, hp, List.getElem?_append_right (by simp), List.getElem?_append_left (by simp; omega)]
    simp [show j < tid.length by omega]
  · rw [hc, hp, List.getElem?_append_right (by simp; omega), List.getElem?_append_right (by simp; omega), List.getElem?_append_left (by simp; omega)]
    simp [h1, show 22 + j - 6 - 16 = j by omega, show j < dst.length by omega]
  · rw [hc, hp, List.getElem?_append_right (by simp), List.getElem?_append_right (by simp; omega), List.getElem?_append_right (by simp; omega)]
    simp [h1, h2]
  · rw [hc, hp, List.getElem?_append_right (by simp), List.getElem?_append_right (by simp; omega), List.getElem?_append_right (by simp; omega)]
    simp [h1, h2]

theorem arr_size {l : List Int} (h : l.length = 16) : (arr l).size = 16 := by simp [arr, h]
theorem run_load22 {w : World} {g : Nat} {l : List Int} (h : l.length = 16) (hg : w.heap[g]? = some (.cells (arr l) 22 (0, 0))) :
    (loadVar 22 ⟨g, 0, none⟩).run Try.prog w = .ok (.agg (arr l)) w :=
  run_loadVar_row w g 22 22 (arr l) (0, 0) _ hg Try.underlying22 rfl (by rw [arr_size h]; kernel_rfl)

/-- What the walk is told of 'data'. -/
def DataAt (w : World) (a : Option Addr) (len cap : Nat) (zs : List Int) : Prop :=
  len ≤ zs.length ∧ (a = none → len = 0 ∧ cap = 0) ∧ (∀ ad, a = some ad → 0 < len → ad.block < w.heap.size) ∧ (∀ ad, a = some ad → ∀ j, j < len → w.cell? (ad.add j) = some (.int .u8 (zs.getD j 0)))
theorem DataAt.below {B : Nat} {w w' : World} {a : Option Addr} {len cap : Nat} {zs : List Int} (h : DataAt w a len cap zs) (hb : Below B w w') (hB : w.heap.size ≤ B) : DataAt w' a len cap zs :=
  ⟨h.1, h.2.1, fun ad e h0 => Nat.lt_of_lt_of_le (h.2.2.1 ad e h0) hb.size, fun ad e j hj => by
    rw [hb.cell (by have := h.2.2.1 ad e (by omega); have e2 : (ad.add j).block = ad.block := by unfold Addr.add; split <;> rfl
                    omega)]
    exact h.2.2.2 ad e j hj⟩
theorem DataAt.cut {w : World} {a : Option Addr} {len cap k : Nat} {zs : List Int} (h : DataAt w a len cap zs) (hk : k ≤ len) (hc : a = none → cap = 0) : DataAt w a k cap zs :=
  ⟨by have := h.1; omega, fun e => ⟨by have := (h.2.1 e).1; omega, hc e⟩, fun ad e h0 => h.2.2.1 ad e (by omega), fun ad e j hj => h.2.2.2 ad e j (by omega)⟩

theorem head_length (t dt pr : Int) (cf : Bool) (hops : Int) (ht : Bool) (tid dst : List Int) (ctx : Int) (h1 : tid.length = 16) (h2 : dst.length = 16) : (head t dt pr cf hops ht tid dst ctx).length = headLen ht := by
  cases ht <;> simp [head, headLen, h1, h2]

theorem bytes_row (b : Nat) (t dt pr : Int) (cf : Bool) (hops : Int) (ht : Bool) (tid dst : List Int) (ctx : Int) (a : Option Addr) (len cap : Nat) (zs : List Int) (w : World)
    (t0 : 0 ≤ t) (t1 : t ≤ 255) (d0 : 0 ≤ dt) (d1 : dt ≤ 255) (p0 : 0 ≤ pr) (p1 : pr ≤ 255) (hl : len ≤ 1048576)
    (htid : tid.length = 16) (hdst : dst.length = 16) (hg : w.heap[b]? = some (.cells (pk t dt pr cf hops ht tid dst ctx (.slice a len cap)) 30 (0, 0))) (hd : DataAt w a len cap zs) :
    Calls Try.prog 6 #[.pointer (some ⟨b, 0, none⟩)] w fun e w' => ∃ g, e = .returned (.slice (some ⟨g, 0, none⟩) (headLen ht + len) (headLen ht + len)) ∧ w.heap.size ≤ g ∧ g < w'.heap.size ∧
      (∀ j, j < headLen ht + len → w'.cell? ⟨g, j, none⟩ = some (.int .u8 ((head t dt pr cf hops ht tid dst ctx ++ zs.take len).getD j 0))) ∧ Below w.heap.size w w' := by
  obtain ⟨c0, c1, c2, c3, c4, c5, c6, c22, c38, c39⟩ := pk_cell htid hdst hg
  refine (bytes_any b t dt pr cf hops ht tid dst ctx a len cap zs w t0 t1 d0 d1 p0 p1 hl (Array.getElem?_eq_some_iff.1 hg).1 htid hdst c0 c1 c2 c3 c4 c5 c38 c39 c6 c22 hd.2.1 hd.1 hd.2.2.1 hd.2.2.2).mono ?_
  rintro e w' ⟨g, rfl, hgs, hown, hb⟩
  refine ⟨g, rfl, hgs, (hown.lt g rfl).2, fun j hj => ?_, hb⟩
  rw [hown.cellAt j (by omega)]
  have hlen : j < (head t dt pr cf hops ht tid dst ctx ++ zs.take len).length := by
    rw [List.length_append, head_length _ _ _ _ _ _ _ _ _ htid hdst, List.length_take]; have := hd.1; omega
  rw [List.getElem?_map, List.getElem?_eq_getElem hlen]
  simp [List.getD, List.getElem?_eq_getElem hlen]

set_option maxHeartbeats 400000 in
theorem zz5_yes (t dt pr : Int) (cf : Bool) (hops : Int) (ht : Bool) (A B : Array Value) (ctx : Int) (a : Option Addr) (len cap : Nat) (k : Int) (w : World) (hl : len ≤ 1048576) :
    Calls Try.prog 5 #[.int .u8 t, .int .u8 dt, .int .u8 pr, .bool cf, .int .u8 hops, .bool ht, .agg A, .agg B, .int .u8 ctx, .slice a len cap, .int .i64 k] w
      fun e w' => e = .returned (.bool true) ∧ Below w.heap.size w w' := by
  go_enter Try.func5, Try.ntmps5
  go_wp2
  go_ret
  exact ⟨rfl, ((Below.refl _ _).alloc (Nat.le_refl _) _).alloc (by simp) _⟩
set_option maxHeartbeats 400000 in
theorem zz5_no (t dt pr : Int) (cf : Bool) (hops : Int) (ht : Bool) (A B : Array Value) (ctx : Int) (a : Option Addr) (len cap : Nat) (k : Int) (w : World) (hl : 1048576 < len) :
    Calls Try.prog 5 #[.int .u8 t, .int .u8 dt, .int .u8 pr, .bool cf, .int .u8 hops, .bool ht, .agg A, .agg B, .int .u8 ctx, .slice a len cap, .int .i64 k] w
      fun e w' => e = .returned (.bool false) ∧ Below w.heap.size w w' := by
  go_enter Try.func5, Try.ntmps5
  go_wp2
  go_ret
  exact ⟨rfl, ((Below.refl _ _).alloc (Nat.le_refl _) _).alloc (by simp) _⟩
end Go.Proofs.Qxb6630930a
