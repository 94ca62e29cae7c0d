/- Part 1 of the proof of FnGjFlattenText: the statement Rows.FnGjFlattenTextCardSaid; no further condition. -/
import Derived.Test.YtelonenjneonlaaGreatDoorQ00
import Derived.Great.BuildSlice
import Derived.Laws.BytesString
import Derived.Laws.Entries
import Derived.Laws.MakeOwn
import Derived.Laws.Rows
import Derived.Laws.Tables
import Derived.Lib.AppendStr
import Derived.Lib.ConvBytes
import Derived.Maps.AppendAt
import Derived.Test.YtelonenjneonlaaGreatDoorProg
set_option linter.all false
namespace Go.Sx
open Go.RowKit Go.Proofs.YtelonenjneonlaaGreatDoorW.PrintWords
abbrev Bk := Nat × TypeId × List Value
structure Mem (B : Nat) (w0 : World) (L : List Bk) (w : World) : Prop where
  below : Below B w0 w
  base : B ≤ w.heap.size
  held : ∀ x ∈ L, B ≤ x.1 ∧ w.heap[x.1]? = some (.cells x.2.2.toArray x.2.1 (0, 0))
  apart : L.Pairwise (fun x y => x.1 ≠ y.1)
theorem Mem.start {B : Nat} {w : World} (h : B ≤ w.heap.size) : Mem B w [] w := ⟨Below.refl _ _, h, by simp, .nil⟩
theorem Mem.alloc {B : Nat} {w0 w : World} {L : List Bk} (h : Mem B w0 L w) (t : TypeId) (vs : List Value) : Mem B w0 ((w.heap.size, t, vs) :: L) (w.alloc (.cells vs.toArray t (0, 0))) := by
  refine ⟨h.below.alloc h.base _, by simp; have := h.base; omega, ?_, ?_⟩
  · intro x hx
    rcases List.mem_cons.1 hx with rfl | hx
    · exact ⟨h.base, blk_new _ _⟩
    · exact ⟨(h.held x hx).1, blk_alloc (h.held x hx).2 _⟩
  · refine List.pairwise_cons.2 ⟨fun x hx => ?_, h.apart⟩
    have := blk_lt (h.held x hx).2
    omega
theorem Mem.blk {B : Nat} {w0 w : World} {L : List Bk} (h : Mem B w0 L w) {k b : Nat} {t : TypeId} {vs : List Value} (hk : L[k]? = some (b, t, vs)) : B ≤ b ∧ w.heap[b]? = some (.cells vs.toArray t (0, 0)) :=
  h.held _ (List.mem_of_getElem? hk)
theorem Mem.drop {B : Nat} {w0 w : World} {L L' : List Bk} (h : Mem B w0 L w) (hs : L'.Sublist L) : Mem B w0 L' w :=
  ⟨h.below, h.base, fun x hx => h.held x (hs.subset hx), h.apart.sublist hs⟩
theorem Mem.step {B : Nat} {w0 w w' : World} {L : List Bk} (h : Mem B w0 L w) (hb : Below w.heap.size w w') : Mem B w0 L w' :=
  ⟨h.below.trans (hb.mono h.base), Nat.le_trans h.base hb.size, fun x hx => ⟨(h.held x hx).1, blk_below (h.held x hx).2 hb⟩, h.apart⟩
theorem Mem.drew {B : Nat} {w0 w : World} {L : List Bk} (h : Mem B w0 L w) : Mem B w0 L w.drew := ⟨h.below.drew, h.base, h.held, h.apart⟩
theorem apart_ne {L : List Bk} (h : L.Pairwise (fun x y => x.1 ≠ y.1)) {k j : Nat} {x y : Bk} (hk : L[k]? = some x) (hj : L[j]? = some y) (hne : k ≠ j) : x.1 ≠ y.1 := by
  obtain ⟨h1, e1⟩ := List.getElem?_eq_some_iff.1 hk
  obtain ⟨h2, e2⟩ := List.getElem?_eq_some_iff.1 hj
  subst e1; subst e2
  rcases Nat.lt_or_gt_of_ne hne with hl | hl
  · exact List.pairwise_iff_getElem.1 h k j h1 h2 hl
  · exact fun e => List.pairwise_iff_getElem.1 h j k h2 h1 hl e.symm
theorem Mem.turn {B : Nat} {w0 w w' : World} {L : List Bk} (h : Mem B w0 L w) {k b : Nat} {t : TypeId} {vs us : List Value} (hk : L[k]? = some (b, t, vs))
    (hb : Below B w w') (hsz : w.heap.size ≤ w'.heap.size) (hnew : w'.heap[b]? = some (.cells us.toArray t (0, 0))) (hold : ∀ g, g < w.heap.size → g ≠ b → w'.heap[g]? = w.heap[g]?) : Mem B w0 (L.set k (b, t, us)) w' := by
  have hkl : k < L.length := (List.getElem?_eq_some_iff.1 hk).1
  have hB := (h.blk hk).1
  refine ⟨h.below.trans hb, Nat.le_trans h.base hsz, ?_, ?_⟩
  · intro x hx
    obtain ⟨j, hj⟩ := List.mem_iff_getElem?.1 hx
    rw [List.getElem?_set] at hj
    split at hj
    · subst_vars
      simp only [hkl, if_true, Option.some.injEq] at hj
      subst hj
      exact ⟨hB, hnew⟩
    · have hm := h.held x (List.mem_of_getElem? hj)
      have hne : x.1 ≠ b := apart_ne h.apart hj hk (by omega)
      exact ⟨hm.1, (hold _ (blk_lt hm.2) hne).trans hm.2⟩
  · rw [List.pairwise_iff_getElem]
    intro i j hi hj hij
    rw [List.length_set] at hi hj
    have e : ∀ (m : Nat) (hm : m < L.length), ((L.set k (b, t, us))[m]'(by rw [List.length_set]; exact hm)).1 = (L[m]'hm).1 := by
      intro m hm
      rw [List.getElem_set]
      split
      · subst_vars
        have := (List.getElem?_eq_some_iff.1 hk).2
        rw [this]
      · rfl
    rw [e i hi, e j hj]
    exact List.pairwise_iff_getElem.1 h.apart i j hi hj hij
theorem Mem.set {B : Nat} {w0 w : World} {L : List Bk} (h : Mem B w0 L w) {k b : Nat} {t : TypeId} {vs : List Value} (hk : L[k]? = some (b, t, vs)) (i : Nat) (u : Value) : Mem B w0 (L.set k (b, t, vs.set i u)) (w.setCell ⟨b, i, none⟩ u) := by
  refine h.turn hk ((Below.refl _ _).setCell (h.blk hk).1 _) (by simp) ?_ (fun g _ hne => Below.heap_setCell _ _ _ _ hne)
  have := blk_set (h.blk hk).2 i u
  rw [this]
  simp
section
variable {P : Program} {n : Nat} {K : List (Nat × Value)} {a : Act} {w : World} {Q : Exit → Act → World → Prop}
variable {ops : Array Oper} {rest : List Oper} {o : Oper} {B : Nat} {w0 : World} {L : List Bk}
theorem gives_fieldAddr (hF : Fr n K a) {x : Operand} {t : TypeId} {f b j : Nat} (off : Nat) (hop : o.op = .fieldAddr t x f) (hx : ev K x = some (.pointer (some ⟨b, j, none⟩)))
    (hr : ∀ ad w, (Instr.fieldAt t (.pointer (some ad)) f).run P w = .ok (.pointer (some (ad.add off))) w) (w : World) : (execOp a.eval o).run P w = .ok (.value (.pointer (some ⟨b, j + off, none⟩))) w := by
  have e := hr ⟨b, j, none⟩ w
  have hadd : (⟨b, j, none⟩ : Addr).add off = ⟨b, j + off, none⟩ := by unfold Addr.add; split <;> simp_all
  rw [hadd] at e
  simp only [execOp, hop, hF.ev hx]
  simp [e]
theorem gives_load (hF : Fr n K a) (hM : Mem B w0 L w) {x : Operand} {t t0 : TypeId} {u : TypeDesc} {b j : Nat} {vs : List Value} {v : Value} (k : Nat) (hop : o.op = .load t x) (hT : P.underlying t = some u) (hu : plainB u = true)
    (hx : ev K x = some (.pointer (some ⟨b, j, none⟩))) (hk : L[k]? = some (b, t0, vs)) (hv : vs[j]? = some v) : (execOp a.eval o).run P w = .ok (.value v) w := by
  have hc : w.cell? ⟨b, j, none⟩ = some v := by rw [blk_cell (hM.blk hk).2]; simpa using hv
  have e : (isAgg t).run P w = .ok false w := by
    have h1 := run_underlying (P := P) (w := w) hT
    unfold isAgg
    simp only [Sem.run_bind, h1, Result.andThen_ok]
    cases u <;> first | rfl | (simp [plainB] at hu)
  simp only [execOp, hop, hF.ev hx]
  simp [Instr.loadAt, Instr.sureAddr, loadVar, e, load, Sem.run, hc]
theorem gives_loadA (hF : Fr n K a) (hM : Mem B w0 L w) {x : Operand} {t t0 : TypeId} {u : TypeDesc} {b : Nat} {vs : List Value} (k : Nat) (hop : o.op = .load t x) (hT : P.underlying t = some u) (hu : plainB u = false)
    (hi : (P.info? t).map (·.size) = some vs.length) (hx : ev K x = some (.pointer (some ⟨b, 0, none⟩))) (hk : L[k]? = some (b, t0, vs)) : (execOp a.eval o).run P w = .ok (.value (.agg vs.toArray)) w := by
  have e := run_loadVar_row (P := P) w b t0 t vs.toArray (0, 0) u (hM.blk hk).2 hT (by cases u <;> first | rfl | (simp [plainB] at hu)) (by simpa using hi)
  simp only [execOp, hop, hF.ev hx]
  simp [Instr.loadAt, Instr.sureAddr, e]
theorem does_store (hF : Fr n K a) (hM : Mem B w0 L w) {x y : Operand} {t t0 : TypeId} {b j : Nat} {vs : List Value} {v : Value} (k : Nat) (hop : o.op = .store t x y) (hi : (P.info? t).map (·.size) = some 1)
    (hx : ev K x = some (.pointer (some ⟨b, j, none⟩))) (hy : ev K y = some v) (hv : v.oneCell' = true) (hk : L[k]? = some (b, t0, vs)) (hj : j < vs.length) :
    ∃ w', (execOp a.eval o).run P w = .ok .skip w' ∧ Mem B w0 (L.set k (b, t0, vs.set j v)) w' := by
  refine ⟨_, ?_, hM.set hk j v⟩
  obtain ⟨i, hq, hs⟩ := Option.map_eq_some_iff.1 hi
  have hc : w.cell? ⟨b, j, none⟩ = some vs[j] := by rw [blk_cell (hM.blk hk).2]; simp [hj]
  have hcells : v.cells = #[v] := by cases v <;> first | rfl | (simp [Value.oneCell'] at hv)
  have hadd : (⟨b, j, none⟩ : Addr).add 0 = ⟨b, j, none⟩ := by unfold Addr.add; split <;> simp_all
  have e : (store ⟨b, j, none⟩ v).run P w = .ok () (w.setCell ⟨b, j, none⟩ v) := by
    rw [run_store P w _ v _ hv, hc]
    simp [blk_frozen (hM.blk hk).2]
  simp only [execOp, hop, hF.ev hx, hF.ev hy]
  simp [Instr.storeAt, Instr.sureAddr, storeVar, hcells, sizeOf, typeInfo, hq, hs, storeCells, hadd, e]
theorem does_storeA (hF : Fr n K a) (hM : Mem B w0 L w) {x y : Operand} {t t0 : TypeId} {b : Nat} {vs us : List Value} (k : Nat) (hop : o.op = .store t x y) (hi : (P.info? t).map (·.size) = some us.length)
    (hx : ev K x = some (.pointer (some ⟨b, 0, none⟩))) (hy : ev K y = some (.agg us.toArray)) (hv : us.all (·.oneCell') = true) (hk : L[k]? = some (b, t0, vs)) (hl : vs.length = us.length) :
    ∃ w', (execOp a.eval o).run P w = .ok .skip w' ∧ Mem B w0 (L.set k (b, t0, us)) w' := by
  have hb := (hM.blk hk).2
  have e := run_storeVar_row (P := P) w b t0 t vs.toArray us.toArray hb (by simpa using hi) (by simpa using hl) (by simpa using hv)
  refine ⟨w.setRow b us.toArray, ?_, ?_⟩
  · simp only [execOp, hop, hF.ev hx, hF.ev hy]
    simp [Instr.storeAt, Instr.sureAddr, e]
  · have hlt := blk_lt hb
    have hrow : (w.setRow b us.toArray).heap[b]? = some (.cells us.toArray t0 (0, 0)) := by
      unfold World.setRow
      rw [Array.getElem?_modify, if_pos rfl, hb]
      rfl
    have hoth : ∀ g, g ≠ b → (w.setRow b us.toArray).heap[g]? = w.heap[g]? := by
      intro g hg
      unfold World.setRow
      simp [Array.getElem?_modify, Ne.symm hg]
    refine hM.turn hk ⟨rfl, rfl, rfl, by simp [World.setRow], fun g hg => hoth g (by have := (hM.blk hk).1; omega)⟩ (by simp [World.setRow]) hrow (fun g _ hg => hoth g hg)
theorem does_alloc (hM : Mem B w0 L w) {t : TypeId} {vs : List Value} (hop : o.op = .alloc t) (hi : ((P.info? t).bind (·.zero)).map (·.cells) = some vs.toArray) :
    ∃ b w', (execOp a.eval o).run P w = .ok (.value (.pointer (some ⟨b, 0, none⟩))) w' ∧ Mem B w0 ((b, t, vs) :: L) w' := by
  obtain ⟨z, hz, hc⟩ := Option.map_eq_some_iff.1 hi
  obtain ⟨i, hi, hz⟩ := Option.bind_eq_some_iff.1 hz
  refine ⟨w.heap.size, w.alloc (.cells vs.toArray t (0, 0)), ?_, hM.alloc t vs⟩
  simp only [execOp, hop]
  simp [Instr.alloc, zeroValue, typeInfo, hi, hz, newVar, newRow, newObj, hc, Sem.run]
theorem does_box (hF : Fr n K a) (hM : Mem B w0 L w) {t : TypeId} {x : Operand} {v : Value} {vs : List Value} (hop : o.op = .box t x) (hx : ev K x = some v) (hc : v.cells = vs.toArray) :
    ∃ b w', (execOp a.eval o).run P w = .ok (.value (.pointer (some ⟨b, 0, none⟩))) w' ∧ Mem B w0 ((b, t, vs) :: L) w' := by
  refine ⟨w.heap.size, w.alloc (.cells vs.toArray t (0, 0)), ?_, hM.alloc t vs⟩
  simp only [execOp, hop, hF.ev hx]
  simp [Instr.box, newVar, newRow, newObj, hc, Sem.run]
theorem field_at {t : TypeId} {f off : Nat} {fs : Array Field} {fld : Field} (hT : P.underlying t = some (.struct fs)) (hf : fs[f]? = some fld) (ho : fld.offset = off) (hs : (P.info? fld.type).map (fun i => Nat.blt 0 i.size) = some true) (ad : Addr) (w : World) :
    (Instr.fieldAt t (.pointer (some ad)) f).run P w = .ok (.pointer (some (ad.add off))) w := by
  obtain ⟨i, hi, hsz⟩ := Option.map_eq_some_iff.1 hs
  have hsz : 0 < i.size := Nat.le_of_ble_eq_true hsz
  have hne : ¬ i.size = 0 := by omega
  simp [Instr.fieldAt, run_underlying hT, hf, Instr.sureAddr, fieldPlace, sizeOf, typeInfo, hi, hne, ho]
theorem op_load (hF : Fr n K a) (hM : Mem B w0 L w) (hg : o.guard = none) {d : Nat} {x : Operand} {t t0 : TypeId} {u : TypeDesc} {b j : Nat} {vs : List Value} {v : Value} (k : Nat) (hd : o.dst = some d) (hlt : Nat.blt d n = true) (hop : o.op = .load t x) (hT : P.underlying t = some u) (hu : plainB u = true)
    (hx : ev K x = some (.pointer (some ⟨b, j, none⟩))) (hk : L[k]? = some (b, t0, vs)) (hv : vs[j]? = some v) (h : ∀ a', Fr n ((d, v) :: K) a' → wpList P ops Q rest a' w) : wpList P ops Q (o :: rest) a w :=
  op_run hF hg _ hd hlt (gives_load hF hM k hop hT hu hx hk hv) h
theorem op_loadA (hF : Fr n K a) (hM : Mem B w0 L w) (hg : o.guard = none) {d : Nat} {x : Operand} {t t0 : TypeId} {u : TypeDesc} {b : Nat} {vs : List Value} (k : Nat) (hd : o.dst = some d) (hlt : Nat.blt d n = true) (hop : o.op = .load t x) (hT : P.underlying t = some u) (hu : plainB u = false)
    (hi : (P.info? t).map (·.size) = some vs.length) (hx : ev K x = some (.pointer (some ⟨b, 0, none⟩))) (hk : L[k]? = some (b, t0, vs)) (h : ∀ a', Fr n ((d, .agg vs.toArray) :: K) a' → wpList P ops Q rest a' w) : wpList P ops Q (o :: rest) a w :=
  op_run hF hg _ hd hlt (gives_loadA hF hM k hop hT hu hi hx hk) h
theorem op_store (hF : Fr n K a) (hM : Mem B w0 L w) (hg : o.guard = none) {x y : Operand} {t t0 : TypeId} {b j : Nat} {vs : List Value} {v : Value} (k : Nat) (hd : o.dst = none) (hop : o.op = .store t x y) (hi : (P.info? t).map (·.size) = some 1)
    (hx : ev K x = some (.pointer (some ⟨b, j, none⟩))) (hy : ev K y = some v) (hv : v.oneCell' = true) (hk : L[k]? = some (b, t0, vs)) (hj : j < vs.length)
    (h : ∀ a' w', Fr n K a' → Mem B w0 (L.set k (b, t0, vs.set j v)) w' → wpList P ops Q rest a' w') : wpList P ops Q (o :: rest) a w := by
  obtain ⟨w', e, hM'⟩ := does_store hF hM k hop hi hx hy hv hk hj
  exact op_unit hF hg hd e (fun a' hF' => h a' w' hF' hM')
theorem op_storeA (hF : Fr n K a) (hM : Mem B w0 L w) (hg : o.guard = none) {x y : Operand} {t t0 : TypeId} {b : Nat} {vs us : List Value} (k : Nat) (hd : o.dst = none) (hop : o.op = .store t x y) (hi : (P.info? t).map (·.size) = some us.length)
    (hx : ev K x = some (.pointer (some ⟨b, 0, none⟩))) (hy : ev K y = some (.agg us.toArray)) (hv : us.all (·.oneCell') = true) (hk : L[k]? = some (b, t0, vs)) (hl : vs.length = us.length)
    (h : ∀ a' w', Fr n K a' → Mem B w0 (L.set k (b, t0, us)) w' → wpList P ops Q rest a' w') : wpList P ops Q (o :: rest) a w := by
  obtain ⟨w', e, hM'⟩ := does_storeA hF hM k hop hi hx hy hv hk hl
  exact op_unit hF hg hd e (fun a' hF' => h a' w' hF' hM')
theorem op_alloc (hF : Fr n K a) (hM : Mem B w0 L w) (hg : o.guard = none) {d : Nat} {t : TypeId} {vs : List Value} (hd : o.dst = some d) (hlt : Nat.blt d n = true) (hop : o.op = .alloc t) (hi : ((P.info? t).bind (·.zero)).map (·.cells) = some vs.toArray)
    (h : ∀ a' w' b, Fr n ((d, .pointer (some ⟨b, 0, none⟩)) :: K) a' → Mem B w0 ((b, t, vs) :: L) w' → wpList P ops Q rest a' w') : wpList P ops Q (o :: rest) a w := by
  obtain ⟨b, w', e, hM'⟩ := does_alloc hM hop hi
  exact op_run hF hg _ hd hlt e (fun a' hF' => h a' w' b hF' hM')
theorem op_box (hF : Fr n K a) (hM : Mem B w0 L w) (hg : o.guard = none) {d : Nat} {t : TypeId} {x : Operand} {v : Value} {vs : List Value} (hd : o.dst = some d) (hlt : Nat.blt d n = true) (hop : o.op = .box t x) (hx : ev K x = some v) (hc : v.cells = vs.toArray)
    (h : ∀ a' w' b, Fr n ((d, .pointer (some ⟨b, 0, none⟩)) :: K) a' → Mem B w0 ((b, t, vs) :: L) w' → wpList P ops Q rest a' w') : wpList P ops Q (o :: rest) a w := by
  obtain ⟨b, w', e, hM'⟩ := does_box hF hM hop hx hc
  exact op_run hF hg _ hd hlt e (fun a' hF' => h a' w' b hF' hM')
def Ret (R : Value → World → Prop) : Ending → World → Prop := fun e w' => ∃ v, e = .returned v ∧ R v w'
def evs (K : List (Nat × Value)) : List Operand → Option (List Value)
  | [] => some []
  | x :: l => (ev K x).bind fun v => (evs K l).map (v :: ·)
theorem Fr.evs (hF : Fr n K a) : ∀ (l : List Operand) (vs : List Value), Sx.evs K l = some vs → l.map a.eval = vs
  | [], vs, h => by simp [Sx.evs] at h; simp [h]
  | x :: l, vs, h => by
    simp only [Sx.evs, Option.bind_eq_some_iff, Option.map_eq_some_iff] at h
    obtain ⟨v, hv, us, hu, rfl⟩ := h
    simp [hF.ev hv, hF.evs l us hu]
theorem op_call (hF : Fr n K a) (hg : o.guard = none) {d : Nat} {f : FuncId} {fn : Func} {l : List Operand} {ats : Array TypeId} {vals : List Value} {R : Value → World → Prop} (hd : o.dst = some d) (hlt : Nat.blt d n = true)
    (hop : o.op = .call { callee := .value (.func f), args := l.toArray, argTypes := ats }) (hf : P.funcs[f]? = some fn) (hname : (fn.name == "runtime.NumGoroutine") = false) (hb : fn.body.isNone = false) (hargs : evs K l = some vals)
    (hc : Calls P f vals.toArray w (Ret R)) (h : ∀ a' w' v, R v w' → Fr n ((d, v) :: K) a' → wpList P ops Q rest a' w') : wpList P ops Q (o :: rest) a w := by
  refine wpList_plain hg fun C hC => ?_
  unfold Oper.wp
  have h1 : ¬ fn.name = "runtime.NumGoroutine" := by simpa using hname
  have h2 : ¬ fn.body = none := by cases hx : fn.body <;> simp_all
  have e : (execOp a.eval o).run P w = .ok (.enter f vals.toArray) w := by
    unfold execOp
    have := hF.evs l vals hargs
    simp [hop, resolve, Deferred.ofValue, invoke, callFunc, hf, h1, h2, Act.eval]
    exact this
  rw [e, Oper.upon_enter]
  refine hc.mono ?_
  rintro e w' ⟨v, rfl, hR⟩
  rw [hd]
  exact hC _ _ (h _ w' v hR (hF.put d v (Nat.le_of_ble_eq_true hlt)))
theorem op_callV (hF : Fr n K a) (hg : o.guard = none) {d : Nat} {x : Operand} {f : FuncId} {fn : Func} {l : List Operand} {ats : Array TypeId} {vals cap : List Value} {R : Value → World → Prop} (hd : o.dst = some d) (hlt : Nat.blt d n = true)
    (hop : o.op = .call { callee := .value x, args := l.toArray, argTypes := ats }) (hx : ev K x = some (.func (.func f) #[] cap.toArray)) (hf : P.funcs[f]? = some fn) (hname : (fn.name == "runtime.NumGoroutine") = false) (hb : fn.body.isNone = false) (hargs : evs K l = some vals)
    (hc : Calls P f (vals ++ cap).toArray w (Ret R)) (h : ∀ a' w' v, R v w' → Fr n ((d, v) :: K) a' → wpList P ops Q rest a' w') : wpList P ops Q (o :: rest) a w := by
  refine wpList_plain hg fun C hC => ?_
  unfold Oper.wp
  have h1 : ¬ fn.name = "runtime.NumGoroutine" := by simpa using hname
  have h2 : ¬ fn.body = none := by cases hx : fn.body <;> simp_all
  have e : (execOp a.eval o).run P w = .ok (.enter f (vals ++ cap).toArray) w := by
    unfold execOp
    have h3 := hF.evs l vals hargs
    simp only [hop, resolve, hF.ev hx]
    simp [Deferred.ofValue, invoke, callFunc, hf, h1, h2, h3]
  rw [e, Oper.upon_enter]
  refine hc.mono ?_
  rintro e w' ⟨v, rfl, hR⟩
  rw [hd]
  exact hC _ _ (h _ w' v hR (hF.put d v (Nat.le_of_ble_eq_true hlt)))
inductive Outs (P : Program) (K : List (Nat × Value)) (L : List Bk) : List ResultVar → List Value → Prop where
  | nil : Outs P K L [] []
  | tmp {u : Tmp} {v : Value} {rs : List ResultVar} {vs : List Value} (hu : look K u = some v) (h : Outs P K L rs vs) : Outs P K L (.tmp u :: rs) (v :: vs)
  | cell {p : Tmp} {ty : TypeId} {rs : List ResultVar} {vs us : List Value} {b : Nat} {t : TypeId} {d : TypeDesc} (k : Nat) (hp : look K p = some (.pointer (some ⟨b, 0, none⟩))) (hk : L[k]? = some (b, t, us))
      (hu : P.underlying ty = some d) (hd : plainB d = false) (hi : (P.info? ty).map (·.size) = some us.length) (h : Outs P K L rs vs) : Outs P K L (.cell p ty :: rs) (.agg us.toArray :: vs)
theorem Outs.vals {rs : List ResultVar} {vs : List Value} (h : Outs P K L rs vs) (hF : Fr n K a) (hM : Mem B w0 L w) : Vals P a.tmps w rs vs := by
  induction h with
  | nil => exact .nil
  | tmp hu _ ih =>
    have := Vals.tmp (u := ‹_›) ih
    rwa [hF.at_ _ _ hu] at this
  | @cell p ty rs vs us b t d k hp hk hu hd hi _ ih =>
    exact .cell b t us.toArray (0, 0) d (hF.at_ _ _ hp) (hM.blk hk).2 hu (by cases d <;> first | rfl | (simp [plainB] at hd)) (by simpa using hi) ih
theorem retOne {fn : Func} {R : Ending → World → Prop} {r : ResultVar} {v : Value} (hF : Fr n K a) (hM : Mem B w0 L w) (h : fn.results = #[r]) (ho : Outs P K L [r] [v]) (hR : R (.returned v) w) : bodyPost P fn R .ret a w :=
  bodyPost_ret (results_single h (ho.vals hF hM)) hF.defers hR
theorem retMany {fn : Func} {R : Ending → World → Prop} {rs : List ResultVar} {vs : List Value} (hF : Fr n K a) (hM : Mem B w0 L w) (h : fn.results = rs.toArray) (hl : Nat.beq vs.length 1 = false) (ho : Outs P K L rs vs) (hR : R (.returned (.tuple vs.toArray)) w) : bodyPost P fn R .ret a w :=
  bodyPost_ret (results_list h (fun e => by rw [e] at hl; exact absurd hl (by decide)) (ho.vals hF hM)) hF.defers hR
theorem op_min (hF : Fr n K a) (hg : o.guard = none) {d : Nat} {x y : Operand} {ts : Array TypeId} {k : IntKind} {p q : Int} (r : Int) (hd : o.dst = some d) (hlt : Nat.blt d n = true)
    (hop : o.op = .call { callee := .builtin .min, args := #[x, y], argTypes := ts }) (hx : ev K x = some (.int k p)) (hy : ev K y = some (.int k q)) (hr : (if q < p then q else p) = r)
    (h : ∀ a', Fr n ((d, .int k r) :: K) a' → wpList P ops Q rest a' w) : wpList P ops Q (o :: rest) a w :=
  op_run hF hg _ hd hlt (by
    simp only [execOp, hop, resolve, invoke, builtin, List.map_toArray, List.map_cons, List.map_nil, hF.ev hx, hF.ev hy]
    simp [Builtin.min_, Builtin.min2, hr]) h
variable {md : Region.Mode} {fuel : Nat} {listed : Array Bool} {oi : Oper}
theorem only_storeA (i : Nat) (hF : Fr n K a) (hM : Mem B w0 L w) (hi : ops[i]? = some oi) (hr : Region.ready md ops listed = [i]) (hg : oi.guard = none) (hd : oi.dst = none) {x y : Operand} {t t0 : TypeId} {b : Nat} {vs us : List Value} (k : Nat) (hop : oi.op = .store t x y)
    (hz : (P.info? t).map (·.size) = some us.length) (hx : ev K x = some (.pointer (some ⟨b, 0, none⟩))) (hy : ev K y = some (.agg us.toArray)) (hv : us.all (·.oneCell') = true) (hk : L[k]? = some (b, t0, vs)) (hl : vs.length = us.length)
    (h : ∀ a' w', Fr n K a' → Mem B w0 (L.set k (b, t0, us)) w' → wpAny P md ops Q fuel (listed.setIfInBounds i true) a' w') : wpAny P md ops Q (fuel + 1) listed a w := by
  obtain ⟨w', e, hM'⟩ := does_storeA hF hM k hop hz hx hy hv hk hl
  refine wpAny_all hr (by simp) fun j hj => ?_
  obtain rfl := List.mem_singleton.1 hj
  refine wpOp_step hi (fun K' hK => ?_)
  rw [if_pos (by simp [Region.wanted, hg])]
  unfold Oper.wp
  rw [e, Oper.upon_skip, hd]
  exact hK _ _ (h _ _ hF hM')
end
end Go.Sx
namespace Go.Sx
open Go.RowKit Go.Proofs.YtelonenjneonlaaGreatDoorW.PrintWords
variable {B : Nat} {w0 w : World} {L : List Bk}
theorem Mem.perm (hM : Mem B w0 L w) {L' : List Bk} (h : L.Perm L') : Mem B w0 L' w :=
  ⟨hM.below, hM.base, fun x hx => hM.held x (h.mem_iff.2 hx), (h.pairwise_iff (fun {x y} hxy => Ne.symm hxy)).1 hM.apart⟩
theorem perm_set : ∀ (L : List Bk) (k : Nat) (x : Bk), k < L.length → (x :: L.eraseIdx k).Perm (L.set k x)
  | [], k, x, h => by simp at h
  | y :: L, 0, x, _ => by simp
  | y :: L, k + 1, x, h => by
    simp only [List.eraseIdx_cons_succ, List.set_cons_succ]
    exact (List.Perm.swap y x _).trans ((perm_set L k x (by simpa using h)).cons y)
theorem Mem.back (hM : Mem B w0 L w) {L' : List Bk} {k : Nat} {x : Bk} (h : L = x :: L'.eraseIdx k) (hk : Nat.blt k L'.length = true) : Mem B w0 (L'.set k x) w := by
  subst h
  exact hM.perm (perm_set L' k x (Nat.le_of_ble_eq_true hk))
theorem Mem.back1 {k : Nat} {x y : Bk} {L' : List Bk} (hM : Mem B w0 (x :: (y :: L').eraseIdx (k + 1)) w) (hk : k < L'.length) : Mem B w0 (L'.set k x) w :=
  (hM.drop (L' := x :: L'.eraseIdx k) (List.Sublist.cons₂ _ (by simp only [List.eraseIdx_cons_succ]; exact List.Sublist.cons _ (List.Sublist.refl _)))).perm (perm_set L' k x hk)
theorem Mem.front {L0 Lc : List Bk} (hM : Mem B w0 (L0 ++ Lc) w) : Mem B w0 (Lc ++ L0) w := hM.perm List.perm_append_comm
end Go.Sx
namespace Go.Sx
open Go.RowKit Go.Proofs Go.Proofs.YtelonenjneonlaaGreatDoorW.PrintWords
def u8s (l : List UInt8) : List Value := l.map fun c => .int .u8 (c.toNat : Int)
theorem u8s_length (l : List UInt8) : (u8s l).length = l.length := by simp [u8s]
theorem u8s_append (l r : List UInt8) : u8s (l ++ r) = u8s l ++ u8s r := by simp [u8s]
theorem u8s_one (l : List UInt8) : ∀ u ∈ u8s l, u.oneCell' = true := by
  intro u hu
  obtain ⟨c, _, rfl⟩ := List.mem_map.1 hu
  rfl
theorem strCells_mkS (l : List UInt8) : Lib.strCells (mkS l) = u8s l := by
  simp [Lib.strCells, mkS, u8s]
variable {B : Nat} {w0 w : World} {L : List Bk}
theorem mem_row_after (hM : Mem B w0 L w) {k b : Nat} {vs : List Value} (hk : L[k]? = some (b, 5, vs)) {v' : Value} {w' : World} {n' : Nat} {xs' : List Value} (ho : w'.ownsRow B 5 1 v' n' xs') (hg : w.grownBy w' (some b))
    (hat : v'.ownBlock = some b ∨ v'.ownBlock = some w.heap.size) :
    ∃ b' vs', v' = .slice (some ⟨b', 0, none⟩) n' vs'.length ∧ n' ≤ vs'.length ∧ vs'.length ≤ maxLen ∧ vs'.take n' = xs' ∧ Mem B w0 ((b', 5, vs') :: L.eraseIdx k) w' := by
  rcases ho.2 with ⟨rfl, _⟩ | ⟨g, cap, cur, rfl, hb, hh, hnc, hcm, hcs, ht⟩
  · rcases hat with h | h <;> simp [Value.ownBlock] at h
  · have hgb : g = b ∨ g = w.heap.size := by simpa [Value.ownBlock] using hat
    have hlen : cur.toList.length = cap := by simp [hcs]
    have hmem : ∀ x ∈ L.eraseIdx k, x ∈ L ∧ x.1 ≠ b := by
      intro x hx
      obtain ⟨j, hj, hne, rfl⟩ := List.mem_eraseIdx_iff_getElem.1 hx
      exact ⟨List.getElem_mem _, apart_ne hM.apart (List.getElem?_eq_getElem hj) hk hne⟩
    refine ⟨g, cur.toList, by rw [hlen], by rw [hlen]; exact hnc, by rw [hlen]; exact hcm, by simpa using ht, hM.below.grown hg hM.base (fun k' e => by cases e; exact (hM.blk hk).1), Nat.le_trans hM.base hg.size, ?_, ?_⟩
    · intro x hx
      rcases List.mem_cons.1 hx with rfl | hx
      · exact ⟨hb, by simpa using hh⟩
      · obtain ⟨h1, h2⟩ := hmem x hx
        have h3 := hM.held x h1
        exact ⟨h3.1, (hg.block _ (blk_lt h3.2) (fun e => h2 (Option.some.inj e))).trans h3.2⟩
    · refine List.pairwise_cons.2 ⟨fun x hx => ?_, hM.apart.sublist (List.eraseIdx_sublist ..)⟩
      obtain ⟨h1, h2⟩ := hmem x hx
      have h3 := blk_lt (hM.held x h1).2
      rcases hgb with rfl | rfl
      · exact Ne.symm h2
      · simp only; omega
theorem mem_owns (hM : Mem B w0 L w) {k b n : Nat} {vs : List Value} (hk : L[k]? = some (b, 5, vs)) (hn : n ≤ vs.length) (hc : vs.length ≤ maxLen) : w.ownsRow B 5 1 (.slice (some ⟨b, 0, none⟩) n vs.length) n (vs.take n) :=
  ⟨by simp; omega, .inr ⟨b, vs.length, vs.toArray, rfl, (hM.blk hk).1, (hM.blk hk).2, hn, hc, by simp, by simp⟩⟩
theorem info5 : ∃ i, Tryz.prog.info? 5 = some i ∧ i.zero = some (.int .u8 0) ∧ i.size = 1 ∧ i.bytes = 1 := by
  have h : (Tryz.prog.info? 5).map (fun i => (i.zero, i.size, i.bytes)) = some (some (.int .u8 0), 1, 1) := by kernel_rfl
  obtain ⟨i, hi, h⟩ := Option.map_eq_some_iff.1 h
  simp only [Prod.mk.injEq] at h
  exact ⟨i, hi, h.1, h.2.1, h.2.2⟩
theorem mem_append (hM : Mem B w0 L w) {k b n : Nat} {vs : List Value} (hk : L[k]? = some (b, 5, vs)) (hn : n ≤ vs.length) (hc : vs.length ≤ maxLen) {ad : Addr} {m c : Nat} {news : List Value} (ty : TypeId)
    (hl : news.length = m) (hnews : ∀ j u, news[j]? = some u → w.cell? (ad.add j) = some u) (h1 : ∀ u ∈ news, u.oneCell' = true) (hs : n + m ≤ 2 ^ 46) :
    ∃ b' vs' w', (Builtin.append_ #[66, 66] ty #[.slice (some ⟨b, 0, none⟩) n vs.length, .slice (some ad) m c]).run Tryz.prog w = .ok (.slice (some ⟨b', 0, none⟩) (n + m) vs'.length) w' ∧
      n + m ≤ vs'.length ∧ vs'.length ≤ maxLen ∧ vs'.take (n + m) = vs.take n ++ news ∧ Mem B w0 ((b', 5, vs') :: L.eraseIdx k) w' := by
  obtain ⟨i, hi, hz, hz1, hz2⟩ := info5
  obtain ⟨v', w', hr, ho, hg, -, hat⟩ := run_append_own_at (P := Tryz.prog) w B 66 ty 5 i (.int .u8 0) 1 1 Tryz.underlying66 hi hz hz1 hz2 rfl (by omega) _ n _ (mem_owns hM hk hn hc) ad m c news (by omega) hnews h1 (by simp only [maxLen]; omega) (by omega) hM.base
  obtain ⟨b', vs', rfl, h2, h3, h4, h5⟩ := mem_row_after hM hk ho hg hat
  exact ⟨b', vs', w', hr, h2, h3, h4, h5⟩
theorem mem_append_str (hM : Mem B w0 L w) {k b n : Nat} {vs : List Value} (hk : L[k]? = some (b, 5, vs)) (hn : n ≤ vs.length) (hc : vs.length ≤ maxLen) (s : List UInt8) (ty : TypeId) (hs : n + s.length ≤ 2 ^ 46) :
    ∃ b' vs' w', (Builtin.append_ #[66, 9] ty #[.slice (some ⟨b, 0, none⟩) n vs.length, .string (mkS s)]).run Tryz.prog w = .ok (.slice (some ⟨b', 0, none⟩) (n + s.length) vs'.length) w' ∧
      n + s.length ≤ vs'.length ∧ vs'.length ≤ maxLen ∧ vs'.take (n + s.length) = vs.take n ++ u8s s ∧ Mem B w0 ((b', 5, vs') :: L.eraseIdx k) w' := by
  obtain ⟨i, hi, hz, hz1, hz2⟩ := info5
  obtain ⟨v', w', hr, ho, hg, -⟩ := Lib.run_append_own_string (P := Tryz.prog) w B 66 9 ty 5 i Tryz.underlying66 Tryz.underlying9 hi hz hz1 hz2 _ n _ (mem_owns hM hk hn hc) (mkS s) (by rw [mkS_size]; simp only [maxLen]; omega) (by rw [mkS_size]; omega) hM.base
  have hat : v'.ownBlock = some b ∨ v'.ownBlock = some w.heap.size := by
    by_cases hroom : n + s.length ≤ vs.length
    · have e := Lib.run_append_room_string (P := Tryz.prog) w 66 9 ty 5 i Tryz.underlying66 Tryz.underlying9 hi hz1 b n vs.length vs.toArray (hM.blk hk).2 (mkS s) (by rw [mkS_size]; exact hroom) (by rw [mkS_size]; simpa using hroom)
      rw [hr] at e
      injection e with e _
      rw [e]
      exact .inl rfl
    · have e := Lib.run_append_grow_string (P := Tryz.prog) w 66 9 ty 5 i (.int .u8 0) Tryz.underlying66 Tryz.underlying9 hi hz ⟨b, 0, none⟩ n vs.length (vs.take n) (by rw [hz1]; simp; omega) (mem_owns hM hk hn hc |>.cells (g := b) rfl) (mkS s) (by rw [mkS_size]; omega) (by rw [mkS_size]; omega)
        (by rw [hz2]; exact growslice_fits (by rw [mkS_size]; omega) (by rw [mkS_size]; omega))
      rw [hr] at e
      injection e with e _
      rw [e]
      exact .inr rfl
  rw [mkS_size, strCells_mkS] at ho
  obtain ⟨b', vs', rfl, h2, h3, h4, h5⟩ := mem_row_after hM hk ho hg hat
  exact ⟨b', vs', w', hr, h2, h3, h4, h5⟩
section
variable {n : Nat} {K : List (Nat × Value)} {a : Act} {Q : Exit → Act → World → Prop} {ops : Array Oper} {rest : List Oper} {o : Oper}
theorem op_append (hF : Fr n K a) (hM : Mem B w0 L w) (hg : o.guard = none) {d : Nat} {x y : Operand} {k b m c : Nat} {vs : List Value} {ad : Addr} (news : List Value) (hd : o.dst = some d) (hlt : Nat.blt d n = true)
    (hop : o.op = .call { callee := .builtin .append, args := #[x, y], argTypes := #[66, 66] }) {l : Nat} (hx : ev K x = some (.slice (some ⟨b, 0, none⟩) l vs.length)) (hy : ev K y = some (.slice (some ad) m c))
    (hk : L[k]? = some (b, 5, vs)) (hn : l ≤ vs.length) (hc : vs.length ≤ maxLen) (hl : news.length = m) (hnews : ∀ j u, news[j]? = some u → w.cell? (ad.add j) = some u) (h1 : ∀ u ∈ news, u.oneCell' = true) (hs : l + m ≤ 2 ^ 46)
    (h : ∀ a' w' b' vs', Fr n ((d, .slice (some ⟨b', 0, none⟩) (l + m) vs'.length) :: K) a' → l + m ≤ vs'.length → vs'.length ≤ maxLen → vs'.take (l + m) = vs.take l ++ news → Mem B w0 ((b', 5, vs') :: L.eraseIdx k) w' → wpList Tryz.prog ops Q rest a' w') :
    wpList Tryz.prog ops Q (o :: rest) a w := by
  obtain ⟨b', vs', w', hr, h2, h3, h4, h5⟩ := mem_append (c := c) hM hk hn hc o.type hl hnews h1 hs
  refine op_run hF hg (.slice (some ⟨b', 0, none⟩) (l + m) vs'.length) (w' := w') hd hlt ?_ (fun a' hF' => h a' w' b' vs' hF' h2 h3 h4 h5)
  simp only [execOp, hop, resolve, invoke, builtin, List.map_toArray, List.map_cons, List.map_nil, hF.ev hx, hF.ev hy]
  simp [hr]
theorem op_append_str (hF : Fr n K a) (hM : Mem B w0 L w) (hg : o.guard = none) {d : Nat} {x y : Operand} {k b : Nat} {vs : List Value} {s : List UInt8} (hd : o.dst = some d) (hlt : Nat.blt d n = true)
    (hop : o.op = .call { callee := .builtin .append, args := #[x, y], argTypes := #[66, 9] }) {l : Nat} (hx : ev K x = some (.slice (some ⟨b, 0, none⟩) l vs.length)) (hy : ev K y = some (.string (mkS s)))
    (hk : L[k]? = some (b, 5, vs)) (hn : l ≤ vs.length) (hc : vs.length ≤ maxLen) (hs : l + s.length ≤ 2 ^ 46)
    (h : ∀ a' w' b' vs', Fr n ((d, .slice (some ⟨b', 0, none⟩) (l + s.length) vs'.length) :: K) a' → l + s.length ≤ vs'.length → vs'.length ≤ maxLen → vs'.take (l + s.length) = vs.take l ++ u8s s → Mem B w0 ((b', 5, vs') :: L.eraseIdx k) w' → wpList Tryz.prog ops Q rest a' w') :
    wpList Tryz.prog ops Q (o :: rest) a w := by
  obtain ⟨b', vs', w', hr, h2, h3, h4, h5⟩ := mem_append_str hM hk hn hc s o.type hs
  refine op_run hF hg (.slice (some ⟨b', 0, none⟩) (l + s.length) vs'.length) (w' := w') hd hlt ?_ (fun a' hF' => h a' w' b' vs' hF' h2 h3 h4 h5)
  simp only [execOp, hop, resolve, invoke, builtin, List.map_toArray, List.map_cons, List.map_nil, hF.ev hx, hF.ev hy]
  simp [hr]
theorem Mem.cells (hM : Mem B w0 L w) {k b : Nat} {t : TypeId} {vs : List Value} (hk : L[k]? = some (b, t, vs)) (j : Nat) {u : Value} (hu : vs[j]? = some u) : w.cell? ((⟨b, 0, none⟩ : Addr).add j) = some u := by
  have hadd : (⟨b, 0, none⟩ : Addr).add j = ⟨b, j, none⟩ := by unfold Addr.add; split <;> simp_all
  rw [hadd, blk_cell (hM.blk hk).2]
  simpa using hu
theorem op_indexAddr_sl (hF : Fr n K a) (hg : o.guard = none) {d : Nat} {x i : Operand} {t e : TypeId} {b off l c : Nat} {k : IntKind} {z : Int} (j : Nat) (hd : o.dst = some d) (hlt : Nat.blt d n = true)
    (hop : o.op = .indexAddr t x i) (hT : Tryz.prog.underlying t = some (.slice e)) (hs : (Tryz.prog.info? e).map (·.size) = some 1) (hx : ev K x = some (.slice (some ⟨b, off, none⟩) l c)) (hi : ev K i = some (.int k z)) (hz : z = (j : Int)) (hj : j < l)
    (h : ∀ a', Fr n ((d, .pointer (some ⟨b, off + j, none⟩)) :: K) a' → wpList Tryz.prog ops Q rest a' w) : wpList Tryz.prog ops Q (o :: rest) a w :=
  op_run hF hg _ hd hlt (by
    subst hz
    obtain ⟨ie, he, hsz⟩ := Option.map_eq_some_iff.1 hs
    have e2 : (sizeOf e).run Tryz.prog w = .ok 1 w := by simp [sizeOf, typeInfo, he, hsz]
    have hadd : (⟨b, off, none⟩ : Addr).add j = ⟨b, off + j, none⟩ := by unfold Addr.add; split <;> simp_all
    simp only [execOp, hop, hF.ev hx, hF.ev hi]
    simp [Instr.indexAt, run_underlying hT, Instr.sureAddr, asIntOf, hj, e2, hadd]) h
theorem op_slice_slFrom (hF : Fr n K a) (hg : o.guard = none) {d : Nat} {x i : Operand} {b off l c : Nat} {k : IntKind} {y : Int} (p : Nat) (hd : o.dst = some d) (hlt : Nat.blt d n = true)
    (hop : o.op = .slice 66 x (some i) none none) (hx : ev K x = some (.slice (some ⟨b, off, none⟩) l c)) (hi : ev K i = some (.int k y)) (hy : y = (p : Int)) (hp : p ≤ l) (hc : p < c)
    (h : ∀ a', Fr n ((d, .slice (some ⟨b, off + p, none⟩) (l - p) (c - p)) :: K) a' → wpList Tryz.prog ops Q rest a' w) : wpList Tryz.prog ops Q (o :: rest) a w :=
  op_run hF hg _ hd hlt (by
    subst hy
    obtain ⟨i5, hi5, -, hz1, -⟩ := info5
    have hadd : (⟨b, off, none⟩ : Addr).add p = ⟨b, off + p, none⟩ := by unfold Addr.add; split <;> simp_all
    have hcp : ¬ c = p := by omega
    have e : (Instr.slice 66 (.slice (some ⟨b, off, none⟩) l c) (some (.int k (p : Int))) none none).run Tryz.prog w = .ok (.slice (some ⟨b, off + p, none⟩) (l - p) (c - p)) w := by
      simp [Instr.slice, Instr.sliceBounds, Instr.sliceBound, asIntOf, run_underlying Tryz.underlying66, hp, sizeOf, typeInfo, hi5, hz1, hcp, hadd]
    simp only [execOp, hop, Option.map_some, Option.map_none, hF.ev hx, hF.ev hi, Instr.sliceAt]
    simp [run_underlying Tryz.underlying66, e]) h
theorem op_slice_slTo (hF : Fr n K a) (hg : o.guard = none) {d : Nat} {x j : Operand} {b off l c : Nat} {k : IntKind} {z : Int} (q : Nat) (hd : o.dst = some d) (hlt : Nat.blt d n = true)
    (hop : o.op = .slice 66 x none (some j) none) (hx : ev K x = some (.slice (some ⟨b, off, none⟩) l c)) (hj : ev K j = some (.int k z)) (hz : z = (q : Int)) (hq : q ≤ c)
    (h : ∀ a', Fr n ((d, .slice (some ⟨b, off, none⟩) q c) :: K) a' → wpList Tryz.prog ops Q rest a' w) : wpList Tryz.prog ops Q (o :: rest) a w :=
  op_run hF hg _ hd hlt (by
    subst hz
    obtain ⟨i5, hi5, -, hz1, -⟩ := info5
    have hadd : (⟨b, off, none⟩ : Addr).add 0 = ⟨b, off, none⟩ := by unfold Addr.add; split <;> simp_all
    have e : (Instr.slice 66 (.slice (some ⟨b, off, none⟩) l c) none (some (.int k (q : Int))) none).run Tryz.prog w = .ok (.slice (some ⟨b, off, none⟩) q c) w := by
      simp [Instr.slice, Instr.sliceBounds, Instr.sliceBound, asIntOf, run_underlying Tryz.underlying66, hq, sizeOf, typeInfo, hi5, hz1, hadd]
    simp only [execOp, hop, Option.map_some, Option.map_none, hF.ev hx, hF.ev hj, Instr.sliceAt]
    simp [run_underlying Tryz.underlying66, e]) h
theorem op_make (hF : Fr n K a) (hM : Mem B w0 L w) (hg : o.guard = none) {d : Nat} {x y : Operand} {k k' : IntKind} {z : Int} (c : Nat) (hd : o.dst = some d) (hlt : Nat.blt d n = true) (hop : o.op = .makeSlice 66 x y)
    (hx : ev K x = some (.int k 0)) (hy : ev K y = some (.int k' z)) (hz : z = (c : Int)) (hc : c ≤ 2 ^ 46)
    (h : ∀ a' w' b vs, Fr n ((d, .slice (some ⟨b, 0, none⟩) 0 vs.length) :: K) a' → vs.length = c → Mem B w0 ((b, 5, vs) :: L) w' → wpList Tryz.prog ops Q rest a' w') : wpList Tryz.prog ops Q (o :: rest) a w := by
  subst hz
  obtain ⟨i, hi, hz, hz1, hz2⟩ := info5
  have hr := run_make (P := Tryz.prog) w 66 5 i (.int .u8 0) Tryz.underlying66 hi hz k k' 0 (c : Int) (Int.le_refl _) (by omega) (by rw [hz2]; omega) (by omega)
  have hl : (madeCells (Value.int .u8 0).cells ((c : Int).toNat * i.size)).toList.length = c := by rw [hz1]; simp [size_madeCells]
  refine op_run hF hg (.slice (some ⟨w.heap.size, 0, none⟩) 0 c) (w' := w.alloc (.cells (madeCells (Value.int .u8 0).cells ((c : Int).toNat * i.size)) 5)) hd hlt ?_ (fun a' hF' => h a' _ w.heap.size _ (by rw [hl]; exact hF') hl ?_)
  · simp only [execOp, hop, hF.ev hx, hF.ev hy]
    simp [hr]
  · have := hM.alloc 5 (madeCells (Value.int .u8 0).cells ((c : Int).toNat * i.size)).toList
    simpa using this
theorem op_build (hF : Fr n K a) (hM : Mem B w0 L w) (hg : o.guard = none) {d m : Nat} {parts : List (Nat × Operand)} {vals : List (Nat × Value)} (vs : List Value) (hd : o.dst = some d) (hlt : Nat.blt d n = true) (hop : o.op = .buildSlice 66 m parts.toArray)
    (hv : parts.map (fun x => (x.1, ev K x.2)) = vals.map (fun x => (x.1, some x.2))) (hm : 0 < m) (hm2 : m ≤ 2 ^ 24)
    (hf : Instr.fill (fun i => some (i * 1, 1)) ((Array.range (m * 1)).map ((Value.int .u8 0).cells[· % (Value.int .u8 0).cells.size]!)) vals = some vs.toArray)
    (h : ∀ a' w' b, Fr n ((d, .slice (some ⟨b, 0, none⟩) m m) :: K) a' → Mem B w0 ((b, 5, vs) :: L) w' → wpList Tryz.prog ops Q rest a' w') : wpList Tryz.prog ops Q (o :: rest) a w := by
  obtain ⟨i, hi, hz, hz1, hz2⟩ := info5
  have hval : parts.map (fun x => (x.1, a.eval x.2)) = vals := by
    clear hop hf h
    induction parts generalizing vals with
    | nil => cases vals with
      | nil => rfl
      | cons => simp at hv
    | cons x parts ih => cases vals with
      | nil => simp at hv
      | cons y vals =>
        simp only [List.map_cons, List.cons.injEq, Prod.mk.injEq] at hv ⊢
        obtain ⟨⟨h1, h2⟩, h3⟩ := hv
        refine ⟨?_, ih h3⟩
        rw [h1, hF.ev h2]
  have hr := run_buildSlice (P := Tryz.prog) w 66 5 m vals.toArray vs.toArray i (.int .u8 0) Tryz.underlying66 hi hz (by rw [hz1]; omega) (by rw [hz1]; omega) (by rw [hz1]; exact hf)
  refine op_run hF hg (.slice (some ⟨w.heap.size, 0, none⟩) m m) (w' := w.alloc (.cells vs.toArray 5)) hd hlt ?_ (fun a' hF' => h a' _ w.heap.size hF' (hM.alloc 5 vs))
  simp only [execOp, hop]
  have e : (parts.toArray.map fun x => (x.1, a.eval x.2)) = vals.toArray := by rw [List.map_toArray, hval]
  have e2 : (Array.map (fun x => match x with | (i, x) => (i, a.eval x)) parts.toArray) = vals.toArray := e
  rw [e2]
  simp [hr]
theorem op_bytesStr (hF : Fr n K a) (hM : Mem B w0 L w) (hg : o.guard = none) {d k b l : Nat} {x : Operand} {vs : List Value} (bs : List UInt8) (hd : o.dst = some d) (hlt : Nat.blt d n = true) (hop : o.op = .convert 66 9 x)
    {c : Nat} (hx : ev K x = some (.slice (some ⟨b, 0, none⟩) l c)) (hk : L[k]? = some (b, 5, vs)) (hv : vs.take l = u8s bs) (hl : l = bs.length)
    (h : ∀ a', Fr n ((d, .string (mkS bs)) :: K) a' → wpList Tryz.prog ops Q rest a' w) : wpList Tryz.prog ops Q (o :: rest) a w :=
  op_run hF hg _ hd hlt (by
    have hr := run_convert_bytes_arg (P := Tryz.prog) w 66 5 Tryz.underlying66 Tryz.underlying5 b 0 l c (bs.map fun c => (c.toNat : Int)) (by simp [hl]) (by
      intro i hi
      have : (vs.take l)[i]? = (u8s bs)[i]? := by rw [hv]
      rw [List.getElem?_take, if_pos hi] at this
      have hib : i < bs.length := by omega
      rw [Nat.zero_add, blk_cell (hM.blk hk).2]
      simp only [List.getElem?_toArray]
      rw [this]
      simp [u8s, hib]) 9 Tryz.underlying9
    have e : strOfNums (bs.map fun c => (c.toNat : Int)) = mkS bs := by
      unfold strOfNums mkS
      have e3 : ((fun n : Int => UInt8.ofNat n.toNat) ∘ fun c : UInt8 => (c.toNat : Int)) = id := by
        funext c
        simp
      simp [List.map_map, e3]
    rw [e] at hr
    simp only [execOp, hop, hF.ev hx]
    simp [hr]) h
end
end Go.Sx
namespace Go.Sx
open Go.RowKit Go.Proofs Go.Proofs.YtelonenjneonlaaGreatDoorW.PrintWords
section
variable {P : Program} {n : Nat} {K : List (Nat × Value)} {a : Act} {w : World} {Q : Exit → Act → World → Prop} {ops : Array Oper} {rest : List Oper} {o : Oper} {B : Nat} {w0 : World} {L : List Bk}
def bitVal : BinOp → IntKind → Int → Int → Option Int
  | .and, k, x, y => some (k.wrap ((BitVec.ofInt k.bits x &&& BitVec.ofInt k.bits y).toNat : Int))
  | .or, k, x, y => some (k.wrap ((BitVec.ofInt k.bits x ||| BitVec.ofInt k.bits y).toNat : Int))
  | .xor, k, x, y => some (k.wrap ((BitVec.ofInt k.bits x ^^^ BitVec.ofInt k.bits y).toNat : Int))
  | .andNot, k, x, y => some (k.wrap ((BitVec.ofInt k.bits x &&& ~~~(BitVec.ofInt k.bits y)).toNat : Int))
  | _, _, _, _ => none
theorem op_bits (hF : Fr n K a) (hg : o.guard = none) {d : Nat} {op : BinOp} {t t' : TypeId} {x y : Operand} {k : IntKind} {p q : Int} (r : Int) (hd : o.dst = some d) (hlt : Nat.blt d n = true)
    (hop : o.op = .binOp op t x y t') (hx : ev K x = some (.int k p)) (hy : ev K y = some (.int k q)) (hv : bitVal op k p q = some r)
    (h : ∀ a', Fr n ((d, .int k r) :: K) a' → wpList P ops Q rest a' w) : wpList P ops Q (o :: rest) a w :=
  op_run hF hg (.int k r) hd hlt (by
    have e : (binOp op t (.int k p) (.int k q)).run P w = .ok (.int k r) w := by
      cases op <;> simp only [bitVal, reduceCtorEq, Option.some.injEq] at hv <;> subst hv <;> simp [binOp, Op.intBits]
    simp only [execOp, hop, hF.ev hx, hF.ev hy]
    cases op <;> simp [bitVal] at hv <;> simp [eqGuard, e]) h
theorem op_shl (hF : Fr n K a) (hg : o.guard = none) {d : Nat} {t t' : TypeId} {x y : Operand} {k k' : IntKind} {p q : Int} (s : Nat) (r : Int) (hd : o.dst = some d) (hlt : Nat.blt d n = true)
    (hop : o.op = .binOp .shl t x y t') (hx : ev K x = some (.int k p)) (hy : ev K y = some (.int k' q)) (hq : q = (s : Int)) (hv : k.wrap (p * 2 ^ min s k.bits) = r)
    (h : ∀ a', Fr n ((d, .int k r) :: K) a' → wpList P ops Q rest a' w) : wpList P ops Q (o :: rest) a w :=
  op_run hF hg (.int k r) hd hlt (by
    subst hq
    have hn : ¬ ((s : Int) < 0) := by omega
    have e : (binOp .shl t (.int k p) (.int k' (s : Int))).run P w = .ok (.int k r) w := by
      simp only [binOp, Op.shift, if_neg hn, Int.toNat_natCast, hv]
      rfl
    simp only [execOp, hop, hF.ev hx, hF.ev hy]
    simp [eqGuard, e]) h
theorem op_shr (hF : Fr n K a) (hg : o.guard = none) {d : Nat} {t t' : TypeId} {x y : Operand} {k k' : IntKind} {p q : Int} (s : Nat) (r : Int) (hd : o.dst = some d) (hlt : Nat.blt d n = true)
    (hop : o.op = .binOp .shr t x y t') (hx : ev K x = some (.int k p)) (hy : ev K y = some (.int k' q)) (hq : q = (s : Int)) (hv : p.fdiv (2 ^ min s k.bits) = r)
    (h : ∀ a', Fr n ((d, .int k r) :: K) a' → wpList P ops Q rest a' w) : wpList P ops Q (o :: rest) a w :=
  op_run hF hg (.int k r) hd hlt (by
    subst hq
    have hn : ¬ ((s : Int) < 0) := by omega
    have e : (binOp .shr t (.int k p) (.int k' (s : Int))).run P w = .ok (.int k r) w := by
      simp only [binOp, Op.shift, if_neg hn, Int.toNat_natCast, hv]
      rfl
    simp only [execOp, hop, hF.ev hx, hF.ev hy]
    simp [eqGuard, e]) h
theorem op_neNil (hF : Fr n K a) (hg : o.guard = none) {d : Nat} {t t' : TypeId} {x : Operand} (hd : o.dst = some d) (hlt : Nat.blt d n = true)
    (hop : o.op = .binOp .neq t x (.const .nilIface) t') (hx : ev K x = some .nilIface) (hT : ∃ ms, P.underlying t = some (.interface ms))
    (h : ∀ a', Fr n ((d, .bool false) :: K) a' → wpList P ops Q rest a' w) : wpList P ops Q (o :: rest) a w :=
  op_run hF hg (.bool false) hd hlt (by
    obtain ⟨ms, hT⟩ := hT
    have e1 : ∀ m, (Op.equalIn (m + 1) t .nilIface .nilIface).run P w = .ok true w := fun m => by simp [Op.equalIn, run_underlying hT]
    have e2 : (Op.equal t .nilIface .nilIface).run P w = .ok true w := e1 9999
    have e : (binOp .neq t .nilIface .nilIface).run P w = .ok (.bool false) w := by
      simp only [binOp, Sem.run_bind, e2, Result.andThen_ok]
      rfl
    have hc : a.eval (.const .nilIface) = .nilIface := rfl
    have hg : eqGuard .neq t x (.const .nilIface) .nilIface .nilIface = pure () := eqGuard_nil_constR ..
    simp only [execOp, hop, hF.ev hx, hc, hg]
    simp [e]) h
theorem op_neNilSl (hF : Fr n K a) (hg : o.guard = none) {d : Nat} {t t' e : TypeId} {x : Operand} {l c : Nat} (hd : o.dst = some d) (hlt : Nat.blt d n = true)
    (hop : o.op = .binOp .neq t x (.const (.slice none 0 0)) t') (hx : ev K x = some (.slice none l c)) (hT : P.underlying t = some (.slice e))
    (h : ∀ a', Fr n ((d, .bool false) :: K) a' → wpList P ops Q rest a' w) : wpList P ops Q (o :: rest) a w :=
  op_run hF hg (.bool false) hd hlt (by
    have e1 : ∀ m, (Op.equalIn (m + 1) t (.slice none l c) (.slice none 0 0)).run P w = .ok true w := fun m => by simp [Op.equalIn, run_underlying hT]
    have e2 : (Op.equal t (.slice none l c) (.slice none 0 0)).run P w = .ok true w := e1 9999
    have e : (binOp .neq t (.slice none l c) (.slice none 0 0)).run P w = .ok (.bool false) w := by
      simp only [binOp, Sem.run_bind, e2, Result.andThen_ok]
      rfl
    have hc : a.eval (.const (.slice none 0 0)) = .slice none 0 0 := rfl
    simp only [execOp, hop, hF.ev hx, hc]
    simp [eqGuard, e]) h
theorem op_fadd (hF : Fr n K a) (hM : Mem B w0 L w) (hg : o.guard = none) {d : Nat} {t t' : TypeId} {x y : Operand} {k : FloatKind} {p q : Nat} (hd : o.dst = some d) (hlt : Nat.blt d n = true)
    (hop : o.op = .binOp .add t x y t') (hx : ev K x = some (.float k p)) (hy : ev K y = some (.float k q))
    (h : ∀ a' w' f, Fr n ((d, .float k f) :: K) a' → Mem B w0 L w' → wpList P ops Q rest a' w') : wpList P ops Q (o :: rest) a w := by
  have key : ∃ f w', (binOp .add t (.float k p) (.float k q)).run P w = .ok (.float k f) w' ∧ (w' = w ∨ w' = w.drew) := by
    cases hr : k.format.add p q with
    | some r => exact ⟨r, w, by simp [binOp, Op.floatArith, hr], .inl rfl⟩
    | none =>
      cases hq : (Question.nanBits k p q).forced with
      | true => exact ⟨_, w, by simp [binOp, Op.floatArith, hr, choose, Sem.run, hq]; rfl, .inl rfl⟩
      | false => exact ⟨_, w.drew, by simp [binOp, Op.floatArith, hr, choose, Sem.run, hq]; rfl, .inr rfl⟩
  obtain ⟨f, w', e, hw⟩ := key
  have hM' : Mem B w0 L w' := by rcases hw with rfl | rfl; exact hM; exact hM.drew
  refine op_run hF hg (.float k f) (w' := w') hd hlt ?_ (fun a' hF' => h a' w' f hF' hM')
  simp only [execOp, hop, hF.ev hx, hF.ev hy]
  simp [eqGuard, e]
theorem op_strBytes (hF : Fr n K a) (hM : Mem B w0 L w) (hg : o.guard = none) {d : Nat} {x : Operand} {s : List UInt8} (hd : o.dst = some d) (hlt : Nat.blt d n = true) (hop : o.op = .convert 9 66 x) (hP : P = Tryz.prog) (hx : ev K x = some (.string (mkS s)))
    (h : ∀ a' w' b c, Fr n ((d, .slice (some ⟨b, 0, none⟩) s.length c) :: K) a' → Mem B w0 L w' → b < w'.heap.size → (∀ j u, s[j]? = some u → w'.cell? ⟨b, j, none⟩ = some (.int .u8 (u.toNat : Int))) → wpList P ops Q rest a' w') : wpList P ops Q (o :: rest) a w := by
  subst hP
  have hr := Lib.run_convert_string_bytes (P := Tryz.prog) w 9 66 5 (mkS s) Tryz.underlying9 Tryz.underlying66 Tryz.underlying5
  rw [mkS_size] at hr
  refine op_run hF hg (.slice (some ⟨w.heap.size, 0, none⟩) s.length (grownCap w s.length 0 5)) (w' := Lib.bytesWorld w 5 (mkS s)) hd hlt ?_ (fun a' hF' => h a' _ w.heap.size _ hF' ?_ ?_ ?_)
  · simp only [execOp, hop, hF.ev hx]
    simp [hr]
  · exact hM.step ⟨rfl, rfl, rfl, by rw [Lib.bytesWorld_size]; omega, fun k hk => Lib.bytesWorld_at_old _ _ _ _ hk⟩
  · rw [Lib.bytesWorld_size]; omega
  · intro j u hj
    have hl := (List.getElem?_eq_some_iff.1 hj).1
    rw [Lib.bytesWorld_cell _ _ _ _ (by rw [mkS_size]; exact hl)]
    have : (mkS s).data.toList.getD j 0 = u := by
      show s.getD j 0 = u
      rw [List.getD_eq_getElem?_getD, hj]
      rfl
    rw [this]
theorem row_keep {w w' : World} {b : Nat} {s : List UInt8} (h : ∀ j u, s[j]? = some u → w.cell? ⟨b, j, none⟩ = some (.int .u8 (u.toNat : Int))) (hb : b < w.heap.size) (hB : Below w.heap.size w w') :
    ∀ j u, s[j]? = some u → w'.cell? ⟨b, j, none⟩ = some (.int .u8 (u.toNat : Int)) := fun j u hj => (hB.cell hb).trans (h j u hj)
def setL (vs : List Value) (o : Nat) : List Value → List Value
  | [] => vs
  | x :: r => setL (vs.set o x) (o + 1) r
theorem setL_eq : ∀ (l vs : List Value) (o : Nat), o + l.length ≤ vs.length → setL vs o l = vs.take o ++ l ++ vs.drop (o + l.length)
  | [], vs, o, _ => by simp [setL]
  | x :: r, vs, o, h => by
    simp only [List.length_cons] at h
    rw [setL, setL_eq r (vs.set o x) (o + 1) (by rw [List.length_set]; omega)]
    have h1 : (vs.set o x).take (o + 1) = vs.take o ++ [x] := by
      rw [List.take_add_one, List.take_set_of_le (Nat.le_refl _), List.getElem?_set_self (by omega)]
      rfl
    have h2 : (vs.set o x).drop (o + 1 + r.length) = vs.drop (o + 1 + r.length) := List.drop_set_of_lt (by omega)
    rw [h1, h2, List.length_cons, show o + (r.length + 1) = o + 1 + r.length by omega]
    simp
theorem row_enc {vs vq z : List Value} {out e : List UInt8} (hrow : vs.take out.length = u8s out) (hq : vq.take (out.length + 8) = vs.take out.length ++ z) (hl : out.length + 8 ≤ vq.length) (he : e.length ≤ 4) :
    (vq.take out.length ++ u8s e ++ vq.drop (out.length + e.length)).length = vq.length ∧ (vq.take out.length ++ u8s e ++ vq.drop (out.length + e.length)).take (out ++ e).length = u8s (out ++ e) := by
  have h1 : vq.take out.length = u8s out := by
    have := congrArg (List.take out.length) hq
    rw [List.take_take, Nat.min_eq_left (by omega), hrow] at this
    rw [this, List.take_append_of_le_length (by rw [u8s_length]; exact Nat.le_refl _), List.take_of_length_le (by rw [u8s_length]; exact Nat.le_refl _)]
  refine ⟨by simp [u8s_length]; omega, ?_⟩
  rw [h1, u8s_append, List.take_append_of_le_length (by simp [u8s_length])]
  rw [List.take_of_length_le (by simp [u8s_length])]
theorem u8_nat (m : Nat) : IntKind.u8.wrap (m : Int) = ((m % 256 : Nat) : Int) := by rw [IntKind.wrap_u8]; omega
theorem ofInt_nat (m p : Nat) : BitVec.ofInt m (p : Int) = BitVec.ofNat m p := by
  apply BitVec.eq_of_toNat_eq
  simp [BitVec.toNat_ofInt]
theorem or_u8 {p q : Nat} (hp : p < 256) (hq : q < 256) : bitVal .or .u8 (p : Int) (q : Int) = some ((p ||| q : Nat) : Int) := by
  have h : p ||| q < 256 := Nat.or_lt_two_pow (n := 8) hp hq
  simp only [bitVal, ofInt_nat, BitVec.toNat_or, BitVec.toNat_ofNat]
  rw [show IntKind.u8.bits = 8 from rfl, Nat.mod_eq_of_lt hp, Nat.mod_eq_of_lt hq, IntWalk.u8_in _ ⟨by omega, by omega⟩]
theorem and_u8 {p q : Nat} (hp : p < 256) (hq : q < 256) : bitVal .and .u8 (p : Int) (q : Int) = some ((p &&& q : Nat) : Int) := by
  have h : p &&& q < 256 := Nat.lt_of_le_of_lt Nat.and_le_left hp
  simp only [bitVal, ofInt_nat, BitVec.toNat_and, BitVec.toNat_ofNat]
  rw [show IntKind.u8.bits = 8 from rfl, Nat.mod_eq_of_lt hp, Nat.mod_eq_of_lt hq, IntWalk.u8_in _ ⟨by omega, by omega⟩]
theorem or_i32 {p q : Nat} (hp : p < 2147483648) (hq : q < 2147483648) : bitVal .or .i32 (p : Int) (q : Int) = some ((p ||| q : Nat) : Int) := by
  have h : p ||| q < 2147483648 := Nat.or_lt_two_pow (n := 31) hp hq
  simp only [bitVal, ofInt_nat, BitVec.toNat_or, BitVec.toNat_ofNat]
  rw [show IntKind.i32.bits = 32 from rfl, Nat.mod_eq_of_lt (by omega), Nat.mod_eq_of_lt (by omega), IntWalk.i32_in _ ⟨by omega, by omega⟩]
end
end Go.Sx
namespace Go.Sx
open Go.RowKit Go.Proofs Go.Proofs.YtelonenjneonlaaGreatDoorW.PrintWords
section
variable {P : Program} {n : Nat} {K : List (Nat × Value)} {a : Act} {w : World} {Q : Exit → Act → World → Prop} {ops : Array Oper} {rest : List Oper} {o : Oper} {B : Nat} {w0 : World} {L : List Bk}
theorem toList_mkS (l : List UInt8) : (mkS l).toList = l := by rw [ByteArray.toList_eq]; simp [mkS]
theorem op_eqlStr (hF : Fr n K a) (hg : o.guard = none) {d : Nat} {t t' : TypeId} {x y : Operand} {l r : List UInt8} (hd : o.dst = some d) (hlt : Nat.blt d n = true)
    (hop : o.op = .binOp .eql t x y t') (hx : ev K x = some (.string (mkS l))) (hy : ev K y = some (.string (mkS r)))
    (h : ∀ a', Fr n ((d, .bool (l == r)) :: K) a' → wpList P ops Q rest a' w) : wpList P ops Q (o :: rest) a w :=
  op_run hF hg (.bool (l == r)) hd hlt (by
    have e : (binOp .eql t (.string (mkS l)) (.string (mkS r))).run P w = .ok (.bool (l == r)) w := by
      rw [binOp_string_eql, toList_mkS, toList_mkS]; rfl
    simp only [execOp, hop, hF.ev hx, hF.ev hy]
    simp [eqGuard, e]) h
theorem op_neqStr (hF : Fr n K a) (hg : o.guard = none) {d : Nat} {t t' : TypeId} {x y : Operand} {l r : List UInt8} (hd : o.dst = some d) (hlt : Nat.blt d n = true)
    (hop : o.op = .binOp .neq t x y t') (hx : ev K x = some (.string (mkS l))) (hy : ev K y = some (.string (mkS r)))
    (h : ∀ a', Fr n ((d, .bool (!(l == r))) :: K) a' → wpList P ops Q rest a' w) : wpList P ops Q (o :: rest) a w :=
  op_run hF hg (.bool (!(l == r))) hd hlt (by
    have e : (binOp .neq t (.string (mkS l)) (.string (mkS r))).run P w = .ok (.bool (!(l == r))) w := by
      rw [binOp_string_neq, toList_mkS, toList_mkS]; rfl
    simp only [execOp, hop, hF.ev hx, hF.ev hy]
    simp [eqGuard, e]) h
theorem op_makeFunc (hF : Fr n K a) (hg : o.guard = none) {d : Nat} {f : FuncId} {l : List Operand} {vals : List Value} (hd : o.dst = some d) (hlt : Nat.blt d n = true)
    (hop : o.op = .makeFunc (.func f) #[] l.toArray) (hargs : evs K l = some vals)
    (h : ∀ a', Fr n ((d, .func (.func f) #[] vals.toArray) :: K) a' → wpList P ops Q rest a' w) : wpList P ops Q (o :: rest) a w :=
  op_run hF hg (.func (.func f) #[] vals.toArray) hd hlt (by
    have := hF.evs l vals hargs
    simp only [execOp, hop, Instr.makeFunc, List.map_toArray, this]
    simp) h
theorem mem_append_nil (hM : Mem B w0 L w) {ad : Addr} {m c : Nat} {news : List Value} (ty : TypeId) (hm : 0 < m)
    (hl : news.length = m) (hnews : ∀ j u, news[j]? = some u → w.cell? (ad.add j) = some u) (h1 : ∀ u ∈ news, u.oneCell' = true) (hs : m ≤ 2 ^ 46) :
    ∃ b' vs' w', (Builtin.append_ #[66, 66] ty #[.slice none 0 0, .slice (some ad) m c]).run Tryz.prog w = .ok (.slice (some ⟨b', 0, none⟩) m vs'.length) w' ∧
      m ≤ vs'.length ∧ vs'.length ≤ maxLen ∧ vs'.take m = news ∧ Mem B w0 ((b', 5, vs') :: L) w' := by
  obtain ⟨i, hi, hz, hz1, hz2⟩ := info5
  obtain ⟨v', w', hr, ho, hg, hnil, hat⟩ := run_append_own_at (P := Tryz.prog) w B 66 ty 5 i (.int .u8 0) 1 1 Tryz.underlying66 hi hz hz1 hz2 rfl (by omega) (.slice none 0 0) 0 [] ⟨rfl, .inl ⟨rfl, rfl⟩⟩ ad m c news (by omega) hnews h1 (by simp only [maxLen]; omega) (by omega) hM.base
  simp only [Nat.zero_add, List.nil_append] at ho
  rcases ho.2 with ⟨rfl, _⟩ | ⟨g, cap, cur, rfl, hb, hh, hnc, hcm, hcs, ht⟩
  · have := (hnil.1 rfl).2; omega
  · have hgw : g = w.heap.size := by rcases hat with h | h <;> simp [Value.ownBlock] at h; exact h
    have hlen : cur.toList.length = cap := by simp [hcs]
    have hold : ∀ k, k < w.heap.size → w'.heap[k]? = w.heap[k]? := fun k hk => hg.block k hk (by simp [Value.ownBlock])
    refine ⟨g, cur.toList, w', by rw [hlen]; exact hr, by rw [hlen]; exact hnc, by rw [hlen]; exact hcm, by simpa using ht, hM.below.grown hg hM.base (fun k' e => by simp [Value.ownBlock] at e), Nat.le_trans hM.base hg.size, ?_, ?_⟩
    · intro x hx
      rcases List.mem_cons.1 hx with rfl | hx
      · exact ⟨hb, by simpa using hh⟩
      · have h3 := hM.held x hx
        exact ⟨h3.1, (hold _ (blk_lt h3.2)).trans h3.2⟩
    · refine List.pairwise_cons.2 ⟨fun x hx => ?_, hM.apart⟩
      have := blk_lt (hM.held x hx).2
      simp only; omega
theorem op_appendNil (hF : Fr n K a) (hM : Mem B w0 L w) (hg : o.guard = none) {d : Nat} {x y : Operand} {m c : Nat} {ad : Addr} (news : List Value) (hd : o.dst = some d) (hlt : Nat.blt d n = true)
    (hop : o.op = .call { callee := .builtin .append, args := #[x, y], argTypes := #[66, 66] }) (hx : ev K x = some (.slice none 0 0)) (hy : ev K y = some (.slice (some ad) m c)) (hm : 0 < m)
    (hl : news.length = m) (hnews : ∀ j u, news[j]? = some u → w.cell? (ad.add j) = some u) (h1 : ∀ u ∈ news, u.oneCell' = true) (hs : m ≤ 2 ^ 46)
    (h : ∀ a' w' b' vs', Fr n ((d, .slice (some ⟨b', 0, none⟩) m vs'.length) :: K) a' → m ≤ vs'.length → vs'.length ≤ maxLen → vs'.take m = news → Mem B w0 ((b', 5, vs') :: L) w' → wpList Tryz.prog ops Q rest a' w') :
    wpList Tryz.prog ops Q (o :: rest) a w := by
  obtain ⟨b', vs', w', hr, h2, h3, h4, h5⟩ := mem_append_nil (c := c) hM o.type hm hl hnews h1 hs
  refine op_run hF hg (.slice (some ⟨b', 0, none⟩) m vs'.length) (w' := w') hd hlt ?_ (fun a' hF' => h a' w' b' vs' hF' h2 h3 h4 h5)
  simp only [execOp, hop, resolve, invoke, builtin, List.map_toArray, List.map_cons, List.map_nil, hF.ev hx, hF.ev hy]
  simp [hr]
end
end Go.Sx
