/- Part 1 of the proof of FnGjJoinKeys: the statement Rows.FnGjJoinKeysCardSaid; no further condition. -/
import Derived.Test.YtelonenjneonlaaGreatDoorK00
import Derived.Calls
import Derived.Great.BuildSlice
import Derived.Laws.BytesString
import Derived.Laws.Entries
import Derived.Laws.MakeOwn
import Derived.Lib.AppendStr
import Derived.Lib.ConvBytes
import Derived.Maps.AppendAt
import Derived.Test.YtelonenjneonlaaGreatDoorProg
set_option linter.all false
namespace Go.Sx
open Go.RowKit Go.Proofs Go.Proofs.YtelonenjneonlaaGreatDoorW.PrintWords
def u8s (l : List UInt8) : List Value := l.map fun c => .int .u8 (c.toNat : Int)
theorem u8s_length (l : List UInt8) : (u8s l).length = l.length := by simp [u8s]
theorem u8s_append (l r : List UInt8) : u8s (l ++ r) = u8s l ++ u8s r := by simp [u8s]
theorem u8s_one (l : List UInt8) : ∀ u ∈ u8s l, u.oneCell' = true := by
  intro u hu
  obtain ⟨c, _, rfl⟩ := List.mem_map.1 hu
  rfl
theorem strCells_mkS (l : List UInt8) : Lib.strCells (mkS l) = u8s l := by
  simp [Lib.strCells, mkS, u8s]
variable {B : Nat} {w0 w : World} {L : List Bk}
theorem mem_row_after (hM : Mem B w0 L w) {k b : Nat} {vs : List Value} (hk : L[k]? = some (b, 5, vs)) {v' : Value} {w' : World} {n' : Nat} {xs' : List Value} (ho : w'.ownsRow B 5 1 v' n' xs') (hg : w.grownBy w' (some b))
    (hat : v'.ownBlock = some b ∨ v'.ownBlock = some w.heap.size) :
    ∃ b' vs', v' = .slice (some ⟨b', 0, none⟩) n' vs'.length ∧ n' ≤ vs'.length ∧ vs'.length ≤ maxLen ∧ vs'.take n' = xs' ∧ Mem B w0 ((b', 5, vs') :: L.eraseIdx k) w' := by
  rcases ho.2 with ⟨rfl, _⟩ | ⟨g, cap, cur, rfl, hb, hh, hnc, hcm, hcs, ht⟩
  · rcases hat with h | h <;> simp [Value.ownBlock] at h
  · have hgb : g = b ∨ g = w.heap.size := by simpa [Value.ownBlock] using hat
    have hlen : cur.toList.length = cap := by simp [hcs]
    have hmem : ∀ x ∈ L.eraseIdx k, x ∈ L ∧ x.1 ≠ b := by
      intro x hx
      obtain ⟨j, hj, hne, rfl⟩ := List.mem_eraseIdx_iff_getElem.1 hx
      exact ⟨List.getElem_mem _, apart_ne hM.apart (List.getElem?_eq_getElem hj) hk hne⟩
    refine ⟨g, cur.toList, by rw [hlen], by rw [hlen]; exact hnc, by rw [hlen]; exact hcm, by simpa using ht, hM.below.grown hg hM.base (fun k' e => by cases e; exact (hM.blk hk).1), Nat.le_trans hM.base hg.size, ?_, ?_⟩
    · intro x hx
      rcases List.mem_cons.1 hx with rfl | hx
      · exact ⟨hb, by simpa using hh⟩
      · obtain ⟨h1, h2⟩ := hmem x hx
        have h3 := hM.held x h1
        exact ⟨h3.1, (hg.block _ (blk_lt h3.2) (fun e => h2 (Option.some.inj e))).trans h3.2⟩
    · refine List.pairwise_cons.2 ⟨fun x hx => ?_, hM.apart.sublist (List.eraseIdx_sublist ..)⟩
      obtain ⟨h1, h2⟩ := hmem x hx
      have h3 := blk_lt (hM.held x h1).2
      rcases hgb with rfl | rfl
      · exact Ne.symm h2
      · simp only; omega
theorem mem_owns (hM : Mem B w0 L w) {k b n : Nat} {vs : List Value} (hk : L[k]? = some (b, 5, vs)) (hn : n ≤ vs.length) (hc : vs.length ≤ maxLen) : w.ownsRow B 5 1 (.slice (some ⟨b, 0, none⟩) n vs.length) n (vs.take n) :=
  ⟨by simp; omega, .inr ⟨b, vs.length, vs.toArray, rfl, (hM.blk hk).1, (hM.blk hk).2, hn, hc, by simp, by simp⟩⟩
theorem info5 : ∃ i, Tryz.prog.info? 5 = some i ∧ i.zero = some (.int .u8 0) ∧ i.size = 1 ∧ i.bytes = 1 := by
  have h : (Tryz.prog.info? 5).map (fun i => (i.zero, i.size, i.bytes)) = some (some (.int .u8 0), 1, 1) := by kernel_rfl
  obtain ⟨i, hi, h⟩ := Option.map_eq_some_iff.1 h
  simp only [Prod.mk.injEq] at h
  exact ⟨i, hi, h.1, h.2.1, h.2.2⟩
theorem mem_append (hM : Mem B w0 L w) {k b n : Nat} {vs : List Value} (hk : L[k]? = some (b, 5, vs)) (hn : n ≤ vs.length) (hc : vs.length ≤ maxLen) {ad : Addr} {m c : Nat} {news : List Value} (ty : TypeId)
    (hl : news.length = m) (hnews : ∀ j u, news[j]? = some u → w.cell? (ad.add j) = some u) (h1 : ∀ u ∈ news, u.oneCell' = true) (hs : n + m ≤ 2 ^ 46) :
    ∃ b' vs' w', (Builtin.append_ #[66, 66] ty #[.slice (some ⟨b, 0, none⟩) n vs.length, .slice (some ad) m c]).run Tryz.prog w = .ok (.slice (some ⟨b', 0, none⟩) (n + m) vs'.length) w' ∧
      n + m ≤ vs'.length ∧ vs'.length ≤ maxLen ∧ vs'.take (n + m) = vs.take n ++ news ∧ Mem B w0 ((b', 5, vs') :: L.eraseIdx k) w' ∧ w.grownBy w' (some b) := by
  obtain ⟨i, hi, hz, hz1, hz2⟩ := info5
  obtain ⟨v', w', hr, ho, hg, -, hat⟩ := run_append_own_at (P := Tryz.prog) w B 66 ty 5 i (.int .u8 0) 1 1 Tryz.underlying66 hi hz hz1 hz2 rfl (by omega) _ n _ (mem_owns hM hk hn hc) ad m c news (by omega) hnews h1 (by simp only [maxLen]; omega) (by omega) hM.base
  obtain ⟨b', vs', rfl, h2, h3, h4, h5⟩ := mem_row_after hM hk ho hg hat
  exact ⟨b', vs', w', hr, h2, h3, h4, h5, hg⟩
theorem mem_append_str (hM : Mem B w0 L w) {k b n : Nat} {vs : List Value} (hk : L[k]? = some (b, 5, vs)) (hn : n ≤ vs.length) (hc : vs.length ≤ maxLen) (s : List UInt8) (ty : TypeId) (hs : n + s.length ≤ 2 ^ 46) :
    ∃ b' vs' w', (Builtin.append_ #[66, 9] ty #[.slice (some ⟨b, 0, none⟩) n vs.length, .string (mkS s)]).run Tryz.prog w = .ok (.slice (some ⟨b', 0, none⟩) (n + s.length) vs'.length) w' ∧
      n + s.length ≤ vs'.length ∧ vs'.length ≤ maxLen ∧ vs'.take (n + s.length) = vs.take n ++ u8s s ∧ Mem B w0 ((b', 5, vs') :: L.eraseIdx k) w' ∧ w.grownBy w' (some b) := by
  obtain ⟨i, hi, hz, hz1, hz2⟩ := info5
  obtain ⟨v', w', hr, ho, hg, -⟩ := Lib.run_append_own_string (P := Tryz.prog) w B 66 9 ty 5 i Tryz.underlying66 Tryz.underlying9 hi hz hz1 hz2 _ n _ (mem_owns hM hk hn hc) (mkS s) (by rw [mkS_size]; simp only [maxLen]; omega) (by rw [mkS_size]; omega) hM.base
  have hat : v'.ownBlock = some b ∨ v'.ownBlock = some w.heap.size := by
    by_cases hroom : n + s.length ≤ vs.length
    · have e := Lib.run_append_room_string (P := Tryz.prog) w 66 9 ty 5 i Tryz.underlying66 Tryz.underlying9 hi hz1 b n vs.length vs.toArray (hM.blk hk).2 (mkS s) (by rw [mkS_size]; exact hroom) (by rw [mkS_size]; simpa using hroom)
      rw [hr] at e
      injection e with e _
      rw [e]
      exact .inl rfl
    · have e := Lib.run_append_grow_string (P := Tryz.prog) w 66 9 ty 5 i (.int .u8 0) Tryz.underlying66 Tryz.underlying9 hi hz ⟨b, 0, none⟩ n vs.length (vs.take n) (by rw [hz1]; simp; omega) (mem_owns hM hk hn hc |>.cells (g := b) rfl) (mkS s) (by rw [mkS_size]; omega) (by rw [mkS_size]; omega)
        (by rw [hz2]; exact growslice_fits (by rw [mkS_size]; omega) (by rw [mkS_size]; omega))
      rw [hr] at e
      injection e with e _
      rw [e]
      exact .inr rfl
  rw [mkS_size, strCells_mkS] at ho
  obtain ⟨b', vs', rfl, h2, h3, h4, h5⟩ := mem_row_after hM hk ho hg hat
  exact ⟨b', vs', w', hr, h2, h3, h4, h5, hg⟩
section
variable {n : Nat} {K : List (Nat × Value)} {a : Act} {Q : Exit → Act → World → Prop} {ops : Array Oper} {rest : List Oper} {o : Oper}
theorem op_append (hF : Fr n K a) (hM : Mem B w0 L w) (hg : o.guard = none) {d : Nat} {x y : Operand} {k b m c : Nat} {vs : List Value} {ad : Addr} (news : List Value) (hd : o.dst = some d) (hlt : Nat.blt d n = true)
    (hop : o.op = .call { callee := .builtin .append, args := #[x, y], argTypes := #[66, 66] }) {l : Nat} (hx : ev K x = some (.slice (some ⟨b, 0, none⟩) l vs.length)) (hy : ev K y = some (.slice (some ad) m c))
    (hk : L[k]? = some (b, 5, vs)) (hn : l ≤ vs.length) (hc : vs.length ≤ maxLen) (hl : news.length = m) (hnews : ∀ j u, news[j]? = some u → w.cell? (ad.add j) = some u) (h1 : ∀ u ∈ news, u.oneCell' = true) (hs : l + m ≤ 2 ^ 46)
    (h : ∀ a' w' b' vs', Fr n ((d, .slice (some ⟨b', 0, none⟩) (l + m) vs'.length) :: K) a' → l + m ≤ vs'.length → vs'.length ≤ maxLen → vs'.take (l + m) = vs.take l ++ news → Mem B w0 ((b', 5, vs') :: L.eraseIdx k) w' → wpList Tryz.prog ops Q rest a' w') :
    wpList Tryz.prog ops Q (o :: rest) a w := by
  obtain ⟨b', vs', w', hr, h2, h3, h4, h5, _⟩ := mem_append (c := c) hM hk hn hc o.type hl hnews h1 hs
  refine op_run hF hg (.slice (some ⟨b', 0, none⟩) (l + m) vs'.length) (w' := w') hd hlt ?_ (fun a' hF' => h a' w' b' vs' hF' h2 h3 h4 h5)
  simp only [execOp, hop, resolve, invoke, builtin, List.map_toArray, List.map_cons, List.map_nil, hF.ev hx, hF.ev hy]
  simp [hr]
theorem op_append_str (hF : Fr n K a) (hM : Mem B w0 L w) (hg : o.guard = none) {d : Nat} {x y : Operand} {k b : Nat} {vs : List Value} {s : List UInt8} (hd : o.dst = some d) (hlt : Nat.blt d n = true)
    (hop : o.op = .call { callee := .builtin .append, args := #[x, y], argTypes := #[66, 9] }) {l : Nat} (hx : ev K x = some (.slice (some ⟨b, 0, none⟩) l vs.length)) (hy : ev K y = some (.string (mkS s)))
    (hk : L[k]? = some (b, 5, vs)) (hn : l ≤ vs.length) (hc : vs.length ≤ maxLen) (hs : l + s.length ≤ 2 ^ 46)
    (h : ∀ a' w' b' vs', Fr n ((d, .slice (some ⟨b', 0, none⟩) (l + s.length) vs'.length) :: K) a' → l + s.length ≤ vs'.length → vs'.length ≤ maxLen → vs'.take (l + s.length) = vs.take l ++ u8s s → Mem B w0 ((b', 5, vs') :: L.eraseIdx k) w' → wpList Tryz.prog ops Q rest a' w') :
    wpList Tryz.prog ops Q (o :: rest) a w := by
  obtain ⟨b', vs', w', hr, h2, h3, h4, h5, _⟩ := mem_append_str hM hk hn hc s o.type hs
  refine op_run hF hg (.slice (some ⟨b', 0, none⟩) (l + s.length) vs'.length) (w' := w') hd hlt ?_ (fun a' hF' => h a' w' b' vs' hF' h2 h3 h4 h5)
  simp only [execOp, hop, resolve, invoke, builtin, List.map_toArray, List.map_cons, List.map_nil, hF.ev hx, hF.ev hy]
  simp [hr]
theorem Mem.cells (hM : Mem B w0 L w) {k b : Nat} {t : TypeId} {vs : List Value} (hk : L[k]? = some (b, t, vs)) (j : Nat) {u : Value} (hu : vs[j]? = some u) : w.cell? ((⟨b, 0, none⟩ : Addr).add j) = some u := by
  have hadd : (⟨b, 0, none⟩ : Addr).add j = ⟨b, j, none⟩ := by unfold Addr.add; split <;> simp_all
  rw [hadd, blk_cell (hM.blk hk).2]
  simpa using hu
theorem op_indexAddr_sl (hF : Fr n K a) (hg : o.guard = none) {d : Nat} {x i : Operand} {t e : TypeId} {b off l c : Nat} {k : IntKind} {z : Int} (j : Nat) (hd : o.dst = some d) (hlt : Nat.blt d n = true)
    (hop : o.op = .indexAddr t x i) (hT : Tryz.prog.underlying t = some (.slice e)) (hs : (Tryz.prog.info? e).map (·.size) = some 1) (hx : ev K x = some (.slice (some ⟨b, off, none⟩) l c)) (hi : ev K i = some (.int k z)) (hz : z = (j : Int)) (hj : j < l)
    (h : ∀ a', Fr n ((d, .pointer (some ⟨b, off + j, none⟩)) :: K) a' → wpList Tryz.prog ops Q rest a' w) : wpList Tryz.prog ops Q (o :: rest) a w :=
  op_run hF hg _ hd hlt (by
    subst hz
    obtain ⟨ie, he, hsz⟩ := Option.map_eq_some_iff.1 hs
    have e2 : (sizeOf e).run Tryz.prog w = .ok 1 w := by simp [sizeOf, typeInfo, he, hsz]
    have hadd : (⟨b, off, none⟩ : Addr).add j = ⟨b, off + j, none⟩ := by unfold Addr.add; split <;> simp_all
    simp only [execOp, hop, hF.ev hx, hF.ev hi]
    simp [Instr.indexAt, run_underlying hT, Instr.sureAddr, asIntOf, hj, e2, hadd]) h
theorem op_slice_slFrom (hF : Fr n K a) (hg : o.guard = none) {d : Nat} {x i : Operand} {b off l c : Nat} {k : IntKind} {y : Int} (p : Nat) (hd : o.dst = some d) (hlt : Nat.blt d n = true)
    (hop : o.op = .slice 66 x (some i) none none) (hx : ev K x = some (.slice (some ⟨b, off, none⟩) l c)) (hi : ev K i = some (.int k y)) (hy : y = (p : Int)) (hp : p ≤ l) (hc : p < c)
    (h : ∀ a', Fr n ((d, .slice (some ⟨b, off + p, none⟩) (l - p) (c - p)) :: K) a' → wpList Tryz.prog ops Q rest a' w) : wpList Tryz.prog ops Q (o :: rest) a w :=
  op_run hF hg _ hd hlt (by
    subst hy
    obtain ⟨i5, hi5, -, hz1, -⟩ := info5
    have hadd : (⟨b, off, none⟩ : Addr).add p = ⟨b, off + p, none⟩ := by unfold Addr.add; split <;> simp_all
    have hcp : ¬ c = p := by omega
    have e : (Instr.slice 66 (.slice (some ⟨b, off, none⟩) l c) (some (.int k (p : Int))) none none).run Tryz.prog w = .ok (.slice (some ⟨b, off + p, none⟩) (l - p) (c - p)) w := by
      simp [Instr.slice, Instr.sliceBounds, Instr.sliceBound, asIntOf, run_underlying Tryz.underlying66, hp, sizeOf, typeInfo, hi5, hz1, hcp, hadd]
    simp only [execOp, hop, Option.map_some, Option.map_none, hF.ev hx, hF.ev hi, Instr.sliceAt]
    simp [run_underlying Tryz.underlying66, e]) h
theorem op_slice_slTo (hF : Fr n K a) (hg : o.guard = none) {d : Nat} {x j : Operand} {b off l c : Nat} {k : IntKind} {z : Int} (q : Nat) (hd : o.dst = some d) (hlt : Nat.blt d n = true)
    (hop : o.op = .slice 66 x none (some j) none) (hx : ev K x = some (.slice (some ⟨b, off, none⟩) l c)) (hj : ev K j = some (.int k z)) (hz : z = (q : Int)) (hq : q ≤ c)
    (h : ∀ a', Fr n ((d, .slice (some ⟨b, off, none⟩) q c) :: K) a' → wpList Tryz.prog ops Q rest a' w) : wpList Tryz.prog ops Q (o :: rest) a w :=
  op_run hF hg _ hd hlt (by
    subst hz
    obtain ⟨i5, hi5, -, hz1, -⟩ := info5
    have hadd : (⟨b, off, none⟩ : Addr).add 0 = ⟨b, off, none⟩ := by unfold Addr.add; split <;> simp_all
    have e : (Instr.slice 66 (.slice (some ⟨b, off, none⟩) l c) none (some (.int k (q : Int))) none).run Tryz.prog w = .ok (.slice (some ⟨b, off, none⟩) q c) w := by
      simp [Instr.slice, Instr.sliceBounds, Instr.sliceBound, asIntOf, run_underlying Tryz.underlying66, hq, sizeOf, typeInfo, hi5, hz1, hadd]
    simp only [execOp, hop, Option.map_some, Option.map_none, hF.ev hx, hF.ev hj, Instr.sliceAt]
    simp [run_underlying Tryz.underlying66, e]) h
theorem op_make (hF : Fr n K a) (hM : Mem B w0 L w) (hg : o.guard = none) {d : Nat} {x y : Operand} {k k' : IntKind} {z : Int} (c : Nat) (hd : o.dst = some d) (hlt : Nat.blt d n = true) (hop : o.op = .makeSlice 66 x y)
    (hx : ev K x = some (.int k 0)) (hy : ev K y = some (.int k' z)) (hz : z = (c : Int)) (hc : c ≤ 2 ^ 46)
    (h : ∀ a' w' b vs, Fr n ((d, .slice (some ⟨b, 0, none⟩) 0 vs.length) :: K) a' → vs.length = c → Mem B w0 ((b, 5, vs) :: L) w' → wpList Tryz.prog ops Q rest a' w') : wpList Tryz.prog ops Q (o :: rest) a w := by
  subst hz
  obtain ⟨i, hi, hz, hz1, hz2⟩ := info5
  have hr := run_make (P := Tryz.prog) w 66 5 i (.int .u8 0) Tryz.underlying66 hi hz k k' 0 (c : Int) (Int.le_refl _) (by omega) (by rw [hz2]; omega) (by omega)
  have hl : (madeCells (Value.int .u8 0).cells ((c : Int).toNat * i.size)).toList.length = c := by rw [hz1]; simp [size_madeCells]
  refine op_run hF hg (.slice (some ⟨w.heap.size, 0, none⟩) 0 c) (w' := w.alloc (.cells (madeCells (Value.int .u8 0).cells ((c : Int).toNat * i.size)) 5)) hd hlt ?_ (fun a' hF' => h a' _ w.heap.size _ (by rw [hl]; exact hF') hl ?_)
  · simp only [execOp, hop, hF.ev hx, hF.ev hy]
    simp [hr]
  · have := hM.alloc 5 (madeCells (Value.int .u8 0).cells ((c : Int).toNat * i.size)).toList
    simpa using this
theorem op_build (hF : Fr n K a) (hM : Mem B w0 L w) (hg : o.guard = none) {d m : Nat} {parts : List (Nat × Operand)} {vals : List (Nat × Value)} (vs : List Value) (hd : o.dst = some d) (hlt : Nat.blt d n = true) (hop : o.op = .buildSlice 66 m parts.toArray)
    (hv : parts.map (fun x => (x.1, ev K x.2)) = vals.map (fun x => (x.1, some x.2))) (hm : 0 < m) (hm2 : m ≤ 2 ^ 24)
    (hf : Instr.fill (fun i => some (i * 1, 1)) ((Array.range (m * 1)).map ((Value.int .u8 0).cells[· % (Value.int .u8 0).cells.size]!)) vals = some vs.toArray)
    (h : ∀ a' w' b, Fr n ((d, .slice (some ⟨b, 0, none⟩) m m) :: K) a' → Mem B w0 ((b, 5, vs) :: L) w' → wpList Tryz.prog ops Q rest a' w') : wpList Tryz.prog ops Q (o :: rest) a w := by
  obtain ⟨i, hi, hz, hz1, hz2⟩ := info5
  have hval : parts.map (fun x => (x.1, a.eval x.2)) = vals := by
    clear hop hf h
    induction parts generalizing vals with
    | nil => cases vals with
      | nil => rfl
      | cons => simp at hv
    | cons x parts ih => cases vals with
      | nil => simp at hv
      | cons y vals =>
        simp only [List.map_cons, List.cons.injEq, Prod.mk.injEq] at hv ⊢
        obtain ⟨⟨h1, h2⟩, h3⟩ := hv
        refine ⟨?_, ih h3⟩
        rw [h1, hF.ev h2]
  have hr := run_buildSlice (P := Tryz.prog) w 66 5 m vals.toArray vs.toArray i (.int .u8 0) Tryz.underlying66 hi hz (by rw [hz1]; omega) (by rw [hz1]; omega) (by rw [hz1]; exact hf)
  refine op_run hF hg (.slice (some ⟨w.heap.size, 0, none⟩) m m) (w' := w.alloc (.cells vs.toArray 5)) hd hlt ?_ (fun a' hF' => h a' _ w.heap.size hF' (hM.alloc 5 vs))
  simp only [execOp, hop]
  have e : (parts.toArray.map fun x => (x.1, a.eval x.2)) = vals.toArray := by rw [List.map_toArray, hval]
  have e2 : (Array.map (fun x => match x with | (i, x) => (i, a.eval x)) parts.toArray) = vals.toArray := e
  rw [e2]
  simp [hr]
theorem op_bytesStr (hF : Fr n K a) (hM : Mem B w0 L w) (hg : o.guard = none) {d k b l : Nat} {x : Operand} {vs : List Value} (bs : List UInt8) (hd : o.dst = some d) (hlt : Nat.blt d n = true) (hop : o.op = .convert 66 9 x)
    {c : Nat} (hx : ev K x = some (.slice (some ⟨b, 0, none⟩) l c)) (hk : L[k]? = some (b, 5, vs)) (hv : vs.take l = u8s bs) (hl : l = bs.length)
    (h : ∀ a', Fr n ((d, .string (mkS bs)) :: K) a' → wpList Tryz.prog ops Q rest a' w) : wpList Tryz.prog ops Q (o :: rest) a w :=
  op_run hF hg _ hd hlt (by
    have hr := run_convert_bytes_arg (P := Tryz.prog) w 66 5 Tryz.underlying66 Tryz.underlying5 b 0 l c (bs.map fun c => (c.toNat : Int)) (by simp [hl]) (by
      intro i hi
      have : (vs.take l)[i]? = (u8s bs)[i]? := by rw [hv]
      rw [List.getElem?_take, if_pos hi] at this
      have hib : i < bs.length := by omega
      rw [Nat.zero_add, blk_cell (hM.blk hk).2]
      simp only [List.getElem?_toArray]
      rw [this]
      simp [u8s, hib]) 9 Tryz.underlying9
    have e : strOfNums (bs.map fun c => (c.toNat : Int)) = mkS bs := by
      unfold strOfNums mkS
      have e3 : ((fun n : Int => UInt8.ofNat n.toNat) ∘ fun c : UInt8 => (c.toNat : Int)) = id := by
        funext c
        simp
      simp [List.map_map, e3]
    rw [e] at hr
    simp only [execOp, hop, hF.ev hx]
    simp [hr]) h
end
end Go.Sx
namespace Go.Sx
open Go.RowKit Go.Proofs Go.Proofs.YtelonenjneonlaaGreatDoorW.PrintWords
section
variable {P : Program} {n : Nat} {K : List (Nat × Value)} {a : Act} {w : World} {Q : Exit → Act → World → Prop} {ops : Array Oper} {rest : List Oper} {o : Oper} {B : Nat} {w0 : World} {L : List Bk}
def bitVal : BinOp → IntKind → Int → Int → Option Int
  | .and, k, x, y => some (k.wrap ((BitVec.ofInt k.bits x &&& BitVec.ofInt k.bits y).toNat : Int))
  | .or, k, x, y => some (k.wrap ((BitVec.ofInt k.bits x ||| BitVec.ofInt k.bits y).toNat : Int))
  | .xor, k, x, y => some (k.wrap ((BitVec.ofInt k.bits x ^^^ BitVec.ofInt k.bits y).toNat : Int))
  | .andNot, k, x, y => some (k.wrap ((BitVec.ofInt k.bits x &&& ~~~(BitVec.ofInt k.bits y)).toNat : Int))
  | _, _, _, _ => none
theorem op_bits (hF : Fr n K a) (hg : o.guard = none) {d : Nat} {op : BinOp} {t t' : TypeId} {x y : Operand} {k : IntKind} {p q : Int} (r : Int) (hd : o.dst = some d) (hlt : Nat.blt d n = true)
    (hop : o.op = .binOp op t x y t') (hx : ev K x = some (.int k p)) (hy : ev K y = some (.int k q)) (hv : bitVal op k p q = some r)
    (h : ∀ a', Fr n ((d, .int k r) :: K) a' → wpList P ops Q rest a' w) : wpList P ops Q (o :: rest) a w :=
  op_run hF hg (.int k r) hd hlt (by
    have e : (binOp op t (.int k p) (.int k q)).run P w = .ok (.int k r) w := by
      cases op <;> simp only [bitVal, reduceCtorEq, Option.some.injEq] at hv <;> subst hv <;> simp [binOp, Op.intBits]
    simp only [execOp, hop, hF.ev hx, hF.ev hy]
    cases op <;> simp [bitVal] at hv <;> simp [eqGuard, e]) h
theorem op_shl (hF : Fr n K a) (hg : o.guard = none) {d : Nat} {t t' : TypeId} {x y : Operand} {k k' : IntKind} {p q : Int} (s : Nat) (r : Int) (hd : o.dst = some d) (hlt : Nat.blt d n = true)
    (hop : o.op = .binOp .shl t x y t') (hx : ev K x = some (.int k p)) (hy : ev K y = some (.int k' q)) (hq : q = (s : Int)) (hv : k.wrap (p * 2 ^ min s k.bits) = r)
    (h : ∀ a', Fr n ((d, .int k r) :: K) a' → wpList P ops Q rest a' w) : wpList P ops Q (o :: rest) a w :=
  op_run hF hg (.int k r) hd hlt (by
    subst hq
    have hn : ¬ ((s : Int) < 0) := by omega
    have e : (binOp .shl t (.int k p) (.int k' (s : Int))).run P w = .ok (.int k r) w := by
      simp only [binOp, Op.shift, if_neg hn, Int.toNat_natCast, hv]
      rfl
    simp only [execOp, hop, hF.ev hx, hF.ev hy]
    simp [eqGuard, e]) h
theorem op_shr (hF : Fr n K a) (hg : o.guard = none) {d : Nat} {t t' : TypeId} {x y : Operand} {k k' : IntKind} {p q : Int} (s : Nat) (r : Int) (hd : o.dst = some d) (hlt : Nat.blt d n = true)
    (hop : o.op = .binOp .shr t x y t') (hx : ev K x = some (.int k p)) (hy : ev K y = some (.int k' q)) (hq : q = (s : Int)) (hv : p.fdiv (2 ^ min s k.bits) = r)
    (h : ∀ a', Fr n ((d, .int k r) :: K) a' → wpList P ops Q rest a' w) : wpList P ops Q (o :: rest) a w :=
  op_run hF hg (.int k r) hd hlt (by
    subst hq
    have hn : ¬ ((s : Int) < 0) := by omega
    have e : (binOp .shr t (.int k p) (.int k' (s : Int))).run P w = .ok (.int k r) w := by
      simp only [binOp, Op.shift, if_neg hn, Int.toNat_natCast, hv]
      rfl
    simp only [execOp, hop, hF.ev hx, hF.ev hy]
    simp [eqGuard, e]) h
theorem op_neNil (hF : Fr n K a) (hg : o.guard = none) {d : Nat} {t t' : TypeId} {x : Operand} (hd : o.dst = some d) (hlt : Nat.blt d n = true)
    (hop : o.op = .binOp .neq t x (.const .nilIface) t') (hx : ev K x = some .nilIface) (hT : ∃ ms, P.underlying t = some (.interface ms))
    (h : ∀ a', Fr n ((d, .bool false) :: K) a' → wpList P ops Q rest a' w) : wpList P ops Q (o :: rest) a w :=
  op_run hF hg (.bool false) hd hlt (by
    obtain ⟨ms, hT⟩ := hT
    have e1 : ∀ m, (Op.equalIn (m + 1) t .nilIface .nilIface).run P w = .ok true w := fun m => by simp [Op.equalIn, run_underlying hT]
    have e2 : (Op.equal t .nilIface .nilIface).run P w = .ok true w := e1 9999
    have e : (binOp .neq t .nilIface .nilIface).run P w = .ok (.bool false) w := by
      simp only [binOp, Sem.run_bind, e2, Result.andThen_ok]
      rfl
    have hc : a.eval (.const .nilIface) = .nilIface := rfl
    have hg : eqGuard .neq t x (.const .nilIface) .nilIface .nilIface = pure () := eqGuard_nil_constR ..
    simp only [execOp, hop, hF.ev hx, hc, hg]
    simp [e]) h
theorem op_neNilSl (hF : Fr n K a) (hg : o.guard = none) {d : Nat} {t t' e : TypeId} {x : Operand} {l c : Nat} (hd : o.dst = some d) (hlt : Nat.blt d n = true)
    (hop : o.op = .binOp .neq t x (.const (.slice none 0 0)) t') (hx : ev K x = some (.slice none l c)) (hT : P.underlying t = some (.slice e))
    (h : ∀ a', Fr n ((d, .bool false) :: K) a' → wpList P ops Q rest a' w) : wpList P ops Q (o :: rest) a w :=
  op_run hF hg (.bool false) hd hlt (by
    have e1 : ∀ m, (Op.equalIn (m + 1) t (.slice none l c) (.slice none 0 0)).run P w = .ok true w := fun m => by simp [Op.equalIn, run_underlying hT]
    have e2 : (Op.equal t (.slice none l c) (.slice none 0 0)).run P w = .ok true w := e1 9999
    have e : (binOp .neq t (.slice none l c) (.slice none 0 0)).run P w = .ok (.bool false) w := by
      simp only [binOp, Sem.run_bind, e2, Result.andThen_ok]
      rfl
    have hc : a.eval (.const (.slice none 0 0)) = .slice none 0 0 := rfl
    simp only [execOp, hop, hF.ev hx, hc]
    simp [eqGuard, e]) h
theorem op_fadd (hF : Fr n K a) (hM : Mem B w0 L w) (hg : o.guard = none) {d : Nat} {t t' : TypeId} {x y : Operand} {k : FloatKind} {p q : Nat} (hd : o.dst = some d) (hlt : Nat.blt d n = true)
    (hop : o.op = .binOp .add t x y t') (hx : ev K x = some (.float k p)) (hy : ev K y = some (.float k q))
    (h : ∀ a' w' f, Fr n ((d, .float k f) :: K) a' → Mem B w0 L w' → wpList P ops Q rest a' w') : wpList P ops Q (o :: rest) a w := by
  have key : ∃ f w', (binOp .add t (.float k p) (.float k q)).run P w = .ok (.float k f) w' ∧ (w' = w ∨ w' = w.drew) := by
    cases hr : k.format.add p q with
    | some r => exact ⟨r, w, by simp [binOp, Op.floatArith, hr], .inl rfl⟩
    | none =>
      cases hq : (Question.nanBits k p q).forced with
      | true => exact ⟨_, w, by simp [binOp, Op.floatArith, hr, choose, Sem.run, hq]; rfl, .inl rfl⟩
      | false => exact ⟨_, w.drew, by simp [binOp, Op.floatArith, hr, choose, Sem.run, hq]; rfl, .inr rfl⟩
  obtain ⟨f, w', e, hw⟩ := key
  have hM' : Mem B w0 L w' := by rcases hw with rfl | rfl; exact hM; exact hM.drew
  refine op_run hF hg (.float k f) (w' := w') hd hlt ?_ (fun a' hF' => h a' w' f hF' hM')
  simp only [execOp, hop, hF.ev hx, hF.ev hy]
  simp [eqGuard, e]
theorem op_strBytes (hF : Fr n K a) (hM : Mem B w0 L w) (hg : o.guard = none) {d : Nat} {x : Operand} {s : List UInt8} (hd : o.dst = some d) (hlt : Nat.blt d n = true) (hop : o.op = .convert 9 66 x) (hP : P = Tryz.prog) (hx : ev K x = some (.string (mkS s)))
    (h : ∀ a' w' b c, Fr n ((d, .slice (some ⟨b, 0, none⟩) s.length c) :: K) a' → Mem B w0 L w' → b < w'.heap.size → (∀ j u, s[j]? = some u → w'.cell? ⟨b, j, none⟩ = some (.int .u8 (u.toNat : Int))) → wpList P ops Q rest a' w') : wpList P ops Q (o :: rest) a w := by
  subst hP
  have hr := Lib.run_convert_string_bytes (P := Tryz.prog) w 9 66 5 (mkS s) Tryz.underlying9 Tryz.underlying66 Tryz.underlying5
  rw [mkS_size] at hr
  refine op_run hF hg (.slice (some ⟨w.heap.size, 0, none⟩) s.length (grownCap w s.length 0 5)) (w' := Lib.bytesWorld w 5 (mkS s)) hd hlt ?_ (fun a' hF' => h a' _ w.heap.size _ hF' ?_ ?_ ?_)
  · simp only [execOp, hop, hF.ev hx]
    simp [hr]
  · exact hM.step ⟨rfl, rfl, rfl, by rw [Lib.bytesWorld_size]; omega, fun k hk => Lib.bytesWorld_at_old _ _ _ _ hk⟩
  · rw [Lib.bytesWorld_size]; omega
  · intro j u hj
    have hl := (List.getElem?_eq_some_iff.1 hj).1
    rw [Lib.bytesWorld_cell _ _ _ _ (by rw [mkS_size]; exact hl)]
    have : (mkS s).data.toList.getD j 0 = u := by
      show s.getD j 0 = u
      rw [List.getD_eq_getElem?_getD, hj]
      rfl
    rw [this]
theorem row_keep {w w' : World} {b : Nat} {s : List UInt8} (h : ∀ j u, s[j]? = some u → w.cell? ⟨b, j, none⟩ = some (.int .u8 (u.toNat : Int))) (hb : b < w.heap.size) (hB : Below w.heap.size w w') :
    ∀ j u, s[j]? = some u → w'.cell? ⟨b, j, none⟩ = some (.int .u8 (u.toNat : Int)) := fun j u hj => (hB.cell hb).trans (h j u hj)
def setL (vs : List Value) (o : Nat) : List Value → List Value
  | [] => vs
  | x :: r => setL (vs.set o x) (o + 1) r
theorem setL_eq : ∀ (l vs : List Value) (o : Nat), o + l.length ≤ vs.length → setL vs o l = vs.take o ++ l ++ vs.drop (o + l.length)
  | [], vs, o, _ => by simp [setL]
  | x :: r, vs, o, h => by
    simp only [List.length_cons] at h
    rw [setL, setL_eq r (vs.set o x) (o + 1) (by rw [List.length_set]; omega)]
    have h1 : (vs.set o x).take (o + 1) = vs.take o ++ [x] := by
      rw [List.take_add_one, List.take_set_of_le (Nat.le_refl _), List.getElem?_set_self (by omega)]
      rfl
    have h2 : (vs.set o x).drop (o + 1 + r.length) = vs.drop (o + 1 + r.length) := List.drop_set_of_lt (by omega)
    rw [h1, h2, List.length_cons, show o + (r.length + 1) = o + 1 + r.length by omega]
    simp
theorem row_enc {vs vq z : List Value} {out e : List UInt8} (hrow : vs.take out.length = u8s out) (hq : vq.take (out.length + 8) = vs.take out.length ++ z) (hl : out.length + 8 ≤ vq.length) (he : e.length ≤ 4) :
    (vq.take out.length ++ u8s e ++ vq.drop (out.length + e.length)).length = vq.length ∧ (vq.take out.length ++ u8s e ++ vq.drop (out.length + e.length)).take (out ++ e).length = u8s (out ++ e) := by
  have h1 : vq.take out.length = u8s out := by
    have := congrArg (List.take out.length) hq
    rw [List.take_take, Nat.min_eq_left (by omega), hrow] at this
    rw [this, List.take_append_of_le_length (by rw [u8s_length]; exact Nat.le_refl _), List.take_of_length_le (by rw [u8s_length]; exact Nat.le_refl _)]
  refine ⟨by simp [u8s_length]; omega, ?_⟩
  rw [h1, u8s_append, List.take_append_of_le_length (by simp [u8s_length])]
  rw [List.take_of_length_le (by simp [u8s_length])]
theorem u8_nat (m : Nat) : IntKind.u8.wrap (m : Int) = ((m % 256 : Nat) : Int) := by rw [IntKind.wrap_u8]; omega
theorem ofInt_nat (m p : Nat) : BitVec.ofInt m (p : Int) = BitVec.ofNat m p := by
  apply BitVec.eq_of_toNat_eq
  simp [BitVec.toNat_ofInt]
theorem or_u8 {p q : Nat} (hp : p < 256) (hq : q < 256) : bitVal .or .u8 (p : Int) (q : Int) = some ((p ||| q : Nat) : Int) := by
  have h : p ||| q < 256 := Nat.or_lt_two_pow (n := 8) hp hq
  simp only [bitVal, ofInt_nat, BitVec.toNat_or, BitVec.toNat_ofNat]
  rw [show IntKind.u8.bits = 8 from rfl, Nat.mod_eq_of_lt hp, Nat.mod_eq_of_lt hq, IntWalk.u8_in _ ⟨by omega, by omega⟩]
theorem and_u8 {p q : Nat} (hp : p < 256) (hq : q < 256) : bitVal .and .u8 (p : Int) (q : Int) = some ((p &&& q : Nat) : Int) := by
  have h : p &&& q < 256 := Nat.lt_of_le_of_lt Nat.and_le_left hp
  simp only [bitVal, ofInt_nat, BitVec.toNat_and, BitVec.toNat_ofNat]
  rw [show IntKind.u8.bits = 8 from rfl, Nat.mod_eq_of_lt hp, Nat.mod_eq_of_lt hq, IntWalk.u8_in _ ⟨by omega, by omega⟩]
theorem or_i32 {p q : Nat} (hp : p < 2147483648) (hq : q < 2147483648) : bitVal .or .i32 (p : Int) (q : Int) = some ((p ||| q : Nat) : Int) := by
  have h : p ||| q < 2147483648 := Nat.or_lt_two_pow (n := 31) hp hq
  simp only [bitVal, ofInt_nat, BitVec.toNat_or, BitVec.toNat_ofNat]
  rw [show IntKind.i32.bits = 32 from rfl, Nat.mod_eq_of_lt (by omega), Nat.mod_eq_of_lt (by omega), IntWalk.i32_in _ ⟨by omega, by omega⟩]
end
end Go.Sx
namespace Go.Sx
open Go.RowKit Go.Proofs Go.Proofs.YtelonenjneonlaaGreatDoorW.PrintWords
section
variable {P : Program} {n : Nat} {K : List (Nat × Value)} {a : Act} {w : World} {Q : Exit → Act → World → Prop} {ops : Array Oper} {rest : List Oper} {o : Oper} {B : Nat} {w0 : World} {L : List Bk}
theorem toList_mkS (l : List UInt8) : (mkS l).toList = l := by rw [ByteArray.toList_eq]; simp [mkS]
theorem op_eqlStr (hF : Fr n K a) (hg : o.guard = none) {d : Nat} {t t' : TypeId} {x y : Operand} {l r : List UInt8} (hd : o.dst = some d) (hlt : Nat.blt d n = true)
    (hop : o.op = .binOp .eql t x y t') (hx : ev K x = some (.string (mkS l))) (hy : ev K y = some (.string (mkS r)))
    (h : ∀ a', Fr n ((d, .bool (l == r)) :: K) a' → wpList P ops Q rest a' w) : wpList P ops Q (o :: rest) a w :=
  op_run hF hg (.bool (l == r)) hd hlt (by
    have e : (binOp .eql t (.string (mkS l)) (.string (mkS r))).run P w = .ok (.bool (l == r)) w := by
      rw [binOp_string_eql, toList_mkS, toList_mkS]; rfl
    simp only [execOp, hop, hF.ev hx, hF.ev hy]
    simp [eqGuard, e]) h
theorem op_neqStr (hF : Fr n K a) (hg : o.guard = none) {d : Nat} {t t' : TypeId} {x y : Operand} {l r : List UInt8} (hd : o.dst = some d) (hlt : Nat.blt d n = true)
    (hop : o.op = .binOp .neq t x y t') (hx : ev K x = some (.string (mkS l))) (hy : ev K y = some (.string (mkS r)))
    (h : ∀ a', Fr n ((d, .bool (!(l == r))) :: K) a' → wpList P ops Q rest a' w) : wpList P ops Q (o :: rest) a w :=
  op_run hF hg (.bool (!(l == r))) hd hlt (by
    have e : (binOp .neq t (.string (mkS l)) (.string (mkS r))).run P w = .ok (.bool (!(l == r))) w := by
      rw [binOp_string_neq, toList_mkS, toList_mkS]; rfl
    simp only [execOp, hop, hF.ev hx, hF.ev hy]
    simp [eqGuard, e]) h
theorem op_makeFunc (hF : Fr n K a) (hg : o.guard = none) {d : Nat} {f : FuncId} {l : List Operand} {vals : List Value} (hd : o.dst = some d) (hlt : Nat.blt d n = true)
    (hop : o.op = .makeFunc (.func f) #[] l.toArray) (hargs : evs K l = some vals)
    (h : ∀ a', Fr n ((d, .func (.func f) #[] vals.toArray) :: K) a' → wpList P ops Q rest a' w) : wpList P ops Q (o :: rest) a w :=
  op_run hF hg (.func (.func f) #[] vals.toArray) hd hlt (by
    have := hF.evs l vals hargs
    simp only [execOp, hop, Instr.makeFunc, List.map_toArray, this]
    simp) h
theorem mem_append_nil (hM : Mem B w0 L w) {ad : Addr} {m c : Nat} {news : List Value} (ty : TypeId) (hm : 0 < m)
    (hl : news.length = m) (hnews : ∀ j u, news[j]? = some u → w.cell? (ad.add j) = some u) (h1 : ∀ u ∈ news, u.oneCell' = true) (hs : m ≤ 2 ^ 46) :
    ∃ b' vs' w', (Builtin.append_ #[66, 66] ty #[.slice none 0 0, .slice (some ad) m c]).run Tryz.prog w = .ok (.slice (some ⟨b', 0, none⟩) m vs'.length) w' ∧
      m ≤ vs'.length ∧ vs'.length ≤ maxLen ∧ vs'.take m = news ∧ Mem B w0 ((b', 5, vs') :: L) w' := by
  obtain ⟨i, hi, hz, hz1, hz2⟩ := info5
  obtain ⟨v', w', hr, ho, hg, hnil, hat⟩ := run_append_own_at (P := Tryz.prog) w B 66 ty 5 i (.int .u8 0) 1 1 Tryz.underlying66 hi hz hz1 hz2 rfl (by omega) (.slice none 0 0) 0 [] ⟨rfl, .inl ⟨rfl, rfl⟩⟩ ad m c news (by omega) hnews h1 (by simp only [maxLen]; omega) (by omega) hM.base
  simp only [Nat.zero_add, List.nil_append] at ho
  rcases ho.2 with ⟨rfl, _⟩ | ⟨g, cap, cur, rfl, hb, hh, hnc, hcm, hcs, ht⟩
  · have := (hnil.1 rfl).2; omega
  · have hgw : g = w.heap.size := by rcases hat with h | h <;> simp [Value.ownBlock] at h; exact h
    have hlen : cur.toList.length = cap := by simp [hcs]
    have hold : ∀ k, k < w.heap.size → w'.heap[k]? = w.heap[k]? := fun k hk => hg.block k hk (by simp [Value.ownBlock])
    refine ⟨g, cur.toList, w', by rw [hlen]; exact hr, by rw [hlen]; exact hnc, by rw [hlen]; exact hcm, by simpa using ht, hM.below.grown hg hM.base (fun k' e => by simp [Value.ownBlock] at e), Nat.le_trans hM.base hg.size, ?_, ?_⟩
    · intro x hx
      rcases List.mem_cons.1 hx with rfl | hx
      · exact ⟨hb, by simpa using hh⟩
      · have h3 := hM.held x hx
        exact ⟨h3.1, (hold _ (blk_lt h3.2)).trans h3.2⟩
    · refine List.pairwise_cons.2 ⟨fun x hx => ?_, hM.apart⟩
      have := blk_lt (hM.held x hx).2
      simp only; omega
theorem op_appendNil (hF : Fr n K a) (hM : Mem B w0 L w) (hg : o.guard = none) {d : Nat} {x y : Operand} {m c : Nat} {ad : Addr} (news : List Value) (hd : o.dst = some d) (hlt : Nat.blt d n = true)
    (hop : o.op = .call { callee := .builtin .append, args := #[x, y], argTypes := #[66, 66] }) (hx : ev K x = some (.slice none 0 0)) (hy : ev K y = some (.slice (some ad) m c)) (hm : 0 < m)
    (hl : news.length = m) (hnews : ∀ j u, news[j]? = some u → w.cell? (ad.add j) = some u) (h1 : ∀ u ∈ news, u.oneCell' = true) (hs : m ≤ 2 ^ 46)
    (h : ∀ a' w' b' vs', Fr n ((d, .slice (some ⟨b', 0, none⟩) m vs'.length) :: K) a' → m ≤ vs'.length → vs'.length ≤ maxLen → vs'.take m = news → Mem B w0 ((b', 5, vs') :: L) w' → wpList Tryz.prog ops Q rest a' w') :
    wpList Tryz.prog ops Q (o :: rest) a w := by
  obtain ⟨b', vs', w', hr, h2, h3, h4, h5⟩ := mem_append_nil (c := c) hM o.type hm hl hnews h1 hs
  refine op_run hF hg (.slice (some ⟨b', 0, none⟩) m vs'.length) (w' := w') hd hlt ?_ (fun a' hF' => h a' w' b' vs' hF' h2 h3 h4 h5)
  simp only [execOp, hop, resolve, invoke, builtin, List.map_toArray, List.map_cons, List.map_nil, hF.ev hx, hF.ev hy]
  simp [hr]
end
end Go.Sx
set_option linter.unusedVariables false
namespace Js
abbrev Str := List UInt8
inductive Place where
  | mk (kind b e : Nat) (names : List (Nat × Nat)) (kids : List Place)
  deriving Inhabited
inductive Nd where
  | mk (kind : Nat) (text : Str) (keys : List Str) (kids : List Nd)
  deriving Inhabited
def isBlank (c : UInt8) : Bool := c == 32 || c == 9 || c == 10 || c == 13
def isDig (c : UInt8) : Bool := decide (48 ≤ c.toNat) && decide (c.toNat ≤ 57)
def hexVal (c : UInt8) : Option Nat :=
  if 48 ≤ c.toNat ∧ c.toNat ≤ 57 then some (c.toNat - 48)
  else if 97 ≤ c.toNat ∧ c.toNat ≤ 102 then some (c.toNat - 97 + 10)
  else if 65 ≤ c.toNat ∧ c.toNat ≤ 70 then some (c.toNat - 65 + 10)
  else none
def skip (s : Str) : Str := s.dropWhile isBlank
def pTake (c : UInt8) : Str → Option Str
  | [] => none
  | d :: r => if d = c then some r else none
def digs (s : Str) : Str := s.dropWhile isDig
def pDigits (s : Str) : Option Str := if (digs s).length < s.length then some (digs s) else none
def pExp (s : Str) : Option Str :=
  match (pTake 101 s).orElse (fun _ => pTake 69 s) with
  | none => some s
  | some r => match pTake 43 r with
    | some r' => pDigits r'
    | none => pDigits ((pTake 45 r).getD r)
def pFrac (s : Str) : Option Str :=
  match pTake 46 s with
  | none => pExp s
  | some r => (pDigits r).bind pExp
def pNum (s : Str) : Option Str :=
  match pTake 48 ((pTake 45 s).getD s) with
  | some r => pFrac r
  | none => (pDigits ((pTake 45 s).getD s)).bind pFrac
def escLetter (c : UInt8) : Bool := c == 34 || c == 92 || c == 47 || c == 98 || c == 102 || c == 110 || c == 114 || c == 116
def pHex : Nat → Str → Option Str
  | 0, s => some s
  | _ + 1, [] => none
  | n + 1, c :: r => if (hexVal c).isSome then pHex n r else none
def pEsc : Str → Option Str
  | [] => none
  | c :: r => if escLetter c then some r else if c = 117 then pHex 4 r else none
theorem pHex_le : ∀ (n : Nat) (s r : Str), pHex n s = some r → r.length ≤ s.length
  | 0, s, r, h => by simp [pHex] at h; simp [h]
  | n + 1, [], r, h => by simp [pHex] at h
  | n + 1, c :: s, r, h => by
    simp only [pHex] at h
    split at h
    · have := pHex_le n s r h; simp; omega
    · simp at h
theorem pEsc_lt (s r : Str) (h : pEsc s = some r) : r.length < s.length := by
  cases s with
  | nil => simp [pEsc] at h
  | cons c s =>
    simp only [pEsc] at h
    split at h
    · simp at h; subst h; simp
    · split at h
      · have := pHex_le 4 s r h; simp; omega
      · simp at h
def pStr (s : Str) : Option Str :=
  match s with
  | [] => none
  | c :: r =>
    if c = 34 then some r
    else if c.toNat < 32 then none
    else if c = 92 then
      match h : pEsc r with
      | none => none
      | some r' => pStr r'
    else pStr r
termination_by s.length
decreasing_by
  · have := pEsc_lt _ _ h; simp; omega
  · simp
theorem pStr_nil : pStr [] = none := by rw [pStr]
theorem pStr_cons (c : UInt8) (r : Str) : pStr (c :: r) =
    if c = 34 then some r else if c.toNat < 32 then none else if c = 92 then (pEsc r).bind pStr else pStr r := by
  rw [pStr]
  split
  · rfl
  · split
    · rfl
    · split
      · split <;> simp [*]
      · rfl
def pWord (w s : Str) : Option Str := if s.take w.length = w then some (s.drop w.length) else none
mutual
def pVal (L : Nat) : Nat → Str → Option (Place × Str)
  | 0, _ => none
  | n + 1, s =>
    match s with
    | [] => none
    | c :: r =>
      if c = 123 then
        match pTake 125 (skip r) with
        | some r2 => some (.mk 6 (L - s.length) (L - r2.length) [] [], r2)
        | none => (pMems L n (skip r)).map fun x => (.mk 6 (L - s.length) (L - x.2.2.length) x.1 x.2.1, x.2.2)
      else if c = 91 then
        match pTake 93 (skip r) with
        | some r2 => some (.mk 5 (L - s.length) (L - r2.length) [] [], r2)
        | none => (pElems L n (skip r)).map fun x => (.mk 5 (L - s.length) (L - x.2.length) [] x.1, x.2)
      else if c = 34 then (pStr r).map fun r2 => (.mk 4 (L - s.length) (L - r2.length) [] [], r2)
      else if c = 45 ∨ isDig c = true then (pNum s).map fun r2 => (.mk 3 (L - s.length) (L - r2.length) [] [], r2)
      else match pWord [110, 117, 108, 108] s with
        | some r2 => some (.mk 0 (L - s.length) (L - r2.length) [] [], r2)
        | none => match pWord [102, 97, 108, 115, 101] s with
          | some r2 => some (.mk 1 (L - s.length) (L - r2.length) [] [], r2)
          | none => (pWord [116, 114, 117, 101] s).map fun r2 => (.mk 2 (L - s.length) (L - r2.length) [] [], r2)
def pElems (L : Nat) : Nat → Str → Option (List Place × Str)
  | 0, _ => none
  | n + 1, s =>
    match pVal L n s with
    | none => none
    | some (p, r) =>
      match pTake 93 (skip r) with
      | some r2 => some ([p], r2)
      | none => match pTake 44 (skip r) with
        | none => none
        | some r2 => (pElems L n (skip r2)).map fun x => (p :: x.1, x.2)
def pMems (L : Nat) : Nat → Str → Option (List (Nat × Nat) × List Place × Str)
  | 0, _ => none
  | n + 1, s =>
    match (pTake 34 s).bind pStr with
    | none => none
    | some r =>
      match pTake 58 (skip r) with
      | none => none
      | some r1 =>
        match pVal L n (skip r1) with
        | none => none
        | some (p, r2) =>
          match pTake 125 (skip r2) with
          | some r3 => some ([(L - s.length, L - r.length)], [p], r3)
          | none => match pTake 44 (skip r2) with
            | none => none
            | some r3 => (pMems L n (skip r3)).map fun x => ((L - s.length, L - r.length) :: x.1, p :: x.2.1, x.2.2)
end
def pText (s : Str) : Option Place :=
  match pVal s.length (2 * s.length + 2) (skip s) with
  | none => none
  | some (p, r) => if skip r = [] then some p else none
def sub (s : Str) (b e : Nat) : Str := (s.drop b).take (e - b)
end Js
set_option linter.unusedVariables false
namespace Js
def hex4 (a b c d : UInt8) : Option Nat :=
  match hexVal a, hexVal b, hexVal c, hexVal d with
  | some w, some x, some y, some z => some (((w * 16 + x) * 16 + y) * 16 + z)
  | _, _, _, _ => none
def unit : Str → Option Nat
  | 92 :: 117 :: a :: b :: c :: d :: _ => hex4 a b c d
  | _ => none
def high (n : Nat) : Bool := decide (0xd800 ≤ n) && decide (n ≤ 0xdbff)
def low (n : Nat) : Bool := decide (0xdc00 ≤ n) && decide (n ≤ 0xdfff)
def enc (c : Nat) : Str :=
  if c < 0x80 then [c.toUInt8]
  else if c < 0x800 then [(0xc0 + c / 64).toUInt8, (0x80 + c % 64).toUInt8]
  else if high c || low c then [0xef, 0xbf, 0xbd]
  else if c < 0x10000 then [(0xe0 + c / 4096).toUInt8, (0x80 + c / 64 % 64).toUInt8, (0x80 + c % 64).toUInt8]
  else [(0xf0 + c / 262144).toUInt8, (0x80 + c / 4096 % 64).toUInt8, (0x80 + c / 64 % 64).toUInt8, (0x80 + c % 64).toUInt8]
def short (c : UInt8) : UInt8 :=
  if c = 98 then 8 else if c = 102 then 12 else if c = 110 then 10 else if c = 114 then 13 else if c = 116 then 9 else c
theorem unit_len {s : Str} {n : Nat} (h : unit s = some n) : 6 ≤ s.length := by
  unfold unit at h
  split at h
  · simp only [List.length_cons]; omega
  · simp at h
def unq (s : Str) : Str :=
  match s with
  | [] => []
  | c :: r =>
    if c = 92 then
      match h : unit (c :: r) with
      | none => match r with
        | [] => []
        | d :: r' => short d :: unq r'
      | some n => match unit (r.drop 5) with
        | none => enc n ++ unq (r.drop 5)
        | some m => if high n && low m then enc (0x10000 + (n - 0xd800) * 0x400 + (m - 0xdc00)) ++ unq (r.drop 11) else enc n ++ unq (r.drop 5)
    else c :: unq r
termination_by s.length
decreasing_by
  all_goals simp only [List.length_cons, List.length_drop]; omega
theorem unq_plain : ∀ (s : Str), (∀ c, c ∈ s → c ≠ 92) → unq s = s
  | [], _ => by rw [unq]
  | c :: r, h => by
    rw [unq, if_neg (h c (by simp)), unq_plain r (fun d hd => h d (by simp [hd]))]
def unquote (q : Str) : Str := unq ((q.drop 1).take (q.length - 2))
theorem unquote_mk (i : Str) : unquote (34 :: i ++ [34]) = unq i := by
  unfold unquote
  congr 1
  simp
mutual
def tree (s : Str) : Place → Nd
  | .mk k b e names kids => .mk k (if k = 3 then sub s b e else if k = 4 then unquote (sub s b e) else []) (names.map fun x => unquote (sub s x.1 x.2)) (trees s kids)
def trees (s : Str) : List Place → List Nd
  | [] => []
  | p :: r => tree s p :: trees s r
end
def Bl (w : Str) : Prop := ∀ c ∈ w, isBlank c = true
inductive It where
  | v (n : Nd)
  | e (l : List Nd)
  | m (ks : List Str) (l : List Nd)
def Ins (i : Str) : Prop := pStr (i ++ [34]) = some []
inductive Shows : Str → It → Prop where
  | nul : Shows [110, 117, 108, 108] (.v (.mk 0 [] [] []))
  | fls : Shows [102, 97, 108, 115, 101] (.v (.mk 1 [] [] []))
  | tru : Shows [116, 114, 117, 101] (.v (.mk 2 [] [] []))
  | num {t : Str} (h : pNum t = some []) : Shows t (.v (.mk 3 t [] []))
  | str {i : Str} (h : Ins i) : Shows (34 :: i ++ [34]) (.v (.mk 4 (unq i) [] []))
  | arr0 {w : Str} (h : Bl w) : Shows (91 :: w ++ [93]) (.v (.mk 5 [] [] []))
  | arr {t : Str} {l : List Nd} (h : Shows t (.e l)) : Shows (91 :: t ++ [93]) (.v (.mk 5 [] [] l))
  | obj0 {w : Str} (h : Bl w) : Shows (123 :: w ++ [125]) (.v (.mk 6 [] [] []))
  | obj {t : Str} {ks : List Str} {l : List Nd} (h : Shows t (.m ks l)) : Shows (123 :: t ++ [125]) (.v (.mk 6 [] ks l))
  | e1 {w1 t w2 : Str} {n : Nd} (h1 : Bl w1) (h : Shows t (.v n)) (h2 : Bl w2) : Shows (w1 ++ t ++ w2) (.e [n])
  | e2 {w1 t w2 r : Str} {n : Nd} {l : List Nd} (h1 : Bl w1) (h : Shows t (.v n)) (h2 : Bl w2) (hr : Shows r (.e l)) : Shows (w1 ++ t ++ w2 ++ 44 :: r) (.e (n :: l))
  | m1 {w1 i w2 w3 t w4 : Str} {n : Nd} (h1 : Bl w1) (hi : Ins i) (h2 : Bl w2) (h3 : Bl w3) (h : Shows t (.v n)) (h4 : Bl w4) :
      Shows (w1 ++ (34 :: i ++ [34]) ++ w2 ++ 58 :: w3 ++ t ++ w4) (.m [unq i] [n])
  | m2 {w1 i w2 w3 t w4 r : Str} {n : Nd} {ks : List Str} {l : List Nd} (h1 : Bl w1) (hi : Ins i) (h2 : Bl w2) (h3 : Bl w3) (h : Shows t (.v n)) (h4 : Bl w4) (hr : Shows r (.m ks l)) :
      Shows (w1 ++ (34 :: i ++ [34]) ++ w2 ++ 58 :: w3 ++ t ++ w4 ++ 44 :: r) (.m (unq i :: ks) (n :: l))
def Text (s : Str) (n : Nd) : Prop := ∃ w1 t w2, s = w1 ++ t ++ w2 ∧ Bl w1 ∧ Bl w2 ∧ Shows t (.v n)
end Js
