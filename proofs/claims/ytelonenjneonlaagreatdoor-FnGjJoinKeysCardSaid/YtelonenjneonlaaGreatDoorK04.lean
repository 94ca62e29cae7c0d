/- Part 4 of the proof of FnGjJoinKeys: the statement Rows.FnGjJoinKeysCardSaid; no further condition. -/
import Derived.Test.YtelonenjneonlaaGreatDoorK03
import Derived.StillTail
set_option linter.all false
set_option linter.unusedVariables false
namespace Js
structure Arr (ds arr : Str) (w : Nat) (out : Str) : Prop where
  len : arr.length = 800
  low : ∀ i, i < w → arr[i]? = ds[i]?
  high : ∀ j c, out[j]? = some c → w + j < 800 → arr[w + j]? = some c
theorem Arr.start {ds : Str} (h : ds.length = 800) (w : Nat) : Arr ds ds w [] := ⟨h, fun _ _ => rfl, fun j c hj => by simp at hj⟩
theorem Arr.put {ds arr : Str} {w : Nat} {out : Str} (h : Arr ds arr (w + 1) out) (c : UInt8) (hw : w < 800) : Arr ds (arr.set w c) w (c :: out) := by
  refine ⟨by rw [List.length_set]; exact h.len, fun i hi => ?_, fun j d hj hl => ?_⟩
  · rw [List.getElem?_set_ne (by omega)]; exact h.low i (by omega)
  · cases j with
    | zero => simp at hj; subst hj; rw [Nat.add_zero, List.getElem?_set_self (by rw [h.len]; exact hw)]
    | succ j =>
      rw [List.getElem?_set_ne (by omega)]
      have := h.high j d (by simpa using hj) (by omega)
      rwa [show w + 1 + j = w + (j + 1) by omega] at this
theorem Arr.pass {ds arr : Str} {w : Nat} {out : Str} (h : Arr ds arr (w + 1) out) (c : UInt8) (hw : 800 ≤ w) : Arr ds arr w (c :: out) :=
  ⟨h.len, fun i hi => h.low i (by omega), fun j d hj hl => by omega⟩
structure LS (S : Str) (k n : Nat) (out : Str) : Prop where
  eq : worth S * 2 ^ k = n * 10 ^ out.length + worth out
  digs : Digs out
def chr (m : Nat) : UInt8 := (48 + m).toUInt8
theorem chr_nat {m : Nat} (h : m < 10) : (chr m).toNat = 48 + m := by
  unfold chr
  simp only [Nat.toUInt8, UInt8.toNat_ofNat']
  omega
theorem chr_dig {m : Nat} (h : m < 10) : isDig (chr m) = true := by
  simp only [isDig, chr_nat h, Bool.and_eq_true, decide_eq_true_eq]; omega
theorem chr_dg {m : Nat} (h : m < 10) : dg (chr m) = m := by unfold dg; rw [chr_nat h]; omega
theorem chr_ne {m : Nat} (h : m < 10) (h0 : m ≠ 0) : chr m ≠ 48 := by
  intro e
  have := congrArg UInt8.toNat e
  rw [chr_nat h] at this
  simp at this
  omega
theorem LS.start (k : Nat) : LS [] k 0 [] := ⟨by simp [worth], fun _ h => by simp at h⟩
theorem LS.bound {S : Str} {k n : Nat} {out : Str} (h : LS S k n out) (hS : Digs S) (hl : out.length = S.length) : n < 2 ^ k := by
  have h1 := worth_lt hS
  have h2 := h.eq
  rw [hl] at h2
  have hp : 0 < 2 ^ k := Nat.pow_pos (by decide)
  have h3 : worth S * 2 ^ k < 10 ^ S.length * 2 ^ k := Nat.mul_lt_mul_of_pos_right h1 hp
  have h4 : n * 10 ^ S.length < 2 ^ k * 10 ^ S.length := by rw [Nat.mul_comm (2 ^ k)]; omega
  exact Nat.lt_of_mul_lt_mul_right h4
theorem LS.digit {S : Str} {k n : Nat} {out : Str} (h : LS S k n out) (hl : out.length = S.length) (c : UInt8) :
    LS (c :: S) k ((n + dg c * 2 ^ k) / 10) (chr ((n + dg c * 2 ^ k) % 10) :: out) := by
  have hm : (n + dg c * 2 ^ k) % 10 < 10 := Nat.mod_lt _ (by decide)
  refine ⟨?_, fun x hx => ?_⟩
  · simp only [worth, List.length_cons, chr_dg hm, Nat.pow_succ]
    have e := Nat.div_add_mod (n + dg c * 2 ^ k) 10
    have h2 := h.eq
    generalize (n + dg c * 2 ^ k) / 10 = q at *
    generalize (n + dg c * 2 ^ k) % 10 = m at *
    rw [Nat.add_mul, h2, hl]
    have e2 : dg c * 10 ^ S.length * 2 ^ k + n * 10 ^ S.length = (10 * q + m) * 10 ^ S.length := by
      rw [e, Nat.add_mul, Nat.add_comm, Nat.mul_right_comm]
    have e3 : (10 * q + m) * 10 ^ S.length = q * (10 ^ S.length * 10) + m * 10 ^ S.length := by
      rw [Nat.add_mul]; congr 1; rw [Nat.mul_comm 10 q, Nat.mul_assoc, Nat.mul_comm 10]
    omega
  · rcases List.mem_cons.1 hx with rfl | hx
    · exact chr_dig hm
    · exact h.digs x hx
theorem LS.more {S : Str} {k n : Nat} {out : Str} (h : LS S k n out) : LS S k (n / 10) (chr (n % 10) :: out) := by
  have hm : n % 10 < 10 := Nat.mod_lt _ (by decide)
  refine ⟨?_, fun x hx => ?_⟩
  · simp only [worth, List.length_cons, chr_dg hm, Nat.pow_succ]
    rw [h.eq]
    have e := Nat.div_add_mod n 10
    generalize n / 10 = q at *
    generalize n % 10 = m at *
    rw [← e, Nat.add_mul, Nat.mul_comm 10 q, Nat.mul_assoc, Nat.mul_comm 10]
    omega
  · rcases List.mem_cons.1 hx with rfl | hx
    · exact chr_dig hm
    · exact h.digs x hx
def rd (D : Str) (r : Nat) : Nat := worth (D.take r) * 10 ^ (r - D.length)
theorem rd_zero (D : Str) : rd D 0 = 0 := by simp [rd, worth]
theorem rd_digit {D : Str} {r : Nat} {c : UInt8} (h : D[r]? = some c) : rd D (r + 1) = rd D r * 10 + dg c := by
  obtain ⟨hl, e⟩ := List.getElem?_eq_some_iff.1 h
  unfold rd
  rw [List.take_add_one, h, Option.toList_some, worth_snoc, Nat.sub_eq_zero_of_le (by omega), Nat.sub_eq_zero_of_le (by omega)]
  simp
theorem rd_more {D : Str} {r : Nat} (h : D.length ≤ r) : rd D (r + 1) = rd D r * 10 := by
  unfold rd
  rw [List.take_of_length_le (by omega), List.take_of_length_le h, show r + 1 - D.length = (r - D.length) + 1 by omega, Nat.pow_succ, Nat.mul_assoc]
structure RS (P : Nat) (k n : Nat) (out : Str) : Prop where
  eq : P = worth out * 2 ^ k * 10 + n
  lt : n < 10 * 2 ^ k
  digs : Digs out
theorem RS.step {P k n : Nat} {out : Str} (h : RS P k n out) {x : Nat} (hx : x < 10) : RS (P * 10 + x) k (n % 2 ^ k * 10 + x) (out ++ [chr (n / 2 ^ k)]) := by
  have hp : (0:Nat) < 2 ^ k := Nat.pow_pos (by decide)
  have hd : n / 2 ^ k < 10 := (Nat.div_lt_iff_lt_mul hp).2 h.lt
  refine ⟨?_, ?_, fun c hc => ?_⟩
  · rw [worth_snoc, chr_dg hd, h.eq]
    have e := Nat.div_add_mod n (2 ^ k)
    generalize n / 2 ^ k = q at *
    generalize n % 2 ^ k = m at *
    rw [← e, Nat.add_mul (worth out * 10) q, Nat.mul_comm (2 ^ k) q, Nat.mul_right_comm (worth out) 10]
    omega
  · have := Nat.mod_lt n hp
    omega
  · rcases List.mem_append.1 hc with hc | hc
    · exact h.digs c hc
    · rw [List.mem_singleton.1 hc]; exact chr_dig hd
theorem pow_step {j k n : Nat} (hj : j ≤ k) (h : 2 ^ j ∣ n) : 2 ^ (j + 1) ∣ n % 2 ^ k * 10 := by
  have h1 : 2 ^ j ∣ n % 2 ^ k := (Nat.dvd_mod_iff (Nat.pow_dvd_pow 2 hj)).2 h
  obtain ⟨m, hm⟩ := h1
  rw [hm]
  exact ⟨m * 5, by rw [Nat.pow_succ]; simp only [Nat.mul_assoc]; congr 1; omega⟩
theorem pow_end {k n : Nat} (h : 2 ^ k ∣ n) : n % 2 ^ k * 10 = 0 := by rw [Nat.mod_eq_zero_of_dvd h]
end Js
namespace Go.Sx
open Go.RowKit Go.Proofs Js Go.Proofs.YtelonenjneonlaaGreatDoorW.PrintWords
section
variable {P : Program} {n : Nat} {K : List (Nat × Value)} {a : Act} {w : World} {Q : Exit → Act → World → Prop} {ops : Array Oper} {rest : List Oper} {o : Oper} {B : Nat} {w0 : World} {L : List Bk}
variable {q : Act → Prop}
theorem stdone (h : q a) : wpStill P ops w q [] a := wpStill_nil h
theorem still {id : Nat} {l : List Oper} (hm : P.follows .mixedOrders = true) (hB : Region.lexB .any l.toArray = true) (h : wpStill P l.toArray w.drew (fun a' => Q .normal a' w.drew) l a) : (Code.region id l.toArray true).wp P Q a w :=
  wp_region_still_lit hm hB h
theorem stillTail {id : Nat} {l : List Oper} (m : Nat) (hm : P.follows .mixedOrders = true) (hB : Region.lexTailB .any l.toArray m = true)
    (h : wpStill P l.toArray w.drew (fun a' => wpList P l.toArray Q (l.drop m) a' w.drew) (l.take m) a) : (Code.region id l.toArray true).wp P Q a w :=
  wp_region_still_tail m hm hB h
theorem gives_pick {c x y : Operand} {b : Bool} {v : Value} (hF : Fr n K a) (hop : o.op = .pick c x y) (hc : ev K c = some (.bool b)) (hv : ev K (if b then x else y) = some v) (w : World) : (execOp a.eval o).run P w = .ok (.value v) w := by
  simp only [execOp, hop, hF.ev hc]
  cases b
  · have := hF.ev (x := y) (by simpa using hv); simp [asBool, this]
  · have := hF.ev (x := x) (by simpa using hv); simp [asBool, this]
theorem gives_not {x : Operand} {t : TypeId} {b : Bool} (hF : Fr n K a) (hop : o.op = .unOp .not t x) (hx : ev K x = some (.bool b)) (w : World) : (execOp a.eval o).run P w = .ok (.value (.bool (!b))) w := by
  simp only [execOp, hop, hF.ev hx]; rfl
theorem gives_neg {x : Operand} {t : TypeId} {k : IntKind} {z : Int} (hF : Fr n K a) (hop : o.op = .unOp .neg t x) (hx : ev K x = some (.int k z)) (r : Int) (hr : k.wrap (0 - z) = r) (w : World) : (execOp a.eval o).run P w = .ok (.value (.int k r)) w := by
  subst hr
  simp only [execOp, hop, hF.ev hx]; simp [Op.unary, Op.intArith]
theorem gives_fneg {x : Operand} {t : TypeId} {k : FloatKind} {z : Nat} (hF : Fr n K a) (hop : o.op = .unOp .neg t x) (hx : ev K x = some (.float k z)) (w : World) : (execOp a.eval o).run P w = .ok (.value (.float k (Op.negFloat k z))) w := by
  simp only [execOp, hop, hF.ev hx]; simp [Op.unary]
theorem gives_nilCheck {x : Operand} {ad : Addr} (hF : Fr n K a) (hop : o.op = .nilCheck x) (hx : ev K x = some (.pointer (some ad))) (w : World) : (execOp a.eval o).run P w = .ok (.value (.pointer (some ad))) w := by
  simp only [execOp, hop, hF.ev hx]; rfl
theorem gives_conv {x : Operand} {s t : TypeId} {k k' : IntKind} {z : Int} {u : TypeDesc} (hF : Fr n K a) (hop : o.op = .convert s t x) (hs : P.underlying s = some u) (hT : P.underlying t = some (.int k')) (hx : ev K x = some (.int k z)) (r : Int) (hr : k'.wrap z = r) (w : World) :
    (execOp a.eval o).run P w = .ok (.value (.int k' r)) w := by
  subst hr
  simp only [execOp, hop, hF.ev hx]
  simp [convert, run_underlying hs, run_underlying hT, Conv.intToInt]
theorem gives_convIF {x : Operand} {s t : TypeId} {k : IntKind} {k' : FloatKind} {z : Int} {u : TypeDesc} (hF : Fr n K a) (hop : o.op = .convert s t x) (hs : P.underlying s = some u) (hT : P.underlying t = some (.float k')) (hx : ev K x = some (.int k z)) (w : World) :
    (execOp a.eval o).run P w = .ok (.value (.float k' (k'.nearest z))) w := by
  simp only [execOp, hop, hF.ev hx]
  simp [convert, run_underlying hs, run_underlying hT, Conv.intToFloat]
theorem gives_index_str {x i : Operand} {t : TypeId} {l : List UInt8} {k : IntKind} {z : Int} (j : Nat) (c : UInt8) (hF : Fr n K a) (hop : o.op = .index t x i) (hT : P.underlying t = some .string) (hx : ev K x = some (.string (mkS l))) (hi : ev K i = some (.int k z)) (hz : z = (j : Int)) (hc : l[j]? = some c) (w : World) :
    (execOp a.eval o).run P w = .ok (.value (.int .u8 (c.toNat : Int))) w := by
  have hlt' : j < l.length := (List.getElem?_eq_some_iff.1 hc).1
  have e := run_index_string (P := P) (w := w) t (mkS l) k z hT
  rw [dif_pos ⟨by omega, by rw [mkS_size]; omega⟩] at e
  have e2 : (mkS l)[z.toNat]'(by rw [mkS_size]; omega) = c := by
    subst hz
    simp only [Int.toNat_natCast]
    rw [mkS_get]
    exact (List.getElem?_eq_some_iff.1 hc).2
  rw [e2] at e
  simp only [execOp, hop, hF.ev hx, hF.ev hi]
  simp [e]
theorem gives_len_str {x : Operand} {t : TypeId} {l : List UInt8} (hF : Fr n K a) (hop : o.op = .call { callee := .builtin .len, args := #[x], argTypes := #[t] }) (hT : P.underlying t = some .string) (hx : ev K x = some (.string (mkS l))) (w : World) :
    (execOp a.eval o).run P w = .ok (.value (.int .i64 (l.length : Int))) w := by
  have e := run_len_string (P := P) (w := w) t o.type (mkS l) hT
  simp only [mkS_size] at e
  simp only [execOp, hop, resolve, invoke, builtin, List.map_toArray, List.map_cons, List.map_nil, hF.ev hx]
  simp [e, goInt]
theorem gives_len_sl {x : Operand} {t e : TypeId} {ad : Option Addr} {l c : Nat} (hF : Fr n K a) (hop : o.op = .call { callee := .builtin .len, args := #[x], argTypes := #[t] }) (hT : P.underlying t = some (.slice e)) (hx : ev K x = some (.slice ad l c)) (w : World) :
    (execOp a.eval o).run P w = .ok (.value (.int .i64 (l : Int))) w := by
  simp only [execOp, hop, resolve, invoke, builtin, List.map_toArray, List.map_cons, List.map_nil, hF.ev hx]
  simp [Builtin.len_, run_underlying hT, goInt]
theorem addr_add (b off j : Nat) : (⟨b, off, none⟩ : Addr).add j = ⟨b, off + j, none⟩ := by unfold Addr.add; split <;> simp_all
theorem gives_indexAddrA {x i : Operand} {t e : TypeId} {b off l sz : Nat} {k : IntKind} {z : Int} (j : Nat) (hF : Fr n K a) (hop : o.op = .indexAddr t x i) (hT : P.underlying t = some (.array l e)) (hs : (P.info? e).map (·.size) = some sz)
    (hx : ev K x = some (.pointer (some ⟨b, off, none⟩))) (hi : ev K i = some (.int k z)) (hz : z = (j : Int)) (hj : j < l) (w : World) : (execOp a.eval o).run P w = .ok (.value (.pointer (some ⟨b, off + j * sz, none⟩))) w := by
  subst hz
  obtain ⟨ie, he, hsz⟩ := Option.map_eq_some_iff.1 hs
  have e2 : (sizeOf e).run P w = .ok sz w := by simp [sizeOf, typeInfo, he, hsz]
  simp only [execOp, hop, hF.ev hx, hF.ev hi]
  simp [Instr.indexAt, run_underlying hT, Instr.sureAddr, asIntOf, hj, e2, addr_add]
theorem gives_indexAddrS {x i : Operand} {t e : TypeId} {b off l c sz : Nat} {k : IntKind} {z : Int} (j : Nat) (hF : Fr n K a) (hop : o.op = .indexAddr t x i) (hT : P.underlying t = some (.slice e)) (hs : (P.info? e).map (·.size) = some sz)
    (hx : ev K x = some (.slice (some ⟨b, off, none⟩) l c)) (hi : ev K i = some (.int k z)) (hz : z = (j : Int)) (hj : j < l) (w : World) : (execOp a.eval o).run P w = .ok (.value (.pointer (some ⟨b, off + j * sz, none⟩))) w := by
  subst hz
  obtain ⟨ie, he, hsz⟩ := Option.map_eq_some_iff.1 hs
  have e2 : (sizeOf e).run P w = .ok sz w := by simp [sizeOf, typeInfo, he, hsz]
  simp only [execOp, hop, hF.ev hx, hF.ev hi]
  simp [Instr.indexAt, run_underlying hT, Instr.sureAddr, asIntOf, hj, e2, addr_add]
theorem gives_sliceA {x i j : Operand} {t e : TypeId} {b off l : Nat} {k k' : IntKind} {z y : Int} (q : Nat) (hF : Fr n K a) (hop : o.op = .slice t x (some i) (some j) none) (hT : P.underlying t = some (.array l e)) (hs : (P.info? e).map (·.size) = some 1)
    (hx : ev K x = some (.pointer (some ⟨b, off, none⟩))) (hi : ev K i = some (.int k y)) (hy : y = 0) (hj : ev K j = some (.int k' z)) (hz : z = (q : Int)) (hq : q ≤ l) (w : World) : (execOp a.eval o).run P w = .ok (.value (.slice (some ⟨b, off, none⟩) q l)) w := by
  subst hz; subst hy
  obtain ⟨ie, he, hsz⟩ := Option.map_eq_some_iff.1 hs
  have e2 : (sizeOf e).run P w = .ok 1 w := by simp [sizeOf, typeInfo, he, hsz]
  have e3 : (⟨b, off, none⟩ : Addr).add 0 = ⟨b, off, none⟩ := addr_add b off 0
  simp only [execOp, hop, hF.ev hx, hF.ev hi, hF.ev hj, Option.map_some, Option.map_none]
  simp [Instr.sliceAt, run_underlying hT, Instr.sureAddr, asIntOf, e2, Instr.sliceBounds, Instr.sliceBound, hq, e3]
theorem gives_load1 {x : Operand} {t : TypeId} {ad : Addr} {v : Value} {u : TypeDesc} (hF : Fr n K a) (hop : o.op = .load t x) (hT : P.underlying t = some u) (hu : plainB u = true) (hx : ev K x = some (.pointer (some ad))) (hc : w.cell? ad = some v) :
    (execOp a.eval o).run P w = .ok (.value v) w := by
  have e : (isAgg t).run P w = .ok false w := by
    have h1 := run_underlying (P := P) (w := w) hT
    unfold isAgg
    simp only [Sem.run_bind, h1, Result.andThen_ok]
    cases u <;> first | rfl | (simp [plainB] at hu)
  simp only [execOp, hop, hF.ev hx]
  simp [Instr.loadAt, Instr.sureAddr, loadVar, e, load, Sem.run, hc]
theorem gives_bits {op : BinOp} {t t' : TypeId} {x y : Operand} {k : IntKind} {p q : Int} (r : Int) (hF : Fr n K a) (hop : o.op = .binOp op t x y t') (hx : ev K x = some (.int k p)) (hy : ev K y = some (.int k q)) (hv : bitVal op k p q = some r) (w : World) :
    (execOp a.eval o).run P w = .ok (.value (.int k r)) w := by
  have e : (binOp op t (.int k p) (.int k q)).run P w = .ok (.int k r) w := by
    cases op <;> simp only [bitVal, reduceCtorEq, Option.some.injEq] at hv <;> subst hv <;> simp [binOp, Op.intBits]
  simp only [execOp, hop, hF.ev hx, hF.ev hy]
  cases op <;> simp [bitVal] at hv <;> simp [eqGuard, e]
theorem gives_shl {t t' : TypeId} {x y : Operand} {k k' : IntKind} {p q : Int} (s : Nat) (r : Int) (hF : Fr n K a) (hop : o.op = .binOp .shl t x y t') (hx : ev K x = some (.int k p)) (hy : ev K y = some (.int k' q)) (hq : q = (s : Int)) (hv : k.wrap (p * 2 ^ min s k.bits) = r) (w : World) :
    (execOp a.eval o).run P w = .ok (.value (.int k r)) w := by
  subst hq
  have hn : ¬ ((s : Int) < 0) := by omega
  have e : (binOp .shl t (.int k p) (.int k' (s : Int))).run P w = .ok (.int k r) w := by
    simp only [binOp, Op.shift, if_neg hn, Int.toNat_natCast, hv]
    rfl
  simp only [execOp, hop, hF.ev hx, hF.ev hy]
  simp [eqGuard, e]
theorem gives_shr {t t' : TypeId} {x y : Operand} {k k' : IntKind} {p q : Int} (s : Nat) (r : Int) (hF : Fr n K a) (hop : o.op = .binOp .shr t x y t') (hx : ev K x = some (.int k p)) (hy : ev K y = some (.int k' q)) (hq : q = (s : Int)) (hv : p.fdiv (2 ^ min s k.bits) = r) (w : World) :
    (execOp a.eval o).run P w = .ok (.value (.int k r)) w := by
  subst hq
  have hn : ¬ ((s : Int) < 0) := by omega
  have e : (binOp .shr t (.int k p) (.int k' (s : Int))).run P w = .ok (.int k r) w := by
    simp only [binOp, Op.shift, if_neg hn, Int.toNat_natCast, hv]
    rfl
  simp only [execOp, hop, hF.ev hx, hF.ev hy]
  simp [eqGuard, e]
theorem gives_quo {t t' : TypeId} {x y : Operand} {k : IntKind} {p q : Int} (r : Int) (hF : Fr n K a) (hop : o.op = .binOp .quo t x y t') (hx : ev K x = some (.int k p)) (hy : ev K y = some (.int k q)) (hq : q ≠ 0) (hv : k.wrap (p.tdiv q) = r) (w : World) :
    (execOp a.eval o).run P w = .ok (.value (.int k r)) w := by
  have e : (binOp .quo t (.int k p) (.int k q)).run P w = .ok (.int k r) w := by
    simp [binOp, Op.intDiv, hq, hv]
  simp only [execOp, hop, hF.ev hx, hF.ev hy]
  simp [eqGuard, e]
theorem gives_rem {t t' : TypeId} {x y : Operand} {k : IntKind} {p q : Int} (r : Int) (hF : Fr n K a) (hop : o.op = .binOp .rem t x y t') (hx : ev K x = some (.int k p)) (hy : ev K y = some (.int k q)) (hq : q ≠ 0) (hv : p.tmod q = r) (w : World) :
    (execOp a.eval o).run P w = .ok (.value (.int k r)) w := by
  have e : (binOp .rem t (.int k p) (.int k q)).run P w = .ok (.int k r) w := by
    simp [binOp, Op.intDiv, hq, hv]
  simp only [execOp, hop, hF.ev hx, hF.ev hy]
  simp [eqGuard, e]
theorem gives_eqlBool {t t' : TypeId} {x y : Operand} {p q : Bool} (hF : Fr n K a) (hop : o.op = .binOp .eql t x y t') (hT : P.underlying t = some .bool) (hx : ev K x = some (.bool p)) (hy : ev K y = some (.bool q)) (w : World) :
    (execOp a.eval o).run P w = .ok (.value (.bool (p == q))) w := by
  have e1 : ∀ m, (Op.equalIn (m + 1) t (.bool p) (.bool q)).run P w = .ok (p == q) w := fun m => run_equalIn_bool w m t p q hT
  have e2 : (Op.equal t (.bool p) (.bool q)).run P w = .ok (p == q) w := e1 9999
  have e : (binOp .eql t (.bool p) (.bool q)).run P w = .ok (.bool (p == q)) w := by
    simp only [binOp, Sem.run_bind, e2, Result.andThen_ok]
    rfl
  simp only [execOp, hop, hF.ev hx, hF.ev hy]
  simp [eqGuard, e]
def fcmp (op : BinOp) (k : FloatKind) (x y : Nat) : Option Bool :=
  match op with
  | .eql => some (k.format.order x y == some .eq)
  | .neq => some (k.format.order x y != some .eq)
  | .lss => some (k.format.order x y == some .lt)
  | .leq => some (k.format.order x y == some .lt || k.format.order x y == some .eq)
  | .gtr => some (k.format.order x y == some .gt)
  | .geq => some (k.format.order x y == some .gt || k.format.order x y == some .eq)
  | _ => none
theorem gives_fcmp {op : BinOp} {t t' : TypeId} {x y : Operand} {k : FloatKind} {p q : Nat} {b : Bool} (hF : Fr n K a) (hop : o.op = .binOp op t x y t') (hx : ev K x = some (.float k p)) (hy : ev K y = some (.float k q)) (hb : fcmp op k p q = some b) (w : World) :
    (execOp a.eval o).run P w = .ok (.value (.bool b)) w := by
  cases op <;> simp only [fcmp, reduceCtorEq, Option.some.injEq] at hb <;> subst hb
  all_goals
    simp only [execOp, hop, hF.ev hx, hF.ev hy]
    simp [eqGuard, binOp, Op.floatCmp]
theorem op_farith {op : BinOp} (hc : op = .mul ∨ op = .quo) (hF : Fr n K a) (hM : Mem B w0 L w) (hg : o.guard = none) {d : Nat} {t t' : TypeId} {x y : Operand} {k : FloatKind} {p q : Nat} (hd : o.dst = some d) (hlt : Nat.blt d n = true)
    (hop : o.op = .binOp op t x y t') (hx : ev K x = some (.float k p)) (hy : ev K y = some (.float k q))
    (h : ∀ a' w' f, Fr n ((d, .float k f) :: K) a' → Mem B w0 L w' → wpList P ops Q rest a' w') : wpList P ops Q (o :: rest) a w := by
  have key : ∃ f w', (binOp op t (.float k p) (.float k q)).run P w = .ok (.float k f) w' ∧ (w' = w ∨ w' = w.drew) := by
    rcases hc with rfl | rfl
    · cases hr : k.format.mul p q with
      | some r => exact ⟨r, w, by simp [binOp, Op.floatArith, hr], .inl rfl⟩
      | none =>
        cases hq : (Question.nanBits k p q).forced with
        | true => exact ⟨_, w, by simp [binOp, Op.floatArith, hr, choose, Sem.run, hq]; rfl, .inl rfl⟩
        | false => exact ⟨_, w.drew, by simp [binOp, Op.floatArith, hr, choose, Sem.run, hq]; rfl, .inr rfl⟩
    · cases hr : k.format.div p q with
      | some r => exact ⟨r, w, by simp [binOp, Op.floatArith, hr], .inl rfl⟩
      | none =>
        cases hq : (Question.nanBits k p q).forced with
        | true => exact ⟨_, w, by simp [binOp, Op.floatArith, hr, choose, Sem.run, hq]; rfl, .inl rfl⟩
        | false => exact ⟨_, w.drew, by simp [binOp, Op.floatArith, hr, choose, Sem.run, hq]; rfl, .inr rfl⟩
  obtain ⟨f, w', e, hw⟩ := key
  have hM' : Mem B w0 L w' := by rcases hw with rfl | rfl; exact hM; exact hM.drew
  refine op_run hF hg (.float k f) (w' := w') hd hlt ?_ (fun a' hF' => h a' w' f hF' hM')
  simp only [execOp, hop, hF.ev hx, hF.ev hy]
  rcases hc with rfl | rfl <;> simp [eqGuard, e]
def notIface : TypeDesc → Bool
  | .interface _ => false
  | _ => true
theorem gives_mkIface {x : Operand} {t : TypeId} {v : Value} {u : TypeDesc} (hF : Fr n K a) (hop : o.op = .makeInterface t x) (hT : P.underlying t = some u) (hi : notIface u = true) (hx : ev K x = some v) (w : World) : (execOp a.eval o).run P w = .ok (.value (.iface t v)) w := by
  simp only [execOp, hop, hF.ev hx]
  cases u <;> first | (simp [notIface] at hi; done) | simp [Instr.makeInterface, run_underlying hT]
end
end Go.Sx
namespace Go.Sx
open Go.RowKit
variable {P : Program} {n : Nat} {K : List (Nat × Value)} {a : Act} {w : World} {Q : Exit → Act → World → Prop} {ops : Array Oper} {rest : List Oper} {o : Oper} {q : Act → Prop}
theorem unwanted_undef (hF : Fr n K a) {j d0 : Nat} {want : Bool} {oj : Oper} (hg : o.guard = some (j, want)) (hj : ops[j]? = some oj) (hd : oj.dst = some d0) (hlt : Nat.blt d0 n = true) (hb : look K d0 = some undef) :
    Region.wanted o (yielded ops a.tmps) = false := by
  have h1 := hF.at_ d0 _ hb
  have hl : d0 < a.tmps.size := by rw [hF.size]; exact Nat.le_of_ble_eq_true hlt
  have h2 : a.tmps[d0]? = some undef := by
    rw [Array.getElem?_eq_getElem hl]
    have : a.tmps.getD d0 undef = a.tmps[d0] := by simp [Array.getD, hl]
    rw [← this, h1]
  simp [Region.wanted, hg, yielded, hj, hd, h2, undef]
end Go.Sx
namespace Go.Sx
def resL (k : Int) (raw str : List UInt8) (f : Nat) (ix : Int) : List Value := [.int .i64 k, .string (mkS raw), .string (mkS str), .float .f64 f, .int .i64 ix, .slice none 0 0]
def resV (k : Int) (raw str : List UInt8) (f : Nat) (ix : Int) : Value := .agg (resL k raw str f ix).toArray
end Go.Sx
namespace Go.Sx
open Go.RowKit Go.Proofs
def foTab : List (Nat × Nat × Nat) := [(135, 0, 0), (135, 1, 1), (135, 2, 2), (135, 3, 3), (135, 4, 4), (135, 5, 5), (27, 0, 0), (27, 1, 1), (27, 2, 2), (27, 3, 3), (27, 4, 4), (40, 0, 0), (40, 1, 1), (40, 2, 2), (40, 3, 3), (80, 0, 0), (80, 1, 1), (108, 0, 0), (108, 1, 1), (240, 0, 0), (240, 1, 800), (240, 2, 801), (240, 3, 802), (240, 4, 803), (250, 0, 0), (250, 1, 1), (250, 2, 2), (268, 0, 0), (268, 1, 1), (268, 2, 2), (291, 0, 0), (291, 1, 1), (297, 0, 0), (297, 1, 1), (139, 0, 0), (139, 1, 1)]
def foff (t f : Nat) : List (Nat × Nat × Nat) → Option Nat
  | [] => none
  | e :: r => bif Nat.beq t e.1 && Nat.beq f e.2.1 then some e.2.2 else foff t f r
def hasN (t : Nat) : List Nat → Bool
  | [] => false
  | e :: r => bif Nat.beq t e then true else hasN t r
def kindN (t : Nat) : List (Nat × IntKind) → Option IntKind
  | [] => none
  | e :: r => bif Nat.beq t e.1 then some e.2 else kindN t r
def strL : List Nat := [9, 10, 11]
def slL : List Nat := [66, 24, 25, 38, 22, 133, 146, 158, 159, 286, 298]
def plL : List Nat := [9, 137, 146, 147, 3, 4, 5, 66, 24, 25, 22, 32, 38, 54, 63, 132, 133, 157, 286, 298]
def inL : List (Nat × IntKind) := [(3, .i64), (5, .u8), (54, .u64), (157, .u64), (21, .i32), (186, .u32), (12, .u64), (132, .i64)]
def fieldOk (P : Program) (e : Nat × Nat × Nat) : Bool := match P.underlying e.1 with
  | some (.struct fs) => match fs[e.2.1]? with
    | some fld => Nat.beq fld.offset e.2.2 && (match P.info? fld.type with | some i => Nat.blt 0 i.size | none => false)
    | none => false
  | _ => false
def strOk (P : Program) (t : Nat) : Bool := match P.underlying t with | some .string => true | _ => false
def slOk (P : Program) (t : Nat) : Bool := match P.underlying t with | some (.slice _) => true | _ => false
def plOk (P : Program) (t : Nat) : Bool := match P.underlying t, P.info? t with | some u, some i => plainB u && Nat.beq i.size 1 | _, _ => false
def inOk (P : Program) (e : Nat × IntKind) : Bool := match P.underlying e.1 with | some (.int k) => decide (k = e.2) | _ => false
theorem foTab_ok : foTab.all (fieldOk Tryz.prog) = true := by kernel_rfl
theorem strL_ok : strL.all (strOk Tryz.prog) = true := by kernel_rfl
theorem slL_ok : slL.all (slOk Tryz.prog) = true := by kernel_rfl
theorem plL_ok : plL.all (plOk Tryz.prog) = true := by kernel_rfl
theorem inL_ok : inL.all (inOk Tryz.prog) = true := by kernel_rfl
theorem hasN_mem {t : Nat} : ∀ {l : List Nat}, hasN t l = true → t ∈ l
  | [], h => by cases h
  | e :: r, h => by
    unfold hasN at h
    cases hb : Nat.beq t e with
    | true => rw [Nat.eq_of_beq_eq_true hb]; simp
    | false => rw [hb] at h; exact List.mem_cons_of_mem _ (hasN_mem h)
theorem kindN_mem {t : Nat} {k : IntKind} : ∀ {l : List (Nat × IntKind)}, kindN t l = some k → (t, k) ∈ l
  | [], h => by cases h
  | e :: r, h => by
    unfold kindN at h
    cases hb : Nat.beq t e.1 with
    | true => rw [hb] at h; rw [Nat.eq_of_beq_eq_true hb]; obtain rfl := Option.some.inj h; simp
    | false => rw [hb] at h; exact List.mem_cons_of_mem _ (kindN_mem h)
theorem foff_mem {t f o : Nat} : ∀ {l : List (Nat × Nat × Nat)}, foff t f l = some o → (t, f, o) ∈ l
  | [], h => by cases h
  | e :: r, h => by
    unfold foff at h
    cases hb : Nat.beq t e.1 && Nat.beq f e.2.1 with
    | true =>
      rw [hb] at h; obtain rfl := Option.some.inj h
      obtain ⟨h1, h2⟩ := Bool.and_eq_true_iff.1 hb
      rw [Nat.eq_of_beq_eq_true h1, Nat.eq_of_beq_eq_true h2]; simp
    | false => rw [hb] at h; exact List.mem_cons_of_mem _ (foff_mem h)
theorem strOk_of {P : Program} {t : Nat} (h : strOk P t = true) : P.underlying t = some .string := by
  unfold strOk at h
  split at h
  · assumption
  · cases h
theorem slOk_of {P : Program} {t : Nat} (h : slOk P t = true) : ∃ e, P.underlying t = some (.slice e) := by
  unfold slOk at h
  split at h
  · exact ⟨_, by assumption⟩
  · cases h
theorem plOk_of {P : Program} {t : Nat} (h : plOk P t = true) : (∃ u, P.underlying t = some u ∧ plainB u = true) ∧ (P.info? t).map (·.size) = some 1 := by
  unfold plOk at h
  split at h
  · rename_i u i hu hi
    obtain ⟨h1, h2⟩ := Bool.and_eq_true_iff.1 h
    exact ⟨⟨u, hu, h1⟩, by rw [hi]; simp [Nat.eq_of_beq_eq_true h2]⟩
  · cases h
theorem inOk_of {P : Program} {e : Nat × IntKind} (h : inOk P e = true) : P.underlying e.1 = some (.int e.2) := by
  unfold inOk at h
  split at h
  · rename_i k' e'; rw [e', of_decide_eq_true h]
  · cases h
theorem foOk_of {P : Program} {e : Nat × Nat × Nat} (h : fieldOk P e = true) (ad : Addr) (w : World) : (Instr.fieldAt e.1 (.pointer (some ad)) e.2.1).run P w = .ok (.pointer (some (ad.add e.2.2))) w := by
  unfold fieldOk at h
  split at h
  · rename_i fs hT
    split at h
    · rename_i fld hf
      obtain ⟨h1, h2⟩ := Bool.and_eq_true_iff.1 h
      refine field_at hT hf (Nat.eq_of_beq_eq_true h1) ?_ ad w
      split at h2
      · rename_i i hi; rw [hi]; simp [h2]
      · cases h2
    · cases h
  · cases h
theorem str_of {t : Nat} (h : hasN t strL = true) : Tryz.prog.underlying t = some .string := strOk_of (List.all_eq_true.1 strL_ok _ (hasN_mem h))
theorem sl_of {t : Nat} (h : hasN t slL = true) : ∃ e, Tryz.prog.underlying t = some (.slice e) := slOk_of (List.all_eq_true.1 slL_ok _ (hasN_mem h))
theorem pl_of {t : Nat} (h : hasN t plL = true) : (∃ u, Tryz.prog.underlying t = some u ∧ plainB u = true) ∧ (Tryz.prog.info? t).map (·.size) = some 1 := plOk_of (List.all_eq_true.1 plL_ok _ (hasN_mem h))
theorem in_of {t : Nat} {k : IntKind} (h : kindN t inL = some k) : Tryz.prog.underlying t = some (.int k) := inOk_of (P := Tryz.prog) (e := (t, k)) (List.all_eq_true.1 inL_ok _ (kindN_mem h))
theorem fo_of {t f off : Nat} (h : foff t f foTab = some off) (ad : Addr) (w : World) : (Instr.fieldAt t (.pointer (some ad)) f).run Tryz.prog w = .ok (.pointer (some (ad.add off))) w := foOk_of (P := Tryz.prog) (e := (t, f, off)) (List.all_eq_true.1 foTab_ok _ (foff_mem h)) ad w
def valU (K : List (Nat × Value)) : Op → Option Value
  | .nilCheck x => match ev K x with
    | some (.pointer (some ad)) => some (.pointer (some ad))
    | _ => none
  | .fieldAddr t x f => match ev K x with
    | some (.pointer (some ⟨b, j, none⟩)) => match foff t f foTab with
      | some off => some (.pointer (some ⟨b, j + off, none⟩))
      | none => none
    | _ => none
  | .call ⟨.builtin .len, ⟨[x]⟩, ⟨[t]⟩⟩ => match ev K x with
    | some (.string ⟨⟨l⟩⟩) => bif hasN t strL then some (.int .i64 (l.length : Int)) else none
    | some (.slice _ l _) => bif hasN t slL then some (.int .i64 (l : Int)) else none
    | _ => none
  | .convert s t x => match kindN s inL, kindN t inL, ev K x with
    | some _, some k', some (.int _ z) => some (.int k' (k'.wrap z))
    | _, _, _ => none
  | _ => none
def valT (K : List (Nat × Value)) (op : Op) : Option Value := match valB K op with
  | some v => some v
  | none => valU K op
def wantT (n : Nat) (ops : Array Oper) (K : List (Nat × Value)) : Option (Nat × Bool) → Option Bool
  | none => some true
  | some (j, want) => match ops[j]? with
    | none => none
    | some oj => match oj.dst with
      | none => none
      | some d0 => match Nat.blt d0 n with
        | false => none
        | true => match look K d0 with
          | some (.bool b) => some (b == want)
          | some (.tuple ⟨[]⟩) => some false
          | _ => none
def dstT (n : Nat) (ops : Array Oper) (K : List (Nat × Value)) (o : Oper) : Option Nat := match o.dst with
  | none => none
  | some d => match Nat.blt d n with
    | false => none
    | true => match wantT n ops K o.guard with
      | some true => some d
      | _ => none
def sT1 (n : Nat) (ops : Array Oper) (K : List (Nat × Value)) (o : Oper) : Option (Nat × Value) :=
  match o.dst with
  | none => none
  | some d => match Nat.blt d n with
    | false => none
    | true => match wantT n ops K o.guard with
      | none => none
      | some false => some (d, undef)
      | some true => match valT K o.op with
        | none => none
        | some v => some (d, v)
def sTN (n : Nat) (ops : Array Oper) : Nat → List (Nat × Value) → List Oper → Option (List (Nat × Value) × List Oper)
  | 0, K, l => some (K, l)
  | _ + 1, _, [] => none
  | j + 1, K, o :: l => match sT1 n ops K o with
    | none => none
    | some p => sTN n ops j (p :: K) l
def sTD (n : Nat) (ops : Array Oper) (j : Nat) (ks : List Nat) (K : List (Nat × Value)) (l : List Oper) : Option (List (Nat × Value)) := match sTN n ops j K l with
  | some (K1, []) => pickK ks K1
  | _ => none
section
variable {P : Program} {n : Nat} {K : List (Nat × Value)} {a : Act} {w : World} {Q : Exit → Act → World → Prop} {q : Act → Prop} {ops : Array Oper} {rest : List Oper} {o : Oper} {B : Nat} {w0 : World} {L : List Bk}
theorem valU_run (hF : Fr n K a) {v : Value} (h : valU K o.op = some v) : (execOp a.eval o).run Tryz.prog w = .ok (.value v) w := by
  unfold valU at h
  split at h
  · rename_i x e
    split at h
    · rename_i ad hx; obtain rfl := Option.some.inj h; exact gives_nilCheck hF e hx w
    · cases h
  · rename_i t x f e
    split at h
    · rename_i b j hx
      split at h
      · rename_i off ho; obtain rfl := Option.some.inj h; exact gives_fieldAddr hF off e hx (fo_of ho) w
      · cases h
    · cases h
  · rename_i x t e
    split at h
    · rename_i l hx
      cases hs : hasN t strL with
      | false => rw [hs] at h; cases h
      | true => rw [hs] at h; obtain rfl := Option.some.inj h; exact gives_len_str (l := l) hF e (str_of hs) hx w
    · rename_i ad l c hx
      cases hs : hasN t slL with
      | false => rw [hs] at h; cases h
      | true => rw [hs] at h; obtain rfl := Option.some.inj h; obtain ⟨e', he⟩ := sl_of hs; exact gives_len_sl hF e he hx w
    · cases h
  · rename_i s t x e
    split at h
    · rename_i k k' z1 z2 h1 h2 h3; obtain rfl := Option.some.inj h; exact gives_conv hF e (in_of h1) (in_of h2) h3 _ rfl w
    · cases h
  · cases h
theorem valT_run (hF : Fr n K a) {v : Value} (h : valT K o.op = some v) : (execOp a.eval o).run Tryz.prog w = .ok (.value v) w := by
  unfold valT at h
  split at h
  · rename_i u e; obtain rfl := Option.some.inj h; exact valB_run hF e
  · exact valU_run hF h
theorem want_ok (hF : Fr n K a) {b : Bool} (h : wantT n ops K o.guard = some b) : Region.wanted o (yielded ops a.tmps) = b := by
  cases hg : o.guard with
  | none => rw [hg] at h; simp only [wantT, Option.some.injEq] at h; rw [← h]; simp [Region.wanted, hg]
  | some g =>
    obtain ⟨j, want⟩ := g
    rw [hg] at h
    simp only [wantT] at h
    split at h
    · cases h
    · rename_i oj hj
      split at h
      · cases h
      · rename_i d0 hd0
        split at h
        · cases h
        · rename_i hlt0
          split at h
          · rename_i c hc; obtain rfl := Option.some.inj h; exact wanted_of hF hg hj hd0 hlt0 hc
          · rename_i hc; obtain rfl := Option.some.inj h; exact unwanted_undef hF hg hj hd0 hlt0 hc
          · cases h
theorem dst_ok {d : Nat} (h : dstT n ops K o = some d) : o.dst = some d ∧ d < n ∧ wantT n ops K o.guard = some true := by
  unfold dstT at h
  split at h
  · cases h
  · rename_i d' hd
    split at h
    · cases h
    · rename_i hlt
      split at h
      · rename_i hw; obtain rfl := Option.some.inj h; exact ⟨hd, Nat.le_of_ble_eq_true hlt, hw⟩
      · cases h
theorem unguard (hF : Fr n K a) (hw : wantT n ops K o.guard = some true) (h : wpList P ops Q ({ o with guard := none } :: rest) a w) : wpList P ops Q (o :: rest) a w := by
  unfold wpList at h ⊢
  rw [want_ok hF hw]
  simp only [Region.wanted, if_true] at h ⊢
  rcases h with h | h
  · left
    obtain ⟨d, op, ty, pos, af, g⟩ := o
    exact h
  · right
    obtain ⟨d, op, ty, pos, af, g⟩ := o
    exact h
theorem Gv {v : Value} {d : Nat} (hd : dstT n ops K o = some d) (hy : ∀ a, Fr n K a → (execOp a.eval o).run P w = .ok (.value v) w) (h : ∀ a, Fr n ((d, v) :: K) a → wpList P ops Q rest a w) : ∀ a, Fr n K a → wpList P ops Q (o :: rest) a w := by
  intro a hF
  obtain ⟨h1, h2, h3⟩ := dst_ok hd
  unfold wpList
  rw [want_ok hF h3]
  simp only [if_true]
  left
  unfold Oper.wp
  rw [hy a hF, Oper.upon_value, h1]
  exact h _ (hF.put d v h2)
theorem Gs {v : Value} {d : Nat} (hd : dstT n ops K o = some d) (hy : ∀ a, Fr n K a → (execOp a.eval o).run P w = .ok (.value v) w) (h : ∀ a, Fr n ((d, v) :: K) a → wpStill P ops w q rest a) : ∀ a, Fr n K a → wpStill P ops w q (o :: rest) a := by
  intro a hF
  obtain ⟨h1, h2, h3⟩ := dst_ok hd
  unfold wpStill
  rw [want_ok hF h3]
  simp only [if_true]
  unfold Oper.still
  rw [hy a hF, Oper.stillUpon_value, h1]
  exact h _ (hF.put d v h2)
theorem sT1_run {p : Nat × Value} (h : sT1 n ops K o = some p) (k : ∀ a, Fr n (p :: K) a → wpList Tryz.prog ops Q rest a w) : ∀ a, Fr n K a → wpList Tryz.prog ops Q (o :: rest) a w := by
  intro a hF
  unfold sT1 at h
  split at h
  · cases h
  · rename_i d hd
    split at h
    · cases h
    · rename_i hlt
      split at h
      · cases h
      · rename_i hb
        obtain rfl := Option.some.inj h
        unfold wpList
        rw [want_ok hF hb]
        simp only [Bool.false_eq_true, if_false, hd]
        exact k _ (hF.put d _ (Nat.le_of_ble_eq_true hlt))
      · rename_i hb
        split at h
        · cases h
        · rename_i v hv
          obtain rfl := Option.some.inj h
          exact Gv (d := d) (by unfold dstT; simp only [hd, hlt, hb]) (fun a hF => valT_run hF hv) k a hF
theorem sT1_still {p : Nat × Value} (h : sT1 n ops K o = some p) (k : ∀ a, Fr n (p :: K) a → wpStill Tryz.prog ops w q rest a) : ∀ a, Fr n K a → wpStill Tryz.prog ops w q (o :: rest) a := by
  intro a hF
  unfold sT1 at h
  split at h
  · cases h
  · rename_i d hd
    split at h
    · cases h
    · rename_i hlt
      split at h
      · cases h
      · rename_i hb
        obtain rfl := Option.some.inj h
        unfold wpStill
        rw [want_ok hF hb]
        simp only [Bool.false_eq_true, if_false, hd]
        exact k _ (hF.put d _ (Nat.le_of_ble_eq_true hlt))
      · rename_i hb
        split at h
        · cases h
        · rename_i v hv
          obtain rfl := Option.some.inj h
          exact Gs (d := d) (by unfold dstT; simp only [hd, hlt, hb]) (fun a hF => valT_run hF hv) k a hF
theorem Mv (j : Nat) {l l' : List Oper} {K' : List (Nat × Value)} (h : sTN n ops j K l = some (K', l')) (k : ∀ a, Fr n K' a → wpList Tryz.prog ops Q l' a w) : ∀ a, Fr n K a → wpList Tryz.prog ops Q l a w := by
  induction j generalizing K l with
  | zero => simp only [sTN, Option.some.injEq, Prod.mk.injEq] at h; obtain ⟨rfl, rfl⟩ := h; exact k
  | succ j ih =>
    cases l with
    | nil => simp [sTN] at h
    | cons o l =>
      simp only [sTN] at h
      split at h
      · cases h
      · rename_i p hp
        exact sT1_run hp (ih h)
theorem Ms (j : Nat) {l l' : List Oper} {K' : List (Nat × Value)} (h : sTN n ops j K l = some (K', l')) (k : ∀ a, Fr n K' a → wpStill Tryz.prog ops w q l' a) : ∀ a, Fr n K a → wpStill Tryz.prog ops w q l a := by
  induction j generalizing K l with
  | zero => simp only [sTN, Option.some.injEq, Prod.mk.injEq] at h; obtain ⟨rfl, rfl⟩ := h; exact k
  | succ j ih =>
    cases l with
    | nil => simp [sTN] at h
    | cons o l =>
      simp only [sTN] at h
      split at h
      · cases h
      · rename_i p hp
        exact sT1_still hp (ih h)
theorem Md (j : Nat) (ks : List Nat) {l : List Oper} {K' : List (Nat × Value)} (h : sTD n ops j ks K l = some K') (k : ∀ a, Fr n K' a → Q .normal a w) : ∀ a, Fr n K a → wpList Tryz.prog ops Q l a w := by
  unfold sTD at h
  split at h
  · rename_i K1 h1; exact Mv j h1 (fun a hF => k a (hF.kp ks h))
  · cases h
theorem Kp {X : Act → Prop} (ks : List Nat) {K' : List (Nat × Value)} (h : pickK ks K = some K') (k : ∀ a, Fr n K' a → X a) : ∀ a, Fr n K a → X a := fun a hF => k a (hF.kp ks h)
theorem Bv {e b : Bool} {d : Nat} (hd : dstT n ops K o = some d) (hv : valT K o.op = some (.bool e)) (he : e = b) (h : ∀ a, Fr n ((d, .bool b) :: K) a → wpList Tryz.prog ops Q rest a w) : ∀ a, Fr n K a → wpList Tryz.prog ops Q (o :: rest) a w :=
  Gv hd (fun a hF => by rw [← he]; exact valT_run hF hv) h
theorem Bs {e b : Bool} {d : Nat} (hd : dstT n ops K o = some d) (hv : valT K o.op = some (.bool e)) (he : e = b) (h : ∀ a, Fr n ((d, .bool b) :: K) a → wpStill Tryz.prog ops w q rest a) : ∀ a, Fr n K a → wpStill Tryz.prog ops w q (o :: rest) a :=
  Gs hd (fun a hF => by rw [← he]; exact valT_run hF hv) h
def smT (K : List (Nat × Value)) : Op → Option Int
  | .binOp op _ x y _ => match ev K x, ev K y with
    | some (.int .i64 p), some (.int .i64 q) => match op with
      | .add => some (p + q)
      | .sub => some (p - q)
      | .mul => some (p * q)
      | _ => none
    | _, _ => none
  | _ => none
theorem smT_run (hF : Fr n K a) {r r' : Int} (h : smT K o.op = some r') (he : r' = r ∧ -9223372036854775808 ≤ r ∧ r ≤ 9223372036854775807) : (execOp a.eval o).run P w = .ok (.value (.int .i64 r)) w := by
  unfold smT at h
  split at h
  · rename_i op t x y t' e
    split at h
    · rename_i p q hx hy
      have hw : IntKind.i64.wrap r' = r := by rw [he.1]; exact wrap_i64 he.2.1 he.2.2
      split at h
      · obtain rfl := Option.some.inj h; exact gives_bin hF e hx hy (by simp only [binVal, hw]) w
      · obtain rfl := Option.some.inj h; exact gives_bin hF e hx hy (by simp only [binVal, hw]) w
      · obtain rfl := Option.some.inj h; exact gives_bin hF e hx hy (by simp only [binVal, hw]) w
      · cases h
    · cases h
  · cases h
theorem Sm (r : Int) {r' : Int} {d : Nat} (hd : (dstT n ops K o, smT K o.op) = (some d, some r')) (he : r' = r ∧ -9223372036854775808 ≤ r ∧ r ≤ 9223372036854775807) (h : ∀ a, Fr n ((d, .int .i64 r) :: K) a → wpList P ops Q rest a w) : ∀ a, Fr n K a → wpList P ops Q (o :: rest) a w :=
  Gv (Prod.mk.inj hd).1 (fun _ hF => smT_run hF (Prod.mk.inj hd).2 he) h
theorem Sn {r : Int} {d : Nat} (hd : (dstT n ops K o, smT K o.op) = (some d, some r)) (he : -9223372036854775808 ≤ r ∧ r ≤ 9223372036854775807) (h : ∀ a, Fr n ((d, .int .i64 r) :: K) a → wpList P ops Q rest a w) : ∀ a, Fr n K a → wpList P ops Q (o :: rest) a w :=
  Sm r hd ⟨rfl, he⟩ h
theorem Ss (r : Int) {r' : Int} {d : Nat} (hd : (dstT n ops K o, smT K o.op) = (some d, some r')) (he : r' = r ∧ -9223372036854775808 ≤ r ∧ r ≤ 9223372036854775807) (h : ∀ a, Fr n ((d, .int .i64 r) :: K) a → wpStill P ops w q rest a) : ∀ a, Fr n K a → wpStill P ops w q (o :: rest) a :=
  Gs (Prod.mk.inj hd).1 (fun _ hF => smT_run hF (Prod.mk.inj hd).2 he) h
def ixT (K : List (Nat × Value)) : Op → Option (List UInt8 × Int)
  | .index t x i => match hasN t strL, ev K x, ev K i with
    | true, some (.string ⟨⟨l⟩⟩), some (.int _ z) => some (l, z)
    | _, _, _ => none
  | _ => none
theorem ixT_run (hF : Fr n K a) {l : List UInt8} {z : Int} (h : ixT K o.op = some (l, z)) {j : Nat} {c : UInt8} (hz : z = (j : Int)) (hc : l[j]? = some c) : (execOp a.eval o).run Tryz.prog w = .ok (.value (.int .u8 (c.toNat : Int))) w := by
  unfold ixT at h
  split at h
  · rename_i t x i e
    split at h
    · rename_i ht hx hi
      obtain ⟨rfl, rfl⟩ := Prod.mk.inj (Option.some.inj h)
      exact gives_index_str j c hF e (str_of ht) hx hi hz hc w
    · cases h
  · cases h
theorem Is (j : Nat) (c : UInt8) {l : List UInt8} {z : Int} {d : Nat} (hd : (dstT n ops K o, ixT K o.op) = (some d, some (l, z))) (hc : l[j]? = some c) (hz : z = (j : Int)) (h : ∀ a, Fr n ((d, .int .u8 (c.toNat : Int)) :: K) a → wpStill Tryz.prog ops w q rest a) : ∀ a, Fr n K a → wpStill Tryz.prog ops w q (o :: rest) a :=
  Gs (Prod.mk.inj hd).1 (fun _ hF => ixT_run hF (Prod.mk.inj hd).2 hz hc) h
def ldT (K : List (Nat × Value)) : Op → Option (Nat × Nat)
  | .load t x => match hasN t plL, ev K x with
    | true, some (.pointer (some ⟨b, j, none⟩)) => some (b, j)
    | _, _ => none
  | _ => none
theorem ldT_run (hF : Fr n K a) (hM : Mem B w0 L w) {b j k : Nat} {t0 : TypeId} {vs : List Value} {v : Value} (h : ldT K o.op = some (b, j)) (hk : L[k]? = some (b, t0, vs)) (hv : vs[j]? = some v) : (execOp a.eval o).run Tryz.prog w = .ok (.value v) w := by
  unfold ldT at h
  split at h
  · rename_i t x e
    split at h
    · rename_i ht hx
      obtain ⟨rfl, rfl⟩ := Prod.mk.inj (Option.some.inj h)
      obtain ⟨⟨u, h1, h2⟩, _⟩ := pl_of ht
      exact gives_load hF hM k e h1 h2 hx hk hv
    · cases h
  · cases h
theorem Ld (hM : Mem B w0 L w) (k : Nat) {b j d : Nat} {t0 : TypeId} {vs : List Value} {v : Value} (hd : (dstT n ops K o, ldT K o.op) = (some d, some (b, j))) (hk : (L[k]?, vs[j]?) = (some (b, t0, vs), some v)) (h : ∀ a, Fr n ((d, v) :: K) a → wpList Tryz.prog ops Q rest a w) : ∀ a, Fr n K a → wpList Tryz.prog ops Q (o :: rest) a w :=
  Gv (Prod.mk.inj hd).1 (fun _ hF => ldT_run hF hM (Prod.mk.inj hd).2 (Prod.mk.inj hk).1 (Prod.mk.inj hk).2) h
theorem Ls (hM : Mem B w0 L w) (k : Nat) {b j d : Nat} {t0 : TypeId} {vs : List Value} {v : Value} (hd : (dstT n ops K o, ldT K o.op) = (some d, some (b, j))) (hk : (L[k]?, vs[j]?) = (some (b, t0, vs), some v)) (h : ∀ a, Fr n ((d, v) :: K) a → wpStill Tryz.prog ops w q rest a) : ∀ a, Fr n K a → wpStill Tryz.prog ops w q (o :: rest) a :=
  Gs (Prod.mk.inj hd).1 (fun _ hF => ldT_run hF hM (Prod.mk.inj hd).2 (Prod.mk.inj hk).1 (Prod.mk.inj hk).2) h
theorem St (hM : Mem B w0 L w) (k : Nat) {x y : Operand} {t t0 : TypeId} {b j : Nat} {vs : List Value} {v : Value} (hd : (o.dst, wantT n ops K o.guard, o.op, hasN t plL, ev K x, ev K y, v.oneCell', L[k]?, Nat.blt j vs.length) = (none, some true, .store t x y, true, some (.pointer (some ⟨b, j, none⟩)), some v, true, some (b, t0, vs), true))
    (h : ∀ w', Mem B w0 (L.set k (b, t0, vs.set j v)) w' → ∀ a, Fr n K a → wpList Tryz.prog ops Q rest a w') : ∀ a, Fr n K a → wpList Tryz.prog ops Q (o :: rest) a w := by
  intro a hF
  simp only [Prod.mk.injEq] at hd
  obtain ⟨h1, h2, h3, h4, h5, h6, h7, h8, h9⟩ := hd
  exact unguard hF h2 <| op_store (o := { o with guard := none }) hF hM rfl k h1 h3 (pl_of h4).2 h5 h6 h7 h8 (Nat.le_of_ble_eq_true h9) (fun a' w' hF' hM' => h w' hM' a' hF')
theorem Cl {d : Nat} {f : FuncId} {fn : Func} {l : List Operand} {ats : Array TypeId} {vals : List Value} {R : Value → World → Prop} (hd : (dstT n ops K o, o.op) = (some d, .call { callee := .value (.func f), args := l.toArray, argTypes := ats })) (hf : P.funcs[f]? = some fn)
    (hn : (!(fn.name == "runtime.NumGoroutine") && !fn.body.isNone) = true) (hargs : evs K l = some vals) (hc : Calls P f vals.toArray w (Ret R)) (h : ∀ w' v, R v w' → ∀ a, Fr n ((d, v) :: K) a → wpList P ops Q rest a w') : ∀ a, Fr n K a → wpList P ops Q (o :: rest) a w := by
  intro a hF
  simp only [Prod.mk.injEq] at hd
  obtain ⟨h1, h3⟩ := hd
  obtain ⟨h4, h5, h6⟩ := dst_ok h1
  simp only [Bool.and_eq_true, Bool.not_eq_true'] at hn
  exact unguard hF h6 (op_call (o := { o with guard := none }) hF rfl h4 (Nat.ble_eq_true_of_le h5) h3 hf hn.1 hn.2 hargs hc (fun a' w' v hR hF' => h w' v hR a' hF'))
theorem Cm (hM : Mem B w0 L w) {d : Nat} {f : FuncId} {fn : Func} {l : List Operand} {ats : Array TypeId} {vals : List Value} {R : Value → Prop} (hd : (dstT n ops K o, o.op) = (some d, .call { callee := .value (.func f), args := l.toArray, argTypes := ats })) (hf : P.funcs[f]? = some fn)
    (hn : (!(fn.name == "runtime.NumGoroutine") && !fn.body.isNone) = true) (hargs : evs K l = some vals) (hc : Calls P f vals.toArray w (Ret fun v w' => R v ∧ Below w.heap.size w w')) (h : ∀ w' v, R v → Mem B w0 L w' → Below w.heap.size w w' → ∀ a, Fr n ((d, v) :: K) a → wpList P ops Q rest a w') : ∀ a, Fr n K a → wpList P ops Q (o :: rest) a w :=
  Cl hd hf hn hargs hc (fun w' v hR => h w' v hR.1 (hM.step hR.2) hR.2)
theorem Nx {y : Code} (h : ∀ a, Fr n K a → y.wp P Q a w) : ∀ a, Fr n K a → Exit.then (y.wp P Q) Q .normal a w := h
theorem Sq {x y : Code} (h : ∀ a, Fr n K a → x.wp P (Exit.then (y.wp P Q) Q) a w) : ∀ a, Fr n K a → (Code.seq x y).wp P Q a w := fun a hF => wp_seq (h a hF)
theorem Rg {id : Nat} {l : List Oper} (h : ∀ a, Fr n K a → wpList P l.toArray Q l a w) : ∀ a, Fr n K a → (Code.region id l.toArray false).wp P Q a w := fun a hF => region (h a hF)
theorem Sd (h : ∀ a, Fr n K a → q a) : ∀ a, Fr n K a → wpStill P ops w q [] a := fun a hF => stdone (h a hF)
theorem Sk (h : ∀ a, Fr n K a → Q .normal a w) : ∀ a, Fr n K a → Code.skip.wp P Q a w := fun a hF => skip (h a hF)
theorem Bo {id : Nat} {c : Code} (h : ∀ a, Fr n K a → c.wp P (Exit.inBlock id Q) a w) : ∀ a, Fr n K a → (Code.block id c).wp P Q a w := fun a hF => wp_block (h a hF)
theorem Nb {id : Nat} (h : ∀ a, Fr n K a → Q .normal a w) : ∀ a, Fr n K a → Exit.inBlock id Q .normal a w := h
theorem Ob {id : Nat} (h : ∀ a, Fr n K a → Q .normal a w) : ∀ a, Fr n K a → Exit.inBlock id Q (.exit id) a w := fun a hF => out_block (h a hF)
theorem Op' {id id' : Nat} (hne : Nat.beq id' id = false) (h : ∀ a, Fr n K a → Q (.exit id') a w) : ∀ a, Fr n K a → Exit.inBlock id Q (.exit id') a w := fun a hF => out_past (fun e => by rw [e] at hne; simp at hne) (h a hF)
theorem Ot {id : Nat} {M : Act → World → Prop} (h : ∀ a, Fr n K a → Q (.exit id) a w) : ∀ a, Fr n K a → Exit.then M Q (.exit id) a w := h
theorem Rt {M : Act → World → Prop} (h : ∀ a, Fr n K a → Q .ret a w) : ∀ a, Fr n K a → Exit.then M Q .ret a w := h
theorem Rb {id : Nat} (h : ∀ a, Fr n K a → Q .ret a w) : ∀ a, Fr n K a → Exit.inBlock id Q .ret a w := h
theorem Ex {id : Nat} (h : ∀ a, Fr n K a → Q (.exit id) a w) : ∀ a, Fr n K a → (Code.exit id).wp P Q a w := fun a hF => wp_exit (h a hF)
theorem Re (h : ∀ a, Fr n K a → Q .ret a w) : ∀ a, Fr n K a → Code.ret.wp P Q a w := fun a hF => wp_ret (h a hF)
theorem Jn {J : Nat → Act → World → Prop} (h : ∀ a, Fr n K a → Q .normal a w) : ∀ a, Fr n K a → Jumps J Q .normal a w := h
theorem Jx {J : Nat → Act → World → Prop} {id : Nat} (h : ∀ a, Fr n K a → Q (.exit id) a w) : ∀ a, Fr n K a → Jumps J Q (.exit id) a w := h
theorem Jr {J : Nat → Act → World → Prop} (h : ∀ a, Fr n K a → Q .ret a w) : ∀ a, Fr n K a → Jumps J Q .ret a w := h
theorem Jt {J : Nat → Act → World → Prop} {l : Nat} (h : ∀ a, Fr n K a → J l a w) : ∀ a, Fr n K a → Jumps J Q (.goto l) a w := h
theorem Gt {l : Nat} {M : Act → World → Prop} (h : ∀ a, Fr n K a → Q (.goto l) a w) : ∀ a, Fr n K a → Exit.then M Q (.goto l) a w := h
theorem Gb {id l : Nat} (h : ∀ a, Fr n K a → Q (.goto l) a w) : ∀ a, Fr n K a → Exit.inBlock id Q (.goto l) a w := h
theorem Wl {l : Nat} (h : ∀ a, Fr n K a → Q .normal a w) : ∀ a, Fr n K a → (Code.label l).wp P Q a w := fun a hF => wp_label (h a hF)
theorem Wg {l : Nat} (h : ∀ a, Fr n K a → Q (.goto l) a w) : ∀ a, Fr n K a → (Code.goto l).wp P Q a w := fun a hF => wp_goto (h a hF)
theorem Sl {id : Nat} {l : List Oper} (hm : P.follows .mixedOrders = true) (hB : Region.lexB .any l.toArray = true) (h : ∀ a, Fr n K a → wpStill P l.toArray w.drew (fun a' => Q .normal a' w.drew) l a) : ∀ a, Fr n K a → (Code.region id l.toArray true).wp P Q a w := fun a hF => still hm hB (h a hF)
theorem Su {id : Nat} {l : List Oper} (m : Nat) (hm : P.follows .mixedOrders = true) (hB : Region.lexTailB .any l.toArray m = true) (h : ∀ a, Fr n K a → wpStill P l.toArray w.drew (fun a' => wpList P l.toArray Q (l.drop m) a' w.drew) (l.take m) a) : ∀ a, Fr n K a → (Code.region id l.toArray true).wp P Q a w := fun a hF => stillTail m hm hB (h a hF)
theorem Cd {c : Operand} {x y : Code} {t : Bool} (hc : ev K c = some (.bool t)) (ht : t = true → ∀ a, Fr n K a → x.wp P Q a w) (hf : t = false → ∀ a, Fr n K a → y.wp P Q a w) : ∀ a, Fr n K a → (Code.cond c x y).wp P Q a w := fun a hF => cond hF hc (fun e => ht e a hF) (fun e => hf e a hF)
theorem Ce {c : Operand} {x y : Code} {t : Bool} (hc : ev K c = some (.bool t)) (hf : t = false → ∀ a, Fr n K a → y.wp P Q a w) (ht : t = true → ∀ a, Fr n K a → x.wp P Q a w) : ∀ a, Fr n K a → (Code.cond c x y).wp P Q a w := Cd hc ht hf
theorem C0 {c : Operand} {x y : Code} {t : Bool} (hc : ev K c = some (.bool t)) (ht : ∀ a, Fr n K a → x.wp P Q a w) (hf : ∀ a, Fr n K a → y.wp P Q a w) : ∀ a, Fr n K a → (Code.cond c x y).wp P Q a w := Cd hc (fun _ => ht) (fun _ => hf)
theorem C1 {c : Operand} {x y : Code} {t : Bool} (hc : ev K c = some (.bool t)) (ht : t = true → ∀ a, Fr n K a → x.wp P Q a w) (hf : ∀ a, Fr n K a → y.wp P Q a w) : ∀ a, Fr n K a → (Code.cond c x y).wp P Q a w := Cd hc ht (fun _ => hf)
theorem C2 {c : Operand} {x y : Code} {t : Bool} (hc : ev K c = some (.bool t)) (ht : ∀ a, Fr n K a → x.wp P Q a w) (hf : t = false → ∀ a, Fr n K a → y.wp P Q a w) : ∀ a, Fr n K a → (Code.cond c x y).wp P Q a w := Cd hc (fun _ => ht) hf
theorem D0 {c : Operand} {x y : Code} {t : Bool} (hc : ev K c = some (.bool t)) (hf : ∀ a, Fr n K a → y.wp P Q a w) (ht : ∀ a, Fr n K a → x.wp P Q a w) : ∀ a, Fr n K a → (Code.cond c x y).wp P Q a w := C0 hc ht hf
theorem D1 {c : Operand} {x y : Code} {t : Bool} (hc : ev K c = some (.bool t)) (hf : ∀ a, Fr n K a → y.wp P Q a w) (ht : t = true → ∀ a, Fr n K a → x.wp P Q a w) : ∀ a, Fr n K a → (Code.cond c x y).wp P Q a w := C1 hc ht hf
theorem D2 {c : Operand} {x y : Code} {t : Bool} (hc : ev K c = some (.bool t)) (hf : t = false → ∀ a, Fr n K a → y.wp P Q a w) (ht : ∀ a, Fr n K a → x.wp P Q a w) : ∀ a, Fr n K a → (Code.cond c x y).wp P Q a w := C2 hc ht hf
theorem Ct {c : Operand} {x y : Code} (hc : ev K c = some (.bool true)) (h : ∀ a, Fr n K a → x.wp P Q a w) : ∀ a, Fr n K a → (Code.cond c x y).wp P Q a w := Cd hc (fun _ => h) (fun e => by cases e)
theorem Cf {c : Operand} {x y : Code} (hc : ev K c = some (.bool false)) (h : ∀ a, Fr n K a → y.wp P Q a w) : ∀ a, Fr n K a → (Code.cond c x y).wp P Q a w := Cd hc (fun e => by cases e) (fun _ => h)
variable {fn : Func} {R : Ending → World → Prop}
theorem Y1 {t : Tmp} {x : Value} (h : fn.results = #[.tmp t]) (hx : look K t = some x) (hR : R (.returned x) w) : ∀ a, Fr n K a → bodyPost P fn R .ret a w := fun _ hF => ret1 hF h hx hR
theorem Y2 {t u : Tmp} {x y : Value} (h : fn.results = #[.tmp t, .tmp u]) (hx : look K t = some x) (hy : look K u = some y) (hR : R (.returned (.tuple #[x, y])) w) : ∀ a, Fr n K a → bodyPost P fn R .ret a w := fun _ hF => ret2 hF h hx hy hR
theorem Y3 {t u v : Tmp} {x y z : Value} (h : fn.results = #[.tmp t, .tmp u, .tmp v]) (hx : look K t = some x) (hy : look K u = some y) (hz : look K v = some z) (hR : R (.returned (.tuple #[x, y, z])) w) : ∀ a, Fr n K a → bodyPost P fn R .ret a w := fun _ hF => ret3 hF h hx hy hz hR
theorem Y0 (h : fn.results = #[]) (hR : R (.returned (.tuple #[])) w) : ∀ a, Fr n K a → bodyPost P fn R .ret a w := fun _ hF => retNone hF h hR
theorem Z0 (h : fn.results = #[]) (hR : R (.returned (.tuple #[])) w) : ∀ a, Fr n K a → bodyPost P fn R .normal a w := fun _ hF => endNone hF h hR
end
end Go.Sx
