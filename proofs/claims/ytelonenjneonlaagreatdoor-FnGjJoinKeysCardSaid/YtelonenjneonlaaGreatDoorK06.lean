/- Part 6 of the proof of FnGjJoinKeys: the statement Rows.FnGjJoinKeysCardSaid; no further condition. -/
import Derived.Test.YtelonenjneonlaaGreatDoorK05
import Derived.Lib.LazyBuf
import Derived.Lib.UnsafeStr
set_option linter.all false
set_option linter.unusedVariables false
namespace Js
structure Dec (ds : Str) (m : Nat) : Prop where
  len : ds.length = 800
  le : m ≤ 800
  digs : Digs (ds.take m)
  head : 0 < m → ds[0]? ≠ some 48
theorem Dec.at {ds : Str} {m j : Nat} (h : Dec ds m) (hj : j < m) : ∃ c, ds[j]? = some c ∧ isDig c = true := by
  have hl : j < ds.length := by rw [h.len]; have := h.le; omega
  refine ⟨ds[j], List.getElem?_eq_getElem hl, h.digs _ ?_⟩
  rw [List.mem_iff_getElem?]
  exact ⟨j, by rw [List.getElem?_take, if_pos hj, List.getElem?_eq_getElem hl]⟩
theorem Dec.first {ds : Str} {m : Nat} (h : Dec ds m) (h0 : 0 < m) : ∃ c r, ds.take m = c :: r ∧ isDig c = true ∧ c ≠ 48 ∧ ds[0]? = some c ∧ r.length + 1 = m := by
  obtain ⟨c, hc, hd⟩ := h.at h0
  have hn := h.head h0
  have hle := h.le
  cases ds with
  | nil => simp at hc
  | cons d r =>
    simp only [List.getElem?_cons_zero, Option.some.injEq] at hc
    subst hc
    obtain ⟨m, rfl⟩ : ∃ k, m = k + 1 := ⟨m - 1, by omega⟩
    refine ⟨d, r.take m, rfl, hd, fun e => hn (by rw [e]; rfl), rfl, ?_⟩
    have := h.len
    simp only [List.length_cons] at this
    rw [List.length_take]
    omega
theorem Dec.low {ds : Str} {m : Nat} (h : Dec ds m) (h0 : 0 < m) : 10 ^ (m - 1) ≤ worth (ds.take m) := by
  obtain ⟨c, r, e, hc, hn, _, hl⟩ := h.first h0
  rw [e, show m - 1 = r.length by omega]
  exact worth_pos hc hn
theorem Dec.tlen {ds : Str} {m : Nat} (h : Dec ds m) : (ds.take m).length = m := by
  rw [List.length_take, h.len]; exact Nat.min_eq_left h.le
def ldel (D : Str) (k : Nat) : Nat := if pless D (five k) then deltas.getD k 0 - 1 else deltas.getD k 0
theorem left_range {ds : Str} {m k : Nat} (h : Dec ds m) (h0 : 0 < m) (h1 : 1 ≤ k) (h2 : k ≤ 60) :
    10 ^ (m + ldel (ds.take m) k - 1) ≤ worth (ds.take m) * 2 ^ k ∧ worth (ds.take m) * 2 ^ k < 10 ^ (m + ldel (ds.take m) k) := by
  have R := tab_row h1 h2
  have hlow := h.low h0
  have hD := h.digs
  have htl := h.tlen
  have hlt := worth_lt hD
  rw [htl] at hlt
  have hk : (0:Nat) < 2 ^ k := Nat.pow_pos (by decide)
  unfold ldel
  generalize deltas.getD k 0 = d at *
  have e1 : worth (five k) * 10 ^ m * 2 ^ k = 10 ^ (m + k) := by
    rw [R.worth, Nat.mul_right_comm, ← Nat.mul_pow, show 5 * 2 = 10 from rfl, ← Nat.pow_add, Nat.add_comm]
  have hp : (0:Nat) < 10 ^ (five k).length := Nat.pow_pos (by decide)
  have hlen := R.len
  have hd1 := R.pos
  cases hpl : pless (ds.take m) (five k) with
  | true =>
    simp only [if_true]
    have h3 := pless_true hD R.digs R.last hpl
    rw [htl] at h3
    refine ⟨?_, ?_⟩
    · have := Nat.mul_le_mul hlow R.low
      rw [← Nat.pow_add, show m - 1 + (d - 1) = m + (d - 1) - 1 by omega] at this
      exact this
    · have h4 := Nat.mul_lt_mul_of_pos_right h3 hk
      rw [e1, Nat.mul_right_comm, show m + k = (m + (d - 1)) + (five k).length by omega, Nat.pow_add] at h4
      exact Nat.lt_of_mul_lt_mul_right h4
  | false =>
    simp only [Bool.false_eq_true, if_false]
    have h3 := pless_false hD R.digs hpl
    rw [htl] at h3
    refine ⟨?_, ?_⟩
    · have h4 := Nat.mul_le_mul_right (2 ^ k) h3
      rw [e1, Nat.mul_right_comm (worth _) , show m + k = (m + d - 1) + (five k).length by omega, Nat.pow_add] at h4
      exact Nat.le_of_mul_le_mul_right h4 hp
    · have h5 : worth (ds.take m) * 2 ^ k < 10 ^ m * 2 ^ k := Nat.mul_lt_mul_of_pos_right hlt hk
      have h6 : 10 ^ m * 2 ^ k < 10 ^ m * 10 ^ d := Nat.mul_lt_mul_of_pos_left R.big (Nat.pow_pos (by decide))
      rw [Nat.pow_add]
      omega
theorem carry_lt {X n p v : Nat} {out : Str} (hX : X < 10 ^ p) (he : X = n * 10 ^ out.length + worth out) (hl : out.length + v = p) : n < 10 ^ v := by
  have h1 : n * 10 ^ out.length < 10 ^ v * 10 ^ out.length := by rw [← Nat.pow_add, Nat.add_comm v, hl]; omega
  exact Nat.lt_of_mul_lt_mul_right h1
theorem carry_ge {X n p v : Nat} {out : Str} (hX : 10 ^ (p - 1) ≤ X) (he : X = n * 10 ^ out.length + worth out) (hd : Digs out) (hl : out.length + v = p) (hv : 1 ≤ v) : 10 ^ (v - 1) ≤ n := by
  have h0 := worth_lt hd
  have h1 : 10 ^ (v - 1) * 10 ^ out.length < (n + 1) * 10 ^ out.length := by
    rw [← Nat.pow_add, show v - 1 + out.length = p - 1 by omega, Nat.add_mul]
    omega
  have := Nat.lt_of_mul_lt_mul_right h1
  omega
theorem Dec.of_out {arr out : Str} {ds : Str} {m' : Nat} (hA : Arr ds arr 0 out) (hd : Digs out) (hh : out.head? ≠ some 48) (h0 : out ≠ []) (hle : m' ≤ min 800 out.length)
    (hz : ∀ j, m' ≤ j → j < min 800 out.length → arr[j]? = some 48) : Dec arr m' ∧ 0 < m' ∧ arr.take m' = out.take m' ∧ arr[0]? = out.head? := by
  have hpos : 0 < out.length := List.length_pos_iff.2 h0
  have hall : ∀ j, j < 800 → j < out.length → arr[j]? = out[j]? := fun j h1 h2 => by
    have := hA.high j _ (List.getElem?_eq_getElem h2) (by omega)
    rw [Nat.zero_add] at this
    rw [this, List.getElem?_eq_getElem h2]
  have hfirst : arr[0]? = out.head? := by rw [hall 0 (by omega) hpos, List.head?_eq_getElem?]
  have hm : 0 < m' := by
    rcases Nat.eq_zero_or_pos m' with h | h
    · have := hz 0 (by omega) (by omega)
      rw [hfirst] at this
      exact absurd this hh
    · exact h
  have htk : arr.take m' = out.take m' := by
    apply List.ext_getElem?
    intro j
    rw [List.getElem?_take, List.getElem?_take]
    split
    · exact hall j (by omega) (by omega)
    · rfl
  refine ⟨⟨hA.len, by omega, ?_, fun _ => by rw [hfirst]; exact hh⟩, hm, htk, hfirst⟩
  rw [htk]
  exact hd.take m'
theorem head_of_worth {out : Str} {p : Nat} (hd : Digs out) (hl : out.length = p) (h0 : 0 < p) (hw : 10 ^ (p - 1) ≤ worth out) : ∃ c r, out = c :: r ∧ isDig c = true ∧ c ≠ 48 ∧ dg c = worth out / 10 ^ (p - 1) := by
  cases out with
  | nil => simp at hl; omega
  | cons c r =>
    have hr := worth_lt hd.tail
    simp only [List.length_cons] at hl
    rw [show p - 1 = r.length by omega] at hw ⊢
    have hp : (0:Nat) < 10 ^ r.length := Nat.pow_pos (by decide)
    refine ⟨c, r, rfl, hd.head, ?_, ?_⟩
    · rintro rfl
      simp only [worth, show dg 48 = 0 from rfl] at hw
      omega
    · simp only [worth]
      rw [Nat.add_comm, Nat.add_mul_div_right _ _ hp, Nat.div_eq_of_lt hr, Nat.zero_add]
theorem left_grows {ds out : Str} {m k : Nat} (h : Dec ds m) (h0 : 0 < m) (h1 : 1 ≤ k) (hd : Digs out) (hl : out.length = m) (hw : worth out = worth (ds.take m) * 2 ^ k) :
    ∃ c c' r, ds[0]? = some c ∧ out = c' :: r ∧ isDig c = true ∧ isDig c' = true ∧ c ≠ 48 ∧ dg c < dg c' := by
  have hlow := h.low h0
  obtain ⟨c, r, e, hc, hn, hc0, hl0⟩ := h.first h0
  have h2k : 2 ≤ 2 ^ k := by
    have := Nat.pow_le_pow_right (show 0 < 2 by decide) h1
    simpa using this
  have hge : worth (ds.take m) * 2 ≤ worth out := by rw [hw]; exact Nat.mul_le_mul_left _ h2k
  obtain ⟨c', r', rfl, hc', hn', hq⟩ := head_of_worth (p := m) hd hl h0 (by omega)
  have hp : (0:Nat) < 10 ^ (m - 1) := Nat.pow_pos (by decide)
  have h3 : dg c * 10 ^ (m - 1) ≤ worth (ds.take m) := by
    rw [e, show m - 1 = r.length by omega]; simp [worth]
  have h4 : dg c * 2 ≤ dg c' := by
    rw [hq, Nat.le_div_iff_mul_le hp]
    have : dg c * 2 * 10 ^ (m - 1) = dg c * 10 ^ (m - 1) * 2 := by rw [Nat.mul_right_comm]
    omega
  have h5 : 1 ≤ dg c := by
    have h6 := dig_rng hc
    have h7 : c.toNat ≠ 48 := fun e => hn (UInt8.toNat_inj.1 e)
    unfold dg; omega
  exact ⟨c, c', r', hc0, rfl, hc, hc', hn, by omega⟩
end Js
namespace Go.Sx
open Go.RowKit Go.Proofs Js Go.Proofs.YtelonenjneonlaaGreatDoorW.PrintWords
def decL (ds : Str) (nd dp : Int) (neg tr : Bool) : List Value := u8s ds ++ [.int .i64 nd, .int .i64 dp, .bool neg, .bool tr]
section
variable {ds : Str} {nd dp : Int} {neg tr : Bool}
theorem dec_len (hl : ds.length = 800) : (decL ds nd dp neg tr).length = 804 := by simp [decL, u8s_length, hl]
theorem dec_past (hl : ds.length = 800) (i : Nat) : (decL ds nd dp neg tr)[800 + i]? = ([.int .i64 nd, .int .i64 dp, .bool neg, .bool tr] : List Value)[i]? := by
  unfold decL
  rw [List.getElem?_append_right (by rw [u8s_length]; omega), u8s_length, hl, Nat.add_sub_cancel_left]
theorem dget_nd (hl : ds.length = 800) : (decL ds nd dp neg tr)[800]? = some (.int .i64 nd) := dec_past hl 0
theorem dget_dp (hl : ds.length = 800) : (decL ds nd dp neg tr)[801]? = some (.int .i64 dp) := dec_past hl 1
theorem dget_neg (hl : ds.length = 800) : (decL ds nd dp neg tr)[802]? = some (.bool neg) := dec_past hl 2
theorem dget_tr (hl : ds.length = 800) : (decL ds nd dp neg tr)[803]? = some (.bool tr) := dec_past hl 3
theorem dget_dig {j : Nat} {c : UInt8} (hc : ds[j]? = some c) : (decL ds nd dp neg tr)[j]? = some (.int .u8 (c.toNat : Int)) := by
  have hj := (List.getElem?_eq_some_iff.1 hc).1
  unfold decL
  rw [List.getElem?_append_left (by rw [u8s_length]; exact hj)]
  simp [u8s, hc]
theorem dset_past (hl : ds.length = 800) (i : Nat) (v : Value) : (decL ds nd dp neg tr).set (800 + i) v = u8s ds ++ ([.int .i64 nd, .int .i64 dp, .bool neg, .bool tr] : List Value).set i v := by
  unfold decL
  rw [List.set_append_right _ _ (by rw [u8s_length]; omega), u8s_length, hl, Nat.add_sub_cancel_left]
theorem dset_nd (hl : ds.length = 800) (v : Int) : (decL ds nd dp neg tr).set 800 (.int .i64 v) = decL ds v dp neg tr := dset_past hl 0 _
theorem dset_dp (hl : ds.length = 800) (v : Int) : (decL ds nd dp neg tr).set 801 (.int .i64 v) = decL ds nd v neg tr := dset_past hl 1 _
theorem dset_neg (hl : ds.length = 800) (v : Bool) : (decL ds nd dp neg tr).set 802 (.bool v) = decL ds nd dp v tr := dset_past hl 2 _
theorem dset_tr (hl : ds.length = 800) (v : Bool) : (decL ds nd dp neg tr).set 803 (.bool v) = decL ds nd dp neg v := dset_past hl 3 _
theorem dset_dig (hl : ds.length = 800) {j : Nat} (hj : j < 800) {z : Int} {c : UInt8} (hz : z = (c.toNat : Int)) : (decL ds nd dp neg tr).set j (.int .u8 z) = decL (ds.set j c) nd dp neg tr := by
  subst hz
  unfold decL
  rw [List.set_append_left _ _ (by rw [u8s_length]; omega)]
  congr 1
  simp [u8s, List.map_set]
variable {n : Nat} {K : List (Nat × Value)} {a : Act} {w : World} {Q : Exit → Act → World → Prop} {ops : Array Oper} {rest : List Oper} {o : Oper} {B : Nat} {w0 : World} {L : List Bk}
theorem op_storeD {ds' : Str} {nd' dp' : Int} {neg' tr' : Bool} (hF : Fr n K a) {b : Nat} (hM : Mem B w0 ((b, 240, decL ds nd dp neg tr) :: L) w) (hg : o.guard = none) {x y : Operand} {t : TypeId} {j : Nat} {v : Value} (hd : o.dst = none) (hop : o.op = .store t x y)
    (hi : (Tryz.prog.info? t).map (·.size) = some 1) (hx : ev K x = some (.pointer (some ⟨b, j, none⟩))) (hy : ev K y = some v) (hv : v.oneCell' = true) (hj : j < 804) (hl : ds.length = 800) (hs : (decL ds nd dp neg tr).set j v = decL ds' nd' dp' neg' tr')
    (h : ∀ a' w', Fr n K a' → Mem B w0 ((b, 240, decL ds' nd' dp' neg' tr') :: L) w' → wpList Tryz.prog ops Q rest a' w') : wpList Tryz.prog ops Q (o :: rest) a w :=
  op_store hF hM hg 0 hd hop hi hx hy hv rfl (by rw [dec_len hl]; exact hj) (fun a' w' hF' hM' => h a' w' hF' (by rw [← hs]; exact hM'))
theorem gives_indexAddrD {x i : Operand} {b : Nat} {k : IntKind} {z : Int} (j : Nat) (hF : Fr n K a) (hop : o.op = .indexAddr 238 x i) (hx : ev K x = some (.pointer (some ⟨b, 0, none⟩))) (hi : ev K i = some (.int k z)) (hz : z = (j : Int)) (hj : j < 800) (w : World) :
    (execOp a.eval o).run Tryz.prog w = .ok (.value (.pointer (some ⟨b, j, none⟩))) w := by
  have e := gives_indexAddrA (e := 5) (sz := 1) j hF hop (P := Tryz.prog) (by kernel_rfl) (by kernel_rfl) hx hi hz hj w
  simpa using e
end
theorem gives_indexAddr0 {n : Nat} {K : List (Nat × Value)} {a : Act} {o : Oper} {x i : Operand} {t e : TypeId} {b l c : Nat} {k : IntKind} {z : Int} (j : Nat) (hF : Fr n K a) (hop : o.op = .indexAddr t x i) (hT : Tryz.prog.underlying t = some (.slice e)) (hs : (Tryz.prog.info? e).map (·.size) = some 1)
    (hx : ev K x = some (.slice (some ⟨b, 0, none⟩) l c)) (hi : ev K i = some (.int k z)) (hz : z = (j : Int)) (hj : j < l) (w : World) : (execOp a.eval o).run Tryz.prog w = .ok (.value (.pointer (some ⟨b, j, none⟩))) w := by
  have e := gives_indexAddrS (P := Tryz.prog) j hF hop hT hs hx hi hz hj w
  simpa using e
theorem chr_put {m : Nat} (h : m < 10) : IntKind.u8.wrap (IntKind.u64.wrap ((m : Int) + 48)) = ((chr m).toNat : Int) := by
  rw [chr_nat h, IntWalk.u64_in _ ⟨by omega, by omega⟩, IntWalk.u8_in _ ⟨by omega, by omega⟩]
  omega
theorem dig_read {c : UInt8} (h : isDig c = true) : IntKind.u64.wrap (IntKind.u64.wrap (c.toNat : Int) - 48) = ((dg c : Nat) : Int) := by
  have := dig_rng h
  rw [IntWalk.u64_in (c.toNat : Int) ⟨by omega, by omega⟩, IntWalk.u64_in _ ⟨by omega, by omega⟩]
  unfold dg
  omega
theorem shl_u64 {x k : Nat} (hk : k ≤ 64) (h : x * 2 ^ k < 2 ^ 64) : IntKind.u64.wrap ((x : Int) * 2 ^ min k IntKind.u64.bits) = ((x * 2 ^ k : Nat) : Int) := by
  rw [show IntKind.u64.bits = 64 from rfl, Nat.min_eq_left hk]
  have e : (x : Int) * 2 ^ k = ((x * 2 ^ k : Nat) : Int) := by simp
  rw [e]
  exact IntWalk.u64_in _ ⟨by omega, by omega⟩
theorem quo10 {x : Nat} (h : x < 2 ^ 64) : IntKind.u64.wrap ((x : Int).tdiv 10) = ((x / 10 : Nat) : Int) := by
  have e : (x : Int).tdiv 10 = ((x / 10 : Nat) : Int) := by
    rw [Int.tdiv_eq_ediv_of_nonneg (by omega)]
    omega
  rw [e]
  exact IntWalk.u64_in _ ⟨by omega, by omega⟩
theorem u64_in {r : Int} (h1 : 0 ≤ r) (h2 : r ≤ 18446744073709551615) : IntKind.u64.wrap r = r := IntWalk.u64_in _ ⟨h1, h2⟩
end Go.Sx
namespace Go.Sx
open Go.RowKit Go.Proofs Js
theorem shr_u64 {n k : Nat} (hk : k ≤ 64) : (n : Int).fdiv (2 ^ min k IntKind.u64.bits) = ((n / 2 ^ k : Nat) : Int) := by
  rw [show IntKind.u64.bits = 64 from rfl, Nat.min_eq_left hk]
  have e : (2 : Int) ^ k = ((2 ^ k : Nat) : Int) := by simp
  rw [e, Int.fdiv_eq_ediv_of_nonneg _ (Int.natCast_nonneg _)]
  rfl
theorem one_shl {k : Nat} (hk : k ≤ 60) : IntKind.u64.wrap ((1 : Int) * 2 ^ min k IntKind.u64.bits) = ((2 ^ k : Nat) : Int) := by
  have h : (1 : Nat) * 2 ^ k < 2 ^ 64 := by
    have := Nat.pow_le_pow_right (show 0 < 2 by decide) hk
    omega
  have e := shl_u64 (x := 1) (k := k) (by omega) h
  simpa using e
theorem and_mask {n k : Nat} (hn : n < 2 ^ 64) (hk : k ≤ 60) : bitVal .and .u64 (n : Int) ((2 ^ k - 1 : Nat) : Int) = some ((n % 2 ^ k : Nat) : Int) := by
  have h1 : (2 : Nat) ^ k ≤ 2 ^ 60 := Nat.pow_le_pow_right (by decide) hk
  have h2 : n % 2 ^ k ≤ n := Nat.mod_le _ _
  simp only [bitVal, ofInt_nat, BitVec.toNat_and, BitVec.toNat_ofNat]
  rw [show IntKind.u64.bits = 64 from rfl, Nat.mod_eq_of_lt hn, Nat.mod_eq_of_lt (show 2 ^ k - 1 < 2 ^ 64 by omega), Nat.and_two_pow_sub_one_eq_mod, IntWalk.u64_in _ ⟨by omega, by omega⟩]
theorem div_zero_lt {n k : Nat} (h : (((n / 2 ^ k : Nat) : Int) == 0) = true) : n < 2 ^ k := by
  have h1 : n / 2 ^ k = 0 := by have := of_decide_eq_true (p := ((n / 2 ^ k : Nat) : Int) = 0) (by simpa using h); omega
  exact (Nat.div_eq_zero_iff_lt (Nat.pow_pos (by decide))).1 h1
theorem div_pos_le {n k : Nat} (h : (((n / 2 ^ k : Nat) : Int) == 0) = false) : 2 ^ k ≤ n := by
  rcases Nat.lt_or_ge n (2 ^ k) with h1 | h1
  · rw [Nat.div_eq_of_lt h1] at h; cases h
  · exact h1
end Go.Sx
namespace Go.Sx
theorem powtab_at {j : Nat} (h : j < 9) : ∃ k : Nat, powtabL[j]? = some (k : Int) ∧ 1 ≤ k ∧ k ≤ 27 ∧ (1 ≤ j → 3 ≤ k) ∧ (j = 0 → k = 1) := by
  match j, h with
  | 0, _ => exact ⟨1, rfl, by decide, by decide, by decide, by decide⟩
  | 1, _ => exact ⟨3, rfl, by decide, by decide, by decide, by decide⟩
  | 2, _ => exact ⟨6, rfl, by decide, by decide, by decide, by decide⟩
  | 3, _ => exact ⟨9, rfl, by decide, by decide, by decide, by decide⟩
  | 4, _ => exact ⟨13, rfl, by decide, by decide, by decide, by decide⟩
  | 5, _ => exact ⟨16, rfl, by decide, by decide, by decide, by decide⟩
  | 6, _ => exact ⟨19, rfl, by decide, by decide, by decide, by decide⟩
  | 7, _ => exact ⟨23, rfl, by decide, by decide, by decide, by decide⟩
  | 8, _ => exact ⟨26, rfl, by decide, by decide, by decide, by decide⟩
  | j + 9, h => omega
end Go.Sx
namespace Go.Sx
open Go.RowKit Go.Proofs Js Go.Proofs.YtelonenjneonlaaGreatDoorW.PrintWords
section
variable {n : Nat} {K : List (Nat × Value)} {a : Act} {w : World} {Q : Exit → Act → World → Prop} {ops : Array Oper} {rest : List Oper} {o : Oper} {B : Nat} {w0 : World} {L : List Bk}
theorem op_frombits (hF : Fr n K a) (hg : o.guard = none) {d : Nat} {x : Operand} {z : Int} (hd : o.dst = some d) (hlt : Nat.blt d n = true) (hop : o.op = .call { callee := .value (.func 215), args := #[x], argTypes := #[54] }) (hx : ev K x = some (.int .u64 z))
    (h : ∀ a', Fr n ((d, .float .f64 z.toNat) :: K) a' → wpList Tryz.prog ops Q rest a' w) : wpList Tryz.prog ops Q (o :: rest) a w :=
  op_run hF hg _ hd hlt (by
    have e := run_callFunc_extern (P := Tryz.prog) Tryz.func215 (by kernel_rfl) (by kernel_rfl) (by kernel_rfl) (e := Extern.MathFloatBits.float64frombits) (by kernel_rfl) #[.int .u64 z] w
    have hc : a.eval (.func 215) = .func (.func 215) #[] #[] := rfl
    simp only [execOp, hop, resolve, Deferred.ofValue, invoke, List.map_toArray, List.map_cons, List.map_nil, hF.ev hx, hc]
    simp
    rw [e]
    rfl) h
theorem op_makeN (hF : Fr n K a) (hM : Mem B w0 L w) (hg : o.guard = none) {d : Nat} {x y : Operand} {k k' : IntKind} {z z' : Int} (c : Nat) (hd : o.dst = some d) (hlt : Nat.blt d n = true) (hop : o.op = .makeSlice 66 x y)
    (hx : ev K x = some (.int k z)) (hy : ev K y = some (.int k' z')) (hz : z = (c : Int)) (hz' : z' = (c : Int)) (hc : c ≤ 2 ^ 46)
    (h : ∀ a' w' b vs, Fr n ((d, .slice (some ⟨b, 0, none⟩) c c) :: K) a' → vs.length = c → Mem B w0 ((b, 5, vs) :: L) w' → wpList Tryz.prog ops Q rest a' w') : wpList Tryz.prog ops Q (o :: rest) a w := by
  subst hz; subst hz'
  obtain ⟨i, hi, hz, hz1, hz2⟩ := info5
  have hr := run_make (P := Tryz.prog) w 66 5 i (.int .u8 0) Tryz.underlying66 hi hz k k' (c : Int) (c : Int) (by omega) (Int.le_refl _) (by rw [hz2]; omega) (by omega)
  have hl : (madeCells (Value.int .u8 0).cells ((c : Int).toNat * i.size)).toList.length = c := by rw [hz1]; simp [size_madeCells]
  refine op_run hF hg (.slice (some ⟨w.heap.size, 0, none⟩) c c) (w' := w.alloc (.cells (madeCells (Value.int .u8 0).cells ((c : Int).toNat * i.size)) 5)) hd hlt ?_ (fun a' hF' => h a' _ w.heap.size _ hF' hl ?_)
  · simp only [execOp, hop, hF.ev hx, hF.ev hy]
    simp [hr]
  · have := hM.alloc 5 (madeCells (Value.int .u8 0).cells ((c : Int).toNat * i.size)).toList
    simpa using this
theorem mem_setCells : ∀ (cs : List Value) (k : Nat) {b : Nat} {vs : List Value} {w : World}, Mem B w0 ((b, 5, vs) :: L) w → Mem B w0 ((b, 5, setL vs k cs) :: L) (w.setCells b k cs)
  | [], _, _, _, _, hM => hM
  | c :: cs, k, b, vs, w, hM => mem_setCells cs (k + 1) (hM.set (k := 0) rfl k c)
theorem op_copyStr (hF : Fr n K a) {b c : Nat} {vs : List Value} (hM : Mem B w0 ((b, 5, vs) :: L) w) (hg : o.guard = none) {d : Nat} {x y : Operand} {s : List UInt8} (hd : o.dst = some d) (hlt : Nat.blt d n = true)
    (hop : o.op = .call { callee := .builtin .copy, args := #[x, y], argTypes := #[66, 9] }) (hx : ev K x = some (.slice (some ⟨b, 0, none⟩) s.length c)) (hy : ev K y = some (.string (mkS s))) (hv : vs.length = s.length)
    (h : ∀ a' w' v, Fr n ((d, v) :: K) a' → Mem B w0 ((b, 5, u8s s) :: L) w' → wpList Tryz.prog ops Q rest a' w') : wpList Tryz.prog ops Q (o :: rest) a w := by
  obtain ⟨i, hi, hz, hz1, hz2⟩ := info5
  have hb := (hM.blk (k := 0) rfl).2
  have hsz : ∀ w, (Go.sizeOf 5).run Tryz.prog w = .ok 1 w := fun w => by simp [sizeOf, typeInfo, hi, hz1]
  have e := run_copy_string (P := Tryz.prog) w 66 9 o.type 5 b 0 s.length c (mkS s) Tryz.underlying66 hsz (by rw [mkS_size]; exact Nat.le_refl _)
    (fun j hj => by rw [mkS_size] at hj; rw [Nat.zero_add, blk_cell hb]; simp; omega) (fun j hj => by rw [mkS_size] at hj; rw [Nat.zero_add]; exact blk_frozen hb j)
  have hcells : ((mkS s).data.toList.map fun x => Value.int .u8 (x.toNat : Int)) = u8s s := by simp [mkS, u8s]
  rw [hcells] at e
  have hM' := mem_setCells (u8s s) 0 hM
  rw [setL_eq (u8s s) vs 0 (by rw [u8s_length]; omega)] at hM'
  have hfin : vs.take 0 ++ u8s s ++ vs.drop (0 + (u8s s).length) = u8s s := by
    rw [u8s_length, List.drop_of_length_le (by omega)]; simp
  rw [hfin] at hM'
  refine op_run hF hg (goInt (mkS s).size) (w' := w.setCells b 0 (u8s s)) hd hlt ?_ (fun a' hF' => h a' _ _ hF' hM')
  simp only [execOp, hop, resolve, invoke, builtin, List.map_toArray, List.map_cons, List.map_nil, hF.ev hx, hF.ev hy]
  simp [e]
theorem op_unsafeStr (hF : Fr n K a) {b : Nat} {l : List UInt8} (hM : Mem B w0 ((b, 5, u8s l) :: L) w) (hg : o.guard = none) {d : Nat} {x y : Operand} (hd : o.dst = some d) (hlt : Nat.blt d n = true)
    (hop : o.op = .call { callee := .builtin .unsafeString, args := #[x, y], argTypes := #[180, 3] }) (hx : ev K x = some (.pointer (some ⟨b, 0, none⟩))) (hy : ev K y = some (.int .i64 (l.length : Int))) (h0 : l ≠ []) (hl : l.length ≤ 2 ^ 46)
    (h : ∀ a' w', Fr n ((d, .string (mkS l)) :: K) a' → Mem B w0 L w' → wpList Tryz.prog ops Q rest a' w') : wpList Tryz.prog ops Q (o :: rest) a w := by
  have hb := (hM.blk (k := 0) rfl)
  have hsh : w.shape? b = some (5, l.length) := by simp [World.shape?, hb.2, u8s_length]
  have e := Lib.run_unsafeString_row (P := Tryz.prog) (w := w) 180 3 o.type 5 Tryz.underlying180 (by kernel_rfl) b l.length hsh l h0 (Nat.le_refl _) (by omega)
    (fun j x hx => by rw [addr_add, Nat.zero_add, blk_cell hb.2]; simp [u8s, hx])
  have hap := List.pairwise_cons.1 hM.apart
  have hMf : Mem B w0 L (w.freeze ⟨b, 0, none⟩ l.length) := by
    refine ⟨Lib.below_freeze hM.below hb.1 _, by unfold World.freeze; split; exact hM.base; simpa using hM.base, fun x hx => ?_, hap.2⟩
    have h1 := hM.held x (by simp [hx])
    refine ⟨h1.1, ?_⟩
    have hne : b ≠ x.1 := hap.1 x hx
    unfold World.freeze
    split
    · exact h1.2
    · simp only [Array.getElem?_modify, if_neg hne]
      exact h1.2
  refine op_run hF hg (.string (mkS l)) (w' := w.freeze ⟨b, 0, none⟩ l.length) hd hlt ?_ (fun a' hF' => h a' _ hF' hMf)
  have e' : (Builtin.unsafeString_ #[180, 3] o.type #[.pointer (some ⟨b, 0, none⟩), .int .i64 l.length]).run Tryz.prog w = .ok (.string (mkS l)) (w.freeze ⟨b, 0, none⟩ l.length) := e
  simp only [execOp, hop, resolve, invoke, builtin, List.map_toArray, List.map_cons, List.map_nil, hF.ev hx, hF.ev hy]
  simp [e']
theorem run_equalIn_iface_int {P : Program} (w : World) (d : Nat) {ti tn : TypeId} {ms : Array (String × TypeId)} {i : TypeInfo} {k : IntKind} (a b : Int)
    (hi : P.underlying ti = some (.interface ms)) (hn : P.underlying tn = some (.int k)) (hinfo : P.info? tn = some i) (hcomp : i.comparable = true) :
    (Op.equalIn (d + 2) ti (.iface tn (.int k a)) (.iface tn (.int k b))).run P w = .ok (a == b) w := by
  simp [Op.equalIn, run_underlying hi, run_underlying hn, typeInfo, hinfo, hcomp]
theorem gives_eqErr {x y : Operand} {t' : TypeId} {p q : Int} (hF : Fr n K a) (hop : o.op = .binOp .eql 63 x y t') (hx : ev K x = some (.iface 168 (.int .i64 p))) (hy : ev K y = some (.iface 168 (.int .i64 q))) (w : World) :
    (execOp a.eval o).run Tryz.prog w = .ok (.value (.bool (p == q))) w := by
  have hinfo : ∃ i, Tryz.prog.info? 168 = some i ∧ i.comparable = true := by
    have h : (Tryz.prog.info? 168).map (·.comparable) = some true := by kernel_rfl
    obtain ⟨i, h1, h2⟩ := Option.map_eq_some_iff.1 h
    exact ⟨i, h1, h2⟩
  obtain ⟨i, hi, hc⟩ := hinfo
  have hT : ∃ ms, Tryz.prog.underlying 63 = some (.interface ms) := ⟨_, Tryz.underlying63⟩
  obtain ⟨ms, hT⟩ := hT
  have e1 := run_equalIn_iface_int (P := Tryz.prog) w 9998 p q hT Tryz.underlying168 hi hc
  have e : (binOp .eql 63 (.iface 168 (.int .i64 p)) (.iface 168 (.int .i64 q))).run Tryz.prog w = .ok (.bool (p == q)) w := by
    simp only [binOp]
    simp [Op.equal, Op.maxDepth, e1]
  simp only [execOp, hop, hF.ev hx, hF.ev hy]
  simp [eqGuard, e]
theorem gives_neNil1 {x : Operand} {t' tn : TypeId} {v : Value} (hF : Fr n K a) (hop : o.op = .binOp .neq 63 x (.const .nilIface) t') (hx : ev K x = some (.iface tn v)) (w : World) :
    (execOp a.eval o).run Tryz.prog w = .ok (.value (.bool true)) w := by
  have hT : ∃ ms, Tryz.prog.underlying 63 = some (.interface ms) := ⟨_, Tryz.underlying63⟩
  obtain ⟨ms, hT⟩ := hT
  have e1 : ∀ m, (Op.equalIn (m + 1) 63 (.iface tn v) .nilIface).run Tryz.prog w = .ok false w := fun m => by simp [Op.equalIn, run_underlying hT]
  have e2 : (Op.equal 63 (.iface tn v) .nilIface).run Tryz.prog w = .ok false w := e1 9999
  have e : (binOp .neq 63 (.iface tn v) .nilIface).run Tryz.prog w = .ok (.bool true) w := by
    simp only [binOp, Sem.run_bind, e2, Result.andThen_ok]
    rfl
  have hc : a.eval (.const .nilIface) = .nilIface := rfl
  simp only [execOp, hop, hF.ev hx, hc]
  simp [eqGuard, e]
theorem and63 (s : Int) : ∃ k : Nat, k < 64 ∧ bitVal .and .i64 s 63 = some (k : Int) := by
  refine ⟨(BitVec.ofInt 64 s &&& BitVec.ofInt 64 63).toNat, ?_, ?_⟩
  · rw [BitVec.toNat_and]
    exact Nat.lt_of_le_of_lt Nat.and_le_right (by decide)
  · have h : (BitVec.ofInt 64 s &&& BitVec.ofInt 64 63).toNat < 64 := by
      rw [BitVec.toNat_and]
      exact Nat.lt_of_le_of_lt Nat.and_le_right (by decide)
    simp only [bitVal, Option.some.injEq]
    exact IntWalk.i64_in _ ⟨by show (-9223372036854775808 : Int) ≤ ((BitVec.ofInt 64 s &&& BitVec.ofInt 64 63).toNat : Int); omega, by show ((BitVec.ofInt 64 s &&& BitVec.ofInt 64 63).toNat : Int) ≤ 9223372036854775807; omega⟩
end
end Go.Sx
namespace Go.Sx
open Go.RowKit Go.Proofs Js Go.Proofs.YtelonenjneonlaaGreatDoorW.PrintWords
theorem only_callM {P : Program} {n : Nat} {K : List (Nat × Value)} {a : Act} {w : World} {Q : Exit → Act → World → Prop} {ops : Array Oper} {oi : Oper} {B : Nat} {w0 : World} {L : List Bk} {md : Region.Mode} {fuel : Nat} {listed : Array Bool} (i : Nat)
    (hF : Fr n K a) (hM : Mem B w0 L w) (hi : ops[i]? = some oi) (hr : Region.ready md ops listed = [i]) (hg : oi.guard = none) {d : Nat} {f : FuncId} {fn : Func} {l : List Operand} {ats : Array TypeId} {vals : List Value} {R : Value → Prop} (hd : oi.dst = some d) (hlt : Nat.blt d n = true)
    (hop : oi.op = .call { callee := .value (.func f), args := l.toArray, argTypes := ats }) (hf : P.funcs[f]? = some fn) (hname : (fn.name == "runtime.NumGoroutine") = false) (hb : fn.body.isNone = false) (hargs : evs K l = some vals)
    (hc : Calls P f vals.toArray w (Ret fun v w' => R v ∧ Below w.heap.size w w')) (h : ∀ a' w' v, R v → Fr n ((d, v) :: K) a' → Mem B w0 L w' → wpAny P md ops Q fuel (listed.setIfInBounds i true) a' w') : wpAny P md ops Q (fuel + 1) listed a w := by
  refine wpAny_all hr (by simp) fun j hj => ?_
  obtain rfl := List.mem_singleton.1 hj
  refine wpOp_step hi (fun K' hK => ?_)
  rw [if_pos (by simp [Region.wanted, hg])]
  unfold Oper.wp
  have h1 : ¬ fn.name = "runtime.NumGoroutine" := by simpa using hname
  have h2 : ¬ fn.body = none := by cases hx : fn.body <;> simp_all
  have e : (execOp a.eval oi).run P w = .ok (.enter f vals.toArray) w := by
    unfold execOp
    have := hF.evs l vals hargs
    simp [hop, resolve, Deferred.ofValue, invoke, callFunc, hf, h1, h2, Act.eval]
    exact this
  rw [e, Oper.upon_enter]
  refine hc.mono ?_
  rintro e w' ⟨v, rfl, hR, hBe⟩
  rw [hd]
  exact hK _ _ (h _ w' v hR (hF.put d v (Nat.le_of_ble_eq_true hlt)) (hM.step hBe))
end Go.Sx
namespace Go.Sx
open Go.RowKit Go.Proofs Js Go.Proofs.YtelonenjneonlaaGreatDoorW.PrintWords
theorem call_and_load {P : Program} {n : Nat} {K : List (Nat × Value)} {a : Act} {w : World} {Q : Exit → Act → World → Prop} {ops : Array Oper} {oi oj : Oper} {B : Nat} {w0 : World} {L : List Bk} {md : Region.Mode} {fuel : Nat} {listed : Array Bool} (i j : Nat) (hne : i ≠ j)
    (hF : Fr n K a) (hM : Mem B w0 L w) (hi : ops[i]? = some oi) (hj : ops[j]? = some oj) (hr : Region.ready md ops listed = [i, j]) (hri : Region.ready md ops (listed.setIfInBounds i true) = [j]) (hrj : Region.ready md ops (listed.setIfInBounds j true) = [i])
    (hg : oi.guard = none) (hg' : oj.guard = none) {d d' : Nat} {f : FuncId} {fn : Func} {l : List Operand} {ats : Array TypeId} {vals : List Value} {R : Value → Prop} (hd : oi.dst = some d) (hlt : Nat.blt d n = true) (hd' : oj.dst = some d') (hlt' : Nat.blt d' n = true) (hdd : d ≠ d')
    (hop : oi.op = .call { callee := .value (.func f), args := l.toArray, argTypes := ats }) (hf : P.funcs[f]? = some fn) (hname : (fn.name == "runtime.NumGoroutine") = false) (hb : fn.body.isNone = false) (hargs : evs K l = some vals)
    (hargs' : ∀ v, evs ((d', v) :: K) l = some vals)
    {t : TypeId} {td : TypeDesc} {g : Nat} {u : Value} (hop' : oj.op = .load t (.global g)) (hT : P.underlying t = some td) (hpl : plainB td = true) (hu : w.cell? ⟨g, 0, none⟩ = some u) (hgw : g < w.heap.size)
    (hc : Calls P f vals.toArray w (Ret fun v w' => R v ∧ Below w.heap.size w w'))
    (h : ∀ a' w' v, R v → Fr n ((d, v) :: (d', u) :: K) a' → Mem B w0 L w' → wpAny P md ops Q fuel ((listed.setIfInBounds i true).setIfInBounds j true) a' w') : wpAny P md ops Q (fuel + 2) listed a w := by
  refine wpAny_all (fuel := fuel + 1) hr (by simp) fun k hk => ?_
  rcases List.mem_cons.1 hk with rfl | hk
  · refine wpOp_step hi (fun K' hK => ?_)
    rw [if_pos (by simp [Region.wanted, hg])]
    unfold Oper.wp
    have h1 : ¬ fn.name = "runtime.NumGoroutine" := by simpa using hname
    have h2 : ¬ fn.body = none := by cases hx : fn.body <;> simp_all
    have e : (execOp a.eval oi).run P w = .ok (.enter f vals.toArray) w := by
      unfold execOp
      have := hF.evs l vals hargs
      simp [hop, resolve, Deferred.ofValue, invoke, callFunc, hf, h1, h2, Act.eval]
      exact this
    rw [e, Oper.upon_enter]
    refine hc.mono ?_
    rintro e w' ⟨v, rfl, hR, hBe⟩
    rw [hd]
    refine hK _ _ ?_
    have hF' := hF.put d v (Nat.le_of_ble_eq_true hlt)
    refine only j hF' hj hri hg' hd' hlt' (gives_load1 hF' hop' hT hpl rfl ((hBe.cell hgw).trans hu)) (fun a' hF2 => h a' w' v hR ?_ (hM.step hBe))
    refine ⟨hF2.size, hF2.defers, fun x y hxy => hF2.at_ x y ?_⟩
    simp only [look] at hxy ⊢
    by_cases e1 : d' = x
    · subst e1
      have e2 : Nat.beq d d' = false := Bool.eq_false_iff.2 (fun h => hdd (Nat.eq_of_beq_eq_true h))
      rw [e2] at hxy
      simpa using hxy
    · have e2 : Nat.beq d' x = false := Bool.eq_false_iff.2 (fun h => e1 (Nat.eq_of_beq_eq_true h))
      rw [e2] at hxy ⊢
      exact hxy
  · obtain rfl := List.mem_singleton.1 hk
    refine wpOp_step hj (fun K' hK => ?_)
    rw [if_pos (by simp [Region.wanted, hg'])]
    unfold Oper.wp
    rw [gives_load1 hF hop' hT hpl rfl hu, Oper.upon_value, hd']
    refine hK _ _ ?_
    have hF' := hF.put d' u (Nat.le_of_ble_eq_true hlt')
    refine only_callM i hF' hM hi hrj hg hd hlt hop hf hname hb (hargs' u) hc (fun a' w' v hR hF2 hM2 => ?_)
    have := h a' w' v hR hF2 hM2
    rwa [Array.setIfInBounds_comm _ _ hne] at this
end Go.Sx
namespace Go.Sx
open Go.RowKit Go.Proofs Js Go.Proofs.YtelonenjneonlaaGreatDoorW.PrintWords
variable {P : Program} {n : Nat} {K : List (Nat × Value)} {a : Act} {w : World} {Q : Exit → Act → World → Prop} {ops : Array Oper} {o oi : Oper} {B : Nat} {w0 : World} {L : List Bk} {md : Region.Mode} {fuel : Nat} {listed : Array Bool}
theorem gives_build {t : TypeId} {parts : List (Nat × Operand)} {vals : List (Nat × Value)} {cells : List Value} (hF : Fr n K a) (hop : o.op = .build t parts.toArray) (hv : parts.map (fun x => (x.1, ev K x.2)) = vals.map (fun x => (x.1, some x.2))) (hb : P.built t vals = some cells.toArray) (w : World) :
    (execOp a.eval o).run P w = .ok (.value (.agg cells.toArray)) w := by
  have hval : parts.map (fun x => (x.1, a.eval x.2)) = vals := by
    clear hop hb
    induction parts generalizing vals with
    | nil => cases vals with
      | nil => rfl
      | cons => simp at hv
    | cons x parts ih => cases vals with
      | nil => simp at hv
      | cons y vals =>
        simp only [List.map_cons, List.cons.injEq, Prod.mk.injEq] at hv ⊢
        obtain ⟨⟨h1, h2⟩, h3⟩ := hv
        refine ⟨?_, ih h3⟩
        rw [h1, hF.ev h2]
  have hr := run_build (P := P) w t vals.toArray cells.toArray hb
  simp only [execOp, hop]
  have e : (parts.toArray.map fun x => (x.1, a.eval x.2)) = vals.toArray := by rw [List.map_toArray, hval]
  have e2 : (Array.map (fun x => match x with | (i, x) => (i, a.eval x)) parts.toArray) = vals.toArray := e
  rw [e2]
  simp [hr]
theorem only_box (i : Nat) (hF : Fr n K a) (hM : Mem B w0 L w) (hi : ops[i]? = some oi) (hr : Region.ready md ops listed = [i]) (hg : oi.guard = none) {d : Nat} {t : TypeId} {x : Operand} {v : Value} {vs : List Value} (hd : oi.dst = some d) (hlt : Nat.blt d n = true) (hop : oi.op = .box t x) (hx : ev K x = some v) (hc : v.cells = vs.toArray)
    (h : ∀ a' w' b, Fr n ((d, .pointer (some ⟨b, 0, none⟩)) :: K) a' → Mem B w0 ((b, t, vs) :: L) w' → wpAny P md ops Q fuel (listed.setIfInBounds i true) a' w') : wpAny P md ops Q (fuel + 1) listed a w := by
  obtain ⟨b, w', e, hM'⟩ := does_box hF hM hop hx hc
  exact only i hF hi hr hg hd hlt e (fun a' hF' => h a' w' b hF' hM')
def ErOk (er : Value) : Prop := er = .nilIface ∨ ∃ k : Int, (k = 1 ∨ k = 2) ∧ er = .iface 168 (.int .i64 k)
end Go.Sx
set_option linter.unusedVariables false
namespace Js
def Sfx (T r : Str) : Prop := ∃ pre, T = pre ++ r
def ps (T r : Str) : Nat := T.length - r.length
theorem Sfx.len {T r : Str} (h : Sfx T r) : ps T r + r.length = T.length := by
  obtain ⟨pre, rfl⟩ := h
  simp [ps]
theorem Sfx.refl (T : Str) : Sfx T T := ⟨[], rfl⟩
theorem Sfx.drop {T r : Str} (h : Sfx T r) : T.drop (ps T r) = r := by
  obtain ⟨pre, rfl⟩ := h
  simp [ps]
theorem Sfx.tail {T t r : Str} (h : Sfx T (t ++ r)) : Sfx T r := by
  obtain ⟨pre, rfl⟩ := h
  exact ⟨pre ++ t, by simp⟩
theorem Sfx.next {T r : Str} {c : UInt8} (h : Sfx T (c :: r)) : Sfx T r ∧ ps T r = ps T (c :: r) + 1 ∧ T[ps T (c :: r)]? = some c ∧ ps T (c :: r) < T.length := by
  have h1 : Sfx T r := Sfx.tail (t := [c]) h
  have e1 := h.len
  have e2 := h1.len
  simp only [List.length_cons] at e1
  refine ⟨h1, by omega, ?_, by omega⟩
  have := h.drop
  have e : T[ps T (c :: r)]? = (T.drop (ps T (c :: r)))[0]? := by rw [List.getElem?_drop, Nat.add_zero]
  rw [e, this]
  rfl
theorem ps_nil (T : Str) : ps T [] = T.length := by simp [ps]
theorem ps_self (T : Str) : ps T T = 0 := by simp [ps]
theorem Sfx.of_skip {T r : Str} (h : Sfx T r) : Sfx T (skip r) := by
  obtain ⟨w, e, _⟩ := skip_split r
  rw [e] at h
  exact h.tail
theorem skip_step {c : UInt8} (r : Str) (h : isBlank c = true) : skip (c :: r) = skip r := by simp [skip, h]
theorem skip_stop {c : UInt8} (r : Str) (h : isBlank c = false) : skip (c :: r) = c :: r := by simp [skip, h]
end Js
namespace Go.Sx
open Go.RowKit Go.Proofs Js Go.Proofs.YtelonenjneonlaaGreatDoorW.PrintWords
def RD (T r : Str) : List Value := [.string (mkS T), .int .i64 ((ps T r : Nat) : Int)]
end Go.Sx
namespace Go.Sx
open Go.RowKit Go.Proofs Js
theorem gives_neqStr {P : Program} {n : Nat} {K : List (Nat × Value)} {a : Act} {o : Oper} {t t' : TypeId} {x y : Operand} {l r : List UInt8} (hF : Fr n K a) (hop : o.op = .binOp .neq t x y t') (hx : ev K x = some (.string (mkS l))) (hy : ev K y = some (.string (mkS r))) (w : World) :
    (execOp a.eval o).run P w = .ok (.value (.bool (!(l == r)))) w := by
  have e : (binOp .neq t (.string (mkS l)) (.string (mkS r))).run P w = .ok (.bool (!(l == r))) w := by
    rw [binOp_string_neq, toList_mkS, toList_mkS]; rfl
  simp only [execOp, hop, hF.ev hx, hF.ev hy]
  simp [eqGuard, e]
end Go.Sx
namespace Go.Sx
open Go.RowKit Go.Proofs Js Go.Proofs.YtelonenjneonlaaGreatDoorW.PrintWords
theorem blank_walk (c : UInt8) (w0 : World) : Calls Tryz.prog 41 #[.int .u8 (c.toNat : Int)] w0 (Ret fun v w' => v = .bool (isBlank c) ∧ Below w0.heap.size w0 w') := by
 have hM : Mem w0.heap.size w0 [] w0 := Mem.start (Nat.le_refl _)
 refine enter (l := [.int .u8 (c.toNat : Int)]) 16 Tryz.func41 rfl rfl (fun a hF => ?_)
 replace hF : Fr 17 [(0, .int .u8 (c.toNat : Int))] a := hF
 revert a; refine Sq (Rg (Md 1 [0] rfl (Nx (Sq ?_))))
 rcases (show c = 32 ∨ c = 9 ∨ c = 10 ∨ c = 13 ∨ (c ≠ 32 ∧ c ≠ 9 ∧ c ≠ 10 ∧ c ≠ 13) by by_cases h1 : c = 32; exact .inl h1; by_cases h2 : c = 9; exact .inr (.inl h2); by_cases h3 : c = 10; exact .inr (.inr (.inl h3)); by_cases h4 : c = 13; exact .inr (.inr (.inr (.inl h4))); exact .inr (.inr (.inr (.inr ⟨h1, h2, h3, h4⟩)))) with rfl | rfl | rfl | rfl | ⟨h32, h9, h10, h13⟩
 · exact Rg (Mv 1 rfl (Bv rfl rfl (show (((32 : UInt8).toNat : Int) == 32) = true from rfl) (Md 13 [2] rfl (Nx (Re (Y1 rfl rfl ⟨_, rfl, rfl, hM.below⟩))))))
 · exact Rg (Mv 1 rfl (Bv rfl rfl (show (((9 : UInt8).toNat : Int) == 32) = false from rfl) (Mv 2 rfl (Bv rfl rfl (show (((9 : UInt8).toNat : Int) == 9) = true from rfl) (Md 10 [2] rfl (Nx (Re (Y1 rfl rfl ⟨_, rfl, rfl, hM.below⟩))))))))
 · exact Rg (Mv 1 rfl (Bv rfl rfl (show (((10 : UInt8).toNat : Int) == 32) = false from rfl) (Mv 2 rfl (Bv rfl rfl (show (((10 : UInt8).toNat : Int) == 9) = false from rfl) (Mv 3 rfl (Bv rfl rfl (show (((10 : UInt8).toNat : Int) == 10) = true from rfl) (Md 6 [2] rfl (Nx (Re (Y1 rfl rfl ⟨_, rfl, rfl, hM.below⟩))))))))))
 · exact Rg (Mv 1 rfl (Bv rfl rfl (show (((13 : UInt8).toNat : Int) == 32) = false from rfl) (Mv 2 rfl (Bv rfl rfl (show (((13 : UInt8).toNat : Int) == 9) = false from rfl) (Mv 3 rfl (Bv rfl rfl (show (((13 : UInt8).toNat : Int) == 10) = false from rfl) (Mv 3 rfl (Bv rfl rfl (show (((13 : UInt8).toNat : Int) == 13) = true from rfl) (Md 2 [2] rfl (Nx (Re (Y1 rfl rfl ⟨_, rfl, rfl, hM.below⟩))))))))))))
 exact Rg (Mv 1 rfl (Bv rfl rfl (beq_f (d := 32) (z := 32) rfl h32) (Mv 2 rfl (Bv rfl rfl (beq_f (d := 9) (z := 9) rfl h9) (Mv 3 rfl (Bv rfl rfl (beq_f (d := 10) (z := 10) rfl h10) (Mv 3 rfl (Bv rfl rfl (beq_f (d := 13) (z := 13) rfl h13) (Md 2 [2] rfl (Nx (Re (Y1 rfl rfl ⟨_, rfl, by simp [isBlank, h32, h9, h10, h13], hM.below⟩))))))))))))
end Go.Sx
namespace Go.Sx
open Go.RowKit Go.Proofs Js Go.Proofs.YtelonenjneonlaaGreatDoorW.PrintWords
set_option maxRecDepth 100000 in
theorem blanks_walk {B : Nat} {wc : World} {L : List Bk} {b : Nat} {T : Str} (hT : T.length ≤ 2 ^ 41) {r : Str} (hs : Sfx T r) {w0 : World} (hM0 : Mem B wc ((b, 108, RD T r) :: L) w0) :
    Calls Tryz.prog 73 #[.pointer (some ⟨b, 0, none⟩)] w0 (Ret fun v w' => v = .tuple #[] ∧ Mem B wc ((b, 108, RD T (Js.skip r)) :: L) w') := by
 have hM := hM0
 have hps := hs.len
 refine enter (l := [.pointer (some ⟨b, 0, none⟩)]) 30 Tryz.func73 rfl rfl (fun a hF => ?_)
 replace hF : Fr 31 [(0, .pointer (some ⟨b, 0, none⟩))] a := hF
 revert a; refine Bo (Kp [0] rfl ?_); intro a hF
 refine loopX (fun (q : Str) a w => Fr 31 [(0, .pointer (some ⟨b, 0, none⟩))] a ∧ Mem B wc ((b, 108, RD T q) :: L) w ∧ Sfx T q ∧ Js.skip q = Js.skip r) (fun q => q.length) (r) ?_ (fun q a w hI => ?_)
 · exact ⟨hF, hM, hs, rfl⟩
 clear hF hM
 clear hs hps
 obtain ⟨hF, hM, hs, hsk⟩ := hI
 have hps := hs.len
 revert a; refine Sq (Sq ?_)
 rcases q with _ | ⟨c, q⟩
 ·
  rw [ps_nil] at hps
  have hsk0 : Js.skip r = [] := hsk.symm
  refine Su 20 (by kernel_rfl) (by kernel_rfl) ?_
  replace hM := hM.drew
  skip
  refine Ms 3 rfl (Ls hM 0 rfl rfl (Ms 3 rfl (Ls hM 0 rfl rfl (Ms 2 rfl ?_)))); intro a hF
  rw [ps_nil, decide_eq_false (show ¬ ((T.length : Int) < (T.length : Int)) by omega)] at hF
  revert a; refine Ms 10 rfl (Sd ?_); intro a hF
  simp only [List.drop_succ_cons, List.drop_zero]
  revert a; refine Md 2 [0,23] rfl (Nx (Cf rfl (Ex (Ot (Ot (Ob ?_)))))); intro a hF
  rw [← hsk] at *
  exact endNone hF rfl ⟨_, rfl, rfl, hM⟩
 obtain ⟨hs1, hp1, hg1, hlt1⟩ := hs.next
 refine Su 20 (by kernel_rfl) (by kernel_rfl) ?_
 replace hM := hM.drew
 skip
 refine Ms 3 rfl (Ls hM 0 rfl rfl (Ms 3 rfl (Ls hM 0 rfl rfl (Ms 1 rfl (Bs rfl rfl (decide_eq_true (show ((ps T (c :: q) : Nat) : Int) < (T.length : Int) by omega)) (Ms 4 rfl (Ls hM 0 rfl rfl (Ms 3 rfl (Ls hM 0 rfl rfl (Is ((ps T (c :: q))) c rfl hg1 (by omega) (Sd ?_))))))))))); intro a hF
 simp only [List.drop_succ_cons, List.drop_zero]
 revert a; refine Cm hM rfl Tryz.func41 (by kernel_rfl) rfl (blank_walk c _) ?_
 clear hM; intro w v hR hM hBe
 obtain rfl := hR
 refine Md 1 [0,23] rfl (Nx (Ce rfl (fun ht => ?_) ((fun ht => ?_))))
 ·
  have hb : isBlank c = false := ht
  refine Ex (Ot (Ot (Ob ?_)))
  rw [skip_stop _ hb] at hsk
  exact Z0 rfl ⟨_, rfl, rfl, by rw [← hsk]; exact hM⟩
 have hb : isBlank c = true := ht
 refine Sk (Nx (Bo (Rg (Mv 3 rfl (Ld hM 0 rfl rfl (Sm (((ps T q : Nat) : Int)) rfl (by omega) (Mv 2 rfl (St hM 0 rfl ?_))))))))
 clear hM; intro w hM
 refine Md 0 [0] rfl (Nb (Kp [0] rfl ?_)); intro a hF
 exact ⟨q, ⟨hF, hM, hs1, by rw [← hsk, skip_step _ hb]⟩, by simp⟩
end Go.Sx
namespace Go.Sx
open Go.RowKit Go.Proofs Js Go.Proofs.YtelonenjneonlaaGreatDoorW.PrintWords
set_option maxRecDepth 100000 in
theorem here_walk {B : Nat} {wc : World} {L : List Bk} {b : Nat} {T : Str} (hT : T.length ≤ 2 ^ 41) {r : Str} (hs : Sfx T r) {w0 : World} (hM0 : Mem B wc ((b, 108, RD T r) :: L) w0) :
    Calls Tryz.prog 111 #[.pointer (some ⟨b, 0, none⟩)] w0 (Ret fun v w' => v = .int .u8 ((r.headD 0).toNat : Int) ∧ Mem B wc ((b, 108, RD T r) :: L) w') := by
 have hM := hM0
 have hps := hs.len
 refine enter (l := [.pointer (some ⟨b, 0, none⟩)]) 21 Tryz.func111 rfl rfl (fun a hF => ?_)
 replace hF : Fr 22 [(0, .pointer (some ⟨b, 0, none⟩))] a := hF
 revert a; refine Sq (Rg (Md 1 [0] rfl (Nx (Sq (Sq ?_)))))
 rcases r with _ | ⟨c, q⟩
 ·
  rw [ps_nil] at hps
  refine Sl (by kernel_rfl) (by kernel_rfl) ?_
  replace hM := hM.drew
  skip
  refine Ms 3 rfl (Ls hM 0 rfl rfl (Ms 3 rfl (Ls hM 0 rfl rfl (Ms 2 rfl ?_)))); intro a hF
  rw [ps_nil, decide_eq_false (show ¬ ((T.length : Int) < (T.length : Int)) by omega)] at hF
  revert a; exact Sd (Kp [0,12] rfl (Nx (Cf rfl (Sk (Nx (Sq (Rg (Md 1 [2] rfl (Nx (Re (Y1 rfl rfl ⟨_, rfl, rfl, hM⟩)))))))))))
 obtain ⟨hs1, hp1, hg1, hlt1⟩ := hs.next
 refine Sl (by kernel_rfl) (by kernel_rfl) ?_
 replace hM := hM.drew
 skip
 refine Ms 3 rfl (Ls hM 0 rfl rfl (Ms 3 rfl (Ls hM 0 rfl rfl (Ms 1 rfl (Bs rfl rfl (decide_eq_true (show ((ps T (c :: q) : Nat) : Int) < (T.length : Int) by omega)) (Sd (Kp [0,12] rfl (Nx (Ct rfl (Sq (Sl (by kernel_rfl) (by kernel_rfl) ?_)))))))))))
 replace hM := hM.drew
 skip
 exact Ms 3 rfl (Ls hM 0 rfl rfl (Ms 3 rfl (Ls hM 0 rfl rfl (Is ((ps T (c :: q))) c rfl hg1 (by omega) (Ms 1 rfl (Sd (Kp [2] rfl (Nx (Re (Rt (Y1 rfl rfl ⟨_, rfl, rfl, hM⟩)))))))))))
set_option maxRecDepth 100000 in
theorem take_walk {B : Nat} {wc : World} {L : List Bk} {b : Nat} {T : Str} (hT : T.length ≤ 2 ^ 41) {r : Str} (hs : Sfx T r) (d : UInt8) {w0 : World} (hM0 : Mem B wc ((b, 108, RD T r) :: L) w0) :
    Calls Tryz.prog 117 #[.pointer (some ⟨b, 0, none⟩), .int .u8 (d.toNat : Int)] w0 (Ret fun v w' => v = .bool (pTake d r).isSome ∧ Mem B wc ((b, 108, RD T ((pTake d r).getD r)) :: L) w') := by
 have hM := hM0
 have hps := hs.len
 refine enter (l := [.pointer (some ⟨b, 0, none⟩), .int .u8 (d.toNat : Int)]) 33 Tryz.func117 rfl rfl (fun a hF => ?_)
 replace hF : Fr 35 [(0, .pointer (some ⟨b, 0, none⟩)), (1, .int .u8 (d.toNat : Int))] a := hF
 revert a; refine Sq (Rg (Md 1 [0,1] rfl (Nx (Sq (Sq ?_)))))
 rcases r with _ | ⟨c, q⟩
 ·
  rw [ps_nil] at hps
  refine Sl (by kernel_rfl) (by kernel_rfl) ?_
  replace hM := hM.drew
  skip
  refine Ms 3 rfl (Ls hM 0 rfl rfl (Ms 3 rfl (Ls hM 0 rfl rfl (Ms 2 rfl ?_)))); intro a hF
  rw [ps_nil, decide_eq_false (show ¬ ((T.length : Int) < (T.length : Int)) by omega)] at hF
  revert a; exact Ms 13 rfl (Sd (Kp [0,27] rfl (Nx (Cf rfl (Sk (Nx (Sq (Rg (Md 1 [4] rfl (Nx (Re (Y1 rfl rfl ⟨_, rfl, rfl, hM⟩))))))))))))
 obtain ⟨hs1, hp1, hg1, hlt1⟩ := hs.next
 refine Sl (by kernel_rfl) (by kernel_rfl) ?_
 replace hM := hM.drew
 skip
 refine Ms 3 rfl (Ls hM 0 rfl rfl (Ms 3 rfl (Ls hM 0 rfl rfl (Ms 1 rfl (Bs rfl rfl (decide_eq_true (show ((ps T (c :: q) : Nat) : Int) < (T.length : Int) by omega)) (Ms 4 rfl (Ls hM 0 rfl rfl (Ms 3 rfl (Ls hM 0 rfl rfl (Is ((ps T (c :: q))) c rfl hg1 (by omega) (Ms 3 rfl (Sd (Kp [0,27] rfl (Nx (Ce rfl (fun ht => ?_) ((fun ht => ?_)))))))))))))))))
 ·
  have hcd : c ≠ d := eq_f (d := d) rfl ht
  refine Sk (Nx (Sq (Rg (Md 1 [4] rfl (Nx (Re ?_))))))
  have ep : pTake d (c :: q) = if c = d then some q else none := rfl
  intro a hF
  first | (rw [if_pos hcd] at ep; rw [ep]; exact ret1 hF rfl rfl ⟨_, rfl, rfl, hM⟩) | (rw [if_neg hcd] at ep; rw [ep]; exact ret1 hF rfl rfl ⟨_, rfl, rfl, hM⟩)
 have hcd : c = d := eq_t (d := d) rfl ht
 refine Sq (Rg (Mv 3 rfl (Ld hM 0 rfl rfl (Sm (((ps T q : Nat) : Int)) rfl (by omega) (Mv 2 rfl (St hM 0 rfl ?_))))))
 clear hM; intro w hM
 refine Md 0 [] rfl (Nx (Sq (Rg (Md 1 [4] rfl (Nx (Re (Rt ?_)))))))
 have ep : pTake d (c :: q) = if c = d then some q else none := rfl
 intro a hF
 first | (rw [if_pos hcd] at ep; rw [ep]; exact ret1 hF rfl rfl ⟨_, rfl, rfl, hM⟩) | (rw [if_neg hcd] at ep; rw [ep]; exact ret1 hF rfl rfl ⟨_, rfl, rfl, hM⟩)
set_option maxRecDepth 100000 in
theorem word_walk {B : Nat} {wc : World} {L : List Bk} {b : Nat} {T : Str} (hT : T.length ≤ 2 ^ 41) {r : Str} (hs : Sfx T r) (u : Str) (hu : u.length ≤ 100) {w0 : World} (hM0 : Mem B wc ((b, 108, RD T r) :: L) w0) :
    Calls Tryz.prog 115 #[.pointer (some ⟨b, 0, none⟩), .string (mkS u)] w0 (Ret fun v w' => v = .bool (pWord u r).isSome ∧ Mem B wc ((b, 108, RD T ((pWord u r).getD r)) :: L) w') := by
 have hM := hM0
 have hps := hs.len
 have hdr := hs.drop
 refine enter (l := [.pointer (some ⟨b, 0, none⟩), .string (mkS u)]) 45 Tryz.func115 rfl rfl (fun a hF => ?_)
 replace hF : Fr 47 [(0, .pointer (some ⟨b, 0, none⟩)), (1, .string (mkS u))] a := hF
 revert a; refine Sq (Rg (Md 1 [0,1] rfl (Nx (Sq (Sq ?_)))))
 rcases Nat.lt_or_ge r.length u.length with hlt | hge
 ·
  refine Sl (by kernel_rfl) (by kernel_rfl) ?_
  replace hM := hM.drew
  skip
  refine Ms 3 rfl (Ls hM 0 rfl rfl (Ms 4 rfl (Ls hM 0 rfl rfl (Ss ((r.length : Int)) rfl (by omega) (Ms 2 rfl (Bs rfl rfl (decide_eq_true (show (r.length : Int) < (u.length : Int) by omega)) (Ms 20 rfl (Sd (Kp [0,1,37] rfl (Nx (Ct rfl (Sq (Rg (Md 1 [4] rfl (Nx (Re (Rt ?_)))))))))))))))))
  have ep : pWord u r = none := if_neg (fun e => by have := congrArg List.length e; rw [List.length_take] at this; omega)
  intro a hF
  rw [ep]; exact ret1 hF rfl rfl ⟨_, rfl, rfl, hM⟩
 refine Sl (by kernel_rfl) (by kernel_rfl) ?_
 replace hM := hM.drew
 skip
 refine Ms 3 rfl (Ls hM 0 rfl rfl (Ms 4 rfl (Ls hM 0 rfl rfl (Ss ((r.length : Int)) rfl (by omega) (Ms 2 rfl (Bs rfl rfl (decide_eq_false (show ¬ ((r.length : Int) < (u.length : Int)) by omega)) (Ms 4 rfl (Ls hM 0 rfl rfl (Ms 3 rfl (Ls hM 0 rfl rfl (Ms 3 rfl (Ls hM 0 rfl rfl (Ms 2 rfl (Ss (((ps T r + u.length : Nat) : Int)) rfl (by omega) (Gs rfl (fun _ hF => gives_slice_str (ps T r) (ps T r + u.length) hF rfl Tryz.underlying9 rfl rfl rfl rfl rfl (by omega) (by omega) _) ?_))))))))))))))); intro a hF
 rw [show (T.drop (ps T r)).take (ps T r + u.length - ps T r) = r.take u.length by rw [hdr, Nat.add_sub_cancel_left]] at hF
 revert a; refine Ms 1 rfl (Gs rfl (fun _ hF => gives_neqStr hF rfl rfl rfl _) (Ms 1 rfl (Sd (Kp [0,1,37] rfl (Nx (Cd rfl (fun ht => ?_) ((fun ht => ?_))))))))
 ·
  have hne : r.take u.length ≠ u := by simpa using ht
  have ep : pWord u r = none := if_neg hne
  refine Sq (Rg (Md 1 [4] rfl (Nx (Re (Rt ?_))))); intro a hF
  rw [ep]; exact ret1 hF rfl rfl ⟨_, rfl, rfl, hM⟩
 have heq : r.take u.length = u := by simpa using ht
 have ep : pWord u r = some (r.drop u.length) := if_pos heq
 have hs1 : Sfx T (r.drop u.length) := Sfx.tail (t := r.take u.length) (by rw [List.take_append_drop]; exact hs)
 have hp1 := hs1.len
 have hdl : (r.drop u.length).length = r.length - u.length := List.length_drop
 refine Sk (Nx (Sq (Rg (Mv 3 rfl (Ld hM 0 rfl rfl (Mv 2 rfl (Sm (((ps T (r.drop u.length) : Nat) : Int)) rfl (by omega) (Mv 2 rfl (St hM 0 rfl ?_)))))))))
 clear hM; intro w hM
 refine Md 0 [] rfl (Nx (Sq (Rg (Md 1 [4] rfl (Nx (Re ?_)))))); intro a hF
 rw [ep]; exact ret1 hF rfl rfl ⟨_, rfl, rfl, hM⟩
end Go.Sx
namespace Go.Sx
open Go.RowKit Go.Proofs Js Go.Proofs.YtelonenjneonlaaGreatDoorW.PrintWords
theorem sub_conv {c d : Nat} (h : d ≤ c) (h2 : c < 256) : IntKind.i64.wrap (IntKind.u8.wrap ((c : Int) - (d : Int))) = ((c - d : Nat) : Int) := by
  rw [IntWalk.u8_in _ ⟨by omega, by omega⟩, IntWalk.i64_in _ ⟨by omega, by omega⟩]; omega
theorem hexDigit_walk (c : UInt8) (w0 : World) : Calls Tryz.prog 116 #[.int .u8 (c.toNat : Int)] w0 (Ret fun v w' => v = .tuple #[.int .i64 (((hexVal c).getD 0 : Nat) : Int), .bool (hexVal c).isSome] ∧ Below w0.heap.size w0 w') := by
 have hM : Mem w0.heap.size w0 [] w0 := Mem.start (Nat.le_refl _)
 have hc := c.toNat_lt
 refine enter (l := [.int .u8 (c.toNat : Int)]) 35 Tryz.func116 rfl rfl (fun a hF => ?_)
 replace hF : Fr 36 [(0, .int .u8 (c.toNat : Int))] a := hF
 revert a; refine Sq (Rg (Md 2 [0] rfl (Nx (Sq (Bo (Sq ?_))))))
 rcases (show c.toNat < 48 ∨ (48 ≤ c.toNat ∧ c.toNat ≤ 57) ∨ (58 ≤ c.toNat ∧ c.toNat ≤ 64) ∨ (65 ≤ c.toNat ∧ c.toNat ≤ 70) ∨ (71 ≤ c.toNat ∧ c.toNat ≤ 96) ∨ (97 ≤ c.toNat ∧ c.toNat ≤ 102) ∨ 103 ≤ c.toNat by omega) with hk | hk | hk | hk | hk | hk | hk
 ·
  have hv : hexVal c = none := by unfold hexVal; rw [if_neg (by omega), if_neg (by omega), if_neg (by omega)]
  exact Rg (Mv 1 rfl (Bv rfl rfl (decide_eq_false (show ¬ ((48 : Int) ≤ (c.toNat : Int)) by omega)) (Md 5 [0,4] rfl (Nx (Cf rfl (Sq (Rg (Mv 1 rfl (Bv rfl rfl (decide_eq_false (show ¬ ((97 : Int) ≤ (c.toNat : Int)) by omega)) (Md 5 [0,14] rfl (Nx (Cf rfl (Sq (Rg (Mv 1 rfl (Bv rfl rfl (decide_eq_false (show ¬ ((65 : Int) ≤ (c.toNat : Int)) by omega)) (Md 5 [0,25] rfl (Nx (Cf rfl (Sk (Nb (Nx (Sq (Rg (Md 2 [2,3] rfl (Nx (Re (Y2 rfl rfl rfl ⟨_, rfl, by rw [hv]; rfl, hM.below⟩))))))))))))))))))))))))))))
 ·
  have hv : hexVal c = some (c.toNat - 48) := by unfold hexVal; rw [if_pos (by omega)]
  exact Rg (Mv 1 rfl (Bv rfl rfl (decide_eq_true (show (48 : Int) ≤ (c.toNat : Int) by omega)) (Mv 2 rfl (Bv rfl rfl (decide_eq_true (show (c.toNat : Int) ≤ 57 by omega)) (Md 2 [0,4] rfl (Nx (Ct rfl (Sq (Rg (Mv 2 rfl (Gv rfl (fun _ hF => gives_conv hF rfl Tryz.underlying5 Tryz.underlying3 rfl (((c.toNat - 48 : Nat) : Int)) (sub_conv (d := 48) (by omega) (by omega)) _) (Md 2 [2,3] rfl (Nx (Re (Rb (Rt (Y2 rfl rfl rfl ⟨_, rfl, by rw [hv]; rfl, hM.below⟩)))))))))))))))))
 ·
  have hv : hexVal c = none := by unfold hexVal; rw [if_neg (by omega), if_neg (by omega), if_neg (by omega)]
  exact Rg (Mv 1 rfl (Bv rfl rfl (decide_eq_true (show (48 : Int) ≤ (c.toNat : Int) by omega)) (Mv 2 rfl (Bv rfl rfl (decide_eq_false (show ¬ ((c.toNat : Int) ≤ 57) by omega)) (Md 2 [0,4] rfl (Nx (Cf rfl (Sq (Rg (Mv 1 rfl (Bv rfl rfl (decide_eq_false (show ¬ ((97 : Int) ≤ (c.toNat : Int)) by omega)) (Md 5 [0,14] rfl (Nx (Cf rfl (Sq (Rg (Mv 1 rfl (Bv rfl rfl (decide_eq_false (show ¬ ((65 : Int) ≤ (c.toNat : Int)) by omega)) (Md 5 [0,25] rfl (Nx (Cf rfl (Sk (Nb (Nx (Sq (Rg (Md 2 [2,3] rfl (Nx (Re (Y2 rfl rfl rfl ⟨_, rfl, by rw [hv]; rfl, hM.below⟩))))))))))))))))))))))))))))))
 ·
  have hv : hexVal c = some (c.toNat - 65 + 10) := by unfold hexVal; rw [if_neg (by omega), if_neg (by omega), if_pos (by omega)]
  exact Rg (Mv 1 rfl (Bv rfl rfl (decide_eq_true (show (48 : Int) ≤ (c.toNat : Int) by omega)) (Mv 2 rfl (Bv rfl rfl (decide_eq_false (show ¬ ((c.toNat : Int) ≤ 57) by omega)) (Md 2 [0,4] rfl (Nx (Cf rfl (Sq (Rg (Mv 1 rfl (Bv rfl rfl (decide_eq_false (show ¬ ((97 : Int) ≤ (c.toNat : Int)) by omega)) (Md 5 [0,14] rfl (Nx (Cf rfl (Sq (Rg (Mv 1 rfl (Bv rfl rfl (decide_eq_true (show (65 : Int) ≤ (c.toNat : Int) by omega)) (Mv 2 rfl (Bv rfl rfl (decide_eq_true (show (c.toNat : Int) ≤ 70 by omega)) (Md 2 [0,25] rfl (Nx (Ct rfl (Sq (Rg (Mv 2 rfl (Gv rfl (fun _ hF => gives_conv hF rfl Tryz.underlying5 Tryz.underlying3 rfl (((c.toNat - 65 : Nat) : Int)) (sub_conv (d := 65) (by omega) (by omega)) _) (Sm (((c.toNat - 65 + 10 : Nat) : Int)) rfl (by omega) (Md 2 [2,3] rfl (Nx (Re (Rb (Rt (Y2 rfl rfl rfl ⟨_, rfl, by rw [hv]; rfl, hM.below⟩))))))))))))))))))))))))))))))))))
 ·
  have hv : hexVal c = none := by unfold hexVal; rw [if_neg (by omega), if_neg (by omega), if_neg (by omega)]
  exact Rg (Mv 1 rfl (Bv rfl rfl (decide_eq_true (show (48 : Int) ≤ (c.toNat : Int) by omega)) (Mv 2 rfl (Bv rfl rfl (decide_eq_false (show ¬ ((c.toNat : Int) ≤ 57) by omega)) (Md 2 [0,4] rfl (Nx (Cf rfl (Sq (Rg (Mv 1 rfl (Bv rfl rfl (decide_eq_false (show ¬ ((97 : Int) ≤ (c.toNat : Int)) by omega)) (Md 5 [0,14] rfl (Nx (Cf rfl (Sq (Rg (Mv 1 rfl (Bv rfl rfl (decide_eq_true (show (65 : Int) ≤ (c.toNat : Int) by omega)) (Mv 2 rfl (Bv rfl rfl (decide_eq_false (show ¬ ((c.toNat : Int) ≤ 70) by omega)) (Md 2 [0,25] rfl (Nx (Cf rfl (Sk (Nb (Nx (Sq (Rg (Md 2 [2,3] rfl (Nx (Re (Y2 rfl rfl rfl ⟨_, rfl, by rw [hv]; rfl, hM.below⟩))))))))))))))))))))))))))))))))
 ·
  have hv : hexVal c = some (c.toNat - 97 + 10) := by unfold hexVal; rw [if_neg (by omega), if_pos (by omega)]
  exact Rg (Mv 1 rfl (Bv rfl rfl (decide_eq_true (show (48 : Int) ≤ (c.toNat : Int) by omega)) (Mv 2 rfl (Bv rfl rfl (decide_eq_false (show ¬ ((c.toNat : Int) ≤ 57) by omega)) (Md 2 [0,4] rfl (Nx (Cf rfl (Sq (Rg (Mv 1 rfl (Bv rfl rfl (decide_eq_true (show (97 : Int) ≤ (c.toNat : Int) by omega)) (Mv 2 rfl (Bv rfl rfl (decide_eq_true (show (c.toNat : Int) ≤ 102 by omega)) (Md 2 [0,14] rfl (Nx (Ct rfl (Sq (Rg (Mv 2 rfl (Gv rfl (fun _ hF => gives_conv hF rfl Tryz.underlying5 Tryz.underlying3 rfl (((c.toNat - 97 : Nat) : Int)) (sub_conv (d := 97) (by omega) (by omega)) _) (Sm (((c.toNat - 97 + 10 : Nat) : Int)) rfl (by omega) (Md 2 [2,3] rfl (Nx (Re (Rb (Rt (Y2 rfl rfl rfl ⟨_, rfl, by rw [hv]; rfl, hM.below⟩)))))))))))))))))))))))))))
 have hv : hexVal c = none := by unfold hexVal; rw [if_neg (by omega), if_neg (by omega), if_neg (by omega)]
 exact Rg (Mv 1 rfl (Bv rfl rfl (decide_eq_true (show (48 : Int) ≤ (c.toNat : Int) by omega)) (Mv 2 rfl (Bv rfl rfl (decide_eq_false (show ¬ ((c.toNat : Int) ≤ 57) by omega)) (Md 2 [0,4] rfl (Nx (Cf rfl (Sq (Rg (Mv 1 rfl (Bv rfl rfl (decide_eq_true (show (97 : Int) ≤ (c.toNat : Int) by omega)) (Mv 2 rfl (Bv rfl rfl (decide_eq_false (show ¬ ((c.toNat : Int) ≤ 102) by omega)) (Md 2 [0,14] rfl (Nx (Cf rfl (Sq (Rg (Mv 1 rfl (Bv rfl rfl (decide_eq_true (show (65 : Int) ≤ (c.toNat : Int) by omega)) (Mv 2 rfl (Bv rfl rfl (decide_eq_false (show ¬ ((c.toNat : Int) ≤ 70) by omega)) (Md 2 [0,25] rfl (Nx (Cf rfl (Sk (Nb (Nx (Sq (Rg (Md 2 [2,3] rfl (Nx (Re (Y2 rfl rfl rfl ⟨_, rfl, by rw [hv]; rfl, hM.below⟩))))))))))))))))))))))))))))))))))
theorem short_walk (c : UInt8) (w0 : World) : Calls Tryz.prog 76 #[.int .u8 (c.toNat : Int)] w0 (Ret fun v w' => v = .int .u8 ((short c).toNat : Int) ∧ Below w0.heap.size w0 w') := by
 have hM : Mem w0.heap.size w0 [] w0 := Mem.start (Nat.le_refl _)
 refine enter (l := [.int .u8 (c.toNat : Int)]) 14 Tryz.func76 rfl rfl (fun a hF => ?_)
 replace hF : Fr 15 [(0, .int .u8 (c.toNat : Int))] a := hF
 revert a; refine Sq (Rg (Md 1 [0] rfl (Nx (Sq (Sq (Rg (Md 1 [0,3] rfl (Nx (Bo (Sq (Rg (Md 2 [0,3,4] rfl (Nx (Cd rfl (fun ht => ?_) ((fun ht => ?_))))))))))))))))
 ·
  obtain rfl := eq_t (d := 98) rfl ht
  exact Sq (Rg (Md 1 [2] rfl (Nx (Re (Rb (Rt (Y1 rfl rfl ⟨_, rfl, by first | rfl | simp [short, n98, n102, n110, n114, n116], hM.below⟩)))))))
 have n98 := eq_f (d := 98) rfl ht
 refine Sq (Rg (Md 2 [0,3,6] rfl (Nx (Cd rfl (fun ht => ?_) ((fun ht => ?_))))))
 ·
  obtain rfl := eq_t (d := 102) rfl ht
  exact Sq (Rg (Md 1 [2] rfl (Nx (Re (Rb (Rt (Y1 rfl rfl ⟨_, rfl, by first | rfl | simp [short, n98, n102, n110, n114, n116], hM.below⟩)))))))
 have n102 := eq_f (d := 102) rfl ht
 refine Sq (Rg (Md 2 [0,3,8] rfl (Nx (Cd rfl (fun ht => ?_) ((fun ht => ?_))))))
 ·
  obtain rfl := eq_t (d := 110) rfl ht
  exact Sq (Rg (Md 1 [2] rfl (Nx (Re (Rb (Rt (Y1 rfl rfl ⟨_, rfl, by first | rfl | simp [short, n98, n102, n110, n114, n116], hM.below⟩)))))))
 have n110 := eq_f (d := 110) rfl ht
 refine Sq (Rg (Md 2 [0,3,10] rfl (Nx (Cd rfl (fun ht => ?_) ((fun ht => ?_))))))
 ·
  obtain rfl := eq_t (d := 114) rfl ht
  exact Sq (Rg (Md 1 [2] rfl (Nx (Re (Rb (Rt (Y1 rfl rfl ⟨_, rfl, by first | rfl | simp [short, n98, n102, n110, n114, n116], hM.below⟩)))))))
 have n114 := eq_f (d := 114) rfl ht
 refine Sq (Rg (Md 2 [0,12] rfl (Nx (Cd rfl (fun ht => ?_) ((fun ht => ?_))))))
 ·
  obtain rfl := eq_t (d := 116) rfl ht
  exact Sq (Rg (Md 1 [2] rfl (Nx (Re (Rb (Rt (Y1 rfl rfl ⟨_, rfl, by first | rfl | simp [short, n98, n102, n110, n114, n116], hM.below⟩)))))))
 have n116 := eq_f (d := 116) rfl ht
 exact Sk (Nb (Nx (Sq (Rg (Md 2 [2] rfl (Nx (Re (Y1 rfl rfl ⟨_, rfl, by first | rfl | simp [short, n98, n102, n110, n114, n116], hM.below⟩))))))))
theorem high_walk (n : Nat) (w0 : World) : Calls Tryz.prog 77 #[.int .i64 (n : Int)] w0 (Ret fun v w' => v = .bool (high n) ∧ Below w0.heap.size w0 w') := by
 have hM : Mem w0.heap.size w0 [] w0 := Mem.start (Nat.le_refl _)
 refine enter (l := [.int .i64 (n : Int)]) 8 Tryz.func77 rfl rfl (fun a hF => ?_)
 replace hF : Fr 9 [(0, .int .i64 (n : Int))] a := hF
 revert a; refine Sq (Rg (Md 1 [0] rfl (Nx (Sq ?_))))
 rcases (show n < 55296 ∨ (55296 ≤ n ∧ 56319 < n) ∨ (55296 ≤ n ∧ n ≤ 56319) by omega) with hk | hk | hk
 · exact Rg (Mv 1 rfl (Bv rfl rfl (decide_eq_false (show ¬ ((55296 : Int) ≤ (n : Int)) by omega)) (Md 5 [2] rfl (Nx (Re (Y1 rfl rfl ⟨_, rfl, by simp [high]; omega, hM.below⟩))))))
 · exact Rg (Mv 1 rfl (Bv rfl rfl (decide_eq_true (show (55296 : Int) ≤ (n : Int) by omega)) (Mv 2 rfl (Bv rfl rfl (decide_eq_false (show ¬ ((n : Int) ≤ 56319) by omega)) (Md 2 [2] rfl (Nx (Re (Y1 rfl rfl ⟨_, rfl, by simp [high]; omega, hM.below⟩))))))))
 exact Rg (Mv 1 rfl (Bv rfl rfl (decide_eq_true (show (55296 : Int) ≤ (n : Int) by omega)) (Mv 2 rfl (Bv rfl rfl (decide_eq_true (show (n : Int) ≤ 56319 by omega)) (Md 2 [2] rfl (Nx (Re (Y1 rfl rfl ⟨_, rfl, by simp [high]; omega, hM.below⟩))))))))
theorem low_walk (n : Nat) (w0 : World) : Calls Tryz.prog 78 #[.int .i64 (n : Int)] w0 (Ret fun v w' => v = .bool (low n) ∧ Below w0.heap.size w0 w') := by
 have hM : Mem w0.heap.size w0 [] w0 := Mem.start (Nat.le_refl _)
 refine enter (l := [.int .i64 (n : Int)]) 8 Tryz.func78 rfl rfl (fun a hF => ?_)
 replace hF : Fr 9 [(0, .int .i64 (n : Int))] a := hF
 revert a; refine Sq (Rg (Md 1 [0] rfl (Nx (Sq ?_))))
 rcases (show n < 56320 ∨ (56320 ≤ n ∧ 57343 < n) ∨ (56320 ≤ n ∧ n ≤ 57343) by omega) with hk | hk | hk
 · exact Rg (Mv 1 rfl (Bv rfl rfl (decide_eq_false (show ¬ ((56320 : Int) ≤ (n : Int)) by omega)) (Md 5 [2] rfl (Nx (Re (Y1 rfl rfl ⟨_, rfl, by simp [low]; omega, hM.below⟩))))))
 · exact Rg (Mv 1 rfl (Bv rfl rfl (decide_eq_true (show (56320 : Int) ≤ (n : Int) by omega)) (Mv 2 rfl (Bv rfl rfl (decide_eq_false (show ¬ ((n : Int) ≤ 57343) by omega)) (Md 2 [2] rfl (Nx (Re (Y1 rfl rfl ⟨_, rfl, by simp [low]; omega, hM.below⟩))))))))
 exact Rg (Mv 1 rfl (Bv rfl rfl (decide_eq_true (show (56320 : Int) ≤ (n : Int) by omega)) (Mv 2 rfl (Bv rfl rfl (decide_eq_true (show (n : Int) ≤ 57343 by omega)) (Md 2 [2] rfl (Nx (Re (Y1 rfl rfl ⟨_, rfl, by simp [low]; omega, hM.below⟩))))))))
end Go.Sx
