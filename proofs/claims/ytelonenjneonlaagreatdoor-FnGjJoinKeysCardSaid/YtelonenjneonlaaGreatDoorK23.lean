/- Part 23 of the proof of FnGjJoinKeys: the statement Rows.FnGjJoinKeysCardSaid; no further condition. -/
import Derived.Test.YtelonenjneonlaaGreatDoorK22
set_option linter.all false
namespace Go.Sx
open Go.RowKit Go.Proofs Js Go.Proofs.YtelonenjneonlaaGreatDoorW.PrintWords
set_option maxRecDepth 100000 in
theorem rightShift_walk {B : Nat} {wc : World} {L : List Bk} {b : Nat} {ds : Str} {dp : Int} {neg tr : Bool} {m k : Nat} (hD : Dec ds m) (h0 : 0 < m) (h1 : 1 ≤ k) (h2 : k ≤ 60) (hdp : -2 ^ 40 ≤ dp ∧ dp ≤ 2 ^ 40) {w0 : World} (hM0 : Mem B wc ((b, 240, decL ds m dp neg tr) :: L) w0) :
    Calls Tryz.prog 237 #[.pointer (some ⟨b, 0, none⟩), .int .u64 (k : Int)] w0 (Ret fun v w' => v = .tuple #[] ∧ ∃ (ds' out : Str) (m' r0 : Nat) (tr' : Bool), Dec ds' m' ∧ 0 < m' ∧ Digs out ∧ 1 ≤ r0 ∧ r0 ≤ 20 ∧ rd (ds.take m) (r0 - 1) < 2 ^ k ∧ 2 ^ k ≤ rd (ds.take m) r0 ∧
      rd (ds.take m) (r0 + out.length) = worth out * 2 ^ k * 10 ∧ ds'.take m' = out.take m' ∧ ds'[0]? = some (chr (rd (ds.take m) r0 / 2 ^ k)) ∧ m' ≤ min 800 out.length ∧ (∀ j, m' ≤ j → j < min 800 out.length → ds'[j]? = some 48) ∧ m ≤ r0 + out.length ∧
      Mem B wc ((b, 240, decL ds' m' (dp - (r0 - 1 : Nat)) neg tr') :: L) w') := by
 have hM := hM0
 have hl := hD.len
 have hl0 := hD.len
 have hm := hD.le
 have htl := hD.tlen
 have hp60 : 2 ^ k ≤ 2 ^ 60 := Nat.pow_le_pow_right (by decide) h2
 have hp1 : 1 ≤ 2 ^ k := Nat.pow_pos (by decide)
 have hstep := rd_le hD.digs
 have hrl := rd_low hD h0
 refine enter (l := [.pointer (some ⟨b, 0, none⟩), .int .u64 (k : Int)]) 128 Tryz.func237 rfl rfl (fun a hF => ?_)
 replace hF : Fr 130 [(0, .pointer (some ⟨b, 0, none⟩)), (1, .int .u64 (k : Int))] a := hF
 revert a; refine Sq (Rg (Md 1 [0,1,4] rfl (Nx (Sq (Rg (Md 1 [0,1,4,5] rfl (Nx (Sq (Rg (Md 1 [0,1,4,5,6] rfl (Nx ?_))))))))))); intro a hF
 refine cut (fun a w => ∃ r0 : Nat, Fr 130 [(0, .pointer (some ⟨b, 0, none⟩)), (1, .int .u64 (k : Int)), (4, .int .i64 (r0 : Int)), (5, .int .i64 0), (6, .int .u64 ((rd (ds.take m) r0 : Nat) : Int))] a ∧ Mem B wc ((b, 240, decL ds m dp neg tr) :: L) w ∧ 1 ≤ r0 ∧ rd (ds.take m) (r0 - 1) < 2 ^ k ∧ 2 ^ k ≤ rd (ds.take m) r0 ∧ rd (ds.take m) r0 < 10 * 2 ^ k) ?_ (fun a w h => ?_)
 ·
  revert a; refine Bo (Kp [0,1,4,5,6] rfl ?_); intro a hF
  refine loopX (fun (r : Nat) a w => Fr 130 [(0, .pointer (some ⟨b, 0, none⟩)), (1, .int .u64 (k : Int)), (4, .int .i64 (r : Int)), (5, .int .i64 0), (6, .int .u64 ((rd (ds.take m) r : Nat) : Int))] a ∧ Mem B wc ((b, 240, decL ds m dp neg tr) :: L) w ∧ r ≤ m ∧ (r = 0 ∨ 1 ≤ r ∧ rd (ds.take m) (r - 1) < 2 ^ k) ∧ rd (ds.take m) r < 10 * 2 ^ k) (fun r => m - r) (0) ?_ (fun r a w hI => ?_)
  · exact ⟨by rw [rd_zero]; exact hF, hM, Nat.zero_le _, .inl rfl, by rw [rd_zero]; omega⟩
  clear hF hM
  obtain ⟨hF, hM, hrm, hpr, hrb⟩ := hI
  revert a; refine Sq (Sq (Rg (Mv 2 rfl (Gv rfl (fun _ hF => gives_shr (k) (((rd (ds.take m) r / 2 ^ k : Nat) : Int)) hF rfl rfl rfl rfl (shr_u64 (by omega)) _) (Md 1 [0,1,4,5,6,15] rfl (Nx (Ce rfl (fun ht => ?_) ((fun ht => ?_)))))))))
  ·
   have hq := div_pos_le ht
   refine Ex (Ot (Ot (Ob (Kp [0,1,4,5,6] rfl ?_)))); intro a hF
   first | exact ⟨r', hF, hM, hpr.1, hpr.2, hq, hrb⟩ | exact ⟨r, hF, hM, (hpr.resolve_left (fun e => by rw [e, rd_zero] at hq; omega)).1, (hpr.resolve_left (fun e => by rw [e, rd_zero] at hq; omega)).2, hq, hrb⟩
  have hq := div_zero_lt ht
  refine Sk (Nx (Sq (Bo (Sq (Sq (Rg (Mv 4 rfl (Gv rfl (fun _ hF => gives_load hF hM 0 rfl Tryz.underlying3 rfl rfl rfl (dget_nd hl)) (Md 1 [0,1,4,5,6,23] rfl (Nx (Ce rfl (fun ht => ?_) ((fun ht => ?_)))))))))))))
  ·
   have hrm' : r < m := by have := of_decide_eq_false ht; omega
   obtain ⟨c, hc, hcd⟩ := hD.at hrm'
   have hcr := dig_rng hcd
   have hdg : dg c + 48 = c.toNat := by unfold dg; omega
   have hrd : rd (ds.take m) (r + 1) = rd (ds.take m) r * 10 + dg c := rd_digit (by rw [List.getElem?_take, if_pos hrm']; exact hc)
   refine Sk (Nx (Sq (Rg (Mv 4 rfl (Gv rfl (fun _ hF => gives_indexAddrD (r) hF rfl rfl rfl rfl (by omega) _) (Gv rfl (fun _ hF => gives_load hF hM 0 rfl Tryz.underlying5 rfl rfl rfl (dget_dig (hc))) (Gv rfl (fun _ hF => gives_conv hF rfl Tryz.underlying5 Tryz.underlying157 rfl (((c.toNat : Nat) : Int)) (u64_in (by omega) (by omega)) _) (Md 1 [0,1,4,5,6,7] rfl (Nx (Rg (Mv 1 rfl (Gv rfl (fun _ hF => gives_sum hF rfl rfl rfl (((rd (ds.take m) r * 10 : Nat) : Int)) rfl (by omega) (u64_in (by omega) (by omega)) _) (Mv 1 rfl (Gv rfl (fun _ hF => gives_sum hF rfl rfl rfl (((rd (ds.take m) r * 10 + c.toNat : Nat) : Int)) rfl (by omega) (u64_in (by omega) (by omega)) _) (Gv rfl (fun _ hF => gives_sum hF rfl rfl rfl (((rd (ds.take m) (r + 1) : Nat) : Int)) rfl (by omega) (u64_in (by omega) (by omega)) _) (Md 1 [0,1,4,5,6] rfl (Nb (Nx (Rg (Mv 1 rfl (Sm (((r + 1 : Nat) : Int)) rfl (by omega) (Md 1 [0,1,4,5,6] rfl ?_)))))))))))))))))))))); intro a hF
   exact ⟨r + 1, ⟨hF, hM, by omega, .inr ⟨by omega, by rw [Nat.add_sub_cancel]; exact hq⟩, by have := hstep r; omega⟩, by omega⟩
  have hrm' : r = m := by have := of_decide_eq_true ht; omega
  subst hrm'
  have hpos : 0 < rd (ds.take r) r := by have := hrl (r - 1); rw [show r - 1 + 1 = r by omega] at this; have := Nat.pow_pos (n := r - 1) (show 0 < 10 by decide); omega
  refine Sq (Sq (Rg (Md 2 [0,1,4,5,6,25] rfl (Nx (C1 rfl (fun ht => absurd ht (by simp; omega)) (Sk (Nx (Sq (Bo (Kp [0,1,4,5,6] rfl ?_)))))))))); intro a hF
  refine loopX (fun (r' : Nat) a w => Fr 130 [(0, .pointer (some ⟨b, 0, none⟩)), (1, .int .u64 (k : Int)), (4, .int .i64 (r' : Int)), (5, .int .i64 0), (6, .int .u64 ((rd (ds.take r) r' : Nat) : Int))] a ∧ Mem B wc ((b, 240, decL ds r dp neg tr) :: L) w ∧ r ≤ r' ∧ (1 ≤ r' ∧ rd (ds.take r) (r' - 1) < 2 ^ k) ∧ rd (ds.take r) r' < 10 * 2 ^ k) (fun r' => 10 * 2 ^ k - rd (ds.take r) r') (r) ?_ (fun r' a w hI => ?_)
  · exact ⟨hF, hM, Nat.le_refl _, hpr.resolve_left (by omega), hrb⟩
  clear hF hM
  clear hpr hrb hq hpos
  obtain ⟨hF, hM, hrr, hpr, hrb⟩ := hI
  have hr20 := rd_few hD h0 h2 hpr.1 hpr.2
  have hpos : 0 < rd (ds.take r) r' := by have := hrl (r' - 1); rw [show r' - 1 + 1 = r' by omega] at this; have := Nat.pow_pos (n := r' - 1) (show 0 < 10 by decide); omega
  have hmore : rd (ds.take r) (r' + 1) = rd (ds.take r) r' * 10 := rd_more (by rw [htl]; exact hrr)
  revert a; refine Sq (Sq ?_)
  skip
  refine Rg (Mv 2 rfl (Gv rfl (fun _ hF => gives_shr (k) (((rd (ds.take r) r' / 2 ^ k : Nat) : Int)) hF rfl rfl rfl rfl (shr_u64 (by omega)) _) (Md 1 [0,1,4,5,6,32] rfl (Nx (Ce rfl (fun ht => ?_) ((fun ht => ?_)))))))
  ·
   have hq := div_pos_le ht
   refine Ex (Ot (Ot (Ob (Nx (Ex (Ot (Op' rfl (Ot (Ot (Ob (Kp [0,1,4,5,6] rfl ?_))))))))))); intro a hF
   first | exact ⟨r', hF, hM, hpr.1, hpr.2, hq, hrb⟩ | exact ⟨r, hF, hM, (hpr.resolve_left (fun e => by rw [e, rd_zero] at hq; omega)).1, (hpr.resolve_left (fun e => by rw [e, rd_zero] at hq; omega)).2, hq, hrb⟩
  have hq := div_zero_lt ht
  refine Sk (Nx (Bo (Sq (Rg (Mv 1 rfl (Gv rfl (fun _ hF => gives_sum hF rfl rfl rfl (((rd (ds.take r) (r' + 1) : Nat) : Int)) rfl (by omega) (u64_in (by omega) (by omega)) _) (Md 1 [0,1,4,5,6] rfl (Nx (Rg (Mv 1 rfl (Sm (((r' + 1 : Nat) : Int)) rfl (by omega) (Md 1 [0,1,4,5,6] rfl (Nb (Kp [0,1,4,5,6] rfl ?_)))))))))))))); intro a hF
  exact ⟨r' + 1, ⟨hF, hM, by omega, ⟨by omega, by rw [Nat.add_sub_cancel]; exact hq⟩, by omega⟩, by omega⟩
 clear hF hM
 obtain ⟨r0, hF, hM, hr1, hrA, hrB, hrC⟩ := h
 have hr20 := rd_few hD h0 h2 hr1 hrA
 revert a; refine Sq (Rg (Mv 3 rfl (Gv rfl (fun _ hF => gives_load hF hM 0 rfl Tryz.underlying3 rfl rfl rfl (dget_dp hl)) (Mv 1 rfl (Sm (((r0 - 1 : Nat) : Int)) rfl (by omega) (Sm (dp - ((r0 - 1 : Nat) : Int)) rfl (by omega) (Mv 2 rfl ?_))))))); intro a hF
 refine op_storeD hF hM rfl rfl rfl (by kernel_rfl) rfl rfl rfl (by decide) hl (dset_dp hl _) ?_; clear hF hM a; intro a w hF hM
 revert a; refine Md 0 [0,1,4,5,6] rfl (Nx (Sq (Rg (Mv 1 rfl (Gv rfl (fun _ hF => gives_shl (k) (((2 ^ k : Nat) : Int)) hF rfl rfl rfl rfl (one_shl h2) _) (Gv rfl (fun _ hF => gives_sum hF rfl rfl rfl (((2 ^ k - 1 : Nat) : Int)) rfl (by omega) (u64_in (by omega) (by omega)) _) (Md 1 [0,1,4,5,6,8] rfl (Nx (Sq (Bo (Kp [0,1,4,5,6,8] rfl ?_))))))))))); intro a hF
 refine loopX (fun (x : Nat × Nat × Str) a w => ∃ (arr : Str) (tr' : Bool), Fr 130 [(0, .pointer (some ⟨b, 0, none⟩)), (1, .int .u64 (k : Int)), (4, .int .i64 (x.1 : Int)), (5, .int .i64 ((x.2.2.length : Nat) : Int)), (6, .int .u64 (x.2.1 : Int)), (8, .int .u64 ((2 ^ k - 1 : Nat) : Int))] a ∧ Mem B wc ((b, 240, decL arr m (dp - ((r0 - 1 : Nat) : Int)) neg tr') :: L) w ∧ Arw ds arr x.2.2 ∧ r0 + x.2.2.length = x.1 ∧ RS (rd (ds.take m) x.1) k x.2.1 x.2.2 ∧ (x.2.2.head? = some (chr (rd (ds.take m) r0 / 2 ^ k)) ∨ x.2.2 = [] ∧ x.2.1 = rd (ds.take m) r0) ∧ x.2.2.length ≤ m) (fun x => m - x.1) ((r0, rd (ds.take m) r0, [])) ?_ (fun x a w hI => ?_)
 · exact ⟨ds, tr, hF, hM, Arw.start hl0, by simp, RS.start hrC, .inr ⟨rfl, rfl⟩, Nat.zero_le _⟩
 clear hF hM
 obtain ⟨r, n, out⟩ := x
 obtain ⟨arr, tr', hF, hM, hA, hro, hRS, hhd, hom⟩ := hI
 simp only at hF hM hA hro hRS hhd hom
 have hl := hA.len
 have hnb := hRS.lt
 revert a; refine Sq (Sq (Rg (Mv 4 rfl (Gv rfl (fun _ hF => gives_load hF hM 0 rfl Tryz.underlying3 rfl rfl rfl (dget_nd hl)) (Md 1 [0,1,4,5,6,8,66] rfl (Nx (Cd rfl (fun ht => ?_) ((fun ht => ?_)))))))))
 ·
  have hrm' : r < m := by have := of_decide_eq_true ht; omega
  obtain ⟨c, hc, hcd⟩ := hD.at hrm'
  have hcA : arr[r]? = some c := (hA.high r (by omega)).trans hc
  have hcr := dig_rng hcd
  have hdg : dg c + 48 = c.toNat := by unfold dg; omega
  have hrd : rd (ds.take m) (r + 1) = rd (ds.take m) r * 10 + dg c := rd_digit (by rw [List.getElem?_take, if_pos hrm']; exact hc)
  have hd10 : n / 2 ^ k < 10 := (Nat.div_lt_iff_lt_mul (Nat.pow_pos (by decide))).2 hRS.lt
  have hmod : n % 2 ^ k < 2 ^ k := Nat.mod_lt _ (Nat.pow_pos (by decide))
  refine Sk (Nx (Sq (Bo (Sq (Rg (Mv 4 rfl (Gv rfl (fun _ hF => gives_indexAddrD (r) hF rfl rfl rfl rfl (by omega) _) (Gv rfl (fun _ hF => gives_load hF hM 0 rfl Tryz.underlying5 rfl rfl rfl (dget_dig (hcA))) (Gv rfl (fun _ hF => gives_conv hF rfl Tryz.underlying5 Tryz.underlying157 rfl (((c.toNat : Nat) : Int)) (u64_in (by omega) (by omega)) _) (Md 1 [0,1,4,5,6,8,9] rfl (Nx (Sq (Rg (Mv 2 rfl (Gv rfl (fun _ hF => gives_shr (k) (((n / 2 ^ k : Nat) : Int)) hF rfl rfl rfl rfl (shr_u64 (by omega)) _) (Md 1 [0,1,4,5,6,8,9,10] rfl (Nx (Sq (Rg (Mv 2 rfl (Gv rfl (fun _ hF => gives_bits (((n % 2 ^ k : Nat) : Int)) hF rfl rfl rfl (and_mask (by omega) h2) _) (Md 1 [0,1,4,5,6,8,9,10] rfl (Nx (Sq (Rg (Mv 7 rfl (Gv rfl (fun _ hF => gives_indexAddrD (out.length) hF rfl rfl rfl rfl (by omega) _) ?_))))))))))))))))))))))))))); intro a hF
  refine op_storeD hF hM rfl rfl rfl (by kernel_rfl) rfl rfl rfl (by omega) hl (dset_dig hl (by omega) (chr_put hd10)) ?_; clear hF hM a; intro a w hF hM
  revert a; refine Md 0 [0,1,4,5,6,8,9] rfl (Nx (Sq (Rg (Mv 1 rfl (Sm (((out.length + 1 : Nat) : Int)) rfl (by omega) (Md 1 [0,1,4,5,6,8,9] rfl (Nx (Rg (Mv 1 rfl (Gv rfl (fun _ hF => gives_sum hF rfl rfl rfl (((n % 2 ^ k * 10 : Nat) : Int)) rfl (by omega) (u64_in (by omega) (by omega)) _) (Mv 1 rfl (Gv rfl (fun _ hF => gives_sum hF rfl rfl rfl (((n % 2 ^ k * 10 + c.toNat : Nat) : Int)) rfl (by omega) (u64_in (by omega) (by omega)) _) (Gv rfl (fun _ hF => gives_sum hF rfl rfl rfl (((n % 2 ^ k * 10 + dg c : Nat) : Int)) rfl (by omega) (u64_in (by omega) (by omega)) _) (Md 1 [0,1,4,5,6,8] rfl (Nb (Nx (Rg (Mv 1 rfl (Sm (((r + 1 : Nat) : Int)) rfl (by omega) (Md 1 [0,1,4,5,6,8] rfl ?_)))))))))))))))))))); intro a hF
  exact ⟨(r + 1, n % 2 ^ k * 10 + dg c, out ++ [chr (n / 2 ^ k)]), ⟨_, _, by simp only [List.length_append, List.length_singleton]; exact hF, hM, hA.put _ (by omega), by simp; omega, by simp only; rw [hrd]; exact hRS.step (dg_lt hcd), .inl (head_snoc (hhd.imp id (fun h => ⟨h.1, by rw [h.2]⟩))), by simp; omega⟩, by simp only; omega⟩
 have hrm' : m ≤ r := by have := of_decide_eq_false ht; omega
 refine Ex (Ot (Ot (Ob (Nx (Sq (Bo (Kp [0,1,5,6,8] rfl ?_))))))); intro a hF
 refine loopX (fun (x : Nat × Nat × Nat × Str) a w => ∃ (arr : Str) (tr' : Bool), Fr 130 [(0, .pointer (some ⟨b, 0, none⟩)), (1, .int .u64 (k : Int)), (5, .int .i64 ((min x.2.2.2.length 800 : Nat) : Int)), (6, .int .u64 (x.2.2.1 : Int)), (8, .int .u64 ((2 ^ k - 1 : Nat) : Int))] a ∧ Mem B wc ((b, 240, decL arr m (dp - ((r0 - 1 : Nat) : Int)) neg tr') :: L) w ∧ Arw ds arr x.2.2.2 ∧ r0 + x.2.2.2.length = x.2.1 ∧ RS (rd (ds.take m) x.2.1) k x.2.2.1 x.2.2.2 ∧ (x.2.2.2.head? = some (chr (rd (ds.take m) r0 / 2 ^ k)) ∨ x.2.2.2 = [] ∧ x.2.2.1 = rd (ds.take m) r0) ∧ m ≤ x.2.1 ∧ 2 ^ x.1 ∣ x.2.2.1 ∧ (x.1 ≤ k ∨ x.1 = k + 1 ∧ x.2.2.1 = 0)) (fun x => k + 1 - x.1) ((0, r, n, out)) ?_ (fun x a w hI => ?_)
 · exact ⟨arr, tr', by first | (rw [show min out.length 800 = out.length from Nat.min_eq_left (by omega)]; exact hF), hM, hA, hro, hRS, hhd, hrm', Nat.one_dvd _, .inl (Nat.zero_le _)⟩
 clear hF hM
 clear hA hro hRS hhd hnb hl hrm'
 obtain ⟨e, r, n, out⟩ := x
 obtain ⟨arr, tr', hF, hM, hA, hro, hRS, hhd, hrm', hdv, hek⟩ := hI
 simp only at hF hM hA hro hRS hhd hrm' hdv hek
 have hl := hA.len
 have hnb := hRS.lt
 revert a; refine Sq (Sq (Rg (Md 2 [0,1,5,6,8,98] rfl (Nx (Ce rfl (fun ht => ?_) ((fun ht => ?_)))))))
 ·
  have hn0 : n = 0 := by have := of_decide_eq_false ht; omega
  subst hn0
  refine Ex (Ot (Ot (Ob (Nx (Sq (Rg (Mv 4 rfl ?_))))))); intro a hF
  refine op_storeD hF hM rfl rfl rfl (by kernel_rfl) rfl rfl rfl (by decide) hl (dset_nd hl _) ?_; clear hF hM a; intro a w hF hM
  revert a; refine Md 0 [0] rfl (Nx (Rg (Mv 1 rfl (Cl rfl Tryz.func235 (by kernel_rfl) rfl (trimD_walk hl (Nat.min_le_right out.length 800) hM) ?_))))
  clear hM; intro w v hR
  obtain ⟨rfl, m', hmle, hz, hlast, hM⟩ := hR
  refine Md 0 [] rfl ?_
  have hne : out ≠ [] := fun e => by have := hhd.resolve_left (by rw [e]; simp); have h5 := this.2; have := hrB; omega
  have hhd' : out.head? = some (chr (rd (ds.take m) r0 / 2 ^ k)) := hhd.resolve_right (fun h => hne h.1)
  have hq10 : rd (ds.take m) r0 / 2 ^ k < 10 := (Nat.div_lt_iff_lt_mul (Nat.pow_pos (by decide))).2 hrC
  have hq1 : rd (ds.take m) r0 / 2 ^ k ≠ 0 := fun h => by have := (Nat.div_eq_zero_iff_lt (Nat.pow_pos (n := k) (show 0 < 2 by decide))).1 h; omega
  intro a hF
  rw [Nat.min_comm] at hmle hz
  obtain ⟨hD', hm'0, htk, hfi⟩ := Dec.of_out hA.arr hRS.digs (by rw [hhd']; intro h; exact chr_ne hq10 hq1 (Option.some.inj h)) hne hmle hz
  rw [if_neg (show ¬ m' = 0 by omega)] at hM
  exact endNone hF rfl ⟨_, rfl, rfl, arr, out, m', r0, tr', hD', hm'0, hRS.digs, hr1, hr20, hrA, hrB, by rw [hro]; have := hRS.eq; rw [Nat.add_zero] at this; exact this, htk, by rw [hfi]; exact hhd', hmle, hz, by omega, hM⟩
 have hn0 : 0 < n := by have := of_decide_eq_true ht; omega
 have hk' : e ≤ k := hek.resolve_right (fun h => by omega)
 have hd10 : n / 2 ^ k < 10 := (Nat.div_lt_iff_lt_mul (Nat.pow_pos (by decide))).2 hRS.lt
 have hmod : n % 2 ^ k < 2 ^ k := Nat.mod_lt _ (Nat.pow_pos (by decide))
 refine Sk (Nx (Bo (Sq (Rg (Mv 2 rfl (Gv rfl (fun _ hF => gives_shr (k) (((n / 2 ^ k : Nat) : Int)) hF rfl rfl rfl rfl (shr_u64 (by omega)) _) (Md 1 [0,1,5,6,8,11] rfl (Nx (Sq (Rg (Mv 2 rfl (Gv rfl (fun _ hF => gives_bits (((n % 2 ^ k : Nat) : Int)) hF rfl rfl rfl (and_mask (by omega) h2) _) (Md 1 [0,1,5,6,8,11] rfl (Nx (Sq (Sq (Rg (Md 2 [0,1,5,6,8,11,106] rfl (Nx (Cd rfl (fun ht => ?_) ((fun ht => ?_))))))))))))))))))))))
 ·
  have hw8 : out.length < 800 := by have := of_decide_eq_true ht; omega
  intro a hF
  rw [show min out.length 800 = out.length from Nat.min_eq_left (by omega)] at hF
  revert a; refine Sq (Rg (Mv 7 rfl (Gv rfl (fun _ hF => gives_indexAddrD (out.length) hF rfl rfl rfl rfl hw8 _) ?_))); intro a hF
  refine op_storeD hF hM rfl rfl rfl (by kernel_rfl) rfl rfl rfl (by omega) hl (dset_dig hl hw8 (chr_put hd10)) ?_; clear hF hM a; intro a w hF hM
  revert a; refine Md 0 [0,1,5,6,8] rfl (Nx (Rg (Mv 1 rfl (Sm (((out.length + 1 : Nat) : Int)) rfl (by omega) (Md 1 [0,1,5,6,8] rfl (Nx (Rg (Mv 1 rfl (Gv rfl (fun _ hF => gives_sum hF rfl rfl rfl (((n % 2 ^ k * 10 : Nat) : Int)) rfl (by omega) (u64_in (by omega) (by omega)) _) (Md 1 [0,1,5,6,8] rfl (Nb (Kp [0,1,5,6,8] rfl ?_)))))))))))); intro a hF
  exact ⟨(e + 1, r + 1, n % 2 ^ k * 10, out ++ [chr (n / 2 ^ k)]), ⟨_, _, by simp only [List.length_append, List.length_singleton]; first | (rw [show min (out.length + 1) 800 = out.length + 1 by omega]; exact hF) | (rw [show min (out.length + 1) 800 = min out.length 800 by omega]; exact hF), hM, by first | exact hA.put _ hw8 | exact hA.pass _ hw8, by simp; omega, by simp only; rw [rd_more (by rw [htl]; exact hrm')]; exact hRS.step (x := 0) (by decide), .inl (head_snoc (hhd.imp id (fun h => ⟨h.1, by rw [h.2]⟩))), by simp only; omega, pow_step hk' hdv, (Nat.lt_or_ge e k).imp id (fun h => ⟨by simp only; omega, pow_end (by have : e = k := (by omega); rw [← this]; exact hdv)⟩)⟩, by simp only; omega⟩
 have hw8 : 800 ≤ out.length := by have := of_decide_eq_false ht; omega
 refine Sq (Rg (Md 2 [0,1,5,6,8,118] rfl (Nx (D0 rfl ?_ ?_))))
 ·
  refine Sk (Nx (Rg (Mv 1 rfl (Gv rfl (fun _ hF => gives_sum hF rfl rfl rfl (((n % 2 ^ k * 10 : Nat) : Int)) rfl (by omega) (u64_in (by omega) (by omega)) _) (Md 1 [0,1,5,6,8] rfl (Nb (Kp [0,1,5,6,8] rfl ?_))))))); intro a hF
  exact ⟨(e + 1, r + 1, n % 2 ^ k * 10, out ++ [chr (n / 2 ^ k)]), ⟨_, _, by simp only [List.length_append, List.length_singleton]; first | (rw [show min (out.length + 1) 800 = out.length + 1 by omega]; exact hF) | (rw [show min (out.length + 1) 800 = min out.length 800 by omega]; exact hF), hM, by first | exact hA.put _ hw8 | exact hA.pass _ hw8, by simp; omega, by simp only; rw [rd_more (by rw [htl]; exact hrm')]; exact hRS.step (x := 0) (by decide), .inl (head_snoc (hhd.imp id (fun h => ⟨h.1, by rw [h.2]⟩))), by simp only; omega, pow_step hk' hdv, (Nat.lt_or_ge e k).imp id (fun h => ⟨by simp only; omega, pow_end (by have : e = k := (by omega); rw [← this]; exact hdv)⟩)⟩, by simp only; omega⟩
 refine Rg (Mv 3 rfl ?_); intro a hF
 refine op_storeD hF hM rfl rfl rfl (by kernel_rfl) rfl rfl rfl (by decide) hl (dset_tr hl _) ?_; clear hF hM a; intro a w hF hM
 revert a; refine Md 0 [0,1,5,6,8] rfl (Nx (Rg (Mv 1 rfl (Gv rfl (fun _ hF => gives_sum hF rfl rfl rfl (((n % 2 ^ k * 10 : Nat) : Int)) rfl (by omega) (u64_in (by omega) (by omega)) _) (Md 1 [0,1,5,6,8] rfl (Nb (Kp [0,1,5,6,8] rfl ?_))))))); intro a hF
 exact ⟨(e + 1, r + 1, n % 2 ^ k * 10, out ++ [chr (n / 2 ^ k)]), ⟨_, _, by simp only [List.length_append, List.length_singleton]; first | (rw [show min (out.length + 1) 800 = out.length + 1 by omega]; exact hF) | (rw [show min (out.length + 1) 800 = min out.length 800 by omega]; exact hF), hM, by first | exact hA.put _ hw8 | exact hA.pass _ hw8, by simp; omega, by simp only; rw [rd_more (by rw [htl]; exact hrm')]; exact hRS.step (x := 0) (by decide), .inl (head_snoc (hhd.imp id (fun h => ⟨h.1, by rw [h.2]⟩))), by simp only; omega, pow_step hk' hdv, (Nat.lt_or_ge e k).imp id (fun h => ⟨by simp only; omega, pow_end (by have : e = k := (by omega); rw [← this]; exact hdv)⟩)⟩, by simp only; omega⟩
end Go.Sx
namespace Go.Sx
open Go.RowKit Go.Proofs Js Go.Proofs.YtelonenjneonlaaGreatDoorW.PrintWords
set_option maxRecDepth 100000 in
theorem shiftL_walk {B : Nat} {wc : World} {L : List Bk} {b : Nat} {ds : Str} {dp : Int} {neg tr : Bool} (hG : Glob B wc) {m k : Nat} (hD : Dec ds m) (h0 : 0 < m) (h1 : 1 ≤ k) (h2 : k ≤ 60) (hdp : -2 ^ 40 ≤ dp ∧ dp ≤ 2 ^ 40) {w0 : World} (hM0 : Mem B wc ((b, 240, decL ds m dp neg tr) :: L) w0) :
    Calls Tryz.prog 202 #[.pointer (some ⟨b, 0, none⟩), .int .i64 (k : Int)] w0 (Ret fun v w' => v = .tuple #[] ∧ ∃ (ds' out : Str) (m' : Nat) (tr' : Bool), Dec ds' m' ∧ 0 < m' ∧ Digs out ∧ out.length = m + ldel (ds.take m) k ∧ worth out = worth (ds.take m) * 2 ^ k ∧
      ds'.take m' = out.take m' ∧ ds'[0]? = out.head? ∧ m' ≤ min 800 (m + ldel (ds.take m) k) ∧ (∀ j, m' ≤ j → j < min 800 (m + ldel (ds.take m) k) → ds'[j]? = some 48) ∧ Mem B wc ((b, 240, decL ds' m' (dp + (ldel (ds.take m) k : Nat)) neg tr') :: L) w') := by
 have hM := hM0
 have hl := hD.len
 refine enter (l := [.pointer (some ⟨b, 0, none⟩), .int .i64 (k : Int)]) 35 Tryz.func202 rfl rfl (fun a hF => ?_)
 replace hF : Fr 37 [(0, .pointer (some ⟨b, 0, none⟩)), (1, .int .i64 (k : Int))] a := hF
 revert a; refine Bo (Sq (Rg (Mv 3 rfl (Gv rfl (fun _ hF => gives_load hF hM 0 rfl Tryz.underlying3 rfl rfl rfl (dget_nd hl)) (Md 2 [0,1,4] rfl (Nx (C1 rfl (fun ht => absurd ht (by simp; omega)) (Sq (Rg (Md 3 [0,1,10] rfl (Nx (D2 rfl (fun ht => absurd (of_decide_eq_false ht) (by omega)) (Sq (Bo (Kp [0,1] rfl ?_))))))))))))))); intro a hF
 refine loopX (fun (x : Unit) a w => Fr 37 [(0, .pointer (some ⟨b, 0, none⟩)), (1, .int .i64 (k : Int))] a ∧ Mem B wc ((b, 240, decL ds m dp neg tr) :: L) w) (fun _ => 0) (()) ?_ (fun x a w hI => ?_)
 · exact ⟨hF, hM⟩
 clear hF hM
 obtain ⟨hF, hM⟩ := hI
 revert a; refine Sq (Sq (Rg (Md 2 [0,1,14] rfl (Nx (C1 rfl (fun ht => absurd (of_decide_eq_true ht) (by omega)) (Ex (Ot (Ot (Ob (Nx (Rg (Mv 2 rfl (Gv rfl (fun _ hF => gives_conv hF rfl Tryz.underlying3 Tryz.underlying157 rfl (((k : Nat) : Int)) (u64_in (by omega) (by omega)) _) (Cl rfl Tryz.func236 (by kernel_rfl) rfl (leftShift_walk hG hD h0 h1 h2 hdp hM) ?_))))))))))))))
 clear hM; intro w v hR
 obtain ⟨rfl, hpost⟩ := hR
 exact Md 0 [] rfl (Nb (Z0 rfl ⟨_, rfl, rfl, hpost⟩))
set_option maxRecDepth 100000 in
theorem shiftR_walk {B : Nat} {wc : World} {L : List Bk} {b : Nat} {ds : Str} {dp : Int} {neg tr : Bool} {m k : Nat} (hD : Dec ds m) (h0 : 0 < m) (h1 : 1 ≤ k) (h2 : k ≤ 60) (hdp : -2 ^ 40 ≤ dp ∧ dp ≤ 2 ^ 40) {w0 : World} (hM0 : Mem B wc ((b, 240, decL ds m dp neg tr) :: L) w0) :
    Calls Tryz.prog 202 #[.pointer (some ⟨b, 0, none⟩), .int .i64 (-(k : Int))] w0 (Ret fun v w' => v = .tuple #[] ∧ ∃ (ds' out : Str) (m' r0 : Nat) (tr' : Bool), Dec ds' m' ∧ 0 < m' ∧ Digs out ∧ 1 ≤ r0 ∧ r0 ≤ 20 ∧ rd (ds.take m) (r0 - 1) < 2 ^ k ∧ 2 ^ k ≤ rd (ds.take m) r0 ∧
      rd (ds.take m) (r0 + out.length) = worth out * 2 ^ k * 10 ∧ ds'.take m' = out.take m' ∧ ds'[0]? = some (chr (rd (ds.take m) r0 / 2 ^ k)) ∧ m' ≤ min 800 out.length ∧ (∀ j, m' ≤ j → j < min 800 out.length → ds'[j]? = some 48) ∧ m ≤ r0 + out.length ∧
      Mem B wc ((b, 240, decL ds' m' (dp - (r0 - 1 : Nat)) neg tr') :: L) w') := by
 have hM := hM0
 have hl := hD.len
 refine enter (l := [.pointer (some ⟨b, 0, none⟩), .int .i64 (-(k : Int))]) 35 Tryz.func202 rfl rfl (fun a hF => ?_)
 replace hF : Fr 37 [(0, .pointer (some ⟨b, 0, none⟩)), (1, .int .i64 (-(k : Int)))] a := hF
 revert a; refine Bo (Sq (Rg (Mv 3 rfl (Gv rfl (fun _ hF => gives_load hF hM 0 rfl Tryz.underlying3 rfl rfl rfl (dget_nd hl)) (Md 2 [0,1,4] rfl (Nx (C1 rfl (fun ht => absurd ht (by simp; omega)) (Sq (Rg (Md 3 [0,1,10] rfl (Nx (C1 rfl (fun ht => absurd (of_decide_eq_true ht) (by omega)) (Sq (Rg (Md 3 [0,1,23] rfl (Nx (D2 rfl (fun ht => absurd (of_decide_eq_false ht) (by omega)) (Sq (Bo (Kp [0,1] rfl ?_)))))))))))))))))))); intro a hF
 refine loopX (fun (x : Unit) a w => Fr 37 [(0, .pointer (some ⟨b, 0, none⟩)), (1, .int .i64 (-(k : Int)))] a ∧ Mem B wc ((b, 240, decL ds m dp neg tr) :: L) w) (fun _ => 0) (()) ?_ (fun x a w hI => ?_)
 · exact ⟨hF, hM⟩
 clear hF hM
 obtain ⟨hF, hM⟩ := hI
 revert a; refine Sq (Sq (Rg (Md 2 [0,1,27] rfl (Nx (C1 rfl (fun ht => absurd (of_decide_eq_true ht) (by omega)) (Ex (Ot (Ot (Ob (Nx (Rg (Mv 2 rfl (Gv rfl (fun _ hF => gives_neg hF rfl rfl (((k : Nat) : Int)) (by rw [wrap_i64 (by omega) (by omega)]; omega) _) (Gv rfl (fun _ hF => gives_conv hF rfl Tryz.underlying3 Tryz.underlying157 rfl (((k : Nat) : Int)) (u64_in (by omega) (by omega)) _) (Cl rfl Tryz.func237 (by kernel_rfl) rfl (rightShift_walk hD h0 h1 h2 hdp hM) ?_)))))))))))))))
 clear hM; intro w v hR
 obtain ⟨rfl, hpost⟩ := hR
 exact Md 0 [] rfl (Nb (Z0 rfl ⟨_, rfl, rfl, hpost⟩))
set_option maxRecDepth 100000 in
theorem shiftFar_walk {B : Nat} {wc : World} {L : List Bk} {b : Nat} {ds : Str} {dp : Int} {neg tr : Bool} {m K : Nat} (hD : Dec ds m) (h0 : 0 < m) (h1 : 1 ≤ K) (h2 : K ≤ 2 ^ 20) (hdp : -2 ^ 30 ≤ dp ∧ dp ≤ 2 ^ 30) {w0 : World} (hM0 : Mem B wc ((b, 240, decL ds m dp neg tr) :: L) w0) :
    Calls Tryz.prog 202 #[.pointer (some ⟨b, 0, none⟩), .int .i64 (-(K : Int))] w0 (Ret fun v w' => v = .tuple #[] ∧ ∃ (ds' : Str) (m' : Nat) (dp' : Int) (tr' : Bool), Dec ds' m' ∧ 0 < m' ∧ dp' ≤ dp ∧ dp - 20 * (K : Int) ≤ dp' ∧ Mem B wc ((b, 240, decL ds' m' dp' neg tr') :: L) w') := by
 have hM := hM0
 have hl := hD.len
 refine enter (l := [.pointer (some ⟨b, 0, none⟩), .int .i64 (-(K : Int))]) 35 Tryz.func202 rfl rfl (fun a hF => ?_)
 replace hF : Fr 37 [(0, .pointer (some ⟨b, 0, none⟩)), (1, .int .i64 (-(K : Int)))] a := hF
 revert a; refine Bo (Sq (Rg (Mv 3 rfl (Gv rfl (fun _ hF => gives_load hF hM 0 rfl Tryz.underlying3 rfl rfl rfl (dget_nd hl)) (Md 2 [0,1,4] rfl (Nx (C1 rfl (fun ht => absurd ht (by simp; omega)) (Sq (Rg (Md 3 [0,1,10] rfl (Nx (C1 rfl (fun ht => absurd (of_decide_eq_true ht) (by omega)) (Sq (Rg (Md 3 [0,1,23] rfl (Nx (D2 rfl (fun ht => absurd (of_decide_eq_false ht) (by omega)) (Sq (Bo (Kp [0,1] rfl ?_)))))))))))))))))))); intro a hF
 refine loopX (fun (k : Nat) a w => ∃ (ds : Str) (m : Nat) (dq : Int) (tr : Bool), Fr 37 [(0, .pointer (some ⟨b, 0, none⟩)), (1, .int .i64 (-(k : Int)))] a ∧ Mem B wc ((b, 240, decL ds m dq neg tr) :: L) w ∧ Dec ds m ∧ 0 < m ∧ 1 ≤ k ∧ k ≤ K ∧ dq ≤ dp ∧ dp - 20 * ((K : Int) - k) ≤ dq) (fun k => k) (K) ?_ (fun k a w hI => ?_)
 · exact ⟨ds, m, dp, tr, hF, hM, hD, h0, h1, Nat.le_refl _, Int.le_refl _, by omega⟩
 clear hF hM
 clear hD h0 hl
 obtain ⟨ds, m, dq, tr, hF, hM, hD, h0, hk1, hkK, hdq1, hdq2⟩ := hI
 have hl := hD.len
 revert a; refine Sq (Sq (Rg (Md 2 [0,1,27] rfl (Nx (Ce rfl (fun ht => ?_) ((fun ht => ?_)))))))
 ·
  have h60 : k ≤ 60 := by have := of_decide_eq_false ht; omega
  refine Ex (Ot (Ot (Ob (Nx (Rg (Mv 2 rfl (Gv rfl (fun _ hF => gives_neg hF rfl rfl (((k : Nat) : Int)) (by rw [wrap_i64 (by omega) (by omega)]; omega) _) (Gv rfl (fun _ hF => gives_conv hF rfl Tryz.underlying3 Tryz.underlying157 rfl (((k : Nat) : Int)) (u64_in (by omega) (by omega)) _) (Cl rfl Tryz.func237 (by kernel_rfl) rfl (rightShift_walk (k := k) hD h0 hk1 h60 (by omega) hM) ?_)))))))))
  clear hM; intro w v hR
  obtain ⟨rfl, ds', out, m', r0, tr', hD', h0', _, hr1, hr20, _, _, _, _, _, _, _, _, hM⟩ := hR
  exact Md 0 [] rfl (Nb (Z0 rfl ⟨_, rfl, rfl, _, _, _, _, hD', h0', by omega, by omega, hM⟩))
 have h60 : 60 < k := by have := of_decide_eq_true ht; omega
 refine Sk (Nx (Bo (Sq (Rg (Mv 1 rfl (Cl rfl Tryz.func237 (by kernel_rfl) rfl (rightShift_walk (k := 60) hD h0 (by decide) (by decide) (by omega) hM) ?_))))))
 clear hM; intro w v hR
 obtain ⟨rfl, ds', out, m', r0, tr', hD', h0', _, hr1, hr20, _, _, _, _, _, _, _, _, hM⟩ := hR
 refine Md 0 [0,1] rfl (Nx (Rg (Mv 1 rfl (Sm (-((k - 60 : Nat) : Int)) rfl (by omega) (Md 1 [0,1] rfl (Nb (Kp [0,1] rfl ?_))))))); intro a hF
 exact ⟨k - 60, ⟨_, _, _, _, hF, hM, hD', h0', by omega, by omega, by omega, by omega⟩, by omega⟩
end Go.Sx
namespace Go.Sx
open Go.RowKit Go.Proofs Js Go.Proofs.YtelonenjneonlaaGreatDoorW.PrintWords
set_option maxRecDepth 100000 in
theorem shouldUp_walk {B : Nat} {wc : World} {L : List Bk} {b : Nat} {ds : Str} {dp : Int} {neg tr : Bool} {m : Nat} (hD : Dec ds m) (k : Int) {w0 : World} (hM0 : Mem B wc ((b, 240, decL ds m dp neg tr) :: L) w0) :
    Calls Tryz.prog 238 #[.pointer (some ⟨b, 0, none⟩), .int .i64 k] w0 (Ret fun v w' => (∃ up : Bool, v = .bool up) ∧ Mem B wc ((b, 240, decL ds m dp neg tr) :: L) w') := by
 have hM := hM0
 have hl := hD.len
 have hm := hD.le
 refine enter (l := [.pointer (some ⟨b, 0, none⟩), .int .i64 k]) 54 Tryz.func238 rfl rfl (fun a hF => ?_)
 replace hF : Fr 56 [(0, .pointer (some ⟨b, 0, none⟩)), (1, .int .i64 k)] a := hF
 revert a; refine Sq (Rg (Md 1 [0,1] rfl (Nx (Sq (Sq ?_)))))
 rcases (show k < 0 ∨ (0 ≤ k ∧ (m : Int) ≤ k) ∨ (0 ≤ k ∧ k < m) by omega) with hk | hk | hk
 · exact Rg (Mv 1 rfl (Bv rfl rfl (decide_eq_true (show k < 0 by omega)) (Md 8 [0,1,14] rfl (Nx (Ct rfl (Sq (Rg (Md 1 [4] rfl (Nx (Re (Rt (Y1 rfl rfl ⟨_, rfl, ⟨_, rfl⟩, hM⟩))))))))))))
 · exact Rg (Mv 1 rfl (Bv rfl rfl (decide_eq_false (show ¬ (k < 0) by omega)) (Mv 5 rfl (Gv rfl (fun _ hF => gives_load hF hM 0 rfl Tryz.underlying3 rfl rfl rfl (dget_nd hl)) (Bv rfl rfl (decide_eq_true (show k ≥ (m : Int) by omega)) (Md 1 [0,1,14] rfl (Nx (Ct rfl (Sq (Rg (Md 1 [4] rfl (Nx (Re (Rt (Y1 rfl rfl ⟨_, rfl, ⟨_, rfl⟩, hM⟩)))))))))))))))
 refine Rg (Mv 1 rfl (Bv rfl rfl (decide_eq_false (show ¬ (k < 0) by omega)) (Mv 5 rfl (Gv rfl (fun _ hF => gives_load hF hM 0 rfl Tryz.underlying3 rfl rfl rfl (dget_nd hl)) (Bv rfl rfl (decide_eq_false (show ¬ (k ≥ (m : Int)) by omega)) (Md 1 [0,1,14] rfl (Nx (Cd rfl (fun ht => ?_) ((fun ht => ?_))))))))))
 · cases ht
 obtain ⟨j, rfl⟩ : ∃ j : Nat, k = (j : Int) := ⟨k.toNat, by omega⟩
 have hjm : j < m := by omega
 obtain ⟨c, hc, hcd⟩ := hD.at hjm
 refine Sk (Nx (Sq (Sq ?_)))
 rcases (Classical.em (c = 53)) with h53 | h53
 ·
  refine Rg (Mv 4 rfl (Gv rfl (fun _ hF => gives_indexAddrD (j) hF rfl rfl rfl rfl (by omega) _) (Gv rfl (fun _ hF => gives_load hF hM 0 rfl Tryz.underlying5 rfl rfl rfl (dget_dig (hc))) (Bv rfl rfl (beq_t (d := 53) (z := 53) rfl h53) (Mv 2 rfl (Sm (((j + 1 : Nat) : Int)) rfl (by omega) (Mv 3 rfl (Gv rfl (fun _ hF => gives_load hF hM 0 rfl Tryz.underlying3 rfl rfl rfl (dget_nd hl)) (Md 2 [0,1,30] rfl (Nx (D0 rfl ?_ ?_)))))))))))
  · exact Sk (Nx (Sq (Rg (Mv 4 rfl (Gv rfl (fun _ hF => gives_indexAddrD (j) hF rfl rfl rfl rfl (by omega) _) (Gv rfl (fun _ hF => gives_load hF hM 0 rfl Tryz.underlying5 rfl rfl rfl (dget_dig (hc))) (Md 2 [4] rfl (Nx (Re (Y1 rfl rfl ⟨_, rfl, ⟨_, rfl⟩, hM⟩))))))))))
  refine Sq (Sq (Rg (Mv 3 rfl (Gv rfl (fun _ hF => gives_load hF hM 0 rfl Tryz.underlying4 rfl rfl rfl (dget_tr hl)) (Md 0 [0,1,34] rfl (Nx (C0 rfl ?_ ?_)))))))
  · exact Sq (Rg (Md 1 [4] rfl (Nx (Re (Rt (Rt (Y1 rfl rfl ⟨_, rfl, ⟨_, rfl⟩, hM⟩)))))))
  refine Sk (Nx (Sq ?_))
  rcases Nat.eq_zero_or_pos j with hj0 | hj0
  · exact Rg (Mv 1 rfl (Bv rfl rfl (decide_eq_false (show ¬ ((j : Int) > 0) by omega)) (Md 13 [4] rfl (Nx (Re (Rt (Y1 rfl rfl ⟨_, rfl, ⟨_, rfl⟩, hM⟩)))))))
  obtain ⟨c2, hc2, hcd2⟩ := hD.at (show j - 1 < m by omega)
  exact Rg (Mv 1 rfl (Bv rfl rfl (decide_eq_true (show (j : Int) > 0 by omega)) (Mv 3 rfl (Sm (((j - 1 : Nat) : Int)) rfl (by omega) (Mv 2 rfl (Gv rfl (fun _ hF => gives_indexAddrD (j - 1) hF rfl rfl rfl rfl (by omega) _) (Gv rfl (fun _ hF => gives_load hF hM 0 rfl Tryz.underlying5 rfl rfl rfl (dget_dig (hc2))) (Mv 1 rfl (Gv rfl (fun _ hF => gives_rem (_) hF rfl rfl rfl (by decide) rfl _) (Md 3 [4] rfl (Nx (Re (Rt (Y1 rfl rfl ⟨_, rfl, ⟨_, rfl⟩, hM⟩))))))))))))))
 exact Rg (Mv 4 rfl (Gv rfl (fun _ hF => gives_indexAddrD (j) hF rfl rfl rfl rfl (by omega) _) (Gv rfl (fun _ hF => gives_load hF hM 0 rfl Tryz.underlying5 rfl rfl rfl (dget_dig (hc))) (Bv rfl rfl (beq_f (d := 53) (z := 53) rfl h53) (Md 9 [0,1,30] rfl (Nx (Cf rfl (Sk (Nx (Sq (Rg (Mv 4 rfl (Gv rfl (fun _ hF => gives_indexAddrD (j) hF rfl rfl rfl rfl (by omega) _) (Gv rfl (fun _ hF => gives_load hF hM 0 rfl Tryz.underlying5 rfl rfl rfl (dget_dig (hc))) (Md 2 [4] rfl (Nx (Re (Y1 rfl rfl ⟨_, rfl, ⟨_, rfl⟩, hM⟩))))))))))))))))))
end Go.Sx
namespace Go.Sx
open Go.RowKit Go.Proofs Js Go.Proofs.YtelonenjneonlaaGreatDoorW.PrintWords
set_option maxRecDepth 100000 in
theorem rounded_walk {B : Nat} {wc : World} {L : List Bk} {b : Nat} {ds : Str} {dp : Int} {neg tr : Bool} {m : Nat} (hD : Dec ds m) {w0 : World} (hM0 : Mem B wc ((b, 240, decL ds m dp neg tr) :: L) w0) :
    Calls Tryz.prog 245 #[.pointer (some ⟨b, 0, none⟩)] w0 (Ret fun v w' => (∃ z : Int, v = .int .u64 z) ∧ Mem B wc ((b, 240, decL ds m dp neg tr) :: L) w') := by
 have hM := hM0
 have hl := hD.len
 have hm := hD.le
 refine enter (l := [.pointer (some ⟨b, 0, none⟩)]) 55 Tryz.func245 rfl rfl (fun a hF => ?_)
 replace hF : Fr 56 [(0, .pointer (some ⟨b, 0, none⟩))] a := hF
 revert a; refine Sq (Rg (Md 1 [0] rfl (Nx (Sq (Sq (Rg (Mv 3 rfl (Gv rfl (fun _ hF => gives_load hF hM 0 rfl Tryz.underlying3 rfl rfl rfl (dget_dp hl)) (Md 1 [0,9] rfl (Nx (C2 rfl ?_ ((fun ht => ?_)))))))))))))
 · exact Sq (Rg (Md 1 [2] rfl (Nx (Re (Rt (Y1 rfl rfl ⟨_, rfl, ⟨_, rfl⟩, hM⟩))))))
 have hdp := of_decide_eq_false ht
 refine Sk (Nx (Sq (Rg (Md 1 [0] rfl (Nx (Sq (Rg (Md 1 [0,4] rfl (Nx ?_))))))))); intro a hF
 refine cutF (fun a w => ∃ i : Nat, ∃ z : Int, Fr 56 [(0, .pointer (some ⟨b, 0, none⟩)), (3, .int .i64 (i : Int)), (4, .int .u64 z)] a ∧ Mem B wc ((b, 240, decL ds m dp neg tr) :: L) w ∧ i ≤ m) (fun a w h => ?_) ?_
 ·
  clear hF hM
  obtain ⟨i, z, hF, hM, him⟩ := h
  revert a; refine Sq (Bo (Kp [0,3,4] rfl ?_)); intro a hF
  refine loopX (fun (i : Nat) a w => ∃ z : Int, Fr 56 [(0, .pointer (some ⟨b, 0, none⟩)), (3, .int .i64 (i : Int)), (4, .int .u64 z)] a ∧ Mem B wc ((b, 240, decL ds m dp neg tr) :: L) w ∧ i ≤ m + 20) (fun i => m + 20 - i) (i) ?_ (fun i a w hI => ?_)
  · exact ⟨_, hF, hM, by omega⟩
  clear hF hM
  clear him
  obtain ⟨z, hF, hM, him⟩ := hI
  revert a; refine Sq (Sq (Rg (Mv 4 rfl (Gv rfl (fun _ hF => gives_load hF hM 0 rfl Tryz.underlying3 rfl rfl rfl (dget_dp hl)) (Md 1 [0,3,4,42] rfl (Nx (C1 rfl (fun ht => ?_) ?_)))))))
  ·
   have hlt := of_decide_eq_true ht
   refine Sk (Nx (Sq (Bo (Rg (Md 3 [0,3,4] rfl (Nb (Nx (Rg (Mv 1 rfl (Sm (((i + 1 : Nat) : Int)) rfl (by omega) (Md 1 [0,3,4] rfl ?_))))))))))); intro a hF
   exact ⟨i + 1, ⟨_, hF, hM, by omega⟩, by omega⟩
  refine Ex (Ot (Ot (Ob (Nx (Sq (Sq (Rg (Mv 4 rfl (Gv rfl (fun _ hF => gives_load hF hM 0 rfl Tryz.underlying3 rfl rfl rfl (dget_dp hl)) (Cl rfl Tryz.func238 (by kernel_rfl) rfl (shouldUp_walk hD dp hM) ?_))))))))))
  clear hM; intro w v hR
  obtain ⟨⟨up, rfl⟩, hM⟩ := hR
  refine Md 0 [4,52] rfl (Nx (D0 rfl ?_ ?_))
  · exact Sk (Nx (Sq (Rg (Md 2 [2] rfl (Nx (Re (Y1 rfl rfl ⟨_, rfl, ⟨_, rfl⟩, hM⟩)))))))
  exact Rg (Md 3 [4] rfl (Nx (Sq (Rg (Md 2 [2] rfl (Nx (Re (Y1 rfl rfl ⟨_, rfl, ⟨_, rfl⟩, hM⟩))))))))
 revert a; refine Sq (Rg (Md 1 [0,3,4] rfl (Nx (Bo (Kp [0,3,4] rfl ?_))))); intro a hF
 refine loopX (fun (i : Nat) a w => ∃ z : Int, Fr 56 [(0, .pointer (some ⟨b, 0, none⟩)), (3, .int .i64 (i : Int)), (4, .int .u64 z)] a ∧ Mem B wc ((b, 240, decL ds m dp neg tr) :: L) w ∧ i ≤ m) (fun i => m - i) (0) ?_ (fun i a w hI => ?_)
 · exact ⟨_, hF, hM, Nat.zero_le _⟩
 clear hF hM
 obtain ⟨z, hF, hM, him⟩ := hI
 revert a; refine Sq (Sq ?_)
 rcases (show dp ≤ (i : Int) ∨ ((i : Int) < dp ∧ i = m) ∨ ((i : Int) < dp ∧ i < m) by omega) with hk | hk | hk
 ·
  refine Rg (Mv 4 rfl (Gv rfl (fun _ hF => gives_load hF hM 0 rfl Tryz.underlying3 rfl rfl rfl (dget_dp hl)) (Bv rfl rfl (decide_eq_false (show ¬ ((i : Int) < dp) by omega)) (Md 8 [0,3,4,23] rfl (Nx (Cf rfl (Ex (Ot (Ot (Ob (Kp [0,3,4] rfl ?_))))))))))); intro a hF
  exact ⟨i, _, hF, hM, him⟩
 ·
  refine Rg (Mv 4 rfl (Gv rfl (fun _ hF => gives_load hF hM 0 rfl Tryz.underlying3 rfl rfl rfl (dget_dp hl)) (Bv rfl rfl (decide_eq_true (show (i : Int) < dp by omega)) (Mv 5 rfl (Gv rfl (fun _ hF => gives_load hF hM 0 rfl Tryz.underlying3 rfl rfl rfl (dget_nd hl)) (Bv rfl rfl (decide_eq_false (show ¬ ((i : Int) < (m : Int)) by omega)) (Md 1 [0,3,4,23] rfl (Nx (Cf rfl (Ex (Ot (Ot (Ob (Kp [0,3,4] rfl ?_)))))))))))))); intro a hF
  exact ⟨i, _, hF, hM, him⟩
 obtain ⟨c, hc, hcd⟩ := hD.at hk.2
 refine Rg (Mv 4 rfl (Gv rfl (fun _ hF => gives_load hF hM 0 rfl Tryz.underlying3 rfl rfl rfl (dget_dp hl)) (Bv rfl rfl (decide_eq_true (show (i : Int) < dp by omega)) (Mv 5 rfl (Gv rfl (fun _ hF => gives_load hF hM 0 rfl Tryz.underlying3 rfl rfl rfl (dget_nd hl)) (Bv rfl rfl (decide_eq_true (show (i : Int) < (m : Int) by omega)) (Md 1 [0,3,4,23] rfl (Nx (Ct rfl (Sk (Nx (Sq (Bo (Rg (Mv 6 rfl (Gv rfl (fun _ hF => gives_indexAddrD (i) hF rfl rfl rfl rfl (by omega) _) (Gv rfl (fun _ hF => gives_load hF hM 0 rfl Tryz.underlying5 rfl rfl rfl (dget_dig (hc))) (Md 4 [0,3,4] rfl (Nb (Nx (Rg (Mv 1 rfl (Sm (((i + 1 : Nat) : Int)) rfl (by omega) (Md 1 [0,3,4] rfl ?_)))))))))))))))))))))))); intro a hF
 exact ⟨i + 1, ⟨_, hF, hM, by omega⟩, by omega⟩
end Go.Sx
