/- Part 22 of the proof of FnGjJoinKeys: the statement Rows.FnGjJoinKeysCardSaid; no further condition. -/
import Derived.Test.YtelonenjneonlaaGreatDoorK21
set_option linter.all false
namespace Go.Sx
open Go.RowKit Go.Proofs Js Go.Proofs.YtelonenjneonlaaGreatDoorW.PrintWords
theorem dec_push {ds : Str} {m : Nat} {c : UInt8} (h : Dec ds m) (hm : m < 800) (hc : isDig c = true) (h0 : m = 0 → c ≠ 48) : Dec (ds.set m c) (m + 1) := by
  have hl := h.len
  refine ⟨by rw [List.length_set]; exact hl, hm, ?_, fun _ => ?_⟩
  · rw [List.take_add_one, List.take_set_of_le (Nat.le_refl _), List.getElem?_set_self (by omega)]
    intro x hx
    rcases List.mem_append.1 hx with hx | hx
    · exact h.digs x hx
    · simp at hx; rw [hx]; exact hc
  · rcases Nat.eq_zero_or_pos m with e | e
    · subst e
      rw [List.getElem?_set_self (by omega)]
      exact fun e => h0 rfl (Option.some.inj e)
    · rw [List.getElem?_set_ne (by omega)]
      exact h.head e
theorem dig_of {c : UInt8} (h1 : 48 ≤ c.toNat) (h2 : c.toNat ≤ 57) : isDig c = true := by simp [isDig, h1, h2]
set_option maxRecDepth 100000 in
theorem decSet_walk {B : Nat} {wc : World} {L : List Bk} {b : Nat} {ds : Str} {dp : Int} {neg tr : Bool} {m : Nat} (hD0 : Dec ds m) (s : Str) (hs : s.length ≤ 2 ^ 41) {w0 : World} (hM0 : Mem B wc ((b, 240, decL ds m dp neg tr) :: L) w0) :
    Calls Tryz.prog 212 #[.pointer (some ⟨b, 0, none⟩), .string (mkS s)] w0 (Ret fun v w' => (∃ ok : Bool, v = .bool ok) ∧ ∃ (ds' : Str) (m' : Nat) (dp' : Int) (neg' tr' : Bool), Dec ds' m' ∧ Mem B wc ((b, 240, decL ds' m' dp' neg' tr') :: L) w') := by
 have hM := hM0
 have hD := hD0
 have hl := hD.len
 refine enter (l := [.pointer (some ⟨b, 0, none⟩), .string (mkS s)]) 222 Tryz.func212 rfl rfl (fun a hF => ?_)
 replace hF : Fr 224 [(0, .pointer (some ⟨b, 0, none⟩)), (1, .string (mkS s))] a := hF
 revert a; refine Sq (Rg (Md 1 [0,1,4] rfl (Nx (Sq (Rg (Md 1 [0,1,4,5] rfl (Nx (Sq (Rg (Mv 3 rfl ?_)))))))))); intro a hF
 refine op_storeD hF hM rfl rfl rfl (by kernel_rfl) rfl rfl rfl (by decide) hl (dset_neg hl _) ?_; clear hF hM a; intro a w hF hM
 revert a; refine Md 0 [0,1,4,5] rfl (Nx (Sq (Rg (Mv 3 rfl ?_)))); intro a hF
 refine op_storeD hF hM rfl rfl rfl (by kernel_rfl) rfl rfl rfl (by decide) hl (dset_tr hl _) ?_; clear hF hM a; intro a w hF hM
 revert a; refine Md 0 [0,1,4,5] rfl (Nx (Sq (Sq (Rg (Md 4 [0,1,4,5,19] rfl (Nx (C2 rfl ?_ ((fun ht => ?_)))))))))
 · exact Re (Rt (Y1 rfl rfl ⟨_, rfl, ⟨_, rfl⟩, _, _, _, _, _, hD, hM⟩))
 have hlt0 : 0 < s.length := by have := of_decide_eq_false ht; omega
 obtain ⟨c0, hc0⟩ : ∃ c, s[0]? = some c := ⟨_, List.getElem?_eq_getElem hlt0⟩
 refine Sk (Nx ?_); intro a hF
 refine cut (fun a w => ∃ i : Nat, i ≤ s.length ∧ ∃ (ds : Str) (m : Nat) (dp : Int) (neg tr : Bool), Fr 224 [(0, .pointer (some ⟨b, 0, none⟩)), (1, .string (mkS s)), (4, .bool false), (5, .int .i64 (i : Int))] a ∧ Mem B wc ((b, 240, decL ds m dp neg tr) :: L) w ∧ Dec ds m) ?_ (fun a w h => ?_)
 ·
  revert a; refine Sq (Rg (Mv 2 rfl ?_)); intro a hF
  refine op_index_str hF rfl (0) c0 rfl rfl rfl Tryz.underlying9 rfl rfl (by first | rfl | omega) hc0 ?_; clear hF a; intro a hF
  revert a; refine Md 0 [0,1,4,5,22] rfl (Nx (Bo (Sq (Rg (Md 2 [0,1,4,5,22,23] rfl (Nx (C0 rfl ?_ ?_)))))))
  ·
   refine Rg (Mv 1 rfl (Sm (((1 : Nat) : Int)) rfl (by omega) (Md 1 [0,1,4,5] rfl (Nb (Kp [0,1,4,5] rfl ?_))))); intro a hF
   first | exact ⟨1, by omega, ⟨_, _, _, _, _, hF, hM, hD⟩⟩ | exact ⟨0, by omega, ⟨_, _, _, _, _, hF, hM, hD⟩⟩
  refine Sq (Rg (Md 2 [0,1,4,5,27] rfl (Nx (D0 rfl ?_ ?_))))
  ·
   refine Sk (Nb (Kp [0,1,4,5] rfl ?_)); intro a hF
   first | exact ⟨1, by omega, ⟨_, _, _, _, _, hF, hM, hD⟩⟩ | exact ⟨0, by omega, ⟨_, _, _, _, _, hF, hM, hD⟩⟩
  refine Sq (Rg (Mv 1 rfl (Sm (((1 : Nat) : Int)) rfl (by omega) (Md 1 [0,1,4,5] rfl (Nx (Rg (Mv 3 rfl ?_))))))); intro a hF
  refine op_storeD hF hM rfl rfl rfl (by kernel_rfl) rfl rfl rfl (by decide) hl (dset_neg hl _) ?_; clear hF hM a; intro a w hF hM
  revert a; refine Md 0 [0,1,4,5] rfl (Nb (Kp [0,1,4,5] rfl ?_)); intro a hF
  first | exact ⟨1, by omega, ⟨_, _, _, _, _, hF, hM, hD⟩⟩ | exact ⟨0, by omega, ⟨_, _, _, _, _, hF, hM, hD⟩⟩
 clear hF hM
 clear hD hl
 obtain ⟨i0, hi0, ds, m, dp, neg, tr, hF, hM, hD⟩ := h
 have hl := hD.len
 have hm := hD.le
 revert a; refine Sq (Rg (Md 1 [0,1,4,5,6] rfl (Nx (Sq (Rg (Md 1 [0,1,4,5,6,7] rfl (Nx ?_))))))); intro a hF
 refine cut (fun a w => ∃ (i : Nat) (sd sg : Bool), i ≤ s.length ∧ ∃ (ds : Str) (m : Nat) (dp : Int) (neg tr : Bool), Fr 224 [(0, .pointer (some ⟨b, 0, none⟩)), (1, .string (mkS s)), (4, .bool false), (5, .int .i64 (i : Int)), (6, .bool sd), (7, .bool sg)] a ∧ Mem B wc ((b, 240, decL ds m dp neg tr) :: L) w ∧ Dec ds m) ?_ (fun a w h => ?_)
 ·
  revert a; refine Bo (Kp [0,1,4,5,6,7] rfl ?_); intro a hF
  refine loopX (fun (i : Nat) a w => i ≤ s.length ∧ ∃ (sd sg : Bool), ∃ (ds : Str) (m : Nat) (dp : Int) (neg tr : Bool), Fr 224 [(0, .pointer (some ⟨b, 0, none⟩)), (1, .string (mkS s)), (4, .bool false), (5, .int .i64 (i : Int)), (6, .bool sd), (7, .bool sg)] a ∧ Mem B wc ((b, 240, decL ds m dp neg tr) :: L) w ∧ Dec ds m) (fun i => s.length - i) (i0) ?_ (fun i a w hI => ?_)
  · exact ⟨hi0, _, _, ⟨_, _, _, _, _, hF, hM, hD⟩⟩
  clear hF hM
  clear hD hl hm
  obtain ⟨hi, sd, sg, ds, m, dp, neg, tr, hF, hM, hD⟩ := hI
  have hl := hD.len
  have hm := hD.le
  revert a; refine Sq (Sq (Rg (Md 4 [0,1,4,5,6,7,37] rfl (Nx (D1 rfl ?_ ((fun ht => ?_)))))))
  ·
   refine Ex (Ot (Ot (Ob (Kp [0,1,4,5,6,7] rfl ?_)))); intro a hF
   exact ⟨i, _, _, hi, ⟨_, _, _, _, _, hF, hM, hD⟩⟩
  have hlt : i < s.length := by have := of_decide_eq_true ht; omega
  obtain ⟨c, hc⟩ : ∃ c, s[i]? = some c := ⟨_, List.getElem?_eq_getElem hlt⟩
  refine Sk (Nx (Sq (Bo (Sq (Bo (Sq (Rg (Mv 2 rfl ?_)))))))); intro a hF
  refine op_index_str hF rfl (i) c rfl rfl rfl Tryz.underlying9 rfl rfl (by first | rfl | omega) hc ?_; clear hF a; intro a hF
  revert a; refine Md 2 [0,1,4,5,6,7,40] rfl (Nx (C0 rfl ?_ ?_))
  ·
   refine Ex (Op' rfl (Ot (Ob (Nx (Rg (Mv 1 rfl (Sm (((i + 1 : Nat) : Int)) rfl (by omega) (Md 1 [0,1,4,5,6,7] rfl ?_)))))))); intro a hF
   exact ⟨i + 1, ⟨by omega, _, _, _, _, _, _, _, hF, hM, by first | exact hD2 | exact hD⟩, by omega⟩
  refine Sq (Rg (Mv 2 rfl ?_)); intro a hF
  refine op_index_str hF rfl (i) c rfl rfl rfl Tryz.underlying9 rfl rfl (by first | rfl | omega) hc ?_; clear hF a; intro a hF
  revert a; refine Md 2 [0,1,4,5,6,7,45] rfl (Nx (C0 rfl ?_ ?_))
  ·
   refine Sq (Sq (Rg (Md 1 [0,1,4,5,7,50] rfl (Nx (C0 rfl ?_ ?_)))))
   · exact Re (Rt (Rb (Rt (Rb (Rt (Rt (Rb (Rt (Y1 rfl rfl ⟨_, rfl, ⟨_, rfl⟩, _, _, _, _, _, hD, hM⟩)))))))))
   refine Sk (Nx (Sq (Rg (Md 1 [0,1,4,5,6,7] rfl (Nx (Sq (Rg (Mv 4 rfl (Gv rfl (fun _ hF => gives_load hF hM 0 rfl Tryz.underlying3 rfl rfl rfl (dget_nd hl)) (Mv 2 rfl ?_)))))))))); intro a hF
   refine op_storeD hF hM rfl rfl rfl (by kernel_rfl) rfl rfl rfl (by decide) hl (dset_dp hl _) ?_; clear hF hM a; intro a w hF hM
   revert a; refine Md 0 [0,1,4,5,6,7] rfl (Nx (Ex (Op' rfl (Ot (Ob (Nx (Rg (Mv 1 rfl (Sm (((i + 1 : Nat) : Int)) rfl (by omega) (Md 1 [0,1,4,5,6,7] rfl ?_)))))))))); intro a hF
   exact ⟨i + 1, ⟨by omega, _, _, _, _, _, _, _, hF, hM, by first | exact hD2 | exact hD⟩, by omega⟩
  refine Sq ?_
  rcases (show c.toNat < 48 ∨ (48 ≤ c.toNat ∧ 57 < c.toNat) ∨ (48 ≤ c.toNat ∧ c.toNat ≤ 57) by omega) with hk | hk | hk
  ·
   refine Rg (Mv 2 rfl ?_); intro a hF
   refine op_index_str hF rfl (i) c rfl rfl rfl Tryz.underlying9 rfl rfl (by first | rfl | omega) hc ?_; clear hF a; intro a hF
   revert a; refine Bv rfl rfl (decide_eq_false (show ¬ ((48 : Int) ≤ (c.toNat : Int)) by omega)) (Md 7 [0,1,4,5,6,7,58] rfl (Nx (Cf rfl (Sk (Nb (Nx (Ex (Op' rfl (Ot (Ot (Ob (Kp [0,1,4,5,6,7] rfl ?_)))))))))))); intro a hF
   exact ⟨i, _, _, hi, ⟨_, _, _, _, _, hF, hM, hD⟩⟩
  ·
   refine Rg (Mv 2 rfl ?_); intro a hF
   refine op_index_str hF rfl (i) c rfl rfl rfl Tryz.underlying9 rfl rfl (by first | rfl | omega) hc ?_; clear hF a; intro a hF
   revert a; refine Bv rfl rfl (decide_eq_true (show (48 : Int) ≤ (c.toNat : Int) by omega)) (Mv 3 rfl ?_); intro a hF
   refine guard_yes hF rfl rfl rfl rfl rfl rfl ?_
   refine op_index_str hF rfl (i) c rfl rfl rfl Tryz.underlying9 rfl rfl (by first | rfl | omega) hc ?_; clear hF a; intro a hF
   revert a; refine Bv rfl rfl (decide_eq_false (show ¬ ((c.toNat : Int) ≤ 57) by omega)) (Md 2 [0,1,4,5,6,7,58] rfl (Nx (Cf rfl (Sk (Nb (Nx (Ex (Op' rfl (Ot (Ot (Ob (Kp [0,1,4,5,6,7] rfl ?_)))))))))))); intro a hF
   exact ⟨i, _, _, hi, ⟨_, _, _, _, _, hF, hM, hD⟩⟩
  have hcd := dig_of hk.1 hk.2
  refine Rg (Mv 2 rfl ?_); intro a hF
  refine op_index_str hF rfl (i) c rfl rfl rfl Tryz.underlying9 rfl rfl (by first | rfl | omega) hc ?_; clear hF a; intro a hF
  revert a; refine Bv rfl rfl (decide_eq_true (show (48 : Int) ≤ (c.toNat : Int) by omega)) (Mv 3 rfl ?_); intro a hF
  refine guard_yes hF rfl rfl rfl rfl rfl rfl ?_
  refine op_index_str hF rfl (i) c rfl rfl rfl Tryz.underlying9 rfl rfl (by first | rfl | omega) hc ?_; clear hF a; intro a hF
  revert a; refine Bv rfl rfl (decide_eq_true (show (c.toNat : Int) ≤ 57 by omega)) (Md 2 [0,1,4,5,6,7,58] rfl (Nx (Ct rfl (Sq (Rg (Md 1 [0,1,4,5,6,7] rfl (Nx (Sq (Sq ?_)))))))))
  rcases (show c ≠ 48 ∨ (c = 48 ∧ m = 0) ∨ (c = 48 ∧ 0 < m) from (Classical.em (c = 48)).elim (fun h => .inr ((Nat.eq_zero_or_pos m).imp (fun h' => ⟨h, h'⟩) (fun h' => ⟨h, h'⟩))) (fun h => .inl h)) with h48 | h48 | h48
  ·
   have hz : m = 0 → c ≠ 48 := fun _ => h48
   refine Rg (Mv 2 rfl ?_); intro a hF
   refine op_index_str hF rfl (i) c rfl rfl rfl Tryz.underlying9 rfl rfl (by first | rfl | omega) hc ?_; clear hF a; intro a hF
   revert a; refine Bv rfl rfl (beq_f (d := 48) (z := 48) rfl h48) (Md 7 [0,1,4,5,6,7,79] rfl (Nx (Cf rfl (Sk (Nx (Sq (Sq (Rg (Mv 3 rfl (Gv rfl (fun _ hF => gives_load hF hM 0 rfl Tryz.underlying3 rfl rfl rfl (dget_nd hl)) (Md 1 [0,1,4,5,6,7,91] rfl (Nx (C1 rfl (fun ht => ?_) ?_)))))))))))))
   ·
    have hm8 : m < 800 := by have := of_decide_eq_true ht; omega
    have hD2 := dec_push hD hm8 hcd hz
    refine Sq (Su 11 (by kernel_rfl) (by kernel_rfl) ?_)
    replace hM := hM.drew
    skip
    refine Ms 4 rfl (Gs rfl (fun _ hF => gives_load hF hM 0 rfl Tryz.underlying3 rfl rfl rfl (dget_nd hl)) (Ms 2 rfl (Is (i) c rfl hc (by omega) (Ms 2 rfl (Gs rfl (fun _ hF => gives_indexAddrD (m) hF rfl rfl rfl rfl (by omega) _) (Sd ?_)))))); intro a hF
    simp only [List.drop_succ_cons, List.drop_zero]
    refine op_storeD hF hM rfl rfl rfl (by kernel_rfl) rfl rfl rfl (by omega) hl (dset_dig hl (by omega) rfl) ?_; clear hF hM a; intro a w hF hM
    have hl := hD2.len
    revert a; refine Md 0 [0,1,4,5,6,7] rfl (Nx (Rg (Mv 3 rfl (Gv rfl (fun _ hF => gives_load hF hM 0 rfl Tryz.underlying3 rfl rfl rfl (dget_nd hl)) (Sm (((m + 1 : Nat) : Int)) rfl (by omega) (Mv 2 rfl ?_)))))); intro a hF
    refine op_storeD hF hM rfl rfl rfl (by kernel_rfl) rfl rfl rfl (by decide) hl (dset_nd hl _) ?_; clear hF hM a; intro a w hF hM
    revert a; refine Md 0 [0,1,4,5,6,7] rfl (Nx (Ex (Op' rfl (Ot (Ob (Nx (Rg (Mv 1 rfl (Sm (((i + 1 : Nat) : Int)) rfl (by omega) (Md 1 [0,1,4,5,6,7] rfl ?_)))))))))); intro a hF
    exact ⟨i + 1, ⟨by omega, _, _, _, _, _, _, _, hF, hM, by first | exact hD2 | exact hD⟩, by omega⟩
   refine Sq (Rg (Mv 2 rfl ?_)); intro a hF
   refine op_index_str hF rfl (i) c rfl rfl rfl Tryz.underlying9 rfl rfl (by first | rfl | omega) hc ?_; clear hF a; intro a hF
   revert a; refine Md 1 [0,1,4,5,6,7,113] rfl (Nx (D0 rfl ?_ ?_))
   ·
    refine Sk (Nx (Ex (Op' rfl (Ot (Ob (Nx (Rg (Mv 1 rfl (Sm (((i + 1 : Nat) : Int)) rfl (by omega) (Md 1 [0,1,4,5,6,7] rfl ?_)))))))))); intro a hF
    exact ⟨i + 1, ⟨by omega, _, _, _, _, _, _, _, hF, hM, by first | exact hD2 | exact hD⟩, by omega⟩
   refine Rg (Mv 3 rfl ?_); intro a hF
   refine op_storeD hF hM rfl rfl rfl (by kernel_rfl) rfl rfl rfl (by decide) hl (dset_tr hl _) ?_; clear hF hM a; intro a w hF hM
   revert a; refine Md 0 [0,1,4,5,6,7] rfl (Nx (Ex (Op' rfl (Ot (Ob (Nx (Rg (Mv 1 rfl (Sm (((i + 1 : Nat) : Int)) rfl (by omega) (Md 1 [0,1,4,5,6,7] rfl ?_)))))))))); intro a hF
   exact ⟨i + 1, ⟨by omega, _, _, _, _, _, _, _, hF, hM, by first | exact hD2 | exact hD⟩, by omega⟩
  ·
   refine Rg (Mv 2 rfl ?_); intro a hF
   refine op_index_str hF rfl (i) c rfl rfl rfl Tryz.underlying9 rfl rfl (by first | rfl | omega) hc ?_; clear hF a; intro a hF
   revert a; refine Bv rfl rfl (beq_t (d := 48) (z := 48) rfl h48.1) (Mv 4 rfl (Gv rfl (fun _ hF => gives_load hF hM 0 rfl Tryz.underlying3 rfl rfl rfl (dget_nd hl)) (Mv 1 rfl ?_))); intro a hF
   rw [show ((m : Int) == 0) = true by simp; omega] at hF
   revert a; refine Md 1 [0,1,4,5,6,7,79] rfl (Nx (Ct rfl (Sq (Rg (Mv 3 rfl (Gv rfl (fun _ hF => gives_load hF hM 0 rfl Tryz.underlying3 rfl rfl rfl (dget_dp hl)) (Mv 3 rfl ?_))))))); intro a hF
   refine op_storeD hF hM rfl rfl rfl (by kernel_rfl) rfl rfl rfl (by decide) hl (dset_dp hl _) ?_; clear hF hM a; intro a w hF hM
   revert a; refine Md 0 [0,1,4,5,6,7] rfl (Nx (Ex (Ot (Op' rfl (Ot (Ob (Nx (Rg (Mv 1 rfl (Sm (((i + 1 : Nat) : Int)) rfl (by omega) (Md 1 [0,1,4,5,6,7] rfl ?_))))))))))); intro a hF
   exact ⟨i + 1, ⟨by omega, _, _, _, _, _, _, _, hF, hM, by first | exact hD2 | exact hD⟩, by omega⟩
  have hz : m = 0 → c ≠ 48 := fun h => absurd h (by omega)
  refine Rg (Mv 2 rfl ?_); intro a hF
  refine op_index_str hF rfl (i) c rfl rfl rfl Tryz.underlying9 rfl rfl (by first | rfl | omega) hc ?_; clear hF a; intro a hF
  revert a; refine Bv rfl rfl (beq_t (d := 48) (z := 48) rfl h48.1) (Mv 4 rfl (Gv rfl (fun _ hF => gives_load hF hM 0 rfl Tryz.underlying3 rfl rfl rfl (dget_nd hl)) (Mv 1 rfl ?_))); intro a hF
  rw [show ((m : Int) == 0) = false by simp; omega] at hF
  revert a; refine Md 1 [0,1,4,5,6,7,79] rfl (Nx (Cf rfl (Sk (Nx (Sq (Sq (Rg (Mv 3 rfl (Gv rfl (fun _ hF => gives_load hF hM 0 rfl Tryz.underlying3 rfl rfl rfl (dget_nd hl)) (Md 1 [0,1,4,5,6,7,91] rfl (Nx (C1 rfl (fun ht => ?_) ?_))))))))))))
  ·
   have hm8 : m < 800 := by have := of_decide_eq_true ht; omega
   have hD2 := dec_push hD hm8 hcd hz
   refine Sq (Su 11 (by kernel_rfl) (by kernel_rfl) ?_)
   replace hM := hM.drew
   skip
   refine Ms 4 rfl (Gs rfl (fun _ hF => gives_load hF hM 0 rfl Tryz.underlying3 rfl rfl rfl (dget_nd hl)) (Ms 2 rfl (Is (i) c rfl hc (by omega) (Ms 2 rfl (Gs rfl (fun _ hF => gives_indexAddrD (m) hF rfl rfl rfl rfl (by omega) _) (Sd ?_)))))); intro a hF
   simp only [List.drop_succ_cons, List.drop_zero]
   refine op_storeD hF hM rfl rfl rfl (by kernel_rfl) rfl rfl rfl (by omega) hl (dset_dig hl (by omega) rfl) ?_; clear hF hM a; intro a w hF hM
   have hl := hD2.len
   revert a; refine Md 0 [0,1,4,5,6,7] rfl (Nx (Rg (Mv 3 rfl (Gv rfl (fun _ hF => gives_load hF hM 0 rfl Tryz.underlying3 rfl rfl rfl (dget_nd hl)) (Sm (((m + 1 : Nat) : Int)) rfl (by omega) (Mv 2 rfl ?_)))))); intro a hF
   refine op_storeD hF hM rfl rfl rfl (by kernel_rfl) rfl rfl rfl (by decide) hl (dset_nd hl _) ?_; clear hF hM a; intro a w hF hM
   revert a; refine Md 0 [0,1,4,5,6,7] rfl (Nx (Ex (Op' rfl (Ot (Ob (Nx (Rg (Mv 1 rfl (Sm (((i + 1 : Nat) : Int)) rfl (by omega) (Md 1 [0,1,4,5,6,7] rfl ?_)))))))))); intro a hF
   exact ⟨i + 1, ⟨by omega, _, _, _, _, _, _, _, hF, hM, by first | exact hD2 | exact hD⟩, by omega⟩
  refine Sq (Rg (Mv 2 rfl ?_)); intro a hF
  refine op_index_str hF rfl (i) c rfl rfl rfl Tryz.underlying9 rfl rfl (by first | rfl | omega) hc ?_; clear hF a; intro a hF
  revert a; refine Md 1 [0,1,4,5,6,7,113] rfl (Nx (D0 rfl ?_ ?_))
  ·
   refine Sk (Nx (Ex (Op' rfl (Ot (Ob (Nx (Rg (Mv 1 rfl (Sm (((i + 1 : Nat) : Int)) rfl (by omega) (Md 1 [0,1,4,5,6,7] rfl ?_)))))))))); intro a hF
   exact ⟨i + 1, ⟨by omega, _, _, _, _, _, _, _, hF, hM, by first | exact hD2 | exact hD⟩, by omega⟩
  refine Rg (Mv 3 rfl ?_); intro a hF
  refine op_storeD hF hM rfl rfl rfl (by kernel_rfl) rfl rfl rfl (by decide) hl (dset_tr hl _) ?_; clear hF hM a; intro a w hF hM
  revert a; refine Md 0 [0,1,4,5,6,7] rfl (Nx (Ex (Op' rfl (Ot (Ob (Nx (Rg (Mv 1 rfl (Sm (((i + 1 : Nat) : Int)) rfl (by omega) (Md 1 [0,1,4,5,6,7] rfl ?_)))))))))); intro a hF
  exact ⟨i + 1, ⟨by omega, _, _, _, _, _, _, _, hF, hM, by first | exact hD2 | exact hD⟩, by omega⟩
 clear hF hM
 clear hD hl hm
 obtain ⟨i, sd, sg, hi, ds, m, dp, neg, tr, hF, hM, hD⟩ := h
 have hl := hD.len
 have hm := hD.le
 revert a; refine Sq (Sq (Rg (Md 2 [0,1,4,5,6,118] rfl (Nx (C0 rfl ?_ ?_)))))
 · exact Re (Rt (Y1 rfl rfl ⟨_, rfl, ⟨_, rfl⟩, _, _, _, _, _, hD, hM⟩))
 refine Sk (Nx ?_); intro a hF
 refine cut (fun a w => ∃ (ds : Str) (m : Nat) (dp : Int) (neg tr : Bool), Fr 224 [(0, .pointer (some ⟨b, 0, none⟩)), (1, .string (mkS s)), (4, .bool false), (5, .int .i64 (i : Int))] a ∧ Mem B wc ((b, 240, decL ds m dp neg tr) :: L) w ∧ Dec ds m) ?_ (fun a w h => ?_)
 ·
  revert a; refine Sq (Rg (Md 2 [0,1,4,5,120] rfl (Nx (D0 rfl ?_ ?_))))
  ·
   refine Sk (Kp [0,1,4,5] rfl ?_); intro a hF
   exact ⟨_, _, _, _, _, hF, hM, hD⟩
  refine Rg (Mv 4 rfl (Gv rfl (fun _ hF => gives_load hF hM 0 rfl Tryz.underlying3 rfl rfl rfl (dget_nd hl)) (Mv 2 rfl ?_))); intro a hF
  refine op_storeD hF hM rfl rfl rfl (by kernel_rfl) rfl rfl rfl (by decide) hl (dset_dp hl _) ?_; clear hF hM a; intro a w hF hM
  revert a; refine Md 0 [0,1,4,5] rfl ?_; intro a hF
  exact ⟨_, _, _, _, _, hF, hM, hD⟩
 clear hF hM
 clear hD hl hm
 obtain ⟨ds, m, dp, neg, tr, hF, hM, hD⟩ := h
 have hl := hD.len
 have hm := hD.le
 refine cutF (fun a w => ∃ x : Int, ∃ (ds : Str) (m : Nat) (dp : Int) (neg tr : Bool), Fr 224 [(0, .pointer (some ⟨b, 0, none⟩)), (1, .string (mkS s)), (4, .bool false), (5, .int .i64 x)] a ∧ Mem B wc ((b, 240, decL ds m dp neg tr) :: L) w ∧ Dec ds m) (fun a w h => ?_) ?_
 ·
  clear hF hM
  clear hD hl hm
  obtain ⟨x, ds, m, dp, neg, tr, hF, hM, hD⟩ := h
  have hl := hD.len
  have hm := hD.le
  revert a; refine Sq (Sq (Rg (Md 4 [4,223] rfl (Nx (C0 rfl ?_ ?_)))))
  · exact Re (Rt (Y1 rfl rfl ⟨_, rfl, ⟨_, rfl⟩, _, _, _, _, _, hD, hM⟩))
  exact Sk (Nx (Sq (Rg (Md 1 [4] rfl (Nx (Re (Y1 rfl rfl ⟨_, rfl, ⟨_, rfl⟩, _, _, _, _, _, hD, hM⟩)))))))
 revert a; refine Sq ?_
 rcases Nat.lt_or_ge i s.length with hlt | hge
 ·
  obtain ⟨c, hc⟩ : ∃ c, s[i]? = some c := ⟨_, List.getElem?_eq_getElem hlt⟩
  refine Rg (Mv 3 rfl (Bv rfl rfl (decide_eq_true (show (i : Int) < (s.length : Int) by omega)) (Mv 3 rfl ?_))); intro a hF
  refine guard_yes hF rfl rfl rfl rfl rfl rfl ?_
  refine op_index_str hF rfl (i) c rfl rfl rfl Tryz.underlying9 rfl rfl (by first | rfl | omega) hc ?_; clear hF a; intro a hF
  revert a; refine Cm hM rfl Tryz.func128 (by kernel_rfl) rfl (lower_walk c w) ?_
  clear hM; intro w v hR hM hBe
  obtain rfl := hR
  refine Md 2 [0,1,4,5,138] rfl (Nx (D0 rfl ?_ ?_))
  ·
   refine Sk (Kp [0,1,4,5] rfl ?_); intro a hF
   exact ⟨_, ⟨_, _, _, _, _, hF, hM, hD⟩⟩
  refine Sq (Rg (Mv 1 rfl (Sm (((i + 1 : Nat) : Int)) rfl (by omega) (Md 1 [0,1,4,5] rfl (Nx (Sq (Sq (Rg (Md 4 [0,1,4,5,144] rfl (Nx (C2 rfl ?_ ((fun ht => ?_)))))))))))))
  · exact Re (Rt (Rt (Y1 rfl rfl ⟨_, rfl, ⟨_, rfl⟩, _, _, _, _, _, hD, hM⟩)))
  have hlt1 : i + 1 < s.length := by have := of_decide_eq_false ht; omega
  obtain ⟨c1, hc1⟩ : ∃ c, s[i + 1]? = some c := ⟨_, List.getElem?_eq_getElem hlt1⟩
  refine Sk (Nx (Sq (Rg (Md 1 [0,1,4,5,8] rfl (Nx ?_))))); intro a hF
  refine cut (fun a w => ∃ (i : Nat) (es : Int), i ≤ s.length ∧ ∃ (ds : Str) (m : Nat) (dp : Int) (neg tr : Bool), Fr 224 [(0, .pointer (some ⟨b, 0, none⟩)), (1, .string (mkS s)), (4, .bool false), (5, .int .i64 (i : Int)), (8, .int .i64 es)] a ∧ Mem B wc ((b, 240, decL ds m dp neg tr) :: L) w ∧ Dec ds m) ?_ (fun a w h => ?_)
  ·
   revert a; refine Sq (Rg (Mv 2 rfl ?_)); intro a hF
   refine op_index_str hF rfl (i + 1) c1 rfl rfl rfl Tryz.underlying9 rfl rfl (by first | rfl | omega) hc1 ?_; clear hF a; intro a hF
   revert a; refine Md 0 [0,1,4,5,8,147] rfl (Nx (Bo (Sq (Rg (Md 2 [0,1,4,5,8,147,148] rfl (Nx (C0 rfl ?_ ?_)))))))
   ·
    refine Rg (Mv 1 rfl (Sm (((i + 1 + 1 : Nat) : Int)) rfl (by omega) (Md 1 [0,1,4,5,8] rfl (Nb (Kp [0,1,4,5,8] rfl ?_))))); intro a hF
    first | exact ⟨i + 1 + 1, _, by omega, ⟨_, _, _, _, _, hF, hM, hD⟩⟩ | exact ⟨i + 1, _, by omega, ⟨_, _, _, _, _, hF, hM, hD⟩⟩
   refine Sq (Rg (Md 2 [0,1,4,5,8,152] rfl (Nx (D0 rfl ?_ ?_))))
   ·
    refine Sk (Nb (Kp [0,1,4,5,8] rfl ?_)); intro a hF
    first | exact ⟨i + 1 + 1, _, by omega, ⟨_, _, _, _, _, hF, hM, hD⟩⟩ | exact ⟨i + 1, _, by omega, ⟨_, _, _, _, _, hF, hM, hD⟩⟩
   refine Sq (Rg (Mv 1 rfl (Sm (((i + 1 + 1 : Nat) : Int)) rfl (by omega) (Md 1 [0,1,4,5] rfl (Nx (Rg (Md 1 [0,1,4,5,8] rfl (Nb (Kp [0,1,4,5,8] rfl ?_))))))))); intro a hF
   first | exact ⟨i + 1 + 1, _, by omega, ⟨_, _, _, _, _, hF, hM, hD⟩⟩ | exact ⟨i + 1, _, by omega, ⟨_, _, _, _, _, hF, hM, hD⟩⟩
  clear hF hM
  clear hD hl hm
  obtain ⟨i1, es, hi1, ds, m, dp, neg, tr, hF, hM, hD⟩ := h
  have hl := hD.len
  have hm := hD.le
  revert a; refine Sq (Sq ?_)
  rcases Nat.lt_or_ge i1 s.length with hlt2 | hge2
  ·
   obtain ⟨c2, hc2⟩ : ∃ c, s[i1]? = some c := ⟨_, List.getElem?_eq_getElem (by omega)⟩
   have hx : True := trivial
   rcases (show c2.toNat < 48 ∨ (48 ≤ c2.toNat) by omega) with hk2 | hk2
   ·
    refine Rg (Mv 3 rfl (Bv rfl rfl (decide_eq_false (show ¬ ((i1 : Int) ≥ (s.length : Int)) by omega)) (Mv 3 rfl ?_))); intro a hF
    refine guard_yes hF rfl rfl rfl rfl rfl rfl ?_
    refine op_index_str hF rfl (i1) c2 rfl rfl rfl Tryz.underlying9 rfl rfl (by first | rfl | omega) hc2 ?_; clear hF a; intro a hF
    revert a; exact Bv rfl rfl (decide_eq_true (show (c2.toNat : Int) < 48 by omega)) (Md 7 [0,1,4,5,8,171] rfl (Nx (Ct rfl (Re (Rt (Rt (Y1 rfl rfl ⟨_, rfl, ⟨_, rfl⟩, _, _, _, _, _, hD, hM⟩)))))))
   refine Rg (Mv 3 rfl (Bv rfl rfl (decide_eq_false (show ¬ ((i1 : Int) ≥ (s.length : Int)) by omega)) (Mv 3 rfl ?_))); intro a hF
   refine guard_yes hF rfl rfl rfl rfl rfl rfl ?_
   refine op_index_str hF rfl (i1) c2 rfl rfl rfl Tryz.underlying9 rfl rfl (by first | rfl | omega) hc2 ?_; clear hF a; intro a hF
   revert a; refine Bv rfl rfl (decide_eq_false (show ¬ ((c2.toNat : Int) < 48) by omega)) (Mv 4 rfl ?_); intro a hF
   refine guard_yes hF rfl rfl rfl rfl rfl rfl ?_
   refine op_index_str hF rfl (i1) c2 rfl rfl rfl Tryz.underlying9 rfl rfl (by first | rfl | omega) hc2 ?_; clear hF a; intro a hF
   revert a; refine Md 2 [0,1,4,5,8,171] rfl (Nx (C0 rfl ?_ ?_))
   · exact Re (Rt (Rt (Y1 rfl rfl ⟨_, rfl, ⟨_, rfl⟩, _, _, _, _, _, hD, hM⟩)))
   refine Sk (Nx (Sq (Rg (Md 1 [0,1,4,5,8,9] rfl (Nx (Sq (Bo (Kp [0,1,4,5,8,9] rfl ?_)))))))); intro a hF
   refine loopX (fun (i : Nat) a w => i ≤ s.length ∧ ∃ e : Int, ∃ (ds : Str) (m : Nat) (dp : Int) (neg tr : Bool), Fr 224 [(0, .pointer (some ⟨b, 0, none⟩)), (1, .string (mkS s)), (4, .bool false), (5, .int .i64 (i : Int)), (8, .int .i64 es), (9, .int .i64 e)] a ∧ Mem B wc ((b, 240, decL ds m dp neg tr) :: L) w ∧ Dec ds m) (fun i => s.length - i) (i1) ?_ (fun i a w hI => ?_)
   · exact ⟨hi1, _, ⟨_, _, _, _, _, hF, hM, hD⟩⟩
   clear hF hM
   clear hD hl hm
   obtain ⟨hi, e, ds, m, dp, neg, tr, hF, hM, hD⟩ := hI
   have hl := hD.len
   have hm := hD.le
   revert a; refine Sq (Sq ?_)
   rcases (show s.length ≤ i ∨ (i < s.length ∧ ∃ c, s[i]? = some c ∧ c.toNat < 48) ∨ (i < s.length ∧ ∃ c, s[i]? = some c ∧ 48 ≤ c.toNat ∧ c.toNat ≤ 57) ∨ (i < s.length ∧ ∃ c, s[i]? = some c ∧ 48 ≤ c.toNat ∧ 57 < c.toNat) from (Nat.lt_or_ge i s.length).elim (fun h => .inr (by have hg : s[i]? = some (s[i]) := List.getElem?_eq_getElem h; rcases (show (s[i]).toNat < 48 ∨ (48 ≤ (s[i]).toNat ∧ (s[i]).toNat ≤ 57) ∨ (48 ≤ (s[i]).toNat ∧ 57 < (s[i]).toNat) by omega) with h1 | h1 | h1; exact .inl ⟨h, _, hg, h1⟩; exact .inr (.inl ⟨h, _, hg, h1⟩); exact .inr (.inr ⟨h, _, hg, h1⟩))) (fun h => .inl h)) with hlt | ⟨hlt, c, hc, hk⟩ | ⟨hlt, c, hc, hk⟩ | ⟨hlt, c, hc, hk⟩
   ·
    refine Rg (Mv 3 rfl (Bv rfl rfl (decide_eq_false (show ¬ ((i : Int) < (s.length : Int)) by omega)) (Md 18 [0,1,4,5,8,9,193] rfl (Nx (Cf rfl (Ex (Ot (Ot (Ob (Nx (Rg (Mv 3 rfl (Gv rfl (fun _ hF => gives_load hF hM 0 rfl Tryz.underlying3 rfl rfl rfl (dget_dp hl)) (Mv 6 rfl ?_)))))))))))))); intro a hF
    refine op_storeD hF hM rfl rfl rfl (by kernel_rfl) rfl rfl rfl (by decide) hl (dset_dp hl _) ?_; clear hF hM a; intro a w hF hM
    revert a; refine Md 0 [0,1,4,5] rfl ?_; intro a hF
    exact ⟨_, ⟨_, _, _, _, _, hF, hM, hD⟩⟩
   ·
    refine Rg (Mv 3 rfl (Bv rfl rfl (decide_eq_true (show (i : Int) < (s.length : Int) by omega)) (Mv 3 rfl ?_))); intro a hF
    refine guard_yes hF rfl rfl rfl rfl rfl rfl ?_
    refine op_index_str hF rfl (i) c rfl rfl rfl Tryz.underlying9 rfl rfl (by first | rfl | omega) hc ?_; clear hF a; intro a hF
    revert a; refine Bv rfl rfl (decide_eq_false (show ¬ ((48 : Int) ≤ (c.toNat : Int)) by omega)) (Mv 9 rfl ?_); intro a hF
    refine guard_yes hF rfl rfl rfl rfl rfl rfl ?_
    refine op_index_str hF rfl (i) c rfl rfl rfl Tryz.underlying9 rfl rfl (by first | rfl | omega) hc ?_; clear hF a; intro a hF
    revert a; refine Md 3 [0,1,4,5,8,9,193] rfl (Nx (D0 rfl ?_ ?_))
    ·
     refine Ex (Ot (Ot (Ob (Nx (Rg (Mv 3 rfl (Gv rfl (fun _ hF => gives_load hF hM 0 rfl Tryz.underlying3 rfl rfl rfl (dget_dp hl)) (Mv 6 rfl ?_)))))))); intro a hF
     refine op_storeD hF hM rfl rfl rfl (by kernel_rfl) rfl rfl rfl (by decide) hl (dset_dp hl _) ?_; clear hF hM a; intro a w hF hM
     revert a; refine Md 0 [0,1,4,5] rfl ?_; intro a hF
     exact ⟨_, ⟨_, _, _, _, _, hF, hM, hD⟩⟩
    refine Sk (Nx (Sq (Bo (Sq (Sq (Rg (Mv 2 rfl ?_))))))); intro a hF
    refine op_index_str hF rfl (i) c rfl rfl rfl Tryz.underlying9 rfl rfl (by first | rfl | omega) hc ?_; clear hF a; intro a hF
    revert a; refine Md 1 [0,1,4,5,8,9,199] rfl (Nx (C0 rfl ?_ ?_))
    ·
     refine Ex (Ot (Ob (Nx (Rg (Mv 1 rfl (Sm (((i + 1 : Nat) : Int)) rfl (by omega) (Md 1 [0,1,4,5,8,9] rfl ?_))))))); intro a hF
     exact ⟨i + 1, ⟨by omega, _, ⟨_, _, _, _, _, hF, hM, hD⟩⟩, by omega⟩
    refine Sk (Nx (Sq (Rg (Md 2 [0,1,4,5,8,9,201] rfl (Nx (D0 rfl ?_ ?_))))))
    ·
     refine Sk (Nb (Nx (Rg (Mv 1 rfl (Sm (((i + 1 : Nat) : Int)) rfl (by omega) (Md 1 [0,1,4,5,8,9] rfl ?_)))))); intro a hF
     exact ⟨i + 1, ⟨by omega, _, ⟨_, _, _, _, _, hF, hM, hD⟩⟩, by omega⟩
    refine Rg (Mv 4 rfl ?_); intro a hF
    refine op_index_str hF rfl (i) c rfl rfl rfl Tryz.underlying9 rfl rfl (by first | rfl | omega) hc ?_; clear hF a; intro a hF
    revert a; refine Md 4 [0,1,4,5,8,9] rfl (Nb (Nx (Rg (Mv 1 rfl (Sm (((i + 1 : Nat) : Int)) rfl (by omega) (Md 1 [0,1,4,5,8,9] rfl ?_)))))); intro a hF
    exact ⟨i + 1, ⟨by omega, _, ⟨_, _, _, _, _, hF, hM, hD⟩⟩, by omega⟩
   ·
    refine Rg (Mv 3 rfl (Bv rfl rfl (decide_eq_true (show (i : Int) < (s.length : Int) by omega)) (Mv 3 rfl ?_))); intro a hF
    refine guard_yes hF rfl rfl rfl rfl rfl rfl ?_
    refine op_index_str hF rfl (i) c rfl rfl rfl Tryz.underlying9 rfl rfl (by first | rfl | omega) hc ?_; clear hF a; intro a hF
    revert a; refine Bv rfl rfl (decide_eq_true (show (48 : Int) ≤ (c.toNat : Int) by omega)) (Mv 3 rfl ?_); intro a hF
    refine guard_yes hF rfl rfl rfl rfl rfl rfl ?_
    refine op_index_str hF rfl (i) c rfl rfl rfl Tryz.underlying9 rfl rfl (by first | rfl | omega) hc ?_; clear hF a; intro a hF
    revert a; refine Bv rfl rfl (decide_eq_true (show (c.toNat : Int) ≤ 57 by omega)) (Md 8 [0,1,4,5,8,9,193] rfl (Nx (Ct rfl (Sk (Nx (Sq (Bo (Sq (Sq (Rg (Mv 2 rfl ?_))))))))))); intro a hF
    refine op_index_str hF rfl (i) c rfl rfl rfl Tryz.underlying9 rfl rfl (by first | rfl | omega) hc ?_; clear hF a; intro a hF
    revert a; refine Md 1 [0,1,4,5,8,9,199] rfl (Nx (C0 rfl ?_ ?_))
    ·
     refine Ex (Ot (Ob (Nx (Rg (Mv 1 rfl (Sm (((i + 1 : Nat) : Int)) rfl (by omega) (Md 1 [0,1,4,5,8,9] rfl ?_))))))); intro a hF
     exact ⟨i + 1, ⟨by omega, _, ⟨_, _, _, _, _, hF, hM, hD⟩⟩, by omega⟩
    refine Sk (Nx (Sq (Rg (Md 2 [0,1,4,5,8,9,201] rfl (Nx (D0 rfl ?_ ?_))))))
    ·
     refine Sk (Nb (Nx (Rg (Mv 1 rfl (Sm (((i + 1 : Nat) : Int)) rfl (by omega) (Md 1 [0,1,4,5,8,9] rfl ?_)))))); intro a hF
     exact ⟨i + 1, ⟨by omega, _, ⟨_, _, _, _, _, hF, hM, hD⟩⟩, by omega⟩
    refine Rg (Mv 4 rfl ?_); intro a hF
    refine op_index_str hF rfl (i) c rfl rfl rfl Tryz.underlying9 rfl rfl (by first | rfl | omega) hc ?_; clear hF a; intro a hF
    revert a; refine Md 4 [0,1,4,5,8,9] rfl (Nb (Nx (Rg (Mv 1 rfl (Sm (((i + 1 : Nat) : Int)) rfl (by omega) (Md 1 [0,1,4,5,8,9] rfl ?_)))))); intro a hF
    exact ⟨i + 1, ⟨by omega, _, ⟨_, _, _, _, _, hF, hM, hD⟩⟩, by omega⟩
   refine Rg (Mv 3 rfl (Bv rfl rfl (decide_eq_true (show (i : Int) < (s.length : Int) by omega)) (Mv 3 rfl ?_))); intro a hF
   refine guard_yes hF rfl rfl rfl rfl rfl rfl ?_
   refine op_index_str hF rfl (i) c rfl rfl rfl Tryz.underlying9 rfl rfl (by first | rfl | omega) hc ?_; clear hF a; intro a hF
   revert a; refine Bv rfl rfl (decide_eq_true (show (48 : Int) ≤ (c.toNat : Int) by omega)) (Mv 3 rfl ?_); intro a hF
   refine guard_yes hF rfl rfl rfl rfl rfl rfl ?_
   refine op_index_str hF rfl (i) c rfl rfl rfl Tryz.underlying9 rfl rfl (by first | rfl | omega) hc ?_; clear hF a; intro a hF
   revert a; refine Bv rfl rfl (decide_eq_false (show ¬ ((c.toNat : Int) ≤ 57) by omega)) (Mv 4 rfl ?_); intro a hF
   refine guard_yes hF rfl rfl rfl rfl rfl rfl ?_
   refine op_index_str hF rfl (i) c rfl rfl rfl Tryz.underlying9 rfl rfl (by first | rfl | omega) hc ?_; clear hF a; intro a hF
   revert a; refine Md 3 [0,1,4,5,8,9,193] rfl (Nx (D0 rfl ?_ ?_))
   ·
    refine Ex (Ot (Ot (Ob (Nx (Rg (Mv 3 rfl (Gv rfl (fun _ hF => gives_load hF hM 0 rfl Tryz.underlying3 rfl rfl rfl (dget_dp hl)) (Mv 6 rfl ?_)))))))); intro a hF
    refine op_storeD hF hM rfl rfl rfl (by kernel_rfl) rfl rfl rfl (by decide) hl (dset_dp hl _) ?_; clear hF hM a; intro a w hF hM
    revert a; refine Md 0 [0,1,4,5] rfl ?_; intro a hF
    exact ⟨_, ⟨_, _, _, _, _, hF, hM, hD⟩⟩
   refine Sk (Nx (Sq (Bo (Sq (Sq (Rg (Mv 2 rfl ?_))))))); intro a hF
   refine op_index_str hF rfl (i) c rfl rfl rfl Tryz.underlying9 rfl rfl (by first | rfl | omega) hc ?_; clear hF a; intro a hF
   revert a; refine Md 1 [0,1,4,5,8,9,199] rfl (Nx (C0 rfl ?_ ?_))
   ·
    refine Ex (Ot (Ob (Nx (Rg (Mv 1 rfl (Sm (((i + 1 : Nat) : Int)) rfl (by omega) (Md 1 [0,1,4,5,8,9] rfl ?_))))))); intro a hF
    exact ⟨i + 1, ⟨by omega, _, ⟨_, _, _, _, _, hF, hM, hD⟩⟩, by omega⟩
   refine Sk (Nx (Sq (Rg (Md 2 [0,1,4,5,8,9,201] rfl (Nx (D0 rfl ?_ ?_))))))
   ·
    refine Sk (Nb (Nx (Rg (Mv 1 rfl (Sm (((i + 1 : Nat) : Int)) rfl (by omega) (Md 1 [0,1,4,5,8,9] rfl ?_)))))); intro a hF
    exact ⟨i + 1, ⟨by omega, _, ⟨_, _, _, _, _, hF, hM, hD⟩⟩, by omega⟩
   refine Rg (Mv 4 rfl ?_); intro a hF
   refine op_index_str hF rfl (i) c rfl rfl rfl Tryz.underlying9 rfl rfl (by first | rfl | omega) hc ?_; clear hF a; intro a hF
   revert a; refine Md 4 [0,1,4,5,8,9] rfl (Nb (Nx (Rg (Mv 1 rfl (Sm (((i + 1 : Nat) : Int)) rfl (by omega) (Md 1 [0,1,4,5,8,9] rfl ?_)))))); intro a hF
   exact ⟨i + 1, ⟨by omega, _, ⟨_, _, _, _, _, hF, hM, hD⟩⟩, by omega⟩
  exact Rg (Mv 3 rfl (Bv rfl rfl (decide_eq_true (show (i1 : Int) ≥ (s.length : Int) by omega)) (Md 12 [0,1,4,5,8,171] rfl (Nx (Ct rfl (Re (Rt (Rt (Y1 rfl rfl ⟨_, rfl, ⟨_, rfl⟩, _, _, _, _, _, hD, hM⟩)))))))))
 refine Rg (Mv 3 rfl (Bv rfl rfl (decide_eq_false (show ¬ ((i : Int) < (s.length : Int)) by omega)) (Md 7 [0,1,4,5,138] rfl (Nx (Cf rfl (Sk (Kp [0,1,4,5] rfl ?_))))))); intro a hF
 exact ⟨_, ⟨_, _, _, _, _, hF, hM, hD⟩⟩
end Go.Sx
namespace Go.Sx
open Go.RowKit Go.Proofs Js Go.Proofs.YtelonenjneonlaaGreatDoorW.PrintWords
set_option maxRecDepth 100000 in
theorem trimD_walk {B : Nat} {wc : World} {L : List Bk} {b : Nat} {ds : Str} {dp : Int} {neg tr : Bool} (hl : ds.length = 800) {m : Nat} (hm : m ≤ 800) {w0 : World} (hM0 : Mem B wc ((b, 240, decL ds m dp neg tr) :: L) w0) :
    Calls Tryz.prog 235 #[.pointer (some ⟨b, 0, none⟩)] w0 (Ret fun v w' => v = .tuple #[] ∧ ∃ m' : Nat, m' ≤ m ∧ (∀ j, m' ≤ j → j < m → ds[j]? = some 48) ∧ (m' = 0 ∨ ∃ c, ds[m' - 1]? = some c ∧ c ≠ 48) ∧ Mem B wc ((b, 240, decL ds (m' : Int) (if m' = 0 then 0 else dp) neg tr) :: L) w') := by
 have hM := hM0
 refine enter (l := [.pointer (some ⟨b, 0, none⟩)]) 34 Tryz.func235 rfl rfl (fun a hF => ?_)
 replace hF : Fr 35 [(0, .pointer (some ⟨b, 0, none⟩))] a := hF
 refine cutF (fun a w => ∃ (m' : Nat), Fr 35 [(0, .pointer (some ⟨b, 0, none⟩))] a ∧ Mem B wc ((b, 240, decL ds m' dp neg tr) :: L) w ∧ m' ≤ m ∧ (∀ j, m' ≤ j → j < m → ds[j]? = some 48) ∧ (m' = 0 ∨ ∃ c, ds[m' - 1]? = some c ∧ c ≠ 48)) (fun a w h => ?_) ?_
 ·
  clear hF hM
  obtain ⟨m', hF, hM, hle, hz, hend⟩ := h
  revert a; refine Sq (Rg (Mv 3 rfl (Gv rfl (fun _ hF => gives_load hF hM 0 rfl Tryz.underlying3 rfl rfl rfl (dget_nd hl)) (Md 1 [0,31] rfl (Nx (Ce rfl (fun ht => ?_) ((fun ht => ?_))))))))
  ·
   have h0 : ¬ m' = 0 := by simpa using ht
   refine Sk ?_
   have hfin : Mem B wc ((b, 240, decL ds (m' : Int) (if m' = 0 then 0 else dp) neg tr) :: L) w := by first | (rw [if_pos h0]; exact hM) | (rw [if_neg h0]; exact hM)
   exact Z0 rfl ⟨_, rfl, rfl, m', hle, hz, hend, hfin⟩
  have h0 : m' = 0 := by simpa using ht
  refine Rg (Mv 3 rfl ?_); intro a hF
  refine op_storeD hF hM rfl rfl rfl (by kernel_rfl) rfl rfl rfl (by decide) hl (dset_dp hl _) ?_; clear hF hM a; intro a w hF hM
  revert a; refine Md 0 [] rfl ?_
  have hfin : Mem B wc ((b, 240, decL ds (m' : Int) (if m' = 0 then 0 else dp) neg tr) :: L) w := by first | (rw [if_pos h0]; exact hM) | (rw [if_neg h0]; exact hM)
  exact Z0 rfl ⟨_, rfl, rfl, m', hle, hz, hend, hfin⟩
 revert a; refine Bo (Kp [0] rfl ?_); intro a hF
 refine loopX (fun (m' : Nat) a w => Fr 35 [(0, .pointer (some ⟨b, 0, none⟩))] a ∧ Mem B wc ((b, 240, decL ds m' dp neg tr) :: L) w ∧ m' ≤ m ∧ (∀ j, m' ≤ j → j < m → ds[j]? = some 48)) (fun m' => m') (m) ?_ (fun m' a w hI => ?_)
 · exact ⟨hF, hM, Nat.le_refl _, fun j h1 h2 => by omega⟩
 clear hF hM
 obtain ⟨hF, hM, hle, hz⟩ := hI
 revert a; refine Sq (Sq ?_)
 rcases (show m' = 0 ∨ (0 < m' ∧ ds[m' - 1]? = some 48) ∨ (0 < m' ∧ ∃ c, ds[m' - 1]? = some c ∧ c ≠ 48) from (Nat.eq_zero_or_pos m').imp id (fun h => by have hg : ds[m' - 1]? = some (ds[m' - 1]'(by omega)) := List.getElem?_eq_getElem (by omega); by_cases h4 : ds[m' - 1]'(by omega) = 48; exact .inl ⟨h, by rw [hg, h4]⟩; exact .inr ⟨h, _, hg, h4⟩)) with h0 | ⟨h0, hc48⟩ | ⟨h0, c, hc, hne⟩
 ·
  refine Sl (by kernel_rfl) (by kernel_rfl) ?_
  replace hM := hM.drew
  skip
  refine Ms 3 rfl (Gs rfl (fun _ hF => gives_load hF hM 0 rfl Tryz.underlying3 rfl rfl rfl (dget_nd hl)) (Bs rfl rfl (decide_eq_false (show ¬ ((m' : Int) > 0) by omega)) (Ms 13 rfl (Sd (Kp [0,19] rfl (Nx (Cf rfl (Ex (Ot (Ot (Ob (Kp [0] rfl ?_)))))))))))); intro a hF
  exact ⟨m', hF, hM, hle, hz, by first | exact .inl h0 | exact .inr ⟨c, hc, hne⟩⟩
 ·
  have hc := hc48
  refine Sl (by kernel_rfl) (by kernel_rfl) ?_
  replace hM := hM.drew
  skip
  refine Ms 3 rfl (Gs rfl (fun _ hF => gives_load hF hM 0 rfl Tryz.underlying3 rfl rfl rfl (dget_nd hl)) (Bs rfl rfl (decide_eq_true (show (m' : Int) > 0 by omega)) (Ms 5 rfl (Gs rfl (fun _ hF => gives_load hF hM 0 rfl Tryz.underlying3 rfl rfl rfl (dget_nd hl)) (Ss (((m' - 1 : Nat) : Int)) rfl (by omega) (Ms 2 rfl (Gs rfl (fun _ hF => gives_indexAddrD (m' - 1) hF rfl rfl rfl rfl (by omega) _) (Gs rfl (fun _ hF => gives_load hF hM 0 rfl Tryz.underlying5 rfl rfl rfl (dget_dig (hc))) (Bs rfl rfl (show (((48 : UInt8).toNat : Int) == 48) = true from rfl) (Ms 1 rfl (Sd (Kp [0,19] rfl (Nx (Ct rfl (Sk (Nx (Bo (Rg (Mv 3 rfl (Gv rfl (fun _ hF => gives_load hF hM 0 rfl Tryz.underlying3 rfl rfl rfl (dget_nd hl)) (Sm (((m' - 1 : Nat) : Int)) rfl (by omega) (Mv 2 rfl ?_)))))))))))))))))))))); intro a hF
  refine op_storeD hF hM rfl rfl rfl (by kernel_rfl) rfl rfl rfl (by decide) hl (dset_nd hl _) ?_; clear hF hM a; intro a w hF hM
  revert a; refine Md 0 [0] rfl (Nb (Kp [0] rfl ?_)); intro a hF
  exact ⟨m' - 1, ⟨hF, hM, by omega, fun j h1 h2 => by rcases Nat.lt_or_ge j m' with h | h; rw [show j = m' - 1 by omega]; exact hc48; exact hz j h h2⟩, by omega⟩
 refine Sl (by kernel_rfl) (by kernel_rfl) ?_
 replace hM := hM.drew
 skip
 refine Ms 3 rfl (Gs rfl (fun _ hF => gives_load hF hM 0 rfl Tryz.underlying3 rfl rfl rfl (dget_nd hl)) (Bs rfl rfl (decide_eq_true (show (m' : Int) > 0 by omega)) (Ms 5 rfl (Gs rfl (fun _ hF => gives_load hF hM 0 rfl Tryz.underlying3 rfl rfl rfl (dget_nd hl)) (Ss (((m' - 1 : Nat) : Int)) rfl (by omega) (Ms 2 rfl (Gs rfl (fun _ hF => gives_indexAddrD (m' - 1) hF rfl rfl rfl rfl (by omega) _) (Gs rfl (fun _ hF => gives_load hF hM 0 rfl Tryz.underlying5 rfl rfl rfl (dget_dig (hc))) (Bs rfl rfl (beq_f (d := 48) (z := 48) rfl hne) (Ms 1 rfl (Sd (Kp [0,19] rfl (Nx (Cf rfl (Ex (Ot (Ot (Ob (Kp [0] rfl ?_))))))))))))))))))); intro a hF
 exact ⟨m', hF, hM, hle, hz, by first | exact .inl h0 | exact .inr ⟨c, hc, hne⟩⟩
end Go.Sx
namespace Go.Sx
open Go.RowKit Go.Proofs Js Go.Proofs.YtelonenjneonlaaGreatDoorW.PrintWords
set_option maxRecDepth 100000 in
theorem prefix_walk {B : Nat} {wc : World} {L : List Bk} {b : Nat} {ds : Str} {dp : Int} {neg tr : Bool} (hl : ds.length = 800) {nd : Int} {m : Nat} (hm : m ≤ 800) (s : Str) {w0 : World} (hM0 : Mem B wc ((b, 240, decL ds nd dp neg tr) :: L) w0) :
    Calls Tryz.prog 251 #[.slice (some ⟨b, 0, none⟩) m 800, .string (mkS s)] w0 (Ret fun v w' => v = .bool (pless (ds.take m) s) ∧ Mem B wc ((b, 240, decL ds nd dp neg tr) :: L) w') := by
 have hM := hM0
 have htl : (ds.take m).length = m := by rw [List.length_take, hl]; omega
 refine enter (l := [.slice (some ⟨b, 0, none⟩) m 800, .string (mkS s)]) 30 Tryz.func251 rfl rfl (fun a hF => ?_)
 replace hF : Fr 32 [(0, .slice (some ⟨b, 0, none⟩) m 800), (1, .string (mkS s))] a := hF
 revert a; refine Sq (Rg (Md 1 [0,1] rfl (Nx (Sq (Sq (Rg (Md 1 [0,1,5] rfl (Nx (Bo (Kp [0,1,5] rfl ?_)))))))))); intro a hF
 refine loopX (fun (i : Nat) a w => Fr 32 [(0, .slice (some ⟨b, 0, none⟩) m 800), (1, .string (mkS s)), (5, .int .i64 (i : Int))] a ∧ Mem B wc ((b, 240, decL ds nd dp neg tr) :: L) w ∧ i ≤ s.length ∧ pless (ds.take m) s = pless ((ds.take m).drop i) (s.drop i)) (fun i => s.length - i) (0) ?_ (fun i a w hI => ?_)
 · exact ⟨hF, hM, Nat.zero_le _, rfl⟩
 clear hF hM
 obtain ⟨hF, hM, hle, hp⟩ := hI
 revert a; refine Sq (Sq (Rg (Md 4 [0,1,5,9] rfl (Nx (Ce rfl (fun ht => ?_) ((fun ht => ?_)))))))
 ·
  have hge : s.length ≤ i := by have := of_decide_eq_false ht; omega
  have hres : false = pless (ds.take m) s := by rw [hp, pless_end hge]
  exact Ex (Ot (Ot (Ob (Nx (Sq (Rg (Md 1 [4] rfl (Nx (Re (Y1 rfl rfl ⟨_, rfl, congrArg Value.bool hres, hM⟩))))))))))
 have hlt : i < s.length := by have := of_decide_eq_true ht; omega
 obtain ⟨d, hd⟩ : ∃ d, s[i]? = some d := ⟨_, List.getElem?_eq_getElem hlt⟩
 refine Sk (Nx (Sq (Bo (Sq (Sq (Rg (Md 4 [0,1,5,15] rfl (Nx (Cd rfl (fun ht => ?_) ((fun ht => ?_)))))))))))
 ·
  have him : m ≤ i := by have := of_decide_eq_true ht; omega
  have hres : true = pless (ds.take m) s := by rw [hp, pless_short (by omega) hd]
  exact Sq (Rg (Md 1 [4] rfl (Nx (Re (Rt (Rb (Rt (Rt (Rb (Rt (Y1 rfl rfl ⟨_, rfl, congrArg Value.bool hres, hM⟩)))))))))))
 have him : i < m := by have := of_decide_eq_false ht; omega
 obtain ⟨c, hc⟩ : ∃ c, ds[i]? = some c := ⟨_, List.getElem?_eq_getElem (by omega)⟩
 have hct : (ds.take m)[i]? = some c := by rw [List.getElem?_take, if_pos him]; exact hc
 have hst := pless_step hct hd
 refine Sk (Nx (Sq (Sl (by kernel_rfl) (by kernel_rfl) ?_)))
 replace hM := hM.drew
 skip
 refine Ms 2 rfl (Gs rfl (fun _ hF => gives_indexAddr0 i hF rfl Tryz.underlying66 (by kernel_rfl) rfl rfl rfl him _) (Gs rfl (fun _ hF => gives_load hF hM 0 rfl Tryz.underlying5 rfl rfl rfl (dget_dig (hc))) (Ms 2 rfl (Is (i) d rfl hd (by omega) (Ms 1 rfl (Sd (Kp [0,1,5,23] rfl (Nx (Ce rfl (fun ht => ?_) ((fun ht => ?_)))))))))))
 ·
  have heq : c = d := ne_f (d := d) rfl ht
  refine Sk (Nb (Nx (Rg (Mv 1 rfl (Sm (((i + 1 : Nat) : Int)) rfl (by omega) (Md 1 [0,1,5] rfl ?_)))))); intro a hF
  exact ⟨i + 1, ⟨hF, hM, by omega, by rw [hp, hst, if_pos heq]⟩, by omega⟩
 have hne : ¬ c = d := ne_t (d := d) rfl ht
 have hres : decide ((c.toNat : Int) < (d.toNat : Int)) = pless (ds.take m) s := by rw [hp, hst, if_neg hne]; simp
 refine Sq (Sl (by kernel_rfl) (by kernel_rfl) ?_)
 replace hM := hM.drew
 skip
 exact Ms 2 rfl (Gs rfl (fun _ hF => gives_indexAddr0 i hF rfl Tryz.underlying66 (by kernel_rfl) rfl rfl rfl him _) (Gs rfl (fun _ hF => gives_load hF hM 0 rfl Tryz.underlying5 rfl rfl rfl (dget_dig (hc))) (Ms 2 rfl (Is (i) d rfl hd (by omega) (Ms 2 rfl (Sd (Kp [4] rfl (Nx (Re (Rb (Rt (Rt (Rb (Rt (Y1 rfl rfl ⟨_, rfl, congrArg Value.bool hres, hM⟩)))))))))))))))
end Go.Sx
namespace Go.Sx
open Go.RowKit Go.Proofs Js Go.Proofs.YtelonenjneonlaaGreatDoorW.PrintWords
set_option maxRecDepth 100000 in
theorem leftShift_walk {B : Nat} {wc : World} {L : List Bk} {b : Nat} {ds : Str} {dp : Int} {neg tr : Bool} (hG : Glob B wc) {m k : Nat} (hD : Dec ds m) (h0 : 0 < m) (h1 : 1 ≤ k) (h2 : k ≤ 60) (hdp : -2 ^ 40 ≤ dp ∧ dp ≤ 2 ^ 40) {w0 : World} (hM0 : Mem B wc ((b, 240, decL ds m dp neg tr) :: L) w0) :
    Calls Tryz.prog 236 #[.pointer (some ⟨b, 0, none⟩), .int .u64 (k : Int)] w0 (Ret fun v w' => v = .tuple #[] ∧ ∃ (ds' out : Str) (m' : Nat) (tr' : Bool), Dec ds' m' ∧ 0 < m' ∧ Digs out ∧ out.length = m + ldel (ds.take m) k ∧ worth out = worth (ds.take m) * 2 ^ k ∧
      ds'.take m' = out.take m' ∧ ds'[0]? = out.head? ∧ m' ≤ min 800 (m + ldel (ds.take m) k) ∧ (∀ j, m' ≤ j → j < min 800 (m + ldel (ds.take m) k) → ds'[j]? = some 48) ∧ Mem B wc ((b, 240, decL ds' m' (dp + (ldel (ds.take m) k : Nat)) neg tr') :: L) w') := by
 have hM := hM0
 have hl := hD.len
 have hm := hD.le
 have htl := hD.tlen
 obtain ⟨hlo, hhi⟩ := left_range hD h0 h1 h2
 have hdl := (tab_row h1 h2).le
 have hdl1 := (tab_row h1 h2).pos
 obtain ⟨bt, off, cp, hbt, hc0, hc1⟩ := hG.tabs.cheats
 have h28 : 28 < B := by have := hG.tabs.lt; omega
 have hp60 : 2 ^ k ≤ 2 ^ 60 := Nat.pow_le_pow_right (by decide) h2
 refine enter (l := [.pointer (some ⟨b, 0, none⟩), .int .u64 (k : Int)]) 135 Tryz.func236 rfl rfl (fun a hF => ?_)
 replace hF : Fr 137 [(0, .pointer (some ⟨b, 0, none⟩)), (1, .int .u64 (k : Int))] a := hF
 revert a; refine Sq (Rg (Gv rfl (fun _ hF => gives_load1 hF rfl Tryz.underlying298 rfl rfl ((hM.below.cell h28).trans hc0)) (Mv 1 rfl (Gv rfl (fun _ hF => gives_indexAddrS (sz := 2) (k) hF rfl Tryz.underlying298 (by kernel_rfl) rfl rfl rfl (by omega) _) (Mv 1 rfl (Gv rfl (fun _ hF => gives_load1 hF rfl Tryz.underlying3 rfl rfl ((hM.below.cell hbt).trans (hc1 k (by omega)).1)) (Md 1 [0,1,4] rfl (Nx ?_)))))))); intro a hF
 refine cut (fun a w => Fr 137 [(0, .pointer (some ⟨b, 0, none⟩)), (1, .int .u64 (k : Int)), (4, .int .i64 ((ldel (ds.take m) k : Nat) : Int))] a ∧ Mem B wc ((b, 240, decL ds m dp neg tr) :: L) w) ?_ (fun a w h => ?_)
 ·
  revert a; refine Sq (Su 13 (by kernel_rfl) (by kernel_rfl) ?_)
  replace hM := hM.drew
  skip
  refine Ms 6 rfl (Gs rfl (fun _ hF => gives_load hF hM 0 rfl Tryz.underlying3 rfl rfl rfl (dget_nd hl)) (Gs rfl (fun _ hF => gives_sliceA m hF rfl Tryz.underlying238 (by kernel_rfl) rfl rfl rfl rfl rfl hm _) (Gs rfl (fun _ hF => gives_load1 hF rfl Tryz.underlying298 rfl rfl ((hM.below.cell h28).trans hc0)) (Ms 1 rfl (Gs rfl (fun _ hF => gives_indexAddrS (sz := 2) (k) hF rfl Tryz.underlying298 (by kernel_rfl) rfl rfl rfl (by omega) _) (Ms 1 rfl (Gs rfl (fun _ hF => gives_load1 hF rfl Tryz.underlying9 rfl rfl ((hM.below.cell hbt).trans (hc1 k (by omega)).2)) (Sd ?_)))))))); intro a hF
  simp only [List.drop_succ_cons, List.drop_zero]
  revert a; refine Cl rfl Tryz.func251 (by kernel_rfl) rfl (prefix_walk hl hm (five k) hM) ?_
  clear hM; intro w v hR
  obtain ⟨rfl, hM⟩ := hR
  refine Md 0 [0,1,4,30] rfl (Nx (Ce rfl (fun ht => ?_) ((fun ht => ?_))))
  ·
   have hdel : ldel (ds.take m) k = deltas.getD k 0 := by unfold ldel; rw [ht]; rfl
   refine Sk (Kp [0,1,4] rfl ?_); intro a hF
   exact ⟨by rw [hdel]; exact hF, hM⟩
  have hdel : ldel (ds.take m) k = deltas.getD k 0 - 1 := by unfold ldel; rw [ht]; rfl
  refine Rg (Mv 1 rfl (Sm (((deltas.getD k 0 - 1 : Nat) : Int)) rfl (by omega) (Md 1 [0,1,4] rfl ?_))); intro a hF
  exact ⟨by rw [hdel]; exact hF, hM⟩
 clear hF hM
 obtain ⟨hF, hM⟩ := h
 have hδ19 : ldel (ds.take m) k ≤ 19 := by unfold ldel; split <;> omega
 generalize hδ : ldel (ds.take m) k = δ at *
 revert a; refine Sq (Rg (Mv 3 rfl (Gv rfl (fun _ hF => gives_load hF hM 0 rfl Tryz.underlying3 rfl rfl rfl (dget_nd hl)) (Md 1 [0,1,4,5] rfl (Nx (Sq (Rg (Mv 3 rfl (Gv rfl (fun _ hF => gives_load hF hM 0 rfl Tryz.underlying3 rfl rfl rfl (dget_nd hl)) (Mv 1 rfl (Sm (((m + δ : Nat) : Int)) rfl (by omega) (Md 1 [0,1,4,5,6] rfl (Nx (Sq (Rg (Md 1 [0,1,4,5,6,7] rfl (Nx (Sq (Sq (Rg (Mv 1 rfl (Sm ((m : Int) - 1) rfl (by omega) (Md 1 [0,1,4,5,6,7] rfl (Nx (Bo (Kp [0,1,4,5,6,7] rfl ?_)))))))))))))))))))))))))); intro a hF
 refine loopX (fun (x : Nat × Nat × Str) a w => ∃ (arr : Str) (tr' : Bool), Fr 137 [(0, .pointer (some ⟨b, 0, none⟩)), (1, .int .u64 (k : Int)), (4, .int .i64 (δ : Int)), (5, .int .i64 ((x.1 : Int) - 1)), (6, .int .i64 ((x.1 + δ : Nat) : Int)), (7, .int .u64 (x.2.1 : Int))] a ∧ Mem B wc ((b, 240, decL arr m dp neg tr') :: L) w ∧ x.1 ≤ m ∧ Arr ds arr (x.1 + δ) x.2.2 ∧ LS ((ds.take m).drop x.1) k x.2.1 x.2.2 ∧ x.2.2.length = m - x.1) (fun x => x.1) ((m, 0, [])) ?_ (fun x a w hI => ?_)
 · exact ⟨ds, tr, hF, hM, Nat.le_refl _, Arr.start hl _, by rw [List.drop_of_length_le (by rw [htl]; exact Nat.le_refl _)]; exact LS.start k, by simp⟩
 clear hF hM
 obtain ⟨r, n, out⟩ := x
 obtain ⟨arr, tr', hF, hM, hrm, hA, hLS, hol⟩ := hI
 simp only at hF hM hrm hA hLS hol
 have hl := hA.len
 have hnb : n < 2 ^ k := hLS.bound (hD.digs.drop _) (by rw [hol, List.length_drop, htl])
 revert a; refine Sq (Sq (Rg (Md 2 [0,1,4,5,6,7,46] rfl (Nx (Cd rfl (fun ht => ?_) ((fun ht => ?_)))))))
 ·
  have hr1 : 1 ≤ r := by have := of_decide_eq_true ht; omega
  obtain ⟨c, hc, hcd⟩ := hD.at (show r - 1 < m by omega)
  have hcA : arr[r - 1]? = some c := (hA.low _ (by omega)).trans hc
  have hdc := dg_lt hcd
  obtain ⟨N1, hN1⟩ : ∃ N1, N1 = n + dg c * 2 ^ k := ⟨_, rfl⟩
  have hmul : dg c * 2 ^ k ≤ 9 * 2 ^ k := Nat.mul_le_mul_right _ (by omega)
  have hN64 : N1 < 2 ^ 64 := by omega
  have hm10 : N1 % 10 < 10 := Nat.mod_lt _ (by decide)
  have hA' : Arr ds arr ((r - 1 + δ) + 1) out := by rw [show r - 1 + δ + 1 = r + δ by omega]; exact hA
  have hLS' := hLS.digit (by rw [hol, List.length_drop, htl]) c
  intro a hF
  rw [← hN1] at hLS'
  have hdr : (ds.take m).drop (r - 1) = c :: (ds.take m).drop r := by have := drop_at (l := ds.take m) (i := r - 1) (c := c) (by rw [List.getElem?_take, if_pos (by omega)]; exact hc); rw [show r - 1 + 1 = r by omega] at this; exact this
  revert a; refine Sk (Nx (Sq (Bo (Sq (Rg (Mv 5 rfl (Gv rfl (fun _ hF => gives_indexAddrD (r - 1) hF rfl rfl rfl (by omega) (by omega) _) (Gv rfl (fun _ hF => gives_load hF hM 0 rfl Tryz.underlying5 rfl rfl rfl (dget_dig (hcA))) (Mv 2 rfl ?_))))))))); intro a hF
  rw [dig_read hcd] at hF
  revert a; refine Mv 1 rfl (Gv rfl (fun _ hF => gives_shl (k) (((dg c * 2 ^ k : Nat) : Int)) hF rfl rfl rfl rfl (shl_u64 (by omega) (by omega)) _) (Gv rfl (fun _ hF => gives_sum hF rfl rfl rfl (((N1 : Nat) : Int)) rfl (by omega) (u64_in (by omega) (by omega)) _) (Md 1 [0,1,4,5,6,7] rfl (Nx (Sq (Rg (Mv 1 rfl (Gv rfl (fun _ hF => gives_quo (((N1 / 10 : Nat) : Int)) hF rfl rfl rfl (by decide) (quo10 hN64) _) (Md 1 [0,1,4,5,6,7,8] rfl (Nx (Sq (Rg (Mv 2 rfl (Gv rfl (fun _ hF => gives_sum hF rfl rfl rfl (((10 * (N1 / 10) : Nat) : Int)) rfl (by omega) (u64_in (by omega) (by omega)) _) (Gv rfl (fun _ hF => gives_sum hF rfl rfl rfl (((N1 % 10 : Nat) : Int)) rfl (by omega) (u64_in (by omega) (by omega)) _) (Md 1 [0,1,4,5,6,8,9] rfl (Nx (Sq (Rg (Mv 1 rfl (Sm (((r - 1 + δ : Nat) : Int)) rfl (by omega) (Md 1 [0,1,4,5,6,8,9] rfl (Nx (Sq (Sq (Rg (Md 2 [0,1,4,5,6,8,9,70] rfl (Nx (Cd rfl (fun ht => ?_) ((fun ht => ?_)))))))))))))))))))))))))))))))
  ·
   have hw8 : r - 1 + δ < 800 := by have := of_decide_eq_true ht; omega
   refine Rg (Mv 7 rfl (Gv rfl (fun _ hF => gives_indexAddrD (r - 1 + δ) hF rfl rfl rfl rfl hw8 _) ?_)); intro a hF
   refine op_storeD hF hM rfl rfl rfl (by kernel_rfl) rfl rfl rfl (by omega) hl (dset_dig hl hw8 (chr_put hm10)) ?_; clear hF hM a; intro a w hF hM
   revert a; refine Md 0 [0,1,4,5,6,8] rfl (Nx (Rg (Md 2 [0,1,4,5,6,7] rfl (Nb (Nx (Rg (Mv 1 rfl (Sm (((r - 1 : Nat) : Int) - 1) rfl (by omega) (Md 1 [0,1,4,5,6,7] rfl ?_))))))))); intro a hF
   exact ⟨(r - 1, N1 / 10, chr (N1 % 10) :: out), ⟨_, _, hF, hM, by simp only; omega, by first | exact hA'.put _ hw8 | exact hA'.pass _ hw8, by simp only; rw [hdr]; exact hLS', by simp only [List.length_cons]; omega⟩, by simp only; omega⟩
  have hw8 : 800 ≤ r - 1 + δ := by have := of_decide_eq_false ht; omega
  refine Sq (Rg (Md 2 [0,1,4,5,6,8,80] rfl (Nx (D0 rfl ?_ ?_))))
  ·
   refine Sk (Nx (Rg (Md 2 [0,1,4,5,6,7] rfl (Nb (Nx (Rg (Mv 1 rfl (Sm (((r - 1 : Nat) : Int) - 1) rfl (by omega) (Md 1 [0,1,4,5,6,7] rfl ?_))))))))); intro a hF
   exact ⟨(r - 1, N1 / 10, chr (N1 % 10) :: out), ⟨_, _, hF, hM, by simp only; omega, by first | exact hA'.put _ hw8 | exact hA'.pass _ hw8, by simp only; rw [hdr]; exact hLS', by simp only [List.length_cons]; omega⟩, by simp only; omega⟩
  refine Rg (Mv 3 rfl ?_); intro a hF
  refine op_storeD hF hM rfl rfl rfl (by kernel_rfl) rfl rfl rfl (by decide) hl (dset_tr hl _) ?_; clear hF hM a; intro a w hF hM
  revert a; refine Md 0 [0,1,4,5,6,8] rfl (Nx (Rg (Md 2 [0,1,4,5,6,7] rfl (Nb (Nx (Rg (Mv 1 rfl (Sm (((r - 1 : Nat) : Int) - 1) rfl (by omega) (Md 1 [0,1,4,5,6,7] rfl ?_))))))))); intro a hF
  exact ⟨(r - 1, N1 / 10, chr (N1 % 10) :: out), ⟨_, _, hF, hM, by simp only; omega, by first | exact hA'.put _ hw8 | exact hA'.pass _ hw8, by simp only; rw [hdr]; exact hLS', by simp only [List.length_cons]; omega⟩, by simp only; omega⟩
 have hr0 : r = 0 := by have := of_decide_eq_false ht; omega
 subst hr0
 refine Ex (Ot (Ot (Ob (Nx (Sq (Bo (Kp [0,4,6,7] rfl ?_))))))); intro a hF
 refine loopX (fun (x : Nat × Nat × Str) a w => ∃ (arr : Str) (tr' : Bool), Fr 137 [(0, .pointer (some ⟨b, 0, none⟩)), (4, .int .i64 (δ : Int)), (6, .int .i64 (x.1 : Int)), (7, .int .u64 (x.2.1 : Int))] a ∧ Mem B wc ((b, 240, decL arr m dp neg tr') :: L) w ∧ x.1 ≤ δ ∧ Arr ds arr x.1 x.2.2 ∧ LS (ds.take m) k x.2.1 x.2.2 ∧ x.2.2.length + x.1 = m + δ) (fun x => x.2.1) ((δ, n, out)) ?_ (fun x a w hI => ?_)
 · exact ⟨arr, tr', by rw [Nat.zero_add] at hF; exact hF, hM, Nat.le_refl _, by rw [Nat.zero_add] at hA; exact hA, hLS, by simp only; omega⟩
 clear hF hM
 clear hA hLS hol hl
 obtain ⟨v, n, out⟩ := x
 obtain ⟨arr, tr', hF, hM, hvd, hA, hLS, hol⟩ := hI
 simp only at hF hM hvd hA hLS hol
 have hl := hA.len
 have hnl := carry_lt hhi hLS.eq hol
 revert a; refine Sq (Sq (Rg (Md 2 [0,4,6,7,86] rfl (Nx (Ce rfl (fun ht => ?_) ((fun ht => ?_)))))))
 ·
  have hn0 : n = 0 := by have := of_decide_eq_false ht; omega
  subst hn0
  have hv0 : v = 0 := Nat.eq_zero_of_not_pos (fun h => by have h5 := carry_ge hlo hLS.eq hLS.digs hol h; have h6 := Nat.pow_pos (n := v - 1) (show 0 < 10 by decide); omega)
  subst hv0
  refine Ex (Ot (Ot (Ob (Nx (Sq (Rg (Mv 3 rfl (Gv rfl (fun _ hF => gives_load hF hM 0 rfl Tryz.underlying3 rfl rfl rfl (dget_nd hl)) (Mv 1 rfl (Sm (((m + δ : Nat) : Int)) rfl (by omega) (Mv 2 rfl ?_))))))))))); intro a hF
  refine op_storeD hF hM rfl rfl rfl (by kernel_rfl) rfl rfl rfl (by decide) hl (dset_nd hl _) ?_; clear hF hM a; intro a w hF hM
  revert a; refine Md 0 [0,4] rfl (Nx ?_); intro a hF
  refine cut (fun a w => Fr 137 [(0, .pointer (some ⟨b, 0, none⟩)), (4, .int .i64 (δ : Int))] a ∧ Mem B wc ((b, 240, decL arr ((min 800 (m + δ) : Nat) : Int) dp neg tr') :: L) w) ?_ (fun a w h => ?_)
  ·
   revert a; refine Sq (Rg (Mv 3 rfl (Gv rfl (fun _ hF => gives_load hF hM 0 rfl Tryz.underlying3 rfl rfl rfl (dget_nd hl)) (Md 1 [0,4,123] rfl (Nx (Ce rfl (fun ht => ?_) ((fun ht => ?_))))))))
   ·
    have h8 : m + δ < 800 := by have := of_decide_eq_false ht; omega
    refine Sk (Kp [0,4] rfl ?_); intro a hF
    exact ⟨hF, by first | (rw [show min 800 (m + δ) = 800 by omega]; exact hM) | (rw [show min 800 (m + δ) = m + δ by omega]; exact hM)⟩
   have h8 : 800 ≤ m + δ := by have := of_decide_eq_true ht; omega
   refine Rg (Mv 3 rfl ?_); intro a hF
   refine op_storeD hF hM rfl rfl rfl (by kernel_rfl) rfl rfl rfl (by decide) hl (dset_nd hl _) ?_; clear hF hM a; intro a w hF hM
   revert a; refine Md 0 [0,4] rfl ?_; intro a hF
   exact ⟨hF, by first | (rw [show min 800 (m + δ) = 800 by omega]; exact hM) | (rw [show min 800 (m + δ) = m + δ by omega]; exact hM)⟩
  clear hF hM
  obtain ⟨hF, hM⟩ := h
  revert a; refine Sq (Rg (Mv 3 rfl (Gv rfl (fun _ hF => gives_load hF hM 0 rfl Tryz.underlying3 rfl rfl rfl (dget_dp hl)) (Mv 1 rfl (Sm (dp + ((δ : Nat) : Int)) rfl (by omega) (Mv 2 rfl ?_)))))); intro a hF
  refine op_storeD hF hM rfl rfl rfl (by kernel_rfl) rfl rfl rfl (by decide) hl (dset_dp hl _) ?_; clear hF hM a; intro a w hF hM
  revert a; refine Md 0 [0] rfl (Nx (Rg (Mv 1 rfl (Cl rfl Tryz.func235 (by kernel_rfl) rfl (trimD_walk hl (Nat.min_le_left 800 (m + δ)) hM) ?_))))
  clear hM; intro w v hR
  obtain ⟨rfl, m', hmle, hz, hlast, hM⟩ := hR
  refine Md 0 [] rfl ?_
  have hol' : out.length = m + δ := hol
  have hwo : worth (ds.take m) * 2 ^ k = worth out := by have := hLS.eq; rw [Nat.zero_mul, Nat.zero_add] at this; exact this
  obtain ⟨c0, r0, ho, _, hc48, _⟩ := head_of_worth (p := m + δ) hLS.digs hol' (by omega) (by rw [← hwo]; exact hlo)
  obtain ⟨hD', hm'0, htk, hfi⟩ := Dec.of_out hA hLS.digs (by rw [ho]; simpa using hc48) (by rw [ho]; simp) (by rw [hol']; exact hmle) (fun j h1 h2 => hz j h1 (by rw [hol'] at h2; exact h2))
  rw [if_neg (show ¬ m' = 0 by omega)] at hM
  exact Z0 rfl ⟨_, rfl, rfl, arr, out, m', tr', hD', hm'0, hLS.digs, hol', hwo.symm, htk, hfi, hmle, hz, hM⟩
 have hn0 : 0 < n := by have := of_decide_eq_true ht; omega
 have hv1 : 1 ≤ v := Nat.pos_of_ne_zero (fun h => by rw [h] at hnl; simp at hnl; omega)
 have hn64 : n < 2 ^ 64 := Nat.lt_of_lt_of_le hnl (Nat.le_trans (Nat.pow_le_pow_right (by decide) (show v ≤ 19 by omega)) (by decide))
 have hm10 : n % 10 < 10 := Nat.mod_lt _ (by decide)
 have hA' : Arr ds arr (v - 1 + 1) out := by rw [show v - 1 + 1 = v by omega]; exact hA
 refine Sk (Nx (Bo (Sq (Rg (Mv 1 rfl (Gv rfl (fun _ hF => gives_quo (((n / 10 : Nat) : Int)) hF rfl rfl rfl (by decide) (quo10 hn64) _) (Md 1 [0,4,6,7,10] rfl (Nx (Sq (Rg (Mv 2 rfl (Gv rfl (fun _ hF => gives_sum hF rfl rfl rfl (((10 * (n / 10) : Nat) : Int)) rfl (by omega) (u64_in (by omega) (by omega)) _) (Gv rfl (fun _ hF => gives_sum hF rfl rfl rfl (((n % 10 : Nat) : Int)) rfl (by omega) (u64_in (by omega) (by omega)) _) (Md 1 [0,4,6,10,11] rfl (Nx (Sq (Rg (Mv 1 rfl (Sm (((v - 1 : Nat) : Int)) rfl (by omega) (Md 1 [0,4,6,10,11] rfl (Nx (Sq (Sq (Rg (Md 2 [0,4,6,10,11,96] rfl (Nx (Cd rfl (fun ht => ?_) ((fun ht => ?_)))))))))))))))))))))))))))))
 ·
  have hw8 : v - 1 < 800 := by have := of_decide_eq_true ht; omega
  refine Rg (Mv 7 rfl (Gv rfl (fun _ hF => gives_indexAddrD (v - 1) hF rfl rfl rfl rfl hw8 _) ?_)); intro a hF
  refine op_storeD hF hM rfl rfl rfl (by kernel_rfl) rfl rfl rfl (by omega) hl (dset_dig hl hw8 (chr_put hm10)) ?_; clear hF hM a; intro a w hF hM
  revert a; refine Md 0 [0,4,6,10] rfl (Nx (Rg (Md 2 [0,4,6,7] rfl (Nb (Kp [0,4,6,7] rfl ?_))))); intro a hF
  exact ⟨(v - 1, n / 10, chr (n % 10) :: out), ⟨_, _, hF, hM, by simp only; omega, by first | exact hA'.put _ hw8 | exact hA'.pass _ hw8, hLS.more, by simp only [List.length_cons]; omega⟩, Nat.div_lt_self hn0 (by decide)⟩
 have hw8 : 800 ≤ v - 1 := by have := of_decide_eq_false ht; omega
 refine Sq (Rg (Md 2 [0,4,6,10,106] rfl (Nx (D0 rfl ?_ ?_))))
 ·
  refine Sk (Nx (Rg (Md 2 [0,4,6,7] rfl (Nb (Kp [0,4,6,7] rfl ?_))))); intro a hF
  exact ⟨(v - 1, n / 10, chr (n % 10) :: out), ⟨_, _, hF, hM, by simp only; omega, by first | exact hA'.put _ hw8 | exact hA'.pass _ hw8, hLS.more, by simp only [List.length_cons]; omega⟩, Nat.div_lt_self hn0 (by decide)⟩
 refine Rg (Mv 3 rfl ?_); intro a hF
 refine op_storeD hF hM rfl rfl rfl (by kernel_rfl) rfl rfl rfl (by decide) hl (dset_tr hl _) ?_; clear hF hM a; intro a w hF hM
 revert a; refine Md 0 [0,4,6,10] rfl (Nx (Rg (Md 2 [0,4,6,7] rfl (Nb (Kp [0,4,6,7] rfl ?_))))); intro a hF
 exact ⟨(v - 1, n / 10, chr (n % 10) :: out), ⟨_, _, hF, hM, by simp only; omega, by first | exact hA'.put _ hw8 | exact hA'.pass _ hw8, hLS.more, by simp only [List.length_cons]; omega⟩, Nat.div_lt_self hn0 (by decide)⟩
end Go.Sx
