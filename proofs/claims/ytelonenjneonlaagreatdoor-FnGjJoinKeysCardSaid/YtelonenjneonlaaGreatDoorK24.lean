/- Part 24 of the proof of FnGjJoinKeys: the statement Rows.FnGjJoinKeysCardSaid; no further condition. -/
import Derived.Test.YtelonenjneonlaaGreatDoorK23
set_option linter.all false
namespace Go.Sx
open Go.RowKit Go.Proofs Js Go.Proofs.YtelonenjneonlaaGreatDoorW.PrintWords
set_option maxRecDepth 100000 in
theorem floatBits_walk {B : Nat} {wc : World} {L : List Bk} {b : Nat} {ds : Str} {dp : Int} {neg tr : Bool} (hG : Glob B wc) {m : Nat} (hD : Dec ds m) {w0 : World} (hM0 : Mem B wc ((b, 240, decL ds m dp neg tr) :: L) w0) :
    Calls Tryz.prog 213 #[.pointer (some ⟨b, 0, none⟩), .pointer (some ⟨22, 0, none⟩)] w0 (Ret fun v w' => (∃ (z : Int) (ov : Bool), v = .tuple #[.int .u64 z, .bool ov]) ∧ ∃ (ds' : Str) (nd' dp' : Int) (tr' : Bool), Mem B wc ((b, 240, decL ds' nd' dp' neg tr') :: L) w') := by
 have hM := hM0
 have hl := hD.len
 have hl0 := hD.len
 have h22 : 22 < B := by have := hG.tabs.lt; omega
 have h25 : 25 < B := by have := hG.tabs.lt; omega
 obtain ⟨bp, offp, cpp, hbp, hp0, hp1⟩ := hG.tabs.powtab
 refine enter (l := [.pointer (some ⟨b, 0, none⟩), .pointer (some ⟨22, 0, none⟩)]) 241 Tryz.func213 rfl rfl (fun a hF => ?_)
 replace hF : Fr 243 [(0, .pointer (some ⟨b, 0, none⟩)), (1, .pointer (some ⟨22, 0, none⟩))] a := hF
 revert a; refine Sq (Rg (Md 2 [0,1,5] rfl (Nx ?_))); intro a hF
 refine scopeZ (fun l (_ : Unit) a w' => (l = 0 ∧ ∃ (e z : Int) (ov : Bool) (ds' : Str) (nd' dp' : Int) (tr' : Bool), Fr 243 [(0, .pointer (some ⟨b, 0, none⟩)), (1, .pointer (some ⟨22, 0, none⟩)), (5, .bool ov), (6, .int .i64 e), (7, .int .u64 z)] a ∧ Mem B wc ((b, 240, decL ds' nd' dp' neg tr') :: L) w' ∧ ds'.length = 800) ∨ (l = 1 ∧ ∃ (ds' : Str) (nd' dp' : Int) (tr' : Bool), Fr 243 [(0, .pointer (some ⟨b, 0, none⟩)), (1, .pointer (some ⟨22, 0, none⟩))] a ∧ Mem B wc ((b, 240, decL ds' nd' dp' neg tr') :: L) w' ∧ ds'.length = 800)) (fun _ _ => 0) (fun l => l) (fun l ih x a w' hJ => ?_) (fun pass => ?_)
 ·
  clear hF
  clear hM
  obtain ⟨rfl, e, z, ov, ds', nd', dp', tr', hF, hM, hl⟩ | ⟨rfl, ds', nd', dp', tr', hF, hM, hl⟩ := hJ
  ·
   clear ih
   refine ⟨_, rfl, ?_⟩
   revert a; refine Sq (Rg (Mv 4 rfl (Gv rfl (fun _ hF => gives_load1 hF rfl Tryz.underlying157 rfl rfl ((hM.below.cell h22).trans hG.tabs.mant)) (Gv rfl (fun _ hF => gives_shl (52) (_) hF rfl rfl rfl rfl rfl _) (Mv 1 rfl (Gv rfl (fun _ hF => gives_bits (_) hF rfl rfl rfl rfl _) (Md 1 [0,1,5,6,11] rfl (Nx (Sq (Sl (by kernel_rfl) (by kernel_rfl) ?_))))))))))
   replace hM := hM.drew
   skip
   refine Ms 5 rfl (Gs rfl (fun _ hF => gives_load1 hF rfl Tryz.underlying3 rfl rfl ((hM.below.cell h22).trans hG.tabs.bias)) (Ms 4 rfl (Gs rfl (fun _ hF => gives_load1 hF rfl Tryz.underlying157 rfl rfl ((hM.below.cell h22).trans hG.tabs.expb)) (Gs rfl (fun _ hF => gives_shl (11) (_) hF rfl rfl rfl rfl rfl _) (Ms 1 rfl (Gs rfl (fun _ hF => gives_bits (_) hF rfl rfl rfl rfl _) (Ms 4 rfl (Gs rfl (fun _ hF => gives_load1 hF rfl Tryz.underlying157 rfl rfl ((hM.below.cell h22).trans hG.tabs.mant)) (Gs rfl (fun _ hF => gives_shl (52) (_) hF rfl rfl rfl rfl rfl _) (Gs rfl (fun _ hF => gives_bits (_) hF rfl rfl rfl rfl _) (Ms 1 rfl (Sd (Kp [0,1,5,11] rfl (Nx (Sq (Sq (Rg (Mv 3 rfl (Gv rfl (fun _ hF => gives_load hF hM 0 rfl Tryz.underlying4 rfl rfl rfl (dget_neg hl)) (Md 0 [1,5,11,228] rfl (Nx (D0 rfl ?_ ?_))))))))))))))))))))))
   · exact Sk (Nx (Sq (Rg (Md 4 [4,5] rfl (Nx (Re (Jr (Y2 rfl rfl rfl ⟨_, rfl, ⟨_, _, rfl⟩, _, _, _, _, hM⟩))))))))
   refine Sl (by kernel_rfl) (by kernel_rfl) ?_
   replace hM := hM.drew
   skip
   exact Ms 4 rfl (Gs rfl (fun _ hF => gives_load1 hF rfl Tryz.underlying157 rfl rfl ((hM.below.cell h22).trans hG.tabs.mant)) (Gs rfl (fun _ hF => gives_shl (52) (_) hF rfl rfl rfl rfl rfl _) (Ms 3 rfl (Gs rfl (fun _ hF => gives_load1 hF rfl Tryz.underlying157 rfl rfl ((hM.below.cell h22).trans hG.tabs.expb)) (Gs rfl (fun _ hF => gives_shl (11) (_) hF rfl rfl rfl rfl rfl _) (Gs rfl (fun _ hF => gives_bits (_) hF rfl rfl rfl rfl _) (Ms 1 rfl (Sd (Kp [5,11] rfl (Nx (Sq (Rg (Md 4 [4,5] rfl (Nx (Re (Jr (Y2 rfl rfl rfl ⟨_, rfl, ⟨_, _, rfl⟩, _, _, _, _, hM⟩)))))))))))))))))
  ·
   refine ⟨_, rfl, ?_⟩
   revert a; refine Sq (Rg (Md 1 [0,1,7] rfl (Nx (Sq (Sl (by kernel_rfl) (by kernel_rfl) ?_)))))
   replace hM := hM.drew
   skip
   refine Ms 3 rfl (Gs rfl (fun _ hF => gives_load1 hF rfl Tryz.underlying157 rfl rfl ((hM.below.cell h22).trans hG.tabs.expb)) (Gs rfl (fun _ hF => gives_shl (11) (_) hF rfl rfl rfl rfl rfl _) (Ms 4 rfl (Gs rfl (fun _ hF => gives_load1 hF rfl Tryz.underlying3 rfl rfl ((hM.below.cell h22).trans hG.tabs.bias)) (Ms 2 rfl (Sd (Kp [0,1,6,7] rfl (Nx (Sq (Rg (Md 1 [0,1,5,6,7] rfl (Nx (Kp [0,1,5,6,7] rfl ?_))))))))))))); intro a hF
   exact fall () (ih 0 (by decide)) (.inl ⟨rfl, _, _, _, _, _, _, _, hF, hM, hl⟩) rfl (jumps_mono fun l a w h => h)
 ·
  revert a; refine Sq (Rg (Md 1 [0,1,5] rfl (Nx (Sq (Rg (Md 1 [0,1,5] rfl (Nx (Sq (Sq (Rg (Mv 3 rfl (Gv rfl (fun _ hF => gives_load hF hM 0 rfl Tryz.underlying3 rfl rfl rfl (dget_nd hl)) (Md 1 [0,1,5,16] rfl (Nx (C2 rfl ?_ ((fun ht => ?_)))))))))))))))))
  ·
   refine Sq (Rg (Md 1 [0,1,5,7] rfl (Nx (Sq (Rg (Mv 3 rfl (Gv rfl (fun _ hF => gives_load1 hF rfl Tryz.underlying3 rfl rfl ((hM.below.cell h22).trans hG.tabs.bias)) (Md 1 [0,1,5,6,7] rfl (Nx (Wg (Gt (Jt (Kp [0,1,5,6,7] rfl ?_))))))))))))); intro a hF
   exact ⟨(), .inl ⟨rfl, _, _, _, _, _, _, _, hF, hM, hl⟩⟩
  have h0 : 0 < m := by have := ht; simp at this; omega
  refine Sk (Nx (Sq (Sq (Rg (Mv 3 rfl (Gv rfl (fun _ hF => gives_load hF hM 0 rfl Tryz.underlying3 rfl rfl rfl (dget_dp hl)) (Md 1 [0,1,5,25] rfl (Nx (C2 rfl ?_ ((fun ht => ?_)))))))))))
  ·
   refine Wg (Gt (Jt (Kp [0,1] rfl ?_))); intro a hF
   exact ⟨(), .inr ⟨rfl, _, _, _, _, hF, hM, hl⟩⟩
  have hdA := of_decide_eq_false ht
  refine Sk (Nx (Sq (Sq (Rg (Mv 3 rfl (Gv rfl (fun _ hF => gives_load hF hM 0 rfl Tryz.underlying3 rfl rfl rfl (dget_dp hl)) (Md 1 [0,1,5,30] rfl (Nx (C2 rfl ?_ ((fun ht => ?_)))))))))))
  ·
   refine Sq (Rg (Md 1 [0,1,5,7] rfl (Nx (Sq (Rg (Mv 3 rfl (Gv rfl (fun _ hF => gives_load1 hF rfl Tryz.underlying3 rfl rfl ((hM.below.cell h22).trans hG.tabs.bias)) (Md 1 [0,1,5,6,7] rfl (Nx (Wg (Gt (Jt (Kp [0,1,5,6,7] rfl ?_))))))))))))); intro a hF
   exact ⟨(), .inl ⟨rfl, _, _, _, _, _, _, _, hF, hM, hl⟩⟩
  have hdB := of_decide_eq_false ht
  refine Sk (Nx (Sq (Rg (Md 1 [0,1,5,6] rfl (Nx (Sq (Bo (Kp [0,1,5,6] rfl ?_)))))))); intro a hF
  refine loopX (fun (x : Str × Nat × Int × Bool × Int) a w => Fr 243 [(0, .pointer (some ⟨b, 0, none⟩)), (1, .pointer (some ⟨22, 0, none⟩)), (5, .bool false), (6, .int .i64 x.2.2.2.2)] a ∧ Mem B wc ((b, 240, decL x.1 x.2.1 x.2.2.1 neg x.2.2.2.1) :: L) w ∧ Dec x.1 x.2.1 ∧ 0 < x.2.1 ∧ -330 ≤ x.2.2.1 ∧ x.2.2.1 ≤ 310 ∧ 0 ≤ x.2.2.2.2 ∧ x.2.2.2.2 + 27 * ((10 * x.2.2.1.toNat + fd x.1) : Nat) ≤ 27 * 4000) (fun x => 10 * x.2.2.1.toNat + fd x.1) ((ds, m, dp, tr, 0)) ?_ (fun x a w hI => ?_)
  · exact ⟨hF, hM, hD, h0, by simp only; omega, by simp only; omega, Int.le_refl _, by have := (hD.fd_rng h0).2; simp only; omega⟩
  clear hF hM
  clear hD h0 hl
  obtain ⟨ds, m, dq, tr, e⟩ := x
  obtain ⟨hF, hM, hD, h0, hq1, hq2, he1, he2⟩ := hI
  simp only at hF hM hD h0 hq1 hq2 he1 he2
  have hl := hD.len
  have hfd := hD.fd_rng h0
  revert a; refine Sq (Sq (Rg (Mv 3 rfl (Gv rfl (fun _ hF => gives_load hF hM 0 rfl Tryz.underlying3 rfl rfl rfl (dget_dp hl)) (Md 1 [0,1,5,6,39] rfl (Nx (Cd rfl (fun ht => ?_) ((fun ht => ?_)))))))))
  ·
   have hpos := of_decide_eq_true ht
   refine Sk (Nx (Bo (Sq (Rg (Md 1 [0,1,5,6] rfl (Nx ?_)))))); intro a hF
   refine cutF (fun a w => ∃ k : Nat, Fr 243 [(0, .pointer (some ⟨b, 0, none⟩)), (1, .pointer (some ⟨22, 0, none⟩)), (5, .bool false), (6, .int .i64 e), (8, .int .i64 (k : Int))] a ∧ Mem B wc ((b, 240, decL ds m dq neg tr) :: L) w ∧ 3 ≤ k ∧ k ≤ 27) (fun a w h => ?_) ?_
   ·
    clear hF hM
    obtain ⟨k, hF, hM, hk3, hk27⟩ := h
    revert a; refine Sq (Rg (Mv 2 rfl (Gv rfl (fun _ hF => gives_neg hF rfl rfl (-((k : Nat) : Int)) (by rw [wrap_i64 (by omega) (by omega)]; omega) _) (Cl rfl Tryz.func202 (by kernel_rfl) rfl (shiftR_walk (k := k) hD h0 (by omega) (by omega) (by omega) hM) ?_))))
    clear hM; intro w v hR
    obtain ⟨rfl, ds', out, m', r0, tr', hD', h0', _, hr1, hr20, hrA, hrB, _, _, hf, _, _, _, hM⟩ := hR
    have hdec := right_less hD h0 hD' h0' (by omega) hr1 hrA hrB hf hpos
    refine Md 0 [0,1,5,6,8] rfl (Nx (Rg (Mv 2 rfl (Sm (e + ((k : Nat) : Int)) rfl (by omega) (Md 1 [0,1,5,6] rfl (Nb (Kp [0,1,5,6] rfl ?_))))))); intro a hF
    exact ⟨(ds', m', dq - ((r0 - 1 : Nat) : Int), tr', e + (k : Int)), ⟨hF, hM, hD', h0', by simp only; omega, by simp only; omega, by simp only; omega, by simp only; omega⟩, hdec⟩
   revert a; refine Sq (Sl (by kernel_rfl) (by kernel_rfl) ?_)
   replace hM := hM.drew
   skip
   refine Ms 3 rfl (Gs rfl (fun _ hF => gives_load hF hM 0 rfl Tryz.underlying3 rfl rfl rfl (dget_dp hl)) (Gs rfl (fun _ hF => gives_load1 hF rfl Tryz.underlying133 rfl rfl ((hM.below.cell h25).trans hp0)) (Ms 2 rfl (Sd (Kp [0,1,5,6,46] rfl (Nx (Cd rfl (fun ht => ?_) ((fun ht => ?_)))))))))
   ·
    have h9 : (9 : Int) ≤ dq := of_decide_eq_true ht
    refine Rg (Md 1 [0,1,5,6,8] rfl ?_); intro a hF
    first | exact ⟨27, hF, hM, by decide, by decide⟩ | exact ⟨k, hF, hM, hk3 (by omega), hk27⟩
   have h9 : ¬ (9 : Int) ≤ dq := of_decide_eq_false ht
   obtain ⟨j, hj⟩ : ∃ j : Nat, dq = (j : Int) := ⟨dq.toNat, by omega⟩
   obtain ⟨k, hjk, hk1, hk27, hk3, _⟩ := powtab_at (show j < 9 by omega)
   refine Sl (by kernel_rfl) (by kernel_rfl) ?_
   replace hM := hM.drew
   skip
   refine Gs rfl (fun _ hF => gives_load1 hF rfl Tryz.underlying133 rfl rfl ((hM.below.cell h25).trans hp0)) (Ms 3 rfl (Gs rfl (fun _ hF => gives_load hF hM 0 rfl Tryz.underlying3 rfl rfl rfl (dget_dp hl)) (Gs rfl (fun _ hF => gives_indexAddrS (sz := 1) (j) hF rfl Tryz.underlying133 (by kernel_rfl) rfl rfl hj (by omega) _) (Gs rfl (fun _ hF => gives_load1 hF rfl Tryz.underlying3 rfl rfl (show World.cell? _ _ = some (.int .i64 (k : Int)) by rw [Nat.mul_one]; exact (hM.below.cell hbp).trans (hp1 j _ hjk))) (Ms 1 rfl (Sd (Kp [0,1,5,6,8] rfl ?_))))))); intro a hF
   first | exact ⟨27, hF, hM, by decide, by decide⟩ | exact ⟨k, hF, hM, hk3 (by omega), hk27⟩
  have hnpos := of_decide_eq_false ht
  refine Ex (Ot (Ot (Ob (Nx (Sq (Bo (Kp [0,1,5,6] rfl ?_))))))); intro a hF
  refine loopX (fun (x : Str × Nat × Int × Bool × Int) a w => Fr 243 [(0, .pointer (some ⟨b, 0, none⟩)), (1, .pointer (some ⟨22, 0, none⟩)), (5, .bool false), (6, .int .i64 x.2.2.2.2)] a ∧ Mem B wc ((b, 240, decL x.1 x.2.1 x.2.2.1 neg x.2.2.2.1) :: L) w ∧ Dec x.1 x.2.1 ∧ 0 < x.2.1 ∧ -400 ≤ x.2.2.1 ∧ x.2.2.1 ≤ 20 ∧ x.2.2.2.2 ≤ 27 * 4000 ∧ -27 * 5000 + 27 * ((10 * (-x.2.2.1).toNat + (9 - fd x.1)) : Nat) ≤ x.2.2.2.2) (fun x => 10 * (-x.2.2.1).toNat + (9 - fd x.1)) ((ds, m, dq, tr, e)) ?_ (fun x a w hI => ?_)
  · exact ⟨hF, hM, hD, h0, by simp only; omega, by simp only; omega, by simp only; omega, by simp only; omega⟩
  clear hF hM
  clear hq1 hq2 he1 he2 hfd hnpos
  clear hD h0 hl
  obtain ⟨ds, m, dq, tr, e⟩ := x
  obtain ⟨hF, hM, hD, h0, hq1, hq2, he1, he2⟩ := hI
  simp only at hF hM hD h0 hq1 hq2 he1 he2
  have hl := hD.len
  have hfd := hD.fd_rng h0
  revert a; refine Sq (Sq ?_)
  obtain ⟨c, hc, hcd⟩ := hD.at h0; rcases (show dq < 0 ∨ (0 < dq) ∨ (dq = 0 ∧ c.toNat < 53) ∨ (dq = 0 ∧ 53 ≤ c.toNat) by omega) with hk | hk | hk | hk
  ·
   have hgo : dq < 0 ∨ dq = 0 ∧ c.toNat < 53 := .inl hk
   refine Rg (Mv 3 rfl (Gv rfl (fun _ hF => gives_load hF hM 0 rfl Tryz.underlying3 rfl rfl rfl (dget_dp hl)) (Bv rfl rfl (decide_eq_true (show dq < 0 by omega)) (Md 15 [0,1,5,6,80] rfl (Nx (Ct rfl (Sk (Nx (Bo (Sq (Rg (Md 1 [0,1,5,6] rfl (Nx ?_))))))))))))); intro a hF
   refine cutF (fun a w => ∃ k : Nat, Fr 243 [(0, .pointer (some ⟨b, 0, none⟩)), (1, .pointer (some ⟨22, 0, none⟩)), (5, .bool false), (6, .int .i64 e), (9, .int .i64 (k : Int))] a ∧ Mem B wc ((b, 240, decL ds m dq neg tr) :: L) w ∧ 1 ≤ k ∧ k ≤ 27 ∧ (dq = 0 → k = 1)) (fun a w h => ?_) ?_
   ·
    clear hF hM
    obtain ⟨k, hF, hM, hk1, hk27, hk0⟩ := h
    have hld := ldel_le (ds := ds) (m := m) hk1 (show k ≤ 60 by omega)
    revert a; refine Sq (Rg (Mv 2 rfl (Cl rfl Tryz.func202 (by kernel_rfl) rfl (shiftL_walk (k := k) hG hD h0 (by omega) (by omega) (by omega) hM) ?_)))
    clear hM; intro w v hR
    obtain ⟨rfl, ds', out, m', tr', hD', h0', hdo, hol, hwo, _, hf, _, _, hM⟩ := hR
    have hgo' : dq < 0 ∨ dq = 0 ∧ ldel (ds.take m) k = 0 := hgo.imp id (fun h => ⟨h.1, by rw [hk0 h.1]; exact ldel_one hD h0 hc h.2⟩)
    have hdec := left_less hD h0 hD' h0' (by omega) hdo hol hwo hf hgo'
    have hd20 : dq + ((ldel (ds.take m) k : Nat) : Int) ≤ 20 := by rcases hgo' with h | h <;> omega
    refine Md 0 [0,1,5,6,9] rfl (Nx (Rg (Mv 2 rfl (Sm (e - ((k : Nat) : Int)) rfl (by omega) (Md 1 [0,1,5,6] rfl (Nb (Kp [0,1,5,6] rfl ?_))))))); intro a hF
    exact ⟨(ds', m', dq + ((ldel (ds.take m) k : Nat) : Int), tr', e - (k : Int)), ⟨hF, hM, hD', h0', by simp only; omega, by simp only; omega, by simp only; omega, by simp only; omega⟩, hdec⟩
   revert a; refine Sq (Sl (by kernel_rfl) (by kernel_rfl) ?_)
   replace hM := hM.drew
   skip
   refine Ms 3 rfl (Gs rfl (fun _ hF => gives_load hF hM 0 rfl Tryz.underlying3 rfl rfl rfl (dget_dp hl)) (Gs rfl (fun _ hF => gives_neg hF rfl rfl (-dq) (by rw [wrap_i64 (by omega) (by omega)]; omega) _) (Gs rfl (fun _ hF => gives_load1 hF rfl Tryz.underlying133 rfl rfl ((hM.below.cell h25).trans hp0)) (Ms 2 rfl (Sd (Kp [0,1,5,6,88] rfl (Nx (Cd rfl (fun ht => ?_) ((fun ht => ?_))))))))))
   ·
    have h9 : (9 : Int) ≤ -dq := of_decide_eq_true ht
    refine Rg (Md 1 [0,1,5,6,9] rfl ?_); intro a hF
    first | exact ⟨27, hF, hM, by decide, by decide, fun h => by omega⟩ | exact ⟨k, hF, hM, hk1, hk27, fun h => hk0 (by omega)⟩
   have h9 : ¬ (9 : Int) ≤ -dq := of_decide_eq_false ht
   obtain ⟨j, hj⟩ : ∃ j : Nat, -dq = (j : Int) := ⟨(-dq).toNat, by omega⟩
   obtain ⟨k, hjk, hk1, hk27, hk3, hk0⟩ := powtab_at (show j < 9 by omega)
   refine Sl (by kernel_rfl) (by kernel_rfl) ?_
   replace hM := hM.drew
   skip
   refine Gs rfl (fun _ hF => gives_load1 hF rfl Tryz.underlying133 rfl rfl ((hM.below.cell h25).trans hp0)) (Ms 3 rfl (Gs rfl (fun _ hF => gives_load hF hM 0 rfl Tryz.underlying3 rfl rfl rfl (dget_dp hl)) (Gs rfl (fun _ hF => gives_neg hF rfl rfl (-dq) (by rw [wrap_i64 (by omega) (by omega)]; omega) _) (Gs rfl (fun _ hF => gives_indexAddrS (sz := 1) (j) hF rfl Tryz.underlying133 (by kernel_rfl) rfl rfl hj (by omega) _) (Gs rfl (fun _ hF => gives_load1 hF rfl Tryz.underlying3 rfl rfl (show World.cell? _ _ = some (.int .i64 (k : Int)) by rw [Nat.mul_one]; exact (hM.below.cell hbp).trans (hp1 j _ hjk))) (Ms 1 rfl (Sd (Kp [0,1,5,6,9] rfl ?_)))))))); intro a hF
   first | exact ⟨27, hF, hM, by decide, by decide, fun h => by omega⟩ | exact ⟨k, hF, hM, hk1, hk27, fun h => hk0 (by omega)⟩
  ·
   refine Rg (Mv 3 rfl (Gv rfl (fun _ hF => gives_load hF hM 0 rfl Tryz.underlying3 rfl rfl rfl (dget_dp hl)) (Bv rfl rfl (decide_eq_false (show ¬ (dq < 0) by omega)) (Mv 4 rfl (Gv rfl (fun _ hF => gives_load hF hM 0 rfl Tryz.underlying3 rfl rfl rfl (dget_dp hl)) (Mv 1 rfl ?_)))))); intro a hF
   rw [show (dq == 0) = false by simp; omega] at hF
   revert a; refine Md 9 [0,1,5,6,80] rfl (Nx (Cf rfl (Ex (Ot (Ot (Ob (Nx (Sq (Rg (Mv 1 rfl (Sm (e - 1) rfl (by omega) (Md 1 [0,1,5,6] rfl (Nx ?_))))))))))))); intro a hF
   refine cut (fun a w => ∃ (ds : Str) (m : Nat) (dq : Int) (tr : Bool) (e : Int), Fr 243 [(0, .pointer (some ⟨b, 0, none⟩)), (1, .pointer (some ⟨22, 0, none⟩)), (5, .bool false), (6, .int .i64 e)] a ∧ Mem B wc ((b, 240, decL ds m dq neg tr) :: L) w ∧ Dec ds m ∧ 0 < m ∧ -2 ^ 30 ≤ dq ∧ dq ≤ 2 ^ 30) ?_ (fun a w h => ?_)
   ·
    revert a; refine Sq (Rg (Mv 4 rfl (Gv rfl (fun _ hF => gives_load1 hF rfl Tryz.underlying3 rfl rfl ((hM.below.cell h22).trans hG.tabs.bias)) (Sm (-1022) rfl (by omega) (Md 1 [0,1,5,6,111] rfl (Nx (D1 rfl ?_ ((fun ht => ?_)))))))))
    ·
     refine Sk (Kp [0,1,5,6] rfl ?_); intro a hF
     first | exact ⟨_, _, _, _, _, hF, hM, hD', h0', by omega, by omega⟩ | exact ⟨_, _, _, _, _, hF, hM, hD, h0, by omega, by omega⟩
    have hlt := of_decide_eq_true ht
    obtain ⟨N, hN⟩ : ∃ N : Nat, -1022 - (e - 1) = (N : Int) := ⟨(-1022 - (e - 1)).toNat, by omega⟩
    refine Sq (Rg (Mv 3 rfl (Gv rfl (fun _ hF => gives_load1 hF rfl Tryz.underlying3 rfl rfl ((hM.below.cell h22).trans hG.tabs.bias)) (Sm (-1022) rfl (by omega) (Mv 1 rfl (Sm (((N : Nat) : Int)) rfl (by omega) (Md 1 [0,1,5,6,10] rfl (Nx (Sq (Rg (Mv 2 rfl (Gv rfl (fun _ hF => gives_neg hF rfl rfl (-((N : Nat) : Int)) (by rw [wrap_i64 (by omega) (by omega)]; omega) _) (Cl rfl Tryz.func202 (by kernel_rfl) rfl (shiftFar_walk (K := N) hD h0 (by omega) (by omega) (by omega) hM) ?_)))))))))))))
    clear hM; intro w v hR
    obtain ⟨rfl, ds', m', dp', tr', hD', h0', hdp1, hdp2, hM⟩ := hR
    refine Md 0 [0,1,5,6,10] rfl (Nx (Rg (Md 4 [0,1,5,6] rfl ?_))); intro a hF
    first | exact ⟨_, _, _, _, _, hF, hM, hD', h0', by omega, by omega⟩ | exact ⟨_, _, _, _, _, hF, hM, hD, h0, by omega, by omega⟩
   clear hF hM
   clear hD h0 hl hq1 hq2 he1 he2 hfd
   obtain ⟨ds, m, dq, tr, e, hF, hM, hD, h0, hq1, hq2⟩ := h
   have hl := hD.len
   revert a; refine Sq (Sq (Sl (by kernel_rfl) (by kernel_rfl) ?_))
   replace hM := hM.drew
   skip
   refine Ms 4 rfl (Gs rfl (fun _ hF => gives_load1 hF rfl Tryz.underlying3 rfl rfl ((hM.below.cell h22).trans hG.tabs.bias)) (Ms 4 rfl (Gs rfl (fun _ hF => gives_load1 hF rfl Tryz.underlying157 rfl rfl ((hM.below.cell h22).trans hG.tabs.expb)) (Gs rfl (fun _ hF => gives_shl (11) (_) hF rfl rfl rfl rfl rfl _) (Ms 2 rfl (Sd (Kp [0,1,5,6,138] rfl (Nx (C0 rfl ?_ ?_)))))))))
   ·
    refine Wg (Gt (Jt (Kp [0,1] rfl ?_))); intro a hF
    exact ⟨(), .inr ⟨rfl, _, _, _, _, hF, hM, hl⟩⟩
   refine Sk (Nx (Sq (Rg (Mv 4 rfl (Gv rfl (fun _ hF => gives_load1 hF rfl Tryz.underlying157 rfl rfl ((hM.below.cell h22).trans hG.tabs.mant)) (Mv 1 rfl (Gv rfl (fun _ hF => gives_conv hF rfl Tryz.underlying157 Tryz.underlying3 rfl (((53 : Nat) : Int)) (by decide) _) (Cl rfl Tryz.func202 (by kernel_rfl) rfl (shiftL_walk (k := 53) hG hD h0 (by decide) (by decide) (by omega) hM) ?_))))))))
   clear hM; intro w v hR
   obtain ⟨rfl, ds', out, m', tr', hD', h0', hdo, hol, hwo, _, hf, _, _, hM⟩ := hR
   clear hl
   have hl := hD'.len
   refine Md 0 [0,1,5,6] rfl (Nx (Sq (Rg (Mv 1 rfl (Cl rfl Tryz.func245 (by kernel_rfl) rfl (rounded_walk hD' hM) ?_)))))
   clear hM; intro w v hR
   obtain ⟨⟨z, rfl⟩, hM⟩ := hR
   refine Md 1 [0,1,5,6,7] rfl (Nx (Sq (Sq (Rg (Mv 4 rfl (Gv rfl (fun _ hF => gives_load1 hF rfl Tryz.underlying157 rfl rfl ((hM.below.cell h22).trans hG.tabs.mant)) (Gv rfl (fun _ hF => gives_shl (52) (_) hF rfl rfl rfl rfl rfl _) (Md 1 [0,1,5,6,7,155] rfl (Nx (D0 rfl ?_ ?_))))))))))
   ·
    refine Sk (Nx (Sq (Sq (Rg (Mv 4 rfl (Gv rfl (fun _ hF => gives_load1 hF rfl Tryz.underlying157 rfl rfl ((hM.below.cell h22).trans hG.tabs.mant)) (Gv rfl (fun _ hF => gives_shl (52) (_) hF rfl rfl rfl rfl rfl _) (Gv rfl (fun _ hF => gives_bits (_) hF rfl rfl rfl rfl _) (Md 1 [0,1,5,6,7,180] rfl (Nx (D0 rfl ?_ ?_)))))))))))
    ·
     refine Sk (Nx (Sq (Wg (Gt (Jt (Kp [0,1,5,6,7] rfl ?_)))))); intro a hF
     exact ⟨(), .inl ⟨rfl, _, _, _, _, _, _, _, hF, hM, hl⟩⟩
    refine Rg (Mv 3 rfl (Gv rfl (fun _ hF => gives_load1 hF rfl Tryz.underlying3 rfl rfl ((hM.below.cell h22).trans hG.tabs.bias)) (Md 1 [0,1,5,6,7] rfl (Nx (Sq (Wg (Gt (Jt (Kp [0,1,5,6,7] rfl ?_))))))))); intro a hF
    exact ⟨(), .inl ⟨rfl, _, _, _, _, _, _, _, hF, hM, hl⟩⟩
   refine Sq (Rg (Mv 1 rfl (Gv rfl (fun _ hF => gives_shr (1) (_) hF rfl rfl rfl rfl rfl _) (Md 1 [0,1,5,6,7] rfl (Nx (Sq (Rg (Md 3 [0,1,5,6,7] rfl (Nx (Sq (Sl (by kernel_rfl) (by kernel_rfl) ?_)))))))))))
   replace hM := hM.drew
   skip
   refine Ms 4 rfl (Gs rfl (fun _ hF => gives_load1 hF rfl Tryz.underlying3 rfl rfl ((hM.below.cell h22).trans hG.tabs.bias)) (Ms 4 rfl (Gs rfl (fun _ hF => gives_load1 hF rfl Tryz.underlying157 rfl rfl ((hM.below.cell h22).trans hG.tabs.expb)) (Gs rfl (fun _ hF => gives_shl (11) (_) hF rfl rfl rfl rfl rfl _) (Ms 2 rfl (Sd (Kp [0,1,5,6,7,172] rfl (Nx (C0 rfl ?_ ?_)))))))))
   ·
    refine Wg (Gt (Jt (Kp [0,1] rfl ?_))); intro a hF
    exact ⟨(), .inr ⟨rfl, _, _, _, _, hF, hM, hl⟩⟩
   refine Sk (Nx (Sq (Sq (Rg (Mv 4 rfl (Gv rfl (fun _ hF => gives_load1 hF rfl Tryz.underlying157 rfl rfl ((hM.below.cell h22).trans hG.tabs.mant)) (Gv rfl (fun _ hF => gives_shl (52) (_) hF rfl rfl rfl rfl rfl _) (Gv rfl (fun _ hF => gives_bits (_) hF rfl rfl rfl rfl _) (Md 1 [0,1,5,6,7,180] rfl (Nx (D0 rfl ?_ ?_)))))))))))
   ·
    refine Sk (Nx (Sq (Wg (Gt (Jt (Kp [0,1,5,6,7] rfl ?_)))))); intro a hF
    exact ⟨(), .inl ⟨rfl, _, _, _, _, _, _, _, hF, hM, hl⟩⟩
   refine Rg (Mv 3 rfl (Gv rfl (fun _ hF => gives_load1 hF rfl Tryz.underlying3 rfl rfl ((hM.below.cell h22).trans hG.tabs.bias)) (Md 1 [0,1,5,6,7] rfl (Nx (Sq (Wg (Gt (Jt (Kp [0,1,5,6,7] rfl ?_))))))))); intro a hF
   exact ⟨(), .inl ⟨rfl, _, _, _, _, _, _, _, hF, hM, hl⟩⟩
  ·
   have hgo : dq < 0 ∨ dq = 0 ∧ c.toNat < 53 := .inr hk
   refine Rg (Mv 3 rfl (Gv rfl (fun _ hF => gives_load hF hM 0 rfl Tryz.underlying3 rfl rfl rfl (dget_dp hl)) (Bv rfl rfl (decide_eq_false (show ¬ (dq < 0) by omega)) (Mv 4 rfl (Gv rfl (fun _ hF => gives_load hF hM 0 rfl Tryz.underlying3 rfl rfl rfl (dget_dp hl)) (Mv 1 rfl ?_)))))); intro a hF
   rw [show (dq == 0) = true by simp; omega] at hF
   revert a; refine Mv 4 rfl (Gv rfl (fun _ hF => gives_indexAddrD (0) hF rfl rfl rfl rfl (by decide) _) (Gv rfl (fun _ hF => gives_load hF hM 0 rfl Tryz.underlying5 rfl rfl rfl (dget_dig (hc))) (Bv rfl rfl (decide_eq_true (show (c.toNat : Int) < 53 by omega)) (Md 2 [0,1,5,6,80] rfl (Nx (Ct rfl (Sk (Nx (Bo (Sq (Rg (Md 1 [0,1,5,6] rfl (Nx ?_))))))))))))); intro a hF
   refine cutF (fun a w => ∃ k : Nat, Fr 243 [(0, .pointer (some ⟨b, 0, none⟩)), (1, .pointer (some ⟨22, 0, none⟩)), (5, .bool false), (6, .int .i64 e), (9, .int .i64 (k : Int))] a ∧ Mem B wc ((b, 240, decL ds m dq neg tr) :: L) w ∧ 1 ≤ k ∧ k ≤ 27 ∧ (dq = 0 → k = 1)) (fun a w h => ?_) ?_
   ·
    clear hF hM
    obtain ⟨k, hF, hM, hk1, hk27, hk0⟩ := h
    have hld := ldel_le (ds := ds) (m := m) hk1 (show k ≤ 60 by omega)
    revert a; refine Sq (Rg (Mv 2 rfl (Cl rfl Tryz.func202 (by kernel_rfl) rfl (shiftL_walk (k := k) hG hD h0 (by omega) (by omega) (by omega) hM) ?_)))
    clear hM; intro w v hR
    obtain ⟨rfl, ds', out, m', tr', hD', h0', hdo, hol, hwo, _, hf, _, _, hM⟩ := hR
    have hgo' : dq < 0 ∨ dq = 0 ∧ ldel (ds.take m) k = 0 := hgo.imp id (fun h => ⟨h.1, by rw [hk0 h.1]; exact ldel_one hD h0 hc h.2⟩)
    have hdec := left_less hD h0 hD' h0' (by omega) hdo hol hwo hf hgo'
    have hd20 : dq + ((ldel (ds.take m) k : Nat) : Int) ≤ 20 := by rcases hgo' with h | h <;> omega
    refine Md 0 [0,1,5,6,9] rfl (Nx (Rg (Mv 2 rfl (Sm (e - ((k : Nat) : Int)) rfl (by omega) (Md 1 [0,1,5,6] rfl (Nb (Kp [0,1,5,6] rfl ?_))))))); intro a hF
    exact ⟨(ds', m', dq + ((ldel (ds.take m) k : Nat) : Int), tr', e - (k : Int)), ⟨hF, hM, hD', h0', by simp only; omega, by simp only; omega, by simp only; omega, by simp only; omega⟩, hdec⟩
   revert a; refine Sq (Sl (by kernel_rfl) (by kernel_rfl) ?_)
   replace hM := hM.drew
   skip
   refine Ms 3 rfl (Gs rfl (fun _ hF => gives_load hF hM 0 rfl Tryz.underlying3 rfl rfl rfl (dget_dp hl)) (Gs rfl (fun _ hF => gives_neg hF rfl rfl (-dq) (by rw [wrap_i64 (by omega) (by omega)]; omega) _) (Gs rfl (fun _ hF => gives_load1 hF rfl Tryz.underlying133 rfl rfl ((hM.below.cell h25).trans hp0)) (Ms 2 rfl (Sd (Kp [0,1,5,6,88] rfl (Nx (Cd rfl (fun ht => ?_) ((fun ht => ?_))))))))))
   ·
    have h9 : (9 : Int) ≤ -dq := of_decide_eq_true ht
    refine Rg (Md 1 [0,1,5,6,9] rfl ?_); intro a hF
    first | exact ⟨27, hF, hM, by decide, by decide, fun h => by omega⟩ | exact ⟨k, hF, hM, hk1, hk27, fun h => hk0 (by omega)⟩
   have h9 : ¬ (9 : Int) ≤ -dq := of_decide_eq_false ht
   obtain ⟨j, hj⟩ : ∃ j : Nat, -dq = (j : Int) := ⟨(-dq).toNat, by omega⟩
   obtain ⟨k, hjk, hk1, hk27, hk3, hk0⟩ := powtab_at (show j < 9 by omega)
   refine Sl (by kernel_rfl) (by kernel_rfl) ?_
   replace hM := hM.drew
   skip
   refine Gs rfl (fun _ hF => gives_load1 hF rfl Tryz.underlying133 rfl rfl ((hM.below.cell h25).trans hp0)) (Ms 3 rfl (Gs rfl (fun _ hF => gives_load hF hM 0 rfl Tryz.underlying3 rfl rfl rfl (dget_dp hl)) (Gs rfl (fun _ hF => gives_neg hF rfl rfl (-dq) (by rw [wrap_i64 (by omega) (by omega)]; omega) _) (Gs rfl (fun _ hF => gives_indexAddrS (sz := 1) (j) hF rfl Tryz.underlying133 (by kernel_rfl) rfl rfl hj (by omega) _) (Gs rfl (fun _ hF => gives_load1 hF rfl Tryz.underlying3 rfl rfl (show World.cell? _ _ = some (.int .i64 (k : Int)) by rw [Nat.mul_one]; exact (hM.below.cell hbp).trans (hp1 j _ hjk))) (Ms 1 rfl (Sd (Kp [0,1,5,6,9] rfl ?_)))))))); intro a hF
   first | exact ⟨27, hF, hM, by decide, by decide, fun h => by omega⟩ | exact ⟨k, hF, hM, hk1, hk27, fun h => hk0 (by omega)⟩
  refine Rg (Mv 3 rfl (Gv rfl (fun _ hF => gives_load hF hM 0 rfl Tryz.underlying3 rfl rfl rfl (dget_dp hl)) (Bv rfl rfl (decide_eq_false (show ¬ (dq < 0) by omega)) (Mv 4 rfl (Gv rfl (fun _ hF => gives_load hF hM 0 rfl Tryz.underlying3 rfl rfl rfl (dget_dp hl)) (Mv 1 rfl ?_)))))); intro a hF
  rw [show (dq == 0) = true by simp; omega] at hF
  revert a; refine Mv 4 rfl (Gv rfl (fun _ hF => gives_indexAddrD (0) hF rfl rfl rfl rfl (by decide) _) (Gv rfl (fun _ hF => gives_load hF hM 0 rfl Tryz.underlying5 rfl rfl rfl (dget_dig (hc))) (Bv rfl rfl (decide_eq_false (show ¬ ((c.toNat : Int) < 53) by omega)) (Md 2 [0,1,5,6,80] rfl (Nx (Cf rfl (Ex (Ot (Ot (Ob (Nx (Sq (Rg (Mv 1 rfl (Sm (e - 1) rfl (by omega) (Md 1 [0,1,5,6] rfl (Nx ?_))))))))))))))))); intro a hF
  refine cut (fun a w => ∃ (ds : Str) (m : Nat) (dq : Int) (tr : Bool) (e : Int), Fr 243 [(0, .pointer (some ⟨b, 0, none⟩)), (1, .pointer (some ⟨22, 0, none⟩)), (5, .bool false), (6, .int .i64 e)] a ∧ Mem B wc ((b, 240, decL ds m dq neg tr) :: L) w ∧ Dec ds m ∧ 0 < m ∧ -2 ^ 30 ≤ dq ∧ dq ≤ 2 ^ 30) ?_ (fun a w h => ?_)
  ·
   revert a; refine Sq (Rg (Mv 4 rfl (Gv rfl (fun _ hF => gives_load1 hF rfl Tryz.underlying3 rfl rfl ((hM.below.cell h22).trans hG.tabs.bias)) (Sm (-1022) rfl (by omega) (Md 1 [0,1,5,6,111] rfl (Nx (D1 rfl ?_ ((fun ht => ?_)))))))))
   ·
    refine Sk (Kp [0,1,5,6] rfl ?_); intro a hF
    first | exact ⟨_, _, _, _, _, hF, hM, hD', h0', by omega, by omega⟩ | exact ⟨_, _, _, _, _, hF, hM, hD, h0, by omega, by omega⟩
   have hlt := of_decide_eq_true ht
   obtain ⟨N, hN⟩ : ∃ N : Nat, -1022 - (e - 1) = (N : Int) := ⟨(-1022 - (e - 1)).toNat, by omega⟩
   refine Sq (Rg (Mv 3 rfl (Gv rfl (fun _ hF => gives_load1 hF rfl Tryz.underlying3 rfl rfl ((hM.below.cell h22).trans hG.tabs.bias)) (Sm (-1022) rfl (by omega) (Mv 1 rfl (Sm (((N : Nat) : Int)) rfl (by omega) (Md 1 [0,1,5,6,10] rfl (Nx (Sq (Rg (Mv 2 rfl (Gv rfl (fun _ hF => gives_neg hF rfl rfl (-((N : Nat) : Int)) (by rw [wrap_i64 (by omega) (by omega)]; omega) _) (Cl rfl Tryz.func202 (by kernel_rfl) rfl (shiftFar_walk (K := N) hD h0 (by omega) (by omega) (by omega) hM) ?_)))))))))))))
   clear hM; intro w v hR
   obtain ⟨rfl, ds', m', dp', tr', hD', h0', hdp1, hdp2, hM⟩ := hR
   refine Md 0 [0,1,5,6,10] rfl (Nx (Rg (Md 4 [0,1,5,6] rfl ?_))); intro a hF
   first | exact ⟨_, _, _, _, _, hF, hM, hD', h0', by omega, by omega⟩ | exact ⟨_, _, _, _, _, hF, hM, hD, h0, by omega, by omega⟩
  clear hF hM
  clear hD h0 hl hq1 hq2 he1 he2 hfd
  obtain ⟨ds, m, dq, tr, e, hF, hM, hD, h0, hq1, hq2⟩ := h
  have hl := hD.len
  revert a; refine Sq (Sq (Sl (by kernel_rfl) (by kernel_rfl) ?_))
  replace hM := hM.drew
  skip
  refine Ms 4 rfl (Gs rfl (fun _ hF => gives_load1 hF rfl Tryz.underlying3 rfl rfl ((hM.below.cell h22).trans hG.tabs.bias)) (Ms 4 rfl (Gs rfl (fun _ hF => gives_load1 hF rfl Tryz.underlying157 rfl rfl ((hM.below.cell h22).trans hG.tabs.expb)) (Gs rfl (fun _ hF => gives_shl (11) (_) hF rfl rfl rfl rfl rfl _) (Ms 2 rfl (Sd (Kp [0,1,5,6,138] rfl (Nx (C0 rfl ?_ ?_)))))))))
  ·
   refine Wg (Gt (Jt (Kp [0,1] rfl ?_))); intro a hF
   exact ⟨(), .inr ⟨rfl, _, _, _, _, hF, hM, hl⟩⟩
  refine Sk (Nx (Sq (Rg (Mv 4 rfl (Gv rfl (fun _ hF => gives_load1 hF rfl Tryz.underlying157 rfl rfl ((hM.below.cell h22).trans hG.tabs.mant)) (Mv 1 rfl (Gv rfl (fun _ hF => gives_conv hF rfl Tryz.underlying157 Tryz.underlying3 rfl (((53 : Nat) : Int)) (by decide) _) (Cl rfl Tryz.func202 (by kernel_rfl) rfl (shiftL_walk (k := 53) hG hD h0 (by decide) (by decide) (by omega) hM) ?_))))))))
  clear hM; intro w v hR
  obtain ⟨rfl, ds', out, m', tr', hD', h0', hdo, hol, hwo, _, hf, _, _, hM⟩ := hR
  clear hl
  have hl := hD'.len
  refine Md 0 [0,1,5,6] rfl (Nx (Sq (Rg (Mv 1 rfl (Cl rfl Tryz.func245 (by kernel_rfl) rfl (rounded_walk hD' hM) ?_)))))
  clear hM; intro w v hR
  obtain ⟨⟨z, rfl⟩, hM⟩ := hR
  refine Md 1 [0,1,5,6,7] rfl (Nx (Sq (Sq (Rg (Mv 4 rfl (Gv rfl (fun _ hF => gives_load1 hF rfl Tryz.underlying157 rfl rfl ((hM.below.cell h22).trans hG.tabs.mant)) (Gv rfl (fun _ hF => gives_shl (52) (_) hF rfl rfl rfl rfl rfl _) (Md 1 [0,1,5,6,7,155] rfl (Nx (D0 rfl ?_ ?_))))))))))
  ·
   refine Sk (Nx (Sq (Sq (Rg (Mv 4 rfl (Gv rfl (fun _ hF => gives_load1 hF rfl Tryz.underlying157 rfl rfl ((hM.below.cell h22).trans hG.tabs.mant)) (Gv rfl (fun _ hF => gives_shl (52) (_) hF rfl rfl rfl rfl rfl _) (Gv rfl (fun _ hF => gives_bits (_) hF rfl rfl rfl rfl _) (Md 1 [0,1,5,6,7,180] rfl (Nx (D0 rfl ?_ ?_)))))))))))
   ·
    refine Sk (Nx (Sq (Wg (Gt (Jt (Kp [0,1,5,6,7] rfl ?_)))))); intro a hF
    exact ⟨(), .inl ⟨rfl, _, _, _, _, _, _, _, hF, hM, hl⟩⟩
   refine Rg (Mv 3 rfl (Gv rfl (fun _ hF => gives_load1 hF rfl Tryz.underlying3 rfl rfl ((hM.below.cell h22).trans hG.tabs.bias)) (Md 1 [0,1,5,6,7] rfl (Nx (Sq (Wg (Gt (Jt (Kp [0,1,5,6,7] rfl ?_))))))))); intro a hF
   exact ⟨(), .inl ⟨rfl, _, _, _, _, _, _, _, hF, hM, hl⟩⟩
  refine Sq (Rg (Mv 1 rfl (Gv rfl (fun _ hF => gives_shr (1) (_) hF rfl rfl rfl rfl rfl _) (Md 1 [0,1,5,6,7] rfl (Nx (Sq (Rg (Md 3 [0,1,5,6,7] rfl (Nx (Sq (Sl (by kernel_rfl) (by kernel_rfl) ?_)))))))))))
  replace hM := hM.drew
  skip
  refine Ms 4 rfl (Gs rfl (fun _ hF => gives_load1 hF rfl Tryz.underlying3 rfl rfl ((hM.below.cell h22).trans hG.tabs.bias)) (Ms 4 rfl (Gs rfl (fun _ hF => gives_load1 hF rfl Tryz.underlying157 rfl rfl ((hM.below.cell h22).trans hG.tabs.expb)) (Gs rfl (fun _ hF => gives_shl (11) (_) hF rfl rfl rfl rfl rfl _) (Ms 2 rfl (Sd (Kp [0,1,5,6,7,172] rfl (Nx (C0 rfl ?_ ?_)))))))))
  ·
   refine Wg (Gt (Jt (Kp [0,1] rfl ?_))); intro a hF
   exact ⟨(), .inr ⟨rfl, _, _, _, _, hF, hM, hl⟩⟩
  refine Sk (Nx (Sq (Sq (Rg (Mv 4 rfl (Gv rfl (fun _ hF => gives_load1 hF rfl Tryz.underlying157 rfl rfl ((hM.below.cell h22).trans hG.tabs.mant)) (Gv rfl (fun _ hF => gives_shl (52) (_) hF rfl rfl rfl rfl rfl _) (Gv rfl (fun _ hF => gives_bits (_) hF rfl rfl rfl rfl _) (Md 1 [0,1,5,6,7,180] rfl (Nx (D0 rfl ?_ ?_)))))))))))
  ·
   refine Sk (Nx (Sq (Wg (Gt (Jt (Kp [0,1,5,6,7] rfl ?_)))))); intro a hF
   exact ⟨(), .inl ⟨rfl, _, _, _, _, _, _, _, hF, hM, hl⟩⟩
  refine Rg (Mv 3 rfl (Gv rfl (fun _ hF => gives_load1 hF rfl Tryz.underlying3 rfl rfl ((hM.below.cell h22).trans hG.tabs.bias)) (Md 1 [0,1,5,6,7] rfl (Nx (Sq (Wg (Gt (Jt (Kp [0,1,5,6,7] rfl ?_))))))))); intro a hF
  exact ⟨(), .inl ⟨rfl, _, _, _, _, _, _, _, hF, hM, hl⟩⟩
end Go.Sx
namespace Go.Sx
open Go.RowKit Go.Proofs Js Go.Proofs.YtelonenjneonlaaGreatDoorW.PrintWords
theorem dec_zero : Dec (List.replicate 800 0) 0 := ⟨List.length_replicate, by decide, fun c hc => by simp at hc, fun h => absurd h (by decide)⟩
set_option maxRecDepth 100000 in
theorem atof64_walk (s : Str) (hs : s.length ≤ 2 ^ 40) (hs0 : s ≠ []) (hn : ∀ c ∈ s, numc c = true) (w0 : World) (hV : VchB w0) :
    Calls Tryz.prog 184 #[.string (mkS s)] w0 (Ret fun v w' => (∃ (f : Nat) (n : Int) (er : Value), v = .tuple #[.float .f64 f, .int .i64 n, er] ∧ ErOk er) ∧ Below w0.heap.size w0 w') := by
 have hM : Mem w0.heap.size w0 [] w0 := Mem.start (Nat.le_refl _)
 have hT := Glob.tabs hV
 have h20 : 20 < w0.heap.size := by have := hT.lt; omega
 refine enter (l := [.string (mkS s)]) 142 Tryz.func184 rfl rfl (fun a hF => ?_)
 replace hF : Fr 143 [(0, .string (mkS s))] a := hF
 revert a; refine Sq (Rg (Md 3 [0,4] rfl (Nx (Sq (Sq (Rg (Mv 1 rfl (Cm hM rfl Tryz.func205 (by kernel_rfl) rfl (special_walk s (by omega) _) ?_))))))))
 clear hM; intro w v hR hM hBe
 obtain ⟨sf, sn, sok, rfl⟩ := hR
 refine Md 7 [0,4,5,6,7] rfl (Nx (Sq (Rg (Md 1 [0,4,5,6,32] rfl (Nx (C0 rfl ?_ ?_))))))
 · exact Sq (Rg (Md 5 [2,3,4] rfl (Nx (Re (Rt (Y3 rfl rfl rfl rfl ⟨_, rfl, ⟨_, _, _, rfl, by first | exact her | exact her1 | exact her2 | exact .inl rfl | exact .inr ⟨1, .inl rfl, rfl⟩ | exact .inr ⟨2, .inr rfl, rfl⟩⟩, hM.below⟩))))))
 refine Sk (Nx (Sq (Rg (Mv 1 rfl (Cm hM rfl Tryz.func206 (by kernel_rfl) rfl (readFloat_walk s (by omega) hs0 hn _) ?_)))))
 clear hM; intro w v hR hM hBe
 obtain ⟨z, p, ng, tr, nn, ok, hnn, rfl⟩ := hR
 refine Md 15 [0,3,4,8,9,10,11,12,13] rfl (Nx (Sq (Sq (Rg (Md 2 [0,3,4,8,9,10,11,12,46] rfl (Nx (C0 rfl ?_ ?_)))))))
 · exact Sq (Rg (Mv 1 rfl (Gv rfl (fun _ hF => gives_mkIface hF rfl Tryz.underlying168 rfl rfl _) (Md 3 [2,3,4] rfl (Nx (Re (Rt (Y3 rfl rfl rfl rfl ⟨_, rfl, ⟨_, _, _, rfl, by first | exact her | exact her1 | exact her2 | exact .inl rfl | exact .inr ⟨1, .inl rfl, rfl⟩ | exact .inr ⟨2, .inr rfl, rfl⟩⟩, hM.below⟩))))))))
 refine Sk (Nx (Sq (Sq (Rg (Md 1 [0,3,4,8,9,10,11,49] rfl (Nx (Cf rfl (Sk (Nx ?_))))))))); intro a hF
 refine cutF (fun a w => Fr 143 [(0, .string (mkS s)), (3, .int .i64 (nn : Int)), (4, .nilIface)] a ∧ Mem w0.heap.size w0 [] w) (fun a w h => ?_) ?_
 ·
  clear hF hM
  obtain ⟨hF, hM⟩ := h
  refine seq (region ?_)
  refine op_alloc hF hM rfl (vs := decL (List.replicate 800 0) 0 0 false false) rfl rfl rfl (by kernel_rfl) ?_; clear hF hM a; intro a w b23 hF hM
  revert a; refine Md 0 [0,3,4,23] rfl (Nx (Sq (Sq (Rg (Mv 2 rfl ?_))))); intro a hF
  refine op_sliceTo_str hF rfl (nn) rfl rfl rfl Tryz.underlying9 rfl rfl (by first | rfl | omega) hnn ?_; clear hF a; intro a hF
  revert a; refine Cl rfl Tryz.func212 (by kernel_rfl) rfl (decSet_walk dec_zero (s.take nn) (by rw [List.length_take]; omega) hM) ?_
  clear hM; intro w v hR
  obtain ⟨⟨ok2, rfl⟩, ds, m, dp, neg, tr2, hD, hM⟩ := hR
  refine Md 1 [3,4,23,129] rfl (Nx (C0 rfl ?_ ?_))
  · exact Sq (Rg (Mv 1 rfl (Gv rfl (fun _ hF => gives_mkIface hF rfl Tryz.underlying168 rfl rfl _) (Md 3 [2,3,4] rfl (Nx (Re (Rt (Y3 rfl rfl rfl rfl ⟨_, rfl, ⟨_, _, _, rfl, by first | exact her | exact her1 | exact her2 | exact .inl rfl | exact .inr ⟨1, .inl rfl, rfl⟩ | exact .inr ⟨2, .inr rfl, rfl⟩⟩, hM.below⟩))))))))
  refine Sk (Nx (Sq (Rg (Cl rfl Tryz.func213 (by kernel_rfl) rfl (floatBits_walk hV hD hM) ?_))))
  clear hM; intro w v hR
  obtain ⟨⟨bz, ov, rfl⟩, ds', nd', dp', tr', hM⟩ := hR
  refine Md 5 [3,4,24,25] rfl (Nx (Sq (Rg (Mv 1 rfl ?_)))); intro a hF
  refine op_frombits hF rfl rfl rfl rfl rfl ?_; clear hF a; intro a hF
  revert a; refine Md 1 [2,3,4,25] rfl (Nx ?_); intro a hF
  refine cutF (fun a w => ∃ (f : Nat) (er : Value), Fr 143 [(2, .float .f64 f), (3, .int .i64 (nn : Int)), (4, er)] a ∧ Below w0.heap.size w0 w ∧ ErOk er) (fun a w h => ?_) ?_
  ·
   clear hF hM
   skip
   obtain ⟨f, er, hF, hB, her⟩ := h
   have hM : Mem w0.heap.size w0 [] w0 := Mem.start (Nat.le_refl _)
   replace hM : Mem w0.heap.size w0 [] w := ⟨hB, hB.size, by simp, .nil⟩
   revert a; exact Sq (Rg (Md 6 [2,3,4] rfl (Nx (Re (Y3 rfl rfl rfl rfl ⟨_, rfl, ⟨_, _, _, rfl, by first | exact her | exact her1 | exact her2 | exact .inl rfl | exact .inr ⟨1, .inl rfl, rfl⟩ | exact .inr ⟨2, .inr rfl, rfl⟩⟩, hM.below⟩)))))
  revert a; refine Sq (Rg (Md 1 [2,3,4,138] rfl (Nx (D0 rfl ?_ ?_))))
  ·
   refine Sk (Kp [2,3,4] rfl ?_); intro a hF
   first | exact ⟨_, _, hF, hM.below, .inl rfl⟩ | exact ⟨_, _, hF, hM.below, .inr ⟨1, .inl rfl, rfl⟩⟩
  refine Rg (Gv rfl (fun _ hF => gives_mkIface hF rfl Tryz.underlying168 rfl rfl _) (Md 1 [2,3,4] rfl ?_)); intro a hF
  first | exact ⟨_, _, hF, hM.below, .inl rfl⟩ | exact ⟨_, _, hF, hM.below, .inr ⟨1, .inl rfl, rfl⟩⟩
 revert a; refine Sq (Rg (Gv rfl (fun _ hF => gives_load1 hF rfl Tryz.underlying4 rfl rfl ((hM.below.cell h20).trans hT.opt)) (Md 0 [0,3,4,8,9,10,11,64] rfl (Nx (Ct rfl (Sq (Rg (Mv 1 rfl (Cm hM rfl Tryz.func214 (by kernel_rfl) rfl (bool2u_walk ng _) ?_)))))))))
 clear hM; intro w v hR hM hBe
 obtain rfl := hR
 refine Gv rfl (fun _ hF => gives_shl (63) (_) hF rfl rfl rfl rfl rfl _) (Md 1 [0,3,4,8,9,10,11,16] rfl ?_); intro a hF
 generalize IntKind.u64.wrap _ = sg at hF
 revert a; refine Nx (Sq (Sq (Rg (Md 2 [0,3,4,8,9,10,11,16,69] rfl (Nx (C0 rfl ?_ ?_))))))
 ·
  refine Sq (Rg (Mv 1 rfl (Gv rfl (fun _ hF => gives_bits (_) hF rfl rfl rfl rfl _) ?_))); intro a hF
  refine op_frombits hF rfl rfl rfl rfl rfl ?_; clear hF a; intro a hF
  revert a; exact Md 4 [2,3,4] rfl (Nx (Re (Rt (Rt (Y3 rfl rfl rfl rfl ⟨_, rfl, ⟨_, _, _, rfl, by first | exact her | exact her1 | exact her2 | exact .inl rfl | exact .inr ⟨1, .inl rfl, rfl⟩ | exact .inr ⟨2, .inr rfl, rfl⟩⟩, hM.below⟩)))))
 refine Sk (Nx (Sq (Sq (Rg (Md 2 [0,3,4,8,9,10,11,16,75] rfl (Nx (C2 rfl ?_ ((fun ht => ?_)))))))))
 ·
  refine Sq (Rg (Mv 1 rfl (Gv rfl (fun _ hF => gives_bits (_) hF rfl rfl rfl rfl _) ?_))); intro a hF
  refine op_frombits hF rfl rfl rfl rfl rfl ?_; clear hF a; intro a hF
  revert a; exact Mv 1 rfl (Gv rfl (fun _ hF => gives_mkIface hF rfl Tryz.underlying168 rfl rfl _) (Md 3 [2,3,4] rfl (Nx (Re (Rt (Rt (Y3 rfl rfl rfl rfl ⟨_, rfl, ⟨_, _, _, rfl, by first | exact her | exact her1 | exact her2 | exact .inl rfl | exact .inr ⟨1, .inl rfl, rfl⟩ | exact .inr ⟨2, .inr rfl, rfl⟩⟩, hM.below⟩)))))))
 have hp1 := of_decide_eq_false ht
 refine Sk (Nx (Sq (Sq (Rg (Md 2 [0,3,4,8,9,10,11,16,82] rfl (Nx (C2 rfl ?_ ((fun ht => ?_)))))))))
 ·
  refine Sq (Rg (Mv 1 rfl (Gv rfl (fun _ hF => gives_bits (_) hF rfl rfl rfl rfl _) ?_))); intro a hF
  refine op_frombits hF rfl rfl rfl rfl rfl ?_; clear hF a; intro a hF
  revert a; exact Md 4 [2,3,4] rfl (Nx (Re (Rt (Rt (Y3 rfl rfl rfl rfl ⟨_, rfl, ⟨_, _, _, rfl, by first | exact her | exact her1 | exact her2 | exact .inl rfl | exact .inr ⟨1, .inl rfl, rfl⟩ | exact .inr ⟨2, .inr rfl, rfl⟩⟩, hM.below⟩)))))
 have hp2 := of_decide_eq_false ht
 refine Sk (Nx ?_); intro a hF
 refine cut (fun a w => Fr 143 [(0, .string (mkS s)), (3, .int .i64 (nn : Int)), (4, .nilIface), (8, .int .u64 z), (9, .int .i64 p), (11, .bool tr), (16, .int .u64 sg)] a ∧ Mem w0.heap.size w0 [] w) ?_ (fun a w h => ?_)
 ·
  revert a; refine Sq (Rg (Md 2 [0,3,4,8,9,10,11,16,88] rfl (Nx (D0 rfl ?_ ?_))))
  ·
   refine Sk (Kp [0,3,4,8,9,11,16] rfl ?_); intro a hF
   exact ⟨hF, hM⟩
  refine Sq (Rg (Mv 3 rfl (Cm hM rfl Tryz.func216 (by kernel_rfl) rfl (exact_walk _ _ _ _ (hV.keep hM.below)) ?_)))
  clear hM; intro w v hR hM hBe
  obtain ⟨xf, xok, rfl⟩ := hR
  refine Md 5 [0,3,4,8,9,11,16,17,18] rfl (Nx (Sq (Rg (Md 1 [0,3,4,8,9,11,16,17,96] rfl (Nx (D0 rfl ?_ ?_))))))
  ·
   refine Sk (Kp [0,3,4,8,9,11,16] rfl ?_); intro a hF
   exact ⟨hF, hM⟩
  exact Sq (Rg (Md 5 [2,3,4] rfl (Nx (Re (Rt (Rt (Y3 rfl rfl rfl rfl ⟨_, rfl, ⟨_, _, _, rfl, by first | exact her | exact her1 | exact her2 | exact .inl rfl | exact .inr ⟨1, .inl rfl, rfl⟩ | exact .inr ⟨2, .inr rfl, rfl⟩⟩, hM.below⟩)))))))
 clear hF hM
 obtain ⟨hF, hM⟩ := h
 revert a; refine Sq (Rg (Mv 3 rfl (Cm hM rfl Tryz.func217 (by kernel_rfl) rfl (parse64_walk _ p _ (by omega) _ (hV.keep hM.below)) ?_)))
 clear hM; intro w v hR hM hBe
 obtain ⟨f1, er1, rfl, her1⟩ := hR
 refine Md 5 [0,3,4,8,9,11,16,19,20] rfl (Nx (Sq (Sq (Rg (Md 2 [0,3,4,8,9,16,19,20,107] rfl (Nx (C0 rfl ?_ ?_)))))))
 · exact Sq (Rg (Md 6 [2,3,4] rfl (Nx (Re (Rt (Rt (Y3 rfl rfl rfl rfl ⟨_, rfl, ⟨_, _, _, rfl, by first | exact her | exact her1 | exact her2 | exact .inl rfl | exact .inr ⟨1, .inl rfl, rfl⟩ | exact .inr ⟨2, .inr rfl, rfl⟩⟩, hM.below⟩)))))))
 refine Sk (Nx (Sq (Rg (Mv 4 rfl (Cm hM rfl Tryz.func217 (by kernel_rfl) rfl (parse64_walk _ p _ (by omega) _ (hV.keep hM.below)) ?_)))))
 clear hM; intro w v hR hM hBe
 obtain ⟨f2, er2, rfl, her2⟩ := hR
 refine Md 5 [0,3,4,19,20,21] rfl (Nx (Sq (Rg (Mv 2 rfl (Gv rfl (fun _ hF => gives_fcmp hF rfl rfl rfl rfl _) (Md 0 [0,3,4,19,20,121] rfl (Nx (D0 rfl ?_ ?_))))))))
 ·
  refine Sk (Kp [0,3,4] rfl ?_); intro a hF
  exact ⟨hF, hM⟩
 exact Sq (Rg (Md 6 [2,3,4] rfl (Nx (Re (Rt (Y3 rfl rfl rfl rfl ⟨_, rfl, ⟨_, _, _, rfl, by first | exact her | exact her1 | exact her2 | exact .inl rfl | exact .inr ⟨1, .inl rfl, rfl⟩ | exact .inr ⟨2, .inr rfl, rfl⟩⟩, hM.below⟩))))))
end Go.Sx
namespace Go.Sx
open Go.RowKit Go.Proofs Js Go.Proofs.YtelonenjneonlaaGreatDoorW.PrintWords
theorem clone_walk (s : Str) (hs : s.length ≤ 2 ^ 41) (w0 : World) :
    Calls Tryz.prog 159 #[.string (mkS s)] w0 (Ret fun v w' => v = .string (mkS s) ∧ Below w0.heap.size w0 w') := by
 have hM : Mem w0.heap.size w0 [] w0 := Mem.start (Nat.le_refl _)
 refine enter (l := [.string (mkS s)]) 17 Tryz.func159 rfl rfl (fun a hF => ?_)
 replace hF : Fr 18 [(0, .string (mkS s))] a := hF
 revert a; refine Sq (Rg (Md 1 [0] rfl (Nx (Sq (Sq (Rg (Md 3 [0,6] rfl (Nx (Cd rfl (fun ht => ?_) ((fun ht => ?_)))))))))))
 ·
  have h0 : s = [] := by have := ht; simp at this; exact this
  subst h0
  exact Sq (Rg (Md 1 [2] rfl (Nx (Re (Rt (Y1 rfl rfl ⟨_, rfl, rfl, hM.below⟩))))))
 have h0 : s ≠ [] := by have := ht; simp at this; exact this
 have hpos : 0 < s.length := List.length_pos_iff.2 h0
 refine Sk (Nx (Sq (Rg (Mv 2 rfl ?_)))); intro a hF
 refine op_makeN hF hM rfl s.length rfl rfl rfl rfl rfl rfl rfl (by omega) ?_; clear hF hM a; intro a w b vs hF hvl hM
 revert a; refine Md 1 [0,3] rfl (Nx (Sq (Rg (Mv 2 rfl ?_)))); intro a hF
 refine op_copyStr hF hM rfl rfl rfl rfl rfl rfl hvl ?_; clear hF hM a; intro a w vn hF hM
 revert a; refine Md 0 [3] rfl (Nx (Sq (Rg (Mv 1 rfl (Gv rfl (fun _ hF => gives_indexAddr0 0 hF rfl Tryz.underlying66 (by kernel_rfl) rfl rfl rfl hpos _) (Mv 2 rfl ?_)))))); intro a hF
 refine op_unsafeStr hF hM rfl rfl rfl rfl rfl rfl h0 (by omega) ?_; clear hF hM a; intro a w hF hM
 revert a; exact Md 1 [2] rfl (Nx (Re (Y1 rfl rfl ⟨_, rfl, rfl, hM.below⟩)))
end Go.Sx
namespace Go.Sx
open Go.RowKit Go.Proofs Js Go.Proofs.YtelonenjneonlaaGreatDoorW.PrintWords
theorem rangeErr_walk (q s : Str) (hs : s.length ≤ 2 ^ 41) (w0 : World) (hV : VchB w0) :
    Calls Tryz.prog 131 #[.string (mkS q), .string (mkS s)] w0 (Ret fun v w' => (∃ ad, v = .pointer (some ad)) ∧ Below w0.heap.size w0 w') := by
 have hM : Mem w0.heap.size w0 [] w0 := Mem.start (Nat.le_refl _)
 obtain ⟨tn, u, hu⟩ := (Glob.tabs hV).eRange
 have hg : 10 < w0.heap.size := by have := (Glob.tabs hV).lt; omega
 refine enter (l := [.string (mkS q), .string (mkS s)]) 9 Tryz.func131 rfl rfl (fun a hF => ?_)
 replace hF : Fr 11 [(0, .string (mkS q)), (1, .string (mkS s))] a := hF
 revert a; refine Sq (Rg (Md 1 [0,1] rfl (Nx (Sq ?_)))); intro a hF
 refine draw (by kernel_rfl) ?_
 replace hM := hM.drew
 refine take 0 hF rfl (by kernel_rfl) (by kernel_rfl) (by kernel_rfl) (fun _ _ _ h => h) rfl rfl rfl (gives_move hF rfl rfl) ?_; clear hF a; intro a hF
 refine take 1 hF rfl (by kernel_rfl) (by kernel_rfl) (by kernel_rfl) (fun _ _ _ h => h) rfl rfl rfl (gives_move hF rfl rfl) ?_; clear hF a; intro a hF
 refine call_and_load 2 3 (by decide) hF hM rfl rfl (by kernel_rfl) (by kernel_rfl) (by kernel_rfl) rfl rfl rfl rfl rfl rfl (by decide) rfl Tryz.func159 (by kernel_rfl) rfl rfl (fun _ => rfl) rfl Tryz.underlying63 rfl hu hg (clone_walk s hs _) ?_
 clear hF hM a; intro a w v hR hF hM
 obtain rfl := hR
 refine take 4 hF rfl (by kernel_rfl) (by kernel_rfl) (by kernel_rfl) (fun _ _ _ h => h) rfl rfl rfl (gives_build (vals := [(0, .string (mkS q)), (1, .string (mkS s)), (2, .iface tn u)]) (cells := [.string (mkS q), .string (mkS s), .iface tn u]) hF rfl rfl (by kernel_rfl)) ?_; clear hF a; intro a hF
 refine only_box 5 hF hM rfl (by kernel_rfl) rfl rfl rfl rfl rfl rfl ?_; clear hF hM a; intro a w bx hF hM
 refine take 6 hF rfl (by kernel_rfl) (by kernel_rfl) (by kernel_rfl) (fun _ _ _ h => h) rfl rfl rfl (gives_assign hF rfl rfl) ?_; clear hF a; intro a hF
 refine drawn (h0 := by kernel_rfl) ?_
 revert a; exact Kp [4] rfl (Nx (Re (Y1 rfl rfl ⟨_, rfl, ⟨_, rfl⟩, hM.below⟩)))
theorem syntaxErr_walk (q s : Str) (hs : s.length ≤ 2 ^ 41) (w0 : World) (hV : VchB w0) :
    Calls Tryz.prog 130 #[.string (mkS q), .string (mkS s)] w0 (Ret fun v w' => (∃ ad, v = .pointer (some ad)) ∧ Below w0.heap.size w0 w') := by
 have hM : Mem w0.heap.size w0 [] w0 := Mem.start (Nat.le_refl _)
 obtain ⟨tn, u, hu⟩ := (Glob.tabs hV).eSyntax
 have hg : 14 < w0.heap.size := by have := (Glob.tabs hV).lt; omega
 refine enter (l := [.string (mkS q), .string (mkS s)]) 9 Tryz.func130 rfl rfl (fun a hF => ?_)
 replace hF : Fr 11 [(0, .string (mkS q)), (1, .string (mkS s))] a := hF
 revert a; refine Sq (Rg (Md 1 [0,1] rfl (Nx (Sq ?_)))); intro a hF
 refine draw (by kernel_rfl) ?_
 replace hM := hM.drew
 refine take 0 hF rfl (by kernel_rfl) (by kernel_rfl) (by kernel_rfl) (fun _ _ _ h => h) rfl rfl rfl (gives_move hF rfl rfl) ?_; clear hF a; intro a hF
 refine take 1 hF rfl (by kernel_rfl) (by kernel_rfl) (by kernel_rfl) (fun _ _ _ h => h) rfl rfl rfl (gives_move hF rfl rfl) ?_; clear hF a; intro a hF
 refine call_and_load 2 3 (by decide) hF hM rfl rfl (by kernel_rfl) (by kernel_rfl) (by kernel_rfl) rfl rfl rfl rfl rfl rfl (by decide) rfl Tryz.func159 (by kernel_rfl) rfl rfl (fun _ => rfl) rfl Tryz.underlying63 rfl hu hg (clone_walk s hs _) ?_
 clear hF hM a; intro a w v hR hF hM
 obtain rfl := hR
 refine take 4 hF rfl (by kernel_rfl) (by kernel_rfl) (by kernel_rfl) (fun _ _ _ h => h) rfl rfl rfl (gives_build (vals := [(0, .string (mkS q)), (1, .string (mkS s)), (2, .iface tn u)]) (cells := [.string (mkS q), .string (mkS s), .iface tn u]) hF rfl rfl (by kernel_rfl)) ?_; clear hF a; intro a hF
 refine only_box 5 hF hM rfl (by kernel_rfl) rfl rfl rfl rfl rfl rfl ?_; clear hF hM a; intro a w bx hF hM
 refine take 6 hF rfl (by kernel_rfl) (by kernel_rfl) (by kernel_rfl) (fun _ _ _ h => h) rfl rfl rfl (gives_assign hF rfl rfl) ?_; clear hF a; intro a hF
 refine drawn (h0 := by kernel_rfl) ?_
 revert a; exact Kp [4] rfl (Nx (Re (Y1 rfl rfl ⟨_, rfl, ⟨_, rfl⟩, hM.below⟩)))
end Go.Sx
namespace Go.Sx
open Go.RowKit Go.Proofs Js Go.Proofs.YtelonenjneonlaaGreatDoorW.PrintWords
theorem toError_walk (q s : Str) (hs : s.length ≤ 2 ^ 41) (x y k : Int) (hk : k = 1 ∨ k = 2) (w0 : World) (hV : VchB w0) :
    Calls Tryz.prog 87 #[.string (mkS q), .string (mkS s), .int .i64 x, .int .i64 y, .iface 168 (.int .i64 k)] w0 (Ret fun v w' => True ∧ Below w0.heap.size w0 w') := by
 have hM : Mem w0.heap.size w0 [] w0 := Mem.start (Nat.le_refl _)
 refine enter (l := [.string (mkS q), .string (mkS s), .int .i64 x, .int .i64 y, .iface 168 (.int .i64 k)]) 38 Tryz.func87 rfl rfl (fun a hF => ?_)
 replace hF : Fr 43 [(0, .string (mkS q)), (1, .string (mkS s)), (2, .int .i64 x), (3, .int .i64 y), (4, .iface 168 (.int .i64 k))] a := hF
 revert a; refine Sq (Rg (Md 1 [0,1,2,3,4] rfl (Nx (Sq (Sq (Rg (Md 1 [0,1,2,3,4,11] rfl (Nx (Bo (Sq ?_))))))))))
 rcases hk with rfl | rfl
 ·
  refine Rg (Gv rfl (fun _ hF => gives_mkIface hF rfl Tryz.underlying168 rfl rfl _) (Gv rfl (fun _ hF => gives_eqErr hF rfl rfl rfl _) (Md 1 [0,1,2,3,4,11,12] rfl (Nx (C1 rfl (fun ht => absurd ht (by decide)) (Sq (Rg (Gv rfl (fun _ hF => gives_mkIface hF rfl Tryz.underlying168 rfl rfl _) (Gv rfl (fun _ hF => gives_eqErr hF rfl rfl rfl _) (Md 1 [0,1,2,3,4,11,19] rfl (Nx (D2 rfl (fun ht => absurd ht (by decide)) (Sq (Rg (Mv 2 rfl (Cm hM rfl Tryz.func131 (by kernel_rfl) rfl (rangeErr_walk q s hs _ hV) ?_))))))))))))))))
  clear hM; intro w v hR hM hBe
  obtain ⟨ad, rfl⟩ := hR
  exact Gv rfl (fun _ hF => gives_mkIface hF rfl Tryz.underlying99 rfl rfl _) (Md 1 [10] rfl (Nx (Re (Rb (Rt (Y1 rfl rfl ⟨_, rfl, trivial, hM.below⟩))))))
 refine Rg (Gv rfl (fun _ hF => gives_mkIface hF rfl Tryz.underlying168 rfl rfl _) (Gv rfl (fun _ hF => gives_eqErr hF rfl rfl rfl _) (Md 1 [0,1,2,3,4,11,12] rfl (Nx (D2 rfl (fun ht => absurd ht (by decide)) (Sq (Rg (Mv 2 rfl (Cm hM rfl Tryz.func130 (by kernel_rfl) rfl (syntaxErr_walk q s hs _ hV) ?_)))))))))
 clear hM; intro w v hR hM hBe
 obtain ⟨ad, rfl⟩ := hR
 exact Gv rfl (fun _ hF => gives_mkIface hF rfl Tryz.underlying99 rfl rfl _) (Md 1 [10] rfl (Nx (Re (Rb (Rt (Y1 rfl rfl ⟨_, rfl, trivial, hM.below⟩))))))
end Go.Sx
namespace Go.Sx
open Go.RowKit Go.Proofs Js Go.Proofs.YtelonenjneonlaaGreatDoorW.PrintWords
theorem prefix64_walk (s : Str) (hs : s.length ≤ 2 ^ 40) (hs0 : s ≠ []) (hn : ∀ c ∈ s, numc c = true) (w0 : World) (hV : VchB w0) :
    Calls Tryz.prog 174 #[.string (mkS s), .int .i64 64] w0 (Ret fun v w' => (∃ (f : Nat) (n : Int) (er : Value), v = .tuple #[.float .f64 f, .int .i64 n, er] ∧ ErOk er) ∧ Below w0.heap.size w0 w') := by
 have hM : Mem w0.heap.size w0 [] w0 := Mem.start (Nat.le_refl _)
 refine enter (l := [.string (mkS s), .int .i64 64]) 25 Tryz.func174 rfl rfl (fun a hF => ?_)
 replace hF : Fr 27 [(0, .string (mkS s)), (1, .int .i64 64)] a := hF
 revert a; refine Sq (Rg (Md 3 [0,1] rfl (Nx (Sq (Sq (Rg (Md 2 [0,11] rfl (Nx (C1 rfl (fun ht => absurd ht (by decide)) (Sk (Nx (Sq (Rg (Mv 1 rfl (Cm hM rfl Tryz.func184 (by kernel_rfl) rfl (atof64_walk s hs hs0 hn _ hV) ?_)))))))))))))))
 clear hM; intro w v hR hM hBe
 obtain ⟨f, n, er, rfl, her⟩ := hR
 exact Md 6 [4,5,6] rfl (Nx (Re (Y3 rfl rfl rfl rfl ⟨_, rfl, ⟨_, _, _, rfl, her⟩, hM.below⟩)))
theorem inner_walk (s : Str) (hs : s.length ≤ 2 ^ 40) (hs0 : s ≠ []) (hn : ∀ c ∈ s, numc c = true) (w0 : World) (hV : VchB w0) :
    Calls Tryz.prog 151 #[.string (mkS s), .int .i64 64] w0 (Ret fun v w' => (∃ (f : Nat) (er : Value), v = .tuple #[.float .f64 f, er] ∧ ErOk er) ∧ Below w0.heap.size w0 w') := by
 have hM : Mem w0.heap.size w0 [] w0 := Mem.start (Nat.le_refl _)
 refine enter (l := [.string (mkS s), .int .i64 64]) 21 Tryz.func151 rfl rfl (fun a hF => ?_)
 replace hF : Fr 23 [(0, .string (mkS s)), (1, .int .i64 64)] a := hF
 revert a; refine Sq (Rg (Md 2 [0,1] rfl (Nx (Sq (Rg (Mv 2 rfl (Cm hM rfl Tryz.func174 (by kernel_rfl) rfl (prefix64_walk s hs hs0 hn _ hV) ?_)))))))
 clear hM; intro w v hR hM hBe
 obtain ⟨f, n, er, rfl, her⟩ := hR
 refine Md 7 [0,6,7,8] rfl (Nx (Sq (Sq (Rg (Md 4 [6,8,19] rfl (Nx (C0 rfl ?_ ?_)))))))
 · exact Sq (Rg (Gv rfl (fun _ hF => gives_mkIface hF rfl Tryz.underlying168 rfl rfl _) (Md 2 [4,5] rfl (Nx (Re (Rt (Y2 rfl rfl rfl ⟨_, rfl, ⟨_, _, rfl, by first | exact her | exact .inr ⟨2, .inr rfl, rfl⟩⟩, hM.below⟩)))))))
 exact Sk (Nx (Sq (Rg (Md 4 [4,5] rfl (Nx (Re (Y2 rfl rfl rfl ⟨_, rfl, ⟨_, _, rfl, by first | exact her | exact .inr ⟨2, .inr rfl, rfl⟩⟩, hM.below⟩)))))))
theorem parseFloat_walk (s : Str) (hs : s.length ≤ 2 ^ 40) (hs0 : s ≠ []) (hn : ∀ c ∈ s, numc c = true) (w0 : World) (hV : VchB w0) :
    Calls Tryz.prog 124 #[.string (mkS s), .int .i64 64] w0 (Ret fun v w' => (∃ f e, v = .tuple #[.float .f64 f, e]) ∧ Below w0.heap.size w0 w') := by
 have hM : Mem w0.heap.size w0 [] w0 := Mem.start (Nat.le_refl _)
 refine enter (l := [.string (mkS s), .int .i64 64]) 20 Tryz.func124 rfl rfl (fun a hF => ?_)
 replace hF : Fr 22 [(0, .string (mkS s)), (1, .int .i64 64)] a := hF
 revert a; refine Sq (Rg (Md 2 [0,1] rfl (Nx (Sq (Rg (Mv 2 rfl (Cm hM rfl Tryz.func151 (by kernel_rfl) rfl (inner_walk s hs hs0 hn _ hV) ?_)))))))
 clear hM; intro w v hR hM hBe
 obtain ⟨f, er, rfl, her⟩ := hR
 refine Md 5 [0,1,6,7] rfl (Nx (Sq (Sq ?_)))
 rcases her with rfl | ⟨k, hk, rfl⟩
 ·
  refine Rg (Mv 1 rfl ?_); intro a hF
  refine op_neNil hF rfl rfl rfl rfl rfl ⟨_, Tryz.underlying63⟩ ?_; clear hF a; intro a hF
  revert a; exact Md 0 [0,1,6,7,15] rfl (Nx (Cf rfl (Sk (Nx (Sq (Rg (Md 3 [4,5] rfl (Nx (Re (Y2 rfl rfl rfl ⟨_, rfl, ⟨_, _, rfl⟩, hM.below⟩))))))))))
 refine Rg (Mv 1 rfl (Gv rfl (fun _ hF => gives_neNil1 hF rfl rfl _) (Md 0 [0,1,6,7,15] rfl (Nx (Ct rfl (Sq (Rg (Mv 4 rfl (Cm hM rfl Tryz.func87 (by kernel_rfl) rfl (toError_walk [80, 97, 114, 115, 101, 70, 108, 111, 97, 116] s (by omega) _ _ k hk _ (hV.keep hM.below)) ?_)))))))))
 clear hM; intro w v hR hM hBe
 exact Md 2 [4,5] rfl (Nx (Re (Rt (Y2 rfl rfl rfl ⟨_, rfl, ⟨_, _, rfl⟩, hM.below⟩))))
theorem pf : PF := fun t w hV hn hl => by
  obtain ⟨c, t', rfl, _⟩ := num_head hn
  exact parseFloat_walk _ hl (by simp) (IsNum.chars hn) w hV
end Go.Sx
