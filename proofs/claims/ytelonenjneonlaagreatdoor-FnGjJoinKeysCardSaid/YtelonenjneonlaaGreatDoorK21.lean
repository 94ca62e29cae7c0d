/- Part 21 of the proof of FnGjJoinKeys: the statement Rows.FnGjJoinKeysCardSaid; no further condition. -/
import Derived.Test.YtelonenjneonlaaGreatDoorK20
set_option linter.all false
namespace Go.Sx
open Go.RowKit Go.Proofs Js Go.Proofs.YtelonenjneonlaaGreatDoorW.PrintWords
set_option maxRecDepth 100000 in
theorem exact_walk (z p : Int) (ng : Bool) (w0 : World) (hV : VchB w0) :
    Calls Tryz.prog 216 #[.int .u64 z, .int .i64 p, .bool ng] w0 (Ret fun v w' => (∃ (f : Nat) (ok : Bool), v = .tuple #[.float .f64 f, .bool ok]) ∧ Below w0.heap.size w0 w') := by
 have hM : Mem w0.heap.size w0 [] w0 := Mem.start (Nat.le_refl _)
 have hT := Glob.tabs hV
 have h22 : 22 < w0.heap.size := by have := hT.lt; omega
 have h26 : 26 < w0.heap.size := by have := hT.lt; omega
 obtain ⟨bt, off, cp, hbt, hc0, hc1⟩ := hT.pow10
 refine enter (l := [.int .u64 z, .int .i64 p, .bool ng]) 61 Tryz.func216 rfl rfl (fun a hF => ?_)
 replace hF : Fr 64 [(0, .int .u64 z), (1, .int .i64 p), (2, .bool ng)] a := hF
 revert a; refine Sq (Rg (Md 2 [0,1,2,6,7] rfl (Nx (Sq (Sq (Rg (Mv 2 rfl (Gv rfl (fun _ hF => gives_load1 hF rfl Tryz.underlying157 rfl rfl ((hM.below.cell h22).trans hT.mant)) (Gv rfl (fun _ hF => gives_shr (52) (_) hF rfl rfl rfl rfl rfl _) (Md 1 [0,1,2,6,7,12] rfl (Nx (C0 rfl ?_ ?_))))))))))))
 · exact Re (Rt (Y2 rfl rfl rfl ⟨_, rfl, ⟨_, _, rfl⟩, hM.below⟩))
 refine Sk (Nx (Sq (Rg (Mv 1 rfl (Gv rfl (fun _ hF => gives_convIF hF rfl Tryz.underlying54 Tryz.underlying32 rfl _) (Md 1 [1,2,6,7] rfl (Nx ?_))))))); intro a hF
 refine cut (fun a w => ∃ f : Nat, Fr 64 [(1, .int .i64 p), (6, .float .f64 f), (7, .bool false)] a ∧ Mem w0.heap.size w0 [] w) ?_ (fun a w h => ?_)
 ·
  revert a; refine Sq (Rg (Md 1 [1,6,7,15] rfl (Nx (D0 rfl ?_ ?_))))
  ·
   refine Sk (Kp [1,6,7] rfl ?_); intro a hF
   exact ⟨_, hF, hM⟩
  refine Rg (Mv 1 rfl (Gv rfl (fun _ hF => gives_fneg hF rfl rfl _) (Md 1 [1,6,7] rfl ?_))); intro a hF
  exact ⟨_, hF, hM⟩
 clear hF hM
 obtain ⟨f, hF, hM⟩ := h
 revert a; refine Sq (Bo (Sq (Rg (Md 3 [1,6,7,18] rfl (Nx (C0 rfl ?_ ?_))))))
 · exact Sq (Rg (Md 3 [6,7] rfl (Nx (Re (Rb (Rt (Y2 rfl rfl rfl ⟨_, rfl, ⟨_, _, rfl⟩, hM.below⟩)))))))
 refine Sq ?_
 rcases (show ¬ 0 < p ∨ (0 < p ∧ ¬ p ≤ 37) ∨ (0 < p ∧ p ≤ 37) by omega) with hk | hk | hk
 ·
  refine Rg (Mv 1 rfl (Bv rfl rfl (decide_eq_false (show ¬ (p > 0) by omega)) (Md 5 [1,6,7,22] rfl (Nx (Cf rfl (Sq ?_))))))
  rcases (show ¬ p < 0 ∨ (p < 0 ∧ ¬ p ≥ -22) ∨ (p < 0 ∧ p ≥ -22) by omega) with hk | hk | hk
  · exact Rg (Mv 1 rfl (Bv rfl rfl (decide_eq_false (show ¬ (p < 0) by omega)) (Md 5 [1,6,7,50] rfl (Nx (Cf rfl (Sk (Nb (Nx (Re (Y2 rfl rfl rfl ⟨_, rfl, ⟨_, _, rfl⟩, hM.below⟩))))))))))
  · exact Rg (Mv 1 rfl (Bv rfl rfl (decide_eq_true (show p < 0 by omega)) (Mv 2 rfl (Bv rfl rfl (decide_eq_false (show ¬ (p ≥ -22) by omega)) (Md 2 [1,6,7,50] rfl (Nx (Cf rfl (Sk (Nb (Nx (Re (Y2 rfl rfl rfl ⟨_, rfl, ⟨_, _, rfl⟩, hM.below⟩))))))))))))
  obtain ⟨j, hj⟩ : ∃ j : Nat, -p = (j : Int) := ⟨(-p).toNat, by omega⟩
  obtain ⟨fj, hfj⟩ := hc1 j (by omega)
  refine Rg (Mv 1 rfl (Bv rfl rfl (decide_eq_true (show p < 0 by omega)) (Mv 2 rfl (Bv rfl rfl (decide_eq_true (show p ≥ -22 by omega)) (Md 2 [1,6,7,50] rfl (Nx (Ct rfl (Sq (Rg (Mv 1 rfl (Gv rfl (fun _ hF => gives_load1 hF rfl Tryz.underlying286 rfl rfl ((hM.below.cell h26).trans hc0)) (Mv 1 rfl (Gv rfl (fun _ hF => gives_neg hF rfl rfl (((j : Nat) : Int)) (by rw [wrap_i64 (by omega) (by omega)]; omega) _) (Gv rfl (fun _ hF => gives_indexAddrS (sz := 1) (j) hF rfl Tryz.underlying286 (by kernel_rfl) rfl rfl rfl (by omega) _) (Gv rfl (fun _ hF => gives_load1 hF rfl Tryz.underlying32 rfl rfl (show World.cell? _ _ = some (.float .f64 fj) by rw [Nat.mul_one]; exact (hM.below.cell hbt).trans hfj)) ?_))))))))))))))); intro a hF
  refine op_farith (.inr rfl) hF hM rfl rfl rfl rfl rfl rfl ?_; clear hF hM a; intro a w f63 hF hM
  revert a; exact Md 2 [6,7] rfl (Nx (Re (Rb (Rt (Y2 rfl rfl rfl ⟨_, rfl, ⟨_, _, rfl⟩, hM.below⟩)))))
 ·
  refine Rg (Mv 1 rfl (Bv rfl rfl (decide_eq_true (show p > 0 by omega)) (Mv 2 rfl (Bv rfl rfl (decide_eq_false (show ¬ (p ≤ 37) by omega)) (Md 2 [1,6,7,22] rfl (Nx (Cf rfl (Sq ?_))))))))
  rcases (show ¬ p < 0 ∨ (p < 0 ∧ ¬ p ≥ -22) ∨ (p < 0 ∧ p ≥ -22) by omega) with hk | hk | hk
  · exact Rg (Mv 1 rfl (Bv rfl rfl (decide_eq_false (show ¬ (p < 0) by omega)) (Md 5 [1,6,7,50] rfl (Nx (Cf rfl (Sk (Nb (Nx (Re (Y2 rfl rfl rfl ⟨_, rfl, ⟨_, _, rfl⟩, hM.below⟩))))))))))
  · exact Rg (Mv 1 rfl (Bv rfl rfl (decide_eq_true (show p < 0 by omega)) (Mv 2 rfl (Bv rfl rfl (decide_eq_false (show ¬ (p ≥ -22) by omega)) (Md 2 [1,6,7,50] rfl (Nx (Cf rfl (Sk (Nb (Nx (Re (Y2 rfl rfl rfl ⟨_, rfl, ⟨_, _, rfl⟩, hM.below⟩))))))))))))
  obtain ⟨j, hj⟩ : ∃ j : Nat, -p = (j : Int) := ⟨(-p).toNat, by omega⟩
  obtain ⟨fj, hfj⟩ := hc1 j (by omega)
  refine Rg (Mv 1 rfl (Bv rfl rfl (decide_eq_true (show p < 0 by omega)) (Mv 2 rfl (Bv rfl rfl (decide_eq_true (show p ≥ -22 by omega)) (Md 2 [1,6,7,50] rfl (Nx (Ct rfl (Sq (Rg (Mv 1 rfl (Gv rfl (fun _ hF => gives_load1 hF rfl Tryz.underlying286 rfl rfl ((hM.below.cell h26).trans hc0)) (Mv 1 rfl (Gv rfl (fun _ hF => gives_neg hF rfl rfl (((j : Nat) : Int)) (by rw [wrap_i64 (by omega) (by omega)]; omega) _) (Gv rfl (fun _ hF => gives_indexAddrS (sz := 1) (j) hF rfl Tryz.underlying286 (by kernel_rfl) rfl rfl rfl (by omega) _) (Gv rfl (fun _ hF => gives_load1 hF rfl Tryz.underlying32 rfl rfl (show World.cell? _ _ = some (.float .f64 fj) by rw [Nat.mul_one]; exact (hM.below.cell hbt).trans hfj)) ?_))))))))))))))); intro a hF
  refine op_farith (.inr rfl) hF hM rfl rfl rfl rfl rfl rfl ?_; clear hF hM a; intro a w f63 hF hM
  revert a; exact Md 2 [6,7] rfl (Nx (Re (Rb (Rt (Y2 rfl rfl rfl ⟨_, rfl, ⟨_, _, rfl⟩, hM.below⟩)))))
 refine Rg (Mv 1 rfl (Bv rfl rfl (decide_eq_true (show p > 0 by omega)) (Mv 2 rfl (Bv rfl rfl (decide_eq_true (show p ≤ 37 by omega)) (Md 2 [1,6,7,22] rfl (Nx (Ct rfl ?_))))))); intro a hF
 refine cut (fun a w => ∃ (f j : Nat), Fr 64 [(1, .int .i64 (j : Int)), (6, .float .f64 f), (7, .bool false)] a ∧ Mem w0.heap.size w0 [] w ∧ j ≤ 22) ?_ (fun a w h => ?_)
 ·
  revert a; refine Sq (Rg (Md 2 [1,6,7,30] rfl (Nx (Ce rfl (fun ht => ?_) ((fun ht => ?_))))))
  ·
   have h22p : ¬ 22 < p := of_decide_eq_false ht
   obtain ⟨j2, hj2⟩ : ∃ j : Nat, p = (j : Int) := ⟨p.toNat, by omega⟩
   refine Sk (Kp [1,6,7] rfl ?_); intro a hF
   first | exact ⟨_, 22, hF, hM, by omega⟩ | exact ⟨_, j2, by rw [← hj2]; exact hF, hM, by omega⟩
  have h22p : 22 < p := of_decide_eq_true ht
  obtain ⟨j, hj⟩ : ∃ j : Nat, p - 22 = (j : Int) := ⟨(p - 22).toNat, by omega⟩
  obtain ⟨fj, hfj⟩ := hc1 j (by omega)
  refine Sq (Rg (Mv 1 rfl (Gv rfl (fun _ hF => gives_load1 hF rfl Tryz.underlying286 rfl rfl ((hM.below.cell h26).trans hc0)) (Mv 1 rfl (Sm (((j : Nat) : Int)) rfl (by omega) (Gv rfl (fun _ hF => gives_indexAddrS (sz := 1) (j) hF rfl Tryz.underlying286 (by kernel_rfl) rfl rfl rfl (by omega) _) (Gv rfl (fun _ hF => gives_load1 hF rfl Tryz.underlying32 rfl rfl (show World.cell? _ _ = some (.float .f64 fj) by rw [Nat.mul_one]; exact (hM.below.cell hbt).trans hfj)) ?_))))))); intro a hF
  refine op_farith (.inl rfl) hF hM rfl rfl rfl rfl rfl rfl ?_; clear hF hM a; intro a w f37 hF hM
  revert a; refine Md 1 [6,7] rfl (Nx (Rg (Md 1 [1,6,7] rfl ?_))); intro a hF
  first | exact ⟨_, 22, hF, hM, by omega⟩ | exact ⟨_, j2, by rw [← hj2]; exact hF, hM, by omega⟩
 clear hF hM
 obtain ⟨f2, j, hF, hM, hj22⟩ := h
 obtain ⟨fj, hfj⟩ := hc1 j (by omega)
 revert a; refine Sq (Sq ?_)
 rcases Bool.eq_false_or_eq_true (FloatKind.f64.format.order f2 4831355200913801216 == some .gt) with hb | hb
 ·
  refine Rg (Mv 1 rfl (Gv rfl (fun _ hF => gives_fcmp hF rfl rfl rfl rfl _) ?_)); intro a hF
  rw [hb] at hF
  revert a; refine Md 4 [1,6,7,43] rfl (Nx (C0 rfl ?_ ?_))
  · exact Re (Rt (Rb (Rt (Y2 rfl rfl rfl ⟨_, rfl, ⟨_, _, rfl⟩, hM.below⟩))))
  refine Sk (Nx (Sq (Rg (Mv 1 rfl (Gv rfl (fun _ hF => gives_load1 hF rfl Tryz.underlying286 rfl rfl ((hM.below.cell h26).trans hc0)) (Mv 1 rfl (Gv rfl (fun _ hF => gives_indexAddrS (sz := 1) (j) hF rfl Tryz.underlying286 (by kernel_rfl) rfl rfl rfl (by omega) _) (Gv rfl (fun _ hF => gives_load1 hF rfl Tryz.underlying32 rfl rfl (show World.cell? _ _ = some (.float .f64 fj) by rw [Nat.mul_one]; exact (hM.below.cell hbt).trans hfj)) ?_)))))))); intro a hF
  refine op_farith (.inl rfl) hF hM rfl rfl rfl rfl rfl rfl ?_; clear hF hM a; intro a w f49 hF hM
  revert a; exact Md 2 [6,7] rfl (Nx (Re (Rb (Rt (Y2 rfl rfl rfl ⟨_, rfl, ⟨_, _, rfl⟩, hM.below⟩)))))
 refine Rg (Mv 1 rfl (Gv rfl (fun _ hF => gives_fcmp hF rfl rfl rfl rfl _) ?_)); intro a hF
 rw [hb] at hF
 revert a; refine Mv 2 rfl (Gv rfl (fun _ hF => gives_fcmp hF rfl rfl rfl rfl _) (Md 1 [1,6,7,43] rfl (Nx (C0 rfl ?_ ?_))))
 · exact Re (Rt (Rb (Rt (Y2 rfl rfl rfl ⟨_, rfl, ⟨_, _, rfl⟩, hM.below⟩))))
 refine Sk (Nx (Sq (Rg (Mv 1 rfl (Gv rfl (fun _ hF => gives_load1 hF rfl Tryz.underlying286 rfl rfl ((hM.below.cell h26).trans hc0)) (Mv 1 rfl (Gv rfl (fun _ hF => gives_indexAddrS (sz := 1) (j) hF rfl Tryz.underlying286 (by kernel_rfl) rfl rfl rfl (by omega) _) (Gv rfl (fun _ hF => gives_load1 hF rfl Tryz.underlying32 rfl rfl (show World.cell? _ _ = some (.float .f64 fj) by rw [Nat.mul_one]; exact (hM.below.cell hbt).trans hfj)) ?_)))))))); intro a hF
 refine op_farith (.inl rfl) hF hM rfl rfl rfl rfl rfl rfl ?_; clear hF hM a; intro a w f49 hF hM
 revert a; exact Md 2 [6,7] rfl (Nx (Re (Rb (Rt (Y2 rfl rfl rfl ⟨_, rfl, ⟨_, _, rfl⟩, hM.below⟩)))))
end Go.Sx
namespace Go.Sx
open Go.RowKit Go.Proofs Js Go.Proofs.YtelonenjneonlaaGreatDoorW.PrintWords
def lenTab : List UInt8 := [0, 1] ++ List.replicate 2 2 ++ List.replicate 4 3 ++ List.replicate 8 4 ++ List.replicate 16 5 ++ List.replicate 32 6 ++ List.replicate 64 7 ++ List.replicate 128 8
theorem lenTab_all : (List.range 256).all (fun j => match lenTab[j]? with | some c => decide (c.toNat ≤ 8) | none => false) = true := by decide +kernel
theorem lenTab_at {j : Nat} (h : j < 256) : ∃ c, lenTab[j]? = some c ∧ c.toNat ≤ 8 := by
  have := List.all_eq_true.1 lenTab_all j (List.mem_range.2 h)
  cases hc : lenTab[j]? with
  | none => rw [hc] at this; cases this
  | some c => rw [hc] at this; exact ⟨c, rfl, of_decide_eq_true this⟩
set_option maxRecDepth 100000 in
theorem len64_walk (z : Int) (w0 : World) :
    Calls Tryz.prog 195 #[.int .u64 z] w0 (Ret fun v w' => (∃ b : Nat, v = .int .i64 (b : Int) ∧ b ≤ 64) ∧ Below w0.heap.size w0 w') := by
 have hM : Mem w0.heap.size w0 [] w0 := Mem.start (Nat.le_refl _)
 refine enter (l := [.int .u64 z]) 24 Tryz.func195 rfl rfl (fun a hF => ?_)
 replace hF : Fr 25 [(0, .int .u64 z)] a := hF
 revert a; refine Sq (Rg (Md 1 [0,2] rfl (Nx ?_))); intro a hF
 refine cut (fun a w => ∃ (z : Int) (q : Nat), Fr 25 [(0, .int .u64 z), (2, .int .i64 (q : Int))] a ∧ Mem w0.heap.size w0 [] w ∧ q ≤ 32) ?_ (fun a w h => ?_)
 ·
  revert a; refine Sq (Rg (Md 2 [0,2,4] rfl (Nx (D0 rfl ?_ ?_))))
  ·
   refine Sk (Kp [0,2] rfl ?_); intro a hF
   first | exact ⟨_, 32, hF, hM, by omega⟩ | exact ⟨_, 0, hF, hM, by omega⟩
  refine Sq (Rg (Mv 1 rfl (Gv rfl (fun _ hF => gives_shr (32) (_) hF rfl rfl rfl rfl rfl _) (Md 1 [0] rfl (Nx (Rg (Md 1 [0,2] rfl ?_))))))); intro a hF
  first | exact ⟨_, 32, hF, hM, by omega⟩ | exact ⟨_, 0, hF, hM, by omega⟩
 clear hF hM
 obtain ⟨z, q, hF, hM, hq⟩ := h
 refine cut (fun a w => ∃ (z : Int) (q : Nat), Fr 25 [(0, .int .u64 z), (2, .int .i64 (q : Int))] a ∧ Mem w0.heap.size w0 [] w ∧ q ≤ 48) ?_ (fun a w h => ?_)
 ·
  revert a; refine Sq (Rg (Md 2 [0,2,8] rfl (Nx (D0 rfl ?_ ?_))))
  ·
   refine Sk (Kp [0,2] rfl ?_); intro a hF
   first | exact ⟨_, q + 16, hF, hM, by omega⟩ | exact ⟨_, q, hF, hM, by omega⟩
  refine Sq (Rg (Mv 1 rfl (Gv rfl (fun _ hF => gives_shr (16) (_) hF rfl rfl rfl rfl rfl _) (Md 1 [0,2] rfl (Nx (Rg (Mv 1 rfl (Sm (((q + 16 : Nat) : Int)) rfl (by omega) (Md 1 [0,2] rfl ?_))))))))); intro a hF
  first | exact ⟨_, q + 16, hF, hM, by omega⟩ | exact ⟨_, q, hF, hM, by omega⟩
 clear hF hM
 obtain ⟨z, q, hF, hM, hq⟩ := h
 refine cutF (fun a w => ∃ (z : Int) (q : Nat), Fr 25 [(0, .int .u64 z), (2, .int .i64 (q : Int))] a ∧ Mem w0.heap.size w0 [] w ∧ q ≤ 56) (fun a w h => ?_) ?_
 ·
  clear hF hM
  obtain ⟨z, q, hF, hM, hq⟩ := h
  revert a; refine Sq (Rg (Mv 3 rfl ?_))
  obtain ⟨j, hj, hj256⟩ : ∃ j : Nat, IntKind.u8.wrap z = (j : Int) ∧ j < 256 := ⟨(z % 256).toNat, by rw [IntKind.wrap_u8]; omega, by omega⟩
  obtain ⟨c, hc, hc8⟩ := lenTab_at hj256
  intro a hF
  refine op_index_str (l := lenTab) hF rfl j c rfl rfl rfl Tryz.underlying9 (by kernel_rfl) rfl hj hc ?_; clear hF a; intro a hF
  revert a; exact Gv rfl (fun _ hF => gives_conv hF rfl Tryz.underlying5 Tryz.underlying3 rfl (((c.toNat : Nat) : Int)) (wrap_i64 (by omega) (by omega)) _) (Sm (((q + c.toNat : Nat) : Int)) rfl (by omega) (Md 1 [2] rfl (Nx (Re (Y1 rfl rfl ⟨_, rfl, ⟨_, rfl, by omega⟩, hM.below⟩)))))
 revert a; refine Sq (Rg (Md 2 [0,2,14] rfl (Nx (D0 rfl ?_ ?_))))
 ·
  refine Sk (Kp [0,2] rfl ?_); intro a hF
  first | exact ⟨_, q + 8, hF, hM, by omega⟩ | exact ⟨_, q, hF, hM, by omega⟩
 refine Sq (Rg (Mv 1 rfl (Gv rfl (fun _ hF => gives_shr (8) (_) hF rfl rfl rfl rfl rfl _) (Md 1 [0,2] rfl (Nx (Rg (Mv 1 rfl (Sm (((q + 8 : Nat) : Int)) rfl (by omega) (Md 1 [0,2] rfl ?_))))))))); intro a hF
 first | exact ⟨_, q + 8, hF, hM, by omega⟩ | exact ⟨_, q, hF, hM, by omega⟩
end Go.Sx
namespace Go.Sx
open Go.RowKit Go.Proofs Js Go.Proofs.YtelonenjneonlaaGreatDoorW.PrintWords
set_option maxRecDepth 100000 in
theorem prescale_walk {B : Nat} {wc : World} {L : List Bk} {b : Nat} {x y s : Int} (hG : Glob B wc) (e p lp : Int) (hp : -348 ≤ p ∧ p ≤ 347) {w0 : World} (hM0 : Mem B wc ((b, 268, [.int .u64 x, .int .u64 y, .int .i64 s]) :: L) w0) :
    Calls Tryz.prog 225 #[.pointer (some ⟨b, 0, none⟩), .int .i64 e, .int .i64 p, .int .i64 lp] w0 (Ret fun v w' => v = .tuple #[] ∧ ∃ x y s : Int, Mem B wc ((b, 268, [.int .u64 x, .int .u64 y, .int .i64 s]) :: L) w') := by
 have hM := hM0
 obtain ⟨j, hj⟩ : ∃ j : Nat, p - -348 = (j : Int) := ⟨(p + 348).toNat, by omega⟩
 have hj6 : j < 696 := by omega
 obtain ⟨x1, _, hx1⟩ := hG.tabs.tab (j * 2) (by omega)
 obtain ⟨x2, _, hx2⟩ := hG.tabs.tab (j * 2 + 1) (by omega)
 have h27 : 27 < B := by have := hG.tabs.lt; omega
 refine enter (l := [.pointer (some ⟨b, 0, none⟩), .int .i64 e, .int .i64 p, .int .i64 lp]) 28 Tryz.func225 rfl rfl (fun a hF => ?_)
 replace hF : Fr 32 [(0, .pointer (some ⟨b, 0, none⟩)), (1, .int .i64 e), (2, .int .i64 p), (3, .int .i64 lp)] a := hF
 revert a; refine Sq (Rg (Mv 2 rfl (Sm (((j : Nat) : Int)) rfl (by omega) (Gv rfl (fun _ hF => gives_indexAddrA (sz := 2) (j) hF rfl Tryz.underlying292 (by kernel_rfl) rfl rfl rfl hj6 _) (Mv 1 rfl (Gv rfl (fun _ hF => gives_load1 hF rfl Tryz.underlying54 rfl rfl (show World.cell? _ _ = some (.int .u64 (x1 : Int)) by rw [Nat.zero_add]; exact (hM.below.cell h27).trans hx1)) (Mv 2 rfl (St hM 0 rfl ?_))))))))
 clear hM; intro w hM
 refine Md 0 [0,1,2,3] rfl (Nx (Sq (Rg (Mv 2 rfl (Sm (((j : Nat) : Int)) rfl (by omega) (Gv rfl (fun _ hF => gives_indexAddrA (sz := 2) (j) hF rfl Tryz.underlying292 (by kernel_rfl) rfl rfl rfl hj6 _) (Mv 1 rfl (Gv rfl (fun _ hF => gives_load1 hF rfl Tryz.underlying54 rfl rfl (show World.cell? _ _ = some (.int .u64 (x2 : Int)) by rw [Nat.zero_add]; exact (hM.below.cell h27).trans hx2)) (Mv 2 rfl (St hM 0 rfl ?_))))))))))
 clear hM; intro w hM
 refine Md 0 [0,1,3] rfl (Nx (Rg (Mv 5 rfl (Gv rfl (fun _ hF => gives_neg hF rfl rfl (_) rfl _) (Mv 2 rfl (St hM 0 rfl ?_))))))
 clear hM; intro w hM
 exact Md 0 [] rfl (Z0 rfl ⟨_, rfl, rfl, _, _, _, hM⟩)
set_option maxRecDepth 100000 in
theorem uscale_walk {B : Nat} {wc : World} {L : List Bk} {b : Nat} {x y s : Int} (m : Int) {w0 : World} (hM0 : Mem B wc ((b, 268, [.int .u64 x, .int .u64 y, .int .i64 s]) :: L) w0) :
    Calls Tryz.prog 227 #[.int .u64 m, .pointer (some ⟨b, 0, none⟩)] w0 (Ret fun v w' => (∃ u : Int, v = .int .u64 u) ∧ Mem B wc ((b, 268, [.int .u64 x, .int .u64 y, .int .i64 s]) :: L) w') := by
 have hM := hM0
 obtain ⟨k, hk64, hk⟩ := and63 s
 refine enter (l := [.int .u64 m, .pointer (some ⟨b, 0, none⟩)]) 57 Tryz.func227 rfl rfl (fun a hF => ?_)
 replace hF : Fr 59 [(0, .int .u64 m), (1, .pointer (some ⟨b, 0, none⟩))] a := hF
 revert a; refine Sq (Rg (Md 1 [0,1] rfl (Nx (Sq (Rg (Mv 4 rfl (Ld hM 0 rfl rfl (Cm hM rfl Tryz.func249 (by kernel_rfl) rfl (mul64_walk _ _ _) ?_))))))))
 clear hM; intro w v hR hM hBe
 obtain ⟨hi, lo, rfl⟩ := hR
 refine Md 5 [0,1,5,6] rfl (Nx (Sq (Rg (Mv 3 rfl (Ld hM 0 rfl rfl (Gv rfl (fun _ hF => gives_bits (((k : Nat) : Int)) hF rfl rfl rfl hk _) (Md 1 [0,1,5,6,7] rfl (Nx (Sq (Sq (Rg (Mv 2 rfl (Gv rfl (fun _ hF => gives_shr (k) (_) hF rfl rfl rfl rfl rfl _) (Mv 1 rfl (Gv rfl (fun _ hF => gives_shl (k) (_) hF rfl rfl rfl rfl rfl _) (Md 2 [0,1,5,6,7,30] rfl (Nx (C0 rfl ?_ ?_))))))))))))))))))
 · exact Sq (Rg (Mv 2 rfl (Gv rfl (fun _ hF => gives_shr (k) (_) hF rfl rfl rfl rfl rfl _) (Gv rfl (fun _ hF => gives_bits (_) hF rfl rfl rfl rfl _) (Md 1 [4] rfl (Nx (Re (Rt (Y1 rfl rfl ⟨_, rfl, ⟨_, rfl⟩, hM⟩)))))))))
 refine Sk (Nx (Sq (Rg (Mv 4 rfl (Ld hM 0 rfl rfl (Cm hM rfl Tryz.func249 (by kernel_rfl) rfl (mul64_walk _ _ _) ?_))))))
 clear hM; intro w v hR hM hBe
 obtain ⟨hi2, lo2, rfl⟩ := hR
 refine Md 5 [5,6,7,8] rfl (Nx (Sq (Rg (Mv 4 rfl (Cm hM rfl Tryz.func214 (by kernel_rfl) rfl (bool2u_walk _ _) ?_)))))
 clear hM; intro w v hR hM hBe
 obtain rfl := hR
 refine Md 2 [5,6,7,8] rfl (Nx (Sq ?_)); intro a hF
 refine draw (by kernel_rfl) ?_
 replace hM := hM.drew
 refine take 0 hF rfl (by kernel_rfl) (by kernel_rfl) (by kernel_rfl) (fun _ _ _ h => h) rfl rfl rfl (gives_move hF rfl rfl) ?_; clear hF a; intro a hF
 refine take 1 hF rfl (by kernel_rfl) (by kernel_rfl) (by kernel_rfl) (fun _ _ _ h => h) rfl rfl rfl (gives_move hF rfl rfl) ?_; clear hF a; intro a hF
 refine take 2 hF rfl (by kernel_rfl) (by kernel_rfl) (by kernel_rfl) (fun _ _ _ h => h) rfl rfl rfl (gives_shr (k) (_) hF rfl rfl rfl rfl rfl) ?_; clear hF a; intro a hF
 refine take 3 hF rfl (by kernel_rfl) (by kernel_rfl) (by kernel_rfl) (fun _ _ _ h => h) rfl rfl rfl (gives_move hF rfl rfl) ?_; clear hF a; intro a hF
 refine take 4 hF rfl (by kernel_rfl) (by kernel_rfl) (by kernel_rfl) (fun _ _ _ h => h) rfl rfl rfl (gives_move hF rfl rfl) ?_; clear hF a; intro a hF
 refine take 5 hF rfl (by kernel_rfl) (by kernel_rfl) (by kernel_rfl) (fun _ _ _ h => h) rfl rfl rfl (gives_bin hF rfl rfl rfl rfl) ?_; clear hF a; intro a hF
 refine take 6 hF rfl (by kernel_rfl) (by kernel_rfl) (by kernel_rfl) (fun _ _ _ h => h) rfl rfl rfl (gives_bin hF rfl rfl rfl rfl) ?_; clear hF a; intro a hF
 refine only_callM 7 hF hM rfl (by kernel_rfl) rfl rfl rfl rfl Tryz.func214 (by kernel_rfl) rfl rfl (bool2u_walk _ _) ?_; clear hF hM a; intro a w v hR hF hM
 obtain rfl := hR
 refine take 8 hF rfl (by kernel_rfl) (by kernel_rfl) (by kernel_rfl) (fun _ _ _ h => h) rfl rfl rfl (gives_bits (_) hF rfl rfl rfl rfl) ?_; clear hF a; intro a hF
 refine take 9 hF rfl (by kernel_rfl) (by kernel_rfl) (by kernel_rfl) (fun _ _ _ h => h) rfl rfl rfl (gives_assign hF rfl rfl) ?_; clear hF a; intro a hF
 refine drawn (h0 := by kernel_rfl) ?_
 revert a; exact Kp [4] rfl (Nx (Re (Y1 rfl rfl ⟨_, rfl, ⟨_, rfl⟩, hM⟩)))
end Go.Sx
namespace Go.Sx
open Go.RowKit Go.Proofs Js Go.Proofs.YtelonenjneonlaaGreatDoorW.PrintWords
set_option maxRecDepth 100000 in
theorem parse64_walk (z p sg : Int) (hp : -345 ≤ p ∧ p ≤ 310) (w0 : World) (hV : VchB w0) :
    Calls Tryz.prog 217 #[.int .u64 z, .int .i64 p, .int .u64 sg] w0 (Ret fun v w' => (∃ (f : Nat) (er : Value), v = .tuple #[.float .f64 f, er] ∧ ErOk er) ∧ Below w0.heap.size w0 w') := by
 have hM : Mem w0.heap.size w0 [] w0 := Mem.start (Nat.le_refl _)
 refine enter (l := [.int .u64 z, .int .i64 p, .int .u64 sg]) 60 Tryz.func217 rfl rfl (fun a hF => ?_)
 replace hF : Fr 63 [(0, .int .u64 z), (1, .int .i64 p), (2, .int .u64 sg)] a := hF
 revert a; refine Sq (Rg (Md 2 [0,1,2] rfl (Nx (Sq (Rg (Mv 1 rfl (Cm hM rfl Tryz.func195 (by kernel_rfl) rfl (len64_walk z _) ?_)))))))
 clear hM; intro w v hR hM hBe
 obtain ⟨bb, rfl, hb64⟩ := hR
 refine Md 1 [0,1,2,8] rfl (Nx (Sq (Rg (Mv 1 rfl (Cm hM rfl Tryz.func226 (by kernel_rfl) rfl (log2_walk p (by omega) _) ?_)))))
 clear hM; intro w v hR hM hBe
 obtain ⟨lp, rfl, hl1, hl2⟩ := hR
 refine Md 1 [0,1,2,8,9] rfl (Nx (Sq (Rg (Mv 1 rfl (Sm (53 - (bb : Int)) rfl (by omega) (Mv 1 rfl (Sm (53 - (bb : Int) - lp) rfl (by omega) ?_))))))); intro a hF
 refine op_min hF rfl (_) rfl rfl rfl rfl rfl rfl ?_; clear hF a; intro a hF
 revert a; refine Md 1 [0,1,2,8,9,10] rfl (Nx (Sq (Rg ?_))); intro a hF
 refine op_alloc hF hM rfl (vs := [.int .u64 0, .int .u64 0, .int .i64 0]) rfl rfl rfl (by kernel_rfl) ?_; clear hF hM a; intro a w b11 hF hM
 revert a; refine Md 0 [0,1,2,8,9,10,11] rfl (Nx (Sq (Rg (Mv 2 rfl (Sm (((64 - bb : Nat) : Int)) rfl (by omega) (Mv 3 rfl (Cl rfl Tryz.func225 (by kernel_rfl) rfl (prescale_walk hV _ p lp (by omega) hM) ?_)))))))
 clear hM; intro w v hR
 obtain ⟨rfl, x, y, s, hM⟩ := hR
 refine Md 0 [0,2,8,10,11] rfl (Nx (Sq (Sq (Rg (Mv 1 rfl (Ld hM 0 rfl rfl (Md 1 [0,2,8,10,11,32] rfl (Nx (C0 rfl ?_ ?_)))))))))
 ·
  refine Sq (Rg (Mv 1 rfl (Gv rfl (fun _ hF => gives_bits (_) hF rfl rfl rfl rfl _) ?_))); intro a hF
  refine op_frombits hF rfl rfl rfl rfl rfl ?_; clear hF a; intro a hF
  revert a; exact Md 2 [6,7] rfl (Nx (Re (Rt (Y2 rfl rfl rfl ⟨_, rfl, ⟨_, _, rfl, by first | exact her | exact .inl rfl⟩, hM.below⟩))))
 refine Sk (Nx (Sq (Rg (Mv 2 rfl (Sm (((64 - bb : Nat) : Int)) rfl (by omega) (Gv rfl (fun _ hF => gives_shl ((64 - bb)) (_) hF rfl rfl rfl rfl rfl _) (Cl rfl Tryz.func227 (by kernel_rfl) rfl (uscale_walk _ hM) ?_)))))))
 clear hM; intro w v hR
 obtain ⟨⟨u, rfl⟩, hM⟩ := hR
 refine Md 1 [2,10,12] rfl (Nx (Sq (Rg (Mv 1 rfl (Cm hM rfl Tryz.func233 (by kernel_rfl) rfl (unmin_walk _ _) ?_)))))
 clear hM; intro w v hR hM hBe
 obtain ⟨un, rfl⟩ := hR
 refine Mv 1 rfl (Cm hM rfl Tryz.func232 (by kernel_rfl) rfl (bool2i_walk _ _) ?_)
 clear hM; intro w v hR hM hBe
 obtain rfl := hR
 obtain ⟨k1, hk1⟩ : ∃ k : Nat, (if decide (u ≥ un) = true then (1 : Int) else 0) = (k : Int) := by split; exact ⟨1, rfl⟩; exact ⟨0, rfl⟩
 intro a hF
 rw [hk1] at hF
 revert a; refine Md 1 [2,10,12,13] rfl (Nx (Sq (Rg (Mv 2 rfl (Gv rfl (fun _ hF => gives_shr (k1) (_) hF rfl rfl rfl rfl rfl _) (Mv 1 rfl (Gv rfl (fun _ hF => gives_bits (_) hF rfl rfl rfl rfl _) (Gv rfl (fun _ hF => gives_bits (_) hF rfl rfl rfl rfl _) (Md 1 [2,10,12,13] rfl (Nx (Sq (Rg (Md 4 [2,10,12] rfl (Nx (Sq (Rg (Mv 2 rfl (Cm hM rfl Tryz.func231 (by kernel_rfl) rfl (round_walk _ _) ?_))))))))))))))))))
 clear hM; intro w v hR hM hBe
 obtain ⟨rd, rfl⟩ := hR
 refine Gv rfl (fun _ hF => gives_bits (_) hF rfl rfl rfl rfl _) (Mv 1 rfl (Gv rfl (fun _ hF => gives_neg hF rfl rfl (_) rfl _) (Cm hM rfl Tryz.func246 (by kernel_rfl) rfl (pack_walk _ _ _) ?_)))
 clear hM; intro w v hR hM hBe
 obtain ⟨f, er, rfl, her⟩ := hR
 exact Md 4 [6,7] rfl (Nx (Re (Y2 rfl rfl rfl ⟨_, rfl, ⟨_, _, rfl, by first | exact her | exact .inl rfl⟩, hM.below⟩)))
end Go.Sx
set_option linter.unusedVariables false
namespace Js
structure Arw (ds arr out : Str) : Prop where
  len : arr.length = 800
  low : ∀ j, j < 800 → j < out.length → arr[j]? = out[j]?
  high : ∀ j, out.length ≤ j → arr[j]? = ds[j]?
theorem Arw.start {ds : Str} (h : ds.length = 800) : Arw ds ds [] := ⟨h, fun j _ h => by simp at h, fun _ _ => rfl⟩
theorem Arw.put {ds arr out : Str} (h : Arw ds arr out) (c : UInt8) (hw : out.length < 800) : Arw ds (arr.set out.length c) (out ++ [c]) := by
  refine ⟨by rw [List.length_set]; exact h.len, fun j h8 hj => ?_, fun j hj => ?_⟩
  · rw [List.length_append, List.length_singleton] at hj
    rcases Nat.lt_or_ge j out.length with h1 | h1
    · rw [List.getElem?_set_ne (by omega), List.getElem?_append_left h1]; exact h.low j h8 h1
    · obtain rfl : j = out.length := by omega
      rw [List.getElem?_set_self (by rw [h.len]; exact hw), List.getElem?_append_right (Nat.le_refl _)]
      simp
  · rw [List.length_append, List.length_singleton] at hj
    rw [List.getElem?_set_ne (by omega)]; exact h.high j (by omega)
theorem Arw.pass {ds arr out : Str} (h : Arw ds arr out) (c : UInt8) (hw : 800 ≤ out.length) : Arw ds arr (out ++ [c]) := by
  refine ⟨h.len, fun j h8 hj => ?_, fun j hj => ?_⟩
  · rw [List.getElem?_append_left (by omega)]; exact h.low j h8 (by omega)
  · rw [List.length_append, List.length_singleton] at hj; exact h.high j (by omega)
theorem Arw.arr {ds arr out : Str} (h : Arw ds arr out) : Arr ds arr 0 out := by
  refine ⟨h.len, fun i hi => absurd hi (Nat.not_lt_zero _), fun j c hj h8 => ?_⟩
  rw [Nat.zero_add] at h8 ⊢
  have hl := (List.getElem?_eq_some_iff.1 hj).1
  rw [h.low j h8 hl, hj]
theorem rd_le {D : Str} (hd : Digs D) (r : Nat) : rd D (r + 1) ≤ rd D r * 10 + 9 := by
  rcases Nat.lt_or_ge r D.length with h | h
  · rw [rd_digit (List.getElem?_eq_getElem h)]
    have := dg_lt (hd _ (List.getElem_mem h))
    omega
  · rw [rd_more h]; omega
theorem rd_low {ds : Str} {m : Nat} (h : Dec ds m) (h0 : 0 < m) : ∀ r, 10 ^ r ≤ rd (ds.take m) (r + 1)
  | 0 => by
    obtain ⟨c, r, e, hc, hn, _, _⟩ := h.first h0
    have h6 := dig_rng hc
    have h7 : c.toNat ≠ 48 := fun e => hn (UInt8.toNat_inj.1 e)
    rw [e, rd_digit (c := c) rfl, rd_zero]
    unfold dg
    simp
    omega
  | r + 1 => by
    have ih := rd_low h h0 r
    have : rd (ds.take m) (r + 1) * 10 ≤ rd (ds.take m) (r + 1 + 1) := by
      rcases Nat.lt_or_ge (r + 1) (ds.take m).length with hl | hl
      · rw [rd_digit (List.getElem?_eq_getElem hl)]; omega
      · rw [rd_more hl]; omega
    rw [Nat.pow_succ]
    omega
theorem rd_few {ds : Str} {m k r : Nat} (h : Dec ds m) (h0 : 0 < m) (hk : k ≤ 60) (h1 : 1 ≤ r) (hr : rd (ds.take m) (r - 1) < 2 ^ k) : r ≤ 20 := by
  rcases Nat.lt_or_ge 20 r with hl | hl
  · have h2 := rd_low h h0 (r - 2)
    rw [show r - 2 + 1 = r - 1 by omega] at h2
    have h3 : (10:Nat) ^ 19 ≤ 10 ^ (r - 2) := Nat.pow_le_pow_right (by decide) (by omega)
    have h4 : (2:Nat) ^ k ≤ 2 ^ 60 := Nat.pow_le_pow_right (by decide) hk
    have h5 : (2:Nat) ^ 60 < 10 ^ 19 := by decide
    omega
  · exact hl
theorem RS.start {P k : Nat} (h : P < 10 * 2 ^ k) : RS P k P [] := ⟨by simp [worth], h, fun _ h => by simp at h⟩
theorem head_snoc {out : Str} {c x : UInt8} (h : out.head? = some x ∨ out = [] ∧ c = x) : (out ++ [c]).head? = some x := by
  rcases h with h | ⟨rfl, rfl⟩
  · cases out with
    | nil => simp at h
    | cons d r => simpa using h
  · rfl
end Js
set_option linter.unusedVariables false
namespace Js
def fd (ds : Str) : Nat := match ds[0]? with | some c => dg c | none => 0
theorem fd_of {ds : Str} {c : UInt8} (h : ds[0]? = some c) : fd ds = dg c := by unfold fd; rw [h]
theorem Dec.fd_rng {ds : Str} {m : Nat} (h : Dec ds m) (h0 : 0 < m) : 1 ≤ fd ds ∧ fd ds ≤ 9 := by
  obtain ⟨c, r, _, hc, hn, hg, _⟩ := h.first h0
  rw [fd_of hg]
  have h6 := dig_rng hc
  have h7 : c.toNat ≠ 48 := fun e => hn (UInt8.toNat_inj.1 e)
  unfold dg
  omega
theorem rd_one {ds : Str} {m : Nat} (h : Dec ds m) (h0 : 0 < m) : rd (ds.take m) 1 = fd ds := by
  obtain ⟨c, r, e, hc, hn, hg, _⟩ := h.first h0
  rw [fd_of hg, e, rd_digit (c := c) rfl, rd_zero]
  omega
theorem right_less {ds ds' : Str} {m m' k r0 : Nat} {dq : Int} (h : Dec ds m) (h0 : 0 < m) (h' : Dec ds' m') (h0' : 0 < m') (hk : 1 ≤ k) (hr : 1 ≤ r0) (hA : rd (ds.take m) (r0 - 1) < 2 ^ k) (hB : 2 ^ k ≤ rd (ds.take m) r0)
    (hf : ds'[0]? = some (chr (rd (ds.take m) r0 / 2 ^ k))) (hq : 0 < dq) : 10 * (dq - ((r0 - 1 : Nat) : Int)).toNat + fd ds' < 10 * dq.toNat + fd ds := by
  have f1 := h.fd_rng h0
  have f2 := h'.fd_rng h0'
  rcases Nat.lt_or_ge 1 r0 with h1 | h1
  · omega
  · obtain rfl : r0 = 1 := by omega
    have e := rd_one h h0
    rw [e] at hB hf
    have h2k : 2 ≤ 2 ^ k := by
      have := Nat.pow_le_pow_right (show 0 < 2 by decide) hk
      simpa using this
    have h3 : fd ds / 2 ^ k < fd ds := Nat.div_lt_self (by omega) (by omega)
    rw [fd_of hf, chr_dg (by omega)]
    omega
theorem left_less {ds ds' out : Str} {m m' k : Nat} {dq : Int} (h : Dec ds m) (h0 : 0 < m) (h' : Dec ds' m') (h0' : 0 < m') (hk : 1 ≤ k) (hd : Digs out) (hl : out.length = m + ldel (ds.take m) k) (hw : worth out = worth (ds.take m) * 2 ^ k)
    (hf : ds'[0]? = out.head?) (hq : dq < 0 ∨ dq = 0 ∧ ldel (ds.take m) k = 0) : 10 * (-(dq + (ldel (ds.take m) k : Nat))).toNat + (9 - fd ds') < 10 * (-dq).toNat + (9 - fd ds) := by
  have f1 := h.fd_rng h0
  have f2 := h'.fd_rng h0'
  generalize hδ : ldel (ds.take m) k = δ at *
  rcases Nat.eq_zero_or_pos δ with hz | hz
  · subst hz
    obtain ⟨c, c', r, hc, rfl, _, _, _, hlt⟩ := left_grows h h0 hk hd hl hw
    rw [fd_of (c := c') (by rw [hf]; rfl)] at f2 ⊢
    rw [fd_of hc] at f1 ⊢
    rcases hq with hq | ⟨hq, _⟩ <;> omega
  · rcases hq with hq | ⟨_, hq⟩ <;> omega
theorem ldel_one {ds : Str} {m : Nat} {c : UInt8} (h : Dec ds m) (h0 : 0 < m) (hc : ds[0]? = some c) (h5 : c.toNat < 53) : ldel (ds.take m) 1 = 0 := by
  obtain ⟨c', r, e, _, _, hg, _⟩ := h.first h0
  rw [hc] at hg
  obtain rfl := Option.some.inj hg
  unfold ldel
  have h1 : pless (ds.take m) (five 1) = true := by
    rw [e, show five 1 = [53] by decide]
    have hne : c ≠ 53 := by rintro rfl; exact absurd h5 (by decide)
    simp only [pless, if_neg hne]
    exact decide_eq_true h5
  rw [h1]
  rfl
theorem ldel_le {ds : Str} {m k : Nat} (h1 : 1 ≤ k) (h2 : k ≤ 60) : ldel (ds.take m) k ≤ 19 := by
  have := (tab_row h1 h2).le
  unfold ldel
  split <;> omega
end Js
