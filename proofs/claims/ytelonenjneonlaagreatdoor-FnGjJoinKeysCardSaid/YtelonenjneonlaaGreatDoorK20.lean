/- Part 20 of the proof of FnGjJoinKeys: the statement Rows.FnGjJoinKeysCardSaid; no further condition. -/
import Derived.Test.YtelonenjneonlaaGreatDoorK19
set_option linter.all false
namespace Go.Sx
open Go.RowKit Go.Proofs Js Go.Proofs.YtelonenjneonlaaGreatDoorW.PrintWords
theorem commonPrefix_walk (s p : Str) (hs : s.length ≤ 2 ^ 41) (w0 : World) :
    Calls Tryz.prog 241 #[.string (mkS s), .string (mkS p)] w0 (Ret fun v w' => (∃ z : Int, v = .int .i64 z) ∧ Below w0.heap.size w0 w') := by
 have hM : Mem w0.heap.size w0 [] w0 := Mem.start (Nat.le_refl _)
 obtain ⟨m, hm⟩ : ∃ m, m = min s.length p.length := ⟨_, rfl⟩
 refine enter (l := [.string (mkS s), .string (mkS p)]) 34 Tryz.func241 rfl rfl (fun a hF => ?_)
 replace hF : Fr 36 [(0, .string (mkS s)), (1, .string (mkS p))] a := hF
 revert a; refine Sq (Rg (Md 1 [0,1] rfl (Nx (Sq (Rg (Mv 4 rfl ?_)))))); intro a hF
 refine op_min hF rfl ((m : Int)) rfl rfl rfl rfl rfl (by split <;> omega) ?_; clear hF a; intro a hF
 revert a; refine Md 1 [0,1,5] rfl (Nx (Sq (Sq (Rg (Md 1 [0,1,5,6] rfl (Nx (Bo (Kp [0,1,5,6] rfl ?_)))))))); intro a hF
 refine loopX (fun (i : Nat) a w => Fr 36 [(0, .string (mkS s)), (1, .string (mkS p)), (5, .int .i64 (m : Int)), (6, .int .i64 (i : Int))] a ∧ Mem w0.heap.size w0 [] w ∧ i ≤ m) (fun i => m - i) (0) ?_ (fun i a w hI => ?_)
 · exact ⟨hF, hM, Nat.zero_le _⟩
 clear hF hM
 obtain ⟨hF, hM, him⟩ := hI
 revert a; refine Sq (Sq (Rg (Md 3 [0,1,5,6,15] rfl (Nx (D1 rfl ?_ ((fun ht => ?_)))))))
 · exact Ex (Ot (Ot (Ob (Nx (Sq (Rg (Md 2 [4] rfl (Nx (Re (Y1 rfl rfl ⟨_, rfl, ⟨_, rfl⟩, hM.below⟩))))))))))
 have hlt : i < m := by have := of_decide_eq_true ht; omega
 obtain ⟨c, hc⟩ : ∃ c, s[i]? = some c := ⟨_, List.getElem?_eq_getElem (by omega)⟩
 obtain ⟨d, hd⟩ : ∃ c, p[i]? = some c := ⟨_, List.getElem?_eq_getElem (by omega)⟩
 refine Sk (Nx (Sq (Bo (Sq (Rg (Mv 2 rfl ?_)))))); intro a hF
 refine op_index_str hF rfl (i) c rfl rfl rfl Tryz.underlying9 rfl rfl (by first | rfl | omega) hc ?_; clear hF a; intro a hF
 revert a; refine Md 1 [0,1,5,6,7] rfl (Nx ?_); intro a hF
 refine cutF (fun a w => ∃ z : Int, Fr 36 [(0, .string (mkS s)), (1, .string (mkS p)), (5, .int .i64 (m : Int)), (6, .int .i64 (i : Int)), (7, .int .u8 z)] a ∧ Mem w0.heap.size w0 [] w) (fun a w h => ?_) ?_
 ·
  clear hF hM
  obtain ⟨z, hF, hM⟩ := h
  revert a; refine Sq (Rg (Mv 3 rfl ?_)); intro a hF
  refine op_index_str hF rfl (i) d rfl rfl rfl Tryz.underlying9 rfl rfl (by first | rfl | omega) hd ?_; clear hF a; intro a hF
  revert a; refine Md 1 [0,1,5,6,33] rfl (Nx (D0 rfl ?_ ?_))
  ·
   refine Sk (Nb (Nx (Rg (Mv 1 rfl (Sm (((i + 1 : Nat) : Int)) rfl (by omega) (Md 1 [0,1,5,6] rfl ?_)))))); intro a hF
   exact ⟨i + 1, ⟨hF, hM, by omega⟩, by omega⟩
  exact Sq (Rg (Md 2 [4] rfl (Nx (Re (Rb (Rt (Rt (Rb (Rt (Y1 rfl rfl ⟨_, rfl, ⟨_, rfl⟩, hM.below⟩))))))))))
 revert a; refine Sq ?_
 rcases (show c.toNat < 65 ∨ 65 ≤ c.toNat by omega) with hk | hk
 ·
  refine Rg (Mv 1 rfl (Bv rfl rfl (decide_eq_false (show ¬ ((65 : Int) ≤ (c.toNat : Int)) by omega)) (Md 4 [0,1,5,6,7,26] rfl (Nx (Cf rfl (Sk (Kp [0,1,5,6,7] rfl ?_))))))); intro a hF
  exact ⟨_, hF, hM⟩
 refine Rg (Mv 1 rfl (Bv rfl rfl (decide_eq_true (show (65 : Int) ≤ (c.toNat : Int) by omega)) (Md 4 [0,1,5,6,7,26] rfl (Nx (D0 rfl ?_ ?_)))))
 ·
  refine Sk (Kp [0,1,5,6,7] rfl ?_); intro a hF
  exact ⟨_, hF, hM⟩
 refine Rg (Md 3 [0,1,5,6,7] rfl ?_); intro a hF
 exact ⟨_, hF, hM⟩
end Go.Sx
namespace Go.Sx
open Go.RowKit Go.Proofs Js Go.Proofs.YtelonenjneonlaaGreatDoorW.PrintWords
theorem inf_walk (z : Int) (w0 : World) :
    Calls Tryz.prog 242 #[.int .i64 z] w0 (Ret fun v w' => (∃ f, v = .float .f64 f) ∧ Below w0.heap.size w0 w') := by
 have hM : Mem w0.heap.size w0 [] w0 := Mem.start (Nat.le_refl _)
 refine enter (l := [.int .i64 z]) 7 Tryz.func242 rfl rfl (fun a hF => ?_)
 replace hF : Fr 8 [(0, .int .i64 z)] a := hF
 revert a; refine Sq (Rg (Md 1 [0] rfl (Nx (Sq (Rg (Md 1 [0] rfl (Nx (Sq (Sq (Rg (Md 2 [5] rfl (Nx (C0 rfl ?_ ?_)))))))))))))
 ·
  refine Rg (Md 1 [3] rfl (Nx (Sq (Rg (Mv 1 rfl ?_))))); intro a hF
  refine op_frombits hF rfl rfl rfl rfl rfl ?_; clear hF a; intro a hF
  revert a; exact Md 1 [2] rfl (Nx (Re (Y1 rfl rfl ⟨_, rfl, ⟨_, rfl⟩, hM.below⟩)))
 refine Rg (Md 1 [3] rfl (Nx (Sq (Rg (Mv 1 rfl ?_))))); intro a hF
 refine op_frombits hF rfl rfl rfl rfl rfl ?_; clear hF a; intro a hF
 revert a; exact Md 1 [2] rfl (Nx (Re (Y1 rfl rfl ⟨_, rfl, ⟨_, rfl⟩, hM.below⟩)))
theorem nan_walk (w0 : World) :
    Calls Tryz.prog 243 #[] w0 (Ret fun v w' => (∃ f, v = .float .f64 f) ∧ Below w0.heap.size w0 w') := by
 have hM : Mem w0.heap.size w0 [] w0 := Mem.start (Nat.le_refl _)
 refine enter (l := []) 2 Tryz.func243 rfl rfl (fun a hF => ?_)
 replace hF : Fr 2 [] a := hF
 revert a; refine Sq (Rg (Md 1 [] rfl (Nx (Sq (Rg ?_))))); intro a hF
 refine op_frombits hF rfl rfl rfl rfl rfl ?_; clear hF a; intro a hF
 revert a; exact Md 1 [0] rfl (Nx (Re (Y1 rfl rfl ⟨_, rfl, ⟨_, rfl⟩, hM.below⟩)))
theorem bool2u_walk (x : Bool) (w0 : World) :
    Calls Tryz.prog 214 #[.bool x] w0 (Ret fun v w' => (v = .int .u64 (if x then 1 else 0)) ∧ Below w0.heap.size w0 w') := by
 have hM : Mem w0.heap.size w0 [] w0 := Mem.start (Nat.le_refl _)
 refine enter (l := [.bool x]) 3 Tryz.func214 rfl rfl (fun a hF => ?_)
 replace hF : Fr 4 [(0, .bool x)] a := hF
 revert a; refine Sq (Rg (Md 1 [0] rfl (Nx (Sq (Sq (Rg (Md 1 [3] rfl (Nx (Cd rfl (fun ht => ?_) ((fun ht => ?_)))))))))))
 ·
  subst ht
  exact Sq (Rg (Md 1 [2] rfl (Nx (Re (Rt (Y1 rfl rfl ⟨_, rfl, rfl, hM.below⟩))))))
 subst ht
 exact Sk (Nx (Sq (Rg (Md 1 [2] rfl (Nx (Re (Y1 rfl rfl ⟨_, rfl, rfl, hM.below⟩)))))))
theorem bool2i_walk (x : Bool) (w0 : World) :
    Calls Tryz.prog 232 #[.bool x] w0 (Ret fun v w' => (v = .int .i64 (if x then 1 else 0)) ∧ Below w0.heap.size w0 w') := by
 have hM : Mem w0.heap.size w0 [] w0 := Mem.start (Nat.le_refl _)
 refine enter (l := [.bool x]) 3 Tryz.func232 rfl rfl (fun a hF => ?_)
 replace hF : Fr 4 [(0, .bool x)] a := hF
 revert a; refine Sq (Rg (Md 1 [0] rfl (Nx (Sq (Sq (Rg (Md 1 [3] rfl (Nx (Cd rfl (fun ht => ?_) ((fun ht => ?_)))))))))))
 ·
  subst ht
  exact Sq (Rg (Md 1 [2] rfl (Nx (Re (Rt (Y1 rfl rfl ⟨_, rfl, rfl, hM.below⟩))))))
 subst ht
 exact Sk (Nx (Sq (Rg (Md 1 [2] rfl (Nx (Re (Y1 rfl rfl ⟨_, rfl, rfl, hM.below⟩)))))))
theorem round_walk (z : Int) (w0 : World) :
    Calls Tryz.prog 231 #[.int .u64 z] w0 (Ret fun v w' => (∃ z' : Int, v = .int .u64 z') ∧ Below w0.heap.size w0 w') := by
 have hM : Mem w0.heap.size w0 [] w0 := Mem.start (Nat.le_refl _)
 refine enter (l := [.int .u64 z]) 9 Tryz.func231 rfl rfl (fun a hF => ?_)
 replace hF : Fr 10 [(0, .int .u64 z)] a := hF
 revert a; exact Sq (Rg (Md 1 [0] rfl (Nx (Sq (Rg (Mv 3 rfl (Gv rfl (fun _ hF => gives_shr (2) (_) hF rfl rfl rfl rfl rfl _) (Gv rfl (fun _ hF => gives_bits (_) hF rfl rfl rfl rfl _) (Mv 1 rfl (Gv rfl (fun _ hF => gives_shr (2) (_) hF rfl rfl rfl rfl rfl _) (Md 1 [2] rfl (Nx (Re (Y1 rfl rfl ⟨_, rfl, ⟨_, rfl⟩, hM.below⟩))))))))))))))
theorem unmin_walk (z : Int) (w0 : World) :
    Calls Tryz.prog 233 #[.int .u64 z] w0 (Ret fun v w' => (∃ z' : Int, v = .int .u64 z') ∧ Below w0.heap.size w0 w') := by
 have hM : Mem w0.heap.size w0 [] w0 := Mem.start (Nat.le_refl _)
 refine enter (l := [.int .u64 z]) 5 Tryz.func233 rfl rfl (fun a hF => ?_)
 replace hF : Fr 6 [(0, .int .u64 z)] a := hF
 revert a; exact Sq (Rg (Md 1 [0] rfl (Nx (Sq (Rg (Mv 1 rfl (Gv rfl (fun _ hF => gives_shl (2) (_) hF rfl rfl rfl rfl rfl _) (Md 2 [2] rfl (Nx (Re (Y1 rfl rfl ⟨_, rfl, ⟨_, rfl⟩, hM.below⟩)))))))))))
theorem mul64_walk (x y : Int) (w0 : World) :
    Calls Tryz.prog 249 #[.int .u64 x, .int .u64 y] w0 (Ret fun v w' => (∃ hi lo : Int, v = .tuple #[.int .u64 hi, .int .u64 lo]) ∧ Below w0.heap.size w0 w') := by
 have hM : Mem w0.heap.size w0 [] w0 := Mem.start (Nat.le_refl _)
 refine enter (l := [.int .u64 x, .int .u64 y]) 49 Tryz.func249 rfl rfl (fun a hF => ?_)
 replace hF : Fr 51 [(0, .int .u64 x), (1, .int .u64 y)] a := hF
 revert a; exact Sq (Rg (Md 2 [0,1] rfl (Nx (Sq (Rg (Mv 1 rfl (Gv rfl (fun _ hF => gives_bits (_) hF rfl rfl rfl rfl _) (Md 1 [0,1,6] rfl (Nx (Sq (Rg (Mv 1 rfl (Gv rfl (fun _ hF => gives_shr (32) (_) hF rfl rfl rfl rfl rfl _) (Md 1 [0,1,6,7] rfl (Nx (Sq (Rg (Mv 1 rfl (Gv rfl (fun _ hF => gives_bits (_) hF rfl rfl rfl rfl _) (Md 1 [0,1,6,7,8] rfl (Nx (Sq (Rg (Mv 1 rfl (Gv rfl (fun _ hF => gives_shr (32) (_) hF rfl rfl rfl rfl rfl _) (Md 1 [0,1,6,7,8,9] rfl (Nx (Sq (Rg (Md 4 [0,1,6,7,8,9,10] rfl (Nx (Sq (Rg (Mv 4 rfl (Gv rfl (fun _ hF => gives_shr (32) (_) hF rfl rfl rfl rfl rfl _) (Md 2 [0,1,6,7,9,11] rfl (Nx (Sq (Rg (Mv 1 rfl (Gv rfl (fun _ hF => gives_bits (_) hF rfl rfl rfl rfl _) (Md 1 [0,1,6,7,9,11,12] rfl (Nx (Sq (Rg (Mv 1 rfl (Gv rfl (fun _ hF => gives_shr (32) (_) hF rfl rfl rfl rfl rfl _) (Md 1 [0,1,6,7,9,12,13] rfl (Nx (Sq (Rg (Md 6 [0,1,7,9,12,13] rfl (Nx (Sq (Rg (Mv 6 rfl (Gv rfl (fun _ hF => gives_shr (32) (_) hF rfl rfl rfl rfl rfl _) (Md 2 [0,1,4] rfl (Nx (Sq (Rg (Md 4 [4,5] rfl (Nx (Re (Y2 rfl rfl rfl ⟨_, rfl, ⟨_, _, rfl⟩, hM.below⟩)))))))))))))))))))))))))))))))))))))))))))))))))))))))))))))))))
theorem log2_walk (p : Int) (hp : -400 ≤ p ∧ p ≤ 400) (w0 : World) :
    Calls Tryz.prog 226 #[.int .i64 p] w0 (Ret fun v w' => (∃ l : Int, v = .int .i64 l ∧ -2000 ≤ l ∧ l ≤ 2000) ∧ Below w0.heap.size w0 w') := by
 have hM : Mem w0.heap.size w0 [] w0 := Mem.start (Nat.le_refl _)
 refine enter (l := [.int .i64 p]) 5 Tryz.func226 rfl rfl (fun a hF => ?_)
 replace hF : Fr 6 [(0, .int .i64 p)] a := hF
 revert a; refine Sq (Rg (Md 1 [0] rfl (Nx (Sq (Rg (Mv 1 rfl (Sm (p * 108853) rfl (by omega) (Gv rfl (fun _ hF => gives_shr (15) (_) hF rfl rfl rfl rfl rfl _) (Md 1 [2] rfl (Nx (Re ?_))))))))))); intro a hF
 refine ret1 hF rfl rfl ⟨_, rfl, ⟨_, rfl, ?_, ?_⟩, hM.below⟩ <;> (rw [show min 15 IntKind.i64.bits = 15 from rfl, Int.fdiv_eq_ediv_of_nonneg _ (by decide)]; omega)
theorem pack_walk (m e : Int) (w0 : World) :
    Calls Tryz.prog 246 #[.int .u64 m, .int .i64 e] w0 (Ret fun v w' => (∃ f er, v = .tuple #[.float .f64 f, er] ∧ ErOk er) ∧ Below w0.heap.size w0 w') := by
 have hM : Mem w0.heap.size w0 [] w0 := Mem.start (Nat.le_refl _)
 refine enter (l := [.int .u64 m, .int .i64 e]) 24 Tryz.func246 rfl rfl (fun a hF => ?_)
 replace hF : Fr 26 [(0, .int .u64 m), (1, .int .i64 e)] a := hF
 revert a; refine Sq (Rg (Md 2 [0,1] rfl (Nx (Sq (Sq (Rg (Mv 1 rfl (Gv rfl (fun _ hF => gives_bits (_) hF rfl rfl rfl rfl _) (Md 1 [0,1,8] rfl (Nx (C0 rfl ?_ ?_)))))))))))
 ·
  refine Sq (Rg (Mv 1 rfl ?_)); intro a hF
  refine op_frombits hF rfl rfl rfl rfl rfl ?_; clear hF a; intro a hF
  revert a; exact Md 2 [4,5] rfl (Nx (Re (Rt (Y2 rfl rfl rfl ⟨_, rfl, ⟨_, _, rfl, by first | exact .inl rfl | exact .inr ⟨1, .inl rfl, rfl⟩⟩, hM.below⟩))))
 refine Sk (Nx (Sq (Sq (Rg (Md 2 [0,1,12] rfl (Nx (C0 rfl ?_ ?_)))))))
 ·
  refine Sq (Rg (Mv 1 rfl (Gv rfl (fun _ hF => gives_bits (_) hF rfl rfl rfl rfl _) (Gv rfl (fun _ hF => gives_bits (_) hF rfl rfl rfl rfl _) ?_)))); intro a hF
  refine op_frombits hF rfl rfl rfl rfl rfl ?_; clear hF a; intro a hF
  revert a; exact Gv rfl (fun _ hF => gives_mkIface hF rfl Tryz.underlying168 rfl rfl _) (Md 2 [4,5] rfl (Nx (Re (Rt (Y2 rfl rfl rfl ⟨_, rfl, ⟨_, _, rfl, by first | exact .inl rfl | exact .inr ⟨1, .inl rfl, rfl⟩⟩, hM.below⟩)))))
 refine Sk (Nx (Sq (Rg (Mv 1 rfl (Gv rfl (fun _ hF => gives_bits (_) hF rfl rfl rfl rfl _) (Mv 3 rfl (Gv rfl (fun _ hF => gives_shl (52) (_) hF rfl rfl rfl rfl rfl _) (Gv rfl (fun _ hF => gives_bits (_) hF rfl rfl rfl rfl _) ?_)))))))); intro a hF
 refine op_frombits hF rfl rfl rfl rfl rfl ?_; clear hF a; intro a hF
 revert a; exact Md 2 [4,5] rfl (Nx (Re (Y2 rfl rfl rfl ⟨_, rfl, ⟨_, _, rfl, by first | exact .inl rfl | exact .inr ⟨1, .inl rfl, rfl⟩⟩, hM.below⟩)))
end Go.Sx
namespace Go.Sx
open Go.RowKit Go.Proofs Js Go.Proofs.YtelonenjneonlaaGreatDoorW.PrintWords
theorem special_walk (s : Str) (hs : s.length ≤ 2 ^ 41) (w0 : World) :
    Calls Tryz.prog 205 #[.string (mkS s)] w0 (Ret fun v w' => (∃ (f : Nat) (n : Int) (ok : Bool), v = .tuple #[.float .f64 f, .int .i64 n, .bool ok]) ∧ Below w0.heap.size w0 w') := by
 have hM : Mem w0.heap.size w0 [] w0 := Mem.start (Nat.le_refl _)
 refine enter (l := [.string (mkS s)]) 49 Tryz.func205 rfl rfl (fun a hF => ?_)
 replace hF : Fr 50 [(0, .string (mkS s))] a := hF
 revert a; refine Sq (Rg (Md 3 [0] rfl (Nx (Sq (Sq (Rg (Md 3 [0,10] rfl (Nx (C2 rfl ?_ ((fun ht => ?_)))))))))))
 · exact Sq (Rg (Md 3 [2,3,4] rfl (Nx (Re (Rt (Y3 rfl rfl rfl rfl ⟨_, rfl, ⟨_, _, _, rfl⟩, hM.below⟩))))))
 have hne : ¬ s.length = 0 := by have := ht; simp at this; intro e; exact this (List.length_eq_zero_iff.1 e)
 obtain ⟨c, hc⟩ : ∃ c, s[0]? = some c := ⟨_, List.getElem?_eq_getElem (by omega)⟩
 refine Sk (Nx (Sq (Rg (Md 1 [0,5] rfl (Nx (Sq (Rg (Md 1 [0,5,6] rfl (Nx ?_))))))))); intro a hF
 refine cutF (fun a w => Fr 50 [] a ∧ Mem w0.heap.size w0 [] w) (fun a w h => ?_) ?_
 ·
  clear hF hM
  obtain ⟨hF, hM⟩ := h
  revert a; exact Sq (Rg (Md 3 [2,3,4] rfl (Nx (Re (Y3 rfl rfl rfl rfl ⟨_, rfl, ⟨_, _, _, rfl⟩, hM.below⟩)))))
 revert a; refine Sq (Rg (Mv 1 rfl ?_)); intro a hF
 refine op_index_str hF rfl (0) c rfl rfl rfl Tryz.underlying9 rfl rfl (by first | rfl | omega) hc ?_; clear hF a; intro a hF
 revert a; refine Md 0 [0,5,6,12] rfl (Nx (Bo ?_)); intro a hF
 refine cutF (fun a w => ∃ (t : Str), t.length ≤ 2 ^ 41 ∧ Fr 50 [(0, .string (mkS t))] a ∧ Mem w0.heap.size w0 [] w) (fun a w h => ?_) ?_
 ·
  clear hF hM
  obtain ⟨t, hs2, hF, hM⟩ := h
  revert a; refine Sq (Sq (Rg (Mv 1 rfl (Cm hM rfl Tryz.func241 (by kernel_rfl) rfl (commonPrefix_walk t [110, 97, 110] hs2 w) ?_))))
  clear hM; intro w v hR hM hBe
  obtain ⟨z, rfl⟩ := hR
  refine Md 1 [48] rfl (Nx (D0 rfl ?_ ?_))
  ·
   refine Sk (Nx (Ex (Ob (Kp [] rfl ?_)))); intro a hF
   exact ⟨hF, hM⟩
  refine Sq (Rg (Cm hM rfl Tryz.func243 (by kernel_rfl) rfl (nan_walk w) ?_))
  clear hM; intro w v hR hM hBe
  obtain ⟨f, rfl⟩ := hR
  exact Md 3 [2,3,4] rfl (Nx (Re (Rt (Rb (Rt (Y3 rfl rfl rfl rfl ⟨_, rfl, ⟨_, _, _, rfl⟩, hM.below⟩))))))
 refine wp_block ?_
 refine cutF (fun a w => ∃ (t : Str) (sg ns : Int), t.length ≤ 2 ^ 41 ∧ Fr 50 [(0, .string (mkS t)), (5, .int .i64 sg), (6, .int .i64 ns)] a ∧ Mem w0.heap.size w0 [] w) (fun a w h => ?_) ?_
 ·
  clear hF hM
  obtain ⟨t, sg, ns, hs2, hF, hM⟩ := h
  revert a; refine Sq (Sq (Rg (Mv 1 rfl (Cm hM rfl Tryz.func241 (by kernel_rfl) rfl (commonPrefix_walk t [105, 110, 102, 105, 110, 105, 116, 121] hs2 w) ?_))))
  clear hM; intro w v hR hM hBe
  obtain ⟨z, rfl⟩ := hR
  refine Md 1 [5,6,7] rfl (Nx ?_); intro a hF
  refine cut (fun a w => ∃ z : Int, Fr 50 [(5, .int .i64 sg), (6, .int .i64 ns), (7, .int .i64 z)] a ∧ Mem w0.heap.size w0 [] w) ?_ (fun a w h => ?_)
  ·
   revert a; refine Sq ?_
   rcases (show 3 < z ∨ ¬ 3 < z by omega) with hk | hk
   ·
    refine Rg (Mv 1 rfl (Bv rfl rfl (decide_eq_true (show (3 : Int) < z by omega)) (Md 4 [5,6,7,34] rfl (Nx (D0 rfl ?_ ?_)))))
    ·
     refine Sk (Kp [5,6,7] rfl ?_); intro a hF
     exact ⟨_, hF, hM⟩
    refine Rg (Md 1 [5,6,7] rfl ?_); intro a hF
    exact ⟨_, hF, hM⟩
   refine Rg (Mv 1 rfl (Bv rfl rfl (decide_eq_false (show ¬ ((3 : Int) < z) by omega)) (Md 4 [5,6,7,34] rfl (Nx (Cf rfl (Sk (Kp [5,6,7] rfl ?_))))))); intro a hF
   exact ⟨_, hF, hM⟩
  clear hF hM
  skip
  obtain ⟨z, hF, hM⟩ := h
  revert a; refine Sq ?_
  rcases (show z = 3 ∨ ¬ z = 3 by omega) with hk | hk
  ·
   refine Rg (Mv 2 rfl ?_); intro a hF
   rw [show (z == 3) = true by simp [hk]] at hF
   revert a; refine Md 4 [5,6,7,40] rfl (Nx (Ct rfl (Sq (Rg (Mv 1 rfl (Cm hM rfl Tryz.func242 (by kernel_rfl) rfl (inf_walk _ w) ?_))))))
   clear hM; intro w v hR hM hBe
   obtain ⟨f, rfl⟩ := hR
   exact Md 6 [2,3,4] rfl (Nx (Re (Rt (Rb (Rt (Rb (Rt (Y3 rfl rfl rfl rfl ⟨_, rfl, ⟨_, _, _, rfl⟩, hM.below⟩))))))))
  refine Rg (Mv 2 rfl ?_); intro a hF
  rw [show (z == 3) = false by simp [hk]] at hF
  revert a; refine Md 4 [5,6,7,40] rfl (Nx (D0 rfl ?_ ?_))
  ·
   refine Sk (Nx (Ex (Op' rfl (Ot (Ob (Kp [] rfl ?_)))))); intro a hF
   exact ⟨hF, hM⟩
  refine Sq (Rg (Mv 1 rfl (Cm hM rfl Tryz.func242 (by kernel_rfl) rfl (inf_walk _ w) ?_)))
  clear hM; intro w v hR hM hBe
  obtain ⟨f, rfl⟩ := hR
  exact Md 6 [2,3,4] rfl (Nx (Re (Rt (Rb (Rt (Rb (Rt (Y3 rfl rfl rfl rfl ⟨_, rfl, ⟨_, _, _, rfl⟩, hM.below⟩))))))))
 revert a; refine Bo (Sq (Bo (Sq (Sq (Sq (Sq (Rg (Md 2 [0,5,6,12,13] rfl (Nx (C0 rfl ?_ ?_))))))))))
 ·
  refine Sk (Nx (C0 rfl ?_ ?_))
  ·
   refine Ex (Ot (Ot (Ob (Nx (Sq (Sq (Rg (Mv 1 rfl ?_)))))))); intro a hF
   refine op_index_str hF rfl (0) c rfl rfl rfl Tryz.underlying9 rfl rfl (by first | rfl | omega) hc ?_; clear hF a; intro a hF
   revert a; refine Md 1 [0,5,24] rfl (Nx (D0 rfl ?_ ?_))
   ·
    refine Sk (Nx (Sq (Rg (Md 1 [0,5,6] rfl (Nx (Rg (Mv 1 rfl ?_))))))); intro a hF
    refine op_sliceFrom_str hF rfl 1 rfl rfl rfl Tryz.underlying9 rfl rfl rfl (by omega) ?_; clear hF a; intro a hF
    revert a; refine Md 1 [0,5,6] rfl (Nb (Kp [0,5,6] rfl ?_)); intro a hF
    first | exact ⟨_, _, _, by simp; omega, hF, hM⟩ | exact ⟨_, _, _, hs, hF, hM⟩
   refine Rg (Md 1 [0,5] rfl (Nx (Sq (Rg (Md 1 [0,5,6] rfl (Nx (Rg (Mv 1 rfl ?_)))))))); intro a hF
   refine op_sliceFrom_str hF rfl 1 rfl rfl rfl Tryz.underlying9 rfl rfl rfl (by omega) ?_; clear hF a; intro a hF
   revert a; refine Md 1 [0,5,6] rfl (Nb (Kp [0,5,6] rfl ?_)); intro a hF
   first | exact ⟨_, _, _, by simp; omega, hF, hM⟩ | exact ⟨_, _, _, hs, hF, hM⟩
  refine Sk (Nx (Sq (Sq (Sq (Rg (Md 2 [0,5,6,12,16] rfl (Nx (C0 rfl ?_ ?_))))))))
  ·
   refine Sk (Nx (C0 rfl ?_ ?_))
   ·
    refine Ex (Ot (Ot (Op' rfl (Ot (Ob (Kp [0,5,6] rfl ?_)))))); intro a hF
    first | exact ⟨_, _, _, by simp; omega, hF, hM⟩ | exact ⟨_, _, _, hs, hF, hM⟩
   refine Sk (Nx (Sq (Sq (Rg (Md 2 [0,12,19] rfl (Nx (C0 rfl ?_ ?_)))))))
   ·
    refine Sk (Nx (C0 rfl ?_ ?_))
    ·
     refine Ex (Ot (Op' rfl (Ot (Op' rfl (Ot (Ob (Kp [0] rfl ?_))))))); intro a hF
     first | exact ⟨_, hs, hF, hM⟩ | exact ⟨_, hs2, hF, hM⟩
    refine Sk (Nx (Ex (Op' rfl (Ot (Op' rfl (Ot (Op' rfl (Ot (Ob (Kp [] rfl ?_)))))))))); intro a hF
    exact ⟨hF, hM⟩
   refine Rg (Md 2 [0,19] rfl (Nx (C0 rfl ?_ ?_)))
   ·
    refine Ex (Ot (Op' rfl (Ot (Op' rfl (Ot (Ob (Kp [0] rfl ?_))))))); intro a hF
    first | exact ⟨_, hs, hF, hM⟩ | exact ⟨_, hs2, hF, hM⟩
   refine Sk (Nx (Ex (Op' rfl (Ot (Op' rfl (Ot (Op' rfl (Ot (Ob (Kp [] rfl ?_)))))))))); intro a hF
   exact ⟨hF, hM⟩
  refine Rg (Md 2 [0,5,6,12,16] rfl (Nx (C0 rfl ?_ ?_)))
  ·
   refine Ex (Ot (Ot (Op' rfl (Ot (Ob (Kp [0,5,6] rfl ?_)))))); intro a hF
   first | exact ⟨_, _, _, by simp; omega, hF, hM⟩ | exact ⟨_, _, _, hs, hF, hM⟩
  refine Sk (Nx (Sq (Sq (Rg (Md 2 [0,12,19] rfl (Nx (C0 rfl ?_ ?_)))))))
  ·
   refine Sk (Nx (C0 rfl ?_ ?_))
   ·
    refine Ex (Ot (Op' rfl (Ot (Op' rfl (Ot (Ob (Kp [0] rfl ?_))))))); intro a hF
    first | exact ⟨_, hs, hF, hM⟩ | exact ⟨_, hs2, hF, hM⟩
   refine Sk (Nx (Ex (Op' rfl (Ot (Op' rfl (Ot (Op' rfl (Ot (Ob (Kp [] rfl ?_)))))))))); intro a hF
   exact ⟨hF, hM⟩
  refine Rg (Md 2 [0,19] rfl (Nx (C0 rfl ?_ ?_)))
  ·
   refine Ex (Ot (Op' rfl (Ot (Op' rfl (Ot (Ob (Kp [0] rfl ?_))))))); intro a hF
   first | exact ⟨_, hs, hF, hM⟩ | exact ⟨_, hs2, hF, hM⟩
  refine Sk (Nx (Ex (Op' rfl (Ot (Op' rfl (Ot (Op' rfl (Ot (Ob (Kp [] rfl ?_)))))))))); intro a hF
  exact ⟨hF, hM⟩
 refine Rg (Md 2 [0,5,6,12,13] rfl (Nx (C0 rfl ?_ ?_)))
 ·
  refine Ex (Ot (Ot (Ob (Nx (Sq (Sq (Rg (Mv 1 rfl ?_)))))))); intro a hF
  refine op_index_str hF rfl (0) c rfl rfl rfl Tryz.underlying9 rfl rfl (by first | rfl | omega) hc ?_; clear hF a; intro a hF
  revert a; refine Md 1 [0,5,24] rfl (Nx (D0 rfl ?_ ?_))
  ·
   refine Sk (Nx (Sq (Rg (Md 1 [0,5,6] rfl (Nx (Rg (Mv 1 rfl ?_))))))); intro a hF
   refine op_sliceFrom_str hF rfl 1 rfl rfl rfl Tryz.underlying9 rfl rfl rfl (by omega) ?_; clear hF a; intro a hF
   revert a; refine Md 1 [0,5,6] rfl (Nb (Kp [0,5,6] rfl ?_)); intro a hF
   first | exact ⟨_, _, _, by simp; omega, hF, hM⟩ | exact ⟨_, _, _, hs, hF, hM⟩
  refine Rg (Md 1 [0,5] rfl (Nx (Sq (Rg (Md 1 [0,5,6] rfl (Nx (Rg (Mv 1 rfl ?_)))))))); intro a hF
  refine op_sliceFrom_str hF rfl 1 rfl rfl rfl Tryz.underlying9 rfl rfl rfl (by omega) ?_; clear hF a; intro a hF
  revert a; refine Md 1 [0,5,6] rfl (Nb (Kp [0,5,6] rfl ?_)); intro a hF
  first | exact ⟨_, _, _, by simp; omega, hF, hM⟩ | exact ⟨_, _, _, hs, hF, hM⟩
 refine Sk (Nx (Sq (Sq (Sq (Rg (Md 2 [0,5,6,12,16] rfl (Nx (C0 rfl ?_ ?_))))))))
 ·
  refine Sk (Nx (C0 rfl ?_ ?_))
  ·
   refine Ex (Ot (Ot (Op' rfl (Ot (Ob (Kp [0,5,6] rfl ?_)))))); intro a hF
   first | exact ⟨_, _, _, by simp; omega, hF, hM⟩ | exact ⟨_, _, _, hs, hF, hM⟩
  refine Sk (Nx (Sq (Sq (Rg (Md 2 [0,12,19] rfl (Nx (C0 rfl ?_ ?_)))))))
  ·
   refine Sk (Nx (C0 rfl ?_ ?_))
   ·
    refine Ex (Ot (Op' rfl (Ot (Op' rfl (Ot (Ob (Kp [0] rfl ?_))))))); intro a hF
    first | exact ⟨_, hs, hF, hM⟩ | exact ⟨_, hs2, hF, hM⟩
   refine Sk (Nx (Ex (Op' rfl (Ot (Op' rfl (Ot (Op' rfl (Ot (Ob (Kp [] rfl ?_)))))))))); intro a hF
   exact ⟨hF, hM⟩
  refine Rg (Md 2 [0,19] rfl (Nx (C0 rfl ?_ ?_)))
  ·
   refine Ex (Ot (Op' rfl (Ot (Op' rfl (Ot (Ob (Kp [0] rfl ?_))))))); intro a hF
   first | exact ⟨_, hs, hF, hM⟩ | exact ⟨_, hs2, hF, hM⟩
  refine Sk (Nx (Ex (Op' rfl (Ot (Op' rfl (Ot (Op' rfl (Ot (Ob (Kp [] rfl ?_)))))))))); intro a hF
  exact ⟨hF, hM⟩
 refine Rg (Md 2 [0,5,6,12,16] rfl (Nx (C0 rfl ?_ ?_)))
 ·
  refine Ex (Ot (Ot (Op' rfl (Ot (Ob (Kp [0,5,6] rfl ?_)))))); intro a hF
  first | exact ⟨_, _, _, by simp; omega, hF, hM⟩ | exact ⟨_, _, _, hs, hF, hM⟩
 refine Sk (Nx (Sq (Sq (Rg (Md 2 [0,12,19] rfl (Nx (C0 rfl ?_ ?_)))))))
 ·
  refine Sk (Nx (C0 rfl ?_ ?_))
  ·
   refine Ex (Ot (Op' rfl (Ot (Op' rfl (Ot (Ob (Kp [0] rfl ?_))))))); intro a hF
   first | exact ⟨_, hs, hF, hM⟩ | exact ⟨_, hs2, hF, hM⟩
  refine Sk (Nx (Ex (Op' rfl (Ot (Op' rfl (Ot (Op' rfl (Ot (Ob (Kp [] rfl ?_)))))))))); intro a hF
  exact ⟨hF, hM⟩
 refine Rg (Md 2 [0,19] rfl (Nx (C0 rfl ?_ ?_)))
 ·
  refine Ex (Ot (Op' rfl (Ot (Op' rfl (Ot (Ob (Kp [0] rfl ?_))))))); intro a hF
  first | exact ⟨_, hs, hF, hM⟩ | exact ⟨_, hs2, hF, hM⟩
 refine Sk (Nx (Ex (Op' rfl (Ot (Op' rfl (Ot (Op' rfl (Ot (Ob (Kp [] rfl ?_)))))))))); intro a hF
 exact ⟨hF, hM⟩
end Go.Sx
namespace Go.Sx
open Go.RowKit Go.Proofs Js Go.Proofs.YtelonenjneonlaaGreatDoorW.PrintWords
theorem numc_x : ∀ n : Nat, n < 256 → numc n.toUInt8 = true → n ≠ 95 ∧ (n ||| 32) ≠ 120 := by decide +kernel
theorem numc_no95 {c : UInt8} (h : numc c = true) : c ≠ 95 := by rintro rfl; exact absurd h (by decide)
theorem numc_nox {c : UInt8} (h : numc c = true) : (((c.toNat ||| 32 : Nat) : Int) == 120) = false := by
  have := (numc_x c.toNat c.toNat_lt (by rw [show c.toNat.toUInt8 = c by simp]; exact h)).2
  simp only [beq_eq_false_iff_ne, ne_eq]
  omega
set_option maxRecDepth 100000 in
theorem readFloat_walk (s : Str) (hs : s.length ≤ 2 ^ 41) (hs0 : s ≠ []) (hn : ∀ c ∈ s, numc c = true) (w0 : World) :
    Calls Tryz.prog 206 #[.string (mkS s)] w0 (Ret fun v w' => (∃ (mant exp : Int) (neg tr : Bool) (n : Nat) (ok : Bool), n ≤ s.length ∧ v = .tuple #[.int .u64 mant, .int .i64 exp, .bool neg, .bool tr, .bool false, .int .i64 (n : Int), .bool ok]) ∧ Below w0.heap.size w0 w') := by
 have hM : Mem w0.heap.size w0 [] w0 := Mem.start (Nat.le_refl _)
 have hlp : 0 < s.length := List.length_pos_iff.2 hs0
 obtain ⟨c0, hc0⟩ : ∃ c, s[0]? = some c := ⟨_, List.getElem?_eq_getElem hlp⟩
 have hnum : ∀ {j c}, s[j]? = some c → numc c = true := fun h => hn _ (List.mem_of_getElem? h)
 refine enter (l := [.string (mkS s)]) 252 Tryz.func206 rfl rfl (fun a hF => ?_)
 replace hF : Fr 253 [(0, .string (mkS s))] a := hF
 revert a; refine Sq (Rg (Md 7 [0,2,3,4,5,6,7,8] rfl (Nx ?_))); intro a hF
 refine scopeZ (X := Unit) (fun _ _ _ _ => False) (fun _ _ => 0) (fun _ => 0) (fun _ _ _ _ _ h => h.elim) (fun _ => ?_)
 revert a; refine Sq (Rg (Md 1 [0,2,3,4,5,6,7,8,9] rfl (Nx (Sq (Sq (Rg (Md 4 [0,2,3,4,5,6,7,8,9,24] rfl (Nx (C1 rfl (fun ht => absurd (of_decide_eq_true ht) (by omega)) (Sk (Nx ?_))))))))))); intro a hF
 refine cut (fun a w => ∃ (i : Nat) (neg : Bool), i ≤ s.length ∧ Fr 253 [(0, .string (mkS s)), (2, .int .u64 0), (3, .int .i64 0), (4, .bool neg), (5, .bool false), (6, .bool false), (7, .int .i64 (i : Int)), (8, .bool false), (9, .bool false)] a ∧ Mem w0.heap.size w0 [] w) ?_ (fun a w h => ?_)
 ·
  revert a; refine Sq (Rg (Mv 2 rfl ?_)); intro a hF
  refine op_index_str hF rfl (0) c0 rfl rfl rfl Tryz.underlying9 rfl rfl (by first | rfl | omega) hc0 ?_; clear hF a; intro a hF
  revert a; refine Md 0 [0,2,3,4,5,6,7,8,9,27] rfl (Nx (Bo (Sq (Rg (Md 2 [0,2,3,4,5,6,7,8,9,27,28] rfl (Nx (C0 rfl ?_ ?_)))))))
  ·
   refine Rg (Mv 1 rfl (Sm (((1 : Nat) : Int)) rfl (by omega) (Md 1 [0,2,3,4,5,6,7,8,9] rfl (Nb (Kp [0,2,3,4,5,6,7,8,9] rfl ?_))))); intro a hF
   first | exact ⟨1, _, by omega, hF, hM⟩ | exact ⟨0, _, by omega, hF, hM⟩
  refine Sq (Rg (Md 2 [0,2,3,4,5,6,7,8,9,32] rfl (Nx (D0 rfl ?_ ?_))))
  ·
   refine Sk (Nb (Kp [0,2,3,4,5,6,7,8,9] rfl ?_)); intro a hF
   first | exact ⟨1, _, by omega, hF, hM⟩ | exact ⟨0, _, by omega, hF, hM⟩
  refine Sq (Rg (Mv 1 rfl (Sn rfl (by omega) (Md 1 [0,2,3,5,6,7,8,9] rfl (Nx (Rg (Md 1 [0,2,3,4,5,6,7,8,9] rfl (Nb (Kp [0,2,3,4,5,6,7,8,9] rfl ?_))))))))); intro a hF
  first | exact ⟨1, _, by omega, hF, hM⟩ | exact ⟨0, _, by omega, hF, hM⟩
 clear hF hM
 obtain ⟨i0, neg, hi0, hF, hM⟩ := h
 revert a; refine Sq (Rg (Md 1 [0,2,3,4,5,6,7,8,9,10] rfl (Nx (Sq (Rg (Md 1 [0,2,3,4,5,6,7,8,9,10,11] rfl (Nx (Sq (Rg (Md 1 [0,2,3,4,5,6,7,8,9,10,11,12] rfl (Nx ?_))))))))))); intro a hF
 refine cut (fun a w => Fr 253 [(0, .string (mkS s)), (2, .int .u64 0), (3, .int .i64 0), (4, .bool neg), (5, .bool false), (6, .bool false), (7, .int .i64 (i0 : Int)), (8, .bool false), (9, .bool false), (10, .int .u64 10), (11, .int .i64 19), (12, .int .u8 101)] a ∧ Mem w0.heap.size w0 [] w) ?_ (fun a w h => ?_)
 ·
  revert a; refine Sq ?_
  rcases (show s.length ≤ i0 + 2 ∨ (i0 + 2 < s.length ∧ ∃ c1 c2, s[i0]? = some c1 ∧ s[i0 + 1]? = some c2 ∧ c1 ≠ 48) ∨ (i0 + 2 < s.length ∧ ∃ c1 c2, s[i0]? = some c1 ∧ s[i0 + 1]? = some c2 ∧ c1 = 48) from (Nat.lt_or_ge (i0 + 2) s.length).elim (fun h => .inr (by have g1 : s[i0]? = some (s[i0]) := List.getElem?_eq_getElem (by omega); have g2 : s[i0 + 1]? = some (s[i0 + 1]) := List.getElem?_eq_getElem (by omega); by_cases hx : s[i0] = 48; exact .inr ⟨h, _, _, g1, g2, hx⟩; exact .inl ⟨h, _, _, g1, g2, hx⟩)) (fun h => .inl h)) with hk | ⟨hk, c1, c2, hc1, hc2, h48⟩ | ⟨hk, c1, c2, hc1, hc2, h48⟩
  ·
   refine Rg (Mv 1 rfl (Sm (((i0 + 2 : Nat) : Int)) rfl (by omega) (Mv 2 rfl (Bv rfl rfl (decide_eq_false (show ¬ (((i0 + 2 : Nat) : Int) < (s.length : Int)) by omega)) (Md 14 [0,2,3,4,5,6,7,8,9,10,11,12,54] rfl (Nx (Cf rfl (Sk (Kp [0,2,3,4,5,6,7,8,9,10,11,12] rfl ?_))))))))); intro a hF
   exact ⟨hF, hM⟩
  ·
   refine Rg (Mv 1 rfl (Sm (((i0 + 2 : Nat) : Int)) rfl (by omega) (Mv 2 rfl (Bv rfl rfl (decide_eq_true (show ((i0 + 2 : Nat) : Int) < (s.length : Int) by omega)) (Mv 3 rfl ?_))))); intro a hF
   refine guard_yes hF rfl rfl rfl rfl rfl rfl ?_
   refine op_index_str hF rfl (i0) c1 rfl rfl rfl Tryz.underlying9 rfl rfl (by first | rfl | omega) hc1 ?_; clear hF a; intro a hF
   revert a; refine Bv rfl rfl (beq_f (d := 48) (z := 48) rfl h48) (Md 9 [0,2,3,4,5,6,7,8,9,10,11,12,54] rfl (Nx (Cf rfl (Sk (Kp [0,2,3,4,5,6,7,8,9,10,11,12] rfl ?_))))); intro a hF
   exact ⟨hF, hM⟩
  refine Rg (Mv 1 rfl (Sm (((i0 + 2 : Nat) : Int)) rfl (by omega) (Mv 2 rfl (Bv rfl rfl (decide_eq_true (show ((i0 + 2 : Nat) : Int) < (s.length : Int) by omega)) (Mv 3 rfl ?_))))); intro a hF
  refine guard_yes hF rfl rfl rfl rfl rfl rfl ?_
  refine op_index_str hF rfl (i0) c1 rfl rfl rfl Tryz.underlying9 rfl rfl (by first | rfl | omega) hc1 ?_; clear hF a; intro a hF
  revert a; refine Bv rfl rfl (beq_t (d := 48) (z := 48) rfl h48) (Mv 4 rfl (Sm (((i0 + 1 : Nat) : Int)) rfl (by omega) ?_)); intro a hF
  refine guard_yes hF rfl rfl rfl rfl rfl rfl ?_
  refine op_index_str hF rfl (i0 + 1) c2 rfl rfl rfl Tryz.underlying9 rfl rfl (by first | rfl | omega) hc2 ?_; clear hF a; intro a hF
  revert a; refine Cm hM rfl Tryz.func128 (by kernel_rfl) rfl (lower_walk c2 w) ?_
  clear hM; intro w v hR hM hBe
  obtain rfl := hR
  refine Mv 1 rfl ?_; intro a hF
  rw [numc_nox (hnum hc2)] at hF
  revert a; refine Md 1 [0,2,3,4,5,6,7,8,9,10,11,12,54] rfl (Nx (Cf rfl (Sk (Kp [0,2,3,4,5,6,7,8,9,10,11,12] rfl ?_)))); intro a hF
  exact ⟨hF, hM⟩
 clear hF hM
 obtain ⟨hF, hM⟩ := h
 revert a; refine Sq (Rg (Md 1 [0,2,3,4,5,6,7,8,9,10,11,12,13] rfl (Nx (Sq (Rg (Md 1 [0,2,3,4,5,6,7,8,9,10,11,12,13,14] rfl (Nx (Sq (Rg (Md 1 [0,2,3,4,5,6,7,8,9,10,11,12,13,14,15] rfl (Nx (Sq (Rg (Md 1 [0,2,3,4,5,6,7,8,9,10,11,12,13,14,15,16] rfl (Nx (Sq (Rg (Md 1 [0,2,3,4,5,6,7,8,9,10,11,12,13,14,15,16,17] rfl (Nx (Sq (Wl (Nx ?_)))))))))))))))))))))); intro a hF
 refine cut (fun a w => ∃ i : Nat, i ≤ s.length ∧ ∃ (mant : Int) (tr sd sg : Bool) (nd nm dp : Int), Fr 253 [(0, .string (mkS s)), (2, .int .u64 mant), (3, .int .i64 0), (4, .bool neg), (5, .bool tr), (6, .bool false), (7, .int .i64 (i : Int)), (8, .bool false), (9, .bool false), (10, .int .u64 10), (11, .int .i64 19), (12, .int .u8 101), (13, .bool sd), (14, .bool sg), (15, .int .i64 nd), (16, .int .i64 nm), (17, .int .i64 dp)] a ∧ Mem w0.heap.size w0 [] w) ?_ (fun a w h => ?_)
 ·
  revert a; refine Bo (Kp [0,2,3,4,5,6,7,8,9,10,11,12,13,14,15,16,17] rfl ?_); intro a hF
  refine loopX (fun (i : Nat) a w => i ≤ s.length ∧ ∃ (mant : Int) (tr sd sg : Bool) (nd nm dp : Int), Fr 253 [(0, .string (mkS s)), (2, .int .u64 mant), (3, .int .i64 0), (4, .bool neg), (5, .bool tr), (6, .bool false), (7, .int .i64 (i : Int)), (8, .bool false), (9, .bool false), (10, .int .u64 10), (11, .int .i64 19), (12, .int .u8 101), (13, .bool sd), (14, .bool sg), (15, .int .i64 nd), (16, .int .i64 nm), (17, .int .i64 dp)] a ∧ Mem w0.heap.size w0 [] w) (fun i => s.length - i) (i0) ?_ (fun i a w hI => ?_)
  · exact ⟨hi0, _, _, _, _, _, _, _, hF, hM⟩
  clear hF hM
  obtain ⟨hi, mant, tr, sd, sg, nd, nm, dp, hF, hM⟩ := hI
  revert a; refine Sq (Sq (Rg (Md 4 [0,2,3,4,5,6,7,8,9,10,11,12,13,14,15,16,17,60] rfl (Nx (D1 rfl ?_ ((fun ht => ?_)))))))
  ·
   refine Ex (Ot (Ot (Ob (Kp [0,2,3,4,5,6,7,8,9,10,11,12,13,14,15,16,17] rfl ?_)))); intro a hF
   exact ⟨i, hi, _, _, _, _, _, _, _, hF, hM⟩
  have hlt : i < s.length := by have := of_decide_eq_true ht; omega
  obtain ⟨c, hc⟩ : ∃ c, s[i]? = some c := ⟨_, List.getElem?_eq_getElem hlt⟩
  refine Sk (Nx (Sq (Bo (Sq (Sq (Rg (Mv 2 rfl ?_))))))); intro a hF
  refine op_index_str hF rfl (i) c rfl rfl rfl Tryz.underlying9 rfl rfl (by first | rfl | omega) hc ?_; clear hF a; intro a hF
  revert a; refine Md 1 [0,2,3,4,5,6,7,8,9,10,11,12,13,14,15,16,17,18] rfl (Nx (Bo (Sq (Rg (Mv 1 rfl (Bv rfl rfl (beq_f (d := 95) (z := 95) rfl (numc_no95 (hnum hc))) (Gv rfl (fun _ hF => gives_eqlBool hF rfl Tryz.underlying4 rfl rfl _) (Md 1 [0,2,3,4,5,6,7,8,9,10,11,12,13,14,15,16,17,18,66] rfl (Nx (C1 rfl (fun ht => absurd ht (by decide)) (Sq (Rg (Mv 2 rfl (Gv rfl (fun _ hF => gives_eqlBool hF rfl Tryz.underlying4 rfl rfl _) (Md 1 [0,2,3,4,5,6,7,8,9,10,11,12,13,14,15,16,17,18,70] rfl (Nx (C0 rfl ?_ ?_)))))))))))))))))
  ·
   refine Sq (Sq (Rg (Md 1 [0,2,3,4,5,6,7,8,9,10,11,12,13,14,15,16,17,74] rfl (Nx (C0 rfl ?_ ?_)))))
   ·
    refine Ex (Ot (Op' rfl (Ot (Op' rfl (Ot (Ot (Ob (Kp [0,2,3,4,5,6,7,8,9,10,11,12,13,14,15,16,17] rfl ?_)))))))); intro a hF
    exact ⟨i, hi, _, _, _, _, _, _, _, hF, hM⟩
   refine Sk (Nx (Sq (Rg (Md 1 [0,2,3,4,5,6,7,8,9,10,11,12,13,14,15,16] rfl (Nx (Sq (Rg (Md 2 [0,2,3,4,5,6,7,8,9,10,11,12,13,14,15,16,17] rfl (Nx (Ex (Op' rfl (Ot (Ob (Nx (Rg (Mv 1 rfl (Sm (((i + 1 : Nat) : Int)) rfl (by omega) (Md 1 [0,2,3,4,5,6,7,8,9,10,11,12,13,14,15,16,17] rfl ?_)))))))))))))))))); intro a hF
   exact ⟨i + 1, ⟨by omega, _, _, _, _, _, _, _, hF, hM⟩, by omega⟩
  refine Sq ?_
  rcases (show c.toNat < 48 ∨ (48 ≤ c.toNat ∧ 57 < c.toNat) ∨ (48 ≤ c.toNat ∧ c.toNat ≤ 57) by omega) with hk | hk | hk
  ·
   refine Rg (Mv 1 rfl (Bv rfl rfl (decide_eq_false (show ¬ ((48 : Int) ≤ (c.toNat : Int)) by omega)) (Mv 4 rfl (Gv rfl (fun _ hF => gives_eqlBool hF rfl Tryz.underlying4 rfl rfl _) (Md 1 [0,2,3,4,5,6,7,8,9,10,11,12,13,14,15,16,17,18,76] rfl (Nx (C1 rfl (fun ht => absurd ht (by decide)) (Sq ?_))))))))
   skip
   refine Rg (Mv 1 rfl (Bv rfl rfl (show ((10 : Int) == 16) = false from rfl) (Mv 10 rfl (Gv rfl (fun _ hF => gives_eqlBool hF rfl Tryz.underlying4 rfl rfl _) (Md 1 [0,2,3,4,5,6,7,8,9,10,11,12,13,14,15,16,17,18,109] rfl (Nx (C1 rfl (fun ht => absurd ht (by decide)) (Sk (Nb (Nx (Ex (Op' rfl (Ot (Ot (Ob (Kp [0,2,3,4,5,6,7,8,9,10,11,12,13,14,15,16,17] rfl ?_)))))))))))))))); intro a hF
   exact ⟨i, hi, _, _, _, _, _, _, _, hF, hM⟩
  ·
   refine Rg (Mv 1 rfl (Bv rfl rfl (decide_eq_true (show (48 : Int) ≤ (c.toNat : Int) by omega)) (Mv 2 rfl (Bv rfl rfl (decide_eq_false (show ¬ ((c.toNat : Int) ≤ 57) by omega)) (Mv 1 rfl (Gv rfl (fun _ hF => gives_eqlBool hF rfl Tryz.underlying4 rfl rfl _) (Md 1 [0,2,3,4,5,6,7,8,9,10,11,12,13,14,15,16,17,18,76] rfl (Nx (C1 rfl (fun ht => absurd ht (by decide)) (Sq ?_))))))))))
   skip
   refine Rg (Mv 1 rfl (Bv rfl rfl (show ((10 : Int) == 16) = false from rfl) (Mv 10 rfl (Gv rfl (fun _ hF => gives_eqlBool hF rfl Tryz.underlying4 rfl rfl _) (Md 1 [0,2,3,4,5,6,7,8,9,10,11,12,13,14,15,16,17,18,109] rfl (Nx (C1 rfl (fun ht => absurd ht (by decide)) (Sk (Nb (Nx (Ex (Op' rfl (Ot (Ot (Ob (Kp [0,2,3,4,5,6,7,8,9,10,11,12,13,14,15,16,17] rfl ?_)))))))))))))))); intro a hF
   exact ⟨i, hi, _, _, _, _, _, _, _, hF, hM⟩
  refine Rg (Mv 1 rfl (Bv rfl rfl (decide_eq_true (show (48 : Int) ≤ (c.toNat : Int) by omega)) (Mv 2 rfl (Bv rfl rfl (decide_eq_true (show (c.toNat : Int) ≤ 57 by omega)) (Mv 1 rfl (Gv rfl (fun _ hF => gives_eqlBool hF rfl Tryz.underlying4 rfl rfl _) (Md 1 [0,2,3,4,5,6,7,8,9,10,11,12,13,14,15,16,17,18,76] rfl (Nx (D2 rfl (fun ht => absurd ht (by decide)) (Sq (Rg (Md 1 [0,2,3,4,5,6,7,8,9,10,11,12,13,14,15,16,17,18] rfl (Nx (Sq (Sq ?_)))))))))))))))
  rcases Classical.em (c = 48) with h48 | h48
  ·
   refine Rg (Mv 1 rfl (Bv rfl rfl (beq_t (d := 48) (z := 48) rfl h48) (Md 4 [0,2,3,4,5,6,7,8,9,10,11,12,13,14,15,16,17,18,89] rfl (Nx (C0 rfl ?_ ?_)))))
   ·
    refine Sq (Rg (Md 3 [0,2,3,4,5,6,7,8,9,10,11,12,13,14,15,16,17] rfl (Nx (Ex (Ot (Op' rfl (Ot (Ob (Nx (Rg (Mv 1 rfl (Sm (((i + 1 : Nat) : Int)) rfl (by omega) (Md 1 [0,2,3,4,5,6,7,8,9,10,11,12,13,14,15,16,17] rfl ?_))))))))))))); intro a hF
    exact ⟨i + 1, ⟨by omega, _, _, _, _, _, _, _, hF, hM⟩, by omega⟩
   refine Sk (Nx (Sq (Rg (Md 3 [0,2,3,4,5,6,7,8,9,10,11,12,13,14,15,16,17,18] rfl (Nx (Sq (Sq (Rg (Md 3 [0,2,3,4,5,6,7,8,9,10,11,12,13,14,15,16,17,18,96] rfl (Nx (C0 rfl ?_ ?_)))))))))))
   ·
    refine Sq (Rg (Md 4 [0,2,3,4,5,6,7,8,9,10,11,12,13,14,15,16,17,18] rfl (Nx (Sq (Rg (Md 6 [0,2,3,4,5,6,7,8,9,10,11,12,13,14,15,16,17] rfl (Nx (Rg (Md 3 [0,2,3,4,5,6,7,8,9,10,11,12,13,14,15,16,17] rfl (Nx (Ex (Op' rfl (Ot (Ob (Nx (Rg (Mv 1 rfl (Sm (((i + 1 : Nat) : Int)) rfl (by omega) (Md 1 [0,2,3,4,5,6,7,8,9,10,11,12,13,14,15,16,17] rfl ?_))))))))))))))))))); intro a hF
    exact ⟨i + 1, ⟨by omega, _, _, _, _, _, _, _, hF, hM⟩, by omega⟩
   refine Sq (Rg (Md 2 [0,2,3,4,5,6,7,8,9,10,11,12,13,14,15,16,17,108] rfl (Nx (D0 rfl ?_ ?_))))
   ·
    refine Sk (Nx (Ex (Op' rfl (Ot (Ob (Nx (Rg (Mv 1 rfl (Sm (((i + 1 : Nat) : Int)) rfl (by omega) (Md 1 [0,2,3,4,5,6,7,8,9,10,11,12,13,14,15,16,17] rfl ?_)))))))))); intro a hF
    exact ⟨i + 1, ⟨by omega, _, _, _, _, _, _, _, hF, hM⟩, by omega⟩
   refine Rg (Md 1 [0,2,3,4,5,6,7,8,9,10,11,12,13,14,15,16,17] rfl (Nx (Ex (Op' rfl (Ot (Ob (Nx (Rg (Mv 1 rfl (Sm (((i + 1 : Nat) : Int)) rfl (by omega) (Md 1 [0,2,3,4,5,6,7,8,9,10,11,12,13,14,15,16,17] rfl ?_))))))))))); intro a hF
   exact ⟨i + 1, ⟨by omega, _, _, _, _, _, _, _, hF, hM⟩, by omega⟩
  refine Rg (Mv 1 rfl (Bv rfl rfl (beq_f (d := 48) (z := 48) rfl h48) (Md 4 [0,2,3,4,5,6,7,8,9,10,11,12,13,14,15,16,17,18,89] rfl (Nx (Cf rfl (Sk (Nx (Sq (Rg (Md 3 [0,2,3,4,5,6,7,8,9,10,11,12,13,14,15,16,17,18] rfl (Nx (Sq (Sq (Rg (Md 3 [0,2,3,4,5,6,7,8,9,10,11,12,13,14,15,16,17,18,96] rfl (Nx (C0 rfl ?_ ?_)))))))))))))))))
  ·
   refine Sq (Rg (Md 4 [0,2,3,4,5,6,7,8,9,10,11,12,13,14,15,16,17,18] rfl (Nx (Sq (Rg (Md 6 [0,2,3,4,5,6,7,8,9,10,11,12,13,14,15,16,17] rfl (Nx (Rg (Md 3 [0,2,3,4,5,6,7,8,9,10,11,12,13,14,15,16,17] rfl (Nx (Ex (Op' rfl (Ot (Ob (Nx (Rg (Mv 1 rfl (Sm (((i + 1 : Nat) : Int)) rfl (by omega) (Md 1 [0,2,3,4,5,6,7,8,9,10,11,12,13,14,15,16,17] rfl ?_))))))))))))))))))); intro a hF
   exact ⟨i + 1, ⟨by omega, _, _, _, _, _, _, _, hF, hM⟩, by omega⟩
  refine Sq (Rg (Md 2 [0,2,3,4,5,6,7,8,9,10,11,12,13,14,15,16,17,108] rfl (Nx (D0 rfl ?_ ?_))))
  ·
   refine Sk (Nx (Ex (Op' rfl (Ot (Ob (Nx (Rg (Mv 1 rfl (Sm (((i + 1 : Nat) : Int)) rfl (by omega) (Md 1 [0,2,3,4,5,6,7,8,9,10,11,12,13,14,15,16,17] rfl ?_)))))))))); intro a hF
   exact ⟨i + 1, ⟨by omega, _, _, _, _, _, _, _, hF, hM⟩, by omega⟩
  refine Rg (Md 1 [0,2,3,4,5,6,7,8,9,10,11,12,13,14,15,16,17] rfl (Nx (Ex (Op' rfl (Ot (Ob (Nx (Rg (Mv 1 rfl (Sm (((i + 1 : Nat) : Int)) rfl (by omega) (Md 1 [0,2,3,4,5,6,7,8,9,10,11,12,13,14,15,16,17] rfl ?_))))))))))); intro a hF
  exact ⟨i + 1, ⟨by omega, _, _, _, _, _, _, _, hF, hM⟩, by omega⟩
 clear hF hM
 obtain ⟨i, hi, mant, tr, sd, sg, nd, nm, dp, hF, hM⟩ := h
 revert a; refine Sq (Sq (Rg (Md 2 [0,2,3,4,5,6,7,8,9,10,12,13,15,16,17,140] rfl (Nx (C0 rfl ?_ ?_)))))
 ·
  refine Re (Rt (Jr ?_)); intro a hF
  refine retMany hF hM rfl rfl (.tmp rfl (.tmp rfl (.tmp rfl (.tmp rfl (.tmp rfl (.tmp rfl (.tmp rfl .nil))))))) ⟨_, rfl, ⟨_, _, _, _, _, _, ?_, rfl⟩, hM.below⟩
  omega
 refine Sk (Nx ?_); intro a hF
 refine cut (fun a w => ∃ (mant : Int) (tr : Bool) (nm dp : Int), Fr 253 [(0, .string (mkS s)), (2, .int .u64 mant), (3, .int .i64 0), (4, .bool neg), (5, .bool tr), (6, .bool false), (7, .int .i64 (i : Int)), (8, .bool false), (9, .bool false), (10, .int .u64 10), (12, .int .u8 101), (16, .int .i64 nm), (17, .int .i64 dp)] a ∧ Mem w0.heap.size w0 [] w) ?_ (fun a w h => ?_)
 ·
  revert a; refine Sq (Rg (Md 2 [0,2,3,4,5,6,7,8,9,10,12,15,16,17,142] rfl (Nx (D0 rfl ?_ ?_))))
  ·
   refine Sk (Kp [0,2,3,4,5,6,7,8,9,10,12,16,17] rfl ?_); intro a hF
   exact ⟨_, _, _, _, hF, hM⟩
  refine Rg (Md 2 [0,2,3,4,5,6,7,8,9,10,12,16,17] rfl ?_); intro a hF
  exact ⟨_, _, _, _, hF, hM⟩
 clear hF hM
 skip
 obtain ⟨mant, tr, nm, dp, hF, hM⟩ := h
 revert a; refine Sq (Sq (Rg (Mv 1 rfl (Bv rfl rfl (show ((10 : Int) == 16) = false from rfl) (Md 0 [0,2,3,4,5,6,7,8,9,10,12,16,17,145] rfl (Nx (Cf rfl (Sk (Nx ?_))))))))); intro a hF
 refine cutF (fun a w => ∃ (i : Nat), i ≤ s.length ∧ ∃ (mant : Int) (tr : Bool) (nm dp : Int), Fr 253 [(0, .string (mkS s)), (2, .int .u64 mant), (3, .int .i64 0), (4, .bool neg), (5, .bool tr), (6, .bool false), (7, .int .i64 (i : Int)), (8, .bool false), (9, .bool false), (16, .int .i64 nm), (17, .int .i64 dp)] a ∧ Mem w0.heap.size w0 [] w) (fun a w h => ?_) ?_
 ·
  clear hF hM
  clear hi
  obtain ⟨i, hi, mant, tr, nm, dp, hF, hM⟩ := h
  refine cut (fun a w => ∃ exp : Int, Fr 253 [(0, .string (mkS s)), (2, .int .u64 mant), (3, .int .i64 exp), (4, .bool neg), (5, .bool tr), (6, .bool false), (7, .int .i64 (i : Int)), (8, .bool false), (9, .bool false)] a ∧ Mem w0.heap.size w0 [] w) ?_ (fun a w h => ?_)
  ·
   revert a; refine Sq (Rg (Md 2 [0,2,3,4,5,6,7,8,9,16,17,241] rfl (Nx (D0 rfl ?_ ?_))))
   ·
    refine Sk (Kp [0,2,3,4,5,6,7,8,9] rfl ?_); intro a hF
    exact ⟨_, hF, hM⟩
   refine Rg (Md 4 [0,2,3,4,5,6,7,8,9] rfl ?_); intro a hF
   exact ⟨_, hF, hM⟩
  clear hF hM
  obtain ⟨exp, hF, hM⟩ := h
  revert a; refine Sq (Sq ?_)
  skip
  refine Rg (Md 8 [2,3,4,5,6,7,8,252] rfl (Nx (Cf rfl (Sk (Nx (Sq (Rg (Md 1 [2,3,4,5,6,7,8] rfl (Nx (Re (Jr ?_))))))))))); intro a hF
  refine retMany hF hM rfl rfl (.tmp rfl (.tmp rfl (.tmp rfl (.tmp rfl (.tmp rfl (.tmp rfl (.tmp rfl .nil))))))) ⟨_, rfl, ⟨_, _, _, _, _, _, ?_, rfl⟩, hM.below⟩
  omega
 revert a; refine Sq ?_
 rcases Nat.lt_or_ge i s.length with hlt | hge
 ·
  obtain ⟨c, hc⟩ : ∃ c, s[i]? = some c := ⟨_, List.getElem?_eq_getElem hlt⟩
  refine Rg (Mv 3 rfl (Bv rfl rfl (decide_eq_true (show (i : Int) < (s.length : Int) by omega)) (Mv 3 rfl ?_))); intro a hF
  refine guard_yes hF rfl rfl rfl rfl rfl rfl ?_
  refine op_index_str hF rfl (i) c rfl rfl rfl Tryz.underlying9 rfl rfl (by first | rfl | omega) hc ?_; clear hF a; intro a hF
  revert a; refine Cm hM rfl Tryz.func128 (by kernel_rfl) rfl (lower_walk c w) ?_
  clear hM; intro w v hR hM hBe
  obtain rfl := hR
  refine Md 3 [0,2,3,4,5,6,7,8,9,10,16,17,161] rfl (Nx (D0 rfl ?_ ?_))
  ·
   refine Sq (Rg (Mv 1 rfl (Bv rfl rfl (show ((10 : Int) == 16) = false from rfl) (Md 0 [0,2,3,4,5,6,7,8,9,16,17,239] rfl (Nx (Cf rfl (Sk (Kp [0,2,3,4,5,6,7,8,9,16,17] rfl ?_)))))))); intro a hF
   exact ⟨i, hi, _, _, _, _, hF, hM⟩
  refine Sq (Rg (Mv 1 rfl (Sm (((i + 1 : Nat) : Int)) rfl (by omega) (Md 1 [0,2,3,4,5,6,7,8,9,16,17] rfl (Nx (Sq (Sq (Rg (Md 4 [0,2,3,4,5,6,7,8,9,16,17,167] rfl (Nx (C2 rfl ?_ ((fun ht => ?_)))))))))))))
  ·
   refine Re (Rt (Rt (Jr ?_))); intro a hF
   refine retMany hF hM rfl rfl (.tmp rfl (.tmp rfl (.tmp rfl (.tmp rfl (.tmp rfl (.tmp rfl (.tmp rfl .nil))))))) ⟨_, rfl, ⟨_, _, _, _, _, _, ?_, rfl⟩, hM.below⟩
   omega
  have hlt1 : i + 1 < s.length := by have := of_decide_eq_false ht; omega
  obtain ⟨c1, hc1⟩ : ∃ c, s[i + 1]? = some c := ⟨_, List.getElem?_eq_getElem hlt1⟩
  refine Sk (Nx (Sq (Rg (Md 1 [0,2,3,4,5,6,7,8,9,16,17,19] rfl (Nx ?_))))); intro a hF
  refine cut (fun a w => ∃ (i : Nat) (es : Int), i ≤ s.length ∧ ∃ (mant : Int) (tr : Bool) (nm dp : Int), Fr 253 [(0, .string (mkS s)), (2, .int .u64 mant), (3, .int .i64 0), (4, .bool neg), (5, .bool tr), (6, .bool false), (7, .int .i64 (i : Int)), (8, .bool false), (9, .bool false), (16, .int .i64 nm), (17, .int .i64 dp), (19, .int .i64 es)] a ∧ Mem w0.heap.size w0 [] w) ?_ (fun a w h => ?_)
  ·
   revert a; refine Sq (Rg (Mv 2 rfl ?_)); intro a hF
   refine op_index_str hF rfl (i + 1) c1 rfl rfl rfl Tryz.underlying9 rfl rfl (by first | rfl | omega) hc1 ?_; clear hF a; intro a hF
   revert a; refine Md 0 [0,2,3,4,5,6,7,8,9,16,17,19,170] rfl (Nx (Bo (Sq (Rg (Md 2 [0,2,3,4,5,6,7,8,9,16,17,19,170,171] rfl (Nx (C0 rfl ?_ ?_)))))))
   ·
    refine Rg (Mv 1 rfl (Sm (((i + 1 + 1 : Nat) : Int)) rfl (by omega) (Md 1 [0,2,3,4,5,6,7,8,9,16,17,19] rfl (Nb (Kp [0,2,3,4,5,6,7,8,9,16,17,19] rfl ?_))))); intro a hF
    first | exact ⟨i + 1 + 1, _, by omega, _, _, _, _, hF, hM⟩ | exact ⟨i + 1, _, by omega, _, _, _, _, hF, hM⟩
   refine Sq (Rg (Md 2 [0,2,3,4,5,6,7,8,9,16,17,19,175] rfl (Nx (D0 rfl ?_ ?_))))
   ·
    refine Sk (Nb (Kp [0,2,3,4,5,6,7,8,9,16,17,19] rfl ?_)); intro a hF
    first | exact ⟨i + 1 + 1, _, by omega, _, _, _, _, hF, hM⟩ | exact ⟨i + 1, _, by omega, _, _, _, _, hF, hM⟩
   refine Sq (Rg (Mv 1 rfl (Sm (((i + 1 + 1 : Nat) : Int)) rfl (by omega) (Md 1 [0,2,3,4,5,6,7,8,9,16,17] rfl (Nx (Rg (Md 1 [0,2,3,4,5,6,7,8,9,16,17,19] rfl (Nb (Kp [0,2,3,4,5,6,7,8,9,16,17,19] rfl ?_))))))))); intro a hF
   first | exact ⟨i + 1 + 1, _, by omega, _, _, _, _, hF, hM⟩ | exact ⟨i + 1, _, by omega, _, _, _, _, hF, hM⟩
  clear hF hM
  obtain ⟨i1, es, hi1, mant, tr, nm, dp, hF, hM⟩ := h
  revert a; refine Sq (Sq ?_)
  rcases Nat.lt_or_ge i1 s.length with hlt2 | hge2
  ·
   obtain ⟨c3, hc3⟩ : ∃ c, s[i1]? = some c := ⟨_, List.getElem?_eq_getElem (by omega)⟩
   rcases (show c3.toNat < 48 ∨ (48 ≤ c3.toNat) by omega) with hk2 | hk2
   ·
    refine Rg (Mv 3 rfl (Bv rfl rfl (decide_eq_false (show ¬ ((i1 : Int) ≥ (s.length : Int)) by omega)) (Mv 3 rfl ?_))); intro a hF
    refine guard_yes hF rfl rfl rfl rfl rfl rfl ?_
    refine op_index_str hF rfl (i1) c3 rfl rfl rfl Tryz.underlying9 rfl rfl (by first | rfl | omega) hc3 ?_; clear hF a; intro a hF
    revert a; refine Bv rfl rfl (decide_eq_true (show (c3.toNat : Int) < 48 by omega)) (Md 7 [0,2,3,4,5,6,7,8,9,16,17,19,194] rfl (Nx (Ct rfl (Re (Rt (Rt (Jr ?_))))))); intro a hF
    refine retMany hF hM rfl rfl (.tmp rfl (.tmp rfl (.tmp rfl (.tmp rfl (.tmp rfl (.tmp rfl (.tmp rfl .nil))))))) ⟨_, rfl, ⟨_, _, _, _, _, _, ?_, rfl⟩, hM.below⟩
    omega
   refine Rg (Mv 3 rfl (Bv rfl rfl (decide_eq_false (show ¬ ((i1 : Int) ≥ (s.length : Int)) by omega)) (Mv 3 rfl ?_))); intro a hF
   refine guard_yes hF rfl rfl rfl rfl rfl rfl ?_
   refine op_index_str hF rfl (i1) c3 rfl rfl rfl Tryz.underlying9 rfl rfl (by first | rfl | omega) hc3 ?_; clear hF a; intro a hF
   revert a; refine Bv rfl rfl (decide_eq_false (show ¬ ((c3.toNat : Int) < 48) by omega)) (Mv 4 rfl ?_); intro a hF
   refine guard_yes hF rfl rfl rfl rfl rfl rfl ?_
   refine op_index_str hF rfl (i1) c3 rfl rfl rfl Tryz.underlying9 rfl rfl (by first | rfl | omega) hc3 ?_; clear hF a; intro a hF
   revert a; refine Md 2 [0,2,3,4,5,6,7,8,9,16,17,19,194] rfl (Nx (C0 rfl ?_ ?_))
   ·
    refine Re (Rt (Rt (Jr ?_))); intro a hF
    refine retMany hF hM rfl rfl (.tmp rfl (.tmp rfl (.tmp rfl (.tmp rfl (.tmp rfl (.tmp rfl (.tmp rfl .nil))))))) ⟨_, rfl, ⟨_, _, _, _, _, _, ?_, rfl⟩, hM.below⟩
    omega
   refine Sk (Nx (Sq (Rg (Md 1 [0,2,3,4,5,6,7,8,9,16,17,19,20] rfl (Nx (Sq (Bo (Kp [0,2,3,4,5,6,7,8,9,16,17,19,20] rfl ?_)))))))); intro a hF
   refine loopX (fun (i : Nat) a w => i ≤ s.length ∧ ∃ e : Int, ∃ (mant : Int) (tr : Bool) (nm dp : Int), Fr 253 [(0, .string (mkS s)), (2, .int .u64 mant), (3, .int .i64 0), (4, .bool neg), (5, .bool tr), (6, .bool false), (7, .int .i64 (i : Int)), (8, .bool false), (9, .bool false), (16, .int .i64 nm), (17, .int .i64 dp), (19, .int .i64 es), (20, .int .i64 e)] a ∧ Mem w0.heap.size w0 [] w) (fun i => s.length - i) (i1) ?_ (fun i a w hI => ?_)
   · exact ⟨hi1, _, _, _, _, _, hF, hM⟩
   clear hF hM
   clear hi
   obtain ⟨hi, e, mant, tr, nm, dp, hF, hM⟩ := hI
   revert a; refine Sq (Sq ?_)
   rcases (show s.length ≤ i ∨ (i < s.length ∧ ∃ c, s[i]? = some c ∧ c.toNat < 48) ∨ (i < s.length ∧ ∃ c, s[i]? = some c ∧ 48 ≤ c.toNat ∧ c.toNat ≤ 57) ∨ (i < s.length ∧ ∃ c, s[i]? = some c ∧ 48 ≤ c.toNat ∧ 57 < c.toNat) from (Nat.lt_or_ge i s.length).elim (fun h => .inr (by have hg : s[i]? = some (s[i]) := List.getElem?_eq_getElem h; rcases (show (s[i]).toNat < 48 ∨ (48 ≤ (s[i]).toNat ∧ (s[i]).toNat ≤ 57) ∨ (48 ≤ (s[i]).toNat ∧ 57 < (s[i]).toNat) by omega) with h1 | h1 | h1; exact .inl ⟨h, _, hg, h1⟩; exact .inr (.inl ⟨h, _, hg, h1⟩); exact .inr (.inr ⟨h, _, hg, h1⟩))) (fun h => .inl h)) with hlt | ⟨hlt, c, hc, hk⟩ | ⟨hlt, c, hc, hk⟩ | ⟨hlt, c, hc, hk⟩
   ·
    refine Rg (Mv 3 rfl (Bv rfl rfl (decide_eq_false (show ¬ ((i : Int) < (s.length : Int)) by omega)) (Md 18 [0,2,3,4,5,6,7,8,9,16,17,19,20,216] rfl (Nx (Cf rfl (Ex (Ot (Ot (Ob (Nx (Rg (Md 6 [0,2,3,4,5,6,7,8,9,16,17] rfl ?_)))))))))))); intro a hF
    exact ⟨i, hi, _, _, _, _, hF, hM⟩
   ·
    refine Rg (Mv 3 rfl (Bv rfl rfl (decide_eq_true (show (i : Int) < (s.length : Int) by omega)) (Mv 3 rfl ?_))); intro a hF
    refine guard_yes hF rfl rfl rfl rfl rfl rfl ?_
    refine op_index_str hF rfl (i) c rfl rfl rfl Tryz.underlying9 rfl rfl (by first | rfl | omega) hc ?_; clear hF a; intro a hF
    revert a; refine Bv rfl rfl (decide_eq_false (show ¬ ((48 : Int) ≤ (c.toNat : Int)) by omega)) (Mv 9 rfl ?_); intro a hF
    refine guard_yes hF rfl rfl rfl rfl rfl rfl ?_
    refine op_index_str hF rfl (i) c rfl rfl rfl Tryz.underlying9 rfl rfl (by first | rfl | omega) hc ?_; clear hF a; intro a hF
    revert a; refine Bv rfl rfl (beq_f (d := 95) (z := 95) rfl (numc_no95 (hnum hc))) (Md 2 [0,2,3,4,5,6,7,8,9,16,17,19,20,216] rfl (Nx (Cf rfl (Ex (Ot (Ot (Ob (Nx (Rg (Md 6 [0,2,3,4,5,6,7,8,9,16,17] rfl ?_)))))))))); intro a hF
    exact ⟨i, hi, _, _, _, _, hF, hM⟩
   ·
    refine Rg (Mv 3 rfl (Bv rfl rfl (decide_eq_true (show (i : Int) < (s.length : Int) by omega)) (Mv 3 rfl ?_))); intro a hF
    refine guard_yes hF rfl rfl rfl rfl rfl rfl ?_
    refine op_index_str hF rfl (i) c rfl rfl rfl Tryz.underlying9 rfl rfl (by first | rfl | omega) hc ?_; clear hF a; intro a hF
    revert a; refine Bv rfl rfl (decide_eq_true (show (48 : Int) ≤ (c.toNat : Int) by omega)) (Mv 3 rfl ?_); intro a hF
    refine guard_yes hF rfl rfl rfl rfl rfl rfl ?_
    refine op_index_str hF rfl (i) c rfl rfl rfl Tryz.underlying9 rfl rfl (by first | rfl | omega) hc ?_; clear hF a; intro a hF
    revert a; refine Bv rfl rfl (decide_eq_true (show (c.toNat : Int) ≤ 57 by omega)) (Md 8 [0,2,3,4,5,6,7,8,9,16,17,19,20,216] rfl (Nx (Ct rfl (Sk (Nx (Sq (Bo (Sq (Sq (Rg (Mv 2 rfl ?_))))))))))); intro a hF
    refine op_index_str hF rfl (i) c rfl rfl rfl Tryz.underlying9 rfl rfl (by first | rfl | omega) hc ?_; clear hF a; intro a hF
    revert a; refine Bv rfl rfl (beq_f (d := 95) (z := 95) rfl (numc_no95 (hnum hc))) (Md 0 [0,2,3,4,5,6,7,8,9,16,17,19,20,222] rfl (Nx (Cf rfl (Sk (Nx (Sq (Rg (Md 2 [0,2,3,4,5,6,7,8,9,16,17,19,20,224] rfl (Nx (D0 rfl ?_ ?_))))))))))
    ·
     refine Sk (Nb (Nx (Rg (Mv 1 rfl (Sm (((i + 1 : Nat) : Int)) rfl (by omega) (Md 1 [0,2,3,4,5,6,7,8,9,16,17,19,20] rfl ?_)))))); intro a hF
     exact ⟨i + 1, ⟨by omega, _, _, _, _, _, hF, hM⟩, by omega⟩
    refine Rg (Mv 4 rfl ?_); intro a hF
    refine op_index_str hF rfl (i) c rfl rfl rfl Tryz.underlying9 rfl rfl (by first | rfl | omega) hc ?_; clear hF a; intro a hF
    revert a; refine Md 4 [0,2,3,4,5,6,7,8,9,16,17,19,20] rfl (Nb (Nx (Rg (Mv 1 rfl (Sm (((i + 1 : Nat) : Int)) rfl (by omega) (Md 1 [0,2,3,4,5,6,7,8,9,16,17,19,20] rfl ?_)))))); intro a hF
    exact ⟨i + 1, ⟨by omega, _, _, _, _, _, hF, hM⟩, by omega⟩
   refine Rg (Mv 3 rfl (Bv rfl rfl (decide_eq_true (show (i : Int) < (s.length : Int) by omega)) (Mv 3 rfl ?_))); intro a hF
   refine guard_yes hF rfl rfl rfl rfl rfl rfl ?_
   refine op_index_str hF rfl (i) c rfl rfl rfl Tryz.underlying9 rfl rfl (by first | rfl | omega) hc ?_; clear hF a; intro a hF
   revert a; refine Bv rfl rfl (decide_eq_true (show (48 : Int) ≤ (c.toNat : Int) by omega)) (Mv 3 rfl ?_); intro a hF
   refine guard_yes hF rfl rfl rfl rfl rfl rfl ?_
   refine op_index_str hF rfl (i) c rfl rfl rfl Tryz.underlying9 rfl rfl (by first | rfl | omega) hc ?_; clear hF a; intro a hF
   revert a; refine Bv rfl rfl (decide_eq_false (show ¬ ((c.toNat : Int) ≤ 57) by omega)) (Mv 4 rfl ?_); intro a hF
   refine guard_yes hF rfl rfl rfl rfl rfl rfl ?_
   refine op_index_str hF rfl (i) c rfl rfl rfl Tryz.underlying9 rfl rfl (by first | rfl | omega) hc ?_; clear hF a; intro a hF
   revert a; refine Bv rfl rfl (beq_f (d := 95) (z := 95) rfl (numc_no95 (hnum hc))) (Md 2 [0,2,3,4,5,6,7,8,9,16,17,19,20,216] rfl (Nx (Cf rfl (Ex (Ot (Ot (Ob (Nx (Rg (Md 6 [0,2,3,4,5,6,7,8,9,16,17] rfl ?_)))))))))); intro a hF
   exact ⟨i, hi, _, _, _, _, hF, hM⟩
  refine Rg (Mv 3 rfl (Bv rfl rfl (decide_eq_true (show (i1 : Int) ≥ (s.length : Int) by omega)) (Md 12 [0,2,3,4,5,6,7,8,9,16,17,19,194] rfl (Nx (Ct rfl (Re (Rt (Rt (Jr ?_))))))))); intro a hF
  refine retMany hF hM rfl rfl (.tmp rfl (.tmp rfl (.tmp rfl (.tmp rfl (.tmp rfl (.tmp rfl (.tmp rfl .nil))))))) ⟨_, rfl, ⟨_, _, _, _, _, _, ?_, rfl⟩, hM.below⟩
  omega
 refine Rg (Mv 3 rfl (Bv rfl rfl (decide_eq_false (show ¬ ((i : Int) < (s.length : Int)) by omega)) (Md 8 [0,2,3,4,5,6,7,8,9,10,16,17,161] rfl (Nx (Cf rfl (Sq (Rg (Mv 1 rfl (Bv rfl rfl (show ((10 : Int) == 16) = false from rfl) (Md 0 [0,2,3,4,5,6,7,8,9,16,17,239] rfl (Nx (Cf rfl (Sk (Kp [0,2,3,4,5,6,7,8,9,16,17] rfl ?_)))))))))))))); intro a hF
 exact ⟨i, hi, _, _, _, _, hF, hM⟩
end Go.Sx
