/- Part 18 of the proof of FnGjJoinKeys: the statement Rows.FnGjJoinKeysCardSaid; no further condition. -/
import Derived.Test.YtelonenjneonlaaGreatDoorK17
set_option linter.all false
namespace Go.Sx
open Go.RowKit Go.Proofs Js Go.Proofs.YtelonenjneonlaaGreatDoorW.PrintWords
theorem forEachArr_walk (hPF : PF) {Bc : Nat} {f : FuncId} {fn : Func} (hf : Tryz.prog.funcs[f]? = some fn) (hname : (fn.name == "runtime.NumGoroutine") = false) (hb : fn.body.isNone = false) (cap : List Value) (Inv : Nat → World → List Bk → Prop) (hG : ∀ j wc Lc, Inv j wc Lc → Glob Bc wc) (u : Str) (ts : List (Str × Nat)) (hu : Js.Rest u ts) (str : Str) (fl : Nat) (ix : Int)
    (hcb : ∀ (j : Nat) (t : Str) (k : Nat) (L0 Lc : List Bk) (wc w : World) (kc : List Value) (str : Str) (fl : Nat) (ix : Int), ts[j]? = some (t, k) → kc.length = 6 → Inv j wc Lc → Mem Bc wc (L0 ++ Lc) w →
      Calls Tryz.prog f ([.agg kc.toArray, resV (kG k) t str fl ix] ++ cap).toArray w (Ret fun v w' => v = .bool true ∧ ∃ wc' Lc', Inv (j + 1) wc' Lc' ∧ Mem Bc wc' (L0 ++ Lc') w'))
    (wc w0 : World) (Lc : List Bk) (hI0 : Inv 0 wc Lc) (hM0 : Mem Bc wc Lc w0) (hT : u.length < 2 ^ 40) :
    Calls Tryz.prog 95 #[resV 5 (91 :: u) str fl ix, .func (.func f) #[] cap.toArray] w0 (Ret fun v w' => v = .tuple #[] ∧ ∃ wc' Lc', Inv ts.length wc' Lc' ∧ Mem Bc wc' Lc' w') := by
 have hM := hM0
 have hlT : (91 :: u).length = u.length + 1 := rfl
 have htl := hu.len
 refine enter (l := [resV 5 (91 :: u) str fl ix, .func (.func f) #[] cap.toArray]) 156 Tryz.func95 rfl rfl (fun a hF => ?_)
 replace hF : Fr 158 [(0, resV 5 (91 :: u) str fl ix), (1, .func (.func f) #[] cap.toArray)] a := hF
 refine seq (region ?_)
 refine op_box hF hM rfl rfl rfl rfl rfl rfl ?_; clear hF hM a; intro a w b2 hF hM
 revert a; refine Md 0 [1,2] rfl (Nx (Sq (Sq (Rg ?_)))); intro a hF
 refine op_loadA hF hM rfl 0 rfl rfl rfl Tryz.underlying135 rfl (by kernel_rfl) rfl rfl ?_; clear hF a; intro a hF
 revert a; refine Cm hM rfl Tryz.func92 (by kernel_rfl) rfl (exists_walk 5 (91 :: u) str fl ix w (by decide)) ?_
 clear hM; intro w v hR hM hBe
 obtain rfl := hR
 refine Md 1 [1,2,17] rfl (Nx (Cf rfl (Sk (Nx (Sq (Sq (Rg (Mv 1 rfl (Ld hM 0 rfl rfl (Md 1 [1,2,20] rfl (Nx (C1 rfl (fun ht => absurd ht (by decide)) (Sk (Nx (Sq (Rg (Mv 1 rfl (Ld hM 0 rfl rfl (Md 1 [1,2,4] rfl (Nx (Sq (Rg (Md 1 [1,2,4,5] rfl (Nx (Sq (Rg (Md 1 [1,2,4,5,6] rfl (Nx (Sq (Rg ?_)))))))))))))))))))))))))))))); intro a hF
 refine op_alloc hF hM rfl (vs := [.int .i64 0, .string (mkS []), .string (mkS []), .float .f64 0, .int .i64 0, .slice none 0 0]) rfl rfl rfl (by kernel_rfl) ?_; clear hF hM a; intro a w b7 hF hM
 refine op_alloc hF hM rfl (vs := [.int .i64 0, .string (mkS []), .string (mkS []), .float .f64 0, .int .i64 0, .slice none 0 0]) rfl rfl rfl (by kernel_rfl) ?_; clear hF hM a; intro a w b8 hF hM
 revert a; refine Md 0 [1,2,4,5,6,7,8] rfl (Nx (Sq (Bo (Kp [1,2,4,5,6,7,8] rfl ?_)))); intro a hF
 refine loopX (fun (x : Unit) a w => Fr 158 [(1, .func (.func f) #[] cap.toArray), (2, .pointer (some ⟨b2, 0, none⟩)), (4, .string (mkS (91 :: u))), (5, .bool false), (6, .int .i64 0), (7, .pointer (some ⟨b7, 0, none⟩)), (8, .pointer (some ⟨b8, 0, none⟩))] a ∧ Mem Bc wc ((b8, 135, [.int .i64 0, .string (mkS []), .string (mkS []), .float .f64 0, .int .i64 0, .slice none 0 0]) :: (b7, 135, [.int .i64 0, .string (mkS []), .string (mkS []), .float .f64 0, .int .i64 0, .slice none 0 0]) :: (b2, 135, resL 5 (91 :: u) str fl ix) :: Lc) w) (fun _ => 0) (()) ?_ (fun x a w hI => ?_)
 · exact ⟨hF, hM⟩
 clear hF hM
 obtain ⟨hF, hM⟩ := hI
 revert a; refine Sq (Sq (Rg (Md 4 [1,2,4,5,6,7,8,30] rfl (Nx (D2 rfl (fun ht => absurd (of_decide_eq_false ht) (by omega)) (Sk (Nx (Sq (Bo (Sq (Sq (Rg (Mv 2 rfl ?_))))))))))))); intro a hF
 refine op_index_str hF rfl (0) 91 rfl rfl rfl Tryz.underlying9 rfl rfl (by first | rfl | omega) rfl ?_; clear hF a; intro a hF
 revert a; refine Md 1 [1,2,4,5,6,7,8,36] rfl (Nx (C1 rfl (fun ht => absurd ht (by decide)) (Sq (Rg (Mv 2 rfl ?_))))); intro a hF
 refine op_index_str hF rfl (0) 91 rfl rfl rfl Tryz.underlying9 rfl rfl (by first | rfl | omega) rfl ?_; clear hF a; intro a hF
 revert a; refine Md 1 [1,2,4,5,6,7,8,43] rfl (Nx (D2 rfl (fun ht => absurd ht (by decide)) (Sq (Rg (Mv 1 rfl (Sm (((1 : Nat) : Int)) rfl (by omega) (Md 1 [1,2,4,5,6,7,8] rfl (Nx (Sq (Rg (Mv 1 rfl (St hM 1 rfl ?_))))))))))))
 clear hM; intro w hM
 refine Md 0 [1,2,4,5,6,7,8] rfl (Nx (Sq (Rg (Mv 1 rfl (St hM 1 rfl ?_)))))
 clear hM; intro w hM
 refine Md 0 [1,2,4,5,6,7,8] rfl (Nx (Ex (Ot (Op' rfl (Ot (Ot (Ob (Nx (Sq (Rg (Md 1 [1,2,4,5,6,7,8] rfl (Nx (Sq (Rg (Md 1 [1,2,4,5,6,7,8] rfl (Nx (Sq (Rg (Md 1 [1,2,4,5,6,7,8] rfl (Nx (Sq (Rg (Md 1 [1,2,4,5,6,7,8,12] rfl (Nx (Bo (Kp [1,2,4,5,6,7,8,12] rfl ?_)))))))))))))))))))))))))); intro a hF
 refine loopX (fun (x : Nat × Str × Nat) a w => ∃ (wc : World) (Lc : List Bk) (g : Nat) (vs8 : List Value), Fr 158 [(1, .func (.func f) #[] cap.toArray), (2, .pointer (some ⟨b2, 0, none⟩)), (4, .string (mkS (91 :: u))), (5, .bool false), (6, .int .i64 (x.1 : Int)), (7, .pointer (some ⟨b7, 0, none⟩)), (8, .pointer (some ⟨b8, 0, none⟩)), (12, .int .i64 (x.2.2 : Int))] a ∧ Mem Bc wc ((b8, 135, vs8) :: (b7, 135, [.int .i64 2, .string (mkS []), .string (mkS []), .float .f64 g, .int .i64 0, .slice none 0 0]) :: (b2, 135, resL 5 (91 :: u) str fl ix) :: Lc) w ∧ vs8.length = 6 ∧ Inv x.2.2 wc Lc ∧ (91 :: u).drop x.1 = x.2.1 ∧ Js.Rest x.2.1 (ts.drop x.2.2) ∧ x.2.2 ≤ ts.length ∧ x.1 ≤ (91 :: u).length) (fun x => (91 :: u).length - x.1) ((1, u, 0)) ?_ (fun x a w hI => ?_)
 · exact ⟨wc, Lc, _, _, hF, hM, rfl, hI0, rfl, hu, Nat.zero_le _, by rw [hlT]; omega⟩
 clear hF hM
 obtain ⟨i, u1, j⟩ := x
 obtain ⟨wc, Lc, g, vs8, hF, hM, h8, hI, hd, hR1, hj, hi⟩ := hI
 simp only at hF hM hI hd hR1 hj hi
 revert a; refine Sq (Sq (Rg (Md 4 [1,2,4,5,6,7,8,12,55] rfl (Nx (Ce rfl (fun ht => ?_) ((fun ht => ?_)))))))
 ·
  have hge := of_decide_eq_false ht
  have hu1 : u1 = [] := by rw [← hd]; exact List.drop_of_length_le (by omega)
  subst hu1
  have htd := hR1.nil
  have hjl : j = ts.length := by have := congrArg List.length htd; simp at this; omega
  subst hjl
  exact Ex (Ot (Ot (Ob (Z0 rfl ⟨_, rfl, rfl, wc, Lc, hI, hM.drop (List.Sublist.cons _ (List.Sublist.cons _ (List.Sublist.cons _ (List.Sublist.refl _))))⟩))))
 have hlt := of_decide_eq_true ht
 have hu1 : u1 ≠ [] := by intro e; subst e; have := congrArg List.length hd; simp at this; omega
 refine Sk (Nx (Sq (Bo (Sq (Sq (Rg (Md 1 [1,2,4,5,6,7,8,12,58] rfl (Nx (Cf rfl (Rg (Mv 1 rfl (Ld hM 1 rfl rfl ?_)))))))))))); intro a hF
 refine op_fadd hF hM rfl rfl rfl rfl rfl rfl ?_; clear hF hM a; intro a w g2 hF hM
 revert a; refine Mv 1 rfl (St hM 1 rfl ?_)
 clear hM; intro w hM
 refine Md 0 [1,2,4,5,6,7,8,12] rfl (Nx (Sq (Bo (Kp [1,2,4,5,6,7,8,12] rfl ?_)))); intro a hF
 refine loopX (fun (x : Nat × Str) a w => Fr 158 [(1, .func (.func f) #[] cap.toArray), (2, .pointer (some ⟨b2, 0, none⟩)), (4, .string (mkS (91 :: u))), (5, .bool false), (6, .int .i64 (x.1 : Int)), (7, .pointer (some ⟨b7, 0, none⟩)), (8, .pointer (some ⟨b8, 0, none⟩)), (12, .int .i64 (j : Int))] a ∧ Mem Bc wc ((b8, 135, vs8) :: (b7, 135, [.int .i64 2, .string (mkS []), .string (mkS []), .float .f64 g2, .int .i64 0, .slice none 0 0]) :: (b2, 135, resL 5 (91 :: u) str fl ix) :: Lc) w ∧ vs8.length = 6 ∧ (91 :: u).drop x.1 = x.2 ∧ Js.Rest x.2 (ts.drop j) ∧ x.2 ≠ [] ∧ i ≤ x.1) (fun x => (91 :: u).length - x.1) ((i, u1)) ?_ (fun x a w hI => ?_)
 · exact ⟨hF, hM, h8, hd, hR1, hu1, Nat.le_refl _⟩
 clear hF hM
 clear hd hR1 hu1
 obtain ⟨i2, u1⟩ := x
 obtain ⟨hF, hM, h8, hd, hR1, hu1, hii⟩ := hI
 simp only at hF hM hd hR1 hu1 hii
 have hlt2 : i2 < (91 :: u).length := by
   rcases Nat.lt_or_ge i2 (91 :: u).length with h | h
   · exact h
   · rw [List.drop_of_length_le h] at hd; exact absurd hd.symm hu1
 have hget : ∀ j, (91 :: u)[i2 + j]? = u1[j]? := fun j => by rw [← hd, List.getElem?_drop]
 revert a; refine Sq (Sq (Rg (Md 4 [1,2,4,5,6,7,8,12,103] rfl (Nx (D2 rfl (fun ht => absurd (of_decide_eq_false ht) (by omega)) (Sk (Nx (Sq (Bo (Sq (Sq ?_)))))))))))
 rcases hR1.look hu1 with ⟨c, u', he, hc, hRn, hun⟩ | ⟨c, u', he, hc, hRn, hun⟩ | ⟨c, u', he, hc, hRn, hun⟩ | ⟨he, hts⟩ | ⟨c, t', k, ts', d, u', he, hns, hfo, hnd, hRn, hts⟩
 ·
  have he0 : (91 :: u)[i2]? = some c := (hget 0).trans (by rw [he]; rfl)
  refine Rg (Mv 2 rfl ?_); intro a hF
  refine op_index_str hF rfl (i2) c rfl rfl rfl Tryz.underlying9 rfl rfl (by first | rfl | omega) he0 ?_; clear hF a; intro a hF
  revert a; refine Bv rfl rfl (decide_eq_true (show ((c.toNat : Int) ≤ 32) by omega)) (Md 12 [1,2,4,5,6,7,8,12,121] rfl (Nx (Ct rfl (Ex (Ot (Ob (Nx (Rg (Mv 1 rfl (Sm (((i2 + 1 : Nat) : Int)) rfl (by omega) (Md 1 [1,2,4,5,6,7,8,12] rfl ?_))))))))))); intro a hF
  exact ⟨(_, _), ⟨hF, hM, h8, by rw [← List.drop_drop, hd, he]; rfl, hRn, hun, by omega⟩, by simp only; omega⟩
 ·
  have he0 : (91 :: u)[i2]? = some c := (hget 0).trans (by rw [he]; rfl)
  refine Rg (Mv 2 rfl ?_); intro a hF
  refine op_index_str hF rfl (i2) c rfl rfl rfl Tryz.underlying9 rfl rfl (by first | rfl | omega) he0 ?_; clear hF a; intro a hF
  revert a; refine Bv rfl rfl (decide_eq_false (show ¬ (((c.toNat : Int) ≤ 32)) by omega)) (Mv 3 rfl ?_); intro a hF
  refine guard_yes hF rfl rfl rfl rfl rfl rfl ?_
  refine op_index_str hF rfl (i2) c rfl rfl rfl Tryz.underlying9 rfl rfl (by first | rfl | omega) he0 ?_; clear hF a; intro a hF
  revert a; refine Bv rfl rfl (beq_t (d := 44) (z := 44) rfl hc.2) (Md 7 [1,2,4,5,6,7,8,12,121] rfl (Nx (Ct rfl (Ex (Ot (Ob (Nx (Rg (Mv 1 rfl (Sm (((i2 + 1 : Nat) : Int)) rfl (by omega) (Md 1 [1,2,4,5,6,7,8,12] rfl ?_))))))))))); intro a hF
  exact ⟨(_, _), ⟨hF, hM, h8, by rw [← List.drop_drop, hd, he]; rfl, hRn, hun, by omega⟩, by simp only; omega⟩
 ·
  have he0 : (91 :: u)[i2]? = some c := (hget 0).trans (by rw [he]; rfl)
  refine Rg (Mv 2 rfl ?_); intro a hF
  refine op_index_str hF rfl (i2) c rfl rfl rfl Tryz.underlying9 rfl rfl (by first | rfl | omega) he0 ?_; clear hF a; intro a hF
  revert a; refine Bv rfl rfl (decide_eq_false (show ¬ (((c.toNat : Int) ≤ 32)) by omega)) (Mv 3 rfl ?_); intro a hF
  refine guard_yes hF rfl rfl rfl rfl rfl rfl ?_
  refine op_index_str hF rfl (i2) c rfl rfl rfl Tryz.underlying9 rfl rfl (by first | rfl | omega) he0 ?_; clear hF a; intro a hF
  revert a; refine Bv rfl rfl (beq_f (d := 44) (z := 44) rfl (by rw [hc.2]; decide)) (Mv 4 rfl ?_); intro a hF
  refine guard_yes hF rfl rfl rfl rfl rfl rfl ?_
  refine op_index_str hF rfl (i2) c rfl rfl rfl Tryz.underlying9 rfl rfl (by first | rfl | omega) he0 ?_; clear hF a; intro a hF
  revert a; refine Bv rfl rfl (beq_t (d := 58) (z := 58) rfl hc.2) (Md 1 [1,2,4,5,6,7,8,12,121] rfl (Nx (Ct rfl (Ex (Ot (Ob (Nx (Rg (Mv 1 rfl (Sm (((i2 + 1 : Nat) : Int)) rfl (by omega) (Md 1 [1,2,4,5,6,7,8,12] rfl ?_))))))))))); intro a hF
  exact ⟨(_, _), ⟨hF, hM, h8, by rw [← List.drop_drop, hd, he]; rfl, hRn, hun, by omega⟩, by simp only; omega⟩
 ·
  have he0 : (91 :: u)[i2]? = some 93 := (hget 0).trans (by rw [he]; rfl)
  have hl93 : i2 + 1 = (91 :: u).length := by have := congrArg List.length hd; rw [he] at this; simp at this; simp; omega
  have hjl : j = ts.length := by have := congrArg List.length hts; simp at this; omega
  subst hjl
  refine Rg (Mv 2 rfl ?_); intro a hF
  refine op_index_str hF rfl (i2) 93 rfl rfl rfl Tryz.underlying9 rfl rfl (by first | rfl | omega) he0 ?_; clear hF a; intro a hF
  revert a; refine Bv rfl rfl (show decide (((93 : UInt8).toNat : Int) ≤ 32) = false from rfl) (Mv 3 rfl ?_); intro a hF
  refine guard_yes hF rfl rfl rfl rfl rfl rfl ?_
  refine op_index_str hF rfl (i2) 93 rfl rfl rfl Tryz.underlying9 rfl rfl (by first | rfl | omega) he0 ?_; clear hF a; intro a hF
  revert a; refine Bv rfl rfl (show (((93 : UInt8).toNat : Int) == 44) = false from rfl) (Mv 4 rfl ?_); intro a hF
  refine guard_yes hF rfl rfl rfl rfl rfl rfl ?_
  refine op_index_str hF rfl (i2) 93 rfl rfl rfl Tryz.underlying9 rfl rfl (by first | rfl | omega) he0 ?_; clear hF a; intro a hF
  revert a; refine Bv rfl rfl (show (((93 : UInt8).toNat : Int) == 58) = false from rfl) (Md 1 [1,2,4,5,6,7,8,12,121] rfl (Nx (Cf rfl (Sk (Nx (Ex (Op' rfl (Ot (Ot (Ob (Nx (Sq (Rg (Md 2 [1,2,4,5,6,7,8,12,14] rfl (Nx (Sq (Rg (Mv 2 rfl (Cm hM rfl Tryz.func141 (by kernel_rfl) rfl (parseAnyEnd_walk (91 :: u) i2 w (by omega) he0 hl93) ?_)))))))))))))))))))
  clear hM; intro w v hR hM hBe
  obtain rfl := hR
  refine Mv 5 rfl ?_; intro a hF
  refine op_storeA hF hM rfl 0 rfl rfl (by kernel_rfl) rfl rfl rfl rfl (h8) ?_; clear hF hM a; intro a w  hF hM
  revert a; exact Md 1 [1,2,4,5,6,7,8,11,12,14] rfl (Nx (Sq (Sq (Rg (Md 2 [1,2,4,5,6,7,8,12,14,131] rfl (Nx (Ct rfl (Re (Rt (Rb (Rt (Rt (Rb (Y0 rfl ⟨_, rfl, rfl, wc, Lc, hI, hM.drop (List.Sublist.cons _ (List.Sublist.cons _ (List.Sublist.cons _ (List.Sublist.refl _))))⟩))))))))))))))
 have he0 : (91 :: u)[i2]? = some c := (hget 0).trans (by rw [he]; rfl)
 have hn32 := hns.1
 have hjl : j < ts.length := by rcases Nat.lt_or_ge j ts.length with h | h; exact h; rw [List.drop_of_length_le h] at hts; cases hts
 have hjt : ts[j]? = some (c :: t', k) := by have := congrArg (fun l => l[0]?) hts; simpa [List.getElem?_drop] using this
 have hdt : (91 :: u).drop i2 = (c :: t') ++ d :: u' := by rw [hd, he]
 have hln := seg_len hdt (by simp)
 have hmo : (91 :: u).drop (i2 + (c :: t').length) = d :: u' := seg_more hdt
 have hRj : Js.Rest u' (ts.drop (j + 1)) := by rw [← List.drop_drop, hts]; exact hRn
 have hml : i2 + (c :: t').length < (91 :: u).length := by
   rcases Nat.lt_or_ge (i2 + (c :: t').length) (91 :: u).length with h | h
   · exact h
   · rw [List.drop_of_length_le h] at hmo; cases hmo
 generalize hgt : c :: t' = t at hjt hdt hln hmo hml hfo
 refine Rg (Mv 2 rfl ?_); intro a hF
 refine op_index_str hF rfl (i2) c rfl rfl rfl Tryz.underlying9 rfl rfl (by first | rfl | omega) he0 ?_; clear hF a; intro a hF
 revert a; refine Bv rfl rfl (decide_eq_false (show ¬ (((c.toNat : Int) ≤ 32)) by omega)) (Mv 3 rfl ?_); intro a hF
 refine guard_yes hF rfl rfl rfl rfl rfl rfl ?_
 refine op_index_str hF rfl (i2) c rfl rfl rfl Tryz.underlying9 rfl rfl (by first | rfl | omega) he0 ?_; clear hF a; intro a hF
 revert a; refine Bv rfl rfl (beq_f (d := 44) (z := 44) rfl (hns.2.1)) (Mv 4 rfl ?_); intro a hF
 refine guard_yes hF rfl rfl rfl rfl rfl rfl ?_
 refine op_index_str hF rfl (i2) c rfl rfl rfl Tryz.underlying9 rfl rfl (by first | rfl | omega) he0 ?_; clear hF a; intro a hF
 revert a; refine Bv rfl rfl (beq_f (d := 58) (z := 58) rfl (hns.2.2)) (Md 1 [1,2,4,5,6,7,8,12,121] rfl (Nx (Cf rfl (Sk (Nx (Ex (Op' rfl (Ot (Ot (Ob (Nx (Sq (Rg (Md 2 [1,2,4,5,6,7,8,12,14] rfl (Nx (Sq (Rg (Mv 2 rfl (Cm hM rfl Tryz.func141 (by kernel_rfl) rfl (parseAny_walk hPF (91 :: u) t (d :: u') i2 k w (glob_of (hG _ _ _ hI) hM) (by omega) hdt hfo (fun x hx => by simp only [List.head?_cons, Option.some.injEq] at hx; subst hx; exact hnd)) ?_)))))))))))))))))))
 clear hM; intro w v hR hM hBe
 obtain ⟨str', fl', ix', rfl⟩ := hR
 refine Mv 5 rfl ?_; intro a hF
 refine op_storeA hF hM rfl 0 rfl rfl (by kernel_rfl) rfl rfl rfl rfl (h8) ?_; clear hF hM a; intro a w  hF hM
 revert a; refine Md 1 [1,2,4,5,6,7,8,11,12,14] rfl (Nx (Sq (Sq (Rg (Md 2 [1,2,4,5,6,7,8,12,14,131] rfl (Nx (Cf rfl (Sk (Nx (Sq (Sq (Rg (Mv 1 rfl (Ld hM 2 rfl rfl ?_)))))))))))))); intro a hF
 refine op_neNilSl hF rfl rfl rfl rfl rfl Tryz.underlying133 ?_; clear hF a; intro a hF
 revert a; refine Md 0 [1,2,4,5,6,7,8,12,14,134] rfl (Nx (Cf rfl (Rg (Mv 2 rfl (Ld hM 2 rfl rfl (Mv 2 rfl (St hM 0 rfl ?_)))))))
 clear hM; intro w hM
 refine Md 0 [1,2,4,5,6,7,8,12] rfl (Nx (Sq (Sq (Rg (Mv 1 rfl ?_))))); intro a hF
 refine op_loadA hF hM rfl 1 rfl rfl rfl Tryz.underlying135 rfl (by kernel_rfl) rfl rfl ?_; clear hF a; intro a hF
 refine op_loadA hF hM rfl 0 rfl rfl rfl Tryz.underlying135 rfl (by kernel_rfl) rfl rfl ?_; clear hF a; intro a hF
 refine op_callV hF rfl rfl rfl rfl rfl hf hname hb rfl (hcb j t k [_, _, _] Lc wc w _ str' fl' _ hjt rfl hI hM) ?_
 clear hF hM a; intro a w v hR hF
 obtain ⟨rfl, wc', Lc', hI', hM⟩ := hR
 revert a; refine Md 1 [1,2,4,5,6,7,8,12,155] rfl (Nx (Cf rfl (Sk (Nx (Rg (Mv 1 rfl (Sm (((j + 1 : Nat) : Int)) rfl (by omega) (Md 1 [1,2,4,5,6,7,8,12] rfl (Nb (Nx (Rg (Mv 1 rfl (Sm (((i2 + t.length + 1 : Nat) : Int)) rfl (by omega) (Md 1 [1,2,4,5,6,7,8,12] rfl ?_)))))))))))))); intro a hF
 exact ⟨(_, u', j + 1), ⟨_, _, _, _, hF, hM, rfl, hI', by simp only; rw [← List.drop_drop, hmo]; rfl, hRj, by simp only; omega, by simp only; omega⟩, by simp only; omega⟩
end Go.Sx
namespace Go.Sx
open Go.RowKit Go.Proofs Js Go.Proofs.YtelonenjneonlaaGreatDoorW.PrintWords
theorem forEachObj_walk (hPF : PF) {Bc : Nat} {f : FuncId} {fn : Func} (hf : Tryz.prog.funcs[f]? = some fn) (hname : (fn.name == "runtime.NumGoroutine") = false) (hb : fn.body.isNone = false) (cap : List Value) (Inv : Nat → World → List Bk → Prop) (hG : ∀ j wc Lc, Inv j wc Lc → Glob Bc wc) (u : Str) (ts : List Mb) (hu : RestM u ts) (str : Str) (fl : Nat) (ix : Int)
    (hcb : ∀ (j : Nat) (x : Mb) (L0 Lc : List Bk) (wc w : World) (q str : Str) (fl : Nat) (ix ixk : Int), ts[j]? = some x → (Prd x.key → q = unq x.key) → Inv j wc Lc → Mem Bc wc (L0 ++ Lc) w →
      Calls Tryz.prog f ([resV 3 (34 :: x.key ++ [34]) q 0 ixk, resV (kG x.kind) x.val str fl ix] ++ cap).toArray w (Ret fun v w' => v = .bool true ∧ ∃ wc' Lc', Inv (j + 1) wc' Lc' ∧ Mem Bc wc' (L0 ++ Lc') w'))
    (wc w0 : World) (Lc : List Bk) (hI0 : Inv 0 wc Lc) (hM0 : Mem Bc wc Lc w0) (hT : u.length < 2 ^ 40) :
    Calls Tryz.prog 95 #[resV 5 (123 :: u) str fl ix, .func (.func f) #[] cap.toArray] w0 (Ret fun v w' => v = .tuple #[] ∧ ∃ wc' Lc', Inv ts.length wc' Lc' ∧ Mem Bc wc' Lc' w') := by
 have hM := hM0
 have hlT : (123 :: u).length = u.length + 1 := rfl
 have htl := hu.len
 refine enter (l := [resV 5 (123 :: u) str fl ix, .func (.func f) #[] cap.toArray]) 156 Tryz.func95 rfl rfl (fun a hF => ?_)
 replace hF : Fr 158 [(0, resV 5 (123 :: u) str fl ix), (1, .func (.func f) #[] cap.toArray)] a := hF
 refine seq (region ?_)
 refine op_box hF hM rfl rfl rfl rfl rfl rfl ?_; clear hF hM a; intro a w b2 hF hM
 revert a; refine Md 0 [1,2] rfl (Nx (Sq (Sq (Rg ?_)))); intro a hF
 refine op_loadA hF hM rfl 0 rfl rfl rfl Tryz.underlying135 rfl (by kernel_rfl) rfl rfl ?_; clear hF a; intro a hF
 revert a; refine Cm hM rfl Tryz.func92 (by kernel_rfl) rfl (exists_walk 5 (123 :: u) str fl ix w (by decide)) ?_
 clear hM; intro w v hR hM hBe
 obtain rfl := hR
 refine Md 1 [1,2,17] rfl (Nx (Cf rfl (Sk (Nx (Sq (Sq (Rg (Mv 1 rfl (Ld hM 0 rfl rfl (Md 1 [1,2,20] rfl (Nx (C1 rfl (fun ht => absurd ht (by decide)) (Sk (Nx (Sq (Rg (Mv 1 rfl (Ld hM 0 rfl rfl (Md 1 [1,2,4] rfl (Nx (Sq (Rg (Md 1 [1,2,4,5] rfl (Nx (Sq (Rg (Md 1 [1,2,4,5,6] rfl (Nx (Sq (Rg ?_)))))))))))))))))))))))))))))); intro a hF
 refine op_alloc hF hM rfl (vs := [.int .i64 0, .string (mkS []), .string (mkS []), .float .f64 0, .int .i64 0, .slice none 0 0]) rfl rfl rfl (by kernel_rfl) ?_; clear hF hM a; intro a w b7 hF hM
 refine op_alloc hF hM rfl (vs := [.int .i64 0, .string (mkS []), .string (mkS []), .float .f64 0, .int .i64 0, .slice none 0 0]) rfl rfl rfl (by kernel_rfl) ?_; clear hF hM a; intro a w b8 hF hM
 revert a; refine Md 0 [1,2,4,5,6,7,8] rfl (Nx (Sq (Bo (Kp [1,2,4,5,6,7,8] rfl ?_)))); intro a hF
 refine loopX (fun (x : Unit) a w => Fr 158 [(1, .func (.func f) #[] cap.toArray), (2, .pointer (some ⟨b2, 0, none⟩)), (4, .string (mkS (123 :: u))), (5, .bool false), (6, .int .i64 0), (7, .pointer (some ⟨b7, 0, none⟩)), (8, .pointer (some ⟨b8, 0, none⟩))] a ∧ Mem Bc wc ((b8, 135, [.int .i64 0, .string (mkS []), .string (mkS []), .float .f64 0, .int .i64 0, .slice none 0 0]) :: (b7, 135, [.int .i64 0, .string (mkS []), .string (mkS []), .float .f64 0, .int .i64 0, .slice none 0 0]) :: (b2, 135, resL 5 (123 :: u) str fl ix) :: Lc) w) (fun _ => 0) (()) ?_ (fun x a w hI => ?_)
 · exact ⟨hF, hM⟩
 clear hF hM
 obtain ⟨hF, hM⟩ := hI
 revert a; refine Sq (Sq (Rg (Md 4 [1,2,4,5,6,7,8,30] rfl (Nx (D2 rfl (fun ht => absurd (of_decide_eq_false ht) (by omega)) (Sk (Nx (Sq (Bo (Sq (Sq (Rg (Mv 2 rfl ?_))))))))))))); intro a hF
 refine op_index_str hF rfl (0) 123 rfl rfl rfl Tryz.underlying9 rfl rfl (by first | rfl | omega) rfl ?_; clear hF a; intro a hF
 revert a; refine Md 1 [1,2,4,5,6,7,8,36] rfl (Nx (D2 rfl (fun ht => absurd ht (by decide)) (Sq (Rg (Mv 1 rfl (Sm (((1 : Nat) : Int)) rfl (by omega) (Md 1 [1,2,4,6,7,8] rfl (Nx (Sq (Rg (Mv 1 rfl (St hM 1 rfl ?_))))))))))))
 clear hM; intro w hM
 refine Md 0 [1,2,4,6,7,8] rfl (Nx (Sq (Rg (Md 1 [1,2,4,5,6,7,8] rfl (Nx (Ex (Ot (Op' rfl (Ot (Ot (Ob (Nx (Sq (Rg (Md 1 [1,2,4,5,6,7,8] rfl (Nx (Sq (Rg (Md 1 [1,2,4,5,6,7,8] rfl (Nx (Sq (Rg (Md 1 [1,2,4,5,6,7,8] rfl (Nx (Sq (Rg (Md 1 [1,2,4,5,6,7,8,12] rfl (Nx (Bo (Kp [1,2,4,5,6,7,8,12] rfl ?_)))))))))))))))))))))))))))))); intro a hF
 refine loopX (fun (x : Nat × Str × Nat) a w => ∃ (wc : World) (Lc : List Bk) (rk qk : Str) (ixk : Int) (vs8 : List Value), Fr 158 [(1, .func (.func f) #[] cap.toArray), (2, .pointer (some ⟨b2, 0, none⟩)), (4, .string (mkS (123 :: u))), (5, .bool true), (6, .int .i64 (x.1 : Int)), (7, .pointer (some ⟨b7, 0, none⟩)), (8, .pointer (some ⟨b8, 0, none⟩)), (12, .int .i64 (x.2.2 : Int))] a ∧ Mem Bc wc ((b8, 135, vs8) :: (b7, 135, resL 3 rk qk 0 ixk) :: (b2, 135, resL 5 (123 :: u) str fl ix) :: Lc) w ∧ vs8.length = 6 ∧ Inv x.2.2 wc Lc ∧ (123 :: u).drop x.1 = x.2.1 ∧ RestM x.2.1 (ts.drop x.2.2) ∧ x.2.2 ≤ ts.length ∧ x.1 ≤ (123 :: u).length) (fun x => (123 :: u).length - x.1) ((1, u, 0)) ?_ (fun x a w hI => ?_)
 · exact ⟨wc, Lc, [], [], 0, _, hF, hM, rfl, hI0, rfl, hu, Nat.zero_le _, by rw [hlT]; omega⟩
 clear hF hM
 obtain ⟨i, u1, j⟩ := x
 obtain ⟨wc, Lc, rk, qk, ixk, vs8, hF, hM, h8, hI, hd, hR1, hj, hi⟩ := hI
 simp only at hF hM hI hd hR1 hj hi
 revert a; refine Sq (Sq (Rg (Md 4 [1,2,4,5,6,7,8,12,55] rfl (Nx (Ce rfl (fun ht => ?_) ((fun ht => ?_)))))))
 ·
  have hge := of_decide_eq_false ht
  have hu1 : u1 = [] := by rw [← hd]; exact List.drop_of_length_le (by omega)
  subst hu1
  have htd := hR1.nil
  have hjl : j = ts.length := by have := congrArg List.length htd; simp at this; omega
  subst hjl
  exact Ex (Ot (Ot (Ob (Z0 rfl ⟨_, rfl, rfl, wc, Lc, hI, hM.drop (List.Sublist.cons _ (List.Sublist.cons _ (List.Sublist.cons _ (List.Sublist.refl _))))⟩))))
 have hlt := of_decide_eq_true ht
 have hu1 : u1 ≠ [] := by intro e; subst e; have := congrArg List.length hd; simp at this; omega
 have hget : ∀ j, (123 :: u)[i + j]? = u1[j]? := fun j => by rw [← hd, List.getElem?_drop]
 refine Sk (Nx (Sq (Bo (Sq (Sq (Rg (Md 1 [1,2,4,5,6,7,8,12,58] rfl (Nx (Ct rfl (Sq (Sq ?_)))))))))))
 rcases hR1.look hu1 with ⟨c, u', he, hc, hRn⟩ | ⟨ik, w2, t, k, d, u', ts', he, hik, hsw, hfo, hnd, hRn, hts⟩
 ·
  have he0 : (123 :: u)[i]? = some c := (hget 0).trans (by rw [he]; rfl)
  refine Rg (Mv 2 rfl ?_); intro a hF
  refine op_index_str hF rfl (i) c rfl rfl rfl Tryz.underlying9 rfl rfl (by first | rfl | omega) he0 ?_; clear hF a; intro a hF
  revert a; refine Md 1 [1,2,4,5,6,7,8,12,62] rfl (Nx (D2 rfl (fun ht => absurd (ne_f (d := 34) rfl ht) hc) (Ex (Ot (Ot (Ob (Nx (Rg (Mv 1 rfl (Sm (((i + 1 : Nat) : Int)) rfl (by omega) (Md 1 [1,2,4,5,6,7,8,12] rfl ?_))))))))))); intro a hF
  first | exact ⟨(_, u', j + 1), ⟨wc', Lc', _, _, _, _, hF, hM, rfl, hI', by simp only; rw [← List.drop_drop, hmo]; rfl, hRj, by simp only; omega, by simp only; omega⟩, by simp only; omega⟩ | exact ⟨(_, u', j), ⟨wc, Lc, rk, qk, ixk, vs8, hF, hM, h8, hI, by simp only; rw [← List.drop_drop, hd, he]; rfl, hRn, hj, by simp only; omega⟩, by simp only; omega⟩
 have he0 : (123 :: u)[i]? = some 34 := (hget 0).trans (by rw [he]; rfl)
 have hjl : j < ts.length := by rcases Nat.lt_or_ge j ts.length with h | h; exact h; rw [List.drop_of_length_le h] at hts; cases hts
 have hjt : ts[j]? = some ⟨ik, t, k⟩ := by have := congrArg (fun l => l[0]?) hts; simpa [List.getElem?_drop] using this
 have hRj : RestM u' (ts.drop (j + 1)) := by rw [← List.drop_drop, hts]; exact hRn
 have hdk : (123 :: u).drop i = (34 :: ik ++ [34]) ++ (w2 ++ t ++ d :: u') := by rw [hd, he]
 have hlk := seg_len hdk (by simp)
 have hl2 : (34 :: ik ++ [34]).length = ik.length + 2 := by simp
 have hdw : (123 :: u).drop (i + ik.length + 2) = w2 ++ t ++ d :: u' := by have := seg_more hdk; rw [hl2] at this; exact this
 obtain ⟨ct, tt, htt, hns⟩ := form_first hfo
 refine Rg (Mv 2 rfl ?_); intro a hF
 refine op_index_str hF rfl (i) 34 rfl rfl rfl Tryz.underlying9 rfl rfl (by first | rfl | omega) he0 ?_; clear hF a; intro a hF
 revert a; refine Md 1 [1,2,4,5,6,7,8,12,62] rfl (Nx (C1 rfl (fun ht => absurd ht (by decide)) (Sk (Nx (Sq (Rg (Md 2 [1,2,4,5,6,7,8,12,13] rfl (Nx (Sq (Rg (Mv 2 rfl (Sm (((i + 1 : Nat) : Int)) rfl (by omega) (Cm hM rfl Tryz.func139 (by kernel_rfl) rfl (string_walk (123 :: u) ik (w2 ++ t ++ d :: u') i w (by omega) hdk hik.quo) ?_)))))))))))))
 clear hM; intro w v hR hM hBe
 obtain ⟨e, rfl, hes⟩ := hR
 refine Md 9 [1,2,4,5,6,7,8,9,10,11,12,13] rfl (Nx (Sq (Sq (Rg (Md 2 [1,2,4,5,6,7,8,9,10,12,13,74] rfl (Nx (Cf rfl (Sk (Nx ?_))))))))); intro a hF
 refine cut (fun a w => ∃ (q : Str), Fr 158 [(1, .func (.func f) #[] cap.toArray), (2, .pointer (some ⟨b2, 0, none⟩)), (4, .string (mkS (123 :: u))), (5, .bool true), (6, .int .i64 ((i + ik.length + 2 : Nat) : Int)), (7, .pointer (some ⟨b7, 0, none⟩)), (8, .pointer (some ⟨b8, 0, none⟩)), (9, .string (mkS (34 :: ik ++ [34]))), (12, .int .i64 (j : Int)), (13, .int .i64 (i : Int))] a ∧ Mem Bc wc ((b8, 135, vs8) :: (b7, 135, resL 3 rk q 0 ixk) :: (b2, 135, resL 5 (123 :: u) str fl ix) :: Lc) w ∧ (Prd ik → q = unq ik)) ?_ (fun a w h => ?_)
 ·
  revert a; refine Sq (Rg (Md 1 [1,2,4,5,6,7,8,9,12,13,75] rfl (Nx (Ce rfl (fun ht => ?_) ((fun ht => ?_))))))
  ·
   subst ht
   refine Rg (Mv 3 rfl ?_); intro a hF
   rw [hl2] at hF
   revert a; refine Sm (((ik.length + 1 : Nat) : Int)) rfl (by omega) ?_; intro a hF
   refine op_slice_str hF rfl 1 (ik.length + 1) rfl rfl rfl Tryz.underlying9 rfl rfl rfl rfl rfl (by omega) (by rw [hl2]; omega) ?_; clear hF a; intro a hF
   rw [show ((34 :: ik ++ [34] : Str).drop 1).take (ik.length + 1 - 1) = ik by simp] at hF
   revert a; refine Mv 1 rfl (St hM 1 rfl ?_)
   clear hM; intro w hM
   refine Md 0 [1,2,4,5,6,7,8,9,12,13] rfl ?_; intro a hF
   first | exact ⟨q, hF, hM, hq⟩ | exact ⟨ik, hF, hM, fun _ => (unq_plain ik (hes rfl)).symm⟩
  subst ht
  refine Rg (Mv 3 rfl ?_); intro a hF
  rw [hl2] at hF
  revert a; refine Sm (((ik.length + 1 : Nat) : Int)) rfl (by omega) ?_; intro a hF
  refine op_slice_str hF rfl 1 (ik.length + 1) rfl rfl rfl Tryz.underlying9 rfl rfl rfl rfl rfl (by omega) (by rw [hl2]; omega) ?_; clear hF a; intro a hF
  rw [show ((34 :: ik ++ [34] : Str).drop 1).take (ik.length + 1 - 1) = ik by simp] at hF
  revert a; refine Cm hM rfl Tryz.func140 (by kernel_rfl) rfl (unescape_walk ik w (by omega) hik) ?_
  clear hM; intro w v hR hM hBe
  obtain ⟨q, rfl, hq⟩ := hR
  refine Mv 1 rfl (St hM 1 rfl ?_)
  clear hM; intro w hM
  refine Md 0 [1,2,4,5,6,7,8,9,12,13] rfl ?_; intro a hF
  first | exact ⟨q, hF, hM, hq⟩ | exact ⟨ik, hF, hM, fun _ => (unq_plain ik (hes rfl)).symm⟩
 clear hF hM
 obtain ⟨q, hF, hM, hq⟩ := h
 revert a; refine Sq (Rg (Mv 2 rfl (St hM 1 rfl ?_)))
 clear hM; intro w hM
 refine Md 0 [1,2,4,5,6,7,8,12,13] rfl (Nx (Rg (Mv 2 rfl (Ld hM 2 rfl rfl (Mv 2 rfl (St hM 1 rfl ?_))))))
 clear hM; intro w hM
 refine Md 0 [1,2,4,5,6,7,8,12] rfl (Nx (Sq (Bo (Kp [1,2,4,5,6,7,8,12] rfl ?_)))); intro a hF
 refine loopX (fun (x : Nat × Str) a w => ∃ ixk2, Fr 158 [(1, .func (.func f) #[] cap.toArray), (2, .pointer (some ⟨b2, 0, none⟩)), (4, .string (mkS (123 :: u))), (5, .bool true), (6, .int .i64 (x.1 : Int)), (7, .pointer (some ⟨b7, 0, none⟩)), (8, .pointer (some ⟨b8, 0, none⟩)), (12, .int .i64 (j : Int))] a ∧ Mem Bc wc ((b8, 135, vs8) :: (b7, 135, resL 3 (34 :: ik ++ [34]) q 0 ixk2) :: (b2, 135, resL 5 (123 :: u) str fl ix) :: Lc) w ∧ (123 :: u).drop x.1 = x.2 ++ t ++ d :: u' ∧ Sep x.2 ∧ i ≤ x.1) (fun x => (123 :: u).length - x.1) ((i + ik.length + 2, w2)) ?_ (fun x a w hI => ?_)
 · exact ⟨_, hF, hM, hdw, hsw, by simp only; omega⟩
 clear hF hM
 clear hdw hsw hget he0
 obtain ⟨i2, w2⟩ := x
 obtain ⟨ixk2, hF, hM, hd2, hsw, hii⟩ := hI
 simp only at hF hM hd2 hsw hii
 have hlt2 : i2 < (123 :: u).length := by
   rcases Nat.lt_or_ge i2 (123 :: u).length with h | h
   · exact h
   · rw [List.drop_of_length_le h] at hd2; have := congrArg List.length hd2; simp at this
 have hget : ∀ j, (123 :: u)[i2 + j]? = (w2 ++ t ++ d :: u')[j]? := fun j => by rw [← hd2, List.getElem?_drop]
 revert a; refine Sq (Sq (Rg (Md 4 [1,2,4,5,6,7,8,12,103] rfl (Nx (D2 rfl (fun ht => absurd (of_decide_eq_false ht) (by omega)) (Sk (Nx (Sq (Bo (Sq (Sq ?_)))))))))))
 rcases sep_skip hsw htt hns (rfl : w2 ++ t ++ d :: u' = w2 ++ t ++ d :: u') with ⟨c, w', hw, hc, he, hsn⟩ | ⟨c, w', hw, hc, he, hsn⟩ | ⟨c, w', hw, hc, he, hsn⟩ | ⟨hw, he⟩
 ·
  have he0 : (123 :: u)[i2]? = some c := (hget 0).trans (by rw [he]; rfl)
  refine Rg (Mv 2 rfl ?_); intro a hF
  refine op_index_str hF rfl (i2) c rfl rfl rfl Tryz.underlying9 rfl rfl (by first | rfl | omega) he0 ?_; clear hF a; intro a hF
  revert a; refine Bv rfl rfl (decide_eq_true (show ((c.toNat : Int) ≤ 32) by omega)) (Md 12 [1,2,4,5,6,7,8,12,121] rfl (Nx (Ct rfl (Ex (Ot (Ob (Nx (Rg (Mv 1 rfl (Sm (((i2 + 1 : Nat) : Int)) rfl (by omega) (Md 1 [1,2,4,5,6,7,8,12] rfl ?_))))))))))); intro a hF
  exact ⟨(_, _), ⟨_, hF, hM, by rw [← List.drop_drop, hd2, he]; rfl, hsn, by omega⟩, by simp only; omega⟩
 ·
  have he0 : (123 :: u)[i2]? = some c := (hget 0).trans (by rw [he]; rfl)
  refine Rg (Mv 2 rfl ?_); intro a hF
  refine op_index_str hF rfl (i2) c rfl rfl rfl Tryz.underlying9 rfl rfl (by first | rfl | omega) he0 ?_; clear hF a; intro a hF
  revert a; refine Bv rfl rfl (decide_eq_false (show ¬ (((c.toNat : Int) ≤ 32)) by omega)) (Mv 3 rfl ?_); intro a hF
  refine guard_yes hF rfl rfl rfl rfl rfl rfl ?_
  refine op_index_str hF rfl (i2) c rfl rfl rfl Tryz.underlying9 rfl rfl (by first | rfl | omega) he0 ?_; clear hF a; intro a hF
  revert a; refine Bv rfl rfl (beq_t (d := 44) (z := 44) rfl hc.2) (Md 7 [1,2,4,5,6,7,8,12,121] rfl (Nx (Ct rfl (Ex (Ot (Ob (Nx (Rg (Mv 1 rfl (Sm (((i2 + 1 : Nat) : Int)) rfl (by omega) (Md 1 [1,2,4,5,6,7,8,12] rfl ?_))))))))))); intro a hF
  exact ⟨(_, _), ⟨_, hF, hM, by rw [← List.drop_drop, hd2, he]; rfl, hsn, by omega⟩, by simp only; omega⟩
 ·
  have he0 : (123 :: u)[i2]? = some c := (hget 0).trans (by rw [he]; rfl)
  refine Rg (Mv 2 rfl ?_); intro a hF
  refine op_index_str hF rfl (i2) c rfl rfl rfl Tryz.underlying9 rfl rfl (by first | rfl | omega) he0 ?_; clear hF a; intro a hF
  revert a; refine Bv rfl rfl (decide_eq_false (show ¬ (((c.toNat : Int) ≤ 32)) by omega)) (Mv 3 rfl ?_); intro a hF
  refine guard_yes hF rfl rfl rfl rfl rfl rfl ?_
  refine op_index_str hF rfl (i2) c rfl rfl rfl Tryz.underlying9 rfl rfl (by first | rfl | omega) he0 ?_; clear hF a; intro a hF
  revert a; refine Bv rfl rfl (beq_f (d := 44) (z := 44) rfl (by rw [hc.2]; decide)) (Mv 4 rfl ?_); intro a hF
  refine guard_yes hF rfl rfl rfl rfl rfl rfl ?_
  refine op_index_str hF rfl (i2) c rfl rfl rfl Tryz.underlying9 rfl rfl (by first | rfl | omega) he0 ?_; clear hF a; intro a hF
  revert a; refine Bv rfl rfl (beq_t (d := 58) (z := 58) rfl hc.2) (Md 1 [1,2,4,5,6,7,8,12,121] rfl (Nx (Ct rfl (Ex (Ot (Ob (Nx (Rg (Mv 1 rfl (Sm (((i2 + 1 : Nat) : Int)) rfl (by omega) (Md 1 [1,2,4,5,6,7,8,12] rfl ?_))))))))))); intro a hF
  exact ⟨(_, _), ⟨_, hF, hM, by rw [← List.drop_drop, hd2, he]; rfl, hsn, by omega⟩, by simp only; omega⟩
 have he0 : (123 :: u)[i2]? = some ct := (hget 0).trans (by rw [he]; rfl)
 have hn32 := hns.1
 subst hw
 have hdt : (123 :: u).drop i2 = t ++ d :: u' := hd2
 have ht0 : t ≠ [] := by rw [htt]; simp
 have hln := seg_len hdt ht0
 have hmo : (123 :: u).drop (i2 + t.length) = d :: u' := seg_more hdt
 have hml : i2 + t.length < (123 :: u).length := by
   rcases Nat.lt_or_ge (i2 + t.length) (123 :: u).length with h | h
   · exact h
   · rw [List.drop_of_length_le h] at hmo; cases hmo
 refine Rg (Mv 2 rfl ?_); intro a hF
 refine op_index_str hF rfl (i2) ct rfl rfl rfl Tryz.underlying9 rfl rfl (by first | rfl | omega) he0 ?_; clear hF a; intro a hF
 revert a; refine Bv rfl rfl (decide_eq_false (show ¬ (((ct.toNat : Int) ≤ 32)) by omega)) (Mv 3 rfl ?_); intro a hF
 refine guard_yes hF rfl rfl rfl rfl rfl rfl ?_
 refine op_index_str hF rfl (i2) ct rfl rfl rfl Tryz.underlying9 rfl rfl (by first | rfl | omega) he0 ?_; clear hF a; intro a hF
 revert a; refine Bv rfl rfl (beq_f (d := 44) (z := 44) rfl (hns.2.1)) (Mv 4 rfl ?_); intro a hF
 refine guard_yes hF rfl rfl rfl rfl rfl rfl ?_
 refine op_index_str hF rfl (i2) ct rfl rfl rfl Tryz.underlying9 rfl rfl (by first | rfl | omega) he0 ?_; clear hF a; intro a hF
 revert a; refine Bv rfl rfl (beq_f (d := 58) (z := 58) rfl (hns.2.2)) (Md 1 [1,2,4,5,6,7,8,12,121] rfl (Nx (Cf rfl (Sk (Nx (Ex (Op' rfl (Ot (Ot (Ob (Nx (Sq (Rg (Md 2 [1,2,4,5,6,7,8,12,14] rfl (Nx (Sq (Rg (Mv 2 rfl (Cm hM rfl Tryz.func141 (by kernel_rfl) rfl (parseAny_walk hPF (123 :: u) t (d :: u') i2 k w (glob_of (hG _ _ _ hI) hM) (by omega) hdt hfo (fun x hx => by simp only [List.head?_cons, Option.some.injEq] at hx; subst hx; exact hnd)) ?_)))))))))))))))))))
 clear hM; intro w v hR hM hBe
 obtain ⟨str', fl', ix', rfl⟩ := hR
 refine Mv 5 rfl ?_; intro a hF
 refine op_storeA hF hM rfl 0 rfl rfl (by kernel_rfl) rfl rfl rfl rfl (h8) ?_; clear hF hM a; intro a w  hF hM
 revert a; refine Md 1 [1,2,4,5,6,7,8,11,12,14] rfl (Nx (Sq (Sq (Rg (Md 2 [1,2,4,5,6,7,8,12,14,131] rfl (Nx (Cf rfl (Sk (Nx (Sq (Sq (Rg (Mv 1 rfl (Ld hM 2 rfl rfl ?_)))))))))))))); intro a hF
 refine op_neNilSl hF rfl rfl rfl rfl rfl Tryz.underlying133 ?_; clear hF a; intro a hF
 revert a; refine Md 0 [1,2,4,5,6,7,8,12,14,134] rfl (Nx (Cf rfl (Rg (Mv 2 rfl (Ld hM 2 rfl rfl (Mv 2 rfl (St hM 0 rfl ?_)))))))
 clear hM; intro w hM
 refine Md 0 [1,2,4,5,6,7,8,12] rfl (Nx (Sq (Sq (Rg (Mv 1 rfl ?_))))); intro a hF
 refine op_loadA hF hM rfl 1 rfl rfl rfl Tryz.underlying135 rfl (by kernel_rfl) rfl rfl ?_; clear hF a; intro a hF
 refine op_loadA hF hM rfl 0 rfl rfl rfl Tryz.underlying135 rfl (by kernel_rfl) rfl rfl ?_; clear hF a; intro a hF
 refine op_callV hF rfl rfl rfl rfl rfl hf hname hb rfl (hcb j ⟨ik, t, k⟩ [_, _, _] Lc wc w q str' fl' _ _ hjt hq hI hM) ?_
 clear hF hM a; intro a w v hR hF
 obtain ⟨rfl, wc', Lc', hI', hM⟩ := hR
 revert a; refine Md 1 [1,2,4,5,6,7,8,12,155] rfl (Nx (Cf rfl (Sk (Nx (Rg (Mv 1 rfl (Sm (((j + 1 : Nat) : Int)) rfl (by omega) (Md 1 [1,2,4,5,6,7,8,12] rfl (Nb (Nx (Rg (Mv 1 rfl (Sm (((i2 + t.length + 1 : Nat) : Int)) rfl (by omega) (Md 1 [1,2,4,5,6,7,8,12] rfl ?_)))))))))))))); intro a hF
 first | exact ⟨(_, u', j + 1), ⟨wc', Lc', _, _, _, _, hF, hM, rfl, hI', by simp only; rw [← List.drop_drop, hmo]; rfl, hRj, by simp only; omega, by simp only; omega⟩, by simp only; omega⟩ | exact ⟨(_, u', j), ⟨wc, Lc, rk, qk, ixk, vs8, hF, hM, h8, hI, by simp only; rw [← List.drop_drop, hd, he]; rfl, hRn, hj, by simp only; omega⟩, by simp only; omega⟩
end Go.Sx
namespace Go.Sx
open Go.RowKit Go.Proofs Js Go.Proofs.YtelonenjneonlaaGreatDoorW.PrintWords
theorem JInv.glob {B Bc b9 g : Nat} {wB wc : World} {Lr Lx Lc : List Bk} {ms : List Mb} (hG : Glob B wB) (h : JInv B wB Lr b9 g Bc Lx ms wc Lc) : Glob Bc wc := by
  obtain ⟨R, vk, xs, _, _, _, hJ⟩ := h
  exact (hG.keep (Nat.le_refl _) hJ.mem.below).mono hJ.hB
theorem joinMembers (hPF : PF) {B Bc b9 b10 g : Nat} {wB wr : World} {Lr Lx R : List Bk} {ms mt : List Mb} {u : Str} (hG : Glob B wB) (hI : JInv B wB Lr b9 g Bc Lx ms wr (R ++ Lx)) (hx : (b10, 147, [.map (some g)]) ∈ Lx) (hre : RestM u mt) (hu : u.length ≤ 2 ^ 32) (hprd : ∀ m ∈ mt, Prd m.key) (hql : ∀ m ∈ mt, m.q.length ≤ maxLen) (hn : ms.length + mt.length < 2 ^ 39)
    {str : Str} {fl : Nat} {ix : Int} {w : World} (hM : Mem Bc wr (R ++ Lx) w) :
    Calls Tryz.prog 95 #[resV 5 (123 :: u) str fl ix, .func (.func 106) #[] [.pointer (some ⟨b10, 0, none⟩), .pointer (some ⟨b9, 0, none⟩)].toArray] w
      (Ret fun v w' => v = .tuple #[] ∧ ∃ wc' Lc', JInv B wB Lr b9 g Bc Lx (ms ++ mt) wc' Lc' ∧ Mem Bc wc' Lc' w') := by
  refine (forEachObj_walk hPF Tryz.func106 (by kernel_rfl) rfl _ (fun j wc Lc => JInv B wB Lr b9 g Bc Lx (ms ++ mt.take j) wc Lc) (fun _ _ _ h => h.glob hG) u _ hre str fl ix ?_ _ w _ (by simpa using hI) hM (by omega)).mono ?_
  · intro j x L0 Lc wc w q str fl ix ixk hjx hq hI hM
    have hmem := List.mem_of_getElem? hjx
    have hjl := (List.getElem?_eq_some_iff.1 hjx).1
    obtain rfl := hq (hprd x hmem)
    refine (joinMember_walk hI hx x (hql x hmem) (by simp; omega) ixk _ str fl ix hM).mono ?_
    rintro e w' ⟨v, rfl, rfl, wc', Lc', hI', hM'⟩
    refine ⟨_, rfl, rfl, wc', Lc', ?_, hM'⟩
    rw [List.take_add_one, hjx, ← List.append_assoc]
    exact hI'
  · rintro e w' ⟨v, rfl, rfl, wc', Lc', hI', hM'⟩
    rw [List.take_length] at hI'
    exact ⟨_, rfl, rfl, wc', Lc', hI', hM'⟩
theorem joinElem_walk (hPF : PF) {B Bc b9 b10 g : Nat} {wB wr : World} {Lr Lx L0 Lc : List Bk} {ms mt : List Mb} {u : Str} (hG : Glob B wB) (hI : JInv B wB Lr b9 g Bc Lx ms wr Lc) (hx : (b10, 147, [.map (some g)]) ∈ Lx) (hre : RestM u mt) (hu0 : 0 < u.length) (hu : u.length ≤ 2 ^ 32) (hprd : ∀ m ∈ mt, Prd m.key) (hql : ∀ m ∈ mt, m.q.length ≤ maxLen) (hn : ms.length + mt.length < 2 ^ 39)
    (kc : List Value) (hkc : kc.length = 6) (str : Str) (fl : Nat) (ix : Int) {w0 : World} (hM0 : Mem Bc wr (L0 ++ Lc) w0) :
    Calls Tryz.prog 105 #[.agg kc.toArray, resV 5 (123 :: u) str fl ix, .pointer (some ⟨b10, 0, none⟩), .pointer (some ⟨b9, 0, none⟩)] w0
      (Ret fun v w' => v = .bool true ∧ ∃ wc' Lc', JInv B wB Lr b9 g Bc Lx (ms ++ mt) wc' Lc' ∧ Mem Bc wc' (L0 ++ Lc') w') := by
 have hM := hM0
 obtain ⟨R, vk, xs, rfl, hRow, hK, hJ⟩ := hI
 have hlT : (123 :: u).length = u.length + 1 := rfl
 refine enter (l := [.agg kc.toArray, resV 5 (123 :: u) str fl ix, .pointer (some ⟨b10, 0, none⟩), .pointer (some ⟨b9, 0, none⟩)]) 9 Tryz.func105 rfl rfl (fun a hF => ?_)
 replace hF : Fr 13 [(0, .agg kc.toArray), (1, resV 5 (123 :: u) str fl ix), (2, .pointer (some ⟨b10, 0, none⟩)), (3, .pointer (some ⟨b9, 0, none⟩))] a := hF
 refine seq (region ?_)
 refine op_box hF hM rfl rfl rfl rfl rfl rfl ?_; clear hF hM a; intro a w b4 hF hM
 refine op_box hF hM rfl rfl rfl rfl rfl rfl ?_; clear hF hM a; intro a w b5 hF hM
 revert a; refine Md 1 [2,3,5] rfl (Nx (Sq (Sq (Rg ?_)))); intro a hF
 refine op_loadA hF hM rfl 0 rfl rfl rfl Tryz.underlying135 rfl (by kernel_rfl) rfl rfl ?_; clear hF a; intro a hF
 revert a; refine Cm hM rfl Tryz.func93 (by kernel_rfl) rfl (isObject_walk 5 (123 :: u) str fl ix _ (fun _ => by simp) (by omega)) ?_
 clear hM; intro w v hR hM hBe
 obtain ⟨b, rfl, hb⟩ := hR
 have hbt : b = true := hb.2 ⟨rfl, rfl⟩
 subst hbt
 refine Md 1 [2,3,5,9] rfl (Nx (Cf rfl (Sk (Nx (Sq (Rg ?_)))))); intro a hF
 refine op_loadA hF hM rfl 0 rfl rfl rfl Tryz.underlying135 rfl (by kernel_rfl) rfl rfl ?_; clear hF a; intro a hF
 refine op_makeFunc hF rfl rfl rfl rfl rfl ?_; clear hF a; intro a hF
 replace hM := hM.perm (L' := R ++ ((b5, 135, resL 5 (123 :: u) str fl ix) :: (b4, 135, kc) :: (L0 ++ Lx))) (pc fun x => by simp [ct, ct_append] <;> omega)
 revert a; refine Cl rfl Tryz.func95 (by kernel_rfl) rfl (joinMembers hPF hG ⟨R, vk, xs, rfl, hRow, hK, hJ⟩ (by simp [hx]) hre hu hprd hql hn hM) ?_
 clear hM; intro w v hR
 obtain ⟨rfl, wc', Lc', ⟨R', vk', xs', rfl, hRow', hK', hJ'⟩, hM⟩ := hR
 exact Md 0 [] rfl (Nx (Sq (Rg (Md 1 [6] rfl (Nx (Re (Y1 rfl rfl ⟨_, rfl, rfl, wc', _, ⟨R', vk', xs', rfl, hRow', hK', hJ'⟩, hM.sub [(b5, 135, resL 5 (123 :: u) str fl ix), (b4, 135, kc)] (pc fun x => by simp [ct, ct_append] <;> omega)⟩)))))))
end Go.Sx
namespace Go.Sx
open Go.RowKit Go.Proofs Js Go.Proofs.YtelonenjneonlaaGreatDoorW.PrintWords
section
variable {n : Nat} {K : List (Nat × Value)} {a : Act} {w w0 : World} {Q : Exit → Act → World → Prop} {ops : Array Oper} {rest : List Oper} {o : Oper} {B g : Nat} {L : List Bk} {ms : List Mb}
theorem Mem.low (hM : Mem B w0 L w) : ∀ x ∈ L, x.1 < w.heap.size := fun x hx => blk_lt (hM.held x hx).2
theorem Mem.lift {w' : World} {L2 : List Bk} (hM : Mem B w0 L w) (h2 : Mem w.heap.size w L2 w') : Mem B w0 (L2 ++ L) w' :=
  (((hM.step h2.below).both hM.base hM.low h2)).perm (List.perm_append_comm)
theorem Ts (hM : Mem B w0 L w) (hmp : MpAt w g ms) (hg : B ≤ g) (k : Nat) {x y : Operand} {t t0 : TypeId} {b j : Nat} {vs : List Value} {v : Value}
    (hd : (o.dst, wantT n ops K o.guard, o.op, hasN t plL, ev K x, ev K y, v.oneCell', L[k]?, Nat.blt j vs.length) = (none, some true, .store t x y, true, some (.pointer (some ⟨b, j, none⟩)), some v, true, some (b, t0, vs), true))
    (h : ∀ w', Mem B w0 (L.set k (b, t0, vs.set j v)) w' → MpAt w' g ms → ∀ a, Fr n K a → wpList Tryz.prog ops Q rest a w') : ∀ a, Fr n K a → wpList Tryz.prog ops Q (o :: rest) a w :=
  Sj (Bc := w.heap.size) ⟨hM, hmp, hM.base, hg, hmp.lt, hM.low⟩ (Mem.start (Nat.le_refl _)) k hd (fun w' hJ _ => h w' hJ.mem hJ.map)
theorem Ta (hM : Mem B w0 L w) (hmp : MpAt w g ms) {d : Nat} {x y : Operand} {k b l : Nat} {vs : List Value} {s : List UInt8} (hd : (dstT n ops K o, o.op, ev K x, ev K y, L[k]?) = (some d, .call { callee := .builtin .append, args := #[x, y], argTypes := #[66, 9] }, some (.slice (some ⟨b, 0, none⟩) l vs.length), some (.string (mkS s)), some (b, 5, vs)))
    (hn : l ≤ vs.length) (hc : vs.length ≤ maxLen) (hs : l + s.length ≤ 2 ^ 46)
    (h : ∀ w' b' vs', l + s.length ≤ vs'.length → vs'.length ≤ maxLen → vs'.take (l + s.length) = vs.take l ++ u8s s → Mem B w0 ((b', 5, vs') :: L.eraseIdx k) w' → MpAt w' g ms → ∀ a, Fr n ((d, .slice (some ⟨b', 0, none⟩) (l + s.length) vs'.length) :: K) a → wpList Tryz.prog ops Q rest a w') : ∀ a, Fr n K a → wpList Tryz.prog ops Q (o :: rest) a w := by
  intro a hF
  simp only [Prod.mk.injEq] at hd
  obtain ⟨h1, hop, hx, hy, hk⟩ := hd
  obtain ⟨h4, h5, h6⟩ := dst_ok h1
  obtain ⟨b', vs', w', hr, e2, e3, e4, e5, hg⟩ := mem_append_str hM hk hn hc s o.type hs
  have hne := hmp.ne hM _ (List.mem_of_getElem? hk)
  refine unguard hF h6 (op_run (o := { o with guard := none }) hF rfl (.slice (some ⟨b', 0, none⟩) (l + s.length) vs'.length) (w' := w') h4 (Nat.ble_eq_true_of_le h5) ?_ (fun a' hF' => h w' b' vs' e2 e3 e4 e5 (hmp.of (hg.block _ hmp.lt (fun e => hne (Option.some.inj e).symm))) a' hF'))
  simp only [execOp, hop, resolve, invoke, builtin, List.map_toArray, List.map_cons, List.map_nil, hF.ev hx, hF.ev hy]
  simp [hr]
theorem Tb (hM : Mem B w0 L w) (hmp : MpAt w g ms) {d : Nat} {x y : Operand} {k k2 b b2 l : Nat} {vs : List Value} (c : UInt8) (hd : (dstT n ops K o, o.op, ev K x, ev K y, L[k]?, L[k2]?) = (some d, .call { callee := .builtin .append, args := #[x, y], argTypes := #[66, 66] }, some (.slice (some ⟨b, 0, none⟩) l vs.length), some (.slice (some ⟨b2, 0, none⟩) 1 1), some (b, 5, vs), some (b2, 5, [.int .u8 (c.toNat : Int)])))
    (hn : l ≤ vs.length) (hc : vs.length ≤ maxLen) (hs : l + 1 ≤ 2 ^ 46)
    (h : ∀ w' b' vs', l + 1 ≤ vs'.length → vs'.length ≤ maxLen → vs'.take (l + 1) = vs.take l ++ u8s [c] → Mem B w0 ((b', 5, vs') :: L.eraseIdx k) w' → MpAt w' g ms → ∀ a, Fr n ((d, .slice (some ⟨b', 0, none⟩) (l + 1) vs'.length) :: K) a → wpList Tryz.prog ops Q rest a w') : ∀ a, Fr n K a → wpList Tryz.prog ops Q (o :: rest) a w := by
  intro a hF
  simp only [Prod.mk.injEq] at hd
  obtain ⟨h1, hop, hx, hy, hk, hk2⟩ := hd
  obtain ⟨h4, h5, h6⟩ := dst_ok h1
  obtain ⟨b', vs', w', hr, e2, e3, e4, e5, hg⟩ := mem_append (c := 1) (ad := ⟨b2, 0, none⟩) (news := u8s [c]) hM hk hn hc o.type (m := 1) rfl (fun j u hj => hM.cells hk2 j hj) (u8s_one [c]) hs
  have hne := hmp.ne hM _ (List.mem_of_getElem? hk)
  refine unguard hF h6 (op_run (o := { o with guard := none }) hF rfl (.slice (some ⟨b', 0, none⟩) (l + 1) vs'.length) (w' := w') h4 (Nat.ble_eq_true_of_le h5) ?_ (fun a' hF' => h w' b' vs' e2 e3 e4 e5 (hmp.of (hg.block _ hmp.lt (fun e => hne (Option.some.inj e).symm))) a' hF'))
  simp only [execOp, hop, resolve, invoke, builtin, List.map_toArray, List.map_cons, List.map_nil, hF.ev hx, hF.ev hy]
  simp [hr]
set_option maxRecDepth 100000 in
theorem run_fieldRaw (k : Int) (raw str : Str) (f : Nat) (ix : Int) (w : World) : (Instr.field 135 (resV k raw str f ix) 1).run Tryz.prog w = .ok (.string (mkS raw)) w := by
  have h := run_underlying (P := Tryz.prog) (w := w) Tryz.underlying9
  simp [Instr.field, run_underlying Tryz.underlying135, resV, resL, asAgg, part, isAgg, h]
theorem gives_field {x : Operand} {t : TypeId} {f : Nat} {u v : Value} (hF : Fr n K a) (hop : o.op = .field t x f) (hx : ev K x = some u) (hr : (Instr.field t u f).run Tryz.prog w = .ok v w) : (execOp a.eval o).run Tryz.prog w = .ok (.value v) w := by
  simp only [execOp, hop, hF.ev hx]
  simp [hr]
end
end Go.Sx
set_option linter.unusedVariables false
namespace Js
theorem unq_len : ∀ (n : Nat) (s : Str), s.length ≤ n → (unq s).length ≤ 4 * s.length
  | n, [], _ => by rw [unq]; simp
  | 0, c :: r, h => by simp at h
  | n + 1, c :: r, h => by
    have hr : r.length ≤ n := by simp at h; omega
    have hd : ∀ k, (unq (r.drop k)).length ≤ 4 * r.length := fun k => by
      have h1 := unq_len n (r.drop k) (by rw [List.length_drop]; omega)
      rw [List.length_drop] at h1; omega
    rw [unq]
    split
    · split
      · split
        · simp
        · rename_i d r' _ _
          have := unq_len n r' (by simp at hr; omega)
          simp; omega
      · rename_i m hm
        have e1 := enc_len m
        split
        · have := hd 5; rw [List.length_append, List.length_cons]; omega
        · rename_i k hk
          split
          · have := hd 11
            have e2 := enc_len (65536 + (m - 55296) * 1024 + (k - 56320))
            rw [List.length_append, List.length_cons]; omega
          · have := hd 5; rw [List.length_append, List.length_cons]; omega
    · have := unq_len n r hr
      simp; omega
def Nd.keys : Nd → List Str
  | .mk _ _ ks _ => ks
def OB (t : Str) (n : Nd) (ms : List Mb) : Prop := ∃ u, t = 123 :: u ∧ 0 < u.length ∧ ms.map Mb.q = n.keys ∧ (∀ m ∈ ms, Ins m.key ∧ ∃ nd, Shows m.val (.v nd)) ∧ RestM u ms ∧ ∀ m ∈ ms, Prd m.key
theorem ob_of {t : Str} {n : Nd} (h : Shows t (.v n)) (hk : n.kind = 6) (hp : ∃ r, paired (t ++ r) = true) : ∃ ms, OB t n ms := by
  obtain ⟨k, txt, ks, l⟩ := n
  have hk : k = 6 := hk
  subst hk
  obtain ⟨r, hp⟩ := hp
  obtain ⟨u, ms, h1, h2, h3, h4, h5, h6⟩ := obj_members h
  exact ⟨ms, u, h1, h2, h3, h4, h5, h6 r hp⟩
theorem objs : ∀ (ts : List Str) (l : List Nd), ts.length = l.length → (∀ (j : Nat) (x : Str) (n : Nd), ts[j]? = some x → l[j]? = some n → Shows x (.v n) ∧ n.kind = 6 ∧ ∃ r, paired (x ++ r) = true) →
    ∃ mss : List (List Mb), mss.length = ts.length ∧ (∀ (j : Nat) (t : Str) (m : List Mb), ts[j]? = some t → mss[j]? = some m → ∃ n, l[j]? = some n ∧ OB t n m) ∧ mss.flatten.map Mb.q = l.flatMap Nd.keys
  | [], [], _, _ => ⟨[], rfl, by simp, rfl⟩
  | [], _ :: _, h, _ => by simp at h
  | _ :: _, [], h, _ => by simp at h
  | t :: ts, n :: l, hl, h => by
    obtain ⟨h1, h2, h3⟩ := h 0 t n rfl rfl
    obtain ⟨ms, hms⟩ := ob_of h1 h2 h3
    obtain ⟨mss, e1, e2, e3⟩ := objs ts l (by simpa using hl) (fun j x m hx hm => h (j + 1) x m (by simpa using hx) (by simpa using hm))
    refine ⟨ms :: mss, by simp [e1], ?_, ?_⟩
    · intro j t' m hx hm
      cases j with
      | zero => simp at hx hm; subst hx; subst hm; exact ⟨n, rfl, hms⟩
      | succ j => simp at hx hm; obtain ⟨n', h5, h6⟩ := e2 j t' m hx hm; exact ⟨n', by simpa using h5, h6⟩
    · obtain ⟨u, _, _, h4, _⟩ := hms
      simp [h4, e3]
theorem ob_total : ∀ (ts : List Str) (ks : List Nat) (mss : List (List Mb)), ks.length = ts.length → mss.length = ts.length → (∀ (j : Nat) (t : Str) (m : List Mb), ts[j]? = some t → mss[j]? = some m → m.length ≤ t.length) → mss.flatten.length ≤ lens (ts.zip ks)
  | [], _, [], _, _, _ => by simp
  | [], _, _ :: _, _, h, _ => by simp at h
  | _ :: _, [], _, h, _, _ => by simp at h
  | _ :: _, _ :: _, [], _, h, _ => by simp at h
  | t :: ts, k :: ks, m :: mss, h1, h2, h => by
    have e1 := ob_total ts ks mss (by simpa using h1) (by simpa using h2) (fun j t m hx hm => h (j + 1) t m (by simpa using hx) (by simpa using hm))
    have e2 := h 0 t m rfl rfl
    simp only [List.flatten_cons, List.length_append, List.zip_cons_cons, lens]
    omega
theorem ob_mem {ts : List Str} {l : List Nd} {mss : List (List Mb)} {N : Nat} (h1 : mss.length = ts.length) (h : ∀ (j : Nat) (t : Str) (m : List Mb), ts[j]? = some t → mss[j]? = some m → ∃ n, l[j]? = some n ∧ OB t n m) (hN : ∀ t ∈ ts, t.length ≤ N) :
    ∀ m ∈ mss.flatten, Ins m.key ∧ (∃ nd, Shows m.val (.v nd)) ∧ m.key.length ≤ N ∧ m.val.length ≤ N := by
  intro m hm
  obtain ⟨ms, hms, hm⟩ := List.mem_flatten.1 hm
  obtain ⟨j, hj⟩ := List.mem_iff_getElem?.1 hms
  have hjl := (List.getElem?_eq_some_iff.1 hj).1
  have ht : ts[j]? = some (ts[j]'(by omega)) := List.getElem?_eq_getElem _
  obtain ⟨n, _, u, hu, _, _, h4, h5, _⟩ := h j _ ms ht hj
  have hjt : j < ts.length := by omega
  have h6 := hN _ (List.getElem_mem hjt)
  have h7 := h5.lens
  have h8 := lens_mem hm
  rw [hu, List.length_cons] at h6
  exact ⟨(h4 m hm).1, (h4 m hm).2, by omega, by omega⟩
theorem arr_rest2 {T txt : Str} {ks : List Str} {l : List Nd} (h : Shows T (.v (.mk 5 txt ks l))) : ∃ (u : Str) (ts : List Str), T = 91 :: u ∧ ts.length = l.length ∧ (∀ (j : Nat) (x : Str) (n : Nd), ts[j]? = some x → l[j]? = some n → Shows x (.v n)) ∧ Js.Rest u (ts.zip (l.map Nd.kind)) ∧ 0 < u.length ∧
    (∀ r, paired (T ++ r) = true → ∀ x ∈ ts, ∃ r', paired (x ++ r') = true) := by
  cases h with
  | @arr0 w h => exact ⟨w ++ [93], [], rfl, rfl, by simp, .done (bl_sep h), by simp, fun _ _ => by simp⟩
  | @arr t l h =>
    obtain ⟨ts, h1, h2, h3, h4⟩ := rest_of h _ rfl
    refine ⟨t ++ [93], ts, rfl, h1, h2, h3, by simp, fun r hp => h4 (93 :: r) ?_⟩
    rw [show 91 :: t ++ [93] ++ r = 91 :: (t ++ 93 :: r) by simp, paired_cons _ (by decide)] at hp
    exact hp
theorem zip_get {ts : List Str} {l : List Nd} {j : Nat} {t : Str} {k : Nat} (h : (ts.zip (l.map Nd.kind))[j]? = some (t, k)) : ∃ n, l[j]? = some n ∧ ts[j]? = some t ∧ k = n.kind := by
  rw [List.getElem?_zip_eq_some] at h
  obtain ⟨h1, h2⟩ := h
  simp only [List.getElem?_map, Option.map_eq_some_iff] at h2
  obtain ⟨n, h3, h4⟩ := h2
  exact ⟨n, h3, h1, h4.symm⟩
theorem arr_objs {T txt : Str} {ks : List Str} {l : List Nd} (h : Shows T (.v (.mk 5 txt ks l))) (hk : ∀ n ∈ l, n.kind = 6) (hp : ∃ r, paired (T ++ r) = true) (hT : T.length ≤ 65536) :
    ∃ (u : Str) (ts : List Str) (mss : List (List Mb)), T = 91 :: u ∧ 0 < u.length ∧ Js.Rest u (ts.zip (l.map Nd.kind)) ∧ mss.length = ts.length ∧ (∀ (j : Nat) (t : Str) (m : List Mb), ts[j]? = some t → mss[j]? = some m → ∃ n, l[j]? = some n ∧ OB t n m) ∧ mss.flatten.map Mb.q = l.flatMap Nd.keys ∧ mss.flatten.length ≤ 65536 ∧
      (∀ m ∈ mss.flatten, Ins m.key ∧ (∃ nd, Shows m.val (.v nd)) ∧ m.key.length ≤ 65536 ∧ m.val.length ≤ 65536) ∧ (∀ (j : Nat) (m : List Mb), mss[j]? = some m → (mss.take j).flatten.length + m.length ≤ 65536) ∧ (ts.zip (l.map Nd.kind)).length = mss.length := by
  obtain ⟨u, ts, rfl, h1, h2, h3, h4, h5⟩ := arr_rest2 h
  obtain ⟨r, hp⟩ := hp
  obtain ⟨mss, e1, e2, e3⟩ := objs ts l h1 (fun j x n hx hn => ⟨h2 j x n hx hn, hk n (List.mem_of_getElem? hn), h5 r hp x (List.mem_of_getElem? hx)⟩)
  have hl := h3.lens
  have hu : u.length + 1 ≤ 65536 := hT
  have ht : ∀ t ∈ ts, t.length ≤ 65536 := by
    intro t ht
    obtain ⟨j, hj⟩ := List.mem_iff_getElem?.1 ht
    have hjl := (List.getElem?_eq_some_iff.1 hj).1
    have hz : (ts.zip (l.map Nd.kind))[j]? = some (t, (l[j]'(by omega)).kind) := by
      rw [List.getElem?_zip_eq_some]
      refine ⟨hj, ?_⟩
      have hjl2 : j < l.length := by omega
      rw [List.getElem?_map, List.getElem?_eq_getElem hjl2]; rfl
    have h6 := lens_take hz
    have h7 := lens_le (ts.zip (l.map Nd.kind)) (j + 1)
    omega
  have htot := ob_total ts (l.map Nd.kind) mss (by simp [h1]) e1 (fun j t m hx hm => by
    obtain ⟨n, _, u', hu', _, _, _, h5, _⟩ := e2 j t m hx hm
    have := h5.len
    rw [hu', List.length_cons]; omega)
  refine ⟨u, ts, mss, rfl, h4, h3, e1, e2, e3, by omega, ob_mem e1 e2 ht, ?_, by simp [h1, e1]⟩
  intro j m hm
  have e4 : mss.flatten = (mss.take j).flatten ++ (m ++ (mss.drop (j + 1)).flatten) := by
    conv => lhs; rw [← List.take_append_drop j mss]
    rw [List.flatten_append]
    congr 1
    have hjl := (List.getElem?_eq_some_iff.1 hm).1
    rw [List.drop_eq_getElem_cons hjl, List.flatten_cons]
    congr 1
    exact (List.getElem?_eq_some_iff.1 hm).2
  have := congrArg List.length e4
  simp only [List.length_append] at this
  omega
theorem keys_len {t : Str} {n : Nd} (h : Shows t (.v n)) : n.keys.length ≤ t.length := by
  have hc := h
  cases h with
  | obj h =>
    obtain ⟨u, ms, e, _, h3, _, h5, _⟩ := obj_members hc
    have := h5.len
    have e2 := congrArg List.length h3
    rw [List.length_map] at e2
    have e3 := congrArg List.length e
    simp only [Nd.keys, List.length_cons, List.length_append] at e2 e3 ⊢
    omega
  | _ => exact Nat.zero_le _
theorem keys_total : ∀ (ts : List Str) (ks : List Nat) (l : List Nd), ks.length = ts.length → l.length = ts.length → (∀ (j : Nat) (t : Str) (n : Nd), ts[j]? = some t → l[j]? = some n → n.keys.length ≤ t.length) → (l.flatMap Nd.keys).length ≤ lens (ts.zip ks)
  | [], _, [], _, _, _ => by simp
  | [], _, _ :: _, _, h, _ => by simp at h
  | _ :: _, [], _, h, _, _ => by simp at h
  | _ :: _, _ :: _, [], _, h, _ => by simp at h
  | t :: ts, k :: ks, m :: mss, h1, h2, h => by
    have e1 := keys_total ts ks mss (by simpa using h1) (by simpa using h2) (fun j t m hx hm => h (j + 1) t m (by simpa using hx) (by simpa using hm))
    have e2 := h 0 t m rfl rfl
    simp only [List.flatMap_cons, List.length_append, List.zip_cons_cons, lens]
    omega
theorem arr_keys {T txt : Str} {ks : List Str} {l : List Nd} (h : Shows T (.v (.mk 5 txt ks l))) : (l.flatMap Nd.keys).length ≤ T.length := by
  obtain ⟨u, ts, rfl, h1, h2, h3, h4, h5⟩ := arr_rest2 h
  have e1 := keys_total ts (l.map Nd.kind) l (by simp [h1]) h1.symm (fun j t n hx hn => keys_len (h2 j t n hx hn))
  have e2 := h3.lens
  simp only [List.length_cons]; omega
end Js
