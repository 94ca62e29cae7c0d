/- Part 17 of the proof of FnGjFlattenText: the statement Rows.FnGjFlattenTextCardSaid; no further condition. -/
import Derived.Test.YtelonenjneonlaaGreatDoorQ16
set_option linter.all false
namespace Go.Sx
open Go.RowKit Go.Proofs Js Go.Proofs.YtelonenjneonlaaGreatDoorW.PrintWords
theorem forEachArr_walk (hPF : PF) {Bc : Nat} {wc : World} (hG : Glob Bc wc) {f : FuncId} {fn : Func} (hf : Tryz.prog.funcs[f]? = some fn) (hname : (fn.name == "runtime.NumGoroutine") = false) (hb : fn.body.isNone = false) (cap : List Value) (Inv : Nat → List Bk → Prop) (u : Str) (ts : List (Str × Nat)) (hu : Js.Rest u ts) (str : Str) (fl : Nat) (ix : Int)
    (hcb : ∀ (j : Nat) (t : Str) (k : Nat) (L0 Lc : List Bk) (w : World) (kc : List Value) (str : Str) (fl : Nat) (ix : Int), ts[j]? = some (t, k) → kc.length = 6 → Inv j Lc → Mem Bc wc (L0 ++ Lc) w →
      Calls Tryz.prog f ([.agg kc.toArray, resV (kG k) t str fl ix] ++ cap).toArray w (Ret fun v w' => v = .bool true ∧ ∃ Lc', Inv (j + 1) Lc' ∧ Mem Bc wc (L0 ++ Lc') w'))
    (w0 : World) (Lc : List Bk) (hI0 : Inv 0 Lc) (hM0 : Mem Bc wc Lc w0) (hT : u.length < 2 ^ 40) :
    Calls Tryz.prog 95 #[resV 5 (91 :: u) str fl ix, .func (.func f) #[] cap.toArray] w0 (Ret fun v w' => v = .tuple #[] ∧ ∃ Lc', Inv ts.length Lc' ∧ Mem Bc wc Lc' w') := by
 have hM := hM0
 have hlT : (91 :: u).length = u.length + 1 := rfl
 have htl := hu.len
 refine enter (l := [resV 5 (91 :: u) str fl ix, .func (.func f) #[] cap.toArray]) 156 Tryz.func95 rfl rfl (fun a hF => ?_)
 replace hF : Fr 158 [(0, resV 5 (91 :: u) str fl ix), (1, .func (.func f) #[] cap.toArray)] a := hF
 refine seq (region ?_)
 refine op_box hF hM rfl rfl rfl rfl rfl rfl ?_; clear hF hM a; intro a w b2 hF hM
 revert a; refine Md 0 [1,2] rfl (Nx (Sq (Sq (Rg ?_)))); intro a hF
 refine op_loadA hF hM rfl 0 rfl rfl rfl Tryz.underlying135 rfl (by kernel_rfl) rfl rfl ?_; clear hF a; intro a hF
 revert a; refine Cm hM rfl Tryz.func92 (by kernel_rfl) rfl (exists_walk 5 (91 :: u) str fl ix w (by decide)) ?_
 clear hM; intro w v hR hM hBe
 obtain rfl := hR
 refine Md 1 [1,2,17] rfl (Nx (Cf rfl (Sk (Nx (Sq (Sq (Rg (Mv 1 rfl (Ld hM 0 rfl rfl (Md 1 [1,2,20] rfl (Nx (C1 rfl (fun ht => absurd ht (by decide)) (Sk (Nx (Sq (Rg (Mv 1 rfl (Ld hM 0 rfl rfl (Md 1 [1,2,4] rfl (Nx (Sq (Rg (Md 1 [1,2,4,5] rfl (Nx (Sq (Rg (Md 1 [1,2,4,5,6] rfl (Nx (Sq (Rg ?_)))))))))))))))))))))))))))))); intro a hF
 refine op_alloc hF hM rfl (vs := [.int .i64 0, .string (mkS []), .string (mkS []), .float .f64 0, .int .i64 0, .slice none 0 0]) rfl rfl rfl (by kernel_rfl) ?_; clear hF hM a; intro a w b7 hF hM
 refine op_alloc hF hM rfl (vs := [.int .i64 0, .string (mkS []), .string (mkS []), .float .f64 0, .int .i64 0, .slice none 0 0]) rfl rfl rfl (by kernel_rfl) ?_; clear hF hM a; intro a w b8 hF hM
 revert a; refine Md 0 [1,2,4,5,6,7,8] rfl (Nx (Sq (Bo (Kp [1,2,4,5,6,7,8] rfl ?_)))); intro a hF
 refine loopX (fun (x : Unit) a w => Fr 158 [(1, .func (.func f) #[] cap.toArray), (2, .pointer (some ⟨b2, 0, none⟩)), (4, .string (mkS (91 :: u))), (5, .bool false), (6, .int .i64 0), (7, .pointer (some ⟨b7, 0, none⟩)), (8, .pointer (some ⟨b8, 0, none⟩))] a ∧ Mem Bc wc ((b8, 135, [.int .i64 0, .string (mkS []), .string (mkS []), .float .f64 0, .int .i64 0, .slice none 0 0]) :: (b7, 135, [.int .i64 0, .string (mkS []), .string (mkS []), .float .f64 0, .int .i64 0, .slice none 0 0]) :: (b2, 135, resL 5 (91 :: u) str fl ix) :: Lc) w) (fun _ => 0) (()) ?_ (fun x a w hI => ?_)
 · exact ⟨hF, hM⟩
 clear hF hM
 obtain ⟨hF, hM⟩ := hI
 revert a; refine Sq (Sq (Rg (Md 4 [1,2,4,5,6,7,8,30] rfl (Nx (D2 rfl (fun ht => absurd (of_decide_eq_false ht) (by omega)) (Sk (Nx (Sq (Bo (Sq (Sq (Rg (Mv 2 rfl ?_))))))))))))); intro a hF
 refine op_index_str hF rfl (0) 91 rfl rfl rfl Tryz.underlying9 rfl rfl (by first | rfl | omega) rfl ?_; clear hF a; intro a hF
 revert a; refine Md 1 [1,2,4,5,6,7,8,36] rfl (Nx (C1 rfl (fun ht => absurd ht (by decide)) (Sq (Rg (Mv 2 rfl ?_))))); intro a hF
 refine op_index_str hF rfl (0) 91 rfl rfl rfl Tryz.underlying9 rfl rfl (by first | rfl | omega) rfl ?_; clear hF a; intro a hF
 revert a; refine Md 1 [1,2,4,5,6,7,8,43] rfl (Nx (D2 rfl (fun ht => absurd ht (by decide)) (Sq (Rg (Mv 1 rfl (Sm (((1 : Nat) : Int)) rfl (by omega) (Md 1 [1,2,4,5,6,7,8] rfl (Nx (Sq (Rg (Mv 1 rfl (St hM 1 rfl ?_))))))))))))
 clear hM; intro w hM
 refine Md 0 [1,2,4,5,6,7,8] rfl (Nx (Sq (Rg (Mv 1 rfl (St hM 1 rfl ?_)))))
 clear hM; intro w hM
 refine Md 0 [1,2,4,5,6,7,8] rfl (Nx (Ex (Ot (Op' rfl (Ot (Ot (Ob (Nx (Sq (Rg (Md 1 [1,2,4,5,6,7,8] rfl (Nx (Sq (Rg (Md 1 [1,2,4,5,6,7,8] rfl (Nx (Sq (Rg (Md 1 [1,2,4,5,6,7,8] rfl (Nx (Sq (Rg (Md 1 [1,2,4,5,6,7,8,12] rfl (Nx (Bo (Kp [1,2,4,5,6,7,8,12] rfl ?_)))))))))))))))))))))))))); intro a hF
 refine loopX (fun (x : Nat × Str × Nat) a w => ∃ (Lc : List Bk) (g : Nat) (vs8 : List Value), Fr 158 [(1, .func (.func f) #[] cap.toArray), (2, .pointer (some ⟨b2, 0, none⟩)), (4, .string (mkS (91 :: u))), (5, .bool false), (6, .int .i64 (x.1 : Int)), (7, .pointer (some ⟨b7, 0, none⟩)), (8, .pointer (some ⟨b8, 0, none⟩)), (12, .int .i64 (x.2.2 : Int))] a ∧ Mem Bc wc ((b8, 135, vs8) :: (b7, 135, [.int .i64 2, .string (mkS []), .string (mkS []), .float .f64 g, .int .i64 0, .slice none 0 0]) :: (b2, 135, resL 5 (91 :: u) str fl ix) :: Lc) w ∧ vs8.length = 6 ∧ Inv x.2.2 Lc ∧ (91 :: u).drop x.1 = x.2.1 ∧ Js.Rest x.2.1 (ts.drop x.2.2) ∧ x.2.2 ≤ ts.length ∧ x.1 ≤ (91 :: u).length) (fun x => (91 :: u).length - x.1) ((1, u, 0)) ?_ (fun x a w hI => ?_)
 · exact ⟨Lc, _, _, hF, hM, rfl, hI0, rfl, hu, Nat.zero_le _, by rw [hlT]; omega⟩
 clear hF hM
 obtain ⟨i, u1, j⟩ := x
 obtain ⟨Lc, g, vs8, hF, hM, h8, hI, hd, hR1, hj, hi⟩ := hI
 simp only at hF hM hI hd hR1 hj hi
 revert a; refine Sq (Sq (Rg (Md 4 [1,2,4,5,6,7,8,12,55] rfl (Nx (Ce rfl (fun ht => ?_) ((fun ht => ?_)))))))
 ·
  have hge := of_decide_eq_false ht
  have hu1 : u1 = [] := by rw [← hd]; exact List.drop_of_length_le (by omega)
  subst hu1
  have htd := hR1.nil
  have hjl : j = ts.length := by have := congrArg List.length htd; simp at this; omega
  subst hjl
  exact Ex (Ot (Ot (Ob (Z0 rfl ⟨_, rfl, rfl, Lc, hI, hM.drop (List.Sublist.cons _ (List.Sublist.cons _ (List.Sublist.cons _ (List.Sublist.refl _))))⟩))))
 have hlt := of_decide_eq_true ht
 have hu1 : u1 ≠ [] := by intro e; subst e; have := congrArg List.length hd; simp at this; omega
 refine Sk (Nx (Sq (Bo (Sq (Sq (Rg (Md 1 [1,2,4,5,6,7,8,12,58] rfl (Nx (Cf rfl (Rg (Mv 1 rfl (Ld hM 1 rfl rfl ?_)))))))))))); intro a hF
 refine op_fadd hF hM rfl rfl rfl rfl rfl rfl ?_; clear hF hM a; intro a w g2 hF hM
 revert a; refine Mv 1 rfl (St hM 1 rfl ?_)
 clear hM; intro w hM
 refine Md 0 [1,2,4,5,6,7,8,12] rfl (Nx (Sq (Bo (Kp [1,2,4,5,6,7,8,12] rfl ?_)))); intro a hF
 refine loopX (fun (x : Nat × Str) a w => Fr 158 [(1, .func (.func f) #[] cap.toArray), (2, .pointer (some ⟨b2, 0, none⟩)), (4, .string (mkS (91 :: u))), (5, .bool false), (6, .int .i64 (x.1 : Int)), (7, .pointer (some ⟨b7, 0, none⟩)), (8, .pointer (some ⟨b8, 0, none⟩)), (12, .int .i64 (j : Int))] a ∧ Mem Bc wc ((b8, 135, vs8) :: (b7, 135, [.int .i64 2, .string (mkS []), .string (mkS []), .float .f64 g2, .int .i64 0, .slice none 0 0]) :: (b2, 135, resL 5 (91 :: u) str fl ix) :: Lc) w ∧ vs8.length = 6 ∧ (91 :: u).drop x.1 = x.2 ∧ Js.Rest x.2 (ts.drop j) ∧ x.2 ≠ [] ∧ i ≤ x.1) (fun x => (91 :: u).length - x.1) ((i, u1)) ?_ (fun x a w hI => ?_)
 · exact ⟨hF, hM, h8, hd, hR1, hu1, Nat.le_refl _⟩
 clear hF hM
 clear hd hR1 hu1
 obtain ⟨i2, u1⟩ := x
 obtain ⟨hF, hM, h8, hd, hR1, hu1, hii⟩ := hI
 simp only at hF hM hd hR1 hu1 hii
 have hlt2 : i2 < (91 :: u).length := by
   rcases Nat.lt_or_ge i2 (91 :: u).length with h | h
   · exact h
   · rw [List.drop_of_length_le h] at hd; exact absurd hd.symm hu1
 have hget : ∀ j, (91 :: u)[i2 + j]? = u1[j]? := fun j => by rw [← hd, List.getElem?_drop]
 revert a; refine Sq (Sq (Rg (Md 4 [1,2,4,5,6,7,8,12,103] rfl (Nx (D2 rfl (fun ht => absurd (of_decide_eq_false ht) (by omega)) (Sk (Nx (Sq (Bo (Sq (Sq ?_)))))))))))
 rcases hR1.look hu1 with ⟨c, u', he, hc, hRn, hun⟩ | ⟨c, u', he, hc, hRn, hun⟩ | ⟨c, u', he, hc, hRn, hun⟩ | ⟨he, hts⟩ | ⟨c, t', k, ts', d, u', he, hns, hfo, hnd, hRn, hts⟩
 ·
  have he0 : (91 :: u)[i2]? = some c := (hget 0).trans (by rw [he]; rfl)
  refine Rg (Mv 2 rfl ?_); intro a hF
  refine op_index_str hF rfl (i2) c rfl rfl rfl Tryz.underlying9 rfl rfl (by first | rfl | omega) he0 ?_; clear hF a; intro a hF
  revert a; refine Bv rfl rfl (decide_eq_true (show ((c.toNat : Int) ≤ 32) by omega)) (Md 12 [1,2,4,5,6,7,8,12,121] rfl (Nx (Ct rfl (Ex (Ot (Ob (Nx (Rg (Mv 1 rfl (Sm (((i2 + 1 : Nat) : Int)) rfl (by omega) (Md 1 [1,2,4,5,6,7,8,12] rfl ?_))))))))))); intro a hF
  exact ⟨(_, _), ⟨hF, hM, h8, by rw [← List.drop_drop, hd, he]; rfl, hRn, hun, by omega⟩, by simp only; omega⟩
 ·
  have he0 : (91 :: u)[i2]? = some c := (hget 0).trans (by rw [he]; rfl)
  refine Rg (Mv 2 rfl ?_); intro a hF
  refine op_index_str hF rfl (i2) c rfl rfl rfl Tryz.underlying9 rfl rfl (by first | rfl | omega) he0 ?_; clear hF a; intro a hF
  revert a; refine Bv rfl rfl (decide_eq_false (show ¬ (((c.toNat : Int) ≤ 32)) by omega)) (Mv 3 rfl ?_); intro a hF
  refine guard_yes hF rfl rfl rfl rfl rfl rfl ?_
  refine op_index_str hF rfl (i2) c rfl rfl rfl Tryz.underlying9 rfl rfl (by first | rfl | omega) he0 ?_; clear hF a; intro a hF
  revert a; refine Bv rfl rfl (beq_t (d := 44) (z := 44) rfl hc.2) (Md 7 [1,2,4,5,6,7,8,12,121] rfl (Nx (Ct rfl (Ex (Ot (Ob (Nx (Rg (Mv 1 rfl (Sm (((i2 + 1 : Nat) : Int)) rfl (by omega) (Md 1 [1,2,4,5,6,7,8,12] rfl ?_))))))))))); intro a hF
  exact ⟨(_, _), ⟨hF, hM, h8, by rw [← List.drop_drop, hd, he]; rfl, hRn, hun, by omega⟩, by simp only; omega⟩
 ·
  have he0 : (91 :: u)[i2]? = some c := (hget 0).trans (by rw [he]; rfl)
  refine Rg (Mv 2 rfl ?_); intro a hF
  refine op_index_str hF rfl (i2) c rfl rfl rfl Tryz.underlying9 rfl rfl (by first | rfl | omega) he0 ?_; clear hF a; intro a hF
  revert a; refine Bv rfl rfl (decide_eq_false (show ¬ (((c.toNat : Int) ≤ 32)) by omega)) (Mv 3 rfl ?_); intro a hF
  refine guard_yes hF rfl rfl rfl rfl rfl rfl ?_
  refine op_index_str hF rfl (i2) c rfl rfl rfl Tryz.underlying9 rfl rfl (by first | rfl | omega) he0 ?_; clear hF a; intro a hF
  revert a; refine Bv rfl rfl (beq_f (d := 44) (z := 44) rfl (by rw [hc.2]; decide)) (Mv 4 rfl ?_); intro a hF
  refine guard_yes hF rfl rfl rfl rfl rfl rfl ?_
  refine op_index_str hF rfl (i2) c rfl rfl rfl Tryz.underlying9 rfl rfl (by first | rfl | omega) he0 ?_; clear hF a; intro a hF
  revert a; refine Bv rfl rfl (beq_t (d := 58) (z := 58) rfl hc.2) (Md 1 [1,2,4,5,6,7,8,12,121] rfl (Nx (Ct rfl (Ex (Ot (Ob (Nx (Rg (Mv 1 rfl (Sm (((i2 + 1 : Nat) : Int)) rfl (by omega) (Md 1 [1,2,4,5,6,7,8,12] rfl ?_))))))))))); intro a hF
  exact ⟨(_, _), ⟨hF, hM, h8, by rw [← List.drop_drop, hd, he]; rfl, hRn, hun, by omega⟩, by simp only; omega⟩
 ·
  have he0 : (91 :: u)[i2]? = some 93 := (hget 0).trans (by rw [he]; rfl)
  have hl93 : i2 + 1 = (91 :: u).length := by have := congrArg List.length hd; rw [he] at this; simp at this; simp; omega
  have hjl : j = ts.length := by have := congrArg List.length hts; simp at this; omega
  subst hjl
  refine Rg (Mv 2 rfl ?_); intro a hF
  refine op_index_str hF rfl (i2) 93 rfl rfl rfl Tryz.underlying9 rfl rfl (by first | rfl | omega) he0 ?_; clear hF a; intro a hF
  revert a; refine Bv rfl rfl (show decide (((93 : UInt8).toNat : Int) ≤ 32) = false from rfl) (Mv 3 rfl ?_); intro a hF
  refine guard_yes hF rfl rfl rfl rfl rfl rfl ?_
  refine op_index_str hF rfl (i2) 93 rfl rfl rfl Tryz.underlying9 rfl rfl (by first | rfl | omega) he0 ?_; clear hF a; intro a hF
  revert a; refine Bv rfl rfl (show (((93 : UInt8).toNat : Int) == 44) = false from rfl) (Mv 4 rfl ?_); intro a hF
  refine guard_yes hF rfl rfl rfl rfl rfl rfl ?_
  refine op_index_str hF rfl (i2) 93 rfl rfl rfl Tryz.underlying9 rfl rfl (by first | rfl | omega) he0 ?_; clear hF a; intro a hF
  revert a; refine Bv rfl rfl (show (((93 : UInt8).toNat : Int) == 58) = false from rfl) (Md 1 [1,2,4,5,6,7,8,12,121] rfl (Nx (Cf rfl (Sk (Nx (Ex (Op' rfl (Ot (Ot (Ob (Nx (Sq (Rg (Md 2 [1,2,4,5,6,7,8,12,14] rfl (Nx (Sq (Rg (Mv 2 rfl (Cm hM rfl Tryz.func141 (by kernel_rfl) rfl (parseAnyEnd_walk (91 :: u) i2 w (by omega) he0 hl93) ?_)))))))))))))))))))
  clear hM; intro w v hR hM hBe
  obtain rfl := hR
  refine Mv 5 rfl ?_; intro a hF
  refine op_storeA hF hM rfl 0 rfl rfl (by kernel_rfl) rfl rfl rfl rfl (h8) ?_; clear hF hM a; intro a w  hF hM
  revert a; exact Md 1 [1,2,4,5,6,7,8,11,12,14] rfl (Nx (Sq (Sq (Rg (Md 2 [1,2,4,5,6,7,8,12,14,131] rfl (Nx (Ct rfl (Re (Rt (Rb (Rt (Rt (Rb (Y0 rfl ⟨_, rfl, rfl, Lc, hI, hM.drop (List.Sublist.cons _ (List.Sublist.cons _ (List.Sublist.cons _ (List.Sublist.refl _))))⟩))))))))))))))
 have he0 : (91 :: u)[i2]? = some c := (hget 0).trans (by rw [he]; rfl)
 have hn32 := hns.1
 have hjl : j < ts.length := by rcases Nat.lt_or_ge j ts.length with h | h; exact h; rw [List.drop_of_length_le h] at hts; cases hts
 have hjt : ts[j]? = some (c :: t', k) := by have := congrArg (fun l => l[0]?) hts; simpa [List.getElem?_drop] using this
 have hdt : (91 :: u).drop i2 = (c :: t') ++ d :: u' := by rw [hd, he]
 have hln := seg_len hdt (by simp)
 have hmo : (91 :: u).drop (i2 + (c :: t').length) = d :: u' := seg_more hdt
 have hRj : Js.Rest u' (ts.drop (j + 1)) := by rw [← List.drop_drop, hts]; exact hRn
 have hml : i2 + (c :: t').length < (91 :: u).length := by
   rcases Nat.lt_or_ge (i2 + (c :: t').length) (91 :: u).length with h | h
   · exact h
   · rw [List.drop_of_length_le h] at hmo; cases hmo
 generalize hgt : c :: t' = t at hjt hdt hln hmo hml hfo
 refine Rg (Mv 2 rfl ?_); intro a hF
 refine op_index_str hF rfl (i2) c rfl rfl rfl Tryz.underlying9 rfl rfl (by first | rfl | omega) he0 ?_; clear hF a; intro a hF
 revert a; refine Bv rfl rfl (decide_eq_false (show ¬ (((c.toNat : Int) ≤ 32)) by omega)) (Mv 3 rfl ?_); intro a hF
 refine guard_yes hF rfl rfl rfl rfl rfl rfl ?_
 refine op_index_str hF rfl (i2) c rfl rfl rfl Tryz.underlying9 rfl rfl (by first | rfl | omega) he0 ?_; clear hF a; intro a hF
 revert a; refine Bv rfl rfl (beq_f (d := 44) (z := 44) rfl (hns.2.1)) (Mv 4 rfl ?_); intro a hF
 refine guard_yes hF rfl rfl rfl rfl rfl rfl ?_
 refine op_index_str hF rfl (i2) c rfl rfl rfl Tryz.underlying9 rfl rfl (by first | rfl | omega) he0 ?_; clear hF a; intro a hF
 revert a; refine Bv rfl rfl (beq_f (d := 58) (z := 58) rfl (hns.2.2)) (Md 1 [1,2,4,5,6,7,8,12,121] rfl (Nx (Cf rfl (Sk (Nx (Ex (Op' rfl (Ot (Ot (Ob (Nx (Sq (Rg (Md 2 [1,2,4,5,6,7,8,12,14] rfl (Nx (Sq (Rg (Mv 2 rfl (Cm hM rfl Tryz.func141 (by kernel_rfl) rfl (parseAny_walk hPF (91 :: u) t (d :: u') i2 k w (glob_of hG hM) (by omega) hdt hfo (fun x hx => by simp only [List.head?_cons, Option.some.injEq] at hx; subst hx; exact hnd)) ?_)))))))))))))))))))
 clear hM; intro w v hR hM hBe
 obtain ⟨str', fl', ix', rfl⟩ := hR
 refine Mv 5 rfl ?_; intro a hF
 refine op_storeA hF hM rfl 0 rfl rfl (by kernel_rfl) rfl rfl rfl rfl (h8) ?_; clear hF hM a; intro a w  hF hM
 revert a; refine Md 1 [1,2,4,5,6,7,8,11,12,14] rfl (Nx (Sq (Sq (Rg (Md 2 [1,2,4,5,6,7,8,12,14,131] rfl (Nx (Cf rfl (Sk (Nx (Sq (Sq (Rg (Mv 1 rfl (Ld hM 2 rfl rfl ?_)))))))))))))); intro a hF
 refine op_neNilSl hF rfl rfl rfl rfl rfl Tryz.underlying133 ?_; clear hF a; intro a hF
 revert a; refine Md 0 [1,2,4,5,6,7,8,12,14,134] rfl (Nx (Cf rfl (Rg (Mv 2 rfl (Ld hM 2 rfl rfl (Mv 2 rfl (St hM 0 rfl ?_)))))))
 clear hM; intro w hM
 refine Md 0 [1,2,4,5,6,7,8,12] rfl (Nx (Sq (Sq (Rg (Mv 1 rfl ?_))))); intro a hF
 refine op_loadA hF hM rfl 1 rfl rfl rfl Tryz.underlying135 rfl (by kernel_rfl) rfl rfl ?_; clear hF a; intro a hF
 refine op_loadA hF hM rfl 0 rfl rfl rfl Tryz.underlying135 rfl (by kernel_rfl) rfl rfl ?_; clear hF a; intro a hF
 refine op_callV hF rfl rfl rfl rfl rfl hf hname hb rfl (hcb j t k [_, _, _] Lc w _ str' fl' _ hjt rfl hI hM) ?_
 clear hF hM a; intro a w v hR hF
 obtain ⟨rfl, Lc', hI', hM⟩ := hR
 revert a; refine Md 1 [1,2,4,5,6,7,8,12,155] rfl (Nx (Cf rfl (Sk (Nx (Rg (Mv 1 rfl (Sm (((j + 1 : Nat) : Int)) rfl (by omega) (Md 1 [1,2,4,5,6,7,8,12] rfl (Nb (Nx (Rg (Mv 1 rfl (Sm (((i2 + t.length + 1 : Nat) : Int)) rfl (by omega) (Md 1 [1,2,4,5,6,7,8,12] rfl ?_)))))))))))))); intro a hF
 exact ⟨(_, u', j + 1), ⟨_, _, _, hF, hM, rfl, hI', by simp only; rw [← List.drop_drop, hmo]; rfl, hRj, by simp only; omega, by simp only; omega⟩, by simp only; omega⟩
end Go.Sx
set_option linter.unusedVariables false
namespace Js
structure Mb where
  key : Str
  val : Str
  kind : Nat
inductive RestM : Str → List Mb → Prop where
  | done {w : Str} (hw : ∀ c ∈ w, c ≠ 34) : RestM w []
  | more {w i w2 t u : Str} {k : Nat} {c : UInt8} {ts : List Mb} (hw : ∀ c ∈ w, c ≠ 34) (hi : Ins i) (h2 : Sep w2) (ht : Form t k) (hc : numEnd c) (hu : RestM u ts) :
      RestM (w ++ (34 :: i ++ [34]) ++ w2 ++ t ++ c :: u) (⟨i, t, k⟩ :: ts)
theorem RestM.look {u : Str} {ts : List Mb} (h : RestM u ts) (h0 : u ≠ []) :
    (∃ c u', u = c :: u' ∧ c ≠ 34 ∧ RestM u' ts) ∨ (∃ i w2 t k d u' ts', u = (34 :: i ++ [34]) ++ (w2 ++ t ++ d :: u') ∧ Ins i ∧ Sep w2 ∧ Form t k ∧ numEnd d ∧ RestM u' ts' ∧ ts = ⟨i, t, k⟩ :: ts') := by
  cases h with
  | done hw =>
    cases u with
    | nil => exact absurd rfl h0
    | cons c w => exact .inl ⟨c, w, rfl, hw c (by simp), .done (fun x hx => hw x (by simp [hx]))⟩
  | @more w i w2 t u k c ts' hw hi h2 ht hc hu =>
    cases w with
    | nil => exact .inr ⟨i, w2, t, k, c, u, ts', by simp, hi, h2, ht, hc, hu, rfl⟩
    | cons c0 w => exact .inl ⟨c0, w ++ (34 :: i ++ [34]) ++ w2 ++ t ++ c :: u, by simp, hw c0 (by simp), .more (fun x hx => hw x (by simp [hx])) hi h2 ht hc hu⟩
theorem RestM.nil {ts : List Mb} (h : RestM [] ts) : ts = [] := by
  generalize hu : ([] : Str) = u at h
  cases h with
  | done _ => rfl
  | more _ _ _ _ _ _ => simp at hu
theorem RestM.len {u : Str} {ts : List Mb} (h : RestM u ts) : ts.length ≤ u.length := by
  induction h with
  | done _ => simp
  | more _ _ _ _ _ _ ih => simp; omega
theorem sep_skip {w t r : Str} (hw : Sep w) {c : UInt8} {t' : Str} (ht : t = c :: t') (hn : NoSep c) {u : Str} (h : u = w ++ t ++ r) :
    (∃ d w', w = d :: w' ∧ d.toNat ≤ 32 ∧ u = d :: (w' ++ t ++ r) ∧ Sep w') ∨ (∃ d w', w = d :: w' ∧ (32 < d.toNat ∧ d = 44) ∧ u = d :: (w' ++ t ++ r) ∧ Sep w') ∨ (∃ d w', w = d :: w' ∧ (32 < d.toNat ∧ d = 58) ∧ u = d :: (w' ++ t ++ r) ∧ Sep w') ∨
    (w = [] ∧ u = c :: (t' ++ r)) := by
  cases w with
  | nil => exact .inr (.inr (.inr ⟨rfl, by rw [h, ht]; rfl⟩))
  | cons d w' =>
    have hs : Sep w' := fun x hx => hw x (by simp [hx])
    have e : u = d :: (w' ++ t ++ r) := by rw [h]; rfl
    rcases sep_cases (hw d (by simp)) with hd | hd | hd
    · exact .inl ⟨d, w', rfl, hd, e, hs⟩
    · exact .inr (.inl ⟨d, w', rfl, hd, e, hs⟩)
    · exact .inr (.inr (.inl ⟨d, w', rfl, hd, e, hs⟩))
theorem prd_plain : ∀ {s : Str}, (∀ c ∈ s, c ≠ 92) → Prd s
  | [], _ => .nil
  | c :: r, h => .plain (h c (by simp)) (prd_plain fun x hx => h x (by simp [hx]))
end Js
namespace Go.Sx
open Go.RowKit Go.Proofs Js Go.Proofs.YtelonenjneonlaaGreatDoorW.PrintWords
theorem forEachObj_walk (hPF : PF) {Bc : Nat} {wc : World} (hG : Glob Bc wc) {f : FuncId} {fn : Func} (hf : Tryz.prog.funcs[f]? = some fn) (hname : (fn.name == "runtime.NumGoroutine") = false) (hb : fn.body.isNone = false) (cap : List Value) (Inv : Nat → List Bk → Prop) (u : Str) (ts : List Mb) (hu : RestM u ts) (str : Str) (fl : Nat) (ix : Int)
    (hcb : ∀ (j : Nat) (x : Mb) (L0 Lc : List Bk) (w : World) (q str : Str) (fl : Nat) (ix ixk : Int), ts[j]? = some x → (Prd x.key → q = unq x.key) → Inv j Lc → Mem Bc wc (L0 ++ Lc) w →
      Calls Tryz.prog f ([resV 3 (34 :: x.key ++ [34]) q 0 ixk, resV (kG x.kind) x.val str fl ix] ++ cap).toArray w (Ret fun v w' => v = .bool true ∧ ∃ Lc', Inv (j + 1) Lc' ∧ Mem Bc wc (L0 ++ Lc') w'))
    (w0 : World) (Lc : List Bk) (hI0 : Inv 0 Lc) (hM0 : Mem Bc wc Lc w0) (hT : u.length < 2 ^ 40) :
    Calls Tryz.prog 95 #[resV 5 (123 :: u) str fl ix, .func (.func f) #[] cap.toArray] w0 (Ret fun v w' => v = .tuple #[] ∧ ∃ Lc', Inv ts.length Lc' ∧ Mem Bc wc Lc' w') := by
 have hM := hM0
 have hlT : (123 :: u).length = u.length + 1 := rfl
 have htl := hu.len
 refine enter (l := [resV 5 (123 :: u) str fl ix, .func (.func f) #[] cap.toArray]) 156 Tryz.func95 rfl rfl (fun a hF => ?_)
 replace hF : Fr 158 [(0, resV 5 (123 :: u) str fl ix), (1, .func (.func f) #[] cap.toArray)] a := hF
 refine seq (region ?_)
 refine op_box hF hM rfl rfl rfl rfl rfl rfl ?_; clear hF hM a; intro a w b2 hF hM
 revert a; refine Md 0 [1,2] rfl (Nx (Sq (Sq (Rg ?_)))); intro a hF
 refine op_loadA hF hM rfl 0 rfl rfl rfl Tryz.underlying135 rfl (by kernel_rfl) rfl rfl ?_; clear hF a; intro a hF
 revert a; refine Cm hM rfl Tryz.func92 (by kernel_rfl) rfl (exists_walk 5 (123 :: u) str fl ix w (by decide)) ?_
 clear hM; intro w v hR hM hBe
 obtain rfl := hR
 refine Md 1 [1,2,17] rfl (Nx (Cf rfl (Sk (Nx (Sq (Sq (Rg (Mv 1 rfl (Ld hM 0 rfl rfl (Md 1 [1,2,20] rfl (Nx (C1 rfl (fun ht => absurd ht (by decide)) (Sk (Nx (Sq (Rg (Mv 1 rfl (Ld hM 0 rfl rfl (Md 1 [1,2,4] rfl (Nx (Sq (Rg (Md 1 [1,2,4,5] rfl (Nx (Sq (Rg (Md 1 [1,2,4,5,6] rfl (Nx (Sq (Rg ?_)))))))))))))))))))))))))))))); intro a hF
 refine op_alloc hF hM rfl (vs := [.int .i64 0, .string (mkS []), .string (mkS []), .float .f64 0, .int .i64 0, .slice none 0 0]) rfl rfl rfl (by kernel_rfl) ?_; clear hF hM a; intro a w b7 hF hM
 refine op_alloc hF hM rfl (vs := [.int .i64 0, .string (mkS []), .string (mkS []), .float .f64 0, .int .i64 0, .slice none 0 0]) rfl rfl rfl (by kernel_rfl) ?_; clear hF hM a; intro a w b8 hF hM
 revert a; refine Md 0 [1,2,4,5,6,7,8] rfl (Nx (Sq (Bo (Kp [1,2,4,5,6,7,8] rfl ?_)))); intro a hF
 refine loopX (fun (x : Unit) a w => Fr 158 [(1, .func (.func f) #[] cap.toArray), (2, .pointer (some ⟨b2, 0, none⟩)), (4, .string (mkS (123 :: u))), (5, .bool false), (6, .int .i64 0), (7, .pointer (some ⟨b7, 0, none⟩)), (8, .pointer (some ⟨b8, 0, none⟩))] a ∧ Mem Bc wc ((b8, 135, [.int .i64 0, .string (mkS []), .string (mkS []), .float .f64 0, .int .i64 0, .slice none 0 0]) :: (b7, 135, [.int .i64 0, .string (mkS []), .string (mkS []), .float .f64 0, .int .i64 0, .slice none 0 0]) :: (b2, 135, resL 5 (123 :: u) str fl ix) :: Lc) w) (fun _ => 0) (()) ?_ (fun x a w hI => ?_)
 · exact ⟨hF, hM⟩
 clear hF hM
 obtain ⟨hF, hM⟩ := hI
 revert a; refine Sq (Sq (Rg (Md 4 [1,2,4,5,6,7,8,30] rfl (Nx (D2 rfl (fun ht => absurd (of_decide_eq_false ht) (by omega)) (Sk (Nx (Sq (Bo (Sq (Sq (Rg (Mv 2 rfl ?_))))))))))))); intro a hF
 refine op_index_str hF rfl (0) 123 rfl rfl rfl Tryz.underlying9 rfl rfl (by first | rfl | omega) rfl ?_; clear hF a; intro a hF
 revert a; refine Md 1 [1,2,4,5,6,7,8,36] rfl (Nx (D2 rfl (fun ht => absurd ht (by decide)) (Sq (Rg (Mv 1 rfl (Sm (((1 : Nat) : Int)) rfl (by omega) (Md 1 [1,2,4,6,7,8] rfl (Nx (Sq (Rg (Mv 1 rfl (St hM 1 rfl ?_))))))))))))
 clear hM; intro w hM
 refine Md 0 [1,2,4,6,7,8] rfl (Nx (Sq (Rg (Md 1 [1,2,4,5,6,7,8] rfl (Nx (Ex (Ot (Op' rfl (Ot (Ot (Ob (Nx (Sq (Rg (Md 1 [1,2,4,5,6,7,8] rfl (Nx (Sq (Rg (Md 1 [1,2,4,5,6,7,8] rfl (Nx (Sq (Rg (Md 1 [1,2,4,5,6,7,8] rfl (Nx (Sq (Rg (Md 1 [1,2,4,5,6,7,8,12] rfl (Nx (Bo (Kp [1,2,4,5,6,7,8,12] rfl ?_)))))))))))))))))))))))))))))); intro a hF
 refine loopX (fun (x : Nat × Str × Nat) a w => ∃ (Lc : List Bk) (rk qk : Str) (ixk : Int) (vs8 : List Value), Fr 158 [(1, .func (.func f) #[] cap.toArray), (2, .pointer (some ⟨b2, 0, none⟩)), (4, .string (mkS (123 :: u))), (5, .bool true), (6, .int .i64 (x.1 : Int)), (7, .pointer (some ⟨b7, 0, none⟩)), (8, .pointer (some ⟨b8, 0, none⟩)), (12, .int .i64 (x.2.2 : Int))] a ∧ Mem Bc wc ((b8, 135, vs8) :: (b7, 135, resL 3 rk qk 0 ixk) :: (b2, 135, resL 5 (123 :: u) str fl ix) :: Lc) w ∧ vs8.length = 6 ∧ Inv x.2.2 Lc ∧ (123 :: u).drop x.1 = x.2.1 ∧ RestM x.2.1 (ts.drop x.2.2) ∧ x.2.2 ≤ ts.length ∧ x.1 ≤ (123 :: u).length) (fun x => (123 :: u).length - x.1) ((1, u, 0)) ?_ (fun x a w hI => ?_)
 · exact ⟨Lc, [], [], 0, _, hF, hM, rfl, hI0, rfl, hu, Nat.zero_le _, by rw [hlT]; omega⟩
 clear hF hM
 obtain ⟨i, u1, j⟩ := x
 obtain ⟨Lc, rk, qk, ixk, vs8, hF, hM, h8, hI, hd, hR1, hj, hi⟩ := hI
 simp only at hF hM hI hd hR1 hj hi
 revert a; refine Sq (Sq (Rg (Md 4 [1,2,4,5,6,7,8,12,55] rfl (Nx (Ce rfl (fun ht => ?_) ((fun ht => ?_)))))))
 ·
  have hge := of_decide_eq_false ht
  have hu1 : u1 = [] := by rw [← hd]; exact List.drop_of_length_le (by omega)
  subst hu1
  have htd := hR1.nil
  have hjl : j = ts.length := by have := congrArg List.length htd; simp at this; omega
  subst hjl
  exact Ex (Ot (Ot (Ob (Z0 rfl ⟨_, rfl, rfl, Lc, hI, hM.drop (List.Sublist.cons _ (List.Sublist.cons _ (List.Sublist.cons _ (List.Sublist.refl _))))⟩))))
 have hlt := of_decide_eq_true ht
 have hu1 : u1 ≠ [] := by intro e; subst e; have := congrArg List.length hd; simp at this; omega
 have hget : ∀ j, (123 :: u)[i + j]? = u1[j]? := fun j => by rw [← hd, List.getElem?_drop]
 refine Sk (Nx (Sq (Bo (Sq (Sq (Rg (Md 1 [1,2,4,5,6,7,8,12,58] rfl (Nx (Ct rfl (Sq (Sq ?_)))))))))))
 rcases hR1.look hu1 with ⟨c, u', he, hc, hRn⟩ | ⟨ik, w2, t, k, d, u', ts', he, hik, hsw, hfo, hnd, hRn, hts⟩
 ·
  have he0 : (123 :: u)[i]? = some c := (hget 0).trans (by rw [he]; rfl)
  refine Rg (Mv 2 rfl ?_); intro a hF
  refine op_index_str hF rfl (i) c rfl rfl rfl Tryz.underlying9 rfl rfl (by first | rfl | omega) he0 ?_; clear hF a; intro a hF
  revert a; refine Md 1 [1,2,4,5,6,7,8,12,62] rfl (Nx (D2 rfl (fun ht => absurd (ne_f (d := 34) rfl ht) hc) (Ex (Ot (Ot (Ob (Nx (Rg (Mv 1 rfl (Sm (((i + 1 : Nat) : Int)) rfl (by omega) (Md 1 [1,2,4,5,6,7,8,12] rfl ?_))))))))))); intro a hF
  first | exact ⟨(_, u', j + 1), ⟨Lc', _, _, _, _, hF, hM, rfl, hI', by simp only; rw [← List.drop_drop, hmo]; rfl, hRj, by simp only; omega, by simp only; omega⟩, by simp only; omega⟩ | exact ⟨(_, u', j), ⟨Lc, rk, qk, ixk, vs8, hF, hM, h8, hI, by simp only; rw [← List.drop_drop, hd, he]; rfl, hRn, hj, by simp only; omega⟩, by simp only; omega⟩
 have he0 : (123 :: u)[i]? = some 34 := (hget 0).trans (by rw [he]; rfl)
 have hjl : j < ts.length := by rcases Nat.lt_or_ge j ts.length with h | h; exact h; rw [List.drop_of_length_le h] at hts; cases hts
 have hjt : ts[j]? = some ⟨ik, t, k⟩ := by have := congrArg (fun l => l[0]?) hts; simpa [List.getElem?_drop] using this
 have hRj : RestM u' (ts.drop (j + 1)) := by rw [← List.drop_drop, hts]; exact hRn
 have hdk : (123 :: u).drop i = (34 :: ik ++ [34]) ++ (w2 ++ t ++ d :: u') := by rw [hd, he]
 have hlk := seg_len hdk (by simp)
 have hl2 : (34 :: ik ++ [34]).length = ik.length + 2 := by simp
 have hdw : (123 :: u).drop (i + ik.length + 2) = w2 ++ t ++ d :: u' := by have := seg_more hdk; rw [hl2] at this; exact this
 obtain ⟨ct, tt, htt, hns⟩ := form_first hfo
 refine Rg (Mv 2 rfl ?_); intro a hF
 refine op_index_str hF rfl (i) 34 rfl rfl rfl Tryz.underlying9 rfl rfl (by first | rfl | omega) he0 ?_; clear hF a; intro a hF
 revert a; refine Md 1 [1,2,4,5,6,7,8,12,62] rfl (Nx (C1 rfl (fun ht => absurd ht (by decide)) (Sk (Nx (Sq (Rg (Md 2 [1,2,4,5,6,7,8,12,13] rfl (Nx (Sq (Rg (Mv 2 rfl (Sm (((i + 1 : Nat) : Int)) rfl (by omega) (Cm hM rfl Tryz.func139 (by kernel_rfl) rfl (string_walk (123 :: u) ik (w2 ++ t ++ d :: u') i w (by omega) hdk hik.quo) ?_)))))))))))))
 clear hM; intro w v hR hM hBe
 obtain ⟨e, rfl, hes⟩ := hR
 refine Md 9 [1,2,4,5,6,7,8,9,10,11,12,13] rfl (Nx (Sq (Sq (Rg (Md 2 [1,2,4,5,6,7,8,9,10,12,13,74] rfl (Nx (Cf rfl (Sk (Nx ?_))))))))); intro a hF
 refine cut (fun a w => ∃ (q : Str), Fr 158 [(1, .func (.func f) #[] cap.toArray), (2, .pointer (some ⟨b2, 0, none⟩)), (4, .string (mkS (123 :: u))), (5, .bool true), (6, .int .i64 ((i + ik.length + 2 : Nat) : Int)), (7, .pointer (some ⟨b7, 0, none⟩)), (8, .pointer (some ⟨b8, 0, none⟩)), (9, .string (mkS (34 :: ik ++ [34]))), (12, .int .i64 (j : Int)), (13, .int .i64 (i : Int))] a ∧ Mem Bc wc ((b8, 135, vs8) :: (b7, 135, resL 3 rk q 0 ixk) :: (b2, 135, resL 5 (123 :: u) str fl ix) :: Lc) w ∧ (Prd ik → q = unq ik)) ?_ (fun a w h => ?_)
 ·
  revert a; refine Sq (Rg (Md 1 [1,2,4,5,6,7,8,9,12,13,75] rfl (Nx (Ce rfl (fun ht => ?_) ((fun ht => ?_))))))
  ·
   subst ht
   refine Rg (Mv 3 rfl ?_); intro a hF
   rw [hl2] at hF
   revert a; refine Sm (((ik.length + 1 : Nat) : Int)) rfl (by omega) ?_; intro a hF
   refine op_slice_str hF rfl 1 (ik.length + 1) rfl rfl rfl Tryz.underlying9 rfl rfl rfl rfl rfl (by omega) (by rw [hl2]; omega) ?_; clear hF a; intro a hF
   rw [show ((34 :: ik ++ [34] : Str).drop 1).take (ik.length + 1 - 1) = ik by simp] at hF
   revert a; refine Mv 1 rfl (St hM 1 rfl ?_)
   clear hM; intro w hM
   refine Md 0 [1,2,4,5,6,7,8,9,12,13] rfl ?_; intro a hF
   first | exact ⟨q, hF, hM, hq⟩ | exact ⟨ik, hF, hM, fun _ => (unq_plain ik (hes rfl)).symm⟩
  subst ht
  refine Rg (Mv 3 rfl ?_); intro a hF
  rw [hl2] at hF
  revert a; refine Sm (((ik.length + 1 : Nat) : Int)) rfl (by omega) ?_; intro a hF
  refine op_slice_str hF rfl 1 (ik.length + 1) rfl rfl rfl Tryz.underlying9 rfl rfl rfl rfl rfl (by omega) (by rw [hl2]; omega) ?_; clear hF a; intro a hF
  rw [show ((34 :: ik ++ [34] : Str).drop 1).take (ik.length + 1 - 1) = ik by simp] at hF
  revert a; refine Cm hM rfl Tryz.func140 (by kernel_rfl) rfl (unescape_walk ik w (by omega) hik) ?_
  clear hM; intro w v hR hM hBe
  obtain ⟨q, rfl, hq⟩ := hR
  refine Mv 1 rfl (St hM 1 rfl ?_)
  clear hM; intro w hM
  refine Md 0 [1,2,4,5,6,7,8,9,12,13] rfl ?_; intro a hF
  first | exact ⟨q, hF, hM, hq⟩ | exact ⟨ik, hF, hM, fun _ => (unq_plain ik (hes rfl)).symm⟩
 clear hF hM
 obtain ⟨q, hF, hM, hq⟩ := h
 revert a; refine Sq (Rg (Mv 2 rfl (St hM 1 rfl ?_)))
 clear hM; intro w hM
 refine Md 0 [1,2,4,5,6,7,8,12,13] rfl (Nx (Rg (Mv 2 rfl (Ld hM 2 rfl rfl (Mv 2 rfl (St hM 1 rfl ?_))))))
 clear hM; intro w hM
 refine Md 0 [1,2,4,5,6,7,8,12] rfl (Nx (Sq (Bo (Kp [1,2,4,5,6,7,8,12] rfl ?_)))); intro a hF
 refine loopX (fun (x : Nat × Str) a w => ∃ ixk2, Fr 158 [(1, .func (.func f) #[] cap.toArray), (2, .pointer (some ⟨b2, 0, none⟩)), (4, .string (mkS (123 :: u))), (5, .bool true), (6, .int .i64 (x.1 : Int)), (7, .pointer (some ⟨b7, 0, none⟩)), (8, .pointer (some ⟨b8, 0, none⟩)), (12, .int .i64 (j : Int))] a ∧ Mem Bc wc ((b8, 135, vs8) :: (b7, 135, resL 3 (34 :: ik ++ [34]) q 0 ixk2) :: (b2, 135, resL 5 (123 :: u) str fl ix) :: Lc) w ∧ (123 :: u).drop x.1 = x.2 ++ t ++ d :: u' ∧ Sep x.2 ∧ i ≤ x.1) (fun x => (123 :: u).length - x.1) ((i + ik.length + 2, w2)) ?_ (fun x a w hI => ?_)
 · exact ⟨_, hF, hM, hdw, hsw, by simp only; omega⟩
 clear hF hM
 clear hdw hsw hget he0
 obtain ⟨i2, w2⟩ := x
 obtain ⟨ixk2, hF, hM, hd2, hsw, hii⟩ := hI
 simp only at hF hM hd2 hsw hii
 have hlt2 : i2 < (123 :: u).length := by
   rcases Nat.lt_or_ge i2 (123 :: u).length with h | h
   · exact h
   · rw [List.drop_of_length_le h] at hd2; have := congrArg List.length hd2; simp at this
 have hget : ∀ j, (123 :: u)[i2 + j]? = (w2 ++ t ++ d :: u')[j]? := fun j => by rw [← hd2, List.getElem?_drop]
 revert a; refine Sq (Sq (Rg (Md 4 [1,2,4,5,6,7,8,12,103] rfl (Nx (D2 rfl (fun ht => absurd (of_decide_eq_false ht) (by omega)) (Sk (Nx (Sq (Bo (Sq (Sq ?_)))))))))))
 rcases sep_skip hsw htt hns (rfl : w2 ++ t ++ d :: u' = w2 ++ t ++ d :: u') with ⟨c, w', hw, hc, he, hsn⟩ | ⟨c, w', hw, hc, he, hsn⟩ | ⟨c, w', hw, hc, he, hsn⟩ | ⟨hw, he⟩
 ·
  have he0 : (123 :: u)[i2]? = some c := (hget 0).trans (by rw [he]; rfl)
  refine Rg (Mv 2 rfl ?_); intro a hF
  refine op_index_str hF rfl (i2) c rfl rfl rfl Tryz.underlying9 rfl rfl (by first | rfl | omega) he0 ?_; clear hF a; intro a hF
  revert a; refine Bv rfl rfl (decide_eq_true (show ((c.toNat : Int) ≤ 32) by omega)) (Md 12 [1,2,4,5,6,7,8,12,121] rfl (Nx (Ct rfl (Ex (Ot (Ob (Nx (Rg (Mv 1 rfl (Sm (((i2 + 1 : Nat) : Int)) rfl (by omega) (Md 1 [1,2,4,5,6,7,8,12] rfl ?_))))))))))); intro a hF
  exact ⟨(_, _), ⟨_, hF, hM, by rw [← List.drop_drop, hd2, he]; rfl, hsn, by omega⟩, by simp only; omega⟩
 ·
  have he0 : (123 :: u)[i2]? = some c := (hget 0).trans (by rw [he]; rfl)
  refine Rg (Mv 2 rfl ?_); intro a hF
  refine op_index_str hF rfl (i2) c rfl rfl rfl Tryz.underlying9 rfl rfl (by first | rfl | omega) he0 ?_; clear hF a; intro a hF
  revert a; refine Bv rfl rfl (decide_eq_false (show ¬ (((c.toNat : Int) ≤ 32)) by omega)) (Mv 3 rfl ?_); intro a hF
  refine guard_yes hF rfl rfl rfl rfl rfl rfl ?_
  refine op_index_str hF rfl (i2) c rfl rfl rfl Tryz.underlying9 rfl rfl (by first | rfl | omega) he0 ?_; clear hF a; intro a hF
  revert a; refine Bv rfl rfl (beq_t (d := 44) (z := 44) rfl hc.2) (Md 7 [1,2,4,5,6,7,8,12,121] rfl (Nx (Ct rfl (Ex (Ot (Ob (Nx (Rg (Mv 1 rfl (Sm (((i2 + 1 : Nat) : Int)) rfl (by omega) (Md 1 [1,2,4,5,6,7,8,12] rfl ?_))))))))))); intro a hF
  exact ⟨(_, _), ⟨_, hF, hM, by rw [← List.drop_drop, hd2, he]; rfl, hsn, by omega⟩, by simp only; omega⟩
 ·
  have he0 : (123 :: u)[i2]? = some c := (hget 0).trans (by rw [he]; rfl)
  refine Rg (Mv 2 rfl ?_); intro a hF
  refine op_index_str hF rfl (i2) c rfl rfl rfl Tryz.underlying9 rfl rfl (by first | rfl | omega) he0 ?_; clear hF a; intro a hF
  revert a; refine Bv rfl rfl (decide_eq_false (show ¬ (((c.toNat : Int) ≤ 32)) by omega)) (Mv 3 rfl ?_); intro a hF
  refine guard_yes hF rfl rfl rfl rfl rfl rfl ?_
  refine op_index_str hF rfl (i2) c rfl rfl rfl Tryz.underlying9 rfl rfl (by first | rfl | omega) he0 ?_; clear hF a; intro a hF
  revert a; refine Bv rfl rfl (beq_f (d := 44) (z := 44) rfl (by rw [hc.2]; decide)) (Mv 4 rfl ?_); intro a hF
  refine guard_yes hF rfl rfl rfl rfl rfl rfl ?_
  refine op_index_str hF rfl (i2) c rfl rfl rfl Tryz.underlying9 rfl rfl (by first | rfl | omega) he0 ?_; clear hF a; intro a hF
  revert a; refine Bv rfl rfl (beq_t (d := 58) (z := 58) rfl hc.2) (Md 1 [1,2,4,5,6,7,8,12,121] rfl (Nx (Ct rfl (Ex (Ot (Ob (Nx (Rg (Mv 1 rfl (Sm (((i2 + 1 : Nat) : Int)) rfl (by omega) (Md 1 [1,2,4,5,6,7,8,12] rfl ?_))))))))))); intro a hF
  exact ⟨(_, _), ⟨_, hF, hM, by rw [← List.drop_drop, hd2, he]; rfl, hsn, by omega⟩, by simp only; omega⟩
 have he0 : (123 :: u)[i2]? = some ct := (hget 0).trans (by rw [he]; rfl)
 have hn32 := hns.1
 subst hw
 have hdt : (123 :: u).drop i2 = t ++ d :: u' := hd2
 have ht0 : t ≠ [] := by rw [htt]; simp
 have hln := seg_len hdt ht0
 have hmo : (123 :: u).drop (i2 + t.length) = d :: u' := seg_more hdt
 have hml : i2 + t.length < (123 :: u).length := by
   rcases Nat.lt_or_ge (i2 + t.length) (123 :: u).length with h | h
   · exact h
   · rw [List.drop_of_length_le h] at hmo; cases hmo
 refine Rg (Mv 2 rfl ?_); intro a hF
 refine op_index_str hF rfl (i2) ct rfl rfl rfl Tryz.underlying9 rfl rfl (by first | rfl | omega) he0 ?_; clear hF a; intro a hF
 revert a; refine Bv rfl rfl (decide_eq_false (show ¬ (((ct.toNat : Int) ≤ 32)) by omega)) (Mv 3 rfl ?_); intro a hF
 refine guard_yes hF rfl rfl rfl rfl rfl rfl ?_
 refine op_index_str hF rfl (i2) ct rfl rfl rfl Tryz.underlying9 rfl rfl (by first | rfl | omega) he0 ?_; clear hF a; intro a hF
 revert a; refine Bv rfl rfl (beq_f (d := 44) (z := 44) rfl (hns.2.1)) (Mv 4 rfl ?_); intro a hF
 refine guard_yes hF rfl rfl rfl rfl rfl rfl ?_
 refine op_index_str hF rfl (i2) ct rfl rfl rfl Tryz.underlying9 rfl rfl (by first | rfl | omega) he0 ?_; clear hF a; intro a hF
 revert a; refine Bv rfl rfl (beq_f (d := 58) (z := 58) rfl (hns.2.2)) (Md 1 [1,2,4,5,6,7,8,12,121] rfl (Nx (Cf rfl (Sk (Nx (Ex (Op' rfl (Ot (Ot (Ob (Nx (Sq (Rg (Md 2 [1,2,4,5,6,7,8,12,14] rfl (Nx (Sq (Rg (Mv 2 rfl (Cm hM rfl Tryz.func141 (by kernel_rfl) rfl (parseAny_walk hPF (123 :: u) t (d :: u') i2 k w (glob_of hG hM) (by omega) hdt hfo (fun x hx => by simp only [List.head?_cons, Option.some.injEq] at hx; subst hx; exact hnd)) ?_)))))))))))))))))))
 clear hM; intro w v hR hM hBe
 obtain ⟨str', fl', ix', rfl⟩ := hR
 refine Mv 5 rfl ?_; intro a hF
 refine op_storeA hF hM rfl 0 rfl rfl (by kernel_rfl) rfl rfl rfl rfl (h8) ?_; clear hF hM a; intro a w  hF hM
 revert a; refine Md 1 [1,2,4,5,6,7,8,11,12,14] rfl (Nx (Sq (Sq (Rg (Md 2 [1,2,4,5,6,7,8,12,14,131] rfl (Nx (Cf rfl (Sk (Nx (Sq (Sq (Rg (Mv 1 rfl (Ld hM 2 rfl rfl ?_)))))))))))))); intro a hF
 refine op_neNilSl hF rfl rfl rfl rfl rfl Tryz.underlying133 ?_; clear hF a; intro a hF
 revert a; refine Md 0 [1,2,4,5,6,7,8,12,14,134] rfl (Nx (Cf rfl (Rg (Mv 2 rfl (Ld hM 2 rfl rfl (Mv 2 rfl (St hM 0 rfl ?_)))))))
 clear hM; intro w hM
 refine Md 0 [1,2,4,5,6,7,8,12] rfl (Nx (Sq (Sq (Rg (Mv 1 rfl ?_))))); intro a hF
 refine op_loadA hF hM rfl 1 rfl rfl rfl Tryz.underlying135 rfl (by kernel_rfl) rfl rfl ?_; clear hF a; intro a hF
 refine op_loadA hF hM rfl 0 rfl rfl rfl Tryz.underlying135 rfl (by kernel_rfl) rfl rfl ?_; clear hF a; intro a hF
 refine op_callV hF rfl rfl rfl rfl rfl hf hname hb rfl (hcb j ⟨ik, t, k⟩ [_, _, _] Lc w q str' fl' _ _ hjt hq hI hM) ?_
 clear hF hM a; intro a w v hR hF
 obtain ⟨rfl, Lc', hI', hM⟩ := hR
 revert a; refine Md 1 [1,2,4,5,6,7,8,12,155] rfl (Nx (Cf rfl (Sk (Nx (Rg (Mv 1 rfl (Sm (((j + 1 : Nat) : Int)) rfl (by omega) (Md 1 [1,2,4,5,6,7,8,12] rfl (Nb (Nx (Rg (Mv 1 rfl (Sm (((i2 + t.length + 1 : Nat) : Int)) rfl (by omega) (Md 1 [1,2,4,5,6,7,8,12] rfl ?_)))))))))))))); intro a hF
 first | exact ⟨(_, u', j + 1), ⟨Lc', _, _, _, _, hF, hM, rfl, hI', by simp only; rw [← List.drop_drop, hmo]; rfl, hRj, by simp only; omega, by simp only; omega⟩, by simp only; omega⟩ | exact ⟨(_, u', j), ⟨Lc, rk, qk, ixk, vs8, hF, hM, h8, hI, by simp only; rw [← List.drop_drop, hd, he]; rfl, hRn, hj, by simp only; omega⟩, by simp only; omega⟩
end Go.Sx
namespace Go.Sx
open Go.RowKit Go.Proofs Js Go.Proofs.YtelonenjneonlaaGreatDoorW.PrintWords
theorem isArray_walk (k : Int) (raw str : Str) (f : Nat) (ix : Int) (w0 : World) (hr : k = 5 → raw ≠ []) (hl : raw.length ≤ 2 ^ 40) :
    Calls Tryz.prog 99 #[resV k raw str f ix] w0 (Ret fun v w' => (∃ b : Bool, v = .bool b ∧ (b = true ↔ k = 5 ∧ raw.head? = some 91)) ∧ Below w0.heap.size w0 w') := by
 have hM : Mem w0.heap.size w0 [] w0 := Mem.start (Nat.le_refl _)
 refine enter (l := [resV k raw str f ix]) 17 Tryz.func99 rfl rfl (fun a hF => ?_)
 replace hF : Fr 18 [(0, resV k raw str f ix)] a := hF
 refine seq (region ?_)
 refine op_box hF hM rfl rfl rfl rfl rfl rfl ?_; clear hF hM a; intro a w b1 hF hM
 revert a; refine Md 1 [1] rfl (Nx (Sq ?_))
 rcases Classical.em (k = 5) with h5 | h5
 ·
  have hb : (k == 5) = true := by simpa using h5
  obtain ⟨c, t, rfl⟩ : ∃ c t, raw = c :: t := by cases raw with | nil => exact absurd rfl (hr h5) | cons c t => exact ⟨c, t, rfl⟩
  refine Rg (Mv 1 rfl (Ld hM 0 rfl rfl (Mv 1 rfl ?_))); intro a hF
  rw [hb] at hF
  revert a; refine Mv 2 rfl (Ld hM 0 rfl rfl (Mv 1 rfl (Bv rfl rfl (decide_eq_true (show (((c :: t).length : Int) > 0) by simp only [List.length_cons]; omega)) (Mv 3 rfl (Ld hM 0 rfl rfl ?_))))); intro a hF
  refine guard_yes hF rfl rfl rfl rfl rfl rfl ?_
  refine op_index_str hF rfl (0) c rfl rfl rfl Tryz.underlying9 rfl rfl (by first | rfl | omega) rfl ?_; clear hF a; intro a hF
  revert a; refine Md 3 [2] rfl (Nx (Re ?_)); intro a hF
  refine retOne hF hM rfl (.tmp rfl .nil) ⟨_, rfl, ⟨_, rfl, ?_⟩, hM.below⟩
  rw [beq_dec (d := 91) (z := 91) rfl]
  simp [h5]
 have hb : (k == 5) = false := by simpa using h5
 refine Rg (Mv 1 rfl (Ld hM 0 rfl rfl (Mv 1 rfl ?_))); intro a hF
 rw [hb] at hF
 revert a; refine Md 13 [2] rfl (Nx (Re ?_)); intro a hF
 exact retOne hF hM rfl (.tmp rfl .nil) ⟨_, rfl, ⟨_, rfl, by simp [h5]⟩, hM.below⟩
end Go.Sx
namespace Go.Sx
open Go.RowKit Go.Proofs Js Go.Proofs.YtelonenjneonlaaGreatDoorW.PrintWords
theorem trim_walk (c : UInt8) (r : Str) (d : UInt8) (w : World) (hT : r.length ≤ 2 ^ 40) (hc : 32 < c.toNat) (hd : 32 < d.toNat) :
    Calls Tryz.prog 145 #[.string (mkS (c :: r ++ [d]))] w (Ret fun v w' => v = .string (mkS (c :: r ++ [d])) ∧ Below w.heap.size w w') := by
 have hl : (c :: r ++ [d]).length = r.length + 2 := by simp
 have hcl : (c :: r ++ [d])[0]? = some c := rfl
 have hdl : (c :: r ++ [d])[r.length + 1]? = some d := by simp
 refine enter (l := [.string (mkS (c :: r ++ [d]))]) 29 Tryz.func145 rfl rfl (fun a hF => ?_)
 replace hF : Fr 30 [(0, .string (mkS (c :: r ++ [d])))] a := hF
 revert a; refine Sq (Rg (Md 1 [0] rfl (Nx ?_))); intro a hF
 refine scopeZ (X := Unit) (fun _ _ _ _ => False) (fun _ _ => 0) (fun _ => 0) (fun _ _ _ _ _ h => h.elim) (fun _ => ?_)
 revert a; refine Sq (Wl (Nx (Sq (Sq (Rg (Mv 2 rfl (Bv rfl rfl (decide_eq_true (show (((c :: r ++ [d]).length : Int) > 0) by omega)) (Mv 2 rfl ?_)))))))); intro a hF
 refine guard_yes hF rfl rfl rfl rfl rfl rfl ?_
 refine op_index_str hF rfl (0) c rfl rfl rfl Tryz.underlying9 rfl rfl (by first | rfl | omega) hcl ?_; clear hF a; intro a hF
 revert a; refine Md 2 [0,10] rfl (Nx (C1 rfl (fun ht => absurd (of_decide_eq_true ht) (by omega)) (Sk (Nx (Sq (Wl (Nx (Sq (Sq (Rg (Mv 2 rfl (Bv rfl rfl (decide_eq_true (show (((c :: r ++ [d]).length : Int) > 0) by omega)) (Mv 4 rfl (Sm (((r.length + 1 : Nat) : Int)) rfl (by omega) ?_)))))))))))))); intro a hF
 refine guard_yes hF rfl rfl rfl rfl rfl rfl ?_
 refine op_index_str hF rfl (r.length + 1) d rfl rfl rfl Tryz.underlying9 rfl rfl (by first | rfl | omega) hdl ?_; clear hF a; intro a hF
 revert a; exact Md 2 [0,23] rfl (Nx (C1 rfl (fun ht => absurd (of_decide_eq_true ht) (by omega)) (Sk (Nx (Sq (Rg (Md 2 [2] rfl (Nx (Re (Jr (Y1 rfl rfl ⟨_, rfl, rfl, Below.refl _ _⟩)))))))))))
end Go.Sx
namespace Go.Sx
open Go.RowKit Go.Proofs Js Go.Proofs.YtelonenjneonlaaGreatDoorW.PrintWords
theorem unwrap_walk (r : Str) (d : UInt8) (w0 : World) (hT : r.length ≤ 2 ^ 40) (hd : 32 < d.toNat) :
    Calls Tryz.prog 104 #[.string (mkS (91 :: r ++ [d]))] w0 (Ret fun v w' => v = .string (mkS r) ∧ Below w0.heap.size w0 w') := by
 have hM : Mem w0.heap.size w0 [] w0 := Mem.start (Nat.le_refl _)
 have hl : (91 :: r ++ [d]).length = r.length + 2 := by simp
 refine enter (l := [.string (mkS (91 :: r ++ [d]))]) 23 Tryz.func104 rfl rfl (fun a hF => ?_)
 replace hF : Fr 24 [(0, .string (mkS (91 :: r ++ [d])))] a := hF
 revert a; refine Sq (Rg (Md 1 [0] rfl (Nx (Sq (Rg (Mv 1 rfl (Cm hM rfl Tryz.func145 (by kernel_rfl) rfl (trim_walk 91 r d w0 hT (by decide) hd) ?_)))))))
 clear hM; intro w v hR hM hBe
 obtain rfl := hR
 refine Md 1 [0] rfl (Nx (Sq (Sq ?_)))
 skip
 refine Rg (Mv 2 rfl (Bv rfl rfl (decide_eq_true (show (((91 :: r ++ [d]).length : Int) ≥ 2) by omega)) (Mv 2 rfl ?_))); intro a hF
 refine guard_yes hF rfl rfl rfl rfl rfl rfl ?_
 refine op_index_str hF rfl (0) 91 rfl rfl rfl Tryz.underlying9 rfl rfl (by first | rfl | omega) rfl ?_; clear hF a; intro a hF
 revert a; refine Bv rfl rfl (show (((91 : UInt8).toNat : Int) == 91) = true from rfl) (Md 6 [0,17] rfl (Nx (D2 rfl (fun ht => absurd ht (by decide)) (Rg (Mv 3 rfl (Sm (((r.length + 1 : Nat) : Int)) rfl (by omega) ?_)))))); intro a hF
 refine op_slice_str hF rfl 1 (r.length + 1) rfl rfl rfl Tryz.underlying9 rfl rfl rfl rfl rfl (by omega) (by omega) ?_; clear hF a; intro a hF
 revert a; refine Md 1 [0] rfl (Nx (Sq (Rg (Md 2 [2] rfl (Nx (Re ?_))))))
 have hr : ((91 :: r ++ [d]).drop 1).take (r.length + 1 - 1) = r := by simp
 intro a hF
 rw [hr] at hF
 exact ret1 hF rfl rfl ⟨_, rfl, rfl, hM.below⟩
end Go.Sx
namespace Go.Sx
open Go.RowKit Go.Proofs Js Go.Proofs.YtelonenjneonlaaGreatDoorW.PrintWords
theorem firstRune_walk (c : UInt8) (r : Str) (w : World) (hc : c.toNat < 128) :
    Calls Tryz.prog 146 #[.string (mkS (c :: r))] w (Ret fun v w' => v = .tuple #[.int .i32 (c.toNat : Int), .int .i64 1] ∧ Below w.heap.size w w') := by
 refine enter (l := [.string (mkS (c :: r))]) 18 Tryz.func146 rfl rfl (fun a hF => ?_)
 replace hF : Fr 19 [(0, .string (mkS (c :: r)))] a := hF
 revert a; refine Sq (Rg (Md 2 [0] rfl (Nx (Sq (Sq (Rg (Mv 1 rfl ?_))))))); intro a hF
 refine op_neStr hF rfl true rfl rfl rfl rfl rfl rfl ?_; clear hF a; intro a hF
 revert a; refine Mv 2 rfl ?_; intro a hF
 refine guard_yes hF rfl rfl rfl rfl rfl rfl ?_
 refine op_index_str hF rfl (0) c rfl rfl rfl Tryz.underlying9 rfl rfl (by first | rfl | omega) rfl ?_; clear hF a; intro a hF
 revert a; refine Bv rfl rfl (decide_eq_true (show ((c.toNat : Int) < 128) by omega)) (Md 1 [0,10] rfl (Nx (Ct rfl (Sq (Rg (Mv 1 rfl ?_)))))); intro a hF
 refine op_index_str hF rfl (0) c rfl rfl rfl Tryz.underlying9 rfl rfl (by first | rfl | omega) rfl ?_; clear hF a; intro a hF
 refine op_conv_to hF rfl rfl rfl rfl Tryz.underlying5 Tryz.underlying21 rfl (wrap_i32 (by omega) (by omega)) ?_; clear hF a; intro a hF
 revert a; exact Md 2 [2,3] rfl (Nx (Re (Rt (Y2 rfl rfl rfl ⟨_, rfl, rfl, Below.refl _ _⟩))))
end Go.Sx
namespace Go.Sx
open Go.RowKit Go.Proofs Js Go.Proofs.YtelonenjneonlaaGreatDoorW.PrintWords
theorem lastRune_walk (c : UInt8) (r : Str) (w : World) (hT : r.length ≤ 2 ^ 40) (hc : c.toNat < 128) :
    Calls Tryz.prog 148 #[.string (mkS (r ++ [c]))] w (Ret fun v w' => v = .tuple #[.int .i32 (c.toNat : Int), .int .i64 1] ∧ Below w.heap.size w w') := by
 have hl : (r ++ [c]).length = r.length + 1 := by simp
 refine enter (l := [.string (mkS (r ++ [c]))]) 50 Tryz.func148 rfl rfl (fun a hF => ?_)
 replace hF : Fr 51 [(0, .string (mkS (r ++ [c])))] a := hF
 revert a; refine Sq (Rg (Md 2 [0] rfl (Nx (Sq (Rg (Md 3 [0,4] rfl (Nx (Sq (Sq (Rg (Md 2 [0,4,10] rfl (Nx (C1 rfl (fun ht => absurd (eq_of_beq ht) (by omega)) (Sk (Nx (Sq (Rg (Mv 1 rfl (Sm ((r.length : Int)) rfl (by omega) (Md 1 [0,4,5] rfl (Nx (Sq (Rg (Mv 2 rfl ?_)))))))))))))))))))))))); intro a hF
 refine op_index_str hF rfl (r.length) c rfl rfl rfl Tryz.underlying9 rfl rfl (by first | rfl | omega) (by simp) ?_; clear hF a; intro a hF
 refine op_conv_to hF rfl rfl rfl rfl Tryz.underlying5 Tryz.underlying21 rfl (wrap_i32 (by omega) (by omega)) ?_; clear hF a; intro a hF
 revert a; exact Md 1 [0,2,4,5] rfl (Nx (Sq (Sq (Rg (Md 2 [0,2,4,5,18] rfl (Nx (D2 rfl (fun ht => absurd (of_decide_eq_false ht) (by omega)) (Sq (Rg (Md 3 [2,3] rfl (Nx (Re (Rt (Y2 rfl rfl rfl ⟨_, rfl, rfl, Below.refl _ _⟩))))))))))))))
end Go.Sx
namespace Go.Sx
open Go.RowKit Go.Proofs Js Go.Proofs.YtelonenjneonlaaGreatDoorW.PrintWords
theorem space_yes9 (w : World) :
    Calls Tryz.prog 147 #[.int .i32 9] w (Ret fun v w' => v = .bool true ∧ Below w.heap.size w w') := by
 refine enter (l := [.int .i32 9]) 24 Tryz.func147 rfl rfl (fun a hF => ?_)
 replace hF : Fr 25 [(0, .int .i32 9)] a := hF
 revert a; exact Sq (Rg (Md 1 [0] rfl (Nx (Sq (Sq (Rg (Md 1 [0,3] rfl (Nx (Bo (Sq (Sq (Rg (Md 2 [0,3,4] rfl (Nx (D2 rfl (fun ht => absurd ht (by decide)) (Sk (Nx (D2 rfl (fun ht => absurd ht (by decide)) (Sq (Rg (Md 1 [2] rfl (Nx (Re (Rb (Rt (Y1 rfl rfl ⟨_, rfl, rfl, Below.refl _ _⟩))))))))))))))))))))))))))
theorem space_yes10 (w : World) :
    Calls Tryz.prog 147 #[.int .i32 10] w (Ret fun v w' => v = .bool true ∧ Below w.heap.size w w') := by
 refine enter (l := [.int .i32 10]) 24 Tryz.func147 rfl rfl (fun a hF => ?_)
 replace hF : Fr 25 [(0, .int .i32 10)] a := hF
 revert a; exact Sq (Rg (Md 1 [0] rfl (Nx (Sq (Sq (Rg (Md 1 [0,3] rfl (Nx (Bo (Sq (Sq (Rg (Md 2 [0,3,4] rfl (Nx (C1 rfl (fun ht => absurd ht (by decide)) (Sq (Rg (Md 2 [0,3,4] rfl (Nx (D2 rfl (fun ht => absurd ht (by decide)) (Sk (Nx (D2 rfl (fun ht => absurd ht (by decide)) (Sq (Rg (Md 1 [2] rfl (Nx (Re (Rb (Rt (Y1 rfl rfl ⟨_, rfl, rfl, Below.refl _ _⟩)))))))))))))))))))))))))))))))
theorem space_yes13 (w : World) :
    Calls Tryz.prog 147 #[.int .i32 13] w (Ret fun v w' => v = .bool true ∧ Below w.heap.size w w') := by
 refine enter (l := [.int .i32 13]) 24 Tryz.func147 rfl rfl (fun a hF => ?_)
 replace hF : Fr 25 [(0, .int .i32 13)] a := hF
 revert a; exact Sq (Rg (Md 1 [0] rfl (Nx (Sq (Sq (Rg (Md 1 [0,3] rfl (Nx (Bo (Sq (Sq (Rg (Md 2 [0,3,4] rfl (Nx (C1 rfl (fun ht => absurd ht (by decide)) (Sq (Rg (Md 2 [0,3,4] rfl (Nx (C1 rfl (fun ht => absurd ht (by decide)) (Sq (Rg (Md 2 [0,3,4] rfl (Nx (C1 rfl (fun ht => absurd ht (by decide)) (Sq (Rg (Md 2 [0,3,4] rfl (Nx (C1 rfl (fun ht => absurd ht (by decide)) (Sq (Rg (Md 2 [0,3,4] rfl (Nx (D2 rfl (fun ht => absurd ht (by decide)) (Sk (Nx (D2 rfl (fun ht => absurd ht (by decide)) (Sq (Rg (Md 1 [2] rfl (Nx (Re (Rb (Rt (Y1 rfl rfl ⟨_, rfl, rfl, Below.refl _ _⟩))))))))))))))))))))))))))))))))))))))))))))))
theorem space_yes32 (w : World) :
    Calls Tryz.prog 147 #[.int .i32 32] w (Ret fun v w' => v = .bool true ∧ Below w.heap.size w w') := by
 refine enter (l := [.int .i32 32]) 24 Tryz.func147 rfl rfl (fun a hF => ?_)
 replace hF : Fr 25 [(0, .int .i32 32)] a := hF
 revert a; exact Sq (Rg (Md 1 [0] rfl (Nx (Sq (Sq (Rg (Md 1 [0,3] rfl (Nx (Bo (Sq (Sq (Rg (Md 2 [0,3,4] rfl (Nx (C1 rfl (fun ht => absurd ht (by decide)) (Sq (Rg (Md 2 [0,3,4] rfl (Nx (C1 rfl (fun ht => absurd ht (by decide)) (Sq (Rg (Md 2 [0,3,4] rfl (Nx (C1 rfl (fun ht => absurd ht (by decide)) (Sq (Rg (Md 2 [0,3,4] rfl (Nx (C1 rfl (fun ht => absurd ht (by decide)) (Sq (Rg (Md 2 [0,3,4] rfl (Nx (C1 rfl (fun ht => absurd ht (by decide)) (Sq (Rg (Md 2 [0,3,4] rfl (Nx (D2 rfl (fun ht => absurd ht (by decide)) (Sk (Nx (D2 rfl (fun ht => absurd ht (by decide)) (Sq (Rg (Md 1 [2] rfl (Nx (Re (Rb (Rt (Y1 rfl rfl ⟨_, rfl, rfl, Below.refl _ _⟩)))))))))))))))))))))))))))))))))))))))))))))))))))
end Go.Sx
namespace Go.Sx
open Go.RowKit Go.Proofs Js Go.Proofs.YtelonenjneonlaaGreatDoorW.PrintWords
theorem space_no (z : Int) (w : World) (h1 : 32 < z) (h2 : z < 128) :
    Calls Tryz.prog 147 #[.int .i32 z] w (Ret fun v w' => v = .bool false ∧ Below w.heap.size w w') := by
 refine enter (l := [.int .i32 z]) 24 Tryz.func147 rfl rfl (fun a hF => ?_)
 replace hF : Fr 25 [(0, .int .i32 z)] a := hF
 revert a; refine Sq (Rg (Md 1 [0] rfl (Nx (Sq (Sq (Rg (Md 1 [0,3] rfl (Nx (Bo (Sq (Sq (Rg (Md 2 [0,3,4] rfl (Nx (C1 rfl (fun ht => absurd (eq_of_beq ht) (by omega)) (Sq (Rg (Md 2 [0,3,4] rfl (Nx (C1 rfl (fun ht => absurd (eq_of_beq ht) (by omega)) (Sq (Rg (Md 2 [0,3,4] rfl (Nx (C1 rfl (fun ht => absurd (eq_of_beq ht) (by omega)) (Sq (Rg (Md 2 [0,3,4] rfl (Nx (C1 rfl (fun ht => absurd (eq_of_beq ht) (by omega)) (Sq (Rg (Md 2 [0,3,4] rfl (Nx (C1 rfl (fun ht => absurd (eq_of_beq ht) (by omega)) (Sq (Rg (Md 2 [0,3,4] rfl (Nx (C1 rfl (fun ht => absurd (eq_of_beq ht) (by omega)) (Sq (Rg (Md 2 [0,3,4] rfl (Nx (C1 rfl (fun ht => absurd (eq_of_beq ht) (by omega)) (Sq (Rg (Md 2 [0,3,4] rfl (Nx (C1 rfl (fun ht => absurd (eq_of_beq ht) (by omega)) (Sq (Rg (Md 2 [0,3,4] rfl (Nx (C1 rfl (fun ht => absurd (eq_of_beq ht) (by omega)) (Sq (Rg (Md 2 [0,3,4] rfl (Nx (C1 rfl (fun ht => absurd (eq_of_beq ht) (by omega)) (Sq (Rg (Md 2 [0,3,4] rfl (Nx (C1 rfl (fun ht => absurd (eq_of_beq ht) (by omega)) (Sq (Rg (Md 2 [0,3,4] rfl (Nx (C1 rfl (fun ht => absurd (eq_of_beq ht) (by omega)) (Sq (Rg (Md 2 [0,3,4] rfl (Nx (C1 rfl (fun ht => absurd (eq_of_beq ht) (by omega)) (Rg (Md 2 [0,4] rfl (Nx (C1 rfl (fun ht => absurd (eq_of_beq ht) (by omega)) (Sk (Nb (Nx (Sq ?_)))))))))))))))))))))))))))))))))))))))))))))))))))))))))))))))))))))))))))))))))))
 have hn : decide ((8192 : Int) ≤ z) = false := decide_eq_false (by omega)
 refine Rg (Mv 2 rfl ?_); intro a hF
 rw [hn] at hF
 revert a; exact Md 5 [2] rfl (Nx (Re (Y1 rfl rfl ⟨_, rfl, rfl, Below.refl _ _⟩)))
end Go.Sx
namespace Go.Sx
open Go.RowKit Go.Proofs Js Go.Proofs.YtelonenjneonlaaGreatDoorW.PrintWords
theorem space_blank (c : UInt8) (h : isBlank c = true) (w : World) : Calls Tryz.prog 147 #[.int .i32 (c.toNat : Int)] w (Ret fun v w' => v = .bool true ∧ Below w.heap.size w w') := by
  rcases blank_small h with h | h | h | h <;> rw [h]
  · exact space_yes9 w
  · exact space_yes10 w
  · exact space_yes13 w
  · exact space_yes32 w
theorem trimSpace_walk (w1 m w2 : Str) (w0 : World) (hT : (w1 ++ m ++ w2).length ≤ 2 ^ 40) (hb1 : Bl w1) (hb2 : Bl w2) (h0 : m = [] → w2 = []) (hm1 : ∀ c, m.head? = some c → Ink c) (hm2 : ∀ c, m.getLast? = some c → Ink c) :
    Calls Tryz.prog 110 #[.string (mkS (w1 ++ m ++ w2))] w0 (Ret fun v w' => v = .string (mkS m) ∧ Below w0.heap.size w0 w') := by
 have hM : Mem w0.heap.size w0 [] w0 := Mem.start (Nat.le_refl _)
 have hlm : (w1 ++ m ++ w2).length = w1.length + m.length + w2.length := by simp; omega
 refine enter (l := [.string (mkS (w1 ++ m ++ w2))]) 38 Tryz.func110 rfl rfl (fun a hF => ?_)
 replace hF : Fr 39 [(0, .string (mkS (w1 ++ m ++ w2)))] a := hF
 revert a; refine Sq (Rg (Md 1 [0] rfl (Nx ?_))); intro a hF
 refine cut (fun a w' => Fr 39 [(0, .string (mkS (m ++ w2)))] a ∧ Mem w0.heap.size w0 [] w') ?_ (fun a w h => ?_)
 ·
  revert a; refine Bo (Kp [0] rfl ?_); intro a hF
  refine loopX (fun (u : Str) a w' => Fr 39 [(0, .string (mkS (u ++ m ++ w2)))] a ∧ Bl u ∧ u.length ≤ w1.length ∧ Mem w0.heap.size w0 [] w') (fun u => u.length) (w1) ?_ (fun u a w hI => ?_)
  · exact ⟨hF, hb1, Nat.le_refl _, hM⟩
  clear hF hM
  obtain ⟨hF, hu, hul, hM⟩ := hI
  have hlu : (u ++ m ++ w2).length = u.length + m.length + w2.length := by simp; omega
  revert a; refine Sq (Sq (Rg (Md 3 [0,9] rfl (Nx (Ce rfl (fun ht => ?_) ((fun ht => ?_)))))))
  ·
   have hge := of_decide_eq_false ht
   have hu0 : u = [] := List.length_eq_zero_iff.1 (by omega)
   subst hu0
   refine Ex (Ot (Ot (Ob (Kp [0] rfl ?_)))); intro a hF
   exact ⟨hF, hM⟩
  have hlt := of_decide_eq_true ht
  obtain ⟨c, rest, hcr, hc, hcase⟩ := trim_head hu hm1 h0 (by omega)
  intro a hF
  rw [hcr] at hF
  revert a; refine Sk (Nx (Bo (Sq (Rg (Mv 1 rfl (Cm hM rfl Tryz.func146 (by kernel_rfl) rfl (firstRune_walk c rest w hc) ?_))))))
  clear hM; intro w v hR hM hBe
  obtain rfl := hR
  refine Md 5 [0,3,4] rfl (Nx (Sq (Sq ?_)))
  rcases hcase with ⟨hb, u', hu', hrest, huc⟩ | ⟨hn, hu0⟩
  ·
   refine Rg (Mv 1 rfl (Cm hM rfl Tryz.func147 (by kernel_rfl) rfl (space_blank c hb w) ?_))
   clear hM; intro w v hR hM hBe
   obtain rfl := hR
   refine Md 1 [0,4,17] rfl (Nx (Cf rfl (Sk (Nx (Rg (Mv 2 rfl ?_)))))); intro a hF
   refine op_sliceFrom_str hF rfl (1) rfl rfl rfl Tryz.underlying9 rfl rfl (by first | rfl | omega) (by simp) ?_; clear hF a; intro a hF
   revert a; refine Md 1 [0] rfl (Nb (Kp [0] rfl ?_)); intro a hF
   exact ⟨u', ⟨by rw [hrest] at hF; exact hF, hu', by rw [huc] at hul; simp at hul; omega, hM⟩, by rw [huc]; simp⟩
  refine Rg (Mv 1 rfl (Cm hM rfl Tryz.func147 (by kernel_rfl) rfl (space_no _ w (by omega) (by omega)) ?_))
  clear hM; intro w v hR hM hBe
  obtain rfl := hR
  refine Md 1 [0,4,17] rfl (Nx (Ce rfl (fun ht => ?_) ((fun ht => ?_))))
  · cases ht
  subst hu0
  intro a hF
  rw [← hcr] at hF
  revert a; refine Ex (Ot (Op' rfl (Ot (Ob (Kp [0] rfl ?_))))); intro a hF
  exact ⟨hF, hM⟩
 clear hF hM
 obtain ⟨hF, hM⟩ := h
 revert a; refine Sq (Bo (Kp [0] rfl ?_)); intro a hF
 refine loopX (fun (v : Str) a w' => Fr 39 [(0, .string (mkS (m ++ v)))] a ∧ Bl v ∧ v.length ≤ w2.length ∧ Mem w0.heap.size w0 [] w') (fun v => v.length) (w2) ?_ (fun v a w hI => ?_)
 · exact ⟨hF, hb2, Nat.le_refl _, hM⟩
 clear hF hM
 obtain ⟨hF, hv, hvl, hM⟩ := hI
 have hlv : (m ++ v).length = m.length + v.length := by simp
 revert a; refine Sq (Sq (Rg (Md 3 [0,23] rfl (Nx (Ce rfl (fun ht => ?_) ((fun ht => ?_)))))))
 ·
  have hge := of_decide_eq_false ht
  have hv0 : v = [] := List.length_eq_zero_iff.1 (by omega)
  have hm0 : m = [] := List.length_eq_zero_iff.1 (by omega)
  refine Ex (Ot (Ot (Ob (Nx (Sq (Rg (Md 2 [2] rfl (Nx (Re ?_))))))))); intro a hF
  rw [hv0, List.append_nil] at hF
  exact ret1 hF rfl rfl ⟨_, rfl, rfl, hM.below⟩
 have hlt := of_decide_eq_true ht
 obtain ⟨c, rest, hcr, hc, hcase⟩ := trim_last hv hm2 (by omega)
 intro a hF
 rw [hcr] at hF
 have hlr : (rest ++ [c]).length = rest.length + 1 := by simp
 have hlc : rest.length + 1 = (m ++ v).length := by rw [hcr, hlr]
 revert a; refine Sk (Nx (Bo (Sq (Rg (Mv 1 rfl (Cm hM rfl Tryz.func148 (by kernel_rfl) rfl (lastRune_walk c rest w (by omega) hc) ?_))))))
 clear hM; intro w v hR hM hBe
 obtain rfl := hR
 refine Md 5 [0,5,6] rfl (Nx (Sq (Sq ?_)))
 rcases hcase with ⟨hb, v', hv', hrest⟩ | ⟨hn, hv0⟩
 ·
  refine Rg (Mv 1 rfl (Cm hM rfl Tryz.func147 (by kernel_rfl) rfl (space_blank c hb w) ?_))
  clear hM; intro w v hR hM hBe
  obtain rfl := hR
  refine Md 1 [0,6,31] rfl (Nx (Cf rfl (Sk (Nx (Rg (Mv 4 rfl (Sm ((rest.length : Int)) rfl (by omega) ?_))))))); intro a hF
  refine op_sliceTo_str hF rfl (rest.length) rfl rfl rfl Tryz.underlying9 rfl rfl (by first | rfl | omega) (by simp) ?_; clear hF a; intro a hF
  revert a; refine Md 1 [0] rfl (Nb (Kp [0] rfl ?_))
  have hvv : (rest ++ [c]).take rest.length = rest := List.take_left
  intro a hF
  rw [hvv, hrest] at hF
  have hl2 := congrArg List.length hcr
  rw [hrest] at hl2
  simp at hl2
  exact ⟨v', ⟨hF, hv', by omega, hM⟩, by omega⟩
 refine Rg (Mv 1 rfl (Cm hM rfl Tryz.func147 (by kernel_rfl) rfl (space_no _ w (by omega) (by omega)) ?_))
 clear hM; intro w v hR hM hBe
 obtain rfl := hR
 refine Md 1 [0,6,31] rfl (Nx (Ce rfl (fun ht => ?_) ((fun ht => ?_))))
 · cases ht
 intro a hF
 rw [← hcr] at hF
 revert a; refine Ex (Ot (Op' rfl (Ot (Ob (Nx (Sq (Rg (Md 2 [2] rfl (Nx (Re ?_)))))))))); intro a hF
 rw [hv0, List.append_nil] at hF
 exact ret1 hF rfl rfl ⟨_, rfl, rfl, hM.below⟩
end Go.Sx
