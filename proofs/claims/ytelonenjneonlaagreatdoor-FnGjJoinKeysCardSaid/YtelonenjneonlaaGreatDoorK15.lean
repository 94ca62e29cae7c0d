/- Part 15 of the proof of FnGjJoinKeys: the statement Rows.FnGjJoinKeysCardSaid; no further condition. -/
import Derived.Test.YtelonenjneonlaaGreatDoorK14
set_option linter.all false
namespace Go.Sx
open Go.RowKit Go.Proofs Js Go.Proofs.YtelonenjneonlaaGreatDoorW.PrintWords
theorem number_walk (T t r : Str) (p : Nat) (w : World) (hT : T.length ≤ 2 ^ 40) (h : T.drop p = t ++ r) (h0 : t ≠ []) (ht : ∀ j c, 0 < j → t[j]? = some c → ¬ numEnd c) (hr : ∀ c, r.head? = some c → numEnd c) :
    Calls Tryz.prog 169 #[.string (mkS T), .int .i64 (p : Int)] w (Ret fun v w' => v = .tuple #[.int .i64 ((p + t.length : Nat) : Int), .string (mkS t)] ∧ Below w.heap.size w w') := by
 have hlen := seg_len h h0
 have hpos : 0 < t.length := List.length_pos_iff.2 h0
 have ht_ := ht
 refine enter (l := [.string (mkS T), .int .i64 (p : Int)]) 45 Tryz.func169 rfl rfl (fun a hF => ?_)
 replace hF : Fr 47 [(0, .string (mkS T)), (1, .int .i64 (p : Int))] a := hF
 revert a; refine Sq (Rg (Md 2 [0,1] rfl (Nx (Sq (Rg (Md 2 [0,1,6] rfl (Nx (Sq (Rg (Mv 1 rfl (Sm (((p + 1 : Nat) : Int)) rfl (by omega) (Md 1 [0,1,6] rfl (Nx (Sq (Bo (Kp [0,1,6] rfl ?_)))))))))))))))); intro a hF
 refine loopX (fun (i : Nat) a w' => Fr 47 [(0, .string (mkS T)), (1, .int .i64 (i : Int)), (6, .int .i64 (p : Int))] a ∧ p < i ∧ i ≤ p + t.length ∧ w = w') (fun i => T.length - i) (p + 1) ?_ (fun i a w' hI => ?_)
 · exact ⟨hF, by omega, by omega, rfl⟩
 clear hF
 obtain ⟨hF, hi1, hi2, hw⟩ := hI
 subst hw
 revert a; refine Sq (Sq (Rg (Md 4 [0,1,6,13] rfl (Nx (Ce rfl (fun ht => ?_) ((fun ht => ?_)))))))
 ·
  have hge := of_decide_eq_false ht
  have he : i = p + t.length := by omega
  subst he
  have hr0 := seg_end h h0 (by omega)
  subst hr0
  rw [List.append_nil] at h
  refine Ex (Ot (Ot (Ob (Nx (Sq ?_))))); intro a hF
  refine draw (by kernel_rfl) ?_
  refine take 0 hF rfl (by kernel_rfl) (by kernel_rfl) (by kernel_rfl) (fun _ _ _ h => h) rfl rfl rfl (gives_move hF rfl rfl) ?_; clear hF a; intro a hF
  refine take 1 hF rfl (by kernel_rfl) (by kernel_rfl) (by kernel_rfl) (fun _ _ _ h => h) rfl rfl rfl (gives_move hF rfl rfl) ?_; clear hF a; intro a hF
  refine take 2 hF rfl (by kernel_rfl) (by kernel_rfl) (by kernel_rfl) (fun _ _ _ h => h) rfl rfl rfl (gives_move hF rfl rfl) ?_; clear hF a; intro a hF
  refine take 3 hF rfl (by kernel_rfl) (by kernel_rfl) (by kernel_rfl) (fun _ _ _ h => h) rfl rfl rfl (gives_sliceFrom_str p hF rfl Tryz.underlying9 rfl rfl rfl (by omega)) ?_; clear hF a; intro a hF
  refine take 4 hF rfl (by kernel_rfl) (by kernel_rfl) (by kernel_rfl) (fun _ _ _ h => h) rfl rfl rfl (gives_assign hF rfl rfl) ?_; clear hF a; intro a hF
  refine take 5 hF rfl (by kernel_rfl) (by kernel_rfl) (by kernel_rfl) (fun _ _ _ h => h) rfl rfl rfl (gives_assign hF rfl rfl) ?_; clear hF a; intro a hF
  refine drawn (h0 := by kernel_rfl) ?_
  revert a; refine Kp [4,5] rfl (Nx (Re ?_)); intro a hF
  first
    | exact ret2 hF rfl rfl rfl ⟨_, rfl, by rw [Nat.add_sub_cancel_left, seg_take h], (Below.refl _ _).drew⟩
    | exact ret2 hF rfl rfl rfl ⟨_, rfl, by rw [h], (Below.refl _ _).drew⟩
 have hlt := of_decide_eq_true ht
 obtain ⟨c, hc⟩ : ∃ c, T[i]? = some c := ⟨_, List.getElem?_eq_getElem (by omega)⟩
 have key := seg_stop numEnd h ht_ hr hi1 hi2 hc
 refine Sk (Nx (Sq (Bo (Sq ?_))))
 rcases numEnd_cases c with hg | ⟨hg, h1⟩ | ⟨hg, h1, h2⟩ | ⟨hg, h1, h2, h3⟩ | ⟨hg, h1, h2, h3, h4⟩
 ·
  refine Rg (Mv 2 rfl ?_); intro a hF
  refine op_index_str hF rfl (i) c rfl rfl rfl Tryz.underlying9 rfl rfl (by first | rfl | omega) hc ?_; clear hF a; intro a hF
  revert a; refine Bv rfl rfl (decide_eq_true (show ((c.toNat : Int) ≤ 32) by omega)) (Md 18 [0,1,6,37] rfl (Nx (Ce rfl (fun ht => ?_) ((fun ht => ?_)))))
  · cases ht
  have he := key.1 (.inl hg)
  subst he
  refine Sq ?_; intro a hF
  refine draw (by kernel_rfl) ?_
  refine take 0 hF rfl (by kernel_rfl) (by kernel_rfl) (by kernel_rfl) (fun _ _ _ h => h) rfl rfl rfl (gives_move hF rfl rfl) ?_; clear hF a; intro a hF
  refine take 1 hF rfl (by kernel_rfl) (by kernel_rfl) (by kernel_rfl) (fun _ _ _ h => h) rfl rfl rfl (gives_move hF rfl rfl) ?_; clear hF a; intro a hF
  refine take 2 hF rfl (by kernel_rfl) (by kernel_rfl) (by kernel_rfl) (fun _ _ _ h => h) rfl rfl rfl (gives_move hF rfl rfl) ?_; clear hF a; intro a hF
  refine take 3 hF rfl (by kernel_rfl) (by kernel_rfl) (by kernel_rfl) (fun _ _ _ h => h) rfl rfl rfl (gives_move hF rfl rfl) ?_; clear hF a; intro a hF
  refine take 4 hF rfl (by kernel_rfl) (by kernel_rfl) (by kernel_rfl) (fun _ _ _ h => h) rfl rfl rfl (gives_slice_str p (p + t.length) hF rfl Tryz.underlying9 rfl rfl rfl rfl rfl (by omega) (by omega)) ?_; clear hF a; intro a hF
  refine take 5 hF rfl (by kernel_rfl) (by kernel_rfl) (by kernel_rfl) (fun _ _ _ h => h) rfl rfl rfl (gives_assign hF rfl rfl) ?_; clear hF a; intro a hF
  refine take 6 hF rfl (by kernel_rfl) (by kernel_rfl) (by kernel_rfl) (fun _ _ _ h => h) rfl rfl rfl (gives_assign hF rfl rfl) ?_; clear hF a; intro a hF
  refine drawn (h0 := by kernel_rfl) ?_
  revert a; refine Kp [4,5] rfl (Nx (Re (Rb (Rt (Rt (Rb (Rt ?_))))))); intro a hF
  first
    | exact ret2 hF rfl rfl rfl ⟨_, rfl, by rw [Nat.add_sub_cancel_left, seg_take h], (Below.refl _ _).drew⟩
    | exact ret2 hF rfl rfl rfl ⟨_, rfl, by rw [h], (Below.refl _ _).drew⟩
 ·
  refine Rg (Mv 2 rfl ?_); intro a hF
  refine op_index_str hF rfl (i) c rfl rfl rfl Tryz.underlying9 rfl rfl (by first | rfl | omega) hc ?_; clear hF a; intro a hF
  revert a; refine Bv rfl rfl (decide_eq_false (show ¬ ((c.toNat : Int) ≤ 32) by omega)) (Mv 3 rfl ?_); intro a hF
  refine guard_yes hF rfl rfl rfl rfl rfl rfl ?_
  refine op_index_str hF rfl (i) c rfl rfl rfl Tryz.underlying9 rfl rfl (by first | rfl | omega) hc ?_; clear hF a; intro a hF
  revert a; refine Bv rfl rfl (beq_t (d := 44) (z := 44) rfl h1) (Md 13 [0,1,6,37] rfl (Nx (Ce rfl (fun ht => ?_) ((fun ht => ?_)))))
  · cases ht
  have he := key.1 (.inr (.inl h1))
  subst he
  refine Sq ?_; intro a hF
  refine draw (by kernel_rfl) ?_
  refine take 0 hF rfl (by kernel_rfl) (by kernel_rfl) (by kernel_rfl) (fun _ _ _ h => h) rfl rfl rfl (gives_move hF rfl rfl) ?_; clear hF a; intro a hF
  refine take 1 hF rfl (by kernel_rfl) (by kernel_rfl) (by kernel_rfl) (fun _ _ _ h => h) rfl rfl rfl (gives_move hF rfl rfl) ?_; clear hF a; intro a hF
  refine take 2 hF rfl (by kernel_rfl) (by kernel_rfl) (by kernel_rfl) (fun _ _ _ h => h) rfl rfl rfl (gives_move hF rfl rfl) ?_; clear hF a; intro a hF
  refine take 3 hF rfl (by kernel_rfl) (by kernel_rfl) (by kernel_rfl) (fun _ _ _ h => h) rfl rfl rfl (gives_move hF rfl rfl) ?_; clear hF a; intro a hF
  refine take 4 hF rfl (by kernel_rfl) (by kernel_rfl) (by kernel_rfl) (fun _ _ _ h => h) rfl rfl rfl (gives_slice_str p (p + t.length) hF rfl Tryz.underlying9 rfl rfl rfl rfl rfl (by omega) (by omega)) ?_; clear hF a; intro a hF
  refine take 5 hF rfl (by kernel_rfl) (by kernel_rfl) (by kernel_rfl) (fun _ _ _ h => h) rfl rfl rfl (gives_assign hF rfl rfl) ?_; clear hF a; intro a hF
  refine take 6 hF rfl (by kernel_rfl) (by kernel_rfl) (by kernel_rfl) (fun _ _ _ h => h) rfl rfl rfl (gives_assign hF rfl rfl) ?_; clear hF a; intro a hF
  refine drawn (h0 := by kernel_rfl) ?_
  revert a; refine Kp [4,5] rfl (Nx (Re (Rb (Rt (Rt (Rb (Rt ?_))))))); intro a hF
  first
    | exact ret2 hF rfl rfl rfl ⟨_, rfl, by rw [Nat.add_sub_cancel_left, seg_take h], (Below.refl _ _).drew⟩
    | exact ret2 hF rfl rfl rfl ⟨_, rfl, by rw [h], (Below.refl _ _).drew⟩
 ·
  refine Rg (Mv 2 rfl ?_); intro a hF
  refine op_index_str hF rfl (i) c rfl rfl rfl Tryz.underlying9 rfl rfl (by first | rfl | omega) hc ?_; clear hF a; intro a hF
  revert a; refine Bv rfl rfl (decide_eq_false (show ¬ ((c.toNat : Int) ≤ 32) by omega)) (Mv 3 rfl ?_); intro a hF
  refine guard_yes hF rfl rfl rfl rfl rfl rfl ?_
  refine op_index_str hF rfl (i) c rfl rfl rfl Tryz.underlying9 rfl rfl (by first | rfl | omega) hc ?_; clear hF a; intro a hF
  revert a; refine Bv rfl rfl (beq_f (d := 44) (z := 44) rfl h1) (Mv 4 rfl ?_); intro a hF
  refine guard_yes hF rfl rfl rfl rfl rfl rfl ?_
  refine op_index_str hF rfl (i) c rfl rfl rfl Tryz.underlying9 rfl rfl (by first | rfl | omega) hc ?_; clear hF a; intro a hF
  revert a; refine Bv rfl rfl (beq_t (d := 93) (z := 93) rfl h2) (Md 7 [0,1,6,37] rfl (Nx (Ce rfl (fun ht => ?_) ((fun ht => ?_)))))
  · cases ht
  have he := key.1 (.inr (.inr (.inl h2)))
  subst he
  refine Sq ?_; intro a hF
  refine draw (by kernel_rfl) ?_
  refine take 0 hF rfl (by kernel_rfl) (by kernel_rfl) (by kernel_rfl) (fun _ _ _ h => h) rfl rfl rfl (gives_move hF rfl rfl) ?_; clear hF a; intro a hF
  refine take 1 hF rfl (by kernel_rfl) (by kernel_rfl) (by kernel_rfl) (fun _ _ _ h => h) rfl rfl rfl (gives_move hF rfl rfl) ?_; clear hF a; intro a hF
  refine take 2 hF rfl (by kernel_rfl) (by kernel_rfl) (by kernel_rfl) (fun _ _ _ h => h) rfl rfl rfl (gives_move hF rfl rfl) ?_; clear hF a; intro a hF
  refine take 3 hF rfl (by kernel_rfl) (by kernel_rfl) (by kernel_rfl) (fun _ _ _ h => h) rfl rfl rfl (gives_move hF rfl rfl) ?_; clear hF a; intro a hF
  refine take 4 hF rfl (by kernel_rfl) (by kernel_rfl) (by kernel_rfl) (fun _ _ _ h => h) rfl rfl rfl (gives_slice_str p (p + t.length) hF rfl Tryz.underlying9 rfl rfl rfl rfl rfl (by omega) (by omega)) ?_; clear hF a; intro a hF
  refine take 5 hF rfl (by kernel_rfl) (by kernel_rfl) (by kernel_rfl) (fun _ _ _ h => h) rfl rfl rfl (gives_assign hF rfl rfl) ?_; clear hF a; intro a hF
  refine take 6 hF rfl (by kernel_rfl) (by kernel_rfl) (by kernel_rfl) (fun _ _ _ h => h) rfl rfl rfl (gives_assign hF rfl rfl) ?_; clear hF a; intro a hF
  refine drawn (h0 := by kernel_rfl) ?_
  revert a; refine Kp [4,5] rfl (Nx (Re (Rb (Rt (Rt (Rb (Rt ?_))))))); intro a hF
  first
    | exact ret2 hF rfl rfl rfl ⟨_, rfl, by rw [Nat.add_sub_cancel_left, seg_take h], (Below.refl _ _).drew⟩
    | exact ret2 hF rfl rfl rfl ⟨_, rfl, by rw [h], (Below.refl _ _).drew⟩
 ·
  refine Rg (Mv 2 rfl ?_); intro a hF
  refine op_index_str hF rfl (i) c rfl rfl rfl Tryz.underlying9 rfl rfl (by first | rfl | omega) hc ?_; clear hF a; intro a hF
  revert a; refine Bv rfl rfl (decide_eq_false (show ¬ ((c.toNat : Int) ≤ 32) by omega)) (Mv 3 rfl ?_); intro a hF
  refine guard_yes hF rfl rfl rfl rfl rfl rfl ?_
  refine op_index_str hF rfl (i) c rfl rfl rfl Tryz.underlying9 rfl rfl (by first | rfl | omega) hc ?_; clear hF a; intro a hF
  revert a; refine Bv rfl rfl (beq_f (d := 44) (z := 44) rfl h1) (Mv 4 rfl ?_); intro a hF
  refine guard_yes hF rfl rfl rfl rfl rfl rfl ?_
  refine op_index_str hF rfl (i) c rfl rfl rfl Tryz.underlying9 rfl rfl (by first | rfl | omega) hc ?_; clear hF a; intro a hF
  revert a; refine Bv rfl rfl (beq_f (d := 93) (z := 93) rfl h2) (Mv 4 rfl ?_); intro a hF
  refine guard_yes hF rfl rfl rfl rfl rfl rfl ?_
  refine op_index_str hF rfl (i) c rfl rfl rfl Tryz.underlying9 rfl rfl (by first | rfl | omega) hc ?_; clear hF a; intro a hF
  revert a; refine Bv rfl rfl (beq_t (d := 125) (z := 125) rfl h3) (Md 1 [0,1,6,37] rfl (Nx (Ce rfl (fun ht => ?_) ((fun ht => ?_)))))
  · cases ht
  have he := key.1 (.inr (.inr (.inr h3)))
  subst he
  refine Sq ?_; intro a hF
  refine draw (by kernel_rfl) ?_
  refine take 0 hF rfl (by kernel_rfl) (by kernel_rfl) (by kernel_rfl) (fun _ _ _ h => h) rfl rfl rfl (gives_move hF rfl rfl) ?_; clear hF a; intro a hF
  refine take 1 hF rfl (by kernel_rfl) (by kernel_rfl) (by kernel_rfl) (fun _ _ _ h => h) rfl rfl rfl (gives_move hF rfl rfl) ?_; clear hF a; intro a hF
  refine take 2 hF rfl (by kernel_rfl) (by kernel_rfl) (by kernel_rfl) (fun _ _ _ h => h) rfl rfl rfl (gives_move hF rfl rfl) ?_; clear hF a; intro a hF
  refine take 3 hF rfl (by kernel_rfl) (by kernel_rfl) (by kernel_rfl) (fun _ _ _ h => h) rfl rfl rfl (gives_move hF rfl rfl) ?_; clear hF a; intro a hF
  refine take 4 hF rfl (by kernel_rfl) (by kernel_rfl) (by kernel_rfl) (fun _ _ _ h => h) rfl rfl rfl (gives_slice_str p (p + t.length) hF rfl Tryz.underlying9 rfl rfl rfl rfl rfl (by omega) (by omega)) ?_; clear hF a; intro a hF
  refine take 5 hF rfl (by kernel_rfl) (by kernel_rfl) (by kernel_rfl) (fun _ _ _ h => h) rfl rfl rfl (gives_assign hF rfl rfl) ?_; clear hF a; intro a hF
  refine take 6 hF rfl (by kernel_rfl) (by kernel_rfl) (by kernel_rfl) (fun _ _ _ h => h) rfl rfl rfl (gives_assign hF rfl rfl) ?_; clear hF a; intro a hF
  refine drawn (h0 := by kernel_rfl) ?_
  revert a; refine Kp [4,5] rfl (Nx (Re (Rb (Rt (Rt (Rb (Rt ?_))))))); intro a hF
  first
    | exact ret2 hF rfl rfl rfl ⟨_, rfl, by rw [Nat.add_sub_cancel_left, seg_take h], (Below.refl _ _).drew⟩
    | exact ret2 hF rfl rfl rfl ⟨_, rfl, by rw [h], (Below.refl _ _).drew⟩
 refine Rg (Mv 2 rfl ?_); intro a hF
 refine op_index_str hF rfl (i) c rfl rfl rfl Tryz.underlying9 rfl rfl (by first | rfl | omega) hc ?_; clear hF a; intro a hF
 revert a; refine Bv rfl rfl (decide_eq_false (show ¬ ((c.toNat : Int) ≤ 32) by omega)) (Mv 3 rfl ?_); intro a hF
 refine guard_yes hF rfl rfl rfl rfl rfl rfl ?_
 refine op_index_str hF rfl (i) c rfl rfl rfl Tryz.underlying9 rfl rfl (by first | rfl | omega) hc ?_; clear hF a; intro a hF
 revert a; refine Bv rfl rfl (beq_f (d := 44) (z := 44) rfl h1) (Mv 4 rfl ?_); intro a hF
 refine guard_yes hF rfl rfl rfl rfl rfl rfl ?_
 refine op_index_str hF rfl (i) c rfl rfl rfl Tryz.underlying9 rfl rfl (by first | rfl | omega) hc ?_; clear hF a; intro a hF
 revert a; refine Bv rfl rfl (beq_f (d := 93) (z := 93) rfl h2) (Mv 4 rfl ?_); intro a hF
 refine guard_yes hF rfl rfl rfl rfl rfl rfl ?_
 refine op_index_str hF rfl (i) c rfl rfl rfl Tryz.underlying9 rfl rfl (by first | rfl | omega) hc ?_; clear hF a; intro a hF
 revert a; refine Bv rfl rfl (beq_f (d := 125) (z := 125) rfl h3) (Md 1 [0,1,6,37] rfl (Nx (Cd rfl (fun ht => ?_) ((fun ht => ?_)))))
 · cases ht
 have hne : i ≠ p + t.length := fun he => h4 (key.2 he)
 refine Sk (Nb (Nx (Rg (Mv 1 rfl (Sm (((i + 1 : Nat) : Int)) rfl (by omega) (Md 1 [0,1,6] rfl ?_)))))); intro a hF
 exact ⟨_, ⟨hF, by omega, by omega, rfl⟩, by omega⟩
end Go.Sx
namespace Go.Sx
open Go.RowKit Go.Proofs Js Go.Proofs.YtelonenjneonlaaGreatDoorW.PrintWords
theorem string_walk (T s r : Str) (p : Nat) (w : World) (hT : T.length ≤ 2 ^ 40) (h : T.drop p = (34 :: s ++ [34]) ++ r) (hs : Quo s) :
    Calls Tryz.prog 139 #[.string (mkS T), .int .i64 ((p + 1 : Nat) : Int)] w (Ret fun v w' => (∃ e : Bool, v = .tuple #[.int .i64 ((p + s.length + 2 : Nat) : Int), .string (mkS (34 :: s ++ [34])), .bool e, .bool true] ∧ (e = false → ∀ c ∈ s, c ≠ 92)) ∧ Below w.heap.size w w') := by
 have hQ := Qt.mk' h hs
 generalize ha : p + 1 = s0 at hQ ⊢
 generalize hqq : s0 + s.length = q at hQ
 have hq := hQ.small
 have hpos := hQ.pos
 have hle := hQ.le
 have hres : (T.drop (s0 - 1)).take (q + 1 - (s0 - 1)) = 34 :: s ++ [34] := by
   rw [show s0 - 1 = p by omega, show q + 1 - p = (34 :: s ++ [34]).length by simp; omega]
   exact seg_take h
 have hnum : p + s.length + 2 = q + 1 := by omega
 refine enter (l := [.string (mkS T), .int .i64 (s0 : Int)]) 85 Tryz.func139 rfl rfl (fun a hF => ?_)
 replace hF : Fr 87 [(0, .string (mkS T)), (1, .int .i64 (s0 : Int))] a := hF
 revert a; refine Sq (Rg (Md 4 [0,1] rfl (Nx (Sq (Rg (Md 2 [0,1,8] rfl (Nx (Sq (Bo (Kp [0,1,8] rfl ?_)))))))))); intro a hF
 refine loopX (fun (i : Nat) a w' => Fr 87 [(0, .string (mkS T)), (1, .int .i64 (i : Int)), (8, .int .i64 (s0 : Int))] a ∧ s0 ≤ i ∧ i ≤ q ∧ (∀ x, s0 ≤ x → x < i → T[x]? ≠ some 92) ∧ w = w') (fun i => T.length - i) (s0) ?_ (fun i a w' hI => ?_)
 · exact ⟨hF, Nat.le_refl _, hle, fun x h1 h2 => by omega, rfl⟩
 clear hF
 obtain ⟨hF, hi1, hi2, hno, hw⟩ := hI
 subst hw
 obtain ⟨c, hc⟩ := hQ.get hi2
 revert a; refine Sq (Sq (Rg (Md 4 [0,1,8,15] rfl (Nx (D2 rfl (fun ht => absurd (of_decide_eq_false ht) (by omega)) (Sk (Nx (Sq (Bo (Sq (Sq (Rg (Mv 2 rfl ?_))))))))))))); intro a hF
 refine op_index_str hF rfl (i) c rfl rfl rfl Tryz.underlying9 rfl rfl (by first | rfl | omega) hc ?_; clear hF a; intro a hF
 revert a; refine Md 1 [0,1,8,21] rfl (Nx (C1 rfl (fun ht => ?_) ?_))
 ·
  have hgt := of_decide_eq_true ht
  have hn92 : c ≠ 92 := fun e => by rw [e] at hgt; exact absurd hgt (by decide)
  have hn34 : c ≠ 34 := fun e => by rw [e] at hgt; exact absurd hgt (by decide)
  have hst := hQ.step hi2 hc hn34
  have hno' : ∀ x, s0 ≤ x → x < i + 1 → T[x]? ≠ some 92 := by
    intro x h1 h2
    rcases Nat.lt_or_eq_of_le (Nat.le_of_lt_succ h2) with h3 | h3
    · exact hno x h1 h3
    · rw [h3, hc]; exact fun e => hn92 (Option.some.inj e)
  refine Ex (Ot (Ob (Nx (Rg (Mv 1 rfl (Sm (((i + 1 : Nat) : Int)) rfl (by omega) (Md 1 [0,1,8] rfl ?_))))))); intro a hF
  exact ⟨_, ⟨hF, by omega, hst, hno', rfl⟩, by omega⟩
 refine Sk (Nx (Sq (Sq (Rg (Mv 2 rfl ?_))))); intro a hF
 refine op_index_str hF rfl (i) c rfl rfl rfl Tryz.underlying9 rfl rfl (by first | rfl | omega) hc ?_; clear hF a; intro a hF
 revert a; refine Md 1 [0,1,8,25] rfl (Nx (Cd rfl (fun ht => ?_) ((fun ht => ?_))))
 ·
  have h34 : T[i]? = some 34 := by rw [hc, eq_t (d := 34) rfl ht]
  have hiq := hQ.evenEnd hi1 hi2 h34 (by rw [tr_none i hi1 hno (by omega)])
  subst hiq
  refine Sq ?_; intro a hF
  refine draw (by kernel_rfl) ?_
  refine take 0 hF rfl (by kernel_rfl) (by kernel_rfl) (by kernel_rfl) (fun _ _ _ h => h) rfl rfl rfl (gives_move hF rfl rfl) ?_; clear hF a; intro a hF
  refine take 1 hF rfl (by kernel_rfl) (by kernel_rfl) (by kernel_rfl) (fun _ _ _ h => h) rfl rfl rfl (gives_sum hF rfl rfl rfl (((i + 1 : Nat) : Int)) rfl (by omega) (wrap_i64 (by omega) (by omega))) ?_; clear hF a; intro a hF
  refine take 2 hF rfl (by kernel_rfl) (by kernel_rfl) (by kernel_rfl) (fun _ _ _ h => h) rfl rfl rfl (gives_move hF rfl rfl) ?_; clear hF a; intro a hF
  refine take 3 hF rfl (by kernel_rfl) (by kernel_rfl) (by kernel_rfl) (fun _ _ _ h => h) rfl rfl rfl (gives_move hF rfl rfl) ?_; clear hF a; intro a hF
  refine take 4 hF rfl (by kernel_rfl) (by kernel_rfl) (by kernel_rfl) (fun _ _ _ h => h) rfl rfl rfl (gives_sum hF rfl rfl rfl (((s0 - 1 : Nat) : Int)) rfl (by omega) (wrap_i64 (by omega) (by omega))) ?_; clear hF a; intro a hF
  refine take 5 hF rfl (by kernel_rfl) (by kernel_rfl) (by kernel_rfl) (fun _ _ _ h => h) rfl rfl rfl (gives_move hF rfl rfl) ?_; clear hF a; intro a hF
  refine take 6 hF rfl (by kernel_rfl) (by kernel_rfl) (by kernel_rfl) (fun _ _ _ h => h) rfl rfl rfl (gives_sum hF rfl rfl rfl (((i + 1 : Nat) : Int)) rfl (by omega) (wrap_i64 (by omega) (by omega))) ?_; clear hF a; intro a hF
  refine take 7 hF rfl (by kernel_rfl) (by kernel_rfl) (by kernel_rfl) (fun _ _ _ h => h) rfl rfl rfl (gives_slice_str (s0 - 1) (i + 1) hF rfl Tryz.underlying9 rfl rfl rfl rfl rfl (by omega) (by omega)) ?_; clear hF a; intro a hF
  refine take 8 hF rfl (by kernel_rfl) (by kernel_rfl) (by kernel_rfl) (fun _ _ _ h => h) rfl rfl rfl (gives_assign hF rfl rfl) ?_; clear hF a; intro a hF
  refine take 9 hF rfl (by kernel_rfl) (by kernel_rfl) (by kernel_rfl) (fun _ _ _ h => h) rfl rfl rfl (gives_assign hF rfl rfl) ?_; clear hF a; intro a hF
  refine take 10 hF rfl (by kernel_rfl) (by kernel_rfl) (by kernel_rfl) (fun _ _ _ h => h) rfl rfl rfl (gives_assign hF rfl rfl) ?_; clear hF a; intro a hF
  refine take 11 hF rfl (by kernel_rfl) (by kernel_rfl) (by kernel_rfl) (fun _ _ _ h => h) rfl rfl rfl (gives_assign hF rfl rfl) ?_; clear hF a; intro a hF
  refine drawn (h0 := by kernel_rfl) ?_
  revert a; refine Kp [4,5,6,7] rfl (Nx (Re (Rt (Rb (Rt (Rt (Rb (Rt ?_)))))))); intro a hF
  first
    | exact ret4 hF rfl rfl rfl rfl rfl ⟨_, rfl, ⟨false, by rw [hres, hnum], fun _ c hcs => noesc h ha hqq hno c hcs⟩, (Below.refl _ _).drew⟩
    | exact ret4 hF rfl rfl rfl rfl rfl ⟨_, rfl, ⟨true, by rw [hres, hnum], fun e => by cases e⟩, (Below.refl _ _).drew⟩
 have hn34 := eq_f (d := 34) rfl ht
 have hst := hQ.step hi2 hc hn34
 refine Sk (Nx (Sq (Rg (Mv 2 rfl ?_)))); intro a hF
 refine op_index_str hF rfl (i) c rfl rfl rfl Tryz.underlying9 rfl rfl (by first | rfl | omega) hc ?_; clear hF a; intro a hF
 revert a; refine Md 1 [0,1,8,37] rfl (Nx (Ce rfl (fun ht => ?_) ((fun ht => ?_))))
 ·
  have hn92 := eq_f (d := 92) rfl ht
  have hno' : ∀ x, s0 ≤ x → x < i + 1 → T[x]? ≠ some 92 := by
    intro x h1 h2
    rcases Nat.lt_or_eq_of_le (Nat.le_of_lt_succ h2) with h3 | h3
    · exact hno x h1 h3
    · rw [h3, hc]; exact fun e => hn92 (Option.some.inj e)
  refine Sk (Nb (Nx (Rg (Mv 1 rfl (Sm (((i + 1 : Nat) : Int)) rfl (by omega) (Md 1 [0,1,8] rfl ?_)))))); intro a hF
  exact ⟨_, ⟨hF, by omega, hst, hno', rfl⟩, by omega⟩
 have h92 : T[i]? = some 92 := by rw [hc, eq_t (d := 92) rfl ht]
 refine Sq (Rg (Mv 1 rfl (Sm (((i + 1 : Nat) : Int)) rfl (by omega) (Md 1 [0,1,8] rfl (Nx (Sq (Bo (Kp [0,1,8] rfl ?_)))))))); intro a hF
 refine loopX (fun (y : Nat) a w' => Fr 87 [(0, .string (mkS T)), (1, .int .i64 (y : Int)), (8, .int .i64 (s0 : Int))] a ∧ i < y ∧ y ≤ q ∧ w = w') (fun y => T.length - y) (i + 1) ?_ (fun y a w' hI => ?_)
 · exact ⟨hF, Nat.lt_succ_self _, hst, rfl⟩
 clear hF
 clear hc
 obtain ⟨hF, hy1, hy2, hw⟩ := hI
 subst hw
 obtain ⟨c, hc⟩ := hQ.get hy2
 revert a; refine Sq (Sq (Rg (Md 4 [0,1,8,43] rfl (Nx (D2 rfl (fun ht => absurd (of_decide_eq_false ht) (by omega)) (Sk (Nx (Sq (Bo (Sq (Sq (Rg (Mv 2 rfl ?_))))))))))))); intro a hF
 refine op_index_str hF rfl (y) c rfl rfl rfl Tryz.underlying9 rfl rfl (by first | rfl | omega) hc ?_; clear hF a; intro a hF
 revert a; refine Md 1 [0,1,8,49] rfl (Nx (C1 rfl (fun ht => ?_) ?_))
 ·
  have hgt := of_decide_eq_true ht
  have hst' := hQ.step hy2 hc (fun e => by rw [e] at hgt; exact absurd hgt (by decide))
  refine Ex (Ot (Ob (Nx (Rg (Mv 1 rfl (Sm (((y + 1 : Nat) : Int)) rfl (by omega) (Md 1 [0,1,8] rfl ?_))))))); intro a hF
  exact ⟨_, ⟨hF, by omega, hst', rfl⟩, by omega⟩
 refine Sk (Nx (Sq (Rg (Mv 2 rfl ?_)))); intro a hF
 refine op_index_str hF rfl (y) c rfl rfl rfl Tryz.underlying9 rfl rfl (by first | rfl | omega) hc ?_; clear hF a; intro a hF
 revert a; refine Md 1 [0,1,8,53] rfl (Nx (Ce rfl (fun ht => ?_) ((fun ht => ?_))))
 ·
  have hst' := hQ.step hy2 hc (eq_f (d := 34) rfl ht)
  refine Sk (Nb (Nx (Rg (Mv 1 rfl (Sm (((y + 1 : Nat) : Int)) rfl (by omega) (Md 1 [0,1,8] rfl ?_)))))); intro a hF
  exact ⟨_, ⟨hF, by omega, hst', rfl⟩, by omega⟩
 have h34 : T[y]? = some 34 := by rw [hc, eq_t (d := 34) rfl ht]
 obtain ⟨b, hb⟩ := hQ.get (p := y - 1) (by omega)
 intro a hF
 refine cutF (fun a w' => Fr 87 [(0, .string (mkS T)), (1, .int .i64 (y : Int)), (8, .int .i64 (s0 : Int))] a ∧ y = q ∧ w = w') (fun a w' h => ?_) ?_
 ·
  clear hF
  obtain ⟨hF, hyq, hw⟩ := h
  subst hw
  subst hyq
  refine seq ?_
  refine draw (by kernel_rfl) ?_
  refine take 0 hF rfl (by kernel_rfl) (by kernel_rfl) (by kernel_rfl) (fun _ _ _ h => h) rfl rfl rfl (gives_move hF rfl rfl) ?_; clear hF a; intro a hF
  refine take 1 hF rfl (by kernel_rfl) (by kernel_rfl) (by kernel_rfl) (fun _ _ _ h => h) rfl rfl rfl (gives_sum hF rfl rfl rfl (((y + 1 : Nat) : Int)) rfl (by omega) (wrap_i64 (by omega) (by omega))) ?_; clear hF a; intro a hF
  refine take 2 hF rfl (by kernel_rfl) (by kernel_rfl) (by kernel_rfl) (fun _ _ _ h => h) rfl rfl rfl (gives_move hF rfl rfl) ?_; clear hF a; intro a hF
  refine take 3 hF rfl (by kernel_rfl) (by kernel_rfl) (by kernel_rfl) (fun _ _ _ h => h) rfl rfl rfl (gives_move hF rfl rfl) ?_; clear hF a; intro a hF
  refine take 4 hF rfl (by kernel_rfl) (by kernel_rfl) (by kernel_rfl) (fun _ _ _ h => h) rfl rfl rfl (gives_sum hF rfl rfl rfl (((s0 - 1 : Nat) : Int)) rfl (by omega) (wrap_i64 (by omega) (by omega))) ?_; clear hF a; intro a hF
  refine take 5 hF rfl (by kernel_rfl) (by kernel_rfl) (by kernel_rfl) (fun _ _ _ h => h) rfl rfl rfl (gives_move hF rfl rfl) ?_; clear hF a; intro a hF
  refine take 6 hF rfl (by kernel_rfl) (by kernel_rfl) (by kernel_rfl) (fun _ _ _ h => h) rfl rfl rfl (gives_sum hF rfl rfl rfl (((y + 1 : Nat) : Int)) rfl (by omega) (wrap_i64 (by omega) (by omega))) ?_; clear hF a; intro a hF
  refine take 7 hF rfl (by kernel_rfl) (by kernel_rfl) (by kernel_rfl) (fun _ _ _ h => h) rfl rfl rfl (gives_slice_str (s0 - 1) (y + 1) hF rfl Tryz.underlying9 rfl rfl rfl rfl rfl (by omega) (by omega)) ?_; clear hF a; intro a hF
  refine take 8 hF rfl (by kernel_rfl) (by kernel_rfl) (by kernel_rfl) (fun _ _ _ h => h) rfl rfl rfl (gives_assign hF rfl rfl) ?_; clear hF a; intro a hF
  refine take 9 hF rfl (by kernel_rfl) (by kernel_rfl) (by kernel_rfl) (fun _ _ _ h => h) rfl rfl rfl (gives_assign hF rfl rfl) ?_; clear hF a; intro a hF
  refine take 10 hF rfl (by kernel_rfl) (by kernel_rfl) (by kernel_rfl) (fun _ _ _ h => h) rfl rfl rfl (gives_assign hF rfl rfl) ?_; clear hF a; intro a hF
  refine take 11 hF rfl (by kernel_rfl) (by kernel_rfl) (by kernel_rfl) (fun _ _ _ h => h) rfl rfl rfl (gives_assign hF rfl rfl) ?_; clear hF a; intro a hF
  refine drawn (h0 := by kernel_rfl) ?_
  revert a; refine Kp [4,5,6,7] rfl (Nx (Re (Rb (Rt (Rt (Rb (Rt (Rb (Rt (Rt (Rb (Rt ?_)))))))))))); intro a hF
  first
    | exact ret4 hF rfl rfl rfl rfl rfl ⟨_, rfl, ⟨false, by rw [hres, hnum], fun _ c hcs => noesc h ha hqq hno c hcs⟩, (Below.refl _ _).drew⟩
    | exact ret4 hF rfl rfl rfl rfl rfl ⟨_, rfl, ⟨true, by rw [hres, hnum], fun e => by cases e⟩, (Below.refl _ _).drew⟩
 revert a; refine Sq (Rg (Mv 2 rfl (Sm (((y - 1 : Nat) : Int)) rfl (by omega) ?_))); intro a hF
 refine op_index_str hF rfl (y - 1) b rfl rfl rfl Tryz.underlying9 rfl rfl (by first | rfl | omega) hb ?_; clear hF a; intro a hF
 revert a; refine Md 1 [0,1,8,58] rfl (Nx (Ce rfl (fun ht => ?_) ((fun ht => ?_))))
 ·
  have hyq := hQ.bare (by omega) hy2 h34 hb (eq_f (d := 92) rfl ht)
  refine Sk (Kp [0,1,8] rfl ?_); intro a hF
  exact ⟨hF, hyq, rfl⟩
 have hb92 : T[y - 1]? = some 92 := by rw [hb, eq_t (d := 92) rfl ht]
 refine Sq (Rg (Md 1 [0,1,8,9] rfl (Nx ?_))); intro a hF
 refine cutF (fun a w' => ∃ m : Nat, Fr 87 [(0, .string (mkS T)), (1, .int .i64 (y : Int)), (8, .int .i64 (s0 : Int)), (9, .int .i64 (m : Int))] a ∧ tr T s0 y = m + 1 ∧ w = w') (fun a w' h => ?_) ?_
 ·
  clear hF
  obtain ⟨m, hF, htr, hw⟩ := h
  subst hw
  revert a; refine Sq (Rg (Mv 1 rfl ?_)); intro a hF
  refine op_rem hF rfl ((m % 2 : Nat) : Int) rfl rfl rfl rfl rfl (by omega) (by decide) (by omega) ?_; clear hF a; intro a hF
  revert a; refine Md 1 [0,1,8,73] rfl (Nx (Ce rfl (fun ht => ?_) ((fun ht => ?_))))
  ·
   have h0 : m % 2 = 1 := by have := ht; simp at this; omega
   have hyq := hQ.evenEnd (p := y) (by omega) hy2 h34 (by omega)
   refine Sk (Kp [0,1,8] rfl ?_); intro a hF
   exact ⟨hF, hyq, rfl⟩
  have h0 : m % 2 = 0 := by have := ht; simp at this; omega
  have hst' := hQ.oddGo (p := y) hy2 (by omega)
  refine Ex (Ot (Ob (Nx (Rg (Mv 1 rfl (Sm (((y + 1 : Nat) : Int)) rfl (by omega) (Md 1 [0,1,8] rfl ?_))))))); intro a hF
  exact ⟨_, ⟨hF, by omega, hst', rfl⟩, by omega⟩
 revert a; refine Sq (Rg (Mv 1 rfl (Sm ((y : Int) - 2 - ((0 : Nat) : Int)) rfl (by omega) (Md 1 [0,1,8,9,10] rfl (Nx (Bo (Kp [0,1,8,9,10] rfl ?_))))))); intro a hF
 refine loopX (fun (m : Nat) a w' => Fr 87 [(0, .string (mkS T)), (1, .int .i64 (y : Int)), (8, .int .i64 (s0 : Int)), (9, .int .i64 (m : Int)), (10, .int .i64 ((y : Int) - 2 - (m : Int)))] a ∧ (∀ x, x < m + 1 → T[y - 1 - x]? = some 92) ∧ s0 + (m + 1) ≤ y ∧ w = w') (fun m => y - m) (0) ?_ (fun m a w' hI => ?_)
 · exact ⟨hF, fun x h => by rw [show x = 0 by omega]; exact hb92, hQ.run (m := 1) (by omega) (fun x h => by rw [show x = 0 by omega]; exact hb92) (by omega), rfl⟩
 clear hF
 obtain ⟨hF, hrun, hm, hw⟩ := hI
 subst hw
 revert a; refine Sq (Sq (Rg (Md 2 [0,1,8,9,10,62] rfl (Nx (Ce rfl (fun ht => ?_) ((fun ht => ?_)))))))
 ·
  have hge := of_decide_eq_false ht
  have htr : tr T s0 y = m + 1 := by rw [tr_run (m + 1) y (by omega) hrun, show y - (m + 1) = s0 by omega, tr_self, Nat.zero_add]
  refine Ex (Ot (Ot (Ob (Kp [0,1,8,9] rfl ?_)))); intro a hF
  exact ⟨m, hF, htr, rfl⟩
 have hlt := of_decide_eq_true ht
 obtain ⟨e, he⟩ := hQ.get (p := y - 2 - m) (by omega)
 refine Sk (Nx (Sq (Bo (Sq (Sq (Rg (Mv 2 rfl ?_))))))); intro a hF
 refine op_index_str hF rfl (y - 2 - m) e rfl rfl rfl Tryz.underlying9 rfl rfl (by first | rfl | omega) he ?_; clear hF a; intro a hF
 revert a; refine Md 1 [0,1,8,9,10,68] rfl (Nx (Cd rfl (fun ht => ?_) ((fun ht => ?_))))
 ·
  have htr : tr T s0 y = m + 1 := by
    rw [tr_run (m + 1) y (by omega) hrun]
    rcases Nat.lt_or_eq_of_le (show s0 ≤ y - (m + 1) by omega) with h5 | h5
    · rw [tr_stop (c := e) h5 (by rw [show y - (m + 1) - 1 = y - 2 - m by omega]; exact he) (ne_t (d := 92) rfl ht), Nat.zero_add]
    · rw [← h5, tr_self, Nat.zero_add]
  refine Ex (Ot (Op' rfl (Ot (Ot (Ob (Kp [0,1,8,9] rfl ?_)))))); intro a hF
  exact ⟨m, hF, htr, rfl⟩
 have hrun' : ∀ x, x < m + 1 + 1 → T[y - 1 - x]? = some 92 := by
   intro x hx
   rcases Nat.lt_or_eq_of_le (Nat.le_of_lt_succ hx) with h | h
   · exact hrun x h
   · rw [h, show y - 1 - (m + 1) = y - 2 - m by omega, he, ne_f (d := 92) rfl ht]
 have hm' := hQ.run (m := m + 1 + 1) (p := y) (by omega) hrun' (by omega)
 refine Sk (Nx (Rg (Mv 1 rfl (Sm (((m + 1 : Nat) : Int)) rfl (by omega) (Md 1 [0,1,8,9,10] rfl (Nb (Nx (Rg (Mv 1 rfl (Sm ((y : Int) - 2 - ((m + 1 : Nat) : Int)) rfl (by omega) (Md 1 [0,1,8,9,10] rfl ?_))))))))))); intro a hF
 exact ⟨_, ⟨hF, hrun', hm', rfl⟩, by omega⟩
end Go.Sx
namespace Go.Sx
open Go.RowKit Go.Proofs Js Go.Proofs.YtelonenjneonlaaGreatDoorW.PrintWords
theorem lower_walk (c : UInt8) (w : World) : Calls Tryz.prog 128 #[.int .u8 (c.toNat : Int)] w (Ret fun v w' => v = .int .u8 ((c.toNat ||| 32 : Nat) : Int) ∧ Below w.heap.size w w') := by
 refine enter (l := [.int .u8 (c.toNat : Int)]) 4 Tryz.func128 rfl rfl (fun a hF => ?_)
 replace hF : Fr 5 [(0, .int .u8 (c.toNat : Int))] a := hF
 revert a; refine Sq (Rg (Md 1 [0] rfl (Nx (Sq (Rg (Mv 1 rfl ?_)))))); intro a hF
 refine op_bits hF rfl _ rfl rfl rfl rfl rfl (or_u8 (p := c.toNat) (q := 32) c.toNat_lt (by decide)) ?_; clear hF a; intro a hF
 revert a; exact Md 1 [2] rfl (Nx (Re (Y1 rfl rfl ⟨_, rfl, rfl, Below.refl _ _⟩)))
end Go.Sx
namespace Go.Sx
open Go.RowKit Go.Proofs Js Go.Proofs.YtelonenjneonlaaGreatDoorW.PrintWords
theorem parseHex_walk (s : Str) (w0 : World) (hl : s.length = 4) (hs : ∀ c ∈ s, IsHex c) :
    Calls Tryz.prog 86 #[.string (mkS s), .int .i64 16, .int .i64 64] w0 (Ret fun v w' => v = .tuple #[.int .u64 (hexN s : Int), .nilIface] ∧ Below w0.heap.size w0 w') := by
 have hM : Mem w0.heap.size w0 [] w0 := Mem.start (Nat.le_refl _)
 have hlt16 : ∀ i, i ≤ 4 → hexN (s.take i) < 65536 := fun i hi => by
   have h1 := hexN_lt (s.take i) (fun c hc => hs c (List.mem_of_mem_take hc))
   rw [List.length_take, Nat.min_eq_left (by omega)] at h1
   exact Nat.lt_of_lt_of_le h1 (by rw [show 65536 = 16 ^ 4 from rfl]; exact Nat.pow_le_pow_right (by decide) hi)
 refine enter (l := [.string (mkS s), .int .i64 16, .int .i64 64]) 169 Tryz.func86 rfl rfl (fun a hF => ?_)
 replace hF : Fr 172 [(0, .string (mkS s)), (1, .int .i64 16), (2, .int .i64 64)] a := hF
 revert a; refine Sq (Rg (Md 2 [0,1,2] rfl (Nx (Sq (Sq (Rg (Mv 1 rfl ?_))))))); intro a hF
 refine op_eqStr hF rfl false rfl rfl rfl rfl rfl (by cases s with | nil => simp at hl | cons c t => rfl) ?_; clear hF a; intro a hF
 revert a; refine Md 0 [0,1,2,19] rfl (Nx (C1 rfl (fun ht => absurd ht (by decide)) (Sk (Nx (Sq (Rg (Md 3 [0,1,2,8] rfl (Nx (Sq (Rg (Md 2 [0,1,2,8,9] rfl (Nx (Sq (Bo (Sq (Rg (Md 7 [0,1,2,8,9,25] rfl (Nx (D2 rfl (fun ht => absurd ht (by decide)) (Sk (Nb (Nx (Sq (Sq (Rg (Md 2 [0,1,2,8,9,77] rfl (Nx (C1 rfl (fun ht => absurd ht (by decide)) (Sq (Rg (Md 6 [0,1,2,8,9,83] rfl (Nx (C1 rfl (fun ht => absurd ht (by decide)) (Sk (Nx (Sq (Rg (Md 1 [0,1,2,8,9] rfl (Nx (Sq (Sq (Rg (Md 1 [0,1,2,8,9,85] rfl (Nx (Bo (Sq (Rg (Md 2 [0,1,2,8,9,85,90] rfl (Nx (C1 rfl (fun ht => absurd ht (by decide)) (Sq (Rg (Md 2 [0,1,2,8,9,92] rfl (Nx (D2 rfl (fun ht => absurd ht (by decide)) (Rg (Md 1 [0,1,2,8,9,10] rfl (Nb (Nx (Sq (Rg (Mv 1 rfl ?_)))))))))))))))))))))))))))))))))))))))))))))))))))))))))))))); intro a hF
 refine op_conv_to hF rfl rfl rfl rfl Tryz.underlying3 Tryz.underlying157 rfl (by decide) ?_; clear hF a; intro a hF
 refine op_shl hF rfl 64 0 rfl rfl rfl rfl rfl rfl (by decide) ?_; clear hF a; intro a hF
 refine op_bin hF rfl (v := .int .u64 18446744073709551615) rfl rfl rfl rfl rfl rfl ?_; clear hF a; intro a hF
 revert a; refine Md 1 [0,1,8,9,10,11] rfl (Nx (Sq (Rg (Md 1 [0,1,8,9,10,11,12] rfl (Nx (Sq (Rg (Md 1 [0,1,8,9,10,11,12,13] rfl (Nx (Sq (Sq (Rg (Mv 1 rfl ?_))))))))))))); intro a hF
 refine op_strBytes hF hM rfl rfl rfl rfl rfl rfl ?_; clear hF hM a; intro a w b cap hF hM hb hrow
 revert a; refine Md 2 [1,8,9,10,11,12,13,99,100,101] rfl (Nx (Bo (Kp [1,8,9,10,11,12,13,99,100,101] rfl ?_))); intro a hF
 refine loopX (fun (i : Nat) a w => Fr 172 [(1, .int .i64 16), (8, .bool false), (9, .string (mkS s)), (10, .int .u64 1152921504606846976), (11, .int .u64 18446744073709551615), (12, .bool false), (13, .int .u64 (hexN (s.take i) : Int)), (99, .slice (some ⟨b, 0, none⟩) s.length cap), (100, .int .i64 (s.length : Int)), (101, .int .i64 (i : Int))] a ∧ i ≤ 4 ∧ Mem w0.heap.size w0 [] w ∧ b < w.heap.size ∧ (∀ j u, s[j]? = some u → w.cell? ⟨b, j, none⟩ = some (.int .u8 (u.toNat : Int)))) (fun i => 4 - i) (0) ?_ (fun i a w hI => ?_)
 · exact ⟨hF, by omega, hM, hb, hrow⟩
 clear hF hM
 clear hb hrow
 obtain ⟨hF, hi, hM, hb, hrow⟩ := hI
 revert a; refine Sq (Rg (Md 1 [1,8,9,10,11,12,13,99,100,101,102] rfl (Nx (Sq (Ce rfl (fun ht => ?_) ((fun ht => ?_)))))))
 ·
  have hge := of_decide_eq_false ht
  have hi4 : s.take i = s := List.take_of_length_le (by omega)
  refine Ex (Ot (Ot (Ob (Nx (Sq (Sq ?_))))))
  skip
  refine Rg (Md 6 [13,169] rfl (Nx (Cf rfl (Sk (Nx (Sq (Rg (Md 3 [6,7] rfl (Nx (Re ?_)))))))))); intro a hF
  rw [hi4] at hF
  exact ret2 hF rfl rfl rfl ⟨_, rfl, rfl, hM.below⟩
 have hlt := of_decide_eq_true ht
 obtain ⟨c, hc⟩ : ∃ c, s[i]? = some c := ⟨_, List.getElem?_eq_getElem (by omega)⟩
 have hx := hs c (List.mem_of_getElem? hc)
 have hv16 := hv_lt hx
 have hn16 := hlt16 i (by omega)
 have hnext : ((hexN (s.take i) * 16 + hv c : Nat) : Int) = (hexN (s.take (i + 1)) : Int) := by rw [List.take_add_one, hc, Option.toList_some, hexN_snoc]
 refine Sk (Nx (Sq (Bo (Sq (Rg ?_))))); intro a hF
 refine op_indexAddr_sl hF rfl i rfl rfl rfl Tryz.underlying66 (by kernel_rfl) rfl rfl rfl (by omega) ?_; clear hF a; intro a hF
 refine op_load1 hF rfl rfl rfl rfl Tryz.underlying5 rfl rfl (by rw [Nat.zero_add]; exact hrow i c hc) ?_; clear hF a; intro a hF
 revert a; refine Md 1 [1,8,9,10,11,12,13,15,99,100,101] rfl (Nx (Sq (Rg (Md 1 [1,8,9,10,11,12,13,15,99,100,101] rfl (Nx ?_))))); intro a hF
 refine cutF (fun a w => Fr 172 [(1, .int .i64 16), (8, .bool false), (9, .string (mkS s)), (10, .int .u64 1152921504606846976), (11, .int .u64 18446744073709551615), (12, .bool false), (13, .int .u64 (hexN (s.take i) : Int)), (16, .int .u8 (hv c : Int)), (99, .slice (some ⟨b, 0, none⟩) s.length cap), (100, .int .i64 (s.length : Int)), (101, .int .i64 (i : Int))] a ∧ Mem w0.heap.size w0 [] w ∧ b < w.heap.size ∧ (∀ j u, s[j]? = some u → w.cell? ⟨b, j, none⟩ = some (.int .u8 (u.toNat : Int)))) (fun a w h => ?_) ?_
 ·
  clear hF hM
  clear hb hrow
  obtain ⟨hF, hM, hb, hrow⟩ := h
  revert a; refine Sq (Sq (Rg (Mv 2 rfl ?_))); intro a hF
  refine op_conv_to hF rfl rfl rfl rfl Tryz.underlying3 Tryz.underlying5 rfl (by decide) ?_; clear hF a; intro a hF
  revert a; refine Md 1 [1,8,9,10,11,12,13,16,99,100,101,137] rfl (Nx (C1 rfl (fun ht => absurd (of_decide_eq_true ht) (by omega)) (Sk (Nx (Sq (Sq (Rg (Md 3 [1,8,9,10,11,12,13,16,99,100,101,141] rfl (Nx (C1 rfl (fun ht => absurd (of_decide_eq_true ht) (by omega)) (Sk (Nx (Sq (Rg (Mv 2 rfl ?_))))))))))))))); intro a hF
  refine op_conv_to hF rfl rfl rfl rfl Tryz.underlying3 Tryz.underlying54 rfl (by decide) ?_; clear hF a; intro a hF
  refine op_sum hF rfl (((hexN (s.take i) * 16 : Nat) : Int)) rfl rfl rfl rfl rfl rfl (by omega) (IntWalk.u64_in _ ⟨by omega, by omega⟩) ?_; clear hF a; intro a hF
  revert a; refine Md 1 [1,8,9,10,11,12,13,16,99,100,101] rfl (Nx (Sq (Rg (Mv 2 rfl ?_)))); intro a hF
  refine op_conv_to hF rfl rfl rfl rfl Tryz.underlying5 Tryz.underlying54 rfl (IntWalk.u64_in _ ⟨by omega, by omega⟩) ?_; clear hF a; intro a hF
  refine op_sum hF rfl (((hexN (s.take i) * 16 + hv c : Nat) : Int)) rfl rfl rfl rfl rfl rfl (by omega) (IntWalk.u64_in _ ⟨by omega, by omega⟩) ?_; clear hF a; intro a hF
  revert a; refine Md 1 [1,8,9,10,11,12,13,17,99,100,101] rfl (Nx (Sq (Sq ?_)))
  skip
  refine Rg (Mv 2 rfl (Bv rfl rfl (decide_eq_false (show ¬ (((hexN (s.take i) * 16 + hv c : Nat) : Int) < ((hexN (s.take i) * 16 : Nat) : Int)) by omega)) (Md 5 [1,8,9,10,11,12,17,99,100,101,159] rfl (Nx (C1 rfl (fun ht => absurd (of_decide_eq_true ht) (by omega)) (Sk (Nx (Rg (Md 2 [1,8,9,10,11,12,13,99,100,101] rfl (Nb (Nx (Rg (Sm (((i + 1 : Nat) : Int)) rfl (by omega) (Md 1 [1,8,9,10,11,12,13,99,100,101] rfl ?_)))))))))))))); intro a hF
  rw [hnext] at hF
  exact ⟨i + 1, ⟨hF, by omega, hM, hb, hrow⟩, by omega⟩
 revert a; refine Bo (Sq ?_)
 skip
 refine Rg (Mv 1 rfl (Bv rfl rfl (beq_f (d := 95) (z := 95) rfl (fun h => by rw [h] at hx; exact absurd hx (by unfold IsHex; decide))) (Md 4 [1,8,9,10,11,12,13,15,99,100,101,106] rfl (Nx (Cf rfl (Sq ?_))))))
 rcases hex_cases hx with ⟨hd1, hd2, hd3⟩ | ⟨hd0, hd1, hd2, hd4, hd3⟩
 ·
  refine Rg (Mv 1 rfl (Bv rfl rfl (decide_eq_true (show ((48 : Int) ≤ (c.toNat : Int)) by omega)) (Mv 2 rfl (Bv rfl rfl (decide_eq_true (show ((c.toNat : Int) ≤ 57) by omega)) (Md 2 [1,8,9,10,11,12,13,15,99,100,101,112] rfl (Nx (Ct rfl (Rg (Mv 1 rfl ?_))))))))); intro a hF
  refine op_sum hF rfl ((hv c : Int)) rfl rfl rfl rfl rfl rfl (by omega) (IntWalk.u8_in _ ⟨by omega, by omega⟩) ?_; clear hF a; intro a hF
  revert a; refine Md 1 [1,8,9,10,11,12,13,16,99,100,101] rfl (Nb (Kp [1,8,9,10,11,12,13,16,99,100,101] rfl ?_)); intro a hF
  exact ⟨hF, hM, hb, hrow⟩
 refine Rg (Mv 1 rfl (Bv rfl rfl (decide_eq_true (show ((48 : Int) ≤ (c.toNat : Int)) by omega)) (Mv 2 rfl (Bv rfl rfl (decide_eq_false (show ¬ ((c.toNat : Int) ≤ 57) by omega)) (Md 2 [1,8,9,10,11,12,13,15,99,100,101,112] rfl (Nx (Cf rfl (Sq (Rg (Mv 1 rfl (Cm hM rfl Tryz.func128 (by kernel_rfl) rfl (lower_walk c w) ?_)))))))))))
 clear hM; intro w v hR hM hBe
 obtain rfl := hR
 intro a hF
 replace hrow := row_keep hrow hb hBe
 replace hb := Nat.lt_of_lt_of_le hb hBe.size
 revert a; refine Bv rfl rfl (decide_eq_true (show ((97 : Int) ≤ ((c.toNat ||| 32 : Nat) : Int)) by omega)) (Mv 2 rfl (Cm hM rfl Tryz.func128 (by kernel_rfl) rfl (lower_walk c w) ?_))
 clear hM; intro w v hR hM hBe
 obtain rfl := hR
 intro a hF
 replace hrow := row_keep hrow hb hBe
 replace hb := Nat.lt_of_lt_of_le hb hBe.size
 revert a; refine Bv rfl rfl (decide_eq_true (show (((c.toNat ||| 32 : Nat) : Int) ≤ 122) by omega)) (Md 2 [1,8,9,10,11,12,13,15,99,100,101,121] rfl (Nx (Ct rfl (Rg (Mv 1 rfl (Cm hM rfl Tryz.func128 (by kernel_rfl) rfl (lower_walk c w) ?_))))))
 clear hM; intro w v hR hM hBe
 obtain rfl := hR
 intro a hF
 replace hrow := row_keep hrow hb hBe
 replace hb := Nat.lt_of_lt_of_le hb hBe.size
 refine op_sum hF rfl (((c.toNat ||| 32 : Nat) : Int) - 97) rfl rfl rfl rfl rfl rfl (by omega) (IntWalk.u8_in _ ⟨by omega, by omega⟩) ?_; clear hF a; intro a hF
 refine op_sum hF rfl ((hv c : Int)) rfl rfl rfl rfl rfl rfl (by omega) (IntWalk.u8_in _ ⟨by omega, by omega⟩) ?_; clear hF a; intro a hF
 revert a; refine Md 1 [1,8,9,10,11,12,13,16,99,100,101] rfl (Nb (Kp [1,8,9,10,11,12,13,16,99,100,101] rfl ?_)); intro a hF
 exact ⟨hF, hM, hb, hrow⟩
end Go.Sx
namespace Go.Sx
open Go.RowKit Go.Proofs Js Go.Proofs.YtelonenjneonlaaGreatDoorW.PrintWords
theorem parseUint_walk (s : Str) (w0 : World) (hl : s.length = 4) (hs : ∀ c ∈ s, IsHex c) :
    Calls Tryz.prog 62 #[.string (mkS s), .int .i64 16, .int .i64 64] w0 (Ret fun v w' => v = .tuple #[.int .u64 (hexN s : Int), .nilIface] ∧ Below w0.heap.size w0 w') := by
 have hM : Mem w0.heap.size w0 [] w0 := Mem.start (Nat.le_refl _)
 refine enter (l := [.string (mkS s), .int .i64 16, .int .i64 64]) 23 Tryz.func62 rfl rfl (fun a hF => ?_)
 replace hF : Fr 26 [(0, .string (mkS s)), (1, .int .i64 16), (2, .int .i64 64)] a := hF
 revert a; refine Sq (Rg (Md 2 [0,1,2] rfl (Nx (Sq (Rg (Mv 3 rfl (Cm hM rfl Tryz.func86 (by kernel_rfl) rfl (parseHex_walk s w0 hl hs) ?_)))))))
 clear hM; intro w v hR hM hBe
 obtain rfl := hR
 refine Md 5 [0,1,2,8,9] rfl (Nx (Sq (Sq (Rg (Mv 1 rfl ?_))))); intro a hF
 refine op_neNil hF rfl rfl rfl rfl rfl ⟨_, Tryz.underlying63⟩ ?_; clear hF a; intro a hF
 revert a; exact Md 0 [0,1,2,8,9,18] rfl (Nx (Cf rfl (Sk (Nx (Sq (Rg (Md 3 [6,7] rfl (Nx (Re (Y2 rfl rfl rfl ⟨_, rfl, rfl, hM.below⟩))))))))))
end Go.Sx
namespace Go.Sx
open Go.RowKit Go.Proofs Js Go.Proofs.YtelonenjneonlaaGreatDoorW.PrintWords
theorem runeit_walk (s : Str) (w0 : World) (hl : 4 ≤ s.length) (hs : ∀ c ∈ s.take 4, IsHex c) :
    Calls Tryz.prog 163 #[.string (mkS s)] w0 (Ret fun v w' => v = .int .i32 (hexN (s.take 4) : Int) ∧ Below w0.heap.size w0 w') := by
 have hM : Mem w0.heap.size w0 [] w0 := Mem.start (Nat.le_refl _)
 have hl4 : (s.take 4).length = 4 := by rw [List.length_take]; omega
 have hlt := hexN_lt (s.take 4) hs
 rw [hl4] at hlt
 refine enter (l := [.string (mkS s)]) 12 Tryz.func163 rfl rfl (fun a hF => ?_)
 replace hF : Fr 13 [(0, .string (mkS s))] a := hF
 revert a; refine Sq (Rg (Md 1 [0] rfl (Nx (Sq (Rg (Mv 1 rfl ?_)))))); intro a hF
 refine op_sliceTo_str hF rfl (4) rfl rfl rfl Tryz.underlying9 rfl rfl (by first | rfl | omega) hl ?_; clear hF a; intro a hF
 revert a; refine Cm hM rfl Tryz.func62 (by kernel_rfl) rfl (parseUint_walk (s.take 4) w0 hl4 hs) ?_
 clear hM; intro w v hR hM hBe
 obtain rfl := hR
 refine Md 5 [3] rfl (Nx (Sq (Rg (Mv 1 rfl ?_)))); intro a hF
 refine op_conv_to hF rfl rfl rfl rfl Tryz.underlying54 Tryz.underlying21 rfl (wrap_i32 (by omega) (by omega)) ?_; clear hF a; intro a hF
 revert a; exact Md 1 [2] rfl (Nx (Re (Y1 rfl rfl ⟨_, rfl, rfl, hM.below⟩)))
end Go.Sx
namespace Go.Sx
open Go.RowKit Go.Proofs Js Go.Proofs.YtelonenjneonlaaGreatDoorW.PrintWords
theorem isSurrogate_walk (r : Nat) (w : World) :
    Calls Tryz.prog 164 #[.int .i32 (r : Int)] w (Ret fun v w' => v = .bool (high r || low r) ∧ Below w.heap.size w w') := by
 refine enter (l := [.int .i32 (r : Int)]) 8 Tryz.func164 rfl rfl (fun a hF => ?_)
 replace hF : Fr 9 [(0, .int .i32 (r : Int))] a := hF
 revert a; refine Sq (Rg (Md 1 [0] rfl (Nx (Sq ?_))))
 rcases Nat.lt_or_ge r 55296 with h1 | h1
 ·
  refine Rg (Mv 1 rfl (Bv rfl rfl (decide_eq_false (show ¬ ((55296 : Int) ≤ (r : Int)) by omega)) (Md 5 [2] rfl (Nx (Re ?_)))))
  have e : (high r || low r) = false := by simp [high, low]; omega
  exact Y1 rfl rfl ⟨_, rfl, by rw [e], Below.refl _ _⟩
 refine Rg (Mv 1 rfl (Bv rfl rfl (decide_eq_true (show ((55296 : Int) ≤ (r : Int)) by omega)) (Md 5 [2] rfl (Nx (Re ?_)))))
 have e : (high r || low r) = decide ((r : Int) < 57344) := by
   by_cases h2 : r < 57344
   · rw [decide_eq_true (show ((r : Int) < 57344) by omega)]; simp [high, low]; omega
   · rw [decide_eq_false (show ¬ ((r : Int) < 57344) by omega)]; simp [high, low]; omega
 exact Y1 rfl rfl ⟨_, rfl, by rw [e], Below.refl _ _⟩
end Go.Sx
namespace Go.Sx
open Go.RowKit Go.Proofs Js Go.Proofs.YtelonenjneonlaaGreatDoorW.PrintWords
theorem decodePair_walk (x y : Nat) (w : World) (hx : x < 65536) (hy : y < 65536) :
    Calls Tryz.prog 165 #[.int .i32 (x : Int), .int .i32 (y : Int)] w (Ret fun v w' => v = .int .i32 (pair x y : Int) ∧ Below w.heap.size w w') := by
 refine enter (l := [.int .i32 (x : Int), .int .i32 (y : Int)]) 24 Tryz.func165 rfl rfl (fun a hF => ?_)
 replace hF : Fr 26 [(0, .int .i32 (x : Int)), (1, .int .i32 (y : Int))] a := hF
 revert a; refine Sq (Rg (Md 1 [0,1] rfl (Nx (Sq (Sq ?_)))))
 rcases (show x < 55296 ∨ (55296 ≤ x ∧ 56320 ≤ x) ∨ (55296 ≤ x ∧ x < 56320 ∧ y < 56320) ∨ (55296 ≤ x ∧ x < 56320 ∧ 56320 ≤ y ∧ 57344 ≤ y) ∨ (55296 ≤ x ∧ x < 56320 ∧ 56320 ≤ y ∧ y < 57344) by omega) with h1 | h1 | h1 | h1 | h1
 ·
  refine Rg (Mv 1 rfl (Bv rfl rfl (decide_eq_false (show ¬ ((55296 : Int) ≤ (x : Int)) by omega)) (Md 12 [0,1,18] rfl (Nx (Cf rfl (Sk (Nx (Sq (Rg (Md 1 [4] rfl (Nx (Re ?_))))))))))))
  have e : pair x y = 65533 := by unfold pair; rw [if_neg (by simp [high, low]; omega)]
  exact Y1 rfl rfl ⟨_, rfl, by rw [e]; rfl, Below.refl _ _⟩
 ·
  refine Rg (Mv 1 rfl (Bv rfl rfl (decide_eq_true (show ((55296 : Int) ≤ (x : Int)) by omega)) (Mv 2 rfl (Bv rfl rfl (decide_eq_false (show ¬ ((x : Int) < 56320) by omega)) (Md 9 [0,1,18] rfl (Nx (Cf rfl (Sk (Nx (Sq (Rg (Md 1 [4] rfl (Nx (Re ?_))))))))))))))
  have e : pair x y = 65533 := by unfold pair; rw [if_neg (by simp [high, low]; omega)]
  exact Y1 rfl rfl ⟨_, rfl, by rw [e]; rfl, Below.refl _ _⟩
 ·
  refine Rg (Mv 1 rfl (Bv rfl rfl (decide_eq_true (show ((55296 : Int) ≤ (x : Int)) by omega)) (Mv 2 rfl (Bv rfl rfl (decide_eq_true (show ((x : Int) < 56320) by omega)) (Mv 3 rfl (Bv rfl rfl (decide_eq_false (show ¬ ((56320 : Int) ≤ (y : Int)) by omega)) (Md 5 [0,1,18] rfl (Nx (Cf rfl (Sk (Nx (Sq (Rg (Md 1 [4] rfl (Nx (Re ?_))))))))))))))))
  have e : pair x y = 65533 := by unfold pair; rw [if_neg (by simp [high, low]; omega)]
  exact Y1 rfl rfl ⟨_, rfl, by rw [e]; rfl, Below.refl _ _⟩
 ·
  refine Rg (Mv 1 rfl (Bv rfl rfl (decide_eq_true (show ((55296 : Int) ≤ (x : Int)) by omega)) (Mv 2 rfl (Bv rfl rfl (decide_eq_true (show ((x : Int) < 56320) by omega)) (Mv 3 rfl (Bv rfl rfl (decide_eq_true (show ((56320 : Int) ≤ (y : Int)) by omega)) (Mv 3 rfl (Bv rfl rfl (decide_eq_false (show ¬ ((y : Int) < 57344) by omega)) (Md 1 [0,1,18] rfl (Nx (Cf rfl (Sk (Nx (Sq (Rg (Md 1 [4] rfl (Nx (Re ?_))))))))))))))))))
  have e : pair x y = 65533 := by unfold pair; rw [if_neg (by simp [high, low]; omega)]
  exact Y1 rfl rfl ⟨_, rfl, by rw [e]; rfl, Below.refl _ _⟩
 refine Rg (Mv 1 rfl (Bv rfl rfl (decide_eq_true (show ((55296 : Int) ≤ (x : Int)) by omega)) (Mv 2 rfl (Bv rfl rfl (decide_eq_true (show ((x : Int) < 56320) by omega)) (Mv 3 rfl (Bv rfl rfl (decide_eq_true (show ((56320 : Int) ≤ (y : Int)) by omega)) (Mv 3 rfl (Bv rfl rfl (decide_eq_true (show ((y : Int) < 57344) by omega)) (Md 1 [0,1,18] rfl (Nx (Ct rfl (Sq (Rg (Mv 1 rfl ?_)))))))))))))); intro a hF
 refine op_sum hF rfl (((x - 55296 : Nat) : Int)) rfl rfl rfl rfl rfl rfl (by omega) (wrap_i32 (by omega) (by omega)) ?_; clear hF a; intro a hF
 refine op_shl hF rfl 10 (((x - 55296) * 1024 : Nat) : Int) rfl rfl rfl rfl rfl rfl (by rw [show min 10 IntKind.i32.bits = 10 from rfl, wrap_i32 (by omega) (by omega)]; omega) ?_; clear hF a; intro a hF
 revert a; refine Mv 1 rfl ?_; intro a hF
 refine op_sum hF rfl (((y - 56320 : Nat) : Int)) rfl rfl rfl rfl rfl rfl (by omega) (wrap_i32 (by omega) (by omega)) ?_; clear hF a; intro a hF
 refine op_bits hF rfl _ rfl rfl rfl rfl rfl (or_i32 (p := (x - 55296) * 1024) (q := y - 56320) (by omega) (by omega)) ?_; clear hF a; intro a hF
 rw [pair_or (by omega)] at hF
 refine op_sum hF rfl ((((x - 55296) * 1024 + (y - 56320) + 65536 : Nat) : Int)) rfl rfl rfl rfl rfl rfl (by omega) (wrap_i32 (by omega) (by omega)) ?_; clear hF a; intro a hF
 revert a; refine Md 1 [4] rfl (Nx (Re (Rt ?_)))
 have e : pair x y = (x - 55296) * 1024 + (y - 56320) + 65536 := by unfold pair; rw [if_pos (by simp [high, low]; omega)]; omega
 exact Y1 rfl rfl ⟨_, rfl, by rw [e], Below.refl _ _⟩
end Go.Sx
