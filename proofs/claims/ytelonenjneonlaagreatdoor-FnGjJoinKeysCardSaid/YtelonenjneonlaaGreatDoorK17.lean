/- Part 17 of the proof of FnGjJoinKeys: the statement Rows.FnGjJoinKeysCardSaid; no further condition. -/
import Derived.Test.YtelonenjneonlaaGreatDoorK16
set_option linter.all false
namespace Go.Sx
open Go.RowKit Go.Proofs Js Go.Proofs.YtelonenjneonlaaGreatDoorW.PrintWords
theorem form_or {t : Str} {k : Nat} (h : Js.Form t k) : (k = 0 ∧ t = [110, 117, 108, 108]) ∨ (k = 1 ∧ t = [102, 97, 108, 115, 101]) ∨ (k = 2 ∧ t = [116, 114, 117, 101]) ∨ (k = 3 ∧ IsNum t) ∨ (k = 4 ∧ ∃ i, t = 34 :: i ++ [34] ∧ Ins i) ∨
    (kG k = 5 ∧ ∃ t', t = 91 :: t' ∧ ∀ s, Nest 1 (t' ++ s) t'.length) ∨ (kG k = 5 ∧ ∃ t', t = 123 :: t' ∧ ∀ s, Nest 1 (t' ++ s) t'.length) := by
  cases h with
  | nul h => exact .inl ⟨rfl, h⟩
  | fls h => exact .inr (.inl ⟨rfl, h⟩)
  | tru h => exact .inr (.inr (.inl ⟨rfl, h⟩))
  | num h => exact .inr (.inr (.inr (.inl ⟨rfl, h⟩)))
  | str h hi => exact .inr (.inr (.inr (.inr (.inl ⟨rfl, _, h, hi⟩))))
  | brk hk h hc hn =>
    have h5 : kG k = 5 := by rcases hk with rfl | rfl <;> rfl
    rcases hc with rfl | rfl
    · exact .inr (.inr (.inr (.inr (.inr (.inl ⟨h5, _, h, hn⟩)))))
    · exact .inr (.inr (.inr (.inr (.inr (.inr ⟨h5, _, h, hn⟩)))))
theorem form_ne {t : Str} {k : Nat} (h : Js.Form t k) : t ≠ [] := by
  rcases form_or h with ⟨_, rfl⟩ | ⟨_, rfl⟩ | ⟨_, rfl⟩ | ⟨_, h⟩ | ⟨_, i, rfl, _⟩ | ⟨_, i, rfl, _⟩ | ⟨_, i, rfl, _⟩
  · simp
  · simp
  · simp
  · obtain ⟨c, t', rfl, _⟩ := num_head h; simp
  · simp
  · simp
  · simp
theorem num_none {c : UInt8} (h : c = 45 ∨ isDig c = true) (n45 : c ≠ 45) (n48 : c ≠ 48) (n49 : c ≠ 49) (n50 : c ≠ 50) (n51 : c ≠ 51) (n52 : c ≠ 52) (n53 : c ≠ 53) (n54 : c ≠ 54) (n55 : c ≠ 55) (n56 : c ≠ 56) (n57 : c ≠ 57) : False := by
  rcases h with h | h
  · exact n45 h
  · simp only [isDig, Bool.and_eq_true, decide_eq_true_eq] at h
    have hn : ∀ d : UInt8, c ≠ d → c.toNat ≠ d.toNat := fun d hd e => hd (UInt8.toNat_inj.1 e)
    have e48 : c.toNat ≠ 48 := hn 48 n48
    have e49 : c.toNat ≠ 49 := hn 49 n49
    have e50 : c.toNat ≠ 50 := hn 50 n50
    have e51 : c.toNat ≠ 51 := hn 51 n51
    have e52 : c.toNat ≠ 52 := hn 52 n52
    have e53 : c.toNat ≠ 53 := hn 53 n53
    have e54 : c.toNat ≠ 54 := hn 54 n54
    have e55 : c.toNat ≠ 55 := hn 55 n55
    have e56 : c.toNat ≠ 56 := hn 56 n56
    have e57 : c.toNat ≠ 57 := hn 57 n57
    omega
theorem parseAny_walk (hPF : PF) (T t r : Str) (p k : Nat) (w0 : World) (hV : VchB w0) (hT : T.length ≤ 2 ^ 40) (h : T.drop p = t ++ r) (hf : Js.Form t k) (hr : ∀ c, r.head? = some c → numEnd c) :
    Calls Tryz.prog 141 #[.string (mkS T), .int .i64 (p : Int), .bool true] w0 (Ret fun v w' => (∃ str f ix, v = .tuple #[.int .i64 ((p + t.length : Nat) : Int), resV (kG k) t str f ix, .bool true]) ∧ Below w0.heap.size w0 w') := by
 have hM : Mem w0.heap.size w0 [] w0 := Mem.start (Nat.le_refl _)
 have h0 := form_ne hf
 have hlen := seg_len h h0
 have hpos : 0 < t.length := List.length_pos_iff.2 h0
 have hget : ∀ j, j < t.length → T[p + j]? = t[j]? := fun j hj => seg_get h hj
 refine enter (l := [.string (mkS T), .int .i64 (p : Int), .bool true]) 167 Tryz.func141 rfl rfl (fun a hF => ?_)
 replace hF : Fr 170 [(0, .string (mkS T)), (1, .int .i64 (p : Int)), (2, .bool true)] a := hF
 revert a; refine Sq (Rg (Mv 1 rfl ?_)); intro a hF
 refine op_alloc hF hM rfl (vs := [.int .i64 0, .string (mkS []), .string (mkS []), .float .f64 0, .int .i64 0, .slice none 0 0]) rfl rfl rfl (by kernel_rfl) ?_; clear hF hM a; intro a w b7 hF hM
 revert a; refine Md 1 [0,1,2,7] rfl (Nx (Sq (Rg ?_))); intro a hF
 refine op_alloc hF hM rfl (vs := [.int .i64 0, .string (mkS []), .string (mkS []), .float .f64 0, .int .i64 0, .slice none 0 0]) rfl rfl rfl (by kernel_rfl) ?_; clear hF hM a; intro a w b9 hF hM
 revert a; refine Md 0 [0,1,2,7,9] rfl (Nx (Sq (Rg (Md 1 [0,1,2,7,9] rfl (Nx (Sq (Bo (Kp [0,1,2,7,9] rfl ?_)))))))); intro a hF
 refine loopX (fun (x : Unit) a w => Fr 170 [(0, .string (mkS T)), (1, .int .i64 (p : Int)), (2, .bool true), (7, .pointer (some ⟨b7, 0, none⟩)), (9, .pointer (some ⟨b9, 0, none⟩))] a ∧ Mem w0.heap.size w0 [(b9, 135, [.int .i64 0, .string (mkS []), .string (mkS []), .float .f64 0, .int .i64 0, .slice none 0 0]), (b7, 135, [.int .i64 0, .string (mkS []), .string (mkS []), .float .f64 0, .int .i64 0, .slice none 0 0])] w) (fun _ => 0) (()) ?_ (fun x a w hI => ?_)
 · exact ⟨hF, hM⟩
 clear hF hM
 obtain ⟨hF, hM⟩ := hI
 have hVw := hV.keep hM.below
 revert a; refine Sq (Sq (Rg (Md 4 [0,1,2,7,9,18] rfl (Nx (D2 rfl (fun ht => absurd (of_decide_eq_false ht) (by omega)) (Sk (Nx (Sq (Bo (Sq (Sq ?_)))))))))))
 rcases form_or hf with ⟨hk, htt⟩ | ⟨hk, htt⟩ | ⟨hk, htt⟩ | ⟨hk, hn⟩ | ⟨hk, s, htt, hi⟩ | ⟨hk, t', htt, hn⟩ | ⟨hk, t', htt, hn⟩
 ·
  subst hk
  have hg0 : t[0]? = some 110 := by rw [htt]; rfl
  have hg1 : t[1]? = some 117 := by rw [htt]; rfl
  have hl4 : t.length = 4 := by rw [htt]; rfl
  have hlit : ∀ j c', 0 < j → t[j]? = some c' → ¬ (c'.toNat < 97 ∨ 122 < c'.toNat) := by
    rw [htt]
    intro j c' hj hc'
    match j, hj with
    | 1, _ => simp at hc'; subst hc'; decide
    | 2, _ => simp at hc'; subst hc'; decide
    | 3, _ => simp at hc'; subst hc'; decide
    | (j + 4), _ => simp at hc'
  refine Rg (Mv 2 rfl ?_); intro a hF
  refine op_index_str hF rfl (p) 110 rfl rfl rfl Tryz.underlying9 rfl rfl (by first | rfl | omega) ((hget 0 hpos).trans hg0) ?_; clear hF a; intro a hF
  revert a; refine Bv rfl rfl (show (((110 : UInt8).toNat : Int) == 123) = false from rfl) (Mv 3 rfl ?_); intro a hF
  refine guard_yes hF rfl rfl rfl rfl rfl rfl ?_
  refine op_index_str hF rfl (p) 110 rfl rfl rfl Tryz.underlying9 rfl rfl (by first | rfl | omega) ((hget 0 hpos).trans hg0) ?_; clear hF a; intro a hF
  revert a; refine Bv rfl rfl (show (((110 : UInt8).toNat : Int) == 91) = false from rfl) (Md 1 [0,1,2,7,9,30] rfl (Nx (Cf rfl (Sk (Nx (Sq (Sq (Rg (Mv 2 rfl ?_))))))))); intro a hF
  refine op_index_str hF rfl (p) 110 rfl rfl rfl Tryz.underlying9 rfl rfl (by first | rfl | omega) ((hget 0 hpos).trans hg0) ?_; clear hF a; intro a hF
  revert a; refine Md 1 [0,1,2,7,9,55] rfl (Nx (C1 rfl (fun ht => absurd ht (by decide)) (Sk (Nx (Sq (Rg (Md 1 [0,1,2,7,9,11] rfl (Nx (Sq (Sq (Rg (Mv 2 rfl ?_)))))))))))); intro a hF
  refine op_index_str hF rfl (p) 110 rfl rfl rfl Tryz.underlying9 rfl rfl (by first | rfl | omega) ((hget 0 hpos).trans hg0) ?_; clear hF a; intro a hF
  revert a; refine Md 0 [0,1,2,7,9,11,58] rfl (Nx (Bo (Sq (Bo (Sq (Bo (Sq (Bo (Sq (Bo (Sq (Sq (Sq (Rg (Md 2 [0,1,2,7,9,11,58,59] rfl (Nx (C1 rfl (fun ht => absurd ht (by decide)) (Sk (Nx (Sq (Sq (Rg (Md 2 [0,1,2,7,9,11,58,61] rfl (Nx (D2 rfl (fun ht => absurd ht (by decide)) (Ex (Ot (Ot (Op' rfl (Ot (Ob (Nx (Sq (Rg (Mv 1 rfl (Sm (((p + 1 : Nat) : Int)) rfl (by omega) (Mv 2 rfl (Bv rfl rfl (decide_eq_true (show (((p + 1 : Nat) : Int) < (T.length : Int)) by omega)) (Mv 3 rfl (Sm (((p + 1 : Nat) : Int)) rfl (by omega) ?_)))))))))))))))))))))))))))))))))))))))); intro a hF
  refine guard_yes hF rfl rfl rfl rfl rfl rfl ?_
  refine op_index_str hF rfl (p + 1) 117 rfl rfl rfl Tryz.underlying9 rfl rfl (by first | rfl | omega) ((hget 1 (by omega)).trans hg1) ?_; clear hF a; intro a hF
  revert a; refine Md 2 [0,1,2,7,9,11,127] rfl (Nx (C1 rfl (fun ht => absurd ht (by decide)) (Sk (Nb (Nx (Sq (Sq (Rg (Mv 2 rfl ?_))))))))); intro a hF
  refine op_index_str hF rfl (p) 110 rfl rfl rfl Tryz.underlying9 rfl rfl (by first | rfl | omega) ((hget 0 hpos).trans hg0) ?_; clear hF a; intro a hF
  revert a; refine Md 1 [0,1,2,7,9,11,14] rfl (Nx (Sq (Rg (Mv 2 rfl (Cm hM rfl Tryz.func168 (by kernel_rfl) rfl (literal_walk T t r p w hT h h0 hlit (fun c' hc' => numEnd_word (hr c' hc'))) ?_)))))
  clear hM; intro w v hR hM hBe
  obtain rfl := hR
  refine Md 5 [0,1,2,7,9,10,11,14] rfl (Nx (Sq (Rg (Md 1 [0,1,2,7,9,10,11,14,137] rfl (Nx (Ct rfl (Sq (Rg (Mv 2 rfl (St hM 0 rfl ?_))))))))))
  clear hM; intro w hM
  refine Md 0 [1,7,9,14] rfl (Nx (Sq (Sq (Rg (Md 1 [1,7,9,140] rfl (Nx (Bo (Sq (Rg (Md 2 [1,7,9,140,141] rfl (Nx (C1 rfl (fun ht => absurd ht (by decide)) (Sq (Rg (Md 2 [1,7,9,144] rfl (Nx (C1 rfl (fun ht => absurd ht (by decide)) (Sk (Nb (Nx (Sq ?_))))))))))))))))))))); intro a hF
  refine draw (by kernel_rfl) ?_
  replace hM := hM.drew
  refine take 0 hF rfl (by kernel_rfl) (by kernel_rfl) (by kernel_rfl) (fun _ _ _ h => h) rfl rfl rfl (gives_move hF rfl rfl) ?_; clear hF a; intro a hF
  refine take 2 hF rfl (by kernel_rfl) (by kernel_rfl) (by kernel_rfl) (fun _ _ _ h => h) rfl rfl rfl (gives_assign hF rfl rfl) ?_; clear hF a; intro a hF
  refine only 1 hF rfl (by kernel_rfl) rfl rfl rfl (gives_loadA hF hM 0 rfl Tryz.underlying135 rfl (by kernel_rfl) rfl rfl) ?_; clear hF a; intro a hF
  refine only_storeA 3 hF hM rfl (by kernel_rfl) rfl rfl 1 rfl (by kernel_rfl) rfl rfl rfl rfl rfl ?_; clear hF hM a; intro a w hF hM
  refine take 4 hF rfl (by kernel_rfl) (by kernel_rfl) (by kernel_rfl) (fun _ _ _ h => h) rfl rfl rfl (gives_assign hF rfl rfl) ?_; clear hF a; intro a hF
  refine drawn (h0 := by kernel_rfl) ?_
  revert a; refine Kp [6,7,8] rfl (Nx (Re (Rt (Rb (Rt (Rb (Rt (Rb (Rt (Rt (Rb (Rt ?_)))))))))))); intro a hF
  exact retMany hF hM rfl rfl (.tmp rfl (.cell 1 rfl rfl Tryz.underlying135 rfl (by kernel_rfl) (.tmp rfl .nil))) ⟨_, rfl, ⟨_, _, _, rfl⟩, hM.below⟩
 ·
  subst hk
  have hg0 : t[0]? = some 102 := by rw [htt]; rfl
  have hg1 : t[1]? = some 97 := by rw [htt]; rfl
  have hl4 : t.length = 5 := by rw [htt]; rfl
  have hlit : ∀ j c', 0 < j → t[j]? = some c' → ¬ (c'.toNat < 97 ∨ 122 < c'.toNat) := by
    rw [htt]
    intro j c' hj hc'
    match j, hj with
    | 1, _ => simp at hc'; subst hc'; decide
    | 2, _ => simp at hc'; subst hc'; decide
    | 3, _ => simp at hc'; subst hc'; decide
    | 4, _ => simp at hc'; subst hc'; decide
    | (j + 5), _ => simp at hc'
  refine Rg (Mv 2 rfl ?_); intro a hF
  refine op_index_str hF rfl (p) 102 rfl rfl rfl Tryz.underlying9 rfl rfl (by first | rfl | omega) ((hget 0 hpos).trans hg0) ?_; clear hF a; intro a hF
  revert a; refine Bv rfl rfl (show (((102 : UInt8).toNat : Int) == 123) = false from rfl) (Mv 3 rfl ?_); intro a hF
  refine guard_yes hF rfl rfl rfl rfl rfl rfl ?_
  refine op_index_str hF rfl (p) 102 rfl rfl rfl Tryz.underlying9 rfl rfl (by first | rfl | omega) ((hget 0 hpos).trans hg0) ?_; clear hF a; intro a hF
  revert a; refine Bv rfl rfl (show (((102 : UInt8).toNat : Int) == 91) = false from rfl) (Md 1 [0,1,2,7,9,30] rfl (Nx (Cf rfl (Sk (Nx (Sq (Sq (Rg (Mv 2 rfl ?_))))))))); intro a hF
  refine op_index_str hF rfl (p) 102 rfl rfl rfl Tryz.underlying9 rfl rfl (by first | rfl | omega) ((hget 0 hpos).trans hg0) ?_; clear hF a; intro a hF
  revert a; refine Md 1 [0,1,2,7,9,55] rfl (Nx (C1 rfl (fun ht => absurd ht (by decide)) (Sk (Nx (Sq (Rg (Md 1 [0,1,2,7,9,11] rfl (Nx (Sq (Sq (Rg (Mv 2 rfl ?_)))))))))))); intro a hF
  refine op_index_str hF rfl (p) 102 rfl rfl rfl Tryz.underlying9 rfl rfl (by first | rfl | omega) ((hget 0 hpos).trans hg0) ?_; clear hF a; intro a hF
  revert a; refine Md 0 [0,1,2,7,9,11,58] rfl (Nx (Bo (Sq (Bo (Sq (Bo (Sq (Bo (Sq (Bo (Sq (Sq (Sq (Rg (Md 2 [0,1,2,7,9,11,58,59] rfl (Nx (C1 rfl (fun ht => absurd ht (by decide)) (Sk (Nx (Sq (Sq (Rg (Md 2 [0,1,2,7,9,11,58,61] rfl (Nx (C1 rfl (fun ht => absurd ht (by decide)) (Sk (Nx (Sq (Sq (Sq (Rg (Md 2 [0,1,2,7,9,11,58,63] rfl (Nx (C1 rfl (fun ht => absurd ht (by decide)) (Rg (Md 2 [0,1,2,7,9,11,58,63] rfl (Nx (D2 rfl (fun ht => absurd ht (by decide)) (Ex (Ot (Ot (Op' rfl (Ot (Op' rfl (Ot (Ob (Nx (Sq (Sq (Rg (Mv 2 rfl ?_))))))))))))))))))))))))))))))))))))))))))))))))))); intro a hF
  refine op_index_str hF rfl (p) 102 rfl rfl rfl Tryz.underlying9 rfl rfl (by first | rfl | omega) ((hget 0 hpos).trans hg0) ?_; clear hF a; intro a hF
  revert a; refine Md 1 [0,1,2,7,9,11,14] rfl (Nx (Sq (Rg (Mv 2 rfl (Cm hM rfl Tryz.func168 (by kernel_rfl) rfl (literal_walk T t r p w hT h h0 hlit (fun c' hc' => numEnd_word (hr c' hc'))) ?_)))))
  clear hM; intro w v hR hM hBe
  obtain rfl := hR
  refine Md 5 [0,1,2,7,9,10,11,14] rfl (Nx (Sq (Rg (Md 1 [0,1,2,7,9,10,11,14,137] rfl (Nx (Ct rfl (Sq (Rg (Mv 2 rfl (St hM 0 rfl ?_))))))))))
  clear hM; intro w hM
  refine Md 0 [1,7,9,14] rfl (Nx (Sq (Sq (Rg (Md 1 [1,7,9,140] rfl (Nx (Bo (Sq (Rg (Md 2 [1,7,9,140,141] rfl (Nx (C1 rfl (fun ht => absurd ht (by decide)) (Sq (Rg (Md 2 [1,7,9,144] rfl (Nx (D2 rfl (fun ht => absurd ht (by decide)) (Rg (Mv 1 rfl (St hM 0 rfl ?_))))))))))))))))))))
  clear hM; intro w hM
  refine Md 0 [1,7,9] rfl (Nb (Nx (Sq ?_))); intro a hF
  refine draw (by kernel_rfl) ?_
  replace hM := hM.drew
  refine take 0 hF rfl (by kernel_rfl) (by kernel_rfl) (by kernel_rfl) (fun _ _ _ h => h) rfl rfl rfl (gives_move hF rfl rfl) ?_; clear hF a; intro a hF
  refine take 2 hF rfl (by kernel_rfl) (by kernel_rfl) (by kernel_rfl) (fun _ _ _ h => h) rfl rfl rfl (gives_assign hF rfl rfl) ?_; clear hF a; intro a hF
  refine only 1 hF rfl (by kernel_rfl) rfl rfl rfl (gives_loadA hF hM 0 rfl Tryz.underlying135 rfl (by kernel_rfl) rfl rfl) ?_; clear hF a; intro a hF
  refine only_storeA 3 hF hM rfl (by kernel_rfl) rfl rfl 1 rfl (by kernel_rfl) rfl rfl rfl rfl rfl ?_; clear hF hM a; intro a w hF hM
  refine take 4 hF rfl (by kernel_rfl) (by kernel_rfl) (by kernel_rfl) (fun _ _ _ h => h) rfl rfl rfl (gives_assign hF rfl rfl) ?_; clear hF a; intro a hF
  refine drawn (h0 := by kernel_rfl) ?_
  revert a; refine Kp [6,7,8] rfl (Nx (Re (Rt (Rb (Rt (Rb (Rt (Rb (Rt (Rt (Rb (Rt ?_)))))))))))); intro a hF
  exact retMany hF hM rfl rfl (.tmp rfl (.cell 1 rfl rfl Tryz.underlying135 rfl (by kernel_rfl) (.tmp rfl .nil))) ⟨_, rfl, ⟨_, _, _, rfl⟩, hM.below⟩
 ·
  subst hk
  have hg0 : t[0]? = some 116 := by rw [htt]; rfl
  have hg1 : t[1]? = some 114 := by rw [htt]; rfl
  have hl4 : t.length = 4 := by rw [htt]; rfl
  have hlit : ∀ j c', 0 < j → t[j]? = some c' → ¬ (c'.toNat < 97 ∨ 122 < c'.toNat) := by
    rw [htt]
    intro j c' hj hc'
    match j, hj with
    | 1, _ => simp at hc'; subst hc'; decide
    | 2, _ => simp at hc'; subst hc'; decide
    | 3, _ => simp at hc'; subst hc'; decide
    | (j + 4), _ => simp at hc'
  refine Rg (Mv 2 rfl ?_); intro a hF
  refine op_index_str hF rfl (p) 116 rfl rfl rfl Tryz.underlying9 rfl rfl (by first | rfl | omega) ((hget 0 hpos).trans hg0) ?_; clear hF a; intro a hF
  revert a; refine Bv rfl rfl (show (((116 : UInt8).toNat : Int) == 123) = false from rfl) (Mv 3 rfl ?_); intro a hF
  refine guard_yes hF rfl rfl rfl rfl rfl rfl ?_
  refine op_index_str hF rfl (p) 116 rfl rfl rfl Tryz.underlying9 rfl rfl (by first | rfl | omega) ((hget 0 hpos).trans hg0) ?_; clear hF a; intro a hF
  revert a; refine Bv rfl rfl (show (((116 : UInt8).toNat : Int) == 91) = false from rfl) (Md 1 [0,1,2,7,9,30] rfl (Nx (Cf rfl (Sk (Nx (Sq (Sq (Rg (Mv 2 rfl ?_))))))))); intro a hF
  refine op_index_str hF rfl (p) 116 rfl rfl rfl Tryz.underlying9 rfl rfl (by first | rfl | omega) ((hget 0 hpos).trans hg0) ?_; clear hF a; intro a hF
  revert a; refine Md 1 [0,1,2,7,9,55] rfl (Nx (C1 rfl (fun ht => absurd ht (by decide)) (Sk (Nx (Sq (Rg (Md 1 [0,1,2,7,9,11] rfl (Nx (Sq (Sq (Rg (Mv 2 rfl ?_)))))))))))); intro a hF
  refine op_index_str hF rfl (p) 116 rfl rfl rfl Tryz.underlying9 rfl rfl (by first | rfl | omega) ((hget 0 hpos).trans hg0) ?_; clear hF a; intro a hF
  revert a; refine Md 0 [0,1,2,7,9,11,58] rfl (Nx (Bo (Sq (Bo (Sq (Bo (Sq (Bo (Sq (Bo (Sq (Sq (Sq (Rg (Md 2 [0,1,2,7,9,11,58,59] rfl (Nx (C1 rfl (fun ht => absurd ht (by decide)) (Sk (Nx (Sq (Sq (Rg (Md 2 [0,1,2,7,9,11,58,61] rfl (Nx (C1 rfl (fun ht => absurd ht (by decide)) (Sk (Nx (Sq (Sq (Sq (Rg (Md 2 [0,1,2,7,9,11,58,63] rfl (Nx (D2 rfl (fun ht => absurd ht (by decide)) (Sk (Nx (D2 rfl (fun ht => absurd ht (by decide)) (Ex (Ot (Ot (Op' rfl (Ot (Op' rfl (Ot (Ob (Nx (Sq (Sq (Rg (Mv 2 rfl ?_)))))))))))))))))))))))))))))))))))))))))))))))))); intro a hF
  refine op_index_str hF rfl (p) 116 rfl rfl rfl Tryz.underlying9 rfl rfl (by first | rfl | omega) ((hget 0 hpos).trans hg0) ?_; clear hF a; intro a hF
  revert a; refine Md 1 [0,1,2,7,9,11,14] rfl (Nx (Sq (Rg (Mv 2 rfl (Cm hM rfl Tryz.func168 (by kernel_rfl) rfl (literal_walk T t r p w hT h h0 hlit (fun c' hc' => numEnd_word (hr c' hc'))) ?_)))))
  clear hM; intro w v hR hM hBe
  obtain rfl := hR
  refine Md 5 [0,1,2,7,9,10,11,14] rfl (Nx (Sq (Rg (Md 1 [0,1,2,7,9,10,11,14,137] rfl (Nx (Ct rfl (Sq (Rg (Mv 2 rfl (St hM 0 rfl ?_))))))))))
  clear hM; intro w hM
  refine Md 0 [1,7,9,14] rfl (Nx (Sq (Sq (Rg (Md 1 [1,7,9,140] rfl (Nx (Bo (Sq (Rg (Md 2 [1,7,9,140,141] rfl (Nx (D2 rfl (fun ht => absurd ht (by decide)) (Rg (Mv 1 rfl (St hM 0 rfl ?_)))))))))))))))
  clear hM; intro w hM
  refine Md 0 [1,7,9] rfl (Nb (Nx (Sq ?_))); intro a hF
  refine draw (by kernel_rfl) ?_
  replace hM := hM.drew
  refine take 0 hF rfl (by kernel_rfl) (by kernel_rfl) (by kernel_rfl) (fun _ _ _ h => h) rfl rfl rfl (gives_move hF rfl rfl) ?_; clear hF a; intro a hF
  refine take 2 hF rfl (by kernel_rfl) (by kernel_rfl) (by kernel_rfl) (fun _ _ _ h => h) rfl rfl rfl (gives_assign hF rfl rfl) ?_; clear hF a; intro a hF
  refine only 1 hF rfl (by kernel_rfl) rfl rfl rfl (gives_loadA hF hM 0 rfl Tryz.underlying135 rfl (by kernel_rfl) rfl rfl) ?_; clear hF a; intro a hF
  refine only_storeA 3 hF hM rfl (by kernel_rfl) rfl rfl 1 rfl (by kernel_rfl) rfl rfl rfl rfl rfl ?_; clear hF hM a; intro a w hF hM
  refine take 4 hF rfl (by kernel_rfl) (by kernel_rfl) (by kernel_rfl) (fun _ _ _ h => h) rfl rfl rfl (gives_assign hF rfl rfl) ?_; clear hF a; intro a hF
  refine drawn (h0 := by kernel_rfl) ?_
  revert a; refine Kp [6,7,8] rfl (Nx (Re (Rt (Rb (Rt (Rb (Rt (Rb (Rt (Rt (Rb (Rt ?_)))))))))))); intro a hF
  exact retMany hF hM rfl rfl (.tmp rfl (.cell 1 rfl rfl Tryz.underlying135 rfl (by kernel_rfl) (.tmp rfl .nil))) ⟨_, rfl, ⟨_, _, _, rfl⟩, hM.below⟩
 ·
  subst hk
  obtain ⟨c0, t', htt, hc0⟩ := num_head hn
  have hg0 : t[0]? = some c0 := by rw [htt]; rfl
  have hce : ∀ j c', 0 < j → t[j]? = some c' → ¬ numEnd c' := fun j c' _ hc' => num_not_end (hn.chars c' (List.mem_of_getElem? hc'))
  have h32 : 32 < c0.toNat := by rcases hc0 with rfl | hc0; decide; simp [isDig] at hc0; omega
  refine Rg (Mv 2 rfl ?_); intro a hF
  refine op_index_str hF rfl (p) c0 rfl rfl rfl Tryz.underlying9 rfl rfl (by first | rfl | omega) ((hget 0 hpos).trans hg0) ?_; clear hF a; intro a hF
  revert a; refine Bv rfl rfl (beq_f (d := 123) (z := 123) rfl (by rintro rfl; exact absurd hc0 (by decide))) (Mv 3 rfl ?_); intro a hF
  refine guard_yes hF rfl rfl rfl rfl rfl rfl ?_
  refine op_index_str hF rfl (p) c0 rfl rfl rfl Tryz.underlying9 rfl rfl (by first | rfl | omega) ((hget 0 hpos).trans hg0) ?_; clear hF a; intro a hF
  revert a; refine Bv rfl rfl (beq_f (d := 91) (z := 91) rfl (by rintro rfl; exact absurd hc0 (by decide))) (Md 1 [0,1,2,7,9,30] rfl (Nx (Cf rfl (Sk (Nx (Sq (Sq (Rg (Mv 2 rfl ?_))))))))); intro a hF
  refine op_index_str hF rfl (p) c0 rfl rfl rfl Tryz.underlying9 rfl rfl (by first | rfl | omega) ((hget 0 hpos).trans hg0) ?_; clear hF a; intro a hF
  revert a; refine Md 1 [0,1,2,7,9,55] rfl (Nx (C1 rfl (fun ht => absurd (of_decide_eq_true ht) (by omega)) (Sk (Nx (Sq (Rg (Md 1 [0,1,2,7,9,11] rfl (Nx ?_)))))))); intro a hF
  refine cutF (fun a w => Fr 170 [(0, .string (mkS T)), (1, .int .i64 (p : Int)), (2, .bool true), (7, .pointer (some ⟨b7, 0, none⟩)), (9, .pointer (some ⟨b9, 0, none⟩)), (11, .bool true)] a ∧ Mem w0.heap.size w0 [(b9, 135, [.int .i64 0, .string (mkS []), .string (mkS []), .float .f64 0, .int .i64 0, .slice none 0 0]), (b7, 135, [.int .i64 0, .string (mkS []), .string (mkS []), .float .f64 0, .int .i64 0, .slice none 0 0])] w) (fun a w h => ?_) ?_
  ·
   clear hF hM
   obtain ⟨hF, hM⟩ := h
   revert a; refine Sq (Rg (Md 1 [0,1,2,7,9,149] rfl (Nx (Ct rfl (Sq (Rg (Mv 2 rfl (Cm hM rfl Tryz.func169 (by kernel_rfl) rfl (number_walk T t r p w hT h h0 hce hr) ?_))))))))
   clear hM; intro w v hR hM hBe
   obtain rfl := hR
   refine Md 5 [1,2,7,9,10] rfl (Nx (Sq (Sq (Rg (Md 1 [1,7,9,10,156] rfl (Nx (Ct rfl (Sq (Rg (Mv 2 rfl (St hM 0 rfl ?_)))))))))))
   clear hM; intro w hM
   refine Md 0 [1,7,9,10] rfl (Nx (Sq (Rg (Mv 1 rfl (St hM 0 rfl ?_)))))
   clear hM; intro w hM
   refine Md 0 [1,7,9,10] rfl (Nx (Rg (Mv 1 rfl (Cm hM rfl Tryz.func124 (by kernel_rfl) rfl (hPF t w (hV.keep hM.below) hn (by omega)) ?_))))
   clear hM; intro w v hR hM hBe
   obtain ⟨f, e, rfl⟩ := hR
   refine Mv 4 rfl (St hM 0 rfl ?_)
   clear hM; intro w hM
   refine Md 0 [1,7,9] rfl (Nx (Sq ?_)); intro a hF
   refine draw (by kernel_rfl) ?_
   replace hM := hM.drew
   refine take 0 hF rfl (by kernel_rfl) (by kernel_rfl) (by kernel_rfl) (fun _ _ _ h => h) rfl rfl rfl (gives_move hF rfl rfl) ?_; clear hF a; intro a hF
   refine take 2 hF rfl (by kernel_rfl) (by kernel_rfl) (by kernel_rfl) (fun _ _ _ h => h) rfl rfl rfl (gives_assign hF rfl rfl) ?_; clear hF a; intro a hF
   refine only 1 hF rfl (by kernel_rfl) rfl rfl rfl (gives_loadA hF hM 0 rfl Tryz.underlying135 rfl (by kernel_rfl) rfl rfl) ?_; clear hF a; intro a hF
   refine only_storeA 3 hF hM rfl (by kernel_rfl) rfl rfl 1 rfl (by kernel_rfl) rfl rfl rfl rfl rfl ?_; clear hF hM a; intro a w hF hM
   refine take 4 hF rfl (by kernel_rfl) (by kernel_rfl) (by kernel_rfl) (fun _ _ _ h => h) rfl rfl rfl (gives_assign hF rfl rfl) ?_; clear hF a; intro a hF
   refine drawn (h0 := by kernel_rfl) ?_
   revert a; refine Kp [6,7,8] rfl (Nx (Re (Rb (Rt (Rt (Rb (Rt ?_))))))); intro a hF
   exact retMany hF hM rfl rfl (.tmp rfl (.cell 1 rfl rfl Tryz.underlying135 rfl (by kernel_rfl) (.tmp rfl .nil))) ⟨_, rfl, ⟨_, _, _, rfl⟩, hM.below⟩
  revert a; refine Sq (Rg (Mv 2 rfl ?_)); intro a hF
  refine op_index_str hF rfl (p) c0 rfl rfl rfl Tryz.underlying9 rfl rfl (by first | rfl | omega) ((hget 0 hpos).trans hg0) ?_; clear hF a; intro a hF
  revert a; refine Md 0 [0,1,2,7,9,11,58] rfl (Nx (Bo (Sq (Bo (Sq (Bo (Sq (Bo (Sq (Bo (Sq (Sq (Sq (Rg (Md 2 [0,1,2,7,9,11,58,59] rfl (Nx (Cd rfl (fun ht => ?_) ((fun ht => ?_)))))))))))))))))))
  · obtain rfl := eq_t (d := 34) rfl ht; exact absurd hc0 (by decide)
  have n34 := eq_f (d := 34) rfl ht
  refine Sk (Nx (Sq (Sq (Rg (Md 2 [0,1,2,7,9,11,58,61] rfl (Nx (Cd rfl (fun ht => ?_) ((fun ht => ?_)))))))))
  · obtain rfl := eq_t (d := 110) rfl ht; exact absurd hc0 (by decide)
  have n110 := eq_f (d := 110) rfl ht
  refine Sk (Nx (Sq (Sq (Sq (Rg (Md 2 [0,1,2,7,9,11,58,63] rfl (Nx (Cd rfl (fun ht => ?_) ((fun ht => ?_))))))))))
  · obtain rfl := eq_t (d := 116) rfl ht; exact absurd hc0 (by decide)
  have n116 := eq_f (d := 116) rfl ht
  refine Rg (Md 2 [0,1,2,7,9,11,58,63] rfl (Nx (Cd rfl (fun ht => ?_) ((fun ht => ?_)))))
  · obtain rfl := eq_t (d := 102) rfl ht; exact absurd hc0 (by decide)
  have n102 := eq_f (d := 102) rfl ht
  refine Sk (Nx (Sq (Sq (Rg (Md 2 [0,1,2,7,9,11,58,66] rfl (Nx (Cd rfl (fun ht => ?_) ((fun ht => ?_)))))))))
  · obtain rfl := eq_t (d := 43) rfl ht; exact absurd hc0 (by decide)
  have n43 := eq_f (d := 43) rfl ht
  refine Sq (Rg (Md 2 [0,1,2,7,9,11,58,66] rfl (Nx (Cd rfl (fun ht => ?_) ((fun ht => ?_))))))
  ·
   have hp := ht
   refine Sk (Nx (D2 rfl (fun ht => ?_) ?_))
   ·
    intro a hF
    rw [hp] at ht; cases ht
   refine Ex (Ot (Op' rfl (Ot (Op' rfl (Ot (Op' rfl (Ot (Ob (Nx (Sq (Rg (Md 1 [0,1,2,7,9,11] rfl (Nx (Ex (Ob (Kp [0,1,2,7,9,11] rfl ?_)))))))))))))))); intro a hF
   exact ⟨hF, hM⟩
  have n45 := eq_f (d := 45) rfl ht
  refine Sq (Rg (Md 2 [0,1,2,7,9,11,58,66] rfl (Nx (Cd rfl (fun ht => ?_) ((fun ht => ?_))))))
  ·
   have hp := ht
   refine Sk (Nx (D2 rfl (fun ht => ?_) ?_))
   ·
    intro a hF
    rw [hp] at ht; cases ht
   refine Ex (Ot (Op' rfl (Ot (Op' rfl (Ot (Op' rfl (Ot (Ob (Nx (Sq (Rg (Md 1 [0,1,2,7,9,11] rfl (Nx (Ex (Ob (Kp [0,1,2,7,9,11] rfl ?_)))))))))))))))); intro a hF
   exact ⟨hF, hM⟩
  have n48 := eq_f (d := 48) rfl ht
  refine Sq (Rg (Md 2 [0,1,2,7,9,11,58,66] rfl (Nx (Cd rfl (fun ht => ?_) ((fun ht => ?_))))))
  ·
   have hp := ht
   refine Sk (Nx (D2 rfl (fun ht => ?_) ?_))
   ·
    intro a hF
    rw [hp] at ht; cases ht
   refine Ex (Ot (Op' rfl (Ot (Op' rfl (Ot (Op' rfl (Ot (Ob (Nx (Sq (Rg (Md 1 [0,1,2,7,9,11] rfl (Nx (Ex (Ob (Kp [0,1,2,7,9,11] rfl ?_)))))))))))))))); intro a hF
   exact ⟨hF, hM⟩
  have n49 := eq_f (d := 49) rfl ht
  refine Sq (Rg (Md 2 [0,1,2,7,9,11,58,66] rfl (Nx (Cd rfl (fun ht => ?_) ((fun ht => ?_))))))
  ·
   have hp := ht
   refine Sk (Nx (D2 rfl (fun ht => ?_) ?_))
   ·
    intro a hF
    rw [hp] at ht; cases ht
   refine Ex (Ot (Op' rfl (Ot (Op' rfl (Ot (Op' rfl (Ot (Ob (Nx (Sq (Rg (Md 1 [0,1,2,7,9,11] rfl (Nx (Ex (Ob (Kp [0,1,2,7,9,11] rfl ?_)))))))))))))))); intro a hF
   exact ⟨hF, hM⟩
  have n50 := eq_f (d := 50) rfl ht
  refine Sq (Rg (Md 2 [0,1,2,7,9,11,58,66] rfl (Nx (Cd rfl (fun ht => ?_) ((fun ht => ?_))))))
  ·
   have hp := ht
   refine Sk (Nx (D2 rfl (fun ht => ?_) ?_))
   ·
    intro a hF
    rw [hp] at ht; cases ht
   refine Ex (Ot (Op' rfl (Ot (Op' rfl (Ot (Op' rfl (Ot (Ob (Nx (Sq (Rg (Md 1 [0,1,2,7,9,11] rfl (Nx (Ex (Ob (Kp [0,1,2,7,9,11] rfl ?_)))))))))))))))); intro a hF
   exact ⟨hF, hM⟩
  have n51 := eq_f (d := 51) rfl ht
  refine Sq (Rg (Md 2 [0,1,2,7,9,11,58,66] rfl (Nx (Cd rfl (fun ht => ?_) ((fun ht => ?_))))))
  ·
   have hp := ht
   refine Sk (Nx (D2 rfl (fun ht => ?_) ?_))
   ·
    intro a hF
    rw [hp] at ht; cases ht
   refine Ex (Ot (Op' rfl (Ot (Op' rfl (Ot (Op' rfl (Ot (Ob (Nx (Sq (Rg (Md 1 [0,1,2,7,9,11] rfl (Nx (Ex (Ob (Kp [0,1,2,7,9,11] rfl ?_)))))))))))))))); intro a hF
   exact ⟨hF, hM⟩
  have n52 := eq_f (d := 52) rfl ht
  refine Sq (Rg (Md 2 [0,1,2,7,9,11,58,66] rfl (Nx (Cd rfl (fun ht => ?_) ((fun ht => ?_))))))
  ·
   have hp := ht
   refine Sk (Nx (D2 rfl (fun ht => ?_) ?_))
   ·
    intro a hF
    rw [hp] at ht; cases ht
   refine Ex (Ot (Op' rfl (Ot (Op' rfl (Ot (Op' rfl (Ot (Ob (Nx (Sq (Rg (Md 1 [0,1,2,7,9,11] rfl (Nx (Ex (Ob (Kp [0,1,2,7,9,11] rfl ?_)))))))))))))))); intro a hF
   exact ⟨hF, hM⟩
  have n53 := eq_f (d := 53) rfl ht
  refine Sq (Rg (Md 2 [0,1,2,7,9,11,58,66] rfl (Nx (Cd rfl (fun ht => ?_) ((fun ht => ?_))))))
  ·
   have hp := ht
   refine Sk (Nx (D2 rfl (fun ht => ?_) ?_))
   ·
    intro a hF
    rw [hp] at ht; cases ht
   refine Ex (Ot (Op' rfl (Ot (Op' rfl (Ot (Op' rfl (Ot (Ob (Nx (Sq (Rg (Md 1 [0,1,2,7,9,11] rfl (Nx (Ex (Ob (Kp [0,1,2,7,9,11] rfl ?_)))))))))))))))); intro a hF
   exact ⟨hF, hM⟩
  have n54 := eq_f (d := 54) rfl ht
  refine Sq (Rg (Md 2 [0,1,2,7,9,11,58,66] rfl (Nx (Cd rfl (fun ht => ?_) ((fun ht => ?_))))))
  ·
   have hp := ht
   refine Sk (Nx (D2 rfl (fun ht => ?_) ?_))
   ·
    intro a hF
    rw [hp] at ht; cases ht
   refine Ex (Ot (Op' rfl (Ot (Op' rfl (Ot (Op' rfl (Ot (Ob (Nx (Sq (Rg (Md 1 [0,1,2,7,9,11] rfl (Nx (Ex (Ob (Kp [0,1,2,7,9,11] rfl ?_)))))))))))))))); intro a hF
   exact ⟨hF, hM⟩
  have n55 := eq_f (d := 55) rfl ht
  refine Sq (Rg (Md 2 [0,1,2,7,9,11,58,66] rfl (Nx (Cd rfl (fun ht => ?_) ((fun ht => ?_))))))
  ·
   have hp := ht
   refine Sk (Nx (D2 rfl (fun ht => ?_) ?_))
   ·
    intro a hF
    rw [hp] at ht; cases ht
   refine Ex (Ot (Op' rfl (Ot (Op' rfl (Ot (Op' rfl (Ot (Ob (Nx (Sq (Rg (Md 1 [0,1,2,7,9,11] rfl (Nx (Ex (Ob (Kp [0,1,2,7,9,11] rfl ?_)))))))))))))))); intro a hF
   exact ⟨hF, hM⟩
  have n56 := eq_f (d := 56) rfl ht
  refine Sq (Rg (Md 2 [0,1,2,7,9,11,58,66] rfl (Nx (Cd rfl (fun ht => ?_) ((fun ht => ?_))))))
  ·
   have hp := ht
   refine Sk (Nx (D2 rfl (fun ht => ?_) ?_))
   ·
    intro a hF
    rw [hp] at ht; cases ht
   refine Ex (Ot (Op' rfl (Ot (Op' rfl (Ot (Op' rfl (Ot (Ob (Nx (Sq (Rg (Md 1 [0,1,2,7,9,11] rfl (Nx (Ex (Ob (Kp [0,1,2,7,9,11] rfl ?_)))))))))))))))); intro a hF
   exact ⟨hF, hM⟩
  have n57 := eq_f (d := 57) rfl ht
  refine Sq (Rg (Md 2 [0,1,2,7,9,11,58,66] rfl (Nx (Cd rfl (fun ht => ?_) ((fun ht => ?_))))))
  · obtain rfl := eq_t (d := 105) rfl ht; exact absurd hc0 (by decide)
  have n105 := eq_f (d := 105) rfl ht
  refine Sq (Rg (Md 2 [0,1,2,7,9,11,58,66] rfl (Nx (Cd rfl (fun ht => ?_) ((fun ht => ?_))))))
  · obtain rfl := eq_t (d := 73) rfl ht; exact absurd hc0 (by decide)
  have n73 := eq_f (d := 73) rfl ht
  refine Rg (Md 2 [0,1,2,7,9,11,66] rfl (Nx (Cd rfl (fun ht => ?_) ((fun ht => ?_)))))
  · obtain rfl := eq_t (d := 78) rfl ht; exact absurd hc0 (by decide)
  intro a hF
  exact (num_none hc0 n45 n48 n49 n50 n51 n52 n53 n54 n55 n56 n57).elim
 ·
  subst hk
  have hg0 : t[0]? = some 34 := by rw [htt]; rfl
  have hl2 : t.length = s.length + 2 := by rw [htt]; simp
  refine Rg (Mv 2 rfl ?_); intro a hF
  refine op_index_str hF rfl (p) 34 rfl rfl rfl Tryz.underlying9 rfl rfl (by first | rfl | omega) ((hget 0 hpos).trans hg0) ?_; clear hF a; intro a hF
  revert a; refine Bv rfl rfl (show (((34 : UInt8).toNat : Int) == 123) = false from rfl) (Mv 3 rfl ?_); intro a hF
  refine guard_yes hF rfl rfl rfl rfl rfl rfl ?_
  refine op_index_str hF rfl (p) 34 rfl rfl rfl Tryz.underlying9 rfl rfl (by first | rfl | omega) ((hget 0 hpos).trans hg0) ?_; clear hF a; intro a hF
  revert a; refine Bv rfl rfl (show (((34 : UInt8).toNat : Int) == 91) = false from rfl) (Md 1 [0,1,2,7,9,30] rfl (Nx (Cf rfl (Sk (Nx (Sq (Sq (Rg (Mv 2 rfl ?_))))))))); intro a hF
  refine op_index_str hF rfl (p) 34 rfl rfl rfl Tryz.underlying9 rfl rfl (by first | rfl | omega) ((hget 0 hpos).trans hg0) ?_; clear hF a; intro a hF
  revert a; refine Md 1 [0,1,2,7,9,55] rfl (Nx (C1 rfl (fun ht => absurd ht (by decide)) (Sk (Nx (Sq (Rg (Md 1 [0,1,2,7,9,11] rfl (Nx (Sq (Sq (Rg (Mv 2 rfl ?_)))))))))))); intro a hF
  refine op_index_str hF rfl (p) 34 rfl rfl rfl Tryz.underlying9 rfl rfl (by first | rfl | omega) ((hget 0 hpos).trans hg0) ?_; clear hF a; intro a hF
  revert a; refine Md 0 [0,1,2,7,9,11,58] rfl (Nx (Bo (Sq (Bo (Sq (Bo (Sq (Bo (Sq (Bo (Sq (Sq (Sq (Rg (Md 2 [0,1,2,7,9,11,58,59] rfl (Nx (D2 rfl (fun ht => absurd ht (by decide)) (Ex (Ot (Ot (Ob (Nx (Sq (Sq (Rg (Mv 1 rfl (Sm (((p + 1 : Nat) : Int)) rfl (by omega) (Md 1 [0,1,2,7,9] rfl (Nx (Sq (Rg (Md 1 [0,1,2,7,9] rfl (Nx (Sq (Rg (Md 1 [0,1,2,7,9] rfl (Nx (Sq (Rg (Mv 2 rfl (Cm hM rfl Tryz.func139 (by kernel_rfl) rfl (string_walk T s r p w hT (by rw [← htt]; exact h) hi.quo) ?_)))))))))))))))))))))))))))))))))))))))))
  clear hM; intro w v hR hM hBe
  obtain ⟨e, rfl, hes⟩ := hR
  intro a hF
  rw [← htt, show p + s.length + 2 = p + t.length by omega] at hF
  revert a; refine Md 9 [1,2,7,9,10,12,13] rfl (Nx (Sq (Sq (Rg (Md 2 [1,2,7,9,10,12,93] rfl (Nx (Cf rfl (Sk (Nx (Sq (Sq (Rg (Md 1 [1,7,9,10,12,96] rfl (Nx (Ct rfl (Sq (Rg (Mv 1 rfl (St hM 0 rfl ?_)))))))))))))))))))
  clear hM; intro w hM
  refine Md 0 [1,7,9,10,12] rfl (Nx (Sq (Rg (Mv 2 rfl (St hM 0 rfl ?_)))))
  clear hM; intro w hM
  refine Md 0 [1,7,9,10,12] rfl (Nx (Sq (Rg (Md 1 [1,7,9,10,100] rfl (Nx (D0 rfl ?_ ?_))))))
  ·
   refine Rg (Mv 3 rfl (Sm (((s.length + 1 : Nat) : Int)) rfl (by omega) ?_)); intro a hF
   refine op_slice_str hF rfl 1 (s.length + 1) rfl rfl rfl Tryz.underlying9 rfl rfl rfl rfl rfl (by omega) (by omega) ?_; clear hF a; intro a hF
   rw [show (t.drop 1).take (s.length + 1 - 1) = s by rw [htt]; simp] at hF
   revert a; refine Mv 1 rfl (St hM 0 rfl ?_)
   clear hM; intro w hM
   refine Md 0 [1,7,9] rfl (Nx (Sq ?_)); intro a hF
   refine draw (by kernel_rfl) ?_
   replace hM := hM.drew
   refine take 0 hF rfl (by kernel_rfl) (by kernel_rfl) (by kernel_rfl) (fun _ _ _ h => h) rfl rfl rfl (gives_move hF rfl rfl) ?_; clear hF a; intro a hF
   refine take 2 hF rfl (by kernel_rfl) (by kernel_rfl) (by kernel_rfl) (fun _ _ _ h => h) rfl rfl rfl (gives_assign hF rfl rfl) ?_; clear hF a; intro a hF
   refine only 1 hF rfl (by kernel_rfl) rfl rfl rfl (gives_loadA hF hM 0 rfl Tryz.underlying135 rfl (by kernel_rfl) rfl rfl) ?_; clear hF a; intro a hF
   refine only_storeA 3 hF hM rfl (by kernel_rfl) rfl rfl 1 rfl (by kernel_rfl) rfl rfl rfl rfl rfl ?_; clear hF hM a; intro a w hF hM
   refine take 4 hF rfl (by kernel_rfl) (by kernel_rfl) (by kernel_rfl) (fun _ _ _ h => h) rfl rfl rfl (gives_assign hF rfl rfl) ?_; clear hF a; intro a hF
   refine drawn (h0 := by kernel_rfl) ?_
   revert a; refine Kp [6,7,8] rfl (Nx (Re (Rt (Rb (Rt (Rb (Rt (Rb (Rt (Rb (Rt (Rb (Rt (Rt (Rb (Rt ?_)))))))))))))))); intro a hF
   exact retMany hF hM rfl rfl (.tmp rfl (.cell 1 rfl rfl Tryz.underlying135 rfl (by kernel_rfl) (.tmp rfl .nil))) ⟨_, rfl, ⟨_, _, _, rfl⟩, hM.below⟩
  refine Rg (Mv 3 rfl (Sm (((s.length + 1 : Nat) : Int)) rfl (by omega) ?_)); intro a hF
  refine op_slice_str hF rfl 1 (s.length + 1) rfl rfl rfl Tryz.underlying9 rfl rfl rfl rfl rfl (by omega) (by omega) ?_; clear hF a; intro a hF
  rw [show (t.drop 1).take (s.length + 1 - 1) = s by rw [htt]; simp] at hF
  revert a; refine Cm hM rfl Tryz.func140 (by kernel_rfl) rfl (unescape_walk s w (by omega) hi) ?_
  clear hM; intro w v hR hM hBe
  obtain ⟨q, rfl, -⟩ := hR
  refine Mv 1 rfl (St hM 0 rfl ?_)
  clear hM; intro w hM
  refine Md 0 [1,7,9] rfl (Nx (Sq ?_)); intro a hF
  refine draw (by kernel_rfl) ?_
  replace hM := hM.drew
  refine take 0 hF rfl (by kernel_rfl) (by kernel_rfl) (by kernel_rfl) (fun _ _ _ h => h) rfl rfl rfl (gives_move hF rfl rfl) ?_; clear hF a; intro a hF
  refine take 2 hF rfl (by kernel_rfl) (by kernel_rfl) (by kernel_rfl) (fun _ _ _ h => h) rfl rfl rfl (gives_assign hF rfl rfl) ?_; clear hF a; intro a hF
  refine only 1 hF rfl (by kernel_rfl) rfl rfl rfl (gives_loadA hF hM 0 rfl Tryz.underlying135 rfl (by kernel_rfl) rfl rfl) ?_; clear hF a; intro a hF
  refine only_storeA 3 hF hM rfl (by kernel_rfl) rfl rfl 1 rfl (by kernel_rfl) rfl rfl rfl rfl rfl ?_; clear hF hM a; intro a w hF hM
  refine take 4 hF rfl (by kernel_rfl) (by kernel_rfl) (by kernel_rfl) (fun _ _ _ h => h) rfl rfl rfl (gives_assign hF rfl rfl) ?_; clear hF a; intro a hF
  refine drawn (h0 := by kernel_rfl) ?_
  revert a; refine Kp [6,7,8] rfl (Nx (Re (Rt (Rb (Rt (Rb (Rt (Rb (Rt (Rb (Rt (Rb (Rt (Rt (Rb (Rt ?_)))))))))))))))); intro a hF
  exact retMany hF hM rfl rfl (.tmp rfl (.cell 1 rfl rfl Tryz.underlying135 rfl (by kernel_rfl) (.tmp rfl .nil))) ⟨_, rfl, ⟨_, _, _, rfl⟩, hM.below⟩
 ·
  have hg0 : t[0]? = some 91 := by rw [htt]; rfl
  refine Rg (Mv 2 rfl ?_); intro a hF
  refine op_index_str hF rfl (p) 91 rfl rfl rfl Tryz.underlying9 rfl rfl (by first | rfl | omega) ((hget 0 hpos).trans hg0) ?_; clear hF a; intro a hF
  revert a; refine Bv rfl rfl (show (((91 : UInt8).toNat : Int) == 123) = false from rfl) (Mv 3 rfl ?_); intro a hF
  refine guard_yes hF rfl rfl rfl rfl rfl rfl ?_
  refine op_index_str hF rfl (p) 91 rfl rfl rfl Tryz.underlying9 rfl rfl (by first | rfl | omega) ((hget 0 hpos).trans hg0) ?_; clear hF a; intro a hF
  revert a; refine Bv rfl rfl (show (((91 : UInt8).toNat : Int) == 91) = true from rfl) (Md 1 [0,1,2,7,9,30] rfl (Nx (Ct rfl (Sq (Rg (Mv 2 rfl (Cm hM rfl Tryz.func167 (by kernel_rfl) rfl (squash_ret T t r p _ t' w hVw hT h htt hn) ?_)))))))
  clear hM; intro w v hR hM hBe
  obtain rfl := hR
  refine Md 5 [0,1,2,7,9,10] rfl (Nx (Sq (Sq (Rg (Md 1 [0,1,2,7,9,10,37] rfl (Nx (Ct rfl (Sq (Rg (Mv 2 rfl (St hM 0 rfl ?_)))))))))))
  clear hM; intro w hM
  refine Md 0 [0,1,2,7,9,10] rfl (Nx (Rg (Mv 1 rfl (St hM 0 rfl ?_))))
  clear hM; intro w hM
  refine Md 0 [0,1,2,7,9,10] rfl (Nx (Sq (Sq (Rg (Md 1 [0,1,7,9,10,41] rfl (Nx (Ct rfl (Rg (Mv 3 rfl ?_))))))))); intro a hF
  refine op_min hF rfl (((p + t.length : Nat) : Int)) rfl rfl rfl rfl rfl (by rw [if_neg (by omega)]) ?_; clear hF a; intro a hF
  revert a; refine Mv 2 rfl (Sm ((p : Int)) rfl (by omega) (Mv 1 rfl (St hM 0 rfl ?_)))
  clear hM; intro w hM
  refine Md 0 [1,7,9] rfl (Nx (Sq ?_)); intro a hF
  refine draw (by kernel_rfl) ?_
  replace hM := hM.drew
  refine take 0 hF rfl (by kernel_rfl) (by kernel_rfl) (by kernel_rfl) (fun _ _ _ h => h) rfl rfl rfl (gives_move hF rfl rfl) ?_; clear hF a; intro a hF
  refine take 2 hF rfl (by kernel_rfl) (by kernel_rfl) (by kernel_rfl) (fun _ _ _ h => h) rfl rfl rfl (gives_assign hF rfl rfl) ?_; clear hF a; intro a hF
  refine only 1 hF rfl (by kernel_rfl) rfl rfl rfl (gives_loadA hF hM 0 rfl Tryz.underlying135 rfl (by kernel_rfl) rfl rfl) ?_; clear hF a; intro a hF
  refine only_storeA 3 hF hM rfl (by kernel_rfl) rfl rfl 1 rfl (by kernel_rfl) rfl rfl rfl rfl rfl ?_; clear hF hM a; intro a w hF hM
  refine take 4 hF rfl (by kernel_rfl) (by kernel_rfl) (by kernel_rfl) (fun _ _ _ h => h) rfl rfl rfl (gives_assign hF rfl rfl) ?_; clear hF a; intro a hF
  refine drawn (h0 := by kernel_rfl) ?_
  revert a; refine Kp [6,7,8] rfl (Nx (Re (Rt (Rb (Rt (Rt (Rb (Rt ?_)))))))); intro a hF
  exact retMany hF hM rfl rfl (.tmp rfl (.cell 1 rfl rfl Tryz.underlying135 rfl (by kernel_rfl) (.tmp rfl .nil))) ⟨_, rfl, ⟨_, _, _, by rw [hk]; rfl⟩, hM.below⟩
 have hg0 : t[0]? = some 123 := by rw [htt]; rfl
 refine Rg (Mv 2 rfl ?_); intro a hF
 refine op_index_str hF rfl (p) 123 rfl rfl rfl Tryz.underlying9 rfl rfl (by first | rfl | omega) ((hget 0 hpos).trans hg0) ?_; clear hF a; intro a hF
 revert a; refine Bv rfl rfl (show (((123 : UInt8).toNat : Int) == 123) = true from rfl) (Md 6 [0,1,2,7,9,30] rfl (Nx (Ct rfl (Sq (Rg (Mv 2 rfl (Cm hM rfl Tryz.func167 (by kernel_rfl) rfl (squash_ret T t r p _ t' w hVw hT h htt hn) ?_)))))))
 clear hM; intro w v hR hM hBe
 obtain rfl := hR
 refine Md 5 [0,1,2,7,9,10] rfl (Nx (Sq (Sq (Rg (Md 1 [0,1,2,7,9,10,37] rfl (Nx (Ct rfl (Sq (Rg (Mv 2 rfl (St hM 0 rfl ?_)))))))))))
 clear hM; intro w hM
 refine Md 0 [0,1,2,7,9,10] rfl (Nx (Rg (Mv 1 rfl (St hM 0 rfl ?_))))
 clear hM; intro w hM
 refine Md 0 [0,1,2,7,9,10] rfl (Nx (Sq (Sq (Rg (Md 1 [0,1,7,9,10,41] rfl (Nx (Ct rfl (Rg (Mv 3 rfl ?_))))))))); intro a hF
 refine op_min hF rfl (((p + t.length : Nat) : Int)) rfl rfl rfl rfl rfl (by rw [if_neg (by omega)]) ?_; clear hF a; intro a hF
 revert a; refine Mv 2 rfl (Sm ((p : Int)) rfl (by omega) (Mv 1 rfl (St hM 0 rfl ?_)))
 clear hM; intro w hM
 refine Md 0 [1,7,9] rfl (Nx (Sq ?_)); intro a hF
 refine draw (by kernel_rfl) ?_
 replace hM := hM.drew
 refine take 0 hF rfl (by kernel_rfl) (by kernel_rfl) (by kernel_rfl) (fun _ _ _ h => h) rfl rfl rfl (gives_move hF rfl rfl) ?_; clear hF a; intro a hF
 refine take 2 hF rfl (by kernel_rfl) (by kernel_rfl) (by kernel_rfl) (fun _ _ _ h => h) rfl rfl rfl (gives_assign hF rfl rfl) ?_; clear hF a; intro a hF
 refine only 1 hF rfl (by kernel_rfl) rfl rfl rfl (gives_loadA hF hM 0 rfl Tryz.underlying135 rfl (by kernel_rfl) rfl rfl) ?_; clear hF a; intro a hF
 refine only_storeA 3 hF hM rfl (by kernel_rfl) rfl rfl 1 rfl (by kernel_rfl) rfl rfl rfl rfl rfl ?_; clear hF hM a; intro a w hF hM
 refine take 4 hF rfl (by kernel_rfl) (by kernel_rfl) (by kernel_rfl) (fun _ _ _ h => h) rfl rfl rfl (gives_assign hF rfl rfl) ?_; clear hF a; intro a hF
 refine drawn (h0 := by kernel_rfl) ?_
 revert a; refine Kp [6,7,8] rfl (Nx (Re (Rt (Rb (Rt (Rt (Rb (Rt ?_)))))))); intro a hF
 exact retMany hF hM rfl rfl (.tmp rfl (.cell 1 rfl rfl Tryz.underlying135 rfl (by kernel_rfl) (.tmp rfl .nil))) ⟨_, rfl, ⟨_, _, _, by rw [hk]; rfl⟩, hM.below⟩
end Go.Sx
namespace Go.Sx
open Go.RowKit Go.Proofs Js Go.Proofs.YtelonenjneonlaaGreatDoorW.PrintWords
theorem parseAnyEnd_walk (T : Str) (p : Nat) (w0 : World) (hT : T.length ≤ 2 ^ 40) (hp : T[p]? = some 93) (hl : p + 1 = T.length) :
    Calls Tryz.prog 141 #[.string (mkS T), .int .i64 (p : Int), .bool true] w0 (Ret fun v w' => v = .tuple #[.int .i64 (T.length : Int), resV 0 [] [] 0 0, .bool false] ∧ Below w0.heap.size w0 w') := by
 have hM : Mem w0.heap.size w0 [] w0 := Mem.start (Nat.le_refl _)
 refine enter (l := [.string (mkS T), .int .i64 (p : Int), .bool true]) 167 Tryz.func141 rfl rfl (fun a hF => ?_)
 replace hF : Fr 170 [(0, .string (mkS T)), (1, .int .i64 (p : Int)), (2, .bool true)] a := hF
 revert a; refine Sq (Rg (Mv 1 rfl ?_)); intro a hF
 refine op_alloc hF hM rfl (vs := [.int .i64 0, .string (mkS []), .string (mkS []), .float .f64 0, .int .i64 0, .slice none 0 0]) rfl rfl rfl (by kernel_rfl) ?_; clear hF hM a; intro a w b7 hF hM
 revert a; refine Md 1 [0,1,2,7] rfl (Nx (Sq (Rg ?_))); intro a hF
 refine op_alloc hF hM rfl (vs := [.int .i64 0, .string (mkS []), .string (mkS []), .float .f64 0, .int .i64 0, .slice none 0 0]) rfl rfl rfl (by kernel_rfl) ?_; clear hF hM a; intro a w b9 hF hM
 revert a; refine Md 0 [0,1,2,7,9] rfl (Nx (Sq (Rg (Md 1 [0,1,2,7,9] rfl (Nx (Sq (Bo (Kp [0,1,2,7,9] rfl ?_)))))))); intro a hF
 refine loopX (fun (i : Nat) a w => Fr 170 [(0, .string (mkS T)), (1, .int .i64 (i : Int)), (2, .bool true), (7, .pointer (some ⟨b7, 0, none⟩)), (9, .pointer (some ⟨b9, 0, none⟩))] a ∧ Mem w0.heap.size w0 [(b9, 135, [.int .i64 0, .string (mkS []), .string (mkS []), .float .f64 0, .int .i64 0, .slice none 0 0]), (b7, 135, [.int .i64 0, .string (mkS []), .string (mkS []), .float .f64 0, .int .i64 0, .slice none 0 0])] w ∧ (i = p ∨ i = T.length)) (fun i => T.length - i) (p) ?_ (fun i a w hI => ?_)
 · exact ⟨hF, hM, .inl rfl⟩
 clear hF hM
 obtain ⟨hF, hM, hi⟩ := hI
 revert a; refine Sq (Sq (Rg (Md 4 [0,1,2,7,9,18] rfl (Nx (Ce rfl (fun ht => ?_) ((fun ht => ?_)))))))
 ·
  have hge := of_decide_eq_false ht
  have hie : i = T.length := by omega
  subst hie
  refine Ex (Ot (Ot (Ob (Nx (Sq ?_))))); intro a hF
  refine draw (by kernel_rfl) ?_
  replace hM := hM.drew
  refine take 0 hF rfl (by kernel_rfl) (by kernel_rfl) (by kernel_rfl) (fun _ _ _ h => h) rfl rfl rfl (gives_move hF rfl rfl) ?_; clear hF a; intro a hF
  refine take 2 hF rfl (by kernel_rfl) (by kernel_rfl) (by kernel_rfl) (fun _ _ _ h => h) rfl rfl rfl (gives_assign hF rfl rfl) ?_; clear hF a; intro a hF
  refine only 1 hF rfl (by kernel_rfl) rfl rfl rfl (gives_loadA hF hM 0 rfl Tryz.underlying135 rfl (by kernel_rfl) rfl rfl) ?_; clear hF a; intro a hF
  refine only_storeA 3 hF hM rfl (by kernel_rfl) rfl rfl 1 rfl (by kernel_rfl) rfl rfl rfl rfl rfl ?_; clear hF hM a; intro a w hF hM
  refine take 4 hF rfl (by kernel_rfl) (by kernel_rfl) (by kernel_rfl) (fun _ _ _ h => h) rfl rfl rfl (gives_assign hF rfl rfl) ?_; clear hF a; intro a hF
  refine drawn (h0 := by kernel_rfl) ?_
  revert a; refine Kp [6,7,8] rfl (Nx (Re ?_)); intro a hF
  exact retMany hF hM rfl rfl (.tmp rfl (.cell 1 rfl rfl Tryz.underlying135 rfl (by kernel_rfl) (.tmp rfl .nil))) ⟨_, rfl, rfl, hM.below⟩
 have hlt := of_decide_eq_true ht
 have hip : i = p := by omega
 subst hip
 refine Sk (Nx (Sq (Bo (Sq (Sq ?_)))))
 skip
 refine Rg (Mv 2 rfl ?_); intro a hF
 refine op_index_str hF rfl (i) 93 rfl rfl rfl Tryz.underlying9 rfl rfl (by first | rfl | omega) hp ?_; clear hF a; intro a hF
 revert a; refine Bv rfl rfl (show (((93 : UInt8).toNat : Int) == 123) = false from rfl) (Mv 3 rfl ?_); intro a hF
 refine guard_yes hF rfl rfl rfl rfl rfl rfl ?_
 refine op_index_str hF rfl (i) 93 rfl rfl rfl Tryz.underlying9 rfl rfl (by first | rfl | omega) hp ?_; clear hF a; intro a hF
 revert a; refine Bv rfl rfl (show (((93 : UInt8).toNat : Int) == 91) = false from rfl) (Md 1 [0,1,2,7,9,30] rfl (Nx (Cf rfl (Sk (Nx (Sq (Sq (Rg (Mv 2 rfl ?_))))))))); intro a hF
 refine op_index_str hF rfl (i) 93 rfl rfl rfl Tryz.underlying9 rfl rfl (by first | rfl | omega) hp ?_; clear hF a; intro a hF
 revert a; refine Md 1 [0,1,2,7,9,55] rfl (Nx (C1 rfl (fun ht => absurd ht (by decide)) (Sk (Nx (Sq (Rg (Md 1 [0,1,2,7,9,11] rfl (Nx (Sq (Sq (Rg (Mv 2 rfl ?_)))))))))))); intro a hF
 refine op_index_str hF rfl (i) 93 rfl rfl rfl Tryz.underlying9 rfl rfl (by first | rfl | omega) hp ?_; clear hF a; intro a hF
 revert a; refine Md 0 [0,1,2,7,9,11,58] rfl (Nx (Bo (Sq (Bo (Sq (Bo (Sq (Bo (Sq (Bo (Sq (Sq (Sq (Rg (Md 2 [0,1,2,7,9,11,58,59] rfl (Nx (C1 rfl (fun ht => absurd ht (by decide)) (Sk (Nx (Sq (Sq (Rg (Md 2 [0,1,2,7,9,11,58,61] rfl (Nx (C1 rfl (fun ht => absurd ht (by decide)) (Sk (Nx (Sq (Sq (Sq (Rg (Md 2 [0,1,2,7,9,11,58,63] rfl (Nx (C1 rfl (fun ht => absurd ht (by decide)) (Rg (Md 2 [0,1,2,7,9,11,58,63] rfl (Nx (C1 rfl (fun ht => absurd ht (by decide)) (Sk (Nx (Sq (Sq (Rg (Md 2 [0,1,2,7,9,11,58,66] rfl (Nx (C1 rfl (fun ht => absurd ht (by decide)) (Sq (Rg (Md 2 [0,1,2,7,9,11,58,66] rfl (Nx (C1 rfl (fun ht => absurd ht (by decide)) (Sq (Rg (Md 2 [0,1,2,7,9,11,58,66] rfl (Nx (C1 rfl (fun ht => absurd ht (by decide)) (Sq (Rg (Md 2 [0,1,2,7,9,11,58,66] rfl (Nx (C1 rfl (fun ht => absurd ht (by decide)) (Sq (Rg (Md 2 [0,1,2,7,9,11,58,66] rfl (Nx (C1 rfl (fun ht => absurd ht (by decide)) (Sq (Rg (Md 2 [0,1,2,7,9,11,58,66] rfl (Nx (C1 rfl (fun ht => absurd ht (by decide)) (Sq (Rg (Md 2 [0,1,2,7,9,11,58,66] rfl (Nx (C1 rfl (fun ht => absurd ht (by decide)) (Sq (Rg (Md 2 [0,1,2,7,9,11,58,66] rfl (Nx (C1 rfl (fun ht => absurd ht (by decide)) (Sq (Rg (Md 2 [0,1,2,7,9,11,58,66] rfl (Nx (C1 rfl (fun ht => absurd ht (by decide)) (Sq (Rg (Md 2 [0,1,2,7,9,11,58,66] rfl (Nx (C1 rfl (fun ht => absurd ht (by decide)) (Sq (Rg (Md 2 [0,1,2,7,9,11,58,66] rfl (Nx (C1 rfl (fun ht => absurd ht (by decide)) (Sq (Rg (Md 2 [0,1,2,7,9,11,58,66] rfl (Nx (C1 rfl (fun ht => absurd ht (by decide)) (Sq (Rg (Md 2 [0,1,2,7,9,11,58,66] rfl (Nx (C1 rfl (fun ht => absurd ht (by decide)) (Sq (Rg (Md 2 [0,1,2,7,9,11,58,66] rfl (Nx (C1 rfl (fun ht => absurd ht (by decide)) (Rg (Md 2 [0,1,2,7,9,11,66] rfl (Nx (C1 rfl (fun ht => absurd ht (by decide)) (Sk (Nx (Ex (Op' rfl (Ot (Op' rfl (Ot (Op' rfl (Ot (Op' rfl (Ot (Ob (Nx (Sq (Rg (Md 1 [0,1,2,7,9,149] rfl (Nx (Cf rfl (Sk (Nb (Nx (Rg (Mv 1 rfl (Sm (((i + 1 : Nat) : Int)) rfl (by omega) (Md 1 [0,1,2,7,9] rfl ?_)))))))))))))))))))))))))))))))))))))))))))))))))))))))))))))))))))))))))))))))))))))))))))))))))))))))))))))))))))))))))))))))))))))))))))); intro a hF
 exact ⟨_, ⟨hF, hM, .inr (by omega)⟩, by omega⟩
end Go.Sx
