/- Part 18 of the proof of FnGjFlattenText: the statement Rows.FnGjFlattenTextCardSaid; no further condition. -/
import Derived.Test.YtelonenjneonlaaGreatDoorQ17
set_option linter.all false
namespace Go.Sx
open Go.RowKit Go.Proofs Js Go.Proofs.YtelonenjneonlaaGreatDoorW.PrintWords
def flatBks (bi bo bd ba bq : Nat) (deep : Bool) (arg X : Str) (cnt : Nat) (vs : List Value) (Lr : List Bk) : List Bk :=
  (bq, 5, vs) :: (bi, 3, [.int .i64 (cnt : Int)]) :: (bo, 66, [.slice (some ⟨bq, 0, none⟩) (X.length + 1) vs.length]) :: (bd, 4, [.bool deep]) :: (ba, 9, [.string (mkS arg)]) :: Lr
def FlatInv (bi bo bd ba : Nat) (deep : Bool) (arg : Str) (Lr : List Bk) (l : List Nd) (m : Nat) (Lc : List Bk) : Prop :=
  ∃ X cnt bq vs, Lc = flatBks bi bo bd ba bq deep arg X cnt vs Lr ∧ Part X l ∧ (X = [] ∧ cnt = 0 ∨ X ≠ [] ∧ 0 < cnt) ∧ cnt ≤ X.length ∧ (X = [] ∨ X.length + 1 ≤ m) ∧ X.length + 1 ≤ vs.length ∧ vs.length ≤ maxLen ∧ vs.take (X.length + 1) = u8s (91 :: X)
def FlatRec (deep : Bool) (arg : Str) (N : Nat) : Prop := ∀ (T : Str) (l : List Nd) (txt : Str) (ks : List Str) (w : World), T.length < N → VchB w → Shows T (.v (.mk 5 txt ks l)) →
  Calls Tryz.prog 72 #[.string (mkS T), .string (mkS arg)] w (Ret fun v w' => (∃ R, v = .string (mkS R) ∧ R.length ≤ T.length ∧ Shows R (.v (.mk 5 [] [] (flats deep l)))) ∧ Below w.heap.size w w')
theorem kind_arr {t : Str} {n : Nd} (h : Shows t (.v n)) (hk : kG n.kind = 5) (h91 : t.head? = some 91) : ∃ txt ks l, n = .mk 5 txt ks l := by
  cases h with
  | arr0 h => exact ⟨_, _, _, rfl⟩
  | arr h => exact ⟨_, _, _, rfl⟩
  | obj0 h => cases h91
  | obj h => cases h91
  | nul => exact absurd hk (by decide)
  | fls => exact absurd hk (by decide)
  | tru => exact absurd hk (by decide)
  | num _ => exact absurd (show (2 : Int) = 5 from hk) (by decide)
  | str _ => exact absurd (show (3 : Int) = 5 from hk) (by decide)
theorem kind_arr' {t : Str} {txt : Str} {ks : List Str} {l : List Nd} (h : Shows t (.v (.mk 5 txt ks l))) : t.head? = some 91 := by
  cases h <;> rfl
theorem flat_other {deep : Bool} {n : Nd} (h : ¬ ∃ txt ks l, n = .mk 5 txt ks l) : flat1 deep n = [n] := by
  cases n with
  | mk k t ks l =>
    simp only [flat1]
    rw [if_neg (fun e => h ⟨_, _, _, by rw [e]⟩)]
structure Piece (raw : Str) (m : List Nd) (n : Nat) (w1 Y w2 : Str) : Prop where
  eq : raw = w1 ++ Y ++ w2
  b1 : Bl w1
  b2 : Bl w2
  part : Part Y m
  nil : Y = [] → w2 = []
  fst : ∀ c, Y.head? = some c → Ink c
  lst : ∀ c, Y.getLast? = some c → Ink c
  len : raw.length ≤ n
theorem piece_val {t : Str} {n : Nd} (h : Shows t (.v n)) : Piece t [n] t.length [] t [] := by
  obtain ⟨h1, h2, h3⟩ := h.outside
  exact ⟨by simp, Bl.nil, Bl.nil, Part.value h, fun _ => rfl, h2, h3, Nat.le_refl _⟩
theorem piece_arr {t txt : Str} {ks : List Str} {l : List Nd} (h : Shows t (.v (.mk 5 txt ks l))) : ∃ raw w1 Y w2, t = 91 :: raw ++ [93] ∧ Piece raw l (t.length - 2) w1 Y w2 := by
  obtain ⟨w1, m, w2, e, h1, h2, h3, h4, h5, h6⟩ := h.inside
  exact ⟨_, w1, m, w2, e, rfl, h1, h2, h3, h4, h5, h6, by rw [e]; simp; omega⟩
theorem flatCb_walk {deep : Bool} {arg : Str} {N : Nat} (hrec : FlatRec deep arg N) (hN : N ≤ 2 ^ 32) {Bc : Nat} {wc : World} (hG : Glob Bc wc) {bi bo bd ba : Nat} {Lr L0 Lc : List Bk} {l : List Nd} {m : Nat} (hI : FlatInv bi bo bd ba deep arg Lr l m Lc) (hm : m ≤ 2 ^ 32)
    {t : Str} {n : Nd} (hs : Shows t (.v n)) (htN : t.length < N) (kc : List Value) (hkc : kc.length = 6) (str : Str) (fl : Nat) (ix : Int) {w0 : World} (hM0 : Mem Bc wc (L0 ++ Lc) w0) :
    Calls Tryz.prog 109 #[.agg kc.toArray, resV (kG n.kind) t str fl ix, .pointer (some ⟨bd, 0, none⟩), .pointer (some ⟨ba, 0, none⟩), .pointer (some ⟨bi, 0, none⟩), .pointer (some ⟨bo, 0, none⟩)] w0
      (Ret fun v w' => v = .bool true ∧ ∃ Lc', FlatInv bi bo bd ba deep arg Lr (l ++ flat1 deep n) (m + t.length + 1) Lc' ∧ Mem Bc wc (L0 ++ Lc') w') := by
 obtain ⟨X, cnt, bq, vs, rfl, hP, hcnt, hcl, hXm, hr1, hr2, hrow⟩ := hI
 have hM := hM0.front
 unfold flatBks at hM
 have ht0 : t ≠ [] := by obtain ⟨c, r, e, _⟩ := hs.first; rw [e]; simp
 have hX32 : X.length ≤ 2 ^ 32 := by rcases hXm with rfl | h; simp; omega
 refine enter (l := [.agg kc.toArray, resV (kG n.kind) t str fl ix, .pointer (some ⟨bd, 0, none⟩), .pointer (some ⟨ba, 0, none⟩), .pointer (some ⟨bi, 0, none⟩), .pointer (some ⟨bo, 0, none⟩)]) 32 Tryz.func109 rfl rfl (fun a hF => ?_)
 replace hF : Fr 38 [(0, .agg kc.toArray), (1, resV (kG n.kind) t str fl ix), (2, .pointer (some ⟨bd, 0, none⟩)), (3, .pointer (some ⟨ba, 0, none⟩)), (4, .pointer (some ⟨bi, 0, none⟩)), (5, .pointer (some ⟨bo, 0, none⟩))] a := hF
 refine seq (region ?_)
 refine op_box hF hM rfl rfl rfl rfl rfl rfl ?_; clear hF hM a; intro a w b6 hF hM
 refine op_box hF hM rfl rfl rfl rfl rfl rfl ?_; clear hF hM a; intro a w b7 hF hM
 revert a; refine Md 1 [2,3,4,5,7] rfl (Nx (Sq (Rg (Md 1 [2,3,4,5,7] rfl (Nx ?_))))); intro a hF
 refine cut (fun a w => ∃ raw w1 Y w2, Fr 38 [(2, .pointer (some ⟨bd, 0, none⟩)), (3, .pointer (some ⟨ba, 0, none⟩)), (4, .pointer (some ⟨bi, 0, none⟩)), (5, .pointer (some ⟨bo, 0, none⟩)), (9, .string (mkS raw))] a ∧ Mem Bc wc ((b7, 135, resL (kG n.kind) t str fl ix) :: (b6, 135, kc) :: flatBks bi bo bd ba bq deep arg X cnt vs Lr ++ L0) w ∧ Piece raw (flat1 deep n) t.length w1 Y w2) ?_ (fun a w h => ?_)
 ·
  refine seq (region ?_)
  refine op_loadA hF hM rfl 0 rfl rfl rfl Tryz.underlying135 rfl (by kernel_rfl) rfl rfl ?_; clear hF a; intro a hF
  revert a; refine Cm hM rfl Tryz.func99 (by kernel_rfl) rfl (isArray_walk _ t str fl ix w (fun _ => ht0) (by omega)) ?_
  clear hM; intro w v hR hM hBe
  obtain ⟨b, rfl, hb⟩ := hR
  refine Md 0 [2,3,4,5,7,11] rfl (Nx (Ce rfl (fun ht => ?_) ((fun ht => ?_))))
  ·
   subst ht
   have hno : ¬ ∃ txt ks l, n = .mk 5 txt ks l := by rintro ⟨_, _, _, rfl⟩; exact absurd (hb.2 ⟨rfl, kind_arr' hs⟩) (by decide)
   have hpc := piece_val hs
   rw [← flat_other (deep := deep) hno] at hpc
   refine Rg (Mv 1 rfl (Ld hM 0 rfl rfl (Md 1 [2,3,4,5,9] rfl ?_))); intro a hF
   exact ⟨_, _, _, _, hF, hM, hpc⟩
  subst ht
  obtain ⟨txt, ks, la, rfl⟩ := kind_arr hs (hb.1 rfl).1 (hb.1 rfl).2
  obtain ⟨raw, w1, Y, w2, het, hpc⟩ := piece_arr hs
  refine Sq (Rg (Ld hM 5 rfl rfl (Md 0 [2,3,4,5,7,12] rfl (Nx (Ce rfl (fun ht => ?_) ((fun ht => ?_)))))))
  ·
   subst ht
   have hpc : Piece raw (flat1 false (.mk 5 txt ks la)) t.length w1 Y w2 := ⟨hpc.eq, hpc.b1, hpc.b2, hpc.part, hpc.nil, hpc.fst, hpc.lst, Nat.le_trans hpc.len (Nat.sub_le _ _)⟩
   refine Rg (Mv 1 rfl (Ld hM 0 rfl rfl ?_)); intro a hF
   rw [het] at hF
   have hrl : raw.length ≤ 2 ^ 40 := by have := hpc.len; omega
   revert a; refine Cm hM rfl Tryz.func104 (by kernel_rfl) rfl (unwrap_walk raw 93 w hrl (by decide)) ?_
   clear hM; intro w v hR hM hBe
   obtain rfl := hR
   refine Md 1 [2,3,4,5,9] rfl ?_; intro a hF
   exact ⟨_, _, _, _, hF, hM, hpc⟩
  subst ht
  refine Rg (Mv 1 rfl (Ld hM 0 rfl rfl (Ld hM 6 rfl rfl (Cm hM rfl Tryz.func72 (by kernel_rfl) rfl (hrec t la txt ks w htN (glob_of hG hM) hs) ?_))))
  clear hM; intro w v hR hM hBe
  obtain ⟨R, rfl, hRl, hRs⟩ := hR
  obtain ⟨raw', w1', Y', w2', het', hpc'⟩ := piece_arr hRs
  have hpc2 : Piece raw' (flat1 true (.mk 5 txt ks la)) t.length w1' Y' w2' := ⟨hpc'.eq, hpc'.b1, hpc'.b2, hpc'.part, hpc'.nil, hpc'.fst, hpc'.lst, by have := hpc'.len; omega⟩
  clear hpc
  have hpc := hpc2
  intro a hF
  rw [het'] at hF
  have hrl : raw'.length ≤ 2 ^ 40 := by have := hpc.len; omega
  revert a; refine Cm hM rfl Tryz.func104 (by kernel_rfl) rfl (unwrap_walk raw' 93 w hrl (by decide)) ?_
  clear hM; intro w v hR hM hBe
  obtain rfl := hR
  refine Md 1 [2,3,4,5,9] rfl ?_; intro a hF
  exact ⟨_, _, _, _, hF, hM, hpc⟩
 clear hF hM
 obtain ⟨raw, w1, Y, w2, hF, hM, hpc⟩ := h
 unfold flatBks at hM
 have hYt : w1.length + Y.length + w2.length ≤ t.length := by have := hpc.len; rw [hpc.eq] at this; simp at this; omega
 revert a; refine Sq (Rg (Mv 1 rfl ?_)); intro a hF
 rw [hpc.eq] at hF
 revert a; refine Cm hM rfl Tryz.func110 (by kernel_rfl) rfl (trimSpace_walk w1 Y w2 w (by simp; omega) hpc.b1 hpc.b2 hpc.nil hpc.fst hpc.lst) ?_
 clear hM; intro w v hR hM hBe
 obtain rfl := hR
 refine Md 1 [4,5,9] rfl (Nx (Sq (Sq ?_)))
 rcases (show (Y = []) ∨ (Y ≠ [] ∧ X ≠ [] ∧ 0 < cnt) ∨ (Y ≠ [] ∧ X = [] ∧ cnt = 0) from (Classical.em (Y = [])).imp id (fun h => hcnt.elim (fun h' => .inr ⟨h, h'⟩) (fun h' => .inl ⟨h, h'⟩))) with hY0 | ⟨hY0, hX0, hc0⟩ | ⟨hY0, hX0, hc0⟩
 ·
  have hYl : Y.length = 0 := by rw [hY0]; rfl
  exact Rg (Md 3 [4,5,9,27] rfl (Nx (C1 rfl (fun ht => absurd (of_decide_eq_true ht) (by omega)) (Sk (Nx (Sq (Rg (Md 1 [8] rfl (Nx (Re (Y1 rfl rfl ⟨_, rfl, rfl, _, ⟨X, cnt, bq, vs, rfl, hP.pass hpc.part hY0, hcnt, hcl, hXm.imp id (fun h => by omega), hr1, hr2, hrow⟩, (hM.drop (L' := flatBks bi bo bd ba bq deep arg X cnt vs Lr ++ L0) (List.Sublist.cons _ (List.Sublist.cons _ (List.Sublist.refl _)))).front⟩)))))))))))
 ·
  have hYl : 0 < Y.length := List.length_pos_iff.2 hY0
  have hXm' : X.length + 1 ≤ m := hXm.elim (fun h => absurd h hX0) id
  refine Rg (Md 3 [4,5,9,27] rfl (Nx (D2 rfl (fun ht => absurd (of_decide_eq_false ht) (by omega)) (Sq (Sq (Rg (Ld hM 3 rfl rfl (Md 1 [4,5,9,29] rfl (Nx (D2 rfl (fun ht => absurd (of_decide_eq_false ht) (by omega)) (Rg (Ld hM 4 rfl rfl ?_)))))))))))); intro a hF
  refine op_build hF hM rfl (m := 1) (parts := [(0, .const (.int .u8 44))]) (vals := [(0, .int .u8 44)]) [.int .u8 44] rfl rfl rfl rfl (by decide) (by decide) (by kernel_rfl) ?_; clear hF hM a; intro a w b31 hF hM
  refine op_append (k := 3) hF hM rfl [.int .u8 44] rfl rfl rfl rfl rfl rfl hr1 hr2 rfl (fun j u hj => hM.cells (k := 0) rfl j hj) (fun u hu => by rw [List.mem_singleton.1 hu]; rfl) (by omega) ?_
  clear hF hM a; intro a w bq1 vs1 hF hr1' hr2' hrow' hM
  replace hM := Mem.back1 (k := 2) hM (Nat.le_of_ble_eq_true rfl)
  rw [hrow, show [.int .u8 44] = u8s [44] from rfl, ← u8s_append] at hrow'
  revert a; refine St hM 4 rfl ?_
  clear hM; intro w hM
  refine Md 0 [4,5,9] rfl ?_
  clear hr1 hr2 hrow
  have hr1 := hr1'
  have hr2 := hr2'
  have hrow := hrow'
  clear hr1' hr2' hrow'
  refine Nx (Sq (Rg (Ld hM 4 rfl rfl (Mv 1 rfl ?_)))); intro a hF
  refine op_append_str (k := 2) hF hM rfl rfl rfl rfl rfl rfl rfl hr1 hr2 (by omega) ?_
  clear hF hM a; intro a w bq2 vs2 hF hr1 hr2 hrow2 hM
  replace hM := Mem.back (k := 2) hM rfl rfl
  rw [hrow, ← u8s_append] at hrow2
  revert a; refine St hM 4 rfl ?_
  clear hM; intro w hM
  refine Md 0 [4] rfl (Nx (Rg (Ld hM 3 rfl rfl (Sm (((cnt + 1 : Nat) : Int)) rfl (by omega) (St hM 3 rfl ?_)))))
  clear hM; intro w hM
  refine Md 0 [] rfl (Nx (Sq (Rg (Md 1 [8] rfl (Nx (Re ?_))))))
  have e : X.length + 1 + 1 + Y.length = (X ++ 44 :: Y).length + 1 := by simp; omega
  have hM2 : Mem Bc wc ((b7, 135, resL (kG n.kind) t str fl ix) :: (b6, 135, kc) :: flatBks bi bo bd ba bq2 deep arg (X ++ 44 :: Y) (cnt + 1) vs2 Lr ++ L0) w := by unfold flatBks; rw [← e]; exact hM
  exact Y1 rfl rfl ⟨_, rfl, rfl, _, ⟨X ++ 44 :: Y, cnt + 1, bq2, vs2, rfl, hP.more hpc.part hX0 hY0, .inr ⟨by simp, by omega⟩, by simp; omega, .inr (by simp; omega), by rw [← e]; exact hr1, hr2, by rw [← e, hrow2]; simp⟩, (hM2.drop (L' := flatBks bi bo bd ba bq2 deep arg (X ++ 44 :: Y) (cnt + 1) vs2 Lr ++ L0) (List.Sublist.cons _ (List.Sublist.cons _ (List.Sublist.refl _)))).front⟩
 have hYl : 0 < Y.length := List.length_pos_iff.2 hY0
 subst hX0
 subst hc0
 refine Rg (Md 3 [4,5,9,27] rfl (Nx (D2 rfl (fun ht => absurd (of_decide_eq_false ht) (by omega)) (Sq (Sq (Rg (Ld hM 3 rfl rfl (Md 1 [4,5,9,29] rfl (Nx (C1 rfl (fun ht => absurd (of_decide_eq_true ht) (by decide)) (Sk (Nx (Sq (Rg (Ld hM 4 rfl rfl (Mv 1 rfl ?_)))))))))))))))); intro a hF
 refine op_append_str (k := 2) hF hM rfl rfl rfl rfl rfl rfl rfl hr1 hr2 (by omega) ?_
 clear hF hM a; intro a w bq2 vs2 hF hr1 hr2 hrow2 hM
 replace hM := Mem.back (k := 2) hM rfl rfl
 rw [hrow, ← u8s_append] at hrow2
 revert a; refine St hM 4 rfl ?_
 clear hM; intro w hM
 refine Md 0 [4] rfl (Nx (Rg (Ld hM 3 rfl rfl (Sm (((1 : Nat) : Int)) rfl (by omega) (St hM 3 rfl ?_)))))
 clear hM; intro w hM
 refine Md 0 [] rfl (Nx (Sq (Rg (Md 1 [8] rfl (Nx (Re ?_))))))
 have e : ([] : Str).length + 1 + Y.length = Y.length + 1 := by simp; omega
 have hM2 : Mem Bc wc ((b7, 135, resL (kG n.kind) t str fl ix) :: (b6, 135, kc) :: flatBks bi bo bd ba bq2 deep arg Y 1 vs2 Lr ++ L0) w := by unfold flatBks; rw [← e]; exact hM
 exact Y1 rfl rfl ⟨_, rfl, rfl, _, ⟨Y, 1, bq2, vs2, rfl, hP.first hpc.part, .inr ⟨hY0, by omega⟩, by omega, .inr (by omega), by rw [← e]; exact hr1, hr2, by rw [← e, hrow2]; rfl⟩, (hM2.drop (L' := flatBks bi bo bd ba bq2 deep arg Y 1 vs2 Lr ++ L0) (List.Sublist.cons _ (List.Sublist.cons _ (List.Sublist.refl _)))).front⟩
end Go.Sx
namespace Go.Sx
open Go.RowKit Go.Proofs Js Go.Proofs.YtelonenjneonlaaGreatDoorW.PrintWords
theorem resString_walk (raw str : Str) (f : Nat) (ix : Int) (w0 : World) :
    Calls Tryz.prog 101 #[resV 3 raw str f ix] w0 (Ret fun v w' => v = .string (mkS str) ∧ Below w0.heap.size w0 w') := by
 have hM : Mem w0.heap.size w0 [] w0 := Mem.start (Nat.le_refl _)
 refine enter (l := [resV 3 raw str f ix]) 56 Tryz.func101 rfl rfl (fun a hF => ?_)
 replace hF : Fr 57 [(0, resV 3 raw str f ix)] a := hF
 refine seq (region ?_)
 refine op_box hF hM rfl rfl rfl rfl rfl rfl ?_; clear hF hM a; intro a w b1 hF hM
 revert a; refine Md 1 [1] rfl (Nx (Sq (Rg (Mv 1 rfl (Ld hM 0 rfl rfl (Md 0 [1,5] rfl (Nx (Bo (Sq (Rg (Md 2 [1,5,6] rfl (Nx (C1 rfl (fun ht => absurd ht (by decide)) (Sq (Rg (Md 2 [1,5,8] rfl (Nx (C1 rfl (fun ht => absurd ht (by decide)) (Sq (Rg (Md 2 [1,5,47] rfl (Nx (D2 rfl (fun ht => absurd ht (by decide)) (Sq (Rg (Mv 1 rfl (Ld hM 0 rfl rfl (Md 1 [2] rfl (Nx (Re (Rb ?_))))))))))))))))))))))))))))))); intro a hF
 exact retOne hF hM rfl (.tmp rfl .nil) ⟨_, rfl, rfl, hM.below⟩
end Go.Sx
namespace Go.Sx
open Go.RowKit Go.Proofs Js Go.Proofs.YtelonenjneonlaaGreatDoorW.PrintWords
theorem resBool_walk (raw str : Str) (f : Nat) (ix : Int) (w0 : World) :
    Calls Tryz.prog 102 #[resV 4 raw str f ix] w0 (Ret fun v w' => v = .bool true ∧ Below w0.heap.size w0 w') := by
 have hM : Mem w0.heap.size w0 [] w0 := Mem.start (Nat.le_refl _)
 refine enter (l := [resV 4 raw str f ix]) 23 Tryz.func102 rfl rfl (fun a hF => ?_)
 replace hF : Fr 24 [(0, resV 4 raw str f ix)] a := hF
 refine seq (region ?_)
 refine op_box hF hM rfl rfl rfl rfl rfl rfl ?_; clear hF hM a; intro a w b1 hF hM
 revert a; refine Md 1 [1] rfl (Nx (Sq (Rg (Mv 1 rfl (Ld hM 0 rfl rfl (Md 0 [1,6] rfl (Nx (Bo (Sq (Rg (Md 2 [1,6,7] rfl (Nx (D2 rfl (fun ht => absurd ht (by decide)) (Sq (Rg (Md 1 [2] rfl (Nx (Re (Rb ?_))))))))))))))))))); intro a hF
 exact retOne hF hM rfl (.tmp rfl .nil) ⟨_, rfl, rfl, hM.below⟩
end Go.Sx
namespace Go.Sx
open Go.RowKit Go.Proofs Js Go.Proofs.YtelonenjneonlaaGreatDoorW.PrintWords
theorem deepCb_walk {Bc : Nat} {wc : World} {bd : Nat} {b : Bool} {Lr L0 : List Bk} (raw raw2 str2 : Str) (fl fl2 : Nat) (ix ix2 : Int) {w0 : World} (hM0 : Mem Bc wc (L0 ++ (bd, 4, [.bool b]) :: Lr) w0) :
    Calls Tryz.prog 108 #[resV 3 raw [100, 101, 101, 112] fl ix, resV 4 raw2 str2 fl2 ix2, .pointer (some ⟨bd, 0, none⟩)] w0
      (Ret fun v w' => v = .bool true ∧ Mem Bc wc (L0 ++ (bd, 4, [.bool true]) :: Lr) w') := by
 have hM := hM0.front
 refine enter (l := [resV 3 raw [100, 101, 101, 112] fl ix, resV 4 raw2 str2 fl2 ix2, .pointer (some ⟨bd, 0, none⟩)]) 8 Tryz.func108 rfl rfl (fun a hF => ?_)
 replace hF : Fr 11 [(0, resV 3 raw [100, 101, 101, 112] fl ix), (1, resV 4 raw2 str2 fl2 ix2), (2, .pointer (some ⟨bd, 0, none⟩))] a := hF
 refine seq (region ?_)
 refine op_box hF hM rfl rfl rfl rfl rfl rfl ?_; clear hF hM a; intro a w b3 hF hM
 refine op_box hF hM rfl rfl rfl rfl rfl rfl ?_; clear hF hM a; intro a w b4 hF hM
 revert a; refine Md 1 [2,3,4] rfl (Nx (Sq (Sq (Rg ?_)))); intro a hF
 refine op_loadA hF hM rfl 1 rfl rfl rfl Tryz.underlying135 rfl (by kernel_rfl) rfl rfl ?_; clear hF a; intro a hF
 revert a; refine Cm hM rfl Tryz.func101 (by kernel_rfl) rfl (resString_walk raw [100, 101, 101, 112] fl ix w) ?_
 clear hM; intro w v hR hM hBe
 obtain rfl := hR
 intro a hF
 refine op_eqlStr hF rfl rfl rfl rfl rfl rfl ?_; clear hF a; intro a hF
 revert a; refine Md 0 [2,4,8] rfl (Nx (D2 rfl (fun ht => absurd ht (by decide)) (Rg ?_))); intro a hF
 refine op_loadA hF hM rfl 0 rfl rfl rfl Tryz.underlying135 rfl (by kernel_rfl) rfl rfl ?_; clear hF a; intro a hF
 revert a; refine Cm hM rfl Tryz.func102 (by kernel_rfl) rfl (resBool_walk raw2 str2 fl2 ix2 w) ?_
 clear hM; intro w v hR hM hBe
 obtain rfl := hR
 refine St hM 2 rfl ?_
 clear hM; intro w hM
 exact Md 0 [] rfl (Nx (Sq (Rg (Md 1 [5] rfl (Nx (Re (Y1 rfl rfl ⟨_, rfl, rfl, (hM.drop (L' := (bd, 4, [.bool true]) :: Lr ++ L0) (List.Sublist.cons _ (List.Sublist.cons _ (List.Sublist.refl _)))).front⟩)))))))
end Go.Sx
namespace Go.Sx
open Go.RowKit Go.Proofs Js Go.Proofs.YtelonenjneonlaaGreatDoorW.PrintWords
theorem bytesString_walk (B : Nat) (w00 : World) (L : List Bk) (k b l c : Nat) (vs : List Value) (bs : Str) (w0 : World) (hM0 : Mem B w00 L w0) (hk : L[k]? = some (b, 5, vs)) (hv : vs.take l = u8s bs) (hl : l = bs.length) :
    Calls Tryz.prog 107 #[.slice (some ⟨b, 0, none⟩) l c] w0 (Ret fun v w' => v = .string (mkS bs) ∧ Below w0.heap.size w0 w') := by
 refine enter (l := [.slice (some ⟨b, 0, none⟩) l c]) 4 Tryz.func107 rfl rfl (fun a hF => ?_)
 replace hF : Fr 5 [(0, .slice (some ⟨b, 0, none⟩) l c)] a := hF
 revert a; refine Sq (Rg (Md 1 [0] rfl (Nx (Sq (Rg (Mv 1 rfl ?_)))))); intro a hF
 refine op_bytesStr hF hM0 rfl bs rfl rfl rfl rfl hk hv hl ?_; clear hF a; intro a hF
 revert a; exact Md 1 [2] rfl (Nx (Re (Y1 rfl rfl ⟨_, rfl, rfl, Below.refl _ _⟩)))
end Go.Sx
namespace Go.Sx
open Go.RowKit Go.Proofs Js Go.Proofs.YtelonenjneonlaaGreatDoorW.PrintWords
def argU : Str := [34, 100, 101, 101, 112, 34, 58, 116, 114, 117, 101, 125]
def argOf (deep : Bool) : Str := if deep then 123 :: argU else []
theorem arr_rest {T txt : Str} {ks : List Str} {l : List Nd} (h : Shows T (.v (.mk 5 txt ks l))) : ∃ (u : Str) (ts : List Str), T = 91 :: u ∧ ts.length = l.length ∧ (∀ (j : Nat) (x : Str) (n : Nd), ts[j]? = some x → l[j]? = some n → Shows x (.v n)) ∧ Js.Rest u (ts.zip (l.map Nd.kind)) ∧ 0 < u.length := by
  cases h with
  | @arr0 w h => exact ⟨w ++ [93], [], rfl, rfl, by simp, .done (bl_sep h), by simp⟩
  | @arr t l h =>
    obtain ⟨ts, h1, h2, h3⟩ := rest_of h _ rfl
    exact ⟨t ++ [93], ts, rfl, h1, h2, h3, by simp⟩
theorem zip_at {ts : List Str} {l : List Nd} (hl : ts.length = l.length) {j : Nat} {t : Str} {k : Nat} (h : (ts.zip (l.map Nd.kind))[j]? = some (t, k)) : ∃ n, l[j]? = some n ∧ ts[j]? = some t ∧ k = n.kind := by
  rw [List.getElem?_zip_eq_some] at h
  obtain ⟨h1, h2⟩ := h
  simp only [List.getElem?_map, Option.map_eq_some_iff] at h2
  obtain ⟨n, h3, h4⟩ := h2
  exact ⟨n, h3, h1, h4.symm⟩
theorem flats_next {deep : Bool} {l : List Nd} {j : Nat} {n : Nd} (h : l[j]? = some n) : flats deep (l.take (j + 1)) = flats deep (l.take j) ++ flat1 deep n := by
  rw [List.take_add_one, h, flats_append]
  simp [flats]
theorem flatArr (hPF : PF) {deep : Bool} {arg : Str} {N : Nat} (hrec : FlatRec deep arg N) (hN : N ≤ 2 ^ 32) {w0 : World} (hV : VchB w0) {u : Str} {ts : List Str} {l : List Nd} (hl : ts.length = l.length)
    (hsh : ∀ (j : Nat) (x : Str) (n : Nd), ts[j]? = some x → l[j]? = some n → Shows x (.v n)) (hre : Js.Rest u (ts.zip (l.map Nd.kind))) (hu : u.length < N) {bi bo bd ba bq : Nat} {vs : List Value} {Lr : List Bk} {w : World} (h1 : 1 ≤ vs.length) (h2 : vs.length ≤ maxLen) (h3 : vs.take 1 = u8s [91])
    (hM : Mem w0.heap.size w0 (flatBks bi bo bd ba bq deep arg [] 0 vs Lr) w) :
    Calls Tryz.prog 95 #[resV 5 (91 :: u) [] 0 0, .func (.func 109) #[] [.pointer (some ⟨bd, 0, none⟩), .pointer (some ⟨ba, 0, none⟩), .pointer (some ⟨bi, 0, none⟩), .pointer (some ⟨bo, 0, none⟩)].toArray] w
      (Ret fun v w' => v = .tuple #[] ∧ ∃ Lc', FlatInv bi bo bd ba deep arg Lr (flats deep l) (lens (ts.zip (l.map Nd.kind))) Lc' ∧ Mem w0.heap.size w0 Lc' w') := by
  have hlens := hre.lens
  have hzl : (ts.zip (l.map Nd.kind)).length = l.length := by simp [hl]
  refine (forEachArr_walk hPF hV Tryz.func109 (by kernel_rfl) rfl _ (fun j Lc => FlatInv bi bo bd ba deep arg Lr (flats deep (l.take j)) (lens ((ts.zip (l.map Nd.kind)).take j)) Lc) u _ hre [] 0 0 ?_ w _ ?_ hM (by omega)).mono ?_
  · intro j t k L0 Lc w kc str fl ix hjt hkc hI hM
    obtain ⟨n, hn, ht, rfl⟩ := zip_at hl hjt
    have hs := hsh j t n ht hn
    have h4 := lens_take hjt
    have h5 := lens_le (ts.zip (l.map Nd.kind)) (j + 1)
    refine (flatCb_walk hrec hN hV hI (by omega) hs (by omega) kc hkc str fl ix hM).mono ?_
    rintro e w' ⟨v, rfl, rfl, Lc', hI', hM'⟩
    refine ⟨_, rfl, rfl, Lc', ?_, hM'⟩
    rw [flats_next hn, h4]
    exact hI'
  · refine ⟨[], 0, bq, vs, rfl, ?_, .inl ⟨rfl, rfl⟩, Nat.le_refl _, .inl rfl, h1, h2, h3⟩
    simp [flats, Part]
  · rintro e w' ⟨v, rfl, rfl, Lc', hI', hM'⟩
    refine ⟨_, rfl, rfl, Lc', ?_, hM'⟩
    rw [hzl, List.take_of_length_le (Nat.le_refl _), List.take_of_length_le (by rw [hzl]; exact Nat.le_refl _)] at hI'
    exact hI'
theorem argU_rest : RestM argU [⟨[100, 101, 101, 112], [116, 114, 117, 101], 2⟩] := by
  refine RestM.more (w := []) (i := [100, 101, 101, 112]) (w2 := [58]) (t := [116, 114, 117, 101]) (u := []) (c := 125) (by simp) (by unfold Ins; simp [pStr_cons]) (fun c hc => ?_) (.tru rfl) (.inr (.inr (.inr rfl))) (.done (by simp))
  rw [List.mem_singleton.1 hc]
  exact .inr (.inr rfl)
theorem deepObj (hPF : PF) {w0 : World} (hV : VchB w0) {bd : Nat} {Lr : List Bk} {w : World} (hM : Mem w0.heap.size w0 ((bd, 4, [.bool false]) :: Lr) w) :
    Calls Tryz.prog 95 #[resV 5 (123 :: argU) [] 0 0, .func (.func 108) #[] [.pointer (some ⟨bd, 0, none⟩)].toArray] w (Ret fun v w' => v = .tuple #[] ∧ Mem w0.heap.size w0 ((bd, 4, [.bool true]) :: Lr) w') := by
  refine (forEachObj_walk hPF hV Tryz.func108 (by kernel_rfl) rfl _ (fun j Lc => Lc = (bd, 4, [.bool (decide (0 < j))]) :: Lr) argU _ argU_rest [] 0 0 ?_ w _ rfl hM (by decide)).mono ?_
  · intro j x L0 Lc w q str fl ix ixk hjx hq hI hM
    have hj : j = 0 ∧ x = ⟨[100, 101, 101, 112], [116, 114, 117, 101], 2⟩ := by
      cases j with
      | zero => simp at hjx; exact ⟨rfl, hjx.symm⟩
      | succ j => simp at hjx
    obtain ⟨rfl, rfl⟩ := hj
    have hpl : ∀ c ∈ [100, 101, 101, 112], c ≠ (92 : UInt8) := by decide
    have hq2 := hq (prd_plain hpl)
    rw [unq_plain _ hpl] at hq2
    subst hq2
    subst hI
    refine (deepCb_walk (b := false) _ _ _ _ _ _ _ hM).mono ?_
    rintro e w' ⟨v, rfl, rfl, hM'⟩
    exact ⟨_, rfl, rfl, _, rfl, hM'⟩
  · rintro e w' ⟨v, rfl, rfl, Lc', hI', hM'⟩
    subst hI'
    exact ⟨_, rfl, rfl, hM'⟩
theorem flatten_step (hPF : PF) {deep : Bool} {arg : Str} (harg : arg = argOf deep) {N : Nat} (hN : N ≤ 2 ^ 32) (hrec : FlatRec deep arg N) : FlatRec deep arg (N + 1) := by
 intro T l txt ks w0 hTN hV hs
 obtain ⟨u, ts, rfl, hl, hsh, hre, hu0⟩ := arr_rest hs
 have hM : Mem w0.heap.size w0 [] w0 := Mem.start (Nat.le_refl _)
 have hlT : (91 :: u).length = u.length + 1 := rfl
 have hlens := hre.lens
 refine enter (l := [.string (mkS (91 :: u)), .string (mkS arg)]) 30 Tryz.func72 rfl rfl (fun a hF => ?_)
 replace hF : Fr 32 [(0, .string (mkS (91 :: u))), (1, .string (mkS arg))] a := hF
 refine seq (region ?_)
 refine op_box hF hM rfl rfl rfl rfl rfl rfl ?_; clear hF hM a; intro a w b3 hF hM
 revert a; refine Md 1 [0,3] rfl (Nx (Sq (Rg (Mv 1 rfl (Cm hM rfl Tryz.func91 (by kernel_rfl) rfl (parse_walk91 u w (by omega)) ?_)))))
 clear hM; intro w v hR hM hBe
 obtain rfl := hR
 intro a hF
 refine op_alloc hF hM rfl (vs := [.int .i64 0, .string (mkS []), .string (mkS []), .float .f64 0, .int .i64 0, .slice none 0 0]) rfl rfl rfl (by kernel_rfl) ?_; clear hF hM a; intro a w b5 hF hM
 refine op_storeA hF hM rfl 0 rfl rfl (by kernel_rfl) rfl rfl rfl rfl (rfl) ?_; clear hF hM a; intro a w  hF hM
 revert a; refine Md 0 [0,3,5] rfl (Nx (Sq (Sq (Rg ?_)))); intro a hF
 refine op_loadA hF hM rfl 0 rfl rfl rfl Tryz.underlying135 rfl (by kernel_rfl) rfl rfl ?_; clear hF a; intro a hF
 revert a; refine Cm hM rfl Tryz.func99 (by kernel_rfl) rfl (isArray_walk 5 (91 :: u) [] 0 0 w (fun _ => by simp) (by omega)) ?_
 clear hM; intro w v hR hM hBe
 obtain ⟨b, rfl, hb⟩ := hR
 have hbt : b = true := hb.2 ⟨rfl, rfl⟩
 subst hbt
 refine Md 1 [0,3,5,13] rfl (Nx (Cf rfl (Sk (Nx (Sq (Rg ?_)))))); intro a hF
 refine op_alloc hF hM rfl (vs := [.bool false]) rfl rfl rfl (by kernel_rfl) ?_; clear hF hM a; intro a w b6 hF hM
 revert a; refine Md 0 [3,5,6] rfl (Nx ?_); intro a hF
 refine cut (fun a w => Fr 32 [(3, .pointer (some ⟨b3, 0, none⟩)), (5, .pointer (some ⟨b5, 0, none⟩)), (6, .pointer (some ⟨b6, 0, none⟩))] a ∧ Mem w0.heap.size w0 [(b6, 4, [.bool deep]), (b5, 135, resL 5 (91 :: u) [] 0 0), (b3, 9, [.string (mkS arg)])] w) ?_ (fun a w h => ?_)
 ·
  revert a; refine Sq (Rg (Ld hM 2 rfl rfl ?_)); intro a hF
  refine op_neqStr hF rfl rfl rfl rfl rfl rfl ?_; clear hF a; intro a hF
  revert a; refine Md 0 [3,5,6,16] rfl (Nx (Ce rfl (fun ht => ?_) ((fun ht => ?_))))
  ·
   have hdp : deep = false := by cases deep with | true => rw [harg] at ht; exact absurd ht (by decide) | false => rfl
   refine Sk (Kp [3,5,6] rfl ?_); intro a hF
   exact ⟨hF, by first | (rw [hdp, harg2]; exact hM) | (rw [hdp]; exact hM)⟩
  have hdp : deep = true := by cases deep with | false => rw [harg] at ht; exact absurd ht (by decide) | true => rfl
  have harg2 : arg = 123 :: argU := by rw [harg, hdp]; rfl
  rw [harg2] at hM
  refine Rg (Ld hM 2 rfl rfl (Cm hM rfl Tryz.func91 (by kernel_rfl) rfl (parse_walk123 argU w (by decide)) ?_))
  clear hM; intro w v hR hM hBe
  obtain rfl := hR
  intro a hF
  refine op_makeFunc hF rfl rfl rfl rfl rfl ?_; clear hF a; intro a hF
  revert a; refine Cl rfl Tryz.func95 (by kernel_rfl) rfl (deepObj hPF hV hM) ?_
  clear hM; intro w v hR
  obtain ⟨rfl, hM⟩ := hR
  refine Md 0 [3,5,6] rfl ?_; intro a hF
  exact ⟨hF, by first | (rw [hdp, harg2]; exact hM) | (rw [hdp]; exact hM)⟩
 clear hF hM
 obtain ⟨hF, hM⟩ := h
 refine seq (region ?_)
 refine op_alloc hF hM rfl (vs := [.slice none 0 0]) rfl rfl rfl (by kernel_rfl) ?_; clear hF hM a; intro a w b7 hF hM
 revert a; refine Md 0 [3,5,6,7] rfl (Nx (Sq (Rg (Ld hM 0 rfl rfl ?_)))); intro a hF
 refine op_build hF hM rfl (m := 1) (parts := [(0, .const (.int .u8 91))]) (vals := [(0, .int .u8 91)]) [.int .u8 91] rfl rfl rfl rfl (by decide) (by decide) (by kernel_rfl) ?_; clear hF hM a; intro a w b22 hF hM
 refine op_appendNil hF hM rfl [.int .u8 91] rfl rfl rfl rfl rfl (by decide) rfl (fun j u hj => hM.cells (k := 0) rfl j hj) (fun u hu => by rw [List.mem_singleton.1 hu]; rfl) (by decide) ?_
 clear hF hM a; intro a w bq vs hF hr1 hr2 hrow hM
 replace hM := hM.drop (List.Sublist.cons₂ _ (List.Sublist.cons _ (List.Sublist.refl _)))
 revert a; refine St hM 1 rfl ?_
 clear hM; intro w hM
 refine Md 0 [3,5,6,7] rfl (Nx (Sq (Rg ?_))); intro a hF
 refine op_alloc hF hM rfl (vs := [.int .i64 0]) rfl rfl rfl (by kernel_rfl) ?_; clear hF hM a; intro a w b8 hF hM
 revert a; refine Md 0 [3,5,6,7,8] rfl (Nx (Sq (Rg ?_))); intro a hF
 refine op_loadA hF hM rfl 4 rfl rfl rfl Tryz.underlying135 rfl (by kernel_rfl) rfl rfl ?_; clear hF a; intro a hF
 refine op_makeFunc hF rfl rfl rfl rfl rfl ?_; clear hF a; intro a hF
 have hM2 : Mem w0.heap.size w0 (flatBks b8 b7 b6 b3 bq deep arg [] 0 vs [(b5, 135, resL 5 (91 :: u) [] 0 0)]) w := hM.perm ((List.Perm.swap _ _ _).trans (.cons _ (.cons _ (.cons _ (.cons _ (List.Perm.swap _ _ _))))))
 revert a; refine Cl rfl Tryz.func95 (by kernel_rfl) rfl (flatArr hPF hrec hN hV hl hsh hre (by omega) hr1 hr2 hrow hM2) ?_
 clear hM hM2 hr1 hr2 hrow; intro w v hR
 obtain ⟨rfl, Lc', ⟨X, cnt, bq2, vs2, rfl, hP, hcnt, hcl, hXm, hr1, hr2, hrow⟩, hM⟩ := hR
 unfold flatBks at hM
 have hXu : X.length + 1 ≤ u.length := by rcases hXm with rfl | h; exact hu0; omega
 refine Md 0 [7] rfl (Nx (Sq (Rg (Ld hM 2 rfl rfl ?_)))); intro a hF
 refine op_build hF hM rfl (m := 1) (parts := [(0, .const (.int .u8 93))]) (vals := [(0, .int .u8 93)]) [.int .u8 93] rfl rfl rfl rfl (by decide) (by decide) (by kernel_rfl) ?_; clear hF hM a; intro a w b28 hF hM
 refine op_append (k := 1) hF hM rfl [.int .u8 93] rfl rfl rfl rfl rfl rfl hr1 hr2 rfl (fun j u hj => hM.cells (k := 0) rfl j hj) (fun u hu => by rw [List.mem_singleton.1 hu]; rfl) (by omega) ?_
 clear hF hM a; intro a w bq3 vs3 hF hr1' hr2' hrow' hM
 replace hM := Mem.back1 (k := 0) hM (Nat.le_of_ble_eq_true rfl)
 rw [hrow, show [.int .u8 93] = u8s [93] from rfl, ← u8s_append] at hrow'
 revert a; refine St hM 2 rfl ?_
 clear hM; intro w hM
 refine Md 0 [7] rfl (Nx (Sq (Rg (Ld hM 2 rfl rfl (Cm hM rfl Tryz.func107 (by kernel_rfl) rfl (bytesString_walk _ _ _ 0 _ _ _ _ (91 :: X ++ [93]) w hM rfl hrow' (by simp)) ?_)))))
 clear hM; intro w v hR hM hBe
 obtain rfl := hR
 exact Md 1 [4] rfl (Nx (Re (Y1 rfl rfl ⟨_, rfl, ⟨_, rfl, by simp; omega, hP.close⟩, hM.below⟩)))
theorem flatten_all (hPF : PF) (deep : Bool) : ∀ N, N ≤ 2 ^ 32 → FlatRec deep (argOf deep) N
  | 0, _ => fun T _ _ _ _ h => absurd h (Nat.not_lt_zero _)
  | N + 1, h => flatten_step hPF rfl (by omega) (flatten_all hPF deep N (by omega))
end Go.Sx
namespace Go.Sx
open Go.RowKit Go.Proofs Js Go.Proofs.YtelonenjneonlaaGreatDoorW.PrintWords
theorem doorFlatten_walk (hPF : PF) (deep : Bool) {T txt : Str} {ks : List Str} {l : List Nd} (w0 : World) (hV : VchB w0) (hT : T.length ≤ 2 ^ 31) (hs : Shows T (.v (.mk 5 txt ks l))) :
    Calls Tryz.prog 46 #[.string (mkS T), .string (mkS (argOf deep))] w0 (Ret fun v w' => (∃ R, v = .string (mkS R) ∧ R.length ≤ T.length ∧ Shows R (.v (.mk 5 [] [] (flats deep l)))) ∧ Below w0.heap.size w0 w') := by
 have hM : Mem w0.heap.size w0 [] w0 := Mem.start (Nat.le_refl _)
 refine enter (l := [.string (mkS T), .string (mkS (argOf deep))]) 6 Tryz.func46 rfl rfl (fun a hF => ?_)
 replace hF : Fr 8 [(0, .string (mkS T)), (1, .string (mkS (argOf deep)))] a := hF
 revert a; refine Sq (Rg (Md 1 [0,1] rfl (Nx (Sq (Rg (Mv 2 rfl (Cm hM rfl Tryz.func72 (by kernel_rfl) rfl (flatten_all hPF deep (2 ^ 31 + 1) (by decide) T l txt ks w0 (by omega) hV hs) ?_)))))))
 clear hM; intro w v hR hM hBe
 obtain ⟨R, rfl, hRl, hRs⟩ := hR
 exact Md 1 [4] rfl (Nx (Re (Y1 rfl rfl ⟨_, rfl, ⟨_, rfl, hRl, hRs⟩, hM.below⟩)))
theorem gjFlatten_walk (hPF : PF) (deep : Bool) {T txt : Str} {ks : List Str} {l : List Nd} (w0 : World) (hV : VchB w0) (hT : T.length ≤ 2 ^ 31) (hs : Shows T (.v (.mk 5 txt ks l))) :
    Calls Tryz.prog 23 #[.string (mkS T), .string (mkS (argOf deep))] w0 (Ret fun v w' => (∃ R, v = .string (mkS R) ∧ R.length ≤ T.length ∧ Shows R (.v (.mk 5 [] [] (flats deep l)))) ∧ Below w0.heap.size w0 w') := by
 have hM : Mem w0.heap.size w0 [] w0 := Mem.start (Nat.le_refl _)
 refine enter (l := [.string (mkS T), .string (mkS (argOf deep))]) 6 Tryz.func23 rfl rfl (fun a hF => ?_)
 replace hF : Fr 8 [(0, .string (mkS T)), (1, .string (mkS (argOf deep)))] a := hF
 revert a; refine Sq (Rg (Md 1 [0,1] rfl (Nx (Sq (Rg (Mv 2 rfl (Cm hM rfl Tryz.func46 (by kernel_rfl) rfl (doorFlatten_walk hPF deep w0 hV hT hs) ?_)))))))
 clear hM; intro w v hR hM hBe
 obtain ⟨R, rfl, hRl, hRs⟩ := hR
 exact Md 1 [4] rfl (Nx (Re (Y1 rfl rfl ⟨_, rfl, ⟨_, rfl, hRl, hRs⟩, hM.below⟩)))
end Go.Sx
namespace Go.Sx
open Go.RowKit Go.Proofs Js Go.Proofs.YtelonenjneonlaaGreatDoorW.PrintWords
theorem commonPrefix_walk (s p : Str) (hs : s.length ≤ 2 ^ 41) (w0 : World) :
    Calls Tryz.prog 241 #[.string (mkS s), .string (mkS p)] w0 (Ret fun v w' => (∃ z : Int, v = .int .i64 z) ∧ Below w0.heap.size w0 w') := by
 have hM : Mem w0.heap.size w0 [] w0 := Mem.start (Nat.le_refl _)
 obtain ⟨m, hm⟩ : ∃ m, m = min s.length p.length := ⟨_, rfl⟩
 refine enter (l := [.string (mkS s), .string (mkS p)]) 34 Tryz.func241 rfl rfl (fun a hF => ?_)
 replace hF : Fr 36 [(0, .string (mkS s)), (1, .string (mkS p))] a := hF
 revert a; refine Sq (Rg (Md 1 [0,1] rfl (Nx (Sq (Rg (Mv 4 rfl ?_)))))); intro a hF
 refine op_min hF rfl ((m : Int)) rfl rfl rfl rfl rfl (by split <;> omega) ?_; clear hF a; intro a hF
 revert a; refine Md 1 [0,1,5] rfl (Nx (Sq (Sq (Rg (Md 1 [0,1,5,6] rfl (Nx (Bo (Kp [0,1,5,6] rfl ?_)))))))); intro a hF
 refine loopX (fun (i : Nat) a w => Fr 36 [(0, .string (mkS s)), (1, .string (mkS p)), (5, .int .i64 (m : Int)), (6, .int .i64 (i : Int))] a ∧ Mem w0.heap.size w0 [] w ∧ i ≤ m) (fun i => m - i) (0) ?_ (fun i a w hI => ?_)
 · exact ⟨hF, hM, Nat.zero_le _⟩
 clear hF hM
 obtain ⟨hF, hM, him⟩ := hI
 revert a; refine Sq (Sq (Rg (Md 3 [0,1,5,6,15] rfl (Nx (D1 rfl ?_ ((fun ht => ?_)))))))
 · exact Ex (Ot (Ot (Ob (Nx (Sq (Rg (Md 2 [4] rfl (Nx (Re (Y1 rfl rfl ⟨_, rfl, ⟨_, rfl⟩, hM.below⟩))))))))))
 have hlt : i < m := by have := of_decide_eq_true ht; omega
 obtain ⟨c, hc⟩ : ∃ c, s[i]? = some c := ⟨_, List.getElem?_eq_getElem (by omega)⟩
 obtain ⟨d, hd⟩ : ∃ c, p[i]? = some c := ⟨_, List.getElem?_eq_getElem (by omega)⟩
 refine Sk (Nx (Sq (Bo (Sq (Rg (Mv 2 rfl ?_)))))); intro a hF
 refine op_index_str hF rfl (i) c rfl rfl rfl Tryz.underlying9 rfl rfl (by first | rfl | omega) hc ?_; clear hF a; intro a hF
 revert a; refine Md 1 [0,1,5,6,7] rfl (Nx ?_); intro a hF
 refine cutF (fun a w => ∃ z : Int, Fr 36 [(0, .string (mkS s)), (1, .string (mkS p)), (5, .int .i64 (m : Int)), (6, .int .i64 (i : Int)), (7, .int .u8 z)] a ∧ Mem w0.heap.size w0 [] w) (fun a w h => ?_) ?_
 ·
  clear hF hM
  obtain ⟨z, hF, hM⟩ := h
  revert a; refine Sq (Rg (Mv 3 rfl ?_)); intro a hF
  refine op_index_str hF rfl (i) d rfl rfl rfl Tryz.underlying9 rfl rfl (by first | rfl | omega) hd ?_; clear hF a; intro a hF
  revert a; refine Md 1 [0,1,5,6,33] rfl (Nx (D0 rfl ?_ ?_))
  ·
   refine Sk (Nb (Nx (Rg (Mv 1 rfl (Sm (((i + 1 : Nat) : Int)) rfl (by omega) (Md 1 [0,1,5,6] rfl ?_)))))); intro a hF
   exact ⟨i + 1, ⟨hF, hM, by omega⟩, by omega⟩
  exact Sq (Rg (Md 2 [4] rfl (Nx (Re (Rb (Rt (Rt (Rb (Rt (Y1 rfl rfl ⟨_, rfl, ⟨_, rfl⟩, hM.below⟩))))))))))
 revert a; refine Sq ?_
 rcases (show c.toNat < 65 ∨ 65 ≤ c.toNat by omega) with hk | hk
 ·
  refine Rg (Mv 1 rfl (Bv rfl rfl (decide_eq_false (show ¬ ((65 : Int) ≤ (c.toNat : Int)) by omega)) (Md 4 [0,1,5,6,7,26] rfl (Nx (Cf rfl (Sk (Kp [0,1,5,6,7] rfl ?_))))))); intro a hF
  exact ⟨_, hF, hM⟩
 refine Rg (Mv 1 rfl (Bv rfl rfl (decide_eq_true (show (65 : Int) ≤ (c.toNat : Int) by omega)) (Md 4 [0,1,5,6,7,26] rfl (Nx (D0 rfl ?_ ?_)))))
 ·
  refine Sk (Kp [0,1,5,6,7] rfl ?_); intro a hF
  exact ⟨_, hF, hM⟩
 refine Rg (Md 3 [0,1,5,6,7] rfl ?_); intro a hF
 exact ⟨_, hF, hM⟩
end Go.Sx
namespace Go.Sx
open Go.RowKit Go.Proofs Js Go.Proofs.YtelonenjneonlaaGreatDoorW.PrintWords
theorem inf_walk (z : Int) (w0 : World) :
    Calls Tryz.prog 242 #[.int .i64 z] w0 (Ret fun v w' => (∃ f, v = .float .f64 f) ∧ Below w0.heap.size w0 w') := by
 have hM : Mem w0.heap.size w0 [] w0 := Mem.start (Nat.le_refl _)
 refine enter (l := [.int .i64 z]) 7 Tryz.func242 rfl rfl (fun a hF => ?_)
 replace hF : Fr 8 [(0, .int .i64 z)] a := hF
 revert a; refine Sq (Rg (Md 1 [0] rfl (Nx (Sq (Rg (Md 1 [0] rfl (Nx (Sq (Sq (Rg (Md 2 [5] rfl (Nx (C0 rfl ?_ ?_)))))))))))))
 ·
  refine Rg (Md 1 [3] rfl (Nx (Sq (Rg (Mv 1 rfl ?_))))); intro a hF
  refine op_frombits hF rfl rfl rfl rfl rfl ?_; clear hF a; intro a hF
  revert a; exact Md 1 [2] rfl (Nx (Re (Y1 rfl rfl ⟨_, rfl, ⟨_, rfl⟩, hM.below⟩)))
 refine Rg (Md 1 [3] rfl (Nx (Sq (Rg (Mv 1 rfl ?_))))); intro a hF
 refine op_frombits hF rfl rfl rfl rfl rfl ?_; clear hF a; intro a hF
 revert a; exact Md 1 [2] rfl (Nx (Re (Y1 rfl rfl ⟨_, rfl, ⟨_, rfl⟩, hM.below⟩)))
theorem nan_walk (w0 : World) :
    Calls Tryz.prog 243 #[] w0 (Ret fun v w' => (∃ f, v = .float .f64 f) ∧ Below w0.heap.size w0 w') := by
 have hM : Mem w0.heap.size w0 [] w0 := Mem.start (Nat.le_refl _)
 refine enter (l := []) 2 Tryz.func243 rfl rfl (fun a hF => ?_)
 replace hF : Fr 2 [] a := hF
 revert a; refine Sq (Rg (Md 1 [] rfl (Nx (Sq (Rg ?_))))); intro a hF
 refine op_frombits hF rfl rfl rfl rfl rfl ?_; clear hF a; intro a hF
 revert a; exact Md 1 [0] rfl (Nx (Re (Y1 rfl rfl ⟨_, rfl, ⟨_, rfl⟩, hM.below⟩)))
theorem bool2u_walk (x : Bool) (w0 : World) :
    Calls Tryz.prog 214 #[.bool x] w0 (Ret fun v w' => (v = .int .u64 (if x then 1 else 0)) ∧ Below w0.heap.size w0 w') := by
 have hM : Mem w0.heap.size w0 [] w0 := Mem.start (Nat.le_refl _)
 refine enter (l := [.bool x]) 3 Tryz.func214 rfl rfl (fun a hF => ?_)
 replace hF : Fr 4 [(0, .bool x)] a := hF
 revert a; refine Sq (Rg (Md 1 [0] rfl (Nx (Sq (Sq (Rg (Md 1 [3] rfl (Nx (Cd rfl (fun ht => ?_) ((fun ht => ?_)))))))))))
 ·
  subst ht
  exact Sq (Rg (Md 1 [2] rfl (Nx (Re (Rt (Y1 rfl rfl ⟨_, rfl, rfl, hM.below⟩))))))
 subst ht
 exact Sk (Nx (Sq (Rg (Md 1 [2] rfl (Nx (Re (Y1 rfl rfl ⟨_, rfl, rfl, hM.below⟩)))))))
theorem bool2i_walk (x : Bool) (w0 : World) :
    Calls Tryz.prog 232 #[.bool x] w0 (Ret fun v w' => (v = .int .i64 (if x then 1 else 0)) ∧ Below w0.heap.size w0 w') := by
 have hM : Mem w0.heap.size w0 [] w0 := Mem.start (Nat.le_refl _)
 refine enter (l := [.bool x]) 3 Tryz.func232 rfl rfl (fun a hF => ?_)
 replace hF : Fr 4 [(0, .bool x)] a := hF
 revert a; refine Sq (Rg (Md 1 [0] rfl (Nx (Sq (Sq (Rg (Md 1 [3] rfl (Nx (Cd rfl (fun ht => ?_) ((fun ht => ?_)))))))))))
 ·
  subst ht
  exact Sq (Rg (Md 1 [2] rfl (Nx (Re (Rt (Y1 rfl rfl ⟨_, rfl, rfl, hM.below⟩))))))
 subst ht
 exact Sk (Nx (Sq (Rg (Md 1 [2] rfl (Nx (Re (Y1 rfl rfl ⟨_, rfl, rfl, hM.below⟩)))))))
theorem round_walk (z : Int) (w0 : World) :
    Calls Tryz.prog 231 #[.int .u64 z] w0 (Ret fun v w' => (∃ z' : Int, v = .int .u64 z') ∧ Below w0.heap.size w0 w') := by
 have hM : Mem w0.heap.size w0 [] w0 := Mem.start (Nat.le_refl _)
 refine enter (l := [.int .u64 z]) 9 Tryz.func231 rfl rfl (fun a hF => ?_)
 replace hF : Fr 10 [(0, .int .u64 z)] a := hF
 revert a; exact Sq (Rg (Md 1 [0] rfl (Nx (Sq (Rg (Mv 3 rfl (Gv rfl (fun _ hF => gives_shr (2) (_) hF rfl rfl rfl rfl rfl _) (Gv rfl (fun _ hF => gives_bits (_) hF rfl rfl rfl rfl _) (Mv 1 rfl (Gv rfl (fun _ hF => gives_shr (2) (_) hF rfl rfl rfl rfl rfl _) (Md 1 [2] rfl (Nx (Re (Y1 rfl rfl ⟨_, rfl, ⟨_, rfl⟩, hM.below⟩))))))))))))))
theorem unmin_walk (z : Int) (w0 : World) :
    Calls Tryz.prog 233 #[.int .u64 z] w0 (Ret fun v w' => (∃ z' : Int, v = .int .u64 z') ∧ Below w0.heap.size w0 w') := by
 have hM : Mem w0.heap.size w0 [] w0 := Mem.start (Nat.le_refl _)
 refine enter (l := [.int .u64 z]) 5 Tryz.func233 rfl rfl (fun a hF => ?_)
 replace hF : Fr 6 [(0, .int .u64 z)] a := hF
 revert a; exact Sq (Rg (Md 1 [0] rfl (Nx (Sq (Rg (Mv 1 rfl (Gv rfl (fun _ hF => gives_shl (2) (_) hF rfl rfl rfl rfl rfl _) (Md 2 [2] rfl (Nx (Re (Y1 rfl rfl ⟨_, rfl, ⟨_, rfl⟩, hM.below⟩)))))))))))
theorem mul64_walk (x y : Int) (w0 : World) :
    Calls Tryz.prog 249 #[.int .u64 x, .int .u64 y] w0 (Ret fun v w' => (∃ hi lo : Int, v = .tuple #[.int .u64 hi, .int .u64 lo]) ∧ Below w0.heap.size w0 w') := by
 have hM : Mem w0.heap.size w0 [] w0 := Mem.start (Nat.le_refl _)
 refine enter (l := [.int .u64 x, .int .u64 y]) 49 Tryz.func249 rfl rfl (fun a hF => ?_)
 replace hF : Fr 51 [(0, .int .u64 x), (1, .int .u64 y)] a := hF
 revert a; exact Sq (Rg (Md 2 [0,1] rfl (Nx (Sq (Rg (Mv 1 rfl (Gv rfl (fun _ hF => gives_bits (_) hF rfl rfl rfl rfl _) (Md 1 [0,1,6] rfl (Nx (Sq (Rg (Mv 1 rfl (Gv rfl (fun _ hF => gives_shr (32) (_) hF rfl rfl rfl rfl rfl _) (Md 1 [0,1,6,7] rfl (Nx (Sq (Rg (Mv 1 rfl (Gv rfl (fun _ hF => gives_bits (_) hF rfl rfl rfl rfl _) (Md 1 [0,1,6,7,8] rfl (Nx (Sq (Rg (Mv 1 rfl (Gv rfl (fun _ hF => gives_shr (32) (_) hF rfl rfl rfl rfl rfl _) (Md 1 [0,1,6,7,8,9] rfl (Nx (Sq (Rg (Md 4 [0,1,6,7,8,9,10] rfl (Nx (Sq (Rg (Mv 4 rfl (Gv rfl (fun _ hF => gives_shr (32) (_) hF rfl rfl rfl rfl rfl _) (Md 2 [0,1,6,7,9,11] rfl (Nx (Sq (Rg (Mv 1 rfl (Gv rfl (fun _ hF => gives_bits (_) hF rfl rfl rfl rfl _) (Md 1 [0,1,6,7,9,11,12] rfl (Nx (Sq (Rg (Mv 1 rfl (Gv rfl (fun _ hF => gives_shr (32) (_) hF rfl rfl rfl rfl rfl _) (Md 1 [0,1,6,7,9,12,13] rfl (Nx (Sq (Rg (Md 6 [0,1,7,9,12,13] rfl (Nx (Sq (Rg (Mv 6 rfl (Gv rfl (fun _ hF => gives_shr (32) (_) hF rfl rfl rfl rfl rfl _) (Md 2 [0,1,4] rfl (Nx (Sq (Rg (Md 4 [4,5] rfl (Nx (Re (Y2 rfl rfl rfl ⟨_, rfl, ⟨_, _, rfl⟩, hM.below⟩)))))))))))))))))))))))))))))))))))))))))))))))))))))))))))))))))
theorem log2_walk (p : Int) (hp : -400 ≤ p ∧ p ≤ 400) (w0 : World) :
    Calls Tryz.prog 226 #[.int .i64 p] w0 (Ret fun v w' => (∃ l : Int, v = .int .i64 l ∧ -2000 ≤ l ∧ l ≤ 2000) ∧ Below w0.heap.size w0 w') := by
 have hM : Mem w0.heap.size w0 [] w0 := Mem.start (Nat.le_refl _)
 refine enter (l := [.int .i64 p]) 5 Tryz.func226 rfl rfl (fun a hF => ?_)
 replace hF : Fr 6 [(0, .int .i64 p)] a := hF
 revert a; refine Sq (Rg (Md 1 [0] rfl (Nx (Sq (Rg (Mv 1 rfl (Sm (p * 108853) rfl (by omega) (Gv rfl (fun _ hF => gives_shr (15) (_) hF rfl rfl rfl rfl rfl _) (Md 1 [2] rfl (Nx (Re ?_))))))))))); intro a hF
 refine ret1 hF rfl rfl ⟨_, rfl, ⟨_, rfl, ?_, ?_⟩, hM.below⟩ <;> (rw [show min 15 IntKind.i64.bits = 15 from rfl, Int.fdiv_eq_ediv_of_nonneg _ (by decide)]; omega)
theorem pack_walk (m e : Int) (w0 : World) :
    Calls Tryz.prog 246 #[.int .u64 m, .int .i64 e] w0 (Ret fun v w' => (∃ f er, v = .tuple #[.float .f64 f, er] ∧ ErOk er) ∧ Below w0.heap.size w0 w') := by
 have hM : Mem w0.heap.size w0 [] w0 := Mem.start (Nat.le_refl _)
 refine enter (l := [.int .u64 m, .int .i64 e]) 24 Tryz.func246 rfl rfl (fun a hF => ?_)
 replace hF : Fr 26 [(0, .int .u64 m), (1, .int .i64 e)] a := hF
 revert a; refine Sq (Rg (Md 2 [0,1] rfl (Nx (Sq (Sq (Rg (Mv 1 rfl (Gv rfl (fun _ hF => gives_bits (_) hF rfl rfl rfl rfl _) (Md 1 [0,1,8] rfl (Nx (C0 rfl ?_ ?_)))))))))))
 ·
  refine Sq (Rg (Mv 1 rfl ?_)); intro a hF
  refine op_frombits hF rfl rfl rfl rfl rfl ?_; clear hF a; intro a hF
  revert a; exact Md 2 [4,5] rfl (Nx (Re (Rt (Y2 rfl rfl rfl ⟨_, rfl, ⟨_, _, rfl, by first | exact .inl rfl | exact .inr ⟨1, .inl rfl, rfl⟩⟩, hM.below⟩))))
 refine Sk (Nx (Sq (Sq (Rg (Md 2 [0,1,12] rfl (Nx (C0 rfl ?_ ?_)))))))
 ·
  refine Sq (Rg (Mv 1 rfl (Gv rfl (fun _ hF => gives_bits (_) hF rfl rfl rfl rfl _) (Gv rfl (fun _ hF => gives_bits (_) hF rfl rfl rfl rfl _) ?_)))); intro a hF
  refine op_frombits hF rfl rfl rfl rfl rfl ?_; clear hF a; intro a hF
  revert a; exact Gv rfl (fun _ hF => gives_mkIface hF rfl Tryz.underlying168 rfl rfl _) (Md 2 [4,5] rfl (Nx (Re (Rt (Y2 rfl rfl rfl ⟨_, rfl, ⟨_, _, rfl, by first | exact .inl rfl | exact .inr ⟨1, .inl rfl, rfl⟩⟩, hM.below⟩)))))
 refine Sk (Nx (Sq (Rg (Mv 1 rfl (Gv rfl (fun _ hF => gives_bits (_) hF rfl rfl rfl rfl _) (Mv 3 rfl (Gv rfl (fun _ hF => gives_shl (52) (_) hF rfl rfl rfl rfl rfl _) (Gv rfl (fun _ hF => gives_bits (_) hF rfl rfl rfl rfl _) ?_)))))))); intro a hF
 refine op_frombits hF rfl rfl rfl rfl rfl ?_; clear hF a; intro a hF
 revert a; exact Md 2 [4,5] rfl (Nx (Re (Y2 rfl rfl rfl ⟨_, rfl, ⟨_, _, rfl, by first | exact .inl rfl | exact .inr ⟨1, .inl rfl, rfl⟩⟩, hM.below⟩)))
end Go.Sx
namespace Go.Sx
open Go.RowKit Go.Proofs Js Go.Proofs.YtelonenjneonlaaGreatDoorW.PrintWords
theorem special_walk (s : Str) (hs : s.length ≤ 2 ^ 41) (w0 : World) :
    Calls Tryz.prog 205 #[.string (mkS s)] w0 (Ret fun v w' => (∃ (f : Nat) (n : Int) (ok : Bool), v = .tuple #[.float .f64 f, .int .i64 n, .bool ok]) ∧ Below w0.heap.size w0 w') := by
 have hM : Mem w0.heap.size w0 [] w0 := Mem.start (Nat.le_refl _)
 refine enter (l := [.string (mkS s)]) 49 Tryz.func205 rfl rfl (fun a hF => ?_)
 replace hF : Fr 50 [(0, .string (mkS s))] a := hF
 revert a; refine Sq (Rg (Md 3 [0] rfl (Nx (Sq (Sq (Rg (Md 3 [0,10] rfl (Nx (C2 rfl ?_ ((fun ht => ?_)))))))))))
 · exact Sq (Rg (Md 3 [2,3,4] rfl (Nx (Re (Rt (Y3 rfl rfl rfl rfl ⟨_, rfl, ⟨_, _, _, rfl⟩, hM.below⟩))))))
 have hne : ¬ s.length = 0 := by have := ht; simp at this; intro e; exact this (List.length_eq_zero_iff.1 e)
 obtain ⟨c, hc⟩ : ∃ c, s[0]? = some c := ⟨_, List.getElem?_eq_getElem (by omega)⟩
 refine Sk (Nx (Sq (Rg (Md 1 [0,5] rfl (Nx (Sq (Rg (Md 1 [0,5,6] rfl (Nx ?_))))))))); intro a hF
 refine cutF (fun a w => Fr 50 [] a ∧ Mem w0.heap.size w0 [] w) (fun a w h => ?_) ?_
 ·
  clear hF hM
  obtain ⟨hF, hM⟩ := h
  revert a; exact Sq (Rg (Md 3 [2,3,4] rfl (Nx (Re (Y3 rfl rfl rfl rfl ⟨_, rfl, ⟨_, _, _, rfl⟩, hM.below⟩)))))
 revert a; refine Sq (Rg (Mv 1 rfl ?_)); intro a hF
 refine op_index_str hF rfl (0) c rfl rfl rfl Tryz.underlying9 rfl rfl (by first | rfl | omega) hc ?_; clear hF a; intro a hF
 revert a; refine Md 0 [0,5,6,12] rfl (Nx (Bo ?_)); intro a hF
 refine cutF (fun a w => ∃ (t : Str), t.length ≤ 2 ^ 41 ∧ Fr 50 [(0, .string (mkS t))] a ∧ Mem w0.heap.size w0 [] w) (fun a w h => ?_) ?_
 ·
  clear hF hM
  obtain ⟨t, hs2, hF, hM⟩ := h
  revert a; refine Sq (Sq (Rg (Mv 1 rfl (Cm hM rfl Tryz.func241 (by kernel_rfl) rfl (commonPrefix_walk t [110, 97, 110] hs2 w) ?_))))
  clear hM; intro w v hR hM hBe
  obtain ⟨z, rfl⟩ := hR
  refine Md 1 [48] rfl (Nx (D0 rfl ?_ ?_))
  ·
   refine Sk (Nx (Ex (Ob (Kp [] rfl ?_)))); intro a hF
   exact ⟨hF, hM⟩
  refine Sq (Rg (Cm hM rfl Tryz.func243 (by kernel_rfl) rfl (nan_walk w) ?_))
  clear hM; intro w v hR hM hBe
  obtain ⟨f, rfl⟩ := hR
  exact Md 3 [2,3,4] rfl (Nx (Re (Rt (Rb (Rt (Y3 rfl rfl rfl rfl ⟨_, rfl, ⟨_, _, _, rfl⟩, hM.below⟩))))))
 refine wp_block ?_
 refine cutF (fun a w => ∃ (t : Str) (sg ns : Int), t.length ≤ 2 ^ 41 ∧ Fr 50 [(0, .string (mkS t)), (5, .int .i64 sg), (6, .int .i64 ns)] a ∧ Mem w0.heap.size w0 [] w) (fun a w h => ?_) ?_
 ·
  clear hF hM
  obtain ⟨t, sg, ns, hs2, hF, hM⟩ := h
  revert a; refine Sq (Sq (Rg (Mv 1 rfl (Cm hM rfl Tryz.func241 (by kernel_rfl) rfl (commonPrefix_walk t [105, 110, 102, 105, 110, 105, 116, 121] hs2 w) ?_))))
  clear hM; intro w v hR hM hBe
  obtain ⟨z, rfl⟩ := hR
  refine Md 1 [5,6,7] rfl (Nx ?_); intro a hF
  refine cut (fun a w => ∃ z : Int, Fr 50 [(5, .int .i64 sg), (6, .int .i64 ns), (7, .int .i64 z)] a ∧ Mem w0.heap.size w0 [] w) ?_ (fun a w h => ?_)
  ·
   revert a; refine Sq ?_
   rcases (show 3 < z ∨ ¬ 3 < z by omega) with hk | hk
   ·
    refine Rg (Mv 1 rfl (Bv rfl rfl (decide_eq_true (show (3 : Int) < z by omega)) (Md 4 [5,6,7,34] rfl (Nx (D0 rfl ?_ ?_)))))
    ·
     refine Sk (Kp [5,6,7] rfl ?_); intro a hF
     exact ⟨_, hF, hM⟩
    refine Rg (Md 1 [5,6,7] rfl ?_); intro a hF
    exact ⟨_, hF, hM⟩
   refine Rg (Mv 1 rfl (Bv rfl rfl (decide_eq_false (show ¬ ((3 : Int) < z) by omega)) (Md 4 [5,6,7,34] rfl (Nx (Cf rfl (Sk (Kp [5,6,7] rfl ?_))))))); intro a hF
   exact ⟨_, hF, hM⟩
  clear hF hM
  skip
  obtain ⟨z, hF, hM⟩ := h
  revert a; refine Sq ?_
  rcases (show z = 3 ∨ ¬ z = 3 by omega) with hk | hk
  ·
   refine Rg (Mv 2 rfl ?_); intro a hF
   rw [show (z == 3) = true by simp [hk]] at hF
   revert a; refine Md 4 [5,6,7,40] rfl (Nx (Ct rfl (Sq (Rg (Mv 1 rfl (Cm hM rfl Tryz.func242 (by kernel_rfl) rfl (inf_walk _ w) ?_))))))
   clear hM; intro w v hR hM hBe
   obtain ⟨f, rfl⟩ := hR
   exact Md 6 [2,3,4] rfl (Nx (Re (Rt (Rb (Rt (Rb (Rt (Y3 rfl rfl rfl rfl ⟨_, rfl, ⟨_, _, _, rfl⟩, hM.below⟩))))))))
  refine Rg (Mv 2 rfl ?_); intro a hF
  rw [show (z == 3) = false by simp [hk]] at hF
  revert a; refine Md 4 [5,6,7,40] rfl (Nx (D0 rfl ?_ ?_))
  ·
   refine Sk (Nx (Ex (Op' rfl (Ot (Ob (Kp [] rfl ?_)))))); intro a hF
   exact ⟨hF, hM⟩
  refine Sq (Rg (Mv 1 rfl (Cm hM rfl Tryz.func242 (by kernel_rfl) rfl (inf_walk _ w) ?_)))
  clear hM; intro w v hR hM hBe
  obtain ⟨f, rfl⟩ := hR
  exact Md 6 [2,3,4] rfl (Nx (Re (Rt (Rb (Rt (Rb (Rt (Y3 rfl rfl rfl rfl ⟨_, rfl, ⟨_, _, _, rfl⟩, hM.below⟩))))))))
 revert a; refine Bo (Sq (Bo (Sq (Sq (Sq (Sq (Rg (Md 2 [0,5,6,12,13] rfl (Nx (C0 rfl ?_ ?_))))))))))
 ·
  refine Sk (Nx (C0 rfl ?_ ?_))
  ·
   refine Ex (Ot (Ot (Ob (Nx (Sq (Sq (Rg (Mv 1 rfl ?_)))))))); intro a hF
   refine op_index_str hF rfl (0) c rfl rfl rfl Tryz.underlying9 rfl rfl (by first | rfl | omega) hc ?_; clear hF a; intro a hF
   revert a; refine Md 1 [0,5,24] rfl (Nx (D0 rfl ?_ ?_))
   ·
    refine Sk (Nx (Sq (Rg (Md 1 [0,5,6] rfl (Nx (Rg (Mv 1 rfl ?_))))))); intro a hF
    refine op_sliceFrom_str hF rfl 1 rfl rfl rfl Tryz.underlying9 rfl rfl rfl (by omega) ?_; clear hF a; intro a hF
    revert a; refine Md 1 [0,5,6] rfl (Nb (Kp [0,5,6] rfl ?_)); intro a hF
    first | exact ⟨_, _, _, by simp; omega, hF, hM⟩ | exact ⟨_, _, _, hs, hF, hM⟩
   refine Rg (Md 1 [0,5] rfl (Nx (Sq (Rg (Md 1 [0,5,6] rfl (Nx (Rg (Mv 1 rfl ?_)))))))); intro a hF
   refine op_sliceFrom_str hF rfl 1 rfl rfl rfl Tryz.underlying9 rfl rfl rfl (by omega) ?_; clear hF a; intro a hF
   revert a; refine Md 1 [0,5,6] rfl (Nb (Kp [0,5,6] rfl ?_)); intro a hF
   first | exact ⟨_, _, _, by simp; omega, hF, hM⟩ | exact ⟨_, _, _, hs, hF, hM⟩
  refine Sk (Nx (Sq (Sq (Sq (Rg (Md 2 [0,5,6,12,16] rfl (Nx (C0 rfl ?_ ?_))))))))
  ·
   refine Sk (Nx (C0 rfl ?_ ?_))
   ·
    refine Ex (Ot (Ot (Op' rfl (Ot (Ob (Kp [0,5,6] rfl ?_)))))); intro a hF
    first | exact ⟨_, _, _, by simp; omega, hF, hM⟩ | exact ⟨_, _, _, hs, hF, hM⟩
   refine Sk (Nx (Sq (Sq (Rg (Md 2 [0,12,19] rfl (Nx (C0 rfl ?_ ?_)))))))
   ·
    refine Sk (Nx (C0 rfl ?_ ?_))
    ·
     refine Ex (Ot (Op' rfl (Ot (Op' rfl (Ot (Ob (Kp [0] rfl ?_))))))); intro a hF
     first | exact ⟨_, hs, hF, hM⟩ | exact ⟨_, hs2, hF, hM⟩
    refine Sk (Nx (Ex (Op' rfl (Ot (Op' rfl (Ot (Op' rfl (Ot (Ob (Kp [] rfl ?_)))))))))); intro a hF
    exact ⟨hF, hM⟩
   refine Rg (Md 2 [0,19] rfl (Nx (C0 rfl ?_ ?_)))
   ·
    refine Ex (Ot (Op' rfl (Ot (Op' rfl (Ot (Ob (Kp [0] rfl ?_))))))); intro a hF
    first | exact ⟨_, hs, hF, hM⟩ | exact ⟨_, hs2, hF, hM⟩
   refine Sk (Nx (Ex (Op' rfl (Ot (Op' rfl (Ot (Op' rfl (Ot (Ob (Kp [] rfl ?_)))))))))); intro a hF
   exact ⟨hF, hM⟩
  refine Rg (Md 2 [0,5,6,12,16] rfl (Nx (C0 rfl ?_ ?_)))
  ·
   refine Ex (Ot (Ot (Op' rfl (Ot (Ob (Kp [0,5,6] rfl ?_)))))); intro a hF
   first | exact ⟨_, _, _, by simp; omega, hF, hM⟩ | exact ⟨_, _, _, hs, hF, hM⟩
  refine Sk (Nx (Sq (Sq (Rg (Md 2 [0,12,19] rfl (Nx (C0 rfl ?_ ?_)))))))
  ·
   refine Sk (Nx (C0 rfl ?_ ?_))
   ·
    refine Ex (Ot (Op' rfl (Ot (Op' rfl (Ot (Ob (Kp [0] rfl ?_))))))); intro a hF
    first | exact ⟨_, hs, hF, hM⟩ | exact ⟨_, hs2, hF, hM⟩
   refine Sk (Nx (Ex (Op' rfl (Ot (Op' rfl (Ot (Op' rfl (Ot (Ob (Kp [] rfl ?_)))))))))); intro a hF
   exact ⟨hF, hM⟩
  refine Rg (Md 2 [0,19] rfl (Nx (C0 rfl ?_ ?_)))
  ·
   refine Ex (Ot (Op' rfl (Ot (Op' rfl (Ot (Ob (Kp [0] rfl ?_))))))); intro a hF
   first | exact ⟨_, hs, hF, hM⟩ | exact ⟨_, hs2, hF, hM⟩
  refine Sk (Nx (Ex (Op' rfl (Ot (Op' rfl (Ot (Op' rfl (Ot (Ob (Kp [] rfl ?_)))))))))); intro a hF
  exact ⟨hF, hM⟩
 refine Rg (Md 2 [0,5,6,12,13] rfl (Nx (C0 rfl ?_ ?_)))
 ·
  refine Ex (Ot (Ot (Ob (Nx (Sq (Sq (Rg (Mv 1 rfl ?_)))))))); intro a hF
  refine op_index_str hF rfl (0) c rfl rfl rfl Tryz.underlying9 rfl rfl (by first | rfl | omega) hc ?_; clear hF a; intro a hF
  revert a; refine Md 1 [0,5,24] rfl (Nx (D0 rfl ?_ ?_))
  ·
   refine Sk (Nx (Sq (Rg (Md 1 [0,5,6] rfl (Nx (Rg (Mv 1 rfl ?_))))))); intro a hF
   refine op_sliceFrom_str hF rfl 1 rfl rfl rfl Tryz.underlying9 rfl rfl rfl (by omega) ?_; clear hF a; intro a hF
   revert a; refine Md 1 [0,5,6] rfl (Nb (Kp [0,5,6] rfl ?_)); intro a hF
   first | exact ⟨_, _, _, by simp; omega, hF, hM⟩ | exact ⟨_, _, _, hs, hF, hM⟩
  refine Rg (Md 1 [0,5] rfl (Nx (Sq (Rg (Md 1 [0,5,6] rfl (Nx (Rg (Mv 1 rfl ?_)))))))); intro a hF
  refine op_sliceFrom_str hF rfl 1 rfl rfl rfl Tryz.underlying9 rfl rfl rfl (by omega) ?_; clear hF a; intro a hF
  revert a; refine Md 1 [0,5,6] rfl (Nb (Kp [0,5,6] rfl ?_)); intro a hF
  first | exact ⟨_, _, _, by simp; omega, hF, hM⟩ | exact ⟨_, _, _, hs, hF, hM⟩
 refine Sk (Nx (Sq (Sq (Sq (Rg (Md 2 [0,5,6,12,16] rfl (Nx (C0 rfl ?_ ?_))))))))
 ·
  refine Sk (Nx (C0 rfl ?_ ?_))
  ·
   refine Ex (Ot (Ot (Op' rfl (Ot (Ob (Kp [0,5,6] rfl ?_)))))); intro a hF
   first | exact ⟨_, _, _, by simp; omega, hF, hM⟩ | exact ⟨_, _, _, hs, hF, hM⟩
  refine Sk (Nx (Sq (Sq (Rg (Md 2 [0,12,19] rfl (Nx (C0 rfl ?_ ?_)))))))
  ·
   refine Sk (Nx (C0 rfl ?_ ?_))
   ·
    refine Ex (Ot (Op' rfl (Ot (Op' rfl (Ot (Ob (Kp [0] rfl ?_))))))); intro a hF
    first | exact ⟨_, hs, hF, hM⟩ | exact ⟨_, hs2, hF, hM⟩
   refine Sk (Nx (Ex (Op' rfl (Ot (Op' rfl (Ot (Op' rfl (Ot (Ob (Kp [] rfl ?_)))))))))); intro a hF
   exact ⟨hF, hM⟩
  refine Rg (Md 2 [0,19] rfl (Nx (C0 rfl ?_ ?_)))
  ·
   refine Ex (Ot (Op' rfl (Ot (Op' rfl (Ot (Ob (Kp [0] rfl ?_))))))); intro a hF
   first | exact ⟨_, hs, hF, hM⟩ | exact ⟨_, hs2, hF, hM⟩
  refine Sk (Nx (Ex (Op' rfl (Ot (Op' rfl (Ot (Op' rfl (Ot (Ob (Kp [] rfl ?_)))))))))); intro a hF
  exact ⟨hF, hM⟩
 refine Rg (Md 2 [0,5,6,12,16] rfl (Nx (C0 rfl ?_ ?_)))
 ·
  refine Ex (Ot (Ot (Op' rfl (Ot (Ob (Kp [0,5,6] rfl ?_)))))); intro a hF
  first | exact ⟨_, _, _, by simp; omega, hF, hM⟩ | exact ⟨_, _, _, hs, hF, hM⟩
 refine Sk (Nx (Sq (Sq (Rg (Md 2 [0,12,19] rfl (Nx (C0 rfl ?_ ?_)))))))
 ·
  refine Sk (Nx (C0 rfl ?_ ?_))
  ·
   refine Ex (Ot (Op' rfl (Ot (Op' rfl (Ot (Ob (Kp [0] rfl ?_))))))); intro a hF
   first | exact ⟨_, hs, hF, hM⟩ | exact ⟨_, hs2, hF, hM⟩
  refine Sk (Nx (Ex (Op' rfl (Ot (Op' rfl (Ot (Op' rfl (Ot (Ob (Kp [] rfl ?_)))))))))); intro a hF
  exact ⟨hF, hM⟩
 refine Rg (Md 2 [0,19] rfl (Nx (C0 rfl ?_ ?_)))
 ·
  refine Ex (Ot (Op' rfl (Ot (Op' rfl (Ot (Ob (Kp [0] rfl ?_))))))); intro a hF
  first | exact ⟨_, hs, hF, hM⟩ | exact ⟨_, hs2, hF, hM⟩
 refine Sk (Nx (Ex (Op' rfl (Ot (Op' rfl (Ot (Op' rfl (Ot (Ob (Kp [] rfl ?_)))))))))); intro a hF
 exact ⟨hF, hM⟩
end Go.Sx
