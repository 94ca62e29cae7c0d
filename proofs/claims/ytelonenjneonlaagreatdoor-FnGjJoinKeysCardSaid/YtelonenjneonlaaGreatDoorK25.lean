/- Part 25 of the proof of FnGjJoinKeys: the statement Rows.FnGjJoinKeysCardSaid; no further condition. -/
import Derived.Test.YtelonenjneonlaaGreatDoorK24
set_option linter.all false
namespace Go.Sx
open Go.RowKit Go.Proofs Js Go.Proofs.YtelonenjneonlaaGreatDoorW.PrintWords
theorem bare_shows2 {T : Str} {p : Js.Place} {c e : UInt8} (hp : pText T = some p) (hc : T[0]? = some c) (hcb : isBlank c = false) (he : T[T.length - 1]? = some e) (heb : isBlank e = false) : Shows T (.v (tree T p)) := by
  obtain ⟨w1, t, w2, hT, h1, h2, hs⟩ := text_sound hp
  have e1 : w1 = [] := by
    cases w1 with
    | nil => rfl
    | cons d w1 =>
      subst hT
      simp only [List.cons_append, List.getElem?_cons_zero, Option.some.injEq] at hc
      have := h1 d (by simp)
      rw [hc, hcb] at this; cases this
  have e2 : w2 = [] := by
    rcases List.eq_nil_or_concat w2 with h | ⟨l, d, h⟩
    · exact h
    · subst h
      rw [hT] at he
      rw [← List.getLast?_eq_getElem?] at he
      simp only [← List.append_assoc, List.concat_eq_append, List.getLast?_append, List.getLast?_singleton, Option.or_some, Option.some.injEq] at he
      have := h2 d (by simp)
      simp at he
      rw [he, heb] at this; cases this
  subst e1; subst e2
  rw [List.nil_append, List.append_nil] at hT
  rw [← hT] at hs
  exact hs
theorem of_bneN {k m : Nat} (h : ((k : Int) != (m : Int)) = false) : k = m := by
  have : (k : Int) = (m : Int) := by simpa using h
  omega
theorem dn_new {D : List Str} {q : Str} (h : q ∉ D) : dn D q = D ++ [q] := by unfold dn; rw [if_neg (by simpa using h)]
theorem dn_old {D : List Str} {q : Str} (h : q ∈ D) : dn D q = D := by unfold dn; rw [if_pos (by simpa using h)]
set_option maxRecDepth 100000 in
theorem joinKeysLaw_walk {T : Str} (w0 : World) (hV : VchB w0) : Calls Tryz.prog 4 #[.string (mkS T)] w0 (Ret fun v w' => v = .bool true ∧ Below w0.heap.size w0 w') := by
 have hM : Mem w0.heap.size w0 [] w0 := Mem.start (Nat.le_refl _)
 refine enter (l := [.string (mkS T)]) 68 Tryz.func4 rfl rfl (fun a hF => ?_)
 replace hF : Fr 69 [(0, .string (mkS T))] a := hF
 revert a; refine Sq (Rg (Md 1 [0] rfl (Nx (Sq (Sq (Rg (Md 3 [0,13] rfl (Nx (C2 rfl ?_ ((fun ht => ?_)))))))))))
 · exact Sq (Rg (Md 1 [2] rfl (Nx (Re (Rt (Y1 rfl rfl ⟨_, rfl, rfl, hM.below⟩))))))
 have hlen : T.length ≤ 2147483647 := by have := of_decide_eq_false ht; omega
 refine Sk (Nx (Sq (Rg (Mv 1 rfl (Cl rfl Tryz.func18 (by kernel_rfl) rfl (gjBare_walk (s := T) (by omega) _) ?_)))))
 intro w2 v hR
 rcases hR with ⟨ns, TB, p, c, e, rfl, hl, hpd, hp, hun, hc0, hbc, he0, hbe, hrn, hM2⟩ | ⟨x, t, o1, l1, c1, o2, l2, c2, rfl, hBe⟩
 ·
  replace hM := (hM.join hM2).perm (L' := TB) (pc fun x => by simp [ct, ct_append] <;> omega)
  clear hM2
  have hrn0 := hrn
  obtain ⟨k, txt, ks, kids, hn⟩ : ∃ k txt ks kids, tree T p = .mk k txt ks kids := by cases tree T p with | mk k t ks kids => exact ⟨k, t, ks, kids, rfl⟩
  have hshow := bare_shows2 hp hc0 hbc he0 hbe
  intro a hF
  rw [hn] at hrn hshow
  simp only [RepNd] at hrn
  obtain ⟨sn, sk, xs, rfl, hsn, hsk, hkr⟩ := hrn
  obtain ⟨o1, c1, rfl⟩ := hsn.shape
  obtain ⟨o2, c2, rfl⟩ := hsk.shape
  have hksm := hsk.small
  revert a; refine Mv 3 rfl ?_; intro a hF
  refine op_alloc hF hM rfl (vs := [.int .i64 0, .string (mkS []), .slice none 0 0, .slice none 0 0]) rfl rfl rfl (by kernel_rfl) ?_; clear hF hM a; intro a w b3 hF hM
  refine op_storeA hF hM rfl 0 rfl rfl (by kernel_rfl) rfl rfl rfl rfl (rfl) ?_; clear hF hM a; intro a w  hF hM
  revert a; refine Md 1 [0,3,4] rfl (Nx (Sq (Sq (Rg (Mv 4 rfl (Ld hM 0 rfl rfl (Md 2 [0,3,25] rfl (Nx (C2 rfl ?_ ((fun ht => ?_)))))))))))
  · exact Sq (Rg (Md 1 [2] rfl (Nx (Re (Rt (Y1 rfl rfl ⟨_, rfl, rfl, hM.below⟩))))))
  have hk5 : k = 5 := of_bneN (m := 5) ht
  subst hk5
  have hkt := arr_keys hshow
  refine Sk (Nx (Sq (Rg (Gv rfl (fun _ hF => gives_build (vals := [(0, .int .i64 5)]) (cells := [.int .i64 5, .string (mkS []), .slice none 0 0, .slice none 0 0]) hF rfl rfl (by kernel_rfl) _) ?_)))); intro a hF
  refine op_alloc hF hM rfl (vs := [.int .i64 0, .string (mkS []), .slice none 0 0, .slice none 0 0]) rfl rfl rfl (by kernel_rfl) ?_; clear hF hM a; intro a w b5 hF hM
  refine op_storeA hF hM rfl 0 rfl rfl (by kernel_rfl) rfl rfl rfl rfl (rfl) ?_; clear hF hM a; intro a w  hF hM
  revert a; refine Md 0 [0,3,5] rfl (Nx (Sq (Rg (Gv rfl (fun _ hF => gives_build (vals := [(0, .int .i64 6)]) (cells := [.int .i64 6, .string (mkS []), .slice none 0 0, .slice none 0 0]) hF rfl rfl (by kernel_rfl) _) ?_)))); intro a hF
  refine op_alloc hF hM rfl (vs := [.int .i64 0, .string (mkS []), .slice none 0 0, .slice none 0 0]) rfl rfl rfl (by kernel_rfl) ?_; clear hF hM a; intro a w b6 hF hM
  refine op_storeA hF hM rfl 0 rfl rfl (by kernel_rfl) rfl rfl rfl rfl (rfl) ?_; clear hF hM a; intro a w  hF hM
  revert a; refine Md 0 [0,3,5,6] rfl (Nx (Sq (Sq (Rg (Mv 1 rfl (Ld hM 2 rfl rfl (Md 2 [0,5,6,29,30,31] rfl (Nx (Bo (Kp [0,5,6,29,30,31] rfl ?_)))))))))); intro a hF
  refine loopX (fun (i : Nat) a w => ∃ (Rw Rs : List Bk) (ow os : Option Addr) (cw cs : Nat) (ys : List Value), Fr 69 [(0, .string (mkS T)), (5, .pointer (some ⟨b5, 0, none⟩)), (6, .pointer (some ⟨b6, 0, none⟩)), (29, .slice o2 kids.length c2), (30, .int .i64 (kids.length : Int)), (31, .int .i64 (i : Int))] a ∧ Mem w0.heap.size w0 ((b6, 40, [.int .i64 6, .string (mkS []), .slice os ((dns ((kids.take i).flatMap Nd.keys))).length cs, .slice none 0 0]) :: (b5, 40, [.int .i64 5, .string (mkS []), .slice none 0 0, .slice ow ((dns ((kids.take i).flatMap Nd.keys))).length cw]) :: (b3, 40, [.int .i64 ((5 : Nat) : Int), .string (mkS txt), .slice o1 ks.length c1, .slice o2 kids.length c2]) :: (Rw ++ (Rs ++ TB))) w ∧ Row 40 4 Rw (.slice ow ((dns ((kids.take i).flatMap Nd.keys))).length cw) ((dns ((kids.take i).flatMap Nd.keys))).length ys ∧ RepNds [] (((dns ((kids.take i).flatMap Nd.keys))).map strN) ys ∧ Row 9 1 Rs (.slice os ((dns ((kids.take i).flatMap Nd.keys))).length cs) ((dns ((kids.take i).flatMap Nd.keys))).length (((dns ((kids.take i).flatMap Nd.keys))).map fun s => .string (mkS s)) ∧ (∀ n ∈ kids.take i, n.kind = 6) ∧ i ≤ kids.length) (fun i => kids.length - i) (0) ?_ (fun i a w hI => ?_)
  · exact ⟨[], [], none, none, 0, 0, [], hF, hM, Row.nil _ _, rfl, Row.nil _ _, by simp, Nat.zero_le _⟩
  clear hF hM
  obtain ⟨Rw, Rs, ow, os, cw, cs, ys, hF, hM, hRw, hrep, hRs, hk6, hil⟩ := hI
  revert a; refine Sq (Rg (Md 1 [0,5,6,29,30,31,32] rfl (Nx (Sq (Ce rfl (fun ht => ?_) ((fun ht => ?_)))))))
  ·
   have hin : i = kids.length := by have := of_decide_eq_false ht; omega
   intro a hF
   rw [hin, List.take_length] at hM hRw hrep hRs hk6
   refine wp_exit (out_then (out_then (out_block (next (seq ?_)))))
   refine mix (fun w => Mem w0.heap.size w0 ((b6, 40, [.int .i64 6, .string (mkS []), .slice os ((dns (kids.flatMap Nd.keys))).length cs, .slice none 0 0]) :: (b5, 40, [.int .i64 5, .string (mkS []), .slice none 0 0, .slice ow ((dns (kids.flatMap Nd.keys))).length cw]) :: (b3, 40, [.int .i64 ((5 : Nat) : Int), .string (mkS txt), .slice o1 ks.length c1, .slice o2 kids.length c2]) :: (Rw ++ (Rs ++ TB))) w) 4 (by kernel_rfl) ?_
   replace hM := hM.drew
   generalize World.drew w = w at *
   refine mtakeP 0 hF (.inl hM) rfl (by kernel_rfl) (by kernel_rfl) (by kernel_rfl) rfl (fun _ _ _ h => h) rfl rfl (y_plain rfl (fun w _ => gives_move hF rfl rfl _)) ?_; clear hF a; intro a hF
   refine mtakeL 3 hF hM rfl (by kernel_rfl) (by kernel_rfl) (by kernel_rfl) (by kernel_rfl) (by kernel_rfl) (fun _ _ _ h => h) rfl rfl (y_plain rfl (fun w hM => gives_loadA hF hM 1 rfl Tryz.underlying40 rfl (by kernel_rfl) rfl rfl)) ?_; clear hF a; intro a hF
   refine malone 1 rfl (by kernel_rfl) ?_
   revert a; refine Cm hM rfl Tryz.func22 (by kernel_rfl) rfl (gjJoin_walk pf _ (glob_of hV hM) hl hshow hk6 ⟨[], by simpa using hpd⟩) ?_
   clear hM; intro w v hR hM hBe
   obtain ⟨R, l', rfl, hRl, hRs2⟩ := hR
   intro a hF
   refine mstep (.inl (hM)) ?_
   refine malone 2 rfl (by kernel_rfl) ?_
   revert a; refine Cm hM rfl Tryz.func21 (by kernel_rfl) rfl (gjKeys_walk pf _ (glob_of hV hM) hRl hRs2) ?_
   clear hM; intro w v hR hM hBe
   obtain ⟨S, rfl, hSl, hSs⟩ := hR
   obtain ⟨p2, hp2, hn2⟩ := text_complete (T := S) ⟨[], S, [], by simp, Bl.nil, Bl.nil, hSs⟩
   intro a hF
   refine mstep (.inl (hM)) ?_
   refine malone 4 rfl (by kernel_rfl) ?_
   revert a; refine Cl rfl Tryz.func20 (by kernel_rfl) rfl (gjReads_walk hp2 (by omega) (by rw [hn2]; simp only [RepNd]; exact ⟨_, _, ys, rfl, .nil _ _ _, by simpa using hRw.sl.mono (by intro z hz; simp [hz]), RepNds.mono (by simp) _ _ hrep⟩) hM) ?_
   clear hM; intro w v hR
   obtain ⟨rfl, hM⟩ := hR
   intro a hF
   refine mstep (.inr (by kernel_rfl)) ?_
   refine mtail 5 (by kernel_rfl) (by kernel_rfl) ?_
   simp only [List.drop_succ_cons, List.drop_zero]
   revert a; exact Md 1 [2] rfl (Nx (Re (Y1 rfl rfl ⟨_, rfl, rfl, hM.below⟩)))
  have hi : i < kids.length := by have := of_decide_eq_true ht; omega
  obtain ⟨qn, hq⟩ : ∃ q, kids[i]? = some q := ⟨_, List.getElem?_eq_getElem hi⟩
  obtain ⟨c, hqc, hcx⟩ := hkr.at_ hq
  obtain ⟨g, cap, hv, hcell⟩ := hsk.row (by omega)
  have ho : o2 = some ⟨g, 0, none⟩ := by cases hv; rfl
  subst ho
  obtain ⟨k', t', ks', kids'⟩ := qn
  simp only [RepNd] at hqc
  obtain ⟨sn1, sk1, zs, rfl, hsn1, hsk1, hkr1⟩ := hqc
  obtain ⟨o1', c1', rfl⟩ := hsn1.shape
  have hksm1 := hsn1.small
  obtain ⟨o2', c2', rfl⟩ := hsk1.shape
  have hrange : ∀ {w : World}, Mem w0.heap.size w0 ((b6, 40, [.int .i64 6, .string (mkS []), .slice os ((dns ((kids.take i).flatMap Nd.keys))).length cs, .slice none 0 0]) :: (b5, 40, [.int .i64 5, .string (mkS []), .slice none 0 0, .slice ow ((dns ((kids.take i).flatMap Nd.keys))).length cw]) :: (b3, 40, [.int .i64 ((5 : Nat) : Int), .string (mkS txt), .slice o1 ks.length c1, .slice (some ⟨g, 0, none⟩) kids.length c2]) :: (Rw ++ (Rs ++ TB))) w → w.rangeAt g (0 + i * 4) [.int .i64 (k' : Int), .string (mkS t'), .slice o1' ks'.length c1', .slice o2' kids'.length c2'] := fun hM j u hj => by rw [Nat.zero_add]; exact hcell hM (by intro z hz; simp [hz]) _ u (hcx j u hj)
  refine Sk (Nx (Sq (Bo (Sq (Rg (Gv rfl (fun _ hF => gives_indexAddrS (sz := 4) (i) hF rfl Tryz.underlying38 (by kernel_rfl) rfl rfl rfl hi _) (Gv rfl (fun _ hF => gives_loadMid hF rfl rfl Tryz.underlying40 rfl (by kernel_rfl) (hrange hM)) ?_))))))); intro a hF
  refine op_alloc hF hM rfl (vs := [.int .i64 0, .string (mkS []), .slice none 0 0, .slice none 0 0]) rfl rfl rfl (by kernel_rfl) ?_; clear hF hM a; intro a w b8 hF hM
  refine op_storeA hF hM rfl 0 rfl rfl (by kernel_rfl) rfl rfl rfl rfl (rfl) ?_; clear hF hM a; intro a w  hF hM
  revert a; refine Md 0 [0,5,6,8,29,30,31] rfl (Nx (Sq (Sq (Rg (Mv 1 rfl (Ld hM 0 rfl rfl (Md 1 [0,5,6,8,29,30,31,37] rfl (Nx (C2 rfl ?_ ((fun ht => ?_)))))))))))
  · exact Sq (Rg (Md 1 [2] rfl (Nx (Re (Rt (Rb (Rt (Rt (Rb (Rt (Y1 rfl rfl ⟨_, rfl, rfl, hM.below⟩)))))))))))
  have hk' : k' = 6 := of_bneN (m := 6) ht
  subst hk'
  refine Sk (Nx (Sq (Rg (Mv 1 rfl (Ld hM 0 rfl rfl (Md 2 [0,5,6,29,30,31,39,40,41] rfl (Nx (Bo (Kp [0,5,6,29,30,31,39,40,41] rfl ?_))))))))); intro a hF
  refine loopX (fun (j : Nat) a w => ∃ (Rw Rs : List Bk) (ow os : Option Addr) (cw cs : Nat) (ys : List Value), Fr 69 [(0, .string (mkS T)), (5, .pointer (some ⟨b5, 0, none⟩)), (6, .pointer (some ⟨b6, 0, none⟩)), (29, .slice (some ⟨g, 0, none⟩) kids.length c2), (30, .int .i64 (kids.length : Int)), (31, .int .i64 (i : Int)), (39, .slice o1' ks'.length c1'), (40, .int .i64 (ks'.length : Int)), (41, .int .i64 (j : Int))] a ∧ Mem w0.heap.size w0 ((b8, 40, [.int .i64 ((6 : Nat) : Int), .string (mkS t'), .slice o1' ks'.length c1', .slice o2' kids'.length c2']) :: (b6, 40, [.int .i64 6, .string (mkS []), .slice os ((dns (((kids.take i).flatMap Nd.keys) ++ ks'.take j))).length cs, .slice none 0 0]) :: (b5, 40, [.int .i64 5, .string (mkS []), .slice none 0 0, .slice ow ((dns (((kids.take i).flatMap Nd.keys) ++ ks'.take j))).length cw]) :: (b3, 40, [.int .i64 ((5 : Nat) : Int), .string (mkS txt), .slice o1 ks.length c1, .slice (some ⟨g, 0, none⟩) kids.length c2]) :: (Rw ++ (Rs ++ TB))) w ∧ Row 40 4 Rw (.slice ow ((dns (((kids.take i).flatMap Nd.keys) ++ ks'.take j))).length cw) ((dns (((kids.take i).flatMap Nd.keys) ++ ks'.take j))).length ys ∧ RepNds [] (((dns (((kids.take i).flatMap Nd.keys) ++ ks'.take j))).map strN) ys ∧ Row 9 1 Rs (.slice os ((dns (((kids.take i).flatMap Nd.keys) ++ ks'.take j))).length cs) ((dns (((kids.take i).flatMap Nd.keys) ++ ks'.take j))).length (((dns (((kids.take i).flatMap Nd.keys) ++ ks'.take j))).map fun s => .string (mkS s)) ∧ j ≤ ks'.length) (fun j => ks'.length - j) (0) ?_ (fun j a w hI => ?_)
  · exact ⟨Rw, Rs, ow, os, cw, cs, ys, hF, by simpa using hM, by simpa using hRw, by simpa using hrep, by simpa using hRs, Nat.zero_le _⟩
  clear hF hM
  clear hRw hrep hRs
  obtain ⟨Rw, Rs, ow, os, cw, cs, ys, hF, hM, hRw, hrep, hRs, hjl⟩ := hI
  revert a; refine Sq (Rg (Md 1 [0,5,6,29,30,31,39,40,41,42] rfl (Nx (Sq (Ce rfl (fun ht => ?_) ((fun ht => ?_)))))))
  ·
   have hjn : j = ks'.length := by have := of_decide_eq_false ht; omega
   intro a hF
   rw [hjn, List.take_length] at hM hRw hrep hRs
   revert a; refine Ex (Ot (Ot (Ob (Nb (Nx (Rg (Sm (((i + 1 : Nat) : Int)) rfl (by omega) (Md 1 [0,5,6,29,30,31] rfl ?_))))))))
   have e0 : (kids.take (i + 1)).flatMap Nd.keys = ((kids.take i).flatMap Nd.keys) ++ ks' := by rw [List.take_add_one, hq, List.flatMap_append]; simp [Nd.keys]
   intro a hF
   exact ⟨i + 1, ⟨Rw, Rs, ow, os, cw, cs, ys, hF, by rw [e0]; exact hM.drop (List.sublist_cons_self _ _), by rw [e0]; exact hRw, by rw [e0]; exact hrep, by rw [e0]; exact hRs, by rw [List.take_add_one, hq]; intro n hn; rcases List.mem_append.1 hn with hn | hn; exact hk6 n hn; rw [List.mem_singleton.1 hn]; rfl, hi⟩, by omega⟩
  have hj : j < ks'.length := by have := of_decide_eq_true ht; omega
  obtain ⟨q, hs1⟩ : ∃ t, ks'[j]? = some t := ⟨_, List.getElem?_eq_getElem hj⟩
  have hk1 := keys_at hs1
  obtain ⟨g2, cap2, hv2, hcell2⟩ := hsn1.row (by omega)
  have ho2 : o1' = some ⟨g2, 0, none⟩ := by cases hv2; rfl
  subst ho2
  obtain ⟨D, hD⟩ : ∃ D, (dns (((kids.take i).flatMap Nd.keys) ++ ks'.take j)) = D := ⟨_, rfl⟩
  intro a hF
  rw [hD] at hM hRw hrep hRs
  have eD : dns (((kids.take i).flatMap Nd.keys) ++ ks'.take (j + 1)) = dn D q := by rw [List.take_add_one, hs1, ← List.append_assoc]; exact (dns_snoc _ _).trans (by rw [hD])
  have hDl : D.length ≤ 2147483647 := by
    have h1 := dn_len (((kids.take i).flatMap Nd.keys) ++ ks'.take j) []
    have h2 : (((kids.take i).flatMap Nd.keys) ++ ks'.take j).length ≤ (kids.flatMap Nd.keys).length := by
      have h3 : kids.flatMap Nd.keys = ((kids.take i).flatMap Nd.keys) ++ (ks' ++ (kids.drop (i + 1)).flatMap Nd.keys) := by
        conv => lhs; rw [← List.take_append_drop i kids, List.flatMap_append, List.drop_eq_getElem_cons hi, List.flatMap_cons, (List.getElem?_eq_some_iff.1 hq).2]
        rfl
      rw [h3]; simp only [List.length_append, List.length_take]; omega
    rw [← hD]; simp only [dns, List.length_nil] at h1 ⊢; omega
  revert a; refine Sk (Nx (Sq (Bo (Sq (Rg (Gv rfl (fun _ hF => gives_indexAddrS (sz := 1) (j) hF rfl Tryz.underlying22 (by kernel_rfl) rfl rfl rfl hj _) (Gv rfl (fun _ hF => gives_load1 hF rfl Tryz.underlying9 rfl rfl ((show w.cell? ⟨g2, 0 + j * 1, none⟩ = some (.string (mkS q)) from by rw [Nat.zero_add, Nat.mul_one]; exact hcell2 hM (by intro z hz; simp [hz]) _ _ hk1))) (Md 1 [0,5,6,10,29,30,31,39,40,41] rfl (Nx (Sq (Rg ?_))))))))))); intro a hF
  refine op_loadA hF hM rfl 1 rfl rfl rfl Tryz.underlying40 rfl (by kernel_rfl) rfl rfl ?_; clear hF a; intro a hF
  revert a; refine Mv 1 rfl ?_
  have hA : RepNd ((b8, 40, [.int .i64 ((6 : Nat) : Int), .string (mkS t'), .slice (some ⟨g2, 0, none⟩) ks'.length c1', .slice o2' kids'.length c2']) :: (b6, 40, [.int .i64 6, .string (mkS []), .slice os (D.length) cs, .slice none 0 0]) :: (b5, 40, [.int .i64 5, .string (mkS []), .slice none 0 0, .slice ow (D.length) cw]) :: (b3, 40, [.int .i64 ((5 : Nat) : Int), .string (mkS txt), .slice o1 ks.length c1, .slice (some ⟨g, 0, none⟩) kids.length c2]) :: (Rw ++ (Rs ++ TB))) (.mk 6 [] D []) [.int .i64 6, .string (mkS []), .slice os D.length cs, .slice none 0 0] := by simp only [RepNd]; exact ⟨_, _, [], rfl, hRs.sl.mono (by intro z hz; simp [hz]), SlOf.nil _ _ _, rfl⟩
  refine Cl rfl Tryz.func19 (by kernel_rfl) rfl (member_walk hA hM) ?_
  clear hM hA; intro w v hR
  obtain ⟨⟨z, rfl, hz⟩, hM⟩ := hR
  refine Md 1 [0,5,6,10,29,30,31,39,40,41,48] rfl (Nx (Ce rfl (fun ht => ?_) ((fun ht => ?_))))
  ·
   have hold : q ∈ D := Classical.not_not.1 fun h => absurd (hz.2 h) (of_decide_eq_false ht)
   refine Sk (Nb (Nx (Rg (Sm (((j + 1 : Nat) : Int)) rfl (by omega) (Md 1 [0,5,6,29,30,31,39,40,41] rfl ?_))))); intro a hF
   first | exact ⟨j + 1, ⟨Rw', Rs', ow', os', cw', cs', ys ++ [.int .i64 4, .string (mkS q), .slice none 0 0, .slice none 0 0], hF, by rw [eD, dn_new hnew, List.length_append, List.length_singleton]; exact hM, by rw [eD, dn_new hnew, List.length_append, List.length_singleton]; exact hRw', by rw [eD, dn_new hnew, List.map_append]; exact hrep.append (.one hNd), by rw [eD, dn_new hnew, List.length_append, List.length_singleton, List.map_append]; exact hRs', hj⟩, by omega⟩ | exact ⟨j + 1, ⟨Rw, Rs, ow, os, cw, cs, ys, hF, by rw [eD, dn_old hold]; exact hM, by rw [eD, dn_old hold]; exact hRw, by rw [eD, dn_old hold]; exact hrep, by rw [eD, dn_old hold]; exact hRs, hj⟩, by omega⟩
  have hnew : q ∉ D := hz.1 (of_decide_eq_true ht)
  refine Sq (Rg (Mv 1 rfl (Ld hM 1 rfl rfl (Mv 1 rfl ?_)))); intro a hF
  refine op_buildS hF hM elt22 rfl rfl rfl rfl rfl rfl rfl (by decide) ?_; clear hF hM a; intro a w b52 hF hM
  replace hM := hM.perm (L' := Rs ++ ((b52, 9, [.string (mkS q)]) :: (b8, 40, [.int .i64 ((6 : Nat) : Int), .string (mkS t'), .slice (some ⟨g2, 0, none⟩) ks'.length c1', .slice o2' kids'.length c2']) :: (b6, 40, [.int .i64 6, .string (mkS []), .slice os (D.length) cs, .slice none 0 0]) :: (b5, 40, [.int .i64 5, .string (mkS []), .slice none 0 0, .slice ow (D.length) cw]) :: (b3, 40, [.int .i64 ((5 : Nat) : Int), .string (mkS txt), .slice o1 ks.length c1, .slice (some ⟨g, 0, none⟩) kids.length c2]) :: (Rw ++ TB))) (pc fun x => by simp [ct, ct_append] <;> omega)
  refine op_appendR hF elt22 hRs hM (sl_one (b := b52) (e := 9) (m := 1) (cs := [.string (mkS q)]) rfl) (by simp) (by simp [Value.oneCell']) (by omega) rfl rfl rfl rfl rfl rfl ?_; clear hF hM a; intro a w Rs' v' hF hRs' hM
  obtain ⟨os', cs', rfl⟩ := hRs'.sl.shape
  replace hM := hM.sub (L' := (b8, 40, [.int .i64 ((6 : Nat) : Int), .string (mkS t'), .slice (some ⟨g2, 0, none⟩) ks'.length c1', .slice o2' kids'.length c2']) :: (b6, 40, [.int .i64 6, .string (mkS []), .slice os (D.length) cs, .slice none 0 0]) :: (b5, 40, [.int .i64 5, .string (mkS []), .slice none 0 0, .slice ow (D.length) cw]) :: (b3, 40, [.int .i64 ((5 : Nat) : Int), .string (mkS txt), .slice o1 ks.length c1, .slice (some ⟨g, 0, none⟩) kids.length c2]) :: (Rw ++ (Rs' ++ TB))) [(b52, 9, [.string (mkS q)])] (pc fun x => by simp [ct, ct_append] <;> omega)
  revert a; refine Mv 1 rfl (St hM 1 rfl ?_)
  clear hM; intro w hM
  refine Md 0 [0,5,6,10,29,30,31,39,40,41] rfl (Nx (Rg (Mv 1 rfl (Ld hM 2 rfl rfl (Mv 1 rfl (Gv rfl (fun _ hF => gives_build (vals := [(0, .int .i64 4), (1, .string (mkS q))]) (cells := [.int .i64 4, .string (mkS q), .slice none 0 0, .slice none 0 0]) hF rfl rfl (by kernel_rfl) _) ?_)))))); intro a hF
  refine op_buildS hF hM elt38 rfl rfl rfl rfl rfl (cs := [.int .i64 4, .string (mkS q), .slice none 0 0, .slice none 0 0]) rfl rfl (by decide) ?_; clear hF hM a; intro a w b59 hF hM
  replace hM := hM.perm (L' := Rw ++ ((b59, 40, [.int .i64 4, .string (mkS q), .slice none 0 0, .slice none 0 0]) :: (b8, 40, [.int .i64 ((6 : Nat) : Int), .string (mkS t'), .slice (some ⟨g2, 0, none⟩) ks'.length c1', .slice o2' kids'.length c2']) :: (b6, 40, [.int .i64 6, .string (mkS []), .slice os' (D.length + 1) cs', .slice none 0 0]) :: (b5, 40, [.int .i64 5, .string (mkS []), .slice none 0 0, .slice ow (D.length) cw]) :: (b3, 40, [.int .i64 ((5 : Nat) : Int), .string (mkS txt), .slice o1 ks.length c1, .slice (some ⟨g, 0, none⟩) kids.length c2]) :: (Rs' ++ TB))) (pc fun x => by simp [ct, ct_append] <;> omega)
  refine op_appendR hF elt38 hRw hM (sl_one (b := b59) (e := 40) (m := 4) (cs := [.int .i64 4, .string (mkS q), .slice none 0 0, .slice none 0 0]) rfl) (by simp) (by simp [Value.oneCell']) (by omega) rfl rfl rfl rfl rfl rfl ?_; clear hF hM a; intro a w Rw' v' hF hRw' hM
  obtain ⟨ow', cw', rfl⟩ := hRw'.sl.shape
  replace hM := hM.sub (L' := (b8, 40, [.int .i64 ((6 : Nat) : Int), .string (mkS t'), .slice (some ⟨g2, 0, none⟩) ks'.length c1', .slice o2' kids'.length c2']) :: (b6, 40, [.int .i64 6, .string (mkS []), .slice os' (D.length + 1) cs', .slice none 0 0]) :: (b5, 40, [.int .i64 5, .string (mkS []), .slice none 0 0, .slice ow (D.length) cw]) :: (b3, 40, [.int .i64 ((5 : Nat) : Int), .string (mkS txt), .slice o1 ks.length c1, .slice (some ⟨g, 0, none⟩) kids.length c2]) :: (Rw' ++ (Rs' ++ TB))) [(b59, 40, [.int .i64 4, .string (mkS q), .slice none 0 0, .slice none 0 0])] (pc fun x => by simp [ct, ct_append] <;> omega)
  have hNd : RepNd [] (strN q) [.int .i64 4, .string (mkS q), .slice none 0 0, .slice none 0 0] := ⟨_, _, [], rfl, SlOf.nil _ _ _, SlOf.nil _ _ _, rfl⟩
  revert a; refine Mv 1 rfl (St hM 2 rfl ?_)
  clear hM; intro w hM
  refine Md 0 [0,5,6,29,30,31,39,40,41] rfl (Nb (Nx (Rg (Sm (((j + 1 : Nat) : Int)) rfl (by omega) (Md 1 [0,5,6,29,30,31,39,40,41] rfl ?_))))); intro a hF
  first | exact ⟨j + 1, ⟨Rw', Rs', ow', os', cw', cs', ys ++ [.int .i64 4, .string (mkS q), .slice none 0 0, .slice none 0 0], hF, by rw [eD, dn_new hnew, List.length_append, List.length_singleton]; exact hM, by rw [eD, dn_new hnew, List.length_append, List.length_singleton]; exact hRw', by rw [eD, dn_new hnew, List.map_append]; exact hrep.append (.one hNd), by rw [eD, dn_new hnew, List.length_append, List.length_singleton, List.map_append]; exact hRs', hj⟩, by omega⟩ | exact ⟨j + 1, ⟨Rw, Rs, ow, os, cw, cs, ys, hF, by rw [eD, dn_old hold]; exact hM, by rw [eD, dn_old hold]; exact hRw, by rw [eD, dn_old hold]; exact hrep, by rw [eD, dn_old hold]; exact hRs, hj⟩, by omega⟩
 replace hM := hM.step hBe
 clear hBe
 refine Mv 3 rfl ?_; intro a hF
 refine op_alloc hF hM rfl (vs := [.int .i64 0, .string (mkS []), .slice none 0 0, .slice none 0 0]) rfl rfl rfl (by kernel_rfl) ?_; clear hF hM a; intro a w b3 hF hM
 refine op_storeA hF hM rfl 0 rfl rfl (by kernel_rfl) rfl rfl rfl rfl (rfl) ?_; clear hF hM a; intro a w  hF hM
 revert a; exact Md 1 [0,3,4] rfl (Nx (Sq (Sq (Rg (Md 7 [0,3,25] rfl (Nx (Ct rfl (Sq (Rg (Md 1 [2] rfl (Nx (Re (Rt (Y1 rfl rfl ⟨_, rfl, rfl, hM.below⟩))))))))))))))
end Go.Sx
