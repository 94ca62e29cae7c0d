/- Part 23 of the proof of FnGjFlattenText: the statement Rows.FnGjFlattenTextCardSaid; no further condition. -/
import Derived.Test.YtelonenjneonlaaGreatDoorQ22
set_option linter.all false
namespace Go.Sx
open Go.RowKit Go.Proofs Js Go.Proofs.YtelonenjneonlaaGreatDoorW.PrintWords
theorem bare_shows {T : Str} {p : Js.Place} {c e : UInt8} (hp : pText T = some p) (hc : T[0]? = some c) (hcb : isBlank c = false) (he : T[T.length - 1]? = some e) (heb : isBlank e = false) : Shows T (.v (tree T p)) := by
  obtain ⟨w1, t, w2, hT, h1, h2, hs⟩ := text_sound hp
  have e1 : w1 = [] := by
    cases w1 with
    | nil => rfl
    | cons d w1 =>
      subst hT
      simp only [List.cons_append, List.getElem?_cons_zero, Option.some.injEq] at hc
      have := h1 d (by simp)
      rw [hc, hcb] at this; cases this
  have e2 : w2 = [] := by
    rcases List.eq_nil_or_concat w2 with h | ⟨l, d, h⟩
    · exact h
    · subst h
      rw [hT] at he
      rw [← List.getLast?_eq_getElem?] at he
      simp only [← List.append_assoc, List.concat_eq_append, List.getLast?_append, List.getLast?_singleton, Option.or_some, Option.some.injEq] at he
      have := h2 d (by simp)
      simp at he
      rw [he, heb] at this; cases this
  subst e1; subst e2
  rw [List.nil_append, List.append_nil] at hT
  rw [← hT] at hs
  exact hs
theorem flats_size {R : Str} {p : Js.Place} {l : List Nd} (hp : pText R = some p) (ht : tree R p = .mk 5 [] [] l) : l.length ≤ R.length := by
  have hw := text_wf hp
  obtain ⟨k, b, e, ns, kids⟩ := p
  simp only [tree, Nd.mk.injEq] at ht
  simp only [WfPl] at hw
  rw [← ht.2.2.2, trees_map, List.length_map]
  exact hw.2.2.2.2.1
set_option maxRecDepth 100000 in
theorem flattenText_walk {T : Str} (deep : Bool) (w0 : World) (hV : VchB w0) : Calls Tryz.prog 5 #[.string (mkS T), .bool deep] w0 (Ret fun v w' => v = .bool true ∧ Below w0.heap.size w0 w') := by
 have hM : Mem w0.heap.size w0 [] w0 := Mem.start (Nat.le_refl _)
 refine enter (l := [.string (mkS T), .bool deep]) 31 Tryz.func5 rfl rfl (fun a hF => ?_)
 replace hF : Fr 33 [(0, .string (mkS T)), (1, .bool deep)] a := hF
 revert a; refine Sq (Rg (Md 1 [0,1] rfl (Nx (Sq (Sq (Rg (Md 3 [0,1,10] rfl (Nx (C2 rfl ?_ ((fun ht => ?_)))))))))))
 · exact Sq (Rg (Md 1 [4] rfl (Nx (Re (Rt (Y1 rfl rfl ⟨_, rfl, rfl, hM.below⟩))))))
 have hlen : T.length ≤ 2147483647 := by have := of_decide_eq_false ht; omega
 refine Sk (Nx (Sq (Rg (Mv 1 rfl (Cl rfl Tryz.func18 (by kernel_rfl) rfl (gjBare_walk (s := T) (by omega) _) ?_)))))
 intro w2 v hR
 rcases hR with ⟨ns, TB, p, c, e, rfl, hl, hpd, hp, hun, hc0, hbc, he0, hbe, hrn, hM2⟩ | ⟨x, t, o1, l1, c1, o2, l2, c2, rfl, hBe⟩
 ·
  replace hM := (hM.join hM2).perm (L' := TB) (pc fun x => by simp [ct, ct_append] <;> omega)
  clear hM2
  have hrn0 := hrn
  obtain ⟨k, txt, ks, kids, hn⟩ : ∃ k txt ks kids, tree T p = .mk k txt ks kids := by cases tree T p with | mk k t ks kids => exact ⟨k, t, ks, kids, rfl⟩
  have hshow := bare_shows hp hc0 hbc he0 hbe
  intro a hF
  rw [hn] at hrn hshow
  simp only [RepNd] at hrn
  obtain ⟨sn, sk, xs, rfl, hsn, hsk, hkr⟩ := hrn
  obtain ⟨o1, c1, rfl⟩ := hsn.shape
  obtain ⟨o2, c2, rfl⟩ := hsk.shape
  revert a; refine Mv 3 rfl ?_; intro a hF
  refine op_alloc hF hM rfl (vs := [.int .i64 0, .string (mkS []), .slice none 0 0, .slice none 0 0]) rfl rfl rfl (by kernel_rfl) ?_; clear hF hM a; intro a w b5 hF hM
  refine op_storeA hF hM rfl 0 rfl rfl (by kernel_rfl) rfl rfl rfl rfl (rfl) ?_; clear hF hM a; intro a w  hF hM
  revert a; refine Md 1 [0,1,5,6] rfl (Nx (Sq (Sq (Rg (Mv 4 rfl (Ld hM 0 rfl rfl (Md 2 [0,1,5,22] rfl (Nx (C2 rfl ?_ ((fun ht => ?_)))))))))))
  · exact Sq (Rg (Md 1 [4] rfl (Nx (Re (Rt (Y1 rfl rfl ⟨_, rfl, rfl, hM.below⟩))))))
  have hk5 : k = 5 := of_bne5 ht
  subst hk5
  refine Sk (Nx (Sq (Rg (Md 1 [0,1,5,7] rfl (Nx ?_))))); intro a hF
  refine cut (fun a w => Fr 33 [(0, .string (mkS T)), (1, .bool deep), (5, .pointer (some ⟨b5, 0, none⟩)), (7, .string (mkS (argOf deep)))] a ∧ Mem w0.heap.size w0 ((b5, 40, [.int .i64 ((5 : Nat) : Int), .string (mkS txt), .slice o1 ks.length c1, .slice o2 kids.length c2]) :: TB) w) ?_ (fun a w h => ?_)
  ·
   revert a; refine Sq (Rg (Md 1 [0,1,5,7,23] rfl (Nx (Ce rfl (fun ht => ?_) ((fun ht => ?_))))))
   ·
    have hdp : deep = false := ht
    refine Sk (Kp [0,1,5,7] rfl ?_); intro a hF
    exact ⟨by rw [hdp] at hF ⊢; exact hF, hM⟩
   have hdp : deep = true := ht
   refine Rg (Md 1 [0,1,5,7] rfl ?_); intro a hF
   exact ⟨by rw [hdp] at hF ⊢; exact hF, hM⟩
  clear hF hM
  obtain ⟨hF, hM⟩ := h
  refine seq ?_
  refine mix (fun w => Mem w0.heap.size w0 ((b5, 40, [.int .i64 ((5 : Nat) : Int), .string (mkS txt), .slice o1 ks.length c1, .slice o2 kids.length c2]) :: TB) w) 8 (by kernel_rfl) ?_
  replace hM := hM.drew
  generalize World.drew w = w at *
  refine mtakeP 0 hF (.inl hM) rfl (by kernel_rfl) (by kernel_rfl) (by kernel_rfl) rfl (fun _ _ _ h => h) rfl rfl (y_plain rfl (fun w _ => gives_move hF rfl rfl _)) ?_; clear hF a; intro a hF
  refine mtakeP 1 hF (.inl hM) rfl (by kernel_rfl) (by kernel_rfl) (by kernel_rfl) rfl (fun _ _ _ h => h) rfl rfl (y_plain rfl (fun w _ => gives_move hF rfl rfl _)) ?_; clear hF a; intro a hF
  refine mtakeP 3 hF (.inl hM) rfl (by kernel_rfl) (by kernel_rfl) (by kernel_rfl) rfl (fun _ _ _ h => h) rfl rfl (y_plain rfl (fun w _ => gives_fieldAddr hF 3 rfl rfl (field_at Tryz.underlying40 rfl rfl (by kernel_rfl)) _)) ?_; clear hF a; intro a hF
  refine mtakeL 4 hF hM rfl (by kernel_rfl) (by kernel_rfl) (by kernel_rfl) (by kernel_rfl) (by kernel_rfl) (fun _ _ _ h => h) rfl rfl (y_plain rfl (fun w hM => gives_load hF hM 0 rfl Tryz.underlying38 rfl rfl rfl rfl)) ?_; clear hF a; intro a hF
  refine mtakeP 5 hF (.inl hM) rfl (by kernel_rfl) (by kernel_rfl) (by kernel_rfl) rfl (fun _ _ _ h => h) rfl rfl (y_plain rfl (fun w _ => gives_move hF rfl rfl _)) ?_; clear hF a; intro a hF
  refine malone 2 rfl (by kernel_rfl) ?_
  revert a; refine Cm hM rfl Tryz.func23 (by kernel_rfl) rfl (gjFlatten_walk pf deep _ (glob_of hV hM) (by omega) hshow) ?_
  clear hM; intro w v hR hM hBe
  obtain ⟨R, rfl, hRl, hRs⟩ := hR
  obtain ⟨p2, hp2, hn2⟩ := text_complete (T := R) ⟨[], R, [], by simp, Bl.nil, Bl.nil, hRs⟩
  have hfl := flats_size hp2 hn2
  intro a hF
  refine mstep (.inl (hM)) ?_
  refine malone 6 rfl (by kernel_rfl) ?_
  revert a; refine Cl rfl Tryz.func24 (by kernel_rfl) rfl (flat_walk deep kids hsk hkr (by intro z hz; simp [hz]) (by omega) hM) ?_
  clear hM; intro w v hR
  obtain ⟨R2, ys, hsl, hrep, hM⟩ := hR
  obtain ⟨o3, c3, rfl⟩ := hsl.shape
  intro a hF
  refine mstep (.inl (hM.sub R2 (pc fun x => by simp [ct, ct_append] <;> omega))) ?_
  refine mtakeP 7 hF (.inl (hM.sub R2 (pc fun x => by simp [ct, ct_append] <;> omega))) rfl (by kernel_rfl) (by kernel_rfl) (by kernel_rfl) rfl (fun _ _ _ h => h) rfl rfl (y_plain rfl (fun w _ => gives_build (vals := [(0, .int .i64 5), (3, .slice o3 (flats deep kids).length c3)]) (cells := [.int .i64 5, .string (mkS []), .slice none 0 0, .slice o3 (flats deep kids).length c3]) hF rfl rfl (by kernel_rfl) _)) ?_; clear hF a; intro a hF
  refine malone 8 rfl (by kernel_rfl) ?_
  revert a; refine Cl rfl Tryz.func20 (by kernel_rfl) rfl (gjReads_walk hp2 (by omega) (by rw [hn2]; simp only [RepNd]; exact ⟨_, _, ys, rfl, .nil _ _ _, hsl.mono (by intro z hz; simp [hz]), RepNds.mono (by intro z hz; simp [hz]) _ _ hrep⟩) hM) ?_
  clear hM; intro w v hR
  obtain ⟨rfl, hM⟩ := hR
  intro a hF
  refine mstep (.inr (by kernel_rfl)) ?_
  refine mtail 9 (by kernel_rfl) (by kernel_rfl) ?_
  simp only [List.drop_succ_cons, List.drop_zero]
  revert a; exact Md 1 [4] rfl (Nx (Re (Y1 rfl rfl ⟨_, rfl, rfl, hM.below⟩)))
 replace hM := hM.step hBe
 clear hBe
 refine Mv 3 rfl ?_; intro a hF
 refine op_alloc hF hM rfl (vs := [.int .i64 0, .string (mkS []), .slice none 0 0, .slice none 0 0]) rfl rfl rfl (by kernel_rfl) ?_; clear hF hM a; intro a w b5 hF hM
 refine op_storeA hF hM rfl 0 rfl rfl (by kernel_rfl) rfl rfl rfl rfl (rfl) ?_; clear hF hM a; intro a w  hF hM
 revert a; exact Md 1 [0,1,5,6] rfl (Nx (Sq (Sq (Rg (Md 7 [0,1,5,22] rfl (Nx (Ct rfl (Sq (Rg (Md 1 [4] rfl (Nx (Re (Rt (Y1 rfl rfl ⟨_, rfl, rfl, hM.below⟩))))))))))))))
end Go.Sx
