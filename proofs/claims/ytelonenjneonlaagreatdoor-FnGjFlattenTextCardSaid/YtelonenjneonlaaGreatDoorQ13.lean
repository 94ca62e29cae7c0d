/- Part 13 of the proof of FnGjFlattenText: the statement Rows.FnGjFlattenTextCardSaid; no further condition. -/
import Derived.Test.YtelonenjneonlaaGreatDoorQ12
set_option linter.all false
namespace Go.Sx
open Go.RowKit Go.Proofs Js Go.Proofs.YtelonenjneonlaaGreatDoorW.PrintWords
def GbOut (s : Str) (w0 : World) (v : Value) (w' : World) : Prop :=
  (∃ ns TB p c e, v = .tuple #[.agg ns.toArray, .bool true] ∧ s.length ≤ 65536 ∧ paired s = true ∧ pText s = some p ∧ uniqN (tree s p) = true ∧ s[0]? = some c ∧ isBlank c = false ∧ s[s.length - 1]? = some e ∧ isBlank e = false ∧ RepNd TB (tree s p) ns ∧ Mem w0.heap.size w0 TB w') ∨
  (∃ (x : Int) (t : Str) (o1 : Option Addr) (l1 c1 : Nat) (o2 : Option Addr) (l2 c2 : Nat), v = .tuple #[.agg [.int .i64 x, .string (mkS t), .slice o1 l1 c1, .slice o2 l2 c2].toArray, .bool false] ∧ Below w0.heap.size w0 w')
set_option maxRecDepth 100000 in
theorem gjBare_walk {s : Str} (hT : s.length ≤ 2 ^ 40) (w0 : World) : Calls Tryz.prog 18 #[.string (mkS s)] w0 (Ret fun v w' => GbOut s w0 v w') := by
 have hM : Mem w0.heap.size w0 [] w0 := Mem.start (Nat.le_refl _)
 refine enter (l := [.string (mkS s)]) 31 Tryz.func18 rfl rfl (fun a hF => ?_)
 replace hF : Fr 32 [(0, .string (mkS s))] a := hF
 refine seq (region ?_)
 refine op_alloc hF hM rfl (vs := [.int .i64 0, .string (mkS []), .slice none 0 0, .slice none 0 0]) rfl rfl rfl (by kernel_rfl) ?_; clear hF hM a; intro a w b2 hF hM
 revert a; refine Md 1 [0,2] rfl (Nx (Sq (Rg (Mv 1 rfl (Cl rfl Tryz.func39 (by kernel_rfl) rfl (gjText_walk hT w) ?_)))))
 intro w2 v hR
 rcases hR with ⟨ns, TB, p, rfl, hl, hpd, hp, hrn, hM2⟩ | ⟨rfl, hBe⟩
 ·
  replace hM := (hM.join hM2).perm (L' := (b2, 40, [.int .i64 0, .string (mkS []), .slice none 0 0, .slice none 0 0]) :: TB) (pc fun x => by simp [ct, ct_append] <;> omega)
  clear hM2
  have hcl2 := hrn.len
  obtain ⟨j1, jt, p1, m1, e1, p2, m2, e2, rfl⟩ := hrn.shape
  have hs0 : 0 < s.length := by cases s with | nil => (rw [show pText [] = none from rfl] at hp; cases hp) | cons c r => simp
  obtain ⟨c, hc0⟩ : ∃ c, s[0]? = some c := ⟨_, List.getElem?_eq_getElem hs0⟩
  obtain ⟨e, he0⟩ : ∃ e, s[s.length - 1]? = some e := ⟨_, List.getElem?_eq_getElem (by omega)⟩
  refine Mv 3 rfl ?_; intro a hF
  refine op_alloc hF hM rfl (vs := [.int .i64 0, .string (mkS []), .slice none 0 0, .slice none 0 0]) rfl rfl rfl (by kernel_rfl) ?_; clear hF hM a; intro a w b4 hF hM
  refine op_storeA hF hM rfl 0 rfl rfl (by kernel_rfl) rfl rfl rfl rfl (rfl) ?_; clear hF hM a; intro a w  hF hM
  revert a; refine Md 1 [0,2,4,5] rfl (Nx (Sq ?_))
  rcases hun : uniqN (tree s p) with _ | _
  ·
   intro a hF
   refine mix (fun w => Mem w0.heap.size w0 ((b4, 40, [.int .i64 j1, .string (mkS jt), .slice p1 m1 e1, .slice p2 m2 e2]) :: (b2, 40, [.int .i64 0, .string (mkS []), .slice none 0 0, .slice none 0 0]) :: TB) w) 21 (by kernel_rfl) ?_
   replace hM := hM.drew
   generalize World.drew w = w at *
   refine mtakeL 0 hF hM rfl (by kernel_rfl) (by kernel_rfl) (by kernel_rfl) (by kernel_rfl) (by kernel_rfl) (fun _ _ _ h => h) rfl rfl (y_plain rfl (fun w hM => gives_loadA hF hM 0 rfl Tryz.underlying40 rfl (by kernel_rfl) rfl rfl)) ?_; clear hF a; intro a hF
   refine mtakeP 1 hF (.inl hM) rfl (by kernel_rfl) (by kernel_rfl) (by kernel_rfl) rfl (fun _ _ _ h => h) rfl rfl (y_plain rfl (fun w _ => gives_move hF rfl rfl _)) ?_; clear hF a; intro a hF
   refine mtakeP 2 hF (.inl hM) rfl (by kernel_rfl) (by kernel_rfl) (by kernel_rfl) rfl (fun _ _ _ h => h) rfl rfl (y_plain rfl (fun w _ => gives_move hF rfl rfl _)) ?_; clear hF a; intro a hF
   refine mtakeL 3 hF hM rfl (by kernel_rfl) (by kernel_rfl) (by kernel_rfl) (by kernel_rfl) (by kernel_rfl) (fun _ _ _ h => h) rfl rfl (y_yes hF rfl rfl rfl rfl rfl rfl (fun w hM => gives_loadA hF hM 0 rfl Tryz.underlying40 rfl (by kernel_rfl) rfl rfl)) ?_; clear hF a; intro a hF
   refine malone 4 rfl (by kernel_rfl) ?_
   revert a; refine Cl rfl Tryz.func40 (by kernel_rfl) rfl (uniq_walk _ (RepNd.mono (by intro z hz; simp [hz]) _ _ hrn) hM) ?_
   clear hM; intro w v hR
   obtain ⟨rfl, hM⟩ := hR
   intro a hF
   rw [hun] at hF
   refine mstep (.inl (hM)) ?_
   refine mtakeP 5 hF (.inl hM) rfl (by kernel_rfl) (by kernel_rfl) (by kernel_rfl) rfl (fun _ _ _ h => h) rfl rfl (y_plain rfl (fun w _ => gives_pick hF rfl rfl rfl _)) ?_; clear hF a; intro a hF
   refine mtakeP 6 hF (.inl hM) rfl (by kernel_rfl) (by kernel_rfl) (by kernel_rfl) rfl (fun _ _ _ h => h) rfl rfl (y_plain rfl (fun w _ => gives_move hF rfl rfl _)) ?_; clear hF a; intro a hF
   refine mtakeP 7 hF (.inl hM) rfl (by kernel_rfl) (by kernel_rfl) (by kernel_rfl) rfl (fun _ _ _ h => h) rfl rfl (y_no hF rfl rfl rfl rfl rfl rfl) ?_; clear hF a; intro a hF
   refine mtakeP 8 hF (.inl hM) rfl (by kernel_rfl) (by kernel_rfl) (by kernel_rfl) rfl (fun _ _ _ h => h) rfl rfl (y_no hF rfl rfl rfl rfl rfl rfl) ?_; clear hF a; intro a hF
   refine mtakeP 9 hF (.inl hM) rfl (by kernel_rfl) (by kernel_rfl) (by kernel_rfl) rfl (fun _ _ _ h => h) rfl rfl (y_no hF rfl rfl rfl rfl rfl rfl) ?_; clear hF a; intro a hF
   refine mtakeP 10 hF (.inl hM) rfl (by kernel_rfl) (by kernel_rfl) (by kernel_rfl) rfl (fun _ _ _ h => h) rfl rfl (y_no hF rfl rfl rfl rfl rfl rfl) ?_; clear hF a; intro a hF
   refine mtakeP 11 hF (.inl hM) rfl (by kernel_rfl) (by kernel_rfl) (by kernel_rfl) rfl (fun _ _ _ h => h) rfl rfl (y_plain rfl (fun w _ => gives_pick hF rfl rfl rfl _)) ?_; clear hF a; intro a hF
   refine mtakeP 12 hF (.inl hM) rfl (by kernel_rfl) (by kernel_rfl) (by kernel_rfl) rfl (fun _ _ _ h => h) rfl rfl (y_plain rfl (fun w _ => gives_move hF rfl rfl _)) ?_; clear hF a; intro a hF
   refine mtakeP 13 hF (.inl hM) rfl (by kernel_rfl) (by kernel_rfl) (by kernel_rfl) rfl (fun _ _ _ h => h) rfl rfl (y_no hF rfl rfl rfl rfl rfl rfl) ?_; clear hF a; intro a hF
   refine mtakeP 14 hF (.inl hM) rfl (by kernel_rfl) (by kernel_rfl) (by kernel_rfl) rfl (fun _ _ _ h => h) rfl rfl (y_no hF rfl rfl rfl rfl rfl rfl) ?_; clear hF a; intro a hF
   refine mtakeP 15 hF (.inl hM) rfl (by kernel_rfl) (by kernel_rfl) (by kernel_rfl) rfl (fun _ _ _ h => h) rfl rfl (y_no hF rfl rfl rfl rfl rfl rfl) ?_; clear hF a; intro a hF
   refine mtakeP 16 hF (.inl hM) rfl (by kernel_rfl) (by kernel_rfl) (by kernel_rfl) rfl (fun _ _ _ h => h) rfl rfl (y_no hF rfl rfl rfl rfl rfl rfl) ?_; clear hF a; intro a hF
   refine mtakeP 17 hF (.inl hM) rfl (by kernel_rfl) (by kernel_rfl) (by kernel_rfl) rfl (fun _ _ _ h => h) rfl rfl (y_no hF rfl rfl rfl rfl rfl rfl) ?_; clear hF a; intro a hF
   refine mtakeP 18 hF (.inl hM) rfl (by kernel_rfl) (by kernel_rfl) (by kernel_rfl) rfl (fun _ _ _ h => h) rfl rfl (y_no hF rfl rfl rfl rfl rfl rfl) ?_; clear hF a; intro a hF
   refine mtakeP 19 hF (.inl hM) rfl (by kernel_rfl) (by kernel_rfl) (by kernel_rfl) rfl (fun _ _ _ h => h) rfl rfl (y_no hF rfl rfl rfl rfl rfl rfl) ?_; clear hF a; intro a hF
   refine mtakeP 20 hF (.inl hM) rfl (by kernel_rfl) (by kernel_rfl) (by kernel_rfl) rfl (fun _ _ _ h => h) rfl rfl (y_plain rfl (fun w _ => gives_pick hF rfl rfl rfl _)) ?_; clear hF a; intro a hF
   refine malone 21 rfl (by kernel_rfl) ?_
   refine op_storeA hF hM rfl 1 rfl rfl (by kernel_rfl) rfl rfl rfl rfl (rfl) ?_; clear hF hM a; intro a w  hF hM
   refine mstep (.inr (by kernel_rfl)) ?_
   refine mtail 22 (by kernel_rfl) (by kernel_rfl) ?_
   simp only [List.drop_succ_cons, List.drop_zero]
   revert a; refine Md 1 [2,3] rfl (Nx (Re ?_)); intro a hF
   refine retMany (vs := [_, _]) hF hM rfl rfl (.cell 1 rfl rfl Tryz.underlying40 rfl (by kernel_rfl) (.tmp rfl .nil)) ⟨_, rfl, .inr ⟨_, _, _, _, _, _, _, _, rfl, hM.below⟩⟩
  rcases hbc : isBlank c with _ | _
  ·
   rcases hbe : isBlank e with _ | _
   ·
    intro a hF
    refine mix (fun w => Mem w0.heap.size w0 ((b4, 40, [.int .i64 j1, .string (mkS jt), .slice p1 m1 e1, .slice p2 m2 e2]) :: (b2, 40, [.int .i64 0, .string (mkS []), .slice none 0 0, .slice none 0 0]) :: TB) w) 21 (by kernel_rfl) ?_
    replace hM := hM.drew
    generalize World.drew w = w at *
    refine mtakeL 0 hF hM rfl (by kernel_rfl) (by kernel_rfl) (by kernel_rfl) (by kernel_rfl) (by kernel_rfl) (fun _ _ _ h => h) rfl rfl (y_plain rfl (fun w hM => gives_loadA hF hM 0 rfl Tryz.underlying40 rfl (by kernel_rfl) rfl rfl)) ?_; clear hF a; intro a hF
    refine mtakeP 1 hF (.inl hM) rfl (by kernel_rfl) (by kernel_rfl) (by kernel_rfl) rfl (fun _ _ _ h => h) rfl rfl (y_plain rfl (fun w _ => gives_move hF rfl rfl _)) ?_; clear hF a; intro a hF
    refine mtakeP 2 hF (.inl hM) rfl (by kernel_rfl) (by kernel_rfl) (by kernel_rfl) rfl (fun _ _ _ h => h) rfl rfl (y_plain rfl (fun w _ => gives_move hF rfl rfl _)) ?_; clear hF a; intro a hF
    refine mtakeL 3 hF hM rfl (by kernel_rfl) (by kernel_rfl) (by kernel_rfl) (by kernel_rfl) (by kernel_rfl) (fun _ _ _ h => h) rfl rfl (y_yes hF rfl rfl rfl rfl rfl rfl (fun w hM => gives_loadA hF hM 0 rfl Tryz.underlying40 rfl (by kernel_rfl) rfl rfl)) ?_; clear hF a; intro a hF
    refine malone 4 rfl (by kernel_rfl) ?_
    revert a; refine Cl rfl Tryz.func40 (by kernel_rfl) rfl (uniq_walk _ (RepNd.mono (by intro z hz; simp [hz]) _ _ hrn) hM) ?_
    clear hM; intro w v hR
    obtain ⟨rfl, hM⟩ := hR
    intro a hF
    rw [hun] at hF
    refine mstep (.inl (hM)) ?_
    refine mtakeP 5 hF (.inl hM) rfl (by kernel_rfl) (by kernel_rfl) (by kernel_rfl) rfl (fun _ _ _ h => h) rfl rfl (y_plain rfl (fun w _ => gives_pick hF rfl rfl rfl _)) ?_; clear hF a; intro a hF
    refine mtakeP 6 hF (.inl hM) rfl (by kernel_rfl) (by kernel_rfl) (by kernel_rfl) rfl (fun _ _ _ h => h) rfl rfl (y_plain rfl (fun w _ => gives_move hF rfl rfl _)) ?_; clear hF a; intro a hF
    refine mtakeP 7 hF (.inl hM) rfl (by kernel_rfl) (by kernel_rfl) (by kernel_rfl) rfl (fun _ _ _ h => h) rfl rfl (y_yes hF rfl rfl rfl rfl rfl rfl (fun w _ => gives_move hF rfl rfl _)) ?_; clear hF a; intro a hF
    refine mtakeP 8 hF (.inl hM) rfl (by kernel_rfl) (by kernel_rfl) (by kernel_rfl) rfl (fun _ _ _ h => h) rfl rfl (y_yes hF rfl rfl rfl rfl rfl rfl (fun w _ => gives_index_str (0) c hF rfl Tryz.underlying9 rfl rfl (by first | rfl | omega) hc0 _)) ?_; clear hF a; intro a hF
    refine malone 9 rfl (by kernel_rfl) ?_
    revert a; refine Cm hM rfl Tryz.func41 (by kernel_rfl) rfl (blank_walk c _) ?_
    clear hM; intro w v hR hM hBe
    obtain rfl := hR
    intro a hF
    rw [hbc] at hF
    refine mstep (.inl (hM)) ?_
    refine mtakeP 10 hF (.inl hM) rfl (by kernel_rfl) (by kernel_rfl) (by kernel_rfl) rfl (fun _ _ _ h => h) rfl rfl (y_yes hF rfl rfl rfl rfl rfl rfl (fun w _ => gives_not hF rfl rfl _)) ?_; clear hF a; intro a hF
    refine mtakeP 11 hF (.inl hM) rfl (by kernel_rfl) (by kernel_rfl) (by kernel_rfl) rfl (fun _ _ _ h => h) rfl rfl (y_plain rfl (fun w _ => gives_pick hF rfl rfl rfl _)) ?_; clear hF a; intro a hF
    refine mtakeP 12 hF (.inl hM) rfl (by kernel_rfl) (by kernel_rfl) (by kernel_rfl) rfl (fun _ _ _ h => h) rfl rfl (y_plain rfl (fun w _ => gives_move hF rfl rfl _)) ?_; clear hF a; intro a hF
    refine mtakeP 13 hF (.inl hM) rfl (by kernel_rfl) (by kernel_rfl) (by kernel_rfl) rfl (fun _ _ _ h => h) rfl rfl (y_yes hF rfl rfl rfl rfl rfl rfl (fun w _ => gives_move hF rfl rfl _)) ?_; clear hF a; intro a hF
    refine mtakeP 14 hF (.inl hM) rfl (by kernel_rfl) (by kernel_rfl) (by kernel_rfl) rfl (fun _ _ _ h => h) rfl rfl (y_yes hF rfl rfl rfl rfl rfl rfl (fun w _ => gives_move hF rfl rfl _)) ?_; clear hF a; intro a hF
    refine mtakeP 15 hF (.inl hM) rfl (by kernel_rfl) (by kernel_rfl) (by kernel_rfl) rfl (fun _ _ _ h => h) rfl rfl (y_yes hF rfl rfl rfl rfl rfl rfl (fun w _ => gives_len_str hF rfl Tryz.underlying9 rfl _)) ?_; clear hF a; intro a hF
    refine mtakeP 16 hF (.inl hM) rfl (by kernel_rfl) (by kernel_rfl) (by kernel_rfl) rfl (fun _ _ _ h => h) rfl rfl (y_yes hF rfl rfl rfl rfl rfl rfl (fun w _ => gives_sum hF rfl rfl rfl (((s.length - 1 : Nat) : Int)) rfl (by omega) (wrap_i64 (by omega) (by omega)) _)) ?_; clear hF a; intro a hF
    refine mtakeP 17 hF (.inl hM) rfl (by kernel_rfl) (by kernel_rfl) (by kernel_rfl) rfl (fun _ _ _ h => h) rfl rfl (y_yes hF rfl rfl rfl rfl rfl rfl (fun w _ => gives_index_str ((s.length - 1)) e hF rfl Tryz.underlying9 rfl rfl (by first | rfl | omega) he0 _)) ?_; clear hF a; intro a hF
    refine malone 18 rfl (by kernel_rfl) ?_
    revert a; refine Cm hM rfl Tryz.func41 (by kernel_rfl) rfl (blank_walk e _) ?_
    clear hM; intro w v hR hM hBe
    obtain rfl := hR
    intro a hF
    rw [hbe] at hF
    refine mstep (.inl (hM)) ?_
    refine mtakeP 19 hF (.inl hM) rfl (by kernel_rfl) (by kernel_rfl) (by kernel_rfl) rfl (fun _ _ _ h => h) rfl rfl (y_yes hF rfl rfl rfl rfl rfl rfl (fun w _ => gives_not hF rfl rfl _)) ?_; clear hF a; intro a hF
    refine mtakeP 20 hF (.inl hM) rfl (by kernel_rfl) (by kernel_rfl) (by kernel_rfl) rfl (fun _ _ _ h => h) rfl rfl (y_plain rfl (fun w _ => gives_pick hF rfl rfl rfl _)) ?_; clear hF a; intro a hF
    refine malone 21 rfl (by kernel_rfl) ?_
    refine op_storeA hF hM rfl 1 rfl rfl (by kernel_rfl) rfl rfl rfl rfl (rfl) ?_; clear hF hM a; intro a w  hF hM
    refine mstep (.inr (by kernel_rfl)) ?_
    refine mtail 22 (by kernel_rfl) (by kernel_rfl) ?_
    simp only [List.drop_succ_cons, List.drop_zero]
    revert a; refine Md 1 [2,3] rfl (Nx (Re ?_)); intro a hF
    refine retMany (vs := [_, _]) hF hM rfl rfl (.cell 1 rfl rfl Tryz.underlying40 rfl (by kernel_rfl) (.tmp rfl .nil)) ⟨_, rfl, .inl ⟨_, TB, p, c, e, rfl, hl, hpd, hp, hun, hc0, hbc, he0, hbe, hrn, hM.sub [(b4, 40, [.int .i64 j1, .string (mkS jt), .slice p1 m1 e1, .slice p2 m2 e2]), (b2, 40, [.int .i64 j1, .string (mkS jt), .slice p1 m1 e1, .slice p2 m2 e2])] (pc fun x => by simp [ct, ct_append] <;> omega)⟩⟩
   intro a hF
   refine mix (fun w => Mem w0.heap.size w0 ((b4, 40, [.int .i64 j1, .string (mkS jt), .slice p1 m1 e1, .slice p2 m2 e2]) :: (b2, 40, [.int .i64 0, .string (mkS []), .slice none 0 0, .slice none 0 0]) :: TB) w) 21 (by kernel_rfl) ?_
   replace hM := hM.drew
   generalize World.drew w = w at *
   refine mtakeL 0 hF hM rfl (by kernel_rfl) (by kernel_rfl) (by kernel_rfl) (by kernel_rfl) (by kernel_rfl) (fun _ _ _ h => h) rfl rfl (y_plain rfl (fun w hM => gives_loadA hF hM 0 rfl Tryz.underlying40 rfl (by kernel_rfl) rfl rfl)) ?_; clear hF a; intro a hF
   refine mtakeP 1 hF (.inl hM) rfl (by kernel_rfl) (by kernel_rfl) (by kernel_rfl) rfl (fun _ _ _ h => h) rfl rfl (y_plain rfl (fun w _ => gives_move hF rfl rfl _)) ?_; clear hF a; intro a hF
   refine mtakeP 2 hF (.inl hM) rfl (by kernel_rfl) (by kernel_rfl) (by kernel_rfl) rfl (fun _ _ _ h => h) rfl rfl (y_plain rfl (fun w _ => gives_move hF rfl rfl _)) ?_; clear hF a; intro a hF
   refine mtakeL 3 hF hM rfl (by kernel_rfl) (by kernel_rfl) (by kernel_rfl) (by kernel_rfl) (by kernel_rfl) (fun _ _ _ h => h) rfl rfl (y_yes hF rfl rfl rfl rfl rfl rfl (fun w hM => gives_loadA hF hM 0 rfl Tryz.underlying40 rfl (by kernel_rfl) rfl rfl)) ?_; clear hF a; intro a hF
   refine malone 4 rfl (by kernel_rfl) ?_
   revert a; refine Cl rfl Tryz.func40 (by kernel_rfl) rfl (uniq_walk _ (RepNd.mono (by intro z hz; simp [hz]) _ _ hrn) hM) ?_
   clear hM; intro w v hR
   obtain ⟨rfl, hM⟩ := hR
   intro a hF
   rw [hun] at hF
   refine mstep (.inl (hM)) ?_
   refine mtakeP 5 hF (.inl hM) rfl (by kernel_rfl) (by kernel_rfl) (by kernel_rfl) rfl (fun _ _ _ h => h) rfl rfl (y_plain rfl (fun w _ => gives_pick hF rfl rfl rfl _)) ?_; clear hF a; intro a hF
   refine mtakeP 6 hF (.inl hM) rfl (by kernel_rfl) (by kernel_rfl) (by kernel_rfl) rfl (fun _ _ _ h => h) rfl rfl (y_plain rfl (fun w _ => gives_move hF rfl rfl _)) ?_; clear hF a; intro a hF
   refine mtakeP 7 hF (.inl hM) rfl (by kernel_rfl) (by kernel_rfl) (by kernel_rfl) rfl (fun _ _ _ h => h) rfl rfl (y_yes hF rfl rfl rfl rfl rfl rfl (fun w _ => gives_move hF rfl rfl _)) ?_; clear hF a; intro a hF
   refine mtakeP 8 hF (.inl hM) rfl (by kernel_rfl) (by kernel_rfl) (by kernel_rfl) rfl (fun _ _ _ h => h) rfl rfl (y_yes hF rfl rfl rfl rfl rfl rfl (fun w _ => gives_index_str (0) c hF rfl Tryz.underlying9 rfl rfl (by first | rfl | omega) hc0 _)) ?_; clear hF a; intro a hF
   refine malone 9 rfl (by kernel_rfl) ?_
   revert a; refine Cm hM rfl Tryz.func41 (by kernel_rfl) rfl (blank_walk c _) ?_
   clear hM; intro w v hR hM hBe
   obtain rfl := hR
   intro a hF
   rw [hbc] at hF
   refine mstep (.inl (hM)) ?_
   refine mtakeP 10 hF (.inl hM) rfl (by kernel_rfl) (by kernel_rfl) (by kernel_rfl) rfl (fun _ _ _ h => h) rfl rfl (y_yes hF rfl rfl rfl rfl rfl rfl (fun w _ => gives_not hF rfl rfl _)) ?_; clear hF a; intro a hF
   refine mtakeP 11 hF (.inl hM) rfl (by kernel_rfl) (by kernel_rfl) (by kernel_rfl) rfl (fun _ _ _ h => h) rfl rfl (y_plain rfl (fun w _ => gives_pick hF rfl rfl rfl _)) ?_; clear hF a; intro a hF
   refine mtakeP 12 hF (.inl hM) rfl (by kernel_rfl) (by kernel_rfl) (by kernel_rfl) rfl (fun _ _ _ h => h) rfl rfl (y_plain rfl (fun w _ => gives_move hF rfl rfl _)) ?_; clear hF a; intro a hF
   refine mtakeP 13 hF (.inl hM) rfl (by kernel_rfl) (by kernel_rfl) (by kernel_rfl) rfl (fun _ _ _ h => h) rfl rfl (y_yes hF rfl rfl rfl rfl rfl rfl (fun w _ => gives_move hF rfl rfl _)) ?_; clear hF a; intro a hF
   refine mtakeP 14 hF (.inl hM) rfl (by kernel_rfl) (by kernel_rfl) (by kernel_rfl) rfl (fun _ _ _ h => h) rfl rfl (y_yes hF rfl rfl rfl rfl rfl rfl (fun w _ => gives_move hF rfl rfl _)) ?_; clear hF a; intro a hF
   refine mtakeP 15 hF (.inl hM) rfl (by kernel_rfl) (by kernel_rfl) (by kernel_rfl) rfl (fun _ _ _ h => h) rfl rfl (y_yes hF rfl rfl rfl rfl rfl rfl (fun w _ => gives_len_str hF rfl Tryz.underlying9 rfl _)) ?_; clear hF a; intro a hF
   refine mtakeP 16 hF (.inl hM) rfl (by kernel_rfl) (by kernel_rfl) (by kernel_rfl) rfl (fun _ _ _ h => h) rfl rfl (y_yes hF rfl rfl rfl rfl rfl rfl (fun w _ => gives_sum hF rfl rfl rfl (((s.length - 1 : Nat) : Int)) rfl (by omega) (wrap_i64 (by omega) (by omega)) _)) ?_; clear hF a; intro a hF
   refine mtakeP 17 hF (.inl hM) rfl (by kernel_rfl) (by kernel_rfl) (by kernel_rfl) rfl (fun _ _ _ h => h) rfl rfl (y_yes hF rfl rfl rfl rfl rfl rfl (fun w _ => gives_index_str ((s.length - 1)) e hF rfl Tryz.underlying9 rfl rfl (by first | rfl | omega) he0 _)) ?_; clear hF a; intro a hF
   refine malone 18 rfl (by kernel_rfl) ?_
   revert a; refine Cm hM rfl Tryz.func41 (by kernel_rfl) rfl (blank_walk e _) ?_
   clear hM; intro w v hR hM hBe
   obtain rfl := hR
   intro a hF
   rw [hbe] at hF
   refine mstep (.inl (hM)) ?_
   refine mtakeP 19 hF (.inl hM) rfl (by kernel_rfl) (by kernel_rfl) (by kernel_rfl) rfl (fun _ _ _ h => h) rfl rfl (y_yes hF rfl rfl rfl rfl rfl rfl (fun w _ => gives_not hF rfl rfl _)) ?_; clear hF a; intro a hF
   refine mtakeP 20 hF (.inl hM) rfl (by kernel_rfl) (by kernel_rfl) (by kernel_rfl) rfl (fun _ _ _ h => h) rfl rfl (y_plain rfl (fun w _ => gives_pick hF rfl rfl rfl _)) ?_; clear hF a; intro a hF
   refine malone 21 rfl (by kernel_rfl) ?_
   refine op_storeA hF hM rfl 1 rfl rfl (by kernel_rfl) rfl rfl rfl rfl (rfl) ?_; clear hF hM a; intro a w  hF hM
   refine mstep (.inr (by kernel_rfl)) ?_
   refine mtail 22 (by kernel_rfl) (by kernel_rfl) ?_
   simp only [List.drop_succ_cons, List.drop_zero]
   revert a; refine Md 1 [2,3] rfl (Nx (Re ?_)); intro a hF
   refine retMany (vs := [_, _]) hF hM rfl rfl (.cell 1 rfl rfl Tryz.underlying40 rfl (by kernel_rfl) (.tmp rfl .nil)) ⟨_, rfl, .inr ⟨_, _, _, _, _, _, _, _, rfl, hM.below⟩⟩
  intro a hF
  refine mix (fun w => Mem w0.heap.size w0 ((b4, 40, [.int .i64 j1, .string (mkS jt), .slice p1 m1 e1, .slice p2 m2 e2]) :: (b2, 40, [.int .i64 0, .string (mkS []), .slice none 0 0, .slice none 0 0]) :: TB) w) 21 (by kernel_rfl) ?_
  replace hM := hM.drew
  generalize World.drew w = w at *
  refine mtakeL 0 hF hM rfl (by kernel_rfl) (by kernel_rfl) (by kernel_rfl) (by kernel_rfl) (by kernel_rfl) (fun _ _ _ h => h) rfl rfl (y_plain rfl (fun w hM => gives_loadA hF hM 0 rfl Tryz.underlying40 rfl (by kernel_rfl) rfl rfl)) ?_; clear hF a; intro a hF
  refine mtakeP 1 hF (.inl hM) rfl (by kernel_rfl) (by kernel_rfl) (by kernel_rfl) rfl (fun _ _ _ h => h) rfl rfl (y_plain rfl (fun w _ => gives_move hF rfl rfl _)) ?_; clear hF a; intro a hF
  refine mtakeP 2 hF (.inl hM) rfl (by kernel_rfl) (by kernel_rfl) (by kernel_rfl) rfl (fun _ _ _ h => h) rfl rfl (y_plain rfl (fun w _ => gives_move hF rfl rfl _)) ?_; clear hF a; intro a hF
  refine mtakeL 3 hF hM rfl (by kernel_rfl) (by kernel_rfl) (by kernel_rfl) (by kernel_rfl) (by kernel_rfl) (fun _ _ _ h => h) rfl rfl (y_yes hF rfl rfl rfl rfl rfl rfl (fun w hM => gives_loadA hF hM 0 rfl Tryz.underlying40 rfl (by kernel_rfl) rfl rfl)) ?_; clear hF a; intro a hF
  refine malone 4 rfl (by kernel_rfl) ?_
  revert a; refine Cl rfl Tryz.func40 (by kernel_rfl) rfl (uniq_walk _ (RepNd.mono (by intro z hz; simp [hz]) _ _ hrn) hM) ?_
  clear hM; intro w v hR
  obtain ⟨rfl, hM⟩ := hR
  intro a hF
  rw [hun] at hF
  refine mstep (.inl (hM)) ?_
  refine mtakeP 5 hF (.inl hM) rfl (by kernel_rfl) (by kernel_rfl) (by kernel_rfl) rfl (fun _ _ _ h => h) rfl rfl (y_plain rfl (fun w _ => gives_pick hF rfl rfl rfl _)) ?_; clear hF a; intro a hF
  refine mtakeP 6 hF (.inl hM) rfl (by kernel_rfl) (by kernel_rfl) (by kernel_rfl) rfl (fun _ _ _ h => h) rfl rfl (y_plain rfl (fun w _ => gives_move hF rfl rfl _)) ?_; clear hF a; intro a hF
  refine mtakeP 7 hF (.inl hM) rfl (by kernel_rfl) (by kernel_rfl) (by kernel_rfl) rfl (fun _ _ _ h => h) rfl rfl (y_yes hF rfl rfl rfl rfl rfl rfl (fun w _ => gives_move hF rfl rfl _)) ?_; clear hF a; intro a hF
  refine mtakeP 8 hF (.inl hM) rfl (by kernel_rfl) (by kernel_rfl) (by kernel_rfl) rfl (fun _ _ _ h => h) rfl rfl (y_yes hF rfl rfl rfl rfl rfl rfl (fun w _ => gives_index_str (0) c hF rfl Tryz.underlying9 rfl rfl (by first | rfl | omega) hc0 _)) ?_; clear hF a; intro a hF
  refine malone 9 rfl (by kernel_rfl) ?_
  revert a; refine Cm hM rfl Tryz.func41 (by kernel_rfl) rfl (blank_walk c _) ?_
  clear hM; intro w v hR hM hBe
  obtain rfl := hR
  intro a hF
  rw [hbc] at hF
  refine mstep (.inl (hM)) ?_
  refine mtakeP 10 hF (.inl hM) rfl (by kernel_rfl) (by kernel_rfl) (by kernel_rfl) rfl (fun _ _ _ h => h) rfl rfl (y_yes hF rfl rfl rfl rfl rfl rfl (fun w _ => gives_not hF rfl rfl _)) ?_; clear hF a; intro a hF
  refine mtakeP 11 hF (.inl hM) rfl (by kernel_rfl) (by kernel_rfl) (by kernel_rfl) rfl (fun _ _ _ h => h) rfl rfl (y_plain rfl (fun w _ => gives_pick hF rfl rfl rfl _)) ?_; clear hF a; intro a hF
  refine mtakeP 12 hF (.inl hM) rfl (by kernel_rfl) (by kernel_rfl) (by kernel_rfl) rfl (fun _ _ _ h => h) rfl rfl (y_plain rfl (fun w _ => gives_move hF rfl rfl _)) ?_; clear hF a; intro a hF
  refine mtakeP 13 hF (.inl hM) rfl (by kernel_rfl) (by kernel_rfl) (by kernel_rfl) rfl (fun _ _ _ h => h) rfl rfl (y_no hF rfl rfl rfl rfl rfl rfl) ?_; clear hF a; intro a hF
  refine mtakeP 14 hF (.inl hM) rfl (by kernel_rfl) (by kernel_rfl) (by kernel_rfl) rfl (fun _ _ _ h => h) rfl rfl (y_no hF rfl rfl rfl rfl rfl rfl) ?_; clear hF a; intro a hF
  refine mtakeP 15 hF (.inl hM) rfl (by kernel_rfl) (by kernel_rfl) (by kernel_rfl) rfl (fun _ _ _ h => h) rfl rfl (y_no hF rfl rfl rfl rfl rfl rfl) ?_; clear hF a; intro a hF
  refine mtakeP 16 hF (.inl hM) rfl (by kernel_rfl) (by kernel_rfl) (by kernel_rfl) rfl (fun _ _ _ h => h) rfl rfl (y_no hF rfl rfl rfl rfl rfl rfl) ?_; clear hF a; intro a hF
  refine mtakeP 17 hF (.inl hM) rfl (by kernel_rfl) (by kernel_rfl) (by kernel_rfl) rfl (fun _ _ _ h => h) rfl rfl (y_no hF rfl rfl rfl rfl rfl rfl) ?_; clear hF a; intro a hF
  refine mtakeP 18 hF (.inl hM) rfl (by kernel_rfl) (by kernel_rfl) (by kernel_rfl) rfl (fun _ _ _ h => h) rfl rfl (y_no hF rfl rfl rfl rfl rfl rfl) ?_; clear hF a; intro a hF
  refine mtakeP 19 hF (.inl hM) rfl (by kernel_rfl) (by kernel_rfl) (by kernel_rfl) rfl (fun _ _ _ h => h) rfl rfl (y_no hF rfl rfl rfl rfl rfl rfl) ?_; clear hF a; intro a hF
  refine mtakeP 20 hF (.inl hM) rfl (by kernel_rfl) (by kernel_rfl) (by kernel_rfl) rfl (fun _ _ _ h => h) rfl rfl (y_plain rfl (fun w _ => gives_pick hF rfl rfl rfl _)) ?_; clear hF a; intro a hF
  refine malone 21 rfl (by kernel_rfl) ?_
  refine op_storeA hF hM rfl 1 rfl rfl (by kernel_rfl) rfl rfl rfl rfl (rfl) ?_; clear hF hM a; intro a w  hF hM
  refine mstep (.inr (by kernel_rfl)) ?_
  refine mtail 22 (by kernel_rfl) (by kernel_rfl) ?_
  simp only [List.drop_succ_cons, List.drop_zero]
  revert a; refine Md 1 [2,3] rfl (Nx (Re ?_)); intro a hF
  refine retMany (vs := [_, _]) hF hM rfl rfl (.cell 1 rfl rfl Tryz.underlying40 rfl (by kernel_rfl) (.tmp rfl .nil)) ⟨_, rfl, .inr ⟨_, _, _, _, _, _, _, _, rfl, hM.below⟩⟩
 replace hM := hM.step hBe
 clear hBe
 refine Mv 3 rfl ?_; intro a hF
 refine op_alloc hF hM rfl (vs := [.int .i64 0, .string (mkS []), .slice none 0 0, .slice none 0 0]) rfl rfl rfl (by kernel_rfl) ?_; clear hF hM a; intro a w b4 hF hM
 refine op_storeA hF hM rfl 0 rfl rfl (by kernel_rfl) rfl rfl rfl rfl (rfl) ?_; clear hF hM a; intro a w  hF hM
 revert a; refine Md 1 [0,2,4,5] rfl (Nx (Sq ?_)); intro a hF
 refine mix (fun w => Mem w0.heap.size w0 ((b4, 40, [.int .i64 0, .string (mkS []), .slice none 0 0, .slice none 0 0]) :: (b2, 40, [.int .i64 0, .string (mkS []), .slice none 0 0, .slice none 0 0]) :: []) w) 21 (by kernel_rfl) ?_
 replace hM := hM.drew
 generalize World.drew w = w at *
 refine mtakeL 0 hF hM rfl (by kernel_rfl) (by kernel_rfl) (by kernel_rfl) (by kernel_rfl) (by kernel_rfl) (fun _ _ _ h => h) rfl rfl (y_plain rfl (fun w hM => gives_loadA hF hM 0 rfl Tryz.underlying40 rfl (by kernel_rfl) rfl rfl)) ?_; clear hF a; intro a hF
 refine mtakeP 1 hF (.inl hM) rfl (by kernel_rfl) (by kernel_rfl) (by kernel_rfl) rfl (fun _ _ _ h => h) rfl rfl (y_plain rfl (fun w _ => gives_move hF rfl rfl _)) ?_; clear hF a; intro a hF
 refine mtakeP 2 hF (.inl hM) rfl (by kernel_rfl) (by kernel_rfl) (by kernel_rfl) rfl (fun _ _ _ h => h) rfl rfl (y_plain rfl (fun w _ => gives_move hF rfl rfl _)) ?_; clear hF a; intro a hF
 refine mtakeP 3 hF (.inl hM) rfl (by kernel_rfl) (by kernel_rfl) (by kernel_rfl) rfl (fun _ _ _ h => h) rfl rfl (y_no hF rfl rfl rfl rfl rfl rfl) ?_; clear hF a; intro a hF
 refine mtakeP 4 hF (.inl hM) rfl (by kernel_rfl) (by kernel_rfl) (by kernel_rfl) rfl (fun _ _ _ h => h) rfl rfl (y_no hF rfl rfl rfl rfl rfl rfl) ?_; clear hF a; intro a hF
 refine mtakeP 5 hF (.inl hM) rfl (by kernel_rfl) (by kernel_rfl) (by kernel_rfl) rfl (fun _ _ _ h => h) rfl rfl (y_plain rfl (fun w _ => gives_pick hF rfl rfl rfl _)) ?_; clear hF a; intro a hF
 refine mtakeP 6 hF (.inl hM) rfl (by kernel_rfl) (by kernel_rfl) (by kernel_rfl) rfl (fun _ _ _ h => h) rfl rfl (y_plain rfl (fun w _ => gives_move hF rfl rfl _)) ?_; clear hF a; intro a hF
 refine mtakeP 7 hF (.inl hM) rfl (by kernel_rfl) (by kernel_rfl) (by kernel_rfl) rfl (fun _ _ _ h => h) rfl rfl (y_no hF rfl rfl rfl rfl rfl rfl) ?_; clear hF a; intro a hF
 refine mtakeP 8 hF (.inl hM) rfl (by kernel_rfl) (by kernel_rfl) (by kernel_rfl) rfl (fun _ _ _ h => h) rfl rfl (y_no hF rfl rfl rfl rfl rfl rfl) ?_; clear hF a; intro a hF
 refine mtakeP 9 hF (.inl hM) rfl (by kernel_rfl) (by kernel_rfl) (by kernel_rfl) rfl (fun _ _ _ h => h) rfl rfl (y_no hF rfl rfl rfl rfl rfl rfl) ?_; clear hF a; intro a hF
 refine mtakeP 10 hF (.inl hM) rfl (by kernel_rfl) (by kernel_rfl) (by kernel_rfl) rfl (fun _ _ _ h => h) rfl rfl (y_no hF rfl rfl rfl rfl rfl rfl) ?_; clear hF a; intro a hF
 refine mtakeP 11 hF (.inl hM) rfl (by kernel_rfl) (by kernel_rfl) (by kernel_rfl) rfl (fun _ _ _ h => h) rfl rfl (y_plain rfl (fun w _ => gives_pick hF rfl rfl rfl _)) ?_; clear hF a; intro a hF
 refine mtakeP 12 hF (.inl hM) rfl (by kernel_rfl) (by kernel_rfl) (by kernel_rfl) rfl (fun _ _ _ h => h) rfl rfl (y_plain rfl (fun w _ => gives_move hF rfl rfl _)) ?_; clear hF a; intro a hF
 refine mtakeP 13 hF (.inl hM) rfl (by kernel_rfl) (by kernel_rfl) (by kernel_rfl) rfl (fun _ _ _ h => h) rfl rfl (y_no hF rfl rfl rfl rfl rfl rfl) ?_; clear hF a; intro a hF
 refine mtakeP 14 hF (.inl hM) rfl (by kernel_rfl) (by kernel_rfl) (by kernel_rfl) rfl (fun _ _ _ h => h) rfl rfl (y_no hF rfl rfl rfl rfl rfl rfl) ?_; clear hF a; intro a hF
 refine mtakeP 15 hF (.inl hM) rfl (by kernel_rfl) (by kernel_rfl) (by kernel_rfl) rfl (fun _ _ _ h => h) rfl rfl (y_no hF rfl rfl rfl rfl rfl rfl) ?_; clear hF a; intro a hF
 refine mtakeP 16 hF (.inl hM) rfl (by kernel_rfl) (by kernel_rfl) (by kernel_rfl) rfl (fun _ _ _ h => h) rfl rfl (y_no hF rfl rfl rfl rfl rfl rfl) ?_; clear hF a; intro a hF
 refine mtakeP 17 hF (.inl hM) rfl (by kernel_rfl) (by kernel_rfl) (by kernel_rfl) rfl (fun _ _ _ h => h) rfl rfl (y_no hF rfl rfl rfl rfl rfl rfl) ?_; clear hF a; intro a hF
 refine mtakeP 18 hF (.inl hM) rfl (by kernel_rfl) (by kernel_rfl) (by kernel_rfl) rfl (fun _ _ _ h => h) rfl rfl (y_no hF rfl rfl rfl rfl rfl rfl) ?_; clear hF a; intro a hF
 refine mtakeP 19 hF (.inl hM) rfl (by kernel_rfl) (by kernel_rfl) (by kernel_rfl) rfl (fun _ _ _ h => h) rfl rfl (y_no hF rfl rfl rfl rfl rfl rfl) ?_; clear hF a; intro a hF
 refine mtakeP 20 hF (.inl hM) rfl (by kernel_rfl) (by kernel_rfl) (by kernel_rfl) rfl (fun _ _ _ h => h) rfl rfl (y_plain rfl (fun w _ => gives_pick hF rfl rfl rfl _)) ?_; clear hF a; intro a hF
 refine malone 21 rfl (by kernel_rfl) ?_
 refine op_storeA hF hM rfl 1 rfl rfl (by kernel_rfl) rfl rfl rfl rfl (rfl) ?_; clear hF hM a; intro a w  hF hM
 refine mstep (.inr (by kernel_rfl)) ?_
 refine mtail 22 (by kernel_rfl) (by kernel_rfl) ?_
 simp only [List.drop_succ_cons, List.drop_zero]
 revert a; refine Md 1 [2,3] rfl (Nx (Re ?_)); intro a hF
 refine retMany (vs := [_, _]) hF hM rfl rfl (.cell 1 rfl rfl Tryz.underlying40 rfl (by kernel_rfl) (.tmp rfl .nil)) ⟨_, rfl, .inr ⟨_, _, _, _, _, _, _, _, rfl, hM.below⟩⟩
end Go.Sx
namespace Go.Sx
open Go.RowKit Go.Proofs Js Go.Proofs.YtelonenjneonlaaGreatDoorW.PrintWords
set_option maxRecDepth 100000 in
theorem gjReads_walk {B : Nat} {wc w0 : World} {L : List Bk} {R : Str} {p : Js.Place} {cb : List Value} (hp : pText R = some p) (hT : R.length ≤ 2 ^ 37) (hB : RepNd L (tree R p) cb) (hM0 : Mem B wc L w0) :
    Calls Tryz.prog 20 #[.string (mkS R), .agg cb.toArray] w0 (Ret fun v w' => v = .bool true ∧ Mem B wc L w') := by
 have hM := hM0
 obtain ⟨i1, it, q1, n1, f1, q2, n2, f2, rfl⟩ := hB.shape
 refine enter (l := [.string (mkS R), .agg ([.int .i64 i1, .string (mkS it), .slice q1 n1 f1, .slice q2 n2 f2] : List Value).toArray]) 16 Tryz.func20 rfl rfl (fun a hF => ?_)
 replace hF : Fr 18 [(0, .string (mkS R)), (1, .agg ([.int .i64 i1, .string (mkS it), .slice q1 n1 f1, .slice q2 n2 f2] : List Value).toArray)] a := hF
 refine seq (region ?_)
 refine op_box hF hM rfl rfl rfl rfl rfl rfl ?_; clear hF hM a; intro a w b3 hF hM
 revert a; refine Md 1 [0,3] rfl (Nx (Sq (Rg (Mv 1 rfl (Cl rfl Tryz.func42 (by kernel_rfl) rfl (read_walk (T := R) hT w) ?_)))))
 intro w2 v hR
 rw [hp] at hR
 obtain ⟨d2, TB, rfl, hrn, hM2⟩ := hR
 replace hM := (hM.join hM2).perm (L' := (b3, 40, [.int .i64 i1, .string (mkS it), .slice q1 n1 f1, .slice q2 n2 f2]) :: (TB ++ L)) (pc fun x => by simp [ct, ct_append] <;> omega)
 clear hM2
 have hcl2 := hrn.len
 obtain ⟨j1, jt, p1, m1, e1, p2, m2, e2, rfl⟩ := hrn.shape
 refine Mv 3 rfl ?_; intro a hF
 refine op_alloc hF hM rfl (vs := [.int .i64 0, .string (mkS []), .slice none 0 0, .slice none 0 0]) rfl rfl rfl (by kernel_rfl) ?_; clear hF hM a; intro a w b5 hF hM
 refine op_storeA hF hM rfl 0 rfl rfl (by kernel_rfl) rfl rfl rfl rfl (rfl) ?_; clear hF hM a; intro a w  hF hM
 revert a; refine Md 1 [3,5,6] rfl (Nx (Sq (Rg (Mv 2 rfl ?_)))); intro a hF
 refine guard_yes hF rfl rfl rfl rfl rfl rfl ?_
 refine op_loadA hF hM rfl 0 rfl rfl rfl Tryz.underlying40 rfl (by kernel_rfl) rfl rfl ?_; clear hF a; intro a hF
 refine guard_yes hF rfl rfl rfl rfl rfl rfl ?_
 refine op_loadA hF hM rfl 1 rfl rfl rfl Tryz.underlying40 rfl (by kernel_rfl) rfl rfl ?_; clear hF a; intro a hF
 revert a; refine Cl rfl Tryz.func43 (by kernel_rfl) rfl (same_walk _ (RepNd.mono (by intro z hz; simp [hz]) _ _ hrn) (RepNd.mono (by intro z hz; simp [hz]) _ _ hB) hM) ?_
 clear hM; intro w v hR
 obtain ⟨rfl, hM⟩ := hR
 exact Md 2 [4] rfl (Nx (Re (Y1 rfl rfl ⟨_, rfl, rfl, hM.sub ((b5, 40, [.int .i64 j1, .string (mkS jt), .slice p1 m1 e1, .slice p2 m2 e2]) :: (b3, 40, [.int .i64 i1, .string (mkS it), .slice q1 n1 f1, .slice q2 n2 f2]) :: TB) (pc fun x => by simp [ct, ct_append] <;> omega)⟩)))
end Go.Sx
set_option linter.unusedVariables false
namespace Js
mutual
def flat1 (deep : Bool) : Nd → List Nd
  | .mk k t ks l => if k = 5 then (if deep then flats deep l else l) else [.mk k t ks l]
def flats (deep : Bool) : List Nd → List Nd
  | [] => []
  | n :: r => flat1 deep n ++ flats deep r
end
theorem flats_append (deep : Bool) : ∀ (a b : List Nd), flats deep (a ++ b) = flats deep a ++ flats deep b
  | [], b => by simp [flats]
  | n :: a, b => by simp [flats, flats_append deep a b]
instance (c : UInt8) : Decidable (Ink c) := inferInstanceAs (Decidable (_ ∧ _))
theorem getLast_snoc (l : Str) (c : UInt8) : (l ++ [c]).getLast? = some c := by simp
theorem numc_ink {c : UInt8} (h : numc c = true) : Ink c := by
  simp only [numc, isDig, Bool.or_eq_true, Bool.and_eq_true, decide_eq_true_eq, beq_iff_eq] at h
  unfold Ink
  rcases h with ((((h | rfl) | rfl) | rfl) | rfl) | rfl
  · omega
  all_goals decide
theorem vhead_ink {c : UInt8} (h : vhead c = true) : Ink c := by
  simp only [vhead, isDig, Bool.or_eq_true, Bool.and_eq_true, decide_eq_true_eq, beq_iff_eq] at h
  unfold Ink
  rcases h with ((((((rfl | rfl) | rfl) | rfl) | h) | rfl) | rfl) | rfl
  · decide
  · decide
  · decide
  · decide
  · omega
  · decide
  · decide
  · decide
theorem Shows.last {t : Str} {it : It} (h : Shows t it) : ∀ n, it = .v n → ∃ c, t.getLast? = some c ∧ Ink c := by
  cases h with
  | nul => intro n _; exact ⟨108, rfl, by decide⟩
  | fls => intro n _; exact ⟨101, rfl, by decide⟩
  | tru => intro n _; exact ⟨101, rfl, by decide⟩
  | num h =>
    intro n _
    have hc := IsNum.chars h
    obtain ⟨c, t', rfl, _⟩ := num_head h
    refine ⟨(c :: t').getLast (by simp), List.getLast?_eq_some_getLast (by simp), numc_ink (hc _ (List.getLast_mem (by simp)))⟩
  | str h => intro n _; exact ⟨34, getLast_snoc (34 :: _) 34, by decide⟩
  | arr0 h => intro n _; exact ⟨93, getLast_snoc (91 :: _) 93, by decide⟩
  | arr h => intro n _; exact ⟨93, getLast_snoc (91 :: _) 93, by decide⟩
  | obj0 h => intro n _; exact ⟨125, getLast_snoc (123 :: _) 125, by decide⟩
  | obj h => intro n _; exact ⟨125, getLast_snoc (123 :: _) 125, by decide⟩
  | _ => intro n hn; cases hn
theorem Shows.first {t : Str} {n : Nd} (h : Shows t (.v n)) : ∃ c r, t = c :: r ∧ Ink c := by
  obtain ⟨c, r, e, hc⟩ := h.head n rfl
  exact ⟨c, r, e, vhead_ink hc⟩
theorem Shows.ends {t : Str} {it : It} (h : Shows t it) : ∀ l, it = .e l → ∃ w1 m w2, t = w1 ++ m ++ w2 ∧ Bl w1 ∧ Bl w2 ∧ Shows m (.e l) ∧ (∃ c r, m = c :: r ∧ Ink c) ∧ (∃ c, m.getLast? = some c ∧ Ink c) := by
  induction h with
  | @e1 w1 t w2 n h1 h h2 ih =>
    rintro l ⟨⟩
    have hs : Shows t (.e [n]) := by simpa using Shows.e1 Bl.nil h Bl.nil
    exact ⟨w1, t, w2, rfl, h1, h2, hs, h.first, h.last _ rfl⟩
  | @e2 w1 t w2 r n l' h1 h h2 hr ih ih2 =>
    rintro l ⟨⟩
    obtain ⟨v1, m, v2, rfl, hv1, hv2, hm, hf, hl⟩ := ih2 l' rfl
    refine ⟨w1, t ++ w2 ++ 44 :: (v1 ++ m), v2, by simp, h1, hv2, ?_, ?_, ?_⟩
    · have := Shows.e2 (w1 := []) Bl.nil h h2 (hm.lead_e hv1)
      simpa using this
    · obtain ⟨c, r, rfl, hc⟩ := h.first
      exact ⟨c, r ++ w2 ++ 44 :: (v1 ++ m), by simp, hc⟩
    · obtain ⟨c, hc, hi⟩ := hl
      refine ⟨c, ?_, hi⟩
      rw [show t ++ w2 ++ 44 :: (v1 ++ m) = (t ++ w2 ++ 44 :: v1) ++ m by simp, List.getLast?_append, hc]
      rfl
  | _ => intro l hl; cases hl
theorem Shows.join {t : Str} {it : It} (h : Shows t it) {Y : Str} {m : List Nd} (hY : Shows Y (.e m)) : ∀ l, it = .e l → Shows (t ++ 44 :: Y) (.e (l ++ m)) := by
  induction h with
  | @e1 w1 t w2 n h1 h h2 ih =>
    rintro l ⟨⟩
    exact Shows.e2 h1 h h2 hY
  | @e2 w1 t w2 r n l' h1 h h2 hr ih ih2 =>
    rintro l ⟨⟩
    have := Shows.e2 h1 h h2 (ih2 l' rfl)
    simpa using this
  | _ => intro l hl; cases hl
def Part (X : Str) (l : List Nd) : Prop := (X = [] ∧ l = []) ∨ Shows X (.e l)
theorem Shows.e_ne {X : Str} {l : List Nd} (h : Shows X (.e l)) : X ≠ [] ∧ l ≠ [] := by
  obtain ⟨w1, m, w2, rfl, _, _, hm, ⟨c, r, rfl, _⟩, _⟩ := h.ends l rfl
  refine ⟨by simp, ?_⟩
  generalize c :: r = x at hm
  cases hm <;> simp
theorem Part.nil_iff {X : Str} {l : List Nd} (h : Part X l) : X = [] → l = [] := by
  rcases h with ⟨_, h⟩ | h
  · exact fun _ => h
  · exact fun e => absurd e h.e_ne.1
theorem Part.pass {X Y : Str} {l m : List Nd} (h : Part X l) (hY : Part Y m) (h0 : Y = []) : Part X (l ++ m) := by
  rw [hY.nil_iff h0, List.append_nil]; exact h
theorem Part.first {Y : Str} {l m : List Nd} (h : Part [] l) (hY : Part Y m) : Part Y (l ++ m) := by
  rw [h.nil_iff rfl]; exact hY
theorem Part.more {X Y : Str} {l m : List Nd} (h : Part X l) (hY : Part Y m) (h1 : X ≠ []) (h2 : Y ≠ []) : Part (X ++ 44 :: Y) (l ++ m) := by
  rcases h with ⟨h, _⟩ | h
  · exact absurd h h1
  · rcases hY with ⟨h', _⟩ | h'
    · exact absurd h' h2
    · exact .inr (h.join h' l rfl)
theorem Part.close {X : Str} {l : List Nd} (h : Part X l) : Shows (91 :: X ++ [93]) (.v (.mk 5 [] [] l)) := by
  rcases h with ⟨rfl, rfl⟩ | h
  · exact .arr0 Bl.nil
  · exact .arr h
theorem Part.value {t : Str} {n : Nd} (h : Shows t (.v n)) : Part t [n] := .inr (by simpa using Shows.e1 Bl.nil h Bl.nil)
theorem Shows.inside {t txt : Str} {ks : List Str} {l : List Nd} (h : Shows t (.v (.mk 5 txt ks l))) :
    ∃ w1 m w2, t = 91 :: (w1 ++ m ++ w2) ++ [93] ∧ Bl w1 ∧ Bl w2 ∧ Part m l ∧ (m = [] → w2 = []) ∧ (∀ c, m.head? = some c → Ink c) ∧ (∀ c, m.getLast? = some c → Ink c) := by
  cases h with
  | arr0 h => exact ⟨_, [], [], by simp, h, Bl.nil, .inl ⟨rfl, rfl⟩, fun _ => rfl, by simp, by simp⟩
  | arr h =>
    obtain ⟨w1, m, w2, rfl, h1, h2, hm, ⟨c, r, e, hc⟩, ⟨d, hd, hi⟩⟩ := h.ends _ rfl
    refine ⟨w1, m, w2, rfl, h1, h2, .inr hm, fun e0 => absurd e0 hm.e_ne.1, fun x hx => ?_, fun x hx => ?_⟩
    · rw [e] at hx; simp at hx; subst hx; exact hc
    · rw [hd] at hx; simp at hx; subst hx; exact hi
theorem Shows.outside {t : Str} {n : Nd} (h : Shows t (.v n)) : (t = [] → ([] : Str) = []) ∧ (∀ c, t.head? = some c → Ink c) ∧ (∀ c, t.getLast? = some c → Ink c) := by
  obtain ⟨c, r, e, hc⟩ := h.first
  obtain ⟨d, hd, hi⟩ := h.last n rfl
  refine ⟨fun _ => rfl, fun x hx => ?_, fun x hx => ?_⟩
  · rw [e] at hx; simp at hx; subst hx; exact hc
  · rw [hd] at hx; simp at hx; subst hx; exact hi
def lens : List (Str × Nat) → Nat
  | [] => 0
  | x :: r => x.1.length + 1 + lens r
theorem lens_append (a b : List (Str × Nat)) : lens (a ++ b) = lens a + lens b := by
  induction a with
  | nil => simp [lens]
  | cons x a ih => simp [lens, ih]; omega
theorem Rest.lens {u : Str} {ts : List (Str × Nat)} (h : Rest u ts) : Js.lens ts ≤ u.length := by
  induction h with
  | done0 => exact Nat.le_refl _
  | done _ => simp [Js.lens]
  | more _ _ _ _ ih => simp [Js.lens]; omega
theorem lens_take {ts : List (Str × Nat)} {j : Nat} {t : Str} {k : Nat} (h : ts[j]? = some (t, k)) : lens (ts.take (j + 1)) = lens (ts.take j) + t.length + 1 := by
  rw [List.take_add_one, h, lens_append]
  simp [lens]
  omega
theorem lens_le (ts : List (Str × Nat)) (j : Nat) : lens (ts.take j) ≤ lens ts := by
  have := lens_append (ts.take j) (ts.drop j)
  rw [List.take_append_drop] at this
  omega
end Js
namespace Go.Sx
open Go.RowKit Go.Proofs Js Go.Proofs.YtelonenjneonlaaGreatDoorW.PrintWords
def FLAT (deep : Bool) (ns : List Nd) : Prop := ∀ {B : Nat} {wc w0 : World} {L M : List Bk} {sk : Value} {xs : List Value}, SlOf L 40 4 sk ns.length xs → RepNds L ns xs → L ⊆ M → (flats deep ns).length ≤ 2 ^ 39 → Mem B wc M w0 →
  Calls Tryz.prog 24 #[sk, .bool deep] w0 (Ret fun v w' => ∃ R ys, SlOf R 40 4 v (flats deep ns).length ys ∧ RepNds L (flats deep ns) ys ∧ Mem B wc (R ++ M) w')
theorem flats_step {deep : Bool} {l : List Nd} {j : Nat} {n : Nd} (h : l[j]? = some n) : flats deep (l.take (j + 1)) = flats deep (l.take j) ++ flat1 deep n ∧ (flats deep (l.take j)).length + (flat1 deep n).length ≤ (flats deep l).length := by
  have e1 : flats deep (l.take (j + 1)) = flats deep (l.take j) ++ flat1 deep n := by
    rw [List.take_add_one, h, flats_append]
    simp [flats]
  refine ⟨e1, ?_⟩
  have e2 : flats deep l = flats deep (l.take (j + 1)) ++ flats deep (l.drop (j + 1)) := by rw [← flats_append, List.take_append_drop]
  rw [e2, e1]
  simp
theorem of_bne5 {k : Nat} (h : ((k : Int) != 5) = false) : k = 5 := by
  have : (k : Int) = 5 := by simpa using h
  omega
set_option maxRecDepth 100000 in
theorem flat_step (deep : Bool) (ns : List Nd) (hrec : ∀ q ∈ ns, ∀ k t ks kids, q = .mk k t ks kids → FLAT true kids) : FLAT deep ns := by
 intro B wc w0 L M sk xs hsk hkr hLM hsz hM0
 have hM := hM0
 obtain ⟨o0, c0, rfl⟩ := hsk.shape
 have hnz := hsk.small
 refine enter (l := [.slice o0 ns.length c0, .bool deep]) 33 Tryz.func24 rfl rfl (fun a hF => ?_)
 replace hF : Fr 35 [(0, .slice o0 ns.length c0), (1, .bool deep)] a := hF
 revert a; refine Sq (Rg (Md 1 [0,1] rfl (Nx (Sq (Rg (Md 1 [0,1,5] rfl (Nx (Sq (Sq (Rg (Md 3 [1,5,8,9,10] rfl (Nx (Bo (Kp [1,5,8,9,10] rfl ?_)))))))))))))); intro a hF
 refine loopX (fun (j : Nat) a w => ∃ R v ys, Fr 35 [(1, .bool deep), (5, v), (8, .slice o0 ns.length c0), (9, .int .i64 (ns.length : Int)), (10, .int .i64 (j : Int))] a ∧ Mem B wc (R ++ M) w ∧ Row 40 4 R v (flats deep (ns.take j)).length ys ∧ RepNds L (flats deep (ns.take j)) ys ∧ j ≤ ns.length) (fun j => ns.length - j) (0) ?_ (fun j a w hI => ?_)
 · exact ⟨[], _, [], hF, hM, .nil _ _, rfl, Nat.zero_le _⟩
 clear hF hM
 obtain ⟨R, v, ys, hF, hM, hRow, hrep, hjl⟩ := hI
 revert a; refine Sq (Rg (Md 1 [1,5,8,9,10,11] rfl (Nx (Sq (Ce rfl (fun ht => ?_) ((fun ht => ?_)))))))
 ·
  have hjn : j = ns.length := by have := of_decide_eq_false ht; omega
  intro a hF
  rw [hjn, List.take_length] at hrep hRow
  revert a; exact Ex (Ot (Ot (Ob (Nx (Sq (Rg (Md 2 [4] rfl (Nx (Re (Y1 rfl rfl ⟨_, rfl, R, ys, hRow.sl, hrep, hM⟩))))))))))
 have hj : j < ns.length := by have := of_decide_eq_true ht; omega
 obtain ⟨q, hq⟩ : ∃ q, ns[j]? = some q := ⟨_, List.getElem?_eq_getElem hj⟩
 have hqm := List.mem_of_getElem? hq
 obtain ⟨c, hqc, hcx⟩ := hkr.at_ hq
 obtain ⟨g, cap, hv, hcell⟩ := hsk.row (by omega)
 have ho : o0 = some ⟨g, 0, none⟩ := by cases hv; rfl
 subst ho
 obtain ⟨k, txt, ks, kids⟩ := q
 have hrq : FLAT true kids := hrec _ hqm k txt ks kids rfl
 have hqc0 := hqc
 simp only [RepNd] at hqc
 obtain ⟨sn1, sk1, zs, rfl, hsn1, hsk1, hkr1⟩ := hqc
 obtain ⟨o1, c1, rfl⟩ := hsn1.shape
 obtain ⟨o2, c2, rfl⟩ := hsk1.shape
 obtain ⟨e1, hbd⟩ := flats_step (deep := deep) hq
 have hrange : ∀ {w : World}, Mem B wc (R ++ M) w → w.rangeAt g (0 + j * 4) [.int .i64 (k : Int), .string (mkS txt), .slice o1 ks.length c1, .slice o2 kids.length c2] := fun hM i u hi => by rw [Nat.zero_add]; exact hcell hM (by intro z hz; simp [hLM hz]) _ u (hcx i u hi)
 refine Sk (Nx (Sq (Bo (Sq (Rg (Gv rfl (fun _ hF => gives_indexAddrS (sz := 4) (j) hF rfl Tryz.underlying38 (by kernel_rfl) rfl rfl rfl hj _) (Gv rfl (fun _ hF => gives_loadMid hF rfl rfl Tryz.underlying40 rfl (by kernel_rfl) (hrange hM)) ?_))))))); intro a hF
 refine op_alloc hF hM rfl (vs := [.int .i64 0, .string (mkS []), .slice none 0 0, .slice none 0 0]) rfl rfl rfl (by kernel_rfl) ?_; clear hF hM a; intro a w b7 hF hM
 refine op_storeA hF hM rfl 0 rfl rfl (by kernel_rfl) rfl rfl rfl rfl (rfl) ?_; clear hF hM a; intro a w  hF hM
 revert a; refine Md 0 [1,5,7,8,9,10] rfl (Nx (Bo (Sq (Rg (Mv 1 rfl (Ld hM 0 rfl rfl (Md 2 [1,5,7,8,9,10,18] rfl (Nx (Cd rfl (fun ht => ?_) ((fun ht => ?_)))))))))))
 ·
  have hk5 : k ≠ 5 := by rintro rfl; exact absurd ht (by decide)
  have e2 : flat1 deep (.mk k txt ks kids) = [.mk k txt ks kids] := by simp only [flat1]; rw [if_neg hk5]
  rw [e2, List.length_singleton] at hbd
  have hrn := RepNds.one hqc0
  refine Rg (Mv 1 rfl ?_); intro a hF
  refine op_loadA hF hM rfl 0 rfl rfl rfl Tryz.underlying40 rfl (by kernel_rfl) rfl rfl ?_; clear hF a; intro a hF
  refine op_buildS hF hM elt38 rfl rfl rfl rfl rfl (cs := [.int .i64 (k : Int), .string (mkS txt), .slice o1 ks.length c1, .slice o2 kids.length c2]) rfl rfl (by decide) ?_; clear hF hM a; intro a w b24 hF hM
  replace hM := hM.perm (L' := R ++ ((b24, 40, [.int .i64 (k : Int), .string (mkS txt), .slice o1 ks.length c1, .slice o2 kids.length c2]) :: (b7, 40, [.int .i64 (k : Int), .string (mkS txt), .slice o1 ks.length c1, .slice o2 kids.length c2]) :: M)) (pc fun x => by simp [ct, ct_append] <;> omega)
  refine op_appendR hF elt38 hRow hM (sl_one (b := b24) (e := 40) (m := 4) (cs := [.int .i64 (k : Int), .string (mkS txt), .slice o1 ks.length c1, .slice o2 kids.length c2]) rfl) (by simp) (List.all_eq_true.1 hqc0.len.2) (by omega) rfl rfl rfl rfl rfl rfl ?_; clear hF hM a; intro a w R' v' hF hRow' hM
  replace hM := hM.sub (L' := (b7, 40, [.int .i64 (k : Int), .string (mkS txt), .slice o1 ks.length c1, .slice o2 kids.length c2]) :: (R' ++ M)) [(b24, 40, [.int .i64 (k : Int), .string (mkS txt), .slice o1 ks.length c1, .slice o2 kids.length c2])] (pc fun x => by simp [ct, ct_append] <;> omega)
  revert a; refine Md 1 [1,5,8,9,10] rfl (Nb (Nb (Nx (Rg (Sm (((j + 1 : Nat) : Int)) rfl (by omega) (Md 1 [1,5,8,9,10] rfl ?_)))))); intro a hF
  exact ⟨j + 1, ⟨R', v', _, hF, hM.sub [(b7, 40, [.int .i64 (k : Int), .string (mkS txt), .slice o1 ks.length c1, .slice o2 kids.length c2])] (pc fun x => by simp [ct, ct_append] <;> omega), by rw [e1, e2, List.length_append]; exact hRow', by rw [e1, e2]; exact hrep.append hrn, hj⟩, by omega⟩
 have hk5 : k = 5 := of_bne5 ht
 refine Sq (Rg (Md 2 [1,5,7,8,9,10,26] rfl (Nx (Ce rfl (fun ht => ?_) ((fun ht => ?_))))))
 ·
  have e2 : flat1 deep (.mk k txt ks kids) = kids := by simp only [flat1]; rw [if_pos hk5, if_neg (by rw [ht]; decide)]
  rw [e2] at hbd
  have hrn := hkr1
  refine Rg (Mv 2 rfl (Ld hM 0 rfl rfl ?_))
  replace hM := hM.perm (L' := R ++ ((b7, 40, [.int .i64 (k : Int), .string (mkS txt), .slice o1 ks.length c1, .slice o2 kids.length c2]) :: M)) (pc fun x => by simp [ct, ct_append] <;> omega)
  intro a hF
  refine op_appendR hF elt38 hRow hM hsk1 (by intro z hz; simp [hLM hz]) (List.all_eq_true.1 hkr1.len.2) (by omega) rfl rfl rfl rfl rfl rfl ?_; clear hF hM a; intro a w R' v' hF hRow' hM
  replace hM := hM.perm (L' := (b7, 40, [.int .i64 (k : Int), .string (mkS txt), .slice o1 ks.length c1, .slice o2 kids.length c2]) :: (R' ++ M)) (pc fun x => by simp [ct, ct_append] <;> omega)
  revert a; refine Md 1 [1,5,8,9,10] rfl (Nb (Nb (Nx (Rg (Sm (((j + 1 : Nat) : Int)) rfl (by omega) (Md 1 [1,5,8,9,10] rfl ?_)))))); intro a hF
  exact ⟨j + 1, ⟨R', v', _, hF, hM.sub [(b7, 40, [.int .i64 (k : Int), .string (mkS txt), .slice o1 ks.length c1, .slice o2 kids.length c2])] (pc fun x => by simp [ct, ct_append] <;> omega), by rw [e1, e2, List.length_append]; exact hRow', by rw [e1, e2]; exact hrep.append hrn, hj⟩, by omega⟩
 have e2 : flat1 deep (.mk k txt ks kids) = flats true kids := by simp only [flat1]; rw [if_pos hk5, if_pos ht, ht]
 rw [e2] at hbd
 refine Rg (Mv 2 rfl (Ld hM 0 rfl rfl (Cl rfl Tryz.func24 (by kernel_rfl) rfl (hrq hsk1 hkr1 (M := (b7, 40, [.int .i64 (k : Int), .string (mkS txt), .slice o1 ks.length c1, .slice o2 kids.length c2]) :: (R ++ M)) (by intro z hz; simp [hLM hz]) (by omega) hM) ?_)))
 clear hM; intro w v2 hR
 obtain ⟨R2, zs2, hsl2, hrn, hM⟩ := hR
 replace hM := hM.perm (L' := R ++ (R2 ++ ((b7, 40, [.int .i64 (k : Int), .string (mkS txt), .slice o1 ks.length c1, .slice o2 kids.length c2]) :: M))) (pc fun x => by simp [ct, ct_append] <;> omega)
 intro a hF
 refine op_appendR hF elt38 hRow hM hsl2 (by simp) (List.all_eq_true.1 hrn.len.2) (by omega) rfl rfl rfl rfl rfl rfl ?_; clear hF hM a; intro a w R' v' hF hRow' hM
 replace hM := hM.sub (L' := (b7, 40, [.int .i64 (k : Int), .string (mkS txt), .slice o1 ks.length c1, .slice o2 kids.length c2]) :: (R' ++ M)) R2 (pc fun x => by simp [ct, ct_append] <;> omega)
 revert a; refine Md 1 [1,5,8,9,10] rfl (Nb (Nb (Nx (Rg (Sm (((j + 1 : Nat) : Int)) rfl (by omega) (Md 1 [1,5,8,9,10] rfl ?_)))))); intro a hF
 exact ⟨j + 1, ⟨R', v', _, hF, hM.sub [(b7, 40, [.int .i64 (k : Int), .string (mkS txt), .slice o1 ks.length c1, .slice o2 kids.length c2])] (pc fun x => by simp [ct, ct_append] <;> omega), by rw [e1, e2, List.length_append]; exact hRow', by rw [e1, e2]; exact hrep.append hrn, hj⟩, by omega⟩
theorem flat_walk (deep : Bool) (ns : List Nd) : FLAT deep ns :=
  flat_step deep ns (fun q hq k t ks kids e => flat_walk true kids)
  termination_by SizeOf.sizeOf ns
  decreasing_by
    have := List.sizeOf_lt_of_mem hq
    subst e
    simp only [Nd.mk.sizeOf_spec] at this
    omega
end Go.Sx
namespace Go.Sx
open Go.RowKit Go.Proofs Js Go.Proofs.YtelonenjneonlaaGreatDoorW.PrintWords
theorem exists_walk (k : Int) (raw str : Str) (f : Nat) (ix : Int) (w0 : World) (hk : k ≠ 0) :
    Calls Tryz.prog 92 #[resV k raw str f ix] w0 (Ret fun v w' => v = .bool true ∧ Below w0.heap.size w0 w') := by
 have hM : Mem w0.heap.size w0 [] w0 := Mem.start (Nat.le_refl _)
 refine enter (l := [resV k raw str f ix]) 11 Tryz.func92 rfl rfl (fun a hF => ?_)
 replace hF : Fr 12 [(0, resV k raw str f ix)] a := hF
 refine seq (region ?_)
 refine op_box hF hM rfl rfl rfl rfl rfl rfl ?_; clear hF hM a; intro a w b1 hF hM
 revert a; refine Md 1 [1] rfl (Nx (Sq ?_))
 have hne : (k != 0) = true := by simpa using hk
 refine Rg (Mv 1 rfl (Ld hM 0 rfl rfl (Mv 1 rfl ?_))); intro a hF
 rw [hne] at hF
 revert a; refine Md 7 [2] rfl (Nx (Re ?_)); intro a hF
 exact retOne hF hM rfl (.tmp rfl .nil) ⟨_, rfl, rfl, hM.below⟩
end Go.Sx
namespace Go.Sx
open Go.RowKit Go.Proofs Js Go.Proofs.YtelonenjneonlaaGreatDoorW.PrintWords
theorem parse_walk91 (T : Str) (w0 : World) (hT : T.length ≤ 2 ^ 40) :
    Calls Tryz.prog 91 #[.string (mkS (91 :: T))] w0 (Ret fun v w' => v = resV 5 (91 :: T) [] 0 0 ∧ Below w0.heap.size w0 w') := by
 have hM : Mem w0.heap.size w0 [] w0 := Mem.start (Nat.le_refl _)
 have hl : (91 :: T).length = T.length + 1 := rfl
 refine enter (l := [.string (mkS (91 :: T))]) 122 Tryz.func91 rfl rfl (fun a hF => ?_)
 replace hF : Fr 123 [(0, .string (mkS (91 :: T)))] a := hF
 refine seq (region ?_)
 refine op_alloc hF hM rfl (vs := [.int .i64 0, .string (mkS []), .string (mkS []), .float .f64 0, .int .i64 0, .slice none 0 0]) rfl rfl rfl (by kernel_rfl) ?_; clear hF hM a; intro a w b2 hF hM
 revert a; refine Md 0 [0,2] rfl (Nx (Sq (Rg ?_))); intro a hF
 refine op_alloc hF hM rfl (vs := [.int .i64 0, .string (mkS []), .string (mkS []), .float .f64 0, .int .i64 0, .slice none 0 0]) rfl rfl rfl (by kernel_rfl) ?_; clear hF hM a; intro a w b3 hF hM
 revert a; refine Md 0 [0,2,3] rfl (Nx (Sq (Rg (Md 1 [0,2,3,4] rfl (Nx (Sq (Bo (Kp [0,2,3,4] rfl ?_)))))))); intro a hF
 refine loopX (fun (x : Unit) a w => Fr 123 [(0, .string (mkS (91 :: T))), (2, .pointer (some ⟨b2, 0, none⟩)), (3, .pointer (some ⟨b3, 0, none⟩)), (4, .int .i64 0)] a ∧ Mem w0.heap.size w0 [(b3, 135, [.int .i64 0, .string (mkS []), .string (mkS []), .float .f64 0, .int .i64 0, .slice none 0 0]), (b2, 135, [.int .i64 0, .string (mkS []), .string (mkS []), .float .f64 0, .int .i64 0, .slice none 0 0])] w) (fun _ => 0) (()) ?_ (fun x a w hI => ?_)
 · exact ⟨hF, hM⟩
 clear hF hM
 obtain ⟨hF, hM⟩ := hI
 revert a; refine Sq (Sq (Rg (Md 4 [0,2,3,4,8] rfl (Nx (D2 rfl (fun ht => absurd (of_decide_eq_false ht) (by omega)) (Sk (Nx (Sq (Bo (Sq (Sq ?_)))))))))))
 skip
 refine Rg (Mv 2 rfl ?_); intro a hF
 refine op_index_str hF rfl (0) 91 rfl rfl rfl Tryz.underlying9 rfl rfl (by first | rfl | omega) rfl ?_; clear hF a; intro a hF
 revert a; refine Bv rfl rfl (show (((91 : UInt8).toNat : Int) == 123) = false from rfl) (Mv 3 rfl ?_); intro a hF
 refine guard_yes hF rfl rfl rfl rfl rfl rfl ?_
 refine op_index_str hF rfl (0) 91 rfl rfl rfl Tryz.underlying9 rfl rfl (by first | rfl | omega) rfl ?_; clear hF a; intro a hF
 revert a; refine Bv rfl rfl (show (((91 : UInt8).toNat : Int) == 91) = true from rfl) (Md 1 [0,2,3,4,20] rfl (Nx (Ct rfl (Sq (Rg (Mv 1 rfl (St hM 0 rfl ?_)))))))
 clear hM; intro w hM
 refine Md 0 [0,2,3,4] rfl (Nx (Sq (Rg (Mv 2 rfl ?_)))); intro a hF
 refine op_sliceFrom_str hF rfl 0 rfl rfl rfl Tryz.underlying9 rfl rfl rfl (Nat.zero_le _) ?_; clear hF a; intro a hF
 rw [List.drop_zero] at hF
 revert a; refine Mv 1 rfl (St hM 0 rfl ?_)
 clear hM; intro w hM
 refine Md 0 [2,3,4] rfl (Nx (Ex (Ot (Op' rfl (Ot (Ot (Ob (Nx (Sq (Sq (Rg ?_))))))))))); intro a hF
 refine op_loadA hF hM rfl 0 rfl rfl rfl Tryz.underlying135 rfl (by kernel_rfl) rfl rfl ?_; clear hF a; intro a hF
 revert a; refine Cm hM rfl Tryz.func92 (by kernel_rfl) rfl (exists_walk 5 (91 :: T) [] 0 0 w (by decide)) ?_
 clear hM; intro w v hR hM hBe
 obtain rfl := hR
 refine Md 0 [2,3,4,119] rfl (Nx (Ct rfl (Rg (Mv 2 rfl (St hM 0 rfl ?_)))))
 clear hM; intro w hM
 refine Md 0 [2,3] rfl (Nx (Sq (Rg ?_))); intro a hF
 refine op_loadA hF hM rfl 0 rfl rfl rfl Tryz.underlying135 rfl (by kernel_rfl) rfl rfl ?_; clear hF a; intro a hF
 refine op_storeA hF hM rfl 1 rfl rfl (by kernel_rfl) rfl rfl rfl rfl (rfl) ?_; clear hF hM a; intro a w  hF hM
 revert a; refine Md 0 [2] rfl (Nx (Re ?_)); intro a hF
 exact retOne hF hM rfl (.cell 1 rfl rfl Tryz.underlying135 rfl (by kernel_rfl) .nil) ⟨_, rfl, rfl, hM.below⟩
theorem parse_walk123 (T : Str) (w0 : World) (hT : T.length ≤ 2 ^ 40) :
    Calls Tryz.prog 91 #[.string (mkS (123 :: T))] w0 (Ret fun v w' => v = resV 5 (123 :: T) [] 0 0 ∧ Below w0.heap.size w0 w') := by
 have hM : Mem w0.heap.size w0 [] w0 := Mem.start (Nat.le_refl _)
 have hl : (123 :: T).length = T.length + 1 := rfl
 refine enter (l := [.string (mkS (123 :: T))]) 122 Tryz.func91 rfl rfl (fun a hF => ?_)
 replace hF : Fr 123 [(0, .string (mkS (123 :: T)))] a := hF
 refine seq (region ?_)
 refine op_alloc hF hM rfl (vs := [.int .i64 0, .string (mkS []), .string (mkS []), .float .f64 0, .int .i64 0, .slice none 0 0]) rfl rfl rfl (by kernel_rfl) ?_; clear hF hM a; intro a w b2 hF hM
 revert a; refine Md 0 [0,2] rfl (Nx (Sq (Rg ?_))); intro a hF
 refine op_alloc hF hM rfl (vs := [.int .i64 0, .string (mkS []), .string (mkS []), .float .f64 0, .int .i64 0, .slice none 0 0]) rfl rfl rfl (by kernel_rfl) ?_; clear hF hM a; intro a w b3 hF hM
 revert a; refine Md 0 [0,2,3] rfl (Nx (Sq (Rg (Md 1 [0,2,3,4] rfl (Nx (Sq (Bo (Kp [0,2,3,4] rfl ?_)))))))); intro a hF
 refine loopX (fun (x : Unit) a w => Fr 123 [(0, .string (mkS (123 :: T))), (2, .pointer (some ⟨b2, 0, none⟩)), (3, .pointer (some ⟨b3, 0, none⟩)), (4, .int .i64 0)] a ∧ Mem w0.heap.size w0 [(b3, 135, [.int .i64 0, .string (mkS []), .string (mkS []), .float .f64 0, .int .i64 0, .slice none 0 0]), (b2, 135, [.int .i64 0, .string (mkS []), .string (mkS []), .float .f64 0, .int .i64 0, .slice none 0 0])] w) (fun _ => 0) (()) ?_ (fun x a w hI => ?_)
 · exact ⟨hF, hM⟩
 clear hF hM
 obtain ⟨hF, hM⟩ := hI
 revert a; refine Sq (Sq (Rg (Md 4 [0,2,3,4,8] rfl (Nx (D2 rfl (fun ht => absurd (of_decide_eq_false ht) (by omega)) (Sk (Nx (Sq (Bo (Sq (Sq ?_)))))))))))
 skip
 refine Rg (Mv 2 rfl ?_); intro a hF
 refine op_index_str hF rfl (0) 123 rfl rfl rfl Tryz.underlying9 rfl rfl (by first | rfl | omega) rfl ?_; clear hF a; intro a hF
 revert a; refine Bv rfl rfl (show (((123 : UInt8).toNat : Int) == 123) = true from rfl) (Md 6 [0,2,3,4,20] rfl (Nx (Ct rfl (Sq (Rg (Mv 1 rfl (St hM 0 rfl ?_)))))))
 clear hM; intro w hM
 refine Md 0 [0,2,3,4] rfl (Nx (Sq (Rg (Mv 2 rfl ?_)))); intro a hF
 refine op_sliceFrom_str hF rfl 0 rfl rfl rfl Tryz.underlying9 rfl rfl rfl (Nat.zero_le _) ?_; clear hF a; intro a hF
 rw [List.drop_zero] at hF
 revert a; refine Mv 1 rfl (St hM 0 rfl ?_)
 clear hM; intro w hM
 refine Md 0 [2,3,4] rfl (Nx (Ex (Ot (Op' rfl (Ot (Ot (Ob (Nx (Sq (Sq (Rg ?_))))))))))); intro a hF
 refine op_loadA hF hM rfl 0 rfl rfl rfl Tryz.underlying135 rfl (by kernel_rfl) rfl rfl ?_; clear hF a; intro a hF
 revert a; refine Cm hM rfl Tryz.func92 (by kernel_rfl) rfl (exists_walk 5 (123 :: T) [] 0 0 w (by decide)) ?_
 clear hM; intro w v hR hM hBe
 obtain rfl := hR
 refine Md 0 [2,3,4,119] rfl (Nx (Ct rfl (Rg (Mv 2 rfl (St hM 0 rfl ?_)))))
 clear hM; intro w hM
 refine Md 0 [2,3] rfl (Nx (Sq (Rg ?_))); intro a hF
 refine op_loadA hF hM rfl 0 rfl rfl rfl Tryz.underlying135 rfl (by kernel_rfl) rfl rfl ?_; clear hF a; intro a hF
 refine op_storeA hF hM rfl 1 rfl rfl (by kernel_rfl) rfl rfl rfl rfl (rfl) ?_; clear hF hM a; intro a w  hF hM
 revert a; refine Md 0 [2] rfl (Nx (Re ?_)); intro a hF
 exact retOne hF hM rfl (.cell 1 rfl rfl Tryz.underlying135 rfl (by kernel_rfl) .nil) ⟨_, rfl, rfl, hM.below⟩
end Go.Sx
