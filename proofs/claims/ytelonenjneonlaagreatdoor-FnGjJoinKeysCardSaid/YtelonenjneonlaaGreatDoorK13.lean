/- Part 13 of the proof of FnGjJoinKeys: the statement Rows.FnGjJoinKeysCardSaid; no further condition. -/
import Derived.Test.YtelonenjneonlaaGreatDoorK12
set_option linter.all false
namespace Go.Sx
open Go.RowKit Go.Proofs Js Go.Proofs.YtelonenjneonlaaGreatDoorW.PrintWords
def GbOut (s : Str) (w0 : World) (v : Value) (w' : World) : Prop :=
  (∃ ns TB p c e, v = .tuple #[.agg ns.toArray, .bool true] ∧ s.length ≤ 65536 ∧ paired s = true ∧ pText s = some p ∧ uniqN (tree s p) = true ∧ s[0]? = some c ∧ isBlank c = false ∧ s[s.length - 1]? = some e ∧ isBlank e = false ∧ RepNd TB (tree s p) ns ∧ Mem w0.heap.size w0 TB w') ∨
  (∃ (x : Int) (t : Str) (o1 : Option Addr) (l1 c1 : Nat) (o2 : Option Addr) (l2 c2 : Nat), v = .tuple #[.agg [.int .i64 x, .string (mkS t), .slice o1 l1 c1, .slice o2 l2 c2].toArray, .bool false] ∧ Below w0.heap.size w0 w')
set_option maxRecDepth 100000 in
theorem gjBare_walk {s : Str} (hT : s.length ≤ 2 ^ 40) (w0 : World) : Calls Tryz.prog 18 #[.string (mkS s)] w0 (Ret fun v w' => GbOut s w0 v w') := by
 have hM : Mem w0.heap.size w0 [] w0 := Mem.start (Nat.le_refl _)
 refine enter (l := [.string (mkS s)]) 31 Tryz.func18 rfl rfl (fun a hF => ?_)
 replace hF : Fr 32 [(0, .string (mkS s))] a := hF
 refine seq (region ?_)
 refine op_alloc hF hM rfl (vs := [.int .i64 0, .string (mkS []), .slice none 0 0, .slice none 0 0]) rfl rfl rfl (by kernel_rfl) ?_; clear hF hM a; intro a w b2 hF hM
 revert a; refine Md 1 [0,2] rfl (Nx (Sq (Rg (Mv 1 rfl (Cl rfl Tryz.func39 (by kernel_rfl) rfl (gjText_walk hT w) ?_)))))
 intro w2 v hR
 rcases hR with ⟨ns, TB, p, rfl, hl, hpd, hp, hrn, hM2⟩ | ⟨rfl, hBe⟩
 ·
  replace hM := (hM.join hM2).perm (L' := (b2, 40, [.int .i64 0, .string (mkS []), .slice none 0 0, .slice none 0 0]) :: TB) (pc fun x => by simp [ct, ct_append] <;> omega)
  clear hM2
  have hcl2 := hrn.len
  obtain ⟨j1, jt, p1, m1, e1, p2, m2, e2, rfl⟩ := hrn.shape
  have hs0 : 0 < s.length := by cases s with | nil => (rw [show pText [] = none from rfl] at hp; cases hp) | cons c r => simp
  obtain ⟨c, hc0⟩ : ∃ c, s[0]? = some c := ⟨_, List.getElem?_eq_getElem hs0⟩
  obtain ⟨e, he0⟩ : ∃ e, s[s.length - 1]? = some e := ⟨_, List.getElem?_eq_getElem (by omega)⟩
  refine Mv 3 rfl ?_; intro a hF
  refine op_alloc hF hM rfl (vs := [.int .i64 0, .string (mkS []), .slice none 0 0, .slice none 0 0]) rfl rfl rfl (by kernel_rfl) ?_; clear hF hM a; intro a w b4 hF hM
  refine op_storeA hF hM rfl 0 rfl rfl (by kernel_rfl) rfl rfl rfl rfl (rfl) ?_; clear hF hM a; intro a w  hF hM
  revert a; refine Md 1 [0,2,4,5] rfl (Nx (Sq ?_))
  rcases hun : uniqN (tree s p) with _ | _
  ·
   intro a hF
   refine mix (fun w => Mem w0.heap.size w0 ((b4, 40, [.int .i64 j1, .string (mkS jt), .slice p1 m1 e1, .slice p2 m2 e2]) :: (b2, 40, [.int .i64 0, .string (mkS []), .slice none 0 0, .slice none 0 0]) :: TB) w) 21 (by kernel_rfl) ?_
   replace hM := hM.drew
   generalize World.drew w = w at *
   refine mtakeL 0 hF hM rfl (by kernel_rfl) (by kernel_rfl) (by kernel_rfl) (by kernel_rfl) (by kernel_rfl) (fun _ _ _ h => h) rfl rfl (y_plain rfl (fun w hM => gives_loadA hF hM 0 rfl Tryz.underlying40 rfl (by kernel_rfl) rfl rfl)) ?_; clear hF a; intro a hF
   refine mtakeP 1 hF (.inl hM) rfl (by kernel_rfl) (by kernel_rfl) (by kernel_rfl) rfl (fun _ _ _ h => h) rfl rfl (y_plain rfl (fun w _ => gives_move hF rfl rfl _)) ?_; clear hF a; intro a hF
   refine mtakeP 2 hF (.inl hM) rfl (by kernel_rfl) (by kernel_rfl) (by kernel_rfl) rfl (fun _ _ _ h => h) rfl rfl (y_plain rfl (fun w _ => gives_move hF rfl rfl _)) ?_; clear hF a; intro a hF
   refine mtakeL 3 hF hM rfl (by kernel_rfl) (by kernel_rfl) (by kernel_rfl) (by kernel_rfl) (by kernel_rfl) (fun _ _ _ h => h) rfl rfl (y_yes hF rfl rfl rfl rfl rfl rfl (fun w hM => gives_loadA hF hM 0 rfl Tryz.underlying40 rfl (by kernel_rfl) rfl rfl)) ?_; clear hF a; intro a hF
   refine malone 4 rfl (by kernel_rfl) ?_
   revert a; refine Cl rfl Tryz.func40 (by kernel_rfl) rfl (uniq_walk _ (RepNd.mono (by intro z hz; simp [hz]) _ _ hrn) hM) ?_
   clear hM; intro w v hR
   obtain ⟨rfl, hM⟩ := hR
   intro a hF
   rw [hun] at hF
   refine mstep (.inl (hM)) ?_
   refine mtakeP 5 hF (.inl hM) rfl (by kernel_rfl) (by kernel_rfl) (by kernel_rfl) rfl (fun _ _ _ h => h) rfl rfl (y_plain rfl (fun w _ => gives_pick hF rfl rfl rfl _)) ?_; clear hF a; intro a hF
   refine mtakeP 6 hF (.inl hM) rfl (by kernel_rfl) (by kernel_rfl) (by kernel_rfl) rfl (fun _ _ _ h => h) rfl rfl (y_plain rfl (fun w _ => gives_move hF rfl rfl _)) ?_; clear hF a; intro a hF
   refine mtakeP 7 hF (.inl hM) rfl (by kernel_rfl) (by kernel_rfl) (by kernel_rfl) rfl (fun _ _ _ h => h) rfl rfl (y_no hF rfl rfl rfl rfl rfl rfl) ?_; clear hF a; intro a hF
   refine mtakeP 8 hF (.inl hM) rfl (by kernel_rfl) (by kernel_rfl) (by kernel_rfl) rfl (fun _ _ _ h => h) rfl rfl (y_no hF rfl rfl rfl rfl rfl rfl) ?_; clear hF a; intro a hF
   refine mtakeP 9 hF (.inl hM) rfl (by kernel_rfl) (by kernel_rfl) (by kernel_rfl) rfl (fun _ _ _ h => h) rfl rfl (y_no hF rfl rfl rfl rfl rfl rfl) ?_; clear hF a; intro a hF
   refine mtakeP 10 hF (.inl hM) rfl (by kernel_rfl) (by kernel_rfl) (by kernel_rfl) rfl (fun _ _ _ h => h) rfl rfl (y_no hF rfl rfl rfl rfl rfl rfl) ?_; clear hF a; intro a hF
   refine mtakeP 11 hF (.inl hM) rfl (by kernel_rfl) (by kernel_rfl) (by kernel_rfl) rfl (fun _ _ _ h => h) rfl rfl (y_plain rfl (fun w _ => gives_pick hF rfl rfl rfl _)) ?_; clear hF a; intro a hF
   refine mtakeP 12 hF (.inl hM) rfl (by kernel_rfl) (by kernel_rfl) (by kernel_rfl) rfl (fun _ _ _ h => h) rfl rfl (y_plain rfl (fun w _ => gives_move hF rfl rfl _)) ?_; clear hF a; intro a hF
   refine mtakeP 13 hF (.inl hM) rfl (by kernel_rfl) (by kernel_rfl) (by kernel_rfl) rfl (fun _ _ _ h => h) rfl rfl (y_no hF rfl rfl rfl rfl rfl rfl) ?_; clear hF a; intro a hF
   refine mtakeP 14 hF (.inl hM) rfl (by kernel_rfl) (by kernel_rfl) (by kernel_rfl) rfl (fun _ _ _ h => h) rfl rfl (y_no hF rfl rfl rfl rfl rfl rfl) ?_; clear hF a; intro a hF
   refine mtakeP 15 hF (.inl hM) rfl (by kernel_rfl) (by kernel_rfl) (by kernel_rfl) rfl (fun _ _ _ h => h) rfl rfl (y_no hF rfl rfl rfl rfl rfl rfl) ?_; clear hF a; intro a hF
   refine mtakeP 16 hF (.inl hM) rfl (by kernel_rfl) (by kernel_rfl) (by kernel_rfl) rfl (fun _ _ _ h => h) rfl rfl (y_no hF rfl rfl rfl rfl rfl rfl) ?_; clear hF a; intro a hF
   refine mtakeP 17 hF (.inl hM) rfl (by kernel_rfl) (by kernel_rfl) (by kernel_rfl) rfl (fun _ _ _ h => h) rfl rfl (y_no hF rfl rfl rfl rfl rfl rfl) ?_; clear hF a; intro a hF
   refine mtakeP 18 hF (.inl hM) rfl (by kernel_rfl) (by kernel_rfl) (by kernel_rfl) rfl (fun _ _ _ h => h) rfl rfl (y_no hF rfl rfl rfl rfl rfl rfl) ?_; clear hF a; intro a hF
   refine mtakeP 19 hF (.inl hM) rfl (by kernel_rfl) (by kernel_rfl) (by kernel_rfl) rfl (fun _ _ _ h => h) rfl rfl (y_no hF rfl rfl rfl rfl rfl rfl) ?_; clear hF a; intro a hF
   refine mtakeP 20 hF (.inl hM) rfl (by kernel_rfl) (by kernel_rfl) (by kernel_rfl) rfl (fun _ _ _ h => h) rfl rfl (y_plain rfl (fun w _ => gives_pick hF rfl rfl rfl _)) ?_; clear hF a; intro a hF
   refine malone 21 rfl (by kernel_rfl) ?_
   refine op_storeA hF hM rfl 1 rfl rfl (by kernel_rfl) rfl rfl rfl rfl (rfl) ?_; clear hF hM a; intro a w  hF hM
   refine mstep (.inr (by kernel_rfl)) ?_
   refine mtail 22 (by kernel_rfl) (by kernel_rfl) ?_
   simp only [List.drop_succ_cons, List.drop_zero]
   revert a; refine Md 1 [2,3] rfl (Nx (Re ?_)); intro a hF
   refine retMany (vs := [_, _]) hF hM rfl rfl (.cell 1 rfl rfl Tryz.underlying40 rfl (by kernel_rfl) (.tmp rfl .nil)) ⟨_, rfl, .inr ⟨_, _, _, _, _, _, _, _, rfl, hM.below⟩⟩
  rcases hbc : isBlank c with _ | _
  ·
   rcases hbe : isBlank e with _ | _
   ·
    intro a hF
    refine mix (fun w => Mem w0.heap.size w0 ((b4, 40, [.int .i64 j1, .string (mkS jt), .slice p1 m1 e1, .slice p2 m2 e2]) :: (b2, 40, [.int .i64 0, .string (mkS []), .slice none 0 0, .slice none 0 0]) :: TB) w) 21 (by kernel_rfl) ?_
    replace hM := hM.drew
    generalize World.drew w = w at *
    refine mtakeL 0 hF hM rfl (by kernel_rfl) (by kernel_rfl) (by kernel_rfl) (by kernel_rfl) (by kernel_rfl) (fun _ _ _ h => h) rfl rfl (y_plain rfl (fun w hM => gives_loadA hF hM 0 rfl Tryz.underlying40 rfl (by kernel_rfl) rfl rfl)) ?_; clear hF a; intro a hF
    refine mtakeP 1 hF (.inl hM) rfl (by kernel_rfl) (by kernel_rfl) (by kernel_rfl) rfl (fun _ _ _ h => h) rfl rfl (y_plain rfl (fun w _ => gives_move hF rfl rfl _)) ?_; clear hF a; intro a hF
    refine mtakeP 2 hF (.inl hM) rfl (by kernel_rfl) (by kernel_rfl) (by kernel_rfl) rfl (fun _ _ _ h => h) rfl rfl (y_plain rfl (fun w _ => gives_move hF rfl rfl _)) ?_; clear hF a; intro a hF
    refine mtakeL 3 hF hM rfl (by kernel_rfl) (by kernel_rfl) (by kernel_rfl) (by kernel_rfl) (by kernel_rfl) (fun _ _ _ h => h) rfl rfl (y_yes hF rfl rfl rfl rfl rfl rfl (fun w hM => gives_loadA hF hM 0 rfl Tryz.underlying40 rfl (by kernel_rfl) rfl rfl)) ?_; clear hF a; intro a hF
    refine malone 4 rfl (by kernel_rfl) ?_
    revert a; refine Cl rfl Tryz.func40 (by kernel_rfl) rfl (uniq_walk _ (RepNd.mono (by intro z hz; simp [hz]) _ _ hrn) hM) ?_
    clear hM; intro w v hR
    obtain ⟨rfl, hM⟩ := hR
    intro a hF
    rw [hun] at hF
    refine mstep (.inl (hM)) ?_
    refine mtakeP 5 hF (.inl hM) rfl (by kernel_rfl) (by kernel_rfl) (by kernel_rfl) rfl (fun _ _ _ h => h) rfl rfl (y_plain rfl (fun w _ => gives_pick hF rfl rfl rfl _)) ?_; clear hF a; intro a hF
    refine mtakeP 6 hF (.inl hM) rfl (by kernel_rfl) (by kernel_rfl) (by kernel_rfl) rfl (fun _ _ _ h => h) rfl rfl (y_plain rfl (fun w _ => gives_move hF rfl rfl _)) ?_; clear hF a; intro a hF
    refine mtakeP 7 hF (.inl hM) rfl (by kernel_rfl) (by kernel_rfl) (by kernel_rfl) rfl (fun _ _ _ h => h) rfl rfl (y_yes hF rfl rfl rfl rfl rfl rfl (fun w _ => gives_move hF rfl rfl _)) ?_; clear hF a; intro a hF
    refine mtakeP 8 hF (.inl hM) rfl (by kernel_rfl) (by kernel_rfl) (by kernel_rfl) rfl (fun _ _ _ h => h) rfl rfl (y_yes hF rfl rfl rfl rfl rfl rfl (fun w _ => gives_index_str (0) c hF rfl Tryz.underlying9 rfl rfl (by first | rfl | omega) hc0 _)) ?_; clear hF a; intro a hF
    refine malone 9 rfl (by kernel_rfl) ?_
    revert a; refine Cm hM rfl Tryz.func41 (by kernel_rfl) rfl (blank_walk c _) ?_
    clear hM; intro w v hR hM hBe
    obtain rfl := hR
    intro a hF
    rw [hbc] at hF
    refine mstep (.inl (hM)) ?_
    refine mtakeP 10 hF (.inl hM) rfl (by kernel_rfl) (by kernel_rfl) (by kernel_rfl) rfl (fun _ _ _ h => h) rfl rfl (y_yes hF rfl rfl rfl rfl rfl rfl (fun w _ => gives_not hF rfl rfl _)) ?_; clear hF a; intro a hF
    refine mtakeP 11 hF (.inl hM) rfl (by kernel_rfl) (by kernel_rfl) (by kernel_rfl) rfl (fun _ _ _ h => h) rfl rfl (y_plain rfl (fun w _ => gives_pick hF rfl rfl rfl _)) ?_; clear hF a; intro a hF
    refine mtakeP 12 hF (.inl hM) rfl (by kernel_rfl) (by kernel_rfl) (by kernel_rfl) rfl (fun _ _ _ h => h) rfl rfl (y_plain rfl (fun w _ => gives_move hF rfl rfl _)) ?_; clear hF a; intro a hF
    refine mtakeP 13 hF (.inl hM) rfl (by kernel_rfl) (by kernel_rfl) (by kernel_rfl) rfl (fun _ _ _ h => h) rfl rfl (y_yes hF rfl rfl rfl rfl rfl rfl (fun w _ => gives_move hF rfl rfl _)) ?_; clear hF a; intro a hF
    refine mtakeP 14 hF (.inl hM) rfl (by kernel_rfl) (by kernel_rfl) (by kernel_rfl) rfl (fun _ _ _ h => h) rfl rfl (y_yes hF rfl rfl rfl rfl rfl rfl (fun w _ => gives_move hF rfl rfl _)) ?_; clear hF a; intro a hF
    refine mtakeP 15 hF (.inl hM) rfl (by kernel_rfl) (by kernel_rfl) (by kernel_rfl) rfl (fun _ _ _ h => h) rfl rfl (y_yes hF rfl rfl rfl rfl rfl rfl (fun w _ => gives_len_str hF rfl Tryz.underlying9 rfl _)) ?_; clear hF a; intro a hF
    refine mtakeP 16 hF (.inl hM) rfl (by kernel_rfl) (by kernel_rfl) (by kernel_rfl) rfl (fun _ _ _ h => h) rfl rfl (y_yes hF rfl rfl rfl rfl rfl rfl (fun w _ => gives_sum hF rfl rfl rfl (((s.length - 1 : Nat) : Int)) rfl (by omega) (wrap_i64 (by omega) (by omega)) _)) ?_; clear hF a; intro a hF
    refine mtakeP 17 hF (.inl hM) rfl (by kernel_rfl) (by kernel_rfl) (by kernel_rfl) rfl (fun _ _ _ h => h) rfl rfl (y_yes hF rfl rfl rfl rfl rfl rfl (fun w _ => gives_index_str ((s.length - 1)) e hF rfl Tryz.underlying9 rfl rfl (by first | rfl | omega) he0 _)) ?_; clear hF a; intro a hF
    refine malone 18 rfl (by kernel_rfl) ?_
    revert a; refine Cm hM rfl Tryz.func41 (by kernel_rfl) rfl (blank_walk e _) ?_
    clear hM; intro w v hR hM hBe
    obtain rfl := hR
    intro a hF
    rw [hbe] at hF
    refine mstep (.inl (hM)) ?_
    refine mtakeP 19 hF (.inl hM) rfl (by kernel_rfl) (by kernel_rfl) (by kernel_rfl) rfl (fun _ _ _ h => h) rfl rfl (y_yes hF rfl rfl rfl rfl rfl rfl (fun w _ => gives_not hF rfl rfl _)) ?_; clear hF a; intro a hF
    refine mtakeP 20 hF (.inl hM) rfl (by kernel_rfl) (by kernel_rfl) (by kernel_rfl) rfl (fun _ _ _ h => h) rfl rfl (y_plain rfl (fun w _ => gives_pick hF rfl rfl rfl _)) ?_; clear hF a; intro a hF
    refine malone 21 rfl (by kernel_rfl) ?_
    refine op_storeA hF hM rfl 1 rfl rfl (by kernel_rfl) rfl rfl rfl rfl (rfl) ?_; clear hF hM a; intro a w  hF hM
    refine mstep (.inr (by kernel_rfl)) ?_
    refine mtail 22 (by kernel_rfl) (by kernel_rfl) ?_
    simp only [List.drop_succ_cons, List.drop_zero]
    revert a; refine Md 1 [2,3] rfl (Nx (Re ?_)); intro a hF
    refine retMany (vs := [_, _]) hF hM rfl rfl (.cell 1 rfl rfl Tryz.underlying40 rfl (by kernel_rfl) (.tmp rfl .nil)) ⟨_, rfl, .inl ⟨_, TB, p, c, e, rfl, hl, hpd, hp, hun, hc0, hbc, he0, hbe, hrn, hM.sub [(b4, 40, [.int .i64 j1, .string (mkS jt), .slice p1 m1 e1, .slice p2 m2 e2]), (b2, 40, [.int .i64 j1, .string (mkS jt), .slice p1 m1 e1, .slice p2 m2 e2])] (pc fun x => by simp [ct, ct_append] <;> omega)⟩⟩
   intro a hF
   refine mix (fun w => Mem w0.heap.size w0 ((b4, 40, [.int .i64 j1, .string (mkS jt), .slice p1 m1 e1, .slice p2 m2 e2]) :: (b2, 40, [.int .i64 0, .string (mkS []), .slice none 0 0, .slice none 0 0]) :: TB) w) 21 (by kernel_rfl) ?_
   replace hM := hM.drew
   generalize World.drew w = w at *
   refine mtakeL 0 hF hM rfl (by kernel_rfl) (by kernel_rfl) (by kernel_rfl) (by kernel_rfl) (by kernel_rfl) (fun _ _ _ h => h) rfl rfl (y_plain rfl (fun w hM => gives_loadA hF hM 0 rfl Tryz.underlying40 rfl (by kernel_rfl) rfl rfl)) ?_; clear hF a; intro a hF
   refine mtakeP 1 hF (.inl hM) rfl (by kernel_rfl) (by kernel_rfl) (by kernel_rfl) rfl (fun _ _ _ h => h) rfl rfl (y_plain rfl (fun w _ => gives_move hF rfl rfl _)) ?_; clear hF a; intro a hF
   refine mtakeP 2 hF (.inl hM) rfl (by kernel_rfl) (by kernel_rfl) (by kernel_rfl) rfl (fun _ _ _ h => h) rfl rfl (y_plain rfl (fun w _ => gives_move hF rfl rfl _)) ?_; clear hF a; intro a hF
   refine mtakeL 3 hF hM rfl (by kernel_rfl) (by kernel_rfl) (by kernel_rfl) (by kernel_rfl) (by kernel_rfl) (fun _ _ _ h => h) rfl rfl (y_yes hF rfl rfl rfl rfl rfl rfl (fun w hM => gives_loadA hF hM 0 rfl Tryz.underlying40 rfl (by kernel_rfl) rfl rfl)) ?_; clear hF a; intro a hF
   refine malone 4 rfl (by kernel_rfl) ?_
   revert a; refine Cl rfl Tryz.func40 (by kernel_rfl) rfl (uniq_walk _ (RepNd.mono (by intro z hz; simp [hz]) _ _ hrn) hM) ?_
   clear hM; intro w v hR
   obtain ⟨rfl, hM⟩ := hR
   intro a hF
   rw [hun] at hF
   refine mstep (.inl (hM)) ?_
   refine mtakeP 5 hF (.inl hM) rfl (by kernel_rfl) (by kernel_rfl) (by kernel_rfl) rfl (fun _ _ _ h => h) rfl rfl (y_plain rfl (fun w _ => gives_pick hF rfl rfl rfl _)) ?_; clear hF a; intro a hF
   refine mtakeP 6 hF (.inl hM) rfl (by kernel_rfl) (by kernel_rfl) (by kernel_rfl) rfl (fun _ _ _ h => h) rfl rfl (y_plain rfl (fun w _ => gives_move hF rfl rfl _)) ?_; clear hF a; intro a hF
   refine mtakeP 7 hF (.inl hM) rfl (by kernel_rfl) (by kernel_rfl) (by kernel_rfl) rfl (fun _ _ _ h => h) rfl rfl (y_yes hF rfl rfl rfl rfl rfl rfl (fun w _ => gives_move hF rfl rfl _)) ?_; clear hF a; intro a hF
   refine mtakeP 8 hF (.inl hM) rfl (by kernel_rfl) (by kernel_rfl) (by kernel_rfl) rfl (fun _ _ _ h => h) rfl rfl (y_yes hF rfl rfl rfl rfl rfl rfl (fun w _ => gives_index_str (0) c hF rfl Tryz.underlying9 rfl rfl (by first | rfl | omega) hc0 _)) ?_; clear hF a; intro a hF
   refine malone 9 rfl (by kernel_rfl) ?_
   revert a; refine Cm hM rfl Tryz.func41 (by kernel_rfl) rfl (blank_walk c _) ?_
   clear hM; intro w v hR hM hBe
   obtain rfl := hR
   intro a hF
   rw [hbc] at hF
   refine mstep (.inl (hM)) ?_
   refine mtakeP 10 hF (.inl hM) rfl (by kernel_rfl) (by kernel_rfl) (by kernel_rfl) rfl (fun _ _ _ h => h) rfl rfl (y_yes hF rfl rfl rfl rfl rfl rfl (fun w _ => gives_not hF rfl rfl _)) ?_; clear hF a; intro a hF
   refine mtakeP 11 hF (.inl hM) rfl (by kernel_rfl) (by kernel_rfl) (by kernel_rfl) rfl (fun _ _ _ h => h) rfl rfl (y_plain rfl (fun w _ => gives_pick hF rfl rfl rfl _)) ?_; clear hF a; intro a hF
   refine mtakeP 12 hF (.inl hM) rfl (by kernel_rfl) (by kernel_rfl) (by kernel_rfl) rfl (fun _ _ _ h => h) rfl rfl (y_plain rfl (fun w _ => gives_move hF rfl rfl _)) ?_; clear hF a; intro a hF
   refine mtakeP 13 hF (.inl hM) rfl (by kernel_rfl) (by kernel_rfl) (by kernel_rfl) rfl (fun _ _ _ h => h) rfl rfl (y_yes hF rfl rfl rfl rfl rfl rfl (fun w _ => gives_move hF rfl rfl _)) ?_; clear hF a; intro a hF
   refine mtakeP 14 hF (.inl hM) rfl (by kernel_rfl) (by kernel_rfl) (by kernel_rfl) rfl (fun _ _ _ h => h) rfl rfl (y_yes hF rfl rfl rfl rfl rfl rfl (fun w _ => gives_move hF rfl rfl _)) ?_; clear hF a; intro a hF
   refine mtakeP 15 hF (.inl hM) rfl (by kernel_rfl) (by kernel_rfl) (by kernel_rfl) rfl (fun _ _ _ h => h) rfl rfl (y_yes hF rfl rfl rfl rfl rfl rfl (fun w _ => gives_len_str hF rfl Tryz.underlying9 rfl _)) ?_; clear hF a; intro a hF
   refine mtakeP 16 hF (.inl hM) rfl (by kernel_rfl) (by kernel_rfl) (by kernel_rfl) rfl (fun _ _ _ h => h) rfl rfl (y_yes hF rfl rfl rfl rfl rfl rfl (fun w _ => gives_sum hF rfl rfl rfl (((s.length - 1 : Nat) : Int)) rfl (by omega) (wrap_i64 (by omega) (by omega)) _)) ?_; clear hF a; intro a hF
   refine mtakeP 17 hF (.inl hM) rfl (by kernel_rfl) (by kernel_rfl) (by kernel_rfl) rfl (fun _ _ _ h => h) rfl rfl (y_yes hF rfl rfl rfl rfl rfl rfl (fun w _ => gives_index_str ((s.length - 1)) e hF rfl Tryz.underlying9 rfl rfl (by first | rfl | omega) he0 _)) ?_; clear hF a; intro a hF
   refine malone 18 rfl (by kernel_rfl) ?_
   revert a; refine Cm hM rfl Tryz.func41 (by kernel_rfl) rfl (blank_walk e _) ?_
   clear hM; intro w v hR hM hBe
   obtain rfl := hR
   intro a hF
   rw [hbe] at hF
   refine mstep (.inl (hM)) ?_
   refine mtakeP 19 hF (.inl hM) rfl (by kernel_rfl) (by kernel_rfl) (by kernel_rfl) rfl (fun _ _ _ h => h) rfl rfl (y_yes hF rfl rfl rfl rfl rfl rfl (fun w _ => gives_not hF rfl rfl _)) ?_; clear hF a; intro a hF
   refine mtakeP 20 hF (.inl hM) rfl (by kernel_rfl) (by kernel_rfl) (by kernel_rfl) rfl (fun _ _ _ h => h) rfl rfl (y_plain rfl (fun w _ => gives_pick hF rfl rfl rfl _)) ?_; clear hF a; intro a hF
   refine malone 21 rfl (by kernel_rfl) ?_
   refine op_storeA hF hM rfl 1 rfl rfl (by kernel_rfl) rfl rfl rfl rfl (rfl) ?_; clear hF hM a; intro a w  hF hM
   refine mstep (.inr (by kernel_rfl)) ?_
   refine mtail 22 (by kernel_rfl) (by kernel_rfl) ?_
   simp only [List.drop_succ_cons, List.drop_zero]
   revert a; refine Md 1 [2,3] rfl (Nx (Re ?_)); intro a hF
   refine retMany (vs := [_, _]) hF hM rfl rfl (.cell 1 rfl rfl Tryz.underlying40 rfl (by kernel_rfl) (.tmp rfl .nil)) ⟨_, rfl, .inr ⟨_, _, _, _, _, _, _, _, rfl, hM.below⟩⟩
  intro a hF
  refine mix (fun w => Mem w0.heap.size w0 ((b4, 40, [.int .i64 j1, .string (mkS jt), .slice p1 m1 e1, .slice p2 m2 e2]) :: (b2, 40, [.int .i64 0, .string (mkS []), .slice none 0 0, .slice none 0 0]) :: TB) w) 21 (by kernel_rfl) ?_
  replace hM := hM.drew
  generalize World.drew w = w at *
  refine mtakeL 0 hF hM rfl (by kernel_rfl) (by kernel_rfl) (by kernel_rfl) (by kernel_rfl) (by kernel_rfl) (fun _ _ _ h => h) rfl rfl (y_plain rfl (fun w hM => gives_loadA hF hM 0 rfl Tryz.underlying40 rfl (by kernel_rfl) rfl rfl)) ?_; clear hF a; intro a hF
  refine mtakeP 1 hF (.inl hM) rfl (by kernel_rfl) (by kernel_rfl) (by kernel_rfl) rfl (fun _ _ _ h => h) rfl rfl (y_plain rfl (fun w _ => gives_move hF rfl rfl _)) ?_; clear hF a; intro a hF
  refine mtakeP 2 hF (.inl hM) rfl (by kernel_rfl) (by kernel_rfl) (by kernel_rfl) rfl (fun _ _ _ h => h) rfl rfl (y_plain rfl (fun w _ => gives_move hF rfl rfl _)) ?_; clear hF a; intro a hF
  refine mtakeL 3 hF hM rfl (by kernel_rfl) (by kernel_rfl) (by kernel_rfl) (by kernel_rfl) (by kernel_rfl) (fun _ _ _ h => h) rfl rfl (y_yes hF rfl rfl rfl rfl rfl rfl (fun w hM => gives_loadA hF hM 0 rfl Tryz.underlying40 rfl (by kernel_rfl) rfl rfl)) ?_; clear hF a; intro a hF
  refine malone 4 rfl (by kernel_rfl) ?_
  revert a; refine Cl rfl Tryz.func40 (by kernel_rfl) rfl (uniq_walk _ (RepNd.mono (by intro z hz; simp [hz]) _ _ hrn) hM) ?_
  clear hM; intro w v hR
  obtain ⟨rfl, hM⟩ := hR
  intro a hF
  rw [hun] at hF
  refine mstep (.inl (hM)) ?_
  refine mtakeP 5 hF (.inl hM) rfl (by kernel_rfl) (by kernel_rfl) (by kernel_rfl) rfl (fun _ _ _ h => h) rfl rfl (y_plain rfl (fun w _ => gives_pick hF rfl rfl rfl _)) ?_; clear hF a; intro a hF
  refine mtakeP 6 hF (.inl hM) rfl (by kernel_rfl) (by kernel_rfl) (by kernel_rfl) rfl (fun _ _ _ h => h) rfl rfl (y_plain rfl (fun w _ => gives_move hF rfl rfl _)) ?_; clear hF a; intro a hF
  refine mtakeP 7 hF (.inl hM) rfl (by kernel_rfl) (by kernel_rfl) (by kernel_rfl) rfl (fun _ _ _ h => h) rfl rfl (y_yes hF rfl rfl rfl rfl rfl rfl (fun w _ => gives_move hF rfl rfl _)) ?_; clear hF a; intro a hF
  refine mtakeP 8 hF (.inl hM) rfl (by kernel_rfl) (by kernel_rfl) (by kernel_rfl) rfl (fun _ _ _ h => h) rfl rfl (y_yes hF rfl rfl rfl rfl rfl rfl (fun w _ => gives_index_str (0) c hF rfl Tryz.underlying9 rfl rfl (by first | rfl | omega) hc0 _)) ?_; clear hF a; intro a hF
  refine malone 9 rfl (by kernel_rfl) ?_
  revert a; refine Cm hM rfl Tryz.func41 (by kernel_rfl) rfl (blank_walk c _) ?_
  clear hM; intro w v hR hM hBe
  obtain rfl := hR
  intro a hF
  rw [hbc] at hF
  refine mstep (.inl (hM)) ?_
  refine mtakeP 10 hF (.inl hM) rfl (by kernel_rfl) (by kernel_rfl) (by kernel_rfl) rfl (fun _ _ _ h => h) rfl rfl (y_yes hF rfl rfl rfl rfl rfl rfl (fun w _ => gives_not hF rfl rfl _)) ?_; clear hF a; intro a hF
  refine mtakeP 11 hF (.inl hM) rfl (by kernel_rfl) (by kernel_rfl) (by kernel_rfl) rfl (fun _ _ _ h => h) rfl rfl (y_plain rfl (fun w _ => gives_pick hF rfl rfl rfl _)) ?_; clear hF a; intro a hF
  refine mtakeP 12 hF (.inl hM) rfl (by kernel_rfl) (by kernel_rfl) (by kernel_rfl) rfl (fun _ _ _ h => h) rfl rfl (y_plain rfl (fun w _ => gives_move hF rfl rfl _)) ?_; clear hF a; intro a hF
  refine mtakeP 13 hF (.inl hM) rfl (by kernel_rfl) (by kernel_rfl) (by kernel_rfl) rfl (fun _ _ _ h => h) rfl rfl (y_no hF rfl rfl rfl rfl rfl rfl) ?_; clear hF a; intro a hF
  refine mtakeP 14 hF (.inl hM) rfl (by kernel_rfl) (by kernel_rfl) (by kernel_rfl) rfl (fun _ _ _ h => h) rfl rfl (y_no hF rfl rfl rfl rfl rfl rfl) ?_; clear hF a; intro a hF
  refine mtakeP 15 hF (.inl hM) rfl (by kernel_rfl) (by kernel_rfl) (by kernel_rfl) rfl (fun _ _ _ h => h) rfl rfl (y_no hF rfl rfl rfl rfl rfl rfl) ?_; clear hF a; intro a hF
  refine mtakeP 16 hF (.inl hM) rfl (by kernel_rfl) (by kernel_rfl) (by kernel_rfl) rfl (fun _ _ _ h => h) rfl rfl (y_no hF rfl rfl rfl rfl rfl rfl) ?_; clear hF a; intro a hF
  refine mtakeP 17 hF (.inl hM) rfl (by kernel_rfl) (by kernel_rfl) (by kernel_rfl) rfl (fun _ _ _ h => h) rfl rfl (y_no hF rfl rfl rfl rfl rfl rfl) ?_; clear hF a; intro a hF
  refine mtakeP 18 hF (.inl hM) rfl (by kernel_rfl) (by kernel_rfl) (by kernel_rfl) rfl (fun _ _ _ h => h) rfl rfl (y_no hF rfl rfl rfl rfl rfl rfl) ?_; clear hF a; intro a hF
  refine mtakeP 19 hF (.inl hM) rfl (by kernel_rfl) (by kernel_rfl) (by kernel_rfl) rfl (fun _ _ _ h => h) rfl rfl (y_no hF rfl rfl rfl rfl rfl rfl) ?_; clear hF a; intro a hF
  refine mtakeP 20 hF (.inl hM) rfl (by kernel_rfl) (by kernel_rfl) (by kernel_rfl) rfl (fun _ _ _ h => h) rfl rfl (y_plain rfl (fun w _ => gives_pick hF rfl rfl rfl _)) ?_; clear hF a; intro a hF
  refine malone 21 rfl (by kernel_rfl) ?_
  refine op_storeA hF hM rfl 1 rfl rfl (by kernel_rfl) rfl rfl rfl rfl (rfl) ?_; clear hF hM a; intro a w  hF hM
  refine mstep (.inr (by kernel_rfl)) ?_
  refine mtail 22 (by kernel_rfl) (by kernel_rfl) ?_
  simp only [List.drop_succ_cons, List.drop_zero]
  revert a; refine Md 1 [2,3] rfl (Nx (Re ?_)); intro a hF
  refine retMany (vs := [_, _]) hF hM rfl rfl (.cell 1 rfl rfl Tryz.underlying40 rfl (by kernel_rfl) (.tmp rfl .nil)) ⟨_, rfl, .inr ⟨_, _, _, _, _, _, _, _, rfl, hM.below⟩⟩
 replace hM := hM.step hBe
 clear hBe
 refine Mv 3 rfl ?_; intro a hF
 refine op_alloc hF hM rfl (vs := [.int .i64 0, .string (mkS []), .slice none 0 0, .slice none 0 0]) rfl rfl rfl (by kernel_rfl) ?_; clear hF hM a; intro a w b4 hF hM
 refine op_storeA hF hM rfl 0 rfl rfl (by kernel_rfl) rfl rfl rfl rfl (rfl) ?_; clear hF hM a; intro a w  hF hM
 revert a; refine Md 1 [0,2,4,5] rfl (Nx (Sq ?_)); intro a hF
 refine mix (fun w => Mem w0.heap.size w0 ((b4, 40, [.int .i64 0, .string (mkS []), .slice none 0 0, .slice none 0 0]) :: (b2, 40, [.int .i64 0, .string (mkS []), .slice none 0 0, .slice none 0 0]) :: []) w) 21 (by kernel_rfl) ?_
 replace hM := hM.drew
 generalize World.drew w = w at *
 refine mtakeL 0 hF hM rfl (by kernel_rfl) (by kernel_rfl) (by kernel_rfl) (by kernel_rfl) (by kernel_rfl) (fun _ _ _ h => h) rfl rfl (y_plain rfl (fun w hM => gives_loadA hF hM 0 rfl Tryz.underlying40 rfl (by kernel_rfl) rfl rfl)) ?_; clear hF a; intro a hF
 refine mtakeP 1 hF (.inl hM) rfl (by kernel_rfl) (by kernel_rfl) (by kernel_rfl) rfl (fun _ _ _ h => h) rfl rfl (y_plain rfl (fun w _ => gives_move hF rfl rfl _)) ?_; clear hF a; intro a hF
 refine mtakeP 2 hF (.inl hM) rfl (by kernel_rfl) (by kernel_rfl) (by kernel_rfl) rfl (fun _ _ _ h => h) rfl rfl (y_plain rfl (fun w _ => gives_move hF rfl rfl _)) ?_; clear hF a; intro a hF
 refine mtakeP 3 hF (.inl hM) rfl (by kernel_rfl) (by kernel_rfl) (by kernel_rfl) rfl (fun _ _ _ h => h) rfl rfl (y_no hF rfl rfl rfl rfl rfl rfl) ?_; clear hF a; intro a hF
 refine mtakeP 4 hF (.inl hM) rfl (by kernel_rfl) (by kernel_rfl) (by kernel_rfl) rfl (fun _ _ _ h => h) rfl rfl (y_no hF rfl rfl rfl rfl rfl rfl) ?_; clear hF a; intro a hF
 refine mtakeP 5 hF (.inl hM) rfl (by kernel_rfl) (by kernel_rfl) (by kernel_rfl) rfl (fun _ _ _ h => h) rfl rfl (y_plain rfl (fun w _ => gives_pick hF rfl rfl rfl _)) ?_; clear hF a; intro a hF
 refine mtakeP 6 hF (.inl hM) rfl (by kernel_rfl) (by kernel_rfl) (by kernel_rfl) rfl (fun _ _ _ h => h) rfl rfl (y_plain rfl (fun w _ => gives_move hF rfl rfl _)) ?_; clear hF a; intro a hF
 refine mtakeP 7 hF (.inl hM) rfl (by kernel_rfl) (by kernel_rfl) (by kernel_rfl) rfl (fun _ _ _ h => h) rfl rfl (y_no hF rfl rfl rfl rfl rfl rfl) ?_; clear hF a; intro a hF
 refine mtakeP 8 hF (.inl hM) rfl (by kernel_rfl) (by kernel_rfl) (by kernel_rfl) rfl (fun _ _ _ h => h) rfl rfl (y_no hF rfl rfl rfl rfl rfl rfl) ?_; clear hF a; intro a hF
 refine mtakeP 9 hF (.inl hM) rfl (by kernel_rfl) (by kernel_rfl) (by kernel_rfl) rfl (fun _ _ _ h => h) rfl rfl (y_no hF rfl rfl rfl rfl rfl rfl) ?_; clear hF a; intro a hF
 refine mtakeP 10 hF (.inl hM) rfl (by kernel_rfl) (by kernel_rfl) (by kernel_rfl) rfl (fun _ _ _ h => h) rfl rfl (y_no hF rfl rfl rfl rfl rfl rfl) ?_; clear hF a; intro a hF
 refine mtakeP 11 hF (.inl hM) rfl (by kernel_rfl) (by kernel_rfl) (by kernel_rfl) rfl (fun _ _ _ h => h) rfl rfl (y_plain rfl (fun w _ => gives_pick hF rfl rfl rfl _)) ?_; clear hF a; intro a hF
 refine mtakeP 12 hF (.inl hM) rfl (by kernel_rfl) (by kernel_rfl) (by kernel_rfl) rfl (fun _ _ _ h => h) rfl rfl (y_plain rfl (fun w _ => gives_move hF rfl rfl _)) ?_; clear hF a; intro a hF
 refine mtakeP 13 hF (.inl hM) rfl (by kernel_rfl) (by kernel_rfl) (by kernel_rfl) rfl (fun _ _ _ h => h) rfl rfl (y_no hF rfl rfl rfl rfl rfl rfl) ?_; clear hF a; intro a hF
 refine mtakeP 14 hF (.inl hM) rfl (by kernel_rfl) (by kernel_rfl) (by kernel_rfl) rfl (fun _ _ _ h => h) rfl rfl (y_no hF rfl rfl rfl rfl rfl rfl) ?_; clear hF a; intro a hF
 refine mtakeP 15 hF (.inl hM) rfl (by kernel_rfl) (by kernel_rfl) (by kernel_rfl) rfl (fun _ _ _ h => h) rfl rfl (y_no hF rfl rfl rfl rfl rfl rfl) ?_; clear hF a; intro a hF
 refine mtakeP 16 hF (.inl hM) rfl (by kernel_rfl) (by kernel_rfl) (by kernel_rfl) rfl (fun _ _ _ h => h) rfl rfl (y_no hF rfl rfl rfl rfl rfl rfl) ?_; clear hF a; intro a hF
 refine mtakeP 17 hF (.inl hM) rfl (by kernel_rfl) (by kernel_rfl) (by kernel_rfl) rfl (fun _ _ _ h => h) rfl rfl (y_no hF rfl rfl rfl rfl rfl rfl) ?_; clear hF a; intro a hF
 refine mtakeP 18 hF (.inl hM) rfl (by kernel_rfl) (by kernel_rfl) (by kernel_rfl) rfl (fun _ _ _ h => h) rfl rfl (y_no hF rfl rfl rfl rfl rfl rfl) ?_; clear hF a; intro a hF
 refine mtakeP 19 hF (.inl hM) rfl (by kernel_rfl) (by kernel_rfl) (by kernel_rfl) rfl (fun _ _ _ h => h) rfl rfl (y_no hF rfl rfl rfl rfl rfl rfl) ?_; clear hF a; intro a hF
 refine mtakeP 20 hF (.inl hM) rfl (by kernel_rfl) (by kernel_rfl) (by kernel_rfl) rfl (fun _ _ _ h => h) rfl rfl (y_plain rfl (fun w _ => gives_pick hF rfl rfl rfl _)) ?_; clear hF a; intro a hF
 refine malone 21 rfl (by kernel_rfl) ?_
 refine op_storeA hF hM rfl 1 rfl rfl (by kernel_rfl) rfl rfl rfl rfl (rfl) ?_; clear hF hM a; intro a w  hF hM
 refine mstep (.inr (by kernel_rfl)) ?_
 refine mtail 22 (by kernel_rfl) (by kernel_rfl) ?_
 simp only [List.drop_succ_cons, List.drop_zero]
 revert a; refine Md 1 [2,3] rfl (Nx (Re ?_)); intro a hF
 refine retMany (vs := [_, _]) hF hM rfl rfl (.cell 1 rfl rfl Tryz.underlying40 rfl (by kernel_rfl) (.tmp rfl .nil)) ⟨_, rfl, .inr ⟨_, _, _, _, _, _, _, _, rfl, hM.below⟩⟩
end Go.Sx
namespace Go.Sx
open Go.RowKit Go.Proofs Js Go.Proofs.YtelonenjneonlaaGreatDoorW.PrintWords
set_option maxRecDepth 100000 in
theorem gjReads_walk {B : Nat} {wc w0 : World} {L : List Bk} {R : Str} {p : Js.Place} {cb : List Value} (hp : pText R = some p) (hT : R.length ≤ 2 ^ 37) (hB : RepNd L (tree R p) cb) (hM0 : Mem B wc L w0) :
    Calls Tryz.prog 20 #[.string (mkS R), .agg cb.toArray] w0 (Ret fun v w' => v = .bool true ∧ Mem B wc L w') := by
 have hM := hM0
 obtain ⟨i1, it, q1, n1, f1, q2, n2, f2, rfl⟩ := hB.shape
 refine enter (l := [.string (mkS R), .agg ([.int .i64 i1, .string (mkS it), .slice q1 n1 f1, .slice q2 n2 f2] : List Value).toArray]) 16 Tryz.func20 rfl rfl (fun a hF => ?_)
 replace hF : Fr 18 [(0, .string (mkS R)), (1, .agg ([.int .i64 i1, .string (mkS it), .slice q1 n1 f1, .slice q2 n2 f2] : List Value).toArray)] a := hF
 refine seq (region ?_)
 refine op_box hF hM rfl rfl rfl rfl rfl rfl ?_; clear hF hM a; intro a w b3 hF hM
 revert a; refine Md 1 [0,3] rfl (Nx (Sq (Rg (Mv 1 rfl (Cl rfl Tryz.func42 (by kernel_rfl) rfl (read_walk (T := R) hT w) ?_)))))
 intro w2 v hR
 rw [hp] at hR
 obtain ⟨d2, TB, rfl, hrn, hM2⟩ := hR
 replace hM := (hM.join hM2).perm (L' := (b3, 40, [.int .i64 i1, .string (mkS it), .slice q1 n1 f1, .slice q2 n2 f2]) :: (TB ++ L)) (pc fun x => by simp [ct, ct_append] <;> omega)
 clear hM2
 have hcl2 := hrn.len
 obtain ⟨j1, jt, p1, m1, e1, p2, m2, e2, rfl⟩ := hrn.shape
 refine Mv 3 rfl ?_; intro a hF
 refine op_alloc hF hM rfl (vs := [.int .i64 0, .string (mkS []), .slice none 0 0, .slice none 0 0]) rfl rfl rfl (by kernel_rfl) ?_; clear hF hM a; intro a w b5 hF hM
 refine op_storeA hF hM rfl 0 rfl rfl (by kernel_rfl) rfl rfl rfl rfl (rfl) ?_; clear hF hM a; intro a w  hF hM
 revert a; refine Md 1 [3,5,6] rfl (Nx (Sq (Rg (Mv 2 rfl ?_)))); intro a hF
 refine guard_yes hF rfl rfl rfl rfl rfl rfl ?_
 refine op_loadA hF hM rfl 0 rfl rfl rfl Tryz.underlying40 rfl (by kernel_rfl) rfl rfl ?_; clear hF a; intro a hF
 refine guard_yes hF rfl rfl rfl rfl rfl rfl ?_
 refine op_loadA hF hM rfl 1 rfl rfl rfl Tryz.underlying40 rfl (by kernel_rfl) rfl rfl ?_; clear hF a; intro a hF
 revert a; refine Cl rfl Tryz.func43 (by kernel_rfl) rfl (same_walk _ (RepNd.mono (by intro z hz; simp [hz]) _ _ hrn) (RepNd.mono (by intro z hz; simp [hz]) _ _ hB) hM) ?_
 clear hM; intro w v hR
 obtain ⟨rfl, hM⟩ := hR
 exact Md 2 [4] rfl (Nx (Re (Y1 rfl rfl ⟨_, rfl, rfl, hM.sub ((b5, 40, [.int .i64 j1, .string (mkS jt), .slice p1 m1 e1, .slice p2 m2 e2]) :: (b3, 40, [.int .i64 i1, .string (mkS it), .slice q1 n1 f1, .slice q2 n2 f2]) :: TB) (pc fun x => by simp [ct, ct_append] <;> omega)⟩)))
end Go.Sx
namespace Go.Sx
open Go.RowKit Go.Proofs Js Go.Proofs.YtelonenjneonlaaGreatDoorW.PrintWords
set_option maxRecDepth 100000 in
theorem member_walk {B : Nat} {wc w0 : World} {L : List Bk} {k : Nat} {txt s : Str} {ks : List Str} {kids : List Nd} {ca : List Value} (hA : RepNd L (.mk k txt ks kids) ca) (hM0 : Mem B wc L w0) :
    Calls Tryz.prog 19 #[.agg ca.toArray, .string (mkS s)] w0 (Ret fun v w' => (∃ z : Int, v = .int .i64 z ∧ (z < 0 ↔ s ∉ ks)) ∧ Mem B wc L w') := by
 have hM := hM0
 simp only [RepNd] at hA
 obtain ⟨sn, sk, xs, rfl, hsn, hsk, hkr⟩ := hA
 obtain ⟨o1, c1, rfl⟩ := hsn.shape
 obtain ⟨o2, c2, rfl⟩ := hsk.shape
 have hsz := hsn.small
 refine enter (l := [.agg ([.int .i64 (k : Int), .string (mkS txt), .slice o1 ks.length c1, .slice o2 kids.length c2] : List Value).toArray, .string (mkS s)]) 18 Tryz.func19 rfl rfl (fun a hF => ?_)
 replace hF : Fr 20 [(0, .agg ([.int .i64 (k : Int), .string (mkS txt), .slice o1 ks.length c1, .slice o2 kids.length c2] : List Value).toArray), (1, .string (mkS s))] a := hF
 refine seq (region ?_)
 refine op_box hF hM rfl rfl rfl rfl rfl rfl ?_; clear hF hM a; intro a w b2 hF hM
 revert a; refine Md 1 [1,2] rfl (Nx (Sq (Sq (Rg (Mv 1 rfl (Ld hM 0 rfl rfl (Md 2 [1,8,9,10] rfl (Nx (Bo (Kp [1,8,9,10] rfl ?_)))))))))); intro a hF
 refine loopX (fun (j : Nat) a w => Fr 20 [(1, .string (mkS s)), (8, .slice o1 ks.length c1), (9, .int .i64 (ks.length : Int)), (10, .int .i64 (j : Int))] a ∧ Mem B wc ((b2, 40, [.int .i64 (k : Int), .string (mkS txt), .slice o1 ks.length c1, .slice o2 kids.length c2]) :: L) w ∧ s ∉ ks.take j ∧ j ≤ ks.length) (fun j => ks.length - j) (0) ?_ (fun j a w hI => ?_)
 · exact ⟨hF, hM, by simp, Nat.zero_le _⟩
 clear hF hM
 obtain ⟨hF, hM, hn, hjl⟩ := hI
 revert a; refine Sq (Rg (Md 1 [1,8,9,10,11] rfl (Nx (Sq (Ce rfl (fun ht => ?_) ((fun ht => ?_)))))))
 ·
  have hjn : j = ks.length := by have := of_decide_eq_false ht; omega
  rw [hjn, List.take_length] at hn
  refine Ex (Ot (Ot (Ob (Nx (Sq (Rg (Md 1 [4] rfl (Nx (Re ?_))))))))); intro a hF
  first | exact ret1 hF rfl rfl ⟨_, rfl, ⟨_, rfl, ⟨fun h => absurd h (by omega), fun h => absurd hmem h⟩⟩, hM.sub [(b2, 40, [.int .i64 (k : Int), .string (mkS txt), .slice o1 ks.length c1, .slice o2 kids.length c2])] (pc fun x => by simp [ct, ct_append] <;> omega)⟩ | exact ret1 hF rfl rfl ⟨_, rfl, ⟨_, rfl, ⟨fun _ => hn, fun _ => by decide⟩⟩, hM.sub [(b2, 40, [.int .i64 (k : Int), .string (mkS txt), .slice o1 ks.length c1, .slice o2 kids.length c2])] (pc fun x => by simp [ct, ct_append] <;> omega)⟩
 have hj : j < ks.length := by have := of_decide_eq_true ht; omega
 obtain ⟨t, hs1⟩ : ∃ t, ks[j]? = some t := ⟨_, List.getElem?_eq_getElem hj⟩
 have hk1 := keys_at hs1
 obtain ⟨g, cap, hv, hcell⟩ := hsn.row (by omega)
 have ho : o1 = some ⟨g, 0, none⟩ := by cases hv; rfl
 intro a hF
 rw [ho] at hF
 revert a; refine Sk (Nx (Sq (Bo (Sq (Rg (Mv 1 rfl (Gv rfl (fun _ hF => gives_indexAddrS (sz := 1) (j) hF rfl Tryz.underlying22 (by kernel_rfl) rfl rfl (by omega) hj _) (Gv rfl (fun _ hF => gives_load1 hF rfl Tryz.underlying9 rfl rfl ((show w.cell? ⟨g, 0 + j * 1, none⟩ = some (.string (mkS t)) from by rw [Nat.zero_add, Nat.mul_one]; exact hcell hM (by intro z hz; simp [hz]) _ _ hk1))) (Md 2 [1,5,6,8,9,10] rfl (Nx (Sq (Rg (Mv 2 rfl ?_))))))))))))); intro a hF
 refine op_eqlStr hF rfl rfl rfl rfl rfl rfl ?_; clear hF a; intro a hF
 revert a; refine Md 0 [1,5,8,9,10,17] rfl (Nx (Ce rfl (fun ht => ?_) ((fun ht => ?_))))
 ·
  have hts : t ≠ s := by simpa using ht
  refine Sk (Nb (Nx (Rg (Sm (((j + 1 : Nat) : Int)) rfl (by omega) (Md 1 [1,8,9,10] rfl ?_))))); intro a hF
  rw [← ho] at hF
  exact ⟨j + 1, ⟨hF, hM, by rw [List.take_add_one, hs1, List.mem_append]; rintro (h | h); exact hn h; exact hts (List.mem_singleton.1 h).symm, hj⟩, by omega⟩
 have hts : t = s := by simpa using ht
 subst hts
 have hmem := List.mem_of_getElem? hs1
 refine Sq (Rg (Md 2 [4] rfl (Nx (Re (Rb (Rt (Rt (Rb (Rt ?_))))))))); intro a hF
 first | exact ret1 hF rfl rfl ⟨_, rfl, ⟨_, rfl, ⟨fun h => absurd h (by omega), fun h => absurd hmem h⟩⟩, hM.sub [(b2, 40, [.int .i64 (k : Int), .string (mkS txt), .slice o1 ks.length c1, .slice o2 kids.length c2])] (pc fun x => by simp [ct, ct_append] <;> omega)⟩ | exact ret1 hF rfl rfl ⟨_, rfl, ⟨_, rfl, ⟨fun _ => hn, fun _ => by decide⟩⟩, hM.sub [(b2, 40, [.int .i64 (k : Int), .string (mkS txt), .slice o1 ks.length c1, .slice o2 kids.length c2])] (pc fun x => by simp [ct, ct_append] <;> omega)⟩
end Go.Sx
set_option linter.unusedVariables false
namespace Js
instance (c : UInt8) : Decidable (Ink c) := inferInstanceAs (Decidable (_ ∧ _))
theorem Shows.join {t : Str} {it : It} (h : Shows t it) {Y : Str} {m : List Nd} (hY : Shows Y (.e m)) : ∀ l, it = .e l → Shows (t ++ 44 :: Y) (.e (l ++ m)) := by
  induction h with
  | @e1 w1 t w2 n h1 h h2 ih =>
    rintro l ⟨⟩
    exact Shows.e2 h1 h h2 hY
  | @e2 w1 t w2 r n l' h1 h h2 hr ih ih2 =>
    rintro l ⟨⟩
    have := Shows.e2 h1 h h2 (ih2 l' rfl)
    simpa using this
  | _ => intro l hl; cases hl
def lens : List (Str × Nat) → Nat
  | [] => 0
  | x :: r => x.1.length + 1 + lens r
theorem lens_append (a b : List (Str × Nat)) : lens (a ++ b) = lens a + lens b := by
  induction a with
  | nil => simp [lens]
  | cons x a ih => simp [lens, ih]; omega
theorem Rest.lens {u : Str} {ts : List (Str × Nat)} (h : Rest u ts) : Js.lens ts ≤ u.length := by
  induction h with
  | done0 => exact Nat.le_refl _
  | done _ => simp [Js.lens]
  | more _ _ _ _ ih => simp [Js.lens]; omega
theorem lens_take {ts : List (Str × Nat)} {j : Nat} {t : Str} {k : Nat} (h : ts[j]? = some (t, k)) : lens (ts.take (j + 1)) = lens (ts.take j) + t.length + 1 := by
  rw [List.take_add_one, h, lens_append]
  simp [lens]
  omega
theorem lens_le (ts : List (Str × Nat)) (j : Nat) : lens (ts.take j) ≤ lens ts := by
  have := lens_append (ts.take j) (ts.drop j)
  rw [List.take_append_drop] at this
  omega
end Js
set_option linter.unusedVariables false
namespace Js
def NoSep (c : UInt8) : Prop := 32 < c.toNat ∧ c ≠ 44 ∧ c ≠ 58
theorem num_nosep {c : UInt8} (h : c = 45 ∨ isDig c = true) : NoSep c := by
  rcases h with rfl | h
  · exact ⟨by decide, by decide, by decide⟩
  · have := dig_lo h
    refine ⟨by omega, ?_, ?_⟩ <;> rintro rfl <;> revert h <;> decide
where
  dig_lo {c : UInt8} (h : isDig c = true) : 48 ≤ c.toNat := by
    simp only [isDig, Bool.and_eq_true, decide_eq_true_eq] at h
    exact h.1
theorem form_first {t : Str} {k : Nat} (h : Form t k) : ∃ c r, t = c :: r ∧ NoSep c := by
  have lit : ∀ (c : UInt8) (r : Str), t = c :: r → NoSep c → ∃ c r, t = c :: r ∧ NoSep c := fun c r e h => ⟨c, r, e, h⟩
  cases h with
  | nul h => exact lit _ _ h ⟨by decide, by decide, by decide⟩
  | fls h => exact lit _ _ h ⟨by decide, by decide, by decide⟩
  | tru h => exact lit _ _ h ⟨by decide, by decide, by decide⟩
  | num h => obtain ⟨c, r, e, hc⟩ := num_head h; exact lit _ _ e (num_nosep hc)
  | str h hi => exact lit 34 _ h ⟨by decide, by decide, by decide⟩
  | brk hk h hc hn =>
    refine lit _ _ h ?_
    rcases hc with rfl | rfl <;> exact ⟨by decide, by decide, by decide⟩
theorem sep_cases {c : UInt8} (h : c.toNat ≤ 32 ∨ c = 44 ∨ c = 58) : c.toNat ≤ 32 ∨ (32 < c.toNat ∧ c = 44) ∨ (32 < c.toNat ∧ c = 58) := by
  rcases h with h | h | h
  · exact .inl h
  · exact .inr (.inl ⟨by rw [h]; decide, h⟩)
  · exact .inr (.inr ⟨by rw [h]; decide, h⟩)
theorem Rest.look {u1 : Str} {ts : List (Str × Nat)} (h : Rest u1 ts) (h0 : u1 ≠ []) :
    (∃ c u', u1 = c :: u' ∧ c.toNat ≤ 32 ∧ Rest u' ts ∧ u' ≠ []) ∨ (∃ c u', u1 = c :: u' ∧ (32 < c.toNat ∧ c = 44) ∧ Rest u' ts ∧ u' ≠ []) ∨ (∃ c u', u1 = c :: u' ∧ (32 < c.toNat ∧ c = 58) ∧ Rest u' ts ∧ u' ≠ []) ∨
    (u1 = [93] ∧ ts = []) ∨ (∃ c t' k ts' d u', u1 = (c :: t') ++ d :: u' ∧ NoSep c ∧ Form (c :: t') k ∧ numEnd d ∧ Rest u' ts' ∧ ts = (c :: t', k) :: ts') := by
  have go : (∃ c u', u1 = c :: u' ∧ (c.toNat ≤ 32 ∨ c = 44 ∨ c = 58) ∧ Rest u' ts ∧ u' ≠ []) →
    ((∃ c u', u1 = c :: u' ∧ c.toNat ≤ 32 ∧ Rest u' ts ∧ u' ≠ []) ∨ (∃ c u', u1 = c :: u' ∧ (32 < c.toNat ∧ c = 44) ∧ Rest u' ts ∧ u' ≠ []) ∨ (∃ c u', u1 = c :: u' ∧ (32 < c.toNat ∧ c = 58) ∧ Rest u' ts ∧ u' ≠ []) ∨
    (u1 = [93] ∧ ts = []) ∨ (∃ c t' k ts' d u', u1 = (c :: t') ++ d :: u' ∧ NoSep c ∧ Form (c :: t') k ∧ numEnd d ∧ Rest u' ts' ∧ ts = (c :: t', k) :: ts')) := by
    rintro ⟨c, u', e, hc, hr, hn⟩
    rcases sep_cases hc with hc | hc | hc
    · exact .inl ⟨c, u', e, hc, hr, hn⟩
    · exact .inr (.inl ⟨c, u', e, hc, hr, hn⟩)
    · exact .inr (.inr (.inl ⟨c, u', e, hc, hr, hn⟩))
  cases h with
  | done0 => exact absurd rfl h0
  | @done w hw =>
    cases w with
    | nil => exact .inr (.inr (.inr (.inl ⟨rfl, rfl⟩)))
    | cons c w => exact go ⟨c, w ++ [93], rfl, hw c (by simp), .done (fun x hx => hw x (by simp [hx])), by simp⟩
  | @more w t u k c ts' hw ht hc hu =>
    cases w with
    | nil =>
      obtain ⟨c0, t', rfl, hn⟩ := form_first ht
      exact .inr (.inr (.inr (.inr ⟨c0, t', k, ts', c, u, by simp, hn, ht, hc, hu, rfl⟩)))
    | cons c0 w => exact go ⟨c0, w ++ t ++ c :: u, by simp, hw c0 (by simp), .more (fun x hx => hw x (by simp [hx])) ht hc hu, by simp⟩
end Js
set_option linter.unusedVariables false
namespace Js
structure Mb where
  key : Str
  val : Str
  kind : Nat
inductive RestM : Str → List Mb → Prop where
  | done {w : Str} (hw : ∀ c ∈ w, c ≠ 34) : RestM w []
  | more {w i w2 t u : Str} {k : Nat} {c : UInt8} {ts : List Mb} (hw : ∀ c ∈ w, c ≠ 34) (hi : Ins i) (h2 : Sep w2) (ht : Form t k) (hc : numEnd c) (hu : RestM u ts) :
      RestM (w ++ (34 :: i ++ [34]) ++ w2 ++ t ++ c :: u) (⟨i, t, k⟩ :: ts)
theorem RestM.lead {u w : Str} {ts : List Mb} (h : RestM u ts) (hw : ∀ c ∈ w, c ≠ 34) : RestM (w ++ u) ts := by
  have hs : ∀ {w' : Str}, (∀ c ∈ w', c ≠ 34) → ∀ c ∈ w ++ w', c ≠ 34 := fun h2 c hc => by
    rcases List.mem_append.1 hc with hc | hc
    · exact hw c hc
    · exact h2 c hc
  cases h with
  | done hw' => exact .done (hs hw')
  | @more w' i w2 t u k c ts hw' hi h2 ht hc hu =>
    rw [show w ++ (w' ++ (34 :: i ++ [34]) ++ w2 ++ t ++ c :: u) = (w ++ w') ++ (34 :: i ++ [34]) ++ w2 ++ t ++ c :: u by simp]
    exact .more (hs hw') hi h2 ht hc hu
theorem RestM.look {u : Str} {ts : List Mb} (h : RestM u ts) (h0 : u ≠ []) :
    (∃ c u', u = c :: u' ∧ c ≠ 34 ∧ RestM u' ts) ∨ (∃ i w2 t k d u' ts', u = (34 :: i ++ [34]) ++ (w2 ++ t ++ d :: u') ∧ Ins i ∧ Sep w2 ∧ Form t k ∧ numEnd d ∧ RestM u' ts' ∧ ts = ⟨i, t, k⟩ :: ts') := by
  cases h with
  | done hw =>
    cases u with
    | nil => exact absurd rfl h0
    | cons c w => exact .inl ⟨c, w, rfl, hw c (by simp), .done (fun x hx => hw x (by simp [hx]))⟩
  | @more w i w2 t u k c ts' hw hi h2 ht hc hu =>
    cases w with
    | nil => exact .inr ⟨i, w2, t, k, c, u, ts', by simp, hi, h2, ht, hc, hu, rfl⟩
    | cons c0 w => exact .inl ⟨c0, w ++ (34 :: i ++ [34]) ++ w2 ++ t ++ c :: u, by simp, hw c0 (by simp), .more (fun x hx => hw x (by simp [hx])) hi h2 ht hc hu⟩
theorem RestM.nil {ts : List Mb} (h : RestM [] ts) : ts = [] := by
  generalize hu : ([] : Str) = u at h
  cases h with
  | done _ => rfl
  | more _ _ _ _ _ _ => simp at hu
theorem RestM.len {u : Str} {ts : List Mb} (h : RestM u ts) : ts.length ≤ u.length := by
  induction h with
  | done _ => simp
  | more _ _ _ _ _ _ ih => simp; omega
theorem sep_skip {w t r : Str} (hw : Sep w) {c : UInt8} {t' : Str} (ht : t = c :: t') (hn : NoSep c) {u : Str} (h : u = w ++ t ++ r) :
    (∃ d w', w = d :: w' ∧ d.toNat ≤ 32 ∧ u = d :: (w' ++ t ++ r) ∧ Sep w') ∨ (∃ d w', w = d :: w' ∧ (32 < d.toNat ∧ d = 44) ∧ u = d :: (w' ++ t ++ r) ∧ Sep w') ∨ (∃ d w', w = d :: w' ∧ (32 < d.toNat ∧ d = 58) ∧ u = d :: (w' ++ t ++ r) ∧ Sep w') ∨
    (w = [] ∧ u = c :: (t' ++ r)) := by
  cases w with
  | nil => exact .inr (.inr (.inr ⟨rfl, by rw [h, ht]; rfl⟩))
  | cons d w' =>
    have hs : Sep w' := fun x hx => hw x (by simp [hx])
    have e : u = d :: (w' ++ t ++ r) := by rw [h]; rfl
    rcases sep_cases (hw d (by simp)) with hd | hd | hd
    · exact .inl ⟨d, w', rfl, hd, e, hs⟩
    · exact .inr (.inl ⟨d, w', rfl, hd, e, hs⟩)
    · exact .inr (.inr (.inl ⟨d, w', rfl, hd, e, hs⟩))
theorem bl_ne {w : Str} (h : Bl w) : ∀ c ∈ w, c ≠ 34 := fun c hc e => by
  have := h c hc
  subst e
  exact absurd this (by decide)
theorem restM_of {t : Str} {it : It} (h : Shows t it) : ∀ (ks : List Str) (l : List Nd), it = .m ks l → ∃ ts : List Mb, ts.length = l.length ∧ ks.length = l.length ∧
    (∀ (j : Nat) (x : Mb) (q : Str) (n : Nd), ts[j]? = some x → ks[j]? = some q → l[j]? = some n → Ins x.key ∧ q = unq x.key ∧ Shows x.val (.v n) ∧ x.kind = n.kind) ∧ RestM (t ++ [125]) ts ∧ (∀ r, paired (t ++ r) = true → ∀ x ∈ ts, Prd x.key) := by
  induction h with
  | @m1 w1 i w2 w3 t w4 n h1 hi h2 h3 h h4 ih =>
    rintro ks l ⟨⟩
    refine ⟨[⟨i, t, n.kind⟩], rfl, rfl, ?_, ?_, fun r hp x hx => ?_⟩
    rotate_left 2
    · rw [List.mem_singleton.1 hx]
      rw [show w1 ++ (34 :: i ++ [34]) ++ w2 ++ 58 :: w3 ++ t ++ w4 ++ r = w1 ++ ((34 :: i ++ [34]) ++ (w2 ++ 58 :: (w3 ++ (t ++ (w4 ++ r))))) by simp, bl_pass h1] at hp
      exact (str_paired hi hp).1
    · intro j x q m hx hq hm
      cases j with
      | zero => simp at hx hq hm; subst hx; subst hq; subst hm; exact ⟨hi, rfl, h, rfl⟩
      | succ j => simp at hx
    · have hs : Sep (w2 ++ 58 :: w3) := fun c hc => by
        rcases List.mem_append.1 hc with hc | hc
        · exact bl_sep h2 c hc
        · rcases List.mem_cons.1 hc with rfl | hc
          · exact .inr (.inr rfl)
          · exact bl_sep h3 c hc
      cases w4 with
      | nil =>
        rw [show w1 ++ (34 :: i ++ [34]) ++ w2 ++ 58 :: w3 ++ t ++ [] ++ [125] = w1 ++ (34 :: i ++ [34]) ++ (w2 ++ 58 :: w3) ++ t ++ 125 :: [] by simp]
        exact .more (bl_ne h1) hi hs (shows_form' h) (.inr (.inr (.inr rfl))) (.done (by simp))
      | cons c w4 =>
        rw [show w1 ++ (34 :: i ++ [34]) ++ w2 ++ 58 :: w3 ++ t ++ c :: w4 ++ [125] = w1 ++ (34 :: i ++ [34]) ++ (w2 ++ 58 :: w3) ++ t ++ c :: (w4 ++ [125]) by simp]
        refine .more (bl_ne h1) hi hs (shows_form' h) (bl_end (h4 c (by simp))) (.done ?_)
        intro x hx
        rcases List.mem_append.1 hx with hx | hx
        · exact bl_ne (fun y hy => h4 y (by simp [hy])) x hx
        · rw [List.mem_singleton.1 hx]; decide
  | @m2 w1 i w2 w3 t w4 r n ks' l' h1 hi h2 h3 h h4 hr ih ih2 =>
    rintro ks l ⟨⟩
    obtain ⟨ts, hl, hk, hsh, hre, hpr⟩ := ih2 ks' l' rfl
    refine ⟨⟨i, t, n.kind⟩ :: ts, by simp [hl], by simp [hk], ?_, ?_, fun r' hp x hx => ?_⟩
    rotate_left 2
    · rw [show w1 ++ (34 :: i ++ [34]) ++ w2 ++ 58 :: w3 ++ t ++ w4 ++ 44 :: r ++ r' = w1 ++ ((34 :: i ++ [34]) ++ (w2 ++ 58 :: (w3 ++ (t ++ (w4 ++ 44 :: (r ++ r')))))) by simp, bl_pass h1] at hp
      have h5 := str_paired hi hp
      rcases List.mem_cons.1 hx with rfl | hx
      · exact h5.1
      · have h6 := h5.2
        rw [bl_pass h2, paired_cons _ (by decide), bl_pass h3] at h6
        have h7 := h.pass _ h6
        rw [bl_pass h4, paired_cons _ (by decide)] at h7
        exact hpr _ h7 x hx
    · intro j x q m hx hq hm
      cases j with
      | zero => simp at hx hq hm; subst hx; subst hq; subst hm; exact ⟨hi, rfl, h, rfl⟩
      | succ j => simp at hx hq hm; exact hsh j x q m hx hq hm
    · have hs : Sep (w2 ++ 58 :: w3) := fun c hc => by
        rcases List.mem_append.1 hc with hc | hc
        · exact bl_sep h2 c hc
        · rcases List.mem_cons.1 hc with rfl | hc
          · exact .inr (.inr rfl)
          · exact bl_sep h3 c hc
      cases w4 with
      | nil =>
        rw [show w1 ++ (34 :: i ++ [34]) ++ w2 ++ 58 :: w3 ++ t ++ [] ++ 44 :: r ++ [125] = w1 ++ (34 :: i ++ [34]) ++ (w2 ++ 58 :: w3) ++ t ++ 44 :: (r ++ [125]) by simp]
        exact .more (bl_ne h1) hi hs (shows_form' h) (.inr (.inl rfl)) hre
      | cons c w4 =>
        rw [show w1 ++ (34 :: i ++ [34]) ++ w2 ++ 58 :: w3 ++ t ++ c :: w4 ++ 44 :: r ++ [125] = w1 ++ (34 :: i ++ [34]) ++ (w2 ++ 58 :: w3) ++ t ++ c :: ((w4 ++ [44]) ++ (r ++ [125])) by simp]
        refine .more (bl_ne h1) hi hs (shows_form' h) (bl_end (h4 c (by simp))) (hre.lead ?_)
        intro x hx
        rcases List.mem_append.1 hx with hx | hx
        · exact bl_ne (fun y hy => h4 y (by simp [hy])) x hx
        · rw [List.mem_singleton.1 hx]; decide
  | _ => intro ks l hl; cases hl
end Js
