/- Part 12 of the proof of FnGjJoinKeys: the statement Rows.FnGjJoinKeysCardSaid; no further condition. -/
import Derived.Test.YtelonenjneonlaaGreatDoorK11
set_option linter.all false
namespace Go.Sx
open Go.RowKit Go.Proofs Js Go.Proofs.YtelonenjneonlaaGreatDoorW.PrintWords
theorem paired_walk (s : Str) (hl : s.length ≤ 2 ^ 40) (w0 : World) :
    Calls Tryz.prog 67 #[.string (mkS s)] w0 (Ret fun v w' => v = .bool (paired s) ∧ Below w0.heap.size w0 w') := by
 have hM : Mem w0.heap.size w0 [] w0 := Mem.start (Nat.le_refl _)
 refine enter (l := [.string (mkS s)]) 52 Tryz.func67 rfl rfl (fun a hF => ?_)
 replace hF : Fr 53 [(0, .string (mkS s))] a := hF
 revert a; refine Sq (Rg (Md 1 [0] rfl (Nx (Sq (Sq (Rg (Md 1 [0,3] rfl (Nx (Bo (Kp [0,3] rfl ?_)))))))))); intro a hF
 refine loopX (fun (i : Nat) a w => Fr 53 [(0, .string (mkS s)), (3, .int .i64 (i : Int))] a ∧ Mem w0.heap.size w0 [] w ∧ paired (s.drop i) = paired s) (fun i => s.length - i) (0) ?_ (fun i a w hI => ?_)
 · exact ⟨hF, hM, rfl⟩
 clear hF hM
 obtain ⟨hF, hM, hp⟩ := hI
 revert a; refine Sq (Sq (Rg (Md 4 [0,3,11] rfl (Nx (Ce rfl (fun ht => ?_) ((fun ht => ?_)))))))
 ·
  have hi : s.length ≤ i := by have := of_decide_eq_false ht; omega
  rw [List.drop_of_length_le hi, paired_nil] at hp
  exact Ex (Ot (Ot (Ob (Nx (Sq (Rg (Md 1 [2] rfl (Nx (Re (Y1 rfl rfl ⟨_, rfl, by rw [← hp], hM.below⟩))))))))))
 have hi : i < s.length := by have := of_decide_eq_true ht; omega
 obtain ⟨c, r, hD⟩ : ∃ c r, s.drop i = c :: r := by cases h : s.drop i with | nil => (have := congrArg List.length h; rw [List.length_drop, List.length_nil] at this; omega) | cons c r => exact ⟨c, r, rfl⟩
 have hg := drop_get hD 0
 refine Sk (Nx (Bo (Sq (Sq ?_))))
 rcases Classical.em (c = 92) with hc | hc
 ·
  rcases hu : unit (s.drop i) with _ | n
  ·
   obtain rfl : c = 92 := hc
   rw [hD] at hu
   have e1 : paired (s.drop i) = paired (r.drop 1) := by rw [hD]; exact paired_esc hu
   rw [← hD] at hu
   refine Rg (Mv 2 rfl ?_); intro a hF
   refine op_index_str hF rfl (i) 92 rfl rfl rfl Tryz.underlying9 rfl rfl (by first | rfl | omega) hg ?_; clear hF a; intro a hF
   revert a; refine Md 1 [0,3,15] rfl (Nx (Cf rfl (Sk (Nx (Sq (Rg (Mv 2 rfl (Cm hM rfl Tryz.func75 (by kernel_rfl) rfl (unit_walk s i (by omega) (by omega) _) ?_))))))))
   clear hM; intro w v hR hM hBe
   rw [hu] at hR
   try simp only [Option.getD_some, Option.isSome_some] at hR
   obtain rfl := hR
   refine Md 5 [0,3,4,5] rfl (Nx (Bo (Sq (Rg (Md 3 [0,3,4,26] rfl (Nx (Ct rfl (Rg (Mv 1 rfl (Sm (((i + 2 : Nat) : Int)) rfl (by omega) (Md 1 [0,3] rfl (Nb (Nb (Kp [0,3] rfl ?_)))))))))))))); intro a hF
   exact ⟨i + 2, ⟨hF, hM, by rw [← hp, e1, show s.drop (i + 2) = (s.drop i).drop 2 by rw [List.drop_drop], hD]; rfl⟩, by omega⟩
  rcases hh : high n with _ | _
  ·
   rcases hlo : low n with _ | _
   ·
    obtain rfl : c = 92 := hc
    rw [hD] at hu
    have e1 : paired (s.drop i) = paired (r.drop 5) := by rw [hD]; exact paired_uni hu hh hlo
    rw [← hD] at hu
    have hnl := unit_lt hu
    refine Rg (Mv 2 rfl ?_); intro a hF
    refine op_index_str hF rfl (i) 92 rfl rfl rfl Tryz.underlying9 rfl rfl (by first | rfl | omega) hg ?_; clear hF a; intro a hF
    revert a; refine Md 1 [0,3,15] rfl (Nx (Cf rfl (Sk (Nx (Sq (Rg (Mv 2 rfl (Cm hM rfl Tryz.func75 (by kernel_rfl) rfl (unit_walk s i (by omega) (by omega) _) ?_))))))))
    clear hM; intro w v hR hM hBe
    rw [hu] at hR
    try simp only [Option.getD_some, Option.isSome_some] at hR
    obtain rfl := hR
    refine Md 5 [0,3,4,5] rfl (Nx (Bo (Sq (Rg (Md 3 [0,3,4,26] rfl (Nx (Cf rfl (Sq (Rg (Mv 1 rfl (Cm hM rfl Tryz.func77 (by kernel_rfl) rfl (high_walk n _) ?_)))))))))))
    clear hM; intro w v hR hM hBe
    rw [hh] at hR
    try simp only [Option.getD_some, Option.isSome_some] at hR
    obtain rfl := hR
    refine Md 1 [0,3,4,31] rfl (Nx (Cf rfl (Sq (Rg (Mv 1 rfl (Cm hM rfl Tryz.func78 (by kernel_rfl) rfl (low_walk n _) ?_))))))
    clear hM; intro w v hR hM hBe
    rw [hlo] at hR
    try simp only [Option.getD_some, Option.isSome_some] at hR
    obtain rfl := hR
    refine Md 1 [0,3,50] rfl (Nx (Cf rfl (Rg (Mv 1 rfl (Sm (((i + 6 : Nat) : Int)) rfl (by omega) (Md 1 [0,3] rfl (Nb (Nb (Kp [0,3] rfl ?_))))))))); intro a hF
    exact ⟨i + 6, ⟨hF, hM, by rw [← hp, e1, show s.drop (i + 6) = (s.drop i).drop 6 by rw [List.drop_drop], hD]; rfl⟩, by omega⟩
   obtain rfl : c = 92 := hc
   rw [hD] at hu
   have e1 : paired (92 :: r) = false := paired_low hu hh hlo
   rw [← hD] at hu
   have hnl := unit_lt hu
   refine Rg (Mv 2 rfl ?_); intro a hF
   refine op_index_str hF rfl (i) 92 rfl rfl rfl Tryz.underlying9 rfl rfl (by first | rfl | omega) hg ?_; clear hF a; intro a hF
   revert a; refine Md 1 [0,3,15] rfl (Nx (Cf rfl (Sk (Nx (Sq (Rg (Mv 2 rfl (Cm hM rfl Tryz.func75 (by kernel_rfl) rfl (unit_walk s i (by omega) (by omega) _) ?_))))))))
   clear hM; intro w v hR hM hBe
   rw [hu] at hR
   try simp only [Option.getD_some, Option.isSome_some] at hR
   obtain rfl := hR
   refine Md 5 [0,3,4,5] rfl (Nx (Bo (Sq (Rg (Md 3 [0,3,4,26] rfl (Nx (Cf rfl (Sq (Rg (Mv 1 rfl (Cm hM rfl Tryz.func77 (by kernel_rfl) rfl (high_walk n _) ?_)))))))))))
   clear hM; intro w v hR hM hBe
   rw [hh] at hR
   try simp only [Option.getD_some, Option.isSome_some] at hR
   obtain rfl := hR
   refine Md 1 [0,3,4,31] rfl (Nx (Cf rfl (Sq (Rg (Mv 1 rfl (Cm hM rfl Tryz.func78 (by kernel_rfl) rfl (low_walk n _) ?_))))))
   clear hM; intro w v hR hM hBe
   rw [hlo] at hR
   try simp only [Option.getD_some, Option.isSome_some] at hR
   obtain rfl := hR
   exact Md 1 [0,3,50] rfl (Nx (Ct rfl (Sq (Rg (Md 1 [2] rfl (Nx (Re (Rb (Rb (Rt (Rb (Rt (Y1 rfl rfl ⟨_, rfl, by rw [← hp, hD, e1], hM.below⟩)))))))))))))
  rcases hm : unit (r.drop 5) with _ | m
  ·
   obtain rfl : c = 92 := hc
   have h6 : s.drop (i + 6) = r.drop 5 := by rw [show s.drop (i + 6) = (s.drop i).drop 6 by rw [List.drop_drop], hD]; rfl
   rw [hD] at hu
   have e1 : paired (92 :: r) = false := paired_high hu hh (fun m h => by rw [hm] at h; cases h)
   rw [← hD] at hu
   have hnl := unit_lt hu
   refine Rg (Mv 2 rfl ?_); intro a hF
   refine op_index_str hF rfl (i) 92 rfl rfl rfl Tryz.underlying9 rfl rfl (by first | rfl | omega) hg ?_; clear hF a; intro a hF
   revert a; refine Md 1 [0,3,15] rfl (Nx (Cf rfl (Sk (Nx (Sq (Rg (Mv 2 rfl (Cm hM rfl Tryz.func75 (by kernel_rfl) rfl (unit_walk s i (by omega) (by omega) _) ?_))))))))
   clear hM; intro w v hR hM hBe
   rw [hu] at hR
   try simp only [Option.getD_some, Option.isSome_some] at hR
   obtain rfl := hR
   refine Md 5 [0,3,4,5] rfl (Nx (Bo (Sq (Rg (Md 3 [0,3,4,26] rfl (Nx (Cf rfl (Sq (Rg (Mv 1 rfl (Cm hM rfl Tryz.func77 (by kernel_rfl) rfl (high_walk n _) ?_)))))))))))
   clear hM; intro w v hR hM hBe
   rw [hh] at hR
   try simp only [Option.getD_some, Option.isSome_some] at hR
   obtain rfl := hR
   refine Md 1 [0,3,4,31] rfl (Nx (Ct rfl (Sq (Rg (Mv 2 rfl (Sm (((i + 6 : Nat) : Int)) rfl (by omega) (Cm hM rfl Tryz.func75 (by kernel_rfl) rfl (unit_walk s (i + 6) (by omega) (by omega) _) ?_)))))))
   clear hM; intro w v hR hM hBe
   rw [h6, hm] at hR
   try simp only [Option.getD_some, Option.isSome_some] at hR
   obtain rfl := hR
   exact Md 5 [0,3,6,7] rfl (Nx (Sq (Sq (Rg (Md 7 [0,3,47] rfl (Nx (Ct rfl (Sq (Rg (Md 1 [2] rfl (Nx (Re (Rt (Rb (Rb (Rt (Rb (Rt (Y1 rfl rfl ⟨_, rfl, by rw [← hp, hD, e1], hM.below⟩)))))))))))))))))))
  rcases hlo : low m with _ | _
  ·
   obtain rfl : c = 92 := hc
   have h6 : s.drop (i + 6) = r.drop 5 := by rw [show s.drop (i + 6) = (s.drop i).drop 6 by rw [List.drop_drop], hD]; rfl
   rw [hD] at hu
   have e1 : paired (92 :: r) = false := paired_high hu hh (fun m' h => by rw [hm] at h; cases h; exact hlo)
   rw [← hD] at hu
   have hnl := unit_lt hu
   have hml := unit_lt hm
   refine Rg (Mv 2 rfl ?_); intro a hF
   refine op_index_str hF rfl (i) 92 rfl rfl rfl Tryz.underlying9 rfl rfl (by first | rfl | omega) hg ?_; clear hF a; intro a hF
   revert a; refine Md 1 [0,3,15] rfl (Nx (Cf rfl (Sk (Nx (Sq (Rg (Mv 2 rfl (Cm hM rfl Tryz.func75 (by kernel_rfl) rfl (unit_walk s i (by omega) (by omega) _) ?_))))))))
   clear hM; intro w v hR hM hBe
   rw [hu] at hR
   try simp only [Option.getD_some, Option.isSome_some] at hR
   obtain rfl := hR
   refine Md 5 [0,3,4,5] rfl (Nx (Bo (Sq (Rg (Md 3 [0,3,4,26] rfl (Nx (Cf rfl (Sq (Rg (Mv 1 rfl (Cm hM rfl Tryz.func77 (by kernel_rfl) rfl (high_walk n _) ?_)))))))))))
   clear hM; intro w v hR hM hBe
   rw [hh] at hR
   try simp only [Option.getD_some, Option.isSome_some] at hR
   obtain rfl := hR
   refine Md 1 [0,3,4,31] rfl (Nx (Ct rfl (Sq (Rg (Mv 2 rfl (Sm (((i + 6 : Nat) : Int)) rfl (by omega) (Cm hM rfl Tryz.func75 (by kernel_rfl) rfl (unit_walk s (i + 6) (by omega) (by omega) _) ?_)))))))
   clear hM; intro w v hR hM hBe
   rw [h6, hm] at hR
   try simp only [Option.getD_some, Option.isSome_some] at hR
   obtain rfl := hR
   refine Md 5 [0,3,6,7] rfl (Nx (Sq (Sq (Rg (Mv 4 rfl (Cm hM rfl Tryz.func78 (by kernel_rfl) rfl (low_walk m _) ?_))))))
   clear hM; intro w v hR hM hBe
   rw [hlo] at hR
   try simp only [Option.getD_some, Option.isSome_some] at hR
   obtain rfl := hR
   exact Md 2 [0,3,47] rfl (Nx (Ct rfl (Sq (Rg (Md 1 [2] rfl (Nx (Re (Rt (Rb (Rb (Rt (Rb (Rt (Y1 rfl rfl ⟨_, rfl, by rw [← hp, hD, e1], hM.below⟩))))))))))))))
  obtain rfl : c = 92 := hc
  have h6 : s.drop (i + 6) = r.drop 5 := by rw [show s.drop (i + 6) = (s.drop i).drop 6 by rw [List.drop_drop], hD]; rfl
  rw [hD] at hu
  have e1 : paired (s.drop i) = paired (r.drop 11) := by rw [hD]; exact paired_pair hu hh hm hlo
  rw [← hD] at hu
  have hnl := unit_lt hu
  have hml := unit_lt hm
  refine Rg (Mv 2 rfl ?_); intro a hF
  refine op_index_str hF rfl (i) 92 rfl rfl rfl Tryz.underlying9 rfl rfl (by first | rfl | omega) hg ?_; clear hF a; intro a hF
  revert a; refine Md 1 [0,3,15] rfl (Nx (Cf rfl (Sk (Nx (Sq (Rg (Mv 2 rfl (Cm hM rfl Tryz.func75 (by kernel_rfl) rfl (unit_walk s i (by omega) (by omega) _) ?_))))))))
  clear hM; intro w v hR hM hBe
  rw [hu] at hR
  try simp only [Option.getD_some, Option.isSome_some] at hR
  obtain rfl := hR
  refine Md 5 [0,3,4,5] rfl (Nx (Bo (Sq (Rg (Md 3 [0,3,4,26] rfl (Nx (Cf rfl (Sq (Rg (Mv 1 rfl (Cm hM rfl Tryz.func77 (by kernel_rfl) rfl (high_walk n _) ?_)))))))))))
  clear hM; intro w v hR hM hBe
  rw [hh] at hR
  try simp only [Option.getD_some, Option.isSome_some] at hR
  obtain rfl := hR
  refine Md 1 [0,3,4,31] rfl (Nx (Ct rfl (Sq (Rg (Mv 2 rfl (Sm (((i + 6 : Nat) : Int)) rfl (by omega) (Cm hM rfl Tryz.func75 (by kernel_rfl) rfl (unit_walk s (i + 6) (by omega) (by omega) _) ?_)))))))
  clear hM; intro w v hR hM hBe
  rw [h6, hm] at hR
  try simp only [Option.getD_some, Option.isSome_some] at hR
  obtain rfl := hR
  refine Md 5 [0,3,6,7] rfl (Nx (Sq (Sq (Rg (Mv 4 rfl (Cm hM rfl Tryz.func78 (by kernel_rfl) rfl (low_walk m _) ?_))))))
  clear hM; intro w v hR hM hBe
  rw [hlo] at hR
  try simp only [Option.getD_some, Option.isSome_some] at hR
  obtain rfl := hR
  refine Md 2 [0,3,47] rfl (Nx (Cf rfl (Sk (Nx (Rg (Mv 1 rfl (Sm (((i + 12 : Nat) : Int)) rfl (by omega) (Md 1 [0,3] rfl (Nb (Nb (Kp [0,3] rfl ?_))))))))))); intro a hF
  exact ⟨i + 12, ⟨hF, hM, by rw [← hp, e1, show s.drop (i + 12) = (s.drop i).drop 12 by rw [List.drop_drop], hD]; rfl⟩, by omega⟩
 have e1 : paired (s.drop i) = paired r := by rw [hD]; exact paired_cons r hc
 refine Rg (Mv 2 rfl ?_); intro a hF
 refine op_index_str hF rfl (i) c rfl rfl rfl Tryz.underlying9 rfl rfl (by first | rfl | omega) hg ?_; clear hF a; intro a hF
 revert a; refine Mv 1 rfl ?_; intro a hF
 rw [bne_t (d := 92) (z := 92) rfl hc] at hF
 revert a; refine Md 0 [0,3,15] rfl (Nx (Ct rfl (Sq (Rg (Mv 1 rfl (Sm (((i + 1 : Nat) : Int)) rfl (by omega) (Md 1 [0,3] rfl (Nx (Ex (Ot (Ob (Kp [0,3] rfl ?_)))))))))))); intro a hF
 exact ⟨i + 1, ⟨hF, hM, by rw [← hp, e1, show s.drop (i + 1) = (s.drop i).drop 1 by rw [List.drop_drop], hD]; rfl⟩, by omega⟩
end Go.Sx
namespace Go.Sx
open Go.RowKit Go.Proofs Js Go.Proofs.YtelonenjneonlaaGreatDoorW.PrintWords
def GtOut (s : Str) (w0 : World) (v : Value) (w' : World) : Prop :=
  (∃ ns TB p, v = .tuple #[.agg ns.toArray, .bool true] ∧ s.length ≤ 65536 ∧ paired s = true ∧ pText s = some p ∧ RepNd TB (tree s p) ns ∧ Mem w0.heap.size w0 TB w') ∨
  (v = .tuple #[.agg [.int .i64 0, .string (mkS []), .slice none 0 0, .slice none 0 0].toArray, .bool false] ∧ Below w0.heap.size w0 w')
set_option maxRecDepth 100000 in
theorem gjText_walk {s : Str} (hT : s.length ≤ 2 ^ 40) (w0 : World) : Calls Tryz.prog 39 #[.string (mkS s)] w0 (Ret fun v w' => GtOut s w0 v w') := by
 have hM : Mem w0.heap.size w0 [] w0 := Mem.start (Nat.le_refl _)
 refine enter (l := [.string (mkS s)]) 21 Tryz.func39 rfl rfl (fun a hF => ?_)
 replace hF : Fr 22 [(0, .string (mkS s))] a := hF
 refine seq (region ?_)
 refine op_alloc hF hM rfl (vs := [.int .i64 0, .string (mkS []), .slice none 0 0, .slice none 0 0]) rfl rfl rfl (by kernel_rfl) ?_; clear hF hM a; intro a w b2 hF hM
 revert a; refine Md 1 [0,2] rfl (Nx (Sq (Sq ?_)))
 rcases Nat.lt_or_ge 65536 s.length with hl | hl
 ·
  refine Rg (Mv 2 rfl (Bv rfl rfl (decide_eq_true (show (s.length : Int) > 65536 by omega)) (Md 10 [0,2,16] rfl (Nx (Ct rfl (Sq (Rg (Gv rfl (fun _ hF => gives_build (parts := []) (vals := []) (cells := [.int .i64 0, .string (mkS []), .slice none 0 0, .slice none 0 0]) hF rfl rfl (by kernel_rfl) _) ?_)))))))); intro a hF
  refine op_storeA hF hM rfl 0 rfl rfl (by kernel_rfl) rfl rfl rfl rfl (rfl) ?_; clear hF hM a; intro a w  hF hM
  revert a; refine Md 1 [2,3] rfl (Nx (Re (Rt ?_))); intro a hF
  refine retMany (vs := [_, _]) hF hM rfl rfl (.cell 0 rfl rfl Tryz.underlying40 rfl (by kernel_rfl) (.tmp rfl .nil)) ⟨_, rfl, .inr ⟨rfl, hM.below⟩⟩
 refine Rg (Mv 2 rfl (Bv rfl rfl (decide_eq_false (show ¬ ((s.length : Int) > 65536) by omega)) (Mv 2 rfl (Cm hM rfl Tryz.func66 (by kernel_rfl) rfl (utf8_walk s (by omega) _) ?_))))
 clear hM; intro w v hR hM hBe
 obtain ⟨b, rfl⟩ := hR
 rcases b with _ | _
 ·
  refine Md 7 [0,2,16] rfl (Nx (Ct rfl (Sq (Rg (Gv rfl (fun _ hF => gives_build (parts := []) (vals := []) (cells := [.int .i64 0, .string (mkS []), .slice none 0 0, .slice none 0 0]) hF rfl rfl (by kernel_rfl) _) ?_))))); intro a hF
  refine op_storeA hF hM rfl 0 rfl rfl (by kernel_rfl) rfl rfl rfl rfl (rfl) ?_; clear hF hM a; intro a w  hF hM
  revert a; refine Md 1 [2,3] rfl (Nx (Re (Rt ?_))); intro a hF
  refine retMany (vs := [_, _]) hF hM rfl rfl (.cell 0 rfl rfl Tryz.underlying40 rfl (by kernel_rfl) (.tmp rfl .nil)) ⟨_, rfl, .inr ⟨rfl, hM.below⟩⟩
 refine Mv 4 rfl (Cm hM rfl Tryz.func67 (by kernel_rfl) rfl (paired_walk s (by omega) _) ?_)
 clear hM; intro w v hR hM hBe
 obtain rfl := hR
 rcases hpd : paired s with _ | _
 ·
  refine Md 2 [0,2,16] rfl (Nx (Ct rfl (Sq (Rg (Gv rfl (fun _ hF => gives_build (parts := []) (vals := []) (cells := [.int .i64 0, .string (mkS []), .slice none 0 0, .slice none 0 0]) hF rfl rfl (by kernel_rfl) _) ?_))))); intro a hF
  refine op_storeA hF hM rfl 0 rfl rfl (by kernel_rfl) rfl rfl rfl rfl (rfl) ?_; clear hF hM a; intro a w  hF hM
  revert a; refine Md 1 [2,3] rfl (Nx (Re (Rt ?_))); intro a hF
  refine retMany (vs := [_, _]) hF hM rfl rfl (.cell 0 rfl rfl Tryz.underlying40 rfl (by kernel_rfl) (.tmp rfl .nil)) ⟨_, rfl, .inr ⟨rfl, hM.below⟩⟩
 refine Md 2 [0,2,16] rfl (Nx (Cf rfl (Sk (Nx (Sq ?_)))))
 rcases hp : pText s with _ | p
 ·
  refine Rg (Mv 1 rfl (Cl rfl Tryz.func42 (by kernel_rfl) rfl (read_walk (T := s) (by omega) w) ?_))
  intro w2 v hR
  rw [hp] at hR
  obtain ⟨rfl, hBe⟩ := hR
  replace hM := hM.step hBe
  clear hBe
  refine Mv 2 rfl ?_; intro a hF
  refine op_storeA hF hM rfl 0 rfl rfl (by kernel_rfl) rfl rfl rfl rfl (rfl) ?_; clear hF hM a; intro a w  hF hM
  revert a; refine Md 1 [2,3] rfl (Nx (Re ?_)); intro a hF
  refine retMany (vs := [_, _]) hF hM rfl rfl (.cell 0 rfl rfl Tryz.underlying40 rfl (by kernel_rfl) (.tmp rfl .nil)) ⟨_, rfl, .inr ⟨rfl, hM.below⟩⟩
 refine Rg (Mv 1 rfl (Cl rfl Tryz.func42 (by kernel_rfl) rfl (read_walk (T := s) (by omega) w) ?_))
 intro w2 v hR
 rw [hp] at hR
 obtain ⟨d2, TB, rfl, hrn, hM2⟩ := hR
 replace hM := (hM.join hM2).perm (L' := (b2, 40, [.int .i64 0, .string (mkS []), .slice none 0 0, .slice none 0 0]) :: TB) (pc fun x => by simp [ct, ct_append] <;> omega)
 clear hM2
 have hcl2 := hrn.len
 obtain ⟨j1, jt, p1, m1, e1, p2, m2, e2, rfl⟩ := hrn.shape
 refine Mv 2 rfl ?_; intro a hF
 refine op_storeA hF hM rfl 0 rfl rfl (by kernel_rfl) rfl rfl rfl rfl (rfl) ?_; clear hF hM a; intro a w  hF hM
 revert a; refine Md 1 [2,3] rfl (Nx (Re ?_)); intro a hF
 refine retMany (vs := [_, _]) hF hM rfl rfl (.cell 0 rfl rfl Tryz.underlying40 rfl (by kernel_rfl) (.tmp rfl .nil)) ⟨_, rfl, .inl ⟨_, TB, p, rfl, hl, hpd, hp, hrn, hM.sub [(b2, 40, [.int .i64 j1, .string (mkS jt), .slice p1 m1 e1, .slice p2 m2 e2])] (pc fun x => by simp [ct, ct_append] <;> omega)⟩⟩
end Go.Sx
namespace Go.Sx
open Go.RowKit Go.Proofs Js Go.Proofs.YtelonenjneonlaaGreatDoorW.PrintWords
def SAME (n : Nd) : Prop := ∀ {B : Nat} {wc w0 : World} {L : List Bk} {ca cb : List Value}, RepNd L n ca → RepNd L n cb → Mem B wc L w0 →
  Calls Tryz.prog 43 #[.agg ca.toArray, .agg cb.toArray] w0 (Ret fun v w' => v = .bool true ∧ Mem B wc L w')
theorem keys_at {ks : List Str} {j : Nat} {s : Str} (h : ks[j]? = some s) : (ks.map fun s => Value.string (mkS s))[j]? = some (.string (mkS s)) := by rw [List.getElem?_map, h]; rfl
set_option maxRecDepth 100000 in
theorem same_step (k : Nat) (txt : Str) (ks : List Str) (kids : List Nd) (hrec : ∀ q ∈ kids, SAME q) : SAME (.mk k txt ks kids) := by
 intro B wc w0 L ca cb hA hB hM0
 have hM := hM0
 simp only [RepNd] at hA hB
 obtain ⟨sn, sk, xs, rfl, hsn, hsk, hkr⟩ := hA
 obtain ⟨sn', sk', xs', rfl, hsn', hsk', hkr'⟩ := hB
 obtain ⟨o1, c1, rfl⟩ := hsn.shape
 obtain ⟨o2, c2, rfl⟩ := hsk.shape
 obtain ⟨o3, c3, rfl⟩ := hsn'.shape
 obtain ⟨o4, c4, rfl⟩ := hsk'.shape
 refine enter (l := [.agg ([.int .i64 (k : Int), .string (mkS txt), .slice o1 ks.length c1, .slice o2 kids.length c2] : List Value).toArray, .agg ([.int .i64 (k : Int), .string (mkS txt), .slice o3 ks.length c3, .slice o4 kids.length c4] : List Value).toArray]) 72 Tryz.func43 rfl rfl (fun a hF => ?_)
 replace hF : Fr 74 [(0, .agg ([.int .i64 (k : Int), .string (mkS txt), .slice o1 ks.length c1, .slice o2 kids.length c2] : List Value).toArray), (1, .agg ([.int .i64 (k : Int), .string (mkS txt), .slice o3 ks.length c3, .slice o4 kids.length c4] : List Value).toArray)] a := hF
 refine seq (region ?_)
 refine op_box hF hM rfl rfl rfl rfl rfl rfl ?_; clear hF hM a; intro a w b2 hF hM
 refine op_box hF hM rfl rfl rfl rfl rfl rfl ?_; clear hF hM a; intro a w b3 hF hM
 revert a; refine Md 1 [2,3] rfl (Nx (Sq (Sq (Rg (Mv 1 rfl (Ld hM 1 rfl rfl (Mv 1 rfl (Ld hM 0 rfl rfl (Mv 1 rfl ?_))))))))); intro a hF
 rw [bne_self_eq_false] at hF
 revert a; refine Mv 2 rfl (Ld hM 1 rfl rfl (Mv 1 rfl (Ld hM 0 rfl rfl ?_))); intro a hF
 refine guard_yes hF rfl rfl rfl rfl rfl rfl ?_
 refine op_neqStr hF rfl rfl rfl rfl rfl rfl ?_; clear hF a; intro a hF
 rw [beq_self_eq_true, Bool.not_true] at hF
 revert a; refine Mv 3 rfl (Ld hM 1 rfl rfl (Mv 2 rfl (Ld hM 0 rfl rfl (Mv 2 rfl ?_)))); intro a hF
 rw [bne_self_eq_false] at hF
 revert a; refine Mv 3 rfl (Ld hM 1 rfl rfl (Mv 2 rfl (Ld hM 0 rfl rfl (Mv 2 rfl ?_)))); intro a hF
 rw [bne_self_eq_false] at hF
 revert a; refine Md 1 [2,3,36] rfl (Nx (Cf rfl (Sk (Nx (Sq (Sq (Rg (Md 1 [2,3,5] rfl (Nx (Bo (Kp [2,3,5] rfl ?_))))))))))); intro a hF
 refine loopX (fun (j : Nat) a w => Fr 74 [(2, .pointer (some ⟨b2, 0, none⟩)), (3, .pointer (some ⟨b3, 0, none⟩)), (5, .int .i64 (j : Int))] a ∧ Mem B wc ((b3, 40, [.int .i64 (k : Int), .string (mkS txt), .slice o3 ks.length c3, .slice o4 kids.length c4]) :: (b2, 40, [.int .i64 (k : Int), .string (mkS txt), .slice o1 ks.length c1, .slice o2 kids.length c2]) :: L) w) (fun j => ks.length - j) (0) ?_ (fun j a w hI => ?_)
 · exact ⟨hF, hM⟩
 clear hF hM
 obtain ⟨hF, hM⟩ := hI
 revert a; refine Sq (Sq (Rg (Mv 2 rfl (Ld hM 1 rfl rfl (Md 2 [2,3,5,41] rfl (Nx (C1 rfl (fun ht => ?_) ?_)))))))
 ·
  have hj : j < ks.length := by have := of_decide_eq_true ht; omega
  have hsz : ks.length ≤ 9223372036854775807 := hsn.small
  obtain ⟨s, hs⟩ : ∃ s, ks[j]? = some s := ⟨_, List.getElem?_eq_getElem hj⟩
  have hk1 := keys_at hs
  obtain ⟨g, cap, hv, hcell⟩ := hsn.row (by omega)
  have ho : o1 = some ⟨g, 0, none⟩ := by cases hv; rfl
  obtain ⟨g', cap', hv', hcell'⟩ := hsn'.row (by omega)
  have ho' : o3 = some ⟨g', 0, none⟩ := by cases hv'; rfl
  refine Sk (Nx (Sq (Bo (Sq (Sl (by kernel_rfl) (by kernel_rfl) ?_)))))
  replace hM := hM.drew
  generalize World.drew w = w at *
  refine Ms 1 rfl (Ls hM 1 rfl rfl ?_); intro a hF
  rw [ho] at hF
  revert a; refine Ms 1 rfl (Gs rfl (fun _ hF => gives_indexAddrS (sz := 1) (j) hF rfl Tryz.underlying22 (by kernel_rfl) rfl rfl rfl hj _) (Gs rfl (fun _ hF => gives_load1 hF rfl Tryz.underlying9 rfl rfl ((show w.cell? ⟨g, 0 + j * 1, none⟩ = some (.string (mkS s)) from by rw [Nat.zero_add, Nat.mul_one]; exact hcell hM (by intro z hz; simp [hz]) _ _ hk1))) (Ms 1 rfl (Ls hM 0 rfl rfl ?_)))); intro a hF
  rw [ho'] at hF
  revert a; refine Ms 1 rfl (Gs rfl (fun _ hF => gives_indexAddrS (sz := 1) (j) hF rfl Tryz.underlying22 (by kernel_rfl) rfl rfl rfl hj _) (Gs rfl (fun _ hF => gives_load1 hF rfl Tryz.underlying9 rfl rfl ((show w.cell? ⟨g', 0 + j * 1, none⟩ = some (.string (mkS s)) from by rw [Nat.zero_add, Nat.mul_one]; exact hcell' hM (by intro z hz; simp [hz]) _ _ hk1))) (Gs rfl (fun _ hF => gives_neqStr hF rfl rfl rfl _) ?_))); intro a hF
  rw [beq_self_eq_true, Bool.not_true] at hF
  revert a; refine Sd (Kp [2,3,5,54] rfl (Nx (Cf rfl (Sk (Nb (Nx (Rg (Mv 1 rfl (Sm (((j + 1 : Nat) : Int)) rfl (by omega) (Md 1 [2,3,5] rfl ?_)))))))))); intro a hF
  exact ⟨j + 1, ⟨hF, hM⟩, by omega⟩
 refine Ex (Ot (Ot (Ob (Nx (Sq (Sq (Rg (Md 1 [2,3,6] rfl (Nx (Bo (Kp [2,3,6] rfl ?_))))))))))); intro a hF
 refine loopX (fun (j : Nat) a w => Fr 74 [(2, .pointer (some ⟨b2, 0, none⟩)), (3, .pointer (some ⟨b3, 0, none⟩)), (6, .int .i64 (j : Int))] a ∧ Mem B wc ((b3, 40, [.int .i64 (k : Int), .string (mkS txt), .slice o3 ks.length c3, .slice o4 kids.length c4]) :: (b2, 40, [.int .i64 (k : Int), .string (mkS txt), .slice o1 ks.length c1, .slice o2 kids.length c2]) :: L) w) (fun j => kids.length - j) (0) ?_ (fun j a w hI => ?_)
 · exact ⟨hF, hM⟩
 clear hF hM
 obtain ⟨hF, hM⟩ := hI
 revert a; refine Sq (Sq (Rg (Mv 2 rfl (Ld hM 1 rfl rfl (Md 2 [2,3,6,59] rfl (Nx (D1 rfl ?_ ((fun ht => ?_)))))))))
 · exact Ex (Ot (Ot (Ob (Nx (Sq (Rg (Md 1 [4] rfl (Nx (Re (Y1 rfl rfl ⟨_, rfl, rfl, hM.sub [(b3, 40, [.int .i64 (k : Int), .string (mkS txt), .slice o3 ks.length c3, .slice o4 kids.length c4]), (b2, 40, [.int .i64 (k : Int), .string (mkS txt), .slice o1 ks.length c1, .slice o2 kids.length c2])] (pc fun x => by simp [ct, ct_append] <;> omega)⟩))))))))))
 have hj : j < kids.length := by have := of_decide_eq_true ht; omega
 have hsz : kids.length ≤ 9223372036854775807 := hsk.small
 obtain ⟨q, hq⟩ : ∃ q, kids[j]? = some q := ⟨_, List.getElem?_eq_getElem hj⟩
 have hqm := List.mem_of_getElem? hq
 obtain ⟨ci, hc1, hx1⟩ := hkr.at_ hq
 obtain ⟨di, hc2, hx2⟩ := hkr'.at_ hq
 obtain ⟨g, cap, hv, hcell⟩ := hsk.row (by omega)
 have ho : o2 = some ⟨g, 0, none⟩ := by cases hv; rfl
 obtain ⟨g', cap', hv', hcell'⟩ := hsk'.row (by omega)
 have ho' : o4 = some ⟨g', 0, none⟩ := by cases hv'; rfl
 refine Sk (Nx (Sq (Bo (Sq (Su 10 (by kernel_rfl) (by kernel_rfl) ?_)))))
 replace hM := hM.drew
 generalize World.drew w = w at *
 refine Ms 1 rfl (Ls hM 1 rfl rfl ?_); intro a hF
 rw [ho] at hF
 revert a; refine Ms 1 rfl (Gs rfl (fun _ hF => gives_indexAddrS (sz := 4) (j) hF rfl Tryz.underlying38 (by kernel_rfl) rfl rfl rfl hj _) (Gs rfl (fun _ hF => gives_loadMid hF rfl rfl Tryz.underlying40 rfl (by rw [hc1.len.1]; kernel_rfl) (fun i u hi => by rw [Nat.zero_add]; exact hcell hM (by intro z hz; simp [hz]) _ u (hx1 i u hi))) (Ms 1 rfl (Ls hM 0 rfl rfl ?_)))); intro a hF
 rw [ho'] at hF
 revert a; refine Ms 1 rfl (Gs rfl (fun _ hF => gives_indexAddrS (sz := 4) (j) hF rfl Tryz.underlying38 (by kernel_rfl) rfl rfl rfl hj _) (Gs rfl (fun _ hF => gives_loadMid hF rfl rfl Tryz.underlying40 rfl (by rw [hc2.len.1]; kernel_rfl) (fun i u hi => by rw [Nat.zero_add]; exact hcell' hM (by intro z hz; simp [hz]) _ u (hx2 i u hi))) (Sd ?_))); intro a hF
 simp only [List.drop_succ_cons, List.drop_zero]
 revert a; refine Cl rfl Tryz.func43 (by kernel_rfl) rfl (hrec q hqm (RepNd.mono (by intro z hz; simp [hz]) _ _ hc1) (RepNd.mono (by intro z hz; simp [hz]) _ _ hc2) hM) ?_
 clear hM; intro w v hR
 obtain ⟨rfl, hM⟩ := hR
 refine Md 1 [2,3,6,73] rfl (Nx (Cf rfl (Sk (Nb (Nx (Rg (Mv 1 rfl (Sm (((j + 1 : Nat) : Int)) rfl (by omega) (Md 1 [2,3,6] rfl ?_))))))))); intro a hF
 exact ⟨j + 1, ⟨hF, hM⟩, by omega⟩
theorem same_walk : ∀ n : Nd, SAME n
  | .mk k t ks kids => same_step k t ks kids (fun q hq => same_walk q)
  termination_by n => SizeOf.sizeOf n
  decreasing_by have := List.sizeOf_lt_of_mem hq; simp_wf; omega
end Go.Sx
set_option linter.unusedVariables false
namespace Js
def atGo (ks : List Str) (s : Str) : Nat → Int
  | 0 => -1
  | m + 1 => if ks[m]? = some s then (m : Int) else atGo ks s m
def atOf (ks : List Str) (s : Str) : Int := atGo ks s ks.length
def ksTo (ks : List Str) (j : Nat) : Bool := (List.range j).all fun i => decide (atOf ks ((ks[i]?).getD []) = (i : Int))
mutual
def uniqN : Nd → Bool
  | .mk _ _ ks kids => ksTo ks ks.length && uniqNs kids
def uniqNs : List Nd → Bool
  | [] => true
  | n :: l => uniqN n && uniqNs l
end
theorem ksTo_next {ks : List Str} {j : Nat} {s : Str} (h : ks[j]? = some s) : ksTo ks (j + 1) = (ksTo ks j && decide (atOf ks s = (j : Int))) := by
  simp [ksTo, List.range_succ, h]
theorem ksTo_false {ks : List Str} {j m : Nat} (h : ksTo ks j = false) (hm : j ≤ m) : ksTo ks m = false := by
  cases hx : ksTo ks m with
  | false => rfl
  | true =>
    exfalso
    simp only [ksTo, List.all_eq_true, List.mem_range] at hx
    have : ksTo ks j = true := by
      simp only [ksTo, List.all_eq_true, List.mem_range]
      exact fun i hi => hx i (by omega)
    rw [this] at h; cases h
theorem uniqNs_all : ∀ l : List Nd, uniqNs l = l.all uniqN
  | [] => rfl
  | n :: l => by simp only [uniqNs, List.all_cons, uniqNs_all l]
theorem uniqNs_next {l : List Nd} {j : Nat} {n : Nd} (h : l[j]? = some n) : uniqNs (l.take (j + 1)) = (uniqNs (l.take j) && uniqN n) := by
  rw [uniqNs_all, uniqNs_all, List.take_add_one, h]
  simp
theorem uniqNs_false {l : List Nd} {j : Nat} (h : uniqNs (l.take j) = false) : uniqNs l = false := by
  rw [uniqNs_all] at h ⊢
  rw [List.all_eq_false] at h ⊢
  obtain ⟨x, hx, hn⟩ := h
  exact ⟨x, List.mem_of_mem_take hx, hn⟩
end Js
namespace Go.Sx
open Go.RowKit Go.Proofs Js Go.Proofs.YtelonenjneonlaaGreatDoorW.PrintWords
def UNIQ (n : Nd) : Prop := ∀ {B : Nat} {wc w0 : World} {L : List Bk} {ca : List Value}, RepNd L n ca → Mem B wc L w0 →
  Calls Tryz.prog 40 #[.agg ca.toArray] w0 (Ret fun v w' => v = .bool (uniqN n) ∧ Mem B wc L w')
theorem atGo_hit {ks : List Str} {s : Str} {i : Nat} (h : ks[i]? = some s) : atGo ks s (i + 1) = (i : Int) := by simp [atGo, h]
theorem atGo_miss {ks : List Str} {s t : Str} {i : Nat} (h : ks[i]? = some t) (hne : t ≠ s) : atGo ks s (i + 1) = atGo ks s i := by simp [atGo, h, hne]
set_option maxRecDepth 100000 in
theorem at_walk {B : Nat} {wc w0 : World} {L : List Bk} {k : Nat} {txt s : Str} {ks : List Str} {kids : List Nd} {ca : List Value} (hA : RepNd L (.mk k txt ks kids) ca) (hM0 : Mem B wc L w0) :
    Calls Tryz.prog 68 #[.agg ca.toArray, .string (mkS s)] w0 (Ret fun v w' => v = .int .i64 (atOf ks s) ∧ Mem B wc L w') := by
 have hM := hM0
 have hA0 := hA
 simp only [RepNd] at hA
 obtain ⟨sn, sk, xs, rfl, hsn, hsk, hkr⟩ := hA
 obtain ⟨o1, c1, rfl⟩ := hsn.shape
 obtain ⟨o2, c2, rfl⟩ := hsk.shape
 have hsz := hsn.small
 have hsz2 := hsk.small
 refine enter (l := [.agg ([.int .i64 (k : Int), .string (mkS txt), .slice o1 ks.length c1, .slice o2 kids.length c2] : List Value).toArray, .string (mkS s)]) 20 Tryz.func68 rfl rfl (fun a hF => ?_)
 replace hF : Fr 22 [(0, .agg ([.int .i64 (k : Int), .string (mkS txt), .slice o1 ks.length c1, .slice o2 kids.length c2] : List Value).toArray), (1, .string (mkS s))] a := hF
 refine seq (region ?_)
 refine op_box hF hM rfl rfl rfl rfl rfl rfl ?_; clear hF hM a; intro a w b2 hF hM
 revert a; refine Md 1 [1,2] rfl (Nx (Sq (Sq (Rg (Mv 1 rfl (Ld hM 0 rfl rfl (Mv 1 rfl (Sm ((ks.length : Int) - 1) rfl (by omega) (Md 1 [1,2,5] rfl (Nx (Bo (Kp [1,2,5] rfl ?_)))))))))))); intro a hF
 refine loopX (fun (m : Nat) a w => Fr 22 [(1, .string (mkS s)), (2, .pointer (some ⟨b2, 0, none⟩)), (5, .int .i64 ((m : Int) - 1))] a ∧ Mem B wc ((b2, 40, [.int .i64 (k : Int), .string (mkS txt), .slice o1 ks.length c1, .slice o2 kids.length c2]) :: L) w ∧ m ≤ ks.length ∧ atGo ks s m = atOf ks s) (fun m => m) (ks.length) ?_ (fun m a w hI => ?_)
 · exact ⟨hF, hM, Nat.le_refl _, rfl⟩
 clear hF hM
 obtain ⟨hF, hM, hm, hat⟩ := hI
 revert a; refine Sq (Sq (Rg (Md 2 [1,2,5,11] rfl (Nx (Ce rfl (fun ht => ?_) ((fun ht => ?_)))))))
 ·
  obtain rfl : m = 0 := by have := of_decide_eq_false ht; omega
  refine Ex (Ot (Ot (Ob (Nx (Sq (Rg (Md 1 [4] rfl (Nx (Re ?_))))))))); intro a hF
  first | exact ret1 hF rfl rfl ⟨_, rfl, by rw [← hat]; congr 1; omega, hM.sub [(b2, 40, [.int .i64 (k : Int), .string (mkS txt), .slice o1 ks.length c1, .slice o2 kids.length c2])] (pc fun x => by simp [ct, ct_append] <;> omega)⟩ | exact ret1 hF rfl rfl ⟨_, rfl, by rw [← hat]; rfl, hM.sub [(b2, 40, [.int .i64 (k : Int), .string (mkS txt), .slice o1 ks.length c1, .slice o2 kids.length c2])] (pc fun x => by simp [ct, ct_append] <;> omega)⟩
 obtain ⟨i, rfl⟩ : ∃ i, m = i + 1 := ⟨m - 1, by have := of_decide_eq_true ht; omega⟩
 have hi : i < ks.length := by omega
 obtain ⟨t, ht'⟩ : ∃ t, ks[i]? = some t := ⟨_, List.getElem?_eq_getElem hi⟩
 have hk1 := keys_at ht'
 obtain ⟨g, cap, hv, hcell⟩ := hsn.row (by omega)
 have ho : o1 = some ⟨g, 0, none⟩ := by cases hv; rfl
 refine Sk (Nx (Sq (Bo (Sq (Rg (Mv 1 rfl (Ld hM 0 rfl rfl (Mv 1 rfl ?_)))))))); intro a hF
 rw [ho] at hF
 revert a; refine Gv rfl (fun _ hF => gives_indexAddrS (sz := 1) (i) hF rfl Tryz.underlying22 (by kernel_rfl) rfl rfl (by omega) hi _) (Gv rfl (fun _ hF => gives_load1 hF rfl Tryz.underlying9 rfl rfl ((show w.cell? ⟨g, 0 + i * 1, none⟩ = some (.string (mkS t)) from by rw [Nat.zero_add, Nat.mul_one]; exact hcell hM (by intro z hz; simp [hz]) _ _ hk1))) (Mv 1 rfl ?_)); intro a hF
 refine op_eqlStr hF rfl rfl rfl rfl rfl rfl ?_; clear hF a; intro a hF
 revert a; refine Md 0 [1,2,5,20] rfl (Nx (Ce rfl (fun ht => ?_) ((fun ht => ?_))))
 ·
  have hts : t ≠ s := by simpa using ht
  rw [atGo_miss ht' hts] at hat
  refine Sk (Nb (Nx (Rg (Mv 1 rfl (Sm (((i : Nat) : Int) - 1) rfl (by omega) (Md 1 [1,2,5] rfl ?_)))))); intro a hF
  exact ⟨i, ⟨hF, hM, by omega, hat⟩, by omega⟩
 have hts : t = s := by simpa using ht
 subst hts
 rw [atGo_hit ht'] at hat
 refine Sq (Rg (Md 2 [4] rfl (Nx (Re (Rb (Rt (Rt (Rb (Rt ?_))))))))); intro a hF
 first | exact ret1 hF rfl rfl ⟨_, rfl, by rw [← hat]; congr 1; omega, hM.sub [(b2, 40, [.int .i64 (k : Int), .string (mkS txt), .slice o1 ks.length c1, .slice o2 kids.length c2])] (pc fun x => by simp [ct, ct_append] <;> omega)⟩ | exact ret1 hF rfl rfl ⟨_, rfl, by rw [← hat]; rfl, hM.sub [(b2, 40, [.int .i64 (k : Int), .string (mkS txt), .slice o1 ks.length c1, .slice o2 kids.length c2])] (pc fun x => by simp [ct, ct_append] <;> omega)⟩
set_option maxRecDepth 100000 in
theorem uniq_step (k : Nat) (txt : Str) (ks : List Str) (kids : List Nd) (hrec : ∀ q ∈ kids, UNIQ q) : UNIQ (.mk k txt ks kids) := by
 intro B wc w0 L ca hA hM0
 have hM := hM0
 have hA0 := hA
 simp only [RepNd] at hA
 obtain ⟨sn, sk, xs, rfl, hsn, hsk, hkr⟩ := hA
 obtain ⟨o1, c1, rfl⟩ := hsn.shape
 obtain ⟨o2, c2, rfl⟩ := hsk.shape
 have hsz := hsn.small
 have hsz2 := hsk.small
 refine enter (l := [.agg ([.int .i64 (k : Int), .string (mkS txt), .slice o1 ks.length c1, .slice o2 kids.length c2] : List Value).toArray]) 34 Tryz.func40 rfl rfl (fun a hF => ?_)
 replace hF : Fr 35 [(0, .agg ([.int .i64 (k : Int), .string (mkS txt), .slice o1 ks.length c1, .slice o2 kids.length c2] : List Value).toArray)] a := hF
 refine seq (region ?_)
 refine op_box hF hM rfl rfl rfl rfl rfl rfl ?_; clear hF hM a; intro a w b1 hF hM
 revert a; refine Md 1 [1] rfl (Nx (Sq (Sq (Rg (Md 1 [1,3] rfl (Nx (Bo (Kp [1,3] rfl ?_)))))))); intro a hF
 refine loopX (fun (j : Nat) a w => Fr 35 [(1, .pointer (some ⟨b1, 0, none⟩)), (3, .int .i64 (j : Int))] a ∧ Mem B wc ((b1, 40, [.int .i64 (k : Int), .string (mkS txt), .slice o1 ks.length c1, .slice o2 kids.length c2]) :: L) w ∧ ksTo ks j = true ∧ j ≤ ks.length) (fun j => ks.length - j) (0) ?_ (fun j a w hI => ?_)
 · exact ⟨hF, hM, rfl, Nat.zero_le _⟩
 clear hF hM
 obtain ⟨hF, hM, hu, hjl⟩ := hI
 revert a; refine Sq (Sq (Rg (Mv 2 rfl (Ld hM 0 rfl rfl (Md 2 [1,3,9] rfl (Nx (Cd rfl (fun ht => ?_) ((fun ht => ?_)))))))))
 ·
  have hj : j < ks.length := by have := of_decide_eq_true ht; omega
  obtain ⟨s, hs⟩ : ∃ s, ks[j]? = some s := ⟨_, List.getElem?_eq_getElem hj⟩
  have hk1 := keys_at hs
  obtain ⟨g, cap, hv, hcell⟩ := hsn.row (by omega)
  have ho : o1 = some ⟨g, 0, none⟩ := by cases hv; rfl
  refine Sk (Nx (Sq (Bo (Sq ?_)))); intro a hF
  refine mix (fun w => Mem B wc ((b1, 40, [.int .i64 (k : Int), .string (mkS txt), .slice o1 ks.length c1, .slice o2 kids.length c2]) :: L) w) 8 (by kernel_rfl) ?_
  replace hM := hM.drew
  generalize World.drew w = w at *
  refine mtakeL 0 hF hM rfl (by kernel_rfl) (by kernel_rfl) (by kernel_rfl) (by kernel_rfl) (by kernel_rfl) (fun _ _ _ h => h) rfl rfl (y_plain rfl (fun w hM => gives_loadA hF hM 0 rfl Tryz.underlying40 rfl (by kernel_rfl) rfl rfl)) ?_; clear hF a; intro a hF
  refine mtakeP 1 hF (.inl hM) rfl (by kernel_rfl) (by kernel_rfl) (by kernel_rfl) rfl (fun _ _ _ h => h) rfl rfl (y_plain rfl (fun w _ => gives_fieldAddr hF 2 rfl rfl (field_at Tryz.underlying40 rfl rfl (by kernel_rfl)) _)) ?_; clear hF a; intro a hF
  refine mtakeL 2 hF hM rfl (by kernel_rfl) (by kernel_rfl) (by kernel_rfl) (by kernel_rfl) (by kernel_rfl) (fun _ _ _ h => h) rfl rfl (y_plain rfl (fun w hM => gives_load hF hM 0 rfl Tryz.underlying22 rfl rfl rfl rfl)) ?_; clear hF a; intro a hF
  rw [ho] at hF
  refine mtakeP 3 hF (.inl hM) rfl (by kernel_rfl) (by kernel_rfl) (by kernel_rfl) rfl (fun _ _ _ h => h) rfl rfl (y_plain rfl (fun w _ => gives_move hF rfl rfl _)) ?_; clear hF a; intro a hF
  refine mtakeP 4 hF (.inl hM) rfl (by kernel_rfl) (by kernel_rfl) (by kernel_rfl) rfl (fun _ _ _ h => h) rfl rfl (y_plain rfl (fun w _ => gives_indexAddrS (sz := 1) (j) hF rfl Tryz.underlying22 (by kernel_rfl) rfl rfl rfl hj _)) ?_; clear hF a; intro a hF
  refine mtakeL 5 hF hM rfl (by kernel_rfl) (by kernel_rfl) (by kernel_rfl) (by kernel_rfl) (by kernel_rfl) (fun _ _ _ h => h) rfl rfl (y_plain rfl (fun w hM => gives_load1 hF rfl Tryz.underlying9 rfl rfl ((show w.cell? ⟨g, 0 + j * 1, none⟩ = some (.string (mkS s)) from by rw [Nat.zero_add, Nat.mul_one]; exact hcell hM (by intro z hz; simp [hz]) _ _ hk1)))) ?_; clear hF a; intro a hF
  refine mtakeP 7 hF (.inl hM) rfl (by kernel_rfl) (by kernel_rfl) (by kernel_rfl) rfl (fun _ _ _ h => h) rfl rfl (y_plain rfl (fun w _ => gives_move hF rfl rfl _)) ?_; clear hF a; intro a hF
  refine malone 6 rfl (by kernel_rfl) ?_
  have hA1 := hA0
  rw [ho] at hA1
  revert a; refine Cl rfl Tryz.func68 (by kernel_rfl) rfl (at_walk (s := s) (RepNd.mono (by intro z hz; simp [hz]) _ _ hA1) hM) ?_
  clear hM; intro w v hR
  obtain ⟨rfl, hM⟩ := hR
  intro a hF
  refine mstep (.inl (hM)) ?_
  refine malone 8 rfl (by kernel_rfl) ?_
  revert a; refine Mv 1 rfl ?_; intro a hF
  refine mstep (.inr (by kernel_rfl)) ?_
  refine mend (by kernel_rfl) ?_
  revert a; refine Kp [1,3,20] rfl (Nx (Ce rfl (fun ht => ?_) ((fun ht => ?_))))
  ·
   have hat : atOf ks s = (j : Int) := by simpa using ht
   refine Sk (Nb (Nx (Rg (Mv 1 rfl (Sm (((j + 1 : Nat) : Int)) rfl (by omega) (Md 1 [1,3] rfl ?_)))))); intro a hF
   exact ⟨j + 1, ⟨hF, hM, by rw [ksTo_next hs, hu, hat]; simp, hj⟩, by omega⟩
  have hat : atOf ks s ≠ (j : Int) := by simpa using ht
  have e1 : uniqN (.mk k txt ks kids) = false := by simp only [uniqN]; rw [ksTo_false (j := j + 1) (by rw [ksTo_next hs, hu]; simpa using hat) hj]; rfl
  exact Sq (Rg (Md 1 [2] rfl (Nx (Re (Rb (Rt (Rt (Rb (Rt (Y1 rfl rfl ⟨_, rfl, by rw [e1], hM.sub [(b1, 40, [.int .i64 (k : Int), .string (mkS txt), .slice o1 ks.length c1, .slice o2 kids.length c2])] (pc fun x => by simp [ct, ct_append] <;> omega)⟩))))))))))
 have hjn : j = ks.length := by have := of_decide_eq_false ht; omega
 rw [hjn] at hu
 refine Ex (Ot (Ot (Ob (Nx (Sq (Sq (Rg (Md 1 [1,4] rfl (Nx (Bo (Kp [1,4] rfl ?_))))))))))); intro a hF
 refine loopX (fun (j : Nat) a w => Fr 35 [(1, .pointer (some ⟨b1, 0, none⟩)), (4, .int .i64 (j : Int))] a ∧ Mem B wc ((b1, 40, [.int .i64 (k : Int), .string (mkS txt), .slice o1 ks.length c1, .slice o2 kids.length c2]) :: L) w ∧ uniqNs (kids.take j) = true ∧ j ≤ kids.length) (fun j => kids.length - j) (0) ?_ (fun j a w hI => ?_)
 · exact ⟨hF, hM, rfl, Nat.zero_le _⟩
 clear hF hM
 obtain ⟨hF, hM, hu2, hjl2⟩ := hI
 revert a; refine Sq (Sq (Rg (Mv 2 rfl (Ld hM 0 rfl rfl (Md 2 [1,4,25] rfl (Nx (Ce rfl (fun ht => ?_) ((fun ht => ?_)))))))))
 ·
  have hjn : j = kids.length := by have := of_decide_eq_false ht; omega
  rw [hjn, List.take_length] at hu2
  have e1 : uniqN (.mk k txt ks kids) = true := by simp only [uniqN]; rw [hu, hu2]; rfl
  exact Ex (Ot (Ot (Ob (Nx (Sq (Rg (Md 1 [2] rfl (Nx (Re (Y1 rfl rfl ⟨_, rfl, by rw [e1], hM.sub [(b1, 40, [.int .i64 (k : Int), .string (mkS txt), .slice o1 ks.length c1, .slice o2 kids.length c2])] (pc fun x => by simp [ct, ct_append] <;> omega)⟩))))))))))
 have hj : j < kids.length := by have := of_decide_eq_true ht; omega
 obtain ⟨q, hq⟩ : ∃ q, kids[j]? = some q := ⟨_, List.getElem?_eq_getElem hj⟩
 have hqm := List.mem_of_getElem? hq
 obtain ⟨ci, hc1, hx1⟩ := hkr.at_ hq
 obtain ⟨g, cap, hv, hcell⟩ := hsk.row (by omega)
 have ho : o2 = some ⟨g, 0, none⟩ := by cases hv; rfl
 refine Sk (Nx (Sq (Bo (Sq (Rg (Mv 1 rfl (Ld hM 0 rfl rfl (Mv 1 rfl ?_)))))))); intro a hF
 rw [ho] at hF
 revert a; refine Gv rfl (fun _ hF => gives_indexAddrS (sz := 4) (j) hF rfl Tryz.underlying38 (by kernel_rfl) rfl rfl rfl hj _) (Gv rfl (fun _ hF => gives_loadMid hF rfl rfl Tryz.underlying40 rfl (by rw [hc1.len.1]; kernel_rfl) (fun i u hi => by rw [Nat.zero_add]; exact hcell hM (by intro z hz; simp [hz]) _ u (hx1 i u hi))) (Cl rfl Tryz.func40 (by kernel_rfl) rfl (hrec q hqm (RepNd.mono (by intro z hz; simp [hz]) _ _ hc1) hM) ?_))
 clear hM; intro w v hR
 obtain ⟨rfl, hM⟩ := hR
 refine Md 1 [1,4,34] rfl (Nx (Ce rfl (fun ht => ?_) ((fun ht => ?_))))
 ·
  intro a hF
  replace ht : uniqN q = true := by simpa using ht
  revert a; refine Sk (Nb (Nx (Rg (Mv 1 rfl (Sm (((j + 1 : Nat) : Int)) rfl (by omega) (Md 1 [1,4] rfl ?_)))))); intro a hF
  exact ⟨j + 1, ⟨hF, hM, by rw [uniqNs_next hq, hu2, ht]; rfl, hj⟩, by omega⟩
 intro a hF
 replace ht : uniqN q = false := by simpa using ht
 have e1 : uniqN (.mk k txt ks kids) = false := by simp only [uniqN]; rw [uniqNs_false (j := j + 1) (by rw [uniqNs_next hq, ht, Bool.and_false]), Bool.and_false]
 revert a; exact Sq (Rg (Md 1 [2] rfl (Nx (Re (Rb (Rt (Rt (Rb (Rt (Y1 rfl rfl ⟨_, rfl, by rw [e1], hM.sub [(b1, 40, [.int .i64 (k : Int), .string (mkS txt), .slice o1 ks.length c1, .slice o2 kids.length c2])] (pc fun x => by simp [ct, ct_append] <;> omega)⟩))))))))))
theorem uniq_walk : ∀ n : Nd, UNIQ n
  | .mk k t ks kids => uniq_step k t ks kids (fun q hq => uniq_walk q)
  termination_by n => SizeOf.sizeOf n
  decreasing_by have := List.sizeOf_lt_of_mem hq; simp_wf; omega
end Go.Sx
