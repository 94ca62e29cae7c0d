/- Part 19 of the proof of FnGjJoinKeys: the statement Rows.FnGjJoinKeysCardSaid; no further condition. -/
import Derived.Test.YtelonenjneonlaaGreatDoorK18
set_option linter.all false
namespace Go.Sx
open Go.RowKit Go.Proofs Js Go.Proofs.YtelonenjneonlaaGreatDoorW.PrintWords
theorem parse_walk91 (T : Str) (w0 : World) (hT : T.length ≤ 2 ^ 40) :
    Calls Tryz.prog 91 #[.string (mkS (91 :: T))] w0 (Ret fun v w' => v = resV 5 (91 :: T) [] 0 0 ∧ Below w0.heap.size w0 w') := by
 have hM : Mem w0.heap.size w0 [] w0 := Mem.start (Nat.le_refl _)
 have hl : (91 :: T).length = T.length + 1 := rfl
 refine enter (l := [.string (mkS (91 :: T))]) 122 Tryz.func91 rfl rfl (fun a hF => ?_)
 replace hF : Fr 123 [(0, .string (mkS (91 :: T)))] a := hF
 refine seq (region ?_)
 refine op_alloc hF hM rfl (vs := [.int .i64 0, .string (mkS []), .string (mkS []), .float .f64 0, .int .i64 0, .slice none 0 0]) rfl rfl rfl (by kernel_rfl) ?_; clear hF hM a; intro a w b2 hF hM
 revert a; refine Md 0 [0,2] rfl (Nx (Sq (Rg ?_))); intro a hF
 refine op_alloc hF hM rfl (vs := [.int .i64 0, .string (mkS []), .string (mkS []), .float .f64 0, .int .i64 0, .slice none 0 0]) rfl rfl rfl (by kernel_rfl) ?_; clear hF hM a; intro a w b3 hF hM
 revert a; refine Md 0 [0,2,3] rfl (Nx (Sq (Rg (Md 1 [0,2,3,4] rfl (Nx (Sq (Bo (Kp [0,2,3,4] rfl ?_)))))))); intro a hF
 refine loopX (fun (x : Unit) a w => Fr 123 [(0, .string (mkS (91 :: T))), (2, .pointer (some ⟨b2, 0, none⟩)), (3, .pointer (some ⟨b3, 0, none⟩)), (4, .int .i64 0)] a ∧ Mem w0.heap.size w0 [(b3, 135, [.int .i64 0, .string (mkS []), .string (mkS []), .float .f64 0, .int .i64 0, .slice none 0 0]), (b2, 135, [.int .i64 0, .string (mkS []), .string (mkS []), .float .f64 0, .int .i64 0, .slice none 0 0])] w) (fun _ => 0) (()) ?_ (fun x a w hI => ?_)
 · exact ⟨hF, hM⟩
 clear hF hM
 obtain ⟨hF, hM⟩ := hI
 revert a; refine Sq (Sq (Rg (Md 4 [0,2,3,4,8] rfl (Nx (D2 rfl (fun ht => absurd (of_decide_eq_false ht) (by omega)) (Sk (Nx (Sq (Bo (Sq (Sq ?_)))))))))))
 skip
 refine Rg (Mv 2 rfl ?_); intro a hF
 refine op_index_str hF rfl (0) 91 rfl rfl rfl Tryz.underlying9 rfl rfl (by first | rfl | omega) rfl ?_; clear hF a; intro a hF
 revert a; refine Bv rfl rfl (show (((91 : UInt8).toNat : Int) == 123) = false from rfl) (Mv 3 rfl ?_); intro a hF
 refine guard_yes hF rfl rfl rfl rfl rfl rfl ?_
 refine op_index_str hF rfl (0) 91 rfl rfl rfl Tryz.underlying9 rfl rfl (by first | rfl | omega) rfl ?_; clear hF a; intro a hF
 revert a; refine Bv rfl rfl (show (((91 : UInt8).toNat : Int) == 91) = true from rfl) (Md 1 [0,2,3,4,20] rfl (Nx (Ct rfl (Sq (Rg (Mv 1 rfl (St hM 0 rfl ?_)))))))
 clear hM; intro w hM
 refine Md 0 [0,2,3,4] rfl (Nx (Sq (Rg (Mv 2 rfl ?_)))); intro a hF
 refine op_sliceFrom_str hF rfl 0 rfl rfl rfl Tryz.underlying9 rfl rfl rfl (Nat.zero_le _) ?_; clear hF a; intro a hF
 rw [List.drop_zero] at hF
 revert a; refine Mv 1 rfl (St hM 0 rfl ?_)
 clear hM; intro w hM
 refine Md 0 [2,3,4] rfl (Nx (Ex (Ot (Op' rfl (Ot (Ot (Ob (Nx (Sq (Sq (Rg ?_))))))))))); intro a hF
 refine op_loadA hF hM rfl 0 rfl rfl rfl Tryz.underlying135 rfl (by kernel_rfl) rfl rfl ?_; clear hF a; intro a hF
 revert a; refine Cm hM rfl Tryz.func92 (by kernel_rfl) rfl (exists_walk 5 (91 :: T) [] 0 0 w (by decide)) ?_
 clear hM; intro w v hR hM hBe
 obtain rfl := hR
 refine Md 0 [2,3,4,119] rfl (Nx (Ct rfl (Rg (Mv 2 rfl (St hM 0 rfl ?_)))))
 clear hM; intro w hM
 refine Md 0 [2,3] rfl (Nx (Sq (Rg ?_))); intro a hF
 refine op_loadA hF hM rfl 0 rfl rfl rfl Tryz.underlying135 rfl (by kernel_rfl) rfl rfl ?_; clear hF a; intro a hF
 refine op_storeA hF hM rfl 1 rfl rfl (by kernel_rfl) rfl rfl rfl rfl (rfl) ?_; clear hF hM a; intro a w  hF hM
 revert a; refine Md 0 [2] rfl (Nx (Re ?_)); intro a hF
 exact retOne hF hM rfl (.cell 1 rfl rfl Tryz.underlying135 rfl (by kernel_rfl) .nil) ⟨_, rfl, rfl, hM.below⟩
theorem parse_walk123 (T : Str) (w0 : World) (hT : T.length ≤ 2 ^ 40) :
    Calls Tryz.prog 91 #[.string (mkS (123 :: T))] w0 (Ret fun v w' => v = resV 5 (123 :: T) [] 0 0 ∧ Below w0.heap.size w0 w') := by
 have hM : Mem w0.heap.size w0 [] w0 := Mem.start (Nat.le_refl _)
 have hl : (123 :: T).length = T.length + 1 := rfl
 refine enter (l := [.string (mkS (123 :: T))]) 122 Tryz.func91 rfl rfl (fun a hF => ?_)
 replace hF : Fr 123 [(0, .string (mkS (123 :: T)))] a := hF
 refine seq (region ?_)
 refine op_alloc hF hM rfl (vs := [.int .i64 0, .string (mkS []), .string (mkS []), .float .f64 0, .int .i64 0, .slice none 0 0]) rfl rfl rfl (by kernel_rfl) ?_; clear hF hM a; intro a w b2 hF hM
 revert a; refine Md 0 [0,2] rfl (Nx (Sq (Rg ?_))); intro a hF
 refine op_alloc hF hM rfl (vs := [.int .i64 0, .string (mkS []), .string (mkS []), .float .f64 0, .int .i64 0, .slice none 0 0]) rfl rfl rfl (by kernel_rfl) ?_; clear hF hM a; intro a w b3 hF hM
 revert a; refine Md 0 [0,2,3] rfl (Nx (Sq (Rg (Md 1 [0,2,3,4] rfl (Nx (Sq (Bo (Kp [0,2,3,4] rfl ?_)))))))); intro a hF
 refine loopX (fun (x : Unit) a w => Fr 123 [(0, .string (mkS (123 :: T))), (2, .pointer (some ⟨b2, 0, none⟩)), (3, .pointer (some ⟨b3, 0, none⟩)), (4, .int .i64 0)] a ∧ Mem w0.heap.size w0 [(b3, 135, [.int .i64 0, .string (mkS []), .string (mkS []), .float .f64 0, .int .i64 0, .slice none 0 0]), (b2, 135, [.int .i64 0, .string (mkS []), .string (mkS []), .float .f64 0, .int .i64 0, .slice none 0 0])] w) (fun _ => 0) (()) ?_ (fun x a w hI => ?_)
 · exact ⟨hF, hM⟩
 clear hF hM
 obtain ⟨hF, hM⟩ := hI
 revert a; refine Sq (Sq (Rg (Md 4 [0,2,3,4,8] rfl (Nx (D2 rfl (fun ht => absurd (of_decide_eq_false ht) (by omega)) (Sk (Nx (Sq (Bo (Sq (Sq ?_)))))))))))
 skip
 refine Rg (Mv 2 rfl ?_); intro a hF
 refine op_index_str hF rfl (0) 123 rfl rfl rfl Tryz.underlying9 rfl rfl (by first | rfl | omega) rfl ?_; clear hF a; intro a hF
 revert a; refine Bv rfl rfl (show (((123 : UInt8).toNat : Int) == 123) = true from rfl) (Md 6 [0,2,3,4,20] rfl (Nx (Ct rfl (Sq (Rg (Mv 1 rfl (St hM 0 rfl ?_)))))))
 clear hM; intro w hM
 refine Md 0 [0,2,3,4] rfl (Nx (Sq (Rg (Mv 2 rfl ?_)))); intro a hF
 refine op_sliceFrom_str hF rfl 0 rfl rfl rfl Tryz.underlying9 rfl rfl rfl (Nat.zero_le _) ?_; clear hF a; intro a hF
 rw [List.drop_zero] at hF
 revert a; refine Mv 1 rfl (St hM 0 rfl ?_)
 clear hM; intro w hM
 refine Md 0 [2,3,4] rfl (Nx (Ex (Ot (Op' rfl (Ot (Ot (Ob (Nx (Sq (Sq (Rg ?_))))))))))); intro a hF
 refine op_loadA hF hM rfl 0 rfl rfl rfl Tryz.underlying135 rfl (by kernel_rfl) rfl rfl ?_; clear hF a; intro a hF
 revert a; refine Cm hM rfl Tryz.func92 (by kernel_rfl) rfl (exists_walk 5 (123 :: T) [] 0 0 w (by decide)) ?_
 clear hM; intro w v hR hM hBe
 obtain rfl := hR
 refine Md 0 [2,3,4,119] rfl (Nx (Ct rfl (Rg (Mv 2 rfl (St hM 0 rfl ?_)))))
 clear hM; intro w hM
 refine Md 0 [2,3] rfl (Nx (Sq (Rg ?_))); intro a hF
 refine op_loadA hF hM rfl 0 rfl rfl rfl Tryz.underlying135 rfl (by kernel_rfl) rfl rfl ?_; clear hF a; intro a hF
 refine op_storeA hF hM rfl 1 rfl rfl (by kernel_rfl) rfl rfl rfl rfl (rfl) ?_; clear hF hM a; intro a w  hF hM
 revert a; refine Md 0 [2] rfl (Nx (Re ?_)); intro a hF
 exact retOne hF hM rfl (.cell 1 rfl rfl Tryz.underlying135 rfl (by kernel_rfl) .nil) ⟨_, rfl, rfl, hM.below⟩
end Go.Sx
namespace Go.Sx
open Go.RowKit Go.Proofs Js Go.Proofs.YtelonenjneonlaaGreatDoorW.PrintWords
theorem isArray_walk (k : Int) (raw str : Str) (f : Nat) (ix : Int) (w0 : World) (hr : k = 5 → raw ≠ []) (hl : raw.length ≤ 2 ^ 40) :
    Calls Tryz.prog 99 #[resV k raw str f ix] w0 (Ret fun v w' => (∃ b : Bool, v = .bool b ∧ (b = true ↔ k = 5 ∧ raw.head? = some 91)) ∧ Below w0.heap.size w0 w') := by
 have hM : Mem w0.heap.size w0 [] w0 := Mem.start (Nat.le_refl _)
 refine enter (l := [resV k raw str f ix]) 17 Tryz.func99 rfl rfl (fun a hF => ?_)
 replace hF : Fr 18 [(0, resV k raw str f ix)] a := hF
 refine seq (region ?_)
 refine op_box hF hM rfl rfl rfl rfl rfl rfl ?_; clear hF hM a; intro a w b1 hF hM
 revert a; refine Md 1 [1] rfl (Nx (Sq ?_))
 rcases Classical.em (k = 5) with h5 | h5
 ·
  have hb : (k == 5) = true := by simpa using h5
  obtain ⟨c, t, rfl⟩ : ∃ c t, raw = c :: t := by cases raw with | nil => exact absurd rfl (hr h5) | cons c t => exact ⟨c, t, rfl⟩
  refine Rg (Mv 1 rfl (Ld hM 0 rfl rfl (Mv 1 rfl ?_))); intro a hF
  rw [hb] at hF
  revert a; refine Mv 2 rfl (Ld hM 0 rfl rfl (Mv 1 rfl (Bv rfl rfl (decide_eq_true (show (((c :: t).length : Int) > 0) by simp only [List.length_cons]; omega)) (Mv 3 rfl (Ld hM 0 rfl rfl ?_))))); intro a hF
  refine guard_yes hF rfl rfl rfl rfl rfl rfl ?_
  refine op_index_str hF rfl (0) c rfl rfl rfl Tryz.underlying9 rfl rfl (by first | rfl | omega) rfl ?_; clear hF a; intro a hF
  revert a; refine Md 3 [2] rfl (Nx (Re ?_)); intro a hF
  refine retOne hF hM rfl (.tmp rfl .nil) ⟨_, rfl, ⟨_, rfl, ?_⟩, hM.below⟩
  rw [beq_dec (d := 91) (z := 91) rfl]
  simp [h5]
 have hb : (k == 5) = false := by simpa using h5
 refine Rg (Mv 1 rfl (Ld hM 0 rfl rfl (Mv 1 rfl ?_))); intro a hF
 rw [hb] at hF
 revert a; refine Md 13 [2] rfl (Nx (Re ?_)); intro a hF
 exact retOne hF hM rfl (.tmp rfl .nil) ⟨_, rfl, ⟨_, rfl, by simp [h5]⟩, hM.below⟩
end Go.Sx
namespace Go.Sx
open Go.RowKit Go.Proofs Js Go.Proofs.YtelonenjneonlaaGreatDoorW.PrintWords
theorem bytesString_walk (B : Nat) (w00 : World) (L : List Bk) (k b l c : Nat) (vs : List Value) (bs : Str) (w0 : World) (hM0 : Mem B w00 L w0) (hk : L[k]? = some (b, 5, vs)) (hv : vs.take l = u8s bs) (hl : l = bs.length) :
    Calls Tryz.prog 107 #[.slice (some ⟨b, 0, none⟩) l c] w0 (Ret fun v w' => v = .string (mkS bs) ∧ Below w0.heap.size w0 w') := by
 refine enter (l := [.slice (some ⟨b, 0, none⟩) l c]) 4 Tryz.func107 rfl rfl (fun a hF => ?_)
 replace hF : Fr 5 [(0, .slice (some ⟨b, 0, none⟩) l c)] a := hF
 revert a; refine Sq (Rg (Md 1 [0] rfl (Nx (Sq (Rg (Mv 1 rfl ?_)))))); intro a hF
 refine op_bytesStr hF hM0 rfl bs rfl rfl rfl rfl hk hv hl ?_; clear hF a; intro a hF
 revert a; exact Md 1 [2] rfl (Nx (Re (Y1 rfl rfl ⟨_, rfl, rfl, Below.refl _ _⟩)))
end Go.Sx
namespace Go.Sx
open Go.RowKit Go.Proofs Js Go.Proofs.YtelonenjneonlaaGreatDoorW.PrintWords
theorem KRow.at_ : ∀ {ks : List Mb} {xs : List Value}, KRow ks xs → ∀ {i : Nat} {m : Mb}, ks[i]? = some m → ∃ ix, ∀ j v, (resL 3 m.raw m.q 0 ix)[j]? = some v → xs[i * 6 + j]? = some v
  | k :: ks, xs, ⟨ix, ys, e, h⟩, 0, m, hm => by
    simp at hm; subst hm
    refine ⟨ix, fun j v hv => ?_⟩
    have hj := (List.getElem?_eq_some_iff.1 hv).1
    rw [e, Nat.zero_mul, Nat.zero_add, List.getElem?_append_left hj, hv]
  | k :: ks, xs, ⟨ix, ys, e, h⟩, i + 1, m, hm => by
    obtain ⟨ix2, h2⟩ := h.at_ (i := i) (m := m) (by simpa using hm)
    refine ⟨ix2, fun j v hv => ?_⟩
    have e1 : (i + 1) * 6 + j = (resL 3 k.raw k.q 0 ix).length + (i * 6 + j) := by simp [resL]; omega
    rw [e, e1, List.getElem?_append_right (Nat.le_add_right _ _), Nat.add_sub_cancel_left]
    exact h2 j v hv
theorem joinElems (hPF : PF) {B Bc b9 b10 g : Nat} {wB wr : World} {Lr Lx R : List Bk} {u : Str} {ts : List Str} {l : List Nd} {mss : List (List Mb)} (hG : Glob B wB) (hI : JInv B wB Lr b9 g Bc Lx [] wr (R ++ Lx)) (hx : (b10, 147, [.map (some g)]) ∈ Lx) (hre : Js.Rest u (ts.zip (l.map Nd.kind))) (hk : ∀ n ∈ l, n.kind = 6) (hlm : mss.length = ts.length)
    (hob : ∀ (j : Nat) (t : Str) (m : List Mb), ts[j]? = some t → mss[j]? = some m → ∃ n, l[j]? = some n ∧ OB t n m) (hall : ∀ m ∈ mss.flatten, Ins m.key ∧ (∃ nd, Shows m.val (.v nd)) ∧ m.key.length ≤ 65536 ∧ m.val.length ≤ 65536) (hcnt : ∀ (j : Nat) (m : List Mb), mss[j]? = some m → (mss.take j).flatten.length + m.length ≤ 65536)
    (hu : u.length ≤ 65536) (hzl : (ts.zip (l.map Nd.kind)).length = mss.length) {w : World} (hM : Mem Bc wr (R ++ Lx) w) :
    Calls Tryz.prog 95 #[resV 5 (91 :: u) [] 0 0, .func (.func 105) #[] [.pointer (some ⟨b10, 0, none⟩), .pointer (some ⟨b9, 0, none⟩)].toArray] w
      (Ret fun v w' => v = .tuple #[] ∧ ∃ wc' Lc', JInv B wB Lr b9 g Bc Lx mss.flatten wc' Lc' ∧ Mem Bc wc' Lc' w') := by
  refine (forEachArr_walk hPF Tryz.func105 (by kernel_rfl) rfl _ (fun j wc Lc => JInv B wB Lr b9 g Bc Lx (mss.take j).flatten wc Lc) (fun _ _ _ h => h.glob hG) u _ hre [] 0 0 ?_ _ w _ (by simpa using hI) hM (by omega)).mono ?_
  · intro j t k L0 Lc wc w kc str fl ix hjt hkc hI hM
    have hjl := (List.getElem?_eq_some_iff.1 hjt).1
    have h4 := lens_take hjt
    have h5 := lens_le (ts.zip (l.map Nd.kind)) (j + 1)
    have h6 := hre.lens
    obtain ⟨n, hn, ht, rfl⟩ := zip_get hjt
    obtain ⟨m, hm⟩ : ∃ m, mss[j]? = some m := ⟨_, List.getElem?_eq_getElem (by omega)⟩
    obtain ⟨n', _, u', rfl, hu0, _, _, hre', hprd⟩ := hob j t m ht hm
    rw [hk n (List.mem_of_getElem? hn)]
    have hlu : (123 :: u').length = u'.length + 1 := rfl
    have hc := hcnt j m hm
    refine (joinElem_walk hPF hG hI hx hre' hu0 (by omega) hprd (fun x hx => ?_) (by omega) kc hkc str fl ix hM).mono ?_
    · have h7 := unq_len _ x.key (Nat.le_refl _)
      have h8 := (hall x (List.mem_flatten.2 ⟨m, List.mem_of_getElem? hm, hx⟩)).2.2.1
      simp only [maxLen, Mb.q]; omega
    · rintro e w' ⟨v, rfl, rfl, wc', Lc', hI', hM'⟩
      refine ⟨_, rfl, rfl, wc', Lc', ?_, hM'⟩
      rw [List.take_add_one, hm, List.flatten_append]
      simpa using hI'
  · rintro e w' ⟨v, rfl, rfl, wc', Lc', hI', hM'⟩
    rw [hzl, List.take_length] at hI'
    exact ⟨_, rfl, rfl, wc', Lc', hI', hM'⟩
set_option maxRecDepth 100000 in
theorem modJoin_walk (hPF : PF) {T txt : Str} {ks : List Str} {l : List Nd} (w0 : World) (hV : VchB w0) (hT : T.length ≤ 65536) (hs : Shows T (.v (.mk 5 txt ks l))) (hk : ∀ n ∈ l, n.kind = 6) (hp : ∃ r, paired (T ++ r) = true) :
    Calls Tryz.prog 71 #[.string (mkS T), .string (mkS [])] w0 (Ret fun v w' => (∃ R l', v = .string (mkS R) ∧ R.length ≤ 2 ^ 36 ∧ Shows R (.v (.mk 6 [] (dns (l.flatMap Nd.keys)) l'))) ∧ Below w0.heap.size w0 w') := by
 obtain ⟨u, ts, mss, rfl, hu0, hre, hlm, hob, hmq, htot, hall, hcnt, hzl⟩ := arr_objs hs hk hp hT
 have hM : Mem w0.heap.size w0 [] w0 := Mem.start (Nat.le_refl _)
 have hlT : (91 :: u).length = u.length + 1 := rfl
 have hdl := dds_len mss.flatten
 refine enter (l := [.string (mkS (91 :: u)), .string (mkS [])]) 69 Tryz.func71 rfl rfl (fun a hF => ?_)
 replace hF : Fr 71 [(0, .string (mkS (91 :: u))), (1, .string (mkS []))] a := hF
 revert a; refine Sq (Rg (Md 1 [0,1] rfl (Nx (Sq (Rg (Mv 1 rfl (Cm hM rfl Tryz.func91 (by kernel_rfl) rfl (parse_walk91 u _ (by omega)) ?_)))))))
 clear hM; intro w v hR hM hBe
 obtain rfl := hR
 intro a hF
 refine op_alloc hF hM rfl (vs := [.int .i64 0, .string (mkS []), .string (mkS []), .float .f64 0, .int .i64 0, .slice none 0 0]) rfl rfl rfl (by kernel_rfl) ?_; clear hF hM a; intro a w b5 hF hM
 refine op_storeA hF hM rfl 0 rfl rfl (by kernel_rfl) rfl rfl rfl rfl (rfl) ?_; clear hF hM a; intro a w  hF hM
 revert a; refine Md 0 [0,1,5] rfl (Nx (Sq (Sq (Rg ?_)))); intro a hF
 refine op_loadA hF hM rfl 0 rfl rfl rfl Tryz.underlying135 rfl (by kernel_rfl) rfl rfl ?_; clear hF a; intro a hF
 revert a; refine Cm hM rfl Tryz.func99 (by kernel_rfl) rfl (isArray_walk 5 (91 :: u) [] 0 0 w (fun _ => by simp) (by omega)) ?_
 clear hM; intro w v hR hM hBe
 obtain ⟨b, rfl, hb⟩ := hR
 have hbt : b = true := hb.2 ⟨rfl, rfl⟩
 subst hbt
 refine Md 1 [0,1,5,16] rfl (Nx (Cf rfl (Sk (Nx (Sq (Rg ?_)))))); intro a hF
 refine op_alloc hF hM rfl (vs := [.bool false]) rfl rfl rfl (by kernel_rfl) ?_; clear hF hM a; intro a w b6 hF hM
 revert a; refine Md 0 [1,5,6] rfl (Nx (Sq (Sq (Rg (Mv 1 rfl ?_))))); intro a hF
 refine op_neqStr hF rfl rfl rfl rfl rfl rfl ?_; clear hF a; intro a hF
 revert a; refine Md 0 [1,5,6,19] rfl (Nx (C1 rfl (fun ht => absurd ht (by decide)) (Sk (Nx (Sq (Rg ?_)))))); intro a hF
 refine op_alloc hF hM rfl (vs := [.slice none 0 0]) rfl rfl rfl (by kernel_rfl) ?_; clear hF hM a; intro a w b7 hF hM
 revert a; refine Md 0 [5,6,7] rfl (Nx (Sq (Rg (Ld hM 0 rfl rfl ?_)))); intro a hF
 refine op_build hF hM rfl (m := 1) (parts := [(0, .const (.int .u8 123))]) (vals := [(0, .int .u8 123)]) [.int .u8 123] rfl rfl rfl rfl (by decide) (by decide) (by kernel_rfl) ?_; clear hF hM a; intro a w b25 hF hM
 refine op_appendNil hF hM rfl [.int .u8 123] rfl rfl rfl rfl rfl (by decide) rfl (fun j u hj => hM.cells (k := 0) rfl j hj) (fun u hu => by rw [List.mem_singleton.1 hu]; rfl) (by decide) ?_
 clear hF hM a; intro a w bq vs hF hr1 hr2 hrow hM
 replace hM := hM.drop (List.Sublist.cons₂ _ (List.Sublist.cons _ (List.Sublist.refl _)))
 revert a; refine St hM 1 rfl ?_
 clear hM; intro w hM
 refine Md 0 [5,6,7] rfl (Nx (Sq (Sq (Rg (Ld hM 2 rfl rfl (Md 0 [5,7,27] rfl (Nx (Cf rfl (Sq (Rg ?_)))))))))); intro a hF
 refine op_alloc hF hM rfl (vs := [.slice none 0 0]) rfl rfl rfl (by kernel_rfl) ?_; clear hF hM a; intro a w b9 hF hM
 revert a; refine Md 0 [5,7,9] rfl (Nx (Sq (Rg ?_))); intro a hF
 refine op_makeMap rfl hM ?_ a hF
 clear hF hM a; intro w g hmp hgB hgs hM a hF
 have hJ : JW w0.heap.size w0 ((b9, 146, [.slice none 0 0]) :: (bq, 5, vs) :: (b7, 66, [.slice (some ⟨bq, 0, none⟩) 1 vs.length]) :: (b6, 4, [.bool false]) :: [(b5, 135, resL 5 (91 :: u) [] 0 0)]) g w.heap.size [] w := ⟨hM, hmp, hM.base, hgB, hgs, hM.low⟩
 clear hM hmp hgs
 have hM : Mem w.heap.size w [] w := Mem.start (Nat.le_refl _)
 refine op_alloc hF hM rfl (vs := [.map none]) rfl rfl rfl (by kernel_rfl) ?_; clear hF hM a; intro a w b10 hF hM
 revert a; refine St hM 0 rfl ?_
 clear hM; intro w hM
 refine Md 0 [5,7,9,10] rfl (Nx (Sq (Rg (Gv rfl (fun _ hF => gives_loadA hF (hJ.now hM).mem 4 rfl Tryz.underlying135 rfl (by kernel_rfl) rfl rfl) ?_)))); intro a hF
 refine op_makeFunc hF rfl rfl rfl rfl rfl ?_; clear hF a; intro a hF
 revert a; refine Cl rfl Tryz.func95 (by kernel_rfl) rfl (joinElems (R := []) hPF hV ⟨[], .slice none 0 0, [], rfl, Row.nil 135 6, rfl, hJ⟩ (List.mem_singleton.2 rfl) hre hk hlm hob hall hcnt (by omega) hzl hM) ?_
 clear hM hJ; intro w v hR
 obtain ⟨rfl, wc', Lc', ⟨R, vk, xs, rfl, hRow, hK, hJ⟩, hM⟩ := hR
 have hmp := (hJ.now hM).map
 replace hM := hJ.all hM
 clear hJ
 obtain ⟨ok, ck, rfl⟩ := hRow.sl.shape
 replace hM := hM.perm (L' := (bq, 5, vs) :: (b7, 66, [.slice (some ⟨bq, 0, none⟩) (1) vs.length]) :: (b9, 146, [.slice ok (dds mss.flatten).length ck]) :: (b10, 147, [.map (some g)]) :: (b6, 4, [.bool false]) :: (b5, 135, resL 5 (91 :: u) [] 0 0) :: R) (pc fun x => by simp [ct, ct_append] <;> omega)
 refine Md 0 [7,9,10] rfl (Nx (Sq (Rg (Md 1 [7,9,10,11] rfl (Nx (Bo (Kp [7,9,10,11] rfl ?_))))))); intro a hF
 refine loopX (fun (i : Nat) a w => ∃ (bq : Nat) (vs : List Value), Fr 71 [(7, .pointer (some ⟨b7, 0, none⟩)), (9, .pointer (some ⟨b9, 0, none⟩)), (10, .pointer (some ⟨b10, 0, none⟩)), (11, .int .i64 (i : Int))] a ∧ Mem w0.heap.size w0 ((bq, 5, vs) :: (b7, 66, [.slice (some ⟨bq, 0, none⟩) ((jn mss.flatten ((dds mss.flatten).take i)).length + 1) vs.length]) :: (b9, 146, [.slice ok (dds mss.flatten).length ck]) :: (b10, 147, [.map (some g)]) :: (b6, 4, [.bool false]) :: (b5, 135, resL 5 (91 :: u) [] 0 0) :: R) w ∧ MpAt w g mss.flatten ∧ (jn mss.flatten ((dds mss.flatten).take i)).length + 1 ≤ vs.length ∧ vs.length ≤ maxLen ∧ vs.take ((jn mss.flatten ((dds mss.flatten).take i)).length + 1) = u8s (123 :: (jn mss.flatten ((dds mss.flatten).take i))) ∧ i ≤ (dds mss.flatten).length) (fun i => (dds mss.flatten).length - i) (0) ?_ (fun i a w hI => ?_)
 · exact ⟨bq, vs, hF, hM, hmp, hr1, hr2, hrow, Nat.zero_le _⟩
 clear hF hM
 clear hmp hr1 hr2 hrow
 obtain ⟨bq, vs, hF, hM, hmp, hr1, hr2, hrow, hik⟩ := hI
 have hXl := jn_len (ms := mss.flatten) (N := 65536) (fun m hm => (hall m hm).2.2) ((dds mss.flatten).take i) [] [] (fun k hk => dds_mem (List.mem_of_mem_take hk))
 have hXb : (jn mss.flatten ((dds mss.flatten).take i)).length ≤ 2 ^ 34 := by unfold jn; rw [List.length_take] at hXl; have : (min i (dds mss.flatten).length) * (2 * 65536 + 4) ≤ 65536 * (2 * 65536 + 4) := Nat.mul_le_mul (by omega) (Nat.le_refl _); simp only [List.length_nil] at hXl; omega
 revert a; refine Sq (Sq (Rg (Mv 1 rfl (Ld hM 2 rfl rfl (Md 2 [7,9,10,11,38] rfl (Nx (Ce rfl (fun ht => ?_) ((fun ht => ?_)))))))))
 ·
  have hin : i = (dds mss.flatten).length := by have := of_decide_eq_false ht; omega
  intro a hF
  rw [hin, List.take_length] at hM hr1 hrow hXb
  revert a; refine Ex (Ot (Ot (Ob (Nx (Sq (Rg (Ld hM 1 rfl rfl ?_)))))))
  have hM2 : Mem w.heap.size w [] w := Mem.start (Nat.le_refl _)
  intro a hF
  refine op_buildS hF hM2 elt66 rfl rfl rfl rfl rfl rfl rfl (by decide) ?_
  clear hF hM2 a; intro a w b67 hF hM2
  have hmp2 := hmp.below hM2.below hmp.lt
  replace hM := hM.lift hM2
  clear hmp hM2
  have hmp := hmp2
  clear hmp2
  simp only [List.singleton_append] at hM
  refine Tb (k := 1) (k2 := 0) hM hmp 125 rfl hr1 hr2 (by omega) ?_ a hF
  clear hF hM hmp hr1 hr2 a; intro w bq6 vs6 hr1 hr2 hrN hM hmp a hF
  simp only [List.eraseIdx_cons_succ, List.eraseIdx_cons_zero] at hM
  replace hM := hM.drop (List.Sublist.cons₂ _ (List.Sublist.cons _ (List.Sublist.refl _)))
  rw [hrow, ← u8s_append] at hrN
  clear hrow
  have hrow := hrN
  clear hrN
  refine Ts hM hmp hgB 1 rfl ?_ a hF
  clear hF hM hmp a; intro w hM hmp a hF
  simp only [List.set_cons_succ, List.set_cons_zero] at hM
  revert a; refine Md 0 [7] rfl (Nx (Sq (Rg (Ld hM 1 rfl rfl (Cm hM rfl Tryz.func107 (by kernel_rfl) rfl (bytesString_walk _ _ _ 0 _ _ _ _ (123 :: jn mss.flatten (dds mss.flatten) ++ [125]) w hM rfl hrow (by simp)) ?_)))))
  clear hM; intro w v hR hM hBe
  obtain rfl := hR
  refine Md 1 [4] rfl (Nx (Re ?_))
  obtain ⟨l', hl'⟩ := jn_obj (ms := mss.flatten) (ks := (dds mss.flatten)) (fun k hk => ⟨(hall k (dds_mem hk)).1, by obtain ⟨v, hv⟩ := dds_val hk; obtain ⟨m, hm, _, e⟩ := lastV_mem hv; obtain ⟨nd, hnd⟩ := (hall m hm).2.1; exact ⟨v, nd, hv, by rw [← e]; exact hnd⟩⟩)
  intro a hF
  rw [dns_map, hmq] at hl'
  exact ret1 hF rfl rfl ⟨_, rfl, ⟨_, l', rfl, by simp; omega, hl'⟩, hM.below⟩
 have hi : i < (dds mss.flatten).length := by have := of_decide_eq_true ht; omega
 obtain ⟨kx, hkx⟩ : ∃ m, (dds mss.flatten)[i]? = some m := ⟨_, List.getElem?_eq_getElem hi⟩
 have hkm := List.mem_of_getElem? hkx
 obtain ⟨gk, capk, hvk, hcell⟩ := hRow.sl.row (by omega)
 have hok : ok = some ⟨gk, 0, none⟩ := by cases hvk; rfl
 subst hok
 obtain ⟨ixk, hkc⟩ := hK.at_ hkx
 obtain ⟨vv, hvv⟩ := dds_val hkm
 have hkl := (hall kx (dds_mem hkm)).2.2.1
 have hvl : vv.length ≤ 65536 := by obtain ⟨m, hm, _, rfl⟩ := lastV_mem hvv; exact (hall m hm).2.2.2
 have hql : kx.q.length ≤ maxLen := by have := unq_len _ kx.key (Nat.le_refl _); simp only [maxLen, Mb.q]; omega
 have hrl : kx.raw.length = kx.key.length + 2 := by simp [Mb.raw]
 have e6 : jn mss.flatten ((dds mss.flatten).take (i + 1)) = jn1 mss.flatten (jn mss.flatten ((dds mss.flatten).take i)) kx := by rw [List.take_add_one, hkx]; exact jn_snoc _ _ _
 obtain ⟨Y, hY⟩ : ∃ Y, Y = (if (jn mss.flatten ((dds mss.flatten).take i)) = [] then [] else (jn mss.flatten ((dds mss.flatten).take i)) ++ [44]) := ⟨_, rfl⟩
 have hYb : Y.length ≤ 2 ^ 34 + 1 := by rw [hY]; split; simp; rw [List.length_append]; simp; omega
 have hXi : (jn mss.flatten ((dds mss.flatten).take i)) = [] ↔ i = 0 := by rw [jn_nil, List.take_eq_nil_iff]; exact ⟨fun h => h.elim id (fun h => by rw [h] at hi; simp at hi), .inl⟩
 refine Sk (Nx (Sq (Bo ?_))); intro a hF
 refine cut (fun a w => ∃ (bq : Nat) (vs : List Value), Fr 71 [(7, .pointer (some ⟨b7, 0, none⟩)), (9, .pointer (some ⟨b9, 0, none⟩)), (10, .pointer (some ⟨b10, 0, none⟩)), (11, .int .i64 (i : Int))] a ∧ Mem w0.heap.size w0 ((bq, 5, vs) :: (b7, 66, [.slice (some ⟨bq, 0, none⟩) (Y.length + 1) vs.length]) :: (b9, 146, [.slice (some ⟨gk, 0, none⟩) (dds mss.flatten).length ck]) :: (b10, 147, [.map (some g)]) :: (b6, 4, [.bool false]) :: (b5, 135, resL 5 (91 :: u) [] 0 0) :: R) w ∧ MpAt w g mss.flatten ∧ Y.length + 1 ≤ vs.length ∧ vs.length ≤ maxLen ∧ vs.take (Y.length + 1) = u8s (123 :: Y)) ?_ (fun a w h => ?_)
 ·
  revert a; refine Sq ?_
  rcases Classical.em ((jn mss.flatten ((dds mss.flatten).take i)) = []) with hX0 | hX0
  ·
   have hi0 := hXi.1 hX0
   rw [if_pos hX0] at hY
   have eY : (jn mss.flatten ((dds mss.flatten).take i)) = Y := hX0.trans hY.symm
   refine Rg (Md 2 [7,9,10,11,42] rfl (Nx (C1 rfl (fun ht => absurd (of_decide_eq_true ht) (by omega)) (Sk (Kp [7,9,10,11] rfl ?_))))); intro a hF
   rw [eY] at hM hr1 hrow
   exact ⟨bq, vs, hF, hM, hmp, hr1, hr2, hrow⟩
  have hi0 : 0 < i := Nat.pos_of_ne_zero fun e => hX0 (hXi.2 e)
  rw [if_neg hX0] at hY
  have eY : (jn mss.flatten ((dds mss.flatten).take i)).length + 1 + 1 = Y.length + 1 := by rw [hY]; simp
  refine Rg (Md 2 [7,9,10,11,42] rfl (Nx (D2 rfl (fun ht => absurd (of_decide_eq_false ht) (by omega)) (Rg (Ld hM 1 rfl rfl ?_)))))
  have hM2 : Mem w.heap.size w [] w := Mem.start (Nat.le_refl _)
  intro a hF
  refine op_buildS hF hM2 elt66 rfl rfl rfl rfl rfl rfl rfl (by decide) ?_
  clear hF hM2 a; intro a w b44 hF hM2
  have hmp2 := hmp.below hM2.below hmp.lt
  replace hM := hM.lift hM2
  clear hmp hM2
  have hmp := hmp2
  clear hmp2
  simp only [List.singleton_append] at hM
  refine Tb (k := 1) (k2 := 0) hM hmp 44 rfl hr1 hr2 (by omega) ?_ a hF
  clear hF hM hmp hr1 hr2 a; intro w bq vs hr1 hr2 hrN hM hmp a hF
  simp only [List.eraseIdx_cons_succ, List.eraseIdx_cons_zero] at hM
  replace hM := hM.drop (List.Sublist.cons₂ _ (List.Sublist.cons _ (List.Sublist.refl _)))
  rw [hrow, ← u8s_append] at hrN
  clear hrow
  have hrow := hrN
  clear hrN
  refine Ts hM hmp hgB 1 rfl ?_ a hF
  clear hF hM hmp a; intro w hM hmp a hF
  simp only [List.set_cons_succ, List.set_cons_zero] at hM
  revert a; refine Md 0 [7,9,10,11] rfl ?_; intro a hF
  rw [eY] at hM hr1 hrow
  exact ⟨bq, vs, hF, hM, hmp, hr1, hr2, by rw [hrow, hY]; rfl⟩
 clear hF hM
 clear hmp hr1 hr2 hrow
 obtain ⟨bq, vs, hF, hM, hmp, hr1, hr2, hrow⟩ := h
 revert a; refine Sq (Su 6 (by kernel_rfl) (by kernel_rfl) ?_)
 replace hM := hM.drew
 intro a hF
 replace hmp : MpAt (World.drew w) g mss.flatten := hmp.of rfl
 generalize World.drew w = w at *
 revert a; refine Ls hM 1 rfl rfl (Ls hM 2 rfl rfl (Ms 1 rfl (Gs rfl (fun _ hF => gives_indexAddrS (sz := 6) (i) hF rfl Tryz.underlying146 (by kernel_rfl) rfl rfl rfl hi _) (Ms 1 rfl (Gs rfl (fun _ hF => gives_load1 hF rfl Tryz.underlying9 rfl rfl ((show w.cell? ⟨gk, 0 + i * 6 + 1, none⟩ = some (.string (mkS kx.raw)) from by rw [Nat.zero_add]; exact hcell hM (by intro z hz; simp [hz]) _ _ (hkc 1 _ rfl)))) (Sd ?_)))))); intro a hF
 simp only [List.drop_succ_cons, List.drop_zero]
 refine Ta (k := 0) hM hmp rfl hr1 hr2 (by omega) ?_ a hF
 clear hF hM hmp hr1 hr2 a; intro w bq3 vs3 hr1 hr2 hrN hM hmp a hF
 simp only [List.eraseIdx_cons_zero] at hM
 rw [hrow, ← u8s_append] at hrN
 clear hrow
 have hrow := hrN
 clear hrN
 refine Ts hM hmp hgB 1 rfl ?_ a hF
 clear hF hM hmp a; intro w hM hmp a hF
 simp only [List.set_cons_succ, List.set_cons_zero] at hM
 revert a; refine Md 0 [7,9,10,11] rfl (Nx (Sq (Rg (Ld hM 1 rfl rfl ?_))))
 have hM2 : Mem w.heap.size w [] w := Mem.start (Nat.le_refl _)
 intro a hF
 refine op_buildS hF hM2 elt66 rfl rfl rfl rfl rfl rfl rfl (by decide) ?_
 clear hF hM2 a; intro a w b54 hF hM2
 have hmp2 := hmp.below hM2.below hmp.lt
 replace hM := hM.lift hM2
 clear hmp hM2
 have hmp := hmp2
 clear hmp2
 simp only [List.singleton_append] at hM
 refine Tb (k := 1) (k2 := 0) hM hmp 58 rfl hr1 hr2 (by omega) ?_ a hF
 clear hF hM hmp hr1 hr2 a; intro w bq4 vs4 hr1 hr2 hrN hM hmp a hF
 simp only [List.eraseIdx_cons_succ, List.eraseIdx_cons_zero] at hM
 replace hM := hM.drop (List.Sublist.cons₂ _ (List.Sublist.cons _ (List.Sublist.refl _)))
 rw [hrow, ← u8s_append] at hrN
 clear hrow
 have hrow := hrN
 clear hrN
 refine Ts hM hmp hgB 1 rfl ?_ a hF
 clear hF hM hmp a; intro w hM hmp a hF
 simp only [List.set_cons_succ, List.set_cons_zero] at hM
 revert a; refine Md 0 [7,9,10,11] rfl (Nx ?_); intro a hF
 refine mix (fun w => Mem w0.heap.size w0 ((bq4, 5, vs4) :: (b7, 66, [.slice (some ⟨bq4, 0, none⟩) (Y.length + 1 + kx.raw.length + 1) vs4.length]) :: (b9, 146, [.slice (some ⟨gk, 0, none⟩) (dds mss.flatten).length ck]) :: (b10, 147, [.map (some g)]) :: (b6, 4, [.bool false]) :: (b5, 135, resL 5 (91 :: u) [] 0 0) :: R) w ∧ MpAt w g mss.flatten) 9 (by kernel_rfl) ?_
 replace hM := hM.drew
 replace hmp : MpAt (World.drew w) g mss.flatten := hmp.of rfl
 generalize World.drew w = w at *
 refine mtakeL 0 hF ⟨hM, hmp⟩ rfl (by kernel_rfl) (by kernel_rfl) (by kernel_rfl) (by kernel_rfl) (by kernel_rfl) (fun _ _ _ h => h) rfl rfl (y_plain rfl (fun w hM => gives_load hF hM.1 1 rfl Tryz.underlying66 rfl rfl rfl rfl)) ?_; clear hF a; intro a hF
 refine mtakeL 1 hF ⟨hM, hmp⟩ rfl (by kernel_rfl) (by kernel_rfl) (by kernel_rfl) (by kernel_rfl) (by kernel_rfl) (fun _ _ _ h => h) rfl rfl (y_plain rfl (fun w hM => gives_load hF hM.1 3 rfl Tryz.underlying147 rfl rfl rfl rfl)) ?_; clear hF a; intro a hF
 refine mtakeL 2 hF ⟨hM, hmp⟩ rfl (by kernel_rfl) (by kernel_rfl) (by kernel_rfl) (by kernel_rfl) (by kernel_rfl) (fun _ _ _ h => h) rfl rfl (y_plain rfl (fun w hM => gives_load hF hM.1 2 rfl Tryz.underlying146 rfl rfl rfl rfl)) ?_; clear hF a; intro a hF
 refine mtakeP 3 hF (.inl ⟨hM, hmp⟩) rfl (by kernel_rfl) (by kernel_rfl) (by kernel_rfl) rfl (fun _ _ _ h => h) rfl rfl (y_plain rfl (fun w _ => gives_move hF rfl rfl _)) ?_; clear hF a; intro a hF
 refine mtakeP 4 hF (.inl ⟨hM, hmp⟩) rfl (by kernel_rfl) (by kernel_rfl) (by kernel_rfl) rfl (fun _ _ _ h => h) rfl rfl (y_plain rfl (fun w _ => gives_indexAddrS (sz := 6) (i) hF rfl Tryz.underlying146 (by kernel_rfl) rfl rfl rfl hi _)) ?_; clear hF a; intro a hF
 refine mtakeL 5 hF ⟨hM, hmp⟩ rfl (by kernel_rfl) (by kernel_rfl) (by kernel_rfl) (by kernel_rfl) (by kernel_rfl) (fun _ _ _ h => h) rfl rfl (y_plain rfl (fun w hM => gives_loadMid hF rfl rfl Tryz.underlying135 rfl (by kernel_rfl) (cs := resL 3 kx.raw kx.q 0 ixk) (fun j v hv => by rw [Nat.zero_add]; exact hcell hM.1 (by intro z hz; simp [hz]) _ _ (hkc j v hv)))) ?_; clear hF a; intro a hF
 refine malone 6 rfl (by kernel_rfl) ?_
 revert a; refine Cm hM rfl Tryz.func101 (by kernel_rfl) rfl (resString_walk kx.raw kx.q 0 ixk w) ?_
 clear hM; intro w v hR hM hBe
 obtain rfl := hR
 intro a hF
 replace hmp := hmp.below hBe hmp.lt
 clear hBe
 refine mstep (.inl (⟨hM, hmp⟩)) ?_
 refine malone 7 rfl (by kernel_rfl) ?_
 obtain ⟨k3, s3, f3, i3, hrun⟩ := hmp.look1 hql hvv
 revert a; refine Gv rfl (fun _ hF => gives_lookup hF rfl rfl rfl hrun) ?_; intro a hF
 refine mstep (.inl (⟨hM, hmp⟩)) ?_
 refine malone 8 rfl (by kernel_rfl) ?_
 revert a; refine Gv rfl (fun _ hF => gives_field hF rfl rfl (run_fieldRaw k3 vv s3 f3 i3 w)) ?_; intro a hF
 refine mstep (.inl (⟨hM, hmp⟩)) ?_
 refine malone 9 rfl (by kernel_rfl) ?_
 refine Ta (k := 0) hM hmp rfl hr1 hr2 (by omega) ?_ a hF
 clear hF hM hmp hr1 hr2 a; intro w bq5 vs5 hr1 hr2 hrN hM hmp a hF
 simp only [List.eraseIdx_cons_zero] at hM
 rw [hrow, ← u8s_append] at hrN
 clear hrow
 have hrow := hrN
 clear hrN
 refine mstep (.inr (by kernel_rfl)) ?_
 refine mtail 10 (by kernel_rfl) (by kernel_rfl) ?_
 simp only [List.drop_succ_cons, List.drop_zero]
 refine Ts hM hmp hgB 1 rfl ?_ a hF
 clear hF hM hmp a; intro w hM hmp a hF
 simp only [List.set_cons_succ, List.set_cons_zero] at hM
 revert a; refine Md 0 [7,9,10,11] rfl (Nb (Nx (Rg (Mv 1 rfl (Sm (((i + 1 : Nat) : Int)) rfl (by omega) (Md 1 [7,9,10,11] rfl ?_))))))
 have e5 : jn mss.flatten ((dds mss.flatten).take (i + 1)) = Y ++ (kx.raw ++ 58 :: vv) := by rw [e6, jn1, hvv, ← hY]; rfl
 have e5l : (jn mss.flatten ((dds mss.flatten).take (i + 1))).length + 1 = Y.length + 1 + kx.raw.length + 1 + vv.length := by rw [e5]; simp; omega
 intro a hF
 exact ⟨i + 1, ⟨bq5, vs5, hF, by rw [e5l]; exact hM, hmp, by rw [e5l]; exact hr1, hr2, by rw [e5l, e5]; simpa using hrow, hi⟩, by omega⟩
end Go.Sx
namespace Go.Sx
open Go.RowKit Go.Proofs Js Go.Proofs.YtelonenjneonlaaGreatDoorW.PrintWords
theorem doorJoin_walk (hPF : PF) {T txt : Str} {ks : List Str} {l : List Nd} (w0 : World) (hV : VchB w0) (hT : T.length ≤ 65536) (hs : Shows T (.v (.mk 5 txt ks l))) (hk : ∀ n ∈ l, n.kind = 6) (hp : ∃ r, paired (T ++ r) = true) :
    Calls Tryz.prog 45 #[.string (mkS T), .string (mkS [])] w0 (Ret fun v w' => (∃ R l', v = .string (mkS R) ∧ R.length ≤ 2 ^ 36 ∧ Shows R (.v (.mk 6 [] (dns (l.flatMap Nd.keys)) l'))) ∧ Below w0.heap.size w0 w') := by
 have hM : Mem w0.heap.size w0 [] w0 := Mem.start (Nat.le_refl _)
 refine enter (l := [.string (mkS T), .string (mkS [])]) 6 Tryz.func45 rfl rfl (fun a hF => ?_)
 replace hF : Fr 8 [(0, .string (mkS T)), (1, .string (mkS []))] a := hF
 revert a; refine Sq (Rg (Md 1 [0,1] rfl (Nx (Sq (Rg (Mv 2 rfl (Cm hM rfl Tryz.func71 (by kernel_rfl) rfl (modJoin_walk hPF _ hV hT hs hk hp) ?_)))))))
 clear hM; intro w v hR hM hBe
 obtain ⟨R, l', rfl, hRl, hRs⟩ := hR
 exact Md 1 [4] rfl (Nx (Re (Y1 rfl rfl ⟨_, rfl, ⟨_, l', rfl, hRl, hRs⟩, hM.below⟩)))
theorem gjJoin_walk (hPF : PF) {T txt : Str} {ks : List Str} {l : List Nd} (w0 : World) (hV : VchB w0) (hT : T.length ≤ 65536) (hs : Shows T (.v (.mk 5 txt ks l))) (hk : ∀ n ∈ l, n.kind = 6) (hp : ∃ r, paired (T ++ r) = true) :
    Calls Tryz.prog 22 #[.string (mkS T), .string (mkS [])] w0 (Ret fun v w' => (∃ R l', v = .string (mkS R) ∧ R.length ≤ 2 ^ 36 ∧ Shows R (.v (.mk 6 [] (dns (l.flatMap Nd.keys)) l'))) ∧ Below w0.heap.size w0 w') := by
 have hM : Mem w0.heap.size w0 [] w0 := Mem.start (Nat.le_refl _)
 refine enter (l := [.string (mkS T), .string (mkS [])]) 6 Tryz.func22 rfl rfl (fun a hF => ?_)
 replace hF : Fr 8 [(0, .string (mkS T)), (1, .string (mkS []))] a := hF
 revert a; refine Sq (Rg (Md 1 [0,1] rfl (Nx (Sq (Rg (Mv 2 rfl (Cm hM rfl Tryz.func45 (by kernel_rfl) rfl (doorJoin_walk hPF _ hV hT hs hk hp) ?_)))))))
 clear hM; intro w v hR hM hBe
 obtain ⟨R, l', rfl, hRl, hRs⟩ := hR
 exact Md 1 [4] rfl (Nx (Re (Y1 rfl rfl ⟨_, rfl, ⟨_, l', rfl, hRl, hRs⟩, hM.below⟩)))
end Go.Sx
namespace Go.Sx
open Go.RowKit Go.Proofs Js Go.Proofs.YtelonenjneonlaaGreatDoorW.PrintWords
theorem copyCheck_walk {Bc : Nat} {wc : World} {L : List Bk} {b : Nat} {p : Option Addr} {s : Value} (hp : p = none ∨ p = some ⟨b, 0, none⟩) {w0 : World} (hM0 : Mem Bc wc ((b, 139, [.pointer p, s]) :: L) w0) :
    Calls Tryz.prog 138 #[.pointer (some ⟨b, 0, none⟩)] w0 (Ret fun v w' => v = .tuple #[] ∧ Mem Bc wc ((b, 139, [.pointer (some ⟨b, 0, none⟩), s]) :: L) w') := by
 have hM := hM0
 refine enter (l := [.pointer (some ⟨b, 0, none⟩)]) 19 Tryz.func138 rfl rfl (fun a hF => ?_)
 replace hF : Fr 20 [(0, .pointer (some ⟨b, 0, none⟩))] a := hF
 revert a; refine Sq ?_
 rcases hp with rfl | rfl
 ·
  refine Rg (Mv 3 rfl (Ld hM 0 rfl rfl (Gv rfl (fun _ hF => gives_eqNil hF rfl rfl rfl _) (Md 0 [0,6] rfl (Nx (Ct rfl (Rg (Mv 2 rfl (Gv rfl (fun _ hF => gives_toUnsafe (k := 0) hF hM rfl rfl rfl (Nat.succ_pos _)) (Gv rfl (fun _ hF => gives_noEscape hF rfl rfl _) (Gv rfl (fun _ hF => gives_fromUnsafe (k := 0) hF hM rfl rfl rfl rfl) (Mv 2 rfl (St hM 0 rfl ?_)))))))))))))
  clear hM; intro w hM
  exact Md 0 [] rfl (Z0 rfl ⟨_, rfl, rfl, hM⟩)
 exact Rg (Mv 3 rfl (Ld hM 0 rfl rfl (Gv rfl (fun _ hF => gives_eqNil hF rfl rfl rfl _) (Md 0 [0,6] rfl (Nx (Cf rfl (Sq (Rg (Mv 3 rfl (Ld hM 0 rfl rfl (Mv 1 rfl (Gv rfl (fun _ hF => gives_neqSelf hF rfl rfl rfl _) (Md 0 [19] rfl (Nx (Cf rfl (Sk (Z0 rfl ⟨_, rfl, rfl, hM⟩)))))))))))))))))
end Go.Sx
namespace Go.Sx
open Go.RowKit Go.Proofs Js Go.Proofs.YtelonenjneonlaaGreatDoorW.PrintWords
theorem writeByte_walk {Bc : Nat} {wc : World} {L R : List Bk} {b m : Nat} {p : Option Addr} {s : Value} {xs : List Value} (c : UInt8) (hp : p = none ∨ p = some ⟨b, 0, none⟩) (hR : Row 5 1 R s m xs) (hm : m ≤ 2 ^ 39) {w0 : World} (hM0 : Mem Bc wc ((b, 139, [.pointer p, s]) :: (R ++ L)) w0) :
    Calls Tryz.prog 94 #[.pointer (some ⟨b, 0, none⟩), .int .u8 (c.toNat : Int)] w0 (Ret fun v w' => v = .nilIface ∧ ∃ R' s', Row 5 1 R' s' (m + 1) (xs ++ u8s [c]) ∧ Mem Bc wc ((b, 139, [.pointer (some ⟨b, 0, none⟩), s']) :: (R' ++ L)) w') := by
 have hM := hM0
 have hone := hR.sl.one
 refine enter (l := [.pointer (some ⟨b, 0, none⟩), .int .u8 (c.toNat : Int)]) 15 Tryz.func94 rfl rfl (fun a hF => ?_)
 replace hF : Fr 17 [(0, .pointer (some ⟨b, 0, none⟩)), (1, .int .u8 (c.toNat : Int))] a := hF
 revert a; refine Sq (Rg (Md 1 [0,1] rfl (Nx (Sq (Rg (Mv 1 rfl (Cl rfl Tryz.func138 (by kernel_rfl) rfl (copyCheck_walk hp hM) ?_)))))))
 clear hM; intro w v hR2
 obtain ⟨rfl, hM⟩ := hR2
 refine Md 0 [0,1] rfl (Nx (Sq (Rg (Mv 4 rfl (Ld hM 0 rfl rfl (Mv 1 rfl ?_)))))); intro a hF
 refine op_buildS hF hM elt66 rfl rfl rfl rfl rfl rfl rfl (by decide) ?_; clear hF hM a; intro a w b13 hF hM
 replace hM := hM.perm (L' := R ++ ((b13, 5, [.int .u8 (c.toNat : Int)]) :: (b, 139, [.pointer (some ⟨b, 0, none⟩), s]) :: L)) (pc fun x => by simp [ct, ct_append] <;> omega)
 refine op_appendR hF elt66 hR hM (sl_one (b := b13) (e := 5) (m := 1) (cs := [.int .u8 (c.toNat : Int)]) rfl) (by simp) (by simp [Value.oneCell']) (by omega) rfl rfl rfl rfl rfl rfl ?_; clear hF hM a; intro a w R' s' hF hR' hM
 replace hM := hM.sub (L' := (b, 139, [.pointer (some ⟨b, 0, none⟩), s]) :: (R' ++ L)) [(b13, 5, [.int .u8 (c.toNat : Int)])] (pc fun x => by simp [ct, ct_append] <;> omega)
 obtain ⟨o', c', rfl⟩ := hR'.sl.shape
 revert a; refine Mv 2 rfl (St hM 0 rfl ?_)
 clear hM; intro w hM
 exact Md 0 [] rfl (Nx (Sq (Rg (Md 1 [4] rfl (Nx (Re (Y1 rfl rfl ⟨_, rfl, rfl, R', _, hR', hM⟩)))))))
end Go.Sx
namespace Go.Sx
open Go.RowKit Go.Proofs Js Go.Proofs.YtelonenjneonlaaGreatDoorW.PrintWords
theorem builderString_walk {Bc : Nat} {wc : World} {L R : List Bk} {b : Nat} {s : Value} (t : Str) (hR : Row 5 1 R s t.length (u8s t)) (h0 : t ≠ []) (hl : t.length ≤ 2 ^ 46) {w0 : World} (hM0 : Mem Bc wc ((b, 139, [.pointer (some ⟨b, 0, none⟩), s]) :: (R ++ L)) w0) :
    Calls Tryz.prog 98 #[.pointer (some ⟨b, 0, none⟩)] w0 (Ret fun v w' => v = .string (mkS t) ∧ Mem Bc wc L w') := by
 have hM := hM0
 have h0' : 0 < t.length := List.length_pos_iff.2 h0
 obtain ⟨hxl, hR⟩ := hR
 obtain ⟨h1, h2, h3⟩ | ⟨bq, cap, vs, rfl, rfl, hmc, hcm, hvl, hvt⟩ := hR
 · exact absurd h3 (by omega)
 rw [Nat.mul_one] at hvl hvt
 subst hvl
 refine enter (l := [.pointer (some ⟨b, 0, none⟩)]) 13 Tryz.func98 rfl rfl (fun a hF => ?_)
 replace hF : Fr 14 [(0, .pointer (some ⟨b, 0, none⟩))] a := hF
 revert a; refine Sq (Rg (Md 1 [0] rfl (Nx (Sq (Su 10 (by kernel_rfl) (by kernel_rfl) ?_)))))
 replace hM := hM.drew
 skip
 refine Ms 3 rfl (Ls hM 0 rfl rfl (Gs rfl (fun _ hF => gives_sliceData hF rfl rfl (by omega) _) (Ms 3 rfl (Ls hM 0 rfl rfl (Ms 1 rfl (Sd ?_)))))); intro a hF
 simp only [List.drop_succ_cons, List.drop_zero]
 refine op_unsafeStr2 (b := bq) (hM.perm (L' := (bq, 5, vs) :: (b, 139, [.pointer (some ⟨b, 0, none⟩), .slice (some ⟨bq, 0, none⟩) t.length vs.length]) :: L) (pc fun x => by simp [ct, ct_append] <;> omega)) hvt rfl rfl rfl h0 hl ?_ a hF; clear hF hM a; intro w hM a hF
 revert a; exact Md 1 [2] rfl (Nx (Re (Y1 rfl rfl ⟨_, rfl, rfl, hM.drop (List.sublist_cons_self _ _)⟩)))
end Go.Sx
namespace Go.Sx
open Go.RowKit Go.Proofs Js Go.Proofs.YtelonenjneonlaaGreatDoorW.PrintWords
theorem writeString_walk {Bc : Nat} {wc : World} {L R : List Bk} {b m : Nat} {s : Value} {xs : List Value} (t : Str) (hR : Row 5 1 R s m xs) (hm0 : 0 < m) (hm : m ≤ 2 ^ 39) (ht : t.length ≤ 2 ^ 39) {w0 : World} (hM0 : Mem Bc wc ((b, 139, [.pointer (some ⟨b, 0, none⟩), s]) :: (R ++ L)) w0) :
    Calls Tryz.prog 97 #[.pointer (some ⟨b, 0, none⟩), .string (mkS t)] w0 (Ret fun v w' => (∃ v1 v2, v = .tuple #[v1, v2]) ∧ ∃ R' s', Row 5 1 R' s' (m + t.length) (xs ++ u8s t) ∧ Mem Bc wc ((b, 139, [.pointer (some ⟨b, 0, none⟩), s']) :: (R' ++ L)) w') := by
 have hM := hM0
 obtain ⟨hxl, hR⟩ := hR
 obtain ⟨h1, h2, rfl⟩ | ⟨bq, cap, vs, rfl, rfl, hmc, hcm, hvl, hvt⟩ := hR
 · exact absurd hm0 (Nat.lt_irrefl _)
 rw [Nat.mul_one] at hvl hvt
 subst hvl
 refine enter (l := [.pointer (some ⟨b, 0, none⟩), .string (mkS t)]) 17 Tryz.func97 rfl rfl (fun a hF => ?_)
 replace hF : Fr 19 [(0, .pointer (some ⟨b, 0, none⟩)), (1, .string (mkS t))] a := hF
 revert a; refine Sq (Rg (Md 2 [0,1] rfl (Nx (Sq (Rg (Mv 1 rfl (Cl rfl Tryz.func138 (by kernel_rfl) rfl (copyCheck_walk (.inr rfl) hM) ?_)))))))
 clear hM; intro w v hR2
 obtain ⟨rfl, hM⟩ := hR2
 refine Md 0 [0,1] rfl (Nx (Sq (Rg (Mv 4 rfl (Ld hM 0 rfl rfl (Mv 1 rfl ?_)))))); intro a hF
 refine op_append_str (k := 1) hF hM rfl rfl rfl rfl rfl rfl rfl hmc hcm (by omega) ?_
 clear hF hM a; intro a w bq2 vs2 hF hr1 hr2 hrow hM
 replace hM := hM.perm (L' := (b, 139, [.pointer (some ⟨b, 0, none⟩), .slice (some ⟨bq, 0, none⟩) m vs.length]) :: ((bq2, 5, vs2) :: L)) (pc fun x => by simp [ct, ct_append] <;> omega)
 revert a; refine Mv 2 rfl (St hM 0 rfl ?_)
 clear hM; intro w hM
 exact Md 0 [1] rfl (Nx (Sq (Rg (Md 4 [4,5] rfl (Nx (Re (Y2 rfl rfl rfl ⟨_, rfl, ⟨_, _, rfl⟩, [(bq2, 5, vs2)], _, ⟨by simp [u8s_length, hxl], .inr ⟨bq2, vs2.length, vs2, rfl, rfl, hr1, hr2, by simp, by rw [Nat.mul_one, hrow, hvt]⟩⟩, hM⟩)))))))
end Go.Sx
namespace Go.Sx
open Go.RowKit Go.Proofs Js Go.Proofs.YtelonenjneonlaaGreatDoorW.PrintWords
theorem keysCb_walk {Bc : Nat} {wc : World} {bb bi bo : Nat} {Lr L0 R : List Bk} {s : Value} {X : Str} {j : Nat} (hj : 0 < j ↔ X ≠ []) (hj2 : j ≤ 2 ^ 40) (hRw : Row 5 1 R s (91 :: X).length (u8s (91 :: X))) (hX : X.length ≤ 2 ^ 38) (x : Mb) (hx : x.key.length ≤ 2 ^ 38) (q : Str) (ixk : Int) (k : Int) (vraw str : Str) (f : Nat) (ix : Int) {w0 : World}
    (hM0 : Mem Bc wc (L0 ++ ((bb, 139, [.pointer (some ⟨bb, 0, none⟩), s]) :: (R ++ ((bi, 3, [.int .i64 ((j : Nat) : Int)]) :: (bo, 4, [.bool true]) :: Lr)))) w0) :
    Calls Tryz.prog 96 #[resV 3 (34 :: x.key ++ [34]) q 0 ixk, resV k vraw str f ix, .pointer (some ⟨bi, 0, none⟩), .pointer (some ⟨bb, 0, none⟩), .pointer (some ⟨bo, 0, none⟩)] w0
      (Ret fun v w' => v = .bool true ∧ ∃ R' s', Row 5 1 R' s' (91 :: kn1 X x).length (u8s (91 :: kn1 X x)) ∧ Mem Bc wc (L0 ++ ((bb, 139, [.pointer (some ⟨bb, 0, none⟩), s']) :: (R' ++ ((bi, 3, [.int .i64 ((j + 1 : Nat) : Int)]) :: (bo, 4, [.bool true]) :: Lr)))) w') := by
 have hM := hM0.perm (L' := (bi, 3, [.int .i64 ((j : Nat) : Int)]) :: (bo, 4, [.bool true]) :: (bb, 139, [.pointer (some ⟨bb, 0, none⟩), s]) :: (R ++ (Lr ++ L0))) (pc fun x => by simp [ct, ct_append] <;> omega)
 have hXl : (91 :: X).length = X.length + 1 := rfl
 have hrl : (34 :: x.key ++ [34]).length = x.key.length + 2 := by simp
 refine enter (l := [resV 3 (34 :: x.key ++ [34]) q 0 ixk, resV k vraw str f ix, .pointer (some ⟨bi, 0, none⟩), .pointer (some ⟨bb, 0, none⟩), .pointer (some ⟨bo, 0, none⟩)]) 13 Tryz.func96 rfl rfl (fun a hF => ?_)
 replace hF : Fr 18 [(0, resV 3 (34 :: x.key ++ [34]) q 0 ixk), (1, resV k vraw str f ix), (2, .pointer (some ⟨bi, 0, none⟩)), (3, .pointer (some ⟨bb, 0, none⟩)), (4, .pointer (some ⟨bo, 0, none⟩))] a := hF
 revert a; refine Sq ?_
 rcases Classical.em (X = []) with hX0 | hX0
 ·
  have hj0 : ¬ 0 < j := fun h => hj.1 h hX0
  subst hX0
  refine Rg ?_; intro a hF
  refine op_box hF hM rfl rfl rfl rfl rfl rfl ?_; clear hF hM a; intro a w b5 hF hM
  refine op_box hF hM rfl rfl rfl rfl rfl rfl ?_; clear hF hM a; intro a w b6 hF hM
  revert a; refine Md 1 [2,3,4,5] rfl (Nx (Sq (Sq (Rg (Ld hM 2 rfl rfl (Md 1 [2,3,4,5,9] rfl (Nx (C1 rfl (fun ht => absurd (of_decide_eq_true ht) (by omega)) (Sk (Nx (Sq (Sq (Rg (Ld hM 3 rfl rfl (Md 0 [2,3,5,11] rfl (Nx (Ct rfl (Rg (Mv 1 rfl (Ld hM 1 rfl rfl ?_))))))))))))))))))))
  replace hM := hM.perm (L' := (bb, 139, [.pointer (some ⟨bb, 0, none⟩), s]) :: (R ++ ((b6, 135, resL k vraw str f ix) :: (b5, 135, resL 3 (34 :: x.key ++ [34]) q 0 ixk) :: (bi, 3, [.int .i64 ((j : Nat) : Int)]) :: (bo, 4, [.bool true]) :: (Lr ++ L0)))) (pc fun x => by simp [ct, ct_append] <;> omega)
  refine Cl rfl Tryz.func97 (by kernel_rfl) rfl (writeString_walk (34 :: x.key ++ [34]) hRw (by omega) (by omega) (by omega) hM) ?_
  clear hM; intro w v hR
  obtain ⟨⟨_, _, rfl⟩, R2, s2, hR2, hM⟩ := hR
  replace hM := hM.perm (L' := (b6, 135, resL k vraw str f ix) :: (b5, 135, resL 3 (34 :: x.key ++ [34]) q 0 ixk) :: (bi, 3, [.int .i64 ((j : Nat) : Int)]) :: (bo, 4, [.bool true]) :: (bb, 139, [.pointer (some ⟨bb, 0, none⟩), s2]) :: (R2 ++ (Lr ++ L0))) (pc fun x => by simp [ct, ct_append] <;> omega)
  refine Md 0 [2] rfl (Nx (Sq (Rg (Ld hM 2 rfl rfl (Sm (((j + 1 : Nat) : Int)) rfl (by omega) (St hM 2 rfl ?_))))))
  clear hM; intro w hM
  refine Md 0 [] rfl (Nx (Sq (Rg (Md 1 [7] rfl (Nx (Re ?_)))))); intro a hF
  refine ret1 hF rfl rfl ⟨_, rfl, rfl, R2, s2, ?_, (hM.sub (L' := (bi, 3, [.int .i64 ((j + 1 : Nat) : Int)]) :: (bo, 4, [.bool true]) :: (bb, 139, [.pointer (some ⟨bb, 0, none⟩), s2]) :: (R2 ++ (Lr ++ L0))) [(b6, 135, resL k vraw str f ix), (b5, 135, resL 3 (34 :: x.key ++ [34]) q 0 ixk)] (pc fun x => by simp [ct, ct_append] <;> omega)).perm (pc fun x => by simp [ct, ct_append] <;> omega)⟩
  have e : u8s (91 :: kn1 [] x) = u8s (91 :: ([] : Str)) ++ u8s (34 :: x.key ++ [34]) := by simp [kn1, Mb.raw, u8s]
  rw [e, show (91 :: kn1 [] x).length = (91 :: ([] : Str)).length + (34 :: x.key ++ [34]).length by simp [kn1, Mb.raw]; omega]
  exact hR2
 have hj0 : 0 < j := hj.2 hX0
 refine Rg ?_; intro a hF
 refine op_box hF hM rfl rfl rfl rfl rfl rfl ?_; clear hF hM a; intro a w b5 hF hM
 refine op_box hF hM rfl rfl rfl rfl rfl rfl ?_; clear hF hM a; intro a w b6 hF hM
 revert a; refine Md 1 [2,3,4,5] rfl (Nx (Sq (Sq (Rg (Ld hM 2 rfl rfl (Md 1 [2,3,4,5,9] rfl (Nx (D2 rfl (fun ht => absurd (of_decide_eq_false ht) (by omega)) (Rg ?_)))))))))
 replace hM := hM.perm (L' := (bb, 139, [.pointer (some ⟨bb, 0, none⟩), s]) :: (R ++ ((b6, 135, resL k vraw str f ix) :: (b5, 135, resL 3 (34 :: x.key ++ [34]) q 0 ixk) :: (bi, 3, [.int .i64 ((j : Nat) : Int)]) :: (bo, 4, [.bool true]) :: (Lr ++ L0)))) (pc fun x => by simp [ct, ct_append] <;> omega)
 refine Cl rfl Tryz.func94 (by kernel_rfl) rfl (writeByte_walk 44 (.inr rfl) hRw (by omega) hM) ?_
 clear hM; intro w v hR
 obtain ⟨rfl, R1, s1, hR1, hM⟩ := hR
 replace hM := hM.perm (L' := (b6, 135, resL k vraw str f ix) :: (b5, 135, resL 3 (34 :: x.key ++ [34]) q 0 ixk) :: (bi, 3, [.int .i64 ((j : Nat) : Int)]) :: (bo, 4, [.bool true]) :: (bb, 139, [.pointer (some ⟨bb, 0, none⟩), s1]) :: (R1 ++ (Lr ++ L0))) (pc fun x => by simp [ct, ct_append] <;> omega)
 refine Md 0 [2,3,4,5] rfl (Nx (Sq (Sq (Rg (Ld hM 3 rfl rfl (Md 0 [2,3,5,11] rfl (Nx (Ct rfl (Rg (Mv 1 rfl (Ld hM 1 rfl rfl ?_)))))))))))
 replace hM := hM.perm (L' := (bb, 139, [.pointer (some ⟨bb, 0, none⟩), s1]) :: (R1 ++ ((b6, 135, resL k vraw str f ix) :: (b5, 135, resL 3 (34 :: x.key ++ [34]) q 0 ixk) :: (bi, 3, [.int .i64 ((j : Nat) : Int)]) :: (bo, 4, [.bool true]) :: (Lr ++ L0)))) (pc fun x => by simp [ct, ct_append] <;> omega)
 refine Cl rfl Tryz.func97 (by kernel_rfl) rfl (writeString_walk (34 :: x.key ++ [34]) hR1 (by omega) (by omega) (by omega) hM) ?_
 clear hM; intro w v hR
 obtain ⟨⟨_, _, rfl⟩, R2, s2, hR2, hM⟩ := hR
 replace hM := hM.perm (L' := (b6, 135, resL k vraw str f ix) :: (b5, 135, resL 3 (34 :: x.key ++ [34]) q 0 ixk) :: (bi, 3, [.int .i64 ((j : Nat) : Int)]) :: (bo, 4, [.bool true]) :: (bb, 139, [.pointer (some ⟨bb, 0, none⟩), s2]) :: (R2 ++ (Lr ++ L0))) (pc fun x => by simp [ct, ct_append] <;> omega)
 refine Md 0 [2] rfl (Nx (Sq (Rg (Ld hM 2 rfl rfl (Sm (((j + 1 : Nat) : Int)) rfl (by omega) (St hM 2 rfl ?_))))))
 clear hM; intro w hM
 refine Md 0 [] rfl (Nx (Sq (Rg (Md 1 [7] rfl (Nx (Re ?_)))))); intro a hF
 refine ret1 hF rfl rfl ⟨_, rfl, rfl, R2, s2, ?_, (hM.sub (L' := (bi, 3, [.int .i64 ((j + 1 : Nat) : Int)]) :: (bo, 4, [.bool true]) :: (bb, 139, [.pointer (some ⟨bb, 0, none⟩), s2]) :: (R2 ++ (Lr ++ L0))) [(b6, 135, resL k vraw str f ix), (b5, 135, resL 3 (34 :: x.key ++ [34]) q 0 ixk)] (pc fun x => by simp [ct, ct_append] <;> omega)).perm (pc fun x => by simp [ct, ct_append] <;> omega)⟩
 have e : u8s (91 :: kn1 X x) = u8s (91 :: X) ++ u8s [44] ++ u8s (34 :: x.key ++ [34]) := by simp [kn1, Mb.raw, u8s, hX0]
 rw [e, show (91 :: kn1 X x).length = (91 :: X).length + 1 + (34 :: x.key ++ [34]).length by simp [kn1, Mb.raw, hX0]; omega]
 exact hR2
end Go.Sx
namespace Go.Sx
open Go.RowKit Go.Proofs Js Go.Proofs.YtelonenjneonlaaGreatDoorW.PrintWords
theorem keysObj (hPF : PF) {w0 : World} (hV : VchB w0) {u : Str} {ms : List Mb} (hre : RestM u ms) (hu : u.length ≤ 2 ^ 36) {b6 b7 b8 : Nat} {Lr R : List Bk} {s : Value} (hR : Row 5 1 R s 1 (u8s [91])) {w : World} (hM : Mem w0.heap.size w0 ((b7, 139, [.pointer (some ⟨b7, 0, none⟩), s]) :: (R ++ ((b8, 3, [.int .i64 (0)]) :: (b6, 4, [.bool true]) :: Lr))) w) :
    Calls Tryz.prog 95 #[resV 5 (123 :: u) [] 0 0, .func (.func 96) #[] [.pointer (some ⟨b8, 0, none⟩), .pointer (some ⟨b7, 0, none⟩), .pointer (some ⟨b6, 0, none⟩)].toArray] w
      (Ret fun v w' => v = .tuple #[] ∧ ∃ R' s', Row 5 1 R' s' (91 :: kn ms).length (u8s (91 :: kn ms)) ∧ Mem w0.heap.size w0 ((b7, 139, [.pointer (some ⟨b7, 0, none⟩), s']) :: (R' ++ ((b8, 3, [.int .i64 ((ms.length : Nat) : Int)]) :: (b6, 4, [.bool true]) :: Lr))) w') := by
  have hlens := hre.lens
  have hlen := hre.len
  refine (forEachObj_walk hPF Tryz.func96 (by kernel_rfl) rfl _ (fun j wc Lc => wc = w0 ∧ ∃ R s, Lc = (b7, 139, [.pointer (some ⟨b7, 0, none⟩), s]) :: (R ++ ((b8, 3, [.int .i64 ((j : Nat) : Int)]) :: (b6, 4, [.bool true]) :: Lr)) ∧ Row 5 1 R s (91 :: kn (ms.take j)).length (u8s (91 :: kn (ms.take j)))) (fun _ _ _ h => by rw [h.1]; exact hV) u _ hre [] 0 0 ?_ _ w _ ⟨rfl, R, s, rfl, hR⟩ hM (by omega)).mono ?_
  · intro j x L0 Lc wc w q str fl ix ixk hjx hq hI hM
    obtain ⟨e, R, s, rfl, hR⟩ := hI
    subst e
    have hjl := (List.getElem?_eq_some_iff.1 hjx).1
    have h1 := kn_len (ms.take j) []
    have h2 := lensM_take ms j
    have h3 := lens_mem (List.mem_of_getElem? hjx)
    have h4 : 0 < j ↔ kn (ms.take j) ≠ [] := by
      rw [ne_eq, kn_nil, List.take_eq_nil_iff]
      constructor
      · rintro h (h | h)
        · omega
        · rw [h] at hjl; simp at hjl
      · intro h; exact Nat.pos_of_ne_zero fun e => h (.inl e)
    refine (keysCb_walk h4 (by omega) hR (by simp only [kn] at h1 ⊢; simp at h1; omega) x (by omega) q ixk _ x.val str fl ix hM).mono ?_
    rintro e w' ⟨v, rfl, rfl, R', s', hR', hM'⟩
    rw [← kn_next hjx] at hR'
    exact ⟨_, rfl, rfl, _, _, ⟨rfl, R', s', rfl, hR'⟩, hM'⟩
  · rintro e w' ⟨v, rfl, rfl, wc', Lc', ⟨e', R', s', rfl, hR'⟩, hM'⟩
    subst e'
    rw [List.take_length] at hR'
    exact ⟨_, rfl, rfl, R', s', hR', hM'⟩
theorem modKeys_walk (hPF : PF) {T txt : Str} {ks : List Str} {l : List Nd} (w0 : World) (hV : VchB w0) (hT : T.length ≤ 2 ^ 36) (hs : Shows T (.v (.mk 6 txt ks l))) :
    Calls Tryz.prog 70 #[.string (mkS T), .string (mkS [])] w0 (Ret fun v w' => (∃ S, v = .string (mkS S) ∧ S.length ≤ 2 ^ 37 ∧ Shows S (.v (.mk 5 [] [] (ks.map strN)))) ∧ Below w0.heap.size w0 w') := by
 obtain ⟨u, ms, rfl, hu0, hq, hin, hre, _⟩ := obj_members hs
 have hM : Mem w0.heap.size w0 [] w0 := Mem.start (Nat.le_refl _)
 have hlT : (123 :: u).length = u.length + 1 := rfl
 have hlens := hre.lens
 have hkl := kn_len ms []
 refine enter (l := [.string (mkS (123 :: u)), .string (mkS [])]) 20 Tryz.func70 rfl rfl (fun a hF => ?_)
 replace hF : Fr 22 [(0, .string (mkS (123 :: u))), (1, .string (mkS []))] a := hF
 revert a; refine Sq (Rg (Md 1 [0] rfl (Nx (Sq (Rg (Mv 1 rfl (Cm hM rfl Tryz.func91 (by kernel_rfl) rfl (parse_walk123 u _ (by omega)) ?_)))))))
 clear hM; intro w v hR hM hBe
 obtain rfl := hR
 intro a hF
 refine op_alloc hF hM rfl (vs := [.int .i64 0, .string (mkS []), .string (mkS []), .float .f64 0, .int .i64 0, .slice none 0 0]) rfl rfl rfl (by kernel_rfl) ?_; clear hF hM a; intro a w b5 hF hM
 refine op_storeA hF hM rfl 0 rfl rfl (by kernel_rfl) rfl rfl rfl rfl (rfl) ?_; clear hF hM a; intro a w  hF hM
 revert a; refine Md 0 [5] rfl (Nx (Sq (Sq (Rg ?_)))); intro a hF
 refine op_loadA hF hM rfl 0 rfl rfl rfl Tryz.underlying135 rfl (by kernel_rfl) rfl rfl ?_; clear hF a; intro a hF
 revert a; refine Cm hM rfl Tryz.func92 (by kernel_rfl) rfl (exists_walk 5 (123 :: u) [] 0 0 w (by decide)) ?_
 clear hM; intro w v hR hM hBe
 obtain rfl := hR
 refine Md 1 [5,13] rfl (Nx (Cf rfl (Sk (Nx (Sq (Rg ?_)))))); intro a hF
 refine op_loadA hF hM rfl 0 rfl rfl rfl Tryz.underlying135 rfl (by kernel_rfl) rfl rfl ?_; clear hF a; intro a hF
 revert a; refine Cm hM rfl Tryz.func93 (by kernel_rfl) rfl (isObject_walk 5 (123 :: u) [] 0 0 w (fun _ => by simp) (by omega)) ?_
 clear hM; intro w v hR hM hBe
 obtain ⟨b, rfl, hb⟩ := hR
 have hbt : b = true := hb.2 ⟨rfl, rfl⟩
 subst hbt
 intro a hF
 refine op_alloc hF hM rfl (vs := [.bool false]) rfl rfl rfl (by kernel_rfl) ?_; clear hF hM a; intro a w b6 hF hM
 revert a; refine St hM 0 rfl ?_
 clear hM; intro w hM
 refine Md 0 [5,6] rfl (Nx (Sq (Rg ?_))); intro a hF
 refine op_alloc hF hM rfl (vs := [.pointer none, .slice none 0 0]) rfl rfl rfl (by kernel_rfl) ?_; clear hF hM a; intro a w b7 hF hM
 revert a; refine Md 0 [5,6,7] rfl (Nx (Sq (Rg ?_)))
 replace hM := hM.perm (L' := (b7, 139, [.pointer none, .slice none 0 0]) :: ([] ++ [(b6, 4, [.bool true]), (b5, 135, resL 5 (123 :: u) [] 0 0)])) (pc fun x => by simp [ct, ct_append] <;> omega)
 refine Cl rfl Tryz.func94 (by kernel_rfl) rfl (writeByte_walk 91 (.inl rfl) (Row.nil 5 1) (by omega) hM) ?_
 clear hM; intro w v hR
 obtain ⟨rfl, R1, s1, hR1, hM⟩ := hR
 replace hM := hM.perm (L' := (b6, 4, [.bool true]) :: (b5, 135, resL 5 (123 :: u) [] 0 0) :: (b7, 139, [.pointer (some ⟨b7, 0, none⟩), s1]) :: R1) (pc fun x => by simp [ct, ct_append] <;> omega)
 refine Md 0 [5,6,7] rfl (Nx (Sq (Rg ?_))); intro a hF
 refine op_alloc hF hM rfl (vs := [.int .i64 0]) rfl rfl rfl (by kernel_rfl) ?_; clear hF hM a; intro a w b8 hF hM
 revert a; refine Md 0 [5,6,7,8] rfl (Nx (Sq (Rg ?_))); intro a hF
 refine op_loadA hF hM rfl 2 rfl rfl rfl Tryz.underlying135 rfl (by kernel_rfl) rfl rfl ?_; clear hF a; intro a hF
 refine op_makeFunc hF rfl rfl rfl rfl rfl ?_; clear hF a; intro a hF
 replace hM := hM.perm (L' := (b7, 139, [.pointer (some ⟨b7, 0, none⟩), s1]) :: (R1 ++ ((b8, 3, [.int .i64 (0)]) :: (b6, 4, [.bool true]) :: [(b5, 135, resL 5 (123 :: u) [] 0 0)]))) (pc fun x => by simp [ct, ct_append] <;> omega)
 revert a; refine Cl rfl Tryz.func95 (by kernel_rfl) rfl (keysObj hPF hV hre (by omega) hR1 hM) ?_
 clear hM; intro w v hR
 obtain ⟨rfl, R2, s2, hR2, hM⟩ := hR
 refine Md 0 [7] rfl (Nx (Sq (Rg (Cl rfl Tryz.func94 (by kernel_rfl) rfl (writeByte_walk 93 (.inr rfl) hR2 (by simp only [kn, List.length_cons, List.length_nil] at hkl ⊢; omega) hM) ?_))))
 clear hM; intro w v hR
 obtain ⟨rfl, R3, s3, hR3, hM⟩ := hR
 refine Md 0 [7] rfl (Nx (Sq (Rg ?_)))
 have e3 : u8s (91 :: kn ms ++ [93]) = u8s (91 :: kn ms) ++ u8s [93] := by simp [u8s]
 have hR4 : Row 5 1 R3 s3 (91 :: kn ms ++ [93]).length (u8s (91 :: kn ms ++ [93])) := by rw [e3]; simpa using hR3
 refine Cl rfl Tryz.func98 (by kernel_rfl) rfl (builderString_walk (91 :: kn ms ++ [93]) hR4 (by simp) (by simp only [kn, List.length_append, List.length_cons, List.length_nil] at hkl ⊢; omega) hM) ?_
 clear hM; intro w v hR
 obtain ⟨rfl, hM⟩ := hR
 refine Md 1 [4] rfl (Nx (Re ?_)); intro a hF
 refine ret1 hF rfl rfl ⟨_, rfl, ⟨_, rfl, by simp only [kn, List.length_append, List.length_cons, List.length_nil] at hkl hT ⊢; omega, ?_⟩, hM.below⟩
 have := kn_arr (ks := ms) (fun k hk => (hin k hk).1)
 rw [← hq, List.map_map]
 exact this
end Go.Sx
namespace Go.Sx
open Go.RowKit Go.Proofs Js Go.Proofs.YtelonenjneonlaaGreatDoorW.PrintWords
theorem doorKeys_walk (hPF : PF) {T txt : Str} {ks : List Str} {l : List Nd} (w0 : World) (hV : VchB w0) (hT : T.length ≤ 2 ^ 36) (hs : Shows T (.v (.mk 6 txt ks l))) :
    Calls Tryz.prog 44 #[.string (mkS T)] w0 (Ret fun v w' => (∃ S, v = .string (mkS S) ∧ S.length ≤ 2 ^ 37 ∧ Shows S (.v (.mk 5 [] [] (ks.map strN)))) ∧ Below w0.heap.size w0 w') := by
 have hM : Mem w0.heap.size w0 [] w0 := Mem.start (Nat.le_refl _)
 refine enter (l := [.string (mkS T)]) 4 Tryz.func44 rfl rfl (fun a hF => ?_)
 replace hF : Fr 5 [(0, .string (mkS T))] a := hF
 revert a; refine Sq (Rg (Md 1 [0] rfl (Nx (Sq (Rg (Mv 1 rfl (Cm hM rfl Tryz.func70 (by kernel_rfl) rfl (modKeys_walk hPF _ hV hT hs) ?_)))))))
 clear hM; intro w v hR hM hBe
 obtain ⟨R, rfl, hRl, hRs⟩ := hR
 exact Md 1 [2] rfl (Nx (Re (Y1 rfl rfl ⟨_, rfl, ⟨_, rfl, hRl, hRs⟩, hM.below⟩)))
theorem gjKeys_walk (hPF : PF) {T txt : Str} {ks : List Str} {l : List Nd} (w0 : World) (hV : VchB w0) (hT : T.length ≤ 2 ^ 36) (hs : Shows T (.v (.mk 6 txt ks l))) :
    Calls Tryz.prog 21 #[.string (mkS T)] w0 (Ret fun v w' => (∃ S, v = .string (mkS S) ∧ S.length ≤ 2 ^ 37 ∧ Shows S (.v (.mk 5 [] [] (ks.map strN)))) ∧ Below w0.heap.size w0 w') := by
 have hM : Mem w0.heap.size w0 [] w0 := Mem.start (Nat.le_refl _)
 refine enter (l := [.string (mkS T)]) 4 Tryz.func21 rfl rfl (fun a hF => ?_)
 replace hF : Fr 5 [(0, .string (mkS T))] a := hF
 revert a; refine Sq (Rg (Md 1 [0] rfl (Nx (Sq (Rg (Mv 1 rfl (Cm hM rfl Tryz.func44 (by kernel_rfl) rfl (doorKeys_walk hPF _ hV hT hs) ?_)))))))
 clear hM; intro w v hR hM hBe
 obtain ⟨R, rfl, hRl, hRs⟩ := hR
 exact Md 1 [2] rfl (Nx (Re (Y1 rfl rfl ⟨_, rfl, ⟨_, rfl, hRl, hRs⟩, hM.below⟩)))
end Go.Sx
