/- Part 10 of the proof of FnGjJoinKeys: the statement Rows.FnGjJoinKeysCardSaid; no further condition. -/
import Derived.Test.YtelonenjneonlaaGreatDoorK09
set_option linter.all false
namespace Go.Sx
open Go.RowKit Go.Proofs Js Go.Proofs.YtelonenjneonlaaGreatDoorW.PrintWords
theorem unit_walk (s : Str) (i : Nat) (hi : i ≤ 2 ^ 41) (hl : s.length ≤ 2 ^ 41) (w0 : World) :
    Calls Tryz.prog 75 #[.string (mkS s), .int .i64 (i : Int)] w0 (Ret fun v w' => v = .tuple #[.int .i64 (((unit (s.drop i)).getD 0 : Nat) : Int), .bool (unit (s.drop i)).isSome] ∧ Below w0.heap.size w0 w') := by
 have hM : Mem w0.heap.size w0 [] w0 := Mem.start (Nat.le_refl _)
 have hdl : (s.drop i).length = s.length - i := List.length_drop
 refine enter (l := [.string (mkS s), .int .i64 (i : Int)]) 48 Tryz.func75 rfl rfl (fun a hF => ?_)
 replace hF : Fr 50 [(0, .string (mkS s)), (1, .int .i64 (i : Int))] a := hF
 revert a; refine Sq (Rg (Md 2 [0,1] rfl (Nx (Sq (Sq ?_)))))
 rcases unit_parts (s.drop i) with ⟨h6, hu⟩ | ⟨c, r, hD, hc, h6, hu⟩ | ⟨c, r, hD, hc, h6, hu⟩ | ⟨a', b, c, d, r, hD, hu⟩
 · exact Rg (Mv 3 rfl (Sm ((s.length : Int) - (i : Int)) rfl (by omega) (Bv rfl rfl (decide_eq_true (show (s.length : Int) - (i : Int) < 6 by omega)) (Md 13 [0,1,27] rfl (Nx (Ct rfl (Sq (Rg (Md 2 [4,5] rfl (Nx (Re (Rt (Y2 rfl rfl rfl ⟨_, rfl, by rw [hu]; rfl, hM.below⟩)))))))))))))
 ·
  have hg := drop_get hD 0
  refine Rg (Mv 3 rfl (Sm ((s.length : Int) - (i : Int)) rfl (by omega) (Bv rfl rfl (decide_eq_false (show ¬ ((s.length : Int) - (i : Int) < 6) by omega)) (Mv 3 rfl ?_)))); intro a hF
  refine guard_yes hF rfl rfl rfl rfl rfl rfl ?_
  refine op_index_str hF rfl (i) c rfl rfl rfl Tryz.underlying9 rfl rfl (by first | rfl | omega) hg ?_; clear hF a; intro a hF
  revert a; refine Mv 1 rfl ?_; intro a hF
  rw [bne_t (d := 92) (z := 92) rfl hc] at hF
  revert a; exact Md 8 [0,1,27] rfl (Nx (Ct rfl (Sq (Rg (Md 2 [4,5] rfl (Nx (Re (Rt (Y2 rfl rfl rfl ⟨_, rfl, by rw [hu]; rfl, hM.below⟩)))))))))
 ·
  have hg := drop_get hD 0
  have hg1 := drop_get hD 1
  refine Rg (Mv 3 rfl (Sm ((s.length : Int) - (i : Int)) rfl (by omega) (Bv rfl rfl (decide_eq_false (show ¬ ((s.length : Int) - (i : Int) < 6) by omega)) (Mv 3 rfl ?_)))); intro a hF
  refine guard_yes hF rfl rfl rfl rfl rfl rfl ?_
  refine op_index_str hF rfl (i) 92 rfl rfl rfl Tryz.underlying9 rfl rfl (by first | rfl | omega) hg ?_; clear hF a; intro a hF
  revert a; refine Mv 5 rfl (Sm (((i + 1 : Nat) : Int)) rfl (by omega) ?_); intro a hF
  refine guard_yes hF rfl rfl rfl rfl rfl rfl ?_
  refine op_index_str hF rfl ((i + 1)) c rfl rfl rfl Tryz.underlying9 rfl rfl (by first | rfl | omega) hg1 ?_; clear hF a; intro a hF
  revert a; refine Mv 1 rfl ?_; intro a hF
  rw [bne_t (d := 117) (z := 117) rfl hc] at hF
  revert a; exact Md 1 [0,1,27] rfl (Nx (Ct rfl (Sq (Rg (Md 2 [4,5] rfl (Nx (Re (Rt (Y2 rfl rfl rfl ⟨_, rfl, by rw [hu]; rfl, hM.below⟩)))))))))
 have hg := drop_get hD 0
 have hg1 := drop_get hD 1
 have h6 : s.length - i = r.length + 6 := by rw [← hdl, hD]; rfl
 refine Rg (Mv 3 rfl (Sm ((s.length : Int) - (i : Int)) rfl (by omega) (Bv rfl rfl (decide_eq_false (show ¬ ((s.length : Int) - (i : Int) < 6) by omega)) (Mv 3 rfl ?_)))); intro a hF
 refine guard_yes hF rfl rfl rfl rfl rfl rfl ?_
 refine op_index_str hF rfl (i) 92 rfl rfl rfl Tryz.underlying9 rfl rfl (by first | rfl | omega) hg ?_; clear hF a; intro a hF
 revert a; refine Mv 5 rfl (Sm (((i + 1 : Nat) : Int)) rfl (by omega) ?_); intro a hF
 refine guard_yes hF rfl rfl rfl rfl rfl rfl ?_
 refine op_index_str hF rfl ((i + 1)) 117 rfl rfl rfl Tryz.underlying9 rfl rfl (by first | rfl | omega) hg1 ?_; clear hF a; intro a hF
 revert a; refine Md 2 [0,1,27] rfl (Nx (Cf rfl (Sk (Nx (Sq (Rg (Md 1 [0,1,6] rfl (Nx (Sq (Sq (Rg (Mv 1 rfl (Sm (((i + 2 : Nat) : Int)) rfl (by omega) (Md 1 [0,1,6,7] rfl (Nx (Bo (Kp [0,1,6,7] rfl ?_))))))))))))))))); intro a hF
 refine loopX (fun (j : Nat) a w => Fr 50 [(0, .string (mkS s)), (1, .int .i64 (i : Int)), (6, .int .i64 ((hexN ([a', b, c, d].take j) : Nat) : Int)), (7, .int .i64 ((i + 2 + j : Nat) : Int))] a ∧ Mem w0.heap.size w0 [] w ∧ j ≤ 4 ∧ ∀ x ∈ [a', b, c, d].take j, IsHex x) (fun j => 4 - j) (0) ?_ (fun j a w hI => ?_)
 · exact ⟨hF, hM, Nat.zero_le _, by simp⟩
 clear hF hM
 obtain ⟨hF, hM, hj, hall⟩ := hI
 revert a; refine Sq (Sq (Rg (Mv 2 rfl (Sm (((i + 6 : Nat) : Int)) rfl (by omega) (Md 1 [0,1,6,7,33] rfl (Nx (Ce rfl (fun ht => ?_) ((fun ht => ?_)))))))))
 ·
  have hj4 : j = 4 := by have := of_decide_eq_false ht; omega
  subst hj4
  refine Ex (Ot (Ot (Ob (Nx (Sq (Rg (Md 3 [4,5] rfl (Nx (Re ?_))))))))); intro a hF
  first | exact ret2 hF rfl rfl rfl ⟨_, rfl, by rw [hu0]; rfl, hM.below⟩ | exact ret2 hF rfl rfl rfl ⟨_, rfl, by rw [hu, hex4_hexN hall]; rfl, hM.below⟩
 have hj4 : j < 4 := by have := of_decide_eq_true ht; omega
 obtain ⟨x, hx⟩ : ∃ x, [a', b, c, d][j]? = some x := ⟨_, List.getElem?_eq_getElem (by simp; omega)⟩
 have hgj : s[i + 2 + j]? = some x := by rw [Nat.add_assoc, drop_get hD, show 2 + j = j + 1 + 1 by omega]; exact (List.getElem?_append_left (l₂ := r) (l₁ := [a', b, c, d]) (by simp; omega)).trans hx
 have hlt : i + 2 + j < s.length := by omega
 refine Sk (Nx (Sq (Bo (Sq (Rg (Mv 2 rfl ?_)))))); intro a hF
 refine op_index_str hF rfl ((i + 2 + j)) x rfl rfl rfl Tryz.underlying9 rfl rfl (by first | rfl | omega) hgj ?_; clear hF a; intro a hF
 revert a; refine Cm hM rfl Tryz.func116 (by kernel_rfl) rfl (hexDigit_walk x _) ?_
 clear hM; intro w v hR hM hBe
 obtain rfl := hR
 refine Md 5 [0,1,6,7,8,9] rfl (Nx (Sq (Sq (Rg (Md 2 [0,1,6,7,8,44] rfl (Nx (Cd rfl (fun ht => ?_) ((fun ht => ?_)))))))))
 ·
  have hn : hexVal x = none := by cases hp : hexVal x with | none => rfl | some q => rw [hp] at ht; cases ht
  have hu0 : unit (s.drop i) = none := by rw [hu]; exact hex4_none (List.mem_of_getElem? hx) hn
  refine Sq (Rg (Md 2 [4,5] rfl (Nx (Re (Rt (Rb (Rt (Rt (Rb (Rt ?_)))))))))); intro a hF
  first | exact ret2 hF rfl rfl rfl ⟨_, rfl, by rw [hu0]; rfl, hM.below⟩ | exact ret2 hF rfl rfl rfl ⟨_, rfl, by rw [hu, hex4_hexN hall]; rfl, hM.below⟩
 have hh : IsHex x := by unfold IsHex; cases hp : hexVal x with | none => rw [hp] at ht; cases ht | some q => rfl
 obtain ⟨hall1, hN, hN4, hv4⟩ := hex_step rfl hj4 hall hx hh
 intro a hF
 unfold hv at hN hv4
 revert a; refine Sk (Nx (Rg (Mv 1 rfl (Sm (((hexN ([a', b, c, d].take j) * 16 : Nat) : Int)) rfl (by omega) (Mv 1 rfl (Sm (((hexN ([a', b, c, d].take (j + 1)) : Nat) : Int)) rfl (by omega) (Md 1 [0,1,6,7] rfl (Nb (Nx (Rg (Mv 1 rfl (Sm (((i + 2 + (j + 1) : Nat) : Int)) rfl (by omega) (Md 1 [0,1,6,7] rfl ?_))))))))))))); intro a hF
 exact ⟨j + 1, ⟨hF, hM, hj4, hall1⟩, by omega⟩
end Go.Sx
namespace Go.Sx
open Go.RowKit Go.Proofs Js Go.Proofs.YtelonenjneonlaaGreatDoorW.PrintWords
theorem conv_byte {m : Nat} (h : m < 256) : IntKind.u8.wrap (m : Int) = ((m.toUInt8.toNat : Nat) : Int) := by rw [byte_nat h]; exact IntWalk.u8_in _ ⟨by omega, by omega⟩
theorem quoN (c d : Nat) (h : c ≤ 2 ^ 40) : IntKind.i64.wrap ((c : Int).tdiv (d : Int)) = ((c / d : Nat) : Int) := by
  have e : (c : Int).tdiv (d : Int) = ((c / d : Nat) : Int) := rfl
  have := Nat.div_le_self c d
  rw [e]; generalize c / d = x at this; exact IntWalk.i64_in _ ⟨by omega, by omega⟩
theorem remN (c d : Nat) : (c : Int).tmod (d : Int) = ((c % d : Nat) : Int) := rfl
theorem sl_all {b e m k : Nat} {cs : List Value} (hl : cs.length = k * m) (hk : k ≤ 1000) : SlOf [(b, e, cs)] e m (.slice (some ⟨b, 0, none⟩) k k) k cs :=
  ⟨hl, .inr ⟨b, k, cs, by simp, rfl, Nat.le_refl _, by simp only [maxLen]; omega, hl, by rw [← hl]; exact List.take_of_length_le (Nat.le_refl _)⟩⟩
theorem appendUTF8_walk {B : Nat} {wc : World} {R L : List Bk} {v : Value} {l : Str} (hRow : Row 5 1 R v l.length (u8s l)) (c : Nat) (hc : c ≤ 1114111) (hl : l.length ≤ 2 ^ 39) {w0 : World} (hM0 : Mem B wc (R ++ L) w0) :
    Calls Tryz.prog 79 #[v, .int .i64 (c : Int)] w0 (Ret fun v' w' => ∃ R', Row 5 1 R' v' (l ++ enc c).length (u8s (l ++ enc c)) ∧ Mem B wc (R' ++ L) w') := by
 have hM := hM0
 refine enter (l := [v, .int .i64 (c : Int)]) 75 Tryz.func79 rfl rfl (fun a hF => ?_)
 replace hF : Fr 77 [(0, v), (1, .int .i64 (c : Int))] a := hF
 revert a; refine Sq (Rg (Md 1 [0,1] rfl (Nx (Sq (Bo (Sq (Rg (Md 3 [0,1,5] rfl (Nx (Cd rfl (fun ht => ?_) ((fun ht => ?_))))))))))))
 ·
  have k128 : c < 128 := by have := of_decide_eq_true ht; omega
  refine Sq (Rg (Mv 2 rfl (Gv rfl (fun _ hF => gives_conv hF rfl Tryz.underlying3 Tryz.underlying5 rfl (((c.toUInt8.toNat : Nat) : Int)) (conv_byte (m := c) (by omega)) _) ?_))); intro a hF
  refine op_build hF hM rfl (m := 1) (parts := [(0, .tmp 10)]) (vals := [(0, .int .u8 ((c.toUInt8.toNat : Nat) : Int))]) [.int .u8 ((c.toUInt8.toNat : Nat) : Int)] rfl rfl rfl rfl (by decide) (by decide) (by kernel_rfl) ?_; clear hF hM a; intro a w b11 hF hM
  replace hM := hM.perm (L' := R ++ ((b11, 5, [.int .u8 ((c.toUInt8.toNat : Nat) : Int)]) :: L)) (pc fun x => by simp [ct, ct_append] <;> omega)
  refine op_appendR hF elt66 hRow hM (sl_all (b := b11) (e := 5) (m := 1) (k := 1) (cs := [.int .u8 ((c.toUInt8.toNat : Nat) : Int)]) rfl (by decide)) (by simp) (by simp [Value.oneCell']) (by omega) rfl rfl rfl rfl rfl rfl ?_; clear hF hM a; intro a w R' v' hF hRow' hM
  replace hM := hM.sub (L' := R' ++ L) [(b11, 5, [.int .u8 ((c.toUInt8.toNat : Nat) : Int)])] (pc fun x => by simp [ct, ct_append] <;> omega)
  revert a; refine Md 1 [4] rfl (Nx (Re (Rb (Rt ?_)))); intro a hF
  first
    | (have ee : enc c = [c.toUInt8] := by unfold enc; rw [if_pos k128]
       exact ret1 hF rfl rfl ⟨_, rfl, R', by rw [ee, List.length_append, u8s_append]; exact hRow', hM⟩)
    | (have ee : enc c = [(0xc0 + c / 64).toUInt8, (0x80 + c % 64).toUInt8] := by unfold enc; rw [if_neg k128, if_pos k2048]
       exact ret1 hF rfl rfl ⟨_, rfl, R', by rw [ee, List.length_append, u8s_append]; exact hRow', hM⟩)
    | (have ee : enc c = [0xef, 0xbf, 0xbd] := by unfold enc; rw [if_neg k128, if_neg k2048, if_pos hlo]
       exact ret1 hF rfl rfl ⟨_, rfl, R', by rw [ee, List.length_append, u8s_append]; exact hRow', hM⟩)
    | (have ee : enc c = [(0xe0 + c / 4096).toUInt8, (0x80 + c / 64 % 64).toUInt8, (0x80 + c % 64).toUInt8] := by unfold enc; rw [if_neg k128, if_neg k2048, if_neg hlo, if_pos k65536]
       exact ret1 hF rfl rfl ⟨_, rfl, R', by rw [ee, List.length_append, u8s_append]; exact hRow', hM⟩)
    | (have ee : enc c = [(0xf0 + c / 262144).toUInt8, (0x80 + c / 4096 % 64).toUInt8, (0x80 + c / 64 % 64).toUInt8, (0x80 + c % 64).toUInt8] := by unfold enc; rw [if_neg k128, if_neg k2048, if_neg hlo, if_neg k65536]
       exact ret1 hF rfl rfl ⟨_, rfl, R', by rw [ee, List.length_append, u8s_append]; exact hRow', hM⟩)
 have k128 : ¬ c < 128 := by have := of_decide_eq_false ht; omega
 refine Sq (Rg (Md 3 [0,1,13] rfl (Nx (Cd rfl (fun ht => ?_) ((fun ht => ?_))))))
 ·
  have k2048 : c < 2048 := by have := of_decide_eq_true ht; omega
  refine Sq (Rg (Mv 2 rfl (Gv rfl (fun _ hF => gives_quo (((c / 64 : Nat) : Int)) hF rfl rfl rfl (by decide) (quoN c 64 (by omega)) _) (Sm (((0xc0 + c / 64 : Nat) : Int)) rfl (by omega) (Gv rfl (fun _ hF => gives_conv hF rfl Tryz.underlying3 Tryz.underlying5 rfl ((((0xc0 + c / 64).toUInt8.toNat : Nat) : Int)) (conv_byte (m := (0xc0 + c / 64)) (by omega)) _) (Mv 1 rfl (Gv rfl (fun _ hF => gives_rem (((c % 64 : Nat) : Int)) hF rfl rfl rfl (by decide) (remN (c) 64) _) (Sm (((0x80 + c % 64 : Nat) : Int)) rfl (by omega) (Gv rfl (fun _ hF => gives_conv hF rfl Tryz.underlying3 Tryz.underlying5 rfl ((((0x80 + c % 64).toUInt8.toNat : Nat) : Int)) (conv_byte (m := (0x80 + c % 64)) (by omega)) _) ?_))))))))); intro a hF
  refine op_build hF hM rfl (m := 2) (parts := [(0, .tmp 20), (1, .tmp 24)]) (vals := [(0, .int .u8 (((0xc0 + c / 64).toUInt8.toNat : Nat) : Int)), (1, .int .u8 (((0x80 + c % 64).toUInt8.toNat : Nat) : Int))]) [.int .u8 (((0xc0 + c / 64).toUInt8.toNat : Nat) : Int), .int .u8 (((0x80 + c % 64).toUInt8.toNat : Nat) : Int)] rfl rfl rfl rfl (by decide) (by decide) (by kernel_rfl) ?_; clear hF hM a; intro a w b25 hF hM
  replace hM := hM.perm (L' := R ++ ((b25, 5, [.int .u8 (((0xc0 + c / 64).toUInt8.toNat : Nat) : Int), .int .u8 (((0x80 + c % 64).toUInt8.toNat : Nat) : Int)]) :: L)) (pc fun x => by simp [ct, ct_append] <;> omega)
  refine op_appendR hF elt66 hRow hM (sl_all (b := b25) (e := 5) (m := 1) (k := 2) (cs := [.int .u8 (((0xc0 + c / 64).toUInt8.toNat : Nat) : Int), .int .u8 (((0x80 + c % 64).toUInt8.toNat : Nat) : Int)]) rfl (by decide)) (by simp) (by simp [Value.oneCell']) (by omega) rfl rfl rfl rfl rfl rfl ?_; clear hF hM a; intro a w R' v' hF hRow' hM
  replace hM := hM.sub (L' := R' ++ L) [(b25, 5, [.int .u8 (((0xc0 + c / 64).toUInt8.toNat : Nat) : Int), .int .u8 (((0x80 + c % 64).toUInt8.toNat : Nat) : Int)])] (pc fun x => by simp [ct, ct_append] <;> omega)
  revert a; refine Md 1 [4] rfl (Nx (Re (Rb (Rt ?_)))); intro a hF
  first
    | (have ee : enc c = [c.toUInt8] := by unfold enc; rw [if_pos k128]
       exact ret1 hF rfl rfl ⟨_, rfl, R', by rw [ee, List.length_append, u8s_append]; exact hRow', hM⟩)
    | (have ee : enc c = [(0xc0 + c / 64).toUInt8, (0x80 + c % 64).toUInt8] := by unfold enc; rw [if_neg k128, if_pos k2048]
       exact ret1 hF rfl rfl ⟨_, rfl, R', by rw [ee, List.length_append, u8s_append]; exact hRow', hM⟩)
    | (have ee : enc c = [0xef, 0xbf, 0xbd] := by unfold enc; rw [if_neg k128, if_neg k2048, if_pos hlo]
       exact ret1 hF rfl rfl ⟨_, rfl, R', by rw [ee, List.length_append, u8s_append]; exact hRow', hM⟩)
    | (have ee : enc c = [(0xe0 + c / 4096).toUInt8, (0x80 + c / 64 % 64).toUInt8, (0x80 + c % 64).toUInt8] := by unfold enc; rw [if_neg k128, if_neg k2048, if_neg hlo, if_pos k65536]
       exact ret1 hF rfl rfl ⟨_, rfl, R', by rw [ee, List.length_append, u8s_append]; exact hRow', hM⟩)
    | (have ee : enc c = [(0xf0 + c / 262144).toUInt8, (0x80 + c / 4096 % 64).toUInt8, (0x80 + c / 64 % 64).toUInt8, (0x80 + c % 64).toUInt8] := by unfold enc; rw [if_neg k128, if_neg k2048, if_neg hlo, if_neg k65536]
       exact ret1 hF rfl rfl ⟨_, rfl, R', by rw [ee, List.length_append, u8s_append]; exact hRow', hM⟩)
 have k2048 : ¬ c < 2048 := by have := of_decide_eq_false ht; omega
 refine Sq ?_
 rcases hh : high c with _ | _
 ·
  refine Rg (Mv 1 rfl (Cm hM rfl Tryz.func77 (by kernel_rfl) rfl (high_walk c _) ?_))
  clear hM; intro w v hR hM hBe
  obtain rfl := hR
  intro a hF
  rw [hh] at hF
  revert a; refine Mv 2 rfl (Cm hM rfl Tryz.func78 (by kernel_rfl) rfl (low_walk c _) ?_)
  clear hM; intro w v hR hM hBe
  obtain rfl := hR
  refine Md 2 [0,1,27] rfl (Nx (Cd rfl (fun ht => ?_) ((fun ht => ?_))))
  ·
   have hlo : (high c || low c) = true := by rw [hh]; exact ht
   refine Sq (Rg (Mv 1 rfl ?_)); intro a hF
   refine op_build hF hM rfl (m := 3) (parts := [(0, .const (.int .u8 239)), (1, .const (.int .u8 191)), (2, .const (.int .u8 189))]) (vals := [(0, .int .u8 239), (1, .int .u8 191), (2, .int .u8 189)]) [.int .u8 239, .int .u8 191, .int .u8 189] rfl rfl rfl rfl (by decide) (by decide) (by kernel_rfl) ?_; clear hF hM a; intro a w b35 hF hM
   replace hM := hM.perm (L' := R ++ ((b35, 5, [.int .u8 239, .int .u8 191, .int .u8 189]) :: L)) (pc fun x => by simp [ct, ct_append] <;> omega)
   refine op_appendR hF elt66 hRow hM (sl_all (b := b35) (e := 5) (m := 1) (k := 3) (cs := [.int .u8 239, .int .u8 191, .int .u8 189]) rfl (by decide)) (by simp) (by simp [Value.oneCell']) (by omega) rfl rfl rfl rfl rfl rfl ?_; clear hF hM a; intro a w R' v' hF hRow' hM
   replace hM := hM.sub (L' := R' ++ L) [(b35, 5, [.int .u8 239, .int .u8 191, .int .u8 189])] (pc fun x => by simp [ct, ct_append] <;> omega)
   revert a; refine Md 1 [4] rfl (Nx (Re (Rb (Rt ?_)))); intro a hF
   first
     | (have ee : enc c = [c.toUInt8] := by unfold enc; rw [if_pos k128]
        exact ret1 hF rfl rfl ⟨_, rfl, R', by rw [ee, List.length_append, u8s_append]; exact hRow', hM⟩)
     | (have ee : enc c = [(0xc0 + c / 64).toUInt8, (0x80 + c % 64).toUInt8] := by unfold enc; rw [if_neg k128, if_pos k2048]
        exact ret1 hF rfl rfl ⟨_, rfl, R', by rw [ee, List.length_append, u8s_append]; exact hRow', hM⟩)
     | (have ee : enc c = [0xef, 0xbf, 0xbd] := by unfold enc; rw [if_neg k128, if_neg k2048, if_pos hlo]
        exact ret1 hF rfl rfl ⟨_, rfl, R', by rw [ee, List.length_append, u8s_append]; exact hRow', hM⟩)
     | (have ee : enc c = [(0xe0 + c / 4096).toUInt8, (0x80 + c / 64 % 64).toUInt8, (0x80 + c % 64).toUInt8] := by unfold enc; rw [if_neg k128, if_neg k2048, if_neg hlo, if_pos k65536]
        exact ret1 hF rfl rfl ⟨_, rfl, R', by rw [ee, List.length_append, u8s_append]; exact hRow', hM⟩)
     | (have ee : enc c = [(0xf0 + c / 262144).toUInt8, (0x80 + c / 4096 % 64).toUInt8, (0x80 + c / 64 % 64).toUInt8, (0x80 + c % 64).toUInt8] := by unfold enc; rw [if_neg k128, if_neg k2048, if_neg hlo, if_neg k65536]
        exact ret1 hF rfl rfl ⟨_, rfl, R', by rw [ee, List.length_append, u8s_append]; exact hRow', hM⟩)
  have hlo : ¬ (high c || low c) = true := by rw [hh]; simp only [Bool.false_or]; rw [show low c = false from ht]; decide
  refine Sq (Rg (Md 3 [0,1,37] rfl (Nx (Cd rfl (fun ht => ?_) ((fun ht => ?_))))))
  ·
   have k65536 : c < 65536 := by have := of_decide_eq_true ht; omega
   refine Sq (Rg (Mv 2 rfl (Gv rfl (fun _ hF => gives_quo (((c / 4096 : Nat) : Int)) hF rfl rfl rfl (by decide) (quoN c 4096 (by omega)) _) (Sm (((0xe0 + c / 4096 : Nat) : Int)) rfl (by omega) (Gv rfl (fun _ hF => gives_conv hF rfl Tryz.underlying3 Tryz.underlying5 rfl ((((0xe0 + c / 4096).toUInt8.toNat : Nat) : Int)) (conv_byte (m := (0xe0 + c / 4096)) (by omega)) _) (Mv 1 rfl (Gv rfl (fun _ hF => gives_quo (((c / 64 : Nat) : Int)) hF rfl rfl rfl (by decide) (quoN c 64 (by omega)) _) (Gv rfl (fun _ hF => gives_rem (((c / 64 % 64 : Nat) : Int)) hF rfl rfl rfl (by decide) (remN (c / 64) 64) _) (Sm (((0x80 + c / 64 % 64 : Nat) : Int)) rfl (by omega) (Gv rfl (fun _ hF => gives_conv hF rfl Tryz.underlying3 Tryz.underlying5 rfl ((((0x80 + c / 64 % 64).toUInt8.toNat : Nat) : Int)) (conv_byte (m := (0x80 + c / 64 % 64)) (by omega)) _) (Mv 1 rfl (Gv rfl (fun _ hF => gives_rem (((c % 64 : Nat) : Int)) hF rfl rfl rfl (by decide) (remN (c) 64) _) (Sm (((0x80 + c % 64 : Nat) : Int)) rfl (by omega) (Gv rfl (fun _ hF => gives_conv hF rfl Tryz.underlying3 Tryz.underlying5 rfl ((((0x80 + c % 64).toUInt8.toNat : Nat) : Int)) (conv_byte (m := (0x80 + c % 64)) (by omega)) _) ?_)))))))))))))); intro a hF
   refine op_build hF hM rfl (m := 3) (parts := [(0, .tmp 44), (1, .tmp 49), (2, .tmp 53)]) (vals := [(0, .int .u8 (((0xe0 + c / 4096).toUInt8.toNat : Nat) : Int)), (1, .int .u8 (((0x80 + c / 64 % 64).toUInt8.toNat : Nat) : Int)), (2, .int .u8 (((0x80 + c % 64).toUInt8.toNat : Nat) : Int))]) [.int .u8 (((0xe0 + c / 4096).toUInt8.toNat : Nat) : Int), .int .u8 (((0x80 + c / 64 % 64).toUInt8.toNat : Nat) : Int), .int .u8 (((0x80 + c % 64).toUInt8.toNat : Nat) : Int)] rfl rfl rfl rfl (by decide) (by decide) (by kernel_rfl) ?_; clear hF hM a; intro a w b54 hF hM
   replace hM := hM.perm (L' := R ++ ((b54, 5, [.int .u8 (((0xe0 + c / 4096).toUInt8.toNat : Nat) : Int), .int .u8 (((0x80 + c / 64 % 64).toUInt8.toNat : Nat) : Int), .int .u8 (((0x80 + c % 64).toUInt8.toNat : Nat) : Int)]) :: L)) (pc fun x => by simp [ct, ct_append] <;> omega)
   refine op_appendR hF elt66 hRow hM (sl_all (b := b54) (e := 5) (m := 1) (k := 3) (cs := [.int .u8 (((0xe0 + c / 4096).toUInt8.toNat : Nat) : Int), .int .u8 (((0x80 + c / 64 % 64).toUInt8.toNat : Nat) : Int), .int .u8 (((0x80 + c % 64).toUInt8.toNat : Nat) : Int)]) rfl (by decide)) (by simp) (by simp [Value.oneCell']) (by omega) rfl rfl rfl rfl rfl rfl ?_; clear hF hM a; intro a w R' v' hF hRow' hM
   replace hM := hM.sub (L' := R' ++ L) [(b54, 5, [.int .u8 (((0xe0 + c / 4096).toUInt8.toNat : Nat) : Int), .int .u8 (((0x80 + c / 64 % 64).toUInt8.toNat : Nat) : Int), .int .u8 (((0x80 + c % 64).toUInt8.toNat : Nat) : Int)])] (pc fun x => by simp [ct, ct_append] <;> omega)
   revert a; refine Md 1 [4] rfl (Nx (Re (Rb (Rt ?_)))); intro a hF
   first
     | (have ee : enc c = [c.toUInt8] := by unfold enc; rw [if_pos k128]
        exact ret1 hF rfl rfl ⟨_, rfl, R', by rw [ee, List.length_append, u8s_append]; exact hRow', hM⟩)
     | (have ee : enc c = [(0xc0 + c / 64).toUInt8, (0x80 + c % 64).toUInt8] := by unfold enc; rw [if_neg k128, if_pos k2048]
        exact ret1 hF rfl rfl ⟨_, rfl, R', by rw [ee, List.length_append, u8s_append]; exact hRow', hM⟩)
     | (have ee : enc c = [0xef, 0xbf, 0xbd] := by unfold enc; rw [if_neg k128, if_neg k2048, if_pos hlo]
        exact ret1 hF rfl rfl ⟨_, rfl, R', by rw [ee, List.length_append, u8s_append]; exact hRow', hM⟩)
     | (have ee : enc c = [(0xe0 + c / 4096).toUInt8, (0x80 + c / 64 % 64).toUInt8, (0x80 + c % 64).toUInt8] := by unfold enc; rw [if_neg k128, if_neg k2048, if_neg hlo, if_pos k65536]
        exact ret1 hF rfl rfl ⟨_, rfl, R', by rw [ee, List.length_append, u8s_append]; exact hRow', hM⟩)
     | (have ee : enc c = [(0xf0 + c / 262144).toUInt8, (0x80 + c / 4096 % 64).toUInt8, (0x80 + c / 64 % 64).toUInt8, (0x80 + c % 64).toUInt8] := by unfold enc; rw [if_neg k128, if_neg k2048, if_neg hlo, if_neg k65536]
        exact ret1 hF rfl rfl ⟨_, rfl, R', by rw [ee, List.length_append, u8s_append]; exact hRow', hM⟩)
  have k65536 : ¬ c < 65536 := by have := of_decide_eq_false ht; omega
  refine Sk (Nb (Nx (Sq (Rg (Mv 2 rfl (Gv rfl (fun _ hF => gives_quo (((c / 262144 : Nat) : Int)) hF rfl rfl rfl (by decide) (quoN c 262144 (by omega)) _) (Sm (((0xf0 + c / 262144 : Nat) : Int)) rfl (by omega) (Gv rfl (fun _ hF => gives_conv hF rfl Tryz.underlying3 Tryz.underlying5 rfl ((((0xf0 + c / 262144).toUInt8.toNat : Nat) : Int)) (conv_byte (m := (0xf0 + c / 262144)) (by omega)) _) (Mv 1 rfl (Gv rfl (fun _ hF => gives_quo (((c / 4096 : Nat) : Int)) hF rfl rfl rfl (by decide) (quoN c 4096 (by omega)) _) (Gv rfl (fun _ hF => gives_rem (((c / 4096 % 64 : Nat) : Int)) hF rfl rfl rfl (by decide) (remN (c / 4096) 64) _) (Sm (((0x80 + c / 4096 % 64 : Nat) : Int)) rfl (by omega) (Gv rfl (fun _ hF => gives_conv hF rfl Tryz.underlying3 Tryz.underlying5 rfl ((((0x80 + c / 4096 % 64).toUInt8.toNat : Nat) : Int)) (conv_byte (m := (0x80 + c / 4096 % 64)) (by omega)) _) (Mv 1 rfl (Gv rfl (fun _ hF => gives_quo (((c / 64 : Nat) : Int)) hF rfl rfl rfl (by decide) (quoN c 64 (by omega)) _) (Gv rfl (fun _ hF => gives_rem (((c / 64 % 64 : Nat) : Int)) hF rfl rfl rfl (by decide) (remN (c / 64) 64) _) (Sm (((0x80 + c / 64 % 64 : Nat) : Int)) rfl (by omega) (Gv rfl (fun _ hF => gives_conv hF rfl Tryz.underlying3 Tryz.underlying5 rfl ((((0x80 + c / 64 % 64).toUInt8.toNat : Nat) : Int)) (conv_byte (m := (0x80 + c / 64 % 64)) (by omega)) _) (Mv 1 rfl (Gv rfl (fun _ hF => gives_rem (((c % 64 : Nat) : Int)) hF rfl rfl rfl (by decide) (remN (c) 64) _) (Sm (((0x80 + c % 64 : Nat) : Int)) rfl (by omega) (Gv rfl (fun _ hF => gives_conv hF rfl Tryz.underlying3 Tryz.underlying5 rfl ((((0x80 + c % 64).toUInt8.toNat : Nat) : Int)) (conv_byte (m := (0x80 + c % 64)) (by omega)) _) ?_)))))))))))))))))))))); intro a hF
  refine op_build hF hM rfl (m := 4) (parts := [(0, .tmp 60), (1, .tmp 65), (2, .tmp 70), (3, .tmp 74)]) (vals := [(0, .int .u8 (((0xf0 + c / 262144).toUInt8.toNat : Nat) : Int)), (1, .int .u8 (((0x80 + c / 4096 % 64).toUInt8.toNat : Nat) : Int)), (2, .int .u8 (((0x80 + c / 64 % 64).toUInt8.toNat : Nat) : Int)), (3, .int .u8 (((0x80 + c % 64).toUInt8.toNat : Nat) : Int))]) [.int .u8 (((0xf0 + c / 262144).toUInt8.toNat : Nat) : Int), .int .u8 (((0x80 + c / 4096 % 64).toUInt8.toNat : Nat) : Int), .int .u8 (((0x80 + c / 64 % 64).toUInt8.toNat : Nat) : Int), .int .u8 (((0x80 + c % 64).toUInt8.toNat : Nat) : Int)] rfl rfl rfl rfl (by decide) (by decide) (by kernel_rfl) ?_; clear hF hM a; intro a w b75 hF hM
  replace hM := hM.perm (L' := R ++ ((b75, 5, [.int .u8 (((0xf0 + c / 262144).toUInt8.toNat : Nat) : Int), .int .u8 (((0x80 + c / 4096 % 64).toUInt8.toNat : Nat) : Int), .int .u8 (((0x80 + c / 64 % 64).toUInt8.toNat : Nat) : Int), .int .u8 (((0x80 + c % 64).toUInt8.toNat : Nat) : Int)]) :: L)) (pc fun x => by simp [ct, ct_append] <;> omega)
  refine op_appendR hF elt66 hRow hM (sl_all (b := b75) (e := 5) (m := 1) (k := 4) (cs := [.int .u8 (((0xf0 + c / 262144).toUInt8.toNat : Nat) : Int), .int .u8 (((0x80 + c / 4096 % 64).toUInt8.toNat : Nat) : Int), .int .u8 (((0x80 + c / 64 % 64).toUInt8.toNat : Nat) : Int), .int .u8 (((0x80 + c % 64).toUInt8.toNat : Nat) : Int)]) rfl (by decide)) (by simp) (by simp [Value.oneCell']) (by omega) rfl rfl rfl rfl rfl rfl ?_; clear hF hM a; intro a w R' v' hF hRow' hM
  replace hM := hM.sub (L' := R' ++ L) [(b75, 5, [.int .u8 (((0xf0 + c / 262144).toUInt8.toNat : Nat) : Int), .int .u8 (((0x80 + c / 4096 % 64).toUInt8.toNat : Nat) : Int), .int .u8 (((0x80 + c / 64 % 64).toUInt8.toNat : Nat) : Int), .int .u8 (((0x80 + c % 64).toUInt8.toNat : Nat) : Int)])] (pc fun x => by simp [ct, ct_append] <;> omega)
  revert a; refine Md 1 [4] rfl (Nx (Re ?_)); intro a hF
  first
    | (have ee : enc c = [c.toUInt8] := by unfold enc; rw [if_pos k128]
       exact ret1 hF rfl rfl ⟨_, rfl, R', by rw [ee, List.length_append, u8s_append]; exact hRow', hM⟩)
    | (have ee : enc c = [(0xc0 + c / 64).toUInt8, (0x80 + c % 64).toUInt8] := by unfold enc; rw [if_neg k128, if_pos k2048]
       exact ret1 hF rfl rfl ⟨_, rfl, R', by rw [ee, List.length_append, u8s_append]; exact hRow', hM⟩)
    | (have ee : enc c = [0xef, 0xbf, 0xbd] := by unfold enc; rw [if_neg k128, if_neg k2048, if_pos hlo]
       exact ret1 hF rfl rfl ⟨_, rfl, R', by rw [ee, List.length_append, u8s_append]; exact hRow', hM⟩)
    | (have ee : enc c = [(0xe0 + c / 4096).toUInt8, (0x80 + c / 64 % 64).toUInt8, (0x80 + c % 64).toUInt8] := by unfold enc; rw [if_neg k128, if_neg k2048, if_neg hlo, if_pos k65536]
       exact ret1 hF rfl rfl ⟨_, rfl, R', by rw [ee, List.length_append, u8s_append]; exact hRow', hM⟩)
    | (have ee : enc c = [(0xf0 + c / 262144).toUInt8, (0x80 + c / 4096 % 64).toUInt8, (0x80 + c / 64 % 64).toUInt8, (0x80 + c % 64).toUInt8] := by unfold enc; rw [if_neg k128, if_neg k2048, if_neg hlo, if_neg k65536]
       exact ret1 hF rfl rfl ⟨_, rfl, R', by rw [ee, List.length_append, u8s_append]; exact hRow', hM⟩)
 refine Rg (Mv 1 rfl (Cm hM rfl Tryz.func77 (by kernel_rfl) rfl (high_walk c _) ?_))
 clear hM; intro w v hR hM hBe
 obtain rfl := hR
 intro a hF
 rw [hh] at hF
 revert a; refine Md 5 [0,1,27] rfl (Nx (Ce rfl (fun ht => ?_) ((fun ht => ?_))))
 · cases ht
 have hlo : (high c || low c) = true := by rw [hh]; rfl
 refine Sq (Rg (Mv 1 rfl ?_)); intro a hF
 refine op_build hF hM rfl (m := 3) (parts := [(0, .const (.int .u8 239)), (1, .const (.int .u8 191)), (2, .const (.int .u8 189))]) (vals := [(0, .int .u8 239), (1, .int .u8 191), (2, .int .u8 189)]) [.int .u8 239, .int .u8 191, .int .u8 189] rfl rfl rfl rfl (by decide) (by decide) (by kernel_rfl) ?_; clear hF hM a; intro a w b35 hF hM
 replace hM := hM.perm (L' := R ++ ((b35, 5, [.int .u8 239, .int .u8 191, .int .u8 189]) :: L)) (pc fun x => by simp [ct, ct_append] <;> omega)
 refine op_appendR hF elt66 hRow hM (sl_all (b := b35) (e := 5) (m := 1) (k := 3) (cs := [.int .u8 239, .int .u8 191, .int .u8 189]) rfl (by decide)) (by simp) (by simp [Value.oneCell']) (by omega) rfl rfl rfl rfl rfl rfl ?_; clear hF hM a; intro a w R' v' hF hRow' hM
 replace hM := hM.sub (L' := R' ++ L) [(b35, 5, [.int .u8 239, .int .u8 191, .int .u8 189])] (pc fun x => by simp [ct, ct_append] <;> omega)
 revert a; refine Md 1 [4] rfl (Nx (Re (Rb (Rt ?_)))); intro a hF
 first
   | (have ee : enc c = [c.toUInt8] := by unfold enc; rw [if_pos k128]
      exact ret1 hF rfl rfl ⟨_, rfl, R', by rw [ee, List.length_append, u8s_append]; exact hRow', hM⟩)
   | (have ee : enc c = [(0xc0 + c / 64).toUInt8, (0x80 + c % 64).toUInt8] := by unfold enc; rw [if_neg k128, if_pos k2048]
      exact ret1 hF rfl rfl ⟨_, rfl, R', by rw [ee, List.length_append, u8s_append]; exact hRow', hM⟩)
   | (have ee : enc c = [0xef, 0xbf, 0xbd] := by unfold enc; rw [if_neg k128, if_neg k2048, if_pos hlo]
      exact ret1 hF rfl rfl ⟨_, rfl, R', by rw [ee, List.length_append, u8s_append]; exact hRow', hM⟩)
   | (have ee : enc c = [(0xe0 + c / 4096).toUInt8, (0x80 + c / 64 % 64).toUInt8, (0x80 + c % 64).toUInt8] := by unfold enc; rw [if_neg k128, if_neg k2048, if_neg hlo, if_pos k65536]
      exact ret1 hF rfl rfl ⟨_, rfl, R', by rw [ee, List.length_append, u8s_append]; exact hRow', hM⟩)
   | (have ee : enc c = [(0xf0 + c / 262144).toUInt8, (0x80 + c / 4096 % 64).toUInt8, (0x80 + c / 64 % 64).toUInt8, (0x80 + c % 64).toUInt8] := by unfold enc; rw [if_neg k128, if_neg k2048, if_neg hlo, if_neg k65536]
      exact ret1 hF rfl rfl ⟨_, rfl, R', by rw [ee, List.length_append, u8s_append]; exact hRow', hM⟩)
end Go.Sx
namespace Go.Sx
open Go.RowKit Go.Proofs Js Go.Proofs.YtelonenjneonlaaGreatDoorW.PrintWords
theorem op_bytesStrR {n : Nat} {K : List (Nat × Value)} {a : Act} {w : World} {Q : Exit → Act → World → Prop} {ops : Array Oper} {rest : List Oper} {o : Oper} {B : Nat} {w0 : World} {L R : List Bk} (hF : Fr n K a) {bs : List UInt8} {v : Value} (hRow : Row 5 1 R v bs.length (u8s bs)) (hM : Mem B w0 (R ++ L) w) (hg : o.guard = none) {d : Nat} {x : Operand} (hd : o.dst = some d) (hlt : Nat.blt d n = true) (hop : o.op = .convert 66 9 x)
    (hx : ev K x = some v) (h : ∀ a', Fr n ((d, .string (mkS bs)) :: K) a' → wpList Tryz.prog ops Q rest a' w) : wpList Tryz.prog ops Q (o :: rest) a w := by
  rcases hRow.2 with ⟨rfl, rfl, h0⟩ | ⟨g, cap, vs, rfl, rfl, h1, h2, h3, h4⟩
  · obtain rfl : bs = [] := List.length_eq_zero_iff.1 h0
    refine op_run hF hg (.string (mkS [])) hd hlt ?_ h
    simp only [execOp, hop, hF.ev hx]
    simp [convert, run_underlying Tryz.underlying66, run_underlying Tryz.underlying9, run_underlying Tryz.underlying5]
    try rfl
  · exact op_bytesStr (k := 0) hF hM hg bs hd hlt hop hx rfl (by rw [Nat.mul_one] at h4; exact h4) rfl h
theorem unquote_walk {i : Str} (hi : Ins i) (hl : i.length ≤ 2 ^ 38) (w0 : World) :
    Calls Tryz.prog 48 #[.string (mkS (34 :: i ++ [34]))] w0 (Ret fun v w' => v = .string (mkS (unq i)) ∧ Below w0.heap.size w0 w') := by
 have hM : Mem w0.heap.size w0 [] w0 := Mem.start (Nat.le_refl _)
 have e14 : List.take (i.length + 1 - 1) (List.drop 1 (34 :: i ++ [34])) = i := by simp
 have hsl : (34 :: i ++ [34]).length = i.length + 2 := by simp
 refine enter (l := [.string (mkS (34 :: i ++ [34]))]) 79 Tryz.func48 rfl rfl (fun a hF => ?_)
 replace hF : Fr 80 [(0, .string (mkS (34 :: i ++ [34])))] a := hF
 revert a; refine Sq (Rg (Md 1 [0] rfl (Nx (Sq (Rg (Md 1 [0,3] rfl (Nx (Sq (Rg (Mv 3 rfl (Sm (((i.length + 1 : Nat) : Int)) rfl (by omega) (Gv rfl (fun _ hF => gives_slice_str 1 (i.length + 1) hF rfl Tryz.underlying9 rfl rfl rfl rfl rfl (by omega) (by omega) _) ?_)))))))))))); intro a hF
 rw [e14] at hF
 revert a; refine Md 1 [3,4] rfl (Nx (Sq (Sq (Rg (Md 1 [3,4,5] rfl (Nx (Bo (Kp [3,4,5] rfl ?_)))))))); intro a hF
 refine loopX (fun (x : Nat × Str) a w => ∃ R v, Fr 80 [(3, v), (4, .string (mkS i)), (5, .int .i64 (x.1 : Int))] a ∧ Mem w0.heap.size w0 (R ++ []) w ∧ Row 5 1 R v x.2.length (u8s x.2) ∧ Ins (i.drop x.1) ∧ x.1 ≤ i.length ∧ x.2.length ≤ x.1 ∧ x.2 ++ unq (i.drop x.1) = unq i) (fun x => i.length - x.1) ((0, [])) ?_ (fun x a w hI => ?_)
 · exact ⟨[], _, hF, hM, .nil _ _, hi, Nat.zero_le _, Nat.le_refl _, by simp⟩
 clear hF hM
 obtain ⟨k, out⟩ := x
 obtain ⟨R, v, hF, hM, hRow, hIns, hk, hol, heq⟩ := hI
 simp only at hF hM hRow hIns hk hol heq
 have hdl : (i.drop k).length = i.length - k := List.length_drop
 revert a; refine Sq (Sq (Rg (Md 4 [3,4,5,18] rfl (Nx (Ce rfl (fun ht => ?_) ((fun ht => ?_)))))))
 ·
  have hke : k = i.length := by have := of_decide_eq_false ht; omega
  rw [hke, List.drop_length, show unq [] = [] from by rw [unq], List.append_nil] at heq
  refine Ex (Ot (Ot (Ob (Nx (Sq (Rg (Mv 1 rfl ?_))))))); intro a hF
  refine op_bytesStrR hF hRow hM rfl rfl rfl rfl rfl ?_; clear hF a; intro a hF
  revert a; exact Md 1 [2] rfl (Nx (Re (Y1 rfl rfl ⟨_, rfl, by rw [← heq], hM.below⟩)))
 have hklt : k < i.length := by have := of_decide_eq_true ht; omega
 refine Sk (Nx (Bo (Sq (Sq ?_))))
 rcases unq_step hIns with hD | ⟨c, r, hD, hc, hr, hq⟩ | ⟨d, r, hD, hu, hr, hq⟩ | ⟨n, r, hD, h6, h92, hu, hr, hm, hq⟩ | ⟨n, m, r, hD, h6, h92, hu, hr, hm, hh, hq⟩ | ⟨n, m, r, hD, h6, h92, hu, hr, hm, hh, hlo, hq⟩ | ⟨n, m, r, hD, h6, h92, hu, hr, hm, hh, hlo, hq⟩
 ·
  intro a hF
  rw [hD] at hdl; simp only [List.length_nil] at hdl; omega
 ·
  have hg := drop_get hD 0
  refine Rg (Mv 2 rfl ?_); intro a hF
  refine op_index_str hF rfl (k) c rfl rfl rfl Tryz.underlying9 rfl rfl (by first | rfl | omega) hg ?_; clear hF a; intro a hF
  revert a; refine Mv 1 rfl ?_; intro a hF
  rw [bne_t (d := 92) (z := 92) rfl hc] at hF
  revert a; refine Md 0 [3,4,5,22] rfl (Nx (Ct rfl (Sq (Rg (Mv 3 rfl ?_))))); intro a hF
  refine op_index_str hF rfl (k) c rfl rfl rfl Tryz.underlying9 rfl rfl (by first | rfl | omega) hg ?_; clear hF a; intro a hF
  refine op_buildS hF hM elt66 rfl rfl rfl rfl rfl (cs := [.int .u8 ((c.toNat : Nat) : Int)]) rfl rfl (by decide) ?_; clear hF hM a; intro a w b27 hF hM
  replace hM := hM.perm (L' := R ++ ((b27, 5, [.int .u8 ((c.toNat : Nat) : Int)]) :: [])) (pc fun x => by simp [ct, ct_append] <;> omega)
  refine op_appendR hF elt66 hRow hM (sl_one (b := b27) (e := 5) (m := 1) (cs := [.int .u8 ((c.toNat : Nat) : Int)]) rfl) (by simp) (by simp [Value.oneCell']) (by omega) rfl rfl rfl rfl rfl rfl ?_; clear hF hM a; intro a w R' v' hF hRow' hM
  replace hM := hM.sub (L' := R' ++ []) [(b27, 5, [.int .u8 ((c.toNat : Nat) : Int)])] (pc fun x => by simp [ct, ct_append] <;> omega)
  revert a; refine Md 1 [3,4,5] rfl (Nx (Sq (Rg (Mv 1 rfl (Sm (((k + 1 : Nat) : Int)) rfl (by omega) (Md 1 [3,4,5] rfl (Nx (Ex (Ot (Ob (Kp [3,4,5] rfl ?_)))))))))))
  have hdr : i.drop (k + 1) = r := drop_of (t := [c]) hD
  have hle : k + 1 ≤ i.length := by omega
  intro a hF
  exact ⟨(k + 1, out ++ [c]), ⟨R', _, hF, hM, by simp only; rw [List.length_append, u8s_append]; exact hRow', by simp only; rw [hdr]; exact hr, hle, by simp only [List.length_append]; simp only [List.length_cons, List.length_nil]; omega, by simp only; rw [hdr, ← heq, hq]; simp⟩, by simp only; omega⟩
 ·
  have hg := drop_get hD 0
  have hg1 := drop_get hD 1
  have hle2 : k + 2 ≤ i.length := le_of (t := [92, d]) hD (by simp)
  refine Rg (Mv 2 rfl ?_); intro a hF
  refine op_index_str hF rfl (k) 92 rfl rfl rfl Tryz.underlying9 rfl rfl (by first | rfl | omega) hg ?_; clear hF a; intro a hF
  revert a; refine Md 1 [3,4,5,22] rfl (Nx (Cf rfl (Sk (Nx (Sq (Rg (Mv 2 rfl (Cm hM rfl Tryz.func75 (by kernel_rfl) rfl (unit_walk i k (by omega) (by omega) _) ?_))))))))
  clear hM; intro w v hR hM hBe
  rw [hu] at hR
  try simp only [Option.getD_some, Option.isSome_some] at hR
  obtain rfl := hR
  refine Md 5 [3,4,5,6,7] rfl (Nx (Sq (Sq (Rg (Md 2 [3,4,5,6,38] rfl (Nx (Ct rfl (Sq (Rg (Mv 3 rfl (Sm (((k + 1 : Nat) : Int)) rfl (by omega) ?_))))))))))); intro a hF
  refine op_index_str hF rfl ((k + 1)) d rfl rfl rfl Tryz.underlying9 rfl rfl (by first | rfl | omega) hg1 ?_; clear hF a; intro a hF
  revert a; refine Cm hM rfl Tryz.func76 (by kernel_rfl) rfl (short_walk d _) ?_
  clear hM; intro w v hR hM hBe
  obtain rfl := hR
  intro a hF
  refine op_buildS hF hM elt66 rfl rfl rfl rfl rfl (cs := [.int .u8 (((short d).toNat : Nat) : Int)]) rfl rfl (by decide) ?_; clear hF hM a; intro a w b45 hF hM
  replace hM := hM.perm (L' := R ++ ((b45, 5, [.int .u8 (((short d).toNat : Nat) : Int)]) :: [])) (pc fun x => by simp [ct, ct_append] <;> omega)
  refine op_appendR hF elt66 hRow hM (sl_one (b := b45) (e := 5) (m := 1) (cs := [.int .u8 (((short d).toNat : Nat) : Int)]) rfl) (by simp) (by simp [Value.oneCell']) (by omega) rfl rfl rfl rfl rfl rfl ?_; clear hF hM a; intro a w R' v' hF hRow' hM
  replace hM := hM.sub (L' := R' ++ []) [(b45, 5, [.int .u8 (((short d).toNat : Nat) : Int)])] (pc fun x => by simp [ct, ct_append] <;> omega)
  revert a; refine Md 1 [3,4,5] rfl (Nx (Sq (Rg (Mv 1 rfl (Sm (((k + 2 : Nat) : Int)) rfl (by omega) (Md 1 [3,4,5] rfl (Nx (Ex (Ot (Ob (Kp [3,4,5] rfl ?_)))))))))))
  have hdr : i.drop (k + 2) = r := drop_of (t := [92, d]) hD
  have hle : k + 2 ≤ i.length := hle2
  intro a hF
  exact ⟨(k + 2, out ++ [short d]), ⟨R', _, hF, hM, by simp only; rw [List.length_append, u8s_append]; exact hRow', by simp only; rw [hdr]; exact hr, hle, by simp only [List.length_append]; simp only [List.length_cons, List.length_nil]; omega, by simp only; rw [hdr, ← heq, hq]; simp⟩, by simp only; omega⟩
 ·
  have hnl := unit_lt hu
  have hg : i[k]? = some 92 := (drop_get (s := i) (i := k) rfl 0).trans (by rw [← List.head?_eq_getElem?]; exact h92)
  have hr6 : i.drop (k + 6) = r := by rw [← List.drop_drop]; exact hD
  refine Rg (Mv 2 rfl ?_); intro a hF
  refine op_index_str hF rfl (k) 92 rfl rfl rfl Tryz.underlying9 rfl rfl (by first | rfl | omega) hg ?_; clear hF a; intro a hF
  revert a; refine Md 1 [3,4,5,22] rfl (Nx (Cf rfl (Sk (Nx (Sq (Rg (Mv 2 rfl (Cm hM rfl Tryz.func75 (by kernel_rfl) rfl (unit_walk i k (by omega) (by omega) _) ?_))))))))
  clear hM; intro w v hR hM hBe
  rw [hu] at hR
  try simp only [Option.getD_some, Option.isSome_some] at hR
  obtain rfl := hR
  refine Md 5 [3,4,5,6,7] rfl (Nx (Sq (Sq (Rg (Md 2 [3,4,5,6,38] rfl (Nx (Cf rfl (Sk (Nx (Sq (Rg (Mv 1 rfl (Sm (((k + 6 : Nat) : Int)) rfl (by omega) (Md 1 [3,4,5,6] rfl (Nx (Sq (Sq (Rg (Mv 2 rfl (Cm hM rfl Tryz.func75 (by kernel_rfl) rfl (unit_walk i (k + 6) (by omega) (by omega) _) ?_))))))))))))))))))))
  clear hM; intro w v hR hM hBe
  rw [hr6, hm] at hR
  try simp only [Option.getD_some, Option.isSome_some] at hR
  obtain rfl := hR
  refine Md 5 [3,4,5,6,8,9] rfl (Nx (Sq (Rg (Md 9 [3,4,5,6,8,65] rfl (Nx (Cf rfl (Sk (Nx (Rg (Mv 2 rfl ?_)))))))))); intro a hF
  refine op_call hF rfl rfl rfl rfl Tryz.func79 (by kernel_rfl) rfl rfl (appendUTF8_walk hRow (n) (by omega) (by omega) hM) ?_
  clear hF hM a; intro a w v' hR hF
  obtain ⟨R', hRow', hM⟩ := hR
  revert a; refine Md 1 [3,4,5] rfl (Nb (Kp [3,4,5] rfl ?_))
  have hdr : i.drop (k + 6) = r := hr6
  have hle : k + 6 ≤ i.length := by omega
  intro a hF
  exact ⟨(k + 6, out ++ enc n), ⟨R', _, hF, hM, hRow', by simp only; rw [hdr]; exact hr, hle, by simp only [List.length_append]; have := enc_len n; omega, by simp only; rw [hdr, ← heq, hq]; simp⟩, by simp only; omega⟩
 ·
  have hnl := unit_lt hu
  have hg : i[k]? = some 92 := (drop_get (s := i) (i := k) rfl 0).trans (by rw [← List.head?_eq_getElem?]; exact h92)
  have hr6 : i.drop (k + 6) = r := by rw [← List.drop_drop]; exact hD
  refine Rg (Mv 2 rfl ?_); intro a hF
  refine op_index_str hF rfl (k) 92 rfl rfl rfl Tryz.underlying9 rfl rfl (by first | rfl | omega) hg ?_; clear hF a; intro a hF
  revert a; refine Md 1 [3,4,5,22] rfl (Nx (Cf rfl (Sk (Nx (Sq (Rg (Mv 2 rfl (Cm hM rfl Tryz.func75 (by kernel_rfl) rfl (unit_walk i k (by omega) (by omega) _) ?_))))))))
  clear hM; intro w v hR hM hBe
  rw [hu] at hR
  try simp only [Option.getD_some, Option.isSome_some] at hR
  obtain rfl := hR
  refine Md 5 [3,4,5,6,7] rfl (Nx (Sq (Sq (Rg (Md 2 [3,4,5,6,38] rfl (Nx (Cf rfl (Sk (Nx (Sq (Rg (Mv 1 rfl (Sm (((k + 6 : Nat) : Int)) rfl (by omega) (Md 1 [3,4,5,6] rfl (Nx (Sq (Sq (Rg (Mv 2 rfl (Cm hM rfl Tryz.func75 (by kernel_rfl) rfl (unit_walk i (k + 6) (by omega) (by omega) _) ?_))))))))))))))))))))
  clear hM; intro w v hR hM hBe
  rw [hr6, hm] at hR
  try simp only [Option.getD_some, Option.isSome_some] at hR
  obtain rfl := hR
  refine Md 5 [3,4,5,6,8,9] rfl (Nx (Sq (Rg (Mv 3 rfl (Cm hM rfl Tryz.func77 (by kernel_rfl) rfl (high_walk n _) ?_)))))
  clear hM; intro w v hR hM hBe
  rw [hh] at hR
  try simp only [Option.getD_some, Option.isSome_some] at hR
  obtain rfl := hR
  refine Md 5 [3,4,5,6,8,65] rfl (Nx (Cf rfl (Sk (Nx (Rg (Mv 2 rfl ?_)))))); intro a hF
  refine op_call hF rfl rfl rfl rfl Tryz.func79 (by kernel_rfl) rfl rfl (appendUTF8_walk hRow (n) (by omega) (by omega) hM) ?_
  clear hF hM a; intro a w v' hR hF
  obtain ⟨R', hRow', hM⟩ := hR
  revert a; refine Md 1 [3,4,5] rfl (Nb (Kp [3,4,5] rfl ?_))
  have hdr : i.drop (k + 6) = r := hr6
  have hle : k + 6 ≤ i.length := by omega
  intro a hF
  exact ⟨(k + 6, out ++ enc n), ⟨R', _, hF, hM, hRow', by simp only; rw [hdr]; exact hr, hle, by simp only [List.length_append]; have := enc_len n; omega, by simp only; rw [hdr, ← heq, hq]; simp⟩, by simp only; omega⟩
 ·
  have hnl := unit_lt hu
  have hg : i[k]? = some 92 := (drop_get (s := i) (i := k) rfl 0).trans (by rw [← List.head?_eq_getElem?]; exact h92)
  have hr6 : i.drop (k + 6) = r := by rw [← List.drop_drop]; exact hD
  refine Rg (Mv 2 rfl ?_); intro a hF
  refine op_index_str hF rfl (k) 92 rfl rfl rfl Tryz.underlying9 rfl rfl (by first | rfl | omega) hg ?_; clear hF a; intro a hF
  revert a; refine Md 1 [3,4,5,22] rfl (Nx (Cf rfl (Sk (Nx (Sq (Rg (Mv 2 rfl (Cm hM rfl Tryz.func75 (by kernel_rfl) rfl (unit_walk i k (by omega) (by omega) _) ?_))))))))
  clear hM; intro w v hR hM hBe
  rw [hu] at hR
  try simp only [Option.getD_some, Option.isSome_some] at hR
  obtain rfl := hR
  refine Md 5 [3,4,5,6,7] rfl (Nx (Sq (Sq (Rg (Md 2 [3,4,5,6,38] rfl (Nx (Cf rfl (Sk (Nx (Sq (Rg (Mv 1 rfl (Sm (((k + 6 : Nat) : Int)) rfl (by omega) (Md 1 [3,4,5,6] rfl (Nx (Sq (Sq (Rg (Mv 2 rfl (Cm hM rfl Tryz.func75 (by kernel_rfl) rfl (unit_walk i (k + 6) (by omega) (by omega) _) ?_))))))))))))))))))))
  clear hM; intro w v hR hM hBe
  rw [hr6, hm] at hR
  try simp only [Option.getD_some, Option.isSome_some] at hR
  obtain rfl := hR
  refine Md 5 [3,4,5,6,8,9] rfl (Nx (Sq (Rg (Mv 3 rfl (Cm hM rfl Tryz.func77 (by kernel_rfl) rfl (high_walk n _) ?_)))))
  clear hM; intro w v hR hM hBe
  rw [hh] at hR
  try simp only [Option.getD_some, Option.isSome_some] at hR
  obtain rfl := hR
  refine Mv 3 rfl (Cm hM rfl Tryz.func78 (by kernel_rfl) rfl (low_walk m _) ?_)
  clear hM; intro w v hR hM hBe
  rw [hlo] at hR
  try simp only [Option.getD_some, Option.isSome_some] at hR
  obtain rfl := hR
  refine Md 1 [3,4,5,6,8,65] rfl (Nx (Cf rfl (Sk (Nx (Rg (Mv 2 rfl ?_)))))); intro a hF
  refine op_call hF rfl rfl rfl rfl Tryz.func79 (by kernel_rfl) rfl rfl (appendUTF8_walk hRow (n) (by omega) (by omega) hM) ?_
  clear hF hM a; intro a w v' hR hF
  obtain ⟨R', hRow', hM⟩ := hR
  revert a; refine Md 1 [3,4,5] rfl (Nb (Kp [3,4,5] rfl ?_))
  have hdr : i.drop (k + 6) = r := hr6
  have hle : k + 6 ≤ i.length := by omega
  intro a hF
  exact ⟨(k + 6, out ++ enc n), ⟨R', _, hF, hM, hRow', by simp only; rw [hdr]; exact hr, hle, by simp only [List.length_append]; have := enc_len n; omega, by simp only; rw [hdr, ← heq, hq]; simp⟩, by simp only; omega⟩
 have hnl := unit_lt hu
 have hg : i[k]? = some 92 := (drop_get (s := i) (i := k) rfl 0).trans (by rw [← List.head?_eq_getElem?]; exact h92)
 have hr6 : i.drop (k + 6) = (i.drop k).drop 6 := by rw [← List.drop_drop]
 have hr12 : i.drop (k + 6 + 6) = r := by rw [Nat.add_assoc, ← List.drop_drop]; exact hD
 have hml := unit_lt hm
 have hhb : 55296 ≤ n ∧ n ≤ 56319 := by simpa [high] using hh
 have hlb : 56320 ≤ m ∧ m ≤ 57343 := by simpa [low] using hlo
 refine Rg (Mv 2 rfl ?_); intro a hF
 refine op_index_str hF rfl (k) 92 rfl rfl rfl Tryz.underlying9 rfl rfl (by first | rfl | omega) hg ?_; clear hF a; intro a hF
 revert a; refine Md 1 [3,4,5,22] rfl (Nx (Cf rfl (Sk (Nx (Sq (Rg (Mv 2 rfl (Cm hM rfl Tryz.func75 (by kernel_rfl) rfl (unit_walk i k (by omega) (by omega) _) ?_))))))))
 clear hM; intro w v hR hM hBe
 rw [hu] at hR
 try simp only [Option.getD_some, Option.isSome_some] at hR
 obtain rfl := hR
 refine Md 5 [3,4,5,6,7] rfl (Nx (Sq (Sq (Rg (Md 2 [3,4,5,6,38] rfl (Nx (Cf rfl (Sk (Nx (Sq (Rg (Mv 1 rfl (Sm (((k + 6 : Nat) : Int)) rfl (by omega) (Md 1 [3,4,5,6] rfl (Nx (Sq (Sq (Rg (Mv 2 rfl (Cm hM rfl Tryz.func75 (by kernel_rfl) rfl (unit_walk i (k + 6) (by omega) (by omega) _) ?_))))))))))))))))))))
 clear hM; intro w v hR hM hBe
 rw [hr6, hm] at hR
 try simp only [Option.getD_some, Option.isSome_some] at hR
 obtain rfl := hR
 refine Md 5 [3,4,5,6,8,9] rfl (Nx (Sq (Rg (Mv 3 rfl (Cm hM rfl Tryz.func77 (by kernel_rfl) rfl (high_walk n _) ?_)))))
 clear hM; intro w v hR hM hBe
 rw [hh] at hR
 try simp only [Option.getD_some, Option.isSome_some] at hR
 obtain rfl := hR
 refine Mv 3 rfl (Cm hM rfl Tryz.func78 (by kernel_rfl) rfl (low_walk m _) ?_)
 clear hM; intro w v hR hM hBe
 rw [hlo] at hR
 try simp only [Option.getD_some, Option.isSome_some] at hR
 obtain rfl := hR
 refine Md 1 [3,4,5,6,8,65] rfl (Nx (Ct rfl (Sq (Rg (Mv 1 rfl (Sm (((n - 55296 : Nat) : Int)) rfl (by omega) (Sm ((((n - 55296) * 1024 : Nat) : Int)) rfl (by omega) (Sm (((65536 + (n - 55296) * 1024 : Nat) : Int)) rfl (by omega) (Mv 1 rfl (Sm (((m - 56320 : Nat) : Int)) rfl (by omega) (Sm (((65536 + (n - 55296) * 1024 + (m - 56320) : Nat) : Int)) rfl (by omega) (Md 1 [3,4,5,6] rfl (Nx (Rg (Mv 1 rfl (Sm (((k + 6 + 6 : Nat) : Int)) rfl (by omega) (Md 1 [3,4,5,6] rfl (Nx (Rg (Mv 2 rfl ?_)))))))))))))))))))); intro a hF
 refine op_call hF rfl rfl rfl rfl Tryz.func79 (by kernel_rfl) rfl rfl (appendUTF8_walk hRow (65536 + (n - 55296) * 1024 + (m - 56320)) (by omega) (by omega) hM) ?_
 clear hF hM a; intro a w v' hR hF
 obtain ⟨R', hRow', hM⟩ := hR
 revert a; refine Md 1 [3,4,5] rfl (Nb (Kp [3,4,5] rfl ?_))
 have hdr : i.drop (k + 6 + 6) = r := hr12
 have hle : k + 6 + 6 ≤ i.length := by omega
 intro a hF
 exact ⟨(k + 6 + 6, out ++ enc (65536 + (n - 55296) * 1024 + (m - 56320))), ⟨R', _, hF, hM, hRow', by simp only; rw [hdr]; exact hr, hle, by simp only [List.length_append]; have := enc_len (65536 + (n - 55296) * 1024 + (m - 56320)); omega, by simp only; rw [hdr, ← heq, hq]; simp⟩, by simp only; omega⟩
end Go.Sx
set_option linter.unusedVariables false
namespace Js
def Qs (T : Str) (b e : Nat) : Prop := b ≤ e ∧ e ≤ T.length ∧ ∃ i, Ins i ∧ sub T b e = 34 :: i ++ [34]
mutual
def WfPl (T : Str) : Place → Prop
  | .mk k b e ns kids => (k = 3 → b ≤ e ∧ e ≤ T.length) ∧ (k = 4 → Qs T b e) ∧ (∀ x ∈ ns, Qs T x.1 x.2) ∧ ns.length ≤ T.length ∧ kids.length ≤ T.length ∧ WfPls T kids
def WfPls (T : Str) : List Place → Prop
  | [] => True
  | p :: ps => WfPl T p ∧ WfPls T ps
end
theorem WfPls.at_ {T : Str} : ∀ {ps : List Place}, WfPls T ps → ∀ p ∈ ps, WfPl T p
  | [], _, p, hp => by cases hp
  | q :: ps, h, p, hp => by
    simp only [WfPls] at h
    rcases List.mem_cons.1 hp with rfl | hp
    · exact h.1
    · exact WfPls.at_ h.2 p hp
theorem Qs.of {T s r q : Str} (hs : Sfx T (34 :: s)) (h : pStr s = some q) : Sfx T q ∧ q.length + 1 ≤ s.length ∧ Qs T (T.length - (34 :: s).length) (T.length - q.length) := by
  obtain ⟨i, hi, hin⟩ := ins_split h
  subst hi
  have e1 : 34 :: (i ++ 34 :: q) = (34 :: i ++ [34]) ++ q := by simp
  obtain ⟨pre, hT⟩ := hs
  rw [e1] at hT ⊢
  have hl := congrArg List.length hT
  simp only [List.length_append] at hl
  refine ⟨⟨pre ++ (34 :: i ++ [34]), by rw [hT]; simp⟩, by simp, by simp only [List.length_append]; omega, by omega, i, hin, sub_at hT⟩
theorem Sfx.le {T r : Str} (h : Sfx T r) : r.length ≤ T.length := by have := h.len; omega
theorem num_sfx {T s q : Str} (hs : Sfx T s) (h : pNum s = some q) : Sfx T q ∧ q.length < s.length ∧ T.length - s.length ≤ T.length - q.length ∧ T.length - q.length ≤ T.length := by
  obtain ⟨t, rfl, ht⟩ := num_split h
  have hne : 0 < t.length := by
    cases t with
    | nil => exact absurd (show pNum [] = some [] from ht) (by decide)
    | cons c t => simp
  refine ⟨hs.tail, by simp; omega, by simp; omega, by omega⟩
theorem word_sfx {T u s q : Str} (hs : Sfx T s) (h : pWord u s = some q) : Sfx T q ∧ q.length + u.length = s.length := by
  have := word_split h
  subst this
  exact ⟨hs.tail, by simp; omega⟩
theorem Sfx.takes {T r q : Str} {d : UInt8} (h : Sfx T r) (e : pTake d r = some q) : Sfx T q ∧ q.length + 1 = r.length := by
  have := pTake_some.1 e
  subst this
  exact ⟨h.next.1, rfl⟩
theorem wf_all (T : Str) : ∀ n,
    (∀ s p q, Sfx T s → pVal T.length n s = some (p, q) → WfPl T p ∧ Sfx T q ∧ q.length < s.length) ∧
    (∀ s ps q, Sfx T s → pElems T.length n s = some (ps, q) → WfPls T ps ∧ Sfx T q ∧ ps.length + q.length ≤ s.length) ∧
    (∀ s ns ps q, Sfx T s → pMems T.length n s = some (ns, ps, q) → (∀ x ∈ ns, Qs T x.1 x.2) ∧ WfPls T ps ∧ Sfx T q ∧ ns.length = ps.length ∧ ps.length + q.length ≤ s.length)
  | 0 => ⟨fun _ _ _ _ h => by simp [pVal] at h, fun _ _ _ _ h => by simp [pElems] at h, fun _ _ _ _ _ h => by simp [pMems] at h⟩
  | n + 1 => by
    obtain ⟨ihv, ihe, ihm⟩ := wf_all T n
    refine ⟨?_, ?_, ?_⟩
    · intro s p q hs h
      cases s with
      | nil => simp [pVal] at h
      | cons c s =>
        have hs1 := hs.next.1
        have hs2 := hs1.of_skip
        have hsl := skip_len s
        have hTl := hs2.le
        simp only [pVal] at h
        split at h
        · rename_i hc; subst hc
          split at h
          · rename_i r2 hr2
            obtain ⟨rfl, rfl⟩ := Prod.mk.inj (Option.some.inj h)
            obtain ⟨h1, h2⟩ := hs2.takes hr2
            exact ⟨by simp [WfPl, WfPls], h1, by simp only [List.length_cons]; omega⟩
          · obtain ⟨⟨ns, ps, r'⟩, hx, he⟩ := Option.map_eq_some_iff.1 h
            obtain ⟨rfl, rfl⟩ := Prod.mk.inj he
            obtain ⟨h1, h2, h3, h4, h5⟩ := ihm _ ns ps r' hs2 hx
            refine ⟨?_, h3, by simp only [List.length_cons]; omega⟩
            simp only [WfPl]
            exact ⟨by simp, by simp, h1, by omega, by omega, h2⟩
        · split at h
          · rename_i hc; subst hc
            split at h
            · rename_i r2 hr2
              obtain ⟨rfl, rfl⟩ := Prod.mk.inj (Option.some.inj h)
              obtain ⟨h1, h2⟩ := hs2.takes hr2
              exact ⟨by simp [WfPl, WfPls], h1, by simp only [List.length_cons]; omega⟩
            · obtain ⟨⟨ps, r'⟩, hx, he⟩ := Option.map_eq_some_iff.1 h
              obtain ⟨rfl, rfl⟩ := Prod.mk.inj he
              obtain ⟨h2, h3, h5⟩ := ihe _ ps r' hs2 hx
              refine ⟨?_, h3, by simp only [List.length_cons]; omega⟩
              simp only [WfPl]
              exact ⟨by simp, by simp, by simp, by simp, by omega, h2⟩
          · split at h
            · rename_i hc; subst hc
              obtain ⟨r2, hx, he⟩ := Option.map_eq_some_iff.1 h
              obtain ⟨rfl, rfl⟩ := Prod.mk.inj he
              obtain ⟨h1, h2, h3⟩ := Qs.of (r := []) hs hx
              refine ⟨?_, h1, by simp only [List.length_cons]; omega⟩
              simp only [WfPl, WfPls]
              exact ⟨by simp, fun _ => h3, by simp, by simp, by simp, trivial⟩
            · split at h
              · obtain ⟨r2, hx, he⟩ := Option.map_eq_some_iff.1 h
                obtain ⟨rfl, rfl⟩ := Prod.mk.inj he
                obtain ⟨h1, h2, h3, h4⟩ := num_sfx hs hx
                refine ⟨?_, h1, h2⟩
                simp only [WfPl, WfPls]
                exact ⟨fun _ => ⟨h3, h4⟩, by simp, by simp, by simp, by simp, trivial⟩
              · split at h
                · rename_i r2 hx
                  obtain ⟨rfl, rfl⟩ := Prod.mk.inj (Option.some.inj h)
                  obtain ⟨h1, h2⟩ := word_sfx hs hx
                  refine ⟨by simp [WfPl, WfPls], h1, by simp only [List.length_cons, List.length_nil] at h2 ⊢; omega⟩
                · split at h
                  · rename_i r2 hx
                    obtain ⟨rfl, rfl⟩ := Prod.mk.inj (Option.some.inj h)
                    obtain ⟨h1, h2⟩ := word_sfx hs hx
                    refine ⟨by simp [WfPl, WfPls], h1, by simp only [List.length_cons, List.length_nil] at h2 ⊢; omega⟩
                  · obtain ⟨r2, hx, he⟩ := Option.map_eq_some_iff.1 h
                    obtain ⟨rfl, rfl⟩ := Prod.mk.inj he
                    obtain ⟨h1, h2⟩ := word_sfx hs hx
                    refine ⟨by simp [WfPl, WfPls], h1, by simp only [List.length_cons, List.length_nil] at h2 ⊢; omega⟩
    · intro s ps q hs h
      simp only [pElems] at h
      split at h
      · simp at h
      · rename_i p r1 hv
        obtain ⟨h1, h2, h3⟩ := ihv s p r1 hs hv
        have h4 := h2.of_skip
        have h5 := skip_len r1
        split at h
        · rename_i r2 hr2
          obtain ⟨rfl, rfl⟩ := Prod.mk.inj (Option.some.inj h)
          obtain ⟨h6, h7⟩ := h4.takes hr2
          exact ⟨⟨h1, trivial⟩, h6, by simp only [List.length_cons, List.length_nil]; omega⟩
        · split at h
          · simp at h
          · rename_i r2 hr2
            obtain ⟨⟨ps', r'⟩, hx, he⟩ := Option.map_eq_some_iff.1 h
            obtain ⟨rfl, rfl⟩ := Prod.mk.inj he
            obtain ⟨h6, h7⟩ := h4.takes hr2
            have h8 := skip_len r2
            obtain ⟨h9, h10, h11⟩ := ihe _ ps' r' h6.of_skip hx
            exact ⟨⟨h1, h9⟩, h10, by simp only [List.length_cons]; omega⟩
    · intro s ns ps q hs h
      simp only [pMems] at h
      split at h
      · simp at h
      · rename_i r0 hq
        obtain ⟨s1, hs1, hstr⟩ := Option.bind_eq_some_iff.1 hq
        obtain rfl := pTake_some.1 hs1
        obtain ⟨h1, h2, h3⟩ := Qs.of (r := []) hs hstr
        have h4 := h1.of_skip
        have h5 := skip_len r0
        split at h
        · simp at h
        · rename_i r1 hr1
          obtain ⟨h6, h7⟩ := h4.takes hr1
          have h8 := skip_len r1
          split at h
          · simp at h
          · rename_i p r2 hv
            obtain ⟨h9, h10, h11⟩ := ihv _ p r2 h6.of_skip hv
            have h12 := h10.of_skip
            have h13 := skip_len r2
            split at h
            · rename_i r3 hr3
              have h := Option.some.inj h
              simp only [Prod.mk.injEq] at h
              obtain ⟨rfl, rfl, rfl⟩ := h
              obtain ⟨h14, h15⟩ := h12.takes hr3
              refine ⟨?_, ⟨h9, trivial⟩, h14, rfl, by simp only [List.length_cons, List.length_nil]; omega⟩
              intro x hx
              rw [List.mem_singleton.1 hx]
              exact h3
            · split at h
              · simp at h
              · rename_i r3 hr3
                obtain ⟨⟨ns', ps', r'⟩, hx, he⟩ := Option.map_eq_some_iff.1 h
                simp only [Prod.mk.injEq] at he
                obtain ⟨rfl, rfl, rfl⟩ := he
                obtain ⟨h14, h15⟩ := h12.takes hr3
                have h16 := skip_len r3
                obtain ⟨h17, h18, h19, h20, h21⟩ := ihm _ ns' ps' r' h14.of_skip hx
                refine ⟨?_, ⟨h9, h18⟩, h19, by simp [h20], by simp only [List.length_cons]; omega⟩
                intro x hx
                rcases List.mem_cons.1 hx with rfl | hx
                · exact h3
                · exact h17 x hx
theorem text_wf {T : Str} {p : Place} (h : pText T = some p) : WfPl T p := by
  unfold pText at h
  split at h
  · cases h
  · rename_i p' r hv
    split at h
    · obtain rfl := Option.some.inj h
      exact ((wf_all T _).1 _ _ _ (Sfx.refl T).of_skip hv).1
    · cases h
end Js
namespace Go.Sx
open Go.RowKit Go.Proofs Js Go.Proofs.YtelonenjneonlaaGreatDoorW.PrintWords
theorem SlOf.row {TB : List Bk} {e m : Nat} {v : Value} {n : Nat} {xs : List Value} (h : SlOf TB e m v n xs) (hn : 0 < n) :
    ∃ g cap, v = .slice (some ⟨g, 0, none⟩) n cap ∧ ∀ {B : Nat} {w0 w : World} {L' : List Bk}, Mem B w0 L' w → TB ⊆ L' → ∀ k u, xs[k]? = some u → w.cell? ⟨g, k, none⟩ = some u := by
  rcases h.2 with ⟨_, h0⟩ | ⟨g, cap, vs, hm, rfl, _, _, _, ht⟩
  · omega
  · refine ⟨g, cap, rfl, fun hM hs k u hk => ?_⟩
    rw [blk_cell (hM.held _ (hs hm)).2]
    rw [← ht, List.getElem?_take] at hk
    split at hk
    · simpa using hk
    · cases hk
theorem spans_at : ∀ {ns : List (Nat × Nat)} {j : Nat} {x : Nat × Nat}, ns[j]? = some x → (spans ns)[j * 2]? = some (.int .i64 (x.1 : Int)) ∧ (spans ns)[j * 2 + 1]? = some (.int .i64 (x.2 : Int))
  | [], j, x, h => by simp at h
  | y :: ns, 0, x, h => by simp only [List.getElem?_cons_zero, Option.some.injEq] at h; subst h; exact ⟨rfl, rfl⟩
  | y :: ns, j + 1, x, h => by
    have := spans_at (ns := ns) (j := j) (x := x) (by simpa using h)
    rw [show (j + 1) * 2 = j * 2 + 1 + 1 by omega]
    exact this
theorem trees_map (T : Str) : ∀ ps : List Js.Place, trees T ps = ps.map (tree T)
  | [] => rfl
  | p :: ps => by simp only [trees, List.map_cons, trees_map T ps]
theorem gives_loadMid {P : Program} {n : Nat} {K : List (Nat × Value)} {a : Act} {o : Oper} {x : Operand} {t : TypeId} {d : TypeDesc} {b off : Nat} {cs : List Value} (hF : Fr n K a) {w : World} (hop : o.op = .load t x) (hx : ev K x = some (.pointer (some ⟨b, off, none⟩)))
    (hT : P.underlying t = some d) (hd : d.isRow = true) (hi : (P.info? t).map (·.size) = some cs.length) (hc : w.rangeAt b off cs) : (execOp a.eval o).run P w = .ok (.value (.agg cs.toArray)) w := by
  have e := run_loadAt_mid (P := P) w b off t cs d hc hT hd hi
  simp only [execOp, hop, hF.ev hx]
  simp [e]
def TREE (T : Str) (p : Js.Place) : Prop := ∀ {B : Nat} {wc w0 : World} {L : List Bk} {cs : List Value}, RepPl L p cs → WfPl T p → Mem B wc L w0 →
  Calls Tryz.prog 69 #[.string (mkS T), .agg cs.toArray] w0 (Ret fun v w' => ∃ ns TB, v = .agg ns.toArray ∧ RepNd TB (tree T p) ns ∧ Mem B wc (TB ++ L) w')
end Go.Sx
namespace Go.Sx
theorem SlOf.small {TB : List Bk} {e m : Nat} {v : Value} {n : Nat} {xs : List Value} (h : SlOf TB e m v n xs) : n ≤ 9223372036854775807 := by
  rcases h.2 with ⟨_, h0⟩ | ⟨g, cap, vs, _, _, h1, h2, _⟩
  · omega
  · simp only [maxLen] at h2; omega
end Go.Sx
