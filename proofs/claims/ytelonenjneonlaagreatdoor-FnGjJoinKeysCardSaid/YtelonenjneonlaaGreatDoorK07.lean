/- Part 7 of the proof of FnGjJoinKeys: the statement Rows.FnGjJoinKeysCardSaid; no further condition. -/
import Derived.Test.YtelonenjneonlaaGreatDoorK06
import Derived.Deep.MidRow
import Derived.Great.FillDense
import Derived.Laws.OwnMore
set_option linter.all false
namespace Go.Sx
open Go.RowKit Go.Proofs Js Go.Proofs.YtelonenjneonlaaGreatDoorW.PrintWords
set_option maxRecDepth 100000 in
theorem escape_rd {B : Nat} {wc : World} {L : List Bk} {b : Nat} {T : Str} (hT : T.length ≤ 2 ^ 41) {r : Str} (hs : Sfx T r) {w0 : World} (hM0 : Mem B wc ((b, 108, RD T r) :: L) w0) :
    Calls Tryz.prog 149 #[.pointer (some ⟨b, 0, none⟩)] w0 (Ret fun v w' => v = .bool (pEsc r).isSome ∧ ∃ q, Sfx T q ∧ (∀ q', pEsc r = some q' → q = q') ∧ Mem B wc ((b, 108, RD T q) :: L) w') := by
 have hM := hM0
 have hps := hs.len
 refine enter (l := [.pointer (some ⟨b, 0, none⟩)]) 51 Tryz.func149 rfl rfl (fun a hF => ?_)
 replace hF : Fr 52 [(0, .pointer (some ⟨b, 0, none⟩))] a := hF
 revert a; refine Sq (Rg (Md 1 [0] rfl (Nx (Sq (Sq ?_)))))
 rcases (show r = [] ∨ (∃ c q, r = c :: q ∧ escLetter c = true) ∨ (∃ q, r = 117 :: q) ∨ (∃ c q, r = c :: q ∧ escLetter c = false ∧ c ≠ 117) by cases r with | nil => exact .inl rfl | cons c q => (by_cases h1 : escLetter c = true; exact .inr (.inl ⟨c, q, rfl, h1⟩); by_cases h2 : c = 117; exact .inr (.inr (.inl ⟨q, by rw [h2]⟩)); exact .inr (.inr (.inr ⟨c, q, rfl, by simpa using h1, h2⟩)))) with rfl | ⟨c, q, rfl, hesc⟩ | ⟨q, rfl⟩ | ⟨c, q, rfl, hesc, h117⟩
 ·
  have e1 : pEsc [] = none := rfl
  refine Rg (Mv 1 rfl (Cl rfl Tryz.func111 (by kernel_rfl) rfl (here_walk hT hs hM) ?_))
  clear hM; intro w v hR
  obtain ⟨rfl, hM⟩ := hR
  exact Md 0 [0,7] rfl (Nx (Bo (Sq (Sq (Rg (Md 2 [0,7,8] rfl (Nx (Cf rfl (Sq (Rg (Md 2 [0,7,8] rfl (Nx (Cf rfl (Sq (Rg (Md 2 [0,7,8] rfl (Nx (Cf rfl (Sq (Rg (Md 2 [0,7,8] rfl (Nx (Cf rfl (Sq (Rg (Md 2 [0,7,8] rfl (Nx (Cf rfl (Sq (Rg (Md 2 [0,7,8] rfl (Nx (Cf rfl (Sq (Rg (Md 2 [0,7,8] rfl (Nx (Cf rfl (Rg (Md 2 [0,7,8] rfl (Nx (Cf rfl (Sq (Rg (Md 2 [0,24] rfl (Nx (Cf rfl (Sk (Nb (Nx (Sq (Rg (Md 1 [2] rfl (Nx (Re (Y1 rfl rfl ⟨_, rfl, congrArg Value.bool (congrArg Option.isSome e1.symm), _, hs, (fun q' hq => by rw [e1] at hq; cases hq), hM⟩))))))))))))))))))))))))))))))))))))))))))))))))))))))))
 ·
  obtain ⟨hs1, hp1, hg1, hlt1⟩ := hs.next
  have e1 : pEsc (c :: q) = some q := by simp [pEsc, hesc]
  refine Rg (Mv 1 rfl (Cl rfl Tryz.func111 (by kernel_rfl) rfl (here_walk hT hs hM) ?_))
  clear hM; intro w v hR
  obtain ⟨rfl, hM⟩ := hR
  refine Md 0 [0,7] rfl (Nx (Bo (Sq (Sq (Rg (Md 2 [0,7,8] rfl (Nx (Cd rfl (fun ht => ?_) ((fun ht => ?_))))))))))
  ·
   have hcz : c = 34 := eq_t (d := 34) rfl ht
   refine Sk (Nx (D2 rfl (fun ht => ?_) ?_))
   ·
    intro a hF
    (subst hcz; exact Bool.noConfusion ht)
   refine Sq (Rg (Mv 3 rfl (Ld hM 0 rfl rfl (Sm (((ps T q : Nat) : Int)) rfl (by omega) (Mv 2 rfl (St hM 0 rfl ?_))))))
   clear hM; intro w hM
   exact Md 0 [] rfl (Nx (Sq (Rg (Md 1 [2] rfl (Nx (Re (Rb (Rt (Y1 rfl rfl ⟨_, rfl, congrArg Value.bool (congrArg Option.isSome e1.symm), _, hs1, (fun q' hq => by rw [e1] at hq; exact Option.some.inj hq), hM⟩)))))))))
  have n34 : c ≠ 34 := eq_f (d := 34) rfl ht
  refine Sq (Rg (Md 2 [0,7,8] rfl (Nx (Cd rfl (fun ht => ?_) ((fun ht => ?_))))))
  ·
   have hcz : c = 92 := eq_t (d := 92) rfl ht
   refine Sk (Nx (D2 rfl (fun ht => ?_) ?_))
   ·
    intro a hF
    (subst hcz; exact Bool.noConfusion ht)
   refine Sq (Rg (Mv 3 rfl (Ld hM 0 rfl rfl (Sm (((ps T q : Nat) : Int)) rfl (by omega) (Mv 2 rfl (St hM 0 rfl ?_))))))
   clear hM; intro w hM
   exact Md 0 [] rfl (Nx (Sq (Rg (Md 1 [2] rfl (Nx (Re (Rb (Rt (Y1 rfl rfl ⟨_, rfl, congrArg Value.bool (congrArg Option.isSome e1.symm), _, hs1, (fun q' hq => by rw [e1] at hq; exact Option.some.inj hq), hM⟩)))))))))
  have n92 : c ≠ 92 := eq_f (d := 92) rfl ht
  refine Sq (Rg (Md 2 [0,7,8] rfl (Nx (Cd rfl (fun ht => ?_) ((fun ht => ?_))))))
  ·
   have hcz : c = 47 := eq_t (d := 47) rfl ht
   refine Sk (Nx (D2 rfl (fun ht => ?_) ?_))
   ·
    intro a hF
    (subst hcz; exact Bool.noConfusion ht)
   refine Sq (Rg (Mv 3 rfl (Ld hM 0 rfl rfl (Sm (((ps T q : Nat) : Int)) rfl (by omega) (Mv 2 rfl (St hM 0 rfl ?_))))))
   clear hM; intro w hM
   exact Md 0 [] rfl (Nx (Sq (Rg (Md 1 [2] rfl (Nx (Re (Rb (Rt (Y1 rfl rfl ⟨_, rfl, congrArg Value.bool (congrArg Option.isSome e1.symm), _, hs1, (fun q' hq => by rw [e1] at hq; exact Option.some.inj hq), hM⟩)))))))))
  have n47 : c ≠ 47 := eq_f (d := 47) rfl ht
  refine Sq (Rg (Md 2 [0,7,8] rfl (Nx (Cd rfl (fun ht => ?_) ((fun ht => ?_))))))
  ·
   have hcz : c = 98 := eq_t (d := 98) rfl ht
   refine Sk (Nx (D2 rfl (fun ht => ?_) ?_))
   ·
    intro a hF
    (subst hcz; exact Bool.noConfusion ht)
   refine Sq (Rg (Mv 3 rfl (Ld hM 0 rfl rfl (Sm (((ps T q : Nat) : Int)) rfl (by omega) (Mv 2 rfl (St hM 0 rfl ?_))))))
   clear hM; intro w hM
   exact Md 0 [] rfl (Nx (Sq (Rg (Md 1 [2] rfl (Nx (Re (Rb (Rt (Y1 rfl rfl ⟨_, rfl, congrArg Value.bool (congrArg Option.isSome e1.symm), _, hs1, (fun q' hq => by rw [e1] at hq; exact Option.some.inj hq), hM⟩)))))))))
  have n98 : c ≠ 98 := eq_f (d := 98) rfl ht
  refine Sq (Rg (Md 2 [0,7,8] rfl (Nx (Cd rfl (fun ht => ?_) ((fun ht => ?_))))))
  ·
   have hcz : c = 102 := eq_t (d := 102) rfl ht
   refine Sk (Nx (D2 rfl (fun ht => ?_) ?_))
   ·
    intro a hF
    (subst hcz; exact Bool.noConfusion ht)
   refine Sq (Rg (Mv 3 rfl (Ld hM 0 rfl rfl (Sm (((ps T q : Nat) : Int)) rfl (by omega) (Mv 2 rfl (St hM 0 rfl ?_))))))
   clear hM; intro w hM
   exact Md 0 [] rfl (Nx (Sq (Rg (Md 1 [2] rfl (Nx (Re (Rb (Rt (Y1 rfl rfl ⟨_, rfl, congrArg Value.bool (congrArg Option.isSome e1.symm), _, hs1, (fun q' hq => by rw [e1] at hq; exact Option.some.inj hq), hM⟩)))))))))
  have n102 : c ≠ 102 := eq_f (d := 102) rfl ht
  refine Sq (Rg (Md 2 [0,7,8] rfl (Nx (Cd rfl (fun ht => ?_) ((fun ht => ?_))))))
  ·
   have hcz : c = 110 := eq_t (d := 110) rfl ht
   refine Sk (Nx (D2 rfl (fun ht => ?_) ?_))
   ·
    intro a hF
    (subst hcz; exact Bool.noConfusion ht)
   refine Sq (Rg (Mv 3 rfl (Ld hM 0 rfl rfl (Sm (((ps T q : Nat) : Int)) rfl (by omega) (Mv 2 rfl (St hM 0 rfl ?_))))))
   clear hM; intro w hM
   exact Md 0 [] rfl (Nx (Sq (Rg (Md 1 [2] rfl (Nx (Re (Rb (Rt (Y1 rfl rfl ⟨_, rfl, congrArg Value.bool (congrArg Option.isSome e1.symm), _, hs1, (fun q' hq => by rw [e1] at hq; exact Option.some.inj hq), hM⟩)))))))))
  have n110 : c ≠ 110 := eq_f (d := 110) rfl ht
  refine Sq (Rg (Md 2 [0,7,8] rfl (Nx (Cd rfl (fun ht => ?_) ((fun ht => ?_))))))
  ·
   have hcz : c = 114 := eq_t (d := 114) rfl ht
   refine Sk (Nx (D2 rfl (fun ht => ?_) ?_))
   ·
    intro a hF
    (subst hcz; exact Bool.noConfusion ht)
   refine Sq (Rg (Mv 3 rfl (Ld hM 0 rfl rfl (Sm (((ps T q : Nat) : Int)) rfl (by omega) (Mv 2 rfl (St hM 0 rfl ?_))))))
   clear hM; intro w hM
   exact Md 0 [] rfl (Nx (Sq (Rg (Md 1 [2] rfl (Nx (Re (Rb (Rt (Y1 rfl rfl ⟨_, rfl, congrArg Value.bool (congrArg Option.isSome e1.symm), _, hs1, (fun q' hq => by rw [e1] at hq; exact Option.some.inj hq), hM⟩)))))))))
  have n114 : c ≠ 114 := eq_f (d := 114) rfl ht
  refine Rg (Md 2 [0,7,8] rfl (Nx (Ce rfl (fun ht => ?_) ((fun ht => ?_)))))
  ·
   intro a hF
   (have n116 : c ≠ 116 := eq_f (d := 116) rfl ht; exact absurd hesc (by simp [escLetter, n34, n92, n47, n98, n102, n110, n114, n116]))
  have hcz : c = 116 := eq_t (d := 116) rfl ht
  refine Sq (Rg (Mv 3 rfl (Ld hM 0 rfl rfl (Sm (((ps T q : Nat) : Int)) rfl (by omega) (Mv 2 rfl (St hM 0 rfl ?_))))))
  clear hM; intro w hM
  exact Md 0 [] rfl (Nx (Sq (Rg (Md 1 [2] rfl (Nx (Re (Rb (Rt (Y1 rfl rfl ⟨_, rfl, congrArg Value.bool (congrArg Option.isSome e1.symm), _, hs1, (fun q' hq => by rw [e1] at hq; exact Option.some.inj hq), hM⟩)))))))))
 ·
  obtain ⟨hs1, hp1, hg1, hlt1⟩ := hs.next
  have e1 : pEsc (117 :: q) = pHex 4 q := rfl
  refine Rg (Mv 1 rfl (Cl rfl Tryz.func111 (by kernel_rfl) rfl (here_walk hT hs hM) ?_))
  clear hM; intro w v hR
  obtain ⟨rfl, hM⟩ := hR
  refine Md 0 [0,7] rfl (Nx (Bo (Sq (Sq (Rg (Md 2 [0,7,8] rfl (Nx (Cf rfl (Sq (Rg (Md 2 [0,7,8] rfl (Nx (Cf rfl (Sq (Rg (Md 2 [0,7,8] rfl (Nx (Cf rfl (Sq (Rg (Md 2 [0,7,8] rfl (Nx (Cf rfl (Sq (Rg (Md 2 [0,7,8] rfl (Nx (Cf rfl (Sq (Rg (Md 2 [0,7,8] rfl (Nx (Cf rfl (Sq (Rg (Md 2 [0,7,8] rfl (Nx (Cf rfl (Rg (Md 2 [0,7,8] rfl (Nx (Cf rfl (Sq (Rg (Md 2 [0,24] rfl (Nx (Ct rfl (Sq (Rg (Mv 3 rfl (Ld hM 0 rfl rfl (Sm (((ps T q : Nat) : Int)) rfl (by omega) (Mv 2 rfl (St hM 0 rfl ?_))))))))))))))))))))))))))))))))))))))))))))))))))))))
  clear hM; intro w hM
  refine Md 0 [0] rfl (Nx (Sq (Sq (Rg (Md 1 [0,3] rfl (Nx (Bo (Kp [0,3] rfl ?_)))))))); intro a hF
  refine loopX (fun (x : Nat × Str) a w => Fr 52 [(0, .pointer (some ⟨b, 0, none⟩)), (3, .int .i64 (x.1 : Int))] a ∧ Mem B wc ((b, 108, RD T x.2) :: L) w ∧ Sfx T x.2 ∧ x.1 ≤ 4 ∧ pHex (4 - x.1) x.2 = pHex 4 q) (fun x => 4 - x.1) ((0, q)) ?_ (fun x a w hI => ?_)
  · exact ⟨hF, hM, hs1, Nat.zero_le _, rfl⟩
  clear hF hM
  clear hs hps hs1
  obtain ⟨k, u⟩ := x
  obtain ⟨hF, hM, hs, hk, hpx⟩ := hI
  simp only at hF hM hs hk hpx
  have hps := hs.len
  revert a; refine Sq (Sq (Rg (Md 2 [0,3,34] rfl (Nx (Ce rfl (fun ht => ?_) ((fun ht => ?_)))))))
  ·
   have hk4 : k = 4 := by have := of_decide_eq_false ht; omega
   subst hk4
   have e2 : pHex (4 - 4) u = some u := rfl
   exact Ex (Ot (Ot (Ob (Nx (Sq (Rg (Md 1 [2] rfl (Nx (Re (Rb (Rt (Y1 rfl rfl ⟨_, rfl, congrArg Value.bool (congrArg Option.isSome (e1.trans (hpx.symm.trans e2)).symm), _, hs, (fun q' hq => by have := (e1.trans (hpx.symm.trans e2)).symm.trans hq; first | exact Option.some.inj this | cases this), hM⟩))))))))))))
  have hk4 := of_decide_eq_true ht
  refine Sk (Nx (Sq (Bo (Sq (Sq (Rg (Mv 1 rfl (Cl rfl Tryz.func111 (by kernel_rfl) rfl (here_walk hT hs hM) ?_))))))))
  clear hM; intro w v hR
  obtain ⟨rfl, hM⟩ := hR
  refine Cm hM rfl Tryz.func116 (by kernel_rfl) rfl (hexDigit_walk (u.headD 0) _) ?_
  clear hM; intro w v hR hM hBe
  obtain rfl := hR
  refine Md 5 [0,3,5] rfl (Nx (Sq (Rg (Md 2 [0,3,44] rfl (Nx (Cd rfl (fun ht => ?_) ((fun ht => ?_))))))))
  ·
   have hx : (hexVal (u.headD 0)).isSome = false := by simpa using ht
   have e2 : pHex (4 - k) u = none := by rw [show 4 - k = (4 - (k + 1)) + 1 by omega]; cases u with | nil => rfl | cons c u => (simp only [pHex]; rw [if_neg (by simpa using hx)])
   exact Sq (Rg (Md 1 [2] rfl (Nx (Re (Rt (Rb (Rt (Rt (Rb (Rt (Rb (Rt (Y1 rfl rfl ⟨_, rfl, congrArg Value.bool (congrArg Option.isSome (e1.trans (hpx.symm.trans e2)).symm), _, hs, (fun q' hq => by have := (e1.trans (hpx.symm.trans e2)).symm.trans hq; first | exact Option.some.inj this | cases this), hM⟩)))))))))))))
  have hx : (hexVal (u.headD 0)).isSome = true := by simpa using ht
  obtain ⟨c, u', rfl⟩ : ∃ c u', u = c :: u' := by cases u with | nil => exact absurd hx (by decide) | cons c u' => exact ⟨c, u', rfl⟩
  obtain ⟨hs1, hp1, hg1, hlt1⟩ := hs.next
  refine Sk (Nx (Rg (Mv 3 rfl (Ld hM 0 rfl rfl (Sm (((ps T u' : Nat) : Int)) rfl (by omega) (Mv 2 rfl (St hM 0 rfl ?_)))))))
  clear hM; intro w hM
  refine Md 0 [0,3] rfl (Nb (Nx (Rg (Mv 1 rfl (Sm (((k + 1 : Nat) : Int)) rfl (by omega) (Md 1 [0,3] rfl ?_)))))); intro a hF
  exact ⟨(k + 1, u'), ⟨hF, hM, hs1, by omega, by simp only; rw [← hpx, show 4 - k = (4 - (k + 1)) + 1 by omega]; simp only [pHex]; exact (if_pos hx).symm⟩, by simp only; omega⟩
 have e1 : pEsc (c :: q) = none := by simp [pEsc, hesc, h117]
 refine Rg (Mv 1 rfl (Cl rfl Tryz.func111 (by kernel_rfl) rfl (here_walk hT hs hM) ?_))
 clear hM; intro w v hR
 obtain ⟨rfl, hM⟩ := hR
 refine Md 0 [0,7] rfl (Nx (Bo (Sq (Sq (Rg (Md 2 [0,7,8] rfl (Nx (C1 rfl (fun ht => ?_) ?_))))))))
 ·
  intro a hF
  (obtain rfl := eq_t (d := 34) rfl ht; exact absurd hesc (by decide))
 refine Sq (Rg (Md 2 [0,7,8] rfl (Nx (C1 rfl (fun ht => ?_) ?_))))
 ·
  intro a hF
  (obtain rfl := eq_t (d := 92) rfl ht; exact absurd hesc (by decide))
 refine Sq (Rg (Md 2 [0,7,8] rfl (Nx (C1 rfl (fun ht => ?_) ?_))))
 ·
  intro a hF
  (obtain rfl := eq_t (d := 47) rfl ht; exact absurd hesc (by decide))
 refine Sq (Rg (Md 2 [0,7,8] rfl (Nx (C1 rfl (fun ht => ?_) ?_))))
 ·
  intro a hF
  (obtain rfl := eq_t (d := 98) rfl ht; exact absurd hesc (by decide))
 refine Sq (Rg (Md 2 [0,7,8] rfl (Nx (C1 rfl (fun ht => ?_) ?_))))
 ·
  intro a hF
  (obtain rfl := eq_t (d := 102) rfl ht; exact absurd hesc (by decide))
 refine Sq (Rg (Md 2 [0,7,8] rfl (Nx (C1 rfl (fun ht => ?_) ?_))))
 ·
  intro a hF
  (obtain rfl := eq_t (d := 110) rfl ht; exact absurd hesc (by decide))
 refine Sq (Rg (Md 2 [0,7,8] rfl (Nx (C1 rfl (fun ht => ?_) ?_))))
 ·
  intro a hF
  (obtain rfl := eq_t (d := 114) rfl ht; exact absurd hesc (by decide))
 refine Rg (Md 2 [0,7,8] rfl (Nx (C1 rfl (fun ht => ?_) ?_)))
 ·
  intro a hF
  (obtain rfl := eq_t (d := 116) rfl ht; exact absurd hesc (by decide))
 exact Sq (Rg (Md 2 [0,24] rfl (Nx (C1 rfl (fun ht => absurd (eq_t (d := 117) rfl ht) h117) (Sk (Nb (Nx (Sq (Rg (Md 1 [2] rfl (Nx (Re (Y1 rfl rfl ⟨_, rfl, congrArg Value.bool (congrArg Option.isSome e1.symm), _, hs, (fun q' hq => by rw [e1] at hq; cases hq), hM⟩)))))))))))))
end Go.Sx
namespace Go.Sx
open Go.RowKit Go.Proofs Js Go.Proofs.YtelonenjneonlaaGreatDoorW.PrintWords
set_option maxRecDepth 100000 in
theorem quoted_rd {B : Nat} {wc : World} {L : List Bk} {b : Nat} {T : Str} (hT : T.length ≤ 2 ^ 41) {r : Str} (hs : Sfx T (34 :: r)) {w0 : World} (hM0 : Mem B wc ((b, 108, RD T (34 :: r)) :: L) w0) :
    Calls Tryz.prog 114 #[.pointer (some ⟨b, 0, none⟩)] w0 (Ret fun v w' => v = .bool (pStr r).isSome ∧ ∃ q, Sfx T q ∧ (∀ q', pStr r = some q' → q = q') ∧ Mem B wc ((b, 108, RD T q) :: L) w') := by
 have hM := hM0
 have hps := hs.len
 obtain ⟨hs1, hp1, hg1, hlt1⟩ := hs.next
 refine enter (l := [.pointer (some ⟨b, 0, none⟩)]) 48 Tryz.func114 rfl rfl (fun a hF => ?_)
 replace hF : Fr 49 [(0, .pointer (some ⟨b, 0, none⟩))] a := hF
 revert a; refine Sq (Rg (Md 1 [0] rfl (Nx (Sq (Rg (Mv 3 rfl (Ld hM 0 rfl rfl (Sm (((ps T r : Nat) : Int)) rfl (by omega) (Mv 2 rfl (St hM 0 rfl ?_))))))))))
 clear hM; intro w hM
 refine Md 0 [0] rfl (Nx (Sq (Bo (Kp [0] rfl ?_)))); intro a hF
 refine loopX (fun (u : Str) a w => Fr 49 [(0, .pointer (some ⟨b, 0, none⟩))] a ∧ Mem B wc ((b, 108, RD T u) :: L) w ∧ Sfx T u ∧ pStr u = pStr r) (fun u => u.length) (r) ?_ (fun u a w hI => ?_)
 · exact ⟨hF, hM, hs1, rfl⟩
 clear hF hM
 clear hs hps hs1
 obtain ⟨hF, hM, hs, hpu⟩ := hI
 have hps := hs.len
 revert a; refine Sq (Sq ?_)
 rcases u with _ | ⟨c, u⟩
 ·
  rw [ps_nil] at hps
  have e1 : pStr r = none := by rw [← hpu, pStr_nil]
  refine Sl (by kernel_rfl) (by kernel_rfl) ?_
  replace hM := hM.drew
  skip
  refine Ms 3 rfl (Ls hM 0 rfl rfl (Ms 3 rfl (Ls hM 0 rfl rfl (Ms 2 rfl ?_)))); intro a hF
  rw [ps_nil, decide_eq_false (show ¬ ((T.length : Int) < (T.length : Int)) by omega)] at hF
  revert a; exact Sd (Kp [0,20] rfl (Nx (Cf rfl (Ex (Ot (Ot (Ob (Nx (Sq (Rg (Md 1 [2] rfl (Nx (Re (Y1 rfl rfl ⟨_, rfl, congrArg Value.bool (congrArg Option.isSome e1.symm), _, hs, (fun q' hq => by rw [e1] at hq; cases hq), hM⟩))))))))))))))
 obtain ⟨hs1, hp1, hg1, hlt1⟩ := hs.next
 have ec := pStr_cons c u
 rw [hpu] at ec
 refine Sl (by kernel_rfl) (by kernel_rfl) ?_
 replace hM := hM.drew
 skip
 refine Ms 3 rfl (Ls hM 0 rfl rfl (Ms 3 rfl (Ls hM 0 rfl rfl (Ms 1 rfl (Bs rfl rfl (decide_eq_true (show ((ps T (c :: u) : Nat) : Int) < (T.length : Int) by omega)) (Sd (Kp [0,20] rfl (Nx (Ct rfl (Sk (Nx (Bo (Sq (Sl (by kernel_rfl) (by kernel_rfl) ?_))))))))))))))
 replace hM := hM.drew
 skip
 refine Ms 3 rfl (Ls hM 0 rfl rfl (Ms 3 rfl (Ls hM 0 rfl rfl (Is ((ps T (c :: u))) c rfl hg1 (by omega) (Ms 1 rfl (Sd (Kp [0,3] rfl (Nx (Sq (Rg (Mv 3 rfl (Ld hM 0 rfl rfl (Sm (((ps T u : Nat) : Int)) rfl (by omega) (Mv 2 rfl (St hM 0 rfl ?_)))))))))))))))
 clear hM; intro w hM
 refine Md 0 [0,3] rfl (Nx (Bo (Sq (Rg (Md 3 [0,3,37] rfl (Nx (Cd rfl (fun ht => ?_) ((fun ht => ?_)))))))))
 ·
  have hcq : c = 34 := eq_t (d := 34) rfl ht
  have e1 : pStr r = some u := by rw [ec, if_pos hcq]
  refine Sq (Rg (Md 1 [2] rfl (Nx (Re (Rb (Rb (Rt (Rb (Rt ?_))))))))); intro a hF
  first | exact ret1 hF rfl rfl ⟨_, rfl, congrArg Value.bool (congrArg Option.isSome e1.symm), _, hs1, (fun q' hq => by rw [e1] at hq; first | exact Option.some.inj hq | cases hq), hM⟩ | exact ret1 hF rfl rfl ⟨_, rfl, congrArg Value.bool (congrArg Option.isSome e1.symm), _, hsE, (fun q' hq => by rw [e1] at hq; cases hq), hM⟩
 have n34 : c ≠ 34 := eq_f (d := 34) rfl ht
 rw [if_neg n34] at ec
 refine Sq (Rg (Md 3 [0,3,40] rfl (Nx (Cd rfl (fun ht => ?_) ((fun ht => ?_))))))
 ·
  have h32 : c.toNat < 32 := by have := of_decide_eq_true ht; omega
  have e1 : pStr r = none := by rw [ec, if_pos h32]
  refine Sq (Rg (Md 1 [2] rfl (Nx (Re (Rb (Rb (Rt (Rb (Rt ?_))))))))); intro a hF
  first | exact ret1 hF rfl rfl ⟨_, rfl, congrArg Value.bool (congrArg Option.isSome e1.symm), _, hs1, (fun q' hq => by rw [e1] at hq; first | exact Option.some.inj hq | cases hq), hM⟩ | exact ret1 hF rfl rfl ⟨_, rfl, congrArg Value.bool (congrArg Option.isSome e1.symm), _, hsE, (fun q' hq => by rw [e1] at hq; cases hq), hM⟩
 have h32 : ¬ c.toNat < 32 := by have := of_decide_eq_false ht; omega
 rw [if_neg h32] at ec
 refine Sq (Rg (Md 3 [0,43] rfl (Nx (Ce rfl (fun ht => ?_) ((fun ht => ?_))))))
 ·
  have n92 : c ≠ 92 := eq_f (d := 92) rfl ht
  rw [if_neg n92] at ec
  have hpP : pStr u = pStr r := ec.symm
  refine Sk (Nb (Nb (Kp [0] rfl ?_))); intro a hF
  first | exact ⟨_, ⟨hF, hM, hsE, hpE⟩, hlE⟩ | exact ⟨u, ⟨hF, hM, hs1, hpP⟩, by simp⟩
 have hcb : c = 92 := eq_t (d := 92) rfl ht
 rw [if_pos hcb] at ec
 refine Sq (Rg (Mv 1 rfl (Cl rfl Tryz.func149 (by kernel_rfl) rfl (escape_rd hT hs1 hM) ?_)))
 clear hM; intro w v hR
 obtain ⟨rfl, q, hsE, hqE, hM⟩ := hR
 refine Md 1 [0,48] rfl (Nx (Ce rfl (fun ht => ?_) ((fun ht => ?_))))
 ·
  obtain ⟨q', hq'⟩ : ∃ q', pEsc u = some q' := by cases hp : pEsc u with | none => rw [hp] at ht; cases ht | some q => exact ⟨q, rfl⟩
  have hqq := hqE q' hq'
  subst hqq
  have hpE : pStr q = pStr r := by rw [ec, hq']; rfl
  have hlE : q.length < (c :: u).length := by have := pEsc_lt u q hq'; simp; omega
  refine Sk (Nb (Nb (Kp [0] rfl ?_))); intro a hF
  first | exact ⟨_, ⟨hF, hM, hsE, hpE⟩, hlE⟩ | exact ⟨u, ⟨hF, hM, hs1, hpP⟩, by simp⟩
 have hn : pEsc u = none := by cases hp : pEsc u with | none => rfl | some q => rw [hp] at ht; cases ht
 have e1 : pStr r = none := by rw [ec, hn]; rfl
 refine Sq (Rg (Md 1 [2] rfl (Nx (Re (Rb (Rb (Rt (Rb (Rt ?_))))))))); intro a hF
 first | exact ret1 hF rfl rfl ⟨_, rfl, congrArg Value.bool (congrArg Option.isSome e1.symm), _, hs1, (fun q' hq => by rw [e1] at hq; first | exact Option.some.inj hq | cases hq), hM⟩ | exact ret1 hF rfl rfl ⟨_, rfl, congrArg Value.bool (congrArg Option.isSome e1.symm), _, hsE, (fun q' hq => by rw [e1] at hq; cases hq), hM⟩
end Go.Sx
namespace Go.Sx
open Go.RowKit Go.Proofs Js Go.Proofs.YtelonenjneonlaaGreatDoorW.PrintWords
theorem digs_step {c : UInt8} (r : Str) (h : isDig c = true) : digs (c :: r) = digs r := by simp [digs, h]
theorem digs_stop {c : UInt8} (r : Str) (h : isDig c = false) : digs (c :: r) = c :: r := by simp [digs, h]
theorem digs_len (r : Str) : (digs r).length ≤ r.length := by
  obtain ⟨d, e, _⟩ := digs_split r
  have := congrArg List.length e
  rw [List.length_append] at this
  omega
theorem Sfx_digs {T r : Str} (h : Sfx T r) : Sfx T (digs r) := by
  obtain ⟨d, e, _⟩ := digs_split r
  rw [e] at h
  exact h.tail
set_option maxRecDepth 100000 in
theorem digits_walk {B : Nat} {wc : World} {L : List Bk} {b : Nat} {T : Str} (hT : T.length ≤ 2 ^ 41) {r : Str} (hs : Sfx T r) {w0 : World} (hM0 : Mem B wc ((b, 108, RD T r) :: L) w0) :
    Calls Tryz.prog 118 #[.pointer (some ⟨b, 0, none⟩)] w0 (Ret fun v w' => v = .bool (pDigits r).isSome ∧ Mem B wc ((b, 108, RD T (digs r)) :: L) w') := by
 have hM := hM0
 have hps := hs.len
 have hs0 := hs
 have hps0 := hps
 refine enter (l := [.pointer (some ⟨b, 0, none⟩)]) 31 Tryz.func118 rfl rfl (fun a hF => ?_)
 replace hF : Fr 32 [(0, .pointer (some ⟨b, 0, none⟩))] a := hF
 revert a; refine Sq (Rg (Md 1 [0] rfl (Nx (Sq (Rg (Mv 3 rfl (Ld hM 0 rfl rfl (Md 1 [0,3] rfl (Nx (Sq (Sq (Rg (Mv 1 rfl (Cl rfl Tryz.func111 (by kernel_rfl) rfl (here_walk hT hs hM) ?_))))))))))))))
 clear hM; intro w v hR
 obtain ⟨rfl, hM⟩ := hR
 refine Md 1 [0,3,4] rfl (Nx (Bo (Kp [0,3,4] rfl ?_))); intro a hF
 refine loopX (fun (q : Str) a w => Fr 32 [(0, .pointer (some ⟨b, 0, none⟩)), (3, .int .i64 ((ps T r : Nat) : Int)), (4, .int .u8 ((q.headD 0).toNat : Int))] a ∧ Mem B wc ((b, 108, RD T q) :: L) w ∧ Sfx T q ∧ digs q = digs r) (fun q => q.length) (r) ?_ (fun q a w hI => ?_)
 · exact ⟨hF, hM, hs, rfl⟩
 clear hF hM
 clear hs hps
 obtain ⟨hF, hM, hs, hdq⟩ := hI
 have hps := hs.len
 revert a; refine Sq (Sq ?_)
 rcases (show q = [] ∨ (∃ c q', q = c :: q' ∧ c.toNat < 48) ∨ (∃ c q', q = c :: q' ∧ 48 ≤ c.toNat ∧ 57 < c.toNat) ∨ (∃ c q', q = c :: q' ∧ 48 ≤ c.toNat ∧ c.toNat ≤ 57) by cases q with | nil => exact .inl rfl | cons c q' => rcases (show c.toNat < 48 ∨ (48 ≤ c.toNat ∧ 57 < c.toNat) ∨ (48 ≤ c.toNat ∧ c.toNat ≤ 57) by omega) with h | h | h; exact .inr (.inl ⟨c, q', rfl, h⟩); exact .inr (.inr (.inl ⟨c, q', rfl, h⟩)); exact .inr (.inr (.inr ⟨c, q', rfl, h⟩))) with rfl | ⟨c, q, rfl, hk⟩ | ⟨c, q, rfl, hk⟩ | ⟨c, q, rfl, hk⟩
 ·
  have hd0 : digs r = [] := hdq.symm
  refine Rg (Mv 2 rfl ?_); intro a hF
  rw [show decide ((48 : Int) ≤ ((([] : Str).headD 0).toNat : Int)) = false from rfl] at hF
  revert a; refine Md 4 [0,3,16] rfl (Nx (Cf rfl (Ex (Ot (Ot (Ob (Nx (Sq (Rg (Mv 3 rfl (Ld hM 0 rfl rfl (Md 3 [2] rfl (Nx (Re ?_)))))))))))))); intro a hF
  rw [← hd0] at hF hM
  have hle := digs_len r
  have hval : decide ((ps T (digs r) : Int) > (ps T r : Int)) = (pDigits r).isSome := by
    have h1 := (Sfx_digs hs0).len
    unfold pDigits
    split
    · rw [decide_eq_true (by omega)]; rfl
    · rw [decide_eq_false (by omega)]; rfl
  rw [hval] at hF
  exact ret1 hF rfl rfl ⟨_, rfl, rfl, hM⟩
 ·
  have hcd : isDig c = false := by simp [isDig]; omega
  have hd0 : digs r = c :: q := by rw [← hdq, digs_stop _ hcd]
  refine Rg (Mv 1 rfl (Bv rfl rfl (decide_eq_false (show ¬ ((48 : Int) ≤ (((c :: q).headD 0).toNat : Int)) by simp only [List.headD_cons]; omega)) (Md 4 [0,3,16] rfl (Nx (Cf rfl (Ex (Ot (Ot (Ob (Nx (Sq (Rg (Mv 3 rfl (Ld hM 0 rfl rfl (Md 3 [2] rfl (Nx (Re ?_))))))))))))))))); intro a hF
  rw [← hd0] at hF hM
  have hle := digs_len r
  have hval : decide ((ps T (digs r) : Int) > (ps T r : Int)) = (pDigits r).isSome := by
    have h1 := (Sfx_digs hs0).len
    unfold pDigits
    split
    · rw [decide_eq_true (by omega)]; rfl
    · rw [decide_eq_false (by omega)]; rfl
  rw [hval] at hF
  exact ret1 hF rfl rfl ⟨_, rfl, rfl, hM⟩
 ·
  have hcd : isDig c = false := by simp [isDig]; omega
  have hd0 : digs r = c :: q := by rw [← hdq, digs_stop _ hcd]
  refine Rg (Mv 1 rfl (Bv rfl rfl (decide_eq_true (show (48 : Int) ≤ (((c :: q).headD 0).toNat : Int) by simp only [List.headD_cons]; omega)) (Mv 2 rfl (Bv rfl rfl (decide_eq_false (show ¬ ((((c :: q).headD 0).toNat : Int) ≤ 57) by simp only [List.headD_cons]; omega)) (Md 1 [0,3,16] rfl (Nx (Cf rfl (Ex (Ot (Ot (Ob (Nx (Sq (Rg (Mv 3 rfl (Ld hM 0 rfl rfl (Md 3 [2] rfl (Nx (Re ?_))))))))))))))))))); intro a hF
  rw [← hd0] at hF hM
  have hle := digs_len r
  have hval : decide ((ps T (digs r) : Int) > (ps T r : Int)) = (pDigits r).isSome := by
    have h1 := (Sfx_digs hs0).len
    unfold pDigits
    split
    · rw [decide_eq_true (by omega)]; rfl
    · rw [decide_eq_false (by omega)]; rfl
  rw [hval] at hF
  exact ret1 hF rfl rfl ⟨_, rfl, rfl, hM⟩
 have hcd : isDig c = true := by simp [isDig]; omega
 obtain ⟨hs1, hp1, hg1, hlt1⟩ := hs.next
 refine Rg (Mv 1 rfl (Bv rfl rfl (decide_eq_true (show (48 : Int) ≤ (((c :: q).headD 0).toNat : Int) by simp only [List.headD_cons]; omega)) (Mv 2 rfl (Bv rfl rfl (decide_eq_true (show (((c :: q).headD 0).toNat : Int) ≤ 57 by simp only [List.headD_cons]; omega)) (Md 1 [0,3,16] rfl (Nx (Ct rfl (Sk (Nx (Sq (Bo (Rg (Mv 3 rfl (Ld hM 0 rfl rfl (Sm (((ps T q : Nat) : Int)) rfl (by omega) (Mv 2 rfl (St hM 0 rfl ?_)))))))))))))))))
 clear hM; intro w hM
 refine Md 0 [0,3] rfl (Nb (Nx (Rg (Mv 1 rfl (Cl rfl Tryz.func111 (by kernel_rfl) rfl (here_walk hT hs1 hM) ?_)))))
 clear hM; intro w v hR
 obtain ⟨rfl, hM⟩ := hR
 refine Md 1 [0,3,4] rfl ?_; intro a hF
 exact ⟨q, ⟨hF, hM, hs1, by rw [← hdq, digs_step _ hcd]⟩, by simp⟩
end Go.Sx
namespace Go.Sx
open Go.RowKit Go.Proofs Js Go.Proofs.YtelonenjneonlaaGreatDoorW.PrintWords
theorem Sfx_take {T r : Str} (h : Sfx T r) (c : UInt8) : Sfx T ((pTake c r).getD r) := by
  cases hp : pTake c r with
  | none => exact h
  | some q => rw [pTake_some] at hp; subst hp; exact h.next.1
theorem pDigits_eq {r : Str} : pDigits r = if (pDigits r).isSome then some (digs r) else none := by
  unfold pDigits; split <;> rfl
theorem pDigits_out {q q' : Str} (h : pDigits q = some q') : digs q = q' := by
  unfold pDigits at h
  split at h
  · exact Option.some.inj h
  · cases h
set_option maxRecDepth 100000 in
theorem number_rd {B : Nat} {wc : World} {L : List Bk} {b : Nat} {T : Str} (hT : T.length ≤ 2 ^ 41) {r : Str} (hs : Sfx T r) {w0 : World} (hM0 : Mem B wc ((b, 108, RD T r) :: L) w0) :
    Calls Tryz.prog 81 #[.pointer (some ⟨b, 0, none⟩)] w0 (Ret fun v w' => v = .bool (pNum r).isSome ∧ ∃ q, Sfx T q ∧ (∀ q', pNum r = some q' → q = q') ∧ Mem B wc ((b, 108, RD T q) :: L) w') := by
 have hM := hM0
 have hps := hs.len
 refine enter (l := [.pointer (some ⟨b, 0, none⟩)]) 32 Tryz.func81 rfl rfl (fun a hF => ?_)
 replace hF : Fr 33 [(0, .pointer (some ⟨b, 0, none⟩))] a := hF
 revert a; refine Sq (Rg (Md 1 [0] rfl (Nx (Sq (Rg (Mv 1 rfl (Cl rfl Tryz.func117 (by kernel_rfl) rfl (take_walk hT hs 45 hM) ?_)))))))
 clear hM; intro w v hR
 obtain ⟨rfl, hM⟩ := hR
 have hs1 := Sfx_take hs 45
 have e0 : pNum r = match pTake 48 ((pTake 45 r).getD r) with | some r => pFrac r | none => (pDigits ((pTake 45 r).getD r)).bind pFrac := rfl
 generalize (pTake 45 r).getD r = r1 at *
 refine Md 0 [0] rfl (Nx ?_); intro a hF
 refine cut (fun a w => ∃ q, Fr 33 [(0, .pointer (some ⟨b, 0, none⟩))] a ∧ Mem B wc ((b, 108, RD T q) :: L) w ∧ Sfx T q ∧ pNum r = pFrac q) ?_ (fun a w h => ?_)
 ·
  revert a; refine Sq ?_
  have hs2 := Sfx_take hs1 48; rcases hc : pTake 48 r1 with _ | q0
  ·
   rw [hc] at hs2
   refine Rg (Mv 1 rfl (Cl rfl Tryz.func117 (by kernel_rfl) rfl (take_walk hT hs1 48 hM) ?_))
   clear hM; intro w v hR
   obtain ⟨rfl, hM⟩ := hR
   intro a hF
   rw [hc] at hF hM e0
   revert a; refine Mv 3 rfl (Cl rfl Tryz.func118 (by kernel_rfl) rfl (digits_walk hT hs2 hM) ?_)
   clear hM; intro w v hR
   obtain ⟨rfl, hM⟩ := hR
   have hs3 := Sfx_digs hs2
   have ed := pDigits_eq (r := r1)
   refine Md 2 [0,12] rfl (Nx (Ce rfl (fun ht => ?_) ((fun ht => ?_))))
   ·
    have hn : (pDigits r1).isSome = true := by simpa using ht
    have e1 : pNum r = pFrac (digs r1) := by rw [e0, ed, hn]; rfl
    refine Sk (Kp [0] rfl ?_); intro a hF
    first | exact ⟨_, hF, hM, hs3, e1⟩ | exact ⟨_, hF, hM, hs2, e1⟩
   have hn : (pDigits r1).isSome = false := by simpa using ht
   have e1 : pNum r = none := by rw [e0, ed, hn]; rfl
   refine Sq (Rg (Md 1 [2] rfl (Nx (Re (Rt ?_))))); intro a hF
   first | exact ret1 hF rfl rfl ⟨_, rfl, by rw [e1]; rfl, _, hs3, (fun q' hq => by rw [e1] at hq; cases hq), hM⟩ | exact ret1 hF rfl rfl ⟨_, rfl, by rw [e1]; rfl, _, hs2, (fun q' hq => by rw [e1] at hq; cases hq; rfl), hM⟩ | exact ret1 hF rfl rfl ⟨_, rfl, by rw [e1]; rfl, _, hs, (fun q' hq => by rw [e1] at hq; cases hq; rfl), hM⟩
  rw [hc] at hs2
  refine Rg (Mv 1 rfl (Cl rfl Tryz.func117 (by kernel_rfl) rfl (take_walk hT hs1 48 hM) ?_))
  clear hM; intro w v hR
  obtain ⟨rfl, hM⟩ := hR
  intro a hF
  rw [hc] at hF hM e0
  revert a; refine Md 6 [0,12] rfl (Nx (Cd rfl (fun ht => ?_) ((fun ht => ?_))))
  · cases ht
  have e1 : pNum r = pFrac q0 := e0
  refine Sk (Kp [0] rfl ?_); intro a hF
  first | exact ⟨_, hF, hM, hs3, e1⟩ | exact ⟨_, hF, hM, hs2, e1⟩
 clear hF hM
 clear hs hs1 e0
 obtain ⟨q1, hF, hM, hs, e0⟩ := h
 unfold pFrac at e0
 refine cut (fun a w => ∃ q, Fr 33 [(0, .pointer (some ⟨b, 0, none⟩))] a ∧ Mem B wc ((b, 108, RD T q) :: L) w ∧ Sfx T q ∧ pNum r = pExp q) ?_ (fun a w h => ?_)
 ·
  revert a; refine Sq ?_
  have hs2 := Sfx_take hs 46; rcases hc : pTake 46 q1 with _ | q0
  ·
   rw [hc] at hs2
   refine Rg (Mv 1 rfl (Cl rfl Tryz.func117 (by kernel_rfl) rfl (take_walk hT hs 46 hM) ?_))
   clear hM; intro w v hR
   obtain ⟨rfl, hM⟩ := hR
   intro a hF
   rw [hc] at hF hM e0
   revert a; refine Md 5 [0,19] rfl (Nx (Cd rfl (fun ht => ?_) ((fun ht => ?_))))
   · cases ht
   have e1 : pNum r = pExp q1 := e0
   refine Sk (Kp [0] rfl ?_); intro a hF
   first | exact ⟨_, hF, hM, hs3, e1⟩ | exact ⟨_, hF, hM, hs2, e1⟩
  rw [hc] at hs2
  refine Rg (Mv 1 rfl (Cl rfl Tryz.func117 (by kernel_rfl) rfl (take_walk hT hs 46 hM) ?_))
  clear hM; intro w v hR
  obtain ⟨rfl, hM⟩ := hR
  intro a hF
  rw [hc] at hF hM e0
  revert a; refine Mv 2 rfl (Cl rfl Tryz.func118 (by kernel_rfl) rfl (digits_walk hT hs2 hM) ?_)
  clear hM; intro w v hR
  obtain ⟨rfl, hM⟩ := hR
  have hs3 := Sfx_digs hs2
  have ed := pDigits_eq (r := q0)
  refine Md 2 [0,19] rfl (Nx (Ce rfl (fun ht => ?_) ((fun ht => ?_))))
  ·
   have hn : (pDigits q0).isSome = true := by simpa using ht
   have e1 : pNum r = pExp (digs q0) := by rw [show pNum r = (pDigits q0).bind pExp from e0, ed, hn]; rfl
   refine Sk (Kp [0] rfl ?_); intro a hF
   first | exact ⟨_, hF, hM, hs3, e1⟩ | exact ⟨_, hF, hM, hs2, e1⟩
  have hn : (pDigits q0).isSome = false := by simpa using ht
  have e1 : pNum r = none := by rw [show pNum r = (pDigits q0).bind pExp from e0, ed, hn]; rfl
  refine Sq (Rg (Md 1 [2] rfl (Nx (Re (Rt ?_))))); intro a hF
  first | exact ret1 hF rfl rfl ⟨_, rfl, by rw [e1]; rfl, _, hs3, (fun q' hq => by rw [e1] at hq; cases hq), hM⟩ | exact ret1 hF rfl rfl ⟨_, rfl, by rw [e1]; rfl, _, hs2, (fun q' hq => by rw [e1] at hq; cases hq; rfl), hM⟩ | exact ret1 hF rfl rfl ⟨_, rfl, by rw [e1]; rfl, _, hs, (fun q' hq => by rw [e1] at hq; cases hq; rfl), hM⟩
 clear hF hM
 clear hs e0
 obtain ⟨q2, hF, hM, hs, e0⟩ := h
 unfold pExp at e0
 revert a; refine Sq (Sq ?_)
 have hs2 := Sfx_take hs 101; have hs2b := Sfx_take hs 69; rcases hc : pTake 101 q2 with _ | q0
 ·
  rw [hc] at hs2
  rcases hc2 : pTake 69 q2 with _ | q0
  ·
   rw [hc2] at hs2b
   refine Rg (Mv 1 rfl (Cl rfl Tryz.func117 (by kernel_rfl) rfl (take_walk hT hs 101 hM) ?_))
   clear hM; intro w v hR
   obtain ⟨rfl, hM⟩ := hR
   intro a hF
   rw [hc] at hF hM e0
   revert a; refine Mv 2 rfl (Cl rfl Tryz.func117 (by kernel_rfl) rfl (take_walk hT hs2 69 hM) ?_)
   clear hM; intro w v hR
   obtain ⟨rfl, hM⟩ := hR
   intro a hF
   rw [show (none : Option Str).getD q2 = q2 from rfl] at hF hM
   rw [hc2] at hF hM e0
   revert a; refine Md 1 [0,25] rfl (Nx (Cd rfl (fun ht => ?_) ((fun ht => ?_))))
   · cases ht
   have e1 : pNum r = some q2 := e0
   refine Sk (Nx (Sq (Rg (Md 1 [2] rfl (Nx (Re ?_)))))); intro a hF
   first | exact ret1 hF rfl rfl ⟨_, rfl, by rw [e1]; rfl, _, hs3, (fun q' hq => by rw [e1] at hq; cases hq), hM⟩ | exact ret1 hF rfl rfl ⟨_, rfl, by rw [e1]; rfl, _, hs2, (fun q' hq => by rw [e1] at hq; cases hq; rfl), hM⟩ | exact ret1 hF rfl rfl ⟨_, rfl, by rw [e1]; rfl, _, hs, (fun q' hq => by rw [e1] at hq; cases hq; rfl), hM⟩
  rw [hc2] at hs2b
  refine Rg (Mv 1 rfl (Cl rfl Tryz.func117 (by kernel_rfl) rfl (take_walk hT hs 101 hM) ?_))
  clear hM; intro w v hR
  obtain ⟨rfl, hM⟩ := hR
  intro a hF
  rw [hc] at hF hM e0
  revert a; refine Mv 2 rfl (Cl rfl Tryz.func117 (by kernel_rfl) rfl (take_walk hT hs2 69 hM) ?_)
  clear hM; intro w v hR
  obtain ⟨rfl, hM⟩ := hR
  intro a hF
  rw [show (none : Option Str).getD q2 = q2 from rfl] at hF hM
  rw [hc2] at hF hM e0
  revert a; refine Md 1 [0,25] rfl (Nx (Ce rfl (fun ht => ?_) ((fun ht => ?_))))
  · cases ht
  have e1 : pNum r = match pTake 43 q0 with | some r' => pDigits r' | none => pDigits ((pTake 45 q0).getD q0) := e0
  have hs3 : Sfx T q0 := hs2b
  refine Sq (Sq ?_)
  have hs4 := Sfx_take hs3 43; rcases hc3 : pTake 43 q0 with _ | q3
  ·
   rw [hc3] at hs4
   refine Rg (Mv 1 rfl (Cl rfl Tryz.func117 (by kernel_rfl) rfl (take_walk hT hs3 43 hM) ?_))
   clear hM; intro w v hR
   obtain ⟨rfl, hM⟩ := hR
   intro a hF
   rw [hc3] at hF hM e1
   revert a; refine Md 1 [0,28] rfl (Nx (Ct rfl (Rg (Mv 1 rfl (Cl rfl Tryz.func117 (by kernel_rfl) rfl (take_walk hT hs4 45 hM) ?_)))))
   clear hM; intro w v hR
   obtain ⟨rfl, hM⟩ := hR
   have hs5 := Sfx_take hs4 45
   intro a hF
   rw [show (none : Option Str).getD q0 = q0 from rfl] at hs5 hM
   generalize (pTake 45 q0).getD q0 = q4 at *
   have e2 : pNum r = pDigits q4 := e1
   revert a; refine Md 0 [0] rfl (Nx (Sq (Rg (Mv 1 rfl (Cl rfl Tryz.func118 (by kernel_rfl) rfl (digits_walk hT hs5 hM) ?_)))))
   clear hM; intro w v hR
   obtain ⟨rfl, hM⟩ := hR
   have hs6 := Sfx_digs hs5
   have ed := pDigits_eq (r := q4)
   exact Md 1 [2] rfl (Nx (Re (Rt (Y1 rfl rfl ⟨_, rfl, congrArg Value.bool (congrArg Option.isSome e2.symm), _, hs6, (fun q' hq => pDigits_out (e2.symm.trans hq)), hM⟩))))
  rw [hc3] at hs4
  refine Rg (Mv 1 rfl (Cl rfl Tryz.func117 (by kernel_rfl) rfl (take_walk hT hs3 43 hM) ?_))
  clear hM; intro w v hR
  obtain ⟨rfl, hM⟩ := hR
  intro a hF
  rw [hc3] at hF hM e1
  revert a; refine Md 1 [0,28] rfl (Nx (Cf rfl (Sk (Nx (Sq (Rg (Mv 1 rfl ?_)))))))
  have e2 : pNum r = pDigits q3 := e1
  refine Cl rfl Tryz.func118 (by kernel_rfl) rfl (digits_walk hT hs4 hM) ?_
  clear hM; intro w v hR
  obtain ⟨rfl, hM⟩ := hR
  have hs6 := Sfx_digs hs4
  have ed := pDigits_eq (r := q3)
  exact Md 1 [2] rfl (Nx (Re (Rt (Y1 rfl rfl ⟨_, rfl, congrArg Value.bool (congrArg Option.isSome e2.symm), _, hs6, (fun q' hq => pDigits_out (e2.symm.trans hq)), hM⟩))))
 rw [hc] at hs2
 refine Rg (Mv 1 rfl (Cl rfl Tryz.func117 (by kernel_rfl) rfl (take_walk hT hs 101 hM) ?_))
 clear hM; intro w v hR
 obtain ⟨rfl, hM⟩ := hR
 intro a hF
 rw [hc] at hF hM e0
 revert a; refine Md 4 [0,25] rfl (Nx (Ce rfl (fun ht => ?_) ((fun ht => ?_))))
 · cases ht
 have e1 : pNum r = match pTake 43 q0 with | some r' => pDigits r' | none => pDigits ((pTake 45 q0).getD q0) := e0
 have hs3 : Sfx T q0 := hs2
 refine Sq (Sq ?_)
 have hs4 := Sfx_take hs3 43; rcases hc3 : pTake 43 q0 with _ | q3
 ·
  rw [hc3] at hs4
  refine Rg (Mv 1 rfl (Cl rfl Tryz.func117 (by kernel_rfl) rfl (take_walk hT hs3 43 hM) ?_))
  clear hM; intro w v hR
  obtain ⟨rfl, hM⟩ := hR
  intro a hF
  rw [hc3] at hF hM e1
  revert a; refine Md 1 [0,28] rfl (Nx (Ct rfl (Rg (Mv 1 rfl (Cl rfl Tryz.func117 (by kernel_rfl) rfl (take_walk hT hs4 45 hM) ?_)))))
  clear hM; intro w v hR
  obtain ⟨rfl, hM⟩ := hR
  have hs5 := Sfx_take hs4 45
  intro a hF
  rw [show (none : Option Str).getD q0 = q0 from rfl] at hs5 hM
  generalize (pTake 45 q0).getD q0 = q4 at *
  have e2 : pNum r = pDigits q4 := e1
  revert a; refine Md 0 [0] rfl (Nx (Sq (Rg (Mv 1 rfl (Cl rfl Tryz.func118 (by kernel_rfl) rfl (digits_walk hT hs5 hM) ?_)))))
  clear hM; intro w v hR
  obtain ⟨rfl, hM⟩ := hR
  have hs6 := Sfx_digs hs5
  have ed := pDigits_eq (r := q4)
  exact Md 1 [2] rfl (Nx (Re (Rt (Y1 rfl rfl ⟨_, rfl, congrArg Value.bool (congrArg Option.isSome e2.symm), _, hs6, (fun q' hq => pDigits_out (e2.symm.trans hq)), hM⟩))))
 rw [hc3] at hs4
 refine Rg (Mv 1 rfl (Cl rfl Tryz.func117 (by kernel_rfl) rfl (take_walk hT hs3 43 hM) ?_))
 clear hM; intro w v hR
 obtain ⟨rfl, hM⟩ := hR
 intro a hF
 rw [hc3] at hF hM e1
 revert a; refine Md 1 [0,28] rfl (Nx (Cf rfl (Sk (Nx (Sq (Rg (Mv 1 rfl ?_)))))))
 have e2 : pNum r = pDigits q3 := e1
 refine Cl rfl Tryz.func118 (by kernel_rfl) rfl (digits_walk hT hs4 hM) ?_
 clear hM; intro w v hR
 obtain ⟨rfl, hM⟩ := hR
 have hs6 := Sfx_digs hs4
 have ed := pDigits_eq (r := q3)
 exact Md 1 [2] rfl (Nx (Re (Rt (Y1 rfl rfl ⟨_, rfl, congrArg Value.bool (congrArg Option.isSome e2.symm), _, hs6, (fun q' hq => pDigits_out (e2.symm.trans hq)), hM⟩))))
end Go.Sx
namespace Go.Sx
open Go.RowKit Go.Proofs Js Go.Proofs.YtelonenjneonlaaGreatDoorW.PrintWords
noncomputable def c1 (x y : Bk) : Nat := @ite _ (y = x) (Classical.propDecidable _) 1 0
noncomputable def ct (x : Bk) : List Bk → Nat
  | [] => 0
  | y :: L => ct x L + c1 x y
theorem ct_append (x : Bk) : ∀ (L M : List Bk), ct x (L ++ M) = ct x L + ct x M
  | [], M => by simp [ct]
  | y :: L, M => by simp only [List.cons_append, ct, ct_append x L M]; omega
theorem pc {L M : List Bk} (h : ∀ x, ct x L = ct x M) : L.Perm M := by
  classical
  refine List.perm_iff_count.2 (fun x => ?_)
  have e : ∀ L : List Bk, L.count x = ct x L := by
    intro L
    induction L with
    | nil => rfl
    | cons y L ih =>
      rw [List.count_cons, ih]
      simp only [ct, c1]
      by_cases hy : y = x <;> simp [hy]
  rw [e, e, h x]
structure Elt (t e m : Nat) : Prop where
  und : Tryz.prog.underlying t = some (.slice e)
  info : ∃ i z, Tryz.prog.info? e = some i ∧ i.zero = some z ∧ i.size = m ∧ i.bytes ≤ 128 ∧ z.cells.size = m
  pos : 0 < m
noncomputable def eltB (e m : Nat) : Bool := match Tryz.prog.info? e with
  | none => false
  | some i => match i.zero with
    | none => false
    | some z => Nat.beq i.size m && Nat.ble i.bytes 128 && Nat.beq z.cells.size m && Nat.blt 0 m
theorem Elt.of {t e m : Nat} (h : Tryz.prog.underlying t = some (.slice e)) (hb : eltB e m = true) : Elt t e m := by
  unfold eltB at hb
  split at hb
  · cases hb
  · rename_i i hi
    split at hb
    · cases hb
    · rename_i z hz
      simp only [Bool.and_eq_true] at hb
      obtain ⟨⟨⟨h1, h2⟩, h3⟩, h4⟩ := hb
      exact ⟨h, ⟨i, z, hi, hz, Nat.eq_of_beq_eq_true h1, Nat.le_of_ble_eq_true h2, Nat.eq_of_beq_eq_true h3⟩, Nat.le_of_ble_eq_true h4⟩
theorem elt24 : Elt 24 80 2 := .of (by kernel_rfl) (by kernel_rfl)
theorem elt25 : Elt 25 27 5 := .of (by kernel_rfl) (by kernel_rfl)
theorem elt22 : Elt 22 9 1 := .of (by kernel_rfl) (by kernel_rfl)
theorem elt38 : Elt 38 40 4 := .of (by kernel_rfl) (by kernel_rfl)
theorem elt66 : Elt 66 5 1 := .of (by kernel_rfl) (by kernel_rfl)
def Row (e m : Nat) (R : List Bk) (v : Value) (n : Nat) (xs : List Value) : Prop :=
  xs.length = n * m ∧ ((R = [] ∧ v = .slice none 0 0 ∧ n = 0) ∨ ∃ g cap vs, R = [(g, e, vs)] ∧ v = .slice (some ⟨g, 0, none⟩) n cap ∧ n ≤ cap ∧ cap ≤ maxLen ∧ vs.length = cap * m ∧ vs.take (n * m) = xs)
def SlOf (TB : List Bk) (e m : Nat) (v : Value) (n : Nat) (xs : List Value) : Prop :=
  xs.length = n * m ∧ ((v = .slice none 0 0 ∧ n = 0) ∨ ∃ g cap vs, (g, e, vs) ∈ TB ∧ v = .slice (some ⟨g, 0, none⟩) n cap ∧ n ≤ cap ∧ cap ≤ maxLen ∧ vs.length = cap * m ∧ vs.take (n * m) = xs)
theorem Row.nil (e m : Nat) : Row e m [] (.slice none 0 0) 0 [] := ⟨by simp, .inl ⟨rfl, rfl, rfl⟩⟩
theorem Row.sl {e m : Nat} {R : List Bk} {v : Value} {n : Nat} {xs : List Value} (h : Row e m R v n xs) : SlOf R e m v n xs := by
  refine ⟨h.1, ?_⟩
  rcases h.2 with ⟨_, h2, h3⟩ | ⟨g, cap, vs, rfl, h2, h3⟩
  · exact .inl ⟨h2, h3⟩
  · exact .inr ⟨g, cap, vs, by simp, h2, h3⟩
theorem SlOf.mono {TB TB' : List Bk} {e m : Nat} {v : Value} {n : Nat} {xs : List Value} (h : SlOf TB e m v n xs) (hs : TB ⊆ TB') : SlOf TB' e m v n xs := by
  refine ⟨h.1, ?_⟩
  rcases h.2 with h2 | ⟨g, cap, vs, h1, h2⟩
  · exact .inl h2
  · exact .inr ⟨g, cap, vs, hs h1, h2⟩
theorem SlOf.nil (TB : List Bk) (e m : Nat) : SlOf TB e m (.slice none 0 0) 0 [] := ⟨by simp, .inl ⟨rfl, rfl⟩⟩
theorem SlOf.one {TB : List Bk} {e m : Nat} {v : Value} {n : Nat} {xs : List Value} (h : SlOf TB e m v n xs) : v.oneCell' = true := by
  rcases h.2 with ⟨rfl, _⟩ | ⟨g, cap, vs, _, rfl, _⟩ <;> rfl
section
variable {B : Nat} {w0 w : World} {L : List Bk}
theorem Mem.sub (hM : Mem B w0 L w) {L' : List Bk} (D : List Bk) (h : L.Perm (D ++ L')) : Mem B w0 L' w := (hM.perm h).drop (List.sublist_append_right _ _)
theorem Row.owns {e m : Nat} {R : List Bk} {v : Value} {n : Nat} {xs : List Value} (h : Row e m R v n xs) (hM : Mem B w0 (R ++ L) w) : w.ownsRow B e m v n xs := by
  refine ⟨h.1, ?_⟩
  rcases h.2 with ⟨_, h2, h3⟩ | ⟨g, cap, vs, rfl, h2, h3, h4, h5, h6⟩
  · exact .inl ⟨h2, h3⟩
  · have := hM.blk (k := 0) rfl
    exact .inr ⟨g, cap, vs.toArray, h2, this.1, this.2, h3, h4, by simpa using h5, by simpa using h6⟩
theorem row_after {e m : Nat} {R : List Bk} {v : Value} {n : Nat} {xs : List Value} (h : Row e m R v n xs) (hM : Mem B w0 (R ++ L) w) {v' : Value} {w' : World} {n' : Nat} {xs' : List Value} (ho : w'.ownsRow B e m v' n' xs') (hg : w.grownBy w' v.ownBlock)
    (hat : v'.ownBlock = v.ownBlock ∨ v'.ownBlock = some w.heap.size) : ∃ R', Row e m R' v' n' xs' ∧ Mem B w0 (R' ++ L) w' := by
  have hL : Mem B w0 L w := hM.drop (List.sublist_append_right _ _)
  have hv : ∀ k, v.ownBlock = some k → B ≤ k ∧ ∀ x ∈ L, x.1 ≠ k := by
    intro k hk
    rcases h.2 with ⟨_, rfl, _⟩ | ⟨g, cap, vs, rfl, rfl, _⟩
    · simp [Value.ownBlock] at hk
    · simp only [Value.ownBlock, Option.some.injEq] at hk
      subst hk
      refine ⟨(hM.blk (k := 0) rfl).1, fun x hx => ?_⟩
      have := (List.pairwise_cons.1 hM.apart).1 x hx
      exact Ne.symm this
  have hM' : Mem B w0 L w' := by
    refine ⟨hM.below.grown hg hM.base (fun k' e => (hv k' e).1), Nat.le_trans hM.base hg.size, fun x hx => ?_, hL.apart⟩
    have h3 := hL.held x hx
    exact ⟨h3.1, (hg.block _ (blk_lt h3.2) (fun e => (hv x.1 (e.symm ▸ rfl)).2 x hx rfl)).trans h3.2⟩
  rcases ho.2 with ⟨rfl, rfl⟩ | ⟨g, cap, cur, rfl, hb, hh, hnc, hcm, hcs, ht⟩
  · exact ⟨[], ⟨ho.1, .inl ⟨rfl, rfl, rfl⟩⟩, hM'⟩
  · refine ⟨[(g, e, cur.toList)], ⟨ho.1, .inr ⟨g, cap, cur.toList, rfl, rfl, hnc, hcm, by simpa using hcs, ht⟩⟩, hM'.below, hM'.base, ?_, ?_⟩
    · intro x hx
      rcases List.mem_cons.1 hx with rfl | hx
      · exact ⟨hb, by simpa using hh⟩
      · exact hM'.held x hx
    · refine List.pairwise_cons.2 ⟨fun x hx => ?_, hM'.apart⟩
      rcases hat with h1 | h1
      · exact Ne.symm ((hv g (by rw [← h1]; rfl)).2 x hx)
      · simp only [Value.ownBlock, Option.some.injEq] at h1
        have := blk_lt (hL.held x hx).2
        simp only; omega
theorem mem_appendR {t e m : Nat} (hE : Elt t e m) {R : List Bk} {v : Value} {n : Nat} {xs : List Value} (h : Row e m R v n xs) (hM : Mem B w0 (R ++ L) w) (ty : TypeId) {TB : List Bk} {v2 : Value} {k : Nat} {news : List Value} (h2 : SlOf TB e m v2 k news) (hTB : TB ⊆ L)
    (h1 : ∀ u ∈ news, u.oneCell' = true) (hs : n + k ≤ 2 ^ 40) :
    ∃ R' v' w', (Builtin.append_ #[t, t] ty #[v, v2]).run Tryz.prog w = .ok v' w' ∧ Row e m R' v' (n + k) (xs ++ news) ∧ Mem B w0 (R' ++ L) w' := by
  obtain ⟨i, z, hi, hz, hz1, hz2, hz3⟩ := hE.info
  rcases h2.2 with ⟨rfl, rfl⟩ | ⟨g, cap, vs, hmem, rfl, hnc, hcm, hcs, ht⟩
  · have hn : news = [] := by have := h2.1; simp at this; exact this
    subst hn
    have e1 := run_append_owned_none (P := Tryz.prog) (w := w) B t ty e i m hE.und hi v n xs (h.owns hM)
    exact ⟨R, v, w, e1, by simpa using h, hM⟩
  · have hgL := (hM.held _ (List.mem_append_right R (hTB hmem))).2
    have hnews : ∀ j u, news[j]? = some u → w.cell? ((⟨g, 0, none⟩ : Addr).add j) = some u := by
      intro j u hj
      rw [Addr.add_mid, Nat.zero_add, blk_cell hgL]
      rw [← ht, List.getElem?_take] at hj
      split at hj
      · simpa using hj
      · cases hj
    have hb : (n + k) * i.bytes ≤ 140737488355328 := Nat.le_trans (Nat.mul_le_mul hs hz2) (by decide)
    obtain ⟨v', w', hr, ho, hg, -, hat⟩ := run_append_own_at (P := Tryz.prog) w B t ty e i z m i.bytes hE.und hi hz hz1 rfl hz3 hE.pos v n xs (h.owns hM) ⟨g, 0, none⟩ k cap news h2.1 hnews h1 (by simp only [maxLen]; omega) hb hM.base
    obtain ⟨R', h3, h4⟩ := row_after h hM ho hg hat
    exact ⟨R', v', w', hr, h3, h4⟩
end
section
variable {n : Nat} {K : List (Nat × Value)} {a : Act} {w : World} {Q : Exit → Act → World → Prop} {ops : Array Oper} {rest : List Oper} {o : Oper} {B : Nat} {w0 : World} {L : List Bk}
theorem op_appendR (hF : Fr n K a) {t e m : Nat} (hE : Elt t e m) {R TB : List Bk} {v v2 : Value} {j k : Nat} {xs news : List Value} (h0 : Row e m R v j xs) (hM : Mem B w0 (R ++ L) w) (h2 : SlOf TB e m v2 k news) (hTB : TB ⊆ L) (h1 : ∀ u ∈ news, u.oneCell' = true) (hs : j + k ≤ 2 ^ 40)
    (hg : o.guard = none) {d : Nat} {x y : Operand} (hd : o.dst = some d) (hlt : Nat.blt d n = true) (hop : o.op = .call { callee := .builtin .append, args := #[x, y], argTypes := #[t, t] }) (hx : ev K x = some v) (hy : ev K y = some v2)
    (h : ∀ a' w' R' v', Fr n ((d, v') :: K) a' → Row e m R' v' (j + k) (xs ++ news) → Mem B w0 (R' ++ L) w' → wpList Tryz.prog ops Q rest a' w') : wpList Tryz.prog ops Q (o :: rest) a w := by
  obtain ⟨R', v', w', hr, h3, h4⟩ := mem_appendR hE h0 hM o.type h2 hTB h1 hs
  refine op_run hF hg v' (w' := w') hd hlt ?_ (fun a' hF' => h a' w' R' v' hF' h3 h4)
  simp only [execOp, hop, resolve, invoke, builtin, List.map_toArray, List.map_cons, List.map_nil, hF.ev hx, hF.ev hy]
  simp [hr]
theorem op_buildS (hF : Fr n K a) (hM : Mem B w0 L w) {t e m : Nat} (hE : Elt t e m) (hg : o.guard = none) {d : Nat} {x : Operand} {v : Value} {cs : List Value} (hd : o.dst = some d) (hlt : Nat.blt d n = true) (hop : o.op = .buildSlice t 1 #[(0, x)]) (hx : ev K x = some v)
    (hc : v.cells = cs.toArray) (hl : cs.length = m) (hm : m ≤ 64)
    (h : ∀ a' w' b, Fr n ((d, .slice (some ⟨b, 0, none⟩) 1 1) :: K) a' → Mem B w0 ((b, e, cs) :: L) w' → wpList Tryz.prog ops Q rest a' w') : wpList Tryz.prog ops Q (o :: rest) a w := by
  obtain ⟨i, z, hi, hz, hz1, hz2, hz3⟩ := hE.info
  have hpos := hE.pos
  have hf : Instr.fill (fun j => some (j * i.size, i.size)) ((Array.range (1 * i.size)).map (z.cells[· % z.cells.size]!)) (#[(0, v)] : Array (Nat × Value)).toList = some cs.toArray := by
    have := Great.fill_whole (s := i.size) (by omega) [v] ((Array.range (1 * i.size)).map (z.cells[· % z.cells.size]!)) (by intro u hu; rw [List.mem_singleton.1 hu, hc]; simp [hl, hz1]) (by simp)
    simpa [hc] using this
  have hr := run_buildSlice (P := Tryz.prog) w t e 1 #[(0, v)] cs.toArray i z hE.und hi hz (by rw [hz1]; omega) (by rw [hz1]; omega) hf
  refine op_run hF hg (.slice (some ⟨w.heap.size, 0, none⟩) 1 1) (w' := w.alloc (.cells cs.toArray e)) hd hlt ?_ (fun a' hF' => h a' _ w.heap.size hF' (hM.alloc e cs))
  simp only [execOp, hop]
  have e2 : (Array.map (fun x => match x with | (i, x) => (i, a.eval x)) #[(0, x)]) = #[(0, v)] := by simp [hF.ev hx]
  rw [e2]
  simp [hr]
theorem sl_one {b e m : Nat} {cs : List Value} (hl : cs.length = m) : SlOf [(b, e, cs)] e m (.slice (some ⟨b, 0, none⟩) 1 1) 1 cs :=
  ⟨by rw [hl, Nat.one_mul], .inr ⟨b, 1, cs, by simp, rfl, Nat.le_refl _, by decide, by rw [hl, Nat.one_mul], by rw [Nat.one_mul]; exact List.take_of_length_le (by omega)⟩⟩
end
def spans (ns : List (Nat × Nat)) : List Value := ns.flatMap fun x => [.int .i64 (x.1 : Int), .int .i64 (x.2 : Int)]
mutual
def RepPl (TB : List Bk) : Js.Place → List Value → Prop
  | .mk k b e ns kids, cs => ∃ sn sk xs, cs = [.int .i64 (k : Int), .int .i64 (b : Int), .int .i64 (e : Int), sn, sk] ∧ SlOf TB 80 2 sn ns.length (spans ns) ∧ SlOf TB 27 5 sk kids.length xs ∧ RepPls TB kids xs
def RepPls (TB : List Bk) : List Js.Place → List Value → Prop
  | [], xs => xs = []
  | p :: ps, xs => ∃ c cs, xs = c ++ cs ∧ RepPl TB p c ∧ RepPls TB ps cs
end
mutual
def RepNd (TB : List Bk) : Nd → List Value → Prop
  | .mk k t ks kids, cs => ∃ sn sk xs, cs = [.int .i64 (k : Int), .string (mkS t), sn, sk] ∧ SlOf TB 9 1 sn ks.length (ks.map fun s => .string (mkS s)) ∧ SlOf TB 40 4 sk kids.length xs ∧ RepNds TB kids xs
def RepNds (TB : List Bk) : List Nd → List Value → Prop
  | [], xs => xs = []
  | p :: ps, xs => ∃ c cs, xs = c ++ cs ∧ RepNd TB p c ∧ RepNds TB ps cs
end
mutual
theorem RepPl.mono {TB TB' : List Bk} (hs : TB ⊆ TB') : ∀ (p : Js.Place) (cs : List Value), RepPl TB p cs → RepPl TB' p cs
  | .mk k b e ns kids, cs, h => by
    simp only [RepPl] at h ⊢
    obtain ⟨sn, sk, xs, h1, h2, h3, h4⟩ := h
    exact ⟨sn, sk, xs, h1, h2.mono hs, h3.mono hs, RepPls.mono hs kids xs h4⟩
theorem RepPls.mono {TB TB' : List Bk} (hs : TB ⊆ TB') : ∀ (ps : List Js.Place) (cs : List Value), RepPls TB ps cs → RepPls TB' ps cs
  | [], cs, h => by simpa only [RepPls] using h
  | p :: ps, cs, h => by
    simp only [RepPls] at h ⊢
    obtain ⟨c, ds, h1, h2, h3⟩ := h
    exact ⟨c, ds, h1, RepPl.mono hs p c h2, RepPls.mono hs ps ds h3⟩
end
mutual
theorem RepNd.mono {TB TB' : List Bk} (hs : TB ⊆ TB') : ∀ (p : Nd) (cs : List Value), RepNd TB p cs → RepNd TB' p cs
  | .mk k b e kids, cs, h => by
    simp only [RepNd] at h ⊢
    obtain ⟨sn, sk, xs, h1, h2, h3, h4⟩ := h
    exact ⟨sn, sk, xs, h1, h2.mono hs, h3.mono hs, RepNds.mono hs kids xs h4⟩
theorem RepNds.mono {TB TB' : List Bk} (hs : TB ⊆ TB') : ∀ (ps : List Nd) (cs : List Value), RepNds TB ps cs → RepNds TB' ps cs
  | [], cs, h => by simpa only [RepNds] using h
  | p :: ps, cs, h => by
    simp only [RepNds] at h ⊢
    obtain ⟨c, ds, h1, h2, h3⟩ := h
    exact ⟨c, ds, h1, RepNd.mono hs p c h2, RepNds.mono hs ps ds h3⟩
end
theorem RepPl.len {TB : List Bk} {p : Js.Place} {cs : List Value} (h : RepPl TB p cs) : cs.length = 5 ∧ cs.all (·.oneCell') = true := by
  obtain ⟨k, b, e, ns, kids⟩ := p
  simp only [RepPl] at h
  obtain ⟨sn, sk, xs, rfl, h2, h3, _⟩ := h
  exact ⟨rfl, by simp only [List.all_cons, List.all_nil, h2.one, h3.one]; rfl⟩
theorem RepNd.len {TB : List Bk} {p : Nd} {cs : List Value} (h : RepNd TB p cs) : cs.length = 4 ∧ cs.all (·.oneCell') = true := by
  obtain ⟨k, b, ks, kids⟩ := p
  simp only [RepNd] at h
  obtain ⟨sn, sk, xs, rfl, h2, h3, _⟩ := h
  exact ⟨rfl, by simp only [List.all_cons, List.all_nil, h2.one, h3.one]; rfl⟩
theorem RepPls.append {TB : List Bk} : ∀ {ps qs : List Js.Place} {xs ys : List Value}, RepPls TB ps xs → RepPls TB qs ys → RepPls TB (ps ++ qs) (xs ++ ys)
  | [], qs, xs, ys, h1, h2 => by simp only [RepPls] at h1; subst h1; exact h2
  | p :: ps, qs, xs, ys, h1, h2 => by
    simp only [RepPls] at h1
    obtain ⟨c, cs, rfl, h3, h4⟩ := h1
    simp only [List.cons_append, RepPls]
    exact ⟨c, cs ++ ys, by simp, h3, RepPls.append h4 h2⟩
theorem RepNds.append {TB : List Bk} : ∀ {ps qs : List Nd} {xs ys : List Value}, RepNds TB ps xs → RepNds TB qs ys → RepNds TB (ps ++ qs) (xs ++ ys)
  | [], qs, xs, ys, h1, h2 => by simp only [RepNds] at h1; subst h1; exact h2
  | p :: ps, qs, xs, ys, h1, h2 => by
    simp only [RepNds] at h1
    obtain ⟨c, cs, rfl, h3, h4⟩ := h1
    simp only [List.cons_append, RepNds]
    exact ⟨c, cs ++ ys, by simp, h3, RepNds.append h4 h2⟩
theorem RepPls.one {TB : List Bk} {p : Js.Place} {c : List Value} (h : RepPl TB p c) : RepPls TB [p] c := by simp only [RepPls]; exact ⟨c, [], by simp, h, rfl⟩
theorem RepNds.one {TB : List Bk} {p : Nd} {c : List Value} (h : RepNd TB p c) : RepNds TB [p] c := by simp only [RepNds]; exact ⟨c, [], by simp, h, rfl⟩
theorem spans_append (l r : List (Nat × Nat)) : spans (l ++ r) = spans l ++ spans r := by simp [spans]
theorem RepPls.at_ {TB : List Bk} : ∀ {ps : List Js.Place} {xs : List Value}, RepPls TB ps xs → ∀ {j : Nat} {p : Js.Place}, ps[j]? = some p → ∃ c, RepPl TB p c ∧ ∀ i u, c[i]? = some u → xs[j * 5 + i]? = some u
  | [], xs, _, j, p, hj => by simp at hj
  | q :: ps, xs, h, j, p, hj => by
    simp only [RepPls] at h
    obtain ⟨c, cs, rfl, h1, h2⟩ := h
    cases j with
    | zero =>
      simp only [List.getElem?_cons_zero, Option.some.injEq] at hj
      subst hj
      refine ⟨c, h1, fun i u hi => ?_⟩
      have hlt := (List.getElem?_eq_some_iff.1 hi).1
      rw [Nat.zero_mul, Nat.zero_add, List.getElem?_append_left hlt]
      exact hi
    | succ j =>
      obtain ⟨d, h3, h4⟩ := RepPls.at_ h2 (j := j) (p := p) (by simpa using hj)
      refine ⟨d, h3, fun i u hi => ?_⟩
      have := h1.len.1
      rw [List.getElem?_append_right (by omega), this, show (j + 1) * 5 + i - 5 = j * 5 + i by omega]
      exact h4 i u hi
theorem RepNds.at_ {TB : List Bk} : ∀ {ps : List Nd} {xs : List Value}, RepNds TB ps xs → ∀ {j : Nat} {p : Nd}, ps[j]? = some p → ∃ c, RepNd TB p c ∧ ∀ i u, c[i]? = some u → xs[j * 4 + i]? = some u
  | [], xs, _, j, p, hj => by simp at hj
  | q :: ps, xs, h, j, p, hj => by
    simp only [RepNds] at h
    obtain ⟨c, cs, rfl, h1, h2⟩ := h
    cases j with
    | zero =>
      simp only [List.getElem?_cons_zero, Option.some.injEq] at hj
      subst hj
      refine ⟨c, h1, fun i u hi => ?_⟩
      have hlt := (List.getElem?_eq_some_iff.1 hi).1
      rw [Nat.zero_mul, Nat.zero_add, List.getElem?_append_left hlt]
      exact hi
    | succ j =>
      obtain ⟨d, h3, h4⟩ := RepNds.at_ h2 (j := j) (p := p) (by simpa using hj)
      refine ⟨d, h3, fun i u hi => ?_⟩
      have := h1.len.1
      rw [List.getElem?_append_right (by omega), this, show (j + 1) * 4 + i - 4 = j * 4 + i by omega]
      exact h4 i u hi
end Go.Sx
