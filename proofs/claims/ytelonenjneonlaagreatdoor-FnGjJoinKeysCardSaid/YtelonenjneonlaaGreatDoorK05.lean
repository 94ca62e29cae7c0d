/- Part 5 of the proof of FnGjJoinKeys: the statement Rows.FnGjJoinKeysCardSaid; no further condition. -/
import Derived.Test.YtelonenjneonlaaGreatDoorK04
import Derived.Deep.MidRow
import Derived.LaidLaws
import Derived.Lib.LaidTab
import Derived.Lib.LaidU8
import Derived.MakeChecks
import Derived.OpenShut
import Derived.Test.YtelonenjneonlaaGreatDoorProg
import Derived.Test.YtelonenjneonlaaGreatDoorRows
set_option linter.all false
namespace Go.Sx
open Go.RowKit Go.Proofs Js Go.Proofs.YtelonenjneonlaaGreatDoorW.PrintWords
def Vch (w : World) : Prop := ∀ c : UInt8, w.cell? ((⟨17, 0, none⟩ : Addr).add c.toNat) = some (.int .u8 (vcls c : Int))
theorem squash_walk (T : Str) (p E : Nat) (w : World) (hV : Vch w) (hT : T.length ≤ 2 ^ 40) (hp : At T 1 (p + 1) E) :
    Calls Tryz.prog 167 #[.string (mkS T), .int .i64 (p : Int)] w fun e w' => e = .returned (.tuple #[.int .i64 (E : Int), .string (mkS ((T.drop p).take (E - p)))]) ∧ Drawn0 w w' := by
 have hsm := hp.small
 have hle := hp.le
 refine enter (l := [.string (mkS T), .int .i64 (p : Int)]) 228 Tryz.func167 rfl rfl (fun a hF => ?_)
 replace hF : Fr 230 [(0, .string (mkS T)), (1, .int .i64 (p : Int))] a := hF
 revert a; refine Sq (Rg (Md 2 [0,1] rfl (Nx (Sq (Rg (Md 2 [0,1,6] rfl (Nx (Sq (Rg (Mv 1 rfl (Sm (((p + 1 : Nat) : Int)) rfl (by omega) (Md 1 [0,1,6] rfl (Nx (Sq (Rg (Md 1 [0,1,6,7] rfl (Nx (Sq (Rg (Md 1 [0,1,6,7] rfl (Nx (Sq (Bo (Kp [0,1,6,7] rfl ?_)))))))))))))))))))))))); intro a hF
 refine loopX (fun (x : Nat × Nat) a w' => Fr 230 [(0, .string (mkS T)), (1, .int .i64 (x.1 : Int)), (6, .int .i64 (p : Int)), (7, .int .i64 (x.2 : Int))] a ∧ At T x.2 x.1 E ∧ p < x.1 ∧ x.2 ≤ x.1 ∧ w = w') (fun x => T.length - x.1) ((p + 1, 1)) ?_ (fun x a w' hI => ?_)
 · exact ⟨hF, hp, Nat.lt_succ_self p, Nat.succ_le_succ (Nat.zero_le p), rfl⟩
 clear hF
 obtain ⟨i, d⟩ := x
 obtain ⟨hF, hA, hpi, hdi, hw⟩ := hI
 subst hw
 simp only at hF hA hpi hdi
 have hs := hA.small
 have hle' := hA.le
 revert a; refine Sq (Sq (Rg (Md 4 [0,1,6,7,20] rfl (Nx (D2 rfl (fun ht => absurd (of_decide_eq_false ht) (by omega)) (Sk (Nx (Bo ?_)))))))); intro a hF
 refine scopeZ (fun l (x : Nat × Nat × UInt8) a w' => l = 0 ∧ Fr 230 [(0, .string (mkS T)), (1, .int .i64 (x.1 : Int)), (6, .int .i64 (p : Int)), (7, .int .i64 (x.2.1 : Int)), (8, .int .u8 (vcls x.2.2 : Int))] a ∧ At T x.2.1 x.1 E ∧ i ≤ x.1 ∧ x.2.1 ≤ x.1 ∧ T[x.1]? = some x.2.2 ∧ vcls x.2.2 ≠ 0 ∧ w = w') (fun _ _ => 0) (fun _ => 0) (fun l ih x a w' hJ => ?_) (fun pass => ?_)
 ·
  clear hF
  clear ih
  obtain ⟨i1, d1, c⟩ := x
  obtain ⟨rfl, hF, hB, hi1, hdi1, hc, hn, hw⟩ := hJ
  subst hw
  simp only at hF hB hi1 hdi1 hc hn
  clear hA hs hle'
  have hs := hB.small
  have hle' := hB.le
  ·
   refine ⟨_, rfl, ?_⟩
   refine cutF (fun a w' => ∃ i2 d2 : Nat, Fr 230 [(0, .string (mkS T)), (1, .int .i64 (i2 : Int)), (6, .int .i64 (p : Int)), (7, .int .i64 (d2 : Int))] a ∧ At T d2 (i2 + 1) E ∧ i ≤ i2 ∧ d2 ≤ i2 + 1 ∧ w = w') (fun a w' h => ?_) ?_
   ·
    clear hF
    obtain ⟨i2, d2, hF, hZ, hi2, hdi2, hw⟩ := h
    subst hw
    have := hZ.small
    revert a; refine Rg (Mv 1 rfl (Sm (((i2 + 1 : Nat) : Int)) rfl (by omega) (Md 1 [0,1,6,7] rfl (Jn (Nb (Kp [0,1,6,7] rfl ?_)))))); intro a hF
    exact ⟨(_, _), ⟨hF, hZ, by simp only; omega, by simp only; omega, rfl⟩, by have := hZ.small; simp only; omega⟩
   revert a; refine Sq (Rg (Md 2 [0,1,6,7,8,107] rfl (Nx (Ce rfl (fun ht => ?_) ((fun ht => ?_))))))
   ·
    have h13 : vcls c = 1 ∨ vcls c = 3 := by have := ht; simp at this; have := vcls_le c; omega
    have hd0 := hB.depth
    have hv3 : vcls c ≤ 3 := vcls_le c
    refine Sq (Rg (Mv 2 rfl ?_)); intro a hF
    refine op_conv_to hF rfl rfl rfl rfl Tryz.underlying5 Tryz.underlying3 rfl (wrap_i64 (by omega) (by omega)) ?_; clear hF a; intro a hF
    revert a; refine Sm ((vcls c : Int) - 2) rfl (by omega) (Sm (((d1 + vcls c - 2 : Nat) : Int)) rfl (by omega) (Md 1 [0,1,6,7] rfl (Nx (Sq (Rg (Md 2 [0,1,6,7,216] rfl (Nx (Ce rfl (fun ht => ?_) ((fun ht => ?_))))))))))
    ·
     have hnz : ¬ d1 + vcls c = 2 := by have := ht; simp at this; omega
     have hZ : At T (d1 + vcls c - 2) (i1 + 1) E := by
       rcases h13 with h | h
       · rcases hB.cls hc h with ⟨he, -⟩ | ⟨-, hz⟩
         · omega
         · rw [show d1 + vcls c - 2 = d1 - 1 by omega]; exact hz
       · rw [show d1 + vcls c - 2 = d1 + 1 by omega]; exact hB.opn hc h
     refine Sk (Kp [0,1,6,7] rfl ?_); intro a hF
     exact ⟨_, _, hF, hZ, by omega, by omega, rfl⟩
    have hz : d1 = 1 ∧ vcls c = 1 := by have := ht; simp at this; omega
    have he : i1 + 1 = E := by rcases hB.cls hc hz.2 with ⟨-, he⟩ | ⟨h1, -⟩; exact he; omega
    refine Sq (Rg (Mv 1 rfl (Sm ((E : Int)) rfl (by omega) (Md 1 [0,1,6] rfl (Nx (Sq ?_)))))); intro a hF
    refine draw (by kernel_rfl) ?_
    refine take 0 hF rfl (by kernel_rfl) (by kernel_rfl) (by kernel_rfl) (fun _ _ _ h => h) rfl rfl rfl (gives_move hF rfl rfl) ?_; clear hF a; intro a hF
    refine take 1 hF rfl (by kernel_rfl) (by kernel_rfl) (by kernel_rfl) (fun _ _ _ h => h) rfl rfl rfl (gives_move hF rfl rfl) ?_; clear hF a; intro a hF
    refine take 2 hF rfl (by kernel_rfl) (by kernel_rfl) (by kernel_rfl) (fun _ _ _ h => h) rfl rfl rfl (gives_move hF rfl rfl) ?_; clear hF a; intro a hF
    refine take 3 hF rfl (by kernel_rfl) (by kernel_rfl) (by kernel_rfl) (fun _ _ _ h => h) rfl rfl rfl (gives_move hF rfl rfl) ?_; clear hF a; intro a hF
    refine take 4 hF rfl (by kernel_rfl) (by kernel_rfl) (by kernel_rfl) (fun _ _ _ h => h) rfl rfl rfl (gives_slice_str p E hF rfl Tryz.underlying9 rfl rfl rfl rfl (by omega) (by omega) (by omega)) ?_; clear hF a; intro a hF
    refine take 5 hF rfl (by kernel_rfl) (by kernel_rfl) (by kernel_rfl) (fun _ _ _ h => h) rfl rfl rfl (gives_assign hF rfl rfl) ?_; clear hF a; intro a hF
    refine take 6 hF rfl (by kernel_rfl) (by kernel_rfl) (by kernel_rfl) (fun _ _ _ h => h) rfl rfl rfl (gives_assign hF rfl rfl) ?_; clear hF a; intro a hF
    refine drawn (h0 := by kernel_rfl) ?_
    revert a; exact Kp [4,5] rfl (Nx (Re (Rt (Jr (Rb (Rt (Rb (Rt (Y2 rfl rfl rfl ⟨rfl, ⟨⟨1, rfl⟩⟩⟩)))))))))
   have h2 : vcls c = 2 := by have := ht; simp at this; omega
   obtain ⟨rfl, q, hS⟩ := hB.str hc h2
   have hq := hS.small
   have hSle := hS.le
   intro a hF
   refine scopeZ (fun l (x : Nat) a w' => Fr 230 [(0, .string (mkS T)), (1, .int .i64 (x : Int)), (6, .int .i64 (p : Int)), (7, .int .i64 (d1 : Int)), (10, .int .i64 ((i1 + 1 : Nat) : Int))] a ∧ i1 + 1 ≤ x ∧ x ≤ q ∧ w = w' ∧ (l = 3 ∨ l = 2 ∨ (l = 1 ∧ T[x]? = some 34))) (fun l x => 2 * (q - x) + (bif Nat.beq l 2 then 1 else 0)) (fun l => bif Nat.beq l 3 then 0 else bif Nat.beq l 1 then 1 else 2) (fun l ih x a w' hJ => ?_) (fun pass => ?_)
   ·
    clear hF
    obtain ⟨hF, hx1, hx2, hw, rfl | rfl | ⟨rfl, h34⟩⟩ := hJ
    ·
     clear ih
     subst hw
     refine ⟨_, rfl, ?_⟩
     revert a; refine Bo (Kp [0,1,6,7,10] rfl ?_); intro a hF
     refine loopX (fun (y : Nat) a w' => Fr 230 [(0, .string (mkS T)), (1, .int .i64 (y : Int)), (6, .int .i64 (p : Int)), (7, .int .i64 (d1 : Int)), (10, .int .i64 ((i1 + 1 : Nat) : Int))] a ∧ x ≤ y ∧ y ≤ q ∧ w = w') (fun y => q - y) (x) ?_ (fun y a w' hI => ?_)
     · exact ⟨hF, Nat.le_refl _, hx2, rfl⟩
     clear hF
     obtain ⟨hF, hy1, hy2, hw⟩ := hI
     subst hw
     obtain ⟨c, hc⟩ := hS.get hy2
     revert a; refine Sq (Sq (Rg (Md 4 [0,1,6,7,10,173] rfl (Nx (D2 rfl (fun ht => absurd (of_decide_eq_false ht) (by omega)) (Sk (Nx (Bo (Sq (Sq ?_))))))))))
     rcases Nat.lt_or_ge 92 c.toNat with hg | hg
     ·
      refine Rg (Mv 2 rfl ?_); intro a hF
      refine op_index_str hF rfl (y) c rfl rfl rfl Tryz.underlying9 rfl rfl (by first | rfl | omega) hc ?_; clear hF a; intro a hF
      revert a; refine Bv rfl rfl (decide_eq_true (show ((c.toNat : Int) > 92) by omega)) (Md 6 [0,1,6,7,10,183] rfl (Nx (Ce rfl (fun ht => ?_) ((fun ht => ?_)))))
      · cases ht
      have hst := hS.step hy2 hc (fun h => by rw [h] at hg; exact absurd hg (by decide))
      refine Sq (Rg (Mv 1 rfl (Sm (((y + 1 : Nat) : Int)) rfl (by omega) (Md 1 [0,1,6,7,10] rfl (Nx (Ex (Ot (Ob (Kp [0,1,6,7,10] rfl ?_))))))))); intro a hF
      exact ⟨_, ⟨hF, by omega, hst, rfl⟩, by omega⟩
     refine Rg (Mv 2 rfl ?_); intro a hF
     refine op_index_str hF rfl (y) c rfl rfl rfl Tryz.underlying9 rfl rfl (by first | rfl | omega) hc ?_; clear hF a; intro a hF
     revert a; refine Bv rfl rfl (decide_eq_false (show ¬ ((c.toNat : Int) > 92) by omega)) (Mv 3 rfl ?_); intro a hF
     refine guard_yes hF rfl rfl rfl rfl rfl rfl ?_
     refine op_index_str hF rfl (y) c rfl rfl rfl Tryz.underlying9 rfl rfl (by first | rfl | omega) hc ?_; clear hF a; intro a hF
     revert a; refine Md 2 [0,1,6,7,10,183] rfl (Nx (Cd rfl (fun ht => ?_) ((fun ht => ?_))))
     ·
      have hst := hS.step hy2 hc (ne_t (d := 34) rfl ht)
      refine Sq (Rg (Mv 1 rfl (Sm (((y + 1 : Nat) : Int)) rfl (by omega) (Md 1 [0,1,6,7,10] rfl (Nx (Ex (Ot (Ob (Kp [0,1,6,7,10] rfl ?_))))))))); intro a hF
      exact ⟨_, ⟨hF, by omega, hst, rfl⟩, by omega⟩
     have h34 : T[y]? = some 34 := by rw [hc, ne_f (d := 34) rfl ht]
     obtain ⟨b, hb⟩ := hS.get (p := y - 1) (by omega)
     refine Sk (Nx (Sq (Sq (Rg (Mv 2 rfl (Sm (((y - 1 : Nat) : Int)) rfl (by omega) ?_)))))); intro a hF
     refine op_index_str hF rfl (y - 1) b rfl rfl rfl Tryz.underlying9 rfl rfl (by first | rfl | omega) hb ?_; clear hF a; intro a hF
     revert a; refine Md 1 [0,1,6,7,10,190] rfl (Nx (Ce rfl (fun ht => ?_) ((fun ht => ?_))))
     ·
      have hyq := hS.bare (by omega) hy2 h34 hb (eq_f (d := 92) rfl ht)
      subst hyq
      have hZ := hS.more
      refine Sk (Nx (Ex (Op' rfl (Ot (Ob (Jn (Kp [0,1,6,7] rfl ?_))))))); intro a hF
      exact ⟨_, _, hF, hZ, by omega, by omega, rfl⟩
     have hb92 : T[y - 1]? = some 92 := by rw [hb, eq_t (d := 92) rfl ht]
     have hy3 : i1 + 1 < y := by
       rcases Nat.lt_or_eq_of_le (show i1 + 1 ≤ y by omega) with h | h
       · exact h
       · rw [← h, hS.opens] at hb92; exact absurd hb92 (by decide)
     refine Sq (Rg (Md 1 [0,1,6,7,10,12] rfl (Nx ?_))); intro a hF
     refine cutF (fun a w' => ∃ m : Nat, Fr 230 [(0, .string (mkS T)), (1, .int .i64 (y : Int)), (6, .int .i64 (p : Int)), (7, .int .i64 (d1 : Int)), (10, .int .i64 ((i1 + 1 : Nat) : Int)), (12, .int .i64 (m : Int))] a ∧ tr T (i1 + 1) y = m + 1 ∧ w = w') (fun a w' h => ?_) ?_
     ·
      clear hF
      obtain ⟨m, hF, htr, hw⟩ := h
      subst hw
      revert a; refine Sq (Rg (Mv 1 rfl ?_)); intro a hF
      refine op_rem hF rfl ((m % 2 : Nat) : Int) rfl rfl rfl rfl rfl (by omega) (by decide) (by omega) ?_; clear hF a; intro a hF
      revert a; refine Md 1 [0,1,6,7,10,207] rfl (Nx (Ce rfl (fun ht => ?_) ((fun ht => ?_))))
      ·
       have h0 : m % 2 = 1 := by have := ht; simp at this; omega
       have hyq := hS.evenEnd (p := y) (by omega) hy2 h34 (by omega)
       subst hyq
       have hZ := hS.more
       refine Sk (Nx (Ex (Op' rfl (Ot (Ob (Jn (Kp [0,1,6,7] rfl ?_))))))); intro a hF
       exact ⟨_, _, hF, hZ, by omega, by omega, rfl⟩
      have h0 : m % 2 = 0 := by have := ht; simp at this; omega
      have hlt := hS.oddGo (p := y) (by omega) hy2 (by omega)
      refine Sq (Rg (Mv 1 rfl (Sm (((y + 1 : Nat) : Int)) rfl (by omega) (Md 1 [0,1,6,7,10] rfl (Nx (Wg (Gt (Gb (Gt (Gb (Jt (Kp [0,1,6,7,10] rfl ?_)))))))))))); intro a hF
      exact ⟨_, ⟨hF, by omega, by omega, rfl, .inr (.inl rfl)⟩, by show 2 * (q - _) + 1 < 2 * (q - x) + 0; omega⟩
     revert a; refine Sq (Rg (Mv 1 rfl (Sm ((y : Int) - 2 - ((0 : Nat) : Int)) rfl (by omega) (Md 1 [0,1,6,7,10,12,13] rfl (Nx (Bo (Kp [0,1,6,7,10,12,13] rfl ?_))))))); intro a hF
     refine loopX (fun (m : Nat) a w' => Fr 230 [(0, .string (mkS T)), (1, .int .i64 (y : Int)), (6, .int .i64 (p : Int)), (7, .int .i64 (d1 : Int)), (10, .int .i64 ((i1 + 1 : Nat) : Int)), (12, .int .i64 (m : Int)), (13, .int .i64 ((y : Int) - 2 - (m : Int)))] a ∧ (∀ x, x < m + 1 → T[y - 1 - x]? = some 92) ∧ i1 + 1 + (m + 1) ≤ y ∧ w = w') (fun m => y - m) (0) ?_ (fun m a w' hI => ?_)
     · exact ⟨hF, fun x h => by rw [show x = 0 by omega]; exact hb92, by omega, rfl⟩
     clear hF
     obtain ⟨hF, hrun, hm, hw⟩ := hI
     subst hw
     revert a; refine Sq (Sq (Rg (Mv 2 rfl (Sn rfl (by omega) (Md 1 [0,1,6,7,10,12,13,196] rfl (Nx (Ce rfl (fun ht => ?_) ((fun ht => ?_)))))))))
     ·
      have hge := of_decide_eq_false ht
      have htr : tr T (i1 + 1) y = m + 1 := by rw [tr_run (m + 1) y (by omega) hrun, show y - (m + 1) = i1 + 1 by omega, tr_self, Nat.zero_add]
      refine Ex (Ot (Ot (Ob (Kp [0,1,6,7,10,12] rfl ?_)))); intro a hF
      exact ⟨m, hF, htr, rfl⟩
     have hlt := of_decide_eq_true ht
     obtain ⟨e, he⟩ := hS.get (p := y - 2 - m) (by omega)
     refine Sk (Nx (Sq (Bo (Sq (Sq (Rg (Mv 2 rfl ?_))))))); intro a hF
     refine op_index_str hF rfl (y - 2 - m) e rfl rfl rfl Tryz.underlying9 rfl rfl (by first | rfl | omega) he ?_; clear hF a; intro a hF
     revert a; refine Md 1 [0,1,6,7,10,12,13,202] rfl (Nx (Cd rfl (fun ht => ?_) ((fun ht => ?_))))
     ·
      have htr : tr T (i1 + 1) y = m + 1 := by rw [tr_run (m + 1) y (by omega) hrun, tr_stop (c := e) (by omega) (by rw [show y - (m + 1) - 1 = y - 2 - m by omega]; exact he) (ne_t (d := 92) rfl ht), Nat.zero_add]
      refine Ex (Ot (Op' rfl (Ot (Ot (Ob (Kp [0,1,6,7,10,12] rfl ?_)))))); intro a hF
      exact ⟨m, hF, htr, rfl⟩
     have hrun' : ∀ x, x < m + 1 + 1 → T[y - 1 - x]? = some 92 := by
       intro x hx
       rcases Nat.lt_or_eq_of_le (Nat.le_of_lt_succ hx) with h | h
       · exact hrun x h
       · rw [h, show y - 1 - (m + 1) = y - 2 - m by omega, he, ne_f (d := 92) rfl ht]
     refine Sk (Nx (Rg (Mv 1 rfl (Sm (((m + 1 : Nat) : Int)) rfl (by omega) (Md 1 [0,1,6,7,10,12,13] rfl (Nb (Nx (Rg (Mv 1 rfl (Sm ((y : Int) - 2 - ((m + 1 : Nat) : Int)) rfl (by omega) (Md 1 [0,1,6,7,10,12,13] rfl ?_))))))))))); intro a hF
     exact ⟨_, ⟨hF, hrun', by omega, rfl⟩, by omega⟩
    ·
     clear ih
     subst hw
     refine ⟨_, rfl, ?_⟩
     revert a; refine Sq (Bo (Kp [0,1,6,7,10] rfl ?_)); intro a hF
     refine loopX (fun (y : Nat) a w' => Fr 230 [(0, .string (mkS T)), (1, .int .i64 (y : Int)), (6, .int .i64 (p : Int)), (7, .int .i64 (d1 : Int)), (10, .int .i64 ((i1 + 1 : Nat) : Int))] a ∧ x ≤ y ∧ y ≤ q ∧ w = w') (fun y => T.length - y) (x) ?_ (fun y a w' hI => ?_)
     · exact ⟨hF, Nat.le_refl _, hx2, rfl⟩
     clear hF
     obtain ⟨hF, hy1, hy2, hw⟩ := hI
     subst hw
     revert a; refine Sq (Sq (Rg (Mv 3 rfl (Sn rfl (by omega) (Md 1 [0,1,6,7,10,115] rfl (Nx (D1 rfl ?_ ((fun ht => ?_)))))))))
     ·
      refine Ex (Ot (Ot (Ob (Nx (Sq (Wg (Gt (Jt (Kp [0,1,6,7,10] rfl ?_))))))))); intro a hF
      exact ⟨_, ⟨hF, by omega, hy2, rfl, .inl rfl⟩, by show 2 * (q - _) + 0 < 2 * (q - x) + 1; omega⟩
     have hlt := of_decide_eq_true ht
     have hl : ∀ j, j < 8 → ((T.drop y).take (y + 8 - y))[j]? = T[y + j]? := by intro j hj; rw [List.getElem?_take, if_pos (by omega), List.getElem?_drop]
     have hy0 : y + 0 ≤ q := hy2
     refine Sk (Nx (Bo (Sq (Rg (Mv 3 rfl (Sm (((y + 8 : Nat) : Int)) rfl (by omega) ?_)))))); intro a hF
     refine op_slice_str hF rfl y (y + 8) rfl rfl rfl Tryz.underlying9 rfl rfl rfl rfl (by omega) (by omega) (by omega) ?_; clear hF a; intro a hF
     revert a; refine Md 1 [0,1,6,7,10,11] rfl (Nx (Sq (Sq (Rg ?_))))
     obtain ⟨c0, hc0⟩ := hS.get hy0
     refine Mv 1 rfl ?_; intro a hF
     refine op_index_str hF rfl (0) c0 rfl rfl rfl Tryz.underlying9 rfl rfl (by first | rfl | omega) ((hl 0 (by omega)).trans hc0) ?_; clear hF a; intro a hF
     revert a; refine Md 1 [0,1,6,7,10,11,123] rfl (Nx (Cd rfl (fun ht => ?_) ((fun ht => ?_))))
     ·
      have h34 : T[y + 0]? = some 34 := by rw [hc0, eq_t (d := 34) rfl ht]
      have hy := hy0
      refine Sq (Rg (Mv 1 rfl (Sm (((y + 0 : Nat) : Int)) rfl (by omega) (Md 1 [0,1,6,7,10] rfl (Nx (Wg (Gt (Gb (Gt (Gb (Gt (Jt (Kp [0,1,6,7,10] rfl ?_))))))))))))); intro a hF
      exact ⟨_, ⟨hF, by omega, hy, rfl, .inr (.inr ⟨rfl, h34⟩)⟩, by show 2 * (q - _) + 0 < 2 * (q - x) + 1; omega⟩
     have hy1 : y + 1 ≤ q := hS.step hy0 hc0 (eq_f (d := 34) rfl ht)
     clear ht
     refine Sk (Nx (Sq (Sq (Rg ?_))))
     obtain ⟨c1, hc1⟩ := hS.get hy1
     refine Mv 1 rfl ?_; intro a hF
     refine op_index_str hF rfl (1) c1 rfl rfl rfl Tryz.underlying9 rfl rfl (by first | rfl | omega) ((hl 1 (by omega)).trans hc1) ?_; clear hF a; intro a hF
     revert a; refine Md 1 [0,1,6,7,10,11,128] rfl (Nx (Cd rfl (fun ht => ?_) ((fun ht => ?_))))
     ·
      have h34 : T[y + 1]? = some 34 := by rw [hc1, eq_t (d := 34) rfl ht]
      have hy := hy1
      refine Sq (Rg (Mv 1 rfl (Sm (((y + 1 : Nat) : Int)) rfl (by omega) (Md 1 [0,1,6,7,10] rfl (Nx (Wg (Gt (Gb (Gt (Gb (Gt (Jt (Kp [0,1,6,7,10] rfl ?_))))))))))))); intro a hF
      exact ⟨_, ⟨hF, by omega, hy, rfl, .inr (.inr ⟨rfl, h34⟩)⟩, by show 2 * (q - _) + 0 < 2 * (q - x) + 1; omega⟩
     have hy2 : y + 2 ≤ q := hS.step hy1 hc1 (eq_f (d := 34) rfl ht)
     clear ht
     refine Sk (Nx (Sq (Sq (Rg ?_))))
     obtain ⟨c2, hc2⟩ := hS.get hy2
     refine Mv 1 rfl ?_; intro a hF
     refine op_index_str hF rfl (2) c2 rfl rfl rfl Tryz.underlying9 rfl rfl (by first | rfl | omega) ((hl 2 (by omega)).trans hc2) ?_; clear hF a; intro a hF
     revert a; refine Md 1 [0,1,6,7,10,11,133] rfl (Nx (Cd rfl (fun ht => ?_) ((fun ht => ?_))))
     ·
      have h34 : T[y + 2]? = some 34 := by rw [hc2, eq_t (d := 34) rfl ht]
      have hy := hy2
      refine Sq (Rg (Mv 1 rfl (Sm (((y + 2 : Nat) : Int)) rfl (by omega) (Md 1 [0,1,6,7,10] rfl (Nx (Wg (Gt (Gb (Gt (Gb (Gt (Jt (Kp [0,1,6,7,10] rfl ?_))))))))))))); intro a hF
      exact ⟨_, ⟨hF, by omega, hy, rfl, .inr (.inr ⟨rfl, h34⟩)⟩, by show 2 * (q - _) + 0 < 2 * (q - x) + 1; omega⟩
     have hy3 : y + 3 ≤ q := hS.step hy2 hc2 (eq_f (d := 34) rfl ht)
     clear ht
     refine Sk (Nx (Sq (Sq (Rg ?_))))
     obtain ⟨c3, hc3⟩ := hS.get hy3
     refine Mv 1 rfl ?_; intro a hF
     refine op_index_str hF rfl (3) c3 rfl rfl rfl Tryz.underlying9 rfl rfl (by first | rfl | omega) ((hl 3 (by omega)).trans hc3) ?_; clear hF a; intro a hF
     revert a; refine Md 1 [0,1,6,7,10,11,138] rfl (Nx (Cd rfl (fun ht => ?_) ((fun ht => ?_))))
     ·
      have h34 : T[y + 3]? = some 34 := by rw [hc3, eq_t (d := 34) rfl ht]
      have hy := hy3
      refine Sq (Rg (Mv 1 rfl (Sm (((y + 3 : Nat) : Int)) rfl (by omega) (Md 1 [0,1,6,7,10] rfl (Nx (Wg (Gt (Gb (Gt (Gb (Gt (Jt (Kp [0,1,6,7,10] rfl ?_))))))))))))); intro a hF
      exact ⟨_, ⟨hF, by omega, hy, rfl, .inr (.inr ⟨rfl, h34⟩)⟩, by show 2 * (q - _) + 0 < 2 * (q - x) + 1; omega⟩
     have hy4 : y + 4 ≤ q := hS.step hy3 hc3 (eq_f (d := 34) rfl ht)
     clear ht
     refine Sk (Nx (Sq (Sq (Rg ?_))))
     obtain ⟨c4, hc4⟩ := hS.get hy4
     refine Mv 1 rfl ?_; intro a hF
     refine op_index_str hF rfl (4) c4 rfl rfl rfl Tryz.underlying9 rfl rfl (by first | rfl | omega) ((hl 4 (by omega)).trans hc4) ?_; clear hF a; intro a hF
     revert a; refine Md 1 [0,1,6,7,10,11,143] rfl (Nx (Cd rfl (fun ht => ?_) ((fun ht => ?_))))
     ·
      have h34 : T[y + 4]? = some 34 := by rw [hc4, eq_t (d := 34) rfl ht]
      have hy := hy4
      refine Sq (Rg (Mv 1 rfl (Sm (((y + 4 : Nat) : Int)) rfl (by omega) (Md 1 [0,1,6,7,10] rfl (Nx (Wg (Gt (Gb (Gt (Gb (Gt (Jt (Kp [0,1,6,7,10] rfl ?_))))))))))))); intro a hF
      exact ⟨_, ⟨hF, by omega, hy, rfl, .inr (.inr ⟨rfl, h34⟩)⟩, by show 2 * (q - _) + 0 < 2 * (q - x) + 1; omega⟩
     have hy5 : y + 5 ≤ q := hS.step hy4 hc4 (eq_f (d := 34) rfl ht)
     clear ht
     refine Sk (Nx (Sq (Sq (Rg ?_))))
     obtain ⟨c5, hc5⟩ := hS.get hy5
     refine Mv 1 rfl ?_; intro a hF
     refine op_index_str hF rfl (5) c5 rfl rfl rfl Tryz.underlying9 rfl rfl (by first | rfl | omega) ((hl 5 (by omega)).trans hc5) ?_; clear hF a; intro a hF
     revert a; refine Md 1 [0,1,6,7,10,11,148] rfl (Nx (Cd rfl (fun ht => ?_) ((fun ht => ?_))))
     ·
      have h34 : T[y + 5]? = some 34 := by rw [hc5, eq_t (d := 34) rfl ht]
      have hy := hy5
      refine Sq (Rg (Mv 1 rfl (Sm (((y + 5 : Nat) : Int)) rfl (by omega) (Md 1 [0,1,6,7,10] rfl (Nx (Wg (Gt (Gb (Gt (Gb (Gt (Jt (Kp [0,1,6,7,10] rfl ?_))))))))))))); intro a hF
      exact ⟨_, ⟨hF, by omega, hy, rfl, .inr (.inr ⟨rfl, h34⟩)⟩, by show 2 * (q - _) + 0 < 2 * (q - x) + 1; omega⟩
     have hy6 : y + 6 ≤ q := hS.step hy5 hc5 (eq_f (d := 34) rfl ht)
     clear ht
     refine Sk (Nx (Sq (Sq (Rg ?_))))
     obtain ⟨c6, hc6⟩ := hS.get hy6
     refine Mv 1 rfl ?_; intro a hF
     refine op_index_str hF rfl (6) c6 rfl rfl rfl Tryz.underlying9 rfl rfl (by first | rfl | omega) ((hl 6 (by omega)).trans hc6) ?_; clear hF a; intro a hF
     revert a; refine Md 1 [0,1,6,7,10,11,153] rfl (Nx (Cd rfl (fun ht => ?_) ((fun ht => ?_))))
     ·
      have h34 : T[y + 6]? = some 34 := by rw [hc6, eq_t (d := 34) rfl ht]
      have hy := hy6
      refine Sq (Rg (Mv 1 rfl (Sm (((y + 6 : Nat) : Int)) rfl (by omega) (Md 1 [0,1,6,7,10] rfl (Nx (Wg (Gt (Gb (Gt (Gb (Gt (Jt (Kp [0,1,6,7,10] rfl ?_))))))))))))); intro a hF
      exact ⟨_, ⟨hF, by omega, hy, rfl, .inr (.inr ⟨rfl, h34⟩)⟩, by show 2 * (q - _) + 0 < 2 * (q - x) + 1; omega⟩
     have hy7 : y + 7 ≤ q := hS.step hy6 hc6 (eq_f (d := 34) rfl ht)
     clear ht
     refine Sk (Nx (Sq (Sq (Rg ?_))))
     obtain ⟨c7, hc7⟩ := hS.get hy7
     refine Mv 1 rfl ?_; intro a hF
     refine op_index_str hF rfl (7) c7 rfl rfl rfl Tryz.underlying9 rfl rfl (by first | rfl | omega) ((hl 7 (by omega)).trans hc7) ?_; clear hF a; intro a hF
     revert a; refine Md 1 [0,1,6,7,10,158] rfl (Nx (Ce rfl (fun ht => ?_) ((fun ht => ?_))))
     ·
      have hy8 : y + 8 ≤ q := hS.step hy7 hc7 (eq_f (d := 34) rfl ht)
      clear ht
      refine Sk (Nx (Rg (Mv 1 rfl (Sm (((y + 8 : Nat) : Int)) rfl (by omega) (Md 1 [0,1,6,7,10] rfl (Nb (Kp [0,1,6,7,10] rfl ?_))))))); intro a hF
      exact ⟨_, ⟨hF, by omega, hy8, rfl⟩, by omega⟩
     have h34 : T[y + 7]? = some 34 := by rw [hc7, eq_t (d := 34) rfl ht]
     have hy := hy7
     refine Sq (Rg (Mv 1 rfl (Sm (((y + 7 : Nat) : Int)) rfl (by omega) (Md 1 [0,1,6,7,10] rfl (Nx (Wg (Gt (Gb (Gt (Gb (Gt (Jt (Kp [0,1,6,7,10] rfl ?_))))))))))))); intro a hF
     exact ⟨_, ⟨hF, by omega, hy, rfl, .inr (.inr ⟨rfl, h34⟩)⟩, by show 2 * (q - _) + 0 < 2 * (q - x) + 1; omega⟩
    ·
     subst hw
     obtain ⟨b, hb⟩ := hS.get (p := x - 1) (by omega)
     refine ⟨_, rfl, ?_⟩
     revert a; refine Sq (Sq (Rg (Mv 2 rfl (Sm (((x - 1 : Nat) : Int)) rfl (by omega) ?_)))); intro a hF
     refine op_index_str hF rfl (x - 1) b rfl rfl rfl Tryz.underlying9 rfl rfl (by first | rfl | omega) hb ?_; clear hF a; intro a hF
     revert a; refine Md 1 [0,1,6,7,10,167] rfl (Nx (D1 rfl ?_ ((fun ht => ?_))))
     ·
      refine Sk (Nx (Kp [0,1,6,7,10] rfl ?_)); intro a hF
      exact fall x (ih 3 (by decide)) ⟨hF, hx1, hx2, rfl, .inl rfl⟩ rfl (jumps_mono fun l a w h => h)
     have hxq := hS.bare hx1 hx2 h34 hb (ne_t (d := 92) rfl ht)
     subst hxq
     have hZ := hS.more
     refine Sq (Rg (Mv 1 rfl (Sm (((x + 1 : Nat) : Int)) rfl (by omega) (Md 1 [0,1,6,7] rfl (Nx (Ex (Ot (Jx (Ot (Jx (Ob (Kp [0,1,6,7] rfl ?_)))))))))))); intro a hF
     exact ⟨(_, _), ⟨hF, hZ, by simp only; omega, by simp only; omega, rfl⟩, by have := hZ.small; simp only; omega⟩
   ·
    revert a; refine Sq (Rg (Mv 1 rfl (Sm (((i1 + 1 : Nat) : Int)) rfl (by omega) (Md 1 [0,1,6,7] rfl (Nx (Sq (Rg (Md 2 [0,1,6,7,10] rfl (Nx (Kp [0,1,6,7,10] rfl ?_)))))))))); intro a hF
    exact fall (i1 + 1) (pass 2) ⟨hF, Nat.le_refl _, hSle, rfl, .inr (.inl rfl)⟩ rfl (jumps_mono fun l a w h => ⟨_, h.choose_spec.1⟩)
 ·
  revert a; refine Sq (Bo (Kp [0,1,6,7] rfl ?_)); intro a hF
  refine loopX (fun (x : Nat) a w' => Fr 230 [(0, .string (mkS T)), (1, .int .i64 (x : Int)), (6, .int .i64 (p : Int)), (7, .int .i64 (d : Int))] a ∧ At T d x E ∧ i ≤ x ∧ w = w') (fun x => T.length - x) (i) ?_ (fun x a w' hI => ?_)
  · exact ⟨hF, hA, Nat.le_refl _, rfl⟩
  clear hF
  obtain ⟨hF, hB, hi, hw⟩ := hI
  subst hw
  have hs1 := hB.small
  revert a; refine Sq (Sq (Rg (Mv 3 rfl (Sn rfl (by omega) (Md 1 [0,1,6,7,25] rfl (Nx (Ce rfl (fun ht => ?_) ((fun ht => ?_)))))))))
  ·
   generalize x = i1 at *
   obtain ⟨c, hc⟩ := hB.get
   refine Ex (Ot (Ot (Ob (Nx (Sq (Rg (Mv 2 rfl ?_))))))); intro a hF
   refine op_index_str hF rfl (i1) c rfl rfl rfl Tryz.underlying9 rfl rfl (by first | rfl | omega) hc ?_; clear hF a; intro a hF
   refine op_indexAddr_arr hF rfl c.toNat 256 rfl rfl rfl Tryz.underlying211 (by kernel_rfl) rfl rfl rfl c.toNat_lt ?_; clear hF a; intro a hF
   refine op_load1 hF rfl rfl rfl rfl Tryz.underlying5 rfl rfl (hV c) ?_; clear hF a; intro a hF
   revert a; refine Md 1 [0,1,6,7,8] rfl (Nx (Sq (Sq (Rg (Md 2 [0,1,6,7,8,103] rfl (Nx (Ce rfl (fun ht => ?_) ((fun ht => ?_)))))))))
   ·
    have hn : vcls c ≠ 0 := by simpa using ht
    refine Sk (Nx (Kp [0,1,6,7,8] rfl ?_)); intro a hF
    exact fall (i1, d, c) (pass 0) ⟨rfl, hF, hB, hi, by simp only; omega, hc, hn, rfl⟩ rfl (jumps_mono fun l a w h => ⟨_, h.choose_spec.1⟩)
   have h0 : vcls c = 0 := by simpa using ht
   have hZ := hB.plain hc h0
   refine Sq (Rg (Mv 1 rfl (Sm (((i1 + 1 : Nat) : Int)) rfl (by omega) (Md 1 [0,1,6,7] rfl (Nx (Ex (Ot (Jx (Ob (Kp [0,1,6,7] rfl ?_)))))))))); intro a hF
   exact ⟨(_, _), ⟨hF, hZ, by simp only; omega, by simp only; omega, rfl⟩, by have := hZ.small; simp only; omega⟩
  have hlt := of_decide_eq_true ht
  have hl : ∀ j, j < 8 → ((T.drop x).take (x + 8 - x))[j]? = T[x + j]? := by intro j hj; rw [List.getElem?_take, if_pos (by omega), List.getElem?_drop]
  have hB0 := hB
  refine Sk (Nx (Bo (Sq (Rg (Mv 3 rfl (Sm (((x + 8 : Nat) : Int)) rfl (by omega) ?_)))))); intro a hF
  refine op_slice_str hF rfl x (x + 8) rfl rfl rfl Tryz.underlying9 rfl rfl rfl rfl (by omega) (by omega) (by omega) ?_; clear hF a; intro a hF
  revert a; refine Md 1 [0,1,6,7,9] rfl (Nx (Sq (Rg ?_)))
  obtain ⟨c0, hc0⟩ := hB0.get
  refine Mv 1 rfl ?_; intro a hF
  refine op_index_str hF rfl (0) c0 rfl rfl rfl Tryz.underlying9 rfl rfl (by first | rfl | omega) ((hl 0 (by omega)).trans hc0) ?_; clear hF a; intro a hF
  refine op_indexAddr_arr hF rfl c0.toNat 256 rfl rfl rfl Tryz.underlying211 (by kernel_rfl) rfl rfl rfl c0.toNat_lt ?_; clear hF a; intro a hF
  refine op_load1 hF rfl rfl rfl rfl Tryz.underlying5 rfl rfl (hV c0) ?_; clear hF a; intro a hF
  revert a; refine Md 1 [0,1,6,7,8,9] rfl (Nx (Sq (Sq (Rg (Md 2 [0,1,6,7,8,9,36] rfl (Nx (Cd rfl (fun ht => ?_) ((fun ht => ?_)))))))))
  ·
   have hn : vcls c0 ≠ 0 := by simpa using ht
   have hc := hc0
   have hB := hB0
   have hi : i ≤ x + 0 := by omega
   refine Sq (Rg (Mv 1 rfl (Sm (((x + 0 : Nat) : Int)) rfl (by omega) (Md 1 [0,1,6,7,8] rfl (Nx (Wg (Gt (Gb (Gt (Gb (Gt (Jt (Kp [0,1,6,7,8] rfl ?_))))))))))))); intro a hF
   exact ⟨(_, _, _), rfl, hF, hB, hi, by simp only; omega, hc, hn, rfl⟩
  have h0 : vcls c0 = 0 := by simpa using ht
  have hB1 := hB0.plain hc0 h0
  clear ht h0
  refine Sk (Nx (Sq (Rg ?_)))
  obtain ⟨c1, hc1⟩ := hB1.get
  refine Mv 1 rfl ?_; intro a hF
  refine op_index_str hF rfl (1) c1 rfl rfl rfl Tryz.underlying9 rfl rfl (by first | rfl | omega) ((hl 1 (by omega)).trans hc1) ?_; clear hF a; intro a hF
  refine op_indexAddr_arr hF rfl c1.toNat 256 rfl rfl rfl Tryz.underlying211 (by kernel_rfl) rfl rfl rfl c1.toNat_lt ?_; clear hF a; intro a hF
  refine op_load1 hF rfl rfl rfl rfl Tryz.underlying5 rfl rfl (hV c1) ?_; clear hF a; intro a hF
  revert a; refine Md 1 [0,1,6,7,8,9] rfl (Nx (Sq (Sq (Rg (Md 2 [0,1,6,7,8,9,44] rfl (Nx (Cd rfl (fun ht => ?_) ((fun ht => ?_)))))))))
  ·
   have hn : vcls c1 ≠ 0 := by simpa using ht
   have hc := hc1
   have hB := hB1
   have hi : i ≤ x + 1 := by omega
   refine Sq (Rg (Mv 1 rfl (Sm (((x + 1 : Nat) : Int)) rfl (by omega) (Md 1 [0,1,6,7,8] rfl (Nx (Wg (Gt (Gb (Gt (Gb (Gt (Jt (Kp [0,1,6,7,8] rfl ?_))))))))))))); intro a hF
   exact ⟨(_, _, _), rfl, hF, hB, hi, by simp only; omega, hc, hn, rfl⟩
  have h0 : vcls c1 = 0 := by simpa using ht
  have hB2 := hB1.plain hc1 h0
  clear ht h0
  refine Sk (Nx (Sq (Rg ?_)))
  obtain ⟨c2, hc2⟩ := hB2.get
  refine Mv 1 rfl ?_; intro a hF
  refine op_index_str hF rfl (2) c2 rfl rfl rfl Tryz.underlying9 rfl rfl (by first | rfl | omega) ((hl 2 (by omega)).trans hc2) ?_; clear hF a; intro a hF
  refine op_indexAddr_arr hF rfl c2.toNat 256 rfl rfl rfl Tryz.underlying211 (by kernel_rfl) rfl rfl rfl c2.toNat_lt ?_; clear hF a; intro a hF
  refine op_load1 hF rfl rfl rfl rfl Tryz.underlying5 rfl rfl (hV c2) ?_; clear hF a; intro a hF
  revert a; refine Md 1 [0,1,6,7,8,9] rfl (Nx (Sq (Sq (Rg (Md 2 [0,1,6,7,8,9,52] rfl (Nx (Cd rfl (fun ht => ?_) ((fun ht => ?_)))))))))
  ·
   have hn : vcls c2 ≠ 0 := by simpa using ht
   have hc := hc2
   have hB := hB2
   have hi : i ≤ x + 2 := by omega
   refine Sq (Rg (Mv 1 rfl (Sm (((x + 2 : Nat) : Int)) rfl (by omega) (Md 1 [0,1,6,7,8] rfl (Nx (Wg (Gt (Gb (Gt (Gb (Gt (Jt (Kp [0,1,6,7,8] rfl ?_))))))))))))); intro a hF
   exact ⟨(_, _, _), rfl, hF, hB, hi, by simp only; omega, hc, hn, rfl⟩
  have h0 : vcls c2 = 0 := by simpa using ht
  have hB3 := hB2.plain hc2 h0
  clear ht h0
  refine Sk (Nx (Sq (Rg ?_)))
  obtain ⟨c3, hc3⟩ := hB3.get
  refine Mv 1 rfl ?_; intro a hF
  refine op_index_str hF rfl (3) c3 rfl rfl rfl Tryz.underlying9 rfl rfl (by first | rfl | omega) ((hl 3 (by omega)).trans hc3) ?_; clear hF a; intro a hF
  refine op_indexAddr_arr hF rfl c3.toNat 256 rfl rfl rfl Tryz.underlying211 (by kernel_rfl) rfl rfl rfl c3.toNat_lt ?_; clear hF a; intro a hF
  refine op_load1 hF rfl rfl rfl rfl Tryz.underlying5 rfl rfl (hV c3) ?_; clear hF a; intro a hF
  revert a; refine Md 1 [0,1,6,7,8,9] rfl (Nx (Sq (Sq (Rg (Md 2 [0,1,6,7,8,9,60] rfl (Nx (Cd rfl (fun ht => ?_) ((fun ht => ?_)))))))))
  ·
   have hn : vcls c3 ≠ 0 := by simpa using ht
   have hc := hc3
   have hB := hB3
   have hi : i ≤ x + 3 := by omega
   refine Sq (Rg (Mv 1 rfl (Sm (((x + 3 : Nat) : Int)) rfl (by omega) (Md 1 [0,1,6,7,8] rfl (Nx (Wg (Gt (Gb (Gt (Gb (Gt (Jt (Kp [0,1,6,7,8] rfl ?_))))))))))))); intro a hF
   exact ⟨(_, _, _), rfl, hF, hB, hi, by simp only; omega, hc, hn, rfl⟩
  have h0 : vcls c3 = 0 := by simpa using ht
  have hB4 := hB3.plain hc3 h0
  clear ht h0
  refine Sk (Nx (Sq (Rg ?_)))
  obtain ⟨c4, hc4⟩ := hB4.get
  refine Mv 1 rfl ?_; intro a hF
  refine op_index_str hF rfl (4) c4 rfl rfl rfl Tryz.underlying9 rfl rfl (by first | rfl | omega) ((hl 4 (by omega)).trans hc4) ?_; clear hF a; intro a hF
  refine op_indexAddr_arr hF rfl c4.toNat 256 rfl rfl rfl Tryz.underlying211 (by kernel_rfl) rfl rfl rfl c4.toNat_lt ?_; clear hF a; intro a hF
  refine op_load1 hF rfl rfl rfl rfl Tryz.underlying5 rfl rfl (hV c4) ?_; clear hF a; intro a hF
  revert a; refine Md 1 [0,1,6,7,8,9] rfl (Nx (Sq (Sq (Rg (Md 2 [0,1,6,7,8,9,68] rfl (Nx (Cd rfl (fun ht => ?_) ((fun ht => ?_)))))))))
  ·
   have hn : vcls c4 ≠ 0 := by simpa using ht
   have hc := hc4
   have hB := hB4
   have hi : i ≤ x + 4 := by omega
   refine Sq (Rg (Mv 1 rfl (Sm (((x + 4 : Nat) : Int)) rfl (by omega) (Md 1 [0,1,6,7,8] rfl (Nx (Wg (Gt (Gb (Gt (Gb (Gt (Jt (Kp [0,1,6,7,8] rfl ?_))))))))))))); intro a hF
   exact ⟨(_, _, _), rfl, hF, hB, hi, by simp only; omega, hc, hn, rfl⟩
  have h0 : vcls c4 = 0 := by simpa using ht
  have hB5 := hB4.plain hc4 h0
  clear ht h0
  refine Sk (Nx (Sq (Rg ?_)))
  obtain ⟨c5, hc5⟩ := hB5.get
  refine Mv 1 rfl ?_; intro a hF
  refine op_index_str hF rfl (5) c5 rfl rfl rfl Tryz.underlying9 rfl rfl (by first | rfl | omega) ((hl 5 (by omega)).trans hc5) ?_; clear hF a; intro a hF
  refine op_indexAddr_arr hF rfl c5.toNat 256 rfl rfl rfl Tryz.underlying211 (by kernel_rfl) rfl rfl rfl c5.toNat_lt ?_; clear hF a; intro a hF
  refine op_load1 hF rfl rfl rfl rfl Tryz.underlying5 rfl rfl (hV c5) ?_; clear hF a; intro a hF
  revert a; refine Md 1 [0,1,6,7,8,9] rfl (Nx (Sq (Sq (Rg (Md 2 [0,1,6,7,8,9,76] rfl (Nx (Cd rfl (fun ht => ?_) ((fun ht => ?_)))))))))
  ·
   have hn : vcls c5 ≠ 0 := by simpa using ht
   have hc := hc5
   have hB := hB5
   have hi : i ≤ x + 5 := by omega
   refine Sq (Rg (Mv 1 rfl (Sm (((x + 5 : Nat) : Int)) rfl (by omega) (Md 1 [0,1,6,7,8] rfl (Nx (Wg (Gt (Gb (Gt (Gb (Gt (Jt (Kp [0,1,6,7,8] rfl ?_))))))))))))); intro a hF
   exact ⟨(_, _, _), rfl, hF, hB, hi, by simp only; omega, hc, hn, rfl⟩
  have h0 : vcls c5 = 0 := by simpa using ht
  have hB6 := hB5.plain hc5 h0
  clear ht h0
  refine Sk (Nx (Sq (Rg ?_)))
  obtain ⟨c6, hc6⟩ := hB6.get
  refine Mv 1 rfl ?_; intro a hF
  refine op_index_str hF rfl (6) c6 rfl rfl rfl Tryz.underlying9 rfl rfl (by first | rfl | omega) ((hl 6 (by omega)).trans hc6) ?_; clear hF a; intro a hF
  refine op_indexAddr_arr hF rfl c6.toNat 256 rfl rfl rfl Tryz.underlying211 (by kernel_rfl) rfl rfl rfl c6.toNat_lt ?_; clear hF a; intro a hF
  refine op_load1 hF rfl rfl rfl rfl Tryz.underlying5 rfl rfl (hV c6) ?_; clear hF a; intro a hF
  revert a; refine Md 1 [0,1,6,7,8,9] rfl (Nx (Sq (Sq (Rg (Md 2 [0,1,6,7,8,9,84] rfl (Nx (Cd rfl (fun ht => ?_) ((fun ht => ?_)))))))))
  ·
   have hn : vcls c6 ≠ 0 := by simpa using ht
   have hc := hc6
   have hB := hB6
   have hi : i ≤ x + 6 := by omega
   refine Sq (Rg (Mv 1 rfl (Sm (((x + 6 : Nat) : Int)) rfl (by omega) (Md 1 [0,1,6,7,8] rfl (Nx (Wg (Gt (Gb (Gt (Gb (Gt (Jt (Kp [0,1,6,7,8] rfl ?_))))))))))))); intro a hF
   exact ⟨(_, _, _), rfl, hF, hB, hi, by simp only; omega, hc, hn, rfl⟩
  have h0 : vcls c6 = 0 := by simpa using ht
  have hB7 := hB6.plain hc6 h0
  clear ht h0
  refine Sk (Nx (Sq (Rg ?_)))
  obtain ⟨c7, hc7⟩ := hB7.get
  refine Mv 1 rfl ?_; intro a hF
  refine op_index_str hF rfl (7) c7 rfl rfl rfl Tryz.underlying9 rfl rfl (by first | rfl | omega) ((hl 7 (by omega)).trans hc7) ?_; clear hF a; intro a hF
  refine op_indexAddr_arr hF rfl c7.toNat 256 rfl rfl rfl Tryz.underlying211 (by kernel_rfl) rfl rfl rfl c7.toNat_lt ?_; clear hF a; intro a hF
  refine op_load1 hF rfl rfl rfl rfl Tryz.underlying5 rfl rfl (hV c7) ?_; clear hF a; intro a hF
  revert a; refine Md 1 [0,1,6,7,8] rfl (Nx (Sq (Sq (Rg (Md 2 [0,1,6,7,8,92] rfl (Nx (Ce rfl (fun ht => ?_) ((fun ht => ?_)))))))))
  ·
   have h0 : vcls c7 = 0 := by simpa using ht
   have hB8 := hB7.plain hc7 h0
   clear ht h0
   refine Sk (Nx (Rg (Mv 1 rfl (Sm (((x + 8 : Nat) : Int)) rfl (by omega) (Md 1 [0,1,6,7] rfl (Nb (Kp [0,1,6,7] rfl ?_))))))); intro a hF
   exact ⟨_, ⟨hF, hB8, by omega, rfl⟩, by have := hB8.small; omega⟩
  have hn : vcls c7 ≠ 0 := by simpa using ht
  have hc := hc7
  have hB := hB7
  have hi : i ≤ x + 7 := by omega
  refine Sq (Rg (Mv 1 rfl (Sm (((x + 7 : Nat) : Int)) rfl (by omega) (Md 1 [0,1,6,7,8] rfl (Nx (Wg (Gt (Gb (Gt (Gb (Gt (Jt (Kp [0,1,6,7,8] rfl ?_))))))))))))); intro a hF
  exact ⟨(_, _, _), rfl, hF, hB, hi, by simp only; omega, hc, hn, rfl⟩
end Go.Sx
set_option linter.unusedVariables false
set_option maxRecDepth 4000
namespace Js
def deltas : List Nat := [0, 1, 1, 1, 2, 2, 2, 3, 3, 3, 4, 4, 4, 4, 5, 5, 5, 6, 6, 6, 7, 7, 7, 7, 8, 8, 8, 9, 9, 9, 10, 10, 10, 10, 11, 11, 11, 12, 12, 12, 13, 13, 13, 13, 14, 14, 14, 15, 15, 15, 16, 16, 16, 16, 17, 17, 17, 18, 18, 18, 19]
def digsOf : Nat → Nat → Str → Str
  | 0, _, out => out
  | f + 1, n, out => if n = 0 then out else digsOf f (n / 10) (chr (n % 10) :: out)
def five (k : Nat) : Str := if k = 0 then [] else digsOf 50 (5 ^ k) []
def tabOk (k : Nat) : Bool :=
  worth (five k) == 5 ^ k && (five k).all isDig && decide ((five k).getLast? ≠ some 48) && decide (k + 1 = deltas.getD k 0 + (five k).length) && decide (2 ^ k < 10 ^ deltas.getD k 0) && decide (1 ≤ deltas.getD k 0) && decide (deltas.getD k 0 ≤ 19) && decide (4 ≤ k → 2 ≤ deltas.getD k 0) && decide (10 ^ (deltas.getD k 0 - 1) ≤ 2 ^ k)
theorem tab_all : ((List.range 61).drop 1).all tabOk = true := by decide +kernel
structure TabRow (k d : Nat) (s : Str) : Prop where
  worth : worth s = 5 ^ k
  digs : Digs s
  last : s.getLast? ≠ some 48
  len : k + 1 = d + s.length
  big : 2 ^ k < 10 ^ d
  pos : 1 ≤ d
  le : d ≤ 19
  two : 4 ≤ k → 2 ≤ d
  low : 10 ^ (d - 1) ≤ 2 ^ k
theorem tab_row {k : Nat} (h1 : 1 ≤ k) (h2 : k ≤ 60) : TabRow k (deltas.getD k 0) (five k) := by
  have h := List.all_eq_true.1 tab_all k (by
    rw [List.mem_iff_getElem]
    exact ⟨k - 1, by simp; omega, by simp; omega⟩)
  simp only [tabOk, Bool.and_eq_true, decide_eq_true_eq, beq_iff_eq, List.all_eq_true] at h
  obtain ⟨⟨⟨⟨⟨⟨⟨⟨h1, h2⟩, h3⟩, h4⟩, h5⟩, h6⟩, h7⟩, h8⟩, h9⟩ := h
  exact ⟨h1, h2, h3, h4, h5, h6, h7, h8, h9⟩
end Js
namespace Go.Sx
open Go.RowKit Go.Proofs Js Go.Proofs.YtelonenjneonlaaGreatDoorW.PrintWords
def powtabL : List Int := [1, 3, 6, 9, 13, 16, 19, 23, 26]
structure Tabs (N : Nat) (w : World) : Prop where
  lt : 30 < N
  opt : w.cell? ⟨20, 0, none⟩ = some (.bool true)
  mant : w.cell? ⟨22, 0, none⟩ = some (.int .u64 52)
  expb : w.cell? ⟨22, 1, none⟩ = some (.int .u64 11)
  bias : w.cell? ⟨22, 2, none⟩ = some (.int .i64 (-1023))
  powtab : ∃ b off c, b < N ∧ w.cell? ⟨25, 0, none⟩ = some (.slice (some ⟨b, off, none⟩) 9 c) ∧ ∀ j x, powtabL[j]? = some x → w.cell? ⟨b, off + j, none⟩ = some (.int .i64 x)
  pow10 : ∃ b off c, b < N ∧ w.cell? ⟨26, 0, none⟩ = some (.slice (some ⟨b, off, none⟩) 23 c) ∧ ∀ j, j < 23 → ∃ f, w.cell? ⟨b, off + j, none⟩ = some (.float .f64 f)
  tab : ∀ j, j < 1392 → ∃ x : Nat, x < 2 ^ 64 ∧ w.cell? ⟨27, j, none⟩ = some (.int .u64 (x : Int))
  cheats : ∃ b off c, b < N ∧ w.cell? ⟨28, 0, none⟩ = some (.slice (some ⟨b, off, none⟩) 61 c) ∧ ∀ k, k < 61 → w.cell? ⟨b, off + k * 2, none⟩ = some (.int .i64 ((deltas.getD k 0 : Nat) : Int)) ∧ w.cell? ⟨b, off + k * 2 + 1, none⟩ = some (.string (mkS (five k)))
  eRange : ∃ t v, w.cell? ⟨10, 0, none⟩ = some (.iface t v)
  eSyntax : ∃ t v, w.cell? ⟨14, 0, none⟩ = some (.iface t v)
theorem Tabs.keep {N M : Nat} {w w' : World} (h : Tabs N w) (hN : N ≤ M) (hB : Below M w w') : Tabs N w' := by
  have c : ∀ {b j : Nat} {v : Value}, b < N → w.cell? ⟨b, j, none⟩ = some v → w'.cell? ⟨b, j, none⟩ = some v := fun {b _ _} hb hv => (hB.cell (show b < M by omega)).trans hv
  have h30 := h.lt
  refine ⟨h30, c (by omega) h.opt, c (by omega) h.mant, c (by omega) h.expb, c (by omega) h.bias, ?_, ?_, ?_, ?_, ?_, ?_⟩
  · obtain ⟨b, off, k, hb, h1, h2⟩ := h.powtab
    exact ⟨b, off, k, hb, c (by omega) h1, fun j x hx => c hb (h2 j x hx)⟩
  · obtain ⟨b, off, k, hb, h1, h2⟩ := h.pow10
    exact ⟨b, off, k, hb, c (by omega) h1, fun j hj => (h2 j hj).imp fun f hf => c hb hf⟩
  · exact fun j hj => (h.tab j hj).imp fun x hx => ⟨hx.1, c (by omega) hx.2⟩
  · obtain ⟨b, off, k, hb, h1, h2⟩ := h.cheats
    exact ⟨b, off, k, hb, c (by omega) h1, fun j hj => ⟨c hb (h2 j hj).1, c hb (h2 j hj).2⟩⟩
  · exact h.eRange.imp fun t h => h.imp fun v hv => c (by omega) hv
  · exact h.eSyntax.imp fun t h => h.imp fun v hv => c (by omega) hv
structure Glob (N : Nat) (w : World) : Prop where
  vch : Vch w
  tabs : Tabs N w
theorem Glob.mono {N M : Nat} {w : World} (h : Glob N w) (hN : N ≤ M) : Glob M w := by
  obtain ⟨h1, h2⟩ := h
  obtain ⟨a1, a2, a3, a4, a5, ⟨b, o, k, hb, h6⟩, ⟨b', o', k', hb', h7⟩, a8, ⟨b2, o2, k2, hb2, h9⟩, a10, a11⟩ := h2
  exact ⟨h1, ⟨Nat.lt_of_lt_of_le a1 hN, a2, a3, a4, a5, ⟨b, o, k, by omega, h6⟩, ⟨b', o', k', by omega, h7⟩, a8, ⟨b2, o2, k2, by omega, h9⟩, a10, a11⟩⟩
theorem Glob.keep {N M : Nat} {w w' : World} (h : Glob N w) (hN : N ≤ M) (hB : Below M w w') : Glob N w' := by
  refine ⟨fun c => ?_, h.tabs.keep hN hB⟩
  have hadd : ((⟨17, 0, none⟩ : Addr).add c.toNat) = ⟨17, c.toNat, none⟩ := by unfold Addr.add; split <;> simp_all
  have := h.vch c
  rw [hadd] at this ⊢
  exact (hB.cell (show 17 < M by have := h.tabs.lt; omega)).trans this
def VchB (w : World) : Prop := Glob w.heap.size w
theorem VchB.keep {w w' : World} (h : VchB w) (hB : Below w.heap.size w w') : VchB w' := (Glob.keep h (Nat.le_refl _) hB).mono hB.size
theorem glob_of {B : Nat} {wc w : World} {L : List Bk} (hG : Glob B wc) (hM : Mem B wc L w) : VchB w := (hG.keep (Nat.le_refl _) hM.below).mono hM.base
def PF : Prop := ∀ (t : Str) (w : World), VchB w → IsNum t → t.length ≤ 2 ^ 40 → Calls Tryz.prog 124 #[.string (mkS t), .int .i64 64] w (Ret fun v w' => (∃ f e, v = .tuple #[.float .f64 f, e]) ∧ Below w.heap.size w w')
theorem squash_ret (T t r : Str) (p : Nat) (c : UInt8) (t' : Str) (w : World) (hV : VchB w) (hT : T.length ≤ 2 ^ 40) (h : T.drop p = t ++ r) (ht : t = c :: t') (hn : ∀ s, Nest 1 (t' ++ s) t'.length) :
    Calls Tryz.prog 167 #[.string (mkS T), .int .i64 (p : Int)] w (Ret fun v w' => v = .tuple #[.int .i64 ((p + t.length : Nat) : Int), .string (mkS t)] ∧ Below w.heap.size w w') := by
  have hA := Form.at h ht hn
  refine (squash_walk T p (p + t.length) w hV.vch hT hA).mono ?_
  rintro e w' ⟨rfl, hd⟩
  refine ⟨_, rfl, ?_, hd.below⟩
  rw [Nat.add_sub_cancel_left, seg_take h]
end Go.Sx
namespace Go.Sx
open Go.RowKit Go.Proofs Js Go.Lib
theorem one_at {cs : List Value} {o : Nat} {v : Value} (h : (cs.drop o).take 1 = [v]) : cs[o]? = some v := by
  have h0 : ((cs.drop o).take 1)[0]? = some v := by rw [h]; rfl
  simpa using h0
section
variable {H : Type} {enc : TypeId × Value → H} {P : Program} {w : World} {base : Nat} {sp : Nat → Bool} {held : Bool} {fuel : Nat} {t : TypeId} {cs : List Value} {p : List MemPlace}
theorem struct_at {fs : Array Field} {ds : List (DataW H)} (ht : P.underlying t = some (.struct fs)) (h : DataW.trod enc P w base sp held fuel t cs = some (.agg ds, p)) {i : Nat} {f : Field} {d : DataW H} (hf : fs[i]? = some f) (hd : ds[i]? = some d) :
    ∃ m q, DataW.trod enc P w base sp held m f.type ((cs.drop f.offset).take (P.cellsOf f.type)) = some (d, q) := by
  obtain ⟨xs, n, rfl, hx, _, _, hall⟩ := DataW.trod_struct ht h
  have h1 := hall i f hf
  have e : ds = xs.map (·.1) := by have := congrArg Prod.fst hx; simpa using this
  subst e
  rw [List.getElem?_map] at hd
  obtain ⟨b, hb, rfl⟩ := Option.map_eq_some_iff.1 hd
  exact ⟨n, b.2, by rw [h1, hb]⟩
theorem int_field {fs : Array Field} {ds : List (DataW H)} (ht : P.underlying t = some (.struct fs)) (h : DataW.trod enc P w base sp held fuel t cs = some (.agg ds, p)) {i o : Nat} {f : Field} {k : IntKind} {z : Int} (hf : fs[i]? = some f) (hd : ds[i]? = some (.lit (.int k z)))
    (ho : f.offset = o) (hu : P.underlying f.type = some (.int k)) (hc : P.cellsOf f.type = 1) : cs[o]? = some (.int k z) := by
  obtain ⟨m, q, h1⟩ := struct_at ht h hf hd
  rw [ho, hc] at h1
  obtain ⟨z', e1, e2, _⟩ := DataW.trod_int hu h1
  have := (Prod.mk.inj e2).1
  simp only [DataW.lit.injEq, Lit.int.injEq, true_and] at this
  rw [one_at e1, this]
theorem string_field {fs : Array Field} {ds : List (DataW H)} (ht : P.underlying t = some (.struct fs)) (h : DataW.trod enc P w base sp held fuel t cs = some (.agg ds, p)) {i o : Nat} {f : Field} {l : List UInt8} (hf : fs[i]? = some f) (hd : ds[i]? = some (.lit (.string l)))
    (ho : f.offset = o) (hu : P.underlying f.type = some .string) (hc : P.cellsOf f.type = 1) : cs[o]? = some (.string (mkS l)) := by
  obtain ⟨m, q, h1⟩ := struct_at ht h hf hd
  rw [ho, hc] at h1
  obtain ⟨s, e1, e2, _⟩ := DataW.trod_string hu h1
  have := (Prod.mk.inj e2).1
  simp only [DataW.lit.injEq, Lit.string.injEq] at this
  rw [one_at e1, this]
  have : mkS s.data.toList = s := by unfold mkS; cases s; simp
  rw [this]
theorem slice_at {e : TypeId} {ds rs : List (DataW H)} (ht : P.underlying t = some (.slice e)) (h : DataW.trod enc P w base sp held fuel t cs = some (.slice ds rs, p)) (h0 : 0 < ds.length) (hc : 0 < P.cellsOf e) :
    ∃ b off cap, cs = [.slice (some ⟨b, off, none⟩) ds.length cap] ∧ b < w.heap.size ∧ ∀ i d, ds[i]? = some d → ∃ m q ce, ce.length = P.cellsOf e ∧ (∀ j v, ce[j]? = some v → w.cell? ⟨b, off + i * P.cellsOf e + j, none⟩ = some v) ∧ DataW.trod enc P w base sp held m e ce = some (d, q) := by
  rcases DataW.trod_slice ht h with ⟨_, hx⟩ | ⟨a, len, cap, el, rr, m, rfl, hcs, hx, _, _, _, hel, helem, _, _⟩
  · cases hx
  have e0 := congrArg Prod.fst hx
  simp only [DataW.slice.injEq] at e0
  obtain ⟨eE, _⟩ := e0
  have hlen : len = ds.length := by rw [eE, List.length_map, hel]
  have key : ∀ i d, ds[i]? = some d → ∃ q ce, ce.length = P.cellsOf e ∧ (∀ j v, ce[j]? = some v → w.cell? ((a.add (i * P.cellsOf e)).add j) = some v) ∧ DataW.trod enc P w base sp held m e ce = some (d, q) := by
    intro i d hd
    have hil : i < len := by rw [hlen]; exact (List.getElem?_eq_some_iff.1 hd).1
    rw [eE, List.getElem?_map] at hd
    obtain ⟨b, hb, rfl⟩ := Option.map_eq_some_iff.1 hd
    have h1 := helem i hil
    rw [hb] at h1
    obtain ⟨ce, hce, hte⟩ := Option.bind_eq_some_iff.1 h1
    obtain ⟨_, hl, hcc⟩ := World.cells?_some hce
    refine ⟨b.2, ce, hl, fun j v hv => ?_, hte⟩
    rw [hcc j (by rw [← hl]; exact (List.getElem?_eq_some_iff.1 hv).1), hv]
  obtain ⟨R, o, sR⟩ := a
  obtain ⟨q0, ce0, hl0, hc0, _⟩ := key 0 ds[0] (List.getElem?_eq_getElem h0)
  have h00 := hc0 0 ce0[0] (List.getElem?_eq_getElem (by omega))
  have ea : ((⟨R, o, sR⟩ : Addr).add (0 * P.cellsOf e)).add 0 = ⟨R, o, sR⟩ := by simp [Addr.add]
  rw [ea] at h00
  obtain rfl : sR = none := Go.Proofs.cell_spot h00
  refine ⟨R, o, cap, by rw [hcs, hlen], ?_, fun i d hd => ?_⟩
  · rcases Nat.lt_or_ge R w.heap.size with h | h
    · exact h
    · simp [World.cell?, h] at h00
  · obtain ⟨q, ce, h1, h2, h3⟩ := key i d hd
    refine ⟨m, q, ce, h1, fun j v hv => ?_, h3⟩
    have := h2 j v hv
    rwa [Addr.add_mid, Addr.add_mid] at this
end
theorem var_reads {w : World} {name : String} {d : DataW Unit} {g : Nat} {t : TypeId} (h : VarReads Tryz.prog w name d) (hn : Tryz.prog.globalNamed name = some g) (hy : (Tryz.prog.globals[g]?).map (·.type) = some t) :
    ∃ (cs : List Value) (fuel : Nat) (p : List MemPlace), (∀ j, w.cell? ⟨g, j, none⟩ = cs[j]?) ∧ DataW.trod (fun _ => ()) Tryz.prog w 0 (fun _ => true) false fuel t cs = some (d, p) := by
  obtain ⟨g', t', cs, fuel, p, hg, ht, hv, hd⟩ := h
  obtain rfl := Option.some.inj (hn.symm.trans hg)
  obtain rfl := Option.some.inj (hy.symm.trans ht)
  exact ⟨cs.toList, fuel, p, fun j => by rw [World.var?_cell hg hv j]; simp, hd⟩
end Go.Sx
namespace Go.Sx
open Go.RowKit Go.Proofs Js Go.Lib
theorem g_opt {w : World} (h : VarReads Tryz.prog w "internal/strconv.optimize" (.lit (.bool true))) : w.cell? ⟨20, 0, none⟩ = some (.bool true) := by
  obtain ⟨cs, fuel, p, hc, hd⟩ := var_reads h (g := 20) (t := 4) (by kernel_rfl) (by kernel_rfl)
  obtain ⟨b, rfl, e⟩ := DataW.trod_bool Tryz.underlying4 hd
  have := (Prod.mk.inj e).1
  simp only [DataW.lit.injEq, Lit.bool.injEq] at this
  rw [hc 0, ← this]; rfl
theorem g_info {w : World} (h : VarReads Tryz.prog w "internal/strconv.float64info" (.agg [.lit (.int .u64 52), .lit (.int .u64 11), .lit (.int .i64 (-1023))])) :
    w.cell? ⟨22, 0, none⟩ = some (.int .u64 52) ∧ w.cell? ⟨22, 1, none⟩ = some (.int .u64 11) ∧ w.cell? ⟨22, 2, none⟩ = some (.int .i64 (-1023)) := by
  obtain ⟨cs, fuel, p, hc, hd⟩ := var_reads h (g := 22) (t := 250) (by kernel_rfl) (by kernel_rfl)
  refine ⟨?_, ?_, ?_⟩
  · rw [hc 0]; exact int_field (i := 0) Tryz.underlying250 hd rfl rfl rfl (by kernel_rfl) (by kernel_rfl)
  · rw [hc 1]; exact int_field (i := 1) Tryz.underlying250 hd rfl rfl rfl (by kernel_rfl) (by kernel_rfl)
  · rw [hc 2]; exact int_field (i := 2) Tryz.underlying250 hd rfl rfl rfl (by kernel_rfl) (by kernel_rfl)
theorem g_powtab {w : World} (h : VarReads Tryz.prog w "internal/strconv.powtab" (.slice (powtabL.map fun z => .lit (.int .i64 z)) [])) :
    ∃ b off c, b < w.heap.size ∧ w.cell? ⟨25, 0, none⟩ = some (.slice (some ⟨b, off, none⟩) 9 c) ∧ ∀ j x, powtabL[j]? = some x → w.cell? ⟨b, off + j, none⟩ = some (.int .i64 x) := by
  obtain ⟨cs, fuel, p, hc, hd⟩ := var_reads h (g := 25) (t := 133) (by kernel_rfl) (by kernel_rfl)
  have c3 : Tryz.prog.cellsOf 3 = 1 := by kernel_rfl
  obtain ⟨b, off, cap, rfl, hb, hel⟩ := slice_at (e := 3) (by kernel_rfl) hd (by decide) (by rw [c3]; decide)
  refine ⟨b, off, cap, hb, by rw [hc 0]; rfl, fun j x hx => ?_⟩
  obtain ⟨m, q, ce, hl, hcc, ht⟩ := hel j (.lit (.int .i64 x)) (by rw [List.getElem?_map, hx]; rfl)
  obtain ⟨z, rfl, e, _⟩ := DataW.trod_int Tryz.underlying3 ht
  have := (Prod.mk.inj e).1
  simp only [DataW.lit.injEq, Lit.int.injEq, true_and] at this
  subst this
  have := hcc 0 _ rfl
  rw [c3, Nat.mul_one] at this
  exact this
theorem trod_float {P : Program} {w : World} {base : Nat} {sp : Nat → Bool} {held : Bool} {fuel : Nat} {t : TypeId} {cs : List Value} {k : FloatKind} {x : DataW Unit × List MemPlace} (ht : P.underlying t = some (.float k)) (h : DataW.trod (fun _ => ()) P w base sp held fuel t cs = some x) : ∃ f, cs = [.float k f] := by
  cases fuel with
  | zero => simp [DataW.trod] at h
  | succ n =>
    unfold DataW.trod at h
    rw [ht] at h
    split at h <;> simp_all
theorem g_pow10 {w : World} {ds : List (DataW Unit)} (hl : ds.length = 23) (h : VarReads Tryz.prog w "internal/strconv.float64pow10" (.slice ds [])) :
    ∃ b off c, b < w.heap.size ∧ w.cell? ⟨26, 0, none⟩ = some (.slice (some ⟨b, off, none⟩) 23 c) ∧ ∀ j, j < 23 → ∃ f, w.cell? ⟨b, off + j, none⟩ = some (.float .f64 f) := by
  obtain ⟨cs, fuel, p, hc, hd⟩ := var_reads h (g := 26) (t := 286) (by kernel_rfl) (by kernel_rfl)
  have c3 : Tryz.prog.cellsOf 32 = 1 := by kernel_rfl
  obtain ⟨b, off, cap, rfl, hb, hel⟩ := slice_at (e := 32) (by kernel_rfl) hd (by omega) (by rw [c3]; decide)
  refine ⟨b, off, cap, hb, by rw [hc 0, hl]; rfl, fun j hj => ?_⟩
  obtain ⟨m, q, ce, _, hcc, ht⟩ := hel j _ (List.getElem?_eq_getElem (by omega))
  obtain ⟨f, rfl⟩ := trod_float Tryz.underlying32 ht
  have := hcc 0 _ rfl
  rw [c3, Nat.mul_one] at this
  exact ⟨f, this⟩
theorem rows_small : (Go.Pinned.pow10Rows.all fun x => decide (x.1 < 2 ^ 64) && decide (x.2 < 2 ^ 64)) = true := by decide +kernel
theorem g_tab {w : World} (h : VarReads Tryz.prog w "internal/strconv.pow10Tab" Go.Pinned.pow10Tab) : ∀ j, j < 1392 → ∃ x : Nat, x < 2 ^ 64 ∧ w.cell? ⟨27, j, none⟩ = some (.int .u64 (x : Int)) := by
  intro j hj
  obtain ⟨cs, fuel, p, hc, hd⟩ := var_reads h (g := 27) (t := 292) (by kernel_rfl) (by kernel_rfl)
  have c2 : Tryz.prog.cellsOf 291 = 2 := by kernel_rfl
  obtain ⟨m, d, q, h1, h2⟩ := array_elem (n := 696) (e := 291) (by kernel_rfl) hd (j / 2) (by omega)
  rw [List.getElem?_map] at h1
  obtain ⟨x, hx, rfl⟩ := Option.map_eq_some_iff.1 h1
  have hs := List.all_eq_true.1 rows_small x (List.mem_of_getElem? hx)
  simp only [Bool.and_eq_true, decide_eq_true_eq] at hs
  rw [c2] at h2
  have hget : ∀ r v, r < 2 → ((cs.drop (j / 2 * 2)).take 2)[r]? = some v → cs[j / 2 * 2 + r]? = some v := by
    intro r v hr hv
    rw [List.getElem?_take, if_pos hr, List.getElem?_drop] at hv
    exact hv
  rcases (show j % 2 = 0 ∨ j % 2 = 1 by omega) with hr | hr
  · refine ⟨x.1, hs.1, ?_⟩
    rw [hc j]
    have := hget 0 _ (by decide) (int_field (i := 0) Tryz.underlying291 h2 rfl rfl rfl (by kernel_rfl) (by kernel_rfl))
    rw [show j / 2 * 2 + 0 = j by omega] at this
    exact this
  · refine ⟨x.2, hs.2, ?_⟩
    rw [hc j]
    have := hget 1 _ (by decide) (int_field (i := 1) Tryz.underlying291 h2 rfl rfl rfl (by kernel_rfl) (by kernel_rfl))
    rw [show j / 2 * 2 + 1 = j by omega] at this
    exact this
theorem cheats_are : Go.Pinned.cheatRows = (List.range 61).map fun k => (deltas.getD k 0, five k) := by decide +kernel
theorem g_cheats {w : World} (h : VarReads Tryz.prog w "internal/strconv.leftcheats" Go.Pinned.leftcheats) :
    ∃ b off c, b < w.heap.size ∧ w.cell? ⟨28, 0, none⟩ = some (.slice (some ⟨b, off, none⟩) 61 c) ∧ ∀ k, k < 61 → w.cell? ⟨b, off + k * 2, none⟩ = some (.int .i64 ((deltas.getD k 0 : Nat) : Int)) ∧ w.cell? ⟨b, off + k * 2 + 1, none⟩ = some (.string (mkS (five k))) := by
  obtain ⟨cs, fuel, p, hc, hd⟩ := var_reads h (g := 28) (t := 298) (by kernel_rfl) (by kernel_rfl)
  unfold Go.Pinned.leftcheats at hd
  rw [cheats_are] at hd
  have c2 : Tryz.prog.cellsOf 297 = 2 := by kernel_rfl
  obtain ⟨b, off, cap, rfl, hb, hel⟩ := slice_at (e := 297) (by kernel_rfl) hd (by simp) (by rw [c2]; decide)
  refine ⟨b, off, cap, hb, by rw [hc 0]; simp, fun k hk => ?_⟩
  obtain ⟨m, q, ce, _, hcc, ht⟩ := hel k (.agg [.lit (.int .i64 ((deltas.getD k 0 : Nat) : Int)), .lit (.string (five k))]) (by rw [List.getElem?_map, List.getElem?_map, List.getElem?_range hk]; rfl)
  rw [c2] at hcc
  exact ⟨hcc 0 _ (int_field (i := 0) Tryz.underlying297 ht rfl rfl rfl (by kernel_rfl) (by kernel_rfl)), hcc 1 _ (string_field (i := 1) Tryz.underlying297 ht rfl rfl rfl (by kernel_rfl) (by kernel_rfl))⟩
theorem g_vch {w : World} (h : VarReads Tryz.prog w "pub-tetrapla/pub/gjson.vchars" (tabData .u8 ((List.range 256).map fun c => ((vcls (UInt8.ofNat c) : Nat) : Int)))) : Vch w := by
  obtain ⟨cs, fuel, p, hc, hd⟩ := var_reads h (g := 17) (t := 211) (by kernel_rfl) (by kernel_rfl)
  have e := cells_of_tab (n := 256) (e := 5) (by kernel_rfl) Tryz.underlying5 (by kernel_rfl) (by kernel_rfl) hd
  intro c
  rw [Addr.add_mid, Nat.zero_add, hc, e, List.getElem?_map, List.getElem?_map, List.getElem?_range c.toNat_lt]
  simp
theorem g_err {w : World} {name nm : String} {d : DataW Unit} {g : Nat} (h : VarReads Tryz.prog w name (.iface nm d)) (hn : Tryz.prog.globalNamed name = some g) (hy : (Tryz.prog.globals[g]?).map (·.type) = some 63) : ∃ t v, w.cell? ⟨g, 0, none⟩ = some (.iface t v) := by
  obtain ⟨cs, fuel, p, hc, hd⟩ := var_reads h hn hy
  obtain ⟨_, u, v, rfl, _⟩ := iface_of_trod Tryz.underlying63 hd
  exact ⟨u, v, by rw [hc 0]; rfl⟩
end Go.Sx
