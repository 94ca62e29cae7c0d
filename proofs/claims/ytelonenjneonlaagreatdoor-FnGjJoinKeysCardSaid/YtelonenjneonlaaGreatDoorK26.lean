/- Part 27 of the proof of FnGjJoinKeys: the statement Rows.FnGjJoinKeysCardSaid; no further condition. -/
import Derived.Test.YtelonenjneonlaaGreatDoorK25
import Derived.Test.YtelonenjneonlaaGreatDoorKz0
import Derived.ChangeMaps5
import Derived.LaidMore
import Derived.Lay
import Derived.OpenShut
import Derived.ProofKit
import Derived.SevenTiedAt
import Derived.Stop.Joined
import Derived.Test.YtelonenjneonlaaGreatDoorCards
import Derived.Test.YtelonenjneonlaaGreatDoorTie
set_option linter.all false
namespace Go.Proofs.YtelonenjneonlaaGreatDoor
open Go.ChangeShapes Go.WideShapes Go.ChangeAt Go.RowKit Go.Sx Go.Proofs Js Go.Lib
theorem own : ownKnob Tryz.prog.godebug = Option.none := by kernel_rfl
set_option maxRecDepth 100000 in
theorem glob_of_laid {w : World} (h : laidMetH Tryz.prog Rows.fnGjJoinKeysRow.laid w) : VchB w := by
  rw [MakeChecks.laidMetH_plain _ _ _ (by kernel_rfl)] at h
  have hlt : 30 < w.heap.size := by
    obtain ⟨cs, fuel, p, hc, hd⟩ := var_reads (Go.Lib.laidMet.reads h (n := "math/bits.deBruijn64tab") (List.mem_of_getElem? (i := 1) rfl)) (g := 30) (t := 127) (by kernel_rfl) (by kernel_rfl)
    obtain ⟨xs, m, _, ex, hl, _⟩ := DataW.trod_array (n := 64) (e := 5) (by kernel_rfl) hd
    have c : Tryz.prog.cellsOf 127 = 64 := by kernel_rfl
    rw [c] at hl
    have h0 := hc 0
    rw [List.getElem?_eq_getElem (by omega)] at h0
    rcases Nat.lt_or_ge 30 w.heap.size with h | h
    · exact h
    · simp [World.cell?, h] at h0
  obtain ⟨i1, i2, i3⟩ := g_info (Go.Lib.laidMet.reads h (n := "internal/strconv.float64info") (List.mem_of_getElem? (i := 3) rfl))
  exact ⟨g_vch (Go.Lib.laidMet.reads h (n := "pub-tetrapla/pub/gjson.vchars") (List.mem_of_getElem? (i := 11) rfl)), hlt, g_opt (Go.Lib.laidMet.reads h (n := "internal/strconv.optimize") (List.mem_of_getElem? (i := 4) rfl)), i1, i2, i3,
    g_powtab (Go.Lib.laidMet.reads h (n := "internal/strconv.powtab") (List.mem_of_getElem? (i := 5) rfl)), g_pow10 rfl (Go.Lib.laidMet.reads h (n := "internal/strconv.float64pow10") (List.mem_of_getElem? (i := 6) rfl)),
    g_tab (Go.Lib.laidMet.reads h (n := "internal/strconv.pow10Tab") (List.mem_of_getElem? (i := 13) rfl)), g_cheats (Go.Lib.laidMet.reads h (n := "internal/strconv.leftcheats") (List.mem_of_getElem? (i := 12) rfl)),
    g_err (Go.Lib.laidMet.reads h (n := "strconv.ErrRange") (List.mem_of_getElem? (i := 9) rfl)) (by kernel_rfl) (by kernel_rfl), g_err (Go.Lib.laidMet.reads h (n := "strconv.ErrSyntax") (List.mem_of_getElem? (i := 10) rfl)) (by kernel_rfl) (by kernel_rfl)⟩
set_option maxRecDepth 100000 in
theorem lifted (os : Os) (started : os.Started) (H : Type) (enc : TypeId × Value → H) :
    ReturnsInHanded {} Tryz.checked os 4 .any (fun w args => (Rows.fnGjJoinKeysSpec.pre enc Tryz.prog Tryz.f4 Rows.fnGjJoinKeysRow.domain false w args ∧ laidMetH Tryz.prog Rows.fnGjJoinKeysRow.laid w) ∧ sizedMet enc Tryz.prog Tryz.f4 (OpenSpec.ofChange Rows.fnGjJoinKeysSpec) false w args)
      (Rows.fnGjJoinKeysSpec.post enc Tryz.prog Tryz.f4 false true false false) := by
  refine returnsInHanded_of_change_and (C := Tryz.checked) (X := fun w _ => laidMetH Tryz.prog Rows.fnGjJoinKeysRow.laid w) (fun _ _ _ hh h => h.of_heap hh) own started (by kernel_rfl) Tryz.func4
    (ChangeSpec.witness_shaped (enc := enc) (C := Tryz.checked) (os := os) (X := fun w _ => laidMetH Tryz.prog Rows.fnGjJoinKeysRow.laid w) false (World.laidAll Tryz.prog os Rows.fnGjJoinKeysRow.laid) #[.string (mkS [])] 8 (World.laidAll_os _ _ _)
      (World.shaped_of_ZipB (by kernel_rfl) (by kernel_rfl)) (by kernel_rfl) (by kernel_rfl) (by kernel_rfl)
      (by rw [MakeChecks.laidMetH_plain _ _ _ (by kernel_rfl)]; exact laidMet_laidAll _ (by kernel_rfl) (by kernel_rfl))) ?_
  intro W base args ds gs before hval0 hW hc _ hL _
  have hval : ∀ (j : Nat) t v, Tryz.f4.params[j]? = some t → args[j]? = some v → Value.okWide Tryz.prog W .any base t v := hval0
  have hW' := hW
  obtain ⟨p, q, hA0, hV, rfl, _, _⟩ := hW
  have hA : DataW.TrodAll enc Tryz.prog W 0 (fun _ => true) true Tryz.f4.params.toList args.toList ds p := hA0
  rw [Tryz.params4] at hA hval
  obtain ⟨v0, d0, rfl, rfl, h0⟩ := trodAll_one hA
  obtain ⟨rfl, rfl⟩ := trodVars_none hV
  obtain ⟨s, rfl, rfl, rfl, hs⟩ := Go.ChangeMaps.open_string Tryz.underlying9 (hval 0 9 v0 rfl rfl) h0
  have es : s = mkS s.data.toList := by unfold mkS; cases s; simp
  have hwalk := joinKeysLaw_walk (T := s.data.toList) W (glob_of_laid hL)
  rw [← es] at hwalk
  refine hwalk.mono fun e W' he => ?_
  obtain ⟨v, rfl, rfl, hBe⟩ := he
  exact ⟨_, rfl, _, _, _, [], [], [], hW', trodAll_mk1 (shut_bool Tryz.underlying4 true), trodAll_mk1 (Go.ChangeMaps.shut_string Tryz.underlying9 hs), rfl, hBe.frame _, fun h => by cases h⟩
end Go.Proofs.YtelonenjneonlaaGreatDoor
