/- Part 30 of the proof of FnJrTyped: the statement Rows.FnJrTypedCardSaid; no further condition. -/
import Derived.Test.YtelonenjneonlaaGreatDoorR28
import Derived.Test.YtelonenjneonlaaGreatDoorRz0
import Derived.Carry
import Derived.ChangeMaps5
import Derived.LaidMore
import Derived.Lay
import Derived.OpenShut
import Derived.ProofKit
import Derived.SevenTiedAt
import Derived.SliceStrings
import Derived.Stop.Joined
import Derived.Test.YtelonenjneonlaaGreatDoorCards
import Derived.Test.YtelonenjneonlaaGreatDoorTie
set_option linter.all false
namespace Go.Proofs.YtelonenjneonlaaGreatDoor
open Go.ChangeShapes Go.WideShapes Go.ChangeAt Go.RowKit Go.Sx Go.Proofs Js Go.Lib
theorem own : ownKnob Tryz.prog.godebug = Option.none := by kernel_rfl
theorem laidOut : laidOutB Tryz.prog = true := by kernel_rfl
theorem cell_lt {w : World} {a : Addr} {v : Value} (h : w.cell? a = some v) : a.block < w.heap.size := by
  rcases Nat.lt_or_ge a.block w.heap.size with h1 | h1
  · exact h1
  · simp [World.cell?, h1] at h
set_option maxRecDepth 100000 in
theorem keys_open {H : Type} {enc : TypeId × Value → H} {W : World} {base : Nat} {v : Value} {d : DataW H} {p : List MemPlace} (hv : Value.okWide Tryz.prog W .any base 22 v) (h : DataW.Trod enc Tryz.prog W 0 (fun _ => true) true 22 v d p) :
    ∃ (ad : Option Addr) (kc : Nat) (ks : List Str), v = .slice ad ks.length kc ∧ KyB W.heap.size W ad kc ks ∧ ∀ x ∈ p, x.block < W.heap.size := by
  obtain ⟨a0, len, cap, rfl⟩ := okWide_slice Tryz.underlying22 hv
  obtain ⟨fuel, hf⟩ := h
  rcases open_strings Tryz.underlying22 Tryz.underlying9 c9 hf with ⟨hcs, hx⟩ | ⟨a, len', cap', ss, hcs, _, hl, hm, hz, hx, hcell, hsz⟩
  · simp [Value.cells] at hcs
    obtain ⟨rfl, rfl, rfl⟩ := hcs
    obtain ⟨_, rfl⟩ := Prod.mk.inj hx
    exact ⟨Option.none, 0, [], rfl, ⟨Nat.le_refl _, by simp, .inl rfl⟩, by simp⟩
  · simp [Value.cells] at hcs
    obtain ⟨rfl, rfl, rfl⟩ := hcs
    obtain ⟨_, rfl⟩ := Prod.mk.inj hx
    simp only [if_true] at hz
    have hmx : maxLen = 9223372036854775807 := by decide
    have hlen : ((ss.take len).map fun s => s.data.toList).length = len := by rw [List.length_map, List.length_take]; omega
    refine ⟨some a, cap, (ss.take len).map fun s => s.data.toList, by rw [hlen], ⟨by rw [hlen]; exact hl, by rw [hlen]; omega, ?_⟩, ?_⟩
    · rcases Nat.eq_zero_or_pos len with h0 | h0
      · left; rw [h0]; simp
      · right
        obtain ⟨g, ko, sp⟩ := a
        have h1 := hcell 0 (by omega)
        have e0 : (⟨g, ko, sp⟩ : Addr).add 0 = ⟨g, ko, sp⟩ := by simp [Addr.add]
        rw [e0] at h1
        obtain rfl : sp = Option.none := Go.Proofs.cell_spot h1
        refine ⟨g, ko, rfl, cell_lt h1, fun j s hj => ?_⟩
        rw [List.getElem?_map] at hj
        obtain ⟨t, ht, rfl⟩ := Option.map_eq_some_iff.1 hj
        rw [List.getElem?_take] at ht
        split at ht
        · next hjl =>
          have h2 := hcell j (by omega)
          rw [Addr.add_mid] at h2
          rw [h2, List.getD_eq_getElem?_getD, ht]
          have : mkS t.data.toList = t := by unfold mkS; cases t; simp
          rw [this]; rfl
        · cases ht
    · intro x hx
      obtain ⟨i, hi, rfl⟩ := List.mem_map.1 hx
      have h1 := cell_lt (hcell i (by simpa using hi))
      have e : (a.add i).block = a.block := by unfold Addr.add; split <;> rfl
      rw [e] at h1
      exact h1
set_option maxRecDepth 100000 in
theorem lifted (os : Os) (started : os.Started) (H : Type) (enc : TypeId × Value → H) :
    ReturnsInHanded {} Tryz.checked os 3 .any (fun w args => (Rows.fnJrTypedSpec.pre enc Tryz.prog Tryz.f3 Rows.fnJrTypedRow.domain false w args ∧ laidMetH Tryz.prog Rows.fnJrTypedRow.laid w) ∧ sizedMet enc Tryz.prog Tryz.f3 (OpenSpec.ofChange Rows.fnJrTypedSpec) false w args)
      (Rows.fnJrTypedSpec.post enc Tryz.prog Tryz.f3 false true false false) := by
  refine returnsInHanded_of_change_and (C := Tryz.checked) (X := fun w _ => laidMetH Tryz.prog Rows.fnJrTypedRow.laid w) (fun _ _ _ hh h => h.of_heap hh) own started (by kernel_rfl) Tryz.func3
    (ChangeSpec.witness_shaped (enc := enc) (C := Tryz.checked) (os := os) (X := fun w _ => laidMetH Tryz.prog Rows.fnJrTypedRow.laid w) false (World.laidAll Tryz.prog os Rows.fnJrTypedRow.laid) #[.string (mkS []), .slice Option.none 0 0] 8 (World.laidAll_os _ _ _)
      (World.shaped_of_ZipB (by kernel_rfl) (by kernel_rfl)) (by kernel_rfl) (by kernel_rfl) (by kernel_rfl)
      (by rw [MakeChecks.laidMetH_plain _ _ _ (by kernel_rfl)]; exact laidMet_laidAll _ (by kernel_rfl) (by kernel_rfl))) ?_
  intro W base args ds gs before hval0 hW hc _ hL _
  have hval : ∀ (j : Nat) t v, Tryz.f3.params[j]? = some t → args[j]? = some v → Value.okWide Tryz.prog W .any base t v := hval0
  have hW' := hW
  obtain ⟨p, q, hA0, hV, rfl, _, _⟩ := hW
  have hA : DataW.TrodAll enc Tryz.prog W 0 (fun _ => true) true Tryz.f3.params.toList args.toList ds p := hA0
  rw [Tryz.params3] at hA hval
  obtain ⟨v0, v1, d0, d1, p0, p1, rfl, rfl, rfl, h0, h1⟩ := trodAll_two hA
  obtain ⟨rfl, rfl⟩ := trodVars_none hV
  obtain ⟨s, rfl, rfl, rfl, hs⟩ := Go.ChangeMaps.open_string Tryz.underlying9 (hval 0 9 v0 rfl rfl) h0
  obtain ⟨ad, kc, ks, rfl, hk, hpl⟩ := keys_open (hval 1 22 v1 rfl rfl) h1
  have es : s = mkS s.data.toList := by unfold mkS; cases s; simp
  have hLp : laidMet Tryz.prog Rows.fnJrTypedRow.laid W := by rw [MakeChecks.laidMetH_plain _ _ _ (by kernel_rfl)] at hL; exact hL
  obtain ⟨ea, hJ⟩ := jb_of_laid hLp
  have hwalk := typed_walk (T := s.data.toList) W hJ (tabx_of_laid hLp) hk
  rw [← es] at hwalk
  refine hwalk.mono fun e W' he => ?_
  obtain ⟨v, rfl, rfl, hBe⟩ := he
  have h1' := Below.trod laidOut (by kernel_rfl) (of_decide_eq_true (by kernel_rfl)) h1 hBe hpl
  exact ⟨_, rfl, _, _, _, [], p1, [], hW', trodAll_mk1 (shut_bool Tryz.underlying4 true), trodAll_mk2 (p := []) (Go.ChangeMaps.shut_string Tryz.underlying9 hs) h1', rfl, hBe.frame _, fun h => by cases h⟩

end Go.Proofs.YtelonenjneonlaaGreatDoor