/- Part 3 of the proof of FnGjFlattenText: the statement Rows.FnGjFlattenTextCardSaid; no further condition. -/
import Derived.Test.YtelonenjneonlaaGreatDoorQ02
set_option linter.all false
set_option linter.unusedVariables false
namespace Js
def vcls (c : UInt8) : Nat := if c = 34 then 2 else if c = 123 ∨ c = 91 ∨ c = 40 then 3 else if c = 125 ∨ c = 93 ∨ c = 41 then 1 else 0
def Quo (i : Str) : Prop := trail i % 2 = 0 ∧ ∀ p r, i = p ++ 34 :: r → trail p % 2 = 1
theorem Ins.quo {i : Str} (h : Ins i) : Quo i := ⟨h.even, fun _ _ e => h.odd e⟩
inductive Nest : Nat → Str → Nat → Prop where
  | plain {d : Nat} {c : UInt8} {s : Str} {k : Nat} (hc : vcls c = 0) (h : Nest d s k) : Nest d (c :: s) (k + 1)
  | str {d : Nat} {i s : Str} {k : Nat} (hi : Quo i) (h : Nest d s k) : Nest d (34 :: (i ++ 34 :: s)) (i.length + 2 + k)
  | opn {d : Nat} {c : UInt8} {s : Str} {k : Nat} (hc : vcls c = 3) (h : Nest (d + 1) s k) : Nest d (c :: s) (k + 1)
  | cls {d : Nat} {c : UInt8} {s : Str} {k : Nat} (hc : vcls c = 1) (h : Nest (d + 1) s k) : Nest (d + 2) (c :: s) (k + 1)
  | last {c : UInt8} {s : Str} (hc : vcls c = 1) : Nest 1 (c :: s) 1
theorem Nest.pos {d : Nat} {s : Str} {k : Nat} (h : Nest d s k) : 0 < k := by
  cases h <;> omega
theorem nest_plain : ∀ (t : Str), (∀ c ∈ t, vcls c = 0) → ∀ {d : Nat} {s : Str} {k : Nat}, Nest d s k → Nest d (t ++ s) (t.length + k)
  | [], _, d, s, k, h => by simpa using h
  | c :: t, ht, d, s, k, h => by
    have := nest_plain t (fun x hx => ht x (by simp [hx])) h
    have := Nest.plain (ht c (by simp)) this
    simpa [Nat.add_right_comm, Nat.add_assoc, Nat.add_comm] using this
theorem bl_vcls {w : Str} (hw : Bl w) : ∀ c ∈ w, vcls c = 0 := by
  intro c hc
  have := hw c hc
  simp only [isBlank, Bool.or_eq_true, beq_iff_eq] at this
  rcases this with ((rfl | rfl) | rfl) | rfl <;> decide
theorem dig_ne {c : UInt8} (h : isDig c = true) : vcls c = 0 := by
  unfold vcls
  have hn : ∀ d : UInt8, isDig d = false → c ≠ d := fun d hd => isDig_ne h hd
  rw [if_neg (hn 34 (by decide)), if_neg, if_neg]
  · rintro (h1 | h1 | h1) <;> exact hn _ (by decide) h1
  · rintro (h1 | h1 | h1) <;> exact hn _ (by decide) h1
theorem exp_chars {s r : Str} (h : pExp s = some r) : ∃ t, s = t ++ r ∧ ∀ c ∈ t, numc c = true := by
  by_cases h1 : s.head? = some 101 ∨ s.head? = some 69
  · obtain ⟨c, s, rfl, hc⟩ : ∃ c s', s = c :: s' ∧ (c = 101 ∨ c = 69) := by
      cases s with
      | nil => simp at h1
      | cons c s => exact ⟨c, s, rfl, by simpa using h1⟩
    have hcn : numc c = true := by rcases hc with rfl | rfl <;> decide
    rw [pExp_head c hc] at h
    have key : ∀ (p : Str) (u : Str), (∀ x ∈ p, numc x = true) → pDigits u = some r → ∃ t, c :: (p ++ u) = t ++ r ∧ ∀ x ∈ t, numc x = true := by
      intro p u hp hu
      obtain ⟨d, rfl, _, hd, _⟩ := pDigits_some hu
      refine ⟨c :: (p ++ d), by simp, ?_⟩
      intro x hx
      simp only [List.mem_cons, List.mem_append] at hx
      rcases hx with rfl | hx | hx
      · exact hcn
      · exact hp x hx
      · exact numc_dig (hd x hx)
    cases h43 : pTake 43 s with
    | some s1 =>
      rw [h43] at h
      obtain rfl := pTake_some.1 h43
      exact key [43] s1 (by decide) h
    | none =>
      rw [h43] at h
      cases h45 : pTake 45 s with
      | some s1 =>
        rw [h45] at h
        obtain rfl := pTake_some.1 h45
        exact key [45] s1 (by decide) h
      | none =>
        rw [h45] at h
        exact key [] s (by simp) h
  · rw [pExp_none (fun h => h1 (.inl h)) (fun h => h1 (.inr h))] at h
    obtain rfl := Option.some.inj h
    exact ⟨[], rfl, by simp⟩
theorem frac_chars {s r : Str} (h : pFrac s = some r) : ∃ t, s = t ++ r ∧ ∀ c ∈ t, numc c = true := by
  unfold pFrac at h
  cases h46 : pTake 46 s with
  | some s1 =>
    rw [h46] at h
    obtain rfl := pTake_some.1 h46
    obtain ⟨s2, hd, he⟩ := Option.bind_eq_some_iff.1 h
    obtain ⟨d, rfl, _, hdd, _⟩ := pDigits_some hd
    obtain ⟨t, rfl, ht⟩ := exp_chars he
    refine ⟨46 :: (d ++ t), by simp, ?_⟩
    intro x hx
    simp only [List.mem_cons, List.mem_append] at hx
    rcases hx with rfl | hx | hx
    · decide
    · exact numc_dig (hdd x hx)
    · exact ht x hx
  | none => rw [h46] at h; exact exp_chars h
theorem num0_chars {s r : Str} (h : pNum0 s = some r) : ∃ t, s = t ++ r ∧ ∀ c ∈ t, numc c = true := by
  unfold pNum0 at h
  cases h48 : pTake 48 s with
  | some s1 =>
    rw [h48] at h
    obtain rfl := pTake_some.1 h48
    obtain ⟨t, rfl, ht⟩ := frac_chars h
    refine ⟨48 :: t, rfl, ?_⟩
    intro x hx
    rcases List.mem_cons.1 hx with rfl | hx
    · decide
    · exact ht x hx
  | none =>
    rw [h48] at h
    obtain ⟨s2, hd, he⟩ := Option.bind_eq_some_iff.1 h
    obtain ⟨d, rfl, _, hdd, _⟩ := pDigits_some hd
    obtain ⟨t, rfl, ht⟩ := frac_chars he
    refine ⟨d ++ t, by simp, ?_⟩
    intro x hx
    rcases List.mem_append.1 hx with hx | hx
    · exact numc_dig (hdd x hx)
    · exact ht x hx
theorem IsNum.chars {t : Str} (h : IsNum t) : ∀ c ∈ t, numc c = true := by
  unfold IsNum at h
  rw [pNum_eq] at h
  cases h45 : pTake 45 t with
  | some s1 =>
    rw [h45] at h
    obtain rfl := pTake_some.1 h45
    obtain ⟨u, hu, hc⟩ := num0_chars (s := s1) h
    rw [List.append_nil] at hu
    subst hu
    intro x hx
    rcases List.mem_cons.1 hx with rfl | hx
    · decide
    · exact hc x hx
  | none =>
    rw [h45] at h
    obtain ⟨u, hu, hc⟩ := num0_chars (s := t) h
    rw [List.append_nil] at hu
    subst hu
    exact hc
theorem numc_vcls {c : UInt8} (h : numc c = true) : vcls c = 0 := by
  simp only [numc, Bool.or_eq_true, beq_iff_eq] at h
  rcases h with ((((h | rfl) | rfl) | rfl) | rfl) | rfl
  · exact dig_ne h
  all_goals decide
theorem nest_it {t : Str} {it : It} (h : Shows t it) : ∀ {d : Nat} {s : Str} {k : Nat}, Nest (d + 1) s k → Nest (d + 1) (t ++ s) (t.length + k) := by
  induction h with
  | nul => exact nest_plain _ (by decide)
  | fls => exact nest_plain _ (by decide)
  | tru => exact nest_plain _ (by decide)
  | num h => exact nest_plain _ (fun c hc => numc_vcls (IsNum.chars h c hc))
  | @str i h =>
    intro d s k hs
    have := Nest.str h.quo hs
    have e : 34 :: i ++ [34] ++ s = 34 :: (i ++ 34 :: s) := by simp
    rw [e]
    have e2 : (34 :: i ++ [34]).length + k = i.length + 2 + k := by simp
    rw [e2]; exact this
  | @arr0 w h =>
    intro d s k hs
    have := Nest.opn (c := 91) (by decide) (nest_plain w (bl_vcls h) (Nest.cls (c := 93) (by decide) hs))
    have e : 91 :: w ++ [93] ++ s = 91 :: (w ++ 93 :: s) := by simp
    rw [e]
    have e2 : (91 :: w ++ [93]).length + k = w.length + (k + 1) + 1 := by simp; omega
    rw [e2]; exact this
  | @arr t l h ih =>
    intro d s k hs
    have := Nest.opn (c := 91) (by decide) (ih (Nest.cls (c := 93) (by decide) hs))
    have e : 91 :: t ++ [93] ++ s = 91 :: (t ++ 93 :: s) := by simp
    rw [e]
    have e2 : (91 :: t ++ [93]).length + k = t.length + (k + 1) + 1 := by simp; omega
    rw [e2]; exact this
  | @obj0 w h =>
    intro d s k hs
    have := Nest.opn (c := 123) (by decide) (nest_plain w (bl_vcls h) (Nest.cls (c := 125) (by decide) hs))
    have e : 123 :: w ++ [125] ++ s = 123 :: (w ++ 125 :: s) := by simp
    rw [e]
    have e2 : (123 :: w ++ [125]).length + k = w.length + (k + 1) + 1 := by simp; omega
    rw [e2]; exact this
  | @obj t ks l h ih =>
    intro d s k hs
    have := Nest.opn (c := 123) (by decide) (ih (Nest.cls (c := 125) (by decide) hs))
    have e : 123 :: t ++ [125] ++ s = 123 :: (t ++ 125 :: s) := by simp
    rw [e]
    have e2 : (123 :: t ++ [125]).length + k = t.length + (k + 1) + 1 := by simp; omega
    rw [e2]; exact this
  | @e1 w1 t w2 n h1 h h2 ih =>
    intro d s k hs
    have := nest_plain w1 (bl_vcls h1) (ih (nest_plain w2 (bl_vcls h2) hs))
    have e2 : (w1 ++ t ++ w2).length + k = w1.length + (t.length + (w2.length + k)) := by simp; omega
    rw [e2]; simpa using this
  | @e2 w1 t w2 r n l h1 h h2 hr ih ih2 =>
    intro d s k hs
    have := nest_plain w1 (bl_vcls h1) (ih (nest_plain w2 (bl_vcls h2) (Nest.plain (c := 44) (by decide) (ih2 hs))))
    have e2 : (w1 ++ t ++ w2 ++ 44 :: r).length + k = w1.length + (t.length + (w2.length + (r.length + k + 1))) := by simp; omega
    rw [e2]; simpa using this
  | @m1 w1 i w2 w3 t w4 n h1 hi h2 h3 h h4 ih =>
    intro d s k hs
    have := nest_plain w1 (bl_vcls h1) (Nest.str hi.quo (nest_plain w2 (bl_vcls h2) (Nest.plain (c := 58) (by decide) (nest_plain w3 (bl_vcls h3) (ih (nest_plain w4 (bl_vcls h4) hs))))))
    have e2 : (w1 ++ (34 :: i ++ [34]) ++ w2 ++ 58 :: w3 ++ t ++ w4).length + k = w1.length + (i.length + 2 + (w2.length + (w3.length + (t.length + (w4.length + k)) + 1))) := by simp; omega
    rw [e2]; simpa using this
  | @m2 w1 i w2 w3 t w4 r n ks l h1 hi h2 h3 h h4 hr ih ih2 =>
    intro d s k hs
    have := nest_plain w1 (bl_vcls h1) (Nest.str hi.quo (nest_plain w2 (bl_vcls h2) (Nest.plain (c := 58) (by decide) (nest_plain w3 (bl_vcls h3) (ih (nest_plain w4 (bl_vcls h4) (Nest.plain (c := 44) (by decide) (ih2 hs))))))))
    have e2 : (w1 ++ (34 :: i ++ [34]) ++ w2 ++ 58 :: w3 ++ t ++ w4 ++ 44 :: r).length + k = w1.length + (i.length + 2 + (w2.length + (w3.length + (t.length + (w4.length + (r.length + k + 1))) + 1))) := by simp; omega
    rw [e2]; simpa using this
theorem nest_value {t : Str} {k : Nat} {txt : Str} {ks : List Str} {l : List Nd} (h : Shows t (.v (.mk k txt ks l))) (hk : k = 5 ∨ k = 6) :
    ∃ c t', t = c :: t' ∧ vcls c = 3 ∧ ∀ s, Nest 1 (t' ++ s) t'.length := by
  cases h with
  | nul => simp at hk
  | fls => simp at hk
  | tru => simp at hk
  | num => simp at hk
  | str => simp at hk
  | @arr0 w h =>
    refine ⟨91, w ++ [93], rfl, by decide, fun s => ?_⟩
    have := nest_plain w (bl_vcls h) (Nest.last (c := 93) (s := s) (by decide))
    simpa using this
  | @arr t l h =>
    refine ⟨91, t ++ [93], rfl, by decide, fun s => ?_⟩
    have := nest_it h (d := 0) (Nest.last (c := 93) (s := s) (by decide))
    simpa using this
  | @obj0 w h =>
    refine ⟨123, w ++ [125], rfl, by decide, fun s => ?_⟩
    have := nest_plain w (bl_vcls h) (Nest.last (c := 125) (s := s) (by decide))
    simpa using this
  | @obj t ks l h =>
    refine ⟨123, t ++ [125], rfl, by decide, fun s => ?_⟩
    have := nest_it h (d := 0) (Nest.last (c := 125) (s := s) (by decide))
    simpa using this
end Js
set_option linter.unusedVariables false
namespace Js
def tr (T : Str) (a p : Nat) : Nat := trail ((T.drop a).take (p - a))
theorem tr_self (T : Str) (a : Nat) : tr T a a = 0 := by simp [tr, trail, trailFrom]
theorem tr_next {T : Str} {a p : Nat} {c : UInt8} (h : a ≤ p) (hc : T[p]? = some c) : tr T a (p + 1) = if c = 92 then tr T a p + 1 else 0 := by
  unfold tr
  have e : p + 1 - a = (p - a) + 1 := by omega
  have hx : (T.drop a)[p - a]? = some c := by rw [List.getElem?_drop]; rw [show a + (p - a) = p by omega]; exact hc
  rw [e, List.take_add_one, hx]
  exact trail_snoc _ c
theorem tr_run {T : Str} {a : Nat} : ∀ (m p : Nat), a + m ≤ p → (∀ x, x < m → T[p - 1 - x]? = some 92) → tr T a p = tr T a (p - m) + m
  | 0, p, _, _ => rfl
  | m + 1, p, h, hx => by
    have h1 := tr_run (T := T) (a := a) m p (by omega) (fun x hl => hx x (by omega))
    have h2 := hx m (Nat.lt_succ_self m)
    have e : p - m = (p - 1 - m) + 1 := by omega
    have h3 : a ≤ p - 1 - m := by omega
    rw [h1, e, tr_next h3 h2, if_pos rfl, show p - (m + 1) = p - 1 - m by omega]
    omega
theorem tr_stop {T : Str} {a p : Nat} {c : UInt8} (h : a < p) (hc : T[p - 1]? = some c) (hn : c ≠ 92) : tr T a p = 0 := by
  have e : p = (p - 1) + 1 := by omega
  rw [e, tr_next (by omega) hc, if_neg hn]
theorem drop_cons {T : Str} {i : Nat} {c : UInt8} (h : T[i]? = some c) : T.drop i = c :: T.drop (i + 1) := by
  obtain ⟨hl, he⟩ := List.getElem?_eq_some_iff.1 h
  rw [List.drop_eq_getElem_cons hl, he]
theorem vcls_le (c : UInt8) : vcls c ≤ 3 := by unfold vcls; (repeat' split) <;> omega
theorem eq_t {c d : UInt8} {z : Int} (hz : z = (d.toNat : Int)) (h : ((c.toNat : Int) == z) = true) : c = d := by
  have := eq_of_beq h
  exact UInt8.toNat_inj.1 (by omega)
theorem eq_f {c d : UInt8} {z : Int} (hz : z = (d.toNat : Int)) (h : ((c.toNat : Int) == z) = false) : c ≠ d := by
  rintro rfl
  rw [hz] at h
  simp at h
theorem ne_t {c d : UInt8} {z : Int} (hz : z = (d.toNat : Int)) (h : ((c.toNat : Int) != z) = true) : c ≠ d := by
  rintro rfl
  rw [hz] at h
  simp at h
theorem ne_f {c d : UInt8} {z : Int} (hz : z = (d.toNat : Int)) (h : ((c.toNat : Int) != z) = false) : c = d := by
  have : (c.toNat : Int) = z := by simpa using h
  exact UInt8.toNat_inj.1 (by omega)
structure At (T : Str) (d i E : Nat) : Prop where
  nest : Nest d (T.drop i) (E - i)
  lt : i < E
  depth : 0 < d
  le : E ≤ T.length
theorem At.get {T : Str} {d i E : Nat} (h : At T d i E) : ∃ c, T[i]? = some c := ⟨_, List.getElem?_eq_getElem (by have := h.lt; have := h.le; omega)⟩
theorem At.small {T : Str} {d i E : Nat} (h : At T d i E) : i < T.length := by have := h.lt; have := h.le; omega
theorem At.plain {T : Str} {d i E : Nat} {c : UInt8} (h : At T d i E) (hc : T[i]? = some c) (h0 : vcls c = 0) : At T d (i + 1) E := by
  have h1 := h.nest
  rw [drop_cons hc] at h1
  have h2 := h.lt
  generalize he : E - i = k at h1
  generalize hs : T.drop (i + 1) = s at h1
  cases h1 with
  | plain _ h3 => exact ⟨by rw [hs, show E - (i + 1) = E - i - 1 by omega, he]; exact h3, by have := h3.pos; omega, h.depth, h.le⟩
  | str _ _ => exact absurd h0 (by decide)
  | opn h3 _ => rw [h0] at h3; exact absurd h3 (by decide)
  | cls h3 _ => rw [h0] at h3; exact absurd h3 (by decide)
  | last h3 => rw [h0] at h3; exact absurd h3 (by decide)
theorem At.opn {T : Str} {d i E : Nat} {c : UInt8} (h : At T d i E) (hc : T[i]? = some c) (h0 : vcls c = 3) : At T (d + 1) (i + 1) E := by
  have h1 := h.nest
  rw [drop_cons hc] at h1
  have h2 := h.lt
  generalize he : E - i = k at h1
  generalize hs : T.drop (i + 1) = s at h1
  cases h1 with
  | plain h3 _ => rw [h0] at h3; exact absurd h3 (by decide)
  | str _ _ => exact absurd h0 (by decide)
  | opn _ h3 => exact ⟨by rw [hs, show E - (i + 1) = E - i - 1 by omega, he]; exact h3, by have := h3.pos; omega, Nat.succ_pos _, h.le⟩
  | cls h3 _ => rw [h0] at h3; exact absurd h3 (by decide)
  | last h3 => rw [h0] at h3; exact absurd h3 (by decide)
theorem At.cls {T : Str} {d i E : Nat} {c : UInt8} (h : At T d i E) (hc : T[i]? = some c) (h0 : vcls c = 1) : (d = 1 ∧ i + 1 = E) ∨ (1 < d ∧ At T (d - 1) (i + 1) E) := by
  have h1 := h.nest
  rw [drop_cons hc] at h1
  have h2 := h.lt
  have h4 := h.le
  generalize he : E - i = k at h1
  generalize hs : T.drop (i + 1) = s at h1
  cases h1 with
  | plain h3 _ => rw [h0] at h3; exact absurd h3 (by decide)
  | str _ _ => exact absurd h0 (by decide)
  | opn h3 _ => rw [h0] at h3; exact absurd h3 (by decide)
  | cls _ h3 => exact .inr ⟨by omega, by rw [hs, show E - (i + 1) = E - i - 1 by omega, he]; exact h3, by have := h3.pos; omega, by omega, h4⟩
  | last _ => exact .inl ⟨rfl, by omega⟩
structure InStr (T : Str) (d a q E : Nat) : Prop where
  le : a ≤ q
  pos : 0 < a
  opens : T[a - 1]? = some 34
  ends : T[q]? = some 34
  even : tr T a q % 2 = 0
  odd : ∀ p, a ≤ p → p < q → T[p]? = some 34 → tr T a p % 2 = 1
  more : At T d (q + 1) E
theorem At.str {T : Str} {d i E : Nat} {c : UInt8} (h : At T d i E) (hc : T[i]? = some c) (h0 : vcls c = 2) : c = 34 ∧ ∃ q, InStr T d (i + 1) q E := by
  have hc34 : c = 34 := by
    unfold vcls at h0
    split at h0
    · assumption
    · split at h0
      · simp at h0
      · split at h0 <;> simp at h0
  subst hc34
  refine ⟨rfl, ?_⟩
  have h1 := h.nest
  have hd := drop_cons hc
  rw [hd] at h1
  have h2 := h.lt
  have h4 := h.le
  generalize he : E - i = k at h1
  generalize hs : T.drop (i + 1) = s at h1
  cases h1 with
  | plain h3 _ => exact absurd h3 (by decide)
  | opn h3 _ => exact absurd h3 (by decide)
  | cls h3 _ => exact absurd h3 (by decide)
  | last h3 => exact absurd h3 (by decide)
  | @str _ ins s' k' hq h3 =>
    have hp := h3.pos
    have hget : ∀ x, T[i + 1 + x]? = (ins ++ 34 :: s')[x]? := by intro x; rw [← hs, List.getElem?_drop]
    have htr : ∀ p, p ≤ ins.length → tr T (i + 1) (i + 1 + p) = trail (ins.take p) := by
      intro p hp
      unfold tr
      rw [hs, show i + 1 + p - (i + 1) = p by omega, List.take_append_of_le_length hp]
    refine ⟨i + 1 + ins.length, by omega, by omega, by rw [Nat.add_sub_cancel]; exact hc, by rw [hget]; simp, by rw [htr _ (Nat.le_refl _), List.take_length]; exact hq.1, ?_, ?_, by omega, h.depth, h4⟩
    · intro p h5 h6 h7
      obtain ⟨x, rfl⟩ : ∃ x, p = i + 1 + x := ⟨p - (i + 1), by omega⟩
      have hx : x < ins.length := by omega
      rw [htr x (by omega)]
      rw [hget, List.getElem?_append_left hx] at h7
      obtain ⟨hl, hv⟩ := List.getElem?_eq_some_iff.1 h7
      refine hq.2 (ins.take x) (ins.drop (x + 1)) ?_
      rw [← hv, List.getElem_cons_drop, List.take_append_drop]
    · have e : T.drop (i + 1 + ins.length + 1) = s' := by
        rw [show i + 1 + ins.length + 1 = (i + 1) + (ins.length + 1) by omega, ← List.drop_drop, hs]
        rw [show ins.length + 1 = (ins ++ [34]).length by simp, show ins ++ 34 :: s' = (ins ++ [34]) ++ s' by simp, List.drop_left]
      rw [e, show E - (i + 1 + ins.length + 1) = k' by omega]; exact h3
theorem InStr.small {T : Str} {d a q E : Nat} (h : InStr T d a q E) : q + 1 < T.length := by have := h.more.lt; have := h.more.le; omega
theorem InStr.bare {T : Str} {d a q E p : Nat} {c : UInt8} (h : InStr T d a q E) (h1 : a ≤ p) (h2 : p ≤ q) (h3 : T[p]? = some 34) (h4 : T[p - 1]? = some c) (h5 : c ≠ 92) : p = q := by
  rcases Nat.lt_or_eq_of_le h2 with hl | e
  · have ho := h.odd p h1 hl h3
    rcases Nat.lt_or_eq_of_le h1 with hl1 | e1
    · rw [tr_stop hl1 h4 h5] at ho; simp at ho
    · subst e1; rw [tr_self] at ho; simp at ho
  · exact e
theorem InStr.evenEnd {T : Str} {d a q E p : Nat} (h : InStr T d a q E) (h1 : a ≤ p) (h2 : p ≤ q) (h3 : T[p]? = some 34) (h4 : tr T a p % 2 = 0) : p = q := by
  rcases Nat.lt_or_eq_of_le h2 with hl | e
  · have ho := h.odd p h1 hl h3; omega
  · exact e
theorem InStr.oddGo {T : Str} {d a q E p : Nat} (h : InStr T d a q E) (h1 : a ≤ p) (h2 : p ≤ q) (h4 : tr T a p % 2 = 1) : p < q := by
  rcases Nat.lt_or_eq_of_le h2 with hl | e
  · exact hl
  · subst e; have := h.even; omega
theorem InStr.step {T : Str} {d a q E p : Nat} {c : UInt8} (h : InStr T d a q E) (h2 : p ≤ q) (h3 : T[p]? = some c) (h4 : c ≠ 34) : p + 1 ≤ q := by
  rcases Nat.lt_or_eq_of_le h2 with hl | e
  · exact hl
  · subst e; rw [h.ends] at h3; exact absurd (Option.some.inj h3).symm h4
theorem InStr.get {T : Str} {d a q E p : Nat} (h : InStr T d a q E) (h2 : p ≤ q) : ∃ c, T[p]? = some c := ⟨_, List.getElem?_eq_getElem (by have := h.small; omega)⟩
end Js
set_option linter.unusedVariables false
namespace Js
theorem seg_get {T t r : Str} {p j : Nat} (h : T.drop p = t ++ r) (hj : j < t.length) : T[p + j]? = t[j]? := by
  rw [← List.getElem?_drop, h, List.getElem?_append_left hj]
theorem seg_take {T t r : Str} {p : Nat} (h : T.drop p = t ++ r) : (T.drop p).take t.length = t := by rw [h, List.take_left]
theorem seg_len {T t r : Str} {p : Nat} (h : T.drop p = t ++ r) (h0 : t ≠ []) : p + t.length ≤ T.length := by
  have := congrArg List.length h
  have h1 : 0 < t.length := List.length_pos_iff.2 h0
  simp at this
  omega
theorem seg_next {T t r : Str} {p : Nat} (h : T.drop p = t ++ r) : T[p + t.length]? = r.head? := by
  rw [← List.getElem?_drop, h, List.getElem?_append_right (Nat.le_refl _), Nat.sub_self]
  cases r <;> rfl
theorem seg_end {T t r : Str} {p : Nat} (h : T.drop p = t ++ r) (h0 : t ≠ []) (he : T.length ≤ p + t.length) : r = [] := by
  have := congrArg List.length h
  have h1 : 0 < t.length := List.length_pos_iff.2 h0
  simp at this
  exact List.length_eq_zero_iff.1 (by omega)
theorem seg_more {T t r : Str} {p : Nat} (h : T.drop p = t ++ r) : T.drop (p + t.length) = r := by rw [← List.drop_drop, h, List.drop_left]
theorem seg_stop {T t r : Str} {p i : Nat} {c : UInt8} (stop : UInt8 → Prop) (h : T.drop p = t ++ r) (ht : ∀ j c, 0 < j → t[j]? = some c → ¬ stop c) (hr : ∀ c, r.head? = some c → stop c)
    (h1 : p < i) (h2 : i ≤ p + t.length) (hc : T[i]? = some c) : stop c ↔ i = p + t.length := by
  rcases Nat.lt_or_eq_of_le h2 with hl | he
  · have e : T[p + (i - p)]? = t[i - p]? := seg_get h (by omega)
    rw [show p + (i - p) = i by omega, hc] at e
    have := ht (i - p) c (by omega) e.symm
    exact ⟨fun hs => absurd hs this, fun he => by omega⟩
  · subst he
    rw [seg_next h] at hc
    exact ⟨fun _ => rfl, fun _ => hr c hc⟩
theorem beq_t {c d : UInt8} {z : Int} (hz : z = (d.toNat : Int)) (h : c = d) : ((c.toNat : Int) == z) = true := by subst h; rw [hz]; simp
theorem beq_f {c d : UInt8} {z : Int} (hz : z = (d.toNat : Int)) (h : c ≠ d) : ((c.toNat : Int) == z) = false := by
  have : ¬ (c.toNat : Int) = z := fun e => h (UInt8.toNat_inj.1 (by omega))
  simpa using this
theorem beq_dec {c d : UInt8} {z : Int} (hz : z = (d.toNat : Int)) : ((c.toNat : Int) == z) = decide (c = d) := by
  by_cases h : c = d
  · rw [beq_t hz h, decide_eq_true h]
  · rw [beq_f hz h, decide_eq_false h]
theorem bne_t {c d : UInt8} {z : Int} (hz : z = (d.toNat : Int)) (h : c ≠ d) : ((c.toNat : Int) != z) = true := by
  rw [bne, beq_f hz h]; rfl
def numEnd (c : UInt8) : Prop := c.toNat ≤ 32 ∨ c = 44 ∨ c = 93 ∨ c = 125
theorem numEnd_cases (c : UInt8) : c.toNat ≤ 32 ∨ (32 < c.toNat ∧ c = 44) ∨ (32 < c.toNat ∧ c ≠ 44 ∧ c = 93) ∨ (32 < c.toNat ∧ c ≠ 44 ∧ c ≠ 93 ∧ c = 125) ∨ (32 < c.toNat ∧ c ≠ 44 ∧ c ≠ 93 ∧ c ≠ 125 ∧ ¬ numEnd c) := by
  unfold numEnd
  by_cases h1 : c.toNat ≤ 32
  · exact .inl h1
  · have h1' : 32 < c.toNat := by omega
    by_cases h2 : c = 44
    · exact .inr (.inl ⟨h1', h2⟩)
    · by_cases h3 : c = 93
      · exact .inr (.inr (.inl ⟨h1', h2, h3⟩))
      · by_cases h4 : c = 125
        · exact .inr (.inr (.inr (.inl ⟨h1', h2, h3, h4⟩)))
        · exact .inr (.inr (.inr (.inr ⟨h1', h2, h3, h4, fun h => by rcases h with h | h | h | h; omega; exact h2 h; exact h3 h; exact h4 h⟩)))
structure Qt (T : Str) (a q : Nat) : Prop where
  le : a ≤ q
  pos : 0 < a
  opens : T[a - 1]? = some 34
  ends : T[q]? = some 34
  even : tr T a q % 2 = 0
  odd : ∀ p, a ≤ p → p < q → T[p]? = some 34 → tr T a p % 2 = 1
theorem Qt.mk' {T i r : Str} {p : Nat} (h : T.drop p = (34 :: i ++ [34]) ++ r) (hq : Quo i) : Qt T (p + 1) (p + 1 + i.length) := by
  have h1 : T.drop (p + 1) = i ++ (34 :: r) := by rw [← List.drop_drop, h]; simp
  have hget : ∀ x, T[p + 1 + x]? = (i ++ 34 :: r)[x]? := by intro x; rw [← h1, List.getElem?_drop]
  have htr : ∀ x, x ≤ i.length → tr T (p + 1) (p + 1 + x) = trail (i.take x) := by
    intro x hx
    unfold tr
    rw [h1, show p + 1 + x - (p + 1) = x by omega, List.take_append_of_le_length hx]
  refine ⟨by omega, by omega, ?_, by rw [hget]; simp, by rw [htr _ (Nat.le_refl _), List.take_length]; exact hq.1, ?_⟩
  · have := seg_get h (j := 0) (by simp)
    simpa using this
  · intro x h5 h6 h7
    obtain ⟨y, rfl⟩ : ∃ y, x = p + 1 + y := ⟨x - (p + 1), by omega⟩
    have hy : y < i.length := by omega
    rw [htr y (by omega)]
    rw [hget, List.getElem?_append_left hy] at h7
    obtain ⟨hl, hv⟩ := List.getElem?_eq_some_iff.1 h7
    refine hq.2 (i.take y) (i.drop (y + 1)) ?_
    rw [← hv, List.getElem_cons_drop, List.take_append_drop]
theorem Qt.small {T : Str} {a q : Nat} (h : Qt T a q) : q < T.length := (List.getElem?_eq_some_iff.1 h.ends).1
theorem Qt.bare {T : Str} {a q p : Nat} {c : UInt8} (h : Qt T a q) (h1 : a ≤ p) (h2 : p ≤ q) (h3 : T[p]? = some 34) (h4 : T[p - 1]? = some c) (h5 : c ≠ 92) : p = q := by
  rcases Nat.lt_or_eq_of_le h2 with hl | e
  · have ho := h.odd p h1 hl h3
    rcases Nat.lt_or_eq_of_le h1 with hl1 | e1
    · rw [tr_stop hl1 h4 h5] at ho; simp at ho
    · subst e1; rw [tr_self] at ho; simp at ho
  · exact e
theorem Qt.evenEnd {T : Str} {a q p : Nat} (h : Qt T a q) (h1 : a ≤ p) (h2 : p ≤ q) (h3 : T[p]? = some 34) (h4 : tr T a p % 2 = 0) : p = q := by
  rcases Nat.lt_or_eq_of_le h2 with hl | e
  · have ho := h.odd p h1 hl h3; omega
  · exact e
theorem Qt.oddGo {T : Str} {a q p : Nat} (h : Qt T a q) (h2 : p ≤ q) (h4 : tr T a p % 2 = 1) : p < q := by
  rcases Nat.lt_or_eq_of_le h2 with hl | e
  · exact hl
  · subst e; have := h.even; omega
theorem Qt.step {T : Str} {a q p : Nat} {c : UInt8} (h : Qt T a q) (h2 : p ≤ q) (h3 : T[p]? = some c) (h4 : c ≠ 34) : p + 1 ≤ q := by
  rcases Nat.lt_or_eq_of_le h2 with hl | e
  · exact hl
  · subst e; rw [h.ends] at h3; exact absurd (Option.some.inj h3).symm h4
theorem Qt.get {T : Str} {a q p : Nat} (h : Qt T a q) (h2 : p ≤ q) : ∃ c, T[p]? = some c := ⟨_, List.getElem?_eq_getElem (by have := h.small; omega)⟩
theorem Qt.run {T : Str} {a q p m : Nat} (h : Qt T a q) (h1 : a ≤ p) (hrun : ∀ x, x < m → T[p - 1 - x]? = some 92) (hm : m < p) : a + m ≤ p := by
  rcases Nat.lt_or_ge p (a + m) with hl | hg
  · have := hrun (p - a) (by omega)
    rw [show p - 1 - (p - a) = a - 1 by have := h.pos; omega, h.opens] at this
    exact absurd this (by decide)
  · exact hg
theorem tr_none {T : Str} {a : Nat} : ∀ (p : Nat), a ≤ p → (∀ x, a ≤ x → x < p → T[x]? ≠ some 92) → p ≤ T.length → tr T a p = 0
  | 0, h, _, _ => by rw [show a = 0 by omega, tr_self]
  | p + 1, h, hx, hl => by
    rcases Nat.lt_or_eq_of_le h with h1 | h1
    · have hc : T[p]? = some (T[p]'(by omega)) := List.getElem?_eq_getElem (by omega)
      rw [tr_next (by omega) hc, if_neg (fun e => hx p (by omega) (by omega) (by rw [hc, e]))]
    · rw [← h1, tr_self]
theorem noesc {T s r : Str} {p a q : Nat} (h : T.drop p = (34 :: s ++ [34]) ++ r) (ha : p + 1 = a) (hq : a + s.length = q) (hno : ∀ x, a ≤ x → x < q → T[x]? ≠ some 92) (c : UInt8) (hc : c ∈ s) : c ≠ 92 := by
  rintro rfl
  obtain ⟨j, hj⟩ := List.mem_iff_getElem?.1 hc
  have hl : j < s.length := (List.getElem?_eq_some_iff.1 hj).1
  have e := seg_get h (j := j + 1) (by simp; omega)
  refine hno (p + (j + 1)) (by omega) (by omega) ?_
  rw [e]
  simp only [List.cons_append, List.getElem?_cons_succ]
  rw [List.getElem?_append_left hl]
  exact hj
end Js
set_option linter.unusedVariables false
namespace Js
def Ink (c : UInt8) : Prop := 32 < c.toNat ∧ c.toNat < 128
theorem blank_small {c : UInt8} (h : isBlank c = true) : c.toNat = 9 ∨ c.toNat = 10 ∨ c.toNat = 13 ∨ c.toNat = 32 := by
  simp only [isBlank, Bool.or_eq_true, beq_iff_eq] at h
  rcases h with ((rfl | rfl) | rfl) | rfl <;> decide
theorem trim_head {u m w2 : Str} (hu : Bl u) (hm : ∀ c, m.head? = some c → Ink c) (h0 : m = [] → w2 = []) (hl : 0 < (u ++ m ++ w2).length) :
    ∃ c rest, u ++ m ++ w2 = c :: rest ∧ c.toNat < 128 ∧ ((isBlank c = true ∧ ∃ u', Bl u' ∧ rest = u' ++ m ++ w2 ∧ u = c :: u') ∨ (32 < c.toNat ∧ u = [])) := by
  cases u with
  | cons c u' =>
    refine ⟨c, u' ++ m ++ w2, rfl, ?_, .inl ⟨hu c (by simp), u', fun x hx => hu x (by simp [hx]), rfl, rfl⟩⟩
    have := blank_small (hu c (by simp))
    omega
  | nil =>
    cases m with
    | nil => rw [h0 rfl] at hl; simp at hl
    | cons c m' => exact ⟨c, m' ++ w2, rfl, (hm c rfl).2, .inr ⟨(hm c rfl).1, rfl⟩⟩
theorem trim_last {m v : Str} (hv : Bl v) (hm : ∀ c, m.getLast? = some c → Ink c) (hl : 0 < (m ++ v).length) :
    ∃ c rest, m ++ v = rest ++ [c] ∧ c.toNat < 128 ∧ ((isBlank c = true ∧ ∃ v', Bl v' ∧ rest = m ++ v') ∨ (32 < c.toNat ∧ v = [])) := by
  rcases List.eq_nil_or_concat v with rfl | ⟨v', c, rfl⟩
  · rcases List.eq_nil_or_concat m with rfl | ⟨m', c, rfl⟩
    · simp at hl
    · have h := hm c (by simp)
      exact ⟨c, m', by simp, h.2, .inr ⟨h.1, rfl⟩⟩
  · have hb := hv c (by simp)
    refine ⟨c, m ++ v', by simp, ?_, .inl ⟨hb, v', fun x hx => hv x (by simp [hx]), rfl⟩⟩
    have := blank_small hb
    omega
end Js
set_option linter.unusedVariables false
namespace Js
def hv (c : UInt8) : Nat := (hexVal c).getD 0
def hexN (l : Str) : Nat := l.foldl (fun n c => n * 16 + hv c) 0
theorem hexN_snoc (l : Str) (c : UInt8) : hexN (l ++ [c]) = hexN l * 16 + hv c := by simp [hexN]
def IsHex (c : UInt8) : Prop := (hexVal c).isSome = true
theorem hex_cases {c : UInt8} (h : IsHex c) : (48 ≤ c.toNat ∧ c.toNat ≤ 57 ∧ hv c = c.toNat - 48) ∨ (c.toNat ≠ 95 ∧ 57 < c.toNat ∧ 97 ≤ (c.toNat ||| 32) ∧ (c.toNat ||| 32) ≤ 102 ∧ hv c = (c.toNat ||| 32) - 97 + 10) := by
  have h2 : ∀ x : Nat, 97 ≤ x → x ≤ 102 → (x ||| 32) = x := by
    intro x h1 h2
    have : x = 97 ∨ x = 98 ∨ x = 99 ∨ x = 100 ∨ x = 101 ∨ x = 102 := by omega
    rcases this with rfl | rfl | rfl | rfl | rfl | rfl <;> rfl
  have h3 : ∀ x : Nat, 65 ≤ x → x ≤ 70 → (x ||| 32) = x + 32 := by
    intro x h1 h2
    have : x = 65 ∨ x = 66 ∨ x = 67 ∨ x = 68 ∨ x = 69 ∨ x = 70 := by omega
    rcases this with rfl | rfl | rfl | rfl | rfl | rfl <;> rfl
  unfold IsHex hexVal at h
  unfold hv hexVal
  by_cases h4 : 48 ≤ c.toNat ∧ c.toNat ≤ 57
  · exact .inl ⟨h4.1, h4.2, by rw [if_pos h4]; rfl⟩
  · rw [if_neg h4] at h ⊢
    by_cases h5 : 97 ≤ c.toNat ∧ c.toNat ≤ 102
    · rw [if_pos h5, h2 _ h5.1 h5.2]
      exact .inr ⟨by omega, by omega, h5.1, h5.2, rfl⟩
    · rw [if_neg h5] at h ⊢
      by_cases h6 : 65 ≤ c.toNat ∧ c.toNat ≤ 70
      · rw [if_pos h6, h3 _ h6.1 h6.2]
        exact .inr ⟨by omega, by omega, by omega, by omega, by simp only [Option.getD_some]; omega⟩
      · rw [if_neg h6] at h
        simp at h
theorem hv_lt {c : UInt8} (h : IsHex c) : hv c < 16 := by
  rcases hex_cases h with ⟨_, _, h⟩ | ⟨_, _, h1, h2, h3⟩ <;> omega
theorem hexN_lt' : ∀ (l : Str) (n : Nat), (∀ c ∈ l, IsHex c) → l.foldl (fun n c => n * 16 + hv c) n < (n + 1) * 16 ^ l.length
  | [], n, _ => by simp
  | c :: l, n, h => by
    have h1 := hexN_lt' l (n * 16 + hv c) (fun x hx => h x (by simp [hx]))
    have h2 := hv_lt (h c (by simp))
    simp only [List.foldl_cons, List.length_cons]
    refine Nat.lt_of_lt_of_le h1 ?_
    rw [Nat.pow_succ, Nat.mul_comm (16 ^ l.length) 16, ← Nat.mul_assoc]
    exact Nat.mul_le_mul_right _ (by omega)
theorem hexN_lt (l : Str) (h : ∀ c ∈ l, IsHex c) : hexN l < 16 ^ l.length := by
  have := hexN_lt' l 0 h
  simpa [hexN] using this
end Js
set_option linter.unusedVariables false
namespace Js
def pair (x y : Nat) : Nat := if high x && low y then 0x10000 + (x - 0xd800) * 0x400 + (y - 0xdc00) else 0xfffd
theorem pair_or {x y : Nat} (hy : y < 1024) : x * 1024 ||| y = x * 1024 + y := by
  have := Nat.shiftLeft_add_eq_or_of_lt (i := 10) (b := y) (by simpa using hy) x
  rw [Nat.shiftLeft_eq] at this
  exact this.symm
theorem or_c0 {m : Nat} (h : m < 32) : 192 ||| m = 192 + m := by
  have : ∀ m, m < 32 → 192 ||| m = 192 + m := by decide
  exact this m h
theorem or_e0 {m : Nat} (h : m < 16) : 224 ||| m = 224 + m := by
  have : ∀ m, m < 16 → 224 ||| m = 224 + m := by decide
  exact this m h
theorem or_f0 {m : Nat} (h : m < 8) : 240 ||| m = 240 + m := by
  have : ∀ m, m < 8 → 240 ||| m = 240 + m := by decide
  exact this m h
theorem or_80 {m : Nat} (h : m < 64) : 128 ||| m = 128 + m := by
  have : ∀ m, m < 64 → 128 ||| m = 128 + m := by decide
  exact this m h
theorem and_3f (m : Nat) : (m % 256) &&& 63 = m % 64 := by
  have := Nat.and_two_pow_sub_one_eq_mod (m % 256) 6
  rw [show 2 ^ 6 - 1 = 63 from rfl] at this
  rw [this]
  omega
theorem byte_nat {m : Nat} (h : m < 256) : ((m.toUInt8).toNat : Int) = (m : Int) := by
  congr 1
  simp [Nat.toUInt8, UInt8.toNat_ofNat']
  omega
end Js
set_option linter.unusedVariables false
namespace Js
theorem ins_cases {t : Str} (h : Ins t) : t = [] ∨ (∃ c r, t = c :: r ∧ 32 ≤ c.toNat ∧ c ≠ 92 ∧ Ins r) ∨ (∃ d r, t = 92 :: d :: r ∧ escLetter d = true ∧ Ins r) ∨
    (∃ a b c d r, t = 92 :: 117 :: a :: b :: c :: d :: r ∧ (∀ x ∈ [a, b, c, d], IsHex x) ∧ Ins r) := by
  unfold Ins at h
  cases t with
  | nil => exact .inl rfl
  | cons c i =>
    rw [List.cons_append, pStr_cons] at h
    split at h
    · simp at h
    · rename_i h34
      split at h
      · simp at h
      · rename_i h32
        split at h
        · rename_i h92; subst h92
          obtain ⟨s1, h4, h5⟩ := Option.bind_eq_some_iff.1 h
          rcases esc_take h4 with ⟨d, hd, hl⟩ | ⟨t, ht, hl, hx⟩
          · cases i with
            | nil =>
              simp only [List.nil_append, List.cons.injEq] at hd
              rw [← hd.2] at h5; rw [pStr_nil] at h5; simp at h5
            | cons d' i =>
              simp only [List.cons_append, List.cons.injEq] at hd
              obtain ⟨rfl, rfl⟩ := hd
              exact .inr (.inr (.inl ⟨_, _, rfl, hl, h5⟩))
          · have hlen : 5 ≤ i.length := by
              have hs1 : s1 ≠ [] := by rintro rfl; rw [pStr_nil] at h5; simp at h5
              have := congrArg List.length ht
              have h6 : 0 < s1.length := List.length_pos_iff.2 hs1
              simp [hl] at this; omega
            obtain ⟨i', rfl, hs⟩ : ∃ i', i = 117 :: t ++ i' ∧ s1 = i' ++ [34] := by
              have e1 : (117 :: t).length = 5 := by simp [hl]
              have h1 : i.take 5 = 117 :: t := by
                have := congrArg (List.take 5) ht
                rw [List.take_append_of_le_length hlen] at this
                rw [this, ← e1, List.take_left]
              have h2 : i.drop 5 ++ [34] = s1 := by
                have := congrArg (List.drop 5) ht
                rw [List.drop_append_of_le_length hlen] at this
                rw [this, ← e1, List.drop_left]
              exact ⟨i.drop 5, by rw [← h1, List.take_append_drop], h2.symm⟩
            subst hs
            obtain ⟨a, b, c, d, rfl⟩ : ∃ a b c d, t = [a, b, c, d] := by
              match t, hl with
              | [a, b, c, d], _ => exact ⟨a, b, c, d, rfl⟩
            exact .inr (.inr (.inr ⟨a, b, c, d, i', rfl, hx, h5⟩))
        · rename_i h92
          exact .inr (.inl ⟨c, i, rfl, by omega, h92, h⟩)
theorem hex4_hexN {a b c d : UInt8} (h : ∀ x ∈ [a, b, c, d], IsHex x) : hex4 a b c d = some (hexN [a, b, c, d]) := by
  have e : ∀ x, IsHex x → hexVal x = some (hv x) := fun x hx => by
    unfold IsHex at hx; unfold hv
    cases hh : hexVal x with
    | none => rw [hh] at hx; simp at hx
    | some v => rfl
  unfold hex4
  rw [e a (h a (by simp)), e b (h b (by simp)), e c (h c (by simp)), e d (h d (by simp))]
  simp [hexN]
inductive Prd : Str → Prop where
  | nil : Prd []
  | plain {c : UInt8} {r : Str} (hc : c ≠ 92) (h : Prd r) : Prd (c :: r)
  | esc {d : UInt8} {r : Str} (hd : d ≠ 117) (h : Prd r) : Prd (92 :: d :: r)
  | uni {a b c d : UInt8} {r : Str} {n : Nat} (hn : hex4 a b c d = some n) (h1 : high n = false) (h2 : low n = false) (h : Prd r) : Prd (92 :: 117 :: a :: b :: c :: d :: r)
  | pair {a b c d a' b' c' d' : UInt8} {r : Str} {n m : Nat} (hn : hex4 a b c d = some n) (hm : hex4 a' b' c' d' = some m) (h1 : high n = true) (h2 : low m = true) (h : Prd r) :
      Prd (92 :: 117 :: a :: b :: c :: d :: 92 :: 117 :: a' :: b' :: c' :: d' :: r)
theorem unq_cons {c : UInt8} (hc : c ≠ 92) (r : Str) : unq (c :: r) = c :: unq r := by rw [unq, if_neg hc]
theorem unit_esc {d : UInt8} (hd : d ≠ 117) (r : Str) : unit (92 :: d :: r) = none := by
  unfold unit
  split
  · rename_i h; simp only [List.cons.injEq, true_and] at h; exact absurd h.1 hd
  · rfl
theorem unq_esc {d : UInt8} (hd : d ≠ 117) (r : Str) : unq (92 :: d :: r) = short d :: unq r := by
  rw [unq, if_pos rfl]
  split
  · rfl
  · rename_i n h; rw [unit_esc hd] at h; simp at h
theorem unq_uni {a b c d : UInt8} {n : Nat} (hn : hex4 a b c d = some n) (r : Str) (h : high n = false ∨ ∀ m, unit r = some m → low m = false) : unq (92 :: 117 :: a :: b :: c :: d :: r) = enc n ++ unq r := by
  rw [unq, if_pos rfl]
  split
  · rename_i h0; simp only [unit] at h0; rw [hn] at h0; simp at h0
  · rename_i n' h0
    simp only [unit] at h0
    rw [hn] at h0
    obtain rfl := Option.some.inj h0
    simp only [List.drop_succ_cons, List.drop_zero]
    split
    · rfl
    · rename_i m hm
      rcases h with h | h
      · rw [h]; simp
      · rw [h m hm]; simp
theorem unq_pair {a b c d a' b' c' d' : UInt8} {n m : Nat} (hn : hex4 a b c d = some n) (hm : hex4 a' b' c' d' = some m) (h1 : high n = true) (h2 : low m = true) (r : Str) :
    unq (92 :: 117 :: a :: b :: c :: d :: 92 :: 117 :: a' :: b' :: c' :: d' :: r) = enc (0x10000 + (n - 0xd800) * 0x400 + (m - 0xdc00)) ++ unq r := by
  rw [unq, if_pos rfl]
  split
  · rename_i h0; simp only [unit] at h0; rw [hn] at h0; simp at h0
  · rename_i n' h0
    simp only [unit] at h0
    rw [hn] at h0
    obtain rfl := Option.some.inj h0
    simp only [List.drop_succ_cons, List.drop_zero, unit, hm, h1, h2, Bool.and_self, if_true]
end Js
set_option linter.unusedVariables false
namespace Js
structure Un (s : Str) (i : Nat) (out : Str) : Prop where
  ins : Ins (s.drop i)
  le : i ≤ s.length
  len : out.length ≤ i
  eq : Prd s → Prd (s.drop i) ∧ unq s = out ++ unq (s.drop i)
theorem Un.start {s : Str} (h : Ins s) : Un s 0 [] := ⟨h, Nat.zero_le _, Nat.le_refl _, fun hp => ⟨hp, rfl⟩⟩
theorem Un.done {s out : Str} (h : Un s s.length out) (hp : Prd s) : out = unq s := by
  have := (h.eq hp).2
  rw [List.drop_length, show unq [] = [] from by rw [unq], List.append_nil] at this
  exact this.symm
theorem drop_of {s t u : Str} {i : Nat} (h : s.drop i = t ++ u) : s.drop (i + t.length) = u := by rw [← List.drop_drop, h, List.drop_left]
theorem le_of {s t u : Str} {i : Nat} (h : s.drop i = t ++ u) (h0 : t ≠ []) : i + t.length ≤ s.length := seg_len h h0
theorem Un.plain {s out r : Str} {i : Nat} {c : UInt8} (h : Un s i out) (ht : s.drop i = c :: r) (hc : c ≠ 92) (hr : Ins r) : Un s (i + 1) (out ++ [c]) := by
  have hd : s.drop (i + 1) = r := drop_of (t := [c]) ht
  refine ⟨by rw [hd]; exact hr, le_of (t := [c]) ht (by simp), by have := h.len; simp; omega, fun hp => ?_⟩
  obtain ⟨h1, h2⟩ := h.eq hp
  rw [ht] at h1 h2
  rw [hd]
  refine ⟨?_, by rw [h2, unq_cons hc]; simp⟩
  cases h1 with
  | plain _ h => exact h
  | _ => exact absurd rfl hc
theorem Un.esc {s out r : Str} {i : Nat} {d : UInt8} (h : Un s i out) (ht : s.drop i = 92 :: d :: r) (hd : d ≠ 117) (hr : Ins r) : Un s (i + 1 + 1) (out ++ [short d]) := by
  have hdr : s.drop (i + 1 + 1) = r := drop_of (t := [92, d]) ht
  refine ⟨by rw [hdr]; exact hr, le_of (t := [92, d]) ht (by simp), by have := h.len; simp; omega, fun hp => ?_⟩
  obtain ⟨h1, h2⟩ := h.eq hp
  rw [ht] at h1 h2
  rw [hdr]
  refine ⟨?_, by rw [h2, unq_esc hd]; simp⟩
  cases h1 with
  | plain hc _ => exact absurd rfl hc
  | esc _ h => exact h
  | _ => exact absurd rfl hd
theorem enc_len (n : Nat) : (enc n).length ≤ 4 := by unfold enc; (repeat' split) <;> simp
theorem Un.uni {s out r : Str} {i n : Nat} {a b c d : UInt8} (h : Un s i out) (ht : s.drop i = 92 :: 117 :: a :: b :: c :: d :: r) (hn : hex4 a b c d = some n) (hr : Ins r)
    (hs : (high n || low n) = false ∨ unit r = none) : Un s (i + 6) (out ++ enc n) := by
  have hdr : s.drop (i + 6) = r := drop_of (t := [92, 117, a, b, c, d]) ht
  refine ⟨by rw [hdr]; exact hr, le_of (t := [92, 117, a, b, c, d]) ht (by simp), by have := h.len; have := enc_len n; simp; omega, fun hp => ?_⟩
  obtain ⟨h1, h2⟩ := h.eq hp
  rw [ht] at h1 h2
  rw [hdr]
  cases h1 with
  | plain hc _ => exact absurd rfl hc
  | esc hd _ => exact absurd rfl hd
  | uni hn' h3 h4 h5 =>
    rw [hn] at hn'
    obtain rfl := Option.some.inj hn'
    exact ⟨h5, by rw [h2, unq_uni hn _ (.inl h3)]; simp⟩
  | pair hn' hm h3 h4 h5 =>
    rw [hn] at hn'
    obtain rfl := Option.some.inj hn'
    rcases hs with hs | hs
    · rw [h3] at hs; simp at hs
    · have := hs
      simp only [unit] at this
      rw [hm] at this
      simp at this
theorem Un.pair {s out r : Str} {i n m : Nat} {a b c d a' b' c' d' : UInt8} (h : Un s i out) (ht : s.drop i = 92 :: 117 :: a :: b :: c :: d :: 92 :: 117 :: a' :: b' :: c' :: d' :: r) (hn : hex4 a b c d = some n) (hm : hex4 a' b' c' d' = some m) (hr : Ins r)
    (hs : (high n || low n) = true) : Un s (i + 12) (out ++ enc (Js.pair n m)) := by
  have hdr : s.drop (i + 12) = r := drop_of (t := [92, 117, a, b, c, d, 92, 117, a', b', c', d']) ht
  refine ⟨by rw [hdr]; exact hr, le_of (t := [92, 117, a, b, c, d, 92, 117, a', b', c', d']) ht (by simp), by have := h.len; have := enc_len (Js.pair n m); simp; omega, fun hp => ?_⟩
  obtain ⟨h1, h2⟩ := h.eq hp
  rw [ht] at h1 h2
  rw [hdr]
  cases h1 with
  | plain hc _ => exact absurd rfl hc
  | esc hd _ => exact absurd rfl hd
  | uni hn' h3 h4 h5 =>
    rw [hn] at hn'
    obtain rfl := Option.some.inj hn'
    rw [h3, h4] at hs
    simp at hs
  | pair hn' hm' h3 h4 h5 =>
    rw [hn] at hn'
    rw [hm] at hm'
    obtain rfl := Option.some.inj hn'
    obtain rfl := Option.some.inj hm'
    refine ⟨h5, ?_⟩
    rw [h2, unq_pair hn hm h3 h4]
    have : Js.pair n m = 0x10000 + (n - 0xd800) * 0x400 + (m - 0xdc00) := by unfold Js.pair; rw [h3, h4]; rfl
    rw [this]
    simp
theorem unit_next {r : Str} (h : Ins r) : (6 ≤ r.length ∧ ∃ a b c d r', r = 92 :: 117 :: a :: b :: c :: d :: r' ∧ (∀ x ∈ [a, b, c, d], IsHex x) ∧ Ins r') ∨ (unit r = none ∧ (r.length < 6 ∨ (∃ x r', r = x :: r' ∧ x ≠ 92) ∨ (∃ y r', r = 92 :: y :: r' ∧ y ≠ 117))) := by
  rcases ins_cases h with rfl | ⟨c, r', rfl, _, hc, _⟩ | ⟨d, r', rfl, hd, _⟩ | ⟨a, b, c, d, r', rfl, hx, hr⟩
  · exact .inr ⟨rfl, .inl (by simp)⟩
  · refine .inr ⟨?_, .inr (.inl ⟨c, r', rfl, hc⟩)⟩
    unfold unit
    split
    · rename_i he; simp only [List.cons.injEq] at he; exact absurd he.1 hc
    · rfl
  · have : d ≠ 117 := by rintro rfl; exact absurd hd (by decide)
    exact .inr ⟨unit_esc this _, .inr (.inr ⟨d, r', rfl, this⟩)⟩
  · exact .inl ⟨by simp, a, b, c, d, r', rfl, hx, hr⟩
theorem next_cases {r : Str} (h : Ins r) : (∃ a b c d r', r = 92 :: 117 :: a :: b :: c :: d :: r' ∧ (∀ x ∈ [a, b, c, d], IsHex x) ∧ Ins r') ∨ (unit r = none ∧ r.length < 6) ∨ (unit r = none ∧ 6 ≤ r.length ∧ ∃ x r', r = x :: r' ∧ x ≠ 92) ∨ (unit r = none ∧ 6 ≤ r.length ∧ ∃ y r', r = 92 :: y :: r' ∧ y ≠ 117) := by
  rcases unit_next h with ⟨_, h1⟩ | ⟨h1, h2⟩
  · exact .inl h1
  · rcases Nat.lt_or_ge r.length 6 with h3 | h3
    · exact .inr (.inl ⟨h1, h3⟩)
    · rcases h2 with h2 | h2 | h2
      · omega
      · exact .inr (.inr (.inl ⟨h1, h3, h2⟩))
      · exact .inr (.inr (.inr ⟨h1, h3, h2⟩))
theorem esc_117 {d : UInt8} (h : escLetter d = true) : d ≠ 117 := by rintro rfl; exact absurd h (by decide)
end Js
set_option linter.unusedVariables false
namespace Js
def kG : Nat → Int
  | 0 => 0 | 1 => 1 | 2 => 4 | 3 => 2 | 4 => 3 | _ => 5
inductive Form (t : Str) : Nat → Prop where
  | nul (h : t = [110, 117, 108, 108]) : Form t 0
  | fls (h : t = [102, 97, 108, 115, 101]) : Form t 1
  | tru (h : t = [116, 114, 117, 101]) : Form t 2
  | num (h : IsNum t) : Form t 3
  | str {i : Str} (h : t = 34 :: i ++ [34]) (hi : Ins i) : Form t 4
  | brk {c : UInt8} {t' : Str} {k : Nat} (hk : k = 5 ∨ k = 6) (h : t = c :: t') (hc : c = 91 ∨ c = 123) (hn : ∀ s, Nest 1 (t' ++ s) t'.length) : Form t k
theorem shows_form {t : Str} {k : Nat} {txt : Str} {ks : List Str} {l : List Nd} (h : Shows t (.v (.mk k txt ks l))) : Form t k := by
  have hb : k = 5 ∨ k = 6 → (∃ c t', t = c :: t' ∧ (c = 91 ∨ c = 123)) → Form t k := by
    rintro hk ⟨c, t', rfl, hc⟩
    obtain ⟨c', t'', he, _, hn⟩ := nest_value h hk
    injection he with h1 h2
    subst h1; subst h2
    exact .brk hk rfl hc hn
  cases h with
  | nul => exact .nul rfl
  | fls => exact .fls rfl
  | tru => exact .tru rfl
  | num h => exact .num h
  | str h => exact .str rfl h
  | arr0 => exact hb (.inl rfl) ⟨_, _, rfl, .inl rfl⟩
  | arr => exact hb (.inl rfl) ⟨_, _, rfl, .inl rfl⟩
  | obj0 => exact hb (.inr rfl) ⟨_, _, rfl, .inr rfl⟩
  | obj => exact hb (.inr rfl) ⟨_, _, rfl, .inr rfl⟩
theorem Form.at {T t t' r : Str} {p : Nat} {c : UInt8} (h : T.drop p = t ++ r) (ht : t = c :: t') (hn : ∀ s, Nest 1 (t' ++ s) t'.length) : At T 1 (p + 1) (p + t.length) := by
  subst ht
  have hd : T.drop (p + 1) = t' ++ r := by rw [← List.drop_drop, h]; rfl
  have hl := seg_len h (by simp)
  have h1 := hn r
  have hp := h1.pos
  simp only [List.length_cons] at hl ⊢
  exact ⟨by rw [hd, show p + (t'.length + 1) - (p + 1) = t'.length by omega]; exact h1, by omega, by omega, hl⟩
theorem num_not_end {c : UInt8} (h : numc c = true) : ¬ numEnd c := by
  intro he
  simp only [numc, isDig, Bool.or_eq_true, Bool.and_eq_true, decide_eq_true_eq, beq_iff_eq] at h
  rcases he with he | he | he | he
  · rcases h with ((((h | h) | h) | h) | h) | h
    · omega
    all_goals subst h; exact absurd he (by decide)
  all_goals subst he; rcases h with ((((h | h) | h) | h) | h) | h <;> first | exact absurd h (by decide) | exact absurd h.1 (by decide)
theorem num_head {t : Str} (h : IsNum t) : ∃ c t', t = c :: t' ∧ (c = 45 ∨ isDig c = true) := by
  obtain ⟨c, h1, h2⟩ := h.head
  cases t with
  | nil => simp at h1
  | cons d t' => simp only [List.head?_cons, Option.some.injEq] at h1; subst h1; exact ⟨_, _, rfl, h2⟩
theorem numEnd_word {c : UInt8} (h : numEnd c) : c.toNat < 97 ∨ 122 < c.toNat := by
  rcases h with h | rfl | rfl | rfl
  · omega
  all_goals decide
end Js
set_option linter.unusedVariables false
namespace Js
def Sep (w : Str) : Prop := ∀ c ∈ w, c.toNat ≤ 32 ∨ c = 44 ∨ c = 58
inductive Rest : Str → List (Str × Nat) → Prop where
  | done0 : Rest [] []
  | done {w : Str} (hw : Sep w) : Rest (w ++ [93]) []
  | more {w t u : Str} {k : Nat} {c : UInt8} {ts : List (Str × Nat)} (hw : Sep w) (ht : Form t k) (hc : numEnd c) (hu : Rest u ts) : Rest (w ++ t ++ c :: u) ((t, k) :: ts)
theorem Rest.sep {u w : Str} {ts : List (Str × Nat)} (h : Rest u ts) (hw : Sep w) (h0 : u ≠ []) : Rest (w ++ u) ts := by
  have hs : ∀ {w w' : Str}, Sep w → Sep w' → Sep (w ++ w') := fun h1 h2 c hc => by
    rcases List.mem_append.1 hc with hc | hc
    · exact h1 c hc
    · exact h2 c hc
  cases h with
  | done0 => exact absurd rfl h0
  | @done w' hw' => rw [← List.append_assoc]; exact .done (hs hw hw')
  | @more w' t u k c ts hw' ht hc hu =>
    rw [show w ++ (w' ++ t ++ c :: u) = (w ++ w') ++ t ++ c :: u by simp]
    exact .more (hs hw hw') ht hc hu
theorem bl_sep {w : Str} (h : Bl w) : Sep w := fun c hc => by
  have := blank_small (h c hc)
  omega
theorem bl_end {c : UInt8} (h : isBlank c = true) : numEnd c := by
  have := blank_small h
  exact .inl (by omega)
def Nd.kind : Nd → Nat
  | .mk k _ _ _ => k
theorem shows_form' {t : Str} {n : Nd} (h : Shows t (.v n)) : Form t n.kind := by
  cases n with
  | mk k txt ks l => exact shows_form h
theorem rest_of {t : Str} {it : It} (h : Shows t it) : ∀ l : List Nd, it = .e l → ∃ ts : List Str, ts.length = l.length ∧ (∀ (j : Nat) (x : Str) (n : Nd), ts[j]? = some x → l[j]? = some n → Shows x (.v n)) ∧ Rest (t ++ [93]) (ts.zip (l.map Nd.kind)) := by
  induction h with
  | @e1 w1 t w2 n h1 h h2 ih =>
    rintro l ⟨⟩
    refine ⟨[t], rfl, ?_, ?_⟩
    · intro j x m hx hm
      cases j with
      | zero => simp at hx hm; subst hx; subst hm; exact h
      | succ j => simp at hx
    · simp only [List.map_cons, List.map_nil, List.zip_cons_cons, List.zip_nil_left]
      cases w2 with
      | nil => rw [List.append_nil]; exact .more (bl_sep h1) (shows_form' h) (.inr (.inr (.inl rfl))) .done0
      | cons c w2 =>
        rw [show w1 ++ t ++ c :: w2 ++ [93] = w1 ++ t ++ c :: (w2 ++ [93]) by simp]
        exact .more (bl_sep h1) (shows_form' h) (bl_end (h2 c (by simp))) (.done (bl_sep fun x hx => h2 x (by simp [hx])))
  | @e2 w1 t w2 r n l' h1 h h2 hr ih ih2 =>
    rintro l ⟨⟩
    obtain ⟨ts, hl, hsh, hre⟩ := ih2 l' rfl
    refine ⟨t :: ts, by simp [hl], ?_, ?_⟩
    · intro j x m hx hm
      cases j with
      | zero => simp at hx hm; subst hx; subst hm; exact h
      | succ j => simp at hx hm; exact hsh j x m hx hm
    · simp only [List.map_cons, List.zip_cons_cons]
      have hne : r ++ [93] ≠ [] := by simp
      cases w2 with
      | nil =>
        rw [List.append_nil, show w1 ++ t ++ 44 :: r ++ [93] = w1 ++ t ++ 44 :: (r ++ [93]) by simp]
        exact .more (bl_sep h1) (shows_form' h) (.inr (.inl rfl)) hre
      | cons c w2 =>
        rw [show w1 ++ t ++ c :: w2 ++ 44 :: r ++ [93] = w1 ++ t ++ c :: ((w2 ++ [44]) ++ (r ++ [93])) by simp]
        refine .more (bl_sep h1) (shows_form' h) (bl_end (h2 c (by simp))) (hre.sep ?_ hne)
        intro x hx
        rcases List.mem_append.1 hx with hx | hx
        · exact bl_sep (fun y hy => h2 y (by simp [hy])) x hx
        · rw [List.mem_singleton.1 hx]; exact .inr (.inl rfl)
  | _ => intro l hl; cases hl
end Js
namespace Js
theorem Rest.len {u : Str} {ts : List (Str × Nat)} (h : Rest u ts) : ts.length ≤ u.length := by
  induction h with
  | done0 => exact Nat.le_refl _
  | done _ => simp
  | more _ _ _ _ ih => simp; omega
theorem Rest.nil {ts : List (Str × Nat)} (h : Rest [] ts) : ts = [] := by
  generalize hu : ([] : Str) = u at h
  cases h with
  | done0 => rfl
  | done _ => simp at hu
  | more _ _ _ _ => simp at hu
end Js
set_option linter.unusedVariables false
namespace Js
def dg (c : UInt8) : Nat := c.toNat - 48
def worth : Str → Nat
  | [] => 0
  | c :: l => dg c * 10 ^ l.length + worth l
def Digs (l : Str) : Prop := ∀ c ∈ l, isDig c = true
theorem dig_rng {c : UInt8} (h : isDig c = true) : 48 ≤ c.toNat ∧ c.toNat ≤ 57 := by
  simpa [isDig] using h
theorem dg_lt {c : UInt8} (h : isDig c = true) : dg c < 10 := by have := dig_rng h; unfold dg; omega
theorem Digs.tail {c : UInt8} {l : Str} (h : Digs (c :: l)) : Digs l := fun x hx => h x (by simp [hx])
theorem Digs.head {c : UInt8} {l : Str} (h : Digs (c :: l)) : isDig c = true := h c (by simp)
theorem Digs.sub {l r : Str} (h : Digs l) (hs : ∀ c ∈ r, c ∈ l) : Digs r := fun c hc => h c (hs c hc)
theorem Digs.take {l : Str} (h : Digs l) (n : Nat) : Digs (l.take n) := h.sub fun _ hc => List.mem_of_mem_take hc
theorem Digs.drop {l : Str} (h : Digs l) (n : Nat) : Digs (l.drop n) := h.sub fun _ hc => List.mem_of_mem_drop hc
theorem worth_lt : ∀ {l : Str}, Digs l → worth l < 10 ^ l.length
  | [], _ => by simp [worth]
  | c :: l, h => by
    have h1 := worth_lt h.tail
    have h2 := dg_lt h.head
    simp only [worth, List.length_cons, Nat.pow_succ]
    have h3 : dg c * 10 ^ l.length ≤ 9 * 10 ^ l.length := Nat.mul_le_mul_right _ (by omega)
    omega
theorem worth_append (l r : Str) : worth (l ++ r) = worth l * 10 ^ r.length + worth r := by
  induction l with
  | nil => simp [worth]
  | cons c l ih =>
    simp only [List.cons_append, worth, ih, List.length_append, Nat.pow_add, Nat.add_mul, Nat.mul_assoc]
    omega
theorem worth_snoc (l : Str) (c : UInt8) : worth (l ++ [c]) = worth l * 10 + dg c := by
  rw [worth_append]; simp [worth]
theorem worth_pos {c : UInt8} {l : Str} (hc : isDig c = true) (h : c ≠ 48) : 10 ^ l.length ≤ worth (c :: l) := by
  have h1 := dig_rng hc
  have h2 : c.toNat ≠ 48 := fun e => h (UInt8.toNat_inj.1 e)
  have h3 : 1 ≤ dg c := by unfold dg; omega
  simp only [worth]
  have := Nat.mul_le_mul_right (10 ^ l.length) h3
  omega
def pless : Str → Str → Bool
  | _, [] => false
  | [], _ :: _ => true
  | b :: bs, c :: cs => if b = c then pless bs cs else decide (b.toNat < c.toNat)
theorem worth_last : ∀ {s : Str}, Digs s → s ≠ [] → s.getLast? ≠ some 48 → 0 < worth s
  | [], _, h, _ => absurd rfl h
  | [c], hd, _, hl => by
    have h1 := dig_rng (hd.head)
    have h2 : c ≠ 48 := by intro e; subst e; simp at hl
    have h3 : c.toNat ≠ 48 := fun e => h2 (UInt8.toNat_inj.1 e)
    simp [worth, dg]
    omega
  | c :: d :: s, hd, _, hl => by
    have := worth_last (s := d :: s) hd.tail (by simp) (by simpa using hl)
    simp only [worth] at this ⊢
    omega
theorem pless_true : ∀ {b s : Str}, Digs b → Digs s → s.getLast? ≠ some 48 → pless b s = true → worth b * 10 ^ s.length < worth s * 10 ^ b.length
  | b, [], _, _, _, h => by cases b <;> simp [pless] at h
  | [], c :: s, _, hs, hl, _ => by
    have := worth_last hs (by simp) hl
    simpa [worth] using this
  | b :: bs, c :: cs, hb, hs, hl, h => by
    simp only [pless] at h
    have hB : 0 < 10 ^ bs.length := Nat.pow_pos (by decide)
    have hC : 0 < 10 ^ cs.length := Nat.pow_pos (by decide)
    simp only [worth, List.length_cons, Nat.pow_succ]
    split at h
    · rename_i e
      subst e
      have hl' : cs.getLast? ≠ some 48 := by
        cases cs with
        | nil => simp
        | cons d cs => simpa using hl
      have ih := pless_true hb.tail hs.tail hl' h
      generalize 10 ^ bs.length = p at *
      generalize 10 ^ cs.length = q at *
      generalize dg b = x at *
      have e1 : (x * p + worth bs) * (q * 10) = (x * p * q + worth bs * q) * 10 := by rw [Nat.add_mul, Nat.add_mul]; simp only [Nat.mul_assoc]
      have e2 : (x * q + worth cs) * (p * 10) = (x * p * q + worth cs * p) * 10 := by rw [Nat.add_mul, Nat.add_mul, Nat.mul_right_comm x p q]; simp only [Nat.mul_assoc]
      rw [e1, e2]
      omega
    · have hlt : b.toNat < c.toNat := of_decide_eq_true h
      have h1 := dig_rng hb.head
      have h2 := dig_rng hs.head
      have h3 := worth_lt hb.tail
      have h4 : dg b + 1 ≤ dg c := by unfold dg; omega
      generalize 10 ^ bs.length = p at *
      generalize 10 ^ cs.length = q at *
      have h5 : dg b * p + worth bs < dg c * p := by
        have := Nat.mul_le_mul_right p h4
        rw [Nat.add_mul] at this
        omega
      have h6 : (dg b * p + worth bs) * (q * 10) < dg c * p * (q * 10) := Nat.mul_lt_mul_of_pos_right h5 (by omega)
      have h7 : dg c * p * (q * 10) ≤ (dg c * q + worth cs) * (p * 10) := by
        rw [Nat.add_mul]
        have : dg c * p * (q * 10) = dg c * q * (p * 10) := by
          simp only [Nat.mul_assoc, Nat.mul_left_comm, Nat.mul_comm]
        omega
      omega
theorem pless_false : ∀ {b s : Str}, Digs b → Digs s → pless b s = false → worth s * 10 ^ b.length ≤ worth b * 10 ^ s.length
  | b, [], _, _, _ => by simp [worth]
  | [], c :: s, _, _, h => by simp [pless] at h
  | b :: bs, c :: cs, hb, hs, h => by
    simp only [pless] at h
    simp only [worth, List.length_cons, Nat.pow_succ]
    split at h
    · rename_i e
      subst e
      have ih := pless_false hb.tail hs.tail h
      generalize 10 ^ bs.length = p at *
      generalize 10 ^ cs.length = q at *
      generalize dg b = x at *
      have e1 : (x * p + worth bs) * (q * 10) = (x * p * q + worth bs * q) * 10 := by rw [Nat.add_mul, Nat.add_mul]; simp only [Nat.mul_assoc]
      have e2 : (x * q + worth cs) * (p * 10) = (x * p * q + worth cs * p) * 10 := by rw [Nat.add_mul, Nat.add_mul, Nat.mul_right_comm x p q]; simp only [Nat.mul_assoc]
      rw [e1, e2]
      omega
    · rename_i hne
      have hge : ¬ b.toNat < c.toNat := of_decide_eq_false h
      have hn : b.toNat ≠ c.toNat := fun e => hne (UInt8.toNat_inj.1 e)
      have h1 := dig_rng hb.head
      have h2 := dig_rng hs.head
      have h3 := worth_lt hs.tail
      have h4 : dg c + 1 ≤ dg b := by unfold dg; omega
      generalize 10 ^ bs.length = p at *
      generalize 10 ^ cs.length = q at *
      have h5 : dg c * q + worth cs ≤ dg b * q := by
        have := Nat.mul_le_mul_right q h4
        rw [Nat.add_mul] at this
        omega
      have h6 : (dg c * q + worth cs) * (p * 10) ≤ dg b * q * (p * 10) := Nat.mul_le_mul_right _ h5
      have h7 : dg b * q * (p * 10) ≤ (dg b * p + worth bs) * (q * 10) := by
        rw [Nat.add_mul]
        have : dg b * q * (p * 10) = dg b * p * (q * 10) := by
          simp only [Nat.mul_assoc, Nat.mul_left_comm, Nat.mul_comm]
        omega
      omega
end Js
namespace Js
theorem drop_at {l : Str} {i : Nat} {c : UInt8} (h : l[i]? = some c) : l.drop i = c :: l.drop (i + 1) := by
  obtain ⟨hl, rfl⟩ := List.getElem?_eq_some_iff.1 h
  exact List.drop_eq_getElem_cons hl
theorem pless_step {b s : Str} {i : Nat} {c d : UInt8} (hb : b[i]? = some c) (hs : s[i]? = some d) : pless (b.drop i) (s.drop i) = if c = d then pless (b.drop (i + 1)) (s.drop (i + 1)) else decide (c.toNat < d.toNat) := by
  rw [drop_at hb, drop_at hs]; rfl
theorem pless_short {b s : Str} {i : Nat} {d : UInt8} (hb : b.length ≤ i) (hs : s[i]? = some d) : pless (b.drop i) (s.drop i) = true := by
  rw [List.drop_of_length_le hb, drop_at hs]; rfl
theorem pless_end {b s : Str} {i : Nat} (hs : s.length ≤ i) : pless (b.drop i) (s.drop i) = false := by
  rw [List.drop_of_length_le hs]; cases b.drop i <;> rfl
end Js
