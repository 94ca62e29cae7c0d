/- Part 2 of the proof of FnGjJoinKeys: the statement Rows.FnGjJoinKeysCardSaid; no further condition. -/
import Derived.Test.YtelonenjneonlaaGreatDoorK01
set_option linter.all false
set_option linter.unusedVariables false
namespace Js
theorem pTake_some {c : UInt8} {s r : Str} : pTake c s = some r ↔ s = c :: r := by
  cases s with
  | nil => simp [pTake]
  | cons d s =>
    simp only [pTake]
    split
    · rename_i h; subst h; simp [eq_comm]
    · rename_i h; simp only [reduceCtorEq, List.cons.injEq, false_iff]; intro ⟨h1, _⟩; exact h h1
theorem pTake_none {c : UInt8} {s : Str} : pTake c s = none ↔ s.head? ≠ some c := by
  cases s with
  | nil => simp [pTake]
  | cons d s => simp only [pTake, List.head?_cons]; split <;> simp_all
theorem pTake_self (c : UInt8) (r : Str) : pTake c (c :: r) = some r := by simp [pTake]
def numc (c : UInt8) : Bool := isDig c || c == 46 || c == 101 || c == 69 || c == 43 || c == 45
def Stop (r : Str) : Prop := ∀ c, r.head? = some c → numc c = false
theorem Stop.nil : Stop [] := by intro c h; simp at h
theorem Stop.dig {r : Str} (h : Stop r) : ∀ c, r.head? = some c → isDig c = false := by
  intro c hc; have := h c hc; simp only [numc, Bool.or_eq_false_iff] at this; exact this.1.1.1.1.1
theorem Stop.ne {r : Str} (h : Stop r) {c : UInt8} (hc : numc c = true) : r.head? ≠ some c := by
  intro he; have := h c he; simp [hc] at this
theorem head_append {t r : Str} (ht : t ≠ []) : (t ++ r).head? = t.head? := by cases t <;> simp_all
theorem digs_split (s : Str) : ∃ d, s = d ++ digs s ∧ (∀ c ∈ d, isDig c = true) ∧ (∀ c, (digs s).head? = some c → isDig c = false) := by
  induction s with
  | nil => exact ⟨[], rfl, by simp, by simp [digs]⟩
  | cons c s ih =>
    by_cases h : isDig c = true
    · obtain ⟨d, h1, h2, h3⟩ := ih
      have e : digs (c :: s) = digs s := by simp [digs, h]
      rw [e]
      refine ⟨c :: d, by rw [List.cons_append, ← h1], ?_, h3⟩
      intro x hx; rcases List.mem_cons.1 hx with rfl | hx; exact h; exact h2 x hx
    · have e : digs (c :: s) = c :: s := by simp [digs, h]
      rw [e]
      exact ⟨[], rfl, by simp, by intro x hx; simp at hx; subst hx; simpa using h⟩
theorem digs_append (d r : Str) (hd : ∀ c ∈ d, isDig c = true) (hr : ∀ c, r.head? = some c → isDig c = false) : digs (d ++ r) = r := by
  induction d with
  | nil =>
    cases r with
    | nil => rfl
    | cons c r => have := hr c rfl; simp [digs, this]
  | cons c d ih =>
    have h1 := hd c (by simp)
    have : digs (c :: d ++ r) = digs (d ++ r) := by simp [digs, h1]
    rw [this]; exact ih (fun x hx => hd x (by simp [hx]))
theorem pDigits_some {s r : Str} (h : pDigits s = some r) : ∃ d, s = d ++ r ∧ d ≠ [] ∧ (∀ c ∈ d, isDig c = true) ∧ (∀ c, r.head? = some c → isDig c = false) := by
  unfold pDigits at h
  split at h
  · rename_i hl
    simp only [Option.some.injEq] at h
    subst h
    obtain ⟨d, h1, h2, h3⟩ := digs_split s
    refine ⟨d, h1, ?_, h2, h3⟩
    rintro rfl
    simp only [List.nil_append] at h1
    rw [← h1] at hl
    omega
  · simp at h
theorem pDigits_mk {d r : Str} (h0 : d ≠ []) (hd : ∀ c ∈ d, isDig c = true) (hr : ∀ c, r.head? = some c → isDig c = false) : pDigits (d ++ r) = some r := by
  unfold pDigits
  rw [digs_append d r hd hr, if_pos]
  have := List.length_pos_iff.2 h0
  simp; omega
def LocN (f : Str → Option Str) : Prop := ∀ s r, f s = some r → ∃ t, s = t ++ r ∧ ∀ r', Stop r' → f (t ++ r') = some r'
theorem numc_dig {c : UInt8} (h : isDig c = true) : numc c = true := by simp [numc, h]
theorem pExp_digits {r r0 : Str} (h : pDigits r = some r0) : ∃ d, r = d ++ r0 ∧ ∀ r', Stop r' → pDigits (d ++ r') = some r' := by
  obtain ⟨d, h1, h2, h3, h4⟩ := pDigits_some h
  exact ⟨d, h1, fun r' hr => pDigits_mk h2 h3 hr.dig⟩
theorem pExp_head {s : Str} (c : UInt8) (hc : c = 101 ∨ c = 69) : pExp (c :: s) = match pTake 43 s with
    | some r' => pDigits r'
    | none => pDigits ((pTake 45 s).getD s) := by
  rcases hc with rfl | rfl <;> rfl
theorem pExp_none {s : Str} (h1 : s.head? ≠ some 101) (h2 : s.head? ≠ some 69) : pExp s = some s := by
  unfold pExp; rw [pTake_none.2 h1, pTake_none.2 h2]; rfl
theorem loc_exp : LocN pExp := by
  intro s r h
  by_cases h1 : s.head? = some 101 ∨ s.head? = some 69
  · obtain ⟨c, s, rfl, hc⟩ : ∃ c s', s = c :: s' ∧ (c = 101 ∨ c = 69) := by
      cases s with
      | nil => simp at h1
      | cons c s => exact ⟨c, s, rfl, by simpa using h1⟩
    rw [pExp_head c hc] at h
    cases h43 : pTake 43 s with
    | some s1 =>
      rw [h43] at h
      obtain rfl := pTake_some.1 h43
      obtain ⟨d, hd, hd'⟩ := pExp_digits h
      refine ⟨c :: 43 :: d, by rw [hd]; rfl, fun r' hr => ?_⟩
      show pExp (c :: 43 :: (d ++ r')) = some r'
      rw [pExp_head c hc, pTake_self]
      exact hd' r' hr
    | none =>
      rw [h43] at h
      cases h45 : pTake 45 s with
      | some s1 =>
        rw [h45] at h
        obtain rfl := pTake_some.1 h45
        obtain ⟨d, hd, hd'⟩ := pExp_digits (r := s1) h
        refine ⟨c :: 45 :: d, by rw [hd]; rfl, fun r' hr => ?_⟩
        show pExp (c :: 45 :: (d ++ r')) = some r'
        rw [pExp_head c hc, pTake_self]
        exact hd' r' hr
      | none =>
        rw [h45] at h
        obtain ⟨d, hd, h0, hdd, hr0⟩ := pDigits_some h
        simp only [Option.getD_none] at hd
        refine ⟨c :: d, by rw [hd]; rfl, fun r' hr => ?_⟩
        show pExp (c :: (d ++ r')) = some r'
        have hh : (d ++ r').head? = s.head? := by rw [head_append h0, hd, head_append h0]
        rw [pExp_head c hc, pTake_none.2 (by rw [hh]; exact pTake_none.1 h43), pTake_none.2 (by rw [hh]; exact pTake_none.1 h45)]
        exact pDigits_mk h0 hdd hr.dig
  · have e := pExp_none (fun h => h1 (.inl h)) (fun h => h1 (.inr h))
    rw [e] at h
    obtain rfl := Option.some.inj h
    refine ⟨[], rfl, fun r' hr => ?_⟩
    exact pExp_none (hr.ne (by decide)) (hr.ne (by decide))
theorem loc_frac : LocN pFrac := by
  intro s r h
  unfold pFrac at h
  cases h46 : pTake 46 s with
  | some s1 =>
    rw [h46] at h
    obtain rfl := pTake_some.1 h46
    obtain ⟨s2, hd, he⟩ := Option.bind_eq_some_iff.1 h
    obtain ⟨d, rfl, h0, hdd, hr0⟩ := pDigits_some hd
    obtain ⟨t, rfl, ht⟩ := loc_exp s2 r he
    refine ⟨46 :: d ++ t, by simp, fun r' hr => ?_⟩
    show pFrac (46 :: d ++ t ++ r') = some r'
    have : pDigits (d ++ (t ++ r')) = some (t ++ r') := pDigits_mk h0 hdd (by
      by_cases h : t = []
      · subst h; exact hr.dig
      · rw [head_append h] at hr0 ⊢; exact hr0)
    simp only [pFrac, List.cons_append, pTake_self, List.append_assoc, this, Option.bind_some]
    exact ht r' hr
  | none =>
    rw [h46] at h
    obtain ⟨t, rfl, ht⟩ := loc_exp s r h
    refine ⟨t, rfl, fun r' hr => ?_⟩
    have : pTake 46 (t ++ r') = none := pTake_none.2 (by
      by_cases h : t = []
      · subst h; exact hr.ne (by decide)
      · have := pTake_none.1 h46; rw [head_append h] at this ⊢; exact this)
    simp only [pFrac, this]
    exact ht r' hr
def pNum0 (s : Str) : Option Str :=
  match pTake 48 s with
  | some r => pFrac r
  | none => (pDigits s).bind pFrac
theorem pNum_eq (s : Str) : pNum s = pNum0 ((pTake 45 s).getD s) := rfl
theorem loc_num0 : ∀ s r, pNum0 s = some r → ∃ t, s = t ++ r ∧ (∃ c, t.head? = some c ∧ isDig c = true) ∧ ∀ r', Stop r' → pNum0 (t ++ r') = some r' := by
  intro s r h
  unfold pNum0 at h
  cases h48 : pTake 48 s with
  | some s1 =>
    rw [h48] at h
    obtain rfl := pTake_some.1 h48
    obtain ⟨t, rfl, ht⟩ := loc_frac s1 r h
    refine ⟨48 :: t, rfl, ⟨48, rfl, by decide⟩, fun r' hr => ?_⟩
    simp only [pNum0, List.cons_append, pTake_self]
    exact ht r' hr
  | none =>
    rw [h48] at h
    obtain ⟨s2, hd, he⟩ := Option.bind_eq_some_iff.1 h
    obtain ⟨d, rfl, h0, hdd, hr0⟩ := pDigits_some hd
    obtain ⟨t, rfl, ht⟩ := loc_frac s2 r he
    obtain ⟨c, d, rfl⟩ : ∃ c d', d = c :: d' := by cases d with
      | nil => exact absurd rfl h0
      | cons c d => exact ⟨c, d, rfl⟩
    refine ⟨c :: d ++ t, by simp, ⟨c, by simp, hdd c (by simp)⟩, fun r' hr => ?_⟩
    have : pDigits (c :: d ++ (t ++ r')) = some (t ++ r') := pDigits_mk h0 hdd (by
      by_cases h : t = []
      · subst h; exact hr.dig
      · rw [head_append h] at hr0 ⊢; exact hr0)
    have h48' : pTake 48 (c :: d ++ (t ++ r')) = none := by
      have := pTake_none.1 h48
      exact pTake_none.2 (by simpa using this)
    unfold pNum0
    rw [List.append_assoc, h48']
    simp only [this, Option.bind_some]
    exact ht r' hr
theorem loc_num {s r : Str} (h : pNum s = some r) : ∃ t, s = t ++ r ∧ (∃ c, t.head? = some c ∧ (c = 45 ∨ isDig c = true)) ∧ ∀ r', Stop r' → pNum (t ++ r') = some r' := by
  rw [pNum_eq] at h
  cases h45 : pTake 45 s with
  | some s1 =>
    rw [h45] at h
    obtain rfl := pTake_some.1 h45
    obtain ⟨t, rfl, _, ht⟩ := loc_num0 s1 r h
    refine ⟨45 :: t, rfl, ⟨45, rfl, .inl rfl⟩, fun r' hr => ?_⟩
    rw [pNum_eq, List.cons_append, pTake_self]
    exact ht r' hr
  | none =>
    rw [h45] at h
    obtain ⟨t, rfl, ⟨c, hc, hd⟩, ht⟩ := loc_num0 s r h
    refine ⟨t, rfl, ⟨c, hc, .inr hd⟩, fun r' hr => ?_⟩
    have h0 : t ≠ [] := by rintro rfl; simp at hc
    have : pTake 45 (t ++ r') = none := pTake_none.2 (by
      have := pTake_none.1 h45; rw [head_append h0]; simpa [head_append h0] using this)
    rw [pNum_eq, this]
    exact ht r' hr
def IsNum (t : Str) : Prop := pNum t = some []
theorem num_split {s r : Str} (h : pNum s = some r) : ∃ t, s = t ++ r ∧ IsNum t := by
  obtain ⟨t, rfl, _, ht⟩ := loc_num h
  exact ⟨t, rfl, by have := ht [] Stop.nil; rw [List.append_nil] at this; exact this⟩
theorem IsNum.go {t : Str} (h : IsNum t) {r : Str} (hr : Stop r) : pNum (t ++ r) = some r := by
  obtain ⟨t', e, _, ht⟩ := loc_num h
  rw [List.append_nil] at e
  subst e
  exact ht r hr
theorem IsNum.head {t : Str} (h : IsNum t) : ∃ c, t.head? = some c ∧ (c = 45 ∨ isDig c = true) := by
  obtain ⟨t', e, hc, ht⟩ := loc_num h
  rw [List.append_nil] at e
  subst e
  exact hc
theorem pHex_append : ∀ (n : Nat) (s r u : Str), pHex n s = some r → pHex n (s ++ u) = some (r ++ u)
  | 0, s, r, u, h => by simp [pHex] at h ⊢; simp [h]
  | n + 1, [], r, u, h => by simp [pHex] at h
  | n + 1, c :: s, r, u, h => by
    simp only [pHex, List.cons_append] at h ⊢
    split at h
    · rename_i hc; rw [if_pos hc]; exact pHex_append n s r u h
    · simp at h
theorem pEsc_append (s r u : Str) (h : pEsc s = some r) : pEsc (s ++ u) = some (r ++ u) := by
  cases s with
  | nil => simp [pEsc] at h
  | cons c s =>
    simp only [pEsc, List.cons_append] at h ⊢
    split at h
    · rename_i hc; rw [if_pos hc]; simp at h; simp [h]
    · rename_i hc; rw [if_neg hc]
      split at h
      · rename_i h2; rw [if_pos h2]; exact pHex_append 4 s r u h
      · simp at h
theorem pStr_append (s r u : Str) (h : pStr s = some r) : pStr (s ++ u) = some (r ++ u) := by
  induction hn : s.length using Nat.strongRecOn generalizing s with
  | _ n ih =>
    cases s with
    | nil => rw [pStr_nil] at h; simp at h
    | cons c s =>
      rw [pStr_cons] at h
      rw [List.cons_append, pStr_cons]
      split at h
      · rename_i hc; rw [if_pos hc]; simp at h; simp [h]
      · rename_i hc; rw [if_neg hc]
        split at h
        · simp at h
        · rename_i h2; rw [if_neg h2]
          split at h
          · rename_i h3; rw [if_pos h3]
            obtain ⟨s1, h4, h5⟩ := Option.bind_eq_some_iff.1 h
            rw [pEsc_append s s1 u h4, Option.bind_some]
            have := pEsc_lt _ _ h4
            exact ih s1.length (by simp at hn; omega) s1 h5 rfl
          · rename_i h3; rw [if_neg h3]
            exact ih s.length (by simp at hn; omega) s h rfl
theorem pHex_split : ∀ (n : Nat) (s r : Str), pHex n s = some r → ∃ t, s = t ++ r ∧ ∀ u, pHex n (t ++ u) = some u
  | 0, s, r, h => by simp [pHex] at h; exact ⟨[], by simp [h], fun u => rfl⟩
  | n + 1, [], r, h => by simp [pHex] at h
  | n + 1, c :: s, r, h => by
    simp only [pHex] at h
    split at h
    · rename_i hc
      obtain ⟨t, rfl, ht⟩ := pHex_split n s r h
      exact ⟨c :: t, rfl, fun u => by simp only [List.cons_append, pHex, if_pos hc]; exact ht u⟩
    · simp at h
theorem pEsc_split (s r : Str) (h : pEsc s = some r) : ∃ t, s = t ++ r ∧ ∀ u, pEsc (t ++ u) = some u := by
  cases s with
  | nil => simp [pEsc] at h
  | cons c s =>
    simp only [pEsc] at h
    split at h
    · rename_i hc; simp at h; subst h
      exact ⟨[c], rfl, fun u => by simp [pEsc, hc]⟩
    · rename_i hc
      split at h
      · rename_i h2
        obtain ⟨t, rfl, ht⟩ := pHex_split 4 s r h
        exact ⟨c :: t, rfl, fun u => by simp only [List.cons_append, pEsc, if_neg hc, if_pos h2]; exact ht u⟩
      · simp at h
theorem str_split (s r : Str) (h : pStr s = some r) : ∃ i, s = i ++ 34 :: r ∧ ∀ u, pStr (i ++ 34 :: u) = some u := by
  induction hn : s.length using Nat.strongRecOn generalizing s with
  | _ n ih =>
    cases s with
    | nil => rw [pStr_nil] at h; simp at h
    | cons c s =>
      rw [pStr_cons] at h
      split at h
      · rename_i hc; simp at h; subst h; subst hc
        exact ⟨[], rfl, fun u => by simp [pStr_cons]⟩
      · rename_i hc
        split at h
        · simp at h
        · rename_i h2
          split at h
          · rename_i h3
            obtain ⟨s1, h4, h5⟩ := Option.bind_eq_some_iff.1 h
            have := pEsc_lt _ _ h4
            obtain ⟨t, rfl, ht⟩ := pEsc_split _ _ h4
            obtain ⟨i, rfl, hi⟩ := ih s1.length (by simp at hn; omega) s1 h5 rfl
            refine ⟨c :: t ++ i, by simp, fun u => ?_⟩
            rw [List.append_assoc, List.cons_append, pStr_cons, if_neg hc, if_neg h2, if_pos h3, ht, Option.bind_some]
            exact hi u
          · rename_i h3
            obtain ⟨i, rfl, hi⟩ := ih s.length (by simp at hn; omega) s h rfl
            refine ⟨c :: i, rfl, fun u => ?_⟩
            rw [List.cons_append, pStr_cons, if_neg hc, if_neg h2, if_neg h3]
            exact hi u
theorem ins_split {s r : Str} (h : pStr s = some r) : ∃ i, s = i ++ 34 :: r ∧ Ins i := by
  obtain ⟨i, e, hi⟩ := str_split s r h
  exact ⟨i, e, hi []⟩
theorem Ins.go {i : Str} (h : Ins i) (u : Str) : pStr (i ++ 34 :: u) = some u := by
  have := pStr_append _ _ u h
  simpa using this
theorem skip_split (s : Str) : ∃ w, s = w ++ skip s ∧ Bl w ∧ ∀ c, (skip s).head? = some c → isBlank c = false := by
  induction s with
  | nil => exact ⟨[], rfl, by intro c h; simp at h, by simp [skip]⟩
  | cons c s ih =>
    by_cases h : isBlank c = true
    · obtain ⟨w, h1, h2, h3⟩ := ih
      have e : skip (c :: s) = skip s := by simp [skip, h]
      rw [e]
      refine ⟨c :: w, by rw [List.cons_append, ← h1], ?_, h3⟩
      intro x hx; rcases List.mem_cons.1 hx with rfl | hx; exact h; exact h2 x hx
    · have e : skip (c :: s) = c :: s := by simp [skip, h]
      rw [e]
      exact ⟨[], rfl, by intro x hx; simp at hx, by intro x hx; simp at hx; subst hx; simpa using h⟩
theorem skip_append {w r : Str} (hw : Bl w) : skip (w ++ r) = skip r := by
  induction w with
  | nil => rfl
  | cons c w ih =>
    have h1 := hw c (by simp)
    have : skip (c :: w ++ r) = skip (w ++ r) := by simp [skip, h1]
    rw [this]; exact ih (fun x hx => hw x (by simp [hx]))
theorem skip_cons {c : UInt8} (h : isBlank c = false) (r : Str) : skip (c :: r) = c :: r := by simp [skip, h]
theorem skip_bl {w : Str} (hw : Bl w) : skip w = [] := by have := skip_append (r := []) hw; rw [List.append_nil] at this; rw [this]; rfl
theorem skip_len (s : Str) : (skip s).length ≤ s.length := by
  obtain ⟨w, h, _⟩ := skip_split s
  have := congrArg List.length h
  simp at this; omega
end Js
set_option linter.unusedVariables false
namespace Js
theorem sub_mid (pre t r : Str) : sub (pre ++ (t ++ r)) ((pre ++ (t ++ r)).length - (t ++ r).length) ((pre ++ (t ++ r)).length - r.length) = t := by
  unfold sub
  simp only [List.length_append]
  rw [show pre.length + (t.length + r.length) - (t.length + r.length) = pre.length from by omega, show pre.length + (t.length + r.length) - r.length - pre.length = t.length from by omega]
  simp
theorem sub_at {T pre t r : Str} (h : T = pre ++ (t ++ r)) : sub T (T.length - (t ++ r).length) (T.length - r.length) = t := by
  subst h; exact sub_mid pre t r
theorem Bl.nil : Bl [] := by intro c h; simp at h
theorem Bl.append {a b : Str} (ha : Bl a) (hb : Bl b) : Bl (a ++ b) := by
  intro c h; rcases List.mem_append.1 h with h | h; exact ha c h; exact hb c h
theorem word_split {w s r : Str} (h : pWord w s = some r) : s = w ++ r := by
  unfold pWord at h
  split at h
  · rename_i hw
    obtain rfl := Option.some.inj h
    conv => lhs; rw [← List.take_append_drop w.length s, hw]
  · simp at h
def vhead (c : UInt8) : Bool := c == 110 || c == 102 || c == 116 || c == 45 || isDig c || c == 34 || c == 91 || c == 123
theorem Shows.head {t : Str} {it : It} (h : Shows t it) : ∀ n, it = .v n → ∃ c r, t = c :: r ∧ vhead c = true := by
  cases h with
  | num h =>
    intro n _
    obtain ⟨c, hc, hd⟩ := IsNum.head h
    cases t with
    | nil => simp at hc
    | cons d r =>
      simp only [List.head?_cons, Option.some.injEq] at hc
      subst hc
      exact ⟨d, r, rfl, by rcases hd with rfl | hd; decide; simp [vhead, hd]⟩
  | nul => intro n _; exact ⟨_, _, rfl, by decide⟩
  | fls => intro n _; exact ⟨_, _, rfl, by decide⟩
  | tru => intro n _; exact ⟨_, _, rfl, by decide⟩
  | str h => intro n _; exact ⟨34, _, rfl, by decide⟩
  | arr0 h => intro n _; exact ⟨91, _, rfl, by decide⟩
  | arr h => intro n _; exact ⟨91, _, rfl, by decide⟩
  | obj0 h => intro n _; exact ⟨123, _, rfl, by decide⟩
  | obj h => intro n _; exact ⟨123, _, rfl, by decide⟩
  | e1 => intro n h; cases h
  | e2 => intro n h; cases h
  | m1 => intro n h; cases h
  | m2 => intro n h; cases h
theorem isDig_ne {c d : UInt8} (h : isDig c = true) (hd : isDig d = false) : c ≠ d := by rintro rfl; rw [h] at hd; exact absurd hd (by decide)
theorem vhead_blank {c : UInt8} (h : vhead c = true) : isBlank c = false := by
  simp only [vhead, Bool.or_eq_true, beq_iff_eq] at h
  rcases h with ((((((rfl | rfl) | rfl) | rfl) | h) | rfl) | rfl) | rfl <;> first | decide | skip
  simp only [isBlank, Bool.or_eq_false_iff, beq_eq_false_iff_ne]
  refine ⟨⟨⟨?_, ?_⟩, ?_⟩, ?_⟩ <;> exact isDig_ne h (by decide)
theorem vhead_ne {c : UInt8} (h : vhead c = true) {d : UInt8} (hd : vhead d = false) : c ≠ d := by rintro rfl; rw [h] at hd; exact absurd hd (by decide)
theorem Shows.skip_v {t r : Str} {n : Nd} (h : Shows t (.v n)) : skip (t ++ r) = t ++ r := by
  obtain ⟨c, t, rfl, hc⟩ := h.head n rfl
  exact skip_cons (vhead_blank hc) _
theorem Shows.lead_e {w t : Str} {l : List Nd} (hw : Bl w) (h : Shows t (.e l)) : Shows (w ++ t) (.e l) := by
  cases h with
  | e1 h1 h h2 => have := Shows.e1 (hw.append h1) h h2; simpa using this
  | e2 h1 h h2 hr => have := Shows.e2 (hw.append h1) h h2 hr; simpa using this
theorem Shows.lead_m {w t : Str} {ks : List Str} {l : List Nd} (hw : Bl w) (h : Shows t (.m ks l)) : Shows (w ++ t) (.m ks l) := by
  cases h with
  | m1 h1 hi h2 h3 h h4 => have := Shows.m1 (hw.append h1) hi h2 h3 h h4; simpa using this
  | m2 h1 hi h2 h3 h h4 hr => have := Shows.m2 (hw.append h1) hi h2 h3 h h4 hr; simpa using this
theorem sound (T : Str) : ∀ n,
    (∀ pre s p r, T = pre ++ s → pVal T.length n s = some (p, r) → ∃ t, s = t ++ r ∧ Shows t (.v (tree T p))) ∧
    (∀ pre s ps r, T = pre ++ s → pElems T.length n s = some (ps, r) → ∃ t, s = t ++ 93 :: r ∧ Shows t (.e (trees T ps))) ∧
    (∀ pre s ns ps r, T = pre ++ s → pMems T.length n s = some (ns, ps, r) → ∃ t, s = t ++ 125 :: r ∧ Shows t (.m (ns.map fun x => unquote (sub T x.1 x.2)) (trees T ps)))
  | 0 => ⟨fun _ _ _ _ _ h => by simp [pVal] at h, fun _ _ _ _ _ h => by simp [pElems] at h, fun _ _ _ _ _ _ h => by simp [pMems] at h⟩
  | n + 1 => by
    obtain ⟨ihv, ihe, ihm⟩ := sound T n
    refine ⟨?_, ?_, ?_⟩
    · intro pre s p r hT h
      cases s with
      | nil => simp [pVal] at h
      | cons c s =>
        simp only [pVal] at h
        obtain ⟨w, hw, hbl, hsk⟩ := skip_split s
        split at h
        · rename_i hc; subst hc
          split at h
          · rename_i r2 hr2
            obtain ⟨rfl, rfl⟩ := Prod.mk.inj (Option.some.inj h)
            have hs : 123 :: s = (123 :: w ++ [125]) ++ r2 := by rw [hw, pTake_some.1 hr2]; simp
            refine ⟨123 :: w ++ [125], hs, ?_⟩
            simp only [tree, trees, List.map_nil]
            exact .obj0 hbl
          · obtain ⟨⟨ns, ps, r'⟩, hx, he⟩ := Option.map_eq_some_iff.1 h
            obtain ⟨rfl, rfl⟩ := Prod.mk.inj he
            obtain ⟨t, ht, hsh⟩ := ihm (pre ++ 123 :: w) (skip s) ns ps r' (by rw [hT]; simp; exact hw) hx
            refine ⟨123 :: (w ++ t) ++ [125], by rw [hw, ht]; simp, ?_⟩
            simp only [tree]
            exact .obj (hsh.lead_m hbl)
        · split at h
          · rename_i hc; subst hc
            split at h
            · rename_i r2 hr2
              obtain ⟨rfl, rfl⟩ := Prod.mk.inj (Option.some.inj h)
              have hs : 91 :: s = (91 :: w ++ [93]) ++ r2 := by rw [hw, pTake_some.1 hr2]; simp
              refine ⟨91 :: w ++ [93], hs, ?_⟩
              simp only [tree, trees, List.map_nil]
              exact .arr0 hbl
            · obtain ⟨⟨ps, r'⟩, hx, he⟩ := Option.map_eq_some_iff.1 h
              obtain ⟨rfl, rfl⟩ := Prod.mk.inj he
              obtain ⟨t, ht, hsh⟩ := ihe (pre ++ 91 :: w) (skip s) ps r' (by rw [hT]; simp; exact hw) hx
              refine ⟨91 :: (w ++ t) ++ [93], by rw [hw, ht]; simp, ?_⟩
              simp only [tree]
              exact .arr (hsh.lead_e hbl)
          · split at h
            · rename_i hc; subst hc
              obtain ⟨r2, hx, he⟩ := Option.map_eq_some_iff.1 h
              obtain ⟨rfl, rfl⟩ := Prod.mk.inj he
              obtain ⟨i, hi, hin⟩ := ins_split hx
              have hs : 34 :: s = (34 :: i ++ [34]) ++ r2 := by rw [hi]; simp
              refine ⟨34 :: i ++ [34], hs, ?_⟩
              have e : sub T (T.length - (34 :: s).length) (T.length - r2.length) = 34 :: i ++ [34] := by rw [hs]; exact sub_at (pre := pre) (by rw [hT, hs])
              simp only [tree, trees, List.map_nil, e]
              simp only [show (4 : Nat) ≠ 3 from by decide, if_false, if_true, unquote_mk]
              exact .str hin
            · split at h
              · obtain ⟨r2, hx, he⟩ := Option.map_eq_some_iff.1 h
                obtain ⟨rfl, rfl⟩ := Prod.mk.inj he
                obtain ⟨t, hs, hn⟩ := num_split hx
                refine ⟨t, hs, ?_⟩
                have e : sub T (T.length - (c :: s).length) (T.length - r2.length) = t := by rw [hs]; exact sub_at (pre := pre) (by rw [hT, hs])
                simp only [tree, trees, List.map_nil, e, if_true]
                exact .num hn
              · split at h
                · rename_i r2 hx
                  obtain ⟨rfl, rfl⟩ := Prod.mk.inj (Option.some.inj h)
                  refine ⟨_, word_split hx, ?_⟩
                  simp only [tree, trees, List.map_nil]
                  exact .nul
                · split at h
                  · rename_i r2 hx
                    obtain ⟨rfl, rfl⟩ := Prod.mk.inj (Option.some.inj h)
                    refine ⟨_, word_split hx, ?_⟩
                    simp only [tree, trees, List.map_nil]
                    exact .fls
                  · obtain ⟨r2, hx, he⟩ := Option.map_eq_some_iff.1 h
                    obtain ⟨rfl, rfl⟩ := Prod.mk.inj he
                    refine ⟨_, word_split hx, ?_⟩
                    simp only [tree, trees, List.map_nil]
                    exact .tru
    · intro pre s ps r hT h
      simp only [pElems] at h
      split at h
      · simp at h
      · rename_i p r1 hv
        obtain ⟨t, rfl, hsh⟩ := ihv pre s p r1 hT hv
        obtain ⟨w, hw, hbl, hsk⟩ := skip_split r1
        split at h
        · rename_i r2 hr2
          obtain ⟨rfl, rfl⟩ := Prod.mk.inj (Option.some.inj h)
          refine ⟨[] ++ t ++ w, ?_, ?_⟩
          · conv => lhs; rw [hw, pTake_some.1 hr2]
            simp
          · simp only [trees]
            exact .e1 Bl.nil hsh hbl
        · split at h
          · simp at h
          · rename_i r2 hr2
            obtain ⟨⟨ps', r'⟩, hx, he⟩ := Option.map_eq_some_iff.1 h
            obtain ⟨rfl, rfl⟩ := Prod.mk.inj he
            obtain ⟨w', hw', hbl', hsk'⟩ := skip_split r2
            have e1 : r1 = w ++ 44 :: w' ++ skip r2 := by conv => { lhs; rw [hw, pTake_some.1 hr2, hw'] }; simp
            obtain ⟨t', ht', hsh'⟩ := ihe (pre ++ t ++ w ++ 44 :: w') (skip r2) ps' r' (by rw [hT]; conv => { lhs; rw [e1] }; simp) hx
            have lead := hsh'.lead_e hbl'
            refine ⟨[] ++ t ++ w ++ 44 :: (w' ++ t'), ?_, ?_⟩
            · conv => lhs; rw [e1, ht']
              simp
            · simp only [trees]
              exact .e2 Bl.nil hsh hbl lead
    · intro pre s ns ps r hT h
      simp only [pMems] at h
      split at h
      · simp at h
      · rename_i r0 hq
        obtain ⟨s1, hs1, hstr⟩ := Option.bind_eq_some_iff.1 hq
        obtain rfl := pTake_some.1 hs1
        obtain ⟨i, rfl, hin⟩ := ins_split hstr
        have hsq : 34 :: (i ++ 34 :: r0) = (34 :: i ++ [34]) ++ r0 := by simp
        have eq1 : sub T (T.length - (34 :: (i ++ 34 :: r0)).length) (T.length - r0.length) = 34 :: i ++ [34] := by rw [hsq]; exact sub_at (pre := pre) (by rw [hT, hsq])
        obtain ⟨w, hw, hbl, hsk⟩ := skip_split r0
        split at h
        · simp at h
        · rename_i r1 hr1
          obtain ⟨w3, hw3, hbl3, hsk3⟩ := skip_split r1
          have e0 : r0 = w ++ 58 :: w3 ++ skip r1 := by conv => { lhs; rw [hw, pTake_some.1 hr1, hw3] }; simp
          split at h
          · simp at h
          · rename_i p r2 hv
            obtain ⟨t, ht, hsh⟩ := ihv (pre ++ 34 :: i ++ 34 :: w ++ 58 :: w3) (skip r1) p r2 (by rw [hT]; conv => { lhs; rw [e0] }; simp) hv
            obtain ⟨w4, hw4, hbl4, hsk4⟩ := skip_split r2
            split at h
            · rename_i r3 hr3
              have h := Option.some.inj h
              simp only [Prod.mk.injEq] at h
              obtain ⟨rfl, rfl, rfl⟩ := h
              refine ⟨[] ++ (34 :: i ++ [34]) ++ w ++ 58 :: w3 ++ t ++ w4, ?_, ?_⟩
              · conv => lhs; rw [e0, ht, hw4, pTake_some.1 hr3]
                simp
              · simp only [trees, List.map_cons, List.map_nil, eq1, unquote_mk]
                exact .m1 Bl.nil hin hbl hbl3 hsh hbl4
            · split at h
              · simp at h
              · rename_i r3 hr3
                obtain ⟨⟨ns', ps', r'⟩, hx, he⟩ := Option.map_eq_some_iff.1 h
                simp only [Prod.mk.injEq] at he
                obtain ⟨rfl, rfl, rfl⟩ := he
                obtain ⟨w5, hw5, hbl5, hsk5⟩ := skip_split r3
                have e2 : r2 = w4 ++ 44 :: w5 ++ skip r3 := by conv => { lhs; rw [hw4, pTake_some.1 hr3, hw5] }; simp
                obtain ⟨t', ht', hsh'⟩ := ihm (pre ++ 34 :: i ++ 34 :: w ++ 58 :: w3 ++ t ++ w4 ++ 44 :: w5) (skip r3) ns' ps' r'
                  (by rw [hT]; conv => { lhs; rw [e0, ht, e2] }; simp) hx
                have lead := hsh'.lead_m hbl5
                refine ⟨[] ++ (34 :: i ++ [34]) ++ w ++ 58 :: w3 ++ t ++ w4 ++ 44 :: (w5 ++ t'), ?_, ?_⟩
                · conv => lhs; rw [e0, ht, e2, ht']
                  simp
                · simp only [trees, List.map_cons, eq1, unquote_mk]
                  exact .m2 Bl.nil hin hbl hbl3 hsh hbl4 lead
theorem text_sound {T : Str} {p : Place} (h : pText T = some p) : Text T (tree T p) := by
  unfold pText at h
  split at h
  · simp at h
  · rename_i p' r hv
    split at h
    · rename_i hr
      obtain rfl := Option.some.inj h
      obtain ⟨w, hw, hbl, _⟩ := skip_split T
      obtain ⟨t, ht, hsh⟩ := (sound T _).1 w (skip T) p' r hw hv
      obtain ⟨w2, hw2, hbl2, _⟩ := skip_split r
      refine ⟨w, t, w2, ?_, hbl, hbl2, hsh⟩
      conv => lhs; rw [hw, ht, hw2, hr]
      simp
    · simp at h
end Js
set_option linter.unusedVariables false
namespace Js
theorem stop_bl {w r : Str} (hw : Bl w) (hr : Stop r) : Stop (w ++ r) := by
  cases w with
  | nil => exact hr
  | cons c w =>
    intro d hd
    simp only [List.cons_append, List.head?_cons, Option.some.injEq] at hd
    subst hd
    have := hw c (by simp)
    simp only [isBlank, Bool.or_eq_true, beq_iff_eq] at this
    rcases this with ((rfl | rfl) | rfl) | rfl <;> decide
theorem stop_cons {c : UInt8} (h : numc c = false) (r : Str) : Stop (c :: r) := by
  intro d hd; simp only [List.head?_cons, Option.some.injEq] at hd; subst hd; exact h
theorem skip_bl_cons {w : Str} (hw : Bl w) {c : UInt8} (hc : isBlank c = false) (r : Str) : skip (w ++ c :: r) = c :: r := by
  rw [skip_append hw, skip_cons hc]
theorem skip_bl_v {w t : Str} {n : Nd} (hw : Bl w) (h : Shows t (.v n)) (r : Str) : skip (w ++ (t ++ r)) = t ++ r := by
  rw [skip_append hw, h.skip_v]
theorem take_v_none {t : Str} {n : Nd} (h : Shows t (.v n)) {d : UInt8} (hd : vhead d = false) (r : Str) : pTake d (t ++ r) = none := by
  obtain ⟨c, t, rfl, hc⟩ := h.head n rfl
  have := vhead_ne hc hd
  simp [pTake, this]
theorem pVal_num (L n : Nat) {t r : Str} (h : IsNum t) (hr : Stop r) :
    pVal L (n + 1) (t ++ r) = some (.mk 3 (L - (t ++ r).length) (L - r.length) [] [], r) := by
  obtain ⟨c, hc, hd⟩ := h.head
  cases t with
  | nil => simp at hc
  | cons d t =>
    simp only [List.head?_cons, Option.some.injEq] at hc
    subst hc
    have hne : ∀ e : UInt8, e ≠ 45 → isDig e = false → d ≠ e := by
      intro e he1 he2
      rcases hd with rfl | hd
      · exact fun h => he1 h.symm
      · exact isDig_ne hd he2
    have hgo := h.go hr
    simp only [List.cons_append] at hgo ⊢
    rw [pVal]
    rw [if_neg (hne 123 (by decide) (by decide)), if_neg (hne 91 (by decide) (by decide)), if_neg (hne 34 (by decide) (by decide)), if_pos hd, hgo]
    rfl
theorem sub_at' {T pre t r : Str} (h : T = pre ++ (t ++ r)) {a b : Nat} (ha : a = (t ++ r).length) (hb : b = r.length) : sub T (T.length - a) (T.length - b) = t := by
  subst ha; subst hb; exact sub_at h
theorem complete (T : Str) {t : Str} {it : It} (h : Shows t it) :
    match it with
    | .v n => ∀ (pre r : Str) (f : Nat), T = pre ++ (t ++ r) → Stop r → 2 * t.length ≤ f → ∃ p, pVal T.length f (t ++ r) = some (p, r) ∧ tree T p = n
    | .e l => ∀ (pre r : Str) (f : Nat), T = pre ++ (t ++ 93 :: r) → 2 * t.length + 1 ≤ f → ∃ ps, pElems T.length f (skip (t ++ 93 :: r)) = some (ps, r) ∧ trees T ps = l
    | .m ks l => ∀ (pre r : Str) (f : Nat), T = pre ++ (t ++ 125 :: r) → 2 * t.length + 1 ≤ f → ∃ ns ps, pMems T.length f (skip (t ++ 125 :: r)) = some (ns, ps, r) ∧ (ns.map fun x => unquote (sub T x.1 x.2)) = ks ∧ trees T ps = l := by
  induction h with
  | nul =>
    intro pre r f hT hr hf
    obtain ⟨f, rfl⟩ : ∃ g, f = g + 1 := ⟨f - 1, by simp at hf; omega⟩
    exact ⟨_, rfl, by simp [tree, trees]⟩
  | fls =>
    intro pre r f hT hr hf
    obtain ⟨f, rfl⟩ : ∃ g, f = g + 1 := ⟨f - 1, by simp at hf; omega⟩
    exact ⟨_, rfl, by simp [tree, trees]⟩
  | tru =>
    intro pre r f hT hr hf
    obtain ⟨f, rfl⟩ : ∃ g, f = g + 1 := ⟨f - 1, by simp at hf; omega⟩
    exact ⟨_, rfl, by simp [tree, trees]⟩
  | @num t h =>
    intro pre r f hT hr hf
    have h0 : 0 < t.length := by
      obtain ⟨c, hc, _⟩ := IsNum.head h
      cases t with
      | nil => simp at hc
      | cons => simp
    obtain ⟨f, rfl⟩ : ∃ g, f = g + 1 := ⟨f - 1, by omega⟩
    refine ⟨_, pVal_num _ _ h hr, ?_⟩
    simp only [tree, trees, List.map_nil, if_true, sub_at hT]
  | @str i h =>
    intro pre r f hT hr hf
    obtain ⟨f, rfl⟩ : ∃ g, f = g + 1 := ⟨f - 1, by simp at hf; omega⟩
    have e : 34 :: i ++ [34] ++ r = 34 :: (i ++ 34 :: r) := by simp
    refine ⟨.mk 4 (T.length - (34 :: i ++ [34] ++ r).length) (T.length - r.length) [] [], ?_, ?_⟩
    · rw [e, pVal, if_neg (by decide), if_neg (by decide), if_pos rfl, h.go]
      simp
    · simp only [tree, trees, List.map_nil, sub_at hT]
      simp only [show (4 : Nat) ≠ 3 from by decide, if_false, if_true, unquote_mk]
  | @arr0 w h =>
    intro pre r f hT hr hf
    obtain ⟨f, rfl⟩ : ∃ g, f = g + 1 := ⟨f - 1, by simp at hf; omega⟩
    have e : 91 :: w ++ [93] ++ r = 91 :: (w ++ 93 :: r) := by simp
    rw [e, pVal, if_neg (by decide), if_pos rfl, skip_bl_cons h (by decide), pTake_self]
    exact ⟨_, rfl, by simp [tree, trees]⟩
  | @arr t l h ih =>
    intro pre r f hT hr hf
    obtain ⟨f, rfl⟩ : ∃ g, f = g + 1 := ⟨f - 1, by simp at hf; omega⟩
    have e : 91 :: t ++ [93] ++ r = 91 :: (t ++ 93 :: r) := by simp
    obtain ⟨ps, h1, h2⟩ := ih (pre ++ [91]) r f (by rw [hT]; simp) (by simp at hf; omega)
    have h93 : pTake 93 (skip (t ++ 93 :: r)) = none := by
      cases h with
      | e1 hw h hw2 => rw [List.append_assoc, List.append_assoc, skip_bl_v hw h]; exact take_v_none h (by decide) _
      | e2 hw h hw2 hr2 => rw [List.append_assoc, List.append_assoc, List.append_assoc, skip_bl_v hw h]; exact take_v_none h (by decide) _
    rw [e, pVal, if_neg (by decide), if_pos rfl, h93, h1]
    exact ⟨_, rfl, by simp [tree, h2]⟩
  | @obj0 w h =>
    intro pre r f hT hr hf
    obtain ⟨f, rfl⟩ : ∃ g, f = g + 1 := ⟨f - 1, by simp at hf; omega⟩
    have e : 123 :: w ++ [125] ++ r = 123 :: (w ++ 125 :: r) := by simp
    rw [e, pVal, if_pos rfl, skip_bl_cons h (by decide), pTake_self]
    exact ⟨_, rfl, by simp [tree, trees]⟩
  | @obj t ks l h ih =>
    intro pre r f hT hr hf
    obtain ⟨f, rfl⟩ : ∃ g, f = g + 1 := ⟨f - 1, by simp at hf; omega⟩
    have e : 123 :: t ++ [125] ++ r = 123 :: (t ++ 125 :: r) := by simp
    obtain ⟨ns, ps, h1, h2, h3⟩ := ih (pre ++ [123]) r f (by rw [hT]; simp) (by simp at hf; omega)
    have h93 : pTake 125 (skip (t ++ 125 :: r)) = none := by
      cases h with
      | m1 hw hi hw2 hw3 h hw4 => simp only [List.append_assoc, List.cons_append]; rw [skip_bl_cons hw (by decide)]; rfl
      | m2 hw hi hw2 hw3 h hw4 hr2 => simp only [List.append_assoc, List.cons_append]; rw [skip_bl_cons hw (by decide)]; rfl
    rw [e, pVal, if_pos rfl, h93, h1]
    exact ⟨_, rfl, by simp [tree, h2, h3]⟩
  | @e1 w1 t w2 n h1 h h2 ih =>
    intro pre r f hT hf
    obtain ⟨f, rfl⟩ : ∃ g, f = g + 1 := ⟨f - 1, by omega⟩
    obtain ⟨p, hp, hn⟩ := ih (pre ++ w1) (w2 ++ 93 :: r) f (by rw [hT]; simp) (stop_bl h2 (stop_cons (by decide) _)) (by simp at hf; omega)
    have e : w1 ++ t ++ w2 ++ 93 :: r = w1 ++ (t ++ (w2 ++ 93 :: r)) := by simp
    refine ⟨[p], ?_, by simp [trees, hn]⟩
    rw [e, skip_bl_v h1 h, pElems, hp]
    simp only [skip_bl_cons h2 (show isBlank 93 = false by decide), pTake_self]
  | @e2 w1 t w2 r' n l h1 h h2 hr ih ih2 =>
    intro pre r f hT hf
    obtain ⟨f, rfl⟩ : ∃ g, f = g + 1 := ⟨f - 1, by omega⟩
    obtain ⟨p, hp, hn⟩ := ih (pre ++ w1) (w2 ++ 44 :: (r' ++ 93 :: r)) f (by rw [hT]; simp) (stop_bl h2 (stop_cons (by decide) _)) (by simp at hf; omega)
    obtain ⟨ps, hps, hl⟩ := ih2 (pre ++ w1 ++ t ++ w2 ++ [44]) r f (by rw [hT]; simp) (by simp at hf; omega)
    have e : w1 ++ t ++ w2 ++ 44 :: r' ++ 93 :: r = w1 ++ (t ++ (w2 ++ 44 :: (r' ++ 93 :: r))) := by simp
    refine ⟨p :: ps, ?_, by simp [trees, hn, hl]⟩
    rw [e, skip_bl_v h1 h, pElems, hp]
    simp only [skip_bl_cons h2 (show isBlank 44 = false by decide), pTake_self, hps, Option.map_some]
    rfl
  | @m1 w1 i w2 w3 t w4 n h1 hi h2 h3 h h4 ih =>
    intro pre r f hT hf
    obtain ⟨f, rfl⟩ : ∃ g, f = g + 1 := ⟨f - 1, by omega⟩
    obtain ⟨p, hp, hn⟩ := ih (pre ++ w1 ++ 34 :: i ++ 34 :: w2 ++ 58 :: w3) (w4 ++ 125 :: r) f (by rw [hT]; simp) (stop_bl h4 (stop_cons (by decide) _)) (by simp at hf; omega)
    have e : w1 ++ (34 :: i ++ [34]) ++ w2 ++ 58 :: w3 ++ t ++ w4 ++ 125 :: r = w1 ++ 34 :: (i ++ 34 :: (w2 ++ 58 :: (w3 ++ (t ++ (w4 ++ 125 :: r))))) := by simp
    have hq : sub T (T.length - (34 :: (i ++ 34 :: (w2 ++ 58 :: (w3 ++ (t ++ (w4 ++ 125 :: r)))))).length) (T.length - (w2 ++ 58 :: (w3 ++ (t ++ (w4 ++ 125 :: r)))).length) = 34 :: i ++ [34] :=
      sub_at' (pre := pre ++ w1) (r := w2 ++ 58 :: (w3 ++ (t ++ (w4 ++ 125 :: r)))) (by rw [hT]; simp) (by simp) rfl
    refine ⟨[(T.length - (34 :: (i ++ 34 :: (w2 ++ 58 :: (w3 ++ (t ++ (w4 ++ 125 :: r)))))).length, T.length - (w2 ++ 58 :: (w3 ++ (t ++ (w4 ++ 125 :: r)))).length)], [p], ?_, ?_, by simp [trees, hn]⟩
    · rw [e, skip_bl_cons h1 (by decide), pMems, pTake_self, Option.bind_some, hi.go]
      simp only [skip_bl_cons h2 (show isBlank 58 = false by decide), pTake_self, skip_bl_v h3 h, hp, skip_bl_cons h4 (show isBlank 125 = false by decide)]
    · simp only [List.map_cons, List.map_nil, hq, unquote_mk]
  | @m2 w1 i w2 w3 t w4 r' n ks l h1 hi h2 h3 h h4 hr ih ih2 =>
    intro pre r f hT hf
    obtain ⟨f, rfl⟩ : ∃ g, f = g + 1 := ⟨f - 1, by omega⟩
    obtain ⟨p, hp, hn⟩ := ih (pre ++ w1 ++ 34 :: i ++ 34 :: w2 ++ 58 :: w3) (w4 ++ 44 :: (r' ++ 125 :: r)) f (by rw [hT]; simp) (stop_bl h4 (stop_cons (by decide) _)) (by simp at hf; omega)
    obtain ⟨ns, ps, hps, hk, hl⟩ := ih2 (pre ++ w1 ++ 34 :: i ++ 34 :: w2 ++ 58 :: w3 ++ t ++ w4 ++ [44]) r f (by rw [hT]; simp) (by simp at hf; omega)
    have e : w1 ++ (34 :: i ++ [34]) ++ w2 ++ 58 :: w3 ++ t ++ w4 ++ 44 :: r' ++ 125 :: r = w1 ++ 34 :: (i ++ 34 :: (w2 ++ 58 :: (w3 ++ (t ++ (w4 ++ 44 :: (r' ++ 125 :: r)))))) := by simp
    have hq : sub T (T.length - (34 :: (i ++ 34 :: (w2 ++ 58 :: (w3 ++ (t ++ (w4 ++ 44 :: (r' ++ 125 :: r))))))).length) (T.length - (w2 ++ 58 :: (w3 ++ (t ++ (w4 ++ 44 :: (r' ++ 125 :: r))))).length) = 34 :: i ++ [34] :=
      sub_at' (pre := pre ++ w1) (r := w2 ++ 58 :: (w3 ++ (t ++ (w4 ++ 44 :: (r' ++ 125 :: r))))) (by rw [hT]; simp) (by simp) rfl
    refine ⟨(T.length - (34 :: (i ++ 34 :: (w2 ++ 58 :: (w3 ++ (t ++ (w4 ++ 44 :: (r' ++ 125 :: r))))))).length, T.length - (w2 ++ 58 :: (w3 ++ (t ++ (w4 ++ 44 :: (r' ++ 125 :: r))))).length) :: ns, p :: ps, ?_, ?_, by simp [trees, hn, hl]⟩
    · rw [e, skip_bl_cons h1 (by decide), pMems, pTake_self, Option.bind_some, hi.go]
      simp only [skip_bl_cons h2 (show isBlank 58 = false by decide), pTake_self, skip_bl_v h3 h, hp, skip_bl_cons h4 (show isBlank 44 = false by decide), hps, Option.map_some]
      rfl
    · simp only [List.map_cons, hq, unquote_mk, hk]
theorem text_complete {T : Str} {n : Nd} (h : Text T n) : ∃ p, pText T = some p ∧ tree T p = n := by
  obtain ⟨w1, t, w2, hT, h1, h2, hs⟩ := h
  have e : T = w1 ++ (t ++ w2) := by rw [hT]; simp
  obtain ⟨p, hp, hn⟩ := complete T hs w1 w2 (2 * T.length + 2) e (by have := stop_bl h2 Stop.nil; simpa using this) (by rw [e]; simp; omega)
  refine ⟨p, ?_, hn⟩
  unfold pText
  have : skip T = t ++ w2 := by rw [e]; exact skip_bl_v h1 hs _
  rw [this, hp]
  simp [skip_bl h2]
end Js
set_option linter.unusedVariables false
namespace Js
def trailFrom (n : Nat) (s : Str) : Nat := s.foldl (fun n c => if c = 92 then n + 1 else 0) n
def trail (s : Str) : Nat := trailFrom 0 s
theorem trail_snoc (s : Str) (c : UInt8) : trail (s ++ [c]) = if c = 92 then trail s + 1 else 0 := by simp [trail, trailFrom]
theorem trailFrom_mod (s : Str) : ∀ n m : Nat, n % 2 = m % 2 → trailFrom n s % 2 = trailFrom m s % 2 := by
  induction s with
  | nil => intro n m h; exact h
  | cons c s ih =>
    intro n m h
    simp only [trailFrom, List.foldl_cons] at ih ⊢
    by_cases hc : c = 92
    · simp only [hc, if_true]; exact ih _ _ (by omega)
    · simp only [hc, if_false]
theorem trailFrom_append (n : Nat) (a b : Str) : trailFrom n (a ++ b) = trailFrom (trailFrom n a) b := by simp [trailFrom]
theorem trail_plain {c : UInt8} (hc : c ≠ 92) (s : Str) : trail (c :: s) = trail s := by simp [trail, trailFrom, hc]
theorem trail_pair (d : UInt8) (s : Str) : trail (92 :: d :: s) % 2 = trail s % 2 := by
  simp only [trail, trailFrom, List.foldl_cons, if_true]
  by_cases hd : d = 92
  · simp only [hd, if_true]; exact trailFrom_mod s 2 0 (by decide)
  · simp only [hd, if_false]
theorem hex_ne {c : UInt8} (h : (hexVal c).isSome = true) {d : UInt8} (hd : (hexVal d).isSome = false) : c ≠ d := by rintro rfl; rw [h] at hd; cases hd
theorem pHex_take : ∀ (n : Nat) (s r : Str), pHex n s = some r → ∃ t, s = t ++ r ∧ t.length = n ∧ ∀ c ∈ t, (hexVal c).isSome = true
  | 0, s, r, h => by simp [pHex] at h; exact ⟨[], by simp [h], rfl, by simp⟩
  | n + 1, [], r, h => by simp [pHex] at h
  | n + 1, c :: s, r, h => by
    simp only [pHex] at h
    split at h
    · rename_i hc
      obtain ⟨t, rfl, hl, ht⟩ := pHex_take n s r h
      refine ⟨c :: t, rfl, by simp [hl], ?_⟩
      intro x hx; rcases List.mem_cons.1 hx with rfl | hx; exact hc; exact ht x hx
    · simp at h
theorem esc_take {s r : Str} (h : pEsc s = some r) : (∃ d, s = d :: r ∧ escLetter d = true) ∨ (∃ t, s = 117 :: t ++ r ∧ t.length = 4 ∧ ∀ c ∈ t, (hexVal c).isSome = true) := by
  cases s with
  | nil => simp [pEsc] at h
  | cons c s =>
    simp only [pEsc] at h
    split at h
    · rename_i hc; simp at h; subst h; exact .inl ⟨c, rfl, hc⟩
    · split at h
      · rename_i h2; subst h2
        obtain ⟨t, rfl, hl, ht⟩ := pHex_take 4 s r h
        exact .inr ⟨t, rfl, hl, ht⟩
      · simp at h
theorem trail_hex {t : Str} (ht : ∀ c ∈ t, (hexVal c).isSome = true) (s : Str) : trail (92 :: 117 :: t ++ s) = trail s := by
  have : ∀ (t : Str), (∀ c ∈ t, (hexVal c).isSome = true) → trailFrom 0 t = 0 := by
    intro t
    induction t with
    | nil => intro _; rfl
    | cons c t ih =>
      intro h
      have hc : c ≠ 92 := hex_ne (h c (by simp)) (by decide)
      simp only [trailFrom, List.foldl_cons, hc, if_false] at ih ⊢
      exact ih (fun x hx => h x (by simp [hx]))
  show trailFrom 0 (92 :: 117 :: (t ++ s)) = _
  have e : trailFrom 0 (92 :: 117 :: (t ++ s)) = trailFrom 0 (t ++ s) := by simp [trailFrom]
  rw [e, trailFrom_append, this t ht]; rfl
theorem ins_trail : ∀ (n : Nat) (i : Str), i.length = n → Ins i → trail i % 2 = 0 ∧ ∀ p r, i = p ++ 34 :: r → trail p % 2 = 1 := by
  intro n
  induction n using Nat.strongRecOn with
  | _ n ih =>
    intro i hn h
    unfold Ins at h
    cases i with
    | nil => exact ⟨rfl, fun p r e => by simp at e⟩
    | cons c i =>
      rw [List.cons_append, pStr_cons] at h
      split at h
      · simp at h
      · rename_i h34
        split at h
        · simp at h
        · split at h
          · rename_i h92; subst h92
            obtain ⟨s1, h4, h5⟩ := Option.bind_eq_some_iff.1 h
            rcases esc_take h4 with ⟨d, hd, hl⟩ | ⟨t, ht, hl, hx⟩
            · cases i with
              | nil =>
                simp only [List.nil_append, List.cons.injEq] at hd
                rw [← hd.2] at h5; rw [pStr_nil] at h5; simp at h5
              | cons d' i =>
                simp only [List.cons_append, List.cons.injEq] at hd
                obtain ⟨rfl, rfl⟩ := hd
                obtain ⟨a, b⟩ := ih i.length (by simp at hn; omega) i rfl h5
                refine ⟨by rw [trail_pair]; exact a, fun p r e => ?_⟩
                cases p with
                | nil => simp at e
                | cons p0 p =>
                  simp only [List.cons_append, List.cons.injEq] at e
                  obtain ⟨rfl, e⟩ := e
                  cases p with
                  | nil => decide
                  | cons p1 p =>
                    simp only [List.cons_append, List.cons.injEq] at e
                    obtain ⟨rfl, e⟩ := e
                    rw [trail_pair]; exact b p r e
            · have hlen : 5 ≤ i.length := by
                have hs1 : s1 ≠ [] := by rintro rfl; rw [pStr_nil] at h5; simp at h5
                have := congrArg List.length ht
                have h6 : 0 < s1.length := List.length_pos_iff.2 hs1
                simp [hl] at this; omega
              obtain ⟨i', rfl, hs⟩ : ∃ i', i = 117 :: t ++ i' ∧ s1 = i' ++ [34] := by
                have e1 : (117 :: t).length = 5 := by simp [hl]
                have h1 : i.take 5 = 117 :: t := by
                  have := congrArg (List.take 5) ht
                  rw [List.take_append_of_le_length hlen] at this
                  rw [this, ← e1, List.take_left]
                have h2 : i.drop 5 ++ [34] = s1 := by
                  have := congrArg (List.drop 5) ht
                  rw [List.drop_append_of_le_length hlen] at this
                  rw [this, ← e1, List.drop_left]
                exact ⟨i.drop 5, by rw [← h1, List.take_append_drop], h2.symm⟩
              subst hs
              obtain ⟨a, b⟩ := ih i'.length (by simp at hn; omega) i' rfl h5
              refine ⟨by rw [← List.cons_append, trail_hex hx]; exact a, fun p r e => ?_⟩
              have hp : ∃ p', p = 92 :: 117 :: t ++ p' := by
                have hmem : ∀ c ∈ (92 :: 117 :: t : Str), c ≠ 34 := by
                  intro c hc
                  rcases List.mem_cons.1 hc with rfl | hc; decide
                  rcases List.mem_cons.1 hc with rfl | hc; decide
                  exact hex_ne (hx c hc) (by decide)
                have e' : (92 :: 117 :: t) ++ i' = p ++ 34 :: r := by simpa using e
                clear e b a ih hn h h4 h5 ht
                generalize (92 :: 117 :: t : Str) = q at *
                induction q generalizing p with
                | nil => exact ⟨p, rfl⟩
                | cons q0 q ihq =>
                  cases p with
                  | nil =>
                    simp only [List.cons_append, List.nil_append, List.cons.injEq] at e'
                    exact absurd e'.1 (hmem q0 (by simp))
                  | cons p0 p =>
                    simp only [List.cons_append, List.cons.injEq] at e'
                    obtain ⟨rfl, e'⟩ := e'
                    obtain ⟨p', rfl⟩ := ihq p (fun c hc => hmem c (by simp [hc])) e'
                    exact ⟨p', rfl⟩
              obtain ⟨p', rfl⟩ := hp
              rw [trail_hex hx]
              refine b p' r ?_
              have : (92 :: 117 :: t) ++ i' = (92 :: 117 :: t) ++ (p' ++ 34 :: r) := by simpa using e
              exact List.append_cancel_left this
          · rename_i h92
            obtain ⟨a, b⟩ := ih i.length (by simp at hn; omega) i rfl h
            refine ⟨by rw [trail_plain h92]; exact a, fun p r e => ?_⟩
            cases p with
            | nil => simp only [List.nil_append, List.cons.injEq] at e; exact absurd e.1 h34
            | cons p0 p =>
              simp only [List.cons_append, List.cons.injEq] at e
              obtain ⟨rfl, e⟩ := e
              rw [trail_plain h92]; exact b p r e
theorem Ins.even {i : Str} (h : Ins i) : trail i % 2 = 0 := (ins_trail _ i rfl h).1
theorem Ins.odd {i p r : Str} (h : Ins i) (e : i = p ++ 34 :: r) : trail p % 2 = 1 := (ins_trail _ i rfl h).2 p r e
end Js
set_option linter.unusedVariables false
namespace Js
def vcls (c : UInt8) : Nat := if c = 34 then 2 else if c = 123 ∨ c = 91 ∨ c = 40 then 3 else if c = 125 ∨ c = 93 ∨ c = 41 then 1 else 0
def Quo (i : Str) : Prop := trail i % 2 = 0 ∧ ∀ p r, i = p ++ 34 :: r → trail p % 2 = 1
theorem Ins.quo {i : Str} (h : Ins i) : Quo i := ⟨h.even, fun _ _ e => h.odd e⟩
inductive Nest : Nat → Str → Nat → Prop where
  | plain {d : Nat} {c : UInt8} {s : Str} {k : Nat} (hc : vcls c = 0) (h : Nest d s k) : Nest d (c :: s) (k + 1)
  | str {d : Nat} {i s : Str} {k : Nat} (hi : Quo i) (h : Nest d s k) : Nest d (34 :: (i ++ 34 :: s)) (i.length + 2 + k)
  | opn {d : Nat} {c : UInt8} {s : Str} {k : Nat} (hc : vcls c = 3) (h : Nest (d + 1) s k) : Nest d (c :: s) (k + 1)
  | cls {d : Nat} {c : UInt8} {s : Str} {k : Nat} (hc : vcls c = 1) (h : Nest (d + 1) s k) : Nest (d + 2) (c :: s) (k + 1)
  | last {c : UInt8} {s : Str} (hc : vcls c = 1) : Nest 1 (c :: s) 1
theorem Nest.pos {d : Nat} {s : Str} {k : Nat} (h : Nest d s k) : 0 < k := by
  cases h <;> omega
theorem nest_plain : ∀ (t : Str), (∀ c ∈ t, vcls c = 0) → ∀ {d : Nat} {s : Str} {k : Nat}, Nest d s k → Nest d (t ++ s) (t.length + k)
  | [], _, d, s, k, h => by simpa using h
  | c :: t, ht, d, s, k, h => by
    have := nest_plain t (fun x hx => ht x (by simp [hx])) h
    have := Nest.plain (ht c (by simp)) this
    simpa [Nat.add_right_comm, Nat.add_assoc, Nat.add_comm] using this
theorem bl_vcls {w : Str} (hw : Bl w) : ∀ c ∈ w, vcls c = 0 := by
  intro c hc
  have := hw c hc
  simp only [isBlank, Bool.or_eq_true, beq_iff_eq] at this
  rcases this with ((rfl | rfl) | rfl) | rfl <;> decide
theorem dig_ne {c : UInt8} (h : isDig c = true) : vcls c = 0 := by
  unfold vcls
  have hn : ∀ d : UInt8, isDig d = false → c ≠ d := fun d hd => isDig_ne h hd
  rw [if_neg (hn 34 (by decide)), if_neg, if_neg]
  · rintro (h1 | h1 | h1) <;> exact hn _ (by decide) h1
  · rintro (h1 | h1 | h1) <;> exact hn _ (by decide) h1
theorem exp_chars {s r : Str} (h : pExp s = some r) : ∃ t, s = t ++ r ∧ ∀ c ∈ t, numc c = true := by
  by_cases h1 : s.head? = some 101 ∨ s.head? = some 69
  · obtain ⟨c, s, rfl, hc⟩ : ∃ c s', s = c :: s' ∧ (c = 101 ∨ c = 69) := by
      cases s with
      | nil => simp at h1
      | cons c s => exact ⟨c, s, rfl, by simpa using h1⟩
    have hcn : numc c = true := by rcases hc with rfl | rfl <;> decide
    rw [pExp_head c hc] at h
    have key : ∀ (p : Str) (u : Str), (∀ x ∈ p, numc x = true) → pDigits u = some r → ∃ t, c :: (p ++ u) = t ++ r ∧ ∀ x ∈ t, numc x = true := by
      intro p u hp hu
      obtain ⟨d, rfl, _, hd, _⟩ := pDigits_some hu
      refine ⟨c :: (p ++ d), by simp, ?_⟩
      intro x hx
      simp only [List.mem_cons, List.mem_append] at hx
      rcases hx with rfl | hx | hx
      · exact hcn
      · exact hp x hx
      · exact numc_dig (hd x hx)
    cases h43 : pTake 43 s with
    | some s1 =>
      rw [h43] at h
      obtain rfl := pTake_some.1 h43
      exact key [43] s1 (by decide) h
    | none =>
      rw [h43] at h
      cases h45 : pTake 45 s with
      | some s1 =>
        rw [h45] at h
        obtain rfl := pTake_some.1 h45
        exact key [45] s1 (by decide) h
      | none =>
        rw [h45] at h
        exact key [] s (by simp) h
  · rw [pExp_none (fun h => h1 (.inl h)) (fun h => h1 (.inr h))] at h
    obtain rfl := Option.some.inj h
    exact ⟨[], rfl, by simp⟩
theorem frac_chars {s r : Str} (h : pFrac s = some r) : ∃ t, s = t ++ r ∧ ∀ c ∈ t, numc c = true := by
  unfold pFrac at h
  cases h46 : pTake 46 s with
  | some s1 =>
    rw [h46] at h
    obtain rfl := pTake_some.1 h46
    obtain ⟨s2, hd, he⟩ := Option.bind_eq_some_iff.1 h
    obtain ⟨d, rfl, _, hdd, _⟩ := pDigits_some hd
    obtain ⟨t, rfl, ht⟩ := exp_chars he
    refine ⟨46 :: (d ++ t), by simp, ?_⟩
    intro x hx
    simp only [List.mem_cons, List.mem_append] at hx
    rcases hx with rfl | hx | hx
    · decide
    · exact numc_dig (hdd x hx)
    · exact ht x hx
  | none => rw [h46] at h; exact exp_chars h
theorem num0_chars {s r : Str} (h : pNum0 s = some r) : ∃ t, s = t ++ r ∧ ∀ c ∈ t, numc c = true := by
  unfold pNum0 at h
  cases h48 : pTake 48 s with
  | some s1 =>
    rw [h48] at h
    obtain rfl := pTake_some.1 h48
    obtain ⟨t, rfl, ht⟩ := frac_chars h
    refine ⟨48 :: t, rfl, ?_⟩
    intro x hx
    rcases List.mem_cons.1 hx with rfl | hx
    · decide
    · exact ht x hx
  | none =>
    rw [h48] at h
    obtain ⟨s2, hd, he⟩ := Option.bind_eq_some_iff.1 h
    obtain ⟨d, rfl, _, hdd, _⟩ := pDigits_some hd
    obtain ⟨t, rfl, ht⟩ := frac_chars he
    refine ⟨d ++ t, by simp, ?_⟩
    intro x hx
    rcases List.mem_append.1 hx with hx | hx
    · exact numc_dig (hdd x hx)
    · exact ht x hx
theorem IsNum.chars {t : Str} (h : IsNum t) : ∀ c ∈ t, numc c = true := by
  unfold IsNum at h
  rw [pNum_eq] at h
  cases h45 : pTake 45 t with
  | some s1 =>
    rw [h45] at h
    obtain rfl := pTake_some.1 h45
    obtain ⟨u, hu, hc⟩ := num0_chars (s := s1) h
    rw [List.append_nil] at hu
    subst hu
    intro x hx
    rcases List.mem_cons.1 hx with rfl | hx
    · decide
    · exact hc x hx
  | none =>
    rw [h45] at h
    obtain ⟨u, hu, hc⟩ := num0_chars (s := t) h
    rw [List.append_nil] at hu
    subst hu
    exact hc
theorem numc_vcls {c : UInt8} (h : numc c = true) : vcls c = 0 := by
  simp only [numc, Bool.or_eq_true, beq_iff_eq] at h
  rcases h with ((((h | rfl) | rfl) | rfl) | rfl) | rfl
  · exact dig_ne h
  all_goals decide
theorem nest_it {t : Str} {it : It} (h : Shows t it) : ∀ {d : Nat} {s : Str} {k : Nat}, Nest (d + 1) s k → Nest (d + 1) (t ++ s) (t.length + k) := by
  induction h with
  | nul => exact nest_plain _ (by decide)
  | fls => exact nest_plain _ (by decide)
  | tru => exact nest_plain _ (by decide)
  | num h => exact nest_plain _ (fun c hc => numc_vcls (IsNum.chars h c hc))
  | @str i h =>
    intro d s k hs
    have := Nest.str h.quo hs
    have e : 34 :: i ++ [34] ++ s = 34 :: (i ++ 34 :: s) := by simp
    rw [e]
    have e2 : (34 :: i ++ [34]).length + k = i.length + 2 + k := by simp
    rw [e2]; exact this
  | @arr0 w h =>
    intro d s k hs
    have := Nest.opn (c := 91) (by decide) (nest_plain w (bl_vcls h) (Nest.cls (c := 93) (by decide) hs))
    have e : 91 :: w ++ [93] ++ s = 91 :: (w ++ 93 :: s) := by simp
    rw [e]
    have e2 : (91 :: w ++ [93]).length + k = w.length + (k + 1) + 1 := by simp; omega
    rw [e2]; exact this
  | @arr t l h ih =>
    intro d s k hs
    have := Nest.opn (c := 91) (by decide) (ih (Nest.cls (c := 93) (by decide) hs))
    have e : 91 :: t ++ [93] ++ s = 91 :: (t ++ 93 :: s) := by simp
    rw [e]
    have e2 : (91 :: t ++ [93]).length + k = t.length + (k + 1) + 1 := by simp; omega
    rw [e2]; exact this
  | @obj0 w h =>
    intro d s k hs
    have := Nest.opn (c := 123) (by decide) (nest_plain w (bl_vcls h) (Nest.cls (c := 125) (by decide) hs))
    have e : 123 :: w ++ [125] ++ s = 123 :: (w ++ 125 :: s) := by simp
    rw [e]
    have e2 : (123 :: w ++ [125]).length + k = w.length + (k + 1) + 1 := by simp; omega
    rw [e2]; exact this
  | @obj t ks l h ih =>
    intro d s k hs
    have := Nest.opn (c := 123) (by decide) (ih (Nest.cls (c := 125) (by decide) hs))
    have e : 123 :: t ++ [125] ++ s = 123 :: (t ++ 125 :: s) := by simp
    rw [e]
    have e2 : (123 :: t ++ [125]).length + k = t.length + (k + 1) + 1 := by simp; omega
    rw [e2]; exact this
  | @e1 w1 t w2 n h1 h h2 ih =>
    intro d s k hs
    have := nest_plain w1 (bl_vcls h1) (ih (nest_plain w2 (bl_vcls h2) hs))
    have e2 : (w1 ++ t ++ w2).length + k = w1.length + (t.length + (w2.length + k)) := by simp; omega
    rw [e2]; simpa using this
  | @e2 w1 t w2 r n l h1 h h2 hr ih ih2 =>
    intro d s k hs
    have := nest_plain w1 (bl_vcls h1) (ih (nest_plain w2 (bl_vcls h2) (Nest.plain (c := 44) (by decide) (ih2 hs))))
    have e2 : (w1 ++ t ++ w2 ++ 44 :: r).length + k = w1.length + (t.length + (w2.length + (r.length + k + 1))) := by simp; omega
    rw [e2]; simpa using this
  | @m1 w1 i w2 w3 t w4 n h1 hi h2 h3 h h4 ih =>
    intro d s k hs
    have := nest_plain w1 (bl_vcls h1) (Nest.str hi.quo (nest_plain w2 (bl_vcls h2) (Nest.plain (c := 58) (by decide) (nest_plain w3 (bl_vcls h3) (ih (nest_plain w4 (bl_vcls h4) hs))))))
    have e2 : (w1 ++ (34 :: i ++ [34]) ++ w2 ++ 58 :: w3 ++ t ++ w4).length + k = w1.length + (i.length + 2 + (w2.length + (w3.length + (t.length + (w4.length + k)) + 1))) := by simp; omega
    rw [e2]; simpa using this
  | @m2 w1 i w2 w3 t w4 r n ks l h1 hi h2 h3 h h4 hr ih ih2 =>
    intro d s k hs
    have := nest_plain w1 (bl_vcls h1) (Nest.str hi.quo (nest_plain w2 (bl_vcls h2) (Nest.plain (c := 58) (by decide) (nest_plain w3 (bl_vcls h3) (ih (nest_plain w4 (bl_vcls h4) (Nest.plain (c := 44) (by decide) (ih2 hs))))))))
    have e2 : (w1 ++ (34 :: i ++ [34]) ++ w2 ++ 58 :: w3 ++ t ++ w4 ++ 44 :: r).length + k = w1.length + (i.length + 2 + (w2.length + (w3.length + (t.length + (w4.length + (r.length + k + 1))) + 1))) := by simp; omega
    rw [e2]; simpa using this
theorem nest_value {t : Str} {k : Nat} {txt : Str} {ks : List Str} {l : List Nd} (h : Shows t (.v (.mk k txt ks l))) (hk : k = 5 ∨ k = 6) :
    ∃ c t', t = c :: t' ∧ vcls c = 3 ∧ ∀ s, Nest 1 (t' ++ s) t'.length := by
  cases h with
  | nul => simp at hk
  | fls => simp at hk
  | tru => simp at hk
  | num => simp at hk
  | str => simp at hk
  | @arr0 w h =>
    refine ⟨91, w ++ [93], rfl, by decide, fun s => ?_⟩
    have := nest_plain w (bl_vcls h) (Nest.last (c := 93) (s := s) (by decide))
    simpa using this
  | @arr t l h =>
    refine ⟨91, t ++ [93], rfl, by decide, fun s => ?_⟩
    have := nest_it h (d := 0) (Nest.last (c := 93) (s := s) (by decide))
    simpa using this
  | @obj0 w h =>
    refine ⟨123, w ++ [125], rfl, by decide, fun s => ?_⟩
    have := nest_plain w (bl_vcls h) (Nest.last (c := 125) (s := s) (by decide))
    simpa using this
  | @obj t ks l h =>
    refine ⟨123, t ++ [125], rfl, by decide, fun s => ?_⟩
    have := nest_it h (d := 0) (Nest.last (c := 125) (s := s) (by decide))
    simpa using this
end Js
