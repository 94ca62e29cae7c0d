/- Part 3 of the proof of FnGjJoinKeys: the statement Rows.FnGjJoinKeysCardSaid; no further condition. -/
import Derived.Test.YtelonenjneonlaaGreatDoorK02
set_option linter.all false
set_option linter.unusedVariables false
namespace Js
def tr (T : Str) (a p : Nat) : Nat := trail ((T.drop a).take (p - a))
theorem tr_self (T : Str) (a : Nat) : tr T a a = 0 := by simp [tr, trail, trailFrom]
theorem tr_next {T : Str} {a p : Nat} {c : UInt8} (h : a ≤ p) (hc : T[p]? = some c) : tr T a (p + 1) = if c = 92 then tr T a p + 1 else 0 := by
  unfold tr
  have e : p + 1 - a = (p - a) + 1 := by omega
  have hx : (T.drop a)[p - a]? = some c := by rw [List.getElem?_drop]; rw [show a + (p - a) = p by omega]; exact hc
  rw [e, List.take_add_one, hx]
  exact trail_snoc _ c
theorem tr_run {T : Str} {a : Nat} : ∀ (m p : Nat), a + m ≤ p → (∀ x, x < m → T[p - 1 - x]? = some 92) → tr T a p = tr T a (p - m) + m
  | 0, p, _, _ => rfl
  | m + 1, p, h, hx => by
    have h1 := tr_run (T := T) (a := a) m p (by omega) (fun x hl => hx x (by omega))
    have h2 := hx m (Nat.lt_succ_self m)
    have e : p - m = (p - 1 - m) + 1 := by omega
    have h3 : a ≤ p - 1 - m := by omega
    rw [h1, e, tr_next h3 h2, if_pos rfl, show p - (m + 1) = p - 1 - m by omega]
    omega
theorem tr_stop {T : Str} {a p : Nat} {c : UInt8} (h : a < p) (hc : T[p - 1]? = some c) (hn : c ≠ 92) : tr T a p = 0 := by
  have e : p = (p - 1) + 1 := by omega
  rw [e, tr_next (by omega) hc, if_neg hn]
theorem drop_cons {T : Str} {i : Nat} {c : UInt8} (h : T[i]? = some c) : T.drop i = c :: T.drop (i + 1) := by
  obtain ⟨hl, he⟩ := List.getElem?_eq_some_iff.1 h
  rw [List.drop_eq_getElem_cons hl, he]
theorem vcls_le (c : UInt8) : vcls c ≤ 3 := by unfold vcls; (repeat' split) <;> omega
theorem eq_t {c d : UInt8} {z : Int} (hz : z = (d.toNat : Int)) (h : ((c.toNat : Int) == z) = true) : c = d := by
  have := eq_of_beq h
  exact UInt8.toNat_inj.1 (by omega)
theorem eq_f {c d : UInt8} {z : Int} (hz : z = (d.toNat : Int)) (h : ((c.toNat : Int) == z) = false) : c ≠ d := by
  rintro rfl
  rw [hz] at h
  simp at h
theorem ne_t {c d : UInt8} {z : Int} (hz : z = (d.toNat : Int)) (h : ((c.toNat : Int) != z) = true) : c ≠ d := by
  rintro rfl
  rw [hz] at h
  simp at h
theorem ne_f {c d : UInt8} {z : Int} (hz : z = (d.toNat : Int)) (h : ((c.toNat : Int) != z) = false) : c = d := by
  have : (c.toNat : Int) = z := by simpa using h
  exact UInt8.toNat_inj.1 (by omega)
structure At (T : Str) (d i E : Nat) : Prop where
  nest : Nest d (T.drop i) (E - i)
  lt : i < E
  depth : 0 < d
  le : E ≤ T.length
theorem At.get {T : Str} {d i E : Nat} (h : At T d i E) : ∃ c, T[i]? = some c := ⟨_, List.getElem?_eq_getElem (by have := h.lt; have := h.le; omega)⟩
theorem At.small {T : Str} {d i E : Nat} (h : At T d i E) : i < T.length := by have := h.lt; have := h.le; omega
theorem At.plain {T : Str} {d i E : Nat} {c : UInt8} (h : At T d i E) (hc : T[i]? = some c) (h0 : vcls c = 0) : At T d (i + 1) E := by
  have h1 := h.nest
  rw [drop_cons hc] at h1
  have h2 := h.lt
  generalize he : E - i = k at h1
  generalize hs : T.drop (i + 1) = s at h1
  cases h1 with
  | plain _ h3 => exact ⟨by rw [hs, show E - (i + 1) = E - i - 1 by omega, he]; exact h3, by have := h3.pos; omega, h.depth, h.le⟩
  | str _ _ => exact absurd h0 (by decide)
  | opn h3 _ => rw [h0] at h3; exact absurd h3 (by decide)
  | cls h3 _ => rw [h0] at h3; exact absurd h3 (by decide)
  | last h3 => rw [h0] at h3; exact absurd h3 (by decide)
theorem At.opn {T : Str} {d i E : Nat} {c : UInt8} (h : At T d i E) (hc : T[i]? = some c) (h0 : vcls c = 3) : At T (d + 1) (i + 1) E := by
  have h1 := h.nest
  rw [drop_cons hc] at h1
  have h2 := h.lt
  generalize he : E - i = k at h1
  generalize hs : T.drop (i + 1) = s at h1
  cases h1 with
  | plain h3 _ => rw [h0] at h3; exact absurd h3 (by decide)
  | str _ _ => exact absurd h0 (by decide)
  | opn _ h3 => exact ⟨by rw [hs, show E - (i + 1) = E - i - 1 by omega, he]; exact h3, by have := h3.pos; omega, Nat.succ_pos _, h.le⟩
  | cls h3 _ => rw [h0] at h3; exact absurd h3 (by decide)
  | last h3 => rw [h0] at h3; exact absurd h3 (by decide)
theorem At.cls {T : Str} {d i E : Nat} {c : UInt8} (h : At T d i E) (hc : T[i]? = some c) (h0 : vcls c = 1) : (d = 1 ∧ i + 1 = E) ∨ (1 < d ∧ At T (d - 1) (i + 1) E) := by
  have h1 := h.nest
  rw [drop_cons hc] at h1
  have h2 := h.lt
  have h4 := h.le
  generalize he : E - i = k at h1
  generalize hs : T.drop (i + 1) = s at h1
  cases h1 with
  | plain h3 _ => rw [h0] at h3; exact absurd h3 (by decide)
  | str _ _ => exact absurd h0 (by decide)
  | opn h3 _ => rw [h0] at h3; exact absurd h3 (by decide)
  | cls _ h3 => exact .inr ⟨by omega, by rw [hs, show E - (i + 1) = E - i - 1 by omega, he]; exact h3, by have := h3.pos; omega, by omega, h4⟩
  | last _ => exact .inl ⟨rfl, by omega⟩
structure InStr (T : Str) (d a q E : Nat) : Prop where
  le : a ≤ q
  pos : 0 < a
  opens : T[a - 1]? = some 34
  ends : T[q]? = some 34
  even : tr T a q % 2 = 0
  odd : ∀ p, a ≤ p → p < q → T[p]? = some 34 → tr T a p % 2 = 1
  more : At T d (q + 1) E
theorem At.str {T : Str} {d i E : Nat} {c : UInt8} (h : At T d i E) (hc : T[i]? = some c) (h0 : vcls c = 2) : c = 34 ∧ ∃ q, InStr T d (i + 1) q E := by
  have hc34 : c = 34 := by
    unfold vcls at h0
    split at h0
    · assumption
    · split at h0
      · simp at h0
      · split at h0 <;> simp at h0
  subst hc34
  refine ⟨rfl, ?_⟩
  have h1 := h.nest
  have hd := drop_cons hc
  rw [hd] at h1
  have h2 := h.lt
  have h4 := h.le
  generalize he : E - i = k at h1
  generalize hs : T.drop (i + 1) = s at h1
  cases h1 with
  | plain h3 _ => exact absurd h3 (by decide)
  | opn h3 _ => exact absurd h3 (by decide)
  | cls h3 _ => exact absurd h3 (by decide)
  | last h3 => exact absurd h3 (by decide)
  | @str _ ins s' k' hq h3 =>
    have hp := h3.pos
    have hget : ∀ x, T[i + 1 + x]? = (ins ++ 34 :: s')[x]? := by intro x; rw [← hs, List.getElem?_drop]
    have htr : ∀ p, p ≤ ins.length → tr T (i + 1) (i + 1 + p) = trail (ins.take p) := by
      intro p hp
      unfold tr
      rw [hs, show i + 1 + p - (i + 1) = p by omega, List.take_append_of_le_length hp]
    refine ⟨i + 1 + ins.length, by omega, by omega, by rw [Nat.add_sub_cancel]; exact hc, by rw [hget]; simp, by rw [htr _ (Nat.le_refl _), List.take_length]; exact hq.1, ?_, ?_, by omega, h.depth, h4⟩
    · intro p h5 h6 h7
      obtain ⟨x, rfl⟩ : ∃ x, p = i + 1 + x := ⟨p - (i + 1), by omega⟩
      have hx : x < ins.length := by omega
      rw [htr x (by omega)]
      rw [hget, List.getElem?_append_left hx] at h7
      obtain ⟨hl, hv⟩ := List.getElem?_eq_some_iff.1 h7
      refine hq.2 (ins.take x) (ins.drop (x + 1)) ?_
      rw [← hv, List.getElem_cons_drop, List.take_append_drop]
    · have e : T.drop (i + 1 + ins.length + 1) = s' := by
        rw [show i + 1 + ins.length + 1 = (i + 1) + (ins.length + 1) by omega, ← List.drop_drop, hs]
        rw [show ins.length + 1 = (ins ++ [34]).length by simp, show ins ++ 34 :: s' = (ins ++ [34]) ++ s' by simp, List.drop_left]
      rw [e, show E - (i + 1 + ins.length + 1) = k' by omega]; exact h3
theorem InStr.small {T : Str} {d a q E : Nat} (h : InStr T d a q E) : q + 1 < T.length := by have := h.more.lt; have := h.more.le; omega
theorem InStr.bare {T : Str} {d a q E p : Nat} {c : UInt8} (h : InStr T d a q E) (h1 : a ≤ p) (h2 : p ≤ q) (h3 : T[p]? = some 34) (h4 : T[p - 1]? = some c) (h5 : c ≠ 92) : p = q := by
  rcases Nat.lt_or_eq_of_le h2 with hl | e
  · have ho := h.odd p h1 hl h3
    rcases Nat.lt_or_eq_of_le h1 with hl1 | e1
    · rw [tr_stop hl1 h4 h5] at ho; simp at ho
    · subst e1; rw [tr_self] at ho; simp at ho
  · exact e
theorem InStr.evenEnd {T : Str} {d a q E p : Nat} (h : InStr T d a q E) (h1 : a ≤ p) (h2 : p ≤ q) (h3 : T[p]? = some 34) (h4 : tr T a p % 2 = 0) : p = q := by
  rcases Nat.lt_or_eq_of_le h2 with hl | e
  · have ho := h.odd p h1 hl h3; omega
  · exact e
theorem InStr.oddGo {T : Str} {d a q E p : Nat} (h : InStr T d a q E) (h1 : a ≤ p) (h2 : p ≤ q) (h4 : tr T a p % 2 = 1) : p < q := by
  rcases Nat.lt_or_eq_of_le h2 with hl | e
  · exact hl
  · subst e; have := h.even; omega
theorem InStr.step {T : Str} {d a q E p : Nat} {c : UInt8} (h : InStr T d a q E) (h2 : p ≤ q) (h3 : T[p]? = some c) (h4 : c ≠ 34) : p + 1 ≤ q := by
  rcases Nat.lt_or_eq_of_le h2 with hl | e
  · exact hl
  · subst e; rw [h.ends] at h3; exact absurd (Option.some.inj h3).symm h4
theorem InStr.get {T : Str} {d a q E p : Nat} (h : InStr T d a q E) (h2 : p ≤ q) : ∃ c, T[p]? = some c := ⟨_, List.getElem?_eq_getElem (by have := h.small; omega)⟩
end Js
set_option linter.unusedVariables false
namespace Js
theorem seg_get {T t r : Str} {p j : Nat} (h : T.drop p = t ++ r) (hj : j < t.length) : T[p + j]? = t[j]? := by
  rw [← List.getElem?_drop, h, List.getElem?_append_left hj]
theorem seg_take {T t r : Str} {p : Nat} (h : T.drop p = t ++ r) : (T.drop p).take t.length = t := by rw [h, List.take_left]
theorem seg_len {T t r : Str} {p : Nat} (h : T.drop p = t ++ r) (h0 : t ≠ []) : p + t.length ≤ T.length := by
  have := congrArg List.length h
  have h1 : 0 < t.length := List.length_pos_iff.2 h0
  simp at this
  omega
theorem seg_next {T t r : Str} {p : Nat} (h : T.drop p = t ++ r) : T[p + t.length]? = r.head? := by
  rw [← List.getElem?_drop, h, List.getElem?_append_right (Nat.le_refl _), Nat.sub_self]
  cases r <;> rfl
theorem seg_end {T t r : Str} {p : Nat} (h : T.drop p = t ++ r) (h0 : t ≠ []) (he : T.length ≤ p + t.length) : r = [] := by
  have := congrArg List.length h
  have h1 : 0 < t.length := List.length_pos_iff.2 h0
  simp at this
  exact List.length_eq_zero_iff.1 (by omega)
theorem seg_more {T t r : Str} {p : Nat} (h : T.drop p = t ++ r) : T.drop (p + t.length) = r := by rw [← List.drop_drop, h, List.drop_left]
theorem seg_stop {T t r : Str} {p i : Nat} {c : UInt8} (stop : UInt8 → Prop) (h : T.drop p = t ++ r) (ht : ∀ j c, 0 < j → t[j]? = some c → ¬ stop c) (hr : ∀ c, r.head? = some c → stop c)
    (h1 : p < i) (h2 : i ≤ p + t.length) (hc : T[i]? = some c) : stop c ↔ i = p + t.length := by
  rcases Nat.lt_or_eq_of_le h2 with hl | he
  · have e : T[p + (i - p)]? = t[i - p]? := seg_get h (by omega)
    rw [show p + (i - p) = i by omega, hc] at e
    have := ht (i - p) c (by omega) e.symm
    exact ⟨fun hs => absurd hs this, fun he => by omega⟩
  · subst he
    rw [seg_next h] at hc
    exact ⟨fun _ => rfl, fun _ => hr c hc⟩
theorem beq_t {c d : UInt8} {z : Int} (hz : z = (d.toNat : Int)) (h : c = d) : ((c.toNat : Int) == z) = true := by subst h; rw [hz]; simp
theorem beq_f {c d : UInt8} {z : Int} (hz : z = (d.toNat : Int)) (h : c ≠ d) : ((c.toNat : Int) == z) = false := by
  have : ¬ (c.toNat : Int) = z := fun e => h (UInt8.toNat_inj.1 (by omega))
  simpa using this
theorem beq_dec {c d : UInt8} {z : Int} (hz : z = (d.toNat : Int)) : ((c.toNat : Int) == z) = decide (c = d) := by
  by_cases h : c = d
  · rw [beq_t hz h, decide_eq_true h]
  · rw [beq_f hz h, decide_eq_false h]
theorem bne_t {c d : UInt8} {z : Int} (hz : z = (d.toNat : Int)) (h : c ≠ d) : ((c.toNat : Int) != z) = true := by
  rw [bne, beq_f hz h]; rfl
def numEnd (c : UInt8) : Prop := c.toNat ≤ 32 ∨ c = 44 ∨ c = 93 ∨ c = 125
theorem numEnd_cases (c : UInt8) : c.toNat ≤ 32 ∨ (32 < c.toNat ∧ c = 44) ∨ (32 < c.toNat ∧ c ≠ 44 ∧ c = 93) ∨ (32 < c.toNat ∧ c ≠ 44 ∧ c ≠ 93 ∧ c = 125) ∨ (32 < c.toNat ∧ c ≠ 44 ∧ c ≠ 93 ∧ c ≠ 125 ∧ ¬ numEnd c) := by
  unfold numEnd
  by_cases h1 : c.toNat ≤ 32
  · exact .inl h1
  · have h1' : 32 < c.toNat := by omega
    by_cases h2 : c = 44
    · exact .inr (.inl ⟨h1', h2⟩)
    · by_cases h3 : c = 93
      · exact .inr (.inr (.inl ⟨h1', h2, h3⟩))
      · by_cases h4 : c = 125
        · exact .inr (.inr (.inr (.inl ⟨h1', h2, h3, h4⟩)))
        · exact .inr (.inr (.inr (.inr ⟨h1', h2, h3, h4, fun h => by rcases h with h | h | h | h; omega; exact h2 h; exact h3 h; exact h4 h⟩)))
structure Qt (T : Str) (a q : Nat) : Prop where
  le : a ≤ q
  pos : 0 < a
  opens : T[a - 1]? = some 34
  ends : T[q]? = some 34
  even : tr T a q % 2 = 0
  odd : ∀ p, a ≤ p → p < q → T[p]? = some 34 → tr T a p % 2 = 1
theorem Qt.mk' {T i r : Str} {p : Nat} (h : T.drop p = (34 :: i ++ [34]) ++ r) (hq : Quo i) : Qt T (p + 1) (p + 1 + i.length) := by
  have h1 : T.drop (p + 1) = i ++ (34 :: r) := by rw [← List.drop_drop, h]; simp
  have hget : ∀ x, T[p + 1 + x]? = (i ++ 34 :: r)[x]? := by intro x; rw [← h1, List.getElem?_drop]
  have htr : ∀ x, x ≤ i.length → tr T (p + 1) (p + 1 + x) = trail (i.take x) := by
    intro x hx
    unfold tr
    rw [h1, show p + 1 + x - (p + 1) = x by omega, List.take_append_of_le_length hx]
  refine ⟨by omega, by omega, ?_, by rw [hget]; simp, by rw [htr _ (Nat.le_refl _), List.take_length]; exact hq.1, ?_⟩
  · have := seg_get h (j := 0) (by simp)
    simpa using this
  · intro x h5 h6 h7
    obtain ⟨y, rfl⟩ : ∃ y, x = p + 1 + y := ⟨x - (p + 1), by omega⟩
    have hy : y < i.length := by omega
    rw [htr y (by omega)]
    rw [hget, List.getElem?_append_left hy] at h7
    obtain ⟨hl, hv⟩ := List.getElem?_eq_some_iff.1 h7
    refine hq.2 (i.take y) (i.drop (y + 1)) ?_
    rw [← hv, List.getElem_cons_drop, List.take_append_drop]
theorem Qt.small {T : Str} {a q : Nat} (h : Qt T a q) : q < T.length := (List.getElem?_eq_some_iff.1 h.ends).1
theorem Qt.bare {T : Str} {a q p : Nat} {c : UInt8} (h : Qt T a q) (h1 : a ≤ p) (h2 : p ≤ q) (h3 : T[p]? = some 34) (h4 : T[p - 1]? = some c) (h5 : c ≠ 92) : p = q := by
  rcases Nat.lt_or_eq_of_le h2 with hl | e
  · have ho := h.odd p h1 hl h3
    rcases Nat.lt_or_eq_of_le h1 with hl1 | e1
    · rw [tr_stop hl1 h4 h5] at ho; simp at ho
    · subst e1; rw [tr_self] at ho; simp at ho
  · exact e
theorem Qt.evenEnd {T : Str} {a q p : Nat} (h : Qt T a q) (h1 : a ≤ p) (h2 : p ≤ q) (h3 : T[p]? = some 34) (h4 : tr T a p % 2 = 0) : p = q := by
  rcases Nat.lt_or_eq_of_le h2 with hl | e
  · have ho := h.odd p h1 hl h3; omega
  · exact e
theorem Qt.oddGo {T : Str} {a q p : Nat} (h : Qt T a q) (h2 : p ≤ q) (h4 : tr T a p % 2 = 1) : p < q := by
  rcases Nat.lt_or_eq_of_le h2 with hl | e
  · exact hl
  · subst e; have := h.even; omega
theorem Qt.step {T : Str} {a q p : Nat} {c : UInt8} (h : Qt T a q) (h2 : p ≤ q) (h3 : T[p]? = some c) (h4 : c ≠ 34) : p + 1 ≤ q := by
  rcases Nat.lt_or_eq_of_le h2 with hl | e
  · exact hl
  · subst e; rw [h.ends] at h3; exact absurd (Option.some.inj h3).symm h4
theorem Qt.get {T : Str} {a q p : Nat} (h : Qt T a q) (h2 : p ≤ q) : ∃ c, T[p]? = some c := ⟨_, List.getElem?_eq_getElem (by have := h.small; omega)⟩
theorem Qt.run {T : Str} {a q p m : Nat} (h : Qt T a q) (h1 : a ≤ p) (hrun : ∀ x, x < m → T[p - 1 - x]? = some 92) (hm : m < p) : a + m ≤ p := by
  rcases Nat.lt_or_ge p (a + m) with hl | hg
  · have := hrun (p - a) (by omega)
    rw [show p - 1 - (p - a) = a - 1 by have := h.pos; omega, h.opens] at this
    exact absurd this (by decide)
  · exact hg
theorem tr_none {T : Str} {a : Nat} : ∀ (p : Nat), a ≤ p → (∀ x, a ≤ x → x < p → T[x]? ≠ some 92) → p ≤ T.length → tr T a p = 0
  | 0, h, _, _ => by rw [show a = 0 by omega, tr_self]
  | p + 1, h, hx, hl => by
    rcases Nat.lt_or_eq_of_le h with h1 | h1
    · have hc : T[p]? = some (T[p]'(by omega)) := List.getElem?_eq_getElem (by omega)
      rw [tr_next (by omega) hc, if_neg (fun e => hx p (by omega) (by omega) (by rw [hc, e]))]
    · rw [← h1, tr_self]
theorem noesc {T s r : Str} {p a q : Nat} (h : T.drop p = (34 :: s ++ [34]) ++ r) (ha : p + 1 = a) (hq : a + s.length = q) (hno : ∀ x, a ≤ x → x < q → T[x]? ≠ some 92) (c : UInt8) (hc : c ∈ s) : c ≠ 92 := by
  rintro rfl
  obtain ⟨j, hj⟩ := List.mem_iff_getElem?.1 hc
  have hl : j < s.length := (List.getElem?_eq_some_iff.1 hj).1
  have e := seg_get h (j := j + 1) (by simp; omega)
  refine hno (p + (j + 1)) (by omega) (by omega) ?_
  rw [e]
  simp only [List.cons_append, List.getElem?_cons_succ]
  rw [List.getElem?_append_left hl]
  exact hj
end Js
set_option linter.unusedVariables false
namespace Js
def Ink (c : UInt8) : Prop := 32 < c.toNat ∧ c.toNat < 128
theorem blank_small {c : UInt8} (h : isBlank c = true) : c.toNat = 9 ∨ c.toNat = 10 ∨ c.toNat = 13 ∨ c.toNat = 32 := by
  simp only [isBlank, Bool.or_eq_true, beq_iff_eq] at h
  rcases h with ((rfl | rfl) | rfl) | rfl <;> decide
end Js
set_option linter.unusedVariables false
namespace Js
def hv (c : UInt8) : Nat := (hexVal c).getD 0
def hexN (l : Str) : Nat := l.foldl (fun n c => n * 16 + hv c) 0
theorem hexN_snoc (l : Str) (c : UInt8) : hexN (l ++ [c]) = hexN l * 16 + hv c := by simp [hexN]
def IsHex (c : UInt8) : Prop := (hexVal c).isSome = true
theorem hex_cases {c : UInt8} (h : IsHex c) : (48 ≤ c.toNat ∧ c.toNat ≤ 57 ∧ hv c = c.toNat - 48) ∨ (c.toNat ≠ 95 ∧ 57 < c.toNat ∧ 97 ≤ (c.toNat ||| 32) ∧ (c.toNat ||| 32) ≤ 102 ∧ hv c = (c.toNat ||| 32) - 97 + 10) := by
  have h2 : ∀ x : Nat, 97 ≤ x → x ≤ 102 → (x ||| 32) = x := by
    intro x h1 h2
    have : x = 97 ∨ x = 98 ∨ x = 99 ∨ x = 100 ∨ x = 101 ∨ x = 102 := by omega
    rcases this with rfl | rfl | rfl | rfl | rfl | rfl <;> rfl
  have h3 : ∀ x : Nat, 65 ≤ x → x ≤ 70 → (x ||| 32) = x + 32 := by
    intro x h1 h2
    have : x = 65 ∨ x = 66 ∨ x = 67 ∨ x = 68 ∨ x = 69 ∨ x = 70 := by omega
    rcases this with rfl | rfl | rfl | rfl | rfl | rfl <;> rfl
  unfold IsHex hexVal at h
  unfold hv hexVal
  by_cases h4 : 48 ≤ c.toNat ∧ c.toNat ≤ 57
  · exact .inl ⟨h4.1, h4.2, by rw [if_pos h4]; rfl⟩
  · rw [if_neg h4] at h ⊢
    by_cases h5 : 97 ≤ c.toNat ∧ c.toNat ≤ 102
    · rw [if_pos h5, h2 _ h5.1 h5.2]
      exact .inr ⟨by omega, by omega, h5.1, h5.2, rfl⟩
    · rw [if_neg h5] at h ⊢
      by_cases h6 : 65 ≤ c.toNat ∧ c.toNat ≤ 70
      · rw [if_pos h6, h3 _ h6.1 h6.2]
        exact .inr ⟨by omega, by omega, by omega, by omega, by simp only [Option.getD_some]; omega⟩
      · rw [if_neg h6] at h
        simp at h
theorem hv_lt {c : UInt8} (h : IsHex c) : hv c < 16 := by
  rcases hex_cases h with ⟨_, _, h⟩ | ⟨_, _, h1, h2, h3⟩ <;> omega
theorem hexN_lt' : ∀ (l : Str) (n : Nat), (∀ c ∈ l, IsHex c) → l.foldl (fun n c => n * 16 + hv c) n < (n + 1) * 16 ^ l.length
  | [], n, _ => by simp
  | c :: l, n, h => by
    have h1 := hexN_lt' l (n * 16 + hv c) (fun x hx => h x (by simp [hx]))
    have h2 := hv_lt (h c (by simp))
    simp only [List.foldl_cons, List.length_cons]
    refine Nat.lt_of_lt_of_le h1 ?_
    rw [Nat.pow_succ, Nat.mul_comm (16 ^ l.length) 16, ← Nat.mul_assoc]
    exact Nat.mul_le_mul_right _ (by omega)
theorem hexN_lt (l : Str) (h : ∀ c ∈ l, IsHex c) : hexN l < 16 ^ l.length := by
  have := hexN_lt' l 0 h
  simpa [hexN] using this
end Js
set_option linter.unusedVariables false
namespace Js
def pair (x y : Nat) : Nat := if high x && low y then 0x10000 + (x - 0xd800) * 0x400 + (y - 0xdc00) else 0xfffd
theorem pair_or {x y : Nat} (hy : y < 1024) : x * 1024 ||| y = x * 1024 + y := by
  have := Nat.shiftLeft_add_eq_or_of_lt (i := 10) (b := y) (by simpa using hy) x
  rw [Nat.shiftLeft_eq] at this
  exact this.symm
theorem or_c0 {m : Nat} (h : m < 32) : 192 ||| m = 192 + m := by
  have : ∀ m, m < 32 → 192 ||| m = 192 + m := by decide
  exact this m h
theorem or_e0 {m : Nat} (h : m < 16) : 224 ||| m = 224 + m := by
  have : ∀ m, m < 16 → 224 ||| m = 224 + m := by decide
  exact this m h
theorem or_f0 {m : Nat} (h : m < 8) : 240 ||| m = 240 + m := by
  have : ∀ m, m < 8 → 240 ||| m = 240 + m := by decide
  exact this m h
theorem or_80 {m : Nat} (h : m < 64) : 128 ||| m = 128 + m := by
  have : ∀ m, m < 64 → 128 ||| m = 128 + m := by decide
  exact this m h
theorem and_3f (m : Nat) : (m % 256) &&& 63 = m % 64 := by
  have := Nat.and_two_pow_sub_one_eq_mod (m % 256) 6
  rw [show 2 ^ 6 - 1 = 63 from rfl] at this
  rw [this]
  omega
theorem byte_nat {m : Nat} (h : m < 256) : ((m.toUInt8).toNat : Int) = (m : Int) := by
  congr 1
  simp [Nat.toUInt8, UInt8.toNat_ofNat']
  omega
end Js
set_option linter.unusedVariables false
namespace Js
theorem ins_cases {t : Str} (h : Ins t) : t = [] ∨ (∃ c r, t = c :: r ∧ 32 ≤ c.toNat ∧ c ≠ 92 ∧ Ins r) ∨ (∃ d r, t = 92 :: d :: r ∧ escLetter d = true ∧ Ins r) ∨
    (∃ a b c d r, t = 92 :: 117 :: a :: b :: c :: d :: r ∧ (∀ x ∈ [a, b, c, d], IsHex x) ∧ Ins r) := by
  unfold Ins at h
  cases t with
  | nil => exact .inl rfl
  | cons c i =>
    rw [List.cons_append, pStr_cons] at h
    split at h
    · simp at h
    · rename_i h34
      split at h
      · simp at h
      · rename_i h32
        split at h
        · rename_i h92; subst h92
          obtain ⟨s1, h4, h5⟩ := Option.bind_eq_some_iff.1 h
          rcases esc_take h4 with ⟨d, hd, hl⟩ | ⟨t, ht, hl, hx⟩
          · cases i with
            | nil =>
              simp only [List.nil_append, List.cons.injEq] at hd
              rw [← hd.2] at h5; rw [pStr_nil] at h5; simp at h5
            | cons d' i =>
              simp only [List.cons_append, List.cons.injEq] at hd
              obtain ⟨rfl, rfl⟩ := hd
              exact .inr (.inr (.inl ⟨_, _, rfl, hl, h5⟩))
          · have hlen : 5 ≤ i.length := by
              have hs1 : s1 ≠ [] := by rintro rfl; rw [pStr_nil] at h5; simp at h5
              have := congrArg List.length ht
              have h6 : 0 < s1.length := List.length_pos_iff.2 hs1
              simp [hl] at this; omega
            obtain ⟨i', rfl, hs⟩ : ∃ i', i = 117 :: t ++ i' ∧ s1 = i' ++ [34] := by
              have e1 : (117 :: t).length = 5 := by simp [hl]
              have h1 : i.take 5 = 117 :: t := by
                have := congrArg (List.take 5) ht
                rw [List.take_append_of_le_length hlen] at this
                rw [this, ← e1, List.take_left]
              have h2 : i.drop 5 ++ [34] = s1 := by
                have := congrArg (List.drop 5) ht
                rw [List.drop_append_of_le_length hlen] at this
                rw [this, ← e1, List.drop_left]
              exact ⟨i.drop 5, by rw [← h1, List.take_append_drop], h2.symm⟩
            subst hs
            obtain ⟨a, b, c, d, rfl⟩ : ∃ a b c d, t = [a, b, c, d] := by
              match t, hl with
              | [a, b, c, d], _ => exact ⟨a, b, c, d, rfl⟩
            exact .inr (.inr (.inr ⟨a, b, c, d, i', rfl, hx, h5⟩))
        · rename_i h92
          exact .inr (.inl ⟨c, i, rfl, by omega, h92, h⟩)
theorem hex4_hexN {a b c d : UInt8} (h : ∀ x ∈ [a, b, c, d], IsHex x) : hex4 a b c d = some (hexN [a, b, c, d]) := by
  have e : ∀ x, IsHex x → hexVal x = some (hv x) := fun x hx => by
    unfold IsHex at hx; unfold hv
    cases hh : hexVal x with
    | none => rw [hh] at hx; simp at hx
    | some v => rfl
  unfold hex4
  rw [e a (h a (by simp)), e b (h b (by simp)), e c (h c (by simp)), e d (h d (by simp))]
  simp [hexN]
inductive Prd : Str → Prop where
  | nil : Prd []
  | plain {c : UInt8} {r : Str} (hc : c ≠ 92) (h : Prd r) : Prd (c :: r)
  | esc {d : UInt8} {r : Str} (hd : d ≠ 117) (h : Prd r) : Prd (92 :: d :: r)
  | uni {a b c d : UInt8} {r : Str} {n : Nat} (hn : hex4 a b c d = some n) (h1 : high n = false) (h2 : low n = false) (h : Prd r) : Prd (92 :: 117 :: a :: b :: c :: d :: r)
  | pair {a b c d a' b' c' d' : UInt8} {r : Str} {n m : Nat} (hn : hex4 a b c d = some n) (hm : hex4 a' b' c' d' = some m) (h1 : high n = true) (h2 : low m = true) (h : Prd r) :
      Prd (92 :: 117 :: a :: b :: c :: d :: 92 :: 117 :: a' :: b' :: c' :: d' :: r)
theorem unq_cons {c : UInt8} (hc : c ≠ 92) (r : Str) : unq (c :: r) = c :: unq r := by rw [unq, if_neg hc]
theorem unit_esc {d : UInt8} (hd : d ≠ 117) (r : Str) : unit (92 :: d :: r) = none := by
  unfold unit
  split
  · rename_i h; simp only [List.cons.injEq, true_and] at h; exact absurd h.1 hd
  · rfl
theorem unq_esc {d : UInt8} (hd : d ≠ 117) (r : Str) : unq (92 :: d :: r) = short d :: unq r := by
  rw [unq, if_pos rfl]
  split
  · rfl
  · rename_i n h; rw [unit_esc hd] at h; simp at h
theorem unq_uni {a b c d : UInt8} {n : Nat} (hn : hex4 a b c d = some n) (r : Str) (h : high n = false ∨ ∀ m, unit r = some m → low m = false) : unq (92 :: 117 :: a :: b :: c :: d :: r) = enc n ++ unq r := by
  rw [unq, if_pos rfl]
  split
  · rename_i h0; simp only [unit] at h0; rw [hn] at h0; simp at h0
  · rename_i n' h0
    simp only [unit] at h0
    rw [hn] at h0
    obtain rfl := Option.some.inj h0
    simp only [List.drop_succ_cons, List.drop_zero]
    split
    · rfl
    · rename_i m hm
      rcases h with h | h
      · rw [h]; simp
      · rw [h m hm]; simp
theorem unq_pair {a b c d a' b' c' d' : UInt8} {n m : Nat} (hn : hex4 a b c d = some n) (hm : hex4 a' b' c' d' = some m) (h1 : high n = true) (h2 : low m = true) (r : Str) :
    unq (92 :: 117 :: a :: b :: c :: d :: 92 :: 117 :: a' :: b' :: c' :: d' :: r) = enc (0x10000 + (n - 0xd800) * 0x400 + (m - 0xdc00)) ++ unq r := by
  rw [unq, if_pos rfl]
  split
  · rename_i h0; simp only [unit] at h0; rw [hn] at h0; simp at h0
  · rename_i n' h0
    simp only [unit] at h0
    rw [hn] at h0
    obtain rfl := Option.some.inj h0
    simp only [List.drop_succ_cons, List.drop_zero, unit, hm, h1, h2, Bool.and_self, if_true]
end Js
set_option linter.unusedVariables false
namespace Js
structure Un (s : Str) (i : Nat) (out : Str) : Prop where
  ins : Ins (s.drop i)
  le : i ≤ s.length
  len : out.length ≤ i
  eq : Prd s → Prd (s.drop i) ∧ unq s = out ++ unq (s.drop i)
theorem Un.start {s : Str} (h : Ins s) : Un s 0 [] := ⟨h, Nat.zero_le _, Nat.le_refl _, fun hp => ⟨hp, rfl⟩⟩
theorem Un.done {s out : Str} (h : Un s s.length out) (hp : Prd s) : out = unq s := by
  have := (h.eq hp).2
  rw [List.drop_length, show unq [] = [] from by rw [unq], List.append_nil] at this
  exact this.symm
theorem drop_of {s t u : Str} {i : Nat} (h : s.drop i = t ++ u) : s.drop (i + t.length) = u := by rw [← List.drop_drop, h, List.drop_left]
theorem le_of {s t u : Str} {i : Nat} (h : s.drop i = t ++ u) (h0 : t ≠ []) : i + t.length ≤ s.length := seg_len h h0
theorem Un.plain {s out r : Str} {i : Nat} {c : UInt8} (h : Un s i out) (ht : s.drop i = c :: r) (hc : c ≠ 92) (hr : Ins r) : Un s (i + 1) (out ++ [c]) := by
  have hd : s.drop (i + 1) = r := drop_of (t := [c]) ht
  refine ⟨by rw [hd]; exact hr, le_of (t := [c]) ht (by simp), by have := h.len; simp; omega, fun hp => ?_⟩
  obtain ⟨h1, h2⟩ := h.eq hp
  rw [ht] at h1 h2
  rw [hd]
  refine ⟨?_, by rw [h2, unq_cons hc]; simp⟩
  cases h1 with
  | plain _ h => exact h
  | _ => exact absurd rfl hc
theorem Un.esc {s out r : Str} {i : Nat} {d : UInt8} (h : Un s i out) (ht : s.drop i = 92 :: d :: r) (hd : d ≠ 117) (hr : Ins r) : Un s (i + 1 + 1) (out ++ [short d]) := by
  have hdr : s.drop (i + 1 + 1) = r := drop_of (t := [92, d]) ht
  refine ⟨by rw [hdr]; exact hr, le_of (t := [92, d]) ht (by simp), by have := h.len; simp; omega, fun hp => ?_⟩
  obtain ⟨h1, h2⟩ := h.eq hp
  rw [ht] at h1 h2
  rw [hdr]
  refine ⟨?_, by rw [h2, unq_esc hd]; simp⟩
  cases h1 with
  | plain hc _ => exact absurd rfl hc
  | esc _ h => exact h
  | _ => exact absurd rfl hd
theorem enc_len (n : Nat) : (enc n).length ≤ 4 := by unfold enc; (repeat' split) <;> simp
theorem Un.uni {s out r : Str} {i n : Nat} {a b c d : UInt8} (h : Un s i out) (ht : s.drop i = 92 :: 117 :: a :: b :: c :: d :: r) (hn : hex4 a b c d = some n) (hr : Ins r)
    (hs : (high n || low n) = false ∨ unit r = none) : Un s (i + 6) (out ++ enc n) := by
  have hdr : s.drop (i + 6) = r := drop_of (t := [92, 117, a, b, c, d]) ht
  refine ⟨by rw [hdr]; exact hr, le_of (t := [92, 117, a, b, c, d]) ht (by simp), by have := h.len; have := enc_len n; simp; omega, fun hp => ?_⟩
  obtain ⟨h1, h2⟩ := h.eq hp
  rw [ht] at h1 h2
  rw [hdr]
  cases h1 with
  | plain hc _ => exact absurd rfl hc
  | esc hd _ => exact absurd rfl hd
  | uni hn' h3 h4 h5 =>
    rw [hn] at hn'
    obtain rfl := Option.some.inj hn'
    exact ⟨h5, by rw [h2, unq_uni hn _ (.inl h3)]; simp⟩
  | pair hn' hm h3 h4 h5 =>
    rw [hn] at hn'
    obtain rfl := Option.some.inj hn'
    rcases hs with hs | hs
    · rw [h3] at hs; simp at hs
    · have := hs
      simp only [unit] at this
      rw [hm] at this
      simp at this
theorem Un.pair {s out r : Str} {i n m : Nat} {a b c d a' b' c' d' : UInt8} (h : Un s i out) (ht : s.drop i = 92 :: 117 :: a :: b :: c :: d :: 92 :: 117 :: a' :: b' :: c' :: d' :: r) (hn : hex4 a b c d = some n) (hm : hex4 a' b' c' d' = some m) (hr : Ins r)
    (hs : (high n || low n) = true) : Un s (i + 12) (out ++ enc (Js.pair n m)) := by
  have hdr : s.drop (i + 12) = r := drop_of (t := [92, 117, a, b, c, d, 92, 117, a', b', c', d']) ht
  refine ⟨by rw [hdr]; exact hr, le_of (t := [92, 117, a, b, c, d, 92, 117, a', b', c', d']) ht (by simp), by have := h.len; have := enc_len (Js.pair n m); simp; omega, fun hp => ?_⟩
  obtain ⟨h1, h2⟩ := h.eq hp
  rw [ht] at h1 h2
  rw [hdr]
  cases h1 with
  | plain hc _ => exact absurd rfl hc
  | esc hd _ => exact absurd rfl hd
  | uni hn' h3 h4 h5 =>
    rw [hn] at hn'
    obtain rfl := Option.some.inj hn'
    rw [h3, h4] at hs
    simp at hs
  | pair hn' hm' h3 h4 h5 =>
    rw [hn] at hn'
    rw [hm] at hm'
    obtain rfl := Option.some.inj hn'
    obtain rfl := Option.some.inj hm'
    refine ⟨h5, ?_⟩
    rw [h2, unq_pair hn hm h3 h4]
    have : Js.pair n m = 0x10000 + (n - 0xd800) * 0x400 + (m - 0xdc00) := by unfold Js.pair; rw [h3, h4]; rfl
    rw [this]
    simp
theorem unit_next {r : Str} (h : Ins r) : (6 ≤ r.length ∧ ∃ a b c d r', r = 92 :: 117 :: a :: b :: c :: d :: r' ∧ (∀ x ∈ [a, b, c, d], IsHex x) ∧ Ins r') ∨ (unit r = none ∧ (r.length < 6 ∨ (∃ x r', r = x :: r' ∧ x ≠ 92) ∨ (∃ y r', r = 92 :: y :: r' ∧ y ≠ 117))) := by
  rcases ins_cases h with rfl | ⟨c, r', rfl, _, hc, _⟩ | ⟨d, r', rfl, hd, _⟩ | ⟨a, b, c, d, r', rfl, hx, hr⟩
  · exact .inr ⟨rfl, .inl (by simp)⟩
  · refine .inr ⟨?_, .inr (.inl ⟨c, r', rfl, hc⟩)⟩
    unfold unit
    split
    · rename_i he; simp only [List.cons.injEq] at he; exact absurd he.1 hc
    · rfl
  · have : d ≠ 117 := by rintro rfl; exact absurd hd (by decide)
    exact .inr ⟨unit_esc this _, .inr (.inr ⟨d, r', rfl, this⟩)⟩
  · exact .inl ⟨by simp, a, b, c, d, r', rfl, hx, hr⟩
theorem next_cases {r : Str} (h : Ins r) : (∃ a b c d r', r = 92 :: 117 :: a :: b :: c :: d :: r' ∧ (∀ x ∈ [a, b, c, d], IsHex x) ∧ Ins r') ∨ (unit r = none ∧ r.length < 6) ∨ (unit r = none ∧ 6 ≤ r.length ∧ ∃ x r', r = x :: r' ∧ x ≠ 92) ∨ (unit r = none ∧ 6 ≤ r.length ∧ ∃ y r', r = 92 :: y :: r' ∧ y ≠ 117) := by
  rcases unit_next h with ⟨_, h1⟩ | ⟨h1, h2⟩
  · exact .inl h1
  · rcases Nat.lt_or_ge r.length 6 with h3 | h3
    · exact .inr (.inl ⟨h1, h3⟩)
    · rcases h2 with h2 | h2 | h2
      · omega
      · exact .inr (.inr (.inl ⟨h1, h3, h2⟩))
      · exact .inr (.inr (.inr ⟨h1, h3, h2⟩))
theorem esc_117 {d : UInt8} (h : escLetter d = true) : d ≠ 117 := by rintro rfl; exact absurd h (by decide)
end Js
set_option linter.unusedVariables false
namespace Js
def kG : Nat → Int
  | 0 => 0 | 1 => 1 | 2 => 4 | 3 => 2 | 4 => 3 | _ => 5
inductive Form (t : Str) : Nat → Prop where
  | nul (h : t = [110, 117, 108, 108]) : Form t 0
  | fls (h : t = [102, 97, 108, 115, 101]) : Form t 1
  | tru (h : t = [116, 114, 117, 101]) : Form t 2
  | num (h : IsNum t) : Form t 3
  | str {i : Str} (h : t = 34 :: i ++ [34]) (hi : Ins i) : Form t 4
  | brk {c : UInt8} {t' : Str} {k : Nat} (hk : k = 5 ∨ k = 6) (h : t = c :: t') (hc : c = 91 ∨ c = 123) (hn : ∀ s, Nest 1 (t' ++ s) t'.length) : Form t k
theorem shows_form {t : Str} {k : Nat} {txt : Str} {ks : List Str} {l : List Nd} (h : Shows t (.v (.mk k txt ks l))) : Form t k := by
  have hb : k = 5 ∨ k = 6 → (∃ c t', t = c :: t' ∧ (c = 91 ∨ c = 123)) → Form t k := by
    rintro hk ⟨c, t', rfl, hc⟩
    obtain ⟨c', t'', he, _, hn⟩ := nest_value h hk
    injection he with h1 h2
    subst h1; subst h2
    exact .brk hk rfl hc hn
  cases h with
  | nul => exact .nul rfl
  | fls => exact .fls rfl
  | tru => exact .tru rfl
  | num h => exact .num h
  | str h => exact .str rfl h
  | arr0 => exact hb (.inl rfl) ⟨_, _, rfl, .inl rfl⟩
  | arr => exact hb (.inl rfl) ⟨_, _, rfl, .inl rfl⟩
  | obj0 => exact hb (.inr rfl) ⟨_, _, rfl, .inr rfl⟩
  | obj => exact hb (.inr rfl) ⟨_, _, rfl, .inr rfl⟩
theorem Form.at {T t t' r : Str} {p : Nat} {c : UInt8} (h : T.drop p = t ++ r) (ht : t = c :: t') (hn : ∀ s, Nest 1 (t' ++ s) t'.length) : At T 1 (p + 1) (p + t.length) := by
  subst ht
  have hd : T.drop (p + 1) = t' ++ r := by rw [← List.drop_drop, h]; rfl
  have hl := seg_len h (by simp)
  have h1 := hn r
  have hp := h1.pos
  simp only [List.length_cons] at hl ⊢
  exact ⟨by rw [hd, show p + (t'.length + 1) - (p + 1) = t'.length by omega]; exact h1, by omega, by omega, hl⟩
theorem num_not_end {c : UInt8} (h : numc c = true) : ¬ numEnd c := by
  intro he
  simp only [numc, isDig, Bool.or_eq_true, Bool.and_eq_true, decide_eq_true_eq, beq_iff_eq] at h
  rcases he with he | he | he | he
  · rcases h with ((((h | h) | h) | h) | h) | h
    · omega
    all_goals subst h; exact absurd he (by decide)
  all_goals subst he; rcases h with ((((h | h) | h) | h) | h) | h <;> first | exact absurd h (by decide) | exact absurd h.1 (by decide)
theorem num_head {t : Str} (h : IsNum t) : ∃ c t', t = c :: t' ∧ (c = 45 ∨ isDig c = true) := by
  obtain ⟨c, h1, h2⟩ := h.head
  cases t with
  | nil => simp at h1
  | cons d t' => simp only [List.head?_cons, Option.some.injEq] at h1; subst h1; exact ⟨_, _, rfl, h2⟩
theorem numEnd_word {c : UInt8} (h : numEnd c) : c.toNat < 97 ∨ 122 < c.toNat := by
  rcases h with h | rfl | rfl | rfl
  · omega
  all_goals decide
end Js
set_option linter.unusedVariables false
namespace Js
def paired (s : Str) : Bool :=
  match s with
  | [] => true
  | c :: r =>
    if c = 92 then
      match unit (c :: r) with
      | none => paired (r.drop 1)
      | some n =>
        if high n then
          match unit (r.drop 5) with
          | none => false
          | some m => if low m then paired (r.drop 11) else false
        else if low n then false
        else paired (r.drop 5)
    else paired r
termination_by s.length
decreasing_by all_goals simp only [List.length_cons, List.length_drop]; omega
theorem paired_nil : paired [] = true := by rw [paired]
theorem paired_cons {c : UInt8} (r : Str) (h : c ≠ 92) : paired (c :: r) = paired r := by rw [paired, if_neg h]
theorem paired_esc {r : Str} (h : unit (92 :: r) = none) : paired (92 :: r) = paired (r.drop 1) := by rw [paired, if_pos rfl, h]
theorem paired_high {r : Str} {n : Nat} (h : unit (92 :: r) = some n) (hh : high n = true) (h2 : ∀ m, unit (r.drop 5) = some m → low m = false) : paired (92 :: r) = false := by
  rw [paired, if_pos rfl, h]
  simp only
  rw [if_pos hh]
  cases hu : unit (r.drop 5) with
  | none => rfl
  | some m => simp only; rw [if_neg (by rw [h2 m hu]; decide)]
theorem paired_pair {r : Str} {n m : Nat} (h : unit (92 :: r) = some n) (hh : high n = true) (h2 : unit (r.drop 5) = some m) (hl : low m = true) : paired (92 :: r) = paired (r.drop 11) := by
  rw [paired, if_pos rfl, h]
  simp only
  rw [if_pos hh, h2]
  simp only
  rw [if_pos hl]
theorem paired_low {r : Str} {n : Nat} (h : unit (92 :: r) = some n) (hh : high n = false) (hl : low n = true) : paired (92 :: r) = false := by
  rw [paired, if_pos rfl, h]
  simp only
  rw [if_neg (by rw [hh]; decide), if_pos hl]
theorem paired_uni {r : Str} {n : Nat} (h : unit (92 :: r) = some n) (hh : high n = false) (hl : low n = false) : paired (92 :: r) = paired (r.drop 5) := by
  rw [paired, if_pos rfl, h]
  simp only
  rw [if_neg (by rw [hh]; decide), if_neg (by rw [hl]; decide)]
theorem paired_pass : ∀ (w : Str), (∀ c ∈ w, c ≠ 92) → ∀ r, paired (w ++ r) = paired r
  | [], _, r => rfl
  | c :: w, h, r => by rw [List.cons_append, paired_cons _ (h c (by simp)), paired_pass w (fun x hx => h x (by simp [hx])) r]
theorem unit_hex {a b c d : UInt8} (h : ∀ x ∈ [a, b, c, d], IsHex x) (r : Str) : unit (92 :: 117 :: a :: b :: c :: d :: r) = some (hexN [a, b, c, d]) := hex4_hexN h
theorem ins_paired : ∀ (n : Nat) (i : Str), i.length ≤ n → Ins i → ∀ r, paired (i ++ 34 :: r) = true → Prd i ∧ paired r = true
  | n, [], _, _, r, h => ⟨.nil, by rw [List.nil_append, paired_cons _ (by decide)] at h; exact h⟩
  | 0, c :: i, hl, _, _, _ => by simp at hl
  | n + 1, c :: i, hl, hi, r, h => by
    rcases ins_cases hi with h0 | ⟨c', r', e, _, hc, hr⟩ | ⟨d, r', e, hd, hr⟩ | ⟨a, b, x, d, r', e, hx, hr⟩
    · cases h0
    · obtain ⟨rfl, rfl⟩ := List.cons.inj e
      rw [List.cons_append, paired_cons _ hc] at h
      obtain ⟨h1, h2⟩ := ins_paired n i (by simp at hl; omega) hr r h
      exact ⟨.plain hc h1, h2⟩
    · rw [e] at h hl ⊢
      have hd7 : d ≠ 117 := by rintro rfl; exact absurd hd (by decide)
      rw [List.cons_append, List.cons_append, paired_esc (unit_esc hd7 _)] at h
      simp only [List.drop_succ_cons, List.drop_zero] at h
      obtain ⟨h1, h2⟩ := ins_paired n r' (by simp at hl; omega) hr r h
      exact ⟨.esc hd7 h1, h2⟩
    · rw [e] at h hl ⊢
      have hu := unit_hex hx (r' ++ 34 :: r)
      have hn : hex4 a b x d = some (hexN [a, b, x, d]) := hex4_hexN hx
      simp only [List.cons_append] at h
      cases hh : high (hexN [a, b, x, d]) with
      | false =>
        cases hlo : low (hexN [a, b, x, d]) with
        | true => rw [paired_low hu hh hlo] at h; cases h
        | false =>
          rw [paired_uni hu hh hlo] at h
          simp only [List.drop_succ_cons, List.drop_zero] at h
          obtain ⟨h1, h2⟩ := ins_paired n r' (by simp at hl; omega) hr r h
          exact ⟨.uni hn hh hlo h1, h2⟩
      | true =>
        rcases ins_cases hr with h0 | ⟨c', r2, e2, _, hc, hr2⟩ | ⟨d', r2, e2, hd, hr2⟩ | ⟨a', b', x', d', r2, e2, hx2, hr2⟩
        · subst h0
          rw [paired_high hu hh (fun m hm => by simp [unit] at hm)] at h; cases h
        · subst e2
          rw [paired_high hu hh (fun m hm => ?_)] at h
          · cases h
          · exfalso
            simp only [List.drop_succ_cons, List.drop_zero, List.cons_append] at hm
            unfold unit at hm
            split at hm
            · rename_i e3; exact hc (List.cons.inj e3).1
            · cases hm
        · subst e2
          have hd7 : d' ≠ 117 := by rintro rfl; exact absurd hd (by decide)
          rw [paired_high hu hh (fun m hm => by simp only [List.drop_succ_cons, List.drop_zero, List.cons_append] at hm; rw [unit_esc hd7] at hm; cases hm)] at h; cases h
        · subst e2
          have hu2 := unit_hex hx2 (r2 ++ 34 :: r)
          cases hlo : low (hexN [a', b', x', d']) with
          | false =>
            rw [paired_high hu hh (fun m hm => by simp only [List.drop_succ_cons, List.drop_zero, List.cons_append] at hm; rw [hu2] at hm; obtain rfl := Option.some.inj hm; exact hlo)] at h; cases h
          | true =>
            rw [paired_pair hu hh (by simp only [List.drop_succ_cons, List.drop_zero, List.cons_append]; exact hu2) hlo] at h
            simp only [List.drop_succ_cons, List.drop_zero, List.cons_append] at h
            obtain ⟨h1, h2⟩ := ins_paired n r2 (by simp at hl; omega) hr2 r h
            exact ⟨.pair hn (hex4_hexN hx2) hh hlo h1, h2⟩
theorem str_paired {i r : Str} (hi : Ins i) (h : paired ((34 :: i ++ [34]) ++ r) = true) : Prd i ∧ paired r = true := by
  rw [show (34 :: i ++ [34]) ++ r = 34 :: (i ++ 34 :: r) by simp, paired_cons _ (by decide)] at h
  exact ins_paired _ i (Nat.le_refl _) hi r h
theorem bl_pass {w : Str} (h : Bl w) (r : Str) : paired (w ++ r) = paired r := paired_pass w (fun c hc e => by have := h c hc; subst e; exact absurd this (by decide)) r
end Js
set_option linter.unusedVariables false
namespace Js
def Sep (w : Str) : Prop := ∀ c ∈ w, c.toNat ≤ 32 ∨ c = 44 ∨ c = 58
inductive Rest : Str → List (Str × Nat) → Prop where
  | done0 : Rest [] []
  | done {w : Str} (hw : Sep w) : Rest (w ++ [93]) []
  | more {w t u : Str} {k : Nat} {c : UInt8} {ts : List (Str × Nat)} (hw : Sep w) (ht : Form t k) (hc : numEnd c) (hu : Rest u ts) : Rest (w ++ t ++ c :: u) ((t, k) :: ts)
theorem Rest.sep {u w : Str} {ts : List (Str × Nat)} (h : Rest u ts) (hw : Sep w) (h0 : u ≠ []) : Rest (w ++ u) ts := by
  have hs : ∀ {w w' : Str}, Sep w → Sep w' → Sep (w ++ w') := fun h1 h2 c hc => by
    rcases List.mem_append.1 hc with hc | hc
    · exact h1 c hc
    · exact h2 c hc
  cases h with
  | done0 => exact absurd rfl h0
  | @done w' hw' => rw [← List.append_assoc]; exact .done (hs hw hw')
  | @more w' t u k c ts hw' ht hc hu =>
    rw [show w ++ (w' ++ t ++ c :: u) = (w ++ w') ++ t ++ c :: u by simp]
    exact .more (hs hw hw') ht hc hu
theorem bl_sep {w : Str} (h : Bl w) : Sep w := fun c hc => by
  have := blank_small (h c hc)
  omega
theorem bl_end {c : UInt8} (h : isBlank c = true) : numEnd c := by
  have := blank_small h
  exact .inl (by omega)
def Nd.kind : Nd → Nat
  | .mk k _ _ _ => k
theorem shows_form' {t : Str} {n : Nd} (h : Shows t (.v n)) : Form t n.kind := by
  cases n with
  | mk k txt ks l => exact shows_form h
theorem Shows.pass {t : Str} {it : It} (h : Shows t it) : ∀ r, paired (t ++ r) = true → paired r = true := by
  have hc : ∀ {c : UInt8} {r : Str}, c ≠ 92 → paired (c :: r) = true → paired r = true := fun hc h => by rw [paired_cons _ hc] at h; exact h
  induction h with
  | nul => intro r h; rwa [paired_pass _ (by decide)] at h
  | fls => intro r h; rwa [paired_pass _ (by decide)] at h
  | tru => intro r h; rwa [paired_pass _ (by decide)] at h
  | num hn =>
    intro r h
    have hch := IsNum.chars hn
    rwa [paired_pass _ (fun c hc e => by have := hch c hc; subst e; exact absurd this (by decide))] at h
  | str hi => intro r h; exact (str_paired hi h).2
  | @arr0 w h1 =>
    intro r h
    rw [show 91 :: w ++ [93] ++ r = 91 :: (w ++ 93 :: r) by simp] at h
    have := hc (by decide) h
    rw [bl_pass h1] at this
    exact hc (by decide) this
  | @arr t l h1 ih =>
    intro r h
    rw [show 91 :: t ++ [93] ++ r = 91 :: (t ++ 93 :: r) by simp] at h
    exact hc (by decide) (ih _ (hc (by decide) h))
  | @obj0 w h1 =>
    intro r h
    rw [show 123 :: w ++ [125] ++ r = 123 :: (w ++ 125 :: r) by simp] at h
    have := hc (by decide) h
    rw [bl_pass h1] at this
    exact hc (by decide) this
  | @obj t ks l h1 ih =>
    intro r h
    rw [show 123 :: t ++ [125] ++ r = 123 :: (t ++ 125 :: r) by simp] at h
    exact hc (by decide) (ih _ (hc (by decide) h))
  | @e1 w1 t w2 n h1 h h2 ih =>
    intro r hp
    rw [show w1 ++ t ++ w2 ++ r = w1 ++ (t ++ (w2 ++ r)) by simp, bl_pass h1] at hp
    have := ih _ hp
    rwa [bl_pass h2] at this
  | @e2 w1 t w2 r' n l h1 h h2 hr ih ih2 =>
    intro r hp
    rw [show w1 ++ t ++ w2 ++ 44 :: r' ++ r = w1 ++ (t ++ (w2 ++ 44 :: (r' ++ r))) by simp, bl_pass h1] at hp
    have := ih _ hp
    rw [bl_pass h2] at this
    exact ih2 _ (hc (by decide) this)
  | @m1 w1 i w2 w3 t w4 n h1 hi h2 h3 h h4 ih =>
    intro r hp
    rw [show w1 ++ (34 :: i ++ [34]) ++ w2 ++ 58 :: w3 ++ t ++ w4 ++ r = w1 ++ ((34 :: i ++ [34]) ++ (w2 ++ 58 :: (w3 ++ (t ++ (w4 ++ r))))) by simp, bl_pass h1] at hp
    have := (str_paired hi hp).2
    rw [bl_pass h2] at this
    have := hc (by decide) this
    rw [bl_pass h3] at this
    have := ih _ this
    rwa [bl_pass h4] at this
  | @m2 w1 i w2 w3 t w4 r' n ks l h1 hi h2 h3 h h4 hr ih ih2 =>
    intro r hp
    rw [show w1 ++ (34 :: i ++ [34]) ++ w2 ++ 58 :: w3 ++ t ++ w4 ++ 44 :: r' ++ r = w1 ++ ((34 :: i ++ [34]) ++ (w2 ++ 58 :: (w3 ++ (t ++ (w4 ++ 44 :: (r' ++ r)))))) by simp, bl_pass h1] at hp
    have := (str_paired hi hp).2
    rw [bl_pass h2] at this
    have := hc (by decide) this
    rw [bl_pass h3] at this
    have := ih _ this
    rw [bl_pass h4] at this
    exact ih2 _ (hc (by decide) this)
theorem rest_of {t : Str} {it : It} (h : Shows t it) : ∀ l : List Nd, it = .e l → ∃ ts : List Str, ts.length = l.length ∧ (∀ (j : Nat) (x : Str) (n : Nd), ts[j]? = some x → l[j]? = some n → Shows x (.v n)) ∧ Rest (t ++ [93]) (ts.zip (l.map Nd.kind)) ∧ (∀ r, paired (t ++ r) = true → ∀ x ∈ ts, ∃ r', paired (x ++ r') = true) := by
  induction h with
  | @e1 w1 t w2 n h1 h h2 ih =>
    rintro l ⟨⟩
    refine ⟨[t], rfl, ?_, ?_, fun r hp x hx => ⟨w2 ++ r, by rw [List.mem_singleton.1 hx]; rwa [show w1 ++ t ++ w2 ++ r = w1 ++ (t ++ (w2 ++ r)) by simp, bl_pass h1] at hp⟩⟩
    · intro j x m hx hm
      cases j with
      | zero => simp at hx hm; subst hx; subst hm; exact h
      | succ j => simp at hx
    · simp only [List.map_cons, List.map_nil, List.zip_cons_cons, List.zip_nil_left]
      cases w2 with
      | nil => rw [List.append_nil]; exact .more (bl_sep h1) (shows_form' h) (.inr (.inr (.inl rfl))) .done0
      | cons c w2 =>
        rw [show w1 ++ t ++ c :: w2 ++ [93] = w1 ++ t ++ c :: (w2 ++ [93]) by simp]
        exact .more (bl_sep h1) (shows_form' h) (bl_end (h2 c (by simp))) (.done (bl_sep fun x hx => h2 x (by simp [hx])))
  | @e2 w1 t w2 r n l' h1 h h2 hr ih ih2 =>
    rintro l ⟨⟩
    obtain ⟨ts, hl, hsh, hre, hpr⟩ := ih2 l' rfl
    have hP : ∀ r', paired (w1 ++ t ++ w2 ++ 44 :: r ++ r') = true → ∀ x ∈ t :: ts, ∃ r', paired (x ++ r') = true := by
      intro r' hp x hx
      rw [show w1 ++ t ++ w2 ++ 44 :: r ++ r' = w1 ++ (t ++ (w2 ++ 44 :: (r ++ r'))) by simp, bl_pass h1] at hp
      rcases List.mem_cons.1 hx with rfl | hx
      · exact ⟨_, hp⟩
      · have := h.pass _ hp
        rw [bl_pass h2, paired_cons _ (by decide)] at this
        exact hpr _ this x hx
    refine ⟨t :: ts, by simp [hl], ?_, ?_, hP⟩
    · intro j x m hx hm
      cases j with
      | zero => simp at hx hm; subst hx; subst hm; exact h
      | succ j => simp at hx hm; exact hsh j x m hx hm
    · simp only [List.map_cons, List.zip_cons_cons]
      have hne : r ++ [93] ≠ [] := by simp
      cases w2 with
      | nil =>
        rw [List.append_nil, show w1 ++ t ++ 44 :: r ++ [93] = w1 ++ t ++ 44 :: (r ++ [93]) by simp]
        exact .more (bl_sep h1) (shows_form' h) (.inr (.inl rfl)) hre
      | cons c w2 =>
        rw [show w1 ++ t ++ c :: w2 ++ 44 :: r ++ [93] = w1 ++ t ++ c :: ((w2 ++ [44]) ++ (r ++ [93])) by simp]
        refine .more (bl_sep h1) (shows_form' h) (bl_end (h2 c (by simp))) (hre.sep ?_ hne)
        intro x hx
        rcases List.mem_append.1 hx with hx | hx
        · exact bl_sep (fun y hy => h2 y (by simp [hy])) x hx
        · rw [List.mem_singleton.1 hx]; exact .inr (.inl rfl)
  | _ => intro l hl; cases hl
end Js
namespace Js
theorem Rest.len {u : Str} {ts : List (Str × Nat)} (h : Rest u ts) : ts.length ≤ u.length := by
  induction h with
  | done0 => exact Nat.le_refl _
  | done _ => simp
  | more _ _ _ _ ih => simp; omega
theorem Rest.nil {ts : List (Str × Nat)} (h : Rest [] ts) : ts = [] := by
  generalize hu : ([] : Str) = u at h
  cases h with
  | done0 => rfl
  | done _ => simp at hu
  | more _ _ _ _ => simp at hu
end Js
set_option linter.unusedVariables false
namespace Js
def dg (c : UInt8) : Nat := c.toNat - 48
def worth : Str → Nat
  | [] => 0
  | c :: l => dg c * 10 ^ l.length + worth l
def Digs (l : Str) : Prop := ∀ c ∈ l, isDig c = true
theorem dig_rng {c : UInt8} (h : isDig c = true) : 48 ≤ c.toNat ∧ c.toNat ≤ 57 := by
  simpa [isDig] using h
theorem dg_lt {c : UInt8} (h : isDig c = true) : dg c < 10 := by have := dig_rng h; unfold dg; omega
theorem Digs.tail {c : UInt8} {l : Str} (h : Digs (c :: l)) : Digs l := fun x hx => h x (by simp [hx])
theorem Digs.head {c : UInt8} {l : Str} (h : Digs (c :: l)) : isDig c = true := h c (by simp)
theorem Digs.sub {l r : Str} (h : Digs l) (hs : ∀ c ∈ r, c ∈ l) : Digs r := fun c hc => h c (hs c hc)
theorem Digs.take {l : Str} (h : Digs l) (n : Nat) : Digs (l.take n) := h.sub fun _ hc => List.mem_of_mem_take hc
theorem Digs.drop {l : Str} (h : Digs l) (n : Nat) : Digs (l.drop n) := h.sub fun _ hc => List.mem_of_mem_drop hc
theorem worth_lt : ∀ {l : Str}, Digs l → worth l < 10 ^ l.length
  | [], _ => by simp [worth]
  | c :: l, h => by
    have h1 := worth_lt h.tail
    have h2 := dg_lt h.head
    simp only [worth, List.length_cons, Nat.pow_succ]
    have h3 : dg c * 10 ^ l.length ≤ 9 * 10 ^ l.length := Nat.mul_le_mul_right _ (by omega)
    omega
theorem worth_append (l r : Str) : worth (l ++ r) = worth l * 10 ^ r.length + worth r := by
  induction l with
  | nil => simp [worth]
  | cons c l ih =>
    simp only [List.cons_append, worth, ih, List.length_append, Nat.pow_add, Nat.add_mul, Nat.mul_assoc]
    omega
theorem worth_snoc (l : Str) (c : UInt8) : worth (l ++ [c]) = worth l * 10 + dg c := by
  rw [worth_append]; simp [worth]
theorem worth_pos {c : UInt8} {l : Str} (hc : isDig c = true) (h : c ≠ 48) : 10 ^ l.length ≤ worth (c :: l) := by
  have h1 := dig_rng hc
  have h2 : c.toNat ≠ 48 := fun e => h (UInt8.toNat_inj.1 e)
  have h3 : 1 ≤ dg c := by unfold dg; omega
  simp only [worth]
  have := Nat.mul_le_mul_right (10 ^ l.length) h3
  omega
def pless : Str → Str → Bool
  | _, [] => false
  | [], _ :: _ => true
  | b :: bs, c :: cs => if b = c then pless bs cs else decide (b.toNat < c.toNat)
theorem worth_last : ∀ {s : Str}, Digs s → s ≠ [] → s.getLast? ≠ some 48 → 0 < worth s
  | [], _, h, _ => absurd rfl h
  | [c], hd, _, hl => by
    have h1 := dig_rng (hd.head)
    have h2 : c ≠ 48 := by intro e; subst e; simp at hl
    have h3 : c.toNat ≠ 48 := fun e => h2 (UInt8.toNat_inj.1 e)
    simp [worth, dg]
    omega
  | c :: d :: s, hd, _, hl => by
    have := worth_last (s := d :: s) hd.tail (by simp) (by simpa using hl)
    simp only [worth] at this ⊢
    omega
theorem pless_true : ∀ {b s : Str}, Digs b → Digs s → s.getLast? ≠ some 48 → pless b s = true → worth b * 10 ^ s.length < worth s * 10 ^ b.length
  | b, [], _, _, _, h => by cases b <;> simp [pless] at h
  | [], c :: s, _, hs, hl, _ => by
    have := worth_last hs (by simp) hl
    simpa [worth] using this
  | b :: bs, c :: cs, hb, hs, hl, h => by
    simp only [pless] at h
    have hB : 0 < 10 ^ bs.length := Nat.pow_pos (by decide)
    have hC : 0 < 10 ^ cs.length := Nat.pow_pos (by decide)
    simp only [worth, List.length_cons, Nat.pow_succ]
    split at h
    · rename_i e
      subst e
      have hl' : cs.getLast? ≠ some 48 := by
        cases cs with
        | nil => simp
        | cons d cs => simpa using hl
      have ih := pless_true hb.tail hs.tail hl' h
      generalize 10 ^ bs.length = p at *
      generalize 10 ^ cs.length = q at *
      generalize dg b = x at *
      have e1 : (x * p + worth bs) * (q * 10) = (x * p * q + worth bs * q) * 10 := by rw [Nat.add_mul, Nat.add_mul]; simp only [Nat.mul_assoc]
      have e2 : (x * q + worth cs) * (p * 10) = (x * p * q + worth cs * p) * 10 := by rw [Nat.add_mul, Nat.add_mul, Nat.mul_right_comm x p q]; simp only [Nat.mul_assoc]
      rw [e1, e2]
      omega
    · have hlt : b.toNat < c.toNat := of_decide_eq_true h
      have h1 := dig_rng hb.head
      have h2 := dig_rng hs.head
      have h3 := worth_lt hb.tail
      have h4 : dg b + 1 ≤ dg c := by unfold dg; omega
      generalize 10 ^ bs.length = p at *
      generalize 10 ^ cs.length = q at *
      have h5 : dg b * p + worth bs < dg c * p := by
        have := Nat.mul_le_mul_right p h4
        rw [Nat.add_mul] at this
        omega
      have h6 : (dg b * p + worth bs) * (q * 10) < dg c * p * (q * 10) := Nat.mul_lt_mul_of_pos_right h5 (by omega)
      have h7 : dg c * p * (q * 10) ≤ (dg c * q + worth cs) * (p * 10) := by
        rw [Nat.add_mul]
        have : dg c * p * (q * 10) = dg c * q * (p * 10) := by
          simp only [Nat.mul_assoc, Nat.mul_left_comm, Nat.mul_comm]
        omega
      omega
theorem pless_false : ∀ {b s : Str}, Digs b → Digs s → pless b s = false → worth s * 10 ^ b.length ≤ worth b * 10 ^ s.length
  | b, [], _, _, _ => by simp [worth]
  | [], c :: s, _, _, h => by simp [pless] at h
  | b :: bs, c :: cs, hb, hs, h => by
    simp only [pless] at h
    simp only [worth, List.length_cons, Nat.pow_succ]
    split at h
    · rename_i e
      subst e
      have ih := pless_false hb.tail hs.tail h
      generalize 10 ^ bs.length = p at *
      generalize 10 ^ cs.length = q at *
      generalize dg b = x at *
      have e1 : (x * p + worth bs) * (q * 10) = (x * p * q + worth bs * q) * 10 := by rw [Nat.add_mul, Nat.add_mul]; simp only [Nat.mul_assoc]
      have e2 : (x * q + worth cs) * (p * 10) = (x * p * q + worth cs * p) * 10 := by rw [Nat.add_mul, Nat.add_mul, Nat.mul_right_comm x p q]; simp only [Nat.mul_assoc]
      rw [e1, e2]
      omega
    · rename_i hne
      have hge : ¬ b.toNat < c.toNat := of_decide_eq_false h
      have hn : b.toNat ≠ c.toNat := fun e => hne (UInt8.toNat_inj.1 e)
      have h1 := dig_rng hb.head
      have h2 := dig_rng hs.head
      have h3 := worth_lt hs.tail
      have h4 : dg c + 1 ≤ dg b := by unfold dg; omega
      generalize 10 ^ bs.length = p at *
      generalize 10 ^ cs.length = q at *
      have h5 : dg c * q + worth cs ≤ dg b * q := by
        have := Nat.mul_le_mul_right q h4
        rw [Nat.add_mul] at this
        omega
      have h6 : (dg c * q + worth cs) * (p * 10) ≤ dg b * q * (p * 10) := Nat.mul_le_mul_right _ h5
      have h7 : dg b * q * (p * 10) ≤ (dg b * p + worth bs) * (q * 10) := by
        rw [Nat.add_mul]
        have : dg b * q * (p * 10) = dg b * p * (q * 10) := by
          simp only [Nat.mul_assoc, Nat.mul_left_comm, Nat.mul_comm]
        omega
      omega
end Js
namespace Js
theorem drop_at {l : Str} {i : Nat} {c : UInt8} (h : l[i]? = some c) : l.drop i = c :: l.drop (i + 1) := by
  obtain ⟨hl, rfl⟩ := List.getElem?_eq_some_iff.1 h
  exact List.drop_eq_getElem_cons hl
theorem pless_step {b s : Str} {i : Nat} {c d : UInt8} (hb : b[i]? = some c) (hs : s[i]? = some d) : pless (b.drop i) (s.drop i) = if c = d then pless (b.drop (i + 1)) (s.drop (i + 1)) else decide (c.toNat < d.toNat) := by
  rw [drop_at hb, drop_at hs]; rfl
theorem pless_short {b s : Str} {i : Nat} {d : UInt8} (hb : b.length ≤ i) (hs : s[i]? = some d) : pless (b.drop i) (s.drop i) = true := by
  rw [List.drop_of_length_le hb, drop_at hs]; rfl
theorem pless_end {b s : Str} {i : Nat} (hs : s.length ≤ i) : pless (b.drop i) (s.drop i) = false := by
  rw [List.drop_of_length_le hs]; cases b.drop i <;> rfl
end Js
