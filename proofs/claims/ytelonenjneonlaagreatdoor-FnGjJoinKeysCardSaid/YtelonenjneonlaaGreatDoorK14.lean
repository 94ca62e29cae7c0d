/- Part 14 of the proof of FnGjJoinKeys: the statement Rows.FnGjJoinKeysCardSaid; no further condition. -/
import Derived.Test.YtelonenjneonlaaGreatDoorK13
import Derived.Laws.Externs
import Derived.Lib.Builder
import Derived.Lib.UnsafeStr
import Derived.Maps.Own
import Derived.Maps.Views
set_option linter.all false
set_option linter.unusedVariables false
namespace Js
def Mb.q (m : Mb) : Str := unq m.key
def Mb.raw (m : Mb) : Str := 34 :: m.key ++ [34]
def dd (acc : List Mb) (m : Mb) : List Mb := if acc.any (fun x => x.q == m.q) then acc else acc ++ [m]
def dds (ms : List Mb) : List Mb := ms.foldl dd []
def lastV (ms : List Mb) (q : Str) : Option Str := (ms.reverse.find? fun x => x.q == q).map (·.val)
theorem dds_snoc (ms : List Mb) (m : Mb) : dds (ms ++ [m]) = dd (dds ms) m := by simp [dds]
theorem lastV_snoc (ms : List Mb) (m : Mb) (q : Str) : lastV (ms ++ [m]) q = if m.q = q then some m.val else lastV ms q := by
  unfold lastV
  rw [List.reverse_append]
  simp only [List.reverse_cons, List.reverse_nil, List.nil_append, List.cons_append, List.find?_cons]
  by_cases h : m.q = q
  · simp [h]
  · rw [show (m.q == q) = false from by simpa using h]
    simp [h]
theorem lastV_any (ms : List Mb) (q : Str) : (lastV ms q).isSome = ms.any (fun x => x.q == q) := by
  unfold lastV
  rw [Option.isSome_map, Bool.eq_iff_iff, List.find?_isSome, List.any_eq_true]
  simp
theorem dds_any (q : Str) : ∀ (ms acc : List Mb), (ms.foldl dd acc).any (fun x => x.q == q) = (acc.any (fun x => x.q == q) || ms.any (fun x => x.q == q))
  | [], acc => by simp
  | m :: ms, acc => by
    rw [List.foldl_cons, dds_any q ms, List.any_cons]
    unfold dd
    split
    · rename_i h
      cases hq : (m.q == q) with
      | false => simp
      | true =>
        have e : m.q = q := by simpa using hq
        rw [e] at h
        rw [h]; simp
    · simp [Bool.or_assoc]
theorem dds_look (ms : List Mb) (q : Str) : (dds ms).any (fun x => x.q == q) = (lastV ms q).isSome := by
  rw [lastV_any]; simp [dds, dds_any]
theorem dd_sub : ∀ (ms acc : List Mb) (x : Mb), x ∈ ms.foldl dd acc → x ∈ acc ∨ x ∈ ms
  | [], acc, x, h => .inl h
  | m :: ms, acc, x, h => by
    rw [List.foldl_cons] at h
    rcases dd_sub ms _ x h with h | h
    · unfold dd at h
      split at h
      · exact .inl h
      · rcases List.mem_append.1 h with h | h
        · exact .inl h
        · rw [List.mem_singleton.1 h]; exact .inr (by simp)
    · exact .inr (by simp [h])
theorem dds_mem {ms : List Mb} {x : Mb} (h : x ∈ dds ms) : x ∈ ms := (dd_sub ms [] x h).elim (fun h => by cases h) id
theorem dd_len : ∀ (ms acc : List Mb), (ms.foldl dd acc).length ≤ acc.length + ms.length
  | [], acc => by simp
  | m :: ms, acc => by
    rw [List.foldl_cons]
    have := dd_len ms (dd acc m)
    have h2 : (dd acc m).length ≤ acc.length + 1 := by unfold dd; split <;> simp
    simp only [List.length_cons]; omega
theorem dds_len (ms : List Mb) : (dds ms).length ≤ ms.length := by have := dd_len ms []; simpa [dds] using this
theorem lastV_mem {ms : List Mb} {q v : Str} (h : lastV ms q = some v) : ∃ m ∈ ms, m.q = q ∧ m.val = v := by
  unfold lastV at h
  obtain ⟨m, h1, h2⟩ := Option.map_eq_some_iff.1 h
  have h3 := List.find?_some h1
  exact ⟨m, by simpa using List.mem_of_find?_eq_some h1, by simpa using h3, h2⟩
theorem dds_val {ms : List Mb} {x : Mb} (h : x ∈ dds ms) : ∃ v, lastV ms x.q = some v := by
  have h1 : ms.any (fun y => y.q == x.q) = true := List.any_eq_true.2 ⟨x, dds_mem h, by simp⟩
  rw [← lastV_any] at h1
  exact Option.isSome_iff_exists.1 h1
def dn (acc : List Str) (q : Str) : List Str := if acc.contains q then acc else acc ++ [q]
def dns (l : List Str) : List Str := l.foldl dn []
theorem dn_map (acc : List Mb) (m : Mb) : (dd acc m).map Mb.q = dn (acc.map Mb.q) m.q := by
  unfold dd dn
  have e : acc.any (fun x => x.q == m.q) = (acc.map Mb.q).contains m.q := by
    rw [Bool.eq_iff_iff]
    simp [List.any_eq_true]
  rw [e]
  split <;> simp
theorem dns_map' : ∀ (ms acc : List Mb), (ms.foldl dd acc).map Mb.q = (ms.map Mb.q).foldl dn (acc.map Mb.q)
  | [], acc => rfl
  | m :: ms, acc => by rw [List.foldl_cons, dns_map' ms, dn_map]; rfl
theorem dns_map (ms : List Mb) : (dds ms).map Mb.q = dns (ms.map Mb.q) := dns_map' ms []
theorem dns_snoc (l : List Str) (q : Str) : dns (l ++ [q]) = dn (dns l) q := by simp [dns]
theorem dn_len : ∀ (l acc : List Str), (l.foldl dn acc).length ≤ acc.length + l.length
  | [], acc => by simp
  | m :: ms, acc => by
    rw [List.foldl_cons]
    have := dn_len ms (dn acc m)
    have h2 : (dn acc m).length ≤ acc.length + 1 := by unfold dn; split <;> simp
    simp only [List.length_cons]; omega
def jn1 (ms : List Mb) (X : Str) (k : Mb) : Str := (if X = [] then [] else X ++ [44]) ++ (k.raw ++ 58 :: (lastV ms k.q).getD [])
def jn (ms ks : List Mb) : Str := ks.foldl (jn1 ms) []
theorem jn_snoc (ms ks : List Mb) (k : Mb) : jn ms (ks ++ [k]) = jn1 ms (jn ms ks) k := by simp [jn]
theorem jn1_ne (ms : List Mb) (X : Str) (k : Mb) : jn1 ms X k ≠ [] := by simp [jn1, Mb.raw]
theorem jn_nil {ms ks : List Mb} : jn ms ks = [] ↔ ks = [] := by
  rcases List.eq_nil_or_concat ks with rfl | ⟨l, k, rfl⟩
  · simp [jn]
  · rw [List.concat_eq_append, jn_snoc]
    exact ⟨fun h => absurd h (jn1_ne _ _ _), fun h => by simp at h⟩
theorem Shows.joinM {t : Str} {it : It} (h : Shows t it) {Y : Str} {ks' : List Str} {m : List Nd} (hY : Shows Y (.m ks' m)) : ∀ ks l, it = .m ks l → Shows (t ++ 44 :: Y) (.m (ks ++ ks') (l ++ m)) := by
  induction h with
  | @m1 w1 i w2 w3 t w4 n h1 hi h2 h3 h h4 ih =>
    rintro ks l ⟨⟩
    exact Shows.m2 h1 hi h2 h3 h h4 hY
  | @m2 w1 i w2 w3 t w4 r n ks0 l0 h1 hi h2 h3 h h4 hr ih ih2 =>
    rintro ks l ⟨⟩
    have := Shows.m2 h1 hi h2 h3 h h4 (ih2 ks0 l0 rfl)
    simpa using this
  | _ => intro ks l hl; cases hl
theorem jn_shows {ms : List Mb} : ∀ (n : Nat) (ks : List Mb), ks.length = n → (∀ k ∈ ks, Ins k.key ∧ ∃ v nd, lastV ms k.q = some v ∧ Shows v (.v nd)) → ks ≠ [] → ∃ l, Shows (jn ms ks) (.m (ks.map Mb.q) l)
  | 0, ks, hn, _, h0 => absurd (List.length_eq_zero_iff.1 hn) h0
  | n + 1, ks, hn, hk, h0 => by
    obtain ⟨ks', k, rfl⟩ : ∃ ks' k, ks = ks' ++ [k] := by
      rcases List.eq_nil_or_concat ks with h | ⟨l, k, h⟩
      · exact absurd h h0
      · exact ⟨l, k, by rw [h, List.concat_eq_append]⟩
    obtain ⟨hi, v, nd, hv, hs⟩ := hk k (by simp)
    have h1 : Shows (k.raw ++ 58 :: v) (.m [k.q] [nd]) := by
      have := Shows.m1 (w1 := []) (w2 := []) (w3 := []) (w4 := []) Bl.nil hi Bl.nil Bl.nil hs Bl.nil
      simpa [Mb.raw, Mb.q] using this
    rw [jn_snoc, jn1, hv, Option.getD_some]
    by_cases hks : ks' = []
    · subst hks
      exact ⟨[nd], by simpa [jn] using h1⟩
    · obtain ⟨l, hl⟩ := jn_shows n ks' (by simp at hn; omega) (fun x hx => hk x (by simp [hx])) hks
      rw [if_neg (fun e => hks (jn_nil.1 e))]
      refine ⟨l ++ [nd], ?_⟩
      have := hl.joinM h1 _ _ rfl
      simpa using this
theorem jn_obj {ms ks : List Mb} (hk : ∀ k ∈ ks, Ins k.key ∧ ∃ v nd, lastV ms k.q = some v ∧ Shows v (.v nd)) : ∃ l, Shows (123 :: jn ms ks ++ [125]) (.v (.mk 6 [] (ks.map Mb.q) l)) := by
  by_cases h0 : ks = []
  · subst h0; exact ⟨[], Shows.obj0 Bl.nil⟩
  · obtain ⟨l, hl⟩ := jn_shows _ ks rfl hk h0
    exact ⟨l, .obj hl⟩
theorem jn_len {ms : List Mb} {N : Nat} (hN : ∀ m ∈ ms, m.key.length ≤ N ∧ m.val.length ≤ N) : ∀ (ks acc : List Mb) (X : Str), (∀ k ∈ ks, k ∈ ms) → (ks.foldl (jn1 ms) X).length ≤ X.length + ks.length * (2 * N + 4)
  | [], _, X, _ => by simp
  | k :: ks, acc, X, h => by
    rw [List.foldl_cons]
    have h1 := jn_len hN ks acc (jn1 ms X k) (fun x hx => h x (by simp [hx]))
    have h2 : (jn1 ms X k).length ≤ X.length + (2 * N + 4) := by
      have h3 := (hN k (h k (by simp))).1
      have h4 : ((lastV ms k.q).getD []).length ≤ N := by
        cases hv : lastV ms k.q with
        | none => simp
        | some v => obtain ⟨m, hm, _, rfl⟩ := lastV_mem hv; exact (hN m hm).2
      unfold jn1 Mb.raw
      split <;> simp <;> omega
    rw [List.length_cons, Nat.add_mul]
    omega
def strN (q : Str) : Nd := .mk 4 q [] []
def kn1 (X : Str) (k : Mb) : Str := (if X = [] then [] else X ++ [44]) ++ k.raw
def kn (ks : List Mb) : Str := ks.foldl kn1 []
theorem kn_snoc (ks : List Mb) (k : Mb) : kn (ks ++ [k]) = kn1 (kn ks) k := by simp [kn]
theorem kn_nil {ks : List Mb} : kn ks = [] ↔ ks = [] := by
  rcases List.eq_nil_or_concat ks with rfl | ⟨l, k, rfl⟩
  · simp [kn]
  · rw [List.concat_eq_append, kn_snoc]
    simp [kn1, Mb.raw]
theorem kn_shows : ∀ (n : Nat) (ks : List Mb), ks.length = n → (∀ k ∈ ks, Ins k.key) → ks ≠ [] → Shows (kn ks) (.e (ks.map fun k => strN k.q))
  | 0, ks, hn, _, h0 => absurd (List.length_eq_zero_iff.1 hn) h0
  | n + 1, ks, hn, hk, h0 => by
    obtain ⟨ks', k, rfl⟩ : ∃ ks' k, ks = ks' ++ [k] := by
      rcases List.eq_nil_or_concat ks with h | ⟨l, k, h⟩
      · exact absurd h h0
      · exact ⟨l, k, by rw [h, List.concat_eq_append]⟩
    have h1 : Shows k.raw (.e [strN k.q]) := by
      have := Shows.e1 (w1 := []) (w2 := []) Bl.nil (Shows.str (hk k (by simp))) Bl.nil
      simpa [Mb.raw, Mb.q, strN] using this
    rw [kn_snoc, kn1]
    by_cases hks : ks' = []
    · subst hks; simpa [kn] using h1
    · have hl := kn_shows n ks' (by simp at hn; omega) (fun x hx => hk x (by simp [hx])) hks
      rw [if_neg (fun e => hks (kn_nil.1 e))]
      have := hl.join h1 _ rfl
      simpa using this
theorem kn_arr {ks : List Mb} (hk : ∀ k ∈ ks, Ins k.key) : Shows (91 :: kn ks ++ [93]) (.v (.mk 5 [] [] (ks.map fun k => strN k.q))) := by
  by_cases h0 : ks = []
  · subst h0; exact Shows.arr0 Bl.nil
  · exact .arr (kn_shows _ ks rfl hk h0)
def lensM (ms : List Mb) : Nat := (ms.map fun m => m.key.length + m.val.length + 3).sum
theorem RestM.lens {u : Str} {ms : List Mb} (h : RestM u ms) : lensM ms ≤ u.length := by
  induction h with
  | done _ => simp [lensM]
  | more _ _ _ _ _ _ ih =>
    simp only [lensM, List.map_cons, List.sum_cons] at ih ⊢
    simp
    omega
theorem lens_mem : ∀ {ms : List Mb} {m : Mb}, m ∈ ms → m.key.length + m.val.length + 3 ≤ lensM ms
  | x :: ms, m, h => by
    simp only [lensM, List.map_cons, List.sum_cons]
    rcases List.mem_cons.1 h with rfl | h
    · omega
    · have := lens_mem h
      simp only [lensM] at this
      omega
theorem kn_len : ∀ (ks : List Mb) (X : Str), (ks.foldl kn1 X).length ≤ X.length + lensM ks
  | [], X => by simp [lensM]
  | k :: ks, X => by
    rw [List.foldl_cons]
    have h1 := kn_len ks (kn1 X k)
    have h2 : (kn1 X k).length ≤ X.length + (k.key.length + 3) := by
      unfold kn1 Mb.raw
      split <;> simp <;> omega
    simp only [lensM, List.map_cons, List.sum_cons] at h1 ⊢
    omega
theorem lensM_take (ms : List Mb) (j : Nat) : lensM (ms.take j) ≤ lensM ms := by
  have h1 : ∀ a b : List Mb, lensM (a ++ b) = lensM a + lensM b := fun a b => by simp [lensM]
  have h2 := h1 (ms.take j) (ms.drop j)
  rw [List.take_append_drop] at h2
  omega
theorem kn_next {ms : List Mb} {j : Nat} {x : Mb} (h : ms[j]? = some x) : kn (ms.take (j + 1)) = kn1 (kn (ms.take j)) x := by
  rw [List.take_add_one, h]; exact kn_snoc _ _
theorem obj_members {T txt : Str} {ks : List Str} {l : List Nd} (h : Shows T (.v (.mk 6 txt ks l))) : ∃ u ms, T = 123 :: u ∧ 0 < u.length ∧ ms.map Mb.q = ks ∧ (∀ m ∈ ms, Ins m.key ∧ ∃ nd, Shows m.val (.v nd)) ∧ RestM u ms ∧
    (∀ r, paired (T ++ r) = true → ∀ m ∈ ms, Prd m.key) := by
  cases h with
  | @obj0 w h => exact ⟨w ++ [125], [], rfl, by simp, rfl, by simp, .done (fun c hc => by rcases List.mem_append.1 hc with hc | hc; exact bl_ne h c hc; rw [List.mem_singleton.1 hc]; decide), fun _ _ => by simp⟩
  | @obj t ks l h =>
    obtain ⟨ms, h1, h2, h3, h4, h5⟩ := restM_of h _ _ rfl
    refine ⟨t ++ [125], ms, rfl, by simp, ?_, ?_, h4, fun r hp => h5 (125 :: r) ?_⟩
    · refine List.ext_getElem? fun j => ?_
      rw [List.getElem?_map]
      rcases Nat.lt_or_ge j ms.length with hj | hj
      · have e1 : ms[j]? = some ms[j] := List.getElem?_eq_getElem hj
        have e2 : ks[j]? = some (ks[j]'(by omega)) := List.getElem?_eq_getElem _
        have e3 : l[j]? = some (l[j]'(by omega)) := List.getElem?_eq_getElem _
        rw [e1, e2, (h3 j _ _ _ e1 e2 e3).2.1]; rfl
      · rw [List.getElem?_eq_none hj, List.getElem?_eq_none (by omega)]; rfl
    · intro m hm
      obtain ⟨j, hj⟩ := List.mem_iff_getElem?.1 hm
      have hjl := (List.getElem?_eq_some_iff.1 hj).1
      have e2 : ks[j]? = some (ks[j]'(by omega)) := List.getElem?_eq_getElem _
      have e3 : l[j]? = some (l[j]'(by omega)) := List.getElem?_eq_getElem _
      have := h3 j _ _ _ hj e2 e3
      exact ⟨this.1, _, this.2.2.1⟩
    · rw [show 123 :: t ++ [125] ++ r = 123 :: (t ++ 125 :: r) by simp, paired_cons _ (by decide)] at hp
      exact hp
end Js
namespace Go.Sx
open Go.RowKit Go.Proofs Js Go.Maps Go.Proofs.YtelonenjneonlaaGreatDoorW.PrintWords
abbrev Dm := DataW Unit
def rawR : Value → Option (Dm × List MemPlace)
  | .agg ⟨[.int .i64 _, .string raw, .string _, .float .f64 _, .int .i64 _, .slice none 0 0]⟩ => some (.lit (.string raw.data.toList), [])
  | _ => none
theorem rawR_res (k : Int) (raw str : Str) (f : Nat) (ix : Int) : rawR (resV k raw str f ix) = some (.lit (.string raw), []) := rfl
theorem rawR_inv {v : Value} {y : Dm × List MemPlace} (h : rawR v = some y) : ∃ k raw str f ix, v = resV k raw str f ix ∧ y.1 = .lit (.string raw) := by
  unfold rawR at h
  split at h
  · rename_i k raw str f ix
    obtain rfl := Option.some.inj h
    exact ⟨k, raw.data.toList, str.data.toList, f, ix, rfl, rfl⟩
  · cases h
def MpAt (w : World) (g : Nat) (ms : List Mb) : Prop :=
  ∃ D : Dm, w.ownsMap Tryz.prog 9 rawR g ms.length D ∧ IsMap D ∧ ∀ q zd, D.atKey (.string q) zd = (match lastV ms q with | some v => .lit (.string v) | none => zd)
theorem MpAt.lt {w : World} {g : Nat} {ms : List Mb} (h : MpAt w g ms) : g < w.heap.size := by
  obtain ⟨D, h1, _⟩ := h
  exact h1.lt
theorem MpAt.of {w w' : World} {g : Nat} {ms : List Mb} (h : MpAt w g ms) (e : w'.heap[g]? = w.heap[g]?) : MpAt w' g ms := by
  obtain ⟨D, ⟨es, clock, hb, h1⟩, h2⟩ := h
  exact ⟨D, ⟨es, clock, e.trans hb, h1⟩, h2⟩
theorem MpAt.below {w w' : World} {g B : Nat} {ms : List Mb} (h : MpAt w g ms) (hb : Below B w w') (hg : g < B) : MpAt w' g ms := h.of (hb.block g hg)
theorem MpAt.ne {w : World} {g : Nat} {ms : List Mb} (h : MpAt w g ms) {B : Nat} {w0 : World} {L : List Bk} (hM : Mem B w0 L w) : ∀ x ∈ L, x.1 ≠ g := by
  obtain ⟨D, ⟨es, clock, hb, h1⟩, h2⟩ := h
  intro x hx e
  have := (hM.held x hx).2
  rw [e, hb] at this
  cases this
theorem MpAt.made (w : World) : MpAt (w.alloc (.map #[] 0)) w.heap.size [] := ⟨_, World.ownsMap_made w Tryz.prog 9 rawR, isMap_empty, fun q zd => rfl⟩
theorem mapKey {q : Str} (hq : q.length ≤ maxLen) : keyOf Tryz.prog 9 (.string (mkS q)) = some (.string q) := by
  have := WideMaps.keyOf_string_mk (P := Tryz.prog) (k := 9) Tryz.underlying9 (s := mkS q) (by rw [mkS_size]; exact hq)
  exact this
theorem zero135 (w : World) : (zeroValue 135).run Tryz.prog w = .ok (resV 0 [] [] 0 0) w := by
  have h : ((Tryz.prog.info? 135).bind (·.zero)) = some (resV 0 [] [] 0 0) := by kernel_rfl
  obtain ⟨i, hi, hz⟩ := Option.bind_eq_some_iff.1 h
  simp [zeroValue, typeInfo, hi, hz, Sem.run]
theorem MpAt.look2 {w : World} {g : Nat} {ms : List Mb} (h : MpAt w g ms) {q : Str} (hq : q.length ≤ maxLen) :
    ∃ k raw str f ix, (Instr.lookup 147 (.map (some g)) (.string (mkS q)) true).run Tryz.prog w = .ok (.tuple #[resV k raw str f ix, .bool (lastV ms q).isSome]) w := by
  obtain ⟨D, ⟨es, clock, hb, F, _, rfl⟩, hm, hat⟩ := h
  rcases fit_look true (string_keyed Tryz.underlying9) Tryz.underlying147 (zero135 w) hb F (mapKey hq) with ⟨hrun, _, ha⟩ | ⟨e0, y, _, _, hrun, hR, ha, _⟩
  · refine ⟨0, [], [], 0, 0, ?_⟩
    have : lastV ms q = none := by
      cases hl : lastV ms q with
      | none => rfl
      | some v =>
        have h1 := hat q (.lit (.bool true))
        rw [ha, hl] at h1
        cases h1
    rw [this]
    exact hrun
  · obtain ⟨k, raw, str, f, ix, hv, hy⟩ := rawR_inv hR
    refine ⟨k, raw, str, f, ix, ?_⟩
    have : (lastV ms q).isSome = true := by
      cases hl : lastV ms q with
      | some v => rfl
      | none =>
        have h1 := hat q (.lit (.bool true))
        rw [ha, hl, hy] at h1
        cases h1
    rw [this, ← hv]
    exact hrun
theorem MpAt.look1 {w : World} {g : Nat} {ms : List Mb} (h : MpAt w g ms) {q v : Str} (hq : q.length ≤ maxLen) (hv : lastV ms q = some v) :
    ∃ k str f ix, (Instr.lookup 147 (.map (some g)) (.string (mkS q)) false).run Tryz.prog w = .ok (resV k v str f ix) w := by
  obtain ⟨D, ⟨es, clock, hb, F, _, rfl⟩, hm, hat⟩ := h
  rcases fit_look false (string_keyed Tryz.underlying9) Tryz.underlying147 (zero135 w) hb F (mapKey hq) with ⟨hrun, _, ha⟩ | ⟨e0, y, _, _, hrun, hR, ha, _⟩
  · exfalso
    have h1 := hat q (.lit (.bool true))
    rw [ha, hv] at h1
    cases h1
  · obtain ⟨k, raw, str, f, ix, he, hy⟩ := rawR_inv hR
    have h1 := hat q (.lit (.bool true))
    rw [ha, hv, hy] at h1
    obtain rfl : raw = v := Lit.string.inj (DataW.lit.inj h1)
    rw [he] at hrun
    exact ⟨k, str, f, ix, hrun⟩
theorem MpAt.put {w : World} {g : Nat} {ms : List Mb} (h : MpAt w g ms) (m : Mb) (hq : m.q.length ≤ maxLen) (hn : ms.length < maxLen) (k : Int) (str : Str) (f : Nat) (ix : Int) :
    ∃ w', (Instr.mapUpdate 147 (.map (some g)) (.string (mkS m.q)) (resV k m.val str f ix)).run Tryz.prog w = .ok () w' ∧ MpAt w' g (ms ++ [m]) ∧ w.grownBy w' (some g) := by
  obtain ⟨D, h1, hm, hat⟩ := h
  obtain ⟨w', hr, h2, h3⟩ := h1.update (string_keyed Tryz.underlying9) Tryz.underlying147 hn (mapKey hq) (rawR_res k m.val str f ix)
  refine ⟨w', hr, ⟨_, by simpa using h2, hm.put _ _, fun q zd => ?_⟩, h3⟩
  rw [lastV_snoc]
  by_cases e : m.q = q
  · rw [if_pos e, ← e, atKey_put_same hm (show WideAt.IsKeyLit (.string m.q) from trivial)]
  · rw [if_neg e, atKey_put_other (fun h => e (Lit.string.inj h).symm), hat]
section
variable {n : Nat} {K : List (Nat × Value)} {a : Act} {w wr w0 : World} {Q : Exit → Act → World → Prop} {ops : Array Oper} {rest : List Oper} {o : Oper} {B Bc g : Nat} {L Lw : List Bk} {ms : List Mb}
theorem Mem.up (hW : Mem B w0 Lw wr) (hlt : ∀ x ∈ Lw, x.1 < Bc) (hB : B ≤ Bc) (hM : Mem Bc wr L w) : Mem B w0 Lw w :=
  ⟨hW.below.trans (hM.below.mono hB), Nat.le_trans hB hM.base, fun x hx => ⟨(hW.held x hx).1, (hM.below.block _ (hlt x hx)).trans (hW.held x hx).2⟩, hW.apart⟩
theorem Mem.both (hW : Mem B w0 Lw w) (hB : B ≤ Bc) (hlt : ∀ x ∈ Lw, x.1 < Bc) (hM : Mem Bc wr L w) : Mem B w0 (Lw ++ L) w := by
  refine ⟨hW.below, hW.base, ?_, List.pairwise_append.2 ⟨hW.apart, hM.apart, fun x hx y hy => ?_⟩⟩
  · intro x hx
    rcases List.mem_append.1 hx with hx | hx
    · exact hW.held x hx
    · have := hM.held x hx
      exact ⟨Nat.le_trans hB this.1, this.2⟩
  · have h1 := hlt x hx
    have h2 := (hM.held y hy).1
    omega
structure JW (B : Nat) (w0 : World) (Lw : List Bk) (g Bc : Nat) (ms : List Mb) (wr : World) : Prop where
  mem : Mem B w0 Lw wr
  map : MpAt wr g ms
  hB : B ≤ Bc
  lo : B ≤ g
  hi : g < Bc
  low : ∀ x ∈ Lw, x.1 < Bc
theorem JW.now (hJ : JW B w0 Lw g Bc ms wr) (hM : Mem Bc wr L w) : JW B w0 Lw g Bc ms w := ⟨hJ.mem.up hJ.low hJ.hB hM, hJ.map.below hM.below hJ.hi, hJ.hB, hJ.lo, hJ.hi, hJ.low⟩
theorem JW.all (hJ : JW B w0 Lw g Bc ms wr) (hM : Mem Bc wr L w) : Mem B w0 (Lw ++ L) w := (hJ.now hM).mem.both hJ.hB hJ.low hM
theorem Mem.cell_of (hM : Mem B w0 L w) {b j : Nat} {t : TypeId} {vs : List Value} {v : Value} (hx : (b, t, vs) ∈ L) (hv : vs[j]? = some v) : w.cell? ⟨b, j, none⟩ = some v := by
  rw [blk_cell (hM.held _ hx).2]; simpa using hv
theorem JW.cell (hJ : JW B w0 Lw g Bc ms wr) (hM : Mem Bc wr L w) {b j : Nat} {t : TypeId} {vs : List Value} {v : Value} (hx : (b, t, vs) ∈ Lw) (hv : vs[j]? = some v) : w.cell? ⟨b, j, none⟩ = some v := (hJ.now hM).mem.cell_of hx hv
theorem store_run (hF : Fr n K a) {P : Program} (hM : Mem B w0 L w) {x y : Operand} {t t0 : TypeId} {b j : Nat} {vs : List Value} {v : Value} {k : Nat} (hop : o.op = .store t x y) (hi : (P.info? t).map (·.size) = some 1)
    (hx : ev K x = some (.pointer (some ⟨b, j, none⟩))) (hy : ev K y = some v) (hv : v.oneCell' = true) (hk : L[k]? = some (b, t0, vs)) (hj : j < vs.length) : (execOp a.eval o).run P w = .ok .skip (w.setCell ⟨b, j, none⟩ v) := by
  obtain ⟨i, hq, hs⟩ := Option.map_eq_some_iff.1 hi
  have hc : w.cell? ⟨b, j, none⟩ = some vs[j] := by rw [blk_cell (hM.blk hk).2]; simp [hj]
  have hcells : v.cells = #[v] := by cases v <;> first | rfl | (simp [Value.oneCell'] at hv)
  have hadd : (⟨b, j, none⟩ : Addr).add 0 = ⟨b, j, none⟩ := by unfold Addr.add; split <;> simp_all
  have e : (store ⟨b, j, none⟩ v).run P w = .ok () (w.setCell ⟨b, j, none⟩ v) := by
    rw [run_store P w _ v _ hv, hc]
    simp [blk_frozen (hM.blk hk).2]
  simp only [execOp, hop, hF.ev hx, hF.ev hy]
  simp [Instr.storeAt, Instr.sureAddr, storeVar, hcells, sizeOf, typeInfo, hq, hs, storeCells, hadd, e]
theorem Mem.other {w' : World} (hM : Mem Bc wr L w) (hs : w.heap.size ≤ w'.heap.size) (h : ∀ x ∈ L, w'.heap[x.1]? = w.heap[x.1]?) : Mem Bc w' L w' :=
  ⟨Below.refl _ _, Nat.le_trans hM.base hs, fun x hx => ⟨(hM.held x hx).1, (h x hx).trans (hM.held x hx).2⟩, hM.apart⟩
theorem Sj (hJ : JW B w0 Lw g Bc ms wr) (hM : Mem Bc wr L w) (k : Nat) {x y : Operand} {t t0 : TypeId} {b j : Nat} {vs : List Value} {v : Value}
    (hd : (o.dst, wantT n ops K o.guard, o.op, hasN t plL, ev K x, ev K y, v.oneCell', Lw[k]?, Nat.blt j vs.length) = (none, some true, .store t x y, true, some (.pointer (some ⟨b, j, none⟩)), some v, true, some (b, t0, vs), true))
    (h : ∀ w', JW B w0 (Lw.set k (b, t0, vs.set j v)) g Bc ms w' → Mem Bc w' L w' → ∀ a, Fr n K a → wpList Tryz.prog ops Q rest a w') : ∀ a, Fr n K a → wpList Tryz.prog ops Q (o :: rest) a w := by
  intro a hF
  simp only [Prod.mk.injEq] at hd
  obtain ⟨h1, h2, h3, h4, h5, h6, h7, h8, h9⟩ := hd
  have hJ' := hJ.now hM
  have hj : j < vs.length := Nat.le_of_ble_eq_true h9
  have hrun := store_run (o := { o with guard := none }) hF hJ'.mem h3 (pl_of h4).2 h5 h6 h7 h8 hj
  have hbx := List.mem_of_getElem? h8
  have hbg : b ≠ g := hJ'.map.ne hJ'.mem _ hbx
  refine unguard hF h2 (op_unit (o := { o with guard := none }) hF rfl h1 hrun (fun a' hF' => h _ ⟨hJ'.mem.set h8 j v, hJ'.map.of (Below.heap_setCell _ _ _ _ (Ne.symm hbg)), hJ.hB, hJ.lo, hJ.hi, ?_⟩ (hM.other (by simp) (fun x hx => Below.heap_setCell _ _ _ _ ?_)) a' hF'))
  · intro y hy
    rcases List.mem_or_eq_of_mem_set hy with hy | rfl
    · exact hJ.low y hy
    · exact (hJ.low _ hbx : b < Bc)
  · have e1 := hJ.low _ hbx
    have e2 := (hM.held x hx).1
    simp only at e1 ⊢
    omega
theorem Mj (hJ : JW B w0 Lw g Bc ms wr) (hM : Mem Bc wr L w) (m : Mb) {x y z : Operand} {k : Int} {str : Str} {f : Nat} {ix : Int} (hq : m.q.length ≤ maxLen) (hn : ms.length < maxLen)
    (hd : (o.dst, wantT n ops K o.guard, o.op, ev K x, ev K y, ev K z) = (none, some true, .mapUpdate 147 x y z, some (.map (some g)), some (.string (mkS m.q)), some (resV k m.val str f ix)))
    (h : ∀ w', JW B w0 Lw g Bc (ms ++ [m]) w' → Mem Bc w' L w' → ∀ a, Fr n K a → wpList Tryz.prog ops Q rest a w') : ∀ a, Fr n K a → wpList Tryz.prog ops Q (o :: rest) a w := by
  intro a hF
  simp only [Prod.mk.injEq] at hd
  obtain ⟨h1, h2, h3, h5, h6, h7⟩ := hd
  have hJ' := hJ.now hM
  obtain ⟨w', hr, hmp, hg⟩ := hJ'.map.put m hq hn k str f ix
  have hrun : (execOp a.eval { o with guard := none }).run Tryz.prog w = .ok .skip w' := by
    simp only [execOp, h3, hF.ev h5, hF.ev h6, hF.ev h7]
    simp [hr]
  have hne := hJ'.map.ne hJ'.mem
  refine unguard hF h2 (op_unit (o := { o with guard := none }) hF rfl h1 hrun (fun a' hF' => h _ ⟨⟨hJ'.mem.below.grown hg hJ'.mem.base (fun k' e => by cases e; exact hJ.lo), Nat.le_trans hJ'.mem.base hg.size, fun x hx => ⟨(hJ'.mem.held x hx).1, ?_⟩, hJ'.mem.apart⟩, hmp, hJ.hB, hJ.lo, hJ.hi, hJ.low⟩ (hM.other hg.size (fun x hx => ?_)) a' hF'))
  · exact (hg.block _ (blk_lt (hJ'.mem.held x hx).2) (fun e => hne x hx (Option.some.inj e))).trans (hJ'.mem.held x hx).2
  · have e2 := (hM.held x hx).1
    have e3 := hJ.hi
    exact hg.block _ (blk_lt (hM.held x hx).2) (fun e => by have := Option.some.inj e; omega)
theorem gives_lookup {x y : Operand} {c : Bool} {kv v : Value} (hF : Fr n K a) (hop : o.op = .lookup 147 x y c) (hx : ev K x = some (.map (some g))) (hy : ev K y = some kv) (hr : (Instr.lookup 147 (.map (some g)) kv c).run Tryz.prog w = .ok v w) : (execOp a.eval o).run Tryz.prog w = .ok (.value v) w := by
  simp only [execOp, hop, hF.ev hx, hF.ev hy]
  simp [hr]
theorem op_makeMap {d : Nat} (hd : (dstT n ops K o, o.op) = (some d, .makeMap 147 none)) (hM : Mem B w0 L w) (h : ∀ w' g, MpAt w' g [] → B ≤ g → g < w'.heap.size → Mem B w0 L w' → ∀ a, Fr n ((d, .map (some g)) :: K) a → wpList Tryz.prog ops Q rest a w') : ∀ a, Fr n K a → wpList Tryz.prog ops Q (o :: rest) a w := by
  intro a hF
  obtain ⟨h1, h2⟩ := Prod.mk.inj hd
  obtain ⟨h4, h5, h6⟩ := dst_ok h1
  have hrun : (execOp a.eval { o with guard := none }).run Tryz.prog w = .ok (.value (.map (some w.heap.size))) (w.alloc (.map #[] 0)) := by
    simp only [execOp, h2]
    simp [run_makeMap]
  refine unguard hF h6 (op_run (o := { o with guard := none }) hF rfl _ h4 (Nat.ble_eq_true_of_le h5) hrun (fun a' hF' => h _ _ (MpAt.made w) hM.base (by simp) ?_ a' hF'))
  refine ⟨hM.below.alloc hM.base _, by simp; have := hM.base; omega, fun x hx => ⟨(hM.held x hx).1, ?_⟩, hM.apart⟩
  exact blk_alloc (hM.held x hx).2 _
end
end Go.Sx
namespace Go.Sx
open Go.RowKit Go.Proofs Js Go.Proofs.YtelonenjneonlaaGreatDoorW.PrintWords
section
variable {n : Nat} {K : List (Nat × Value)} {a : Act} {w wr w0 : World} {Q : Exit → Act → World → Prop} {ops : Array Oper} {rest : List Oper} {o : Oper} {B : Nat} {L : List Bk}
theorem info139 : ∃ j, Tryz.prog.info? 139 = some j ∧ j.size = 2 := by
  have h : (Tryz.prog.info? 139).map (·.size) = some 2 := by kernel_rfl
  exact Option.map_eq_some_iff.1 h
theorem gives_eqNil {x y : Operand} {p : Option Addr} (hF : Fr n K a) (hop : o.op = .binOp .eql 137 x y 137) (hx : ev K x = some (.pointer p)) (hy : ev K y = some (.pointer none)) (w : World) : (execOp a.eval o).run Tryz.prog w = .ok (.value (.bool p.isNone)) w := by
  obtain ⟨j, hj, _⟩ := info139
  have h : ∀ d : Nat, (Op.equalIn (d + 1) 137 (.pointer p) (.pointer none)).run Tryz.prog w = .ok p.isNone w := fun d => by
    cases p <;> simp [Op.equalIn, run_underlying Tryz.underlying137, sizeOf, typeInfo, hj]
  have e : (binOp .eql 137 (.pointer p) (.pointer none)).run Tryz.prog w = .ok (.bool p.isNone) w := by
    simp only [binOp]
    simp [Op.equal, Op.maxDepth, h 9999]
  simp only [execOp, hop, hF.ev hx, hF.ev hy]
  simp [eqGuard, e]
theorem gives_neqSelf {x y : Operand} {ad : Addr} (hF : Fr n K a) (hop : o.op = .binOp .neq 137 x y 137) (hx : ev K x = some (.pointer (some ad))) (hy : ev K y = some (.pointer (some ad))) (w : World) : (execOp a.eval o).run Tryz.prog w = .ok (.value (.bool false)) w := by
  obtain ⟨j, hj, _⟩ := info139
  have e := Lib.run_neq_ptr_same (P := Tryz.prog) (w := w) ad Tryz.underlying137 hj
  simp only [execOp, hop, hF.ev hx, hF.ev hy]
  simp [eqGuard, e]
theorem shape_of (hM : Mem B w0 L w) {k b : Nat} {t : TypeId} {vs : List Value} (hk : L[k]? = some (b, t, vs)) : w.shape? b = some (t, vs.length) := by simp [World.shape?, (hM.blk hk).2]
theorem gives_toUnsafe {x : Operand} {b k : Nat} {vs : List Value} (hF : Fr n K a) (hM : Mem B w0 L w) (hop : o.op = .convert 137 197 x) (hx : ev K x = some (.pointer (some ⟨b, 0, none⟩))) (hk : L[k]? = some (b, 139, vs)) (hv : 0 < vs.length) :
    (execOp a.eval o).run Tryz.prog w = .ok (.value (.pointer (some ⟨b, 0, none⟩))) w := by
  obtain ⟨j, hj, hs⟩ := info139
  have e := Lib.run_to_unsafe (P := Tryz.prog) (w := w) ⟨b, 0, none⟩ Tryz.underlying137 Tryz.underlying197 hj (by rw [hs]; decide) (shape_of hM hk) hv
  simp only [execOp, hop, hF.ev hx]
  simp [e]
theorem gives_fromUnsafe {x : Operand} {b k : Nat} {vs : List Value} (hF : Fr n K a) (hM : Mem B w0 L w) (hop : o.op = .convert 197 137 x) (hx : ev K x = some (.pointer (some ⟨b, 0, none⟩))) (hk : L[k]? = some (b, 139, vs)) (hv : vs.length = 2) :
    (execOp a.eval o).run Tryz.prog w = .ok (.value (.pointer (some ⟨b, 0, none⟩))) w := by
  obtain ⟨j, hj, hs⟩ := info139
  have hl : liesAt Tryz.prog Tryz.prog.depth 139 (2 / Tryz.prog.cellsOf 139) 0 139 1 = true := by kernel_rfl
  have e := Lib.run_from_unsafe (P := Tryz.prog) (w := w) ⟨b, 0, none⟩ Tryz.underlying197 Tryz.underlying137 hj (shape_of hM hk) (by rw [hv]; exact hl)
  simp only [execOp, hop, hF.ev hx]
  simp [e]
theorem gives_noEscape {x : Operand} {v : Value} (hF : Fr n K a) (hop : o.op = .call { callee := .value (.func 162), args := #[x], argTypes := #[197] }) (hx : ev K x = some v) (w : World) : (execOp a.eval o).run Tryz.prog w = .ok (.value v) w := by
  have e := run_callFunc_extern (P := Tryz.prog) Tryz.func162 (by kernel_rfl) (by kernel_rfl) (by kernel_rfl) (e := Extern.AbiNoEscape.same) (by kernel_rfl) #[v] w
  have hc : a.eval (.func 162) = .func (.func 162) #[] #[] := rfl
  simp only [execOp, hop, resolve, Deferred.ofValue, invoke, List.map_toArray, List.map_cons, List.map_nil, hF.ev hx, hc]
  simp
  rw [e]
  rfl
theorem gives_sliceData {x : Operand} {ad : Addr} {l c : Nat} (hF : Fr n K a) (hop : o.op = .call { callee := .builtin .unsafeSliceData, args := #[x], argTypes := #[66] }) (hx : ev K x = some (.slice (some ad) l c)) (hc : c ≠ 0) (w : World) : (execOp a.eval o).run Tryz.prog w = .ok (.value (.pointer (some ad))) w := by
  simp only [execOp, hop, resolve, invoke, builtin, List.map_toArray, List.map_cons, List.map_nil, hF.ev hx]
  have e : (Builtin.unsafeSliceData_ #[66] o.type #[.slice (some ad) l c]).run Tryz.prog w = .ok (.pointer (some ad)) w := Lib.run_unsafeSliceData_row _ _ _ ad l c hc
  simp [e]
theorem op_unsafeStr2 {b : Nat} {l : List UInt8} {vs : List Value} (hM : Mem B w0 ((b, 5, vs) :: L) w) (hr : vs.take l.length = u8s l) {d : Nat} {x y : Operand}
    (hd : (dstT n ops K o, o.op) = (some d, .call { callee := .builtin .unsafeString, args := #[x, y], argTypes := #[180, 3] })) (hx : ev K x = some (.pointer (some ⟨b, 0, none⟩))) (hy : ev K y = some (.int .i64 (l.length : Int))) (h0 : l ≠ []) (hl : l.length ≤ 2 ^ 46)
    (h : ∀ w', Mem B w0 L w' → ∀ a, Fr n ((d, .string (mkS l)) :: K) a → wpList Tryz.prog ops Q rest a w') : ∀ a, Fr n K a → wpList Tryz.prog ops Q (o :: rest) a w := by
  intro a hF
  obtain ⟨h1, hop⟩ := Prod.mk.inj hd
  obtain ⟨h4, h5, h6⟩ := dst_ok h1
  have hb := (hM.blk (k := 0) rfl)
  have hsh := shape_of hM (k := 0) rfl
  have hle : l.length ≤ vs.length := by have := congrArg List.length hr; rw [u8s_length, List.length_take] at this; omega
  have e := Lib.run_unsafeString_row (P := Tryz.prog) (w := w) 180 3 o.type 5 Tryz.underlying180 (by kernel_rfl) b vs.length hsh l h0 hle (by omega)
    (fun j x hx => by
      have hj := (List.getElem?_eq_some_iff.1 hx).1
      rw [addr_add, Nat.zero_add, blk_cell hb.2]
      have h7 := congrArg (fun z => z[j]?) hr
      simp only [List.getElem?_take, hj, if_true] at h7
      simp [h7, u8s, hx])
  have hap := List.pairwise_cons.1 hM.apart
  have hMf : Mem B w0 L (w.freeze ⟨b, 0, none⟩ l.length) := by
    refine ⟨Lib.below_freeze hM.below hb.1 _, by unfold World.freeze; split; exact hM.base; simpa using hM.base, fun x hx => ?_, hap.2⟩
    have h1 := hM.held x (by simp [hx])
    refine ⟨h1.1, ?_⟩
    have hne : b ≠ x.1 := hap.1 x hx
    unfold World.freeze
    split
    · exact h1.2
    · simp only [Array.getElem?_modify, if_neg hne]
      exact h1.2
  refine unguard hF h6 (op_run (o := { o with guard := none }) hF rfl (.string (mkS l)) h4 (Nat.ble_eq_true_of_le h5) (w' := w.freeze ⟨b, 0, none⟩ l.length) ?_ (fun a' hF' => h _ hMf a' hF'))
  simp only [execOp, hop, resolve, invoke, builtin, List.map_toArray, List.map_cons, List.map_nil, hF.ev hx, hF.ev hy]
  have e2 := e
  simp only [mkS] at *
  simp [e]
theorem elt146 : Elt 146 135 6 := .of (by kernel_rfl) (by kernel_rfl)
end
end Go.Sx
namespace Go.Sx
open Go.RowKit Go.Proofs Js Go.Proofs.YtelonenjneonlaaGreatDoorW.PrintWords
theorem isObject_walk (k : Int) (raw str : Str) (f : Nat) (ix : Int) (w0 : World) (hr : k = 5 → raw ≠ []) (hl : raw.length ≤ 2 ^ 40) :
    Calls Tryz.prog 93 #[resV k raw str f ix] w0 (Ret fun v w' => (∃ b : Bool, v = .bool b ∧ (b = true ↔ k = 5 ∧ raw.head? = some 123)) ∧ Below w0.heap.size w0 w') := by
 have hM : Mem w0.heap.size w0 [] w0 := Mem.start (Nat.le_refl _)
 refine enter (l := [resV k raw str f ix]) 17 Tryz.func93 rfl rfl (fun a hF => ?_)
 replace hF : Fr 18 [(0, resV k raw str f ix)] a := hF
 refine seq (region ?_)
 refine op_box hF hM rfl rfl rfl rfl rfl rfl ?_; clear hF hM a; intro a w b1 hF hM
 revert a; refine Md 1 [1] rfl (Nx (Sq ?_))
 rcases Classical.em (k = 5) with h5 | h5
 ·
  have hb : (k == 5) = true := by simpa using h5
  obtain ⟨c, t, rfl⟩ : ∃ c t, raw = c :: t := by cases raw with | nil => exact absurd rfl (hr h5) | cons c t => exact ⟨c, t, rfl⟩
  refine Rg (Mv 1 rfl (Ld hM 0 rfl rfl (Mv 1 rfl ?_))); intro a hF
  rw [hb] at hF
  revert a; refine Mv 2 rfl (Ld hM 0 rfl rfl (Mv 1 rfl (Bv rfl rfl (decide_eq_true (show (((c :: t).length : Int) > 0) by simp only [List.length_cons]; omega)) (Mv 3 rfl (Ld hM 0 rfl rfl ?_))))); intro a hF
  refine guard_yes hF rfl rfl rfl rfl rfl rfl ?_
  refine op_index_str hF rfl (0) c rfl rfl rfl Tryz.underlying9 rfl rfl (by first | rfl | omega) rfl ?_; clear hF a; intro a hF
  revert a; refine Md 3 [2] rfl (Nx (Re ?_)); intro a hF
  refine retOne hF hM rfl (.tmp rfl .nil) ⟨_, rfl, ⟨_, rfl, ?_⟩, hM.below⟩
  rw [beq_dec (d := 123) (z := 123) rfl]
  simp [h5]
 have hb : (k == 5) = false := by simpa using h5
 refine Rg (Mv 1 rfl (Ld hM 0 rfl rfl (Mv 1 rfl ?_))); intro a hF
 rw [hb] at hF
 revert a; refine Md 13 [2] rfl (Nx (Re ?_)); intro a hF
 exact retOne hF hM rfl (.tmp rfl .nil) ⟨_, rfl, ⟨_, rfl, by simp [h5]⟩, hM.below⟩
end Go.Sx
namespace Go.Sx
open Go.RowKit Go.Proofs Js Go.Proofs.YtelonenjneonlaaGreatDoorW.PrintWords
theorem resString_walk (raw str : Str) (f : Nat) (ix : Int) (w0 : World) :
    Calls Tryz.prog 101 #[resV 3 raw str f ix] w0 (Ret fun v w' => v = .string (mkS str) ∧ Below w0.heap.size w0 w') := by
 have hM : Mem w0.heap.size w0 [] w0 := Mem.start (Nat.le_refl _)
 refine enter (l := [resV 3 raw str f ix]) 56 Tryz.func101 rfl rfl (fun a hF => ?_)
 replace hF : Fr 57 [(0, resV 3 raw str f ix)] a := hF
 refine seq (region ?_)
 refine op_box hF hM rfl rfl rfl rfl rfl rfl ?_; clear hF hM a; intro a w b1 hF hM
 revert a; refine Md 1 [1] rfl (Nx (Sq (Rg (Mv 1 rfl (Ld hM 0 rfl rfl (Md 0 [1,5] rfl (Nx (Bo (Sq (Rg (Md 2 [1,5,6] rfl (Nx (C1 rfl (fun ht => absurd ht (by decide)) (Sq (Rg (Md 2 [1,5,8] rfl (Nx (C1 rfl (fun ht => absurd ht (by decide)) (Sq (Rg (Md 2 [1,5,47] rfl (Nx (D2 rfl (fun ht => absurd ht (by decide)) (Sq (Rg (Mv 1 rfl (Ld hM 0 rfl rfl (Md 1 [2] rfl (Nx (Re (Rb ?_))))))))))))))))))))))))))))))); intro a hF
 exact retOne hF hM rfl (.tmp rfl .nil) ⟨_, rfl, rfl, hM.below⟩
end Go.Sx
namespace Go.Sx
open Go.RowKit Go.Proofs Js Go.Proofs.YtelonenjneonlaaGreatDoorW.PrintWords
def KRow : List Mb → List Value → Prop
  | [], xs => xs = []
  | m :: ms, xs => ∃ ix ys, xs = resL 3 m.raw m.q 0 ix ++ ys ∧ KRow ms ys
theorem KRow.snoc {m : Mb} (ix : Int) : ∀ {ks : List Mb} {xs : List Value}, KRow ks xs → KRow (ks ++ [m]) (xs ++ resL 3 m.raw m.q 0 ix)
  | [], xs, h => by simp only [KRow] at h; subst h; exact ⟨ix, [], by simp, rfl⟩
  | k :: ks, xs, h => by
    obtain ⟨i, ys, rfl, h2⟩ := h
    exact ⟨i, ys ++ resL 3 m.raw m.q 0 ix, by simp, KRow.snoc ix h2⟩
def JInv (B : Nat) (wB : World) (Lr : List Bk) (b9 g Bc : Nat) (Lx : List Bk) (ms : List Mb) (wc : World) (Lc : List Bk) : Prop :=
  ∃ R vk xs, Lc = R ++ Lx ∧ Row 135 6 R vk (dds ms).length xs ∧ KRow (dds ms) xs ∧ JW B wB ((b9, 146, [vk]) :: Lr) g Bc ms wc
theorem dds_new {ms : List Mb} {m : Mb} (h : (lastV ms m.q).isSome = false) : dds (ms ++ [m]) = dds ms ++ [m] := by
  rw [dds_snoc]; unfold dd; rw [dds_look, h]; rfl
theorem dds_old {ms : List Mb} {m : Mb} (h : (lastV ms m.q).isSome = true) : dds (ms ++ [m]) = dds ms := by
  rw [dds_snoc]; unfold dd; rw [dds_look, h]; rfl
theorem joinMember_walk {B Bc b9 b10 g : Nat} {wB wr : World} {Lr Lx L0 Lc : List Bk} {ms : List Mb} (hI : JInv B wB Lr b9 g Bc Lx ms wr Lc) (hx : (b10, 147, [.map (some g)]) ∈ Lx) (m : Mb) (hql : m.q.length ≤ maxLen) (hn : ms.length < 2 ^ 39) (ixk k : Int) (str : Str) (f : Nat) (ix : Int) {w0 : World} (hM0 : Mem Bc wr (L0 ++ Lc) w0) :
    Calls Tryz.prog 106 #[resV 3 (34 :: m.key ++ [34]) m.q 0 ixk, resV k m.val str f ix, .pointer (some ⟨b10, 0, none⟩), .pointer (some ⟨b9, 0, none⟩)] w0
      (Ret fun v w' => v = .bool true ∧ ∃ wc' Lc', JInv B wB Lr b9 g Bc Lx (ms ++ [m]) wc' Lc' ∧ Mem Bc wc' (L0 ++ Lc') w') := by
 have hM := hM0
 obtain ⟨R, vk, xs, rfl, hRow, hK, hJ⟩ := hI
 have hdl := dds_len ms
 have hnm : ms.length < maxLen := by simp only [maxLen]; omega
 have hx2 : ∀ A R : List Bk, (b10, 147, [.map (some g)]) ∈ A ++ (L0 ++ (R ++ Lx)) := fun A R => by simp [hx]
 refine enter (l := [resV 3 (34 :: m.key ++ [34]) m.q 0 ixk, resV k m.val str f ix, .pointer (some ⟨b10, 0, none⟩), .pointer (some ⟨b9, 0, none⟩)]) 23 Tryz.func106 rfl rfl (fun a hF => ?_)
 replace hF : Fr 27 [(0, resV 3 (34 :: m.key ++ [34]) m.q 0 ixk), (1, resV k m.val str f ix), (2, .pointer (some ⟨b10, 0, none⟩)), (3, .pointer (some ⟨b9, 0, none⟩))] a := hF
 refine seq (region ?_)
 refine op_box hF hM rfl rfl rfl rfl rfl rfl ?_; clear hF hM a; intro a w b4 hF hM
 refine op_box hF hM rfl rfl rfl rfl rfl rfl ?_; clear hF hM a; intro a w b5 hF hM
 revert a; refine Md 1 [2,3,4,5] rfl (Nx (Sq (Rg ?_))); intro a hF
 refine op_loadA hF hM rfl 1 rfl rfl rfl Tryz.underlying135 rfl (by kernel_rfl) rfl rfl ?_; clear hF a; intro a hF
 revert a; refine Cm hM rfl Tryz.func101 (by kernel_rfl) rfl (resString_walk (34 :: m.key ++ [34]) m.q 0 ixk w) ?_
 clear hM; intro w v hR hM hBe
 obtain rfl := hR
 refine Md 1 [2,3,4,5,7] rfl (Nx (Sq (Sq (Rg (Gv rfl (fun _ hF => gives_load1 hF rfl Tryz.underlying147 rfl rfl (hM.cell_of (hx2 [_, _] _) rfl)) (Mv 1 rfl ?_))))))
 obtain ⟨k2, r2, s2, f2, i2, hrun⟩ := (hJ.now hM).map.look2 (q := m.q) hql
 refine Gv rfl (fun _ hF => gives_lookup hF rfl rfl rfl hrun) (Mv 3 rfl ?_); intro a hF
 refine op_alloc hF hM rfl (vs := [.int .i64 0, .string (mkS []), .string (mkS []), .float .f64 0, .int .i64 0, .slice none 0 0]) rfl rfl rfl (by kernel_rfl) ?_; clear hF hM a; intro a w b8 hF hM
 refine op_storeA hF hM rfl 0 rfl rfl (by kernel_rfl) rfl rfl rfl rfl (rfl) ?_; clear hF hM a; intro a w  hF hM
 revert a; refine Md 1 [2,3,4,5,7,9] rfl (Nx (Sq (Rg (Md 2 [2,3,4,5,7,19] rfl (Nx (Ce rfl (fun ht => ?_) ((fun ht => ?_))))))))
 ·
  have hold : (lastV ms m.q).isSome = true := by simpa using ht
  refine Sk (Nx (Sq (Rg (Gv rfl (fun _ hF => gives_load1 hF rfl Tryz.underlying147 rfl rfl (hM.cell_of (hx2 [_, _, _] _) rfl)) (Mv 1 rfl ?_))))); intro a hF
  refine op_loadA hF hM rfl 1 rfl rfl rfl Tryz.underlying135 rfl (by kernel_rfl) rfl rfl ?_; clear hF a; intro a hF
  refine Mj hJ hM m hql hnm rfl ?_ a hF
  clear hF hM hJ a; intro w hJ hM a hF
  revert a; refine Md 0 [] rfl (Nx (Sq (Rg (Md 1 [6] rfl (Nx (Re ?_)))))); intro a hF
  first | exact ret1 hF rfl rfl ⟨_, rfl, rfl, _, _, ⟨R', _, _, rfl, by rw [dds_new hnew, List.length_append]; exact hRow', by rw [dds_new hnew]; exact hK.snoc ixk, hJ⟩, hM.sub [_, _, _] (List.Perm.refl _)⟩ | exact ret1 hF rfl rfl ⟨_, rfl, rfl, _, _, ⟨R, _, _, rfl, by rw [dds_old hold]; exact hRow, by rw [dds_old hold]; exact hK, hJ⟩, hM.sub [_, _, _] (List.Perm.refl _)⟩
 have hnew : (lastV ms m.q).isSome = false := by simpa using ht
 refine Rg (Gv rfl (fun _ hF => gives_load1 hF rfl Tryz.underlying146 rfl rfl (hJ.cell hM (j := 0) (List.mem_cons_self ..) rfl)) ?_); intro a hF
 refine op_loadA hF hM rfl 2 rfl rfl rfl Tryz.underlying135 rfl (by kernel_rfl) rfl rfl ?_; clear hF a; intro a hF
 refine op_buildS hF hM elt146 rfl rfl rfl rfl rfl rfl rfl (by decide) ?_; clear hF hM a; intro a w b22 hF hM
 replace hM := hM.perm (L' := R ++ ((b22, 135, resL 3 (34 :: m.key ++ [34]) m.q 0 ixk) :: (b8, 135, resL k2 r2 s2 f2 i2) :: (b5, 135, resL k m.val str f ix) :: (b4, 135, resL 3 (34 :: m.key ++ [34]) m.q 0 ixk) :: (L0 ++ Lx))) (pc fun x => by simp [ct, ct_append] <;> omega)
 refine op_appendR hF elt146 hRow hM (sl_one (b := b22) (e := 135) (m := 6) (cs := resL 3 (34 :: m.key ++ [34]) m.q 0 ixk) rfl) (by simp) (by simp [resL, Value.oneCell']) (by omega) rfl rfl rfl rfl rfl rfl ?_; clear hF hM a; intro a w R' v' hF hRow' hM
 replace hM := hM.sub (L' := (b8, 135, resL k2 r2 s2 f2 i2) :: (b5, 135, resL k m.val str f ix) :: (b4, 135, resL 3 (34 :: m.key ++ [34]) m.q 0 ixk) :: (L0 ++ (R' ++ Lx))) [(b22, 135, resL 3 (34 :: m.key ++ [34]) m.q 0 ixk)] (pc fun x => by simp [ct, ct_append] <;> omega)
 obtain ⟨o', c', rfl⟩ := hRow'.sl.shape
 refine Sj hJ hM 0 rfl ?_ a hF
 clear hF hM hJ a; intro w hJ hM a hF
 simp only [List.set_cons_zero] at hJ
 revert a; refine Md 0 [2,5,7] rfl (Nx (Sq (Rg (Gv rfl (fun _ hF => gives_load1 hF rfl Tryz.underlying147 rfl rfl (hM.cell_of (hx2 [_, _, _] _) rfl)) (Mv 1 rfl ?_))))); intro a hF
 refine op_loadA hF hM rfl 1 rfl rfl rfl Tryz.underlying135 rfl (by kernel_rfl) rfl rfl ?_; clear hF a; intro a hF
 refine Mj hJ hM m hql hnm rfl ?_ a hF
 clear hF hM hJ a; intro w hJ hM a hF
 revert a; refine Md 0 [] rfl (Nx (Sq (Rg (Md 1 [6] rfl (Nx (Re ?_)))))); intro a hF
 first | exact ret1 hF rfl rfl ⟨_, rfl, rfl, _, _, ⟨R', _, _, rfl, by rw [dds_new hnew, List.length_append]; exact hRow', by rw [dds_new hnew]; exact hK.snoc ixk, hJ⟩, hM.sub [_, _, _] (List.Perm.refl _)⟩ | exact ret1 hF rfl rfl ⟨_, rfl, rfl, _, _, ⟨R, _, _, rfl, by rw [dds_old hold]; exact hRow, by rw [dds_old hold]; exact hK, hJ⟩, hM.sub [_, _, _] (List.Perm.refl _)⟩
end Go.Sx
namespace Go.Sx
open Go.RowKit Go.Proofs Js Go.Proofs.YtelonenjneonlaaGreatDoorW.PrintWords
theorem exists_walk (k : Int) (raw str : Str) (f : Nat) (ix : Int) (w0 : World) (hk : k ≠ 0) :
    Calls Tryz.prog 92 #[resV k raw str f ix] w0 (Ret fun v w' => v = .bool true ∧ Below w0.heap.size w0 w') := by
 have hM : Mem w0.heap.size w0 [] w0 := Mem.start (Nat.le_refl _)
 refine enter (l := [resV k raw str f ix]) 11 Tryz.func92 rfl rfl (fun a hF => ?_)
 replace hF : Fr 12 [(0, resV k raw str f ix)] a := hF
 refine seq (region ?_)
 refine op_box hF hM rfl rfl rfl rfl rfl rfl ?_; clear hF hM a; intro a w b1 hF hM
 revert a; refine Md 1 [1] rfl (Nx (Sq ?_))
 have hne : (k != 0) = true := by simpa using hk
 refine Rg (Mv 1 rfl (Ld hM 0 rfl rfl (Mv 1 rfl ?_))); intro a hF
 rw [hne] at hF
 revert a; refine Md 7 [2] rfl (Nx (Re ?_)); intro a hF
 exact retOne hF hM rfl (.tmp rfl .nil) ⟨_, rfl, rfl, hM.below⟩
end Go.Sx
namespace Go.Sx
open Go.RowKit Go.Proofs Js Go.Proofs.YtelonenjneonlaaGreatDoorW.PrintWords
theorem literal_walk (T t r : Str) (p : Nat) (w : World) (hT : T.length ≤ 2 ^ 40) (h : T.drop p = t ++ r) (h0 : t ≠ []) (ht : ∀ j c, 0 < j → t[j]? = some c → ¬ (c.toNat < 97 ∨ 122 < c.toNat)) (hr : ∀ c, r.head? = some c → (c.toNat < 97 ∨ 122 < c.toNat)) :
    Calls Tryz.prog 168 #[.string (mkS T), .int .i64 (p : Int)] w (Ret fun v w' => v = .tuple #[.int .i64 ((p + t.length : Nat) : Int), .string (mkS t)] ∧ Below w.heap.size w w') := by
 have hlen := seg_len h h0
 have hpos : 0 < t.length := List.length_pos_iff.2 h0
 have ht_ := ht
 refine enter (l := [.string (mkS T), .int .i64 (p : Int)]) 33 Tryz.func168 rfl rfl (fun a hF => ?_)
 replace hF : Fr 35 [(0, .string (mkS T)), (1, .int .i64 (p : Int))] a := hF
 revert a; refine Sq (Rg (Md 2 [0,1] rfl (Nx (Sq (Rg (Md 2 [0,1,6] rfl (Nx (Sq (Rg (Mv 1 rfl (Sm (((p + 1 : Nat) : Int)) rfl (by omega) (Md 1 [0,1,6] rfl (Nx (Sq (Bo (Kp [0,1,6] rfl ?_)))))))))))))))); intro a hF
 refine loopX (fun (i : Nat) a w' => Fr 35 [(0, .string (mkS T)), (1, .int .i64 (i : Int)), (6, .int .i64 (p : Int))] a ∧ p < i ∧ i ≤ p + t.length ∧ w = w') (fun i => T.length - i) (p + 1) ?_ (fun i a w' hI => ?_)
 · exact ⟨hF, by omega, by omega, rfl⟩
 clear hF
 obtain ⟨hF, hi1, hi2, hw⟩ := hI
 subst hw
 revert a; refine Sq (Sq (Rg (Md 4 [0,1,6,13] rfl (Nx (Ce rfl (fun ht => ?_) ((fun ht => ?_)))))))
 ·
  have hge := of_decide_eq_false ht
  have he : i = p + t.length := by omega
  subst he
  have hr0 := seg_end h h0 (by omega)
  subst hr0
  rw [List.append_nil] at h
  refine Ex (Ot (Ot (Ob (Nx (Sq ?_))))); intro a hF
  refine draw (by kernel_rfl) ?_
  refine take 0 hF rfl (by kernel_rfl) (by kernel_rfl) (by kernel_rfl) (fun _ _ _ h => h) rfl rfl rfl (gives_move hF rfl rfl) ?_; clear hF a; intro a hF
  refine take 1 hF rfl (by kernel_rfl) (by kernel_rfl) (by kernel_rfl) (fun _ _ _ h => h) rfl rfl rfl (gives_move hF rfl rfl) ?_; clear hF a; intro a hF
  refine take 2 hF rfl (by kernel_rfl) (by kernel_rfl) (by kernel_rfl) (fun _ _ _ h => h) rfl rfl rfl (gives_move hF rfl rfl) ?_; clear hF a; intro a hF
  refine take 3 hF rfl (by kernel_rfl) (by kernel_rfl) (by kernel_rfl) (fun _ _ _ h => h) rfl rfl rfl (gives_sliceFrom_str p hF rfl Tryz.underlying9 rfl rfl rfl (by omega)) ?_; clear hF a; intro a hF
  refine take 4 hF rfl (by kernel_rfl) (by kernel_rfl) (by kernel_rfl) (fun _ _ _ h => h) rfl rfl rfl (gives_assign hF rfl rfl) ?_; clear hF a; intro a hF
  refine take 5 hF rfl (by kernel_rfl) (by kernel_rfl) (by kernel_rfl) (fun _ _ _ h => h) rfl rfl rfl (gives_assign hF rfl rfl) ?_; clear hF a; intro a hF
  refine drawn (h0 := by kernel_rfl) ?_
  revert a; refine Kp [4,5] rfl (Nx (Re ?_)); intro a hF
  first
    | exact ret2 hF rfl rfl rfl ⟨_, rfl, by rw [Nat.add_sub_cancel_left, seg_take h], (Below.refl _ _).drew⟩
    | exact ret2 hF rfl rfl rfl ⟨_, rfl, by rw [h], (Below.refl _ _).drew⟩
 have hlt := of_decide_eq_true ht
 obtain ⟨c, hc⟩ : ∃ c, T[i]? = some c := ⟨_, List.getElem?_eq_getElem (by omega)⟩
 have key := seg_stop (fun c => c.toNat < 97 ∨ 122 < c.toNat) h ht_ hr hi1 hi2 hc
 refine Sk (Nx (Sq (Bo (Sq ?_))))
 rcases Nat.lt_or_ge c.toNat 97 with hg | hg
 ·
  refine Rg (Mv 2 rfl ?_); intro a hF
  refine op_index_str hF rfl (i) c rfl rfl rfl Tryz.underlying9 rfl rfl (by first | rfl | omega) hc ?_; clear hF a; intro a hF
  revert a; refine Bv rfl rfl (decide_eq_true (show ((c.toNat : Int) < 97) by omega)) (Md 6 [0,1,6,25] rfl (Nx (Ce rfl (fun ht => ?_) ((fun ht => ?_)))))
  · cases ht
  have he := key.1 (.inl hg)
  subst he
  refine Sq ?_; intro a hF
  refine draw (by kernel_rfl) ?_
  refine take 0 hF rfl (by kernel_rfl) (by kernel_rfl) (by kernel_rfl) (fun _ _ _ h => h) rfl rfl rfl (gives_move hF rfl rfl) ?_; clear hF a; intro a hF
  refine take 1 hF rfl (by kernel_rfl) (by kernel_rfl) (by kernel_rfl) (fun _ _ _ h => h) rfl rfl rfl (gives_move hF rfl rfl) ?_; clear hF a; intro a hF
  refine take 2 hF rfl (by kernel_rfl) (by kernel_rfl) (by kernel_rfl) (fun _ _ _ h => h) rfl rfl rfl (gives_move hF rfl rfl) ?_; clear hF a; intro a hF
  refine take 3 hF rfl (by kernel_rfl) (by kernel_rfl) (by kernel_rfl) (fun _ _ _ h => h) rfl rfl rfl (gives_move hF rfl rfl) ?_; clear hF a; intro a hF
  refine take 4 hF rfl (by kernel_rfl) (by kernel_rfl) (by kernel_rfl) (fun _ _ _ h => h) rfl rfl rfl (gives_slice_str p (p + t.length) hF rfl Tryz.underlying9 rfl rfl rfl rfl rfl (by omega) (by omega)) ?_; clear hF a; intro a hF
  refine take 5 hF rfl (by kernel_rfl) (by kernel_rfl) (by kernel_rfl) (fun _ _ _ h => h) rfl rfl rfl (gives_assign hF rfl rfl) ?_; clear hF a; intro a hF
  refine take 6 hF rfl (by kernel_rfl) (by kernel_rfl) (by kernel_rfl) (fun _ _ _ h => h) rfl rfl rfl (gives_assign hF rfl rfl) ?_; clear hF a; intro a hF
  refine drawn (h0 := by kernel_rfl) ?_
  revert a; refine Kp [4,5] rfl (Nx (Re (Rb (Rt (Rt (Rb (Rt ?_))))))); intro a hF
  first
    | exact ret2 hF rfl rfl rfl ⟨_, rfl, by rw [Nat.add_sub_cancel_left, seg_take h], (Below.refl _ _).drew⟩
    | exact ret2 hF rfl rfl rfl ⟨_, rfl, by rw [h], (Below.refl _ _).drew⟩
 refine Rg (Mv 2 rfl ?_); intro a hF
 refine op_index_str hF rfl (i) c rfl rfl rfl Tryz.underlying9 rfl rfl (by first | rfl | omega) hc ?_; clear hF a; intro a hF
 revert a; refine Bv rfl rfl (decide_eq_false (show ¬ ((c.toNat : Int) < 97) by omega)) (Mv 3 rfl ?_); intro a hF
 refine guard_yes hF rfl rfl rfl rfl rfl rfl ?_
 refine op_index_str hF rfl (i) c rfl rfl rfl Tryz.underlying9 rfl rfl (by first | rfl | omega) hc ?_; clear hF a; intro a hF
 revert a; refine Md 2 [0,1,6,25] rfl (Nx (Ce rfl (fun ht => ?_) ((fun ht => ?_))))
 ·
  have hns := of_decide_eq_false ht
  have hne : i ≠ p + t.length := fun he => by rcases key.2 he with h | h <;> omega
  refine Sk (Nb (Nx (Rg (Mv 1 rfl (Sm (((i + 1 : Nat) : Int)) rfl (by omega) (Md 1 [0,1,6] rfl ?_)))))); intro a hF
  exact ⟨_, ⟨hF, by omega, by omega, rfl⟩, by omega⟩
 have hns := of_decide_eq_true ht
 have he := key.1 (.inr (by omega))
 subst he
 refine Sq ?_; intro a hF
 refine draw (by kernel_rfl) ?_
 refine take 0 hF rfl (by kernel_rfl) (by kernel_rfl) (by kernel_rfl) (fun _ _ _ h => h) rfl rfl rfl (gives_move hF rfl rfl) ?_; clear hF a; intro a hF
 refine take 1 hF rfl (by kernel_rfl) (by kernel_rfl) (by kernel_rfl) (fun _ _ _ h => h) rfl rfl rfl (gives_move hF rfl rfl) ?_; clear hF a; intro a hF
 refine take 2 hF rfl (by kernel_rfl) (by kernel_rfl) (by kernel_rfl) (fun _ _ _ h => h) rfl rfl rfl (gives_move hF rfl rfl) ?_; clear hF a; intro a hF
 refine take 3 hF rfl (by kernel_rfl) (by kernel_rfl) (by kernel_rfl) (fun _ _ _ h => h) rfl rfl rfl (gives_move hF rfl rfl) ?_; clear hF a; intro a hF
 refine take 4 hF rfl (by kernel_rfl) (by kernel_rfl) (by kernel_rfl) (fun _ _ _ h => h) rfl rfl rfl (gives_slice_str p (p + t.length) hF rfl Tryz.underlying9 rfl rfl rfl rfl rfl (by omega) (by omega)) ?_; clear hF a; intro a hF
 refine take 5 hF rfl (by kernel_rfl) (by kernel_rfl) (by kernel_rfl) (fun _ _ _ h => h) rfl rfl rfl (gives_assign hF rfl rfl) ?_; clear hF a; intro a hF
 refine take 6 hF rfl (by kernel_rfl) (by kernel_rfl) (by kernel_rfl) (fun _ _ _ h => h) rfl rfl rfl (gives_assign hF rfl rfl) ?_; clear hF a; intro a hF
 refine drawn (h0 := by kernel_rfl) ?_
 revert a; refine Kp [4,5] rfl (Nx (Re (Rb (Rt (Rt (Rb (Rt ?_))))))); intro a hF
 first
   | exact ret2 hF rfl rfl rfl ⟨_, rfl, by rw [Nat.add_sub_cancel_left, seg_take h], (Below.refl _ _).drew⟩
   | exact ret2 hF rfl rfl rfl ⟨_, rfl, by rw [h], (Below.refl _ _).drew⟩
end Go.Sx
