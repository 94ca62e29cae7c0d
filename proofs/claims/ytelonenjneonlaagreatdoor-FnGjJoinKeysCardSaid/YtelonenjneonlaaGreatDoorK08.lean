/- Part 8 of the proof of FnGjJoinKeys: the statement Rows.FnGjJoinKeysCardSaid; no further condition. -/
import Derived.Test.YtelonenjneonlaaGreatDoorK07
set_option linter.all false
namespace Go.Sx
open Go.RowKit Go.Proofs Js Go.Proofs.YtelonenjneonlaaGreatDoorW.PrintWords
def ValOut (T : Str) (B b : Nat) (wc : World) (L : List Bk) : Option (Js.Place × Str) → Value → World → Prop
  | some (p, q), v, w' => ∃ cs TB, v = .tuple #[.agg cs.toArray, .bool true] ∧ RepPl TB p cs ∧ Sfx T q ∧ Mem B wc ((b, 108, RD T q) :: (TB ++ L)) w'
  | none, v, w' => ∃ x y z q, v = .tuple #[.agg [.int .i64 x, .int .i64 y, .int .i64 z, .slice none 0 0, .slice none 0 0].toArray, .bool false] ∧ Sfx T q ∧ Mem B wc ((b, 108, RD T q) :: L) w'
def VAL (T : Str) (B b : Nat) (wc : World) (n : Nat) : Prop := ∀ (r : Str) (L : List Bk) (w0 : World), Sfx T r → 2 * r.length + 1 ≤ n → Mem B wc ((b, 108, RD T r) :: L) w0 →
  Calls Tryz.prog 74 #[.pointer (some ⟨b, 0, none⟩)] w0 (Ret fun v w' => ValOut T B b wc L (pVal T.length n r) v w')
def arrOf (N n : Nat) (s : Str) : Option (List Js.Place × Str) :=
  match pTake 93 (Js.skip s) with
  | some r2 => some ([], r2)
  | none => pElems N n (Js.skip s)
def objOf (N n : Nat) (s : Str) : Option (List (Nat × Nat) × List Js.Place × Str) :=
  match pTake 125 (Js.skip s) with
  | some r2 => some ([], [], r2)
  | none => pMems N n (Js.skip s)
def EleOut (T : Str) (B b : Nat) (wc : World) (L : List Bk) : Option (List Js.Place × Str) → Value → World → Prop
  | some (ps, q), v, w' => ∃ sl xs TB, v = .tuple #[sl, .bool true] ∧ SlOf TB 27 5 sl ps.length xs ∧ RepPls TB ps xs ∧ Sfx T q ∧ Mem B wc ((b, 108, RD T q) :: (TB ++ L)) w'
  | none, v, w' => ∃ q, v = .tuple #[.slice none 0 0, .bool false] ∧ Sfx T q ∧ Mem B wc ((b, 108, RD T q) :: L) w'
def ELE (T : Str) (B b : Nat) (wc : World) (n : Nat) : Prop := ∀ (s : Str) (L : List Bk) (w0 : World), Sfx T (91 :: s) → 2 * s.length + 2 ≤ n → Mem B wc ((b, 108, RD T (91 :: s)) :: L) w0 →
  Calls Tryz.prog 113 #[.pointer (some ⟨b, 0, none⟩)] w0 (Ret fun v w' => EleOut T B b wc L (arrOf T.length n s) v w')
def MemOut (T : Str) (B b : Nat) (wc : World) (L : List Bk) : Option (List (Nat × Nat) × List Js.Place × Str) → Value → World → Prop
  | some (ns, ps, q), v, w' => ∃ sn sl xs TB, v = .tuple #[sn, sl, .bool true] ∧ SlOf TB 80 2 sn ns.length (spans ns) ∧ SlOf TB 27 5 sl ps.length xs ∧ RepPls TB ps xs ∧ Sfx T q ∧ Mem B wc ((b, 108, RD T q) :: (TB ++ L)) w'
  | none, v, w' => ∃ q, v = .tuple #[.slice none 0 0, .slice none 0 0, .bool false] ∧ Sfx T q ∧ Mem B wc ((b, 108, RD T q) :: L) w'
def MEMS (T : Str) (B b : Nat) (wc : World) (n : Nat) : Prop := ∀ (s : Str) (L : List Bk) (w0 : World), Sfx T (123 :: s) → 2 * s.length + 2 ≤ n → Mem B wc ((b, 108, RD T (123 :: s)) :: L) w0 →
  Calls Tryz.prog 112 #[.pointer (some ⟨b, 0, none⟩)] w0 (Ret fun v w' => MemOut T B b wc L (objOf T.length n s) v w')
theorem SlOf.shape {TB : List Bk} {e m : Nat} {v : Value} {n : Nat} {xs : List Value} (h : SlOf TB e m v n xs) : ∃ ad c, v = .slice ad n c := by
  rcases h.2 with ⟨rfl, rfl⟩ | ⟨g, cap, vs, _, rfl, _⟩ <;> exact ⟨_, _, rfl⟩
theorem RepPl.shape {TB : List Bk} {p : Js.Place} {cs : List Value} (h : RepPl TB p cs) : ∃ (k b e : Int) (o1 : Option Addr) (l1 c1 : Nat) (o2 : Option Addr) (l2 c2 : Nat), cs = [.int .i64 k, .int .i64 b, .int .i64 e, .slice o1 l1 c1, .slice o2 l2 c2] := by
  obtain ⟨k, b, e, ns, kids⟩ := p
  simp only [RepPl] at h
  obtain ⟨sn, sk, xs, rfl, h2, h3, _⟩ := h
  obtain ⟨_, _, rfl⟩ := h2.shape
  obtain ⟨_, _, rfl⟩ := h3.shape
  exact ⟨_, _, _, _, _, _, _, _, _, rfl⟩
theorem RepNd.shape {TB : List Bk} {p : Nd} {cs : List Value} (h : RepNd TB p cs) : ∃ (k : Int) (t : Str) (o1 : Option Addr) (l1 c1 : Nat) (o2 : Option Addr) (l2 c2 : Nat), cs = [.int .i64 k, .string (mkS t), .slice o1 l1 c1, .slice o2 l2 c2] := by
  obtain ⟨k, b, ns, kids⟩ := p
  simp only [RepNd] at h
  obtain ⟨sn, sk, xs, rfl, h2, h3, _⟩ := h
  obtain ⟨_, _, rfl⟩ := h2.shape
  obtain ⟨_, _, rfl⟩ := h3.shape
  exact ⟨_, _, _, _, _, _, _, _, rfl⟩
theorem _root_.Js.Sfx.take {T r q : Str} {d : UInt8} (h : Sfx T r) (e : pTake d r = some q) : Sfx T q ∧ r = d :: q := by
  have := pTake_some.1 e
  subst this
  exact ⟨h.next.1, rfl⟩
theorem pVal_lt {T : Str} {n : Nat} {s q : Str} {p : Js.Place} (hs : Sfx T s) (h : pVal T.length n s = some (p, q)) : q.length < s.length := by
  obtain ⟨pre, e⟩ := hs
  obtain ⟨t, rfl, ht⟩ := (sound T n).1 pre s p q e h
  obtain ⟨c, r, rfl, _⟩ := ht.head _ rfl
  simp; omega
theorem pStr_lt : ∀ {r q : Str}, pStr r = some q → q.length < r.length
  | [], q, h => by rw [pStr_nil] at h; cases h
  | c :: r, q, h => by
    rw [pStr_cons] at h
    split at h
    · cases h; simp
    · split at h
      · cases h
      · split at h
        · cases he : pEsc r with
          | none => rw [he] at h; cases h
          | some r' =>
            rw [he] at h
            have h1 := pEsc_lt r r' he
            have h2 := pStr_lt (r := r') h
            simp only [List.length_cons]; omega
        · have h2 := pStr_lt h
          simp only [List.length_cons]; omega
  termination_by r => r.length
  decreasing_by all_goals first | (simp_wf; done) | (simp_wf; omega)
theorem pElems_succ (N n : Nat) (s : Str) : pElems N (n + 1) s = match pVal N n s with
    | none => none
    | some (p, r) =>
      match pTake 93 (Js.skip r) with
      | some r2 => some ([p], r2)
      | none => match pTake 44 (Js.skip r) with
        | none => none
        | some r2 => (pElems N n (Js.skip r2)).map fun x => (p :: x.1, x.2) := rfl
theorem pMems_succ (N n : Nat) (s : Str) : pMems N (n + 1) s = match (pTake 34 s).bind pStr with
    | none => none
    | some r =>
      match pTake 58 (Js.skip r) with
      | none => none
      | some r1 =>
        match pVal N n (Js.skip r1) with
        | none => none
        | some (p, r2) =>
          match pTake 125 (Js.skip r2) with
          | some r3 => some ([(N - s.length, N - r.length)], [p], r3)
          | none => match pTake 44 (Js.skip r2) with
            | none => none
            | some r3 => (pMems N n (Js.skip r3)).map fun x => ((N - s.length, N - r.length) :: x.1, p :: x.2.1, x.2.2) := rfl
end Go.Sx
namespace Go.Sx
open Go.RowKit Go.Proofs Js Go.Proofs.YtelonenjneonlaaGreatDoorW.PrintWords
theorem pVal_123 (N n : Nat) (s : Str) : pVal N (n + 1) (123 :: s) = (objOf N n s).map fun x => (.mk 6 (N - (123 :: s).length) (N - x.2.2.length) x.1 x.2.1, x.2.2) := by
  simp only [pVal, objOf]
  rw [if_pos trivial]
  cases pTake 125 (Js.skip s) <;> rfl
theorem pVal_91 (N n : Nat) (s : Str) : pVal N (n + 1) (91 :: s) = (arrOf N n s).map fun x => (.mk 5 (N - (91 :: s).length) (N - x.2.length) [] x.1, x.2) := by
  simp only [pVal, arrOf]
  rw [if_neg (by decide), if_pos trivial]
  cases pTake 93 (Js.skip s) <;> rfl
theorem pVal_34 (N n : Nat) (s : Str) : pVal N (n + 1) (34 :: s) = (pStr s).map fun x => (.mk 4 (N - (34 :: s).length) (N - x.length) [] [], x) := by
  simp only [pVal]
  rw [if_neg (by decide), if_neg (by decide), if_pos trivial]
theorem pVal_45 (N n : Nat) {c : UInt8} (s : Str) (h : c = 45 ∨ (48 ≤ c.toNat ∧ c.toNat ≤ 57)) : pVal N (n + 1) (c :: s) = (pNum (c :: s)).map fun x => (.mk 3 (N - (c :: s).length) (N - x.length) [] [], x) := by
  have hn : ∀ d : UInt8, (d.toNat ≠ 45 ∧ (d.toNat < 48 ∨ 57 < d.toNat)) → c ≠ d := by
    rintro d hd rfl
    rcases h with rfl | h
    · exact hd.1 rfl
    · omega
  simp only [pVal]
  rw [if_neg (hn 123 (by decide)), if_neg (hn 91 (by decide)), if_neg (hn 34 (by decide)), if_pos (by
    rcases h with h | h
    · exact .inl h
    · exact .inr (by simp [isDig, h.1, h.2]))]
def wordOf (N : Nat) (r : Str) : Option (Js.Place × Str) :=
  match pWord [110, 117, 108, 108] r with
  | some r2 => some (.mk 0 (N - r.length) (N - r2.length) [] [], r2)
  | none => match pWord [102, 97, 108, 115, 101] r with
    | some r2 => some (.mk 1 (N - r.length) (N - r2.length) [] [], r2)
    | none => (pWord [116, 114, 117, 101] r).map fun r2 => (.mk 2 (N - r.length) (N - r2.length) [] [], r2)
theorem pVal_word (N n : Nat) {r : Str} (h1 : r.headD 0 ≠ 123) (h2 : r.headD 0 ≠ 91) (h3 : r.headD 0 ≠ 34) (h4 : r.headD 0 ≠ 45) (h5 : (r.headD 0).toNat < 48 ∨ 57 < (r.headD 0).toNat) : pVal N (n + 1) r = wordOf N r := by
  cases r with
  | nil => rfl
  | cons c s =>
    simp only [List.headD_cons] at h1 h2 h3 h4 h5
    simp only [pVal]
    rw [if_neg h1, if_neg h2, if_neg h3, if_neg (by rintro (h | h); exact h4 h; simp [isDig] at h; omega)]
    rfl
def VMid (T r q : Str) (TB : List Bk) (k : Int) (sn sk : Value) (ok : Bool) : Option (Js.Place × Str) → Prop
  | some (p, q') => q' = q ∧ ok = true ∧ ∃ (k' : Nat) (ns : List (Nat × Nat)) (kids : List Js.Place) (xs : List Value), k = (k' : Int) ∧ p = .mk k' (ps T r) (ps T q) ns kids ∧ SlOf TB 80 2 sn ns.length (spans ns) ∧ SlOf TB 27 5 sk kids.length xs ∧ RepPls TB kids xs
  | none => ok = false ∧ sn = .slice none 0 0 ∧ sk = .slice none 0 0
theorem VMid.leaf {T r q : Str} {x : Option Str} {k : Nat} {e : Option (Js.Place × Str)} (he : e = x.map fun y => (.mk k (T.length - r.length) (T.length - y.length) [] [], y)) (hq : ∀ q', x = some q' → q = q') : VMid T r q [] (k : Int) (.slice none 0 0) (.slice none 0 0) x.isSome e := by
  subst he
  cases x with
  | none => exact ⟨rfl, rfl, rfl⟩
  | some y =>
    obtain rfl := hq y rfl
    exact ⟨rfl, rfl, k, [], [], [], rfl, rfl, .nil _ _ _, .nil _ _ _, rfl⟩
end Go.Sx
namespace Go.Sx
open Go.RowKit Go.Proofs Js Go.Proofs.YtelonenjneonlaaGreatDoorW.PrintWords
theorem first_of (r : Str) : (∃ s, r = 123 :: s) ∨ (∃ s, r = 91 :: s) ∨ (∃ s, r = 34 :: s) ∨ (∃ s, r = 45 :: s) ∨ (48 ≤ (r.headD 0).toNat ∧ (r.headD 0).toNat ≤ 57) ∨ ((r.headD 0).toNat < 48 ∧ r.headD 0 ≠ 34 ∧ r.headD 0 ≠ 45) ∨ (57 < (r.headD 0).toNat ∧ r.headD 0 ≠ 123 ∧ r.headD 0 ≠ 91) := by
  cases r with
  | nil => exact .inr (.inr (.inr (.inr (.inr (.inl (by decide))))))
  | cons c s =>
    by_cases h1 : c = 123
    · subst h1; exact .inl ⟨s, rfl⟩
    by_cases h2 : c = 91
    · subst h2; exact .inr (.inl ⟨s, rfl⟩)
    by_cases h3 : c = 34
    · subst h3; exact .inr (.inr (.inl ⟨s, rfl⟩))
    by_cases h4 : c = 45
    · subst h4; exact .inr (.inr (.inr (.inl ⟨s, rfl⟩)))
    simp only [List.headD_cons]
    rcases (show (48 ≤ c.toNat ∧ c.toNat ≤ 57) ∨ c.toNat < 48 ∨ 57 < c.toNat by omega) with h | h | h
    · exact .inr (.inr (.inr (.inr (.inl h))))
    · exact .inr (.inr (.inr (.inr (.inr (.inl ⟨h, h3, h4⟩)))))
    · exact .inr (.inr (.inr (.inr (.inr (.inr ⟨h, h1, h2⟩)))))
theorem _root_.Js.Sfx.word {T r q u : Str} (h : Sfx T r) (e : pWord u r = some q) : Sfx T q := by
  unfold pWord at e
  split at e
  · cases e
    exact Sfx.tail (t := r.take u.length) (by rw [List.take_append_drop]; exact h)
  · cases e
end Go.Sx
namespace Go.Sx
open Go.RowKit Go.Proofs Js Go.Proofs.YtelonenjneonlaaGreatDoorW.PrintWords
theorem Mem.join {B : Nat} {wc w w' : World} {L TB : List Bk} (hM : Mem B wc L w) (h : Mem w.heap.size w TB w') : Mem B wc (TB ++ L) w' := by
  have h2 := hM.step h.below
  refine ⟨h2.below, h2.base, fun x hx => ?_, List.pairwise_append.2 ⟨h.apart, h2.apart, fun x hx y hy => ?_⟩⟩
  · rcases List.mem_append.1 hx with hx | hx
    · exact ⟨Nat.le_trans hM.base (h.held x hx).1, (h.held x hx).2⟩
    · exact h2.held x hx
  · have h3 := (h.held x hx).1
    have h4 := blk_lt (hM.held y hy).2
    omega
def PlOut (T : Str) (w0 : World) : Option Js.Place → Value → World → Prop
  | some p, v, w' => ∃ cs TB, v = .tuple #[.agg cs.toArray, .bool true] ∧ RepPl TB p cs ∧ Mem w0.heap.size w0 TB w'
  | none, v, w' => ∃ x y z, v = .tuple #[.agg [.int .i64 x, .int .i64 y, .int .i64 z, .slice none 0 0, .slice none 0 0].toArray, .bool false] ∧ Below w0.heap.size w0 w'
end Go.Sx
namespace Go.Sx
open Go.RowKit Go.Proofs Js Go.Proofs.YtelonenjneonlaaGreatDoorW.PrintWords
set_option maxRecDepth 100000 in
theorem elements_rd {B : Nat} {wc : World} {b : Nat} {T : Str} (hT : T.length ≤ 2 ^ 40) {n : Nat} (hV : ∀ k, k < n → VAL T B b wc k) : ELE T B b wc n := by
 intro s L w0 hs hfn hM0
 have hM := hM0
 have hps := hs.len
 have hT1 : T.length ≤ 2 ^ 41 := by omega
 obtain ⟨hs1, hp1, hg1, hlt1⟩ := hs.next
 have hs2 := hs1.of_skip
 have hsl := skip_len s
 have hsl2 : s.length < T.length := by have := hs1.len; omega
 refine enter (l := [.pointer (some ⟨b, 0, none⟩)]) 38 Tryz.func113 rfl rfl (fun a hF => ?_)
 replace hF : Fr 39 [(0, .pointer (some ⟨b, 0, none⟩))] a := hF
 revert a; refine Sq (Rg (Md 2 [0] rfl (Nx (Sq (Rg (Md 1 [0,4] rfl (Nx (Sq (Rg (Mv 3 rfl (Ld hM 0 rfl rfl (Sm (((ps T s : Nat) : Int)) rfl (by omega) (Mv 2 rfl (St hM 0 rfl ?_))))))))))))))
 clear hM; intro w hM
 refine Md 0 [0,4] rfl (Nx (Sq (Rg (Mv 1 rfl (Cl rfl Tryz.func73 (by kernel_rfl) rfl (blanks_walk hT1 hs1 hM) ?_)))))
 clear hM; intro w v hR
 obtain ⟨rfl, hM⟩ := hR
 refine Md 0 [0,4] rfl (Nx (Sq (Sq (Rg (Mv 1 rfl (Cl rfl Tryz.func117 (by kernel_rfl) rfl (take_walk hT1 hs2 93 hM) ?_))))))
 clear hM; intro w v hR
 obtain ⟨rfl, hM⟩ := hR
 refine Md 0 [0,4,17] rfl (Nx (Cd rfl (fun ht => ?_) ((fun ht => ?_))))
 ·
  obtain ⟨r2, hp2⟩ : ∃ r2, pTake 93 (Js.skip s) = some r2 := by cases hp : pTake 93 (Js.skip s) with | none => rw [hp] at ht; cases ht | some q => exact ⟨q, rfl⟩
  rw [hp2] at hM
  have e1 : arrOf T.length n s = some ([], r2) := by unfold arrOf; rw [hp2]
  refine Sq (Rg (Md 2 [2,3] rfl (Nx (Re (Rt ?_))))); intro a hF
  refine ret2 hF rfl rfl rfl ⟨_, rfl, ?_⟩
  rw [e1]
  exact ⟨_, [], [], rfl, .nil _ _ _, rfl, (hs2.take hp2).1, hM⟩
 have hp2 : pTake 93 (Js.skip s) = none := by cases hp : pTake 93 (Js.skip s) with | none => rfl | some q => rw [hp] at ht; cases ht
 rw [hp2] at hM
 have e1 : arrOf T.length n s = pElems T.length n (Js.skip s) := by unfold arrOf; rw [hp2]
 refine Sk (Nx (Bo (Kp [0,4] rfl ?_))); intro a hF
 refine loopX (fun (x : Nat × Str × List Js.Place) a w => ∃ R TB sl xs, Fr 39 [(0, .pointer (some ⟨b, 0, none⟩)), (4, sl)] a ∧ Mem B wc ((b, 108, RD T x.2.1) :: (R ++ (TB ++ L))) w ∧ Row 27 5 R sl x.2.2.length xs ∧ RepPls TB x.2.2 xs ∧ xs.all (·.oneCell') = true ∧ Sfx T x.2.1 ∧ 2 * x.2.1.length + 2 ≤ x.1 ∧ x.1 ≤ n ∧ x.2.2.length + x.2.1.length ≤ T.length ∧ (pElems T.length x.1 x.2.1).map (fun y => (x.2.2 ++ y.1, y.2)) = arrOf T.length n s) (fun x => x.1) ((n, Js.skip s, [])) ?_ (fun x a w hI => ?_)
 · exact ⟨[], [], _, [], hF, hM, .nil _ _, rfl, rfl, hs2, by simp only; omega, Nat.le_refl _, by simp only [List.length_nil]; omega, by rw [e1]; simp⟩
 clear hF hM
 clear hs hps hs1 hs2 hp1 hg1 hlt1 hp2 e1 hsl
 obtain ⟨m, u, acc⟩ := x
 obtain ⟨R, TB, sl, xs, hF, hM, hRow, hRep, hone, hs, hfu, hmn, hlen, hpe⟩ := hI
 simp only at hF hM hRow hRep hs hfu hmn hlen hpe
 obtain ⟨k, rfl⟩ : ∃ k, m = k + 1 := ⟨m - 1, by omega⟩
 rw [pElems_succ] at hpe
 have hps := hs.len
 revert a; refine Bo (Sq ?_)
 rcases hpv : pVal T.length k u with _ | ⟨p, q⟩
 ·
  rw [hpv] at hpe
  have hpe2 : arrOf T.length n s = none := hpe.symm
  refine Rg (Mv 1 rfl (Cl rfl Tryz.func74 (by kernel_rfl) rfl (hV k (by omega) u _ w hs (by omega) hM) ?_))
  clear hM; intro w v hR
  rw [hpv] at hR
  obtain ⟨x, y, z, q, rfl, hs, hM⟩ := hR
  refine Mv 3 rfl ?_; intro a hF
  refine op_alloc hF hM rfl (vs := [.int .i64 0, .int .i64 0, .int .i64 0, .slice none 0 0, .slice none 0 0]) rfl rfl rfl (by kernel_rfl) ?_; clear hF hM a; intro a w b5 hF hM
  refine op_storeA hF hM rfl 0 rfl rfl (by kernel_rfl) rfl rfl rfl rfl (rfl) ?_; clear hF hM a; intro a w  hF hM
  revert a; refine Md 1 [0,4,5,6] rfl (Nx (Sq (Sq (Rg (Md 2 [0,4,5,24] rfl (Nx (Ct rfl (Sq (Rg (Md 2 [2,3] rfl (Nx (Re (Rt (Rb (Rt (Rb ?_)))))))))))))))); intro a hF
  refine ret2 hF rfl rfl rfl ⟨_, rfl, ?_⟩
  rw [hpe2]
  exact ⟨q, rfl, hs, hM.sub ((b5, 27, [.int .i64 x, .int .i64 y, .int .i64 z, .slice none 0 0, .slice none 0 0]) :: (R ++ TB)) (pc fun x => by simp [ct, ct_append] <;> omega)⟩
 rw [hpv] at hpe
 simp only at hpe
 have hql := pVal_lt hs hpv
 refine Rg (Mv 1 rfl (Cl rfl Tryz.func74 (by kernel_rfl) rfl (hV k (by omega) u _ w hs (by omega) hM) ?_))
 clear hM; intro w v hR
 rw [hpv] at hR
 obtain ⟨cs, TB2, rfl, hcs, hs3, hM⟩ := hR
 have hcl := hcs.len
 obtain ⟨k1, k2, k3, o1, l1, c1, o2, l2, c2, rfl⟩ := hcs.shape
 refine Mv 3 rfl ?_; intro a hF
 refine op_alloc hF hM rfl (vs := [.int .i64 0, .int .i64 0, .int .i64 0, .slice none 0 0, .slice none 0 0]) rfl rfl rfl (by kernel_rfl) ?_; clear hF hM a; intro a w b5 hF hM
 refine op_storeA hF hM rfl 0 rfl rfl (by kernel_rfl) rfl rfl rfl rfl (rfl) ?_; clear hF hM a; intro a w  hF hM
 revert a; refine Md 1 [0,4,5,6] rfl (Nx (Sq (Sq (Rg (Md 2 [0,4,5,24] rfl (Nx (Cf rfl (Sk (Nx (Sq (Rg (Mv 1 rfl ?_)))))))))))); intro a hF
 refine op_loadA hF hM rfl 0 rfl rfl rfl Tryz.underlying27 rfl (by kernel_rfl) rfl rfl ?_; clear hF a; intro a hF
 refine op_buildS hF hM elt25 rfl rfl rfl rfl rfl rfl rfl (by decide) ?_; clear hF hM a; intro a w b27 hF hM
 replace hM := hM.perm (L' := R ++ ((b27, 27, [.int .i64 k1, .int .i64 k2, .int .i64 k3, .slice o1 l1 c1, .slice o2 l2 c2]) :: (b5, 27, [.int .i64 k1, .int .i64 k2, .int .i64 k3, .slice o1 l1 c1, .slice o2 l2 c2]) :: (b, 108, RD T q) :: (TB2 ++ (TB ++ L)))) (pc fun x => by simp [ct, ct_append] <;> omega)
 refine op_appendR hF elt25 hRow hM (sl_one rfl) (by simp) (List.all_eq_true.1 hcl.2) (by omega) rfl rfl rfl rfl rfl rfl ?_; clear hF hM a; intro a w R' v' hF hRow' hM
 replace hM := hM.sub (L' := (b, 108, RD T q) :: (R' ++ (TB2 ++ TB ++ L))) [(b27, 27, [.int .i64 k1, .int .i64 k2, .int .i64 k3, .slice o1 l1 c1, .slice o2 l2 c2]), (b5, 27, [.int .i64 k1, .int .i64 k2, .int .i64 k3, .slice o1 l1 c1, .slice o2 l2 c2])] (pc fun x => by simp [ct, ct_append] <;> omega)
 revert a; refine Md 1 [0,4] rfl (Nx (Sq (Rg (Mv 1 rfl (Cl rfl Tryz.func73 (by kernel_rfl) rfl (blanks_walk hT1 hs3 hM) ?_)))))
 clear hM; intro w v hR
 obtain ⟨rfl, hM⟩ := hR
 have hs4 := hs3.of_skip
 have hsl := skip_len q
 refine Md 0 [0,4] rfl (Nx (Sq (Sq (Rg (Mv 1 rfl (Cl rfl Tryz.func117 (by kernel_rfl) rfl (take_walk hT1 hs4 93 hM) ?_))))))
 clear hM; intro w v hR
 obtain ⟨rfl, hM⟩ := hR
 refine Md 0 [0,4,32] rfl (Nx (Cd rfl (fun ht => ?_) ((fun ht => ?_))))
 ·
  obtain ⟨r2, hp2⟩ : ∃ r2, pTake 93 (Js.skip q) = some r2 := by cases hp : pTake 93 (Js.skip q) with | none => rw [hp] at ht; cases ht | some q => exact ⟨q, rfl⟩
  rw [hp2] at hM
  obtain ⟨hs5, hq5⟩ := hs4.take hp2
  rw [hp2] at hpe
  refine Sq (Rg (Md 3 [2,3] rfl (Nx (Re (Rt (Rb (Rt (Rb ?_)))))))); intro a hF
  first | (refine ret2 hF rfl rfl rfl ⟨_, rfl, ?_⟩; rw [← hpe]; exact ⟨_, _, R' ++ (TB2 ++ TB), rfl, by simpa using hRow'.sl.mono (List.subset_append_left _ _), (RepPls.mono (fun x hx => by simp [hx]) _ _ hRep).append (RepPls.one (RepPl.mono (fun x hx => by simp [hx]) _ _ hcs)), hs5, hM.perm (pc fun x => by simp [ct, ct_append] <;> omega)⟩) | (refine ret2 hF rfl rfl rfl ⟨_, rfl, ?_⟩; rw [hpe2]; exact ⟨_, rfl, hs4, hM.sub (R' ++ (TB2 ++ TB)) (pc fun x => by simp [ct, ct_append] <;> omega)⟩)
 have hp2 : pTake 93 (Js.skip q) = none := by cases hp : pTake 93 (Js.skip q) with | none => rfl | some q => rw [hp] at ht; cases ht
 rw [hp2] at hM
 rw [hp2] at hpe
 simp only at hpe
 clear hp2
 replace hM : Mem B wc ((b, 108, RD T (Js.skip q)) :: (R' ++ (TB2 ++ TB ++ L))) w := hM
 refine Sk (Nx (Sq (Sq (Rg (Mv 1 rfl (Cl rfl Tryz.func117 (by kernel_rfl) rfl (take_walk hT1 hs4 44 hM) ?_))))))
 clear hM; intro w v hR
 obtain ⟨rfl, hM⟩ := hR
 refine Md 1 [0,4,36] rfl (Nx (Cd rfl (fun ht => ?_) ((fun ht => ?_))))
 ·
  have hp2 : pTake 44 (Js.skip q) = none := by cases hp : pTake 44 (Js.skip q) with | none => rfl | some q => rw [hp] at ht; cases ht
  rw [hp2] at hM
  rw [hp2] at hpe
  have hpe2 : arrOf T.length n s = none := hpe.symm
  refine Sq (Rg (Md 2 [2,3] rfl (Nx (Re (Rt (Rb (Rt (Rb ?_)))))))); intro a hF
  first | (refine ret2 hF rfl rfl rfl ⟨_, rfl, ?_⟩; rw [← hpe]; exact ⟨_, _, R' ++ (TB2 ++ TB), rfl, by simpa using hRow'.sl.mono (List.subset_append_left _ _), (RepPls.mono (fun x hx => by simp [hx]) _ _ hRep).append (RepPls.one (RepPl.mono (fun x hx => by simp [hx]) _ _ hcs)), hs5, hM.perm (pc fun x => by simp [ct, ct_append] <;> omega)⟩) | (refine ret2 hF rfl rfl rfl ⟨_, rfl, ?_⟩; rw [hpe2]; exact ⟨_, rfl, hs4, hM.sub (R' ++ (TB2 ++ TB)) (pc fun x => by simp [ct, ct_append] <;> omega)⟩)
 obtain ⟨r2, hp2⟩ : ∃ r2, pTake 44 (Js.skip q) = some r2 := by cases hp : pTake 44 (Js.skip q) with | none => rw [hp] at ht; cases ht | some q => exact ⟨q, rfl⟩
 rw [hp2] at hM
 obtain ⟨hs5, hq5⟩ := hs4.take hp2
 rw [hp2] at hpe
 simp only at hpe
 have hl5 : (Js.skip q).length = r2.length + 1 := by rw [hq5]; rfl
 clear hs4
 replace hM : Mem B wc ((b, 108, RD T r2) :: (R' ++ (TB2 ++ TB ++ L))) w := hM
 refine Sk (Nx (Rg (Mv 1 rfl (Cl rfl Tryz.func73 (by kernel_rfl) rfl (blanks_walk hT1 hs5 hM) ?_))))
 clear hM; intro w v hR
 obtain ⟨rfl, hM⟩ := hR
 have hs4 := hs5.of_skip
 have hsl3 := skip_len r2
 refine Md 0 [0,4] rfl (Nb (Kp [0,4] rfl ?_)); intro a hF
 exact ⟨(k, Js.skip r2, acc ++ [p]), ⟨R', TB2 ++ TB, _, _, hF, hM, by simpa using hRow', (RepPls.mono (List.subset_append_right _ _) _ _ hRep).append (RepPls.one (RepPl.mono (List.subset_append_left _ _) _ _ hcs)), by rw [List.all_append, hone, hcl.2]; rfl, hs4, by simp only; omega, by simp only; omega, by simp only [List.length_append, List.length_cons, List.length_nil]; omega, by simp only; rw [← hpe]; cases pElems T.length k (Js.skip r2) <;> simp⟩, by simp only; omega⟩
end Go.Sx
namespace Go.Sx
open Go.RowKit Go.Proofs Js Go.Proofs.YtelonenjneonlaaGreatDoorW.PrintWords
set_option maxRecDepth 100000 in
theorem members_rd {B : Nat} {wc : World} {b : Nat} {T : Str} (hT : T.length ≤ 2 ^ 40) {n : Nat} (hV : ∀ k, k < n → VAL T B b wc k) : MEMS T B b wc n := by
 intro s L w0 hs hfn hM0
 have hM := hM0
 have hps := hs.len
 have hT1 : T.length ≤ 2 ^ 41 := by omega
 obtain ⟨hs1, hp1, hg1, hlt1⟩ := hs.next
 have hs2 := hs1.of_skip
 have hsl := skip_len s
 have hsl2 : s.length < T.length := by have := hs1.len; omega
 refine enter (l := [.pointer (some ⟨b, 0, none⟩)]) 70 Tryz.func112 rfl rfl (fun a hF => ?_)
 replace hF : Fr 71 [(0, .pointer (some ⟨b, 0, none⟩))] a := hF
 revert a; refine Sq (Rg (Md 3 [0] rfl (Nx (Sq (Rg (Md 1 [0,5] rfl (Nx (Sq (Rg (Md 1 [0,5,6] rfl (Nx (Sq (Rg (Mv 3 rfl (Ld hM 0 rfl rfl (Sm (((ps T s : Nat) : Int)) rfl (by omega) (Mv 2 rfl (St hM 0 rfl ?_))))))))))))))))))
 clear hM; intro w hM
 refine Md 0 [0,5,6] rfl (Nx (Sq (Rg (Mv 1 rfl (Cl rfl Tryz.func73 (by kernel_rfl) rfl (blanks_walk hT1 hs1 hM) ?_)))))
 clear hM; intro w v hR
 obtain ⟨rfl, hM⟩ := hR
 refine Md 0 [0,5,6] rfl (Nx (Sq (Sq (Rg (Mv 1 rfl (Cl rfl Tryz.func117 (by kernel_rfl) rfl (take_walk hT1 hs2 125 hM) ?_))))))
 clear hM; intro w v hR
 obtain ⟨rfl, hM⟩ := hR
 refine Md 0 [0,5,6,20] rfl (Nx (Cd rfl (fun ht => ?_) ((fun ht => ?_))))
 ·
  obtain ⟨r2, hp2⟩ : ∃ r2, pTake 125 (Js.skip s) = some r2 := by cases hp : pTake 125 (Js.skip s) with | none => rw [hp] at ht; cases ht | some q => exact ⟨q, rfl⟩
  rw [hp2] at hM
  have e1 : objOf T.length n s = some ([], [], r2) := by unfold objOf; rw [hp2]
  refine Sq (Rg (Md 3 [2,3,4] rfl (Nx (Re (Rt ?_))))); intro a hF
  refine ret3 hF rfl rfl rfl rfl ⟨_, rfl, ?_⟩
  rw [e1]
  exact ⟨_, _, [], [], rfl, .nil _ _ _, .nil _ _ _, rfl, (hs2.take hp2).1, hM⟩
 have hp2 : pTake 125 (Js.skip s) = none := by cases hp : pTake 125 (Js.skip s) with | none => rfl | some q => rw [hp] at ht; cases ht
 rw [hp2] at hM
 have e1 : objOf T.length n s = pMems T.length n (Js.skip s) := by unfold objOf; rw [hp2]
 refine Sk (Nx (Bo (Kp [0,5,6] rfl ?_))); intro a hF
 refine loopX (fun (x : Nat × Str × List (Nat × Nat) × List Js.Place) a w => ∃ N R TB sn sl xs, Fr 71 [(0, .pointer (some ⟨b, 0, none⟩)), (5, sn), (6, sl)] a ∧ Mem B wc ((b, 108, RD T x.2.1) :: (N ++ (R ++ (TB ++ L)))) w ∧ Row 80 2 N sn x.2.2.1.length (spans x.2.2.1) ∧ Row 27 5 R sl x.2.2.2.length xs ∧ RepPls TB x.2.2.2 xs ∧ xs.all (·.oneCell') = true ∧ Sfx T x.2.1 ∧ 2 * x.2.1.length + 2 ≤ x.1 ∧ x.1 ≤ n ∧ x.2.2.2.length + x.2.1.length ≤ T.length ∧ x.2.2.1.length = x.2.2.2.length ∧ (pMems T.length x.1 x.2.1).map (fun y => (x.2.2.1 ++ y.1, x.2.2.2 ++ y.2.1, y.2.2)) = objOf T.length n s) (fun x => x.1) ((n, Js.skip s, [], [])) ?_ (fun x a w hI => ?_)
 · exact ⟨[], [], [], _, _, [], hF, hM, .nil _ _, .nil _ _, rfl, rfl, hs2, by simp only; omega, Nat.le_refl _, by simp only [List.length_nil]; omega, rfl, by rw [e1]; simp⟩
 clear hF hM
 clear hs hps hs1 hs2 hp1 hg1 hlt1 hp2 e1 hsl
 obtain ⟨m, u, ns, acc⟩ := x
 obtain ⟨N, R, TB, sn, sl, xs, hF, hM, hRn, hRow, hRep, hone, hs, hfu, hmn, hlen, hna, hpe⟩ := hI
 simp only at hF hM hRn hRow hRep hs hfu hmn hlen hna hpe
 obtain ⟨k, rfl⟩ : ∃ k, m = k + 1 := ⟨m - 1, by omega⟩
 rw [pMems_succ] at hpe
 have hps := hs.len
 revert a; refine Bo (Sq ?_)
 rcases hq0 : pTake 34 u with _ | r
 ·
  rw [hq0] at hpe
  have hpe2 : objOf T.length n s = none := hpe.symm
  have hne : u.headD 0 ≠ 34 := by rintro h; cases u with | nil => cases h | cons c u => (subst h; rw [show pTake 34 (34 :: u) = some u from rfl] at hq0; cases hq0)
  refine Rg (Mv 3 rfl (Ld hM 0 rfl rfl (Md 1 [0,5,6,7] rfl (Nx (Sq (Sq (Rg (Mv 1 rfl (Cl rfl Tryz.func111 (by kernel_rfl) rfl (here_walk hT1 hs hM) ?_)))))))))
  clear hM; intro w v hR
  obtain ⟨rfl, hM⟩ := hR
  refine Mv 1 rfl ?_; intro a hF
  rw [bne_t (d := 34) (z := 34) rfl hne] at hF
  revert a; refine Md 5 [0,5,6,7,32] rfl (Nx (Ct rfl (Sq (Rg (Md 3 [2,3,4] rfl (Nx (Re (Rt (Rb (Rt (Rb ?_))))))))))); intro a hF
  refine ret3 hF rfl rfl rfl rfl ⟨_, rfl, ?_⟩
  rw [hpe2]
  exact ⟨_, rfl, hs, hM.sub (N ++ (R ++ TB)) (pc fun x => by simp [ct, ct_append] <;> omega)⟩
 obtain ⟨-, hu⟩ := hs.take hq0
 subst hu
 have hlr : (34 :: r).length = r.length + 1 := rfl
 rw [hq0] at hpe
 intro a hF
 replace hpe : Option.map _ (match pStr r with | none => none | some r => _) = _ := hpe
 revert a; refine Rg (Mv 3 rfl (Ld hM 0 rfl rfl (Md 1 [0,5,6,7] rfl (Nx (Sq (Sq (Rg (Mv 1 rfl (Cl rfl Tryz.func111 (by kernel_rfl) rfl (here_walk hT1 hs hM) ?_)))))))))
 clear hM; intro w v hR
 obtain ⟨rfl, hM⟩ := hR
 refine Mv 3 rfl (Cl rfl Tryz.func114 (by kernel_rfl) rfl (quoted_rd hT1 hs hM) ?_)
 clear hM; intro w v hR
 obtain ⟨rfl, q, hs3, hqq, hM⟩ := hR
 have hps3 := hs3.len
 refine Md 2 [0,5,6,7,32] rfl (Nx (Cd rfl (fun ht => ?_) ((fun ht => ?_))))
 ·
  have hpe2 : objOf T.length n s = none := by cases hx : pStr r with | none => rw [hx] at hpe; exact hpe.symm | some q' => (rw [hx] at ht; cases ht)
  refine Sq (Rg (Md 3 [2,3,4] rfl (Nx (Re (Rt (Rb (Rt (Rb ?_)))))))); intro a hF
  refine ret3 hF rfl rfl rfl rfl ⟨_, rfl, ?_⟩
  rw [hpe2]
  first | exact ⟨_, rfl, hs4, hM.sub (N' ++ (R ++ TB)) (pc fun x => by simp [ct, ct_append] <;> omega)⟩ | exact ⟨_, rfl, hs3, hM.sub (N ++ (R ++ TB)) (pc fun x => by simp [ct, ct_append] <;> omega)⟩
 obtain ⟨q', hx⟩ : ∃ q', pStr r = some q' := by cases hx : pStr r with | none => rw [hx] at ht; cases ht | some q' => exact ⟨q', rfl⟩
 have hq1 := hqq q' hx
 subst hq1
 rw [hx] at hpe
 simp only at hpe
 have hql0 := pStr_lt hx
 refine Sk (Nx (Sq (Rg (Mv 5 rfl (Ld hM 0 rfl rfl (Gv rfl (fun _ hF => gives_build (vals := [(0, .int .i64 ((ps T (34 :: r) : Nat) : Int)), (1, .int .i64 ((ps T q : Nat) : Int))]) (cells := [.int .i64 ((ps T (34 :: r) : Nat) : Int), .int .i64 ((ps T q : Nat) : Int)]) hF rfl rfl (by kernel_rfl) _) ?_)))))); intro a hF
 refine op_buildS hF hM elt24 rfl rfl rfl rfl rfl rfl rfl (by decide) ?_; clear hF hM a; intro a w b40 hF hM
 replace hM := hM.perm (L' := N ++ ((b40, 80, [.int .i64 ((ps T (34 :: r) : Nat) : Int), .int .i64 ((ps T q : Nat) : Int)]) :: (b, 108, RD T q) :: (R ++ (TB ++ L)))) (pc fun x => by simp [ct, ct_append] <;> omega)
 refine op_appendR hF elt24 hRn hM (sl_one (b := b40) (e := 80) (m := 2) (cs := [.int .i64 ((ps T (34 :: r) : Nat) : Int), .int .i64 ((ps T q : Nat) : Int)]) rfl) (by simp) (by simp [Value.oneCell']) (by omega) rfl rfl rfl rfl rfl rfl ?_; clear hF hM a; intro a w N' vn hF hRn' hM
 replace hM := hM.sub (L' := (b, 108, RD T q) :: (N' ++ (R ++ (TB ++ L)))) [(b40, 80, [.int .i64 ((ps T (34 :: r) : Nat) : Int), .int .i64 ((ps T q : Nat) : Int)])] (pc fun x => by simp [ct, ct_append] <;> omega)
 revert a; refine Md 1 [0,5,6] rfl (Nx (Sq (Rg (Mv 1 rfl (Cl rfl Tryz.func73 (by kernel_rfl) rfl (blanks_walk hT1 hs3 hM) ?_)))))
 clear hM; intro w v hR
 obtain ⟨rfl, hM⟩ := hR
 have hs4 := hs3.of_skip
 have hsl := skip_len q
 refine Md 0 [0,5,6] rfl (Nx (Sq (Sq (Rg (Mv 1 rfl (Cl rfl Tryz.func117 (by kernel_rfl) rfl (take_walk hT1 hs4 58 hM) ?_))))))
 clear hM; intro w v hR
 obtain ⟨rfl, hM⟩ := hR
 refine Md 1 [0,5,6,46] rfl (Nx (Cd rfl (fun ht => ?_) ((fun ht => ?_))))
 ·
  have hp2 : pTake 58 (Js.skip q) = none := by cases hp : pTake 58 (Js.skip q) with | none => rfl | some q => rw [hp] at ht; cases ht
  rw [hp2] at hM
  rw [hp2] at hpe
  have hpe2 : objOf T.length n s = none := hpe.symm
  refine Sq (Rg (Md 3 [2,3,4] rfl (Nx (Re (Rt (Rb (Rt (Rb ?_)))))))); intro a hF
  refine ret3 hF rfl rfl rfl rfl ⟨_, rfl, ?_⟩
  rw [hpe2]
  first | exact ⟨_, rfl, hs4, hM.sub (N' ++ (R ++ TB)) (pc fun x => by simp [ct, ct_append] <;> omega)⟩ | exact ⟨_, rfl, hs3, hM.sub (N ++ (R ++ TB)) (pc fun x => by simp [ct, ct_append] <;> omega)⟩
 obtain ⟨r1, hp2⟩ : ∃ r2, pTake 58 (Js.skip q) = some r2 := by cases hp : pTake 58 (Js.skip q) with | none => rw [hp] at ht; cases ht | some q => exact ⟨q, rfl⟩
 rw [hp2] at hM
 obtain ⟨hs5, hq5⟩ := hs4.take hp2
 rw [hp2] at hpe
 simp only at hpe
 have hl5 : (Js.skip q).length = r1.length + 1 := by rw [hq5]; rfl
 clear hp2
 replace hM : Mem B wc ((b, 108, RD T r1) :: (N' ++ (R ++ (TB ++ L)))) w := hM
 refine Sk (Nx (Sq (Rg (Mv 1 rfl (Cl rfl Tryz.func73 (by kernel_rfl) rfl (blanks_walk hT1 hs5 hM) ?_)))))
 clear hM; intro w v hR
 obtain ⟨rfl, hM⟩ := hR
 have hs6 := hs5.of_skip
 have hsl3 := skip_len r1
 refine Md 0 [0,5,6] rfl (Nx (Sq ?_))
 rcases hpv : pVal T.length k (Js.skip r1) with _ | ⟨p, q2⟩
 ·
  rw [hpv] at hpe
  have hpe2 : objOf T.length n s = none := hpe.symm
  refine Rg (Mv 1 rfl (Cl rfl Tryz.func74 (by kernel_rfl) rfl (hV k (by omega) _ _ w hs6 (by omega) hM) ?_))
  clear hM; intro w v hR
  rw [hpv] at hR
  obtain ⟨x, y, z, q2, rfl, hs7, hM⟩ := hR
  refine Mv 3 rfl ?_; intro a hF
  refine op_alloc hF hM rfl (vs := [.int .i64 0, .int .i64 0, .int .i64 0, .slice none 0 0, .slice none 0 0]) rfl rfl rfl (by kernel_rfl) ?_; clear hF hM a; intro a w b8 hF hM
  refine op_storeA hF hM rfl 0 rfl rfl (by kernel_rfl) rfl rfl rfl rfl (rfl) ?_; clear hF hM a; intro a w  hF hM
  revert a; refine Md 1 [0,5,6,8,9] rfl (Nx (Sq (Sq (Rg (Md 2 [0,5,6,8,55] rfl (Nx (Ct rfl (Sq (Rg (Md 3 [2,3,4] rfl (Nx (Re (Rt (Rb (Rt (Rb ?_)))))))))))))))); intro a hF
  refine ret3 hF rfl rfl rfl rfl ⟨_, rfl, ?_⟩
  rw [hpe2]
  exact ⟨_, rfl, hs7, hM.sub ((b8, 27, [.int .i64 x, .int .i64 y, .int .i64 z, .slice none 0 0, .slice none 0 0]) :: (N' ++ (R ++ TB))) (pc fun x => by simp [ct, ct_append] <;> omega)⟩
 rw [hpv] at hpe
 simp only at hpe
 have hql := pVal_lt hs6 hpv
 refine Rg (Mv 1 rfl (Cl rfl Tryz.func74 (by kernel_rfl) rfl (hV k (by omega) _ _ w hs6 (by omega) hM) ?_))
 clear hM; intro w v hR
 rw [hpv] at hR
 obtain ⟨cs, TB2, rfl, hcs, hs7, hM⟩ := hR
 have hcl := hcs.len
 obtain ⟨k1, k2, k3, o1, l1, c1, o2, l2, c2, rfl⟩ := hcs.shape
 refine Mv 3 rfl ?_; intro a hF
 refine op_alloc hF hM rfl (vs := [.int .i64 0, .int .i64 0, .int .i64 0, .slice none 0 0, .slice none 0 0]) rfl rfl rfl (by kernel_rfl) ?_; clear hF hM a; intro a w b8 hF hM
 refine op_storeA hF hM rfl 0 rfl rfl (by kernel_rfl) rfl rfl rfl rfl (rfl) ?_; clear hF hM a; intro a w  hF hM
 revert a; refine Md 1 [0,5,6,8,9] rfl (Nx (Sq (Sq (Rg (Md 2 [0,5,6,8,55] rfl (Nx (Cf rfl (Sk (Nx (Sq (Rg (Mv 1 rfl ?_)))))))))))); intro a hF
 refine op_loadA hF hM rfl 0 rfl rfl rfl Tryz.underlying27 rfl (by kernel_rfl) rfl rfl ?_; clear hF a; intro a hF
 refine op_buildS hF hM elt25 rfl rfl rfl rfl rfl rfl rfl (by decide) ?_; clear hF hM a; intro a w b58 hF hM
 replace hM := hM.perm (L' := R ++ ((b58, 27, [.int .i64 k1, .int .i64 k2, .int .i64 k3, .slice o1 l1 c1, .slice o2 l2 c2]) :: (b8, 27, [.int .i64 k1, .int .i64 k2, .int .i64 k3, .slice o1 l1 c1, .slice o2 l2 c2]) :: (b, 108, RD T q2) :: (TB2 ++ (N' ++ (TB ++ L))))) (pc fun x => by simp [ct, ct_append] <;> omega)
 refine op_appendR hF elt25 hRow hM (sl_one rfl) (by simp) (List.all_eq_true.1 hcl.2) (by omega) rfl rfl rfl rfl rfl rfl ?_; clear hF hM a; intro a w R' v' hF hRow' hM
 replace hM := hM.sub (L' := (b, 108, RD T q2) :: (N' ++ (R' ++ (TB2 ++ TB ++ L)))) [(b58, 27, [.int .i64 k1, .int .i64 k2, .int .i64 k3, .slice o1 l1 c1, .slice o2 l2 c2]), (b8, 27, [.int .i64 k1, .int .i64 k2, .int .i64 k3, .slice o1 l1 c1, .slice o2 l2 c2])] (pc fun x => by simp [ct, ct_append] <;> omega)
 revert a; refine Md 1 [0,5,6] rfl (Nx (Sq (Rg (Mv 1 rfl (Cl rfl Tryz.func73 (by kernel_rfl) rfl (blanks_walk hT1 hs7 hM) ?_)))))
 clear hM; intro w v hR
 obtain ⟨rfl, hM⟩ := hR
 have hs8 := hs7.of_skip
 have hsl4 := skip_len q2
 refine Md 0 [0,5,6] rfl (Nx (Sq (Sq (Rg (Mv 1 rfl (Cl rfl Tryz.func117 (by kernel_rfl) rfl (take_walk hT1 hs8 125 hM) ?_))))))
 clear hM; intro w v hR
 obtain ⟨rfl, hM⟩ := hR
 refine Md 0 [0,5,6,63] rfl (Nx (Cd rfl (fun ht => ?_) ((fun ht => ?_))))
 ·
  obtain ⟨r2, hp2⟩ : ∃ r2, pTake 125 (Js.skip q2) = some r2 := by cases hp : pTake 125 (Js.skip q2) with | none => rw [hp] at ht; cases ht | some q => exact ⟨q, rfl⟩
  rw [hp2] at hM
  obtain ⟨hs10, hq10⟩ := hs8.take hp2
  rw [hp2] at hpe
  refine Sq (Rg (Md 5 [2,3,4] rfl (Nx (Re (Rt (Rb (Rt (Rb ?_)))))))); intro a hF
  first | (refine ret3 hF rfl rfl rfl rfl ⟨_, rfl, ?_⟩; rw [← hpe]; exact ⟨_, _, _, N' ++ (R' ++ (TB2 ++ TB)), rfl, by rw [spans_append, List.length_append]; exact hRn'.sl.mono (List.subset_append_left _ _), by simpa using hRow'.sl.mono (fun x hx => by simp [hx]), (RepPls.mono (fun x hx => by simp [hx]) _ _ hRep).append (RepPls.one (RepPl.mono (fun x hx => by simp [hx]) _ _ hcs)), hs10, hM.perm (pc fun x => by simp [ct, ct_append] <;> omega)⟩) | (refine ret3 hF rfl rfl rfl rfl ⟨_, rfl, ?_⟩; rw [hpe2]; exact ⟨_, rfl, hs8, hM.sub (N' ++ (R' ++ (TB2 ++ TB))) (pc fun x => by simp [ct, ct_append] <;> omega)⟩)
 have hp2 : pTake 125 (Js.skip q2) = none := by cases hp : pTake 125 (Js.skip q2) with | none => rfl | some q => rw [hp] at ht; cases ht
 rw [hp2] at hM
 rw [hp2] at hpe
 simp only at hpe
 clear hp2
 replace hM : Mem B wc ((b, 108, RD T (Js.skip q2)) :: (N' ++ (R' ++ (TB2 ++ TB ++ L)))) w := hM
 refine Sk (Nx (Sq (Sq (Rg (Mv 1 rfl (Cl rfl Tryz.func117 (by kernel_rfl) rfl (take_walk hT1 hs8 44 hM) ?_))))))
 clear hM; intro w v hR
 obtain ⟨rfl, hM⟩ := hR
 refine Md 1 [0,5,6,68] rfl (Nx (Cd rfl (fun ht => ?_) ((fun ht => ?_))))
 ·
  have hp2 : pTake 44 (Js.skip q2) = none := by cases hp : pTake 44 (Js.skip q2) with | none => rfl | some q => rw [hp] at ht; cases ht
  rw [hp2] at hM
  rw [hp2] at hpe
  have hpe2 : objOf T.length n s = none := hpe.symm
  refine Sq (Rg (Md 3 [2,3,4] rfl (Nx (Re (Rt (Rb (Rt (Rb ?_)))))))); intro a hF
  first | (refine ret3 hF rfl rfl rfl rfl ⟨_, rfl, ?_⟩; rw [← hpe]; exact ⟨_, _, _, N' ++ (R' ++ (TB2 ++ TB)), rfl, by rw [spans_append, List.length_append]; exact hRn'.sl.mono (List.subset_append_left _ _), by simpa using hRow'.sl.mono (fun x hx => by simp [hx]), (RepPls.mono (fun x hx => by simp [hx]) _ _ hRep).append (RepPls.one (RepPl.mono (fun x hx => by simp [hx]) _ _ hcs)), hs10, hM.perm (pc fun x => by simp [ct, ct_append] <;> omega)⟩) | (refine ret3 hF rfl rfl rfl rfl ⟨_, rfl, ?_⟩; rw [hpe2]; exact ⟨_, rfl, hs8, hM.sub (N' ++ (R' ++ (TB2 ++ TB))) (pc fun x => by simp [ct, ct_append] <;> omega)⟩)
 obtain ⟨r2, hp2⟩ : ∃ r2, pTake 44 (Js.skip q2) = some r2 := by cases hp : pTake 44 (Js.skip q2) with | none => rw [hp] at ht; cases ht | some q => exact ⟨q, rfl⟩
 rw [hp2] at hM
 obtain ⟨hs10, hq10⟩ := hs8.take hp2
 rw [hp2] at hpe
 simp only at hpe
 have hl10 : (Js.skip q2).length = r2.length + 1 := by rw [hq10]; rfl
 clear hs8
 replace hM : Mem B wc ((b, 108, RD T r2) :: (N' ++ (R' ++ (TB2 ++ TB ++ L)))) w := hM
 refine Sk (Nx (Rg (Mv 1 rfl (Cl rfl Tryz.func73 (by kernel_rfl) rfl (blanks_walk hT1 hs10 hM) ?_))))
 clear hM; intro w v hR
 obtain ⟨rfl, hM⟩ := hR
 have hs9 := hs10.of_skip
 have hsl5 := skip_len r2
 refine Md 0 [0,5,6] rfl (Nb (Kp [0,5,6] rfl ?_)); intro a hF
 exact ⟨(k, Js.skip r2, ns ++ [(ps T (34 :: r), ps T q)], acc ++ [p]), ⟨N', R', TB2 ++ TB, _, _, _, hF, hM, by simp only; rw [spans_append, List.length_append]; exact hRn', by simpa using hRow', (RepPls.mono (List.subset_append_right _ _) _ _ hRep).append (RepPls.one (RepPl.mono (List.subset_append_left _ _) _ _ hcs)), by rw [List.all_append, hone, hcl.2]; rfl, hs9, by simp only; omega, by simp only; omega, by simp only [List.length_append, List.length_cons, List.length_nil]; omega, by simp [hna], by simp only; rw [← hpe]; cases pMems T.length k (Js.skip r2) <;> simp [ps]⟩, by simp only; omega⟩
end Go.Sx
