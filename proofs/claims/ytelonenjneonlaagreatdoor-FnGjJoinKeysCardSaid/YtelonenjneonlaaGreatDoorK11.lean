/- Part 11 of the proof of FnGjJoinKeys: the statement Rows.FnGjJoinKeysCardSaid; no further condition. -/
import Derived.Test.YtelonenjneonlaaGreatDoorK10
import Derived.OrdersHeld
import Derived.StillTail
set_option linter.all false
namespace Go.Sx
open Go.RowKit Go.Proofs
section
variable {P : Program} {ops : Array Oper} {Q : Exit → Act → World → Prop} {md : Region.Mode} {S : World → Prop} {m : Nat}
def wpM (P : Program) (md : Region.Mode) (ops : Array Oper) (Q : Exit → Act → World → Prop) (S : World → Prop) (m : Nat) : Nat → Array Bool → Act → World → Prop
  | 0, listed, a, w => Region.ready md ops listed = [] ∧ Q .normal a w
  | f + 1, listed, a, w => (Region.ready md ops listed = [] → Q .normal a w) ∧
    ∀ i ∈ Region.ready md ops listed, wpOp P ops Q i (fun a' w' => (S w' ∨ (listed.setIfInBounds i true).getD m false = true) ∧ wpM P md ops Q S m f (listed.setIfInBounds i true) a' w') a w
theorem wpM.any : ∀ {f : Nat} {listed : Array Bool} {a : Act} {w : World}, wpM P md ops Q S m f listed a w → wpAny P md ops Q f listed a w
  | 0, _, _, _, h => h
  | _ + 1, _, _, _, h => ⟨h.1, fun i hi => wpOp_mono (fun _ _ h' => h'.2.any) (h.2 i hi)⟩
theorem listed_stays {listed : Array Bool} (h : listed.getD m false = true) (i : Nat) : (listed.setIfInBounds i true).getD m false = true := by
  by_cases e : i = m
  · subst e
    rcases Nat.lt_or_ge i listed.size with h' | h'
    · simp [h']
    · simp [Array.getElem?_eq_none h'] at h
  · rw [getD_set_ne false e]; exact h
theorem wpM.of_any : ∀ {f : Nat} {listed : Array Bool} {a : Act} {w : World}, listed.getD m false = true → wpAny P md ops Q f listed a w → wpM P md ops Q S m f listed a w
  | 0, _, _, _, _, h => h
  | _ + 1, _, _, _, hm, h => ⟨h.1, fun i hi => wpOp_mono (fun _ _ h' => ⟨.inr (listed_stays hm i), wpM.of_any (listed_stays hm i) h'⟩) (h.2 i hi)⟩
def Closed (md : Region.Mode) (ops : Array Oper) (listed : Array Bool) : Prop := ∀ j oj, ops[j]? = some oj → listed.getD j false = true → ∀ e ∈ oj.after, Region.binds md e = true → listed.getD e.on false = true
def closedB (md : Region.Mode) (ops : Array Oper) (listed : Array Bool) : Bool := (List.range ops.size).all fun j => !listed.getD j false || match ops[j]? with
  | some oj => oj.after.all fun e => !Region.binds md e || listed.getD e.on false
  | none => true
theorem Closed.of {listed : Array Bool} (h : closedB md ops listed = true) : Closed md ops listed := by
  intro j oj hj hl e he hb
  have h1 := List.all_eq_true.1 h j (List.mem_range.2 (Array.getElem?_eq_some_iff.1 hj).1)
  rw [hl, hj] at h1
  simp only [Bool.not_true, Bool.false_or] at h1
  have h2 := Array.all_eq_true_iff_forall_mem.1 h1 e he
  rw [hb] at h2
  simpa using h2
theorem Closed.set {listed : Array Bool} (h : Closed md ops listed) {i : Nat} (hi : i ∈ Region.ready md ops listed) : Closed md ops (listed.setIfInBounds i true) := by
  obtain ⟨_, oi, hoi, hall⟩ := mem_ready.1 hi
  intro j oj hj hl e he hb
  by_cases hij : i = j
  · subst hij
    obtain rfl := Option.some.inj (hj.symm.trans hoi)
    exact getD_set_true (hall e he hb)
  · rw [getD_set_ne false hij] at hl
    exact getD_set_true (h j oj hj hl e he hb)
def waitsT (md : Region.Mode) (ops : Array Oper) : Nat → Nat → Nat → Bool
  | 0, _, _ => false
  | f + 1, m, i => Region.waitsFor md ops m i || (List.range ops.size).any fun k => Region.waitsFor md ops m k && waitsT md ops f k i
theorem waitsT_listed {listed : Array Bool} (hc : Closed md ops listed) : ∀ (f : Nat) {m i : Nat}, waitsT md ops f m i = true → listed.getD m false = true → listed.getD i false = true
  | 0, _, _, h, _ => by simp [waitsT] at h
  | f + 1, m, i, h, hl => by
    simp only [waitsT, Bool.or_eq_true, List.any_eq_true, Bool.and_eq_true] at h
    have go : ∀ k, Region.waitsFor md ops m k = true → listed.getD k false = true := fun k hk => by
      obtain ⟨om, hom, e, he, hb, heq⟩ := Region.waitsFor_spec hk
      rw [← heq]; exact hc m om hom hl e he hb
    rcases h with h | ⟨k, _, h1, h2⟩
    · exact go i h
    · exact waitsT_listed hc f h2 (go k h1)
theorem waitsT_ready {listed : Array Bool} (hc : Closed md ops listed) {f : Nat} {m i : Nat} (h : waitsT md ops f m i = true) (hr : m ∈ Region.ready md ops listed) : listed.getD i false = true := by
  cases f with
  | zero => simp [waitsT] at h
  | succ f =>
    simp only [waitsT, Bool.or_eq_true, List.any_eq_true, Bool.and_eq_true] at h
    obtain ⟨_, om, hom, hall⟩ := mem_ready.1 hr
    have go : ∀ k, Region.waitsFor md ops m k = true → listed.getD k false = true := fun k hk => by
      obtain ⟨om', hom', e, he, hb, heq⟩ := Region.waitsFor_spec hk
      obtain rfl := Option.some.inj (hom'.symm.trans hom)
      rw [← heq]; exact hall e he hb
    rcases h with h | ⟨k, _, h1, h2⟩
    · exact go i h
    · exact waitsT_listed hc f h2 (go k h1)
theorem unlisted {listed : Array Bool} {i : Nat} (h : listed.getD i true = false) : ¬ listed.getD i false = true := by
  intro h1
  rcases Nat.lt_or_ge i listed.size with h' | h'
  · simp [h'] at h h1; rw [h] at h1; cases h1
  · simp [Array.getElem?_eq_none h'] at h1
theorem wpM.first {i : Nat} {oi : Oper} {v : Value} (hi : ops[i]? = some oi) (hsel : ∀ (j : Nat) (o : Oper) cs b, ops[j]? = some o → o.op ≠ .select cs b)
    (hQ : ∀ c a w, Q (.panic c) (a.put oi.dst v) w → Q (.panic c) a w) {f0 : Nat} (hm : waitsT md ops f0 m i = true) :
    ∀ (f : Nat) (listed : Array Bool) (a : Act) (w : World), listed.getD m false = false → Closed md ops listed →
      (∀ j oj, ops[j]? = some oj → j ≠ i → listed.getD j true = false → (∀ e ∈ oj.after, Region.binds md e = true → e.on ≠ i) → oi.apart ops oj = true) →
      i ∈ Region.ready md ops listed → YieldsIf P ops S oi v a → S w → wpM P md ops Q S m f (listed.setIfInBounds i true) (a.put oi.dst v) w → wpM P md ops Q S m (f + 1) listed a w
  | f, listed, a, w, hml, hc, hfree, hr, hy, hS, H => by
    refine ⟨fun h => absurd hr (by rw [h]; simp), fun j hj => ?_⟩
    by_cases hji : j = i
    · subst hji
      exact hy.wpOp hi hS ⟨.inl hS, H⟩
    obtain ⟨hjun, oj, hoj, hall⟩ := mem_ready.1 hj
    have hiun := unlisted (mem_ready.1 hr).1
    have hnot : ∀ e ∈ oj.after, Region.binds md e = true → e.on ≠ i := fun e he hb heq => hiun (heq ▸ hall e he hb)
    have hjm : j ≠ m := by
      rintro rfl
      exact hiun (waitsT_ready hc hm hj)
    have him : i ≠ m := by
      rintro rfl
      exact hiun (waitsT_ready hc hm hr)
    cases f with
    | zero =>
      have := ready_mono hj hji
      rw [H.1] at this
      cases this
    | succ f =>
      have h1 := H.2 j (ready_mono hj hji)
      have h2 := wpOp_putIf hoj (hfree j oj hoj hji hjun hnot) (fun cs b => hsel i oi cs b hi) (fun cs b => hsel j oj cs b hoj) hQ hy h1
      have hml' : (listed.setIfInBounds j true).getD m false = false := by rw [getD_set_ne false hjm]; exact hml
      refine wpOp_mono (fun a' w' h3 => ?_) h2
      have hSw : S w' := by
        rcases h3.2.1 with h | h
        · exact h
        · rw [getD_set_ne false hjm, getD_set_ne false him, hml] at h; cases h
      refine ⟨.inl hSw, wpM.first hi hsel hQ hm f (listed.setIfInBounds j true) a' w' hml' (hc.set hj) (fun k ok hk hki hun hno => ?_) (ready_mono hr (Ne.symm hji)) h3.1 hSw ?_⟩
      · refine hfree k ok hk hki ?_ hno
        by_cases hjk : j = k
        · subst hjk; exact hjun
        · rw [getD_set_ne true hjk] at hun; exact hun
      · rw [Array.setIfInBounds_comm _ _ hji]
        exact h3.2.2
end
section
variable {P : Program} {n : Nat} {K : List (Nat × Value)} {a : Act} {w : World} {Q : Exit → Act → World → Prop} {md : Region.Mode} {ops : Array Oper} {fuel : Nat} {listed : Array Bool} {oi : Oper} {S : World → Prop} {m : Nat}
theorem mix {id : Nat} {l : List Oper} (S : World → Prop) (m : Nat) (hm : P.follows .mixedOrders = true) (h : wpM P .any l.toArray Q S m l.length (Array.replicate l.length false) a w.drew) : (Code.region id l.toArray true).wp P Q a w :=
  wp_region_any hm (by simpa using h.any)
def MQ (K : Act → World → Prop) (Q : Exit → Act → World → Prop) : Exit → Act → World → Prop
  | .normal => K
  | .exit i => Q (.exit i)
  | .goto l => Q (.goto l)
  | .ret => Q .ret
  | .panic c => Q (.panic c)
  | .outgrown => Q .outgrown
theorem wp_MQ {o : Oper} {K' K : Act → World → Prop} (hK : ∀ a w, K' a w → K a w) (h : o.wp P a w K' (MQ K Q)) : o.wp P a w K Q := by
  unfold Oper.wp at *
  generalize (execOp a.eval o).run P w = r at *
  cases r with
  | ok n w' =>
    cases n <;> simp only [Oper.upon] at h ⊢
    case value => exact hK _ _ h
    case skip => exact hK _ _ h
    case defer => exact hK _ _ h
    case enter => exact h.mono (fun e w'' he => by cases e <;> first | exact hK _ _ he | exact he)
    case row => exact Rows.mono h (fun _ _ he => hK _ _ he)
  | halt x w' => cases x <;> simp only [Oper.upon] at h ⊢; exact h
theorem malone (i : Nat) (hi : ops[i]? = some oi) (hr : Region.ready md ops listed = [i])
    (h : wpList P ops (MQ (fun a' w' => (S w' ∨ (listed.setIfInBounds i true).getD m false = true) ∧ wpM P md ops Q S m fuel (listed.setIfInBounds i true) a' w') Q) [oi] a w) : wpM P md ops Q S m (fuel + 1) listed a w := by
  refine ⟨fun h0 => absurd h0 (by rw [hr]; simp), fun j hj => ?_⟩
  rw [hr] at hj
  obtain rfl := List.mem_singleton.1 hj
  unfold wpOp
  simp only [hi]
  unfold wpList at h
  split
  · rename_i hw
    rw [if_pos hw] at h
    rcases h with h | h
    · exact .inl (wp_MQ (fun _ _ h => h) h)
    · exact .inr h
  · rename_i hw
    rw [if_neg hw] at h
    exact h
theorem mtail {l : List Oper} (k : Nat) (hm : listed.getD m false = true) (hB : Region.seqB md l.toArray (l.drop k).length k listed = true) (h : wpList P l.toArray Q (l.drop k) a w) : wpM P md l.toArray Q S m (l.drop k).length listed a w :=
  .of_any hm (wpAny_of_seq (l.drop k) k listed a w (fun j => by simp [List.getElem?_drop]) hB h)
end
end Go.Sx
namespace Go.Sx
open Go.RowKit Go.Proofs
theorem mstep {P : Program} {a : Act} {w : World} {Q : Exit → Act → World → Prop} {ops : Array Oper} {K1 K2 : Act → World → Prop} (h1 : K1 a w) (h2 : K2 a w) : wpList P ops (MQ (fun a' w' => K1 a' w' ∧ K2 a' w') Q) [] a w := ⟨h1, h2⟩
end Go.Sx
namespace Go.Sx
open Go.RowKit Go.Proofs
theorem mend {P : Program} {ops : Array Oper} {Q : Exit → Act → World → Prop} {md : Region.Mode} {S : World → Prop} {m fuel : Nat} {listed : Array Bool} {a : Act} {w : World} (h0 : Region.ready md ops listed = []) (h : Q .normal a w) : wpM P md ops Q S m fuel listed a w := by
  cases fuel with
  | zero => exact ⟨h0, h⟩
  | succ f => exact ⟨fun _ => h, fun i hi => absurd hi (by rw [h0]; simp)⟩
section
variable {P : Program} {n : Nat} {K : List (Nat × Value)} {a : Act} {w : World} {Q : Exit → Act → World → Prop} {md : Region.Mode} {ops : Array Oper} {fuel : Nat} {listed : Array Bool} {oi : Oper} {S S' : World → Prop} {m : Nat} {v : Value}
theorem y_plain (hg : oi.guard = none) (hy : ∀ w, S w → (execOp a.eval oi).run P w = .ok (.value v) w) : YieldsIf P ops S oi v a := .inl ⟨by simp [Region.wanted, hg], hy⟩
theorem y_yes (hF : Fr n K a) {j d0 : Nat} {want b : Bool} {oj : Oper} (hg : oi.guard = some (j, want)) (hj : ops[j]? = some oj) (hd0 : oj.dst = some d0) (hlt0 : Nat.blt d0 n = true) (hb : look K d0 = some (.bool b)) (hne : (b == want) = true)
    (hy : ∀ w, S w → (execOp a.eval oi).run P w = .ok (.value v) w) : YieldsIf P ops S oi v a := .inl ⟨by rw [wanted_of hF hg hj hd0 hlt0 hb, hne], hy⟩
theorem y_no (hF : Fr n K a) {j d0 : Nat} {want b : Bool} {oj : Oper} (hg : oi.guard = some (j, want)) (hj : ops[j]? = some oj) (hd0 : oj.dst = some d0) (hlt0 : Nat.blt d0 n = true) (hb : look K d0 = some (.bool b)) (hne : (b == want) = false) : YieldsIf P ops S oi undef a :=
  .inr ⟨by rw [wanted_of hF hg hj hd0 hlt0 hb, hne], rfl⟩
theorem wpM.firstP {i : Nat} (hi : ops[i]? = some oi) (hsel : ∀ (j : Nat) (o : Oper) cs b, ops[j]? = some o → o.op ≠ .select cs b) (hQ : ∀ c a w, Q (.panic c) (a.put oi.dst v) w → Q (.panic c) a w) (him : i ≠ m) :
    ∀ (f : Nat) (listed : Array Bool) (a : Act) (w : World), (S w ∨ listed.getD m false = true) →
      (∀ j oj, ops[j]? = some oj → j ≠ i → listed.getD j true = false → (∀ e ∈ oj.after, Region.binds md e = true → e.on ≠ i) → oi.apart ops oj = true) →
      i ∈ Region.ready md ops listed → YieldsIf P ops (fun _ => True) oi v a → wpM P md ops Q S m f (listed.setIfInBounds i true) (a.put oi.dst v) w → wpM P md ops Q S m (f + 1) listed a w
  | f, listed, a, w, hS, hfree, hr, hy, H => by
    refine ⟨fun h => absurd hr (by rw [h]; simp), fun j hj => ?_⟩
    by_cases hji : j = i
    · subst hji
      exact hy.wpOp hi trivial ⟨hS.imp id fun h => listed_stays h _, H⟩
    obtain ⟨hjun, oj, hoj, hall⟩ := mem_ready.1 hj
    have hiun := unlisted (mem_ready.1 hr).1
    have hnot : ∀ e ∈ oj.after, Region.binds md e = true → e.on ≠ i := fun e he hb heq => hiun (heq ▸ hall e he hb)
    cases f with
    | zero =>
      have := ready_mono hj hji
      rw [H.1] at this
      cases this
    | succ f =>
      have h1 := H.2 j (ready_mono hj hji)
      have h2 := wpOp_putIf hoj (hfree j oj hoj hji hjun hnot) (fun cs b => hsel i oi cs b hi) (fun cs b => hsel j oj cs b hoj) hQ hy h1
      refine wpOp_mono (fun a' w' h3 => ?_) h2
      have hSw : S w' ∨ (listed.setIfInBounds j true).getD m false = true := by
        rcases h3.2.1 with h | h
        · exact .inl h
        · rw [Array.setIfInBounds_comm _ _ (Ne.symm hji), getD_set_ne false him] at h
          exact .inr h
      refine ⟨hSw, wpM.firstP hi hsel hQ him f (listed.setIfInBounds j true) a' w' hSw (fun k ok hk hki hun hno => ?_) (ready_mono hr (Ne.symm hji)) h3.1 ?_⟩
      · refine hfree k ok hk hki ?_ hno
        by_cases hjk : j = k
        · subst hjk; exact hjun
        · rw [getD_set_ne true hjk] at hun; exact hun
      · rw [Array.setIfInBounds_comm _ _ hji]
        exact h3.2.2
theorem mtakeL (i : Nat) {d : Nat} (hF : Fr n K a) (hS : S w) (hi : ops[i]? = some oi) (hs : Region.noSelect ops = true) (hf : Region.free md ops listed i = true) (hr : (Region.ready md ops listed).contains i = true) (hm : waitsT md ops ops.size m i = true) (hml : (!listed.getD m false && closedB md ops listed) = true)
    (hQ : ∀ c a w, Q (.panic c) (a.put (some d) v) w → Q (.panic c) a w) (hd : oi.dst = some d) (hlt : Nat.blt d n = true) (hy : YieldsIf P ops S oi v a)
    (h : ∀ a', Fr n ((d, v) :: K) a' → wpM P md ops Q S m fuel (listed.setIfInBounds i true) a' w) : wpM P md ops Q S m (fuel + 1) listed a w :=
  wpM.first hi (Region.noSelect_spec hs) (by rw [hd]; exact hQ) hm fuel listed a w (by simp only [Bool.and_eq_true, Bool.not_eq_true'] at hml; exact hml.1) (.of (by simp only [Bool.and_eq_true] at hml; exact hml.2)) (Region.free_spec hi hf) (by simpa using hr) hy hS (by rw [hd]; exact h _ (hF.put d v (Nat.le_of_ble_eq_true hlt)))
theorem mtakeP (i : Nat) {d : Nat} (hF : Fr n K a) (hS : S w ∨ listed.getD m false = true) (hi : ops[i]? = some oi) (hs : Region.noSelect ops = true) (hf : Region.free md ops listed i = true) (hr : (Region.ready md ops listed).contains i = true) (him : Nat.beq i m = false)
    (hQ : ∀ c a w, Q (.panic c) (a.put (some d) v) w → Q (.panic c) a w) (hd : oi.dst = some d) (hlt : Nat.blt d n = true) (hy : YieldsIf P ops (fun _ => True) oi v a)
    (h : ∀ a', Fr n ((d, v) :: K) a' → wpM P md ops Q S m fuel (listed.setIfInBounds i true) a' w) : wpM P md ops Q S m (fuel + 1) listed a w :=
  wpM.firstP hi (Region.noSelect_spec hs) (by rw [hd]; exact hQ) (fun e => by rw [e, Nat.beq_refl] at him; cases him) fuel listed a w hS (Region.free_spec hi hf) (by simpa using hr) hy (by rw [hd]; exact h _ (hF.put d v (Nat.le_of_ble_eq_true hlt)))
end
end Go.Sx
namespace Go.Sx
open Go.RowKit Go.Proofs Js Go.Proofs.YtelonenjneonlaaGreatDoorW.PrintWords
set_option maxRecDepth 100000 in
theorem tree_step {T : Str} (hT : T.length ≤ 2 ^ 37) (k b e : Nat) (ns : List (Nat × Nat)) (kids : List Js.Place) (hrec : ∀ q ∈ kids, TREE T q) : TREE T (.mk k b e ns kids) := by
 intro B wc w0 L cs hR hW hM0
 have hM := hM0
 simp only [RepPl] at hR
 obtain ⟨sn, sk, xs, rfl, hsn, hsk, hkr⟩ := hR
 obtain ⟨o1, c1, rfl⟩ := hsn.shape
 obtain ⟨o2, c2, rfl⟩ := hsk.shape
 simp only [WfPl] at hW
 obtain ⟨hw3, hw4, hwn, hnl, hkl, hwk⟩ := hW
 refine enter (l := [.string (mkS T), .agg ([.int .i64 (k : Int), .int .i64 (b : Int), .int .i64 (e : Int), .slice o1 ns.length c1, .slice o2 kids.length c2] : List Value).toArray]) 77 Tryz.func69 rfl rfl (fun a hF => ?_)
 replace hF : Fr 79 [(0, .string (mkS T)), (1, .agg ([.int .i64 (k : Int), .int .i64 (b : Int), .int .i64 (e : Int), .slice o1 ns.length c1, .slice o2 kids.length c2] : List Value).toArray)] a := hF
 refine seq (region ?_)
 refine op_box hF hM rfl rfl rfl rfl rfl rfl ?_; clear hF hM a; intro a w b3 hF hM
 refine op_alloc hF hM rfl (vs := [.int .i64 0, .string (mkS []), .slice none 0 0, .slice none 0 0]) rfl rfl rfl (by kernel_rfl) ?_; clear hF hM a; intro a w b4 hF hM
 revert a; refine Md 0 [0,3,4] rfl (Nx (Sq (Rg (Mv 1 rfl (Ld hM 1 rfl rfl (Gv rfl (fun _ hF => gives_build (vals := [(0, .int .i64 (k : Int))]) (cells := [.int .i64 (k : Int), .string (mkS []), .slice none 0 0, .slice none 0 0]) hF rfl rfl (by kernel_rfl) _) ?_)))))); intro a hF
 refine op_alloc hF hM rfl (vs := [.int .i64 0, .string (mkS []), .slice none 0 0, .slice none 0 0]) rfl rfl rfl (by kernel_rfl) ?_; clear hF hM a; intro a w b5 hF hM
 refine op_storeA hF hM rfl 0 rfl rfl (by kernel_rfl) rfl rfl rfl rfl (rfl) ?_; clear hF hM a; intro a w  hF hM
 revert a; refine Md 0 [0,3,4,5] rfl (Nx ?_); intro a hF
 refine cut (fun a w => Fr 79 [(0, .string (mkS T)), (3, .pointer (some ⟨b3, 0, none⟩)), (4, .pointer (some ⟨b4, 0, none⟩)), (5, .pointer (some ⟨b5, 0, none⟩))] a ∧ Mem B wc ((b5, 40, [.int .i64 (k : Int), .string (mkS (if k = 3 then sub T b e else if k = 4 then unquote (sub T b e) else [])), .slice none 0 0, .slice none 0 0]) :: (b4, 40, [.int .i64 0, .string (mkS []), .slice none 0 0, .slice none 0 0]) :: (b3, 27, [.int .i64 (k : Int), .int .i64 (b : Int), .int .i64 (e : Int), .slice o1 ns.length c1, .slice o2 kids.length c2]) :: L) w) ?_ (fun a w h => ?_)
 ·
  revert a; refine Sq (Rg (Mv 1 rfl (Ld hM 2 rfl rfl (Md 0 [0,3,4,5,12] rfl (Nx (Bo (Sq (Rg (Md 2 [0,3,4,5,12,13] rfl (Nx (Cd rfl (fun ht => ?_) ((fun ht => ?_)))))))))))))
  ·
   have hk3 : k = 3 := by have := (beq_iff_eq).1 ht; omega
   obtain ⟨hbe, heT⟩ := hw3 hk3
   refine Rg (Mv 2 rfl (Ld hM 2 rfl rfl (Mv 1 rfl (Ld hM 2 rfl rfl ?_)))); intro a hF
   refine op_slice_str hF rfl b e rfl rfl rfl Tryz.underlying9 rfl rfl rfl rfl rfl (by omega) (by omega) ?_; clear hF a; intro a hF
   revert a; refine Mv 1 rfl (St hM 0 rfl ?_)
   clear hM; intro w hM
   refine Md 0 [0,3,4,5] rfl (Nb (Kp [0,3,4,5] rfl ?_)); intro a hF
   refine ⟨hF, ?_⟩
   first | (rw [if_pos hk3]; exact hM) | (rw [if_neg hk3, if_pos hk4, hsub, unquote_mk]; exact hM) | (rw [if_neg hk3, if_neg hk4]; exact hM)
  have hk3 : ¬ k = 3 := by rintro rfl; exact absurd ht (by decide)
  refine Sq (Rg (Md 2 [0,3,4,5,22] rfl (Nx (Ce rfl (fun ht => ?_) ((fun ht => ?_))))))
  ·
   have hk4 : ¬ k = 4 := by rintro rfl; exact absurd ht (by decide)
   refine Sk (Nb (Kp [0,3,4,5] rfl ?_)); intro a hF
   refine ⟨hF, ?_⟩
   first | (rw [if_pos hk3]; exact hM) | (rw [if_neg hk3, if_pos hk4, hsub, unquote_mk]; exact hM) | (rw [if_neg hk3, if_neg hk4]; exact hM)
  have hk4 : k = 4 := by have := (beq_iff_eq).1 ht; omega
  obtain ⟨hbe, heT, i, hin, hsub⟩ := hw4 hk4
  have hil : i.length ≤ 2 ^ 38 := by have := congrArg List.length hsub; simp [sub] at this; omega
  refine Rg (Mv 2 rfl (Ld hM 2 rfl rfl (Mv 1 rfl (Ld hM 2 rfl rfl ?_)))); intro a hF
  refine op_slice_str hF rfl b e rfl rfl rfl Tryz.underlying9 rfl rfl rfl rfl rfl (by omega) (by omega) ?_; clear hF a; intro a hF
  rw [show List.take (e - b) (List.drop b T) = 34 :: i ++ [34] from hsub] at hF
  revert a; refine Cm hM rfl Tryz.func48 (by kernel_rfl) rfl (unquote_walk hin (by omega) _) ?_
  clear hM; intro w v hR hM hBe
  obtain rfl := hR
  refine Mv 1 rfl (St hM 0 rfl ?_)
  clear hM; intro w hM
  refine Md 0 [0,3,4,5] rfl (Nb (Kp [0,3,4,5] rfl ?_)); intro a hF
  refine ⟨hF, ?_⟩
  first | (rw [if_pos hk3]; exact hM) | (rw [if_neg hk3, if_pos hk4, hsub, unquote_mk]; exact hM) | (rw [if_neg hk3, if_neg hk4]; exact hM)
 clear hF hM
 obtain ⟨hF, hM⟩ := h
 obtain ⟨txt, htx⟩ : ∃ txt, txt = (if k = 3 then sub T b e else if k = 4 then unquote (sub T b e) else []) := ⟨_, rfl⟩
 rw [← htx] at hM
 revert a; refine Sq (Sq (Rg (Md 1 [0,3,4,5,6] rfl (Nx (Bo (Kp [0,3,4,5,6] rfl ?_)))))); intro a hF
 refine loopX (fun (j : Nat) a w => ∃ N on cn, Fr 79 [(0, .string (mkS T)), (3, .pointer (some ⟨b3, 0, none⟩)), (4, .pointer (some ⟨b4, 0, none⟩)), (5, .pointer (some ⟨b5, 0, none⟩)), (6, .int .i64 (j : Int))] a ∧ Mem B wc ((b5, 40, [.int .i64 (k : Int), .string (mkS txt), .slice on j cn, .slice none 0 0]) :: (b4, 40, [.int .i64 0, .string (mkS []), .slice none 0 0, .slice none 0 0]) :: (b3, 27, [.int .i64 (k : Int), .int .i64 (b : Int), .int .i64 (e : Int), .slice o1 ns.length c1, .slice o2 kids.length c2]) :: (N ++ L)) w ∧ Row 9 1 N (.slice on j cn) j ((ns.take j).map (fun x : Nat × Nat => Value.string (mkS (unquote (sub T x.1 x.2))))) ∧ j ≤ ns.length) (fun j => ns.length - j) (0) ?_ (fun j a w hI => ?_)
 · exact ⟨[], none, 0, hF, hM, .nil _ _, Nat.zero_le _⟩
 clear hF hM
 obtain ⟨N, on, cn, hF, hM, hRn, hjl⟩ := hI
 revert a; refine Sq (Sq (Rg (Mv 2 rfl (Ld hM 2 rfl rfl (Md 2 [0,3,4,5,6,36] rfl (Nx (Cd rfl (fun ht => ?_) ((fun ht => ?_)))))))))
 ·
  have hj : j < ns.length := by have := of_decide_eq_true ht; omega
  obtain ⟨x, hx⟩ : ∃ x, ns[j]? = some x := ⟨_, List.getElem?_eq_getElem hj⟩
  obtain ⟨hx1, hx2, i, hin, hsub⟩ := hwn x (List.mem_of_getElem? hx)
  have hil : i.length ≤ 2 ^ 38 := by have := congrArg List.length hsub; simp [sub] at this; omega
  obtain ⟨g, cap, hv, hcell⟩ := hsn.row (by omega)
  have ho : o1 = some ⟨g, 0, none⟩ := by cases hv; rfl
  obtain ⟨hs1, hs2⟩ := spans_at hx
  refine Sk (Nx (Sq (Bo ?_))); intro a hF
  refine mix (fun w => Mem B wc ((b5, 40, [.int .i64 (k : Int), .string (mkS txt), .slice on j cn, .slice none 0 0]) :: (b4, 40, [.int .i64 0, .string (mkS []), .slice none 0 0, .slice none 0 0]) :: (b3, 27, [.int .i64 (k : Int), .int .i64 (b : Int), .int .i64 (e : Int), .slice o1 ns.length c1, .slice o2 kids.length c2]) :: (N ++ L)) w) 18 (by kernel_rfl) ?_
  replace hM := hM.drew
  generalize World.drew w = w at *
  refine mtakeP 0 hF (.inl hM) rfl (by kernel_rfl) (by kernel_rfl) (by kernel_rfl) rfl (fun _ _ _ h => h) rfl rfl (y_plain rfl (fun w _ => gives_fieldAddr hF 2 rfl rfl (field_at Tryz.underlying40 rfl rfl (by kernel_rfl)) _)) ?_; clear hF a; intro a hF
  refine mtakeL 1 hF hM rfl (by kernel_rfl) (by kernel_rfl) (by kernel_rfl) (by kernel_rfl) (by kernel_rfl) (fun _ _ _ h => h) rfl rfl (y_plain rfl (fun w hM => gives_load hF hM 0 rfl Tryz.underlying22 rfl rfl rfl rfl)) ?_; clear hF a; intro a hF
  refine mtakeP 2 hF (.inl hM) rfl (by kernel_rfl) (by kernel_rfl) (by kernel_rfl) rfl (fun _ _ _ h => h) rfl rfl (y_plain rfl (fun w _ => gives_move hF rfl rfl _)) ?_; clear hF a; intro a hF
  refine mtakeP 3 hF (.inl hM) rfl (by kernel_rfl) (by kernel_rfl) (by kernel_rfl) rfl (fun _ _ _ h => h) rfl rfl (y_plain rfl (fun w _ => gives_fieldAddr hF 3 rfl rfl (field_at Tryz.underlying27 rfl rfl (by kernel_rfl)) _)) ?_; clear hF a; intro a hF
  refine mtakeL 4 hF hM rfl (by kernel_rfl) (by kernel_rfl) (by kernel_rfl) (by kernel_rfl) (by kernel_rfl) (fun _ _ _ h => h) rfl rfl (y_plain rfl (fun w hM => gives_load hF hM 2 rfl Tryz.underlying24 rfl rfl rfl rfl)) ?_; clear hF a; intro a hF
  rw [ho] at hF
  refine mtakeP 5 hF (.inl hM) rfl (by kernel_rfl) (by kernel_rfl) (by kernel_rfl) rfl (fun _ _ _ h => h) rfl rfl (y_plain rfl (fun w _ => gives_move hF rfl rfl _)) ?_; clear hF a; intro a hF
  refine mtakeP 6 hF (.inl hM) rfl (by kernel_rfl) (by kernel_rfl) (by kernel_rfl) rfl (fun _ _ _ h => h) rfl rfl (y_plain rfl (fun w _ => gives_indexAddrS (sz := 2) (j) hF rfl Tryz.underlying24 (by kernel_rfl) rfl rfl rfl hj _)) ?_; clear hF a; intro a hF
  refine mtakeP 7 hF (.inl hM) rfl (by kernel_rfl) (by kernel_rfl) (by kernel_rfl) rfl (fun _ _ _ h => h) rfl rfl (y_plain rfl (fun w _ => gives_fieldAddr hF 0 rfl rfl (field_at Tryz.underlying80 rfl rfl (by kernel_rfl)) _)) ?_; clear hF a; intro a hF
  refine mtakeL 8 hF hM rfl (by kernel_rfl) (by kernel_rfl) (by kernel_rfl) (by kernel_rfl) (by kernel_rfl) (fun _ _ _ h => h) rfl rfl (y_plain rfl (fun w hM => gives_load1 hF rfl Tryz.underlying3 rfl rfl ((show w.cell? ⟨g, 0 + j * 2 + 0, none⟩ = some (.int .i64 (x.1 : Int)) from by rw [Nat.zero_add]; exact hcell hM (by intro z hz; simp [hz]) _ _ hs1)))) ?_; clear hF a; intro a hF
  refine mtakeP 9 hF (.inl hM) rfl (by kernel_rfl) (by kernel_rfl) (by kernel_rfl) rfl (fun _ _ _ h => h) rfl rfl (y_plain rfl (fun w _ => gives_fieldAddr hF 3 rfl rfl (field_at Tryz.underlying27 rfl rfl (by kernel_rfl)) _)) ?_; clear hF a; intro a hF
  refine mtakeL 10 hF hM rfl (by kernel_rfl) (by kernel_rfl) (by kernel_rfl) (by kernel_rfl) (by kernel_rfl) (fun _ _ _ h => h) rfl rfl (y_plain rfl (fun w hM => gives_load hF hM 2 rfl Tryz.underlying24 rfl rfl rfl rfl)) ?_; clear hF a; intro a hF
  rw [ho] at hF
  refine mtakeP 11 hF (.inl hM) rfl (by kernel_rfl) (by kernel_rfl) (by kernel_rfl) rfl (fun _ _ _ h => h) rfl rfl (y_plain rfl (fun w _ => gives_move hF rfl rfl _)) ?_; clear hF a; intro a hF
  refine mtakeP 12 hF (.inl hM) rfl (by kernel_rfl) (by kernel_rfl) (by kernel_rfl) rfl (fun _ _ _ h => h) rfl rfl (y_plain rfl (fun w _ => gives_indexAddrS (sz := 2) (j) hF rfl Tryz.underlying24 (by kernel_rfl) rfl rfl rfl hj _)) ?_; clear hF a; intro a hF
  refine mtakeP 13 hF (.inl hM) rfl (by kernel_rfl) (by kernel_rfl) (by kernel_rfl) rfl (fun _ _ _ h => h) rfl rfl (y_plain rfl (fun w _ => gives_fieldAddr hF 1 rfl rfl (field_at Tryz.underlying80 rfl rfl (by kernel_rfl)) _)) ?_; clear hF a; intro a hF
  refine mtakeL 14 hF hM rfl (by kernel_rfl) (by kernel_rfl) (by kernel_rfl) (by kernel_rfl) (by kernel_rfl) (fun _ _ _ h => h) rfl rfl (y_plain rfl (fun w hM => gives_load1 hF rfl Tryz.underlying3 rfl rfl ((show w.cell? ⟨g, 0 + j * 2 + 1, none⟩ = some (.int .i64 (x.2 : Int)) from by rw [Nat.zero_add]; exact hcell hM (by intro z hz; simp [hz]) _ _ hs2)))) ?_; clear hF a; intro a hF
  refine mtakeP 15 hF (.inl hM) rfl (by kernel_rfl) (by kernel_rfl) (by kernel_rfl) rfl (fun _ _ _ h => h) rfl rfl (y_plain rfl (fun w _ => gives_slice_str (x.1) (x.2) hF rfl Tryz.underlying9 rfl rfl rfl rfl rfl hx1 hx2 _)) ?_; clear hF a; intro a hF
  rw [show List.take (x.2 - x.1) (List.drop x.1 T) = 34 :: i ++ [34] from hsub] at hF
  refine malone 16 rfl (by kernel_rfl) ?_
  revert a; refine Cm hM rfl Tryz.func48 (by kernel_rfl) rfl (unquote_walk hin (by omega) _) ?_
  clear hM; intro w v hR hM hBe
  obtain rfl := hR
  intro a hF
  refine mstep (.inl (hM)) ?_
  refine malone 17 rfl (by kernel_rfl) ?_
  refine op_buildS hF hM elt22 rfl rfl rfl rfl rfl (cs := [.string (mkS (unq i))]) rfl rfl (by decide) ?_; clear hF hM a; intro a w b56 hF hM
  refine mstep (.inl (hM.sub [(b56, 9, [.string (mkS (unq i))])] (pc fun x => by simp [ct, ct_append] <;> omega))) ?_
  refine malone 18 rfl (by kernel_rfl) ?_
  replace hM := hM.perm (L' := N ++ ((b56, 9, [.string (mkS (unq i))]) :: (b5, 40, [.int .i64 (k : Int), .string (mkS txt), .slice on j cn, .slice none 0 0]) :: (b4, 40, [.int .i64 0, .string (mkS []), .slice none 0 0, .slice none 0 0]) :: (b3, 27, [.int .i64 (k : Int), .int .i64 (b : Int), .int .i64 (e : Int), .slice o1 ns.length c1, .slice o2 kids.length c2]) :: L)) (pc fun x => by simp [ct, ct_append] <;> omega)
  refine op_appendR hF elt22 hRn hM (sl_one (b := b56) (e := 9) (m := 1) (cs := [.string (mkS (unq i))]) rfl) (by simp) (by simp [Value.oneCell']) (by omega) rfl rfl rfl rfl rfl rfl ?_; clear hF hM a; intro a w N' vn hF hRn' hM
  replace hM := hM.sub (L' := (b5, 40, [.int .i64 (k : Int), .string (mkS txt), .slice on j cn, .slice none 0 0]) :: (b4, 40, [.int .i64 0, .string (mkS []), .slice none 0 0, .slice none 0 0]) :: (b3, 27, [.int .i64 (k : Int), .int .i64 (b : Int), .int .i64 (e : Int), .slice o1 ns.length c1, .slice o2 kids.length c2]) :: (N' ++ L)) [(b56, 9, [.string (mkS (unq i))])] (pc fun x => by simp [ct, ct_append] <;> omega)
  obtain ⟨on', cn', rfl⟩ := hRn'.sl.shape
  refine mstep (.inr (by kernel_rfl)) ?_
  refine mtail 19 (by kernel_rfl) (by kernel_rfl) ?_
  simp only [List.drop_succ_cons, List.drop_zero]
  revert a; refine Mv 1 rfl (St hM 0 rfl ?_)
  clear hM; intro w hM
  refine Md 0 [0,3,4,5,6] rfl (Nb (Nx (Rg (Mv 1 rfl (Sm (((j + 1 : Nat) : Int)) rfl (by omega) (Md 1 [0,3,4,5,6] rfl ?_)))))); intro a hF
  exact ⟨j + 1, ⟨N', on', cn', hF, hM, by rw [List.take_add_one, hx, List.map_append]; simp only [Option.toList_some, List.map_cons, List.map_nil, hsub, unquote_mk]; exact hRn', hj⟩, by omega⟩
 have hjn : j = ns.length := by have := of_decide_eq_false ht; omega
 subst hjn
 rw [List.take_length] at hRn
 refine Ex (Ot (Ot (Ob (Nx (Sq (Sq (Rg (Md 1 [0,3,4,5,7] rfl (Nx (Bo (Kp [0,3,4,5,7] rfl ?_))))))))))); intro a hF
 refine loopX (fun (j : Nat) a w => ∃ K ok ck TB ys, Fr 79 [(0, .string (mkS T)), (3, .pointer (some ⟨b3, 0, none⟩)), (4, .pointer (some ⟨b4, 0, none⟩)), (5, .pointer (some ⟨b5, 0, none⟩)), (7, .int .i64 (j : Int))] a ∧ Mem B wc ((b5, 40, [.int .i64 (k : Int), .string (mkS txt), .slice on ns.length cn, .slice ok j ck]) :: (b4, 40, [.int .i64 0, .string (mkS []), .slice none 0 0, .slice none 0 0]) :: (b3, 27, [.int .i64 (k : Int), .int .i64 (b : Int), .int .i64 (e : Int), .slice o1 ns.length c1, .slice o2 kids.length c2]) :: (K ++ (TB ++ (N ++ L)))) w ∧ Row 40 4 K (.slice ok j ck) j ys ∧ RepNds TB (trees T (kids.take j)) ys ∧ j ≤ kids.length) (fun j => kids.length - j) (0) ?_ (fun j a w hI => ?_)
 · exact ⟨[], none, 0, [], [], hF, hM, .nil _ _, rfl, Nat.zero_le _⟩
 clear hF hM
 obtain ⟨K, ok, ck, TB, ys, hF, hM, hRk, hrep, hjl⟩ := hI
 revert a; refine Sq (Sq (Rg (Mv 2 rfl (Ld hM 2 rfl rfl (Md 2 [0,3,4,5,7,63] rfl (Nx (Ce rfl (fun ht => ?_) ((fun ht => ?_)))))))))
 ·
  have hjn : j = kids.length := by have := of_decide_eq_false ht; omega
  subst hjn
  rw [List.take_length] at hrep
  refine Ex (Ot (Ot (Ob (Nx (Sq (Rg ?_)))))); intro a hF
  refine op_loadA hF hM rfl 0 rfl rfl rfl Tryz.underlying40 rfl (by kernel_rfl) rfl rfl ?_; clear hF a; intro a hF
  refine op_storeA hF hM rfl 1 rfl rfl (by kernel_rfl) rfl rfl rfl rfl (rfl) ?_; clear hF hM a; intro a w  hF hM
  revert a; refine Md 0 [4] rfl (Nx (Re ?_)); intro a hF
  refine retOne hF hM rfl (.cell 1 rfl rfl Tryz.underlying40 rfl (by kernel_rfl) .nil) ⟨_, rfl, _, K ++ (TB ++ N), rfl, ?_, hM.sub [(b5, 40, [.int .i64 (k : Int), .string (mkS txt), .slice on ns.length cn, .slice ok kids.length ck]), (b4, 40, [.int .i64 (k : Int), .string (mkS txt), .slice on ns.length cn, .slice ok kids.length ck]), (b3, 27, [.int .i64 (k : Int), .int .i64 (b : Int), .int .i64 (e : Int), .slice o1 ns.length c1, .slice o2 kids.length c2])] (pc fun x => by simp [ct, ct_append] <;> omega)⟩
  simp only [tree, RepNd, ← htx]
  refine ⟨_, _, ys, rfl, ?_, ?_, RepNds.mono (by intro z hz; simp [hz]) _ _ hrep⟩
  · rw [List.length_map, List.map_map]; exact hRn.sl.mono (by intro z hz; simp [hz])
  · rw [trees_map, List.length_map]; exact hRk.sl.mono (by intro z hz; simp [hz])
 have hj : j < kids.length := by have := of_decide_eq_true ht; omega
 obtain ⟨q, hq⟩ : ∃ q, kids[j]? = some q := ⟨_, List.getElem?_eq_getElem hj⟩
 have hqm := List.mem_of_getElem? hq
 obtain ⟨g, cap, hv, hcell⟩ := hsk.row (by omega)
 have ho : o2 = some ⟨g, 0, none⟩ := by cases hv; rfl
 obtain ⟨c, hqc, hcx⟩ := hkr.at_ hq
 have hqw := hwk.at_ q hqm
 refine Sk (Nx (Sq (Bo ?_))); intro a hF
 refine mix (fun w => Mem B wc ((b5, 40, [.int .i64 (k : Int), .string (mkS txt), .slice on ns.length cn, .slice ok j ck]) :: (b4, 40, [.int .i64 0, .string (mkS []), .slice none 0 0, .slice none 0 0]) :: (b3, 27, [.int .i64 (k : Int), .int .i64 (b : Int), .int .i64 (e : Int), .slice o1 ns.length c1, .slice o2 kids.length c2]) :: (K ++ (TB ++ (N ++ L)))) w) 10 (by kernel_rfl) ?_
 replace hM := hM.drew
 generalize World.drew w = w at *
 refine mtakeP 0 hF (.inl hM) rfl (by kernel_rfl) (by kernel_rfl) (by kernel_rfl) rfl (fun _ _ _ h => h) rfl rfl (y_plain rfl (fun w _ => gives_fieldAddr hF 3 rfl rfl (field_at Tryz.underlying40 rfl rfl (by kernel_rfl)) _)) ?_; clear hF a; intro a hF
 refine mtakeL 1 hF hM rfl (by kernel_rfl) (by kernel_rfl) (by kernel_rfl) (by kernel_rfl) (by kernel_rfl) (fun _ _ _ h => h) rfl rfl (y_plain rfl (fun w hM => gives_load hF hM 0 rfl Tryz.underlying38 rfl rfl rfl rfl)) ?_; clear hF a; intro a hF
 refine mtakeP 2 hF (.inl hM) rfl (by kernel_rfl) (by kernel_rfl) (by kernel_rfl) rfl (fun _ _ _ h => h) rfl rfl (y_plain rfl (fun w _ => gives_move hF rfl rfl _)) ?_; clear hF a; intro a hF
 refine mtakeP 3 hF (.inl hM) rfl (by kernel_rfl) (by kernel_rfl) (by kernel_rfl) rfl (fun _ _ _ h => h) rfl rfl (y_plain rfl (fun w _ => gives_fieldAddr hF 4 rfl rfl (field_at Tryz.underlying27 rfl rfl (by kernel_rfl)) _)) ?_; clear hF a; intro a hF
 refine mtakeL 4 hF hM rfl (by kernel_rfl) (by kernel_rfl) (by kernel_rfl) (by kernel_rfl) (by kernel_rfl) (fun _ _ _ h => h) rfl rfl (y_plain rfl (fun w hM => gives_load hF hM 2 rfl Tryz.underlying25 rfl rfl rfl rfl)) ?_; clear hF a; intro a hF
 rw [ho] at hF
 refine mtakeP 5 hF (.inl hM) rfl (by kernel_rfl) (by kernel_rfl) (by kernel_rfl) rfl (fun _ _ _ h => h) rfl rfl (y_plain rfl (fun w _ => gives_move hF rfl rfl _)) ?_; clear hF a; intro a hF
 refine mtakeP 6 hF (.inl hM) rfl (by kernel_rfl) (by kernel_rfl) (by kernel_rfl) rfl (fun _ _ _ h => h) rfl rfl (y_plain rfl (fun w _ => gives_indexAddrS (sz := 5) (j) hF rfl Tryz.underlying25 (by kernel_rfl) rfl rfl rfl hj _)) ?_; clear hF a; intro a hF
 refine mtakeL 7 hF hM rfl (by kernel_rfl) (by kernel_rfl) (by kernel_rfl) (by kernel_rfl) (by kernel_rfl) (fun _ _ _ h => h) rfl rfl (y_plain rfl (fun w hM => gives_loadMid hF rfl rfl Tryz.underlying27 rfl (by rw [hqc.len.1]; kernel_rfl) (fun i u hi => by rw [Nat.zero_add]; exact hcell hM (by intro z hz; simp [hz]) _ u (hcx i u hi)))) ?_; clear hF a; intro a hF
 refine malone 8 rfl (by kernel_rfl) ?_
 revert a; refine Cl rfl Tryz.func69 (by kernel_rfl) rfl (hrec q hqm (RepPl.mono (by intro z hz; simp [hz]) _ _ hqc) hqw hM) ?_
 clear hM; intro w v hR
 obtain ⟨d2, TB2, rfl, hrn, hM⟩ := hR
 have hcl2 := hrn.len
 replace hM := hM.perm (L' := (b5, 40, [.int .i64 (k : Int), .string (mkS txt), .slice on ns.length cn, .slice ok j ck]) :: (b4, 40, [.int .i64 0, .string (mkS []), .slice none 0 0, .slice none 0 0]) :: (b3, 27, [.int .i64 (k : Int), .int .i64 (b : Int), .int .i64 (e : Int), .slice o1 ns.length c1, .slice o2 kids.length c2]) :: (TB2 ++ (K ++ (TB ++ (N ++ L))))) (pc fun x => by simp [ct, ct_append] <;> omega)
 intro a hF
 refine mstep (.inl (hM.sub TB2 (pc fun x => by simp [ct, ct_append] <;> omega))) ?_
 refine malone 9 rfl (by kernel_rfl) ?_
 refine op_buildS hF hM elt38 rfl rfl rfl rfl rfl (cs := d2) rfl hcl2.1 (by decide) ?_; clear hF hM a; intro a w b75 hF hM
 refine mstep (.inl (hM.sub ((b75, 40, d2) :: TB2) (pc fun x => by simp [ct, ct_append] <;> omega))) ?_
 refine malone 10 rfl (by kernel_rfl) ?_
 replace hM := hM.perm (L' := K ++ ((b75, 40, d2) :: (b5, 40, [.int .i64 (k : Int), .string (mkS txt), .slice on ns.length cn, .slice ok j ck]) :: (b4, 40, [.int .i64 0, .string (mkS []), .slice none 0 0, .slice none 0 0]) :: (b3, 27, [.int .i64 (k : Int), .int .i64 (b : Int), .int .i64 (e : Int), .slice o1 ns.length c1, .slice o2 kids.length c2]) :: (TB2 ++ (TB ++ (N ++ L))))) (pc fun x => by simp [ct, ct_append] <;> omega)
 refine op_appendR hF elt38 hRk hM (sl_one (b := b75) (e := 40) (m := 4) (cs := d2) hcl2.1) (by simp) (List.all_eq_true.1 hcl2.2) (by omega) rfl rfl rfl rfl rfl rfl ?_; clear hF hM a; intro a w K' vk hF hRk' hM
 replace hM := hM.sub (L' := (b5, 40, [.int .i64 (k : Int), .string (mkS txt), .slice on ns.length cn, .slice ok j ck]) :: (b4, 40, [.int .i64 0, .string (mkS []), .slice none 0 0, .slice none 0 0]) :: (b3, 27, [.int .i64 (k : Int), .int .i64 (b : Int), .int .i64 (e : Int), .slice o1 ns.length c1, .slice o2 kids.length c2]) :: (K' ++ (TB2 ++ TB ++ (N ++ L)))) [(b75, 40, d2)] (pc fun x => by simp [ct, ct_append] <;> omega)
 obtain ⟨ok', ck', rfl⟩ := hRk'.sl.shape
 refine mstep (.inr (by kernel_rfl)) ?_
 refine mtail 11 (by kernel_rfl) (by kernel_rfl) ?_
 simp only [List.drop_succ_cons, List.drop_zero]
 revert a; refine Mv 1 rfl (St hM 0 rfl ?_)
 clear hM; intro w hM
 refine Md 0 [0,3,4,5,7] rfl (Nb (Nx (Rg (Mv 1 rfl (Sm (((j + 1 : Nat) : Int)) rfl (by omega) (Md 1 [0,3,4,5,7] rfl ?_)))))); intro a hF
 exact ⟨j + 1, ⟨K', ok', ck', TB2 ++ TB, _, hF, hM, hRk', by rw [List.take_add_one, hq, trees_map, List.map_append, ← trees_map]; exact (RepNds.mono (List.subset_append_right _ _) _ _ hrep).append (RepNds.one (RepNd.mono (List.subset_append_left _ _) _ _ hrn)), hj⟩, by omega⟩
theorem tree_walk {T : Str} (hT : T.length ≤ 2 ^ 37) : ∀ p : Js.Place, TREE T p
  | .mk k b e ns kids => tree_step hT k b e ns kids (fun q hq => tree_walk hT q)
  termination_by p => SizeOf.sizeOf p
  decreasing_by have := List.sizeOf_lt_of_mem hq; simp_wf; omega
end Go.Sx
namespace Go.Sx
open Go.RowKit Go.Proofs Js Go.Proofs.YtelonenjneonlaaGreatDoorW.PrintWords
def RdOut (w0 : World) : Option Nd → Value → World → Prop
  | some n, v, w' => ∃ ns TB, v = .tuple #[.agg ns.toArray, .bool true] ∧ RepNd TB n ns ∧ Mem w0.heap.size w0 TB w'
  | none, v, w' => v = .tuple #[.agg [.int .i64 0, .string (mkS []), .slice none 0 0, .slice none 0 0].toArray, .bool false] ∧ Below w0.heap.size w0 w'
set_option maxRecDepth 100000 in
theorem read_walk {T : Str} (hT : T.length ≤ 2 ^ 37) (w0 : World) :
    Calls Tryz.prog 42 #[.string (mkS T)] w0 (Ret fun v w' => RdOut w0 ((pText T).map (tree T)) v w') := by
 have hM : Mem w0.heap.size w0 [] w0 := Mem.start (Nat.le_refl _)
 refine enter (l := [.string (mkS T)]) 16 Tryz.func42 rfl rfl (fun a hF => ?_)
 replace hF : Fr 17 [(0, .string (mkS T))] a := hF
 refine seq (region ?_)
 refine op_alloc hF hM rfl (vs := [.int .i64 0, .string (mkS []), .slice none 0 0, .slice none 0 0]) rfl rfl rfl (by kernel_rfl) ?_; clear hF hM a; intro a w b2 hF hM
 revert a; refine Md 1 [0,2] rfl (Nx (Sq ?_))
 rcases hp : pText T with _ | p
 ·
  refine Rg (Mv 1 rfl (Cl rfl Tryz.func47 (by kernel_rfl) rfl (places_walk (T := T) (by omega) w) ?_))
  intro w2 v hR
  rw [hp] at hR
  obtain ⟨x, y, z, rfl, hBe⟩ := hR
  replace hM := hM.step hBe
  clear hBe
  refine Mv 3 rfl ?_; intro a hF
  refine op_alloc hF hM rfl (vs := [.int .i64 0, .int .i64 0, .int .i64 0, .slice none 0 0, .slice none 0 0]) rfl rfl rfl (by kernel_rfl) ?_; clear hF hM a; intro a w b4 hF hM
  refine op_storeA hF hM rfl 0 rfl rfl (by kernel_rfl) rfl rfl rfl rfl (rfl) ?_; clear hF hM a; intro a w  hF hM
  revert a; refine Md 1 [0,2,4,5] rfl (Nx (Sq (Sq (Rg (Md 2 [0,2,4,12] rfl (Nx (Ct rfl (Sq (Rg (Gv rfl (fun _ hF => gives_build (parts := []) (vals := []) (cells := [.int .i64 0, .string (mkS []), .slice none 0 0, .slice none 0 0]) hF rfl rfl (by kernel_rfl) _) ?_)))))))))); intro a hF
  refine op_storeA hF hM rfl 1 rfl rfl (by kernel_rfl) rfl rfl rfl rfl (rfl) ?_; clear hF hM a; intro a w  hF hM
  revert a; refine Md 1 [2,3] rfl (Nx (Re (Rt ?_))); intro a hF
  refine retMany (vs := [_, _]) hF hM rfl rfl (.cell 1 rfl rfl Tryz.underlying40 rfl (by kernel_rfl) (.tmp rfl .nil)) ⟨_, rfl, ?_⟩
  exact ⟨rfl, hM.below⟩
 refine Rg (Mv 1 rfl (Cl rfl Tryz.func47 (by kernel_rfl) rfl (places_walk (T := T) (by omega) w) ?_))
 intro w2 v hR
 rw [hp] at hR
 obtain ⟨cs, TB, rfl, hcs, hM2⟩ := hR
 replace hM := (hM.join hM2).perm (L' := (b2, 40, [.int .i64 0, .string (mkS []), .slice none 0 0, .slice none 0 0]) :: TB) (pc fun x => by simp [ct, ct_append] <;> omega)
 clear hM2
 have hcl := hcs.len
 obtain ⟨k1, k2, k3, o1, l1, c1, o2, l2, c2, rfl⟩ := hcs.shape
 refine Mv 3 rfl ?_; intro a hF
 refine op_alloc hF hM rfl (vs := [.int .i64 0, .int .i64 0, .int .i64 0, .slice none 0 0, .slice none 0 0]) rfl rfl rfl (by kernel_rfl) ?_; clear hF hM a; intro a w b4 hF hM
 refine op_storeA hF hM rfl 0 rfl rfl (by kernel_rfl) rfl rfl rfl rfl (rfl) ?_; clear hF hM a; intro a w  hF hM
 revert a; refine Md 1 [0,2,4,5] rfl (Nx (Sq (Sq (Rg (Md 2 [0,2,4,12] rfl (Nx (Cf rfl (Sk (Nx (Sq (Rg (Mv 1 rfl ?_)))))))))))); intro a hF
 refine op_loadA hF hM rfl 0 rfl rfl rfl Tryz.underlying27 rfl (by kernel_rfl) rfl rfl ?_; clear hF a; intro a hF
 revert a; refine Cl rfl Tryz.func69 (by kernel_rfl) rfl (tree_walk hT p (RepPl.mono (by intro z hz; simp [hz]) _ _ hcs) (text_wf hp) hM) ?_
 clear hM; intro w v hR
 obtain ⟨d2, TB2, rfl, hrn, hM⟩ := hR
 have hcl2 := hrn.len
 obtain ⟨j1, jt, p1, m1, e1, p2, m2, e2, rfl⟩ := hrn.shape
 replace hM := hM.perm (L' := (b2, 40, [.int .i64 0, .string (mkS []), .slice none 0 0, .slice none 0 0]) :: (b4, 27, [.int .i64 k1, .int .i64 k2, .int .i64 k3, .slice o1 l1 c1, .slice o2 l2 c2]) :: (TB2 ++ TB)) (pc fun x => by simp [ct, ct_append] <;> omega)
 intro a hF
 refine op_storeA hF hM rfl 0 rfl rfl (by kernel_rfl) rfl rfl rfl rfl (rfl) ?_; clear hF hM a; intro a w  hF hM
 revert a; refine Md 1 [2,3] rfl (Nx (Re ?_)); intro a hF
 refine retMany (vs := [_, _]) hF hM rfl rfl (.cell 0 rfl rfl Tryz.underlying40 rfl (by kernel_rfl) (.tmp rfl .nil)) ⟨_, rfl, ?_⟩
 exact ⟨_, TB2, rfl, hrn, hM.sub ((b2, 40, [.int .i64 j1, .string (mkS jt), .slice p1 m1 e1, .slice p2 m2 e2]) :: (b4, 27, [.int .i64 k1, .int .i64 k2, .int .i64 k3, .slice o1 l1 c1, .slice o2 l2 c2]) :: TB) (pc fun x => by simp [ct, ct_append] <;> omega)⟩
end Go.Sx
namespace Go.Sx
open Go.RowKit Go.Proofs Js Go.Proofs.YtelonenjneonlaaGreatDoorW.PrintWords
theorem char_walk (s : Str) (i : Nat) (hi : i < s.length) (hl : s.length ≤ 2 ^ 41) (w0 : World) :
    Calls Tryz.prog 90 #[.string (mkS s), .int .i64 (i : Int)] w0 (Ret fun v w' => (∃ (x : Int) (n : Nat) (b : Bool), v = .tuple #[.int .i64 x, .int .i64 (n : Int), .bool b] ∧ 1 ≤ n ∧ (b = true → i + n ≤ s.length)) ∧ Below w0.heap.size w0 w') := by
 have hM : Mem w0.heap.size w0 [] w0 := Mem.start (Nat.le_refl _)
 obtain ⟨c, hg⟩ : ∃ c, s[i]? = some c := ⟨_, List.getElem?_eq_getElem hi⟩
 have hc := c.toNat_lt
 refine enter (l := [.string (mkS s), .int .i64 (i : Int)]) 91 Tryz.func90 rfl rfl (fun a hF => ?_)
 replace hF : Fr 93 [(0, .string (mkS s)), (1, .int .i64 (i : Int))] a := hF
 revert a; refine Sq (Rg (Md 3 [0,1] rfl (Nx (Sq (Rg (Mv 2 rfl ?_)))))); intro a hF
 refine op_index_str hF rfl (i) c rfl rfl rfl Tryz.underlying9 rfl rfl (by first | rfl | omega) hg ?_; clear hF a; intro a hF
 revert a; refine Gv rfl (fun _ hF => gives_conv hF rfl Tryz.underlying5 Tryz.underlying3 rfl ((c.toNat : Int)) (IntWalk.i64_in _ ⟨by omega, by omega⟩) _) (Md 1 [0,1,7] rfl (Nx (Sq (Rg (Md 2 [0,1,7] rfl (Nx ?_)))))); intro a hF
 refine cutF (fun a w => ∃ (u k : Nat) (m : Int), Fr 93 [(0, .string (mkS s)), (1, .int .i64 (i : Int)), (7, .int .i64 (u : Int)), (8, .int .i64 (k : Int)), (9, .int .i64 m)] a ∧ Mem w0.heap.size w0 [] w ∧ 1 ≤ k ∧ k ≤ 3 ∧ u ≤ 31) (fun a w h => ?_) ?_
 ·
  clear hF hM
  obtain ⟨u0, k, m, hF, hM, hk1, hk3, hu0⟩ := h
  revert a; refine Sq (Sq (Rg (Mv 3 rfl (Sm ((s.length : Int) - (i : Int)) rfl (by omega) (Md 2 [0,1,7,8,9,52] rfl (Nx (C2 rfl ?_ ((fun ht => ?_)))))))))
  · exact Sq (Rg (Md 3 [4,5,6] rfl (Nx (Re (Rt (Y3 rfl rfl rfl rfl ⟨_, rfl, ⟨_, 1, _, rfl, Nat.le_refl _, fun h => by cases h⟩, hM.below⟩))))))
  have hlen : i + k < s.length := by have := of_decide_eq_false ht; omega
  refine Sk (Nx (Sq (Sq (Rg (Md 1 [0,1,7,8,9,10] rfl (Nx (Bo (Kp [0,1,7,8,9,10] rfl ?_)))))))); intro a hF
  refine loopX (fun (z : Nat × Nat) a w => Fr 93 [(0, .string (mkS s)), (1, .int .i64 (i : Int)), (7, .int .i64 (z.2 : Int)), (8, .int .i64 (k : Int)), (9, .int .i64 m), (10, .int .i64 (z.1 : Int))] a ∧ Mem w0.heap.size w0 [] w ∧ 1 ≤ z.1 ∧ z.1 ≤ k + 1 ∧ (z.1 = 1 → z.2 ≤ 31) ∧ (z.1 = 2 → z.2 ≤ 2047) ∧ (z.1 = 3 → z.2 ≤ 131071) ∧ (z.1 = 4 → z.2 ≤ 8388607)) (fun z => 4 - z.1) ((1, u0)) ?_ (fun z a w hI => ?_)
  · exact ⟨hF, hM, by simp only; omega, by simp only; omega, by simp only; omega, by simp only; omega, by simp only; omega, by simp only; omega⟩
  clear hF hM
  obtain ⟨j, u⟩ := z
  obtain ⟨hF, hM, hj1, hjk, hb1, hb2, hb3, hb4⟩ := hI
  simp only at hF hj1 hjk hb1 hb2 hb3 hb4
  revert a; refine Sq (Sq (Rg (Md 3 [0,1,7,8,9,10,55] rfl (Nx (Cd rfl (fun ht => ?_) ((fun ht => ?_)))))))
  ·
   have hj : j ≤ k := by have := of_decide_eq_true ht; omega
   obtain ⟨x, hgx⟩ : ∃ x, s[i + j]? = some x := ⟨_, List.getElem?_eq_getElem (by omega)⟩
   have hx := x.toNat_lt
   refine Sk (Nx (Sq (Bo (Sq (Rg (Mv 3 rfl (Sm (((i + j : Nat) : Int)) rfl (by omega) ?_))))))); intro a hF
   refine op_index_str hF rfl ((i + j)) x rfl rfl rfl Tryz.underlying9 rfl rfl (by first | rfl | omega) hgx ?_; clear hF a; intro a hF
   revert a; refine Gv rfl (fun _ hF => gives_conv hF rfl Tryz.underlying5 Tryz.underlying3 rfl ((x.toNat : Int)) (IntWalk.i64_in _ ⟨by omega, by omega⟩) _) (Md 1 [0,1,7,8,9,10,11] rfl (Nx (Sq (Sq ?_))))
   rcases Nat.lt_or_ge x.toNat 128 with hx1 | hx1
   · exact Rg (Mv 1 rfl (Bv rfl rfl (decide_eq_true (show (x.toNat : Int) < 128 by omega)) (Md 4 [0,1,7,8,9,10,11,69] rfl (Nx (Ct rfl (Sq (Rg (Md 3 [4,5,6] rfl (Nx (Re (Rt (Rb (Rt (Rt (Rb (Rt (Y3 rfl rfl rfl rfl ⟨_, rfl, ⟨_, 1, _, rfl, Nat.le_refl _, fun h => by cases h⟩, hM.below⟩)))))))))))))))))
   refine Rg (Mv 1 rfl (Bv rfl rfl (decide_eq_false (show ¬ ((x.toNat : Int) < 128) by omega)) (Md 4 [0,1,7,8,9,10,11,69] rfl (Nx (C2 rfl ?_ ((fun ht => ?_)))))))
   · exact Sq (Rg (Md 3 [4,5,6] rfl (Nx (Re (Rt (Rb (Rt (Rt (Rb (Rt (Y3 rfl rfl rfl rfl ⟨_, rfl, ⟨_, 1, _, rfl, Nat.le_refl _, fun h => by cases h⟩, hM.below⟩)))))))))))
   have hx2 : x.toNat ≤ 191 := by have := of_decide_eq_false ht; omega
   refine Sk (Nx (Rg (Mv 1 rfl (Sm (((u * 64 : Nat) : Int)) rfl (by omega) (Mv 1 rfl (Sm (((u * 64 + x.toNat : Nat) : Int)) rfl (by omega) (Sm (((u * 64 + x.toNat - 128 : Nat) : Int)) rfl (by omega) (Md 1 [0,1,7,8,9,10] rfl (Nb (Nx (Rg (Mv 1 rfl (Sm (((j + 1 : Nat) : Int)) rfl (by omega) (Md 1 [0,1,7,8,9,10] rfl ?_)))))))))))))); intro a hF
   exact ⟨(j + 1, u * 64 + x.toNat - 128), ⟨hF, hM, by simp only; omega, by simp only; omega, by simp only; omega, by simp only; omega, by simp only; omega, by simp only; omega⟩, by simp only; omega⟩
  have hj : j = k + 1 := by have := of_decide_eq_false ht; omega
  refine Ex (Ot (Ot (Ob (Nx (Sq (Sq ?_))))))
  rcases Classical.em ((u : Int) < m) with h1 | h1
  ·
   refine Rg (Mv 3 rfl ?_); intro a hF
   rw [decide_eq_true h1] at hF
   revert a; exact Md 12 [7,8,89] rfl (Nx (Ct rfl (Sq (Rg (Md 3 [4,5,6] rfl (Nx (Re (Rt (Y3 rfl rfl rfl rfl ⟨_, rfl, ⟨_, 1, _, rfl, Nat.le_refl _, fun h => by cases h⟩, hM.below⟩)))))))))
  rcases Classical.em ((u : Int) > 1114111) with h2 | h2
  ·
   refine Rg (Mv 3 rfl ?_); intro a hF
   rw [decide_eq_false h1] at hF
   revert a; refine Mv 3 rfl ?_; intro a hF
   rw [decide_eq_true h2] at hF
   revert a; exact Md 9 [7,8,89] rfl (Nx (Ct rfl (Sq (Rg (Md 3 [4,5,6] rfl (Nx (Re (Rt (Y3 rfl rfl rfl rfl ⟨_, rfl, ⟨_, 1, _, rfl, Nat.le_refl _, fun h => by cases h⟩, hM.below⟩)))))))))
  rcases hh : high u with _ | _
  ·
   refine Rg (Mv 3 rfl ?_); intro a hF
   rw [decide_eq_false h1] at hF
   revert a; refine Mv 3 rfl ?_; intro a hF
   rw [decide_eq_false h2] at hF
   revert a; refine Mv 3 rfl (Cm hM rfl Tryz.func77 (by kernel_rfl) rfl (high_walk u _) ?_)
   clear hM; intro w v hR hM hBe
   obtain rfl := hR
   intro a hF
   rw [hh] at hF
   revert a; refine Mv 3 rfl (Cm hM rfl Tryz.func78 (by kernel_rfl) rfl (low_walk u _) ?_)
   clear hM; intro w v hR hM hBe
   obtain rfl := hR
   refine Md 1 [7,8,89] rfl (Nx (C0 rfl ?_ ?_))
   ·
    refine Sq (Rg (Md 3 [4,5,6] rfl (Nx (Re (Rt ?_))))); intro a hF
    first | exact ret3 hF rfl rfl rfl rfl ⟨_, rfl, ⟨_, k + 1, _, rfl, by omega, fun _ => by omega⟩, hM.below⟩ | exact ret3 hF rfl rfl rfl rfl ⟨_, rfl, ⟨_, 1, _, rfl, Nat.le_refl _, fun h => by cases h⟩, hM.below⟩
   refine Sk (Nx (Sq (Rg (Mv 2 rfl (Sm (((k + 1 : Nat) : Int)) rfl (by omega) (Md 3 [4,5,6] rfl (Nx (Re ?_)))))))); intro a hF
   first | exact ret3 hF rfl rfl rfl rfl ⟨_, rfl, ⟨_, k + 1, _, rfl, by omega, fun _ => by omega⟩, hM.below⟩ | exact ret3 hF rfl rfl rfl rfl ⟨_, rfl, ⟨_, 1, _, rfl, Nat.le_refl _, fun h => by cases h⟩, hM.below⟩
  refine Rg (Mv 3 rfl ?_); intro a hF
  rw [decide_eq_false h1] at hF
  revert a; refine Mv 3 rfl ?_; intro a hF
  rw [decide_eq_false h2] at hF
  revert a; refine Mv 3 rfl (Cm hM rfl Tryz.func77 (by kernel_rfl) rfl (high_walk u _) ?_)
  clear hM; intro w v hR hM hBe
  obtain rfl := hR
  intro a hF
  rw [hh] at hF
  revert a; refine Md 5 [7,8,89] rfl (Nx (Ct rfl (Sq (Rg (Md 3 [4,5,6] rfl (Nx (Re (Rt ?_)))))))); intro a hF
  first | exact ret3 hF rfl rfl rfl rfl ⟨_, rfl, ⟨_, k + 1, _, rfl, by omega, fun _ => by omega⟩, hM.below⟩ | exact ret3 hF rfl rfl rfl rfl ⟨_, rfl, ⟨_, 1, _, rfl, Nat.le_refl _, fun h => by cases h⟩, hM.below⟩
 revert a; refine Bo (Sq ?_)
 rcases (show c.toNat < 128 ∨ (128 ≤ c.toNat ∧ c.toNat ≤ 193) ∨ (194 ≤ c.toNat ∧ c.toNat ≤ 223) ∨ (224 ≤ c.toNat ∧ c.toNat ≤ 239) ∨ (240 ≤ c.toNat ∧ c.toNat ≤ 244) ∨ 245 ≤ c.toNat by omega) with hk | hk | hk | hk | hk | hk
 · exact Rg (Mv 1 rfl (Bv rfl rfl (decide_eq_true (show (c.toNat : Int) < 128 by omega)) (Md 1 [0,1,7,16] rfl (Nx (Ct rfl (Sq (Rg (Md 4 [4,5,6] rfl (Nx (Re (Rb (Rt (Y3 rfl rfl rfl rfl ⟨_, rfl, ⟨_, 1, _, rfl, Nat.le_refl _, fun _ => hi⟩, hM.below⟩)))))))))))))
 · exact Rg (Mv 1 rfl (Bv rfl rfl (decide_eq_false (show ¬ ((c.toNat : Int) < 128) by omega)) (Md 1 [0,1,7,16] rfl (Nx (Cf rfl (Sq (Rg (Mv 1 rfl (Bv rfl rfl (decide_eq_false (show ¬ ((194 : Int) ≤ (c.toNat : Int)) by omega)) (Md 5 [0,1,7,20] rfl (Nx (Cf rfl (Sq (Rg (Mv 1 rfl (Bv rfl rfl (decide_eq_false (show ¬ ((224 : Int) ≤ (c.toNat : Int)) by omega)) (Md 5 [0,1,7,29] rfl (Nx (Cf rfl (Sq (Rg (Mv 1 rfl (Bv rfl rfl (decide_eq_false (show ¬ ((240 : Int) ≤ (c.toNat : Int)) by omega)) (Md 5 [0,1,7,38] rfl (Nx (Cf rfl (Sq (Rg (Md 3 [4,5,6] rfl (Nx (Re (Rb (Rt (Y3 rfl rfl rfl rfl ⟨_, rfl, ⟨_, 1, _, rfl, Nat.le_refl _, fun h => by cases h⟩, hM.below⟩))))))))))))))))))))))))))))))))))
 ·
  refine Rg (Mv 1 rfl (Bv rfl rfl (decide_eq_false (show ¬ ((c.toNat : Int) < 128) by omega)) (Md 1 [0,1,7,16] rfl (Nx (Cf rfl (Sq (Rg (Mv 1 rfl (Bv rfl rfl (decide_eq_true (show (194 : Int) ≤ (c.toNat : Int) by omega)) (Mv 2 rfl (Bv rfl rfl (decide_eq_true (show (c.toNat : Int) ≤ 223 by omega)) (Md 2 [0,1,7,20] rfl (Nx (Ct rfl (Rg (Mv 1 rfl (Sm (((c.toNat - 192 : Nat) : Int)) rfl (by omega) (Md 3 [0,1,7,8,9] rfl (Nb (Kp [0,1,7,8,9] rfl ?_)))))))))))))))))))); intro a hF
  first | exact ⟨_, 1, _, hF, hM, by omega, by omega, by omega⟩ | exact ⟨_, 2, _, hF, hM, by omega, by omega, by omega⟩ | exact ⟨_, 3, _, hF, hM, by omega, by omega, by omega⟩
 ·
  refine Rg (Mv 1 rfl (Bv rfl rfl (decide_eq_false (show ¬ ((c.toNat : Int) < 128) by omega)) (Md 1 [0,1,7,16] rfl (Nx (Cf rfl (Sq (Rg (Mv 1 rfl (Bv rfl rfl (decide_eq_true (show (194 : Int) ≤ (c.toNat : Int) by omega)) (Mv 2 rfl (Bv rfl rfl (decide_eq_false (show ¬ ((c.toNat : Int) ≤ 223) by omega)) (Md 2 [0,1,7,20] rfl (Nx (Cf rfl (Sq (Rg (Mv 1 rfl (Bv rfl rfl (decide_eq_true (show (224 : Int) ≤ (c.toNat : Int) by omega)) (Mv 2 rfl (Bv rfl rfl (decide_eq_true (show (c.toNat : Int) ≤ 239 by omega)) (Md 2 [0,1,7,29] rfl (Nx (Ct rfl (Rg (Mv 1 rfl (Sm (((c.toNat - 224 : Nat) : Int)) rfl (by omega) (Md 3 [0,1,7,8,9] rfl (Nb (Kp [0,1,7,8,9] rfl ?_))))))))))))))))))))))))))))); intro a hF
  first | exact ⟨_, 1, _, hF, hM, by omega, by omega, by omega⟩ | exact ⟨_, 2, _, hF, hM, by omega, by omega, by omega⟩ | exact ⟨_, 3, _, hF, hM, by omega, by omega, by omega⟩
 ·
  refine Rg (Mv 1 rfl (Bv rfl rfl (decide_eq_false (show ¬ ((c.toNat : Int) < 128) by omega)) (Md 1 [0,1,7,16] rfl (Nx (Cf rfl (Sq (Rg (Mv 1 rfl (Bv rfl rfl (decide_eq_true (show (194 : Int) ≤ (c.toNat : Int) by omega)) (Mv 2 rfl (Bv rfl rfl (decide_eq_false (show ¬ ((c.toNat : Int) ≤ 223) by omega)) (Md 2 [0,1,7,20] rfl (Nx (Cf rfl (Sq (Rg (Mv 1 rfl (Bv rfl rfl (decide_eq_true (show (224 : Int) ≤ (c.toNat : Int) by omega)) (Mv 2 rfl (Bv rfl rfl (decide_eq_false (show ¬ ((c.toNat : Int) ≤ 239) by omega)) (Md 2 [0,1,7,29] rfl (Nx (Cf rfl (Sq (Rg (Mv 1 rfl (Bv rfl rfl (decide_eq_true (show (240 : Int) ≤ (c.toNat : Int) by omega)) (Mv 2 rfl (Bv rfl rfl (decide_eq_true (show (c.toNat : Int) ≤ 244 by omega)) (Md 2 [0,1,7,38] rfl (Nx (Ct rfl (Rg (Mv 1 rfl (Sm (((c.toNat - 240 : Nat) : Int)) rfl (by omega) (Md 3 [0,1,7,8,9] rfl (Nb (Kp [0,1,7,8,9] rfl ?_)))))))))))))))))))))))))))))))))))))); intro a hF
  first | exact ⟨_, 1, _, hF, hM, by omega, by omega, by omega⟩ | exact ⟨_, 2, _, hF, hM, by omega, by omega, by omega⟩ | exact ⟨_, 3, _, hF, hM, by omega, by omega, by omega⟩
 exact Rg (Mv 1 rfl (Bv rfl rfl (decide_eq_false (show ¬ ((c.toNat : Int) < 128) by omega)) (Md 1 [0,1,7,16] rfl (Nx (Cf rfl (Sq (Rg (Mv 1 rfl (Bv rfl rfl (decide_eq_true (show (194 : Int) ≤ (c.toNat : Int) by omega)) (Mv 2 rfl (Bv rfl rfl (decide_eq_false (show ¬ ((c.toNat : Int) ≤ 223) by omega)) (Md 2 [0,1,7,20] rfl (Nx (Cf rfl (Sq (Rg (Mv 1 rfl (Bv rfl rfl (decide_eq_true (show (224 : Int) ≤ (c.toNat : Int) by omega)) (Mv 2 rfl (Bv rfl rfl (decide_eq_false (show ¬ ((c.toNat : Int) ≤ 239) by omega)) (Md 2 [0,1,7,29] rfl (Nx (Cf rfl (Sq (Rg (Mv 1 rfl (Bv rfl rfl (decide_eq_true (show (240 : Int) ≤ (c.toNat : Int) by omega)) (Mv 2 rfl (Bv rfl rfl (decide_eq_false (show ¬ ((c.toNat : Int) ≤ 244) by omega)) (Md 2 [0,1,7,38] rfl (Nx (Cf rfl (Sq (Rg (Md 3 [4,5,6] rfl (Nx (Re (Rb (Rt (Y3 rfl rfl rfl rfl ⟨_, rfl, ⟨_, 1, _, rfl, Nat.le_refl _, fun h => by cases h⟩, hM.below⟩))))))))))))))))))))))))))))))))))))))))
theorem utf8_walk (s : Str) (hl : s.length ≤ 2 ^ 41) (w0 : World) :
    Calls Tryz.prog 66 #[.string (mkS s)] w0 (Ret fun v w' => (∃ b : Bool, v = .bool b) ∧ Below w0.heap.size w0 w') := by
 have hM : Mem w0.heap.size w0 [] w0 := Mem.start (Nat.le_refl _)
 refine enter (l := [.string (mkS s)]) 22 Tryz.func66 rfl rfl (fun a hF => ?_)
 replace hF : Fr 23 [(0, .string (mkS s))] a := hF
 revert a; refine Sq (Rg (Md 1 [0] rfl (Nx (Sq (Sq (Rg (Md 1 [0,3] rfl (Nx (Bo (Kp [0,3] rfl ?_)))))))))); intro a hF
 refine loopX (fun (i : Nat) a w => Fr 23 [(0, .string (mkS s)), (3, .int .i64 (i : Int))] a ∧ Mem w0.heap.size w0 [] w ∧ i ≤ s.length) (fun i => s.length - i) (0) ?_ (fun i a w hI => ?_)
 · exact ⟨hF, hM, Nat.zero_le _⟩
 clear hF hM
 obtain ⟨hF, hM, hil⟩ := hI
 revert a; refine Sq (Sq (Rg (Md 4 [0,3,10] rfl (Nx (D1 rfl ?_ ((fun ht => ?_)))))))
 · exact Ex (Ot (Ot (Ob (Nx (Sq (Rg (Md 1 [2] rfl (Nx (Re (Y1 rfl rfl ⟨_, rfl, ⟨_, rfl⟩, hM.below⟩))))))))))
 have hi : i < s.length := by have := of_decide_eq_true ht; omega
 refine Sk (Nx (Bo (Sq (Rg (Mv 2 rfl (Cm hM rfl Tryz.func90 (by kernel_rfl) rfl (char_walk s i hi (by omega) _) ?_))))))
 clear hM; intro w v hR hM hBe
 obtain ⟨x, n, b, rfl, hn1, hn2⟩ := hR
 refine Md 7 [0,3,5,6] rfl (Nx (Sq (Sq (Rg (Md 2 [0,3,5,19] rfl (Nx (C2 rfl ?_ ((fun ht => ?_)))))))))
 · exact Sq (Rg (Md 1 [2] rfl (Nx (Re (Rt (Rb (Rt (Rb (Rt (Y1 rfl rfl ⟨_, rfl, ⟨_, rfl⟩, hM.below⟩))))))))))
 have hb : b = true := by simpa using ht
 intro a hF
 replace hn2 := hn2 hb
 revert a; refine Sk (Nx (Rg (Mv 2 rfl (Sm (((i + n : Nat) : Int)) rfl (by omega) (Md 1 [0,3] rfl (Nb (Kp [0,3] rfl ?_))))))); intro a hF
 exact ⟨i + n, ⟨hF, hM, hn2⟩, by omega⟩
end Go.Sx
