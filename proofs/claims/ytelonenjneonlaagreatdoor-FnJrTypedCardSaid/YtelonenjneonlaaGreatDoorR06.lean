/- Part 6 of the proof of FnJrTyped: the statement Rows.FnJrTypedCardSaid; no further condition. -/
import Derived.Test.YtelonenjneonlaaGreatDoorR05
import Derived.Laws.Externs
import Derived.Lib.BytesEntry
set_option linter.all false
namespace Js
inductive El:Str→List (Nat×Str×Nd)→Prop where
  | one {w1 t w2 r:Str}{n:Nd}(h1:Bl w1) (h:Shows t (.v n)) (h2:Bl w2):El (w1++(t++(w2++93::r))) [(w1.length,t,n)]
  | more {w1 t w2 r:Str}{n:Nd}{l:List (Nat×Str×Nd)}(h1:Bl w1) (h:Shows t (.v n)) (h2:Bl w2) (hr:El r l):
      El (w1++(t++(w2++44::r))) ((w1.length,t,n)::l.map fun x=>(w1.length+t.length+w2.length+1+x.1,x.2))
inductive Sk:List Str→Nat→Nat→Bool→Str→Nat→Prop where
  | plain {ks:List Str}{L K:Nat}{lm:Bool}{c:UInt8}{r:Str}{R:Nat}(h:c≠34∧c≠123∧c≠125∧c≠91∧c≠58) (hr:Sk ks L K lm r R):Sk ks L K lm (c::r) (R+1)
  | text {ks:List Str}{L K:Nat}{lm:Bool}{i w:Str}{c:UInt8}{r:Str}{R:Nat}(hi:Quo i) (hw:Bl w) (hc:isBlank c=false) (h58:c≠58) (hr:Sk ks L K lm (c::r) R):
      Sk ks L K lm (34::(i++34::(w++c::r))) (R+(i.length+2+w.length))
  | hit {ks:List Str}{K:Nat}{lm:Bool}{i w r:Str}(hi:Ins i) (hw:Bl w) (hk:ks[K]?=some (unq i)) (hl:K+1=ks.length):
      Sk ks (K+1) K lm (34::(i++34::(w++58::r))) (i.length+2+w.length+1)
  | go {ks:List Str}{K:Nat}{lm:Bool}{i w r:Str}{R:Nat}(hi:Ins i) (hw:Bl w) (hk:ks[K]?=some (unq i)) (hl:K+1<ks.length) (hr:Sk ks (K+1) (K+1) true r R):
      Sk ks (K+1) K lm (34::(i++34::(w++58::r))) (R+(i.length+2+w.length+1))
  | miss {ks:List Str}{K:Nat}{lm:Bool}{i w r k:Str}{R:Nat}(hi:Ins i) (hw:Bl w) (hk:ks[K]?=some k) (hne:unq i≠k) (hr:Sk ks (K+1) K false r R):
      Sk ks (K+1) K lm (34::(i++34::(w++58::r))) (R+(i.length+2+w.length+1))
  | opn {ks:List Str}{L K:Nat}{r:Str}{R:Nat}(hr:Sk ks (L+1) K true r R):Sk ks L K true (123::r) (R+1)
  | obj {ks:List Str}{L K k:Nat}{r:Str}{R:Nat}(hn:Nst 123 125 0 (123::r) k) (hr:Sk ks L K false ((123::r).drop k) R):Sk ks L K false (123::r) (R+k)
  | arr {ks:List Str}{L K k:Nat}{lm:Bool}{r:Str}{R:Nat}(hK:K<L) (hn:Nst 91 93 0 (91::r) k) (hr:Sk ks L K lm ((91::r).drop k) R):Sk ks L K lm (91::r) (R+k)
  | idx0 {ks:List Str}{L:Nat}{lm:Bool}{u ds:Str}{items:List (Nat×Str×Nd)}{o:Nat}{v:Str}{n:Nd}(hk:ks[L]?=some (91::(ds++ [93]))) (hd:idxok ds=true) (hd8:ds.length≤18) (he:El u items) (hv:items[worth ds]?=some (o,v,n))
      (hl:ks.length=L+1):Sk ks L L lm (91::u) (1+o)
  | idx {ks:List Str}{L:Nat}{lm:Bool}{u ds:Str}{items:List (Nat×Str×Nd)}{o R:Nat}{v:Str}{n:Nd}(hk:ks[L]?=some (91::(ds++ [93]))) (hd:idxok ds=true) (hd8:ds.length≤18) (he:El u items) (hv:items[worth ds]?=some (o,v,n))
      (hl:L+1<ks.length) (hr:Sk (ks.drop (L+1)) 0 0 true v R):Sk ks L L lm (91::u) (1+o+R)
def plc (c:UInt8):Prop:=c≠34∧c≠123∧c≠125∧c≠91∧c≠58
instance (c:UInt8):Decidable (plc c):=by unfold plc;infer_instance
theorem sk_plains {ks:List Str}{L K:Nat}{lm:Bool}{r:Str}{R:Nat}(hr:Sk ks L K lm r R):∀ (t:Str),(∀ c∈t,plc c)→Sk ks L K lm (t++r) (R+t.length)
  | [],_=>hr
  | c :: t, h => by
    have:=Sk.plain (h c (by simp)) (sk_plains hr t fun x hx=>h x (by simp [hx]))
    rw [List.cons_append,List.length_cons,←Nat.add_assoc];exact this
theorem bl_plc {w:Str}(hw:Bl w):∀ c∈w,plc c:=by
  intro c hc
  have:=hw c hc
  simp only [isBlank,Bool.or_eq_true,beq_iff_eq] at this
  rcases this with ((rfl | rfl) | rfl) | rfl <;> decide
theorem numc_plc {c:UInt8}(h:numc c=true):plc c:=by
  simp only [numc,Bool.or_eq_true,beq_iff_eq] at h
  rcases h with ((((h | rfl) | rfl) | rfl) | rfl) | rfl
  · exact ⟨isDig_ne h (by decide),isDig_ne h (by decide),isDig_ne h (by decide),isDig_ne h (by decide),isDig_ne h (by decide)⟩
  all_goals decide
theorem sk_bl {ks:List Str}{L K:Nat}{lm:Bool}{r:Str}{R:Nat}(hr:Sk ks L K lm r R) {w:Str}(hw:Bl w):Sk ks L K lm (w++r) (R+w.length):=sk_plains hr w (bl_plc hw)
theorem sk_pass {t:Str}{n:Nd}(h:Shows t (.v n)) {ks:List Str}{L K:Nat}(hK:K<L) {w:Str}(hw:Bl w) {c:UInt8}{r:Str}{R:Nat}(hc:isBlank c=false) (h58:c≠58) (hr:Sk ks L K false (c::r) R):
    Sk ks L K false (t++(w++c::r)) (R+w.length+t.length):=by
  have hb:=sk_bl hr hw
  have ha:∀ {txt:Str}{ks':List Str}{l:List Nd},Shows t (.v (.mk 5 txt ks' l))→(∃ t',t=91::t')→Sk ks L K false (t++(w++c::r)) (R+w.length+t.length):=by
    rintro txt ks' l h5 ⟨t',rfl⟩
    have:=nst_value h5 (.inl ⟨rfl,rfl,rfl⟩) (w++c::r)
    have e:(91::(t'++(w++c::r))).drop (91::t').length=w++c::r:=List.drop_left (l₁:=91::t')
    exact Sk.arr hK this (by rw [show (91::t'.append (w++c::r))=91::(t'++(w++c::r)) from rfl,e];exact hb)
  have ho:∀ {txt:Str}{ks':List Str}{l:List Nd},Shows t (.v (.mk 6 txt ks' l))→(∃ t',t=123::t')→Sk ks L K false (t++(w++c::r)) (R+w.length+t.length):=by
    rintro txt ks' l h5 ⟨t',rfl⟩
    have:=nst_value h5 (.inr ⟨rfl,rfl,rfl⟩) (w++c::r)
    have e:(123::(t'++(w++c::r))).drop (123::t').length=w++c::r:=List.drop_left (l₁:=123::t')
    exact Sk.obj this (by rw [show (123::t'.append (w++c::r))=123::(t'++(w++c::r)) from rfl,e];exact hb)
  have h0:=h
  cases h with
  | nul=>exact sk_plains hb _ (by decide)
  | fls=>exact sk_plains hb _ (by decide)
  | tru=>exact sk_plains hb _ (by decide)
  | num h=>exact sk_plains hb _ (fun x hx=>numc_plc (IsNum.chars h x hx))
  | @str i h =>
    have:=Sk.text h.quo hw hc h58 hr
    have e:34::i++ [34]++(w++c::r)=34::(i++34::(w++c::r)):=by simp
    have e2:R+w.length+(34::i++ [34]).length=R+(i.length+2+w.length):=by simp;omega
    rw [e,e2];exact this
  | arr0 _=>exact ha h0 ⟨_,rfl⟩
  | arr _=>exact ha h0 ⟨_,rfl⟩
  | obj0 _=>exact ho h0 ⟨_,rfl⟩
  | obj _=>exact ho h0 ⟨_,rfl⟩
theorem sk_member {i t w2 w3 w4:Str}{n:Nd}(hi:Ins i) (h2:Bl w2) (h3:Bl w3) (h:Shows t (.v n)) (h4:Bl w4) {ks:List Str}{K:Nat}{lm:Bool}{k r:Str}{R:Nat}(hk:ks[K]?=some k) (hne:unq i≠k)
    (hr:Sk ks (K+1) K false r R):Sk ks (K+1) K lm (34::(i++34::(w2++58::(w3++(t++(w4++44::r)))))) (R+(i.length+2+w2.length+1+w3.length+t.length+w4.length+1)):=by
  have h5:=sk_pass h (Nat.lt_succ_self K) h4 (c:=44) (by decide) (by decide) (Sk.plain (by decide) hr)
  have:=Sk.miss (lm:=lm) hi h2 hk hne (sk_bl h5 h3)
  have e:R+1+w4.length+t.length+w3.length+(i.length+2+w2.length+1)=R+(i.length+2+w2.length+1+w3.length+t.length+w4.length+1):=by omega
  rw [e] at this;exact this
def nameIx (T key:Str):List (Nat×Nat)→Option Nat
  | []=>none
  | n::ns=>if unquote (sub T n.1 n.2)=key then some 0 else (nameIx T key ns).map (· +1)
def brk (key:Str):Option Str:=
  match key with
  | 91::r=>if 2≤r.length∧r.getLast?=some 93∧idxok r.dropLast=true then some r.dropLast else none
  | _=>none
theorem brk_some {key ds:Str}(h:brk key=some ds):key=91::(ds++ [93])∧idxok ds=true:=by
  unfold brk at h
  split at h
  · next r=>
    split at h
    · next hh=>
      obtain ⟨h1,h2,h3⟩:=hh
      obtain rfl:=Option.some.inj h
      refine ⟨?_,h3⟩
      have h0:r≠ []:=by rintro rfl;simp at h1
      rw [List.getLast?_eq_some_getLast h0] at h2
      conv=>lhs;rw [←List.dropLast_concat_getLast h0,Option.some.inj h2]
    · cases h
  · cases h
def Place.kind:Place→Nat
  | .mk k _ _ _ _=>k
def Place.b:Place→Nat
  | .mk _ b _ _ _=>b
def Place.e:Place→Nat
  | .mk _ _ e _ _=>e
def stepP (T:Str):Place→Str→Option Place
  | .mk k _ _ ns kids,key=>if k=6 then (nameIx T key ns).bind (fun j=>kids[j]?) else if k=5 then (brk key).bind (fun d=>kids[worth d]?) else none
def follow (T:Str):Place→List Str→Option Place
  | p,[]=>some p
  | p,k::ks=>if p.kind=6∧k.head?=some 91 then none else (stepP T p k).bind (fun q=>follow T q ks)
def Fol (y:Str):Prop:=∀ c,y.head?=some c→stopB c=true
theorem Fol.cons {c:UInt8}(h:stopB c=true) (y:Str):Fol (c::y):=by intro d hd;rw [←Option.some.inj hd];exact h
theorem Fol.bl {w y:Str}(hw:Bl w) (hy:Fol y):Fol (w++y):=by
  cases w with
  | nil=>exact hy
  | cons c w =>
    refine Fol.cons ?_ _
    have:=hw c (by simp)
    simp only [isBlank,Bool.or_eq_true,beq_iff_eq] at this
    rcases this with ((rfl | rfl) | rfl) | rfl <;> rfl
theorem Fol.app {x y:Str}(hx:Fol x) (hy:Fol y):Fol (x++y):=by
  cases x with
  | nil=>exact hy
  | cons c x=>exact Fol.cons (hx c rfl) _
theorem val_pos {L n:Nat}{s r:Str}{p:Place}(h:pVal L n s=some (p,r)):p.b=L - s.length∧p.e=L - r.length:=by
  cases n with
  | zero=>simp [pVal] at h
  | succ n =>
    cases s with
    | nil=>simp [pVal] at h
    | cons c s =>
      simp only [pVal] at h
      (repeat' split at h) <;> first
        | (obtain ⟨rfl,rfl⟩:=Prod.mk.inj (Option.some.inj h);exact ⟨rfl,rfl⟩)
        | (obtain ⟨x,hx,he⟩:=Option.map_eq_some_iff.1 h;obtain ⟨rfl,rfl⟩:=Prod.mk.inj he;exact ⟨rfl,rfl⟩)
        | (cases h)
theorem val_text {T pre s r:Str}{n:Nat}{p:Place}(hT:T=pre++s) (h:pVal T.length n s=some (p,r)):∃ t,s=t++r∧Shows t (.v (tree T p))∧sub T p.b p.e=t:=by
  obtain ⟨t,ht,hs⟩:=(sound T n).1 pre s p r hT h
  obtain ⟨h1,h2⟩:=val_pos h
  refine ⟨t,ht,hs,?_⟩
  rw [h1,h2,ht]
  exact sub_at (pre:=pre) (by rw [hT,ht])
theorem val_obj {L n k b e:Nat}{s r:Str}{ns:List (Nat×Nat)}{kids:List Place}(h:pVal L n s=some (.mk k b e ns kids,r)) (hk:k=6) (h0:kids≠ []):∃ n' r0,n=n'+1∧s=123::r0∧pMems L n' (skip r0)=some (ns,kids,r):=by
  subst hk
  cases n with
  | zero=>simp [pVal] at h
  | succ n =>
    cases s with
    | nil=>simp [pVal] at h
    | cons c s =>
      simp only [pVal] at h
      split at h
      · next hc=>
        subst hc
        split at h
        · obtain ⟨h1,_⟩:=Prod.mk.inj (Option.some.inj h)
          injection h1 with _ _ _ _ h1
          exact absurd h1.symm h0
        · obtain ⟨⟨ns',ps',r'⟩,hx,he⟩:=Option.map_eq_some_iff.1 h
          obtain ⟨h1,rfl⟩:=Prod.mk.inj he
          injection h1 with _ _ _ h1 h2
          subst h1 h2
          exact ⟨n,s,rfl,rfl,hx⟩
      · exfalso
        (repeat' split at h) <;> first
          | (obtain ⟨h1,_⟩:=Prod.mk.inj (Option.some.inj h);injection h1 with h1;exact absurd h1 (by decide))
          | (obtain ⟨x,hx,he⟩:=Option.map_eq_some_iff.1 h;obtain ⟨h1,_⟩:=Prod.mk.inj he;injection h1 with h1;exact absurd h1 (by decide))
          | (cases h)
theorem val_arr {L n k b e:Nat}{s r:Str}{ns:List (Nat×Nat)}{kids:List Place}(h:pVal L n s=some (.mk k b e ns kids,r)) (hk:k=5) (h0:kids≠ []):∃ n' r0,n=n'+1∧s=91::r0∧pElems L n' (skip r0)=some (kids,r):=by
  subst hk
  cases n with
  | zero=>simp [pVal] at h
  | succ n =>
    cases s with
    | nil=>simp [pVal] at h
    | cons c s =>
      simp only [pVal] at h
      split at h
      · exfalso
        (repeat' split at h) <;> first
          | (obtain ⟨h1,_⟩:=Prod.mk.inj (Option.some.inj h);injection h1 with h1;exact absurd h1 (by decide))
          | (obtain ⟨x,hx,he⟩:=Option.map_eq_some_iff.1 h;obtain ⟨h1,_⟩:=Prod.mk.inj he;injection h1 with h1;exact absurd h1 (by decide))
          | (cases h)
      · split at h
        · next hc=>
          subst hc
          split at h
          · obtain ⟨h1,_⟩:=Prod.mk.inj (Option.some.inj h)
            injection h1 with _ _ _ _ h1
            exact absurd h1.symm h0
          · obtain ⟨⟨ps',r'⟩,hx,he⟩:=Option.map_eq_some_iff.1 h
            obtain ⟨h1,rfl⟩:=Prod.mk.inj he
            injection h1 with _ _ _ _ h2
            subst h2
            exact ⟨n,s,rfl,rfl,hx⟩
        · exfalso
          (repeat' split at h) <;> first
            | (obtain ⟨h1,_⟩:=Prod.mk.inj (Option.some.inj h);injection h1 with h1;exact absurd h1 (by decide))
            | (obtain ⟨x,hx,he⟩:=Option.map_eq_some_iff.1 h;obtain ⟨h1,_⟩:=Prod.mk.inj he;injection h1 with h1;exact absurd h1 (by decide))
            | (cases h)
theorem mem_text {T:Str}{n:Nat}{pre s r:Str}{ns:List (Nat×Nat)}{ps:List Place}(hT:T=pre++s) (h:pMems T.length (n+1) s=some (ns,ps,r)):
    ∃ i w2 w3 x y p,Ins i∧Bl w2∧Bl w3∧s=34::(i++34::(w2++58::(w3++(x++(y++125::r)))))∧pVal T.length n (x++(y++125::r))=some (p,y++125::r)∧Shows x (.v (tree T p))∧Fol (y++ [125])∧
    (∃ sp,unquote (sub T sp.1 sp.2)=unq i∧((ns=[sp]∧ps=[p])∨∃ ns' ps' w4 w5 s',ns=sp::ns'∧ps=p::ps'∧Bl w4∧Bl w5∧y=w4++44::(w5++s')∧pMems T.length n (s'++125::r)=some (ns',ps',r))):=by
  simp only [pMems] at h
  split at h
  · cases h
  next r1 h1=>
  obtain ⟨s1,h34,hq⟩:=Option.bind_eq_some_iff.1 h1
  obtain rfl:=pTake_some.1 h34
  obtain ⟨i,hi,hin⟩:=ins_split hq
  split at h
  · cases h
  next r2 h2=>
  obtain ⟨w2,hw2,hb2,_⟩:=skip_split r1
  rw [pTake_some.1 h2] at hw2
  obtain ⟨w3,hw3,hb3,_⟩:=skip_split r2
  split at h
  · cases h
  next p r3 h3=>
  have hT3:T=(pre++34::(i++34::(w2++58::w3)))++skip r2:=by rw [hT,hi,hw2];simp;exact hw3
  obtain ⟨x,hx,hsh,_⟩:=val_text hT3 h3
  obtain ⟨w4,hw4,hb4,_⟩:=skip_split r3
  have hsp:unquote (sub T (T.length - (34::s1).length) (T.length - r1.length))=unq i:=by
    have e:34::s1=(34::i++ [34])++r1:=by rw [hi];simp
    rw [e,sub_at (pre:=pre) (by rw [hT,e]),unquote_mk]
  have hs:∀ y,r3=y→34::s1=34::(i++34::(w2++58::(w3++(x++y)))):=by
    rintro y rfl
    rw [hi,hw2,←hx,←hw3]
  split at h
  · next r4 h4=>
    have h':=Option.some.inj h
    simp only [Prod.mk.injEq] at h'
    obtain ⟨rfl,rfl,rfl⟩:=h'
    have e3:r3=w4++125::r4:=by rw [←pTake_some.1 h4];exact hw4
    refine ⟨i,w2,w3,x,w4,p,hin,hb2,hb3,hs _ e3,by rw [←e3,←hx];exact h3,hsh,Fol.bl hb4 (Fol.cons rfl _),_,hsp,.inl ⟨rfl,rfl⟩⟩
  · split at h
    · cases h
    next r4 h4=>
    obtain ⟨⟨ns',ps',r'⟩,hm,he⟩:=Option.map_eq_some_iff.1 h
    simp only [Prod.mk.injEq] at he
    obtain ⟨rfl,rfl,rfl⟩:=he
    have e3:r3=w4++44::r4:=by rw [←pTake_some.1 h4];exact hw4
    obtain ⟨w5,hw5,hb5,_⟩:=skip_split r4
    obtain ⟨t',ht',_⟩:=(sound T n).2.2 ((pre++34::(i++34::(w2++58::w3)))++x++w4++44::w5) (skip r4) ns' ps' r' (by rw [hT3,hx,e3];simp;exact hw5) hm
    have e4:r3=(w4++44::(w5++t'))++125::r':=by rw [e3,hw5,ht'];simp
    refine ⟨i,w2,w3,x,w4++44::(w5++t'),p,hin,hb2,hb3,hs _ e4,by rw [←e4,←hx];exact h3,hsh,?_,_,hsp,.inr ⟨ns',ps',w4,w5,t',rfl,rfl,hb4,hb5,rfl,by rw [←ht'];exact hm⟩⟩
    have:=Fol.bl hb4 (Fol.cons (c:=44) rfl (w5++t'++ [125]))
    simpa using this
theorem mems_find (T key:Str):∀ (n:Nat) (pre s:Str) (ns:List (Nat×Nat)) (ps:List Place) (r:Str) (j:Nat) (q:Place),T=pre++s→pMems T.length n s=some (ns,ps,r)→nameIx T key ns=some j→ps[j]?=some q→
    ∃ m i w2 w3 x y n',Ins i∧unq i=key∧Bl w2∧Bl w3∧s=m++34::(i++34::(w2++58::(w3++(x++(y++125::r)))))∧pVal T.length n' (x++(y++125::r))=some (q,y++125::r)∧Fol (y++ [125])∧
    ∀ (ks:List Str) (K:Nat) (tail:Str) (R:Nat),ks[K]?=some key→(∀ lm,Sk ks (K+1) K lm (34::(i++34::(w2++58::(w3++(x++tail))))) R)→∀ lm,Sk ks (K+1) K lm (m++34::(i++34::(w2++58::(w3++(x++tail))))) (R+m.length)
  | 0,_,_,_,_,_,_,_,_,h,_,_=>by simp [pMems] at h
  | n + 1, pre, s, ns, ps, r, j, q, hT, h, hn, hq => by
    obtain ⟨i,w2,w3,x,y,p,hin,hb2,hb3,hs,hv,hsh,hf,sp,hsp,hm⟩:=mem_text hT h
    by_cases he:unq i=key
    · have hj:j=0∧p=q:=by
        rcases hm with ⟨rfl,rfl⟩ | ⟨ns',ps',_,_,_,rfl,rfl,_⟩
        · simp only [nameIx,hsp,he,if_true,Option.some.injEq] at hn
          subst hn;exact ⟨rfl,Option.some.inj hq⟩
        · simp only [nameIx,hsp,he,if_true,Option.some.injEq] at hn
          subst hn;exact ⟨rfl,Option.some.inj hq⟩
      obtain ⟨rfl,rfl⟩:=hj
      exact ⟨[],i,w2,w3,x,y,n,hin,he,hb2,hb3,hs,hv,hf,fun ks K tail R _ hR lm=>hR lm⟩
    · rcases hm with ⟨rfl,rfl⟩ | ⟨ns',ps',w4,w5,s',rfl,rfl,hb4,hb5,rfl,hm⟩
      · simp [nameIx,hsp,he] at hn
      · simp only [nameIx,hsp,he,if_false] at hn
        obtain ⟨j',hn',rfl⟩:=Option.map_eq_some_iff.1 hn
        have hT':T=(pre++34::(i++34::(w2++58::(w3++(x++(w4++44::w5))))))++(s'++125::r):=by rw [hT,hs];simp
        obtain ⟨m,i',w2',w3',x',y',n',hin',he',hb2',hb3',hs',hv',hf',hp⟩:=mems_find T key n _ _ ns' ps' r j' q hT' hm hn' (by simpa using hq)
        refine ⟨34::(i++34::(w2++58::(w3++(x++(w4++44::(w5++m)))))),i',w2',w3',x',y',n',hin',he',hb2',hb3',?_,hv',hf',?_⟩
        · rw [hs];simp only [List.append_assoc,List.cons_append];rw [hs']
        · intro ks K tail R hk hR lm
          have:=sk_member (lm:=lm) hin hb2 hb3 hsh hb4 hk he (sk_bl (hp ks K tail R hk hR false) hb5)
          have e:R+m.length+w5.length+(i.length+2+w2.length+1+w3.length+x.length+w4.length+1)=R+(34::(i++34::(w2++58::(w3++(x++(w4++44::(w5++m))))))).length:=by simp;omega
          rw [←e]
          simpa using this
theorem elems_find (T:Str):∀ (n:Nat) (pre s w0:Str) (ps:List Place) (r:Str),T=pre++s→Bl w0→pElems T.length n s=some (ps,r)→
    ∃ t items,s=t++93::r∧(∀ tail,El (w0++(t++93::tail)) items)∧items.length=ps.length∧ps.length≤s.length∧
    ∀ (j:Nat) (q:Place),ps[j]?=some q→∃ o x y n',items[j]?=some (o,x,tree T q)∧o≤w0.length+t.length∧(∀ tail,(w0++(t++93::tail)).drop o=x++(y++93::tail))∧pVal T.length n' (x++(y++93::r))=some (q,y++93::r)∧(∃ pre',T=pre'++(x++(y++93::r)))∧Fol (y++ [93])
  | 0,_,_,_,_,_,_,_,h=>by simp [pElems] at h
  | n + 1, pre, s, w0, ps, r, hT, hb0, h => by
    simp only [pElems] at h
    split at h
    · cases h
    next p r1 h1=>
    obtain ⟨x,hx,hsh,_⟩:=val_text hT h1
    obtain ⟨w2,hw2,hb2,_⟩:=skip_split r1
    have hpos:0<x.length:=by obtain ⟨c,r',rfl,_⟩:=hsh.head _ rfl;simp
    split at h
    · next r2 h2=>
      obtain ⟨rfl,rfl⟩:=Prod.mk.inj (Option.some.inj h)
      have e1:r1=w2++93::r2:=by rw [←pTake_some.1 h2];exact hw2
      refine ⟨x++w2,[(w0.length,x,tree T p)],by rw [hx,e1];simp,fun tail=> ?_,rfl,by rw [hx];simp;omega,fun j q hj=> ?_⟩
      · have:=El.one (r:=tail) hb0 hsh hb2
        simpa using this
      · cases j with
        | zero =>
          obtain rfl:=Option.some.inj hj
          refine ⟨w0.length,x,w2,n,rfl,by omega,fun tail=> ?_,by rw [←e1,←hx];exact h1,⟨pre,by rw [←e1,←hx];exact hT⟩,Fol.bl hb2 (Fol.cons rfl _)⟩
          rw [List.drop_left];simp
        | succ j=>simp at hj
    · split at h
      · cases h
      next r2 h2=>
      obtain ⟨⟨ps',r'⟩,hm,he⟩:=Option.map_eq_some_iff.1 h
      obtain ⟨rfl,rfl⟩:=Prod.mk.inj he
      have e1:r1=w2++44::r2:=by rw [←pTake_some.1 h2];exact hw2
      obtain ⟨w5,hw5,hb5,_⟩:=skip_split r2
      have hT':T=(pre++(x++(w2++44::w5)))++skip r2:=by rw [hT,hx,e1];simp;exact hw5
      obtain ⟨t,items,ht,hel,hln,hle,hat⟩:=elems_find T n _ (skip r2) w5 ps' r' hT' hb5 hm
      have es:s=(x++(w2++44::(w5++t)))++93::r':=by rw [hx,e1];simp only [List.append_assoc,List.cons_append];rw [←ht,←hw5]
      refine ⟨x++(w2++44::(w5++t)),(w0.length,x,tree T p)::items.map fun z=>(w0.length+x.length+w2.length+1+z.1,z.2),es,fun tail=> ?_,by simp [hln],?_,fun j q hj=> ?_⟩
      · have:=El.more hb0 hsh hb2 (hel tail)
        simpa using this
      · have h5:=congrArg List.length hw5
        rw [hx,e1];simp only [List.length_append,List.length_cons] at h5 ⊢;omega
      · cases j with
        | zero =>
          obtain rfl:=Option.some.inj hj
          have e6:r1=(w2++44::(w5++t))++93::r':=by rw [e1];simp only [List.append_assoc,List.cons_append];rw [←ht,←hw5]
          refine ⟨w0.length,x,w2++44::(w5++t),n,rfl,by omega,fun tail=> ?_,by rw [←e6,←hx];exact h1,⟨pre,by rw [←e6,←hx];exact hT⟩,?_⟩
          · rw [List.drop_left];simp
          · have:=Fol.bl hb2 (Fol.cons (c:=44) rfl (w5++t++ [93]))
            simpa using this
        | succ j =>
          obtain ⟨o,x',y,n',h6,h7,h8,h9,h10,h11⟩:=hat j q (by simpa using hj)
          refine ⟨w0.length+x.length+w2.length+1+o,x',y,n',?_,?_,fun tail=> ?_,h9,h10,h11⟩
          · simp [h6]
          · simp only [List.length_append,List.length_cons];omega
          · have e7:w0++((x++(w2++44::(w5++t)))++93::tail)=(w0++(x++(w2++ [44])))++(w5++(t++93::tail)):=by simp
            rw [e7,show w0.length+x.length+w2.length+1+o=(w0++(x++(w2++ [44]))).length+o by simp;omega,←List.drop_drop,List.drop_left]
            exact h8 tail
def Loc (s:Str) (R:Nat) (x:Str):Prop:=∃ w y,R≤s.length∧s.drop R=w++(x++y)∧Bl w∧Fol y
theorem idx_len {ds:Str}(h:idxok ds=true) {N:Nat}(hN:worth ds<N) (hN':N≤2^40):ds.length≤18:=by
  unfold idxok at h
  obtain ⟨h0,hd,hz⟩:=of_decide_eq_true h
  rcases Nat.lt_or_ge 18 ds.length with hl | hl
  · exfalso
    cases ds with
    | nil=>simp at hl
    | cons c r =>
      have h1:=worth_pos (l:=r) hd.head (fun e=>hz (by omega) (by rw [e];rfl))
      simp only [List.length_cons] at hl
      have h2:10^18≤10^r.length:=Nat.pow_le_pow_right (by decide) (by omega)
      have h3:(10:Nat)^18=1000000000000000000:=by decide
      have h4:(2:Nat)^40=1099511627776:=by decide
      omega
  · exact hl
theorem lead (T:Str) (hTl:T.length≤2^40):∀ (ks:List Str) (p q:Place) (n:Nat) (pre s r:Str),T=pre++s→pVal T.length n s=some (p,r)→follow T p ks=some q→
    ∃ v,s=v++r∧Shows v (.v (tree T p))∧(Shows (sub T q.b q.e) (.v (tree T q))∧q.e≤T.length)∧(ks=[]→v=sub T q.b q.e)∧
    (∀ (keys:List Str) (L:Nat),keys.drop L=ks→ks≠ []→∃ R,(∀ tail,Sk keys L L true (v++tail) R)∧Loc v R (sub T q.b q.e))
  | [], p, q, n, pre, s, r, hT, h, hf => by
    obtain rfl:=Option.some.inj hf
    obtain ⟨t,ht,hsh,hsub⟩:=val_text hT h
    exact ⟨t,ht,hsh,⟨by rw [hsub];exact hsh,by rw [(val_pos h).2];exact Nat.sub_le _ _⟩,fun _=>hsub.symm,fun _ _ _ h0=>absurd rfl h0⟩
  | k :: ks, p, q, n, pre, s, r, hT, h, hf => by
    obtain ⟨v,hv,hsh,_⟩:=val_text hT h
    obtain ⟨kd,b,e,ns,kids⟩:=p
    simp only [follow] at hf
    split at hf
    · cases hf
    next hnb=>
    obtain ⟨p1,hp1,hf1⟩:=Option.bind_eq_some_iff.1 hf
    simp only [stepP] at hp1
    split at hp1
    · next hk6=>
      obtain ⟨j,hj,hkid⟩:=Option.bind_eq_some_iff.1 hp1
      have hne:kids≠ []:=by rintro rfl;simp at hkid
      obtain ⟨n',r0,rfl,rfl,hm⟩:=val_obj h hk6 hne
      obtain ⟨w,hw,hb,_⟩:=skip_split r0
      obtain ⟨m,i,w2,w3,x,y,n2,hin,hik,hb2,hb3,hs,hv2,hfo,hpass⟩:=mems_find T k n' (pre++123::w) (skip r0) ns kids r j p1 (by rw [hT];simp;exact hw) hm hj hkid
      have hs0:123::r0=(123::(w++(m++34::(i++34::(w2++58::(w3++(x++(y++ [125]))))))))++r:=by rw [hw,hs];simp
      have hvv:v=123::(w++(m++34::(i++34::(w2++58::(w3++(x++(y++ [125]))))))):=by
        have:=hv.symm.trans hs0
        exact List.append_cancel_right this
      have hT2:T=(pre++123::(w++(m++34::(i++34::(w2++58::w3)))))++(x++(y++125::r)):=by rw [hT,hs0];simp
      obtain ⟨v1,hv1,hsh1,hshq,hnil,hmore⟩:=lead T hTl ks p1 q n2 _ _ _ hT2 hv2 hf1
      have hxv:x=v1:=List.append_cancel_right hv1
      subst hxv
      refine ⟨v,hv,hsh,hshq,(fun h0=>by cases h0),fun keys L hkL _=> ?_⟩
      have hkk:keys[L]?=some k:=by
        have:=congrArg (fun l=>l[0]?) hkL
        simpa using this
      have hlen:L<keys.length:=(List.getElem?_eq_some_iff.1 hkk).1
      have hk1:keys.drop (L+1)=ks:=by rw [←List.drop_drop,hkL];rfl
      have hlk:keys.length=L+1+ks.length:=by have:=congrArg List.length hk1;simp at this;omega
      by_cases h0:ks=[]
      · subst h0
        refine ⟨i.length+2+w2.length+1+m.length+w.length+1,fun tail=> ?_,?_⟩
        · have h1:=hpass keys L (y++ [125]++tail) (i.length+2+w2.length+1) hkk (fun lm=>Sk.hit hin hb2 (by rw [hik];exact hkk) (by simp at hlk;omega)) true
          have:=Sk.opn (sk_bl h1 hb)
          rw [hvv];simpa using this
        · refine ⟨w3,y++ [125],?_,?_,hb3,hfo⟩
          · rw [hvv];simp;omega
          · have e:v=(123::(w++(m++34::(i++34::(w2++ [58])))))++(w3++(x++(y++ [125]))):=by rw [hvv];simp
            rw [e,show i.length+2+w2.length+1+m.length+w.length+1=(123::(w++(m++34::(i++34::(w2++ [58]))))).length by simp;omega,List.drop_left,←hnil rfl]
      · obtain ⟨R,hR,wl,yl,hRl,hdl,hbl,hfl⟩:=hmore keys (L+1) hk1 h0
        have hks:0<ks.length:=List.length_pos_iff.2 h0
        refine ⟨R+w3.length+(i.length+2+w2.length+1)+m.length+w.length+1,fun tail=> ?_,?_⟩
        · have h1:=hpass keys L (y++ [125]++tail) (R+w3.length+(i.length+2+w2.length+1)) hkk (fun lm=>Sk.go hin hb2 (by rw [hik];exact hkk) (by omega) (sk_bl (hR _) hb3)) true
          have:=Sk.opn (sk_bl h1 hb)
          rw [hvv];simpa using this
        · refine ⟨wl,yl++(y++ [125]),?_,?_,hbl,hfl.app hfo⟩
          · rw [hvv];simp;omega
          · have e:v=(123::(w++(m++34::(i++34::(w2++58::w3)))))++(x++(y++ [125])):=by rw [hvv];simp
            rw [e,show R+w3.length+(i.length+2+w2.length+1)+m.length+w.length+1=(123::(w++(m++34::(i++34::(w2++58::w3))))).length+R by simp;omega,←List.drop_drop,List.drop_left,List.drop_append_of_le_length hRl,hdl]
            simp
    · split at hp1
      · next hk5=>
        obtain ⟨ds,hds,hkid⟩:=Option.bind_eq_some_iff.1 hp1
        obtain ⟨hkey,hidx⟩:=brk_some hds
        have hne:kids≠ []:=by rintro rfl;simp at hkid
        obtain ⟨n',r0,rfl,rfl,hm⟩:=val_arr h hk5 hne
        obtain ⟨w,hw,hb,_⟩:=skip_split r0
        obtain ⟨t,items,ht,hel,hln,hle,hat⟩:=elems_find T n' (pre++91::w) (skip r0) w kids r (by rw [hT];simp;exact hw) hb hm
        obtain ⟨o,x,y,n2,hit,hol,hdr,hv2,⟨pre',hT2⟩,hfo⟩:=hat (worth ds) p1 hkid
        have hs0:91::r0=(91::(w++(t++ [93])))++r:=by rw [hw,ht];simp
        have hvv:v=91::(w++(t++ [93])):=List.append_cancel_right (hv.symm.trans hs0)
        obtain ⟨v1,hv1,hsh1,hshq,hnil,hmore⟩:=lead T hTl ks p1 q n2 _ _ _ hT2 hv2 hf1
        have hxv:x=v1:=List.append_cancel_right hv1
        subst hxv
        have hd8:ds.length≤18:=by
          have h1:=(List.getElem?_eq_some_iff.1 hkid).1
          have h2:(skip r0).length≤T.length:=by have:=skip_len r0;rw [hT];simp only [List.length_append,List.length_cons];omega
          exact idx_len hidx h1 (by omega)
        refine ⟨v,hv,hsh,hshq,(fun h0=>by cases h0),fun keys L hkL _=> ?_⟩
        have hkk:keys[L]?=some k:=by
          have:=congrArg (fun l=>l[0]?) hkL
          simpa using this
        have hk1:keys.drop (L+1)=ks:=by rw [←List.drop_drop,hkL];rfl
        have hlen:L<keys.length:=(List.getElem?_eq_some_iff.1 hkk).1
        have hlk:keys.length=L+1+ks.length:=by have:=congrArg List.length hk1;simp at this;omega
        rw [hkey] at hkk
        have hdr2:v.drop (1+o)=x++(y++ [93]):=by
          have:=hdr []
          rw [hvv,Nat.add_comm,List.drop_succ_cons];exact this
        have hlv:1+o≤v.length:=by rw [hvv];simp;omega
        have hta:∀ tail,v++tail=91::(w++(t++93::tail)):=fun tail=>by rw [hvv];simp
        by_cases h0:ks=[]
        · subst h0
          refine ⟨1+o,fun tail=> ?_,[],y++ [93],hlv,?_,Bl.nil,hfo⟩
          · rw [hta]
            exact Sk.idx0 hkk hidx hd8 (hel tail) hit (by simp at hlk;omega)
          · rw [hdr2,←hnil rfl];rfl
        · obtain ⟨R,hR,wl,yl,hRl,hdl,hbl,hfl⟩:=hmore (keys.drop (L+1)) 0 hk1 h0
          have hks:0<ks.length:=List.length_pos_iff.2 h0
          refine ⟨1+o+R,fun tail=> ?_,wl,yl++(y++ [93]),?_,?_,hbl,hfl.app hfo⟩
          · rw [hta]
            have h9:=hR []
            rw [List.append_nil] at h9
            exact Sk.idx hkk hidx hd8 (hel tail) hit (by omega) h9
          · have:=congrArg List.length hdr2
            simp at this;omega
          · rw [←List.drop_drop,hdr2,List.drop_append_of_le_length hRl,hdl];simp
      · cases hp1
theorem lead_text {T:Str}(hTl:T.length≤2^40) {p q:Place}{ks:List Str}(h:pText T=some p) (hf:follow T p ks=some q):
    (Shows (sub T q.b q.e) (.v (tree T q))∧q.e≤T.length)∧(ks=[]→Loc T 0 (sub T q.b q.e))∧(ks≠ []→∃ R,Sk ks 0 0 true T R∧Loc T R (sub T q.b q.e)):=by
  unfold pText at h
  split at h
  · cases h
  next p' r hv=>
  split at h
  · next hr=>
    obtain rfl:=Option.some.inj h
    obtain ⟨w,hw,hb,_⟩:=skip_split T
    obtain ⟨v,hs,hsh,hshq,hnil,hmore⟩:=lead T hTl ks p' q _ w (skip T) r hw hv hf
    have hbr:Bl r:=by obtain ⟨w',hw',hb',_⟩:=skip_split r;rw [hr,List.append_nil] at hw';rw [hw'];exact hb'
    have hfr:Fol r:=by have:=Fol.bl hbr (y:=[]) (fun c hc=>by cases hc);simpa using this
    have hT:T=w++(v++r):=by rw [←hs];exact hw
    refine ⟨hshq,fun h0=>⟨w,r,Nat.zero_le _,by rw [←hnil h0];exact hT,hb,hfr⟩,fun h0=> ?_⟩
    obtain ⟨R,hR,wl,yl,hRl,hdl,hbl,hfl⟩:=hmore ks 0 rfl h0
    refine ⟨R+w.length,?_,wl,yl++r,?_,?_,hbl,hfl.app hfr⟩
    · conv=>arg 5;rw [hT]
      exact sk_bl (hR r) hb
    · have:=congrArg List.length hT
      simp at this;omega
    · have e:T.drop (R+w.length)=(v++r).drop R:=by
        conv=>lhs;rw [hT,Nat.add_comm,←List.drop_drop,List.drop_left]
      rw [e,List.drop_append_of_le_length hRl,hdl];simp
  · cases h
mutual
def EqPl:Place→Prop
  | .mk k b e ns kids=>(k=6→ns.length=kids.length)∧EqPls kids
def EqPls:List Place→Prop
  | []=>True
  | p::ps=>EqPl p∧EqPls ps
end
theorem EqPls.at_:∀ {ps:List Place},EqPls ps→∀ {j:Nat}{p:Place},ps[j]?=some p→EqPl p
  | [],_,j,p,hj=>by simp at hj
  | q :: ps, h, j, p, hj => by
    simp only [EqPls] at h
    cases j with
    | zero=>obtain rfl:=Option.some.inj hj;exact h.1
    | succ j=>exact EqPls.at_ h.2 (j:=j) (by simpa using hj)
theorem eq_all (L:Nat):∀ n,
    (∀ s p q,pVal L n s=some (p,q)→EqPl p)∧
    (∀ s ps q,pElems L n s=some (ps,q)→EqPls ps)∧
    (∀ s ns ps q,pMems L n s=some (ns,ps,q)→ns.length=ps.length∧EqPls ps)
  | 0=>⟨fun _ _ _ h=>by simp [pVal] at h,fun _ _ _ h=>by simp [pElems] at h,fun _ _ _ _ h=>by simp [pMems] at h⟩
  | n + 1 => by
    obtain ⟨ihv,ihe,ihm⟩:=eq_all L n
    refine ⟨fun s p q h=> ?_,fun s ps q h=> ?_,fun s ns ps q h=> ?_⟩
    · cases s with
      | nil=>simp [pVal] at h
      | cons c s =>
        simp only [pVal] at h
        (repeat' split at h) <;> first
          | (obtain ⟨rfl,rfl⟩:=Prod.mk.inj (Option.some.inj h);simp [EqPl,EqPls])
          | (obtain ⟨⟨ns',ps',r'⟩,hx,he⟩:=Option.map_eq_some_iff.1 h;obtain ⟨rfl,rfl⟩:=Prod.mk.inj he;simp only [EqPl];exact ⟨fun _=>(ihm _ _ _ _ hx).1,(ihm _ _ _ _ hx).2⟩)
          | (obtain ⟨⟨ps',r'⟩,hx,he⟩:=Option.map_eq_some_iff.1 h;obtain ⟨rfl,rfl⟩:=Prod.mk.inj he;simp only [EqPl];exact ⟨fun h=>absurd h (by decide),ihe _ _ _ hx⟩)
          | (obtain ⟨x,hx,he⟩:=Option.map_eq_some_iff.1 h;obtain ⟨rfl,rfl⟩:=Prod.mk.inj he;simp [EqPl,EqPls])
          | (cases h)
    · simp only [pElems] at h
      split at h
      · cases h
      next p r hv=>
      split at h
      · obtain ⟨rfl,rfl⟩:=Prod.mk.inj (Option.some.inj h)
        exact ⟨ihv _ _ _ hv,trivial⟩
      · split at h
        · cases h
        · obtain ⟨⟨ps',r'⟩,hx,he⟩:=Option.map_eq_some_iff.1 h
          obtain ⟨rfl,rfl⟩:=Prod.mk.inj he
          exact ⟨ihv _ _ _ hv,ihe _ _ _ hx⟩
    · simp only [pMems] at h
      split at h
      · cases h
      split at h
      · cases h
      split at h
      · cases h
      next p r2 hv=>
      split at h
      · have h':=Option.some.inj h
        simp only [Prod.mk.injEq] at h'
        obtain ⟨rfl,rfl,rfl⟩:=h'
        exact ⟨rfl,ihv _ _ _ hv,trivial⟩
      · split at h
        · cases h
        · obtain ⟨⟨ns',ps',r'⟩,hx,he⟩:=Option.map_eq_some_iff.1 h
          simp only [Prod.mk.injEq] at he
          obtain ⟨rfl,rfl,rfl⟩:=he
          obtain ⟨h1,h2⟩:=ihm _ _ _ _ hx
          exact ⟨by simp [h1],ihv _ _ _ hv,h2⟩
theorem text_eq {T:Str}{p:Place}(h:pText T=some p):EqPl p:=by
  unfold pText at h
  split at h
  · cases h
  next p' r hv=>
  split at h
  · obtain rfl:=Option.some.inj h
    exact (eq_all _ _).1 _ _ _ hv
  · cases h
def knd:Nd→Nat
  | .mk k _ _ _=>k
def jk (k:Nat):Nat:=if k=4 then 1 else if k=3 then 2 else if k=6 then 3 else if k=5 then 4 else if k=0 then 6 else 5
theorem gt_cases {t:Str}{n:Nd}(h:Shows t (.v n)):(∃ i,t=34::i++ [34]∧Ins i∧knd n=4)∨(knd n=5∧(∃ u,t=91::u)∧∀ s,Nst 91 93 0 (t++s) t.length)∨(knd n=6∧(∃ u,t=123::u)∧∀ s,Nst 123 125 0 (t++s) t.length)∨
    (t=[116,114,117,101]∧knd n=2)∨(t=[102,97,108,115,101]∧knd n=1)∨(t=[110,117,108,108]∧knd n=0)∨(knd n=3∧IsNum t∧∃ c u,t=c::u∧(c=45∨isDig c=true)):=by
  have h0:=h
  cases h with
  | nul=>simp [knd]
  | fls=>simp [knd]
  | tru=>simp [knd]
  | num h =>
    obtain ⟨c,hc,hd⟩:=IsNum.head h
    cases t with
    | nil=>simp at hc
    | cons x u=>exact .inr (.inr (.inr (.inr (.inr (.inr ⟨rfl,h,x,u,rfl,by rw [←Option.some.inj hc] at hd;exact hd⟩)))))
  | str h=>exact .inl ⟨_,rfl,h,rfl⟩
  | arr0 h=>exact .inr (.inl ⟨rfl,⟨_,rfl⟩,nst_value h0 (.inl ⟨rfl,rfl,rfl⟩)⟩)
  | arr h=>exact .inr (.inl ⟨rfl,⟨_,rfl⟩,nst_value h0 (.inl ⟨rfl,rfl,rfl⟩)⟩)
  | obj0 h=>exact .inr (.inr (.inl ⟨rfl,⟨_,rfl⟩,nst_value h0 (.inr ⟨rfl,rfl,rfl⟩)⟩))
  | obj h=>exact .inr (.inr (.inl ⟨rfl,⟨_,rfl⟩,nst_value h0 (.inr ⟨rfl,rfl,rfl⟩)⟩))
theorem fst_tok {p:UInt8→Bool}:∀ {t r:Str},(∀ c∈t,p c=false)→(∀ c,r.head?=some c→p c=true)→fst p (t++r)=t.length
  | [],[],_,_=>rfl
  | [],c::r,_,h=>by simp [fst,h c rfl]
  | c :: t, r, h, hr => by
    have:=fst_tok (t:=t) (r:=r) (fun x hx=>h x (by simp [hx])) hr
    simp only [List.cons_append,fst,h c (by simp),Bool.false_eq_true,if_false,this,List.length_cons]
theorem numc_stop {c:UInt8}(h:numc c=true):stopB c=false:=by
  simp only [numc,Bool.or_eq_true,beq_iff_eq] at h
  rcases h with ((((h | rfl) | rfl) | rfl) | rfl) | rfl
  · have e:∀ d:UInt8,isDig d=false→c≠d:=fun d hd=>isDig_ne h hd
    simp only [stopB,Bool.or_eq_false_iff,beq_eq_false_iff_ne,ne_eq]
    exact ⟨⟨⟨⟨⟨⟨e _ (by decide),e _ (by decide)⟩,e _ (by decide)⟩,e _ (by decide)⟩,e _ (by decide)⟩,e _ (by decide)⟩,e _ (by decide)⟩
  all_goals decide
theorem num_stop {t r:Str}(h:IsNum t) (hr:Fol r):fst stopB (t++r)=t.length:=fst_tok (fun c hc=>numc_stop (h.chars c hc)) hr
theorem dig_cases {c:UInt8}(h:c=45∨isDig c=true):c=48∨c=49∨c=50∨c=51∨c=52∨c=53∨c=54∨c=55∨c=56∨c=57∨c=45:=by
  rcases h with h | h
  · simp [h]
  · have h1:=dig_rng h
    have key:∀ k:Nat,c.toNat=k→c=k.toUInt8:=fun k hk=>UInt8.toNat_inj.1 (by rw [hk];simp [Nat.toUInt8];omega)
    have:c.toNat=48∨c.toNat=49∨c.toNat=50∨c.toNat=51∨c.toNat=52∨c.toNat=53∨c.toNat=54∨c.toNat=55∨c.toNat=56∨c.toNat=57:=by omega
    rcases this with h | h | h | h | h | h | h | h | h | h <;> rw [key _ h] <;> decide
theorem fst_bl {w:Str}(hw:Bl w) {c:UInt8}(hc:isBlank c=false) (r:Str):fst (fun c=> !blB c) (w++c::r)=w.length:=by
  have e:∀ x,blB x=isBlank x:=by
    intro x;simp only [blB,isBlank]
    cases x==32 <;> cases x==10 <;> cases x==13 <;> cases x==9 <;> rfl
  refine fst_tok (fun x hx=>by rw [e,hw x hx];rfl) (fun x hx=> ?_)
  rw [←Option.some.inj hx,e,hc];rfl
theorem vhead_of {t:Str}{n:Nd}(h:Shows t (.v n)):∃ c u,t=c::u∧isBlank c=false:=by
  obtain ⟨c,u,rfl,hc⟩:=h.head n rfl
  exact ⟨c,u,rfl,vhead_blank hc⟩
theorem El.parts {s:Str}{l:List (Nat×Str×Nd)}(h:El s l):∃ w1 t w2 d r n,s=w1++(t++(w2++d::r))∧Bl w1∧Bl w2∧Shows t (.v n)∧
    ((d=93∧l=[(w1.length,t,n)])∨(d=44∧∃ l1,El r l1∧l=(w1.length,t,n)::l1.map fun x=>(w1.length+t.length+w2.length+1+x.1,x.2))):=by
  cases h with
  | one h1 h h2=>exact ⟨_,_,_,_,_,_,rfl,h1,h2,h,.inl ⟨rfl,rfl⟩⟩
  | more h1 h h2 hr=>exact ⟨_,_,_,_,_,_,rfl,h1,h2,h,.inr ⟨rfl,_,hr,rfl⟩⟩
def ElAt (D:Str) (items:List (Nat×Str×Nd)) (k p:Nat):Prop:=1≤p∧p≤D.length∧∃ l,El (D.drop p) l∧k+l.length=items.length∧∀ x,items[k+x]?=(l[x]?).map fun y=>(p+y.1 - 1,y.2)
theorem ElAt.start {D u:Str}{items:List (Nat×Str×Nd)}(he:D=91::u) (h:El u items):ElAt D items 0 1:=by
  subst he
  refine ⟨Nat.le_refl _,by simp,items,h,Nat.zero_add _,fun x=> ?_⟩
  rw [Nat.zero_add]
  cases items[x]? with
  | none=>rfl
  | some y=>simp
theorem ElAt.blanks {D:Str}{items:List (Nat×Str×Nd)}{k p:Nat}(h:ElAt D items k p):∃ w c,ElAt D items k (p+w)∧fst (fun c=> !blB c) (D.drop p)=w∧w<(D.drop p).length∧D[p+w]?=some c∧c≠93:=by
  obtain ⟨h1,hp,l,hel,hk,hx⟩:=h
  obtain ⟨w1,t,w2,d,r,n,hs,hb1,hb2,hsh,hc⟩:=hel.parts
  obtain ⟨c,u,rfl,hcv⟩:=hsh.head n rfl
  have hd2:D.drop (p+w1.length)=(c::u)++(w2++d::r):=by rw [←List.drop_drop,hs,List.drop_left]
  have hln:=congrArg List.length hs
  simp only [List.length_drop,List.length_append,List.length_cons] at hln
  refine ⟨w1.length,c,⟨by omega,by omega,(0,c::u,n)::(l.drop 1).map fun y=>(y.1 - w1.length,y.2),?_,?_,?_⟩,?_,by rw [List.length_drop];omega,?_,?_⟩
  · rw [hd2]
    rcases hc with ⟨rfl,rfl⟩ | ⟨rfl,l1,hl1,rfl⟩
    · exact El.one (w1:=[]) (fun _ h=>by cases h) hsh hb2
    · have:=El.more (w1:=[]) (fun _ h=>by cases h) hsh hb2 hl1
      simp only [List.length_nil,Nat.zero_add,List.nil_append] at this
      simp only [List.drop_succ_cons,List.drop_zero,List.map_map]
      have e:((fun y:Nat×Str×Nd=>(y.1 - w1.length,y.2)) ∘ fun x:Nat×Str×Nd=>(w1.length+(c::u).length+w2.length+1+x.1,x.2))=fun x:Nat×Str×Nd=>((c::u).length+w2.length+1+x.1,x.2):=by
        funext x;simp only [Function.comp];congr 1;omega
      rw [e];exact this
  · rcases hc with ⟨_,rfl⟩ | ⟨_,l1,_,rfl⟩ <;> simp at hk ⊢ <;> exact hk
  · intro x
    rw [hx x]
    rcases hc with ⟨_,rfl⟩ | ⟨_,l1,_,rfl⟩
    · cases x with
      | zero=>simp
      | succ x=>simp
    · cases x with
      | zero=>simp
      | succ x =>
        simp only [List.getElem?_cons_succ,List.drop_succ_cons,List.drop_zero,List.getElem?_map,Option.map_map]
        cases l1[x]? with
        | none=>rfl
        | some y=>simp only [Option.map_some,Function.comp,Option.some.injEq,Prod.mk.injEq,and_true];omega
  · rw [hs];exact fst_bl hb1 (vhead_blank hcv) _
  · have:=congrArg (fun l=>l[0]?) hd2;simpa using this
  · exact vhead_ne hcv (by decide)
theorem ElAt.next {D:Str}{items:List (Nat×Str×Nd)}{k p:Nat}(h:ElAt D items k p):∃ w1 t w2 d r n,D.drop p=w1++(t++(w2++d::r))∧Bl w1∧Bl w2∧Shows t (.v n)∧items[k]?=some (p+w1.length - 1,t,n)∧(d=93∨d=44)∧
    (d=93→k+1=items.length)∧(d=44→ElAt D items (k+1) (p+w1.length+t.length+w2.length+1)):=by
  obtain ⟨h1,hp,l,hel,hk,hx⟩:=h
  obtain ⟨w1,t,w2,d,r,n,hs,hb1,hb2,hsh,hc⟩:=hel.parts
  have hln:=congrArg List.length hs
  simp only [List.length_drop,List.length_append,List.length_cons] at hln
  refine ⟨w1,t,w2,d,r,n,hs,hb1,hb2,hsh,?_,?_,?_,?_⟩
  · have:=hx 0
    rw [Nat.add_zero] at this
    rw [this]
    rcases hc with ⟨_,rfl⟩ | ⟨_,l1,_,rfl⟩ <;> simp
  · exact hc.imp And.left And.left
  · intro e
    rcases hc with ⟨_,rfl⟩ | ⟨h,_⟩
    · simpa using hk
    · rw [e] at h;exact absurd h (by decide)
  · intro e
    rcases hc with ⟨h,_⟩ | ⟨_,l1,hl1,rfl⟩
    · rw [e] at h;exact absurd h (by decide)
    · refine ⟨by omega,by omega,l1,?_,by simp at hk;omega,fun x=> ?_⟩
      · have:D.drop (p+w1.length+t.length+w2.length+1)=r:=by
          rw [show p+w1.length+t.length+w2.length+1=p+(w1++(t++(w2++ [d]))).length by simp;omega,←List.drop_drop,hs]
          have:w1++(t++(w2++d::r))=(w1++(t++(w2++ [d])))++r:=by simp
          rw [this,List.drop_left]
        rw [this];exact hl1
      · have:=hx (x+1)
        rw [show k+(x+1)=k+1+x by omega] at this
        rw [this]
        simp only [List.getElem?_cons_succ,List.getElem?_map,Option.map_map]
        cases l1[x]? with
        | none=>rfl
        | some y=>simp only [Option.map_some,Function.comp,Option.some.injEq,Prod.mk.injEq,and_true];omega
theorem fst_at {p:UInt8→Bool}:∀ {D:Str},fst p D<D.length→∃ c,D[fst p D]?=some c∧p c=true
  | [],h=>by simp at h
  | c :: r, h => by
    unfold fst at h ⊢
    cases hc:p c with
    | true=>exact ⟨c,by simp,hc⟩
    | false =>
      simp only [hc,Bool.false_eq_true,if_false,List.length_cons] at h ⊢
      obtain ⟨d,hd,hp⟩:=fst_at (p:=p) (D:=r) (by omega)
      exact ⟨d,by simpa using hd,hp⟩
theorem fst_before {p:UInt8→Bool}:∀ {D:Str}{j:Nat}{c:UInt8},j<fst p D→D[j]?=some c→p c=false
  | [],j,c,h,hj=>by simp at hj
  | d :: r, j, c, h, hj => by
    unfold fst at h
    cases hc:p d with
    | true=>simp [hc] at h
    | false =>
      simp only [hc,Bool.false_eq_true,if_false] at h
      cases j with
      | zero=>simp at hj;subst hj;exact hc
      | succ j=>exact fst_before (p:=p) (D:=r) (j:=j) (Nat.lt_of_succ_lt_succ h) (by simpa using hj)
def ixB (D:Str):Int:=if fst (· ==92) D<D.length then ((fst (· ==92) D:Nat):Int) else -1
theorem find_fst (D:Str):(List.range D.length).find? (fun i=>D[i]?.getD 0==92)=if fst (· ==92) D<D.length then some (fst (· ==92) D) else none:=by
  split
  · next h=>
    rw [List.find?_range_eq_some]
    obtain ⟨c,hc,hp⟩:=fst_at h
    refine ⟨by rw [hc];exact hp,List.mem_range.2 h,fun j hj=> ?_⟩
    have hjl:j<D.length:=by omega
    have:=fst_before hj (List.getElem?_eq_getElem hjl)
    rw [List.getElem?_eq_getElem hjl]
    simpa using this
  · next h=>
    rw [List.find?_eq_none]
    intro j hj
    have hjl:=List.mem_range.1 hj
    have:=fst_before (p:=(· ==92)) (D:=D) (j:=j) (by have:=fst_le (· ==92) D;omega) (List.getElem?_eq_getElem hjl)
    rw [List.getElem?_eq_getElem hjl]
    simpa using this
end Js
namespace Go.Sx
open Go.RowKit Go.Proofs Js
theorem find_congr {α:Type}{p q:α→Bool}:∀ {l:List α},(∀ a∈l,p a=q a)→l.find? p=l.find? q
  | [],_=>rfl
  | x :: l, h => by
    have h1:=h x (by simp)
    have h2:=find_congr (l:=l) fun a ha=>h a (by simp [ha])
    simp only [List.find?,h1,h2]
theorem first_ix (D:Str):firstIdx (mkS D) 92=ixB D:=by
  unfold firstIdx ixB
  have e:((List.range (mkS D).size).find? fun i=>(mkS D)[i]! ==92)=if fst (· ==92) D<D.length then some (fst (· ==92) D) else none:=by
    rw [←find_fst,mkS_size]
    refine find_congr fun i hi=> ?_
    have hl:=List.mem_range.1 hi
    rw [getElem!_pos (mkS D) i (by rw [mkS_size];exact hl),mkS_get,List.getElem?_eq_getElem hl];rfl
  rw [e]
  by_cases h:fst (· ==92) D<D.length
  · rw [if_pos h,if_pos h]
  · rw [if_neg h,if_neg h]
theorem run_indexB {b off c:Nat}{D:Str}{w:World}(hD:Bts w b off D):(Extern.BytealgIndexByte.indexByte #[.slice (some ⟨b,off,none⟩) D.length c,.int .u8 92]).run Tryz.prog w= .ok (.int .i64 (ixB D)) w:=by
  have hadd:∀ j,(⟨b,off,none⟩:Addr).add j=⟨b,off+j,none⟩:=fun j=>by unfold Addr.add;split <;> simp_all
  have hb:Go.Lib.bytesOf (D.map fun c=>(c.toNat:Int))=D:=by
    have e3:((fun n:Int=>n.toNat.toUInt8) ∘ fun c:UInt8=>(c.toNat:Int))=id:=by funext c;simp
    simp [Go.Lib.bytesOf,List.map_map,e3]
  have hl:=Go.Lib.run_loadBytesX (P:=Tryz.prog) w (D.map fun c=>(c.toNat:Int)) ⟨b,off,none⟩ .empty (fun j x hj=>by
    rw [List.getElem?_map] at hj
    obtain ⟨u,hu,rfl⟩:=Option.map_eq_some_iff.1 hj
    rw [hadd];exact hD.2 j u hu)
  rw [hb,List.length_map] at hl
  have hs:=run_indexByte_string (P:=Tryz.prog) (mkS D) 92 w
  have he:(⟨ByteArray.empty.data++D.toArray⟩:ByteArray)=mkS D:=by
    apply ByteArray.ext
    show (#[]:Array UInt8)++D.toArray=D.toArray
    simp
  rw [←first_ix]
  change Sem.run Tryz.prog (do
    let b←Extern.Bytes.bytesOf (.slice (some ⟨b,off,none⟩) D.length c)
    let c←Extern.Bytes.asByte (.int .u8 92)
    match (List.range b.size).find? fun i=>b[i]! ==c with
    | some i=>pure (goInt i)
    | none=>pure (goInt (-1))) w=_
  change Sem.run Tryz.prog (do
    let b←Extern.Bytes.bytesOf (.string (mkS D))
    let c←Extern.Bytes.asByte (.int .u8 92)
    match (List.range b.size).find? fun i=>b[i]! ==c with
    | some i=>pure (goInt i)
    | none=>pure (goInt (-1))) w=_ at hs
  simp only [Extern.Bytes.bytesOf,Sem.run_bind,Sem.run_pure,hl,Result.andThen] at hs ⊢
  rw [he];exact hs
theorem op_indexB {n:Nat}{K:List (Nat×Value)}{a:Act}{w:World}{Q:Exit→Act→World→Prop}{ops:Array Oper}{rest:List Oper}{o:Oper}(hF:Fr n K a) (hg:o.guard=none) {d b off c:Nat}{x y:Operand}{D:Str}(hD:Bts w b off D) (hd:o.dst=some d) (hlt:Nat.blt d n=true)
    (hop:o.op= .call {callee:= .value (.func 88),args:= #[x,y],argTypes:= #[66,5]}) (hx:ev K x=some (.slice (some ⟨b,off,none⟩) D.length c)) (hy:ev K y=some (.int .u8 92))
    (h:∀ a',Fr n ((d,.int .i64 (ixB D))::K) a'→wpList Tryz.prog ops Q rest a' w):wpList Tryz.prog ops Q (o::rest) a w:=
  op_run hF hg _ hd hlt (by
    have e:=run_callFunc_extern (P:=Tryz.prog) Tryz.func88 (by kernel_rfl) (by kernel_rfl) (by kernel_rfl) (e:=Extern.BytealgIndexByte.indexByte) (by kernel_rfl) #[.slice (some ⟨b,off,none⟩) D.length c,.int .u8 92] w
    have hc:a.eval (.func 88)= .func (.func 88) #[] #[]:=rfl
    simp only [execOp,hop,resolve,Deferred.ofValue,invoke,List.map_toArray,List.map_cons,List.map_nil,hF.ev hx,hF.ev hy,hc]
    simp
    rw [e,run_indexB hD]
    rfl) h
end Go.Sx
namespace Js
def decU (D:Str):Nat×Nat:=match unit D with
  | some n=>if high n then (match unit (D.drop 6) with | some m=>if low m then (0x10000+(n - 0xd800)*0x400+(m - 0xdc00),12) else (65533,6) | none=>(65533,6)) else if low n then (65533,6) else (n,6)
  | none=>(0,0)
def es (D:Str):Nat×Str:=match unit D with
  | some _=>((decU D).2,enc (decU D).1)
  | none=>(2,[short ((D[1]?).getD 0)])
theorem enc_surr {n:Nat}(h:high n=true∨low n=true) (hn:n<65536):enc n=enc 65533:=by
  have h1:0x800≤n:=by rcases h with h | h <;> simp [high,low] at h <;> omega
  have e:enc n=[0xef,0xbf,0xbd]:=by
    unfold enc
    rw [if_neg (by omega),if_neg (by omega),if_pos]
    rcases h with h | h <;> rw [h] <;> simp
  rw [e];decide
theorem es_step {D:Str}(h:Ins D) (h92:D.head?=some 92):unq D=(es D).2++unq (D.drop (es D).1)∧Ins (D.drop (es D).1)∧(es D).1≤D.length∧(es D).2.length≤(es D).1∧2≤(es D).1∧(es D).1≤12∧
    ((unit D=none∧(es D).1=2∧∃ d r,D=92::d::r∧escLetter d=true∧(es D).2=[short d])∨(∃ n,unit D=some n∧Ins (D.drop 6)∧6≤(es D).1∧(es D).1=(decU D).2∧(es D).2=enc (decU D).1∧(decU D).1≤1114111)):=by
  have hel:∀ n,(enc n).length≤4:=enc_len
  rcases unq_step h with rfl | ⟨c,r,rfl,hc,_⟩ | ⟨d,r,rfl,hu,hr,hq⟩ | ⟨n,r,hr0,h6,_,hu,hr,hm,hq⟩ | ⟨n,m,r,hr0,h6,_,hu,hr,hm,hh,hq⟩ | ⟨n,m,r,hr0,h6,_,hu,hr,hm,hh,hl,hq⟩ | ⟨n,m,r,hr0,h12,_,hu,hr,hm,hh,hl,hq⟩
  · simp at h92
  · simp at h92;exact absurd h92 hc
  · have e:es (92::d::r)=(2,[short d]):=by unfold es;rw [hu];rfl
    have hd:escLetter d=true:=by
      rcases ins_cases h with h | ⟨c,r',h,_,hc,_⟩ | ⟨d',r',h,hd,_⟩ | ⟨a,b,c,d',r',h,hx,_⟩
      · cases h
      · exact absurd (List.cons.inj h).1.symm hc
      · rw [(List.cons.inj (List.cons.inj h).2).1];exact hd
      · rw [h,show unit (92::117::a::b::c::d'::r')=hex4 a b c d' from rfl,hex4_hexN hx] at hu;cases hu
    rw [e]
    exact ⟨hq,hr,by simp,by simp,by simp,by simp,.inl ⟨hu,rfl,d,r,rfl,hd,rfl⟩⟩
  · have hn:=unit_lt hu
    have e:es D=(6,enc n)∧(decU D).2=6∧enc (decU D).1=enc n∧(decU D).1≤1114111:=by
      unfold es decU
      rw [hu]
      simp only [hr0,hm]
      cases hh:high n with
      | true=>simp only [if_true];refine ⟨?_,?_,?_,by omega⟩ <;> first | trivial | rfl | (rw [enc_surr (.inl hh) hn])
      | false =>
        cases hl:low n with
        | true=>simp only [Bool.false_eq_true,if_false,if_true];refine ⟨?_,?_,?_,by omega⟩ <;> first | trivial | rfl | (rw [enc_surr (.inr hl) hn])
        | false=>simp only [Bool.false_eq_true,if_false];refine ⟨?_,?_,?_,by omega⟩ <;> first | trivial | rfl
    obtain ⟨e,e2,e3,e4⟩:=e
    rw [e,hr0]
    exact ⟨hq,hr,h6,by have:=hel n;simp only;omega,by simp,by simp,.inr ⟨n,hu,hr,Nat.le_refl _,e2.symm,e3.symm,e4⟩⟩
  · have hn:=unit_lt hu
    have e:es D=(6,enc n)∧(decU D).2=6∧enc (decU D).1=enc n∧(decU D).1≤1114111:=by
      unfold es decU
      rw [hu]
      simp only [hh,Bool.false_eq_true,if_false]
      cases hl:low n with
      | true=>simp only [if_true];refine ⟨?_,?_,?_,by omega⟩ <;> first | trivial | rfl | (rw [enc_surr (.inr hl) hn])
      | false=>simp only [Bool.false_eq_true,if_false];refine ⟨?_,?_,?_,by omega⟩ <;> first | trivial | rfl
    obtain ⟨e,e2,e3,e4⟩:=e
    rw [e,hr0]
    exact ⟨hq,hr,h6,by have:=hel n;simp only;omega,by simp,by simp,.inr ⟨n,hu,hr,Nat.le_refl _,e2.symm,e3.symm,e4⟩⟩
  · have hn:=unit_lt hu
    have e:es D=(6,enc n)∧(decU D).2=6∧enc (decU D).1=enc n∧(decU D).1≤1114111:=by
      unfold es decU
      rw [hu]
      simp only [hh,hr0,hm,hl,Bool.false_eq_true,if_false,if_true]
      refine ⟨?_,?_,?_,by omega⟩ <;> first | trivial | rfl | (rw [enc_surr (.inl hh) hn])
    obtain ⟨e,e2,e3,e4⟩:=e
    rw [e,hr0]
    exact ⟨hq,hr,h6,by have:=hel n;simp only;omega,by simp,by simp,.inr ⟨n,hu,hr,Nat.le_refl _,e2.symm,e3.symm,e4⟩⟩
  · have hn:=unit_lt hu
    have hm2:=unit_lt hm
    have hb1:n≤56319∧m≤57343:=by simp [high,low] at hh hl;omega
    have hX1:0x10000+(n - 0xd800)*0x400+(m - 0xdc00)≤1114111:=by omega
    have e0:decU D=(0x10000+(n - 0xd800)*0x400+(m - 0xdc00),12):=by
      unfold decU
      rw [hu]
      simp only [hh,hm,hl,if_true]
    generalize 0x10000+(n - 0xd800)*0x400+(m - 0xdc00)=X at hq hX1 e0
    have e:es D=(12,enc X):=by unfold es;rw [hu,e0]
    have e2:(decU D).2=12:=by rw [e0]
    have e3:(decU D).1=X:=by rw [e0]
    have hi6:Ins (D.drop 6):=by
      rcases ins_cases h with h | ⟨c,r',h,_,hc,_⟩ | ⟨d',r',h,hd,_⟩ | ⟨a,b,c,d',r',h,hx,hr'⟩
      · rw [h] at h12;simp at h12
      · rw [h] at h92;simp at h92;exact absurd h92 hc
      · rw [h,unit_esc (esc_117 hd)] at hu;cases hu
      · rw [h];exact hr'
    rw [e,hr0]
    exact ⟨hq,hr,h12,by have:=hel X;simp only;omega,by simp,by simp,.inr ⟨n,hu,hi6,by simp,e2.symm,by rw [e3],by rw [e3];exact hX1⟩⟩
structure Ue (D:Str) (i:Nat) (out:Str):Prop where
  ins:Ins (D.drop i)
  eq:unq D=out++unq (D.drop i)
  le:i≤D.length
  len:out.length≤i
theorem Ue.plain {D:Str}:∀ (k:Nat) {i:Nat}{out:Str},Ue D i out→k≤fst (· ==92) (D.drop i)→Ue D (i+k) (out++(D.drop i).take k)
  | 0,i,out,h,_=>by simpa using h
  | k + 1, i, out, h, hk => by
    have hle:=fst_le (· ==92) (D.drop i)
    rw [List.length_drop] at hle
    have hi:i<D.length:=by omega
    have hg:(D.drop i)[0]?=some D[i]:=by rw [List.getElem?_drop,Nat.add_zero];exact List.getElem?_eq_getElem hi
    have hn:=fst_before (p:=(· ==92)) (D:=D.drop i) (j:=0) (by omega) hg
    have hd:D.drop i=D[i]::D.drop (i+1):=List.drop_eq_getElem_cons hi
    have hc:D[i]≠92:=by simpa using hn
    have hr:Ins (D.drop (i+1)):=by
      have:=h.ins
      rw [hd] at this
      rcases ins_cases this with e | ⟨c,r',e,_,_,hr⟩ | ⟨d',r',e,_⟩ | ⟨a,b,c,d',r',e,_⟩
      · cases e
      · rw [(List.cons.inj e).2];exact hr
      · exact absurd (List.cons.inj e).1 hc
      · exact absurd (List.cons.inj e).1 hc
    have h1:Ue D (i+1) (out++ [D[i]]):=⟨hr,by rw [h.eq,hd,unq_cons hc,List.append_assoc];rfl,hi,by have:=h.len;simp;omega⟩
    have hf:fst (· ==92) (D.drop i)=fst (· ==92) (D.drop (i+1))+1:=by rw [hd];simp [fst,hc]
    have h2:=Ue.plain k h1 (by omega)
    rw [show i+(k+1)=i+1+k by omega]
    have e:out++ [D[i]]++(D.drop (i+1)).take k=out++(D.drop i).take (k+1):=by rw [hd,List.take_succ_cons,List.append_assoc];rfl
    rw [←e];exact h2
theorem Ue.start {D:Str}(h:Ins D):Ue D 0 []:=⟨h,rfl,Nat.zero_le _,Nat.le_refl _⟩
theorem Ue.esc {D:Str}{i:Nat}{out:Str}(h:Ue D i out) (h92:D[i]?=some 92):Ue D (i+(es (D.drop i)).1) (out++(es (D.drop i)).2):=by
  have hh:(D.drop i).head?=some 92:=by rw [List.head?_drop];exact h92
  obtain ⟨h1,h2,h3,h4,_⟩:=es_step h.ins hh
  rw [List.length_drop] at h3
  refine ⟨by rw [←List.drop_drop];exact h2,by rw [h.eq,h1,List.append_assoc,List.drop_drop],by have:=h.le;omega,by have:=h.len;simp;omega⟩
theorem Ue.all {D:Str}{i:Nat}{out:Str}(h:Ue D i out) (hi:D.length≤i):unq D=out:=by
  have:=h.eq
  rw [List.drop_of_length_le hi,show unq []=[] from by rw [unq],List.append_nil] at this
  exact this
end Js
namespace Go.Sx
open Go.RowKit Go.Proofs Js
def EV (a:Addr):Value:= .iface 118 (.pointer (some a))
structure JB (ea:Nat→Addr) (N:Nat) (w:World):Prop where
  lt:30<N
  cfg:w.rangeAt 12 0 CFG
  tab:∀ d,escLetter d=true→w.cell? ⟨16,d.toNat,none⟩=some (.int .u8 ((short d).toNat:Int))
  errs:∀ k,k<11→w.cell? ⟨k,0,none⟩=some (EV (ea k))∧(ea k).block<N
  syn:w.cell? ⟨14,0,none⟩=some (EV (ea 11))∧(ea 11).block<N
  apart:∀ j k,j<12→k<12→j≠k→ea j≠ea k
  cel:∀ k,k<12→∃ ca ta,w.heap[(ea k).block]?=some (.cells ca ta (0,0))
theorem JB.ebk {ea:Nat→Addr}{N:Nat}{w:World}(h:JB ea N w) {k:Nat}(hk:k<12):(ea k).block<N:=by
  rcases Nat.lt_or_ge k 11 with h1 | h1
  · exact (h.errs k h1).2
  · rw [show k=11 by omega];exact h.syn.2
theorem JB.keep {ea:Nat→Addr}{N M:Nat}{w w':World}(h:JB ea N w) (hN:N≤M) (hB:Below M w w'):JB ea N w':=by
  have h30:=h.lt
  exact ⟨h30,fun i u hi=>(hB.cell (show 12<M by omega)).trans (h.cfg i u hi),fun d hd=>(hB.cell (show 16<M by omega)).trans (h.tab d hd),fun k hk=>⟨(hB.cell (show k<M by omega)).trans (h.errs k hk).1,(h.errs k hk).2⟩,
    ⟨(hB.cell (show 14<M by omega)).trans h.syn.1,h.syn.2⟩,h.apart,fun k hk=>by obtain ⟨ca,ta,hc⟩:=h.cel k hk;exact ⟨ca,ta,(hB.block _ (Nat.lt_of_lt_of_le (h.ebk hk) hN)).trans hc⟩⟩
theorem JB.mono {ea:Nat→Addr}{N M:Nat}{w:World}(h:JB ea N w) (hN:N≤M):JB ea M w:=
  ⟨Nat.lt_of_lt_of_le h.lt hN,h.cfg,h.tab,fun k hk=>⟨(h.errs k hk).1,Nat.lt_of_lt_of_le (h.errs k hk).2 hN⟩,⟨h.syn.1,Nat.lt_of_lt_of_le h.syn.2 hN⟩,h.apart,h.cel⟩
theorem JB.below {ea:Nat→Addr}{w w':World}(h:JB ea w.heap.size w) (hB:Below w.heap.size w w'):JB ea w'.heap.size w':=(h.keep (Nat.le_refl _) hB).mono hB.size
theorem JB.mem {ea:Nat→Addr}{B:Nat}{wc w:World}{L:List Bk}(h:JB ea B wc) (hM:Mem B wc L w):JB ea w.heap.size w:=(h.keep (Nat.le_refl _) hM.below).mono hM.base

end Go.Sx