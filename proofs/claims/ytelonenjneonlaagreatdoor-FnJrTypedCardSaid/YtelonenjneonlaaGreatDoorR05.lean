/- Part 5 of the proof of FnJrTyped: the statement Rows.FnJrTypedCardSaid; no further condition. -/
import Derived.Test.YtelonenjneonlaaGreatDoorR04
import GoSem.PinnedTables
set_option linter.all false
set_option exponentiation.threshold 3000
namespace Js
def Qs (T:Str) (b e:Nat):Prop:=b≤e∧e≤T.length∧∃ i,Ins i∧sub T b e=34::i++ [34]
mutual
def WfPl (T:Str):Place→Prop
  | .mk k b e ns kids=>(k=3→b≤e∧e≤T.length)∧(k=4→Qs T b e)∧(∀ x∈ns,Qs T x.1 x.2)∧ns.length≤T.length∧kids.length≤T.length∧WfPls T kids
def WfPls (T:Str):List Place→Prop
  | []=>True
  | p::ps=>WfPl T p∧WfPls T ps
end
theorem WfPls.at_ {T:Str}:∀ {ps:List Place},WfPls T ps→∀ p∈ps,WfPl T p
  | [],_,p,hp=>by cases hp
  | q :: ps, h, p, hp => by
    simp only [WfPls] at h
    rcases List.mem_cons.1 hp with rfl | hp
    · exact h.1
    · exact WfPls.at_ h.2 p hp
theorem Qs.of {T s r q:Str}(hs:Sfx T (34::s)) (h:pStr s=some q):Sfx T q∧q.length+1≤s.length∧Qs T (T.length - (34::s).length) (T.length - q.length):=by
  obtain ⟨i,hi,hin⟩:=ins_split h
  subst hi
  have e1:34::(i++34::q)=(34::i++ [34])++q:=by simp
  obtain ⟨pre,hT⟩:=hs
  rw [e1] at hT ⊢
  have hl:=congrArg List.length hT
  simp only [List.length_append] at hl
  refine ⟨⟨pre++(34::i++ [34]),by rw [hT];simp⟩,by simp,by simp only [List.length_append];omega,by omega,i,hin,sub_at hT⟩
theorem Sfx.le {T r:Str}(h:Sfx T r):r.length≤T.length:=by have:=h.len;omega
theorem num_sfx {T s q:Str}(hs:Sfx T s) (h:pNum s=some q):Sfx T q∧q.length<s.length∧T.length - s.length≤T.length - q.length∧T.length - q.length≤T.length:=by
  obtain ⟨t,rfl,ht⟩:=num_split h
  have hne:0<t.length:=by
    cases t with
    | nil=>exact absurd (show pNum []=some [] from ht) (by decide)
    | cons c t=>simp
  refine ⟨hs.tail,by simp;omega,by simp;omega,by omega⟩
theorem word_sfx {T u s q:Str}(hs:Sfx T s) (h:pWord u s=some q):Sfx T q∧q.length+u.length=s.length:=by
  have:=word_split h
  subst this
  exact ⟨hs.tail,by simp;omega⟩
theorem Sfx.takes {T r q:Str}{d:UInt8}(h:Sfx T r) (e:pTake d r=some q):Sfx T q∧q.length+1=r.length:=by
  have:=pTake_some.1 e
  subst this
  exact ⟨h.next.1,rfl⟩
theorem wf_all (T:Str):∀ n,
    (∀ s p q,Sfx T s→pVal T.length n s=some (p,q)→WfPl T p∧Sfx T q∧q.length<s.length)∧
    (∀ s ps q,Sfx T s→pElems T.length n s=some (ps,q)→WfPls T ps∧Sfx T q∧ps.length+q.length≤s.length)∧
    (∀ s ns ps q,Sfx T s→pMems T.length n s=some (ns,ps,q)→(∀ x∈ns,Qs T x.1 x.2)∧WfPls T ps∧Sfx T q∧ns.length=ps.length∧ps.length+q.length≤s.length)
  | 0=>⟨fun _ _ _ _ h=>by simp [pVal] at h,fun _ _ _ _ h=>by simp [pElems] at h,fun _ _ _ _ _ h=>by simp [pMems] at h⟩
  | n + 1 => by
    obtain ⟨ihv,ihe,ihm⟩:=wf_all T n
    refine ⟨?_,?_,?_⟩
    · intro s p q hs h
      cases s with
      | nil=>simp [pVal] at h
      | cons c s =>
        have hs1:=hs.next.1
        have hs2:=hs1.of_skip
        have hsl:=skip_len s
        have hTl:=hs2.le
        simp only [pVal] at h
        split at h
        · rename_i hc;subst hc
          split at h
          · rename_i r2 hr2
            obtain ⟨rfl,rfl⟩:=Prod.mk.inj (Option.some.inj h)
            obtain ⟨h1,h2⟩:=hs2.takes hr2
            exact ⟨by simp [WfPl,WfPls],h1,by simp only [List.length_cons];omega⟩
          · obtain ⟨⟨ns,ps,r'⟩,hx,he⟩:=Option.map_eq_some_iff.1 h
            obtain ⟨rfl,rfl⟩:=Prod.mk.inj he
            obtain ⟨h1,h2,h3,h4,h5⟩:=ihm _ ns ps r' hs2 hx
            refine ⟨?_,h3,by simp only [List.length_cons];omega⟩
            simp only [WfPl]
            exact ⟨by simp,by simp,h1,by omega,by omega,h2⟩
        · split at h
          · rename_i hc;subst hc
            split at h
            · rename_i r2 hr2
              obtain ⟨rfl,rfl⟩:=Prod.mk.inj (Option.some.inj h)
              obtain ⟨h1,h2⟩:=hs2.takes hr2
              exact ⟨by simp [WfPl,WfPls],h1,by simp only [List.length_cons];omega⟩
            · obtain ⟨⟨ps,r'⟩,hx,he⟩:=Option.map_eq_some_iff.1 h
              obtain ⟨rfl,rfl⟩:=Prod.mk.inj he
              obtain ⟨h2,h3,h5⟩:=ihe _ ps r' hs2 hx
              refine ⟨?_,h3,by simp only [List.length_cons];omega⟩
              simp only [WfPl]
              exact ⟨by simp,by simp,by simp,by simp,by omega,h2⟩
          · split at h
            · rename_i hc;subst hc
              obtain ⟨r2,hx,he⟩:=Option.map_eq_some_iff.1 h
              obtain ⟨rfl,rfl⟩:=Prod.mk.inj he
              obtain ⟨h1,h2,h3⟩:=Qs.of (r:=[]) hs hx
              refine ⟨?_,h1,by simp only [List.length_cons];omega⟩
              simp only [WfPl,WfPls]
              exact ⟨by simp,fun _=>h3,by simp,by simp,by simp,trivial⟩
            · split at h
              · obtain ⟨r2,hx,he⟩:=Option.map_eq_some_iff.1 h
                obtain ⟨rfl,rfl⟩:=Prod.mk.inj he
                obtain ⟨h1,h2,h3,h4⟩:=num_sfx hs hx
                refine ⟨?_,h1,h2⟩
                simp only [WfPl,WfPls]
                exact ⟨fun _=>⟨h3,h4⟩,by simp,by simp,by simp,by simp,trivial⟩
              · split at h
                · rename_i r2 hx
                  obtain ⟨rfl,rfl⟩:=Prod.mk.inj (Option.some.inj h)
                  obtain ⟨h1,h2⟩:=word_sfx hs hx
                  refine ⟨by simp [WfPl,WfPls],h1,by simp only [List.length_cons,List.length_nil] at h2 ⊢;omega⟩
                · split at h
                  · rename_i r2 hx
                    obtain ⟨rfl,rfl⟩:=Prod.mk.inj (Option.some.inj h)
                    obtain ⟨h1,h2⟩:=word_sfx hs hx
                    refine ⟨by simp [WfPl,WfPls],h1,by simp only [List.length_cons,List.length_nil] at h2 ⊢;omega⟩
                  · obtain ⟨r2,hx,he⟩:=Option.map_eq_some_iff.1 h
                    obtain ⟨rfl,rfl⟩:=Prod.mk.inj he
                    obtain ⟨h1,h2⟩:=word_sfx hs hx
                    refine ⟨by simp [WfPl,WfPls],h1,by simp only [List.length_cons,List.length_nil] at h2 ⊢;omega⟩
    · intro s ps q hs h
      simp only [pElems] at h
      split at h
      · simp at h
      · rename_i p r1 hv
        obtain ⟨h1,h2,h3⟩:=ihv s p r1 hs hv
        have h4:=h2.of_skip
        have h5:=skip_len r1
        split at h
        · rename_i r2 hr2
          obtain ⟨rfl,rfl⟩:=Prod.mk.inj (Option.some.inj h)
          obtain ⟨h6,h7⟩:=h4.takes hr2
          exact ⟨⟨h1,trivial⟩,h6,by simp only [List.length_cons,List.length_nil];omega⟩
        · split at h
          · simp at h
          · rename_i r2 hr2
            obtain ⟨⟨ps',r'⟩,hx,he⟩:=Option.map_eq_some_iff.1 h
            obtain ⟨rfl,rfl⟩:=Prod.mk.inj he
            obtain ⟨h6,h7⟩:=h4.takes hr2
            have h8:=skip_len r2
            obtain ⟨h9,h10,h11⟩:=ihe _ ps' r' h6.of_skip hx
            exact ⟨⟨h1,h9⟩,h10,by simp only [List.length_cons];omega⟩
    · intro s ns ps q hs h
      simp only [pMems] at h
      split at h
      · simp at h
      · rename_i r0 hq
        obtain ⟨s1,hs1,hstr⟩:=Option.bind_eq_some_iff.1 hq
        obtain rfl:=pTake_some.1 hs1
        obtain ⟨h1,h2,h3⟩:=Qs.of (r:=[]) hs hstr
        have h4:=h1.of_skip
        have h5:=skip_len r0
        split at h
        · simp at h
        · rename_i r1 hr1
          obtain ⟨h6,h7⟩:=h4.takes hr1
          have h8:=skip_len r1
          split at h
          · simp at h
          · rename_i p r2 hv
            obtain ⟨h9,h10,h11⟩:=ihv _ p r2 h6.of_skip hv
            have h12:=h10.of_skip
            have h13:=skip_len r2
            split at h
            · rename_i r3 hr3
              have h:=Option.some.inj h
              simp only [Prod.mk.injEq] at h
              obtain ⟨rfl,rfl,rfl⟩:=h
              obtain ⟨h14,h15⟩:=h12.takes hr3
              refine ⟨?_,⟨h9,trivial⟩,h14,rfl,by simp only [List.length_cons,List.length_nil];omega⟩
              intro x hx
              rw [List.mem_singleton.1 hx]
              exact h3
            · split at h
              · simp at h
              · rename_i r3 hr3
                obtain ⟨⟨ns',ps',r'⟩,hx,he⟩:=Option.map_eq_some_iff.1 h
                simp only [Prod.mk.injEq] at he
                obtain ⟨rfl,rfl,rfl⟩:=he
                obtain ⟨h14,h15⟩:=h12.takes hr3
                have h16:=skip_len r3
                obtain ⟨h17,h18,h19,h20,h21⟩:=ihm _ ns' ps' r' h14.of_skip hx
                refine ⟨?_,⟨h9,h18⟩,h19,by simp [h20],by simp only [List.length_cons];omega⟩
                intro x hx
                rcases List.mem_cons.1 hx with rfl | hx
                · exact h3
                · exact h17 x hx
theorem text_wf {T:Str}{p:Place}(h:pText T=some p):WfPl T p:=by
  unfold pText at h
  split at h
  · cases h
  · rename_i p' r hv
    split at h
    · obtain rfl:=Option.some.inj h
      exact ((wf_all T _).1 _ _ _ (Sfx.refl T).of_skip hv).1
    · cases h
end Js
namespace Go.Sx
open Go.RowKit Go.Proofs Js Go.Proofs.YtelonenjneonlaaGreatDoorW.PrintWords
theorem SlOf.row {TB:List Bk}{e m:Nat}{v:Value}{n:Nat}{xs:List Value}(h:SlOf TB e m v n xs) (hn:0<n):
    ∃ g cap,v= .slice (some ⟨g,0,none⟩) n cap∧∀ {B:Nat}{w0 w:World}{L':List Bk},Mem B w0 L' w→TB⊆L'→∀ k u,xs[k]?=some u→w.cell? ⟨g,k,none⟩=some u:=by
  rcases h.2 with ⟨_,h0⟩ | ⟨g,cap,vs,hm,rfl,_,_,_,ht⟩
  · omega
  · refine ⟨g,cap,rfl,fun hM hs k u hk=> ?_⟩
    rw [blk_cell (hM.held _ (hs hm)).2]
    rw [←ht,List.getElem?_take] at hk
    split at hk
    · simpa using hk
    · cases hk
theorem spans_at:∀ {ns:List (Nat×Nat)}{j:Nat}{x:Nat×Nat},ns[j]?=some x→(spans ns)[j*2]?=some (.int .i64 (x.1:Int))∧(spans ns)[j*2+1]?=some (.int .i64 (x.2:Int))
  | [],j,x,h=>by simp at h
  | y::ns,0,x,h=>by simp only [List.getElem?_cons_zero,Option.some.injEq] at h;subst h;exact ⟨rfl,rfl⟩
  | y :: ns, j + 1, x, h => by
    have:=spans_at (ns:=ns) (j:=j) (x:=x) (by simpa using h)
    rw [show (j+1)*2=j*2+1+1 by omega]
    exact this
theorem gives_loadMid {P:Program}{n:Nat}{K:List (Nat×Value)}{a:Act}{o:Oper}{x:Operand}{t:TypeId}{d:TypeDesc}{b off:Nat}{cs:List Value}(hF:Fr n K a) {w:World}(hop:o.op= .load t x) (hx:ev K x=some (.pointer (some ⟨b,off,none⟩)))
    (hT:P.underlying t=some d) (hd:d.isRow=true) (hi:(P.info? t).map (·.size)=some cs.length) (hc:w.rangeAt b off cs):(execOp a.eval o).run P w= .ok (.value (.agg cs.toArray)) w:=by
  have e:=run_loadAt_mid (P:=P) w b off t cs d hc hT hd hi
  simp only [execOp,hop,hF.ev hx]
  simp [e]
theorem SlOf.small {TB:List Bk}{e m:Nat}{v:Value}{n:Nat}{xs:List Value}(h:SlOf TB e m v n xs):n≤9223372036854775807:=by
  rcases h.2 with ⟨_,h0⟩ | ⟨g,cap,vs,_,_,h1,h2,_⟩
  · omega
  · simp only [maxLen] at h2;omega
end Go.Sx
namespace Js
instance (l:Str):Decidable (Digs l):=inferInstanceAs (Decidable (∀ c∈l,isDig c=true))
theorem worth_le (l r:Str):worth l≤worth (l++r):=by
  rw [worth_append]
  have:=Nat.le_mul_of_pos_right (worth l) (Nat.pow_pos (n:=r.length) (show 0<10 by decide))
  omega
theorem worth_take (s:Str) (i:Nat):worth (s.take i)≤worth s:=by
  have:=worth_le (s.take i) (s.drop i)
  rwa [List.take_append_drop] at this
theorem take_next {s:Str}{i:Nat}{c:UInt8}(h:s[i]?=some c):s.take (i+1)=s.take i++ [c]:=by rw [List.take_add_one,h];rfl
def u64 (s:Str):Option Nat:=if s≠ []∧Digs s∧worth s<2^64 then some (worth s) else none
theorem u64_nil:u64 []=none:=by simp [u64]
theorem u64_bad {s:Str}{i:Nat}{c:UInt8}(h:s[i]?=some c) (hc:isDig c=false):u64 s=none:=by
  unfold u64
  rw [if_neg]
  rintro ⟨_,hd,_⟩
  rw [hd c (List.mem_of_getElem? h)] at hc
  cases hc
theorem u64_big {s:Str}(i:Nat) (h:2^64≤worth (s.take i)):u64 s=none:=by
  unfold u64
  rw [if_neg]
  rintro ⟨_,_,hd⟩
  have:=worth_take s i
  omega
theorem Digs.next {s:Str}{i:Nat}{c:UInt8}(h:Digs (s.take i)) (hc:s[i]?=some c) (hd:isDig c=true):Digs (s.take (i+1)):=by
  rw [take_next hc]
  exact h.append fun x hx=>by rw [List.mem_singleton.1 hx];exact hd
theorem u64_all {s:Str}{i:Nat}(h0:s≠ []) (h:Digs (s.take i)) (hw:worth (s.take i)<2^64) (hi:s.length≤i):u64 s=some (worth (s.take i)):=by
  rw [List.take_of_length_le hi] at h hw ⊢
  unfold u64
  rw [if_pos ⟨h0,h,hw⟩]
def i64ok:Str→Bool
  | 45::r=>match u64 r with | some n=>decide (n≤2^63) | none=>false
  | s=>match u64 s with | some n=>decide (n<2^63) | none=>false
theorem isDig_of {c:UInt8}(h1:48≤c.toNat) (h2:c.toNat≤57):isDig c=true:=by simp [isDig,h1,h2]
theorem isDig_lo {c:UInt8}(h1:c.toNat<48):isDig c=false:=by simp [isDig];omega
theorem isDig_hi {c:UInt8}(h1:57<c.toNat):isDig c=false:=by simp [isDig];omega
def idxok (s:Str):Bool:=decide (s≠ []∧Digs s∧(1<s.length→s.head?≠some 48))
theorem idx_bad {s:Str}{i:Nat}{c:UInt8}(h:s[i]?=some c) (hc:isDig c=false):idxok s=false:=by
  unfold idxok
  rw [decide_eq_false_iff_not]
  rintro ⟨_,hd,_⟩
  rw [hd c (List.mem_of_getElem? h)] at hc
  cases hc
def Ix58 (s:Str) (i n:Nat):Prop:=n=worth (s.take i)∨(2^58≤n∧2^58≤worth (s.take i))
theorem Ix58.low {s:Str}{i n:Nat}{c:UInt8}(h:Ix58 s i n) (hn:n<2^58) (hc:s[i]?=some c):Ix58 s (i+1) (n*10+dg c):=by
  rcases h with h | ⟨h,_⟩
  · exact .inl (by rw [take_next hc,worth_snoc,h])
  · omega
theorem Ix58.high {s:Str}{i n:Nat}{c:UInt8}(h:Ix58 s i n) (hn: ¬ n<2^58) (hc:s[i]?=some c):Ix58 s (i+1) (2^62):=by
  refine .inr ⟨by decide,?_⟩
  rw [take_next hc]
  have:=worth_le (s.take i) [c]
  rcases h with h | ⟨_,h⟩ <;> omega
theorem xor_byte (a b c d:Nat) (hb:b<256) (hd:d<256):(b+256*a)^^^(d+256*c)=(b^^^d)+256*(a^^^c):=by
  have h1:((b+256*a)^^^(d+256*c)) / 2^8=(b+256*a) / 2^8^^^(d+256*c) / 2^8:=Nat.xor_div_two_pow
  have h2:((b+256*a)^^^(d+256*c)) % 2^8=(b+256*a) % 2^8^^^(d+256*c) % 2^8:=Nat.xor_mod_two_pow
  rw [show (b+256*a) / 2^8=a by omega,show (d+256*c) / 2^8=c by omega] at h1
  rw [show (b+256*a) % 2^8=b by omega,show (d+256*c) % 2^8=d by omega] at h2
  omega
def le8 (a b c d e f g h:Nat):Nat:=a+256*(b+256*(c+256*(d+256*(e+256*(f+256*(g+256*h))))))
theorem xor_le8 {a b c d e f g h q:Nat}(ha:a<256) (hb:b<256) (hc:c<256) (hd:d<256) (he:e<256) (hf:f<256) (hg:g<256) (hh:h<256) (hq:q<256):
    le8 a b c d e f g h^^^le8 q q q q q q q q=le8 (a^^^q) (b^^^q) (c^^^q) (d^^^q) (e^^^q) (f^^^q) (g^^^q) (h^^^q):=by
  unfold le8
  rw [xor_byte _ _ _ _ ha hq,xor_byte _ _ _ _ hb hq,xor_byte _ _ _ _ hc hq,xor_byte _ _ _ _ hd hq,xor_byte _ _ _ _ he hq,xor_byte _ _ _ _ hf hq,xor_byte _ _ _ _ hg hq]
def hitN (x:Nat):Nat:=((x+18446744073709551616 - 72340172838076673) % 18446744073709551616)&&&(18446744073709551615 - x)&&&9259542123273814144
theorem and_bit {x y z k:Nat}(h:x&&&y&&&z=0) (h1:x / 2^k % 2=1) (h2:y / 2^k % 2=1) (h3:z / 2^k % 2=1):False:=by
  have h4:(x&&&y&&&z).testBit k=true:=by
    rw [Nat.testBit_and,Nat.testBit_and,Nat.testBit_eq_decide_div_mod_eq,Nat.testBit_eq_decide_div_mod_eq,Nat.testBit_eq_decide_div_mod_eq,h1,h2,h3];rfl
  rw [h,Nat.zero_testBit] at h4
  cases h4
theorem hit_none {a b c d e f g h:Nat}(ha:a<256) (hb:b<256) (hc:c<256) (hd:d<256) (he:e<256) (hf:f<256) (hg:g<256) (hh:h<256)
    (h0:hitN (le8 a b c d e f g h)=0):a≠0∧b≠0∧c≠0∧d≠0∧e≠0∧f≠0∧g≠0∧h≠0:=by
  unfold hitN le8 at h0
  have k0:a≠0:=by rintro rfl;exact and_bit (k:=7) h0 (by omega) (by omega) (by decide)
  have k1:b≠0:=by rintro rfl;exact and_bit (k:=15) h0 (by omega) (by omega) (by decide)
  have k2:c≠0:=by rintro rfl;exact and_bit (k:=23) h0 (by omega) (by omega) (by decide)
  have k3:d≠0:=by rintro rfl;exact and_bit (k:=31) h0 (by omega) (by omega) (by decide)
  have k4:e≠0:=by rintro rfl;exact and_bit (k:=39) h0 (by omega) (by omega) (by decide)
  have k5:f≠0:=by rintro rfl;exact and_bit (k:=47) h0 (by omega) (by omega) (by decide)
  have k6:g≠0:=by rintro rfl;exact and_bit (k:=55) h0 (by omega) (by omega) (by decide)
  have k7:h≠0:=by rintro rfl;exact and_bit (k:=63) h0 (by omega) (by omega) (by decide)
  exact ⟨k0,k1,k2,k3,k4,k5,k6,k7⟩
theorem xor_ne {a q:Nat}(h:a^^^q≠0):a≠q:=by rintro rfl;exact h (Nat.xor_self _)
theorem xor_lt8 {a q:Nat}(ha:a<256) (hq:q<256):a^^^q<256:=Nat.xor_lt_two_pow (n:=8) ha hq
def word8:Str→Nat
  | [a,b,c,d,e,f,g,h]=>le8 a.toNat b.toNat c.toNat d.toNat e.toNat f.toNat g.toNat h.toNat
  | _=>0
theorem word8_lt (l:Str):word8 l<2^64:=by
  unfold word8
  split
  · next a b c d e f g h=>
    have:=a.toNat_lt;have:=b.toNat_lt;have:=c.toNat_lt;have:=d.toNat_lt;have:=e.toNat_lt;have:=f.toNat_lt;have:=g.toNat_lt;have:=h.toNat_lt
    unfold le8;omega
  · decide
theorem eight {l:Str}(h:l.length=8):∃ a b c d e f g i,l=[a,b,c,d,e,f,g,i]:=by
  match l,h with
  | [a,b,c,d,e,f,g,i],_=>exact ⟨a,b,c,d,e,f,g,i,rfl⟩
theorem hit_free {l:Str}(hl:l.length=8) {q:UInt8}(h:hitN (word8 l^^^le8 q.toNat q.toNat q.toNat q.toNat q.toNat q.toNat q.toNat q.toNat)=0):∀ c∈l,c≠q:=by
  obtain ⟨a,b,c,d,e,f,g,i,rfl⟩:=eight hl
  have ha:=a.toNat_lt;have hb:=b.toNat_lt;have hc:=c.toNat_lt;have hd:=d.toNat_lt;have he:=e.toNat_lt;have hf:=f.toNat_lt;have hg:=g.toNat_lt;have hi:=i.toNat_lt;have hq:=q.toNat_lt
  simp only [word8] at h
  rw [xor_le8 ha hb hc hd he hf hg hi hq] at h
  obtain ⟨h1,h2,h3,h4,h5,h6,h7,h8⟩:=hit_none (xor_lt8 ha hq) (xor_lt8 hb hq) (xor_lt8 hc hq) (xor_lt8 hd hq) (xor_lt8 he hq) (xor_lt8 hf hq) (xor_lt8 hg hq) (xor_lt8 hi hq) h
  have key:∀ {x:UInt8},x.toNat^^^q.toNat≠0→x≠q:=fun hx e=>xor_ne hx (congrArg UInt8.toNat e)
  intro x hx
  simp only [List.mem_cons,List.not_mem_nil,or_false] at hx
  rcases hx with rfl | rfl | rfl | rfl | rfl | rfl | rfl | rfl
  · exact key h1
  · exact key h2
  · exact key h3
  · exact key h4
  · exact key h5
  · exact key h6
  · exact key h7
  · exact key h8
theorem or_shift {a b k:Nat}(ha:a<2^k):a ||| b*2^k=a+b*2^k:=by
  rw [Nat.mul_comm b,Nat.or_comm,←Nat.two_pow_add_eq_or_of_lt ha,Nat.add_comm]
theorem bits_eq {x y:Nat}:(x ||| y=0)↔(x=0∧y=0):=Nat.or_eq_zero_iff
structure Cls (D:Str) (q:Nat):Prop where
  ends:D[q]?=some 34
  odd:∀ p,p<q→D[p]?=some 34→tr D 0 p % 2=1
  even:tr D 0 q % 2=0
theorem Cls.of {i r:Str}(h:Quo i):Cls (i++34::r) i.length:=by
  have htr:∀ x,x≤i.length→tr (i++34::r) 0 x=trail (i.take x):=by
    intro x hx
    unfold tr
    rw [List.drop_zero,Nat.sub_zero,List.take_append_of_le_length hx]
  refine ⟨by rw [List.getElem?_append_right (Nat.le_refl _),Nat.sub_self];rfl,fun p hp h34=> ?_,?_⟩
  · rw [htr p (Nat.le_of_lt hp)]
    rw [List.getElem?_append_left hp] at h34
    refine h.2 (i.take p) (i.drop (p+1)) ?_
    conv=>lhs;rw [←List.take_append_drop p i]
    rw [drop_cons h34]
  · rw [htr _ (Nat.le_refl _),List.take_length];exact h.1
theorem Cls.small {D:Str}{q:Nat}(h:Cls D q):q<D.length:=(List.getElem?_eq_some_iff.1 h.ends).1
theorem Cls.get {D:Str}{q p:Nat}(h:Cls D q) (hp:p≤q):∃ c,D[p]?=some c:=⟨_,List.getElem?_eq_getElem (by have:=h.small;omega)⟩
theorem Cls.hit {D:Str}{q p:Nat}(h:Cls D q) (hp:p≤q) (h34:D[p]?=some 34) (he:tr D 0 p % 2=0):p=q:=by
  rcases Nat.lt_or_eq_of_le hp with hl | e
  · have:=h.odd p hl h34;omega
  · exact e
theorem Cls.go {D:Str}{q p:Nat}(h:Cls D q) (hp:p≤q) (ho:tr D 0 p % 2=1):p+1≤q:=by
  rcases Nat.lt_or_eq_of_le hp with hl | e
  · exact hl
  · subst e;have:=h.even;omega
theorem Cls.step {D:Str}{q p:Nat}{c:UInt8}(h:Cls D q) (hp:p≤q) (hc:D[p]?=some c) (hn:c≠34):p+1≤q:=by
  rcases Nat.lt_or_eq_of_le hp with hl | e
  · exact hl
  · subst e;rw [h.ends] at hc;exact absurd (Option.some.inj hc).symm hn
def esc (D:Str) (i:Nat):Bool:=(D.take i).any (· ==92)
theorem esc_next {D:Str}{i:Nat}{c:UInt8}(h:D[i]?=some c):esc D (i+1)=(esc D i || c==92):=by
  unfold esc;rw [take_next h,List.any_append];simp
theorem esc_none {D:Str}{i:Nat}(h:esc D i=false):∀ x,x<i→D[x]?≠some 92:=by
  intro x hx hc
  have:=List.any_eq_false.1 h 92 (List.mem_of_getElem? (i:=x) (by rw [List.getElem?_take,if_pos hx];exact hc))
  simp at this
theorem esc_tr {D:Str}{i:Nat}(h:esc D i=false) (hi:i≤D.length):tr D 0 i=0:=by
  have hn:=esc_none h
  unfold tr
  rw [List.drop_zero,Nat.sub_zero]
  clear h
  induction i with
  | zero=>rfl
  | succ i ih =>
    have hc:D[i]?=some (D[i]'(by omega)):=List.getElem?_eq_getElem (by omega)
    rw [take_next hc,trail_snoc,if_neg]
    intro e
    exact hn i (Nat.lt_succ_self i) (by rw [hc,e])
theorem esc_eight {D:Str}{i:Nat}(h:esc D i=false) (h8:∀ c∈(D.drop i).take 8,c≠92):esc D (i+8)=false:=by
  unfold esc at h ⊢
  rw [List.take_add,List.any_append,h,Bool.false_or,List.any_eq_false]
  intro c hc
  simpa using h8 c hc
theorem cls_eight {D:Str}{i q:Nat}(h:Cls D q) (hi:i≤q) (h8:∀ c∈(D.drop i).take 8,c≠34):i+8≤q:=by
  rcases Nat.lt_or_ge q (i+8) with hl | hg
  · refine absurd rfl (h8 34 ?_)
    refine List.mem_of_getElem? (i:=q - i) ?_
    rw [List.getElem?_take,if_pos (by omega),List.getElem?_drop,show i+(q - i)=q by omega]
    exact h.ends
  · exact hg
end Js
namespace Go.Sx
open Go.RowKit Go.Proofs Js
def so (off p c:Nat):Nat:=if c=p then off else off+p
theorem Bts.so {w:World}{b o c:Nat}{D:Str}(h:Bts w b o D) (p:Nat) (hc:D.length≤c):Bts w b (so o p c) (D.drop p):=by
  unfold Sx.so
  split
  · next e=>rw [List.drop_of_length_le (by omega)];exact ⟨h.1,fun j c hj=>by simp at hj⟩
  · exact h.drop p
theorem Bts.back {w w':World}{b o:Nat}{D:Str}(h:Bts w' b o D) (hb:Below w.heap.size w w') (hlt:b<w.heap.size):Bts w b o D:=⟨hlt,fun j c hj=>(hb.cell (show b<w.heap.size from hlt)).symm.trans (h.2 j c hj)⟩
theorem Bts.seg {w:World}{b o c:Nat}{D t r:Str}(h:Bts w b o D) (p:Nat) (hc:D.length≤c) (e:D.drop p=t++r):Bts w b (Sx.so o p c) t:=by
  have:=(h.so p hc).take t.length
  rw [e,List.take_left] at this
  exact this
section
variable {n:Nat}{K:List (Nat×Value)}{a:Act}{o:Oper}{P:Program}
theorem gives_extract {i:Nat}{x:Operand}{vs:List Value}{v:Value}(hF:Fr n K a) (hop:o.op= .extract x i) (hx:ev K x=some (.tuple vs.toArray)) (hv:vs[i]?=some v) (w:World):(execOp a.eval o).run P w= .ok (.value v) w:=by
  simp only [execOp,hop,hF.ev hx]
  simp [Instr.extract,hv]
theorem gives_bytesStrB {x:Operand}{b off l c:Nat}(bs:List UInt8) (hF:Fr n K a) (hop:o.op= .convert 66 9 x) (hx:ev K x=some (.slice (some ⟨b,off,none⟩) l c)) (hl:l=bs.length) {w:World}(hD:Bts w b off bs):(execOp a.eval o).run Tryz.prog w= .ok (.value (.string (mkS bs))) w:=by
  have hr:=run_convert_bytes_arg (P:=Tryz.prog) w 66 5 Tryz.underlying66 Tryz.underlying5 b off l c (bs.map fun c=>(c.toNat:Int)) (by simp [hl]) (by
    intro i hi
    have hib:i<bs.length:=by omega
    have:=hD.2 i _ (List.getElem?_eq_getElem hib)
    rw [this]
    simp [hib]) 9 Tryz.underlying9
  have e:strOfNums (bs.map fun c=>(c.toNat:Int))=mkS bs:=by
    unfold strOfNums mkS
    have e3:((fun n:Int=>UInt8.ofNat n.toNat) ∘ fun c:UInt8=>(c.toNat:Int))=id:=by
      funext c
      simp
    simp [List.map_map,e3]
  rw [e] at hr
  simp only [execOp,hop,hF.ev hx]
  simp [hr]
theorem gives_slFrom {x i:Operand}{t e:TypeId}{b off l c:Nat}{k:IntKind}{y:Int}(p:Nat) (hF:Fr n K a) (hop:o.op= .slice t x (some i) none none) (hT:Tryz.prog.underlying t=some (.slice e)) (hs:(Tryz.prog.info? e).map (·.size)=some 1)
    (hx:ev K x=some (.slice (some ⟨b,off,none⟩) l c)) (hi:ev K i=some (.int k y)) (hy:y=(p:Int)) (hp:p≤l) (w:World):(execOp a.eval o).run Tryz.prog w= .ok (.value (.slice (some ⟨b,so off p c,none⟩) (l - p) (c - p))) w:=by
  subst hy
  obtain ⟨ie,he,hsz⟩:=Option.map_eq_some_iff.1 hs
  have hadd:(⟨b,off,none⟩:Addr).add p=⟨b,off+p,none⟩:=by unfold Addr.add;split <;> simp_all
  have e:(Instr.slice t (.slice (some ⟨b,off,none⟩) l c) (some (.int k (p:Int))) none none).run Tryz.prog w= .ok (.slice (some ⟨b,so off p c,none⟩) (l - p) (c - p)) w:=by
    simp [Instr.slice,Instr.sliceBounds,Instr.sliceBound,asIntOf,run_underlying hT,hp,sizeOf,typeInfo,he,hsz,hadd]
    unfold so;split <;> simp_all
  simp only [execOp,hop,Option.map_some,Option.map_none,hF.ev hx,hF.ev hi,Instr.sliceAt]
  simp [run_underlying hT,e]
theorem gives_slFT {x i j:Operand}{t e:TypeId}{b off l c:Nat}{k k':IntKind}{y z:Int}(p q:Nat) (hF:Fr n K a) (hop:o.op= .slice t x (some i) (some j) none) (hT:Tryz.prog.underlying t=some (.slice e)) (hs:(Tryz.prog.info? e).map (·.size)=some 1)
    (hx:ev K x=some (.slice (some ⟨b,off,none⟩) l c)) (hi:ev K i=some (.int k y)) (hj:ev K j=some (.int k' z)) (hy:y=(p:Int)) (hz:z=(q:Int)) (hp:p≤q) (hq:q≤c) (w:World):(execOp a.eval o).run Tryz.prog w= .ok (.value (.slice (some ⟨b,so off p c,none⟩) (q - p) (c - p))) w:=by
  subst hy hz
  obtain ⟨ie,he,hsz⟩:=Option.map_eq_some_iff.1 hs
  have hadd:(⟨b,off,none⟩:Addr).add p=⟨b,off+p,none⟩:=by unfold Addr.add;split <;> simp_all
  have e:(Instr.slice t (.slice (some ⟨b,off,none⟩) l c) (some (.int k (p:Int))) (some (.int k' (q:Int))) none).run Tryz.prog w= .ok (.slice (some ⟨b,so off p c,none⟩) (q - p) (c - p)) w:=by
    simp [Instr.slice,Instr.sliceBounds,Instr.sliceBound,asIntOf,run_underlying hT,hp,hq,sizeOf,typeInfo,he,hsz,hadd]
    unfold so;split <;> simp_all
  simp only [execOp,hop,Option.map_some,Option.map_none,hF.ev hx,hF.ev hi,hF.ev hj,Instr.sliceAt]
  simp [run_underlying hT,e]
theorem gives_sl3 {x j m:Operand}{t e:TypeId}{b off l c:Nat}{k k':IntKind}{y z:Int}(q:Nat) (hF:Fr n K a) (hop:o.op= .slice t x none (some j) (some m)) (hT:Tryz.prog.underlying t=some (.slice e)) (hs:(Tryz.prog.info? e).map (·.size)=some 1)
    (hx:ev K x=some (.slice (some ⟨b,off,none⟩) l c)) (hj:ev K j=some (.int k y)) (hm:ev K m=some (.int k' z)) (hy:y=(q:Int)) (hz:z=(q:Int)) (hq:q≤c) (w:World):(execOp a.eval o).run Tryz.prog w= .ok (.value (.slice (some ⟨b,off,none⟩) q q)) w:=by
  subst hy hz
  obtain ⟨ie,he,hsz⟩:=Option.map_eq_some_iff.1 hs
  have hadd:(⟨b,off,none⟩:Addr).add 0=⟨b,off,none⟩:=by unfold Addr.add;split <;> simp_all
  have e:(Instr.slice t (.slice (some ⟨b,off,none⟩) l c) none (some (.int k (q:Int))) (some (.int k' (q:Int)))).run Tryz.prog w= .ok (.slice (some ⟨b,off,none⟩) q q) w:=by
    simp [Instr.slice,Instr.sliceBounds,Instr.sliceBound,asIntOf,run_underlying hT,hq,sizeOf,typeInfo,he,hsz,hadd]
  simp only [execOp,hop,Option.map_some,Option.map_none,hF.ev hx,hF.ev hj,hF.ev hm,Instr.sliceAt]
  simp [run_underlying hT,e]
theorem gives_unot {x:Operand}{t:TypeId}{z:Int}(hF:Fr n K a) (hop:o.op= .unOp .xor t x) (hx:ev K x=some (.int .u64 z)) (r:Int) (hr:bitVal .xor .u64 18446744073709551615 z=some r) (w:World):(execOp a.eval o).run Tryz.prog w= .ok (.value (.int .u64 r)) w:=by
  simp only [bitVal,Option.some.injEq] at hr
  subst hr
  have h1:Op.unary .xor (.int .u64 z)=Op.intBits .xor .u64 18446744073709551615 z:=rfl
  simp only [execOp,hop,hF.ev hx,h1]
  simp [Op.intBits]
end
theorem xor_u64 {p q:Nat}(hp:p<2^64) (hq:q<2^64):bitVal .xor .u64 (p:Int) (q:Int)=some ((p^^^q:Nat):Int):=by
  simp only [bitVal,ofInt_nat,Option.some.injEq]
  have e:(BitVec.ofNat IntKind.u64.bits p^^^BitVec.ofNat IntKind.u64.bits q).toNat=p^^^q:=by
    rw [BitVec.toNat_xor,BitVec.toNat_ofNat,BitVec.toNat_ofNat,show IntKind.u64.bits=64 from rfl,Nat.mod_eq_of_lt hp,Nat.mod_eq_of_lt hq]
  rw [e]
  have:=Nat.xor_lt_two_pow hp hq
  exact IntWalk.u64_in _ ⟨by omega,by omega⟩
theorem and_u64 {p q:Nat}(hp:p<2^64) (hq:q<2^64):bitVal .and .u64 (p:Int) (q:Int)=some ((p&&&q:Nat):Int):=by
  simp only [bitVal,ofInt_nat,Option.some.injEq]
  have e:(BitVec.ofNat IntKind.u64.bits p&&&BitVec.ofNat IntKind.u64.bits q).toNat=p&&&q:=by
    rw [BitVec.toNat_and,BitVec.toNat_ofNat,BitVec.toNat_ofNat,show IntKind.u64.bits=64 from rfl,Nat.mod_eq_of_lt hp,Nat.mod_eq_of_lt hq]
  rw [e]
  have:=Nat.and_lt_two_pow p hq
  exact IntWalk.u64_in _ ⟨by omega,by omega⟩
theorem or_u64 {p q:Nat}(hp:p<2^64) (hq:q<2^64):bitVal .or .u64 (p:Int) (q:Int)=some ((p ||| q:Nat):Int):=by
  simp only [bitVal,ofInt_nat,Option.some.injEq]
  have e:(BitVec.ofNat IntKind.u64.bits p ||| BitVec.ofNat IntKind.u64.bits q).toNat=p ||| q:=by
    rw [BitVec.toNat_or,BitVec.toNat_ofNat,BitVec.toNat_ofNat,show IntKind.u64.bits=64 from rfl,Nat.mod_eq_of_lt hp,Nat.mod_eq_of_lt hq]
  rw [e]
  have:=Nat.or_lt_two_pow hp hq
  exact IntWalk.u64_in _ ⟨by omega,by omega⟩
theorem not_u64 {p:Nat}(hp:p<2^64):bitVal .xor .u64 18446744073709551615 (p:Int)=some ((18446744073709551615 - p:Nat):Int):=by
  simp only [bitVal,ofInt_nat,Option.some.injEq]
  have e0:BitVec.ofInt IntKind.u64.bits 18446744073709551615=BitVec.allOnes 64:=by show BitVec.ofInt 64 18446744073709551615=BitVec.allOnes 64;decide
  have e:(BitVec.ofInt IntKind.u64.bits 18446744073709551615^^^BitVec.ofNat IntKind.u64.bits p).toNat=18446744073709551615 - p:=by
    rw [e0]
    show (BitVec.allOnes 64^^^BitVec.ofNat 64 p).toNat=_
    rw [BitVec.allOnes_xor,BitVec.toNat_not,BitVec.toNat_ofNat,Nat.mod_eq_of_lt hp]
  rw [e]
  exact IntWalk.u64_in _ ⟨by omega,by omega⟩
theorem sub_w (x:Nat):IntKind.u64.wrap ((x:Int) - 72340172838076673)=(((x+18446744073709551616 - 72340172838076673) % 18446744073709551616:Nat):Int):=by
  rw [IntKind.wrap_u64];omega
def CFG:List Value:=[.bool false,.bool false,.int .i64 0]
end Go.Sx
namespace Js
def TH:Nat:=(2^54 - 1)*2^970
def big (M:Nat) (E:Int):Prop:=TH*10^(-E).toNat≤M*10^E.toNat
instance (M:Nat) (E:Int):Decidable (big M E):=inferInstanceAs (Decidable (_≤_))
theorem TH_lt:TH<10^309:=by decide+kernel
theorem TH_gt:10^308<TH:=by decide+kernel
theorem TH_2:TH<2^1024:=by decide+kernel
theorem TH_pos:0<TH:=Nat.lt_trans (Nat.pow_pos (by decide)) TH_gt
theorem big_nat (M:Nat) (k:Nat):big M (k:Int)↔TH≤M*10^k:=by
  unfold big
  rw [show (-(k:Int)).toNat=0 by omega,show ((k:Int)).toNat=k by omega,Nat.pow_zero,Nat.mul_one]
theorem big_mono {M M':Nat}{E:Int}(h:M≤M') (hb:big M E):big M' E:=Nat.le_trans hb (Nat.mul_le_mul_right _ h)
theorem big_iff {M:Nat}{E:Int}(a b:Nat) (h:(b:Int) - a=E):big M E↔TH*10^a≤M*10^b:=by
  unfold big
  rcases Int.le_total 0 E with h0 | h0
  · obtain ⟨k,rfl⟩:=Int.eq_ofNat_of_zero_le h0
    rw [show (-(k:Int)).toNat=0 by omega,show ((k:Int)).toNat=k by omega,show b=k+a by omega,Nat.pow_zero,Nat.mul_one,Nat.pow_add,←Nat.mul_assoc]
    exact (Nat.mul_le_mul_right_iff (Nat.pow_pos (by decide))).symm
  · obtain ⟨k,hk⟩:=Int.eq_ofNat_of_zero_le (show 0≤ -E by omega)
    rw [hk,show E.toNat=0 by omega,show ((k:Int)).toNat=k by omega,show a=k+b by omega,Nat.pow_zero,Nat.mul_one,Nat.pow_add,←Nat.mul_assoc]
    exact (Nat.mul_le_mul_right_iff (Nat.pow_pos (by decide))).symm
theorem big_shift (M k:Nat) (E:Int):big (M*10^k) E↔big M (E+k):=by
  rw [big_iff (-E).toNat E.toNat (by omega),big_iff (E:=E+k) (-E).toNat (k+E.toNat) (by omega),Nat.pow_add,Nat.mul_assoc]
theorem big_zero (E:Int): ¬ big 0 E:=by
  unfold big
  rw [Nat.zero_mul]
  have:=Nat.mul_pos TH_pos (Nat.pow_pos (n:=(-E).toNat) (show 0<10 by decide))
  omega
theorem big_large {M:Nat}{E:Int}(h:0<M) (hE:309≤E):big M E:=by
  obtain ⟨k,rfl⟩:=Int.eq_ofNat_of_zero_le (show 0≤E by omega)
  rw [big_nat]
  have h1:=Nat.pow_le_pow_right (n:=10) (by decide) (show 309≤k by omega)
  have h2:=TH_lt
  have h3:=Nat.le_mul_of_pos_left (10^k) h
  omega
theorem big_high {M a:Nat}{E:Int}(h:10^a≤M) (hE:309≤E+a):big M E:=by
  have:=big_large (M:=1) (E:=E+a) (by decide) hE
  rw [←big_shift,Nat.one_mul] at this
  exact big_mono h this
theorem big_low {M a:Nat}{E:Int}(h:M<10^a) (hE:E+a≤308): ¬ big M E:=by
  intro hb
  have h1:big (10^a) E:=big_mono (Nat.le_of_lt h) hb
  rw [←Nat.one_mul (10^a),big_shift,big_iff (-(E+a)).toNat (E+a).toNat (by omega),Nat.one_mul] at h1
  have h2:10^(E+a).toNat≤10^308:=Nat.pow_le_pow_right (by decide) (by omega)
  have h3:=TH_gt
  have h4:=Nat.le_mul_of_pos_right TH (Nat.pow_pos (n:=(-(E+a)).toNat) (show 0<10 by decide))
  omega
def usc (x hi lo s:Nat):Nat:=
  let P:=x*hi
  if P / 2^64 % 2^s≠0 then P / 2^64 / 2^s ||| 1
  else (P / 2^64 - (if P % 2^64<x*lo / 2^64 then 1 else 0)) / 2^s ||| (if (P % 2^64+2^64 - x*lo / 2^64) % 2^64>1 then 1 else 0)
theorem or_one_ge {a b T:Nat}(hb:b≤1) (hT:T % 2=0):T≤a ||| b↔T≤a:=by
  have h:(a ||| b) / 2=a / 2:=by
    have:=Nat.or_div_two_pow (a:=a) (b:=b) (n:=1)
    rw [Nat.pow_one] at this
    rw [this,show b / 2=0 by omega,Nat.or_zero]
  omega
theorem usc_ge {x hi lo s T:Nat}(hx:x<2^64) (hlo:lo<2^64) (hh:2^64≤x*hi) (hT:T % 2=0):T≤usc x hi lo s↔T*2^s*2^64+x*lo / 2^64≤x*hi:=by
  have hm2:x*lo / 2^64<2^64:=by
    rw [Nat.div_lt_iff_lt_mul (Nat.pow_pos (by decide))]
    exact Nat.mul_lt_mul'' hx hlo
  have hs:0<2^s:=Nat.pow_pos (by decide)
  unfold usc
  simp only
  generalize x*lo / 2^64=m2 at hm2 ⊢
  generalize hP:x*hi=P at hh ⊢
  generalize hS:2^s=S at hs ⊢
  clear hP
  have hdm:=Nat.div_add_mod P (2^64)
  have hH:=Nat.div_add_mod (P / 2^64) S
  have hHp:1≤P / 2^64:=(Nat.le_div_iff_mul_le (Nat.pow_pos (by decide))).2 (by omega)
  have hmm:P % 2^64<2^64:=Nat.mod_lt _ (Nat.pow_pos (by decide))
  generalize P / 2^64=H at*
  generalize P % 2^64=M at*
  have hml:H % S<S:=Nat.mod_lt _ hs
  split
  · next hne=>
    rw [or_one_ge (Nat.le_refl 1) hT,Nat.le_div_iff_mul_le hs]
    constructor
    · intro h
      have h1:T*S≠H:=by intro e;rw [←e,Nat.mul_mod_left] at hne;exact hne rfl
      omega
    · intro h;omega
  · rw [or_one_ge (by split <;> omega) hT,Nat.le_div_iff_mul_le hs]
    split <;> constructor <;> intro h <;> omega
theorem usc_mono {x y hi lo K:Nat}(hxy:x≤y) (hlo:lo<2^64) (hhi:1≤hi) (h:K+x*lo / 2^64≤x*hi):K+y*lo / 2^64≤y*hi:=by
  obtain ⟨d,rfl⟩:=Nat.le.dest hxy
  have h1:(x+d)*lo / 2^64≤x*lo / 2^64+d:=by
    have h2:(x+d)*lo≤x*lo+d*2^64:=by
      rw [Nat.add_mul];exact Nat.add_le_add_left (Nat.mul_le_mul_left _ (Nat.le_of_lt hlo)) _
    have h3:=Nat.div_le_div_right (c:=2^64) h2
    rw [Nat.add_mul_div_right _ _ (Nat.pow_pos (by decide))] at h3
    exact h3
  have h4:d≤d*hi:=Nat.le_mul_of_pos_right _ hhi
  rw [Nat.add_mul x d hi]
  omega
def bl (z:Nat):Nat:=if z=0 then 0 else Nat.log2 z+1
theorem bl_of {z b:Nat}(h1:2^b≤z) (h2:z<2^(b+1)):bl z=b+1:=by
  have h0:z≠0:=by have:=Nat.pow_pos (n:=b) (show 0<2 by decide);omega
  unfold bl
  rw [if_neg h0]
  have h3:=(Nat.le_log2 h0).2 h1
  have h4:=(Nat.log2_lt h0).2 h2
  omega
theorem bl_rng {z:Nat}(h:0<z):2^(bl z - 1)≤z∧z<2^bl z∧1≤bl z:=by
  unfold bl
  rw [if_neg (by omega),Nat.add_sub_cancel]
  exact ⟨Nat.log2_self_le (by omega),Nat.lt_log2_self,by omega⟩
theorem bl_le {z n:Nat}(h:z<2^n):bl z≤n:=by
  rcases Nat.eq_zero_or_pos z with h0 | h0
  · subst h0;exact Nat.zero_le _
  · have h1:=(bl_rng h0).1
    rcases Nat.lt_or_ge n (bl z) with h2 | h2
    · have:=Nat.pow_le_pow_right (n:=2) (by decide) (show n≤bl z - 1 by omega)
      omega
    · exact h2
theorem bl_shift {z q:Nat}(h:0<z / 2^q):bl z=q+bl (z / 2^q):=by
  obtain ⟨h1,h2,h3⟩:=bl_rng h
  have hq:0<2^q:=Nat.pow_pos (by decide)
  rw [show q+bl (z / 2^q)=(q+(bl (z / 2^q) - 1))+1 by omega]
  refine bl_of ?_ ?_
  · rw [Nat.pow_add,Nat.mul_comm];exact (Nat.le_div_iff_mul_le hq).1 h1
  · rw [show q+(bl (z / 2^q) - 1)+1=bl (z / 2^q)+q by omega,Nat.pow_add];exact (Nat.div_lt_iff_lt_mul hq).1 h2
def lg (p:Int):Int:=p*108853 / 32768
def eX (z:Nat) (p:Int):Int:=min 1074 (53 - (bl z:Int) - lg p)
def sX (z:Nat) (p:Int):Int:= -(eX z p - (64 - (bl z:Int))+lg p+3)
def uX (hi lo z:Nat) (p:Int):Nat:=usc (z*2^(64 - bl z)) hi lo (sX z p).toNat
def SC (u:Nat):Nat:=if 36028797018963966≤u then u / 2 ||| u % 2 else u
def k1 (u:Nat):Nat:=if 36028797018963966≤u then 1 else 0
def RND (u:Nat):Nat:=(u+1+u / 4 % 2) / 4
def rX (hi lo z:Nat) (p:Int):Nat:=RND (SC (uX hi lo z p))
def E64 (hi lo z:Nat) (p:Int):Bool:=decide (sX z p<64)&&decide (rX hi lo z p / 2^52 % 2=1)&&decide (972≤ -(eX z p - (k1 (uX hi lo z p):Int)))
theorem usc_le {x hi lo s:Nat}(hx:x<2^64) (hh:hi+2048<2^64) (hs:8≤s):usc x hi lo s≤2^56 - 8:=by
  have h1:x*hi≤2^64*(2^64 - 2049):=Nat.mul_le_mul (by omega) (by omega)
  have h2:x*hi / 2^64≤2^64 - 2049:=by
    exact Nat.div_le_of_le_mul h1
  have h3:2^8≤2^s:=Nat.pow_le_pow_right (by decide) hs
  have g:∀ H,H≤2^64 - 2049→H / 2^s≤2^56 - 9:=fun H hH=>by
    refine Nat.le_trans (Nat.div_le_div_left h3 (by decide)) ?_
    omega
  have o:∀ a b,b≤1→a ||| b≤a+1:=fun a b hb=>by
    have h:(a ||| b) / 2=a / 2:=by
      have:=Nat.or_div_two_pow (a:=a) (b:=b) (n:=1)
      rw [Nat.pow_one] at this
      rw [this,show b / 2=0 by omega,Nat.or_zero]
    omega
  unfold usc
  simp only
  split
  · have:=o (x*hi / 2^64 / 2^s) 1 (Nat.le_refl _)
    have:=g _ h2
    omega
  · refine Nat.le_trans (o _ _ (by split <;> omega)) ?_
    have:=g (x*hi / 2^64 - (if x*hi % 2^64<x*lo / 2^64 then 1 else 0)) (by split <;> omega)
    omega
theorem SC_rng (u:Nat) (h1:2^54≤u) (h2:u≤2^56 - 8):2^52≤RND (SC u)∧RND (SC u)<2^53:=by
  have o:u / 2≤u / 2 ||| u % 2∧u / 2 ||| u % 2≤u / 2+1:=by
    have h:(u / 2 ||| u % 2) / 2=u / 2 / 2:=by
      have:=Nat.or_div_two_pow (a:=u / 2) (b:=u % 2) (n:=1)
      rw [Nat.pow_one] at this
      rw [this,show u % 2 / 2=0 by omega,Nat.or_zero]
    have h3:=Nat.left_le_or (n:=u / 2) (m:=u % 2)
    omega
  unfold SC
  split
  · generalize u / 2 ||| u % 2=w at o
    unfold RND
    omega
  · unfold RND
    omega
def topB (x hi lo:Nat):Bool:=decide (36028797018963966*2^8*2^64+x*lo / 2^64≤x*hi)
def dX (p:Nat):Nat:=(TH+10^p - 1) / 10^p
def ChkA (p hi lo:Nat):Bool:=decide (2^63<hi)&&decide (hi+2048<2^64)&&decide (lo<2^64)&&decide (2^54*2^8*2^64+2^63*lo / 2^64≤2^63*hi)&&decide (2^(p*108853 / 32768)≤10^p)&&decide (960≤p*108853 / 32768∧p*108853 / 32768≤1030)
def ChkB (p hi lo lp:Nat):Bool:=decide (1024≤lp) || (decide ((2^(1023 - lp) - 1)*10^p<TH)&&(decide (2^(1024 - lp)≤dX p) || topB (max (dX p) (2^(1023 - lp))*2^(lp - 960)) hi lo)&&(decide (dX p≤2^(1023 - lp)) || !topB ((min (dX p) (2^(1024 - lp)) - 1)*2^(lp - 960)) hi lo))
def Chk (p hi lo:Nat):Bool:=ChkA p hi lo&&ChkB p hi lo (p*108853 / 32768)
theorem dX_le {p z:Nat}:dX p≤z↔TH≤z*10^p:=by
  have hp:0<10^p:=Nat.pow_pos (by decide)
  have hT:=TH_pos
  unfold dX
  constructor
  · intro h
    have h1:=Nat.div_add_mod (TH+10^p - 1) (10^p)
    have h2:=Nat.mod_lt (TH+10^p - 1) hp
    have h3:=Nat.mul_le_mul_left (10^p) h
    rw [Nat.mul_comm z]
    generalize 10^p*((TH+10^p - 1) / 10^p)=A at*
    generalize 10^p*z=B at*
    omega
  · intro h
    rw [←Nat.lt_succ_iff,Nat.div_lt_iff_lt_mul hp,Nat.succ_mul]
    generalize z*10^p=B at*
    omega
theorem topB_iff {x hi lo:Nat}:topB x hi lo=true↔36028797018963966*2^8*2^64+x*lo / 2^64≤x*hi:=by unfold topB;exact decide_eq_true_iff
theorem topB_mono {x y hi lo:Nat}(hxy:x≤y) (hlo:lo<2^64) (hhi:1≤hi) (h:topB x hi lo=true):topB y hi lo=true:=topB_iff.2 (usc_mono hxy hlo hhi (topB_iff.1 h))
theorem usc_ge8 {x hi lo T:Nat}(hx:x<2^64) (hx1:2^63≤x) (hlo:lo<2^64) (hh:2^63<hi) (hT:T % 2=0):T≤usc x hi lo 8↔T*2^8*2^64+x*lo / 2^64≤x*hi:=by
  refine usc_ge hx hlo ?_ hT
  have:=Nat.mul_le_mul hx1 (show 2≤hi by omega)
  omega
theorem e64_parts {z hi lo n:Nat}(hz:0<z) (hz64:z<2^64) (hn:289≤n∧n≤310) (hc:Chk n hi lo=true):
    (E64 hi lo z (n:Int)=true↔big z (n:Int))∧2^52≤rX hi lo z (n:Int)∧rX hi lo z (n:Int)<2^53∧sX z (n:Int)=8:=by
  unfold Chk at hc
  obtain ⟨lp,hlp⟩:∃ lp,lp=n*108853 / 32768:=⟨_,rfl⟩
  unfold ChkA at hc
  rw [←hlp] at hc
  simp only [Bool.and_eq_true,decide_eq_true_eq] at hc
  obtain ⟨⟨⟨⟨⟨⟨c1,c2⟩,c3⟩,c4⟩,c5⟩,c6,c7⟩,hcB⟩:=hc
  obtain ⟨b1,b2,b3⟩:=bl_rng hz
  have b4:=bl_le hz64
  have hlg:lg (n:Int)=(lp:Int):=by unfold lg;omega
  have hE:eX z (n:Int)=53 - (bl z:Int) - lp:=by unfold eX;rw [hlg];omega
  have hS:sX z (n:Int)=8:=by unfold sX;rw [hE,hlg];omega
  obtain ⟨b,hb⟩:∃ b,b=bl z:=⟨_,rfl⟩
  obtain ⟨x,hx⟩:∃ x,x=z*2^(64 - b):=⟨_,rfl⟩
  rw [←hb] at b1 b2 b3 b4 hE
  have hx64:x<2^64:=by
    have:=Nat.mul_lt_mul_of_pos_right b2 (Nat.pow_pos (n:=64 - b) (show 0<2 by decide))
    rw [←Nat.pow_add,show b+(64 - b)=64 by omega] at this
    rw [hx];exact this
  have hx63:2^63≤x:=by
    have:=Nat.mul_le_mul_right (2^(64 - b)) b1
    rw [←Nat.pow_add,show b - 1+(64 - b)=63 by omega] at this
    rw [hx];exact this
  have hU:uX hi lo z (n:Int)=usc x hi lo 8:=by unfold uX;rw [hS,←hb,←hx];rfl
  have hu1:2^54≤usc x hi lo 8:=(usc_ge8 hx64 hx63 c3 c1 (by decide)).2 (usc_mono hx63 c3 (by omega) c4)
  have hu2:=usc_le (lo:=lo) hx64 c2 (Nat.le_refl 8)
  have hr:=SC_rng _ hu1 hu2
  have htop:36028797018963966≤usc x hi lo 8↔topB x hi lo=true:=by rw [topB_iff];exact usc_ge8 hx64 hx63 c3 c1 (by decide)
  have hR:rX hi lo z (n:Int)=RND (SC (usc x hi lo 8)):=by unfold rX;rw [hU]
  refine ⟨?_,by rw [hR];exact hr.1,by rw [hR];exact hr.2,hS⟩
  have hEiff:E64 hi lo z (n:Int)=true↔1025≤b+lp+k1 (usc x hi lo 8):=by
    unfold E64
    rw [hS,hR,hE,hU]
    simp only [Bool.and_eq_true,decide_eq_true_eq]
    constructor
    · rintro ⟨_,h⟩;omega
    · intro h;exact ⟨⟨by decide,by omega⟩,by omega⟩
  rw [hEiff,big_nat]
  have hk1:k1 (usc x hi lo 8)=if topB x hi lo=true then 1 else 0:=by
    unfold k1
    by_cases h:36028797018963966≤usc x hi lo 8
    · rw [if_pos h,if_pos (htop.1 h)]
    · rw [if_neg h,if_neg (fun h2=>h (htop.2 h2))]
  rw [hk1]
  unfold ChkB at hcB
  simp only [Bool.or_eq_true,Bool.and_eq_true,decide_eq_true_eq,Bool.not_eq_true'] at hcB
  have hp:0<10^n:=Nat.pow_pos (by decide)
  rcases (show b+lp≤1023∨b+lp=1024∨1025≤b+lp by omega) with h | h | h
  · rcases hcB with hcB | ⟨⟨hA,_⟩,_⟩
    · omega
    · have h1:z≤2^(1023 - lp) - 1:=by
        have:=Nat.pow_le_pow_right (n:=2) (by decide) (show b≤1023 - lp by omega)
        omega
      have h2:=Nat.mul_le_mul_right (10^n) h1
      constructor
      · intro h3;split at h3 <;> omega
      · intro h3;omega
  · rcases hcB with hcB | ⟨⟨_,hA⟩,hB⟩
    · omega
    · have hbe:b=1024 - lp:=by omega
      have hbe1:b - 1=1023 - lp:=by omega
      have hsh:64 - b=lp - 960:=by omega
      rw [←hbe] at hA hB
      rw [←hbe1] at hA hB
      rw [←hsh] at hA hB
      have hT:topB x hi lo=true↔dX n≤z:=by
        constructor
        · intro ht
          rcases Nat.lt_or_ge z (dX n) with h1 | h1
          · exfalso
            rcases hB with hB | hB
            · omega
            · have h2:z≤min (dX n) (2^b) - 1:=by omega
              have h3:=topB_mono (hi:=hi) (Nat.mul_le_mul_right (2^(64 - b)) h2) c3 (by omega) (by rw [←hx];exact ht)
              rw [hB] at h3;cases h3
          · exact h1
        · intro hd
          rcases hA with hA | hA
          · omega
          · have h2:max (dX n) (2^(b - 1))≤z:=by omega
            rw [hx]
            exact topB_mono (hi:=hi) (Nat.mul_le_mul_right (2^(64 - b)) h2) c3 (by omega) hA
      rw [←dX_le,←hT]
      split
      · next h3=>exact ⟨fun _=>h3,fun _=>by omega⟩
      · next h3=>exact ⟨fun h4=>by omega,fun h4=>absurd h4 h3⟩
  · constructor
    · intro _
      have h1:2^(b - 1)*2^lp≤z*10^n:=Nat.mul_le_mul b1 c5
      rw [←Nat.pow_add] at h1
      have h2:=Nat.pow_le_pow_right (n:=2) (by decide) (show 1024≤b - 1+lp by omega)
      have:=TH_2
      omega
    · intro _;omega
theorem e64_law {z hi lo:Nat}{p:Int}(hz:0<z) (hz64:z<2^64) (hp: -345≤p∧p≤310) (hc:289≤p→Chk p.toNat hi lo=true):E64 hi lo z p=true↔big z p:=by
  rcases Int.lt_or_le p 289 with h | h
  · have h1: ¬ big z p:=big_low (a:=20) (Nat.lt_of_lt_of_le hz64 (by decide)) (by omega)
    have h2:E64 hi lo z p=false:=by
      have b4:=bl_le hz64
      unfold E64
      rw [Bool.and_eq_false_iff]
      right
      rw [decide_eq_false_iff_not]
      have h3:k1 (uX hi lo z p)≤1:=by unfold k1;split <;> omega
      have h4:53 - (64:Int) - 956≤eX z p:=by unfold eX lg;omega
      omega
    rw [h2]
    exact ⟨(fun h=>by cases h),fun h=>absurd h h1⟩
  · obtain ⟨n,rfl⟩:∃ n:Nat,p=(n:Int):=⟨p.toNat,by omega⟩
    exact (e64_parts hz hz64 (by omega) (hc h)).1
end Js
namespace Go.Sx
open Go.RowKit Go.Proofs Js
structure TabX (N:Nat) (w:World):Prop where
  tabs:Tabs N w
  rows:∀ j x,Go.Pinned.pow10Rows[j]?=some x→w.cell? ⟨27,j*2,none⟩=some (.int .u64 (x.1:Int))∧w.cell? ⟨27,j*2+1,none⟩=some (.int .u64 (x.2:Int))
theorem TabX.keep {N M:Nat}{w w':World}(h:TabX N w) (hN:N≤M) (hB:Below M w w'):TabX N w':=by
  have h30:=h.tabs.lt
  exact ⟨h.tabs.keep hN hB,fun j x hx=>⟨(hB.cell (show 27<M by omega)).trans (h.rows j x hx).1,(hB.cell (show 27<M by omega)).trans (h.rows j x hx).2⟩⟩
theorem Tabs.mono {N M:Nat}{w:World}(h:Tabs N w) (hN:N≤M):Tabs M w:=by
  obtain ⟨a1,a2,a3,a4,a5,⟨b,o,k,hb,h6⟩,⟨b',o',k',hb',h7⟩,a8,⟨b2,o2,k2,hb2,h9⟩,a10,a11⟩:=h
  exact ⟨Nat.lt_of_lt_of_le a1 hN,a2,a3,a4,a5,⟨b,o,k,by omega,h6⟩,⟨b',o',k',by omega,h7⟩,a8,⟨b2,o2,k2,by omega,h9⟩,a10,a11⟩
theorem TabX.mono {N M:Nat}{w:World}(h:TabX N w) (hN:N≤M):TabX M w:=⟨h.tabs.mono hN,h.rows⟩
theorem TabX.mem {B:Nat}{wc w:World}{L:List Bk}(h:TabX B wc) (hM:Mem B wc L w):TabX w.heap.size w:=(h.keep (Nat.le_refl _) hM.below).mono hM.base
def hiT (p:Int):Nat:=(Go.Pinned.pow10Rows.getD (p+348).toNat (0,0)).1
def loT (p:Int):Nat:=(Go.Pinned.pow10Rows.getD (p+348).toNat (0,0)).2
theorem rowsT_len:Go.Pinned.pow10Rows.length=696:=by decide+kernel
theorem rowsT_ok:(Go.Pinned.pow10Rows.all fun x=>decide (2^63≤x.1)&&decide (x.1<2^64)&&decide (x.2<2^64))=true:=by decide+kernel
theorem rowT {p:Int}(h: -348≤p∧p≤347):Go.Pinned.pow10Rows[(p+348).toNat]?=some (hiT p,loT p)∧2^63≤hiT p∧hiT p<2^64∧loT p<2^64:=by
  have hl:(p+348).toNat<Go.Pinned.pow10Rows.length:=by rw [rowsT_len];omega
  have e:Go.Pinned.pow10Rows[(p+348).toNat]?=some (hiT p,loT p):=by
    unfold hiT loT
    rw [List.getD_eq_getElem?_getD,List.getElem?_eq_getElem hl]
    rfl
  refine ⟨e,?_⟩
  have:=List.all_eq_true.1 rowsT_ok _ (List.mem_of_getElem? e)
  simp only [Bool.and_eq_true,decide_eq_true_eq] at this
  exact ⟨this.1.1,this.1.2,this.2⟩
theorem chkT_all:((List.range 22).all fun i=>Chk (289+i) (hiT (289+(i:Int))) (loT (289+(i:Int))))=true:=by decide+kernel
theorem chkT {n:Nat}(h:289≤n∧n≤310):Chk n (hiT (n:Int)) (loT (n:Int))=true:=by
  have:=List.all_eq_true.1 chkT_all (n - 289) (List.mem_range.2 (by omega))
  rw [show 289+(n - 289)=n by omega,show (289:Int)+((n - 289:Nat):Int)=(n:Int) by omega] at this
  exact this
end Go.Sx
namespace Js
inductive Nst (o cl:UInt8):Nat→Str→Nat→Prop where
  | plain {d:Nat}{c:UInt8}{s:Str}{k:Nat}(h34:c≠34) (ho:c≠o) (hc:c≠cl) (h:Nst o cl d s k):Nst o cl d (c::s) (k+1)
  | str {d:Nat}{i s:Str}{k:Nat}(hi:Quo i) (h:Nst o cl d s k):Nst o cl d (34::(i++34::s)) (i.length+2+k)
  | opn {d:Nat}{s:Str}{k:Nat}(h:Nst o cl (d+1) s k):Nst o cl d (o::s) (k+1)
  | cls {d:Nat}{s:Str}{k:Nat}(h:Nst o cl (d+1) s k):Nst o cl (d+2) (cl::s) (k+1)
  | last {s:Str}:Nst o cl 1 (cl::s) 1
theorem Nst.le {o cl:UInt8}{d:Nat}{s:Str}{k:Nat}(h:Nst o cl d s k):k≤s.length:=by
  induction h with
  | plain _ _ _ _ ih=>simp;omega
  | str _ _ ih=>simp;omega
  | opn _ ih=>simp;omega
  | cls _ ih=>simp;omega
  | last=>simp
theorem Nst.pos {o cl:UInt8}{d:Nat}{s:Str}{k:Nat}(h:Nst o cl d s k):0<k:=by cases h <;> omega
def Brk (o cl:UInt8):Prop:=(o=91∧cl=93)∨(o=123∧cl=125)
def Pas (o cl:UInt8) (t:Str):Prop:=∀ (d:Nat) (s:Str) (k:Nat),Nst o cl (d+1) s k→Nst o cl (d+1) (t++s) (t.length+k)
theorem Pas.nil {o cl:UInt8}:Pas o cl []:=fun d s k h=>by simpa using h
theorem Pas.app {o cl:UInt8}{t u:Str}(h:Pas o cl t) (h':Pas o cl u):Pas o cl (t++u):=fun d s k hs=>by
  have:=h _ _ _ (h' _ _ _ hs)
  rw [List.append_assoc,List.length_append,Nat.add_assoc];exact this
theorem Pas.one {o cl:UInt8}(hb:Brk o cl) {c:UInt8}(hc:vcls c=0) {t:Str}(h:Pas o cl t):Pas o cl (c::t):=fun d s k hs=>by
  have h34:c≠34:=by rintro rfl;exact absurd hc (by decide)
  have ho:c≠o:=by rintro rfl;rcases hb with ⟨rfl,_⟩ | ⟨rfl,_⟩ <;> exact absurd hc (by decide)
  have hcl:c≠cl:=by rintro rfl;rcases hb with ⟨_,rfl⟩ | ⟨_,rfl⟩ <;> exact absurd hc (by decide)
  have:=Nst.plain h34 ho hcl (h _ _ _ hs)
  rw [List.length_cons,show t.length+1+k=t.length+k+1 by omega];exact this
theorem Pas.all {o cl:UInt8}(hb:Brk o cl):∀ (t:Str),(∀ c∈t,vcls c=0)→Pas o cl t
  | [],_=>Pas.nil
  | c::t,h=>Pas.one hb (h c (by simp)) (Pas.all hb t fun x hx=>h x (by simp [hx]))
theorem Pas.str {o cl:UInt8}{i:Str}(hi:Quo i):Pas o cl (34::i++ [34]):=fun d s k hs=>by
  have:=Nst.str hi hs
  have e:34::i++ [34]++s=34::(i++34::s):=by simp
  rw [e]
  have e2:(34::i++ [34]).length+k=i.length+2+k:=by simp
  rw [e2];exact this
theorem Pas.brk {o cl x y:UInt8}(hb:Brk o cl) (hx:Brk x y) {t:Str}(h:Pas o cl t):Pas o cl (x::t++ [y]):=fun d s k hs=>by
  have e:x::t++ [y]++s=x::(t++y::s):=by simp
  have e2:(x::t++ [y]).length+k=t.length+(k+1)+1:=by simp;omega
  rw [e,e2]
  rcases hb with ⟨rfl,rfl⟩ | ⟨rfl,rfl⟩ <;> rcases hx with ⟨rfl,rfl⟩ | ⟨rfl,rfl⟩
  · exact .opn (h _ _ _ (.cls hs))
  · exact .plain (by decide) (by decide) (by decide) (h _ _ _ (.plain (by decide) (by decide) (by decide) hs))
  · exact .plain (by decide) (by decide) (by decide) (h _ _ _ (.plain (by decide) (by decide) (by decide) hs))
  · exact .opn (h _ _ _ (.cls hs))
theorem pas_it {o cl:UInt8}(hb:Brk o cl) {t:Str}{it:It}(h:Shows t it):Pas o cl t:=by
  have hA:Brk 91 93:= .inl ⟨rfl,rfl⟩
  have hO:Brk 123 125:= .inr ⟨rfl,rfl⟩
  have bl:∀ {w:Str},Bl w→Pas o cl w:=fun hw=>Pas.all hb _ (bl_vcls hw)
  induction h with
  | nul=>exact Pas.all hb _ (by decide)
  | fls=>exact Pas.all hb _ (by decide)
  | tru=>exact Pas.all hb _ (by decide)
  | num h=>exact Pas.all hb _ (fun c hc=>numc_vcls (IsNum.chars h c hc))
  | str h=>exact Pas.str h.quo
  | arr0 h=>exact Pas.brk hb hA (bl h)
  | arr h ih=>exact Pas.brk hb hA ih
  | obj0 h=>exact Pas.brk hb hO (bl h)
  | obj h ih=>exact Pas.brk hb hO ih
  | e1 h1 h h2 ih=>exact ((bl h1).app ih).app (bl h2)
  | e2 h1 h h2 hr ih ih2=>exact (((bl h1).app ih).app (bl h2)).app (Pas.one hb (by decide) ih2)
  | m1 h1 hi h2 h3 h h4 ih=>exact (((((bl h1).app (Pas.str hi.quo)).app (bl h2)).app (Pas.one hb (by decide) (bl h3))).app ih).app (bl h4)
  | m2 h1 hi h2 h3 h h4 hr ih ih2=>exact ((((((bl h1).app (Pas.str hi.quo)).app (bl h2)).app (Pas.one hb (by decide) (bl h3))).app ih).app (bl h4)).app (Pas.one hb (by decide) ih2)
theorem nst_value {t:Str}{k:Nat}{txt:Str}{ks:List Str}{l:List Nd}(h:Shows t (.v (.mk k txt ks l))) {o cl:UInt8}(hk:(k=5∧o=91∧cl=93)∨(k=6∧o=123∧cl=125)) (s:Str):
    Nst o cl 0 (t++s) t.length:=by
  have key:∀ {o cl:UInt8}{t:Str},Brk o cl→Pas o cl t→Nst o cl 0 (o::t++ [cl]++s) (o::t++ [cl]).length:=fun {o cl t} hb hp=>by
    have:=Nst.opn (hp 0 _ _ (Nst.last (o:=o) (cl:=cl) (s:=s)))
    have e:o::t++ [cl]++s=o::(t++cl::s):=by simp
    rw [e];simpa using this
  have hA:Brk 91 93:= .inl ⟨rfl,rfl⟩
  have hO:Brk 123 125:= .inr ⟨rfl,rfl⟩
  cases h with
  | nul=>simp at hk
  | fls=>simp at hk
  | tru=>simp at hk
  | num=>simp at hk
  | str=>simp at hk
  | arr0 h => obtain ⟨rfl, rfl⟩ : o = 91 ∧ cl = 93 := by simpa using hk
              exact key hA (Pas.all hA _ (bl_vcls h))
  | arr h => obtain ⟨rfl, rfl⟩ : o = 91 ∧ cl = 93 := by simpa using hk
             exact key hA (pas_it hA h)
  | obj0 h => obtain ⟨rfl, rfl⟩ : o = 123 ∧ cl = 125 := by simpa using hk
              exact key hO (Pas.all hO _ (bl_vcls h))
  | obj h => obtain ⟨rfl, rfl⟩ : o = 123 ∧ cl = 125 := by simpa using hk
             exact key hO (pas_it hO h)
structure AtN (o cl:UInt8) (D:Str) (d i E:Nat):Prop where
  nst:Nst o cl d (D.drop i) (E - i)
  lt:i<E
  le:E≤D.length
theorem AtN.get {o cl:UInt8}{D:Str}{d i E:Nat}(h:AtN o cl D d i E):∃ c,D[i]?=some c:=⟨_,List.getElem?_eq_getElem (by have:=h.lt;have:=h.le;omega)⟩
theorem AtN.of {o cl:UInt8}{D:Str}{d i E k:Nat}(hn:Nst o cl d (D.drop i) k) (he:i+k=E) (hl:E≤D.length):AtN o cl D d i E:=by
  have:=hn.pos
  exact ⟨by rw [show E - i=k by omega];exact hn,by omega,hl⟩
theorem AtN.plain {o cl:UInt8}{D:Str}{d i E:Nat}{c:UInt8}(h:AtN o cl D d i E) (hc:D[i]?=some c) (h34:c≠34) (ho:c≠o) (hcl:c≠cl):AtN o cl D d (i+1) E:=by
  have h1:=h.nst
  have h2:=h.lt
  rw [drop_cons hc] at h1
  generalize he:E - i=k at h1
  generalize hz:c::D.drop (i+1)=z at h1
  cases h1 with
  | plain _ _ _ hn=>injection hz with a b;subst b;exact AtN.of hn (by omega) h.le
  | str=>injection hz with a b;exact absurd a h34
  | opn=>injection hz with a b;exact absurd a ho
  | cls=>injection hz with a b;exact absurd a hcl
  | last=>injection hz with a b;exact absurd a hcl
theorem AtN.opn {o cl:UInt8}(hb:Brk o cl) {D:Str}{d i E:Nat}(h:AtN o cl D d i E) (hc:D[i]?=some o):AtN o cl D (d+1) (i+1) E:=by
  have h1:=h.nst
  have h2:=h.lt
  rw [drop_cons hc] at h1
  generalize he:E - i=k at h1
  have ne:o≠cl∧o≠34:=by rcases hb with ⟨rfl,rfl⟩ | ⟨rfl,rfl⟩ <;> decide
  generalize ho:o::D.drop (i+1)=z at h1
  cases h1 with
  | plain _ hno _ _=>injection ho with a b;exact absurd a.symm hno
  | str=>injection ho with a b;exact absurd a ne.2
  | opn hn=>injection ho with a b;subst b;exact AtN.of hn (by omega) h.le
  | cls=>injection ho with a b;exact absurd a ne.1
  | last=>injection ho with a b;exact absurd a ne.1
theorem AtN.cls {o cl:UInt8}(hb:Brk o cl) {D:Str}{d i E:Nat}(h:AtN o cl D d i E) (hc:D[i]?=some cl):(d=1∧i+1=E)∨(2≤d∧AtN o cl D (d - 1) (i+1) E):=by
  have h1:=h.nst
  have h2:=h.lt
  rw [drop_cons hc] at h1
  generalize he:E - i=k at h1
  have ne:cl≠o∧cl≠34:=by rcases hb with ⟨rfl,rfl⟩ | ⟨rfl,rfl⟩ <;> decide
  generalize ho:cl::D.drop (i+1)=z at h1
  cases h1 with
  | plain _ _ hno _=>injection ho with a b;exact absurd a.symm hno
  | str=>injection ho with a b;exact absurd a ne.2
  | opn hn=>injection ho with a b;exact absurd a ne.1
  | cls hn=>injection ho with a b;subst b;exact .inr ⟨by omega,AtN.of (by simpa using hn) (by omega) h.le⟩
  | last=>exact .inl ⟨rfl,by omega⟩
theorem AtN.str {o cl:UInt8}(hb:Brk o cl) {D:Str}{d i E:Nat}(h:AtN o cl D d i E) (hc:D[i]?=some 34):∃ q,Cls (D.drop (i+1)) q∧AtN o cl D d (i+1+q+1) E:=by
  have h1:=h.nst
  have h2:=h.lt
  rw [drop_cons hc] at h1
  generalize he:E - i=k at h1
  have ne:(34:UInt8)≠o∧(34:UInt8)≠cl:=by rcases hb with ⟨rfl,rfl⟩ | ⟨rfl,rfl⟩ <;> decide
  generalize ho:34::D.drop (i+1)=z at h1
  cases h1 with
  | plain hno _ _ _=>injection ho with a b;exact absurd a.symm hno
  | @str _ s r k hi hn =>
    injection ho with a b
    refine ⟨s.length,by rw [b];exact Cls.of hi,AtN.of (k:=k) ?_ (by omega) h.le⟩
    have:D.drop (i+1+s.length+1)=r:=by
      rw [show i+1+s.length+1=(i+1)+(s.length+1) by omega,←List.drop_drop,b]
      simp
    rw [this];exact hn
  | opn=>injection ho with a b;exact absurd a ne.1
  | cls=>injection ho with a b;exact absurd a ne.2
  | last=>injection ho with a b;exact absurd a ne.2

end Js