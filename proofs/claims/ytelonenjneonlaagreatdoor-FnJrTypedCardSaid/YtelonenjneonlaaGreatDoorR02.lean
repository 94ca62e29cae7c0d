/- Part 2 of the proof of FnJrTyped: the statement Rows.FnJrTypedCardSaid; no further condition. -/
import Derived.Test.YtelonenjneonlaaGreatDoorR01
import Derived.StillTail
set_option linter.all false
namespace Js
theorem ins_cases {t:Str}(h:Ins t):t=[]∨(∃ c r,t=c::r∧32≤c.toNat∧c≠92∧Ins r)∨(∃ d r,t=92::d::r∧escLetter d=true∧Ins r)∨
    (∃ a b c d r,t=92::117::a::b::c::d::r∧(∀ x∈ [a,b,c,d],IsHex x)∧Ins r):=by
  unfold Ins at h
  cases t with
  | nil=>exact .inl rfl
  | cons c i =>
    rw [List.cons_append,pStr_cons] at h
    split at h
    · simp at h
    · rename_i h34
      split at h
      · simp at h
      · rename_i h32
        split at h
        · rename_i h92;subst h92
          obtain ⟨s1,h4,h5⟩:=Option.bind_eq_some_iff.1 h
          rcases esc_take h4 with ⟨d,hd,hl⟩ | ⟨t,ht,hl,hx⟩
          · cases i with
            | nil =>
              simp only [List.nil_append,List.cons.injEq] at hd
              rw [←hd.2] at h5;rw [pStr_nil] at h5;simp at h5
            | cons d' i =>
              simp only [List.cons_append,List.cons.injEq] at hd
              obtain ⟨rfl,rfl⟩:=hd
              exact .inr (.inr (.inl ⟨_,_,rfl,hl,h5⟩))
          · have hlen:5≤i.length:=by
              have hs1:s1≠ []:=by rintro rfl;rw [pStr_nil] at h5;simp at h5
              have:=congrArg List.length ht
              have h6:0<s1.length:=List.length_pos_iff.2 hs1
              simp [hl] at this;omega
            obtain ⟨i',rfl,hs⟩:∃ i',i=117::t++i'∧s1=i'++ [34]:=by
              have e1:(117::t).length=5:=by simp [hl]
              have h1:i.take 5=117::t:=by
                have:=congrArg (List.take 5) ht
                rw [List.take_append_of_le_length hlen] at this
                rw [this,←e1,List.take_left]
              have h2:i.drop 5++ [34]=s1:=by
                have:=congrArg (List.drop 5) ht
                rw [List.drop_append_of_le_length hlen] at this
                rw [this,←e1,List.drop_left]
              exact ⟨i.drop 5,by rw [←h1,List.take_append_drop],h2.symm⟩
            subst hs
            obtain ⟨a,b,c,d,rfl⟩:∃ a b c d,t=[a,b,c,d]:=by
              match t,hl with
              | [a,b,c,d],_=>exact ⟨a,b,c,d,rfl⟩
            exact .inr (.inr (.inr ⟨a,b,c,d,i',rfl,hx,h5⟩))
        · rename_i h92
          exact .inr (.inl ⟨c,i,rfl,by omega,h92,h⟩)
theorem hex4_hexN {a b c d:UInt8}(h:∀ x∈ [a,b,c,d],IsHex x):hex4 a b c d=some (hexN [a,b,c,d]):=by
  have e:∀ x,IsHex x→hexVal x=some (hv x):=fun x hx=>by
    unfold IsHex at hx;unfold hv
    cases hh:hexVal x with
    | none=>rw [hh] at hx;simp at hx
    | some v=>rfl
  unfold hex4
  rw [e a (h a (by simp)),e b (h b (by simp)),e c (h c (by simp)),e d (h d (by simp))]
  simp [hexN]
theorem unq_cons {c:UInt8}(hc:c≠92) (r:Str):unq (c::r)=c::unq r:=by rw [unq,if_neg hc]
theorem unit_esc {d:UInt8}(hd:d≠117) (r:Str):unit (92::d::r)=none:=by
  unfold unit
  split
  · rename_i h;simp only [List.cons.injEq,true_and] at h;exact absurd h.1 hd
  · rfl
theorem unq_esc {d:UInt8}(hd:d≠117) (r:Str):unq (92::d::r)=short d::unq r:=by
  rw [unq,if_pos rfl]
  split
  · rfl
  · rename_i n h;rw [unit_esc hd] at h;simp at h
theorem unq_uni {a b c d:UInt8}{n:Nat}(hn:hex4 a b c d=some n) (r:Str) (h:high n=false∨∀ m,unit r=some m→low m=false):unq (92::117::a::b::c::d::r)=enc n++unq r:=by
  rw [unq,if_pos rfl]
  split
  · rename_i h0;simp only [unit] at h0;rw [hn] at h0;simp at h0
  · rename_i n' h0
    simp only [unit] at h0
    rw [hn] at h0
    obtain rfl:=Option.some.inj h0
    simp only [List.drop_succ_cons,List.drop_zero]
    split
    · rfl
    · rename_i m hm
      rcases h with h | h
      · rw [h];simp
      · rw [h m hm];simp
theorem unq_pair {a b c d a' b' c' d':UInt8}{n m:Nat}(hn:hex4 a b c d=some n) (hm:hex4 a' b' c' d'=some m) (h1:high n=true) (h2:low m=true) (r:Str):
    unq (92::117::a::b::c::d::92::117::a'::b'::c'::d'::r)=enc (0x10000+(n - 0xd800)*0x400+(m - 0xdc00))++unq r:=by
  rw [unq,if_pos rfl]
  split
  · rename_i h0;simp only [unit] at h0;rw [hn] at h0;simp at h0
  · rename_i n' h0
    simp only [unit] at h0
    rw [hn] at h0
    obtain rfl:=Option.some.inj h0
    simp only [List.drop_succ_cons,List.drop_zero,unit,hm,h1,h2,Bool.and_self,if_true]
theorem drop_of {s t u:Str}{i:Nat}(h:s.drop i=t++u):s.drop (i+t.length)=u:=by rw [←List.drop_drop,h,List.drop_left]
theorem le_of {s t u:Str}{i:Nat}(h:s.drop i=t++u) (h0:t≠ []):i+t.length≤s.length:=seg_len h h0
theorem enc_len (n:Nat):(enc n).length≤4:=by unfold enc;(repeat' split) <;> simp
theorem esc_117 {d:UInt8}(h:escLetter d=true):d≠117:=by rintro rfl;exact absurd h (by decide)
def dg (c:UInt8):Nat:=c.toNat - 48
def worth:Str→Nat
  | []=>0
  | c::l=>dg c*10^l.length+worth l
def Digs (l:Str):Prop:=∀ c∈l,isDig c=true
theorem dig_rng {c:UInt8}(h:isDig c=true):48≤c.toNat∧c.toNat≤57:=by
  simpa [isDig] using h
theorem dg_lt {c:UInt8}(h:isDig c=true):dg c<10:=by have:=dig_rng h;unfold dg;omega
theorem Digs.tail {c:UInt8}{l:Str}(h:Digs (c::l)):Digs l:=fun x hx=>h x (by simp [hx])
theorem Digs.head {c:UInt8}{l:Str}(h:Digs (c::l)):isDig c=true:=h c (by simp)
theorem Digs.append {l r:Str}(h:Digs l) (h':Digs r):Digs (l++r):=fun c hc=>by
  rcases List.mem_append.1 hc with hc | hc
  · exact h c hc
  · exact h' c hc
theorem Digs.sub {l r:Str}(h:Digs l) (hs:∀ c∈r,c∈l):Digs r:=fun c hc=>h c (hs c hc)
theorem Digs.take {l:Str}(h:Digs l) (n:Nat):Digs (l.take n):=h.sub fun _ hc=>List.mem_of_mem_take hc
theorem Digs.drop {l:Str}(h:Digs l) (n:Nat):Digs (l.drop n):=h.sub fun _ hc=>List.mem_of_mem_drop hc
theorem worth_lt:∀ {l:Str},Digs l→worth l<10^l.length
  | [],_=>by simp [worth]
  | c :: l, h => by
    have h1:=worth_lt h.tail
    have h2:=dg_lt h.head
    simp only [worth,List.length_cons,Nat.pow_succ]
    have h3:dg c*10^l.length≤9*10^l.length:=Nat.mul_le_mul_right _ (by omega)
    omega
theorem worth_append (l r:Str):worth (l++r)=worth l*10^r.length+worth r:=by
  induction l with
  | nil=>simp [worth]
  | cons c l ih =>
    simp only [List.cons_append,worth,ih,List.length_append,Nat.pow_add,Nat.add_mul,Nat.mul_assoc]
    omega
theorem worth_snoc (l:Str) (c:UInt8):worth (l++ [c])=worth l*10+dg c:=by
  rw [worth_append];simp [worth]
theorem worth_pos {c:UInt8}{l:Str}(hc:isDig c=true) (h:c≠48):10^l.length≤worth (c::l):=by
  have h1:=dig_rng hc
  have h2:c.toNat≠48:=fun e=>h (UInt8.toNat_inj.1 e)
  have h3:1≤dg c:=by unfold dg;omega
  simp only [worth]
  have:=Nat.mul_le_mul_right (10^l.length) h3
  omega
def pless:Str→Str→Bool
  | _,[]=>false
  | [],_::_=>true
  | b::bs,c::cs=>if b=c then pless bs cs else decide (b.toNat<c.toNat)
theorem worth_last:∀ {s:Str},Digs s→s≠ []→s.getLast?≠some 48→0<worth s
  | [],_,h,_=>absurd rfl h
  | [c], hd, _, hl => by
    have h1:=dig_rng (hd.head)
    have h2:c≠48:=by intro e;subst e;simp at hl
    have h3:c.toNat≠48:=fun e=>h2 (UInt8.toNat_inj.1 e)
    simp [worth,dg]
    omega
  | c :: d :: s, hd, _, hl => by
    have:=worth_last (s:=d::s) hd.tail (by simp) (by simpa using hl)
    simp only [worth] at this ⊢
    omega
theorem pless_true:∀ {b s:Str},Digs b→Digs s→s.getLast?≠some 48→pless b s=true→worth b*10^s.length<worth s*10^b.length
  | b,[],_,_,_,h=>by cases b <;> simp [pless] at h
  | [], c :: s, _, hs, hl, _ => by
    have:=worth_last hs (by simp) hl
    simpa [worth] using this
  | b :: bs, c :: cs, hb, hs, hl, h => by
    simp only [pless] at h
    have hB:0<10^bs.length:=Nat.pow_pos (by decide)
    have hC:0<10^cs.length:=Nat.pow_pos (by decide)
    simp only [worth,List.length_cons,Nat.pow_succ]
    split at h
    · rename_i e
      subst e
      have hl':cs.getLast?≠some 48:=by
        cases cs with
        | nil=>simp
        | cons d cs=>simpa using hl
      have ih:=pless_true hb.tail hs.tail hl' h
      generalize 10^bs.length=p at*
      generalize 10^cs.length=q at*
      generalize dg b=x at*
      have e1:(x*p+worth bs)*(q*10)=(x*p*q+worth bs*q)*10:=by rw [Nat.add_mul,Nat.add_mul];simp only [Nat.mul_assoc]
      have e2:(x*q+worth cs)*(p*10)=(x*p*q+worth cs*p)*10:=by rw [Nat.add_mul,Nat.add_mul,Nat.mul_right_comm x p q];simp only [Nat.mul_assoc]
      rw [e1,e2]
      omega
    · have hlt:b.toNat<c.toNat:=of_decide_eq_true h
      have h1:=dig_rng hb.head
      have h2:=dig_rng hs.head
      have h3:=worth_lt hb.tail
      have h4:dg b+1≤dg c:=by unfold dg;omega
      generalize 10^bs.length=p at*
      generalize 10^cs.length=q at*
      have h5:dg b*p+worth bs<dg c*p:=by
        have:=Nat.mul_le_mul_right p h4
        rw [Nat.add_mul] at this
        omega
      have h6:(dg b*p+worth bs)*(q*10)<dg c*p*(q*10):=Nat.mul_lt_mul_of_pos_right h5 (by omega)
      have h7:dg c*p*(q*10)≤(dg c*q+worth cs)*(p*10):=by
        rw [Nat.add_mul]
        have:dg c*p*(q*10)=dg c*q*(p*10):=by
          simp only [Nat.mul_assoc,Nat.mul_left_comm,Nat.mul_comm]
        omega
      omega
theorem pless_false:∀ {b s:Str},Digs b→Digs s→pless b s=false→worth s*10^b.length≤worth b*10^s.length
  | b,[],_,_,_=>by simp [worth]
  | [],c::s,_,_,h=>by simp [pless] at h
  | b :: bs, c :: cs, hb, hs, h => by
    simp only [pless] at h
    simp only [worth,List.length_cons,Nat.pow_succ]
    split at h
    · rename_i e
      subst e
      have ih:=pless_false hb.tail hs.tail h
      generalize 10^bs.length=p at*
      generalize 10^cs.length=q at*
      generalize dg b=x at*
      have e1:(x*p+worth bs)*(q*10)=(x*p*q+worth bs*q)*10:=by rw [Nat.add_mul,Nat.add_mul];simp only [Nat.mul_assoc]
      have e2:(x*q+worth cs)*(p*10)=(x*p*q+worth cs*p)*10:=by rw [Nat.add_mul,Nat.add_mul,Nat.mul_right_comm x p q];simp only [Nat.mul_assoc]
      rw [e1,e2]
      omega
    · rename_i hne
      have hge: ¬ b.toNat<c.toNat:=of_decide_eq_false h
      have hn:b.toNat≠c.toNat:=fun e=>hne (UInt8.toNat_inj.1 e)
      have h1:=dig_rng hb.head
      have h2:=dig_rng hs.head
      have h3:=worth_lt hs.tail
      have h4:dg c+1≤dg b:=by unfold dg;omega
      generalize 10^bs.length=p at*
      generalize 10^cs.length=q at*
      have h5:dg c*q+worth cs≤dg b*q:=by
        have:=Nat.mul_le_mul_right q h4
        rw [Nat.add_mul] at this
        omega
      have h6:(dg c*q+worth cs)*(p*10)≤dg b*q*(p*10):=Nat.mul_le_mul_right _ h5
      have h7:dg b*q*(p*10)≤(dg b*p+worth bs)*(q*10):=by
        rw [Nat.add_mul]
        have:dg b*q*(p*10)=dg b*p*(q*10):=by
          simp only [Nat.mul_assoc,Nat.mul_left_comm,Nat.mul_comm]
        omega
      omega
theorem drop_at {l:Str}{i:Nat}{c:UInt8}(h:l[i]?=some c):l.drop i=c::l.drop (i+1):=by
  obtain ⟨hl,rfl⟩:=List.getElem?_eq_some_iff.1 h
  exact List.drop_eq_getElem_cons hl
theorem pless_step {b s:Str}{i:Nat}{c d:UInt8}(hb:b[i]?=some c) (hs:s[i]?=some d):pless (b.drop i) (s.drop i)=if c=d then pless (b.drop (i+1)) (s.drop (i+1)) else decide (c.toNat<d.toNat):=by
  rw [drop_at hb,drop_at hs];rfl
theorem pless_short {b s:Str}{i:Nat}{d:UInt8}(hb:b.length≤i) (hs:s[i]?=some d):pless (b.drop i) (s.drop i)=true:=by
  rw [List.drop_of_length_le hb,drop_at hs];rfl
theorem pless_end {b s:Str}{i:Nat}(hs:s.length≤i):pless (b.drop i) (s.drop i)=false:=by
  rw [List.drop_of_length_le hs];cases b.drop i <;> rfl
structure Arr (ds arr:Str) (w:Nat) (out:Str):Prop where
  len:arr.length=800
  low:∀ i,i<w→arr[i]?=ds[i]?
  high:∀ j c,out[j]?=some c→w+j<800→arr[w+j]?=some c
theorem Arr.start {ds:Str}(h:ds.length=800) (w:Nat):Arr ds ds w []:=⟨h,fun _ _=>rfl,fun j c hj=>by simp at hj⟩
theorem Arr.put {ds arr:Str}{w:Nat}{out:Str}(h:Arr ds arr (w+1) out) (c:UInt8) (hw:w<800):Arr ds (arr.set w c) w (c::out):=by
  refine ⟨by rw [List.length_set];exact h.len,fun i hi=> ?_,fun j d hj hl=> ?_⟩
  · rw [List.getElem?_set_ne (by omega)];exact h.low i (by omega)
  · cases j with
    | zero=>simp at hj;subst hj;rw [Nat.add_zero,List.getElem?_set_self (by rw [h.len];exact hw)]
    | succ j =>
      rw [List.getElem?_set_ne (by omega)]
      have:=h.high j d (by simpa using hj) (by omega)
      rwa [show w+1+j=w+(j+1) by omega] at this
theorem Arr.pass {ds arr:Str}{w:Nat}{out:Str}(h:Arr ds arr (w+1) out) (c:UInt8) (hw:800≤w):Arr ds arr w (c::out):=
  ⟨h.len,fun i hi=>h.low i (by omega),fun j d hj hl=>by omega⟩
structure LS (S:Str) (k n:Nat) (out:Str):Prop where
  eq:worth S*2^k=n*10^out.length+worth out
  digs:Digs out
def chr (m:Nat):UInt8:=(48+m).toUInt8
theorem chr_nat {m:Nat}(h:m<10):(chr m).toNat=48+m:=by
  unfold chr
  simp only [Nat.toUInt8,UInt8.toNat_ofNat']
  omega
theorem chr_dig {m:Nat}(h:m<10):isDig (chr m)=true:=by
  simp only [isDig,chr_nat h,Bool.and_eq_true,decide_eq_true_eq];omega
theorem chr_dg {m:Nat}(h:m<10):dg (chr m)=m:=by unfold dg;rw [chr_nat h];omega
theorem chr_ne {m:Nat}(h:m<10) (h0:m≠0):chr m≠48:=by
  intro e
  have:=congrArg UInt8.toNat e
  rw [chr_nat h] at this
  simp at this
  omega
theorem LS.start (k:Nat):LS [] k 0 []:=⟨by simp [worth],fun _ h=>by simp at h⟩
theorem LS.bound {S:Str}{k n:Nat}{out:Str}(h:LS S k n out) (hS:Digs S) (hl:out.length=S.length):n<2^k:=by
  have h1:=worth_lt hS
  have h2:=h.eq
  rw [hl] at h2
  have hp:0<2^k:=Nat.pow_pos (by decide)
  have h3:worth S*2^k<10^S.length*2^k:=Nat.mul_lt_mul_of_pos_right h1 hp
  have h4:n*10^S.length<2^k*10^S.length:=by rw [Nat.mul_comm (2^k)];omega
  exact Nat.lt_of_mul_lt_mul_right h4
theorem LS.digit {S:Str}{k n:Nat}{out:Str}(h:LS S k n out) (hl:out.length=S.length) (c:UInt8):
    LS (c::S) k ((n+dg c*2^k) / 10) (chr ((n+dg c*2^k) % 10)::out):=by
  have hm:(n+dg c*2^k) % 10<10:=Nat.mod_lt _ (by decide)
  refine ⟨?_,fun x hx=> ?_⟩
  · simp only [worth,List.length_cons,chr_dg hm,Nat.pow_succ]
    have e:=Nat.div_add_mod (n+dg c*2^k) 10
    have h2:=h.eq
    generalize (n+dg c*2^k) / 10=q at*
    generalize (n+dg c*2^k) % 10=m at*
    rw [Nat.add_mul,h2,hl]
    have e2:dg c*10^S.length*2^k+n*10^S.length=(10*q+m)*10^S.length:=by
      rw [e,Nat.add_mul,Nat.add_comm,Nat.mul_right_comm]
    have e3:(10*q+m)*10^S.length=q*(10^S.length*10)+m*10^S.length:=by
      rw [Nat.add_mul];congr 1;rw [Nat.mul_comm 10 q,Nat.mul_assoc,Nat.mul_comm 10]
    omega
  · rcases List.mem_cons.1 hx with rfl | hx
    · exact chr_dig hm
    · exact h.digs x hx
theorem LS.more {S:Str}{k n:Nat}{out:Str}(h:LS S k n out):LS S k (n / 10) (chr (n % 10)::out):=by
  have hm:n % 10<10:=Nat.mod_lt _ (by decide)
  refine ⟨?_,fun x hx=> ?_⟩
  · simp only [worth,List.length_cons,chr_dg hm,Nat.pow_succ]
    rw [h.eq]
    have e:=Nat.div_add_mod n 10
    generalize n / 10=q at*
    generalize n % 10=m at*
    rw [←e,Nat.add_mul,Nat.mul_comm 10 q,Nat.mul_assoc,Nat.mul_comm 10]
    omega
  · rcases List.mem_cons.1 hx with rfl | hx
    · exact chr_dig hm
    · exact h.digs x hx
def rd (D:Str) (r:Nat):Nat:=worth (D.take r)*10^(r - D.length)
theorem rd_zero (D:Str):rd D 0=0:=by simp [rd,worth]
theorem rd_digit {D:Str}{r:Nat}{c:UInt8}(h:D[r]?=some c):rd D (r+1)=rd D r*10+dg c:=by
  obtain ⟨hl,e⟩:=List.getElem?_eq_some_iff.1 h
  unfold rd
  rw [List.take_add_one,h,Option.toList_some,worth_snoc,Nat.sub_eq_zero_of_le (by omega),Nat.sub_eq_zero_of_le (by omega)]
  simp
theorem rd_more {D:Str}{r:Nat}(h:D.length≤r):rd D (r+1)=rd D r*10:=by
  unfold rd
  rw [List.take_of_length_le (by omega),List.take_of_length_le h,show r+1 - D.length=(r - D.length)+1 by omega,Nat.pow_succ,Nat.mul_assoc]
structure RS (P:Nat) (k n:Nat) (out:Str):Prop where
  eq:P=worth out*2^k*10+n
  lt:n<10*2^k
  digs:Digs out
theorem RS.step {P k n:Nat}{out:Str}(h:RS P k n out) {x:Nat}(hx:x<10):RS (P*10+x) k (n % 2^k*10+x) (out++ [chr (n / 2^k)]):=by
  have hp:(0:Nat)<2^k:=Nat.pow_pos (by decide)
  have hd:n / 2^k<10:=(Nat.div_lt_iff_lt_mul hp).2 h.lt
  refine ⟨?_,?_,fun c hc=> ?_⟩
  · rw [worth_snoc,chr_dg hd,h.eq]
    have e:=Nat.div_add_mod n (2^k)
    generalize n / 2^k=q at*
    generalize n % 2^k=m at*
    rw [←e,Nat.add_mul (worth out*10) q,Nat.mul_comm (2^k) q,Nat.mul_right_comm (worth out) 10]
    omega
  · have:=Nat.mod_lt n hp
    omega
  · rcases List.mem_append.1 hc with hc | hc
    · exact h.digs c hc
    · rw [List.mem_singleton.1 hc];exact chr_dig hd
theorem pow_step {j k n:Nat}(hj:j≤k) (h:2^j ∣ n):2^(j+1) ∣ n % 2^k*10:=by
  have h1:2^j ∣ n % 2^k:=(Nat.dvd_mod_iff (Nat.pow_dvd_pow 2 hj)).2 h
  obtain ⟨m,hm⟩:=h1
  rw [hm]
  exact ⟨m*5,by rw [Nat.pow_succ];simp only [Nat.mul_assoc];congr 1;omega⟩
theorem pow_end {k n:Nat}(h:2^k ∣ n):n % 2^k*10=0:=by rw [Nat.mod_eq_zero_of_dvd h]
end Js
namespace Go.Sx
open Go.RowKit Go.Proofs Js Go.Proofs.YtelonenjneonlaaGreatDoorW.PrintWords
section
variable {P:Program}{n:Nat}{K:List (Nat×Value)}{a:Act}{w:World}{Q:Exit→Act→World→Prop}{ops:Array Oper}{rest:List Oper}{o:Oper}{B:Nat}{w0:World}{L:List Bk}
variable {q:Act→Prop}
theorem stdone (h:q a):wpStill P ops w q [] a:=wpStill_nil h
theorem still {id:Nat}{l:List Oper}(hm:P.follows .mixedOrders=true) (hB:Region.lexB .any l.toArray=true) (h:wpStill P l.toArray w.drew (fun a'=>Q .normal a' w.drew) l a):(Code.region id l.toArray true).wp P Q a w:=
  wp_region_still_lit hm hB h
theorem stillTail {id:Nat}{l:List Oper}(m:Nat) (hm:P.follows .mixedOrders=true) (hB:Region.lexTailB .any l.toArray m=true)
    (h:wpStill P l.toArray w.drew (fun a'=>wpList P l.toArray Q (l.drop m) a' w.drew) (l.take m) a):(Code.region id l.toArray true).wp P Q a w:=
  wp_region_still_tail m hm hB h
theorem gives_neg {x:Operand}{t:TypeId}{k:IntKind}{z:Int}(hF:Fr n K a) (hop:o.op= .unOp .neg t x) (hx:ev K x=some (.int k z)) (r:Int) (hr:k.wrap (0 - z)=r) (w:World):(execOp a.eval o).run P w= .ok (.value (.int k r)) w:=by
  subst hr
  simp only [execOp,hop,hF.ev hx];simp [Op.unary,Op.intArith]
theorem gives_fneg {x:Operand}{t:TypeId}{k:FloatKind}{z:Nat}(hF:Fr n K a) (hop:o.op= .unOp .neg t x) (hx:ev K x=some (.float k z)) (w:World):(execOp a.eval o).run P w= .ok (.value (.float k (Op.negFloat k z))) w:=by
  simp only [execOp,hop,hF.ev hx];simp [Op.unary]
theorem gives_nilCheck {x:Operand}{ad:Addr}(hF:Fr n K a) (hop:o.op= .nilCheck x) (hx:ev K x=some (.pointer (some ad))) (w:World):(execOp a.eval o).run P w= .ok (.value (.pointer (some ad))) w:=by
  simp only [execOp,hop,hF.ev hx];rfl
theorem gives_conv {x:Operand}{s t:TypeId}{k k':IntKind}{z:Int}{u:TypeDesc}(hF:Fr n K a) (hop:o.op= .convert s t x) (hs:P.underlying s=some u) (hT:P.underlying t=some (.int k')) (hx:ev K x=some (.int k z)) (r:Int) (hr:k'.wrap z=r) (w:World):
    (execOp a.eval o).run P w= .ok (.value (.int k' r)) w:=by
  subst hr
  simp only [execOp,hop,hF.ev hx]
  simp [convert,run_underlying hs,run_underlying hT,Conv.intToInt]
theorem gives_convIF {x:Operand}{s t:TypeId}{k:IntKind}{k':FloatKind}{z:Int}{u:TypeDesc}(hF:Fr n K a) (hop:o.op= .convert s t x) (hs:P.underlying s=some u) (hT:P.underlying t=some (.float k')) (hx:ev K x=some (.int k z)) (w:World):
    (execOp a.eval o).run P w= .ok (.value (.float k' (k'.nearest z))) w:=by
  simp only [execOp,hop,hF.ev hx]
  simp [convert,run_underlying hs,run_underlying hT,Conv.intToFloat]
theorem gives_index_str {x i:Operand}{t:TypeId}{l:List UInt8}{k:IntKind}{z:Int}(j:Nat) (c:UInt8) (hF:Fr n K a) (hop:o.op= .index t x i) (hT:P.underlying t=some .string) (hx:ev K x=some (.string (mkS l))) (hi:ev K i=some (.int k z)) (hz:z=(j:Int)) (hc:l[j]?=some c) (w:World):
    (execOp a.eval o).run P w= .ok (.value (.int .u8 (c.toNat:Int))) w:=by
  have hlt':j<l.length:=(List.getElem?_eq_some_iff.1 hc).1
  have e:=run_index_string (P:=P) (w:=w) t (mkS l) k z hT
  rw [dif_pos ⟨by omega,by rw [mkS_size];omega⟩] at e
  have e2:(mkS l)[z.toNat]'(by rw [mkS_size];omega)=c:=by
    subst hz
    simp only [Int.toNat_natCast]
    rw [mkS_get]
    exact (List.getElem?_eq_some_iff.1 hc).2
  rw [e2] at e
  simp only [execOp,hop,hF.ev hx,hF.ev hi]
  simp [e]
theorem gives_len_str {x:Operand}{t:TypeId}{l:List UInt8}(hF:Fr n K a) (hop:o.op= .call {callee:= .builtin .len,args:= #[x],argTypes:= #[t]}) (hT:P.underlying t=some .string) (hx:ev K x=some (.string (mkS l))) (w:World):
    (execOp a.eval o).run P w= .ok (.value (.int .i64 (l.length:Int))) w:=by
  have e:=run_len_string (P:=P) (w:=w) t o.type (mkS l) hT
  simp only [mkS_size] at e
  simp only [execOp,hop,resolve,invoke,builtin,List.map_toArray,List.map_cons,List.map_nil,hF.ev hx]
  simp [e,goInt]
theorem gives_len_sl {x:Operand}{t e:TypeId}{ad:Option Addr}{l c:Nat}(hF:Fr n K a) (hop:o.op= .call {callee:= .builtin .len,args:= #[x],argTypes:= #[t]}) (hT:P.underlying t=some (.slice e)) (hx:ev K x=some (.slice ad l c)) (w:World):
    (execOp a.eval o).run P w= .ok (.value (.int .i64 (l:Int))) w:=by
  simp only [execOp,hop,resolve,invoke,builtin,List.map_toArray,List.map_cons,List.map_nil,hF.ev hx]
  simp [Builtin.len_,run_underlying hT,goInt]
theorem addr_add (b off j:Nat):(⟨b,off,none⟩:Addr).add j=⟨b,off+j,none⟩:=by unfold Addr.add;split <;> simp_all
theorem gives_indexAddrA {x i:Operand}{t e:TypeId}{b off l sz:Nat}{k:IntKind}{z:Int}(j:Nat) (hF:Fr n K a) (hop:o.op= .indexAddr t x i) (hT:P.underlying t=some (.array l e)) (hs:(P.info? e).map (·.size)=some sz)
    (hx:ev K x=some (.pointer (some ⟨b,off,none⟩))) (hi:ev K i=some (.int k z)) (hz:z=(j:Int)) (hj:j<l) (w:World):(execOp a.eval o).run P w= .ok (.value (.pointer (some ⟨b,off+j*sz,none⟩))) w:=by
  subst hz
  obtain ⟨ie,he,hsz⟩:=Option.map_eq_some_iff.1 hs
  have e2:(sizeOf e).run P w= .ok sz w:=by simp [sizeOf,typeInfo,he,hsz]
  simp only [execOp,hop,hF.ev hx,hF.ev hi]
  simp [Instr.indexAt,run_underlying hT,Instr.sureAddr,asIntOf,hj,e2,addr_add]
theorem gives_indexAddrS {x i:Operand}{t e:TypeId}{b off l c sz:Nat}{k:IntKind}{z:Int}(j:Nat) (hF:Fr n K a) (hop:o.op= .indexAddr t x i) (hT:P.underlying t=some (.slice e)) (hs:(P.info? e).map (·.size)=some sz)
    (hx:ev K x=some (.slice (some ⟨b,off,none⟩) l c)) (hi:ev K i=some (.int k z)) (hz:z=(j:Int)) (hj:j<l) (w:World):(execOp a.eval o).run P w= .ok (.value (.pointer (some ⟨b,off+j*sz,none⟩))) w:=by
  subst hz
  obtain ⟨ie,he,hsz⟩:=Option.map_eq_some_iff.1 hs
  have e2:(sizeOf e).run P w= .ok sz w:=by simp [sizeOf,typeInfo,he,hsz]
  simp only [execOp,hop,hF.ev hx,hF.ev hi]
  simp [Instr.indexAt,run_underlying hT,Instr.sureAddr,asIntOf,hj,e2,addr_add]
theorem gives_sliceA {x i j:Operand}{t e:TypeId}{b off l:Nat}{k k':IntKind}{z y:Int}(q:Nat) (hF:Fr n K a) (hop:o.op= .slice t x (some i) (some j) none) (hT:P.underlying t=some (.array l e)) (hs:(P.info? e).map (·.size)=some 1)
    (hx:ev K x=some (.pointer (some ⟨b,off,none⟩))) (hi:ev K i=some (.int k y)) (hy:y=0) (hj:ev K j=some (.int k' z)) (hz:z=(q:Int)) (hq:q≤l) (w:World):(execOp a.eval o).run P w= .ok (.value (.slice (some ⟨b,off,none⟩) q l)) w:=by
  subst hz;subst hy
  obtain ⟨ie,he,hsz⟩:=Option.map_eq_some_iff.1 hs
  have e2:(sizeOf e).run P w= .ok 1 w:=by simp [sizeOf,typeInfo,he,hsz]
  have e3:(⟨b,off,none⟩:Addr).add 0=⟨b,off,none⟩:=addr_add b off 0
  simp only [execOp,hop,hF.ev hx,hF.ev hi,hF.ev hj,Option.map_some,Option.map_none]
  simp [Instr.sliceAt,run_underlying hT,Instr.sureAddr,asIntOf,e2,Instr.sliceBounds,Instr.sliceBound,hq,e3]
theorem gives_load1 {x:Operand}{t:TypeId}{ad:Addr}{v:Value}{u:TypeDesc}(hF:Fr n K a) (hop:o.op= .load t x) (hT:P.underlying t=some u) (hu:plainB u=true) (hx:ev K x=some (.pointer (some ad))) (hc:w.cell? ad=some v):
    (execOp a.eval o).run P w= .ok (.value v) w:=by
  have e:(isAgg t).run P w= .ok false w:=by
    have h1:=run_underlying (P:=P) (w:=w) hT
    unfold isAgg
    simp only [Sem.run_bind,h1,Result.andThen_ok]
    cases u <;> first | rfl | (simp [plainB] at hu)
  simp only [execOp,hop,hF.ev hx]
  simp [Instr.loadAt,Instr.sureAddr,loadVar,e,load,Sem.run,hc]
theorem gives_bits {op:BinOp}{t t':TypeId}{x y:Operand}{k:IntKind}{p q:Int}(r:Int) (hF:Fr n K a) (hop:o.op= .binOp op t x y t') (hx:ev K x=some (.int k p)) (hy:ev K y=some (.int k q)) (hv:bitVal op k p q=some r) (w:World):
    (execOp a.eval o).run P w= .ok (.value (.int k r)) w:=by
  have e:(binOp op t (.int k p) (.int k q)).run P w= .ok (.int k r) w:=by
    cases op <;> simp only [bitVal,reduceCtorEq,Option.some.injEq] at hv <;> subst hv <;> simp [binOp,Op.intBits]
  simp only [execOp,hop,hF.ev hx,hF.ev hy]
  cases op <;> simp [bitVal] at hv <;> simp [eqGuard,e]
theorem gives_shl {t t':TypeId}{x y:Operand}{k k':IntKind}{p q:Int}(s:Nat) (r:Int) (hF:Fr n K a) (hop:o.op= .binOp .shl t x y t') (hx:ev K x=some (.int k p)) (hy:ev K y=some (.int k' q)) (hq:q=(s:Int)) (hv:k.wrap (p*2^min s k.bits)=r) (w:World):
    (execOp a.eval o).run P w= .ok (.value (.int k r)) w:=by
  subst hq
  have hn: ¬ ((s:Int)<0):=by omega
  have e:(binOp .shl t (.int k p) (.int k' (s:Int))).run P w= .ok (.int k r) w:=by
    simp only [binOp,Op.shift,if_neg hn,Int.toNat_natCast,hv]
    rfl
  simp only [execOp,hop,hF.ev hx,hF.ev hy]
  simp [eqGuard,e]
theorem gives_shr {t t':TypeId}{x y:Operand}{k k':IntKind}{p q:Int}(s:Nat) (r:Int) (hF:Fr n K a) (hop:o.op= .binOp .shr t x y t') (hx:ev K x=some (.int k p)) (hy:ev K y=some (.int k' q)) (hq:q=(s:Int)) (hv:p.fdiv (2^min s k.bits)=r) (w:World):
    (execOp a.eval o).run P w= .ok (.value (.int k r)) w:=by
  subst hq
  have hn: ¬ ((s:Int)<0):=by omega
  have e:(binOp .shr t (.int k p) (.int k' (s:Int))).run P w= .ok (.int k r) w:=by
    simp only [binOp,Op.shift,if_neg hn,Int.toNat_natCast,hv]
    rfl
  simp only [execOp,hop,hF.ev hx,hF.ev hy]
  simp [eqGuard,e]
theorem gives_quo {t t':TypeId}{x y:Operand}{k:IntKind}{p q:Int}(r:Int) (hF:Fr n K a) (hop:o.op= .binOp .quo t x y t') (hx:ev K x=some (.int k p)) (hy:ev K y=some (.int k q)) (hq:q≠0) (hv:k.wrap (p.tdiv q)=r) (w:World):
    (execOp a.eval o).run P w= .ok (.value (.int k r)) w:=by
  have e:(binOp .quo t (.int k p) (.int k q)).run P w= .ok (.int k r) w:=by
    simp [binOp,Op.intDiv,hq,hv]
  simp only [execOp,hop,hF.ev hx,hF.ev hy]
  simp [eqGuard,e]
theorem gives_rem {t t':TypeId}{x y:Operand}{k:IntKind}{p q:Int}(r:Int) (hF:Fr n K a) (hop:o.op= .binOp .rem t x y t') (hx:ev K x=some (.int k p)) (hy:ev K y=some (.int k q)) (hq:q≠0) (hv:p.tmod q=r) (w:World):
    (execOp a.eval o).run P w= .ok (.value (.int k r)) w:=by
  have e:(binOp .rem t (.int k p) (.int k q)).run P w= .ok (.int k r) w:=by
    simp [binOp,Op.intDiv,hq,hv]
  simp only [execOp,hop,hF.ev hx,hF.ev hy]
  simp [eqGuard,e]
theorem gives_eqlBool {t t':TypeId}{x y:Operand}{p q:Bool}(hF:Fr n K a) (hop:o.op= .binOp .eql t x y t') (hT:P.underlying t=some .bool) (hx:ev K x=some (.bool p)) (hy:ev K y=some (.bool q)) (w:World):
    (execOp a.eval o).run P w= .ok (.value (.bool (p==q))) w:=by
  have e1:∀ m,(Op.equalIn (m+1) t (.bool p) (.bool q)).run P w= .ok (p==q) w:=fun m=>run_equalIn_bool w m t p q hT
  have e2:(Op.equal t (.bool p) (.bool q)).run P w= .ok (p==q) w:=e1 9999
  have e:(binOp .eql t (.bool p) (.bool q)).run P w= .ok (.bool (p==q)) w:=by
    simp only [binOp,Sem.run_bind,e2,Result.andThen_ok]
    rfl
  simp only [execOp,hop,hF.ev hx,hF.ev hy]
  simp [eqGuard,e]
def fcmp (op:BinOp) (k:FloatKind) (x y:Nat):Option Bool:=
  match op with
  | .eql=>some (k.format.order x y==some .eq)
  | .neq=>some (k.format.order x y !=some .eq)
  | .lss=>some (k.format.order x y==some .lt)
  | .leq=>some (k.format.order x y==some .lt || k.format.order x y==some .eq)
  | .gtr=>some (k.format.order x y==some .gt)
  | .geq=>some (k.format.order x y==some .gt || k.format.order x y==some .eq)
  | _=>none
theorem gives_fcmp {op:BinOp}{t t':TypeId}{x y:Operand}{k:FloatKind}{p q:Nat}{b:Bool}(hF:Fr n K a) (hop:o.op= .binOp op t x y t') (hx:ev K x=some (.float k p)) (hy:ev K y=some (.float k q)) (hb:fcmp op k p q=some b) (w:World):
    (execOp a.eval o).run P w= .ok (.value (.bool b)) w:=by
  cases op <;> simp only [fcmp,reduceCtorEq,Option.some.injEq] at hb <;> subst hb
  all_goals
    simp only [execOp,hop,hF.ev hx,hF.ev hy]
    simp [eqGuard,binOp,Op.floatCmp]
theorem op_farith {op:BinOp}(hc:op= .mul∨op= .quo) (hF:Fr n K a) (hM:Mem B w0 L w) (hg:o.guard=none) {d:Nat}{t t':TypeId}{x y:Operand}{k:FloatKind}{p q:Nat}(hd:o.dst=some d) (hlt:Nat.blt d n=true)
    (hop:o.op= .binOp op t x y t') (hx:ev K x=some (.float k p)) (hy:ev K y=some (.float k q))
    (h:∀ a' w' f,Fr n ((d,.float k f)::K) a'→Mem B w0 L w'→wpList P ops Q rest a' w'):wpList P ops Q (o::rest) a w:=by
  have key:∃ f w',(binOp op t (.float k p) (.float k q)).run P w= .ok (.float k f) w'∧(w'=w∨w'=w.drew):=by
    rcases hc with rfl | rfl
    · cases hr:k.format.mul p q with
      | some r=>exact ⟨r,w,by simp [binOp,Op.floatArith,hr],.inl rfl⟩
      | none =>
        cases hq:(Question.nanBits k p q).forced with
        | true=>exact ⟨_,w,by simp [binOp,Op.floatArith,hr,choose,Sem.run,hq];rfl,.inl rfl⟩
        | false=>exact ⟨_,w.drew,by simp [binOp,Op.floatArith,hr,choose,Sem.run,hq];rfl,.inr rfl⟩
    · cases hr:k.format.div p q with
      | some r=>exact ⟨r,w,by simp [binOp,Op.floatArith,hr],.inl rfl⟩
      | none =>
        cases hq:(Question.nanBits k p q).forced with
        | true=>exact ⟨_,w,by simp [binOp,Op.floatArith,hr,choose,Sem.run,hq];rfl,.inl rfl⟩
        | false=>exact ⟨_,w.drew,by simp [binOp,Op.floatArith,hr,choose,Sem.run,hq];rfl,.inr rfl⟩
  obtain ⟨f,w',e,hw⟩:=key
  have hM':Mem B w0 L w':=by rcases hw with rfl | rfl;exact hM;exact hM.drew
  refine op_run hF hg (.float k f) (w':=w') hd hlt ?_ (fun a' hF'=>h a' w' f hF' hM')
  simp only [execOp,hop,hF.ev hx,hF.ev hy]
  rcases hc with rfl | rfl <;> simp [eqGuard,e]
def notIface:TypeDesc→Bool
  | .interface _=>false
  | _=>true
theorem gives_mkIface {x:Operand}{t:TypeId}{v:Value}{u:TypeDesc}(hF:Fr n K a) (hop:o.op= .makeInterface t x) (hT:P.underlying t=some u) (hi:notIface u=true) (hx:ev K x=some v) (w:World):(execOp a.eval o).run P w= .ok (.value (.iface t v)) w:=by
  simp only [execOp,hop,hF.ev hx]
  cases u <;> first | (simp [notIface] at hi;done) | simp [Instr.makeInterface,run_underlying hT]
end
variable {P:Program}{n:Nat}{K:List (Nat×Value)}{a:Act}{w:World}{Q:Exit→Act→World→Prop}{ops:Array Oper}{rest:List Oper}{o:Oper}{q:Act→Prop}
theorem unwanted_undef (hF:Fr n K a) {j d0:Nat}{want:Bool}{oj:Oper}(hg:o.guard=some (j,want)) (hj:ops[j]?=some oj) (hd:oj.dst=some d0) (hlt:Nat.blt d0 n=true) (hb:look K d0=some undef):
    Region.wanted o (yielded ops a.tmps)=false:=by
  have h1:=hF.at_ d0 _ hb
  have hl:d0<a.tmps.size:=by rw [hF.size];exact Nat.le_of_ble_eq_true hlt
  have h2:a.tmps[d0]?=some undef:=by
    rw [Array.getElem?_eq_getElem hl]
    have:a.tmps.getD d0 undef=a.tmps[d0]:=by simp [Array.getD,hl]
    rw [←this,h1]
  simp [Region.wanted,hg,yielded,hj,hd,h2,undef]
end Go.Sx
namespace Go.Sx

end Go.Sx