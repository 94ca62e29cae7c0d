/- Part 16 of the proof of FnJrTyped: the statement Rows.FnJrTypedCardSaid; no further condition. -/
import Derived.Test.YtelonenjneonlaaGreatDoorR15
set_option linter.all false
set_option maxRecDepth 100000
namespace Go.Sx
open Go.RowKit Go.Proofs Js
def eP (I fd:Str) (k':Int):Int:=((Zs (I++fd)).length:Int) - (fd.length:Int)+k' - ((min 19 (Zs (I++fd)).length:Nat):Int)
def sgB (neg:Bool):Nat:=if neg then 2^63 else 0
theorem sgB_ok (neg:Bool):SgOk (sgB neg):=by cases neg;exact .inl rfl;exact .inr rfl
def EqF (neg:Bool) (d:Nat) (p:Int):Bool:=Op.floatEq .f64 (FX (sgB neg) d p).1 (FX (sgB neg) (d+1) p).1
def slowB (I fd:Str) (k':Int):Prop:=big (worth ((Zs (I++fd)).take 800)) (dpF 800 I fd+k' - ((min 800 (Zs (I++fd)).length:Nat):Int))
def ErrX (neg:Bool) (I fd:Str) (k':Int):Prop:=mant (I++fd)≠0∧(310<eP I fd k'∨(-345≤eP I fd k'∧(if trc (I++fd)=true∧EqF neg (mant (I++fd)) (eP I fd k')=false then slowB I fd k' else big (mant (I++fd)) (eP I fd k'))))
theorem errX_zero {neg:Bool}{I fd:Str}{k':Int}(h:mant (I++fd)=0): ¬ ErrX neg I fd k':=fun h2=>h2.1 h
theorem errX_high {neg:Bool}{I fd:Str}{k':Int}(h:mant (I++fd)≠0) (hp:310<eP I fd k'):ErrX neg I fd k':=⟨h,.inl hp⟩
theorem errX_low {neg:Bool}{I fd:Str}{k':Int}(hp:eP I fd k'< -345): ¬ ErrX neg I fd k':=fun h2=>by rcases h2.2 with h | h <;> omega
theorem errX_fast {neg:Bool}{I fd:Str}{k':Int}(h:mant (I++fd)≠0) (h1: ¬ 310<eP I fd k') (h2: ¬ eP I fd k'< -345) (h3:trc (I++fd)=false∨EqF neg (mant (I++fd)) (eP I fd k')=true):ErrX neg I fd k'↔big (mant (I++fd)) (eP I fd k'):=by
  unfold ErrX
  rw [if_neg (by rintro ⟨h4,h5⟩;rcases h3 with h3 | h3;rw [h3] at h4;cases h4;rw [h3] at h5;cases h5)]
  exact ⟨fun h4=>by rcases h4.2 with h5 | h5;exact absurd h5 h1;exact h5.2,fun h4=>⟨h,.inr ⟨by omega,h4⟩⟩⟩
theorem errX_slow {neg:Bool}{I fd:Str}{k':Int}(h:mant (I++fd)≠0) (h1: ¬ 310<eP I fd k') (h2: ¬ eP I fd k'< -345) (h3:trc (I++fd)=true) (h4:EqF neg (mant (I++fd)) (eP I fd k')=false):ErrX neg I fd k'↔slowB I fd k':=by
  unfold ErrX
  rw [if_pos ⟨h3,h4⟩]
  exact ⟨fun h4=>by rcases h4.2 with h5 | h5;exact absurd h5 h1;exact h5.2,fun h4=>⟨h,.inr ⟨by omega,h4⟩⟩⟩
theorem errX_law {neg:Bool}{I fd:Str}{k':Int}(hI:Digs I) (hf:Digs fd) (h8:(I++fd).length≤800):ErrX neg I fd k'↔big (worth (I++fd)) (k' - fd.length):=by
  have hD:Digs (I++fd):=hI.append hf
  obtain ⟨j,r,hj,hV,hr,h0⟩:=mant_split hD
  have hlt:=mant_lt hD
  have hzl:=zlen_le (I++fd)
  have hzI:=zlen_le I
  have hIl:I.length≤800:=by rw [List.length_append] at h8;omega
  have hp:eP I fd k'=(k' - fd.length)+(j:Int):=by unfold eP;omega
  obtain ⟨b1,b2,b3⟩:=big_split hV hr hp
  by_cases hd:mant (I++fd)=0
  · rw [mant_zero hD hd]
    exact ⟨fun h=>absurd hd h.1,fun h=>absurd h (big_zero _)⟩
  by_cases hA:310<eP I fd k'
  · exact ⟨fun _=>b1 (big_large (by omega) (by omega)),fun _=>errX_high hd hA⟩
  by_cases hB:eP I fd k'< -345
  · exact ⟨fun h=>absurd h (errX_low hB),fun h=>absurd (b2 h) (big_low (a:=20) (by omega) (by omega))⟩
  by_cases hS:trc (I++fd)=true∧EqF neg (mant (I++fd)) (eP I fd k')=false
  · rw [errX_slow hd hA hB hS.1 hS.2]
    unfold slowB
    rw [List.take_of_length_le (by omega),Zs_worth,dp_all (by omega),Nat.min_eq_right (show (Zs (I++fd)).length≤800 by omega),show ((Zs (I++fd)).length:Int) - (fd.length:Int)+k' - ((Zs (I++fd)).length:Int)=k' - fd.length by omega]
  · have hS2:trc (I++fd)=false∨EqF neg (mant (I++fd)) (eP I fd k')=true:=by
      cases ht:trc (I++fd) with
      | false=>exact .inl rfl
      | true =>
        cases he:EqF neg (mant (I++fd)) (eP I fd k') with
        | true=>exact .inr rfl
        | false=>exact absurd ⟨ht,he⟩ hS
    rw [errX_fast hd hA hB hS2]
    rcases hS2 with h | h
    · exact (b3 (h0 h)).symm
    · refine ⟨b1,fun h2=> ?_⟩
      have h3:=fx_same (sgB_ok neg) (show 0<mant (I++fd) by omega) (by omega) (show 0<mant (I++fd)+1 by omega) (by omega) (by omega) h
      have h4:=(fx_big (sgB_ok neg) (show 0<mant (I++fd)+1 by omega) (by omega) (by omega)).2 (b2 h2)
      rw [←h3] at h4
      exact (fx_big (sgB_ok neg) (show 0<mant (I++fd) by omega) (by omega) (by omega)).1 h4
open Go.Proofs.YtelonenjneonlaaGreatDoorW.PrintWords
theorem numForm_head {s:Str}{neg:Bool}{I fd E:Str}{k:Int}{c:UInt8}(h:NumForm s neg I fd E k) (hc:s[0]?=some c):(neg=true∧c=45)∨(neg=false∧isDig c=true):=by
  rw [h.text] at hc
  cases neg with
  | true=>exact .inl ⟨rfl,(Option.some.inj hc).symm⟩
  | false =>
    have h0:=h.int0
    have hi:=h.int
    cases hI:I with
    | nil=>exact absurd hI h0
    | cons d r =>
      rw [hI] at hc hi
      exact .inr ⟨rfl,by rw [←Option.some.inj hc];exact hi.head⟩
theorem exCap_head {E:Str}{k':Int}(h:ExCap E k'):∀ c,E.head?=some c→c=101∨c=69:=by
  intro c hc
  rcases h with ⟨h,_⟩ | ⟨d,pw,neg,ds,hd,h,_⟩
  · rw [h] at hc;cases hc
  · rw [h] at hc;rw [←Option.some.inj hc];exact hd
theorem dpC_dot {C:Nat}{I fd D:Str}(h:D=I) (hC:(Zs I).length≤C):dpC C I fd D 0 true=((Zs D).length:Int):=by
  unfold dpC
  rw [if_pos rfl,h,Nat.min_eq_right hC]
  split <;> simp [lz]
theorem pwOf_pos {pw:Str}{en:Bool}{ds:Str}(h:PwOf pw en ds):0<pw.length∧0<ds.length:=by
  obtain ⟨_,h0,h1⟩:=h
  have:=List.length_pos_iff.2 h0
  rcases h1 with ⟨_,h1⟩ | ⟨_,h1 | h1⟩ <;> rw [h1] <;> simp <;> omega
theorem sgn_mul (en:Bool) (n:Nat):(n:Int)*(if en then -1 else 1)=sgn en n:=by unfold sgn;cases en <;> simp
set_option maxHeartbeats 1000000 in
theorem readFloatx_walk {s:Str}{neg:Bool}{I fd E:Str}{k k':Int}(hf:NumForm s neg I fd E k) (hx:ExCap E k') (hs:s.length≤2^40) (hn:∀ c∈s,numc c=true) (w0:World):
    Calls Tryz.prog 206 #[.string (mkS s)] w0 (Ret fun v w'=>v= .tuple #[.int .u64 ((mant (I++fd):Nat):Int),.int .i64 (if mant (I++fd)=0 then 0 else eP I fd k'),.bool neg,.bool (trc (I++fd)),.bool false,.int .i64 (s.length:Int),.bool true]∧Below w0.heap.size w0 w'):=by
 have hM:=MS0 w0
 obtain ⟨pre,hpre⟩:∃ p:Nat,p=if neg then 1 else 0:=⟨_,rfl⟩
 have hsp:s.drop pre=I++(pt fd++E):=by rw [hf.text,hpre];cases neg <;> rfl
 have hpl:pre≤1:=by rw [hpre];split <;> omega
 have hI0:0<I.length:=List.length_pos_iff.2 hf.int0
 have hlen:pre+(I.length+((pt fd).length+E.length))=s.length:=by rw [hf.text,hpre];cases neg <;> simp <;> omega
 have hlp:0<s.length:=by omega
 have hptl:fd.length≤(pt fd).length:=by unfold pt;split <;> simp_all
 have hzI:=zlen_le I
 obtain ⟨c0,hc0⟩:∃ c,s[0]?=some c:=⟨_,List.getElem?_eq_getElem hlp⟩
 have hc0b:(c0.toNat=45↔neg=true)∧c0.toNat≠43:=by
   rcases numForm_head hf hc0 with ⟨h1,h2⟩ | ⟨h1,h2⟩
   · rw [h2,h1];exact ⟨⟨fun _=>rfl,fun _=>rfl⟩,by decide⟩
   · have:=dig_rng h2;exact ⟨⟨fun h=>by omega,fun h=>by rw [h1] at h;cases h⟩,by omega⟩
 have hE:=exCap_head hx
 have hnum:∀ {j c},s[j]?=some c→numc c=true:=fun h=>hn _ (List.mem_of_getElem? h)
 refine enter (l:=[.string (mkS s)]) 252 Tryz.func206 rfl rfl (Sq (Rg (Md 7 [0,2,3,4,5,6,7,8] rfl (Nx ?_))));intro a hF
 refine scopeZ (X:=Unit) (fun _ _ _ _=>False) (fun _ _=>0) (fun _=>0) (fun _ _ _ _ _ h=>h.elim) (fun _=> ?_)
 revert a;refine Sq (Rg (Md 1 [0,2,3,4,5,6,7,8,9] rfl (Nx (Sq (Sq (Rg (Md 4 [0,2,3,4,5,6,7,8,9,24] rfl (Nx (C1 rfl (fun ht=>absurd (of_decide_eq_true ht) (by omega)) (Sk (Nx ?_)))))))))));intro a hF
 refine cut (fun a w=>Fr 253 [(0,.string (mkS s)),(2,.int .u64 0),(3,.int .i64 0),(4,.bool neg),(5,.bool false),(6,.bool false),(7,.int .i64 (pre:Int)),(8,.bool false),(9,.bool false)] a∧Mem w0.heap.size w0 [] w) ?_ (fun a w h=> ?_)
 ·
  revert a;refine Sq (Rg (Mv 2 rfl (Ix (0) c0 rfl hc0 (by omega) (Md 0 [0,2,3,4,5,6,7,8,9,27] rfl (Nx (Bo (Sq (Rg (Md 2 [0,2,3,4,5,6,7,8,9,27,28] rfl (Nx (C1 rfl (fun ht=>absurd (show (c0.toNat:Int)=43 by simpa using ht) (by omega)) (Sq (Rg (Md 2 [0,2,3,4,5,6,7,8,9,32] rfl (Nx (Ce rfl (fun ht=> ?_) ((fun ht=> ?_))))))))))))))))))
  ·
   have hneg:neg=false:=by cases hb:neg;rfl;exact absurd (hc0b.1.2 hb) (by intro h;rw [h] at ht;exact absurd ht (by decide))
   refine Sk (Nb (Kp [0,2,3,4,5,6,7,8,9] rfl ?_));intro a hF
   exact ⟨by rw [hpre];subst hneg;exact hF,hM⟩
  have hneg:neg=true:=hc0b.1.1 (by have:(c0.toNat:Int)=45:=(by simpa using ht);omega)
  refine Sq (Rg (Mv 1 rfl (Sm (((1:Nat):Int)) rfl (by omega) (Md 1 [0,2,3,5,6,7,8,9] rfl (Nx (Rg (Md 1 [0,2,3,4,5,6,7,8,9] rfl (Nb (Kp [0,2,3,4,5,6,7,8,9] rfl ?_)))))))));intro a hF
  exact ⟨by rw [hpre];subst hneg;exact hF,hM⟩
 clear hF hM
 obtain ⟨hF,hM⟩:=h
 revert a;refine Sq (Rg (Md 1 [0,2,3,4,5,6,7,8,9,10] rfl (Nx (Sq (Rg (Md 1 [0,2,3,4,5,6,7,8,9,10,11] rfl (Nx (Sq (Rg (Md 1 [0,2,3,4,5,6,7,8,9,10,11,12] rfl (Nx ?_)))))))))));intro a hF
 refine cut (fun a w=>Fr 253 [(0,.string (mkS s)),(2,.int .u64 0),(3,.int .i64 0),(4,.bool neg),(5,.bool false),(6,.bool false),(7,.int .i64 (pre:Int)),(8,.bool false),(9,.bool false),(10,.int .u64 10),(11,.int .i64 19),(12,.int .u8 101)] a∧Mem w0.heap.size w0 [] w) ?_ (fun a w h=> ?_)
 ·
  revert a;refine Sq ?_
  rcases (show s.length≤pre+2∨(pre+2<s.length∧∃ c1 c2,s[pre]?=some c1∧s[pre+1]?=some c2∧c1≠48)∨(pre+2<s.length∧∃ c1 c2,s[pre]?=some c1∧s[pre+1]?=some c2∧c1=48) from (Nat.lt_or_ge (pre+2) s.length).elim (fun h=> .inr (by have g1:s[pre]?=some (s[pre]):=List.getElem?_eq_getElem (by omega);have g2:s[pre+1]?=some (s[pre+1]):=List.getElem?_eq_getElem (by omega);by_cases hx:s[pre]=48;exact .inr ⟨h,_,_,g1,g2,hx⟩;exact .inl ⟨h,_,_,g1,g2,hx⟩)) (fun h=> .inl h)) with hk | ⟨hk,c1,c2,hc1,hc2,h48⟩ | ⟨hk,c1,c2,hc1,hc2,h48⟩
  ·
   refine Rg (Mv 1 rfl (Sm (((pre+2:Nat):Int)) rfl (by omega) (Mv 2 rfl (Bf rfl (by omega) (Md 14 [0,2,3,4,5,6,7,8,9,10,11,12,54] rfl (Nx (Cf rfl (Sk (Kp [0,2,3,4,5,6,7,8,9,10,11,12] rfl ?_)))))))));intro a hF
   exact ⟨hF,hM⟩
  ·
   refine Rg (Mv 1 rfl (Sm (((pre+2:Nat):Int)) rfl (by omega) (Mv 2 rfl (Bt rfl (by omega) (Mv 3 rfl (Ix (pre) c1 rfl hc1 (by omega) (Qf 48 rfl rfl h48 (Md 9 [0,2,3,4,5,6,7,8,9,10,11,12,54] rfl (Nx (Cf rfl (Sk (Kp [0,2,3,4,5,6,7,8,9,10,11,12] rfl ?_))))))))))));intro a hF
   exact ⟨hF,hM⟩
  refine Rg (Mv 1 rfl (Sm (((pre+2:Nat):Int)) rfl (by omega) (Mv 2 rfl (Bt rfl (by omega) (Mv 3 rfl (Ix (pre) c1 rfl hc1 (by omega) (Qt 48 rfl rfl h48 (Mv 4 rfl (Sm (((pre+1:Nat):Int)) rfl (by omega) (Ix (pre+1) c2 rfl hc2 (by omega) (Cm hM rfl rfl rfl (lower_walk c2 w) ?_)))))))))))
  clear hM;intro w v hR hM hBe
  obtain rfl:=hR
  refine Mv 1 rfl ?_;intro a hF
  rw [numc_nox (hnum hc2)] at hF
  revert a;refine Md 1 [0,2,3,4,5,6,7,8,9,10,11,12,54] rfl (Nx (Cf rfl (Sk (Kp [0,2,3,4,5,6,7,8,9,10,11,12] rfl ?_))));intro a hF
  exact ⟨hF,hM⟩
 clear hF hM
 obtain ⟨hF,hM⟩:=h
 revert a;refine Sq (Rg (Md 1 [0,2,3,4,5,6,7,8,9,10,11,12,13] rfl (Nx (Sq (Rg (Md 1 [0,2,3,4,5,6,7,8,9,10,11,12,13,14] rfl (Nx (Sq (Rg (Md 1 [0,2,3,4,5,6,7,8,9,10,11,12,13,14,15] rfl (Nx (Sq (Rg (Md 1 [0,2,3,4,5,6,7,8,9,10,11,12,13,14,15,16] rfl (Nx (Sq (Rg (Md 1 [0,2,3,4,5,6,7,8,9,10,11,12,13,14,15,16,17] rfl (Nx (Sq (Wl (Nx ?_))))))))))))))))))))));intro a hF
 refine cut (fun a w=>∃ (i:Nat) (D:Str) (fr:Nat) (seen sg:Bool),RDn s I fd E i D fr seen∧i≤s.length∧(D≠ []→sg=true)∧Fr 253 [(0,.string (mkS s)),(2,.int .u64 ((mant D:Nat):Int)),(3,.int .i64 0),(4,.bool neg),(5,.bool (trc D)),(6,.bool false),(7,.int .i64 (i:Int)),(8,.bool false),(9,.bool false),(10,.int .u64 10),(11,.int .i64 19),(12,.int .u8 101),(13,.bool seen),(14,.bool sg),(15,.int .i64 ((Zs D).length:Int)),(16,.int .i64 ((min 19 (Zs D).length:Nat):Int)),(17,.int .i64 (dpC 2199023255552 I fd D fr seen))] a∧Mem w0.heap.size w0 [] w) ?_ (fun a w h=> ?_)
 ·
  revert a;refine Bo (Kp [0,2,3,4,5,6,7,8,9,10,11,12,13,14,15,16,17] rfl ?_);intro a hF
  refine loopX (fun (x:Nat×Str×Nat×Bool) a w=>RSt pre I fd x.1 x.2.1 x.2.2.1 x.2.2.2∧x.1≤s.length∧(∃ sg:Bool,(x.2.1≠ []→sg=true)∧Fr 253 [(0,.string (mkS s)),(2,.int .u64 ((mant x.2.1:Nat):Int)),(3,.int .i64 0),(4,.bool neg),(5,.bool (trc x.2.1)),(6,.bool false),(7,.int .i64 (x.1:Int)),(8,.bool false),(9,.bool false),(10,.int .u64 10),(11,.int .i64 19),(12,.int .u8 101),(13,.bool x.2.2.2),(14,.bool sg),(15,.int .i64 ((Zs x.2.1).length:Int)),(16,.int .i64 ((min 19 (Zs x.2.1).length:Nat):Int)),(17,.int .i64 (dpC 2199023255552 I fd x.2.1 x.2.2.1 x.2.2.2))] a)∧Mem w0.heap.size w0 [] w) (fun x=>s.length - x.1) ((pre,([]:Str),0,false)) ?_ (fun x a w hI=> ?_)
  · exact ⟨RSt.start pre I fd,by simp only;omega,⟨false,fun h=>absurd rfl h,hF⟩,hM⟩
  clear hF hM
  obtain ⟨i,D,fr,seen⟩:=x
  obtain ⟨hR,hi,⟨sg,hsg,hF⟩,hM⟩:=hI
  simp only at hR hi hsg hF
  have hDd:=hR.digs
  have hml:=mant_lt hDd
  have hzl:=zlen_le D
  have hDl:D.length≤s.length:=by have:=hR.pos;split at this <;> omega
  have hdpr:=dpC_rng 2199023255552 I fd D fr seen
  revert a;refine Sq (Sq (Rg (Md 4 [0,2,3,4,5,6,7,8,9,10,11,12,13,14,15,16,17,60] rfl (Nx (Ce rfl (fun ht=> ?_) ((fun ht=> ?_)))))))
  ·
   have hdn:=hR.stop hsp hf.int0 (by have:=of_decide_eq_false ht;omega)
   refine Ex (Ot (Ot (Ob (Kp [0,2,3,4,5,6,7,8,9,10,11,12,13,14,15,16,17] rfl ?_))));intro a hF
   exact ⟨i,D,fr,seen,sg,hdn,hi,hsg,hF,hM⟩
  have hlt:i<s.length:=by have:=of_decide_eq_true ht;omega
  obtain ⟨c,hc⟩:∃ c,s[i]?=some c:=⟨_,List.getElem?_eq_getElem hlt⟩
  have hnx:=hR.next hsp hf.int hf.frac hE hc
  refine Sk (Nx (Sq (Bo (Sq (Sq (Rg (Mv 2 rfl (Ix (i) c rfl hc (by omega) (Md 1 [0,2,3,4,5,6,7,8,9,10,11,12,13,14,15,16,17,18] rfl (Nx (Bo (Sq (Rg (Mv 1 rfl (Qf 95 rfl rfl (numc_no95 (hnum hc)) (Gv rfl (fun _ hF=>gives_eqlBool hF rfl Tryz.underlying4 rfl rfl _) (Md 1 [0,2,3,4,5,6,7,8,9,10,11,12,13,14,15,16,17,18,66] rfl (Nx (C1 rfl (fun ht=>absurd ht (by decide)) (Sq ?_))))))))))))))))))))
  rcases hnx with ⟨hcd,hR2,hfr⟩ | ⟨rfl,hs0,hDI,hR2⟩ | ⟨hce,hdn⟩
  ·
   have hk:=dig_rng hcd
   have hdgc:dg c=c.toNat - 48:=rfl
   have hnd:c≠46:=by rintro rfl;exact absurd hcd (by decide)
   refine Rg (Mv 1 rfl (Qf 46 rfl rfl hnd (Gv rfl (fun _ hF=>gives_eqlBool hF rfl Tryz.underlying4 rfl rfl _) (Md 1 [0,2,3,4,5,6,7,8,9,10,11,12,13,14,15,16,17,18,70] rfl (Nx (C1 rfl (fun ht=>absurd ht (by decide)) (Sq (Rg (Mv 1 rfl (Bt rfl (by omega) (Mv 2 rfl (Bt rfl (by omega) (Mv 1 rfl (Gv rfl (fun _ hF=>gives_eqlBool hF rfl Tryz.underlying4 rfl rfl _) (Md 1 [0,2,3,4,5,6,7,8,9,10,11,12,13,14,15,16,17,18,76] rfl (Nx (D2 rfl (fun ht=>absurd ht (by decide)) (Sq (Rg (Md 1 [0,2,3,4,5,6,7,8,9,10,11,12,13,14,15,16,17,18] rfl (Nx (Sq (Sq ?_)))))))))))))))))))))))
   rcases (show c≠48∨(c=48∧(Zs D).length=0)∨(c=48∧0<(Zs D).length) from (Classical.em (c=48)).elim (fun h=> .inr ((Nat.eq_zero_or_pos _).imp (fun h'=>⟨h,h'⟩) (fun h'=>⟨h,h'⟩))) (fun h=> .inl h)) with h48 | ⟨h48,hz0⟩ | ⟨h48,hz0⟩
   ·
    have hz: ¬ (Zs D=[]∧c=48):=fun h=>h48 h.2
    have hzn:=zlen_push hz
    have hdq:=dpC_dig (cap:=2199023255552) hfr hz
    refine Rg (Mv 1 rfl (Qf 48 rfl rfl h48 (Md 4 [0,2,3,4,5,6,7,8,9,10,11,12,13,14,15,16,17,18,89] rfl (Nx (Cf rfl (Sk (Nx (Sq (Rg (Mv 1 rfl (Sm (((Zs (D++ [c])).length:Int)) rfl (by omega) (Md 1 [0,2,3,4,5,6,7,8,9,10,11,12,13,14,15,16,17,18] rfl (Nx (Sq (Sq (Rg (Md 3 [0,2,3,4,5,6,7,8,9,10,11,12,13,14,15,16,17,18,96] rfl (Nx (Cd rfl (fun ht=> ?_) ((fun ht=> ?_)))))))))))))))))))))
    ·
     have hl19:(Zs D).length<19:=by have:=of_decide_eq_true ht;omega
     have hm:=mant_next hz hl19
     have hms:=mant_short hDd hl19
     have htr:trc (D++ [c])=trc D:=by rw [trc_low (by omega),trc_low (by omega)]
     have hmn:min 19 (Zs (D++ [c])).length=min 19 (Zs D).length+1:=by omega
     refine Sq (Rg (Mv 2 rfl (Gv rfl (fun _ hF=>gives_sum hF rfl rfl rfl (((mant D*10:Nat):Int)) rfl (by omega) (u64_in (by omega) (by omega)) _) (Md 1 [0,2,3,4,5,6,7,8,9,10,11,12,13,14,15,16,17,18] rfl (Nx (Sq (Rg (Mv 2 rfl ?_))))))));intro a hF
     refine op_sum hF rfl (((dg c:Nat):Int)) rfl rfl rfl rfl rfl rfl (by omega) (IntWalk.u8_in _ ⟨by omega,by omega⟩) ?_;clear hF a;intro a hF
     refine op_conv_to hF rfl rfl rfl rfl Tryz.underlying5 Tryz.underlying54 rfl (IntWalk.u64_in _ ⟨by omega,by omega⟩) ?_;clear hF a;intro a hF
     revert a;refine Gv rfl (fun _ hF=>gives_sum hF rfl rfl rfl (((mant (D++ [c]):Nat):Int)) rfl (by omega) (u64_in (by omega) (by omega)) _) (Md 1 [0,2,3,4,5,6,7,8,9,10,11,12,13,14,15,16,17] rfl (Nx (Rg (Mv 1 rfl (Sm (((min 19 (Zs (D++ [c])).length:Nat):Int)) rfl (by omega) (Md 1 [0,2,3,4,5,6,7,8,9,10,11,12,13,14,15,16,17] rfl (Nx (Ex (Op' rfl (Ot (Ob (Nx (Rg (Mv 1 rfl (Sm (((i+1:Nat):Int)) rfl (by omega) (Md 1 [0,2,3,4,5,6,7,8,9,10,11,12,13,14,15,16,17] rfl ?_))))))))))))))));intro a hF
     exact ⟨(i+1,D++ [c],(if seen then fr+1 else fr),seen),⟨hR2,by simp only;omega,⟨true,fun _=>rfl,by simp only [hm,htr,hmn,hdq] at hF ⊢;exact hF⟩,hM⟩,by simp only;omega⟩
    have hl19:19≤(Zs D).length:=by have:=of_decide_eq_false ht;omega
    have hm:=mant_past (c:=c) hl19
    have htr0:=trc_past (c:=c) hl19
    have hmn:min 19 (Zs (D++ [c])).length=min 19 (Zs D).length:=by omega
    refine Sq (Rg (Md 2 [0,2,3,4,5,6,7,8,9,10,11,12,13,14,15,16,17,108] rfl (Nx (Ce rfl (fun ht=> ?_) ((fun ht=> ?_))))))
    ·
     have hc48:c=48:=by have:(c.toNat:Int)=48:=(by simpa using ht);exact UInt8.toNat_inj.1 (by rw [show (48:UInt8).toNat=48 from rfl];omega)
     have htr:trc (D++ [c])=trc D:=by rw [htr0,hc48];simp
     refine Sk (Nx (Ex (Op' rfl (Ot (Ob (Nx (Rg (Mv 1 rfl (Sm (((i+1:Nat):Int)) rfl (by omega) (Md 1 [0,2,3,4,5,6,7,8,9,10,11,12,13,14,15,16,17] rfl ?_))))))))));intro a hF
     exact ⟨(i+1,D++ [c],(if seen then fr+1 else fr),seen),⟨hR2,by simp only;omega,⟨true,fun _=>rfl,by simp only [hm,htr,hmn,hdq] at hF ⊢;exact hF⟩,hM⟩,by simp only;omega⟩
    have hc48:c≠48:=by rintro rfl;exact absurd ht (by decide)
    have htr:trc (D++ [c])=true:=by rw [htr0];simp [hc48]
    refine Rg (Md 1 [0,2,3,4,5,6,7,8,9,10,11,12,13,14,15,16,17] rfl (Nx (Ex (Op' rfl (Ot (Ob (Nx (Rg (Mv 1 rfl (Sm (((i+1:Nat):Int)) rfl (by omega) (Md 1 [0,2,3,4,5,6,7,8,9,10,11,12,13,14,15,16,17] rfl ?_)))))))))));intro a hF
    exact ⟨(i+1,D++ [c],(if seen then fr+1 else fr),seen),⟨hR2,by simp only;omega,⟨true,fun _=>rfl,by simp only [hm,htr,hmn,hdq] at hF ⊢;exact hF⟩,hM⟩,by simp only;omega⟩
   ·
    have hm:=mant_skip (zs_nil.2 hz0) h48
    have htr:=trc_skip (zs_nil.2 hz0) h48
    have hzn:=zlen_skip (zs_nil.2 hz0) h48
    have hzk:(Zs (D++ [c])).length=(Zs D).length∧True:=⟨hzn,trivial⟩
    have hdq:=dpC_dig0 (cap:=2199023255552) hfr (zs_nil.2 hz0) h48
    have hmn:min 19 (Zs (D++ [c])).length=min 19 (Zs D).length:=by rw [hzn]
    refine Rg (Mv 1 rfl (Qt 48 rfl rfl h48 (Mv 3 rfl ?_)));intro a hF
    rw [show (((Zs D).length:Int)==0)=true by rw [hz0];rfl] at hF
    revert a;refine Md 1 [0,2,3,4,5,6,7,8,9,10,11,12,13,14,15,16,17,18,89] rfl (Nx (Ct rfl (Sq (Rg (Mv 1 rfl (Sm (dpC 2199023255552 I fd (D++ [c]) (if seen then fr+1 else fr) seen) rfl (by omega) (Md 1 [0,2,3,4,5,6,7,8,9,10,11,12,13,14,15,16,17] rfl (Nx (Ex (Ot (Op' rfl (Ot (Ob (Nx (Rg (Mv 1 rfl (Sm (((i+1:Nat):Int)) rfl (by omega) (Md 1 [0,2,3,4,5,6,7,8,9,10,11,12,13,14,15,16,17] rfl ?_))))))))))))))))));intro a hF
    exact ⟨(i+1,D++ [c],(if seen then fr+1 else fr),seen),⟨hR2,by simp only;omega,⟨true,fun _=>rfl,hzk.elim fun h1 h2=>by simp only [hm,htr,h1,hdq] at hF ⊢;exact hF⟩,hM⟩,by simp only;omega⟩
   have hz: ¬ (Zs D=[]∧c=48):=fun h=>by have:=zs_nil.1 h.1;omega
   have hzn:=zlen_push hz
   have hdq:=dpC_dig (cap:=2199023255552) hfr hz
   refine Rg (Mv 1 rfl (Qt 48 rfl rfl h48 (Mv 2 rfl (Bv rfl rfl (show (((Zs D).length:Int)==0)=false from beq_eq_false_iff_ne.2 (by omega)) (Md 1 [0,2,3,4,5,6,7,8,9,10,11,12,13,14,15,16,17,18,89] rfl (Nx (Cf rfl (Sk (Nx (Sq (Rg (Mv 1 rfl (Sm (((Zs (D++ [c])).length:Int)) rfl (by omega) (Md 1 [0,2,3,4,5,6,7,8,9,10,11,12,13,14,15,16,17,18] rfl (Nx (Sq (Sq (Rg (Md 3 [0,2,3,4,5,6,7,8,9,10,11,12,13,14,15,16,17,18,96] rfl (Nx (Cd rfl (fun ht=> ?_) ((fun ht=> ?_)))))))))))))))))))))))
   ·
    have hl19:(Zs D).length<19:=by have:=of_decide_eq_true ht;omega
    have hm:=mant_next hz hl19
    have hms:=mant_short hDd hl19
    have htr:trc (D++ [c])=trc D:=by rw [trc_low (by omega),trc_low (by omega)]
    have hmn:min 19 (Zs (D++ [c])).length=min 19 (Zs D).length+1:=by omega
    refine Sq (Rg (Mv 2 rfl (Gv rfl (fun _ hF=>gives_sum hF rfl rfl rfl (((mant D*10:Nat):Int)) rfl (by omega) (u64_in (by omega) (by omega)) _) (Md 1 [0,2,3,4,5,6,7,8,9,10,11,12,13,14,15,16,17,18] rfl (Nx (Sq (Rg (Mv 2 rfl ?_))))))));intro a hF
    refine op_sum hF rfl (((dg c:Nat):Int)) rfl rfl rfl rfl rfl rfl (by omega) (IntWalk.u8_in _ ⟨by omega,by omega⟩) ?_;clear hF a;intro a hF
    refine op_conv_to hF rfl rfl rfl rfl Tryz.underlying5 Tryz.underlying54 rfl (IntWalk.u64_in _ ⟨by omega,by omega⟩) ?_;clear hF a;intro a hF
    revert a;refine Gv rfl (fun _ hF=>gives_sum hF rfl rfl rfl (((mant (D++ [c]):Nat):Int)) rfl (by omega) (u64_in (by omega) (by omega)) _) (Md 1 [0,2,3,4,5,6,7,8,9,10,11,12,13,14,15,16,17] rfl (Nx (Rg (Mv 1 rfl (Sm (((min 19 (Zs (D++ [c])).length:Nat):Int)) rfl (by omega) (Md 1 [0,2,3,4,5,6,7,8,9,10,11,12,13,14,15,16,17] rfl (Nx (Ex (Op' rfl (Ot (Ob (Nx (Rg (Mv 1 rfl (Sm (((i+1:Nat):Int)) rfl (by omega) (Md 1 [0,2,3,4,5,6,7,8,9,10,11,12,13,14,15,16,17] rfl ?_))))))))))))))));intro a hF
    exact ⟨(i+1,D++ [c],(if seen then fr+1 else fr),seen),⟨hR2,by simp only;omega,⟨true,fun _=>rfl,by simp only [hm,htr,hmn,hdq] at hF ⊢;exact hF⟩,hM⟩,by simp only;omega⟩
   have hl19:19≤(Zs D).length:=by have:=of_decide_eq_false ht;omega
   have hm:=mant_past (c:=c) hl19
   have htr0:=trc_past (c:=c) hl19
   have hmn:min 19 (Zs (D++ [c])).length=min 19 (Zs D).length:=by omega
   refine Sq (Rg (Md 2 [0,2,3,4,5,6,7,8,9,10,11,12,13,14,15,16,17,108] rfl (Nx (Ce rfl (fun ht=> ?_) ((fun ht=> ?_))))))
   ·
    have hc48:c=48:=by have:(c.toNat:Int)=48:=(by simpa using ht);exact UInt8.toNat_inj.1 (by rw [show (48:UInt8).toNat=48 from rfl];omega)
    have htr:trc (D++ [c])=trc D:=by rw [htr0,hc48];simp
    refine Sk (Nx (Ex (Op' rfl (Ot (Ob (Nx (Rg (Mv 1 rfl (Sm (((i+1:Nat):Int)) rfl (by omega) (Md 1 [0,2,3,4,5,6,7,8,9,10,11,12,13,14,15,16,17] rfl ?_))))))))));intro a hF
    exact ⟨(i+1,D++ [c],(if seen then fr+1 else fr),seen),⟨hR2,by simp only;omega,⟨true,fun _=>rfl,by simp only [hm,htr,hmn,hdq] at hF ⊢;exact hF⟩,hM⟩,by simp only;omega⟩
   have hc48:c≠48:=by rintro rfl;exact absurd ht (by decide)
   have htr:trc (D++ [c])=true:=by rw [htr0];simp [hc48]
   refine Rg (Md 1 [0,2,3,4,5,6,7,8,9,10,11,12,13,14,15,16,17] rfl (Nx (Ex (Op' rfl (Ot (Ob (Nx (Rg (Mv 1 rfl (Sm (((i+1:Nat):Int)) rfl (by omega) (Md 1 [0,2,3,4,5,6,7,8,9,10,11,12,13,14,15,16,17] rfl ?_)))))))))));intro a hF
   exact ⟨(i+1,D++ [c],(if seen then fr+1 else fr),seen),⟨hR2,by simp only;omega,⟨true,fun _=>rfl,by simp only [hm,htr,hmn,hdq] at hF ⊢;exact hF⟩,hM⟩,by simp only;omega⟩
  ·
   have hdt:=dpC_dot (C:=2199023255552) (fd:=fd) hDI (by omega)
   refine Rg (Mv 1 rfl (Qt 46 rfl rfl rfl (Gv rfl (fun _ hF=>gives_eqlBool hF rfl Tryz.underlying4 rfl rfl _) (Md 1 [0,2,3,4,5,6,7,8,9,10,11,12,13,14,15,16,17,18,70] rfl (Nx (D2 rfl (fun ht=>absurd ht (by decide)) (Sq (Sq (Rg (Md 1 [0,2,3,4,5,6,7,8,9,10,11,12,13,14,15,16,17,74] rfl (Nx (C1 rfl (fun ht=> ?_) ?_))))))))))))
   ·
    intro a hF
    rw [hs0] at ht;cases ht
   refine Sk (Nx (Sq (Rg (Md 1 [0,2,3,4,5,6,7,8,9,10,11,12,13,14,15,16] rfl (Nx (Sq (Rg (Md 2 [0,2,3,4,5,6,7,8,9,10,11,12,13,14,15,16,17] rfl (Nx (Ex (Op' rfl (Ot (Ob (Nx (Rg (Mv 1 rfl (Sm (((i+1:Nat):Int)) rfl (by omega) (Md 1 [0,2,3,4,5,6,7,8,9,10,11,12,13,14,15,16,17] rfl ?_))))))))))))))))));intro a hF
   exact ⟨(i+1,D,0,true),⟨hR2,by simp only;omega,⟨sg,hsg,hdt▸hF⟩,hM⟩,by simp only;omega⟩
  have hnd:c≠46:=by rintro rfl;exact absurd hce (by decide)
  have hk:57<c.toNat:=by rcases hce with h | h <;> rw [h] <;> decide
  refine Rg (Mv 1 rfl (Qf 46 rfl rfl hnd (Gv rfl (fun _ hF=>gives_eqlBool hF rfl Tryz.underlying4 rfl rfl _) (Md 1 [0,2,3,4,5,6,7,8,9,10,11,12,13,14,15,16,17,18,70] rfl (Nx (C1 rfl (fun ht=>absurd ht (by decide)) (Sq (Rg (Mv 1 rfl (Bt rfl (by omega) (Mv 2 rfl (Bf rfl (by omega) (Mv 1 rfl (Gv rfl (fun _ hF=>gives_eqlBool hF rfl Tryz.underlying4 rfl rfl _) (Md 1 [0,2,3,4,5,6,7,8,9,10,11,12,13,14,15,16,17,18,76] rfl (Nx (C1 rfl (fun ht=>absurd ht (by decide)) (Sq ?_))))))))))))))))))
  skip
  refine Rg (Mv 1 rfl (Bv rfl rfl (show ((10:Int)==16)=false from rfl) (Mv 10 rfl (Gv rfl (fun _ hF=>gives_eqlBool hF rfl Tryz.underlying4 rfl rfl _) (Md 1 [0,2,3,4,5,6,7,8,9,10,11,12,13,14,15,16,17,18,109] rfl (Nx (C1 rfl (fun ht=>absurd ht (by decide)) (Sk (Nb (Nx (Ex (Op' rfl (Ot (Ot (Ob (Kp [0,2,3,4,5,6,7,8,9,10,11,12,13,14,15,16,17] rfl ?_))))))))))))))));intro a hF
  exact ⟨i,D,fr,seen,sg,hdn,hi,hsg,hF,hM⟩
 clear hF hM
 obtain ⟨i,D,fr,seen,sg,hdn,hi,hsg,hF,hM⟩:=h
 have hD0:=hdn.all
 subst hD0
 obtain rfl:sg=true:=hsg (by simp [hf.int0])
 have hrest:=hdn.rest
 have hrl:=congrArg List.length hrest
 rw [List.length_drop] at hrl
 have hzl:=zlen_le (I++fd)
 rw [List.length_append] at hzl
 have hdpa:=dp_all (cap:=2199023255552) (I:=I) (fd:=fd) (by omega)
 have hdpd:=dp_done (cap:=2199023255552) hdn
 rw [hdpa] at hdpd
 revert a;refine Sq (Sq (Rg (Md 2 [0,2,3,4,5,6,7,8,9,10,12,13,15,16,17,140] rfl (Nx (C1 rfl (fun ht=>absurd ht (by decide)) (Sk (Nx ?_)))))));intro a hF
 refine cut (fun a w=>Fr 253 [(0,.string (mkS s)),(2,.int .u64 ((mant (I++fd):Nat):Int)),(3,(.int .i64 0)),(4,.bool neg),(5,.bool (trc (I++fd))),(6,.bool false),(7,.int .i64 (i:Int)),(8,.bool false),(9,.bool false),(10,.int .u64 10),(12,.int .u8 101),(16,.int .i64 ((min 19 (Zs (I++fd)).length:Nat):Int)),(17,.int .i64 (((Zs (I++fd)).length:Int) - (fd.length:Int)))] a∧Mem w0.heap.size w0 [] w) ?_ (fun a w h=> ?_)
 ·
  revert a;refine Sq (Rg (Md 2 [0,2,3,4,5,6,7,8,9,10,12,15,16,17,142] rfl (Nx (Ce rfl (fun ht=> ?_) ((fun ht=> ?_))))))
  ·
   have hsn:seen=true:=by cases seen;exact absurd ht (by decide);rfl
   have hdv:((Zs (I++fd)).length:Int) - (fd.length:Int)=dpC 2199023255552 I fd (I++fd) fr seen:=by rw [←hdpd,hsn];rfl
   refine Sk (Kp [0,2,3,4,5,6,7,8,9,10,12,16,17] rfl ?_);intro a hF
   exact ⟨by rw [hdv];exact hF,hM⟩
  have hsn:seen=false:=by cases seen;rfl;exact absurd ht (by decide)
  rw [hsn] at hdpd
  have hdv:((Zs (I++fd)).length:Int) - (fd.length:Int)=((Zs (I++fd)).length:Int):=by rw [←hdpd];simp;omega
  refine Rg (Md 2 [0,2,3,4,5,6,7,8,9,10,12,16,17] rfl ?_);intro a hF
  exact ⟨by rw [hdv];exact hF,hM⟩
 clear hF hM
 obtain ⟨hF,hM⟩:=h
 revert a;refine Sq (Sq (Rg (Mv 1 rfl (Bv rfl rfl (show ((10:Int)==16)=false from rfl) (Md 0 [0,2,3,4,5,6,7,8,9,10,12,16,17,145] rfl (Nx (Cf rfl (Sk (Nx ?_)))))))));intro a hF
 refine cutF (fun a w=>Fr 253 [(0,.string (mkS s)),(2,.int .u64 ((mant (I++fd):Nat):Int)),(3,(.int .i64 0)),(4,.bool neg),(5,.bool (trc (I++fd))),(6,.bool false),(7,.int .i64 (s.length:Int)),(8,.bool false),(9,.bool false),(16,.int .i64 ((min 19 (Zs (I++fd)).length:Nat):Int)),(17,.int .i64 (((Zs (I++fd)).length:Int) - (fd.length:Int)+k'))] a∧ -100000<k'∧k'<100000∧Mem w0.heap.size w0 [] w) (fun a w h=> ?_) ?_
 ·
  clear hF hM
  obtain ⟨hF,hk1,hk2,hM⟩:=h
  have hep:eP I fd k'=((Zs (I++fd)).length:Int) - (fd.length:Int)+k' - ((min 19 (Zs (I++fd)).length:Nat):Int):=rfl
  refine cut (fun a w=>Fr 253 [(0,.string (mkS s)),(2,.int .u64 ((mant (I++fd):Nat):Int)),(3,.int .i64 (if mant (I++fd)=0 then 0 else eP I fd k')),(4,.bool neg),(5,.bool (trc (I++fd))),(6,.bool false),(7,.int .i64 (s.length:Int)),(8,.bool false),(9,.bool false)] a∧Mem w0.heap.size w0 [] w) ?_ (fun a w h=> ?_)
  ·
   revert a;refine Sq (Rg (Md 2 [0,2,3,4,5,6,7,8,9,16,17,241] rfl (Nx (Ce rfl (fun ht=> ?_) ((fun ht=> ?_))))))
   ·
    have hm0:mant (I++fd)=0:=by have:=ht;simp at this;omega
    refine Sk (Kp [0,2,3,4,5,6,7,8,9] rfl ?_);intro a hF
    exact ⟨by rw [if_pos hm0];exact hF,hM⟩
   have hm0: ¬ mant (I++fd)=0:=by intro h;rw [h] at ht;exact absurd ht (by decide)
   refine Rg (Mv 2 rfl (Sm (eP I fd k') rfl (by omega) (Md 1 [0,2,3,4,5,6,7,8,9] rfl ?_)));intro a hF
   exact ⟨by rw [if_neg hm0];exact hF,hM⟩
  clear hF hM
  obtain ⟨hF,hM⟩:=h
  revert a;refine Sq (Sq ?_)
  skip
  refine Rg (Md 8 [2,3,4,5,6,7,8,252] rfl (Nx (Cf rfl (Sk (Nx (Sq (Rg (Md 1 [2,3,4,5,6,7,8] rfl (Nx (Re (Jr ?_)))))))))));intro a hF
  refine retMany hF hM rfl rfl (.tmp rfl (.tmp rfl (.tmp rfl (.tmp rfl (.tmp rfl (.tmp rfl (.tmp rfl .nil))))))) ⟨_,rfl,rfl,hM.below⟩
 revert a;refine Sq ?_
 rcases hx with ⟨hE0,hk0⟩ | ⟨ec,pw,en,ds,hec,hEc,hpw,hk0⟩
 ·
  rw [hE0] at hrl
  have his:i=s.length:=by simp at hrl;omega
  refine Rg (Mv 3 rfl (Bf rfl (by omega) (Md 8 [0,2,3,4,5,6,7,8,9,10,16,17,161] rfl (Nx (Cf rfl (Sq (Rg (Mv 1 rfl (Bv rfl rfl (show ((10:Int)==16)=false from rfl) (Md 0 [0,2,3,4,5,6,7,8,9,16,17,239] rfl (Nx (Cf rfl (Sk (Kp [0,2,3,4,5,6,7,8,9,16,17] rfl ?_))))))))))))));intro a hF
  exact ⟨by rw [hk0,Int.add_zero,←his];exact hF,by omega,by omega,hM⟩
 intro a hF
 rw [hEc] at hrl hrest
 rw [List.length_cons] at hrl
 have hc:s[i]?=some ec:=by have:=drop_at0 (k:=0) hrest;rw [Nat.add_zero] at this;rw [this];rfl
 have hlow:(ec.toNat ||| 32:Nat)=101:=by rcases hec with rfl | rfl <;> rfl
 obtain ⟨hpwl,hdsl⟩:=pwOf_pos hpw
 obtain ⟨c1,hc1⟩:∃ c,s[i+1]?=some c:=⟨_,List.getElem?_eq_getElem (by omega)⟩
 have hrest1:s.drop (i+1)=pw:=by rw [←List.drop_drop,hrest];rfl
 have hc1p:pw[0]?=some c1:=by rw [←hc1];exact (drop_at0 (k:=0) hrest1).symm
 revert a;refine Rg (Mv 3 rfl (Bt rfl (by omega) (Mv 3 rfl (Ix (i) ec rfl hc (by omega) (Cm hM rfl rfl rfl (lower_walk ec w) ?_)))))
 clear hM;intro w v hR hM hBe
 obtain rfl:=hR
 refine Mv 2 rfl ?_;intro a hF
 rw [show (((ec.toNat ||| 32:Nat):Int)==101)=true by rw [hlow];rfl] at hF
 revert a;refine Md 1 [0,2,3,4,5,6,7,8,9,10,16,17,161] rfl (Nx (Ct rfl (Sq (Rg (Mv 1 rfl (Sm (((i+1:Nat):Int)) rfl (by omega) (Md 1 [0,2,3,4,5,6,7,8,9,16,17] rfl (Nx (Sq (Sq (Rg (Md 4 [0,2,3,4,5,6,7,8,9,16,17,167] rfl (Nx (C1 rfl (fun ht=>absurd (of_decide_eq_true ht) (by omega)) (Sk (Nx (Sq (Rg (Md 1 [0,2,3,4,5,6,7,8,9,16,17,19] rfl (Nx ?_))))))))))))))))))));intro a hF
 refine cut (fun a w=>∃ i1:Nat,s.drop i1=ds∧i1≤s.length∧Digs ds∧Fr 253 [(0,.string (mkS s)),(2,.int .u64 ((mant (I++fd):Nat):Int)),(3,.int .i64 0),(4,.bool neg),(5,.bool (trc (I++fd))),(6,.bool false),(7,.int .i64 (i1:Int)),(8,.bool false),(9,.bool false),(16,.int .i64 ((min 19 (Zs (I++fd)).length:Nat):Int)),(17,.int .i64 (((Zs (I++fd)).length:Int) - (fd.length:Int))),(19,.int .i64 (if en then -1 else 1))] a∧Mem w0.heap.size w0 [] w) ?_ (fun a w h=> ?_)
 ·
  revert a;refine Sq (Rg (Mv 2 rfl (Ix (i+1) c1 rfl hc1 (by omega) (Md 0 [0,2,3,4,5,6,7,8,9,16,17,19,170] rfl (Nx (Bo (Sq ?_)))))))
  obtain ⟨hds,hds0,hpw⟩:=hpw;rcases hpw with ⟨hen,hpe⟩ | ⟨hen,hpe | hpe⟩
  ·
   have hc1v:c1=45:=by rw [hpe] at hc1p;exact (Option.some.inj hc1p).symm
   have hdr:s.drop (i+1+1)=ds:=by rw [←List.drop_drop,hrest1,hpe];rfl
   refine Rg (Qf 43 rfl rfl (by rw [hc1v];decide) (Md 1 [0,2,3,4,5,6,7,8,9,16,17,19,170,171] rfl (Nx (Cf rfl (Sq (Rg (Qt 45 rfl rfl (by rw [hc1v]) (Md 1 [0,2,3,4,5,6,7,8,9,16,17,19,175] rfl (Nx (Ct rfl (Sq (Rg (Mv 1 rfl (Sm (((i+1+1:Nat):Int)) rfl (by omega) (Md 1 [0,2,3,4,5,6,7,8,9,16,17] rfl (Nx (Rg (Md 1 [0,2,3,4,5,6,7,8,9,16,17,19] rfl (Nb (Kp [0,2,3,4,5,6,7,8,9,16,17,19] rfl ?_))))))))))))))))))));intro a hF
   exact ⟨i+1+1,hdr,by omega,hds,by rw [hen];exact hF,hM⟩
  ·
   have hc1v:c1=43:=by rw [hpe] at hc1p;exact (Option.some.inj hc1p).symm
   have hdr:s.drop (i+1+1)=ds:=by rw [←List.drop_drop,hrest1,hpe];rfl
   refine Rg (Qt 43 rfl rfl (by rw [hc1v]) (Md 1 [0,2,3,4,5,6,7,8,9,16,17,19,170,171] rfl (Nx (Ct rfl (Rg (Mv 1 rfl (Sm (((i+1+1:Nat):Int)) rfl (by omega) (Md 1 [0,2,3,4,5,6,7,8,9,16,17,19] rfl (Nb (Kp [0,2,3,4,5,6,7,8,9,16,17,19] rfl ?_))))))))));intro a hF
   exact ⟨i+1+1,hdr,by omega,hds,by rw [hen];exact hF,hM⟩
  have hdr:s.drop (i+1)=ds:=by rw [hrest1,hpe]
  have hc1d:isDig c1=true:=hds _ (by rw [hpe] at hc1p;exact List.mem_of_getElem? hc1p)
  refine Rg (Qf 43 rfl rfl (by rintro rfl;exact absurd hc1d (by decide)) (Md 1 [0,2,3,4,5,6,7,8,9,16,17,19,170,171] rfl (Nx (Cf rfl (Sq (Rg (Qf 45 rfl rfl (by rintro rfl;exact absurd hc1d (by decide)) (Md 1 [0,2,3,4,5,6,7,8,9,16,17,19,175] rfl (Nx (Cf rfl (Sk (Nb (Kp [0,2,3,4,5,6,7,8,9,16,17,19] rfl ?_)))))))))))));intro a hF
  exact ⟨i+1,hdr,by omega,hds,by rw [hen];exact hF,hM⟩
 clear hF hM
 obtain ⟨i1,hdr,hi1,hds,hF,hM⟩:=h
 have hdl:=congrArg List.length hdr
 rw [List.length_drop] at hdl
 obtain ⟨c3,hc3⟩:∃ c,s[i1]?=some c:=⟨_,List.getElem?_eq_getElem (by omega)⟩
 have hc3d:isDig c3=true:=hds _ (List.mem_of_getElem? (i:=0) (by rw [←hc3];exact (drop_at0 (k:=0) hdr).symm))
 have hk3:=dig_rng hc3d
 revert a;refine Sq (Sq (Rg (Mv 3 rfl (Bf rfl (by omega) (Mv 3 rfl (Ix (i1) c3 rfl hc3 (by omega) (Bf rfl (by omega) (Mv 4 rfl (Ix (i1) c3 rfl hc3 (by omega) (Bf rfl (by omega) (Md 1 [0,2,3,4,5,6,7,8,9,16,17,19,194] rfl (Nx (Cf rfl (Sk (Nx (Sq (Rg (Md 1 [0,2,3,4,5,6,7,8,9,16,17,19,20] rfl (Nx (Sq (Bo (Kp [0,2,3,4,5,6,7,8,9,16,17,19,20] rfl ?_))))))))))))))))))))));intro a hF
 refine loopX (fun (j:Nat) a w=>j≤ds.length∧Fr 253 [(0,.string (mkS s)),(2,.int .u64 ((mant (I++fd):Nat):Int)),(3,.int .i64 0),(4,.bool neg),(5,.bool (trc (I++fd))),(6,.bool false),(7,.int .i64 ((i1+j:Nat):Int)),(8,.bool false),(9,.bool false),(16,.int .i64 ((min 19 (Zs (I++fd)).length:Nat):Int)),(17,.int .i64 (((Zs (I++fd)).length:Int) - (fd.length:Int))),(19,.int .i64 (if en then -1 else 1)),(20,.int .i64 ((capE 0 (ds.take j):Nat):Int))] a∧Mem w0.heap.size w0 [] w) (fun j=>ds.length - j) (0) ?_ (fun j a w hI=> ?_)
 · exact ⟨Nat.zero_le _,hF,hM⟩
 clear hF hM
 clear hc3 hc3d hk3
 obtain ⟨hj,hF,hM⟩:=hI
 have hcl:=capE_le (hds.take j) (e:=0) (by decide)
 revert a;refine Sq (Sq ?_)
 rcases Nat.lt_or_ge j ds.length with hlt | hge
 ·
  obtain ⟨c,hcj⟩:∃ c,ds[j]?=some c:=⟨_,List.getElem?_eq_getElem hlt⟩
  have hc:s[i1+j]?=some c:=by rw [drop_at0 hdr];exact hcj
  have hcd:=hds c (List.mem_of_getElem? hcj)
  have hk:=dig_rng hcd
  have hdgc:dg c=c.toNat - 48:=rfl
  have hsn:=capE_snoc 0 (ds.take j) c
  rw [←take_next hcj] at hsn
  refine Rg (Mv 3 rfl (Bt rfl (by omega) (Mv 3 rfl (Ix (i1+j) c rfl hc (by omega) (Bt rfl (by omega) (Mv 3 rfl (Ix (i1+j) c rfl hc (by omega) (Bt rfl (by omega) (Md 8 [0,2,3,4,5,6,7,8,9,16,17,19,20,216] rfl (Nx (Ct rfl (Sk (Nx (Sq (Bo (Sq (Sq (Rg (Mv 2 rfl (Ix (i1+j) c rfl hc (by omega) (Qf 95 rfl rfl (numc_no95 (hnum hc)) (Md 0 [0,2,3,4,5,6,7,8,9,16,17,19,20,222] rfl (Nx (Cf rfl (Sk (Nx (Sq (Rg (Md 2 [0,2,3,4,5,6,7,8,9,16,17,19,20,224] rfl (Nx (Ce rfl (fun ht=> ?_) ((fun ht=> ?_)))))))))))))))))))))))))))))))))
  ·
   have he4: ¬ capE 0 (ds.take j)<10000:=by have:=of_decide_eq_false ht;omega
   have hnx2:=hsn.trans (if_neg he4)
   refine Sk (Nb (Nx (Rg (Mv 1 rfl (Sm (((i1+(j+1):Nat):Int)) rfl (by omega) (Md 1 [0,2,3,4,5,6,7,8,9,16,17,19,20] rfl ?_))))));intro a hF
   exact ⟨j+1,⟨by omega,by first | exact hF | (rw [hnx2];exact hF),hM⟩,by omega⟩
  have he4:capE 0 (ds.take j)<10000:=by have:=of_decide_eq_true ht;omega
  rw [if_pos he4] at hsn
  refine Rg (Mv 1 rfl (Sm (((capE 0 (ds.take j)*10:Nat):Int)) rfl (by omega) (Mv 2 rfl (Ix (i1+j) c rfl hc (by omega) ?_))));intro a hF
  refine op_conv_to hF rfl rfl rfl rfl Tryz.underlying5 Tryz.underlying3 rfl (wrap_i64 (by omega) (by omega)) ?_;clear hF a;intro a hF
  revert a;refine Sm (((capE 0 (ds.take j)*10+c.toNat:Nat):Int)) rfl (by omega) (Sm (((capE 0 (ds.take (j+1)):Nat):Int)) rfl (by omega) (Md 1 [0,2,3,4,5,6,7,8,9,16,17,19,20] rfl (Nb (Nx (Rg (Mv 1 rfl (Sm (((i1+(j+1):Nat):Int)) rfl (by omega) (Md 1 [0,2,3,4,5,6,7,8,9,16,17,19,20] rfl ?_))))))));intro a hF
  exact ⟨j+1,⟨by omega,by first | exact hF | (rw [hnx2];exact hF),hM⟩,by omega⟩
 obtain rfl:j=ds.length:=by omega
 intro a hF
 rw [List.take_length] at hF hcl
 revert a;refine Rg (Mv 3 rfl (Bf rfl (by omega) (Md 18 [0,2,3,4,5,6,7,8,9,16,17,19,20,216] rfl (Nx (Cf rfl (Ex (Ot (Ot (Ob (Nx (Rg (Mv 3 rfl ?_))))))))))))
 have hkr: -100000<k'∧k'<100000:=by rw [hk0];unfold sgn;split <;> omega
 intro a hF
 refine op_sum hF rfl (k') rfl rfl rfl rfl rfl rfl (by rw [hk0];exact sgn_mul en _) (wrap_i64 (by omega) (by omega)) ?_;clear hF a;intro a hF
 revert a;refine Sm (((Zs (I++fd)).length:Int) - (fd.length:Int)+k') rfl (by omega) (Md 1 [0,2,3,4,5,6,7,8,9,16,17] rfl ?_);intro a hF
 exact ⟨by rw [show s.length=i1+ds.length by omega];exact hF,hkr.1,hkr.2,hM⟩
end Go.Sx
namespace Js
structure Arw (ds arr out:Str):Prop where
  len:arr.length=800
  low:∀ j,j<800→j<out.length→arr[j]?=out[j]?
  high:∀ j,out.length≤j→arr[j]?=ds[j]?
theorem Arw.start {ds:Str}(h:ds.length=800):Arw ds ds []:=⟨h,fun j _ h=>by simp at h,fun _ _=>rfl⟩
theorem Arw.put {ds arr out:Str}(h:Arw ds arr out) (c:UInt8) (hw:out.length<800):Arw ds (arr.set out.length c) (out++ [c]):=by
  refine ⟨by rw [List.length_set];exact h.len,fun j h8 hj=> ?_,fun j hj=> ?_⟩
  · rw [List.length_append,List.length_singleton] at hj
    rcases Nat.lt_or_ge j out.length with h1 | h1
    · rw [List.getElem?_set_ne (by omega),List.getElem?_append_left h1];exact h.low j h8 h1
    · obtain rfl:j=out.length:=by omega
      rw [List.getElem?_set_self (by rw [h.len];exact hw),List.getElem?_append_right (Nat.le_refl _)]
      simp
  · rw [List.length_append,List.length_singleton] at hj
    rw [List.getElem?_set_ne (by omega)];exact h.high j (by omega)
theorem Arw.pass {ds arr out:Str}(h:Arw ds arr out) (c:UInt8) (hw:800≤out.length):Arw ds arr (out++ [c]):=by
  refine ⟨h.len,fun j h8 hj=> ?_,fun j hj=> ?_⟩
  · rw [List.getElem?_append_left (by omega)];exact h.low j h8 (by omega)
  · rw [List.length_append,List.length_singleton] at hj;exact h.high j (by omega)
theorem Arw.arr {ds arr out:Str}(h:Arw ds arr out):Arr ds arr 0 out:=by
  refine ⟨h.len,fun i hi=>absurd hi (Nat.not_lt_zero _),fun j c hj h8=> ?_⟩
  rw [Nat.zero_add] at h8 ⊢
  have hl:=(List.getElem?_eq_some_iff.1 hj).1
  rw [h.low j h8 hl,hj]
theorem rd_le {D:Str}(hd:Digs D) (r:Nat):rd D (r+1)≤rd D r*10+9:=by
  rcases Nat.lt_or_ge r D.length with h | h
  · rw [rd_digit (List.getElem?_eq_getElem h)]
    have:=dg_lt (hd _ (List.getElem_mem h))
    omega
  · rw [rd_more h];omega
theorem rd_low {ds:Str}{m:Nat}(h:Dec ds m) (h0:0<m):∀ r,10^r≤rd (ds.take m) (r+1)
  | 0 => by
    obtain ⟨c,r,e,hc,hn,_,_⟩:=h.first h0
    have h6:=dig_rng hc
    have h7:c.toNat≠48:=fun e=>hn (UInt8.toNat_inj.1 e)
    rw [e,rd_digit (c:=c) rfl,rd_zero]
    unfold dg
    simp
    omega
  | r + 1 => by
    have ih:=rd_low h h0 r
    have:rd (ds.take m) (r+1)*10≤rd (ds.take m) (r+1+1):=by
      rcases Nat.lt_or_ge (r+1) (ds.take m).length with hl | hl
      · rw [rd_digit (List.getElem?_eq_getElem hl)];omega
      · rw [rd_more hl];omega
    rw [Nat.pow_succ]
    omega
theorem rd_few {ds:Str}{m k r:Nat}(h:Dec ds m) (h0:0<m) (hk:k≤60) (h1:1≤r) (hr:rd (ds.take m) (r - 1)<2^k):r≤20:=by
  rcases Nat.lt_or_ge 20 r with hl | hl
  · have h2:=rd_low h h0 (r - 2)
    rw [show r - 2+1=r - 1 by omega] at h2
    have h3:(10:Nat)^19≤10^(r - 2):=Nat.pow_le_pow_right (by decide) (by omega)
    have h4:(2:Nat)^k≤2^60:=Nat.pow_le_pow_right (by decide) hk
    have h5:(2:Nat)^60<10^19:=by decide
    omega
  · exact hl
theorem RS.start {P k:Nat}(h:P<10*2^k):RS P k P []:=⟨by simp [worth],h,fun _ h=>by simp at h⟩
theorem head_snoc {out:Str}{c x:UInt8}(h:out.head?=some x∨out=[]∧c=x):(out++ [c]).head?=some x:=by
  rcases h with h | ⟨rfl,rfl⟩
  · cases out with
    | nil=>simp at h
    | cons d r=>simpa using h
  · rfl
def fd (ds:Str):Nat:=match ds[0]? with | some c=>dg c | none=>0
theorem fd_of {ds:Str}{c:UInt8}(h:ds[0]?=some c):fd ds=dg c:=by unfold fd;rw [h]
theorem Dec.fd_rng {ds:Str}{m:Nat}(h:Dec ds m) (h0:0<m):1≤fd ds∧fd ds≤9:=by
  obtain ⟨c,r,_,hc,hn,hg,_⟩:=h.first h0
  rw [fd_of hg]
  have h6:=dig_rng hc
  have h7:c.toNat≠48:=fun e=>hn (UInt8.toNat_inj.1 e)
  unfold dg
  omega
theorem rd_one {ds:Str}{m:Nat}(h:Dec ds m) (h0:0<m):rd (ds.take m) 1=fd ds:=by
  obtain ⟨c,r,e,hc,hn,hg,_⟩:=h.first h0
  rw [fd_of hg,e,rd_digit (c:=c) rfl,rd_zero]
  omega
theorem right_less {ds ds':Str}{m m' k r0:Nat}{dq:Int}(h:Dec ds m) (h0:0<m) (h':Dec ds' m') (h0':0<m') (hk:1≤k) (hr:1≤r0) (hA:rd (ds.take m) (r0 - 1)<2^k) (hB:2^k≤rd (ds.take m) r0)
    (hf:ds'[0]?=some (chr (rd (ds.take m) r0 / 2^k))) (hq:0<dq):10*(dq - ((r0 - 1:Nat):Int)).toNat+fd ds'<10*dq.toNat+fd ds:=by
  have f1:=h.fd_rng h0
  have f2:=h'.fd_rng h0'
  rcases Nat.lt_or_ge 1 r0 with h1 | h1
  · omega
  · obtain rfl:r0=1:=by omega
    have e:=rd_one h h0
    rw [e] at hB hf
    have h2k:2≤2^k:=by
      have:=Nat.pow_le_pow_right (show 0<2 by decide) hk
      simpa using this
    have h3:fd ds / 2^k<fd ds:=Nat.div_lt_self (by omega) (by omega)
    rw [fd_of hf,chr_dg (by omega)]
    omega
theorem left_less {ds ds' out:Str}{m m' k:Nat}{dq:Int}(h:Dec ds m) (h0:0<m) (h':Dec ds' m') (h0':0<m') (hk:1≤k) (hd:Digs out) (hl:out.length=m+ldel (ds.take m) k) (hw:worth out=worth (ds.take m)*2^k)
    (hf:ds'[0]?=out.head?) (hq:dq<0∨dq=0∧ldel (ds.take m) k=0):10*(-(dq+(ldel (ds.take m) k:Nat))).toNat+(9 - fd ds')<10*(-dq).toNat+(9 - fd ds):=by
  have f1:=h.fd_rng h0
  have f2:=h'.fd_rng h0'
  generalize hδ:ldel (ds.take m) k=δ at*
  rcases Nat.eq_zero_or_pos δ with hz | hz
  · subst hz
    obtain ⟨c,c',r,hc,rfl,_,_,_,hlt⟩:=left_grows h h0 hk hd hl hw
    rw [fd_of (c:=c') (by rw [hf];rfl)] at f2 ⊢
    rw [fd_of hc] at f1 ⊢
    rcases hq with hq | ⟨hq,_⟩ <;> omega
  · rcases hq with hq | ⟨_,hq⟩ <;> omega
theorem ldel_one {ds:Str}{m:Nat}{c:UInt8}(h:Dec ds m) (h0:0<m) (hc:ds[0]?=some c) (h5:c.toNat<53):ldel (ds.take m) 1=0:=by
  obtain ⟨c',r,e,_,_,hg,_⟩:=h.first h0
  rw [hc] at hg
  obtain rfl:=Option.some.inj hg
  unfold ldel
  have h1:pless (ds.take m) (five 1)=true:=by
    rw [e,show five 1=[53] by decide]
    have hne:c≠53:=by rintro rfl;exact absurd h5 (by decide)
    simp only [pless,if_neg hne]
    exact decide_eq_true h5
  rw [h1]
  rfl
theorem ldel_le {ds:Str}{m k:Nat}(h1:1≤k) (h2:k≤60):ldel (ds.take m) k≤19:=by
  have:=(tab_row h1 h2).le
  unfold ldel
  split <;> omega
end Js
namespace Go.Sx
open Go.RowKit Go.Proofs Js Go.Proofs.YtelonenjneonlaaGreatDoorW.PrintWords
theorem dec_push {ds:Str}{m:Nat}{c:UInt8}(h:Dec ds m) (hm:m<800) (hc:isDig c=true) (h0:m=0→c≠48):Dec (ds.set m c) (m+1):=by
  have hl:=h.len
  refine ⟨by rw [List.length_set];exact hl,hm,?_,fun _=> ?_⟩
  · rw [List.take_add_one,List.take_set_of_le (Nat.le_refl _),List.getElem?_set_self (by omega)]
    intro x hx
    rcases List.mem_append.1 hx with hx | hx
    · exact h.digs x hx
    · simp at hx;rw [hx];exact hc
  · rcases Nat.eq_zero_or_pos m with e | e
    · subst e
      rw [List.getElem?_set_self (by omega)]
      exact fun e=>h0 rfl (Option.some.inj e)
    · rw [List.getElem?_set_ne (by omega)]
      exact h.head e

end Go.Sx