/- Part 10 of the proof of FnJrTyped: the statement Rows.FnJrTypedCardSaid; no further condition. -/
import Derived.Test.YtelonenjneonlaaGreatDoorR09
set_option linter.all false
set_option maxRecDepth 100000
namespace Go.Sx
open Go.RowKit Go.Proofs Js Go.Proofs.YtelonenjneonlaaGreatDoorW.PrintWords
theorem quoted_rd {B:Nat}{wc:World}{L:List Bk}{b:Nat}{T:Str}(hT:T.length≤2^41) {r:Str}(hs:Sfx T (34::r)) {w0:World}(hM0:Mem B wc ((b,108,RD T (34::r))::L) w0):
    Calls Tryz.prog 114 #[.pointer (some ⟨b,0,none⟩)] w0 (Ret fun v w'=>v= .bool (pStr r).isSome∧∃ q,Sfx T q∧(∀ q',pStr r=some q'→q=q')∧Mem B wc ((b,108,RD T q)::L) w'):=by
 have hM:=hM0
 have hps:=hs.len
 obtain ⟨hs1,hp1,hg1,hlt1⟩:=hs.next
 refine enter (l:=[.pointer (some ⟨b,0,none⟩)]) 48 Tryz.func114 rfl rfl (Sq (Rg (Md 1 [0] rfl (Nx (Sq (Rg (Mv 3 rfl (Ld hM 0 rfl rfl (Sm (((ps T r:Nat):Int)) rfl (by omega) (Mv 2 rfl (St hM 0 rfl ?_)))))))))))
 clear hM;intro w hM
 refine Md 0 [0] rfl (Nx (Sq (Bo (Kp [0] rfl ?_))));intro a hF
 refine loopX (fun (u:Str) a w=>Fr 49 [(0,.pointer (some ⟨b,0,none⟩))] a∧Mem B wc ((b,108,RD T u)::L) w∧Sfx T u∧pStr u=pStr r) (fun u=>u.length) (r) ?_ (fun u a w hI=> ?_)
 · exact ⟨hF,hM,hs1,rfl⟩
 clear hF hM
 clear hs hps hs1
 obtain ⟨hF,hM,hs,hpu⟩:=hI
 have hps:=hs.len
 revert a;refine Sq (Sq ?_)
 rcases u with _ | ⟨c,u⟩
 ·
  rw [ps_nil] at hps
  have e1:pStr r=none:=by rw [←hpu,pStr_nil]
  refine Sl (by kernel_rfl) (by kernel_rfl) ?_
  replace hM:=hM.drew
  skip
  refine Ms 3 rfl (Ls hM 0 rfl rfl (Ms 3 rfl (Ls hM 0 rfl rfl (Ms 2 rfl ?_))));intro a hF
  rw [ps_nil,decide_eq_false (show ¬ ((T.length:Int)<(T.length:Int)) by omega)] at hF
  revert a;exact Sd (Kp [0,20] rfl (Nx (Cf rfl (Ex (Ot (Ot (Ob (Nx (Sq (Rg (Md 1 [2] rfl (Nx (Re (Y1 rfl rfl ⟨_,rfl,congrArg Value.bool (congrArg Option.isSome e1.symm),_,hs,(fun q' hq=>by rw [e1] at hq;cases hq),hM⟩))))))))))))))
 obtain ⟨hs1,hp1,hg1,hlt1⟩:=hs.next
 have ec:=pStr_cons c u
 rw [hpu] at ec
 refine Sl (by kernel_rfl) (by kernel_rfl) ?_
 replace hM:=hM.drew
 skip
 refine Ms 3 rfl (Ls hM 0 rfl rfl (Ms 3 rfl (Ls hM 0 rfl rfl (Ms 1 rfl (Ut rfl (by omega) (Sd (Kp [0,20] rfl (Nx (Ct rfl (Sk (Nx (Bo (Sq (Sl (by kernel_rfl) (by kernel_rfl) ?_))))))))))))))
 replace hM:=hM.drew
 skip
 refine Ms 3 rfl (Ls hM 0 rfl rfl (Ms 3 rfl (Ls hM 0 rfl rfl (Is ((ps T (c::u))) c rfl hg1 (by omega) (Ms 1 rfl (Sd (Kp [0,3] rfl (Nx (Sq (Rg (Mv 3 rfl (Ld hM 0 rfl rfl (Sm (((ps T u:Nat):Int)) rfl (by omega) (Mv 2 rfl (St hM 0 rfl ?_)))))))))))))))
 clear hM;intro w hM
 refine Md 0 [0,3] rfl (Nx (Bo (Sq (Rg (Md 3 [0,3,37] rfl (Nx (Cd rfl (fun ht=> ?_) ((fun ht=> ?_)))))))))
 ·
  have hcq:c=34:=eq_t (d:=34) rfl ht
  have e1:pStr r=some u:=by rw [ec,if_pos hcq]
  refine Sq (Rg (Md 1 [2] rfl (Nx (Re (Rb (Rb (Rt (Rb (Rt ?_)))))))));intro a hF
  exact ret1 hF rfl rfl ⟨_,rfl,congrArg Value.bool (congrArg Option.isSome e1.symm),_,hs1,(fun q' hq=>by rw [e1] at hq;first | exact Option.some.inj hq | cases hq),hM⟩
 have n34:c≠34:=eq_f (d:=34) rfl ht
 rw [if_neg n34] at ec
 refine Sq (Rg (Md 3 [0,3,40] rfl (Nx (Cd rfl (fun ht=> ?_) ((fun ht=> ?_))))))
 ·
  have h32:c.toNat<32:=by have:=of_decide_eq_true ht;omega
  have e1:pStr r=none:=by rw [ec,if_pos h32]
  refine Sq (Rg (Md 1 [2] rfl (Nx (Re (Rb (Rb (Rt (Rb (Rt ?_)))))))));intro a hF
  exact ret1 hF rfl rfl ⟨_,rfl,congrArg Value.bool (congrArg Option.isSome e1.symm),_,hs1,(fun q' hq=>by rw [e1] at hq;first | exact Option.some.inj hq | cases hq),hM⟩
 have h32: ¬ c.toNat<32:=by have:=of_decide_eq_false ht;omega
 rw [if_neg h32] at ec
 refine Sq (Rg (Md 3 [0,43] rfl (Nx (Ce rfl (fun ht=> ?_) ((fun ht=> ?_))))))
 ·
  have n92:c≠92:=eq_f (d:=92) rfl ht
  rw [if_neg n92] at ec
  have hpP:pStr u=pStr r:=ec.symm
  refine Sk (Nb (Nb (Kp [0] rfl ?_)));intro a hF
  exact ⟨u,⟨hF,hM,hs1,hpP⟩,by simp⟩
 have hcb:c=92:=eq_t (d:=92) rfl ht
 rw [if_pos hcb] at ec
 refine Sq (Rg (Mv 1 rfl (Cl rfl rfl rfl (escape_rd hT hs1 hM) ?_)))
 clear hM;intro w v hR
 obtain ⟨rfl,q,hsE,hqE,hM⟩:=hR
 refine Md 1 [0,48] rfl (Nx (Ce rfl (fun ht=> ?_) ((fun ht=> ?_))))
 ·
  obtain ⟨q',hq'⟩:∃ q',pEsc u=some q':=by cases hp:pEsc u with | none=>rw [hp] at ht;cases ht | some q=>exact ⟨q,rfl⟩
  have hqq:=hqE q' hq'
  subst hqq
  have hpE:pStr q=pStr r:=by rw [ec,hq'];rfl
  have hlE:q.length<(c::u).length:=by have:=pEsc_lt u q hq';simp;omega
  refine Sk (Nb (Nb (Kp [0] rfl ?_)));intro a hF
  exact ⟨_,⟨hF,hM,hsE,hpE⟩,hlE⟩
 have hn:pEsc u=none:=by cases hp:pEsc u with | none=>rfl | some q=>rw [hp] at ht;cases ht
 have e1:pStr r=none:=by rw [ec,hn];rfl
 refine Sq (Rg (Md 1 [2] rfl (Nx (Re (Rb (Rb (Rt (Rb (Rt ?_)))))))));intro a hF
 exact ret1 hF rfl rfl ⟨_,rfl,congrArg Value.bool (congrArg Option.isSome e1.symm),_,hsE,(fun q' hq=>by rw [e1] at hq;cases hq),hM⟩
theorem digs_step {c:UInt8}(r:Str) (h:isDig c=true):digs (c::r)=digs r:=by simp [digs,h]
theorem digs_stop {c:UInt8}(r:Str) (h:isDig c=false):digs (c::r)=c::r:=by simp [digs,h]
theorem digs_len (r:Str):(digs r).length≤r.length:=by
  obtain ⟨d,e,_⟩:=digs_split r
  have:=congrArg List.length e
  rw [List.length_append] at this
  omega
theorem Sfx_digs {T r:Str}(h:Sfx T r):Sfx T (digs r):=by
  obtain ⟨d,e,_⟩:=digs_split r
  rw [e] at h
  exact h.tail
theorem digits_walk {B:Nat}{wc:World}{L:List Bk}{b:Nat}{T:Str}(hT:T.length≤2^41) {r:Str}(hs:Sfx T r) {w0:World}(hM0:Mem B wc ((b,108,RD T r)::L) w0):
    Calls Tryz.prog 118 #[.pointer (some ⟨b,0,none⟩)] w0 (Ret fun v w'=>v= .bool (pDigits r).isSome∧Mem B wc ((b,108,RD T (digs r))::L) w'):=by
 have hM:=hM0
 have hps:=hs.len
 have hs0:=hs
 have hps0:=hps
 refine enter (l:=[.pointer (some ⟨b,0,none⟩)]) 31 Tryz.func118 rfl rfl (Sq (Rg (Md 1 [0] rfl (Nx (Sq (Rg (Mv 3 rfl (Ld hM 0 rfl rfl (Md 1 [0,3] rfl (Nx (Sq (Sq (Rg (Mv 1 rfl (Cl rfl rfl rfl (here_walk hT hs hM) ?_)))))))))))))))
 clear hM;intro w v hR
 obtain ⟨rfl,hM⟩:=hR
 refine Md 1 [0,3,4] rfl (Nx (Bo (Kp [0,3,4] rfl ?_)));intro a hF
 refine loopX (fun (q:Str) a w=>Fr 32 [(0,.pointer (some ⟨b,0,none⟩)),(3,.int .i64 ((ps T r:Nat):Int)),(4,.int .u8 ((q.headD 0).toNat:Int))] a∧Mem B wc ((b,108,RD T q)::L) w∧Sfx T q∧digs q=digs r) (fun q=>q.length) (r) ?_ (fun q a w hI=> ?_)
 · exact ⟨hF,hM,hs,rfl⟩
 clear hF hM
 clear hs hps
 obtain ⟨hF,hM,hs,hdq⟩:=hI
 have hps:=hs.len
 revert a;refine Sq (Sq ?_)
 rcases (show q=[]∨(∃ c q',q=c::q'∧c.toNat<48)∨(∃ c q',q=c::q'∧48≤c.toNat∧57<c.toNat)∨(∃ c q',q=c::q'∧48≤c.toNat∧c.toNat≤57) by cases q with | nil=>exact .inl rfl | cons c q'=>rcases (show c.toNat<48∨(48≤c.toNat∧57<c.toNat)∨(48≤c.toNat∧c.toNat≤57) by omega) with h | h | h;exact .inr (.inl ⟨c,q',rfl,h⟩);exact .inr (.inr (.inl ⟨c,q',rfl,h⟩));exact .inr (.inr (.inr ⟨c,q',rfl,h⟩))) with rfl | ⟨c,q,rfl,hk⟩ | ⟨c,q,rfl,hk⟩ | ⟨c,q,rfl,hk⟩
 ·
  have hd0:digs r=[]:=hdq.symm
  refine Rg (Mv 2 rfl ?_);intro a hF
  rw [show decide ((48:Int)≤((([]:Str).headD 0).toNat:Int))=false from rfl] at hF
  revert a;refine Md 4 [0,3,16] rfl (Nx (Cf rfl (Ex (Ot (Ot (Ob (Nx (Sq (Rg (Mv 3 rfl (Ld hM 0 rfl rfl (Md 3 [2] rfl (Nx (Re ?_))))))))))))));intro a hF
  rw [←hd0] at hF hM
  have hle:=digs_len r
  have hval:decide ((ps T (digs r):Int)>(ps T r:Int))=(pDigits r).isSome:=by
    have h1:=(Sfx_digs hs0).len
    unfold pDigits
    split
    · rw [decide_eq_true (by omega)];rfl
    · rw [decide_eq_false (by omega)];rfl
  rw [hval] at hF
  exact ret1 hF rfl rfl ⟨_,rfl,rfl,hM⟩
 ·
  have hcd:isDig c=false:=by simp [isDig];omega
  have hd0:digs r=c::q:=by rw [←hdq,digs_stop _ hcd]
  refine Rg (Mv 1 rfl (Bv rfl rfl (decide_eq_false (show ¬ ((48:Int)≤(((c::q).headD 0).toNat:Int)) by simp only [List.headD_cons];omega)) (Md 4 [0,3,16] rfl (Nx (Cf rfl (Ex (Ot (Ot (Ob (Nx (Sq (Rg (Mv 3 rfl (Ld hM 0 rfl rfl (Md 3 [2] rfl (Nx (Re ?_)))))))))))))))));intro a hF
  rw [←hd0] at hF hM
  have hle:=digs_len r
  have hval:decide ((ps T (digs r):Int)>(ps T r:Int))=(pDigits r).isSome:=by
    have h1:=(Sfx_digs hs0).len
    unfold pDigits
    split
    · rw [decide_eq_true (by omega)];rfl
    · rw [decide_eq_false (by omega)];rfl
  rw [hval] at hF
  exact ret1 hF rfl rfl ⟨_,rfl,rfl,hM⟩
 ·
  have hcd:isDig c=false:=by simp [isDig];omega
  have hd0:digs r=c::q:=by rw [←hdq,digs_stop _ hcd]
  refine Rg (Mv 1 rfl (Bv rfl rfl (decide_eq_true (show (48:Int)≤(((c::q).headD 0).toNat:Int) by simp only [List.headD_cons];omega)) (Mv 2 rfl (Bv rfl rfl (decide_eq_false (show ¬ ((((c::q).headD 0).toNat:Int)≤57) by simp only [List.headD_cons];omega)) (Md 1 [0,3,16] rfl (Nx (Cf rfl (Ex (Ot (Ot (Ob (Nx (Sq (Rg (Mv 3 rfl (Ld hM 0 rfl rfl (Md 3 [2] rfl (Nx (Re ?_)))))))))))))))))));intro a hF
  rw [←hd0] at hF hM
  have hle:=digs_len r
  have hval:decide ((ps T (digs r):Int)>(ps T r:Int))=(pDigits r).isSome:=by
    have h1:=(Sfx_digs hs0).len
    unfold pDigits
    split
    · rw [decide_eq_true (by omega)];rfl
    · rw [decide_eq_false (by omega)];rfl
  rw [hval] at hF
  exact ret1 hF rfl rfl ⟨_,rfl,rfl,hM⟩
 have hcd:isDig c=true:=by simp [isDig];omega
 obtain ⟨hs1,hp1,hg1,hlt1⟩:=hs.next
 refine Rg (Mv 1 rfl (Bv rfl rfl (decide_eq_true (show (48:Int)≤(((c::q).headD 0).toNat:Int) by simp only [List.headD_cons];omega)) (Mv 2 rfl (Bv rfl rfl (decide_eq_true (show (((c::q).headD 0).toNat:Int)≤57 by simp only [List.headD_cons];omega)) (Md 1 [0,3,16] rfl (Nx (Ct rfl (Sk (Nx (Sq (Bo (Rg (Mv 3 rfl (Ld hM 0 rfl rfl (Sm (((ps T q:Nat):Int)) rfl (by omega) (Mv 2 rfl (St hM 0 rfl ?_)))))))))))))))))
 clear hM;intro w hM
 refine Md 0 [0,3] rfl (Nb (Nx (Rg (Mv 1 rfl (Cl rfl rfl rfl (here_walk hT hs1 hM) ?_)))))
 clear hM;intro w v hR
 obtain ⟨rfl,hM⟩:=hR
 refine Md 1 [0,3,4] rfl ?_;intro a hF
 exact ⟨q,⟨hF,hM,hs1,by rw [←hdq,digs_step _ hcd]⟩,by simp⟩
theorem Sfx_take {T r:Str}(h:Sfx T r) (c:UInt8):Sfx T ((pTake c r).getD r):=by
  cases hp:pTake c r with
  | none=>exact h
  | some q=>rw [pTake_some] at hp;subst hp;exact h.next.1
theorem pDigits_eq {r:Str}:pDigits r=if (pDigits r).isSome then some (digs r) else none:=by
  unfold pDigits;split <;> rfl
theorem pDigits_out {q q':Str}(h:pDigits q=some q'):digs q=q':=by
  unfold pDigits at h
  split at h
  · exact Option.some.inj h
  · cases h
theorem number_rd {B:Nat}{wc:World}{L:List Bk}{b:Nat}{T:Str}(hT:T.length≤2^41) {r:Str}(hs:Sfx T r) {w0:World}(hM0:Mem B wc ((b,108,RD T r)::L) w0):
    Calls Tryz.prog 81 #[.pointer (some ⟨b,0,none⟩)] w0 (Ret fun v w'=>v= .bool (pNum r).isSome∧∃ q,Sfx T q∧(∀ q',pNum r=some q'→q=q')∧Mem B wc ((b,108,RD T q)::L) w'):=by
 have hM:=hM0
 have hps:=hs.len
 refine enter (l:=[.pointer (some ⟨b,0,none⟩)]) 32 Tryz.func81 rfl rfl (Sq (Rg (Md 1 [0] rfl (Nx (Sq (Rg (Mv 1 rfl (Cl rfl rfl rfl (take_walk hT hs 45 hM) ?_))))))))
 clear hM;intro w v hR
 obtain ⟨rfl,hM⟩:=hR
 have hs1:=Sfx_take hs 45
 have e0:pNum r=match pTake 48 ((pTake 45 r).getD r) with | some r=>pFrac r | none=>(pDigits ((pTake 45 r).getD r)).bind pFrac:=rfl
 generalize (pTake 45 r).getD r=r1 at*
 refine Md 0 [0] rfl (Nx ?_);intro a hF
 refine cut (fun a w=>∃ q,Fr 33 [(0,.pointer (some ⟨b,0,none⟩))] a∧Mem B wc ((b,108,RD T q)::L) w∧Sfx T q∧pNum r=pFrac q) ?_ (fun a w h=> ?_)
 ·
  revert a;refine Sq ?_
  have hs2:=Sfx_take hs1 48;rcases hc:pTake 48 r1 with _ | q0
  ·
   rw [hc] at hs2
   refine Rg (Mv 1 rfl (Cl rfl rfl rfl (take_walk hT hs1 48 hM) ?_))
   clear hM;intro w v hR
   obtain ⟨rfl,hM⟩:=hR
   intro a hF
   rw [hc] at hF hM e0
   revert a;refine Mv 3 rfl (Cl rfl rfl rfl (digits_walk hT hs2 hM) ?_)
   clear hM;intro w v hR
   obtain ⟨rfl,hM⟩:=hR
   have hs3:=Sfx_digs hs2
   have ed:=pDigits_eq (r:=r1)
   refine Md 2 [0,12] rfl (Nx (Ce rfl (fun ht=> ?_) ((fun ht=> ?_))))
   ·
    have hn:(pDigits r1).isSome=true:=by simpa using ht
    have e1:pNum r=pFrac (digs r1):=by rw [e0,ed,hn];rfl
    refine Sk (Kp [0] rfl ?_);intro a hF
    exact ⟨_,hF,hM,hs3,e1⟩
   have hn:(pDigits r1).isSome=false:=by simpa using ht
   have e1:pNum r=none:=by rw [e0,ed,hn];rfl
   refine Sq (Rg (Md 1 [2] rfl (Nx (Re (Rt ?_)))));intro a hF
   exact ret1 hF rfl rfl ⟨_,rfl,by rw [e1];rfl,_,hs3,(fun q' hq=>by rw [e1] at hq;cases hq),hM⟩
  rw [hc] at hs2
  refine Rg (Mv 1 rfl (Cl rfl rfl rfl (take_walk hT hs1 48 hM) ?_))
  clear hM;intro w v hR
  obtain ⟨rfl,hM⟩:=hR
  intro a hF
  rw [hc] at hF hM e0
  revert a;refine Md 6 [0,12] rfl (Nx (Cd rfl (fun ht=> ?_) ((fun ht=> ?_))))
  · cases ht
  have e1:pNum r=pFrac q0:=e0
  refine Sk (Kp [0] rfl ?_);intro a hF
  exact ⟨_,hF,hM,hs2,e1⟩
 clear hF hM
 clear hs hs1 e0
 obtain ⟨q1,hF,hM,hs,e0⟩:=h
 unfold pFrac at e0
 refine cut (fun a w=>∃ q,Fr 33 [(0,.pointer (some ⟨b,0,none⟩))] a∧Mem B wc ((b,108,RD T q)::L) w∧Sfx T q∧pNum r=pExp q) ?_ (fun a w h=> ?_)
 ·
  revert a;refine Sq ?_
  have hs2:=Sfx_take hs 46;rcases hc:pTake 46 q1 with _ | q0
  ·
   rw [hc] at hs2
   refine Rg (Mv 1 rfl (Cl rfl rfl rfl (take_walk hT hs 46 hM) ?_))
   clear hM;intro w v hR
   obtain ⟨rfl,hM⟩:=hR
   intro a hF
   rw [hc] at hF hM e0
   revert a;refine Md 5 [0,19] rfl (Nx (Cd rfl (fun ht=> ?_) ((fun ht=> ?_))))
   · cases ht
   have e1:pNum r=pExp q1:=e0
   refine Sk (Kp [0] rfl ?_);intro a hF
   exact ⟨_,hF,hM,hs2,e1⟩
  rw [hc] at hs2
  refine Rg (Mv 1 rfl (Cl rfl rfl rfl (take_walk hT hs 46 hM) ?_))
  clear hM;intro w v hR
  obtain ⟨rfl,hM⟩:=hR
  intro a hF
  rw [hc] at hF hM e0
  revert a;refine Mv 2 rfl (Cl rfl rfl rfl (digits_walk hT hs2 hM) ?_)
  clear hM;intro w v hR
  obtain ⟨rfl,hM⟩:=hR
  have hs3:=Sfx_digs hs2
  have ed:=pDigits_eq (r:=q0)
  refine Md 2 [0,19] rfl (Nx (Ce rfl (fun ht=> ?_) ((fun ht=> ?_))))
  ·
   have hn:(pDigits q0).isSome=true:=by simpa using ht
   have e1:pNum r=pExp (digs q0):=by rw [show pNum r=(pDigits q0).bind pExp from e0,ed,hn];rfl
   refine Sk (Kp [0] rfl ?_);intro a hF
   exact ⟨_,hF,hM,hs3,e1⟩
  have hn:(pDigits q0).isSome=false:=by simpa using ht
  have e1:pNum r=none:=by rw [show pNum r=(pDigits q0).bind pExp from e0,ed,hn];rfl
  refine Sq (Rg (Md 1 [2] rfl (Nx (Re (Rt ?_)))));intro a hF
  exact ret1 hF rfl rfl ⟨_,rfl,by rw [e1];rfl,_,hs3,(fun q' hq=>by rw [e1] at hq;cases hq),hM⟩
 clear hF hM
 clear hs e0
 obtain ⟨q2,hF,hM,hs,e0⟩:=h
 unfold pExp at e0
 revert a;refine Sq (Sq ?_)
 have hs2:=Sfx_take hs 101;have hs2b:=Sfx_take hs 69;rcases hc:pTake 101 q2 with _ | q0
 ·
  rw [hc] at hs2
  rcases hc2:pTake 69 q2 with _ | q0
  ·
   rw [hc2] at hs2b
   refine Rg (Mv 1 rfl (Cl rfl rfl rfl (take_walk hT hs 101 hM) ?_))
   clear hM;intro w v hR
   obtain ⟨rfl,hM⟩:=hR
   intro a hF
   rw [hc] at hF hM e0
   revert a;refine Mv 2 rfl (Cl rfl rfl rfl (take_walk hT hs2 69 hM) ?_)
   clear hM;intro w v hR
   obtain ⟨rfl,hM⟩:=hR
   intro a hF
   rw [show (none:Option Str).getD q2=q2 from rfl] at hF hM
   rw [hc2] at hF hM e0
   revert a;refine Md 1 [0,25] rfl (Nx (Cd rfl (fun ht=> ?_) ((fun ht=> ?_))))
   · cases ht
   have e1:pNum r=some q2:=e0
   refine Sk (Nx (Sq (Rg (Md 1 [2] rfl (Nx (Re ?_))))));intro a hF
   exact ret1 hF rfl rfl ⟨_,rfl,by rw [e1];rfl,_,hs2,(fun q' hq=>by rw [e1] at hq;cases hq;rfl),hM⟩
  rw [hc2] at hs2b
  refine Rg (Mv 1 rfl (Cl rfl rfl rfl (take_walk hT hs 101 hM) ?_))
  clear hM;intro w v hR
  obtain ⟨rfl,hM⟩:=hR
  intro a hF
  rw [hc] at hF hM e0
  revert a;refine Mv 2 rfl (Cl rfl rfl rfl (take_walk hT hs2 69 hM) ?_)
  clear hM;intro w v hR
  obtain ⟨rfl,hM⟩:=hR
  intro a hF
  rw [show (none:Option Str).getD q2=q2 from rfl] at hF hM
  rw [hc2] at hF hM e0
  revert a;refine Md 1 [0,25] rfl (Nx (Ce rfl (fun ht=> ?_) ((fun ht=> ?_))))
  · cases ht
  have e1:pNum r=match pTake 43 q0 with | some r'=>pDigits r' | none=>pDigits ((pTake 45 q0).getD q0):=e0
  have hs3:Sfx T q0:=hs2b
  refine Sq (Sq ?_)
  have hs4:=Sfx_take hs3 43;rcases hc3:pTake 43 q0 with _ | q3
  ·
   rw [hc3] at hs4
   refine Rg (Mv 1 rfl (Cl rfl rfl rfl (take_walk hT hs3 43 hM) ?_))
   clear hM;intro w v hR
   obtain ⟨rfl,hM⟩:=hR
   intro a hF
   rw [hc3] at hF hM e1
   revert a;refine Md 1 [0,28] rfl (Nx (Ct rfl (Rg (Mv 1 rfl (Cl rfl rfl rfl (take_walk hT hs4 45 hM) ?_)))))
   clear hM;intro w v hR
   obtain ⟨rfl,hM⟩:=hR
   have hs5:=Sfx_take hs4 45
   intro a hF
   rw [show (none:Option Str).getD q0=q0 from rfl] at hs5 hM
   generalize (pTake 45 q0).getD q0=q4 at*
   have e2:pNum r=pDigits q4:=e1
   revert a;refine Md 0 [0] rfl (Nx (Sq (Rg (Mv 1 rfl (Cl rfl rfl rfl (digits_walk hT hs5 hM) ?_)))))
   clear hM;intro w v hR
   obtain ⟨rfl,hM⟩:=hR
   have hs6:=Sfx_digs hs5
   have ed:=pDigits_eq (r:=q4)
   exact Md 1 [2] rfl (Nx (Re (Rt (Y1 rfl rfl ⟨_,rfl,congrArg Value.bool (congrArg Option.isSome e2.symm),_,hs6,(fun q' hq=>pDigits_out (e2.symm.trans hq)),hM⟩))))
  rw [hc3] at hs4
  refine Rg (Mv 1 rfl (Cl rfl rfl rfl (take_walk hT hs3 43 hM) ?_))
  clear hM;intro w v hR
  obtain ⟨rfl,hM⟩:=hR
  intro a hF
  rw [hc3] at hF hM e1
  revert a;refine Md 1 [0,28] rfl (Nx (Cf rfl (Sk (Nx (Sq (Rg (Mv 1 rfl ?_)))))))
  have e2:pNum r=pDigits q3:=e1
  refine Cl rfl rfl rfl (digits_walk hT hs4 hM) ?_
  clear hM;intro w v hR
  obtain ⟨rfl,hM⟩:=hR
  have hs6:=Sfx_digs hs4
  have ed:=pDigits_eq (r:=q3)
  exact Md 1 [2] rfl (Nx (Re (Rt (Y1 rfl rfl ⟨_,rfl,congrArg Value.bool (congrArg Option.isSome e2.symm),_,hs6,(fun q' hq=>pDigits_out (e2.symm.trans hq)),hM⟩))))
 rw [hc] at hs2
 refine Rg (Mv 1 rfl (Cl rfl rfl rfl (take_walk hT hs 101 hM) ?_))
 clear hM;intro w v hR
 obtain ⟨rfl,hM⟩:=hR
 intro a hF
 rw [hc] at hF hM e0
 revert a;refine Md 4 [0,25] rfl (Nx (Ce rfl (fun ht=> ?_) ((fun ht=> ?_))))
 · cases ht
 have e1:pNum r=match pTake 43 q0 with | some r'=>pDigits r' | none=>pDigits ((pTake 45 q0).getD q0):=e0
 have hs3:Sfx T q0:=hs2
 refine Sq (Sq ?_)
 have hs4:=Sfx_take hs3 43;rcases hc3:pTake 43 q0 with _ | q3
 ·
  rw [hc3] at hs4
  refine Rg (Mv 1 rfl (Cl rfl rfl rfl (take_walk hT hs3 43 hM) ?_))
  clear hM;intro w v hR
  obtain ⟨rfl,hM⟩:=hR
  intro a hF
  rw [hc3] at hF hM e1
  revert a;refine Md 1 [0,28] rfl (Nx (Ct rfl (Rg (Mv 1 rfl (Cl rfl rfl rfl (take_walk hT hs4 45 hM) ?_)))))
  clear hM;intro w v hR
  obtain ⟨rfl,hM⟩:=hR
  have hs5:=Sfx_take hs4 45
  intro a hF
  rw [show (none:Option Str).getD q0=q0 from rfl] at hs5 hM
  generalize (pTake 45 q0).getD q0=q4 at*
  have e2:pNum r=pDigits q4:=e1
  revert a;refine Md 0 [0] rfl (Nx (Sq (Rg (Mv 1 rfl (Cl rfl rfl rfl (digits_walk hT hs5 hM) ?_)))))
  clear hM;intro w v hR
  obtain ⟨rfl,hM⟩:=hR
  have hs6:=Sfx_digs hs5
  have ed:=pDigits_eq (r:=q4)
  exact Md 1 [2] rfl (Nx (Re (Rt (Y1 rfl rfl ⟨_,rfl,congrArg Value.bool (congrArg Option.isSome e2.symm),_,hs6,(fun q' hq=>pDigits_out (e2.symm.trans hq)),hM⟩))))
 rw [hc3] at hs4
 refine Rg (Mv 1 rfl (Cl rfl rfl rfl (take_walk hT hs3 43 hM) ?_))
 clear hM;intro w v hR
 obtain ⟨rfl,hM⟩:=hR
 intro a hF
 rw [hc3] at hF hM e1
 revert a;refine Md 1 [0,28] rfl (Nx (Cf rfl (Sk (Nx (Sq (Rg (Mv 1 rfl ?_)))))))
 have e2:pNum r=pDigits q3:=e1
 refine Cl rfl rfl rfl (digits_walk hT hs4 hM) ?_
 clear hM;intro w v hR
 obtain ⟨rfl,hM⟩:=hR
 have hs6:=Sfx_digs hs4
 have ed:=pDigits_eq (r:=q3)
 exact Md 1 [2] rfl (Nx (Re (Rt (Y1 rfl rfl ⟨_,rfl,congrArg Value.bool (congrArg Option.isSome e2.symm),_,hs6,(fun q' hq=>pDigits_out (e2.symm.trans hq)),hM⟩))))
theorem elements_rd {B:Nat}{wc:World}{b:Nat}{T:Str}(hT:T.length≤2^40) {n:Nat}(hV:∀ k,k<n→VAL T B b wc k):ELE T B b wc n:=by
 intro s L w0 hs hfn hM0
 have hM:=hM0
 have hps:=hs.len
 have hT1:T.length≤2^41:=by omega
 obtain ⟨hs1,hp1,hg1,hlt1⟩:=hs.next
 have hs2:=hs1.of_skip
 have hsl:=skip_len s
 have hsl2:s.length<T.length:=by have:=hs1.len;omega
 refine enter (l:=[.pointer (some ⟨b,0,none⟩)]) 38 Tryz.func113 rfl rfl (Sq (Rg (Md 2 [0] rfl (Nx (Sq (Rg (Md 1 [0,4] rfl (Nx (Sq (Rg (Mv 3 rfl (Ld hM 0 rfl rfl (Sm (((ps T s:Nat):Int)) rfl (by omega) (Mv 2 rfl (St hM 0 rfl ?_)))))))))))))))
 clear hM;intro w hM
 refine Md 0 [0,4] rfl (Nx (Sq (Rg (Mv 1 rfl (Cl rfl rfl rfl (blanks_walk hT1 hs1 hM) ?_)))))
 clear hM;intro w v hR
 obtain ⟨rfl,hM⟩:=hR
 refine Md 0 [0,4] rfl (Nx (Sq (Sq (Rg (Mv 1 rfl (Cl rfl rfl rfl (take_walk hT1 hs2 93 hM) ?_))))))
 clear hM;intro w v hR
 obtain ⟨rfl,hM⟩:=hR
 refine Md 0 [0,4,17] rfl (Nx (Cd rfl (fun ht=> ?_) ((fun ht=> ?_))))
 ·
  obtain ⟨r2,hp2⟩:∃ r2,pTake 93 (Js.skip s)=some r2:=by cases hp:pTake 93 (Js.skip s) with | none=>rw [hp] at ht;cases ht | some q=>exact ⟨q,rfl⟩
  rw [hp2] at hM
  have e1:arrOf T.length n s=some ([],r2):=by unfold arrOf;rw [hp2]
  refine Sq (Rg (Md 2 [2,3] rfl (Nx (Re (Rt ?_)))));intro a hF
  refine ret2 hF rfl rfl rfl ⟨_,rfl,?_⟩
  rw [e1]
  exact ⟨_,[],[],rfl,.nil _ _ _,rfl,(hs2.take hp2).1,hM⟩
 have hp2:pTake 93 (Js.skip s)=none:=by cases hp:pTake 93 (Js.skip s) with | none=>rfl | some q=>rw [hp] at ht;cases ht
 rw [hp2] at hM
 have e1:arrOf T.length n s=pElems T.length n (Js.skip s):=by unfold arrOf;rw [hp2]
 refine Sk (Nx (Bo (Kp [0,4] rfl ?_)));intro a hF
 refine loopX (fun (x:Nat×Str×List Js.Place) a w=>∃ R TB sl xs,Fr 39 [(0,.pointer (some ⟨b,0,none⟩)),(4,sl)] a∧Mem B wc ((b,108,RD T x.2.1)::(R++(TB++L))) w∧Row 27 5 R sl x.2.2.length xs∧RepPls TB x.2.2 xs∧xs.all (·.oneCell')=true∧Sfx T x.2.1∧2*x.2.1.length+2≤x.1∧x.1≤n∧x.2.2.length+x.2.1.length≤T.length∧(pElems T.length x.1 x.2.1).map (fun y=>(x.2.2++y.1,y.2))=arrOf T.length n s) (fun x=>x.1) ((n,Js.skip s,[])) ?_ (fun x a w hI=> ?_)
 · exact ⟨[],[],_,[],hF,hM,.nil _ _,rfl,rfl,hs2,by simp only;omega,Nat.le_refl _,by simp only [List.length_nil];omega,by rw [e1];simp⟩
 clear hF hM
 clear hs hps hs1 hs2 hp1 hg1 hlt1 hp2 e1 hsl
 obtain ⟨m,u,acc⟩:=x
 obtain ⟨R,TB,sl,xs,hF,hM,hRow,hRep,hone,hs,hfu,hmn,hlen,hpe⟩:=hI
 simp only at hF hM hRow hRep hs hfu hmn hlen hpe
 obtain ⟨k,rfl⟩:∃ k,m=k+1:=⟨m - 1,by omega⟩
 rw [pElems_succ] at hpe
 have hps:=hs.len
 revert a;refine Bo (Sq ?_)
 rcases hpv:pVal T.length k u with _ | ⟨p,q⟩
 ·
  rw [hpv] at hpe
  have hpe2:arrOf T.length n s=none:=hpe.symm
  refine Rg (Mv 1 rfl (Cl rfl rfl rfl (hV k (by omega) u _ w hs (by omega) hM) ?_))
  clear hM;intro w v hR
  rw [hpv] at hR
  obtain ⟨x,y,z,q,rfl,hs,hM⟩:=hR
  refine Mv 3 rfl ?_;intro a hF
  refine op_alloc hF hM rfl (vs:=[.int .i64 0,.int .i64 0,.int .i64 0,.slice none 0 0,.slice none 0 0]) rfl rfl rfl (by kernel_rfl) ?_;clear hF hM a;intro a w b5 hF hM
  refine op_storeA hF hM rfl 0 rfl rfl (by kernel_rfl) rfl rfl rfl rfl (rfl) ?_;clear hF hM a;intro a w hF hM
  revert a;refine Md 1 [0,4,5,6] rfl (Nx (Sq (Sq (Rg (Md 2 [0,4,5,24] rfl (Nx (Ct rfl (Sq (Rg (Md 2 [2,3] rfl (Nx (Re (Rt (Rb (Rt (Rb ?_))))))))))))))));intro a hF
  refine ret2 hF rfl rfl rfl ⟨_,rfl,?_⟩
  rw [hpe2]
  exact ⟨q,rfl,hs,hM.sub ((b5,27,[.int .i64 x,.int .i64 y,.int .i64 z,.slice none 0 0,.slice none 0 0])::(R++TB)) (pc fun x=>by simp [ct,ct_append] <;> omega)⟩
 rw [hpv] at hpe
 simp only at hpe
 have hql:=pVal_lt hs hpv
 refine Rg (Mv 1 rfl (Cl rfl rfl rfl (hV k (by omega) u _ w hs (by omega) hM) ?_))
 clear hM;intro w v hR
 rw [hpv] at hR
 obtain ⟨cs,TB2,rfl,hcs,hs3,hM⟩:=hR
 have hcl:=hcs.len
 obtain ⟨k1,k2,k3,o1,l1,c1,o2,l2,c2,rfl⟩:=hcs.shape
 refine Mv 3 rfl ?_;intro a hF
 refine op_alloc hF hM rfl (vs:=[.int .i64 0,.int .i64 0,.int .i64 0,.slice none 0 0,.slice none 0 0]) rfl rfl rfl (by kernel_rfl) ?_;clear hF hM a;intro a w b5 hF hM
 refine op_storeA hF hM rfl 0 rfl rfl (by kernel_rfl) rfl rfl rfl rfl (rfl) ?_;clear hF hM a;intro a w hF hM
 revert a;refine Md 1 [0,4,5,6] rfl (Nx (Sq (Sq (Rg (Md 2 [0,4,5,24] rfl (Nx (Cf rfl (Sk (Nx (Sq (Rg (Mv 1 rfl ?_))))))))))));intro a hF
 refine op_loadA hF hM rfl 0 rfl rfl rfl Tryz.underlying27 rfl (by kernel_rfl) rfl rfl ?_;clear hF a;intro a hF
 refine op_buildS hF hM elt25 rfl rfl rfl rfl rfl rfl rfl (by decide) ?_;clear hF hM a;intro a w b27 hF hM
 replace hM:=hM.perm (L':=R++((b27,27,[.int .i64 k1,.int .i64 k2,.int .i64 k3,.slice o1 l1 c1,.slice o2 l2 c2])::(b5,27,[.int .i64 k1,.int .i64 k2,.int .i64 k3,.slice o1 l1 c1,.slice o2 l2 c2])::(b,108,RD T q)::(TB2++(TB++L)))) (pc fun x=>by simp [ct,ct_append] <;> omega)
 refine op_appendR hF elt25 hRow hM (sl_one rfl) (by simp) (List.all_eq_true.1 hcl.2) (by omega) rfl rfl rfl rfl rfl rfl ?_;clear hF hM a;intro a w R' v' hF hRow' hM
 replace hM:=hM.sub (L':=(b,108,RD T q)::(R'++(TB2++TB++L))) [(b27,27,[.int .i64 k1,.int .i64 k2,.int .i64 k3,.slice o1 l1 c1,.slice o2 l2 c2]),(b5,27,[.int .i64 k1,.int .i64 k2,.int .i64 k3,.slice o1 l1 c1,.slice o2 l2 c2])] (pc fun x=>by simp [ct,ct_append] <;> omega)
 revert a;refine Md 1 [0,4] rfl (Nx (Sq (Rg (Mv 1 rfl (Cl rfl rfl rfl (blanks_walk hT1 hs3 hM) ?_)))))
 clear hM;intro w v hR
 obtain ⟨rfl,hM⟩:=hR
 have hs4:=hs3.of_skip
 have hsl:=skip_len q
 refine Md 0 [0,4] rfl (Nx (Sq (Sq (Rg (Mv 1 rfl (Cl rfl rfl rfl (take_walk hT1 hs4 93 hM) ?_))))))
 clear hM;intro w v hR
 obtain ⟨rfl,hM⟩:=hR
 refine Md 0 [0,4,32] rfl (Nx (Cd rfl (fun ht=> ?_) ((fun ht=> ?_))))
 ·
  obtain ⟨r2,hp2⟩:∃ r2,pTake 93 (Js.skip q)=some r2:=by cases hp:pTake 93 (Js.skip q) with | none=>rw [hp] at ht;cases ht | some q=>exact ⟨q,rfl⟩
  rw [hp2] at hM
  obtain ⟨hs5,hq5⟩:=hs4.take hp2
  rw [hp2] at hpe
  refine Sq (Rg (Md 3 [2,3] rfl (Nx (Re (Rt (Rb (Rt (Rb ?_))))))));intro a hF
  refine ret2 hF rfl rfl rfl ⟨_,rfl,?_⟩;rw [←hpe];exact ⟨_,_,R'++(TB2++TB),rfl,by simpa using hRow'.sl.mono (List.subset_append_left _ _),(RepPls.mono (fun x hx=>by simp [hx]) _ _ hRep).append (RepPls.one (RepPl.mono (fun x hx=>by simp [hx]) _ _ hcs)),hs5,hM.perm (pc fun x=>by simp [ct,ct_append] <;> omega)⟩
 have hp2:pTake 93 (Js.skip q)=none:=by cases hp:pTake 93 (Js.skip q) with | none=>rfl | some q=>rw [hp] at ht;cases ht
 rw [hp2] at hM
 rw [hp2] at hpe
 simp only at hpe
 clear hp2
 replace hM:Mem B wc ((b,108,RD T (Js.skip q))::(R'++(TB2++TB++L))) w:=hM
 refine Sk (Nx (Sq (Sq (Rg (Mv 1 rfl (Cl rfl rfl rfl (take_walk hT1 hs4 44 hM) ?_))))))
 clear hM;intro w v hR
 obtain ⟨rfl,hM⟩:=hR
 refine Md 1 [0,4,36] rfl (Nx (Cd rfl (fun ht=> ?_) ((fun ht=> ?_))))
 ·
  have hp2:pTake 44 (Js.skip q)=none:=by cases hp:pTake 44 (Js.skip q) with | none=>rfl | some q=>rw [hp] at ht;cases ht
  rw [hp2] at hM
  rw [hp2] at hpe
  have hpe2:arrOf T.length n s=none:=hpe.symm
  refine Sq (Rg (Md 2 [2,3] rfl (Nx (Re (Rt (Rb (Rt (Rb ?_))))))));intro a hF
  refine ret2 hF rfl rfl rfl ⟨_,rfl,?_⟩;rw [hpe2];exact ⟨_,rfl,hs4,hM.sub (R'++(TB2++TB)) (pc fun x=>by simp [ct,ct_append] <;> omega)⟩
 obtain ⟨r2,hp2⟩:∃ r2,pTake 44 (Js.skip q)=some r2:=by cases hp:pTake 44 (Js.skip q) with | none=>rw [hp] at ht;cases ht | some q=>exact ⟨q,rfl⟩
 rw [hp2] at hM
 obtain ⟨hs5,hq5⟩:=hs4.take hp2
 rw [hp2] at hpe
 simp only at hpe
 have hl5:(Js.skip q).length=r2.length+1:=by rw [hq5];rfl
 clear hs4
 replace hM:Mem B wc ((b,108,RD T r2)::(R'++(TB2++TB++L))) w:=hM
 refine Sk (Nx (Rg (Mv 1 rfl (Cl rfl rfl rfl (blanks_walk hT1 hs5 hM) ?_))))
 clear hM;intro w v hR
 obtain ⟨rfl,hM⟩:=hR
 have hs4:=hs5.of_skip
 have hsl3:=skip_len r2
 refine Md 0 [0,4] rfl (Nb (Kp [0,4] rfl ?_));intro a hF
 exact ⟨(k,Js.skip r2,acc++ [p]),⟨R',TB2++TB,_,_,hF,hM,by simpa using hRow',(RepPls.mono (List.subset_append_right _ _) _ _ hRep).append (RepPls.one (RepPl.mono (List.subset_append_left _ _) _ _ hcs)),by rw [List.all_append,hone,hcl.2];rfl,hs4,by simp only;omega,by simp only;omega,by simp only [List.length_append,List.length_cons,List.length_nil];omega,by simp only;rw [←hpe];cases pElems T.length k (Js.skip r2) <;> simp⟩,by simp only;omega⟩
theorem members_rd {B:Nat}{wc:World}{b:Nat}{T:Str}(hT:T.length≤2^40) {n:Nat}(hV:∀ k,k<n→VAL T B b wc k):MEMS T B b wc n:=by
 intro s L w0 hs hfn hM0
 have hM:=hM0
 have hps:=hs.len
 have hT1:T.length≤2^41:=by omega
 obtain ⟨hs1,hp1,hg1,hlt1⟩:=hs.next
 have hs2:=hs1.of_skip
 have hsl:=skip_len s
 have hsl2:s.length<T.length:=by have:=hs1.len;omega
 refine enter (l:=[.pointer (some ⟨b,0,none⟩)]) 70 Tryz.func112 rfl rfl (Sq (Rg (Md 3 [0] rfl (Nx (Sq (Rg (Md 1 [0,5] rfl (Nx (Sq (Rg (Md 1 [0,5,6] rfl (Nx (Sq (Rg (Mv 3 rfl (Ld hM 0 rfl rfl (Sm (((ps T s:Nat):Int)) rfl (by omega) (Mv 2 rfl (St hM 0 rfl ?_)))))))))))))))))))
 clear hM;intro w hM
 refine Md 0 [0,5,6] rfl (Nx (Sq (Rg (Mv 1 rfl (Cl rfl rfl rfl (blanks_walk hT1 hs1 hM) ?_)))))
 clear hM;intro w v hR
 obtain ⟨rfl,hM⟩:=hR
 refine Md 0 [0,5,6] rfl (Nx (Sq (Sq (Rg (Mv 1 rfl (Cl rfl rfl rfl (take_walk hT1 hs2 125 hM) ?_))))))
 clear hM;intro w v hR
 obtain ⟨rfl,hM⟩:=hR
 refine Md 0 [0,5,6,20] rfl (Nx (Cd rfl (fun ht=> ?_) ((fun ht=> ?_))))
 ·
  obtain ⟨r2,hp2⟩:∃ r2,pTake 125 (Js.skip s)=some r2:=by cases hp:pTake 125 (Js.skip s) with | none=>rw [hp] at ht;cases ht | some q=>exact ⟨q,rfl⟩
  rw [hp2] at hM
  have e1:objOf T.length n s=some ([],[],r2):=by unfold objOf;rw [hp2]
  refine Sq (Rg (Md 3 [2,3,4] rfl (Nx (Re (Rt ?_)))));intro a hF
  refine ret3 hF rfl rfl rfl rfl ⟨_,rfl,?_⟩
  rw [e1]
  exact ⟨_,_,[],[],rfl,.nil _ _ _,.nil _ _ _,rfl,(hs2.take hp2).1,hM⟩
 have hp2:pTake 125 (Js.skip s)=none:=by cases hp:pTake 125 (Js.skip s) with | none=>rfl | some q=>rw [hp] at ht;cases ht
 rw [hp2] at hM
 have e1:objOf T.length n s=pMems T.length n (Js.skip s):=by unfold objOf;rw [hp2]
 refine Sk (Nx (Bo (Kp [0,5,6] rfl ?_)));intro a hF
 refine loopX (fun (x:Nat×Str×List (Nat×Nat)×List Js.Place) a w=>∃ N R TB sn sl xs,Fr 71 [(0,.pointer (some ⟨b,0,none⟩)),(5,sn),(6,sl)] a∧Mem B wc ((b,108,RD T x.2.1)::(N++(R++(TB++L)))) w∧Row 80 2 N sn x.2.2.1.length (spans x.2.2.1)∧Row 27 5 R sl x.2.2.2.length xs∧RepPls TB x.2.2.2 xs∧xs.all (·.oneCell')=true∧Sfx T x.2.1∧2*x.2.1.length+2≤x.1∧x.1≤n∧x.2.2.2.length+x.2.1.length≤T.length∧x.2.2.1.length=x.2.2.2.length∧(pMems T.length x.1 x.2.1).map (fun y=>(x.2.2.1++y.1,x.2.2.2++y.2.1,y.2.2))=objOf T.length n s) (fun x=>x.1) ((n,Js.skip s,[],[])) ?_ (fun x a w hI=> ?_)
 · exact ⟨[],[],[],_,_,[],hF,hM,.nil _ _,.nil _ _,rfl,rfl,hs2,by simp only;omega,Nat.le_refl _,by simp only [List.length_nil];omega,rfl,by rw [e1];simp⟩
 clear hF hM
 clear hs hps hs1 hs2 hp1 hg1 hlt1 hp2 e1 hsl
 obtain ⟨m,u,ns,acc⟩:=x
 obtain ⟨N,R,TB,sn,sl,xs,hF,hM,hRn,hRow,hRep,hone,hs,hfu,hmn,hlen,hna,hpe⟩:=hI
 simp only at hF hM hRn hRow hRep hs hfu hmn hlen hna hpe
 obtain ⟨k,rfl⟩:∃ k,m=k+1:=⟨m - 1,by omega⟩
 rw [pMems_succ] at hpe
 have hps:=hs.len
 revert a;refine Bo (Sq ?_)
 rcases hq0:pTake 34 u with _ | r
 ·
  rw [hq0] at hpe
  have hpe2:objOf T.length n s=none:=hpe.symm
  have hne:u.headD 0≠34:=by rintro h;cases u with | nil=>cases h | cons c u=>(subst h;rw [show pTake 34 (34::u)=some u from rfl] at hq0;cases hq0)
  refine Rg (Mv 3 rfl (Ld hM 0 rfl rfl (Md 1 [0,5,6,7] rfl (Nx (Sq (Sq (Rg (Mv 1 rfl (Cl rfl rfl rfl (here_walk hT1 hs hM) ?_)))))))))
  clear hM;intro w v hR
  obtain ⟨rfl,hM⟩:=hR
  refine Mv 1 rfl ?_;intro a hF
  rw [bne_t (d:=34) (z:=34) rfl hne] at hF
  revert a;refine Md 5 [0,5,6,7,32] rfl (Nx (Ct rfl (Sq (Rg (Md 3 [2,3,4] rfl (Nx (Re (Rt (Rb (Rt (Rb ?_)))))))))));intro a hF
  refine ret3 hF rfl rfl rfl rfl ⟨_,rfl,?_⟩
  rw [hpe2]
  exact ⟨_,rfl,hs,hM.sub (N++(R++TB)) (pc fun x=>by simp [ct,ct_append] <;> omega)⟩
 obtain ⟨-,hu⟩:=hs.take hq0
 subst hu
 have hlr:(34::r).length=r.length+1:=rfl
 rw [hq0] at hpe
 intro a hF
 replace hpe:Option.map _ (match pStr r with | none=>none | some r=>_)=_:=hpe
 revert a;refine Rg (Mv 3 rfl (Ld hM 0 rfl rfl (Md 1 [0,5,6,7] rfl (Nx (Sq (Sq (Rg (Mv 1 rfl (Cl rfl rfl rfl (here_walk hT1 hs hM) ?_)))))))))
 clear hM;intro w v hR
 obtain ⟨rfl,hM⟩:=hR
 refine Mv 3 rfl (Cl rfl rfl rfl (quoted_rd hT1 hs hM) ?_)
 clear hM;intro w v hR
 obtain ⟨rfl,q,hs3,hqq,hM⟩:=hR
 have hps3:=hs3.len
 refine Md 2 [0,5,6,7,32] rfl (Nx (Cd rfl (fun ht=> ?_) ((fun ht=> ?_))))
 ·
  have hpe2:objOf T.length n s=none:=by cases hx:pStr r with | none=>rw [hx] at hpe;exact hpe.symm | some q'=>(rw [hx] at ht;cases ht)
  refine Sq (Rg (Md 3 [2,3,4] rfl (Nx (Re (Rt (Rb (Rt (Rb ?_))))))));intro a hF
  refine ret3 hF rfl rfl rfl rfl ⟨_,rfl,?_⟩
  rw [hpe2]
  exact ⟨_,rfl,hs3,hM.sub (N++(R++TB)) (pc fun x=>by simp [ct,ct_append] <;> omega)⟩
 obtain ⟨q',hx⟩:∃ q',pStr r=some q':=by cases hx:pStr r with | none=>rw [hx] at ht;cases ht | some q'=>exact ⟨q',rfl⟩
 have hq1:=hqq q' hx
 subst hq1
 rw [hx] at hpe
 simp only at hpe
 have hql0:=pStr_lt hx
 refine Sk (Nx (Sq (Rg (Mv 5 rfl (Ld hM 0 rfl rfl (Gv rfl (fun _ hF=>gives_build (vals:=[(0,.int .i64 ((ps T (34::r):Nat):Int)),(1,.int .i64 ((ps T q:Nat):Int))]) (cells:=[.int .i64 ((ps T (34::r):Nat):Int),.int .i64 ((ps T q:Nat):Int)]) hF rfl rfl (by kernel_rfl) _) ?_))))));intro a hF
 refine op_buildS hF hM elt24 rfl rfl rfl rfl rfl rfl rfl (by decide) ?_;clear hF hM a;intro a w b40 hF hM
 replace hM:=hM.perm (L':=N++((b40,80,[.int .i64 ((ps T (34::r):Nat):Int),.int .i64 ((ps T q:Nat):Int)])::(b,108,RD T q)::(R++(TB++L)))) (pc fun x=>by simp [ct,ct_append] <;> omega)
 refine op_appendR hF elt24 hRn hM (sl_one (b:=b40) (e:=80) (m:=2) (cs:=[.int .i64 ((ps T (34::r):Nat):Int),.int .i64 ((ps T q:Nat):Int)]) rfl) (by simp) (by simp [Value.oneCell']) (by omega) rfl rfl rfl rfl rfl rfl ?_;clear hF hM a;intro a w N' vn hF hRn' hM
 replace hM:=hM.sub (L':=(b,108,RD T q)::(N'++(R++(TB++L)))) [(b40,80,[.int .i64 ((ps T (34::r):Nat):Int),.int .i64 ((ps T q:Nat):Int)])] (pc fun x=>by simp [ct,ct_append] <;> omega)
 revert a;refine Md 1 [0,5,6] rfl (Nx (Sq (Rg (Mv 1 rfl (Cl rfl rfl rfl (blanks_walk hT1 hs3 hM) ?_)))))
 clear hM;intro w v hR
 obtain ⟨rfl,hM⟩:=hR
 have hs4:=hs3.of_skip
 have hsl:=skip_len q
 refine Md 0 [0,5,6] rfl (Nx (Sq (Sq (Rg (Mv 1 rfl (Cl rfl rfl rfl (take_walk hT1 hs4 58 hM) ?_))))))
 clear hM;intro w v hR
 obtain ⟨rfl,hM⟩:=hR
 refine Md 1 [0,5,6,46] rfl (Nx (Cd rfl (fun ht=> ?_) ((fun ht=> ?_))))
 ·
  have hp2:pTake 58 (Js.skip q)=none:=by cases hp:pTake 58 (Js.skip q) with | none=>rfl | some q=>rw [hp] at ht;cases ht
  rw [hp2] at hM
  rw [hp2] at hpe
  have hpe2:objOf T.length n s=none:=hpe.symm
  refine Sq (Rg (Md 3 [2,3,4] rfl (Nx (Re (Rt (Rb (Rt (Rb ?_))))))));intro a hF
  refine ret3 hF rfl rfl rfl rfl ⟨_,rfl,?_⟩
  rw [hpe2]
  exact ⟨_,rfl,hs4,hM.sub (N'++(R++TB)) (pc fun x=>by simp [ct,ct_append] <;> omega)⟩
 obtain ⟨r1,hp2⟩:∃ r2,pTake 58 (Js.skip q)=some r2:=by cases hp:pTake 58 (Js.skip q) with | none=>rw [hp] at ht;cases ht | some q=>exact ⟨q,rfl⟩
 rw [hp2] at hM
 obtain ⟨hs5,hq5⟩:=hs4.take hp2
 rw [hp2] at hpe
 simp only at hpe
 have hl5:(Js.skip q).length=r1.length+1:=by rw [hq5];rfl
 clear hp2
 replace hM:Mem B wc ((b,108,RD T r1)::(N'++(R++(TB++L)))) w:=hM
 refine Sk (Nx (Sq (Rg (Mv 1 rfl (Cl rfl rfl rfl (blanks_walk hT1 hs5 hM) ?_)))))
 clear hM;intro w v hR
 obtain ⟨rfl,hM⟩:=hR
 have hs6:=hs5.of_skip
 have hsl3:=skip_len r1
 refine Md 0 [0,5,6] rfl (Nx (Sq ?_))
 rcases hpv:pVal T.length k (Js.skip r1) with _ | ⟨p,q2⟩
 ·
  rw [hpv] at hpe
  have hpe2:objOf T.length n s=none:=hpe.symm
  refine Rg (Mv 1 rfl (Cl rfl rfl rfl (hV k (by omega) _ _ w hs6 (by omega) hM) ?_))
  clear hM;intro w v hR
  rw [hpv] at hR
  obtain ⟨x,y,z,q2,rfl,hs7,hM⟩:=hR
  refine Mv 3 rfl ?_;intro a hF
  refine op_alloc hF hM rfl (vs:=[.int .i64 0,.int .i64 0,.int .i64 0,.slice none 0 0,.slice none 0 0]) rfl rfl rfl (by kernel_rfl) ?_;clear hF hM a;intro a w b8 hF hM
  refine op_storeA hF hM rfl 0 rfl rfl (by kernel_rfl) rfl rfl rfl rfl (rfl) ?_;clear hF hM a;intro a w hF hM
  revert a;refine Md 1 [0,5,6,8,9] rfl (Nx (Sq (Sq (Rg (Md 2 [0,5,6,8,55] rfl (Nx (Ct rfl (Sq (Rg (Md 3 [2,3,4] rfl (Nx (Re (Rt (Rb (Rt (Rb ?_))))))))))))))));intro a hF
  refine ret3 hF rfl rfl rfl rfl ⟨_,rfl,?_⟩
  rw [hpe2]
  exact ⟨_,rfl,hs7,hM.sub ((b8,27,[.int .i64 x,.int .i64 y,.int .i64 z,.slice none 0 0,.slice none 0 0])::(N'++(R++TB))) (pc fun x=>by simp [ct,ct_append] <;> omega)⟩
 rw [hpv] at hpe
 simp only at hpe
 have hql:=pVal_lt hs6 hpv
 refine Rg (Mv 1 rfl (Cl rfl rfl rfl (hV k (by omega) _ _ w hs6 (by omega) hM) ?_))
 clear hM;intro w v hR
 rw [hpv] at hR
 obtain ⟨cs,TB2,rfl,hcs,hs7,hM⟩:=hR
 have hcl:=hcs.len
 obtain ⟨k1,k2,k3,o1,l1,c1,o2,l2,c2,rfl⟩:=hcs.shape
 refine Mv 3 rfl ?_;intro a hF
 refine op_alloc hF hM rfl (vs:=[.int .i64 0,.int .i64 0,.int .i64 0,.slice none 0 0,.slice none 0 0]) rfl rfl rfl (by kernel_rfl) ?_;clear hF hM a;intro a w b8 hF hM
 refine op_storeA hF hM rfl 0 rfl rfl (by kernel_rfl) rfl rfl rfl rfl (rfl) ?_;clear hF hM a;intro a w hF hM
 revert a;refine Md 1 [0,5,6,8,9] rfl (Nx (Sq (Sq (Rg (Md 2 [0,5,6,8,55] rfl (Nx (Cf rfl (Sk (Nx (Sq (Rg (Mv 1 rfl ?_))))))))))));intro a hF
 refine op_loadA hF hM rfl 0 rfl rfl rfl Tryz.underlying27 rfl (by kernel_rfl) rfl rfl ?_;clear hF a;intro a hF
 refine op_buildS hF hM elt25 rfl rfl rfl rfl rfl rfl rfl (by decide) ?_;clear hF hM a;intro a w b58 hF hM
 replace hM:=hM.perm (L':=R++((b58,27,[.int .i64 k1,.int .i64 k2,.int .i64 k3,.slice o1 l1 c1,.slice o2 l2 c2])::(b8,27,[.int .i64 k1,.int .i64 k2,.int .i64 k3,.slice o1 l1 c1,.slice o2 l2 c2])::(b,108,RD T q2)::(TB2++(N'++(TB++L))))) (pc fun x=>by simp [ct,ct_append] <;> omega)
 refine op_appendR hF elt25 hRow hM (sl_one rfl) (by simp) (List.all_eq_true.1 hcl.2) (by omega) rfl rfl rfl rfl rfl rfl ?_;clear hF hM a;intro a w R' v' hF hRow' hM
 replace hM:=hM.sub (L':=(b,108,RD T q2)::(N'++(R'++(TB2++TB++L)))) [(b58,27,[.int .i64 k1,.int .i64 k2,.int .i64 k3,.slice o1 l1 c1,.slice o2 l2 c2]),(b8,27,[.int .i64 k1,.int .i64 k2,.int .i64 k3,.slice o1 l1 c1,.slice o2 l2 c2])] (pc fun x=>by simp [ct,ct_append] <;> omega)
 revert a;refine Md 1 [0,5,6] rfl (Nx (Sq (Rg (Mv 1 rfl (Cl rfl rfl rfl (blanks_walk hT1 hs7 hM) ?_)))))
 clear hM;intro w v hR
 obtain ⟨rfl,hM⟩:=hR
 have hs8:=hs7.of_skip
 have hsl4:=skip_len q2
 refine Md 0 [0,5,6] rfl (Nx (Sq (Sq (Rg (Mv 1 rfl (Cl rfl rfl rfl (take_walk hT1 hs8 125 hM) ?_))))))
 clear hM;intro w v hR
 obtain ⟨rfl,hM⟩:=hR
 refine Md 0 [0,5,6,63] rfl (Nx (Cd rfl (fun ht=> ?_) ((fun ht=> ?_))))
 ·
  obtain ⟨r2,hp2⟩:∃ r2,pTake 125 (Js.skip q2)=some r2:=by cases hp:pTake 125 (Js.skip q2) with | none=>rw [hp] at ht;cases ht | some q=>exact ⟨q,rfl⟩
  rw [hp2] at hM
  obtain ⟨hs10,hq10⟩:=hs8.take hp2
  rw [hp2] at hpe
  refine Sq (Rg (Md 5 [2,3,4] rfl (Nx (Re (Rt (Rb (Rt (Rb ?_))))))));intro a hF
  refine ret3 hF rfl rfl rfl rfl ⟨_,rfl,?_⟩;rw [←hpe];exact ⟨_,_,_,N'++(R'++(TB2++TB)),rfl,by rw [spans_append,List.length_append];exact hRn'.sl.mono (List.subset_append_left _ _),by simpa using hRow'.sl.mono (fun x hx=>by simp [hx]),(RepPls.mono (fun x hx=>by simp [hx]) _ _ hRep).append (RepPls.one (RepPl.mono (fun x hx=>by simp [hx]) _ _ hcs)),hs10,hM.perm (pc fun x=>by simp [ct,ct_append] <;> omega)⟩
 have hp2:pTake 125 (Js.skip q2)=none:=by cases hp:pTake 125 (Js.skip q2) with | none=>rfl | some q=>rw [hp] at ht;cases ht
 rw [hp2] at hM
 rw [hp2] at hpe
 simp only at hpe
 clear hp2
 replace hM:Mem B wc ((b,108,RD T (Js.skip q2))::(N'++(R'++(TB2++TB++L)))) w:=hM
 refine Sk (Nx (Sq (Sq (Rg (Mv 1 rfl (Cl rfl rfl rfl (take_walk hT1 hs8 44 hM) ?_))))))
 clear hM;intro w v hR
 obtain ⟨rfl,hM⟩:=hR
 refine Md 1 [0,5,6,68] rfl (Nx (Cd rfl (fun ht=> ?_) ((fun ht=> ?_))))
 ·
  have hp2:pTake 44 (Js.skip q2)=none:=by cases hp:pTake 44 (Js.skip q2) with | none=>rfl | some q=>rw [hp] at ht;cases ht
  rw [hp2] at hM
  rw [hp2] at hpe
  have hpe2:objOf T.length n s=none:=hpe.symm
  refine Sq (Rg (Md 3 [2,3,4] rfl (Nx (Re (Rt (Rb (Rt (Rb ?_))))))));intro a hF
  refine ret3 hF rfl rfl rfl rfl ⟨_,rfl,?_⟩;rw [hpe2];exact ⟨_,rfl,hs8,hM.sub (N'++(R'++(TB2++TB))) (pc fun x=>by simp [ct,ct_append] <;> omega)⟩
 obtain ⟨r2,hp2⟩:∃ r2,pTake 44 (Js.skip q2)=some r2:=by cases hp:pTake 44 (Js.skip q2) with | none=>rw [hp] at ht;cases ht | some q=>exact ⟨q,rfl⟩
 rw [hp2] at hM
 obtain ⟨hs10,hq10⟩:=hs8.take hp2
 rw [hp2] at hpe
 simp only at hpe
 have hl10:(Js.skip q2).length=r2.length+1:=by rw [hq10];rfl
 clear hs8
 replace hM:Mem B wc ((b,108,RD T r2)::(N'++(R'++(TB2++TB++L)))) w:=hM
 refine Sk (Nx (Rg (Mv 1 rfl (Cl rfl rfl rfl (blanks_walk hT1 hs10 hM) ?_))))
 clear hM;intro w v hR
 obtain ⟨rfl,hM⟩:=hR
 have hs9:=hs10.of_skip
 have hsl5:=skip_len r2
 refine Md 0 [0,5,6] rfl (Nb (Kp [0,5,6] rfl ?_));intro a hF
 exact ⟨(k,Js.skip r2,ns++ [(ps T (34::r),ps T q)],acc++ [p]),⟨N',R',TB2++TB,_,_,_,hF,hM,by simp only;rw [spans_append,List.length_append];exact hRn',by simpa using hRow',(RepPls.mono (List.subset_append_right _ _) _ _ hRep).append (RepPls.one (RepPl.mono (List.subset_append_left _ _) _ _ hcs)),by rw [List.all_append,hone,hcl.2];rfl,hs9,by simp only;omega,by simp only;omega,by simp only [List.length_append,List.length_cons,List.length_nil];omega,by simp [hna],by simp only;rw [←hpe];cases pMems T.length k (Js.skip r2) <;> simp [ps]⟩,by simp only;omega⟩

end Go.Sx