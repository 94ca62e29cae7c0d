/- Part 25 of the proof of FnJrTyped: the statement Rows.FnJrTypedCardSaid; no further condition. -/
import Derived.Test.YtelonenjneonlaaGreatDoorR24
set_option linter.all false
set_option maxRecDepth 100000
namespace Go.Sx
open Go.RowKit Go.Proofs Js Go.Proofs.YtelonenjneonlaaGreatDoorW.PrintWords
theorem esc_plain {s r:Str}(h:esc (s++r) s.length=false):unq s=s:=by
  refine unq_plain s (fun c hc e=> ?_)
  unfold esc at h
  rw [List.take_left] at h
  have:=List.any_eq_false.1 h c hc
  rw [e] at this
  exact this rfl
theorem idx_ds {ds:Str}(h:idxok ds=true):ds≠ []∧Digs ds:=by
  unfold idxok at h
  exact ⟨(of_decide_eq_true h).1,(of_decide_eq_true h).2.1⟩
def SEARCH (ea:Nat→Addr) (ks:List Str):Prop:=∀ {b o cp R g ko kc:Nat}{D:Str}{w0:World},JB ea w0.heap.size w0→((ks=[]∧R=0)∨(ks≠ []∧Js.Sk ks 0 0 true D R))→D.length≤2^38→D.length≤cp→Bts w0 b o D→Sts w0 g ko ks→ks.length≤kc→ks.length≤2^40→
  Calls Tryz.prog 125 #[.agg CFG.toArray,.slice (some ⟨b,o,none⟩) D.length cp,.slice (some ⟨g,ko,none⟩) ks.length kc] w0 (Ret fun v w'=>v= .int .i64 (R:Int)∧Below w0.heap.size w0 w')
set_option maxHeartbeats 1000000 in
theorem search_step (ea:Nat→Addr) (ks:List Str) (ih:∀ ks':List Str,ks'.length<ks.length→SEARCH ea ks'):SEARCH ea ks:=by
 intro b o cp R g ko kc D w0 hJ hSR hl hcp hD hS hkc hk40
 have hM:=MS0 w0
 refine enter (l:=[.agg CFG.toArray,.slice (some ⟨b,o,none⟩) D.length cp,.slice (some ⟨g,ko,none⟩) ks.length kc]) 280 Tryz.func125 rfl rfl (Sq (Rg ?_));intro a hF
 refine op_box (vs:=CFG) hF hM rfl rfl rfl rfl rfl rfl ?_;clear hF hM a;intro a w b3 hF hM
 refine op_box (vs:=[.slice (some ⟨b,o,none⟩) D.length cp]) hF hM rfl rfl rfl rfl rfl rfl ?_;clear hF hM a;intro a w b4 hF hM
 revert a;refine Md 1 [2,3,4] rfl (Nx (Sq (Rg (Md 1 [2,3,4,7] rfl (Nx (Sq (Rg (Md 1 [2,3,4,7,8] rfl (Nx (Sq (Rg (Md 1 [2,3,4,7,8,9] rfl (Nx (Sq (Rg (Ld hM 0 rfl rfl (Md 2 [2,3,4,7,8,9,10] rfl (Nx (Sq (Rg (Md 3 [2,3,4,7,8,9,10,11] rfl (Nx (Sq (Rg (Md 1 [2,3,4,7,8,9,10,11,12] rfl (Nx (Sq (Sq (Rg (Md 2 [2,3,4,7,8,9,10,11,12,40] rfl (Nx (Cd rfl (fun ht=> ?_) ((fun ht=> ?_))))))))))))))))))))))))))))))))))
 ·
  have hk0:ks.length=0:=by have:=eq_of_beq ht;omega
  have hR0:R=0:=by rcases hSR with ⟨_,h⟩ | ⟨h,_⟩;exact h;exact absurd (List.length_eq_zero_iff.1 hk0) h
  refine Sq (Rg (Md 1 [6] rfl (Nx (Re (Rt ?_)))));intro a hF
  exact ret1 hF rfl rfl ⟨_,rfl,by rw [hR0];rfl,hM.below⟩
 have hk0:ks.length≠0:=by rintro h;rw [h] at ht;simp at ht
 have hSk0:Js.Sk ks 0 0 true D R:=by rcases hSR with ⟨h,_⟩ | ⟨_,h⟩;(rw [h] at hk0;exact absurd rfl hk0);exact h
 refine Sk (Nx (Sq (Rg ?_)));intro a hF
 refine op_alloc hF hM rfl (vs:=List.replicate 64 (.int .u8 0)) rfl rfl rfl (by kernel_rfl) ?_;clear hF hM a;intro a w b13 hF hM
 revert a;refine Md 0 [2,3,4,7,8,9,10,11,12,13] rfl (Nx (Sq (Bo (Kp [2,3,4,7,8,9,10,11,12,13] rfl ?_))));intro a hF
 refine loopX (fun (x:Nat×Nat×Bool×Nat) a w=>∃ bs,Fr 283 [(2,.slice (some ⟨g,ko,none⟩) ks.length kc),(3,.pointer (some ⟨b3,0,none⟩)),(4,.pointer (some ⟨b4,0,none⟩)),(7,.int .i64 (x.2.1:Int)),(8,.int .i64 (x.1:Int)),(9,.int .i64 (x.2.2.2:Int)),(10,.int .i64 (D.length:Int)),(11,.int .i64 (ks.length:Int)),(12,.bool x.2.2.1),(13,.pointer (some ⟨b13,0,none⟩))] a∧Mem w0.heap.size w0 ((b13,127,bs)::(b4,66,[.slice (some ⟨b,o,none⟩) D.length cp])::(b3,125,CFG)::[]) w∧bs.length=64∧(∃ R',Js.Sk ks x.1 x.2.1 x.2.2.1 (D.drop x.2.2.2) R'∧x.2.2.2+R'=R)∧x.2.2.2≤D.length∧x.1≤x.2.2.2∧x.2.1≤x.1) (fun x=>D.length - x.2.2.2) ((0,0,true,0)) ?_ (fun x a w hI=> ?_)
 · exact ⟨_,hF,hM,List.length_replicate,⟨R,by rw [List.drop_zero];exact hSk0,Nat.zero_add R⟩,Nat.zero_le _,Nat.le_refl _,Nat.le_refl _⟩
 clear hF hM
 obtain ⟨L,K,lm,i0⟩:=x
 obtain ⟨bs,hF,hM,hbs,⟨R0,hSk,hR⟩,hil,hLi,hKL⟩:=hI
 simp only at hF hM hSk hR hil hLi hKL
 have hi0:i0<D.length:=by obtain ⟨c,r,h⟩:=hSk.cons;have:=congrArg List.length h;simp only [List.length_drop,List.length_cons] at this;omega
 revert a;refine Sq (Sq (Rg (Md 3 [2,3,4,7,8,9,10,11,12,13,43] rfl (Nx (D2 rfl (fun ht=>absurd (of_decide_eq_false ht) (by omega)) (Sk (Nx (Bo ?_))))))));intro a hF
 refine cut (fun a w=>∃ i:Nat,Fr 283 [(2,.slice (some ⟨g,ko,none⟩) ks.length kc),(3,.pointer (some ⟨b3,0,none⟩)),(4,.pointer (some ⟨b4,0,none⟩)),(7,.int .i64 (K:Int)),(8,.int .i64 (L:Int)),(9,.int .i64 (i:Int)),(10,.int .i64 (D.length:Int)),(11,.int .i64 (ks.length:Int)),(12,.bool lm),(13,.pointer (some ⟨b13,0,none⟩))] a∧Mem w0.heap.size w0 ((b13,127,bs)::(b4,66,[.slice (some ⟨b,o,none⟩) D.length cp])::(b3,125,CFG)::[]) w∧(∃ R',Js.Sk ks L K lm (D.drop i) R'∧i+R'=R)∧i0≤i) ?_ (fun a w h=> ?_)
 ·
  revert a;refine Bo (Kp [2,3,4,7,8,9,10,11,12,13] rfl ?_);intro a hF
  refine loopX (fun (i:Nat) a w=>Fr 283 [(2,.slice (some ⟨g,ko,none⟩) ks.length kc),(3,.pointer (some ⟨b3,0,none⟩)),(4,.pointer (some ⟨b4,0,none⟩)),(7,.int .i64 (K:Int)),(8,.int .i64 (L:Int)),(9,.int .i64 (i:Int)),(10,.int .i64 (D.length:Int)),(11,.int .i64 (ks.length:Int)),(12,.bool lm),(13,.pointer (some ⟨b13,0,none⟩))] a∧Mem w0.heap.size w0 ((b13,127,bs)::(b4,66,[.slice (some ⟨b,o,none⟩) D.length cp])::(b3,125,CFG)::[]) w∧(∃ R',Js.Sk ks L K lm (D.drop i) R'∧i+R'=R)∧i0≤i) (fun i=>D.length - i) (i0) ?_ (fun i a w hI=> ?_)
  · exact ⟨hF,hM,⟨R0,hSk,hR⟩,Nat.le_refl _⟩
  clear hF hM
  clear hSk hR
  obtain ⟨hF,hM,⟨R0,hSk,hR⟩,hi0i⟩:=hI
  obtain ⟨c,r,hdr⟩:=hSk.cons
  have hi:i<D.length:=by have:=congrArg List.length hdr;simp only [List.length_drop,List.length_cons] at this;omega
  have hc:D[i]?=some c:=by have:=congrArg (fun l=>l[0]?) hdr;simpa using this
  have hdr1:D.drop (i+1)=r:=by rw [←List.drop_drop,hdr];rfl
  revert a;refine Sq (Sq (Rg (Md 3 [2,3,4,7,8,9,10,11,12,13,46] rfl (Nx (D2 rfl (fun ht=>absurd (of_decide_eq_false ht) (by omega)) (Sk (Nx (Bo (Sq (Rg (Ld hM 1 rfl rfl (Mv 1 rfl (Gv rfl (fun _ hF=>gives_indexAddrS (sz:=1) (i) hF rfl Tryz.underlying66 (by kernel_rfl) rfl rfl rfl hi _) (Gv rfl (fun _ hF=>gives_load1 hF rfl Tryz.underlying5 rfl rfl (hD.cell hM hc)) (Md 1 [2,3,4,7,8,9,10,11,12,13,14] rfl (Nx (Sq (Sq (Rg (Md 2 [2,3,4,7,8,9,10,11,12,13,14,52] rfl (Nx (C1 rfl (fun ht=> ?_) ?_))))))))))))))))))))))
  ·
   have hle32:c.toNat≤32:=by have:=of_decide_eq_true ht;omega
   rw [hdr] at hSk
   obtain ⟨⟨R2,hR2,hSk2⟩,_,_⟩:=hSk.next (by rintro rfl;exact absurd hle32 (by decide)) (by rintro rfl;exact absurd hle32 (by decide)) (by rintro rfl;exact absurd hle32 (by decide))
   refine Sq (Rg (Mv 1 rfl (Sm (((i+1:Nat):Int)) rfl (by omega) (Md 1 [2,3,4,7,8,9,10,11,12,13] rfl (Nx (Ex (Ot (Ob (Kp [2,3,4,7,8,9,10,11,12,13] rfl ?_)))))))));intro a hF
   exact ⟨i+1,⟨hF,hM,⟨R2,by rw [hdr1];exact hSk2,by omega⟩,by omega⟩,by omega⟩
  refine Sk (Nx (Sq (Sq ?_)))
  rcases (show ¬ 92<c.toNat∨(92<c.toNat∧c=123)∨(92<c.toNat∧c≠123) by rcases Nat.lt_or_ge 92 c.toNat with h | h;by_cases h1:c=123;exact .inr (.inl ⟨h,h1⟩);exact .inr (.inr ⟨h,h1⟩);exact .inl (by omega)) with h9 | ⟨h9,hx⟩ | ⟨h9,hx⟩
  ·
   refine Rg (Mv 1 rfl (Bf rfl (by omega) (Md 8 [2,3,4,7,8,9,10,11,12,13,64] rfl (Nx (Cf rfl (Sk (Nx (Ex (Op' rfl (Ot (Ob (Kp [2,3,4,7,8,9,10,11,12,13] rfl ?_))))))))))));intro a hF
   exact ⟨i,hF,hM,⟨R0,hSk,hR⟩,hi0i⟩
  ·
   refine Rg (Mv 1 rfl (Bt rfl (by omega) (Mv 3 rfl ?_)));intro a hF
   rw [bne_f (d:=123) (z:=123) rfl hx] at hF
   revert a;refine Md 5 [2,3,4,7,8,9,10,11,12,13,64] rfl (Nx (Cf rfl (Sk (Nx (Ex (Op' rfl (Ot (Ob (Kp [2,3,4,7,8,9,10,11,12,13] rfl ?_)))))))));intro a hF
   exact ⟨i,hF,hM,⟨R0,hSk,hR⟩,hi0i⟩
  rw [hdr] at hSk
  obtain ⟨⟨R2,hR2,hSk2⟩,n125,_⟩:=hSk.next (by rintro rfl;exact absurd h9 (by decide)) hx (by rintro rfl;exact absurd h9 (by decide))
  refine Rg (Mv 1 rfl (Bt rfl (by omega) (Mv 3 rfl ?_)));intro a hF
  rw [bne_t (d:=123) (z:=123) rfl hx] at hF
  revert a;refine Mv 4 rfl ?_;intro a hF
  rw [bne_t (d:=125) (z:=125) rfl n125] at hF
  revert a;refine Md 1 [2,3,4,7,8,9,10,11,12,13,64] rfl (Nx (Ct rfl (Sq (Rg (Mv 1 rfl (Sm (((i+1:Nat):Int)) rfl (by omega) (Md 1 [2,3,4,7,8,9,10,11,12,13] rfl (Nx (Ex (Ot (Ob (Kp [2,3,4,7,8,9,10,11,12,13] rfl ?_))))))))))));intro a hF
  exact ⟨i+1,⟨hF,hM,⟨R2,by rw [hdr1];exact hSk2,by omega⟩,by omega⟩,by omega⟩
 clear hF hM
 clear hSk hR
 obtain ⟨i,hF,hM,⟨R0,hSk,hR⟩,hi0i⟩:=h
 obtain ⟨c,r,hdr⟩:=hSk.cons
 have hi:i<D.length:=by have:=congrArg List.length hdr;simp only [List.length_drop,List.length_cons] at this;omega
 have hc:D[i]?=some c:=by have:=congrArg (fun l=>l[0]?) hdr;simpa using this
 have hdr1:D.drop (i+1)=r:=by rw [←List.drop_drop,hdr];rfl
 rw [hdr] at hSk
 revert a;refine Sq (Sq (Rg (Md 3 [2,3,4,7,8,9,10,11,12,13,69] rfl (Nx (C1 rfl (fun ht=>absurd (of_decide_eq_true ht) (by omega)) (Sk (Nx ?_)))))));intro a hF
 refine cutF (fun a w=>∃ (L1 K1:Nat) (lm1:Bool) (i1:Nat) (bs1:_),Fr 283 [(2,.slice (some ⟨g,ko,none⟩) ks.length kc),(3,.pointer (some ⟨b3,0,none⟩)),(4,.pointer (some ⟨b4,0,none⟩)),(7,.int .i64 (K1:Int)),(8,.int .i64 (L1:Int)),(9,.int .i64 (i1:Int)),(10,.int .i64 (D.length:Int)),(11,.int .i64 (ks.length:Int)),(12,.bool lm1),(13,.pointer (some ⟨b13,0,none⟩))] a∧Mem w0.heap.size w0 ((b13,127,bs1)::(b4,66,[.slice (some ⟨b,o,none⟩) D.length cp])::(b3,125,CFG)::[]) w∧bs1.length=64∧(∃ R',Js.Sk ks L1 K1 lm1 (D.drop (i1+1)) R'∧(i1+1)+R'=R)∧i1+1≤D.length∧L1≤i1+1∧K1≤L1∧i0≤i1) (fun a w h=> ?_) ?_
 ·
  clear hF hM
  clear hSk hR
  obtain ⟨L1,K1,lm1,i1,bs1,hF,hM,hbs1,hnx,hil1,hLi1,hKL1,hi01⟩:=h
  revert a;refine Rg (Mv 1 rfl (Sm (((i1+1:Nat):Int)) rfl (by omega) (Md 1 [2,3,4,7,8,9,10,11,12,13] rfl (Nb (Kp [2,3,4,7,8,9,10,11,12,13] rfl ?_)))));intro a hF
  exact ⟨(L1,K1,lm1,i1+1),⟨bs1,hF,hM,hbs1,hnx,hil1,hLi1,hKL1⟩,by simp only;omega⟩
 revert a;refine Sq ?_
 rcases (show c=34∨c=39∨c=123∨c=91∨(c≠34∧c≠39∧c≠123∧c≠91) by by_cases h1:c=34;exact .inl h1;by_cases h2:c=39;exact .inr (.inl h2);by_cases h3:c=123;exact .inr (.inr (.inl h3));by_cases h4:c=91;exact .inr (.inr (.inr (.inl h4)));exact .inr (.inr (.inr (.inr ⟨h1,h2,h3,h4⟩)))) with hc0 | hc0 | hc0 | hc0 | ⟨m1,m2,m3,m4⟩
 ·
  rw [hc0] at hSk
  obtain ⟨s,w2,d,r2,hz,hq,hw2,hdb,hcase⟩:=hSk.str
  rw [←hdr1] at hz
  have hC:Cls (D.drop (i+1)) s.length:=by rw [hz];exact Cls.of hq
  have hz2:D.drop (i+1+(s.length+1))=w2++d::r2:=by rw [←List.drop_drop,hz,show s.length+1=(s++ [34]).length by simp,show s++34::(w2++d::r2)=(s++ [34])++(w2++d::r2) by simp,List.drop_left]
  have hz3:D.drop (i+1+(s.length+1)+w2.length)=d::r2:=by rw [←List.drop_drop,hz2,List.drop_left]
  have hdp:D[i+1+(s.length+1)+w2.length]?=some d:=by have:=congrArg (fun l=>l[0]?) hz3;simpa using this
  have hz4:D.drop (i+1+(s.length+1)+w2.length+1)=r2:=by rw [←List.drop_drop,hz3];rfl
  have hlen3:=congrArg List.length hz3
  simp only [List.length_drop,List.length_cons] at hlen3
  have hfs:fst (fun c=> !blB c) (D.drop (i+1+(s.length+1)))=w2.length:=by rw [hz2];exact fst_bl hw2 hdb _
  have hseg:=hD.seg (i+1) hcp hz
  refine Rg (Ld hM 1 rfl rfl (Mv 1 rfl (Gv rfl (fun _ hF=>gives_indexAddrS (sz:=1) (i) hF rfl Tryz.underlying66 (by kernel_rfl) rfl rfl rfl hi _) (Gv rfl (fun _ hF=>gives_load1 hF rfl Tryz.underlying5 rfl rfl (hD.cell hM hc)) (Md 0 [2,3,4,7,8,9,10,11,12,13,73] rfl (Nx (Bo (Sq (Sq (Rg (Qt 34 rfl rfl hc0 (Md 1 [2,3,4,7,8,9,10,11,12,13,73,74] rfl (Nx (Ct rfl (Sk (Nx (Ct rfl (Sq (Rg (Ld hM 1 rfl rfl (Mv 1 rfl (Gv rfl (fun _ hF=>gives_indexAddrS (sz:=1) (i) hF rfl Tryz.underlying66 (by kernel_rfl) rfl rfl rfl hi _) (Gv rfl (fun _ hF=>gives_load1 hF rfl Tryz.underlying5 rfl rfl (hD.cell hM hc)) (Md 1 [2,3,4,7,8,9,10,11,12,13,15] rfl (Nx (Sq (Sq (Rg (Mv 1 rfl (Qf 39 rfl rfl (by rw [hc0];decide) (Md 5 [2,3,4,7,8,9,10,11,12,13,15,87] rfl (Nx (Cf rfl (Sk (Nx (Sq (Rg (Mv 1 rfl (Sm (((i+1:Nat):Int)) rfl (by omega) (Md 1 [2,3,4,7,8,9,10,11,12,13,15] rfl (Nx (Sq (Rg (Md 2 [2,3,4,7,8,9,10,11,12,13,15,16] rfl (Nx (Sq ?_))))))))))))))))))))))))))))))))))))))))))))));intro a hF
  refine mix (fun w=>Mem w0.heap.size w0 ((b13,127,bs)::(b4,66,[.slice (some ⟨b,o,none⟩) D.length cp])::(b3,125,CFG)::[]) w) 10 (by kernel_rfl) ?_
  replace hM:=hM.drew
  generalize World.drew w=w at*
  refine mtakeL 0 hF hM rfl (by kernel_rfl) (by kernel_rfl) (by kernel_rfl) (by kernel_rfl) (by kernel_rfl) (fun _ _ _ h=>h) rfl rfl (y_plain rfl (fun w hM=>gives_loadA hF hM 2 rfl Tryz.underlying125 rfl (by kernel_rfl) rfl rfl)) ?_;clear hF a;intro a hF
  refine mtakeL 1 hF hM rfl (by kernel_rfl) (by kernel_rfl) (by kernel_rfl) (by kernel_rfl) (by kernel_rfl) (fun _ _ _ h=>h) rfl rfl (y_plain rfl (fun w hM=>gives_load hF hM 1 rfl Tryz.underlying66 rfl rfl rfl rfl)) ?_;clear hF a;intro a hF
  refine mtakeP 2 hF (.inl hM) rfl (by kernel_rfl) (by kernel_rfl) (by kernel_rfl) rfl (fun _ _ _ h=>h) rfl rfl (y_plain rfl (fun w _=>gives_move hF rfl rfl _)) ?_;clear hF a;intro a hF
  refine mtakeP 3 hF (.inl hM) rfl (by kernel_rfl) (by kernel_rfl) (by kernel_rfl) rfl (fun _ _ _ h=>h) rfl rfl (y_plain rfl (fun w _=>gives_slFrom (i+1) hF rfl Tryz.underlying66 (by kernel_rfl) rfl rfl rfl (by omega) _)) ?_;clear hF a;intro a hF
  rw [←List.length_drop] at hF
  refine mtakeP 4 hF (.inl hM) rfl (by kernel_rfl) (by kernel_rfl) (by kernel_rfl) rfl (fun _ _ _ h=>h) rfl rfl (y_plain rfl (fun w _=>gives_move hF rfl rfl _)) ?_;clear hF a;intro a hF
  rw [hc0] at hF
  refine malone 5 rfl (by kernel_rfl) ?_
  revert a;refine Cm hM rfl rfl rfl (stringEnd_walk (D:=D.drop (i+1)) (cp:=cp - (i+1)) (by rw [List.length_drop];omega) (by rw [List.length_drop];omega) hC _ ((hD.below hM.below).so (i+1) hcp)) ?_
  clear hM;intro w v hR hM hBe
  obtain rfl:=hR
  intro a hF
  refine mstep (.inl (hM)) ?_
  refine malone 6 rfl (by kernel_rfl) ?_
  revert a;refine Mv 1 rfl ?_;intro a hF
  refine mstep (.inl (hM)) ?_
  refine mtakeP 7 hF (.inl hM) rfl (by kernel_rfl) (by kernel_rfl) (by kernel_rfl) rfl (fun _ _ _ h=>h) rfl rfl (y_plain rfl (fun w _=>gives_extract hF rfl rfl rfl _)) ?_;clear hF a;intro a hF
  refine mtakeP 8 hF (.inl hM) rfl (by kernel_rfl) (by kernel_rfl) (by kernel_rfl) rfl (fun _ _ _ h=>h) rfl rfl (y_plain rfl (fun w _=>gives_extract hF rfl rfl rfl _)) ?_;clear hF a;intro a hF
  refine malone 9 rfl (by kernel_rfl) ?_
  revert a;refine Mv 1 rfl ?_;intro a hF
  refine mstep (.inl (hM)) ?_
  refine malone 10 rfl (by kernel_rfl) ?_
  revert a;refine Mv 1 rfl ?_;intro a hF
  refine mstep (.inr (by kernel_rfl)) ?_
  refine mend (by kernel_rfl) ?_
  revert a;refine Kp [2,3,4,7,8,9,10,11,12,13,16,17,18] rfl (Nx (Sq (Sq (Rg (Md 2 [2,3,4,7,8,9,10,11,12,13,16,17,18,101] rfl (Nx (C1 rfl (fun ht=>absurd (eq_of_beq ht) (by omega)) (Sk (Nx (Sq (Rg (Mv 2 rfl (Sm (((i+1+(s.length+1):Nat):Int)) rfl (by omega) (Md 1 [2,3,4,7,8,9,10,11,12,13,16,18] rfl (Nx (Sq (Rg (Mv 1 rfl (Sm (((i+1+s.length:Nat):Int)) rfl (by omega) (Md 1 [2,3,4,7,8,9,10,11,12,13,16,18,19] rfl (Nx (Sq ?_))))))))))))))))))))));intro a hF
  refine mix (fun w=>Mem w0.heap.size w0 ((b13,127,bs)::(b4,66,[.slice (some ⟨b,o,none⟩) D.length cp])::(b3,125,CFG)::[]) w) 5 (by kernel_rfl) ?_
  replace hM:=hM.drew
  generalize World.drew w=w at*
  refine mtakeL 0 hF hM rfl (by kernel_rfl) (by kernel_rfl) (by kernel_rfl) (by kernel_rfl) (by kernel_rfl) (fun _ _ _ h=>h) rfl rfl (y_plain rfl (fun w hM=>gives_loadA hF hM 2 rfl Tryz.underlying125 rfl (by kernel_rfl) rfl rfl)) ?_;clear hF a;intro a hF
  refine mtakeL 1 hF hM rfl (by kernel_rfl) (by kernel_rfl) (by kernel_rfl) (by kernel_rfl) (by kernel_rfl) (fun _ _ _ h=>h) rfl rfl (y_plain rfl (fun w hM=>gives_load hF hM 1 rfl Tryz.underlying66 rfl rfl rfl rfl)) ?_;clear hF a;intro a hF
  refine mtakeP 2 hF (.inl hM) rfl (by kernel_rfl) (by kernel_rfl) (by kernel_rfl) rfl (fun _ _ _ h=>h) rfl rfl (y_plain rfl (fun w _=>gives_move hF rfl rfl _)) ?_;clear hF a;intro a hF
  refine mtakeP 3 hF (.inl hM) rfl (by kernel_rfl) (by kernel_rfl) (by kernel_rfl) rfl (fun _ _ _ h=>h) rfl rfl (y_plain rfl (fun w _=>gives_slFrom (i+1+(s.length+1)) hF rfl Tryz.underlying66 (by kernel_rfl) rfl rfl rfl (by omega) _)) ?_;clear hF a;intro a hF
  rw [←List.length_drop] at hF
  refine malone 4 rfl (by kernel_rfl) ?_
  revert a;refine Cm hM rfl rfl rfl (nextToken_walk (D:=D.drop (i+1+(s.length+1))) (cp:=cp - (i+1+(s.length+1))) (.agg CFG.toArray) (by decide) (by rw [List.length_drop];omega) _ ((hD.below hM.below).so (i+1+(s.length+1)) hcp)) ?_
  clear hM;intro w v hR hM hBe
  obtain rfl:=hR
  intro a hF
  rw [hfs,if_pos (show w2.length<(D.drop (i+1+(s.length+1))).length by rw [List.length_drop];omega)] at hF
  refine mstep (.inl (hM)) ?_
  refine malone 5 rfl (by kernel_rfl) ?_
  revert a;refine Mv 1 rfl ?_;intro a hF
  refine mstep (.inr (by kernel_rfl)) ?_
  refine mend (by kernel_rfl) ?_
  revert a;refine Kp [2,3,4,7,8,9,10,11,12,13,16,18,19,20] rfl (Nx (Sq (Sq (Rg (Md 2 [2,3,4,7,8,9,10,11,12,13,16,18,19,20,113] rfl (Nx (C1 rfl (fun ht=>absurd (eq_of_beq ht) (by omega)) (Sk (Nx (Sq (Rg (Mv 2 rfl (Sm (((i+1+(s.length+1)+w2.length:Nat):Int)) rfl (by omega) (Md 1 [2,3,4,7,8,9,10,11,12,13,16,18,19] rfl (Nx (Sq (Rg (Ld hM 1 rfl rfl (Mv 1 rfl (Gv rfl (fun _ hF=>gives_indexAddrS (sz:=1) (i+1+(s.length+1)+w2.length) hF rfl Tryz.underlying66 (by kernel_rfl) rfl rfl rfl (by omega) _) (Gv rfl (fun _ hF=>gives_load1 hF rfl Tryz.underlying5 rfl rfl (hD.cell hM hdp)) (Md 1 [2,3,4,7,8,9,10,11,12,13,16,18,19,121] rfl (Nx (Ce rfl (fun ht=> ?_) ((fun ht=> ?_))))))))))))))))))))))))))
  ·
   have hd58:=eq_f (d:=58) rfl ht
   obtain ⟨R2,hR2,hSk2⟩:∃ R',R0=R'+(s.length+2+w2.length)∧Js.Sk ks L K lm (d::r2) R':=by rcases hcase with ⟨_,h⟩ | ⟨h,_⟩;exact h;exact absurd h hd58
   have hnx:(∃ R',Js.Sk ks L K lm (D.drop (i+1+(s.length+1)+w2.length - 1+1)) R'∧(i+1+(s.length+1)+w2.length - 1+1)+R'=R):=⟨R2,by rw [show i+1+(s.length+1)+w2.length - 1+1=i+1+(s.length+1)+w2.length by omega,hz3];exact hSk2,by omega⟩
   have hMf:=hM
   have hbf:=hbs
   refine Rg (Mv 1 rfl (Sm (((i+1+(s.length+1)+w2.length - 1:Nat):Int)) rfl (by omega) (Md 1 [2,3,4,7,8,9,10,11,12,13] rfl (Nb (Kp [2,3,4,7,8,9,10,11,12,13] rfl ?_)))));intro a hF
   exact ⟨_,_,_,_,_,hF,hMf,hbf,hnx,by omega,by omega,by omega,by omega⟩
  have hd58:=eq_t (d:=58) rfl ht
  obtain ⟨_,hin,hLK,k,hk,hc3⟩:d=58∧Ins s∧L=K+1∧∃ k,ks[K]?=some k∧((unq s=k∧K+1=ks.length∧R0=s.length+2+w2.length+1)∨(unq s=k∧K+1<ks.length∧∃ R',R0=R'+(s.length+2+w2.length+1)∧Js.Sk ks (K+1) (K+1) true r2 R')∨(unq s≠k∧∃ R',R0=R'+(s.length+2+w2.length+1)∧Js.Sk ks (K+1) K false r2 R')):=by rcases hcase with ⟨h,_⟩ | h;exact absurd hd58 h;exact h
  have hKl:=(List.getElem?_eq_some_iff.1 hk).1
  refine Sq (Sq (Rg (Md 2 [2,3,4,7,8,9,10,11,13,16,18,19,123] rfl (Nx (C1 rfl (fun ht=>absurd (of_decide_eq_true ht) (by omega)) (Sk (Nx (Sq (Rg (Ld hM 1 rfl rfl (Mv 2 rfl (Gv rfl (fun _ hF=>gives_slFT (i+1) (i+1+s.length) hF rfl Tryz.underlying66 (by kernel_rfl) rfl rfl rfl rfl rfl (by omega) (by omega) _) ?_))))))))))));intro a hF
  rw [Nat.add_sub_cancel_left] at hF
  revert a;refine Md 1 [2,3,4,7,8,9,10,11,13,18,21] rfl (Nx (Sq (Rg ?_)));intro a hF
  refine op_alloc hF hM rfl (vs:=[.slice none 0 0]) rfl rfl rfl (by kernel_rfl) ?_;clear hF hM a;intro a w b22 hF hM
  revert a;refine Md 0 [2,3,4,7,8,9,10,11,13,18,21,22] rfl (Nx ?_);intro a hF
  refine cut (fun a w=>∃ v1 NN bs2,Fr 283 [(2,.slice (some ⟨g,ko,none⟩) ks.length kc),(3,.pointer (some ⟨b3,0,none⟩)),(4,.pointer (some ⟨b4,0,none⟩)),(7,.int .i64 (K:Int)),(8,.int .i64 (L:Int)),(9,.int .i64 ((i+1+(s.length+1)+w2.length:Nat):Int)),(10,.int .i64 (D.length:Int)),(11,.int .i64 (ks.length:Int)),(13,.pointer (some ⟨b13,0,none⟩)),(22,.pointer (some ⟨b22,0,none⟩))] a∧Mem w0.heap.size w0 ((b22,66,[v1])::(NN++(b13,127,bs2)::(b4,66,[.slice (some ⟨b,o,none⟩) D.length cp])::(b3,125,CFG)::[])) w∧bs2.length=64∧LyB w0 (NN++(b13,127,bs2)::(b4,66,[.slice (some ⟨b,o,none⟩) D.length cp])::(b3,125,CFG)::[]) v1 (unq s)) ?_ (fun a w h=> ?_)
  ·
   revert a;refine Sq (Rg (Md 2 [2,3,4,7,8,9,10,11,13,21,22,129] rfl (Nx (C1 rfl (fun ht=> ?_) ?_))))
   ·
    have hun:unq s=s:=esc_plain (r:=34::(w2++d::r2)) (by rw [←hz];simpa using ht)
    refine Rg (Mv 1 rfl (St hM 0 rfl ?_))
    clear hM;intro w hM
    refine Md 0 [2,3,4,7,8,9,10,11,13,22] rfl ?_;intro a hF
    exact ⟨_,[],bs,hF,hM,hbs,by rw [hun];exact .inl ⟨_,_,_,rfl,hseg⟩⟩
   refine Sq ?_;intro a hF
   refine mix (fun w=>∃ bs,bs.length=64∧Mem w0.heap.size w0 ((b22,66,[.slice none 0 0])::(b13,127,bs)::(b4,66,[.slice (some ⟨b,o,none⟩) D.length cp])::(b3,125,CFG)::[]) w) 8 (by kernel_rfl) ?_
   replace hM:=hM.drew
   replace hM:=Exists.intro (p:=fun bs=>bs.length=64∧Mem w0.heap.size w0 ((b22,66,[.slice none 0 0])::(b13,127,bs)::(b4,66,[.slice (some ⟨b,o,none⟩) D.length cp])::(b3,125,CFG)::[]) w.drew) bs ⟨hbs,hM⟩
   generalize World.drew w=w at*
   refine mtakeL 0 hF hM rfl (by kernel_rfl) (by kernel_rfl) (by kernel_rfl) (by kernel_rfl) (by kernel_rfl) (fun _ _ _ h=>h) rfl rfl (y_plain rfl (fun w hM=>(by obtain ⟨bs,_,hM⟩:=hM;exact gives_loadA hF hM 3 rfl Tryz.underlying125 rfl (by kernel_rfl) rfl rfl))) ?_;clear hF a;intro a hF
   refine mtakeP 1 hF (.inl hM) rfl (by kernel_rfl) (by kernel_rfl) (by kernel_rfl) rfl (fun _ _ _ h=>h) rfl rfl (y_plain rfl (fun w _=>gives_move hF rfl rfl _)) ?_;clear hF a;intro a hF
   refine mtakeP 2 hF (.inl hM) rfl (by kernel_rfl) (by kernel_rfl) (by kernel_rfl) rfl (fun _ _ _ h=>h) rfl rfl (y_plain rfl (fun w _=>gives_sliceAll hF rfl Tryz.underlying127 (by kernel_rfl) rfl _)) ?_;clear hF a;intro a hF
   refine malone 3 rfl (by kernel_rfl) ?_
   obtain ⟨bs',hbs',hM⟩:=hM
   replace hM:=hM.perm (L':=(b13,127,bs')::(b22,66,[.slice none 0 0])::(b4,66,[.slice (some ⟨b,o,none⟩) D.length cp])::(b3,125,CFG)::[]) (pc fun x=>by simp [ct,ct_append] <;> omega)
   revert a;refine Cl rfl rfl rfl (unescape_walk hJ hin (by omega) (by omega) hseg (by omega) (by omega) hM) ?_
   clear hM;intro w v hR
   obtain ⟨v1,NN,bs2,rfl,hM,hbs2,hLy⟩:=hR
   have hS2:∃ bs,bs.length=64∧Mem w0.heap.size w0 ((b22,66,[.slice none 0 0])::(b13,127,bs)::(b4,66,[.slice (some ⟨b,o,none⟩) D.length cp])::(b3,125,CFG)::[]) w:=⟨bs2,by omega,hM.sub NN (pc fun x=>by simp [ct,ct_append] <;> omega)⟩
   intro a hF
   refine mstep (.inl (hS2)) ?_
   refine malone 4 rfl (by kernel_rfl) ?_
   revert a;refine Mv 1 rfl ?_;intro a hF
   refine mstep (.inl (hS2)) ?_
   refine mtakeP 5 hF (.inl hS2) rfl (by kernel_rfl) (by kernel_rfl) (by kernel_rfl) rfl (fun _ _ _ h=>h) rfl rfl (y_plain rfl (fun w _=>gives_extract hF rfl rfl rfl _)) ?_;clear hF a;intro a hF
   refine mtakeP 6 hF (.inl hS2) rfl (by kernel_rfl) (by kernel_rfl) (by kernel_rfl) rfl (fun _ _ _ h=>h) rfl rfl (y_plain rfl (fun w _=>gives_extract hF rfl rfl rfl _)) ?_;clear hF a;intro a hF
   refine malone 7 rfl (by kernel_rfl) ?_
   revert a;refine Mv 1 rfl ?_;intro a hF
   refine mstep (.inl (hS2)) ?_
   refine malone 8 rfl (by kernel_rfl) ?_
   revert a;refine Mv 1 rfl ?_;intro a hF
   refine mstep (.inr (by kernel_rfl)) ?_
   refine mend (by kernel_rfl) ?_
   revert a;refine Kp [2,3,4,7,8,9,10,11,13,22,23,24] rfl (Nx (Sq (Rg (Mv 1 rfl ?_))));intro a hF
   refine op_neNil hF rfl rfl rfl rfl rfl ⟨_,Tryz.underlying63⟩ ?_;clear hF a;intro a hF
   revert a;refine Md 0 [2,3,4,7,8,9,10,11,13,22,23,139] rfl (Nx (Cf rfl (Rg (Mv 1 rfl ?_))))
   have hv1c:v1.oneCell'=true:=by rcases hLy with ⟨_,_,_,h,_⟩ | ⟨_,_,_,_,h,_⟩ <;> rw [h] <;> rfl
   replace hM:=hM.perm (L':=(b22,66,[.slice none 0 0])::(NN++(b13,127,bs2)::(b4,66,[.slice (some ⟨b,o,none⟩) D.length cp])::(b3,125,CFG)::[])) (pc fun x=>by simp [ct,ct_append] <;> omega)
   intro a hF
   refine op_store hF hM rfl 0 rfl rfl (by kernel_rfl) rfl rfl hv1c rfl (Nat.le_of_ble_eq_true rfl) ?_;clear hF hM a;intro a w hF hM
   revert a;refine Md 0 [2,3,4,7,8,9,10,11,13,22] rfl ?_;intro a hF
   exact ⟨v1,NN,bs2,hF,hM,by omega,hLy.mono (by intro z hz;simp at hz ⊢;rcases hz with h | h <;> simp [h])⟩
  clear hF hM
  obtain ⟨v1,NN,bs2,hF,hM,hbs2,hLy⟩:=h
  revert a;refine Sq (Rg (Md 4 [2,3,4,7,8,9,10,11,13,22,144] rfl (Nx (D2 rfl (fun ht=>absurd (of_decide_eq_false ht) (by omega)) (Sq (Rg (Mv 2 rfl (Sm (((K:Nat):Int)) rfl (by omega) (Gv rfl (fun _ hF=>gives_indexAddrS (sz:=1) (K) hF rfl Tryz.underlying22 (by kernel_rfl) rfl rfl rfl hKl _) (Gv rfl (fun _ hF=>gives_load1 hF rfl Tryz.underlying9 rfl rfl (hS.cell hM hk)) (Cl rfl rfl rfl (equalStr_walk (s:=k) hLy hM) ?_)))))))))))
  clear hM;intro w v hR
  obtain ⟨rfl,hM⟩:=hR
  have hMf:=hM.sub (L':=(b13,127,bs2)::(b4,66,[.slice (some ⟨b,o,none⟩) D.length cp])::(b3,125,CFG)::[]) ((b22,66,[v1])::NN) (pc fun x=>by simp [ct,ct_append] <;> omega)
  have hbf:=hbs2
  refine Md 0 [2,3,4,7,8,9,10,11,13,150] rfl (Nx (Ce rfl (fun ht=> ?_) ((fun ht=> ?_))))
  ·
   have hne:unq s≠k:=by simpa using ht
   obtain ⟨R2,hR2,hSk2⟩:∃ R',R0=R'+(s.length+2+w2.length+1)∧Js.Sk ks (K+1) K false r2 R':=by rcases hc3 with ⟨h,_⟩ | ⟨h,_⟩ | ⟨_,h⟩;exact absurd h hne;exact absurd h hne;exact h
   have hnx:(∃ R',Js.Sk ks L K false (D.drop (i+1+(s.length+1)+w2.length+1)) R'∧(i+1+(s.length+1)+w2.length+1)+R'=R):=⟨R2,by rw [hz4,hLK];exact hSk2,by omega⟩
   refine Rg (Md 1 [2,3,4,7,8,9,10,11,12,13] rfl (Nb (Kp [2,3,4,7,8,9,10,11,12,13] rfl ?_)));intro a hF
   exact ⟨_,_,_,_,_,hF,hMf,hbf,hnx,by omega,by omega,by omega,by omega⟩
  have heq:unq s=k:=by simpa using ht
  refine Sq (Rg (Md 1 [2,3,4,7,8,9,10,11,12,13] rfl (Nx (Sq (Rg (Mv 2 rfl (Sm (((K:Nat):Int)) rfl (by omega) (Md 1 [2,3,4,7,8,9,10,11,12,13,154] rfl (Nx (D2 rfl (fun ht=> ?_) ?_))))))))))
  ·
   intro a hF
   simp at ht
  refine Sq (Rg (Mv 1 rfl (Sm (((K+1:Nat):Int)) rfl (by omega) (Md 1 [2,3,4,7,8,9,10,11,12,13] rfl (Nx (Sq (Rg (Md 3 [2,3,4,7,8,9,10,11,12,13,159] rfl (Nx (Ce rfl (fun ht=> ?_) ((fun ht=> ?_))))))))))))
  ·
   have hkl:K+1≠ks.length:=by intro h;rw [←h] at ht;simp at ht
   obtain ⟨R2,hR2,hSk2⟩:∃ R',R0=R'+(s.length+2+w2.length+1)∧Js.Sk ks (K+1) (K+1) true r2 R':=by rcases hc3 with ⟨_,h,_⟩ | ⟨_,_,h⟩ | ⟨h,_⟩;exact absurd h hkl;exact h;exact absurd heq h
   have hnx:(∃ R',Js.Sk ks L (K+1) true (D.drop (i+1+(s.length+1)+w2.length+1)) R'∧(i+1+(s.length+1)+w2.length+1)+R'=R):=⟨R2,by rw [hz4,hLK];exact hSk2,by omega⟩
   refine Sk (Nb (Kp [2,3,4,7,8,9,10,11,12,13] rfl ?_));intro a hF
   exact ⟨_,_,_,_,_,hF,hMf,hbf,hnx,by omega,by omega,by omega,by omega⟩
  have hRR:i+1+(s.length+1)+w2.length+1=R:=by
    have hkl:K+1=ks.length:=by have:=eq_of_beq ht;omega
    rcases hc3 with ⟨_,_,h⟩ | ⟨_,h,_⟩ | ⟨h,_⟩
    · omega
    · omega
    · exact absurd heq h
  refine Sq (Rg (Mv 1 rfl (Sm (((i+1+(s.length+1)+w2.length+1:Nat):Int)) rfl (by omega) (Md 1 [6] rfl (Nx (Re (Rb (Rt (Rb (Rt (Rb (Rt ?_))))))))))));intro a hF
  exact ret1 hF rfl rfl ⟨_,rfl,by rw [hRR],hM.below⟩
 ·
  obtain ⟨⟨R2,hR2,hSk2⟩,n125,n58⟩:=hSk.next (by rw [hc0];decide) (by rw [hc0];decide) (by rw [hc0];decide)
  have hnx:(∃ R',Js.Sk ks L K lm (D.drop (i+1)) R'∧(i+1)+R'=R):=⟨R2,by rw [hdr1];exact hSk2,by omega⟩
  have hbf:=hbs
  refine Rg (Ld hM 1 rfl rfl (Mv 1 rfl (Gv rfl (fun _ hF=>gives_indexAddrS (sz:=1) (i) hF rfl Tryz.underlying66 (by kernel_rfl) rfl rfl rfl hi _) (Gv rfl (fun _ hF=>gives_load1 hF rfl Tryz.underlying5 rfl rfl (hD.cell hM hc)) (Md 0 [2,3,4,7,8,9,10,11,12,13,73] rfl (Nx (Bo (Sq (Sq (Rg (Qf 34 rfl rfl (by rw [hc0];decide) (Md 1 [2,3,4,7,8,9,10,11,12,13,73,74] rfl (Nx (Cf rfl (Rg (Qt 39 rfl rfl hc0 (Md 1 [2,3,4,7,8,9,10,11,12,13,73,74] rfl (Nx (Ct rfl (Sq (Rg (Ld hM 1 rfl rfl (Mv 1 rfl (Gv rfl (fun _ hF=>gives_indexAddrS (sz:=1) (i) hF rfl Tryz.underlying66 (by kernel_rfl) rfl rfl rfl hi _) (Gv rfl (fun _ hF=>gives_load1 hF rfl Tryz.underlying5 rfl rfl (hD.cell hM hc)) (Md 1 [2,3,4,7,8,9,10,11,12,13,15] rfl (Nx (Sq (Sq (Rg (Mv 1 rfl (Qt 39 rfl rfl hc0 (Mv 2 rfl (Ld hM 2 rfl rfl (Md 2 [2,3,4,7,8,9,10,11,12,13,15,87] rfl (Nx (Ce rfl (fun ht=> ?_) ((fun ht=> ?_)))))))))))))))))))))))))))))))))))))))
  · cases ht
  have hMf:=hM
  refine Ex (Ot (Ob (Kp [2,3,4,7,8,9,10,11,12,13] rfl ?_)));intro a hF
  exact ⟨_,_,_,_,_,hF,hMf,hbf,hnx,by omega,by omega,by omega,by omega⟩
 ·
  rw [hc0] at hSk
  refine Rg (Ld hM 1 rfl rfl (Mv 1 rfl (Gv rfl (fun _ hF=>gives_indexAddrS (sz:=1) (i) hF rfl Tryz.underlying66 (by kernel_rfl) rfl rfl rfl hi _) (Gv rfl (fun _ hF=>gives_load1 hF rfl Tryz.underlying5 rfl rfl (hD.cell hM hc)) (Md 0 [2,3,4,7,8,9,10,11,12,13,73] rfl (Nx (Bo (Sq (Sq (Rg (Qf 34 rfl rfl (by rw [hc0];decide) (Md 1 [2,3,4,7,8,9,10,11,12,13,73,74] rfl (Nx (Cf rfl (Rg (Qf 39 rfl rfl (by rw [hc0];decide) (Md 1 [2,3,4,7,8,9,10,11,12,13,73,74] rfl (Nx (Cf rfl (Sq (Rg (Qt 123 rfl rfl hc0 (Md 1 [2,3,4,7,8,9,10,11,12,13,73,164] rfl (Nx (Ct rfl (Sq ?_))))))))))))))))))))))))))
  rcases hSk.brace with ⟨hlm,R2,hR2,hSk2⟩ | ⟨hlm,kk,R2,hN,hR2,hSk2⟩
  ·
   subst hlm
   have hMf:=hM
   have hbf:=hbs
   have hnx:(∃ R',Js.Sk ks (L+1) K true (D.drop (i+1)) R'∧(i+1)+R'=R):=⟨R2,by rw [hdr1];exact hSk2,by omega⟩
   refine Rg (Md 2 [2,3,4,7,8,9,10,11,12,13,167] rfl (Nx (Cf rfl (Rg (Mv 1 rfl (Sm (((L+1:Nat):Int)) rfl (by omega) (Md 1 [2,3,4,7,8,9,10,11,12,13] rfl (Nb (Kp [2,3,4,7,8,9,10,11,12,13] rfl ?_)))))))));intro a hF
   exact ⟨_,_,_,_,_,hF,hMf,hbf,hnx,by omega,by omega,by omega,by omega⟩
  subst hlm
  have hbf:=hbs
  have hkp:=hN.pos
  have hkl:=hN.le
  have hdll:=congrArg List.length hdr
  intro a hF
  simp only [List.length_drop,List.length_cons] at hdll hkl
  have hnx:(∃ R',Js.Sk ks L K false (D.drop (i+(kk - 1)+1)) R'∧(i+(kk - 1)+1)+R'=R):=⟨R2,by rw [show i+(kk - 1)+1=i+kk by omega,←List.drop_drop,hdr,hc0];exact hSk2,by omega⟩
  revert a;refine Rg (Md 2 [2,3,4,7,8,9,10,11,12,13,167] rfl (Nx (Ct rfl (Sq ?_))));intro a hF
  refine mix (fun w=>Mem w0.heap.size w0 ((b13,127,bs)::(b4,66,[.slice (some ⟨b,o,none⟩) D.length cp])::(b3,125,CFG)::[]) w) 5 (by kernel_rfl) ?_
  replace hM:=hM.drew
  generalize World.drew w=w at*
  refine mtakeL 0 hF hM rfl (by kernel_rfl) (by kernel_rfl) (by kernel_rfl) (by kernel_rfl) (by kernel_rfl) (fun _ _ _ h=>h) rfl rfl (y_plain rfl (fun w hM=>gives_loadA hF hM 2 rfl Tryz.underlying125 rfl (by kernel_rfl) rfl rfl)) ?_;clear hF a;intro a hF
  refine mtakeL 1 hF hM rfl (by kernel_rfl) (by kernel_rfl) (by kernel_rfl) (by kernel_rfl) (by kernel_rfl) (fun _ _ _ h=>h) rfl rfl (y_plain rfl (fun w hM=>gives_load hF hM 1 rfl Tryz.underlying66 rfl rfl rfl rfl)) ?_;clear hF a;intro a hF
  refine mtakeP 2 hF (.inl hM) rfl (by kernel_rfl) (by kernel_rfl) (by kernel_rfl) rfl (fun _ _ _ h=>h) rfl rfl (y_plain rfl (fun w _=>gives_move hF rfl rfl _)) ?_;clear hF a;intro a hF
  refine mtakeP 3 hF (.inl hM) rfl (by kernel_rfl) (by kernel_rfl) (by kernel_rfl) rfl (fun _ _ _ h=>h) rfl rfl (y_plain rfl (fun w _=>gives_slFrom i hF rfl Tryz.underlying66 (by kernel_rfl) rfl rfl rfl (by omega) _)) ?_;clear hF a;intro a hF
  rw [←List.length_drop] at hF
  refine malone 4 rfl (by kernel_rfl) ?_
  revert a;refine Cm hM rfl rfl rfl (blockEnd_walk (x:=123) (y:=125) (E:=kk) (D:=D.drop i) (cp:=cp - i) (.inr ⟨rfl,rfl⟩) (by rw [hdr,hc0];exact hN) (by rw [List.length_drop];omega) (by rw [List.length_drop];omega) _ ((hD.below hM.below).so i hcp)) ?_
  clear hM;intro w v hR hM hBe
  obtain rfl:=hR
  intro a hF
  refine mstep (.inl (hM)) ?_
  refine malone 5 rfl (by kernel_rfl) ?_
  revert a;refine Mv 1 rfl ?_;intro a hF
  refine mstep (.inr (by kernel_rfl)) ?_
  refine mend (by kernel_rfl) ?_
  revert a;refine Kp [2,3,4,7,8,9,10,11,12,13,25] rfl (Nx (Sq (Sq (Rg (Md 2 [2,3,4,7,8,9,10,11,12,13,25,174] rfl (Nx (Cd rfl (fun ht=>absurd (eq_of_beq ht) (by omega)) ((fun ht=> ?_)))))))))
  have hMf:=hM
  refine Sk (Nx (Rg (Mv 2 rfl (Sm (((kk - 1:Nat):Int)) rfl (by omega) (Sm (((i+(kk - 1):Nat):Int)) rfl (by omega) (Md 1 [2,3,4,7,8,9,10,11,12,13] rfl (Nb (Kp [2,3,4,7,8,9,10,11,12,13] rfl ?_))))))));intro a hF
  exact ⟨_,_,_,_,_,hF,hMf,hbf,hnx,by omega,by omega,by omega,by omega⟩
 ·
  rw [hc0] at hSk
  refine Rg (Ld hM 1 rfl rfl (Mv 1 rfl (Gv rfl (fun _ hF=>gives_indexAddrS (sz:=1) (i) hF rfl Tryz.underlying66 (by kernel_rfl) rfl rfl rfl hi _) (Gv rfl (fun _ hF=>gives_load1 hF rfl Tryz.underlying5 rfl rfl (hD.cell hM hc)) (Md 0 [2,3,4,7,8,9,10,11,12,13,73] rfl (Nx (Bo (Sq (Sq (Rg (Qf 34 rfl rfl (by rw [hc0];decide) (Md 1 [2,3,4,7,8,9,10,11,12,13,73,74] rfl (Nx (Cf rfl (Rg (Qf 39 rfl rfl (by rw [hc0];decide) (Md 1 [2,3,4,7,8,9,10,11,12,13,73,74] rfl (Nx (Cf rfl (Sq (Rg (Qf 123 rfl rfl (by rw [hc0];decide) (Md 1 [2,3,4,7,8,9,10,11,12,13,73,164] rfl (Nx (Cf rfl (Sq (Rg (Qf 125 rfl rfl (by rw [hc0];decide) (Md 1 [2,3,4,7,8,9,10,11,12,13,73,181] rfl (Nx (Cf rfl (Sq (Rg (Qt 91 rfl rfl hc0 (Md 1 [2,3,4,7,8,9,10,11,12,13,73,190] rfl (Nx (Ct rfl (Sq ?_))))))))))))))))))))))))))))))))))))))
  rcases hSk.brack with ⟨hKl,kk,R2,hN,hR2,hSk2⟩ | ⟨hKLe,ds,items,o1,v1,n1,hk,hdx,hd8,hEl,hit,hfin⟩
  ·
   have hbf:=hbs
   have hkp:=hN.pos
   have hkl:=hN.le
   have hdll:=congrArg List.length hdr
   intro a hF
   simp only [List.length_drop,List.length_cons] at hdll hkl
   have hnx:(∃ R',Js.Sk ks L K lm (D.drop (i+(kk - 1)+1)) R'∧(i+(kk - 1)+1)+R'=R):=⟨R2,by rw [show i+(kk - 1)+1=i+kk by omega,←List.drop_drop,hdr,hc0];exact hSk2,by omega⟩
   revert a;refine Rg (Mv 3 rfl ?_);intro a hF
   rw [show ((K:Int)==(L:Int))=false by simp;omega] at hF
   revert a;refine Md 16 [2,3,4,7,8,9,10,11,12,13,210] rfl (Nx (Cf rfl (Sq ?_)));intro a hF
   refine mix (fun w=>Mem w0.heap.size w0 ((b13,127,bs)::(b4,66,[.slice (some ⟨b,o,none⟩) D.length cp])::(b3,125,CFG)::[]) w) 5 (by kernel_rfl) ?_
   replace hM:=hM.drew
   generalize World.drew w=w at*
   refine mtakeL 0 hF hM rfl (by kernel_rfl) (by kernel_rfl) (by kernel_rfl) (by kernel_rfl) (by kernel_rfl) (fun _ _ _ h=>h) rfl rfl (y_plain rfl (fun w hM=>gives_loadA hF hM 2 rfl Tryz.underlying125 rfl (by kernel_rfl) rfl rfl)) ?_;clear hF a;intro a hF
   refine mtakeL 1 hF hM rfl (by kernel_rfl) (by kernel_rfl) (by kernel_rfl) (by kernel_rfl) (by kernel_rfl) (fun _ _ _ h=>h) rfl rfl (y_plain rfl (fun w hM=>gives_load hF hM 1 rfl Tryz.underlying66 rfl rfl rfl rfl)) ?_;clear hF a;intro a hF
   refine mtakeP 2 hF (.inl hM) rfl (by kernel_rfl) (by kernel_rfl) (by kernel_rfl) rfl (fun _ _ _ h=>h) rfl rfl (y_plain rfl (fun w _=>gives_move hF rfl rfl _)) ?_;clear hF a;intro a hF
   refine mtakeP 3 hF (.inl hM) rfl (by kernel_rfl) (by kernel_rfl) (by kernel_rfl) rfl (fun _ _ _ h=>h) rfl rfl (y_plain rfl (fun w _=>gives_slFrom i hF rfl Tryz.underlying66 (by kernel_rfl) rfl rfl rfl (by omega) _)) ?_;clear hF a;intro a hF
   rw [←List.length_drop] at hF
   refine malone 4 rfl (by kernel_rfl) ?_
   revert a;refine Cm hM rfl rfl rfl (blockEnd_walk (x:=91) (y:=93) (E:=kk) (D:=D.drop i) (cp:=cp - i) (.inl ⟨rfl,rfl⟩) (by rw [hdr,hc0];exact hN) (by rw [List.length_drop];omega) (by rw [List.length_drop];omega) _ ((hD.below hM.below).so i hcp)) ?_
   clear hM;intro w v hR hM hBe
   obtain rfl:=hR
   intro a hF
   refine mstep (.inl (hM)) ?_
   refine malone 5 rfl (by kernel_rfl) ?_
   revert a;refine Mv 1 rfl ?_;intro a hF
   refine mstep (.inr (by kernel_rfl)) ?_
   refine mend (by kernel_rfl) ?_
   revert a;refine Kp [2,3,4,7,8,9,10,11,12,13,34] rfl (Nx (Sq (Rg (Md 2 [2,3,4,7,8,9,10,11,12,13,34,274] rfl (Nx (Cd rfl (fun ht=>absurd (eq_of_beq ht) (by omega)) ((fun ht=> ?_))))))))
   have hMf:=hM
   refine Rg (Mv 2 rfl (Sm (((kk - 1:Nat):Int)) rfl (by omega) (Sm (((i+(kk - 1):Nat):Int)) rfl (by omega) (Md 1 [2,3,4,7,8,9,10,11,12,13] rfl (Nb (Kp [2,3,4,7,8,9,10,11,12,13] rfl ?_))))));intro a hF
   exact ⟨_,_,_,_,_,hF,hMf,hbf,hnx,by omega,by omega,by omega,by omega⟩
  have hLl:=(List.getElem?_eq_some_iff.1 hk).1
  obtain ⟨hd0,hdg⟩:=idx_ds hdx
  have hdl0:=List.length_pos_iff.2 hd0
  have hkel:(91::(ds++ [93]):Str).length=ds.length+2:=by simp
  have hk93:(91::(ds++ [93]):Str)[ds.length+1]?=some 93:=by simp
  have hkds:List.take (ds.length+1 - 1) (List.drop 1 (91::(ds++ [93]):Str))=ds:=by simp
  obtain ⟨rv,hvd,hvl,_⟩:=hEl.at_ hit
  have hdll:=congrArg List.length hdr
  simp only [List.length_drop,List.length_cons] at hdll
  obtain ⟨R2,hrec,hRR⟩:∃ R2,((ks.drop (L+1)=[]∧R2=0)∨(ks.drop (L+1)≠ []∧Js.Sk (ks.drop (L+1)) 0 0 true v1 R2))∧i+(1+o1)+R2=R:=by
    rcases hfin with ⟨h1,h2⟩ | ⟨h1,R',h2,h3⟩
    · exact ⟨0,.inl ⟨List.drop_of_length_le (by omega),rfl⟩,by omega⟩
    · exact ⟨R',.inr ⟨by intro h;have:=congrArg List.length h;simp at this;omega,h3⟩,by omega⟩
  have hR2l:R2≤v1.length:=by rcases hrec with ⟨_,h⟩ | ⟨_,h⟩;omega;exact h.le
  refine Rg (Mv 3 rfl ?_);intro a hF
  rw [show ((K:Int)==(L:Int))=true by simp [hKLe]] at hF
  revert a;refine Mv 3 rfl (Gv rfl (fun _ hF=>gives_indexAddrS (sz:=1) (L) hF rfl Tryz.underlying22 (by kernel_rfl) rfl rfl rfl hLl _) (Gv rfl (fun _ hF=>gives_load1 hF rfl Tryz.underlying9 rfl rfl (hS.cell hM hk)) (Mv 1 rfl (Bt rfl (by omega) (Mv 4 rfl (Gv rfl (fun _ hF=>gives_indexAddrS (sz:=1) (L) hF rfl Tryz.underlying22 (by kernel_rfl) rfl rfl rfl hLl _) (Gv rfl (fun _ hF=>gives_load1 hF rfl Tryz.underlying9 rfl rfl (hS.cell hM hk)) (Ix (0) 91 rfl rfl (by omega) (Md 2 [2,3,4,7,8,9,10,11,12,13,210] rfl (Nx (Ct rfl (Sq (Rg (Mv 2 rfl (Gv rfl (fun _ hF=>gives_indexAddrS (sz:=1) (L) hF rfl Tryz.underlying22 (by kernel_rfl) rfl rfl rfl hLl _) (Gv rfl (fun _ hF=>gives_load1 hF rfl Tryz.underlying9 rfl rfl (hS.cell hM hk)) (Md 2 [2,3,4,8,9,26] rfl (Nx (Sq (Sq (Rg (Mv 2 rfl (Gv rfl (fun _ hF=>gives_indexAddrS (sz:=1) (L) hF rfl Tryz.underlying22 (by kernel_rfl) rfl rfl rfl hLl _) (Gv rfl (fun _ hF=>gives_load1 hF rfl Tryz.underlying9 rfl rfl (hS.cell hM hk)) (Mv 1 rfl (Bf rfl (by omega) (Mv 3 rfl (Gv rfl (fun _ hF=>gives_indexAddrS (sz:=1) (L) hF rfl Tryz.underlying22 (by kernel_rfl) rfl rfl rfl hLl _) (Gv rfl (fun _ hF=>gives_load1 hF rfl Tryz.underlying9 rfl rfl (hS.cell hM hk)) (Mv 1 rfl (Sm (((ds.length+1:Nat):Int)) rfl (by omega) (Ix (ds.length+1) 93 rfl hk93 (by omega) (Md 2 [2,3,4,8,9,26,231] rfl (Nx (Cf rfl (Sk (Nx (Sq (Rg (Mv 2 rfl (Gv rfl (fun _ hF=>gives_indexAddrS (sz:=1) (L) hF rfl Tryz.underlying22 (by kernel_rfl) rfl rfl rfl hLl _) (Gv rfl (fun _ hF=>gives_load1 hF rfl Tryz.underlying9 rfl rfl (hS.cell hM hk)) (Mv 1 rfl (Sm (((ds.length+1:Nat):Int)) rfl (by omega) ?_))))))))))))))))))))))))))))))))))))))))))));intro a hF
  refine op_slice_str hF rfl 1 (ds.length+1) rfl rfl rfl Tryz.underlying9 rfl rfl rfl rfl rfl (by omega) (by omega) ?_;clear hF a;intro a hF
  rw [hkds] at hF
  revert a;refine Cm hM rfl rfl rfl (atoi_walk ds hdg hd0 hd8 _) ?_
  clear hM;intro w v hR hM hBe
  obtain rfl:=hR
  refine Mv 3 rfl ?_;intro a hF
  refine op_alloc hF hM rfl (vs:=[.int .i64 0]) rfl rfl rfl (by kernel_rfl) ?_;clear hF hM a;intro a w b27 hF hM
  revert a;refine St hM 0 rfl ?_
  clear hM;intro w hM
  refine Md 1 [2,3,4,8,9,27,28] rfl (Nx (Sq (Sq (Rg (Mv 1 rfl ?_)))));intro a hF
  refine op_neNil hF rfl rfl rfl rfl rfl ⟨_,Tryz.underlying63⟩ ?_;clear hF a;intro a hF
  revert a;refine Md 0 [2,3,4,8,9,27,244] rfl (Nx (Cf rfl (Sk (Nx (Sq (Rg ?_))))));intro a hF
  refine op_alloc hF hM rfl (vs:=[.int .i64 0]) rfl rfl rfl (by kernel_rfl) ?_;clear hF hM a;intro a w b29 hF hM
  revert a;refine Md 0 [2,3,4,8,9,27,29] rfl (Nx (Sq (Rg ?_)));intro a hF
  refine op_alloc hF hM rfl (vs:=[.slice none 0 0]) rfl rfl rfl (by kernel_rfl) ?_;clear hF hM a;intro a w b30 hF hM
  revert a;refine Md 0 [2,3,4,8,9,27,29,30] rfl (Nx (Sq (Rg ?_)));intro a hF
  refine op_alloc hF hM rfl (vs:=[.int .i64 0]) rfl rfl rfl (by kernel_rfl) ?_;clear hF hM a;intro a w b31 hF hM
  revert a;refine Md 0 [2,3,4,8,9,27,29,30,31] rfl (Nx (Sq (Rg (Mv 1 rfl ?_))));intro a hF
  refine op_alloc hF hM rfl (vs:=[.int .i64 0]) rfl rfl rfl (by kernel_rfl) ?_;clear hF hM a;intro a w b32 hF hM
  revert a;refine St hM 0 rfl ?_
  clear hM;intro w hM
  refine Md 0 [2,3,4,8,9,27,29,30,31,32] rfl (Nx (Sq ?_))
  replace hM:=hM.perm (L':=(b29,3,[.int .i64 0])::(b27,3,[.int .i64 ((worth ds:Nat):Int)])::(b30,66,[.slice none 0 0])::(b31,3,[.int .i64 0])::(b4,66,[.slice (some ⟨b,o,none⟩) D.length cp])::(b32,3,[.int .i64 (i:Int)])::(b13,127,bs)::(b3,125,CFG)::[]) (pc fun x=>by simp [ct,ct_append] <;> omega)
  intro a hF
  refine mix (fun w=>Mem w0.heap.size w0 ((b29,3,[.int .i64 0])::(b27,3,[.int .i64 ((worth ds:Nat):Int)])::(b30,66,[.slice none 0 0])::(b31,3,[.int .i64 0])::(b4,66,[.slice (some ⟨b,o,none⟩) D.length cp])::(b32,3,[.int .i64 (i:Int)])::(b13,127,bs)::(b3,125,CFG)::[]) w) 5 (by kernel_rfl) ?_
  replace hM:=hM.drew
  generalize World.drew w=w at*
  refine mtakeL 0 hF hM rfl (by kernel_rfl) (by kernel_rfl) (by kernel_rfl) (by kernel_rfl) (by kernel_rfl) (fun _ _ _ h=>h) rfl rfl (y_plain rfl (fun w hM=>gives_loadA hF hM 7 rfl Tryz.underlying125 rfl (by kernel_rfl) rfl rfl)) ?_;clear hF a;intro a hF
  refine mtakeL 1 hF hM rfl (by kernel_rfl) (by kernel_rfl) (by kernel_rfl) (by kernel_rfl) (by kernel_rfl) (fun _ _ _ h=>h) rfl rfl (y_plain rfl (fun w hM=>gives_load hF hM 4 rfl Tryz.underlying66 rfl rfl rfl rfl)) ?_;clear hF a;intro a hF
  refine mtakeP 2 hF (.inl hM) rfl (by kernel_rfl) (by kernel_rfl) (by kernel_rfl) rfl (fun _ _ _ h=>h) rfl rfl (y_plain rfl (fun w _=>gives_move hF rfl rfl _)) ?_;clear hF a;intro a hF
  refine mtakeP 3 hF (.inl hM) rfl (by kernel_rfl) (by kernel_rfl) (by kernel_rfl) rfl (fun _ _ _ h=>h) rfl rfl (y_plain rfl (fun w _=>gives_slFrom i hF rfl Tryz.underlying66 (by kernel_rfl) rfl rfl rfl (by omega) _)) ?_;clear hF a;intro a hF
  rw [←List.length_drop] at hF
  refine mtakeP 4 hF (.inl hM) rfl (by kernel_rfl) (by kernel_rfl) (by kernel_rfl) rfl (fun _ _ _ h=>h) rfl rfl (y_plain rfl (fun w _=>gives_makeFunc hF rfl rfl _)) ?_;clear hF a;intro a hF
  refine malone 5 rfl (by kernel_rfl) ?_
  revert a;refine Cl rfl rfl rfl (arrayEach_walk (cap:=[.pointer (some ⟨b29,0,none⟩),.pointer (some ⟨b27,0,none⟩),.pointer (some ⟨b30,0,none⟩),.pointer (some ⟨b31,0,none⟩),.pointer (some ⟨b4,0,none⟩),.pointer (some ⟨b32,0,none⟩)]) (DD:=D.drop i) (u:=r) (items:=items) (m:=worth ds) (ci:=i) rfl (by omega) hcp rfl (by omega) (by rw [hdr,hc0]) hEl hD (hD.so i hcp) (by rw [List.length_drop];omega) hM) ?_
  clear hM;intro w v hR
  obtain ⟨vf,vo,jj,hM,hvf,hfnd⟩:=hR
  obtain ⟨a2,c2,rfl,hvc,hDv,rfl⟩:=hfnd o1 v1 n1 hit
  intro a hF
  refine mstep (.inr (by kernel_rfl)) ?_
  refine mend (by kernel_rfl) ?_
  revert a;refine Kp [2,3,8,9,30,31] rfl (Nx (Sq (Rg (Ld hM 2 rfl rfl (Gv rfl (fun _ hF=>gives_eqNilSl hF rfl rfl Tryz.underlying66 _) (Md 0 [2,3,8,9,30,31,253] rfl (Nx (Cf rfl (Sq ?_)))))))));intro a hF
  refine mix (fun w=>Mem w0.heap.size w0 ((b29,3,[.int .i64 (jj:Int)])::(b27,3,[.int .i64 ((worth ds:Nat):Int)])::(b30,66,[.slice (some ⟨b,a2,none⟩) v1.length c2])::(b31,3,[.int .i64 ((1+o1:Nat):Int)])::(b4,66,[.slice (some ⟨b,o,none⟩) D.length cp])::(b32,3,[.int .i64 (i:Int)])::(b13,127,bs)::(b3,125,CFG)::[]) w) 7 (by kernel_rfl) ?_
  replace hM:=hM.drew
  generalize World.drew w=w at*
  refine mtakeL 0 hF hM rfl (by kernel_rfl) (by kernel_rfl) (by kernel_rfl) (by kernel_rfl) (by kernel_rfl) (fun _ _ _ h=>h) rfl rfl (y_plain rfl (fun w hM=>gives_loadA hF hM 7 rfl Tryz.underlying125 rfl (by kernel_rfl) rfl rfl)) ?_;clear hF a;intro a hF
  refine mtakeL 1 hF hM rfl (by kernel_rfl) (by kernel_rfl) (by kernel_rfl) (by kernel_rfl) (by kernel_rfl) (fun _ _ _ h=>h) rfl rfl (y_plain rfl (fun w hM=>gives_load hF hM 2 rfl Tryz.underlying66 rfl rfl rfl rfl)) ?_;clear hF a;intro a hF
  refine mtakeP 2 hF (.inl hM) rfl (by kernel_rfl) (by kernel_rfl) (by kernel_rfl) rfl (fun _ _ _ h=>h) rfl rfl (y_plain rfl (fun w _=>gives_move hF rfl rfl _)) ?_;clear hF a;intro a hF
  refine mtakeP 3 hF (.inl hM) rfl (by kernel_rfl) (by kernel_rfl) (by kernel_rfl) rfl (fun _ _ _ h=>h) rfl rfl (y_plain rfl (fun w _=>gives_move hF rfl rfl _)) ?_;clear hF a;intro a hF
  refine mtakeP 4 hF (.inl hM) rfl (by kernel_rfl) (by kernel_rfl) (by kernel_rfl) rfl (fun _ _ _ h=>h) rfl rfl (y_plain rfl (fun w _=>gives_sum hF rfl rfl rfl (((L+1:Nat):Int)) rfl (by omega) (wrap_i64 (by omega) (by omega)) _)) ?_;clear hF a;intro a hF
  refine mtakeP 5 hF (.inl hM) rfl (by kernel_rfl) (by kernel_rfl) (by kernel_rfl) rfl (fun _ _ _ h=>h) rfl rfl (y_plain rfl (fun w _=>gives_slFrom (L+1) hF rfl Tryz.underlying22 (by kernel_rfl) rfl rfl rfl (by omega) _)) ?_;clear hF a;intro a hF
  rw [←List.length_drop] at hF
  refine malone 6 rfl (by kernel_rfl) ?_
  revert a;refine Cm hM rfl rfl rfl (ih (ks.drop (L+1)) (by rw [List.length_drop];omega) (hJ.mem hM) hrec (by omega) hvc (hDv.below hM.below) ((hS.below hM.below).so (L+1) hkc) (by rw [List.length_drop];omega) (by rw [List.length_drop];omega)) ?_
  clear hM;intro w v hR hM hBe
  obtain rfl:=hR
  intro a hF
  refine mstep (.inl (hM)) ?_
  refine malone 7 rfl (by kernel_rfl) ?_
  revert a;refine Mv 1 rfl ?_;intro a hF
  refine mstep (.inr (by kernel_rfl)) ?_
  refine mend (by kernel_rfl) ?_
  revert a;refine Kp [9,31,33] rfl (Nx (Sq (Sq (Rg (Md 2 [9,31,33,262] rfl (Nx (C1 rfl (fun ht=>absurd (of_decide_eq_true ht) (by omega)) (Sk (Nx (Sq (Rg (Mv 1 rfl (Ld hM 3 rfl rfl (Sm (((i+(1+o1):Nat):Int)) rfl (by omega) (Mv 1 rfl (Sm ((R:Int)) rfl (by omega) (Md 1 [6] rfl (Nx (Re (Rb (Rt (Rb (Rt (Rb (Rt ?_)))))))))))))))))))))))));intro a hF
  exact ret1 hF rfl rfl ⟨_,rfl,rfl,hM.below⟩
 obtain ⟨⟨R2,hR2,hSk2⟩,n125,n58⟩:=hSk.next m1 m3 m4
 have hnx:(∃ R',Js.Sk ks L K lm (D.drop (i+1)) R'∧(i+1)+R'=R):=⟨R2,by rw [hdr1];exact hSk2,by omega⟩
 have hbf:=hbs
 refine Rg (Ld hM 1 rfl rfl (Mv 1 rfl (Gv rfl (fun _ hF=>gives_indexAddrS (sz:=1) (i) hF rfl Tryz.underlying66 (by kernel_rfl) rfl rfl rfl hi _) (Gv rfl (fun _ hF=>gives_load1 hF rfl Tryz.underlying5 rfl rfl (hD.cell hM hc)) (Md 0 [2,3,4,7,8,9,10,11,12,13,73] rfl (Nx (Bo (Sq (Sq (Rg (Qf 34 rfl rfl m1 (Md 1 [2,3,4,7,8,9,10,11,12,13,73,74] rfl (Nx (Cf rfl (Rg (Qf 39 rfl rfl m2 (Md 1 [2,3,4,7,8,9,10,11,12,13,73,74] rfl (Nx (Cf rfl (Sq (Rg (Qf 123 rfl rfl m3 (Md 1 [2,3,4,7,8,9,10,11,12,13,73,164] rfl (Nx (Cf rfl (Sq (Rg (Qf 125 rfl rfl n125 (Md 1 [2,3,4,7,8,9,10,11,12,13,73,181] rfl (Nx (Cf rfl (Sq (Rg (Qf 91 rfl rfl m4 (Md 1 [2,3,4,7,8,9,10,11,12,13,73,190] rfl (Nx (Cf rfl (Sq (Rg (Qf 58 rfl rfl n58 (Md 1 [2,3,4,7,8,9,10,11,12,13,279] rfl (Nx (Cd rfl (fun ht=> ?_) ((fun ht=> ?_)))))))))))))))))))))))))))))))))))))))))))))
 · cases ht
 have hMf:=hM
 refine Sk (Nb (Kp [2,3,4,7,8,9,10,11,12,13] rfl ?_));intro a hF
 exact ⟨_,_,_,_,_,hF,hMf,hbf,hnx,by omega,by omega,by omega,by omega⟩
theorem search_all (ea:Nat→Addr):∀ (n:Nat) (ks:List Str),ks.length=n→SEARCH ea ks:=by
  intro n
  induction n using Nat.strongRecOn with
  | _ n ih=>intro ks hk;exact search_step ea ks (fun ks' h=>ih ks'.length (by omega) ks' rfl)
theorem leaf_call {ea:Nat→Addr}{b o cp kc:Nat}{ad:Option Addr}{D x:Str}{n:Nd}{ks:List Str}{w0:World}(hJ:JB ea w0.heap.size w0) (hL:Leaf D ks x n) (hl:D.length≤2^38) (hcp:D.length≤cp) (hD:Bts w0 b o D) (hk:Kys w0 ad kc ks):
    ∃ S wb r,D.drop S=wb++(x++r)∧S≤D.length∧Bl wb∧Fol r∧((ks.length=0∧S=0)∨(0<ks.length∧∀ w,Below w0.heap.size w0 w→w0.heap.size≤w.heap.size→Calls Tryz.prog 125 #[.agg CFG.toArray,.slice (some ⟨b,o,none⟩) D.length cp,.slice ad ks.length kc] w (Ret fun v w'=>v= .int .i64 (S:Int)∧Below w.heap.size w w'))):=by
  obtain ⟨hk1,hk2,hk3⟩:=hk
  rcases Classical.em (ks=[]) with h | h
  · obtain ⟨w,y,h1,h2,h3,h4⟩:=hL.here h
    exact ⟨0,w,y,h2,h1,h3,h4,.inl ⟨by rw [h];rfl,rfl⟩⟩
  · obtain ⟨R,hS,w,y,h1,h2,h3,h4⟩:=hL.far h
    rcases hk3 with h5 | ⟨g,ko,rfl,hSt⟩
    · exact absurd h5 h
    refine ⟨R,w,y,h2,h1,h3,h4,.inr ⟨List.length_pos_iff.2 h,fun w hb hs=> ?_⟩⟩
    exact search_all ea _ ks rfl (hJ.below hb) (.inr ⟨h,hS⟩) hl hcp (hD.below hb) (hSt.below hb) hk1 hk2
theorem iget_walk {ea:Nat→Addr}{b o cp kc:Nat}{ad:Option Addr}{D x:Str}{n:Nd}{ks:List Str}(w0:World) (hJ:JB ea w0.heap.size w0) (hL:Leaf D ks x n) (hl:D.length≤2^38) (hcp:D.length≤cp) (hD:Bts w0 b o D) (hk:Kys w0 ad kc ks):
    Calls Tryz.prog 60 #[.slice (some ⟨b,o,none⟩) D.length cp,.slice ad ks.length kc] w0 (Ret fun v w'=>(∃ (a' s e:Nat),v= .tuple #[.slice (some ⟨b,a',none⟩) (rawx n x).length (rawx n x).length,.int .i64 ((jk (knd n):Nat):Int),.int .i64 (s:Int),.int .i64 (e:Int),.nilIface]∧Bts w0 b a' (rawx n x))∧Below w0.heap.size w0 w'):=by
 have hM:=MS0 w0
 obtain ⟨S,wb,r,he,hSl,hwb,hr,hcl⟩:=leaf_call hJ hL hl hcp hD hk
 refine enter (l:=[.slice (some ⟨b,o,none⟩) D.length cp,.slice ad ks.length kc]) 16 Tryz.func60 rfl rfl (Sq (Rg (Md 5 [0,1] rfl (Nx (Sq (Rg (Gv rfl (fun _ hF=>gives_loadMid hF rfl rfl Tryz.underlying125 rfl (by kernel_rfl) (hJ.mem hM).cfg) (Mv 2 rfl (Cm hM rfl rfl rfl (getConfig_walk he hSl hwb hL.shows hr (by omega) hcp _ (hD.below hM.below) (by rcases hcl with h | ⟨h,h2⟩;exact .inl h;exact .inr ⟨h,fun w' hb hs=>h2 w' ((hM.below).trans (hb.mono hM.base)) (Nat.le_trans hM.base hs)⟩)) ?_)))))))))
 clear hM;intro w v hR hM hBe
 obtain ⟨a2,rfl,hB2⟩:=hR
 refine Gv rfl (fun _ hF=>gives_extract hF rfl rfl rfl _) (Gv rfl (fun _ hF=>gives_extract hF rfl rfl rfl _) (Gv rfl (fun _ hF=>gives_extract hF rfl rfl rfl _) (Gv rfl (fun _ hF=>gives_extract hF rfl rfl rfl _) (Gv rfl (fun _ hF=>gives_extract hF rfl rfl rfl _) (Md 5 [4,5,6,7,8] rfl (Nx (Re ?_)))))));intro a hF
 refine retMany (vs:=[_,_,_,_,_]) hF hM rfl rfl (.tmp rfl (.tmp rfl (.tmp rfl (.tmp rfl (.tmp rfl .nil))))) ⟨_,rfl,⟨a2,_,_,rfl,?_⟩,hM.below⟩
 exact hB2
theorem get_walk {ea:Nat→Addr}{b o cp kc:Nat}{ad:Option Addr}{D x:Str}{n:Nd}{ks:List Str}(w0:World) (hJ:JB ea w0.heap.size w0) (hL:Leaf D ks x n) (hl:D.length≤2^38) (hcp:D.length≤cp) (hD:Bts w0 b o D) (hk:Kys w0 ad kc ks):
    Calls Tryz.prog 56 #[.slice (some ⟨b,o,none⟩) D.length cp,.slice ad ks.length kc] w0 (Ret fun v w'=>(∃ (a' s:Nat),v= .tuple #[.slice (some ⟨b,a',none⟩) (rawx n x).length (rawx n x).length,.int .i64 ((jk (knd n):Nat):Int),.int .i64 (s:Int),.nilIface]∧Bts w0 b a' (rawx n x))∧Below w0.heap.size w0 w'):=by
 have hM:=MS0 w0
 refine enter (l:=[.slice (some ⟨b,o,none⟩) D.length cp,.slice ad ks.length kc]) 24 Tryz.func56 rfl rfl (Sq (Rg (Md 4 [0,1] rfl (Nx (Sq (Rg (Mv 2 rfl (Cm hM rfl rfl rfl (iget_walk _ hJ hL hl hcp hD hk) ?_))))))))
 clear hM;intro w v hR hM hBe
 obtain ⟨a2,s2,e2,rfl,hB2⟩:=hR
 refine Md 11 [8,9,11,12] rfl (Nx (Sq (Rg (Md 8 [4,5,6,7] rfl (Nx (Re ?_))))));intro a hF
 refine retMany (vs:=[_,_,_,_]) hF hM rfl rfl (.tmp rfl (.tmp rfl (.tmp rfl (.tmp rfl .nil)))) ⟨_,rfl,⟨a2,_,rfl,?_⟩,hM.below⟩
 exact hB2
theorem errNew_walk (s:Str) (w0:World):Calls Tryz.prog 57 #[.string (mkS s)] w0 (Ret fun v w'=>∃ k,v=EV ⟨k,0,none⟩∧Mem w0.heap.size w0 [(k,120,[.string (mkS s)])] w'):=by
 have hM:=MS0 w0
 refine enter (l:=[.string (mkS s)]) 6 Tryz.func57 rfl rfl (Sq (Rg (Md 1 [0] rfl (Nx (Sq (Rg (Mv 1 rfl (Gv rfl (fun _ hF=>gives_build (parts:=[(0,.tmp 3)]) (vals:=[(0,.string (mkS s))]) (cells:=[.string (mkS s)]) hF rfl rfl (by kernel_rfl) _) ?_))))))));intro a hF
 refine op_box (vs:=[.string (mkS s)]) hF hM rfl rfl rfl rfl rfl rfl ?_;clear hF hM a;intro a w k hF hM
 revert a;exact Gv rfl (fun _ hF=>gives_mkIface hF rfl Tryz.underlying118 rfl rfl _) (Md 1 [2] rfl (Nx (Re (Y1 rfl rfl ⟨_,rfl,k,rfl,hM⟩))))
theorem parseBool_walk {ea:Nat→Addr}{b o cp:Nat}{D:Str}(w0:World) (hJ:JB ea w0.heap.size w0) (hD:Bts w0 b o D) (hl:D.length≤2^40) (hb:D=[116,114,117,101]∨D=[102,97,108,115,101]):
    Calls Tryz.prog 63 #[.slice (some ⟨b,o,none⟩) D.length cp] w0 (Ret fun v w'=>(∃ r,v= .tuple #[.bool r,.nilIface])∧Below w0.heap.size w0 w'):=by
 have hM:=MS0 w0
 refine enter (l:=[.slice (some ⟨b,o,none⟩) D.length cp]) 12 Tryz.func63 rfl rfl (Sq (Rg (Md 2 [0] rfl (Nx (Bo (Sq ?_))))))
 rcases hb with hd | hd
 ·
  refine Rg (Mv 1 rfl (Gv rfl (fun _ hF=>gives_bytesStrB D hF rfl rfl rfl (hD.below hM.below)) ?_));intro a hF
  refine op_eqlStr hF rfl rfl rfl rfl rfl rfl ?_;clear hF a;intro a hF
  rw [show (D==([116,114,117,101]:Str))=true from by rw [hd];rfl] at hF
  revert a;exact Md 1 [0,5] rfl (Nx (Ct rfl (Sq (Rg (Md 2 [2,3] rfl (Nx (Re (Rb (Y2 rfl rfl rfl ⟨_,rfl,⟨_,rfl⟩,hM.below⟩)))))))))
 refine Rg (Mv 1 rfl (Gv rfl (fun _ hF=>gives_bytesStrB D hF rfl rfl rfl (hD.below hM.below)) ?_));intro a hF
 refine op_eqlStr hF rfl rfl rfl rfl rfl rfl ?_;clear hF a;intro a hF
 rw [show (D==([116,114,117,101]:Str))=false from by rw [hd];rfl] at hF
 revert a;refine Md 1 [0,5] rfl (Nx (Cf rfl (Sq (Rg (Mv 1 rfl (Gv rfl (fun _ hF=>gives_bytesStrB D hF rfl rfl rfl (hD.below hM.below)) ?_))))));intro a hF
 refine op_eqlStr hF rfl rfl rfl rfl rfl rfl ?_;clear hF a;intro a hF
 rw [show (D==([102,97,108,115,101]:Str))=true from by rw [hd];rfl] at hF
 revert a;exact Md 1 [9] rfl (Nx (Ct rfl (Sq (Rg (Md 2 [2,3] rfl (Nx (Re (Rb (Y2 rfl rfl rfl ⟨_,rfl,⟨_,rfl⟩,hM.below⟩)))))))))
def GOut (ea:Nat→Addr) (w0:World) (code:Nat) (v:Value) (w':World):Prop:=∃ val e,v= .tuple #[val,errV e]∧codeOf ea e=code∧(∀ x,e=some x→∃ ca ta,w'.heap[x.block]?=some (.cells ca ta (0,0)))∧Below w0.heap.size w0 w'
theorem gout_nil {ea:Nat→Addr}{w0 w':World}(val:Value) (hb:Below w0.heap.size w0 w'):GOut ea w0 0 (.tuple #[val,.nilIface]) w':=⟨val,none,rfl,rfl,(fun _ h=>by cases h),hb⟩
theorem kind_ea {ea:Nat→Addr}{N:Nat}{w:World}(hJ:JB ea N w) {k:Nat}(hk:k<10):kindOf ea (ea k)=if k=0 then 10 else k:=by
  have h:∀ j,j<10→j≠k→ea k≠ea j:=fun j hj hjk e=>hJ.apart j k (by omega) (by omega) hjk e.symm
  unfold kindOf
  rcases (show k=0∨k=1∨k=2∨k=3∨k=4∨k=5∨k=6∨k=7∨k=8∨k=9 by omega) with rfl | rfl | rfl | rfl | rfl | rfl | rfl | rfl | rfl | rfl <;> simp [h]
theorem gout_ev {ea:Nat→Addr}{w0 w':World}(hJ:JB ea w0.heap.size w0) {k:Nat}(hk:k<10) (val:Value) (hb:Below w0.heap.size w0 w') (c:Nat) (hc:c=if k=0 then 10 else k):GOut ea w0 c (.tuple #[val,EV (ea k)]) w':=by
  subst hc
  refine ⟨val,some (ea k),rfl,kind_ea hJ hk,fun x h=> ?_,hb⟩
  cases h
  exact (hJ.keep (Nat.le_refl _) hb).cel k (by omega)
theorem gout_new {ea:Nat→Addr}{w0 wm w':World}(hJ:JB ea w0.heap.size w0) {k:Nat}{t:TypeId}{vs:List Value}{L:List Bk}(val:Value) (hM:Mem w0.heap.size w0 L w') (hm:(k,t,vs)∈L):GOut ea w0 11 (.tuple #[val,EV ⟨k,0,none⟩]) w':=by
  obtain ⟨h1,h2⟩:=hM.held _ hm
  have h:∀ j,j<10→(⟨k,0,none⟩:Addr)≠ea j:=fun j hj e=>by
    have:=(hJ.errs j (by omega)).2
    rw [←e] at this
    exact absurd this (Nat.not_lt.2 h1)
  refine ⟨val,some ⟨k,0,none⟩,rfl,?_,fun x h=> ?_,hM.below⟩
  · show kindOf ea _=11
    unfold kindOf
    simp [h]
  · cases h
    exact ⟨_,_,h2⟩
theorem GOut.below {ea:Nat→Addr}{w0 w':World}{c:Nat}{v:Value}(h:GOut ea w0 c v w'):Below w0.heap.size w0 w':=by obtain ⟨_,_,_,_,_,h⟩:=h;exact h
theorem leaf_len {D x:Str}{ks:List Str}{n:Nd}(h:Leaf D ks x n):x.length≤D.length:=by
  have g:∀ R,Js.Loc D R x→x.length≤D.length:=by
    rintro R ⟨w,y,hR,he,_,_⟩
    have:=congrArg List.length he
    simp only [List.length_drop,List.length_append] at this
    omega
  rcases Classical.em (ks=[]) with h1 | h1
  · exact g 0 (h.here h1)
  · obtain ⟨R,_,h2⟩:=h.far h1
    exact g R h2
theorem rawx_le (n:Nd) (x:Str):(rawx n x).length≤x.length:=by
  unfold rawx;split
  · rw [List.length_take,List.length_drop];omega
  · exact Nat.le_refl _
theorem leaf_bool {D x:Str}{ks:List Str}{n:Nd}(h:Leaf D ks x n) (hn:jk (knd n)=5):rawx n x=[116,114,117,101]∨rawx n x=[102,97,108,115,101]:=by
  rcases gt_cases h.shows with ⟨i,_,_,h4⟩ | ⟨h4,_⟩ | ⟨h4,_⟩ | ⟨h,h4⟩ | ⟨h,h4⟩ | ⟨h,h4⟩ | ⟨h4,_⟩ <;> rw [h4] at hn
  · exact absurd hn (by decide)
  · exact absurd hn (by decide)
  · exact absurd hn (by decide)
  · rw [rawx_no (by omega),h];exact .inl rfl
  · rw [rawx_no (by omega),h];exact .inr rfl
  · exact absurd hn (by decide)
  · exact absurd hn (by decide)
theorem getBool_walk {ea:Nat→Addr}{b o cp kc:Nat}{ad:Option Addr}{D x:Str}{n:Nd}{ks:List Str}(w0:World) (hJ:JB ea w0.heap.size w0) (hL:Leaf D ks x n) (hl:D.length≤2^38) (hcp:D.length≤cp) (hD:Bts w0 b o D) (hk:Kys w0 ad kc ks):
    Calls Tryz.prog 37 #[.slice (some ⟨b,o,none⟩) D.length cp,.slice ad ks.length kc] w0 (Ret fun v w'=>GOut ea w0 (if jk (knd n)=5 then 0 else if jk (knd n)=6 then 10 else 11) v w'):=by
 have hM:=MS0 w0
 refine enter (l:=[.slice (some ⟨b,o,none⟩) D.length cp,.slice ad ks.length kc]) 29 Tryz.func37 rfl rfl (Sq (Rg (Md 2 [0,1] rfl (Nx (Sq (Rg (Mv 2 rfl (Cm hM rfl rfl rfl (get_walk _ hJ hL hl hcp hD hk) ?_))))))))
 clear hM;intro w v hR hM hBe
 obtain ⟨a2,s2,rfl,hB2⟩:=hR
 refine Md 9 [6,7,9] rfl (Nx (Sq (Sq (Rg (Mv 1 rfl (Gv rfl (fun _ hF=>gives_isNil hF (.inr rfl) rfl rfl ⟨_,Tryz.underlying63⟩ false rfl) (Md 0 [6,7,9,19] rfl (Nx (Cf rfl (Sk (Nx (Sq (Sq (Rg (Md 2 [6,7,22] rfl (Nx (Ce rfl (fun ht=> ?_) ((fun ht=> ?_)))))))))))))))))))
 ·
  have hn:jk (knd n)=5:=by have:=ht;simp at this;omega
  refine Sk (Nx (Sq (Rg (Mv 1 rfl (Cm hM rfl rfl rfl (parseBool_walk _ (hJ.mem hM) (hB2.below hM.below) (by have:=leaf_len hL;have:=rawx_le n x;omega) (leaf_bool hL hn)) ?_)))))
  clear hM;intro w v hR hM hBe
  obtain ⟨r,rfl⟩:=hR
  refine Md 4 [4,5] rfl (Nx (Re ?_));intro a hF
  exact ret2 hF rfl rfl rfl ⟨_,rfl,by rw [if_pos hn];exact gout_nil _ hM.below⟩
 have hn:jk (knd n)≠5:=by rintro h;rw [h] at ht;exact absurd ht (by decide)
 refine Sq (Sq (Rg (Md 2 [24] rfl (Nx (Cd rfl (fun ht=> ?_) ((fun ht=> ?_)))))))
 ·
  have hz:jk (knd n)=6:=by have:=ht;simp at this;omega
  refine Sq (Sl (by kernel_rfl) (by kernel_rfl) ?_)
  replace hM:=hM.drew
  skip
  refine Gs rfl (fun _ hF=>gives_load1 hF rfl Tryz.underlying63 rfl rfl (((hJ.mem hM).errs 0 (by omega)).1)) (Ms 2 rfl (Sd (Kp [4,5] rfl (Nx (Re (Rt (Rt ?_)))))));intro a hF
  exact ret2 hF rfl rfl rfl ⟨_,rfl,by rw [if_neg hn,if_pos hz];exact gout_ev hJ (by omega) _ hM.below _ rfl⟩
 have hz:jk (knd n)≠6:=by rintro h;rw [h] at ht;exact absurd ht (by decide)
 refine Sk (Nx (Sq (Rg ?_)));intro a hF
 refine op_call hF rfl rfl rfl rfl Tryz.func57 (by kernel_rfl) rfl rfl (errNew_walk _ _) ?_
 clear hF a;intro a w' v hR hF
 obtain ⟨ke,rfl,hMe⟩:=hR
 replace hM:=Mem.join hM hMe
 skip
 revert a;refine Md 2 [4,5] rfl (Nx (Re (Rt ?_)));intro a hF
 exact ret2 hF rfl rfl rfl ⟨_,rfl,by rw [if_neg hn,if_neg hz];exact gout_new (wm:=w0) hJ _ hM (List.mem_cons_self ..)⟩

end Go.Sx