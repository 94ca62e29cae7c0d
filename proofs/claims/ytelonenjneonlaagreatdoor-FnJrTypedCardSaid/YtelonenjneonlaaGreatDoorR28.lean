/- Part 28 of the proof of FnJrTyped: the statement Rows.FnJrTypedCardSaid; no further condition. -/
import Derived.Test.YtelonenjneonlaaGreatDoorR27
set_option linter.all false
set_option maxRecDepth 100000
namespace Go.Sx
open Go.RowKit Go.Proofs Js Go.Proofs.YtelonenjneonlaaGreatDoorW.PrintWords
def wnt (kd:Nat) (x:Str) (c2:Int):Int×Int×Int×Int×Int:=
  if kd=0 then (10,10,10,10,10) else if kd=2∨kd=1 then (11,11,11,0,11) else if kd=4 then (11,11,11,11,0) else if kd=3 then (wantI x,wantU x,c2,11,11) else (11,11,11,11,11)
theorem knd6 {t:Str}{n:Nd}(h:Shows t (.v n)):knd n≤6:=by
  rcases gt_cases h with ⟨i,_,_,h4⟩ | ⟨h4,_⟩ | ⟨h4,_⟩ | ⟨_,h4⟩ | ⟨_,h4⟩ | ⟨_,h4⟩ | ⟨h4,_⟩ <;> omega
theorem got_wnt {kd:Nat}{x:Str}{c2 g0 g1 g2 g3 g4:Nat}{W0 W1 W2 W3 W4:Int}(hk:kd≤6) (hW:(W0,W1,W2,W3,W4)=wnt kd x (c2:Int)) (h0:jk kd≠2→g0=if jk kd=6 then 10 else 11) (h1:jk kd≠2→g1=if jk kd=6 then 10 else 11)
    (h2:jk kd≠2→g2=if jk kd=6 then 10 else 11) (h22:jk kd=2→g2=c2) (h3:g3=if jk kd=5 then 0 else if jk kd=6 then 10 else 11) (h4:g4=if jk kd=1 then 0 else if jk kd=6 then 10 else 11):
    (kd≠3→W0=(g0:Int)∧W1=(g1:Int))∧(kd=3→W0=wantI x∧W1=wantU x)∧W2=(g2:Int)∧W3=(g3:Int)∧W4=(g4:Int):=by
  rcases (show kd=0∨kd=1∨kd=2∨kd=3∨kd=4∨kd=5∨kd=6 by omega) with rfl | rfl | rfl | rfl | rfl | rfl | rfl <;> simp [wnt,jk] at hW h0 h1 h2 h22 h3 h4 ⊢ <;> omega
theorem near_err {x:Str}{neg:Bool}{I fd E:Str}{k k':Int}(hf:NumForm x neg I fd E k) (h8:x.length≤800) (h:k'=k∨(10000≤k'∧k'≤k)∨(k'≤ -10000∧k≤k')):ErrX neg I fd k'↔BigX I fd k:=by
  have hl:=hf.len
  have hp:=pt_len fd
  have hfl:fd.length≤(pt fd).length:=by rw [hp];split <;> simp_all
  have hD:Digs (I++fd):=hf.int.append hf.frac
  have h9:(I++fd).length≤800:=by rw [List.length_append];omega
  rw [errX_law hf.int hf.frac h9]
  exact big_cap (worth_lt hD) (by omega) ⟨by omega,by rw [List.length_append] at h9;omega⟩ h
theorem sub_rng {T:Str}{b e:Nat}{n:Nd}(h:Shows (sub T b e) (.v n)):b≤e:=by
  obtain ⟨c,u,hc,_⟩:=vhead_of h
  rcases Nat.lt_or_ge e b with h1 | h1
  · rw [show sub T b e=[] by unfold sub;rw [Nat.sub_eq_zero_of_le (by omega),List.take_zero]] at hc;cases hc
  · exact h1
theorem sub_len {T:Str}{b e:Nat}:(sub T b e).length≤T.length:=by unfold sub;rw [List.length_take,List.length_drop];omega
theorem knd_tree (T:Str) (q:Js.Place):knd (tree T q)=q.kind:=by cases q;rfl
theorem form_of {x:Str}{n:Nd}{ks:List Str}{T:Str}(h:Leaf T ks x n):∃ (neg:Bool) (I fd E:Str) (k k':Int),jk (knd n)=2→IsNum x∧NumForm x neg I fd E k∧ExCap E k'∧(k'=k∨(10000≤k'∧k'≤k)∨(k'≤ -10000∧k≤k')):=by
  by_cases hj:jk (knd n)=2
  · obtain ⟨_,_,hn⟩:=leaf_num h hj
    obtain ⟨neg,I,fd,E,k,hf⟩:=num_form hn
    obtain ⟨k',h1,_,_,h2⟩:=exCap_of hf.ex
    exact ⟨neg,I,fd,E,k,k',fun _=>⟨hn,hf,h1,h2⟩⟩
  · exact ⟨false,[],[],[],0,0,fun h=>absurd h hj⟩
set_option maxHeartbeats 1000000 in
theorem typed_walk {ea:Nat→Addr}{T:Str}{ks:List Str}{ad:Option Addr}{kc:Nat}(w0:World) (hJ:JB ea w0.heap.size w0) (hV:TabX w0.heap.size w0) (hk0:KyB w0.heap.size w0 ad kc ks):Calls Tryz.prog 3 #[.string (mkS T),.slice ad ks.length kc] w0 (Ret fun v w'=>v= .bool true∧Below w0.heap.size w0 w'):=by
 have hM:=MS0 w0
 refine enter (l:=[.string (mkS T),.slice ad ks.length kc]) 113 Tryz.func3 rfl rfl (Sq (Rg (Md 1 [0,1] rfl (Nx (Sq (Sq ?_))))))
 rcases (show T.length>2147483647∨T.length≤2147483647 by omega) with hbig | hlen
 · exact Rg (Mv 2 rfl (Bt rfl (by omega) (Md 5 [0,1,19] rfl (Nx (Ct rfl (Sq (Rg (Md 1 [4] rfl (Nx (Re (Rt (Y1 rfl rfl ⟨_,rfl,rfl,hM.below⟩))))))))))))
 refine Rg (Mv 2 rfl (Bf rfl (by omega) (Mv 2 rfl (Cl rfl rfl rfl (zzFits1_walk hk0 hM) ?_))))
 clear hM;intro w v hR
 obtain ⟨⟨fb,rfl,hfit⟩,hM⟩:=hR
 refine Md 2 [0,1,19] rfl (Nx (C2 rfl ?_ ((fun ht=> ?_))))
 · exact Sq (Rg (Md 1 [4] rfl (Nx (Re (Rt (Y1 rfl rfl ⟨_,rfl,rfl,hM.below⟩))))))
 have hfb:fb=true:=by cases fb;exact absurd ht (by decide);rfl
 obtain ⟨hkn,hkl⟩:=hfit hfb
 have hk:=hk0.kys (by omega)
 refine Sk (Nx (Sq (Rg (Mv 2 rfl (Cl rfl rfl rfl (jpFound_walk (by omega) hk0 (fun s hs=>Nat.le_trans (hkl s hs) (by decide)) hM) ?_)))))
 clear hM;intro w v hR
 obtain ⟨⟨pk,pb,pe,o1,l1,c1,o2,l2,c2,ok,rfl,hok⟩,hM⟩:=hR
 refine Mv 3 rfl ?_;intro a hF
 refine op_alloc hF hM rfl (vs:=[.int .i64 0,.int .i64 0,.int .i64 0,.slice none 0 0,.slice none 0 0]) rfl rfl rfl (by kernel_rfl) ?_;clear hF hM a;intro a w b5 hF hM
 refine op_storeA hF hM rfl 0 rfl rfl (by kernel_rfl) rfl rfl rfl rfl (rfl) ?_;clear hF hM a;intro a w hF hM
 revert a;refine Md 1 [0,1,5,6] rfl (Nx (Sq (Sq (Rg (Md 2 [0,1,5,27] rfl (Nx (C2 rfl ?_ ((fun ht=> ?_)))))))))
 · exact Sq (Rg (Md 1 [4] rfl (Nx (Re (Rt (Y1 rfl rfl ⟨_,rfl,rfl,hM.below⟩))))))
 have hokt:ok=true:=by cases ok;exact absurd ht (by decide);rfl
 obtain ⟨hTl,p,q,hp,hfol,hW,rfl,rfl,rfl⟩:=hok hokt
 obtain ⟨⟨hsh,hqe⟩,hhere,hfar⟩:=lead_text (by omega) hp hfol
 have hbe:=sub_rng hsh
 obtain ⟨x,hxd⟩:∃ x,x=sub T q.b q.e:=⟨_,rfl⟩
 have hxl:x.length≤T.length:=by rw [hxd];exact sub_len
 intro a hF
 rw [←hxd] at hsh hhere hfar
 have hL:Leaf T ks x (tree T q):=⟨hsh,hhere,hfar⟩
 have hk6:=knd6 hsh
 obtain ⟨neg,I,fd,E,k,k',hnf⟩:=form_of hL
 have hnf2:jk (knd (tree T q))=2→NumForm x neg I fd E k∧ExCap E k':=fun h=>⟨(hnf h).2.1,(hnf h).2.2.1⟩
 rw [knd_tree] at hk6
 revert a;refine Sk (Nx (Sq (Rg (Mv 2 rfl (Ld hM 0 rfl rfl (Mv 1 rfl (Ld hM 0 rfl rfl (Gv rfl (fun _ hF=>gives_slice_str (q.b) (q.e) hF rfl Tryz.underlying9 rfl rfl rfl rfl rfl hbe hqe _) ?_))))))));intro a hF
 rw [show List.take (q.e - q.b) (List.drop q.b T)=x from hxd.symm] at hF
 revert a;refine Md 1 [0,1,5,7] rfl (Nx (Sq (Rg (Gv rfl (fun _ hF=>gives_build (vals:=[(0,.int .i64 11),(1,.int .i64 11),(2,.int .i64 11),(3,.int .i64 11),(4,.int .i64 11)]) (cells:=[.int .i64 11,.int .i64 11,.int .i64 11,.int .i64 11,.int .i64 11]) hF rfl rfl (by kernel_rfl) _) ?_))));intro a hF
 refine op_alloc hF hM rfl (vs:=[.int .i64 0,.int .i64 0,.int .i64 0,.int .i64 0,.int .i64 0]) rfl rfl rfl (by kernel_rfl) ?_;clear hF hM a;intro a w b8 hF hM
 refine op_storeA hF hM rfl 0 rfl rfl (by kernel_rfl) rfl rfl rfl rfl (rfl) ?_;clear hF hM a;intro a w hF hM
 revert a;refine Md 0 [0,1,5,7,8] rfl (Nx ?_);intro a hF
 refine cutF (fun a w=>∃ W0 W1 W2 W3 W4:Int,(W0,W1,W2,W3,W4)=wnt q.kind x ((errK neg I fd k':Nat):Int)∧Fr 115 [(0,.string (mkS T)),(1,.slice ad ks.length kc),(5,.pointer (some ⟨b5,0,none⟩)),(7,.string (mkS x)),(8,.pointer (some ⟨b8,0,none⟩))] a∧Mem w0.heap.size w0 [(b8,30,[.int .i64 W0,.int .i64 W1,.int .i64 W2,.int .i64 W3,.int .i64 W4]),(b5,27,[.int .i64 ((q.kind:Nat):Int),.int .i64 ((q.b:Nat):Int),.int .i64 ((q.e:Nat):Int),.slice o1 l1 c1,.slice o2 l2 c2])] w) (fun a w h=> ?_) ?_
 ·
  clear hF hM
  obtain ⟨W0,W1,W2,W3,W4,hWn,hF,hM⟩:=h
  revert a;refine Sq (Rg (Mv 2 rfl (Cm hM rfl rfl rfl (jrI_walk _ (hJ.mem hM) hL (by omega) (hk.below hM.below)) ?_)))
  clear hM;intro w v hR hM hBe
  obtain ⟨g0,rfl,h0a,h0b⟩:=hR
  refine Mv 2 rfl (Cm hM rfl rfl rfl (jrU_walk _ (hJ.mem hM) hL (by omega) (hk.below hM.below)) ?_)
  clear hM;intro w v hR hM hBe
  obtain ⟨g1,rfl,h1a,h1b⟩:=hR
  refine Mv 2 rfl (Cm hM rfl rfl rfl (jrF_walk _ (hJ.mem hM) hL (by omega) (hk.below hM.below) (hV.mem hM) hnf2) ?_)
  clear hM;intro w v hR hM hBe
  obtain ⟨g2,rfl,h2a,h2b⟩:=hR
  refine Mv 2 rfl (Cm hM rfl rfl rfl (jrB_walk _ (hJ.mem hM) hL (by omega) (hk.below hM.below)) ?_)
  clear hM;intro w v hR hM hBe
  obtain ⟨g3,rfl,h3⟩:=hR
  refine Mv 2 rfl (Cm hM rfl rfl rfl (jrS_walk _ (hJ.mem hM) hL (by omega) (hk.below hM.below)) ?_)
  clear hM;intro w v hR hM hBe
  obtain ⟨g4,rfl,h4⟩:=hR
  intro a hF
  rw [knd_tree] at h0a h0b h1a h1b h2a h2b h3 h4
  obtain ⟨hne,heq,rfl,rfl,rfl⟩:=got_wnt hk6 hWn h0a h1a h2a h2b h3 h4
  revert a;refine Gv rfl (fun _ hF=>gives_build (vals:=[(0,.int .i64 (g0:Int)),(1,.int .i64 (g1:Int)),(2,.int .i64 (g2:Int)),(3,.int .i64 (g3:Int)),(4,.int .i64 (g4:Int))]) (cells:=[.int .i64 (g0:Int),.int .i64 (g1:Int),.int .i64 (g2:Int),.int .i64 (g3:Int),.int .i64 (g4:Int)]) hF rfl rfl (by kernel_rfl) _) ?_;intro a hF
  refine op_alloc hF hM rfl (vs:=[.int .i64 0,.int .i64 0,.int .i64 0,.int .i64 0,.int .i64 0]) rfl rfl rfl (by kernel_rfl) ?_;clear hF hM a;intro a w b11 hF hM
  refine op_storeA hF hM rfl 0 rfl rfl (by kernel_rfl) rfl rfl rfl rfl (rfl) ?_;clear hF hM a;intro a w hF hM
  revert a;refine Md 0 [5,7,8,11] rfl (Nx ?_);intro a hF
  refine cut (fun a w=>∃ V1:Int,(V1=(g1:Int)∨(x≠ [45,48]∧V1=W1))∧Fr 115 [(5,.pointer (some ⟨b5,0,none⟩)),(7,.string (mkS x)),(8,.pointer (some ⟨b8,0,none⟩)),(11,.pointer (some ⟨b11,0,none⟩))] a∧Mem w0.heap.size w0 [(b11,30,[.int .i64 (g0:Int),.int .i64 (g1:Int),.int .i64 (g2:Int),.int .i64 (g3:Int),.int .i64 (g4:Int)]),(b8,30,[.int .i64 W0,.int .i64 V1,.int .i64 (g2:Int),.int .i64 (g3:Int),.int .i64 (g4:Int)]),(b5,27,[.int .i64 ((q.kind:Nat):Int),.int .i64 ((q.b:Nat):Int),.int .i64 ((q.e:Nat):Int),.slice o1 l1 c1,.slice o2 l2 c2])] w) ?_ (fun a w h=> ?_)
  ·
   revert a;refine Sq (Rg (Mv 1 rfl ?_));intro a hF
   refine op_eqlStr hF rfl rfl rfl rfl rfl rfl ?_;clear hF a;intro a hF
   revert a;refine Md 0 [5,7,8,11,89] rfl (Nx (Ce rfl (fun ht=> ?_) ((fun ht=> ?_))))
   ·
    have hx0:x≠ [45,48]:=by simpa using ht
    have hV1:W1=(g1:Int)∨(x≠ [45,48]∧W1=W1):= .inr ⟨hx0,rfl⟩
    refine Sk (Kp [5,7,8,11] rfl ?_);intro a hF
    exact ⟨_,hV1,hF,hM⟩
   have hV1:(g1:Int)=g1∨(x≠ [45,48]∧(g1:Int)=W1):= .inl rfl
   refine Rg (Gv rfl (fun _ hF=>gives_indexAddrA (sz:=1) (1) hF rfl Tryz.underlying30 (by kernel_rfl) rfl rfl rfl (by decide) _) (Ld hM 0 rfl rfl (Gv rfl (fun _ hF=>gives_indexAddrA (sz:=1) (1) hF rfl Tryz.underlying30 (by kernel_rfl) rfl rfl rfl (by decide) _) (St hM 1 rfl ?_))))
   clear hM;intro w hM
   refine Md 0 [5,7,8,11] rfl ?_;intro a hF
   exact ⟨_,hV1,hF,hM⟩
  clear hF hM
  obtain ⟨V1,hV1,hF,hM⟩:=h
  refine cutF (fun a w=>Fr 115 [(8,.pointer (some ⟨b8,0,none⟩)),(11,.pointer (some ⟨b11,0,none⟩))] a∧Mem w0.heap.size w0 [(b11,30,[.int .i64 (g0:Int),.int .i64 (g1:Int),.int .i64 (g2:Int),.int .i64 (g3:Int),.int .i64 (g4:Int)]),(b8,30,[.int .i64 (g0:Int),.int .i64 (g1:Int),.int .i64 (g2:Int),.int .i64 (g3:Int),.int .i64 (g4:Int)]),(b5,27,[.int .i64 ((q.kind:Nat):Int),.int .i64 ((q.b:Nat):Int),.int .i64 ((q.e:Nat):Int),.slice o1 l1 c1,.slice o2 l2 c2])] w) (fun a w h=> ?_) ?_
  ·
   clear hF hM
   obtain ⟨hF,hM⟩:=h
   refine seq (region ?_)
   refine op_loadA hF hM rfl 0 rfl rfl rfl Tryz.underlying30 rfl (by kernel_rfl) rfl rfl ?_;clear hF a;intro a hF
   refine op_loadA hF hM rfl 1 rfl rfl rfl Tryz.underlying30 rfl (by kernel_rfl) rfl rfl ?_;clear hF a;intro a hF
   revert a;exact Gv rfl (fun _ hF=>gives_eqI5 hF rfl rfl rfl _) (Md 1 [4] rfl (Nx (Re (Y1 rfl rfl ⟨_,rfl,rfl,hM.below⟩))))
  revert a;refine Sq ?_
  rcases (show q.kind≠3∨(q.kind=3∧jdec x=true)∨(q.kind=3∧jdec x=false∧leadN x≤18)∨(q.kind=3∧jdec x=false∧18<leadN x) from by rcases Classical.em (q.kind=3) with h | h;(rcases hb:jdec x with _ | _;(rcases Nat.lt_or_ge 18 (leadN x) with h2 | h2;exact .inr (.inr (.inr ⟨h,rfl,h2⟩));exact .inr (.inr (.inl ⟨h,rfl,h2⟩)));exact .inr (.inl ⟨h,rfl⟩));exact .inl h) with hkd | ⟨hkd,hjd⟩ | ⟨hkd,hjd,hld⟩ | ⟨hkd,hjd,hld⟩
  ·
   obtain ⟨hw0,hw1'⟩:=hne hkd
   have hw1:V1=(g1:Int):=by rcases hV1 with h | ⟨_,h⟩;exact h;rw [h,hw1']
   refine Rg (Mv 1 rfl (Ld hM 2 rfl rfl (Bv rfl rfl (show (((q.kind:Nat):Int)==3)=false from beq_eq_false_iff_ne.2 (by omega)) (Md 10 [8,11,105] rfl (Nx (Cf rfl (Sk (Kp [8,11] rfl ?_))))))));intro a hF
   exact ⟨hF,by rw [hw0,hw1] at hM;exact hM⟩
  ·
   have hj:jk q.kind=2:=by rw [hkd];rfl
   have hcc:jdec x=true∨leadN x≤18:= .inl hjd
   have hw0:W0=(g0:Int):=(heq hkd).1.trans (h0b hj hcc).symm
   have hw1:V1=(g1:Int):=by rcases hV1 with h | ⟨h,h'⟩;exact h;rw [h',(heq hkd).2,h1b hj h hcc]
   refine Rg (Mv 1 rfl (Ld hM 2 rfl rfl (Bv rfl rfl (show (((q.kind:Nat):Int)==3)=true from beq_iff_eq.2 (by omega)) (Mv 2 rfl (Cm hM rfl rfl rfl (jpDecimal_walk x (by omega) _) ?_)))))
   clear hM;intro w v hR hM hBe
   obtain rfl:=hR
   intro a hF
   rw [hjd] at hF
   revert a;refine Md 7 [8,11,105] rfl (Nx (Cf rfl (Sk (Kp [8,11] rfl ?_))));intro a hF
   exact ⟨hF,by rw [hw0,hw1] at hM;exact hM⟩
  ·
   have hj:jk q.kind=2:=by rw [hkd];rfl
   have hcc:jdec x=true∨leadN x≤18:= .inr hld
   have hw0:W0=(g0:Int):=(heq hkd).1.trans (h0b hj hcc).symm
   have hw1:V1=(g1:Int):=by rcases hV1 with h | ⟨h,h'⟩;exact h;rw [h',(heq hkd).2,h1b hj h hcc]
   refine Rg (Mv 1 rfl (Ld hM 2 rfl rfl (Bv rfl rfl (show (((q.kind:Nat):Int)==3)=true from beq_iff_eq.2 (by omega)) (Mv 2 rfl (Cm hM rfl rfl rfl (jpDecimal_walk x (by omega) _) ?_)))))
   clear hM;intro w v hR hM hBe
   obtain rfl:=hR
   intro a hF
   rw [hjd] at hF
   revert a;refine Mv 4 rfl (Cm hM rfl rfl rfl (jrLead_walk x (by omega) _) ?_)
   clear hM;intro w v hR hM hBe
   obtain rfl:=hR
   refine Bf rfl (by omega) (Md 1 [8,11,105] rfl (Nx (Cf rfl (Sk (Kp [8,11] rfl ?_)))));intro a hF
   exact ⟨hF,by rw [hw0,hw1] at hM;exact hM⟩
  refine Rg (Mv 1 rfl (Ld hM 2 rfl rfl (Bv rfl rfl (show (((q.kind:Nat):Int)==3)=true from beq_iff_eq.2 (by omega)) (Mv 2 rfl (Cm hM rfl rfl rfl (jpDecimal_walk x (by omega) _) ?_)))))
  clear hM;intro w v hR hM hBe
  obtain rfl:=hR
  intro a hF
  rw [hjd] at hF
  revert a;refine Mv 4 rfl (Cm hM rfl rfl rfl (jrLead_walk x (by omega) _) ?_)
  clear hM;intro w v hR hM hBe
  obtain rfl:=hR
  refine Bt rfl (by omega) (Md 1 [8,11,105] rfl (Nx (Ct rfl ?_)));intro a hF
  refine mix (fun w=>∃ V0 V1:Int,Mem w0.heap.size w0 [(b11,30,[.int .i64 (g0:Int),.int .i64 (g1:Int),.int .i64 (g2:Int),.int .i64 (g3:Int),.int .i64 (g4:Int)]),(b8,30,[.int .i64 V0,.int .i64 V1,.int .i64 (g2:Int),.int .i64 (g3:Int),.int .i64 (g4:Int)]),(b5,27,[.int .i64 ((q.kind:Nat):Int),.int .i64 ((q.b:Nat):Int),.int .i64 ((q.e:Nat):Int),.slice o1 l1 c1,.slice o2 l2 c2])] w) 7 (by kernel_rfl) ?_
  replace hM:=hM.drew
  generalize World.drew w=w at*
  refine mtakeP 0 hF (.inl ⟨_,_,hM⟩) rfl (by kernel_rfl) (by kernel_rfl) (by kernel_rfl) rfl (fun _ _ _ h=>h) rfl rfl (y_plain rfl (fun w _=>gives_indexAddrA (sz:=1) (0) hF rfl Tryz.underlying30 (by kernel_rfl) rfl rfl rfl (by decide) _)) ?_;clear hF a;intro a hF
  refine mtakeL 1 hF ⟨_,_,hM⟩ rfl (by kernel_rfl) (by kernel_rfl) (by kernel_rfl) (by kernel_rfl) (by kernel_rfl) (fun _ _ _ h=>h) rfl rfl (y_plain rfl (fun w hM=>(by obtain ⟨_,_,hM⟩:=hM;exact gives_load hF hM 0 rfl Tryz.underlying3 rfl rfl rfl rfl))) ?_;clear hF a;intro a hF
  refine mtakeP 2 hF (.inl ⟨_,_,hM⟩) rfl (by kernel_rfl) (by kernel_rfl) (by kernel_rfl) rfl (fun _ _ _ h=>h) rfl rfl (y_plain rfl (fun w _=>gives_indexAddrA (sz:=1) (1) hF rfl Tryz.underlying30 (by kernel_rfl) rfl rfl rfl (by decide) _)) ?_;clear hF a;intro a hF
  refine mtakeL 3 hF ⟨_,_,hM⟩ rfl (by kernel_rfl) (by kernel_rfl) (by kernel_rfl) (by kernel_rfl) (by kernel_rfl) (fun _ _ _ h=>h) rfl rfl (y_plain rfl (fun w hM=>(by obtain ⟨_,_,hM⟩:=hM;exact gives_load hF hM 0 rfl Tryz.underlying3 rfl rfl rfl rfl))) ?_;clear hF a;intro a hF
  refine mtakeP 4 hF (.inl ⟨_,_,hM⟩) rfl (by kernel_rfl) (by kernel_rfl) (by kernel_rfl) rfl (fun _ _ _ h=>h) rfl rfl (y_plain rfl (fun w _=>gives_indexAddrA (sz:=1) (0) hF rfl Tryz.underlying30 (by kernel_rfl) rfl rfl rfl (by decide) _)) ?_;clear hF a;intro a hF
  refine malone 5 rfl (by kernel_rfl) ?_
  revert a;refine St hM 1 rfl ?_
  clear hM;intro w hM;intro a hF
  refine mstep (.inl (⟨_,_,hM⟩)) ?_
  refine mtakeP 6 hF (.inl ⟨_,_,hM⟩) rfl (by kernel_rfl) (by kernel_rfl) (by kernel_rfl) rfl (fun _ _ _ h=>h) rfl rfl (y_plain rfl (fun w _=>gives_indexAddrA (sz:=1) (1) hF rfl Tryz.underlying30 (by kernel_rfl) rfl rfl rfl (by decide) _)) ?_;clear hF a;intro a hF
  refine malone 7 rfl (by kernel_rfl) ?_
  revert a;refine St hM 1 rfl ?_
  clear hM;intro w hM;intro a hF
  refine mstep (.inr (by kernel_rfl)) ?_
  refine mend (by kernel_rfl) ?_
  revert a;refine Kp [8,11] rfl ?_;intro a hF
  exact ⟨hF,hM⟩
 revert a;refine Sq (Rg (Mv 1 rfl (Ld hM 1 rfl rfl (Md 0 [0,1,5,7,8,36] rfl (Nx (Bo (Sq ?_)))))))
 rcases (show q.kind=0∨q.kind=2∨q.kind=1∨q.kind=4∨q.kind=3∨(q.kind≠0∧q.kind≠2∧q.kind≠1∧q.kind≠4∧q.kind≠3) by omega) with hkd | hkd | hkd | hkd | hkd | hkd
 ·
  have hwn:∀ c2,wnt q.kind x c2=(10,10,10,10,10):=fun c2=>by simp [wnt,hkd]
  refine Rg (Bv rfl rfl (show (((q.kind:Nat):Int)==0)=true from beq_iff_eq.2 (by omega)) (Md 1 [0,1,5,7,8,36,37] rfl (Nx (Ct rfl (Rg (Gv rfl (fun _ hF=>gives_build (vals:=[(0,.int .i64 10),(1,.int .i64 10),(2,.int .i64 10),(3,.int .i64 10),(4,.int .i64 10)]) (cells:=[.int .i64 10,.int .i64 10,.int .i64 10,.int .i64 10,.int .i64 10]) hF rfl rfl (by kernel_rfl) _) ?_))))));intro a hF
  refine op_storeA hF hM rfl 0 rfl rfl (by kernel_rfl) rfl rfl rfl rfl (rfl) ?_;clear hF hM a;intro a w hF hM
  revert a;refine Md 0 [0,1,5,7,8] rfl (Nb (Kp [0,1,5,7,8] rfl ?_));intro a hF
  exact ⟨_,_,_,_,_,(hwn _).symm,hF,hM⟩
 ·
  have hwn:∀ c2,wnt q.kind x c2=(11,11,11,0,11):=fun c2=>by simp [wnt,hkd]
  refine Rg (Bv rfl rfl (show (((q.kind:Nat):Int)==0)=false from beq_eq_false_iff_ne.2 (by omega)) (Md 1 [0,1,5,7,8,36,37] rfl (Nx (Cf rfl (Sq (Sq (Rg (Bv rfl rfl (show (((q.kind:Nat):Int)==2)=true from beq_iff_eq.2 (by omega)) (Md 1 [0,1,5,7,8,36,40] rfl (Nx (Ct rfl (Sk (Nx (Ct rfl (Rg (Gv rfl (fun _ hF=>gives_indexAddrA (sz:=1) (3) hF rfl Tryz.underlying30 (by kernel_rfl) rfl rfl rfl (by decide) _) (St hM 0 rfl ?_)))))))))))))))))
  clear hM;intro w hM
  refine Md 0 [0,1,5,7,8] rfl (Nb (Kp [0,1,5,7,8] rfl ?_));intro a hF
  exact ⟨_,_,_,_,_,(hwn _).symm,hF,hM⟩
 ·
  have hwn:∀ c2,wnt q.kind x c2=(11,11,11,0,11):=fun c2=>by simp [wnt,hkd]
  refine Rg (Bv rfl rfl (show (((q.kind:Nat):Int)==0)=false from beq_eq_false_iff_ne.2 (by omega)) (Md 1 [0,1,5,7,8,36,37] rfl (Nx (Cf rfl (Sq (Sq (Rg (Bv rfl rfl (show (((q.kind:Nat):Int)==2)=false from beq_eq_false_iff_ne.2 (by omega)) (Md 1 [0,1,5,7,8,36,40] rfl (Nx (Cf rfl (Rg (Bv rfl rfl (show (((q.kind:Nat):Int)==1)=true from beq_iff_eq.2 (by omega)) (Md 1 [0,1,5,7,8,36,40] rfl (Nx (Ct rfl (Rg (Gv rfl (fun _ hF=>gives_indexAddrA (sz:=1) (3) hF rfl Tryz.underlying30 (by kernel_rfl) rfl rfl rfl (by decide) _) (St hM 0 rfl ?_)))))))))))))))))))
  clear hM;intro w hM
  refine Md 0 [0,1,5,7,8] rfl (Nb (Kp [0,1,5,7,8] rfl ?_));intro a hF
  exact ⟨_,_,_,_,_,(hwn _).symm,hF,hM⟩
 ·
  have hwn:∀ c2,wnt q.kind x c2=(11,11,11,11,0):=fun c2=>by simp [wnt,hkd]
  refine Rg (Bv rfl rfl (show (((q.kind:Nat):Int)==0)=false from beq_eq_false_iff_ne.2 (by omega)) (Md 1 [0,1,5,7,8,36,37] rfl (Nx (Cf rfl (Sq (Sq (Rg (Bv rfl rfl (show (((q.kind:Nat):Int)==2)=false from beq_eq_false_iff_ne.2 (by omega)) (Md 1 [0,1,5,7,8,36,40] rfl (Nx (Cf rfl (Rg (Bv rfl rfl (show (((q.kind:Nat):Int)==1)=false from beq_eq_false_iff_ne.2 (by omega)) (Md 1 [0,1,5,7,8,36,40] rfl (Nx (Cf rfl (Sq (Rg (Bv rfl rfl (show (((q.kind:Nat):Int)==4)=true from beq_iff_eq.2 (by omega)) (Md 1 [0,1,5,7,8,36,44] rfl (Nx (Ct rfl (Rg (Gv rfl (fun _ hF=>gives_indexAddrA (sz:=1) (4) hF rfl Tryz.underlying30 (by kernel_rfl) rfl rfl rfl (by decide) _) (St hM 0 rfl ?_)))))))))))))))))))))))))
  clear hM;intro w hM
  refine Md 0 [0,1,5,7,8] rfl (Nb (Kp [0,1,5,7,8] rfl ?_));intro a hF
  exact ⟨_,_,_,_,_,(hwn _).symm,hF,hM⟩
 ·
  have hwn:∀ c2,wnt q.kind x c2=(wantI x,wantU x,c2,11,11):=fun c2=>by simp [wnt,hkd]
  have hj2:jk (knd (tree T q))=2:=by rw [knd_tree,hkd];rfl
  obtain ⟨hnum,hnfm,hcap,hkk⟩:=hnf hj2
  refine Rg (Bv rfl rfl (show (((q.kind:Nat):Int)==0)=false from beq_eq_false_iff_ne.2 (by omega)) (Md 1 [0,1,5,7,8,36,37] rfl (Nx (Cf rfl (Sq (Sq (Rg (Bv rfl rfl (show (((q.kind:Nat):Int)==2)=false from beq_eq_false_iff_ne.2 (by omega)) (Md 1 [0,1,5,7,8,36,40] rfl (Nx (Cf rfl (Rg (Bv rfl rfl (show (((q.kind:Nat):Int)==1)=false from beq_eq_false_iff_ne.2 (by omega)) (Md 1 [0,1,5,7,8,36,40] rfl (Nx (Cf rfl (Sq (Rg (Bv rfl rfl (show (((q.kind:Nat):Int)==4)=false from beq_eq_false_iff_ne.2 (by omega)) (Md 1 [0,1,5,7,8,36,44] rfl (Nx (Cf rfl (Sq (Rg (Bv rfl rfl (show (((q.kind:Nat):Int)==3)=true from beq_iff_eq.2 (by omega)) (Md 1 [0,1,5,7,8,47] rfl (Nx (Ct rfl (Sq (Rg (Mv 1 rfl (Cm hM rfl rfl rfl (jrInt_walk x (by omega) _) ?_))))))))))))))))))))))))))))))))
  clear hM;intro w v hR hM hBe
  obtain rfl:=hR
  refine Mv 1 rfl (Cm hM rfl rfl rfl (jrUint_walk x (by omega) _) ?_)
  clear hM;intro w v hR hM hBe
  obtain rfl:=hR
  refine Gv rfl (fun _ hF=>gives_indexAddrA (sz:=1) (0) hF rfl Tryz.underlying30 (by kernel_rfl) rfl rfl rfl (by decide) _) (St hM 0 rfl ?_)
  clear hM;intro w hM
  refine Gv rfl (fun _ hF=>gives_indexAddrA (sz:=1) (1) hF rfl Tryz.underlying30 (by kernel_rfl) rfl rfl rfl (by decide) _) (St hM 0 rfl ?_)
  clear hM;intro w hM
  refine Gv rfl (fun _ hF=>gives_indexAddrA (sz:=1) (2) hF rfl Tryz.underlying30 (by kernel_rfl) rfl rfl rfl (by decide) _) (St hM 0 rfl ?_)
  clear hM;intro w hM
  refine Md 0 [0,1,5,7,8] rfl (Nx (Sq (Rg (Mv 1 rfl (Cm hM rfl rfl rfl (nearestTo_walk hnum hnfm (by omega) _) ?_)))))
  clear hM;intro w v hR hM hBe
  obtain ⟨nb,nok,rfl,hno⟩:=hR
  refine Md 5 [0,1,5,7,8,9,10] rfl (Nx (Sq (Rg (Md 2 [0,1,5,7,8,9,62] rfl (Nx (C2 rfl ?_ ((fun ht=> ?_))))))))
  ·
   refine Rg (Mv 2 rfl (Cm hM rfl rfl rfl (jrF_walk _ (hJ.mem hM) hL (by omega) (hk.below hM.below) (hV.mem hM) hnf2) ?_))
   clear hM;intro w v hR hM hBe
   obtain ⟨gq,rfl,_,hgq⟩:=hR
   obtain rfl:=hgq hj2
   refine Gv rfl (fun _ hF=>gives_indexAddrA (sz:=1) (2) hF rfl Tryz.underlying30 (by kernel_rfl) rfl rfl rfl (by decide) _) (St hM 0 rfl ?_)
   clear hM;intro w hM
   refine Md 0 [0,1,5,7,8] rfl (Nb (Kp [0,1,5,7,8] rfl ?_));intro a hF
   exact ⟨_,_,_,_,_,(hwn _).symm,hF,hM⟩
  have hnt:nok=true:=by cases nok;exact absurd ht (by decide);rfl
  obtain ⟨h800,ng,z,rfl,hz,hzi⟩:=hno hnt
  have hzE:z=9218868437227405312↔ErrX neg I fd k':=hzi.trans (near_err hnfm h800 hkk).symm
  refine Sq (Rg (Mv 2 rfl ?_));intro a hF
  refine op_fsub hF hM rfl rfl rfl rfl rfl rfl ?_;clear hF hM a;intro a w fr hF hM hsub
  have hst:=sub_test hz hsub
  revert a;refine Gv rfl (fun _ hF=>gives_fcmp hF rfl rfl rfl rfl _) (Md 0 [0,1,5,7,8,70] rfl (Nx (Ce rfl (fun ht=> ?_) ((fun ht=> ?_)))))
  ·
   have hz2:=of_decide_eq_false (hst.symm.trans ht)
   have hcE:=errK_no (fun h=>hz2 (hzE.2 h))
   refine Sk (Nb (Kp [0,1,5,7,8] rfl ?_));intro a hF
   exact ⟨_,_,_,_,_,((hwn _).trans (by rw [hcE];rfl)).symm,hF,hM⟩
  have hz2:=of_decide_eq_true (hst.symm.trans ht)
  have hcE:=errK_yes (hzE.1 hz2)
  refine Rg (Gv rfl (fun _ hF=>gives_indexAddrA (sz:=1) (2) hF rfl Tryz.underlying30 (by kernel_rfl) rfl rfl rfl (by decide) _) (St hM 0 rfl ?_))
  clear hM;intro w hM
  refine Md 0 [0,1,5,7,8] rfl (Nb (Kp [0,1,5,7,8] rfl ?_));intro a hF
  exact ⟨_,_,_,_,_,((hwn _).trans (by rw [hcE];rfl)).symm,hF,hM⟩
 have hwn:∀ c2,wnt q.kind x c2=(11,11,11,11,11):=fun c2=>by simp [wnt,hkd]
 refine Rg (Bv rfl rfl (show (((q.kind:Nat):Int)==0)=false from beq_eq_false_iff_ne.2 (by omega)) (Md 1 [0,1,5,7,8,36,37] rfl (Nx (Cf rfl (Sq (Sq (Rg (Bv rfl rfl (show (((q.kind:Nat):Int)==2)=false from beq_eq_false_iff_ne.2 (by omega)) (Md 1 [0,1,5,7,8,36,40] rfl (Nx (Cf rfl (Rg (Bv rfl rfl (show (((q.kind:Nat):Int)==1)=false from beq_eq_false_iff_ne.2 (by omega)) (Md 1 [0,1,5,7,8,36,40] rfl (Nx (Cf rfl (Sq (Rg (Bv rfl rfl (show (((q.kind:Nat):Int)==4)=false from beq_eq_false_iff_ne.2 (by omega)) (Md 1 [0,1,5,7,8,36,44] rfl (Nx (Cf rfl (Sq (Rg (Bv rfl rfl (show (((q.kind:Nat):Int)==3)=false from beq_eq_false_iff_ne.2 (by omega)) (Md 1 [0,1,5,7,8,47] rfl (Nx (Cf rfl (Sk (Nb (Kp [0,1,5,7,8] rfl ?_)))))))))))))))))))))))))))))));intro a hF
 exact ⟨_,_,_,_,_,(hwn _).symm,hF,hM⟩

end Go.Sx