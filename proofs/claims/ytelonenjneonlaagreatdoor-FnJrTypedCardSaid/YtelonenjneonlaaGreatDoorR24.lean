/- Part 24 of the proof of FnJrTyped: the statement Rows.FnJrTypedCardSaid; no further condition. -/
import Derived.Test.YtelonenjneonlaaGreatDoorR23
set_option linter.all false
set_option maxRecDepth 100000
namespace Go.Sx
open Go.RowKit Go.Proofs Js Go.Proofs.YtelonenjneonlaaGreatDoorW.PrintWords
set_option maxHeartbeats 1000000 in
theorem arrayEach_walk {wc w0:World}{L:List Bk}{b4 b5 b6 b7 b8 b9 b o cp ci m o2 cp2:Nat}{D DD u:Str}{items:List (Nat×Str×Nd)}{cap:List Value}(hcap:cap=[.pointer (some ⟨b4,0,none⟩),.pointer (some ⟨b5,0,none⟩),.pointer (some ⟨b6,0,none⟩),.pointer (some ⟨b7,0,none⟩),.pointer (some ⟨b8,0,none⟩),.pointer (some ⟨b9,0,none⟩)]) (hl:D.length≤2^40) (hcp:D.length≤cp) (hDD:D.drop ci=DD) (hci:ci≤D.length) (hu:DD=91::u) (hE:El u items) (hD:Bts wc b o D) (hD2:Bts wc b o2 DD) (hcp2:DD.length≤cp2)
    (hM0:Mem wc.heap.size wc ((b4,3,[.int .i64 ((0:Nat):Int)])::(b5,3,[.int .i64 (m:Int)])::(b6,66,[.slice none 0 0])::(b7,3,[.int .i64 (0)])::(b8,66,[.slice (some ⟨b,o,none⟩) D.length cp])::(b9,3,[.int .i64 (ci:Int)])::L) w0):
    Calls Tryz.prog 156 #[.agg CFG.toArray,.slice (some ⟨b,o2,none⟩) DD.length cp2,.func (.func 157) #[] cap.toArray,.slice none 0 0] w0 (Ret fun v w'=>∃ vf vo,∃ j:Nat,Mem wc.heap.size wc ((b4,3,[.int .i64 (j:Int)])::(b5,3,[.int .i64 (m:Int)])::(b6,66,[vf])::(b7,3,[.int .i64 (vo)])::(b8,66,[.slice (some ⟨b,o,none⟩) D.length cp])::(b9,3,[.int .i64 (ci:Int)])::L) w'∧vf.oneCell'=true∧(∀ o' t n,items[m]?=some (o',t,n)→FoundAt wc b t (1+o') vf vo)):=by
 have hM:=hM0
 have hdl:DD.length≤2^40:=by rw [←hDD,List.length_drop];omega
 have hdl2:ci+DD.length=D.length:=by rw [←hDD,List.length_drop];omega
 have hdp:0<DD.length:=by rw [hu];simp
 have hd0:DD[0]?=some 91:=by rw [hu];rfl
 obtain ⟨w0',c0,hA0,hf0,hw0,hc0,hn0⟩:=(ElAt.start hu hE).blanks
 rw [List.length_drop] at hw0
 refine enter (l:=[.agg CFG.toArray,.slice (some ⟨b,o2,none⟩) DD.length cp2,.func (.func 157) #[] cap.toArray,.slice none 0 0]) 146 Tryz.func156 rfl rfl (Sq (Rg ?_));intro a hF
 refine op_box (vs:=CFG) hF hM rfl rfl rfl rfl rfl rfl ?_;clear hF hM a;intro a w bc hF hM
 replace hM:=hM.perm (L':=(b4,3,[.int .i64 ((0:Nat):Int)])::(b5,3,[.int .i64 (m:Int)])::(b6,66,[.slice none 0 0])::(b7,3,[.int .i64 (0)])::(b8,66,[.slice (some ⟨b,o,none⟩) D.length cp])::(b9,3,[.int .i64 (ci:Int)])::(bc,125,CFG)::L) (pc fun x=>by simp [ct,ct_append] <;> omega)
 revert a;refine Md 2 [1,2,3,4] rfl (Nx (Sq (Sq (Rg (Md 3 [1,2,3,4,20] rfl (Nx (C1 rfl (fun ht=>absurd (eq_of_beq ht) (by omega)) (Sk (Nx (Sq (Rg (Gv rfl (fun _ hF=>gives_loadA hF hM 6 rfl Tryz.underlying125 rfl (by kernel_rfl) rfl rfl) (Mv 1 rfl (Cm hM rfl rfl rfl (nextToken_walk (D:=DD) (cp:=cp2) (.agg CFG.toArray) (by decide) hdl _ (hD2.below hM.below)) ?_))))))))))))))
 clear hM;intro w v hR hM hBe
 obtain rfl:=hR
 intro a hF
 rw [show fst (fun c=> !blB c) DD=0 by rw [hu];rfl,if_pos hdp] at hF
 revert a;refine Md 1 [1,2,3,4,10] rfl (Nx (Sq (Sq (Rg (Md 2 [1,2,3,4,10,26] rfl (Nx (Cf rfl (Sk (Nx (Sq (Sq (Rg (Mv 6 rfl (Gv rfl (fun _ hF=>gives_indexAddrS (sz:=1) (0) hF rfl Tryz.underlying66 (by kernel_rfl) rfl rfl rfl hdp _) (Gv rfl (fun _ hF=>gives_load1 hF rfl Tryz.underlying5 rfl rfl (hD2.cell hM hd0)) (Md 2 [1,2,3,4,10,37] rfl (Nx (C1 rfl (fun ht=>absurd ht (by decide)) (Sk (Nx (Sq (Rg (Mv 1 rfl (Sm (((1:Nat):Int)) rfl (by omega) (Md 1 [1,2,3,4,8] rfl (Nx (Sq (Sq (Rg (Md 3 [1,2,3,4,8,43] rfl (Nx (C1 rfl (fun ht=>absurd ht (by decide)) (Sk (Nx (Sq ?_)))))))))))))))))))))))))))))))))));intro a hF
 refine mix (fun w=>Mem wc.heap.size wc ((b4,3,[.int .i64 ((0:Nat):Int)])::(b5,3,[.int .i64 (m:Int)])::(b6,66,[.slice none 0 0])::(b7,3,[.int .i64 (0)])::(b8,66,[.slice (some ⟨b,o,none⟩) D.length cp])::(b9,3,[.int .i64 (ci:Int)])::(bc,125,CFG)::L) w) 5 (by kernel_rfl) ?_
 replace hM:=hM.drew
 generalize World.drew w=w at*
 refine mtakeL 0 hF hM rfl (by kernel_rfl) (by kernel_rfl) (by kernel_rfl) (by kernel_rfl) (by kernel_rfl) (fun _ _ _ h=>h) rfl rfl (y_plain rfl (fun w hM=>gives_loadA hF hM 6 rfl Tryz.underlying125 rfl (by kernel_rfl) rfl rfl)) ?_;clear hF a;intro a hF
 refine mtakeP 1 hF (.inl hM) rfl (by kernel_rfl) (by kernel_rfl) (by kernel_rfl) rfl (fun _ _ _ h=>h) rfl rfl (y_plain rfl (fun w _=>gives_move hF rfl rfl _)) ?_;clear hF a;intro a hF
 refine mtakeP 2 hF (.inl hM) rfl (by kernel_rfl) (by kernel_rfl) (by kernel_rfl) rfl (fun _ _ _ h=>h) rfl rfl (y_plain rfl (fun w _=>gives_move hF rfl rfl _)) ?_;clear hF a;intro a hF
 refine mtakeP 3 hF (.inl hM) rfl (by kernel_rfl) (by kernel_rfl) (by kernel_rfl) rfl (fun _ _ _ h=>h) rfl rfl (y_plain rfl (fun w _=>gives_slFrom 1 hF rfl Tryz.underlying66 (by kernel_rfl) rfl rfl rfl (by omega) _)) ?_;clear hF a;intro a hF
 rw [←List.length_drop] at hF
 refine malone 4 rfl (by kernel_rfl) ?_
 revert a;refine Cm hM rfl rfl rfl (nextToken_walk (D:=DD.drop 1) (cp:=cp2 - 1) (.agg CFG.toArray) (by decide) (by rw [List.length_drop];omega) _ ((hD2.below hM.below).so 1 hcp2)) ?_
 clear hM;intro w v hR hM hBe
 obtain rfl:=hR
 intro a hF
 rw [hf0,if_pos (show w0'<(DD.drop 1).length by rw [List.length_drop];omega)] at hF
 refine mstep (.inl (hM)) ?_
 refine malone 5 rfl (by kernel_rfl) ?_
 revert a;refine Mv 1 rfl ?_;intro a hF
 refine mstep (.inr (by kernel_rfl)) ?_
 refine mend (by kernel_rfl) ?_
 revert a;refine Kp [1,2,4,8,12] rfl (Nx (Sq (Sq (Rg (Md 2 [1,2,4,8,12,79] rfl (Nx (C1 rfl (fun ht=>absurd (eq_of_beq ht) (by omega)) (Sk (Nx (Sq (Rg (Mv 2 rfl (Sm (((1+w0':Nat):Int)) rfl (by omega) (Md 1 [1,2,4,8] rfl (Nx (Sq (Sq (Rg (Mv 2 rfl (Gv rfl (fun _ hF=>gives_indexAddrS (sz:=1) (1+w0') hF rfl Tryz.underlying66 (by kernel_rfl) rfl rfl rfl (by omega) _) (Gv rfl (fun _ hF=>gives_load1 hF rfl Tryz.underlying5 rfl rfl (hD2.cell hM hc0)) (Md 1 [1,2,4,8,89] rfl (Nx (C1 rfl (fun ht=>absurd (eq_t (d:=93) rfl ht) hn0) (Sk (Nx ?_))))))))))))))))))))))))));intro a hF
 refine cutF (fun a w=>∃ vf vo,∃ j q:Nat,Fr 150 [(8,.int .i64 (q:Int))] a∧Mem wc.heap.size wc ((b4,3,[.int .i64 (j:Int)])::(b5,3,[.int .i64 (m:Int)])::(b6,66,[vf])::(b7,3,[.int .i64 (vo)])::(b8,66,[.slice (some ⟨b,o,none⟩) D.length cp])::(b9,3,[.int .i64 (ci:Int)])::(bc,125,CFG)::L) w∧vf.oneCell'=true∧(∀ o' t n,items[m]?=some (o',t,n)→FoundAt wc b t (1+o') vf vo)) (fun a w h=> ?_) ?_
 ·
  clear hF hM
  obtain ⟨vf,vo,j,q,hF,hM,hvf,hfn⟩:=h
  revert a;exact Sq (Rg (Md 3 [8,9] rfl (Nx (Re (Y2 rfl rfl rfl ⟨_,rfl,vf,vo,j,hM.sub [(bc,125,CFG)] (pc fun x=>by simp [ct,ct_append] <;> omega),hvf,hfn⟩)))))
 revert a;refine Bo (Kp [1,2,4,8] rfl ?_);intro a hF
 refine loopX (fun (x:Nat×Nat) a w=>∃ vf vo,Fr 150 [(1,.slice (some ⟨b,o2,none⟩) DD.length cp2),(2,.func (.func 157) #[] cap.toArray),(4,.pointer (some ⟨bc,0,none⟩)),(8,.int .i64 (x.2:Int))] a∧Mem wc.heap.size wc ((b4,3,[.int .i64 (x.1:Int)])::(b5,3,[.int .i64 (m:Int)])::(b6,66,[vf])::(b7,3,[.int .i64 (vo)])::(b8,66,[.slice (some ⟨b,o,none⟩) D.length cp])::(b9,3,[.int .i64 (ci:Int)])::(bc,125,CFG)::L) w∧vf.oneCell'=true∧ElAt DD items x.1 x.2∧x.1≤x.2∧(m<x.1→(∀ o' t n,items[m]?=some (o',t,n)→FoundAt wc b t (1+o') vf vo))) (fun x=>DD.length - x.2) ((0,1+w0')) ?_ (fun x a w hI=> ?_)
 · exact ⟨_,_,hF,hM,rfl,hA0,Nat.zero_le _,fun h=>absurd h (Nat.not_lt_zero _)⟩
 clear hF hM
 clear hA0 hf0 hw0 hc0 hn0 hd0
 obtain ⟨k,p⟩:=x
 obtain ⟨vf,vo,hF,hM,hvf,hA,hkp,hfn⟩:=hI
 simp only at hF hM hvf hA hkp hfn
 have hp1:=hA.1
 obtain ⟨w1,t,w2,d,r,n,hs,hb1,hb2,hsh,hit,hd,h93,h44⟩:=hA.next
 have hrx:(rawx n t).length≤t.length:=by unfold rawx;split;(rw [List.length_take,List.length_drop];omega);exact Nat.le_refl _
 obtain ⟨ch,uh,hch,_⟩:=vhead_of hsh
 have htl:0<t.length:=by rw [hch];simp
 have hln:=congrArg List.length hs
 simp only [List.length_drop,List.length_append,List.length_cons] at hln
 have hfo:Fol (w2++d::r):=Fol.bl hb2 (Fol.cons (by rcases hd with rfl | rfl <;> rfl) _)
 have hdb:isBlank d=false:=by rcases hd with rfl | rfl <;> rfl
 have hs2:DD.drop (p+w1.length+t.length)=w2++d::r:=by rw [show p+w1.length+t.length=p+(w1.length+t.length) by omega,←List.drop_drop,hs,←List.drop_drop,List.drop_left,List.drop_left]
 have hdq:DD[p+w1.length+t.length+w2.length]?=some d:=by rw [←List.getElem?_drop,hs2,List.getElem?_append_right (Nat.le_refl _),Nat.sub_self];rfl
 have he1:D.drop (ci+(p+w1.length))=t++(w2++d::r):=by rw [←List.drop_drop,hDD,←List.drop_drop,hs,List.drop_left]
 refine wp_block (seq ?_)
 refine mix (fun w=>Mem wc.heap.size wc ((b4,3,[.int .i64 (k:Int)])::(b5,3,[.int .i64 (m:Int)])::(b6,66,[vf])::(b7,3,[.int .i64 (vo)])::(b8,66,[.slice (some ⟨b,o,none⟩) D.length cp])::(b9,3,[.int .i64 (ci:Int)])::(bc,125,CFG)::L) w) 13 (by kernel_rfl) ?_
 replace hM:=hM.drew
 generalize World.drew w=w at*
 refine mtakeL 0 hF hM rfl (by kernel_rfl) (by kernel_rfl) (by kernel_rfl) (by kernel_rfl) (by kernel_rfl) (fun _ _ _ h=>h) rfl rfl (y_plain rfl (fun w hM=>gives_loadA hF hM 6 rfl Tryz.underlying125 rfl (by kernel_rfl) rfl rfl)) ?_;clear hF a;intro a hF
 refine mtakeP 1 hF (.inl hM) rfl (by kernel_rfl) (by kernel_rfl) (by kernel_rfl) rfl (fun _ _ _ h=>h) rfl rfl (y_plain rfl (fun w _=>gives_move hF rfl rfl _)) ?_;clear hF a;intro a hF
 refine mtakeP 2 hF (.inl hM) rfl (by kernel_rfl) (by kernel_rfl) (by kernel_rfl) rfl (fun _ _ _ h=>h) rfl rfl (y_plain rfl (fun w _=>gives_move hF rfl rfl _)) ?_;clear hF a;intro a hF
 refine mtakeP 3 hF (.inl hM) rfl (by kernel_rfl) (by kernel_rfl) (by kernel_rfl) rfl (fun _ _ _ h=>h) rfl rfl (y_plain rfl (fun w _=>gives_slFrom p hF rfl Tryz.underlying66 (by kernel_rfl) rfl rfl rfl (by omega) _)) ?_;clear hF a;intro a hF
 rw [←List.length_drop] at hF
 refine malone 4 rfl (by kernel_rfl) ?_
 revert a;refine Cm hM rfl rfl rfl (cfgGet_walk (D:=DD.drop p) (cp:=cp2 - p) hs hb1 hsh hfo (by rw [List.length_drop];omega) (by rw [List.length_drop];omega) _ ((hD2.below hM.below).so p hcp2)) ?_
 clear hM;intro w v hR hM hBe
 obtain ⟨a1,rfl,hx⟩:=hR
 have hxx:=(hx.below hBe).back hM.below hD.1
 clear hx
 intro a hF
 refine mstep (.inl (hM)) ?_
 refine malone 5 rfl (by kernel_rfl) ?_
 revert a;refine Mv 1 rfl ?_;intro a hF
 refine mstep (.inl (hM)) ?_
 refine mtakeP 6 hF (.inl hM) rfl (by kernel_rfl) (by kernel_rfl) (by kernel_rfl) rfl (fun _ _ _ h=>h) rfl rfl (y_plain rfl (fun w _=>gives_extract hF rfl rfl rfl _)) ?_;clear hF a;intro a hF
 refine mtakeP 7 hF (.inl hM) rfl (by kernel_rfl) (by kernel_rfl) (by kernel_rfl) rfl (fun _ _ _ h=>h) rfl rfl (y_plain rfl (fun w _=>gives_extract hF rfl rfl rfl _)) ?_;clear hF a;intro a hF
 refine mtakeP 8 hF (.inl hM) rfl (by kernel_rfl) (by kernel_rfl) (by kernel_rfl) rfl (fun _ _ _ h=>h) rfl rfl (y_plain rfl (fun w _=>gives_extract hF rfl rfl rfl _)) ?_;clear hF a;intro a hF
 refine mtakeP 9 hF (.inl hM) rfl (by kernel_rfl) (by kernel_rfl) (by kernel_rfl) rfl (fun _ _ _ h=>h) rfl rfl (y_plain rfl (fun w _=>gives_extract hF rfl rfl rfl _)) ?_;clear hF a;intro a hF
 refine malone 10 rfl (by kernel_rfl) ?_
 revert a;refine Mv 1 rfl ?_;intro a hF
 refine mstep (.inl (hM)) ?_
 refine malone 11 rfl (by kernel_rfl) ?_
 revert a;refine Mv 1 rfl ?_;intro a hF
 refine mstep (.inl (hM)) ?_
 refine malone 12 rfl (by kernel_rfl) ?_
 revert a;refine Mv 1 rfl ?_;intro a hF
 refine mstep (.inl (hM)) ?_
 refine malone 13 rfl (by kernel_rfl) ?_
 revert a;refine Mv 1 rfl ?_;intro a hF
 refine mstep (.inr (by kernel_rfl)) ?_
 refine mend (by kernel_rfl) ?_
 revert a;refine Kp [1,2,4,8,13,14,15,16] rfl (Nx (Sq (Sq (Rg (Md 2 [1,2,4,8,13,14,15,16,102] rfl (Nx (C1 rfl (fun ht=>absurd (eq_of_beq ht) (by omega)) (Sk (Nx (Sq (Rg (Mv 5 rfl (Sm (((p+w1.length+t.length:Nat):Int)) rfl (by omega) (Mv 2 rfl (Sm (((p+w1.length+t.length:Nat) - ((rawx n t).length:Int))) rfl (by omega) (Mv 1 rfl ?_))))))))))))))));intro a hF
 refine op_callV hF rfl rfl rfl rfl rfl Tryz.func157 (by kernel_rfl) rfl rfl (by rw [hcap];exact cb_walk (a0:=a1) (start:=p+w1.length) (j:=k) hvf (by omega) hl hcp he1 (by omega) hsh hD hxx hM) ?_
 clear hF hM a;intro a w v hR hF
 obtain ⟨rfl,vf',vo',hM,hvf',hno,hyes⟩:=hR
 have hfn':m<k+1→(∀ o' t n,items[m]?=some (o',t,n)→FoundAt wc b t (1+o') vf' vo'):=by
   intro hmk o' t' n' hi
   rcases Classical.em (k=m) with hkm | hkm
   · rw [←hkm,hit] at hi
     simp only [Option.some.injEq,Prod.mk.injEq] at hi
     obtain ⟨rfl,rfl,rfl⟩:=hi
     rw [show 1+(p+w1.length - 1)=p+w1.length by omega]
     exact hyes hkm
   · obtain ⟨rfl,rfl⟩:=hno hkm
     exact hfn (by omega) o' t' n' hi
 revert a;refine Md 0 [1,2,4,8,15,16] rfl (Nx (Sq (Sq (Rg (Mv 1 rfl ?_)))));intro a hF
 refine op_neNil hF rfl rfl rfl rfl rfl ⟨_,Tryz.underlying63⟩ ?_;clear hF a;intro a hF
 revert a;refine Md 0 [1,2,4,8,15,16,117] rfl (Nx (Cf rfl (Sk (Nx (Sq (Rg (Mv 2 rfl (Sm (((p+w1.length+t.length:Nat):Int)) rfl (by omega) (Md 1 [1,2,4,8] rfl (Nx (Sq ?_)))))))))));intro a hF
 refine mix (fun w=>Mem wc.heap.size wc ((b4,3,[.int .i64 ((k+1:Nat):Int)])::(b5,3,[.int .i64 (m:Int)])::(b6,66,[vf'])::(b7,3,[.int .i64 (vo')])::(b8,66,[.slice (some ⟨b,o,none⟩) D.length cp])::(b9,3,[.int .i64 (ci:Int)])::(bc,125,CFG)::L) w) 5 (by kernel_rfl) ?_
 replace hM:=hM.drew
 generalize World.drew w=w at*
 refine mtakeL 0 hF hM rfl (by kernel_rfl) (by kernel_rfl) (by kernel_rfl) (by kernel_rfl) (by kernel_rfl) (fun _ _ _ h=>h) rfl rfl (y_plain rfl (fun w hM=>gives_loadA hF hM 6 rfl Tryz.underlying125 rfl (by kernel_rfl) rfl rfl)) ?_;clear hF a;intro a hF
 refine mtakeP 1 hF (.inl hM) rfl (by kernel_rfl) (by kernel_rfl) (by kernel_rfl) rfl (fun _ _ _ h=>h) rfl rfl (y_plain rfl (fun w _=>gives_move hF rfl rfl _)) ?_;clear hF a;intro a hF
 refine mtakeP 2 hF (.inl hM) rfl (by kernel_rfl) (by kernel_rfl) (by kernel_rfl) rfl (fun _ _ _ h=>h) rfl rfl (y_plain rfl (fun w _=>gives_move hF rfl rfl _)) ?_;clear hF a;intro a hF
 refine mtakeP 3 hF (.inl hM) rfl (by kernel_rfl) (by kernel_rfl) (by kernel_rfl) rfl (fun _ _ _ h=>h) rfl rfl (y_plain rfl (fun w _=>gives_slFrom (p+w1.length+t.length) hF rfl Tryz.underlying66 (by kernel_rfl) rfl rfl rfl (by omega) _)) ?_;clear hF a;intro a hF
 rw [←List.length_drop] at hF
 refine malone 4 rfl (by kernel_rfl) ?_
 revert a;refine Cm hM rfl rfl rfl (nextToken_walk (D:=DD.drop (p+w1.length+t.length)) (cp:=cp2 - (p+w1.length+t.length)) (.agg CFG.toArray) (by decide) (by rw [List.length_drop];omega) _ ((hD2.below hM.below).so (p+w1.length+t.length) hcp2)) ?_
 clear hM;intro w v hR hM hBe
 obtain rfl:=hR
 intro a hF
 rw [show fst (fun c=> !blB c) (DD.drop (p+w1.length+t.length))=w2.length by rw [hs2];exact fst_bl hb2 hdb _,if_pos (show w2.length<(DD.drop (p+w1.length+t.length)).length by rw [List.length_drop];omega)] at hF
 refine mstep (.inl (hM)) ?_
 refine malone 5 rfl (by kernel_rfl) ?_
 revert a;refine Mv 1 rfl ?_;intro a hF
 refine mstep (.inr (by kernel_rfl)) ?_
 refine mend (by kernel_rfl) ?_
 revert a;refine Kp [1,2,4,8,17] rfl (Nx (Sq (Sq (Rg (Md 2 [1,2,4,8,17,129] rfl (Nx (C1 rfl (fun ht=>absurd (eq_of_beq ht) (by omega)) (Sk (Nx (Sq (Rg (Mv 2 rfl (Sm (((p+w1.length+t.length+w2.length:Nat):Int)) rfl (by omega) (Md 1 [1,2,4,8] rfl (Nx (Sq (Sq (Rg (Mv 2 rfl (Gv rfl (fun _ hF=>gives_indexAddrS (sz:=1) (p+w1.length+t.length+w2.length) hF rfl Tryz.underlying66 (by kernel_rfl) rfl rfl rfl (by omega) _) (Gv rfl (fun _ hF=>gives_load1 hF rfl Tryz.underlying5 rfl rfl (hD2.cell hM hdq)) (Md 1 [1,2,4,8,139] rfl (Nx (Cd rfl (fun ht=> ?_) ((fun ht=> ?_))))))))))))))))))))))))))
 ·
  have hd93:=eq_t (d:=93) rfl ht
  have hend:=h93 hd93
  refine Ex (Ot (Op' rfl (Ot (Ob (Kp [8] rfl ?_)))));intro a hF
  exact ⟨_,_,_,_,hF,hM,hvf',fun o' t' n' hi=>hfn' (by have:=(List.getElem?_eq_some_iff.1 hi).1;omega) o' t' n' hi⟩
 have hd44:d=44:=by rcases hd with h | h;exact absurd h (eq_f (d:=93) rfl ht);exact h
 refine Sk (Nx (Sq (Sq (Rg (Mv 2 rfl (Gv rfl (fun _ hF=>gives_indexAddrS (sz:=1) (p+w1.length+t.length+w2.length) hF rfl Tryz.underlying66 (by kernel_rfl) rfl rfl rfl (by omega) _) (Gv rfl (fun _ hF=>gives_load1 hF rfl Tryz.underlying5 rfl rfl (hD2.cell hM hdq)) (Md 1 [1,2,4,8,144] rfl (Nx (C1 rfl (fun ht=>absurd hd44 (ne_t (d:=44) rfl ht)) (Sk (Nx (Rg (Mv 1 rfl (Sm (((p+w1.length+t.length+w2.length+1:Nat):Int)) rfl (by omega) (Md 1 [1,2,4,8] rfl (Nb (Kp [1,2,4,8] rfl ?_))))))))))))))))));intro a hF
 exact ⟨(k+1,p+w1.length+t.length+w2.length+1),⟨vf',vo',hF,hM,hvf',h44 hd44,by simp only;omega,hfn'⟩,by simp only;omega⟩

end Go.Sx