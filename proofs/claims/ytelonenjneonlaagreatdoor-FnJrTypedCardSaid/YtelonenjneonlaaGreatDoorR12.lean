/- Part 12 of the proof of FnJrTyped: the statement Rows.FnJrTypedCardSaid; no further condition. -/
import Derived.Test.YtelonenjneonlaaGreatDoorR11
set_option linter.all false
set_option exponentiation.threshold 2000
set_option maxRecDepth 100000
namespace Go.Sx
open Go.RowKit Go.Proofs Js Go.Proofs.YtelonenjneonlaaGreatDoorW.PrintWords
theorem jpT_some {T:Str}{p:Js.Place}(h:jpT T=some p):T.length≤65536∧pText T=some p:=by
  unfold jpT at h
  split at h
  next hl=>exact ⟨hl,h⟩
  · cases h
end Go.Sx
namespace Js
theorem drop_cons' {α:Type}{l:List α}{i:Nat}{c:α}(h:l[i]?=some c):l.drop i=c::l.drop (i+1):=by
  obtain ⟨hl,he⟩:=List.getElem?_eq_some_iff.1 h
  rw [List.drop_eq_getElem_cons hl,he]
end Js
namespace Go.Sx
open Go.RowKit Go.Proofs Js
theorem follow_cons {T:Str}{p q:Js.Place}{ks:List Str}{j:Nat}{key:Str}(hk:ks[j]?=some key) (hnb: ¬ (p.kind=6∧key.head?=some 91)) (hs:stepP T p key=some q):Js.follow T p (ks.drop j)=Js.follow T q (ks.drop (j+1)):=by
  rw [Js.drop_cons' hk]
  simp only [Js.follow]
  rw [if_neg hnb,hs];rfl
theorem jpFound_walk {T:Str}(hT:T.length≤2^37) {B:Nat}{wc w0:World}{L:List Bk}{o:Option Addr}{c:Nat}{ks:List Str}(hsn:KyB B wc o c ks) (hkl:∀ s∈ks,s.length≤2^40) (hM0:Mem B wc L w0):
    Calls Tryz.prog 7 #[.string (mkS T),.slice o ks.length c] w0 (Ret fun v w'=>(∃ (k b e:Int) (o1:Option Addr) (l1 c1:Nat) (o2:Option Addr) (l2 c2:Nat) (ok:Bool),v= .tuple #[.agg [.int .i64 k,.int .i64 b,.int .i64 e,.slice o1 l1 c1,.slice o2 l2 c2].toArray,.bool ok]∧(ok=true→T.length≤65536∧∃ p q,pText T=some p∧Js.follow T p ks=some q∧WfPl T q∧k=q.kind∧b=q.b∧e=q.e))∧Mem B wc L w'):=by
 have hM:=hM0
 have hsz:=hsn.small
 refine enter (l:=[.string (mkS T),.slice o ks.length c]) 49 Tryz.func7 rfl rfl (Sq (Rg ?_));intro a hF
 refine op_alloc hF hM rfl (vs:=[.int .i64 0,.int .i64 0,.int .i64 0,.slice none 0 0,.slice none 0 0]) rfl rfl rfl (by kernel_rfl) ?_;clear hF hM a;intro a w b4 hF hM
 revert a;refine Md 1 [0,1,4] rfl (Nx (Sq ?_))
 rcases hp:jpT T with _ | p0
 ·
  refine Rg (Mv 1 rfl (Cl rfl rfl rfl (jpPlaces_walk (T:=T) hT w) ?_))
  intro w2 v hR
  rw [hp] at hR
  obtain ⟨x,y,z,rfl,hBe⟩:=hR
  replace hM:=hM.step hBe
  clear hBe
  refine Mv 3 rfl ?_;intro a hF
  refine op_alloc hF hM rfl (vs:=[.int .i64 0,.int .i64 0,.int .i64 0,.slice none 0 0,.slice none 0 0]) rfl rfl rfl (by kernel_rfl) ?_;clear hF hM a;intro a w b6 hF hM
  refine op_storeA hF hM rfl 0 rfl rfl (by kernel_rfl) rfl rfl rfl rfl (rfl) ?_;clear hF hM a;intro a w hF hM
  revert a;refine Md 1 [0,1,4,6,7] rfl (Nx (Sq (Sq ?_)))
  skip
  refine Rg (Md 9 [0,1,4,6,23] rfl (Nx (Ct rfl (Sq (Rg (Gv rfl (fun _ hF=>gives_build (parts:=[]) (vals:=[]) (cells:=[.int .i64 0,.int .i64 0,.int .i64 0,.slice none 0 0,.slice none 0 0]) hF rfl rfl (by kernel_rfl) _) ?_))))));intro a hF
  refine op_storeA hF hM rfl 1 rfl rfl (by kernel_rfl) rfl rfl rfl rfl (rfl) ?_;clear hF hM a;intro a w hF hM
  revert a;refine Md 1 [4,5] rfl (Nx (Re (Rt ?_)));intro a hF
  refine retMany (vs:=[_,_]) hF hM rfl rfl (.cell 1 rfl rfl Tryz.underlying27 rfl (by kernel_rfl) (.tmp rfl .nil)) ⟨_,rfl,⟨_,_,_,_,_,_,_,_,_,_,rfl,fun h=>by cases h⟩,by first | exact hM.drop (List.Sublist.cons _ (List.sublist_cons_self _ _)) | exact hM.drop (List.Sublist.cons _ (List.Sublist.cons _ (List.sublist_append_right _ _)))⟩
 obtain ⟨hTl,hp0⟩:=jpT_some hp
 refine Rg (Mv 1 rfl (Cl rfl rfl rfl (jpPlaces_walk (T:=T) hT w) ?_))
 intro w2 v hR
 rw [hp] at hR
 obtain ⟨cs,TB,rfl,hcs,hM2⟩:=hR
 replace hM:=(hM.join hM2).perm (L':=(b4,27,[.int .i64 0,.int .i64 0,.int .i64 0,.slice none 0 0,.slice none 0 0])::(TB++L)) (pc fun x=>by simp [ct,ct_append] <;> omega)
 clear hM2
 have hcl:=hcs.len
 obtain ⟨k1,k2,k3,o1,l1,c1,o2,l2,c2,rfl⟩:=hcs.shape
 refine Mv 3 rfl ?_;intro a hF
 refine op_alloc hF hM rfl (vs:=[.int .i64 0,.int .i64 0,.int .i64 0,.slice none 0 0,.slice none 0 0]) rfl rfl rfl (by kernel_rfl) ?_;clear hF hM a;intro a w b6 hF hM
 refine op_storeA hF hM rfl 0 rfl rfl (by kernel_rfl) rfl rfl rfl rfl (rfl) ?_;clear hF hM a;intro a w hF hM
 revert a;refine Md 1 [0,1,4,6,7] rfl (Nx (Sq (Sq (Rg (Mv 4 rfl ?_)))));intro a hF
 refine guard_yes hF rfl rfl rfl rfl rfl rfl ?_
 refine op_loadA hF hM rfl 0 rfl rfl rfl Tryz.underlying27 rfl (by kernel_rfl) rfl rfl ?_;clear hF a;intro a hF
 revert a;refine Mv 1 rfl (Cl rfl rfl rfl (once_walk hT hsn hkl (RepPl.mono (by intro z hz;simp [hz]) _ _ hcs) (text_wf hp0) (text_eq hp0) hM) ?_)
 clear hM;intro w v hR
 obtain ⟨⟨ob,rfl⟩,hM⟩:=hR
 refine Md 2 [0,1,4,6,23] rfl (Nx (C0 rfl ?_ ?_))
 ·
  refine Sq (Rg (Gv rfl (fun _ hF=>gives_build (parts:=[]) (vals:=[]) (cells:=[.int .i64 0,.int .i64 0,.int .i64 0,.slice none 0 0,.slice none 0 0]) hF rfl rfl (by kernel_rfl) _) ?_));intro a hF
  refine op_storeA hF hM rfl 1 rfl rfl (by kernel_rfl) rfl rfl rfl rfl (rfl) ?_;clear hF hM a;intro a w hF hM
  revert a;refine Md 1 [4,5] rfl (Nx (Re (Rt ?_)));intro a hF
  refine retMany (vs:=[_,_]) hF hM rfl rfl (.cell 1 rfl rfl Tryz.underlying27 rfl (by kernel_rfl) (.tmp rfl .nil)) ⟨_,rfl,⟨_,_,_,_,_,_,_,_,_,_,rfl,fun h=>Bool.noConfusion h⟩,by first | exact hM.drop (List.Sublist.cons _ (List.sublist_cons_self _ _)) | exact hM.drop (List.Sublist.cons _ (List.Sublist.cons _ (List.sublist_append_right _ _)))⟩
 refine Sk (Nx (Sq (Sq (Rg (Md 3 [0,4,6,25,26,27] rfl (Nx (Bo (Kp [0,4,6,25,26,27] rfl ?_))))))));intro a hF
 refine loopX (fun (x:Js.Place×Nat) a w=>∃ cs,Fr 51 [(0,.string (mkS T)),(4,.pointer (some ⟨b4,0,none⟩)),(6,.pointer (some ⟨b6,0,none⟩)),(25,.slice o ks.length c),(26,.int .i64 (ks.length:Int)),(27,.int .i64 (x.2:Int))] a∧Mem B wc ((b6,27,cs)::(b4,27,[.int .i64 0,.int .i64 0,.int .i64 0,.slice none 0 0,.slice none 0 0])::(TB++L)) w∧RepPl TB x.1 cs∧WfPl T x.1∧EqPl x.1∧x.2≤ks.length∧Js.follow T p0 ks=Js.follow T x.1 (ks.drop x.2)) (fun x=>ks.length - x.2) ((p0,0)) ?_ (fun x a w hI=> ?_)
 · exact ⟨_,hF,hM,hcs,text_wf hp0,text_eq hp0,Nat.zero_le _,rfl⟩
 clear hF hM
 clear hcl hcs
 obtain ⟨⟨k,b,e,ns,kids⟩,m⟩:=x
 obtain ⟨cs,hF,hM,hR,hW,hE,hml,hfol⟩:=hI
 simp only at hF hM hR hW hE hml hfol
 have hR0:=hR
 simp only [RepPl] at hR
 obtain ⟨sn,sk,xs,rfl,hpn,hpk,hkr⟩:=hR
 obtain ⟨o1,c1,rfl⟩:=hpn.shape
 obtain ⟨o2,c2,rfl⟩:=hpk.shape
 revert a;refine Sq (Rg (Md 1 [0,4,6,25,26,27,28] rfl (Nx (Sq (Ce rfl (fun ht=> ?_) ((fun ht=> ?_)))))))
 ·
  have hmn:m=ks.length:=by have:=of_decide_eq_false ht;omega
  rw [hmn,List.drop_length] at hfol
  refine Ex (Ot (Ot (Ob (Nx (Sq (Rg ?_))))));intro a hF
  refine op_loadA hF hM rfl 0 rfl rfl rfl Tryz.underlying27 rfl (by kernel_rfl) rfl rfl ?_;clear hF a;intro a hF
  refine op_storeA hF hM rfl 1 rfl rfl (by kernel_rfl) rfl rfl rfl rfl (rfl) ?_;clear hF hM a;intro a w hF hM
  revert a;refine Md 1 [4,5] rfl (Nx (Re ?_));intro a hF
  refine retMany (vs:=[_,_]) hF hM rfl rfl (.cell 1 rfl rfl Tryz.underlying27 rfl (by kernel_rfl) (.tmp rfl .nil)) ⟨_,rfl,⟨_,_,_,_,_,_,_,_,_,_,rfl,fun _=>⟨hTl,p0,_,hp0,hfol,hW,rfl,rfl,rfl⟩⟩,by first | exact hM.drop (List.Sublist.cons _ (List.sublist_cons_self _ _)) | exact hM.drop (List.Sublist.cons _ (List.Sublist.cons _ (List.sublist_append_right _ _)))⟩
 have hm:m<ks.length:=by have:=of_decide_eq_true ht;omega
 obtain ⟨key,hkey⟩:∃ t,ks[m]?=some t:=⟨_,List.getElem?_eq_getElem hm⟩
 have hkyl:=hkl key (List.mem_of_getElem? hkey)
 obtain ⟨gk,ko,hok,hgk,hcellk⟩:=hsn.at_ hkey
 intro a hF
 rw [hok] at hF
 revert a;refine Sk (Nx (Sq (Bo (Sq (Rg (Gv rfl (fun _ hF=>gives_indexAddrS (sz:=1) (m) hF rfl Tryz.underlying22 (by kernel_rfl) rfl rfl rfl hm _) (Gv rfl (fun _ hF=>gives_load1 hF rfl Tryz.underlying9 rfl rfl ((show w.cell? ⟨gk,ko+m*1,none⟩=some (.string (mkS key)) from by rw [Nat.mul_one];exact (hM.below.cell hgk).trans hcellk))) (Md 1 [0,4,6,9,25,26,27] rfl ?_))))))));intro a hF
 rw [←hok] at hF
 revert a;refine Nx (Sq (Sq ?_))
 rcases Classical.em (k=6) with hk6 | hk6
 ·
  refine Rg (Mv 1 rfl (Ld hM 0 rfl rfl (Mv 1 rfl ?_)));intro a hF
  rw [show (((k:Nat):Int)==6)=true by rw [hk6];rfl] at hF
  revert a;refine Mv 2 rfl (Cm hM rfl rfl rfl (jpIndex_walk key _) ?_)
  clear hM;intro w v hR hM hBe
  obtain rfl:=hR
  refine Md 1 [0,4,6,9,25,26,27,37] rfl (Nx (C2 rfl ?_ ((fun ht=> ?_))))
  ·
   refine Sq (Rg (Gv rfl (fun _ hF=>gives_build (parts:=[]) (vals:=[]) (cells:=[.int .i64 0,.int .i64 0,.int .i64 0,.slice none 0 0,.slice none 0 0]) hF rfl rfl (by kernel_rfl) _) ?_));intro a hF
   refine op_storeA hF hM rfl 1 rfl rfl (by kernel_rfl) rfl rfl rfl rfl (rfl) ?_;clear hF hM a;intro a w hF hM
   revert a;refine Md 1 [4,5] rfl (Nx (Re (Rt (Rb (Rt (Rt (Rb (Rt ?_))))))));intro a hF
   refine retMany (vs:=[_,_]) hF hM rfl rfl (.cell 1 rfl rfl Tryz.underlying27 rfl (by kernel_rfl) (.tmp rfl .nil)) ⟨_,rfl,⟨_,_,_,_,_,_,_,_,_,_,rfl,fun h=>Bool.noConfusion h⟩,by first | exact hM.drop (List.Sublist.cons _ (List.sublist_cons_self _ _)) | exact hM.drop (List.Sublist.cons _ (List.Sublist.cons _ (List.sublist_append_right _ _)))⟩
  have hnb: ¬ ((Js.Place.mk k b e ns kids).kind=6∧key.head?=some 91):=fun h=>by cases key with | nil=>cases h.2 | cons c r=>(unfold jidx at ht;exact absurd (Option.some.inj h.2) (of_decide_eq_false ht))
  refine Sk (Nx (Sq (Rg (Mv 1 rfl ?_))));intro a hF
  refine op_loadA hF hM rfl 0 rfl rfl rfl Tryz.underlying27 rfl (by kernel_rfl) rfl rfl ?_;clear hF a;intro a hF
  revert a;refine Mv 1 rfl (Cl rfl rfl rfl (step_walk (key:=key) (TB:=TB) hT hkyl (by intro z hz;simp [hz]) hR0 hW hE hM) ?_)
  clear hM;intro w v hR
  obtain ⟨⟨cq,ok,rfl,hq⟩,hM⟩:=hR
  obtain ⟨y1,y2,y3,q1,m1,e1,q2,m2,e2,rfl⟩:∃ (k b e:Int) (o1:Option Addr) (l1 c1:Nat) (o2:Option Addr) (l2 c2:Nat),cq=[.int .i64 k,.int .i64 b,.int .i64 e,.slice o1 l1 c1,.slice o2 l2 c2]:=by
    split at hq
    · exact hq.2.shape
    · exact ⟨_,_,_,_,_,_,_,_,_,hq.2⟩
  refine Mv 3 rfl ?_;intro a hF
  refine op_storeA hF hM rfl 0 rfl rfl (by kernel_rfl) rfl rfl rfl rfl (rfl) ?_;clear hF hM a;intro a w hF hM
  revert a;refine Md 1 [0,4,6,7,25,26,27] rfl (Nx (Sq (Rg (Md 2 [0,4,6,25,26,27,47] rfl (Nx (D2 rfl (fun ht=> ?_) ?_))))))
  ·
   obtain ⟨q,hsome,hqR⟩:∃ q,stepP T (.mk k b e ns kids) key=some q∧RepPl TB q [.int .i64 y1,.int .i64 y2,.int .i64 y3,.slice q1 m1 e1,.slice q2 m2 e2]:=by
     split at hq
     · next q h=>exact ⟨q,h,hq.2⟩
     · rw [hq.1] at ht;cases ht
   refine Sk (Nb (Nx (Rg (Sn rfl (by omega) (Md 1 [0,4,6,25,26,27] rfl ?_)))));intro a hF
   exact ⟨(q,m+1),⟨_,hF,hM,hqR,WfPl.step (T:=T) hW hsome,EqPl.step (T:=T) hE hsome,hm,by rw [hfol];exact follow_cons hkey hnb hsome⟩,by simp only;omega⟩
  refine Sq (Rg (Gv rfl (fun _ hF=>gives_build (parts:=[]) (vals:=[]) (cells:=[.int .i64 0,.int .i64 0,.int .i64 0,.slice none 0 0,.slice none 0 0]) hF rfl rfl (by kernel_rfl) _) ?_));intro a hF
  refine op_storeA hF hM rfl 1 rfl rfl (by kernel_rfl) rfl rfl rfl rfl (rfl) ?_;clear hF hM a;intro a w hF hM
  revert a;refine Md 1 [4,5] rfl (Nx (Re (Rb (Rt (Rt (Rb (Rt ?_)))))));intro a hF
  refine retMany (vs:=[_,_]) hF hM rfl rfl (.cell 1 rfl rfl Tryz.underlying27 rfl (by kernel_rfl) (.tmp rfl .nil)) ⟨_,rfl,⟨_,_,_,_,_,_,_,_,_,_,rfl,fun h=>Bool.noConfusion h⟩,by first | exact hM.drop (List.Sublist.cons _ (List.sublist_cons_self _ _)) | exact hM.drop (List.Sublist.cons _ (List.Sublist.cons _ (List.sublist_append_right _ _)))⟩
 have hnb: ¬ ((Js.Place.mk k b e ns kids).kind=6∧key.head?=some 91):=fun h=>hk6 h.1
 refine Rg (Mv 1 rfl (Ld hM 0 rfl rfl (Mv 1 rfl ?_)));intro a hF
 rw [show (((k:Nat):Int)==6)=false by simp;omega] at hF
 revert a;refine Md 4 [0,4,6,9,25,26,27,37] rfl (Nx (Cf rfl (Sk (Nx (Sq (Rg (Mv 1 rfl ?_)))))));intro a hF
 refine op_loadA hF hM rfl 0 rfl rfl rfl Tryz.underlying27 rfl (by kernel_rfl) rfl rfl ?_;clear hF a;intro a hF
 revert a;refine Mv 1 rfl (Cl rfl rfl rfl (step_walk (key:=key) (TB:=TB) hT hkyl (by intro z hz;simp [hz]) hR0 hW hE hM) ?_)
 clear hM;intro w v hR
 obtain ⟨⟨cq,ok,rfl,hq⟩,hM⟩:=hR
 obtain ⟨y1,y2,y3,q1,m1,e1,q2,m2,e2,rfl⟩:∃ (k b e:Int) (o1:Option Addr) (l1 c1:Nat) (o2:Option Addr) (l2 c2:Nat),cq=[.int .i64 k,.int .i64 b,.int .i64 e,.slice o1 l1 c1,.slice o2 l2 c2]:=by
   split at hq
   · exact hq.2.shape
   · exact ⟨_,_,_,_,_,_,_,_,_,hq.2⟩
 refine Mv 3 rfl ?_;intro a hF
 refine op_storeA hF hM rfl 0 rfl rfl (by kernel_rfl) rfl rfl rfl rfl (rfl) ?_;clear hF hM a;intro a w hF hM
 revert a;refine Md 1 [0,4,6,7,25,26,27] rfl (Nx (Sq (Rg (Md 2 [0,4,6,25,26,27,47] rfl (Nx (D2 rfl (fun ht=> ?_) ?_))))))
 ·
  obtain ⟨q,hsome,hqR⟩:∃ q,stepP T (.mk k b e ns kids) key=some q∧RepPl TB q [.int .i64 y1,.int .i64 y2,.int .i64 y3,.slice q1 m1 e1,.slice q2 m2 e2]:=by
    split at hq
    · next q h=>exact ⟨q,h,hq.2⟩
    · rw [hq.1] at ht;cases ht
  refine Sk (Nb (Nx (Rg (Sn rfl (by omega) (Md 1 [0,4,6,25,26,27] rfl ?_)))));intro a hF
  exact ⟨(q,m+1),⟨_,hF,hM,hqR,WfPl.step (T:=T) hW hsome,EqPl.step (T:=T) hE hsome,hm,by rw [hfol];exact follow_cons hkey hnb hsome⟩,by simp only;omega⟩
 refine Sq (Rg (Gv rfl (fun _ hF=>gives_build (parts:=[]) (vals:=[]) (cells:=[.int .i64 0,.int .i64 0,.int .i64 0,.slice none 0 0,.slice none 0 0]) hF rfl rfl (by kernel_rfl) _) ?_));intro a hF
 refine op_storeA hF hM rfl 1 rfl rfl (by kernel_rfl) rfl rfl rfl rfl (rfl) ?_;clear hF hM a;intro a w hF hM
 revert a;refine Md 1 [4,5] rfl (Nx (Re (Rb (Rt (Rt (Rb (Rt ?_)))))));intro a hF
 refine retMany (vs:=[_,_]) hF hM rfl rfl (.cell 1 rfl rfl Tryz.underlying27 rfl (by kernel_rfl) (.tmp rfl .nil)) ⟨_,rfl,⟨_,_,_,_,_,_,_,_,_,_,rfl,fun h=>Bool.noConfusion h⟩,by first | exact hM.drop (List.Sublist.cons _ (List.sublist_cons_self _ _)) | exact hM.drop (List.Sublist.cons _ (List.Sublist.cons _ (List.sublist_append_right _ _)))⟩
end Go.Sx
namespace Js
end Js
namespace Go.Sx
open Go.RowKit Go.Proofs Js Go.Proofs.YtelonenjneonlaaGreatDoorW.PrintWords
theorem zzFits1_walk {o:Option Addr}{c:Nat}{ks:List Str}{L:List Bk}{B:Nat}{wc w0:World}(hsn:KyB B wc o c ks) (hM0:Mem B wc L w0):
    Calls Tryz.prog 6 #[.slice o ks.length c] w0 (Ret fun v w'=>(∃ b,v= .bool b∧(b=true→ks.length≤2147483647∧∀ s∈ks,s.length≤2147483647))∧Mem B wc L w'):=by
 have hM:=hM0
 have hsz:=hsn.small
 refine enter (l:=[.slice o ks.length c]) 17 Tryz.func6 rfl rfl (Sq (Rg (Md 1 [0] rfl (Nx (Sq (Sq (Rg (Md 3 [0,7] rfl (Nx (C2 rfl ?_ ((fun ht=> ?_))))))))))))
 ·
  refine Sq (Rg (Md 1 [2] rfl (Nx (Re (Rt ?_)))));intro a hF
  exact ret1 hF rfl rfl ⟨_,rfl,⟨false,rfl,fun h=>Bool.noConfusion h⟩,hM⟩
 have hl1:ks.length≤2147483647:=by have:=of_decide_eq_false ht;omega
 refine Sk (Nx (Sq (Sq (Rg (Md 3 [8,9,10] rfl (Nx (Bo (Kp [8,9,10] rfl ?_))))))));intro a hF
 refine loopX (fun (j:Nat) a w=>Fr 18 [(8,.slice o ks.length c),(9,.int .i64 (ks.length:Int)),(10,.int .i64 (j:Int))] a∧Mem B wc L w∧(∀ s∈ks.take j,s.length≤2147483647)∧j≤ks.length) (fun j=>ks.length - j) (0) ?_ (fun j a w hI=> ?_)
 · exact ⟨hF,hM,by simp,Nat.zero_le _⟩
 clear hF hM
 obtain ⟨hF,hM,hn,hjl⟩:=hI
 revert a;refine Sq (Rg (Md 1 [8,9,10,11] rfl (Nx (Sq (Ce rfl (fun ht=> ?_) ((fun ht=> ?_)))))))
 ·
  have hjn:j=ks.length:=by have:=of_decide_eq_false ht;omega
  rw [hjn,List.take_length] at hn
  refine Ex (Ot (Ot (Ob (Nx (Sq (Rg (Md 1 [2] rfl (Nx (Re ?_)))))))));intro a hF
  exact ret1 hF rfl rfl ⟨_,rfl,⟨true,rfl,fun _=>⟨hl1,hn⟩⟩,hM⟩
 have hj:j<ks.length:=by have:=of_decide_eq_true ht;omega
 obtain ⟨t,hs1⟩:∃ t,ks[j]?=some t:=⟨_,List.getElem?_eq_getElem hj⟩
 obtain ⟨g,ko,ho,hgk,hcell⟩:=hsn.at_ hs1
 intro a hF
 rw [ho] at hF
 revert a;refine Sk (Nx (Sq (Bo (Sq (Rg (Gv rfl (fun _ hF=>gives_indexAddrS (sz:=1) (j) hF rfl Tryz.underlying22 (by kernel_rfl) rfl rfl rfl hj _) (Gv rfl (fun _ hF=>gives_load1 hF rfl Tryz.underlying9 rfl rfl ((show w.cell? ⟨g,ko+j*1,none⟩=some (.string (mkS t)) from by rw [Nat.mul_one];exact (hM.below.cell hgk).trans hcell))) (Md 1 [4,8,9,10] rfl (Nx (Sq (Rg (Md 3 [8,9,10,16] rfl (Nx (D2 rfl (fun ht=> ?_) ?_))))))))))))))
 ·
  have htl:t.length≤2147483647:=by have:=of_decide_eq_false ht;omega
  refine Sk (Nb (Nx (Rg (Sm (((j+1:Nat):Int)) rfl (by omega) (Md 1 [8,9,10] rfl ?_)))));intro a hF
  rw [←ho] at hF
  exact ⟨j+1,⟨hF,hM,by rw [List.take_add_one,hs1];intro s hs;rcases List.mem_append.1 hs with h | h;exact hn s h;rw [List.mem_singleton.1 h];omega,hj⟩,by omega⟩
 refine Sq (Rg (Md 1 [2] rfl (Nx (Re (Rb (Rt (Rt (Rb (Rt ?_)))))))));intro a hF
 exact ret1 hF rfl rfl ⟨_,rfl,⟨false,rfl,fun h=>Bool.noConfusion h⟩,hM⟩
theorem tdiv10 {z:Int}{N:Nat}(h:z=(N:Int)):Int.tdiv z 10=((N / 10:Nat):Int):=by subst h;exact (Int.natCast_ediv N 10).symm▸Int.tdiv_eq_ediv_of_nonneg (by omega)
theorem uint64_walk (s:Str) (hl:s.length≤2^40) (w0:World):Calls Tryz.prog 30 #[.string (mkS s)] w0 (Ret fun v w'=>(∃ n:Nat,v= .tuple #[.int .u64 (n:Int),.bool (u64 s).isSome]∧∀ m,u64 s=some m→n=m)∧Below w0.heap.size w0 w'):=by
 have hM:=MS0 w0
 refine enter (l:=[.string (mkS s)]) 39 Tryz.func30 rfl rfl (Sq (Rg (Md 2 [0] rfl (Nx (Sq (Sq ?_))))))
 rcases Classical.em (s=[]) with h0 | h0
 ·
  have hbad:u64 s=none:=by rw [h0];exact u64_nil
  refine Rg (Mv 1 rfl ?_);intro a hF
  refine op_eqlStr hF rfl rfl rfl rfl rfl rfl ?_;clear hF a;intro a hF
  rw [show (s==([]:Str))=true from by rw [h0];rfl] at hF
  revert a;refine Md 0 [0,8] rfl (Nx (Ct rfl (Sq (Rg (Md 2 [2,3] rfl (Nx (Re (Rt ?_))))))));intro a hF
  exact ret2 hF rfl rfl rfl ⟨_,rfl,⟨0,by rw [hbad];rfl,fun m h=>by rw [hbad] at h;cases h⟩,hM.below⟩
 refine Rg (Mv 1 rfl ?_);intro a hF
 refine op_eqlStr hF rfl rfl rfl rfl rfl rfl ?_;clear hF a;intro a hF
 rw [show (s==([]:Str))=false from by simpa using h0] at hF
 revert a;refine Md 0 [0,8] rfl (Nx (Cf rfl (Sk (Nx (Sq (Rg (Md 1 [0,4] rfl (Nx (Sq (Sq (Rg (Md 1 [0,4,5] rfl (Nx (Bo (Kp [0,4,5] rfl ?_)))))))))))))));intro a hF
 refine loopX (fun (i:Nat) a w=>Fr 40 [(0,.string (mkS s)),(4,.int .u64 ((worth (s.take i):Nat):Int)),(5,.int .i64 (i:Int))] a∧Mem w0.heap.size w0 [] w∧Digs (s.take i)∧worth (s.take i)<2^64∧i≤s.length) (fun i=>s.length - i) (0) ?_ (fun i a w hI=> ?_)
 · exact ⟨hF,hM,by intro c hc;simp at hc,by simp [worth],Nat.zero_le _⟩
 clear hF hM
 obtain ⟨hF,hM,hdg,hw64,hil⟩:=hI
 revert a;refine Sq (Sq (Rg (Md 4 [0,4,5,12] rfl (Nx (Ce rfl (fun ht=> ?_) ((fun ht=> ?_)))))))
 ·
  have hgood:=u64_all h0 hdg hw64 (by have:=of_decide_eq_false ht;omega)
  refine Ex (Ot (Ot (Ob (Nx (Sq (Rg (Md 3 [2,3] rfl (Nx (Re ?_)))))))));intro a hF
  exact ret2 hF rfl rfl rfl ⟨_,rfl,⟨_,by rw [hgood];rfl,fun m h=>by rw [hgood] at h;exact Option.some.inj h⟩,hM.below⟩
 have hi:i<s.length:=by have:=of_decide_eq_true ht;omega
 obtain ⟨c,r,hd,hg⟩:=drop_cons hi
 refine Sk (Nx (Sq (Bo (Sq (Sq ?_)))))
 rcases (show c.toNat<48∨(¬ c.toNat<48∧57<c.toNat)∨(¬ c.toNat<48∧ ¬ 57<c.toNat) by omega) with h1 | ⟨h1,h2⟩ | ⟨h1,h2⟩
 ·
  have hbad:=u64_bad hg (isDig_lo h1)
  refine Rg (Mv 2 rfl (Ix (i) c rfl hg (by omega) (Bt rfl (by omega) (Md 6 [0,4,5,24] rfl (Nx (Ct rfl (Sq (Rg (Md 2 [2,3] rfl (Nx (Re (Rt (Rb (Rt (Rt (Rb (Rt ?_)))))))))))))))));intro a hF
  exact ret2 hF rfl rfl rfl ⟨_,rfl,⟨0,by rw [hbad];rfl,fun m h=>by rw [hbad] at h;cases h⟩,hM.below⟩
 ·
  have hbad:=u64_bad hg (isDig_hi h2)
  refine Rg (Mv 2 rfl (Ix (i) c rfl hg (by omega) (Bf rfl (by omega) (Mv 3 rfl (Ix (i) c rfl hg (by omega) (Bt rfl (by omega) (Md 1 [0,4,5,24] rfl (Nx (Ct rfl (Sq (Rg (Md 2 [2,3] rfl (Nx (Re (Rt (Rb (Rt (Rt (Rb (Rt ?_))))))))))))))))))));intro a hF
  exact ret2 hF rfl rfl rfl ⟨_,rfl,⟨0,by rw [hbad];rfl,fun m h=>by rw [hbad] at h;cases h⟩,hM.below⟩
 have hcd:=isDig_of (c:=c) (by omega) (by omega)
 have hdgc:dg c=c.toNat - 48:=rfl
 have hnext:worth (s.take (i+1))=worth (s.take i)*10+dg c:=by rw [take_next hg,worth_snoc]
 refine Rg (Mv 2 rfl (Ix (i) c rfl hg (by omega) (Bf rfl (by omega) (Mv 3 rfl (Ix (i) c rfl hg (by omega) (Bf rfl (by omega) (Md 1 [0,4,5,24] rfl (Nx (Cf rfl (Sk (Nx (Sq (Rg (Mv 2 rfl (Ix (i) c rfl hg (by omega) ?_)))))))))))))));intro a hF
 refine op_sum hF rfl ((dg c:Int)) rfl rfl rfl rfl rfl rfl (by omega) (IntWalk.u8_in _ ⟨by omega,by omega⟩) ?_;clear hF a;intro a hF
 refine op_conv_to hF rfl rfl rfl rfl Tryz.underlying5 Tryz.underlying54 rfl (IntWalk.u64_in _ ⟨by omega,by omega⟩) ?_;clear hF a;intro a hF
 revert a;refine Md 1 [0,4,5,6] rfl (Nx (Sq (Sq (Rg (Mv 2 rfl ?_)))));intro a hF
 refine op_sum hF rfl (((18446744073709551615 - dg c:Nat):Int)) rfl rfl rfl rfl rfl rfl (by omega) (IntWalk.u64_in _ ⟨by omega,by omega⟩) ?_;clear hF a;intro a hF
 revert a;refine Gv rfl (fun _ hF=>gives_quo ((((18446744073709551615 - dg c) / 10:Nat):Int)) hF rfl rfl rfl (by decide) (by rw [tdiv10 rfl];exact IntWalk.u64_in _ ⟨by omega,by omega⟩) _) (Md 1 [0,4,5,6,34] rfl (Nx (Cd rfl (fun ht=> ?_) ((fun ht=> ?_)))))
 ·
  have hgt:=of_decide_eq_true ht
  have hbad:=u64_big (s:=s) (i+1) (by rw [hnext];omega)
  refine Sq (Rg (Md 2 [2,3] rfl (Nx (Re (Rt (Rb (Rt (Rt (Rb (Rt ?_))))))))));intro a hF
  exact ret2 hF rfl rfl rfl ⟨_,rfl,⟨0,by rw [hbad];rfl,fun m h=>by rw [hbad] at h;cases h⟩,hM.below⟩
 have hgt:=of_decide_eq_false ht
 have hlt64:worth (s.take i)*10+dg c<2^64:=by omega
 refine Sk (Nx (Rg (Mv 1 rfl ?_)));intro a hF
 refine op_sum hF rfl (((worth (s.take i)*10:Nat):Int)) rfl rfl rfl rfl rfl rfl (by omega) (IntWalk.u64_in _ ⟨by omega,by omega⟩) ?_;clear hF a;intro a hF
 revert a;refine Mv 1 rfl ?_;intro a hF
 refine op_sum hF rfl (((worth (s.take i)*10+dg c:Nat):Int)) rfl rfl rfl rfl rfl rfl (by omega) (IntWalk.u64_in _ ⟨by omega,by omega⟩) ?_;clear hF a;intro a hF
 revert a;refine Md 1 [0,4,5] rfl (Nb (Nx (Rg (Mv 1 rfl (Sm (((i+1:Nat):Int)) rfl (by omega) (Md 1 [0,4,5] rfl ?_))))));intro a hF
 rw [←hnext] at hF
 exact ⟨i+1,⟨hF,hM,hdg.next hg hcd,by rw [hnext];exact hlt64,hi⟩,by omega⟩
def i64u (ng:Bool) (u:Str):Bool:=match u64 u with | some n=>if ng then decide (n≤2^63) else decide (n<2^63) | none=>false
theorem i64_pos {s:Str}(h:∀ r,s≠45::r):i64ok s=i64u false s:=by
  unfold i64ok i64u
  split
  · exact absurd rfl (h _)
  · rfl
theorem int64_walk (s:Str) (hl:s.length≤2^40) (w0:World):Calls Tryz.prog 29 #[.string (mkS s)] w0 (Ret fun v w'=>(∃ z:Int,v= .tuple #[.int .i64 z,.bool (i64ok s)])∧Below w0.heap.size w0 w'):=by
 have hM:=MS0 w0
 refine enter (l:=[.string (mkS s)]) 42 Tryz.func29 rfl rfl (Sq (Rg (Md 2 [0] rfl (Nx (Sq ?_)))))
 rcases (show s=[]∨(∃ c r,s=c::r∧c=45)∨∃ c r,s=c::r∧c≠45 by rcases s with _ | ⟨c,r⟩;exact .inl rfl;by_cases h:c=45;exact .inr (.inl ⟨c,r,rfl,h⟩);exact .inr (.inr ⟨c,r,rfl,h⟩)) with h0 | ⟨c,r,h0,hc⟩ | ⟨c,r,h0,hc⟩
 ·
  have hj0:i64ok s=i64u false s:=by rw [h0];rfl
  refine Rg (Mv 1 rfl ?_);intro a hF
  refine op_neqStr hF rfl rfl rfl rfl rfl rfl ?_;clear hF a;intro a hF
  rw [show (!(s==([]:Str)))=false from by rw [h0];rfl] at hF
  revert a;refine Md 6 [0,4] rfl (Nx ?_);intro a hF
  refine cut (fun a w=>∃ (u:Str) (ng:Bool),Fr 43 [(0,.string (mkS u)),(4,.bool ng)] a∧Mem w0.heap.size w0 [] w∧i64ok s=i64u ng u∧u.length≤2^40) ?_ (fun a w h=> ?_)
  ·
   revert a;refine Sq (Rg (Md 1 [0,4,14] rfl (Nx (Cf rfl (Sk (Kp [0,4] rfl ?_))))));intro a hF
   exact ⟨_,_,hF,hM,hj0,by first | exact hl | (rw [List.length_drop];omega)⟩
  clear hF hM
  obtain ⟨u,ng,hF,hM,hju,hul⟩:=h
  revert a;refine Sq (Rg (Mv 1 rfl (Cm hM rfl rfl rfl (uint64_walk u hul _) ?_)))
  clear hM;intro w v hR hM hBe
  obtain ⟨n,rfl,hn⟩:=hR
  refine Md 5 [4,5,6] rfl (Nx (Sq (Bo (Sq ?_))))
  rcases hu:u64 u with _ | m
  ·
   have hres:i64ok s=false:=by rw [hju];unfold i64u;rw [hu]
   exact Rg (Md 3 [4,5,22] rfl (Nx (Ct rfl (Sq (Rg (Md 2 [2,3] rfl (Nx (Re (Rb (Rt (Y2 rfl rfl rfl ⟨_,rfl,⟨_,by rw [hres]⟩,hM.below⟩)))))))))))
  obtain rfl:=hn m hu
  refine Rg (Md 3 [4,5,22] rfl (Nx (Cf rfl (Sq ?_))))
  rcases (show (ng=false∧n<2^63)∨(ng=false∧ ¬ n<2^63)∨(ng=true∧ ¬ n≤2^63)∨(ng=true∧n≤2^63) by cases ng <;> simp <;> omega) with ⟨rfl,hk⟩ | ⟨rfl,hk⟩ | ⟨rfl,hk⟩ | ⟨rfl,hk⟩
  ·
   have hres:i64ok s=true:=by rw [hju];unfold i64u;rw [hu];simp;omega
   refine Rg (Md 6 [4,5,25] rfl (Nx (Cf rfl (Sq (Rg (Mv 4 rfl (Bt rfl (by omega) (Md 2 [5,34] rfl (Nx (Ct rfl (Sq (Rg (Mv 1 rfl ?_)))))))))))));intro a hF
   refine op_conv hF rfl rfl rfl rfl Tryz.underlying54 Tryz.underlying2 rfl ?_;clear hF a;intro a hF
   revert a;exact Md 2 [2,3] rfl (Nx (Re (Rb (Rt (Y2 rfl rfl rfl ⟨_,rfl,⟨_,by rw [hres]⟩,hM.below⟩)))))
  ·
   have hres:i64ok s=false:=by rw [hju];unfold i64u;rw [hu];simp;omega
   exact Rg (Md 6 [4,5,25] rfl (Nx (Cf rfl (Sq (Rg (Mv 4 rfl (Bf rfl (by omega) (Md 2 [5,34] rfl (Nx (Cf rfl (Sk (Nb (Nx (Sq (Rg (Md 2 [2,3] rfl (Nx (Re (Y2 rfl rfl rfl ⟨_,rfl,⟨_,by rw [hres]⟩,hM.below⟩)))))))))))))))))))
  ·
   have hres:i64ok s=false:=by rw [hju];unfold i64u;rw [hu];simp;omega
   refine Rg (Mv 3 rfl (Bf rfl (by omega) (Md 2 [4,5,25] rfl (Nx (Cf rfl (Sq ?_))))))
   skip
   exact Rg (Md 7 [5,34] rfl (Nx (Cf rfl (Sk (Nb (Nx (Sq (Rg (Md 2 [2,3] rfl (Nx (Re (Y2 rfl rfl rfl ⟨_,rfl,⟨_,by rw [hres]⟩,hM.below⟩))))))))))))
  have hres:i64ok s=true:=by rw [hju];unfold i64u;rw [hu];simp;omega
  refine Rg (Mv 3 rfl (Bt rfl (by omega) (Md 2 [4,5,25] rfl (Nx (Ct rfl (Sq (Rg (Mv 1 rfl (Gv rfl (fun _ hF=>gives_neg hF rfl rfl (_) rfl _) ?_)))))))));intro a hF
  refine op_conv hF rfl rfl rfl rfl Tryz.underlying54 Tryz.underlying2 rfl ?_;clear hF a;intro a hF
  revert a;exact Md 2 [2,3] rfl (Nx (Re (Rb (Rt (Y2 rfl rfl rfl ⟨_,rfl,⟨_,by rw [hres]⟩,hM.below⟩)))))
 ·
  have hj0:i64ok s=i64u true (s.drop 1):=by rw [h0,hc];rfl
  refine Rg (Mv 1 rfl ?_);intro a hF
  refine op_neqStr hF rfl rfl rfl rfl rfl rfl ?_;clear hF a;intro a hF
  rw [show (!(s==([]:Str)))=true from by rw [h0];rfl] at hF
  revert a;refine Mv 2 rfl (Ix (0) c rfl (by rw [h0];rfl) (by omega) (Qt 45 rfl rfl hc (Md 2 [0,4] rfl (Nx ?_))));intro a hF
  refine cut (fun a w=>∃ (u:Str) (ng:Bool),Fr 43 [(0,.string (mkS u)),(4,.bool ng)] a∧Mem w0.heap.size w0 [] w∧i64ok s=i64u ng u∧u.length≤2^40) ?_ (fun a w h=> ?_)
  ·
   revert a;refine Sq (Rg (Md 1 [0,4,14] rfl (Nx (Ct rfl (Rg (Mv 1 rfl ?_))))));intro a hF
   refine op_sliceFrom_str hF rfl (1) rfl rfl rfl Tryz.underlying9 rfl rfl (by first | rfl | omega) (by rw [h0];simp) ?_;clear hF a;intro a hF
   revert a;refine Md 1 [0,4] rfl ?_;intro a hF
   exact ⟨_,_,hF,hM,hj0,by first | exact hl | (rw [List.length_drop];omega)⟩
  clear hF hM
  obtain ⟨u,ng,hF,hM,hju,hul⟩:=h
  revert a;refine Sq (Rg (Mv 1 rfl (Cm hM rfl rfl rfl (uint64_walk u hul _) ?_)))
  clear hM;intro w v hR hM hBe
  obtain ⟨n,rfl,hn⟩:=hR
  refine Md 5 [4,5,6] rfl (Nx (Sq (Bo (Sq ?_))))
  rcases hu:u64 u with _ | m
  ·
   have hres:i64ok s=false:=by rw [hju];unfold i64u;rw [hu]
   exact Rg (Md 3 [4,5,22] rfl (Nx (Ct rfl (Sq (Rg (Md 2 [2,3] rfl (Nx (Re (Rb (Rt (Y2 rfl rfl rfl ⟨_,rfl,⟨_,by rw [hres]⟩,hM.below⟩)))))))))))
  obtain rfl:=hn m hu
  refine Rg (Md 3 [4,5,22] rfl (Nx (Cf rfl (Sq ?_))))
  rcases (show (ng=false∧n<2^63)∨(ng=false∧ ¬ n<2^63)∨(ng=true∧ ¬ n≤2^63)∨(ng=true∧n≤2^63) by cases ng <;> simp <;> omega) with ⟨rfl,hk⟩ | ⟨rfl,hk⟩ | ⟨rfl,hk⟩ | ⟨rfl,hk⟩
  ·
   have hres:i64ok s=true:=by rw [hju];unfold i64u;rw [hu];simp;omega
   refine Rg (Md 6 [4,5,25] rfl (Nx (Cf rfl (Sq (Rg (Mv 4 rfl (Bt rfl (by omega) (Md 2 [5,34] rfl (Nx (Ct rfl (Sq (Rg (Mv 1 rfl ?_)))))))))))));intro a hF
   refine op_conv hF rfl rfl rfl rfl Tryz.underlying54 Tryz.underlying2 rfl ?_;clear hF a;intro a hF
   revert a;exact Md 2 [2,3] rfl (Nx (Re (Rb (Rt (Y2 rfl rfl rfl ⟨_,rfl,⟨_,by rw [hres]⟩,hM.below⟩)))))
  ·
   have hres:i64ok s=false:=by rw [hju];unfold i64u;rw [hu];simp;omega
   exact Rg (Md 6 [4,5,25] rfl (Nx (Cf rfl (Sq (Rg (Mv 4 rfl (Bf rfl (by omega) (Md 2 [5,34] rfl (Nx (Cf rfl (Sk (Nb (Nx (Sq (Rg (Md 2 [2,3] rfl (Nx (Re (Y2 rfl rfl rfl ⟨_,rfl,⟨_,by rw [hres]⟩,hM.below⟩)))))))))))))))))))
  ·
   have hres:i64ok s=false:=by rw [hju];unfold i64u;rw [hu];simp;omega
   refine Rg (Mv 3 rfl (Bf rfl (by omega) (Md 2 [4,5,25] rfl (Nx (Cf rfl (Sq ?_))))))
   skip
   exact Rg (Md 7 [5,34] rfl (Nx (Cf rfl (Sk (Nb (Nx (Sq (Rg (Md 2 [2,3] rfl (Nx (Re (Y2 rfl rfl rfl ⟨_,rfl,⟨_,by rw [hres]⟩,hM.below⟩))))))))))))
  have hres:i64ok s=true:=by rw [hju];unfold i64u;rw [hu];simp;omega
  refine Rg (Mv 3 rfl (Bt rfl (by omega) (Md 2 [4,5,25] rfl (Nx (Ct rfl (Sq (Rg (Mv 1 rfl (Gv rfl (fun _ hF=>gives_neg hF rfl rfl (_) rfl _) ?_)))))))));intro a hF
  refine op_conv hF rfl rfl rfl rfl Tryz.underlying54 Tryz.underlying2 rfl ?_;clear hF a;intro a hF
  revert a;exact Md 2 [2,3] rfl (Nx (Re (Rb (Rt (Y2 rfl rfl rfl ⟨_,rfl,⟨_,by rw [hres]⟩,hM.below⟩)))))
 have hj0:i64ok s=i64u false s:=by rw [h0];exact i64_pos (fun q e=>hc (List.cons.inj e).1)
 refine Rg (Mv 1 rfl ?_);intro a hF
 refine op_neqStr hF rfl rfl rfl rfl rfl rfl ?_;clear hF a;intro a hF
 rw [show (!(s==([]:Str)))=true from by rw [h0];rfl] at hF
 revert a;refine Mv 2 rfl (Ix (0) c rfl (by rw [h0];rfl) (by omega) (Qf 45 rfl rfl hc (Md 2 [0,4] rfl (Nx ?_))));intro a hF
 refine cut (fun a w=>∃ (u:Str) (ng:Bool),Fr 43 [(0,.string (mkS u)),(4,.bool ng)] a∧Mem w0.heap.size w0 [] w∧i64ok s=i64u ng u∧u.length≤2^40) ?_ (fun a w h=> ?_)
 ·
  revert a;refine Sq (Rg (Md 1 [0,4,14] rfl (Nx (Cf rfl (Sk (Kp [0,4] rfl ?_))))));intro a hF
  exact ⟨_,_,hF,hM,hj0,by first | exact hl | (rw [List.length_drop];omega)⟩
 clear hF hM
 obtain ⟨u,ng,hF,hM,hju,hul⟩:=h
 revert a;refine Sq (Rg (Mv 1 rfl (Cm hM rfl rfl rfl (uint64_walk u hul _) ?_)))
 clear hM;intro w v hR hM hBe
 obtain ⟨n,rfl,hn⟩:=hR
 refine Md 5 [4,5,6] rfl (Nx (Sq (Bo (Sq ?_))))
 rcases hu:u64 u with _ | m
 ·
  have hres:i64ok s=false:=by rw [hju];unfold i64u;rw [hu]
  exact Rg (Md 3 [4,5,22] rfl (Nx (Ct rfl (Sq (Rg (Md 2 [2,3] rfl (Nx (Re (Rb (Rt (Y2 rfl rfl rfl ⟨_,rfl,⟨_,by rw [hres]⟩,hM.below⟩)))))))))))
 obtain rfl:=hn m hu
 refine Rg (Md 3 [4,5,22] rfl (Nx (Cf rfl (Sq ?_))))
 rcases (show (ng=false∧n<2^63)∨(ng=false∧ ¬ n<2^63)∨(ng=true∧ ¬ n≤2^63)∨(ng=true∧n≤2^63) by cases ng <;> simp <;> omega) with ⟨rfl,hk⟩ | ⟨rfl,hk⟩ | ⟨rfl,hk⟩ | ⟨rfl,hk⟩
 ·
  have hres:i64ok s=true:=by rw [hju];unfold i64u;rw [hu];simp;omega
  refine Rg (Md 6 [4,5,25] rfl (Nx (Cf rfl (Sq (Rg (Mv 4 rfl (Bt rfl (by omega) (Md 2 [5,34] rfl (Nx (Ct rfl (Sq (Rg (Mv 1 rfl ?_)))))))))))));intro a hF
  refine op_conv hF rfl rfl rfl rfl Tryz.underlying54 Tryz.underlying2 rfl ?_;clear hF a;intro a hF
  revert a;exact Md 2 [2,3] rfl (Nx (Re (Rb (Rt (Y2 rfl rfl rfl ⟨_,rfl,⟨_,by rw [hres]⟩,hM.below⟩)))))
 ·
  have hres:i64ok s=false:=by rw [hju];unfold i64u;rw [hu];simp;omega
  exact Rg (Md 6 [4,5,25] rfl (Nx (Cf rfl (Sq (Rg (Mv 4 rfl (Bf rfl (by omega) (Md 2 [5,34] rfl (Nx (Cf rfl (Sk (Nb (Nx (Sq (Rg (Md 2 [2,3] rfl (Nx (Re (Y2 rfl rfl rfl ⟨_,rfl,⟨_,by rw [hres]⟩,hM.below⟩)))))))))))))))))))
 ·
  have hres:i64ok s=false:=by rw [hju];unfold i64u;rw [hu];simp;omega
  refine Rg (Mv 3 rfl (Bf rfl (by omega) (Md 2 [4,5,25] rfl (Nx (Cf rfl (Sq ?_))))))
  skip
  exact Rg (Md 7 [5,34] rfl (Nx (Cf rfl (Sk (Nb (Nx (Sq (Rg (Md 2 [2,3] rfl (Nx (Re (Y2 rfl rfl rfl ⟨_,rfl,⟨_,by rw [hres]⟩,hM.below⟩))))))))))))
 have hres:i64ok s=true:=by rw [hju];unfold i64u;rw [hu];simp;omega
 refine Rg (Mv 3 rfl (Bt rfl (by omega) (Md 2 [4,5,25] rfl (Nx (Ct rfl (Sq (Rg (Mv 1 rfl (Gv rfl (fun _ hF=>gives_neg hF rfl rfl (_) rfl _) ?_)))))))));intro a hF
 refine op_conv hF rfl rfl rfl rfl Tryz.underlying54 Tryz.underlying2 rfl ?_;clear hF a;intro a hF
 revert a;exact Md 2 [2,3] rfl (Nx (Re (Rb (Rt (Y2 rfl rfl rfl ⟨_,rfl,⟨_,by rw [hres]⟩,hM.below⟩)))))
def digs (s:Str):Bool:=s.all isDig&& !(s==[])
def jdec:Str→Bool
  | 45::r=>digs r
  | s=>digs s
theorem digs_drop {s:Str}{i:Nat}{c:UInt8}(h:s[i]?=some c) (hc:isDig c=true):(s.take (i+1)).all isDig=(s.take i).all isDig:=by
  rw [List.take_add_one,h];simp [hc]
theorem digs_bad {s:Str}{i:Nat}{c:UInt8}(h:s[i]?=some c) (hc:isDig c=false):digs s=false:=by
  unfold digs
  rw [Bool.and_eq_false_iff]
  left
  rw [List.all_eq_false]
  exact ⟨c,List.mem_of_getElem? h,by rw [hc];decide⟩
theorem jpDecimal_walk (s:Str) (hl:s.length≤2^40) (w0:World):Calls Tryz.prog 16 #[.string (mkS s)] w0 (Ret fun v w'=>v= .bool (jdec s)∧Below w0.heap.size w0 w'):=by
 have hM:=MS0 w0
 refine enter (l:=[.string (mkS s)]) 30 Tryz.func16 rfl rfl (Sq (Rg (Md 1 [0] rfl (Nx ?_))));intro a hF
 refine cut (fun a w=>∃ u:Str,Fr 31 [(0,.string (mkS u))] a∧Mem w0.heap.size w0 [] w∧jdec s=digs u∧u.length≤2^40) ?_ (fun a w h=> ?_)
 ·
  revert a;refine Sq ?_
  rcases s with _ | ⟨c,r⟩
  ·
   refine Rg (Mv 1 rfl ?_);intro a hF
   refine op_neqStr hF rfl rfl rfl rfl rfl rfl ?_;clear hF a;intro a hF
   rw [show (!(([]:Str)==[]))=false from rfl] at hF
   revert a;refine Md 5 [0,10] rfl (Nx (Cf rfl (Sk (Kp [0] rfl ?_))));intro a hF
   exact ⟨_,hF,hM,rfl,by simp only [List.length_cons,List.length_nil,List.drop_succ_cons,List.drop_zero] at hl ⊢;omega⟩
  rcases Classical.em (c=45) with hc | hc
  ·
   subst hc
   refine Rg (Mv 1 rfl ?_);intro a hF
   refine op_neqStr hF rfl rfl rfl rfl rfl rfl ?_;clear hF a;intro a hF
   rw [show (!((45::r:Str)==[]))=true from rfl] at hF
   revert a;refine Mv 2 rfl (Ix (0) 45 rfl rfl (by omega) (Md 2 [0,10] rfl (Nx (Ct rfl (Rg (Mv 1 rfl ?_))))));intro a hF
   refine op_sliceFrom_str hF rfl (1) rfl rfl rfl Tryz.underlying9 rfl rfl (by first | rfl | omega) (by simp) ?_;clear hF a;intro a hF
   revert a;refine Md 1 [0] rfl ?_;intro a hF
   exact ⟨_,hF,hM,rfl,by simp only [List.length_cons,List.length_nil,List.drop_succ_cons,List.drop_zero] at hl ⊢;omega⟩
  have hjd:jdec (c::r)=digs (c::r):=by unfold jdec;split;rename_i h;exact absurd (List.cons.inj h).1 hc;rfl
  refine Rg (Mv 1 rfl ?_);intro a hF
  refine op_neqStr hF rfl rfl rfl rfl rfl rfl ?_;clear hF a;intro a hF
  rw [show (!((c::r:Str)==[]))=true from rfl] at hF
  revert a;refine Mv 2 rfl (Ix (0) c rfl rfl (by omega) (Qf 45 rfl rfl hc (Md 1 [0,10] rfl (Nx (Cf rfl (Sk (Kp [0] rfl ?_)))))));intro a hF
  exact ⟨_,hF,hM,hjd,hl⟩
 clear hF hM
 obtain ⟨u,hF,hM,hju,hul⟩:=h
 revert a;refine Sq (Sq (Rg (Md 1 [0,3] rfl (Nx (Bo (Kp [0,3] rfl ?_))))));intro a hF
 refine loopX (fun (i:Nat) a w=>Fr 31 [(0,.string (mkS u)),(3,.int .i64 (i:Int))] a∧Mem w0.heap.size w0 [] w∧(u.take i).all isDig=true∧i≤u.length) (fun i=>u.length - i) (0) ?_ (fun i a w hI=> ?_)
 · exact ⟨hF,hM,by simp,Nat.zero_le _⟩
 clear hF hM
 obtain ⟨hF,hM,hdg,hil⟩:=hI
 revert a;refine Sq (Sq (Rg (Md 4 [0,3,16] rfl (Nx (Ce rfl (fun ht=> ?_) ((fun ht=> ?_)))))))
 ·
  have hin:i=u.length:=by have:=of_decide_eq_false ht;omega
  rw [hin,List.take_length] at hdg
  refine Ex (Ot (Ot (Ob (Nx (Sq (Rg (Mv 1 rfl ?_)))))));intro a hF
  refine op_neqStr hF rfl rfl rfl rfl rfl rfl ?_;clear hF a;intro a hF
  revert a;refine Md 1 [2] rfl (Nx (Re ?_));intro a hF
  exact ret1 hF rfl rfl ⟨_,rfl,by rw [hju];simp [digs,hdg],hM.below⟩
 have hi:i<u.length:=by have:=of_decide_eq_true ht;omega
 obtain ⟨c,r,hd,hg⟩:=drop_cons hi
 refine Sk (Nx (Sq (Bo (Sq ?_))))
 rcases (show c.toNat<48∨(¬ c.toNat<48∧57<c.toNat)∨(¬ c.toNat<48∧ ¬ 57<c.toNat) by omega) with h1 | ⟨h1,h2⟩ | ⟨h1,h2⟩
 ·
  have hcd:isDig c=false:=by simp [isDig];omega
  refine Rg (Mv 2 rfl (Ix (i) c rfl hg (by omega) (Bt rfl (by omega) (Md 6 [0,3,28] rfl (Nx (Ct rfl (Sq (Rg (Md 1 [2] rfl (Nx (Re (Rb (Rt (Rt (Rb (Rt ?_))))))))))))))));intro a hF
  exact ret1 hF rfl rfl ⟨_,rfl,by rw [hju,digs_bad hg hcd],hM.below⟩
 ·
  have hcd:isDig c=false:=by simp [isDig];omega
  refine Rg (Mv 2 rfl (Ix (i) c rfl hg (by omega) (Bf rfl (by omega) (Mv 3 rfl (Ix (i) c rfl hg (by omega) (Bt rfl (by omega) (Md 1 [0,3,28] rfl (Nx (Ct rfl (Sq (Rg (Md 1 [2] rfl (Nx (Re (Rb (Rt (Rt (Rb (Rt ?_)))))))))))))))))));intro a hF
  exact ret1 hF rfl rfl ⟨_,rfl,by rw [hju,digs_bad hg hcd],hM.below⟩
 have hcd:isDig c=true:=by simp [isDig];omega
 refine Rg (Mv 2 rfl (Ix (i) c rfl hg (by omega) (Bf rfl (by omega) (Mv 3 rfl (Ix (i) c rfl hg (by omega) (Bf rfl (by omega) (Md 1 [0,3,28] rfl (Nx (Cf rfl (Sk (Nb (Nx (Rg (Mv 1 rfl (Sm (((i+1:Nat):Int)) rfl (by omega) (Md 1 [0,3] rfl ?_))))))))))))))));intro a hF
 exact ⟨i+1,⟨hF,hM,by rw [digs_drop hg hcd];exact hdg,hi⟩,by omega⟩
def wantI (s:Str):Int:=if i64ok s then 0 else if jdec s then 8 else 7
theorem jrInt_walk (s:Str) (hl:s.length≤2^40) (w0:World):Calls Tryz.prog 8 #[.string (mkS s)] w0 (Ret fun v w'=>v= .int .i64 (wantI s)∧Below w0.heap.size w0 w'):=by
 have hM:=MS0 w0
 refine enter (l:=[.string (mkS s)]) 12 Tryz.func8 rfl rfl (Sq (Rg (Md 1 [0] rfl (Nx (Sq (Sq (Rg (Mv 1 rfl (Cm hM rfl rfl rfl (int64_walk s hl _) ?_)))))))))
 clear hM;intro w v hR hM hBe
 obtain ⟨z,rfl⟩:=hR
 refine Md 5 [0,4] rfl (Nx (Sq (Rg (Md 1 [0,10] rfl (Nx (Cd rfl (fun ht=> ?_) ((fun ht=> ?_))))))))
 ·
  have hw:wantI s=0:=by unfold wantI;rw [if_pos ht]
  exact Sq (Rg (Md 1 [2] rfl (Nx (Re (Rt (Y1 rfl rfl ⟨_,rfl,by rw [hw],hM.below⟩))))))
 have hi:=ht
 refine Sk (Nx (Sq (Sq (Rg (Mv 1 rfl (Cm hM rfl rfl rfl (jpDecimal_walk s hl _) ?_))))))
 clear hM;intro w v hR hM hBe
 obtain rfl:=hR
 refine Md 0 [12] rfl (Nx (Cd rfl (fun ht=> ?_) ((fun ht=> ?_))))
 ·
  have hw:wantI s=8:=by unfold wantI;rw [hi,ht];rfl
  exact Sq (Rg (Md 1 [2] rfl (Nx (Re (Rt (Y1 rfl rfl ⟨_,rfl,by rw [hw],hM.below⟩))))))
 have hw:wantI s=7:=by unfold wantI;rw [hi,ht];rfl
 exact Sk (Nx (Sq (Rg (Md 1 [2] rfl (Nx (Re (Y1 rfl rfl ⟨_,rfl,by rw [hw],hM.below⟩)))))))
def wantU (s:Str):Int:=if (u64 s).isSome then 0 else if s≠ []∧s.head?≠some 45∧jdec s=true then 8 else 7
theorem jrUint_walk (s:Str) (hl:s.length≤2^40) (w0:World):Calls Tryz.prog 9 #[.string (mkS s)] w0 (Ret fun v w'=>v= .int .i64 (wantU s)∧Below w0.heap.size w0 w'):=by
 have hM:=MS0 w0
 refine enter (l:=[.string (mkS s)]) 21 Tryz.func9 rfl rfl (Sq (Rg (Md 1 [0] rfl (Nx (Sq (Sq (Rg (Mv 1 rfl (Cm hM rfl rfl rfl (uint64_walk s hl _) ?_)))))))))
 clear hM;intro w v hR hM hBe
 obtain ⟨n,rfl,_⟩:=hR
 refine Md 5 [0,4] rfl (Nx (Sq (Rg (Md 1 [0,10] rfl (Nx (Cd rfl (fun ht=> ?_) ((fun ht=> ?_))))))))
 ·
  have hw:wantU s=0:=by unfold wantU;rw [if_pos ht]
  exact Sq (Rg (Md 1 [2] rfl (Nx (Re (Rt (Y1 rfl rfl ⟨_,rfl,by rw [hw],hM.below⟩))))))
 have hi:=ht
 refine Sk (Nx (Sq (Sq ?_)))
 rcases (show s=[]∨∃ c r,s=c::r by rcases s with _ | ⟨c,r⟩;exact .inl rfl;exact .inr ⟨c,r,rfl⟩) with h0 | ⟨c,r,h0⟩
 ·
  have hw7:wantU s=7:=by unfold wantU;rw [hi,if_neg Bool.false_ne_true,if_neg];rintro ⟨h1,h2,h3⟩;exact h1 h0
  refine Rg (Mv 1 rfl ?_);intro a hF
  refine op_neqStr hF rfl rfl rfl rfl rfl rfl ?_;clear hF a;intro a hF
  rw [show (!(s==([]:Str)))=false from by rw [h0];rfl] at hF
  revert a;refine Md 9 [21] rfl (Nx (Cd rfl (fun ht=> ?_) ((fun ht=> ?_))))
  · cases ht
  have hw:=hw7
  exact Sk (Nx (Sq (Rg (Md 1 [2] rfl (Nx (Re (Y1 rfl rfl ⟨_,rfl,by rw [hw],hM.below⟩)))))))
 rcases Classical.em (c=45) with h45 | h45
 ·
  have hw7:wantU s=7:=by unfold wantU;rw [hi,if_neg Bool.false_ne_true,if_neg];rintro ⟨h1,h2,h3⟩;exact h2 (by rw [h0,h45];rfl)
  refine Rg (Mv 1 rfl ?_);intro a hF
  refine op_neqStr hF rfl rfl rfl rfl rfl rfl ?_;clear hF a;intro a hF
  rw [show (!(s==([]:Str)))=true from by rw [h0];rfl] at hF
  revert a;refine Mv 2 rfl (Ix (0) c rfl (by rw [h0];rfl) (by omega) (Mv 1 rfl ?_));intro a hF
  rw [bne_f (d:=45) (z:=45) rfl h45] at hF
  revert a;refine Md 5 [21] rfl (Nx (Cd rfl (fun ht=> ?_) ((fun ht=> ?_))))
  · cases ht
  have hw:=hw7
  exact Sk (Nx (Sq (Rg (Md 1 [2] rfl (Nx (Re (Y1 rfl rfl ⟨_,rfl,by rw [hw],hM.below⟩)))))))
 refine Rg (Mv 1 rfl ?_);intro a hF
 refine op_neqStr hF rfl rfl rfl rfl rfl rfl ?_;clear hF a;intro a hF
 rw [show (!(s==([]:Str)))=true from by rw [h0];rfl] at hF
 revert a;refine Mv 2 rfl (Ix (0) c rfl (by rw [h0];rfl) (by omega) (Mv 1 rfl ?_));intro a hF
 rw [bne_t (d:=45) (z:=45) rfl h45] at hF
 revert a;refine Mv 3 rfl (Cm hM rfl rfl rfl (jpDecimal_walk s hl _) ?_)
 clear hM;intro w v hR hM hBe
 obtain rfl:=hR
 refine Md 1 [21] rfl (Nx (Cd rfl (fun ht=> ?_) ((fun ht=> ?_))))
 ·
  have hw:wantU s=8:=by unfold wantU;rw [hi,if_neg Bool.false_ne_true,if_pos ⟨by rw [h0];simp,by rw [h0];simpa using h45,ht⟩]
  exact Sq (Rg (Md 1 [2] rfl (Nx (Re (Rt (Y1 rfl rfl ⟨_,rfl,by rw [hw],hM.below⟩))))))
 have hw:wantU s=7:=by unfold wantU;rw [hi,if_neg Bool.false_ne_true,if_neg];rintro ⟨h1,h2,h3⟩;rw [ht] at h3;cases h3
 exact Sk (Nx (Sq (Rg (Md 1 [2] rfl (Nx (Re (Y1 rfl rfl ⟨_,rfl,by rw [hw],hM.below⟩)))))))
end Go.Sx
namespace Js
def val:List Nat→Nat
  | []=>0
  | a::l=>a+2^32*val l
def A32 (l:List Nat):Prop:=∀ a∈l,a<2^32
def Nrm (l:List Nat):Prop:=A32 l∧l.getLast?≠some 0
theorem Nrm.nil:Nrm []:=⟨fun a h=>absurd h (by simp),by simp⟩
theorem p32 (n:Nat):2^(32*(n+1))=2^32*2^(32*n):=by rw [Nat.mul_add,Nat.mul_one,Nat.pow_add,Nat.mul_comm]
theorem val_append (l r:List Nat):val (l++r)=val l+2^(32*l.length)*val r:=by
  induction l with
  | nil=>simp [val]
  | cons a l ih =>
    rw [List.cons_append,val,ih,val,List.length_cons,p32,Nat.mul_add,Nat.add_assoc,Nat.mul_assoc]
theorem val_one (a:Nat):val [a]=a:=by simp [val]
theorem val_zeros (k:Nat):val (List.replicate k 0)=0:=by
  induction k with
  | zero=>rfl
  | succ k ih=>rw [List.replicate_succ,val,ih]
theorem A32.append {l r:List Nat}(h:A32 l) (h':A32 r):A32 (l++r):=fun a ha=>by
  rcases List.mem_append.1 ha with h1 | h1
  · exact h a h1
  · exact h' a h1
theorem A32.lt:∀ {l:List Nat},A32 l→val l<2^(32*l.length)
  | [],_=>by simp [val]
  | a :: l, h => by
    have h1:=A32.lt (l:=l) fun x hx=>h x (by simp [hx])
    have h2:=h a (by simp)
    rw [val,List.length_cons,p32]
    have h3:2^32*(val l+1)≤2^32*2^(32*l.length):=Nat.mul_le_mul_left _ h1
    rw [Nat.mul_add] at h3
    omega
theorem Nrm.ge {l:List Nat}(h:Nrm l) (h0:l≠ []):2^(32*(l.length - 1))≤val l:=by
  have e:=List.dropLast_concat_getLast h0
  rw [←e,val_append,val_one,List.length_append,List.length_singleton,Nat.add_sub_cancel]
  have h1:l.getLast h0≠0:=by
    intro h2
    exact h.2 (by rw [List.getLast?_eq_some_getLast h0,h2])
  have:=Nat.le_mul_of_pos_right (2^(32*l.dropLast.length)) (Nat.pos_of_ne_zero h1)
  omega
theorem Nrm.of {l:List Nat}(h:A32 l) (hv:l≠ []→2^(32*(l.length - 1))≤val l):Nrm l:=by
  refine ⟨h,fun h2=> ?_⟩
  have h0:l≠ []:=by rintro rfl;cases h2
  have e:=List.dropLast_concat_getLast h0
  rw [List.getLast?_eq_some_getLast h0] at h2
  have h3:=hv h0
  rw [←e,val_append,val_one,Option.some.inj h2,List.length_append,List.length_singleton,Nat.add_sub_cancel,Nat.mul_zero,Nat.add_zero] at h3
  have:=A32.lt (l:=l.dropLast) fun a ha=>h a (List.dropLast_subset _ ha)
  omega
theorem Nrm.len {l:List Nat}(h:Nrm l) {k:Nat}(hv:val l<2^(32*k)):l.length≤k:=by
  rcases Classical.em (l=[]) with h0 | h0
  · rw [h0];exact Nat.zero_le _
  · rcases Nat.lt_or_ge k l.length with h1 | h1
    · have h2:=h.ge h0
      have h3:=Nat.pow_le_pow_right (n:=2) (by decide) (show 32*k≤32*(l.length - 1) by omega)
      omega
    · exact h1
theorem take_next' {α:Type}{s:List α}{i:Nat}{c:α}(h:s[i]?=some c):s.take (i+1)=s.take i++ [c]:=by rw [List.take_add_one,h];rfl
theorem times_step {out:List Nat}{cj f c0 a j:Nat}{l:List Nat}(hj:l[j]?=some a) (ho:out.length=j) (hv:val out+2^(32*j)*cj=c0+f*val (l.take j)):
    val (out++ [(cj+a*f) % 2^32])+2^(32*(j+1))*((cj+a*f) / 2^32)=c0+f*val (l.take (j+1)):=by
  have hl:(l.take j).length=j:=by rw [List.length_take];have:=(List.getElem?_eq_some_iff.1 hj).1;omega
  rw [take_next' hj,val_append,val_append,val_one,val_one,ho,hl,p32,Nat.mul_add,←Nat.add_assoc,←hv]
  have h:=Nat.mod_add_div (cj+a*f) (2^32)
  generalize (cj+a*f) % 2^32=m at h ⊢
  generalize (cj+a*f) / 2^32=q at h ⊢
  have e:2^(32*j)*m+2^32*2^(32*j)*q=2^(32*j)*(cj+a*f):=by
    rw [←h,Nat.mul_add,Nat.mul_comm (2^32) (2^(32*j)),Nat.mul_assoc]
  rw [Nat.add_assoc,e,Nat.mul_add,Nat.mul_left_comm f,Nat.mul_comm f a,Nat.add_assoc]
theorem times_end {out:List Nat}{cj f c0:Nat}{l:List Nat}(hl:Nrm l) (hf:1≤f) (ho:out.length=l.length) (ha:A32 out) (hv:val out+2^(32*l.length)*cj=c0+f*val l) (hc:cj<2^32):
    (cj=0→Nrm out∧val out=c0+f*val l)∧(cj≠0→Nrm (out++ [cj])∧val (out++ [cj])=c0+f*val l):=by
  constructor
  · rintro rfl
    rw [Nat.mul_zero,Nat.add_zero] at hv
    refine ⟨Nrm.of ha fun h0=> ?_,hv⟩
    rw [ho,hv]
    have h1:l≠ []:=by rintro rfl;exact h0 (List.length_eq_zero_iff.1 ho)
    have h2:=hl.ge h1
    have h3:=Nat.le_mul_of_pos_left (val l) hf
    omega
  · intro h
    refine ⟨⟨ha.append fun a h1=>by rw [List.mem_singleton.1 h1];exact hc,by rw [List.getLast?_concat];exact fun e=>h (Option.some.inj e)⟩,?_⟩
    rw [val_append,val_one,ho];exact hv
theorem val_lt_len {l r:List Nat}(hl:A32 l) (hr:Nrm r) (h:l.length<r.length):val l<val r:=by
  have h1:=hl.lt
  have h2:=hr.ge (by rintro rfl;simp at h)
  have h3:=Nat.pow_le_pow_right (n:=2) (by decide) (show 32*l.length≤32*(r.length - 1) by omega)
  omega
theorem val_lt_at {l r:List Nat}(hl:A32 l) (hr:A32 r) {j a b:Nat}(ha:l[j]?=some a) (hb:r[j]?=some b) (hab:a<b) (hd:l.drop (j+1)=r.drop (j+1)):val l<val r:=by
  have hlj:=(List.getElem?_eq_some_iff.1 ha).1
  have hrj:=(List.getElem?_eq_some_iff.1 hb).1
  have el:l=l.take j++(a::l.drop (j+1)):=by have h:=List.drop_eq_getElem_cons hlj;rw [(List.getElem?_eq_some_iff.1 ha).2] at h;rw [←h,List.take_append_drop]
  have er:r=r.take j++(b::r.drop (j+1)):=by have h:=List.drop_eq_getElem_cons hrj;rw [(List.getElem?_eq_some_iff.1 hb).2] at h;rw [←h,List.take_append_drop]
  have h1:val (l.take j)<2^(32*j):=by
    have:=A32.lt (l:=l.take j) fun x hx=>hl x (List.mem_of_mem_take hx)
    rwa [List.length_take,Nat.min_eq_left (by omega)] at this
  rw [el,er,val_append,val_append,hd,List.length_take,List.length_take,Nat.min_eq_left (by omega),Nat.min_eq_left (by omega),val,val]
  have h2:2^(32*j)*(a+1)≤2^(32*j)*b:=Nat.mul_le_mul_left _ hab
  rw [Nat.mul_add,Nat.mul_one] at h2
  rw [Nat.mul_add,Nat.mul_add]
  generalize 2^(32*j)*a=X at h2 ⊢
  generalize 2^(32*j)*b=Y at h2 ⊢
  generalize 2^(32*j)*(2^32*val (List.drop (j+1) r))=Z
  generalize 2^(32*j)=W at h1 h2
  omega
end Js
namespace Go.Sx
open Go.RowKit Go.Proofs Js
theorem elt159:Elt 159 186 1:= .of (by kernel_rfl) (by kernel_rfl)
def u32s (l:List Nat):List Value:=l.map fun (a:Nat)=> .int .u32 (a:Int)
theorem u32s_append (l r:List Nat):u32s (l++r)=u32s l++u32s r:=by simp [u32s]
theorem u32s_one (l:List Nat):∀ u∈u32s l,u.oneCell'=true:=by
  intro u hu
  obtain ⟨c,_,rfl⟩:=List.mem_map.1 hu
  rfl
def NatV (TB:List Bk) (v:Value) (N:Nat):Prop:=∃ l o c,v= .slice o l.length c∧Nrm l∧val l=N∧SlOf TB 186 1 v l.length (u32s l)
theorem NatV.mono {TB TB':List Bk}{v:Value}{N:Nat}(h:NatV TB v N) (hs:TB⊆TB'):NatV TB' v N:=by
  obtain ⟨l,o,c,h1,h2,h3,h4⟩:=h
  exact ⟨l,o,c,h1,h2,h3,h4.mono hs⟩
theorem limb_at {TB L:List Bk}{o:Option Addr}{c:Nat}{l:List Nat}(h:SlOf TB 186 1 (.slice o l.length c) l.length (u32s l)) (h0:0<l.length) (hs:TB⊆L):
    ∃ g,o=some ⟨g,0,none⟩∧∀ {B:Nat}{w0 w:World}{L':List Bk},Mem B w0 L' w→TB⊆L'→∀ (j a:Nat),l[j]?=some a→w.cell? ⟨g,0+j*1,none⟩=some (.int .u32 (a:Int)):=by
  obtain ⟨g,cap,hv,hr⟩:=h.row h0
  injection hv with h1 h2 h3
  refine ⟨g,h1,fun hM hT j a hj=> ?_⟩
  rw [Nat.zero_add,Nat.mul_one]
  exact hr hM hT j _ (by rw [u32s,List.getElem?_map,hj];rfl)
section
variable {n:Nat}{K:List (Nat×Value)}{a:Act}{w:World}{Q:Exit→Act→World→Prop}{ops:Array Oper}{rest:List Oper}{o:Oper}{B:Nat}{w0:World}{L:List Bk}
theorem zeros32 (c:Nat):(madeCells (Value.int .u32 0).cells c).toList=List.replicate c (.int .u32 0):=by
  refine List.eq_replicate_iff.2 ⟨by simp [size_madeCells],fun x hx=> ?_⟩
  simp only [madeCells,Array.toList_map,List.mem_map] at hx
  obtain ⟨j,_,rfl⟩:=hx
  have:j % (Value.int IntKind.u32 0).cells.size=0:=Nat.mod_one j
  rw [this]
  rfl
theorem op_mk32 (hF:Fr n K a) (hM:Mem B w0 L w) (hg:o.guard=none) {d:Nat}{x y:Operand}{z z':Int}(l c:Nat) (hd:o.dst=some d) (hlt:Nat.blt d n=true) (hop:o.op= .makeSlice 159 x y)
    (hx:ev K x=some (.int .i64 z)) (hy:ev K y=some (.int .i64 z')) (hz:z=(l:Int)) (hz':z'=(c:Int)) (hlc:l≤c) (hc:c≤2^40)
    (h:∀ a' w' b,Fr n ((d,.slice (some ⟨b,0,none⟩) l c)::K) a'→Row 186 1 [(b,186,List.replicate c (.int .u32 0))] (.slice (some ⟨b,0,none⟩) l c) l (u32s (List.replicate l 0))→Mem B w0 ((b,186,List.replicate c (.int .u32 0))::L) w'→wpList Tryz.prog ops Q rest a' w'):wpList Tryz.prog ops Q (o::rest) a w:=by
  subst hz;subst hz'
  obtain ⟨i,hi,hz⟩:∃ i,Tryz.prog.info? 186=some i∧(i.zero=some (.int .u32 0)∧i.size=1∧i.bytes=4):=by
    obtain ⟨i,h1,h2⟩:=Option.map_eq_some_iff.1 (show (Tryz.prog.info? 186).map (fun i=>(i.zero,i.size,i.bytes))=some (some (.int .u32 0),1,4) by kernel_rfl)
    injection h2 with h3 h4
    injection h4 with h5 h6
    exact ⟨i,h1,h3,h5,h6⟩
  obtain ⟨hz,hz1,hz2⟩:=hz
  have hr:=run_make (P:=Tryz.prog) w 159 186 i (.int .u32 0) elt159.und hi hz .i64 .i64 (l:Int) (c:Int) (by omega) (by omega) (by rw [hz2];omega) (by omega)
  rw [hz1,Nat.mul_one] at hr
  refine op_run hF hg (.slice (some ⟨w.heap.size,0,none⟩) l c) (w':=w.alloc (.cells (madeCells (Value.int .u32 0).cells c) 186)) hd hlt ?_ (fun a' hF'=>h a' _ w.heap.size hF' ?_ ?_)
  · simp only [execOp,hop,hF.ev hx,hF.ev hy]
    simp at hr
    simp [hr]
  · refine ⟨by simp [u32s],.inr ⟨_,c,_,rfl,rfl,hlc,by simp only [maxLen];omega,by simp,?_⟩⟩
    simp [u32s,List.take_replicate,Nat.min_eq_left hlc]
  · have:=hM.alloc 186 (madeCells (Value.int .u32 0).cells c).toList
    rw [Array.toArray_toList,zeros32] at this
    exact this
theorem op_build32 (hF:Fr n K a) (hM:Mem B w0 L w) (hg:o.guard=none) {d:Nat}{x y:Operand}{p q:Int}(hd:o.dst=some d) (hlt:Nat.blt d n=true) (hop:o.op= .buildSlice 159 2 #[(0,x),(1,y)]) (hx:ev K x=some (.int .u32 p)) (hy:ev K y=some (.int .u32 q))
    (h:∀ a' w' b,Fr n ((d,.slice (some ⟨b,0,none⟩) 2 2)::K) a'→Mem B w0 ((b,186,[.int .u32 p,.int .u32 q])::L) w'→wpList Tryz.prog ops Q rest a' w'):wpList Tryz.prog ops Q (o::rest) a w:=by
  obtain ⟨i,hi,hz,hz1,hz2⟩:∃ i,Tryz.prog.info? 186=some i∧(i.zero=some (.int .u32 0)∧i.size=1∧i.bytes=4):=by
    obtain ⟨i,h1,h2⟩:=Option.map_eq_some_iff.1 (show (Tryz.prog.info? 186).map (fun i=>(i.zero,i.size,i.bytes))=some (some (.int .u32 0),1,4) by kernel_rfl)
    injection h2 with h3 h4
    injection h4 with h5 h6
    exact ⟨i,h1,h3,h5,h6⟩
  have hr:=run_buildSlice (P:=Tryz.prog) w 159 186 2 #[(0,.int .u32 p),(1,.int .u32 q)] #[.int .u32 p,.int .u32 q] i (.int .u32 0) elt159.und hi hz (by rw [hz1];omega) (by rw [hz1];omega) (by
    have:=Great.fill_whole (s:=i.size) (by omega) [.int .u32 p,.int .u32 q] ((Array.range (2*i.size)).map ((Value.int .u32 0).cells[· % (Value.int .u32 0).cells.size]!)) (by intro u hu;rw [hz1];rcases List.mem_cons.1 hu with rfl | hu;rfl;rw [List.mem_singleton.1 hu];rfl) (by simp)
    simpa [Value.cells] using this)
  refine op_run hF hg (.slice (some ⟨w.heap.size,0,none⟩) 2 2) (w':=w.alloc (.cells #[.int .u32 p,.int .u32 q] 186)) hd hlt ?_ (fun a' hF'=>h a' _ w.heap.size hF' (hM.alloc 186 [.int .u32 p,.int .u32 q]))
  simp only [execOp,hop]
  have e2:(Array.map (fun x=>match x with | (i,x)=>(i,a.eval x)) #[(0,x),(1,y)])= #[(0,.int .u32 p),(1,.int .u32 q)]:=by simp [hF.ev hx,hF.ev hy]
  rw [e2]
  simp [hr]
end
open Go.Proofs.YtelonenjneonlaaGreatDoorW.PrintWords
def Sml (N:Nat):Prop:=∃ k,k≤2^20∧N<2^(32*k)
theorem Sml.len {l:List Nat}(h:Nrm l) (hs:Sml (val l)):l.length≤2^20:=by obtain ⟨k,h1,h2⟩:=hs;exact Nat.le_trans (h.len h2) h1
theorem mul_in {a f:Nat}(ha:a<2^32) (hf:f<2^32):a*f≤4294967295*4294967295:=Nat.mul_le_mul (by omega) (by omega)
theorem shr_n {n:Nat}(s:Nat) (hs:s<64):Int.fdiv (n:Int) (2^min s (IntKind.bits .u64))=((n / 2^s:Nat):Int):=by
  rw [show min s (IntKind.bits .u64)=s from Nat.min_eq_left (Nat.le_of_lt hs),Int.fdiv_eq_ediv_of_nonneg _ (by have:(0:Int)<2^s:=Int.pow_pos (by decide);omega)]
  simp
theorem nat_row {R:List Bk}{v:Value}{n:Nat}{xs:List Value}{l:List Nat}{N:Nat}(h:Row 186 1 R v n xs) (hx:xs=u32s l) (hn:l.length=n) (hl:Nrm l) (hv:val l=N):NatV R v N:=by
  subst hx;subst hn;subst hv
  rcases h.2 with ⟨_,h2,h3⟩ | ⟨g,cap,vs,_,h2,_⟩
  · exact ⟨l,none,0,by rw [h2,h3],hl,rfl,h.sl⟩
  · exact ⟨l,some ⟨g,0,none⟩,cap,h2,hl,rfl,h.sl⟩
theorem times_walk {B:Nat}{wc w0:World}{L:List Bk}{v:Value}{N f c0:Nat}(hN:NatV L v N) (hs:Sml N) (hf1:1≤f) (hf:f<2^32) (hc0:c0<2^32) (hM0:Mem B wc L w0):
    Calls Tryz.prog 150 #[v,.int .u32 (f:Int),.int .u32 (c0:Int)] w0 (Ret fun v' w'=>∃ TB,NatV TB v' (c0+f*N)∧Mem B wc (TB++L) w'):=by
 obtain ⟨l,o,c,rfl,hl,rfl,hsl⟩:=hN
 have hM:=hM0
 have hlen:=hs.len hl
 refine enter (l:=[.slice o l.length c,.int .u32 (f:Int),.int .u32 (c0:Int)]) 44 Tryz.func150 rfl rfl (Sq (Rg (Md 1 [0,1,2] rfl (Nx (Sq (Rg (Mv 2 rfl (Sm (((l.length+1:Nat):Int)) rfl (by omega) ?_))))))));intro a hF
 refine op_mk32 hF hM rfl 0 (l.length+1) rfl rfl rfl rfl rfl rfl rfl (by omega) (by omega) ?_;clear hF hM a;intro a w b hF hRow hM
 revert a;refine Md 1 [0,1,2,7] rfl (Nx (Sq (Rg (Mv 1 rfl (Gv rfl (fun _ hF=>gives_conv hF rfl Tryz.underlying186 Tryz.underlying54 rfl ((c0:Int)) (IntWalk.u64_in _ ⟨by omega,by omega⟩) _) (Md 1 [0,1,7,8] rfl (Nx (Sq (Sq (Rg (Md 1 [0,1,7,8,9] rfl (Nx (Bo (Kp [0,1,7,8,9] rfl ?_))))))))))))));intro a hF
 refine loopX (fun (j:Nat) a w=>∃ out cj R sl,Fr 47 [(0,.slice o l.length c),(1,.int .u32 (f:Int)),(7,sl),(8,.int .u64 ((cj:Nat):Int)),(9,.int .i64 (j:Int))] a∧Mem B wc (R++L) w∧Row 186 1 R sl j (u32s out)∧out.length=j∧A32 out∧cj<2^32∧val out+2^(32*j)*cj=c0+f*val (l.take j)∧j≤l.length) (fun j=>l.length - j) (0) ?_ (fun j a w hI=> ?_)
 · exact ⟨[],c0,[(b,186,List.replicate (l.length+1) (.int .u32 0))],_,hF,hM,hRow,rfl,(fun a h=>absurd h (by simp)),hc0,by simp [val],Nat.zero_le _⟩
 clear hF hM
 obtain ⟨out,cj,R,sl,hF,hM,hRow,hol,hoA,hcj,hval,hjl⟩:=hI
 revert a;refine Sq (Sq (Rg (Md 4 [0,1,7,8,9,19] rfl (Nx (Ce rfl (fun ht=> ?_) ((fun ht=> ?_)))))))
 ·
  have hjn:j=l.length:=by have:=of_decide_eq_false ht;omega
  subst hjn
  rw [List.take_length] at hval
  have hend:=times_end hl hf1 hol hoA hval hcj
  refine Ex (Ot (Ot (Ob (Nx ?_))));intro a hF
  refine cutF (fun a w=>∃ TB v',Fr 47 [(7,v')] a∧Mem B wc (TB++L) w∧NatV TB v' (c0+f*val l)) (fun a w h=> ?_) ?_
  ·
   clear hF hM
   obtain ⟨TB,v',hF,hM,hNV⟩:=h
   revert a;exact Sq (Rg (Md 2 [6] rfl (Nx (Re (Y1 rfl rfl ⟨_,rfl,TB,hNV,hM⟩)))))
  revert a;refine Sq (Rg (Md 2 [7,8,40] rfl (Nx (Ce rfl (fun ht=> ?_) ((fun ht=> ?_))))))
  ·
   have hc1:cj=0:=by have:=of_decide_eq_false ht;omega
   refine Sk (Kp [7] rfl ?_);intro a hF
   exact ⟨_,_,hF,hM,nat_row hRow rfl hol (hend.1 hc1).1 (hend.1 hc1).2⟩
  have hc1:cj≠0:=by have:=of_decide_eq_true ht;omega
  refine Rg (Mv 2 rfl (Gv rfl (fun _ hF=>gives_conv hF rfl Tryz.underlying54 Tryz.underlying186 rfl (((cj:Nat):Int)) (by rw [IntKind.wrap_u32];omega) _) ?_));intro a hF
  refine op_buildS hF hM elt159 rfl rfl rfl rfl rfl rfl rfl (by decide) ?_;clear hF hM a;intro a w bb hF hM
  replace hM:=hM.perm (L':=R++((bb,186,[.int .u32 (cj:Int)])::L)) (pc fun x=>by simp [ct,ct_append] <;> omega)
  refine op_appendR hF elt159 hRow hM (sl_one (cs:=[.int .u32 (cj:Int)]) rfl) (fun z hz=>by rw [List.mem_singleton.1 hz];exact List.mem_cons_self ..) (by intro u hu;rw [List.mem_singleton.1 hu];rfl) (by omega) rfl rfl rfl rfl rfl rfl ?_;clear hF hM a;intro a w R2 sl2 hF hRow2 hM
  replace hM:=hM.sub (L':=R2++L) [(bb,186,[.int .u32 (cj:Int)])] (pc fun x=>by simp [ct,ct_append] <;> omega)
  revert a;refine Md 1 [7] rfl ?_;intro a hF
  exact ⟨_,_,hF,hM,nat_row hRow2 (by rw [u32s_append];rfl) (by simp [hol]) (hend.2 hc1).1 (hend.2 hc1).2⟩
 have hj:j<l.length:=by have:=of_decide_eq_true ht;omega
 intro a hF
 obtain ⟨aj,haj⟩:∃ a,l[j]?=some a:=⟨_,List.getElem?_eq_getElem hj⟩
 have haj32:=hl.1 aj (List.mem_of_getElem? haj)
 have hmul:=mul_in haj32 hf
 obtain ⟨g,rfl,hcell⟩:=limb_at hsl (by omega) (List.Subset.refl L)
 revert a;refine Sk (Nx (Sq (Bo (Sq (Rg (Mv 3 rfl (Gv rfl (fun _ hF=>gives_indexAddrS (sz:=1) (j) hF rfl Tryz.underlying159 (by kernel_rfl) rfl rfl rfl hj _) (Gv rfl (fun _ hF=>gives_load1 hF rfl Tryz.underlying186 rfl rfl (hcell hM (List.subset_append_right _ _) j aj haj)) (Gv rfl (fun _ hF=>gives_conv hF rfl Tryz.underlying186 Tryz.underlying54 rfl (((aj:Nat):Int)) (IntWalk.u64_in _ ⟨by omega,by omega⟩) _) (Mv 1 rfl (Gv rfl (fun _ hF=>gives_conv hF rfl Tryz.underlying186 Tryz.underlying54 rfl (((f:Nat):Int)) (IntWalk.u64_in _ ⟨by omega,by omega⟩) _) ?_)))))))))));intro a hF
 refine op_sum hF rfl ((aj*f:Nat):Int) rfl rfl rfl rfl rfl rfl (Int.natCast_mul aj f).symm (IntWalk.u64_in _ ⟨by omega,by omega⟩) ?_;clear hF a;intro a hF
 refine op_sum hF rfl ((cj+aj*f:Nat):Int) rfl rfl rfl rfl rfl rfl (Int.natCast_add cj (aj*f)).symm (IntWalk.u64_in _ ⟨by omega,by omega⟩) ?_;clear hF a;intro a hF
 revert a;refine Md 1 [0,1,7,8,9] rfl (Nx (Sq (Rg (Mv 2 rfl (Gv rfl (fun _ hF=>gives_conv hF rfl Tryz.underlying54 Tryz.underlying186 rfl ((((cj+aj*f) % 2^32:Nat):Int)) (by rw [IntKind.wrap_u32];omega) _) ?_)))));intro a hF
 refine op_buildS hF hM elt159 rfl rfl rfl rfl rfl rfl rfl (by decide) ?_;clear hF hM a;intro a w bb hF hM
 replace hM:=hM.perm (L':=R++((bb,186,[.int .u32 (((cj+aj*f) % 2^32:Nat):Int)])::L)) (pc fun x=>by simp [ct,ct_append] <;> omega)
 refine op_appendR hF elt159 hRow hM (sl_one (cs:=[.int .u32 (((cj+aj*f) % 2^32:Nat):Int)]) rfl) (fun z hz=>by rw [List.mem_singleton.1 hz];exact List.mem_cons_self ..) (by intro u hu;rw [List.mem_singleton.1 hu];rfl) (by omega) rfl rfl rfl rfl rfl rfl ?_;clear hF hM a;intro a w R2 sl2 hF hRow2 hM
 replace hM:=hM.sub (L':=R2++L) [(bb,186,[.int .u32 (((cj+aj*f) % 2^32:Nat):Int)])] (pc fun x=>by simp [ct,ct_append] <;> omega)
 revert a;refine Md 1 [0,1,7,8,9] rfl (Nx (Rg (Mv 1 rfl (Gv rfl (fun _ hF=>gives_shr (32) ((((cj+aj*f) / 2^32:Nat):Int)) hF rfl rfl rfl rfl (shr_n 32 (by decide)) _) (Md 1 [0,1,7,8,9] rfl (Nb (Nx (Rg (Mv 1 rfl (Sm (((j+1:Nat):Int)) rfl (by omega) (Md 1 [0,1,7,8,9] rfl ?_)))))))))));intro a hF
 exact ⟨j+1,⟨out++ [(cj+aj*f) % 2^32],(cj+aj*f) / 2^32,R2,sl2,hF,hM,by rw [u32s_append];exact hRow2,by simp [hol],hoA.append (fun x hx=>by rw [List.mem_singleton.1 hx];exact Nat.mod_lt _ (by decide)),by omega,times_step haj hol hval,hj⟩,by omega⟩

end Go.Sx