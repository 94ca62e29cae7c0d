/- Part 11 of the proof of FnJrTyped: the statement Rows.FnJrTypedCardSaid; no further condition. -/
import Derived.Test.YtelonenjneonlaaGreatDoorR10
set_option linter.all false
set_option maxRecDepth 100000
namespace Go.Sx
open Go.RowKit Go.Proofs Js Go.Proofs.YtelonenjneonlaaGreatDoorW.PrintWords
theorem value_step {B:Nat}{wc:World}{b:Nat}{T:Str}(hT:T.length≤2^40) {n:Nat}(hE:ELE T B b wc n) (hO:MEMS T B b wc n):VAL T B b wc (n+1):=by
 intro r L w0 hs hfn hM0
 have hM:=hM0
 have hps:=hs.len
 have hT1:T.length≤2^41:=by omega
 refine enter (l:=[.pointer (some ⟨b,0,none⟩)]) 74 Tryz.func74 rfl rfl (Sq (Rg ?_));intro a hF
 refine op_alloc hF hM rfl (vs:=[.int .i64 0,.int .i64 0,.int .i64 0,.slice none 0 0,.slice none 0 0]) rfl rfl rfl (by kernel_rfl) ?_;clear hF hM a;intro a w b2 hF hM
 revert a;refine Md 1 [0,2] rfl (Nx (Sq (Rg (Mv 3 rfl (Ld hM 1 rfl rfl (Gv rfl (fun _ hF=>gives_build (vals:=[(1,.int .i64 ((ps T r:Nat):Int))]) (cells:=[.int .i64 0,.int .i64 ((ps T r:Nat):Int),.int .i64 0,.slice none 0 0,.slice none 0 0]) hF rfl rfl (by kernel_rfl) _) ?_))))));intro a hF
 refine op_alloc hF hM rfl (vs:=[.int .i64 0,.int .i64 0,.int .i64 0,.slice none 0 0,.slice none 0 0]) rfl rfl rfl (by kernel_rfl) ?_;clear hF hM a;intro a w b4 hF hM
 refine op_storeA hF hM rfl 0 rfl rfl (by kernel_rfl) rfl rfl rfl rfl (rfl) ?_;clear hF hM a;intro a w hF hM
 revert a;refine Md 0 [0,2,4] rfl (Nx (Sq (Rg (Md 1 [0,2,4,5] rfl (Nx (Sq ?_))))))
 rcases first_of r with ⟨s,hr⟩ | ⟨s,hr⟩ | ⟨s,hr⟩ | ⟨s,hr⟩ | hk | ⟨hk,n34,n45⟩ | ⟨hk,n123,n91⟩
 ·
  have e1:=pVal_123 T.length n s
  rw [←hr] at e1
  refine Rg (Mv 1 rfl ?_)
  replace hM:=hM.perm (L':=(b,108,RD T r)::(b4,27,[.int .i64 0,.int .i64 ((ps T r:Nat):Int),.int .i64 0,.slice none 0 0,.slice none 0 0])::(b2,27,[.int .i64 0,.int .i64 0,.int .i64 0,.slice none 0 0,.slice none 0 0])::L) (pc fun x=>by simp [ct,ct_append] <;> omega)
  refine Cl rfl rfl rfl (here_walk hT1 hs hM) ?_
  clear hM;intro w v hR
  obtain ⟨rfl,hM⟩:=hR
  refine Md 1 [0,2,4,5,6] rfl ?_;intro a hF
  rw [hr] at hF
  refine next ?_
  refine cutF (fun a w=>∃ (k:Int) (o1:Option Addr) (l1 c1:Nat) (o2:Option Addr) (l2 c2:Nat) (ok:Bool) (q:Str) (TB:List Bk),Fr 75 [(0,.pointer (some ⟨b,0,none⟩)),(2,.pointer (some ⟨b2,0,none⟩)),(4,.pointer (some ⟨b4,0,none⟩)),(5,.bool ok)] a∧Mem B wc ((b,108,RD T q)::(b4,27,[.int .i64 k,.int .i64 ((ps T r:Nat):Int),.int .i64 0,.slice o1 l1 c1,.slice o2 l2 c2])::(b2,27,[.int .i64 0,.int .i64 0,.int .i64 0,.slice none 0 0,.slice none 0 0])::(TB++L)) w∧Sfx T q∧VMid T r q TB k (.slice o1 l1 c1) (.slice o2 l2 c2) ok (pVal T.length (n+1) r)) (fun a w h=> ?_) ?_
  ·
   clear hF hM
   clear hs hps
   obtain ⟨k,o1,l1,c1,o2,l2,c2,ok,q,TB,hF,hM,hs,hmid⟩:=h
   revert a;refine Sq (Rg (Mv 3 rfl (Ld hM 0 rfl rfl (Mv 1 rfl (St hM 1 rfl ?_)))))
   clear hM;intro w hM
   refine Md 0 [2,4,5] rfl (Nx (Sq (Rg ?_)));intro a hF
   refine op_loadA hF hM rfl 1 rfl rfl rfl Tryz.underlying27 rfl (by kernel_rfl) rfl rfl ?_;clear hF a;intro a hF
   revert a;refine Mv 1 rfl ?_;intro a hF
   refine op_storeA hF hM rfl 2 rfl rfl (by kernel_rfl) rfl rfl rfl rfl (rfl) ?_;clear hF hM a;intro a w hF hM
   revert a;refine Md 1 [2,3] rfl (Nx (Re ?_));intro a hF
   cases hpv:pVal T.length (n+1) r with
   | none =>
     rw [hpv] at hmid
     obtain ⟨rfl,h1,h2⟩:=hmid
     cases h1;cases h2
     refine retMany (vs:=[_,_]) hF hM rfl rfl (.cell 2 rfl rfl Tryz.underlying27 rfl (by kernel_rfl) (.tmp rfl .nil)) ⟨_,rfl,?_⟩
     exact ⟨k,_,_,q,rfl,hs,hM.sub ((b4,27,[.int .i64 k,.int .i64 ((ps T r:Nat):Int),.int .i64 ((ps T q:Nat):Int),.slice none 0 0,.slice none 0 0])::(b2,27,[.int .i64 k,.int .i64 ((ps T r:Nat):Int),.int .i64 ((ps T q:Nat):Int),.slice none 0 0,.slice none 0 0])::TB) (pc fun x=>by simp [ct,ct_append] <;> omega)⟩
   | some x =>
     rw [hpv] at hmid
     obtain ⟨p,q'⟩:=x
     obtain ⟨rfl,rfl,k',ns,kids,xs,rfl,rfl,h1,h2,h3⟩:=hmid
     refine retMany (vs:=[_,_]) hF hM rfl rfl (.cell 2 rfl rfl Tryz.underlying27 rfl (by kernel_rfl) (.tmp rfl .nil)) ⟨_,rfl,?_⟩
     refine ⟨_,TB,rfl,?_,hs,hM.sub [(b4,27,[.int .i64 (k':Int),.int .i64 ((ps T r:Nat):Int),.int .i64 ((ps T q':Nat):Int),.slice o1 l1 c1,.slice o2 l2 c2]),(b2,27,[.int .i64 (k':Int),.int .i64 ((ps T r:Nat):Int),.int .i64 ((ps T q':Nat):Int),.slice o1 l1 c1,.slice o2 l2 c2])] (pc fun x=>by simp [ct,ct_append] <;> omega)⟩
     simp only [RepPl]
     exact ⟨_,_,xs,rfl,h1,h2,h3⟩
  revert a;refine Bo (Sq (Rg (Md 3 [0,2,4,5,6,14] rfl (Nx (Ct rfl (Sq ?_))))))
  rcases hx:objOf T.length n s with _ | ⟨ns,kids,q⟩
  ·
   rw [hx] at e1
   refine Rg (Mv 1 rfl (St hM 1 rfl ?_))
   clear hM;intro w hM
   refine Md 0 [0,2,4] rfl (Nx (Rg (Mv 1 rfl ?_)))
   replace hM:Mem B wc ((b,108,RD T (123::s))::(b4,27,[.int .i64 6,.int .i64 ((ps T r:Nat):Int),.int .i64 0,.slice none 0 0,.slice none 0 0])::(b2,27,[.int .i64 0,.int .i64 0,.int .i64 0,.slice none 0 0,.slice none 0 0])::L) w:=by rw [hr] at hM ⊢;exact hM
   rw [hr] at hs
   refine Cl rfl rfl rfl (hO s _ w hs (by have:=congrArg List.length hr;simp only [List.length_cons] at this;omega) hM) ?_
   clear hM;intro w v hR
   rw [hx] at hR
   obtain ⟨q,rfl,hs9,hM⟩:=hR
   have hmid:VMid T r q [] 6 (.slice none 0 0) (.slice none 0 0) false (pVal T.length (n+1) r):=by rw [e1];exact ⟨rfl,rfl,rfl⟩
   refine Mv 5 rfl (St hM 1 rfl ?_)
   clear hM;intro w hM
   refine Mv 1 rfl (St hM 1 rfl ?_)
   clear hM;intro w hM
   refine Md 1 [0,2,4,5] rfl (Nb (Kp [0,2,4,5] rfl ?_));intro a hF
   refine ⟨_,_,_,_,_,_,_,_,_,_,hF,?_,hs9,hmid⟩
   exact hM
  rw [hx] at e1
  refine Rg (Mv 1 rfl (St hM 1 rfl ?_))
  clear hM;intro w hM
  refine Md 0 [0,2,4] rfl (Nx (Rg (Mv 1 rfl ?_)))
  replace hM:Mem B wc ((b,108,RD T (123::s))::(b4,27,[.int .i64 6,.int .i64 ((ps T r:Nat):Int),.int .i64 0,.slice none 0 0,.slice none 0 0])::(b2,27,[.int .i64 0,.int .i64 0,.int .i64 0,.slice none 0 0,.slice none 0 0])::L) w:=by rw [hr] at hM ⊢;exact hM
  rw [hr] at hs
  refine Cl rfl rfl rfl (hO s _ w hs (by have:=congrArg List.length hr;simp only [List.length_cons] at this;omega) hM) ?_
  clear hM;intro w v hR
  rw [hx] at hR
  obtain ⟨sn,sk,xs,TB,rfl,hn1,hk1,hk2,hs9,hM⟩:=hR
  obtain ⟨o1,c1,rfl⟩:=hn1.shape
  obtain ⟨o2,c2,rfl⟩:=hk1.shape
  replace hM:=hM.perm (L':=(b,108,RD T q)::(b4,27,[.int .i64 6,.int .i64 ((ps T r:Nat):Int),.int .i64 0,.slice none 0 0,.slice none 0 0])::(b2,27,[.int .i64 0,.int .i64 0,.int .i64 0,.slice none 0 0,.slice none 0 0])::(TB++L)) (pc fun x=>by simp [ct,ct_append] <;> omega)
  have hmid:VMid T r q TB 6 (.slice o1 ns.length c1) (.slice o2 kids.length c2) true (pVal T.length (n+1) r):=by rw [e1];exact ⟨rfl,rfl,6,ns,kids,xs,rfl,by rw [hr];rfl,hn1,hk1,hk2⟩
  refine Mv 5 rfl (St hM 1 rfl ?_)
  clear hM;intro w hM
  refine Mv 1 rfl (St hM 1 rfl ?_)
  clear hM;intro w hM
  refine Md 1 [0,2,4,5] rfl (Nb (Kp [0,2,4,5] rfl ?_));intro a hF
  refine ⟨_,_,_,_,_,_,_,_,_,_,hF,?_,hs9,hmid⟩
  exact hM
 ·
  have e1:=pVal_91 T.length n s
  rw [←hr] at e1
  refine Rg (Mv 1 rfl ?_)
  replace hM:=hM.perm (L':=(b,108,RD T r)::(b4,27,[.int .i64 0,.int .i64 ((ps T r:Nat):Int),.int .i64 0,.slice none 0 0,.slice none 0 0])::(b2,27,[.int .i64 0,.int .i64 0,.int .i64 0,.slice none 0 0,.slice none 0 0])::L) (pc fun x=>by simp [ct,ct_append] <;> omega)
  refine Cl rfl rfl rfl (here_walk hT1 hs hM) ?_
  clear hM;intro w v hR
  obtain ⟨rfl,hM⟩:=hR
  refine Md 1 [0,2,4,5,6] rfl ?_;intro a hF
  rw [hr] at hF
  refine next ?_
  refine cutF (fun a w=>∃ (k:Int) (o1:Option Addr) (l1 c1:Nat) (o2:Option Addr) (l2 c2:Nat) (ok:Bool) (q:Str) (TB:List Bk),Fr 75 [(0,.pointer (some ⟨b,0,none⟩)),(2,.pointer (some ⟨b2,0,none⟩)),(4,.pointer (some ⟨b4,0,none⟩)),(5,.bool ok)] a∧Mem B wc ((b,108,RD T q)::(b4,27,[.int .i64 k,.int .i64 ((ps T r:Nat):Int),.int .i64 0,.slice o1 l1 c1,.slice o2 l2 c2])::(b2,27,[.int .i64 0,.int .i64 0,.int .i64 0,.slice none 0 0,.slice none 0 0])::(TB++L)) w∧Sfx T q∧VMid T r q TB k (.slice o1 l1 c1) (.slice o2 l2 c2) ok (pVal T.length (n+1) r)) (fun a w h=> ?_) ?_
  ·
   clear hF hM
   clear hs hps
   obtain ⟨k,o1,l1,c1,o2,l2,c2,ok,q,TB,hF,hM,hs,hmid⟩:=h
   revert a;refine Sq (Rg (Mv 3 rfl (Ld hM 0 rfl rfl (Mv 1 rfl (St hM 1 rfl ?_)))))
   clear hM;intro w hM
   refine Md 0 [2,4,5] rfl (Nx (Sq (Rg ?_)));intro a hF
   refine op_loadA hF hM rfl 1 rfl rfl rfl Tryz.underlying27 rfl (by kernel_rfl) rfl rfl ?_;clear hF a;intro a hF
   revert a;refine Mv 1 rfl ?_;intro a hF
   refine op_storeA hF hM rfl 2 rfl rfl (by kernel_rfl) rfl rfl rfl rfl (rfl) ?_;clear hF hM a;intro a w hF hM
   revert a;refine Md 1 [2,3] rfl (Nx (Re ?_));intro a hF
   cases hpv:pVal T.length (n+1) r with
   | none =>
     rw [hpv] at hmid
     obtain ⟨rfl,h1,h2⟩:=hmid
     cases h1;cases h2
     refine retMany (vs:=[_,_]) hF hM rfl rfl (.cell 2 rfl rfl Tryz.underlying27 rfl (by kernel_rfl) (.tmp rfl .nil)) ⟨_,rfl,?_⟩
     exact ⟨k,_,_,q,rfl,hs,hM.sub ((b4,27,[.int .i64 k,.int .i64 ((ps T r:Nat):Int),.int .i64 ((ps T q:Nat):Int),.slice none 0 0,.slice none 0 0])::(b2,27,[.int .i64 k,.int .i64 ((ps T r:Nat):Int),.int .i64 ((ps T q:Nat):Int),.slice none 0 0,.slice none 0 0])::TB) (pc fun x=>by simp [ct,ct_append] <;> omega)⟩
   | some x =>
     rw [hpv] at hmid
     obtain ⟨p,q'⟩:=x
     obtain ⟨rfl,rfl,k',ns,kids,xs,rfl,rfl,h1,h2,h3⟩:=hmid
     refine retMany (vs:=[_,_]) hF hM rfl rfl (.cell 2 rfl rfl Tryz.underlying27 rfl (by kernel_rfl) (.tmp rfl .nil)) ⟨_,rfl,?_⟩
     refine ⟨_,TB,rfl,?_,hs,hM.sub [(b4,27,[.int .i64 (k':Int),.int .i64 ((ps T r:Nat):Int),.int .i64 ((ps T q':Nat):Int),.slice o1 l1 c1,.slice o2 l2 c2]),(b2,27,[.int .i64 (k':Int),.int .i64 ((ps T r:Nat):Int),.int .i64 ((ps T q':Nat):Int),.slice o1 l1 c1,.slice o2 l2 c2])] (pc fun x=>by simp [ct,ct_append] <;> omega)⟩
     simp only [RepPl]
     exact ⟨_,_,xs,rfl,h1,h2,h3⟩
  revert a;refine Bo (Sq (Rg (Md 3 [0,2,4,5,6,14] rfl (Nx (Cf rfl (Sq (Rg (Md 3 [0,2,4,5,6,26] rfl (Nx (Ct rfl (Sq ?_)))))))))))
  rcases hx:arrOf T.length n s with _ | ⟨kids,q⟩
  ·
   rw [hx] at e1
   refine Rg (Mv 1 rfl (St hM 1 rfl ?_))
   clear hM;intro w hM
   refine Md 0 [0,2,4] rfl (Nx (Rg (Mv 1 rfl ?_)))
   replace hM:Mem B wc ((b,108,RD T (91::s))::(b4,27,[.int .i64 5,.int .i64 ((ps T r:Nat):Int),.int .i64 0,.slice none 0 0,.slice none 0 0])::(b2,27,[.int .i64 0,.int .i64 0,.int .i64 0,.slice none 0 0,.slice none 0 0])::L) w:=by rw [hr] at hM ⊢;exact hM
   rw [hr] at hs
   refine Cl rfl rfl rfl (hE s _ w hs (by have:=congrArg List.length hr;simp only [List.length_cons] at this;omega) hM) ?_
   clear hM;intro w v hR
   rw [hx] at hR
   obtain ⟨q,rfl,hs9,hM⟩:=hR
   have hmid:VMid T r q [] 5 (.slice none 0 0) (.slice none 0 0) false (pVal T.length (n+1) r):=by rw [e1];exact ⟨rfl,rfl,rfl⟩
   refine Mv 4 rfl (St hM 1 rfl ?_)
   clear hM;intro w hM
   refine Md 1 [0,2,4,5] rfl (Nb (Kp [0,2,4,5] rfl ?_));intro a hF
   refine ⟨_,_,_,_,_,_,_,_,_,_,hF,?_,hs9,hmid⟩
   exact hM
  rw [hx] at e1
  refine Rg (Mv 1 rfl (St hM 1 rfl ?_))
  clear hM;intro w hM
  refine Md 0 [0,2,4] rfl (Nx (Rg (Mv 1 rfl ?_)))
  replace hM:Mem B wc ((b,108,RD T (91::s))::(b4,27,[.int .i64 5,.int .i64 ((ps T r:Nat):Int),.int .i64 0,.slice none 0 0,.slice none 0 0])::(b2,27,[.int .i64 0,.int .i64 0,.int .i64 0,.slice none 0 0,.slice none 0 0])::L) w:=by rw [hr] at hM ⊢;exact hM
  rw [hr] at hs
  refine Cl rfl rfl rfl (hE s _ w hs (by have:=congrArg List.length hr;simp only [List.length_cons] at this;omega) hM) ?_
  clear hM;intro w v hR
  rw [hx] at hR
  obtain ⟨sk,xs,TB,rfl,hk1,hk2,hs9,hM⟩:=hR
  obtain ⟨o2,c2,rfl⟩:=hk1.shape
  replace hM:=hM.perm (L':=(b,108,RD T q)::(b4,27,[.int .i64 5,.int .i64 ((ps T r:Nat):Int),.int .i64 0,.slice none 0 0,.slice none 0 0])::(b2,27,[.int .i64 0,.int .i64 0,.int .i64 0,.slice none 0 0,.slice none 0 0])::(TB++L)) (pc fun x=>by simp [ct,ct_append] <;> omega)
  have hmid:VMid T r q TB 5 (.slice none 0 0) (.slice o2 kids.length c2) true (pVal T.length (n+1) r):=by rw [e1];exact ⟨rfl,rfl,5,[],kids,xs,rfl,by rw [hr];rfl,.nil _ _ _,hk1,hk2⟩
  refine Mv 4 rfl (St hM 1 rfl ?_)
  clear hM;intro w hM
  refine Md 1 [0,2,4,5] rfl (Nb (Kp [0,2,4,5] rfl ?_));intro a hF
  refine ⟨_,_,_,_,_,_,_,_,_,_,hF,?_,hs9,hmid⟩
  exact hM
 ·
  have e1:=pVal_34 T.length n s
  rw [←hr] at e1
  refine Rg (Mv 1 rfl ?_)
  replace hM:=hM.perm (L':=(b,108,RD T r)::(b4,27,[.int .i64 0,.int .i64 ((ps T r:Nat):Int),.int .i64 0,.slice none 0 0,.slice none 0 0])::(b2,27,[.int .i64 0,.int .i64 0,.int .i64 0,.slice none 0 0,.slice none 0 0])::L) (pc fun x=>by simp [ct,ct_append] <;> omega)
  refine Cl rfl rfl rfl (here_walk hT1 hs hM) ?_
  clear hM;intro w v hR
  obtain ⟨rfl,hM⟩:=hR
  refine Md 1 [0,2,4,5,6] rfl ?_;intro a hF
  rw [hr] at hF
  refine next ?_
  refine cutF (fun a w=>∃ (k:Int) (o1:Option Addr) (l1 c1:Nat) (o2:Option Addr) (l2 c2:Nat) (ok:Bool) (q:Str) (TB:List Bk),Fr 75 [(0,.pointer (some ⟨b,0,none⟩)),(2,.pointer (some ⟨b2,0,none⟩)),(4,.pointer (some ⟨b4,0,none⟩)),(5,.bool ok)] a∧Mem B wc ((b,108,RD T q)::(b4,27,[.int .i64 k,.int .i64 ((ps T r:Nat):Int),.int .i64 0,.slice o1 l1 c1,.slice o2 l2 c2])::(b2,27,[.int .i64 0,.int .i64 0,.int .i64 0,.slice none 0 0,.slice none 0 0])::(TB++L)) w∧Sfx T q∧VMid T r q TB k (.slice o1 l1 c1) (.slice o2 l2 c2) ok (pVal T.length (n+1) r)) (fun a w h=> ?_) ?_
  ·
   clear hF hM
   clear hs hps
   obtain ⟨k,o1,l1,c1,o2,l2,c2,ok,q,TB,hF,hM,hs,hmid⟩:=h
   revert a;refine Sq (Rg (Mv 3 rfl (Ld hM 0 rfl rfl (Mv 1 rfl (St hM 1 rfl ?_)))))
   clear hM;intro w hM
   refine Md 0 [2,4,5] rfl (Nx (Sq (Rg ?_)));intro a hF
   refine op_loadA hF hM rfl 1 rfl rfl rfl Tryz.underlying27 rfl (by kernel_rfl) rfl rfl ?_;clear hF a;intro a hF
   revert a;refine Mv 1 rfl ?_;intro a hF
   refine op_storeA hF hM rfl 2 rfl rfl (by kernel_rfl) rfl rfl rfl rfl (rfl) ?_;clear hF hM a;intro a w hF hM
   revert a;refine Md 1 [2,3] rfl (Nx (Re ?_));intro a hF
   cases hpv:pVal T.length (n+1) r with
   | none =>
     rw [hpv] at hmid
     obtain ⟨rfl,h1,h2⟩:=hmid
     cases h1;cases h2
     refine retMany (vs:=[_,_]) hF hM rfl rfl (.cell 2 rfl rfl Tryz.underlying27 rfl (by kernel_rfl) (.tmp rfl .nil)) ⟨_,rfl,?_⟩
     exact ⟨k,_,_,q,rfl,hs,hM.sub ((b4,27,[.int .i64 k,.int .i64 ((ps T r:Nat):Int),.int .i64 ((ps T q:Nat):Int),.slice none 0 0,.slice none 0 0])::(b2,27,[.int .i64 k,.int .i64 ((ps T r:Nat):Int),.int .i64 ((ps T q:Nat):Int),.slice none 0 0,.slice none 0 0])::TB) (pc fun x=>by simp [ct,ct_append] <;> omega)⟩
   | some x =>
     rw [hpv] at hmid
     obtain ⟨p,q'⟩:=x
     obtain ⟨rfl,rfl,k',ns,kids,xs,rfl,rfl,h1,h2,h3⟩:=hmid
     refine retMany (vs:=[_,_]) hF hM rfl rfl (.cell 2 rfl rfl Tryz.underlying27 rfl (by kernel_rfl) (.tmp rfl .nil)) ⟨_,rfl,?_⟩
     refine ⟨_,TB,rfl,?_,hs,hM.sub [(b4,27,[.int .i64 (k':Int),.int .i64 ((ps T r:Nat):Int),.int .i64 ((ps T q':Nat):Int),.slice o1 l1 c1,.slice o2 l2 c2]),(b2,27,[.int .i64 (k':Int),.int .i64 ((ps T r:Nat):Int),.int .i64 ((ps T q':Nat):Int),.slice o1 l1 c1,.slice o2 l2 c2])] (pc fun x=>by simp [ct,ct_append] <;> omega)⟩
     simp only [RepPl]
     exact ⟨_,_,xs,rfl,h1,h2,h3⟩
  revert a;refine Bo (Sq (Rg (Md 3 [0,2,4,5,6,14] rfl (Nx (Cf rfl (Sq (Rg (Md 3 [0,2,4,5,6,26] rfl (Nx (Cf rfl (Sq (Rg (Md 3 [0,2,4,5,6,36] rfl (Nx (Ct rfl (Sq (Rg (Mv 1 rfl (St hM 1 rfl ?_)))))))))))))))))))
  clear hM;intro w hM
  refine Md 0 [0,2,4] rfl (Nx (Rg (Mv 1 rfl ?_)))
  replace hM:Mem B wc ((b,108,RD T (34::s))::(b4,27,[.int .i64 4,.int .i64 ((ps T r:Nat):Int),.int .i64 0,.slice none 0 0,.slice none 0 0])::(b2,27,[.int .i64 0,.int .i64 0,.int .i64 0,.slice none 0 0,.slice none 0 0])::L) w:=by rw [hr] at hM ⊢;exact hM
  rw [hr] at hs
  refine Cl rfl rfl rfl (quoted_rd hT1 hs hM) ?_
  clear hM;intro w v hR
  obtain ⟨rfl,q,hs9,hqq,hM⟩:=hR
  have hmid:=VMid.leaf (T:=T) (r:=r) (k:=4) e1 hqq
  refine Md 1 [0,2,4,5] rfl (Nb (Kp [0,2,4,5] rfl ?_));intro a hF
  refine ⟨_,_,_,_,_,_,_,_,_,_,hF,?_,hs9,hmid⟩
  exact hM
 ·
  have e1:=pVal_45 T.length n s (.inl rfl)
  rw [←hr] at e1
  refine Rg (Mv 1 rfl ?_)
  replace hM:=hM.perm (L':=(b,108,RD T r)::(b4,27,[.int .i64 0,.int .i64 ((ps T r:Nat):Int),.int .i64 0,.slice none 0 0,.slice none 0 0])::(b2,27,[.int .i64 0,.int .i64 0,.int .i64 0,.slice none 0 0,.slice none 0 0])::L) (pc fun x=>by simp [ct,ct_append] <;> omega)
  refine Cl rfl rfl rfl (here_walk hT1 hs hM) ?_
  clear hM;intro w v hR
  obtain ⟨rfl,hM⟩:=hR
  refine Md 1 [0,2,4,5,6] rfl ?_;intro a hF
  rw [hr] at hF
  refine next ?_
  refine cutF (fun a w=>∃ (k:Int) (o1:Option Addr) (l1 c1:Nat) (o2:Option Addr) (l2 c2:Nat) (ok:Bool) (q:Str) (TB:List Bk),Fr 75 [(0,.pointer (some ⟨b,0,none⟩)),(2,.pointer (some ⟨b2,0,none⟩)),(4,.pointer (some ⟨b4,0,none⟩)),(5,.bool ok)] a∧Mem B wc ((b,108,RD T q)::(b4,27,[.int .i64 k,.int .i64 ((ps T r:Nat):Int),.int .i64 0,.slice o1 l1 c1,.slice o2 l2 c2])::(b2,27,[.int .i64 0,.int .i64 0,.int .i64 0,.slice none 0 0,.slice none 0 0])::(TB++L)) w∧Sfx T q∧VMid T r q TB k (.slice o1 l1 c1) (.slice o2 l2 c2) ok (pVal T.length (n+1) r)) (fun a w h=> ?_) ?_
  ·
   clear hF hM
   clear hs hps
   obtain ⟨k,o1,l1,c1,o2,l2,c2,ok,q,TB,hF,hM,hs,hmid⟩:=h
   revert a;refine Sq (Rg (Mv 3 rfl (Ld hM 0 rfl rfl (Mv 1 rfl (St hM 1 rfl ?_)))))
   clear hM;intro w hM
   refine Md 0 [2,4,5] rfl (Nx (Sq (Rg ?_)));intro a hF
   refine op_loadA hF hM rfl 1 rfl rfl rfl Tryz.underlying27 rfl (by kernel_rfl) rfl rfl ?_;clear hF a;intro a hF
   revert a;refine Mv 1 rfl ?_;intro a hF
   refine op_storeA hF hM rfl 2 rfl rfl (by kernel_rfl) rfl rfl rfl rfl (rfl) ?_;clear hF hM a;intro a w hF hM
   revert a;refine Md 1 [2,3] rfl (Nx (Re ?_));intro a hF
   cases hpv:pVal T.length (n+1) r with
   | none =>
     rw [hpv] at hmid
     obtain ⟨rfl,h1,h2⟩:=hmid
     cases h1;cases h2
     refine retMany (vs:=[_,_]) hF hM rfl rfl (.cell 2 rfl rfl Tryz.underlying27 rfl (by kernel_rfl) (.tmp rfl .nil)) ⟨_,rfl,?_⟩
     exact ⟨k,_,_,q,rfl,hs,hM.sub ((b4,27,[.int .i64 k,.int .i64 ((ps T r:Nat):Int),.int .i64 ((ps T q:Nat):Int),.slice none 0 0,.slice none 0 0])::(b2,27,[.int .i64 k,.int .i64 ((ps T r:Nat):Int),.int .i64 ((ps T q:Nat):Int),.slice none 0 0,.slice none 0 0])::TB) (pc fun x=>by simp [ct,ct_append] <;> omega)⟩
   | some x =>
     rw [hpv] at hmid
     obtain ⟨p,q'⟩:=x
     obtain ⟨rfl,rfl,k',ns,kids,xs,rfl,rfl,h1,h2,h3⟩:=hmid
     refine retMany (vs:=[_,_]) hF hM rfl rfl (.cell 2 rfl rfl Tryz.underlying27 rfl (by kernel_rfl) (.tmp rfl .nil)) ⟨_,rfl,?_⟩
     refine ⟨_,TB,rfl,?_,hs,hM.sub [(b4,27,[.int .i64 (k':Int),.int .i64 ((ps T r:Nat):Int),.int .i64 ((ps T q':Nat):Int),.slice o1 l1 c1,.slice o2 l2 c2]),(b2,27,[.int .i64 (k':Int),.int .i64 ((ps T r:Nat):Int),.int .i64 ((ps T q':Nat):Int),.slice o1 l1 c1,.slice o2 l2 c2])] (pc fun x=>by simp [ct,ct_append] <;> omega)⟩
     simp only [RepPl]
     exact ⟨_,_,xs,rfl,h1,h2,h3⟩
  revert a;refine Bo (Sq (Rg (Md 3 [0,2,4,5,6,14] rfl (Nx (Cf rfl (Sq (Rg (Md 3 [0,2,4,5,6,26] rfl (Nx (Cf rfl (Sq (Rg (Md 3 [0,2,4,5,6,36] rfl (Nx (Cf rfl (Sq (Rg (Md 11 [0,2,4,5,42] rfl (Nx (Ct rfl (Sq (Rg (Mv 1 rfl (St hM 1 rfl ?_))))))))))))))))))))))))
  clear hM;intro w hM
  refine Md 0 [0,2,4] rfl (Nx (Rg (Mv 1 rfl (Cl rfl rfl rfl (number_rd hT1 hs hM) ?_))))
  clear hM;intro w v hR
  obtain ⟨rfl,q,hs9,hqq,hM⟩:=hR
  have hmid:=VMid.leaf (T:=T) (r:=r) (k:=3) e1 hqq
  refine Md 1 [0,2,4,5] rfl (Nb (Kp [0,2,4,5] rfl ?_));intro a hF
  refine ⟨_,_,_,_,_,_,_,_,_,_,hF,?_,hs9,hmid⟩
  exact hM
 ·
  have e1:pVal T.length (n+1) r=(pNum r).map fun x=>(.mk 3 (T.length - r.length) (T.length - x.length) [] [],x):=by cases r with | nil=>exact absurd hk.1 (by decide) | cons c s=>exact pVal_45 T.length n s (.inr hk)
  have n123:r.headD 0≠123:=by rintro h;revert hk;rw [h];decide
  have n91:r.headD 0≠91:=by rintro h;revert hk;rw [h];decide
  have n34:r.headD 0≠34:=by rintro h;revert hk;rw [h];decide
  have n45:r.headD 0≠45:=by rintro h;revert hk;rw [h];decide
  refine Rg (Mv 1 rfl ?_)
  replace hM:=hM.perm (L':=(b,108,RD T r)::(b4,27,[.int .i64 0,.int .i64 ((ps T r:Nat):Int),.int .i64 0,.slice none 0 0,.slice none 0 0])::(b2,27,[.int .i64 0,.int .i64 0,.int .i64 0,.slice none 0 0,.slice none 0 0])::L) (pc fun x=>by simp [ct,ct_append] <;> omega)
  refine Cl rfl rfl rfl (here_walk hT1 hs hM) ?_
  clear hM;intro w v hR
  obtain ⟨rfl,hM⟩:=hR
  refine Md 1 [0,2,4,5,6] rfl (Nx ?_);intro a hF
  refine cutF (fun a w=>∃ (k:Int) (o1:Option Addr) (l1 c1:Nat) (o2:Option Addr) (l2 c2:Nat) (ok:Bool) (q:Str) (TB:List Bk),Fr 75 [(0,.pointer (some ⟨b,0,none⟩)),(2,.pointer (some ⟨b2,0,none⟩)),(4,.pointer (some ⟨b4,0,none⟩)),(5,.bool ok)] a∧Mem B wc ((b,108,RD T q)::(b4,27,[.int .i64 k,.int .i64 ((ps T r:Nat):Int),.int .i64 0,.slice o1 l1 c1,.slice o2 l2 c2])::(b2,27,[.int .i64 0,.int .i64 0,.int .i64 0,.slice none 0 0,.slice none 0 0])::(TB++L)) w∧Sfx T q∧VMid T r q TB k (.slice o1 l1 c1) (.slice o2 l2 c2) ok (pVal T.length (n+1) r)) (fun a w h=> ?_) ?_
  ·
   clear hF hM
   clear hs hps
   obtain ⟨k,o1,l1,c1,o2,l2,c2,ok,q,TB,hF,hM,hs,hmid⟩:=h
   revert a;refine Sq (Rg (Mv 3 rfl (Ld hM 0 rfl rfl (Mv 1 rfl (St hM 1 rfl ?_)))))
   clear hM;intro w hM
   refine Md 0 [2,4,5] rfl (Nx (Sq (Rg ?_)));intro a hF
   refine op_loadA hF hM rfl 1 rfl rfl rfl Tryz.underlying27 rfl (by kernel_rfl) rfl rfl ?_;clear hF a;intro a hF
   revert a;refine Mv 1 rfl ?_;intro a hF
   refine op_storeA hF hM rfl 2 rfl rfl (by kernel_rfl) rfl rfl rfl rfl (rfl) ?_;clear hF hM a;intro a w hF hM
   revert a;refine Md 1 [2,3] rfl (Nx (Re ?_));intro a hF
   cases hpv:pVal T.length (n+1) r with
   | none =>
     rw [hpv] at hmid
     obtain ⟨rfl,h1,h2⟩:=hmid
     cases h1;cases h2
     refine retMany (vs:=[_,_]) hF hM rfl rfl (.cell 2 rfl rfl Tryz.underlying27 rfl (by kernel_rfl) (.tmp rfl .nil)) ⟨_,rfl,?_⟩
     exact ⟨k,_,_,q,rfl,hs,hM.sub ((b4,27,[.int .i64 k,.int .i64 ((ps T r:Nat):Int),.int .i64 ((ps T q:Nat):Int),.slice none 0 0,.slice none 0 0])::(b2,27,[.int .i64 k,.int .i64 ((ps T r:Nat):Int),.int .i64 ((ps T q:Nat):Int),.slice none 0 0,.slice none 0 0])::TB) (pc fun x=>by simp [ct,ct_append] <;> omega)⟩
   | some x =>
     rw [hpv] at hmid
     obtain ⟨p,q'⟩:=x
     obtain ⟨rfl,rfl,k',ns,kids,xs,rfl,rfl,h1,h2,h3⟩:=hmid
     refine retMany (vs:=[_,_]) hF hM rfl rfl (.cell 2 rfl rfl Tryz.underlying27 rfl (by kernel_rfl) (.tmp rfl .nil)) ⟨_,rfl,?_⟩
     refine ⟨_,TB,rfl,?_,hs,hM.sub [(b4,27,[.int .i64 (k':Int),.int .i64 ((ps T r:Nat):Int),.int .i64 ((ps T q':Nat):Int),.slice o1 l1 c1,.slice o2 l2 c2]),(b2,27,[.int .i64 (k':Int),.int .i64 ((ps T r:Nat):Int),.int .i64 ((ps T q':Nat):Int),.slice o1 l1 c1,.slice o2 l2 c2])] (pc fun x=>by simp [ct,ct_append] <;> omega)⟩
     simp only [RepPl]
     exact ⟨_,_,xs,rfl,h1,h2,h3⟩
  revert a;refine Bo (Sq (Rg (Md 3 [0,2,4,5,6,14] rfl (Nx (C1 rfl (fun ht=>absurd (eq_t (d:=123) rfl ht) n123) (Sq (Rg (Md 3 [0,2,4,5,6,26] rfl (Nx (C1 rfl (fun ht=>absurd (eq_t (d:=91) rfl ht) n91) (Sq (Rg (Md 3 [0,2,4,5,6,36] rfl (Nx (C1 rfl (fun ht=>absurd (eq_t (d:=34) rfl ht) n34) (Sq (Rg (Mv 1 rfl (Qf 45 rfl rfl n45 (Mv 2 rfl (Bt rfl (by omega) (Mv 2 rfl (Bt rfl (by omega) (Md 3 [0,2,4,5,42] rfl (Nx (Ct rfl (Sq (Rg (Mv 1 rfl (St hM 1 rfl ?_))))))))))))))))))))))))))))))
  clear hM;intro w hM
  refine Md 0 [0,2,4] rfl (Nx (Rg (Mv 1 rfl (Cl rfl rfl rfl (number_rd hT1 hs hM) ?_))))
  clear hM;intro w v hR
  obtain ⟨rfl,q,hs9,hqq,hM⟩:=hR
  have hmid:=VMid.leaf (T:=T) (r:=r) (k:=3) e1 hqq
  refine Md 1 [0,2,4,5] rfl (Nb (Kp [0,2,4,5] rfl ?_));intro a hF
  refine ⟨_,_,_,_,_,_,_,_,_,_,hF,?_,hs9,hmid⟩
  exact hM
 ·
  have hlh:(r.headD 0).toNat<48∨57<(r.headD 0).toNat:= .inl hk
  have n123:r.headD 0≠123:=by rintro h;revert hk;rw [h];decide
  have n91:r.headD 0≠91:=by rintro h;revert hk;rw [h];decide
  have e1:=pVal_word T.length n n123 n91 n34 n45 hlh
  unfold wordOf at e1
  refine Rg (Mv 1 rfl ?_)
  replace hM:=hM.perm (L':=(b,108,RD T r)::(b4,27,[.int .i64 0,.int .i64 ((ps T r:Nat):Int),.int .i64 0,.slice none 0 0,.slice none 0 0])::(b2,27,[.int .i64 0,.int .i64 0,.int .i64 0,.slice none 0 0,.slice none 0 0])::L) (pc fun x=>by simp [ct,ct_append] <;> omega)
  refine Cl rfl rfl rfl (here_walk hT1 hs hM) ?_
  clear hM;intro w v hR
  obtain ⟨rfl,hM⟩:=hR
  refine Md 1 [0,2,4,5,6] rfl (Nx ?_);intro a hF
  refine cutF (fun a w=>∃ (k:Int) (o1:Option Addr) (l1 c1:Nat) (o2:Option Addr) (l2 c2:Nat) (ok:Bool) (q:Str) (TB:List Bk),Fr 75 [(0,.pointer (some ⟨b,0,none⟩)),(2,.pointer (some ⟨b2,0,none⟩)),(4,.pointer (some ⟨b4,0,none⟩)),(5,.bool ok)] a∧Mem B wc ((b,108,RD T q)::(b4,27,[.int .i64 k,.int .i64 ((ps T r:Nat):Int),.int .i64 0,.slice o1 l1 c1,.slice o2 l2 c2])::(b2,27,[.int .i64 0,.int .i64 0,.int .i64 0,.slice none 0 0,.slice none 0 0])::(TB++L)) w∧Sfx T q∧VMid T r q TB k (.slice o1 l1 c1) (.slice o2 l2 c2) ok (pVal T.length (n+1) r)) (fun a w h=> ?_) ?_
  ·
   clear hF hM
   clear hs hps
   obtain ⟨k,o1,l1,c1,o2,l2,c2,ok,q,TB,hF,hM,hs,hmid⟩:=h
   revert a;refine Sq (Rg (Mv 3 rfl (Ld hM 0 rfl rfl (Mv 1 rfl (St hM 1 rfl ?_)))))
   clear hM;intro w hM
   refine Md 0 [2,4,5] rfl (Nx (Sq (Rg ?_)));intro a hF
   refine op_loadA hF hM rfl 1 rfl rfl rfl Tryz.underlying27 rfl (by kernel_rfl) rfl rfl ?_;clear hF a;intro a hF
   revert a;refine Mv 1 rfl ?_;intro a hF
   refine op_storeA hF hM rfl 2 rfl rfl (by kernel_rfl) rfl rfl rfl rfl (rfl) ?_;clear hF hM a;intro a w hF hM
   revert a;refine Md 1 [2,3] rfl (Nx (Re ?_));intro a hF
   cases hpv:pVal T.length (n+1) r with
   | none =>
     rw [hpv] at hmid
     obtain ⟨rfl,h1,h2⟩:=hmid
     cases h1;cases h2
     refine retMany (vs:=[_,_]) hF hM rfl rfl (.cell 2 rfl rfl Tryz.underlying27 rfl (by kernel_rfl) (.tmp rfl .nil)) ⟨_,rfl,?_⟩
     exact ⟨k,_,_,q,rfl,hs,hM.sub ((b4,27,[.int .i64 k,.int .i64 ((ps T r:Nat):Int),.int .i64 ((ps T q:Nat):Int),.slice none 0 0,.slice none 0 0])::(b2,27,[.int .i64 k,.int .i64 ((ps T r:Nat):Int),.int .i64 ((ps T q:Nat):Int),.slice none 0 0,.slice none 0 0])::TB) (pc fun x=>by simp [ct,ct_append] <;> omega)⟩
   | some x =>
     rw [hpv] at hmid
     obtain ⟨p,q'⟩:=x
     obtain ⟨rfl,rfl,k',ns,kids,xs,rfl,rfl,h1,h2,h3⟩:=hmid
     refine retMany (vs:=[_,_]) hF hM rfl rfl (.cell 2 rfl rfl Tryz.underlying27 rfl (by kernel_rfl) (.tmp rfl .nil)) ⟨_,rfl,?_⟩
     refine ⟨_,TB,rfl,?_,hs,hM.sub [(b4,27,[.int .i64 (k':Int),.int .i64 ((ps T r:Nat):Int),.int .i64 ((ps T q':Nat):Int),.slice o1 l1 c1,.slice o2 l2 c2]),(b2,27,[.int .i64 (k':Int),.int .i64 ((ps T r:Nat):Int),.int .i64 ((ps T q':Nat):Int),.slice o1 l1 c1,.slice o2 l2 c2])] (pc fun x=>by simp [ct,ct_append] <;> omega)⟩
     simp only [RepPl]
     exact ⟨_,_,xs,rfl,h1,h2,h3⟩
  revert a;refine Bo (Sq (Rg (Md 3 [0,2,4,5,6,14] rfl (Nx (C1 rfl (fun ht=>absurd (eq_t (d:=123) rfl ht) n123) (Sq (Rg (Md 3 [0,2,4,5,6,26] rfl (Nx (C1 rfl (fun ht=>absurd (eq_t (d:=91) rfl ht) n91) (Sq (Rg (Md 3 [0,2,4,5,6,36] rfl (Nx (C1 rfl (fun ht=>absurd (eq_t (d:=34) rfl ht) n34) (Sq (Rg (Mv 1 rfl (Qf 45 rfl rfl n45 (Mv 2 rfl (Bf rfl (by omega) (Md 6 [0,2,4,5,42] rfl (Nx (Cf rfl (Sq (Rg (Mv 1 rfl (Cl rfl rfl rfl (word_walk hT1 hs [110,117,108,108] (by decide) hM) ?_))))))))))))))))))))))))))))
  clear hM;intro w v hR
  obtain ⟨rfl,hM⟩:=hR
  refine Md 1 [0,2,4,5,56] rfl (Nx (Cd rfl (fun ht=> ?_) ((fun ht=> ?_))))
  ·
   obtain ⟨r2,hp2⟩:∃ r2,pWord [110,117,108,108] r=some r2:=by cases hp:pWord [110,117,108,108] r with | none=>rw [hp] at ht;cases ht | some q=>exact ⟨q,rfl⟩
   rw [hp2] at hM
   rw [hp2] at e1
   have hs9:Sfx T r2:=hs.word hp2
   have hmid:=VMid.leaf (T:=T) (r:=r) (q:=r2) (k:=0) (x:=some r2) e1 (fun q' h=>Option.some.inj h)
   refine Rg (Mv 1 rfl (St hM 1 rfl ?_))
   clear hM;intro w hM
   refine Md 0 [0,2,4,5] rfl (Nb (Kp [0,2,4,5] rfl ?_));intro a hF
   refine ⟨_,_,_,_,_,_,_,_,_,_,hF,?_,hs9,hmid⟩
   exact hM
  have hp2:pWord [110,117,108,108] r=none:=by cases hp:pWord [110,117,108,108] r with | none=>rfl | some q=>rw [hp] at ht;cases ht
  rw [hp2] at hM
  rw [hp2] at e1
  replace hM:Mem B wc ((b,108,RD T r)::(b4,27,[.int .i64 0,.int .i64 ((ps T r:Nat):Int),.int .i64 0,.slice none 0 0,.slice none 0 0])::(b2,27,[.int .i64 0,.int .i64 0,.int .i64 0,.slice none 0 0,.slice none 0 0])::L) w:=hM
  refine Sq (Rg (Mv 1 rfl (Cl rfl rfl rfl (word_walk hT1 hs [102,97,108,115,101] (by decide) hM) ?_)))
  clear hM;intro w v hR
  obtain ⟨rfl,hM⟩:=hR
  refine Md 1 [0,2,4,5,60] rfl (Nx (Cd rfl (fun ht=> ?_) ((fun ht=> ?_))))
  ·
   obtain ⟨r2,hp2⟩:∃ r2,pWord [102,97,108,115,101] r=some r2:=by cases hp:pWord [102,97,108,115,101] r with | none=>rw [hp] at ht;cases ht | some q=>exact ⟨q,rfl⟩
   rw [hp2] at hM
   rw [hp2] at e1
   have hs9:Sfx T r2:=hs.word hp2
   have hmid:=VMid.leaf (T:=T) (r:=r) (q:=r2) (k:=1) (x:=some r2) e1 (fun q' h=>Option.some.inj h)
   refine Rg (Mv 1 rfl (St hM 1 rfl ?_))
   clear hM;intro w hM
   refine Md 0 [0,2,4,5] rfl (Nb (Kp [0,2,4,5] rfl ?_));intro a hF
   refine ⟨_,_,_,_,_,_,_,_,_,_,hF,?_,hs9,hmid⟩
   exact hM
  have hp2:pWord [102,97,108,115,101] r=none:=by cases hp:pWord [102,97,108,115,101] r with | none=>rfl | some q=>rw [hp] at ht;cases ht
  rw [hp2] at hM
  rw [hp2] at e1
  replace hM:Mem B wc ((b,108,RD T r)::(b4,27,[.int .i64 0,.int .i64 ((ps T r:Nat):Int),.int .i64 0,.slice none 0 0,.slice none 0 0])::(b2,27,[.int .i64 0,.int .i64 0,.int .i64 0,.slice none 0 0,.slice none 0 0])::L) w:=hM
  refine Sq (Rg (Mv 1 rfl (Cl rfl rfl rfl (word_walk hT1 hs [116,114,117,101] (by decide) hM) ?_)))
  clear hM;intro w v hR
  obtain ⟨rfl,hM⟩:=hR
  refine Md 1 [0,2,4,5,64] rfl (Nx (Cd rfl (fun ht=> ?_) ((fun ht=> ?_))))
  ·
   obtain ⟨r2,hp2⟩:∃ r2,pWord [116,114,117,101] r=some r2:=by cases hp:pWord [116,114,117,101] r with | none=>rw [hp] at ht;cases ht | some q=>exact ⟨q,rfl⟩
   rw [hp2] at hM
   rw [hp2] at e1
   have hs9:Sfx T r2:=hs.word hp2
   have hmid:=VMid.leaf (T:=T) (r:=r) (q:=r2) (k:=2) (x:=some r2) e1 (fun q' h=>Option.some.inj h)
   refine Rg (Mv 1 rfl (St hM 1 rfl ?_))
   clear hM;intro w hM
   refine Md 0 [0,2,4,5] rfl (Nb (Kp [0,2,4,5] rfl ?_));intro a hF
   refine ⟨_,_,_,_,_,_,_,_,_,_,hF,?_,hs9,hmid⟩
   exact hM
  have hp2:pWord [116,114,117,101] r=none:=by cases hp:pWord [116,114,117,101] r with | none=>rfl | some q=>rw [hp] at ht;cases ht
  rw [hp2] at hM
  rw [hp2] at e1
  replace hM:Mem B wc ((b,108,RD T r)::(b4,27,[.int .i64 0,.int .i64 ((ps T r:Nat):Int),.int .i64 0,.slice none 0 0,.slice none 0 0])::(b2,27,[.int .i64 0,.int .i64 0,.int .i64 0,.slice none 0 0,.slice none 0 0])::L) w:=hM
  have hs9:=hs
  have hmid:VMid T r r [] 0 (.slice none 0 0) (.slice none 0 0) false (pVal T.length (n+1) r):=by rw [e1];exact ⟨rfl,rfl,rfl⟩
  refine Rg (Md 1 [0,2,4,5] rfl (Nb (Kp [0,2,4,5] rfl ?_)));intro a hF
  refine ⟨_,_,_,_,_,_,_,_,_,_,hF,?_,hs9,hmid⟩
  exact hM
 have hlh:(r.headD 0).toNat<48∨57<(r.headD 0).toNat:= .inr hk
 have n34:r.headD 0≠34:=by rintro h;revert hk;rw [h];decide
 have n45:r.headD 0≠45:=by rintro h;revert hk;rw [h];decide
 have e1:=pVal_word T.length n n123 n91 n34 n45 hlh
 unfold wordOf at e1
 refine Rg (Mv 1 rfl ?_)
 replace hM:=hM.perm (L':=(b,108,RD T r)::(b4,27,[.int .i64 0,.int .i64 ((ps T r:Nat):Int),.int .i64 0,.slice none 0 0,.slice none 0 0])::(b2,27,[.int .i64 0,.int .i64 0,.int .i64 0,.slice none 0 0,.slice none 0 0])::L) (pc fun x=>by simp [ct,ct_append] <;> omega)
 refine Cl rfl rfl rfl (here_walk hT1 hs hM) ?_
 clear hM;intro w v hR
 obtain ⟨rfl,hM⟩:=hR
 refine Md 1 [0,2,4,5,6] rfl (Nx ?_);intro a hF
 refine cutF (fun a w=>∃ (k:Int) (o1:Option Addr) (l1 c1:Nat) (o2:Option Addr) (l2 c2:Nat) (ok:Bool) (q:Str) (TB:List Bk),Fr 75 [(0,.pointer (some ⟨b,0,none⟩)),(2,.pointer (some ⟨b2,0,none⟩)),(4,.pointer (some ⟨b4,0,none⟩)),(5,.bool ok)] a∧Mem B wc ((b,108,RD T q)::(b4,27,[.int .i64 k,.int .i64 ((ps T r:Nat):Int),.int .i64 0,.slice o1 l1 c1,.slice o2 l2 c2])::(b2,27,[.int .i64 0,.int .i64 0,.int .i64 0,.slice none 0 0,.slice none 0 0])::(TB++L)) w∧Sfx T q∧VMid T r q TB k (.slice o1 l1 c1) (.slice o2 l2 c2) ok (pVal T.length (n+1) r)) (fun a w h=> ?_) ?_
 ·
  clear hF hM
  clear hs hps
  obtain ⟨k,o1,l1,c1,o2,l2,c2,ok,q,TB,hF,hM,hs,hmid⟩:=h
  revert a;refine Sq (Rg (Mv 3 rfl (Ld hM 0 rfl rfl (Mv 1 rfl (St hM 1 rfl ?_)))))
  clear hM;intro w hM
  refine Md 0 [2,4,5] rfl (Nx (Sq (Rg ?_)));intro a hF
  refine op_loadA hF hM rfl 1 rfl rfl rfl Tryz.underlying27 rfl (by kernel_rfl) rfl rfl ?_;clear hF a;intro a hF
  revert a;refine Mv 1 rfl ?_;intro a hF
  refine op_storeA hF hM rfl 2 rfl rfl (by kernel_rfl) rfl rfl rfl rfl (rfl) ?_;clear hF hM a;intro a w hF hM
  revert a;refine Md 1 [2,3] rfl (Nx (Re ?_));intro a hF
  cases hpv:pVal T.length (n+1) r with
  | none =>
    rw [hpv] at hmid
    obtain ⟨rfl,h1,h2⟩:=hmid
    cases h1;cases h2
    refine retMany (vs:=[_,_]) hF hM rfl rfl (.cell 2 rfl rfl Tryz.underlying27 rfl (by kernel_rfl) (.tmp rfl .nil)) ⟨_,rfl,?_⟩
    exact ⟨k,_,_,q,rfl,hs,hM.sub ((b4,27,[.int .i64 k,.int .i64 ((ps T r:Nat):Int),.int .i64 ((ps T q:Nat):Int),.slice none 0 0,.slice none 0 0])::(b2,27,[.int .i64 k,.int .i64 ((ps T r:Nat):Int),.int .i64 ((ps T q:Nat):Int),.slice none 0 0,.slice none 0 0])::TB) (pc fun x=>by simp [ct,ct_append] <;> omega)⟩
  | some x =>
    rw [hpv] at hmid
    obtain ⟨p,q'⟩:=x
    obtain ⟨rfl,rfl,k',ns,kids,xs,rfl,rfl,h1,h2,h3⟩:=hmid
    refine retMany (vs:=[_,_]) hF hM rfl rfl (.cell 2 rfl rfl Tryz.underlying27 rfl (by kernel_rfl) (.tmp rfl .nil)) ⟨_,rfl,?_⟩
    refine ⟨_,TB,rfl,?_,hs,hM.sub [(b4,27,[.int .i64 (k':Int),.int .i64 ((ps T r:Nat):Int),.int .i64 ((ps T q':Nat):Int),.slice o1 l1 c1,.slice o2 l2 c2]),(b2,27,[.int .i64 (k':Int),.int .i64 ((ps T r:Nat):Int),.int .i64 ((ps T q':Nat):Int),.slice o1 l1 c1,.slice o2 l2 c2])] (pc fun x=>by simp [ct,ct_append] <;> omega)⟩
    simp only [RepPl]
    exact ⟨_,_,xs,rfl,h1,h2,h3⟩
 revert a;refine Bo (Sq (Rg (Md 3 [0,2,4,5,6,14] rfl (Nx (C1 rfl (fun ht=>absurd (eq_t (d:=123) rfl ht) n123) (Sq (Rg (Md 3 [0,2,4,5,6,26] rfl (Nx (C1 rfl (fun ht=>absurd (eq_t (d:=91) rfl ht) n91) (Sq (Rg (Md 3 [0,2,4,5,6,36] rfl (Nx (C1 rfl (fun ht=>absurd (eq_t (d:=34) rfl ht) n34) (Sq (Rg (Mv 1 rfl (Qf 45 rfl rfl n45 (Mv 2 rfl (Bt rfl (by omega) (Mv 2 rfl (Bf rfl (by omega) (Md 3 [0,2,4,5,42] rfl (Nx (Cf rfl (Sq (Rg (Mv 1 rfl (Cl rfl rfl rfl (word_walk hT1 hs [110,117,108,108] (by decide) hM) ?_))))))))))))))))))))))))))))))
 clear hM;intro w v hR
 obtain ⟨rfl,hM⟩:=hR
 refine Md 1 [0,2,4,5,56] rfl (Nx (Cd rfl (fun ht=> ?_) ((fun ht=> ?_))))
 ·
  obtain ⟨r2,hp2⟩:∃ r2,pWord [110,117,108,108] r=some r2:=by cases hp:pWord [110,117,108,108] r with | none=>rw [hp] at ht;cases ht | some q=>exact ⟨q,rfl⟩
  rw [hp2] at hM
  rw [hp2] at e1
  have hs9:Sfx T r2:=hs.word hp2
  have hmid:=VMid.leaf (T:=T) (r:=r) (q:=r2) (k:=0) (x:=some r2) e1 (fun q' h=>Option.some.inj h)
  refine Rg (Mv 1 rfl (St hM 1 rfl ?_))
  clear hM;intro w hM
  refine Md 0 [0,2,4,5] rfl (Nb (Kp [0,2,4,5] rfl ?_));intro a hF
  refine ⟨_,_,_,_,_,_,_,_,_,_,hF,?_,hs9,hmid⟩
  exact hM
 have hp2:pWord [110,117,108,108] r=none:=by cases hp:pWord [110,117,108,108] r with | none=>rfl | some q=>rw [hp] at ht;cases ht
 rw [hp2] at hM
 rw [hp2] at e1
 replace hM:Mem B wc ((b,108,RD T r)::(b4,27,[.int .i64 0,.int .i64 ((ps T r:Nat):Int),.int .i64 0,.slice none 0 0,.slice none 0 0])::(b2,27,[.int .i64 0,.int .i64 0,.int .i64 0,.slice none 0 0,.slice none 0 0])::L) w:=hM
 refine Sq (Rg (Mv 1 rfl (Cl rfl rfl rfl (word_walk hT1 hs [102,97,108,115,101] (by decide) hM) ?_)))
 clear hM;intro w v hR
 obtain ⟨rfl,hM⟩:=hR
 refine Md 1 [0,2,4,5,60] rfl (Nx (Cd rfl (fun ht=> ?_) ((fun ht=> ?_))))
 ·
  obtain ⟨r2,hp2⟩:∃ r2,pWord [102,97,108,115,101] r=some r2:=by cases hp:pWord [102,97,108,115,101] r with | none=>rw [hp] at ht;cases ht | some q=>exact ⟨q,rfl⟩
  rw [hp2] at hM
  rw [hp2] at e1
  have hs9:Sfx T r2:=hs.word hp2
  have hmid:=VMid.leaf (T:=T) (r:=r) (q:=r2) (k:=1) (x:=some r2) e1 (fun q' h=>Option.some.inj h)
  refine Rg (Mv 1 rfl (St hM 1 rfl ?_))
  clear hM;intro w hM
  refine Md 0 [0,2,4,5] rfl (Nb (Kp [0,2,4,5] rfl ?_));intro a hF
  refine ⟨_,_,_,_,_,_,_,_,_,_,hF,?_,hs9,hmid⟩
  exact hM
 have hp2:pWord [102,97,108,115,101] r=none:=by cases hp:pWord [102,97,108,115,101] r with | none=>rfl | some q=>rw [hp] at ht;cases ht
 rw [hp2] at hM
 rw [hp2] at e1
 replace hM:Mem B wc ((b,108,RD T r)::(b4,27,[.int .i64 0,.int .i64 ((ps T r:Nat):Int),.int .i64 0,.slice none 0 0,.slice none 0 0])::(b2,27,[.int .i64 0,.int .i64 0,.int .i64 0,.slice none 0 0,.slice none 0 0])::L) w:=hM
 refine Sq (Rg (Mv 1 rfl (Cl rfl rfl rfl (word_walk hT1 hs [116,114,117,101] (by decide) hM) ?_)))
 clear hM;intro w v hR
 obtain ⟨rfl,hM⟩:=hR
 refine Md 1 [0,2,4,5,64] rfl (Nx (Cd rfl (fun ht=> ?_) ((fun ht=> ?_))))
 ·
  obtain ⟨r2,hp2⟩:∃ r2,pWord [116,114,117,101] r=some r2:=by cases hp:pWord [116,114,117,101] r with | none=>rw [hp] at ht;cases ht | some q=>exact ⟨q,rfl⟩
  rw [hp2] at hM
  rw [hp2] at e1
  have hs9:Sfx T r2:=hs.word hp2
  have hmid:=VMid.leaf (T:=T) (r:=r) (q:=r2) (k:=2) (x:=some r2) e1 (fun q' h=>Option.some.inj h)
  refine Rg (Mv 1 rfl (St hM 1 rfl ?_))
  clear hM;intro w hM
  refine Md 0 [0,2,4,5] rfl (Nb (Kp [0,2,4,5] rfl ?_));intro a hF
  refine ⟨_,_,_,_,_,_,_,_,_,_,hF,?_,hs9,hmid⟩
  exact hM
 have hp2:pWord [116,114,117,101] r=none:=by cases hp:pWord [116,114,117,101] r with | none=>rfl | some q=>rw [hp] at ht;cases ht
 rw [hp2] at hM
 rw [hp2] at e1
 replace hM:Mem B wc ((b,108,RD T r)::(b4,27,[.int .i64 0,.int .i64 ((ps T r:Nat):Int),.int .i64 0,.slice none 0 0,.slice none 0 0])::(b2,27,[.int .i64 0,.int .i64 0,.int .i64 0,.slice none 0 0,.slice none 0 0])::L) w:=hM
 have hs9:=hs
 have hmid:VMid T r r [] 0 (.slice none 0 0) (.slice none 0 0) false (pVal T.length (n+1) r):=by rw [e1];exact ⟨rfl,rfl,rfl⟩
 refine Rg (Md 1 [0,2,4,5] rfl (Nb (Kp [0,2,4,5] rfl ?_)));intro a hF
 refine ⟨_,_,_,_,_,_,_,_,_,_,hF,?_,hs9,hmid⟩
 exact hM
theorem value_rd {B:Nat}{wc:World}{b:Nat}{T:Str}(hT:T.length≤2^40):∀ n,VAL T B b wc n
  | 0=>fun r L w0 _ h _=>absurd h (by omega)
  | n+1=>value_step hT (elements_rd hT (fun k _=>value_rd hT k)) (members_rd hT (fun k _=>value_rd hT k))
theorem places_walk {T:Str}(hT:T.length≤2^40) (w0:World):
    Calls Tryz.prog 47 #[.string (mkS T)] w0 (Ret fun v w'=>PlOut T w0 (pText T) v w'):=by
 have hM:=MS0 w0
 have hT1:T.length≤2^41:=by omega
 have hs0:=Sfx.refl T
 have hs1:=hs0.of_skip
 have hsl:=skip_len T
 refine enter (l:=[.string (mkS T)]) 24 Tryz.func47 rfl rfl (Sq (Rg ?_));intro a hF
 refine op_alloc hF hM rfl (vs:=[.int .i64 0,.int .i64 0,.int .i64 0,.slice none 0 0,.slice none 0 0]) rfl rfl rfl (by kernel_rfl) ?_;clear hF hM a;intro a w b2 hF hM
 revert a;refine Md 1 [0,2] rfl (Nx (Sq (Rg (Mv 1 rfl (Gv rfl (fun _ hF=>gives_build (vals:=[(0,.string (mkS T))]) (cells:=RD T T) hF rfl rfl (by unfold RD;rw [ps_self];kernel_rfl) _) ?_)))));intro a hF
 refine op_alloc hF hM rfl (vs:=[.string (mkS []),.int .i64 0]) rfl rfl rfl (by kernel_rfl) ?_;clear hF hM a;intro a w b4 hF hM
 refine op_storeA hF hM rfl 0 rfl rfl (by kernel_rfl) rfl rfl rfl rfl (rfl) ?_;clear hF hM a;intro a w hF hM
 revert a;refine Md 0 [0,2,4] rfl (Nx (Sq (Rg (Cl rfl rfl rfl (blanks_walk hT1 hs0 hM) ?_))))
 clear hM;intro w v hR
 obtain ⟨rfl,hM⟩:=hR
 refine Md 0 [0,2,4] rfl (Nx (Sq ?_))
 rcases hpv:pVal T.length (2*T.length+2) (Js.skip T) with _ | ⟨p,q⟩
 ·
  have e1:pText T=none:=by unfold pText;rw [hpv]
  refine Rg (Cl rfl rfl rfl (value_rd hT (2*T.length+2) (Js.skip T) _ w hs1 (by omega) hM) ?_)
  clear hM;intro w v hR
  rw [hpv] at hR
  obtain ⟨x,y,z,q,rfl,hs2,hM⟩:=hR
  refine Mv 3 rfl ?_;intro a hF
  refine op_alloc hF hM rfl (vs:=[.int .i64 0,.int .i64 0,.int .i64 0,.slice none 0 0,.slice none 0 0]) rfl rfl rfl (by kernel_rfl) ?_;clear hF hM a;intro a w b5 hF hM
  refine op_storeA hF hM rfl 0 rfl rfl (by kernel_rfl) rfl rfl rfl rfl (rfl) ?_;clear hF hM a;intro a w hF hM
  revert a;refine Md 1 [0,2,4,5,6] rfl (Nx (Sq (Sq (Rg (Md 2 [0,2,4,5,15] rfl (Nx (Ct rfl (Sq (Rg (Gv rfl (fun _ hF=>gives_build (parts:=[]) (vals:=[]) (cells:=[.int .i64 0,.int .i64 0,.int .i64 0,.slice none 0 0,.slice none 0 0]) hF rfl rfl (by kernel_rfl) _) ?_))))))))));intro a hF
  refine op_storeA hF hM rfl 2 rfl rfl (by kernel_rfl) rfl rfl rfl rfl (rfl) ?_;clear hF hM a;intro a w hF hM
  revert a;refine Md 1 [2,3] rfl (Nx (Re (Rt ?_)));intro a hF
  refine retMany (vs:=[_,_]) hF hM rfl rfl (.cell 2 rfl rfl Tryz.underlying27 rfl (by kernel_rfl) (.tmp rfl .nil)) ⟨_,rfl,?_⟩
  rw [e1]
  exact ⟨_,_,_,rfl,hM.below⟩
 have e1:pText T=if Js.skip q=[] then some p else none:=by unfold pText;rw [hpv]
 refine Rg (Cl rfl rfl rfl (value_rd hT (2*T.length+2) (Js.skip T) _ w hs1 (by omega) hM) ?_)
 clear hM;intro w v hR
 rw [hpv] at hR
 obtain ⟨cs,TB,rfl,hcs,hs2,hM⟩:=hR
 replace hM:=hM.perm (L':=(b4,108,RD T q)::(b2,27,[.int .i64 0,.int .i64 0,.int .i64 0,.slice none 0 0,.slice none 0 0])::TB) (pc fun x=>by simp [ct,ct_append] <;> omega)
 have hcl:=hcs.len
 obtain ⟨k1,k2,k3,o1,l1,c1,o2,l2,c2,rfl⟩:=hcs.shape
 refine Mv 3 rfl ?_;intro a hF
 refine op_alloc hF hM rfl (vs:=[.int .i64 0,.int .i64 0,.int .i64 0,.slice none 0 0,.slice none 0 0]) rfl rfl rfl (by kernel_rfl) ?_;clear hF hM a;intro a w b5 hF hM
 refine op_storeA hF hM rfl 0 rfl rfl (by kernel_rfl) rfl rfl rfl rfl (rfl) ?_;clear hF hM a;intro a w hF hM
 revert a;refine Md 1 [0,2,4,5,6] rfl (Nx (Sq (Sq (Rg (Md 2 [0,2,4,5,15] rfl (Nx (Cf rfl (Sk (Nx (Sq (Rg ?_)))))))))))
 replace hM:=hM.perm (L':=(b4,108,RD T q)::(b5,27,[.int .i64 k1,.int .i64 k2,.int .i64 k3,.slice o1 l1 c1,.slice o2 l2 c2])::(b2,27,[.int .i64 0,.int .i64 0,.int .i64 0,.slice none 0 0,.slice none 0 0])::TB) (pc fun x=>by simp [ct,ct_append] <;> omega)
 refine Cl rfl rfl rfl (blanks_walk hT1 hs2 hM) ?_
 clear hM;intro w v hR
 obtain ⟨rfl,hM⟩:=hR
 have hs3:=hs2.of_skip
 have hl3:=hs3.len
 refine Md 0 [0,2,4,5] rfl (Nx (Sq (Sq (Rg (Mv 1 rfl (Ld hM 0 rfl rfl (Md 3 [2,5,22] rfl (Nx (Cd rfl (fun ht=> ?_) ((fun ht=> ?_)))))))))))
 ·
  have hne:Js.skip q≠ []:=by rintro h;rw [h,ps_nil] at ht;exact absurd ht (by simp)
  rw [if_neg hne] at e1
  refine Sq (Rg (Gv rfl (fun _ hF=>gives_build (parts:=[]) (vals:=[]) (cells:=[.int .i64 0,.int .i64 0,.int .i64 0,.slice none 0 0,.slice none 0 0]) hF rfl rfl (by kernel_rfl) _) ?_));intro a hF
  refine op_storeA hF hM rfl 2 rfl rfl (by kernel_rfl) rfl rfl rfl rfl (rfl) ?_;clear hF hM a;intro a w hF hM
  revert a;refine Md 1 [2,3] rfl (Nx (Re (Rt ?_)));intro a hF
  refine retMany (vs:=[_,_]) hF hM rfl rfl (.cell 2 rfl rfl Tryz.underlying27 rfl (by kernel_rfl) (.tmp rfl .nil)) ⟨_,rfl,?_⟩
  rw [e1]
  exact ⟨_,_,_,rfl,hM.below⟩
 have h1:(ps T (Js.skip q):Int)=(T.length:Int):=by simpa using ht
 have heq:Js.skip q=[]:=List.length_eq_zero_iff.1 (by omega)
 rw [if_pos heq] at e1
 refine Sk (Nx (Sq (Rg ?_)));intro a hF
 refine op_loadA hF hM rfl 1 rfl rfl rfl Tryz.underlying27 rfl (by kernel_rfl) rfl rfl ?_;clear hF a;intro a hF
 refine op_storeA hF hM rfl 2 rfl rfl (by kernel_rfl) rfl rfl rfl rfl (rfl) ?_;clear hF hM a;intro a w hF hM
 revert a;refine Md 1 [2,3] rfl (Nx (Re ?_));intro a hF
 refine retMany (vs:=[_,_]) hF hM rfl rfl (.cell 2 rfl rfl Tryz.underlying27 rfl (by kernel_rfl) (.tmp rfl .nil)) ⟨_,rfl,?_⟩
 rw [e1]
 exact ⟨_,TB,rfl,hcs,hM.sub [(b4,108,RD T (Js.skip q)),(b5,27,[.int .i64 k1,.int .i64 k2,.int .i64 k3,.slice o1 l1 c1,.slice o2 l2 c2]),(b2,27,[.int .i64 k1,.int .i64 k2,.int .i64 k3,.slice o1 l1 c1,.slice o2 l2 c2])] (pc fun x=>by simp [ct,ct_append] <;> omega)⟩
def jpT (T:Str):Option Js.Place:=if T.length≤65536 then pText T else none
theorem jpPlaces_walk {T:Str}(hT:T.length≤2^37) (w0:World):
    Calls Tryz.prog 25 #[.string (mkS T)] w0 (Ret fun v w'=>PlOut T w0 (jpT T) v w'):=by
 have hM:=MS0 w0
 refine enter (l:=[.string (mkS T)]) 11 Tryz.func25 rfl rfl (Sq (Rg ?_));intro a hF
 refine op_alloc hF hM rfl (vs:=[.int .i64 0,.int .i64 0,.int .i64 0,.slice none 0 0,.slice none 0 0]) rfl rfl rfl (by kernel_rfl) ?_;clear hF hM a;intro a w b2 hF hM
 revert a;refine Md 1 [0,2] rfl (Nx (Sq (Sq (Rg (Md 3 [0,2,6] rfl (Nx (Cd rfl (fun ht=> ?_) ((fun ht=> ?_)))))))))
 ·
  have e1:jpT T=none:=by unfold jpT;rw [if_neg];have:=of_decide_eq_true ht;omega
  refine Sq (Rg (Gv rfl (fun _ hF=>gives_build (parts:=[]) (vals:=[]) (cells:=[.int .i64 0,.int .i64 0,.int .i64 0,.slice none 0 0,.slice none 0 0]) hF rfl rfl (by kernel_rfl) _) ?_));intro a hF
  refine op_storeA hF hM rfl 0 rfl rfl (by kernel_rfl) rfl rfl rfl rfl (rfl) ?_;clear hF hM a;intro a w hF hM
  revert a;refine Md 1 [2,3] rfl (Nx (Re (Rt ?_)));intro a hF
  refine retMany (vs:=[_,_]) hF hM rfl rfl (.cell 0 rfl rfl Tryz.underlying27 rfl (by kernel_rfl) (.tmp rfl .nil)) ⟨_,rfl,?_⟩
  rw [e1]
  exact ⟨_,_,_,rfl,hM.below⟩
 have e0:jpT T=pText T:=by unfold jpT;rw [if_pos];have:=of_decide_eq_false ht;omega
 refine Sk (Nx (Sq ?_))
 rcases hp:pText T with _ | p
 ·
  have e1:jpT T=none:=by rw [e0,hp]
  refine Rg (Mv 1 rfl (Cl rfl rfl rfl (places_walk (T:=T) (by omega) w) ?_))
  intro w2 v hR
  rw [hp] at hR
  obtain ⟨x,y,z,rfl,hBe⟩:=hR
  replace hM:=hM.step hBe
  clear hBe
  refine Mv 2 rfl ?_;intro a hF
  refine op_storeA hF hM rfl 0 rfl rfl (by kernel_rfl) rfl rfl rfl rfl (rfl) ?_;clear hF hM a;intro a w hF hM
  revert a;refine Md 1 [2,3] rfl (Nx (Re ?_));intro a hF
  refine retMany (vs:=[_,_]) hF hM rfl rfl (.cell 0 rfl rfl Tryz.underlying27 rfl (by kernel_rfl) (.tmp rfl .nil)) ⟨_,rfl,?_⟩
  rw [e1]
  exact ⟨_,_,_,rfl,hM.below⟩
 have e1:jpT T=some p:=by rw [e0,hp]
 refine Rg (Mv 1 rfl (Cl rfl rfl rfl (places_walk (T:=T) (by omega) w) ?_))
 intro w2 v hR
 rw [hp] at hR
 obtain ⟨cs,TB,rfl,hcs,hM2⟩:=hR
 replace hM:=(hM.join hM2).perm (L':=(b2,27,[.int .i64 0,.int .i64 0,.int .i64 0,.slice none 0 0,.slice none 0 0])::TB) (pc fun x=>by simp [ct,ct_append] <;> omega)
 clear hM2
 have hcl:=hcs.len
 obtain ⟨k1,k2,k3,o1,l1,c1,o2,l2,c2,rfl⟩:=hcs.shape
 refine Mv 2 rfl ?_;intro a hF
 refine op_storeA hF hM rfl 0 rfl rfl (by kernel_rfl) rfl rfl rfl rfl (rfl) ?_;clear hF hM a;intro a w hF hM
 revert a;refine Md 1 [2,3] rfl (Nx (Re ?_));intro a hF
 refine retMany (vs:=[_,_]) hF hM rfl rfl (.cell 0 rfl rfl Tryz.underlying27 rfl (by kernel_rfl) (.tmp rfl .nil)) ⟨_,rfl,?_⟩
 rw [e1]
 exact ⟨_,TB,rfl,hcs,hM.drop (List.sublist_cons_self _ _)⟩
def jidx:Str→Bool
  | []=>false
  | c::_=>decide (c=91)
theorem jpIndex_walk (s:Str) (w0:World):Calls Tryz.prog 27 #[.string (mkS s)] w0 (Ret fun v w'=>v= .bool (jidx s)∧Below w0.heap.size w0 w'):=by
 have hM:=MS0 w0
 refine enter (l:=[.string (mkS s)]) 9 Tryz.func27 rfl rfl (Sq (Rg (Md 1 [0] rfl (Nx (Sq ?_)))))
 rcases s with _ | ⟨c,r⟩
 ·
  refine Rg (Mv 1 rfl ?_);intro a hF
  refine op_neqStr hF rfl rfl rfl rfl rfl rfl ?_;clear hF a;intro a hF
  rw [show (!(([]:Str)==[]))=false from rfl] at hF
  revert a;exact Md 6 [2] rfl (Nx (Re (Y1 rfl rfl ⟨_,rfl,rfl,hM.below⟩)))
 refine Rg (Mv 1 rfl ?_);intro a hF
 refine op_neqStr hF rfl rfl rfl rfl rfl rfl ?_;clear hF a;intro a hF
 rw [show (!((c::r:Str)==[]))=true from rfl] at hF
 revert a;exact Mv 2 rfl (Ix (0) c rfl rfl (by omega) (Md 3 [2] rfl (Nx (Re (Y1 rfl rfl ⟨_,rfl,by rw [beq_dec (d:=91) (z:=91) rfl];rfl,hM.below⟩)))))

end Go.Sx