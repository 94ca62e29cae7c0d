/- Part 17 of the proof of FnJrTyped: the statement Rows.FnJrTypedCardSaid; no further condition. -/
import Derived.Test.YtelonenjneonlaaGreatDoorR16
set_option linter.all false
set_option maxRecDepth 100000
namespace Go.Sx
open Go.RowKit Go.Proofs Js Go.Proofs.YtelonenjneonlaaGreatDoorW.PrintWords
theorem set_push {ds Z:Str}{m:Nat}{c:UInt8}(hD:Dec ds m) (hm:m<800) (h:ds.take m=Z.take 800) (hl:Z.length=m):(ds.set m c).take (m+1)=(Z++ [c]).take 800:=by
  have h8:=hD.len
  rw [List.take_add_one,List.take_set_of_le (Nat.le_refl _),List.getElem?_set_self (by omega),h,List.take_of_length_le (by omega),List.take_of_length_le (by simp;omega)]
  rfl
theorem set_past {Z:Str}{c:UInt8}(hl:800≤Z.length):(Z++ [c]).take 800=Z.take 800:=List.take_append_of_le_length hl
theorem dpC_dot8 {I fd D:Str}{m:Nat}(h:D=I) (hm:m=min 800 (Zs D).length):dpC 800 I fd D 0 true=(m:Int):=by
  unfold dpC
  rw [if_pos rfl,hm,h]
  split <;> simp [lz]
set_option maxHeartbeats 1000000 in
theorem decSetx_walk {B:Nat}{wc:World}{L:List Bk}{b:Nat}{ds0:Str}(hD0:Dec ds0 0) {s:Str}{neg:Bool}{I fd E:Str}{k k':Int}(hf:NumForm s neg I fd E k) (hx:ExCap E k') (hs:s.length≤2^40) (hn:∀ c∈s,numc c=true) {w0:World}(hM0:Mem B wc ((b,240,decL ds0 0 0 false false)::L) w0):
    Calls Tryz.prog 212 #[.pointer (some ⟨b,0,none⟩),.string (mkS s)] w0 (Ret fun v w'=>v= .bool true∧∃ (ds:Str) (tr:Bool),Dec ds (min 800 (Zs (I++fd)).length)∧ds.take (min 800 (Zs (I++fd)).length)=(Zs (I++fd)).take 800∧Mem B wc ((b,240,decL ds ((min 800 (Zs (I++fd)).length:Nat):Int) (dpF 800 I fd+k') neg tr)::L) w'):=by
 have hM:=hM0
 have hl:=hD0.len
 obtain ⟨pre,hpre⟩:∃ p:Nat,p=if neg then 1 else 0:=⟨_,rfl⟩
 have hsp:s.drop pre=I++(pt fd++E):=by rw [hf.text,hpre];cases neg <;> rfl
 have hpl:pre≤1:=by rw [hpre];split <;> omega
 have hI0:0<I.length:=List.length_pos_iff.2 hf.int0
 have hlen:pre+(I.length+((pt fd).length+E.length))=s.length:=by rw [hf.text,hpre];cases neg <;> simp <;> omega
 have hlp:0<s.length:=by omega
 have hptl:fd.length≤(pt fd).length:=by unfold pt;split <;> simp_all
 have hzI:=zlen_le I
 obtain ⟨c0,hc0⟩:∃ c,s[0]?=some c:=⟨_,List.getElem?_eq_getElem hlp⟩
 have hc0b:(c0.toNat=45↔neg=true)∧c0.toNat≠43:=by
   rcases numForm_head hf hc0 with ⟨h1,h2⟩ | ⟨h1,h2⟩
   · rw [h2,h1];exact ⟨⟨fun _=>rfl,fun _=>rfl⟩,by decide⟩
   · have:=dig_rng h2;exact ⟨⟨fun h=>by omega,fun h=>by rw [h1] at h;cases h⟩,by omega⟩
 have hE:=exCap_head hx
 have hnum:∀ {j c},s[j]?=some c→numc c=true:=fun h=>hn _ (List.mem_of_getElem? h)
 refine enter (l:=[.pointer (some ⟨b,0,none⟩),.string (mkS s)]) 222 Tryz.func212 rfl rfl (Sq (Rg (Md 1 [0,1,4] rfl (Nx (Sq (Rg (Md 1 [0,1,4,5] rfl (Nx (Sq (Rg (Mv 3 rfl ?_)))))))))));intro a hF
 refine op_storeD hF hM rfl rfl rfl (by kernel_rfl) rfl rfl rfl (by decide) hl (dset_neg hl _) ?_;clear hF hM a;intro a w hF hM
 revert a;refine Md 0 [0,1,4,5] rfl (Nx (Sq (Rg (Mv 3 rfl ?_))));intro a hF
 refine op_storeD hF hM rfl rfl rfl (by kernel_rfl) rfl rfl rfl (by decide) hl (dset_tr hl _) ?_;clear hF hM a;intro a w hF hM
 revert a;refine Md 0 [0,1,4,5] rfl (Nx (Sq (Sq (Rg (Md 4 [0,1,4,5,19] rfl (Nx (C1 rfl (fun ht=>absurd (of_decide_eq_true ht) (by omega)) (Sk (Nx ?_)))))))));intro a hF
 refine cut (fun a w=>Fr 224 [(0,.pointer (some ⟨b,0,none⟩)),(1,.string (mkS s)),(4,.bool false),(5,.int .i64 (pre:Int))] a∧Mem B wc ((b,240,decL ds0 0 0 neg false)::L) w) ?_ (fun a w h=> ?_)
 ·
  revert a;refine Sq (Rg (Mv 2 rfl (Ix (0) c0 rfl hc0 (by omega) (Md 0 [0,1,4,5,22] rfl (Nx (Bo (Sq (Rg (Md 2 [0,1,4,5,22,23] rfl (Nx (C1 rfl (fun ht=>absurd (show (c0.toNat:Int)=43 by simpa using ht) (by omega)) (Sq (Rg (Md 2 [0,1,4,5,27] rfl (Nx (Ce rfl (fun ht=> ?_) ((fun ht=> ?_))))))))))))))))))
  ·
   have hneg:neg=false:=by cases hb:neg;rfl;exact absurd (hc0b.1.2 hb) (by intro h;rw [h] at ht;exact absurd ht (by decide))
   refine Sk (Nb (Kp [0,1,4,5] rfl ?_));intro a hF
   exact ⟨by rw [hpre];subst hneg;exact hF,by subst hneg;exact hM⟩
  have hneg:neg=true:=hc0b.1.1 (by have:(c0.toNat:Int)=45:=(by simpa using ht);omega)
  refine Sq (Rg (Mv 1 rfl (Sm (((1:Nat):Int)) rfl (by omega) (Md 1 [0,1,4,5] rfl (Nx (Rg (Mv 3 rfl ?_)))))));intro a hF
  refine op_storeD hF hM rfl rfl rfl (by kernel_rfl) rfl rfl rfl (by decide) hl (dset_neg hl _) ?_;clear hF hM a;intro a w hF hM
  revert a;refine Md 0 [0,1,4,5] rfl (Nb (Kp [0,1,4,5] rfl ?_));intro a hF
  exact ⟨by rw [hpre];subst hneg;exact hF,by subst hneg;exact hM⟩
 clear hF hM
 obtain ⟨hF,hM⟩:=h
 revert a;refine Sq (Rg (Md 1 [0,1,4,5,6] rfl (Nx (Sq (Rg (Md 1 [0,1,4,5,6,7] rfl (Nx ?_)))))));intro a hF
 refine cutF (fun a w=>∃ (i:Nat) (D:Str) (fr:Nat) (seen:Bool),RDn s I fd E i D fr seen∧i≤s.length∧∃ (sg tr:Bool) (ds:Str) (m:Nat),m=min 800 (Zs D).length∧ds.take m=(Zs D).take 800∧(D≠ []→sg=true)∧Dec ds m∧Fr 224 [(0,.pointer (some ⟨b,0,none⟩)),(1,.string (mkS s)),(4,.bool false),(5,.int .i64 (i:Int)),(6,.bool seen),(7,.bool sg)] a∧Mem B wc ((b,240,decL ds (m:Int) (dpC 800 I fd D fr seen) neg tr)::L) w) (fun a w h=> ?_) ?_
 ·
  clear hF hM
  clear hl
  obtain ⟨i,D,fr,seen,hdn,hi,sg,tr,ds,m,hmz,htk,hsg,hD,hF,hM⟩:=h
  have hD0:=hdn.all
  subst hD0
  obtain rfl:sg=true:=hsg (by simp [hf.int0])
  have hrest:=hdn.rest
  have hrl:=congrArg List.length hrest
  rw [List.length_drop] at hrl
  have hdpd:=dp_done (cap:=800) hdn
  rw [←hmz] at hdpd
  have hdpr:=dpC_rng 800 I fd (I++fd) fr seen
  have hzl:=zlen_le (I++fd)
  rw [List.length_append] at hdpr hzl
  have hl:=hD.len
  have hm8:=hD.le
  revert a;refine Sq (Sq (Rg (Md 2 [0,1,4,5,6,118] rfl (Nx (C1 rfl (fun ht=>absurd ht (by decide)) (Sk (Nx ?_)))))));intro a hF
  refine cut (fun a w=>Fr 224 [(0,.pointer (some ⟨b,0,none⟩)),(1,.string (mkS s)),(4,.bool false),(5,.int .i64 (i:Int))] a∧(-200000000000000≤dpF 800 I fd∧dpF 800 I fd≤200000000000000)∧Mem B wc ((b,240,decL ds (m:Int) (dpF 800 I fd) neg tr)::L) w) ?_ (fun a w h=> ?_)
  ·
   revert a;refine Sq (Rg (Md 2 [0,1,4,5,120] rfl (Nx (Ce rfl (fun ht=> ?_) ((fun ht=> ?_))))))
   ·
    have hsn:seen=true:=by cases seen;exact absurd ht (by decide);rfl
    intro a hF
    rw [hsn] at hdpd hdpr
    have hdv:dpF 800 I fd=dpC 800 I fd (I++fd) fr true:=by rw [←hdpd];rfl
    have hdb: -200000000000000≤dpF 800 I fd∧dpF 800 I fd≤200000000000000:=by omega
    revert a;refine Sk (Kp [0,1,4,5] rfl ?_);intro a hF
    exact ⟨hF,hdb,by rw [hdv];rw [hsn] at hM;exact hM⟩
   have hsn:seen=false:=by cases seen;rfl;exact absurd ht (by decide)
   rw [hsn] at hdpd
   have hdv:dpF 800 I fd=(m:Int):=by rw [←hdpd];rfl
   have hdb: -200000000000000≤dpF 800 I fd∧dpF 800 I fd≤200000000000000:=by omega
   refine Rg (Mv 4 rfl (Gv rfl (fun _ hF=>gives_load hF hM 0 rfl Tryz.underlying3 rfl rfl rfl (dget_nd hl)) (Mv 2 rfl ?_)));intro a hF
   refine op_storeD hF hM rfl rfl rfl (by kernel_rfl) rfl rfl rfl (by decide) hl (dset_dp hl _) ?_;clear hF hM a;intro a w hF hM
   revert a;refine Md 0 [0,1,4,5] rfl ?_;intro a hF
   exact ⟨hF,hdb,by rw [hdv];exact hM⟩
  clear hF hM
  obtain ⟨hF,hdb,hM⟩:=h
  refine cutF (fun a w=>Fr 224 [(0,.pointer (some ⟨b,0,none⟩)),(1,.string (mkS s)),(4,.bool false),(5,.int .i64 (s.length:Int))] a∧Mem B wc ((b,240,decL ds (m:Int) (dpF 800 I fd+k') neg tr)::L) w) (fun a w h=> ?_) ?_
  ·
   clear hF hM
   obtain ⟨hF,hM⟩:=h
   revert a;refine Sq (Sq (Rg (Md 4 [4,223] rfl (Nx (C1 rfl (fun ht=> ?_) ?_)))))
   ·
    intro a hF
    simp at ht
   exact Sk (Nx (Sq (Rg (Md 1 [4] rfl (Nx (Re (Y1 rfl rfl ⟨_,rfl,rfl,ds,tr,by rw [←hmz];exact hD,by rw [←hmz];exact htk,by rw [←hmz];exact hM⟩)))))))
  revert a;refine Sq ?_
  rcases hx with ⟨hE0,hk0⟩ | ⟨ec,pw,en,ds2,hec,hEc,hpw,hk0⟩
  ·
   rw [hE0] at hrl
   have his:i=s.length:=by simp at hrl;omega
   refine Rg (Mv 3 rfl (Bf rfl (by omega) (Md 7 [0,1,4,5,138] rfl (Nx (Cf rfl (Sk (Kp [0,1,4,5] rfl ?_)))))));intro a hF
   exact ⟨by rw [←his];exact hF,by rw [hk0,Int.add_zero];exact hM⟩
  intro a hF
  rw [hEc] at hrl hrest
  rw [List.length_cons] at hrl
  have hc:s[i]?=some ec:=by have:=drop_at0 (k:=0) hrest;rw [Nat.add_zero] at this;rw [this];rfl
  have hlow:(ec.toNat ||| 32:Nat)=101:=by rcases hec with rfl | rfl <;> rfl
  obtain ⟨hpwl,hdsl⟩:=pwOf_pos hpw
  obtain ⟨c1,hc1⟩:∃ c,s[i+1]?=some c:=⟨_,List.getElem?_eq_getElem (by omega)⟩
  have hrest1:s.drop (i+1)=pw:=by rw [←List.drop_drop,hrest];rfl
  have hc1p:pw[0]?=some c1:=by rw [←hc1];exact (drop_at0 (k:=0) hrest1).symm
  revert a;refine Rg (Mv 3 rfl (Bt rfl (by omega) (Mv 3 rfl (Ix (i) ec rfl hc (by omega) (Cm hM rfl rfl rfl (lower_walk ec w) ?_)))))
  clear hM;intro w v hR hM hBe
  obtain rfl:=hR
  refine Mv 1 rfl ?_;intro a hF
  rw [show (((ec.toNat ||| 32:Nat):Int)==101)=true by rw [hlow];rfl] at hF
  revert a;refine Md 1 [0,1,4,5,138] rfl (Nx (Ct rfl (Sq (Rg (Mv 1 rfl (Sm (((i+1:Nat):Int)) rfl (by omega) (Md 1 [0,1,4,5] rfl (Nx (Sq (Sq (Rg (Md 4 [0,1,4,5,144] rfl (Nx (C1 rfl (fun ht=>absurd (of_decide_eq_true ht) (by omega)) (Sk (Nx (Sq (Rg (Md 1 [0,1,4,5,8] rfl (Nx ?_))))))))))))))))))));intro a hF
  refine cut (fun a w=>∃ i1:Nat,s.drop i1=ds2∧i1≤s.length∧Digs ds2∧Fr 224 [(0,.pointer (some ⟨b,0,none⟩)),(1,.string (mkS s)),(4,.bool false),(5,.int .i64 (i1:Int)),(8,.int .i64 (if en then -1 else 1))] a∧Mem B wc ((b,240,decL ds (m:Int) (dpF 800 I fd) neg tr)::L) w) ?_ (fun a w h=> ?_)
  ·
   revert a;refine Sq (Rg (Mv 2 rfl (Ix (i+1) c1 rfl hc1 (by omega) (Md 0 [0,1,4,5,8,147] rfl (Nx (Bo (Sq ?_)))))))
   obtain ⟨hds,hds0,hpw⟩:=hpw;rcases hpw with ⟨hen,hpe⟩ | ⟨hen,hpe | hpe⟩
   ·
    have hc1v:c1=45:=by rw [hpe] at hc1p;exact (Option.some.inj hc1p).symm
    have hdr:s.drop (i+1+1)=ds2:=by rw [←List.drop_drop,hrest1,hpe];rfl
    refine Rg (Qf 43 rfl rfl (by rw [hc1v];decide) (Md 1 [0,1,4,5,8,147,148] rfl (Nx (Cf rfl (Sq (Rg (Qt 45 rfl rfl (by rw [hc1v]) (Md 1 [0,1,4,5,8,152] rfl (Nx (Ct rfl (Sq (Rg (Mv 1 rfl (Sm (((i+1+1:Nat):Int)) rfl (by omega) (Md 1 [0,1,4,5] rfl (Nx (Rg (Md 1 [0,1,4,5,8] rfl (Nb (Kp [0,1,4,5,8] rfl ?_))))))))))))))))))));intro a hF
    exact ⟨i+1+1,hdr,by omega,hds,by rw [hen];exact hF,hM⟩
   ·
    have hc1v:c1=43:=by rw [hpe] at hc1p;exact (Option.some.inj hc1p).symm
    have hdr:s.drop (i+1+1)=ds2:=by rw [←List.drop_drop,hrest1,hpe];rfl
    refine Rg (Qt 43 rfl rfl (by rw [hc1v]) (Md 1 [0,1,4,5,8,147,148] rfl (Nx (Ct rfl (Rg (Mv 1 rfl (Sm (((i+1+1:Nat):Int)) rfl (by omega) (Md 1 [0,1,4,5,8] rfl (Nb (Kp [0,1,4,5,8] rfl ?_))))))))));intro a hF
    exact ⟨i+1+1,hdr,by omega,hds,by rw [hen];exact hF,hM⟩
   have hdr:s.drop (i+1)=ds2:=by rw [hrest1,hpe]
   have hc1d:isDig c1=true:=hds _ (by rw [hpe] at hc1p;exact List.mem_of_getElem? hc1p)
   refine Rg (Qf 43 rfl rfl (by rintro rfl;exact absurd hc1d (by decide)) (Md 1 [0,1,4,5,8,147,148] rfl (Nx (Cf rfl (Sq (Rg (Qf 45 rfl rfl (by rintro rfl;exact absurd hc1d (by decide)) (Md 1 [0,1,4,5,8,152] rfl (Nx (Cf rfl (Sk (Nb (Kp [0,1,4,5,8] rfl ?_)))))))))))));intro a hF
   exact ⟨i+1,hdr,by omega,hds,by rw [hen];exact hF,hM⟩
  clear hF hM
  obtain ⟨i1,hdr,hi1,hds,hF,hM⟩:=h
  have hdl:=congrArg List.length hdr
  rw [List.length_drop] at hdl
  obtain ⟨c2,hc2⟩:∃ c,s[i1]?=some c:=⟨_,List.getElem?_eq_getElem (by omega)⟩
  have hc3d:isDig c2=true:=hds _ (List.mem_of_getElem? (i:=0) (by rw [←hc2];exact (drop_at0 (k:=0) hdr).symm))
  have hk3:=dig_rng hc3d
  revert a;refine Sq (Sq (Rg (Mv 3 rfl (Bf rfl (by omega) (Mv 3 rfl (Ix (i1) c2 rfl hc2 (by omega) (Bf rfl (by omega) (Mv 4 rfl (Ix (i1) c2 rfl hc2 (by omega) (Bf rfl (by omega) (Md 1 [0,1,4,5,8,171] rfl (Nx (Cf rfl (Sk (Nx (Sq (Rg (Md 1 [0,1,4,5,8,9] rfl (Nx (Sq (Bo (Kp [0,1,4,5,8,9] rfl ?_))))))))))))))))))))));intro a hF
  refine loopX (fun (j:Nat) a w=>j≤ds2.length∧Fr 224 [(0,.pointer (some ⟨b,0,none⟩)),(1,.string (mkS s)),(4,.bool false),(5,.int .i64 ((i1+j:Nat):Int)),(8,.int .i64 (if en then -1 else 1)),(9,.int .i64 ((capE 0 (ds2.take j):Nat):Int))] a∧Mem B wc ((b,240,decL ds (m:Int) (dpF 800 I fd) neg tr)::L) w) (fun j=>ds2.length - j) (0) ?_ (fun j a w hI=> ?_)
  · exact ⟨Nat.zero_le _,hF,hM⟩
  clear hF hM
  clear hc2 hc3d hk3
  obtain ⟨hj,hF,hM⟩:=hI
  have hcl:=capE_le (hds.take j) (e:=0) (by decide)
  revert a;refine Sq (Sq ?_)
  rcases Nat.lt_or_ge j ds2.length with hlt | hge
  ·
   obtain ⟨c,hcj⟩:∃ c,ds2[j]?=some c:=⟨_,List.getElem?_eq_getElem hlt⟩
   have hc:s[i1+j]?=some c:=by rw [drop_at0 hdr];exact hcj
   have hcd:=hds c (List.mem_of_getElem? hcj)
   have hk:=dig_rng hcd
   have hdgc:dg c=c.toNat - 48:=rfl
   have hsn:=capE_snoc 0 (ds2.take j) c
   rw [←take_next hcj] at hsn
   refine Rg (Mv 3 rfl (Bt rfl (by omega) (Mv 3 rfl (Ix (i1+j) c rfl hc (by omega) (Bt rfl (by omega) (Mv 3 rfl (Ix (i1+j) c rfl hc (by omega) (Bt rfl (by omega) (Md 8 [0,1,4,5,8,9,193] rfl (Nx (Ct rfl (Sk (Nx (Sq (Bo (Sq (Sq (Rg (Mv 2 rfl (Ix (i1+j) c rfl hc (by omega) (Qf 95 rfl rfl (numc_no95 (hnum hc)) (Md 0 [0,1,4,5,8,9,199] rfl (Nx (Cf rfl (Sk (Nx (Sq (Rg (Md 2 [0,1,4,5,8,9,201] rfl (Nx (Ce rfl (fun ht=> ?_) ((fun ht=> ?_)))))))))))))))))))))))))))))))))
   ·
    have he4: ¬ capE 0 (ds2.take j)<10000:=by have:=of_decide_eq_false ht;omega
    have hnx2:=hsn.trans (if_neg he4)
    refine Sk (Nb (Nx (Rg (Mv 1 rfl (Sm (((i1+(j+1):Nat):Int)) rfl (by omega) (Md 1 [0,1,4,5,8,9] rfl ?_))))));intro a hF
    exact ⟨j+1,⟨by omega,by first | exact hF | (rw [hnx2];exact hF),hM⟩,by omega⟩
   have he4:capE 0 (ds2.take j)<10000:=by have:=of_decide_eq_true ht;omega
   rw [if_pos he4] at hsn
   refine Rg (Mv 1 rfl (Sm (((capE 0 (ds2.take j)*10:Nat):Int)) rfl (by omega) (Mv 2 rfl (Ix (i1+j) c rfl hc (by omega) ?_))));intro a hF
   refine op_conv_to hF rfl rfl rfl rfl Tryz.underlying5 Tryz.underlying3 rfl (wrap_i64 (by omega) (by omega)) ?_;clear hF a;intro a hF
   revert a;refine Sm (((capE 0 (ds2.take j)*10+c.toNat:Nat):Int)) rfl (by omega) (Sm (((capE 0 (ds2.take (j+1)):Nat):Int)) rfl (by omega) (Md 1 [0,1,4,5,8,9] rfl (Nb (Nx (Rg (Mv 1 rfl (Sm (((i1+(j+1):Nat):Int)) rfl (by omega) (Md 1 [0,1,4,5,8,9] rfl ?_))))))));intro a hF
   exact ⟨j+1,⟨by omega,by first | exact hF | (rw [hnx2];exact hF),hM⟩,by omega⟩
  obtain rfl:j=ds2.length:=by omega
  intro a hF
  rw [List.take_length] at hF hcl
  revert a;refine Rg (Mv 3 rfl (Bf rfl (by omega) (Md 18 [0,1,4,5,8,9,193] rfl (Nx (Cf rfl (Ex (Ot (Ot (Ob (Nx (Rg (Mv 3 rfl (Gv rfl (fun _ hF=>gives_load hF hM 0 rfl Tryz.underlying3 rfl rfl rfl (dget_dp hl)) (Mv 2 rfl ?_))))))))))))))
  have hkr: -100000<k'∧k'<100000:=by rw [hk0];unfold sgn;split <;> omega
  intro a hF
  refine op_sum hF rfl (k') rfl rfl rfl rfl rfl rfl (by rw [hk0];exact sgn_mul en _) (wrap_i64 (by omega) (by omega)) ?_;clear hF a;intro a hF
  revert a;refine Sm (dpF 800 I fd+k') rfl (by omega) (Mv 2 rfl ?_);intro a hF
  refine op_storeD hF hM rfl rfl rfl (by kernel_rfl) rfl rfl rfl (by decide) hl (dset_dp hl _) ?_;clear hF hM a;intro a w hF hM
  revert a;refine Md 0 [0,1,4,5] rfl ?_;intro a hF
  exact ⟨by rw [show s.length=i1+ds2.length by omega];exact hF,hM⟩
 revert a;refine Bo (Kp [0,1,4,5,6,7] rfl ?_);intro a hF
 refine loopX (fun (x:Nat×Str×Nat×Bool) a w=>RSt pre I fd x.1 x.2.1 x.2.2.1 x.2.2.2∧x.1≤s.length∧∃ (sg tr:Bool) (ds:Str) (m:Nat),m=min 800 (Zs x.2.1).length∧ds.take m=(Zs x.2.1).take 800∧(x.2.1≠ []→sg=true)∧Dec ds m∧Fr 224 [(0,.pointer (some ⟨b,0,none⟩)),(1,.string (mkS s)),(4,.bool false),(5,.int .i64 (x.1:Int)),(6,.bool x.2.2.2),(7,.bool sg)] a∧Mem B wc ((b,240,decL ds (m:Int) (dpC 800 I fd x.2.1 x.2.2.1 x.2.2.2) neg tr)::L) w) (fun x=>s.length - x.1) ((pre,([]:Str),0,false)) ?_ (fun x a w hI=> ?_)
 · exact ⟨RSt.start pre I fd,by simp only;omega,false,false,ds0,0,rfl,rfl,fun h=>absurd rfl h,hD0,hF,hM⟩
 clear hF hM
 clear hl
 obtain ⟨i,D,fr,seen⟩:=x
 obtain ⟨hR,hi,sg,tr,ds,m,hmz,htk,hsg,hD,hF,hM⟩:=hI
 simp only at hR hi hmz htk hsg hF hM
 have hDd:=hR.digs
 have hzl:=zlen_le D
 have hDl:D.length≤s.length:=by have:=hR.pos;split at this <;> omega
 have hdpr:=dpC_rng 800 I fd D fr seen
 have hl:=hD.len
 have hm8:=hD.le
 revert a;refine Sq (Sq (Rg (Md 4 [0,1,4,5,6,7,37] rfl (Nx (Ce rfl (fun ht=> ?_) ((fun ht=> ?_)))))))
 ·
  have hdn:=hR.stop hsp hf.int0 (by have:=of_decide_eq_false ht;omega)
  refine Ex (Ot (Ot (Ob (Kp [0,1,4,5,6,7] rfl ?_))));intro a hF
  exact ⟨i,D,fr,seen,hdn,hi,sg,tr,ds,m,hmz,htk,hsg,hD,hF,hM⟩
 have hlt:i<s.length:=by have:=of_decide_eq_true ht;omega
 obtain ⟨c,hc⟩:∃ c,s[i]?=some c:=⟨_,List.getElem?_eq_getElem hlt⟩
 have hnx:=hR.next hsp hf.int hf.frac hE hc
 refine Sk (Nx (Sq (Bo (Sq (Bo (Sq (Rg (Mv 2 rfl (Ix (i) c rfl hc (by omega) (Qf 95 rfl rfl (numc_no95 (hnum hc)) (Md 1 [0,1,4,5,6,7,40] rfl (Nx (Cf rfl (Sq ?_))))))))))))))
 rcases hnx with ⟨hcd,hR2,hfr⟩ | ⟨h46,hs0,hDI,hR2⟩ | ⟨hce,hdn⟩
 ·
  have hk:=dig_rng hcd
  have hnd:c≠46:=by rintro rfl;exact absurd hcd (by decide)
  refine Rg (Mv 2 rfl (Ix (i) c rfl hc (by omega) (Qf 46 rfl rfl hnd (Md 1 [0,1,4,5,6,7,45] rfl (Nx (Cf rfl (Sq (Rg (Mv 2 rfl (Ix (i) c rfl hc (by omega) (Bt rfl (by omega) (Mv 3 rfl (Ix (i) c rfl hc (by omega) (Bt rfl (by omega) (Md 2 [0,1,4,5,6,7,58] rfl (Nx (Ct rfl (Sq (Rg (Md 1 [0,1,4,5,6,7] rfl (Nx (Sq (Sq ?_)))))))))))))))))))))))
  rcases (show c≠48∨(c=48∧(Zs D).length=0)∨(c=48∧0<(Zs D).length) from (Classical.em (c=48)).elim (fun h=> .inr ((Nat.eq_zero_or_pos _).imp (fun h'=>⟨h,h'⟩) (fun h'=>⟨h,h'⟩))) (fun h=> .inl h)) with h48 | ⟨h48,hz0⟩ | ⟨h48,hz0⟩
  ·
   have hz: ¬ (Zs D=[]∧c=48):=fun h=>h48 h.2
   have hz2:m=0→c≠48:=fun _=>h48
   have hzn:=zlen_push hz
   have hdq:=dpC_dig (cap:=800) hfr hz
   refine Rg (Mv 2 rfl (Ix (i) c rfl hc (by omega) (Qf 48 rfl rfl h48 (Md 7 [0,1,4,5,6,7,79] rfl (Nx (Cf rfl (Sk (Nx (Sq (Sq (Rg (Mv 3 rfl (Gv rfl (fun _ hF=>gives_load hF hM 0 rfl Tryz.underlying3 rfl rfl rfl (dget_nd hl)) (Md 1 [0,1,4,5,6,7,91] rfl (Nx (Cd rfl (fun ht=> ?_) ((fun ht=> ?_))))))))))))))))))
   ·
    have hm9:m<800:=by have:=of_decide_eq_true ht;omega
    have hD2:=dec_push hD hm9 hcd hz2
    have hmp:m+1=min 800 (Zs (D++ [c])).length:=by omega
    have htp:(ds.set m c).take (m+1)=(Zs (D++ [c])).take 800:=by rw [zs_push hz];exact set_push hD hm9 htk (by omega)
    refine Sq (Su 11 (by kernel_rfl) (by kernel_rfl) ?_)
    replace hM:=hM.drew
    skip
    refine Ms 4 rfl (Gs rfl (fun _ hF=>gives_load hF hM 0 rfl Tryz.underlying3 rfl rfl rfl (dget_nd hl)) (Ms 2 rfl (Is (i) c rfl hc (by omega) (Ms 2 rfl (Gs rfl (fun _ hF=>gives_indexAddrD (m) hF rfl rfl rfl rfl (by omega) _) (Sd ?_))))));intro a hF
    simp only [List.drop_succ_cons,List.drop_zero]
    refine op_storeD hF hM rfl rfl rfl (by kernel_rfl) rfl rfl rfl (by omega) hl (dset_dig hl (by omega) rfl) ?_;clear hF hM a;intro a w hF hM
    have hl:=hD2.len
    revert a;refine Md 0 [0,1,4,5,6,7] rfl (Nx (Rg (Mv 3 rfl (Gv rfl (fun _ hF=>gives_load hF hM 0 rfl Tryz.underlying3 rfl rfl rfl (dget_nd hl)) (Sm (((m+1:Nat):Int)) rfl (by omega) (Mv 2 rfl ?_))))));intro a hF
    refine op_storeD hF hM rfl rfl rfl (by kernel_rfl) rfl rfl rfl (by decide) hl (dset_nd hl _) ?_;clear hF hM a;intro a w hF hM
    revert a;refine Md 0 [0,1,4,5,6,7] rfl (Nx (Ex (Op' rfl (Ot (Ob (Nx (Rg (Mv 1 rfl (Sm (((i+1:Nat):Int)) rfl (by omega) (Md 1 [0,1,4,5,6,7] rfl ?_))))))))));intro a hF
    exact ⟨(i+1,D++ [c],(if seen then fr+1 else fr),seen),⟨hR2,by simp only;omega,true,_,_,_,hmp,htp,fun _=>rfl,hD2,hF,by simp only;rw [hdq];exact hM⟩,by simp only;omega⟩
   have hm9: ¬ m<800:=by have:=of_decide_eq_false ht;omega
   have hmq:m=min 800 (Zs (D++ [c])).length:=by omega
   have htq:ds.take m=(Zs (D++ [c])).take 800:=by rw [zs_push hz,set_past (by omega)];exact htk
   refine Sq (Rg (Mv 2 rfl (Ix (i) c rfl hc (by omega) (Md 1 [0,1,4,5,6,7,113] rfl (Nx (D0 rfl ?_ ?_))))))
   ·
    refine Sk (Nx (Ex (Op' rfl (Ot (Ob (Nx (Rg (Mv 1 rfl (Sm (((i+1:Nat):Int)) rfl (by omega) (Md 1 [0,1,4,5,6,7] rfl ?_))))))))));intro a hF
    exact ⟨(i+1,D++ [c],(if seen then fr+1 else fr),seen),⟨hR2,by simp only;omega,true,_,_,_,hmq,htq,fun _=>rfl,hD,hF,by simp only;rw [hdq];exact hM⟩,by simp only;omega⟩
   refine Rg (Mv 3 rfl ?_);intro a hF
   refine op_storeD hF hM rfl rfl rfl (by kernel_rfl) rfl rfl rfl (by decide) hl (dset_tr hl _) ?_;clear hF hM a;intro a w hF hM
   revert a;refine Md 0 [0,1,4,5,6,7] rfl (Nx (Ex (Op' rfl (Ot (Ob (Nx (Rg (Mv 1 rfl (Sm (((i+1:Nat):Int)) rfl (by omega) (Md 1 [0,1,4,5,6,7] rfl ?_))))))))));intro a hF
   exact ⟨(i+1,D++ [c],(if seen then fr+1 else fr),seen),⟨hR2,by simp only;omega,true,_,_,_,hmq,htq,fun _=>rfl,hD,hF,by simp only;rw [hdq];exact hM⟩,by simp only;omega⟩
  ·
   have hm0:m=0:=by omega
   have hzn:=zlen_skip (zs_nil.2 hz0) h48
   have hdq:=dpC_dig0 (cap:=800) hfr (zs_nil.2 hz0) h48
   have hms:m=min 800 (Zs (D++ [c])).length:=by omega
   have hts:ds.take m=(Zs (D++ [c])).take 800:=by rw [zs_skip (zs_nil.2 hz0) h48,htk,zs_nil.2 hz0]
   refine Rg (Mv 2 rfl (Ix (i) c rfl hc (by omega) (Qt 48 rfl rfl h48 (Mv 4 rfl (Gv rfl (fun _ hF=>gives_load hF hM 0 rfl Tryz.underlying3 rfl rfl rfl (dget_nd hl)) (Mv 1 rfl ?_))))));intro a hF
   rw [show ((m:Int)==0)=true by rw [hm0];rfl] at hF
   revert a;refine Md 1 [0,1,4,5,6,7,79] rfl (Nx (Ct rfl (Sq (Rg (Mv 3 rfl (Gv rfl (fun _ hF=>gives_load hF hM 0 rfl Tryz.underlying3 rfl rfl rfl (dget_dp hl)) (Sm (dpC 800 I fd (D++ [c]) (if seen then fr+1 else fr) seen) rfl (by omega) (Mv 2 rfl ?_))))))));intro a hF
   refine op_storeD hF hM rfl rfl rfl (by kernel_rfl) rfl rfl rfl (by decide) hl (dset_dp hl _) ?_;clear hF hM a;intro a w hF hM
   revert a;refine Md 0 [0,1,4,5,6,7] rfl (Nx (Ex (Ot (Op' rfl (Ot (Ob (Nx (Rg (Mv 1 rfl (Sm (((i+1:Nat):Int)) rfl (by omega) (Md 1 [0,1,4,5,6,7] rfl ?_)))))))))));intro a hF
   exact ⟨(i+1,D++ [c],(if seen then fr+1 else fr),seen),⟨hR2,by simp only;omega,true,_,_,_,hms,hts,fun _=>rfl,hD,hF,hM⟩,by simp only;omega⟩
  have hz: ¬ (Zs D=[]∧c=48):=fun h=>by have:=zs_nil.1 h.1;omega
  have hz2:m=0→c≠48:=fun h=>absurd h (by omega)
  have hzn:=zlen_push hz
  have hdq:=dpC_dig (cap:=800) hfr hz
  refine Rg (Mv 2 rfl (Ix (i) c rfl hc (by omega) (Qt 48 rfl rfl h48 (Mv 4 rfl (Gv rfl (fun _ hF=>gives_load hF hM 0 rfl Tryz.underlying3 rfl rfl rfl (dget_nd hl)) (Mv 1 rfl ?_))))));intro a hF
  rw [show ((m:Int)==0)=false by simp;omega] at hF
  revert a;refine Md 1 [0,1,4,5,6,7,79] rfl (Nx (Cf rfl (Sk (Nx (Sq (Sq (Rg (Mv 3 rfl (Gv rfl (fun _ hF=>gives_load hF hM 0 rfl Tryz.underlying3 rfl rfl rfl (dget_nd hl)) (Md 1 [0,1,4,5,6,7,91] rfl (Nx (Cd rfl (fun ht=> ?_) ((fun ht=> ?_))))))))))))))
  ·
   have hm9:m<800:=by have:=of_decide_eq_true ht;omega
   have hD2:=dec_push hD hm9 hcd hz2
   have hmp:m+1=min 800 (Zs (D++ [c])).length:=by omega
   have htp:(ds.set m c).take (m+1)=(Zs (D++ [c])).take 800:=by rw [zs_push hz];exact set_push hD hm9 htk (by omega)
   refine Sq (Su 11 (by kernel_rfl) (by kernel_rfl) ?_)
   replace hM:=hM.drew
   skip
   refine Ms 4 rfl (Gs rfl (fun _ hF=>gives_load hF hM 0 rfl Tryz.underlying3 rfl rfl rfl (dget_nd hl)) (Ms 2 rfl (Is (i) c rfl hc (by omega) (Ms 2 rfl (Gs rfl (fun _ hF=>gives_indexAddrD (m) hF rfl rfl rfl rfl (by omega) _) (Sd ?_))))));intro a hF
   simp only [List.drop_succ_cons,List.drop_zero]
   refine op_storeD hF hM rfl rfl rfl (by kernel_rfl) rfl rfl rfl (by omega) hl (dset_dig hl (by omega) rfl) ?_;clear hF hM a;intro a w hF hM
   have hl:=hD2.len
   revert a;refine Md 0 [0,1,4,5,6,7] rfl (Nx (Rg (Mv 3 rfl (Gv rfl (fun _ hF=>gives_load hF hM 0 rfl Tryz.underlying3 rfl rfl rfl (dget_nd hl)) (Sm (((m+1:Nat):Int)) rfl (by omega) (Mv 2 rfl ?_))))));intro a hF
   refine op_storeD hF hM rfl rfl rfl (by kernel_rfl) rfl rfl rfl (by decide) hl (dset_nd hl _) ?_;clear hF hM a;intro a w hF hM
   revert a;refine Md 0 [0,1,4,5,6,7] rfl (Nx (Ex (Op' rfl (Ot (Ob (Nx (Rg (Mv 1 rfl (Sm (((i+1:Nat):Int)) rfl (by omega) (Md 1 [0,1,4,5,6,7] rfl ?_))))))))));intro a hF
   exact ⟨(i+1,D++ [c],(if seen then fr+1 else fr),seen),⟨hR2,by simp only;omega,true,_,_,_,hmp,htp,fun _=>rfl,hD2,hF,by simp only;rw [hdq];exact hM⟩,by simp only;omega⟩
  have hm9: ¬ m<800:=by have:=of_decide_eq_false ht;omega
  have hmq:m=min 800 (Zs (D++ [c])).length:=by omega
  have htq:ds.take m=(Zs (D++ [c])).take 800:=by rw [zs_push hz,set_past (by omega)];exact htk
  refine Sq (Rg (Mv 2 rfl (Ix (i) c rfl hc (by omega) (Md 1 [0,1,4,5,6,7,113] rfl (Nx (D0 rfl ?_ ?_))))))
  ·
   refine Sk (Nx (Ex (Op' rfl (Ot (Ob (Nx (Rg (Mv 1 rfl (Sm (((i+1:Nat):Int)) rfl (by omega) (Md 1 [0,1,4,5,6,7] rfl ?_))))))))));intro a hF
   exact ⟨(i+1,D++ [c],(if seen then fr+1 else fr),seen),⟨hR2,by simp only;omega,true,_,_,_,hmq,htq,fun _=>rfl,hD,hF,by simp only;rw [hdq];exact hM⟩,by simp only;omega⟩
  refine Rg (Mv 3 rfl ?_);intro a hF
  refine op_storeD hF hM rfl rfl rfl (by kernel_rfl) rfl rfl rfl (by decide) hl (dset_tr hl _) ?_;clear hF hM a;intro a w hF hM
  revert a;refine Md 0 [0,1,4,5,6,7] rfl (Nx (Ex (Op' rfl (Ot (Ob (Nx (Rg (Mv 1 rfl (Sm (((i+1:Nat):Int)) rfl (by omega) (Md 1 [0,1,4,5,6,7] rfl ?_))))))))));intro a hF
  exact ⟨(i+1,D++ [c],(if seen then fr+1 else fr),seen),⟨hR2,by simp only;omega,true,_,_,_,hmq,htq,fun _=>rfl,hD,hF,by simp only;rw [hdq];exact hM⟩,by simp only;omega⟩
 ·
  have hdt:=dpC_dot8 (fd:=fd) hDI hmz
  refine Rg (Mv 2 rfl (Ix (i) c rfl hc (by omega) (Qt 46 rfl rfl h46 (Md 1 [0,1,4,5,6,7,45] rfl (Nx (Ct rfl (Sq (Sq (Rg (Md 1 [0,1,4,5,7,50] rfl (Nx (C1 rfl (fun ht=> ?_) ?_))))))))))))
  ·
   intro a hF
   rw [hs0] at ht;cases ht
  refine Sk (Nx (Sq (Rg (Md 1 [0,1,4,5,6,7] rfl (Nx (Sq (Rg (Mv 4 rfl (Gv rfl (fun _ hF=>gives_load hF hM 0 rfl Tryz.underlying3 rfl rfl rfl (dget_nd hl)) (Mv 2 rfl ?_))))))))));intro a hF
  refine op_storeD hF hM rfl rfl rfl (by kernel_rfl) rfl rfl rfl (by decide) hl (dset_dp hl _) ?_;clear hF hM a;intro a w hF hM
  revert a;refine Md 0 [0,1,4,5,6,7] rfl (Nx (Ex (Op' rfl (Ot (Ob (Nx (Rg (Mv 1 rfl (Sm (((i+1:Nat):Int)) rfl (by omega) (Md 1 [0,1,4,5,6,7] rfl ?_))))))))));intro a hF
  exact ⟨(i+1,D,0,true),⟨hR2,by simp only;omega,sg,_,_,_,hmz,htk,hsg,hD,hF,by simp only;rw [hdt];exact hM⟩,by simp only;omega⟩
 have hnd:c≠46:=by rintro rfl;exact absurd hce (by decide)
 have hk:57<c.toNat:=by rcases hce with h | h <;> rw [h] <;> decide
 refine Rg (Mv 2 rfl (Ix (i) c rfl hc (by omega) (Qf 46 rfl rfl hnd (Md 1 [0,1,4,5,6,7,45] rfl (Nx (Cf rfl (Sq (Rg (Mv 2 rfl (Ix (i) c rfl hc (by omega) (Bt rfl (by omega) (Mv 3 rfl (Ix (i) c rfl hc (by omega) (Bf rfl (by omega) (Md 2 [0,1,4,5,6,7,58] rfl (Nx (Cf rfl (Sk (Nb (Nx (Ex (Op' rfl (Ot (Ot (Ob (Kp [0,1,4,5,6,7] rfl ?_))))))))))))))))))))))))));intro a hF
 exact ⟨i,D,fr,seen,hdn,hi,sg,tr,ds,m,hmz,htk,hsg,hD,hF,hM⟩
theorem exactx_walk (z p:Int) (ng:Bool) (w0:World) (hT:Tabs w0.heap.size w0):
    Calls Tryz.prog 216 #[.int .u64 z,.int .i64 p,.bool ng] w0 (Ret fun v w'=>(∃ (f:Nat) (ok:Bool),v= .tuple #[.float .f64 f,.bool ok]∧(ok=true→p≤37))∧Below w0.heap.size w0 w'):=by
 have hM:=MS0 w0
 have h22:22<w0.heap.size:=by have:=hT.lt;omega
 have h26:26<w0.heap.size:=by have:=hT.lt;omega
 obtain ⟨bt,off,cp,hbt,hc0,hc1⟩:=hT.pow10
 refine enter (l:=[.int .u64 z,.int .i64 p,.bool ng]) 61 Tryz.func216 rfl rfl (Sq (Rg (Md 2 [0,1,2,6,7] rfl (Nx (Sq (Sq (Rg (Mv 2 rfl (Gv rfl (fun _ hF=>gives_load1 hF rfl Tryz.underlying157 rfl rfl ((hM.below.cell h22).trans hT.mant)) (Gv rfl (fun _ hF=>gives_shr (52) (_) hF rfl rfl rfl rfl rfl _) (Md 1 [0,1,2,6,7,12] rfl (Nx (C0 rfl ?_ ?_)))))))))))))
 · exact Re (Rt (Y2 rfl rfl rfl ⟨_,rfl,⟨_,_,rfl,fun h=>by first | omega | cases h⟩,hM.below⟩))
 refine Sk (Nx (Sq (Rg (Mv 1 rfl (Gv rfl (fun _ hF=>gives_convIF hF rfl Tryz.underlying54 Tryz.underlying32 rfl _) (Md 1 [1,2,6,7] rfl (Nx ?_)))))));intro a hF
 refine cut (fun a w=>∃ f:Nat,Fr 64 [(1,.int .i64 p),(6,.float .f64 f),(7,.bool false)] a∧Mem w0.heap.size w0 [] w) ?_ (fun a w h=> ?_)
 ·
  revert a;refine Sq (Rg (Md 1 [1,6,7,15] rfl (Nx (D0 rfl ?_ ?_))))
  ·
   refine Sk (Kp [1,6,7] rfl ?_);intro a hF
   exact ⟨_,hF,hM⟩
  refine Rg (Mv 1 rfl (Gv rfl (fun _ hF=>gives_fneg hF rfl rfl _) (Md 1 [1,6,7] rfl ?_)));intro a hF
  exact ⟨_,hF,hM⟩
 clear hF hM
 obtain ⟨f,hF,hM⟩:=h
 revert a;refine Sq (Bo (Sq (Rg (Md 3 [1,6,7,18] rfl (Nx (C1 rfl (fun ht=> ?_) ?_))))))
 ·
  have hp0:p=0:=by simpa using ht
  exact Sq (Rg (Md 3 [6,7] rfl (Nx (Re (Rb (Rt (Y2 rfl rfl rfl ⟨_,rfl,⟨_,_,rfl,fun h=>by first | omega | cases h⟩,hM.below⟩)))))))
 refine Sq ?_
 rcases (show ¬ 0<p∨(0<p∧ ¬ p≤37)∨(0<p∧p≤37) by omega) with hk | hk | hk
 ·
  refine Rg (Mv 1 rfl (Bf rfl (by omega) (Md 5 [1,6,7,22] rfl (Nx (Cf rfl (Sq ?_))))))
  rcases (show ¬ p<0∨(p<0∧ ¬ p≥ -22)∨(p<0∧p≥ -22) by omega) with hk | hk | hk
  · exact Rg (Mv 1 rfl (Bf rfl (by omega) (Md 5 [1,6,7,50] rfl (Nx (Cf rfl (Sk (Nb (Nx (Re (Y2 rfl rfl rfl ⟨_,rfl,⟨_,_,rfl,fun h=>by first | omega | cases h⟩,hM.below⟩))))))))))
  · exact Rg (Mv 1 rfl (Bt rfl (by omega) (Mv 2 rfl (Bf rfl (by omega) (Md 2 [1,6,7,50] rfl (Nx (Cf rfl (Sk (Nb (Nx (Re (Y2 rfl rfl rfl ⟨_,rfl,⟨_,_,rfl,fun h=>by first | omega | cases h⟩,hM.below⟩))))))))))))
  obtain ⟨j,hj⟩:∃ j:Nat, -p=(j:Int):=⟨(-p).toNat,by omega⟩
  obtain ⟨fj,hfj⟩:=hc1 j (by omega)
  refine Rg (Mv 1 rfl (Bt rfl (by omega) (Mv 2 rfl (Bt rfl (by omega) (Md 2 [1,6,7,50] rfl (Nx (Ct rfl (Sq (Rg (Mv 1 rfl (Gv rfl (fun _ hF=>gives_load1 hF rfl Tryz.underlying286 rfl rfl ((hM.below.cell h26).trans hc0)) (Mv 1 rfl (Gv rfl (fun _ hF=>gives_neg hF rfl rfl (((j:Nat):Int)) (by rw [wrap_i64 (by omega) (by omega)];omega) _) (Gv rfl (fun _ hF=>gives_indexAddrS (sz:=1) (j) hF rfl Tryz.underlying286 (by kernel_rfl) rfl rfl rfl (by omega) _) (Gv rfl (fun _ hF=>gives_load1 hF rfl Tryz.underlying32 rfl rfl (show World.cell? _ _=some (.float .f64 fj) by rw [Nat.mul_one];exact (hM.below.cell hbt).trans hfj)) ?_)))))))))))))));intro a hF
  refine op_farith (.inr rfl) hF hM rfl rfl rfl rfl rfl rfl ?_;clear hF hM a;intro a w f63 hF hM
  revert a;exact Md 2 [6,7] rfl (Nx (Re (Rb (Rt (Y2 rfl rfl rfl ⟨_,rfl,⟨_,_,rfl,fun h=>by first | omega | cases h⟩,hM.below⟩)))))
 ·
  refine Rg (Mv 1 rfl (Bt rfl (by omega) (Mv 2 rfl (Bf rfl (by omega) (Md 2 [1,6,7,22] rfl (Nx (Cf rfl (Sq ?_))))))))
  rcases (show ¬ p<0∨(p<0∧ ¬ p≥ -22)∨(p<0∧p≥ -22) by omega) with hk | hk | hk
  · exact Rg (Mv 1 rfl (Bf rfl (by omega) (Md 5 [1,6,7,50] rfl (Nx (Cf rfl (Sk (Nb (Nx (Re (Y2 rfl rfl rfl ⟨_,rfl,⟨_,_,rfl,fun h=>by first | omega | cases h⟩,hM.below⟩))))))))))
  · exact Rg (Mv 1 rfl (Bt rfl (by omega) (Mv 2 rfl (Bf rfl (by omega) (Md 2 [1,6,7,50] rfl (Nx (Cf rfl (Sk (Nb (Nx (Re (Y2 rfl rfl rfl ⟨_,rfl,⟨_,_,rfl,fun h=>by first | omega | cases h⟩,hM.below⟩))))))))))))
  obtain ⟨j,hj⟩:∃ j:Nat, -p=(j:Int):=⟨(-p).toNat,by omega⟩
  obtain ⟨fj,hfj⟩:=hc1 j (by omega)
  refine Rg (Mv 1 rfl (Bt rfl (by omega) (Mv 2 rfl (Bt rfl (by omega) (Md 2 [1,6,7,50] rfl (Nx (Ct rfl (Sq (Rg (Mv 1 rfl (Gv rfl (fun _ hF=>gives_load1 hF rfl Tryz.underlying286 rfl rfl ((hM.below.cell h26).trans hc0)) (Mv 1 rfl (Gv rfl (fun _ hF=>gives_neg hF rfl rfl (((j:Nat):Int)) (by rw [wrap_i64 (by omega) (by omega)];omega) _) (Gv rfl (fun _ hF=>gives_indexAddrS (sz:=1) (j) hF rfl Tryz.underlying286 (by kernel_rfl) rfl rfl rfl (by omega) _) (Gv rfl (fun _ hF=>gives_load1 hF rfl Tryz.underlying32 rfl rfl (show World.cell? _ _=some (.float .f64 fj) by rw [Nat.mul_one];exact (hM.below.cell hbt).trans hfj)) ?_)))))))))))))));intro a hF
  refine op_farith (.inr rfl) hF hM rfl rfl rfl rfl rfl rfl ?_;clear hF hM a;intro a w f63 hF hM
  revert a;exact Md 2 [6,7] rfl (Nx (Re (Rb (Rt (Y2 rfl rfl rfl ⟨_,rfl,⟨_,_,rfl,fun h=>by first | omega | cases h⟩,hM.below⟩)))))
 refine Rg (Mv 1 rfl (Bt rfl (by omega) (Mv 2 rfl (Bt rfl (by omega) (Md 2 [1,6,7,22] rfl (Nx (Ct rfl ?_)))))));intro a hF
 refine cut (fun a w=>∃ (f j:Nat),Fr 64 [(1,.int .i64 (j:Int)),(6,.float .f64 f),(7,.bool false)] a∧Mem w0.heap.size w0 [] w∧j≤22) ?_ (fun a w h=> ?_)
 ·
  revert a;refine Sq (Rg (Md 2 [1,6,7,30] rfl (Nx (Ce rfl (fun ht=> ?_) ((fun ht=> ?_))))))
  ·
   have h22p: ¬ 22<p:=of_decide_eq_false ht
   obtain ⟨j2,hj2⟩:∃ j:Nat,p=(j:Int):=⟨p.toNat,by omega⟩
   refine Sk (Kp [1,6,7] rfl ?_);intro a hF
   exact ⟨_,j2,by rw [←hj2];exact hF,hM,by omega⟩
  have h22p:22<p:=of_decide_eq_true ht
  obtain ⟨j,hj⟩:∃ j:Nat,p - 22=(j:Int):=⟨(p - 22).toNat,by omega⟩
  obtain ⟨fj,hfj⟩:=hc1 j (by omega)
  refine Sq (Rg (Mv 1 rfl (Gv rfl (fun _ hF=>gives_load1 hF rfl Tryz.underlying286 rfl rfl ((hM.below.cell h26).trans hc0)) (Mv 1 rfl (Sm (((j:Nat):Int)) rfl (by omega) (Gv rfl (fun _ hF=>gives_indexAddrS (sz:=1) (j) hF rfl Tryz.underlying286 (by kernel_rfl) rfl rfl rfl (by omega) _) (Gv rfl (fun _ hF=>gives_load1 hF rfl Tryz.underlying32 rfl rfl (show World.cell? _ _=some (.float .f64 fj) by rw [Nat.mul_one];exact (hM.below.cell hbt).trans hfj)) ?_)))))));intro a hF
  refine op_farith (.inl rfl) hF hM rfl rfl rfl rfl rfl rfl ?_;clear hF hM a;intro a w f37 hF hM
  revert a;refine Md 1 [6,7] rfl (Nx (Rg (Md 1 [1,6,7] rfl ?_)));intro a hF
  exact ⟨_,22,hF,hM,by omega⟩
 clear hF hM
 obtain ⟨f2,j,hF,hM,hj22⟩:=h
 obtain ⟨fj,hfj⟩:=hc1 j (by omega)
 revert a;refine Sq (Sq ?_)
 rcases Bool.eq_false_or_eq_true (FloatKind.f64.format.order f2 4831355200913801216==some .gt) with hb | hb
 ·
  refine Rg (Mv 1 rfl (Gv rfl (fun _ hF=>gives_fcmp hF rfl rfl rfl rfl _) ?_));intro a hF
  rw [hb] at hF
  revert a;refine Md 4 [1,6,7,43] rfl (Nx (C0 rfl ?_ ?_))
  · exact Re (Rt (Rb (Rt (Y2 rfl rfl rfl ⟨_,rfl,⟨_,_,rfl,fun h=>by first | omega | cases h⟩,hM.below⟩))))
  refine Sk (Nx (Sq (Rg (Mv 1 rfl (Gv rfl (fun _ hF=>gives_load1 hF rfl Tryz.underlying286 rfl rfl ((hM.below.cell h26).trans hc0)) (Mv 1 rfl (Gv rfl (fun _ hF=>gives_indexAddrS (sz:=1) (j) hF rfl Tryz.underlying286 (by kernel_rfl) rfl rfl rfl (by omega) _) (Gv rfl (fun _ hF=>gives_load1 hF rfl Tryz.underlying32 rfl rfl (show World.cell? _ _=some (.float .f64 fj) by rw [Nat.mul_one];exact (hM.below.cell hbt).trans hfj)) ?_))))))));intro a hF
  refine op_farith (.inl rfl) hF hM rfl rfl rfl rfl rfl rfl ?_;clear hF hM a;intro a w f49 hF hM
  revert a;exact Md 2 [6,7] rfl (Nx (Re (Rb (Rt (Y2 rfl rfl rfl ⟨_,rfl,⟨_,_,rfl,fun h=>by first | omega | cases h⟩,hM.below⟩)))))
 refine Rg (Mv 1 rfl (Gv rfl (fun _ hF=>gives_fcmp hF rfl rfl rfl rfl _) ?_));intro a hF
 rw [hb] at hF
 revert a;refine Mv 2 rfl (Gv rfl (fun _ hF=>gives_fcmp hF rfl rfl rfl rfl _) (Md 1 [1,6,7,43] rfl (Nx (C0 rfl ?_ ?_))))
 · exact Re (Rt (Rb (Rt (Y2 rfl rfl rfl ⟨_,rfl,⟨_,_,rfl,fun h=>by first | omega | cases h⟩,hM.below⟩))))
 refine Sk (Nx (Sq (Rg (Mv 1 rfl (Gv rfl (fun _ hF=>gives_load1 hF rfl Tryz.underlying286 rfl rfl ((hM.below.cell h26).trans hc0)) (Mv 1 rfl (Gv rfl (fun _ hF=>gives_indexAddrS (sz:=1) (j) hF rfl Tryz.underlying286 (by kernel_rfl) rfl rfl rfl (by omega) _) (Gv rfl (fun _ hF=>gives_load1 hF rfl Tryz.underlying32 rfl rfl (show World.cell? _ _=some (.float .f64 fj) by rw [Nat.mul_one];exact (hM.below.cell hbt).trans hfj)) ?_))))))));intro a hF
 refine op_farith (.inl rfl) hF hM rfl rfl rfl rfl rfl rfl ?_;clear hF hM a;intro a w f49 hF hM
 revert a;exact Md 2 [6,7] rfl (Nx (Re (Rb (Rt (Y2 rfl rfl rfl ⟨_,rfl,⟨_,_,rfl,fun h=>by first | omega | cases h⟩,hM.below⟩)))))
theorem commonPrefix0_walk {s p:Str}{c d:UInt8}(hc:s[0]?=some c) (hcd:isDig c=true) (hd:p[0]?=some d) (hdd:isDig d=false) (hs:s.length≤2^41) (w0:World):
    Calls Tryz.prog 241 #[.string (mkS s),.string (mkS p)] w0 (Ret fun v w'=>v= .int .i64 0∧Below w0.heap.size w0 w'):=by
 have hM:=MS0 w0
 obtain ⟨m,hm⟩:∃ m,m=min s.length p.length:=⟨_,rfl⟩
 have hm1:1≤m:=by have:=(List.getElem?_eq_some_iff.1 hc).1;have:=(List.getElem?_eq_some_iff.1 hd).1;omega
 have hk:=dig_rng hcd
 refine enter (l:=[.string (mkS s),.string (mkS p)]) 34 Tryz.func241 rfl rfl (Sq (Rg (Md 1 [0,1] rfl (Nx (Sq (Rg (Mv 4 rfl ?_)))))));intro a hF
 refine op_min hF rfl ((m:Int)) rfl rfl rfl rfl rfl (by split <;> omega) ?_;clear hF a;intro a hF
 revert a;refine Md 1 [0,1,5] rfl (Nx (Sq (Sq (Rg (Md 1 [0,1,5,6] rfl (Nx (Bo (Kp [0,1,5,6] rfl ?_))))))));intro a hF
 refine loopX (fun (_:Unit) a w=>Fr 36 [(0,.string (mkS s)),(1,.string (mkS p)),(5,.int .i64 (m:Int)),(6,.int .i64 ((0:Nat):Int))] a∧Mem w0.heap.size w0 [] w) (fun _=>0) (()) ?_ (fun i a w hI=> ?_)
 · exact ⟨hF,hM⟩
 clear hF hM
 obtain ⟨hF,hM⟩:=hI
 revert a;refine Sq (Sq (Rg (Md 3 [0,1,5,6,15] rfl (Nx (D2 rfl (fun ht=>absurd (of_decide_eq_false ht) (by omega)) (Sk (Nx (Sq (Bo (Sq (Rg (Mv 2 rfl (Ix (0) c rfl hc (by omega) (Md 1 [0,1,5,6,7] rfl (Nx (Sq (Sq ?_)))))))))))))))))
 skip
 refine Rg (Mv 1 rfl (Bf rfl (by omega) (Md 4 [0,1,5,6,7,26] rfl (Nx (Cf rfl (Sk (Nx (Sq (Rg (Mv 3 rfl (Ix (0) d rfl hd (by omega) (Md 1 [0,1,5,6,33] rfl (Nx (D2 rfl (fun ht=> ?_) ?_))))))))))))))
 ·
  intro a hF
  exfalso;have h1:(c.toNat:Int)=d.toNat:=(by simpa using ht);have h2:c=d:=UInt8.toNat_inj.1 (by omega);rw [h2,hdd] at hcd;cases hcd
 exact Sq (Rg (Md 2 [4] rfl (Nx (Re (Rb (Rt (Rt (Rb (Rt (Y1 rfl rfl ⟨_,rfl,rfl,hM.below⟩))))))))))
theorem special0_walk {s:Str}{neg:Bool}{I fd E:Str}{k:Int}(hf:NumForm s neg I fd E k) (hs:s.length≤2^40) (w0:World):
    Calls Tryz.prog 205 #[.string (mkS s)] w0 (Ret fun v w'=>v= .tuple #[.float .f64 0,.int .i64 0,.bool false]∧Below w0.heap.size w0 w'):=by
 have hM:=MS0 w0
 have hI0:0<I.length:=List.length_pos_iff.2 hf.int0
 have hlp:0<s.length:=by rw [hf.text];cases neg <;> simp <;> omega
 obtain ⟨c,hc⟩:∃ c,s[0]?=some c:=⟨_,List.getElem?_eq_getElem hlp⟩
 have hhd:=numForm_head hf hc
 have hnx:neg=true→∃ d,(s.drop 1)[0]?=some d∧isDig d=true:=by
   intro hn
   obtain ⟨d,hd⟩:∃ d,I[0]?=some d:=⟨_,List.getElem?_eq_getElem hI0⟩
   refine ⟨d,?_,hf.int d (List.mem_of_getElem? hd)⟩
   rw [hf.text,hn]
   show (I++(pt fd++E))[0]?=some d
   rw [List.getElem?_append_left hI0];exact hd
 refine enter (l:=[.string (mkS s)]) 49 Tryz.func205 rfl rfl (Sq (Rg (Md 3 [0] rfl (Nx (Sq (Sq (Rg (Md 3 [0,10] rfl (Nx (C1 rfl (fun ht=>absurd (show (s.length:Int)=0 by simpa using ht) (by omega)) (Sk (Nx (Sq (Rg (Md 1 [0,5] rfl (Nx (Sq (Rg (Md 1 [0,5,6] rfl (Nx (Sq (Sq (Rg (Mv 1 rfl (Ix (0) c rfl hc (by omega) (Md 0 [0,5,6,12] rfl (Nx (Bo (Sq (Bo (Sq (Bo (Sq (Bo (Sq (Sq (Sq (Sq ?_))))))))))))))))))))))))))))))))))))))
 rcases hhd with ⟨hn,h45⟩ | ⟨hn,hcd⟩
 ·
  obtain ⟨d,hd,hdd⟩:=hnx hn
  refine Rg (Qf 43 rfl rfl (by rw [h45];decide) (Md 1 [0,5,6,12,13] rfl (Nx (Cf rfl (Rg (Qt 45 rfl rfl h45 (Md 1 [0,5,6,12,13] rfl (Nx (Ct rfl (Ex (Ot (Ot (Ob (Nx (Sq (Sq (Rg (Mv 1 rfl (Ix (0) c rfl hc (by omega) (Qt 45 rfl rfl h45 (Md 0 [0,5,24] rfl (Nx (Ct rfl (Rg (Md 1 [0,5] rfl (Nx (Sq (Rg (Md 1 [0,5,6] rfl (Nx (Rg (Mv 1 rfl ?_))))))))))))))))))))))))))))))));intro a hF
  refine op_sliceFrom_str hF rfl 1 rfl rfl rfl Tryz.underlying9 rfl rfl rfl (by omega) ?_;clear hF a;intro a hF
  revert a;refine Md 1 [0,5,6] rfl (Nb (Nx (Sq (Sq (Rg (Mv 1 rfl (Cm hM rfl rfl rfl (commonPrefix0_walk (p:=[105,110,102,105,110,105,116,121]) hd hdd (d:=105) rfl rfl (by simp;omega) _) ?_)))))))
  clear hM;intro w v hR hM hBe
  obtain rfl:=hR
  refine Md 1 [5,6,7] rfl (Nx (Sq (Sq ?_)))
  skip
  refine Rg (Mv 1 rfl (Bf rfl (by omega) (Md 4 [5,6,7,34] rfl (Nx (Cf rfl (Sk (Nx (Sq ?_))))))))
  skip
  exact Rg (Mv 1 rfl (Bv rfl rfl (show ((0:Int)==3)=false from rfl) (Mv 2 rfl (Bv rfl rfl (show ((0:Int)==8)=false from rfl) (Md 1 [5,6,7,40] rfl (Nx (Cf rfl (Sk (Nx (Ex (Op' rfl (Ot (Ob (Nx (Sq (Rg (Md 3 [2,3,4] rfl (Nx (Re (Y3 rfl rfl rfl rfl ⟨_,rfl,rfl,hM.below⟩))))))))))))))))))))
 exact Rg (Qf 43 rfl rfl (by rintro rfl;exact absurd hcd (by decide)) (Md 1 [0,5,6,12,13] rfl (Nx (Cf rfl (Rg (Qf 45 rfl rfl (by rintro rfl;exact absurd hcd (by decide)) (Md 1 [0,5,6,12,13] rfl (Nx (Cf rfl (Sk (Nx (Sq (Sq (Sq (Rg (Qf 105 rfl rfl (by rintro rfl;exact absurd hcd (by decide)) (Md 1 [0,5,6,12,16] rfl (Nx (Cf rfl (Rg (Qf 73 rfl rfl (by rintro rfl;exact absurd hcd (by decide)) (Md 1 [0,5,6,12,16] rfl (Nx (Cf rfl (Sk (Nx (Sq (Sq (Rg (Qf 110 rfl rfl (by rintro rfl;exact absurd hcd (by decide)) (Md 1 [0,12,19] rfl (Nx (Cf rfl (Rg (Qf 78 rfl rfl (by rintro rfl;exact absurd hcd (by decide)) (Md 1 [0,19] rfl (Nx (Cf rfl (Sk (Nx (Ex (Op' rfl (Ot (Op' rfl (Ot (Op' rfl (Ot (Ob (Nx (Sq (Rg (Md 3 [2,3,4] rfl (Nx (Re (Y3 rfl rfl rfl rfl ⟨_,rfl,rfl,hM.below⟩)))))))))))))))))))))))))))))))))))))))))))))))))))))))
theorem trimD_walk {B:Nat}{wc:World}{L:List Bk}{b:Nat}{ds:Str}{dp:Int}{neg tr:Bool}(hl:ds.length=800) {m:Nat}(hm:m≤800) {w0:World}(hM0:Mem B wc ((b,240,decL ds m dp neg tr)::L) w0):
    Calls Tryz.prog 235 #[.pointer (some ⟨b,0,none⟩)] w0 (Ret fun v w'=>v= .tuple #[]∧∃ m':Nat,m'≤m∧(∀ j,m'≤j→j<m→ds[j]?=some 48)∧(m'=0∨∃ c,ds[m' - 1]?=some c∧c≠48)∧Mem B wc ((b,240,decL ds (m':Int) (if m'=0 then 0 else dp) neg tr)::L) w'):=by
 have hM:=hM0
 refine enter (l:=[.pointer (some ⟨b,0,none⟩)]) 34 Tryz.func235 rfl rfl ?_;intro a hF
 refine cutF (fun a w=>∃ (m':Nat),Fr 35 [(0,.pointer (some ⟨b,0,none⟩))] a∧Mem B wc ((b,240,decL ds m' dp neg tr)::L) w∧m'≤m∧(∀ j,m'≤j→j<m→ds[j]?=some 48)∧(m'=0∨∃ c,ds[m' - 1]?=some c∧c≠48)) (fun a w h=> ?_) ?_
 ·
  clear hF hM
  obtain ⟨m',hF,hM,hle,hz,hend⟩:=h
  revert a;refine Sq (Rg (Mv 3 rfl (Gv rfl (fun _ hF=>gives_load hF hM 0 rfl Tryz.underlying3 rfl rfl rfl (dget_nd hl)) (Md 1 [0,31] rfl (Nx (Ce rfl (fun ht=> ?_) ((fun ht=> ?_))))))))
  ·
   have h0: ¬ m'=0:=by simpa using ht
   refine Sk ?_
   have hfin:Mem B wc ((b,240,decL ds (m':Int) (if m'=0 then 0 else dp) neg tr)::L) w:=by first | (rw [if_pos h0];exact hM) | (rw [if_neg h0];exact hM)
   exact Z0 rfl ⟨_,rfl,rfl,m',hle,hz,hend,hfin⟩
  have h0:m'=0:=by simpa using ht
  refine Rg (Mv 3 rfl ?_);intro a hF
  refine op_storeD hF hM rfl rfl rfl (by kernel_rfl) rfl rfl rfl (by decide) hl (dset_dp hl _) ?_;clear hF hM a;intro a w hF hM
  revert a;refine Md 0 [] rfl ?_
  have hfin:Mem B wc ((b,240,decL ds (m':Int) (if m'=0 then 0 else dp) neg tr)::L) w:=by first | (rw [if_pos h0];exact hM) | (rw [if_neg h0];exact hM)
  exact Z0 rfl ⟨_,rfl,rfl,m',hle,hz,hend,hfin⟩
 revert a;refine Bo (Kp [0] rfl ?_);intro a hF
 refine loopX (fun (m':Nat) a w=>Fr 35 [(0,.pointer (some ⟨b,0,none⟩))] a∧Mem B wc ((b,240,decL ds m' dp neg tr)::L) w∧m'≤m∧(∀ j,m'≤j→j<m→ds[j]?=some 48)) (fun m'=>m') (m) ?_ (fun m' a w hI=> ?_)
 · exact ⟨hF,hM,Nat.le_refl _,fun j h1 h2=>by omega⟩
 clear hF hM
 obtain ⟨hF,hM,hle,hz⟩:=hI
 revert a;refine Sq (Sq ?_)
 rcases (show m'=0∨(0<m'∧ds[m' - 1]?=some 48)∨(0<m'∧∃ c,ds[m' - 1]?=some c∧c≠48) from (Nat.eq_zero_or_pos m').imp id (fun h=>by have hg:ds[m' - 1]?=some (ds[m' - 1]'(by omega)):=List.getElem?_eq_getElem (by omega);by_cases h4:ds[m' - 1]'(by omega)=48;exact .inl ⟨h,by rw [hg,h4]⟩;exact .inr ⟨h,_,hg,h4⟩)) with h0 | ⟨h0,hc48⟩ | ⟨h0,c,hc,hne⟩
 ·
  refine Sl (by kernel_rfl) (by kernel_rfl) ?_
  replace hM:=hM.drew
  skip
  refine Ms 3 rfl (Gs rfl (fun _ hF=>gives_load hF hM 0 rfl Tryz.underlying3 rfl rfl rfl (dget_nd hl)) (Uf rfl (by omega) (Ms 13 rfl (Sd (Kp [0,19] rfl (Nx (Cf rfl (Ex (Ot (Ot (Ob (Kp [0] rfl ?_))))))))))));intro a hF
  exact ⟨m',hF,hM,hle,hz,by first | exact .inl h0 | exact .inr ⟨c,hc,hne⟩⟩
 ·
  have hc:=hc48
  refine Sl (by kernel_rfl) (by kernel_rfl) ?_
  replace hM:=hM.drew
  skip
  refine Ms 3 rfl (Gs rfl (fun _ hF=>gives_load hF hM 0 rfl Tryz.underlying3 rfl rfl rfl (dget_nd hl)) (Ut rfl (by omega) (Ms 5 rfl (Gs rfl (fun _ hF=>gives_load hF hM 0 rfl Tryz.underlying3 rfl rfl rfl (dget_nd hl)) (Ss (((m' - 1:Nat):Int)) rfl (by omega) (Ms 2 rfl (Gs rfl (fun _ hF=>gives_indexAddrD (m' - 1) hF rfl rfl rfl rfl (by omega) _) (Gs rfl (fun _ hF=>gives_load hF hM 0 rfl Tryz.underlying5 rfl rfl rfl (dget_dig (hc))) (Bs rfl rfl (show (((48:UInt8).toNat:Int)==48)=true from rfl) (Ms 1 rfl (Sd (Kp [0,19] rfl (Nx (Ct rfl (Sk (Nx (Bo (Rg (Mv 3 rfl (Gv rfl (fun _ hF=>gives_load hF hM 0 rfl Tryz.underlying3 rfl rfl rfl (dget_nd hl)) (Sm (((m' - 1:Nat):Int)) rfl (by omega) (Mv 2 rfl ?_))))))))))))))))))))));intro a hF
  refine op_storeD hF hM rfl rfl rfl (by kernel_rfl) rfl rfl rfl (by decide) hl (dset_nd hl _) ?_;clear hF hM a;intro a w hF hM
  revert a;refine Md 0 [0] rfl (Nb (Kp [0] rfl ?_));intro a hF
  exact ⟨m' - 1,⟨hF,hM,by omega,fun j h1 h2=>by rcases Nat.lt_or_ge j m' with h | h;rw [show j=m' - 1 by omega];exact hc48;exact hz j h h2⟩,by omega⟩
 refine Sl (by kernel_rfl) (by kernel_rfl) ?_
 replace hM:=hM.drew
 skip
 refine Ms 3 rfl (Gs rfl (fun _ hF=>gives_load hF hM 0 rfl Tryz.underlying3 rfl rfl rfl (dget_nd hl)) (Ut rfl (by omega) (Ms 5 rfl (Gs rfl (fun _ hF=>gives_load hF hM 0 rfl Tryz.underlying3 rfl rfl rfl (dget_nd hl)) (Ss (((m' - 1:Nat):Int)) rfl (by omega) (Ms 2 rfl (Gs rfl (fun _ hF=>gives_indexAddrD (m' - 1) hF rfl rfl rfl rfl (by omega) _) (Gs rfl (fun _ hF=>gives_load hF hM 0 rfl Tryz.underlying5 rfl rfl rfl (dget_dig (hc))) (Vf 48 rfl rfl hne (Ms 1 rfl (Sd (Kp [0,19] rfl (Nx (Cf rfl (Ex (Ot (Ot (Ob (Kp [0] rfl ?_)))))))))))))))))));intro a hF
 exact ⟨m',hF,hM,hle,hz,by first | exact .inl h0 | exact .inr ⟨c,hc,hne⟩⟩
theorem prefix_walk {B:Nat}{wc:World}{L:List Bk}{b:Nat}{ds:Str}{dp:Int}{neg tr:Bool}(hl:ds.length=800) {nd:Int}{m:Nat}(hm:m≤800) (s:Str) {w0:World}(hM0:Mem B wc ((b,240,decL ds nd dp neg tr)::L) w0):
    Calls Tryz.prog 251 #[.slice (some ⟨b,0,none⟩) m 800,.string (mkS s)] w0 (Ret fun v w'=>v= .bool (pless (ds.take m) s)∧Mem B wc ((b,240,decL ds nd dp neg tr)::L) w'):=by
 have hM:=hM0
 have htl:(ds.take m).length=m:=by rw [List.length_take,hl];omega
 refine enter (l:=[.slice (some ⟨b,0,none⟩) m 800,.string (mkS s)]) 30 Tryz.func251 rfl rfl (Sq (Rg (Md 1 [0,1] rfl (Nx (Sq (Sq (Rg (Md 1 [0,1,5] rfl (Nx (Bo (Kp [0,1,5] rfl ?_)))))))))));intro a hF
 refine loopX (fun (i:Nat) a w=>Fr 32 [(0,.slice (some ⟨b,0,none⟩) m 800),(1,.string (mkS s)),(5,.int .i64 (i:Int))] a∧Mem B wc ((b,240,decL ds nd dp neg tr)::L) w∧i≤s.length∧pless (ds.take m) s=pless ((ds.take m).drop i) (s.drop i)) (fun i=>s.length - i) (0) ?_ (fun i a w hI=> ?_)
 · exact ⟨hF,hM,Nat.zero_le _,rfl⟩
 clear hF hM
 obtain ⟨hF,hM,hle,hp⟩:=hI
 revert a;refine Sq (Sq (Rg (Md 4 [0,1,5,9] rfl (Nx (Ce rfl (fun ht=> ?_) ((fun ht=> ?_)))))))
 ·
  have hge:s.length≤i:=by have:=of_decide_eq_false ht;omega
  have hres:false=pless (ds.take m) s:=by rw [hp,pless_end hge]
  exact Ex (Ot (Ot (Ob (Nx (Sq (Rg (Md 1 [4] rfl (Nx (Re (Y1 rfl rfl ⟨_,rfl,congrArg Value.bool hres,hM⟩))))))))))
 have hlt:i<s.length:=by have:=of_decide_eq_true ht;omega
 obtain ⟨d,hd⟩:∃ d,s[i]?=some d:=⟨_,List.getElem?_eq_getElem hlt⟩
 refine Sk (Nx (Sq (Bo (Sq (Sq (Rg (Md 4 [0,1,5,15] rfl (Nx (Cd rfl (fun ht=> ?_) ((fun ht=> ?_)))))))))))
 ·
  have him:m≤i:=by have:=of_decide_eq_true ht;omega
  have hres:true=pless (ds.take m) s:=by rw [hp,pless_short (by omega) hd]
  exact Sq (Rg (Md 1 [4] rfl (Nx (Re (Rt (Rb (Rt (Rt (Rb (Rt (Y1 rfl rfl ⟨_,rfl,congrArg Value.bool hres,hM⟩)))))))))))
 have him:i<m:=by have:=of_decide_eq_false ht;omega
 obtain ⟨c,hc⟩:∃ c,ds[i]?=some c:=⟨_,List.getElem?_eq_getElem (by omega)⟩
 have hct:(ds.take m)[i]?=some c:=by rw [List.getElem?_take,if_pos him];exact hc
 have hst:=pless_step hct hd
 refine Sk (Nx (Sq (Sl (by kernel_rfl) (by kernel_rfl) ?_)))
 replace hM:=hM.drew
 skip
 refine Ms 2 rfl (Gs rfl (fun _ hF=>gives_indexAddr0 i hF rfl Tryz.underlying66 (by kernel_rfl) rfl rfl rfl him _) (Gs rfl (fun _ hF=>gives_load hF hM 0 rfl Tryz.underlying5 rfl rfl rfl (dget_dig (hc))) (Ms 2 rfl (Is (i) d rfl hd (by omega) (Ms 1 rfl (Sd (Kp [0,1,5,23] rfl (Nx (Ce rfl (fun ht=> ?_) ((fun ht=> ?_)))))))))))
 ·
  have heq:c=d:=ne_f (d:=d) rfl ht
  refine Sk (Nb (Nx (Rg (Mv 1 rfl (Sm (((i+1:Nat):Int)) rfl (by omega) (Md 1 [0,1,5] rfl ?_))))));intro a hF
  exact ⟨i+1,⟨hF,hM,by omega,by rw [hp,hst,if_pos heq]⟩,by omega⟩
 have hne: ¬ c=d:=ne_t (d:=d) rfl ht
 have hres:decide ((c.toNat:Int)<(d.toNat:Int))=pless (ds.take m) s:=by rw [hp,hst,if_neg hne];simp
 refine Sq (Sl (by kernel_rfl) (by kernel_rfl) ?_)
 replace hM:=hM.drew
 skip
 exact Ms 2 rfl (Gs rfl (fun _ hF=>gives_indexAddr0 i hF rfl Tryz.underlying66 (by kernel_rfl) rfl rfl rfl him _) (Gs rfl (fun _ hF=>gives_load hF hM 0 rfl Tryz.underlying5 rfl rfl rfl (dget_dig (hc))) (Ms 2 rfl (Is (i) d rfl hd (by omega) (Ms 2 rfl (Sd (Kp [4] rfl (Nx (Re (Rb (Rt (Rt (Rb (Rt (Y1 rfl rfl ⟨_,rfl,congrArg Value.bool hres,hM⟩)))))))))))))))

end Go.Sx