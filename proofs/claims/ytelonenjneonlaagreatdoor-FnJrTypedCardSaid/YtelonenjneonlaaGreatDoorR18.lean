/- Part 18 of the proof of FnJrTyped: the statement Rows.FnJrTypedCardSaid; no further condition. -/
import Derived.Test.YtelonenjneonlaaGreatDoorR17
set_option linter.all false
set_option exponentiation.threshold 3000
set_option maxRecDepth 100000
namespace Go.Sx
open Go.RowKit Go.Proofs Js Go.Proofs.YtelonenjneonlaaGreatDoorW.PrintWords
theorem leftShift_walk {B:Nat}{wc:World}{L:List Bk}{b:Nat}{ds:Str}{dp:Int}{neg tr:Bool}(hG:Tabs B wc) {m k:Nat}(hD:Dec ds m) (h0:0<m) (h1:1≤k) (h2:k≤60) (hdp: -2^40≤dp∧dp≤2^40) {w0:World}(hM0:Mem B wc ((b,240,decL ds m dp neg tr)::L) w0):
    Calls Tryz.prog 236 #[.pointer (some ⟨b,0,none⟩),.int .u64 (k:Int)] w0 (Ret fun v w'=>v= .tuple #[]∧∃ (ds' out:Str) (m':Nat) (tr':Bool),Dec ds' m'∧0<m'∧Digs out∧out.length=m+ldel (ds.take m) k∧worth out=worth (ds.take m)*2^k∧
      ds'.take (min 800 out.length)=out.take (min 800 out.length)∧ds'[0]?=out.head?∧m'≤min 800 (m+ldel (ds.take m) k)∧(∀ j,m'≤j→j<min 800 (m+ldel (ds.take m) k)→ds'[j]?=some 48)∧Mem B wc ((b,240,decL ds' m' (dp+(ldel (ds.take m) k:Nat)) neg tr')::L) w'):=by
 have hM:=hM0
 have hl:=hD.len
 have hm:=hD.le
 have htl:=hD.tlen
 obtain ⟨hlo,hhi⟩:=left_range hD h0 h1 h2
 have hdl:=(tab_row h1 h2).le
 have hdl1:=(tab_row h1 h2).pos
 obtain ⟨bt,off,cp,hbt,hc0,hc1⟩:=hG.cheats
 have h28:28<B:=by have:=hG.lt;omega
 have hp60:2^k≤2^60:=Nat.pow_le_pow_right (by decide) h2
 refine enter (l:=[.pointer (some ⟨b,0,none⟩),.int .u64 (k:Int)]) 135 Tryz.func236 rfl rfl (Sq (Rg (Gv rfl (fun _ hF=>gives_load1 hF rfl Tryz.underlying298 rfl rfl ((hM.below.cell h28).trans hc0)) (Mv 1 rfl (Gv rfl (fun _ hF=>gives_indexAddrS (sz:=2) (k) hF rfl Tryz.underlying298 (by kernel_rfl) rfl rfl rfl (by omega) _) (Mv 1 rfl (Gv rfl (fun _ hF=>gives_load1 hF rfl Tryz.underlying3 rfl rfl ((hM.below.cell hbt).trans (hc1 k (by omega)).1)) (Md 1 [0,1,4] rfl (Nx ?_)))))))));intro a hF
 refine cut (fun a w=>Fr 137 [(0,.pointer (some ⟨b,0,none⟩)),(1,.int .u64 (k:Int)),(4,.int .i64 ((ldel (ds.take m) k:Nat):Int))] a∧Mem B wc ((b,240,decL ds m dp neg tr)::L) w) ?_ (fun a w h=> ?_)
 ·
  revert a;refine Sq (Su 13 (by kernel_rfl) (by kernel_rfl) ?_)
  replace hM:=hM.drew
  skip
  refine Ms 6 rfl (Gs rfl (fun _ hF=>gives_load hF hM 0 rfl Tryz.underlying3 rfl rfl rfl (dget_nd hl)) (Gs rfl (fun _ hF=>gives_sliceA m hF rfl Tryz.underlying238 (by kernel_rfl) rfl rfl rfl rfl rfl hm _) (Gs rfl (fun _ hF=>gives_load1 hF rfl Tryz.underlying298 rfl rfl ((hM.below.cell h28).trans hc0)) (Ms 1 rfl (Gs rfl (fun _ hF=>gives_indexAddrS (sz:=2) (k) hF rfl Tryz.underlying298 (by kernel_rfl) rfl rfl rfl (by omega) _) (Ms 1 rfl (Gs rfl (fun _ hF=>gives_load1 hF rfl Tryz.underlying9 rfl rfl ((hM.below.cell hbt).trans (hc1 k (by omega)).2)) (Sd ?_))))))));intro a hF
  simp only [List.drop_succ_cons,List.drop_zero]
  revert a;refine Cl rfl rfl rfl (prefix_walk hl hm (five k) hM) ?_
  clear hM;intro w v hR
  obtain ⟨rfl,hM⟩:=hR
  refine Md 0 [0,1,4,30] rfl (Nx (Ce rfl (fun ht=> ?_) ((fun ht=> ?_))))
  ·
   have hdel:ldel (ds.take m) k=deltas.getD k 0:=by unfold ldel;rw [ht];rfl
   refine Sk (Kp [0,1,4] rfl ?_);intro a hF
   exact ⟨by rw [hdel];exact hF,hM⟩
  have hdel:ldel (ds.take m) k=deltas.getD k 0 - 1:=by unfold ldel;rw [ht];rfl
  refine Rg (Mv 1 rfl (Sm (((deltas.getD k 0 - 1:Nat):Int)) rfl (by omega) (Md 1 [0,1,4] rfl ?_)));intro a hF
  exact ⟨by rw [hdel];exact hF,hM⟩
 clear hF hM
 obtain ⟨hF,hM⟩:=h
 have hδ19:ldel (ds.take m) k≤19:=by unfold ldel;split <;> omega
 generalize hδ:ldel (ds.take m) k=δ at*
 revert a;refine Sq (Rg (Mv 3 rfl (Gv rfl (fun _ hF=>gives_load hF hM 0 rfl Tryz.underlying3 rfl rfl rfl (dget_nd hl)) (Md 1 [0,1,4,5] rfl (Nx (Sq (Rg (Mv 3 rfl (Gv rfl (fun _ hF=>gives_load hF hM 0 rfl Tryz.underlying3 rfl rfl rfl (dget_nd hl)) (Mv 1 rfl (Sm (((m+δ:Nat):Int)) rfl (by omega) (Md 1 [0,1,4,5,6] rfl (Nx (Sq (Rg (Md 1 [0,1,4,5,6,7] rfl (Nx (Sq (Sq (Rg (Mv 1 rfl (Sm ((m:Int) - 1) rfl (by omega) (Md 1 [0,1,4,5,6,7] rfl (Nx (Bo (Kp [0,1,4,5,6,7] rfl ?_))))))))))))))))))))))))));intro a hF
 refine loopX (fun (x:Nat×Nat×Str) a w=>∃ (arr:Str) (tr':Bool),Fr 137 [(0,.pointer (some ⟨b,0,none⟩)),(1,.int .u64 (k:Int)),(4,.int .i64 (δ:Int)),(5,.int .i64 ((x.1:Int) - 1)),(6,.int .i64 ((x.1+δ:Nat):Int)),(7,.int .u64 (x.2.1:Int))] a∧Mem B wc ((b,240,decL arr m dp neg tr')::L) w∧x.1≤m∧Arr ds arr (x.1+δ) x.2.2∧LS ((ds.take m).drop x.1) k x.2.1 x.2.2∧x.2.2.length=m - x.1) (fun x=>x.1) ((m,0,[])) ?_ (fun x a w hI=> ?_)
 · exact ⟨ds,tr,hF,hM,Nat.le_refl _,Arr.start hl _,by rw [List.drop_of_length_le (by rw [htl];exact Nat.le_refl _)];exact LS.start k,by simp⟩
 clear hF hM
 obtain ⟨r,n,out⟩:=x
 obtain ⟨arr,tr',hF,hM,hrm,hA,hLS,hol⟩:=hI
 simp only at hF hM hrm hA hLS hol
 have hl:=hA.len
 have hnb:n<2^k:=hLS.bound (hD.digs.drop _) (by rw [hol,List.length_drop,htl])
 revert a;refine Sq (Sq (Rg (Md 2 [0,1,4,5,6,7,46] rfl (Nx (Cd rfl (fun ht=> ?_) ((fun ht=> ?_)))))))
 ·
  have hr1:1≤r:=by have:=of_decide_eq_true ht;omega
  obtain ⟨c,hc,hcd⟩:=hD.at (show r - 1<m by omega)
  have hcA:arr[r - 1]?=some c:=(hA.low _ (by omega)).trans hc
  have hdc:=dg_lt hcd
  obtain ⟨N1,hN1⟩:∃ N1,N1=n+dg c*2^k:=⟨_,rfl⟩
  have hmul:dg c*2^k≤9*2^k:=Nat.mul_le_mul_right _ (by omega)
  have hN64:N1<2^64:=by omega
  have hm10:N1 % 10<10:=Nat.mod_lt _ (by decide)
  have hA':Arr ds arr ((r - 1+δ)+1) out:=by rw [show r - 1+δ+1=r+δ by omega];exact hA
  have hLS':=hLS.digit (by rw [hol,List.length_drop,htl]) c
  intro a hF
  rw [←hN1] at hLS'
  have hdr:(ds.take m).drop (r - 1)=c::(ds.take m).drop r:=by have:=drop_at (l:=ds.take m) (i:=r - 1) (c:=c) (by rw [List.getElem?_take,if_pos (by omega)];exact hc);rw [show r - 1+1=r by omega] at this;exact this
  revert a;refine Sk (Nx (Sq (Bo (Sq (Rg (Mv 5 rfl (Gv rfl (fun _ hF=>gives_indexAddrD (r - 1) hF rfl rfl rfl (by omega) (by omega) _) (Gv rfl (fun _ hF=>gives_load hF hM 0 rfl Tryz.underlying5 rfl rfl rfl (dget_dig (hcA))) (Mv 2 rfl ?_)))))))));intro a hF
  rw [dig_read hcd] at hF
  revert a;refine Mv 1 rfl (Gv rfl (fun _ hF=>gives_shl (k) (((dg c*2^k:Nat):Int)) hF rfl rfl rfl rfl (shl_u64 (by omega) (by omega)) _) (Gv rfl (fun _ hF=>gives_sum hF rfl rfl rfl (((N1:Nat):Int)) rfl (by omega) (u64_in (by omega) (by omega)) _) (Md 1 [0,1,4,5,6,7] rfl (Nx (Sq (Rg (Mv 1 rfl (Gv rfl (fun _ hF=>gives_quo (((N1 / 10:Nat):Int)) hF rfl rfl rfl (by decide) (quo10 hN64) _) (Md 1 [0,1,4,5,6,7,8] rfl (Nx (Sq (Rg (Mv 2 rfl (Gv rfl (fun _ hF=>gives_sum hF rfl rfl rfl (((10*(N1 / 10):Nat):Int)) rfl (by omega) (u64_in (by omega) (by omega)) _) (Gv rfl (fun _ hF=>gives_sum hF rfl rfl rfl (((N1 % 10:Nat):Int)) rfl (by omega) (u64_in (by omega) (by omega)) _) (Md 1 [0,1,4,5,6,8,9] rfl (Nx (Sq (Rg (Mv 1 rfl (Sm (((r - 1+δ:Nat):Int)) rfl (by omega) (Md 1 [0,1,4,5,6,8,9] rfl (Nx (Sq (Sq (Rg (Md 2 [0,1,4,5,6,8,9,70] rfl (Nx (Cd rfl (fun ht=> ?_) ((fun ht=> ?_)))))))))))))))))))))))))))))))
  ·
   have hw8:r - 1+δ<800:=by have:=of_decide_eq_true ht;omega
   refine Rg (Mv 7 rfl (Gv rfl (fun _ hF=>gives_indexAddrD (r - 1+δ) hF rfl rfl rfl rfl hw8 _) ?_));intro a hF
   refine op_storeD hF hM rfl rfl rfl (by kernel_rfl) rfl rfl rfl (by omega) hl (dset_dig hl hw8 (chr_put hm10)) ?_;clear hF hM a;intro a w hF hM
   revert a;refine Md 0 [0,1,4,5,6,8] rfl (Nx (Rg (Md 2 [0,1,4,5,6,7] rfl (Nb (Nx (Rg (Mv 1 rfl (Sm (((r - 1:Nat):Int) - 1) rfl (by omega) (Md 1 [0,1,4,5,6,7] rfl ?_)))))))));intro a hF
   exact ⟨(r - 1,N1 / 10,chr (N1 % 10)::out),⟨_,_,hF,hM,by simp only;omega,by first | exact hA'.put _ hw8 | exact hA'.pass _ hw8,by simp only;rw [hdr];exact hLS',by simp only [List.length_cons];omega⟩,by simp only;omega⟩
  have hw8:800≤r - 1+δ:=by have:=of_decide_eq_false ht;omega
  refine Sq (Rg (Md 2 [0,1,4,5,6,8,80] rfl (Nx (D0 rfl ?_ ?_))))
  ·
   refine Sk (Nx (Rg (Md 2 [0,1,4,5,6,7] rfl (Nb (Nx (Rg (Mv 1 rfl (Sm (((r - 1:Nat):Int) - 1) rfl (by omega) (Md 1 [0,1,4,5,6,7] rfl ?_)))))))));intro a hF
   exact ⟨(r - 1,N1 / 10,chr (N1 % 10)::out),⟨_,_,hF,hM,by simp only;omega,by first | exact hA'.put _ hw8 | exact hA'.pass _ hw8,by simp only;rw [hdr];exact hLS',by simp only [List.length_cons];omega⟩,by simp only;omega⟩
  refine Rg (Mv 3 rfl ?_);intro a hF
  refine op_storeD hF hM rfl rfl rfl (by kernel_rfl) rfl rfl rfl (by decide) hl (dset_tr hl _) ?_;clear hF hM a;intro a w hF hM
  revert a;refine Md 0 [0,1,4,5,6,8] rfl (Nx (Rg (Md 2 [0,1,4,5,6,7] rfl (Nb (Nx (Rg (Mv 1 rfl (Sm (((r - 1:Nat):Int) - 1) rfl (by omega) (Md 1 [0,1,4,5,6,7] rfl ?_)))))))));intro a hF
  exact ⟨(r - 1,N1 / 10,chr (N1 % 10)::out),⟨_,_,hF,hM,by simp only;omega,by first | exact hA'.put _ hw8 | exact hA'.pass _ hw8,by simp only;rw [hdr];exact hLS',by simp only [List.length_cons];omega⟩,by simp only;omega⟩
 have hr0:r=0:=by have:=of_decide_eq_false ht;omega
 subst hr0
 refine Ex (Ot (Ot (Ob (Nx (Sq (Bo (Kp [0,4,6,7] rfl ?_)))))));intro a hF
 refine loopX (fun (x:Nat×Nat×Str) a w=>∃ (arr:Str) (tr':Bool),Fr 137 [(0,.pointer (some ⟨b,0,none⟩)),(4,.int .i64 (δ:Int)),(6,.int .i64 (x.1:Int)),(7,.int .u64 (x.2.1:Int))] a∧Mem B wc ((b,240,decL arr m dp neg tr')::L) w∧x.1≤δ∧Arr ds arr x.1 x.2.2∧LS (ds.take m) k x.2.1 x.2.2∧x.2.2.length+x.1=m+δ) (fun x=>x.2.1) ((δ,n,out)) ?_ (fun x a w hI=> ?_)
 · exact ⟨arr,tr',by rw [Nat.zero_add] at hF;exact hF,hM,Nat.le_refl _,by rw [Nat.zero_add] at hA;exact hA,hLS,by simp only;omega⟩
 clear hF hM
 clear hA hLS hol hl
 obtain ⟨v,n,out⟩:=x
 obtain ⟨arr,tr',hF,hM,hvd,hA,hLS,hol⟩:=hI
 simp only at hF hM hvd hA hLS hol
 have hl:=hA.len
 have hnl:=carry_lt hhi hLS.eq hol
 revert a;refine Sq (Sq (Rg (Md 2 [0,4,6,7,86] rfl (Nx (Ce rfl (fun ht=> ?_) ((fun ht=> ?_)))))))
 ·
  have hn0:n=0:=by have:=of_decide_eq_false ht;omega
  subst hn0
  have hv0:v=0:=Nat.eq_zero_of_not_pos (fun h=>by have h5:=carry_ge hlo hLS.eq hLS.digs hol h;have h6:=Nat.pow_pos (n:=v - 1) (show 0<10 by decide);omega)
  subst hv0
  refine Ex (Ot (Ot (Ob (Nx (Sq (Rg (Mv 3 rfl (Gv rfl (fun _ hF=>gives_load hF hM 0 rfl Tryz.underlying3 rfl rfl rfl (dget_nd hl)) (Mv 1 rfl (Sm (((m+δ:Nat):Int)) rfl (by omega) (Mv 2 rfl ?_)))))))))));intro a hF
  refine op_storeD hF hM rfl rfl rfl (by kernel_rfl) rfl rfl rfl (by decide) hl (dset_nd hl _) ?_;clear hF hM a;intro a w hF hM
  revert a;refine Md 0 [0,4] rfl (Nx ?_);intro a hF
  refine cut (fun a w=>Fr 137 [(0,.pointer (some ⟨b,0,none⟩)),(4,.int .i64 (δ:Int))] a∧Mem B wc ((b,240,decL arr ((min 800 (m+δ):Nat):Int) dp neg tr')::L) w) ?_ (fun a w h=> ?_)
  ·
   revert a;refine Sq (Rg (Mv 3 rfl (Gv rfl (fun _ hF=>gives_load hF hM 0 rfl Tryz.underlying3 rfl rfl rfl (dget_nd hl)) (Md 1 [0,4,123] rfl (Nx (Ce rfl (fun ht=> ?_) ((fun ht=> ?_))))))))
   ·
    have h8:m+δ<800:=by have:=of_decide_eq_false ht;omega
    refine Sk (Kp [0,4] rfl ?_);intro a hF
    exact ⟨hF,by first | (rw [show min 800 (m+δ)=800 by omega];exact hM) | (rw [show min 800 (m+δ)=m+δ by omega];exact hM)⟩
   have h8:800≤m+δ:=by have:=of_decide_eq_true ht;omega
   refine Rg (Mv 3 rfl ?_);intro a hF
   refine op_storeD hF hM rfl rfl rfl (by kernel_rfl) rfl rfl rfl (by decide) hl (dset_nd hl _) ?_;clear hF hM a;intro a w hF hM
   revert a;refine Md 0 [0,4] rfl ?_;intro a hF
   exact ⟨hF,by first | (rw [show min 800 (m+δ)=800 by omega];exact hM) | (rw [show min 800 (m+δ)=m+δ by omega];exact hM)⟩
  clear hF hM
  obtain ⟨hF,hM⟩:=h
  revert a;refine Sq (Rg (Mv 3 rfl (Gv rfl (fun _ hF=>gives_load hF hM 0 rfl Tryz.underlying3 rfl rfl rfl (dget_dp hl)) (Mv 1 rfl (Sm (dp+((δ:Nat):Int)) rfl (by omega) (Mv 2 rfl ?_))))));intro a hF
  refine op_storeD hF hM rfl rfl rfl (by kernel_rfl) rfl rfl rfl (by decide) hl (dset_dp hl _) ?_;clear hF hM a;intro a w hF hM
  revert a;refine Md 0 [0] rfl (Nx (Rg (Mv 1 rfl (Cl rfl rfl rfl (trimD_walk hl (Nat.min_le_left 800 (m+δ)) hM) ?_))))
  clear hM;intro w v hR
  obtain ⟨rfl,m',hmle,hz,hlast,hM⟩:=hR
  refine Md 0 [] rfl ?_
  have hol':out.length=m+δ:=hol
  have hwo:worth (ds.take m)*2^k=worth out:=by have:=hLS.eq;rw [Nat.zero_mul,Nat.zero_add] at this;exact this
  obtain ⟨c0,r0,ho,_,hc48,_⟩:=head_of_worth (p:=m+δ) hLS.digs hol' (by omega) (by rw [←hwo];exact hlo)
  obtain ⟨hD',hm'0,htk,hfi⟩:=Dec.of_out hA hLS.digs (by rw [ho];simpa using hc48) (by rw [ho];simp) (by rw [hol'];exact hmle) (fun j h1 h2=>hz j h1 (by rw [hol'] at h2;exact h2))
  rw [if_neg (show ¬ m'=0 by omega)] at hM
  exact Z0 rfl ⟨_,rfl,rfl,arr,out,m',tr',hD',hm'0,hLS.digs,hol',hwo.symm,htk,hfi,hmle,hz,hM⟩
 have hn0:0<n:=by have:=of_decide_eq_true ht;omega
 have hv1:1≤v:=Nat.pos_of_ne_zero (fun h=>by rw [h] at hnl;simp at hnl;omega)
 have hn64:n<2^64:=Nat.lt_of_lt_of_le hnl (Nat.le_trans (Nat.pow_le_pow_right (by decide) (show v≤19 by omega)) (by decide))
 have hm10:n % 10<10:=Nat.mod_lt _ (by decide)
 have hA':Arr ds arr (v - 1+1) out:=by rw [show v - 1+1=v by omega];exact hA
 refine Sk (Nx (Bo (Sq (Rg (Mv 1 rfl (Gv rfl (fun _ hF=>gives_quo (((n / 10:Nat):Int)) hF rfl rfl rfl (by decide) (quo10 hn64) _) (Md 1 [0,4,6,7,10] rfl (Nx (Sq (Rg (Mv 2 rfl (Gv rfl (fun _ hF=>gives_sum hF rfl rfl rfl (((10*(n / 10):Nat):Int)) rfl (by omega) (u64_in (by omega) (by omega)) _) (Gv rfl (fun _ hF=>gives_sum hF rfl rfl rfl (((n % 10:Nat):Int)) rfl (by omega) (u64_in (by omega) (by omega)) _) (Md 1 [0,4,6,10,11] rfl (Nx (Sq (Rg (Mv 1 rfl (Sm (((v - 1:Nat):Int)) rfl (by omega) (Md 1 [0,4,6,10,11] rfl (Nx (Sq (Sq (Rg (Md 2 [0,4,6,10,11,96] rfl (Nx (Cd rfl (fun ht=> ?_) ((fun ht=> ?_)))))))))))))))))))))))))))))
 ·
  have hw8:v - 1<800:=by have:=of_decide_eq_true ht;omega
  refine Rg (Mv 7 rfl (Gv rfl (fun _ hF=>gives_indexAddrD (v - 1) hF rfl rfl rfl rfl hw8 _) ?_));intro a hF
  refine op_storeD hF hM rfl rfl rfl (by kernel_rfl) rfl rfl rfl (by omega) hl (dset_dig hl hw8 (chr_put hm10)) ?_;clear hF hM a;intro a w hF hM
  revert a;refine Md 0 [0,4,6,10] rfl (Nx (Rg (Md 2 [0,4,6,7] rfl (Nb (Kp [0,4,6,7] rfl ?_)))));intro a hF
  exact ⟨(v - 1,n / 10,chr (n % 10)::out),⟨_,_,hF,hM,by simp only;omega,by first | exact hA'.put _ hw8 | exact hA'.pass _ hw8,hLS.more,by simp only [List.length_cons];omega⟩,Nat.div_lt_self hn0 (by decide)⟩
 have hw8:800≤v - 1:=by have:=of_decide_eq_false ht;omega
 refine Sq (Rg (Md 2 [0,4,6,10,106] rfl (Nx (D0 rfl ?_ ?_))))
 ·
  refine Sk (Nx (Rg (Md 2 [0,4,6,7] rfl (Nb (Kp [0,4,6,7] rfl ?_)))));intro a hF
  exact ⟨(v - 1,n / 10,chr (n % 10)::out),⟨_,_,hF,hM,by simp only;omega,by first | exact hA'.put _ hw8 | exact hA'.pass _ hw8,hLS.more,by simp only [List.length_cons];omega⟩,Nat.div_lt_self hn0 (by decide)⟩
 refine Rg (Mv 3 rfl ?_);intro a hF
 refine op_storeD hF hM rfl rfl rfl (by kernel_rfl) rfl rfl rfl (by decide) hl (dset_tr hl _) ?_;clear hF hM a;intro a w hF hM
 revert a;refine Md 0 [0,4,6,10] rfl (Nx (Rg (Md 2 [0,4,6,7] rfl (Nb (Kp [0,4,6,7] rfl ?_)))));intro a hF
 exact ⟨(v - 1,n / 10,chr (n % 10)::out),⟨_,_,hF,hM,by simp only;omega,by first | exact hA'.put _ hw8 | exact hA'.pass _ hw8,hLS.more,by simp only [List.length_cons];omega⟩,Nat.div_lt_self hn0 (by decide)⟩
theorem rightShift_walk {B:Nat}{wc:World}{L:List Bk}{b:Nat}{ds:Str}{dp:Int}{neg tr:Bool}{m k:Nat}(hD:Dec ds m) (h0:0<m) (h1:1≤k) (h2:k≤60) (hdp: -2^40≤dp∧dp≤2^40) {w0:World}(hM0:Mem B wc ((b,240,decL ds m dp neg tr)::L) w0):
    Calls Tryz.prog 237 #[.pointer (some ⟨b,0,none⟩),.int .u64 (k:Int)] w0 (Ret fun v w'=>v= .tuple #[]∧∃ (ds' out:Str) (m' r0:Nat) (tr':Bool),Dec ds' m'∧0<m'∧Digs out∧1≤r0∧r0≤20∧rd (ds.take m) (r0 - 1)<2^k∧2^k≤rd (ds.take m) r0∧
      rd (ds.take m) (r0+out.length)=worth out*2^k*10∧ds'.take (min 800 out.length)=out.take (min 800 out.length)∧ds'[0]?=some (chr (rd (ds.take m) r0 / 2^k))∧m'≤min 800 out.length∧(∀ j,m'≤j→j<min 800 out.length→ds'[j]?=some 48)∧m≤r0+out.length∧
      Mem B wc ((b,240,decL ds' m' (dp - (r0 - 1:Nat)) neg tr')::L) w'):=by
 have hM:=hM0
 have hl:=hD.len
 have hl0:=hD.len
 have hm:=hD.le
 have htl:=hD.tlen
 have hp60:2^k≤2^60:=Nat.pow_le_pow_right (by decide) h2
 have hp1:1≤2^k:=Nat.pow_pos (by decide)
 have hstep:=rd_le hD.digs
 have hrl:=rd_low hD h0
 refine enter (l:=[.pointer (some ⟨b,0,none⟩),.int .u64 (k:Int)]) 128 Tryz.func237 rfl rfl (Sq (Rg (Md 1 [0,1,4] rfl (Nx (Sq (Rg (Md 1 [0,1,4,5] rfl (Nx (Sq (Rg (Md 1 [0,1,4,5,6] rfl (Nx ?_))))))))))));intro a hF
 refine cut (fun a w=>∃ r0:Nat,Fr 130 [(0,.pointer (some ⟨b,0,none⟩)),(1,.int .u64 (k:Int)),(4,.int .i64 (r0:Int)),(5,.int .i64 0),(6,.int .u64 ((rd (ds.take m) r0:Nat):Int))] a∧Mem B wc ((b,240,decL ds m dp neg tr)::L) w∧1≤r0∧rd (ds.take m) (r0 - 1)<2^k∧2^k≤rd (ds.take m) r0∧rd (ds.take m) r0<10*2^k) ?_ (fun a w h=> ?_)
 ·
  revert a;refine Bo (Kp [0,1,4,5,6] rfl ?_);intro a hF
  refine loopX (fun (r:Nat) a w=>Fr 130 [(0,.pointer (some ⟨b,0,none⟩)),(1,.int .u64 (k:Int)),(4,.int .i64 (r:Int)),(5,.int .i64 0),(6,.int .u64 ((rd (ds.take m) r:Nat):Int))] a∧Mem B wc ((b,240,decL ds m dp neg tr)::L) w∧r≤m∧(r=0∨1≤r∧rd (ds.take m) (r - 1)<2^k)∧rd (ds.take m) r<10*2^k) (fun r=>m - r) (0) ?_ (fun r a w hI=> ?_)
  · exact ⟨by rw [rd_zero];exact hF,hM,Nat.zero_le _,.inl rfl,by rw [rd_zero];omega⟩
  clear hF hM
  obtain ⟨hF,hM,hrm,hpr,hrb⟩:=hI
  revert a;refine Sq (Sq (Rg (Mv 2 rfl (Gv rfl (fun _ hF=>gives_shr (k) (((rd (ds.take m) r / 2^k:Nat):Int)) hF rfl rfl rfl rfl (shr_u64 (by omega)) _) (Md 1 [0,1,4,5,6,15] rfl (Nx (Ce rfl (fun ht=> ?_) ((fun ht=> ?_)))))))))
  ·
   have hq:=div_pos_le ht
   refine Ex (Ot (Ot (Ob (Kp [0,1,4,5,6] rfl ?_))));intro a hF
   exact ⟨r,hF,hM,(hpr.resolve_left (fun e=>by rw [e,rd_zero] at hq;omega)).1,(hpr.resolve_left (fun e=>by rw [e,rd_zero] at hq;omega)).2,hq,hrb⟩
  have hq:=div_zero_lt ht
  refine Sk (Nx (Sq (Bo (Sq (Sq (Rg (Mv 4 rfl (Gv rfl (fun _ hF=>gives_load hF hM 0 rfl Tryz.underlying3 rfl rfl rfl (dget_nd hl)) (Md 1 [0,1,4,5,6,23] rfl (Nx (Ce rfl (fun ht=> ?_) ((fun ht=> ?_)))))))))))))
  ·
   have hrm':r<m:=by have:=of_decide_eq_false ht;omega
   obtain ⟨c,hc,hcd⟩:=hD.at hrm'
   have hcr:=dig_rng hcd
   have hdg:dg c+48=c.toNat:=by unfold dg;omega
   have hrd:rd (ds.take m) (r+1)=rd (ds.take m) r*10+dg c:=rd_digit (by rw [List.getElem?_take,if_pos hrm'];exact hc)
   refine Sk (Nx (Sq (Rg (Mv 4 rfl (Gv rfl (fun _ hF=>gives_indexAddrD (r) hF rfl rfl rfl rfl (by omega) _) (Gv rfl (fun _ hF=>gives_load hF hM 0 rfl Tryz.underlying5 rfl rfl rfl (dget_dig (hc))) (Gv rfl (fun _ hF=>gives_conv hF rfl Tryz.underlying5 Tryz.underlying157 rfl (((c.toNat:Nat):Int)) (u64_in (by omega) (by omega)) _) (Md 1 [0,1,4,5,6,7] rfl (Nx (Rg (Mv 1 rfl (Gv rfl (fun _ hF=>gives_sum hF rfl rfl rfl (((rd (ds.take m) r*10:Nat):Int)) rfl (by omega) (u64_in (by omega) (by omega)) _) (Mv 1 rfl (Gv rfl (fun _ hF=>gives_sum hF rfl rfl rfl (((rd (ds.take m) r*10+c.toNat:Nat):Int)) rfl (by omega) (u64_in (by omega) (by omega)) _) (Gv rfl (fun _ hF=>gives_sum hF rfl rfl rfl (((rd (ds.take m) (r+1):Nat):Int)) rfl (by omega) (u64_in (by omega) (by omega)) _) (Md 1 [0,1,4,5,6] rfl (Nb (Nx (Rg (Mv 1 rfl (Sm (((r+1:Nat):Int)) rfl (by omega) (Md 1 [0,1,4,5,6] rfl ?_))))))))))))))))))))));intro a hF
   exact ⟨r+1,⟨hF,hM,by omega,.inr ⟨by omega,by rw [Nat.add_sub_cancel];exact hq⟩,by have:=hstep r;omega⟩,by omega⟩
  have hrm':r=m:=by have:=of_decide_eq_true ht;omega
  subst hrm'
  have hpos:0<rd (ds.take r) r:=by have:=hrl (r - 1);rw [show r - 1+1=r by omega] at this;have:=Nat.pow_pos (n:=r - 1) (show 0<10 by decide);omega
  refine Sq (Sq (Rg (Md 2 [0,1,4,5,6,25] rfl (Nx (C1 rfl (fun ht=>absurd ht (by simp;omega)) (Sk (Nx (Sq (Bo (Kp [0,1,4,5,6] rfl ?_))))))))));intro a hF
  refine loopX (fun (r':Nat) a w=>Fr 130 [(0,.pointer (some ⟨b,0,none⟩)),(1,.int .u64 (k:Int)),(4,.int .i64 (r':Int)),(5,.int .i64 0),(6,.int .u64 ((rd (ds.take r) r':Nat):Int))] a∧Mem B wc ((b,240,decL ds r dp neg tr)::L) w∧r≤r'∧(1≤r'∧rd (ds.take r) (r' - 1)<2^k)∧rd (ds.take r) r'<10*2^k) (fun r'=>10*2^k - rd (ds.take r) r') (r) ?_ (fun r' a w hI=> ?_)
  · exact ⟨hF,hM,Nat.le_refl _,hpr.resolve_left (by omega),hrb⟩
  clear hF hM
  clear hpr hrb hq hpos
  obtain ⟨hF,hM,hrr,hpr,hrb⟩:=hI
  have hr20:=rd_few hD h0 h2 hpr.1 hpr.2
  have hpos:0<rd (ds.take r) r':=by have:=hrl (r' - 1);rw [show r' - 1+1=r' by omega] at this;have:=Nat.pow_pos (n:=r' - 1) (show 0<10 by decide);omega
  have hmore:rd (ds.take r) (r'+1)=rd (ds.take r) r'*10:=rd_more (by rw [htl];exact hrr)
  revert a;refine Sq (Sq ?_)
  skip
  refine Rg (Mv 2 rfl (Gv rfl (fun _ hF=>gives_shr (k) (((rd (ds.take r) r' / 2^k:Nat):Int)) hF rfl rfl rfl rfl (shr_u64 (by omega)) _) (Md 1 [0,1,4,5,6,32] rfl (Nx (Ce rfl (fun ht=> ?_) ((fun ht=> ?_)))))))
  ·
   have hq:=div_pos_le ht
   refine Ex (Ot (Ot (Ob (Nx (Ex (Ot (Op' rfl (Ot (Ot (Ob (Kp [0,1,4,5,6] rfl ?_)))))))))));intro a hF
   exact ⟨r',hF,hM,hpr.1,hpr.2,hq,hrb⟩
  have hq:=div_zero_lt ht
  refine Sk (Nx (Bo (Sq (Rg (Mv 1 rfl (Gv rfl (fun _ hF=>gives_sum hF rfl rfl rfl (((rd (ds.take r) (r'+1):Nat):Int)) rfl (by omega) (u64_in (by omega) (by omega)) _) (Md 1 [0,1,4,5,6] rfl (Nx (Rg (Mv 1 rfl (Sm (((r'+1:Nat):Int)) rfl (by omega) (Md 1 [0,1,4,5,6] rfl (Nb (Kp [0,1,4,5,6] rfl ?_))))))))))))));intro a hF
  exact ⟨r'+1,⟨hF,hM,by omega,⟨by omega,by rw [Nat.add_sub_cancel];exact hq⟩,by omega⟩,by omega⟩
 clear hF hM
 obtain ⟨r0,hF,hM,hr1,hrA,hrB,hrC⟩:=h
 have hr20:=rd_few hD h0 h2 hr1 hrA
 revert a;refine Sq (Rg (Mv 3 rfl (Gv rfl (fun _ hF=>gives_load hF hM 0 rfl Tryz.underlying3 rfl rfl rfl (dget_dp hl)) (Mv 1 rfl (Sm (((r0 - 1:Nat):Int)) rfl (by omega) (Sm (dp - ((r0 - 1:Nat):Int)) rfl (by omega) (Mv 2 rfl ?_)))))));intro a hF
 refine op_storeD hF hM rfl rfl rfl (by kernel_rfl) rfl rfl rfl (by decide) hl (dset_dp hl _) ?_;clear hF hM a;intro a w hF hM
 revert a;refine Md 0 [0,1,4,5,6] rfl (Nx (Sq (Rg (Mv 1 rfl (Gv rfl (fun _ hF=>gives_shl (k) (((2^k:Nat):Int)) hF rfl rfl rfl rfl (one_shl h2) _) (Gv rfl (fun _ hF=>gives_sum hF rfl rfl rfl (((2^k - 1:Nat):Int)) rfl (by omega) (u64_in (by omega) (by omega)) _) (Md 1 [0,1,4,5,6,8] rfl (Nx (Sq (Bo (Kp [0,1,4,5,6,8] rfl ?_)))))))))));intro a hF
 refine loopX (fun (x:Nat×Nat×Str) a w=>∃ (arr:Str) (tr':Bool),Fr 130 [(0,.pointer (some ⟨b,0,none⟩)),(1,.int .u64 (k:Int)),(4,.int .i64 (x.1:Int)),(5,.int .i64 ((x.2.2.length:Nat):Int)),(6,.int .u64 (x.2.1:Int)),(8,.int .u64 ((2^k - 1:Nat):Int))] a∧Mem B wc ((b,240,decL arr m (dp - ((r0 - 1:Nat):Int)) neg tr')::L) w∧Arw ds arr x.2.2∧r0+x.2.2.length=x.1∧RS (rd (ds.take m) x.1) k x.2.1 x.2.2∧(x.2.2.head?=some (chr (rd (ds.take m) r0 / 2^k))∨x.2.2=[]∧x.2.1=rd (ds.take m) r0)∧x.2.2.length≤m) (fun x=>m - x.1) ((r0,rd (ds.take m) r0,[])) ?_ (fun x a w hI=> ?_)
 · exact ⟨ds,tr,hF,hM,Arw.start hl0,by simp,RS.start hrC,.inr ⟨rfl,rfl⟩,Nat.zero_le _⟩
 clear hF hM
 obtain ⟨r,n,out⟩:=x
 obtain ⟨arr,tr',hF,hM,hA,hro,hRS,hhd,hom⟩:=hI
 simp only at hF hM hA hro hRS hhd hom
 have hl:=hA.len
 have hnb:=hRS.lt
 revert a;refine Sq (Sq (Rg (Mv 4 rfl (Gv rfl (fun _ hF=>gives_load hF hM 0 rfl Tryz.underlying3 rfl rfl rfl (dget_nd hl)) (Md 1 [0,1,4,5,6,8,66] rfl (Nx (Cd rfl (fun ht=> ?_) ((fun ht=> ?_)))))))))
 ·
  have hrm':r<m:=by have:=of_decide_eq_true ht;omega
  obtain ⟨c,hc,hcd⟩:=hD.at hrm'
  have hcA:arr[r]?=some c:=(hA.high r (by omega)).trans hc
  have hcr:=dig_rng hcd
  have hdg:dg c+48=c.toNat:=by unfold dg;omega
  have hrd:rd (ds.take m) (r+1)=rd (ds.take m) r*10+dg c:=rd_digit (by rw [List.getElem?_take,if_pos hrm'];exact hc)
  have hd10:n / 2^k<10:=(Nat.div_lt_iff_lt_mul (Nat.pow_pos (by decide))).2 hRS.lt
  have hmod:n % 2^k<2^k:=Nat.mod_lt _ (Nat.pow_pos (by decide))
  refine Sk (Nx (Sq (Bo (Sq (Rg (Mv 4 rfl (Gv rfl (fun _ hF=>gives_indexAddrD (r) hF rfl rfl rfl rfl (by omega) _) (Gv rfl (fun _ hF=>gives_load hF hM 0 rfl Tryz.underlying5 rfl rfl rfl (dget_dig (hcA))) (Gv rfl (fun _ hF=>gives_conv hF rfl Tryz.underlying5 Tryz.underlying157 rfl (((c.toNat:Nat):Int)) (u64_in (by omega) (by omega)) _) (Md 1 [0,1,4,5,6,8,9] rfl (Nx (Sq (Rg (Mv 2 rfl (Gv rfl (fun _ hF=>gives_shr (k) (((n / 2^k:Nat):Int)) hF rfl rfl rfl rfl (shr_u64 (by omega)) _) (Md 1 [0,1,4,5,6,8,9,10] rfl (Nx (Sq (Rg (Mv 2 rfl (Gv rfl (fun _ hF=>gives_bits (((n % 2^k:Nat):Int)) hF rfl rfl rfl (and_mask (by omega) h2) _) (Md 1 [0,1,4,5,6,8,9,10] rfl (Nx (Sq (Rg (Mv 7 rfl (Gv rfl (fun _ hF=>gives_indexAddrD (out.length) hF rfl rfl rfl rfl (by omega) _) ?_)))))))))))))))))))))))))));intro a hF
  refine op_storeD hF hM rfl rfl rfl (by kernel_rfl) rfl rfl rfl (by omega) hl (dset_dig hl (by omega) (chr_put hd10)) ?_;clear hF hM a;intro a w hF hM
  revert a;refine Md 0 [0,1,4,5,6,8,9] rfl (Nx (Sq (Rg (Mv 1 rfl (Sm (((out.length+1:Nat):Int)) rfl (by omega) (Md 1 [0,1,4,5,6,8,9] rfl (Nx (Rg (Mv 1 rfl (Gv rfl (fun _ hF=>gives_sum hF rfl rfl rfl (((n % 2^k*10:Nat):Int)) rfl (by omega) (u64_in (by omega) (by omega)) _) (Mv 1 rfl (Gv rfl (fun _ hF=>gives_sum hF rfl rfl rfl (((n % 2^k*10+c.toNat:Nat):Int)) rfl (by omega) (u64_in (by omega) (by omega)) _) (Gv rfl (fun _ hF=>gives_sum hF rfl rfl rfl (((n % 2^k*10+dg c:Nat):Int)) rfl (by omega) (u64_in (by omega) (by omega)) _) (Md 1 [0,1,4,5,6,8] rfl (Nb (Nx (Rg (Mv 1 rfl (Sm (((r+1:Nat):Int)) rfl (by omega) (Md 1 [0,1,4,5,6,8] rfl ?_))))))))))))))))))));intro a hF
  exact ⟨(r+1,n % 2^k*10+dg c,out++ [chr (n / 2^k)]),⟨_,_,by simp only [List.length_append,List.length_singleton];exact hF,hM,hA.put _ (by omega),by simp;omega,by simp only;rw [hrd];exact hRS.step (dg_lt hcd),.inl (head_snoc (hhd.imp id (fun h=>⟨h.1,by rw [h.2]⟩))),by simp;omega⟩,by simp only;omega⟩
 have hrm':m≤r:=by have:=of_decide_eq_false ht;omega
 refine Ex (Ot (Ot (Ob (Nx (Sq (Bo (Kp [0,1,5,6,8] rfl ?_)))))));intro a hF
 refine loopX (fun (x:Nat×Nat×Nat×Str) a w=>∃ (arr:Str) (tr':Bool),Fr 130 [(0,.pointer (some ⟨b,0,none⟩)),(1,.int .u64 (k:Int)),(5,.int .i64 ((min x.2.2.2.length 800:Nat):Int)),(6,.int .u64 (x.2.2.1:Int)),(8,.int .u64 ((2^k - 1:Nat):Int))] a∧Mem B wc ((b,240,decL arr m (dp - ((r0 - 1:Nat):Int)) neg tr')::L) w∧Arw ds arr x.2.2.2∧r0+x.2.2.2.length=x.2.1∧RS (rd (ds.take m) x.2.1) k x.2.2.1 x.2.2.2∧(x.2.2.2.head?=some (chr (rd (ds.take m) r0 / 2^k))∨x.2.2.2=[]∧x.2.2.1=rd (ds.take m) r0)∧m≤x.2.1∧2^x.1 ∣ x.2.2.1∧(x.1≤k∨x.1=k+1∧x.2.2.1=0)) (fun x=>k+1 - x.1) ((0,r,n,out)) ?_ (fun x a w hI=> ?_)
 · exact ⟨arr,tr',by first | (rw [show min out.length 800=out.length from Nat.min_eq_left (by omega)];exact hF),hM,hA,hro,hRS,hhd,hrm',Nat.one_dvd _,.inl (Nat.zero_le _)⟩
 clear hF hM
 clear hA hro hRS hhd hnb hl hrm'
 obtain ⟨e,r,n,out⟩:=x
 obtain ⟨arr,tr',hF,hM,hA,hro,hRS,hhd,hrm',hdv,hek⟩:=hI
 simp only at hF hM hA hro hRS hhd hrm' hdv hek
 have hl:=hA.len
 have hnb:=hRS.lt
 revert a;refine Sq (Sq (Rg (Md 2 [0,1,5,6,8,98] rfl (Nx (Ce rfl (fun ht=> ?_) ((fun ht=> ?_)))))))
 ·
  have hn0:n=0:=by have:=of_decide_eq_false ht;omega
  subst hn0
  refine Ex (Ot (Ot (Ob (Nx (Sq (Rg (Mv 4 rfl ?_)))))));intro a hF
  refine op_storeD hF hM rfl rfl rfl (by kernel_rfl) rfl rfl rfl (by decide) hl (dset_nd hl _) ?_;clear hF hM a;intro a w hF hM
  revert a;refine Md 0 [0] rfl (Nx (Rg (Mv 1 rfl (Cl rfl rfl rfl (trimD_walk hl (Nat.min_le_right out.length 800) hM) ?_))))
  clear hM;intro w v hR
  obtain ⟨rfl,m',hmle,hz,hlast,hM⟩:=hR
  refine Md 0 [] rfl ?_
  have hne:out≠ []:=fun e=>by have:=hhd.resolve_left (by rw [e];simp);have h5:=this.2;have:=hrB;omega
  have hhd':out.head?=some (chr (rd (ds.take m) r0 / 2^k)):=hhd.resolve_right (fun h=>hne h.1)
  have hq10:rd (ds.take m) r0 / 2^k<10:=(Nat.div_lt_iff_lt_mul (Nat.pow_pos (by decide))).2 hrC
  have hq1:rd (ds.take m) r0 / 2^k≠0:=fun h=>by have:=(Nat.div_eq_zero_iff_lt (Nat.pow_pos (n:=k) (show 0<2 by decide))).1 h;omega
  intro a hF
  rw [Nat.min_comm] at hmle hz
  obtain ⟨hD',hm'0,htk,hfi⟩:=Dec.of_out hA.arr hRS.digs (by rw [hhd'];intro h;exact chr_ne hq10 hq1 (Option.some.inj h)) hne hmle hz
  rw [if_neg (show ¬ m'=0 by omega)] at hM
  exact endNone hF rfl ⟨_,rfl,rfl,arr,out,m',r0,tr',hD',hm'0,hRS.digs,hr1,hr20,hrA,hrB,by rw [hro];have:=hRS.eq;rw [Nat.add_zero] at this;exact this,htk,by rw [hfi];exact hhd',hmle,hz,by omega,hM⟩
 have hn0:0<n:=by have:=of_decide_eq_true ht;omega
 have hk':e≤k:=hek.resolve_right (fun h=>by omega)
 have hd10:n / 2^k<10:=(Nat.div_lt_iff_lt_mul (Nat.pow_pos (by decide))).2 hRS.lt
 have hmod:n % 2^k<2^k:=Nat.mod_lt _ (Nat.pow_pos (by decide))
 refine Sk (Nx (Bo (Sq (Rg (Mv 2 rfl (Gv rfl (fun _ hF=>gives_shr (k) (((n / 2^k:Nat):Int)) hF rfl rfl rfl rfl (shr_u64 (by omega)) _) (Md 1 [0,1,5,6,8,11] rfl (Nx (Sq (Rg (Mv 2 rfl (Gv rfl (fun _ hF=>gives_bits (((n % 2^k:Nat):Int)) hF rfl rfl rfl (and_mask (by omega) h2) _) (Md 1 [0,1,5,6,8,11] rfl (Nx (Sq (Sq (Rg (Md 2 [0,1,5,6,8,11,106] rfl (Nx (Cd rfl (fun ht=> ?_) ((fun ht=> ?_))))))))))))))))))))))
 ·
  have hw8:out.length<800:=by have:=of_decide_eq_true ht;omega
  intro a hF
  rw [show min out.length 800=out.length from Nat.min_eq_left (by omega)] at hF
  revert a;refine Sq (Rg (Mv 7 rfl (Gv rfl (fun _ hF=>gives_indexAddrD (out.length) hF rfl rfl rfl rfl hw8 _) ?_)));intro a hF
  refine op_storeD hF hM rfl rfl rfl (by kernel_rfl) rfl rfl rfl (by omega) hl (dset_dig hl hw8 (chr_put hd10)) ?_;clear hF hM a;intro a w hF hM
  revert a;refine Md 0 [0,1,5,6,8] rfl (Nx (Rg (Mv 1 rfl (Sm (((out.length+1:Nat):Int)) rfl (by omega) (Md 1 [0,1,5,6,8] rfl (Nx (Rg (Mv 1 rfl (Gv rfl (fun _ hF=>gives_sum hF rfl rfl rfl (((n % 2^k*10:Nat):Int)) rfl (by omega) (u64_in (by omega) (by omega)) _) (Md 1 [0,1,5,6,8] rfl (Nb (Kp [0,1,5,6,8] rfl ?_))))))))))));intro a hF
  exact ⟨(e+1,r+1,n % 2^k*10,out++ [chr (n / 2^k)]),⟨_,_,by simp only [List.length_append,List.length_singleton];first | (rw [show min (out.length+1) 800=out.length+1 by omega];exact hF) | (rw [show min (out.length+1) 800=min out.length 800 by omega];exact hF),hM,by first | exact hA.put _ hw8 | exact hA.pass _ hw8,by simp;omega,by simp only;rw [rd_more (by rw [htl];exact hrm')];exact hRS.step (x:=0) (by decide),.inl (head_snoc (hhd.imp id (fun h=>⟨h.1,by rw [h.2]⟩))),by simp only;omega,pow_step hk' hdv,(Nat.lt_or_ge e k).imp id (fun h=>⟨by simp only;omega,pow_end (by have:e=k:=(by omega);rw [←this];exact hdv)⟩)⟩,by simp only;omega⟩
 have hw8:800≤out.length:=by have:=of_decide_eq_false ht;omega
 refine Sq (Rg (Md 2 [0,1,5,6,8,118] rfl (Nx (D0 rfl ?_ ?_))))
 ·
  refine Sk (Nx (Rg (Mv 1 rfl (Gv rfl (fun _ hF=>gives_sum hF rfl rfl rfl (((n % 2^k*10:Nat):Int)) rfl (by omega) (u64_in (by omega) (by omega)) _) (Md 1 [0,1,5,6,8] rfl (Nb (Kp [0,1,5,6,8] rfl ?_)))))));intro a hF
  exact ⟨(e+1,r+1,n % 2^k*10,out++ [chr (n / 2^k)]),⟨_,_,by simp only [List.length_append,List.length_singleton];first | (rw [show min (out.length+1) 800=out.length+1 by omega];exact hF) | (rw [show min (out.length+1) 800=min out.length 800 by omega];exact hF),hM,by first | exact hA.put _ hw8 | exact hA.pass _ hw8,by simp;omega,by simp only;rw [rd_more (by rw [htl];exact hrm')];exact hRS.step (x:=0) (by decide),.inl (head_snoc (hhd.imp id (fun h=>⟨h.1,by rw [h.2]⟩))),by simp only;omega,pow_step hk' hdv,(Nat.lt_or_ge e k).imp id (fun h=>⟨by simp only;omega,pow_end (by have:e=k:=(by omega);rw [←this];exact hdv)⟩)⟩,by simp only;omega⟩
 refine Rg (Mv 3 rfl ?_);intro a hF
 refine op_storeD hF hM rfl rfl rfl (by kernel_rfl) rfl rfl rfl (by decide) hl (dset_tr hl _) ?_;clear hF hM a;intro a w hF hM
 revert a;refine Md 0 [0,1,5,6,8] rfl (Nx (Rg (Mv 1 rfl (Gv rfl (fun _ hF=>gives_sum hF rfl rfl rfl (((n % 2^k*10:Nat):Int)) rfl (by omega) (u64_in (by omega) (by omega)) _) (Md 1 [0,1,5,6,8] rfl (Nb (Kp [0,1,5,6,8] rfl ?_)))))));intro a hF
 exact ⟨(e+1,r+1,n % 2^k*10,out++ [chr (n / 2^k)]),⟨_,_,by simp only [List.length_append,List.length_singleton];first | (rw [show min (out.length+1) 800=out.length+1 by omega];exact hF) | (rw [show min (out.length+1) 800=min out.length 800 by omega];exact hF),hM,by first | exact hA.put _ hw8 | exact hA.pass _ hw8,by simp;omega,by simp only;rw [rd_more (by rw [htl];exact hrm')];exact hRS.step (x:=0) (by decide),.inl (head_snoc (hhd.imp id (fun h=>⟨h.1,by rw [h.2]⟩))),by simp only;omega,pow_step hk' hdv,(Nat.lt_or_ge e k).imp id (fun h=>⟨by simp only;omega,pow_end (by have:e=k:=(by omega);rw [←this];exact hdv)⟩)⟩,by simp only;omega⟩
theorem shiftL_walk {B:Nat}{wc:World}{L:List Bk}{b:Nat}{ds:Str}{dp:Int}{neg tr:Bool}(hG:Tabs B wc) {m k:Nat}(hD:Dec ds m) (h0:0<m) (h1:1≤k) (h2:k≤60) (hdp: -2^40≤dp∧dp≤2^40) {w0:World}(hM0:Mem B wc ((b,240,decL ds m dp neg tr)::L) w0):
    Calls Tryz.prog 202 #[.pointer (some ⟨b,0,none⟩),.int .i64 (k:Int)] w0 (Ret fun v w'=>v= .tuple #[]∧∃ (ds' out:Str) (m':Nat) (tr':Bool),Dec ds' m'∧0<m'∧Digs out∧out.length=m+ldel (ds.take m) k∧worth out=worth (ds.take m)*2^k∧
      ds'.take (min 800 out.length)=out.take (min 800 out.length)∧ds'[0]?=out.head?∧m'≤min 800 (m+ldel (ds.take m) k)∧(∀ j,m'≤j→j<min 800 (m+ldel (ds.take m) k)→ds'[j]?=some 48)∧Mem B wc ((b,240,decL ds' m' (dp+(ldel (ds.take m) k:Nat)) neg tr')::L) w'):=by
 have hM:=hM0
 have hl:=hD.len
 refine enter (l:=[.pointer (some ⟨b,0,none⟩),.int .i64 (k:Int)]) 35 Tryz.func202 rfl rfl (Bo (Sq (Rg (Mv 3 rfl (Gv rfl (fun _ hF=>gives_load hF hM 0 rfl Tryz.underlying3 rfl rfl rfl (dget_nd hl)) (Md 2 [0,1,4] rfl (Nx (C1 rfl (fun ht=>absurd ht (by simp;omega)) (Sq (Rg (Md 3 [0,1,10] rfl (Nx (D2 rfl (fun ht=>absurd (of_decide_eq_false ht) (by omega)) (Sq (Bo (Kp [0,1] rfl ?_))))))))))))))));intro a hF
 refine loopX (fun (x:Unit) a w=>Fr 37 [(0,.pointer (some ⟨b,0,none⟩)),(1,.int .i64 (k:Int))] a∧Mem B wc ((b,240,decL ds m dp neg tr)::L) w) (fun _=>0) (()) ?_ (fun x a w hI=> ?_)
 · exact ⟨hF,hM⟩
 clear hF hM
 obtain ⟨hF,hM⟩:=hI
 revert a;refine Sq (Sq (Rg (Md 2 [0,1,14] rfl (Nx (C1 rfl (fun ht=>absurd (of_decide_eq_true ht) (by omega)) (Ex (Ot (Ot (Ob (Nx (Rg (Mv 2 rfl (Gv rfl (fun _ hF=>gives_conv hF rfl Tryz.underlying3 Tryz.underlying157 rfl (((k:Nat):Int)) (u64_in (by omega) (by omega)) _) (Cl rfl rfl rfl (leftShift_walk hG hD h0 h1 h2 hdp hM) ?_))))))))))))))
 clear hM;intro w v hR
 obtain ⟨rfl,hpost⟩:=hR
 exact Md 0 [] rfl (Nb (Z0 rfl ⟨_,rfl,rfl,hpost⟩))
theorem shiftR_walk {B:Nat}{wc:World}{L:List Bk}{b:Nat}{ds:Str}{dp:Int}{neg tr:Bool}{m k:Nat}(hD:Dec ds m) (h0:0<m) (h1:1≤k) (h2:k≤60) (hdp: -2^40≤dp∧dp≤2^40) {w0:World}(hM0:Mem B wc ((b,240,decL ds m dp neg tr)::L) w0):
    Calls Tryz.prog 202 #[.pointer (some ⟨b,0,none⟩),.int .i64 (-(k:Int))] w0 (Ret fun v w'=>v= .tuple #[]∧∃ (ds' out:Str) (m' r0:Nat) (tr':Bool),Dec ds' m'∧0<m'∧Digs out∧1≤r0∧r0≤20∧rd (ds.take m) (r0 - 1)<2^k∧2^k≤rd (ds.take m) r0∧
      rd (ds.take m) (r0+out.length)=worth out*2^k*10∧ds'.take (min 800 out.length)=out.take (min 800 out.length)∧ds'[0]?=some (chr (rd (ds.take m) r0 / 2^k))∧m'≤min 800 out.length∧(∀ j,m'≤j→j<min 800 out.length→ds'[j]?=some 48)∧m≤r0+out.length∧
      Mem B wc ((b,240,decL ds' m' (dp - (r0 - 1:Nat)) neg tr')::L) w'):=by
 have hM:=hM0
 have hl:=hD.len
 refine enter (l:=[.pointer (some ⟨b,0,none⟩),.int .i64 (-(k:Int))]) 35 Tryz.func202 rfl rfl (Bo (Sq (Rg (Mv 3 rfl (Gv rfl (fun _ hF=>gives_load hF hM 0 rfl Tryz.underlying3 rfl rfl rfl (dget_nd hl)) (Md 2 [0,1,4] rfl (Nx (C1 rfl (fun ht=>absurd ht (by simp;omega)) (Sq (Rg (Md 3 [0,1,10] rfl (Nx (C1 rfl (fun ht=>absurd (of_decide_eq_true ht) (by omega)) (Sq (Rg (Md 3 [0,1,23] rfl (Nx (D2 rfl (fun ht=>absurd (of_decide_eq_false ht) (by omega)) (Sq (Bo (Kp [0,1] rfl ?_)))))))))))))))))))));intro a hF
 refine loopX (fun (x:Unit) a w=>Fr 37 [(0,.pointer (some ⟨b,0,none⟩)),(1,.int .i64 (-(k:Int)))] a∧Mem B wc ((b,240,decL ds m dp neg tr)::L) w) (fun _=>0) (()) ?_ (fun x a w hI=> ?_)
 · exact ⟨hF,hM⟩
 clear hF hM
 obtain ⟨hF,hM⟩:=hI
 revert a;refine Sq (Sq (Rg (Md 2 [0,1,27] rfl (Nx (C1 rfl (fun ht=>absurd (of_decide_eq_true ht) (by omega)) (Ex (Ot (Ot (Ob (Nx (Rg (Mv 2 rfl (Gv rfl (fun _ hF=>gives_neg hF rfl rfl (((k:Nat):Int)) (by rw [wrap_i64 (by omega) (by omega)];omega) _) (Gv rfl (fun _ hF=>gives_conv hF rfl Tryz.underlying3 Tryz.underlying157 rfl (((k:Nat):Int)) (u64_in (by omega) (by omega)) _) (Cl rfl rfl rfl (rightShift_walk hD h0 h1 h2 hdp hM) ?_)))))))))))))))
 clear hM;intro w v hR
 obtain ⟨rfl,hpost⟩:=hR
 exact Md 0 [] rfl (Nb (Z0 rfl ⟨_,rfl,rfl,hpost⟩))
theorem shiftFar_walk {B:Nat}{wc:World}{L:List Bk}{b:Nat}{ds:Str}{dp:Int}{neg tr:Bool}{m K:Nat}(hD:Dec ds m) (h0:0<m) (h1:1≤K) (h2:K≤2^20) (hdp: -2^30≤dp∧dp≤2^30) {w0:World}(hM0:Mem B wc ((b,240,decL ds m dp neg tr)::L) w0):
    Calls Tryz.prog 202 #[.pointer (some ⟨b,0,none⟩),.int .i64 (-(K:Int))] w0 (Ret fun v w'=>v= .tuple #[]∧∃ (ds':Str) (m':Nat) (dp':Int) (tr':Bool),Dec ds' m'∧0<m'∧dp'≤dp∧dp - 20*(K:Int)≤dp'∧Mem B wc ((b,240,decL ds' m' dp' neg tr')::L) w'):=by
 have hM:=hM0
 have hl:=hD.len
 refine enter (l:=[.pointer (some ⟨b,0,none⟩),.int .i64 (-(K:Int))]) 35 Tryz.func202 rfl rfl (Bo (Sq (Rg (Mv 3 rfl (Gv rfl (fun _ hF=>gives_load hF hM 0 rfl Tryz.underlying3 rfl rfl rfl (dget_nd hl)) (Md 2 [0,1,4] rfl (Nx (C1 rfl (fun ht=>absurd ht (by simp;omega)) (Sq (Rg (Md 3 [0,1,10] rfl (Nx (C1 rfl (fun ht=>absurd (of_decide_eq_true ht) (by omega)) (Sq (Rg (Md 3 [0,1,23] rfl (Nx (D2 rfl (fun ht=>absurd (of_decide_eq_false ht) (by omega)) (Sq (Bo (Kp [0,1] rfl ?_)))))))))))))))))))));intro a hF
 refine loopX (fun (k:Nat) a w=>∃ (ds:Str) (m:Nat) (dq:Int) (tr:Bool),Fr 37 [(0,.pointer (some ⟨b,0,none⟩)),(1,.int .i64 (-(k:Int)))] a∧Mem B wc ((b,240,decL ds m dq neg tr)::L) w∧Dec ds m∧0<m∧1≤k∧k≤K∧dq≤dp∧dp - 20*((K:Int) - k)≤dq) (fun k=>k) (K) ?_ (fun k a w hI=> ?_)
 · exact ⟨ds,m,dp,tr,hF,hM,hD,h0,h1,Nat.le_refl _,Int.le_refl _,by omega⟩
 clear hF hM
 clear hD h0 hl
 obtain ⟨ds,m,dq,tr,hF,hM,hD,h0,hk1,hkK,hdq1,hdq2⟩:=hI
 have hl:=hD.len
 revert a;refine Sq (Sq (Rg (Md 2 [0,1,27] rfl (Nx (Ce rfl (fun ht=> ?_) ((fun ht=> ?_)))))))
 ·
  have h60:k≤60:=by have:=of_decide_eq_false ht;omega
  refine Ex (Ot (Ot (Ob (Nx (Rg (Mv 2 rfl (Gv rfl (fun _ hF=>gives_neg hF rfl rfl (((k:Nat):Int)) (by rw [wrap_i64 (by omega) (by omega)];omega) _) (Gv rfl (fun _ hF=>gives_conv hF rfl Tryz.underlying3 Tryz.underlying157 rfl (((k:Nat):Int)) (u64_in (by omega) (by omega)) _) (Cl rfl rfl rfl (rightShift_walk (k:=k) hD h0 hk1 h60 (by omega) hM) ?_)))))))))
  clear hM;intro w v hR
  obtain ⟨rfl,ds',out,m',r0,tr',hD',h0',_,hr1,hr20,_,_,_,_,_,_,_,_,hM⟩:=hR
  exact Md 0 [] rfl (Nb (Z0 rfl ⟨_,rfl,rfl,_,_,_,_,hD',h0',by omega,by omega,hM⟩))
 have h60:60<k:=by have:=of_decide_eq_true ht;omega
 refine Sk (Nx (Bo (Sq (Rg (Mv 1 rfl (Cl rfl rfl rfl (rightShift_walk (k:=60) hD h0 (by decide) (by decide) (by omega) hM) ?_))))))
 clear hM;intro w v hR
 obtain ⟨rfl,ds',out,m',r0,tr',hD',h0',_,hr1,hr20,_,_,_,_,_,_,_,_,hM⟩:=hR
 refine Md 0 [0,1] rfl (Nx (Rg (Mv 1 rfl (Sm (-((k - 60:Nat):Int)) rfl (by omega) (Md 1 [0,1] rfl (Nb (Kp [0,1] rfl ?_)))))));intro a hF
 exact ⟨k - 60,⟨_,_,_,_,hF,hM,hD',h0',by omega,by omega,by omega,by omega⟩,by omega⟩
theorem shouldUp_walk {B:Nat}{wc:World}{L:List Bk}{b:Nat}{ds:Str}{dp:Int}{neg tr:Bool}{m:Nat}(hD:Dec ds m) (k:Int) {w0:World}(hM0:Mem B wc ((b,240,decL ds m dp neg tr)::L) w0):
    Calls Tryz.prog 238 #[.pointer (some ⟨b,0,none⟩),.int .i64 k] w0 (Ret fun v w'=>(∃ up:Bool,v= .bool up)∧Mem B wc ((b,240,decL ds m dp neg tr)::L) w'):=by
 have hM:=hM0
 have hl:=hD.len
 have hm:=hD.le
 refine enter (l:=[.pointer (some ⟨b,0,none⟩),.int .i64 k]) 54 Tryz.func238 rfl rfl (Sq (Rg (Md 1 [0,1] rfl (Nx (Sq (Sq ?_))))))
 rcases (show k<0∨(0≤k∧(m:Int)≤k)∨(0≤k∧k<m) by omega) with hk | hk | hk
 · exact Rg (Mv 1 rfl (Bt rfl (by omega) (Md 8 [0,1,14] rfl (Nx (Ct rfl (Sq (Rg (Md 1 [4] rfl (Nx (Re (Rt (Y1 rfl rfl ⟨_,rfl,⟨_,rfl⟩,hM⟩))))))))))))
 · exact Rg (Mv 1 rfl (Bf rfl (by omega) (Mv 5 rfl (Gv rfl (fun _ hF=>gives_load hF hM 0 rfl Tryz.underlying3 rfl rfl rfl (dget_nd hl)) (Bt rfl (by omega) (Md 1 [0,1,14] rfl (Nx (Ct rfl (Sq (Rg (Md 1 [4] rfl (Nx (Re (Rt (Y1 rfl rfl ⟨_,rfl,⟨_,rfl⟩,hM⟩)))))))))))))))
 refine Rg (Mv 1 rfl (Bf rfl (by omega) (Mv 5 rfl (Gv rfl (fun _ hF=>gives_load hF hM 0 rfl Tryz.underlying3 rfl rfl rfl (dget_nd hl)) (Bf rfl (by omega) (Md 1 [0,1,14] rfl (Nx (Cd rfl (fun ht=> ?_) ((fun ht=> ?_))))))))))
 · cases ht
 obtain ⟨j,rfl⟩:∃ j:Nat,k=(j:Int):=⟨k.toNat,by omega⟩
 have hjm:j<m:=by omega
 obtain ⟨c,hc,hcd⟩:=hD.at hjm
 refine Sk (Nx (Sq (Sq ?_)))
 rcases (Classical.em (c=53)) with h53 | h53
 ·
  refine Rg (Mv 4 rfl (Gv rfl (fun _ hF=>gives_indexAddrD (j) hF rfl rfl rfl rfl (by omega) _) (Gv rfl (fun _ hF=>gives_load hF hM 0 rfl Tryz.underlying5 rfl rfl rfl (dget_dig (hc))) (Qt 53 rfl rfl h53 (Mv 2 rfl (Sm (((j+1:Nat):Int)) rfl (by omega) (Mv 3 rfl (Gv rfl (fun _ hF=>gives_load hF hM 0 rfl Tryz.underlying3 rfl rfl rfl (dget_nd hl)) (Md 2 [0,1,30] rfl (Nx (D0 rfl ?_ ?_)))))))))))
  · exact Sk (Nx (Sq (Rg (Mv 4 rfl (Gv rfl (fun _ hF=>gives_indexAddrD (j) hF rfl rfl rfl rfl (by omega) _) (Gv rfl (fun _ hF=>gives_load hF hM 0 rfl Tryz.underlying5 rfl rfl rfl (dget_dig (hc))) (Md 2 [4] rfl (Nx (Re (Y1 rfl rfl ⟨_,rfl,⟨_,rfl⟩,hM⟩))))))))))
  refine Sq (Sq (Rg (Mv 3 rfl (Gv rfl (fun _ hF=>gives_load hF hM 0 rfl Tryz.underlying4 rfl rfl rfl (dget_tr hl)) (Md 0 [0,1,34] rfl (Nx (C0 rfl ?_ ?_)))))))
  · exact Sq (Rg (Md 1 [4] rfl (Nx (Re (Rt (Rt (Y1 rfl rfl ⟨_,rfl,⟨_,rfl⟩,hM⟩)))))))
  refine Sk (Nx (Sq ?_))
  rcases Nat.eq_zero_or_pos j with hj0 | hj0
  · exact Rg (Mv 1 rfl (Bf rfl (by omega) (Md 13 [4] rfl (Nx (Re (Rt (Y1 rfl rfl ⟨_,rfl,⟨_,rfl⟩,hM⟩)))))))
  obtain ⟨c2,hc2,hcd2⟩:=hD.at (show j - 1<m by omega)
  exact Rg (Mv 1 rfl (Bt rfl (by omega) (Mv 3 rfl (Sm (((j - 1:Nat):Int)) rfl (by omega) (Mv 2 rfl (Gv rfl (fun _ hF=>gives_indexAddrD (j - 1) hF rfl rfl rfl rfl (by omega) _) (Gv rfl (fun _ hF=>gives_load hF hM 0 rfl Tryz.underlying5 rfl rfl rfl (dget_dig (hc2))) (Mv 1 rfl (Gv rfl (fun _ hF=>gives_rem (_) hF rfl rfl rfl (by decide) rfl _) (Md 3 [4] rfl (Nx (Re (Rt (Y1 rfl rfl ⟨_,rfl,⟨_,rfl⟩,hM⟩))))))))))))))
 exact Rg (Mv 4 rfl (Gv rfl (fun _ hF=>gives_indexAddrD (j) hF rfl rfl rfl rfl (by omega) _) (Gv rfl (fun _ hF=>gives_load hF hM 0 rfl Tryz.underlying5 rfl rfl rfl (dget_dig (hc))) (Qf 53 rfl rfl h53 (Md 9 [0,1,30] rfl (Nx (Cf rfl (Sk (Nx (Sq (Rg (Mv 4 rfl (Gv rfl (fun _ hF=>gives_indexAddrD (j) hF rfl rfl rfl rfl (by omega) _) (Gv rfl (fun _ hF=>gives_load hF hM 0 rfl Tryz.underlying5 rfl rfl rfl (dget_dig (hc))) (Md 2 [4] rfl (Nx (Re (Y1 rfl rfl ⟨_,rfl,⟨_,rfl⟩,hM⟩))))))))))))))))))
theorem rounded_walk {B:Nat}{wc:World}{L:List Bk}{b:Nat}{ds:Str}{dp:Int}{neg tr:Bool}{m:Nat}(hD:Dec ds m) {w0:World}(hM0:Mem B wc ((b,240,decL ds m dp neg tr)::L) w0):
    Calls Tryz.prog 245 #[.pointer (some ⟨b,0,none⟩)] w0 (Ret fun v w'=>(∃ z:Int,v= .int .u64 z)∧Mem B wc ((b,240,decL ds m dp neg tr)::L) w'):=by
 have hM:=hM0
 have hl:=hD.len
 have hm:=hD.le
 refine enter (l:=[.pointer (some ⟨b,0,none⟩)]) 55 Tryz.func245 rfl rfl (Sq (Rg (Md 1 [0] rfl (Nx (Sq (Sq (Rg (Mv 3 rfl (Gv rfl (fun _ hF=>gives_load hF hM 0 rfl Tryz.underlying3 rfl rfl rfl (dget_dp hl)) (Md 1 [0,9] rfl (Nx (C2 rfl ?_ ((fun ht=> ?_))))))))))))))
 · exact Sq (Rg (Md 1 [2] rfl (Nx (Re (Rt (Y1 rfl rfl ⟨_,rfl,⟨_,rfl⟩,hM⟩))))))
 have hdp:=of_decide_eq_false ht
 refine Sk (Nx (Sq (Rg (Md 1 [0] rfl (Nx (Sq (Rg (Md 1 [0,4] rfl (Nx ?_)))))))));intro a hF
 refine cutF (fun a w=>∃ i:Nat,∃ z:Int,Fr 56 [(0,.pointer (some ⟨b,0,none⟩)),(3,.int .i64 (i:Int)),(4,.int .u64 z)] a∧Mem B wc ((b,240,decL ds m dp neg tr)::L) w∧i≤m) (fun a w h=> ?_) ?_
 ·
  clear hF hM
  obtain ⟨i,z,hF,hM,him⟩:=h
  revert a;refine Sq (Bo (Kp [0,3,4] rfl ?_));intro a hF
  refine loopX (fun (i:Nat) a w=>∃ z:Int,Fr 56 [(0,.pointer (some ⟨b,0,none⟩)),(3,.int .i64 (i:Int)),(4,.int .u64 z)] a∧Mem B wc ((b,240,decL ds m dp neg tr)::L) w∧i≤m+20) (fun i=>m+20 - i) (i) ?_ (fun i a w hI=> ?_)
  · exact ⟨_,hF,hM,by omega⟩
  clear hF hM
  clear him
  obtain ⟨z,hF,hM,him⟩:=hI
  revert a;refine Sq (Sq (Rg (Mv 4 rfl (Gv rfl (fun _ hF=>gives_load hF hM 0 rfl Tryz.underlying3 rfl rfl rfl (dget_dp hl)) (Md 1 [0,3,4,42] rfl (Nx (C1 rfl (fun ht=> ?_) ?_)))))))
  ·
   have hlt:=of_decide_eq_true ht
   refine Sk (Nx (Sq (Bo (Rg (Md 3 [0,3,4] rfl (Nb (Nx (Rg (Mv 1 rfl (Sm (((i+1:Nat):Int)) rfl (by omega) (Md 1 [0,3,4] rfl ?_)))))))))));intro a hF
   exact ⟨i+1,⟨_,hF,hM,by omega⟩,by omega⟩
  refine Ex (Ot (Ot (Ob (Nx (Sq (Sq (Rg (Mv 4 rfl (Gv rfl (fun _ hF=>gives_load hF hM 0 rfl Tryz.underlying3 rfl rfl rfl (dget_dp hl)) (Cl rfl rfl rfl (shouldUp_walk hD dp hM) ?_))))))))))
  clear hM;intro w v hR
  obtain ⟨⟨up,rfl⟩,hM⟩:=hR
  refine Md 0 [4,52] rfl (Nx (D0 rfl ?_ ?_))
  · exact Sk (Nx (Sq (Rg (Md 2 [2] rfl (Nx (Re (Y1 rfl rfl ⟨_,rfl,⟨_,rfl⟩,hM⟩)))))))
  exact Rg (Md 3 [4] rfl (Nx (Sq (Rg (Md 2 [2] rfl (Nx (Re (Y1 rfl rfl ⟨_,rfl,⟨_,rfl⟩,hM⟩))))))))
 revert a;refine Sq (Rg (Md 1 [0,3,4] rfl (Nx (Bo (Kp [0,3,4] rfl ?_)))));intro a hF
 refine loopX (fun (i:Nat) a w=>∃ z:Int,Fr 56 [(0,.pointer (some ⟨b,0,none⟩)),(3,.int .i64 (i:Int)),(4,.int .u64 z)] a∧Mem B wc ((b,240,decL ds m dp neg tr)::L) w∧i≤m) (fun i=>m - i) (0) ?_ (fun i a w hI=> ?_)
 · exact ⟨_,hF,hM,Nat.zero_le _⟩
 clear hF hM
 obtain ⟨z,hF,hM,him⟩:=hI
 revert a;refine Sq (Sq ?_)
 rcases (show dp≤(i:Int)∨((i:Int)<dp∧i=m)∨((i:Int)<dp∧i<m) by omega) with hk | hk | hk
 ·
  refine Rg (Mv 4 rfl (Gv rfl (fun _ hF=>gives_load hF hM 0 rfl Tryz.underlying3 rfl rfl rfl (dget_dp hl)) (Bf rfl (by omega) (Md 8 [0,3,4,23] rfl (Nx (Cf rfl (Ex (Ot (Ot (Ob (Kp [0,3,4] rfl ?_)))))))))));intro a hF
  exact ⟨i,_,hF,hM,him⟩
 ·
  refine Rg (Mv 4 rfl (Gv rfl (fun _ hF=>gives_load hF hM 0 rfl Tryz.underlying3 rfl rfl rfl (dget_dp hl)) (Bt rfl (by omega) (Mv 5 rfl (Gv rfl (fun _ hF=>gives_load hF hM 0 rfl Tryz.underlying3 rfl rfl rfl (dget_nd hl)) (Bf rfl (by omega) (Md 1 [0,3,4,23] rfl (Nx (Cf rfl (Ex (Ot (Ot (Ob (Kp [0,3,4] rfl ?_))))))))))))));intro a hF
  exact ⟨i,_,hF,hM,him⟩
 obtain ⟨c,hc,hcd⟩:=hD.at hk.2
 refine Rg (Mv 4 rfl (Gv rfl (fun _ hF=>gives_load hF hM 0 rfl Tryz.underlying3 rfl rfl rfl (dget_dp hl)) (Bt rfl (by omega) (Mv 5 rfl (Gv rfl (fun _ hF=>gives_load hF hM 0 rfl Tryz.underlying3 rfl rfl rfl (dget_nd hl)) (Bt rfl (by omega) (Md 1 [0,3,4,23] rfl (Nx (Ct rfl (Sk (Nx (Sq (Bo (Rg (Mv 6 rfl (Gv rfl (fun _ hF=>gives_indexAddrD (i) hF rfl rfl rfl rfl (by omega) _) (Gv rfl (fun _ hF=>gives_load hF hM 0 rfl Tryz.underlying5 rfl rfl rfl (dget_dig (hc))) (Md 4 [0,3,4] rfl (Nb (Nx (Rg (Mv 1 rfl (Sm (((i+1:Nat):Int)) rfl (by omega) (Md 1 [0,3,4] rfl ?_))))))))))))))))))))))));intro a hF
 exact ⟨i+1,⟨_,hF,hM,by omega⟩,by omega⟩
end Go.Sx
namespace Js
def bigE (N:Nat) (q e:Int):Prop:=TH*10^(-q).toNat*2^(-e).toNat≤N*10^q.toNat*2^e.toNat
theorem bigE_iff {N:Nat}{q e:Int}(a b c d:Nat) (h1:(b:Int) - a=q) (h2:(d:Int) - c=e):bigE N q e↔TH*10^a*2^c≤N*10^b*2^d:=by
  unfold bigE
  have g:∀ (z:Int) (s t:Nat),(t:Int) - s=z→∃ k,s=(-z).toNat+k∧t=z.toNat+k:=fun z s t h=>⟨s - (-z).toNat,by omega,by omega⟩
  obtain ⟨i,ha,hb⟩:=g q a b h1
  obtain ⟨j,hc,hd⟩:=g e c d h2
  rw [ha,hb,hc,hd,Nat.pow_add 10,Nat.pow_add 10,Nat.pow_add 2,Nat.pow_add 2]
  have hk:0<10^i*2^j:=Nat.mul_pos (Nat.pow_pos (by decide)) (Nat.pow_pos (by decide))
  have e1:∀ (X:Nat) (u v:Nat),X*(u*10^i)*(v*2^j)=X*u*v*(10^i*2^j):=fun X u v=>by
    rw [←Nat.mul_assoc X u,←Nat.mul_assoc _ v,Nat.mul_right_comm (X*u) (10^i) v,Nat.mul_assoc (X*u*v)]
  rw [e1,e1]
  exact (Nat.mul_le_mul_right_iff hk).symm
theorem bigE_zero (N:Nat) (q:Int):bigE N q 0↔big N q:=by
  unfold bigE big
  rw [show (-(0:Int)).toNat=0 from rfl,show (0:Int).toNat=0 from rfl,Nat.pow_zero,Nat.mul_one,Nat.mul_one]
theorem bigE_10 (N k:Nat) (q e:Int):bigE (N*10^k) q e↔bigE N (q+k) e:=by
  rw [bigE_iff (-q).toNat q.toNat (-e).toNat e.toNat (by omega) (by omega),bigE_iff (q:=q+k) (-q).toNat (k+q.toNat) (-e).toNat e.toNat (by omega) (by omega),Nat.pow_add,←Nat.mul_assoc N]
theorem bigE_2 (N k:Nat) (q e:Int):bigE (N*2^k) q e↔bigE N q (e+k):=by
  rw [bigE_iff (-q).toNat q.toNat (-e).toNat e.toNat (by omega) (by omega),bigE_iff (e:=e+k) (-q).toNat q.toNat (-e).toNat (k+e.toNat) (by omega) (by omega),Nat.pow_add,Nat.mul_right_comm N (2^k),Nat.mul_assoc _ (2^k)]
theorem TH_eq:TH=18014398509481983*2^970:=by decide+kernel
theorem bigE_floor {N j s:Nat}{e:Int}(he:e≤970+s):bigE (N / 10^j) (-(s:Int)) e↔bigE N (-((s+j:Nat):Int)) e:=by
  obtain ⟨t,ht⟩:∃ t:Nat,(t:Int)=970+s - e:=⟨(970+s - e).toNat,by omega⟩
  rw [bigE_iff s 0 t (970+s) (by omega) (by omega),bigE_iff (s+j) 0 t (970+s) (by omega) (by omega),Nat.pow_zero,Nat.mul_one,Nat.mul_one]
  have e1:TH*10^s*2^t=18014398509481983*5^s*2^t*2^(970+s):=by
    rw [TH_eq,show (10:Nat)=5*2 from rfl,Nat.mul_pow,Nat.pow_add]
    generalize 5^s=a
    generalize 2^s=b
    generalize 2^970=c
    generalize 2^t=d
    rw [Nat.mul_assoc _ c,Nat.mul_left_comm c a b,←Nat.mul_assoc _ a,Nat.mul_right_comm _ (c*b) d]
  have e2:TH*10^(s+j)*2^t=18014398509481983*5^s*2^t*10^j*2^(970+s):=by
    rw [Nat.pow_add,←Nat.mul_assoc,Nat.mul_right_comm (TH*10^s) (10^j),e1,Nat.mul_right_comm _ (2^(970+s)) (10^j)]
  rw [e1,e2]
  have hp:0<2^(970+s):=Nat.pow_pos (by decide)
  rw [Nat.mul_le_mul_right_iff hp,Nat.mul_le_mul_right_iff hp]
  exact Nat.le_div_iff_mul_le (Nat.pow_pos (by decide))
def le310 (N:Nat) (q e:Int):Prop:=N*10^q.toNat*2^e.toNat≤10^310*10^(-q).toNat*2^(-e).toNat
theorem le310_iff {N:Nat}{q e:Int}(a b c d:Nat) (h1:(b:Int) - a=q) (h2:(d:Int) - c=e):le310 N q e↔N*10^b*2^d≤10^310*10^a*2^c:=by
  unfold le310
  have g:∀ (z:Int) (s t:Nat),(t:Int) - s=z→∃ k,s=(-z).toNat+k∧t=z.toNat+k:=fun z s t h=>⟨s - (-z).toNat,by omega,by omega⟩
  obtain ⟨i,ha,hb⟩:=g q a b h1
  obtain ⟨j,hc,hd⟩:=g e c d h2
  rw [ha,hb,hc,hd,Nat.pow_add 10 (-q).toNat,Nat.pow_add 10 q.toNat,Nat.pow_add 2,Nat.pow_add 2]
  have hk:0<10^i*2^j:=Nat.mul_pos (Nat.pow_pos (by decide)) (Nat.pow_pos (by decide))
  have e1:∀ (X:Nat) (u v:Nat),X*(u*10^i)*(v*2^j)=X*u*v*(10^i*2^j):=fun X u v=>by
    rw [←Nat.mul_assoc X u,←Nat.mul_assoc _ v,Nat.mul_right_comm (X*u) (10^i) v,Nat.mul_assoc (X*u*v)]
  rw [e1,e1]
  exact (Nat.mul_le_mul_right_iff hk).symm
theorem le310_10 (N k:Nat) (q e:Int):le310 (N*10^k) q e↔le310 N (q+k) e:=by
  rw [le310_iff (-q).toNat q.toNat (-e).toNat e.toNat (by omega) (by omega),le310_iff (q:=q+k) (-q).toNat (k+q.toNat) (-e).toNat e.toNat (by omega) (by omega),Nat.pow_add 10 k,←Nat.mul_assoc N]
theorem le310_2 (N k:Nat) (q e:Int):le310 (N*2^k) q e↔le310 N q (e+k):=by
  rw [le310_iff (-q).toNat q.toNat (-e).toNat e.toNat (by omega) (by omega),le310_iff (e:=e+k) (-q).toNat q.toNat (-e).toNat (k+e.toNat) (by omega) (by omega),Nat.pow_add 2 k,Nat.mul_right_comm N (2^k),Nat.mul_assoc _ (2^k)]
theorem le310_mono {N N':Nat}{q e:Int}(h:N'≤N) (hl:le310 N q e):le310 N' q e:=Nat.le_trans (Nat.mul_le_mul_right _ (Nat.mul_le_mul_right _ h)) hl
structure Sound (N:Nat) (q:Int) (ds:Str) (m:Nat) (dq e:Int):Prop where
  thr:bigE (worth (ds.take m)) (dq - m) e↔big N q
  cap:le310 (worth (ds.take m)) (dq - m) e
theorem lt_1030:10^310<2^1030:=by decide+kernel
theorem Sound.pow {N:Nat}{q:Int}{ds:Str}{m:Nat}{dq e:Int}(h:Sound N q ds m dq e) (hD:Dec ds m) (h0:0<m) (hq:0<dq):e≤1030:=by
  rcases Int.lt_or_le 1030 e with h1 | h1
  · exfalso
    obtain ⟨k,rfl⟩:∃ k:Nat,e=(k:Int):=⟨e.toNat,by omega⟩
    have h2:=h.cap
    rw [le310_iff m dq.toNat 0 k (by omega) (by omega),Nat.pow_zero,Nat.mul_one] at h2
    have h3:=hD.low h0
    have h4:10^m≤worth (ds.take m)*10^dq.toNat:=by
      refine Nat.le_trans ?_ (Nat.mul_le_mul h3 (Nat.pow_le_pow_right (by decide) (show 1≤dq.toNat by omega)))
      rw [←Nat.pow_add]
      exact Nat.pow_le_pow_right (by decide) (by omega)
    have h5:10^m*2^k≤10^310*10^m:=Nat.le_trans (Nat.mul_le_mul_right _ h4) h2
    rw [Nat.mul_comm] at h5
    have h6:=Nat.le_of_mul_le_mul_right h5 (Nat.pow_pos (by decide))
    have h7:=Nat.pow_le_pow_right (n:=2) (by decide) (show 1030≤k by omega)
    have:=lt_1030
    omega
  · exact h1
theorem worth_trim {arr:Str}{m:Nat}:∀ (n:Nat),m+n≤arr.length→(∀ j,m≤j→j<m+n→arr[j]?=some 48)→worth (arr.take (m+n))=worth (arr.take m)*10^n
  | 0,_,_=>by simp
  | n + 1, hl, h => by
    rw [←Nat.add_assoc,take_next (h (m+n) (by omega) (by omega)),worth_snoc,worth_trim n (by omega) (fun j h1 h2=>h j h1 (by omega)),Nat.pow_succ,show dg 48=0 from rfl,Nat.add_zero,Nat.mul_assoc]
theorem worth_cut (out:Str) (n:Nat) (hd:Digs out):worth (out.take n)=worth out / 10^(out.length - n):=by
  have e:=worth_append (out.take n) (out.drop n)
  rw [List.take_append_drop,List.length_drop] at e
  have h1:=worth_lt (hd.drop n)
  rw [List.length_drop] at h1
  rw [e]
  generalize 10^(out.length - n)=p at*
  have hp:0<p:=by omega
  rw [Nat.mul_comm,Nat.mul_add_div hp,Nat.div_eq_of_lt h1,Nat.add_zero]
theorem Sound.keep {N:Nat}{q:Int}{ds' out:Str}{m':Nat}{dq' e':Int}(hD':Dec ds' m') (hd:Digs out) (ht:ds'.take (min 800 out.length)=out.take (min 800 out.length)) (hm:m'≤min 800 out.length)
    (hz:∀ j,m'≤j→j<min 800 out.length→ds'[j]?=some 48) (hdq:dq'≤800) (he:e'≤1770 - dq') (h1:bigE (worth out) (dq' - out.length) e'↔big N q) (h2:le310 (worth out) (dq' - out.length) e'):Sound N q ds' m' dq' e':=by
  have hl:=hD'.len
  obtain ⟨M,hM⟩:∃ M,M=min 800 out.length:=⟨_,rfl⟩
  rw [←hM] at ht hm hz
  have h3:=worth_trim (arr:=ds') (m:=m') (M - m') (by omega) (fun j h4 h5=>hz j h4 (by omega))
  rw [show m'+(M - m')=M by omega,ht,worth_cut out M hd] at h3
  have e1:bigE (worth (ds'.take m')) (dq' - m') e'↔bigE (worth out / 10^(out.length - M)) (dq' - M) e':=by
    rw [h3,bigE_10,show dq' - (M:Int)+((M - m':Nat):Int)=dq' - m' by omega]
  have e2:le310 (worth (ds'.take m')) (dq' - m') e'↔le310 (worth out / 10^(out.length - M)) (dq' - M) e':=by
    rw [h3,le310_10,show dq' - (M:Int)+((M - m':Nat):Int)=dq' - m' by omega]
  rcases Nat.lt_or_ge 800 out.length with h6 | h6
  · obtain ⟨s,hs⟩:∃ s:Nat,(s:Int)=M - dq':=⟨((M:Int) - dq').toNat,by omega⟩
    have h7:=bigE_floor (N:=worth out) (j:=out.length - M) (s:=s) (e:=e') (by omega)
    rw [show -(s:Int)=dq' - M by omega,show -((s+(out.length - M):Nat):Int)=dq' - out.length by omega] at h7
    refine ⟨e1.trans (h7.trans h1),e2.2 ?_⟩
    have h8:=Nat.div_mul_le_self (worth out) (10^(out.length - M))
    have h9:=le310_mono h8 h2
    rw [le310_10,show dq' - (out.length:Int)+((out.length - M:Nat):Int)=dq' - M by omega] at h9
    exact h9
  · have hMl:M=out.length:=by omega
    rw [hMl,Nat.sub_self,Nat.pow_zero,Nat.div_one] at e1 e2
    exact ⟨e1.trans h1,e2.2 h2⟩
theorem Sound.left {N:Nat}{q:Int}{ds ds' out:Str}{m m' k:Nat}{dq e:Int}(h:Sound N q ds m dq e) (hD:Dec ds m) (hD':Dec ds' m') (hd:Digs out) (hl:out.length=m+ldel (ds.take m) k) (hw:worth out=worth (ds.take m)*2^k)
    (ht:ds'.take (min 800 out.length)=out.take (min 800 out.length)) (hm:m'≤min 800 out.length) (hz:∀ j,m'≤j→j<min 800 out.length→ds'[j]?=some 48) (hdq:dq+(ldel (ds.take m) k:Nat)≤800) (he:e - k≤1770 - (dq+(ldel (ds.take m) k:Nat))):
    Sound N q ds' m' (dq+(ldel (ds.take m) k:Nat)) (e - k):=by
  have e1:dq+(ldel (ds.take m) k:Nat) - (out.length:Int)=dq - m:=by omega
  refine Sound.keep hD' hd ht hm hz hdq he ?_ ?_
  · rw [e1,hw,bigE_2,show e - (k:Int)+k=e by omega];exact h.thr
  · rw [e1,hw,le310_2,show e - (k:Int)+k=e by omega];exact h.cap
theorem Sound.right {N:Nat}{q:Int}{ds ds' out:Str}{m m' k r0:Nat}{dq e:Int}(h:Sound N q ds m dq e) (hD:Dec ds m) (hD':Dec ds' m') (hd:Digs out) (hr:1≤r0) (hw:rd (ds.take m) (r0+out.length)=worth out*2^k*10) (hlen:m≤r0+out.length)
    (ht:ds'.take (min 800 out.length)=out.take (min 800 out.length)) (hm:m'≤min 800 out.length) (hz:∀ j,m'≤j→j<min 800 out.length→ds'[j]?=some 48) (hdq:dq - ((r0 - 1:Nat):Int)≤800) (he:e+k≤1770 - (dq - ((r0 - 1:Nat):Int))):
    Sound N q ds' m' (dq - ((r0 - 1:Nat):Int)) (e+k):=by
  have hw2:worth (ds.take m)*10^(r0+out.length - m)=worth out*2^k*10^1:=by
    unfold rd at hw
    rw [hD.tlen,List.take_of_length_le (by rw [hD.tlen];exact hlen)] at hw
    rw [Nat.pow_one];exact hw
  refine Sound.keep hD' hd ht hm hz hdq he ?_ ?_
  · rw [←bigE_2,show dq - ((r0 - 1:Nat):Int) - (out.length:Int)=(dq - ((r0+out.length:Nat):Int))+((1:Nat):Int) by omega,←bigE_10,←hw2,bigE_10,show dq - ((r0+out.length:Nat):Int)+((r0+out.length - m:Nat):Int)=dq - m by omega]
    exact h.thr
  · rw [←le310_2,show dq - ((r0 - 1:Nat):Int) - (out.length:Int)=(dq - ((r0+out.length:Nat):Int))+((1:Nat):Int) by omega,←le310_10,←hw2,le310_10,show dq - ((r0+out.length:Nat):Int)+((r0+out.length - m:Nat):Int)=dq - m by omega]
    exact h.cap

end Js