/- Part 13 of the proof of FnJrTyped: the statement Rows.FnJrTypedCardSaid; no further condition. -/
import Derived.Test.YtelonenjneonlaaGreatDoorR12
set_option linter.all false
set_option exponentiation.threshold 3000
set_option maxRecDepth 100000
namespace Go.Sx
open Go.RowKit Go.Proofs Js Go.Proofs.YtelonenjneonlaaGreatDoorW.PrintWords
theorem NatV.zero (TB:List Bk):NatV TB (.slice none 0 0) 0:=⟨[],none,0,rfl,Nrm.nil,rfl,SlOf.nil _ _ _⟩
theorem pow10_32 (n:Nat):10^n≤2^(32*n):=by rw [Nat.pow_mul];exact Nat.pow_le_pow_left (by decide) n
theorem sml_digs {D:Str}(h:Digs D) (hl:D.length≤2^20):Sml (worth D):=⟨D.length,hl,Nat.lt_of_lt_of_le (worth_lt h) (pow10_32 _)⟩
theorem ofDigits_walk {B:Nat}{wc w0:World}{L:List Bk}(D:Str) (hd:Digs D) (hl:D.length≤2^20) (hM0:Mem B wc L w0):
    Calls Tryz.prog 120 #[.string (mkS D)] w0 (Ret fun v' w'=>∃ TB,NatV TB v' (worth D)∧Mem B wc (TB++L) w'):=by
 have hM:=hM0
 refine enter (l:=[.string (mkS D)]) 18 Tryz.func120 rfl rfl (Sq (Rg (Md 1 [0] rfl (Nx (Sq (Rg (Md 1 [0,3] rfl (Nx (Sq (Sq (Rg (Md 1 [0,3,4] rfl (Nx (Bo (Kp [0,3,4] rfl ?_)))))))))))))));intro a hF
 refine loopX (fun (i:Nat) a w=>∃ TB v',Fr 19 [(0,.string (mkS D)),(3,v'),(4,.int .i64 (i:Int))] a∧Mem B wc (TB++L) w∧NatV TB v' (worth (D.take i))∧i≤D.length) (fun i=>D.length - i) (0) ?_ (fun i a w hI=> ?_)
 · exact ⟨[],_,hF,hM,NatV.zero _,Nat.zero_le _⟩
 clear hF hM
 obtain ⟨TB,v',hF,hM,hN,hil⟩:=hI
 revert a;refine Sq (Sq (Rg (Md 4 [0,3,4,8] rfl (Nx (Ce rfl (fun ht=> ?_) ((fun ht=> ?_)))))))
 ·
  have hin:D.take i=D:=List.take_of_length_le (by have:=of_decide_eq_false ht;omega)
  rw [hin] at hN
  exact Ex (Ot (Ot (Ob (Nx (Sq (Rg (Md 2 [2] rfl (Nx (Re (Y1 rfl rfl ⟨_,rfl,TB,hN,hM⟩))))))))))
 have hi:i<D.length:=by have:=of_decide_eq_true ht;omega
 obtain ⟨c,hg⟩:∃ c,D[i]?=some c:=⟨_,List.getElem?_eq_getElem hi⟩
 have hcr:=dig_rng (hd c (List.mem_of_getElem? hg))
 have hdgc:dg c=c.toNat - 48:=rfl
 have hnext:worth (D.take (i+1))=dg c+10*worth (D.take i):=by rw [take_next hg,worth_snoc];omega
 refine Sk (Nx (Sq (Bo (Rg (Mv 3 rfl (Ix (i) c rfl hg (by omega) ?_))))));intro a hF
 refine op_sum hF rfl (((dg c:Nat):Int)) rfl rfl rfl rfl rfl rfl (by omega) (IntWalk.u8_in _ ⟨by omega,by omega⟩) ?_;clear hF a;intro a hF
 revert a;refine Gv rfl (fun _ hF=>gives_conv hF rfl Tryz.underlying5 Tryz.underlying186 rfl (((dg c:Nat):Int)) (by rw [IntKind.wrap_u32];omega) _) (Cl rfl rfl rfl (times_walk (f:=10) (c0:=dg c) (hN.mono (List.subset_append_left _ _)) (sml_digs (hd.take i) (by rw [List.length_take];omega)) (by decide) (by decide) (by omega) hM) ?_)
 clear hM;intro w v hR
 obtain ⟨TB2,hN2,hM⟩:=hR
 intro a hF
 generalize v=v2 at hF hN2
 revert a;refine Md 1 [0,3,4] rfl (Nb (Nx (Rg (Mv 1 rfl (Sm (((i+1:Nat):Int)) rfl (by omega) (Md 1 [0,3,4] rfl ?_))))));intro a hF
 exact ⟨i+1,⟨TB2++TB,v2,hF,by rw [List.append_assoc];exact hM,by rw [hnext];exact hN2.mono (List.subset_append_left _ _),hi⟩,by omega⟩
theorem tens_walk {B:Nat}{wc w0:World}{L:List Bk}{v:Value}{N k:Nat}(hN0:NatV L v N) (hs:Sml (N*10^k)) (hk:k≤2^40) (hM0:Mem B wc L w0):
    Calls Tryz.prog 122 #[v,.int .i64 (k:Int)] w0 (Ret fun v' w'=>∃ TB,NatV (TB++L) v' (N*10^k)∧Mem B wc (TB++L) w'):=by
 have hM:=hM0
 refine enter (l:=[v,.int .i64 (k:Int)]) 16 Tryz.func122 rfl rfl (Sq (Rg (Md 1 [0,1] rfl (Nx (Sq (Bo (Kp [0,1] rfl ?_)))))));intro a hF
 refine loopX (fun (j:Nat) a w=>∃ TB v',Fr 18 [(0,v'),(1,.int .i64 (j:Int))] a∧Mem B wc (TB++L) w∧NatV (TB++L) v' (N*10^(k - j))∧j≤k) (fun j=>j) (k) ?_ (fun j a w hI=> ?_)
 · exact ⟨[],_,hF,hM,by simpa using hN0,Nat.le_refl _⟩
 clear hF hM
 obtain ⟨TB,v',hF,hM,hN,hjk⟩:=hI
 revert a;refine Sq (Sq (Rg (Md 2 [0,1,6] rfl (Nx (C1 rfl (fun ht=> ?_) ?_)))))
 ·
  have h9:9≤j:=by have:=of_decide_eq_true ht;omega
  have hsj:Sml (N*10^(k - j)):=by obtain ⟨q,h1,h2⟩:=hs;exact ⟨q,h1,Nat.lt_of_le_of_lt (Nat.mul_le_mul_left _ (Nat.pow_le_pow_right (by decide) (by omega))) h2⟩
  refine Sk (Nx (Sq (Bo (Rg (Mv 1 rfl (Cl rfl rfl rfl (times_walk (f:=1000000000) (c0:=0) hN hsj (by decide) (by decide) (by decide) hM) ?_))))))
  clear hM;intro w v hR
  obtain ⟨TB2,hN2,hM⟩:=hR
  intro a hF
  generalize v=v2 at hF hN2
  revert a;refine Md 1 [0,1] rfl (Nb (Nx (Rg (Mv 1 rfl (Sm (((j - 9:Nat):Int)) rfl (by omega) (Md 1 [0,1] rfl ?_))))));intro a hF
  exact ⟨j - 9,⟨TB2++TB,v2,hF,by rw [List.append_assoc];exact hM,by rw [Nat.zero_add] at hN2;rw [show N*10^(k - (j - 9))=1000000000*(N*10^(k - j)) by rw [show k - (j - 9)=(k - j)+9 by omega,Nat.pow_add,←Nat.mul_assoc,Nat.mul_comm]];exact hN2.mono (by rw [List.append_assoc];exact List.subset_append_left _ _),by omega⟩,by omega⟩
 refine Ex (Ot (Ot (Ob (Nx (Sq (Bo (Kp [0,1] rfl ?_)))))));intro a hF
 refine loopX (fun (j:Nat) a w=>∃ TB v',Fr 18 [(0,v'),(1,.int .i64 (j:Int))] a∧Mem B wc (TB++L) w∧NatV (TB++L) v' (N*10^(k - j))∧j≤k) (fun j=>j) (j) ?_ (fun j a w hI=> ?_)
 · exact ⟨TB,_,hF,hM,hN,hjk⟩
 clear hF hM
 obtain ⟨TB,v',hF,hM,hN,hjk⟩:=hI
 revert a;refine Sq (Sq (Rg (Md 2 [0,1,12] rfl (Nx (Ce rfl (fun ht=> ?_) ((fun ht=> ?_)))))))
 ·
  have hj0:j=0:=by have:=of_decide_eq_false ht;omega
  subst hj0
  exact Ex (Ot (Ot (Ob (Nx (Sq (Rg (Md 2 [4] rfl (Nx (Re (Y1 rfl rfl ⟨_,rfl,TB,hN,hM⟩))))))))))
 have h1:1≤j:=by have:=of_decide_eq_true ht;omega
 have hsj:Sml (N*10^(k - j)):=by obtain ⟨q,h1,h2⟩:=hs;exact ⟨q,h1,Nat.lt_of_le_of_lt (Nat.mul_le_mul_left _ (Nat.pow_le_pow_right (by decide) (by omega))) h2⟩
 refine Sk (Nx (Sq (Bo (Rg (Mv 1 rfl (Cl rfl rfl rfl (times_walk (f:=10) (c0:=0) hN hsj (by decide) (by decide) (by decide) hM) ?_))))))
 clear hM;intro w v hR
 obtain ⟨TB2,hN2,hM⟩:=hR
 intro a hF
 generalize v=v2 at hF hN2
 revert a;refine Md 1 [0,1] rfl (Nb (Nx (Rg (Mv 1 rfl (Sm (((j - 1:Nat):Int)) rfl (by omega) (Md 1 [0,1] rfl ?_))))));intro a hF
 exact ⟨j - 1,⟨TB2++TB,v2,hF,by rw [List.append_assoc];exact hM,by rw [Nat.zero_add] at hN2;rw [show N*10^(k - (j - 1))=10*(N*10^(k - j)) by rw [show k - (j - 1)=(k - j)+1 by omega,Nat.pow_succ,←Nat.mul_assoc,Nat.mul_comm]];exact hN2.mono (by rw [List.append_assoc];exact List.subset_append_left _ _),by omega⟩,by omega⟩
theorem nrm_shift {l:List Nat}(h:Nrm l) (h0:l≠ []) (q:Nat):Nrm (List.replicate q 0++l):=by
  refine ⟨A32.append (fun a ha=>by rw [(List.mem_replicate.1 ha).2];decide) h.1,?_⟩
  have e:=List.getLast?_eq_some_getLast h0
  rw [List.getLast?_append,e,Option.some_or,←e]
  exact h.2
theorem val_shift (l:List Nat) (q:Nat):val (List.replicate q 0++l)=2^(32*q)*val l:=by rw [val_append,val_zeros,List.length_replicate,Nat.zero_add]
theorem pow_split (k:Nat):2^(32*(k / 32))*2^(k % 32)=2^k:=by rw [←Nat.pow_add,Nat.div_add_mod]
theorem p32_lt {s:Nat}(hs:s<32):2^s<2^32:=Nat.pow_lt_pow_right (by decide) hs
theorem shl32 {s:Nat}(hs:s<32):IntKind.u32.wrap (1*2^min s IntKind.u32.bits)=((2^s:Nat):Int):=by
  have h:=p32_lt hs
  rw [show min s IntKind.u32.bits=s from Nat.min_eq_left (Nat.le_of_lt hs),Int.one_mul,show ((2:Int)^s)=((2^s:Nat):Int) by simp]
  generalize 2^s=X at h ⊢
  rw [IntKind.wrap_u32]
  omega
theorem shift_walk {B:Nat}{wc w0:World}{L:List Bk}{v:Value}{N k:Nat}(hN0:NatV L v N) (hs:Sml N) (hk:k≤2^20) (hM0:Mem B wc L w0):
    Calls Tryz.prog 121 #[v,.int .i64 (k:Int)] w0 (Ret fun v' w'=>∃ TB,NatV (TB++L) v' (N*2^k)∧Mem B wc (TB++L) w'):=by
 obtain ⟨l,o,c,rfl,hl,rfl,hsl⟩:=hN0
 have hNV:NatV L (.slice o l.length c) (val l):=⟨l,o,c,rfl,hl,rfl,hsl⟩
 have hM:=hM0
 have hlen:=hs.len hl
 refine enter (l:=[.slice o l.length c,.int .i64 (k:Int)]) 18 Tryz.func121 rfl rfl (Sq (Rg (Md 1 [0,1] rfl (Nx (Sq (Sq (Rg (Md 3 [0,1,8] rfl (Nx (Cd rfl (fun ht=> ?_) ((fun ht=> ?_))))))))))))
 ·
  have h0:l=[]:=List.length_eq_zero_iff.1 (by have:=eq_of_beq ht;omega)
  refine Sq (Rg (Md 2 [4] rfl (Nx (Re (Rt ?_)))));intro a hF
  exact ret1 hF rfl rfl ⟨_,rfl,[],by rw [h0] at hNV ⊢;simpa [val] using hNV,hM⟩
 have h0:l≠ []:=by rintro rfl;simp at ht
 refine Sk (Nx (Sq (Rg (Mv 2 rfl (Gv rfl (fun _ hF=>gives_rem (((k % 32:Nat):Int)) hF rfl rfl rfl (by decide) (by rw [Int.tmod_eq_emod_of_nonneg (by omega)];omega) _) (Gv rfl (fun _ hF=>gives_shl ((k % 32)) (((2^(k % 32):Nat):Int)) hF rfl rfl rfl rfl (shl32 (by omega)) _) (Cl rfl rfl rfl (times_walk (f:=2^(k % 32)) (c0:=0) hNV hs (Nat.pow_pos (by decide)) (p32_lt (Nat.mod_lt _ (by decide))) (by decide) hM) ?_)))))))
 clear hM;intro w v hR
 obtain ⟨TB2,⟨l2,o2,c2,rfl,hl2,hv2,hsl2⟩,hM⟩:=hR
 refine Md 1 [1,5] rfl (Nx (Sq (Rg (Mv 1 rfl (Gv rfl (fun _ hF=>gives_quo (((k / 32:Nat):Int)) hF rfl rfl rfl (by decide) (by rw [Int.tdiv_eq_ediv_of_nonneg (by omega),wrap_i64 (by omega) (by omega)];omega) _) ?_)))));intro a hF
 refine op_mk32 hF hM rfl (k / 32) (k / 32) rfl rfl rfl rfl rfl rfl rfl (Nat.le_refl _) (by omega) ?_;clear hF hM a;intro a w b hF hRow hM
 revert a;refine Mv 1 rfl ?_
 have hlen2:l2.length≤l.length+1:=hl2.len (by rw [hv2,Nat.zero_add];have h1:=hl.1.lt;have h2:=p32_lt (s:=k % 32) (Nat.mod_lt _ (by decide));rw [p32];exact Nat.mul_lt_mul'' h2 h1)
 intro a hF
 refine op_appendR hF elt159 (R:=[(b,186,List.replicate (k / 32) (.int .u32 0))]) hRow hM hsl2 (List.subset_append_left _ _) (u32s_one _) (by omega) rfl rfl rfl rfl rfl rfl ?_;clear hF hM a;intro a w R2 sl2 hF hRow2 hM
 revert a;refine Md 1 [4] rfl (Nx (Re ?_));intro a hF
 exact ret1 hF rfl rfl ⟨_,rfl,R2++TB2,(nat_row hRow2 (by rw [u32s_append]) (by simp) (nrm_shift hl2 (by rintro rfl;have h1:=Nat.mul_pos (Nat.pow_pos (n:=k % 32) (show 0<2 by decide)) (Nat.lt_of_lt_of_le (Nat.pow_pos (by decide)) (hl.ge h0));rw [val] at hv2;omega) _) (by rw [val_shift,hv2,Nat.zero_add,←Nat.mul_assoc,pow_split,Nat.mul_comm])).mono (by rw [List.append_assoc];exact List.subset_append_left _ _),by rw [List.append_assoc];exact hM⟩
def cmpN (a b:Nat):Int:=if a<b then -1 else if a=b then 0 else 1
theorem cmpN_lt {a b:Nat}(h:a<b):cmpN a b= -1:=by unfold cmpN;rw [if_pos h]
theorem cmpN_gt {a b:Nat}(h:b<a):cmpN a b=1:=by unfold cmpN;rw [if_neg (by omega),if_neg (by omega)]
theorem cmpN_eq (a:Nat):cmpN a a=0:=by unfold cmpN;rw [if_neg (by omega),if_pos rfl]
theorem drop_prev {l r:List Nat}{j a:Nat}(h:l.drop j=r.drop j) (h1:1≤j) (hl:l[j - 1]?=some a) (hr:r[j - 1]?=some a):l.drop (j - 1)=r.drop (j - 1):=by
  obtain ⟨hl1,hl2⟩:=List.getElem?_eq_some_iff.1 hl
  obtain ⟨hr1,hr2⟩:=List.getElem?_eq_some_iff.1 hr
  rw [List.drop_eq_getElem_cons hl1,List.drop_eq_getElem_cons hr1,hl2,hr2,show j - 1+1=j by omega,h]
theorem against_walk {B:Nat}{wc w0:World}{L:List Bk}{v1 v2:Value}{N1 N2:Nat}(hN1:NatV L v1 N1) (hN2:NatV L v2 N2) (hs1:Sml N1) (hs2:Sml N2) (hM0:Mem B wc L w0):
    Calls Tryz.prog 123 #[v1,v2] w0 (Ret fun v w'=>v= .int .i64 (cmpN N1 N2)∧Mem B wc L w'):=by
 obtain ⟨l,o,c,rfl,hl,rfl,hsl⟩:=hN1
 obtain ⟨r,o2,c2,rfl,hr,rfl,hsr⟩:=hN2
 have hM:=hM0
 have hlen:=hs1.len hl
 have hlen2:=hs2.len hr
 refine enter (l:=[.slice o l.length c,.slice o2 r.length c2]) 39 Tryz.func123 rfl rfl (Sq (Rg (Md 1 [0,1] rfl (Nx (Sq (Sq (Rg (Md 5 [0,1,10] rfl (Nx (Cd rfl (fun ht=> ?_) ((fun ht=> ?_))))))))))))
 ·
  have hne:(l.length:Int)≠(r.length:Int):=by intro h;rw [h] at ht;simp at ht
  refine Sq (Sq (Rg (Md 5 [15] rfl (Nx (Cd rfl (fun ht=> ?_) ((fun ht=> ?_)))))))
  ·
   have hc:=cmpN_lt (val_lt_len hl.1 hr (by have:=of_decide_eq_true ht;omega))
   exact Sq (Rg (Md 1 [4] rfl (Nx (Re (Rt (Rt (Y1 rfl rfl ⟨_,rfl,by rw [hc],hM⟩)))))))
  have hc:=cmpN_gt (val_lt_len hr.1 hl (by have:=of_decide_eq_false ht;omega))
  exact Sk (Nx (Sq (Rg (Md 1 [4] rfl (Nx (Re (Rt (Y1 rfl rfl ⟨_,rfl,by rw [hc],hM⟩))))))))
 have heq:l.length=r.length:=by have:=ht;simp at this;omega
 refine Sk (Nx (Sq (Sq (Rg (Mv 2 rfl (Sm (((l.length:Int) - 1)) rfl (by omega) (Md 1 [0,1,5] rfl (Nx (Bo (Kp [0,1,5] rfl ?_))))))))));intro a hF
 refine loopX (fun (j:Nat) a w=>Fr 41 [(0,.slice o l.length c),(1,.slice o2 r.length c2),(5,.int .i64 ((j:Int) - 1))] a∧Mem B wc L w∧l.drop j=r.drop j∧j≤l.length) (fun j=>j) (l.length) ?_ (fun j a w hI=> ?_)
 · exact ⟨hF,hM,by rw [List.drop_of_length_le (Nat.le_refl _),List.drop_of_length_le (by omega)],Nat.le_refl _⟩
 clear hF hM
 obtain ⟨hF,hM,hdr,hjl⟩:=hI
 revert a;refine Sq (Sq (Rg (Md 2 [0,1,5,20] rfl (Nx (Ce rfl (fun ht=> ?_) ((fun ht=> ?_)))))))
 ·
  have hj0:j=0:=by have:=of_decide_eq_false ht;omega
  have hlr:l=r:=by rw [hj0] at hdr;simpa using hdr
  have hc:cmpN (val l) (val r)=0:=by rw [hlr];exact cmpN_eq _
  exact Ex (Ot (Ot (Ob (Nx (Sq (Rg (Md 1 [4] rfl (Nx (Re (Y1 rfl rfl ⟨_,rfl,by rw [hc],hM⟩))))))))))
 have h1:1≤j:=by have:=of_decide_eq_true ht;omega
 intro a hF
 obtain ⟨x,hx⟩:∃ a,l[j - 1]?=some a:=⟨_,List.getElem?_eq_getElem (by omega)⟩
 obtain ⟨y,hy⟩:∃ a,r[j - 1]?=some a:=⟨_,List.getElem?_eq_getElem (by omega)⟩
 obtain ⟨g,rfl,hcl⟩:=limb_at hsl (by omega) (List.Subset.refl L)
 obtain ⟨g2,rfl,hcr⟩:=limb_at hsr (by omega) (List.Subset.refl L)
 rw [show ((j:Int) - 1)=((j - 1:Nat):Int) by omega] at hF
 revert a;refine Sk (Nx (Sq (Bo (Sq (Sq (Sl (by kernel_rfl) (by kernel_rfl) ?_))))))
 replace hM:=hM.drew
 generalize World.drew w=w at*
 refine Ms 2 rfl (Gs rfl (fun _ hF=>gives_indexAddrS (sz:=1) ((j - 1)) hF rfl Tryz.underlying159 (by kernel_rfl) rfl rfl rfl (by omega) _) (Gs rfl (fun _ hF=>gives_load1 hF rfl Tryz.underlying186 rfl rfl (hcl hM (List.Subset.refl L) (j - 1) x hx)) (Ms 2 rfl (Gs rfl (fun _ hF=>gives_indexAddrS (sz:=1) ((j - 1)) hF rfl Tryz.underlying159 (by kernel_rfl) rfl rfl rfl (by omega) _) (Gs rfl (fun _ hF=>gives_load1 hF rfl Tryz.underlying186 rfl rfl (hcr hM (List.Subset.refl L) (j - 1) y hy)) (Ms 1 rfl (Sd (Kp [0,1,5,31] rfl (Nx (Cd rfl (fun ht=> ?_) ((fun ht=> ?_))))))))))))
 ·
  have hxy:x<y:=by have:=of_decide_eq_true ht;omega
  have hc:=cmpN_lt (val_lt_at hl.1 hr.1 hx hy hxy (by rw [show j - 1+1=j by omega];exact hdr))
  exact Sq (Rg (Md 1 [4] rfl (Nx (Re (Rt (Rb (Rt (Rt (Rb (Rt (Y1 rfl rfl ⟨_,rfl,by rw [hc],hM⟩)))))))))))
 have hyx:y≤x:=by have:=of_decide_eq_false ht;omega
 refine Sk (Nx (Sq (Sl (by kernel_rfl) (by kernel_rfl) ?_)))
 replace hM:=hM.drew
 generalize World.drew w=w at*
 refine Ms 2 rfl (Gs rfl (fun _ hF=>gives_indexAddrS (sz:=1) ((j - 1)) hF rfl Tryz.underlying159 (by kernel_rfl) rfl rfl rfl (by omega) _) (Gs rfl (fun _ hF=>gives_load1 hF rfl Tryz.underlying186 rfl rfl (hcl hM (List.Subset.refl L) (j - 1) x hx)) (Ms 2 rfl (Gs rfl (fun _ hF=>gives_indexAddrS (sz:=1) ((j - 1)) hF rfl Tryz.underlying159 (by kernel_rfl) rfl rfl rfl (by omega) _) (Gs rfl (fun _ hF=>gives_load1 hF rfl Tryz.underlying186 rfl rfl (hcr hM (List.Subset.refl L) (j - 1) y hy)) (Ms 1 rfl (Sd (Kp [0,1,5,40] rfl (Nx (Ce rfl (fun ht=> ?_) ((fun ht=> ?_))))))))))))
 ·
  have hxy:x=y:=by have:=of_decide_eq_false ht;omega
  subst hxy
  refine Sk (Nb (Nx (Rg (Mv 1 rfl (Sm ((((j - 1:Nat):Int) - 1)) rfl (by omega) (Md 1 [0,1,5] rfl ?_))))));intro a hF
  exact ⟨j - 1,⟨hF,hM,drop_prev hdr h1 hx hy,by omega⟩,by omega⟩
 have hxy:y<x:=by have:=of_decide_eq_true ht;omega
 have hc:=cmpN_gt (val_lt_at hr.1 hl.1 hy hx hxy (by rw [show j - 1+1=j by omega];exact hdr.symm))
 exact Sq (Rg (Md 1 [4] rfl (Nx (Re (Rb (Rt (Rt (Rb (Rt (Y1 rfl rfl ⟨_,rfl,by rw [hc],hM⟩))))))))))
theorem word_split (x:Nat):val [x % 2^32,x / 2^32]=x:=by simp only [val];omega
theorem word_nrm {x n:Nat}(hx:x<2^64) (hn:n≤2) (hv:val ([x % 2^32,x / 2^32].take n)=x) (h:n=0∨∃ a,[x % 2^32,x / 2^32][n - 1]?=some a∧a≠0):Nrm ([x % 2^32,x / 2^32].take n):=by
  refine ⟨fun a ha=> ?_,?_⟩
  · have:=List.mem_of_mem_take ha
    simp at this
    rcases this with rfl | rfl <;> omega
  · rcases (show n=0∨n=1∨n=2 by omega) with rfl | rfl | rfl
    · simp
    · rcases h with h | ⟨a,h1,h2⟩
      · omega
      · simp at h1 ⊢;omega
    · rcases h with h | ⟨a,h1,h2⟩
      · omega
      · simp at h1 ⊢;omega
theorem word_less {x n:Nat}(hn:n≤2) (h1:1≤n) (hv:val ([x % 2^32,x / 2^32].take n)=x) (h:[x % 2^32,x / 2^32][n - 1]?=some 0):val ([x % 2^32,x / 2^32].take (n - 1))=x:=by
  rcases (show n=1∨n=2 by omega) with rfl | rfl
  · simp [val] at h hv ⊢;omega
  · simp [val] at h hv ⊢;omega
theorem ofWord_walk {B:Nat}{wc w0:World}{L:List Bk}{x:Nat}(hx:x<2^64) (hM0:Mem B wc L w0):
    Calls Tryz.prog 119 #[.int .u64 (x:Int)] w0 (Ret fun v' w'=>∃ TB,NatV TB v' x∧Mem B wc (TB++L) w'):=by
 have hM:=hM0
 refine enter (l:=[.int .u64 (x:Int)]) 27 Tryz.func119 rfl rfl (Sq (Rg (Md 1 [0] rfl (Nx (Sq (Rg (Mv 1 rfl (Gv rfl (fun _ hF=>gives_conv hF rfl Tryz.underlying54 Tryz.underlying186 rfl (((x % 2^32:Nat):Int)) (by rw [IntKind.wrap_u32];omega) _) (Mv 1 rfl (Gv rfl (fun _ hF=>gives_shr (32) (((x / 2^32:Nat):Int)) hF rfl rfl rfl rfl (shr_n 32 (by decide)) _) (Gv rfl (fun _ hF=>gives_conv hF rfl Tryz.underlying54 Tryz.underlying186 rfl (((x / 2^32:Nat):Int)) (by rw [IntKind.wrap_u32];omega) _) ?_)))))))))));intro a hF
 refine op_build32 hF hM rfl rfl rfl rfl rfl rfl ?_;clear hF hM a;intro a w b hF hM
 revert a;refine Md 1 [3] rfl (Nx (Sq (Bo (Kp [3] rfl ?_))));intro a hF
 refine loopX (fun (n:Nat) a w=>Fr 28 [(3,.slice (some ⟨b,0,none⟩) n 2)] a∧Mem B wc ((b,186,[.int .u32 ((x % 2^32:Nat):Int),.int .u32 ((x / 2^32:Nat):Int)])::L) w∧n≤2∧val ([x % 2^32,x / 2^32].take n)=x) (fun n=>n) (2) ?_ (fun n a w hI=> ?_)
 · exact ⟨hF,hM,Nat.le_refl _,word_split x⟩
 clear hF hM
 obtain ⟨hF,hM,hn2,hv⟩:=hI
 refine seq (seq ?_)
 rcases (show n=0∨(1≤n∧[x % 2^32,x / 2^32][n - 1]?=some 0)∨(1≤n∧∃ a,[x % 2^32,x / 2^32][n - 1]?=some a∧a≠0) by rcases (show n=0∨n=1∨n=2 by omega) with rfl | rfl | rfl <;> simp <;> omega) with hn0 | ⟨hn0,hy⟩ | ⟨hn0,y,hy,hy0⟩
 ·
  have hnm:=word_nrm hx hn2 hv (.inl hn0)
  revert a;refine Rg (Mv 2 rfl (Bf rfl (by omega) (Md 9 [3,21] rfl (Nx (Cf rfl (Ex (Ot (Ot (Ob (Nx (Sq (Rg (Md 2 [2] rfl (Nx (Re ?_)))))))))))))));intro a hF
  refine ret1 hF rfl rfl ⟨_,rfl,[(b,186,[.int .u32 ((x % 2^32:Nat):Int),.int .u32 ((x / 2^32:Nat):Int)])],⟨[x % 2^32,x / 2^32].take n,some ⟨b,0,none⟩,2,by rw [List.length_take,show min n [x % 2^32,x / 2^32].length=n from Nat.min_eq_left hn2],hnm,hv,?_⟩,hM⟩
  rw [List.length_take,show min n [x % 2^32,x / 2^32].length=n from Nat.min_eq_left hn2]
  exact ⟨by simp [u32s];omega,.inr ⟨b,2,_,List.mem_cons_self ..,rfl,hn2,by decide,rfl,by rw [Nat.mul_one,u32s,List.map_take];rfl⟩⟩
 ·
  obtain ⟨y,hyy⟩:∃ y:Nat,y=0:=⟨0,rfl⟩
  have hyc:[x % 2^32,x / 2^32][n - 1]?=some y:=by rw [hyy];exact hy
  revert a;refine Rg (Mv 2 rfl (Bt rfl (by omega) (Mv 4 rfl (Sm (((n - 1:Nat):Int)) rfl (by omega) (Gv rfl (fun _ hF=>gives_indexAddrS (sz:=1) ((n - 1)) hF rfl Tryz.underlying159 (by kernel_rfl) rfl rfl rfl (by omega) _) (Gv rfl (fun _ hF=>gives_load1 hF rfl Tryz.underlying186 rfl rfl ((show World.cell? w ⟨b,0+(n - 1)*1,none⟩=some (.int .u32 (y:Int)) by rw [Nat.zero_add,Nat.mul_one,blk_cell (hM.blk (k:=0) rfl).2];rcases (show n=1∨n=2 by omega) with rfl | rfl;(have:=Option.some.inj hyc;rw [←this];rfl);(have:=Option.some.inj hyc;rw [←this];rfl)))) (Mv 1 rfl ?_)))))));intro a hF
  rw [show ((y:Int)==0)=true by rw [hyy];rfl] at hF
  revert a;refine Md 1 [3,21] rfl (Nx (Ct rfl (Sk (Nx (Bo (Rg (Mv 3 rfl (Sm (((n - 1:Nat):Int)) rfl (by omega) (Gv rfl (fun _ hF=>gives_slT (n - 1) hF rfl Tryz.underlying159 (by kernel_rfl) rfl rfl rfl (by omega) _) (Md 1 [3] rfl (Nb (Kp [3] rfl ?_))))))))))));intro a hF
  exact ⟨n - 1,⟨hF,hM,by omega,word_less hn2 hn0 hv hy⟩,by omega⟩
 have hyc:=hy
 have hnm:=word_nrm hx hn2 hv (.inr ⟨y,hy,hy0⟩)
 revert a;refine Rg (Mv 2 rfl (Bt rfl (by omega) (Mv 4 rfl (Sm (((n - 1:Nat):Int)) rfl (by omega) (Gv rfl (fun _ hF=>gives_indexAddrS (sz:=1) ((n - 1)) hF rfl Tryz.underlying159 (by kernel_rfl) rfl rfl rfl (by omega) _) (Gv rfl (fun _ hF=>gives_load1 hF rfl Tryz.underlying186 rfl rfl ((show World.cell? w ⟨b,0+(n - 1)*1,none⟩=some (.int .u32 (y:Int)) by rw [Nat.zero_add,Nat.mul_one,blk_cell (hM.blk (k:=0) rfl).2];rcases (show n=1∨n=2 by omega) with rfl | rfl;(have:=Option.some.inj hyc;rw [←this];rfl);(have:=Option.some.inj hyc;rw [←this];rfl)))) (Mv 1 rfl ?_)))))));intro a hF
 rw [show ((y:Int)==0)=false by simp;omega] at hF
 revert a;refine Md 1 [3,21] rfl (Nx (Cf rfl (Ex (Ot (Ot (Ob (Nx (Sq (Rg (Md 2 [2] rfl (Nx (Re ?_))))))))))));intro a hF
 refine ret1 hF rfl rfl ⟨_,rfl,[(b,186,[.int .u32 ((x % 2^32:Nat):Int),.int .u32 ((x / 2^32:Nat):Int)])],⟨[x % 2^32,x / 2^32].take n,some ⟨b,0,none⟩,2,by rw [List.length_take,show min n [x % 2^32,x / 2^32].length=n from Nat.min_eq_left hn2],hnm,hv,?_⟩,hM⟩
 rw [List.length_take,show min n [x % 2^32,x / 2^32].length=n from Nat.min_eq_left hn2]
 exact ⟨by simp [u32s];omega,.inr ⟨b,2,_,List.mem_cons_self ..,rfl,hn2,by decide,rfl,by rw [Nat.mul_one,u32s,List.map_take];rfl⟩⟩
def NUML (neg:Bool) (D:Str) (p:Int):List Value:=[.bool neg,.string (mkS D),.int .i64 p]
theorem sml_prod {m i e p:Nat}(h:m<2^(32*i)) (hk:i+e+p≤2^20):Sml (m*2^e*10^p):=by
  refine ⟨i+e+p,hk,?_⟩
  have h1:2^e≤2^(32*e):=Nat.pow_le_pow_right (by decide) (by omega)
  have h2:=pow10_32 p
  rw [Nat.mul_add,Nat.mul_add,Nat.pow_add,Nat.pow_add]
  exact Nat.mul_lt_mul_of_lt_of_le (Nat.mul_lt_mul_of_lt_of_le h h1 (Nat.pow_pos (by decide))) h2 (Nat.pow_pos (by decide))
theorem sml_one {m i:Nat}(h:m<2^(32*i)) (hk:i≤2^20):Sml m:=⟨i,hk,h⟩
def against (m:Nat) (e:Int) (N:Nat) (p:Int):Int:=cmpN (m*2^e.toNat*10^(-p).toNat) (N*2^(-e).toNat*10^p.toNat)
theorem scaled_walk {B:Nat}{wc w0:World}{L:List Bk}{m:Nat}{e p:Int}{neg:Bool}{D:Str}(hm:m<2^64) (he: -2000≤e∧e≤2000) (hp: -5000≤p∧p≤5000) (hd:Digs D) (hl:D.length≤1000) (hM0:Mem B wc L w0):
    Calls Tryz.prog 83 #[.int .u64 (m:Int),.int .i64 e,.agg (NUML neg D p).toArray] w0 (Ret fun v w'=>v= .int .i64 (against m e (worth D) p)∧Mem B wc L w'):=by
 have hM:=hM0
 have hw32:worth D<2^(32*D.length):=Nat.lt_of_lt_of_le (worth_lt hd) (pow10_32 _)
 refine enter (l:=[.int .u64 (m:Int),.int .i64 e,.agg (NUML neg D p).toArray]) 35 Tryz.func83 rfl rfl (Sq (Rg ?_));intro a hF
 refine op_box (vs:=NUML neg D p) hF hM rfl rfl rfl rfl rfl rfl ?_;clear hF hM a;intro a w b5 hF hM
 revert a;refine Md 1 [0,1,5] rfl (Nx (Sq ?_));intro a hF
 refine mix (fun w=>∃ TB,Mem B wc (TB++(b5,58,NUML neg D p)::L) w) 6 (by kernel_rfl) ?_
 replace hM:=hM.drew
 have hS:∃ TB,Mem B wc (TB++(b5,58,NUML neg D p)::L) (World.drew w):=⟨[],hM⟩
 generalize World.drew w=w at*
 refine mtakeP 0 hF (.inl hS) rfl (by kernel_rfl) (by kernel_rfl) (by kernel_rfl) rfl (fun _ _ _ h=>h) rfl rfl (y_plain rfl (fun w _=>gives_move hF rfl rfl _)) ?_;clear hF a;intro a hF
 refine mtakeP 2 hF (.inl hS) rfl (by kernel_rfl) (by kernel_rfl) (by kernel_rfl) rfl (fun _ _ _ h=>h) rfl rfl (y_plain rfl (fun w _=>gives_fieldAddr hF 1 rfl rfl (field_at Tryz.underlying58 rfl rfl (by kernel_rfl)) _)) ?_;clear hF a;intro a hF
 refine mtakeL 3 hF hS rfl (by kernel_rfl) (by kernel_rfl) (by kernel_rfl) (by kernel_rfl) (by kernel_rfl) (fun _ _ _ h=>h) rfl rfl (y_plain rfl (fun w hM=>(by obtain ⟨TB,hM⟩:=hM;exact gives_load1 hF rfl Tryz.underlying9 rfl rfl (show World.cell? _ ⟨b5,0+1,none⟩=some (.string (mkS D)) by rw [Nat.zero_add,blk_cell (hM.held (b5,58,NUML neg D p) (by simp)).2];rfl)))) ?_;clear hF a;intro a hF
 refine malone 1 rfl (by kernel_rfl) ?_
 revert a;refine Cl rfl rfl rfl (ofWord_walk hm hM) ?_
 clear hM hS;intro w v hR
 obtain ⟨TB1,hN1,hM⟩:=hR
 intro a hF
 generalize v=v7 at hF hN1
 have hS:∃ TB,Mem B wc (TB++(b5,58,NUML neg D p)::L) w:=⟨TB1,hM⟩
 refine mstep (.inl (hS)) ?_
 refine malone 4 rfl (by kernel_rfl) ?_
 revert a;refine Cl rfl rfl rfl (ofDigits_walk D hd (by omega) hM) ?_
 clear hM hS;intro w v hR
 obtain ⟨TB2,hN2,hM⟩:=hR
 intro a hF
 generalize v=v8 at hF hN2
 have hS:∃ TB,Mem B wc (TB++(b5,58,NUML neg D p)::L) w:=⟨TB2++TB1,by rw [List.append_assoc];exact hM⟩
 refine mstep (.inl (hS)) ?_
 refine malone 5 rfl (by kernel_rfl) ?_
 revert a;refine Mv 1 rfl ?_;intro a hF
 refine mstep (.inl (hS)) ?_
 refine malone 6 rfl (by kernel_rfl) ?_
 revert a;refine Mv 1 rfl ?_;intro a hF
 refine mstep (.inr (by kernel_rfl)) ?_
 refine mend (by kernel_rfl) ?_
 revert a;refine Kp [1,5,7,8] rfl (Nx ?_);intro a hF
 refine cut (fun a w=>∃ TB v7 v8,Fr 38 [(5,.pointer (some ⟨b5,0,none⟩)),(7,v7),(8,v8)] a∧Mem B wc (TB++(b5,58,NUML neg D p)::L) w∧NatV (TB++(b5,58,NUML neg D p)::L) v7 (m*2^e.toNat)∧NatV (TB++(b5,58,NUML neg D p)::L) v8 (worth D*2^(-e).toNat)) ?_ (fun a w h=> ?_)
 ·
  revert a;refine Sq (Rg (Md 2 [1,5,7,8,15] rfl (Nx (Cd rfl (fun ht=> ?_) ((fun ht=> ?_))))))
  ·
   obtain ⟨k,rfl⟩:∃ k:Nat,e=(k:Int):=⟨e.toNat,by have:=of_decide_eq_true ht;omega⟩
   refine Rg (Mv 2 rfl (Cl rfl rfl rfl (shift_walk (k:=k) (hN1.mono (by intro z hz;simp [hz])) (sml_one (i:=2) hm (by decide)) (by omega) hM) ?_))
   clear hM;intro w v hR
   obtain ⟨TB3,hN3,hM⟩:=hR
   intro a hF
   generalize v=v9 at hF hN3
   revert a;refine Md 1 [5,7,8] rfl ?_;intro a hF
   exact ⟨TB3++(TB2++TB1),v9,v8,hF,by rw [List.append_assoc,List.append_assoc];exact hM,by rw [List.append_assoc,List.append_assoc];simpa using hN3,by have h:=hN2.mono (TB':=TB3++(TB2++TB1)++(b5,58,NUML neg D p)::L) (by intro z hz;simp [hz]);simpa using h⟩
  obtain ⟨k,rfl⟩:∃ k:Nat,e= -(k:Int):=⟨(-e).toNat,by have:=of_decide_eq_false ht;omega⟩
  refine Rg (Mv 2 rfl (Gv rfl (fun _ hF=>gives_neg hF rfl rfl (((k:Nat):Int)) (by rw [wrap_i64 (by omega) (by omega)];omega) _) (Cl rfl rfl rfl (shift_walk (k:=k) (hN2.mono (by intro z hz;simp [hz])) (sml_one hw32 (by omega)) (by omega) hM) ?_)))
  clear hM;intro w v hR
  obtain ⟨TB3,hN3,hM⟩:=hR
  intro a hF
  generalize v=v9 at hF hN3
  revert a;refine Md 1 [5,7,8] rfl ?_;intro a hF
  exact ⟨TB3++(TB2++TB1),v7,v9,hF,by rw [List.append_assoc,List.append_assoc];exact hM,by have h:=hN1.mono (TB':=TB3++(TB2++TB1)++(b5,58,NUML neg D p)::L) (by intro z hz;simp [hz]);simpa using h,by rw [List.append_assoc,List.append_assoc];simpa using hN3⟩
 clear hF hM
 obtain ⟨TB,v7,v8,hF,hM,hN1,hN2⟩:=h
 refine cutF (fun a w=>∃ TB v7 v8,Fr 38 [(7,v7),(8,v8)] a∧Mem B wc (TB++(b5,58,NUML neg D p)::L) w∧NatV (TB++(b5,58,NUML neg D p)::L) v7 (m*2^e.toNat*10^(-p).toNat)∧NatV (TB++(b5,58,NUML neg D p)::L) v8 (worth D*2^(-e).toNat*10^p.toNat)) (fun a w h=> ?_) ?_
 ·
  clear hF hM
  obtain ⟨TB,v7,v8,hF,hM,hN1,hN2⟩:=h
  revert a;refine Sq (Rg (Mv 2 rfl (Cl rfl rfl rfl (against_walk hN1 hN2 (sml_prod (i:=2) hm (by omega)) (sml_prod hw32 (by omega)) hM) ?_)))
  clear hM;intro w v hR
  obtain ⟨rfl,hM⟩:=hR
  exact Md 1 [6] rfl (Nx (Re (Y1 rfl rfl ⟨_,rfl,rfl,hM.sub (TB++ [(b5,58,NUML neg D p)]) (pc fun x=>by simp [ct,ct_append])⟩)))
 revert a;refine Sq (Rg (Mv 1 rfl (Gv rfl (fun _ hF=>gives_load1 hF rfl Tryz.underlying3 rfl rfl (show World.cell? _ ⟨b5,0+2,none⟩=some (.int .i64 p) by rw [Nat.zero_add,blk_cell (hM.held (b5,58,NUML neg D p) (by simp)).2];rfl)) (Md 1 [5,7,8,25] rfl (Nx (Cd rfl (fun ht=> ?_) ((fun ht=> ?_))))))))
 ·
  obtain ⟨q,rfl⟩:∃ q:Nat,p=(q:Int):=⟨p.toNat,by have:=of_decide_eq_true ht;omega⟩
  refine Rg (Mv 2 rfl (Gv rfl (fun _ hF=>gives_load1 hF rfl Tryz.underlying3 rfl rfl (show World.cell? _ ⟨b5,0+2,none⟩=some (.int .i64 ((q:Nat):Int)) by rw [Nat.zero_add,blk_cell (hM.held (b5,58,NUML neg D ((q:Nat):Int)) (by simp)).2];rfl)) (Cl rfl rfl rfl (tens_walk (k:=q) hN2 (sml_prod hw32 (by omega)) (by omega) hM) ?_)))
  clear hM;intro w v hR
  obtain ⟨TB3,hN3,hM⟩:=hR
  intro a hF
  generalize v=v9 at hF hN3
  revert a;refine Md 1 [7,8] rfl ?_;intro a hF
  exact ⟨TB3++TB,v7,v9,hF,by rw [List.append_assoc];exact hM,by have h:=hN1.mono (TB':=TB3++TB++(b5,58,NUML neg D ((q:Nat):Int))::L) (by intro z hz;simp at hz ⊢;rcases hz with h | h | h <;> simp [h]);simpa using h,by rw [List.append_assoc];simpa using hN3⟩
 obtain ⟨q,rfl⟩:∃ q:Nat,p= -(q:Int):=⟨(-p).toNat,by have:=of_decide_eq_false ht;omega⟩
 refine Rg (Mv 2 rfl (Gv rfl (fun _ hF=>gives_load1 hF rfl Tryz.underlying3 rfl rfl (show World.cell? _ ⟨b5,0+2,none⟩=some (.int .i64 (-((q:Nat):Int))) by rw [Nat.zero_add,blk_cell (hM.held (b5,58,NUML neg D (-((q:Nat):Int))) (by simp)).2];rfl)) (Gv rfl (fun _ hF=>gives_neg hF rfl rfl (((q:Nat):Int)) (by rw [wrap_i64 (by omega) (by omega)];omega) _) (Cl rfl rfl rfl (tens_walk (k:=q) hN1 (sml_prod (i:=2) hm (by omega)) (by omega) hM) ?_))))
 clear hM;intro w v hR
 obtain ⟨TB3,hN3,hM⟩:=hR
 intro a hF
 generalize v=v9 at hF hN3
 revert a;refine Md 1 [7,8] rfl ?_;intro a hF
 exact ⟨TB3++TB,v9,v8,hF,by rw [List.append_assoc];exact hM,by rw [List.append_assoc];simpa using hN3,by have h:=hN2.mono (TB':=TB3++TB++(b5,58,NUML neg D (-((q:Nat):Int)))::L) (by intro z hz;simp at hz ⊢;rcases hz with h | h | h <;> simp [h]);simpa using h⟩
def bm (x:Nat):Nat:=if x / 2^52=0 then x % 2^52 else x % 2^52+2^52
def be (x:Nat):Int:=if x / 2^52=0 then -1074 else ((x / 2^52:Nat):Int) - 1075
theorem and_52 {x:Nat}(hx:x<2^64):bitVal .and .u64 (x:Int) 4503599627370495=some ((x % 2^52:Nat):Int):=by
  have h:=and_u64 hx (q:=4503599627370495) (by decide)
  have e:x&&&4503599627370495=x % 2^52:=Nat.and_two_pow_sub_one_eq_mod x 52
  rw [e] at h
  exact h
theorem or_52 {f:Nat}(hf:f<2^52):bitVal .or .u64 (f:Int) 4503599627370496=some ((f+2^52:Nat):Int):=by
  have h:=or_u64 (p:=f) (q:=4503599627370496) (by omega) (by decide)
  have e:f ||| 4503599627370496=f+2^52:=by
    have:=Nat.two_pow_add_eq_or_of_lt hf 1
    rw [Nat.mul_one] at this
    rw [Nat.or_comm,Nat.add_comm]
    exact this.symm
  rw [e] at h
  exact h
theorem bm_lt {x:Nat}(h:x<9218868437227405312):bm x≤9007199254740991:=by unfold bm;split <;> omega
theorem be_rng {x:Nat}(h:x<9218868437227405312): -1074≤be x∧be x≤971:=by unfold be;split <;> omega
theorem binary_walk {x:Nat}(hx:x<9218868437227405312) (w0:World):
    Calls Tryz.prog 82 #[.int .u64 (x:Int)] w0 (Ret fun v w'=>v= .tuple #[.int .u64 ((bm x:Nat):Int),.int .i64 (be x)]∧Below w0.heap.size w0 w'):=by
 have hM:=MS0 w0
 have hx64:x<2^64:=by omega
 refine enter (l:=[.int .u64 (x:Int)]) 17 Tryz.func82 rfl rfl (Sq (Rg (Md 2 [0] rfl (Nx (Sq (Rg (Mv 1 rfl (Gv rfl (fun _ hF=>gives_bits (((x % 2^52:Nat):Int)) hF rfl rfl rfl (and_52 hx64) _) (Mv 1 rfl (Gv rfl (fun _ hF=>gives_shr (52) (((x / 2^52:Nat):Int)) hF rfl rfl rfl rfl (shr_n 52 (by decide)) _) (Gv rfl (fun _ hF=>gives_conv hF rfl Tryz.underlying54 Tryz.underlying3 rfl (((x / 2^52:Nat):Int)) (wrap_i64 (by omega) (by omega)) _) (Md 2 [4,5] rfl (Nx (Sq (Sq (Rg (Md 2 [4,5,12] rfl (Nx (Cd rfl (fun ht=> ?_) ((fun ht=> ?_)))))))))))))))))))))
 ·
  have h0:x / 2^52=0:=by have:=eq_of_beq ht;omega
  have e1:bm x=x % 2^52:=by unfold bm;rw [if_pos h0]
  have e2:be x= -1074:=by unfold be;rw [if_pos h0]
  exact Sq (Rg (Md 3 [2,3] rfl (Nx (Re (Rt (Y2 rfl rfl rfl ⟨_,rfl,by rw [e1,e2],hM.below⟩))))))
 have h0:x / 2^52≠0:=by intro h;rw [h] at ht;exact absurd ht (by decide)
 have e1:bm x=x % 2^52+2^52:=by unfold bm;rw [if_neg h0]
 have e2:be x=((x / 2^52:Nat):Int) - 1075:=by unfold be;rw [if_neg h0]
 exact Sk (Nx (Sq (Rg (Mv 1 rfl (Gv rfl (fun _ hF=>gives_bits (((x % 2^52+2^52:Nat):Int)) hF rfl rfl rfl (or_52 (Nat.mod_lt _ (by decide))) _) (Mv 1 rfl (Sm ((((x / 2^52:Nat):Int) - 1075)) rfl (by omega) (Md 2 [2,3] rfl (Nx (Re (Y2 rfl rfl rfl ⟨_,rfl,by rw [e1,e2],hM.below⟩)))))))))))
theorem cmpN_pos {a b:Nat}: ¬ cmpN a b≤0↔b<a:=by unfold cmpN;split <;> (try split) <;> omega
theorem not_big {N:Nat}{p:Int}{x:Nat}(hx:x<9218868437227405312) (h: ¬ against (bm x) (be x) N p≤0): ¬ big N p:=by
  unfold against at h
  rw [cmpN_pos] at h
  intro hb
  unfold big at hb
  have h1:=bm_lt hx
  have h2:=(be_rng hx).2
  generalize bm x=m at h h1
  generalize be x=e at h h2
  have e2:N*10^p.toNat*2^(-e).toNat<m*2^e.toNat*10^(-p).toNat:=by
    rw [Nat.mul_right_comm];exact h
  have e3:TH*2^(-e).toNat*10^(-p).toNat<m*2^e.toNat*10^(-p).toNat:=by
    refine Nat.lt_of_le_of_lt ?_ e2
    rw [Nat.mul_right_comm]
    exact Nat.mul_le_mul_right _ hb
  have e4:=Nat.lt_of_mul_lt_mul_right e3
  have e5:m*2^e.toNat≤9007199254740991*2^971:=Nat.mul_le_mul h1 (Nat.pow_le_pow_right (by decide) (by omega))
  have e6:TH≤TH*2^(-e).toNat:=Nat.le_mul_of_pos_right _ (Nat.pow_pos (by decide))
  have e7:9007199254740991*2^971<TH:=by decide+kernel
  omega
theorem top_big {N:Nat}{p:Int}:against (2*bm 9218868437227405311+1) (be 9218868437227405311 - 1) N p≤0↔big N p:=by
  have e1:bm 9218868437227405311=9007199254740991:=by decide+kernel
  have e2:be 9218868437227405311 - 1=970:=by decide+kernel
  rw [e1,e2]
  unfold against
  have e3:(2*9007199254740991+1)*2^(970:Int).toNat=TH:=by decide+kernel
  rw [e3,show (-(970:Int)).toNat=0 from rfl,Nat.pow_zero,Nat.mul_one]
  unfold big
  have:=@cmpN_pos (TH*10^(-p).toNat) (N*10^p.toNat)
  omega
theorem top_odd:bm 9218868437227405311 % 2=1:=by decide+kernel
theorem nearest_walk {B:Nat}{wc w0:World}{L:List Bk}{p:Int}{neg:Bool}{D:Str}(hp: -5000≤p∧p≤5000) (hd:Digs D) (hl:D.length≤1000) (hM0:Mem B wc L w0):
    Calls Tryz.prog 54 #[.agg (NUML neg D p).toArray] w0 (Ret fun v w'=>∃ z:Nat,v= .int .u64 (z:Int)∧z≤9218868437227405312∧(z=9218868437227405312↔big (worth D) p)∧Mem B wc L w'):=by
 have hM:=hM0
 refine enter (l:=[.agg (NUML neg D p).toArray]) 58 Tryz.func54 rfl rfl (Sq (Rg ?_));intro a hF
 refine op_box (vs:=NUML neg D p) hF hM rfl rfl rfl rfl rfl rfl ?_;clear hF hM a;intro a w b1 hF hM
 revert a;refine Md 1 [1] rfl (Nx (Sq (Rg (Md 2 [1,3,4] rfl (Nx (Sq (Bo (Kp [1,3,4] rfl ?_))))))));intro a hF
 refine loopX (fun (x:Nat×Nat) a w=>Fr 59 [(1,.pointer (some ⟨b1,0,none⟩)),(3,.int .u64 (x.1:Int)),(4,.int .u64 (x.2:Int))] a∧Mem B wc ((b1,58,NUML neg D p)::L) w∧x.1<x.2∧x.2≤9218868437227405312∧(x.2<9218868437227405312→ ¬ big (worth D) p)) (fun x=>x.2 - x.1) ((0,9218868437227405312)) ?_ (fun x a w hI=> ?_)
 · exact ⟨hF,hM,by decide,Nat.le_refl _,fun h=>absurd h (by decide)⟩
 clear hF hM
 obtain ⟨lo,hi⟩:=x
 obtain ⟨hF,hM,hlh,hhi,hnb⟩:=hI
 simp only at hF hM hlh hhi hnb
 revert a;refine Sq (Sq (Rg (Mv 2 rfl ?_)));intro a hF
 refine op_sum hF rfl (((hi - lo:Nat):Int)) rfl rfl rfl rfl rfl rfl (by omega) (IntWalk.u64_in _ ⟨by omega,by omega⟩) ?_;clear hF a;intro a hF
 revert a;refine Md 1 [1,3,4,14] rfl (Nx (Cd rfl (fun ht=> ?_) ((fun ht=> ?_))))
 ·
  have hgt:1<hi - lo:=by have:=of_decide_eq_true ht;omega
  obtain ⟨mid,hmid⟩:∃ mid,mid=lo+(hi - lo) / 2:=⟨_,rfl⟩
  have hm1:mid<9218868437227405312:=by omega
  refine Sk (Nx (Bo (Sq (Rg (Mv 3 rfl ?_)))));intro a hF
  refine op_sum hF rfl (((hi - lo:Nat):Int)) rfl rfl rfl rfl rfl rfl (by omega) (IntWalk.u64_in _ ⟨by omega,by omega⟩) ?_;clear hF a;intro a hF
  revert a;refine Gv rfl (fun _ hF=>gives_quo ((((hi - lo) / 2:Nat):Int)) hF rfl rfl rfl (by decide) (by rw [Int.tdiv_eq_ediv_of_nonneg (by omega)];rw [IntWalk.u64_in _ ⟨by omega,by omega⟩];omega) _) ?_;intro a hF
  refine op_sum hF rfl (((mid:Nat):Int)) rfl rfl rfl rfl rfl rfl (by omega) (IntWalk.u64_in _ ⟨by omega,by omega⟩) ?_;clear hF a;intro a hF
  revert a;refine Md 1 [1,3,4,5] rfl (Nx (Sq (Rg (Mv 1 rfl (Cm hM rfl rfl rfl (binary_walk hm1 _) ?_)))))
  clear hM;intro w v hR hM hBe
  obtain rfl:=hR
  refine Md 5 [1,3,4,5,6,7] rfl (Nx (Sq (Rg (Mv 2 rfl (Gv rfl (fun _ hF=>gives_loadA hF hM 0 rfl Tryz.underlying58 rfl (by kernel_rfl) rfl rfl) (Cl rfl rfl rfl (scaled_walk (by have:=bm_lt hm1;omega) (by have:=be_rng hm1;omega) hp hd hl hM) ?_))))))
  clear hM;intro w v hR
  obtain ⟨rfl,hM⟩:=hR
  refine Md 1 [1,3,4,5,30] rfl (Nx (C2 rfl ?_ ((fun ht=> ?_))))
  ·
   refine Rg (Md 2 [1,3,4] rfl (Nb (Kp [1,3,4] rfl ?_)));intro a hF
   exact ⟨(mid,hi),⟨hF,hM,by simp only;omega,hhi,hnb⟩,by simp only;omega⟩
  have hnb2:=not_big hm1 (by have:=of_decide_eq_false ht;exact this)
  refine Rg (Md 2 [1,3,4] rfl (Nb (Kp [1,3,4] rfl ?_)));intro a hF
  exact ⟨(lo,mid),⟨hF,hM,by simp only;omega,by simp only;omega,fun _=>hnb2⟩,by simp only;omega⟩
 have hle:hi=lo+1:=by have:=of_decide_eq_false ht;omega
 have hlo:lo<9218868437227405312:=by omega
 have hb1:=bm_lt hlo
 have hb2:=be_rng hlo
 refine Ex (Ot (Ot (Ob (Nx (Sq (Rg (Mv 1 rfl (Cm hM rfl rfl rfl (binary_walk hlo _) ?_))))))))
 clear hM;intro w v hR hM hBe
 obtain rfl:=hR
 refine Md 5 [1,3,8,9] rfl (Nx (Sq (Sq (Rg (Mv 1 rfl ?_)))));intro a hF
 refine op_sum hF rfl (((2*bm lo:Nat):Int)) rfl rfl rfl rfl rfl rfl (by omega) (IntWalk.u64_in _ ⟨by omega,by omega⟩) ?_;clear hF a;intro a hF
 refine op_sum hF rfl (((2*bm lo+1:Nat):Int)) rfl rfl rfl rfl rfl rfl (by omega) (IntWalk.u64_in _ ⟨by omega,by omega⟩) ?_;clear hF a;intro a hF
 revert a;refine Mv 1 rfl (Sm ((be lo - 1)) rfl (by omega) (Gv rfl (fun _ hF=>gives_loadA hF hM 0 rfl Tryz.underlying58 rfl (by kernel_rfl) rfl rfl) (Cl rfl rfl rfl (scaled_walk (by omega) (by omega) hp hd hl hM) ?_)))
 clear hM;intro w v hR
 obtain ⟨rfl,hM⟩:=hR
 obtain ⟨r,hr⟩:∃ r,against (2*bm lo+1) (be lo - 1) (worth D) p=r:=⟨_,rfl⟩
 intro a hF
 rw [hr] at hF
 have hup:∀ up:Bool,(up=true↔(r<0∨(r=0∧bm lo % 2=1)))→(lo+(if up then 1 else 0)=9218868437227405312↔big (worth D) p):=by
   intro up hu
   rcases Nat.lt_or_ge hi 9218868437227405312 with h | h
   · have:=hnb h;constructor;(intro h2;split at h2 <;> omega);(intro h2;exact absurd h2 this)
   · obtain rfl:lo=9218868437227405311:=by omega
     rw [←top_big,hr]
     have h3:=top_odd
     cases up with
     | true=>have h4:=hu.1 rfl;simp;omega
     | false => have h4 : ¬ (r < 0 ∨ (r = 0 ∧ bm 9218868437227405311 % 2 = 1)) := fun h => by have := hu.2 h; cases this
                simp;omega
 revert a;refine Md 1 [3,8,10] rfl (Nx (Sq ?_))
 rcases (show r<0∨(r=0∧bm lo % 2=1)∨(r=0∧bm lo % 2=0)∨0<r by omega) with h1 | ⟨h1,h2⟩ | ⟨h1,h2⟩ | h1
 ·
  have hz:=hup true ⟨fun _=> .inl h1,fun _=>rfl⟩
  refine Rg (Mv 1 rfl (Bt rfl (by omega) (Md 9 [3,55] rfl (Nx (Ct rfl (Rg (Mv 1 rfl ?_)))))));intro a hF
  refine op_sum hF rfl (((lo+1:Nat):Int)) rfl rfl rfl rfl rfl rfl (by omega) (IntWalk.u64_in _ ⟨by omega,by omega⟩) ?_;clear hF a;intro a hF
  revert a;refine Md 1 [3] rfl (Nx (Sq (Rg (Md 2 [2] rfl (Nx (Re ?_))))));intro a hF
  exact ret1 hF rfl rfl ⟨_,rfl,lo+1,rfl,by omega,by simpa using hz,hM.sub [(b1,58,NUML neg D p)] (pc fun x=>by simp [ct,ct_append])⟩
 ·
  have hz:=hup true ⟨fun _=> .inr ⟨h1,h2⟩,fun _=>rfl⟩
  refine Rg (Mv 1 rfl (Bf rfl (by omega) (Mv 3 rfl ?_)));intro a hF
  rw [show ((r)==0)=true by simp;omega] at hF
  revert a;refine Mv 2 rfl (Gv rfl (fun _ hF=>gives_rem (((bm lo % 2:Nat):Int)) hF rfl rfl rfl (by decide) (by rw [Int.tmod_eq_emod_of_nonneg (by omega)];omega) _) (Mv 1 rfl ?_));intro a hF
  rw [show ((((bm lo % 2:Nat):Int))==1)=true by simp;omega] at hF
  revert a;refine Md 2 [3,55] rfl (Nx (Ct rfl (Rg (Mv 1 rfl ?_))));intro a hF
  refine op_sum hF rfl (((lo+1:Nat):Int)) rfl rfl rfl rfl rfl rfl (by omega) (IntWalk.u64_in _ ⟨by omega,by omega⟩) ?_;clear hF a;intro a hF
  revert a;refine Md 1 [3] rfl (Nx (Sq (Rg (Md 2 [2] rfl (Nx (Re ?_))))));intro a hF
  exact ret1 hF rfl rfl ⟨_,rfl,lo+1,rfl,by omega,by simpa using hz,hM.sub [(b1,58,NUML neg D p)] (pc fun x=>by simp [ct,ct_append])⟩
 ·
  have hz:=hup false ⟨(fun h=>by cases h),fun h=>by omega⟩
  refine Rg (Mv 1 rfl (Bf rfl (by omega) (Mv 3 rfl ?_)));intro a hF
  rw [show ((r)==0)=true by simp;omega] at hF
  revert a;refine Mv 2 rfl (Gv rfl (fun _ hF=>gives_rem (((bm lo % 2:Nat):Int)) hF rfl rfl rfl (by decide) (by rw [Int.tmod_eq_emod_of_nonneg (by omega)];omega) _) (Mv 1 rfl ?_));intro a hF
  rw [show ((((bm lo % 2:Nat):Int))==1)=false by simp;omega] at hF
  revert a;refine Md 2 [3,55] rfl (Nx (Cf rfl (Sk (Nx (Sq (Rg (Md 2 [2] rfl (Nx (Re ?_)))))))));intro a hF
  exact ret1 hF rfl rfl ⟨_,rfl,lo,rfl,by omega,by simpa using hz,hM.sub [(b1,58,NUML neg D p)] (pc fun x=>by simp [ct,ct_append])⟩
 have hz:=hup false ⟨(fun h=>by cases h),fun h=>by omega⟩
 refine Rg (Mv 1 rfl (Bf rfl (by omega) (Mv 3 rfl ?_)));intro a hF
 rw [show ((r)==0)=false by simp;omega] at hF
 revert a;refine Md 6 [3,55] rfl (Nx (Cf rfl (Sk (Nx (Sq (Rg (Md 2 [2] rfl (Nx (Re ?_)))))))));intro a hF
 exact ret1 hF rfl rfl ⟨_,rfl,lo,rfl,by omega,by simpa using hz,hM.sub [(b1,58,NUML neg D p)] (pc fun x=>by simp [ct,ct_append])⟩
section
variable {n:Nat}{K:List (Nat×Value)}{a:Act}{w:World}{Q:Exit→Act→World→Prop}{ops:Array Oper}{rest:List Oper}{o:Oper}
theorem op_mathbits (hF:Fr n K a) (hg:o.guard=none) {d:Nat}{x:Operand}{z:Int}(hd:o.dst=some d) (hlt:Nat.blt d n=true) (hop:o.op= .call {callee:= .value (.func 55),args:= #[x],argTypes:= #[54]}) (hx:ev K x=some (.int .u64 z))
    (h:∀ a',Fr n ((d,.float .f64 z.toNat)::K) a'→wpList Tryz.prog ops Q rest a' w):wpList Tryz.prog ops Q (o::rest) a w:=
  op_run hF hg _ hd hlt (by
    have e:=run_callFunc_extern (P:=Tryz.prog) Tryz.func55 (by kernel_rfl) (by kernel_rfl) (by kernel_rfl) (e:=Extern.MathFloatBits.float64frombits) (by kernel_rfl) #[.int .u64 z] w
    have hc:a.eval (.func 55)= .func (.func 55) #[] #[]:=rfl
    simp only [execOp,hop,resolve,Deferred.ofValue,invoke,List.map_toArray,List.map_cons,List.map_nil,hF.ev hx,hc]
    simp
    rw [e]
    rfl) h
end
def Bare (D:Str):Prop:=Digs D∧D.head?≠some 48
theorem Bare.ge {D:Str}(h:Bare D) (h0:D≠ []):10^(D.length - 1)≤worth D:=by
  cases D with
  | nil=>exact absurd rfl h0
  | cons c r =>
    have hc:=dig_rng h.1.head
    have h48:c≠48:=fun e=>h.2 (by rw [e];rfl)
    have h49:c.toNat≠48:=fun e=>h48 (UInt8.toNat_inj.1 e)
    rw [worth,List.length_cons,Nat.add_sub_cancel]
    have:1≤dg c:=by unfold dg;omega
    have:=Nat.le_mul_of_pos_left (10^r.length) this
    omega
theorem big_pt_low {D:Str}{p:Int}(h:Digs D) (hp:p+D.length≤308): ¬ big (worth D) p:=big_low (worth_lt h) hp
theorem big_pt_high {D:Str}{p:Int}(h:Bare D) (h0:D≠ []) (hp:400<p+D.length):big (worth D) p:=big_high (h.ge h0) (by have:=List.length_pos_iff.2 h0;omega)
theorem or_63 {f:Nat}(hf:f<2^63):bitVal .or .u64 (f:Int) 9223372036854775808=some ((f+2^63:Nat):Int):=by
  have h:=or_u64 (p:=f) (q:=9223372036854775808) (by omega) (by decide)
  have e:f ||| 9223372036854775808=f+2^63:=by
    have:=Nat.two_pow_add_eq_or_of_lt hf 1
    rw [Nat.mul_one] at this
    rw [Nat.or_comm,Nat.add_comm]
    exact this.symm
  rw [e] at h
  exact h
theorem near_walk {B:Nat}{wc w0:World}{L:List Bk}{p:Int}{neg:Bool}{D:Str}(hp: -6000000000000000≤p∧p≤6000000000000000) (hd:Bare D) (hl:D.length≤1000) (hM0:Mem B wc L w0):
    Calls Tryz.prog 32 #[.agg (NUML neg D p).toArray] w0 (Ret fun v w'=>∃ z:Nat,v= .float .f64 (if neg then z+2^63 else z)∧z≤9218868437227405312∧(z=9218868437227405312↔big (worth D) p)∧Mem B wc L w'):=by
 have hM:=hM0
 refine enter (l:=[.agg (NUML neg D p).toArray]) 29 Tryz.func32 rfl rfl (Sq (Rg ?_));intro a hF
 refine op_box (vs:=NUML neg D p) hF hM rfl rfl rfl rfl rfl rfl ?_;clear hF hM a;intro a w b1 hF hM
 revert a;refine Md 1 [1] rfl (Nx (Sq (Rg (Md 1 [1,3] rfl (Nx (Sq (Rg (Mv 1 rfl (Gv rfl (fun _ hF=>gives_load1 hF rfl Tryz.underlying3 rfl rfl (show World.cell? _ ⟨b1,0+2,none⟩=some (.int .i64 p) by rw [Nat.zero_add,blk_cell (hM.held (b1,58,NUML neg D p) (by simp)).2];rfl)) (Mv 1 rfl (Gv rfl (fun _ hF=>gives_load1 hF rfl Tryz.underlying9 rfl rfl (show World.cell? _ ⟨b1,0+1,none⟩=some (.string (mkS D)) by rw [Nat.zero_add,blk_cell (hM.held (b1,58,NUML neg D p) (by simp)).2];rfl)) (Mv 1 rfl (Sm ((p+D.length)) rfl (by omega) (Md 1 [1,3,4] rfl (Nx ?_)))))))))))))));intro a hF
 refine cutF (fun a w=>∃ z:Nat,Fr 30 [(1,.pointer (some ⟨b1,0,none⟩)),(3,.int .u64 (z:Int))] a∧Mem B wc ((b1,58,NUML neg D p)::L) w∧z≤9218868437227405312∧(z=9218868437227405312↔big (worth D) p)) (fun a w h=> ?_) ?_
 ·
  clear hF hM
  obtain ⟨z,hF,hM,hz1,hz2⟩:=h
  revert a;refine Sq (Sq ?_)
  rcases neg with _ | _
  ·
   refine Rg (Mv 1 rfl (Gv rfl (fun _ hF=>gives_load1 hF rfl Tryz.underlying4 rfl rfl (show World.cell? _ ⟨b1,0+0,none⟩=some (.bool false) by rw [Nat.zero_add,blk_cell (hM.held (b1,58,NUML false D p) (by simp)).2];rfl)) (Md 0 [3,25] rfl (Nx (Cf rfl (Sk (Nx (Sq (Rg (Mv 1 rfl ?_))))))))));intro a hF
   refine op_mathbits hF rfl rfl rfl rfl rfl ?_;clear hF a;intro a hF
   revert a;exact Md 1 [2] rfl (Nx (Re (Y1 rfl rfl ⟨_,rfl,z,rfl,hz1,hz2,hM.sub [(b1,58,NUML false D p)] (pc fun x=>by simp [ct,ct_append])⟩)))
  refine Rg (Mv 1 rfl (Gv rfl (fun _ hF=>gives_load1 hF rfl Tryz.underlying4 rfl rfl (show World.cell? _ ⟨b1,0+0,none⟩=some (.bool true) by rw [Nat.zero_add,blk_cell (hM.held (b1,58,NUML true D p) (by simp)).2];rfl)) (Md 0 [3,25] rfl (Nx (Ct rfl (Rg (Mv 1 rfl (Gv rfl (fun _ hF=>gives_bits (((z+2^63:Nat):Int)) hF rfl rfl rfl (or_63 (by omega)) _) (Md 1 [3] rfl (Nx (Sq (Rg (Mv 1 rfl ?_)))))))))))));intro a hF
  refine op_mathbits hF rfl rfl rfl rfl rfl ?_;clear hF a;intro a hF
  revert a;exact Md 1 [2] rfl (Nx (Re (Y1 rfl rfl ⟨_,rfl,z,rfl,hz1,hz2,hM.sub [(b1,58,NUML true D p)] (pc fun x=>by simp [ct,ct_append])⟩)))
 revert a;refine Bo (Sq ?_)
 rcases (show D=[]∨(D≠ []∧p+D.length< -400)∨(D≠ []∧ ¬ p+D.length< -400) by by_cases h:D=[];exact .inl h;by_cases h2:p+D.length< -400;exact .inr (.inl ⟨h,h2⟩);exact .inr (.inr ⟨h,h2⟩)) with h0 | ⟨h0,h1⟩ | ⟨h0,h1⟩
 ·
  have hnb: ¬ big (worth D) p:=by rw [h0];exact big_zero p
  refine Rg (Mv 1 rfl (Gv rfl (fun _ hF=>gives_load1 hF rfl Tryz.underlying9 rfl rfl (show World.cell? _ ⟨b1,0+1,none⟩=some (.string (mkS D)) by rw [Nat.zero_add,blk_cell (hM.held (b1,58,NUML neg D p) (by simp)).2];rfl)) ?_));intro a hF
  refine op_eqlStr hF rfl rfl rfl rfl rfl rfl ?_;clear hF a;intro a hF
  rw [show (D==([]:Str))=true by rw [h0];rfl] at hF
  revert a;refine Md 5 [1,3,4,13] rfl (Nx (Ct rfl (Sk (Nb (Kp [1,3] rfl ?_)))));intro a hF
  exact ⟨0,hF,hM,by decide,fun h=>absurd h (by decide),fun h=>absurd h hnb⟩
 ·
  have hnb:=big_pt_low (p:=p) hd.1 (by omega)
  refine Rg (Mv 1 rfl (Gv rfl (fun _ hF=>gives_load1 hF rfl Tryz.underlying9 rfl rfl (show World.cell? _ ⟨b1,0+1,none⟩=some (.string (mkS D)) by rw [Nat.zero_add,blk_cell (hM.held (b1,58,NUML neg D p) (by simp)).2];rfl)) ?_));intro a hF
  refine op_eqlStr hF rfl rfl rfl rfl rfl rfl ?_;clear hF a;intro a hF
  rw [show (D==([]:Str))=false by simpa using h0] at hF
  revert a;refine Mv 2 rfl (Bt rfl (by omega) (Md 2 [1,3,4,13] rfl (Nx (Ct rfl (Sk (Nb (Kp [1,3] rfl ?_)))))));intro a hF
  exact ⟨0,hF,hM,by decide,fun h=>absurd h (by decide),fun h=>absurd h hnb⟩
 refine Rg (Mv 1 rfl (Gv rfl (fun _ hF=>gives_load1 hF rfl Tryz.underlying9 rfl rfl (show World.cell? _ ⟨b1,0+1,none⟩=some (.string (mkS D)) by rw [Nat.zero_add,blk_cell (hM.held (b1,58,NUML neg D p) (by simp)).2];rfl)) ?_));intro a hF
 refine op_eqlStr hF rfl rfl rfl rfl rfl rfl ?_;clear hF a;intro a hF
 rw [show (D==([]:Str))=false by simpa using h0] at hF
 revert a;refine Mv 2 rfl (Bf rfl (by omega) (Md 2 [1,3,4,13] rfl (Nx (Cf rfl (Sq (Rg (Md 3 [1,21] rfl (Nx (Cd rfl (fun ht=> ?_) ((fun ht=> ?_)))))))))))
 ·
  have hhi:400<p+D.length:=by have:=of_decide_eq_true ht;omega
  have hbg:=big_pt_high hd h0 hhi
  refine Rg (Md 1 [1,3] rfl (Nb (Kp [1,3] rfl ?_)));intro a hF
  exact ⟨9218868437227405312,hF,hM,Nat.le_refl _,fun _=>hbg,fun _=>rfl⟩
 have hlo:p+D.length≤400:=by have:=of_decide_eq_false ht;omega
 refine Rg (Gv rfl (fun _ hF=>gives_loadA hF hM 0 rfl Tryz.underlying58 rfl (by kernel_rfl) rfl rfl) (Cl rfl rfl rfl (nearest_walk (by omega) hd.1 hl hM) ?_))
 clear hM;intro w v hR
 obtain ⟨z,rfl,hz1,hz2,hM⟩:=hR
 refine Md 1 [1,3] rfl (Nb (Kp [1,3] rfl ?_));intro a hF
 exact ⟨z,hF,hM,hz1,hz2⟩

end Go.Sx