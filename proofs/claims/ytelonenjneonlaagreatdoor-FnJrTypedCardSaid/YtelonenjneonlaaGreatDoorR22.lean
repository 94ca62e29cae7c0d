/- Part 22 of the proof of FnJrTyped: the statement Rows.FnJrTypedCardSaid; no further condition. -/
import Derived.Test.YtelonenjneonlaaGreatDoorR21
set_option linter.all false
set_option maxRecDepth 100000
namespace Go.Sx
open Go.RowKit Go.Proofs Js Go.Proofs.YtelonenjneonlaaGreatDoorW.PrintWords
theorem shl_b (a:UInt8) (k:Nat) (hk:k≤56):IntKind.u64.wrap ((a.toNat:Int)*2^min k IntKind.u64.bits)=((a.toNat*2^k:Nat):Int):=by
  have e:min k IntKind.u64.bits=k:=Nat.min_eq_left (by show k≤64;omega)
  rw [e,show (a.toNat:Int)*2^k=((a.toNat*2^k:Nat):Int) by simp]
  have h1:=a.toNat_lt
  have h2:a.toNat*2^k<2^8*2^56:=Nat.lt_of_lt_of_le (Nat.mul_lt_mul_of_pos_right h1 (Nat.pow_pos (by decide))) (Nat.mul_le_mul_left _ (Nat.pow_le_pow_right (by decide) hk))
  have h3:(2:Nat)^8*2^56=18446744073709551616:=by decide
  exact IntWalk.u64_in _ ⟨by omega,by omega⟩
theorem or_acc {p:Nat}{a:UInt8}(k:Nat) (hp:p<2^k) (hk:k≤56):bitVal .or .u64 (p:Int) ((a.toNat*2^k:Nat):Int)=some ((p+a.toNat*2^k:Nat):Int):=by
  have h1:=a.toNat_lt
  have h4:(a.toNat+1)*2^k≤2^8*2^k:=Nat.mul_le_mul_right _ (by omega)
  have h5:2^8*2^k≤2^8*2^56:=Nat.mul_le_mul_left _ (Nat.pow_le_pow_right (by decide) hk)
  have h3:(2:Nat)^8*2^56=18446744073709551616:=by decide
  rw [Nat.add_mul,Nat.one_mul] at h4
  simp only [bitVal,ofInt_nat,Option.some.injEq]
  have e:(BitVec.ofNat IntKind.u64.bits p ||| BitVec.ofNat IntKind.u64.bits (a.toNat*2^k)).toNat=p+a.toNat*2^k:=by
    rw [BitVec.toNat_or,BitVec.toNat_ofNat,BitVec.toNat_ofNat,show IntKind.u64.bits=64 from rfl,Nat.mod_eq_of_lt (by omega),Nat.mod_eq_of_lt (by omega),or_shift hp]
  rw [e]
  exact IntWalk.u64_in _ ⟨by omega,by omega⟩
theorem le64_walk {b o cp:Nat}{D:Str}(hl:D.length≤2^40) (h8:8≤D.length) (w0:World) (hD:Bts w0 b o D):
    Calls Tryz.prog 175 #[.agg #[],.slice (some ⟨b,o,none⟩) D.length cp] w0 (Ret fun v w'=>v= .int .u64 ((word8 (D.take 8):Nat):Int)∧Below w0.heap.size w0 w'):=by
 have hM:=MS0 w0
 obtain ⟨a0,a1,a2,a3,a4,a5,a6,a7,he⟩:=eight (l:=D.take 8) (by rw [List.length_take];omega)
 have hg:∀ j c,[a0,a1,a2,a3,a4,a5,a6,a7][j]?=some c→D[j]?=some c:=fun j c hj=>by rw [←he,List.getElem?_take] at hj;split at hj;exact hj;cases hj
 have hb0:=a0.toNat_lt
 have hb1:=a1.toNat_lt
 have hb2:=a2.toNat_lt
 have hb3:=a3.toNat_lt
 have hb4:=a4.toNat_lt
 have hb5:=a5.toNat_lt
 have hb6:=a6.toNat_lt
 have hb7:=a7.toNat_lt
 have hw:word8 (D.take 8)=a0.toNat+a1.toNat*2^8+a2.toNat*2^16+a3.toNat*2^24+a4.toNat*2^32+a5.toNat*2^40+a6.toNat*2^48+a7.toNat*2^56:=by rw [he];simp only [word8,le8];omega
 refine enter (l:=[.agg #[],.slice (some ⟨b,o,none⟩) D.length cp]) 52 Tryz.func175 rfl rfl (Sq (Rg ?_));intro a hF
 refine op_box (vs:=[]) hF hM rfl rfl rfl rfl rfl rfl ?_;clear hF hM a;intro a w b2 hF hM
 revert a;refine Md 1 [1] rfl (Nx (Sq (Rg (Mv 1 rfl (Gv rfl (fun _ hF=>gives_indexAddrS (sz:=1) (7) hF rfl Tryz.underlying66 (by kernel_rfl) rfl rfl rfl (by omega) _) (Gv rfl (fun _ hF=>gives_load1 hF rfl Tryz.underlying5 rfl rfl (hD.cell hM (hg 7 a7 rfl))) (Md 0 [1] rfl (Nx (Sq (Sl (by kernel_rfl) (by kernel_rfl) ?_))))))))))
 replace hM:=hM.drew
 skip
 exact Ms 1 rfl (Gs rfl (fun _ hF=>gives_indexAddrS (sz:=1) (0) hF rfl Tryz.underlying66 (by kernel_rfl) rfl rfl rfl (by omega) _) (Gs rfl (fun _ hF=>gives_load1 hF rfl Tryz.underlying5 rfl rfl (hD.cell hM (hg 0 a0 rfl))) (Gs rfl (fun _ hF=>gives_conv hF rfl Tryz.underlying5 Tryz.underlying54 rfl ((a0.toNat:Int)) (IntWalk.u64_in _ ⟨by omega,by omega⟩) _) (Ms 1 rfl (Gs rfl (fun _ hF=>gives_indexAddrS (sz:=1) (1) hF rfl Tryz.underlying66 (by kernel_rfl) rfl rfl rfl (by omega) _) (Gs rfl (fun _ hF=>gives_load1 hF rfl Tryz.underlying5 rfl rfl (hD.cell hM (hg 1 a1 rfl))) (Gs rfl (fun _ hF=>gives_conv hF rfl Tryz.underlying5 Tryz.underlying54 rfl ((a1.toNat:Int)) (IntWalk.u64_in _ ⟨by omega,by omega⟩) _) (Gs rfl (fun _ hF=>gives_shl (8) (((a1.toNat*2^8:Nat):Int)) hF rfl rfl rfl rfl (shl_b a1 8 (by decide)) _) (Gs rfl (fun _ hF=>gives_bits (((a0.toNat+a1.toNat*2^8:Nat):Int)) hF rfl rfl rfl (or_acc 8 (by omega) (by decide)) _) (Ms 1 rfl (Gs rfl (fun _ hF=>gives_indexAddrS (sz:=1) (2) hF rfl Tryz.underlying66 (by kernel_rfl) rfl rfl rfl (by omega) _) (Gs rfl (fun _ hF=>gives_load1 hF rfl Tryz.underlying5 rfl rfl (hD.cell hM (hg 2 a2 rfl))) (Gs rfl (fun _ hF=>gives_conv hF rfl Tryz.underlying5 Tryz.underlying54 rfl ((a2.toNat:Int)) (IntWalk.u64_in _ ⟨by omega,by omega⟩) _) (Gs rfl (fun _ hF=>gives_shl (16) (((a2.toNat*2^16:Nat):Int)) hF rfl rfl rfl rfl (shl_b a2 16 (by decide)) _) (Gs rfl (fun _ hF=>gives_bits (((a0.toNat+a1.toNat*2^8+a2.toNat*2^16:Nat):Int)) hF rfl rfl rfl (or_acc 16 (by omega) (by decide)) _) (Ms 1 rfl (Gs rfl (fun _ hF=>gives_indexAddrS (sz:=1) (3) hF rfl Tryz.underlying66 (by kernel_rfl) rfl rfl rfl (by omega) _) (Gs rfl (fun _ hF=>gives_load1 hF rfl Tryz.underlying5 rfl rfl (hD.cell hM (hg 3 a3 rfl))) (Gs rfl (fun _ hF=>gives_conv hF rfl Tryz.underlying5 Tryz.underlying54 rfl ((a3.toNat:Int)) (IntWalk.u64_in _ ⟨by omega,by omega⟩) _) (Gs rfl (fun _ hF=>gives_shl (24) (((a3.toNat*2^24:Nat):Int)) hF rfl rfl rfl rfl (shl_b a3 24 (by decide)) _) (Gs rfl (fun _ hF=>gives_bits (((a0.toNat+a1.toNat*2^8+a2.toNat*2^16+a3.toNat*2^24:Nat):Int)) hF rfl rfl rfl (or_acc 24 (by omega) (by decide)) _) (Ms 1 rfl (Gs rfl (fun _ hF=>gives_indexAddrS (sz:=1) (4) hF rfl Tryz.underlying66 (by kernel_rfl) rfl rfl rfl (by omega) _) (Gs rfl (fun _ hF=>gives_load1 hF rfl Tryz.underlying5 rfl rfl (hD.cell hM (hg 4 a4 rfl))) (Gs rfl (fun _ hF=>gives_conv hF rfl Tryz.underlying5 Tryz.underlying54 rfl ((a4.toNat:Int)) (IntWalk.u64_in _ ⟨by omega,by omega⟩) _) (Gs rfl (fun _ hF=>gives_shl (32) (((a4.toNat*2^32:Nat):Int)) hF rfl rfl rfl rfl (shl_b a4 32 (by decide)) _) (Gs rfl (fun _ hF=>gives_bits (((a0.toNat+a1.toNat*2^8+a2.toNat*2^16+a3.toNat*2^24+a4.toNat*2^32:Nat):Int)) hF rfl rfl rfl (or_acc 32 (by omega) (by decide)) _) (Ms 1 rfl (Gs rfl (fun _ hF=>gives_indexAddrS (sz:=1) (5) hF rfl Tryz.underlying66 (by kernel_rfl) rfl rfl rfl (by omega) _) (Gs rfl (fun _ hF=>gives_load1 hF rfl Tryz.underlying5 rfl rfl (hD.cell hM (hg 5 a5 rfl))) (Gs rfl (fun _ hF=>gives_conv hF rfl Tryz.underlying5 Tryz.underlying54 rfl ((a5.toNat:Int)) (IntWalk.u64_in _ ⟨by omega,by omega⟩) _) (Gs rfl (fun _ hF=>gives_shl (40) (((a5.toNat*2^40:Nat):Int)) hF rfl rfl rfl rfl (shl_b a5 40 (by decide)) _) (Gs rfl (fun _ hF=>gives_bits (((a0.toNat+a1.toNat*2^8+a2.toNat*2^16+a3.toNat*2^24+a4.toNat*2^32+a5.toNat*2^40:Nat):Int)) hF rfl rfl rfl (or_acc 40 (by omega) (by decide)) _) (Ms 1 rfl (Gs rfl (fun _ hF=>gives_indexAddrS (sz:=1) (6) hF rfl Tryz.underlying66 (by kernel_rfl) rfl rfl rfl (by omega) _) (Gs rfl (fun _ hF=>gives_load1 hF rfl Tryz.underlying5 rfl rfl (hD.cell hM (hg 6 a6 rfl))) (Gs rfl (fun _ hF=>gives_conv hF rfl Tryz.underlying5 Tryz.underlying54 rfl ((a6.toNat:Int)) (IntWalk.u64_in _ ⟨by omega,by omega⟩) _) (Gs rfl (fun _ hF=>gives_shl (48) (((a6.toNat*2^48:Nat):Int)) hF rfl rfl rfl rfl (shl_b a6 48 (by decide)) _) (Gs rfl (fun _ hF=>gives_bits (((a0.toNat+a1.toNat*2^8+a2.toNat*2^16+a3.toNat*2^24+a4.toNat*2^32+a5.toNat*2^40+a6.toNat*2^48:Nat):Int)) hF rfl rfl rfl (or_acc 48 (by omega) (by decide)) _) (Ms 1 rfl (Gs rfl (fun _ hF=>gives_indexAddrS (sz:=1) (7) hF rfl Tryz.underlying66 (by kernel_rfl) rfl rfl rfl (by omega) _) (Gs rfl (fun _ hF=>gives_load1 hF rfl Tryz.underlying5 rfl rfl (hD.cell hM (hg 7 a7 rfl))) (Gs rfl (fun _ hF=>gives_conv hF rfl Tryz.underlying5 Tryz.underlying54 rfl ((a7.toNat:Int)) (IntWalk.u64_in _ ⟨by omega,by omega⟩) _) (Gs rfl (fun _ hF=>gives_shl (56) (((a7.toNat*2^56:Nat):Int)) hF rfl rfl rfl rfl (shl_b a7 56 (by decide)) _) (Gs rfl (fun _ hF=>gives_bits (((a0.toNat+a1.toNat*2^8+a2.toNat*2^16+a3.toNat*2^24+a4.toNat*2^32+a5.toNat*2^40+a6.toNat*2^48+a7.toNat*2^56:Nat):Int)) hF rfl rfl rfl (or_acc 56 (by omega) (by decide)) _) (Ms 1 rfl (Sd (Kp [4] rfl (Nx (Re (Y1 rfl rfl ⟨_,rfl,by rw [hw],hM.below⟩)))))))))))))))))))))))))))))))))))))))))))))))))))
def QW:Int:=2459565876494606882
def BW:Int:=6655295901103053916
theorem xorQ {x:Nat}(h:x<2^64):bitVal .xor .u64 (x:Int) QW=some ((x^^^le8 34 34 34 34 34 34 34 34:Nat):Int):=xor_u64 (q:=2459565876494606882) h (by decide)
theorem xorB {x:Nat}(h:x<2^64):bitVal .xor .u64 (x:Int) BW=some ((x^^^le8 92 92 92 92 92 92 92 92:Nat):Int):=xor_u64 (q:=6655295901103053916) h (by decide)
theorem andM {x:Nat}(h:x<2^64):bitVal .and .u64 (x:Int) 9259542123273814144=some ((x&&&9259542123273814144:Nat):Int):=and_u64 (q:=9259542123273814144) h (by decide)
theorem free_both {D:Str}{i:Nat}(h8:i+8≤D.length) (h:hitN (word8 ((D.drop i).take 8)^^^le8 34 34 34 34 34 34 34 34) ||| hitN (word8 ((D.drop i).take 8)^^^le8 92 92 92 92 92 92 92 92)=0):
    (∀ c∈(D.drop i).take 8,c≠34)∧∀ c∈(D.drop i).take 8,c≠92:=by
  obtain ⟨h1,h2⟩:=bits_eq.1 h
  have hl:((D.drop i).take 8).length=8:=by rw [List.length_take,List.length_drop];omega
  exact ⟨hit_free hl h1,hit_free hl h2⟩
theorem run_even {D:Str}{i m:Nat}{c:UInt8}(hrun:∀ x,x<m→D[i - 1 - x]?=some 92) (hm:m≤i) (h:m=i∨(D[i - 1 - m]?=some c∧c≠92∧m<i)):tr D 0 i=m:=by
  rw [tr_run m i (by omega) hrun]
  rcases h with h | ⟨h1,h2,h3⟩
  · rw [h,Nat.sub_self,tr_self,Nat.zero_add]
  · rw [tr_stop (c:=c) (by omega) (by rw [show i - m - 1=i - 1 - m by omega];exact h1) h2,Nat.zero_add]
theorem run_more {D:Str}{i m:Nat}(hrun:∀ x,x<m→D[i - 1 - x]?=some 92) (h:D[i - 1 - m]?=some 92):∀ x,x<m+1→D[i - 1 - x]?=some 92:=by
  intro x hx
  rcases Nat.lt_or_eq_of_le (Nat.le_of_lt_succ hx) with h1 | h1
  · exact hrun x h1
  · rw [h1];exact h
theorem stringEnd_walk {b o cp q:Nat}{D:Str}(hl:D.length≤2^40) (hcp:D.length≤cp) (hC:Cls D q) (w0:World) (hD:Bts w0 b o D):
    Calls Tryz.prog 152 #[.agg CFG.toArray,.slice (some ⟨b,o,none⟩) D.length cp,.int .u8 34] w0 (Ret fun v w'=>v= .tuple #[.int .i64 ((q+1:Nat):Int),.bool (esc D q)]∧Below w0.heap.size w0 w'):=by
 have hM:=MS0 w0
 have hqs:=hC.small
 refine enter (l:=[.agg CFG.toArray,.slice (some ⟨b,o,none⟩) D.length cp,.int .u8 34]) 105 Tryz.func152 rfl rfl (Sq (Rg ?_));intro a hF
 refine op_box (vs:=CFG) hF hM rfl rfl rfl rfl rfl rfl ?_;clear hF hM a;intro a w b3 hF hM
 revert a;refine Md 2 [1,2] rfl (Nx (Sq (Rg (Mv 1 rfl ?_))));intro a hF
 refine op_conv_to hF rfl rfl rfl rfl Tryz.underlying5 Tryz.underlying54 rfl (by decide) ?_;clear hF a;intro a hF
 refine op_sum hF rfl (QW) rfl rfl rfl rfl rfl rfl (by decide) (IntWalk.u64_in _ ⟨by decide,by decide⟩) ?_;clear hF a;intro a hF
 revert a;refine Md 1 [1,2,8] rfl (Nx (Sq (Rg (Md 1 [1,2,8,9] rfl (Nx (Sq (Rg (Md 1 [1,2,8,9,10] rfl (Nx (Sq (Rg (Md 3 [1,2,8,9,10,11] rfl (Nx ?_)))))))))))));intro a hF
 refine cut (fun a w=>∃ i:Nat,Fr 108 [(1,.slice (some ⟨b,o,none⟩) D.length cp),(2,.int .u8 34),(10,.int .i64 (i:Int)),(11,.int .i64 (D.length:Int))] a∧Mem w0.heap.size w0 [(b3,125,CFG)] w∧i≤q∧esc D i=false) ?_ (fun a w h=> ?_)
 ·
  revert a;refine Bo (Kp [1,2,8,9,10,11] rfl ?_);intro a hF
  refine loopX (fun (i:Nat) a w=>Fr 108 [(1,.slice (some ⟨b,o,none⟩) D.length cp),(2,.int .u8 34),(8,.int .u64 QW),(9,.int .u64 BW),(10,.int .i64 (i:Int)),(11,.int .i64 (D.length:Int))] a∧Mem w0.heap.size w0 [(b3,125,CFG)] w∧i≤q∧esc D i=false) (fun i=>D.length - i) (0) ?_ (fun i a w hI=> ?_)
  · exact ⟨hF,hM,Nat.zero_le _,rfl⟩
  clear hF hM
  obtain ⟨hF,hM,hiq,hes⟩:=hI
  revert a;refine Sq (Sq (Rg (Mv 1 rfl (Sm (((i+8:Nat):Int)) rfl (by omega) (Md 2 [1,2,8,9,10,11,28] rfl (Nx (D1 rfl ?_ ((fun ht=> ?_)))))))))
  ·
   refine Ex (Ot (Ot (Ob (Kp [1,2,10,11] rfl ?_))));intro a hF
   exact ⟨i,hF,hM,hiq,hes⟩
  have h8:i+8≤D.length:=by have:=of_decide_eq_true ht;omega
  have hwl:=word8_lt ((D.drop i).take 8)
  refine Sk (Nx (Bo (Sq ?_)));intro a hF
  refine mix (fun w=>Mem w0.heap.size w0 [(b3,125,CFG)] w) 5 (by kernel_rfl) ?_
  replace hM:=hM.drew
  generalize World.drew w=w at*
  refine mtakeL 0 hF hM rfl (by kernel_rfl) (by kernel_rfl) (by kernel_rfl) (by kernel_rfl) (by kernel_rfl) (fun _ _ _ h=>h) rfl rfl (y_plain rfl (fun w hM=>gives_loadMid (cs:=[]) hF rfl rfl Tryz.underlying207 rfl (by kernel_rfl) (fun i u h=>by simp at h))) ?_;clear hF a;intro a hF
  refine mtakeP 1 hF (.inl hM) rfl (by kernel_rfl) (by kernel_rfl) (by kernel_rfl) rfl (fun _ _ _ h=>h) rfl rfl (y_plain rfl (fun w _=>gives_move hF rfl rfl _)) ?_;clear hF a;intro a hF
  refine mtakeP 2 hF (.inl hM) rfl (by kernel_rfl) (by kernel_rfl) (by kernel_rfl) rfl (fun _ _ _ h=>h) rfl rfl (y_plain rfl (fun w _=>gives_move hF rfl rfl _)) ?_;clear hF a;intro a hF
  refine mtakeP 3 hF (.inl hM) rfl (by kernel_rfl) (by kernel_rfl) (by kernel_rfl) rfl (fun _ _ _ h=>h) rfl rfl (y_plain rfl (fun w _=>gives_slFrom i hF rfl Tryz.underlying66 (by kernel_rfl) rfl rfl rfl (by omega) _)) ?_;clear hF a;intro a hF
  rw [←List.length_drop] at hF
  refine malone 4 rfl (by kernel_rfl) ?_
  revert a;refine Cm hM rfl rfl rfl (le64_walk (D:=D.drop i) (cp:=cp - i) (by rw [List.length_drop];omega) (by rw [List.length_drop];omega) _ ((hD.below hM.below).so i hcp)) ?_
  clear hM;intro w v hR hM hBe
  obtain rfl:=hR
  intro a hF
  refine mstep (.inl (hM)) ?_
  refine malone 5 rfl (by kernel_rfl) ?_
  revert a;refine Mv 1 rfl ?_;intro a hF
  refine mstep (.inr (by kernel_rfl)) ?_
  refine mend (by kernel_rfl) ?_
  revert a;refine Kp [1,2,8,9,10,11,12] rfl (Nx (Sq (Rg (Mv 2 rfl (Gv rfl (fun _ hF=>gives_bits (((word8 ((D.drop i).take 8)^^^le8 34 34 34 34 34 34 34 34:Nat):Int)) hF rfl rfl rfl (xorQ hwl) _) (Md 1 [1,2,8,9,10,11,12,13] rfl ?_))))))
  obtain ⟨X,hX⟩:∃ X,X=word8 ((D.drop i).take 8)^^^le8 34 34 34 34 34 34 34 34:=⟨_,rfl⟩
  intro a hF
  rw [←hX] at hF
  have hX64:X<2^64:=by rw [hX];exact Nat.xor_lt_two_pow hwl (by decide)
  revert a;refine Nx (Sq (Rg (Mv 2 rfl (Gv rfl (fun _ hF=>gives_bits (((word8 ((D.drop i).take 8)^^^le8 92 92 92 92 92 92 92 92:Nat):Int)) hF rfl rfl rfl (xorB hwl) _) (Md 1 [1,2,8,9,10,11,13,14] rfl ?_)))))
  obtain ⟨Y,hY⟩:∃ Y,Y=word8 ((D.drop i).take 8)^^^le8 92 92 92 92 92 92 92 92:=⟨_,rfl⟩
  intro a hF
  rw [←hY] at hF
  have hY64:Y<2^64:=by rw [hY];exact Nat.xor_lt_two_pow hwl (by decide)
  revert a;refine Nx (Sq (Rg (Mv 2 rfl ?_)));intro a hF
  rw [sub_w] at hF
  revert a;refine Mv 1 rfl (Gv rfl (fun _ hF=>gives_unot hF rfl rfl _ (not_u64 hX64) _) (Gv rfl (fun _ hF=>gives_bits (((((X+18446744073709551616 - 72340172838076673) % 18446744073709551616)&&&(18446744073709551615 - X):Nat):Int)) hF rfl rfl rfl (and_u64 (Nat.mod_lt _ (by decide)) (by omega)) _) (Gv rfl (fun _ hF=>gives_bits (((hitN X:Nat):Int)) hF rfl rfl rfl (andM (Nat.and_lt_two_pow _ (by omega))) _) (Md 1 [1,2,8,9,10,11,14,15] rfl (Nx (Sq (Rg (Mv 2 rfl ?_))))))));intro a hF
  rw [sub_w] at hF
  revert a;refine Mv 1 rfl (Gv rfl (fun _ hF=>gives_unot hF rfl rfl _ (not_u64 hY64) _) (Gv rfl (fun _ hF=>gives_bits (((((Y+18446744073709551616 - 72340172838076673) % 18446744073709551616)&&&(18446744073709551615 - Y):Nat):Int)) hF rfl rfl rfl (and_u64 (Nat.mod_lt _ (by decide)) (by omega)) _) (Gv rfl (fun _ hF=>gives_bits (((hitN Y:Nat):Int)) hF rfl rfl rfl (andM (Nat.and_lt_two_pow _ (by omega))) _) (Md 1 [1,2,8,9,10,11,15,16] rfl (Nx (Sq (Sq (Rg (Mv 2 rfl (Gv rfl (fun _ hF=>gives_bits (((hitN X ||| hitN Y:Nat):Int)) hF rfl rfl rfl (or_u64 (Nat.and_lt_two_pow _ (by decide)) (Nat.and_lt_two_pow _ (by decide))) _) (Md 1 [1,2,8,9,10,11,55] rfl (Nx (D1 rfl ?_ ((fun ht=> ?_)))))))))))))))
  ·
   refine Sk (Nx (Ex (Op' rfl (Ot (Ob (Kp [1,2,10,11] rfl ?_))))));intro a hF
   exact ⟨i,hF,hM,hiq,hes⟩
  have hfr:(∀ c∈(D.drop i).take 8,c≠34)∧∀ c∈(D.drop i).take 8,c≠92:=free_both h8 (by rw [←hX,←hY];have:=eq_of_beq ht;omega)
  refine Sq (Rg (Mv 1 rfl (Sm (((i+8:Nat):Int)) rfl (by omega) (Md 1 [1,2,8,9,10,11] rfl (Nx (Ex (Ot (Ob (Kp [1,2,8,9,10,11] rfl ?_)))))))));intro a hF
  exact ⟨i+8,⟨hF,hM,cls_eight hC hiq hfr.1,esc_eight hes hfr.2⟩,by omega⟩
 clear hF hM
 obtain ⟨i0,hF,hM,hiq,hes⟩:=h
 revert a;refine Sq (Rg (Md 1 [1,2,10,11,17] rfl (Nx (Sq (Bo (Kp [1,2,10,11,17] rfl ?_))))));intro a hF
 refine loopX (fun (i:Nat) a w=>Fr 108 [(1,.slice (some ⟨b,o,none⟩) D.length cp),(2,.int .u8 34),(10,.int .i64 (i:Int)),(11,.int .i64 (D.length:Int)),(17,.bool (esc D i))] a∧Mem w0.heap.size w0 [(b3,125,CFG)] w∧i≤q) (fun i=>D.length - i) (i0) ?_ (fun i a w hI=> ?_)
 · exact ⟨by rw [hes];exact hF,hM,hiq⟩
 clear hF hM
 clear hiq hes
 obtain ⟨hF,hM,hiq⟩:=hI
 obtain ⟨c,hc⟩:=hC.get hiq
 have hi:i<D.length:=by omega
 revert a;refine Sq (Sq (Rg (Md 3 [1,2,10,11,17,60] rfl (Nx (D2 rfl (fun ht=>absurd (of_decide_eq_false ht) (by omega)) (Sk (Nx ?_)))))));intro a hF
 refine cutF (fun a w=>Fr 108 [(1,.slice (some ⟨b,o,none⟩) D.length cp),(2,.int .u8 34),(10,.int .i64 (i:Int)),(11,.int .i64 (D.length:Int)),(17,.bool (esc D (i+1)))] a∧Mem w0.heap.size w0 [(b3,125,CFG)] w∧i+1≤q) (fun a w h=> ?_) ?_
 ·
  clear hF hM
  obtain ⟨hF,hM,hst⟩:=h
  revert a;refine Rg (Mv 1 rfl (Sn rfl (by omega) (Md 1 [1,2,10,11,17] rfl ?_)));intro a hF
  exact ⟨i+1,⟨hF,hM,hst⟩,by omega⟩
 revert a;refine Bo (Sq (Sq (Rg (Mv 2 rfl (Gv rfl (fun _ hF=>gives_indexAddrS (sz:=1) (i) hF rfl Tryz.underlying66 (by kernel_rfl) rfl rfl rfl hi _) (Gv rfl (fun _ hF=>gives_load1 hF rfl Tryz.underlying5 rfl rfl (hD.cell hM hc)) (Md 1 [1,2,10,11,17,67] rfl (Nx (C1 rfl (fun ht=> ?_) ?_)))))))))
 ·
  have hgt:=of_decide_eq_true ht
  have hn92:c≠92:=fun e=>by rw [e] at hgt;exact absurd hgt (by decide)
  have hn34:c≠34:=fun e=>by rw [e] at hgt;exact absurd hgt (by decide)
  have hst:=hC.step hiq hc hn34
  have hesc:esc D (i+1)=esc D i:=by rw [esc_next hc,show (c==92)=false by simpa using hn92,Bool.or_false]
  refine Ex (Ot (Ob (Kp [1,2,10,11,17] rfl ?_)));intro a hF
  exact ⟨by rw [hesc];exact hF,hM,hst⟩
 refine Sk (Nx (Sq (Rg (Mv 2 rfl (Gv rfl (fun _ hF=>gives_indexAddrS (sz:=1) (i) hF rfl Tryz.underlying66 (by kernel_rfl) rfl rfl rfl hi _) (Gv rfl (fun _ hF=>gives_load1 hF rfl Tryz.underlying5 rfl rfl (hD.cell hM hc)) (Md 1 [1,2,10,11,17,18] rfl (Nx (Sq (Rg (Md 3 [1,2,10,11,17,18,74] rfl (Nx (Ce rfl (fun ht=> ?_) ((fun ht=> ?_)))))))))))))))
 ·
  have hn34:=eq_f (d:=34) rfl ht
  have hst:=hC.step hiq hc hn34
  refine Sq (Rg (Md 2 [1,2,10,11,17,106] rfl (Nx (Ce rfl (fun ht=> ?_) ((fun ht=> ?_))))))
  ·
   have hesc:esc D (i+1)=esc D i:=by rw [esc_next hc,show (c==92)=false by simpa using eq_f (d:=92) rfl ht,Bool.or_false]
   refine Sk (Nb (Kp [1,2,10,11,17] rfl ?_));intro a hF
   exact ⟨by rw [hesc];exact hF,hM,hst⟩
  have hesc:esc D (i+1)=true:=by rw [esc_next hc,eq_t (d:=92) rfl ht];simp
  refine Rg (Md 1 [1,2,10,11,17] rfl (Nb (Kp [1,2,10,11,17] rfl ?_)));intro a hF
  exact ⟨by rw [hesc];exact hF,hM,hst⟩
 have h34:D[i]?=some 34:=by rw [hc,eq_t (d:=34) rfl ht]
 have hesc:esc D (i+1)=esc D i:=by rw [esc_next hc,show (c==92)=false by rw [eq_t (d:=34) rfl ht];rfl,Bool.or_false]
 refine Sq (Sq (Rg (Md 2 [1,2,10,11,17,76] rfl (Nx (Cd rfl (fun ht=> ?_) ((fun ht=> ?_)))))))
 ·
  have hee:esc D i=false:=by simpa using ht
  have hiq':=hC.hit hiq h34 (by rw [esc_tr hee (by omega)])
  subst hiq'
  exact Sq (Rg (Mv 1 rfl (Sm (((i+1:Nat):Int)) rfl (by omega) (Md 2 [6,7] rfl (Nx (Re (Rt (Rb (Rt (Rt (Rb (Rt (Y2 rfl rfl rfl ⟨_,rfl,by rw [hee],hM.below⟩)))))))))))))
 have hee:esc D i=true:=by simpa using ht
 refine Sk (Nx (Sq (Rg (Mv 1 rfl (Sm ((i:Int) - 1 - ((0:Nat):Int)) rfl (by omega) (Md 1 [1,2,10,11,17,19] rfl (Nx (Bo (Kp [1,2,10,11,17,19] rfl ?_)))))))));intro a hF
 refine loopX (fun (m:Nat) a w=>Fr 108 [(1,.slice (some ⟨b,o,none⟩) D.length cp),(2,.int .u8 34),(10,.int .i64 (i:Int)),(11,.int .i64 (D.length:Int)),(17,.bool (esc D i)),(19,.int .i64 ((i:Int) - 1 - ((m:Nat):Int)))] a∧Mem w0.heap.size w0 [(b3,125,CFG)] w∧m≤i∧m % 2=0∧∀ x,x<m→D[i - 1 - x]?=some 92) (fun m=>i - m) (0) ?_ (fun m a w hI=> ?_)
 · exact ⟨hF,hM,Nat.zero_le _,rfl,fun x h=>absurd h (Nat.not_lt_zero _)⟩
 clear hF hM
 obtain ⟨hF,hM,hmi,hm2,hrun⟩:=hI
 revert a;refine Bo (Sq (Sq ?_))
 rcases (show m=i∨∃ d,m<i∧D[i - 1 - m]?=some d by rcases Nat.lt_or_eq_of_le hmi with h | h;exact .inr ⟨_,h,List.getElem?_eq_getElem (by omega)⟩;exact .inl h) with hm | ⟨d,hm,hd⟩
 ·
  have htr:=run_even (c:=0) hrun hmi (.inl hm)
  have hiq':=hC.hit hiq h34 (by rw [htr];exact hm2)
  subst hiq'
  exact Rg (Mv 1 rfl (Bt rfl (by omega) (Md 7 [1,2,10,11,17,19,89] rfl (Nx (Ct rfl (Sq (Rg (Mv 1 rfl (Sm (((i+1:Nat):Int)) rfl (by omega) (Md 2 [6,7] rfl (Nx (Re (Rt (Rb (Rt (Rb (Rb (Rt (Rt (Rb (Rt (Y2 rfl rfl rfl ⟨_,rfl,by rw [hee],hM.below⟩))))))))))))))))))))))
 rcases Classical.em (d=92) with h92 | h92
 ·
  subst h92
  have h92:=hd
  refine Rg (Mv 1 rfl (Bf rfl (by omega) (Mv 3 rfl (Gv rfl (fun _ hF=>gives_indexAddrS (sz:=1) (i - 1 - m) hF rfl Tryz.underlying66 (by kernel_rfl) rfl rfl (by omega) (by omega) _) (Gv rfl (fun _ hF=>gives_load1 hF rfl Tryz.underlying5 rfl rfl (hD.cell hM hd)) (Md 2 [1,2,10,11,17,19,89] rfl (Nx (C1 rfl (fun ht=>absurd ht (by decide)) (Sk (Nx (Sq (Rg (Mv 1 rfl (Sm ((i:Int) - 1 - ((m+1:Nat):Int)) rfl (by omega) (Md 1 [1,2,10,11,17,19] rfl (Nx (Sq (Sq ?_))))))))))))))))))
  rcases (show m+1=i∨∃ d,m+1<i∧D[i - 1 - (m+1)]?=some d by rcases Nat.lt_or_eq_of_le (Nat.succ_le_of_lt hm) with h | h;exact .inr ⟨_,h,List.getElem?_eq_getElem (by omega)⟩;exact .inl h) with hm1 | ⟨d,hm1,hd'⟩
  ·
   have htr:=run_even (c:=0) (run_more hrun h92) (Nat.succ_le_of_lt hm) (.inl hm1)
   have hst:=hC.go hiq (by rw [htr];omega)
   refine Rg (Mv 1 rfl (Bt rfl (by omega) (Md 7 [1,2,10,11,17,19,102] rfl (Nx (Ct rfl (Ex (Ot (Op' rfl (Ot (Ob (Nb (Kp [1,2,10,11,17] rfl ?_))))))))))));intro a hF
   exact ⟨by rw [hesc];exact hF,hM,hst⟩
  rcases Classical.em (d=92) with h92' | h92'
  ·
   subst h92'
   have h92':=hd'
   have hmi2:m+2≤i:=hm1
   refine Rg (Mv 1 rfl (Bf rfl (by omega) (Mv 3 rfl (Gv rfl (fun _ hF=>gives_indexAddrS (sz:=1) (i - 1 - (m+1)) hF rfl Tryz.underlying66 (by kernel_rfl) rfl rfl (by omega) (by omega) _) (Gv rfl (fun _ hF=>gives_load1 hF rfl Tryz.underlying5 rfl rfl (hD.cell hM hd')) (Md 2 [1,2,10,11,17,19,102] rfl (Nx (C1 rfl (fun ht=>absurd ht (by decide)) (Sk (Nx (Rg (Mv 1 rfl (Sm ((i:Int) - 1 - ((m+2:Nat):Int)) rfl (by omega) (Md 1 [1,2,10,11,17,19] rfl (Nb (Kp [1,2,10,11,17,19] rfl ?_))))))))))))))));intro a hF
   exact ⟨m+2,⟨hF,hM,hmi2,by omega,run_more (run_more hrun h92) h92'⟩,by omega⟩
  have htr:=run_even (run_more hrun h92) (Nat.succ_le_of_lt hm) (.inr ⟨hd',h92',hm1⟩)
  have hst:=hC.go hiq (by rw [htr];omega)
  refine Rg (Mv 1 rfl (Bf rfl (by omega) (Mv 3 rfl (Gv rfl (fun _ hF=>gives_indexAddrS (sz:=1) (i - 1 - (m+1)) hF rfl Tryz.underlying66 (by kernel_rfl) rfl rfl (by omega) (by omega) _) (Gv rfl (fun _ hF=>gives_load1 hF rfl Tryz.underlying5 rfl rfl (hD.cell hM hd')) (Mv 1 rfl ?_))))));intro a hF
  rw [bne_t (d:=92) (z:=92) rfl h92'] at hF
  revert a;refine Md 1 [1,2,10,11,17,19,102] rfl (Nx (Ct rfl (Ex (Ot (Op' rfl (Ot (Ob (Nb (Kp [1,2,10,11,17] rfl ?_)))))))));intro a hF
  exact ⟨by rw [hesc];exact hF,hM,hst⟩
 have htr:=run_even hrun hmi (.inr ⟨hd,h92,hm⟩)
 have hiq':=hC.hit hiq h34 (by rw [htr];exact hm2)
 subst hiq'
 refine Rg (Mv 1 rfl (Bf rfl (by omega) (Mv 3 rfl (Gv rfl (fun _ hF=>gives_indexAddrS (sz:=1) (i - 1 - m) hF rfl Tryz.underlying66 (by kernel_rfl) rfl rfl (by omega) (by omega) _) (Gv rfl (fun _ hF=>gives_load1 hF rfl Tryz.underlying5 rfl rfl (hD.cell hM hd)) (Mv 1 rfl ?_))))));intro a hF
 rw [bne_t (d:=92) (z:=92) rfl h92] at hF
 revert a;exact Md 1 [1,2,10,11,17,19,89] rfl (Nx (Ct rfl (Sq (Rg (Mv 1 rfl (Sm (((i+1:Nat):Int)) rfl (by omega) (Md 2 [6,7] rfl (Nx (Re (Rt (Rb (Rt (Rb (Rb (Rt (Rt (Rb (Rt (Y2 rfl rfl rfl ⟨_,rfl,by rw [hee],hM.below⟩)))))))))))))))))))
theorem brk_low {x y c:UInt8}(hb:Js.Brk x y) (h:c.toNat≤32):c≠34∧c≠x∧c≠y:=by
  refine ⟨?_,?_,?_⟩ <;> rintro rfl <;> rcases hb with ⟨rfl,rfl⟩ | ⟨rfl,rfl⟩ <;> exact absurd h (by decide)
theorem brk_39 {x y:UInt8}(hb:Js.Brk x y):(39:UInt8)≠34∧(39:UInt8)≠x∧(39:UInt8)≠y:=by rcases hb with ⟨rfl,rfl⟩ | ⟨rfl,rfl⟩ <;> decide
theorem blockEnd_walk {b o cp E:Nat}{D:Str}{x y:UInt8}(hb:Js.Brk x y) (hN:Nst x y 0 D E) (hl:D.length≤2^40) (hcp:D.length≤cp) (w0:World) (hD:Bts w0 b o D):
    Calls Tryz.prog 154 #[.agg CFG.toArray,.slice (some ⟨b,o,none⟩) D.length cp,.int .u8 (x.toNat:Int),.int .u8 (y.toNat:Int)] w0 (Ret fun v w'=>v= .int .i64 (E:Int)∧Below w0.heap.size w0 w'):=by
 have hM:=MS0 w0
 have hA:=AtN.of (i:=0) (D:=D) hN (Nat.zero_add E) hN.le
 refine enter (l:=[.agg CFG.toArray,.slice (some ⟨b,o,none⟩) D.length cp,.int .u8 (x.toNat:Int),.int .u8 (y.toNat:Int)]) 94 Tryz.func154 rfl rfl (Sq (Rg ?_));intro a hF
 refine op_box (vs:=CFG) hF hM rfl rfl rfl rfl rfl rfl ?_;clear hF hM a;intro a w b4 hF hM
 revert a;refine Md 1 [1,2,3,4] rfl (Nx (Sq (Rg (Md 1 [1,2,3,4,9] rfl (Nx (Sq (Rg (Md 1 [1,2,3,4,9,10] rfl (Nx (Sq (Rg (Md 3 [1,2,3,4,9,10,11] rfl (Nx (Sq (Bo (Kp [1,2,3,4,9,10,11] rfl ?_))))))))))))))));intro a hF
 refine loopX (fun (z:Nat×Nat) a w=>Fr 98 [(1,.slice (some ⟨b,o,none⟩) D.length cp),(2,.int .u8 (x.toNat:Int)),(3,.int .u8 (y.toNat:Int)),(4,.pointer (some ⟨b4,0,none⟩)),(9,.int .i64 (z.1:Int)),(10,.int .i64 (z.2:Int)),(11,.int .i64 (D.length:Int))] a∧Mem w0.heap.size w0 [(b4,125,CFG)] w∧AtN x y D z.1 z.2 E∧z.1≤z.2) (fun z=>D.length - z.2) ((0,0)) ?_ (fun z a w hI=> ?_)
 · exact ⟨hF,hM,hA,Nat.le_refl _⟩
 clear hF hM
 clear hA
 obtain ⟨d,i0⟩:=z
 obtain ⟨hF,hM,hA,hdi⟩:=hI
 simp only at hF hM hA hdi
 have hlt0:=hA.lt
 have hle0:=hA.le
 revert a;refine Sq (Sq (Rg (Md 3 [1,2,3,4,9,10,11,20] rfl (Nx (D2 rfl (fun ht=>absurd (of_decide_eq_false ht) (by omega)) (Sk (Nx (Bo ?_))))))));intro a hF
 refine cut (fun a w=>∃ i:Nat,Fr 98 [(1,.slice (some ⟨b,o,none⟩) D.length cp),(2,.int .u8 (x.toNat:Int)),(3,.int .u8 (y.toNat:Int)),(4,.pointer (some ⟨b4,0,none⟩)),(9,.int .i64 (d:Int)),(10,.int .i64 (i:Int)),(11,.int .i64 (D.length:Int))] a∧Mem w0.heap.size w0 [(b4,125,CFG)] w∧AtN x y D d i E∧i0≤i) ?_ (fun a w h=> ?_)
 ·
  revert a;refine Bo (Kp [1,2,3,4,9,10,11] rfl ?_);intro a hF
  refine loopX (fun (i:Nat) a w=>Fr 98 [(1,.slice (some ⟨b,o,none⟩) D.length cp),(2,.int .u8 (x.toNat:Int)),(3,.int .u8 (y.toNat:Int)),(4,.pointer (some ⟨b4,0,none⟩)),(9,.int .i64 (d:Int)),(10,.int .i64 (i:Int)),(11,.int .i64 (D.length:Int))] a∧Mem w0.heap.size w0 [(b4,125,CFG)] w∧AtN x y D d i E∧i0≤i) (fun i=>D.length - i) (i0) ?_ (fun i a w hI=> ?_)
  · exact ⟨hF,hM,hA,Nat.le_refl _⟩
  clear hF hM
  clear hA
  obtain ⟨hF,hM,hA,hi0⟩:=hI
  have hlt:=hA.lt
  have hle:=hA.le
  obtain ⟨c,hc⟩:=hA.get
  revert a;refine Sq (Sq (Rg (Md 3 [1,2,3,4,9,10,11,23] rfl (Nx (D2 rfl (fun ht=>absurd (of_decide_eq_false ht) (by omega)) (Sk (Nx (Bo (Sq (Rg (Mv 2 rfl (Gv rfl (fun _ hF=>gives_indexAddrS (sz:=1) (i) hF rfl Tryz.underlying66 (by kernel_rfl) rfl rfl rfl (by omega) _) (Gv rfl (fun _ hF=>gives_load1 hF rfl Tryz.underlying5 rfl rfl (hD.cell hM hc)) (Md 1 [1,2,3,4,9,10,11,12] rfl (Nx (Sq (Sq (Rg (Md 2 [1,2,3,4,9,10,11,12,29] rfl (Nx (C1 rfl (fun ht=> ?_) ?_)))))))))))))))))))))
  ·
   have hle32:c.toNat≤32:=by have:=of_decide_eq_true ht;omega
   obtain ⟨n1,n2,n3⟩:=brk_low hb hle32
   have hA2:=hA.plain hc n1 n2 n3
   refine Sq (Rg (Mv 1 rfl (Sm (((i+1:Nat):Int)) rfl (by omega) (Md 1 [1,2,3,4,9,10,11] rfl (Nx (Ex (Ot (Ob (Kp [1,2,3,4,9,10,11] rfl ?_)))))))));intro a hF
   exact ⟨i+1,⟨hF,hM,hA2,by omega⟩,by omega⟩
  refine Sk (Nx (Sq (Sq ?_)))
  rcases (show ¬ 92<c.toNat∨(92<c.toNat∧c=x)∨(92<c.toNat∧c≠x∧c=y)∨(92<c.toNat∧c≠x∧c≠y) by rcases Nat.lt_or_ge 92 c.toNat with h | h;by_cases h1:c=x;exact .inr (.inl ⟨h,h1⟩);by_cases h2:c=y;exact .inr (.inr (.inl ⟨h,h1,h2⟩));exact .inr (.inr (.inr ⟨h,h1,h2⟩));exact .inl (by omega)) with h9 | ⟨h9,hx⟩ | ⟨h9,hx,hy⟩ | ⟨h9,hx,hy⟩
  ·
   refine Rg (Mv 1 rfl (Bf rfl (by omega) (Md 10 [1,2,3,4,9,10,11,43] rfl (Nx (Cf rfl (Sk (Nx (Ex (Op' rfl (Ot (Ob (Kp [1,2,3,4,9,10,11] rfl ?_))))))))))));intro a hF
   exact ⟨i,hF,hM,hA,hi0⟩
  ·
   refine Rg (Mv 1 rfl (Bt rfl (by omega) (Mv 4 rfl ?_)));intro a hF
   rw [bne_f (d:=x) (z:=(x.toNat:Int)) rfl hx] at hF
   revert a;refine Md 6 [1,2,3,4,9,10,11,43] rfl (Nx (Cf rfl (Sk (Nx (Ex (Op' rfl (Ot (Ob (Kp [1,2,3,4,9,10,11] rfl ?_)))))))));intro a hF
   exact ⟨i,hF,hM,hA,hi0⟩
  ·
   refine Rg (Mv 1 rfl (Bt rfl (by omega) (Mv 4 rfl ?_)));intro a hF
   rw [bne_t (d:=x) (z:=(x.toNat:Int)) rfl hx] at hF
   revert a;refine Mv 5 rfl ?_;intro a hF
   rw [bne_f (d:=y) (z:=(y.toNat:Int)) rfl hy] at hF
   revert a;refine Md 1 [1,2,3,4,9,10,11,43] rfl (Nx (Cf rfl (Sk (Nx (Ex (Op' rfl (Ot (Ob (Kp [1,2,3,4,9,10,11] rfl ?_)))))))));intro a hF
   exact ⟨i,hF,hM,hA,hi0⟩
  have hA2:=hA.plain hc (by rintro rfl;exact absurd h9 (by decide)) hx hy
  refine Rg (Mv 1 rfl (Bt rfl (by omega) (Mv 4 rfl ?_)));intro a hF
  rw [bne_t (d:=x) (z:=(x.toNat:Int)) rfl hx] at hF
  revert a;refine Mv 5 rfl ?_;intro a hF
  rw [bne_t (d:=y) (z:=(y.toNat:Int)) rfl hy] at hF
  revert a;refine Md 1 [1,2,3,4,9,10,11,43] rfl (Nx (Ct rfl (Sq (Rg (Mv 1 rfl (Sm (((i+1:Nat):Int)) rfl (by omega) (Md 1 [1,2,3,4,9,10,11] rfl (Nx (Ex (Ot (Ob (Kp [1,2,3,4,9,10,11] rfl ?_))))))))))));intro a hF
  exact ⟨i+1,⟨hF,hM,hA2,by omega⟩,by omega⟩
 clear hF hM
 clear hA
 obtain ⟨i,hF,hM,hA,hi0⟩:=h
 have hlt:=hA.lt
 have hle:=hA.le
 obtain ⟨c,hc⟩:=hA.get
 revert a;refine Sq (Sq (Rg (Md 3 [1,2,3,4,9,10,11,48] rfl (Nx (C1 rfl (fun ht=>absurd (of_decide_eq_true ht) (by omega)) (Sk (Nx ?_)))))));intro a hF
 refine cutF (fun a w=>∃ d1 i1:Nat,Fr 98 [(1,.slice (some ⟨b,o,none⟩) D.length cp),(2,.int .u8 (x.toNat:Int)),(3,.int .u8 (y.toNat:Int)),(4,.pointer (some ⟨b4,0,none⟩)),(9,.int .i64 (d1:Int)),(10,.int .i64 (i1:Int)),(11,.int .i64 (D.length:Int))] a∧Mem w0.heap.size w0 [(b4,125,CFG)] w∧AtN x y D d1 (i1+1) E∧i0≤i1∧d1≤i1+1) (fun a w h=> ?_) ?_
 ·
  clear hF hM
  clear hA
  obtain ⟨d1,i1,hF,hM,hA1,hi1,hdi1⟩:=h
  have hlt1:=hA1.lt
  have hle1:=hA1.le
  revert a;refine Rg (Mv 1 rfl (Sm (((i1+1:Nat):Int)) rfl (by omega) (Md 1 [1,2,3,4,9,10,11] rfl (Nb (Kp [1,2,3,4,9,10,11] rfl ?_)))));intro a hF
  exact ⟨(d1,i1+1),⟨hF,hM,hA1,hdi1⟩,by simp only;omega⟩
 revert a;refine Sq (Rg (Mv 2 rfl (Gv rfl (fun _ hF=>gives_indexAddrS (sz:=1) (i) hF rfl Tryz.underlying66 (by kernel_rfl) rfl rfl rfl (by omega) _) (Gv rfl (fun _ hF=>gives_load1 hF rfl Tryz.underlying5 rfl rfl (hD.cell hM hc)) (Md 0 [1,2,3,4,9,10,11,52] rfl (Nx (Bo (Sq (Sq ?_)))))))))
 rcases (show c=34∨c=39∨(c≠34∧c≠39) by by_cases h1:c=34;exact .inl h1;by_cases h2:c=39;exact .inr (.inl h2);exact .inr (.inr ⟨h1,h2⟩)) with h34 | h39 | ⟨h34,h39⟩
 ·
  obtain ⟨q,hC,hA1⟩:=hA.str hb (by rw [hc,h34])
  have hcs:=hC.small
  rw [List.length_drop] at hcs
  refine Rg (Qt 34 rfl rfl h34 (Md 1 [1,2,3,4,9,10,11,52,53] rfl (Nx (Ct rfl (Sk (Nx (Ct rfl (Sq (Rg (Mv 2 rfl (Gv rfl (fun _ hF=>gives_indexAddrS (sz:=1) (i) hF rfl Tryz.underlying66 (by kernel_rfl) rfl rfl rfl (by omega) _) (Gv rfl (fun _ hF=>gives_load1 hF rfl Tryz.underlying5 rfl rfl (hD.cell hM hc)) (Md 1 [1,2,3,4,9,10,11,13] rfl (Nx (Sq (Sq (Rg (Mv 1 rfl (Qf 39 rfl rfl (by rw [h34];decide) (Md 5 [1,2,3,4,9,10,11,13,66] rfl (Nx (Cf rfl (Sk (Nx (Sq ?_)))))))))))))))))))))))));intro a hF
  refine mix (fun w=>Mem w0.heap.size w0 [(b4,125,CFG)] w) 11 (by kernel_rfl) ?_
  replace hM:=hM.drew
  generalize World.drew w=w at*
  refine mtakeL 0 hF hM rfl (by kernel_rfl) (by kernel_rfl) (by kernel_rfl) (by kernel_rfl) (by kernel_rfl) (fun _ _ _ h=>h) rfl rfl (y_plain rfl (fun w hM=>gives_loadA hF hM 0 rfl Tryz.underlying125 rfl (by kernel_rfl) rfl rfl)) ?_;clear hF a;intro a hF
  refine mtakeP 1 hF (.inl hM) rfl (by kernel_rfl) (by kernel_rfl) (by kernel_rfl) rfl (fun _ _ _ h=>h) rfl rfl (y_plain rfl (fun w _=>gives_move hF rfl rfl _)) ?_;clear hF a;intro a hF
  refine mtakeP 2 hF (.inl hM) rfl (by kernel_rfl) (by kernel_rfl) (by kernel_rfl) rfl (fun _ _ _ h=>h) rfl rfl (y_plain rfl (fun w _=>gives_move hF rfl rfl _)) ?_;clear hF a;intro a hF
  refine mtakeP 3 hF (.inl hM) rfl (by kernel_rfl) (by kernel_rfl) (by kernel_rfl) rfl (fun _ _ _ h=>h) rfl rfl (y_plain rfl (fun w _=>gives_sum hF rfl rfl rfl (((i+1:Nat):Int)) rfl (by omega) (wrap_i64 (by omega) (by omega)) _)) ?_;clear hF a;intro a hF
  refine mtakeP 4 hF (.inl hM) rfl (by kernel_rfl) (by kernel_rfl) (by kernel_rfl) rfl (fun _ _ _ h=>h) rfl rfl (y_plain rfl (fun w _=>gives_slFrom (i+1) hF rfl Tryz.underlying66 (by kernel_rfl) rfl rfl rfl (by omega) _)) ?_;clear hF a;intro a hF
  rw [←List.length_drop] at hF
  refine mtakeP 5 hF (.inl hM) rfl (by kernel_rfl) (by kernel_rfl) (by kernel_rfl) rfl (fun _ _ _ h=>h) rfl rfl (y_plain rfl (fun w _=>gives_move hF rfl rfl _)) ?_;clear hF a;intro a hF
  rw [h34] at hF
  refine malone 6 rfl (by kernel_rfl) ?_
  revert a;refine Cm hM rfl rfl rfl (stringEnd_walk (D:=D.drop (i+1)) (cp:=cp - (i+1)) (by rw [List.length_drop];omega) (by rw [List.length_drop];omega) hC _ ((hD.below hM.below).so (i+1) hcp)) ?_
  clear hM;intro w v hR hM hBe
  obtain rfl:=hR
  intro a hF
  refine mstep (.inl (hM)) ?_
  refine malone 7 rfl (by kernel_rfl) ?_
  revert a;refine Mv 1 rfl ?_;intro a hF
  refine mstep (.inl (hM)) ?_
  refine mtakeP 8 hF (.inl hM) rfl (by kernel_rfl) (by kernel_rfl) (by kernel_rfl) rfl (fun _ _ _ h=>h) rfl rfl (y_plain rfl (fun w _=>gives_extract hF rfl rfl rfl _)) ?_;clear hF a;intro a hF
  refine mtakeP 9 hF (.inl hM) rfl (by kernel_rfl) (by kernel_rfl) (by kernel_rfl) rfl (fun _ _ _ h=>h) rfl rfl (y_plain rfl (fun w _=>gives_extract hF rfl rfl rfl _)) ?_;clear hF a;intro a hF
  refine malone 10 rfl (by kernel_rfl) ?_
  revert a;refine Mv 1 rfl ?_;intro a hF
  refine mstep (.inl (hM)) ?_
  refine malone 11 rfl (by kernel_rfl) ?_
  revert a;refine Mv 1 rfl ?_;intro a hF
  refine mstep (.inr (by kernel_rfl)) ?_
  refine mend (by kernel_rfl) ?_
  revert a;refine Kp [1,2,3,4,9,10,11,14] rfl (Nx (Sq (Sq (Rg (Md 2 [1,2,3,4,9,10,11,14,78] rfl (Nx (C1 rfl (fun ht=>absurd (eq_of_beq ht) (by omega)) (Sk (Nx (Rg (Mv 2 rfl (Sm (((i+1+q:Nat):Int)) rfl (by omega) (Md 1 [1,2,3,4,9,10,11] rfl (Nb (Kp [1,2,3,4,9,10,11] rfl ?_)))))))))))))));intro a hF
  exact ⟨_,_,hF,hM,hA1,by omega,by omega⟩
 ·
  obtain ⟨m1,m2,m3⟩:=brk_39 hb
  have hA1:=hA.plain hc (by rw [h39];exact m1) (by rw [h39];exact m2) (by rw [h39];exact m3)
  refine Rg (Qf 34 rfl rfl (by rw [h39];decide) (Md 1 [1,2,3,4,9,10,11,52,53] rfl (Nx (Cf rfl (Rg (Qt 39 rfl rfl h39 (Md 1 [1,2,3,4,9,10,11,52,53] rfl (Nx (Ct rfl (Sq (Rg (Mv 2 rfl (Gv rfl (fun _ hF=>gives_indexAddrS (sz:=1) (i) hF rfl Tryz.underlying66 (by kernel_rfl) rfl rfl rfl (by omega) _) (Gv rfl (fun _ hF=>gives_load1 hF rfl Tryz.underlying5 rfl rfl (hD.cell hM hc)) (Md 1 [1,2,3,4,9,10,11,13] rfl (Nx (Sq (Sq (Rg (Mv 1 rfl (Qt 39 rfl rfl h39 (Mv 2 rfl (Ld hM 0 rfl rfl (Md 2 [1,2,3,4,9,10,11,13,66] rfl (Nx (Ct rfl (Ex (Ot (Ob (Kp [1,2,3,4,9,10,11] rfl ?_))))))))))))))))))))))))))))));intro a hF
  exact ⟨_,_,hF,hM,hA1,by omega,by omega⟩
 refine Rg (Qf 34 rfl rfl h34 (Md 1 [1,2,3,4,9,10,11,52,53] rfl (Nx (Cf rfl (Rg (Qf 39 rfl rfl h39 (Md 1 [1,2,3,4,9,10,11,52,53] rfl (Nx (Cf rfl (Sq (Rg (Md 3 [1,2,3,4,9,10,11,52,82] rfl (Nx (Cd rfl (fun ht=> ?_) ((fun ht=> ?_))))))))))))))))
 ·
  have hcx:c=x:=UInt8.toNat_inj.1 (by have:=eq_of_beq ht;omega)
  have hA1:=hA.opn hb (by rw [hc,hcx])
  refine Rg (Mv 1 rfl (Sm (((d+1:Nat):Int)) rfl (by omega) (Md 1 [1,2,3,4,9,10,11] rfl (Nb (Kp [1,2,3,4,9,10,11] rfl ?_)))));intro a hF
  exact ⟨_,_,hF,hM,hA1,by omega,by omega⟩
 have hcx:c≠x:=fun e=>by rw [e] at ht;simp at ht
 refine Sq (Rg (Md 3 [1,2,3,4,9,10,11,87] rfl (Nx (Ce rfl (fun ht=> ?_) ((fun ht=> ?_))))))
 ·
  have hcy:c≠y:=fun e=>by rw [e] at ht;simp at ht
  have hA1:=hA.plain hc h34 hcx hcy
  refine Sk (Nb (Kp [1,2,3,4,9,10,11] rfl ?_));intro a hF
  exact ⟨_,_,hF,hM,hA1,by omega,by omega⟩
 have hcy:c=y:=UInt8.toNat_inj.1 (by have:=eq_of_beq ht;omega)
 have hcl:=hA.cls hb (by rw [hc,hcy])
 have hd1:1≤d:=by rcases hcl with ⟨h,_⟩ | ⟨h,_⟩ <;> omega
 refine Sq (Rg (Mv 1 rfl (Sm (((d - 1:Nat):Int)) rfl (by omega) (Md 1 [1,2,3,4,9,10,11] rfl (Nx (Sq (Rg (Md 2 [1,2,3,4,9,10,11,93] rfl (Nx (Ce rfl (fun ht=> ?_) ((fun ht=> ?_))))))))))))
 ·
  have hA1:AtN x y D (d - 1) (i+1) E:=by rcases hcl with ⟨h,_⟩ | ⟨_,h⟩;(rw [h] at ht;exact absurd ht (by decide));exact h
  refine Sk (Nb (Kp [1,2,3,4,9,10,11] rfl ?_));intro a hF
  exact ⟨_,_,hF,hM,hA1,by omega,by omega⟩
 have hE:i+1=E:=by rcases hcl with ⟨_,h⟩ | ⟨h,_⟩;exact h;have:=eq_of_beq ht;omega
 exact Sq (Rg (Mv 1 rfl (Sm (((i+1:Nat):Int)) rfl (by omega) (Md 1 [8] rfl (Nx (Re (Rb (Rt (Rb (Rt (Rb (Rt (Y1 rfl rfl ⟨_,rfl,by rw [hE],hM.below⟩)))))))))))))
theorem tokenEnd_walk {b o cp:Nat}{D:Str}(hl:D.length≤2^40) (w0:World) (hD:Bts w0 b o D):
    Calls Tryz.prog 158 #[.slice (some ⟨b,o,none⟩) D.length cp] w0 (Ret fun v w'=>v= .int .i64 ((fst stopB D:Nat):Int)∧Below w0.heap.size w0 w'):=by
 have hM:=MS0 w0
 refine enter (l:=[.slice (some ⟨b,o,none⟩) D.length cp]) 41 Tryz.func158 rfl rfl (Sq (Rg (Md 1 [0] rfl (Nx (Sq (Sq (Rg (Md 3 [0,5,6,7] rfl (Nx (Bo (Kp [0,5,6,7] rfl ?_)))))))))));intro a hF
 refine loopX (fun (i:Nat) a w=>Fr 42 [(0,.slice (some ⟨b,o,none⟩) D.length cp),(5,.slice (some ⟨b,o,none⟩) D.length cp),(6,.int .i64 (D.length:Int)),(7,.int .i64 (i:Int))] a∧Mem w0.heap.size w0 [] w∧fst stopB D=i+fst stopB (D.drop i)∧i≤D.length) (fun i=>D.length - i) (0) ?_ (fun i a w hI=> ?_)
 · exact ⟨hF,hM,by simp,Nat.zero_le _⟩
 clear hF hM
 obtain ⟨hF,hM,hf,hil⟩:=hI
 revert a;refine Sq (Rg (Md 1 [0,5,6,7,8] rfl (Nx (Sq (Ce rfl (fun ht=> ?_) ((fun ht=> ?_)))))))
 ·
  have hi:D.length≤i:=by have:=of_decide_eq_false ht;omega
  have hfi:=(fst_end hi hf).trans (Nat.le_antisymm hil hi)
  exact Ex (Ot (Ot (Ob (Nx (Sq (Rg (Md 3 [2] rfl (Nx (Re (Y1 rfl rfl ⟨_,rfl,by rw [hfi],hM.below⟩))))))))))
 have hi:i<D.length:=by have:=of_decide_eq_true ht;omega
 obtain ⟨c,r,hd,hg⟩:=drop_cons hi
 refine Sk (Nx (Sq (Bo (Sq (Rg (Mv 1 rfl (Gv rfl (fun _ hF=>gives_indexAddrS (sz:=1) (i) hF rfl Tryz.underlying66 (by kernel_rfl) rfl rfl rfl hi _) (Gv rfl (fun _ hF=>gives_load1 hF rfl Tryz.underlying5 rfl rfl (hD.cell hM hg)) (Md 2 [0,3,4,5,6,7] rfl (Nx (Sq (Sq ?_))))))))))))
 rcases (show c=32∨c=10∨c=13∨c=9∨c=44∨c=125∨c=93∨stopB c=false by cases h:stopB c with | false=>simp | true=>simp only [stopB,Bool.or_eq_true,beq_iff_eq] at h;rcases h with (((((h | h) | h) | h) | h) | h) | h <;> simp [h]) with hc | hc | hc | hc | hc | hc | hc | hcs
 ·
  subst hc
  have hcs:stopB 32=true:=rfl
  have hfi:=fst_hit hd hf hcs
  exact Rg (Md 26 [0,3,5,6,7,37] rfl (Nx (Cf rfl (Sk (Nx (Sq (Rg (Md 2 [2] rfl (Nx (Re (Rb (Rt (Rt (Rb (Rt (Y1 rfl rfl ⟨_,rfl,by rw [hfi],hM.below⟩))))))))))))))))
 ·
  subst hc
  have hcs:stopB 10=true:=rfl
  have hfi:=fst_hit hd hf hcs
  exact Rg (Md 26 [0,3,5,6,7,37] rfl (Nx (Cf rfl (Sk (Nx (Sq (Rg (Md 2 [2] rfl (Nx (Re (Rb (Rt (Rt (Rb (Rt (Y1 rfl rfl ⟨_,rfl,by rw [hfi],hM.below⟩))))))))))))))))
 ·
  subst hc
  have hcs:stopB 13=true:=rfl
  have hfi:=fst_hit hd hf hcs
  exact Rg (Md 26 [0,3,5,6,7,37] rfl (Nx (Cf rfl (Sk (Nx (Sq (Rg (Md 2 [2] rfl (Nx (Re (Rb (Rt (Rt (Rb (Rt (Y1 rfl rfl ⟨_,rfl,by rw [hfi],hM.below⟩))))))))))))))))
 ·
  subst hc
  have hcs:stopB 9=true:=rfl
  have hfi:=fst_hit hd hf hcs
  exact Rg (Md 26 [0,3,5,6,7,37] rfl (Nx (Cf rfl (Sk (Nx (Sq (Rg (Md 2 [2] rfl (Nx (Re (Rb (Rt (Rt (Rb (Rt (Y1 rfl rfl ⟨_,rfl,by rw [hfi],hM.below⟩))))))))))))))))
 ·
  subst hc
  have hcs:stopB 44=true:=rfl
  have hfi:=fst_hit hd hf hcs
  exact Rg (Md 26 [0,3,5,6,7,37] rfl (Nx (Cf rfl (Sk (Nx (Sq (Rg (Md 2 [2] rfl (Nx (Re (Rb (Rt (Rt (Rb (Rt (Y1 rfl rfl ⟨_,rfl,by rw [hfi],hM.below⟩))))))))))))))))
 ·
  subst hc
  have hcs:stopB 125=true:=rfl
  have hfi:=fst_hit hd hf hcs
  exact Rg (Md 26 [0,3,5,6,7,37] rfl (Nx (Cf rfl (Sk (Nx (Sq (Rg (Md 2 [2] rfl (Nx (Re (Rb (Rt (Rt (Rb (Rt (Y1 rfl rfl ⟨_,rfl,by rw [hfi],hM.below⟩))))))))))))))))
 ·
  subst hc
  have hcs:stopB 93=true:=rfl
  have hfi:=fst_hit hd hf hcs
  exact Rg (Md 26 [0,3,5,6,7,37] rfl (Nx (Cf rfl (Sk (Nx (Sq (Rg (Md 2 [2] rfl (Nx (Re (Rb (Rt (Rt (Rb (Rt (Y1 rfl rfl ⟨_,rfl,by rw [hfi],hM.below⟩))))))))))))))))
 have hn:=hcs
 simp only [stopB,Bool.or_eq_false_iff,beq_eq_false_iff_ne,ne_eq] at hn
 obtain ⟨⟨⟨⟨⟨⟨h0,h1⟩,h2⟩,h3⟩,h4⟩,h5⟩,h6⟩:=hn
 refine Rg (Mv 2 rfl ?_);intro a hF
 rw [bne_t (d:=32) (z:=32) rfl h0] at hF
 revert a;refine Mv 3 rfl ?_;intro a hF
 rw [bne_t (d:=10) (z:=10) rfl h1] at hF
 revert a;refine Mv 4 rfl ?_;intro a hF
 rw [bne_t (d:=13) (z:=13) rfl h2] at hF
 revert a;refine Mv 4 rfl ?_;intro a hF
 rw [bne_t (d:=9) (z:=9) rfl h3] at hF
 revert a;refine Mv 4 rfl ?_;intro a hF
 rw [bne_t (d:=44) (z:=44) rfl h4] at hF
 revert a;refine Mv 4 rfl ?_;intro a hF
 rw [bne_t (d:=125) (z:=125) rfl h5] at hF
 revert a;refine Mv 4 rfl ?_;intro a hF
 rw [bne_t (d:=93) (z:=93) rfl h6] at hF
 revert a;refine Md 1 [0,3,5,6,7,37] rfl (Nx (Ct rfl (Ex (Ot (Ob (Nx (Rg (Sm (((i+1:Nat):Int)) rfl (by omega) (Md 1 [0,5,6,7] rfl ?_)))))))));intro a hF
 exact ⟨i+1,⟨hF,hM,fst_drop hd hf hcs,hi⟩,by omega⟩

end Go.Sx