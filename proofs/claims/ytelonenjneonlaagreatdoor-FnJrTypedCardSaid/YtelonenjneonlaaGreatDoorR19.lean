/- Part 19 of the proof of FnJrTyped: the statement Rows.FnJrTypedCardSaid; no further condition. -/
import Derived.Test.YtelonenjneonlaaGreatDoorR18
set_option linter.all false
set_option exponentiation.threshold 3000
set_option maxRecDepth 100000
namespace Go.Sx
open Go.RowKit Go.Proofs Js Go.Proofs.YtelonenjneonlaaGreatDoorW.PrintWords
def Up16 (ds:Str) (m:Nat) (up:Bool):Prop:=(m≤16→up=false)∧∀ c d,16<m→ds[16]?=some c→ds[15]?=some d→d.toNat % 2=1→(up=true↔53≤c.toNat)
theorem should16_walk {B:Nat}{wc:World}{L:List Bk}{b:Nat}{ds:Str}{dp:Int}{neg tr:Bool}{m:Nat}(hD:Dec ds m) {w0:World}(hM0:Mem B wc ((b,240,decL ds m dp neg tr)::L) w0):
    Calls Tryz.prog 238 #[.pointer (some ⟨b,0,none⟩),.int .i64 16] w0 (Ret fun v w'=>(∃ up:Bool,v= .bool up∧Up16 ds m up)∧Mem B wc ((b,240,decL ds m dp neg tr)::L) w'):=by
 have hM:=hM0
 have hl:=hD.len
 have hm:=hD.le
 refine enter (l:=[.pointer (some ⟨b,0,none⟩),.int .i64 16]) 54 Tryz.func238 rfl rfl (Sq (Rg (Md 1 [0,1] rfl (Nx (Sq (Sq ?_))))))
 rcases (show (m≤16)∨(16<m) by omega) with hk | hk
 ·
  have hup:Up16 ds m false:=⟨fun _=>rfl,fun c d h=>by omega⟩
  exact Rg (Mv 1 rfl (Bf rfl (by omega) (Mv 5 rfl (Gv rfl (fun _ hF=>gives_load hF hM 0 rfl Tryz.underlying3 rfl rfl rfl (dget_nd hl)) (Bt rfl (by omega) (Md 1 [0,1,14] rfl (Nx (Ct rfl (Sq (Rg (Md 1 [4] rfl (Nx (Re (Rt (Y1 rfl rfl ⟨_,rfl,⟨_,rfl,hup⟩,hM⟩)))))))))))))))
 obtain ⟨c,hc,hcd⟩:=hD.at hk
 obtain ⟨c2,hc2,hcd2⟩:=hD.at (show 15<m by omega)
 have hc48:=dig_rng hcd2
 have hmk:∀ up:Bool,(c2.toNat % 2=1→(up=true↔53≤c.toNat))→Up16 ds m up:=fun up h=>⟨fun h2=>by omega,fun c' d' _ h3 h4 h5=>by rw [hc] at h3;rw [hc2] at h4;obtain rfl:=Option.some.inj h3;obtain rfl:=Option.some.inj h4;exact h h5⟩
 refine Rg (Mv 1 rfl (Bf rfl (by omega) (Mv 5 rfl (Gv rfl (fun _ hF=>gives_load hF hM 0 rfl Tryz.underlying3 rfl rfl rfl (dget_nd hl)) (Bf rfl (by omega) (Md 1 [0,1,14] rfl (Nx (Cf rfl (Sk (Nx (Sq (Sq ?_))))))))))))
 rcases (Classical.em (c=53)) with h53 | h53
 ·
  refine Rg (Mv 4 rfl (Gv rfl (fun _ hF=>gives_indexAddrD (16) hF rfl rfl rfl rfl (by omega) _) (Gv rfl (fun _ hF=>gives_load hF hM 0 rfl Tryz.underlying5 rfl rfl rfl (dget_dig (hc))) (Qt 53 rfl rfl h53 (Mv 2 rfl (Sm (17) rfl (by omega) (Mv 3 rfl (Gv rfl (fun _ hF=>gives_load hF hM 0 rfl Tryz.underlying3 rfl rfl rfl (dget_nd hl)) (Md 2 [0,1,30] rfl (Nx (D0 rfl ?_ ?_)))))))))))
  ·
   refine Sk (Nx (Sq (Rg (Mv 4 rfl (Gv rfl (fun _ hF=>gives_indexAddrD (16) hF rfl rfl rfl rfl (by omega) _) (Gv rfl (fun _ hF=>gives_load hF hM 0 rfl Tryz.underlying5 rfl rfl rfl (dget_dig (hc))) (Md 2 [4] rfl (Nx (Re ?_)))))))));intro a hF
   exact ret1 hF rfl rfl ⟨_,rfl,⟨_,rfl,hmk _ (fun h=>⟨fun _=>by rw [h53];decide,fun _=>by simp;omega⟩)⟩,hM⟩
  refine Sq (Sq (Rg (Mv 3 rfl (Gv rfl (fun _ hF=>gives_load hF hM 0 rfl Tryz.underlying4 rfl rfl rfl (dget_tr hl)) (Md 0 [0,1,34] rfl (Nx (C1 rfl (fun ht=> ?_) ?_)))))))
  ·
   have hup:=hmk true (fun _=>⟨fun _=>by rw [h53];decide,fun _=>rfl⟩)
   refine Sq (Rg (Md 1 [4] rfl (Nx (Re (Rt (Rt ?_))))));intro a hF
   exact ret1 hF rfl rfl ⟨_,rfl,⟨_,rfl,hup⟩,hM⟩
  refine Sk (Nx (Sq (Rg (Mv 5 rfl (Sm (15) rfl (by omega) (Mv 2 rfl (Gv rfl (fun _ hF=>gives_indexAddrD (15) hF rfl rfl rfl rfl (by omega) _) (Gv rfl (fun _ hF=>gives_load hF hM 0 rfl Tryz.underlying5 rfl rfl rfl (dget_dig (hc2))) ?_))))))));intro a hF
  refine guard_yes hF rfl rfl rfl rfl rfl rfl ?_
  refine op_sum hF rfl (((c2.toNat - 48:Nat)):Int) rfl rfl rfl rfl rfl rfl (by omega) (IntWalk.u8_in _ ⟨by omega,by omega⟩) ?_;clear hF a;intro a hF
  revert a;refine Gv rfl (fun _ hF=>gives_rem ((((c2.toNat - 48) % 2:Nat):Int)) hF rfl rfl rfl (by decide) (by rw [Int.tmod_eq_emod_of_nonneg (by omega)];omega) _) (Md 3 [4] rfl (Nx (Re (Rt ?_))));intro a hF
  exact ret1 hF rfl rfl ⟨_,rfl,⟨_,rfl,hmk _ (fun h=>⟨fun _=>by rw [h53];decide,fun _=>by simp;omega⟩)⟩,hM⟩
 refine Rg (Mv 4 rfl (Gv rfl (fun _ hF=>gives_indexAddrD (16) hF rfl rfl rfl rfl (by omega) _) (Gv rfl (fun _ hF=>gives_load hF hM 0 rfl Tryz.underlying5 rfl rfl rfl (dget_dig (hc))) (Qf 53 rfl rfl h53 (Md 9 [0,1,30] rfl (Nx (Cf rfl (Sk (Nx (Sq (Rg (Mv 4 rfl (Gv rfl (fun _ hF=>gives_indexAddrD (16) hF rfl rfl rfl rfl (by omega) _) (Gv rfl (fun _ hF=>gives_load hF hM 0 rfl Tryz.underlying5 rfl rfl rfl (dget_dig (hc))) (Md 2 [4] rfl (Nx (Re ?_)))))))))))))))));intro a hF
 exact ret1 hF rfl rfl ⟨_,rfl,⟨_,rfl,hmk _ (fun _=>by simp;omega)⟩,hM⟩
theorem rd_10 {D:Str}(h:Digs D) (r:Nat):rd D r<10^r:=by
  unfold rd
  have h1:=worth_lt (h.take r)
  rw [List.length_take] at h1
  have h2:=Nat.mul_lt_mul_of_pos_right h1 (Nat.pow_pos (n:=r - D.length) (show 0<10 by decide))
  rw [←Nat.pow_add,show min r D.length+(r - D.length)=r by omega] at h2
  exact h2
theorem rounded16_walk {B:Nat}{wc:World}{L:List Bk}{b:Nat}{ds:Str}{neg tr:Bool}{m:Nat}(hD:Dec ds m) {w0:World}(hM0:Mem B wc ((b,240,decL ds m 16 neg tr)::L) w0):
    Calls Tryz.prog 245 #[.pointer (some ⟨b,0,none⟩)] w0 (Ret fun v w'=>(∃ up:Bool,v= .int .u64 ((rd (ds.take m) 16+(if up then 1 else 0):Nat):Int)∧Up16 ds m up)∧Mem B wc ((b,240,decL ds m 16 neg tr)::L) w'):=by
 have hM:=hM0
 have hl:=hD.len
 have hm:=hD.le
 have hrd:=fun r=>rd_10 hD.digs r
 have hrdn:∀ i,i<16→rd (ds.take m) i<10^15:=fun i hi=>Nat.lt_of_lt_of_le (hrd i) (Nat.pow_le_pow_right (by decide) (by omega))
 refine enter (l:=[.pointer (some ⟨b,0,none⟩)]) 55 Tryz.func245 rfl rfl (Sq (Rg (Md 1 [0] rfl (Nx (Sq (Sq (Rg (Mv 3 rfl (Gv rfl (fun _ hF=>gives_load hF hM 0 rfl Tryz.underlying3 rfl rfl rfl (dget_dp hl)) (Md 1 [0,9] rfl (Nx (C1 rfl (fun ht=>absurd ht (by decide)) (Sk (Nx (Sq (Rg (Md 1 [0] rfl (Nx (Sq (Rg (Md 1 [0,4] rfl (Nx ?_))))))))))))))))))))));intro a hF
 refine cutF (fun a w=>∃ i:Nat,Fr 56 [(0,.pointer (some ⟨b,0,none⟩)),(3,.int .i64 (i:Int)),(4,.int .u64 ((rd (ds.take m) i:Nat):Int))] a∧Mem B wc ((b,240,decL ds m 16 neg tr)::L) w∧(m≤i∨i=16)∧i≤16) (fun a w h=> ?_) ?_
 ·
  clear hF hM
  obtain ⟨i,hF,hM,him2,hi16⟩:=h
  revert a;refine Sq (Bo (Kp [0,3,4] rfl ?_));intro a hF
  refine loopX (fun (i:Nat) a w=>Fr 56 [(0,.pointer (some ⟨b,0,none⟩)),(3,.int .i64 (i:Int)),(4,.int .u64 ((rd (ds.take m) i:Nat):Int))] a∧Mem B wc ((b,240,decL ds m 16 neg tr)::L) w∧(m≤i∨i=16)∧i≤16) (fun i=>16 - i) (i) ?_ (fun i a w hI=> ?_)
  · exact ⟨hF,hM,him2,hi16⟩
  clear hF hM
  clear him2 hi16
  obtain ⟨hF,hM,him,hi16⟩:=hI
  revert a;refine Sq (Sq (Rg (Mv 4 rfl (Gv rfl (fun _ hF=>gives_load hF hM 0 rfl Tryz.underlying3 rfl rfl rfl (dget_dp hl)) (Md 1 [0,3,4,42] rfl (Nx (Cd rfl (fun ht=> ?_) ((fun ht=> ?_)))))))))
  ·
   have hi16:i<16:=by have:=of_decide_eq_true ht;omega
   have hnext:rd (ds.take m) (i+1)=rd (ds.take m) i*10:=rd_more (by rw [hD.tlen];omega)
   have hb:=hrdn i hi16
   refine Sk (Nx (Sq (Bo (Rg (Mv 1 rfl ?_)))));intro a hF
   refine op_sum hF rfl (((rd (ds.take m) i*10:Nat):Int)) rfl rfl rfl rfl rfl rfl (by omega) (IntWalk.u64_in _ ⟨by omega,by omega⟩) ?_;clear hF a;intro a hF
   revert a;refine Md 1 [0,3,4] rfl (Nb (Nx (Rg (Mv 1 rfl (Sm (((i+1:Nat):Int)) rfl (by omega) (Md 1 [0,3,4] rfl ?_))))));intro a hF
   exact ⟨i+1,⟨by rw [hnext];exact hF,hM,by omega,by omega⟩,by omega⟩
  have hi16:i=16:=by have:=of_decide_eq_false ht;omega
  subst hi16
  have hb16:=hrd 16
  refine Ex (Ot (Ot (Ob (Nx (Sq (Sq (Rg (Mv 4 rfl (Gv rfl (fun _ hF=>gives_load hF hM 0 rfl Tryz.underlying3 rfl rfl rfl (dget_dp hl)) (Cl rfl rfl rfl (should16_walk hD hM) ?_))))))))))
  clear hM;intro w v hR
  obtain ⟨⟨up,rfl,hup⟩,hM⟩:=hR
  refine Md 0 [4,52] rfl (Nx (Ce rfl (fun ht=> ?_) ((fun ht=> ?_))))
  ·
   subst ht
   refine Sk (Nx (Sq (Rg (Md 2 [2] rfl (Nx (Re ?_))))));intro a hF
   exact ret1 hF rfl rfl ⟨_,rfl,⟨false,rfl,hup⟩,hM⟩
  subst ht
  refine Rg (Mv 1 rfl ?_);intro a hF
  refine op_sum hF rfl (((rd (ds.take m) 16+1:Nat):Int)) rfl rfl rfl rfl rfl rfl (by omega) (IntWalk.u64_in _ ⟨by omega,by omega⟩) ?_;clear hF a;intro a hF
  revert a;refine Md 1 [4] rfl (Nx (Sq (Rg (Md 2 [2] rfl (Nx (Re ?_))))));intro a hF
  exact ret1 hF rfl rfl ⟨_,rfl,⟨true,rfl,hup⟩,hM⟩
 revert a;refine Sq (Rg (Md 1 [0,3,4] rfl (Nx (Bo (Kp [0,3,4] rfl ?_)))));intro a hF
 refine loopX (fun (i:Nat) a w=>Fr 56 [(0,.pointer (some ⟨b,0,none⟩)),(3,.int .i64 (i:Int)),(4,.int .u64 ((rd (ds.take m) i:Nat):Int))] a∧Mem B wc ((b,240,decL ds m 16 neg tr)::L) w∧i≤m∧i≤16) (fun i=>m - i) (0) ?_ (fun i a w hI=> ?_)
 · exact ⟨by rw [rd_zero];exact hF,hM,Nat.zero_le _,by decide⟩
 clear hF hM
 obtain ⟨hF,hM,him,hi16⟩:=hI
 revert a;refine Sq (Sq ?_)
 rcases (show i=16∨(i<16∧i=m)∨(i<16∧i<m) by omega) with hk | hk | hk
 ·
  have him2:m≤i∨i=16:= .inr hk
  refine Rg (Mv 4 rfl (Gv rfl (fun _ hF=>gives_load hF hM 0 rfl Tryz.underlying3 rfl rfl rfl (dget_dp hl)) (Bf rfl (by omega) (Md 8 [0,3,4,23] rfl (Nx (Cf rfl (Ex (Ot (Ot (Ob (Kp [0,3,4] rfl ?_)))))))))));intro a hF
  exact ⟨i,hF,hM,him2,hi16⟩
 ·
  have him2:m≤i∨i=16:= .inl (by omega)
  refine Rg (Mv 4 rfl (Gv rfl (fun _ hF=>gives_load hF hM 0 rfl Tryz.underlying3 rfl rfl rfl (dget_dp hl)) (Bt rfl (by omega) (Mv 5 rfl (Gv rfl (fun _ hF=>gives_load hF hM 0 rfl Tryz.underlying3 rfl rfl rfl (dget_nd hl)) (Bf rfl (by omega) (Md 1 [0,3,4,23] rfl (Nx (Cf rfl (Ex (Ot (Ot (Ob (Kp [0,3,4] rfl ?_))))))))))))));intro a hF
  exact ⟨i,hF,hM,him2,hi16⟩
 obtain ⟨c,hc,hcd⟩:=hD.at hk.2
 have hcr:=dig_rng hcd
 have hdgc:dg c=c.toNat - 48:=rfl
 have hnext:rd (ds.take m) (i+1)=rd (ds.take m) i*10+dg c:=rd_digit (by rw [List.getElem?_take,if_pos hk.2];exact hc)
 have hb:=hrdn i hk.1
 refine Rg (Mv 4 rfl (Gv rfl (fun _ hF=>gives_load hF hM 0 rfl Tryz.underlying3 rfl rfl rfl (dget_dp hl)) (Bt rfl (by omega) (Mv 5 rfl (Gv rfl (fun _ hF=>gives_load hF hM 0 rfl Tryz.underlying3 rfl rfl rfl (dget_nd hl)) (Bt rfl (by omega) (Md 1 [0,3,4,23] rfl (Nx (Ct rfl (Sk (Nx (Sq (Bo (Rg (Mv 1 rfl ?_)))))))))))))));intro a hF
 refine op_sum hF rfl (((rd (ds.take m) i*10:Nat):Int)) rfl rfl rfl rfl rfl rfl (by omega) (IntWalk.u64_in _ ⟨by omega,by omega⟩) ?_;clear hF a;intro a hF
 revert a;refine Mv 4 rfl (Gv rfl (fun _ hF=>gives_indexAddrD (i) hF rfl rfl rfl rfl (by omega) _) (Gv rfl (fun _ hF=>gives_load hF hM 0 rfl Tryz.underlying5 rfl rfl rfl (dget_dig (hc))) ?_));intro a hF
 refine op_sum hF rfl ((dg c:Nat):Int) rfl rfl rfl rfl rfl rfl (by omega) (IntWalk.u8_in _ ⟨by omega,by omega⟩) ?_;clear hF a;intro a hF
 revert a;refine Gv rfl (fun _ hF=>gives_conv hF rfl Tryz.underlying5 Tryz.underlying54 rfl (((dg c:Nat):Int)) (IntWalk.u64_in _ ⟨by omega,by omega⟩) _) ?_;intro a hF
 refine op_sum hF rfl (((rd (ds.take m) i*10+dg c:Nat):Int)) rfl rfl rfl rfl rfl rfl (by omega) (IntWalk.u64_in _ ⟨by omega,by omega⟩) ?_;clear hF a;intro a hF
 revert a;refine Md 1 [0,3,4] rfl (Nb (Nx (Rg (Mv 1 rfl (Sm (((i+1:Nat):Int)) rfl (by omega) (Md 1 [0,3,4] rfl ?_))))));intro a hF
 exact ⟨i+1,⟨by rw [hnext];exact hF,hM,by omega,by omega⟩,by omega⟩
theorem powtab_low {j:Nat}{x:Int}{k:Nat}(h:powtabL[j]?=some x) (hx:x=(k:Int)) (h1:1≤j) (h9:j<9):2^k≤10^j:=by
  subst hx
  have g:((List.range 9).all fun j=>match powtabL[j]? with | some x=>decide (j=0∨2^x.toNat≤10^j) | none=>true)=true:=by decide+kernel
  have:=List.all_eq_true.1 g j (List.mem_range.2 h9)
  rw [h] at this
  have h2:=of_decide_eq_true this
  rcases h2 with h2 | h2
  · omega
  · simpa using h2
theorem ldel_low {ds:Str}{m k j:Nat}(h:Dec ds m) (h0:0<m) (h1:1≤k) (h2:k≤60) (hk:2^k≤10^j):ldel (ds.take m) k≤j:=by
  obtain ⟨h3,_⟩:=left_range h h0 h1 h2
  have h4:=worth_lt h.digs
  rw [h.tlen] at h4
  rcases Nat.lt_or_ge j (ldel (ds.take m) k) with h5 | h5
  · exfalso
    have h6:worth (ds.take m)*2^k<10^m*10^j:=Nat.mul_lt_mul_of_lt_of_le h4 hk (Nat.pow_pos (by decide))
    rw [←Nat.pow_add] at h6
    have h7:=Nat.pow_le_pow_right (n:=10) (by decide) (show m+j≤m+ldel (ds.take m) k - 1 by omega)
    omega
  · exact h5
theorem half_low {ds:Str}{m:Nat}{c:UInt8}(h:Dec ds m) (h0:0<m) (hc:ds[0]?=some c) (h5:53≤c.toNat):5*10^(m - 1)≤worth (ds.take m):=by
  obtain ⟨d,r,e,hd,_,hd0,hl⟩:=h.first h0
  rw [hc] at hd0
  obtain rfl:=Option.some.inj hd0
  rw [e,worth,show m - 1=r.length by omega]
  have:5≤dg c:=by unfold dg;omega
  have:=Nat.mul_le_mul_right (10^r.length) this
  omega
theorem not_1023 {N:Nat}{q:Int}{ds:Str}{m:Nat}{e:Int}(h:Sound N q ds m 0 e) (hD:Dec ds m) (he:e≤1023): ¬ big N q:=by
  rw [←h.thr,bigE_iff m 0 (-e).toNat e.toNat (by omega) (by omega),Nat.pow_zero,Nat.mul_one]
  intro h1
  have h2:=worth_lt hD.digs
  rw [hD.tlen] at h2
  have h3:worth (ds.take m)*2^e.toNat<10^m*2^1023:=Nat.mul_lt_mul_of_lt_of_le h2 (Nat.pow_le_pow_right (by decide) (by omega)) (Nat.pow_pos (by decide))
  have h4:TH*10^m≤TH*10^m*2^(-e).toNat:=Nat.le_mul_of_pos_right _ (Nat.pow_pos (by decide))
  have h5:2^1023*10^m≤TH*10^m:=Nat.mul_le_mul_right _ (by decide+kernel)
  rw [Nat.mul_comm (10^m)] at h3
  omega
theorem is_1025 {N:Nat}{q:Int}{ds:Str}{m:Nat}{e:Int}{c:UInt8}(h:Sound N q ds m 0 e) (hD:Dec ds m) (h0:0<m) (hc:ds[0]?=some c) (h5:53≤c.toNat) (he:1025≤e):big N q:=by
  rw [←h.thr,bigE_iff m 0 0 e.toNat (by omega) (by omega),Nat.pow_zero,Nat.mul_one,Nat.mul_one]
  have h1:=half_low hD h0 hc h5
  have h2:5*10^(m - 1)*2^1025≤worth (ds.take m)*2^e.toNat:=Nat.mul_le_mul h1 (Nat.pow_le_pow_right (by decide) (by omega))
  have h3:10^m=10*10^(m - 1):=by rw [show m=(m - 1)+1 by omega,Nat.pow_succ,Nat.mul_comm];rfl
  have h4:TH*10^m≤5*10^(m - 1)*2^1025:=by
    rw [h3]
    have h5:TH*10≤5*2^1025:=by decide+kernel
    have:=Nat.mul_le_mul_right (10^(m - 1)) h5
    rw [Nat.mul_assoc] at this
    rw [Nat.mul_right_comm 5]
    exact this
  exact Nat.le_trans h4 h2
theorem ldel_16 {ds:Str}{m:Nat}{c:UInt8}(hD:Dec ds m) (h0:0<m) (hc:ds[0]?=some c) (h5:53≤c.toNat):ldel (ds.take m) 53=16:=by
  obtain ⟨h1,h2⟩:=left_range hD h0 (show 1≤53 by decide) (by decide)
  have h3:=half_low hD h0 hc h5
  have h4:=worth_lt hD.digs
  rw [hD.tlen] at h4
  obtain ⟨p,hp⟩:∃ p,m=p+1:=⟨m - 1,by omega⟩
  subst hp
  rw [Nat.add_sub_cancel] at h3
  generalize ldel (ds.take (p+1)) 53=d at*
  have h6:10^(p+1+d - 1)<10^(p+17):=by
    refine Nat.lt_of_le_of_lt h1 ?_
    refine Nat.lt_of_lt_of_le (Nat.mul_lt_mul_of_pos_right h4 (by decide)) ?_
    rw [show p+17=(p+1)+16 by omega,Nat.pow_add 10 (p+1) 16]
    exact Nat.mul_le_mul_left _ (by decide)
  have h7:10^(p+16)<10^(p+1+d):=by
    refine Nat.lt_of_le_of_lt ?_ h2
    refine Nat.le_trans ?_ (Nat.mul_le_mul_right _ h3)
    rw [Nat.pow_add 10 p 16,Nat.mul_comm 5,Nat.mul_assoc]
    exact Nat.mul_le_mul_left _ (by decide)
  have h8:=(Nat.pow_lt_pow_iff_right (show 1<10 by decide)).1 h6
  have h9:=(Nat.pow_lt_pow_iff_right (show 1<10 by decide)).1 h7
  omega
theorem round_top {N:Nat}{q:Int}{ds:Str}{m:Nat}{up:Bool}(h:Sound N q ds m 16 971) (hD:Dec ds m) (hb:rd (ds.take m) 16<2^53) (hu:Up16 ds m up):rd (ds.take m) 16+(if up then 1 else 0)=9007199254740992↔big N q:=by
  have hbig:big N q↔18014398509481983*10^m≤worth (ds.take m)*10^16*2:=by
    rw [←h.thr,bigE_iff m 16 0 971 (by omega) (by omega),Nat.pow_zero,Nat.mul_one,TH_eq,Nat.mul_right_comm,show (2:Nat)^971=2*2^970 from by decide+kernel,←Nat.mul_assoc]
    exact Nat.mul_le_mul_right_iff (Nat.pow_pos (by decide))
  have hwl:=worth_lt hD.digs
  have htl:=hD.tlen
  have hm:=hD.le
  rw [hbig]
  rcases Nat.lt_or_ge 16 m with h16 | h16
  · obtain ⟨c,hc,hcd⟩:=hD.at h16
    obtain ⟨d,hd,hdd⟩:=hD.at (show 15<m by omega)
    have hcr:=dig_rng hcd
    have hdr:=dig_rng hdd
    have e16:rd (ds.take m) 16=worth (ds.take 16):=by unfold rd;rw [htl,List.take_take,show min 16 m=16 by omega,Nat.sub_eq_zero_of_le (by omega)];simp
    have e15:worth (ds.take 16)=worth (ds.take 15)*10+dg d:=by rw [take_next hd,worth_snoc]
    have e17:worth (ds.take 17)=worth (ds.take 16)*10+dg c:=by rw [take_next hc,worth_snoc]
    have esplit:worth (ds.take m)=worth (ds.take 17)*10^(m - 17)+worth ((ds.take m).drop 17):=by
      have:=worth_append ((ds.take m).take 17) ((ds.take m).drop 17)
      rw [List.take_append_drop,List.take_take,show min 17 m=17 by omega,List.length_drop,htl] at this
      exact this
    have hrest:=worth_lt (hD.digs.drop 17)
    rw [List.length_drop,htl] at hrest
    have ep:10^m=10^17*10^(m - 17):=by rw [←Nat.pow_add,show 17+(m - 17)=m by omega]
    have hP:0<10^(m - 17):=Nat.pow_pos (by decide)
    have hdc:dg c=c.toNat - 48:=rfl
    have hdd2:dg d=d.toNat - 48:=rfl
    rw [e16] at hb ⊢
    rw [esplit,ep]
    generalize worth ((ds.take m).drop 17)=R at hrest
    generalize 10^(m - 17)=P at*
    generalize worth (ds.take 17)=W at*
    generalize worth (ds.take 16)=V at*
    have key:18014398509481983*(10^17*P)≤(W*P+R)*10^16*2↔90071992547409915≤W:=by
      constructor
      · intro h1
        rcases Nat.lt_or_ge W 90071992547409915 with h2 | h2
        · exfalso
          have h3:(W+1)*P≤90071992547409915*P:=Nat.mul_le_mul_right _ h2
          rw [Nat.add_mul,Nat.one_mul] at h3
          generalize W*P=X at*
          omega
        · exact h2
      · intro h1
        have h3:=Nat.mul_le_mul_right P h1
        generalize W*P=X at*
        omega
    rw [key]
    have hu2:=hu.2 c d h16 hc hd
    constructor
    · intro h1
      rcases up with _ | _
      · simp at h1;omega
      · have hV:V=9007199254740991:=by simpa using h1
        have h53:=(hu2 (by omega)).1 rfl
        omega
    · intro h1
      have hV:V=9007199254740991:=by omega
      have h53:=(hu2 (by omega)).2 (by omega)
      rw [h53,hV];rfl
  · have hup:=hu.1 h16
    rw [hup]
    have e16:rd (ds.take m) 16=worth (ds.take m)*10^(16 - m):=by unfold rd;rw [htl,List.take_of_length_le (by omega)]
    have ep:10^16=10^(16 - m)*10^m:=by rw [←Nat.pow_add,show 16 - m+m=16 by omega]
    have e2:worth (ds.take m)*10^16*2=rd (ds.take m) 16*2*10^m:=by rw [e16,ep,←Nat.mul_assoc,Nat.mul_right_comm]
    rw [e2,Nat.mul_le_mul_right_iff (Nat.pow_pos (by decide))]
    generalize rd (ds.take m) 16=V at*
    simp
    omega
theorem rd_out {ds' out:Str}{m' m K:Nat}(hD':Dec ds' m') (hd:Digs out) (hl:out.length=m+16) (ht:ds'.take (min 800 out.length)=out.take (min 800 out.length)) (hm:m'≤min 800 out.length) (hz:∀ j,m'≤j→j<min 800 out.length→ds'[j]?=some 48) (hw:worth out<10^m*K):rd (ds'.take m') 16<K:=by
  have hl8:=hD'.len
  have e1:rd (ds'.take m') 16=worth (ds'.take 16):=by
    unfold rd
    rw [hD'.tlen,List.take_take]
    rcases Nat.lt_or_ge m' 16 with h | h
    · rw [Nat.min_eq_right (by omega)]
      have:=worth_trim (arr:=ds') (m:=m') (16 - m') (by omega) (fun j h1 h2=>hz j h1 (by omega))
      rw [show m'+(16 - m')=16 by omega] at this
      exact this.symm
    · rw [Nat.min_eq_left h,Nat.sub_eq_zero_of_le h];simp
  have e2:ds'.take 16=out.take 16:=by
    have:=congrArg (List.take 16) ht
    rw [List.take_take,List.take_take,show min 16 (min 800 out.length)=16 by omega] at this
    exact this
  rw [e1,e2,worth_cut out 16 hd,hl,show m+16 - 16=m by omega]
  exact (Nat.div_lt_iff_lt_mul (Nat.pow_pos (by decide))).2 (by rw [Nat.mul_comm];exact hw)
theorem sound_start {N:Nat}{q:Int}{ds:Str}{m:Nat}{dp:Int}(hD:Dec ds m) (hN:N=worth (ds.take m)) (hq:q=dp - (m:Int)) (hdp:dp≤310):Sound N q ds m dp 0:=by
  refine ⟨by rw [bigE_zero,hN,hq],?_⟩
  obtain ⟨a,ha⟩:∃ a:Nat,(a:Int)=m+310 - dp:=⟨((m:Int)+310 - dp).toNat,by omega⟩
  rw [le310_iff a (m+310 - m) 0 0 (by omega) (by omega),Nat.pow_zero,Nat.mul_one,Nat.mul_one,Nat.add_sub_cancel_left,Nat.mul_comm]
  have h:=worth_lt hD.digs
  rw [hD.tlen] at h
  exact Nat.mul_le_mul_left _ (Nat.le_of_lt (Nat.lt_of_lt_of_le h (Nat.pow_le_pow_right (by decide) (by omega))))
set_option maxHeartbeats 1000000 in
theorem floatBitsx_walk {B:Nat}{wc:World}{L:List Bk}{b:Nat}{ds:Str}{dp:Int}{neg tr:Bool}(hG:Tabs B wc) {m:Nat}(hD:Dec ds m) {w0:World}(hM0:Mem B wc ((b,240,decL ds m dp neg tr)::L) w0):
    Calls Tryz.prog 213 #[.pointer (some ⟨b,0,none⟩),.pointer (some ⟨22,0,none⟩)] w0 (Ret fun v w'=>(∃ (z:Int) (ov:Bool),v= .tuple #[.int .u64 z,.bool ov]∧(ov=true↔big (worth (ds.take m)) (dp - m)))∧∃ (ds':Str) (nd' dp':Int) (tr':Bool),Mem B wc ((b,240,decL ds' nd' dp' neg tr')::L) w'):=by
 have hM:=hM0
 have hl:=hD.len
 have hl0:=hD.len
 have h22:22<B:=by have:=hG.lt;omega
 have h25:25<B:=by have:=hG.lt;omega
 obtain ⟨bp,offp,cpp,hbp,hp0,hp1⟩:=hG.powtab
 obtain ⟨BG,hBG⟩:∃ BG:Prop,BG↔big (worth (ds.take m)) (dp - m):=⟨_,Iff.rfl⟩
 obtain ⟨N,hN⟩:∃ N,N=worth (ds.take m):=⟨_,rfl⟩
 obtain ⟨q,hq⟩:∃ q,q=dp - (m:Int):=⟨_,rfl⟩
 rw [←hN,←hq] at hBG ⊢
 refine enter (l:=[.pointer (some ⟨b,0,none⟩),.pointer (some ⟨22,0,none⟩)]) 241 Tryz.func213 rfl rfl (Sq (Rg (Md 2 [0,1,5] rfl (Nx ?_))));intro a hF
 refine scopeZ (fun l (_:Unit) a w'=>(l=0∧∃ (e z:Int) (ov:Bool) (ds':Str) (nd' dp':Int) (tr':Bool),Fr 243 [(0,.pointer (some ⟨b,0,none⟩)),(1,.pointer (some ⟨22,0,none⟩)),(5,.bool ov),(6,.int .i64 e),(7,.int .u64 z)] a∧Mem B wc ((b,240,decL ds' nd' dp' neg tr')::L) w'∧ds'.length=800∧(ov=true↔BG))∨(l=1∧∃ (ds':Str) (nd' dp':Int) (tr':Bool),Fr 243 [(0,.pointer (some ⟨b,0,none⟩)),(1,.pointer (some ⟨22,0,none⟩))] a∧Mem B wc ((b,240,decL ds' nd' dp' neg tr')::L) w'∧ds'.length=800∧BG)) (fun _ _=>0) (fun l=>l) (fun l ih x a w' hJ=> ?_) (fun pass=> ?_)
 ·
  clear hF
  clear hM
  obtain ⟨rfl,e,z,ov,ds',nd',dp',tr',hF,hM,hl,hov⟩ | ⟨rfl,ds',nd',dp',tr',hF,hM,hl,hbig⟩:=hJ
  ·
   clear ih
   refine ⟨_,rfl,?_⟩
   revert a;refine Sq (Rg (Mv 4 rfl (Gv rfl (fun _ hF=>gives_load1 hF rfl Tryz.underlying157 rfl rfl ((hM.below.cell h22).trans hG.mant)) (Gv rfl (fun _ hF=>gives_shl (52) (_) hF rfl rfl rfl rfl rfl _) (Mv 1 rfl (Gv rfl (fun _ hF=>gives_bits (_) hF rfl rfl rfl rfl _) (Md 1 [0,1,5,6,11] rfl (Nx (Sq (Sl (by kernel_rfl) (by kernel_rfl) ?_))))))))))
   replace hM:=hM.drew
   skip
   refine Ms 5 rfl (Gs rfl (fun _ hF=>gives_load1 hF rfl Tryz.underlying3 rfl rfl ((hM.below.cell h22).trans hG.bias)) (Ms 4 rfl (Gs rfl (fun _ hF=>gives_load1 hF rfl Tryz.underlying157 rfl rfl ((hM.below.cell h22).trans hG.expb)) (Gs rfl (fun _ hF=>gives_shl (11) (_) hF rfl rfl rfl rfl rfl _) (Ms 1 rfl (Gs rfl (fun _ hF=>gives_bits (_) hF rfl rfl rfl rfl _) (Ms 4 rfl (Gs rfl (fun _ hF=>gives_load1 hF rfl Tryz.underlying157 rfl rfl ((hM.below.cell h22).trans hG.mant)) (Gs rfl (fun _ hF=>gives_shl (52) (_) hF rfl rfl rfl rfl rfl _) (Gs rfl (fun _ hF=>gives_bits (_) hF rfl rfl rfl rfl _) (Ms 1 rfl (Sd (Kp [0,1,5,11] rfl (Nx (Sq (Sq (Rg (Mv 3 rfl (Gv rfl (fun _ hF=>gives_load hF hM 0 rfl Tryz.underlying4 rfl rfl rfl (dget_neg hl)) (Md 0 [1,5,11,228] rfl (Nx (D0 rfl ?_ ?_))))))))))))))))))))))
   · exact Sk (Nx (Sq (Rg (Md 4 [4,5] rfl (Nx (Re (Jr (Y2 rfl rfl rfl ⟨_,rfl,⟨_,_,rfl,hov.trans hBG⟩,_,_,_,_,hM⟩))))))))
   refine Sl (by kernel_rfl) (by kernel_rfl) ?_
   replace hM:=hM.drew
   skip
   exact Ms 4 rfl (Gs rfl (fun _ hF=>gives_load1 hF rfl Tryz.underlying157 rfl rfl ((hM.below.cell h22).trans hG.mant)) (Gs rfl (fun _ hF=>gives_shl (52) (_) hF rfl rfl rfl rfl rfl _) (Ms 3 rfl (Gs rfl (fun _ hF=>gives_load1 hF rfl Tryz.underlying157 rfl rfl ((hM.below.cell h22).trans hG.expb)) (Gs rfl (fun _ hF=>gives_shl (11) (_) hF rfl rfl rfl rfl rfl _) (Gs rfl (fun _ hF=>gives_bits (_) hF rfl rfl rfl rfl _) (Ms 1 rfl (Sd (Kp [5,11] rfl (Nx (Sq (Rg (Md 4 [4,5] rfl (Nx (Re (Jr (Y2 rfl rfl rfl ⟨_,rfl,⟨_,_,rfl,hov.trans hBG⟩,_,_,_,_,hM⟩)))))))))))))))))
  ·
   refine ⟨_,rfl,?_⟩
   revert a;refine Sq (Rg (Md 1 [0,1,7] rfl (Nx (Sq (Sl (by kernel_rfl) (by kernel_rfl) ?_)))))
   replace hM:=hM.drew
   skip
   refine Ms 3 rfl (Gs rfl (fun _ hF=>gives_load1 hF rfl Tryz.underlying157 rfl rfl ((hM.below.cell h22).trans hG.expb)) (Gs rfl (fun _ hF=>gives_shl (11) (_) hF rfl rfl rfl rfl rfl _) (Ms 4 rfl (Gs rfl (fun _ hF=>gives_load1 hF rfl Tryz.underlying3 rfl rfl ((hM.below.cell h22).trans hG.bias)) (Ms 2 rfl (Sd (Kp [0,1,6,7] rfl (Nx (Sq (Rg (Md 1 [0,1,5,6,7] rfl (Nx (Kp [0,1,5,6,7] rfl ?_)))))))))))));intro a hF
   exact fall () (ih 0 (by decide)) (.inl ⟨rfl,_,_,true,_,_,_,_,hF,hM,hl,⟨fun _=>hbig,fun _=>rfl⟩⟩) rfl (jumps_mono fun l a w h=>h)
 ·
  revert a;refine Sq (Rg (Md 1 [0,1,5] rfl (Nx (Sq (Rg (Md 1 [0,1,5] rfl (Nx (Sq (Sq (Rg (Mv 3 rfl (Gv rfl (fun _ hF=>gives_load hF hM 0 rfl Tryz.underlying3 rfl rfl rfl (dget_nd hl)) (Md 1 [0,1,5,16] rfl (Nx (Cd rfl (fun ht=> ?_) ((fun ht=> ?_)))))))))))))))))
  ·
   have h00:m=0:=by have:=ht;simp at this;omega
   have hnbig: ¬ BG:=fun h=>absurd (hBG.1 h) (by rw [hN,h00];exact big_zero _)
   refine Sq (Rg (Md 1 [0,1,5,7] rfl (Nx (Sq (Rg (Mv 3 rfl (Gv rfl (fun _ hF=>gives_load1 hF rfl Tryz.underlying3 rfl rfl ((hM.below.cell h22).trans hG.bias)) (Md 1 [0,1,5,6,7] rfl (Nx (Wg (Gt (Jt (Kp [0,1,5,6,7] rfl ?_)))))))))))));intro a hF
   exact ⟨(),.inl ⟨rfl,_,_,false,_,_,_,_,hF,hM,hl,⟨fun h=>absurd h (by decide),fun h=>absurd h hnbig⟩⟩⟩
  have h0:0<m:=by have:=ht;simp at this;omega
  refine Sk (Nx (Sq (Sq (Rg (Mv 3 rfl (Gv rfl (fun _ hF=>gives_load hF hM 0 rfl Tryz.underlying3 rfl rfl rfl (dget_dp hl)) (Md 1 [0,1,5,25] rfl (Nx (Cd rfl (fun ht=> ?_) ((fun ht=> ?_)))))))))))
  ·
   intro a hF
   have hbig:BG:=hBG.2 (big_high (a:=m - 1) (by rw [hN];exact hD.low h0) (by have:=of_decide_eq_true ht;omega))
   revert a;refine Wg (Gt (Jt (Kp [0,1] rfl ?_)));intro a hF
   exact ⟨(),.inr ⟨rfl,_,_,_,_,hF,hM,hl,hbig⟩⟩
  have hdA:=of_decide_eq_false ht
  refine Sk (Nx (Sq (Sq (Rg (Mv 3 rfl (Gv rfl (fun _ hF=>gives_load hF hM 0 rfl Tryz.underlying3 rfl rfl rfl (dget_dp hl)) (Md 1 [0,1,5,30] rfl (Nx (Cd rfl (fun ht=> ?_) ((fun ht=> ?_)))))))))))
  ·
   intro a hF
   have hnbig: ¬ BG:=fun h=>absurd (hBG.1 h) (big_low (a:=m) (by rw [hN];have:=worth_lt hD.digs;rw [hD.tlen] at this;exact this) (by have:=of_decide_eq_true ht;omega))
   revert a;refine Sq (Rg (Md 1 [0,1,5,7] rfl (Nx (Sq (Rg (Mv 3 rfl (Gv rfl (fun _ hF=>gives_load1 hF rfl Tryz.underlying3 rfl rfl ((hM.below.cell h22).trans hG.bias)) (Md 1 [0,1,5,6,7] rfl (Nx (Wg (Gt (Jt (Kp [0,1,5,6,7] rfl ?_)))))))))))));intro a hF
   exact ⟨(),.inl ⟨rfl,_,_,false,_,_,_,_,hF,hM,hl,⟨fun h=>absurd h (by decide),fun h=>absurd h hnbig⟩⟩⟩
  have hdB:=of_decide_eq_false ht
  have hS0:Sound N q ds m dp 0:=sound_start hD hN hq (by omega)
  refine Sk (Nx (Sq (Rg (Md 1 [0,1,5,6] rfl (Nx (Sq (Bo (Kp [0,1,5,6] rfl ?_))))))));intro a hF
  refine loopX (fun (x:Str×Nat×Int×Bool×Int) a w=>Fr 243 [(0,.pointer (some ⟨b,0,none⟩)),(1,.pointer (some ⟨22,0,none⟩)),(5,.bool false),(6,.int .i64 x.2.2.2.2)] a∧Mem B wc ((b,240,decL x.1 x.2.1 x.2.2.1 neg x.2.2.2.1)::L) w∧Dec x.1 x.2.1∧0<x.2.1∧ -330≤x.2.2.1∧x.2.2.1≤310∧(0≤x.2.2.2.2∧x.2.2.2.2≤1057)∧x.2.2.2.2+27*((10*x.2.2.1.toNat+fd x.1):Nat)≤27*4000∧Sound N q x.1 x.2.1 x.2.2.1 x.2.2.2.2) (fun x=>10*x.2.2.1.toNat+fd x.1) ((ds,m,dp,tr,0)) ?_ (fun x a w hI=> ?_)
  · exact ⟨hF,hM,hD,h0,by simp only;omega,by simp only;omega,⟨Int.le_refl _,by simp only;omega⟩,by have:=(hD.fd_rng h0).2;simp only;omega,hS0⟩
  clear hF hM
  clear hN hq hS0
  clear hD h0 hl
  obtain ⟨ds,m,dq,tr,e⟩:=x
  obtain ⟨hF,hM,hD,h0,hq1,hq2,he1,he2,hS⟩:=hI
  simp only at hF hM hD h0 hq1 hq2 he1 he2 hS
  have hl:=hD.len
  have hfd:=hD.fd_rng h0
  revert a;refine Sq (Sq (Rg (Mv 3 rfl (Gv rfl (fun _ hF=>gives_load hF hM 0 rfl Tryz.underlying3 rfl rfl rfl (dget_dp hl)) (Md 1 [0,1,5,6,39] rfl (Nx (Cd rfl (fun ht=> ?_) ((fun ht=> ?_)))))))))
  ·
   have hpos:=of_decide_eq_true ht
   have he30:=hS.pow hD h0 hpos
   refine Sk (Nx (Bo (Sq (Rg (Md 1 [0,1,5,6] rfl (Nx ?_))))));intro a hF
   refine cutF (fun a w=>∃ k:Nat,Fr 243 [(0,.pointer (some ⟨b,0,none⟩)),(1,.pointer (some ⟨22,0,none⟩)),(5,.bool false),(6,.int .i64 e),(8,.int .i64 (k:Int))] a∧Mem B wc ((b,240,decL ds m dq neg tr)::L) w∧3≤k∧k≤27) (fun a w h=> ?_) ?_
   ·
    clear hF hM
    obtain ⟨k,hF,hM,hk3,hk27⟩:=h
    revert a;refine Sq (Rg (Mv 2 rfl (Gv rfl (fun _ hF=>gives_neg hF rfl rfl (-((k:Nat):Int)) (by rw [wrap_i64 (by omega) (by omega)];omega) _) (Cl rfl rfl rfl (shiftR_walk (k:=k) hD h0 (by omega) (by omega) (by omega) hM) ?_))))
    clear hM;intro w v hR
    obtain ⟨rfl,ds',out,m',r0,tr',hD',h0',hdo,hr1,hr20,hrA,hrB,hrw,htk,hf,hmle,hz,hlen,hM⟩:=hR
    have hdec:=right_less hD h0 hD' h0' (by omega) hr1 hrA hrB hf hpos
    have hS':=hS.right hD hD' hdo hr1 hrw hlen htk hmle hz (by omega) (by omega)
    refine Md 0 [0,1,5,6,8] rfl (Nx (Rg (Mv 2 rfl (Sm (e+((k:Nat):Int)) rfl (by omega) (Md 1 [0,1,5,6] rfl (Nb (Kp [0,1,5,6] rfl ?_)))))));intro a hF
    exact ⟨(ds',m',dq - ((r0 - 1:Nat):Int),tr',e+(k:Int)),⟨hF,hM,hD',h0',by simp only;omega,by simp only;omega,⟨by simp only;omega,by simp only;omega⟩,by simp only;omega,hS'⟩,hdec⟩
   revert a;refine Sq (Sl (by kernel_rfl) (by kernel_rfl) ?_)
   replace hM:=hM.drew
   skip
   refine Ms 3 rfl (Gs rfl (fun _ hF=>gives_load hF hM 0 rfl Tryz.underlying3 rfl rfl rfl (dget_dp hl)) (Gs rfl (fun _ hF=>gives_load1 hF rfl Tryz.underlying133 rfl rfl ((hM.below.cell h25).trans hp0)) (Ms 2 rfl (Sd (Kp [0,1,5,6,46] rfl (Nx (Cd rfl (fun ht=> ?_) ((fun ht=> ?_)))))))))
   ·
    have h9:(9:Int)≤dq:=of_decide_eq_true ht
    refine Rg (Md 1 [0,1,5,6,8] rfl ?_);intro a hF
    exact ⟨27,hF,hM,by decide,by decide⟩
   have h9: ¬ (9:Int)≤dq:=of_decide_eq_false ht
   obtain ⟨j,hj⟩:∃ j:Nat,dq=(j:Int):=⟨dq.toNat,by omega⟩
   obtain ⟨k,hjk,hk1,hk27,hk3,_⟩:=powtab_at (show j<9 by omega)
   refine Sl (by kernel_rfl) (by kernel_rfl) ?_
   replace hM:=hM.drew
   skip
   refine Gs rfl (fun _ hF=>gives_load1 hF rfl Tryz.underlying133 rfl rfl ((hM.below.cell h25).trans hp0)) (Ms 3 rfl (Gs rfl (fun _ hF=>gives_load hF hM 0 rfl Tryz.underlying3 rfl rfl rfl (dget_dp hl)) (Gs rfl (fun _ hF=>gives_indexAddrS (sz:=1) (j) hF rfl Tryz.underlying133 (by kernel_rfl) rfl rfl hj (by omega) _) (Gs rfl (fun _ hF=>gives_load1 hF rfl Tryz.underlying3 rfl rfl (show World.cell? _ _=some (.int .i64 (k:Int)) by rw [Nat.mul_one];exact (hM.below.cell hbp).trans (hp1 j _ hjk))) (Ms 1 rfl (Sd (Kp [0,1,5,6,8] rfl ?_)))))));intro a hF
   exact ⟨k,hF,hM,hk3 (by omega),hk27⟩
  have hnpos:=of_decide_eq_false ht
  refine Ex (Ot (Ot (Ob (Nx (Sq (Bo (Kp [0,1,5,6] rfl ?_)))))));intro a hF
  refine loopX (fun (x:Str×Nat×Int×Bool×Int) a w=>Fr 243 [(0,.pointer (some ⟨b,0,none⟩)),(1,.pointer (some ⟨22,0,none⟩)),(5,.bool false),(6,.int .i64 x.2.2.2.2)] a∧Mem B wc ((b,240,decL x.1 x.2.1 x.2.2.1 neg x.2.2.2.1)::L) w∧Dec x.1 x.2.1∧0<x.2.1∧ -400≤x.2.2.1∧x.2.2.1≤0∧(x.2.2.2.2≤1057)∧ -27*5000+27*((10*(-x.2.2.1).toNat+(9 - fd x.1)):Nat)≤x.2.2.2.2∧Sound N q x.1 x.2.1 x.2.2.1 x.2.2.2.2) (fun x=>10*(-x.2.2.1).toNat+(9 - fd x.1)) ((ds,m,dq,tr,e)) ?_ (fun x a w hI=> ?_)
  · exact ⟨hF,hM,hD,h0,by simp only;omega,by simp only;omega,by simp only;omega,by simp only;omega,hS⟩
  clear hF hM
  clear hq1 hq2 he1 he2 hfd hnpos hS
  clear hD h0 hl
  obtain ⟨ds,m,dq,tr,e⟩:=x
  obtain ⟨hF,hM,hD,h0,hq1,hq2,he1,he2,hS⟩:=hI
  simp only at hF hM hD h0 hq1 hq2 he1 he2 hS
  have hl:=hD.len
  have hfd:=hD.fd_rng h0
  revert a;refine Sq (Sq ?_)
  obtain ⟨c,hc,hcd⟩:=hD.at h0;rcases (show dq<0∨(0<dq)∨(dq=0∧c.toNat<53)∨(dq=0∧53≤c.toNat) by omega) with hk | hk | hk | hk
  ·
   have hgo:dq<0∨dq=0∧c.toNat<53:= .inl hk
   refine Rg (Mv 3 rfl (Gv rfl (fun _ hF=>gives_load hF hM 0 rfl Tryz.underlying3 rfl rfl rfl (dget_dp hl)) (Bt rfl (by omega) (Md 15 [0,1,5,6,80] rfl (Nx (Ct rfl (Sk (Nx (Bo (Sq (Rg (Md 1 [0,1,5,6] rfl (Nx ?_)))))))))))));intro a hF
   refine cutF (fun a w=>∃ k:Nat,Fr 243 [(0,.pointer (some ⟨b,0,none⟩)),(1,.pointer (some ⟨22,0,none⟩)),(5,.bool false),(6,.int .i64 e),(9,.int .i64 (k:Int))] a∧Mem B wc ((b,240,decL ds m dq neg tr)::L) w∧1≤k∧k≤27∧(dq=0→k=1)∧(dq<0→2^k≤10^(-dq).toNat)) (fun a w h=> ?_) ?_
   ·
    clear hF hM
    obtain ⟨k,hF,hM,hk1,hk27,hk0,hkl⟩:=h
    have hld:=ldel_le (ds:=ds) (m:=m) hk1 (show k≤60 by omega)
    revert a;refine Sq (Rg (Mv 2 rfl (Cl rfl rfl rfl (shiftL_walk (k:=k) hG hD h0 (by omega) (by omega) (by omega) hM) ?_)))
    clear hM;intro w v hR
    obtain ⟨rfl,ds',out,m',tr',hD',h0',hdo,hol,hwo,htk,hf,hmle,hz,hM⟩:=hR
    have hgo':dq<0∨dq=0∧ldel (ds.take m) k=0:=hgo.imp id (fun h=>⟨h.1,by rw [hk0 h.1];exact ldel_one hD h0 hc h.2⟩)
    have hdec:=left_less hD h0 hD' h0' (by omega) hdo hol hwo hf hgo'
    have hd0:dq+((ldel (ds.take m) k:Nat):Int)≤0:=by rcases hgo' with h | h;(have:=ldel_low hD h0 hk1 (by omega) (hkl h);omega);omega
    intro a hF
    rw [←hol] at hmle hz
    have hS':=hS.left hD hD' hdo hol hwo htk hmle hz (by omega) (by omega)
    revert a;refine Md 0 [0,1,5,6,9] rfl (Nx (Rg (Mv 2 rfl (Sm (e - ((k:Nat):Int)) rfl (by omega) (Md 1 [0,1,5,6] rfl (Nb (Kp [0,1,5,6] rfl ?_)))))));intro a hF
    exact ⟨(ds',m',dq+((ldel (ds.take m) k:Nat):Int),tr',e - (k:Int)),⟨hF,hM,hD',h0',by simp only;omega,by simp only;omega,by simp only;omega,by simp only;omega,hS'⟩,hdec⟩
   revert a;refine Sq (Sl (by kernel_rfl) (by kernel_rfl) ?_)
   replace hM:=hM.drew
   skip
   refine Ms 3 rfl (Gs rfl (fun _ hF=>gives_load hF hM 0 rfl Tryz.underlying3 rfl rfl rfl (dget_dp hl)) (Gs rfl (fun _ hF=>gives_neg hF rfl rfl (-dq) (by rw [wrap_i64 (by omega) (by omega)];omega) _) (Gs rfl (fun _ hF=>gives_load1 hF rfl Tryz.underlying133 rfl rfl ((hM.below.cell h25).trans hp0)) (Ms 2 rfl (Sd (Kp [0,1,5,6,88] rfl (Nx (Cd rfl (fun ht=> ?_) ((fun ht=> ?_))))))))))
   ·
    have h9:(9:Int)≤ -dq:=of_decide_eq_true ht
    refine Rg (Md 1 [0,1,5,6,9] rfl ?_);intro a hF
    exact ⟨27,hF,hM,by decide,by decide,fun h=>by omega,fun _=>Nat.le_trans (show 2^27≤10^9 by decide) (Nat.pow_le_pow_right (by decide) (by omega))⟩
   have h9: ¬ (9:Int)≤ -dq:=of_decide_eq_false ht
   obtain ⟨j,hj⟩:∃ j:Nat, -dq=(j:Int):=⟨(-dq).toNat,by omega⟩
   obtain ⟨k,hjk,hk1,hk27,hk3,hk0⟩:=powtab_at (show j<9 by omega)
   have hpl:1≤j→2^k≤10^j:=fun h=>powtab_low hjk rfl h (by omega)
   refine Sl (by kernel_rfl) (by kernel_rfl) ?_
   replace hM:=hM.drew
   skip
   refine Gs rfl (fun _ hF=>gives_load1 hF rfl Tryz.underlying133 rfl rfl ((hM.below.cell h25).trans hp0)) (Ms 3 rfl (Gs rfl (fun _ hF=>gives_load hF hM 0 rfl Tryz.underlying3 rfl rfl rfl (dget_dp hl)) (Gs rfl (fun _ hF=>gives_neg hF rfl rfl (-dq) (by rw [wrap_i64 (by omega) (by omega)];omega) _) (Gs rfl (fun _ hF=>gives_indexAddrS (sz:=1) (j) hF rfl Tryz.underlying133 (by kernel_rfl) rfl rfl hj (by omega) _) (Gs rfl (fun _ hF=>gives_load1 hF rfl Tryz.underlying3 rfl rfl (show World.cell? _ _=some (.int .i64 (k:Int)) by rw [Nat.mul_one];exact (hM.below.cell hbp).trans (hp1 j _ hjk))) (Ms 1 rfl (Sd (Kp [0,1,5,6,9] rfl ?_))))))));intro a hF
   exact ⟨k,hF,hM,hk1,hk27,fun h=>hk0 (by omega),fun h=>by rw [show (-dq).toNat=j by omega];exact hpl (by omega)⟩
  · exact absurd hk (by omega)
  ·
   have hgo:dq<0∨dq=0∧c.toNat<53:= .inr hk
   refine Rg (Mv 3 rfl (Gv rfl (fun _ hF=>gives_load hF hM 0 rfl Tryz.underlying3 rfl rfl rfl (dget_dp hl)) (Bf rfl (by omega) (Mv 4 rfl (Gv rfl (fun _ hF=>gives_load hF hM 0 rfl Tryz.underlying3 rfl rfl rfl (dget_dp hl)) (Mv 1 rfl ?_))))));intro a hF
   rw [show (dq==0)=true by simp;omega] at hF
   revert a;refine Mv 4 rfl (Gv rfl (fun _ hF=>gives_indexAddrD (0) hF rfl rfl rfl rfl (by decide) _) (Gv rfl (fun _ hF=>gives_load hF hM 0 rfl Tryz.underlying5 rfl rfl rfl (dget_dig (hc))) (Bt rfl (by omega) (Md 2 [0,1,5,6,80] rfl (Nx (Ct rfl (Sk (Nx (Bo (Sq (Rg (Md 1 [0,1,5,6] rfl (Nx ?_)))))))))))));intro a hF
   refine cutF (fun a w=>∃ k:Nat,Fr 243 [(0,.pointer (some ⟨b,0,none⟩)),(1,.pointer (some ⟨22,0,none⟩)),(5,.bool false),(6,.int .i64 e),(9,.int .i64 (k:Int))] a∧Mem B wc ((b,240,decL ds m dq neg tr)::L) w∧1≤k∧k≤27∧(dq=0→k=1)∧(dq<0→2^k≤10^(-dq).toNat)) (fun a w h=> ?_) ?_
   ·
    clear hF hM
    obtain ⟨k,hF,hM,hk1,hk27,hk0,hkl⟩:=h
    have hld:=ldel_le (ds:=ds) (m:=m) hk1 (show k≤60 by omega)
    revert a;refine Sq (Rg (Mv 2 rfl (Cl rfl rfl rfl (shiftL_walk (k:=k) hG hD h0 (by omega) (by omega) (by omega) hM) ?_)))
    clear hM;intro w v hR
    obtain ⟨rfl,ds',out,m',tr',hD',h0',hdo,hol,hwo,htk,hf,hmle,hz,hM⟩:=hR
    have hgo':dq<0∨dq=0∧ldel (ds.take m) k=0:=hgo.imp id (fun h=>⟨h.1,by rw [hk0 h.1];exact ldel_one hD h0 hc h.2⟩)
    have hdec:=left_less hD h0 hD' h0' (by omega) hdo hol hwo hf hgo'
    have hd0:dq+((ldel (ds.take m) k:Nat):Int)≤0:=by rcases hgo' with h | h;(have:=ldel_low hD h0 hk1 (by omega) (hkl h);omega);omega
    intro a hF
    rw [←hol] at hmle hz
    have hS':=hS.left hD hD' hdo hol hwo htk hmle hz (by omega) (by omega)
    revert a;refine Md 0 [0,1,5,6,9] rfl (Nx (Rg (Mv 2 rfl (Sm (e - ((k:Nat):Int)) rfl (by omega) (Md 1 [0,1,5,6] rfl (Nb (Kp [0,1,5,6] rfl ?_)))))));intro a hF
    exact ⟨(ds',m',dq+((ldel (ds.take m) k:Nat):Int),tr',e - (k:Int)),⟨hF,hM,hD',h0',by simp only;omega,by simp only;omega,by simp only;omega,by simp only;omega,hS'⟩,hdec⟩
   revert a;refine Sq (Sl (by kernel_rfl) (by kernel_rfl) ?_)
   replace hM:=hM.drew
   skip
   refine Ms 3 rfl (Gs rfl (fun _ hF=>gives_load hF hM 0 rfl Tryz.underlying3 rfl rfl rfl (dget_dp hl)) (Gs rfl (fun _ hF=>gives_neg hF rfl rfl (-dq) (by rw [wrap_i64 (by omega) (by omega)];omega) _) (Gs rfl (fun _ hF=>gives_load1 hF rfl Tryz.underlying133 rfl rfl ((hM.below.cell h25).trans hp0)) (Ms 2 rfl (Sd (Kp [0,1,5,6,88] rfl (Nx (Cd rfl (fun ht=> ?_) ((fun ht=> ?_))))))))))
   ·
    have h9:(9:Int)≤ -dq:=of_decide_eq_true ht
    refine Rg (Md 1 [0,1,5,6,9] rfl ?_);intro a hF
    exact ⟨27,hF,hM,by decide,by decide,fun h=>by omega,fun _=>Nat.le_trans (show 2^27≤10^9 by decide) (Nat.pow_le_pow_right (by decide) (by omega))⟩
   have h9: ¬ (9:Int)≤ -dq:=of_decide_eq_false ht
   obtain ⟨j,hj⟩:∃ j:Nat, -dq=(j:Int):=⟨(-dq).toNat,by omega⟩
   obtain ⟨k,hjk,hk1,hk27,hk3,hk0⟩:=powtab_at (show j<9 by omega)
   have hpl:1≤j→2^k≤10^j:=fun h=>powtab_low hjk rfl h (by omega)
   refine Sl (by kernel_rfl) (by kernel_rfl) ?_
   replace hM:=hM.drew
   skip
   refine Gs rfl (fun _ hF=>gives_load1 hF rfl Tryz.underlying133 rfl rfl ((hM.below.cell h25).trans hp0)) (Ms 3 rfl (Gs rfl (fun _ hF=>gives_load hF hM 0 rfl Tryz.underlying3 rfl rfl rfl (dget_dp hl)) (Gs rfl (fun _ hF=>gives_neg hF rfl rfl (-dq) (by rw [wrap_i64 (by omega) (by omega)];omega) _) (Gs rfl (fun _ hF=>gives_indexAddrS (sz:=1) (j) hF rfl Tryz.underlying133 (by kernel_rfl) rfl rfl hj (by omega) _) (Gs rfl (fun _ hF=>gives_load1 hF rfl Tryz.underlying3 rfl rfl (show World.cell? _ _=some (.int .i64 (k:Int)) by rw [Nat.mul_one];exact (hM.below.cell hbp).trans (hp1 j _ hjk))) (Ms 1 rfl (Sd (Kp [0,1,5,6,9] rfl ?_))))))));intro a hF
   exact ⟨k,hF,hM,hk1,hk27,fun h=>hk0 (by omega),fun h=>by rw [show (-dq).toNat=j by omega];exact hpl (by omega)⟩
  have hdq0:dq=0:=hk.1
  have hc53:53≤c.toNat:=hk.2
  refine Rg (Mv 3 rfl (Gv rfl (fun _ hF=>gives_load hF hM 0 rfl Tryz.underlying3 rfl rfl rfl (dget_dp hl)) (Bf rfl (by omega) (Mv 4 rfl (Gv rfl (fun _ hF=>gives_load hF hM 0 rfl Tryz.underlying3 rfl rfl rfl (dget_dp hl)) (Mv 1 rfl ?_))))));intro a hF
  rw [show (dq==0)=true by simp;omega] at hF
  revert a;refine Mv 4 rfl (Gv rfl (fun _ hF=>gives_indexAddrD (0) hF rfl rfl rfl rfl (by decide) _) (Gv rfl (fun _ hF=>gives_load hF hM 0 rfl Tryz.underlying5 rfl rfl rfl (dget_dig (hc))) (Bf rfl (by omega) (Md 2 [0,1,5,6,80] rfl (Nx (Cf rfl (Ex (Ot (Ot (Ob (Nx (Sq (Rg (Mv 1 rfl (Sm (e - 1) rfl (by omega) (Md 1 [0,1,5,6] rfl (Nx ?_)))))))))))))))));intro a hF
  refine cut (fun a w=>∃ (ds:Str) (m:Nat) (dq:Int) (tr:Bool) (e2:Int),Fr 243 [(0,.pointer (some ⟨b,0,none⟩)),(1,.pointer (some ⟨22,0,none⟩)),(5,.bool false),(6,.int .i64 e2)] a∧Mem B wc ((b,240,decL ds m dq neg tr)::L) w∧Dec ds m∧0<m∧ -2^30≤dq∧dq≤2^30∧ -1000000≤e2∧e2≤1000000∧((e2≤1022∧ ¬ BG)∨(1024≤e2∧BG)∨(e2=1023∧dq=0∧Sound N q ds m 0 1024∧∃ c,ds[0]?=some c∧53≤c.toNat))) ?_ (fun a w h=> ?_)
  ·
   revert a;refine Sq (Rg (Mv 4 rfl (Gv rfl (fun _ hF=>gives_load1 hF rfl Tryz.underlying3 rfl rfl ((hM.below.cell h22).trans hG.bias)) (Sm (-1022) rfl (by omega) (Md 1 [0,1,5,6,111] rfl (Nx (Ce rfl (fun ht=> ?_) ((fun ht=> ?_)))))))))
   ·
    have hlt:=of_decide_eq_false ht
    refine Sk (Kp [0,1,5,6] rfl ?_);intro a hF
    exact ⟨_,_,_,_,e - 1,hF,hM,hD,h0,by omega,by omega,by omega,by omega,by rw [hdq0] at hS ⊢;rcases (show e≤1023∨1025≤e∨e=1024 by omega) with h | h | h;exact .inl ⟨by omega,fun h2=>not_1023 hS hD h (hBG.1 h2)⟩;exact .inr (.inl ⟨by omega,hBG.2 (is_1025 hS hD h0 hc hc53 h)⟩);exact .inr (.inr ⟨by omega,rfl,by rw [h] at hS;exact hS,c,hc,hc53⟩)⟩
   have hlt:=of_decide_eq_true ht
   obtain ⟨N',hN'⟩:∃ N':Nat, -1022 - (e - 1)=(N':Int):=⟨(-1022 - (e - 1)).toNat,by omega⟩
   refine Sq (Rg (Mv 3 rfl (Gv rfl (fun _ hF=>gives_load1 hF rfl Tryz.underlying3 rfl rfl ((hM.below.cell h22).trans hG.bias)) (Sm (-1022) rfl (by omega) (Mv 1 rfl (Sm (((N':Nat):Int)) rfl (by omega) (Md 1 [0,1,5,6,10] rfl (Nx (Sq (Rg (Mv 2 rfl (Gv rfl (fun _ hF=>gives_neg hF rfl rfl (-((N':Nat):Int)) (by rw [wrap_i64 (by omega) (by omega)];omega) _) (Cl rfl rfl rfl (shiftFar_walk (K:=N') hD h0 (by omega) (by omega) (by omega) hM) ?_)))))))))))))
   clear hM;intro w v hR
   obtain ⟨rfl,ds',m',dp',tr',hD',h0',hdp1,hdp2,hM⟩:=hR
   refine Md 0 [0,1,5,6,10] rfl (Nx (Rg (Mv 2 rfl (Sm ((-1022)) rfl (by omega) (Md 1 [0,1,5,6] rfl ?_)))));intro a hF
   exact ⟨_,_,_,_, -1022,hF,hM,hD',h0',by omega,by omega,by decide,by decide,.inl ⟨by decide,fun h=>not_1023 (e:=e) (by rw [hdq0] at hS;exact hS) hD (by omega) (hBG.1 h)⟩⟩
  clear hF hM
  clear hD h0 hl hq1 hq2 he1 he2 hfd hS
  obtain ⟨ds,m,dq,tr,e,hF,hM,hD,h0,hq1,hq2,he1,he2,hcs⟩:=h
  have hl:=hD.len
  revert a;refine Sq (Sq (Sl (by kernel_rfl) (by kernel_rfl) ?_))
  replace hM:=hM.drew
  skip
  refine Ms 4 rfl (Gs rfl (fun _ hF=>gives_load1 hF rfl Tryz.underlying3 rfl rfl ((hM.below.cell h22).trans hG.bias)) (Ss ((e+1023)) rfl (by omega) (Ms 3 rfl (Gs rfl (fun _ hF=>gives_load1 hF rfl Tryz.underlying157 rfl rfl ((hM.below.cell h22).trans hG.expb)) (Gs rfl (fun _ hF=>gives_shl (11) (2048) hF rfl rfl rfl rfl (by decide) _) (Ss (2047) rfl (by omega) (Ms 1 rfl (Sd (Kp [0,1,5,6,138] rfl (Nx (Cd rfl (fun ht=> ?_) ((fun ht=> ?_)))))))))))))
  ·
   have hge:=of_decide_eq_true ht
   have hbig:BG:=by rcases hcs with ⟨h,_⟩ | ⟨_,h⟩ | ⟨h,_⟩;omega;exact h;omega
   refine Wg (Gt (Jt (Kp [0,1] rfl ?_)));intro a hF
   exact ⟨(),.inr ⟨rfl,_,_,_,_,hF,hM,hl,hbig⟩⟩
  have hge:=of_decide_eq_false ht
  intro a hF
  replace hcs:(e≤1022∧ ¬ BG)∨(e=1023∧dq=0∧Sound N q ds m 0 1024∧∃ c,ds[0]?=some c∧53≤c.toNat):=by rcases hcs with h | ⟨h,_⟩ | h;exact .inl h;omega;exact .inr h
  revert a;refine Sk (Nx (Sq (Rg (Mv 4 rfl (Gv rfl (fun _ hF=>gives_load1 hF rfl Tryz.underlying157 rfl rfl ((hM.below.cell h22).trans hG.mant)) (Mv 1 rfl (Gv rfl (fun _ hF=>gives_conv hF rfl Tryz.underlying157 Tryz.underlying3 rfl (((53:Nat):Int)) (by decide) _) (Cl rfl rfl rfl (shiftL_walk (k:=53) hG hD h0 (by decide) (by decide) (by omega) hM) ?_))))))))
  clear hM;intro w v hR
  obtain ⟨rfl,ds',out,m',tr',hD',h0',hdo,hol,hwo,htk,hf,hmle,hz,hM⟩:=hR
  clear hl
  have hl:=hD'.len
  intro a hF
  rw [←hol] at hmle hz
  revert a;refine Md 0 [0,1,5,6] rfl (Nx (Sq ?_))
  rcases hcs with ⟨he22,hnbig⟩ | ⟨he23,hdq0,hSd,c,hc,hc53⟩
  ·
   refine Rg (Mv 1 rfl (Cl rfl rfl rfl (rounded_walk hD' hM) ?_))
   clear hM;intro w v hR
   obtain ⟨⟨z,rfl⟩,hM⟩:=hR
   refine Md 1 [0,1,5,6,7] rfl (Nx (Sq (Sq (Rg (Mv 4 rfl (Gv rfl (fun _ hF=>gives_load1 hF rfl Tryz.underlying157 rfl rfl ((hM.below.cell h22).trans hG.mant)) (Gv rfl (fun _ hF=>gives_shl (52) (9007199254740992) hF rfl rfl rfl rfl (by decide) _) (Md 1 [0,1,5,6,7,155] rfl (Nx (D0 rfl ?_ ?_))))))))))
   ·
    refine Sk (Nx (Sq (Sq (Rg (Mv 4 rfl (Gv rfl (fun _ hF=>gives_load1 hF rfl Tryz.underlying157 rfl rfl ((hM.below.cell h22).trans hG.mant)) (Gv rfl (fun _ hF=>gives_shl (52) (_) hF rfl rfl rfl rfl rfl _) (Gv rfl (fun _ hF=>gives_bits (_) hF rfl rfl rfl rfl _) (Md 1 [0,1,5,6,7,180] rfl (Nx (D0 rfl ?_ ?_)))))))))))
    ·
     refine Sk (Nx (Sq (Wg (Gt (Jt (Kp [0,1,5,6,7] rfl ?_))))));intro a hF
     exact ⟨(),.inl ⟨rfl,_,_,false,_,_,_,_,hF,hM,hl,⟨fun h=>absurd h (by decide),fun h=>absurd h hnbig⟩⟩⟩
    refine Rg (Mv 3 rfl (Gv rfl (fun _ hF=>gives_load1 hF rfl Tryz.underlying3 rfl rfl ((hM.below.cell h22).trans hG.bias)) (Md 1 [0,1,5,6,7] rfl (Nx (Sq (Wg (Gt (Jt (Kp [0,1,5,6,7] rfl ?_)))))))));intro a hF
    exact ⟨(),.inl ⟨rfl,_,_,false,_,_,_,_,hF,hM,hl,⟨fun h=>absurd h (by decide),fun h=>absurd h hnbig⟩⟩⟩
   refine Sq (Rg (Mv 1 rfl (Gv rfl (fun _ hF=>gives_shr (1) (_) hF rfl rfl rfl rfl rfl _) (Md 1 [0,1,5,6,7] rfl (Nx (Sq (Rg (Mv 1 rfl (Sm ((e+1)) rfl (by omega) (Md 1 [0,1,5,6,7] rfl (Nx (Sq (Sl (by kernel_rfl) (by kernel_rfl) ?_)))))))))))))
   replace hM:=hM.drew
   skip
   refine Ms 4 rfl (Gs rfl (fun _ hF=>gives_load1 hF rfl Tryz.underlying3 rfl rfl ((hM.below.cell h22).trans hG.bias)) (Ss ((e+1+1023)) rfl (by omega) (Ms 3 rfl (Gs rfl (fun _ hF=>gives_load1 hF rfl Tryz.underlying157 rfl rfl ((hM.below.cell h22).trans hG.expb)) (Gs rfl (fun _ hF=>gives_shl (11) (2048) hF rfl rfl rfl rfl (by decide) _) (Ss (2047) rfl (by omega) (Ms 1 rfl (Sd (Kp [0,1,5,6,7,172] rfl (Nx (C1 rfl (fun ht=>absurd (of_decide_eq_true ht) (by omega)) (Sk (Nx (Sq (Sq (Rg (Mv 4 rfl (Gv rfl (fun _ hF=>gives_load1 hF rfl Tryz.underlying157 rfl rfl ((hM.below.cell h22).trans hG.mant)) (Gv rfl (fun _ hF=>gives_shl (52) (_) hF rfl rfl rfl rfl rfl _) (Gv rfl (fun _ hF=>gives_bits (_) hF rfl rfl rfl rfl _) (Md 1 [0,1,5,6,7,180] rfl (Nx (D0 rfl ?_ ?_)))))))))))))))))))))))
   ·
    refine Sk (Nx (Sq (Wg (Gt (Jt (Kp [0,1,5,6,7] rfl ?_))))));intro a hF
    exact ⟨(),.inl ⟨rfl,_,_,false,_,_,_,_,hF,hM,hl,⟨fun h=>absurd h (by decide),fun h=>absurd h hnbig⟩⟩⟩
   refine Rg (Mv 3 rfl (Gv rfl (fun _ hF=>gives_load1 hF rfl Tryz.underlying3 rfl rfl ((hM.below.cell h22).trans hG.bias)) (Md 1 [0,1,5,6,7] rfl (Nx (Sq (Wg (Gt (Jt (Kp [0,1,5,6,7] rfl ?_)))))))));intro a hF
   exact ⟨(),.inl ⟨rfl,_,_,false,_,_,_,_,hF,hM,hl,⟨fun h=>absurd h (by decide),fun h=>absurd h hnbig⟩⟩⟩
  have h16:=ldel_16 hD h0 hc hc53
  rw [h16] at hol
  subst hdq0
  rw [h16,Int.zero_add] at hM
  have hSf:Sound N q ds' m' 16 971:=by have:=hSd.left hD hD' hdo (by rw [h16];exact hol) hwo htk hmle hz (by rw [h16];decide) (by rw [h16];decide);rw [h16] at this;exact this
  have hrb:rd (ds'.take m') 16<2^53:=rd_out hD' hdo hol htk hmle hz (by rw [hwo];have:=worth_lt hD.digs;rw [hD.tlen] at this;exact Nat.mul_lt_mul_of_pos_right this (by decide))
  refine Rg (Mv 1 rfl (Cl rfl rfl rfl (rounded16_walk hD' hM) ?_))
  clear hM;intro w v hR
  obtain ⟨⟨up,rfl,hup⟩,hM⟩:=hR
  have hrt:=round_top hSf hD' hrb hup
  refine Md 1 [0,1,5,6,7] rfl (Nx (Sq (Sq (Rg (Mv 4 rfl (Gv rfl (fun _ hF=>gives_load1 hF rfl Tryz.underlying157 rfl rfl ((hM.below.cell h22).trans hG.mant)) (Gv rfl (fun _ hF=>gives_shl (52) (9007199254740992) hF rfl rfl rfl rfl (by decide) _) (Md 1 [0,1,5,6,7,155] rfl (Nx (Ce rfl (fun ht=> ?_) ((fun ht=> ?_))))))))))))
  ·
   have hnbig: ¬ BG:=fun h=>by have:=hrt.2 (hBG.1 h);rw [this] at ht;exact absurd ht (by decide)
   refine Sk (Nx (Sq (Sq (Rg (Mv 4 rfl (Gv rfl (fun _ hF=>gives_load1 hF rfl Tryz.underlying157 rfl rfl ((hM.below.cell h22).trans hG.mant)) (Gv rfl (fun _ hF=>gives_shl (52) (_) hF rfl rfl rfl rfl rfl _) (Gv rfl (fun _ hF=>gives_bits (_) hF rfl rfl rfl rfl _) (Md 1 [0,1,5,6,7,180] rfl (Nx (D0 rfl ?_ ?_)))))))))))
   ·
    refine Sk (Nx (Sq (Wg (Gt (Jt (Kp [0,1,5,6,7] rfl ?_))))));intro a hF
    exact ⟨(),.inl ⟨rfl,_,_,false,_,_,_,_,hF,hM,hl,⟨fun h=>absurd h (by decide),fun h=>absurd h hnbig⟩⟩⟩
   refine Rg (Mv 3 rfl (Gv rfl (fun _ hF=>gives_load1 hF rfl Tryz.underlying3 rfl rfl ((hM.below.cell h22).trans hG.bias)) (Md 1 [0,1,5,6,7] rfl (Nx (Sq (Wg (Gt (Jt (Kp [0,1,5,6,7] rfl ?_)))))))));intro a hF
   exact ⟨(),.inl ⟨rfl,_,_,false,_,_,_,_,hF,hM,hl,⟨fun h=>absurd h (by decide),fun h=>absurd h hnbig⟩⟩⟩
  have hbig:BG:=hBG.2 (hrt.1 (by have:=eq_of_beq ht;omega))
  refine Sq (Rg (Mv 1 rfl (Gv rfl (fun _ hF=>gives_shr (1) (_) hF rfl rfl rfl rfl rfl _) (Md 1 [0,1,5,6,7] rfl (Nx (Sq (Rg (Mv 1 rfl (Sm ((e+1)) rfl (by omega) (Md 1 [0,1,5,6,7] rfl (Nx (Sq (Sl (by kernel_rfl) (by kernel_rfl) ?_)))))))))))))
  replace hM:=hM.drew
  skip
  refine Ms 4 rfl (Gs rfl (fun _ hF=>gives_load1 hF rfl Tryz.underlying3 rfl rfl ((hM.below.cell h22).trans hG.bias)) (Ss ((e+1+1023)) rfl (by omega) (Ms 3 rfl (Gs rfl (fun _ hF=>gives_load1 hF rfl Tryz.underlying157 rfl rfl ((hM.below.cell h22).trans hG.expb)) (Gs rfl (fun _ hF=>gives_shl (11) (2048) hF rfl rfl rfl rfl (by decide) _) (Ss (2047) rfl (by omega) (Ms 1 rfl (Sd (Kp [0,1,5,6,7,172] rfl (Nx (D2 rfl (fun ht=>absurd (of_decide_eq_false ht) (by omega)) (Wg (Gt (Jt (Kp [0,1] rfl ?_)))))))))))))));intro a hF
  exact ⟨(),.inr ⟨rfl,_,_,_,_,hF,hM,hl,hbig⟩⟩
theorem decz:Dec (List.replicate 800 0) 0:=⟨List.length_replicate,by decide,fun c hc=>by simp at hc,fun h=>absurd h (by decide)⟩
theorem shl_sg (neg:Bool):IntKind.u64.wrap ((if neg then (1:Int) else 0)*(2:Int)^min 63 IntKind.u64.bits)=((sgB neg:Nat):Int):=by cases neg <;> decide+kernel
def Tel (neg:Bool) (I fd:Str) (k':Int) (er:Value):Prop:=(er= .nilIface∧ ¬ ErrX neg I fd k')∨(er= .iface 168 (.int .i64 1)∧ErrX neg I fd k')
theorem tel_erV {neg b:Bool}{I fd:Str}{k':Int}(h:b=true↔ErrX neg I fd k'):Tel neg I fd k' (erV b):=by
  cases b with
  | false=>exact .inl ⟨rfl,fun h2=>absurd (h.2 h2) (by decide)⟩
  | true=>exact .inr ⟨rfl,h.1 rfl⟩
set_option maxHeartbeats 1000000 in
theorem atof64x_walk {s:Str}{neg:Bool}{I fd E:Str}{k k':Int}(hf:NumForm s neg I fd E k) (hx:ExCap E k') (hs:s.length≤2^40) (hn:∀ c∈s,numc c=true) (w0:World) (hV:TabX w0.heap.size w0):
    Calls Tryz.prog 184 #[.string (mkS s)] w0 (Ret fun v w'=>(∃ (f:Nat) (er:Value),v= .tuple #[.float .f64 f,.int .i64 (s.length:Int),er]∧Tel neg I fd k' er)∧Below w0.heap.size w0 w'):=by
 have hM:=MS0 w0
 have hT:=hV.tabs
 have h20:20<w0.heap.size:=by have:=hT.lt;omega
 have hml:=mant_lt (hf.int.append hf.frac)
 refine enter (l:=[.string (mkS s)]) 142 Tryz.func184 rfl rfl (Sq (Rg (Md 3 [0,4] rfl (Nx (Sq (Sq (Rg (Mv 1 rfl (Cm hM rfl rfl rfl (special0_walk hf (by omega) _) ?_)))))))))
 clear hM;intro w v hR hM hBe
 obtain rfl:=hR
 refine Md 7 [0,4,5,6,7] rfl (Nx (Sq (Rg (Md 1 [0,4,5,6,32] rfl (Nx (Cf rfl (Sk (Nx (Sq (Rg (Mv 1 rfl (Cm hM rfl rfl rfl (readFloatx_walk hf hx (by omega) hn _) ?_))))))))))))
 clear hM;intro w v hR hM hBe
 obtain rfl:=hR
 refine Md 15 [0,3,4,8,9,10,11,12,13] rfl (Nx (Sq (Sq (Rg (Md 2 [0,3,4,8,9,10,11,12,46] rfl (Nx (C1 rfl (fun ht=>absurd ht (by decide)) (Sk (Nx (Sq (Sq (Rg (Md 1 [0,3,4,8,9,10,11,49] rfl (Nx (Cf rfl (Sk (Nx ?_)))))))))))))))));intro a hF
 refine cutF (fun a w=>Fr 143 [(0,.string (mkS s)),(3,.int .i64 (s.length:Int)),(4,.nilIface)] a∧(ErrX neg I fd k'↔slowB I fd k')∧Mem w0.heap.size w0 [] w) (fun a w h=> ?_) ?_
 ·
  clear hF hM
  obtain ⟨hF,hsl2,hM⟩:=h
  refine seq (region ?_)
  refine op_alloc hF hM rfl (vs:=decL (List.replicate 800 0) 0 0 false false) rfl rfl rfl (by kernel_rfl) ?_;clear hF hM a;intro a w b23 hF hM
  revert a;refine Md 0 [0,3,4,23] rfl (Nx (Sq (Sq (Rg (Mv 2 rfl ?_)))));intro a hF
  refine op_sliceTo_str hF rfl (s.length) rfl rfl rfl Tryz.underlying9 rfl rfl (by first | rfl | omega) (Nat.le_refl _) ?_;clear hF a;intro a hF
  rw [List.take_length] at hF
  revert a;refine Cl rfl rfl rfl (decSetx_walk decz hf hx (by omega) hn hM) ?_
  clear hM;intro w v hR
  obtain ⟨rfl,ds,tr2,hD,htk,hM⟩:=hR
  refine Md 1 [3,4,23,129] rfl (Nx (C1 rfl (fun ht=>absurd ht (by decide)) (Sk (Nx (Sq (Rg (Cl rfl rfl rfl (floatBitsx_walk hT hD hM) ?_)))))))
  clear hM;intro w v hR
  obtain ⟨⟨bz,ov,rfl,hov⟩,ds',nd',dp',tr',hM⟩:=hR
  rw [htk] at hov
  have hov2:ov=true↔ErrX neg I fd k':=hov.trans hsl2.symm
  refine Md 5 [3,4,24,25] rfl (Nx (Sq (Rg (Mv 1 rfl ?_))));intro a hF
  refine op_frombits hF rfl rfl rfl rfl rfl ?_;clear hF a;intro a hF
  revert a;refine Md 1 [2,3,4,25] rfl (Nx ?_);intro a hF
  refine cutF (fun a w=>∃ (f:Nat) (er:Value),Fr 143 [(2,.float .f64 f),(3,.int .i64 (s.length:Int)),(4,er)] a∧Below w0.heap.size w0 w∧Tel neg I fd k' er) (fun a w h=> ?_) ?_
  ·
   clear hF hM
   obtain ⟨f,er,hF,hB,htl⟩:=h
   have hM:=MS0 w0
   replace hM:Mem w0.heap.size w0 [] w:=⟨hB,hB.size,by simp,.nil⟩
   revert a;exact Sq (Rg (Md 6 [2,3,4] rfl (Nx (Re (Y3 rfl rfl rfl rfl ⟨_,rfl,⟨_,_,rfl,htl⟩,hM.below⟩)))))
  revert a;refine Sq (Rg (Md 1 [2,3,4,138] rfl (Nx (Ce rfl (fun ht=> ?_) ((fun ht=> ?_))))))
  ·
   have htl:Tel neg I fd k' .nilIface:= .inl ⟨rfl,fun h=>by rw [hov2.2 h] at ht;cases ht⟩
   refine Sk (Kp [2,3,4] rfl ?_);intro a hF
   exact ⟨_,_,hF,hM.below,htl⟩
  have htl:Tel neg I fd k' (.iface 168 (.int .i64 1)):= .inr ⟨rfl,hov2.1 ht⟩
  refine Rg (Gv rfl (fun _ hF=>gives_mkIface hF rfl Tryz.underlying168 rfl rfl _) (Md 1 [2,3,4] rfl ?_));intro a hF
  exact ⟨_,_,hF,hM.below,htl⟩
 revert a;refine Sq (Rg (Gv rfl (fun _ hF=>gives_load1 hF rfl Tryz.underlying4 rfl rfl ((hM.below.cell h20).trans hT.opt)) (Md 0 [0,3,4,8,9,10,11,64] rfl (Nx (Ct rfl (Sq (Rg (Mv 1 rfl (Cm hM rfl rfl rfl (bool2u_walk neg _) ?_)))))))))
 clear hM;intro w v hR hM hBe
 obtain rfl:=hR
 refine Gv rfl (fun _ hF=>gives_shl (63) (((sgB neg:Nat):Int)) hF rfl rfl rfl rfl (shl_sg neg) _) (Md 1 [0,3,4,8,9,10,11,16] rfl (Nx (Sq (Sq (Rg (Md 2 [0,3,4,8,9,10,11,16,69] rfl (Nx (Cd rfl (fun ht=> ?_) ((fun ht=> ?_))))))))))
 ·
  have hm0:mant (I++fd)=0:=by have:=ht;simp at this;omega
  have htl:Tel neg I fd k' .nilIface:= .inl ⟨rfl,errX_zero hm0⟩
  refine Sq (Rg (Mv 1 rfl (Gv rfl (fun _ hF=>gives_bits (_) hF rfl rfl rfl rfl _) ?_)));intro a hF
  refine op_frombits hF rfl rfl rfl rfl rfl ?_;clear hF a;intro a hF
  revert a;exact Md 4 [2,3,4] rfl (Nx (Re (Rt (Rt (Y3 rfl rfl rfl rfl ⟨_,rfl,⟨_,_,rfl,htl⟩,hM.below⟩)))))
 have hm0: ¬ mant (I++fd)=0:=by intro h;rw [h] at ht;exact absurd ht (by decide)
 intro a hF
 rw [if_neg hm0] at hF
 have hsl:=(sgB_ok neg).lt
 revert a;refine Sk (Nx (Sq (Sq (Rg (Md 2 [0,3,4,8,9,10,11,16,75] rfl (Nx (Cd rfl (fun ht=> ?_) ((fun ht=> ?_)))))))))
 ·
  have hp1:=of_decide_eq_true ht
  have htl:Tel neg I fd k' (.iface 168 (.int .i64 1)):= .inr ⟨rfl,errX_high hm0 hp1⟩
  refine Sq (Rg (Mv 1 rfl (Gv rfl (fun _ hF=>gives_bits (_) hF rfl rfl rfl rfl _) ?_)));intro a hF
  refine op_frombits hF rfl rfl rfl rfl rfl ?_;clear hF a;intro a hF
  revert a;exact Mv 1 rfl (Gv rfl (fun _ hF=>gives_mkIface hF rfl Tryz.underlying168 rfl rfl _) (Md 3 [2,3,4] rfl (Nx (Re (Rt (Rt (Y3 rfl rfl rfl rfl ⟨_,rfl,⟨_,_,rfl,htl⟩,hM.below⟩)))))))
 have hp1: ¬ 310<eP I fd k':=of_decide_eq_false ht
 refine Sk (Nx (Sq (Sq (Rg (Md 2 [0,3,4,8,9,10,11,16,82] rfl (Nx (Cd rfl (fun ht=> ?_) ((fun ht=> ?_)))))))))
 ·
  have hp2:=of_decide_eq_true ht
  have htl:Tel neg I fd k' .nilIface:= .inl ⟨rfl,errX_low hp2⟩
  refine Sq (Rg (Mv 1 rfl (Gv rfl (fun _ hF=>gives_bits (_) hF rfl rfl rfl rfl _) ?_)));intro a hF
  refine op_frombits hF rfl rfl rfl rfl rfl ?_;clear hF a;intro a hF
  revert a;exact Md 4 [2,3,4] rfl (Nx (Re (Rt (Rt (Y3 rfl rfl rfl rfl ⟨_,rfl,⟨_,_,rfl,htl⟩,hM.below⟩)))))
 have hp2: ¬ eP I fd k'< -345:=of_decide_eq_false ht
 refine Sk (Nx ?_);intro a hF
 refine cut (fun a w=>Fr 143 [(0,.string (mkS s)),(3,.int .i64 (s.length:Int)),(4,.nilIface),(8,.int .u64 ((mant (I++fd):Nat):Int)),(9,.int .i64 (eP I fd k')),(11,.bool (trc (I++fd))),(16,.int .u64 ((sgB neg:Nat):Int))] a∧Mem w0.heap.size w0 [] w) ?_ (fun a w h=> ?_)
 ·
  revert a;refine Sq (Rg (Md 2 [0,3,4,8,9,10,11,16,88] rfl (Nx (D1 rfl ?_ ((fun ht=> ?_))))))
  ·
   refine Sk (Kp [0,3,4,8,9,11,16] rfl ?_);intro a hF
   exact ⟨hF,hM⟩
  have htr:trc (I++fd)=false:=by simpa using ht
  refine Sq (Rg (Mv 3 rfl (Cm hM rfl rfl rfl (exactx_walk _ _ _ _ (hT.keep (Nat.le_refl _) hM.below |>.mono hM.base)) ?_)))
  clear hM;intro w v hR hM hBe
  obtain ⟨xf,xok,rfl,hxp⟩:=hR
  refine Md 5 [0,3,4,8,9,11,16,17,18] rfl (Nx (Sq (Rg (Md 1 [0,3,4,8,9,11,16,17,96] rfl (Nx (D1 rfl ?_ ((fun ht=> ?_))))))))
  ·
   refine Sk (Kp [0,3,4,8,9,11,16] rfl ?_);intro a hF
   exact ⟨hF,hM⟩
  have hp37:=hxp ht
  intro a hF
  have htl:Tel neg I fd k' .nilIface:= .inl ⟨rfl,fun h=>absurd ((errX_fast hm0 hp1 hp2 (.inl htr)).1 h) (big_low (a:=20) (by omega) (by omega))⟩
  revert a;exact Sq (Rg (Md 5 [2,3,4] rfl (Nx (Re (Rt (Rt (Y3 rfl rfl rfl rfl ⟨_,rfl,⟨_,_,rfl,htl⟩,hM.below⟩)))))))
 clear hF hM
 obtain ⟨hF,hM⟩:=h
 revert a;refine Sq (Rg (Mv 3 rfl (Cm hM rfl rfl rfl (parse64x_walk (z:=mant (I++fd)) (sg:=sgB neg) (p:=eP I fd k') (by omega) (by omega) (by omega) hsl _ (hV.mem hM)) ?_)))
 clear hM;intro w v hR hM hBe
 obtain rfl:=hR
 refine Md 5 [0,3,4,8,9,11,16,19,20] rfl (Nx (Sq (Sq (Rg (Md 2 [0,3,4,8,9,16,19,20,107] rfl (Nx (Cd rfl (fun ht=> ?_) ((fun ht=> ?_)))))))))
 ·
  have htr:trc (I++fd)=false:=by simpa using ht
  have htl:=tel_erV (neg:=neg) ((fx_big (sgB_ok neg) (by omega) (by omega) (by omega)).trans (errX_fast hm0 hp1 hp2 (.inl htr)).symm)
  exact Sq (Rg (Md 6 [2,3,4] rfl (Nx (Re (Rt (Rt (Y3 rfl rfl rfl rfl ⟨_,rfl,⟨_,_,rfl,htl⟩,hM.below⟩)))))))
 have htr:trc (I++fd)=true:=by simpa using ht
 refine Sk (Nx (Sq (Rg (Mv 1 rfl (Gv rfl (fun _ hF=>gives_sum hF rfl rfl rfl (((mant (I++fd)+1:Nat):Int)) rfl (by omega) (u64_in (by omega) (by omega)) _) (Mv 2 rfl (Cm hM rfl rfl rfl (parse64x_walk (z:=mant (I++fd)+1) (sg:=sgB neg) (p:=eP I fd k') (by omega) (by omega) (by omega) hsl _ (hV.mem hM)) ?_)))))))
 clear hM;intro w v hR hM hBe
 obtain rfl:=hR
 refine Md 5 [0,3,4,19,20,21] rfl (Nx (Sq (Rg (Mv 2 rfl (Gv rfl (fun _ hF=>gives_fcmp hF rfl rfl rfl rfl _) (Md 0 [0,3,4,19,20,121] rfl (Nx (Ce rfl (fun ht=> ?_) ((fun ht=> ?_))))))))))
 ·
  have heq:EqF neg (mant (I++fd)) (eP I fd k')=false:=ht
  have hsl2:=errX_slow hm0 hp1 hp2 htr heq
  refine Sk (Kp [0,3,4] rfl ?_);intro a hF
  exact ⟨hF,hsl2,hM⟩
 have heq:EqF neg (mant (I++fd)) (eP I fd k')=true:=ht
 have htl:=tel_erV (neg:=neg) ((fx_big (sgB_ok neg) (by omega) (by omega) (by omega)).trans (errX_fast hm0 hp1 hp2 (.inr heq)).symm)
 exact Sq (Rg (Md 6 [2,3,4] rfl (Nx (Re (Rt (Y3 rfl rfl rfl rfl ⟨_,rfl,⟨_,_,rfl,htl⟩,hM.below⟩))))))

end Go.Sx