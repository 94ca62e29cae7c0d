/- Part 27 of the proof of FnJrTyped: the statement Rows.FnJrTypedCardSaid; no further condition. -/
import Derived.Test.YtelonenjneonlaaGreatDoorR26
import Derived.ChangeKeysEq
import Derived.Laws.StructEq
set_option linter.all false
set_option maxRecDepth 100000
namespace Go.Sx
open Go.RowKit Go.Proofs Js Go.Proofs.YtelonenjneonlaaGreatDoorW.PrintWords
def PU (s:Str) (v:Value):Prop:=(∃ n:Nat,v= .tuple #[.int .u64 (n:Int),.nilIface]∧u64 s=some n)∨(∃ (z:Int) (j:Nat),v= .tuple #[.int .u64 z,.iface 168 (.int .i64 1)]∧Digs (s.take j)∧j≤s.length∧2^64≤worth (s.take j))∨(∃ z:Int,v= .tuple #[.int .u64 z,.iface 168 (.int .i64 2)]∧digs s=false)
theorem row_mono {w w':World}{b:Nat}{s:Str}(h:∀ j u,s[j]?=some u→w.cell? ⟨b,j,none⟩=some (.int .u8 (u.toNat:Int))) (hb:b<w.heap.size) (hB:Below w.heap.size w w'):∀ j u,s[j]?=some u→w'.cell? ⟨b,j,none⟩=some (.int .u8 (u.toNat:Int)):=fun j u hj=>(hB.cell (show b<w.heap.size from hb)).trans (h j u hj)
set_option maxHeartbeats 1000000 in
theorem parse10_walk (s:Str) (w0:World) (h0:s≠ []) (hl:s.length≤2^40):
    Calls Tryz.prog 86 #[.string (mkS s),.int .i64 10,.int .i64 64] w0 (Ret fun v w'=>PU s v∧Below w0.heap.size w0 w'):=by
 have hM:=MS0 w0
 refine enter (l:=[.string (mkS s),.int .i64 10,.int .i64 64]) 169 Tryz.func86 rfl rfl (Sq (Rg (Md 2 [0,1,2] rfl (Nx (Sq (Sq ?_))))))
 skip
 refine Rg (Mv 1 rfl ?_);intro a hF
 refine op_eqlStr hF rfl rfl rfl rfl rfl rfl ?_;clear hF a;intro a hF
 rw [show (s==([]:Str))=false from by simpa using h0] at hF
 revert a;refine Md 0 [0,1,2,19] rfl (Nx (Cf rfl (Sk (Nx (Sq (Rg (Md 3 [0,1,2,8] rfl (Nx (Sq (Rg (Md 2 [0,1,2,8,9] rfl (Nx (Sq (Bo (Sq (Rg (Md 7 [0,1,2,8,9,25] rfl (Nx (D2 rfl (fun ht=>absurd ht (by decide)) (Sk (Nb (Nx (Sq (Sq (Rg (Md 2 [0,1,2,8,9,77] rfl (Nx (C1 rfl (fun ht=>absurd ht (by decide)) (Sq (Rg (Md 6 [0,1,2,8,9,83] rfl (Nx (C1 rfl (fun ht=>absurd ht (by decide)) (Sk (Nx (Sq (Rg (Md 1 [0,1,2,8,9] rfl (Nx (Sq (Sq (Rg (Md 1 [0,1,2,8,9,85] rfl (Nx (Bo (Sq (Rg (Md 2 [0,1,2,8,9,85,90] rfl (Nx (D2 rfl (fun ht=>absurd ht (by decide)) (Rg (Md 1 [0,1,2,8,9,10] rfl (Nb (Nx (Sq (Rg (Mv 1 rfl ?_)))))))))))))))))))))))))))))))))))))))))))))))))))))))));intro a hF
 refine op_conv_to hF rfl rfl rfl rfl Tryz.underlying3 Tryz.underlying157 rfl (by decide) ?_;clear hF a;intro a hF
 refine op_shl hF rfl 64 0 rfl rfl rfl rfl rfl rfl (by decide) ?_;clear hF a;intro a hF
 refine op_bin hF rfl (v:= .int .u64 18446744073709551615) rfl rfl rfl rfl rfl rfl ?_;clear hF a;intro a hF
 revert a;refine Md 1 [0,1,8,9,10,11] rfl (Nx (Sq (Rg (Md 1 [0,1,8,9,10,11,12] rfl (Nx (Sq (Rg (Md 1 [0,1,8,9,10,11,12,13] rfl (Nx (Sq (Sq (Rg (Mv 1 rfl ?_)))))))))))));intro a hF
 refine op_strBytes hF hM rfl rfl rfl rfl rfl rfl ?_;clear hF hM a;intro a w b cap hF hM hb hrow
 revert a;refine Md 2 [1,8,9,10,11,12,13,99,100,101] rfl (Nx (Bo (Kp [1,8,9,10,11,12,13,99,100,101] rfl ?_)));intro a hF
 refine loopX (fun (i:Nat) a w=>Fr 172 [(1,.int .i64 10),(8,.bool false),(9,.string (mkS s)),(10,.int .u64 1844674407370955162),(11,.int .u64 18446744073709551615),(12,.bool false),(13,.int .u64 ((worth (s.take i):Nat):Int)),(99,.slice (some ⟨b,0,none⟩) s.length cap),(100,.int .i64 (s.length:Int)),(101,.int .i64 (i:Int))] a∧i≤s.length∧Mem w0.heap.size w0 [] w∧b<w.heap.size∧(∀ j u,s[j]?=some u→w.cell? ⟨b,j,none⟩=some (.int .u8 (u.toNat:Int)))∧Digs (s.take i)∧worth (s.take i)<2^64) (fun i=>s.length - i) (0) ?_ (fun i a w hI=> ?_)
 · exact ⟨by simpa [worth] using hF,Nat.zero_le _,hM,hb,hrow,by intro c hc;simp at hc,by simp [worth]⟩
 clear hF hM
 clear hb hrow
 obtain ⟨hF,hil,hM,hb,hrow,hdg,hw64⟩:=hI
 revert a;refine Sq (Rg (Md 1 [1,8,9,10,11,12,13,99,100,101,102] rfl (Nx (Sq (Ce rfl (fun ht=> ?_) ((fun ht=> ?_)))))))
 ·
  have hin:i=s.length:=by have:=of_decide_eq_false ht;omega
  have hun:u64 s=some (worth (s.take i)):=u64_all h0 hdg hw64 (by omega)
  refine Ex (Ot (Ot (Ob (Nx (Sq (Sq ?_))))))
  skip
  refine Rg (Md 6 [13,169] rfl (Nx (Cf rfl (Sk (Nx (Sq (Rg (Md 3 [6,7] rfl (Nx (Re ?_))))))))));intro a hF
  exact ret2 hF rfl rfl rfl ⟨_,rfl,.inl ⟨_,rfl,hun⟩,hM.below⟩
 have hi:i<s.length:=by have:=of_decide_eq_true ht;omega
 obtain ⟨c,hc⟩:∃ c,s[i]?=some c:=⟨_,List.getElem?_eq_getElem (by omega)⟩
 have hc256:=c.toNat_lt
 have hlor:(c.toNat ||| 32)<256:=Nat.or_lt_two_pow (n:=8) c.toNat_lt (by decide)
 refine Sk (Nx (Sq (Bo (Sq (Rg (Gv rfl (fun _ hF=>gives_indexAddrS (sz:=1) (i) hF rfl Tryz.underlying66 (by kernel_rfl) rfl rfl rfl hi _) ?_))))));intro a hF
 refine op_load1 hF rfl rfl rfl rfl Tryz.underlying5 rfl rfl (by rw [Nat.zero_add,Nat.mul_one];exact hrow i c hc) ?_;clear hF a;intro a hF
 revert a;refine Md 1 [1,8,9,10,11,12,13,15,99,100,101] rfl (Nx (Sq (Rg (Md 1 [1,8,9,10,11,12,13,15,99,100,101] rfl (Nx ?_)))));intro a hF
 refine cutF (fun a w=>∃ dv:Nat,Fr 172 [(1,.int .i64 10),(8,.bool false),(9,.string (mkS s)),(10,.int .u64 1844674407370955162),(11,.int .u64 18446744073709551615),(12,.bool false),(13,.int .u64 ((worth (s.take i):Nat):Int)),(16,.int .u8 (dv:Int)),(99,.slice (some ⟨b,0,none⟩) s.length cap),(100,.int .i64 (s.length:Int)),(101,.int .i64 (i:Int))] a∧Mem w0.heap.size w0 [] w∧b<w.heap.size∧(∀ j u,s[j]?=some u→w.cell? ⟨b,j,none⟩=some (.int .u8 (u.toNat:Int)))∧((isDig c=true∧dv=dg c∧dv<10)∨(digs s=false∧10≤dv∧dv<256))) (fun a w h=> ?_) ?_
 ·
  clear hF hM
  clear hb hrow
  obtain ⟨dv,hF,hM,hb,hrow,hcase⟩:=h
  revert a;refine Sq (Sq (Rg (Mv 2 rfl ?_)));intro a hF
  refine op_conv_to hF rfl rfl rfl rfl Tryz.underlying3 Tryz.underlying5 rfl (by decide) ?_;clear hF a;intro a hF
  revert a;refine Md 1 [1,8,9,10,11,12,13,16,99,100,101,137] rfl (Nx (Cd rfl (fun ht=> ?_) ((fun ht=> ?_))))
  ·
   have h10:=of_decide_eq_true ht
   have hbd:digs s=false:=by rcases hcase with ⟨_,_,h⟩ | ⟨h,_⟩;omega;exact h
   refine Sq (Rg (Gv rfl (fun _ hF=>gives_mkIface hF rfl Tryz.underlying168 rfl rfl _) (Md 2 [6,7] rfl (Nx (Re (Rt (Rb (Rt (Rt (Rb (Rt ?_)))))))))));intro a hF
   exact ret2 hF rfl rfl rfl ⟨_,rfl,.inr (.inr ⟨_,rfl,hbd⟩),hM.below⟩
  have h10:=of_decide_eq_false ht
  obtain ⟨hcd,hdv,hdv10⟩:isDig c=true∧dv=dg c∧dv<10:=by rcases hcase with h | ⟨_,h,_⟩;exact h;omega
  subst hdv
  have hnext:worth (s.take (i+1))=worth (s.take i)*10+dg c:=by rw [take_next hc,worth_snoc]
  refine Sk (Nx (Sq (Sq (Rg (Md 3 [1,8,9,10,11,12,13,16,99,100,101,141] rfl (Nx (Cd rfl (fun ht=> ?_) ((fun ht=> ?_)))))))))
  ·
   have hge:=of_decide_eq_true ht
   have hov:Digs (s.take (i+1))∧i+1≤s.length∧2^64≤worth (s.take (i+1)):=⟨hdg.next hc hcd,by omega,by rw [hnext];omega⟩
   refine Sq (Rg (Mv 1 rfl (Gv rfl (fun _ hF=>gives_mkIface hF rfl Tryz.underlying168 rfl rfl _) (Md 2 [6,7] rfl (Nx (Re (Rt (Rb (Rt (Rt (Rb (Rt ?_))))))))))));intro a hF
   exact ret2 hF rfl rfl rfl ⟨_,rfl,.inr (.inl ⟨_,_,rfl,hov⟩),hM.below⟩
  have hge:=of_decide_eq_false ht
  refine Sk (Nx (Sq (Rg (Mv 2 rfl ?_))));intro a hF
  refine op_conv_to hF rfl rfl rfl rfl Tryz.underlying3 Tryz.underlying54 rfl (by decide) ?_;clear hF a;intro a hF
  refine op_sum hF rfl (((worth (s.take i)*10:Nat):Int)) rfl rfl rfl rfl rfl rfl (by omega) (IntWalk.u64_in _ ⟨by omega,by omega⟩) ?_;clear hF a;intro a hF
  revert a;refine Md 1 [1,8,9,10,11,12,13,16,99,100,101] rfl (Nx (Sq ?_))
  rcases Nat.lt_or_ge (worth (s.take i)*10+dg c) (2^64) with hlt | hge2
  ·
   refine Rg (Mv 2 rfl ?_);intro a hF
   refine op_conv_to hF rfl rfl rfl rfl Tryz.underlying5 Tryz.underlying54 rfl (IntWalk.u64_in _ ⟨by omega,by omega⟩) ?_;clear hF a;intro a hF
   refine op_sum hF rfl (((worth (s.take i)*10+dg c:Nat):Int)) rfl rfl rfl rfl rfl rfl (by omega) (IntWalk.u64_in _ ⟨by omega,by omega⟩) ?_;clear hF a;intro a hF
   revert a;refine Md 1 [1,8,9,10,11,12,13,17,99,100,101] rfl (Nx (Sq (Sq (Rg (Mv 2 rfl (Bf rfl (by omega) (Mv 3 rfl (Bf rfl (by omega) (Md 1 [1,8,9,10,11,12,17,99,100,101,159] rfl (Nx (Cf rfl (Sk (Nx (Rg (Md 2 [1,8,9,10,11,12,13,99,100,101] rfl (Nb (Nx (Rg (Sm (((i+1:Nat):Int)) rfl (by omega) (Md 1 [1,8,9,10,11,12,13,99,100,101] rfl ?_))))))))))))))))))));intro a hF
   rw [←hnext] at hF
   exact ⟨i+1,⟨hF,by omega,hM,hb,hrow,hdg.next hc hcd,by omega⟩,by omega⟩
  have hov:Digs (s.take (i+1))∧i+1≤s.length∧2^64≤worth (s.take (i+1)):=⟨hdg.next hc hcd,by omega,by rw [hnext];omega⟩
  refine Rg (Mv 2 rfl ?_);intro a hF
  refine op_conv_to hF rfl rfl rfl rfl Tryz.underlying5 Tryz.underlying54 rfl (IntWalk.u64_in _ ⟨by omega,by omega⟩) ?_;clear hF a;intro a hF
  revert a;refine Mv 1 rfl ?_;intro a hF
  rw [show IntKind.u64.wrap (((worth (s.take i)*10:Nat):Int)+((dg c:Nat):Int))=((worth (s.take i)*10+dg c - 2^64:Nat):Int) by rw [IntKind.wrap_u64];omega] at hF
  revert a;refine Md 1 [1,8,9,10,11,12,13,17,99,100,101] rfl (Nx (Sq (Sq (Rg (Mv 2 rfl (Bt rfl (by omega) (Md 5 [1,8,9,10,11,12,17,99,100,101,159] rfl (Nx (Ct rfl (Sq (Rg (Mv 1 rfl (Gv rfl (fun _ hF=>gives_mkIface hF rfl Tryz.underlying168 rfl rfl _) (Md 2 [6,7] rfl (Nx (Re (Rt (Rb (Rt (Rt (Rb (Rt ?_))))))))))))))))))))));intro a hF
  exact ret2 hF rfl rfl rfl ⟨_,rfl,.inr (.inl ⟨_,_,rfl,hov⟩),hM.below⟩
 revert a;refine Bo (Sq ?_)
 rcases Classical.em (c=95) with h95 | h95
 ·
  refine Rg (Mv 1 rfl (Qt 95 rfl rfl h95 (Md 4 [1,8,9,10,11,12,13,15,99,100,101,106] rfl (Nx (Cf rfl (Sq ?_))))))
  rcases (show (48≤c.toNat∧c.toNat≤57)∨c.toNat<48∨(48≤c.toNat∧57<c.toNat) by omega) with ⟨h1,h2⟩ | h1 | ⟨h1,h2⟩
  ·
   have hcd:=isDig_of (c:=c) (by omega) (by omega)
   have hdgc:dg c=c.toNat - 48:=rfl
   have hcase:(isDig c=true∧dg c=dg c∧c.toNat<58)∨(isDig c=false∧10≤dg c∧dg c<256):= .inl ⟨hcd,rfl,by omega⟩
   refine Rg (Mv 1 rfl (Bt rfl (by omega) (Mv 2 rfl (Bt rfl (by omega) (Md 2 [1,8,9,10,11,12,13,15,99,100,101,112] rfl (Nx (Ct rfl (Rg (Mv 1 rfl ?_)))))))));intro a hF
   refine op_sum hF rfl (((dg c:Nat):Int)) rfl rfl rfl rfl rfl rfl (by omega) (IntWalk.u8_in _ ⟨by omega,by omega⟩) ?_;clear hF a;intro a hF
   revert a;refine Md 1 [1,8,9,10,11,12,13,16,99,100,101] rfl (Nb (Kp [1,8,9,10,11,12,13,16,99,100,101] rfl ?_));intro a hF
   exact ⟨dg c,hF,hM,hb,hrow,.inl ⟨hcd,rfl,by omega⟩⟩
  ·
   have hbd:=digs_bad hc (by first | exact isDig_lo (by omega) | exact isDig_hi (by omega))
   refine Rg (Mv 1 rfl (Bf rfl (by omega) (Md 5 [1,8,9,10,11,12,13,15,99,100,101,112] rfl (Nx (Cf rfl (Sq ?_))))))
   rcases (show (97≤(c.toNat ||| 32)∧(c.toNat ||| 32)≤122)∨(c.toNat ||| 32)<97∨(97≤(c.toNat ||| 32)∧122<(c.toNat ||| 32)) by omega) with ⟨h3,h4⟩ | h3 | ⟨h3,h4⟩
   ·
    refine Rg (Mv 1 rfl (Cm hM rfl rfl rfl (lower_walk c w) ?_))
    clear hM;intro w v hR hM hBe
    obtain rfl:=hR
    intro a hF
    replace hrow:=row_mono hrow hb hBe
    replace hb:=Nat.lt_of_lt_of_le hb hBe.size
    revert a;refine Bt rfl (by omega) (Mv 2 rfl (Cm hM rfl rfl rfl (lower_walk c w) ?_))
    clear hM;intro w v hR hM hBe
    obtain rfl:=hR
    intro a hF
    replace hrow:=row_mono hrow hb hBe
    replace hb:=Nat.lt_of_lt_of_le hb hBe.size
    revert a;refine Bt rfl (by omega) (Md 2 [1,8,9,10,11,12,13,15,99,100,101,121] rfl (Nx (Ct rfl (Rg (Mv 1 rfl (Cm hM rfl rfl rfl (lower_walk c w) ?_))))))
    clear hM;intro w v hR hM hBe
    obtain rfl:=hR
    intro a hF
    replace hrow:=row_mono hrow hb hBe
    replace hb:=Nat.lt_of_lt_of_le hb hBe.size
    refine op_sum hF rfl ((((c.toNat ||| 32) - 97:Nat):Int)) rfl rfl rfl rfl rfl rfl (by omega) (IntWalk.u8_in _ ⟨by omega,by omega⟩) ?_;clear hF a;intro a hF
    refine op_sum hF rfl ((((c.toNat ||| 32) - 87:Nat):Int)) rfl rfl rfl rfl rfl rfl (by omega) (IntWalk.u8_in _ ⟨by omega,by omega⟩) ?_;clear hF a;intro a hF
    revert a;refine Md 1 [1,8,9,10,11,12,13,16,99,100,101] rfl (Nb (Kp [1,8,9,10,11,12,13,16,99,100,101] rfl ?_));intro a hF
    exact ⟨_,hF,hM,hb,hrow,.inr ⟨hbd,by omega,by omega⟩⟩
   ·
    refine Rg (Mv 1 rfl (Cm hM rfl rfl rfl (lower_walk c w) ?_))
    clear hM;intro w v hR hM hBe
    obtain rfl:=hR
    intro a hF
    replace hrow:=row_mono hrow hb hBe
    replace hb:=Nat.lt_of_lt_of_le hb hBe.size
    revert a;refine Bf rfl (by omega) (Md 6 [1,8,9,10,11,12,13,15,99,100,101,121] rfl (Nx (Cf rfl (Sq (Rg (Gv rfl (fun _ hF=>gives_mkIface hF rfl Tryz.underlying168 rfl rfl _) (Md 2 [6,7] rfl (Nx (Re (Rb (Rt (Rb (Rt (Rt (Rb (Rt ?_))))))))))))))));intro a hF
    exact ret2 hF rfl rfl rfl ⟨_,rfl,.inr (.inr ⟨_,rfl,hbd⟩),hM.below⟩
   refine Rg (Mv 1 rfl (Cm hM rfl rfl rfl (lower_walk c w) ?_))
   clear hM;intro w v hR hM hBe
   obtain rfl:=hR
   intro a hF
   replace hrow:=row_mono hrow hb hBe
   replace hb:=Nat.lt_of_lt_of_le hb hBe.size
   revert a;refine Bt rfl (by omega) (Mv 2 rfl (Cm hM rfl rfl rfl (lower_walk c w) ?_))
   clear hM;intro w v hR hM hBe
   obtain rfl:=hR
   intro a hF
   replace hrow:=row_mono hrow hb hBe
   replace hb:=Nat.lt_of_lt_of_le hb hBe.size
   revert a;refine Bf rfl (by omega) (Md 2 [1,8,9,10,11,12,13,15,99,100,101,121] rfl (Nx (Cf rfl (Sq (Rg (Gv rfl (fun _ hF=>gives_mkIface hF rfl Tryz.underlying168 rfl rfl _) (Md 2 [6,7] rfl (Nx (Re (Rb (Rt (Rb (Rt (Rt (Rb (Rt ?_))))))))))))))));intro a hF
   exact ret2 hF rfl rfl rfl ⟨_,rfl,.inr (.inr ⟨_,rfl,hbd⟩),hM.below⟩
  have hbd:=digs_bad hc (by first | exact isDig_lo (by omega) | exact isDig_hi (by omega))
  refine Rg (Mv 1 rfl (Bt rfl (by omega) (Mv 2 rfl (Bf rfl (by omega) (Md 2 [1,8,9,10,11,12,13,15,99,100,101,112] rfl (Nx (Cf rfl (Sq ?_))))))))
  rcases (show (97≤(c.toNat ||| 32)∧(c.toNat ||| 32)≤122)∨(c.toNat ||| 32)<97∨(97≤(c.toNat ||| 32)∧122<(c.toNat ||| 32)) by omega) with ⟨h3,h4⟩ | h3 | ⟨h3,h4⟩
  ·
   refine Rg (Mv 1 rfl (Cm hM rfl rfl rfl (lower_walk c w) ?_))
   clear hM;intro w v hR hM hBe
   obtain rfl:=hR
   intro a hF
   replace hrow:=row_mono hrow hb hBe
   replace hb:=Nat.lt_of_lt_of_le hb hBe.size
   revert a;refine Bt rfl (by omega) (Mv 2 rfl (Cm hM rfl rfl rfl (lower_walk c w) ?_))
   clear hM;intro w v hR hM hBe
   obtain rfl:=hR
   intro a hF
   replace hrow:=row_mono hrow hb hBe
   replace hb:=Nat.lt_of_lt_of_le hb hBe.size
   revert a;refine Bt rfl (by omega) (Md 2 [1,8,9,10,11,12,13,15,99,100,101,121] rfl (Nx (Ct rfl (Rg (Mv 1 rfl (Cm hM rfl rfl rfl (lower_walk c w) ?_))))))
   clear hM;intro w v hR hM hBe
   obtain rfl:=hR
   intro a hF
   replace hrow:=row_mono hrow hb hBe
   replace hb:=Nat.lt_of_lt_of_le hb hBe.size
   refine op_sum hF rfl ((((c.toNat ||| 32) - 97:Nat):Int)) rfl rfl rfl rfl rfl rfl (by omega) (IntWalk.u8_in _ ⟨by omega,by omega⟩) ?_;clear hF a;intro a hF
   refine op_sum hF rfl ((((c.toNat ||| 32) - 87:Nat):Int)) rfl rfl rfl rfl rfl rfl (by omega) (IntWalk.u8_in _ ⟨by omega,by omega⟩) ?_;clear hF a;intro a hF
   revert a;refine Md 1 [1,8,9,10,11,12,13,16,99,100,101] rfl (Nb (Kp [1,8,9,10,11,12,13,16,99,100,101] rfl ?_));intro a hF
   exact ⟨_,hF,hM,hb,hrow,.inr ⟨hbd,by omega,by omega⟩⟩
  ·
   refine Rg (Mv 1 rfl (Cm hM rfl rfl rfl (lower_walk c w) ?_))
   clear hM;intro w v hR hM hBe
   obtain rfl:=hR
   intro a hF
   replace hrow:=row_mono hrow hb hBe
   replace hb:=Nat.lt_of_lt_of_le hb hBe.size
   revert a;refine Bf rfl (by omega) (Md 6 [1,8,9,10,11,12,13,15,99,100,101,121] rfl (Nx (Cf rfl (Sq (Rg (Gv rfl (fun _ hF=>gives_mkIface hF rfl Tryz.underlying168 rfl rfl _) (Md 2 [6,7] rfl (Nx (Re (Rb (Rt (Rb (Rt (Rt (Rb (Rt ?_))))))))))))))));intro a hF
   exact ret2 hF rfl rfl rfl ⟨_,rfl,.inr (.inr ⟨_,rfl,hbd⟩),hM.below⟩
  refine Rg (Mv 1 rfl (Cm hM rfl rfl rfl (lower_walk c w) ?_))
  clear hM;intro w v hR hM hBe
  obtain rfl:=hR
  intro a hF
  replace hrow:=row_mono hrow hb hBe
  replace hb:=Nat.lt_of_lt_of_le hb hBe.size
  revert a;refine Bt rfl (by omega) (Mv 2 rfl (Cm hM rfl rfl rfl (lower_walk c w) ?_))
  clear hM;intro w v hR hM hBe
  obtain rfl:=hR
  intro a hF
  replace hrow:=row_mono hrow hb hBe
  replace hb:=Nat.lt_of_lt_of_le hb hBe.size
  revert a;refine Bf rfl (by omega) (Md 2 [1,8,9,10,11,12,13,15,99,100,101,121] rfl (Nx (Cf rfl (Sq (Rg (Gv rfl (fun _ hF=>gives_mkIface hF rfl Tryz.underlying168 rfl rfl _) (Md 2 [6,7] rfl (Nx (Re (Rb (Rt (Rb (Rt (Rt (Rb (Rt ?_))))))))))))))));intro a hF
  exact ret2 hF rfl rfl rfl ⟨_,rfl,.inr (.inr ⟨_,rfl,hbd⟩),hM.below⟩
 refine Rg (Mv 1 rfl (Qf 95 rfl rfl h95 (Md 4 [1,8,9,10,11,12,13,15,99,100,101,106] rfl (Nx (Cf rfl (Sq ?_))))))
 rcases (show (48≤c.toNat∧c.toNat≤57)∨c.toNat<48∨(48≤c.toNat∧57<c.toNat) by omega) with ⟨h1,h2⟩ | h1 | ⟨h1,h2⟩
 ·
  have hcd:=isDig_of (c:=c) (by omega) (by omega)
  have hdgc:dg c=c.toNat - 48:=rfl
  have hcase:(isDig c=true∧dg c=dg c∧c.toNat<58)∨(isDig c=false∧10≤dg c∧dg c<256):= .inl ⟨hcd,rfl,by omega⟩
  refine Rg (Mv 1 rfl (Bt rfl (by omega) (Mv 2 rfl (Bt rfl (by omega) (Md 2 [1,8,9,10,11,12,13,15,99,100,101,112] rfl (Nx (Ct rfl (Rg (Mv 1 rfl ?_)))))))));intro a hF
  refine op_sum hF rfl (((dg c:Nat):Int)) rfl rfl rfl rfl rfl rfl (by omega) (IntWalk.u8_in _ ⟨by omega,by omega⟩) ?_;clear hF a;intro a hF
  revert a;refine Md 1 [1,8,9,10,11,12,13,16,99,100,101] rfl (Nb (Kp [1,8,9,10,11,12,13,16,99,100,101] rfl ?_));intro a hF
  exact ⟨dg c,hF,hM,hb,hrow,.inl ⟨hcd,rfl,by omega⟩⟩
 ·
  have hbd:=digs_bad hc (by first | exact isDig_lo (by omega) | exact isDig_hi (by omega))
  refine Rg (Mv 1 rfl (Bf rfl (by omega) (Md 5 [1,8,9,10,11,12,13,15,99,100,101,112] rfl (Nx (Cf rfl (Sq ?_))))))
  rcases (show (97≤(c.toNat ||| 32)∧(c.toNat ||| 32)≤122)∨(c.toNat ||| 32)<97∨(97≤(c.toNat ||| 32)∧122<(c.toNat ||| 32)) by omega) with ⟨h3,h4⟩ | h3 | ⟨h3,h4⟩
  ·
   refine Rg (Mv 1 rfl (Cm hM rfl rfl rfl (lower_walk c w) ?_))
   clear hM;intro w v hR hM hBe
   obtain rfl:=hR
   intro a hF
   replace hrow:=row_mono hrow hb hBe
   replace hb:=Nat.lt_of_lt_of_le hb hBe.size
   revert a;refine Bt rfl (by omega) (Mv 2 rfl (Cm hM rfl rfl rfl (lower_walk c w) ?_))
   clear hM;intro w v hR hM hBe
   obtain rfl:=hR
   intro a hF
   replace hrow:=row_mono hrow hb hBe
   replace hb:=Nat.lt_of_lt_of_le hb hBe.size
   revert a;refine Bt rfl (by omega) (Md 2 [1,8,9,10,11,12,13,15,99,100,101,121] rfl (Nx (Ct rfl (Rg (Mv 1 rfl (Cm hM rfl rfl rfl (lower_walk c w) ?_))))))
   clear hM;intro w v hR hM hBe
   obtain rfl:=hR
   intro a hF
   replace hrow:=row_mono hrow hb hBe
   replace hb:=Nat.lt_of_lt_of_le hb hBe.size
   refine op_sum hF rfl ((((c.toNat ||| 32) - 97:Nat):Int)) rfl rfl rfl rfl rfl rfl (by omega) (IntWalk.u8_in _ ⟨by omega,by omega⟩) ?_;clear hF a;intro a hF
   refine op_sum hF rfl ((((c.toNat ||| 32) - 87:Nat):Int)) rfl rfl rfl rfl rfl rfl (by omega) (IntWalk.u8_in _ ⟨by omega,by omega⟩) ?_;clear hF a;intro a hF
   revert a;refine Md 1 [1,8,9,10,11,12,13,16,99,100,101] rfl (Nb (Kp [1,8,9,10,11,12,13,16,99,100,101] rfl ?_));intro a hF
   exact ⟨_,hF,hM,hb,hrow,.inr ⟨hbd,by omega,by omega⟩⟩
  ·
   refine Rg (Mv 1 rfl (Cm hM rfl rfl rfl (lower_walk c w) ?_))
   clear hM;intro w v hR hM hBe
   obtain rfl:=hR
   intro a hF
   replace hrow:=row_mono hrow hb hBe
   replace hb:=Nat.lt_of_lt_of_le hb hBe.size
   revert a;refine Bf rfl (by omega) (Md 6 [1,8,9,10,11,12,13,15,99,100,101,121] rfl (Nx (Cf rfl (Sq (Rg (Gv rfl (fun _ hF=>gives_mkIface hF rfl Tryz.underlying168 rfl rfl _) (Md 2 [6,7] rfl (Nx (Re (Rb (Rt (Rb (Rt (Rt (Rb (Rt ?_))))))))))))))));intro a hF
   exact ret2 hF rfl rfl rfl ⟨_,rfl,.inr (.inr ⟨_,rfl,hbd⟩),hM.below⟩
  refine Rg (Mv 1 rfl (Cm hM rfl rfl rfl (lower_walk c w) ?_))
  clear hM;intro w v hR hM hBe
  obtain rfl:=hR
  intro a hF
  replace hrow:=row_mono hrow hb hBe
  replace hb:=Nat.lt_of_lt_of_le hb hBe.size
  revert a;refine Bt rfl (by omega) (Mv 2 rfl (Cm hM rfl rfl rfl (lower_walk c w) ?_))
  clear hM;intro w v hR hM hBe
  obtain rfl:=hR
  intro a hF
  replace hrow:=row_mono hrow hb hBe
  replace hb:=Nat.lt_of_lt_of_le hb hBe.size
  revert a;refine Bf rfl (by omega) (Md 2 [1,8,9,10,11,12,13,15,99,100,101,121] rfl (Nx (Cf rfl (Sq (Rg (Gv rfl (fun _ hF=>gives_mkIface hF rfl Tryz.underlying168 rfl rfl _) (Md 2 [6,7] rfl (Nx (Re (Rb (Rt (Rb (Rt (Rt (Rb (Rt ?_))))))))))))))));intro a hF
  exact ret2 hF rfl rfl rfl ⟨_,rfl,.inr (.inr ⟨_,rfl,hbd⟩),hM.below⟩
 have hbd:=digs_bad hc (by first | exact isDig_lo (by omega) | exact isDig_hi (by omega))
 refine Rg (Mv 1 rfl (Bt rfl (by omega) (Mv 2 rfl (Bf rfl (by omega) (Md 2 [1,8,9,10,11,12,13,15,99,100,101,112] rfl (Nx (Cf rfl (Sq ?_))))))))
 rcases (show (97≤(c.toNat ||| 32)∧(c.toNat ||| 32)≤122)∨(c.toNat ||| 32)<97∨(97≤(c.toNat ||| 32)∧122<(c.toNat ||| 32)) by omega) with ⟨h3,h4⟩ | h3 | ⟨h3,h4⟩
 ·
  refine Rg (Mv 1 rfl (Cm hM rfl rfl rfl (lower_walk c w) ?_))
  clear hM;intro w v hR hM hBe
  obtain rfl:=hR
  intro a hF
  replace hrow:=row_mono hrow hb hBe
  replace hb:=Nat.lt_of_lt_of_le hb hBe.size
  revert a;refine Bt rfl (by omega) (Mv 2 rfl (Cm hM rfl rfl rfl (lower_walk c w) ?_))
  clear hM;intro w v hR hM hBe
  obtain rfl:=hR
  intro a hF
  replace hrow:=row_mono hrow hb hBe
  replace hb:=Nat.lt_of_lt_of_le hb hBe.size
  revert a;refine Bt rfl (by omega) (Md 2 [1,8,9,10,11,12,13,15,99,100,101,121] rfl (Nx (Ct rfl (Rg (Mv 1 rfl (Cm hM rfl rfl rfl (lower_walk c w) ?_))))))
  clear hM;intro w v hR hM hBe
  obtain rfl:=hR
  intro a hF
  replace hrow:=row_mono hrow hb hBe
  replace hb:=Nat.lt_of_lt_of_le hb hBe.size
  refine op_sum hF rfl ((((c.toNat ||| 32) - 97:Nat):Int)) rfl rfl rfl rfl rfl rfl (by omega) (IntWalk.u8_in _ ⟨by omega,by omega⟩) ?_;clear hF a;intro a hF
  refine op_sum hF rfl ((((c.toNat ||| 32) - 87:Nat):Int)) rfl rfl rfl rfl rfl rfl (by omega) (IntWalk.u8_in _ ⟨by omega,by omega⟩) ?_;clear hF a;intro a hF
  revert a;refine Md 1 [1,8,9,10,11,12,13,16,99,100,101] rfl (Nb (Kp [1,8,9,10,11,12,13,16,99,100,101] rfl ?_));intro a hF
  exact ⟨_,hF,hM,hb,hrow,.inr ⟨hbd,by omega,by omega⟩⟩
 ·
  refine Rg (Mv 1 rfl (Cm hM rfl rfl rfl (lower_walk c w) ?_))
  clear hM;intro w v hR hM hBe
  obtain rfl:=hR
  intro a hF
  replace hrow:=row_mono hrow hb hBe
  replace hb:=Nat.lt_of_lt_of_le hb hBe.size
  revert a;refine Bf rfl (by omega) (Md 6 [1,8,9,10,11,12,13,15,99,100,101,121] rfl (Nx (Cf rfl (Sq (Rg (Gv rfl (fun _ hF=>gives_mkIface hF rfl Tryz.underlying168 rfl rfl _) (Md 2 [6,7] rfl (Nx (Re (Rb (Rt (Rb (Rt (Rt (Rb (Rt ?_))))))))))))))));intro a hF
  exact ret2 hF rfl rfl rfl ⟨_,rfl,.inr (.inr ⟨_,rfl,hbd⟩),hM.below⟩
 refine Rg (Mv 1 rfl (Cm hM rfl rfl rfl (lower_walk c w) ?_))
 clear hM;intro w v hR hM hBe
 obtain rfl:=hR
 intro a hF
 replace hrow:=row_mono hrow hb hBe
 replace hb:=Nat.lt_of_lt_of_le hb hBe.size
 revert a;refine Bt rfl (by omega) (Mv 2 rfl (Cm hM rfl rfl rfl (lower_walk c w) ?_))
 clear hM;intro w v hR hM hBe
 obtain rfl:=hR
 intro a hF
 replace hrow:=row_mono hrow hb hBe
 replace hb:=Nat.lt_of_lt_of_le hb hBe.size
 revert a;refine Bf rfl (by omega) (Md 2 [1,8,9,10,11,12,13,15,99,100,101,121] rfl (Nx (Cf rfl (Sq (Rg (Gv rfl (fun _ hF=>gives_mkIface hF rfl Tryz.underlying168 rfl rfl _) (Md 2 [6,7] rfl (Nx (Re (Rb (Rt (Rb (Rt (Rt (Rb (Rt ?_))))))))))))))));intro a hF
 exact ret2 hF rfl rfl rfl ⟨_,rfl,.inr (.inr ⟨_,rfl,hbd⟩),hM.below⟩
theorem PU.parts {s:Str}{v:Value}(h:PU s v):∃ (z:Int) (e:Value),v= .tuple #[.int .u64 z,e]∧((e= .nilIface∧∃ n,u64 s=some n)∨(∃ k:Int,e= .iface 168 (.int .i64 k)∧(k=1∨k=2)∧(k=1→∃ j,Digs (s.take j)∧j≤s.length∧2^64≤worth (s.take j))∧(k=2→digs s=false))):=by
  rcases h with ⟨n,h,hu⟩ | ⟨z,j,h,h1,h2,h3⟩ | ⟨z,h,hb⟩
  · exact ⟨_,_,h,.inl ⟨rfl,n,hu⟩⟩
  · exact ⟨_,_,h,.inr ⟨1,rfl,.inl rfl,fun _=>⟨j,h1,h2,h3⟩,fun h=>absurd h (by decide)⟩⟩
  · exact ⟨_,_,h,.inr ⟨2,rfl,.inr rfl,fun h=>absurd h (by decide),fun _=>hb⟩⟩
def PV (ea:Nat→Addr) (s:Str) (w0:World) (v:Value) (w':World):Prop:=∃ (z:Int) (e:Value) (L:List Bk),v= .tuple #[.int .u64 z,e]∧Mem w0.heap.size w0 L w'∧((e= .nilIface∧∃ n,u64 s=some n)∨
  (∃ (b:Nat) (x y:Value) (k:Nat),e= .iface 99 (.pointer (some ⟨b,0,none⟩))∧L=[(b,102,[x,y,EV (ea k)])]∧(k=10∨k=11)∧(k=10→∃ j,Digs (s.take j)∧j≤s.length∧2^64≤worth (s.take j))∧(k=11→digs s=false)))
theorem parseU_walk {ea:Nat→Addr}(s:Str) (w0:World) (hJ:JB ea w0.heap.size w0) (h0:s≠ []) (hl:s.length≤2^40):
    Calls Tryz.prog 62 #[.string (mkS s),.int .i64 10,.int .i64 64] w0 (Ret fun v w'=>PV ea s w0 v w'):=by
 have hM:=MS0 w0
 refine enter (l:=[.string (mkS s),.int .i64 10,.int .i64 64]) 23 Tryz.func62 rfl rfl (Sq (Rg (Md 2 [0,1,2] rfl (Nx (Sq (Rg (Mv 3 rfl (Cm hM rfl rfl rfl (parse10_walk s w0 h0 hl) ?_))))))))
 clear hM;intro w v hR hM hBe
 obtain ⟨z,e,rfl,hcs⟩:=hR.parts
 refine Md 5 [0,1,2,8,9] rfl (Nx (Sq (Sq ?_)))
 rcases hcs with ⟨rfl,hun⟩ | ⟨k,rfl,hk,hk1,hk2⟩
 · exact Rg (Mv 1 rfl (Gv rfl (fun _ hF=>gives_isNil hF (.inr rfl) rfl rfl ⟨_,Tryz.underlying63⟩ false rfl) (Md 0 [0,1,2,8,9,18] rfl (Nx (Cf rfl (Sk (Nx (Sq (Rg (Md 3 [6,7] rfl (Nx (Re (Y2 rfl rfl rfl ⟨_,rfl,_,_,_,rfl,hM,.inl ⟨rfl,hun⟩⟩)))))))))))))
 refine Rg (Mv 1 rfl (Gv rfl (fun _ hF=>gives_isErr (u:=168) (v:= .int .i64 k) hF (.inr rfl) rfl rfl ⟨_,Tryz.underlying63⟩ true rfl) (Md 0 [0,1,2,8,9,18] rfl (Nx (Ct rfl (Sq (Rg (Mv 5 rfl ?_))))))));intro a hF
 refine op_call hF rfl rfl rfl rfl Tryz.func87 (by kernel_rfl) rfl rfl (toError2_walk _ s (by omega) _ _ k hk _ (hJ.mem hM)) ?_
 clear hF a;intro a w' v hR hF
 obtain ⟨ad,rfl,hM2⟩:=hR
 revert a;refine Md 2 [6,7] rfl (Nx (Re (Rt ?_)));intro a hF
 refine ret2 hF rfl rfl rfl ⟨_,rfl,_,_,_,rfl,hM.join hM2,.inr ⟨_,_,_,_,rfl,rfl,?_,?_,?_⟩⟩
 · split <;> simp
 · intro h;exact hk1 (by rcases hk with h1 | h1;exact h1;rw [h1] at h;exact absurd h (by decide))
 · intro h;exact hk2 (by rcases hk with h1 | h1;rw [h1] at h;exact absurd h (by decide);exact h1)
theorem num_neg0 {r:Str}(h:IsNum (45::r)) (hd:Digs r) (h0:r≠ []) (hw:worth r=0):r=[48]:=by
  obtain ⟨c,t,rfl⟩:∃ c t,r=c::t:=by cases r with | nil=>exact absurd rfl h0 | cons c t=>exact ⟨c,t,rfl⟩
  have z:∀ {c:UInt8}{t:Str},Digs (c::t)→worth (c::t)=0→c=48∧worth t=0:=by
    intro c t hd hw
    rw [worth] at hw
    have h1:=dig_rng hd.head
    have h2:0<10^t.length:=Nat.pow_pos (by decide)
    have h3:dg c=0:=by
      rcases Nat.eq_zero_or_pos (dg c) with h | h
      · exact h
      · have:=Nat.mul_pos h h2;omega
    unfold dg at h3
    exact ⟨UInt8.toNat_inj.1 (by rw [show (48:UInt8).toNat=48 from rfl];omega),by omega⟩
  obtain ⟨rfl,hw1⟩:=z hd hw
  cases t with
  | nil=>rfl
  | cons d t =>
    obtain ⟨rfl,_⟩:=z hd.tail hw1
    exfalso
    have e:pNum (45::48::48::t)=pFrac (48::t):=rfl
    have e2:pFrac (48::t)=pExp (48::t):=rfl
    have e3:=pExp_none (s:=48::t) (by simp) (by simp)
    unfold IsNum at h
    rw [e,e2,e3] at h
    cases h
theorem wu_zero {x:Str}{n:Nat}(h:u64 x=some n):0=wantU x:=by unfold wantU;rw [h];rfl
theorem u64_nd {x:Str}(h:digs x=false):u64 x=none:=by
  unfold u64
  rw [if_neg]
  rintro ⟨h1,h2,_⟩
  rw [digs_of h2 h1] at h
  cases h
theorem jd_pos {x:Str}(h:x.head?≠some 45):jdec x=digs x:=(Sg.pos h).jd
theorem dig_45 {r:Str}:digs (45::r)=false:=by unfold digs;rw [Bool.and_eq_false_iff];exact .inl (by simp [isDig])
theorem head_45 {x:Str}(h:x.head?=some 45):∃ r,x=45::r:=by
  cases x with
  | nil=>cases h
  | cons c r=>exact ⟨r,by rw [Option.some.inj h]⟩
theorem wu_seven {x:Str}(h:digs x=false):7=wantU x:=by
  unfold wantU
  rw [u64_nd h,if_neg (by simp),if_neg]
  rintro ⟨_,h2,h3⟩
  rw [jd_pos h2,h] at h3
  cases h3
theorem wu_neg {x:Str}(h:x.head?=some 45):7=wantU x:=by
  obtain ⟨r,rfl⟩:=head_45 h
  exact wu_seven dig_45
theorem wu_eight {x:Str}(h0:x≠ []) (hc:jdec x=true∨leadN x≤18) {j:Nat}(hd:Digs (x.take j)) (hj:j≤x.length) (hw:2^64≤worth (x.take j)):8=wantU x:=by
  have h20:18<j:=by
    rcases Nat.lt_or_ge 18 j with h | h
    · exact h
    · exfalso
      have h3:=worth_lt hd
      have h5:=Nat.pow_le_pow_right (show 0<10 by decide) (show (x.take j).length≤18 by rw [List.length_take];omega)
      omega
  have hjd:jdec x=true:=by
    rcases hc with h | h
    · exact h
    · have:=lead_ge hd hj;omega
  have h45:x.head?≠some 45:=by
    intro h
    obtain ⟨r,rfl⟩:=head_45 h
    obtain ⟨k,rfl⟩:∃ k,j=k+1:=⟨j - 1,by omega⟩
    rw [List.take_succ_cons] at hd
    exact absurd hd.head (by decide)
  unfold wantU
  rw [u64_big j hw,if_neg (by simp),if_pos ⟨h0,h45,hjd⟩]
theorem wu_low {x:Str}(hc:jdec x=true∨leadN x≤18) {z:Int}{ov:Bool}(hp:PIok x z true ov) (hz:z<0):7=wantU x:=by
  have hj:jdec x=true:=by
    rcases h:jdec x with _ | _
    · rcases hc with h1 | h1
      · rw [h] at h1;cases h1
      · exact absurd (hp.2 h h1).1 (by decide)
    · rfl
  have hv:=(hp.1 hj).2.2 rfl
  refine wu_neg ?_
  by_cases h:x.head?=some 45
  · exact h
  · rw [if_neg h] at hv;omega
theorem wu_fit {x:Str}(hx:x≠ [45,48]) (hn:IsNum x) (hc:jdec x=true∨leadN x≤18) {z:Int}{ov:Bool}(hp:PIok x z true ov) (hz: ¬ z<0):0=wantU x:=by
  have hj:jdec x=true:=by
    rcases h:jdec x with _ | _
    · rcases hc with h1 | h1
      · rw [h] at h1;cases h1
      · exact absurd (hp.2 h h1).1 (by decide)
    · rfl
  have hv:=(hp.1 hj).2.2 rfl
  have hok:=(hp.1 hj).1
  by_cases h:x.head?=some 45
  · exfalso
    obtain ⟨r,rfl⟩:=head_45 h
    rw [if_pos h] at hv
    have hd:=digs_inv (show digs r=true from hj)
    have hr:=num_neg0 hn hd.1 hd.2 (by simp only [List.drop_succ_cons,List.drop_zero] at hv;omega)
    exact hx (by rw [hr])
  · rw [(Sg.pos h).ok] at hok
    rcases hu:u64 x with _ | m
    · rw [hu] at hok;cases hok
    · exact wu_zero hu
theorem gives_typeAssert {P:Program}{n:Nat}{K:List (Nat×Value)}{a:Act}{o:Oper}{x:Operand}{t t' e:TypeId}{v:Value}(hF:Fr n K a) (hop:o.op= .typeAssert x t' t true) (hT:P.underlying t=some (.pointer e)) (hx:ev K x=some (.iface t v)) (w:World):(execOp a.eval o).run P w= .ok (.value (.tuple #[v,.bool true])) w:=by
  simp only [execOp,hop,hF.ev hx]
  simp [Instr.typeAssert,run_underlying hT]
theorem getUint_walk {ea:Nat→Addr}{b o cp kc:Nat}{ad:Option Addr}{D x:Str}{n:Nd}{ks:List Str}(w0:World) (hJ:JB ea w0.heap.size w0) (hL:Leaf D ks x n) (hl:D.length≤2^38) (hcp:D.length≤cp) (hD:Bts w0 b o D) (hk:Kys w0 ad kc ks):
    Calls Tryz.prog 36 #[.slice (some ⟨b,o,none⟩) D.length cp,.slice ad ks.length kc] w0 (Ret fun v w'=>NOut ea w0 n (fun c=>x≠ [45,48]→jdec x=true∨leadN x≤18→c=wantU x) v w'):=by
 have hM:=MS0 w0
 refine enter (l:=[.slice (some ⟨b,o,none⟩) D.length cp,.slice ad ks.length kc]) 71 Tryz.func36 rfl rfl (Sq (Rg (Md 2 [0,1] rfl (Nx (Sq (Rg (Mv 2 rfl (Cm hM rfl rfl rfl (iget_walk _ hJ hL hl hcp hD hk) ?_))))))))
 clear hM;intro w v hR hM hBe
 obtain ⟨a2,s2,e2,rfl,hB2⟩:=hR
 refine Md 11 [6,7,10] rfl (Nx (Sq (Sq (Rg (Mv 1 rfl (Gv rfl (fun _ hF=>gives_isNil hF (.inr rfl) rfl rfl ⟨_,Tryz.underlying63⟩ false rfl) (Md 0 [6,7,10,28] rfl (Nx (Cf rfl (Sk (Nx (Sq (Sq (Rg (Md 2 [6,7,31] rfl (Nx (Cd rfl (fun ht=> ?_) ((fun ht=> ?_)))))))))))))))))))
 ·
  have hn:jk (knd n)≠2:=by rintro h;rw [h] at ht;exact absurd ht (by decide)
  refine Sq (Sq (Rg (Md 2 [33] rfl (Nx (Cd rfl (fun ht=> ?_) ((fun ht=> ?_)))))))
  ·
   have hz:jk (knd n)=6:=by have:=ht;simp at this;omega
   refine Sq (Sl (by kernel_rfl) (by kernel_rfl) ?_)
   replace hM:=hM.drew
   skip
   refine Gs rfl (fun _ hF=>gives_load1 hF rfl Tryz.underlying63 rfl rfl (((hJ.mem hM).errs 0 (by omega)).1)) (Ms 2 rfl (Sd (Kp [4,5] rfl (Nx (Re (Rt (Rt ?_)))))));intro a hF
   exact ret2 hF rfl rfl rfl ⟨_,rfl,10,gout_ev hJ (by omega) _ hM.below _ rfl,(fun _=>by rw [if_pos hz]),fun h=>absurd h hn⟩
  have hz:jk (knd n)≠6:=by rintro h;rw [h] at ht;exact absurd ht (by decide)
  refine Sk (Nx (Sq (Rg ?_)));intro a hF
  refine op_call hF rfl rfl rfl rfl Tryz.func57 (by kernel_rfl) rfl rfl (errNew_walk _ _) ?_
  clear hF a;intro a w' v hR hF
  obtain ⟨ke,rfl,hMe⟩:=hR
  replace hM:=Mem.join hM hMe
  revert a;refine Md 2 [4,5] rfl (Nx (Re (Rt ?_)));intro a hF
  exact ret2 hF rfl rfl rfl ⟨_,rfl,11,gout_new (wm:=w0) hJ _ hM (List.mem_cons_self ..),(fun _=>by rw [if_neg hz]),fun h=>absurd h hn⟩
 have hn:jk (knd n)=2:=by have:=ht;simp at this;omega
 obtain ⟨hrx,hx0,hnm⟩:=leaf_num hL hn
 intro a hF
 rw [hrx] at hF hB2
 revert a;refine Sk (Nx (Sq (Sq (Rg (Mv 1 rfl (Cm hM rfl rfl rfl (parseInt_walk _ hx0 (by have:=leaf_len hL;omega) (Nat.le_refl _) (hB2.below hM.below)) ?_))))))
 clear hM;intro w v hR hM hBe
 obtain ⟨z,ok,ov,rfl,hpi⟩:=hR
 refine Md 7 [6,11,12] rfl (Nx (Sq ?_))
 rcases ok with _ | _
 ·
  refine Rg (Md 1 [6,11,42] rfl (Nx (Cf rfl (Sk (Nx (Sq (Rg (Mv 1 rfl (Gv rfl (fun _ hF=>gives_bytesStrB x hF rfl rfl rfl (hB2.below hM.below)) (Cl rfl rfl rfl (parseU_walk x _ (hJ.mem hM) hx0 (by have:=leaf_len hL;omega)) ?_))))))))))
  intro w2 v hR
  obtain ⟨z2,e9,L9,rfl,hM9,hcs⟩:=hR
  replace hM:=Mem.join hM hM9;clear hM9
  refine Md 5 [14,15] rfl (Nx (Sq (Sq ?_)))
  rcases hcs with ⟨h9,n9,hun⟩ | ⟨b9,x9,y9,kk,h9,hL9,hk,hkA,hkB⟩
  ·
   obtain rfl:=h9
   refine Rg (Mv 1 rfl (Gv rfl (fun _ hF=>gives_isNil hF (.inl rfl) rfl rfl ⟨_,Tryz.underlying63⟩ true rfl) (Md 0 [14,15,55] rfl (Nx (Ct rfl (Sq (Rg (Md 3 [4,5] rfl (Nx (Re (Rt ?_)))))))))));intro a hF
   exact ret2 hF rfl rfl rfl ⟨_,rfl,0,gout_nil _ hM.below,(fun h=>absurd hn h),fun _ hxn hcc=>wu_zero hun⟩
  subst h9;subst hL9
  have hk12:kk<12:=by rcases hk with h | h <;> rw [h] <;> decide
  refine Rg (Mv 1 rfl (Gv rfl (fun _ hF=>gives_isErr (u:=99) (v:= .pointer (some ⟨b9,0,none⟩)) hF (.inl rfl) rfl rfl ⟨_,Tryz.underlying63⟩ false rfl) (Md 0 [14,15,55] rfl (Nx (Cf rfl (Sk (Nx (Sq (Sq (Rg (Mv 1 rfl (Gv rfl (fun _ hF=>gives_typeAssert hF rfl Tryz.underlying99 rfl _) (Md 5 [16,17] rfl (Nx (Sq (Sl (by kernel_rfl) (by kernel_rfl) ?_))))))))))))))))
  replace hM:=hM.drew
  skip
  refine Ms 5 rfl (Ls hM 0 rfl rfl (Gs rfl (fun _ hF=>gives_load1 hF rfl Tryz.underlying63 rfl rfl (((hJ.mem hM).errs 10 (by omega)).1)) (Gs rfl (fun _ hF=>gives_eqEV hF rfl rfl rfl ((hJ.mem hM).cel kk hk12) ((hJ.mem hM).cel 10 (by omega))) (Ms 1 rfl (Sd (Kp [70] rfl (Nx (Cd rfl (fun ht=> ?_) ((fun ht=> ?_))))))))))
  ·
   have hk10:kk=10:=by rcases hk with h | h;exact h;subst h;exact absurd (of_decide_eq_true ht) (hJ.apart 11 10 (by omega) (by omega) (by omega))
   obtain ⟨j,hov1,hov2,hov3⟩:=hkA hk10
   refine Sq (Sl (by kernel_rfl) (by kernel_rfl) ?_)
   replace hM:=hM.drew
   skip
   refine Gs rfl (fun _ hF=>gives_load1 hF rfl Tryz.underlying63 rfl rfl (((hJ.mem hM).errs 8 (by omega)).1)) (Ms 2 rfl (Sd (Kp [4,5] rfl (Nx (Re (Rt ?_))))));intro a hF
   exact ret2 hF rfl rfl rfl ⟨_,rfl,8,gout_ev hJ (by omega) _ hM.below _ rfl,(fun h=>absurd hn h),fun _ hxn hcc=>wu_eight hx0 hcc hov1 hov2 hov3⟩
  have hk11:kk=11:=by rcases hk with h | h;subst h;exact absurd rfl (of_decide_eq_false ht);exact h
  have hdf:=hkB hk11
  refine Sk (Nx (Sq (Sl (by kernel_rfl) (by kernel_rfl) ?_)))
  replace hM:=hM.drew
  skip
  refine Gs rfl (fun _ hF=>gives_load1 hF rfl Tryz.underlying63 rfl rfl (((hJ.mem hM).errs 7 (by omega)).1)) (Ms 2 rfl (Sd (Kp [4,5] rfl (Nx (Re ?_)))));intro a hF
  exact ret2 hF rfl rfl rfl ⟨_,rfl,7,gout_ev hJ (by omega) _ hM.below _ rfl,(fun h=>absurd hn h),fun _ hxn hcc=>wu_seven hdf⟩
 refine Rg (Md 1 [6,11,42] rfl (Nx (Ct rfl (Sq (Sq (Rg (Md 2 [11,44] rfl (Nx (Cd rfl (fun ht=> ?_) ((fun ht=> ?_)))))))))))
 ·
  have hzn:=of_decide_eq_true ht
  refine Sq (Sl (by kernel_rfl) (by kernel_rfl) ?_)
  replace hM:=hM.drew
  skip
  refine Gs rfl (fun _ hF=>gives_load1 hF rfl Tryz.underlying63 rfl rfl (((hJ.mem hM).errs 7 (by omega)).1)) (Ms 2 rfl (Sd (Kp [4,5] rfl (Nx (Re (Rt (Rt ?_)))))));intro a hF
  exact ret2 hF rfl rfl rfl ⟨_,rfl,7,gout_ev hJ (by omega) _ hM.below _ rfl,(fun h=>absurd hn h),fun _ hxn hcc=>wu_low hcc hpi hzn⟩
 have hzn:=of_decide_eq_false ht
 refine Sk (Nx (Sq (Rg (Mv 1 rfl (Gv rfl (fun _ hF=>gives_conv hF rfl Tryz.underlying2 Tryz.underlying54 rfl _ rfl _) (Md 2 [4,5] rfl (Nx (Re (Rt ?_)))))))));intro a hF
 exact ret2 hF rfl rfl rfl ⟨_,rfl,0,gout_nil _ hM.below,(fun h=>absurd hn h),fun _ hxn hcc=>wu_fit hxn hnm hcc hpi hzn⟩
theorem unesc_walk {ea:Nat→Addr}{b o cp b2 ol c2:Nat}{tb:TypeId}{D:Str}{vs0:List Value}{wc w0:World}{L:List Bk}(hJ:JB ea wc.heap.size wc) (hi:Ins D) (hl:D.length≤2^38) (hcp:D.length≤cp) (hD:Bts wc b o D) (hc2:c2≤vs0.length) (hvl:vs0.length≤2^38)
    (hM0:Mem wc.heap.size wc ((b2,tb,vs0)::L) w0):
    Calls Tryz.prog 89 #[.slice (some ⟨b,o,none⟩) D.length cp,.slice (some ⟨b2,0,none⟩) ol c2] w0 (Ret fun v w'=>∃ v1 N vs',v= .tuple #[v1,.nilIface]∧Mem wc.heap.size wc (N++(b2,tb,vs')::L) w'∧vs'.length=vs0.length∧LyB wc (N++ [(b2,tb,vs')]) v1 (unq D)):=by
 have hM:=hM0
 refine enter (l:=[.slice (some ⟨b,o,none⟩) D.length cp,.slice (some ⟨b2,0,none⟩) ol c2]) 10 Tryz.func89 rfl rfl (Sq (Rg (Md 2 [0,1] rfl (Nx (Sq (Rg (Gv rfl (fun _ hF=>gives_loadMid hF rfl rfl Tryz.underlying125 rfl (by kernel_rfl) (hJ.mem hM).cfg) (Mv 2 rfl (Cl rfl rfl rfl (unescape_walk hJ hi hl hcp hD hc2 hvl hM) ?_)))))))))
 clear hM;intro w v hR
 obtain ⟨v1,N,vs',rfl,hM,hvs,hLy⟩:=hR
 exact Md 4 [4,5] rfl (Nx (Re (Y2 rfl rfl rfl ⟨_,rfl,v1,N,vs',rfl,hM,hvs,hLy⟩)))
theorem parseStr_walk {ea:Nat→Addr}{b o cp:Nat}{D:Str}(w0:World) (hJ:JB ea w0.heap.size w0) (hi:Ins D) (hl:D.length≤2^38) (hcp:D.length≤cp) (hD:Bts w0 b o D):
    Calls Tryz.prog 65 #[.slice (some ⟨b,o,none⟩) D.length cp] w0 (Ret fun v w'=>(∃ s:Str,v= .tuple #[.string (mkS s),.nilIface])∧Below w0.heap.size w0 w'):=by
 have hM:=MS0 w0
 refine enter (l:=[.slice (some ⟨b,o,none⟩) D.length cp]) 17 Tryz.func65 rfl rfl (Sq (Rg (Md 2 [0] rfl (Nx (Sq (Rg ?_))))));intro a hF
 refine op_alloc hF hM rfl (vs:=List.replicate 64 (.int .u8 0)) rfl rfl rfl (by kernel_rfl) ?_;clear hF hM a;intro a w b4 hF hM
 revert a;refine Md 0 [0,4] rfl (Nx (Sq (Rg (Mv 1 rfl (Gv rfl (fun _ hF=>gives_sliceAll hF rfl Tryz.underlying127 (by kernel_rfl) rfl _) (Cl rfl rfl rfl (unesc_walk hJ hi hl hcp hD (by rw [List.length_replicate];omega) (by rw [List.length_replicate];omega) hM) ?_))))))
 clear hM;intro w v hR
 obtain ⟨v1,N,vs',rfl,hM,hvs,hLy⟩:=hR
 obtain ⟨b9,o9,c9,rfl,hB9⟩:=hLy.bts hM (by simp)
 exact Md 5 [5,6] rfl (Nx (Sq (Rg (Mv 1 rfl (Gv rfl (fun _ hF=>gives_isNil hF (.inr rfl) rfl rfl ⟨_,Tryz.underlying63⟩ false rfl) (Md 0 [5,14] rfl (Nx (Cf rfl (Sq (Rg (Mv 1 rfl (Gv rfl (fun _ hF=>gives_bytesStrB (unq D) hF rfl rfl rfl hB9) (Md 2 [2,3] rfl (Nx (Re (Y2 rfl rfl rfl ⟨_,rfl,⟨_,rfl⟩,hM.below⟩))))))))))))))))
theorem leaf_str {D x:Str}{ks:List Str}{n:Nd}(h:Leaf D ks x n) (hn:jk (knd n)=1):Ins (rawx n x):=by
  have h4:=(jk_one _).1 hn
  rcases gt_cases h.shows with ⟨i,h1,h2,_⟩ | ⟨h5,_⟩ | ⟨h5,_⟩ | ⟨_,h5⟩ | ⟨_,h5⟩ | ⟨_,h5⟩ | ⟨h5,_⟩
  · have e:rawx n x=i:=by rw [rawx_str h4,h1];simp
    rw [e];exact h2
  all_goals omega
theorem getStr_walk {ea:Nat→Addr}{b o cp kc:Nat}{ad:Option Addr}{D x:Str}{n:Nd}{ks:List Str}(w0:World) (hJ:JB ea w0.heap.size w0) (hL:Leaf D ks x n) (hl:D.length≤2^38) (hcp:D.length≤cp) (hD:Bts w0 b o D) (hk:Kys w0 ad kc ks):
    Calls Tryz.prog 38 #[.slice (some ⟨b,o,none⟩) D.length cp,.slice ad ks.length kc] w0 (Ret fun v w'=>GOut ea w0 (if jk (knd n)=1 then 0 else if jk (knd n)=6 then 10 else 11) v w'):=by
 have hM:=MS0 w0
 refine enter (l:=[.slice (some ⟨b,o,none⟩) D.length cp,.slice ad ks.length kc]) 34 Tryz.func38 rfl rfl (Sq (Rg (Md 2 [0,1] rfl (Nx (Sq (Rg (Mv 2 rfl (Cm hM rfl rfl rfl (get_walk _ hJ hL hl hcp hD hk) ?_))))))))
 clear hM;intro w v hR hM hBe
 obtain ⟨a2,s2,rfl,hB2⟩:=hR
 refine Md 9 [6,7,9] rfl (Nx (Sq (Sq (Rg (Mv 1 rfl (Gv rfl (fun _ hF=>gives_isNil hF (.inr rfl) rfl rfl ⟨_,Tryz.underlying63⟩ false rfl) (Md 0 [6,7,9,19] rfl (Nx (Cf rfl (Sk (Nx (Sq (Sq (Rg (Md 2 [6,7,22] rfl (Nx (Cd rfl (fun ht=> ?_) ((fun ht=> ?_)))))))))))))))))))
 ·
  have hn:jk (knd n)≠1:=by rintro h;rw [h] at ht;exact absurd ht (by decide)
  refine Sq (Sq (Rg (Md 2 [24] rfl (Nx (Cd rfl (fun ht=> ?_) ((fun ht=> ?_)))))))
  ·
   have hz:jk (knd n)=6:=by have:=ht;simp at this;omega
   refine Sq (Sl (by kernel_rfl) (by kernel_rfl) ?_)
   replace hM:=hM.drew
   skip
   refine Gs rfl (fun _ hF=>gives_load1 hF rfl Tryz.underlying63 rfl rfl (((hJ.mem hM).errs 0 (by omega)).1)) (Ms 2 rfl (Sd (Kp [4,5] rfl (Nx (Re (Rt (Rt ?_)))))));intro a hF
   exact ret2 hF rfl rfl rfl ⟨_,rfl,by rw [if_neg hn,if_pos hz];exact gout_ev hJ (by omega) _ hM.below _ rfl⟩
  have hz:jk (knd n)≠6:=by rintro h;rw [h] at ht;exact absurd ht (by decide)
  refine Sk (Nx (Sq (Rg ?_)));intro a hF
  refine op_call hF rfl rfl rfl rfl Tryz.func57 (by kernel_rfl) rfl rfl (errNew_walk _ _) ?_
  clear hF a;intro a w' v hR hF
  obtain ⟨ke,rfl,hMe⟩:=hR
  replace hM:=Mem.join hM hMe
  skip
  revert a;refine Md 2 [4,5] rfl (Nx (Re (Rt ?_)));intro a hF
  exact ret2 hF rfl rfl rfl ⟨_,rfl,by rw [if_neg hn,if_neg hz];exact gout_new (wm:=w0) hJ _ hM (List.mem_cons_self ..)⟩
 have hn:jk (knd n)=1:=by have:=ht;simp at this;omega
 refine Sk (Nx (Sq (Sq (Rg (Mv 1 rfl (Cm hM rfl rfl rfl (indexB_walk _ (hB2.below hM.below)) ?_))))))
 clear hM;intro w v hR hM hBe
 obtain rfl:=hR
 refine Md 1 [6,29] rfl (Nx (C0 rfl ?_ ?_))
 ·
  refine Sq (Rg (Mv 1 rfl (Gv rfl (fun _ hF=>gives_bytesStrB (rawx n x) hF rfl rfl rfl (hB2.below hM.below)) (Md 2 [4,5] rfl (Nx (Re (Rt ?_)))))));intro a hF
  exact ret2 hF rfl rfl rfl ⟨_,rfl,by rw [if_pos hn];exact gout_nil _ hM.below⟩
 refine Sk (Nx (Sq (Rg (Mv 1 rfl (Cm hM rfl rfl rfl (parseStr_walk _ (hJ.mem hM) (leaf_str hL hn) (by have:=leaf_len hL;have:=rawx_le n x;omega) (Nat.le_refl _) (hB2.below hM.below)) ?_)))))
 clear hM;intro w v hR hM hBe
 obtain ⟨s,rfl⟩:=hR
 refine Md 4 [4,5] rfl (Nx (Re ?_));intro a hF
 exact ret2 hF rfl rfl rfl ⟨_,rfl,by rw [if_pos hn];exact gout_nil _ hM.below⟩
theorem jrI_walk {ea:Nat→Addr}{kc:Nat}{ad:Option Addr}{T x:Str}{n:Nd}{ks:List Str}(w0:World) (hJ:JB ea w0.heap.size w0) (hL:Leaf T ks x n) (hl:T.length≤2^37) (hk:Kys w0 ad kc ks):
    Calls Tryz.prog 12 #[.string (mkS T),.slice ad ks.length kc] w0 (Ret fun v w'=>(∃ c:Nat,v= .int .i64 (c:Int)∧(jk (knd n)≠2→c=if jk (knd n)=6 then 10 else 11)∧(jk (knd n)=2→jdec x=true∨leadN x≤18→c=wantI x))∧Below w0.heap.size w0 w'):=by
 have hM:=MS0 w0
 refine enter (l:=[.string (mkS T),.slice ad ks.length kc]) 14 Tryz.func12 rfl rfl (Sq (Rg (Md 1 [0,1] rfl (Nx (Sq (Rg (Mv 1 rfl ?_)))))));intro a hF
 refine op_strBytesC hF hM rfl rfl rfl rfl rfl rfl ?_;clear hF hM a;intro a w b cap hF hM hcap hb hrow
 revert a;refine Mv 1 rfl ?_
 have hBT:Bts w b 0 T:=⟨hb,fun j u hj=>by rw [Nat.zero_add];exact hrow j u hj⟩
 refine Cl rfl rfl rfl (getInt_walk w (hJ.mem hM) hL (by omega) (by omega) hBT (hk.below hM.below)) ?_
 intro w2 v hR
 obtain ⟨c,hG,hN1,hN2⟩:=hR
 obtain ⟨val,e,rfl,hce,hcl,hB2⟩:=hG
 replace hM:=hM.step hB2
 refine Md 5 [6] rfl (Nx (Sq (Rg (Mv 1 rfl (Cl rfl rfl rfl (jrKind_walk e _ (hJ.mem hM) hcl) ?_)))))
 intro w3 v hR
 obtain ⟨rfl,hB3⟩:=hR
 replace hM:=hM.step hB3
 intro a hF
 rw [hce] at hF
 revert a;exact Md 1 [4] rfl (Nx (Re (Y1 rfl rfl ⟨_,rfl,⟨_,rfl,hN1,hN2⟩,hM.below⟩)))
theorem jrU_walk {ea:Nat→Addr}{kc:Nat}{ad:Option Addr}{T x:Str}{n:Nd}{ks:List Str}(w0:World) (hJ:JB ea w0.heap.size w0) (hL:Leaf T ks x n) (hl:T.length≤2^37) (hk:Kys w0 ad kc ks):
    Calls Tryz.prog 13 #[.string (mkS T),.slice ad ks.length kc] w0 (Ret fun v w'=>(∃ c:Nat,v= .int .i64 (c:Int)∧(jk (knd n)≠2→c=if jk (knd n)=6 then 10 else 11)∧(jk (knd n)=2→x≠ [45,48]→jdec x=true∨leadN x≤18→c=wantU x))∧Below w0.heap.size w0 w'):=by
 have hM:=MS0 w0
 refine enter (l:=[.string (mkS T),.slice ad ks.length kc]) 14 Tryz.func13 rfl rfl (Sq (Rg (Md 1 [0,1] rfl (Nx (Sq (Rg (Mv 1 rfl ?_)))))));intro a hF
 refine op_strBytesC hF hM rfl rfl rfl rfl rfl rfl ?_;clear hF hM a;intro a w b cap hF hM hcap hb hrow
 revert a;refine Mv 1 rfl ?_
 have hBT:Bts w b 0 T:=⟨hb,fun j u hj=>by rw [Nat.zero_add];exact hrow j u hj⟩
 refine Cl rfl rfl rfl (getUint_walk w (hJ.mem hM) hL (by omega) (by omega) hBT (hk.below hM.below)) ?_
 intro w2 v hR
 obtain ⟨c,hG,hN1,hN2⟩:=hR
 obtain ⟨val,e,rfl,hce,hcl,hB2⟩:=hG
 replace hM:=hM.step hB2
 refine Md 5 [6] rfl (Nx (Sq (Rg (Mv 1 rfl (Cl rfl rfl rfl (jrKind_walk e _ (hJ.mem hM) hcl) ?_)))))
 intro w3 v hR
 obtain ⟨rfl,hB3⟩:=hR
 replace hM:=hM.step hB3
 intro a hF
 rw [hce] at hF
 revert a;exact Md 1 [4] rfl (Nx (Re (Y1 rfl rfl ⟨_,rfl,⟨_,rfl,hN1,hN2⟩,hM.below⟩)))
theorem jrB_walk {ea:Nat→Addr}{kc:Nat}{ad:Option Addr}{T x:Str}{n:Nd}{ks:List Str}(w0:World) (hJ:JB ea w0.heap.size w0) (hL:Leaf T ks x n) (hl:T.length≤2^37) (hk:Kys w0 ad kc ks):
    Calls Tryz.prog 14 #[.string (mkS T),.slice ad ks.length kc] w0 (Ret fun v w'=>(∃ c:Nat,v= .int .i64 (c:Int)∧c=if jk (knd n)=5 then 0 else if jk (knd n)=6 then 10 else 11)∧Below w0.heap.size w0 w'):=by
 have hM:=MS0 w0
 refine enter (l:=[.string (mkS T),.slice ad ks.length kc]) 14 Tryz.func14 rfl rfl (Sq (Rg (Md 1 [0,1] rfl (Nx (Sq (Rg (Mv 1 rfl ?_)))))));intro a hF
 refine op_strBytesC hF hM rfl rfl rfl rfl rfl rfl ?_;clear hF hM a;intro a w b cap hF hM hcap hb hrow
 revert a;refine Mv 1 rfl ?_
 have hBT:Bts w b 0 T:=⟨hb,fun j u hj=>by rw [Nat.zero_add];exact hrow j u hj⟩
 refine Cl rfl rfl rfl (getBool_walk w (hJ.mem hM) hL (by omega) (by omega) hBT (hk.below hM.below)) ?_
 intro w2 v hR
 have hG:=hR
 obtain ⟨val,e,rfl,hce,hcl,hB2⟩:=hG
 replace hM:=hM.step hB2
 refine Md 5 [6] rfl (Nx (Sq (Rg (Mv 1 rfl (Cl rfl rfl rfl (jrKind_walk e _ (hJ.mem hM) hcl) ?_)))))
 intro w3 v hR
 obtain ⟨rfl,hB3⟩:=hR
 replace hM:=hM.step hB3
 intro a hF
 rw [hce] at hF
 revert a;exact Md 1 [4] rfl (Nx (Re (Y1 rfl rfl ⟨_,rfl,⟨_,rfl,rfl⟩,hM.below⟩)))
theorem jrS_walk {ea:Nat→Addr}{kc:Nat}{ad:Option Addr}{T x:Str}{n:Nd}{ks:List Str}(w0:World) (hJ:JB ea w0.heap.size w0) (hL:Leaf T ks x n) (hl:T.length≤2^37) (hk:Kys w0 ad kc ks):
    Calls Tryz.prog 15 #[.string (mkS T),.slice ad ks.length kc] w0 (Ret fun v w'=>(∃ c:Nat,v= .int .i64 (c:Int)∧c=if jk (knd n)=1 then 0 else if jk (knd n)=6 then 10 else 11)∧Below w0.heap.size w0 w'):=by
 have hM:=MS0 w0
 refine enter (l:=[.string (mkS T),.slice ad ks.length kc]) 14 Tryz.func15 rfl rfl (Sq (Rg (Md 1 [0,1] rfl (Nx (Sq (Rg (Mv 1 rfl ?_)))))));intro a hF
 refine op_strBytesC hF hM rfl rfl rfl rfl rfl rfl ?_;clear hF hM a;intro a w b cap hF hM hcap hb hrow
 revert a;refine Mv 1 rfl ?_
 have hBT:Bts w b 0 T:=⟨hb,fun j u hj=>by rw [Nat.zero_add];exact hrow j u hj⟩
 refine Cl rfl rfl rfl (getStr_walk w (hJ.mem hM) hL (by omega) (by omega) hBT (hk.below hM.below)) ?_
 intro w2 v hR
 have hG:=hR
 obtain ⟨val,e,rfl,hce,hcl,hB2⟩:=hG
 replace hM:=hM.step hB2
 refine Md 5 [6] rfl (Nx (Sq (Rg (Mv 1 rfl (Cl rfl rfl rfl (jrKind_walk e _ (hJ.mem hM) hcl) ?_)))))
 intro w3 v hR
 obtain ⟨rfl,hB3⟩:=hR
 replace hM:=hM.step hB3
 intro a hF
 rw [hce] at hF
 revert a;exact Md 1 [4] rfl (Nx (Re (Y1 rfl rfl ⟨_,rfl,⟨_,rfl,rfl⟩,hM.below⟩)))
theorem jrF_walk {ea:Nat→Addr}{kc:Nat}{ad:Option Addr}{T x:Str}{n:Nd}{ks:List Str}(w0:World) (hJ:JB ea w0.heap.size w0) (hL:Leaf T ks x n) (hl:T.length≤2^37) (hk:Kys w0 ad kc ks) {neg:Bool}{I fd E:Str}{k k':Int}(hV:TabX w0.heap.size w0) (hnf:jk (knd n)=2→NumForm x neg I fd E k∧ExCap E k'):
    Calls Tryz.prog 11 #[.string (mkS T),.slice ad ks.length kc] w0 (Ret fun v w'=>(∃ c:Nat,v= .int .i64 (c:Int)∧(jk (knd n)≠2→c=if jk (knd n)=6 then 10 else 11)∧(jk (knd n)=2→c=errK neg I fd k'))∧Below w0.heap.size w0 w'):=by
 have hM:=MS0 w0
 refine enter (l:=[.string (mkS T),.slice ad ks.length kc]) 14 Tryz.func11 rfl rfl (Sq (Rg (Md 1 [0,1] rfl (Nx (Sq (Rg (Mv 1 rfl ?_)))))));intro a hF
 refine op_strBytesC hF hM rfl rfl rfl rfl rfl rfl ?_;clear hF hM a;intro a w b cap hF hM hcap hb hrow
 revert a;refine Mv 1 rfl ?_
 have hBT:Bts w b 0 T:=⟨hb,fun j u hj=>by rw [Nat.zero_add];exact hrow j u hj⟩
 refine Cl rfl rfl rfl (getFl_walk w (hJ.mem hM) hL (by omega) (by omega) hBT (hk.below hM.below) (hV.mem hM) hnf) ?_
 intro w2 v hR
 obtain ⟨c,hG,hN1,hN2⟩:=hR
 obtain ⟨val,e,rfl,hce,hcl,hB2⟩:=hG
 replace hM:=hM.step hB2
 refine Md 5 [6] rfl (Nx (Sq (Rg (Mv 1 rfl (Cl rfl rfl rfl (jrKind_walk e _ (hJ.mem hM) hcl) ?_)))))
 intro w3 v hR
 obtain ⟨rfl,hB3⟩:=hR
 replace hM:=hM.step hB3
 intro a hF
 rw [hce] at hF
 revert a;exact Md 1 [4] rfl (Nx (Re (Y1 rfl rfl ⟨_,rfl,⟨_,rfl,hN1,hN2⟩,hM.below⟩)))
theorem sub_fin {b:Nat}{s:Bool}{m:Nat}{i:Int}(h:Ieee.double.read b= .number s m i):FloatKind.f64.format.sub b b=some 0:=by
  show ((Ieee.double.read b).sum (Ieee.double.read b).opposite).map Ieee.double.write=some 0
  rw [h]
  have e:Ieee.signed s m (i - min i i).toNat+Ieee.signed (!s) m (i - min i i).toNat=0:=by
    unfold Ieee.signed
    cases s <;> simp <;> omega
  have e2:(s&& !s)=false:=by cases s <;> rfl
  show (Ieee.Datum.sum (.number s m i) (.number (!s) m i)).map Ieee.double.write=some 0
  unfold Ieee.Datum.sum
  simp only [e,if_true,Int.natAbs_zero,Option.map_some,e2]
  unfold Ieee.Format.write
  simp only
  unfold Ieee.Format.nearest
  rw [if_pos rfl]
  rfl
theorem sub_inf {b:Nat}{s:Bool}(h:Ieee.double.read b= .infinity s):FloatKind.f64.format.sub b b=none:=by
  show ((Ieee.double.read b).sum (Ieee.double.read b).opposite).map Ieee.double.write=none
  rw [h]
  cases s <;> rfl
theorem read_nanBits (p q t:Nat):∃ s f,Ieee.double.read ((Question.nanBits .f64 p q).cut t)= .nan s f:=by
  show ∃ s f,Ieee.double.read ((t % 2)*2^63+0x7ff0000000000000+1+(t / 2) % (2^52 - 1))= .nan s f
  have hu:(t / 2) % (2^52 - 1)<2^52 - 1:=Nat.mod_lt _ (by decide)
  generalize (t / 2) % (2^52 - 1)=u at hu
  have e:((t % 2)*2^63+0x7ff0000000000000+1+u) % Ieee.double.signWeight=9218868437227405312+1+u:=by
    show ((t % 2)*2^63+0x7ff0000000000000+1+u) % 2^63=_
    omega
  have hb:Ieee.double.binade=4503599627370496:=by decide
  have hi:Ieee.double.infRung=9218868437227405312:=by decide
  unfold Ieee.Format.read
  simp only [e,hb,hi]
  rw [if_neg (by omega),if_neg (by omega),if_neg (by omega)]
  exact ⟨_,_,rfl⟩
def SubOk (b r:Nat):Prop:=((∃ s m i,Ieee.double.read b= .number s m i)→r=0)∧((∃ s,Ieee.double.read b= .infinity s)→∃ s f,Ieee.double.read r= .nan s f)
section
variable {n:Nat}{K:List (Nat×Value)}{a:Act}{o:Oper}{P:Program}{w:World}{ops:Array Oper}{rest:List Oper}{Q:Exit→Act→World→Prop}{B:Nat}{w0:World}{L:List Bk}
theorem op_fsub (hF:Fr n K a) (hM:Mem B w0 L w) (hg:o.guard=none) {d:Nat}{t t':TypeId}{x y:Operand}{p:Nat}(hd:o.dst=some d) (hlt:Nat.blt d n=true)
    (hop:o.op= .binOp .sub t x y t') (hx:ev K x=some (.float .f64 p)) (hy:ev K y=some (.float .f64 p))
    (h:∀ a' w' f,Fr n ((d,.float .f64 f)::K) a'→Mem B w0 L w'→SubOk p f→wpList P ops Q rest a' w'):wpList P ops Q (o::rest) a w:=by
  have key:∃ f w',(binOp .sub t (.float .f64 p) (.float .f64 p)).run P w= .ok (.float .f64 f) w'∧(w'=w∨w'=w.drew)∧SubOk p f:=by
    cases hr:FloatKind.f64.format.sub p p with
    | some r =>
      refine ⟨r,w,by simp [binOp,Op.floatArith,hr],.inl rfl,?_,?_⟩
      · rintro ⟨s,m,i,h⟩;rw [sub_fin h] at hr;exact (Option.some.inj hr).symm
      · rintro ⟨s,h⟩;rw [sub_inf h] at hr;cases hr
    | none =>
      refine ⟨(Question.nanBits .f64 p p).cut (w.tape w.drawn (.nanBits .f64 p p)),w.drew,by simp [binOp,Op.floatArith,hr,choose,Sem.run,Question.forced],.inr rfl,?_,fun _=>read_nanBits _ _ _⟩
      rintro ⟨s,m,i,h⟩;rw [sub_fin h] at hr;cases hr
  obtain ⟨f,w',e,hw,hs⟩:=key
  have hM':Mem B w0 L w':=by rcases hw with rfl | rfl;exact hM;exact hM.drew
  refine op_run hF hg (.float .f64 f) (w':=w') hd hlt ?_ (fun a' hF'=>h a' w' f hF' hM' hs)
  simp only [execOp,hop,hF.ev hx,hF.ev hy]
  simp [eqGuard,e]
end
theorem sub_test {z r:Nat}{ng:Bool}(hz:z≤9218868437227405312) (h:SubOk (if ng then z+2^63 else z) r):(FloatKind.f64.format.order r 0 !=some .eq)=decide (z=9218868437227405312):=by
  have hsg:∃ sg,SgOk sg∧(if ng then z+2^63 else z)=sg+z:=by cases ng;exact ⟨0,.inl rfl,by simp⟩;exact ⟨2^63,.inr rfl,by simp [Nat.add_comm]⟩
  obtain ⟨sg,h1,h2⟩:=hsg
  rw [h2] at h
  by_cases hz2:z=9218868437227405312
  · rw [decide_eq_true hz2]
    rw [hz2] at h
    obtain ⟨s,f,e⟩:=h.2 (read_inf h1)
    show (Ieee.double.order r 0 !=some .eq)=true
    unfold Ieee.Format.order
    rw [e];rfl
  · rw [decide_eq_false hz2]
    rw [h.1 (read_fin h1 (by omega))]
    show (Ieee.double.order 0 0 !=some .eq)=false
    decide+kernel
def I5 (a b c d e:Int):List Value:=[.int .i64 a,.int .i64 b,.int .i64 c,.int .i64 d,.int .i64 e]
theorem eq_item {w:World}{d:Nat}{xs:Array Value}{i:Nat}{z:Int}{is:List Nat}(h:xs[i]?=some (.int .i64 z)) (hr:(Op.eqItems (d+1) 3 1 xs xs is).run Tryz.prog w= .ok true w):(Op.eqItems (d+1) 3 1 xs xs (i::is)).run Tryz.prog w= .ok true w:=by
  have hp:(part 3 xs (i*1)).run Tryz.prog w= .ok (.int .i64 z) w:=run_part_plain w (by kernel_rfl) (by rw [Nat.mul_one];exact h)
  have he:(Op.equalIn (d+1) 3 (.int .i64 z) (.int .i64 z)).run Tryz.prog w= .ok true w:=by simp [Op.equalIn,run_underlying Tryz.underlying3]
  simp only [Op.eqItems,Sem.run_bind,hp,he,Result.andThen_ok]
  simpa using hr
section
variable {n:Nat}{K:List (Nat×Value)}{a:Act}{o:Oper}
theorem gives_eqI5 {t':TypeId}{x y:Operand}{p q r s u:Int}(hF:Fr n K a) (hop:o.op= .binOp .eql 30 x y t') (hx:ev K x=some (.agg (I5 p q r s u).toArray)) (hy:ev K y=some (.agg (I5 p q r s u).toArray)) (w:World):
    (execOp a.eval o).run Tryz.prog w= .ok (.value (.bool true)) w:=by
  obtain ⟨i,hi⟩:∃ i,Tryz.prog.info? 3=some i:=Option.isSome_iff_exists.1 (by kernel_rfl)
  have hc:Tryz.prog.cellsOf 3=1:=by kernel_rfl
  have e1:∀ d,(Op.equalIn (d+2) 30 (.agg (I5 p q r s u).toArray) (.agg (I5 p q r s u).toArray)).run Tryz.prog w= .ok true w:=fun d=>by
    rw [run_equalIn_array (e:=3) (n:=5) w (d+1) _ _ Tryz.underlying30 hi,hc]
    exact eq_item (z:=p) rfl (eq_item (z:=q) rfl (eq_item (z:=r) rfl (eq_item (z:=s) rfl (eq_item (z:=u) rfl (by simp [Op.eqItems])))))
  have e2:(Op.equal 30 (.agg (I5 p q r s u).toArray) (.agg (I5 p q r s u).toArray)).run Tryz.prog w= .ok true w:=e1 9998
  have e:(binOp .eql 30 (.agg (I5 p q r s u).toArray) (.agg (I5 p q r s u).toArray)).run Tryz.prog w= .ok (.bool true) w:=by
    simp only [binOp,Sem.run_bind,e2,Result.andThen_ok];rfl
  have hg:=run_eqGuard_agg (P:=Tryz.prog) w .eql 30 x y (I5 p q r s u).toArray (I5 p q r s u).toArray Tryz.eqGuardType30
  simp only [execOp,hop,hF.ev hx,hF.ev hy]
  simp [hg,e]
end

end Go.Sx