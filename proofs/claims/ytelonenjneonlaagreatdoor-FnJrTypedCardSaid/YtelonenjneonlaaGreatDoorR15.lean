/- Part 15 of the proof of FnJrTyped: the statement Rows.FnJrTypedCardSaid; no further condition. -/
import Derived.Test.YtelonenjneonlaaGreatDoorR14
set_option linter.all false
set_option exponentiation.threshold 2000
set_option maxRecDepth 100000
namespace Go.Sx
open Go.RowKit Go.Proofs Js Go.Proofs.YtelonenjneonlaaGreatDoorW.PrintWords
theorem lenTab_bl:(List.range 256).all (fun j=>match lenTab[j]? with | some c=>c.toNat==bl j | none=>false)=true:=by decide+kernel
theorem lenTab_is {j:Nat}(h:j<256):∃ c,lenTab[j]?=some c∧c.toNat=bl j:=by
  have:=List.all_eq_true.1 lenTab_bl j (List.mem_range.2 h)
  cases hc:lenTab[j]? with
  | none=>rw [hc] at this;cases this
  | some c=>rw [hc] at this;exact ⟨c,rfl,eq_of_beq this⟩
theorem bl_step {z x q:Nat}(k:Nat) (h:bl z=q+bl x) (hk:2^k≤x):bl z=q+k+bl (x / 2^k):=by
  rw [h,bl_shift (q:=k) (Nat.div_pos hk (Nat.pow_pos (by decide)))];omega
theorem len64x_walk (z:Nat) (hz:z<2^64) (w0:World):
    Calls Tryz.prog 195 #[.int .u64 (z:Int)] w0 (Ret fun v w'=>v= .int .i64 ((bl z:Nat):Int)∧Below w0.heap.size w0 w'):=by
 have hM:=MS0 w0
 have hb64:=bl_le hz
 refine enter (l:=[.int .u64 (z:Int)]) 24 Tryz.func195 rfl rfl (Sq (Rg (Md 1 [0,2] rfl (Nx ?_))));intro a hF
 refine cut (fun a w=>∃ (x q:Nat),Fr 25 [(0,.int .u64 (x:Int)),(2,.int .i64 (q:Int))] a∧Mem w0.heap.size w0 [] w∧bl z=q+bl x∧x<2^32) ?_ (fun a w h=> ?_)
 ·
  revert a;refine Sq (Rg (Md 2 [0,2,4] rfl (Nx (Ce rfl (fun ht=> ?_) ((fun ht=> ?_))))))
  ·
   have hlt:=of_decide_eq_false ht
   refine Sk (Kp [0,2] rfl ?_);intro a hF
   exact ⟨_,0,hF,hM,by omega,by omega⟩
  have hge:2^32≤z:=by have:=of_decide_eq_true ht;omega
  have hblp:32+bl (z / 2^32)=bl z:=(bl_shift (q:=32) (Nat.div_pos hge (by decide))).symm
  refine Sq (Rg (Mv 1 rfl (Gv rfl (fun _ hF=>gives_shr (32) (((z / 2^32:Nat):Int)) hF rfl rfl rfl rfl (shr_n 32 (by decide)) _) (Md 1 [0] rfl (Nx (Rg (Md 1 [0,2] rfl ?_)))))));intro a hF
  exact ⟨_,32,hF,hM,(bl_step (x:=z) (q:=0) 32 (by omega) hge).trans (by omega),by omega⟩
 clear hF hM
 obtain ⟨x,q,hF,hM,hq,hx⟩:=h
 have hq64:q≤64:=by omega
 refine cut (fun a w=>∃ (x q:Nat),Fr 25 [(0,.int .u64 (x:Int)),(2,.int .i64 (q:Int))] a∧Mem w0.heap.size w0 [] w∧bl z=q+bl x∧x<2^16) ?_ (fun a w h=> ?_)
 ·
  revert a;refine Sq (Rg (Md 2 [0,2,8] rfl (Nx (Ce rfl (fun ht=> ?_) ((fun ht=> ?_))))))
  ·
   have hlt:=of_decide_eq_false ht
   refine Sk (Kp [0,2] rfl ?_);intro a hF
   exact ⟨_,q,hF,hM,hq,by omega⟩
  have hge:2^16≤x:=by have:=of_decide_eq_true ht;omega
  refine Sq (Rg (Mv 1 rfl (Gv rfl (fun _ hF=>gives_shr (16) (((x / 2^16:Nat):Int)) hF rfl rfl rfl rfl (shr_n 16 (by decide)) _) (Md 1 [0,2] rfl (Nx (Rg (Mv 1 rfl (Sm (((q+16:Nat):Int)) rfl (by omega) (Md 1 [0,2] rfl ?_)))))))));intro a hF
  exact ⟨_,q+16,hF,hM,bl_step 16 hq hge,by omega⟩
 clear hF hM
 obtain ⟨x,q,hF,hM,hq,hx⟩:=h
 have hq64:q≤64:=by omega
 refine cutF (fun a w=>∃ (x q:Nat),Fr 25 [(0,.int .u64 (x:Int)),(2,.int .i64 (q:Int))] a∧Mem w0.heap.size w0 [] w∧bl z=q+bl x∧x<2^8) (fun a w h=> ?_) ?_
 ·
  clear hF hM
  obtain ⟨x,q,hF,hM,hq,hx⟩:=h
  have hq64:q≤64:=by omega
  revert a;refine Sq (Rg (Mv 2 rfl (Gv rfl (fun _ hF=>gives_conv hF rfl Tryz.underlying54 Tryz.underlying5 rfl (((x:Nat):Int)) (IntWalk.u8_in _ ⟨by omega,by omega⟩) _) ?_)))
  obtain ⟨c,hc,hc8⟩:=lenTab_is (show x<256 by omega)
  intro a hF
  refine op_index_str (l:=lenTab) hF rfl x c rfl rfl rfl Tryz.underlying9 (by kernel_rfl) rfl rfl hc ?_;clear hF a;intro a hF
  revert a;exact Gv rfl (fun _ hF=>gives_conv hF rfl Tryz.underlying5 Tryz.underlying3 rfl (((c.toNat:Nat):Int)) (wrap_i64 (by have:=c.toNat_lt;omega) (by have:=c.toNat_lt;omega)) _) (Sm (((bl z:Nat):Int)) rfl (by omega) (Md 1 [2] rfl (Nx (Re (Y1 rfl rfl ⟨_,rfl,rfl,hM.below⟩)))))
 revert a;refine Sq (Rg (Md 2 [0,2,14] rfl (Nx (Ce rfl (fun ht=> ?_) ((fun ht=> ?_))))))
 ·
  have hlt:=of_decide_eq_false ht
  refine Sk (Kp [0,2] rfl ?_);intro a hF
  exact ⟨_,q,hF,hM,hq,by omega⟩
 have hge:2^8≤x:=by have:=of_decide_eq_true ht;omega
 refine Sq (Rg (Mv 1 rfl (Gv rfl (fun _ hF=>gives_shr (8) (((x / 2^8:Nat):Int)) hF rfl rfl rfl rfl (shr_n 8 (by decide)) _) (Md 1 [0,2] rfl (Nx (Rg (Mv 1 rfl (Sm (((q+8:Nat):Int)) rfl (by omega) (Md 1 [0,2] rfl ?_)))))))));intro a hF
 exact ⟨_,q+8,hF,hM,bl_step 8 hq hge,by omega⟩
theorem and_1 {x:Nat}(hx:x<2^64):bitVal .and .u64 (x:Int) 1=some ((x % 2:Nat):Int):=by
  have h:=and_u64 hx (q:=1) (by decide)
  rw [Nat.and_one_is_mod] at h
  exact h
theorem and_32 {x:Nat}(hx:x<2^64):bitVal .and .u64 (x:Int) 4294967295=some ((x % 2^32:Nat):Int):=by
  have h:=and_u64 hx (q:=4294967295) (by decide)
  have e:x&&&4294967295=x % 2^32:=Nat.and_two_pow_sub_one_eq_mod x 32
  rw [e] at h
  exact h
theorem andnot_u64 {p q:Nat}(hp:p<2^64) (hq:q<2^64):bitVal .andNot .u64 (p:Int) (q:Int)=some ((p&&&(18446744073709551615 - q):Nat):Int):=by
  simp only [bitVal,ofInt_nat,Option.some.injEq]
  have e:(BitVec.ofNat IntKind.u64.bits p&&&~~~(BitVec.ofNat IntKind.u64.bits q)).toNat=p&&&(18446744073709551615 - q):=by
    rw [BitVec.toNat_and,BitVec.toNat_not,BitVec.toNat_ofNat,BitVec.toNat_ofNat,show IntKind.u64.bits=64 from rfl,Nat.mod_eq_of_lt hp,Nat.mod_eq_of_lt hq]
  rw [e]
  have:=Nat.and_lt_two_pow (n:=64) p (show 18446744073709551615 - q<2^64 by omega)
  rw [IntKind.wrap_u64];omega
theorem mul_halves {x y:Nat}(hx:x<2^64) (hy:y<2^64):
    x % 2^32*(y % 2^32)≤4294967295*4294967295∧x / 2^32*(y % 2^32)≤4294967295*4294967295∧x % 2^32*(y / 2^32)≤4294967295*4294967295∧x / 2^32*(y / 2^32)≤4294967295*4294967295∧
    x*y=x % 2^32*(y % 2^32)+2^32*(x / 2^32*(y % 2^32))+2^32*(x % 2^32*(y / 2^32))+2^64*(x / 2^32*(y / 2^32)):=by
  have h1:x % 2^32≤4294967295:=by omega
  have h2:x / 2^32≤4294967295:=by omega
  have h3:y % 2^32≤4294967295:=by omega
  have h4:y / 2^32≤4294967295:=by omega
  refine ⟨Nat.mul_le_mul h1 h3,Nat.mul_le_mul h2 h3,Nat.mul_le_mul h1 h4,Nat.mul_le_mul h2 h4,?_⟩
  have e1:x=x % 2^32+2^32*(x / 2^32):=by omega
  have e2:y=y % 2^32+2^32*(y / 2^32):=by omega
  generalize x % 2^32=a at*
  generalize x / 2^32=b at*
  generalize y % 2^32=c at*
  generalize y / 2^32=d at*
  rw [e1,e2,Nat.add_mul,Nat.mul_add,Nat.mul_add,Nat.mul_left_comm a (2^32) d,Nat.mul_assoc (2^32) b c,Nat.mul_assoc (2^32) b (2^32*d),Nat.mul_left_comm b (2^32) d,←Nat.mul_assoc (2^32) (2^32)]
  omega
def PK (m:Nat) (e:Int):Nat×Bool:=if m&&&4503599627370496=0 then (m,false) else if 972≤e then ((m&&&9223372036854775808) ||| 9218868437227405312,true) else ((m&&&(18446744073709551615 - 4503599627370496)) ||| ((1075+e).toNat*2^52),false)
def erV (b:Bool):Value:=if b then .iface 168 (.int .i64 1) else .nilIface
theorem roundx_walk {u:Nat}(hu:u≤2^63) (w0:World):
    Calls Tryz.prog 231 #[.int .u64 (u:Int)] w0 (Ret fun v w'=>(v= .int .u64 ((RND u:Nat):Int))∧Below w0.heap.size w0 w'):=by
 have hM:=MS0 w0
 have hr:RND u=(u+1+u / 4 % 2) / 4:=rfl
 refine enter (l:=[.int .u64 (u:Int)]) 9 Tryz.func231 rfl rfl (Sq (Rg (Md 1 [0] rfl (Nx (Sq (Rg (Mv 1 rfl ?_)))))));intro a hF
 refine op_sum hF rfl (((u+1:Nat):Int)) rfl rfl rfl rfl rfl rfl (by omega) (IntWalk.u64_in _ ⟨by omega,by omega⟩) ?_;clear hF a;intro a hF
 revert a;refine Mv 1 rfl (Gv rfl (fun _ hF=>gives_shr (2) (((u / 4:Nat):Int)) hF rfl rfl rfl rfl (shr_n 2 (by decide)) _) (Gv rfl (fun _ hF=>gives_bits (((u / 4 % 2:Nat):Int)) hF rfl rfl rfl (and_1 (by omega)) _) ?_));intro a hF
 refine op_sum hF rfl (((u+1+u / 4 % 2:Nat):Int)) rfl rfl rfl rfl rfl rfl (by omega) (IntWalk.u64_in _ ⟨by omega,by omega⟩) ?_;clear hF a;intro a hF
 revert a;exact Gv rfl (fun _ hF=>gives_shr (2) (((RND u:Nat):Int)) hF rfl rfl rfl rfl (shr_n 2 (by decide)) _) (Md 1 [2] rfl (Nx (Re (Y1 rfl rfl ⟨_,rfl,rfl,hM.below⟩))))
theorem unminx_walk (w0:World):
    Calls Tryz.prog 233 #[.int .u64 9007199254740992] w0 (Ret fun v w'=>(v= .int .u64 36028797018963966)∧Below w0.heap.size w0 w'):=by
 have hM:=MS0 w0
 refine enter (l:=[.int .u64 9007199254740992]) 5 Tryz.func233 rfl rfl (Sq (Rg (Md 1 [0] rfl (Nx (Sq (Rg (Mv 1 rfl ?_)))))));intro a hF
 refine op_shl hF rfl 2 36028797018963968 rfl rfl rfl rfl rfl rfl (by decide) ?_;clear hF a;intro a hF
 refine op_sum hF rfl (36028797018963966) rfl rfl rfl rfl rfl rfl (by decide) (IntWalk.u64_in _ ⟨by omega,by omega⟩) ?_;clear hF a;intro a hF
 revert a;exact Md 1 [2] rfl (Nx (Re (Y1 rfl rfl ⟨_,rfl,rfl,hM.below⟩)))
theorem mul64x_walk {x y:Nat}(hx:x<2^64) (hy:y<2^64) (w0:World):
    Calls Tryz.prog 249 #[.int .u64 (x:Int),.int .u64 (y:Int)] w0 (Ret fun v w'=>(v= .tuple #[.int .u64 ((x*y / 2^64:Nat):Int),.int .u64 ((x*y % 2^64:Nat):Int)])∧Below w0.heap.size w0 w'):=by
 have hM:=MS0 w0
 obtain ⟨h1,h2,h3,h4,hxy⟩:=mul_halves hx hy
 refine enter (l:=[.int .u64 (x:Int),.int .u64 (y:Int)]) 49 Tryz.func249 rfl rfl (Sq (Rg (Md 2 [0,1] rfl (Nx (Sq (Rg (Mv 1 rfl (Gv rfl (fun _ hF=>gives_bits (((x % 2^32:Nat):Int)) hF rfl rfl rfl (and_32 hx) _) (Md 1 [0,1,6] rfl (Nx (Sq (Rg (Mv 1 rfl (Gv rfl (fun _ hF=>gives_shr (32) (((x / 2^32:Nat):Int)) hF rfl rfl rfl rfl (shr_n 32 (by decide)) _) (Md 1 [0,1,6,7] rfl (Nx (Sq (Rg (Mv 1 rfl (Gv rfl (fun _ hF=>gives_bits (((y % 2^32:Nat):Int)) hF rfl rfl rfl (and_32 hy) _) (Md 1 [0,1,6,7,8] rfl (Nx (Sq (Rg (Mv 1 rfl (Gv rfl (fun _ hF=>gives_shr (32) (((y / 2^32:Nat):Int)) hF rfl rfl rfl rfl (shr_n 32 (by decide)) _) (Md 1 [0,1,6,7,8,9] rfl (Nx (Sq (Rg (Mv 2 rfl ?_)))))))))))))))))))))))))))))));intro a hF
 refine op_sum hF rfl (((x % 2^32*(y % 2^32):Nat):Int)) rfl rfl rfl rfl rfl rfl (Int.natCast_mul ((x % 2^32)) ((y % 2^32))).symm (IntWalk.u64_in _ ⟨by omega,by omega⟩) ?_;clear hF a;intro a hF
 revert a;refine Md 1 [0,1,6,7,8,9,10] rfl (Nx (Sq (Rg (Mv 2 rfl ?_))));intro a hF
 refine op_sum hF rfl (((x / 2^32*(y % 2^32):Nat):Int)) rfl rfl rfl rfl rfl rfl (Int.natCast_mul ((x / 2^32)) ((y % 2^32))).symm (IntWalk.u64_in _ ⟨by omega,by omega⟩) ?_;clear hF a;intro a hF
 revert a;refine Mv 1 rfl (Gv rfl (fun _ hF=>gives_shr (32) (((x % 2^32*(y % 2^32) / 2^32:Nat):Int)) hF rfl rfl rfl rfl (shr_n 32 (by decide)) _) ?_);intro a hF
 refine op_sum hF rfl ((((x / 2^32*(y % 2^32)+x % 2^32*(y % 2^32) / 2^32):Nat):Int)) rfl rfl rfl rfl rfl rfl (Int.natCast_add _ _).symm (IntWalk.u64_in _ ⟨by omega,by omega⟩) ?_;clear hF a;intro a hF
 revert a;refine Md 1 [0,1,6,7,9,11] rfl (Nx (Sq (Rg (Mv 1 rfl (Gv rfl (fun _ hF=>gives_bits ((((x / 2^32*(y % 2^32)+x % 2^32*(y % 2^32) / 2^32) % 2^32:Nat):Int)) hF rfl rfl rfl (and_32 (by omega)) _) (Md 1 [0,1,6,7,9,11,12] rfl (Nx (Sq (Rg (Mv 1 rfl (Gv rfl (fun _ hF=>gives_shr (32) ((((x / 2^32*(y % 2^32)+x % 2^32*(y % 2^32) / 2^32) / 2^32:Nat):Int)) hF rfl rfl rfl rfl (shr_n 32 (by decide)) _) (Md 1 [0,1,6,7,9,12,13] rfl (Nx (Sq (Rg (Mv 3 rfl ?_))))))))))))))));intro a hF
 refine op_sum hF rfl (((x % 2^32*(y / 2^32):Nat):Int)) rfl rfl rfl rfl rfl rfl (Int.natCast_mul ((x % 2^32)) ((y / 2^32))).symm (IntWalk.u64_in _ ⟨by omega,by omega⟩) ?_;clear hF a;intro a hF
 refine op_sum hF rfl (((((x / 2^32*(y % 2^32)+x % 2^32*(y % 2^32) / 2^32) % 2^32+x % 2^32*(y / 2^32)):Nat):Int)) rfl rfl rfl rfl rfl rfl (Int.natCast_add _ _).symm (IntWalk.u64_in _ ⟨by omega,by omega⟩) ?_;clear hF a;intro a hF
 revert a;refine Md 1 [0,1,7,9,12,13] rfl (Nx (Sq (Rg (Mv 2 rfl ?_))));intro a hF
 refine op_sum hF rfl (((x / 2^32*(y / 2^32):Nat):Int)) rfl rfl rfl rfl rfl rfl (Int.natCast_mul ((x / 2^32)) ((y / 2^32))).symm (IntWalk.u64_in _ ⟨by omega,by omega⟩) ?_;clear hF a;intro a hF
 revert a;refine Mv 1 rfl ?_;intro a hF
 refine op_sum hF rfl (((x / 2^32*(y / 2^32)+(x / 2^32*(y % 2^32)+x % 2^32*(y % 2^32) / 2^32) / 2^32:Nat):Int)) rfl rfl rfl rfl rfl rfl (Int.natCast_add _ _).symm (IntWalk.u64_in _ ⟨by omega,by omega⟩) ?_;clear hF a;intro a hF
 revert a;refine Mv 1 rfl (Gv rfl (fun _ hF=>gives_shr (32) (((((x / 2^32*(y % 2^32)+x % 2^32*(y % 2^32) / 2^32) % 2^32+x % 2^32*(y / 2^32)) / 2^32:Nat):Int)) hF rfl rfl rfl rfl (shr_n 32 (by decide)) _) ?_);intro a hF
 refine op_sum hF rfl (((x*y / 2^64:Nat):Int)) rfl rfl rfl rfl rfl rfl (by rw [hxy];omega) (IntWalk.u64_in _ ⟨by omega,by omega⟩) ?_;clear hF a;intro a hF
 revert a;refine Md 1 [0,1,4] rfl (Nx (Sq (Rg (Mv 3 rfl ?_))));intro a hF
 rw [show IntKind.u64.wrap ((x:Int)*(y:Int))=((x*y % 2^64:Nat):Int) by rw [←Int.natCast_mul,IntKind.wrap_u64];omega] at hF
 revert a;exact Md 1 [4,5] rfl (Nx (Re (Y2 rfl rfl rfl ⟨_,rfl,rfl,hM.below⟩)))
theorem log2x_walk (p:Int) (hp: -400≤p∧p≤400) (w0:World):
    Calls Tryz.prog 226 #[.int .i64 p] w0 (Ret fun v w'=>(v= .int .i64 (lg p))∧Below w0.heap.size w0 w'):=by
 have hM:=MS0 w0
 exact enter (l:=[.int .i64 p]) 5 Tryz.func226 rfl rfl (Sq (Rg (Md 1 [0] rfl (Nx (Sq (Rg (Mv 1 rfl (Sm (p*108853) rfl (by omega) (Gv rfl (fun _ hF=>gives_shr (15) ((lg p)) hF rfl rfl rfl rfl (by unfold lg;rw [show min 15 IntKind.i64.bits=15 from rfl,Int.fdiv_eq_ediv_of_nonneg _ (by decide)];rfl) _) (Md 1 [2] rfl (Nx (Re (Y1 rfl rfl ⟨_,rfl,rfl,hM.below⟩)))))))))))))
theorem packx_walk {m:Nat}{e:Int}(hm:m<2^64) (he: -1074≤e∧e≤4000) (w0:World):
    Calls Tryz.prog 246 #[.int .u64 (m:Int),.int .i64 e] w0 (Ret fun v w'=>(v= .tuple #[.float .f64 (PK m e).1,erV (PK m e).2])∧Below w0.heap.size w0 w'):=by
 have hM:=MS0 w0
 refine enter (l:=[.int .u64 (m:Int),.int .i64 e]) 24 Tryz.func246 rfl rfl (Sq (Rg (Md 2 [0,1] rfl (Nx (Sq (Sq (Rg (Mv 1 rfl (Gv rfl (fun _ hF=>gives_bits (((m&&&4503599627370496:Nat):Int)) hF rfl rfl rfl (and_u64 hm (q:=4503599627370496) (by decide)) _) (Md 1 [0,1,8] rfl (Nx (Cd rfl (fun ht=> ?_) ((fun ht=> ?_))))))))))))))
 ·
  have h0:m&&&4503599627370496=0:=by have:=eq_of_beq ht;omega
  have hpk:PK m e=(m,false):=by unfold PK;rw [if_pos h0]
  refine Sq (Rg (Mv 1 rfl ?_));intro a hF
  refine op_frombits hF rfl rfl rfl rfl rfl ?_;clear hF a;intro a hF
  revert a;exact Md 2 [4,5] rfl (Nx (Re (Rt (Y2 rfl rfl rfl ⟨_,rfl,by rw [hpk];rfl,hM.below⟩))))
 have h0:m&&&4503599627370496≠0:=by intro h;rw [h] at ht;exact absurd ht (by decide)
 refine Sk (Nx (Sq (Sq (Rg (Md 2 [0,1,12] rfl (Nx (Cd rfl (fun ht=> ?_) ((fun ht=> ?_)))))))))
 ·
  have h9:972≤e:=of_decide_eq_true ht
  have hpk:PK m e=((m&&&9223372036854775808) ||| 9218868437227405312,true):=by unfold PK;rw [if_neg h0,if_pos h9]
  refine Sq (Rg (Mv 1 rfl (Gv rfl (fun _ hF=>gives_bits (((m&&&9223372036854775808:Nat):Int)) hF rfl rfl rfl (and_u64 hm (q:=9223372036854775808) (by decide)) _) (Gv rfl (fun _ hF=>gives_bits ((((m&&&9223372036854775808) ||| 9218868437227405312:Nat):Int)) hF rfl rfl rfl (or_u64 (q:=9218868437227405312) (Nat.and_lt_two_pow _ (by decide)) (by decide)) _) ?_))));intro a hF
  refine op_frombits hF rfl rfl rfl rfl rfl ?_;clear hF a;intro a hF
  revert a;exact Gv rfl (fun _ hF=>gives_mkIface hF rfl Tryz.underlying168 rfl rfl _) (Md 2 [4,5] rfl (Nx (Re (Rt (Y2 rfl rfl rfl ⟨_,rfl,by rw [hpk];rfl,hM.below⟩)))))
 have h9: ¬ 972≤e:=of_decide_eq_false ht
 have hpk:PK m e=((m&&&(18446744073709551615 - 4503599627370496)) ||| ((1075+e).toNat*2^52),false):=by unfold PK;rw [if_neg h0,if_neg h9]
 refine Sk (Nx (Sq (Rg (Mv 1 rfl (Gv rfl (fun _ hF=>gives_bits (((m&&&(18446744073709551615 - 4503599627370496):Nat):Int)) hF rfl rfl rfl (andnot_u64 hm (q:=4503599627370496) (by decide)) _) (Mv 1 rfl (Sm ((1075+e)) rfl (by omega) (Gv rfl (fun _ hF=>gives_conv hF rfl Tryz.underlying3 Tryz.underlying54 rfl ((((1075+e).toNat:Nat):Int)) (by rw [IntWalk.u64_in _ ⟨by omega,by omega⟩];omega) _) (Gv rfl (fun _ hF=>gives_shl (52) ((((1075+e).toNat*2^52:Nat):Int)) hF rfl rfl rfl rfl (by rw [show min 52 IntKind.u64.bits=52 from rfl,IntWalk.u64_in _ ⟨by omega,by omega⟩];omega) _) (Gv rfl (fun _ hF=>gives_bits ((((m&&&(18446744073709551615 - 4503599627370496)) ||| ((1075+e).toNat*2^52):Nat):Int)) hF rfl rfl rfl (or_u64 (Nat.and_lt_two_pow _ (by decide)) (by omega)) _) ?_))))))))));intro a hF
 refine op_frombits hF rfl rfl rfl rfl rfl ?_;clear hF a;intro a hF
 revert a;exact Md 2 [4,5] rfl (Nx (Re (Y2 rfl rfl rfl ⟨_,rfl,by rw [hpk];rfl,hM.below⟩)))
theorem and_63 {s:Nat}(h:s<64):bitVal .and .i64 (s:Int) 63=some ((s:Nat):Int):=by
  simp only [bitVal,Option.some.injEq]
  show IntKind.i64.wrap ((BitVec.ofInt 64 (s:Int)&&&BitVec.ofInt 64 63).toNat:Int)=(s:Int)
  have e1:BitVec.ofInt 64 (s:Int)=BitVec.ofNat 64 s:=by simp
  have e2:BitVec.ofInt 64 63=BitVec.ofNat 64 63:=by decide
  have e:(BitVec.ofInt 64 (s:Int)&&&BitVec.ofInt 64 63).toNat=s:=by
    rw [e1,e2,BitVec.toNat_and,BitVec.toNat_ofNat,BitVec.toNat_ofNat,Nat.mod_eq_of_lt (by omega),Nat.mod_eq_of_lt (by decide)]
    exact Nat.and_two_pow_sub_one_of_lt_two_pow (n:=6) h
  rw [e]
  exact wrap_i64 (by omega) (by omega)
theorem prescalex_walk {B:Nat}{wc:World}{L:List Bk}{b:Nat}{x y s:Int}(hG:TabX B wc) (e p lp:Int) (hp: -348≤p∧p≤347) (he: -3000≤e∧e≤3000) (hlp: -3000≤lp∧lp≤3000) {w0:World}(hM0:Mem B wc ((b,268,[.int .u64 x,.int .u64 y,.int .i64 s])::L) w0):
    Calls Tryz.prog 225 #[.pointer (some ⟨b,0,none⟩),.int .i64 e,.int .i64 p,.int .i64 lp] w0 (Ret fun v w'=>v= .tuple #[]∧Mem B wc ((b,268,[.int .u64 ((hiT p:Nat):Int),.int .u64 ((loT p:Nat):Int),.int .i64 (-(e+lp+3))])::L) w'):=by
 have hM:=hM0
 obtain ⟨j,hj⟩:∃ j:Nat,p - -348=(j:Int):=⟨(p+348).toNat,by omega⟩
 have hj6:j<696:=by omega
 obtain ⟨hrow,_⟩:=rowT hp
 rw [show (p+348).toNat=j by omega] at hrow
 obtain ⟨hx1,hx2⟩:=hG.rows j _ hrow
 have h27:27<B:=by have:=hG.tabs.lt;omega
 refine enter (l:=[.pointer (some ⟨b,0,none⟩),.int .i64 e,.int .i64 p,.int .i64 lp]) 28 Tryz.func225 rfl rfl (Sq (Rg (Mv 2 rfl (Sm (((j:Nat):Int)) rfl (by omega) (Gv rfl (fun _ hF=>gives_indexAddrA (sz:=2) (j) hF rfl Tryz.underlying292 (by kernel_rfl) rfl rfl rfl hj6 _) (Mv 1 rfl (Gv rfl (fun _ hF=>gives_load1 hF rfl Tryz.underlying54 rfl rfl (show World.cell? _ _=some (.int .u64 ((hiT p:Nat):Int)) by rw [Nat.zero_add];exact (hM.below.cell h27).trans hx1)) (Mv 2 rfl (St hM 0 rfl ?_)))))))))
 clear hM;intro w hM
 refine Md 0 [0,1,2,3] rfl (Nx (Sq (Rg (Mv 2 rfl (Sm (((j:Nat):Int)) rfl (by omega) (Gv rfl (fun _ hF=>gives_indexAddrA (sz:=2) (j) hF rfl Tryz.underlying292 (by kernel_rfl) rfl rfl rfl hj6 _) (Mv 1 rfl (Gv rfl (fun _ hF=>gives_load1 hF rfl Tryz.underlying54 rfl rfl (show World.cell? _ _=some (.int .u64 ((loT p:Nat):Int)) by rw [Nat.zero_add];exact (hM.below.cell h27).trans hx2)) (Mv 2 rfl (St hM 0 rfl ?_))))))))))
 clear hM;intro w hM
 refine Md 0 [0,1,3] rfl (Nx (Rg (Mv 3 rfl (Sm ((e+lp)) rfl (by omega) (Sm ((e+lp+3)) rfl (by omega) (Gv rfl (fun _ hF=>gives_neg hF rfl rfl ((-(e+lp+3))) (by rw [wrap_i64 (by omega) (by omega)];omega) _) (Mv 2 rfl (St hM 0 rfl ?_))))))))
 clear hM;intro w hM
 exact Md 0 [] rfl (Z0 rfl ⟨_,rfl,rfl,hM⟩)
theorem uscalex_walk {B:Nat}{wc:World}{L:List Bk}{b:Nat}{x hi lo s:Nat}(hx:x<2^64) (hx1:2^63≤x) (hhi:hi<2^64) (hhi1:2^63≤hi) (hlo:lo<2^64) (hs:s<64) {w0:World}(hM0:Mem B wc ((b,268,[.int .u64 (hi:Int),.int .u64 (lo:Int),.int .i64 (s:Int)])::L) w0):
    Calls Tryz.prog 227 #[.int .u64 (x:Int),.pointer (some ⟨b,0,none⟩)] w0 (Ret fun v w'=>v= .int .u64 ((usc x hi lo s:Nat):Int)∧Mem B wc ((b,268,[.int .u64 (hi:Int),.int .u64 (lo:Int),.int .i64 (s:Int)])::L) w'):=by
 have hM:=hM0
 have hP64:x*hi / 2^64<2^64:=(Nat.div_lt_iff_lt_mul (by decide)).2 (Nat.mul_lt_mul'' hx hhi)
 have hP1:1≤x*hi / 2^64:=(Nat.le_div_iff_mul_le (by decide)).2 (by have:=Nat.mul_le_mul hx1 hhi1;omega)
 have hm64:x*hi % 2^64<2^64:=Nat.mod_lt _ (by decide)
 have hm2:x*lo / 2^64<2^64:=(Nat.div_lt_iff_lt_mul (by decide)).2 (Nat.mul_lt_mul'' hx hlo)
 have hdm:=Nat.div_mul_le_self (x*hi / 2^64) (2^s)
 have hshl:IntKind.u64.wrap (((x*hi / 2^64 / 2^s:Nat):Int)*2^min s IntKind.u64.bits)=((x*hi / 2^64 / 2^s*2^s:Nat):Int):=by rw [show min s IntKind.u64.bits=s from Nat.min_eq_left (Nat.le_of_lt hs),show ((2:Int)^s)=((2^s:Nat):Int) by simp,←Int.natCast_mul,IntWalk.u64_in _ ⟨by omega,by omega⟩]
 have hbw:(if decide (((x*hi % 2^64:Nat):Int)<((x*lo / 2^64:Nat):Int))=true then (1:Int) else 0)=(((if (x*hi % 2^64)<(x*lo / 2^64) then 1 else 0:Nat):Nat):Int):=by by_cases h:x*hi % 2^64<x*lo / 2^64;(rw [if_pos h,if_pos (decide_eq_true (by omega))];rfl);(rw [if_neg h,if_neg (by rw [decide_eq_true_iff];omega)];rfl)
 have hbw1:(if (x*hi % 2^64)<(x*lo / 2^64) then 1 else 0:Nat)≤x*hi / 2^64:=by split <;> omega
 have hgt:(if decide ((((x*hi % 2^64+2^64 - x*lo / 2^64) % 2^64:Nat):Int)>1)=true then (1:Int) else 0)=(((if (x*hi % 2^64+2^64 - x*lo / 2^64) % 2^64>1 then 1 else 0:Nat)):Int):=by by_cases h:(x*hi % 2^64+2^64 - x*lo / 2^64) % 2^64>1;(rw [if_pos h,if_pos (decide_eq_true (by omega))];rfl);(rw [if_neg h,if_neg (by rw [decide_eq_true_iff];omega)];rfl)
 have hwr:IntKind.u64.wrap (((x*hi % 2^64:Nat):Int) - ((x*lo / 2^64:Nat):Int))=(((x*hi % 2^64+2^64 - x*lo / 2^64) % 2^64:Nat):Int):=by rw [IntKind.wrap_u64];omega
 have hds:x*hi / 2^64 / 2^s<2^64:=Nat.lt_of_le_of_lt (Nat.div_le_self _ _) hP64
 have hds2:(x*hi / 2^64 - (if (x*hi % 2^64)<(x*lo / 2^64) then 1 else 0:Nat)) / 2^s<2^64:=Nat.lt_of_le_of_lt (Nat.div_le_self _ _) (by omega)
 refine enter (l:=[.int .u64 (x:Int),.pointer (some ⟨b,0,none⟩)]) 57 Tryz.func227 rfl rfl (Sq (Rg (Md 1 [0,1] rfl (Nx (Sq (Rg (Mv 4 rfl (Ld hM 0 rfl rfl (Cm hM rfl rfl rfl (mul64x_walk hx hhi _) ?_)))))))))
 clear hM;intro w v hR hM hBe
 obtain rfl:=hR
 refine Md 5 [0,1,5,6] rfl (Nx (Sq (Rg (Mv 3 rfl (Ld hM 0 rfl rfl (Gv rfl (fun _ hF=>gives_bits (((s:Nat):Int)) hF rfl rfl rfl (and_63 hs) _) (Md 1 [0,1,5,6,7] rfl (Nx (Sq (Sq (Rg (Mv 2 rfl (Gv rfl (fun _ hF=>gives_shr (s) (((x*hi / 2^64 / 2^s:Nat):Int)) hF rfl rfl rfl rfl (shr_n s hs) _) (Mv 1 rfl ?_))))))))))))));intro a hF
 refine op_shl hF rfl s (((x*hi / 2^64 / 2^s*2^s:Nat)):Int) rfl rfl rfl rfl rfl rfl hshl ?_;clear hF a;intro a hF
 revert a;refine Md 2 [0,1,5,6,7,30] rfl (Nx (Cd rfl (fun ht=> ?_) ((fun ht=> ?_))))
 ·
  have hne:x*hi / 2^64 % 2^s≠0:=by
    intro h
    have h1:=Nat.div_add_mod (x*hi / 2^64) (2^s)
    rw [h,Nat.add_zero,Nat.mul_comm] at h1
    rw [h1] at ht
    simp at ht
  have hu:usc x hi lo s=x*hi / 2^64 / 2^s ||| 1:=by unfold usc;simp only;rw [if_pos hne]
  exact Sq (Rg (Mv 2 rfl (Gv rfl (fun _ hF=>gives_shr (s) (((x*hi / 2^64 / 2^s:Nat):Int)) hF rfl rfl rfl rfl (shr_n s hs) _) (Gv rfl (fun _ hF=>gives_bits ((((x*hi / 2^64 / 2^s) ||| 1:Nat):Int)) hF rfl rfl rfl (or_u64 (q:=1) hds (by decide)) _) (Md 1 [4] rfl (Nx (Re (Rt (Y1 rfl rfl ⟨_,rfl,by rw [hu],hM⟩)))))))))
 have heq: ¬ x*hi / 2^64 % 2^s≠0:=by
   intro h
   have h1:=Nat.div_add_mod (x*hi / 2^64) (2^s)
   rw [Nat.mul_comm] at h1
   have h2:((x*hi / 2^64 / 2^s*2^s:Nat):Int)≠((x*hi / 2^64:Nat):Int):=by omega
   rw [bne_iff_ne.2 h2] at ht;cases ht
 have hu:usc x hi lo s=(x*hi / 2^64 - (if x*hi % 2^64<x*lo / 2^64 then 1 else 0)) / 2^s ||| (if (x*hi % 2^64+2^64 - x*lo / 2^64) % 2^64>1 then 1 else 0):=by unfold usc;simp only;rw [if_neg heq]
 refine Sk (Nx (Sq (Rg (Mv 4 rfl (Ld hM 0 rfl rfl (Cm hM rfl rfl rfl (mul64x_walk hx hlo _) ?_))))))
 clear hM;intro w v hR hM hBe
 obtain rfl:=hR
 refine Md 5 [5,6,7,8] rfl (Nx (Sq (Rg (Mv 4 rfl (Cm hM rfl rfl rfl (bool2u_walk _ _) ?_)))))
 clear hM;intro w v hR hM hBe
 obtain rfl:=hR
 intro a hF
 refine op_sum hF rfl (((x*hi / 2^64 - (if (x*hi % 2^64)<(x*lo / 2^64) then 1 else 0:Nat):Nat):Int)) rfl rfl rfl rfl rfl rfl (by rw [hbw];exact (Int.ofNat_sub hbw1).symm) (IntWalk.u64_in _ ⟨by omega,by omega⟩) ?_;clear hF a;intro a hF
 revert a;refine Md 1 [5,6,7,8] rfl (Nx (Sq ?_));intro a hF
 refine draw (by kernel_rfl) ?_
 replace hM:=hM.drew
 refine take 0 hF rfl (by kernel_rfl) (by kernel_rfl) (by kernel_rfl) (fun _ _ _ h=>h) rfl rfl rfl (gives_move hF rfl rfl) ?_;clear hF a;intro a hF
 refine take 1 hF rfl (by kernel_rfl) (by kernel_rfl) (by kernel_rfl) (fun _ _ _ h=>h) rfl rfl rfl (gives_move hF rfl rfl) ?_;clear hF a;intro a hF
 refine take 2 hF rfl (by kernel_rfl) (by kernel_rfl) (by kernel_rfl) (fun _ _ _ h=>h) rfl rfl rfl (gives_shr (s) ((((x*hi / 2^64 - (if (x*hi % 2^64)<(x*lo / 2^64) then 1 else 0:Nat)) / 2^s:Nat):Int)) hF rfl rfl rfl rfl (shr_n s hs)) ?_;clear hF a;intro a hF
 refine take 3 hF rfl (by kernel_rfl) (by kernel_rfl) (by kernel_rfl) (fun _ _ _ h=>h) rfl rfl rfl (gives_move hF rfl rfl) ?_;clear hF a;intro a hF
 refine take 4 hF rfl (by kernel_rfl) (by kernel_rfl) (by kernel_rfl) (fun _ _ _ h=>h) rfl rfl rfl (gives_move hF rfl rfl) ?_;clear hF a;intro a hF
 refine take 5 hF rfl (by kernel_rfl) (by kernel_rfl) (by kernel_rfl) (fun _ _ _ h=>h) rfl rfl rfl (gives_bin hF rfl rfl rfl rfl) ?_;clear hF a;intro a hF
 refine take 6 hF rfl (by kernel_rfl) (by kernel_rfl) (by kernel_rfl) (fun _ _ _ h=>h) rfl rfl rfl (gives_bin hF rfl rfl rfl rfl) ?_;clear hF a;intro a hF
 refine only_callM 7 hF hM rfl (by kernel_rfl) rfl rfl rfl rfl Tryz.func214 (by kernel_rfl) rfl rfl (bool2u_walk _ _) ?_;clear hF hM a;intro a w v hR hF hM
 obtain rfl:=hR
 refine take 8 hF rfl (by kernel_rfl) (by kernel_rfl) (by kernel_rfl) (fun _ _ _ h=>h) rfl rfl rfl (gives_bits ((((x*hi / 2^64 - (if (x*hi % 2^64)<(x*lo / 2^64) then 1 else 0:Nat)) / 2^s ||| (if (x*hi % 2^64+2^64 - x*lo / 2^64) % 2^64>1 then 1 else 0):Nat):Int)) hF rfl rfl rfl (by rw [hwr,hgt];exact or_u64 hds2 (by split <;> decide))) ?_;clear hF a;intro a hF
 refine take 9 hF rfl (by kernel_rfl) (by kernel_rfl) (by kernel_rfl) (fun _ _ _ h=>h) rfl rfl rfl (gives_assign hF rfl rfl) ?_;clear hF a;intro a hF
 refine drawn (h0:=by kernel_rfl) ?_
 revert a;exact Kp [4] rfl (Nx (Re (Y1 rfl rfl ⟨_,rfl,by rw [hu],hM⟩)))
def uT (z:Nat) (p:Int):Nat:=uX (hiT p) (loT p) z p
def FX (sg z:Nat) (p:Int):Nat×Bool:=if 64≤sX z p then (sg,false) else PK (sg ||| RND (SC (uT z p))) (-(eX z p - (k1 (uT z p):Int)))
theorem or_le1 (a:Nat) {b:Nat}(hb:b≤1):a ||| b≤a+1:=by
  have h:(a ||| b) / 2=a / 2:=by
    have:=Nat.or_div_two_pow (a:=a) (b:=b) (n:=1)
    rw [Nat.pow_one] at this
    rw [this,show b / 2=0 by omega,Nat.or_zero]
  omega
theorem usc_56 {x hi lo s:Nat}(hx:x<2^64) (hh:hi<2^64) (hs:8≤s):usc x hi lo s≤2^56:=by
  have h2:x*hi / 2^64≤2^64 - 1:=by
    have:=(Nat.div_lt_iff_lt_mul (show 0<2^64 by decide)).2 (Nat.mul_lt_mul'' hx hh)
    omega
  have h3:2^8≤2^s:=Nat.pow_le_pow_right (by decide) hs
  have g:∀ H,H≤2^64 - 1→H / 2^s≤2^56 - 1:=fun H hH=>Nat.le_trans (Nat.div_le_div_left h3 (by decide)) (by omega)
  unfold usc
  simp only
  split
  · have:=or_le1 (x*hi / 2^64 / 2^s) (Nat.le_refl 1)
    have:=g _ h2
    omega
  · refine Nat.le_trans (or_le1 _ (by split <;> omega)) ?_
    have:=g (x*hi / 2^64 - (if x*hi % 2^64<x*lo / 2^64 then 1 else 0)) (by split <;> omega)
    omega
theorem sc_one (u:Nat):u / 2^k1 u ||| u % 2=SC u:=by
  unfold k1 SC
  split
  · rfl
  · rw [Nat.pow_zero,Nat.div_one,←Nat.and_one_is_mod]
    exact Nat.eq_of_testBit_eq fun i=>by rw [Nat.testBit_or,Nat.testBit_and];cases u.testBit i <;> rfl
theorem SC_le (u:Nat) (h:u≤2^56):SC u≤2^56:=by
  unfold SC
  split
  · have:=or_le1 (u / 2) (show u % 2≤1 by omega);omega
  · exact h
theorem k1_le (u:Nat):k1 u≤1:=by unfold k1;split <;> omega
theorem parse64x_walk {z sg:Nat}{p:Int}(hz:0<z) (hz64:z<2^64) (hp: -345≤p∧p≤310) (hsg:sg<2^64) (w0:World) (hV:TabX w0.heap.size w0):
    Calls Tryz.prog 217 #[.int .u64 (z:Int),.int .i64 p,.int .u64 (sg:Int)] w0 (Ret fun v w'=>v= .tuple #[.float .f64 (FX sg z p).1,erV (FX sg z p).2]∧Below w0.heap.size w0 w'):=by
 have hM:=MS0 w0
 obtain ⟨b1,b2,b3⟩:=bl_rng hz
 have b4:=bl_le hz64
 obtain ⟨_,hh1,hh2,hl2⟩:=rowT (p:=p) (by omega)
 have hlg: -2000≤lg p∧lg p≤2000:=by unfold lg;omega
 have hex:eX z p=min 1074 (53 - (bl z:Int) - lg p):=rfl
 have hsx:sX z p= -(eX z p - (64 - (bl z:Int))+lg p+3):=rfl
 have hs8:8≤sX z p∧sX z p≤4000:=by omega
 have hx64:z*2^(64 - bl z)<2^64:=by have:=Nat.mul_lt_mul_of_pos_right b2 (Nat.pow_pos (n:=64 - bl z) (show 0<2 by decide));rw [←Nat.pow_add,show bl z+(64 - bl z)=64 by omega] at this;exact this
 have hx63:2^63≤z*2^(64 - bl z):=by have:=Nat.mul_le_mul_right (2^(64 - bl z)) b1;rw [←Nat.pow_add,show bl z - 1+(64 - bl z)=63 by omega] at this;exact this
 refine enter (l:=[.int .u64 (z:Int),.int .i64 p,.int .u64 (sg:Int)]) 60 Tryz.func217 rfl rfl (Sq (Rg (Md 2 [0,1,2] rfl (Nx (Sq (Rg (Mv 1 rfl (Cm hM rfl rfl rfl (len64x_walk z hz64 _) ?_))))))))
 clear hM;intro w v hR hM hBe
 obtain rfl:=hR
 refine Md 1 [0,1,2,8] rfl (Nx (Sq (Rg (Mv 1 rfl (Cm hM rfl rfl rfl (log2x_walk p (by omega) _) ?_)))))
 clear hM;intro w v hR hM hBe
 obtain rfl:=hR
 refine Md 1 [0,1,2,8,9] rfl (Nx (Sq (Rg (Mv 1 rfl (Sm (53 - (bl z:Int)) rfl (by omega) (Mv 1 rfl (Sm (53 - (bl z:Int) - lg p) rfl (by omega) ?_)))))));intro a hF
 refine op_min hF rfl ((eX z p)) rfl rfl rfl rfl rfl (by rw [hex];split <;> omega) ?_;clear hF a;intro a hF
 revert a;refine Md 1 [0,1,2,8,9,10] rfl (Nx (Sq (Rg ?_)));intro a hF
 refine op_alloc hF hM rfl (vs:=[.int .u64 0,.int .u64 0,.int .i64 0]) rfl rfl rfl (by kernel_rfl) ?_;clear hF hM a;intro a w b11 hF hM
 revert a;refine Md 0 [0,1,2,8,9,10,11] rfl (Nx (Sq (Rg (Mv 2 rfl (Sm (((64 - bl z:Nat):Int)) rfl (by omega) (Sm ((eX z p - (64 - (bl z:Int)))) rfl (by omega) (Mv 2 rfl (Cl rfl rfl rfl (prescalex_walk hV _ p (lg p) (by omega) (by omega) (by omega) hM) ?_))))))))
 clear hM;intro w v hR
 obtain ⟨rfl,hM⟩:=hR
 rw [←hsx] at hM
 refine Md 0 [0,2,8,10,11] rfl (Nx (Sq (Sq (Rg (Mv 1 rfl (Ld hM 0 rfl rfl (Md 1 [0,2,8,10,11,32] rfl (Nx (Cd rfl (fun ht=> ?_) ((fun ht=> ?_)))))))))))
 ·
  have hge:64≤sX z p:=of_decide_eq_true ht
  have hfx:FX sg z p=(sg,false):=by unfold FX;rw [if_pos hge]
  refine Sq (Rg (Mv 1 rfl (Gv rfl (fun _ hF=>gives_bits (((sg:Nat):Int)) hF rfl rfl rfl (by have:=or_u64 hsg (q:=0) (by decide);rw [Nat.or_zero] at this;exact this) _) ?_)));intro a hF
  refine op_frombits hF rfl rfl rfl rfl rfl ?_;clear hF a;intro a hF
  revert a;exact Md 2 [6,7] rfl (Nx (Re (Rt (Y2 rfl rfl rfl ⟨_,rfl,by first | (rw [hfx];done) | (rw [hfx];rfl),hM.below⟩))))
 have hlt: ¬ 64≤sX z p:=of_decide_eq_false ht
 obtain ⟨s,hs⟩:∃ s:Nat,sX z p=(s:Int):=⟨(sX z p).toNat,by omega⟩
 rw [hs] at hM
 have hsn:(sX z p).toNat=s:=by omega
 obtain ⟨u,hu⟩:∃ u,u=usc (z*2^(64 - bl z)) (hiT p) (loT p) s:=⟨_,rfl⟩
 have huT:uT z p=u:=by unfold uT uX;rw [hsn,hu]
 have hu56:u≤2^56:=by rw [hu];exact usc_56 hx64 hh2 (by omega)
 have hsc:=SC_le u hu56
 have hk:=k1_le u
 have hrn:RND (SC u)≤2^56:=by unfold RND;omega
 have hfx:FX sg z p=PK (sg ||| RND (SC u)) (-(eX z p - (k1 u:Int))):=by unfold FX;rw [if_neg hlt,huT]
 refine Sk (Nx (Sq (Rg (Mv 2 rfl (Sm (((64 - bl z:Nat):Int)) rfl (by omega) (Gv rfl (fun _ hF=>gives_shl ((64 - bl z)) (((z*2^(64 - bl z):Nat):Int)) hF rfl rfl rfl rfl (by rw [show min (64 - bl z) IntKind.u64.bits=64 - bl z from Nat.min_eq_left (by show 64 - bl z≤64;omega),show ((2:Int)^(64 - bl z))=((2^(64 - bl z):Nat):Int) by simp,←Int.natCast_mul,IntWalk.u64_in _ ⟨by omega,by omega⟩]) _) (Cl rfl rfl rfl (uscalex_walk hx64 hx63 hh2 hh1 hl2 (by omega) hM) ?_)))))))
 clear hM;intro w v hR
 obtain ⟨rfl,hM⟩:=hR
 intro a hF
 rw [←hu] at hF
 revert a;refine Md 1 [2,10,12] rfl (Nx (Sq (Rg (Mv 1 rfl (Cm hM rfl rfl rfl (unminx_walk _) ?_)))))
 clear hM;intro w v hR hM hBe
 obtain rfl:=hR
 refine Mv 1 rfl (Cm hM rfl rfl rfl (bool2i_walk _ _) ?_)
 clear hM;intro w v hR hM hBe
 obtain rfl:=hR
 intro a hF
 rw [show (if decide ((u:Int)≥36028797018963966)=true then (1:Int) else 0)=((k1 u:Nat):Int) by unfold k1;by_cases h:36028797018963966≤u;(rw [if_pos h,if_pos (decide_eq_true (by omega))];rfl);(rw [if_neg h,if_neg (by rw [decide_eq_true_iff];omega)];rfl)] at hF
 revert a;refine Md 1 [2,10,12,13] rfl (Nx (Sq (Rg (Mv 2 rfl (Gv rfl (fun _ hF=>gives_shr ((k1 u)) (((u / 2^k1 u:Nat):Int)) hF rfl rfl rfl rfl (shr_n (k1 u) (by omega)) _) (Mv 1 rfl (Gv rfl (fun _ hF=>gives_bits (((u % 2:Nat):Int)) hF rfl rfl rfl (and_1 (by omega)) _) (Gv rfl (fun _ hF=>gives_bits (((SC u:Nat):Int)) hF rfl rfl rfl (by have:=or_u64 (p:=u / 2^k1 u) (q:=u % 2) (Nat.lt_of_le_of_lt (Nat.div_le_self _ _) (by omega)) (by omega);rw [sc_one] at this;exact this) _) (Md 1 [2,10,12,13] rfl (Nx (Sq (Rg (Mv 2 rfl (Sm ((eX z p - (k1 u:Int))) rfl (by omega) (Md 1 [2,10,12] rfl (Nx (Sq (Rg (Mv 2 rfl (Cm hM rfl rfl rfl (roundx_walk (u:=SC u) (by omega) _) ?_))))))))))))))))))))
 clear hM;intro w v hR hM hBe
 obtain rfl:=hR
 refine Gv rfl (fun _ hF=>gives_bits (((sg ||| RND (SC u):Nat):Int)) hF rfl rfl rfl (or_u64 hsg (by omega)) _) (Mv 1 rfl (Gv rfl (fun _ hF=>gives_neg hF rfl rfl ((-(eX z p - (k1 u:Int)))) (by rw [wrap_i64 (by omega) (by omega)];omega) _) (Cm hM rfl rfl rfl (packx_walk (Nat.or_lt_two_pow hsg (by omega)) (by omega) _) ?_)))
 clear hM;intro w v hR hM hBe
 obtain rfl:=hR
 exact Md 4 [6,7] rfl (Nx (Re (Y2 rfl rfl rfl ⟨_,rfl,by first | (rw [hfx];done) | (rw [hfx];rfl),hM.below⟩)))
def SgOk (sg:Nat):Prop:=sg=0∨sg=2^63
theorem SgOk.bit {sg i:Nat}(h:SgOk sg) (hi:i≠63):sg.testBit i=false:=by
  rcases h with rfl | rfl
  · simp
  · rw [Nat.testBit_two_pow];exact decide_eq_false (fun e=>hi e.symm)
theorem SgOk.lt {sg:Nat}(h:SgOk sg):sg<2^64:=by rcases h with rfl | rfl <;> decide
theorem and52 {x:Nat}:x&&&4503599627370496=0↔ ¬ x / 2^52 % 2=1:=by
  have hb:x.testBit 52=decide (x / 2^52 % 2=1):=Nat.testBit_eq_decide_div_mod_eq
  constructor
  · intro h h2
    have h3:(x&&&4503599627370496).testBit 52=true:=by
      rw [Nat.testBit_and,hb,decide_eq_true h2,show (4503599627370496:Nat)=2^52 from rfl,Nat.testBit_two_pow];rfl
    rw [h] at h3
    simp at h3
  · intro h
    refine Nat.eq_of_testBit_eq fun i=> ?_
    rw [Nat.testBit_and,show (4503599627370496:Nat)=2^52 from rfl,Nat.testBit_two_pow,Nat.zero_testBit]
    by_cases hi:52=i
    · rw [←hi,hb,decide_eq_false h];rfl
    · rw [decide_eq_false hi,Bool.and_false]
theorem sg52 {sg r:Nat}(h:SgOk sg):(sg ||| r) / 2^52 % 2=1↔r / 2^52 % 2=1:=by
  have h1:(sg ||| r).testBit 52=r.testBit 52:=by rw [Nat.testBit_or,h.bit (by decide),Bool.false_or]
  rw [Nat.testBit_eq_decide_div_mod_eq,Nat.testBit_eq_decide_div_mod_eq] at h1
  simpa using h1
theorem fx_err {sg z:Nat}{p:Int}(h:SgOk sg):(FX sg z p).2=E64 (hiT p) (loT p) z p:=by
  unfold FX E64 rX
  by_cases h1:64≤sX z p
  · rw [if_pos h1,decide_eq_false (show ¬ sX z p<64 by omega)];rfl
  · rw [if_neg h1,decide_eq_true (show sX z p<64 by omega),Bool.true_and]
    show (PK _ _).2=_
    unfold PK
    show (if (sg ||| RND (SC (uX (hiT p) (loT p) z p)))&&&4503599627370496=0 then _ else _:Nat×Bool).2=_
    by_cases h2:RND (SC (uX (hiT p) (loT p) z p)) / 2^52 % 2=1
    · rw [if_neg (fun h3=>and52.1 h3 ((sg52 h).2 h2)),decide_eq_true h2,Bool.true_and]
      by_cases h4:972≤ -(eX z p - (k1 (uT z p):Int))
      · rw [if_pos h4];exact (decide_eq_true h4).symm
      · rw [if_neg h4];exact (decide_eq_false h4).symm
    · rw [if_pos (and52.2 (fun h3=>h2 ((sg52 h).1 h3))),decide_eq_false h2];rfl
theorem fx_big {sg z:Nat}{p:Int}(h:SgOk sg) (hz:0<z) (hz64:z<2^64) (hp: -345≤p∧p≤310):(FX sg z p).2=true↔big z p:=by
  rw [fx_err h]
  refine e64_law hz hz64 hp (fun h9=> ?_)
  have:=chkT (n:=p.toNat) (by omega)
  rw [show ((p.toNat:Nat):Int)=p by omega] at this
  exact this
theorem sg63 {sg r:Nat}(h:SgOk sg) (hr:r<2^63):(sg ||| r)&&&9223372036854775808=sg:=by
  refine Nat.eq_of_testBit_eq fun i=> ?_
  rw [Nat.testBit_and,Nat.testBit_or,show (9223372036854775808:Nat)=2^63 from rfl,Nat.testBit_two_pow]
  by_cases hi:63=i
  · rw [←hi,Nat.testBit_lt_two_pow hr];simp
  · rw [decide_eq_false hi,Bool.and_false,h.bit (fun e=>hi e.symm)]
theorem mask_bit {i:Nat}:(18446744073709551615 - 4503599627370496:Nat).testBit i=(decide (i<64)&& !decide (52=i)):=by
  have e:(18446744073709551615 - 4503599627370496:Nat)=2^52*(2^11 - 1)*2+(2^52 - 1):=by decide
  rcases Nat.lt_or_ge i 64 with h | h
  · have g:((List.range 64).all fun i=>(18446744073709551615 - 4503599627370496:Nat).testBit i==(decide (i<64)&& !decide (52=i)))=true:=by decide+kernel
    exact eq_of_beq (List.all_eq_true.1 g i (List.mem_range.2 h))
  · rw [Nat.testBit_lt_two_pow (Nat.lt_of_lt_of_le (show (18446744073709551615 - 4503599627370496:Nat)<2^64 by decide) (Nat.pow_le_pow_right (by decide) h)),decide_eq_false (by omega)];rfl
theorem sg_clr {sg f:Nat}(h:SgOk sg) (hf:f<2^52):(sg ||| (2^52+f))&&&(18446744073709551615 - 4503599627370496)=sg ||| f:=by
  have e:2^52+f=2^52 ||| f:=by have:=Nat.two_pow_add_eq_or_of_lt hf 1;rwa [Nat.mul_one] at this
  refine Nat.eq_of_testBit_eq fun i=> ?_
  rw [e,Nat.testBit_and,mask_bit,Nat.testBit_or,Nat.testBit_or,Nat.testBit_or,Nat.testBit_two_pow]
  by_cases hi:52=i
  · rw [←hi,h.bit (by decide),Nat.testBit_lt_two_pow hf];rfl
  · rw [decide_eq_false hi,Bool.false_or]
    rcases Nat.lt_or_ge i 64 with h1 | h1
    · rw [decide_eq_true h1];simp
    · rw [Nat.testBit_lt_two_pow (Nat.lt_of_lt_of_le h.lt (Nat.pow_le_pow_right (by decide) h1)),Nat.testBit_lt_two_pow (Nat.lt_of_lt_of_le hf (Nat.pow_le_pow_right (by decide) (by omega)))];rfl
theorem sg_or {sg y:Nat}(h:SgOk sg) (hy:y<2^63):sg ||| y=sg+y:=by
  rcases h with rfl | rfl
  · simp
  · have:=Nat.two_pow_add_eq_or_of_lt hy 1
    rw [Nat.mul_one] at this
    exact this.symm
theorem read_fin {sg y:Nat}(h:SgOk sg) (hy:y<9218868437227405312):∃ n m i,Ieee.double.read (sg+y)= .number n m i:=by
  have e:(sg+y) % Ieee.double.signWeight=y:=by
    show (sg+y) % 2^63=y
    rcases h with rfl | rfl <;> omega
  unfold Ieee.Format.read
  simp only [e]
  have h1:Ieee.double.infRung=9218868437227405312:=by decide
  split
  · exact ⟨_,_,_,rfl⟩
  · rw [h1,if_pos hy];exact ⟨_,_,_,rfl⟩
theorem read_inf {sg:Nat}(h:SgOk sg):∃ n,Ieee.double.read (sg+9218868437227405312)= .infinity n:=by
  rcases h with rfl | rfl
  · exact ⟨false,by decide+kernel⟩
  · exact ⟨true,by decide+kernel⟩
theorem fx_bits {sg z n:Nat}(h:SgOk sg) (hz:0<z) (hz64:z<2^64) (hn:289≤n∧n≤310):
    ((FX sg z (n:Int)).2=true→∃ s,Ieee.double.read (FX sg z (n:Int)).1= .infinity s)∧((FX sg z (n:Int)).2=false→∃ s m i,Ieee.double.read (FX sg z (n:Int)).1= .number s m i):=by
  obtain ⟨_,hr1,hr2,hs8⟩:=e64_parts hz hz64 hn (chkT hn)
  unfold rX at hr1 hr2
  obtain ⟨b1,b2,b3⟩:=bl_rng hz
  have b4:=bl_le hz64
  have hk:=k1_le (uT z (n:Int))
  have hlg:0≤lg (n:Int)∧lg (n:Int)≤2000:=by unfold lg;omega
  have hex:eX z (n:Int)=min 1074 (53 - (bl z:Int) - lg (n:Int)):=rfl
  unfold FX
  rw [if_neg (by omega)]
  unfold uT
  generalize hR:RND (SC (uX (hiT (n:Int)) (loT (n:Int)) z (n:Int)))=r at hr1 hr2
  unfold uT at hk
  unfold PK
  rw [if_neg (fun h3=>and52.1 h3 ((sg52 h).2 (by omega)))]
  split
  · next h4=>
    refine ⟨fun _=> ?_,fun h5=>by cases h5⟩
    show ∃ s,Ieee.double.read (((sg ||| r)&&&9223372036854775808) ||| 9218868437227405312)=_
    rw [sg63 h (by omega),sg_or h (by decide)]
    exact read_inf h
  · next h4=>
    refine ⟨(fun h5=>by cases h5),fun _=> ?_⟩
    obtain ⟨f,rfl⟩:∃ f,r=2^52+f:=⟨r - 2^52,by omega⟩
    obtain ⟨E,hE⟩:∃ E,E=(1075+ -(eX z (n:Int) - (k1 (uX (hiT (n:Int)) (loT (n:Int)) z (n:Int)):Int))).toNat:=⟨_,rfl⟩
    show ∃ s m i,Ieee.double.read (((sg ||| (2^52+f))&&&(18446744073709551615 - 4503599627370496)) ||| (_*2^52))=_
    rw [←hE,sg_clr h (by omega),Nat.or_assoc]
    have e2:f ||| E*2^52=2^52*E+f:=by rw [Nat.or_comm,Nat.mul_comm];exact (Nat.two_pow_add_eq_or_of_lt (show f<2^52 by omega) E).symm
    rw [e2,sg_or h (by omega)]
    exact read_fin h (by omega)
theorem feq_inf {x y:Nat}{s t:Bool}{m:Nat}{i:Int}(hx:Ieee.double.read x= .infinity s) (hy:Ieee.double.read y= .number t m i):Op.floatEq .f64 x y=false∧Op.floatEq .f64 y x=false:=by
  constructor
  · show (Ieee.double.order x y==some .eq)=false
    unfold Ieee.Format.order
    rw [hx,hy]
    cases s <;> rfl
  · show (Ieee.double.order y x==some .eq)=false
    unfold Ieee.Format.order
    rw [hx,hy]
    cases s <;> rfl
theorem fx_same {sg z y:Nat}{p:Int}(h:SgOk sg) (hz:0<z) (hz64:z<2^64) (hy:0<y) (hy64:y<2^64) (hp: -345≤p∧p≤310) (he:Op.floatEq .f64 (FX sg z p).1 (FX sg y p).1=true):(FX sg z p).2=(FX sg y p).2:=by
  rcases Int.lt_or_le p 289 with h9 | h9
  · have g:∀ {x:Nat},0<x→x<2^64→(FX sg x p).2=false:=fun {x} h1 h2=>by
      cases hb:(FX sg x p).2 with
      | false=>rfl
      | true=>exact absurd ((fx_big h h1 h2 hp).1 hb) (big_low (a:=20) (Nat.lt_of_lt_of_le h2 (by decide)) (by omega))
    rw [g hz hz64,g hy hy64]
  · obtain ⟨n,rfl⟩:∃ n:Nat,p=(n:Int):=⟨p.toNat,by omega⟩
    have h1:=fx_bits h hz hz64 (n:=n) (by omega)
    have h2:=fx_bits h hy hy64 (n:=n) (by omega)
    cases hb:(FX sg z (n:Int)).2 with
    | false =>
      cases hc:(FX sg y (n:Int)).2 with
      | false=>rfl
      | true =>
        obtain ⟨s,m,i,e1⟩:=h1.2 hb
        obtain ⟨t,e2⟩:=h2.1 hc
        rw [(feq_inf e2 e1).2] at he
        cases he
    | true =>
      cases hc:(FX sg y (n:Int)).2 with
      | true=>rfl
      | false =>
        obtain ⟨s,e1⟩:=h1.1 hb
        obtain ⟨t,m,i,e2⟩:=h2.2 hc
        rw [(feq_inf e1 e2).1] at he
        cases he
end Go.Sx
namespace Js
def Zs (s:Str):Str:=s.dropWhile (· ==48)
def lz (s:Str):Nat:=(s.takeWhile (· ==48)).length
theorem Zs_snoc (s:Str) (c:UInt8):Zs (s++ [c])=if Zs s=[] then (if c=48 then [] else [c]) else Zs s++ [c]:=by
  induction s with
  | nil=>by_cases h:c=48 <;> simp [Zs,h]
  | cons d s ih =>
    by_cases h:d=48
    · simp only [Zs,List.cons_append,List.dropWhile_cons,h,beq_self_eq_true,if_true] at ih ⊢
      exact ih
    · have hb:(d==48)=false:=by simpa using h
      simp [Zs,List.dropWhile_cons,hb]
theorem Zs_48 (s:Str):Zs (48::s)=Zs s:=by simp [Zs,List.dropWhile_cons]
theorem lz_48 (s:Str):lz (48::s)=lz s+1:=by simp [lz,List.takeWhile_cons]
theorem Zs_ne {d:UInt8}(h:d≠48) (s:Str):Zs (d::s)=d::s:=by
  have hb:(d==48)=false:=by simpa using h
  simp [Zs,List.dropWhile_cons,hb]
theorem lz_ne {d:UInt8}(h:d≠48) (s:Str):lz (d::s)=0:=by
  have hb:(d==48)=false:=by simpa using h
  simp [lz,List.takeWhile_cons,hb]
theorem lz_snoc (s:Str) (c:UInt8):lz (s++ [c])=if Zs s=[]∧c=48 then lz s+1 else lz s:=by
  induction s with
  | nil=>by_cases h:c=48 <;> simp [Zs,lz,h]
  | cons d s ih =>
    by_cases h:d=48
    · rw [h,List.cons_append,lz_48,ih,Zs_48,lz_48]
      by_cases hq:Zs s=[]∧c=48
      · rw [if_pos hq,if_pos hq]
      · rw [if_neg hq,if_neg hq]
    · rw [List.cons_append,lz_ne h,lz_ne h,Zs_ne h,if_neg (by simp)]
theorem Zs_len (s:Str):(Zs s).length+lz s=s.length:=by
  have:=congrArg List.length (List.takeWhile_append_dropWhile (p:=(· ==48)) (l:=s))
  rw [List.length_append] at this
  unfold Zs lz;omega
theorem Zs_append (s t:Str):Zs (s++t)=if Zs s=[] then Zs t else Zs s++t:=by
  induction s with
  | nil=>simp [Zs]
  | cons d s ih =>
    by_cases h:d=48
    · simp only [Zs,List.cons_append,List.dropWhile_cons,h,beq_self_eq_true,if_true] at ih ⊢
      exact ih
    · have hb:(d==48)=false:=by simpa using h
      simp [Zs,List.dropWhile_cons,hb]
theorem Zs_digs {s:Str}(h:Digs s):Digs (Zs s):=fun c hc=>h c ((List.dropWhile_sublist _).subset hc)
theorem Zs_head {s:Str}:(Zs s).head?≠some 48:=by
  intro h
  unfold Zs at h
  have:=List.head?_dropWhile_not (· ==48) s
  rw [h] at this
  simp at this
theorem Zs_worth (s:Str):worth (Zs s)=worth s:=by
  induction s with
  | nil=>rfl
  | cons d s ih =>
    by_cases h:d=48
    · simp only [Zs,List.dropWhile_cons,h,beq_self_eq_true,if_true] at ih ⊢
      rw [ih,worth,show dg 48=0 from rfl,Nat.zero_mul,Nat.zero_add]
    · have hb:(d==48)=false:=by simpa using h
      simp [Zs,List.dropWhile_cons,hb]
def nz (s:Str):Bool:=s.any (· !=48)
theorem nz_zero {s:Str}(h:nz s=false):worth s=0:=by
  induction s with
  | nil=>rfl
  | cons c s ih =>
    unfold nz at h ih
    rw [List.any_cons,Bool.or_eq_false_iff] at h
    have hc:c=48:=by simpa using h.1
    rw [worth,ih h.2,hc];simp [dg]
def dpC (cap:Nat) (I fd D:Str) (fr:Nat) (seen:Bool):Int:=if seen then ((min cap (Zs I).length:Nat):Int) - (if Zs I=[] then ((lz (fd.take fr):Nat):Int) else 0) else -((lz D:Nat):Int)
def dpF (cap:Nat) (I fd:Str):Int:=if fd=[] then ((min cap (Zs I).length:Nat):Int) else ((min cap (Zs I).length:Nat):Int) - (if Zs I=[] then ((lz fd:Nat):Int) else 0)
theorem dpC_dig0 {cap:Nat}{I fd D:Str}{fr:Nat}{seen:Bool}{c:UInt8}(h:seen=true→D=I++fd.take fr∧fd.take (fr+1)=fd.take fr++ [c]) (h1:Zs D=[]) (h2:c=48):dpC cap I fd (D++ [c]) (if seen then fr+1 else fr) seen=dpC cap I fd D fr seen - 1:=by
  unfold dpC
  cases seen with
  | false=>simp [lz_snoc,h1,h2];omega
  | true =>
    obtain ⟨h3,h4⟩:=h rfl
    rw [h3,Zs_append] at h1
    have hI:Zs I=[]:=by by_cases hh:Zs I=[];exact hh;rw [if_neg hh] at h1;exact absurd (List.append_eq_nil_iff.1 h1).1 hh
    rw [if_pos hI] at h1
    simp only [if_true,hI,h4,lz_snoc,h1,h2,and_self]
    simp;omega
theorem dpC_dig {cap:Nat}{I fd D:Str}{fr:Nat}{seen:Bool}{c:UInt8}(h:seen=true→D=I++fd.take fr∧fd.take (fr+1)=fd.take fr++ [c]) (h1: ¬ (Zs D=[]∧c=48)):dpC cap I fd (D++ [c]) (if seen then fr+1 else fr) seen=dpC cap I fd D fr seen:=by
  unfold dpC
  cases seen with
  | false=>simp [lz_snoc,h1]
  | true =>
    obtain ⟨h3,h4⟩:=h rfl
    simp only [if_true,h4,lz_snoc]
    by_cases hI:Zs I=[]
    · rw [if_pos hI,if_pos hI]
      rw [h3,Zs_append,if_pos hI] at h1
      rw [if_neg h1]
    · rw [if_neg hI,if_neg hI]
def capE:Nat→Str→Nat
  | e,[]=>e
  | e,c::r=>capE (if e<10000 then e*10+dg c else e) r
theorem capE_snoc (e:Nat) (s:Str) (c:UInt8):capE e (s++ [c])=if capE e s<10000 then capE e s*10+dg c else capE e s:=by
  induction s generalizing e with
  | nil=>rfl
  | cons d s ih=>rw [List.cons_append,capE,ih,capE]
theorem capE_le {s:Str}(h:Digs s):∀ {e},e<100000→capE e s<100000:=by
  induction s with
  | nil=>intro e he;exact he
  | cons d s ih =>
    intro e he
    rw [capE]
    have:=dg_lt h.head
    exact ih h.tail (by split <;> omega)
theorem capE_is {s:Str}(h:Digs s):∀ {e:Nat},(capE e s=e*10^s.length+worth s)∨(10000≤capE e s∧capE e s≤e*10^s.length+worth s):=by
  induction s with
  | nil=>intro e;left;simp [capE,worth]
  | cons d s ih =>
    intro e
    rw [capE,List.length_cons,worth]
    have hp:0<10^s.length:=Nat.pow_pos (by decide)
    by_cases he:e<10000
    · rw [if_pos he]
      have e1:e*10^(s.length+1)+(dg d*10^s.length+worth s)=(e*10+dg d)*10^s.length+worth s:=by rw [Nat.pow_succ,Nat.add_mul,Nat.mul_comm (10^s.length) 10,Nat.mul_assoc];omega
      rw [e1]
      exact ih h.tail
    · rw [if_neg he]
      right
      have h3:e*10^s.length≤e*10^(s.length+1):=Nat.mul_le_mul_left _ (Nat.pow_le_pow_right (by decide) (by omega))
      have h4:e≤e*10^s.length:=Nat.le_mul_of_pos_right _ hp
      rcases ih h.tail (e:=e) with h5 | ⟨h5,h6⟩ <;> omega
def ExCap (E:Str) (k':Int):Prop:=(E=[]∧k'=0)∨∃ c pw neg ds,(c=101∨c=69)∧E=c::pw∧PwOf pw neg ds∧k'=sgn neg (capE 0 ds)
structure RSt (pre:Nat) (I fd:Str) (i:Nat) (D:Str) (fr:Nat) (seen:Bool):Prop where
  pos:i=pre+D.length+(if seen then 1 else 0)
  no:seen=false→D.length≤I.length∧D=I.take D.length
  yes:seen=true→D=I++fd.take fr∧fr≤fd.length∧fd≠ []
  digs:Digs D
theorem RSt.start (pre:Nat) (I fd:Str):RSt pre I fd pre [] 0 false:=⟨rfl,fun _=>⟨Nat.zero_le _,rfl⟩,(fun h=>by cases h),fun c hc=>by simp at hc⟩
structure RDn (s I fd E:Str) (i:Nat) (D:Str) (fr:Nat) (seen:Bool):Prop where
  all:D=I++fd
  rest:s.drop i=E
  yes:seen=true→fr=fd.length∧fd≠ []
  no:seen=false→fd=[]
section
variable {s:Str}{pre i:Nat}{I fd E D:Str}{fr:Nat}{seen:Bool}
theorem drop_at0 {s t:Str}{pre k:Nat}(hs:s.drop pre=t):s[pre+k]?=t[k]?:=by rw [←hs,List.getElem?_drop]
theorem RSt.len (h:RSt pre I fd i D fr seen):(seen=true→D.length=I.length+fr):=fun h1=>by
  obtain ⟨e,h2,_⟩:=h.yes h1
  have:=congrArg List.length e
  rw [List.length_append,List.length_take] at this
  omega
theorem RSt.next {c:UInt8}(hs:s.drop pre=I++(pt fd++E)) (h:RSt pre I fd i D fr seen) (hI:Digs I) (hf:Digs fd) (hE:∀ c,E.head?=some c→c=101∨c=69) (hc:s[i]?=some c):
    (isDig c=true∧RSt pre I fd (i+1) (D++ [c]) (if seen then fr+1 else fr) seen∧(seen=true→D=I++fd.take fr∧fd.take (fr+1)=fd.take fr++ [c]))∨(c=46∧seen=false∧D=I∧RSt pre I fd (i+1) D 0 true)∨((c=101∨c=69)∧RDn s I fd E i D fr seen):=by
  have hp:=h.pos
  have drop2:∀ k,i=pre+k→s.drop i=(I++(pt fd++E)).drop k:=fun k hk=>by rw [←hs,List.drop_drop,hk]
  cases seen with
  | false =>
    obtain ⟨h1,h2⟩:=h.no rfl
    simp only [Bool.false_eq_true,if_false,Nat.add_zero] at hp ⊢
    rw [hp,drop_at0 hs] at hc
    rcases Nat.lt_or_ge D.length I.length with h3 | h3
    · rw [List.getElem?_append_left h3] at hc
      have hd:=hI c (List.mem_of_getElem? hc)
      have e2:D++ [c]=I.take (D++ [c]).length:=by rw [List.length_append,List.length_singleton,take_next hc,←h2]
      exact .inl ⟨hd,⟨by simp;omega,fun _=>⟨by simp;omega,e2⟩,(fun h=>by cases h),h.digs.append fun x hx=>by rw [List.mem_singleton.1 hx];exact hd⟩,fun h=>by cases h⟩
    · have e1:D=I:=by rw [h2];exact List.take_of_length_le h3
      rw [List.getElem?_append_right h3,e1,Nat.sub_self] at hc
      right
      by_cases h4:fd=[]
      · right
        unfold pt at hc
        rw [if_pos h4,List.nil_append] at hc
        refine ⟨hE c (by rw [List.head?_eq_getElem?];exact hc),⟨by rw [h4,List.append_nil];exact e1,?_,(fun h=>by cases h),fun _=>h4⟩⟩
        rw [drop2 _ hp,e1,List.drop_left]
        unfold pt
        rw [if_pos h4];rfl
      · left
        unfold pt at hc
        rw [if_neg h4] at hc
        exact ⟨(Option.some.inj hc).symm,by simp,e1,⟨by simp;omega,(fun h=>by cases h),fun _=>⟨by simp [e1],Nat.zero_le _,h4⟩,h.digs⟩⟩
  | true =>
    obtain ⟨h1,h2,h3⟩:=h.yes rfl
    have hl:=h.len rfl
    simp only [if_true] at hp ⊢
    rw [Nat.add_assoc] at hp
    have hpt:pt fd=46::fd:=by unfold pt;rw [if_neg h3]
    rw [hp,drop_at0 hs,List.getElem?_append_right (by omega),hpt,show D.length+1 - I.length=fr+1 by omega,List.cons_append,List.getElem?_cons_succ] at hc
    rcases Nat.lt_or_ge fr fd.length with h4 | h4
    · rw [List.getElem?_append_left h4] at hc
      have hd:=hf c (List.mem_of_getElem? hc)
      have e3:=take_next hc
      exact .inl ⟨hd,⟨by simp;omega,(fun h=>by cases h),fun _=>⟨by rw [e3,←List.append_assoc,←h1],h4,h3⟩,h.digs.append fun x hx=>by rw [List.mem_singleton.1 hx];exact hd⟩,fun _=>⟨h1,e3⟩⟩
    · right;right
      have e4:fr=fd.length:=by omega
      rw [List.getElem?_append_right h4,e4,Nat.sub_self] at hc
      refine ⟨hE c (by rw [List.head?_eq_getElem?];exact hc),⟨by rw [h1,List.take_of_length_le h4],?_,fun _=>⟨e4,h3⟩,fun h=>by cases h⟩⟩
      rw [drop2 _ hp,show D.length+1=I.length+(fd.length+1) by omega,←List.drop_drop,List.drop_left,hpt,List.cons_append,List.drop_succ_cons,List.drop_left]
theorem RSt.stop (hs:s.drop pre=I++(pt fd++E)) (h:RSt pre I fd i D fr seen) (h0:I≠ []) (hi:s.length≤i):RDn s I fd E i D fr seen:=by
  have hp:=h.pos
  have hl:=congrArg List.length hs
  rw [List.length_drop,List.length_append,List.length_append] at hl
  have hI0:0<I.length:=List.length_pos_iff.2 h0
  have hdr:s.drop i=[]:=List.drop_eq_nil_of_le hi
  cases seen with
  | false =>
    obtain ⟨h1,h2⟩:=h.no rfl
    simp only [Bool.false_eq_true,if_false,Nat.add_zero] at hp
    have e1:D=I:=by rw [h2];exact List.take_of_length_le (by omega)
    have e2:pt fd=[]:=List.length_eq_zero_iff.1 (by omega)
    have e3:E=[]:=List.length_eq_zero_iff.1 (by omega)
    have e4:fd=[]:=by
      by_cases h4:fd=[]
      · exact h4
      · unfold pt at e2;rw [if_neg h4] at e2;cases e2
    exact ⟨by rw [e1,e4,List.append_nil],by rw [hdr,e3],(fun h=>by cases h),fun _=>e4⟩
  | true =>
    obtain ⟨h1,h2,h3⟩:=h.yes rfl
    have hl2:=h.len rfl
    simp only [if_true] at hp
    have hpt:(pt fd).length=fd.length+1:=by unfold pt;rw [if_neg h3];rfl
    have e3:E=[]:=List.length_eq_zero_iff.1 (by omega)
    exact ⟨by rw [h1,List.take_of_length_le (by omega)],by rw [hdr,e3],fun _=>⟨by omega,h3⟩,fun h=>by cases h⟩
end
theorem zs_skip {D:Str}{c:UInt8}(h:Zs D=[]) (hc:c=48):Zs (D++ [c])=[]:=by rw [Zs_snoc,if_pos h,if_pos hc]
theorem zs_push {D:Str}{c:UInt8}(h: ¬ (Zs D=[]∧c=48)):Zs (D++ [c])=Zs D++ [c]:=by
  rw [Zs_snoc]
  by_cases h1:Zs D=[]
  · rw [if_pos h1,if_neg (fun h2=>h ⟨h1,h2⟩),h1];rfl
  · rw [if_neg h1]
def mant (D:Str):Nat:=worth ((Zs D).take 19)
def trc (D:Str):Bool:=nz ((Zs D).drop 19)
theorem mant_lt {D:Str}(h:Digs D):mant D<10^19:=by
  have h1:=worth_lt ((Zs_digs h).take 19)
  have h2:10^((Zs D).take 19).length≤10^19:=Nat.pow_le_pow_right (by decide) (by rw [List.length_take];omega)
  unfold mant;omega
theorem mant_short {D:Str}(h:Digs D) (hl:(Zs D).length<19):mant D<10^18:=by
  have h1:=worth_lt ((Zs_digs h).take 19)
  have h2:10^((Zs D).take 19).length≤10^18:=Nat.pow_le_pow_right (by decide) (by rw [List.length_take];omega)
  unfold mant;omega
theorem mant_skip {D:Str}{c:UInt8}(h:Zs D=[]) (hc:c=48):mant (D++ [c])=mant D:=by unfold mant;rw [zs_skip h hc,h]
theorem mant_next {D:Str}{c:UInt8}(h: ¬ (Zs D=[]∧c=48)) (hl:(Zs D).length<19):mant (D++ [c])=mant D*10+dg c:=by
  unfold mant
  rw [zs_push h,List.take_of_length_le (by simp;omega),worth_snoc,List.take_of_length_le (by omega)]
theorem mant_past {D:Str}{c:UInt8}(hl:19≤(Zs D).length):mant (D++ [c])=mant D:=by
  unfold mant
  rw [zs_push (fun h=>by rw [h.1] at hl;simp at hl),List.take_append_of_le_length hl]
theorem trc_skip {D:Str}{c:UInt8}(h:Zs D=[]) (hc:c=48):trc (D++ [c])=trc D:=by unfold trc;rw [zs_skip h hc,h]
theorem trc_low {D:Str}(hl:(Zs D).length≤19):trc D=false:=by unfold trc;rw [List.drop_eq_nil_of_le hl];rfl
theorem trc_past {D:Str}{c:UInt8}(hl:19≤(Zs D).length):trc (D++ [c])=(trc D || (c !=48)):=by
  unfold trc
  rw [zs_push (fun h=>by rw [h.1] at hl;simp at hl),List.drop_append_of_le_length hl]
  unfold nz
  rw [List.any_append];simp
theorem zlen_skip {D:Str}{c:UInt8}(h:Zs D=[]) (hc:c=48):(Zs (D++ [c])).length=(Zs D).length:=by rw [zs_skip h hc,h]
theorem zlen_push {D:Str}{c:UInt8}(h: ¬ (Zs D=[]∧c=48)):(Zs (D++ [c])).length=(Zs D).length+1:=by rw [zs_push h];simp
theorem zlen_le (D:Str):(Zs D).length≤D.length:=by have:=Zs_len D;omega
theorem zs_nil {D:Str}:Zs D=[]↔(Zs D).length=0:=List.length_eq_zero_iff.symm
theorem lz_le (D:Str):lz D≤D.length:=by have:=Zs_len D;omega
theorem dpC_rng (cap:Nat) (I fd D:Str) (fr:Nat) (seen:Bool): -((D.length+fd.length:Nat):Int)≤dpC cap I fd D fr seen∧dpC cap I fd D fr seen≤(I.length:Int):=by
  have h1:=lz_le D
  have h2:=lz_le (fd.take fr)
  have h3:=zlen_le I
  have h4:(fd.take fr).length≤fd.length:=by rw [List.length_take];omega
  unfold dpC
  split
  · split <;> omega
  · omega
theorem dp_all {cap:Nat}{I fd:Str}(hc:(Zs I).length≤cap):dpF cap I fd=((Zs (I++fd)).length:Int) - (fd.length:Int):=by
  have h1:=Zs_len fd
  unfold dpF
  rw [Nat.min_eq_right hc,Zs_append]
  by_cases h:fd=[]
  · subst h
    rw [if_pos rfl]
    by_cases h2:Zs I=[]
    · rw [if_pos h2,h2];rfl
    · rw [if_neg h2,List.append_nil];simp
  · rw [if_neg h]
    by_cases h2:Zs I=[]
    · rw [if_pos h2,if_pos h2,h2,List.length_nil];omega
    · rw [if_neg h2,if_neg h2,List.length_append];omega
theorem dp_done {cap:Nat}{s I fd E D:Str}{i fr:Nat}{seen:Bool}(h:RDn s I fd E i D fr seen):(if seen then dpC cap I fd D fr seen else ((min cap (Zs D).length:Nat):Int))=dpF cap I fd:=by
  unfold dpF dpC
  cases seen with
  | true =>
    obtain ⟨h1,h2⟩:=h.yes rfl
    simp only [if_true,if_neg h2,h1,List.take_length]
  | false =>
    have h1:=h.no rfl
    rw [h.all,h1,List.append_nil];simp
theorem mant_zero {D:Str}(h:Digs D) (h0:mant D=0):worth D=0:=by
  have h1:Zs D=[]:=by
    cases hz:Zs D with
    | nil=>rfl
    | cons c t =>
      exfalso
      have h2:c≠48:=by
        have:=@Zs_head D
        rw [hz] at this
        simpa using this
      have hd:=Zs_digs h
      rw [hz] at hd
      unfold mant at h0
      rw [hz,show (19:Nat)=18+1 from rfl,List.take_succ_cons] at h0
      have:=worth_pos (l:=t.take 18) hd.head h2
      have:0<10^(t.take 18).length:=Nat.pow_pos (by decide)
      omega
  rw [←Zs_worth,h1];rfl
theorem mant_split {D:Str}(h:Digs D):∃ j r,j=(Zs D).length - 19∧worth D=mant D*10^j+r∧r<10^j∧(trc D=false→r=0):=by
  have e:=worth_append ((Zs D).take 19) ((Zs D).drop 19)
  rw [List.take_append_drop,Zs_worth,List.length_drop] at e
  have h1:=worth_lt ((Zs_digs h).drop 19)
  rw [List.length_drop] at h1
  exact ⟨_,_,rfl,e,h1,fun h2=>nz_zero h2⟩
theorem big_split {d j r V:Nat}{p q:Int}(hV:V=d*10^j+r) (hr:r<10^j) (hp:p=q+j):(big d p→big V q)∧(big V q→big (d+1) p)∧(r=0→(big V q↔big d p)):=by
  subst hV;subst hp
  have h1:big (d*10^j) q↔big d (q+j):=big_shift d j q
  have h2:big ((d+1)*10^j) q↔big (d+1) (q+j):=big_shift (d+1) j q
  refine ⟨fun h=>big_mono (by omega) (h1.2 h),fun h=>h2.1 (big_mono (by rw [Nat.add_mul];omega) h),fun h=> ?_⟩
  rw [h,Nat.add_zero];exact h1
theorem exCap_of {E:Str}{k:Int}(h:ExOf E k):∃ k',ExCap E k'∧ -100000<k'∧k'<100000∧(k'=k∨(10000≤k'∧k'≤k)∨(k'≤ -10000∧k≤k')):=by
  rcases h with ⟨h1,h2⟩ | ⟨c,pw,neg,ds,hc,hE,hp,hk⟩
  · exact ⟨0,.inl ⟨h1,rfl⟩,by omega,by omega,.inl h2.symm⟩
  · have h1:=capE_le hp.1 (e:=0) (by decide)
    have h2:=capE_is hp.1 (e:=0)
    rw [Nat.zero_mul,Nat.zero_add] at h2
    refine ⟨_,.inr ⟨c,pw,neg,ds,hc,hE,hp,rfl⟩,?_,?_,?_⟩
    · unfold sgn;split <;> omega
    · unfold sgn;split <;> omega
    · rw [hk];unfold sgn
      rcases h2 with h2 | ⟨h2,h3⟩
      · left;rw [h2]
      · cases neg with
        | true=>simp only [if_true];right;right;omega
        | false=>simp only [Bool.false_eq_true,if_false];right;left;omega
theorem big_cap {M a:Nat}{k k' f:Int}(hM:M<10^a) (ha:a≤900) (hf:0≤f∧f≤900) (h:k'=k∨(10000≤k'∧k'≤k)∨(k'≤ -10000∧k≤k')):big M (k' - f)↔big M (k - f):=by
  rcases h with h | h | h
  · rw [h]
  · rcases Nat.eq_zero_or_pos M with h0 | h0
    · rw [h0];exact ⟨fun h=>absurd h (big_zero _),fun h=>absurd h (big_zero _)⟩
    · exact ⟨fun _=>big_large h0 (by omega),fun _=>big_large h0 (by omega)⟩
  · exact ⟨fun h1=>absurd h1 (big_low hM (by omega)),fun h1=>absurd h1 (big_low hM (by omega))⟩

end Js