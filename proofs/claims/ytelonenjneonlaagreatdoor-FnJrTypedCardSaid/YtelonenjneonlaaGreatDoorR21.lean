/- Part 21 of the proof of FnJrTyped: the statement Rows.FnJrTypedCardSaid; no further condition. -/
import Derived.Test.YtelonenjneonlaaGreatDoorR20
set_option linter.all false
set_option maxRecDepth 100000
namespace Go.Sx
open Go.RowKit Go.Proofs Js Go.Proofs.YtelonenjneonlaaGreatDoorW.PrintWords
theorem ret_enc {B:Nat}{w00:World}{L':List Bk}{b o:Nat}{tb:TypeId}{vs xs:List Value}{r n:Nat}{K:List (Nat×Value)}{a:Act}{w:World}{fn:Func}{m:Int}(hF:Fr n ((4,.int .i64 m)::K) a) (he:xs=u8s (enc r)∧m=((enc r).length:Int)∧(enc r).length≤4)
    (hM:Mem B w00 ((b,tb,setL vs o xs)::L') w) (h:fn.results= #[.tmp 4]) (ho:o+4≤vs.length):
    bodyPost Tryz.prog fn (Ret fun v w'=>v= .int .i64 ((enc r).length:Int)∧Mem B w00 ((b,tb,vs.take o++u8s (enc r)++vs.drop (o+(enc r).length))::L') w') .ret a w:=by
  obtain ⟨h1,h2,h3⟩:=he
  have hl:xs.length=(enc r).length:=by rw [h1,u8s_length]
  refine ret1 hF h rfl ⟨_,rfl,by rw [h2],?_⟩
  rw [setL_eq xs vs o (by omega),hl,h1] at hM
  exact hM
theorem enc_2 {r:Nat}(h1:128≤r) (h2:r≤2047):[Value.int .u8 ((192+r / 64:Nat):Int),.int .u8 ((128+r % 64:Nat):Int)]=u8s (enc r)∧(2:Int)=((enc r).length:Int)∧(enc r).length≤4:=by
  have e:enc r=[(0xc0+r / 64).toUInt8,(0x80+r % 64).toUInt8]:=by unfold enc;rw [if_neg (by omega),if_pos (by omega)]
  rw [e]
  refine ⟨?_,rfl,by simp⟩
  simp only [u8s,List.map_cons,List.map_nil]
  rw [byte_nat (by omega),byte_nat (by omega)]
theorem enc_3 {r:Nat}(h1:2047<r) (h2:(high r || low r)=false) (h3:r≤65535):[Value.int .u8 ((224+r / 4096:Nat):Int),.int .u8 ((128+r / 64 % 64:Nat):Int),.int .u8 ((128+r % 64:Nat):Int)]=u8s (enc r)∧(3:Int)=((enc r).length:Int)∧(enc r).length≤4:=by
  have e:enc r=[(0xe0+r / 4096).toUInt8,(0x80+r / 64 % 64).toUInt8,(0x80+r % 64).toUInt8]:=by unfold enc;rw [if_neg (by omega),if_neg (by omega),h2,if_neg (by decide),if_pos (by omega)]
  rw [e]
  refine ⟨?_,rfl,by simp⟩
  simp only [u8s,List.map_cons,List.map_nil]
  rw [byte_nat (by omega),byte_nat (by omega),byte_nat (by omega)]
theorem enc_3a {r:Nat}(h1:2047<r) (h2:r<55296):[Value.int .u8 ((224+r / 4096:Nat):Int),.int .u8 ((128+r / 64 % 64:Nat):Int),.int .u8 ((128+r % 64:Nat):Int)]=u8s (enc r)∧(3:Int)=((enc r).length:Int)∧(enc r).length≤4:=
  enc_3 h1 (by simp [high,low];omega) (by omega)
theorem enc_3b {r:Nat}(h1:57343<r) (h2:r≤65535):[Value.int .u8 ((224+r / 4096:Nat):Int),.int .u8 ((128+r / 64 % 64:Nat):Int),.int .u8 ((128+r % 64:Nat):Int)]=u8s (enc r)∧(3:Int)=((enc r).length:Int)∧(enc r).length≤4:=
  enc_3 (by omega) (by simp [high,low];omega) h2
theorem enc_4 {r:Nat}(h1:65535<r) (h2:r≤1114111):[Value.int .u8 ((240+r / 262144:Nat):Int),.int .u8 ((128+r / 4096 % 64:Nat):Int),.int .u8 ((128+r / 64 % 64:Nat):Int),.int .u8 ((128+r % 64:Nat):Int)]=u8s (enc r)∧(4:Int)=((enc r).length:Int)∧(enc r).length≤4:=by
  have e:enc r=[(0xf0+r / 262144).toUInt8,(0x80+r / 4096 % 64).toUInt8,(0x80+r / 64 % 64).toUInt8,(0x80+r % 64).toUInt8]:=by
    unfold enc;rw [if_neg (by omega),if_neg (by omega),if_neg (by simp [high,low];omega),if_neg (by omega)]
  rw [e]
  refine ⟨?_,rfl,by simp⟩
  simp only [u8s,List.map_cons,List.map_nil]
  rw [byte_nat (by omega),byte_nat (by omega),byte_nat (by omega),byte_nat (by omega)]
theorem enc_bad {r:Nat}(h1:55296≤r) (h2:r≤57343):[Value.int .u8 239,.int .u8 191,.int .u8 189]=u8s (enc r)∧(3:Int)=((enc r).length:Int)∧(enc r).length≤4:=by
  have e:enc r=[0xef,0xbf,0xbd]:=by unfold enc;rw [if_neg (by omega),if_neg (by omega),if_pos (by simp [high,low];omega)]
  rw [e]
  exact ⟨rfl,rfl,by decide⟩
theorem encodeNon_walk {B:Nat}{w00:World}{L':List Bk}{b o c sl:Nat}{tb:TypeId}{vs:List Value}(r:Nat) (w0:World) (hM0:Mem B w00 ((b,tb,vs)::L') w0) (hr1:128≤r) (hr2:r≤1114111) (hs4:4≤sl) (ho:o+4≤vs.length):
    Calls Tryz.prog 180 #[.slice (some ⟨b,o,none⟩) sl c,.int .i32 (r:Int)] w0 (Ret fun v w'=>v= .int .i64 ((enc r).length:Int)∧Mem B w00 ((b,tb,vs.take o++u8s (enc r)++vs.drop (o+(enc r).length))::L') w'):=by
 have hM:=hM0
 refine enter (l:=[.slice (some ⟨b,o,none⟩) sl c,.int .i32 (r:Int)]) 100 Tryz.func180 rfl rfl (Sq (Rg (Md 1 [0,1] rfl (Nx (Sq (Rg (Mv 1 rfl ?_)))))));intro a hF
 refine op_conv_to hF rfl rfl rfl rfl Tryz.underlying21 Tryz.underlying186 rfl (IntWalk.u32_in _ ⟨by omega,by omega⟩) ?_;clear hF a;intro a hF
 revert a;refine Md 1 [0,1,5] rfl (Nx (Bo (Sq (Rg (Md 3 [0,1,5,17] rfl (Nx (Cd rfl (fun ht=> ?_) ((fun ht=> ?_)))))))))
 ·
  have h2:r≤2047:=by have:=of_decide_eq_true ht;omega
  refine Sq (Rg (Mv 1 rfl ?_));intro a hF
  refine op_indexAddr_sl hF rfl 1 rfl rfl rfl Tryz.underlying66 (by kernel_rfl) rfl rfl rfl (by omega) ?_;clear hF a;intro a hF
  refine op_load hF hM rfl 0 rfl rfl rfl Tryz.underlying5 rfl rfl rfl (List.getElem?_eq_getElem (by omega)) ?_;clear hF a;intro a hF
  revert a;refine Md 0 [0,1] rfl (Nx (Sq (Rg (Mv 2 rfl ?_))));intro a hF
  refine op_shr hF rfl 6 ((r / 64:Nat):Int) rfl rfl rfl rfl rfl rfl (by rw [show min 6 IntKind.i32.bits=6 from rfl,Int.fdiv_eq_ediv_of_nonneg _ (by decide)];omega) ?_;clear hF a;intro a hF
  revert a;refine Mv 1 rfl ?_;intro a hF
  rw [u8_nat] at hF
  rw [Nat.mod_eq_of_lt (show r / 64<256 by omega)] at hF
  refine op_bits hF rfl _ rfl rfl rfl rfl rfl (or_u8 (p:=192) (q:=r / 64) (by decide) (by omega)) ?_;clear hF a;intro a hF
  rw [or_c0 (by omega)] at hF
  refine op_indexAddr_sl hF rfl 0 rfl rfl rfl Tryz.underlying66 (by kernel_rfl) rfl rfl rfl (by omega) ?_;clear hF a;intro a hF
  refine op_store hF hM rfl 0 rfl rfl (by kernel_rfl) rfl rfl rfl rfl (by first | omega | (simp only [List.length_set];omega)) ?_;clear hF hM a;intro a w hF hM
  revert a;refine Md 0 [0,1] rfl (Nx (Sq (Rg (Mv 3 rfl ?_))));intro a hF
  rw [u8_nat] at hF
  refine op_bits hF rfl _ rfl rfl rfl rfl rfl (and_u8 (p:=r % 256) (q:=63) (Nat.mod_lt _ (by decide)) (by decide)) ?_;clear hF a;intro a hF
  rw [and_3f] at hF
  refine op_bits hF rfl _ rfl rfl rfl rfl rfl (or_u8 (p:=128) (q:=r % 64) (by decide) (by omega)) ?_;clear hF a;intro a hF
  rw [or_80 (by omega)] at hF
  refine op_indexAddr_sl hF rfl 1 rfl rfl rfl Tryz.underlying66 (by kernel_rfl) rfl rfl rfl (by omega) ?_;clear hF a;intro a hF
  refine op_store hF hM rfl 0 rfl rfl (by kernel_rfl) rfl rfl rfl rfl (by first | omega | (simp only [List.length_set];omega)) ?_;clear hF hM a;intro a w hF hM
  revert a;refine Md 0 [] rfl (Nx (Sq (Rg (Md 1 [4] rfl (Nx (Re (Rb ?_)))))));intro a hF
  exact ret_enc hF (enc_2 hr1 h2) hM rfl ho
 have h2:2047<r:=by have:=of_decide_eq_false ht;omega
 refine Sq (Sq (Rg (Md 3 [0,1,5,35] rfl (Nx (Cd rfl (fun ht=> ?_) ((fun ht=> ?_)))))))
 ·
  have h3:r<55296:=by have:=of_decide_eq_true ht;omega
  refine Sk (Nx (D2 rfl (fun ht=>absurd (of_decide_eq_false ht) (by omega)) (Sq (Rg (Mv 1 rfl ?_)))));intro a hF
  refine op_indexAddr_sl hF rfl 2 rfl rfl rfl Tryz.underlying66 (by kernel_rfl) rfl rfl rfl (by omega) ?_;clear hF a;intro a hF
  refine op_load hF hM rfl 0 rfl rfl rfl Tryz.underlying5 rfl rfl rfl (List.getElem?_eq_getElem (by omega)) ?_;clear hF a;intro a hF
  revert a;refine Md 0 [0,1] rfl (Nx (Sq (Rg (Mv 2 rfl ?_))));intro a hF
  refine op_shr hF rfl 12 ((r / 4096:Nat):Int) rfl rfl rfl rfl rfl rfl (by rw [show min 12 IntKind.i32.bits=12 from rfl,Int.fdiv_eq_ediv_of_nonneg _ (by decide)];omega) ?_;clear hF a;intro a hF
  revert a;refine Mv 1 rfl ?_;intro a hF
  rw [u8_nat] at hF
  rw [Nat.mod_eq_of_lt (show r / 4096<256 by omega)] at hF
  refine op_bits hF rfl _ rfl rfl rfl rfl rfl (or_u8 (p:=224) (q:=r / 4096) (by decide) (by omega)) ?_;clear hF a;intro a hF
  rw [or_e0 (by omega)] at hF
  refine op_indexAddr_sl hF rfl 0 rfl rfl rfl Tryz.underlying66 (by kernel_rfl) rfl rfl rfl (by omega) ?_;clear hF a;intro a hF
  refine op_store hF hM rfl 0 rfl rfl (by kernel_rfl) rfl rfl rfl rfl (by first | omega | (simp only [List.length_set];omega)) ?_;clear hF hM a;intro a w hF hM
  revert a;refine Md 0 [0,1] rfl (Nx (Sq (Rg (Mv 2 rfl ?_))));intro a hF
  refine op_shr hF rfl 6 ((r / 64:Nat):Int) rfl rfl rfl rfl rfl rfl (by rw [show min 6 IntKind.i32.bits=6 from rfl,Int.fdiv_eq_ediv_of_nonneg _ (by decide)];omega) ?_;clear hF a;intro a hF
  revert a;refine Mv 1 rfl ?_;intro a hF
  rw [u8_nat] at hF
  refine op_bits hF rfl _ rfl rfl rfl rfl rfl (and_u8 (p:=(r / 64) % 256) (q:=63) (Nat.mod_lt _ (by decide)) (by decide)) ?_;clear hF a;intro a hF
  rw [and_3f] at hF
  refine op_bits hF rfl _ rfl rfl rfl rfl rfl (or_u8 (p:=128) (q:=r / 64 % 64) (by decide) (by omega)) ?_;clear hF a;intro a hF
  rw [or_80 (by omega)] at hF
  refine op_indexAddr_sl hF rfl 1 rfl rfl rfl Tryz.underlying66 (by kernel_rfl) rfl rfl rfl (by omega) ?_;clear hF a;intro a hF
  refine op_store hF hM rfl 0 rfl rfl (by kernel_rfl) rfl rfl rfl rfl (by first | omega | (simp only [List.length_set];omega)) ?_;clear hF hM a;intro a w hF hM
  revert a;refine Md 0 [0,1] rfl (Nx (Sq (Rg (Mv 3 rfl ?_))));intro a hF
  rw [u8_nat] at hF
  refine op_bits hF rfl _ rfl rfl rfl rfl rfl (and_u8 (p:=r % 256) (q:=63) (Nat.mod_lt _ (by decide)) (by decide)) ?_;clear hF a;intro a hF
  rw [and_3f] at hF
  refine op_bits hF rfl _ rfl rfl rfl rfl rfl (or_u8 (p:=128) (q:=r % 64) (by decide) (by omega)) ?_;clear hF a;intro a hF
  rw [or_80 (by omega)] at hF
  refine op_indexAddr_sl hF rfl 2 rfl rfl rfl Tryz.underlying66 (by kernel_rfl) rfl rfl rfl (by omega) ?_;clear hF a;intro a hF
  refine op_store hF hM rfl 0 rfl rfl (by kernel_rfl) rfl rfl rfl rfl (by first | omega | (simp only [List.length_set];omega)) ?_;clear hF hM a;intro a w hF hM
  revert a;refine Md 0 [] rfl (Nx (Sq (Rg (Md 1 [4] rfl (Nx (Re (Rb ?_)))))));intro a hF
  exact ret_enc hF (enc_3a h2 h3) hM rfl ho
 have h3:55296≤r:=by have:=of_decide_eq_false ht;omega
 rcases (show r≤57343∨(57343<r∧r≤65535)∨(57343<r∧65535<r) by omega) with h4 | h4 | h4
 ·
  refine Rg (Mv 1 rfl (Bf rfl (by omega) (Md 5 [0,1,5,35] rfl (Nx (Cf rfl (Sq ?_))))))
  rcases Nat.lt_or_ge 65535 r with h5 | h5
  ·
   refine Rg (Mv 1 rfl (Bt rfl (by omega) (Mv 2 rfl (Bt rfl (by omega) (Md 2 [0,1,66] rfl (Nx (Ct rfl (Sq (Rg (Mv 1 rfl ?_))))))))));intro a hF
   refine op_indexAddr_sl hF rfl 3 rfl rfl rfl Tryz.underlying66 (by kernel_rfl) rfl rfl rfl (by omega) ?_;clear hF a;intro a hF
   refine op_load hF hM rfl 0 rfl rfl rfl Tryz.underlying5 rfl rfl rfl (List.getElem?_eq_getElem (by omega)) ?_;clear hF a;intro a hF
   revert a;refine Md 0 [0,1] rfl (Nx (Sq (Rg (Mv 2 rfl ?_))));intro a hF
   refine op_shr hF rfl 18 ((r / 262144:Nat):Int) rfl rfl rfl rfl rfl rfl (by rw [show min 18 IntKind.i32.bits=18 from rfl,Int.fdiv_eq_ediv_of_nonneg _ (by decide)];omega) ?_;clear hF a;intro a hF
   revert a;refine Mv 1 rfl ?_;intro a hF
   rw [u8_nat] at hF
   rw [Nat.mod_eq_of_lt (show r / 262144<256 by omega)] at hF
   refine op_bits hF rfl _ rfl rfl rfl rfl rfl (or_u8 (p:=240) (q:=r / 262144) (by decide) (by omega)) ?_;clear hF a;intro a hF
   rw [or_f0 (by omega)] at hF
   refine op_indexAddr_sl hF rfl 0 rfl rfl rfl Tryz.underlying66 (by kernel_rfl) rfl rfl rfl (by omega) ?_;clear hF a;intro a hF
   refine op_store hF hM rfl 0 rfl rfl (by kernel_rfl) rfl rfl rfl rfl (by first | omega | (simp only [List.length_set];omega)) ?_;clear hF hM a;intro a w hF hM
   revert a;refine Md 0 [0,1] rfl (Nx (Sq (Rg (Mv 2 rfl ?_))));intro a hF
   refine op_shr hF rfl 12 ((r / 4096:Nat):Int) rfl rfl rfl rfl rfl rfl (by rw [show min 12 IntKind.i32.bits=12 from rfl,Int.fdiv_eq_ediv_of_nonneg _ (by decide)];omega) ?_;clear hF a;intro a hF
   revert a;refine Mv 1 rfl ?_;intro a hF
   rw [u8_nat] at hF
   refine op_bits hF rfl _ rfl rfl rfl rfl rfl (and_u8 (p:=(r / 4096) % 256) (q:=63) (Nat.mod_lt _ (by decide)) (by decide)) ?_;clear hF a;intro a hF
   rw [and_3f] at hF
   refine op_bits hF rfl _ rfl rfl rfl rfl rfl (or_u8 (p:=128) (q:=r / 4096 % 64) (by decide) (by omega)) ?_;clear hF a;intro a hF
   rw [or_80 (by omega)] at hF
   refine op_indexAddr_sl hF rfl 1 rfl rfl rfl Tryz.underlying66 (by kernel_rfl) rfl rfl rfl (by omega) ?_;clear hF a;intro a hF
   refine op_store hF hM rfl 0 rfl rfl (by kernel_rfl) rfl rfl rfl rfl (by first | omega | (simp only [List.length_set];omega)) ?_;clear hF hM a;intro a w hF hM
   revert a;refine Md 0 [0,1] rfl (Nx (Sq (Rg (Mv 2 rfl ?_))));intro a hF
   refine op_shr hF rfl 6 ((r / 64:Nat):Int) rfl rfl rfl rfl rfl rfl (by rw [show min 6 IntKind.i32.bits=6 from rfl,Int.fdiv_eq_ediv_of_nonneg _ (by decide)];omega) ?_;clear hF a;intro a hF
   revert a;refine Mv 1 rfl ?_;intro a hF
   rw [u8_nat] at hF
   refine op_bits hF rfl _ rfl rfl rfl rfl rfl (and_u8 (p:=(r / 64) % 256) (q:=63) (Nat.mod_lt _ (by decide)) (by decide)) ?_;clear hF a;intro a hF
   rw [and_3f] at hF
   refine op_bits hF rfl _ rfl rfl rfl rfl rfl (or_u8 (p:=128) (q:=r / 64 % 64) (by decide) (by omega)) ?_;clear hF a;intro a hF
   rw [or_80 (by omega)] at hF
   refine op_indexAddr_sl hF rfl 2 rfl rfl rfl Tryz.underlying66 (by kernel_rfl) rfl rfl rfl (by omega) ?_;clear hF a;intro a hF
   refine op_store hF hM rfl 0 rfl rfl (by kernel_rfl) rfl rfl rfl rfl (by first | omega | (simp only [List.length_set];omega)) ?_;clear hF hM a;intro a w hF hM
   revert a;refine Md 0 [0,1] rfl (Nx (Sq (Rg (Mv 3 rfl ?_))));intro a hF
   rw [u8_nat] at hF
   refine op_bits hF rfl _ rfl rfl rfl rfl rfl (and_u8 (p:=r % 256) (q:=63) (Nat.mod_lt _ (by decide)) (by decide)) ?_;clear hF a;intro a hF
   rw [and_3f] at hF
   refine op_bits hF rfl _ rfl rfl rfl rfl rfl (or_u8 (p:=128) (q:=r % 64) (by decide) (by omega)) ?_;clear hF a;intro a hF
   rw [or_80 (by omega)] at hF
   refine op_indexAddr_sl hF rfl 3 rfl rfl rfl Tryz.underlying66 (by kernel_rfl) rfl rfl rfl (by omega) ?_;clear hF a;intro a hF
   refine op_store hF hM rfl 0 rfl rfl (by kernel_rfl) rfl rfl rfl rfl (by first | omega | (simp only [List.length_set];omega)) ?_;clear hF hM a;intro a w hF hM
   revert a;refine Md 0 [] rfl (Nx (Sq (Rg (Md 1 [4] rfl (Nx (Re (Rb ?_)))))));intro a hF
   exact ret_enc hF (enc_4 h5 hr2) hM rfl ho
  refine Rg (Mv 1 rfl (Bf rfl (by omega) (Md 5 [0,1,66] rfl (Nx (Cf rfl (Sq (Rg (Mv 1 rfl ?_))))))));intro a hF
  refine op_indexAddr_sl hF rfl 2 rfl rfl rfl Tryz.underlying66 (by kernel_rfl) rfl rfl rfl (by omega) ?_;clear hF a;intro a hF
  refine op_load hF hM rfl 0 rfl rfl rfl Tryz.underlying5 rfl rfl rfl (List.getElem?_eq_getElem (by omega)) ?_;clear hF a;intro a hF
  revert a;refine Md 0 [0] rfl (Nx (Sq (Rg (Mv 1 rfl ?_))));intro a hF
  refine op_indexAddr_sl hF rfl 0 rfl rfl rfl Tryz.underlying66 (by kernel_rfl) rfl rfl rfl (by omega) ?_;clear hF a;intro a hF
  refine op_store hF hM rfl 0 rfl rfl (by kernel_rfl) rfl rfl rfl rfl (by first | omega | (simp only [List.length_set];omega)) ?_;clear hF hM a;intro a w hF hM
  revert a;refine Md 0 [0] rfl (Nx (Sq (Rg (Mv 1 rfl ?_))));intro a hF
  refine op_indexAddr_sl hF rfl 1 rfl rfl rfl Tryz.underlying66 (by kernel_rfl) rfl rfl rfl (by omega) ?_;clear hF a;intro a hF
  refine op_store hF hM rfl 0 rfl rfl (by kernel_rfl) rfl rfl rfl rfl (by first | omega | (simp only [List.length_set];omega)) ?_;clear hF hM a;intro a w hF hM
  revert a;refine Md 0 [0] rfl (Nx (Sq (Rg (Mv 1 rfl ?_))));intro a hF
  refine op_indexAddr_sl hF rfl 2 rfl rfl rfl Tryz.underlying66 (by kernel_rfl) rfl rfl rfl (by omega) ?_;clear hF a;intro a hF
  refine op_store hF hM rfl 0 rfl rfl (by kernel_rfl) rfl rfl rfl rfl (by first | omega | (simp only [List.length_set];omega)) ?_;clear hF hM a;intro a w hF hM
  revert a;refine Md 0 [] rfl (Nx (Sq (Rg (Md 1 [4] rfl (Nx (Re (Rb ?_)))))));intro a hF
  exact ret_enc hF (enc_bad h3 h4) hM rfl ho
 ·
  refine Rg (Mv 1 rfl (Bt rfl (by omega) (Mv 2 rfl (Bt rfl (by omega) (Md 2 [0,1,5,35] rfl (Nx (Ct rfl (Sq (Rg (Mv 1 rfl ?_))))))))));intro a hF
  refine op_indexAddr_sl hF rfl 2 rfl rfl rfl Tryz.underlying66 (by kernel_rfl) rfl rfl rfl (by omega) ?_;clear hF a;intro a hF
  refine op_load hF hM rfl 0 rfl rfl rfl Tryz.underlying5 rfl rfl rfl (List.getElem?_eq_getElem (by omega)) ?_;clear hF a;intro a hF
  revert a;refine Md 0 [0,1] rfl (Nx (Sq (Rg (Mv 2 rfl ?_))));intro a hF
  refine op_shr hF rfl 12 ((r / 4096:Nat):Int) rfl rfl rfl rfl rfl rfl (by rw [show min 12 IntKind.i32.bits=12 from rfl,Int.fdiv_eq_ediv_of_nonneg _ (by decide)];omega) ?_;clear hF a;intro a hF
  revert a;refine Mv 1 rfl ?_;intro a hF
  rw [u8_nat] at hF
  rw [Nat.mod_eq_of_lt (show r / 4096<256 by omega)] at hF
  refine op_bits hF rfl _ rfl rfl rfl rfl rfl (or_u8 (p:=224) (q:=r / 4096) (by decide) (by omega)) ?_;clear hF a;intro a hF
  rw [or_e0 (by omega)] at hF
  refine op_indexAddr_sl hF rfl 0 rfl rfl rfl Tryz.underlying66 (by kernel_rfl) rfl rfl rfl (by omega) ?_;clear hF a;intro a hF
  refine op_store hF hM rfl 0 rfl rfl (by kernel_rfl) rfl rfl rfl rfl (by first | omega | (simp only [List.length_set];omega)) ?_;clear hF hM a;intro a w hF hM
  revert a;refine Md 0 [0,1] rfl (Nx (Sq (Rg (Mv 2 rfl ?_))));intro a hF
  refine op_shr hF rfl 6 ((r / 64:Nat):Int) rfl rfl rfl rfl rfl rfl (by rw [show min 6 IntKind.i32.bits=6 from rfl,Int.fdiv_eq_ediv_of_nonneg _ (by decide)];omega) ?_;clear hF a;intro a hF
  revert a;refine Mv 1 rfl ?_;intro a hF
  rw [u8_nat] at hF
  refine op_bits hF rfl _ rfl rfl rfl rfl rfl (and_u8 (p:=(r / 64) % 256) (q:=63) (Nat.mod_lt _ (by decide)) (by decide)) ?_;clear hF a;intro a hF
  rw [and_3f] at hF
  refine op_bits hF rfl _ rfl rfl rfl rfl rfl (or_u8 (p:=128) (q:=r / 64 % 64) (by decide) (by omega)) ?_;clear hF a;intro a hF
  rw [or_80 (by omega)] at hF
  refine op_indexAddr_sl hF rfl 1 rfl rfl rfl Tryz.underlying66 (by kernel_rfl) rfl rfl rfl (by omega) ?_;clear hF a;intro a hF
  refine op_store hF hM rfl 0 rfl rfl (by kernel_rfl) rfl rfl rfl rfl (by first | omega | (simp only [List.length_set];omega)) ?_;clear hF hM a;intro a w hF hM
  revert a;refine Md 0 [0,1] rfl (Nx (Sq (Rg (Mv 3 rfl ?_))));intro a hF
  rw [u8_nat] at hF
  refine op_bits hF rfl _ rfl rfl rfl rfl rfl (and_u8 (p:=r % 256) (q:=63) (Nat.mod_lt _ (by decide)) (by decide)) ?_;clear hF a;intro a hF
  rw [and_3f] at hF
  refine op_bits hF rfl _ rfl rfl rfl rfl rfl (or_u8 (p:=128) (q:=r % 64) (by decide) (by omega)) ?_;clear hF a;intro a hF
  rw [or_80 (by omega)] at hF
  refine op_indexAddr_sl hF rfl 2 rfl rfl rfl Tryz.underlying66 (by kernel_rfl) rfl rfl rfl (by omega) ?_;clear hF a;intro a hF
  refine op_store hF hM rfl 0 rfl rfl (by kernel_rfl) rfl rfl rfl rfl (by first | omega | (simp only [List.length_set];omega)) ?_;clear hF hM a;intro a w hF hM
  revert a;refine Md 0 [] rfl (Nx (Sq (Rg (Md 1 [4] rfl (Nx (Re (Rb ?_)))))));intro a hF
  exact ret_enc hF (enc_3b h4.1 h4.2) hM rfl ho
 refine Rg (Mv 1 rfl (Bt rfl (by omega) (Mv 2 rfl (Bf rfl (by omega) (Md 2 [0,1,5,35] rfl (Nx (Cf rfl (Sq ?_))))))))
 rcases Nat.lt_or_ge 65535 r with h5 | h5
 ·
  refine Rg (Mv 1 rfl (Bt rfl (by omega) (Mv 2 rfl (Bt rfl (by omega) (Md 2 [0,1,66] rfl (Nx (Ct rfl (Sq (Rg (Mv 1 rfl ?_))))))))));intro a hF
  refine op_indexAddr_sl hF rfl 3 rfl rfl rfl Tryz.underlying66 (by kernel_rfl) rfl rfl rfl (by omega) ?_;clear hF a;intro a hF
  refine op_load hF hM rfl 0 rfl rfl rfl Tryz.underlying5 rfl rfl rfl (List.getElem?_eq_getElem (by omega)) ?_;clear hF a;intro a hF
  revert a;refine Md 0 [0,1] rfl (Nx (Sq (Rg (Mv 2 rfl ?_))));intro a hF
  refine op_shr hF rfl 18 ((r / 262144:Nat):Int) rfl rfl rfl rfl rfl rfl (by rw [show min 18 IntKind.i32.bits=18 from rfl,Int.fdiv_eq_ediv_of_nonneg _ (by decide)];omega) ?_;clear hF a;intro a hF
  revert a;refine Mv 1 rfl ?_;intro a hF
  rw [u8_nat] at hF
  rw [Nat.mod_eq_of_lt (show r / 262144<256 by omega)] at hF
  refine op_bits hF rfl _ rfl rfl rfl rfl rfl (or_u8 (p:=240) (q:=r / 262144) (by decide) (by omega)) ?_;clear hF a;intro a hF
  rw [or_f0 (by omega)] at hF
  refine op_indexAddr_sl hF rfl 0 rfl rfl rfl Tryz.underlying66 (by kernel_rfl) rfl rfl rfl (by omega) ?_;clear hF a;intro a hF
  refine op_store hF hM rfl 0 rfl rfl (by kernel_rfl) rfl rfl rfl rfl (by first | omega | (simp only [List.length_set];omega)) ?_;clear hF hM a;intro a w hF hM
  revert a;refine Md 0 [0,1] rfl (Nx (Sq (Rg (Mv 2 rfl ?_))));intro a hF
  refine op_shr hF rfl 12 ((r / 4096:Nat):Int) rfl rfl rfl rfl rfl rfl (by rw [show min 12 IntKind.i32.bits=12 from rfl,Int.fdiv_eq_ediv_of_nonneg _ (by decide)];omega) ?_;clear hF a;intro a hF
  revert a;refine Mv 1 rfl ?_;intro a hF
  rw [u8_nat] at hF
  refine op_bits hF rfl _ rfl rfl rfl rfl rfl (and_u8 (p:=(r / 4096) % 256) (q:=63) (Nat.mod_lt _ (by decide)) (by decide)) ?_;clear hF a;intro a hF
  rw [and_3f] at hF
  refine op_bits hF rfl _ rfl rfl rfl rfl rfl (or_u8 (p:=128) (q:=r / 4096 % 64) (by decide) (by omega)) ?_;clear hF a;intro a hF
  rw [or_80 (by omega)] at hF
  refine op_indexAddr_sl hF rfl 1 rfl rfl rfl Tryz.underlying66 (by kernel_rfl) rfl rfl rfl (by omega) ?_;clear hF a;intro a hF
  refine op_store hF hM rfl 0 rfl rfl (by kernel_rfl) rfl rfl rfl rfl (by first | omega | (simp only [List.length_set];omega)) ?_;clear hF hM a;intro a w hF hM
  revert a;refine Md 0 [0,1] rfl (Nx (Sq (Rg (Mv 2 rfl ?_))));intro a hF
  refine op_shr hF rfl 6 ((r / 64:Nat):Int) rfl rfl rfl rfl rfl rfl (by rw [show min 6 IntKind.i32.bits=6 from rfl,Int.fdiv_eq_ediv_of_nonneg _ (by decide)];omega) ?_;clear hF a;intro a hF
  revert a;refine Mv 1 rfl ?_;intro a hF
  rw [u8_nat] at hF
  refine op_bits hF rfl _ rfl rfl rfl rfl rfl (and_u8 (p:=(r / 64) % 256) (q:=63) (Nat.mod_lt _ (by decide)) (by decide)) ?_;clear hF a;intro a hF
  rw [and_3f] at hF
  refine op_bits hF rfl _ rfl rfl rfl rfl rfl (or_u8 (p:=128) (q:=r / 64 % 64) (by decide) (by omega)) ?_;clear hF a;intro a hF
  rw [or_80 (by omega)] at hF
  refine op_indexAddr_sl hF rfl 2 rfl rfl rfl Tryz.underlying66 (by kernel_rfl) rfl rfl rfl (by omega) ?_;clear hF a;intro a hF
  refine op_store hF hM rfl 0 rfl rfl (by kernel_rfl) rfl rfl rfl rfl (by first | omega | (simp only [List.length_set];omega)) ?_;clear hF hM a;intro a w hF hM
  revert a;refine Md 0 [0,1] rfl (Nx (Sq (Rg (Mv 3 rfl ?_))));intro a hF
  rw [u8_nat] at hF
  refine op_bits hF rfl _ rfl rfl rfl rfl rfl (and_u8 (p:=r % 256) (q:=63) (Nat.mod_lt _ (by decide)) (by decide)) ?_;clear hF a;intro a hF
  rw [and_3f] at hF
  refine op_bits hF rfl _ rfl rfl rfl rfl rfl (or_u8 (p:=128) (q:=r % 64) (by decide) (by omega)) ?_;clear hF a;intro a hF
  rw [or_80 (by omega)] at hF
  refine op_indexAddr_sl hF rfl 3 rfl rfl rfl Tryz.underlying66 (by kernel_rfl) rfl rfl rfl (by omega) ?_;clear hF a;intro a hF
  refine op_store hF hM rfl 0 rfl rfl (by kernel_rfl) rfl rfl rfl rfl (by first | omega | (simp only [List.length_set];omega)) ?_;clear hF hM a;intro a w hF hM
  revert a;refine Md 0 [] rfl (Nx (Sq (Rg (Md 1 [4] rfl (Nx (Re (Rb ?_)))))));intro a hF
  exact ret_enc hF (enc_4 h5 hr2) hM rfl ho
 refine Rg (Mv 1 rfl (Bf rfl (by omega) (Md 5 [0,1,66] rfl (Nx (Cf rfl (Sq (Rg (Mv 1 rfl ?_))))))));intro a hF
 refine op_indexAddr_sl hF rfl 2 rfl rfl rfl Tryz.underlying66 (by kernel_rfl) rfl rfl rfl (by omega) ?_;clear hF a;intro a hF
 refine op_load hF hM rfl 0 rfl rfl rfl Tryz.underlying5 rfl rfl rfl (List.getElem?_eq_getElem (by omega)) ?_;clear hF a;intro a hF
 revert a;refine Md 0 [0] rfl (Nx (Sq (Rg (Mv 1 rfl ?_))));intro a hF
 refine op_indexAddr_sl hF rfl 0 rfl rfl rfl Tryz.underlying66 (by kernel_rfl) rfl rfl rfl (by omega) ?_;clear hF a;intro a hF
 refine op_store hF hM rfl 0 rfl rfl (by kernel_rfl) rfl rfl rfl rfl (by first | omega | (simp only [List.length_set];omega)) ?_;clear hF hM a;intro a w hF hM
 revert a;refine Md 0 [0] rfl (Nx (Sq (Rg (Mv 1 rfl ?_))));intro a hF
 refine op_indexAddr_sl hF rfl 1 rfl rfl rfl Tryz.underlying66 (by kernel_rfl) rfl rfl rfl (by omega) ?_;clear hF a;intro a hF
 refine op_store hF hM rfl 0 rfl rfl (by kernel_rfl) rfl rfl rfl rfl (by first | omega | (simp only [List.length_set];omega)) ?_;clear hF hM a;intro a w hF hM
 revert a;refine Md 0 [0] rfl (Nx (Sq (Rg (Mv 1 rfl ?_))));intro a hF
 refine op_indexAddr_sl hF rfl 2 rfl rfl rfl Tryz.underlying66 (by kernel_rfl) rfl rfl rfl (by omega) ?_;clear hF a;intro a hF
 refine op_store hF hM rfl 0 rfl rfl (by kernel_rfl) rfl rfl rfl rfl (by first | omega | (simp only [List.length_set];omega)) ?_;clear hF hM a;intro a w hF hM
 revert a;refine Md 0 [] rfl (Nx (Sq (Rg (Md 1 [4] rfl (Nx (Re (Rb ?_)))))));intro a hF
 exfalso;omega
theorem enc_1 {r:Nat}(h1:r<128):[Value.int .u8 (r:Int)]=u8s (enc r)∧(1:Int)=((enc r).length:Int)∧(enc r).length≤4:=by
  have e:enc r=[r.toUInt8]:=by unfold enc;rw [if_pos (by omega)]
  rw [e]
  refine ⟨?_,rfl,by simp⟩
  simp only [u8s,List.map_cons,List.map_nil]
  rw [byte_nat (by omega)]
theorem encode_walk {B:Nat}{w00:World}{L':List Bk}{b o c sl:Nat}{tb:TypeId}{vs:List Value}(r:Nat) (w0:World) (hM0:Mem B w00 ((b,tb,vs)::L') w0) (hr2:r≤1114111) (hs4:4≤sl) (ho:o+4≤vs.length):
    Calls Tryz.prog 166 #[.slice (some ⟨b,o,none⟩) sl c,.int .i32 (r:Int)] w0 (Ret fun v w'=>v= .int .i64 ((enc r).length:Int)∧Mem B w00 ((b,tb,vs.take o++u8s (enc r)++vs.drop (o+(enc r).length))::L') w'):=by
 have hM:=hM0
 refine enter (l:=[.slice (some ⟨b,o,none⟩) sl c,.int .i32 (r:Int)]) 13 Tryz.func166 rfl rfl (Sq (Rg (Md 1 [0,1] rfl (Nx (Sq (Sq (Rg (Mv 1 rfl ?_))))))));intro a hF
 refine op_conv_to hF rfl rfl rfl rfl Tryz.underlying21 Tryz.underlying186 rfl (IntWalk.u32_in _ ⟨by omega,by omega⟩) ?_;clear hF a;intro a hF
 revert a;refine Md 1 [0,1,7] rfl (Nx (Ce rfl (fun ht=> ?_) ((fun ht=> ?_))))
 ·
  have h1:128≤r:=by have:=of_decide_eq_false ht;omega
  refine Sk (Nx (Sq (Rg (Mv 2 rfl ?_))));intro a hF
  refine op_call hF rfl rfl rfl rfl Tryz.func180 (by kernel_rfl) rfl rfl (encodeNon_walk r w0 hM h1 hr2 hs4 ho) ?_
  clear hF hM a;intro a w v hR hF;obtain ⟨rfl,hM⟩:=hR
  revert a;refine Md 1 [4] rfl (Nx (Re ?_));intro a hF
  exact ret1 hF rfl rfl ⟨_,rfl,rfl,hM⟩
 have h1:r<128:=by have:=of_decide_eq_true ht;omega
 refine Sq (Rg (Mv 3 rfl ?_));intro a hF
 rw [u8_nat,Nat.mod_eq_of_lt (show r<256 by omega)] at hF
 refine op_indexAddr_sl hF rfl 0 rfl rfl rfl Tryz.underlying66 (by kernel_rfl) rfl rfl rfl (by omega) ?_;clear hF a;intro a hF
 refine op_store hF hM rfl 0 rfl rfl (by kernel_rfl) rfl rfl rfl rfl (by omega) ?_;clear hF hM a;intro a w hF hM
 revert a;refine Md 0 [] rfl (Nx (Sq (Rg (Md 1 [4] rfl (Nx (Re (Rt ?_)))))));intro a hF
 exact ret_enc hF (enc_1 h1) hM rfl ho
theorem set_parts {α:Type}{vs:List α}{j:Nat}{x:α}(h:j<vs.length):vs.set j x=vs.take j++ [x]++vs.drop (j+1):=by
  rw [List.set_eq_take_append_cons_drop,if_pos h];simp
theorem esc_in {d:UInt8}(h:escLetter d=true):d=34∨d=92∨d=47∨d=98∨d=102∨d=110∨d=114∨d=116:=by
  simp only [escLetter,Bool.or_eq_true,beq_iff_eq] at h
  rcases h with ((((((h | h) | h) | h) | h) | h) | h) | h <;> simp [h]
theorem escape1_walk {ea:Nat→Addr}{b o cp b2 j sl c2:Nat}{tb:TypeId}{D:Str}{vs:List Value}{B:Nat}{wc w0:World}{L:List Bk}(hJ:JB ea B wc) (hi:Ins D) (h92:D.head?=some 92) (hl:D.length≤2^40) (hcp:D.length≤cp) (hD:Bts wc b o D) (hBw:B=wc.heap.size) (hsl:D.length≤sl) (hj:j+sl≤vs.length)
    (hM0:Mem B wc ((b2,tb,vs)::L) w0):
    Calls Tryz.prog 161 #[.agg CFG.toArray,.slice (some ⟨b,o,none⟩) D.length cp,.slice (some ⟨b2,j,none⟩) sl c2] w0 (Ret fun v w'=>v= .tuple #[.int .i64 (((es D).1:Nat):Int),.int .i64 (((es D).2.length:Nat):Int)]∧Mem B wc ((b2,tb,vs.take j++u8s (es D).2++vs.drop (j+(es D).2.length))::L) w'):=by
 have hM:=hM0
 subst hBw
 obtain ⟨_,_,hle,_,h2,_,hes⟩:=es_step hi h92
 have hg0:D[0]?=some 92:=by rw [←List.head?_eq_getElem?];exact h92
 obtain ⟨e1,hg1⟩:∃ c,D[1]?=some c:=⟨_,List.getElem?_eq_getElem (by omega)⟩
 have h16:16<wc.heap.size:=by have:=hJ.lt;omega
 refine enter (l:=[.agg CFG.toArray,.slice (some ⟨b,o,none⟩) D.length cp,.slice (some ⟨b2,j,none⟩) sl c2]) 64 Tryz.func161 rfl rfl (Sq (Rg ?_));intro a hF
 refine op_box (vs:=CFG) hF hM rfl rfl rfl rfl rfl rfl ?_;clear hF hM a;intro a w b3 hF hM
 replace hM:=hM.perm (L':=(b2,tb,vs)::(b3,125,CFG)::L) (pc fun x=>by simp [ct,ct_append] <;> omega)
 revert a;refine Md 2 [1,2,3] rfl (Nx (Sq (Sq (Rg (Mv 2 rfl (Bf rfl (by omega) (Mv 2 rfl (Gv rfl (fun _ hF=>gives_indexAddrS (sz:=1) (0) hF rfl Tryz.underlying66 (by kernel_rfl) rfl rfl rfl (by omega) _) (Gv rfl (fun _ hF=>gives_load1 hF rfl Tryz.underlying5 rfl rfl (hD.cell hM hg0)) (Md 2 [1,2,3,20] rfl (Nx (Cf rfl (Sk (Nx (Sq (Sq (Rg (Mv 1 rfl (Gv rfl (fun _ hF=>gives_indexAddrS (sz:=1) (1) hF rfl Tryz.underlying66 (by kernel_rfl) rfl rfl rfl (by omega) _) (Gv rfl (fun _ hF=>gives_load1 hF rfl Tryz.underlying5 rfl rfl (hD.cell hM hg1)) (Md 1 [1,2,3,8] rfl (Nx (Sq ?_)))))))))))))))))))))))
 rcases hes with ⟨hu,h2e,d,r,hDe,hlet,hout⟩ | ⟨n,hu,hi6,h6,h1e,h2e,hmx⟩
 ·
  have hd:e1=d:=by rw [hDe] at hg1;exact (Option.some.inj hg1).symm
  subst hd
  have hin:=esc_in hlet
  have htl:e1.toNat<117:=by rcases hin with h | h | h | h | h | h | h | h <;> rw [h] <;> decide
  refine Rg (Md 1 [1,2,3,8,24] rfl (Nx (Bo ?_)));intro a hF
  refine cutF (fun a w=>Fr 67 [(1,.slice (some ⟨b,o,none⟩) D.length cp),(2,.slice (some ⟨b2,j,none⟩) sl c2),(8,.int .u8 (e1.toNat:Int)),(25,.bool true)] a∧Mem wc.heap.size wc ((b2,tb,vs)::(b3,125,CFG)::L) w) (fun a w h=> ?_) ?_
  ·
   clear hF hM
   obtain ⟨hF,hM⟩:=h
   revert a;refine Ct rfl (Sq (Rg (Mv 2 rfl (Gv rfl (fun _ hF=>gives_indexAddrA (sz:=1) (e1.toNat) hF rfl Tryz.underlying209 (by kernel_rfl) rfl rfl rfl htl _) (Gv rfl (fun _ hF=>gives_load1 hF rfl Tryz.underlying5 rfl rfl (show World.cell? _ _=some (.int .u8 ((short e1).toNat:Int)) by rw [Nat.zero_add,Nat.mul_one];exact (hM.below.cell h16).trans (hJ.tab e1 hlet))) (Gv rfl (fun _ hF=>gives_indexAddrS (sz:=1) (0) hF rfl Tryz.underlying66 (by kernel_rfl) rfl rfl rfl (by omega) _) ?_))))));intro a hF
   refine op_store hF hM rfl 0 rfl rfl (by kernel_rfl) rfl rfl rfl rfl (by omega) ?_;clear hF hM a;intro a w hF hM
   revert a;refine Md 0 [] rfl (Nx (Sq (Rg (Md 2 [6,7] rfl (Nx (Re (Rb (Rt ?_))))))));intro a hF
   refine ret2 hF rfl rfl rfl ⟨_,rfl,by rw [h2e,hout];rfl,?_⟩
   simp only [Nat.zero_mul,Nat.add_zero,List.set_cons_zero] at hM
   rw [set_parts (show j<vs.length by omega)] at hM
   rw [hout]
   exact hM.sub [(b3,125,CFG)] (pc fun x=>by simp [ct,ct_append,u8s] <;> omega)
  revert a;refine Sq (Rg (Md 2 [1,2,8,24,25] rfl (Nx (Cd rfl (fun ht=> ?_) ((fun ht=> ?_))))))
  ·
   skip
   refine Sk (Kp [1,2,8,25] rfl ?_);intro a hF
   rw [ht] at hF;exact ⟨hF,hM⟩
  have m0:=eq_f (d:=34) rfl ht
  refine Sq (Rg (Md 2 [1,2,8,24,25] rfl (Nx (Cd rfl (fun ht=> ?_) ((fun ht=> ?_))))))
  ·
   skip
   refine Sk (Kp [1,2,8,25] rfl ?_);intro a hF
   rw [ht] at hF;exact ⟨hF,hM⟩
  have m1:=eq_f (d:=92) rfl ht
  refine Sq (Rg (Md 2 [1,2,8,24,25] rfl (Nx (Cd rfl (fun ht=> ?_) ((fun ht=> ?_))))))
  ·
   skip
   refine Sk (Kp [1,2,8,25] rfl ?_);intro a hF
   rw [ht] at hF;exact ⟨hF,hM⟩
  have m2:=eq_f (d:=47) rfl ht
  refine Sq (Rg (Md 2 [1,2,8,24,25] rfl (Nx (Cd rfl (fun ht=> ?_) ((fun ht=> ?_))))))
  ·
   skip
   refine Sk (Kp [1,2,8,25] rfl ?_);intro a hF
   rw [ht] at hF;exact ⟨hF,hM⟩
  have m3:=eq_f (d:=98) rfl ht
  refine Sq (Rg (Md 2 [1,2,8,24,25] rfl (Nx (Cd rfl (fun ht=> ?_) ((fun ht=> ?_))))))
  ·
   skip
   refine Sk (Kp [1,2,8,25] rfl ?_);intro a hF
   rw [ht] at hF;exact ⟨hF,hM⟩
  have m4:=eq_f (d:=102) rfl ht
  refine Sq (Rg (Md 2 [1,2,8,24,25] rfl (Nx (Cd rfl (fun ht=> ?_) ((fun ht=> ?_))))))
  ·
   skip
   refine Sk (Kp [1,2,8,25] rfl ?_);intro a hF
   rw [ht] at hF;exact ⟨hF,hM⟩
  have m5:=eq_f (d:=110) rfl ht
  refine Sq (Rg (Md 2 [1,2,8,24,25] rfl (Nx (Cd rfl (fun ht=> ?_) ((fun ht=> ?_))))))
  ·
   skip
   refine Sk (Kp [1,2,8,25] rfl ?_);intro a hF
   rw [ht] at hF;exact ⟨hF,hM⟩
  have m6:=eq_f (d:=114) rfl ht
  refine Rg (Md 2 [1,2,8,25] rfl ?_);intro a hF
  rw [beq_t (d:=116) (z:=116) rfl (by simpa [m0,m1,m2,m3,m4,m5,m6] using hin)] at hF;exact ⟨hF,hM⟩
 intro a hF
 have hd:e1=117:=by obtain ⟨a,b',c,d,r,h,_⟩:=unit_shape hu;rw [h] at hg1;exact (Option.some.inj hg1).symm
 subst hd
 revert a;refine Rg (Md 1 [1,2,3,8,24] rfl (Nx (Bo (Sq (Sq (Rg (Bv rfl rfl (show (((117:UInt8).toNat:Int)==34)=false from rfl) (Md 1 [1,2,3,8,24,25] rfl (Nx (Cf rfl (Sq (Rg (Bv rfl rfl (show (((117:UInt8).toNat:Int)==92)=false from rfl) (Md 1 [1,2,3,8,24,25] rfl (Nx (Cf rfl (Sq (Rg (Bv rfl rfl (show (((117:UInt8).toNat:Int)==47)=false from rfl) (Md 1 [1,2,3,8,24,25] rfl (Nx (Cf rfl (Sq (Rg (Bv rfl rfl (show (((117:UInt8).toNat:Int)==98)=false from rfl) (Md 1 [1,2,3,8,24,25] rfl (Nx (Cf rfl (Sq (Rg (Bv rfl rfl (show (((117:UInt8).toNat:Int)==102)=false from rfl) (Md 1 [1,2,3,8,24,25] rfl (Nx (Cf rfl (Sq (Rg (Bv rfl rfl (show (((117:UInt8).toNat:Int)==110)=false from rfl) (Md 1 [1,2,3,8,24,25] rfl (Nx (Cf rfl (Sq (Rg (Bv rfl rfl (show (((117:UInt8).toNat:Int)==114)=false from rfl) (Md 1 [1,2,3,8,24,25] rfl (Nx (Cf rfl (Rg (Bv rfl rfl (show (((117:UInt8).toNat:Int)==116)=false from rfl) (Md 1 [1,2,3,8,24,25] rfl (Nx (Cf rfl (Sq (Rg (Bv rfl rfl (show (((117:UInt8).toNat:Int)==39)=false from rfl) (Md 1 [1,2,3,8,24,39] rfl (Nx (Cf rfl (Sq (Rg (Bv rfl rfl (show (((117:UInt8).toNat:Int)==117)=true from rfl) (Md 1 [1,2,3,46] rfl (Nx (Ct rfl (Sq (Rg (Mv 1 rfl (Cm hM rfl rfl rfl (decU_walk hu hi6 hl hcp _ (hD.below hM.below)) ?_)))))))))))))))))))))))))))))))))))))))))))))))))))))))))))))))))))
 clear hM;intro w v hR hM hBe
 obtain rfl:=hR
 refine Md 5 [2,9,10] rfl (Nx (Sq (Rg (Md 2 [2,9,10,54] rfl (Nx (C1 rfl (fun ht=>absurd (eq_of_beq ht) (by omega)) (Sq (Rg (Mv 2 rfl ?_)))))))));intro a hF
 refine op_call hF rfl rfl rfl rfl Tryz.func166 (by kernel_rfl) rfl rfl (encode_walk (decU D).1 w hM hmx (by omega) (by omega)) ?_
 clear hF hM a;intro a w v hR hF;obtain ⟨rfl,hM⟩:=hR
 revert a;refine Md 1 [10,11] rfl (Nx (Sq (Rg (Md 4 [6,7] rfl (Nx (Re (Rb (Rt ?_))))))));intro a hF
 refine ret2 hF rfl rfl rfl ⟨_,rfl,by rw [h1e,h2e],?_⟩
 rw [h2e]
 exact hM.sub [(b3,125,CFG)] (pc fun x=>by simp [ct,ct_append] <;> omega)
theorem indexB_walk {b o cp:Nat}{D:Str}(w0:World) (hD:Bts w0 b o D):
    Calls Tryz.prog 64 #[.slice (some ⟨b,o,none⟩) D.length cp,.int .u8 92] w0 (Ret fun v w'=>v= .int .i64 (ixB D)∧Below w0.heap.size w0 w'):=by
 have hM:=MS0 w0
 refine enter (l:=[.slice (some ⟨b,o,none⟩) D.length cp,.int .u8 92]) 6 Tryz.func64 rfl rfl (Sq (Rg (Md 1 [0,1] rfl (Nx (Sq (Rg (Mv 2 rfl ?_)))))));intro a hF
 refine op_indexB hF rfl (hD.below hM.below) rfl rfl rfl rfl rfl ?_;clear hF a;intro a hF
 revert a;exact Md 1 [4] rfl (Nx (Re (Y1 rfl rfl ⟨_,rfl,rfl,hM.below⟩)))
theorem ix_no {D:Str}(h:ixB D= -1):fst (· ==92) D=D.length:=by
  unfold ixB at h
  split at h
  · omega
  · have:=fst_le (· ==92) D;omega
theorem ix_yes {D:Str}(h:ixB D≠ -1):ixB D=((fst (· ==92) D:Nat):Int)∧fst (· ==92) D<D.length∧D[fst (· ==92) D]?=some 92:=by
  unfold ixB at h ⊢
  split at h
  · next hl=>
    rw [if_pos hl]
    obtain ⟨c,hc,hp⟩:=fst_at hl
    exact ⟨rfl,hl,by rw [hc];simpa using hp⟩
  · exact absurd rfl h
theorem plain_all {D:Str}(hi:Ins D) (h:ixB D= -1):unq D=D:=by
  have h1:=Ue.plain (D:=D) D.length (Ue.start hi) (by rw [List.drop_zero,ix_no h];exact Nat.le_refl _)
  have h2:=h1.all (by omega)
  simpa using h2
theorem grow_row {vs:List Value}{out e:Str}(h:vs.take out.length=u8s out):(vs.take out.length++u8s e++vs.drop (out.length+e.length)).take (out++e).length=u8s (out++e):=by
  rw [h,←u8s_append,show (out++e).length=(u8s (out++e)).length by rw [u8s_length],List.take_left]
theorem grow_len {vs:List Value}{out e:Str}(h:out.length+e.length≤vs.length):(vs.take out.length++u8s e++vs.drop (out.length+e.length)).length=vs.length:=by
  simp only [List.length_append,List.length_take,List.length_drop,u8s_length];omega
theorem unescape_walk {ea:Nat→Addr}{b o cp b2 ol c2:Nat}{tb:TypeId}{D:Str}{vs0:List Value}{wc w0:World}{L:List Bk}(hJ:JB ea wc.heap.size wc) (hi:Ins D) (hl:D.length≤2^38) (hcp:D.length≤cp) (hD:Bts wc b o D) (hc2:c2≤vs0.length) (hvl:vs0.length≤2^38)
    (hM0:Mem wc.heap.size wc ((b2,tb,vs0)::L) w0):
    Calls Tryz.prog 134 #[.agg CFG.toArray,.slice (some ⟨b,o,none⟩) D.length cp,.slice (some ⟨b2,0,none⟩) ol c2] w0 (Ret fun v w'=>∃ v1 N vs',v= .tuple #[v1,.nilIface]∧Mem wc.heap.size wc (N++(b2,tb,vs')::L) w'∧vs'.length=vs0.length∧LyB wc (N++ [(b2,tb,vs')]) v1 (unq D)):=by
 have hM:=hM0
 refine enter (l:=[.agg CFG.toArray,.slice (some ⟨b,o,none⟩) D.length cp,.slice (some ⟨b2,0,none⟩) ol c2]) 83 Tryz.func134 rfl rfl (Sq (Rg ?_));intro a hF
 refine op_box (vs:=CFG) hF hM rfl rfl rfl rfl rfl rfl ?_;clear hF hM a;intro a w b3 hF hM
 revert a;refine Md 2 [1,2,3] rfl (Nx (Sq (Rg (Mv 1 rfl (Cm hM rfl rfl rfl (indexB_walk _ (hD.below hM.below)) ?_)))))
 clear hM;intro w v hR hM hBe
 obtain rfl:=hR
 refine Md 1 [1,2,3,8] rfl (Nx (Sq (Sq (Rg (Md 2 [1,2,3,8,16] rfl (Nx (Cd rfl (fun ht=> ?_) ((fun ht=> ?_)))))))))
 ·
  have hix:ixB D= -1:=by simpa using ht
  have hun:=plain_all hi hix
  refine Sq (Rg (Md 3 [6,7] rfl (Nx (Re (Rt ?_)))));intro a hF
  exact ret2 hF rfl rfl rfl ⟨_,rfl,_,[],vs0,rfl,hM.drop (List.sublist_cons_self _ _),rfl,by rw [hun];exact .inl ⟨_,_,_,rfl,hD⟩⟩
 have hix:ixB D≠ -1:=by simpa using ht
 obtain ⟨hixe,hflt,hf92⟩:=ix_yes hix
 intro a hF
 rw [hixe] at hF
 generalize hfe:fst (· ==92) D=f at hixe hflt hf92 hF
 refine skip (next ?_)
 refine cut (fun a w=>∃ ab at_ vs R cc V,Fr 86 [(1,.slice (some ⟨b,o,none⟩) D.length cp),(2,.slice (some ⟨ab,0,none⟩) D.length cc),(3,.pointer (some ⟨b3,0,none⟩)),(8,.int .i64 (f:Int))] a∧Mem wc.heap.size wc ((b3,125,CFG)::(ab,at_,vs)::R) w∧vs.length=V∧D.length≤V∧D.length≤cc∧V≤2^40∧((R=L∧ab=b2∧at_=tb∧V=vs0.length)∨R=(b2,tb,vs0)::L)) ?_ (fun a w h=> ?_)
 ·
  revert a;refine Sq (Rg (Mv 1 rfl (Gv rfl (fun _ hF=>gives_cap hF rfl Tryz.underlying66 rfl _) (Md 3 [1,2,3,8,22] rfl (Nx (C2 rfl ?_ ((fun ht=> ?_))))))))
  ·
   refine Rg (Mv 2 rfl ?_);intro a hF
   refine op_makeN hF hM rfl D.length rfl rfl rfl rfl rfl rfl rfl (by omega) ?_;clear hF hM a;intro a w b4 vn hF hvn hM
   replace hM:=hM.perm (List.Perm.swap _ _ _)
   revert a;refine Md 1 [1,2,3,8] rfl ?_;intro a hF
   exact ⟨_,_,_,_,_,_,hF,hM,hvn,Nat.le_refl _,Nat.le_refl _,by omega,.inr rfl⟩
  have hge:=of_decide_eq_false ht
  refine Rg (Mv 3 rfl (Gv rfl (fun _ hF=>gives_slFT (0) (D.length) hF rfl Tryz.underlying66 (by kernel_rfl) rfl rfl rfl rfl rfl (by omega) (by omega) _) ?_));intro a hF
  rw [show so 0 0 c2=0 by unfold so;split <;> rfl,Nat.sub_zero,Nat.sub_zero] at hF
  revert a;refine Md 1 [1,2,3,8] rfl ?_;intro a hF
  exact ⟨_,_,_,_,_,_,hF,hM,rfl,by omega,by omega,by omega,.inl ⟨rfl,rfl,rfl,rfl⟩⟩
 clear hF hM
 obtain ⟨ab,at_,vs,R,cc,V,hF,hM,hvV,hNV,hNc,hV40,hR0⟩:=h
 revert a;refine Sq (Rg (Mv 3 rfl (Gv rfl (fun _ hF=>gives_slT (D.take f).length hF rfl Tryz.underlying66 (by kernel_rfl) rfl rfl (by rw [List.length_take];omega) (by rw [List.length_take];omega) _) ?_)))
 replace hM:=hM.perm (List.Perm.swap _ _ _)
 intro a hF
 refine op_copyB hF (0) hM rfl ((hD.below hM.below).take f) rfl rfl rfl rfl rfl (by rw [List.length_take];omega) (fun _=>rfl) (by rw [List.length_take];omega) ?_;clear hF hM a;intro a w vcp hF hM
 replace hM:=hM.perm (List.Perm.swap _ _ _)
 have hU:=Ue.plain (D:=D) f (Ue.start hi) (by rw [List.drop_zero];omega)
 rw [List.drop_zero,List.nil_append,Nat.zero_add] at hU
 have hvt:=grow_row (vs:=vs) (out:=[]) (e:=D.take f) rfl
 have hvl2:=grow_len (vs:=vs) (out:=[]) (e:=D.take f) (by simp only [List.length_nil,List.length_take];omega)
 rw [hvV] at hvl2
 simp only [List.nil_append,List.length_nil] at hvt hvl2
 generalize vs.take 0++u8s (D.take f)++vs.drop (0+(D.take f).length)=vs1 at hM hvt hvl2
 have htl:(D.take f).length=f:=by rw [List.length_take];omega
 revert a;refine Md 0 [1,2,3,8] rfl (Nx (Sq (Rg (Mv 2 rfl (Gv rfl (fun _ hF=>gives_slFrom (f) hF rfl Tryz.underlying66 (by kernel_rfl) rfl rfl rfl (by omega) _) ?_)))));intro a hF
 rw [←List.length_drop] at hF
 revert a;refine Md 1 [1,2,3,8] rfl (Nx (Sq (Rg (Mv 2 rfl (Gv rfl (fun _ hF=>gives_slFrom (f) hF rfl Tryz.underlying66 (by kernel_rfl) rfl rfl rfl (by omega) _) (Md 1 [1,2,3,9] rfl (Nx ?_)))))));intro a hF
 refine cutF (fun a w=>∃ vs oj cj,Fr 86 [(2,.slice (some ⟨ab,0,none⟩) D.length cc),(9,.slice (some ⟨ab,oj,none⟩) (D.length - (unq D).length) cj)] a∧Mem wc.heap.size wc ((b3,125,CFG)::(ab,at_,vs)::R) w∧vs.take (unq D).length=u8s (unq D)∧vs.length=V∧(unq D).length≤D.length) (fun a w h=> ?_) ?_
 ·
  clear hF hM
  obtain ⟨vs,oj,cj,hF,hM,hvt,hvV,huD⟩:=h
  revert a;refine Sq (Rg (Mv 5 rfl (Sm ((((unq D).length:Nat):Int)) rfl (by omega) (Gv rfl (fun _ hF=>gives_slT (unq D).length hF rfl Tryz.underlying66 (by kernel_rfl) rfl rfl rfl (by omega) _) (Md 2 [6,7] rfl (Nx (Re ?_)))))));intro a hF
  rcases hR0 with ⟨rfl,rfl,rfl,hV⟩ | rfl;exact ret2 hF rfl rfl rfl ⟨_,rfl,_,[],vs,rfl,hM.drop (List.sublist_cons_self _ _),by omega,.inr ⟨ab,cc,at_,vs,rfl,by simp,hvt⟩⟩;exact ret2 hF rfl rfl rfl ⟨_,rfl,_,[(ab,at_,vs)],vs0,rfl,hM.drop (List.sublist_cons_self _ _),rfl,.inr ⟨ab,cc,at_,vs,rfl,by simp,hvt⟩⟩
 revert a;refine Bo (Kp [1,2,3,9] rfl ?_);intro a hF
 refine loopX (fun (i:Nat) a w=>∃ out vs oi ci oj cj,Fr 86 [(1,.slice (some ⟨b,oi,none⟩) (D.drop i).length ci),(2,.slice (some ⟨ab,0,none⟩) D.length cc),(3,.pointer (some ⟨b3,0,none⟩)),(9,.slice (some ⟨ab,oj,none⟩) (D.length - out.length) cj)] a∧Mem wc.heap.size wc ((b3,125,CFG)::(ab,at_,vs)::R) w∧Ue D i out∧D[i]?=some 92∧vs.take out.length=u8s out∧vs.length=V∧Bts wc b oi (D.drop i)∧(D.drop i).length≤ci∧(out.length<D.length→oj=out.length)∧D.length - out.length≤cj) (fun i=>D.length - i) (f) ?_ (fun i a w hI=> ?_)
 · exact ⟨D.take f,vs1,_,_,_,_,by rw [htl];exact hF,hM,hU,hf92,hvt,hvl2,hD.so f hcp,by rw [List.length_drop];omega,fun h=>by rw [htl] at h ⊢;unfold so;split;omega;omega,by rw [htl];omega⟩
 clear hF hM
 clear hU hvt hvl2 htl hvV
 obtain ⟨out,vs,oi,ci,oj,cj,hF,hM,hU,h92,hvt,hvV,hDi,hci,hoj,hcj⟩:=hI
 have hol:=hU.len
 have hil:=(List.getElem?_eq_some_iff.1 h92).1
 have hU1:=hU.esc h92
 have hh92:(D.drop i).head?=some 92:=by rw [List.head?_drop];exact h92
 obtain ⟨_,_,hle1,hel,h2e,h12,_⟩:=es_step hU.ins hh92
 have hdl:=List.length_drop (i:=i) (l:=D)
 rw [hdl] at hle1
 have hojv:=hoj (by omega)
 subst hojv
 revert a;refine Bo (Sq (Rg (Gv rfl (fun _ hF=>gives_loadA hF hM 0 rfl Tryz.underlying125 rfl (by kernel_rfl) rfl rfl) (Mv 2 rfl ?_))))
 replace hM:=hM.perm (List.Perm.swap _ _ _)
 refine Cl rfl rfl rfl (escape1_walk (D:=D.drop i) (j:=out.length) (sl:=D.length - out.length) hJ hU.ins hh92 (by omega) hci hDi rfl (by omega) (by omega) hM) ?_
 clear hM;intro w v hR
 obtain ⟨rfl,hM⟩:=hR
 replace hM:=hM.perm (List.Perm.swap _ _ _)
 have hvt1:=grow_row (e:=(es (D.drop i)).2) hvt
 have hvl1:=grow_len (vs:=vs) (out:=out) (e:=(es (D.drop i)).2) (by omega)
 rw [hvV] at hvl1
 generalize vs.take out.length++u8s (es (D.drop i)).2++vs.drop (out.length+(es (D.drop i)).2.length)=vs1 at hM hvt1 hvl1
 intro a hF
 generalize he1:(es (D.drop i)).1=e1 at hF hU1 hle1 hel h2e h12
 generalize he2:(es (D.drop i)).2=e2 at hF hU1 hel hvt1
 revert a;refine Md 5 [1,2,3,9,10,11] rfl (Nx (Sq (Sq (Rg (Md 2 [1,2,3,9,10,11,49] rfl (Nx (C1 rfl (fun ht=>absurd (eq_of_beq ht) (by omega)) (Sk (Nx (Sq (Rg (Mv 2 rfl (Gv rfl (fun _ hF=>gives_slFrom (e1) hF rfl Tryz.underlying66 (by kernel_rfl) rfl rfl rfl (by omega) _) ?_)))))))))))));intro a hF
 rw [show (D.drop i).length - e1=(D.drop (i+e1)).length by rw [List.length_drop,List.length_drop];omega] at hF
 revert a;refine Md 1 [1,2,3,9,11] rfl (Nx (Sq (Rg (Mv 2 rfl (Gv rfl (fun _ hF=>gives_slFrom (e2.length) hF rfl Tryz.underlying66 (by kernel_rfl) rfl rfl rfl (by omega) _) ?_)))));intro a hF
 rw [show D.length - out.length - e2.length=D.length - (out++e2).length by rw [List.length_append];omega] at hF
 have hDi1:Bts wc b (so oi e1 ci) (D.drop (i+e1)):=by have:=hDi.so e1 hci;rw [List.drop_drop] at this;exact this
 have hci1:(D.drop (i+e1)).length≤ci - e1:=by rw [List.length_drop];omega
 have hoj1:(out++e2).length<D.length→so out.length e2.length cj=(out++e2).length:=fun h=>by rw [List.length_append] at h ⊢;unfold so;split;omega;rfl
 have hcj1:D.length - (out++e2).length≤cj - e2.length:=by rw [List.length_append];omega
 generalize so oi e1 ci=oi1 at hF hDi1
 generalize so out.length e2.length cj=oj1 at hF hoj1
 generalize ci - e1=ci1 at hF hci1
 generalize cj - e2.length=cj1 at hF hcj1
 have hi1:i+2≤i+e1:=by omega
 generalize i+e1=i1 at*
 generalize hoe:out++e2=out1 at*
 have hol1:=hU1.len
 have hil1:=hU1.le
 have hdl1:=List.length_drop (i:=i1) (l:=D)
 revert a;refine Md 1 [1,2,3,9] rfl (Nx (Sq (Rg (Mv 1 rfl (Cm hM rfl rfl rfl (indexB_walk _ (hDi1.below hM.below)) ?_)))))
 clear hM;intro w v hR hM hBe
 obtain rfl:=hR
 refine Md 1 [1,2,3,9,12] rfl (Nx (Sq (Rg (Md 2 [1,2,3,9,12,60] rfl (Nx (Cd rfl (fun ht=> ?_) ((fun ht=> ?_))))))))
 ·
  have hix1:ixB (D.drop i1)= -1:=by simpa using ht
  have hall:=ix_no hix1
  refine Sq (Rg (Mv 2 rfl ?_))
  replace hM:=hM.perm (List.Perm.swap _ _ _)
  intro a hF
  refine op_copyB hF (out1.length) hM rfl (hDi1.below hM.below) rfl rfl rfl rfl rfl (by omega) (fun h=>hoj1 (by have:=List.length_pos_iff.2 h;omega)) (by omega) ?_;clear hF hM a;intro a w vcp hF hM
  replace hM:=hM.perm (List.Perm.swap _ _ _)
  have hvt3:=grow_row (e:=D.drop i1) hvt1
  have hvl3:=grow_len (vs:=vs1) (out:=out1) (e:=D.drop i1) (by first | omega | (rw [List.length_take];omega))
  rw [hvl1] at hvl3
  generalize vs1.take out1.length++u8s (D.drop i1)++vs1.drop (out1.length+(D.drop i1).length)=vs3 at hM hvt3 hvl3
  have hU3:=Ue.plain (D:=D) (D.drop i1).length hU1 (by rw [hall];exact Nat.le_refl _)
  rw [List.take_length] at hU3
  have hun:=hU3.all (by omega)
  revert a;refine Md 0 [1,2,9] rfl (Nx (Sq (Rg (Mv 3 rfl (Gv rfl (fun _ hF=>gives_slFrom ((D.drop i1).length) hF rfl Tryz.underlying66 (by kernel_rfl) rfl rfl rfl (by omega) _) ?_)))));intro a hF
  rw [show D.length - out1.length - (D.drop i1).length=D.length - (out1++D.drop i1).length by rw [List.length_append];omega] at hF
  revert a;refine Md 1 [2,9] rfl (Nx (Ex (Op' rfl (Ot (Ob (Kp [2,9] rfl ?_))))));intro a hF
  rw [←hun] at hF hvt3
  exact ⟨vs3,_,_,hF,hM,hvt3,hvl3,by rw [hun,List.length_append];omega⟩
 have hix1:ixB (D.drop i1)≠ -1:=by simpa using ht
 obtain ⟨hixe1,hglt,hg92'⟩:=ix_yes hix1
 intro a hF
 rw [hixe1] at hF
 generalize hge:fst (· ==92) (D.drop i1)=g at hixe1 hglt hg92' hF
 have hg92:D[i1+g]?=some 92:=by rw [←List.getElem?_drop];exact hg92'
 revert a;refine Sq (Rg (Mv 3 rfl (Gv rfl (fun _ hF=>gives_slT ((D.drop i1).take g).length hF rfl Tryz.underlying66 (by kernel_rfl) rfl rfl (by rw [List.length_take];omega) (by rw [List.length_take];omega) _) ?_)))
 replace hM:=hM.perm (List.Perm.swap _ _ _)
 intro a hF
 refine op_copyB hF (out1.length) hM rfl ((hDi1.below hM.below).take g) rfl rfl rfl rfl rfl (by rw [List.length_take];omega) (fun h=>hoj1 (by have:=List.length_pos_iff.2 h;rw [List.length_take] at this;omega)) (by rw [List.length_take];omega) ?_;clear hF hM a;intro a w vcp hF hM
 replace hM:=hM.perm (List.Perm.swap _ _ _)
 have hvt3:=grow_row (e:=(D.drop i1).take g) hvt1
 have hvl3:=grow_len (vs:=vs1) (out:=out1) (e:=(D.drop i1).take g) (by first | omega | (rw [List.length_take];omega))
 rw [hvl1] at hvl3
 generalize vs1.take out1.length++u8s ((D.drop i1).take g)++vs1.drop (out1.length+((D.drop i1).take g).length)=vs3 at hM hvt3 hvl3
 have hU2:=Ue.plain (D:=D) g hU1 (by omega)
 have hgl:D.length - (out1++(D.drop i1).take g).length=D.length - out1.length - g:=by rw [List.length_append,List.length_take];omega
 have hgl2:(out1++(D.drop i1).take g).length=out1.length+g:=by rw [List.length_append,List.length_take];omega
 revert a;refine Md 0 [1,2,3,9,12] rfl (Nx (Sq (Rg (Mv 2 rfl (Gv rfl (fun _ hF=>gives_slFrom (g) hF rfl Tryz.underlying66 (by kernel_rfl) rfl rfl rfl (by omega) _) ?_)))))
 have hoj2:(out1++(D.drop i1).take g).length<D.length→so oj1 g cj1=(out1++(D.drop i1).take g).length:=fun h=>by rw [hgl2] at h ⊢;have:=hoj1 (by omega);unfold so;split;omega;omega
 have hcj2:D.length - (out1++(D.drop i1).take g).length≤cj1 - g:=by rw [hgl2];omega
 refine Md 1 [1,2,3,9,12] rfl (Nx (Rg (Mv 2 rfl (Gv rfl (fun _ hF=>gives_slFrom (g) hF rfl Tryz.underlying66 (by kernel_rfl) rfl rfl rfl (by omega) _) ?_))));intro a hF
 rw [show (D.drop i1).length - g=(D.drop (i1+g)).length by rw [List.length_drop,List.length_drop];omega] at hF
 have hDi2:Bts wc b (so oi1 g ci1) (D.drop (i1+g)):=by have:=hDi1.so g hci1;rw [List.drop_drop] at this;exact this
 have hci2:(D.drop (i1+g)).length≤ci1 - g:=by rw [List.length_drop];omega
 revert a;refine Md 1 [1,2,3,9] rfl (Nb (Kp [1,2,3,9] rfl ?_));intro a hF
 exact ⟨i1+g,⟨out1++(D.drop i1).take g,vs3,_,_,_,_,by rw [hgl];exact hF,hM,hU2,hg92,hvt3,hvl3,hDi2,hci2,hoj2,hcj2⟩,by omega⟩
theorem equalStr_walk {bp:Nat}{v1:Value}{D s:Str}{wc w0:World}{L:List Bk}(hL:LyB wc L v1 D) (hM0:Mem wc.heap.size wc ((bp,66,[v1])::L) w0):
    Calls Tryz.prog 153 #[.pointer (some ⟨bp,0,none⟩),.string (mkS s)] w0 (Ret fun v w'=>v= .bool (D==s)∧Mem wc.heap.size wc ((bp,66,[v1])::L) w'):=by
 have hM:=hM0
 obtain ⟨b,o,c,rfl,hD⟩:=hL.bts hM (by intro z hz;simp [hz])
 refine enter (l:=[.pointer (some ⟨bp,0,none⟩),.string (mkS s)]) 9 Tryz.func153 rfl rfl (Sq (Rg (Md 1 [0,1] rfl (Nx (Sq (Rg (Mv 2 rfl (Ld hM 0 rfl rfl (Gv rfl (fun _ hF=>gives_bytesStrB D hF rfl rfl rfl hD) (Mv 1 rfl ?_))))))))));intro a hF
 refine op_eqlStr hF rfl rfl rfl rfl rfl rfl ?_;clear hF a;intro a hF
 revert a;exact Md 1 [4] rfl (Nx (Re (Y1 rfl rfl ⟨_,rfl,rfl,hM⟩)))
theorem atoiIn_walk (s:Str) (hd:Digs s) (h0:s≠ []) (hl:s.length≤18) (w0:World):Calls Tryz.prog 176 #[.string (mkS s)] w0 (Ret fun v w'=>v= .tuple #[.int .i64 ((worth s:Nat):Int),.nilIface]∧Below w0.heap.size w0 w'):=by
 have hM:=MS0 w0
 have hlp:=List.length_pos_iff.2 h0
 obtain ⟨c0,hc0⟩:∃ c,s[0]?=some c:=⟨_,List.getElem?_eq_getElem hlp⟩
 have hcd:=dig_rng (hd c0 (List.mem_of_getElem? hc0))
 have hw18:∀ i,worth (s.take i)<10^18:=fun i=>by have h1:=worth_lt (hd.take i);have h2:10^(s.take i).length≤10^18:=Nat.pow_le_pow_right (by decide) (by rw [List.length_take];omega);omega
 have e18:(10:Nat)^18=1000000000000000000:=by decide
 rw [e18] at hw18
 refine enter (l:=[.string (mkS s)]) 76 Tryz.func176 rfl rfl (Sq (Rg (Md 2 [0] rfl (Nx (Sq (Rg (Md 3 [0,4] rfl (Nx (Sq (Sq ?_))))))))))
 skip
 refine Rg (Mv 11 rfl (Bt rfl (by omega) (Mv 2 rfl (Bt rfl (by omega) (Md 3 [0,30] rfl (Nx (Ct rfl (Sq (Rg (Md 2 [0,5] rfl (Nx (Sq (Sq (Rg (Mv 1 rfl (Ix (0) c0 rfl hc0 (by omega) (Qf 45 rfl rfl (by rintro rfl;exact absurd hcd.1 (by decide)) (Mv 2 rfl (Ix (0) c0 rfl hc0 (by omega) (Qf 43 rfl rfl (by rintro rfl;exact absurd hcd.1 (by decide)) (Md 1 [0,5,39] rfl (Nx (Cf rfl (Sk (Nx (Sq (Rg (Md 1 [0,5,6] rfl (Nx (Sq (Sq (Rg (Mv 1 rfl ?_)))))))))))))))))))))))))))))))));intro a hF
 refine op_strBytes hF hM rfl rfl rfl rfl rfl rfl ?_;clear hF hM a;intro a w b cap hF hM hb hrow
 revert a;refine Md 2 [5,6,47,48,49] rfl (Nx (Bo (Kp [5,6,47,48,49] rfl ?_)));intro a hF
 refine loopX (fun (i:Nat) a w=>Fr 77 [(5,.string (mkS s)),(6,.int .i64 ((worth (s.take i):Nat):Int)),(47,.slice (some ⟨b,0,none⟩) s.length cap),(48,.int .i64 (s.length:Int)),(49,.int .i64 (i:Int))] a∧Mem w0.heap.size w0 [] w∧i≤s.length∧b<w.heap.size∧(∀ j u,s[j]?=some u→w.cell? ⟨b,j,none⟩=some (.int .u8 (u.toNat:Int)))) (fun i=>s.length - i) (0) ?_ (fun i a w hI=> ?_)
 · exact ⟨hF,hM,Nat.zero_le _,hb,hrow⟩
 clear hF hM
 clear hb hrow
 obtain ⟨hF,hM,hil,hb,hrow⟩:=hI
 have hwi:=hw18 i
 revert a;refine Sq (Rg (Md 1 [5,6,47,48,49,50] rfl (Nx (Sq (Ce rfl (fun ht=> ?_) ((fun ht=> ?_)))))))
 ·
  have hin:s.take i=s:=List.take_of_length_le (by have:=of_decide_eq_false ht;omega)
  intro a hF
  rw [hin] at hF
  revert a;exact Ex (Ot (Ot (Ob (Nx (Sq (Sq (Rg (Mv 1 rfl (Ix (0) c0 rfl hc0 (by omega) (Qf 45 rfl rfl (by rintro rfl;exact absurd hcd.1 (by decide)) (Md 0 [6,66] rfl (Nx (Cf rfl (Sk (Nx (Sq (Rg (Md 3 [2,3] rfl (Nx (Re (Rt (Y2 rfl rfl rfl ⟨_,rfl,rfl,hM.below⟩))))))))))))))))))))))
 have hi:i<s.length:=by have:=of_decide_eq_true ht;omega
 obtain ⟨c,hc⟩:∃ c,s[i]?=some c:=⟨_,List.getElem?_eq_getElem hi⟩
 have hcr:=dig_rng (hd c (List.mem_of_getElem? hc))
 have hdgc:dg c=c.toNat - 48:=rfl
 have hnext:worth (s.take (i+1))=worth (s.take i)*10+dg c:=by rw [take_next hc,worth_snoc]
 have hwi1:=hw18 (i+1)
 refine Sk (Nx (Sq (Bo (Sq (Rg ?_)))));intro a hF
 refine op_indexAddr_sl hF rfl i rfl rfl rfl Tryz.underlying66 (by kernel_rfl) rfl rfl rfl hi ?_;clear hF a;intro a hF
 refine op_load1 hF rfl rfl rfl rfl Tryz.underlying5 rfl rfl (by rw [Nat.zero_add];exact hrow i c hc) ?_;clear hF a;intro a hF
 revert a;refine Md 1 [5,6,8,47,48,49] rfl (Nx (Sq (Rg (Mv 1 rfl ?_))));intro a hF
 refine op_sum hF rfl ((dg c:Int)) rfl rfl rfl rfl rfl rfl (by omega) (IntWalk.u8_in _ ⟨by omega,by omega⟩) ?_;clear hF a;intro a hF
 revert a;refine Md 1 [5,6,8,47,48,49] rfl (Nx (Sq (Sq (Rg (Mv 1 rfl (Bf rfl (by omega) (Md 0 [5,6,8,47,48,49,56] rfl (Nx (Cf rfl (Sk (Nx (Rg (Mv 1 rfl (Sm (((worth (s.take i)*10:Nat):Int)) rfl (by omega) (Mv 1 rfl ?_)))))))))))))));intro a hF
 refine op_conv_to hF rfl rfl rfl rfl Tryz.underlying5 Tryz.underlying3 rfl (wrap_i64 (by omega) (by omega)) ?_;clear hF a;intro a hF
 revert a;refine Sm (((worth (s.take i)*10+dg c:Nat):Int)) rfl (by omega) (Md 1 [5,6,47,48,49] rfl (Nb (Nx (Rg (Sm (((i+1:Nat):Int)) rfl (by omega) (Md 1 [5,6,47,48,49] rfl ?_))))));intro a hF
 rw [←hnext] at hF
 exact ⟨i+1,⟨hF,hM,hi,hb,hrow⟩,by omega⟩
theorem atoi_walk (s:Str) (hd:Digs s) (h0:s≠ []) (hl:s.length≤18) (w0:World):Calls Tryz.prog 155 #[.string (mkS s)] w0 (Ret fun v w'=>v= .tuple #[.int .i64 ((worth s:Nat):Int),.nilIface]∧Below w0.heap.size w0 w'):=by
 have hM:=MS0 w0
 refine enter (l:=[.string (mkS s)]) 17 Tryz.func155 rfl rfl (Sq (Rg (Md 2 [0] rfl (Nx (Sq (Rg (Mv 1 rfl (Cm hM rfl rfl rfl (atoiIn_walk s hd h0 hl _) ?_))))))))
 clear hM;intro w v hR hM hBe
 obtain rfl:=hR
 refine Md 5 [0,4,5] rfl (Nx (Sq (Sq (Rg (Mv 1 rfl ?_)))));intro a hF
 refine op_neNil hF rfl rfl rfl rfl rfl ⟨_,Tryz.underlying63⟩ ?_;clear hF a;intro a hF
 revert a;exact Md 0 [0,4,5,12] rfl (Nx (Cf rfl (Sk (Nx (Sq (Rg (Md 3 [2,3] rfl (Nx (Re (Y2 rfl rfl rfl ⟨_,rfl,rfl,hM.below⟩))))))))))

end Go.Sx