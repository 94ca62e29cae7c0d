/- Part 26 of the proof of FnJrTyped: the statement Rows.FnJrTypedCardSaid; no further condition. -/
import Derived.Test.YtelonenjneonlaaGreatDoorR25
set_option linter.all false
set_option maxRecDepth 100000
namespace Go.Sx
open Go.RowKit Go.Proofs Js Go.Proofs.YtelonenjneonlaaGreatDoorW.PrintWords
noncomputable def errK (neg:Bool) (I fd:Str) (k':Int):Nat:=@ite Nat (ErrX neg I fd k') (Classical.propDecidable _) 7 0
theorem errK_yes {neg:Bool}{I fd:Str}{k':Int}(h:ErrX neg I fd k'):errK neg I fd k'=7:=by unfold errK;exact if_pos h
theorem errK_no {neg:Bool}{I fd:Str}{k':Int}(h: ¬ ErrX neg I fd k'):errK neg I fd k'=0:=by unfold errK;exact if_neg h
theorem parseF_walk {ea:Nat→Addr}{bp b o cp B:Nat}{wc w0:World}{L:List Bk}{s:Str}{neg:Bool}{I fd E:Str}{k k':Int}(hf:NumForm s neg I fd E k) (hx:ExCap E k') (hs:s.length≤2^40) (hn:∀ c∈s,numc c=true) (hV:TabX w0.heap.size w0) (hJ:JB ea w0.heap.size w0) (hD:Bts w0 b o s) (hM0:Mem B wc ((bp,66,[.slice (some ⟨b,o,none⟩) s.length cp])::L) w0):
    Calls Tryz.prog 84 #[.pointer (some ⟨bp,0,none⟩)] w0 (Ret fun v w'=>(∃ (f:Nat) (e:Value),v= .tuple #[.float .f64 f,e]∧Tel2 neg I fd k' e)∧Mem B wc ((bp,66,[.slice (some ⟨b,o,none⟩) s.length cp])::L) w'):=by
 have hM:=hM0
 refine enter (l:=[.pointer (some ⟨bp,0,none⟩)]) 10 Tryz.func84 rfl rfl (Sq (Rg (Md 2 [0] rfl (Nx (Sq (Rg (Mv 2 rfl (Ld hM 0 rfl rfl (Gv rfl (fun _ hF=>gives_bytesStrB s hF rfl rfl rfl hD) ?_)))))))));intro a hF
 refine op_call hF rfl rfl rfl rfl Tryz.func124 (by kernel_rfl) rfl rfl (parseFloatx_walk hf hx hs hn _ hV hJ) ?_
 clear hF a;intro a w' v hR hF
 obtain ⟨⟨f,e,rfl,htl⟩,hBe⟩:=hR
 replace hM:=hM.step hBe
 revert a;exact Md 4 [2,3] rfl (Nx (Re (Y2 rfl rfl rfl ⟨_,rfl,⟨_,_,rfl,htl⟩,hM⟩)))
theorem parseFl_walk {ea:Nat→Addr}{b o cp:Nat}{s:Str}{neg:Bool}{I fd E:Str}{k k':Int}(hf:NumForm s neg I fd E k) (hx:ExCap E k') (hs:s.length≤2^40) (hn:∀ c∈s,numc c=true) (w0:World) (hV:TabX w0.heap.size w0) (hJ:JB ea w0.heap.size w0) (hD:Bts w0 b o s):
    Calls Tryz.prog 58 #[.slice (some ⟨b,o,none⟩) s.length cp] w0 (Ret fun v w'=>GOut ea w0 (errK neg I fd k') v w'):=by
 have hM:=MS0 w0
 refine enter (l:=[.slice (some ⟨b,o,none⟩) s.length cp]) 13 Tryz.func58 rfl rfl (Sq (Rg ?_));intro a hF
 refine op_box (vs:=[.slice (some ⟨b,o,none⟩) s.length cp]) hF hM rfl rfl rfl rfl rfl rfl ?_;clear hF hM a;intro a w bp hF hM
 revert a;refine Md 2 [1] rfl (Nx (Sq (Rg (Cl rfl rfl rfl (parseF_walk hf hx hs hn (hV.mem hM) (hJ.mem hM) (hD.below hM.below) hM) ?_))))
 clear hM;intro w v hR
 obtain ⟨⟨f,e,rfl,htl⟩,hM⟩:=hR
 refine Md 5 [4,5] rfl (Nx (Sq ?_))
 rcases htl with ⟨rfl,hno⟩ | ⟨u,rfl,hyes⟩
 · exact Rg (Mv 1 rfl (Gv rfl (fun _ hF=>gives_isNil hF (.inr rfl) rfl rfl ⟨_,Tryz.underlying63⟩ false rfl) (Md 0 [4,11] rfl (Nx (Cf rfl (Sq (Rg (Md 3 [2,3] rfl (Nx (Re (Y2 rfl rfl rfl ⟨_,rfl,by rw [errK_no hno];exact gout_nil _ hM.below⟩)))))))))))
 refine Rg (Mv 1 rfl (Gv rfl (fun _ hF=>gives_isErr (u:=99) (v:=u) hF (.inr rfl) rfl rfl ⟨_,Tryz.underlying63⟩ true rfl) (Md 0 [4,11] rfl (Nx (Ct rfl (Sq (Sl (by kernel_rfl) (by kernel_rfl) ?_)))))))
 replace hM:=hM.drew
 skip
 exact Gs rfl (fun _ hF=>gives_load1 hF rfl Tryz.underlying63 rfl rfl (((hJ.mem hM).errs 7 (by omega)).1)) (Ms 2 rfl (Sd (Kp [2,3] rfl (Nx (Re (Y2 rfl rfl rfl ⟨_,rfl,by rw [errK_yes hyes];exact gout_ev hJ (by omega) _ hM.below _ rfl⟩))))))
def leadE (c:UInt8):Bool:=c==46 || c==101 || c==69
def leadN:Str→Nat
  | []=>0
  | c::r=>if leadE c then 0 else (if c=45 then 0 else 1)+leadN r
theorem jrLead_walk (s:Str) (hl:s.length≤2^40) (w0:World):Calls Tryz.prog 17 #[.string (mkS s)] w0 (Ret fun v w'=>v= .int .i64 ((leadN s:Nat):Int)∧Below w0.heap.size w0 w'):=by
 have hM:=MS0 w0
 refine enter (l:=[.string (mkS s)]) 35 Tryz.func17 rfl rfl (Sq (Rg (Md 1 [0] rfl (Nx (Sq (Rg (Md 1 [0,3] rfl (Nx (Sq (Sq (Rg (Md 1 [0,3,4] rfl (Nx (Bo (Kp [0,3,4] rfl ?_)))))))))))))));intro a hF
 refine loopX (fun (x:Nat×Nat) a w=>Fr 36 [(0,.string (mkS s)),(3,.int .i64 (x.2:Int)),(4,.int .i64 (x.1:Int))] a∧Mem w0.heap.size w0 [] w∧leadN s=x.2+leadN (s.drop x.1)∧x.1≤s.length∧x.2≤x.1) (fun x=>s.length - x.1) ((0,0)) ?_ (fun x a w hI=> ?_)
 · exact ⟨hF,hM,by simp,Nat.zero_le _,Nat.le_refl _⟩
 clear hF hM
 obtain ⟨i,n⟩:=x
 obtain ⟨hF,hM,hn,hil,hni⟩:=hI
 simp only at hF hM hn hil hni
 revert a;refine Sq (Sq ?_)
 rcases Nat.lt_or_ge i s.length with hi | hi
 ·
  obtain ⟨c,r,hd,hg⟩:=drop_cons hi
  rcases (show c=46∨c=101∨c=69∨leadE c=false by cases h:leadE c with | false=>simp | true=>simp only [leadE,Bool.or_eq_true,beq_iff_eq] at h;rcases h with (h | h) | h <;> simp [h]) with hc | hc | hc | hce
  ·
   subst hc
   have hen:leadN s=n:=by rw [hn,hd];simp [leadN,leadE]
   exact Rg (Mv 3 rfl (Bt rfl (by omega) (Mv 3 rfl (Ix (i) 46 rfl hg (by omega) (Md 14 [0,3,4,26] rfl (Nx (Cf rfl (Ex (Ot (Ot (Ob (Nx (Sq (Rg (Md 2 [2] rfl (Nx (Re (Y1 rfl rfl ⟨_,rfl,by rw [hen],hM.below⟩))))))))))))))))))
  ·
   subst hc
   have hen:leadN s=n:=by rw [hn,hd];simp [leadN,leadE]
   exact Rg (Mv 3 rfl (Bt rfl (by omega) (Mv 3 rfl (Ix (i) 101 rfl hg (by omega) (Mv 5 rfl (Ix (i) 101 rfl hg (by omega) (Md 8 [0,3,4,26] rfl (Nx (Cf rfl (Ex (Ot (Ot (Ob (Nx (Sq (Rg (Md 2 [2] rfl (Nx (Re (Y1 rfl rfl ⟨_,rfl,by rw [hen],hM.below⟩))))))))))))))))))))
  ·
   subst hc
   have hen:leadN s=n:=by rw [hn,hd];simp [leadN,leadE]
   exact Rg (Mv 3 rfl (Bt rfl (by omega) (Mv 3 rfl (Ix (i) 69 rfl hg (by omega) (Mv 5 rfl (Ix (i) 69 rfl hg (by omega) (Mv 5 rfl (Ix (i) 69 rfl hg (by omega) (Md 2 [0,3,4,26] rfl (Nx (Cf rfl (Ex (Ot (Ot (Ob (Nx (Sq (Rg (Md 2 [2] rfl (Nx (Re (Y1 rfl rfl ⟨_,rfl,by rw [hen],hM.below⟩))))))))))))))))))))))
  have hx:=hce
  simp only [leadE,Bool.or_eq_false_iff,beq_eq_false_iff_ne,ne_eq] at hx
  obtain ⟨⟨h0,h1⟩,h2⟩:=hx
  refine Rg (Mv 3 rfl (Bt rfl (by omega) (Mv 3 rfl (Ix (i) c rfl hg (by omega) (Mv 1 rfl ?_)))));intro a hF
  rw [bne_t (d:=46) (z:=46) rfl h0] at hF
  revert a;refine Mv 4 rfl (Ix (i) c rfl hg (by omega) (Mv 1 rfl ?_));intro a hF
  rw [bne_t (d:=101) (z:=101) rfl h1] at hF
  revert a;refine Mv 4 rfl (Ix (i) c rfl hg (by omega) (Mv 1 rfl ?_));intro a hF
  rw [bne_t (d:=69) (z:=69) rfl h2] at hF
  revert a;refine Md 1 [0,3,4,26] rfl (Nx (Ct rfl (Sk (Nx (Sq (Bo (Sq (Rg (Mv 2 rfl (Ix (i) c rfl hg (by omega) (Md 1 [0,3,4,32] rfl (Nx (Ce rfl (fun ht=> ?_) ((fun ht=> ?_)))))))))))))))
  ·
   have hc45:c=45:=ne_f (d:=45) rfl ht
   subst hc45
   refine Sk (Nb (Nx (Rg (Mv 1 rfl (Sm (((i+1:Nat):Int)) rfl (by omega) (Md 1 [0,3,4] rfl ?_))))));intro a hF
   exact ⟨(i+1,n),⟨hF,hM,by rw [hn,hd,←List.drop_drop,hd];simp [leadN,hce],hi,by simp only;omega⟩,by simp only;omega⟩
  have hm45:c≠45:=ne_t (d:=45) rfl ht
  refine Rg (Mv 1 rfl (Sm (((n+1:Nat):Int)) rfl (by omega) (Md 1 [0,3,4] rfl (Nb (Nx (Rg (Mv 1 rfl (Sm (((i+1:Nat):Int)) rfl (by omega) (Md 1 [0,3,4] rfl ?_)))))))));intro a hF
  exact ⟨(i+1,n+1),⟨hF,hM,by rw [hn,hd,←List.drop_drop,hd];simp [leadN,hce,hm45];omega,hi,by simp only;omega⟩,by simp only;omega⟩
 have hen:leadN s=n:=by rw [hn,List.drop_of_length_le hi];simp [leadN]
 exact Rg (Mv 3 rfl (Bf rfl (by omega) (Md 18 [0,3,4,26] rfl (Nx (Cf rfl (Ex (Ot (Ot (Ob (Nx (Sq (Rg (Md 2 [2] rfl (Nx (Re (Y1 rfl rfl ⟨_,rfl,by rw [hen],hM.below⟩))))))))))))))))
def PIok (D:Str) (z:Int) (ok ov:Bool):Prop:=(jdec D=true→ok=i64ok D∧ov= !(i64ok D)∧(ok=true→z=if D.head?=some 45 then -((worth (D.drop 1):Nat):Int) else ((worth D:Nat):Int)))∧(jdec D=false→leadN D≤18→ok=false∧ov=false)
structure Sg (D u:Str) (neg:Bool):Prop where
  jd:jdec D=digs u
  ok:i64ok D=(match u64 u with | some n=>decide (n<2^63+(if neg then 1 else 0)) | none=>false)
  ld:leadN D=leadN u
  val:(if D.head?=some 45 then -((worth (D.drop 1):Nat):Int) else ((worth D:Nat):Int))=if neg then -((worth u:Nat):Int) else ((worth u:Nat):Int)
theorem Sg.neg (u:Str):Sg (45::u) u true:=by
  refine ⟨rfl,?_,?_,by simp⟩
  · show (match u64 u with | some n=>decide (n≤2^63) | none=>false)=_
    cases u64 u with
    | none=>rfl
    | some n=>simp;omega
  · simp [leadN,leadE]
theorem Sg.pos {D:Str}(h:D.head?≠some 45):Sg D D false:=by
  cases D with
  | nil=>exact ⟨rfl,rfl,rfl,by simp⟩
  | cons c r =>
    have hc:c≠45:=by intro e;exact h (by rw [e];rfl)
    refine ⟨?_,?_,rfl,by rw [if_neg h];rfl⟩
    · unfold jdec;split
      · next h1=>injection h1 with a b;exact absurd a hc
      · rfl
    · unfold i64ok;split
      · next h1=>injection h1 with a b;exact absurd a hc
      · rfl
theorem digs_of {u:Str}(h:Digs u) (h0:u≠ []):digs u=true:=by
  unfold digs
  rw [Bool.and_eq_true]
  exact ⟨List.all_eq_true.2 h,by simpa using h0⟩
theorem digs_inv {u:Str}(h:digs u=true):Digs u∧u≠ []:=by
  unfold digs at h
  rw [Bool.and_eq_true] at h
  exact ⟨List.all_eq_true.1 h.1,by simpa using h.2⟩
theorem lead_ge:∀ {u:Str}{j:Nat},Digs (u.take j)→j≤u.length→j≤leadN u
  | _,0,_,_=>Nat.zero_le _
  | [],j+1,_,h=>by simp at h
  | c :: u, j + 1, hd, hl => by
    rw [List.take_succ_cons] at hd
    have h1:=dig_rng hd.head
    have hE:leadE c=false:=by
      unfold leadE
      simp only [Bool.or_eq_false_iff,beq_eq_false_iff_ne]
      refine ⟨⟨?_,?_⟩,?_⟩ <;> rintro rfl <;> exact absurd h1 (by decide)
    have h45:c≠45:=by rintro rfl;exact absurd h1 (by decide)
    have h2:=lead_ge hd.tail (by simpa using hl)
    rw [leadN,hE,if_neg Bool.false_ne_true,if_neg h45]
    omega
theorem pi_bad {D u:Str}{neg:Bool}(hS:Sg D u neg) {i:Nat}{c:UInt8}(h:u[i]?=some c) (hc:isDig c=false):PIok D 0 false false:=by
  have hb:=digs_bad h hc
  exact ⟨(fun h1=>by rw [hS.jd,hb] at h1;cases h1),fun _ _=>⟨rfl,rfl⟩⟩
theorem pi_nil {D:Str}{neg:Bool}(hS:Sg D [] neg):PIok D 0 false false:=
  ⟨(fun h1=>by rw [hS.jd] at h1;cases h1),fun _ _=>⟨rfl,rfl⟩⟩
theorem pi_ov {D u:Str}{neg:Bool}(hS:Sg D u neg) {j:Nat}(hd:Digs (u.take j)) (hj:j≤u.length) (hw:2^64≤worth (u.take j)):PIok D 0 false true:=by
  refine ⟨fun h1=> ?_,fun _ h=> ?_⟩
  · have e:i64ok D=false:=by rw [hS.ok,u64_big j hw]
    rw [e];exact ⟨rfl,rfl,fun h=>by cases h⟩
  · exfalso
    have h2:=lead_ge hd hj
    rw [hS.ld] at h
    have h3:=worth_lt hd
    have h4:(u.take j).length≤18:=by rw [List.length_take];omega
    have h5:=Nat.pow_le_pow_right (show 0<10 by decide) h4
    omega
theorem pi_all {D u:Str}{neg:Bool}(hS:Sg D u neg) (hd:Digs u) (h0:u≠ []) (hw:worth u<2^64) {z:Int}{ok:Bool}(hz:ok=true→z=if neg then -((worth u:Nat):Int) else ((worth u:Nat):Int)) (hok:ok=decide (worth u<2^63+(if neg then 1 else 0))):PIok D z ok (!ok):=by
  have e:i64ok D=ok:=by rw [hS.ok,hok];unfold u64;rw [if_pos ⟨h0,hd,hw⟩]
  refine ⟨fun _=>⟨e.symm,by rw [e],fun h=>by rw [hS.val];exact hz h⟩,fun h1=> ?_⟩
  rw [hS.jd,digs_of hd h0] at h1
  cases h1
theorem parseInt_walk {b o cp:Nat}{D:Str}(w0:World) (h0:D≠ []) (hl:D.length≤2^38) (hcp:D.length≤cp) (hD:Bts w0 b o D):
    Calls Tryz.prog 61 #[.slice (some ⟨b,o,none⟩) D.length cp] w0 (Ret fun v w'=>(∃ (z:Int) (ok ov:Bool),v= .tuple #[.int .i64 z,.bool ok,.bool ov]∧PIok D z ok ov)∧Below w0.heap.size w0 w'):=by
 have hM:=MS0 w0
 have hlp:=List.length_pos_iff.2 h0
 obtain ⟨c0,hc0⟩:∃ c,D[0]?=some c:=⟨_,List.getElem?_eq_getElem hlp⟩
 refine enter (l:=[.slice (some ⟨b,o,none⟩) D.length cp]) 90 Tryz.func61 rfl rfl (Sq (Rg (Md 3 [0,2] rfl (Nx (Sq (Rg (Md 3 [0,2,5] rfl (Nx (Sq (Sq (Rg (Md 2 [0,2,5,16] rfl (Nx (C1 rfl (fun ht=>absurd (eq_of_beq ht) (by omega)) (Sk (Nx (Sq (Rg (Md 1 [0,2,5,6] rfl (Nx (Sq (Rg (Md 1 [0,2,5,6,7] rfl (Nx ?_))))))))))))))))))))))));intro a hF
 refine cut (fun a w=>∃ (p:Nat) (neg:Bool) (u:Str),Fr 91 [(0,.slice (some ⟨b,o,none⟩) D.length cp),(2,.int .i64 0),(5,.int .i64 (D.length:Int)),(6,.bool neg),(7,.int .i64 (p:Int))] a∧Mem w0.heap.size w0 [] w∧Sg D u neg∧D.drop p=u∧p≤D.length∧((neg=true∧p=1)∨(neg=false∧p=0))) ?_ (fun a w h=> ?_)
 ·
  revert a;refine Sq (Rg (Mv 1 rfl (Gv rfl (fun _ hF=>gives_indexAddrS (sz:=1) (0) hF rfl Tryz.underlying66 (by kernel_rfl) rfl rfl rfl (by omega) _) (Gv rfl (fun _ hF=>gives_load1 hF rfl Tryz.underlying5 rfl rfl (hD.cell hM hc0)) (Md 1 [0,2,5,6,7,20] rfl (Nx (Ce rfl (fun ht=> ?_) ((fun ht=> ?_)))))))))
  ·
   have e45:D.head?≠some 45:=by rw [List.head?_eq_getElem?,hc0];intro h;exact (eq_f (d:=45) rfl ht) (Option.some.inj h)
   refine Sk (Kp [0,2,5,6,7] rfl ?_);intro a hF
   exact ⟨0,false,_,hF,hM,Sg.pos e45,rfl,by omega,.inr ⟨rfl,rfl⟩⟩
  have e45:D.head?=some 45:=by rw [List.head?_eq_getElem?,hc0,eq_t (d:=45) rfl ht]
  obtain ⟨u1,hS1,hd1⟩:∃ u,Sg D u true∧D.drop 1=u:=by cases D with | nil=>cases e45 | cons c r=>have:=Option.some.inj e45;subst this;exact ⟨r,Sg.neg r,rfl⟩
  refine Sq (Rg (Md 1 [0,2,5,6] rfl (Nx (Rg (Md 1 [0,2,5,6,7] rfl ?_)))));intro a hF
  exact ⟨1,true,u1,hF,hM,hS1,hd1,by omega,.inl ⟨rfl,rfl⟩⟩
 clear hF hM
 obtain ⟨p,neg,u,hF,hM,hS,hdu,hpl,hnp⟩:=h
 have hul:u.length=D.length - p:=by rw [←hdu,List.length_drop]
 revert a;refine Sq (Sq (Rg (Md 3 [0,2,5,6,7,23] rfl (Nx (Cd rfl (fun ht=> ?_) ((fun ht=> ?_)))))))
 ·
  have hp:=eq_of_beq ht
  have hun:u=[]:=List.length_eq_zero_iff.1 (by omega)
  have hpi:PIok D 0 false false:=pi_nil (by rw [hun] at hS;exact hS)
  exact Sq (Rg (Md 3 [2,3,4] rfl (Nx (Re (Rt (Y3 rfl rfl rfl rfl ⟨_,rfl,⟨_,_,_,rfl,hpi⟩,hM.below⟩))))))
 have hpn:(p:Int)≠(D.length:Int):=by intro h;rw [h] at ht;simp at ht
 have hu0:u≠ []:=by intro h;rw [h] at hul;simp at hul;omega
 refine Sk (Nx (Sq (Sq (Rg (Mv 2 rfl (Sm (((u.length:Nat):Int)) rfl (by omega) (Md 1 [0,2,5,6,7,27] rfl (Nx (C1 rfl (fun ht=> ?_) ?_)))))))))
 ·
  have h19:u.length<19:=by have:=of_decide_eq_true ht;omega
  refine Sq (Bo (Kp [0,2,5,6,7] rfl ?_));intro a hF
  refine loopX (fun (j:Nat) a w=>Fr 91 [(0,.slice (some ⟨b,o,none⟩) D.length cp),(2,.int .i64 ((worth (u.take j):Nat):Int)),(5,.int .i64 (D.length:Int)),(6,.bool neg),(7,.int .i64 ((p+j:Nat):Int))] a∧Mem w0.heap.size w0 [] w∧Digs (u.take j)∧j≤u.length) (fun j=>u.length - j) (0) ?_ (fun j a w hI=> ?_)
  · exact ⟨by simpa [worth] using hF,hM,by intro c hc;simp at hc,Nat.zero_le _⟩
  clear hF hM
  obtain ⟨hF,hM,hdg,hjl⟩:=hI
  have hw18:worth (u.take j)<10^18:=by have h1:=worth_lt hdg;have h2:=Nat.pow_le_pow_right (show 0<10 by decide) (show (u.take j).length≤18 by rw [List.length_take];omega);omega
  revert a;refine Sq (Sq (Rg (Md 3 [0,2,5,6,7,30] rfl (Nx (Ce rfl (fun ht=> ?_) ((fun ht=> ?_)))))))
  ·
   have hjn:j=u.length:=by have:=of_decide_eq_false ht;omega
   have hdu2:Digs u:=by rw [hjn,List.take_length] at hdg;exact hdg
   have hwj:worth (u.take j)=worth u:=by rw [hjn,List.take_length]
   intro a hF
   rw [hwj] at hF hw18
   revert a;refine Ex (Ot (Ot (Ob (Nx (Sq (Sq ?_))))))
   rcases hnp with ⟨hn,hp⟩ | ⟨hn,hp⟩
   ·
    subst hn
    have hpi:PIok D (-((worth u:Nat):Int)) true false:=pi_all (ok:=true) hS hdu2 hu0 (by omega) (fun _=>rfl) (by rw [decide_eq_true];simp;omega)
    exact Rg (Md 1 [2,45] rfl (Nx (Ct rfl (Sq (Rg (Mv 1 rfl (Gv rfl (fun _ hF=>gives_neg hF rfl rfl (-((worth u:Nat):Int)) (by rw [wrap_i64 (by omega) (by omega)];omega) _) (Md 3 [2,3,4] rfl (Nx (Re (Rt (Rt (Y3 rfl rfl rfl rfl ⟨_,rfl,⟨_,_,_,rfl,hpi⟩,hM.below⟩)))))))))))))
   subst hn
   have hpi:PIok D ((worth u:Nat):Int) true false:=pi_all (ok:=true) hS hdu2 hu0 (by omega) (fun _=>rfl) (by rw [decide_eq_true];simp;omega)
   exact Rg (Md 1 [2,45] rfl (Nx (Cf rfl (Sk (Nx (Sq (Rg (Md 4 [2,3,4] rfl (Nx (Re (Rt (Y3 rfl rfl rfl rfl ⟨_,rfl,⟨_,_,_,rfl,hpi⟩,hM.below⟩))))))))))))
  have hj:j<u.length:=by have:=of_decide_eq_true ht;omega
  obtain ⟨c,hc⟩:∃ c,u[j]?=some c:=⟨_,List.getElem?_eq_getElem hj⟩
  have hw17:worth (u.take j)<10^17:=by have h1:=worth_lt hdg;have h2:=Nat.pow_le_pow_right (show 0<10 by decide) (show (u.take j).length≤17 by rw [List.length_take];omega);omega
  have hcD:D[p+j]?=some c:=by rw [←hdu,List.getElem?_drop] at hc;exact hc
  refine Sk (Nx (Sq (Bo (Sq ?_))))
  rcases (show c.toNat<48∨(¬ c.toNat<48∧57<c.toNat)∨(¬ c.toNat<48∧ ¬ 57<c.toNat) by omega) with h1 | ⟨h1,h2⟩ | ⟨h1,h2⟩
  ·
   have hc256:=c.toNat_lt
   have hpi:=pi_bad hS hc (isDig_lo h1)
   refine Rg (Mv 2 rfl (Gv rfl (fun _ hF=>gives_indexAddrS (sz:=1) ((p+j)) hF rfl Tryz.underlying66 (by kernel_rfl) rfl rfl rfl (by omega) _) (Gv rfl (fun _ hF=>gives_load1 hF rfl Tryz.underlying5 rfl rfl (hD.cell hM hcD)) (Mv 1 rfl ?_))));intro a hF
   rw [show IntKind.u8.wrap ((c.toNat:Int) - 48)=((c.toNat+208:Nat):Int) by rw [IntKind.wrap_u8];omega] at hF
   revert a;exact Md 1 [0,2,5,6,7,8] rfl (Nx (Sq (Sq (Rg (Md 2 [0,2,5,6,7,8,39] rfl (Nx (D2 rfl (fun ht=>absurd (of_decide_eq_false ht) (by omega)) (Sq (Rg (Md 3 [2,3,4] rfl (Nx (Re (Rt (Rb (Rt (Rt (Rb (Rt (Rt (Y3 rfl rfl rfl rfl ⟨_,rfl,⟨_,_,_,rfl,hpi⟩,hM.below⟩))))))))))))))))))))
  ·
   have hc256:=c.toNat_lt
   have hpi:=pi_bad hS hc (isDig_hi h2)
   refine Rg (Mv 2 rfl (Gv rfl (fun _ hF=>gives_indexAddrS (sz:=1) ((p+j)) hF rfl Tryz.underlying66 (by kernel_rfl) rfl rfl rfl (by omega) _) (Gv rfl (fun _ hF=>gives_load1 hF rfl Tryz.underlying5 rfl rfl (hD.cell hM hcD)) ?_)));intro a hF
   refine op_sum hF rfl (((c.toNat - 48:Nat):Int)) rfl rfl rfl rfl rfl rfl (by omega) (IntWalk.u8_in _ ⟨by omega,by omega⟩) ?_;clear hF a;intro a hF
   revert a;exact Md 1 [0,2,5,6,7,8] rfl (Nx (Sq (Sq (Rg (Md 2 [0,2,5,6,7,8,39] rfl (Nx (D2 rfl (fun ht=>absurd (of_decide_eq_false ht) (by omega)) (Sq (Rg (Md 3 [2,3,4] rfl (Nx (Re (Rt (Rb (Rt (Rt (Rb (Rt (Rt (Y3 rfl rfl rfl rfl ⟨_,rfl,⟨_,_,_,rfl,hpi⟩,hM.below⟩))))))))))))))))))))
  have hcd:=isDig_of (c:=c) (by omega) (by omega)
  have hdgc:dg c=c.toNat - 48:=rfl
  have hnext:worth (u.take (j+1))=worth (u.take j)*10+dg c:=by rw [take_next hc,worth_snoc]
  refine Rg (Mv 2 rfl (Gv rfl (fun _ hF=>gives_indexAddrS (sz:=1) ((p+j)) hF rfl Tryz.underlying66 (by kernel_rfl) rfl rfl rfl (by omega) _) (Gv rfl (fun _ hF=>gives_load1 hF rfl Tryz.underlying5 rfl rfl (hD.cell hM hcD)) ?_)));intro a hF
  refine op_sum hF rfl (((dg c:Nat):Int)) rfl rfl rfl rfl rfl rfl (by omega) (IntWalk.u8_in _ ⟨by omega,by omega⟩) ?_;clear hF a;intro a hF
  revert a;refine Md 1 [0,2,5,6,7,8] rfl (Nx (Sq (Sq (Rg (Md 2 [0,2,5,6,7,8,39] rfl (Nx (C1 rfl (fun ht=>absurd (of_decide_eq_true ht) (by omega)) (Sk (Nx (Rg (Mv 1 rfl (Sm (((worth (u.take j)*10:Nat):Int)) rfl (by omega) (Mv 1 rfl (Gv rfl (fun _ hF=>gives_conv hF rfl Tryz.underlying5 Tryz.underlying2 rfl (((dg c:Nat):Int)) (wrap_i64 (by omega) (by omega)) _) (Sm (((worth (u.take j)*10+dg c:Nat):Int)) rfl (by omega) (Md 1 [0,2,5,6,7] rfl (Nb (Nx (Rg (Mv 1 rfl (Sm (((p+(j+1):Nat):Int)) rfl (by omega) (Md 1 [0,2,5,6,7] rfl ?_))))))))))))))))))))));intro a hF
  rw [←hnext] at hF
  exact ⟨j+1,⟨hF,hM,hdg.next hc hcd,hj⟩,by omega⟩
 refine Sk (Nx ?_);intro a hF
 refine cut (fun a w=>∃ o2 cp2,Fr 91 [(0,.slice (some ⟨b,o2,none⟩) u.length cp2),(6,.bool neg)] a∧Mem w0.heap.size w0 [] w∧Bts w0 b o2 u∧u.length≤cp2) ?_ (fun a w h=> ?_)
 ·
  revert a;refine Sq ?_
  rcases hnp with ⟨hn,hp⟩ | ⟨hn,hp⟩
  ·
   subst hn
   have hseg1:Bts w0 b (so o 1 cp) u:=by have:=hD.so 1 hcp;rw [hp] at hdu;rw [hdu] at this;exact this
   refine Rg (Md 1 [0,6,49] rfl (Nx (Ct rfl (Rg (Mv 1 rfl (Gv rfl (fun _ hF=>gives_slFrom 1 hF rfl Tryz.underlying66 (by kernel_rfl) rfl rfl rfl (by omega) _) (Md 1 [0,6] rfl ?_)))))));intro a hF
   exact ⟨so o 1 cp,cp - 1,by rw [show D.length - 1=u.length by omega] at hF;exact hF,hM,hseg1,by omega⟩
  subst hn
  have hud:u.length=D.length:=by omega
  have hud2:D=u:=by rw [←hdu,hp];rfl
  refine Rg (Md 1 [0,6,49] rfl (Nx (Cf rfl (Sk (Kp [0,6] rfl ?_)))));intro a hF
  exact ⟨o,cp,by rw [hud];exact hF,hM,by rw [←hud2];exact hD,by omega⟩
 clear hF hM
 obtain ⟨o2,cp2,hF,hM,hDu,hcp2⟩:=h
 revert a;refine Sq (Rg (Md 1 [0,6,9] rfl (Nx (Sq (Sq (Rg (Md 3 [6,9,52,53,54] rfl (Nx (Bo (Kp [6,9,52,53,54] rfl ?_))))))))));intro a hF
 refine loopX (fun (j:Nat) a w=>Fr 91 [(6,.bool neg),(9,.int .u64 ((worth (u.take j):Nat):Int)),(52,.slice (some ⟨b,o2,none⟩) u.length cp2),(53,.int .i64 (u.length:Int)),(54,.int .i64 (j:Int))] a∧Mem w0.heap.size w0 [] w∧Digs (u.take j)∧j≤u.length∧worth (u.take j)<2^64) (fun j=>u.length - j) (0) ?_ (fun j a w hI=> ?_)
 · exact ⟨by simpa [worth] using hF,hM,by intro c hc;simp at hc,Nat.zero_le _,by simp [worth]⟩
 clear hF hM
 obtain ⟨hF,hM,hdg,hjl,hw64⟩:=hI
 revert a;refine Sq (Rg (Md 1 [6,9,52,53,54,55] rfl (Nx (Sq (Ce rfl (fun ht=> ?_) ((fun ht=> ?_)))))))
 ·
  have hjn:j=u.length:=by have:=of_decide_eq_false ht;omega
  have hdu2:Digs u:=by rw [hjn,List.take_length] at hdg;exact hdg
  have hwj:worth (u.take j)=worth u:=by rw [hjn,List.take_length]
  intro a hF
  rw [hwj] at hF hw64
  revert a;refine Ex (Ot (Ot (Ob (Nx (Sq (Sq (Rg (Md 2 [6,9,79] rfl (Nx (Ce rfl (fun ht=> ?_) ((fun ht=> ?_))))))))))))
  ·
   have hgt:=of_decide_eq_false ht
   refine Sk (Nx (Sq ?_))
   rcases hnp with ⟨hn,hp⟩ | ⟨hn,hp⟩
   ·
    subst hn
    have hpi:PIok D (-((worth u:Nat):Int)) true false:=pi_all (ok:=true) hS hdu2 hu0 (by omega) (fun _=>rfl) (by rw [decide_eq_true];simp;omega)
    exact Rg (Md 1 [9,85] rfl (Nx (Ct rfl (Sq (Rg (Mv 1 rfl (Gv rfl (fun _ hF=>gives_conv hF rfl Tryz.underlying54 Tryz.underlying2 rfl (((worth u:Nat):Int)) (wrap_i64 (by omega) (by omega)) _) (Gv rfl (fun _ hF=>gives_neg hF rfl rfl (-((worth u:Nat):Int)) (by rw [wrap_i64 (by omega) (by omega)];omega) _) (Md 3 [2,3,4] rfl (Nx (Re (Y3 rfl rfl rfl rfl ⟨_,rfl,⟨_,_,_,rfl,hpi⟩,hM.below⟩))))))))))))
   subst hn
   have hpi:PIok D ((worth u:Nat):Int) true false:=pi_all (ok:=true) hS hdu2 hu0 (by omega) (fun _=>rfl) (by rw [decide_eq_true];simp;omega)
   exact Rg (Md 1 [9,85] rfl (Nx (Cf rfl (Sq (Rg (Mv 1 rfl (Gv rfl (fun _ hF=>gives_conv hF rfl Tryz.underlying54 Tryz.underlying2 rfl (((worth u:Nat):Int)) (wrap_i64 (by omega) (by omega)) _) (Md 3 [2,3,4] rfl (Nx (Re (Y3 rfl rfl rfl rfl ⟨_,rfl,⟨_,_,_,rfl,hpi⟩,hM.below⟩)))))))))))
  have hgt:=of_decide_eq_true ht
  refine Sq (Sq ?_)
  rcases hnp with ⟨hn,hp⟩ | ⟨hn,hp⟩
  ·
   subst hn
   refine Rg (Md 5 [84] rfl (Nx (Cd rfl (fun ht=> ?_) ((fun ht=> ?_)))))
   ·
    have he:=eq_of_beq ht
    have hpi:PIok D (-9223372036854775808) true false:=pi_all (ok:=true) hS hdu2 hu0 hw64 (fun _=>by rw [if_pos rfl];omega) (by rw [decide_eq_true];simp;omega)
    exact Sq (Rg (Md 3 [2,3,4] rfl (Nx (Re (Rt (Rt (Y3 rfl rfl rfl rfl ⟨_,rfl,⟨_,_,_,rfl,hpi⟩,hM.below⟩)))))))
   have hne:((worth u:Nat):Int)≠9223372036854775808:=by intro h;rw [h] at ht;exact absurd ht (by decide)
   have hpi:PIok D 0 false true:=pi_all (ok:=false) hS hdu2 hu0 hw64 (fun h=>by cases h) (by rw [decide_eq_false];simp;omega)
   exact Sk (Nx (Sq (Rg (Md 3 [2,3,4] rfl (Nx (Re (Rt (Y3 rfl rfl rfl rfl ⟨_,rfl,⟨_,_,_,rfl,hpi⟩,hM.below⟩))))))))
  subst hn
  have hpi:PIok D 0 false true:=pi_all (ok:=false) hS hdu2 hu0 hw64 (fun h=>by cases h) (by rw [decide_eq_false];simp;omega)
  exact Rg (Md 5 [84] rfl (Nx (Cf rfl (Sk (Nx (Sq (Rg (Md 3 [2,3,4] rfl (Nx (Re (Rt (Y3 rfl rfl rfl rfl ⟨_,rfl,⟨_,_,_,rfl,hpi⟩,hM.below⟩))))))))))))
 have hj:j<u.length:=by have:=of_decide_eq_true ht;omega
 obtain ⟨c,hc⟩:∃ c,u[j]?=some c:=⟨_,List.getElem?_eq_getElem hj⟩
 refine Sk (Nx (Sq (Bo (Sq (Rg (Gv rfl (fun _ hF=>gives_indexAddrS (sz:=1) (j) hF rfl Tryz.underlying66 (by kernel_rfl) rfl rfl rfl hj _) (Gv rfl (fun _ hF=>gives_load1 hF rfl Tryz.underlying5 rfl rfl (hDu.cell hM hc)) (Md 1 [6,9,11,52,53,54] rfl (Nx (Sq (Sq ?_)))))))))))
 rcases (show c.toNat<48∨(¬ c.toNat<48∧57<c.toNat)∨(¬ c.toNat<48∧ ¬ 57<c.toNat) by omega) with h1 | ⟨h1,h2⟩ | ⟨h1,h2⟩
 ·
  have hpi:=pi_bad hS hc (isDig_lo h1)
  exact Rg (Mv 1 rfl (Bt rfl (by omega) (Md 4 [6,9,11,52,53,54,63] rfl (Nx (Ct rfl (Sq (Rg (Md 3 [2,3,4] rfl (Nx (Re (Rt (Rb (Rt (Rt (Rb (Rt (Y3 rfl rfl rfl rfl ⟨_,rfl,⟨_,_,_,rfl,hpi⟩,hM.below⟩)))))))))))))))))
 ·
  have hpi:=pi_bad hS hc (isDig_hi h2)
  exact Rg (Mv 1 rfl (Bf rfl (by omega) (Mv 2 rfl (Bt rfl (by omega) (Md 1 [6,9,11,52,53,54,63] rfl (Nx (Ct rfl (Sq (Rg (Md 3 [2,3,4] rfl (Nx (Re (Rt (Rb (Rt (Rt (Rb (Rt (Y3 rfl rfl rfl rfl ⟨_,rfl,⟨_,_,_,rfl,hpi⟩,hM.below⟩)))))))))))))))))))
 have hcd:=isDig_of (c:=c) (by omega) (by omega)
 have hdgc:dg c=c.toNat - 48:=rfl
 have hnext:worth (u.take (j+1))=worth (u.take j)*10+dg c:=by rw [take_next hc,worth_snoc]
 refine Rg (Mv 1 rfl (Bf rfl (by omega) (Mv 2 rfl (Bf rfl (by omega) (Md 1 [6,9,11,52,53,54,63] rfl (Nx (Cf rfl (Sk (Nx (Sq (Sq (Rg (Md 2 [6,9,11,52,53,54,65] rfl (Nx (Cd rfl (fun ht=> ?_) ((fun ht=> ?_)))))))))))))))))
 ·
  have hgt:=of_decide_eq_true ht
  have hpi:PIok D 0 false true:=pi_ov hS (hdg.next hc hcd) (show j+1≤u.length by omega) (by rw [hnext];omega)
  exact Sq (Rg (Md 3 [2,3,4] rfl (Nx (Re (Rt (Rb (Rt (Rt (Rb (Rt (Y3 rfl rfl rfl rfl ⟨_,rfl,⟨_,_,_,rfl,hpi⟩,hM.below⟩)))))))))))
 have hgt:=of_decide_eq_false ht
 refine Sk (Nx (Sq (Rg (Mv 1 rfl ?_))));intro a hF
 refine op_sum hF rfl (((worth (u.take j)*10:Nat):Int)) rfl rfl rfl rfl rfl rfl (by omega) (IntWalk.u64_in _ ⟨by omega,by omega⟩) ?_;clear hF a;intro a hF
 revert a;refine Md 1 [6,9,11,52,53,54] rfl (Nx (Sq ?_))
 rcases Nat.lt_or_ge (worth (u.take j)*10+dg c) (2^64) with hlt | hge
 ·
  refine Rg (Mv 2 rfl ?_);intro a hF
  refine op_sum hF rfl (((dg c:Nat):Int)) rfl rfl rfl rfl rfl rfl (by omega) (IntWalk.u8_in _ ⟨by omega,by omega⟩) ?_;clear hF a;intro a hF
  revert a;refine Gv rfl (fun _ hF=>gives_conv hF rfl Tryz.underlying5 Tryz.underlying54 rfl (((dg c:Nat):Int)) (IntWalk.u64_in _ ⟨by omega,by omega⟩) _) ?_;intro a hF
  refine op_sum hF rfl (((worth (u.take j)*10+dg c:Nat):Int)) rfl rfl rfl rfl rfl rfl (by omega) (IntWalk.u64_in _ ⟨by omega,by omega⟩) ?_;clear hF a;intro a hF
  revert a;refine Md 1 [6,9,12,52,53,54] rfl (Nx (Sq (Sq (Rg (Md 3 [6,12,52,53,54,75] rfl (Nx (C1 rfl (fun ht=>absurd (of_decide_eq_true ht) (by omega)) (Sk (Nx (Rg (Md 2 [6,9,52,53,54] rfl (Nb (Nx (Rg (Sm (((j+1:Nat):Int)) rfl (by omega) (Md 1 [6,9,52,53,54] rfl ?_))))))))))))))));intro a hF
  rw [←hnext] at hF
  exact ⟨j+1,⟨hF,hM,hdg.next hc hcd,hj,by omega⟩,by omega⟩
 have hpi:PIok D 0 false true:=pi_ov hS (hdg.next hc hcd) (show j+1≤u.length by omega) (by rw [hnext];omega)
 refine Rg (Mv 2 rfl ?_);intro a hF
 refine op_sum hF rfl (((dg c:Nat):Int)) rfl rfl rfl rfl rfl rfl (by omega) (IntWalk.u8_in _ ⟨by omega,by omega⟩) ?_;clear hF a;intro a hF
 revert a;refine Gv rfl (fun _ hF=>gives_conv hF rfl Tryz.underlying5 Tryz.underlying54 rfl (((dg c:Nat):Int)) (IntWalk.u64_in _ ⟨by omega,by omega⟩) _) (Mv 1 rfl ?_);intro a hF
 rw [show IntKind.u64.wrap (((worth (u.take j)*10:Nat):Int)+((dg c:Nat):Int))=((worth (u.take j)*10+dg c - 2^64:Nat):Int) by rw [IntKind.wrap_u64];omega] at hF
 revert a;exact Md 1 [6,9,12,52,53,54] rfl (Nx (Sq (Sq (Rg (Md 3 [6,12,52,53,54,75] rfl (Nx (D2 rfl (fun ht=>absurd (of_decide_eq_false ht) (by omega)) (Sq (Rg (Md 3 [2,3,4] rfl (Nx (Re (Rt (Rb (Rt (Rt (Rb (Rt (Y3 rfl rfl rfl rfl ⟨_,rfl,⟨_,_,_,rfl,hpi⟩,hM.below⟩)))))))))))))))))))
theorem want_no {D:Str}(h:jdec D=false):i64ok D=false:=by
  have g:∀ {u:Str}{neg:Bool},Sg D u neg→i64ok D=false:=fun {u neg} hS=>by
    rw [hS.ok]
    rw [hS.jd] at h
    have:u64 u=none:=by
      unfold u64
      rw [if_neg]
      rintro ⟨h1,h2,_⟩
      rw [digs_of h2 h1] at h
      cases h
    rw [this]
  by_cases h1:D.head?=some 45
  · cases D with
    | nil=>cases h1
    | cons c r=>have:=Option.some.inj h1;subst this;exact g (Sg.neg r)
  · exact g (Sg.pos h1)
theorem parseI_walk {ea:Nat→Addr}{b o cp:Nat}{D:Str}(w0:World) (hJ:JB ea w0.heap.size w0) (h0:D≠ []) (hl:D.length≤2^38) (hcp:D.length≤cp) (hD:Bts w0 b o D):
    Calls Tryz.prog 59 #[.slice (some ⟨b,o,none⟩) D.length cp] w0 (Ret fun v w'=>∃ c,GOut ea w0 c v w'∧(jdec D=true∨leadN D≤18→c=wantI D)):=by
 have hM:=MS0 w0
 refine enter (l:=[.slice (some ⟨b,o,none⟩) D.length cp]) 18 Tryz.func59 rfl rfl (Sq (Rg (Md 2 [0] rfl (Nx (Sq (Rg (Mv 1 rfl (Cm hM rfl rfl rfl (parseInt_walk _ h0 hl hcp hD) ?_))))))))
 clear hM;intro w v hR hM hBe
 obtain ⟨z,ok,ov,rfl,hpi⟩:=hR
 refine Md 7 [4,5,6] rfl (Nx (Sq ?_))
 rcases ok with _ | _
 ·
  refine Rg (Md 2 [4,6,14] rfl (Nx (Ct rfl (Sq (Sq ?_)))))
  rcases ov with _ | _
  ·
   have hc:jdec D=true∨leadN D≤18→7=wantI D:=by
     intro h
     rcases hj:jdec D with _ | _
     · unfold wantI;rw [want_no hj,hj];rfl
     · have h1:=(hpi.1 hj).1;have h2:=(hpi.1 hj).2.1;rw [←h1] at h2;cases h2
   refine Rg (Md 1 [15] rfl (Nx (Cf rfl (Sk (Nx (Sq (Sl (by kernel_rfl) (by kernel_rfl) ?_)))))))
   replace hM:=hM.drew
   skip
   exact Gs rfl (fun _ hF=>gives_load1 hF rfl Tryz.underlying63 rfl rfl (((hJ.mem hM).errs 7 (by omega)).1)) (Ms 2 rfl (Sd (Kp [2,3] rfl (Nx (Re (Y2 rfl rfl rfl ⟨_,rfl,7,gout_ev hJ (by omega) _ hM.below _ rfl,hc⟩))))))
  have hc:jdec D=true∨leadN D≤18→8=wantI D:=by
    intro h
    rcases hj:jdec D with _ | _
    · rcases h with h | h;rw [hj] at h;cases h;have:=(hpi.2 hj h).2;cases this
    · have h1:=(hpi.1 hj).1;unfold wantI;rw [←h1,hj];rfl
  refine Rg (Md 1 [15] rfl (Nx (Ct rfl (Sq (Sl (by kernel_rfl) (by kernel_rfl) ?_)))))
  replace hM:=hM.drew
  skip
  exact Gs rfl (fun _ hF=>gives_load1 hF rfl Tryz.underlying63 rfl rfl (((hJ.mem hM).errs 8 (by omega)).1)) (Ms 2 rfl (Sd (Kp [2,3] rfl (Nx (Re (Rt (Y2 rfl rfl rfl ⟨_,rfl,8,gout_ev hJ (by omega) _ hM.below _ rfl,hc⟩)))))))
 have hc:jdec D=true∨leadN D≤18→0=wantI D:=by
   intro h
   rcases hj:jdec D with _ | _
   · rcases h with h | h;rw [hj] at h;cases h;have:=(hpi.2 hj h).1;cases this
   · have h1:=(hpi.1 hj).1;unfold wantI;rw [←h1];rfl
 exact Rg (Md 2 [4,6,14] rfl (Nx (Cf rfl (Sq (Rg (Md 3 [2,3] rfl (Nx (Re (Y2 rfl rfl rfl ⟨_,rfl,0,gout_nil _ hM.below,hc⟩)))))))))
theorem leaf_num {D x:Str}{ks:List Str}{n:Nd}(h:Leaf D ks x n) (hn:jk (knd n)=2):rawx n x=x∧x≠ []∧IsNum x:=by
  rcases gt_cases h.shows with ⟨i,_,_,h4⟩ | ⟨h4,_⟩ | ⟨h4,_⟩ | ⟨_,h4⟩ | ⟨_,h4⟩ | ⟨_,h4⟩ | ⟨h4,h5,c,u,h6,_⟩ <;> rw [h4] at hn
  · exact absurd hn (by decide)
  · exact absurd hn (by decide)
  · exact absurd hn (by decide)
  · exact absurd hn (by decide)
  · exact absurd hn (by decide)
  · exact absurd hn (by decide)
  · exact ⟨rawx_no (by omega),by rw [h6];exact List.cons_ne_nil _ _,h5⟩
def NOut (ea:Nat→Addr) (w0:World) (n:Nd) (S:Nat→Prop) (v:Value) (w':World):Prop:=∃ c,GOut ea w0 c v w'∧(jk (knd n)≠2→c=if jk (knd n)=6 then 10 else 11)∧(jk (knd n)=2→S c)
theorem GOut.low {ea:Nat→Addr}{w0 w w':World}{c:Nat}{v:Value}{L:List Bk}(hM:Mem w0.heap.size w0 L w) (h:GOut ea w c v w'):GOut ea w0 c v w':=by
  obtain ⟨val,e,h1,h2,h3,h4⟩:=h
  exact ⟨val,e,h1,h2,h3,(hM.step h4).below⟩
theorem getInt_walk {ea:Nat→Addr}{b o cp kc:Nat}{ad:Option Addr}{D x:Str}{n:Nd}{ks:List Str}(w0:World) (hJ:JB ea w0.heap.size w0) (hL:Leaf D ks x n) (hl:D.length≤2^38) (hcp:D.length≤cp) (hD:Bts w0 b o D) (hk:Kys w0 ad kc ks):
    Calls Tryz.prog 35 #[.slice (some ⟨b,o,none⟩) D.length cp,.slice ad ks.length kc] w0 (Ret fun v w'=>NOut ea w0 n (fun c=>jdec x=true∨leadN x≤18→c=wantI x) v w'):=by
 have hM:=MS0 w0
 refine enter (l:=[.slice (some ⟨b,o,none⟩) D.length cp,.slice ad ks.length kc]) 29 Tryz.func35 rfl rfl (Sq (Rg (Md 2 [0,1] rfl (Nx (Sq (Rg (Mv 2 rfl (Cm hM rfl rfl rfl (get_walk _ hJ hL hl hcp hD hk) ?_))))))))
 clear hM;intro w v hR hM hBe
 obtain ⟨a2,s2,rfl,hB2⟩:=hR
 refine Md 9 [6,7,9] rfl (Nx (Sq (Sq (Rg (Mv 1 rfl (Gv rfl (fun _ hF=>gives_isNil hF (.inr rfl) rfl rfl ⟨_,Tryz.underlying63⟩ false rfl) (Md 0 [6,7,9,19] rfl (Nx (Cf rfl (Sk (Nx (Sq (Sq (Rg (Md 2 [6,7,22] rfl (Nx (Ce rfl (fun ht=> ?_) ((fun ht=> ?_)))))))))))))))))))
 ·
  have hn:jk (knd n)=2:=by have:=ht;simp at this;omega
  obtain ⟨hrx,hx0,hnm⟩:=leaf_num hL hn
  intro a hF
  rw [hrx] at hF hB2
  revert a;refine Sk (Nx (Sq (Rg (Mv 1 rfl ?_))));intro a hF
  refine op_call hF rfl rfl rfl rfl Tryz.func59 (by kernel_rfl) rfl rfl (parseI_walk _ (hJ.mem hM) hx0 (by have:=leaf_len hL;omega) (Nat.le_refl _) (hB2.below hM.below)) ?_
  clear hF a;intro a w' v hR hF
  obtain ⟨c,hG,hc⟩:=hR
  replace hG:=hG.low hM
  clear hM;have hM:=Mem.start (Nat.le_refl w0.heap.size);replace hM:=hM.step hG.below
  obtain ⟨val,e,rfl,hG2⟩:=hG
  revert a;refine Md 4 [4,5] rfl (Nx (Re ?_));intro a hF
  exact ret2 hF rfl rfl rfl ⟨_,rfl,c,⟨val,e,rfl,hG2⟩,fun h=>absurd hn h,fun _=>hc⟩
 have hn:jk (knd n)≠2:=by rintro h;rw [h] at ht;exact absurd ht (by decide)
 refine Sq (Sq (Rg (Md 2 [24] rfl (Nx (Cd rfl (fun ht=> ?_) ((fun ht=> ?_)))))))
 ·
  have hz:jk (knd n)=6:=by have:=ht;simp at this;omega
  refine Sq (Sl (by kernel_rfl) (by kernel_rfl) ?_)
  replace hM:=hM.drew
  skip
  refine Gs rfl (fun _ hF=>gives_load1 hF rfl Tryz.underlying63 rfl rfl (((hJ.mem hM).errs 0 (by omega)).1)) (Ms 2 rfl (Sd (Kp [4,5] rfl (Nx (Re (Rt (Rt ?_)))))));intro a hF
  exact ret2 hF rfl rfl rfl ⟨_,rfl,10,gout_ev hJ (by omega) _ hM.below _ rfl,(fun _=>by rw [if_pos hz]),fun h=>absurd h hn⟩
 have hz:jk (knd n)≠6:=by rintro h;rw [h] at ht;exact absurd ht (by decide)
 refine Sk (Nx (Sq (Rg ?_)));intro a hF
 refine op_call hF rfl rfl rfl rfl Tryz.func57 (by kernel_rfl) rfl rfl (errNew_walk _ _) ?_
 clear hF a;intro a w' v hR hF
 obtain ⟨ke,rfl,hMe⟩:=hR
 replace hM:=Mem.join hM hMe
 skip
 revert a;refine Md 2 [4,5] rfl (Nx (Re (Rt ?_)));intro a hF
 exact ret2 hF rfl rfl rfl ⟨_,rfl,11,gout_new (wm:=w0) hJ _ hM (List.mem_cons_self ..),(fun _=>by rw [if_neg hz]),fun h=>absurd h hn⟩
theorem getFl_walk {ea:Nat→Addr}{b o cp kc:Nat}{ad:Option Addr}{D x:Str}{n:Nd}{ks:List Str}(w0:World) (hJ:JB ea w0.heap.size w0) (hL:Leaf D ks x n) (hl:D.length≤2^38) (hcp:D.length≤cp) (hD:Bts w0 b o D) (hk:Kys w0 ad kc ks) {neg:Bool}{I fd E:Str}{k k':Int}(hV:TabX w0.heap.size w0) (hnf:jk (knd n)=2→NumForm x neg I fd E k∧ExCap E k'):
    Calls Tryz.prog 33 #[.slice (some ⟨b,o,none⟩) D.length cp,.slice ad ks.length kc] w0 (Ret fun v w'=>NOut ea w0 n (fun c=>c=errK neg I fd k') v w'):=by
 have hM:=MS0 w0
 refine enter (l:=[.slice (some ⟨b,o,none⟩) D.length cp,.slice ad ks.length kc]) 29 Tryz.func33 rfl rfl (Sq (Rg (Md 2 [0,1] rfl (Nx (Sq (Rg (Mv 2 rfl (Cm hM rfl rfl rfl (get_walk _ hJ hL hl hcp hD hk) ?_))))))))
 clear hM;intro w v hR hM hBe
 obtain ⟨a2,s2,rfl,hB2⟩:=hR
 refine Md 9 [6,7,9] rfl (Nx (Sq (Sq (Rg (Mv 1 rfl (Gv rfl (fun _ hF=>gives_isNil hF (.inr rfl) rfl rfl ⟨_,Tryz.underlying63⟩ false rfl) (Md 0 [6,7,9,19] rfl (Nx (Cf rfl (Sk (Nx (Sq (Sq (Rg (Md 2 [6,7,22] rfl (Nx (Ce rfl (fun ht=> ?_) ((fun ht=> ?_)))))))))))))))))))
 ·
  have hn:jk (knd n)=2:=by have:=ht;simp at this;omega
  obtain ⟨hrx,hx0,hnm⟩:=leaf_num hL hn
  intro a hF
  rw [hrx] at hF hB2
  obtain ⟨hnf1,hnf2⟩:=hnf hn
  revert a;refine Sk (Nx (Sq (Rg (Mv 1 rfl ?_))));intro a hF
  refine op_call hF rfl rfl rfl rfl Tryz.func58 (by kernel_rfl) rfl rfl (parseFl_walk hnf1 hnf2 (by have:=leaf_len hL;omega) (IsNum.chars hnm) _ (hV.mem hM) (hJ.mem hM) (hB2.below hM.below)) ?_
  clear hF a;intro a w' v hR hF
  have hG:=hR.low hM
  clear hM;have hM:=Mem.start (Nat.le_refl w0.heap.size);replace hM:=hM.step hG.below
  obtain ⟨val,e,rfl,hG2⟩:=hG
  revert a;refine Md 4 [4,5] rfl (Nx (Re ?_));intro a hF
  exact ret2 hF rfl rfl rfl ⟨_,rfl,_,⟨val,e,rfl,hG2⟩,fun h=>absurd hn h,fun _=>rfl⟩
 have hn:jk (knd n)≠2:=by rintro h;rw [h] at ht;exact absurd ht (by decide)
 refine Sq (Sq (Rg (Md 2 [24] rfl (Nx (Cd rfl (fun ht=> ?_) ((fun ht=> ?_)))))))
 ·
  have hz:jk (knd n)=6:=by have:=ht;simp at this;omega
  refine Sq (Sl (by kernel_rfl) (by kernel_rfl) ?_)
  replace hM:=hM.drew
  skip
  refine Gs rfl (fun _ hF=>gives_load1 hF rfl Tryz.underlying63 rfl rfl (((hJ.mem hM).errs 0 (by omega)).1)) (Ms 2 rfl (Sd (Kp [4,5] rfl (Nx (Re (Rt (Rt ?_)))))));intro a hF
  exact ret2 hF rfl rfl rfl ⟨_,rfl,10,gout_ev hJ (by omega) _ hM.below _ rfl,(fun _=>by rw [if_pos hz]),fun h=>absurd h hn⟩
 have hz:jk (knd n)≠6:=by rintro h;rw [h] at ht;exact absurd ht (by decide)
 refine Sk (Nx (Sq (Rg ?_)));intro a hF
 refine op_call hF rfl rfl rfl rfl Tryz.func57 (by kernel_rfl) rfl rfl (errNew_walk _ _) ?_
 clear hF a;intro a w' v hR hF
 obtain ⟨ke,rfl,hMe⟩:=hR
 replace hM:=Mem.join hM hMe
 skip
 revert a;refine Md 2 [4,5] rfl (Nx (Re (Rt ?_)));intro a hF
 exact ret2 hF rfl rfl rfl ⟨_,rfl,11,gout_new (wm:=w0) hJ _ hM (List.mem_cons_self ..),(fun _=>by rw [if_neg hz]),fun h=>absurd h hn⟩

end Go.Sx