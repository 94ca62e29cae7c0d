/- Part 14 of the proof of FnJrTyped: the statement Rows.FnJrTypedCardSaid; no further condition. -/
import Derived.Test.YtelonenjneonlaaGreatDoorR13
set_option linter.all false
set_option maxRecDepth 100000
namespace Go.Sx
open Go.RowKit Go.Proofs Js Go.Proofs.YtelonenjneonlaaGreatDoorW.PrintWords
theorem worth_zero (r:Str):worth (48::r)=worth r:=by rw [worth];show 0*_+_=_;omega
theorem last_split {D:Str}{c:UInt8}(h:D[D.length - 1]?=some c) (h0:0<D.length):D=D.take (D.length - 1)++ [c]:=by
  have:=take_next h
  rw [show D.length - 1+1=D.length by omega,List.take_length] at this
  exact this
theorem strip_last {D:Str}{c:UInt8}(h:D[D.length - 1]?=some c) (h0:0<D.length) (hc:c=48) (p:Int):big (worth (D.take (D.length - 1))) (p+1)↔big (worth D) p:=by
  have e:worth D=worth (D.take (D.length - 1))*10^1:=by
    have:=congrArg worth (last_split h h0)
    rw [worth_snoc,hc] at this
    rw [this];simp [dg]
  rw [e]
  exact (big_shift _ 1 p).symm
theorem take_head {D:Str}(h:D.head?≠some 48) (k:Nat):(D.take k).head?≠some 48:=by
  cases D with
  | nil=>simp
  | cons c r => cases k with
    | zero=>simp
    | succ k=>exact h
theorem bare_walk {b o c:Nat}{D:Str}{p:Int}(w0:World) (hd:Digs D) (hl:D.length≤2^20) (hc:D.length≤c) (hc2:c≤9223372036854775807) (hp: -5000000000000000≤p∧p≤5000000000000000) (hB:Bts w0 b o D):
    Calls Tryz.prog 53 #[.slice (some ⟨b,o,none⟩) D.length c,.int .i64 p] w0 (Ret fun v w'=>(∃ (D':Str) (p':Int),v= .tuple #[.string (mkS D'),.int .i64 p']∧Bare D'∧D'.length≤D.length∧(big (worth D') p'↔big (worth D) p)∧ -5000000000000000≤p'∧p'≤5000000000000000+D.length)∧Below w0.heap.size w0 w'):=by
 have hM:=MS0 w0
 refine enter (l:=[.slice (some ⟨b,o,none⟩) D.length c,.int .i64 p]) 40 Tryz.func53 rfl rfl (Sq (Rg (Md 2 [0,1] rfl (Nx (Sq (Bo (Kp [0,1] rfl ?_)))))));intro a hF
 refine loopX (fun (n:Nat) a w=>∃ (E:Str) (o' c':Nat),Fr 42 [(0,.slice (some ⟨b,o',none⟩) E.length c'),(1,.int .i64 p)] a∧Mem w0.heap.size w0 [] w∧E.length=n∧Digs E∧worth E=worth D∧E.length≤D.length∧E.length≤c'∧Bts w0 b o' E) (fun n=>n) (D.length) ?_ (fun n a w hI=> ?_)
 · exact ⟨D,o,c,hF,hM,rfl,hd,rfl,Nat.le_refl _,hc,hB⟩
 clear hF hM
 obtain ⟨E,o',c',hF,hM,hn,hdE,hwE,hlE,hcE,hBE⟩:=hI
 revert a;refine Sq (Sq ?_)
 rcases (show E=[]∨(∃ r,E=48::r)∨(∃ x r,E=x::r∧x≠48) by cases E with | nil=>exact .inl rfl | cons x r=>by_cases h:x=48;exact .inr (.inl ⟨r,by rw [h]⟩);exact .inr (.inr ⟨x,r,rfl,h⟩)) with hE | ⟨r,hE⟩ | ⟨x,r,hE,hx⟩
 ·
  have hE48:E.head?≠some 48:=by rw [hE];simp
  have hEl:E.length=0:=by rw [hE];rfl
  refine Rg (Mv 2 rfl (Bf rfl (by omega) (Md 6 [0,1,14] rfl (Nx (Cf rfl (Ex (Ot (Ot (Ob (Nx (Sq (Bo (Kp [0,1] rfl ?_)))))))))))));intro a hF
  refine loopX (fun (x:Nat×Int) a w=>∃ (E:Str) (c':Nat),Fr 42 [(0,.slice (some ⟨b,o',none⟩) E.length c'),(1,.int .i64 x.2)] a∧Mem w0.heap.size w0 [] w∧E.length=x.1∧Bare E∧(big (worth E) x.2↔big (worth D) p)∧E.length+(x.2 - p)≤D.length∧p≤x.2∧E.length≤c'∧Bts w0 b o' E) (fun x=>x.1) ((E.length,p)) ?_ (fun x a w hI=> ?_)
  · exact ⟨E,_,hF,hM,rfl,⟨hdE,hE48⟩,by rw [hwE],by simp only;omega,Int.le_refl _,hcE,hBE⟩
  clear hF hM
  clear hdE hE48 hwE hcE hBE hlE
  obtain ⟨n,q⟩:=x
  obtain ⟨E,c',hF,hM,hn,hbE,hbg,hlq,hpq,hcE,hBE⟩:=hI
  simp only at hF hM hn hbg hlq hpq
  revert a;refine Sq (Sq ?_)
  rcases (show E.length=0∨(0<E.length∧∃ x,E[E.length - 1]?=some x∧x=48)∨(0<E.length∧∃ x,E[E.length - 1]?=some x∧x≠48) by rcases Nat.eq_zero_or_pos E.length with h | h;exact .inl h;by_cases h2:E[E.length - 1]=48;exact .inr (.inl ⟨h,_,List.getElem?_eq_getElem (by omega),h2⟩);exact .inr (.inr ⟨h,_,List.getElem?_eq_getElem (by omega),h2⟩)) with hEl | ⟨hEl,x,hlst,hc48⟩ | ⟨hEl,x,hlst,hc48⟩
  ·
   refine Rg (Mv 2 rfl (Bf rfl (by omega) (Md 9 [0,1,28] rfl (Nx (Cf rfl (Ex (Ot (Ot (Ob (Nx ?_))))))))));intro a hF
   refine cutF (fun a w=>∃ q':Int,Fr 42 [(0,.slice (some ⟨b,o',none⟩) E.length c'),(1,.int .i64 q')] a∧Mem w0.heap.size w0 [] w∧(big (worth E) q'↔big (worth D) p)∧ -5000000000000000≤q'∧q'≤5000000000000000+D.length) (fun a w h=> ?_) ?_
   ·
    clear hF hM
    obtain ⟨q',hF,hM,hq1,hq2,hq3⟩:=h
    revert a;exact Sq (Rg (Mv 1 rfl (Gv rfl (fun _ hF=>gives_bytesStrB E hF rfl rfl rfl (hBE.below hM.below)) (Md 3 [4,5] rfl (Nx (Re (Y2 rfl rfl rfl ⟨_,rfl,⟨E,q',rfl,hbE,by omega,hq1,hq2,hq3⟩,hM.below⟩)))))))
   revert a;refine Sq (Rg (Md 3 [0,1,38] rfl (Nx (D1 rfl ?_ ((fun ht=> ?_))))))
   ·
    refine Sk (Kp [0,1] rfl ?_);intro a hF
    exact ⟨q,hF,hM,hbg,by omega,by omega⟩
   have hE0:E=[]:=List.length_eq_zero_iff.1 (by have:=eq_of_beq ht;omega)
   have hbz:big (worth E) 0↔big (worth D) p:=by rw [←hbg,hE0];exact ⟨fun h=>absurd h (big_zero _),fun h=>absurd h (big_zero _)⟩
   refine Rg (Md 1 [0,1] rfl ?_);intro a hF
   exact ⟨0,hF,hM,hbz,by omega,by omega⟩
  ·
   refine Rg (Mv 2 rfl (Bt rfl (by omega) (Mv 4 rfl (Sm (((E.length - 1:Nat):Int)) rfl (by omega) (Gv rfl (fun _ hF=>gives_indexAddrS (sz:=1) ((E.length - 1)) hF rfl Tryz.underlying66 (by kernel_rfl) rfl rfl rfl (by omega) _) (Gv rfl (fun _ hF=>gives_load1 hF rfl Tryz.underlying5 rfl rfl (hBE.cell hM hlst)) (Qt 48 rfl rfl hc48 (Md 1 [0,1,28] rfl (Nx (Ct rfl (Sk (Nx (Bo (Sq (Rg (Mv 3 rfl (Sm (((E.length - 1:Nat):Int)) rfl (by omega) (Gv rfl (fun _ hF=>gives_slT (E.length - 1) hF rfl Tryz.underlying66 (by kernel_rfl) rfl rfl rfl (by omega) _) (Md 1 [0,1] rfl (Nx (Rg (Mv 1 rfl (Sm ((q+1)) rfl (by omega) (Md 1 [0,1] rfl (Nb (Kp [0,1] rfl ?_))))))))))))))))))))))))));intro a hF
   exact ⟨(E.length - 1,q+1),⟨E.take (E.length - 1),_,by rw [show (E.take (E.length - 1)).length=E.length - 1 by rw [List.length_take];omega];exact hF,hM,by rw [List.length_take];simp only;omega,⟨hbE.1.take _,take_head hbE.2 _⟩,(strip_last hlst (by omega) hc48 q).trans hbg,by rw [List.length_take];simp only;omega,by simp only;omega,by rw [List.length_take];omega,hBE.take _⟩,by simp only;omega⟩
  refine Rg (Mv 2 rfl (Bt rfl (by omega) (Mv 4 rfl (Sm (((E.length - 1:Nat):Int)) rfl (by omega) (Gv rfl (fun _ hF=>gives_indexAddrS (sz:=1) ((E.length - 1)) hF rfl Tryz.underlying66 (by kernel_rfl) rfl rfl rfl (by omega) _) (Gv rfl (fun _ hF=>gives_load1 hF rfl Tryz.underlying5 rfl rfl (hBE.cell hM hlst)) (Qf 48 rfl rfl hc48 (Md 1 [0,1,28] rfl (Nx (Cf rfl (Ex (Ot (Ot (Ob (Nx ?_)))))))))))))));intro a hF
  refine cutF (fun a w=>∃ q':Int,Fr 42 [(0,.slice (some ⟨b,o',none⟩) E.length c'),(1,.int .i64 q')] a∧Mem w0.heap.size w0 [] w∧(big (worth E) q'↔big (worth D) p)∧ -5000000000000000≤q'∧q'≤5000000000000000+D.length) (fun a w h=> ?_) ?_
  ·
   clear hF hM
   obtain ⟨q',hF,hM,hq1,hq2,hq3⟩:=h
   revert a;exact Sq (Rg (Mv 1 rfl (Gv rfl (fun _ hF=>gives_bytesStrB E hF rfl rfl rfl (hBE.below hM.below)) (Md 3 [4,5] rfl (Nx (Re (Y2 rfl rfl rfl ⟨_,rfl,⟨E,q',rfl,hbE,by omega,hq1,hq2,hq3⟩,hM.below⟩)))))))
  revert a;refine Sq (Rg (Md 3 [0,1,38] rfl (Nx (D1 rfl ?_ ((fun ht=> ?_))))))
  ·
   refine Sk (Kp [0,1] rfl ?_);intro a hF
   exact ⟨q,hF,hM,hbg,by omega,by omega⟩
  have hE0:E=[]:=List.length_eq_zero_iff.1 (by have:=eq_of_beq ht;omega)
  have hbz:big (worth E) 0↔big (worth D) p:=by rw [←hbg,hE0];exact ⟨fun h=>absurd h (big_zero _),fun h=>absurd h (big_zero _)⟩
  refine Rg (Md 1 [0,1] rfl ?_);intro a hF
  exact ⟨0,hF,hM,hbz,by omega,by omega⟩
 ·
  have hEl:E.length=r.length+1:=by rw [hE];rfl
  have hx:(48:UInt8)=48:=rfl
  have hc0:E[0]?=some 48:=by rw [hE];rfl
  have hdr:Digs r:=by rw [hE] at hdE;exact hdE.tail
  have hwr:worth r=worth D:=by rw [←hwE,hE,worth_zero]
  have hBr:=hBE.so 1 hcE
  rw [hE,List.drop_succ_cons,List.drop_zero] at hBr
  refine Rg (Mv 2 rfl (Bt rfl (by omega) (Mv 2 rfl (Gv rfl (fun _ hF=>gives_indexAddrS (sz:=1) (0) hF rfl Tryz.underlying66 (by kernel_rfl) rfl rfl rfl (by omega) _) (Gv rfl (fun _ hF=>gives_load1 hF rfl Tryz.underlying5 rfl rfl (hBE.cell hM hc0)) (Qt 48 rfl rfl hx (Md 1 [0,1,14] rfl (Nx (Ct rfl (Sk (Nx (Bo (Rg (Mv 1 rfl (Gv rfl (fun _ hF=>gives_slFrom 1 hF rfl Tryz.underlying66 (by kernel_rfl) rfl rfl rfl (by omega) _) (Md 1 [0,1] rfl (Nb (Kp [0,1] rfl ?_))))))))))))))))));intro a hF
  exact ⟨r.length,⟨r,_,_,by rw [show E.length - 1=r.length by rw [hE];rfl] at hF;exact hF,hM,rfl,hdr,hwr,by omega,by omega,hBr⟩,by omega⟩
 have hEl:E.length=r.length+1:=by rw [hE];rfl
 have hc0:E[0]?=some x:=by rw [hE];rfl
 have hE48:E.head?≠some 48:=by rw [hE];intro h;exact hx (Option.some.inj h)
 refine Rg (Mv 2 rfl (Bt rfl (by omega) (Mv 2 rfl (Gv rfl (fun _ hF=>gives_indexAddrS (sz:=1) (0) hF rfl Tryz.underlying66 (by kernel_rfl) rfl rfl rfl (by omega) _) (Gv rfl (fun _ hF=>gives_load1 hF rfl Tryz.underlying5 rfl rfl (hBE.cell hM hc0)) (Qf 48 rfl rfl hx (Md 1 [0,1,14] rfl (Nx (Cf rfl (Ex (Ot (Ot (Ob (Nx (Sq (Bo (Kp [0,1] rfl ?_)))))))))))))))));intro a hF
 refine loopX (fun (x:Nat×Int) a w=>∃ (E:Str) (c':Nat),Fr 42 [(0,.slice (some ⟨b,o',none⟩) E.length c'),(1,.int .i64 x.2)] a∧Mem w0.heap.size w0 [] w∧E.length=x.1∧Bare E∧(big (worth E) x.2↔big (worth D) p)∧E.length+(x.2 - p)≤D.length∧p≤x.2∧E.length≤c'∧Bts w0 b o' E) (fun x=>x.1) ((E.length,p)) ?_ (fun x a w hI=> ?_)
 · exact ⟨E,_,hF,hM,rfl,⟨hdE,hE48⟩,by rw [hwE],by simp only;omega,Int.le_refl _,hcE,hBE⟩
 clear hF hM
 clear hdE hE48 hwE hcE hBE hlE
 obtain ⟨n,q⟩:=x
 obtain ⟨E,c',hF,hM,hn,hbE,hbg,hlq,hpq,hcE,hBE⟩:=hI
 simp only at hF hM hn hbg hlq hpq
 revert a;refine Sq (Sq ?_)
 rcases (show E.length=0∨(0<E.length∧∃ x,E[E.length - 1]?=some x∧x=48)∨(0<E.length∧∃ x,E[E.length - 1]?=some x∧x≠48) by rcases Nat.eq_zero_or_pos E.length with h | h;exact .inl h;by_cases h2:E[E.length - 1]=48;exact .inr (.inl ⟨h,_,List.getElem?_eq_getElem (by omega),h2⟩);exact .inr (.inr ⟨h,_,List.getElem?_eq_getElem (by omega),h2⟩)) with hEl | ⟨hEl,x,hlst,hc48⟩ | ⟨hEl,x,hlst,hc48⟩
 ·
  refine Rg (Mv 2 rfl (Bf rfl (by omega) (Md 9 [0,1,28] rfl (Nx (Cf rfl (Ex (Ot (Ot (Ob (Nx ?_))))))))));intro a hF
  refine cutF (fun a w=>∃ q':Int,Fr 42 [(0,.slice (some ⟨b,o',none⟩) E.length c'),(1,.int .i64 q')] a∧Mem w0.heap.size w0 [] w∧(big (worth E) q'↔big (worth D) p)∧ -5000000000000000≤q'∧q'≤5000000000000000+D.length) (fun a w h=> ?_) ?_
  ·
   clear hF hM
   obtain ⟨q',hF,hM,hq1,hq2,hq3⟩:=h
   revert a;exact Sq (Rg (Mv 1 rfl (Gv rfl (fun _ hF=>gives_bytesStrB E hF rfl rfl rfl (hBE.below hM.below)) (Md 3 [4,5] rfl (Nx (Re (Y2 rfl rfl rfl ⟨_,rfl,⟨E,q',rfl,hbE,by omega,hq1,hq2,hq3⟩,hM.below⟩)))))))
  revert a;refine Sq (Rg (Md 3 [0,1,38] rfl (Nx (D1 rfl ?_ ((fun ht=> ?_))))))
  ·
   refine Sk (Kp [0,1] rfl ?_);intro a hF
   exact ⟨q,hF,hM,hbg,by omega,by omega⟩
  have hE0:E=[]:=List.length_eq_zero_iff.1 (by have:=eq_of_beq ht;omega)
  have hbz:big (worth E) 0↔big (worth D) p:=by rw [←hbg,hE0];exact ⟨fun h=>absurd h (big_zero _),fun h=>absurd h (big_zero _)⟩
  refine Rg (Md 1 [0,1] rfl ?_);intro a hF
  exact ⟨0,hF,hM,hbz,by omega,by omega⟩
 ·
  refine Rg (Mv 2 rfl (Bt rfl (by omega) (Mv 4 rfl (Sm (((E.length - 1:Nat):Int)) rfl (by omega) (Gv rfl (fun _ hF=>gives_indexAddrS (sz:=1) ((E.length - 1)) hF rfl Tryz.underlying66 (by kernel_rfl) rfl rfl rfl (by omega) _) (Gv rfl (fun _ hF=>gives_load1 hF rfl Tryz.underlying5 rfl rfl (hBE.cell hM hlst)) (Qt 48 rfl rfl hc48 (Md 1 [0,1,28] rfl (Nx (Ct rfl (Sk (Nx (Bo (Sq (Rg (Mv 3 rfl (Sm (((E.length - 1:Nat):Int)) rfl (by omega) (Gv rfl (fun _ hF=>gives_slT (E.length - 1) hF rfl Tryz.underlying66 (by kernel_rfl) rfl rfl rfl (by omega) _) (Md 1 [0,1] rfl (Nx (Rg (Mv 1 rfl (Sm ((q+1)) rfl (by omega) (Md 1 [0,1] rfl (Nb (Kp [0,1] rfl ?_))))))))))))))))))))))))));intro a hF
  exact ⟨(E.length - 1,q+1),⟨E.take (E.length - 1),_,by rw [show (E.take (E.length - 1)).length=E.length - 1 by rw [List.length_take];omega];exact hF,hM,by rw [List.length_take];simp only;omega,⟨hbE.1.take _,take_head hbE.2 _⟩,(strip_last hlst (by omega) hc48 q).trans hbg,by rw [List.length_take];simp only;omega,by simp only;omega,by rw [List.length_take];omega,hBE.take _⟩,by simp only;omega⟩
 refine Rg (Mv 2 rfl (Bt rfl (by omega) (Mv 4 rfl (Sm (((E.length - 1:Nat):Int)) rfl (by omega) (Gv rfl (fun _ hF=>gives_indexAddrS (sz:=1) ((E.length - 1)) hF rfl Tryz.underlying66 (by kernel_rfl) rfl rfl rfl (by omega) _) (Gv rfl (fun _ hF=>gives_load1 hF rfl Tryz.underlying5 rfl rfl (hBE.cell hM hlst)) (Qf 48 rfl rfl hc48 (Md 1 [0,1,28] rfl (Nx (Cf rfl (Ex (Ot (Ot (Ob (Nx ?_)))))))))))))));intro a hF
 refine cutF (fun a w=>∃ q':Int,Fr 42 [(0,.slice (some ⟨b,o',none⟩) E.length c'),(1,.int .i64 q')] a∧Mem w0.heap.size w0 [] w∧(big (worth E) q'↔big (worth D) p)∧ -5000000000000000≤q'∧q'≤5000000000000000+D.length) (fun a w h=> ?_) ?_
 ·
  clear hF hM
  obtain ⟨q',hF,hM,hq1,hq2,hq3⟩:=h
  revert a;exact Sq (Rg (Mv 1 rfl (Gv rfl (fun _ hF=>gives_bytesStrB E hF rfl rfl rfl (hBE.below hM.below)) (Md 3 [4,5] rfl (Nx (Re (Y2 rfl rfl rfl ⟨_,rfl,⟨E,q',rfl,hbE,by omega,hq1,hq2,hq3⟩,hM.below⟩)))))))
 revert a;refine Sq (Rg (Md 3 [0,1,38] rfl (Nx (D1 rfl ?_ ((fun ht=> ?_))))))
 ·
  refine Sk (Kp [0,1] rfl ?_);intro a hF
  exact ⟨q,hF,hM,hbg,by omega,by omega⟩
 have hE0:E=[]:=List.length_eq_zero_iff.1 (by have:=eq_of_beq ht;omega)
 have hbz:big (worth E) 0↔big (worth D) p:=by rw [←hbg,hE0];exact ⟨fun h=>absurd h (big_zero _),fun h=>absurd h (big_zero _)⟩
 refine Rg (Md 1 [0,1] rfl ?_);intro a hF
 exact ⟨0,hF,hM,hbz,by omega,by omega⟩
end Go.Sx
namespace Js
def PwOf (s:Str) (neg:Bool) (ds:Str):Prop:=Digs ds∧ds≠ []∧((neg=true∧s=45::ds)∨(neg=false∧(s=43::ds∨s=ds)))
def sgn (neg:Bool) (n:Nat):Int:=if neg then -(n:Int) else (n:Int)
def ExOf (E:Str) (k:Int):Prop:=(E=[]∧k=0)∨∃ c pw neg ds,(c=101∨c=69)∧E=c::pw∧PwOf pw neg ds∧k=sgn neg (worth ds)
def pt (fd:Str):Str:=if fd=[] then [] else 46::fd
structure NumForm (x:Str) (neg:Bool) (I fd E:Str) (k:Int):Prop where
  text:x=(if neg then [45] else [])++(I++(pt fd++E))
  int:Digs I
  int0:I≠ []
  frac:Digs fd
  ex:ExOf E k
theorem exp_form {s:Str}(h:pExp s=some []):∃ k,ExOf s k:=by
  unfold pExp at h
  cases h1:(pTake 101 s).orElse (fun _=>pTake 69 s) with
  | none =>
    rw [h1] at h
    exact ⟨0,.inl ⟨Option.some.inj h,rfl⟩⟩
  | some r =>
    rw [h1] at h
    simp only at h
    obtain ⟨c,hc,rfl⟩:∃ c,(c=101∨c=69)∧s=c::r:=by
      cases h2:pTake 101 s with
      | some r'=>rw [h2] at h1;obtain rfl:=Option.some.inj h1;exact ⟨101,.inl rfl,pTake_some.1 h2⟩
      | none=>rw [h2] at h1;exact ⟨69,.inr rfl,pTake_some.1 h1⟩
    have dig:∀ {u:Str},pDigits u=some []→Digs u∧u≠ []:=by
      intro u hu
      obtain ⟨d,e,h3,h4,_⟩:=pDigits_some hu
      rw [List.append_nil] at e
      subst e
      exact ⟨h4,h3⟩
    cases h3:pTake 43 r with
    | some r' =>
      rw [h3] at h
      obtain ⟨h4,h5⟩:=dig h
      exact ⟨_,.inr ⟨c,r,false,r',hc,rfl,⟨h4,h5,.inr ⟨rfl,.inl (pTake_some.1 h3)⟩⟩,rfl⟩⟩
    | none =>
      rw [h3] at h
      cases h6:pTake 45 r with
      | some r' =>
        rw [h6] at h
        obtain ⟨h4,h5⟩:=dig h
        exact ⟨_,.inr ⟨c,r,true,r',hc,rfl,⟨h4,h5,.inl ⟨rfl,pTake_some.1 h6⟩⟩,rfl⟩⟩
      | none =>
        rw [h6] at h
        obtain ⟨h4,h5⟩:=dig h
        exact ⟨_,.inr ⟨c,r,false,r,hc,rfl,⟨h4,h5,.inr ⟨rfl,.inr rfl⟩⟩,rfl⟩⟩
theorem frac_form {s:Str}(h:pFrac s=some []):∃ fd E k,s=pt fd++E∧Digs fd∧ExOf E k:=by
  unfold pFrac at h
  cases h1:pTake 46 s with
  | none =>
    rw [h1] at h
    obtain ⟨k,hk⟩:=exp_form h
    exact ⟨[],s,k,rfl,(fun c h=>absurd h (by simp)),hk⟩
  | some r =>
    rw [h1] at h
    obtain ⟨q,hq,he⟩:=Option.bind_eq_some_iff.1 h
    obtain ⟨d,e,h3,h4,_⟩:=pDigits_some hq
    obtain ⟨k,hk⟩:=exp_form he
    refine ⟨d,q,k,?_,h4,hk⟩
    rw [pTake_some.1 h1,e,pt,if_neg h3]
    rfl
theorem num_form {x:Str}(h:IsNum x):∃ neg I fd E k,NumForm x neg I fd E k:=by
  have g:∀ {s:Str},pNum0 s=some []→∃ I fd E k,s=I++(pt fd++E)∧Digs I∧I≠ []∧Digs fd∧ExOf E k:=by
    intro s hs
    unfold pNum0 at hs
    cases h1:pTake 48 s with
    | some r =>
      rw [h1] at hs
      obtain ⟨fd,E,k,e,h2,h3⟩:=frac_form hs
      refine ⟨[48],fd,E,k,?_,(fun c hc=>by rw [List.mem_singleton.1 hc];rfl),List.cons_ne_nil _ _,h2,h3⟩
      rw [pTake_some.1 h1,e];rfl
    | none =>
      rw [h1] at hs
      obtain ⟨q,hq,he⟩:=Option.bind_eq_some_iff.1 hs
      obtain ⟨d,e,h3,h4,_⟩:=pDigits_some hq
      obtain ⟨fd,E,k,e2,h5,h6⟩:=frac_form he
      exact ⟨d,fd,E,k,by rw [e,e2],h4,h3,h5,h6⟩
  unfold IsNum at h
  rw [pNum_eq] at h
  cases h1:pTake 45 x with
  | some r =>
    rw [h1] at h
    obtain ⟨I,fd,E,k,e,h2,h3,h4,h5⟩:=g h
    exact ⟨true,I,fd,E,k,by rw [pTake_some.1 h1];exact congrArg (45:: ·) e,h2,h3,h4,h5⟩
  | none =>
    rw [h1] at h
    obtain ⟨I,fd,E,k,e,h2,h3,h4,h5⟩:=g h
    exact ⟨false,I,fd,E,k,by rw [if_neg (by simp),List.nil_append];exact e,h2,h3,h4,h5⟩
theorem NumForm.len {x:Str}{neg:Bool}{I fd E:Str}{k:Int}(h:NumForm x neg I fd E k):x.length=(if neg then 1 else 0)+I.length+(pt fd).length+E.length:=by
  have:=congrArg List.length h.text
  cases neg <;> simp at this ⊢ <;> omega
theorem pt_len (fd:Str):(pt fd).length=if fd=[] then 0 else fd.length+1:=by unfold pt;split <;> simp
end Js
namespace Go.Sx
open Go.RowKit Go.Proofs Js Go.Proofs.YtelonenjneonlaaGreatDoorW.PrintWords
theorem signed_walk (s ds:Str) (neg:Bool) (hp:PwOf s neg ds) (hl:s.length≤2^40) (w0:World):
    Calls Tryz.prog 52 #[.string (mkS s)] w0 (Ret fun v w'=>(∃ (z:Int) (ok:Bool),v= .tuple #[.int .i64 z,.bool ok]∧(ok=true→z=(if neg then -((worth ds:Nat):Int) else ((worth ds:Nat):Int))∧worth ds<10^15))∧Below w0.heap.size w0 w'):=by
 have hM:=MS0 w0
 obtain ⟨hdg,hd0,hcs⟩:=hp
 obtain ⟨d0,r0,hdr⟩:∃ c r,ds=c::r:=by cases ds with | nil=>exact absurd rfl hd0 | cons c r=>exact ⟨c,r,rfl⟩
 have hd0r:=dig_rng (show isDig d0=true by rw [hdr] at hdg;exact hdg.head)
 have hn45:d0≠45:=by rintro rfl;exact absurd hd0r (by decide)
 have hn43:d0≠43:=by rintro rfl;exact absurd hd0r (by decide)
 refine enter (l:=[.string (mkS s)]) 50 Tryz.func52 rfl rfl (Sq (Rg (Md 2 [0] rfl (Nx (Sq ?_)))))
 rcases hcs with ⟨hng,hs⟩ | ⟨hng,hs | hs⟩
 ·
  have hg0:s[0]?=some 45:=by rw [hs];rfl
  obtain ⟨c0,hc0⟩:∃ c:UInt8,c=45:=⟨_,rfl⟩
  rw [←hc0] at hg0
  have hds:ds=s.drop 1:=by rw [hs];rfl
  refine Rg (Mv 1 rfl (Ix (0) c0 rfl hg0 (by omega) (Qt 45 rfl rfl hc0 (Md 1 [0,4] rfl (Nx ?_)))));intro a hF
  refine cut (fun a w=>Fr 51 [(0,.string (mkS ds)),(4,.bool neg)] a∧Mem w0.heap.size w0 [] w) ?_ (fun a w h=> ?_)
  ·
   revert a;refine Sq (Rg (Mv 1 rfl (Ix (0) c0 rfl hg0 (by omega) (Qt 45 rfl rfl hc0 (Md 5 [0,4,18] rfl (Nx (Ct rfl (Rg (Mv 1 rfl ?_)))))))));intro a hF
   refine op_sliceFrom_str hF rfl (1) rfl rfl rfl Tryz.underlying9 rfl rfl (by first | rfl | omega) (by rw [hs];simp) ?_;clear hF a;intro a hF
   revert a;refine Md 1 [0,4] rfl ?_;intro a hF
   exact ⟨by rw [hng,hds];exact hF,hM⟩
  clear hF hM
  obtain ⟨hF,hM⟩:=h
  have hdl:ds.length≤2^40:=by rw [hs] at hl;first | exact hl | (simp at hl;omega)
  revert a;refine Sq (Rg (Md 2 [0,4,5,6] rfl (Nx (Sq (Sq (Rg (Md 1 [0,4,5,6,7] rfl (Nx (Bo (Kp [0,4,5,6,7] rfl ?_))))))))));intro a hF
  refine loopX (fun (x:Nat×Nat) a w=>Fr 51 [(0,.string (mkS ds)),(4,.bool neg),(5,.int .i64 ((worth (ds.take x.1):Nat):Int)),(6,.int .i64 (x.2:Int)),(7,.int .i64 (x.1:Int))] a∧Mem w0.heap.size w0 [] w∧x.1≤ds.length∧x.2≤15∧worth (ds.take x.1)<10^x.2) (fun x=>ds.length - x.1) ((0,0)) ?_ (fun x a w hI=> ?_)
  · exact ⟨hF,hM,Nat.zero_le _,by decide,by simp [worth]⟩
  clear hF hM
  obtain ⟨i,k⟩:=x
  obtain ⟨hF,hM,hil,hk,hw⟩:=hI
  simp only at hF hM hil hk hw
  revert a;refine Sq (Sq (Rg (Md 4 [0,4,5,6,7,24] rfl (Nx (Ce rfl (fun ht=> ?_) ((fun ht=> ?_)))))))
  ·
   have htk:ds.take i=ds:=List.take_of_length_le (by have:=of_decide_eq_false ht;omega)
   intro a hF
   rw [htk] at hF hw
   have hw15:worth ds<10^15:=Nat.lt_of_lt_of_le hw (Nat.pow_le_pow_right (by decide) hk)
   revert a;refine Ex (Ot (Ot (Ob (Nx (Sq (Sq ?_))))))
   clear hng;rcases neg with _ | _
   ·
    refine Rg (Md 1 [5,47] rfl (Nx (Cf rfl (Sk (Nx (Sq (Rg (Md 3 [2,3] rfl (Nx (Re ?_))))))))));intro a hF
    exact ret2 hF rfl rfl rfl ⟨_,rfl,⟨_,_,rfl,fun _=>⟨rfl,hw15⟩⟩,hM.below⟩
   refine Rg (Md 1 [5,47] rfl (Nx (Ct rfl (Rg (Mv 1 rfl (Gv rfl (fun _ hF=>gives_neg hF rfl rfl (-((worth ds:Nat):Int)) (by rw [wrap_i64 (by omega) (by omega)];omega) _) (Md 1 [5] rfl (Nx (Sq (Rg (Md 3 [2,3] rfl (Nx (Re ?_)))))))))))));intro a hF
   exact ret2 hF rfl rfl rfl ⟨_,rfl,⟨_,_,rfl,fun _=>⟨rfl,hw15⟩⟩,hM.below⟩
  have hi:i<ds.length:=by have:=of_decide_eq_true ht;omega
  obtain ⟨c,hg⟩:∃ c,ds[i]?=some c:=⟨_,List.getElem?_eq_getElem hi⟩
  have hcr:=dig_rng (hdg c (List.mem_of_getElem? hg))
  have hdgc:dg c=c.toNat - 48:=rfl
  have hnext:worth (ds.take (i+1))=worth (ds.take i)*10+dg c:=by rw [take_next hg,worth_snoc]
  refine Sk (Nx (Sq (Bo ?_)));intro a hF
  refine cutF (fun a w=>∃ k':Nat,Fr 51 [(0,.string (mkS ds)),(4,.bool neg),(5,.int .i64 ((worth (ds.take i):Nat):Int)),(6,.int .i64 (k':Int)),(7,.int .i64 (i:Int))] a∧Mem w0.heap.size w0 [] w∧worth (ds.take i)*10+dg c<10^k'∧k'≤k+1) (fun a w h=> ?_) ?_
  ·
   clear hF hM
   obtain ⟨k',hF,hM,hwk,hkk⟩:=h
   revert a;refine Sq (Sq (Rg (Md 2 [0,4,5,6,7,38] rfl (Nx (C2 rfl ?_ ((fun ht=> ?_)))))))
   ·
    refine Sq (Rg (Md 2 [2,3] rfl (Nx (Re (Rt (Rb (Rt (Rt (Rb (Rt ?_))))))))));intro a hF
    exact ret2 hF rfl rfl rfl ⟨_,rfl,⟨_,_,rfl,(fun h=>absurd h (by decide))⟩,hM.below⟩
   have hk15:k'≤15:=by have:=of_decide_eq_false ht;omega
   have hw10:worth (ds.take i)<10^15:=Nat.lt_of_lt_of_le hw (Nat.pow_le_pow_right (by decide) hk)
   refine Sk (Nx (Rg (Mv 1 rfl (Sm (((worth (ds.take i)*10:Nat):Int)) rfl (by omega) (Mv 2 rfl (Ix (i) c rfl hg (by omega) ?_))))));intro a hF
   refine op_sum hF rfl (((dg c:Nat):Int)) rfl rfl rfl rfl rfl rfl (by omega) (IntWalk.u8_in _ ⟨by omega,by omega⟩) ?_;clear hF a;intro a hF
   revert a;refine Gv rfl (fun _ hF=>gives_conv hF rfl Tryz.underlying5 Tryz.underlying3 rfl (((dg c:Nat):Int)) (wrap_i64 (by omega) (by omega)) _) (Sm (((worth (ds.take i)*10+dg c:Nat):Int)) rfl (by omega) (Md 1 [0,4,5,6,7] rfl (Nb (Nx (Rg (Mv 1 rfl (Sn rfl (by omega) (Md 1 [0,4,5,6,7] rfl ?_))))))));intro a hF
   exact ⟨(i+1,k'),⟨by rw [hnext];exact hF,hM,by simp only;omega,hk15,by simp only;rw [hnext];exact hwk⟩,by simp only;omega⟩
  revert a;refine Sq ?_
  rcases (show 0<k∨(k=0∧c≠48)∨(k=0∧c=48) by rcases Nat.eq_zero_or_pos k with h | h;by_cases h2:c=48;exact .inr (.inr ⟨h,h2⟩);exact .inr (.inl ⟨h,h2⟩);exact .inl h) with h1 | ⟨h1,h2⟩ | ⟨h1,h2⟩
  ·
   have hwk1:worth (ds.take i)*10+dg c<10^(k+1):=by rw [Nat.pow_succ];omega
   refine Rg (Mv 1 rfl (Bt rfl (by omega) (Md 6 [0,4,5,6,7,34] rfl (Nx (Ct rfl (Rg (Mv 1 rfl (Sn rfl (by omega) (Md 1 [0,4,5,6,7] rfl ?_)))))))));intro a hF
   exact ⟨k+1,hF,hM,hwk1,Nat.le_refl _⟩
  ·
   have hwk1:worth (ds.take i)*10+dg c<10^(k+1):=by rw [Nat.pow_succ];omega
   refine Rg (Mv 1 rfl (Bf rfl (by omega) (Mv 3 rfl (Ix (i) c rfl hg (by omega) (Mv 1 rfl ?_)))));intro a hF
   rw [bne_t (d:=48) (z:=48) rfl h2] at hF
   revert a;refine Md 1 [0,4,5,6,7,34] rfl (Nx (Ct rfl (Rg (Mv 1 rfl (Sn rfl (by omega) (Md 1 [0,4,5,6,7] rfl ?_))))));intro a hF
   exact ⟨k+1,hF,hM,hwk1,Nat.le_refl _⟩
  have hwk0:worth (ds.take i)*10+dg c<10^k:=by rw [h1] at hw ⊢;rw [hdgc,h2];simp at hw ⊢;omega
  refine Rg (Mv 1 rfl (Bf rfl (by omega) (Mv 3 rfl (Ix (i) c rfl hg (by omega) (Mv 1 rfl ?_)))));intro a hF
  rw [bne_f (d:=48) (z:=48) rfl h2] at hF
  revert a;refine Md 1 [0,4,5,6,7,34] rfl (Nx (Cf rfl (Sk (Kp [0,4,5,6,7] rfl ?_))));intro a hF
  exact ⟨k,hF,hM,hwk0,by omega⟩
 ·
  have hg0:s[0]?=some 43:=by rw [hs];rfl
  obtain ⟨c0,hc0⟩:∃ c:UInt8,c=43:=⟨_,rfl⟩
  rw [←hc0] at hg0
  have hds:ds=s.drop 1:=by rw [hs];rfl
  have hc45:c0≠45:=by rw [hc0];decide
  refine Rg (Mv 1 rfl (Ix (0) c0 rfl hg0 (by omega) (Qf 45 rfl rfl hc45 (Md 1 [0,4] rfl (Nx ?_)))));intro a hF
  refine cut (fun a w=>Fr 51 [(0,.string (mkS ds)),(4,.bool neg)] a∧Mem w0.heap.size w0 [] w) ?_ (fun a w h=> ?_)
  ·
   revert a;refine Sq (Rg (Mv 1 rfl (Ix (0) c0 rfl hg0 (by omega) (Qf 45 rfl rfl hc45 (Mv 2 rfl (Ix (0) c0 rfl hg0 (by omega) (Qt 43 rfl rfl hc0 (Md 1 [0,4,18] rfl (Nx (Ct rfl (Rg (Mv 1 rfl ?_))))))))))));intro a hF
   refine op_sliceFrom_str hF rfl (1) rfl rfl rfl Tryz.underlying9 rfl rfl (by first | rfl | omega) (by rw [hs];simp) ?_;clear hF a;intro a hF
   revert a;refine Md 1 [0,4] rfl ?_;intro a hF
   exact ⟨by rw [hng,hds];exact hF,hM⟩
  clear hF hM
  obtain ⟨hF,hM⟩:=h
  have hdl:ds.length≤2^40:=by rw [hs] at hl;first | exact hl | (simp at hl;omega)
  revert a;refine Sq (Rg (Md 2 [0,4,5,6] rfl (Nx (Sq (Sq (Rg (Md 1 [0,4,5,6,7] rfl (Nx (Bo (Kp [0,4,5,6,7] rfl ?_))))))))));intro a hF
  refine loopX (fun (x:Nat×Nat) a w=>Fr 51 [(0,.string (mkS ds)),(4,.bool neg),(5,.int .i64 ((worth (ds.take x.1):Nat):Int)),(6,.int .i64 (x.2:Int)),(7,.int .i64 (x.1:Int))] a∧Mem w0.heap.size w0 [] w∧x.1≤ds.length∧x.2≤15∧worth (ds.take x.1)<10^x.2) (fun x=>ds.length - x.1) ((0,0)) ?_ (fun x a w hI=> ?_)
  · exact ⟨hF,hM,Nat.zero_le _,by decide,by simp [worth]⟩
  clear hF hM
  obtain ⟨i,k⟩:=x
  obtain ⟨hF,hM,hil,hk,hw⟩:=hI
  simp only at hF hM hil hk hw
  revert a;refine Sq (Sq (Rg (Md 4 [0,4,5,6,7,24] rfl (Nx (Ce rfl (fun ht=> ?_) ((fun ht=> ?_)))))))
  ·
   have htk:ds.take i=ds:=List.take_of_length_le (by have:=of_decide_eq_false ht;omega)
   intro a hF
   rw [htk] at hF hw
   have hw15:worth ds<10^15:=Nat.lt_of_lt_of_le hw (Nat.pow_le_pow_right (by decide) hk)
   revert a;refine Ex (Ot (Ot (Ob (Nx (Sq (Sq ?_))))))
   clear hng;rcases neg with _ | _
   ·
    refine Rg (Md 1 [5,47] rfl (Nx (Cf rfl (Sk (Nx (Sq (Rg (Md 3 [2,3] rfl (Nx (Re ?_))))))))));intro a hF
    exact ret2 hF rfl rfl rfl ⟨_,rfl,⟨_,_,rfl,fun _=>⟨rfl,hw15⟩⟩,hM.below⟩
   refine Rg (Md 1 [5,47] rfl (Nx (Ct rfl (Rg (Mv 1 rfl (Gv rfl (fun _ hF=>gives_neg hF rfl rfl (-((worth ds:Nat):Int)) (by rw [wrap_i64 (by omega) (by omega)];omega) _) (Md 1 [5] rfl (Nx (Sq (Rg (Md 3 [2,3] rfl (Nx (Re ?_)))))))))))));intro a hF
   exact ret2 hF rfl rfl rfl ⟨_,rfl,⟨_,_,rfl,fun _=>⟨rfl,hw15⟩⟩,hM.below⟩
  have hi:i<ds.length:=by have:=of_decide_eq_true ht;omega
  obtain ⟨c,hg⟩:∃ c,ds[i]?=some c:=⟨_,List.getElem?_eq_getElem hi⟩
  have hcr:=dig_rng (hdg c (List.mem_of_getElem? hg))
  have hdgc:dg c=c.toNat - 48:=rfl
  have hnext:worth (ds.take (i+1))=worth (ds.take i)*10+dg c:=by rw [take_next hg,worth_snoc]
  refine Sk (Nx (Sq (Bo ?_)));intro a hF
  refine cutF (fun a w=>∃ k':Nat,Fr 51 [(0,.string (mkS ds)),(4,.bool neg),(5,.int .i64 ((worth (ds.take i):Nat):Int)),(6,.int .i64 (k':Int)),(7,.int .i64 (i:Int))] a∧Mem w0.heap.size w0 [] w∧worth (ds.take i)*10+dg c<10^k'∧k'≤k+1) (fun a w h=> ?_) ?_
  ·
   clear hF hM
   obtain ⟨k',hF,hM,hwk,hkk⟩:=h
   revert a;refine Sq (Sq (Rg (Md 2 [0,4,5,6,7,38] rfl (Nx (C2 rfl ?_ ((fun ht=> ?_)))))))
   ·
    refine Sq (Rg (Md 2 [2,3] rfl (Nx (Re (Rt (Rb (Rt (Rt (Rb (Rt ?_))))))))));intro a hF
    exact ret2 hF rfl rfl rfl ⟨_,rfl,⟨_,_,rfl,(fun h=>absurd h (by decide))⟩,hM.below⟩
   have hk15:k'≤15:=by have:=of_decide_eq_false ht;omega
   have hw10:worth (ds.take i)<10^15:=Nat.lt_of_lt_of_le hw (Nat.pow_le_pow_right (by decide) hk)
   refine Sk (Nx (Rg (Mv 1 rfl (Sm (((worth (ds.take i)*10:Nat):Int)) rfl (by omega) (Mv 2 rfl (Ix (i) c rfl hg (by omega) ?_))))));intro a hF
   refine op_sum hF rfl (((dg c:Nat):Int)) rfl rfl rfl rfl rfl rfl (by omega) (IntWalk.u8_in _ ⟨by omega,by omega⟩) ?_;clear hF a;intro a hF
   revert a;refine Gv rfl (fun _ hF=>gives_conv hF rfl Tryz.underlying5 Tryz.underlying3 rfl (((dg c:Nat):Int)) (wrap_i64 (by omega) (by omega)) _) (Sm (((worth (ds.take i)*10+dg c:Nat):Int)) rfl (by omega) (Md 1 [0,4,5,6,7] rfl (Nb (Nx (Rg (Mv 1 rfl (Sn rfl (by omega) (Md 1 [0,4,5,6,7] rfl ?_))))))));intro a hF
   exact ⟨(i+1,k'),⟨by rw [hnext];exact hF,hM,by simp only;omega,hk15,by simp only;rw [hnext];exact hwk⟩,by simp only;omega⟩
  revert a;refine Sq ?_
  rcases (show 0<k∨(k=0∧c≠48)∨(k=0∧c=48) by rcases Nat.eq_zero_or_pos k with h | h;by_cases h2:c=48;exact .inr (.inr ⟨h,h2⟩);exact .inr (.inl ⟨h,h2⟩);exact .inl h) with h1 | ⟨h1,h2⟩ | ⟨h1,h2⟩
  ·
   have hwk1:worth (ds.take i)*10+dg c<10^(k+1):=by rw [Nat.pow_succ];omega
   refine Rg (Mv 1 rfl (Bt rfl (by omega) (Md 6 [0,4,5,6,7,34] rfl (Nx (Ct rfl (Rg (Mv 1 rfl (Sn rfl (by omega) (Md 1 [0,4,5,6,7] rfl ?_)))))))));intro a hF
   exact ⟨k+1,hF,hM,hwk1,Nat.le_refl _⟩
  ·
   have hwk1:worth (ds.take i)*10+dg c<10^(k+1):=by rw [Nat.pow_succ];omega
   refine Rg (Mv 1 rfl (Bf rfl (by omega) (Mv 3 rfl (Ix (i) c rfl hg (by omega) (Mv 1 rfl ?_)))));intro a hF
   rw [bne_t (d:=48) (z:=48) rfl h2] at hF
   revert a;refine Md 1 [0,4,5,6,7,34] rfl (Nx (Ct rfl (Rg (Mv 1 rfl (Sn rfl (by omega) (Md 1 [0,4,5,6,7] rfl ?_))))));intro a hF
   exact ⟨k+1,hF,hM,hwk1,Nat.le_refl _⟩
  have hwk0:worth (ds.take i)*10+dg c<10^k:=by rw [h1] at hw ⊢;rw [hdgc,h2];simp at hw ⊢;omega
  refine Rg (Mv 1 rfl (Bf rfl (by omega) (Mv 3 rfl (Ix (i) c rfl hg (by omega) (Mv 1 rfl ?_)))));intro a hF
  rw [bne_f (d:=48) (z:=48) rfl h2] at hF
  revert a;refine Md 1 [0,4,5,6,7,34] rfl (Nx (Cf rfl (Sk (Kp [0,4,5,6,7] rfl ?_))));intro a hF
  exact ⟨k,hF,hM,hwk0,by omega⟩
 have hg0:s[0]?=some d0:=by rw [hs,hdr];rfl
 obtain ⟨c0,hc0⟩:∃ c:UInt8,c=d0:=⟨_,rfl⟩
 intro a hF
 rw [←hc0] at hg0 hn45 hn43
 revert a;refine Rg (Mv 1 rfl (Ix (0) c0 rfl hg0 (by omega) (Qf 45 rfl rfl hn45 (Md 1 [0,4] rfl (Nx ?_)))));intro a hF
 refine cut (fun a w=>Fr 51 [(0,.string (mkS ds)),(4,.bool neg)] a∧Mem w0.heap.size w0 [] w) ?_ (fun a w h=> ?_)
 ·
  revert a;refine Sq (Rg (Mv 1 rfl (Ix (0) c0 rfl hg0 (by omega) (Qf 45 rfl rfl hn45 (Mv 2 rfl (Ix (0) c0 rfl hg0 (by omega) (Qf 43 rfl rfl hn43 (Md 1 [0,4,18] rfl (Nx (Cf rfl (Sk (Kp [0,4] rfl ?_))))))))))));intro a hF
  exact ⟨by rw [hng,←hs];exact hF,hM⟩
 clear hF hM
 obtain ⟨hF,hM⟩:=h
 have hdl:ds.length≤2^40:=by rw [hs] at hl;first | exact hl | (simp at hl;omega)
 revert a;refine Sq (Rg (Md 2 [0,4,5,6] rfl (Nx (Sq (Sq (Rg (Md 1 [0,4,5,6,7] rfl (Nx (Bo (Kp [0,4,5,6,7] rfl ?_))))))))));intro a hF
 refine loopX (fun (x:Nat×Nat) a w=>Fr 51 [(0,.string (mkS ds)),(4,.bool neg),(5,.int .i64 ((worth (ds.take x.1):Nat):Int)),(6,.int .i64 (x.2:Int)),(7,.int .i64 (x.1:Int))] a∧Mem w0.heap.size w0 [] w∧x.1≤ds.length∧x.2≤15∧worth (ds.take x.1)<10^x.2) (fun x=>ds.length - x.1) ((0,0)) ?_ (fun x a w hI=> ?_)
 · exact ⟨hF,hM,Nat.zero_le _,by decide,by simp [worth]⟩
 clear hF hM
 obtain ⟨i,k⟩:=x
 obtain ⟨hF,hM,hil,hk,hw⟩:=hI
 simp only at hF hM hil hk hw
 revert a;refine Sq (Sq (Rg (Md 4 [0,4,5,6,7,24] rfl (Nx (Ce rfl (fun ht=> ?_) ((fun ht=> ?_)))))))
 ·
  have htk:ds.take i=ds:=List.take_of_length_le (by have:=of_decide_eq_false ht;omega)
  intro a hF
  rw [htk] at hF hw
  have hw15:worth ds<10^15:=Nat.lt_of_lt_of_le hw (Nat.pow_le_pow_right (by decide) hk)
  revert a;refine Ex (Ot (Ot (Ob (Nx (Sq (Sq ?_))))))
  clear hng;rcases neg with _ | _
  ·
   refine Rg (Md 1 [5,47] rfl (Nx (Cf rfl (Sk (Nx (Sq (Rg (Md 3 [2,3] rfl (Nx (Re ?_))))))))));intro a hF
   exact ret2 hF rfl rfl rfl ⟨_,rfl,⟨_,_,rfl,fun _=>⟨rfl,hw15⟩⟩,hM.below⟩
  refine Rg (Md 1 [5,47] rfl (Nx (Ct rfl (Rg (Mv 1 rfl (Gv rfl (fun _ hF=>gives_neg hF rfl rfl (-((worth ds:Nat):Int)) (by rw [wrap_i64 (by omega) (by omega)];omega) _) (Md 1 [5] rfl (Nx (Sq (Rg (Md 3 [2,3] rfl (Nx (Re ?_)))))))))))));intro a hF
  exact ret2 hF rfl rfl rfl ⟨_,rfl,⟨_,_,rfl,fun _=>⟨rfl,hw15⟩⟩,hM.below⟩
 have hi:i<ds.length:=by have:=of_decide_eq_true ht;omega
 obtain ⟨c,hg⟩:∃ c,ds[i]?=some c:=⟨_,List.getElem?_eq_getElem hi⟩
 have hcr:=dig_rng (hdg c (List.mem_of_getElem? hg))
 have hdgc:dg c=c.toNat - 48:=rfl
 have hnext:worth (ds.take (i+1))=worth (ds.take i)*10+dg c:=by rw [take_next hg,worth_snoc]
 refine Sk (Nx (Sq (Bo ?_)));intro a hF
 refine cutF (fun a w=>∃ k':Nat,Fr 51 [(0,.string (mkS ds)),(4,.bool neg),(5,.int .i64 ((worth (ds.take i):Nat):Int)),(6,.int .i64 (k':Int)),(7,.int .i64 (i:Int))] a∧Mem w0.heap.size w0 [] w∧worth (ds.take i)*10+dg c<10^k'∧k'≤k+1) (fun a w h=> ?_) ?_
 ·
  clear hF hM
  obtain ⟨k',hF,hM,hwk,hkk⟩:=h
  revert a;refine Sq (Sq (Rg (Md 2 [0,4,5,6,7,38] rfl (Nx (C2 rfl ?_ ((fun ht=> ?_)))))))
  ·
   refine Sq (Rg (Md 2 [2,3] rfl (Nx (Re (Rt (Rb (Rt (Rt (Rb (Rt ?_))))))))));intro a hF
   exact ret2 hF rfl rfl rfl ⟨_,rfl,⟨_,_,rfl,(fun h=>absurd h (by decide))⟩,hM.below⟩
  have hk15:k'≤15:=by have:=of_decide_eq_false ht;omega
  have hw10:worth (ds.take i)<10^15:=Nat.lt_of_lt_of_le hw (Nat.pow_le_pow_right (by decide) hk)
  refine Sk (Nx (Rg (Mv 1 rfl (Sm (((worth (ds.take i)*10:Nat):Int)) rfl (by omega) (Mv 2 rfl (Ix (i) c rfl hg (by omega) ?_))))));intro a hF
  refine op_sum hF rfl (((dg c:Nat):Int)) rfl rfl rfl rfl rfl rfl (by omega) (IntWalk.u8_in _ ⟨by omega,by omega⟩) ?_;clear hF a;intro a hF
  revert a;refine Gv rfl (fun _ hF=>gives_conv hF rfl Tryz.underlying5 Tryz.underlying3 rfl (((dg c:Nat):Int)) (wrap_i64 (by omega) (by omega)) _) (Sm (((worth (ds.take i)*10+dg c:Nat):Int)) rfl (by omega) (Md 1 [0,4,5,6,7] rfl (Nb (Nx (Rg (Mv 1 rfl (Sn rfl (by omega) (Md 1 [0,4,5,6,7] rfl ?_))))))));intro a hF
  exact ⟨(i+1,k'),⟨by rw [hnext];exact hF,hM,by simp only;omega,hk15,by simp only;rw [hnext];exact hwk⟩,by simp only;omega⟩
 revert a;refine Sq ?_
 rcases (show 0<k∨(k=0∧c≠48)∨(k=0∧c=48) by rcases Nat.eq_zero_or_pos k with h | h;by_cases h2:c=48;exact .inr (.inr ⟨h,h2⟩);exact .inr (.inl ⟨h,h2⟩);exact .inl h) with h1 | ⟨h1,h2⟩ | ⟨h1,h2⟩
 ·
  have hwk1:worth (ds.take i)*10+dg c<10^(k+1):=by rw [Nat.pow_succ];omega
  refine Rg (Mv 1 rfl (Bt rfl (by omega) (Md 6 [0,4,5,6,7,34] rfl (Nx (Ct rfl (Rg (Mv 1 rfl (Sn rfl (by omega) (Md 1 [0,4,5,6,7] rfl ?_)))))))));intro a hF
  exact ⟨k+1,hF,hM,hwk1,Nat.le_refl _⟩
 ·
  have hwk1:worth (ds.take i)*10+dg c<10^(k+1):=by rw [Nat.pow_succ];omega
  refine Rg (Mv 1 rfl (Bf rfl (by omega) (Mv 3 rfl (Ix (i) c rfl hg (by omega) (Mv 1 rfl ?_)))));intro a hF
  rw [bne_t (d:=48) (z:=48) rfl h2] at hF
  revert a;refine Md 1 [0,4,5,6,7,34] rfl (Nx (Ct rfl (Rg (Mv 1 rfl (Sn rfl (by omega) (Md 1 [0,4,5,6,7] rfl ?_))))));intro a hF
  exact ⟨k+1,hF,hM,hwk1,Nat.le_refl _⟩
 have hwk0:worth (ds.take i)*10+dg c<10^k:=by rw [h1] at hw ⊢;rw [hdgc,h2];simp at hw ⊢;omega
 refine Rg (Mv 1 rfl (Bf rfl (by omega) (Mv 3 rfl (Ix (i) c rfl hg (by omega) (Mv 1 rfl ?_)))));intro a hF
 rw [bne_f (d:=48) (z:=48) rfl h2] at hF
 revert a;refine Md 1 [0,4,5,6,7,34] rfl (Nx (Cf rfl (Sk (Kp [0,4,5,6,7] rfl ?_))));intro a hF
 exact ⟨k,hF,hM,hwk0,by omega⟩
theorem isNum_walk {x:Str}(hx:IsNum x) (hl:x.length≤2^40) (w0:World):
    Calls Tryz.prog 51 #[.string (mkS x)] w0 (Ret fun v w'=>v= .bool true∧Below w0.heap.size w0 w'):=by
 have hM:=MS0 w0
 have hpn:pNum x=some []:=hx
 refine enter (l:=[.string (mkS x)]) 13 Tryz.func51 rfl rfl (Sq (Rg (Md 1 [0] rfl (Nx (Sq (Rg (Mv 1 rfl (Gv rfl (fun _ hF=>gives_build (vals:=[(0,.string (mkS x))]) (cells:=RD x x) hF rfl rfl (by unfold RD;rw [ps_self];kernel_rfl) _) ?_))))))));intro a hF
 refine op_alloc hF hM rfl (vs:=[.string (mkS []),.int .i64 0]) rfl rfl rfl (by kernel_rfl) ?_;clear hF hM a;intro a w b3 hF hM
 refine op_storeA hF hM rfl 0 rfl rfl (by kernel_rfl) rfl rfl rfl rfl (rfl) ?_;clear hF hM a;intro a w hF hM
 revert a;refine Md 0 [0,3] rfl (Nx (Sq (Rg (Cl rfl rfl rfl (number_rd (by omega) (Sfx.refl x) hM) ?_))))
 clear hM;intro w v hR
 obtain ⟨rfl,q,hs,hq,hM⟩:=hR
 obtain rfl:=hq _ hpn
 intro a hF
 rw [hpn] at hF
 revert a;refine Mv 2 rfl (Ld hM 0 rfl rfl (Mv 3 rfl ?_));intro a hF
 rw [show ((((ps x []:Nat):Int))==((x.length:Nat):Int))=true by simp [ps]] at hF
 revert a;exact Md 2 [2] rfl (Nx (Re (Y1 rfl rfl ⟨_,rfl,rfl,hM.below⟩)))
def Rdg (I fd:Str) (j:Nat) (D:Str) (fr:Nat) (seen:Bool):Prop:=(seen=false∧j≤I.length∧D=I.take j∧fr=0)∨(seen=true∧fd≠ []∧∃ k,j=I.length+1+k∧k≤fd.length∧D=I++fd.take k∧fr=k)
theorem Rdg.cases {I fd:Str}{j:Nat}{D:Str}{fr:Nat}{seen:Bool}(h:Rdg I fd j D fr seen) (hI:Digs I) (hf:Digs fd):
    (∃ c,(I++pt fd)[j]?=some c∧isDig c=true∧Rdg I fd (j+1) (D++ [c]) (if seen then fr+1 else fr) seen)∨((I++pt fd)[j]?=some 46∧Rdg I fd (j+1) D fr true)∨(j=(I++pt fd).length∧D=I++fd∧fr=fd.length):=by
  rcases h with ⟨rfl,hj,rfl,rfl⟩ | ⟨rfl,hfd,k,rfl,hk,rfl,rfl⟩
  · rcases Nat.lt_or_ge j I.length with h1 | h1
    · have hc:I[j]?=some I[j]:=List.getElem?_eq_getElem h1
      refine .inl ⟨I[j],by rw [List.getElem?_append_left h1];exact hc,hI _ (List.getElem_mem h1),.inl ⟨rfl,by omega,(take_next hc).symm,rfl⟩⟩
    · have hj2:j=I.length:=by omega
      subst hj2
      rcases Classical.em (fd=[]) with h2 | h2
      · subst h2
        refine .inr (.inr ⟨by simp [pt],by simp,rfl⟩)
      · refine .inr (.inl ⟨by rw [List.getElem?_append_right (Nat.le_refl _),Nat.sub_self,pt,if_neg h2];rfl,.inr ⟨rfl,h2,0,rfl,Nat.zero_le _,by simp,rfl⟩⟩)
  · rcases Nat.lt_or_ge fr fd.length with h1 | h1
    · have hc:fd[fr]?=some fd[fr]:=List.getElem?_eq_getElem h1
      refine .inl ⟨fd[fr],?_,hf _ (List.getElem_mem h1),.inr ⟨rfl,hfd,fr+1,rfl,by omega,by rw [take_next hc,List.append_assoc],rfl⟩⟩
      rw [List.getElem?_append_right (by omega),show I.length+1+fr - I.length=fr+1 by omega,pt,if_neg hfd]
      exact hc
    · have hk2:fr=fd.length:=by omega
      subst hk2
      refine .inr (.inr ⟨?_,by rw [List.take_length],rfl⟩)
      rw [List.length_append,pt,if_neg hfd,List.length_cons];omega
theorem Rdg.len {I fd:Str}{j:Nat}{D:Str}{fr:Nat}{seen:Bool}(h:Rdg I fd j D fr seen):D.length≤I.length+fd.length∧fr≤fd.length:=by
  rcases h with ⟨_,_,rfl,rfl⟩ | ⟨_,_,k,_,hk,rfl,rfl⟩
  · rw [List.length_take];omega
  · rw [List.length_append,List.length_take];omega
theorem dig_not {c:UInt8}(h:isDig c=true):c≠46∧c≠101∧c≠69∧c≠45:=by
  have h1:=dig_rng h
  refine ⟨?_,?_,?_,?_⟩ <;> rintro rfl <;> exact absurd h1 (by decide)
theorem row_bts {B:Nat}{wc w:World}{R L:List Bk}{v:Value}{n:Nat}{D:Str}(h:Row 5 1 R v n (u8s D)) (hn:n=D.length) (h0:0<n) (hM:Mem B wc L w) (hs:R⊆L):∃ g cap,v= .slice (some ⟨g,0,none⟩) D.length cap∧D.length≤cap∧cap≤9223372036854775807∧Bts w g 0 D:=by
  subst hn
  rcases h.2 with ⟨_,_,h2⟩ | ⟨g,cap,vs,rfl,rfl,h3,h4,h5,h6⟩
  · omega
  · have hb:=(hM.held (g,5,vs) (hs (by simp))).2
    refine ⟨g,cap,rfl,h3,by simp only [maxLen] at h4;omega,?_,fun j u hj=> ?_⟩
    · exact blk_lt hb
    · rw [Nat.zero_add,blk_cell hb]
      have hl:=(List.getElem?_eq_some_iff.1 hj).1
      have:(vs.take (D.length*1))[j]?=some (.int .u8 (u.toNat:Int)):=by rw [h6,u8s,List.getElem?_map,hj];rfl
      rw [List.getElem?_take] at this
      split at this
      · simpa using this
      · cases this
def BigX (I fd:Str) (k:Int):Prop:=big (worth (I++fd)) (k - fd.length)
theorem value_walk {x:Str}{neg:Bool}{I fd E:Str}{k:Int}(hx:IsNum x) (hf:NumForm x neg I fd E k) (hl:x.length≤65536) (w0:World):
    Calls Tryz.prog 31 #[.string (mkS x)] w0 (Ret fun v w'=>(∃ (ng:Bool) (D':Str) (p':Int) (ok:Bool),v= .tuple #[.agg (NUML ng D' p').toArray,.bool ok]∧(ok=true→Bare D'∧D'.length≤x.length∧(big (worth D') p'↔BigX I fd k)∧ -6000000000000000≤p'∧p'≤6000000000000000))∧Below w0.heap.size w0 w'):=by
 have hM:=MS0 w0
 obtain ⟨htx,hIg,hI0,hfg,hex⟩:=hf
 obtain ⟨P,hP⟩:∃ P:Nat,P=if neg then 1 else 0:=⟨_,rfl⟩
 obtain ⟨M,hM0⟩:∃ M,M=I++pt fd:=⟨_,rfl⟩
 have hxM:x=(if neg then [45] else [])++(M++E):=by rw [hM0,List.append_assoc];exact htx
 have hsl:(if neg then [45] else []:Str).length=P:=by rw [hP];cases neg <;> rfl
 have hxl:x.length=P+M.length+E.length:=by rw [hxM,List.length_append,List.length_append,hsl];omega
 have hMl:M.length=I.length+(pt fd).length:=by rw [hM0,List.length_append]
 have hfl:fd.length≤(pt fd).length:=by rw [pt_len];split <;> simp_all
 have hI1:=List.length_pos_iff.2 hI0
 have hget:∀ (j:Nat) (c:UInt8),M[j]?=some c→x[P+j]?=some c:=fun j c h=>by rw [hxM,List.getElem?_append_right (by omega),hsl,Nat.add_sub_cancel_left,List.getElem?_append_left (List.getElem?_eq_some_iff.1 h).1];exact h
 have hgetE:∀ (c:UInt8) (r:Str),E=c::r→x[P+M.length]?=some c∧x.drop (P+M.length+1)=r:=fun c r h=>by constructor;(rw [hxM,h,List.getElem?_append_right (by omega),hsl,Nat.add_sub_cancel_left,List.getElem?_append_right (Nat.le_refl _),Nat.sub_self];rfl);(rw [←List.drop_drop,←hsl,←List.drop_drop,hxM,List.drop_left,List.drop_left,h];rfl)
 obtain ⟨c0,hc0⟩:∃ c,x[0]?=some c:=⟨_,List.getElem?_eq_getElem (by omega)⟩
 have hneg:c0=45↔neg=true:=by
   cases neg with
   | true => have : c0 = 45 := by rw [hxM] at hc0; exact (Option.some.inj hc0).symm
             simp [this]
   | false =>
     obtain ⟨d,r,hI⟩:∃ d r,I=d::r:=by cases I with | nil=>exact absurd rfl hI0 | cons d r=>exact ⟨d,r,rfl⟩
     have h1:c0=d:=by rw [hxM,hM0,hI] at hc0;exact (Option.some.inj hc0).symm
     have h2:=dig_not (show isDig d=true by rw [hI] at hIg;exact hIg.head)
     simp [h1,h2.2.2.2]
 refine enter (l:=[.string (mkS x)]) 77 Tryz.func31 rfl rfl (Sq (Rg ?_));intro a hF
 refine op_alloc hF hM rfl (vs:=NUML false [] 0) rfl rfl rfl (by kernel_rfl) ?_;clear hF hM a;intro a w b2 hF hM
 revert a;refine Md 1 [0,2] rfl (Nx (Sq (Sq (Rg (Mv 1 rfl (Cm hM rfl rfl rfl (isNum_walk hx (by omega) _) ?_))))))
 clear hM;intro w v hR hM hBe
 obtain rfl:=hR
 refine Md 1 [0,2,13] rfl (Nx (Cf rfl (Sk (Nx (Sq (Rg (Gv rfl (fun _ hF=>gives_build (parts:=[]) (vals:=[]) (cells:=NUML false [] 0) hF rfl rfl (by unfold NUML;kernel_rfl) _) ?_)))))));intro a hF
 refine op_alloc hF hM rfl (vs:=NUML false [] 0) rfl rfl rfl (by kernel_rfl) ?_;clear hF hM a;intro a w b4 hF hM
 refine op_storeA hF hM rfl 0 rfl rfl (by kernel_rfl) rfl rfl rfl rfl (rfl) ?_;clear hF hM a;intro a w hF hM
 revert a;refine Md 0 [0,2,4] rfl (Nx (Sq (Rg (Md 1 [0,2,4,5] rfl (Nx ?_)))));intro a hF
 refine cut (fun a w=>Fr 78 [(0,.string (mkS x)),(2,.pointer (some ⟨b2,0,none⟩)),(4,.pointer (some ⟨b4,0,none⟩)),(5,.int .i64 (P:Int))] a∧Mem w0.heap.size w0 [(b4,58,NUML neg [] 0),(b2,58,NUML false [] 0)] w) ?_ (fun a w h=> ?_)
 ·
  revert a;refine Sq (Rg (Mv 1 rfl (Ix (0) c0 rfl hc0 (by omega) (Md 1 [0,2,4,5,18] rfl (Nx (Ce rfl (fun ht=> ?_) ((fun ht=> ?_))))))))
  ·
   have hng:neg=false:=by cases h:neg;rfl;exact absurd (hneg.2 h) (eq_f (d:=45) rfl ht)
   have hP0:P=0:=by rw [hng] at hP;exact hP
   refine Sk (Kp [0,2,4,5] rfl ?_);intro a hF
   exact ⟨by rw [hP0];exact hF,by rw [hng];exact hM⟩
  have hng:=hneg.1 (eq_t (d:=45) rfl ht)
  have hP1:P=1:=by rw [hP,hng];rfl
  refine Sq (Rg (Mv 1 rfl (St hM 0 rfl ?_)))
  clear hM;intro w hM
  refine Md 0 [0,2,4] rfl (Nx (Rg (Md 1 [0,2,4,5] rfl ?_)));intro a hF
  exact ⟨by rw [hP1];exact hF,by rw [hng];exact hM⟩
 clear hF hM
 obtain ⟨hF,hM⟩:=h
 revert a;refine Sq (Rg (Md 1 [0,2,4,5,6] rfl (Nx (Sq (Rg (Md 1 [0,2,4,5,6,7] rfl (Nx (Sq (Rg (Md 1 [0,2,4,5,6,7,8] rfl (Nx ?_)))))))))));intro a hF
 refine cutF (fun a w=>∃ R sl,Fr 78 [(0,.string (mkS x)),(2,.pointer (some ⟨b2,0,none⟩)),(4,.pointer (some ⟨b4,0,none⟩)),(5,.int .i64 ((P+M.length:Nat):Int)),(6,sl),(7,.int .i64 (-((fd.length:Nat):Int)))] a∧Mem w0.heap.size w0 ((b4,58,NUML neg [] 0)::(b2,58,NUML false [] 0)::R) w∧Row 5 1 R sl (I++fd).length (u8s (I++fd))) (fun a w h=> ?_) ?_
 ·
  clear hF hM
  obtain ⟨R,sl,hF,hM,hRow⟩:=h
  refine cutF (fun a w=>∃ R sl,Fr 78 [(0,.string (mkS x)),(2,.pointer (some ⟨b2,0,none⟩)),(4,.pointer (some ⟨b4,0,none⟩)),(6,sl),(7,.int .i64 (k - fd.length))] a∧Mem w0.heap.size w0 ((b4,58,NUML neg [] 0)::(b2,58,NUML false [] 0)::R) w∧Row 5 1 R sl (I++fd).length (u8s (I++fd))∧ -1000000000000000≤k∧k≤1000000000000000) (fun a w h=> ?_) ?_
  ·
   clear hF hM
   obtain ⟨R,sl,hF,hM,hRow,hkb1,hkb2⟩:=h
   have hfd:fd.length≤65536:=by omega
   have hDl:(I++fd).length≤65536:=by rw [List.length_append];omega
   obtain ⟨g,cap,rfl,hcp1,hcp2,hBt⟩:=row_bts hRow rfl (by rw [List.length_append];omega) hM (by intro z hz;simp [hz])
   revert a;refine Sq (Rg (Mv 2 rfl (Cm hM rfl rfl rfl (bare_walk _ (hIg.append hfg) (by omega) hcp1 hcp2 (by omega) hBt) ?_)))
   clear hM;intro w v hR hM hBe
   obtain ⟨D',p',rfl,hbr,hDl2,hbig,hp1,hp2⟩:=hR
   refine Mv 4 rfl (St hM 0 rfl ?_)
   clear hM;intro w hM
   refine Mv 1 rfl (St hM 0 rfl ?_)
   clear hM;intro w hM
   refine Md 0 [2,4] rfl (Nx (Sq (Rg ?_)));intro a hF
   refine op_loadA hF hM rfl 0 rfl rfl rfl Tryz.underlying58 rfl (by kernel_rfl) rfl rfl ?_;clear hF a;intro a hF
   refine op_storeA hF hM rfl 1 rfl rfl (by kernel_rfl) rfl rfl rfl rfl (rfl) ?_;clear hF hM a;intro a w hF hM
   revert a;refine Md 1 [2,3] rfl (Nx (Re ?_));intro a hF
   exact retMany (vs:=[_,_]) hF hM rfl rfl (.cell 1 rfl rfl Tryz.underlying58 rfl (by kernel_rfl) (.tmp rfl .nil)) ⟨_,rfl,⟨neg,D',p',true,rfl,fun _=>⟨hbr,by rw [List.length_append] at hDl2;omega,hbig,by omega,by omega⟩⟩,hM.below⟩
  revert a;refine Sq (Rg (Md 4 [0,2,4,5,6,7,54] rfl (Nx (Ce rfl (fun ht=> ?_) ((fun ht=> ?_))))))
  ·
   have hk0:k=0:=by rcases hex with ⟨_,h⟩ | ⟨c,pw,_,_,_,hE,_⟩;exact h;(rw [hE] at hxl;simp at hxl;have:=of_decide_eq_false ht;omega)
   refine Sk (Kp [0,2,4,6,7] rfl ?_);intro a hF
   exact ⟨R,sl,by rw [hk0,Int.zero_sub];exact hF,hM,hRow,by omega,by omega⟩
  obtain ⟨c,pw,ng,ds,hcc,hE,hpw,hk⟩:∃ c pw neg ds,(c=101∨c=69)∧E=c::pw∧PwOf pw neg ds∧k=sgn neg (worth ds):=by rcases hex with ⟨h,_⟩ | h;(rw [h] at hxl;simp at hxl;have:=of_decide_eq_true ht;omega);exact h
  have hEl:E.length=pw.length+1:=by rw [hE];rfl
  have hpl:pw.length<x.length:=by rw [hE] at hxl;simp at hxl;omega
  have hdrop:=(hgetE c pw hE).2
  refine Sq (Rg (Mv 2 rfl (Sm (((P+M.length+1:Nat):Int)) rfl (by omega) ?_)));intro a hF
  refine op_sliceFrom_str hF rfl (P+M.length+1) rfl rfl rfl Tryz.underlying9 rfl rfl (by first | rfl | omega) (by omega) ?_;clear hF a;intro a hF
  revert a;refine Cm hM rfl rfl rfl (signed_walk _ ds ng (by rw [hdrop];exact hpw) (by rw [hdrop];omega) _) ?_
  clear hM;intro w v hR hM hBe
  obtain ⟨z,ok,rfl,hzk⟩:=hR
  refine Md 5 [0,2,4,6,7,9,10] rfl (Nx (Sq (Sq ?_)))
  rcases ok with _ | _
  ·
   refine Rg (Md 2 [0,2,4,6,7,9,64] rfl (Nx (Ct rfl (Sq (Rg (Gv rfl (fun _ hF=>gives_build (parts:=[]) (vals:=[]) (cells:=NUML false [] 0) hF rfl rfl (by unfold NUML;kernel_rfl) _) ?_))))));intro a hF
   refine op_storeA hF hM rfl 1 rfl rfl (by kernel_rfl) rfl rfl rfl rfl (rfl) ?_;clear hF hM a;intro a w hF hM
   revert a;refine Md 1 [2,3] rfl (Nx (Re (Rt (Rt ?_))));intro a hF
   exact retMany (vs:=[_,_]) hF hM rfl rfl (.cell 1 rfl rfl Tryz.underlying58 rfl (by kernel_rfl) (.tmp rfl .nil)) ⟨_,rfl,⟨false,[],0,false,rfl,fun h=>absurd h (by decide)⟩,hM.below⟩
  obtain ⟨hz,hw15⟩:=hzk rfl
  have hzk2:z=k:=by rw [hz,hk];rfl
  have hkb: -1000000000000000≤k∧k≤1000000000000000:=by rw [←hzk2,hz];split <;> omega
  refine Rg (Md 2 [0,2,4,6,7,9,64] rfl (Nx (Cf rfl (Sk (Nx (Rg (Mv 2 rfl (Sm ((k - fd.length)) rfl (by omega) (Md 1 [0,2,4,6,7] rfl ?_)))))))));intro a hF
  exact ⟨R,sl,hF,hM,hRow,hkb⟩
 revert a;refine Bo (Kp [0,2,4,5,6,7,8] rfl ?_);intro a hF
 refine loopX (fun (j:Nat) a w=>∃ D fr seen R sl,Fr 78 [(0,.string (mkS x)),(2,.pointer (some ⟨b2,0,none⟩)),(4,.pointer (some ⟨b4,0,none⟩)),(5,.int .i64 ((P+j:Nat):Int)),(6,sl),(7,.int .i64 (-((fr:Nat):Int))),(8,.bool seen)] a∧Mem w0.heap.size w0 ((b4,58,NUML neg [] 0)::(b2,58,NUML false [] 0)::R) w∧Row 5 1 R sl D.length (u8s D)∧Rdg I fd j D fr seen∧j≤M.length) (fun j=>M.length - j) (0) ?_ (fun j a w hI=> ?_)
 · exact ⟨[],0,false,[],_,hF,hM,.nil _ _,.inl ⟨rfl,Nat.zero_le _,rfl,rfl⟩,Nat.zero_le _⟩
 clear hF hM
 obtain ⟨D,fr,seen,R,sl,hF,hM,hRow,hst,hjM⟩:=hI
 have hsl2:=hst.len
 revert a;refine Sq (Sq ?_)
 rcases (show (∃ c,M[j]?=some c∧isDig c=true∧Rdg I fd (j+1) (D++ [c]) (if seen then fr+1 else fr) seen)∨(M[j]?=some 46∧Rdg I fd (j+1) D fr true)∨(j=M.length∧D=I++fd∧fr=fd.length∧E=[])∨(j=M.length∧D=I++fd∧fr=fd.length∧∃ c r,E=c::r∧c=101)∨(j=M.length∧D=I++fd∧fr=fd.length∧∃ c r,E=c::r∧c≠101∧c=69) by rw [hM0];rcases hst.cases hIg hfg with h | h | ⟨h1,h2,h3⟩;exact .inl h;exact .inr (.inl h);rcases hex with ⟨h4,_⟩ | ⟨c,pw,ng,ds,h4,h5,_⟩;exact .inr (.inr (.inl ⟨h1,h2,h3,h4⟩));rcases h4 with h4 | h4;exact .inr (.inr (.inr (.inl ⟨h1,h2,h3,c,pw,h5,h4⟩)));exact .inr (.inr (.inr (.inr ⟨h1,h2,h3,c,pw,h5,by rw [h4];decide,h4⟩)))) with ⟨c,hMc,hcd,hst2⟩ | ⟨hMc,hst2⟩ | ⟨hjm,hD,hfr,hE⟩ | ⟨hjm,hD,hfr,c,r,hE,hcE⟩ | ⟨hjm,hD,hfr,c,r,hE,hcE0,hcE⟩
 ·
  have hj1:j+1≤M.length:=(List.getElem?_eq_some_iff.1 hMc).1
  have hg:=hget j c hMc
  obtain ⟨h46,h101,h69,_⟩:=dig_not hcd
  refine Rg (Mv 3 rfl (Bt rfl (by omega) (Mv 3 rfl (Ix (P+j) c rfl hg (by omega) (Mv 1 rfl ?_)))));intro a hF
  rw [bne_t (d:=101) (z:=101) rfl h101] at hF
  revert a;refine Mv 4 rfl (Ix (P+j) c rfl hg (by omega) (Mv 1 rfl ?_));intro a hF
  rw [bne_t (d:=69) (z:=69) rfl h69] at hF
  revert a;refine Md 1 [0,2,4,5,6,7,8,35] rfl (Nx (Ct rfl (Sk (Nx (Sq (Bo (Sq (Sq (Rg (Mv 2 rfl (Ix (P+j) c rfl hg (by omega) (Qf 46 rfl rfl h46 (Md 0 [0,2,4,5,6,7,8,41] rfl (Nx (Cf rfl (Sk (Nx (Sq (Rg (Mv 3 rfl (Ix (P+j) c rfl hg (by omega) ?_)))))))))))))))))))));intro a hF
  refine op_buildS hF hM elt66 rfl rfl rfl rfl rfl rfl rfl (by decide) ?_;clear hF hM a;intro a w bb hF hM
  replace hM:=hM.perm (L':=R++((bb,5,[.int .u8 (c.toNat:Int)])::(b4,58,NUML neg [] 0)::(b2,58,NUML false [] 0)::[])) (pc fun x=>by simp [ct,ct_append] <;> omega)
  refine op_appendR hF elt66 hRow hM (sl_one (cs:=[.int .u8 (c.toNat:Int)]) rfl) (fun z hz=>by rw [List.mem_singleton.1 hz];exact List.mem_cons_self ..) (by intro u hu;rw [List.mem_singleton.1 hu];rfl) (by omega) rfl rfl rfl rfl rfl rfl ?_;clear hF hM a;intro a w R2 sl2 hF hRow2 hM
  replace hM:=hM.sub (L':=(b4,58,NUML neg [] 0)::(b2,58,NUML false [] 0)::R2) [(bb,5,[.int .u8 (c.toNat:Int)])] (pc fun x=>by simp [ct,ct_append] <;> omega)
  revert a;refine Md 1 [0,2,4,5,6,7,8] rfl (Nx (Sq (Rg (Md 1 [0,2,4,5,6,7,8,48] rfl (Nx (Ce rfl (fun ht=> ?_) ((fun ht=> ?_))))))))
  ·
   have hseen:seen=false:=ht
   refine Sk (Nb (Nx (Rg (Mv 1 rfl (Sm (((P+(j+1):Nat):Int)) rfl (by omega) (Md 1 [0,2,4,5,6,7,8] rfl ?_))))));intro a hF
   exact ⟨j+1,⟨D++ [c],fr,false,R2,sl2,by simpa [hseen] using hF,hM,by simpa [u8s] using hRow2,by simpa [hseen] using hst2,hj1⟩,by omega⟩
  have hseen:seen=true:=ht
  refine Rg (Mv 1 rfl (Sm ((-((fr+1:Nat):Int))) rfl (by omega) (Md 1 [0,2,4,5,6,7,8] rfl (Nb (Nx (Rg (Mv 1 rfl (Sm (((P+(j+1):Nat):Int)) rfl (by omega) (Md 1 [0,2,4,5,6,7,8] rfl ?_)))))))));intro a hF
  exact ⟨j+1,⟨D++ [c],fr+1,true,R2,sl2,by simpa [hseen] using hF,hM,by simpa [u8s] using hRow2,by simpa [hseen] using hst2,hj1⟩,by omega⟩
 ·
  have hj1:j+1≤M.length:=(List.getElem?_eq_some_iff.1 hMc).1
  obtain ⟨c,hc46⟩:∃ c:UInt8,c=46:=⟨_,rfl⟩
  rw [←hc46] at hMc
  have hg:=hget j c hMc
  have h101:c≠101:=by rw [hc46];decide
  have h69:c≠69:=by rw [hc46];decide
  refine Rg (Mv 3 rfl (Bt rfl (by omega) (Mv 3 rfl (Ix (P+j) c rfl hg (by omega) (Mv 1 rfl ?_)))));intro a hF
  rw [bne_t (d:=101) (z:=101) rfl h101] at hF
  revert a;refine Mv 4 rfl (Ix (P+j) c rfl hg (by omega) (Mv 1 rfl ?_));intro a hF
  rw [bne_t (d:=69) (z:=69) rfl h69] at hF
  revert a;refine Md 1 [0,2,4,5,6,7,8,35] rfl (Nx (Ct rfl (Sk (Nx (Sq (Bo (Sq (Sq (Rg (Mv 2 rfl (Ix (P+j) c rfl hg (by omega) (Qt 46 rfl rfl hc46 (Md 0 [0,2,4,5,6,7,8,41] rfl (Nx (Ct rfl (Sq (Rg (Md 1 [0,2,4,5,6,7,8] rfl (Nx (Ex (Ot (Ob (Nx (Rg (Mv 1 rfl (Sm (((P+(j+1):Nat):Int)) rfl (by omega) (Md 1 [0,2,4,5,6,7,8] rfl ?_)))))))))))))))))))))))))));intro a hF
  exact ⟨j+1,⟨D,fr,true,R,sl,hF,hM,hRow,hst2,hj1⟩,by omega⟩
 ·
  subst hjm hD hfr
  have hEl:E.length=0:=by rw [hE];rfl
  refine Rg (Mv 3 rfl (Bf rfl (by omega) (Md 12 [0,2,4,5,6,7,8,35] rfl (Nx (Cf rfl (Ex (Ot (Ot (Ob (Kp [0,2,4,5,6,7] rfl ?_))))))))));intro a hF
  exact ⟨R,sl,hF,hM,hRow⟩
 ·
  subst hjm hD hfr
  have hEl:0<E.length:=by rw [hE];simp
  have hg:=(hgetE c r hE).1
  refine Rg (Mv 3 rfl (Bt rfl (by omega) (Mv 3 rfl (Ix (P+M.length) c rfl hg (by omega) (Mv 1 rfl ?_)))));intro a hF
  rw [bne_f (d:=101) (z:=101) rfl hcE] at hF
  revert a;refine Md 7 [0,2,4,5,6,7,8,35] rfl (Nx (Cf rfl (Ex (Ot (Ot (Ob (Kp [0,2,4,5,6,7] rfl ?_)))))));intro a hF
  exact ⟨R,sl,hF,hM,hRow⟩
 subst hjm hD hfr
 have hEl:0<E.length:=by rw [hE];simp
 have hg:=(hgetE c r hE).1
 refine Rg (Mv 3 rfl (Bt rfl (by omega) (Mv 3 rfl (Ix (P+M.length) c rfl hg (by omega) (Mv 1 rfl ?_)))));intro a hF
 rw [bne_t (d:=101) (z:=101) rfl hcE0] at hF
 revert a;refine Mv 4 rfl (Ix (P+M.length) c rfl hg (by omega) (Mv 1 rfl ?_));intro a hF
 rw [bne_f (d:=69) (z:=69) rfl hcE] at hF
 revert a;refine Md 1 [0,2,4,5,6,7,8,35] rfl (Nx (Cf rfl (Ex (Ot (Ot (Ob (Kp [0,2,4,5,6,7] rfl ?_)))))));intro a hF
 exact ⟨R,sl,hF,hM,hRow⟩
theorem nearestTo_walk {x:Str}{neg:Bool}{I fd E:Str}{k:Int}(hx:IsNum x) (hf:NumForm x neg I fd E k) (hl:x.length≤65536) (w0:World):
    Calls Tryz.prog 10 #[.string (mkS x)] w0 (Ret fun v w'=>(∃ (b:Nat) (ok:Bool),v= .tuple #[.float .f64 b,.bool ok]∧(ok=true→x.length≤800∧∃ (ng:Bool) (z:Nat),b=(if ng then z+2^63 else z)∧z≤9218868437227405312∧(z=9218868437227405312↔BigX I fd k)))∧Below w0.heap.size w0 w'):=by
 have hM:=MS0 w0
 refine enter (l:=[.string (mkS x)]) 19 Tryz.func10 rfl rfl (Sq (Rg (Md 2 [0] rfl (Nx (Sq (Rg (Mv 1 rfl (Cm hM rfl rfl rfl (value_walk hx hf hl _) ?_))))))))
 clear hM;intro w v hR hM hBe
 obtain ⟨ng,D',p',ok,rfl,hok⟩:=hR
 refine Mv 3 rfl ?_;intro a hF
 refine op_alloc hF hM rfl (vs:=NUML false [] 0) rfl rfl rfl (by kernel_rfl) ?_;clear hF hM a;intro a w b4 hF hM
 refine op_storeA hF hM rfl 0 rfl rfl (by kernel_rfl) rfl rfl rfl rfl (rfl) ?_;clear hF hM a;intro a w hF hM
 revert a;refine Md 1 [0,4,5] rfl (Nx (Sq (Sq ?_)))
 rcases ok with _ | _
 · exact Rg (Md 7 [4,17] rfl (Nx (Ct rfl (Sq (Rg (Md 2 [2,3] rfl (Nx (Re (Rt (Y2 rfl rfl rfl ⟨_,rfl,⟨_,_,rfl,fun h=>absurd h (by decide)⟩,hM.below⟩))))))))))
 obtain ⟨hbr,hDl,hbg,hp1,hp2⟩:=hok rfl
 refine Rg (Md 7 [4,17] rfl (Nx (C2 rfl ?_ ((fun ht=> ?_)))))
 ·
  refine Sq (Rg (Md 2 [2,3] rfl (Nx (Re (Rt ?_)))));intro a hF
  exact ret2 hF rfl rfl rfl ⟨_,rfl,⟨_,_,rfl,fun h=>absurd h (by decide)⟩,hM.below⟩
 have hl8:x.length≤800:=by have:=of_decide_eq_false ht;omega
 refine Sk (Nx (Sq (Rg (Gv rfl (fun _ hF=>gives_loadA hF hM 0 rfl Tryz.underlying58 rfl (by kernel_rfl) rfl rfl) (Cl rfl rfl rfl (near_walk ⟨hp1,hp2⟩ hbr (by omega) hM) ?_)))))
 clear hM;intro w v hR
 obtain ⟨z,rfl,hz1,hz2,hM⟩:=hR
 refine Md 2 [2,3] rfl (Nx (Re ?_));intro a hF
 exact ret2 hF rfl rfl rfl ⟨_,rfl,⟨_,_,rfl,fun _=>⟨hl8,ng,z,rfl,hz1,hz2.trans hbg⟩⟩,hM.below⟩
theorem bool2u_walk (x:Bool) (w0:World):
    Calls Tryz.prog 214 #[.bool x] w0 (Ret fun v w'=>(v= .int .u64 (if x then 1 else 0))∧Below w0.heap.size w0 w'):=by
 have hM:=MS0 w0
 refine enter (l:=[.bool x]) 3 Tryz.func214 rfl rfl (Sq (Rg (Md 1 [0] rfl (Nx (Sq (Sq (Rg (Md 1 [3] rfl (Nx (Cd rfl (fun ht=> ?_) ((fun ht=> ?_))))))))))))
 ·
  subst ht
  exact Sq (Rg (Md 1 [2] rfl (Nx (Re (Rt (Y1 rfl rfl ⟨_,rfl,rfl,hM.below⟩))))))
 subst ht
 exact Sk (Nx (Sq (Rg (Md 1 [2] rfl (Nx (Re (Y1 rfl rfl ⟨_,rfl,rfl,hM.below⟩)))))))
theorem bool2i_walk (x:Bool) (w0:World):
    Calls Tryz.prog 232 #[.bool x] w0 (Ret fun v w'=>(v= .int .i64 (if x then 1 else 0))∧Below w0.heap.size w0 w'):=by
 have hM:=MS0 w0
 refine enter (l:=[.bool x]) 3 Tryz.func232 rfl rfl (Sq (Rg (Md 1 [0] rfl (Nx (Sq (Sq (Rg (Md 1 [3] rfl (Nx (Cd rfl (fun ht=> ?_) ((fun ht=> ?_))))))))))))
 ·
  subst ht
  exact Sq (Rg (Md 1 [2] rfl (Nx (Re (Rt (Y1 rfl rfl ⟨_,rfl,rfl,hM.below⟩))))))
 subst ht
 exact Sk (Nx (Sq (Rg (Md 1 [2] rfl (Nx (Re (Y1 rfl rfl ⟨_,rfl,rfl,hM.below⟩)))))))
theorem lower_walk (c:UInt8) (w:World):Calls Tryz.prog 128 #[.int .u8 (c.toNat:Int)] w (Ret fun v w'=>v= .int .u8 ((c.toNat ||| 32:Nat):Int)∧Below w.heap.size w w'):=by
 refine enter (l:=[.int .u8 (c.toNat:Int)]) 4 Tryz.func128 rfl rfl (Sq (Rg (Md 1 [0] rfl (Nx (Sq (Rg (Mv 1 rfl ?_)))))));intro a hF
 refine op_bits hF rfl _ rfl rfl rfl rfl rfl (or_u8 (p:=c.toNat) (q:=32) c.toNat_lt (by decide)) ?_;clear hF a;intro a hF
 revert a;exact Md 1 [2] rfl (Nx (Re (Y1 rfl rfl ⟨_,rfl,rfl,Below.refl _ _⟩)))
theorem numc_x:∀ n:Nat,n<256→numc n.toUInt8=true→n≠95∧(n ||| 32)≠120:=by decide+kernel
theorem numc_no95 {c:UInt8}(h:numc c=true):c≠95:=by rintro rfl;exact absurd h (by decide)
theorem numc_nox {c:UInt8}(h:numc c=true):(((c.toNat ||| 32:Nat):Int)==120)=false:=by
  have:=(numc_x c.toNat c.toNat_lt (by rw [show c.toNat.toUInt8=c by simp];exact h)).2
  simp only [beq_eq_false_iff_ne,ne_eq]
  omega
def lenTab:List UInt8:=[0,1]++List.replicate 2 2++List.replicate 4 3++List.replicate 8 4++List.replicate 16 5++List.replicate 32 6++List.replicate 64 7++List.replicate 128 8

end Go.Sx