/- Part 9 of the proof of FnJrTyped: the statement Rows.FnJrTypedCardSaid; no further condition. -/
import Derived.Test.YtelonenjneonlaaGreatDoorR08
import Derived.LaidEql
import Derived.Laws.AppendOwn
import Derived.Laws.IdiomCopy
set_option linter.all false
set_option maxRecDepth 100000
namespace Go.Sx
open Go.RowKit Go.Proofs Js Go.Proofs.YtelonenjneonlaaGreatDoorW.PrintWords
section
variable {n:Nat}{K:List (Nat×Value)}{a:Act}{w:World}{Q:Exit→Act→World→Prop}{ops:Array Oper}{rest:List Oper}{o:Oper}{B:Nat}{w0:World}{L:List Bk}
theorem mem_setCellsT {tb:TypeId}:∀ (cs:List Value) (k:Nat) {b:Nat}{vs:List Value}{w:World},Mem B w0 ((b,tb,vs)::L) w→Mem B w0 ((b,tb,setL vs k cs)::L) (w.setCells b k cs)
  | [],_,_,_,_,hM=>hM
  | c::cs,k,b,vs,w,hM=>mem_setCellsT cs (k+1) (hM.set (k:=0) rfl k c)
theorem op_copyB (hF:Fr n K a) {b2 oj dl c2 b off c:Nat}{tb:TypeId}{vs:List Value}{bs:List UInt8}(j:Nat) (hM:Mem B w0 ((b2,tb,vs)::L) w) (hg:o.guard=none) {d:Nat}{x y:Operand}(hD:Bts w b off bs) (hd:o.dst=some d) (hlt:Nat.blt d n=true)
    (hop:o.op= .call {callee:= .builtin .copy,args:= #[x,y],argTypes:= #[66,66]}) (hx:ev K x=some (.slice (some ⟨b2,oj,none⟩) dl c2)) (hy:ev K y=some (.slice (some ⟨b,off,none⟩) bs.length c)) (hl:bs.length≤dl) (hoj:bs≠ []→oj=j) (hv:j+bs.length≤vs.length)
    (h:∀ a' w' v,Fr n ((d,v)::K) a'→Mem B w0 ((b2,tb,vs.take j++u8s bs++vs.drop (j+bs.length))::L) w'→wpList Tryz.prog ops Q rest a' w'):wpList Tryz.prog ops Q (o::rest) a w:=by
  obtain ⟨i,hi,hz,hz1,hz2⟩:=info5
  have hsz:(Tryz.prog.info? 5).map (·.size)=some 1:=by rw [hi];simp [hz1]
  rcases Classical.em (bs=[]) with h0 | h0
  · subst h0
    have e:=run_copy_none (P:=Tryz.prog) w 66 66 o.type 5 (some ⟨b2,oj,none⟩) (some ⟨b,off,none⟩) dl c2 ([]:List UInt8).length c Tryz.underlying66 hsz (by simp)
    refine op_run hF hg (goInt 0) (w':=w) hd hlt ?_ (fun a' hF'=>h a' _ _ hF' (by simpa [u8s] using hM))
    simp only [execOp,hop,resolve,invoke,builtin,List.map_toArray,List.map_cons,List.map_nil,hF.ev hx,hF.ev hy]
    simp only [List.length_nil] at e
    simp [e]
  · obtain rfl:=hoj h0
    have hb:=(hM.blk (k:=0) rfl).2
    have hadd:∀ j,(⟨b,off,none⟩:Addr).add j=⟨b,off+j,none⟩:=fun j=>by unfold Addr.add;split <;> simp_all
    have hul:(u8s bs).length=bs.length:=u8s_length bs
    have e:=run_copy_cells (P:=Tryz.prog) w 66 66 o.type 5 b2 oj dl c2 ⟨b,off,none⟩ bs.length c (u8s bs) Tryz.underlying66 hsz (by rw [hul];exact (Nat.min_eq_left hl).symm)
      (fun j v hj=>by
        rw [hadd]
        simp only [u8s,List.getElem?_map,Option.map_eq_some_iff] at hj
        obtain ⟨u,hu,rfl⟩:=hj
        exact hD.2 j u hu)
      (fun j hj=>by rw [blk_cell hb];simp;omega) (fun j _=>blk_frozen hb _) (u8s_one bs)
    have hM':=mem_setCellsT (u8s bs) oj hM
    rw [setL_eq (u8s bs) vs oj (by rw [hul];exact hv),hul] at hM'
    refine op_run hF hg (goInt (u8s bs).length) (w':=w.setCells b2 oj (u8s bs)) hd hlt ?_ (fun a' hF'=>h a' _ _ hF' hM')
    simp only [execOp,hop,resolve,invoke,builtin,List.map_toArray,List.map_cons,List.map_nil,hF.ev hx,hF.ev hy]
    simp [e]
theorem gives_slT {x j:Operand}{t e:TypeId}{b off l c:Nat}{k':IntKind}{z:Int}(q:Nat) (hF:Fr n K a) (hop:o.op= .slice t x none (some j) none) (hT:Tryz.prog.underlying t=some (.slice e)) (hs:(Tryz.prog.info? e).map (·.size)=some 1)
    (hx:ev K x=some (.slice (some ⟨b,off,none⟩) l c)) (hj:ev K j=some (.int k' z)) (hz:z=(q:Int)) (hq:q≤c) (w:World):(execOp a.eval o).run Tryz.prog w= .ok (.value (.slice (some ⟨b,off,none⟩) q c)) w:=by
  subst hz
  obtain ⟨ie,he,hsz⟩:=Option.map_eq_some_iff.1 hs
  have hadd:(⟨b,off,none⟩:Addr).add 0=⟨b,off,none⟩:=by unfold Addr.add;split <;> simp_all
  have e:(Instr.slice t (.slice (some ⟨b,off,none⟩) l c) none (some (.int k' (q:Int))) none).run Tryz.prog w= .ok (.slice (some ⟨b,off,none⟩) q c) w:=by
    simp [Instr.slice,Instr.sliceBounds,Instr.sliceBound,asIntOf,run_underlying hT,hq,sizeOf,typeInfo,he,hsz,hadd]
  simp only [execOp,hop,Option.map_some,Option.map_none,hF.ev hx,hF.ev hj,Instr.sliceAt]
  simp [run_underlying hT,e]
end
def LyB (wc:World) (TB:List Bk) (v:Value) (D:Str):Prop:=(∃ b o c,v= .slice (some ⟨b,o,none⟩) D.length c∧Bts wc b o D)∨(∃ b c t cs,v= .slice (some ⟨b,0,none⟩) D.length c∧(b,t,cs)∈TB∧cs.take D.length=u8s D)
theorem LyB.mono {wc:World}{TB TB':List Bk}{v:Value}{D:Str}(h:LyB wc TB v D) (hs:TB⊆TB'):LyB wc TB' v D:=
  h.imp id fun ⟨b,c,t,cs,h1,h2,h3⟩=>⟨b,c,t,cs,h1,hs h2,h3⟩
theorem LyB.bts {wc w:World}{TB L:List Bk}{v:Value}{D:Str}(h:LyB wc TB v D) (hM:Mem wc.heap.size wc L w) (hs:TB⊆L):∃ b o c,v= .slice (some ⟨b,o,none⟩) D.length c∧Bts w b o D:=by
  rcases h with ⟨b,o,c,h1,h2⟩ | ⟨b,c,t,cs,h1,h2,h3⟩
  · exact ⟨b,o,c,h1,h2.below hM.below⟩
  · obtain ⟨k,hk⟩:=List.mem_iff_getElem?.1 (hs h2)
    have hb:=(hM.blk hk).2
    refine ⟨b,0,c,h1,?_,fun j u hj=> ?_⟩
    · rcases Nat.lt_or_ge b w.heap.size with h | h
      · exact h
      · rw [Array.getElem?_eq_none h] at hb;cases hb
    · rw [Nat.zero_add,blk_cell hb]
      have hl:j<D.length:=(List.getElem?_eq_some_iff.1 hj).1
      have e:(cs.take D.length)[j]?=(u8s D)[j]?:=by rw [h3]
      rw [List.getElem?_take,if_pos hl] at e
      simp only [List.getElem?_toArray,e,u8s,List.getElem?_map,hj,Option.map_some]
theorem gives_cap {n:Nat}{K:List (Nat×Value)}{a:Act}{o:Oper}{x:Operand}{t e:TypeId}{ad:Option Addr}{l c:Nat}(hF:Fr n K a) (hop:o.op= .call {callee:= .builtin .cap,args:= #[x],argTypes:= #[t]}) (hT:Tryz.prog.underlying t=some (.slice e)) (hx:ev K x=some (.slice ad l c)) (w:World):
    (execOp a.eval o).run Tryz.prog w= .ok (.value (.int .i64 (c:Int))) w:=by
  simp only [execOp,hop,resolve,invoke,builtin,List.map_toArray,List.map_cons,List.map_nil,hF.ev hx]
  simp [Builtin.cap_,run_underlying hT,goInt]
end Go.Sx
namespace Js
theorem Sk.next {ks:List Str}{L K:Nat}{lm:Bool}{c:UInt8}{r:Str}{R:Nat}(h:Sk ks L K lm (c::r) R) (h34:c≠34) (h123:c≠123) (h91:c≠91):(∃ R',R=R'+1∧Sk ks L K lm r R')∧c≠125∧c≠58:=by
  generalize hs:c::r=s at h
  cases h with
  | plain hp hr=>injection hs with a b;subst a b;exact ⟨⟨_,rfl,hr⟩,hp.2.2.1,hp.2.2.2.2⟩
  | text=>injection hs with a b;exact absurd a h34
  | hit=>injection hs with a b;exact absurd a h34
  | go=>injection hs with a b;exact absurd a h34
  | miss=>injection hs with a b;exact absurd a h34
  | opn=>injection hs with a b;exact absurd a h123
  | obj=>injection hs with a b;exact absurd a h123
  | arr=>injection hs with a b;exact absurd a h91
  | idx0=>injection hs with a b;exact absurd a h91
  | idx=>injection hs with a b;exact absurd a h91
theorem Sk.str {ks:List Str}{L K:Nat}{lm:Bool}{z:Str}{R:Nat}(h:Sk ks L K lm (34::z) R):∃ i w c r,z=i++34::(w++c::r)∧Quo i∧Bl w∧isBlank c=false∧
    ((c≠58∧∃ R',R=R'+(i.length+2+w.length)∧Sk ks L K lm (c::r) R')∨
     (c=58∧Ins i∧L=K+1∧∃ k,ks[K]?=some k∧((unq i=k∧K+1=ks.length∧R=i.length+2+w.length+1)∨(unq i=k∧K+1<ks.length∧∃ R',R=R'+(i.length+2+w.length+1)∧Sk ks (K+1) (K+1) true r R')∨
      (unq i≠k∧∃ R',R=R'+(i.length+2+w.length+1)∧Sk ks (K+1) K false r R')))):=by
  generalize hs:34::z=s at h
  cases h with
  | plain hp hr=>injection hs with a b;exact absurd a.symm hp.1
  | text hi hw hc h58 hr=>injection hs with a b;exact ⟨_,_,_,_,b,hi,hw,hc,.inl ⟨h58,_,rfl,hr⟩⟩
  | hit hi hw hk hl=>injection hs with a b;exact ⟨_,_,_,_,b,hi.quo,hw,by decide,.inr ⟨rfl,hi,rfl,_,hk,.inl ⟨rfl,hl,rfl⟩⟩⟩
  | go hi hw hk hl hr=>injection hs with a b;exact ⟨_,_,_,_,b,hi.quo,hw,by decide,.inr ⟨rfl,hi,rfl,_,hk,.inr (.inl ⟨rfl,hl,_,rfl,hr⟩)⟩⟩
  | miss hi hw hk hne hr=>injection hs with a b;exact ⟨_,_,_,_,b,hi.quo,hw,by decide,.inr ⟨rfl,hi,rfl,_,hk,.inr (.inr ⟨hne,_,rfl,hr⟩)⟩⟩
  | opn=>injection hs with a b;exact absurd a (by decide)
  | obj=>injection hs with a b;exact absurd a (by decide)
  | arr=>injection hs with a b;exact absurd a (by decide)
  | idx0=>injection hs with a b;exact absurd a (by decide)
  | idx=>injection hs with a b;exact absurd a (by decide)
theorem Sk.brace {ks:List Str}{L K:Nat}{lm:Bool}{r:Str}{R:Nat}(h:Sk ks L K lm (123::r) R):(lm=true∧∃ R',R=R'+1∧Sk ks (L+1) K true r R')∨(lm=false∧∃ k R',Nst 123 125 0 (123::r) k∧R=R'+k∧Sk ks L K false ((123::r).drop k) R'):=by
  generalize hs:123::r=s at h
  cases h with
  | plain hp hr=>injection hs with a b;exact absurd a.symm hp.2.1
  | text=>injection hs with a b;exact absurd a (by decide)
  | hit=>injection hs with a b;exact absurd a (by decide)
  | go=>injection hs with a b;exact absurd a (by decide)
  | miss=>injection hs with a b;exact absurd a (by decide)
  | opn hr=>injection hs with a b;subst b;exact .inl ⟨rfl,_,rfl,hr⟩
  | obj hn hr=>exact .inr ⟨rfl,_,_,hn,rfl,hr⟩
  | arr=>injection hs with a b;exact absurd a (by decide)
  | idx0=>injection hs with a b;exact absurd a (by decide)
  | idx=>injection hs with a b;exact absurd a (by decide)
theorem Sk.brack {ks:List Str}{L K:Nat}{lm:Bool}{r:Str}{R:Nat}(h:Sk ks L K lm (91::r) R):(K<L∧∃ k R',Nst 91 93 0 (91::r) k∧R=R'+k∧Sk ks L K lm ((91::r).drop k) R')∨
    (K=L∧∃ ds items o v n,ks[L]?=some (91::(ds++ [93]))∧idxok ds=true∧ds.length≤18∧El r items∧items[worth ds]?=some (o,v,n)∧((ks.length=L+1∧R=1+o)∨(L+1<ks.length∧∃ R',R=1+o+R'∧Sk (ks.drop (L+1)) 0 0 true v R'))):=by
  generalize hs:91::r=s at h
  cases h with
  | plain hp hr=>injection hs with a b;exact absurd a.symm hp.2.2.2.1
  | text=>injection hs with a b;exact absurd a (by decide)
  | hit=>injection hs with a b;exact absurd a (by decide)
  | go=>injection hs with a b;exact absurd a (by decide)
  | miss=>injection hs with a b;exact absurd a (by decide)
  | opn hr=>injection hs with a b;exact absurd a (by decide)
  | obj hn hr=>injection hs with a b;exact absurd a (by decide)
  | arr hK hn hr=>exact .inl ⟨hK,_,_,hn,rfl,hr⟩
  | idx0 hk hd hd8 he hv hl=>injection hs with a b;subst b;exact .inr ⟨rfl,_,_,_,_,_,hk,hd,hd8,he,hv,.inl ⟨hl,rfl⟩⟩
  | idx hk hd hd8 he hv hl hr=>injection hs with a b;subst b;exact .inr ⟨rfl,_,_,_,_,_,hk,hd,hd8,he,hv,.inr ⟨hl,_,rfl,hr⟩⟩
theorem Sk.cons {ks:List Str}{L K:Nat}{lm:Bool}{s:Str}{R:Nat}(h:Sk ks L K lm s R):∃ c r,s=c::r:=by cases h <;> exact ⟨_,_,rfl⟩
theorem El.at_ {s:Str}{l:List (Nat×Str×Nd)}(h:El s l):∀ {j o:Nat}{v:Str}{n:Nd},l[j]?=some (o,v,n)→∃ r,s.drop o=v++r∧o+v.length≤s.length∧Shows v (.v n):=by
  induction h with
  | @one w1 t w2 r n h1 h h2 =>
    intro j o v n' hj
    cases j with
    | zero =>
      simp only [List.getElem?_cons_zero,Option.some.injEq,Prod.mk.injEq] at hj
      obtain ⟨rfl,rfl,rfl⟩:=hj
      exact ⟨_,List.drop_left,by simp,h⟩
    | succ j=>simp at hj
  | @more w1 t w2 r n l h1 h h2 hr ih =>
    intro j o v n' hj
    cases j with
    | zero =>
      simp only [List.getElem?_cons_zero,Option.some.injEq,Prod.mk.injEq] at hj
      obtain ⟨rfl,rfl,rfl⟩:=hj
      exact ⟨_,List.drop_left,by simp,h⟩
    | succ j =>
      simp only [List.getElem?_cons_succ,List.getElem?_map,Option.map_eq_some_iff] at hj
      obtain ⟨⟨o',v',n''⟩,hx,he⟩:=hj
      simp only [Prod.mk.injEq] at he
      obtain ⟨rfl,rfl,rfl⟩:=he
      obtain ⟨r',h3,h4,h5⟩:=ih hx
      refine ⟨r',?_,by simp;omega,h5⟩
      have e:w1++(t++(w2++44::r))=(w1++(t++(w2++ [44])))++r:=by simp
      rw [e,show w1.length+t.length+w2.length+1+o'=(w1++(t++(w2++ [44]))).length+o' by simp;omega,←List.drop_drop,List.drop_left]
      exact h3
theorem Sk.le {ks:List Str}{L K:Nat}{lm:Bool}{s:Str}{R:Nat}(h:Sk ks L K lm s R):R≤s.length:=by
  induction h with
  | plain _ _ ih=>simp;omega
  | text _ _ _ _ _ ih=>simp at ih ⊢;omega
  | hit=>simp;omega
  | go _ _ _ _ _ ih=>simp;omega
  | miss _ _ _ _ _ ih=>simp;omega
  | opn _ ih=>simp;omega
  | obj hn _ ih=>have:=hn.le;simp at ih this ⊢;omega
  | arr _ hn _ ih=>have:=hn.le;simp at ih this ⊢;omega
  | idx0 _ _ _ he hv _=>obtain ⟨_,_,h,_⟩:=he.at_ hv;simp;omega
  | idx _ _ _ he hv _ _ ih=>obtain ⟨_,_,h,_⟩:=he.at_ hv;simp;omega
end Js
namespace Go.Sx
open Go.RowKit Go.Proofs Js
def Sts (w:World) (g o:Nat) (ks:List Str):Prop:=g<w.heap.size∧∀ j s,ks[j]?=some s→w.cell? ⟨g,o+j,none⟩=some (.string (mkS s))
theorem Sts.below {w w':World}{g o:Nat}{ks:List Str}(h:Sts w g o ks) (hb:Below w.heap.size w w'):Sts w' g o ks:=
  ⟨Nat.lt_of_lt_of_le h.1 hb.size,fun j c hj=>(hb.cell (show g<w.heap.size from h.1)).trans (h.2 j c hj)⟩
theorem Sts.so {w:World}{g o c:Nat}{ks:List Str}(h:Sts w g o ks) (p:Nat) (hc:ks.length≤c):Sts w g (so o p c) (ks.drop p):=by
  unfold Sx.so
  split
  · next e=>rw [List.drop_of_length_le (by omega)];exact ⟨h.1,fun j c hj=>by simp at hj⟩
  · exact ⟨h.1,fun j c hj=>by rw [Nat.add_assoc];exact h.2 _ c (by rw [List.getElem?_drop] at hj;exact hj)⟩
theorem Sts.cell {w w':World}{g o j:Nat}{ks:List Str}{s:Str}{L:List Bk}(h:Sts w g o ks) (hM:Mem w.heap.size w L w') (hj:ks[j]?=some s):w'.cell? ⟨g,o+j*1,none⟩=some (.string (mkS s)):=by
  rw [Nat.mul_one];exact (hM.below.cell (show g<w.heap.size from h.1)).trans (h.2 j s hj)
section
variable {n:Nat}{K:List (Nat×Value)}{a:Act}{o:Oper}{P:Program}
theorem gives_makeFunc {f:FuncId}{l:List Operand}{vals:List Value}(hF:Fr n K a) (hop:o.op= .makeFunc (.func f) #[] l.toArray) (hargs:evs K l=some vals) (w:World):(execOp a.eval o).run P w= .ok (.value (.func (.func f) #[] vals.toArray)) w:=by
  have:=hF.evs l vals hargs
  simp only [execOp,hop,Instr.makeFunc,List.map_toArray,this]
  simp
theorem gives_sliceAll {x:Operand}{t e:TypeId}{b m:Nat}(hF:Fr n K a) (hop:o.op= .slice t x none none none) (hT:Tryz.prog.underlying t=some (.array m e)) (hs:(Tryz.prog.info? e).map (·.size)=some 1) (hx:ev K x=some (.pointer (some ⟨b,0,none⟩))) (w:World):
    (execOp a.eval o).run Tryz.prog w= .ok (.value (.slice (some ⟨b,0,none⟩) m m)) w:=by
  obtain ⟨ie,he,hsz⟩:=Option.map_eq_some_iff.1 hs
  have hadd:(⟨b,0,none⟩:Addr).add 0=⟨b,0,none⟩:=by unfold Addr.add;split <;> simp_all
  simp only [execOp,hop,Option.map_none,hF.ev hx,Instr.sliceAt]
  simp [run_underlying hT,Instr.sureAddr,Instr.sliceBounds,sizeOf,typeInfo,he,hsz,hadd]
theorem gives_eqNilSl {t t' e:TypeId}{x:Operand}{ad:Addr}{l c:Nat}(hF:Fr n K a) (hop:o.op= .binOp .eql t x (.const (.slice none 0 0)) t') (hx:ev K x=some (.slice (some ad) l c)) (hT:P.underlying t=some (.slice e)) (w:World):(execOp a.eval o).run P w= .ok (.value (.bool false)) w:=by
  have e1:∀ m,(Op.equalIn (m+1) t (.slice (some ad) l c) (.slice none 0 0)).run P w= .ok false w:=fun m=>by simp [Op.equalIn,run_underlying hT]
  have e2:(Op.equal t (.slice (some ad) l c) (.slice none 0 0)).run P w= .ok false w:=e1 9999
  have e:(binOp .eql t (.slice (some ad) l c) (.slice none 0 0)).run P w= .ok (.bool false) w:=by
    simp only [binOp,Sem.run_bind,e2,Result.andThen_ok]
    rfl
  have hc:a.eval (.const (.slice none 0 0))= .slice none 0 0:=rfl
  simp only [execOp,hop,hF.ev hx,hc]
  simp [eqGuard,e]
end
section
variable {n:Nat}{K:List (Nat×Value)}{a:Act}{o:Oper}{P:Program}{w:World}{ops:Array Oper}{rest:List Oper}{Q:Exit→Act→World→Prop}{B:Nat}{w0:World}{L:List Bk}
theorem gives_eqEV {t':TypeId}{x y:Operand}{p q:Addr}(hF:Fr n K a) (hop:o.op= .binOp .eql 63 x y t') (hx:ev K x=some (EV p)) (hy:ev K y=some (EV q)) (hp:∃ ca ta,w.heap[p.block]?=some (.cells ca ta (0,0))) (hq:∃ ca ta,w.heap[q.block]?=some (.cells ca ta (0,0))):
    (execOp a.eval o).run Tryz.prog w= .ok (.value (.bool (decide (p=q)))) w:=by
  obtain ⟨ca,ta,hp⟩:=hp
  obtain ⟨cb,tb,hq⟩:=hq
  obtain ⟨ms,hi⟩:∃ ms,Tryz.prog.underlying 63=some (.interface ms):=⟨_,Tryz.underlying63⟩
  obtain ⟨i,hinfo,hcomp⟩:=Option.map_eq_some_iff.1 (show (Tryz.prog.info? 118).map (fun i=>i.comparable)=some true by kernel_rfl)
  obtain ⟨j,hte,hsz0⟩:=Option.map_eq_some_iff.1 (show (Tryz.prog.info? 120).map (fun j=>j.size !=0)=some true by kernel_rfl)
  have hsz:j.size≠0:=by simpa using hsz0
  have e:(binOp .eql 63 (EV p) (EV q)).run Tryz.prog w= .ok (.bool (decide (p=q))) w:=by
    unfold EV
    by_cases h:p=q
    · subst h;rw [decide_eq_true rfl];exact run_eql_iface_ptr_same w p hi Tryz.underlying118 hinfo hcomp hte
    · rw [decide_eq_false h];exact run_eql_iface_ptr_other w hi Tryz.underlying118 hinfo hcomp hte hsz h hp hq
  unfold EV at e hx hy
  simp only [execOp,hop,hF.ev hx,hF.ev hy]
  simp [eqGuard,e]
theorem gives_isNil {op:BinOp}{t t':TypeId}{x:Operand}(hF:Fr n K a) (ho:op= .eql∨op= .neq) (hop:o.op= .binOp op t x (.const .nilIface) t') (hx:ev K x=some .nilIface) (hT:∃ ms,P.underlying t=some (.interface ms)) (r:Bool) (hr:r=(match op with | .eql=>true | _=>false)):
    (execOp a.eval o).run P w= .ok (.value (.bool r)) w:=by
  subst hr
  obtain ⟨ms,hT⟩:=hT
  have e1:∀ m,(Op.equalIn (m+1) t .nilIface .nilIface).run P w= .ok true w:=fun m=>by simp [Op.equalIn,run_underlying hT]
  have e2:(Op.equal t .nilIface .nilIface).run P w= .ok true w:=e1 9999
  have hc:a.eval (.const .nilIface)= .nilIface:=rfl
  rcases ho with rfl | rfl
  · have e:(binOp .eql t .nilIface .nilIface).run P w= .ok (.bool true) w:=by
      simp only [binOp,Sem.run_bind,e2,Result.andThen_ok];rfl
    have hg:eqGuard .eql t x (.const .nilIface) .nilIface .nilIface=pure ():=eqGuard_nil_constR ..
    simp only [execOp,hop,hF.ev hx,hc,hg]
    simp [e]
  · have e:(binOp .neq t .nilIface .nilIface).run P w= .ok (.bool false) w:=by
      simp only [binOp,Sem.run_bind,e2,Result.andThen_ok];rfl
    have hg:eqGuard .neq t x (.const .nilIface) .nilIface .nilIface=pure ():=eqGuard_nil_constR ..
    simp only [execOp,hop,hF.ev hx,hc,hg]
    simp [e]
theorem gives_isErr {op:BinOp}{t t' u:TypeId}{v:Value}{x:Operand}(hF:Fr n K a) (ho:op= .eql∨op= .neq) (hop:o.op= .binOp op t x (.const .nilIface) t') (hx:ev K x=some (.iface u v)) (hT:∃ ms,P.underlying t=some (.interface ms)) (r:Bool) (hr:r=(match op with | .eql=>false | _=>true)):
    (execOp a.eval o).run P w= .ok (.value (.bool r)) w:=by
  subst hr
  obtain ⟨ms,hT⟩:=hT
  have e1:∀ m,(Op.equalIn (m+1) t (.iface u v) .nilIface).run P w= .ok false w:=fun m=>by simp [Op.equalIn,run_underlying hT]
  have e2:(Op.equal t (.iface u v) .nilIface).run P w= .ok false w:=e1 9999
  have hc:a.eval (.const .nilIface)= .nilIface:=rfl
  rcases ho with rfl | rfl
  · have e:(binOp .eql t (.iface u v) .nilIface).run P w= .ok (.bool false) w:=by
      simp only [binOp,Sem.run_bind,e2,Result.andThen_ok];rfl
    simp only [execOp,hop,hF.ev hx,hc]
    simp [eqGuard,e]
  · have e:(binOp .neq t (.iface u v) .nilIface).run P w= .ok (.bool true) w:=by
      simp only [binOp,Sem.run_bind,e2,Result.andThen_ok];rfl
    simp only [execOp,hop,hF.ev hx,hc]
    simp [eqGuard,e]
theorem op_strBytesC (hF:Fr n K a) (hM:Mem B w0 L w) (hg:o.guard=none) {d:Nat}{x:Operand}{s:List UInt8}(hd:o.dst=some d) (hlt:Nat.blt d n=true) (hop:o.op= .convert 9 66 x) (hP:P=Tryz.prog) (hx:ev K x=some (.string (mkS s)))
    (h:∀ a' w' b c,Fr n ((d,.slice (some ⟨b,0,none⟩) s.length c)::K) a'→Mem B w0 L w'→s.length≤c→b<w'.heap.size→(∀ j u,s[j]?=some u→w'.cell? ⟨b,j,none⟩=some (.int .u8 (u.toNat:Int)))→wpList P ops Q rest a' w'):wpList P ops Q (o::rest) a w:=by
  subst hP
  have hr:=Lib.run_convert_string_bytes (P:=Tryz.prog) w 9 66 5 (mkS s) Tryz.underlying9 Tryz.underlying66 Tryz.underlying5
  rw [mkS_size] at hr
  refine op_run hF hg (.slice (some ⟨w.heap.size,0,none⟩) s.length (grownCap w s.length 0 5)) (w':=Lib.bytesWorld w 5 (mkS s)) hd hlt ?_ (fun a' hF'=>h a' _ w.heap.size _ hF' ?_ (grownCap_ge _ _ _ _) ?_ ?_)
  · simp only [execOp,hop,hF.ev hx]
    simp [hr]
  · exact hM.step ⟨rfl,rfl,rfl,by rw [Lib.bytesWorld_size];omega,fun k hk=>Lib.bytesWorld_at_old _ _ _ _ hk⟩
  · rw [Lib.bytesWorld_size];omega
  · intro j u hj
    have hl:=(List.getElem?_eq_some_iff.1 hj).1
    rw [Lib.bytesWorld_cell _ _ _ _ (by rw [mkS_size];exact hl)]
    have:(mkS s).data.toList.getD j 0=u:=by
      show s.getD j 0=u
      rw [List.getD_eq_getElem?_getD,hj]
      rfl
    rw [this]
end
structure Leaf (D:Str) (ks:List Str) (x:Str) (n:Nd):Prop where
  shows:Shows x (.v n)
  here:ks=[]→Js.Loc D 0 x
  far:ks≠ []→∃ R,Js.Sk ks 0 0 true D R∧Js.Loc D R x
def Kys (w:World) (ad:Option Addr) (kc:Nat) (ks:List Str):Prop:=ks.length≤kc∧ks.length≤2^40∧(ks=[]∨∃ g ko,ad=some ⟨g,ko,none⟩∧Sts w g ko ks)
theorem Kys.below {w w':World}{ad:Option Addr}{kc:Nat}{ks:List Str}(h:Kys w ad kc ks) (hb:Below w.heap.size w w'):Kys w' ad kc ks:=by
  obtain ⟨h1,h2,h3⟩:=h
  refine ⟨h1,h2,?_⟩
  rcases h3 with h | ⟨g,ko,h,h4⟩
  · exact .inl h
  · exact .inr ⟨g,ko,h,h4.below hb⟩
def kindOf (ea:Nat→Addr) (x:Addr):Nat:=
  if x=ea 1 then 1 else if x=ea 2 then 2 else if x=ea 3 then 3 else if x=ea 4 then 4 else if x=ea 5 then 5 else if x=ea 6 then 6 else if x=ea 7 then 7 else if x=ea 8 then 8 else if x=ea 9 then 9 else if x=ea 0 then 10 else 11
structure KyB (B:Nat) (wc:World) (ad:Option Addr) (kc:Nat) (ks:List Str):Prop where
  cap:ks.length≤kc
  small:ks.length≤9223372036854775807
  row:ks=[]∨∃ g ko,ad=some ⟨g,ko,none⟩∧g<B∧∀ j s,ks[j]?=some s→wc.cell? ⟨g,ko+j,none⟩=some (.string (mkS s))
theorem KyB.at_ {B:Nat}{wc:World}{ad:Option Addr}{kc:Nat}{ks:List Str}(h:KyB B wc ad kc ks) {m:Nat}{key:Str}(hk:ks[m]?=some key):∃ g ko,ad=some ⟨g,ko,none⟩∧g<B∧wc.cell? ⟨g,ko+m,none⟩=some (.string (mkS key)):=by
  rcases h.row with h1 | ⟨g,ko,h1,h2,h3⟩
  · rw [h1] at hk;cases hk
  · exact ⟨g,ko,h1,h2,h3 m key hk⟩
theorem KyB.kys {w:World}{ad:Option Addr}{kc:Nat}{ks:List Str}(h:KyB w.heap.size w ad kc ks) (hs:ks.length≤2^40):Kys w ad kc ks:=by
  refine ⟨h.cap,hs,?_⟩
  rcases h.row with h1 | ⟨g,ko,h1,h2,h3⟩
  · exact .inl h1
  · exact .inr ⟨g,ko,h1,h2,h3⟩
open Go.Proofs.YtelonenjneonlaaGreatDoorW.PrintWords
theorem WfPl.step {T key:Str}{p q:Js.Place}(h:WfPl T p) (hs:stepP T p key=some q):WfPl T q:=by
  obtain ⟨k,b,e,ns,kids⟩:=p
  simp only [WfPl] at h
  simp only [stepP] at hs
  split at hs
  · obtain ⟨j,_,hk⟩:=Option.bind_eq_some_iff.1 hs
    exact h.2.2.2.2.2.at_ q (List.mem_of_getElem? hk)
  · split at hs
    · obtain ⟨j,_,hk⟩:=Option.bind_eq_some_iff.1 hs
      exact h.2.2.2.2.2.at_ q (List.mem_of_getElem? hk)
    · cases hs
theorem EqPl.step {T key:Str}{p q:Js.Place}(h:EqPl p) (hs:stepP T p key=some q):EqPl q:=by
  obtain ⟨k,b,e,ns,kids⟩:=p
  simp only [EqPl] at h
  simp only [stepP] at hs
  split at hs
  · obtain ⟨j,_,hk⟩:=Option.bind_eq_some_iff.1 hs
    exact h.2.at_ hk
  · split at hs
    · obtain ⟨j,_,hk⟩:=Option.bind_eq_some_iff.1 hs
      exact h.2.at_ hk
    · cases hs
theorem once_walk {T:Str}(hT:T.length≤2^37) {B:Nat}{wc w0:World}{L:List Bk}{p:Js.Place}{cs:List Value}{o:Option Addr}{c:Nat}{ks:List Str}(hsn:KyB B wc o c ks) (hkl:∀ s∈ks,s.length≤2^40) (hR:RepPl L p cs) (hW:WfPl T p) (hE:EqPl p) (hM0:Mem B wc L w0):
    Calls Tryz.prog 26 #[.string (mkS T),.agg cs.toArray,.slice o ks.length c] w0 (Ret fun v w'=>(∃ b,v= .bool b)∧Mem B wc L w'):=by
 have hM:=hM0
 have hsz:=hsn.small
 obtain ⟨z1,z2,z3,p1,n1,d1,p2,n2,d2,rfl⟩:=hR.shape
 refine enter (l:=[.string (mkS T),.agg ([.int .i64 z1,.int .i64 z2,.int .i64 z3,.slice p1 n1 d1,.slice p2 n2 d2]:List Value).toArray,.slice o ks.length c]) 58 Tryz.func26 rfl rfl (Sq (Rg ?_));intro a hF
 refine op_box hF hM rfl rfl rfl rfl rfl rfl ?_;clear hF hM a;intro a w b4 hF hM
 revert a;refine Md 1 [0,2,4] rfl (Nx (Sq (Sq (Rg (Md 3 [0,4,13,14,15] rfl (Nx (Bo (Kp [0,4,13,14,15] rfl ?_))))))));intro a hF
 refine loopX (fun (x:Js.Place×Nat) a w=>∃ cs,Fr 61 [(0,.string (mkS T)),(4,.pointer (some ⟨b4,0,none⟩)),(13,.slice o ks.length c),(14,.int .i64 (ks.length:Int)),(15,.int .i64 (x.2:Int))] a∧Mem B wc ((b4,27,cs)::L) w∧RepPl L x.1 cs∧WfPl T x.1∧EqPl x.1∧x.2≤ks.length) (fun x=>ks.length - x.2) ((p,0)) ?_ (fun x a w hI=> ?_)
 · exact ⟨_,hF,hM,hR,hW,hE,Nat.zero_le _⟩
 clear hF hM
 clear hR hW hE
 obtain ⟨⟨k,b,e,ns,kids⟩,m⟩:=x
 obtain ⟨cs,hF,hM,hR,hW,hE,hml⟩:=hI
 simp only at hF hM hR hW hE hml
 have hR0:=hR
 have hW0:=hW
 simp only [RepPl] at hR
 obtain ⟨sn,sk,xs,rfl,hpn,hpk,hkr⟩:=hR
 obtain ⟨o1,c1,rfl⟩:=hpn.shape
 obtain ⟨o2,c2,rfl⟩:=hpk.shape
 simp only [WfPl] at hW
 obtain ⟨_,_,hwn,hnl,hkdl,_⟩:=hW
 have hsz1:=hpn.small
 revert a;refine Sq (Rg (Md 1 [0,4,13,14,15,16] rfl (Nx (Sq (D1 rfl ?_ ((fun ht=> ?_)))))))
 · exact Ex (Ot (Ot (Ob (Nx (Sq (Rg (Md 1 [6] rfl (Nx (Re (Y1 rfl rfl ⟨_,rfl,⟨_,rfl⟩,by first | exact hM.drop (List.sublist_cons_self _ _) | exact hM.drop (List.Sublist.cons _ (List.sublist_cons_self _ _))⟩))))))))))
 have hm:m<ks.length:=by have:=of_decide_eq_true ht;omega
 obtain ⟨key,hkey⟩:∃ t,ks[m]?=some t:=⟨_,List.getElem?_eq_getElem hm⟩
 have hkyl:=hkl key (List.mem_of_getElem? hkey)
 obtain ⟨gk,ko,hok,hgk,hcellk⟩:=hsn.at_ hkey
 intro a hF
 rw [hok] at hF
 revert a;refine Sk (Nx (Sq (Bo (Sq (Rg (Gv rfl (fun _ hF=>gives_indexAddrS (sz:=1) (m) hF rfl Tryz.underlying22 (by kernel_rfl) rfl rfl rfl hm _) (Gv rfl (fun _ hF=>gives_load1 hF rfl Tryz.underlying9 rfl rfl ((show w.cell? ⟨gk,ko+m*1,none⟩=some (.string (mkS key)) from by rw [Nat.mul_one];exact (hM.below.cell hgk).trans hcellk))) (Md 1 [0,4,8,13,14,15] rfl ?_))))))));intro a hF
 rw [←hok] at hF
 refine next ?_
 refine cutF (fun a w=>Fr 61 [(0,.string (mkS T)),(4,.pointer (some ⟨b4,0,none⟩)),(8,.string (mkS key)),(13,.slice o ks.length c),(14,.int .i64 (ks.length:Int)),(15,.int .i64 (m:Int))] a∧Mem B wc ((b4,27,[.int .i64 (k:Int),.int .i64 (b:Int),.int .i64 (e:Int),.slice o1 ns.length c1,.slice o2 kids.length c2])::L) w) (fun a w h=> ?_) ?_
 ·
  clear hF hM
  obtain ⟨hF,hM⟩:=h
  revert a;refine Sq (Rg (Mv 1 rfl ?_));intro a hF
  refine op_loadA hF hM rfl 0 rfl rfl rfl Tryz.underlying27 rfl (by kernel_rfl) rfl rfl ?_;clear hF a;intro a hF
  revert a;refine Mv 1 rfl (Cl rfl rfl rfl (step_walk (key:=key) (TB:=L) hT hkyl (by intro z hz;simp [hz]) hR0 hW0 hE hM) ?_)
  clear hM;intro w v hR
  obtain ⟨⟨cq,ok,rfl,hq⟩,hM⟩:=hR
  obtain ⟨y1,y2,y3,q1,m1,e1,q2,m2,e2,rfl⟩:∃ (k b e:Int) (o1:Option Addr) (l1 c1:Nat) (o2:Option Addr) (l2 c2:Nat),cq=[.int .i64 k,.int .i64 b,.int .i64 e,.slice o1 l1 c1,.slice o2 l2 c2]:=by
    split at hq
    · exact hq.2.shape
    · exact ⟨_,_,_,_,_,_,_,_,_,hq.2⟩
  refine Mv 3 rfl ?_;intro a hF
  refine op_alloc hF hM rfl (vs:=[.int .i64 0,.int .i64 0,.int .i64 0,.slice none 0 0,.slice none 0 0]) rfl rfl rfl (by kernel_rfl) ?_;clear hF hM a;intro a w b11 hF hM
  refine op_storeA hF hM rfl 0 rfl rfl (by kernel_rfl) rfl rfl rfl rfl (rfl) ?_;clear hF hM a;intro a w hF hM
  revert a;refine Md 1 [0,4,11,12,13,14,15] rfl (Nx (Sq (Sq (Rg (Md 2 [0,4,11,13,14,15,58] rfl (Nx (C2 rfl ?_ ((fun ht=> ?_)))))))))
  · exact Sq (Rg (Md 1 [6] rfl (Nx (Re (Rt (Rb (Rt (Rt (Rb (Rt (Y1 rfl rfl ⟨_,rfl,⟨_,rfl⟩,by first | exact hM.drop (List.sublist_cons_self _ _) | exact hM.drop (List.Sublist.cons _ (List.sublist_cons_self _ _))⟩)))))))))))
  obtain ⟨q,hsome,hqR⟩:∃ q,stepP T (.mk k b e ns kids) key=some q∧RepPl L q [.int .i64 y1,.int .i64 y2,.int .i64 y3,.slice q1 m1 e1,.slice q2 m2 e2]:=by
    split at hq
    · next q h=>exact ⟨q,h,hq.2⟩
    · rw [hq.1] at ht;cases ht
  refine Sk (Nx (Rg ?_));intro a hF
  refine op_loadA hF hM rfl 0 rfl rfl rfl Tryz.underlying27 rfl (by kernel_rfl) rfl rfl ?_;clear hF a;intro a hF
  refine op_storeA hF hM rfl 1 rfl rfl (by kernel_rfl) rfl rfl rfl rfl (rfl) ?_;clear hF hM a;intro a w hF hM
  revert a;refine Md 0 [0,4,13,14,15] rfl (Nb (Nx (Rg (Sm (((m+1:Nat):Int)) rfl (by omega) (Md 1 [0,4,13,14,15] rfl ?_)))));intro a hF
  exact ⟨(q,m+1),⟨_,hF,hM.drop (List.sublist_cons_self _ _),hqR,WfPl.step (T:=T) hW0 hsome,EqPl.step (T:=T) hE hsome,hm⟩,by simp only;omega⟩
 revert a;refine Sq (Rg (Mv 1 rfl (Ld hM 0 rfl rfl (Md 1 [0,4,8,13,14,15,21] rfl (Nx (D0 rfl ?_ ?_))))))
 ·
  refine Sk (Kp [0,4,8,13,14,15] rfl ?_);intro a hF
  exact ⟨hF,hM⟩
 refine Sq (Rg (Md 1 [0,4,8,9,13,14,15] rfl (Nx (Sq (Sq (Rg (Md 1 [0,4,8,9,10,13,14,15] rfl (Nx (Bo (Kp [0,4,8,9,10,13,14,15] rfl ?_))))))))));intro a hF
 refine loopX (fun (y:Nat×Nat) a w=>Fr 61 [(0,.string (mkS T)),(4,.pointer (some ⟨b4,0,none⟩)),(8,.string (mkS key)),(9,.int .i64 (y.2:Int)),(10,.int .i64 (y.1:Int)),(13,.slice o ks.length c),(14,.int .i64 (ks.length:Int)),(15,.int .i64 (m:Int))] a∧Mem B wc ((b4,27,[.int .i64 (k:Int),.int .i64 (b:Int),.int .i64 (e:Int),.slice o1 ns.length c1,.slice o2 kids.length c2])::L) w∧y.2≤y.1∧y.1≤ns.length) (fun y=>ns.length - y.1) ((0,0)) ?_ (fun y a w hI=> ?_)
 · exact ⟨hF,hM,Nat.le_refl _,Nat.zero_le _⟩
 clear hF hM
 obtain ⟨j,f⟩:=y
 obtain ⟨hF,hM,hfj,hjl⟩:=hI
 simp only at hF hM hfj hjl
 revert a;refine Sq (Sq (Rg (Mv 2 rfl (Ld hM 0 rfl rfl (Md 2 [0,4,8,9,10,13,14,15,26] rfl (Nx (D1 rfl ?_ ((fun ht=> ?_)))))))))
 ·
  refine Ex (Ot (Ot (Ob (Nx (Sq (Rg (Md 2 [0,4,8,13,14,15,49] rfl (Nx (D0 rfl ?_ ?_)))))))))
  ·
   refine Sk (Kp [0,4,8,13,14,15] rfl ?_);intro a hF
   exact ⟨hF,hM⟩
  exact Sq (Rg (Md 1 [6] rfl (Nx (Re (Rt (Rb (Rt (Rt (Rb (Rt (Y1 rfl rfl ⟨_,rfl,⟨_,rfl⟩,by first | exact hM.drop (List.sublist_cons_self _ _) | exact hM.drop (List.Sublist.cons _ (List.sublist_cons_self _ _))⟩)))))))))))
 have hj:j<ns.length:=by have:=of_decide_eq_true ht;omega
 obtain ⟨x,hx⟩:∃ x,ns[j]?=some x:=⟨_,List.getElem?_eq_getElem hj⟩
 obtain ⟨hx1,hx2,i,hin,hsub⟩:=hwn x (List.mem_of_getElem? hx)
 have hil:i.length≤2^38:=by have:=congrArg List.length hsub;simp [sub] at this;omega
 obtain ⟨g,cap,hv,hcell⟩:=hpn.row (by omega)
 have ho:o1=some ⟨g,0,none⟩:=by cases hv;rfl
 obtain ⟨hs1,hs2⟩:=spans_at hx
 refine Sk (Nx (Sq (Bo (Sq ?_))));intro a hF
 refine mix (fun w=>Mem B wc ((b4,27,[.int .i64 (k:Int),.int .i64 (b:Int),.int .i64 (e:Int),.slice o1 ns.length c1,.slice o2 kids.length c2])::L) w) 16 (by kernel_rfl) ?_
 replace hM:=hM.drew
 generalize World.drew w=w at*
 refine mtakeP 0 hF (.inl hM) rfl (by kernel_rfl) (by kernel_rfl) (by kernel_rfl) rfl (fun _ _ _ h=>h) rfl rfl (y_plain rfl (fun w _=>gives_move hF rfl rfl _)) ?_;clear hF a;intro a hF
 refine mtakeP 1 hF (.inl hM) rfl (by kernel_rfl) (by kernel_rfl) (by kernel_rfl) rfl (fun _ _ _ h=>h) rfl rfl (y_plain rfl (fun w _=>gives_fieldAddr hF 3 rfl rfl (field_at Tryz.underlying27 rfl rfl (by kernel_rfl)) _)) ?_;clear hF a;intro a hF
 refine mtakeL 2 hF hM rfl (by kernel_rfl) (by kernel_rfl) (by kernel_rfl) (by kernel_rfl) (by kernel_rfl) (fun _ _ _ h=>h) rfl rfl (y_plain rfl (fun w hM=>gives_load hF hM 0 rfl Tryz.underlying24 rfl rfl rfl rfl)) ?_;clear hF a;intro a hF
 rw [ho] at hF
 refine mtakeP 3 hF (.inl hM) rfl (by kernel_rfl) (by kernel_rfl) (by kernel_rfl) rfl (fun _ _ _ h=>h) rfl rfl (y_plain rfl (fun w _=>gives_move hF rfl rfl _)) ?_;clear hF a;intro a hF
 refine mtakeP 4 hF (.inl hM) rfl (by kernel_rfl) (by kernel_rfl) (by kernel_rfl) rfl (fun _ _ _ h=>h) rfl rfl (y_plain rfl (fun w _=>gives_indexAddrS (sz:=2) (j) hF rfl Tryz.underlying24 (by kernel_rfl) rfl rfl rfl hj _)) ?_;clear hF a;intro a hF
 refine mtakeP 5 hF (.inl hM) rfl (by kernel_rfl) (by kernel_rfl) (by kernel_rfl) rfl (fun _ _ _ h=>h) rfl rfl (y_plain rfl (fun w _=>gives_fieldAddr hF 0 rfl rfl (field_at Tryz.underlying80 rfl rfl (by kernel_rfl)) _)) ?_;clear hF a;intro a hF
 refine mtakeL 6 hF hM rfl (by kernel_rfl) (by kernel_rfl) (by kernel_rfl) (by kernel_rfl) (by kernel_rfl) (fun _ _ _ h=>h) rfl rfl (y_plain rfl (fun w hM=>gives_load1 hF rfl Tryz.underlying3 rfl rfl ((show w.cell? ⟨g,0+j*2+0,none⟩=some (.int .i64 (x.1:Int)) from by rw [Nat.zero_add];exact hcell hM (by intro z hz;simp [hz]) _ _ hs1)))) ?_;clear hF a;intro a hF
 refine mtakeP 7 hF (.inl hM) rfl (by kernel_rfl) (by kernel_rfl) (by kernel_rfl) rfl (fun _ _ _ h=>h) rfl rfl (y_plain rfl (fun w _=>gives_fieldAddr hF 3 rfl rfl (field_at Tryz.underlying27 rfl rfl (by kernel_rfl)) _)) ?_;clear hF a;intro a hF
 refine mtakeL 8 hF hM rfl (by kernel_rfl) (by kernel_rfl) (by kernel_rfl) (by kernel_rfl) (by kernel_rfl) (fun _ _ _ h=>h) rfl rfl (y_plain rfl (fun w hM=>gives_load hF hM 0 rfl Tryz.underlying24 rfl rfl rfl rfl)) ?_;clear hF a;intro a hF
 rw [ho] at hF
 refine mtakeP 9 hF (.inl hM) rfl (by kernel_rfl) (by kernel_rfl) (by kernel_rfl) rfl (fun _ _ _ h=>h) rfl rfl (y_plain rfl (fun w _=>gives_move hF rfl rfl _)) ?_;clear hF a;intro a hF
 refine mtakeP 10 hF (.inl hM) rfl (by kernel_rfl) (by kernel_rfl) (by kernel_rfl) rfl (fun _ _ _ h=>h) rfl rfl (y_plain rfl (fun w _=>gives_indexAddrS (sz:=2) (j) hF rfl Tryz.underlying24 (by kernel_rfl) rfl rfl rfl hj _)) ?_;clear hF a;intro a hF
 refine mtakeP 11 hF (.inl hM) rfl (by kernel_rfl) (by kernel_rfl) (by kernel_rfl) rfl (fun _ _ _ h=>h) rfl rfl (y_plain rfl (fun w _=>gives_fieldAddr hF 1 rfl rfl (field_at Tryz.underlying80 rfl rfl (by kernel_rfl)) _)) ?_;clear hF a;intro a hF
 refine mtakeL 12 hF hM rfl (by kernel_rfl) (by kernel_rfl) (by kernel_rfl) (by kernel_rfl) (by kernel_rfl) (fun _ _ _ h=>h) rfl rfl (y_plain rfl (fun w hM=>gives_load1 hF rfl Tryz.underlying3 rfl rfl ((show w.cell? ⟨g,0+j*2+1,none⟩=some (.int .i64 (x.2:Int)) from by rw [Nat.zero_add];exact hcell hM (by intro z hz;simp [hz]) _ _ hs2)))) ?_;clear hF a;intro a hF
 refine mtakeP 13 hF (.inl hM) rfl (by kernel_rfl) (by kernel_rfl) (by kernel_rfl) rfl (fun _ _ _ h=>h) rfl rfl (y_plain rfl (fun w _=>gives_slice_str (x.1) (x.2) hF rfl Tryz.underlying9 rfl rfl rfl rfl rfl hx1 hx2 _)) ?_;clear hF a;intro a hF
 rw [show List.take (x.2 - x.1) (List.drop x.1 T)=34::i++ [34] from hsub] at hF
 refine mtakeP 15 hF (.inl hM) rfl (by kernel_rfl) (by kernel_rfl) (by kernel_rfl) rfl (fun _ _ _ h=>h) rfl rfl (y_plain rfl (fun w _=>gives_move hF rfl rfl _)) ?_;clear hF a;intro a hF
 refine malone 14 rfl (by kernel_rfl) ?_
 revert a;refine Cm hM rfl rfl rfl (unquote_walk hin (by omega) _) ?_
 clear hM;intro w v hR hM hBe
 obtain rfl:=hR
 intro a hF
 refine mstep (.inl (hM)) ?_
 refine malone 16 rfl (by kernel_rfl) ?_
 refine op_eqlStr hF rfl rfl rfl rfl rfl rfl ?_;clear hF a;intro a hF
 refine mstep (.inr (by kernel_rfl)) ?_
 refine mend (by kernel_rfl) ?_
 revert a;refine Kp [0,4,8,9,10,13,14,15,45] rfl (Nx (D0 rfl ?_ ?_))
 ·
  refine Sk (Nb (Nx (Rg (Mv 1 rfl (Sm (((j+1:Nat):Int)) rfl (by omega) (Md 1 [0,4,8,9,10,13,14,15] rfl ?_))))));intro a hF
  exact ⟨(j+1,f),⟨hF,hM,by simp only;omega,hj⟩,by simp only;omega⟩
 refine Rg (Mv 1 rfl (Sm (((f+1:Nat):Int)) rfl (by omega) (Md 1 [0,4,8,9,10,13,14,15] rfl (Nb (Nx (Rg (Mv 1 rfl (Sm (((j+1:Nat):Int)) rfl (by omega) (Md 1 [0,4,8,9,10,13,14,15] rfl ?_)))))))));intro a hF
 exact ⟨(j+1,f+1),⟨hF,hM,by simp only;omega,hj⟩,by simp only;omega⟩
theorem blank_walk (c:UInt8) (w0:World):Calls Tryz.prog 41 #[.int .u8 (c.toNat:Int)] w0 (Ret fun v w'=>v= .bool (isBlank c)∧Below w0.heap.size w0 w'):=by
 have hM:=MS0 w0
 refine enter (l:=[.int .u8 (c.toNat:Int)]) 16 Tryz.func41 rfl rfl (Sq (Rg (Md 1 [0] rfl (Nx (Sq ?_)))))
 rcases (show c=32∨c=9∨c=10∨c=13∨(c≠32∧c≠9∧c≠10∧c≠13) by by_cases h1:c=32;exact .inl h1;by_cases h2:c=9;exact .inr (.inl h2);by_cases h3:c=10;exact .inr (.inr (.inl h3));by_cases h4:c=13;exact .inr (.inr (.inr (.inl h4)));exact .inr (.inr (.inr (.inr ⟨h1,h2,h3,h4⟩)))) with rfl | rfl | rfl | rfl | ⟨h32,h9,h10,h13⟩
 · exact Rg (Mv 1 rfl (Bv rfl rfl (show (((32:UInt8).toNat:Int)==32)=true from rfl) (Md 13 [2] rfl (Nx (Re (Y1 rfl rfl ⟨_,rfl,rfl,hM.below⟩))))))
 · exact Rg (Mv 1 rfl (Bv rfl rfl (show (((9:UInt8).toNat:Int)==32)=false from rfl) (Mv 2 rfl (Bv rfl rfl (show (((9:UInt8).toNat:Int)==9)=true from rfl) (Md 10 [2] rfl (Nx (Re (Y1 rfl rfl ⟨_,rfl,rfl,hM.below⟩))))))))
 · exact Rg (Mv 1 rfl (Bv rfl rfl (show (((10:UInt8).toNat:Int)==32)=false from rfl) (Mv 2 rfl (Bv rfl rfl (show (((10:UInt8).toNat:Int)==9)=false from rfl) (Mv 3 rfl (Bv rfl rfl (show (((10:UInt8).toNat:Int)==10)=true from rfl) (Md 6 [2] rfl (Nx (Re (Y1 rfl rfl ⟨_,rfl,rfl,hM.below⟩))))))))))
 · exact Rg (Mv 1 rfl (Bv rfl rfl (show (((13:UInt8).toNat:Int)==32)=false from rfl) (Mv 2 rfl (Bv rfl rfl (show (((13:UInt8).toNat:Int)==9)=false from rfl) (Mv 3 rfl (Bv rfl rfl (show (((13:UInt8).toNat:Int)==10)=false from rfl) (Mv 3 rfl (Bv rfl rfl (show (((13:UInt8).toNat:Int)==13)=true from rfl) (Md 2 [2] rfl (Nx (Re (Y1 rfl rfl ⟨_,rfl,rfl,hM.below⟩))))))))))))
 exact Rg (Mv 1 rfl (Qf 32 rfl rfl h32 (Mv 2 rfl (Qf 9 rfl rfl h9 (Mv 3 rfl (Qf 10 rfl rfl h10 (Mv 3 rfl (Qf 13 rfl rfl h13 (Md 2 [2] rfl (Nx (Re (Y1 rfl rfl ⟨_,rfl,by simp [isBlank,h32,h9,h10,h13],hM.below⟩))))))))))))
theorem blanks_walk {B:Nat}{wc:World}{L:List Bk}{b:Nat}{T:Str}(hT:T.length≤2^41) {r:Str}(hs:Sfx T r) {w0:World}(hM0:Mem B wc ((b,108,RD T r)::L) w0):
    Calls Tryz.prog 73 #[.pointer (some ⟨b,0,none⟩)] w0 (Ret fun v w'=>v= .tuple #[]∧Mem B wc ((b,108,RD T (Js.skip r))::L) w'):=by
 have hM:=hM0
 have hps:=hs.len
 refine enter (l:=[.pointer (some ⟨b,0,none⟩)]) 30 Tryz.func73 rfl rfl (Bo (Kp [0] rfl ?_));intro a hF
 refine loopX (fun (q:Str) a w=>Fr 31 [(0,.pointer (some ⟨b,0,none⟩))] a∧Mem B wc ((b,108,RD T q)::L) w∧Sfx T q∧Js.skip q=Js.skip r) (fun q=>q.length) (r) ?_ (fun q a w hI=> ?_)
 · exact ⟨hF,hM,hs,rfl⟩
 clear hF hM
 clear hs hps
 obtain ⟨hF,hM,hs,hsk⟩:=hI
 have hps:=hs.len
 revert a;refine Sq (Sq ?_)
 rcases q with _ | ⟨c,q⟩
 ·
  rw [ps_nil] at hps
  have hsk0:Js.skip r=[]:=hsk.symm
  refine Su 20 (by kernel_rfl) (by kernel_rfl) ?_
  replace hM:=hM.drew
  skip
  refine Ms 3 rfl (Ls hM 0 rfl rfl (Ms 3 rfl (Ls hM 0 rfl rfl (Ms 2 rfl ?_))));intro a hF
  rw [ps_nil,decide_eq_false (show ¬ ((T.length:Int)<(T.length:Int)) by omega)] at hF
  revert a;refine Ms 10 rfl (Sd ?_);intro a hF
  simp only [List.drop_succ_cons,List.drop_zero]
  revert a;refine Md 2 [0,23] rfl (Nx (Cf rfl (Ex (Ot (Ot (Ob ?_))))));intro a hF
  rw [←hsk] at*
  exact endNone hF rfl ⟨_,rfl,rfl,hM⟩
 obtain ⟨hs1,hp1,hg1,hlt1⟩:=hs.next
 refine Su 20 (by kernel_rfl) (by kernel_rfl) ?_
 replace hM:=hM.drew
 skip
 refine Ms 3 rfl (Ls hM 0 rfl rfl (Ms 3 rfl (Ls hM 0 rfl rfl (Ms 1 rfl (Ut rfl (by omega) (Ms 4 rfl (Ls hM 0 rfl rfl (Ms 3 rfl (Ls hM 0 rfl rfl (Is ((ps T (c::q))) c rfl hg1 (by omega) (Sd ?_)))))))))));intro a hF
 simp only [List.drop_succ_cons,List.drop_zero]
 revert a;refine Cm hM rfl rfl rfl (blank_walk c _) ?_
 clear hM;intro w v hR hM hBe
 obtain rfl:=hR
 refine Md 1 [0,23] rfl (Nx (Ce rfl (fun ht=> ?_) ((fun ht=> ?_))))
 ·
  have hb:isBlank c=false:=ht
  refine Ex (Ot (Ot (Ob ?_)))
  rw [skip_stop _ hb] at hsk
  exact Z0 rfl ⟨_,rfl,rfl,by rw [←hsk];exact hM⟩
 have hb:isBlank c=true:=ht
 refine Sk (Nx (Bo (Rg (Mv 3 rfl (Ld hM 0 rfl rfl (Sm (((ps T q:Nat):Int)) rfl (by omega) (Mv 2 rfl (St hM 0 rfl ?_))))))))
 clear hM;intro w hM
 refine Md 0 [0] rfl (Nb (Kp [0] rfl ?_));intro a hF
 exact ⟨q,⟨hF,hM,hs1,by rw [←hsk,skip_step _ hb]⟩,by simp⟩
theorem here_walk {B:Nat}{wc:World}{L:List Bk}{b:Nat}{T:Str}(hT:T.length≤2^41) {r:Str}(hs:Sfx T r) {w0:World}(hM0:Mem B wc ((b,108,RD T r)::L) w0):
    Calls Tryz.prog 111 #[.pointer (some ⟨b,0,none⟩)] w0 (Ret fun v w'=>v= .int .u8 ((r.headD 0).toNat:Int)∧Mem B wc ((b,108,RD T r)::L) w'):=by
 have hM:=hM0
 have hps:=hs.len
 refine enter (l:=[.pointer (some ⟨b,0,none⟩)]) 21 Tryz.func111 rfl rfl (Sq (Rg (Md 1 [0] rfl (Nx (Sq (Sq ?_))))))
 rcases r with _ | ⟨c,q⟩
 ·
  rw [ps_nil] at hps
  refine Sl (by kernel_rfl) (by kernel_rfl) ?_
  replace hM:=hM.drew
  skip
  refine Ms 3 rfl (Ls hM 0 rfl rfl (Ms 3 rfl (Ls hM 0 rfl rfl (Ms 2 rfl ?_))));intro a hF
  rw [ps_nil,decide_eq_false (show ¬ ((T.length:Int)<(T.length:Int)) by omega)] at hF
  revert a;exact Sd (Kp [0,12] rfl (Nx (Cf rfl (Sk (Nx (Sq (Rg (Md 1 [2] rfl (Nx (Re (Y1 rfl rfl ⟨_,rfl,rfl,hM⟩)))))))))))
 obtain ⟨hs1,hp1,hg1,hlt1⟩:=hs.next
 refine Sl (by kernel_rfl) (by kernel_rfl) ?_
 replace hM:=hM.drew
 skip
 refine Ms 3 rfl (Ls hM 0 rfl rfl (Ms 3 rfl (Ls hM 0 rfl rfl (Ms 1 rfl (Ut rfl (by omega) (Sd (Kp [0,12] rfl (Nx (Ct rfl (Sq (Sl (by kernel_rfl) (by kernel_rfl) ?_)))))))))))
 replace hM:=hM.drew
 skip
 exact Ms 3 rfl (Ls hM 0 rfl rfl (Ms 3 rfl (Ls hM 0 rfl rfl (Is ((ps T (c::q))) c rfl hg1 (by omega) (Ms 1 rfl (Sd (Kp [2] rfl (Nx (Re (Rt (Y1 rfl rfl ⟨_,rfl,rfl,hM⟩)))))))))))
theorem take_walk {B:Nat}{wc:World}{L:List Bk}{b:Nat}{T:Str}(hT:T.length≤2^41) {r:Str}(hs:Sfx T r) (d:UInt8) {w0:World}(hM0:Mem B wc ((b,108,RD T r)::L) w0):
    Calls Tryz.prog 117 #[.pointer (some ⟨b,0,none⟩),.int .u8 (d.toNat:Int)] w0 (Ret fun v w'=>v= .bool (pTake d r).isSome∧Mem B wc ((b,108,RD T ((pTake d r).getD r))::L) w'):=by
 have hM:=hM0
 have hps:=hs.len
 refine enter (l:=[.pointer (some ⟨b,0,none⟩),.int .u8 (d.toNat:Int)]) 33 Tryz.func117 rfl rfl (Sq (Rg (Md 1 [0,1] rfl (Nx (Sq (Sq ?_))))))
 rcases r with _ | ⟨c,q⟩
 ·
  rw [ps_nil] at hps
  refine Sl (by kernel_rfl) (by kernel_rfl) ?_
  replace hM:=hM.drew
  skip
  refine Ms 3 rfl (Ls hM 0 rfl rfl (Ms 3 rfl (Ls hM 0 rfl rfl (Ms 2 rfl ?_))));intro a hF
  rw [ps_nil,decide_eq_false (show ¬ ((T.length:Int)<(T.length:Int)) by omega)] at hF
  revert a;exact Ms 13 rfl (Sd (Kp [0,27] rfl (Nx (Cf rfl (Sk (Nx (Sq (Rg (Md 1 [4] rfl (Nx (Re (Y1 rfl rfl ⟨_,rfl,rfl,hM⟩))))))))))))
 obtain ⟨hs1,hp1,hg1,hlt1⟩:=hs.next
 refine Sl (by kernel_rfl) (by kernel_rfl) ?_
 replace hM:=hM.drew
 skip
 refine Ms 3 rfl (Ls hM 0 rfl rfl (Ms 3 rfl (Ls hM 0 rfl rfl (Ms 1 rfl (Ut rfl (by omega) (Ms 4 rfl (Ls hM 0 rfl rfl (Ms 3 rfl (Ls hM 0 rfl rfl (Is ((ps T (c::q))) c rfl hg1 (by omega) (Ms 3 rfl (Sd (Kp [0,27] rfl (Nx (Ce rfl (fun ht=> ?_) ((fun ht=> ?_)))))))))))))))))
 ·
  have hcd:c≠d:=eq_f (d:=d) rfl ht
  refine Sk (Nx (Sq (Rg (Md 1 [4] rfl (Nx (Re ?_))))))
  have ep:pTake d (c::q)=if c=d then some q else none:=rfl
  intro a hF
  rw [if_neg hcd] at ep;rw [ep];exact ret1 hF rfl rfl ⟨_,rfl,rfl,hM⟩
 have hcd:c=d:=eq_t (d:=d) rfl ht
 refine Sq (Rg (Mv 3 rfl (Ld hM 0 rfl rfl (Sm (((ps T q:Nat):Int)) rfl (by omega) (Mv 2 rfl (St hM 0 rfl ?_))))))
 clear hM;intro w hM
 refine Md 0 [] rfl (Nx (Sq (Rg (Md 1 [4] rfl (Nx (Re (Rt ?_)))))))
 have ep:pTake d (c::q)=if c=d then some q else none:=rfl
 intro a hF
 rw [if_pos hcd] at ep;rw [ep];exact ret1 hF rfl rfl ⟨_,rfl,rfl,hM⟩
theorem word_walk {B:Nat}{wc:World}{L:List Bk}{b:Nat}{T:Str}(hT:T.length≤2^41) {r:Str}(hs:Sfx T r) (u:Str) (hu:u.length≤100) {w0:World}(hM0:Mem B wc ((b,108,RD T r)::L) w0):
    Calls Tryz.prog 115 #[.pointer (some ⟨b,0,none⟩),.string (mkS u)] w0 (Ret fun v w'=>v= .bool (pWord u r).isSome∧Mem B wc ((b,108,RD T ((pWord u r).getD r))::L) w'):=by
 have hM:=hM0
 have hps:=hs.len
 have hdr:=hs.drop
 refine enter (l:=[.pointer (some ⟨b,0,none⟩),.string (mkS u)]) 45 Tryz.func115 rfl rfl (Sq (Rg (Md 1 [0,1] rfl (Nx (Sq (Sq ?_))))))
 rcases Nat.lt_or_ge r.length u.length with hlt | hge
 ·
  refine Sl (by kernel_rfl) (by kernel_rfl) ?_
  replace hM:=hM.drew
  skip
  refine Ms 3 rfl (Ls hM 0 rfl rfl (Ms 4 rfl (Ls hM 0 rfl rfl (Ss ((r.length:Int)) rfl (by omega) (Ms 2 rfl (Ut rfl (by omega) (Ms 20 rfl (Sd (Kp [0,1,37] rfl (Nx (Ct rfl (Sq (Rg (Md 1 [4] rfl (Nx (Re (Rt ?_)))))))))))))))))
  have ep:pWord u r=none:=if_neg (fun e=>by have:=congrArg List.length e;rw [List.length_take] at this;omega)
  intro a hF
  rw [ep];exact ret1 hF rfl rfl ⟨_,rfl,rfl,hM⟩
 refine Sl (by kernel_rfl) (by kernel_rfl) ?_
 replace hM:=hM.drew
 skip
 refine Ms 3 rfl (Ls hM 0 rfl rfl (Ms 4 rfl (Ls hM 0 rfl rfl (Ss ((r.length:Int)) rfl (by omega) (Ms 2 rfl (Uf rfl (by omega) (Ms 4 rfl (Ls hM 0 rfl rfl (Ms 3 rfl (Ls hM 0 rfl rfl (Ms 3 rfl (Ls hM 0 rfl rfl (Ms 2 rfl (Ss (((ps T r+u.length:Nat):Int)) rfl (by omega) (Gs rfl (fun _ hF=>gives_slice_str (ps T r) (ps T r+u.length) hF rfl Tryz.underlying9 rfl rfl rfl rfl rfl (by omega) (by omega) _) ?_)))))))))))))));intro a hF
 rw [show (T.drop (ps T r)).take (ps T r+u.length - ps T r)=r.take u.length by rw [hdr,Nat.add_sub_cancel_left]] at hF
 revert a;refine Ms 1 rfl (Gs rfl (fun _ hF=>gives_neqStr hF rfl rfl rfl _) (Ms 1 rfl (Sd (Kp [0,1,37] rfl (Nx (Cd rfl (fun ht=> ?_) ((fun ht=> ?_))))))))
 ·
  have hne:r.take u.length≠u:=by simpa using ht
  have ep:pWord u r=none:=if_neg hne
  refine Sq (Rg (Md 1 [4] rfl (Nx (Re (Rt ?_)))));intro a hF
  rw [ep];exact ret1 hF rfl rfl ⟨_,rfl,rfl,hM⟩
 have heq:r.take u.length=u:=by simpa using ht
 have ep:pWord u r=some (r.drop u.length):=if_pos heq
 have hs1:Sfx T (r.drop u.length):=Sfx.tail (t:=r.take u.length) (by rw [List.take_append_drop];exact hs)
 have hp1:=hs1.len
 have hdl:(r.drop u.length).length=r.length - u.length:=List.length_drop
 refine Sk (Nx (Sq (Rg (Mv 3 rfl (Ld hM 0 rfl rfl (Mv 2 rfl (Sm (((ps T (r.drop u.length):Nat):Int)) rfl (by omega) (Mv 2 rfl (St hM 0 rfl ?_)))))))))
 clear hM;intro w hM
 refine Md 0 [] rfl (Nx (Sq (Rg (Md 1 [4] rfl (Nx (Re ?_))))));intro a hF
 rw [ep];exact ret1 hF rfl rfl ⟨_,rfl,rfl,hM⟩
theorem escape_rd {B:Nat}{wc:World}{L:List Bk}{b:Nat}{T:Str}(hT:T.length≤2^41) {r:Str}(hs:Sfx T r) {w0:World}(hM0:Mem B wc ((b,108,RD T r)::L) w0):
    Calls Tryz.prog 149 #[.pointer (some ⟨b,0,none⟩)] w0 (Ret fun v w'=>v= .bool (pEsc r).isSome∧∃ q,Sfx T q∧(∀ q',pEsc r=some q'→q=q')∧Mem B wc ((b,108,RD T q)::L) w'):=by
 have hM:=hM0
 have hps:=hs.len
 refine enter (l:=[.pointer (some ⟨b,0,none⟩)]) 51 Tryz.func149 rfl rfl (Sq (Rg (Md 1 [0] rfl (Nx (Sq (Sq ?_))))))
 rcases (show r=[]∨(∃ c q,r=c::q∧escLetter c=true)∨(∃ q,r=117::q)∨(∃ c q,r=c::q∧escLetter c=false∧c≠117) by cases r with | nil=>exact .inl rfl | cons c q=>(by_cases h1:escLetter c=true;exact .inr (.inl ⟨c,q,rfl,h1⟩);by_cases h2:c=117;exact .inr (.inr (.inl ⟨q,by rw [h2]⟩));exact .inr (.inr (.inr ⟨c,q,rfl,by simpa using h1,h2⟩)))) with rfl | ⟨c,q,rfl,hesc⟩ | ⟨q,rfl⟩ | ⟨c,q,rfl,hesc,h117⟩
 ·
  have e1:pEsc []=none:=rfl
  refine Rg (Mv 1 rfl (Cl rfl rfl rfl (here_walk hT hs hM) ?_))
  clear hM;intro w v hR
  obtain ⟨rfl,hM⟩:=hR
  exact Md 0 [0,7] rfl (Nx (Bo (Sq (Sq (Rg (Md 2 [0,7,8] rfl (Nx (Cf rfl (Sq (Rg (Md 2 [0,7,8] rfl (Nx (Cf rfl (Sq (Rg (Md 2 [0,7,8] rfl (Nx (Cf rfl (Sq (Rg (Md 2 [0,7,8] rfl (Nx (Cf rfl (Sq (Rg (Md 2 [0,7,8] rfl (Nx (Cf rfl (Sq (Rg (Md 2 [0,7,8] rfl (Nx (Cf rfl (Sq (Rg (Md 2 [0,7,8] rfl (Nx (Cf rfl (Rg (Md 2 [0,7,8] rfl (Nx (Cf rfl (Sq (Rg (Md 2 [0,24] rfl (Nx (Cf rfl (Sk (Nb (Nx (Sq (Rg (Md 1 [2] rfl (Nx (Re (Y1 rfl rfl ⟨_,rfl,congrArg Value.bool (congrArg Option.isSome e1.symm),_,hs,(fun q' hq=>by rw [e1] at hq;cases hq),hM⟩))))))))))))))))))))))))))))))))))))))))))))))))))))))))
 ·
  obtain ⟨hs1,hp1,hg1,hlt1⟩:=hs.next
  have e1:pEsc (c::q)=some q:=by simp [pEsc,hesc]
  refine Rg (Mv 1 rfl (Cl rfl rfl rfl (here_walk hT hs hM) ?_))
  clear hM;intro w v hR
  obtain ⟨rfl,hM⟩:=hR
  refine Md 0 [0,7] rfl (Nx (Bo (Sq (Sq (Rg (Md 2 [0,7,8] rfl (Nx (Cd rfl (fun ht=> ?_) ((fun ht=> ?_))))))))))
  ·
   have hcz:c=34:=eq_t (d:=34) rfl ht
   refine Sk (Nx (D2 rfl (fun ht=> ?_) ?_))
   ·
    intro a hF
    (subst hcz;exact Bool.noConfusion ht)
   refine Sq (Rg (Mv 3 rfl (Ld hM 0 rfl rfl (Sm (((ps T q:Nat):Int)) rfl (by omega) (Mv 2 rfl (St hM 0 rfl ?_))))))
   clear hM;intro w hM
   exact Md 0 [] rfl (Nx (Sq (Rg (Md 1 [2] rfl (Nx (Re (Rb (Rt (Y1 rfl rfl ⟨_,rfl,congrArg Value.bool (congrArg Option.isSome e1.symm),_,hs1,(fun q' hq=>by rw [e1] at hq;exact Option.some.inj hq),hM⟩)))))))))
  have n34:c≠34:=eq_f (d:=34) rfl ht
  refine Sq (Rg (Md 2 [0,7,8] rfl (Nx (Cd rfl (fun ht=> ?_) ((fun ht=> ?_))))))
  ·
   have hcz:c=92:=eq_t (d:=92) rfl ht
   refine Sk (Nx (D2 rfl (fun ht=> ?_) ?_))
   ·
    intro a hF
    (subst hcz;exact Bool.noConfusion ht)
   refine Sq (Rg (Mv 3 rfl (Ld hM 0 rfl rfl (Sm (((ps T q:Nat):Int)) rfl (by omega) (Mv 2 rfl (St hM 0 rfl ?_))))))
   clear hM;intro w hM
   exact Md 0 [] rfl (Nx (Sq (Rg (Md 1 [2] rfl (Nx (Re (Rb (Rt (Y1 rfl rfl ⟨_,rfl,congrArg Value.bool (congrArg Option.isSome e1.symm),_,hs1,(fun q' hq=>by rw [e1] at hq;exact Option.some.inj hq),hM⟩)))))))))
  have n92:c≠92:=eq_f (d:=92) rfl ht
  refine Sq (Rg (Md 2 [0,7,8] rfl (Nx (Cd rfl (fun ht=> ?_) ((fun ht=> ?_))))))
  ·
   have hcz:c=47:=eq_t (d:=47) rfl ht
   refine Sk (Nx (D2 rfl (fun ht=> ?_) ?_))
   ·
    intro a hF
    (subst hcz;exact Bool.noConfusion ht)
   refine Sq (Rg (Mv 3 rfl (Ld hM 0 rfl rfl (Sm (((ps T q:Nat):Int)) rfl (by omega) (Mv 2 rfl (St hM 0 rfl ?_))))))
   clear hM;intro w hM
   exact Md 0 [] rfl (Nx (Sq (Rg (Md 1 [2] rfl (Nx (Re (Rb (Rt (Y1 rfl rfl ⟨_,rfl,congrArg Value.bool (congrArg Option.isSome e1.symm),_,hs1,(fun q' hq=>by rw [e1] at hq;exact Option.some.inj hq),hM⟩)))))))))
  have n47:c≠47:=eq_f (d:=47) rfl ht
  refine Sq (Rg (Md 2 [0,7,8] rfl (Nx (Cd rfl (fun ht=> ?_) ((fun ht=> ?_))))))
  ·
   have hcz:c=98:=eq_t (d:=98) rfl ht
   refine Sk (Nx (D2 rfl (fun ht=> ?_) ?_))
   ·
    intro a hF
    (subst hcz;exact Bool.noConfusion ht)
   refine Sq (Rg (Mv 3 rfl (Ld hM 0 rfl rfl (Sm (((ps T q:Nat):Int)) rfl (by omega) (Mv 2 rfl (St hM 0 rfl ?_))))))
   clear hM;intro w hM
   exact Md 0 [] rfl (Nx (Sq (Rg (Md 1 [2] rfl (Nx (Re (Rb (Rt (Y1 rfl rfl ⟨_,rfl,congrArg Value.bool (congrArg Option.isSome e1.symm),_,hs1,(fun q' hq=>by rw [e1] at hq;exact Option.some.inj hq),hM⟩)))))))))
  have n98:c≠98:=eq_f (d:=98) rfl ht
  refine Sq (Rg (Md 2 [0,7,8] rfl (Nx (Cd rfl (fun ht=> ?_) ((fun ht=> ?_))))))
  ·
   have hcz:c=102:=eq_t (d:=102) rfl ht
   refine Sk (Nx (D2 rfl (fun ht=> ?_) ?_))
   ·
    intro a hF
    (subst hcz;exact Bool.noConfusion ht)
   refine Sq (Rg (Mv 3 rfl (Ld hM 0 rfl rfl (Sm (((ps T q:Nat):Int)) rfl (by omega) (Mv 2 rfl (St hM 0 rfl ?_))))))
   clear hM;intro w hM
   exact Md 0 [] rfl (Nx (Sq (Rg (Md 1 [2] rfl (Nx (Re (Rb (Rt (Y1 rfl rfl ⟨_,rfl,congrArg Value.bool (congrArg Option.isSome e1.symm),_,hs1,(fun q' hq=>by rw [e1] at hq;exact Option.some.inj hq),hM⟩)))))))))
  have n102:c≠102:=eq_f (d:=102) rfl ht
  refine Sq (Rg (Md 2 [0,7,8] rfl (Nx (Cd rfl (fun ht=> ?_) ((fun ht=> ?_))))))
  ·
   have hcz:c=110:=eq_t (d:=110) rfl ht
   refine Sk (Nx (D2 rfl (fun ht=> ?_) ?_))
   ·
    intro a hF
    (subst hcz;exact Bool.noConfusion ht)
   refine Sq (Rg (Mv 3 rfl (Ld hM 0 rfl rfl (Sm (((ps T q:Nat):Int)) rfl (by omega) (Mv 2 rfl (St hM 0 rfl ?_))))))
   clear hM;intro w hM
   exact Md 0 [] rfl (Nx (Sq (Rg (Md 1 [2] rfl (Nx (Re (Rb (Rt (Y1 rfl rfl ⟨_,rfl,congrArg Value.bool (congrArg Option.isSome e1.symm),_,hs1,(fun q' hq=>by rw [e1] at hq;exact Option.some.inj hq),hM⟩)))))))))
  have n110:c≠110:=eq_f (d:=110) rfl ht
  refine Sq (Rg (Md 2 [0,7,8] rfl (Nx (Cd rfl (fun ht=> ?_) ((fun ht=> ?_))))))
  ·
   have hcz:c=114:=eq_t (d:=114) rfl ht
   refine Sk (Nx (D2 rfl (fun ht=> ?_) ?_))
   ·
    intro a hF
    (subst hcz;exact Bool.noConfusion ht)
   refine Sq (Rg (Mv 3 rfl (Ld hM 0 rfl rfl (Sm (((ps T q:Nat):Int)) rfl (by omega) (Mv 2 rfl (St hM 0 rfl ?_))))))
   clear hM;intro w hM
   exact Md 0 [] rfl (Nx (Sq (Rg (Md 1 [2] rfl (Nx (Re (Rb (Rt (Y1 rfl rfl ⟨_,rfl,congrArg Value.bool (congrArg Option.isSome e1.symm),_,hs1,(fun q' hq=>by rw [e1] at hq;exact Option.some.inj hq),hM⟩)))))))))
  have n114:c≠114:=eq_f (d:=114) rfl ht
  refine Rg (Md 2 [0,7,8] rfl (Nx (Ce rfl (fun ht=> ?_) ((fun ht=> ?_)))))
  ·
   intro a hF
   (have n116:c≠116:=eq_f (d:=116) rfl ht;exact absurd hesc (by simp [escLetter,n34,n92,n47,n98,n102,n110,n114,n116]))
  have hcz:c=116:=eq_t (d:=116) rfl ht
  refine Sq (Rg (Mv 3 rfl (Ld hM 0 rfl rfl (Sm (((ps T q:Nat):Int)) rfl (by omega) (Mv 2 rfl (St hM 0 rfl ?_))))))
  clear hM;intro w hM
  exact Md 0 [] rfl (Nx (Sq (Rg (Md 1 [2] rfl (Nx (Re (Rb (Rt (Y1 rfl rfl ⟨_,rfl,congrArg Value.bool (congrArg Option.isSome e1.symm),_,hs1,(fun q' hq=>by rw [e1] at hq;exact Option.some.inj hq),hM⟩)))))))))
 ·
  obtain ⟨hs1,hp1,hg1,hlt1⟩:=hs.next
  have e1:pEsc (117::q)=pHex 4 q:=rfl
  refine Rg (Mv 1 rfl (Cl rfl rfl rfl (here_walk hT hs hM) ?_))
  clear hM;intro w v hR
  obtain ⟨rfl,hM⟩:=hR
  refine Md 0 [0,7] rfl (Nx (Bo (Sq (Sq (Rg (Md 2 [0,7,8] rfl (Nx (Cf rfl (Sq (Rg (Md 2 [0,7,8] rfl (Nx (Cf rfl (Sq (Rg (Md 2 [0,7,8] rfl (Nx (Cf rfl (Sq (Rg (Md 2 [0,7,8] rfl (Nx (Cf rfl (Sq (Rg (Md 2 [0,7,8] rfl (Nx (Cf rfl (Sq (Rg (Md 2 [0,7,8] rfl (Nx (Cf rfl (Sq (Rg (Md 2 [0,7,8] rfl (Nx (Cf rfl (Rg (Md 2 [0,7,8] rfl (Nx (Cf rfl (Sq (Rg (Md 2 [0,24] rfl (Nx (Ct rfl (Sq (Rg (Mv 3 rfl (Ld hM 0 rfl rfl (Sm (((ps T q:Nat):Int)) rfl (by omega) (Mv 2 rfl (St hM 0 rfl ?_))))))))))))))))))))))))))))))))))))))))))))))))))))))
  clear hM;intro w hM
  refine Md 0 [0] rfl (Nx (Sq (Sq (Rg (Md 1 [0,3] rfl (Nx (Bo (Kp [0,3] rfl ?_))))))));intro a hF
  refine loopX (fun (x:Nat×Str) a w=>Fr 52 [(0,.pointer (some ⟨b,0,none⟩)),(3,.int .i64 (x.1:Int))] a∧Mem B wc ((b,108,RD T x.2)::L) w∧Sfx T x.2∧x.1≤4∧pHex (4 - x.1) x.2=pHex 4 q) (fun x=>4 - x.1) ((0,q)) ?_ (fun x a w hI=> ?_)
  · exact ⟨hF,hM,hs1,Nat.zero_le _,rfl⟩
  clear hF hM
  clear hs hps hs1
  obtain ⟨k,u⟩:=x
  obtain ⟨hF,hM,hs,hk,hpx⟩:=hI
  simp only at hF hM hs hk hpx
  have hps:=hs.len
  revert a;refine Sq (Sq (Rg (Md 2 [0,3,34] rfl (Nx (Ce rfl (fun ht=> ?_) ((fun ht=> ?_)))))))
  ·
   have hk4:k=4:=by have:=of_decide_eq_false ht;omega
   subst hk4
   have e2:pHex (4 - 4) u=some u:=rfl
   exact Ex (Ot (Ot (Ob (Nx (Sq (Rg (Md 1 [2] rfl (Nx (Re (Rb (Rt (Y1 rfl rfl ⟨_,rfl,congrArg Value.bool (congrArg Option.isSome (e1.trans (hpx.symm.trans e2)).symm),_,hs,(fun q' hq=>by have:=(e1.trans (hpx.symm.trans e2)).symm.trans hq;first | exact Option.some.inj this | cases this),hM⟩))))))))))))
  have hk4:=of_decide_eq_true ht
  refine Sk (Nx (Sq (Bo (Sq (Sq (Rg (Mv 1 rfl (Cl rfl rfl rfl (here_walk hT hs hM) ?_))))))))
  clear hM;intro w v hR
  obtain ⟨rfl,hM⟩:=hR
  refine Cm hM rfl rfl rfl (hexDigit_walk (u.headD 0) _) ?_
  clear hM;intro w v hR hM hBe
  obtain rfl:=hR
  refine Md 5 [0,3,5] rfl (Nx (Sq (Rg (Md 2 [0,3,44] rfl (Nx (Cd rfl (fun ht=> ?_) ((fun ht=> ?_))))))))
  ·
   have hx:(hexVal (u.headD 0)).isSome=false:=by simpa using ht
   have e2:pHex (4 - k) u=none:=by rw [show 4 - k=(4 - (k+1))+1 by omega];cases u with | nil=>rfl | cons c u=>(simp only [pHex];rw [if_neg (by simpa using hx)])
   exact Sq (Rg (Md 1 [2] rfl (Nx (Re (Rt (Rb (Rt (Rt (Rb (Rt (Rb (Rt (Y1 rfl rfl ⟨_,rfl,congrArg Value.bool (congrArg Option.isSome (e1.trans (hpx.symm.trans e2)).symm),_,hs,(fun q' hq=>by have:=(e1.trans (hpx.symm.trans e2)).symm.trans hq;first | exact Option.some.inj this | cases this),hM⟩)))))))))))))
  have hx:(hexVal (u.headD 0)).isSome=true:=by simpa using ht
  obtain ⟨c,u',rfl⟩:∃ c u',u=c::u':=by cases u with | nil=>exact absurd hx (by decide) | cons c u'=>exact ⟨c,u',rfl⟩
  obtain ⟨hs1,hp1,hg1,hlt1⟩:=hs.next
  refine Sk (Nx (Rg (Mv 3 rfl (Ld hM 0 rfl rfl (Sm (((ps T u':Nat):Int)) rfl (by omega) (Mv 2 rfl (St hM 0 rfl ?_)))))))
  clear hM;intro w hM
  refine Md 0 [0,3] rfl (Nb (Nx (Rg (Mv 1 rfl (Sm (((k+1:Nat):Int)) rfl (by omega) (Md 1 [0,3] rfl ?_))))));intro a hF
  exact ⟨(k+1,u'),⟨hF,hM,hs1,by omega,by simp only;rw [←hpx,show 4 - k=(4 - (k+1))+1 by omega];simp only [pHex];exact (if_pos hx).symm⟩,by simp only;omega⟩
 have e1:pEsc (c::q)=none:=by simp [pEsc,hesc,h117]
 refine Rg (Mv 1 rfl (Cl rfl rfl rfl (here_walk hT hs hM) ?_))
 clear hM;intro w v hR
 obtain ⟨rfl,hM⟩:=hR
 refine Md 0 [0,7] rfl (Nx (Bo (Sq (Sq (Rg (Md 2 [0,7,8] rfl (Nx (C1 rfl (fun ht=> ?_) ?_))))))))
 ·
  intro a hF
  (obtain rfl:=eq_t (d:=34) rfl ht;exact absurd hesc (by decide))
 refine Sq (Rg (Md 2 [0,7,8] rfl (Nx (C1 rfl (fun ht=> ?_) ?_))))
 ·
  intro a hF
  (obtain rfl:=eq_t (d:=92) rfl ht;exact absurd hesc (by decide))
 refine Sq (Rg (Md 2 [0,7,8] rfl (Nx (C1 rfl (fun ht=> ?_) ?_))))
 ·
  intro a hF
  (obtain rfl:=eq_t (d:=47) rfl ht;exact absurd hesc (by decide))
 refine Sq (Rg (Md 2 [0,7,8] rfl (Nx (C1 rfl (fun ht=> ?_) ?_))))
 ·
  intro a hF
  (obtain rfl:=eq_t (d:=98) rfl ht;exact absurd hesc (by decide))
 refine Sq (Rg (Md 2 [0,7,8] rfl (Nx (C1 rfl (fun ht=> ?_) ?_))))
 ·
  intro a hF
  (obtain rfl:=eq_t (d:=102) rfl ht;exact absurd hesc (by decide))
 refine Sq (Rg (Md 2 [0,7,8] rfl (Nx (C1 rfl (fun ht=> ?_) ?_))))
 ·
  intro a hF
  (obtain rfl:=eq_t (d:=110) rfl ht;exact absurd hesc (by decide))
 refine Sq (Rg (Md 2 [0,7,8] rfl (Nx (C1 rfl (fun ht=> ?_) ?_))))
 ·
  intro a hF
  (obtain rfl:=eq_t (d:=114) rfl ht;exact absurd hesc (by decide))
 refine Rg (Md 2 [0,7,8] rfl (Nx (C1 rfl (fun ht=> ?_) ?_)))
 ·
  intro a hF
  (obtain rfl:=eq_t (d:=116) rfl ht;exact absurd hesc (by decide))
 exact Sq (Rg (Md 2 [0,24] rfl (Nx (C1 rfl (fun ht=>absurd (eq_t (d:=117) rfl ht) h117) (Sk (Nb (Nx (Sq (Rg (Md 1 [2] rfl (Nx (Re (Y1 rfl rfl ⟨_,rfl,congrArg Value.bool (congrArg Option.isSome e1.symm),_,hs,(fun q' hq=>by rw [e1] at hq;cases hq),hM⟩)))))))))))))

end Go.Sx