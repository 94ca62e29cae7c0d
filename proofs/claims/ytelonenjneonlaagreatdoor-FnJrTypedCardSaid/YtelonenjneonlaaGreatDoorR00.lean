/- Part 0 of the proof of FnJrTyped: the statement Rows.FnJrTypedCardSaid; no further condition. -/
import Derived.ArgAppend
import Derived.Below
import Derived.BigQuiet
import Derived.Deep.AppendLies
import Derived.Deep.CutBlock
import Derived.Deep.DeepCutAuto
import Derived.Deep.Draws
import Derived.Deep.LoopGhost
import Derived.Deep.OwnRows
import Derived.Deep.QuietTactic
import Derived.Deep.RegionHeld3
import Derived.Great.BuildSlice
import Derived.Great.Frames
import Derived.IntWalk
import Derived.KernelRfl
import Derived.Laws.BitsLemmas
import Derived.Laws.BytesArg
import Derived.Laws.BytesString
import Derived.Laws.IdiomCopy
import Derived.Laws.MakeOwn
import Derived.Laws.OwnMore
import Derived.Laws.Rows
import Derived.Laws.Slices
import Derived.Laws.Strings
import Derived.Laws.Tables
import Derived.Lib.AppendStr
import Derived.Lib.ConvBytes
import Derived.Lib.Strings
import Derived.Maps.AppendAt
import Derived.OrdersHeld
import Derived.OwnWalk
import Derived.RegionTactic
import Derived.RowKit
import Derived.RowKit3
import Derived.ScopeJumps
import Derived.Tactics
import Derived.Test.YtelonenjneonlaaGreatDoorProg
import Derived.WalkKit
import Derived.WideLaws
set_option linter.all false
namespace Go.Proofs.YtelonenjneonlaaGreatDoorW.PrintWords
open Go.RowKit
theorem blk_set {w:World}{g:Nat}{t:TypeId}{cs:Array Value}(h:w.heap[g]?=some (.cells cs t (0,0))) (i:Nat) (u:Value):(w.setCell ⟨g,i,none⟩ u).heap[g]?=some (.cells (cs.setIfInBounds i u) t (0,0)):=by
  simp [World.setCell,Array.getElem?_modify,h]
theorem blk_lt {w:World}{g:Nat}{o:Obj}(h:w.heap[g]?=some o):g<w.heap.size:=(Array.getElem?_eq_some_iff.1 h).1
theorem blk_cell {w:World}{g:Nat}{t:TypeId}{cs:Array Value}(h:w.heap[g]?=some (.cells cs t (0,0))) (i:Nat):w.cell? ⟨g,i,none⟩=cs[i]?:=cell_of_row w g i cs t (0,0) h
theorem blk_frozen {w:World}{g:Nat}{t:TypeId}{cs:Array Value}(h:w.heap[g]?=some (.cells cs t (0,0))) (i:Nat):w.frozen? ⟨g,i,none⟩=false:=by simp [World.frozen?,h]
theorem blk_alloc {w:World}{g:Nat}{o:Obj}(h:w.heap[g]?=some o) (o':Obj):(w.alloc o').heap[g]?=some o:=(Below.heap_alloc w o' g (blk_lt h)).trans h
theorem blk_below {w w1:World}{g:Nat}{o:Obj}(h:w.heap[g]?=some o) (hb:Below w.heap.size w w1):w1.heap[g]?=some o:=(hb.block g (blk_lt h)).trans h
theorem blk_new (w:World) (o:Obj):(w.alloc o).heap[w.heap.size]?=some o:=heap_alloc_new w o
inductive Vals (P:Program) (tmps:Array Value) (w:World):List ResultVar→List Value→Prop where
  | nil:Vals P tmps w [] []
  | tmp {u:Tmp}{rs:List ResultVar}{vs:List Value}(h:Vals P tmps w rs vs):Vals P tmps w (.tmp u::rs) (tmps.getD u undef::vs)
  | cell {p:Tmp}{ty:TypeId}{rs:List ResultVar}{vs:List Value}(g:Nat) (t:TypeId) (cs:Array Value) (fr:Nat×Nat) (d:TypeDesc)
      (hp:tmps.getD p undef= .pointer (some ⟨g,0,none⟩)) (hg:w.heap[g]?=some (.cells cs t fr))
      (hu:P.underlying ty=some d) (hd:(match d with | .struct _ | .array _ _=>true | _=>false)=true) (hi:(P.info? ty).map (·.size)=some cs.size)
      (h:Vals P tmps w rs vs):Vals P tmps w (.cell p ty::rs) (.agg cs::vs)
section
variable {P:Program}{tmps:Array Value}{w:World}
theorem vals_run {rs:List ResultVar}{vs:List Value}(hv:Vals P tmps w rs vs) (f:ResultVar→Sem Value) (hf:∀ u,f (.tmp u)=pure (tmps.getD u undef)) (hc:∀ a t,f (.cell a t)=(do loadVar t (←asAddr (tmps.getD a undef)))):
    (rs.mapM f).run P w= .ok vs w:=by
  induction hv with
  | nil=>simp
  | tmp h ih=>simp [List.mapM_cons,hf,ih]
  | cell g t cs fr d hp hg hu hd hi h ih =>
    rw [List.mapM_cons,hc,hp]
    simp [asAddr,run_loadVar_row w g t _ cs fr d hg hu hd hi,ih]
theorem results_list {fn:Func}{rs:List ResultVar}{vs:List Value}(h:fn.results=rs.toArray) (hl:vs.length≠1) (hv:Vals P tmps w rs vs):(results fn tmps).run P w= .ok (.tuple vs.toArray) w:=by
  unfold results
  rw [h,List.mapM_toArray]
  simp only [Sem.run_bind,Sem.run_map]
  rw [vals_run hv]
  · simp [hl]
  · intro u
    rfl
  · intro a t
    rfl
end
end Go.Proofs.YtelonenjneonlaaGreatDoorW.PrintWords
namespace Go.Sx
open Go.RowKit
def look:List (Nat×Value)→Nat→Option Value
  | [],_=>none
  | (j,v)::r,i=>bif Nat.beq j i then some v else look r i
structure Fr (n:Nat) (K:List (Nat×Value)) (a:Act):Prop where
  size:a.tmps.size=n
  defers:a.defers=[]
  at_:∀ i v,look K i=some v→a.tmps.getD i undef=v
def ev (K:List (Nat×Value)):Operand→Option Value
  | .tmp t=>look K t
  | .const v=>some v
  | .global g=>some (.pointer (some ⟨g,0,none⟩))
  | .func f=>some (.func (.func f) #[] #[])
def Sub:List (Nat×Value)→List (Nat×Value)→Prop
  | [],_=>True
  | (i,v)::r,K=>look K i=some v∧Sub r K
theorem Sub.look {K' K:List (Nat×Value)}(h:Sub K' K):∀ i v,look K' i=some v→look K i=some v:=by
  induction K' with
  | nil=>intro i v hv;simp [Sx.look] at hv
  | cons p r ih =>
    obtain ⟨j,u⟩:=p
    intro i v hv
    simp only [Sx.look] at hv
    by_cases e:j=i
    · subst e
      simp at hv
      subst hv
      exact h.1
    · have:Nat.beq j i=false:=Bool.eq_false_iff.2 (fun h=>e (Nat.eq_of_beq_eq_true h))
      rw [this] at hv
      exact ih h.2 i v hv
section
variable {P:Program}{n:Nat}{K:List (Nat×Value)}{a:Act}{w:World}{Q:Exit→Act→World→Prop}
theorem Fr.keep {K':List (Nat×Value)}(h:Fr n K a) (hs:Sub K' K):Fr n K' a:=⟨h.size,h.defers,fun i v hv=>h.at_ i v (hs.look i v hv)⟩
theorem Fr.ev (h:Fr n K a) {x:Operand}{v:Value}(hx:ev K x=some v):a.eval x=v:=by
  cases x with
  | tmp t=>exact h.at_ t v hx
  | const u=>exact Option.some.inj hx
  | global g=>exact Option.some.inj hx
  | func f=>exact Option.some.inj hx
theorem Fr.put (h:Fr n K a) (d:Nat) (v:Value) (hd:d<n):Fr n ((d,v)::K) (a.put (some d) v):=by
  refine ⟨by rw [Go.Act.size_put];exact h.size,by rw [Go.Act.defers_put'];exact h.defers,fun i u hu=> ?_⟩
  simp only [look] at hu
  by_cases e:d=i
  · subst e
    simp at hu
    subst hu
    exact Go.Act.eval_put_same a d v (by rw [h.size];exact hd)
  · have:Nat.beq d i=false:=Bool.eq_false_iff.2 (fun h=>e (Nat.eq_of_beq_eq_true h))
    rw [this] at hu
    exact (Go.Act.eval_put_ne a d i v e).trans (h.at_ i u hu)
theorem next {y:Code}(h:y.wp P Q a w):Exit.then (y.wp P Q) Q .normal a w:=h
theorem seq {x y:Code}(h:x.wp P (Exit.then (y.wp P Q) Q) a w):(Code.seq x y).wp P Q a w:=wp_seq h
theorem cut {x y:Code}(M:Act→World→Prop) (h:x.wp P (Exit.then M Q) a w) (hy:∀ a w,M a w→y.wp P Q a w):(Code.seq x y).wp P Q a w:=by
  refine wp_seq (wp_mono h fun e a w q=> ?_)
  cases e with
  | normal=>exact hy a w q
  | _=>exact q
theorem region {id:Nat}{l:List Oper}(h:wpList P l.toArray Q l a w):(Code.region id l.toArray false).wp P Q a w:=wp_region_lit h
theorem cond (hF:Fr n K a) {c:Operand}{x y:Code}{t:Bool}(hc:ev K c=some (.bool t)) (ht:t=true→x.wp P Q a w) (hf:t=false→y.wp P Q a w):(Code.cond c x y).wp P Q a w:=
  wp_cond_split (hF.ev hc) ht hf
theorem skip (h:Q .normal a w):Code.skip.wp P Q a w:=wp_skip h
theorem out_block {id:Nat}(h:Q .normal a w):Exit.inBlock id Q (.exit id) a w:=by simp only [Exit.inBlock,if_true];exact h
theorem out_past {id id':Nat}(hne:id'≠id) (h:Q (.exit id') a w):Exit.inBlock id Q (.exit id') a w:=by simp only [Exit.inBlock,if_neg hne];exact h
def Jumps (J:Nat→Act→World→Prop) (Q:Exit→Act→World→Prop):Exit→Act→World→Prop
  | .goto l,a,w=>J l a w
  | e,a,w=>Q e a w
variable {ops:Array Oper}{rest:List Oper}{o:Oper}
theorem op_run (hF:Fr n K a) (hg:o.guard=none) {d:Nat}(v:Value) {w':World}(hd:o.dst=some d) (hlt:Nat.blt d n=true)
    (hrun:(execOp a.eval o).run P w= .ok (.value v) w') (h:∀ a',Fr n ((d,v)::K) a'→wpList P ops Q rest a' w'):wpList P ops Q (o::rest) a w:=by
  refine wpList_plain hg fun C hC=> ?_
  unfold Oper.wp
  rw [hrun,Oper.upon_value,hd]
  exact hC _ _ (h _ (hF.put d v (Nat.le_of_ble_eq_true hlt)))
theorem op_unit (hF:Fr n K a) (hg:o.guard=none) {w':World}(hd:o.dst=none)
    (hrun:(execOp a.eval o).run P w= .ok .skip w') (h:∀ a',Fr n K a'→wpList P ops Q rest a' w'):wpList P ops Q (o::rest) a w:=by
  refine wpList_plain hg fun C hC=> ?_
  unfold Oper.wp
  rw [hrun,Oper.upon_skip,hd]
  exact hC _ _ (h _ hF)
def binVal:BinOp→IntKind→Int→Int→Option Value
  | .add,k,x,y=>some (.int k (k.wrap (x+y)))
  | .sub,k,x,y=>some (.int k (k.wrap (x - y)))
  | .mul,k,x,y=>some (.int k (k.wrap (x*y)))
  | .eql,_,x,y=>some (.bool (x==y))
  | .neq,_,x,y=>some (.bool (x !=y))
  | .lss,_,x,y=>some (.bool (decide (x<y)))
  | .leq,_,x,y=>some (.bool (decide (x≤y)))
  | .gtr,_,x,y=>some (.bool (decide (x>y)))
  | .geq,_,x,y=>some (.bool (decide (x≥y)))
  | _,_,_,_=>none
theorem bin_run {op:BinOp}{t:TypeId}{k:IntKind}{x y:Int}{v:Value}(h:binVal op k x y=some v) (w:World):(binOp op t (.int k x) (.int k y)).run P w= .ok v w:=by
  cases op <;> simp only [binVal,reduceCtorEq,Option.some.injEq] at h <;> subst h <;> simp [binOp,Op.intArith,Op.intCmp] <;> rfl
theorem op_bin (hF:Fr n K a) (hg:o.guard=none) {d:Nat}{op:BinOp}{t t':TypeId}{x y:Operand}{k:IntKind}{p q:Int}{v:Value}(hd:o.dst=some d) (hlt:Nat.blt d n=true)
    (hop:o.op= .binOp op t x y t') (hx:ev K x=some (.int k p)) (hy:ev K y=some (.int k q)) (hv:binVal op k p q=some v)
    (h:∀ a',Fr n ((d,v)::K) a'→wpList P ops Q rest a' w):wpList P ops Q (o::rest) a w:=
  op_run hF hg v hd hlt (by
    have e:=bin_run (P:=P) (t:=t) hv w
    simp only [execOp,hop,hF.ev hx,hF.ev hy]
    cases op <;> simp [eqGuard,e] <;> rfl) h
end
def mkS (l:List UInt8):ByteArray:=⟨⟨l⟩⟩
theorem mkS_size (l:List UInt8):(mkS l).size=l.length:=rfl
theorem mkS_extract (l:List UInt8) (a b:Nat):(mkS l).extract a b=mkS ((l.drop a).take (b - a)):=by
  unfold mkS
  rw [ByteArray.extract_mk]
theorem mkS_get (l:List UInt8) (i:Nat) (h:i<(mkS l).size):(mkS l)[i]'h=l[i]'h:=rfl
section
variable {P:Program}{n:Nat}{K:List (Nat×Value)}{a:Act}{w:World}{Q:Exit→Act→World→Prop}
variable {ops:Array Oper}{rest:List Oper}{o:Oper}
theorem op_index_str (hF:Fr n K a) (hg:o.guard=none) {d:Nat}{x i:Operand}{t:TypeId}{l:List UInt8}{k:IntKind}{z:Int}(j:Nat) (c:UInt8) (hd:o.dst=some d) (hlt:Nat.blt d n=true)
    (hop:o.op= .index t x i) (hT:P.underlying t=some .string) (hx:ev K x=some (.string (mkS l))) (hi:ev K i=some (.int k z)) (hz:z=(j:Int)) (hc:l[j]?=some c)
    (h:∀ a',Fr n ((d,.int .u8 (c.toNat:Int))::K) a'→wpList P ops Q rest a' w):wpList P ops Q (o::rest) a w:=
  op_run hF hg _ hd hlt (by
    have hlt':j<l.length:=(List.getElem?_eq_some_iff.1 hc).1
    have e:=run_index_string (P:=P) (w:=w) t (mkS l) k z hT
    rw [dif_pos ⟨by omega,by rw [mkS_size];omega⟩] at e
    have e2:(mkS l)[z.toNat]'(by rw [mkS_size];omega)=c:=by
      subst hz
      simp only [Int.toNat_natCast]
      rw [mkS_get]
      have:=(List.getElem?_eq_some_iff.1 hc).2
      exact this
    rw [e2] at e
    simp only [execOp,hop,hF.ev hx,hF.ev hi]
    simp [e]) h
theorem op_slice_str (hF:Fr n K a) (hg:o.guard=none) {d:Nat}{x i j:Operand}{t:TypeId}{l:List UInt8}{k k':IntKind}{y z:Int}(p q:Nat) (hd:o.dst=some d) (hlt:Nat.blt d n=true)
    (hop:o.op= .slice t x (some i) (some j) none) (hT:P.underlying t=some .string) (hx:ev K x=some (.string (mkS l))) (hi:ev K i=some (.int k y)) (hj:ev K j=some (.int k' z))
    (hy:y=(p:Int)) (hz:z=(q:Int)) (hpq:p≤q) (hq:q≤l.length)
    (h:∀ a',Fr n ((d,.string (mkS ((l.drop p).take (q - p))))::K) a'→wpList P ops Q rest a' w):wpList P ops Q (o::rest) a w:=
  op_run hF hg _ hd hlt (by
    have e:=run_slice_string (P:=P) (w:=w) t (mkS l) k k' y z hT (by omega) (by omega) (by rw [mkS_size];omega)
    subst hy;subst hz
    simp only [Int.toNat_natCast,mkS_extract] at e
    simp only [execOp,hop,Option.map_some,Option.map_none,hF.ev hx,hF.ev hi,hF.ev hj,Instr.sliceAt]
    simp [run_underlying hT,e]) h
theorem op_sliceTo_str (hF:Fr n K a) (hg:o.guard=none) {d:Nat}{x j:Operand}{t:TypeId}{l:List UInt8}{k':IntKind}{z:Int}(q:Nat) (hd:o.dst=some d) (hlt:Nat.blt d n=true)
    (hop:o.op= .slice t x none (some j) none) (hT:P.underlying t=some .string) (hx:ev K x=some (.string (mkS l))) (hj:ev K j=some (.int k' z))
    (hz:z=(q:Int)) (hq:q≤l.length)
    (h:∀ a',Fr n ((d,.string (mkS (l.take q)))::K) a'→wpList P ops Q rest a' w):wpList P ops Q (o::rest) a w:=
  op_run hF hg _ hd hlt (by
    subst hz
    have e:(Instr.slice t (.string (mkS l)) none (some (.int k' (q:Int))) none).run P w= .ok (.string (mkS (l.take q))) w:=by
      have e2:=mkS_extract l 0 q
      simp only [List.drop_zero,Nat.sub_zero] at e2
      simp [Instr.slice,Instr.sliceBounds,Instr.sliceBound,asIntOf,run_underlying hT,mkS_size,hq,e2]
    simp only [execOp,hop,Option.map_some,Option.map_none,hF.ev hx,hF.ev hj,Instr.sliceAt]
    simp [run_underlying hT,e]) h
theorem op_sliceFrom_str (hF:Fr n K a) (hg:o.guard=none) {d:Nat}{x i:Operand}{t:TypeId}{l:List UInt8}{k:IntKind}{y:Int}(p:Nat) (hd:o.dst=some d) (hlt:Nat.blt d n=true)
    (hop:o.op= .slice t x (some i) none none) (hT:P.underlying t=some .string) (hx:ev K x=some (.string (mkS l))) (hi:ev K i=some (.int k y))
    (hy:y=(p:Int)) (hp:p≤l.length)
    (h:∀ a',Fr n ((d,.string (mkS (l.drop p)))::K) a'→wpList P ops Q rest a' w):wpList P ops Q (o::rest) a w:=
  op_run hF hg _ hd hlt (by
    subst hy
    have e:(Instr.slice t (.string (mkS l)) (some (.int k (p:Int))) none none).run P w= .ok (.string (mkS (l.drop p))) w:=by
      have e2:=mkS_extract l p l.length
      rw [List.take_of_length_le (by simp)] at e2
      simp [Instr.slice,Instr.sliceBounds,Instr.sliceBound,asIntOf,run_underlying hT,mkS_size,hp,e2]
    simp only [execOp,hop,Option.map_some,Option.map_none,hF.ev hx,hF.ev hi,Instr.sliceAt]
    simp [run_underlying hT,e]) h
theorem op_conv (hF:Fr n K a) (hg:o.guard=none) {d:Nat}{x:Operand}{s t:TypeId}{k k':IntKind}{z:Int}{u:TypeDesc}(hd:o.dst=some d) (hlt:Nat.blt d n=true)
    (hop:o.op= .convert s t x) (hs:P.underlying s=some u) (hT:P.underlying t=some (.int k')) (hx:ev K x=some (.int k z))
    (h:∀ a',Fr n ((d,.int k' (k'.wrap z))::K) a'→wpList P ops Q rest a' w):wpList P ops Q (o::rest) a w:=
  op_run hF hg _ hd hlt (by
    simp only [execOp,hop,hF.ev hx]
    simp [convert,run_underlying hs,run_underlying hT,Conv.intToInt]) h
theorem op_sum (hF:Fr n K a) (hg:o.guard=none) {d:Nat}{op:BinOp}{t t':TypeId}{x y:Operand}{k:IntKind}{p q:Int}(r:Int) {r':Int}(hd:o.dst=some d) (hlt:Nat.blt d n=true)
    (hop:o.op= .binOp op t x y t') (hx:ev K x=some (.int k p)) (hy:ev K y=some (.int k q)) (hv:binVal op k p q=some (.int k (k.wrap r'))) (he:r'=r) (hr:k.wrap r=r)
    (h:∀ a',Fr n ((d,.int k r)::K) a'→wpList P ops Q rest a' w):wpList P ops Q (o::rest) a w:=
  op_bin hF hg hd hlt hop hx hy (by rw [hv,he,hr]) h
theorem wrap_i64 {r:Int}(h1: -9223372036854775808≤r) (h2:r≤9223372036854775807):IntKind.i64.wrap r=r:=IntWalk.i64_in _ ⟨h1,h2⟩
theorem wanted_of (hF:Fr n K a) {j d0:Nat}{want b:Bool}{oj:Oper}(hg:o.guard=some (j,want)) (hj:ops[j]?=some oj) (hd:oj.dst=some d0) (hlt:Nat.blt d0 n=true) (hb:look K d0=some (.bool b)):
    Region.wanted o (yielded ops a.tmps)=(b==want):=by
  have h1:=hF.at_ d0 _ hb
  have hl:d0<a.tmps.size:=by rw [hF.size];exact Nat.le_of_ble_eq_true hlt
  have h2:a.tmps[d0]?=some (.bool b):=by
    rw [Array.getElem?_eq_getElem hl]
    have:a.tmps.getD d0 undef=a.tmps[d0]:=by simp [Array.getD,hl]
    rw [←this,h1]
  simp [Region.wanted,hg,yielded,hj,hd,h2]
theorem guard_yes (hF:Fr n K a) {j d0:Nat}{want b:Bool}{oj:Oper}(hg:o.guard=some (j,want)) (hj:ops[j]?=some oj) (hd0:oj.dst=some d0) (hlt0:Nat.blt d0 n=true) (hb:look K d0=some (.bool b)) (hne:(b==want)=true)
    (h:wpList P ops Q ({o with guard:=none}::rest) a w):wpList P ops Q (o::rest) a w:=by
  unfold wpList at h ⊢
  rw [wanted_of hF hg hj hd0 hlt0 hb,hne]
  simp only [Region.wanted,if_true] at h ⊢
  rcases h with h | h
  · left
    obtain ⟨d,op,ty,pos,af,g⟩:=o
    exact h
  · right
    obtain ⟨d,op,ty,pos,af,g⟩:=o
    exact h
def plainB:TypeDesc→Bool
  | .struct _ | .array _ _=>false
  | _=>true
theorem op_load1 (hF:Fr n K a) (hg:o.guard=none) {d:Nat}{x:Operand}{t:TypeId}{ad:Addr}{v:Value}{u:TypeDesc}(hd:o.dst=some d) (hlt:Nat.blt d n=true)
    (hop:o.op= .load t x) (hT:P.underlying t=some u) (hu:plainB u=true) (hx:ev K x=some (.pointer (some ad))) (hc:w.cell? ad=some v)
    (h:∀ a',Fr n ((d,v)::K) a'→wpList P ops Q rest a' w):wpList P ops Q (o::rest) a w:=
  op_run hF hg v hd hlt (by
    have e:(isAgg t).run P w= .ok false w:=by
      have h1:=run_underlying (P:=P) (w:=w) hT
      unfold isAgg
      simp only [Sem.run_bind,h1,Result.andThen_ok]
      cases u <;> first | rfl | (simp [plainB] at hu)
    simp only [execOp,hop,hF.ev hx]
    simp [Instr.loadAt,Instr.sureAddr,loadVar,e,load,Sem.run,hc]) h
end
def enum:Nat→List Value→List (Nat×Value)
  | _,[]=> []
  | k,v::l=>(k,v)::enum (k+1) l
theorem look_enum:∀ (l:List Value) (k i:Nat) (v:Value),look (enum k l) i=some v→k≤i∧l[i - k]?=some v
  | [],k,i,v,h=>by simp [enum,look] at h
  | u :: l, k, i, v, h => by
    simp only [enum,look] at h
    by_cases e:k=i
    · subst e
      simp at h
      subst h
      simp
    · have:Nat.beq k i=false:=Bool.eq_false_iff.2 (fun h=>e (Nat.eq_of_beq_eq_true h))
      rw [this] at h
      obtain ⟨h1,h2⟩:=look_enum l (k+1) i v h
      refine ⟨by omega,?_⟩
      rw [show i - k=(i - (k+1))+1 by omega]
      simpa using h2
theorem start (l:List Value) (m:Nat):Fr (l.length+m) (enum 0 l) {tmps:=l.toArray++Array.replicate m undef,defers:=[]}:=by
  refine ⟨by simp,rfl,fun i v h=> ?_⟩
  obtain ⟨-,h2⟩:=look_enum l 0 i v h
  simp only [Nat.sub_zero] at h2
  obtain ⟨hl,hv⟩:=List.getElem?_eq_some_iff.1 h2
  simp [Array.getD,hl,hv,Array.getElem_append]
  omega
section
variable {P:Program}{n:Nat}{K:List (Nat×Value)}{a:Act}{w:World}{Q:Exit→Act→World→Prop}
theorem enter {f:FuncId}{fn:Func}{c:Code}{l:List Value}{R:Ending→World→Prop}(m:Nat) (hf:P.funcs[f]?=some fn) (hb:fn.body=some c) (hm:fn.ntmps - l.length=m)
    (h:∀ a,Fr (l.length+m) (enum 0 l) a→c.wp P (bodyPost P fn R) a w):Calls P f l.toArray w R:=by
  refine calls_of_wp hf hb ?_
  rw [List.size_toArray,hm]
  exact h _ (start l m)
theorem loopX {c:Code}{X:Type}(I:X→Act→World→Prop) (μ:X→Nat) (x:X) (h₀:I x a w)
    (round:∀ x a w,I x a w→c.wp P (Exit.then (fun a' w'=>∃ x',I x' a' w'∧μ x'<μ x) Q) a w):(Code.loop c).wp P Q a w:=by
  intro b k cs
  have key:∀ n x a w,μ x=n→I x a w→∃ e a' w',Q e a' w'∧Arrives P (lone (b.at a (.code c:: .inLoop c::k)) cs w) b k cs e a' w':=by
    intro n
    induction n using Nat.strongRecOn with
    | _ n ih =>
      intro x a w hn hI
      obtain ⟨e,a₁,w₁,hq,harr⟩:=round x a w hI b (.inLoop c::k) cs
      cases e with
      | normal =>
        obtain ⟨x',hI₁,hlt⟩:=hq
        obtain ⟨e₂,a₂,w₂,hq₂,harr₂⟩:=ih (μ x') (hn▸hlt) x' a₁ w₁ rfl hI₁
        exact ⟨e₂,a₂,w₂,hq₂,.of_steps (Steps.trans harr (.one step_inLoop)) harr₂⟩
      | exit id=>exact ⟨_,a₁,w₁,hq,.pass (x:= .inLoop c) rfl (fun _ _=> .inl (by simp)) harr⟩
      | goto l=>exact ⟨_,a₁,w₁,hq,.pass (x:= .inLoop c) rfl (fun _ _=> .inl (by simp)) harr⟩
      | ret=>exact ⟨_,a₁,w₁,hq,.pass (x:= .inLoop c) rfl (fun _ _=> .inl (by simp)) harr⟩
      | panic ch=>exact ⟨_,a₁,w₁,hq,.pass (x:= .inLoop c) rfl (fun _ _=> .inl (by simp)) harr⟩
      | outgrown=>exact ⟨_,a₁,w₁,hq,.pass (x:= .inLoop c) rfl (fun _ _=> .inl (by simp)) harr⟩
  obtain ⟨e,a',w',hq,harr⟩:=key _ x a w rfl h₀
  exact ⟨e,a',w',hq,.of_steps (.one step_loop) harr⟩
def PassOf (P:Program) (c:Code) {X:Type}(J:Nat→X→Act→World→Prop) (μ:Nat→X→Nat) (Q:Exit→Act→World→Prop) (l:Nat):Prop:=
  ∀ x a w,J l x a w→∃ rest,findLabel c l=some (.seq .skip rest)∧rest.wp P (Jumps (fun l' a' w'=>∃ x',J l' x' a' w'∧μ l' x'<μ l x) Q) a w
theorem scopeZ {c:Code}{X:Type}(J:Nat→X→Act→World→Prop) (μ:Nat→X→Nat) (rank:Nat→Nat)
    (pass:∀ l,(∀ l',rank l'<rank l→PassOf P c J μ Q l')→PassOf P c J μ Q l)
    (first:(∀ l,PassOf P c J μ Q l)→c.wp P (Jumps (fun l a w=>∃ x,J l x a w) Q) a w):(Code.scope c).wp P Q a w:=by
  have all:∀ n l,rank l=n→PassOf P c J μ Q l:=by
    intro n
    induction n using Nat.strongRecOn with
    | _ n ih=>intro l hl;exact pass l (fun l' h'=>ih _ (hl▸h') l' rfl)
  have all':∀ l,PassOf P c J μ Q l:=fun l=>all _ l rfl
  have first:=first all'
  intro b k cs
  have key:∀ m l x a w,μ l x=m→J l x a w→∀ rest,findLabel c l=some rest→∃ e a' w',Q e a' w'∧Arrives P (lone (b.at a (.code rest:: .inScope c::k)) cs w) b k cs e a' w':=by
    intro m
    induction m using Nat.strongRecOn with
    | _ m ih =>
      intro l x a w hm hJ rest hr
      obtain ⟨rest',hr',hw⟩:=all' l x a w hJ
      rw [hr] at hr'
      obtain rfl:=Option.some.inj hr'
      obtain ⟨e,a₁,w₁,hq,harr⟩:=wp_seq (wp_skip (Q:=Exit.then (rest'.wp P _) _) hw) b (.inScope c::k) cs
      cases e with
      | normal=>exact ⟨.normal,a₁,w₁,hq,Steps.trans harr (.one step_inScope)⟩
      | exit id=>exact ⟨.exit id,a₁,w₁,hq,fun k' hk=>harr k' (by simp [exitTo,hk])⟩
      | goto l' =>
        obtain ⟨x',hJ',hlt⟩:=hq
        obtain ⟨rest2,hr2,_⟩:=all' l' x' a₁ w₁ hJ'
        obtain ⟨e₂,a₂,w₂,hq₂,harr₂⟩:=ih _ (by omega) l' x' a₁ w₁ rfl hJ' _ hr2
        exact ⟨e₂,a₂,w₂,hq₂,.of_steps (harr _ (by simp [gotoIn,hr2])) harr₂⟩
      | ret=>exact ⟨_,a₁,w₁,hq,harr⟩
      | panic ch=>exact ⟨_,a₁,w₁,hq,harr⟩
      | outgrown=>exact ⟨_,a₁,w₁,hq,harr⟩
  obtain ⟨e,a₁,w₁,hq,harr⟩:=first b (.inScope c::k) cs
  cases e with
  | normal=>exact ⟨.normal,a₁,w₁,hq,.head step_scope (Steps.trans harr (.one step_inScope))⟩
  | exit id=>exact ⟨.exit id,a₁,w₁,hq,fun k' hk=> .head step_scope (harr k' (by simp [exitTo,hk]))⟩
  | goto l =>
    obtain ⟨x,hJ⟩:=hq
    obtain ⟨rest,hr,_⟩:=all' l x a₁ w₁ hJ
    obtain ⟨e₂,a₂,w₂,hq₂,harr₂⟩:=key _ l x a₁ w₁ rfl hJ _ hr
    exact ⟨e₂,a₂,w₂,hq₂,.of_steps (.head step_scope (harr _ (by simp [gotoIn,hr]))) harr₂⟩
  | ret=>exact ⟨_,a₁,w₁,hq,.of_steps (.one step_scope) harr⟩
  | panic ch=>exact ⟨_,a₁,w₁,hq,.of_steps (.one step_scope) harr⟩
  | outgrown=>exact ⟨_,a₁,w₁,hq,.of_steps (.one step_scope) harr⟩
theorem fall {c:Code}{rest:Code}{X:Type}{J:Nat→X→Act→World→Prop}{μ:Nat→X→Nat}{Q':Exit→Act→World→Prop}{l:Nat}(x:X) (pass:PassOf P c J μ Q l) (hJ:J l x a w) (hr:findLabel c l=some (.seq .skip rest))
    (hq:∀ e a w,Jumps (fun l' a' w'=>∃ x',J l' x' a' w'∧μ l' x'<μ l x) Q e a w→Q' e a w):(Code.seq (.label l) rest).wp P Q' a w:=by
  obtain ⟨r,h1,h2⟩:=pass x a w hJ
  rw [hr] at h1
  injection h1 with h1
  injection h1 with _ h1
  subst h1
  exact wp_seq (wp_label (wp_mono h2 hq))
theorem jumps_mono {J J':Nat→Act→World→Prop}(h:∀ l a w,J l a w→J' l a w):∀ e a w,Jumps J Q e a w→Jumps J' Q e a w:=by
  intro e a w q
  cases e with
  | goto l=>exact h l a w q
  | _=>exact q
variable {ops:Array Oper}{rest:List Oper}{o:Oper}
theorem op_conv_to (hF:Fr n K a) (hg:o.guard=none) {d:Nat}{x:Operand}{s t:TypeId}{k k':IntKind}{z:Int}{u:TypeDesc}(hd:o.dst=some d) (hlt:Nat.blt d n=true)
    (hop:o.op= .convert s t x) (hs:P.underlying s=some u) (hT:P.underlying t=some (.int k')) (hx:ev K x=some (.int k z)) (hr:k'.wrap z=z)
    (h:∀ a',Fr n ((d,.int k' z)::K) a'→wpList P ops Q rest a' w):wpList P ops Q (o::rest) a w:=
  op_conv hF hg hd hlt hop hs hT hx (by rw [hr];exact h)
theorem wrap_i32 {r:Int}(h1: -2147483648≤r) (h2:r≤2147483647):IntKind.i32.wrap r=r:=IntWalk.i32_in _ ⟨h1,h2⟩
theorem ret1 {fn:Func}{R:Ending→World→Prop}{t:Tmp}{x:Value}(hF:Fr n K a) (h:fn.results= #[.tmp t]) (hx:look K t=some x) (hR:R (.returned x) w):bodyPost P fn R .ret a w:=
  bodyPost_ret (results_tmp h _ _ _) hF.defers (by rw [hF.at_ t x hx];exact hR)
theorem ret2 {fn:Func}{R:Ending→World→Prop}{t u:Tmp}{x y:Value}(hF:Fr n K a) (h:fn.results= #[.tmp t,.tmp u]) (hx:look K t=some x) (hy:look K u=some y)
    (hR:R (.returned (.tuple #[x,y])) w):bodyPost P fn R .ret a w:=
  bodyPost_ret (results_tmp2 h _ _ _) hF.defers (by rw [hF.at_ t x hx,hF.at_ u y hy];exact hR)
theorem endNone {fn:Func}{R:Ending→World→Prop}(hF:Fr n K a) (h:fn.results= #[]) (hR:R (.returned (.tuple #[])) w):bodyPost P fn R .normal a w:=
  bodyPost_end (results_none h _ _ _) hF.defers hR
theorem ret3 {fn:Func}{R:Ending→World→Prop}{t u v:Tmp}{x y z:Value}(hF:Fr n K a) (h:fn.results= #[.tmp t,.tmp u,.tmp v]) (hx:look K t=some x) (hy:look K u=some y) (hz:look K v=some z)
    (hR:R (.returned (.tuple #[x,y,z])) w):bodyPost P fn R .ret a w:=
  bodyPost_ret (v:= .tuple #[a.tmps.getD t undef,a.tmps.getD u undef,a.tmps.getD v undef]) (by simp [results,h]) hF.defers (by rw [hF.at_ t x hx,hF.at_ u y hy,hF.at_ v z hz];exact hR)
theorem ret4 {fn:Func}{R:Ending→World→Prop}{t u v s:Tmp}{x y z q:Value}(hF:Fr n K a) (h:fn.results= #[.tmp t,.tmp u,.tmp v,.tmp s]) (hx:look K t=some x) (hy:look K u=some y) (hz:look K v=some z) (hq:look K s=some q)
    (hR:R (.returned (.tuple #[x,y,z,q])) w):bodyPost P fn R .ret a w:=
  bodyPost_ret (v:= .tuple #[a.tmps.getD t undef,a.tmps.getD u undef,a.tmps.getD v undef,a.tmps.getD s undef]) (by simp [results,h]) hF.defers (by rw [hF.at_ t x hx,hF.at_ u y hy,hF.at_ v z hz,hF.at_ s q hq];exact hR)
theorem draw {id:Nat}{l:List Oper}(hm:P.follows .mixedOrders=true) (h:wpAny P .any l.toArray Q l.length (Array.replicate l.length false) a w.drew):(Code.region id l.toArray true).wp P Q a w:=
  wp_region_any hm (by simpa using h)
variable {md:Region.Mode}{ops:Array Oper}{fuel:Nat}{listed:Array Bool}
theorem take (i:Nat) {oi:Oper}{d:Nat}{v:Value}(hF:Fr n K a) (hi:ops[i]?=some oi) (hs:Region.noSelect ops=true) (hf:Region.free md ops listed i=true) (hr:(Region.ready md ops listed).contains i=true)
    (hQ:∀ c a w,Q (.panic c) (a.put (some d) v) w→Q (.panic c) a w) (hg:oi.guard=none) (hd:oi.dst=some d) (hlt:Nat.blt d n=true) (hy:∀ w,(execOp a.eval oi).run P w= .ok (.value v) w)
    (h:∀ a',Fr n ((d,v)::K) a'→wpAny P md ops Q fuel (listed.setIfInBounds i true) a' w):wpAny P md ops Q (fuel+1) listed a w:=
  wpAny_take hi hs hf hr (by rw [hd];exact hQ) (.inl ⟨by simp [Region.wanted,hg],hy⟩) (by rw [hd];exact h _ (hF.put d v (Nat.le_of_ble_eq_true hlt)))
theorem only (i:Nat) {oi:Oper}{d:Nat}{v:Value}{w':World}(hF:Fr n K a) (hi:ops[i]?=some oi) (hr:Region.ready md ops listed=[i])
    (hg:oi.guard=none) (hd:oi.dst=some d) (hlt:Nat.blt d n=true) (hy:(execOp a.eval oi).run P w= .ok (.value v) w')
    (h:∀ a',Fr n ((d,v)::K) a'→wpAny P md ops Q fuel (listed.setIfInBounds i true) a' w'):wpAny P md ops Q (fuel+1) listed a w:=by
  refine wpAny_all hr (by simp) fun j hj=> ?_
  obtain rfl:=List.mem_singleton.1 hj
  refine wpOp_step hi (fun K' hK=> ?_)
  rw [if_pos (by simp [Region.wanted,hg])]
  unfold Oper.wp
  rw [hy,Oper.upon_value,hd]
  exact hK _ _ (h _ (hF.put d v (Nat.le_of_ble_eq_true hlt)))
theorem gives_move {o:Oper}{x:Operand}{v:Value}(hF:Fr n K a) (hop:o.op= .move x) (hx:ev K x=some v) (w:World):(execOp a.eval o).run P w= .ok (.value v) w:=by
  simp only [execOp,hop,hF.ev hx];rfl
theorem gives_assign {o:Oper}{x:Operand}{v:Value}(hF:Fr n K a) (hop:o.op= .assign x) (hx:ev K x=some v) (w:World):(execOp a.eval o).run P w= .ok (.value v) w:=by
  simp only [execOp,hop,hF.ev hx];rfl
theorem gives_bin {o:Oper}{op:BinOp}{t t':TypeId}{x y:Operand}{k:IntKind}{p q:Int}{v:Value}(hF:Fr n K a) (hop:o.op= .binOp op t x y t') (hx:ev K x=some (.int k p)) (hy:ev K y=some (.int k q)) (hv:binVal op k p q=some v) (w:World):
    (execOp a.eval o).run P w= .ok (.value v) w:=by
  have e:=bin_run (P:=P) (t:=t) hv w
  simp only [execOp,hop,hF.ev hx,hF.ev hy]
  cases op <;> simp [eqGuard,e] <;> rfl
theorem gives_sum {o:Oper}{op:BinOp}{t t':TypeId}{x y:Operand}{k:IntKind}{p q r':Int}(hF:Fr n K a) (hop:o.op= .binOp op t x y t') (hx:ev K x=some (.int k p)) (hy:ev K y=some (.int k q)) (r:Int)
    (hv:binVal op k p q=some (.int k (k.wrap r'))) (he:r'=r) (hr:k.wrap r=r) (w:World):(execOp a.eval o).run P w= .ok (.value (.int k r)) w:=
  gives_bin hF hop hx hy (by rw [hv,he,hr]) w
theorem gives_slice_str {o:Oper}{x i j:Operand}{t:TypeId}{l:List UInt8}{k k':IntKind}{y z:Int}(p q:Nat) (hF:Fr n K a) (hop:o.op= .slice t x (some i) (some j) none)
    (hT:P.underlying t=some .string) (hx:ev K x=some (.string (mkS l))) (hi:ev K i=some (.int k y)) (hj:ev K j=some (.int k' z)) (hy:y=(p:Int)) (hz:z=(q:Int)) (hpq:p≤q) (hq:q≤l.length) (w:World):
    (execOp a.eval o).run P w= .ok (.value (.string (mkS ((l.drop p).take (q - p))))) w:=by
  have e:=run_slice_string (P:=P) (w:=w) t (mkS l) k k' y z hT (by omega) (by omega) (by rw [mkS_size];omega)
  subst hy;subst hz
  simp only [Int.toNat_natCast,mkS_extract] at e
  simp only [execOp,hop,Option.map_some,Option.map_none,hF.ev hx,hF.ev hi,hF.ev hj,Instr.sliceAt]
  simp [run_underlying hT,e]
theorem drawn {h0:Region.ready md ops listed=[]}(h:Q .normal a w):wpAny P md ops Q fuel listed a w:=wpAny_done h0 h fuel
end
open Go.Proofs
def valB (K:List (Nat×Value)):Op→Option Value
  | .move x=>ev K x
  | .assign x=>ev K x
  | .pick c x y => match ev K c with
    | some (.bool true)=>ev K x
    | some (.bool false)=>ev K y
    | _=>none
  | .unOp .not _ x => match ev K x with
    | some (.bool b)=>some (.bool (!b))
    | _=>none
  | .extract x i => match ev K x with
    | some (.tuple vs)=>vs.toList[i]?
    | _=>none
  | .binOp op _ x y _ => match ev K x, ev K y with
    | some (.int k p),some (.int k' q)=>if k=k' then binVal op k p q else none
    | _,_=>none
  | _=>none
def pickK:List Nat→List (Nat×Value)→Option (List (Nat×Value))
  | [],_=>some []
  | k :: ks, K => match look K k, pickK ks K with
    | some v,some r=>some ((k,v)::r)
    | _,_=>none
section
variable {P:Program}{n:Nat}{K:List (Nat×Value)}{a:Act}{w:World}{Q:Exit→Act→World→Prop}{ops:Array Oper}{rest:List Oper}{o:Oper}
theorem pickK_sub:∀ (ks:List Nat) {K':List (Nat×Value)},pickK ks K=some K'→Sub K' K
  | [],K',h=>by simp only [pickK,Option.some.injEq] at h;subst h;trivial
  | k :: ks, K', h => by
    simp only [pickK] at h
    split at h
    · rename_i v r h1 h2
      obtain rfl:=Option.some.inj h
      exact ⟨h1,pickK_sub ks h2⟩
    · cases h
theorem Fr.kp (h:Fr n K a) (ks:List Nat) {K':List (Nat×Value)}(hs:pickK ks K=some K'):Fr n K' a:=h.keep (pickK_sub ks hs)
theorem valB_run (hF:Fr n K a) {v:Value}(h:valB K o.op=some v):(execOp a.eval o).run P w= .ok (.value v) w:=by
  unfold valB at h
  split at h
  · rename_i x e;simp only [execOp,e,hF.ev h];rfl
  · rename_i x e;simp only [execOp,e,hF.ev h];rfl
  · rename_i c x y e
    split at h
    · rename_i hc;simp only [execOp,e,hF.ev hc,hF.ev h];rfl
    · rename_i hc;simp only [execOp,e,hF.ev hc,hF.ev h];rfl
    · cases h
  · rename_i t x e
    split at h
    · rename_i b hx;obtain rfl:=Option.some.inj h;simp only [execOp,e,hF.ev hx];rfl
    · cases h
  · rename_i x i e
    split at h
    · rename_i vs hx
      have e2:vs[i]?=some v:=by simpa using h
      simp only [execOp,e,hF.ev hx]
      simp [Instr.extract,e2]
    · cases h
  · rename_i op t x y t' e
    split at h
    · rename_i k p k' q hx hy
      split at h
      · rename_i hk
        subst hk
        have e2:=bin_run (P:=P) (t:=t) h w
        simp only [execOp,e,hF.ev hx,hF.ev hy]
        cases op <;> simp [eqGuard,e2] <;> rfl
      · cases h
    · cases h
  · cases h
theorem cutF {x y:Code}(M:Act→World→Prop) (hy:∀ a w,M a w→y.wp P Q a w) (h:x.wp P (Exit.then M Q) a w):(Code.seq x y).wp P Q a w:=cut M h hy
end
open Go.Proofs.YtelonenjneonlaaGreatDoorW.PrintWords
abbrev Bk:=Nat×TypeId×List Value
structure Mem (B:Nat) (w0:World) (L:List Bk) (w:World):Prop where
  below:Below B w0 w
  base:B≤w.heap.size
  held:∀ x∈L,B≤x.1∧w.heap[x.1]?=some (.cells x.2.2.toArray x.2.1 (0,0))
  apart:L.Pairwise (fun x y=>x.1≠y.1)
theorem Mem.start {B:Nat}{w:World}(h:B≤w.heap.size):Mem B w [] w:=⟨Below.refl _ _,h,by simp,.nil⟩
theorem MS0 (w:World):Mem w.heap.size w [] w:=Mem.start (Nat.le_refl _)
theorem Mem.alloc {B:Nat}{w0 w:World}{L:List Bk}(h:Mem B w0 L w) (t:TypeId) (vs:List Value):Mem B w0 ((w.heap.size,t,vs)::L) (w.alloc (.cells vs.toArray t (0,0))):=by
  refine ⟨h.below.alloc h.base _,by simp;have:=h.base;omega,?_,?_⟩
  · intro x hx
    rcases List.mem_cons.1 hx with rfl | hx
    · exact ⟨h.base,blk_new _ _⟩
    · exact ⟨(h.held x hx).1,blk_alloc (h.held x hx).2 _⟩
  · refine List.pairwise_cons.2 ⟨fun x hx=> ?_,h.apart⟩
    have:=blk_lt (h.held x hx).2
    omega
theorem Mem.blk {B:Nat}{w0 w:World}{L:List Bk}(h:Mem B w0 L w) {k b:Nat}{t:TypeId}{vs:List Value}(hk:L[k]?=some (b,t,vs)):B≤b∧w.heap[b]?=some (.cells vs.toArray t (0,0)):=
  h.held _ (List.mem_of_getElem? hk)
theorem Mem.drop {B:Nat}{w0 w:World}{L L':List Bk}(h:Mem B w0 L w) (hs:L'.Sublist L):Mem B w0 L' w:=
  ⟨h.below,h.base,fun x hx=>h.held x (hs.subset hx),h.apart.sublist hs⟩
theorem Mem.step {B:Nat}{w0 w w':World}{L:List Bk}(h:Mem B w0 L w) (hb:Below w.heap.size w w'):Mem B w0 L w':=
  ⟨h.below.trans (hb.mono h.base),Nat.le_trans h.base hb.size,fun x hx=>⟨(h.held x hx).1,blk_below (h.held x hx).2 hb⟩,h.apart⟩
theorem Mem.drew {B:Nat}{w0 w:World}{L:List Bk}(h:Mem B w0 L w):Mem B w0 L w.drew:=⟨h.below.drew,h.base,h.held,h.apart⟩
theorem apart_ne {L:List Bk}(h:L.Pairwise (fun x y=>x.1≠y.1)) {k j:Nat}{x y:Bk}(hk:L[k]?=some x) (hj:L[j]?=some y) (hne:k≠j):x.1≠y.1:=by
  obtain ⟨h1,e1⟩:=List.getElem?_eq_some_iff.1 hk
  obtain ⟨h2,e2⟩:=List.getElem?_eq_some_iff.1 hj
  subst e1;subst e2
  rcases Nat.lt_or_gt_of_ne hne with hl | hl
  · exact List.pairwise_iff_getElem.1 h k j h1 h2 hl
  · exact fun e=>List.pairwise_iff_getElem.1 h j k h2 h1 hl e.symm
theorem Mem.turn {B:Nat}{w0 w w':World}{L:List Bk}(h:Mem B w0 L w) {k b:Nat}{t:TypeId}{vs us:List Value}(hk:L[k]?=some (b,t,vs))
    (hb:Below B w w') (hsz:w.heap.size≤w'.heap.size) (hnew:w'.heap[b]?=some (.cells us.toArray t (0,0))) (hold:∀ g,g<w.heap.size→g≠b→w'.heap[g]?=w.heap[g]?):Mem B w0 (L.set k (b,t,us)) w':=by
  have hkl:k<L.length:=(List.getElem?_eq_some_iff.1 hk).1
  have hB:=(h.blk hk).1
  refine ⟨h.below.trans hb,Nat.le_trans h.base hsz,?_,?_⟩
  · intro x hx
    obtain ⟨j,hj⟩:=List.mem_iff_getElem?.1 hx
    rw [List.getElem?_set] at hj
    split at hj
    · subst_vars
      simp only [hkl,if_true,Option.some.injEq] at hj
      subst hj
      exact ⟨hB,hnew⟩
    · have hm:=h.held x (List.mem_of_getElem? hj)
      have hne:x.1≠b:=apart_ne h.apart hj hk (by omega)
      exact ⟨hm.1,(hold _ (blk_lt hm.2) hne).trans hm.2⟩
  · rw [List.pairwise_iff_getElem]
    intro i j hi hj hij
    rw [List.length_set] at hi hj
    have e:∀ (m:Nat) (hm:m<L.length),((L.set k (b,t,us))[m]'(by rw [List.length_set];exact hm)).1=(L[m]'hm).1:=by
      intro m hm
      rw [List.getElem_set]
      split
      · subst_vars
        have:=(List.getElem?_eq_some_iff.1 hk).2
        rw [this]
      · rfl
    rw [e i hi,e j hj]
    exact List.pairwise_iff_getElem.1 h.apart i j hi hj hij
theorem Mem.set {B:Nat}{w0 w:World}{L:List Bk}(h:Mem B w0 L w) {k b:Nat}{t:TypeId}{vs:List Value}(hk:L[k]?=some (b,t,vs)) (i:Nat) (u:Value):Mem B w0 (L.set k (b,t,vs.set i u)) (w.setCell ⟨b,i,none⟩ u):=by
  refine h.turn hk ((Below.refl _ _).setCell (h.blk hk).1 _) (by simp) ?_ (fun g _ hne=>Below.heap_setCell _ _ _ _ hne)
  have:=blk_set (h.blk hk).2 i u
  rw [this]
  simp
section
variable {P:Program}{n:Nat}{K:List (Nat×Value)}{a:Act}{w:World}{Q:Exit→Act→World→Prop}
variable {ops:Array Oper}{rest:List Oper}{o:Oper}{B:Nat}{w0:World}{L:List Bk}
theorem gives_fieldAddr (hF:Fr n K a) {x:Operand}{t:TypeId}{f b j:Nat}(off:Nat) (hop:o.op= .fieldAddr t x f) (hx:ev K x=some (.pointer (some ⟨b,j,none⟩)))
    (hr:∀ ad w,(Instr.fieldAt t (.pointer (some ad)) f).run P w= .ok (.pointer (some (ad.add off))) w) (w:World):(execOp a.eval o).run P w= .ok (.value (.pointer (some ⟨b,j+off,none⟩))) w:=by
  have e:=hr ⟨b,j,none⟩ w
  have hadd:(⟨b,j,none⟩:Addr).add off=⟨b,j+off,none⟩:=by unfold Addr.add;split <;> simp_all
  rw [hadd] at e
  simp only [execOp,hop,hF.ev hx]
  simp [e]
theorem gives_load (hF:Fr n K a) (hM:Mem B w0 L w) {x:Operand}{t t0:TypeId}{u:TypeDesc}{b j:Nat}{vs:List Value}{v:Value}(k:Nat) (hop:o.op= .load t x) (hT:P.underlying t=some u) (hu:plainB u=true)
    (hx:ev K x=some (.pointer (some ⟨b,j,none⟩))) (hk:L[k]?=some (b,t0,vs)) (hv:vs[j]?=some v):(execOp a.eval o).run P w= .ok (.value v) w:=by
  have hc:w.cell? ⟨b,j,none⟩=some v:=by rw [blk_cell (hM.blk hk).2];simpa using hv
  have e:(isAgg t).run P w= .ok false w:=by
    have h1:=run_underlying (P:=P) (w:=w) hT
    unfold isAgg
    simp only [Sem.run_bind,h1,Result.andThen_ok]
    cases u <;> first | rfl | (simp [plainB] at hu)
  simp only [execOp,hop,hF.ev hx]
  simp [Instr.loadAt,Instr.sureAddr,loadVar,e,load,Sem.run,hc]
theorem gives_loadA (hF:Fr n K a) (hM:Mem B w0 L w) {x:Operand}{t t0:TypeId}{u:TypeDesc}{b:Nat}{vs:List Value}(k:Nat) (hop:o.op= .load t x) (hT:P.underlying t=some u) (hu:plainB u=false)
    (hi:(P.info? t).map (·.size)=some vs.length) (hx:ev K x=some (.pointer (some ⟨b,0,none⟩))) (hk:L[k]?=some (b,t0,vs)):(execOp a.eval o).run P w= .ok (.value (.agg vs.toArray)) w:=by
  have e:=run_loadVar_row (P:=P) w b t0 t vs.toArray (0,0) u (hM.blk hk).2 hT (by cases u <;> first | rfl | (simp [plainB] at hu)) (by simpa using hi)
  simp only [execOp,hop,hF.ev hx]
  simp [Instr.loadAt,Instr.sureAddr,e]
theorem does_store (hF:Fr n K a) (hM:Mem B w0 L w) {x y:Operand}{t t0:TypeId}{b j:Nat}{vs:List Value}{v:Value}(k:Nat) (hop:o.op= .store t x y) (hi:(P.info? t).map (·.size)=some 1)
    (hx:ev K x=some (.pointer (some ⟨b,j,none⟩))) (hy:ev K y=some v) (hv:v.oneCell'=true) (hk:L[k]?=some (b,t0,vs)) (hj:j<vs.length):
    ∃ w',(execOp a.eval o).run P w= .ok .skip w'∧Mem B w0 (L.set k (b,t0,vs.set j v)) w':=by
  refine ⟨_,?_,hM.set hk j v⟩
  obtain ⟨i,hq,hs⟩:=Option.map_eq_some_iff.1 hi
  have hc:w.cell? ⟨b,j,none⟩=some vs[j]:=by rw [blk_cell (hM.blk hk).2];simp [hj]
  have hcells:v.cells= #[v]:=by cases v <;> first | rfl | (simp [Value.oneCell'] at hv)
  have hadd:(⟨b,j,none⟩:Addr).add 0=⟨b,j,none⟩:=by unfold Addr.add;split <;> simp_all
  have e:(store ⟨b,j,none⟩ v).run P w= .ok () (w.setCell ⟨b,j,none⟩ v):=by
    rw [run_store P w _ v _ hv,hc]
    simp [blk_frozen (hM.blk hk).2]
  simp only [execOp,hop,hF.ev hx,hF.ev hy]
  simp [Instr.storeAt,Instr.sureAddr,storeVar,hcells,sizeOf,typeInfo,hq,hs,storeCells,hadd,e]
theorem does_storeA (hF:Fr n K a) (hM:Mem B w0 L w) {x y:Operand}{t t0:TypeId}{b:Nat}{vs us:List Value}(k:Nat) (hop:o.op= .store t x y) (hi:(P.info? t).map (·.size)=some us.length)
    (hx:ev K x=some (.pointer (some ⟨b,0,none⟩))) (hy:ev K y=some (.agg us.toArray)) (hv:us.all (·.oneCell')=true) (hk:L[k]?=some (b,t0,vs)) (hl:vs.length=us.length):
    ∃ w',(execOp a.eval o).run P w= .ok .skip w'∧Mem B w0 (L.set k (b,t0,us)) w':=by
  have hb:=(hM.blk hk).2
  have e:=run_storeVar_row (P:=P) w b t0 t vs.toArray us.toArray hb (by simpa using hi) (by simpa using hl) (by simpa using hv)
  refine ⟨w.setRow b us.toArray,?_,?_⟩
  · simp only [execOp,hop,hF.ev hx,hF.ev hy]
    simp [Instr.storeAt,Instr.sureAddr,e]
  · have hlt:=blk_lt hb
    have hrow:(w.setRow b us.toArray).heap[b]?=some (.cells us.toArray t0 (0,0)):=by
      unfold World.setRow
      rw [Array.getElem?_modify,if_pos rfl,hb]
      rfl
    have hoth:∀ g,g≠b→(w.setRow b us.toArray).heap[g]?=w.heap[g]?:=by
      intro g hg
      unfold World.setRow
      simp [Array.getElem?_modify,Ne.symm hg]
    refine hM.turn hk ⟨rfl,rfl,rfl,by simp [World.setRow],fun g hg=>hoth g (by have:=(hM.blk hk).1;omega)⟩ (by simp [World.setRow]) hrow (fun g _ hg=>hoth g hg)
theorem does_alloc (hM:Mem B w0 L w) {t:TypeId}{vs:List Value}(hop:o.op= .alloc t) (hi:((P.info? t).bind (·.zero)).map (·.cells)=some vs.toArray):
    ∃ b w',(execOp a.eval o).run P w= .ok (.value (.pointer (some ⟨b,0,none⟩))) w'∧Mem B w0 ((b,t,vs)::L) w':=by
  obtain ⟨z,hz,hc⟩:=Option.map_eq_some_iff.1 hi
  obtain ⟨i,hi,hz⟩:=Option.bind_eq_some_iff.1 hz
  refine ⟨w.heap.size,w.alloc (.cells vs.toArray t (0,0)),?_,hM.alloc t vs⟩
  simp only [execOp,hop]
  simp [Instr.alloc,zeroValue,typeInfo,hi,hz,newVar,newRow,newObj,hc,Sem.run]
theorem does_box (hF:Fr n K a) (hM:Mem B w0 L w) {t:TypeId}{x:Operand}{v:Value}{vs:List Value}(hop:o.op= .box t x) (hx:ev K x=some v) (hc:v.cells=vs.toArray):
    ∃ b w',(execOp a.eval o).run P w= .ok (.value (.pointer (some ⟨b,0,none⟩))) w'∧Mem B w0 ((b,t,vs)::L) w':=by
  refine ⟨w.heap.size,w.alloc (.cells vs.toArray t (0,0)),?_,hM.alloc t vs⟩
  simp only [execOp,hop,hF.ev hx]
  simp [Instr.box,newVar,newRow,newObj,hc,Sem.run]
theorem field_at {t:TypeId}{f off:Nat}{fs:Array Field}{fld:Field}(hT:P.underlying t=some (.struct fs)) (hf:fs[f]?=some fld) (ho:fld.offset=off) (hs:(P.info? fld.type).map (fun i=>Nat.blt 0 i.size)=some true) (ad:Addr) (w:World):
    (Instr.fieldAt t (.pointer (some ad)) f).run P w= .ok (.pointer (some (ad.add off))) w:=by
  obtain ⟨i,hi,hsz⟩:=Option.map_eq_some_iff.1 hs
  have hsz:0<i.size:=Nat.le_of_ble_eq_true hsz
  have hne: ¬ i.size=0:=by omega
  simp [Instr.fieldAt,run_underlying hT,hf,Instr.sureAddr,fieldPlace,sizeOf,typeInfo,hi,hne,ho]
theorem op_load (hF:Fr n K a) (hM:Mem B w0 L w) (hg:o.guard=none) {d:Nat}{x:Operand}{t t0:TypeId}{u:TypeDesc}{b j:Nat}{vs:List Value}{v:Value}(k:Nat) (hd:o.dst=some d) (hlt:Nat.blt d n=true) (hop:o.op= .load t x) (hT:P.underlying t=some u) (hu:plainB u=true)
    (hx:ev K x=some (.pointer (some ⟨b,j,none⟩))) (hk:L[k]?=some (b,t0,vs)) (hv:vs[j]?=some v) (h:∀ a',Fr n ((d,v)::K) a'→wpList P ops Q rest a' w):wpList P ops Q (o::rest) a w:=
  op_run hF hg _ hd hlt (gives_load hF hM k hop hT hu hx hk hv) h
theorem op_loadA (hF:Fr n K a) (hM:Mem B w0 L w) (hg:o.guard=none) {d:Nat}{x:Operand}{t t0:TypeId}{u:TypeDesc}{b:Nat}{vs:List Value}(k:Nat) (hd:o.dst=some d) (hlt:Nat.blt d n=true) (hop:o.op= .load t x) (hT:P.underlying t=some u) (hu:plainB u=false)
    (hi:(P.info? t).map (·.size)=some vs.length) (hx:ev K x=some (.pointer (some ⟨b,0,none⟩))) (hk:L[k]?=some (b,t0,vs)) (h:∀ a',Fr n ((d,.agg vs.toArray)::K) a'→wpList P ops Q rest a' w):wpList P ops Q (o::rest) a w:=
  op_run hF hg _ hd hlt (gives_loadA hF hM k hop hT hu hi hx hk) h
theorem op_store (hF:Fr n K a) (hM:Mem B w0 L w) (hg:o.guard=none) {x y:Operand}{t t0:TypeId}{b j:Nat}{vs:List Value}{v:Value}(k:Nat) (hd:o.dst=none) (hop:o.op= .store t x y) (hi:(P.info? t).map (·.size)=some 1)
    (hx:ev K x=some (.pointer (some ⟨b,j,none⟩))) (hy:ev K y=some v) (hv:v.oneCell'=true) (hk:L[k]?=some (b,t0,vs)) (hj:j<vs.length)
    (h:∀ a' w',Fr n K a'→Mem B w0 (L.set k (b,t0,vs.set j v)) w'→wpList P ops Q rest a' w'):wpList P ops Q (o::rest) a w:=by
  obtain ⟨w',e,hM'⟩:=does_store hF hM k hop hi hx hy hv hk hj
  exact op_unit hF hg hd e (fun a' hF'=>h a' w' hF' hM')
theorem op_storeA (hF:Fr n K a) (hM:Mem B w0 L w) (hg:o.guard=none) {x y:Operand}{t t0:TypeId}{b:Nat}{vs us:List Value}(k:Nat) (hd:o.dst=none) (hop:o.op= .store t x y) (hi:(P.info? t).map (·.size)=some us.length)
    (hx:ev K x=some (.pointer (some ⟨b,0,none⟩))) (hy:ev K y=some (.agg us.toArray)) (hv:us.all (·.oneCell')=true) (hk:L[k]?=some (b,t0,vs)) (hl:vs.length=us.length)
    (h:∀ a' w',Fr n K a'→Mem B w0 (L.set k (b,t0,us)) w'→wpList P ops Q rest a' w'):wpList P ops Q (o::rest) a w:=by
  obtain ⟨w',e,hM'⟩:=does_storeA hF hM k hop hi hx hy hv hk hl
  exact op_unit hF hg hd e (fun a' hF'=>h a' w' hF' hM')
theorem op_alloc (hF:Fr n K a) (hM:Mem B w0 L w) (hg:o.guard=none) {d:Nat}{t:TypeId}{vs:List Value}(hd:o.dst=some d) (hlt:Nat.blt d n=true) (hop:o.op= .alloc t) (hi:((P.info? t).bind (·.zero)).map (·.cells)=some vs.toArray)
    (h:∀ a' w' b,Fr n ((d,.pointer (some ⟨b,0,none⟩))::K) a'→Mem B w0 ((b,t,vs)::L) w'→wpList P ops Q rest a' w'):wpList P ops Q (o::rest) a w:=by
  obtain ⟨b,w',e,hM'⟩:=does_alloc hM hop hi
  exact op_run hF hg _ hd hlt e (fun a' hF'=>h a' w' b hF' hM')
theorem op_box (hF:Fr n K a) (hM:Mem B w0 L w) (hg:o.guard=none) {d:Nat}{t:TypeId}{x:Operand}{v:Value}{vs:List Value}(hd:o.dst=some d) (hlt:Nat.blt d n=true) (hop:o.op= .box t x) (hx:ev K x=some v) (hc:v.cells=vs.toArray)
    (h:∀ a' w' b,Fr n ((d,.pointer (some ⟨b,0,none⟩))::K) a'→Mem B w0 ((b,t,vs)::L) w'→wpList P ops Q rest a' w'):wpList P ops Q (o::rest) a w:=by
  obtain ⟨b,w',e,hM'⟩:=does_box hF hM hop hx hc
  exact op_run hF hg _ hd hlt e (fun a' hF'=>h a' w' b hF' hM')
def Ret (R:Value→World→Prop):Ending→World→Prop:=fun e w'=>∃ v,e= .returned v∧R v w'
def evs (K:List (Nat×Value)):List Operand→Option (List Value)
  | []=>some []
  | x::l=>(ev K x).bind fun v=>(evs K l).map (v:: ·)
theorem Fr.evs (hF:Fr n K a):∀ (l:List Operand) (vs:List Value),Sx.evs K l=some vs→l.map a.eval=vs
  | [],vs,h=>by simp [Sx.evs] at h;simp [h]
  | x :: l, vs, h => by
    simp only [Sx.evs,Option.bind_eq_some_iff,Option.map_eq_some_iff] at h
    obtain ⟨v,hv,us,hu,rfl⟩:=h
    simp [hF.ev hv,hF.evs l us hu]
theorem op_call (hF:Fr n K a) (hg:o.guard=none) {d:Nat}{f:FuncId}{fn:Func}{l:List Operand}{ats:Array TypeId}{vals:List Value}{R:Value→World→Prop}(hd:o.dst=some d) (hlt:Nat.blt d n=true)
    (hop:o.op= .call {callee:= .value (.func f),args:=l.toArray,argTypes:=ats}) (hf:P.funcs[f]?=some fn) (hname:(fn.name== "runtime.NumGoroutine")=false) (hb:fn.body.isNone=false) (hargs:evs K l=some vals)
    (hc:Calls P f vals.toArray w (Ret R)) (h:∀ a' w' v,R v w'→Fr n ((d,v)::K) a'→wpList P ops Q rest a' w'):wpList P ops Q (o::rest) a w:=by
  refine wpList_plain hg fun C hC=> ?_
  unfold Oper.wp
  have h1: ¬ fn.name= "runtime.NumGoroutine" :=by simpa using hname
  have h2: ¬ fn.body=none:=by cases hx:fn.body <;> simp_all
  have e:(execOp a.eval o).run P w= .ok (.enter f vals.toArray) w:=by
    unfold execOp
    have:=hF.evs l vals hargs
    simp [hop,resolve,Deferred.ofValue,invoke,callFunc,hf,h1,h2,Act.eval]
    exact this
  rw [e,Oper.upon_enter]
  refine hc.mono ?_
  rintro e w' ⟨v,rfl,hR⟩
  rw [hd]
  exact hC _ _ (h _ w' v hR (hF.put d v (Nat.le_of_ble_eq_true hlt)))
theorem op_callV (hF:Fr n K a) (hg:o.guard=none) {d:Nat}{x:Operand}{f:FuncId}{fn:Func}{l:List Operand}{ats:Array TypeId}{vals cap:List Value}{R:Value→World→Prop}(hd:o.dst=some d) (hlt:Nat.blt d n=true)
    (hop:o.op= .call {callee:= .value x,args:=l.toArray,argTypes:=ats}) (hx:ev K x=some (.func (.func f) #[] cap.toArray)) (hf:P.funcs[f]?=some fn) (hname:(fn.name== "runtime.NumGoroutine")=false) (hb:fn.body.isNone=false) (hargs:evs K l=some vals)
    (hc:Calls P f (vals++cap).toArray w (Ret R)) (h:∀ a' w' v,R v w'→Fr n ((d,v)::K) a'→wpList P ops Q rest a' w'):wpList P ops Q (o::rest) a w:=by
  refine wpList_plain hg fun C hC=> ?_
  unfold Oper.wp
  have h1: ¬ fn.name= "runtime.NumGoroutine" :=by simpa using hname
  have h2: ¬ fn.body=none:=by cases hx:fn.body <;> simp_all
  have e:(execOp a.eval o).run P w= .ok (.enter f (vals++cap).toArray) w:=by
    unfold execOp
    have h3:=hF.evs l vals hargs
    simp only [hop,resolve,hF.ev hx]
    simp [Deferred.ofValue,invoke,callFunc,hf,h1,h2,h3]
  rw [e,Oper.upon_enter]
  refine hc.mono ?_
  rintro e w' ⟨v,rfl,hR⟩
  rw [hd]
  exact hC _ _ (h _ w' v hR (hF.put d v (Nat.le_of_ble_eq_true hlt)))
inductive Outs (P:Program) (K:List (Nat×Value)) (L:List Bk):List ResultVar→List Value→Prop where
  | nil:Outs P K L [] []
  | tmp {u:Tmp}{v:Value}{rs:List ResultVar}{vs:List Value}(hu:look K u=some v) (h:Outs P K L rs vs):Outs P K L (.tmp u::rs) (v::vs)
  | cell {p:Tmp}{ty:TypeId}{rs:List ResultVar}{vs us:List Value}{b:Nat}{t:TypeId}{d:TypeDesc}(k:Nat) (hp:look K p=some (.pointer (some ⟨b,0,none⟩))) (hk:L[k]?=some (b,t,us))
      (hu:P.underlying ty=some d) (hd:plainB d=false) (hi:(P.info? ty).map (·.size)=some us.length) (h:Outs P K L rs vs):Outs P K L (.cell p ty::rs) (.agg us.toArray::vs)
theorem Outs.vals {rs:List ResultVar}{vs:List Value}(h:Outs P K L rs vs) (hF:Fr n K a) (hM:Mem B w0 L w):Vals P a.tmps w rs vs:=by
  induction h with
  | nil=>exact .nil
  | tmp hu _ ih =>
    have:=Vals.tmp (u:=‹_›) ih
    rwa [hF.at_ _ _ hu] at this
  | @cell p ty rs vs us b t d k hp hk hu hd hi _ ih =>
    exact .cell b t us.toArray (0,0) d (hF.at_ _ _ hp) (hM.blk hk).2 hu (by cases d <;> first | rfl | (simp [plainB] at hd)) (by simpa using hi) ih
theorem retMany {fn:Func}{R:Ending→World→Prop}{rs:List ResultVar}{vs:List Value}(hF:Fr n K a) (hM:Mem B w0 L w) (h:fn.results=rs.toArray) (hl:Nat.beq vs.length 1=false) (ho:Outs P K L rs vs) (hR:R (.returned (.tuple vs.toArray)) w):bodyPost P fn R .ret a w:=
  bodyPost_ret (results_list h (fun e=>by rw [e] at hl;exact absurd hl (by decide)) (ho.vals hF hM)) hF.defers hR
theorem op_min (hF:Fr n K a) (hg:o.guard=none) {d:Nat}{x y:Operand}{ts:Array TypeId}{k:IntKind}{p q:Int}(r:Int) (hd:o.dst=some d) (hlt:Nat.blt d n=true)
    (hop:o.op= .call {callee:= .builtin .min,args:= #[x,y],argTypes:=ts}) (hx:ev K x=some (.int k p)) (hy:ev K y=some (.int k q)) (hr:(if q<p then q else p)=r)
    (h:∀ a',Fr n ((d,.int k r)::K) a'→wpList P ops Q rest a' w):wpList P ops Q (o::rest) a w:=
  op_run hF hg _ hd hlt (by
    simp only [execOp,hop,resolve,invoke,builtin,List.map_toArray,List.map_cons,List.map_nil,hF.ev hx,hF.ev hy]
    simp [Builtin.min_,Builtin.min2,hr]) h
variable {md:Region.Mode}{fuel:Nat}{listed:Array Bool}{oi:Oper}
end
variable {B:Nat}{w0 w:World}{L:List Bk}
theorem Mem.perm (hM:Mem B w0 L w) {L':List Bk}(h:L.Perm L'):Mem B w0 L' w:=
  ⟨hM.below,hM.base,fun x hx=>hM.held x (h.mem_iff.2 hx),(h.pairwise_iff (fun {x y} hxy=>Ne.symm hxy)).1 hM.apart⟩
end Go.Sx
namespace Go.Sx
open Go.RowKit Go.Proofs Go.Proofs.YtelonenjneonlaaGreatDoorW.PrintWords
def u8s (l:List UInt8):List Value:=l.map fun c=> .int .u8 (c.toNat:Int)
theorem u8s_length (l:List UInt8):(u8s l).length=l.length:=by simp [u8s]
theorem u8s_append (l r:List UInt8):u8s (l++r)=u8s l++u8s r:=by simp [u8s]
theorem u8s_one (l:List UInt8):∀ u∈u8s l,u.oneCell'=true:=by
  intro u hu
  obtain ⟨c,_,rfl⟩:=List.mem_map.1 hu
  rfl
variable {B:Nat}{w0 w:World}{L:List Bk}
theorem info5:∃ i,Tryz.prog.info? 5=some i∧i.zero=some (.int .u8 0)∧i.size=1∧i.bytes=1:=by
  have h:(Tryz.prog.info? 5).map (fun i=>(i.zero,i.size,i.bytes))=some (some (.int .u8 0),1,1):=by kernel_rfl
  obtain ⟨i,hi,h⟩:=Option.map_eq_some_iff.1 h
  simp only [Prod.mk.injEq] at h
  exact ⟨i,hi,h.1,h.2.1,h.2.2⟩
section
variable {n:Nat}{K:List (Nat×Value)}{a:Act}{Q:Exit→Act→World→Prop}{ops:Array Oper}{rest:List Oper}{o:Oper}
theorem op_indexAddr_sl (hF:Fr n K a) (hg:o.guard=none) {d:Nat}{x i:Operand}{t e:TypeId}{b off l c:Nat}{k:IntKind}{z:Int}(j:Nat) (hd:o.dst=some d) (hlt:Nat.blt d n=true)
    (hop:o.op= .indexAddr t x i) (hT:Tryz.prog.underlying t=some (.slice e)) (hs:(Tryz.prog.info? e).map (·.size)=some 1) (hx:ev K x=some (.slice (some ⟨b,off,none⟩) l c)) (hi:ev K i=some (.int k z)) (hz:z=(j:Int)) (hj:j<l)
    (h:∀ a',Fr n ((d,.pointer (some ⟨b,off+j,none⟩))::K) a'→wpList Tryz.prog ops Q rest a' w):wpList Tryz.prog ops Q (o::rest) a w:=
  op_run hF hg _ hd hlt (by
    subst hz
    obtain ⟨ie,he,hsz⟩:=Option.map_eq_some_iff.1 hs
    have e2:(sizeOf e).run Tryz.prog w= .ok 1 w:=by simp [sizeOf,typeInfo,he,hsz]
    have hadd:(⟨b,off,none⟩:Addr).add j=⟨b,off+j,none⟩:=by unfold Addr.add;split <;> simp_all
    simp only [execOp,hop,hF.ev hx,hF.ev hi]
    simp [Instr.indexAt,run_underlying hT,Instr.sureAddr,asIntOf,hj,e2,hadd]) h
theorem op_build (hF:Fr n K a) (hM:Mem B w0 L w) (hg:o.guard=none) {d m:Nat}{parts:List (Nat×Operand)}{vals:List (Nat×Value)}(vs:List Value) (hd:o.dst=some d) (hlt:Nat.blt d n=true) (hop:o.op= .buildSlice 66 m parts.toArray)
    (hv:parts.map (fun x=>(x.1,ev K x.2))=vals.map (fun x=>(x.1,some x.2))) (hm:0<m) (hm2:m≤2^24)
    (hf:Instr.fill (fun i=>some (i*1,1)) ((Array.range (m*1)).map ((Value.int .u8 0).cells[· % (Value.int .u8 0).cells.size]!)) vals=some vs.toArray)
    (h:∀ a' w' b,Fr n ((d,.slice (some ⟨b,0,none⟩) m m)::K) a'→Mem B w0 ((b,5,vs)::L) w'→wpList Tryz.prog ops Q rest a' w'):wpList Tryz.prog ops Q (o::rest) a w:=by
  obtain ⟨i,hi,hz,hz1,hz2⟩:=info5
  have hval:parts.map (fun x=>(x.1,a.eval x.2))=vals:=by
    clear hop hf h
    induction parts generalizing vals with
    | nil => cases vals with
      | nil=>rfl
      | cons=>simp at hv
    | cons x parts ih => cases vals with
      | nil=>simp at hv
      | cons y vals =>
        simp only [List.map_cons,List.cons.injEq,Prod.mk.injEq] at hv ⊢
        obtain ⟨⟨h1,h2⟩,h3⟩:=hv
        refine ⟨?_,ih h3⟩
        rw [h1,hF.ev h2]
  have hr:=run_buildSlice (P:=Tryz.prog) w 66 5 m vals.toArray vs.toArray i (.int .u8 0) Tryz.underlying66 hi hz (by rw [hz1];omega) (by rw [hz1];omega) (by rw [hz1];exact hf)
  refine op_run hF hg (.slice (some ⟨w.heap.size,0,none⟩) m m) (w':=w.alloc (.cells vs.toArray 5)) hd hlt ?_ (fun a' hF'=>h a' _ w.heap.size hF' (hM.alloc 5 vs))
  simp only [execOp,hop]
  have e:(parts.toArray.map fun x=>(x.1,a.eval x.2))=vals.toArray:=by rw [List.map_toArray,hval]
  have e2:(Array.map (fun x=>match x with | (i,x)=>(i,a.eval x)) parts.toArray)=vals.toArray:=e
  rw [e2]
  simp [hr]
theorem op_bytesStr (hF:Fr n K a) (hM:Mem B w0 L w) (hg:o.guard=none) {d k b l:Nat}{x:Operand}{vs:List Value}(bs:List UInt8) (hd:o.dst=some d) (hlt:Nat.blt d n=true) (hop:o.op= .convert 66 9 x)
    {c:Nat}(hx:ev K x=some (.slice (some ⟨b,0,none⟩) l c)) (hk:L[k]?=some (b,5,vs)) (hv:vs.take l=u8s bs) (hl:l=bs.length)
    (h:∀ a',Fr n ((d,.string (mkS bs))::K) a'→wpList Tryz.prog ops Q rest a' w):wpList Tryz.prog ops Q (o::rest) a w:=
  op_run hF hg _ hd hlt (by
    have hr:=run_convert_bytes_arg (P:=Tryz.prog) w 66 5 Tryz.underlying66 Tryz.underlying5 b 0 l c (bs.map fun c=>(c.toNat:Int)) (by simp [hl]) (by
      intro i hi
      have:(vs.take l)[i]?=(u8s bs)[i]?:=by rw [hv]
      rw [List.getElem?_take,if_pos hi] at this
      have hib:i<bs.length:=by omega
      rw [Nat.zero_add,blk_cell (hM.blk hk).2]
      simp only [List.getElem?_toArray]
      rw [this]
      simp [u8s,hib]) 9 Tryz.underlying9
    have e:strOfNums (bs.map fun c=>(c.toNat:Int))=mkS bs:=by
      unfold strOfNums mkS
      have e3:((fun n:Int=>UInt8.ofNat n.toNat) ∘ fun c:UInt8=>(c.toNat:Int))=id:=by
        funext c
        simp
      simp [List.map_map,e3]
    rw [e] at hr
    simp only [execOp,hop,hF.ev hx]
    simp [hr]) h
end
end Go.Sx
