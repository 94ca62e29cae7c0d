/- Part 1 of the proof of FnJrTyped: the statement Rows.FnJrTypedCardSaid; no further condition. -/
import Derived.Test.YtelonenjneonlaaGreatDoorR00
import Derived.Calls
import Derived.Laws.Entries
import Derived.Lib.ConvBytes
set_option linter.all false
namespace Go.Sx
open Go.RowKit Go.Proofs Go.Proofs.YtelonenjneonlaaGreatDoorW.PrintWords
section
variable {P:Program}{n:Nat}{K:List (Nat×Value)}{a:Act}{w:World}{Q:Exit→Act→World→Prop}{ops:Array Oper}{rest:List Oper}{o:Oper}{B:Nat}{w0:World}{L:List Bk}
def bitVal:BinOp→IntKind→Int→Int→Option Int
  | .and,k,x,y=>some (k.wrap ((BitVec.ofInt k.bits x&&&BitVec.ofInt k.bits y).toNat:Int))
  | .or,k,x,y=>some (k.wrap ((BitVec.ofInt k.bits x ||| BitVec.ofInt k.bits y).toNat:Int))
  | .xor,k,x,y=>some (k.wrap ((BitVec.ofInt k.bits x^^^BitVec.ofInt k.bits y).toNat:Int))
  | .andNot,k,x,y=>some (k.wrap ((BitVec.ofInt k.bits x&&&~~~(BitVec.ofInt k.bits y)).toNat:Int))
  | _,_,_,_=>none
theorem op_bits (hF:Fr n K a) (hg:o.guard=none) {d:Nat}{op:BinOp}{t t':TypeId}{x y:Operand}{k:IntKind}{p q:Int}(r:Int) (hd:o.dst=some d) (hlt:Nat.blt d n=true)
    (hop:o.op= .binOp op t x y t') (hx:ev K x=some (.int k p)) (hy:ev K y=some (.int k q)) (hv:bitVal op k p q=some r)
    (h:∀ a',Fr n ((d,.int k r)::K) a'→wpList P ops Q rest a' w):wpList P ops Q (o::rest) a w:=
  op_run hF hg (.int k r) hd hlt (by
    have e:(binOp op t (.int k p) (.int k q)).run P w= .ok (.int k r) w:=by
      cases op <;> simp only [bitVal,reduceCtorEq,Option.some.injEq] at hv <;> subst hv <;> simp [binOp,Op.intBits]
    simp only [execOp,hop,hF.ev hx,hF.ev hy]
    cases op <;> simp [bitVal] at hv <;> simp [eqGuard,e]) h
theorem op_shl (hF:Fr n K a) (hg:o.guard=none) {d:Nat}{t t':TypeId}{x y:Operand}{k k':IntKind}{p q:Int}(s:Nat) (r:Int) (hd:o.dst=some d) (hlt:Nat.blt d n=true)
    (hop:o.op= .binOp .shl t x y t') (hx:ev K x=some (.int k p)) (hy:ev K y=some (.int k' q)) (hq:q=(s:Int)) (hv:k.wrap (p*2^min s k.bits)=r)
    (h:∀ a',Fr n ((d,.int k r)::K) a'→wpList P ops Q rest a' w):wpList P ops Q (o::rest) a w:=
  op_run hF hg (.int k r) hd hlt (by
    subst hq
    have hn: ¬ ((s:Int)<0):=by omega
    have e:(binOp .shl t (.int k p) (.int k' (s:Int))).run P w= .ok (.int k r) w:=by
      simp only [binOp,Op.shift,if_neg hn,Int.toNat_natCast,hv]
      rfl
    simp only [execOp,hop,hF.ev hx,hF.ev hy]
    simp [eqGuard,e]) h
theorem op_shr (hF:Fr n K a) (hg:o.guard=none) {d:Nat}{t t':TypeId}{x y:Operand}{k k':IntKind}{p q:Int}(s:Nat) (r:Int) (hd:o.dst=some d) (hlt:Nat.blt d n=true)
    (hop:o.op= .binOp .shr t x y t') (hx:ev K x=some (.int k p)) (hy:ev K y=some (.int k' q)) (hq:q=(s:Int)) (hv:p.fdiv (2^min s k.bits)=r)
    (h:∀ a',Fr n ((d,.int k r)::K) a'→wpList P ops Q rest a' w):wpList P ops Q (o::rest) a w:=
  op_run hF hg (.int k r) hd hlt (by
    subst hq
    have hn: ¬ ((s:Int)<0):=by omega
    have e:(binOp .shr t (.int k p) (.int k' (s:Int))).run P w= .ok (.int k r) w:=by
      simp only [binOp,Op.shift,if_neg hn,Int.toNat_natCast,hv]
      rfl
    simp only [execOp,hop,hF.ev hx,hF.ev hy]
    simp [eqGuard,e]) h
theorem op_neNil (hF:Fr n K a) (hg:o.guard=none) {d:Nat}{t t':TypeId}{x:Operand}(hd:o.dst=some d) (hlt:Nat.blt d n=true)
    (hop:o.op= .binOp .neq t x (.const .nilIface) t') (hx:ev K x=some .nilIface) (hT:∃ ms,P.underlying t=some (.interface ms))
    (h:∀ a',Fr n ((d,.bool false)::K) a'→wpList P ops Q rest a' w):wpList P ops Q (o::rest) a w:=
  op_run hF hg (.bool false) hd hlt (by
    obtain ⟨ms,hT⟩:=hT
    have e1:∀ m,(Op.equalIn (m+1) t .nilIface .nilIface).run P w= .ok true w:=fun m=>by simp [Op.equalIn,run_underlying hT]
    have e2:(Op.equal t .nilIface .nilIface).run P w= .ok true w:=e1 9999
    have e:(binOp .neq t .nilIface .nilIface).run P w= .ok (.bool false) w:=by
      simp only [binOp,Sem.run_bind,e2,Result.andThen_ok]
      rfl
    have hc:a.eval (.const .nilIface)= .nilIface:=rfl
    have hg:eqGuard .neq t x (.const .nilIface) .nilIface .nilIface=pure ():=eqGuard_nil_constR ..
    simp only [execOp,hop,hF.ev hx,hc,hg]
    simp [e]) h
theorem op_strBytes (hF:Fr n K a) (hM:Mem B w0 L w) (hg:o.guard=none) {d:Nat}{x:Operand}{s:List UInt8}(hd:o.dst=some d) (hlt:Nat.blt d n=true) (hop:o.op= .convert 9 66 x) (hP:P=Tryz.prog) (hx:ev K x=some (.string (mkS s)))
    (h:∀ a' w' b c,Fr n ((d,.slice (some ⟨b,0,none⟩) s.length c)::K) a'→Mem B w0 L w'→b<w'.heap.size→(∀ j u,s[j]?=some u→w'.cell? ⟨b,j,none⟩=some (.int .u8 (u.toNat:Int)))→wpList P ops Q rest a' w'):wpList P ops Q (o::rest) a w:=by
  subst hP
  have hr:=Lib.run_convert_string_bytes (P:=Tryz.prog) w 9 66 5 (mkS s) Tryz.underlying9 Tryz.underlying66 Tryz.underlying5
  rw [mkS_size] at hr
  refine op_run hF hg (.slice (some ⟨w.heap.size,0,none⟩) s.length (grownCap w s.length 0 5)) (w':=Lib.bytesWorld w 5 (mkS s)) hd hlt ?_ (fun a' hF'=>h a' _ w.heap.size _ hF' ?_ ?_ ?_)
  · simp only [execOp,hop,hF.ev hx]
    simp [hr]
  · exact hM.step ⟨rfl,rfl,rfl,by rw [Lib.bytesWorld_size];omega,fun k hk=>Lib.bytesWorld_at_old _ _ _ _ hk⟩
  · rw [Lib.bytesWorld_size];omega
  · intro j u hj
    have hl:=(List.getElem?_eq_some_iff.1 hj).1
    rw [Lib.bytesWorld_cell _ _ _ _ (by rw [mkS_size];exact hl)]
    have:(mkS s).data.toList.getD j 0=u:=by
      show s.getD j 0=u
      rw [List.getD_eq_getElem?_getD,hj]
      rfl
    rw [this]
def setL (vs:List Value) (o:Nat):List Value→List Value
  | []=>vs
  | x::r=>setL (vs.set o x) (o+1) r
theorem setL_eq:∀ (l vs:List Value) (o:Nat),o+l.length≤vs.length→setL vs o l=vs.take o++l++vs.drop (o+l.length)
  | [],vs,o,_=>by simp [setL]
  | x :: r, vs, o, h => by
    simp only [List.length_cons] at h
    rw [setL,setL_eq r (vs.set o x) (o+1) (by rw [List.length_set];omega)]
    have h1:(vs.set o x).take (o+1)=vs.take o++ [x]:=by
      rw [List.take_add_one,List.take_set_of_le (Nat.le_refl _),List.getElem?_set_self (by omega)]
      rfl
    have h2:(vs.set o x).drop (o+1+r.length)=vs.drop (o+1+r.length):=List.drop_set_of_lt (by omega)
    rw [h1,h2,List.length_cons,show o+(r.length+1)=o+1+r.length by omega]
    simp
theorem u8_nat (m:Nat):IntKind.u8.wrap (m:Int)=((m % 256:Nat):Int):=by rw [IntKind.wrap_u8];omega
theorem ofInt_nat (m p:Nat):BitVec.ofInt m (p:Int)=BitVec.ofNat m p:=by
  apply BitVec.eq_of_toNat_eq
  simp [BitVec.toNat_ofInt]
theorem or_u8 {p q:Nat}(hp:p<256) (hq:q<256):bitVal .or .u8 (p:Int) (q:Int)=some ((p ||| q:Nat):Int):=by
  have h:p ||| q<256:=Nat.or_lt_two_pow (n:=8) hp hq
  simp only [bitVal,ofInt_nat,BitVec.toNat_or,BitVec.toNat_ofNat]
  rw [show IntKind.u8.bits=8 from rfl,Nat.mod_eq_of_lt hp,Nat.mod_eq_of_lt hq,IntWalk.u8_in _ ⟨by omega,by omega⟩]
theorem and_u8 {p q:Nat}(hp:p<256) (hq:q<256):bitVal .and .u8 (p:Int) (q:Int)=some ((p&&&q:Nat):Int):=by
  have h:p&&&q<256:=Nat.lt_of_le_of_lt Nat.and_le_left hp
  simp only [bitVal,ofInt_nat,BitVec.toNat_and,BitVec.toNat_ofNat]
  rw [show IntKind.u8.bits=8 from rfl,Nat.mod_eq_of_lt hp,Nat.mod_eq_of_lt hq,IntWalk.u8_in _ ⟨by omega,by omega⟩]
end
section
variable {P:Program}{n:Nat}{K:List (Nat×Value)}{a:Act}{w:World}{Q:Exit→Act→World→Prop}{ops:Array Oper}{rest:List Oper}{o:Oper}{B:Nat}{w0:World}{L:List Bk}
theorem toList_mkS (l:List UInt8):(mkS l).toList=l:=by rw [ByteArray.toList_eq];simp [mkS]
theorem op_eqlStr (hF:Fr n K a) (hg:o.guard=none) {d:Nat}{t t':TypeId}{x y:Operand}{l r:List UInt8}(hd:o.dst=some d) (hlt:Nat.blt d n=true)
    (hop:o.op= .binOp .eql t x y t') (hx:ev K x=some (.string (mkS l))) (hy:ev K y=some (.string (mkS r)))
    (h:∀ a',Fr n ((d,.bool (l==r))::K) a'→wpList P ops Q rest a' w):wpList P ops Q (o::rest) a w:=
  op_run hF hg (.bool (l==r)) hd hlt (by
    have e:(binOp .eql t (.string (mkS l)) (.string (mkS r))).run P w= .ok (.bool (l==r)) w:=by
      rw [binOp_string_eql,toList_mkS,toList_mkS];rfl
    simp only [execOp,hop,hF.ev hx,hF.ev hy]
    simp [eqGuard,e]) h
theorem op_neqStr (hF:Fr n K a) (hg:o.guard=none) {d:Nat}{t t':TypeId}{x y:Operand}{l r:List UInt8}(hd:o.dst=some d) (hlt:Nat.blt d n=true)
    (hop:o.op= .binOp .neq t x y t') (hx:ev K x=some (.string (mkS l))) (hy:ev K y=some (.string (mkS r)))
    (h:∀ a',Fr n ((d,.bool (!(l==r)))::K) a'→wpList P ops Q rest a' w):wpList P ops Q (o::rest) a w:=
  op_run hF hg (.bool (!(l==r))) hd hlt (by
    have e:(binOp .neq t (.string (mkS l)) (.string (mkS r))).run P w= .ok (.bool (!(l==r))) w:=by
      rw [binOp_string_neq,toList_mkS,toList_mkS];rfl
    simp only [execOp,hop,hF.ev hx,hF.ev hy]
    simp [eqGuard,e]) h
end
end Go.Sx
namespace Js
abbrev Str:=List UInt8
inductive Place where
  | mk (kind b e:Nat) (names:List (Nat×Nat)) (kids:List Place)
  deriving Inhabited
inductive Nd where
  | mk (kind:Nat) (text:Str) (keys:List Str) (kids:List Nd)
  deriving Inhabited
def isBlank (c:UInt8):Bool:=c==32 || c==9 || c==10 || c==13
def isDig (c:UInt8):Bool:=decide (48≤c.toNat)&&decide (c.toNat≤57)
def hexVal (c:UInt8):Option Nat:=
  if 48≤c.toNat∧c.toNat≤57 then some (c.toNat - 48)
  else if 97≤c.toNat∧c.toNat≤102 then some (c.toNat - 97+10)
  else if 65≤c.toNat∧c.toNat≤70 then some (c.toNat - 65+10)
  else none
def skip (s:Str):Str:=s.dropWhile isBlank
def pTake (c:UInt8):Str→Option Str
  | []=>none
  | d::r=>if d=c then some r else none
def digs (s:Str):Str:=s.dropWhile isDig
def pDigits (s:Str):Option Str:=if (digs s).length<s.length then some (digs s) else none
def pExp (s:Str):Option Str:=
  match (pTake 101 s).orElse (fun _=>pTake 69 s) with
  | none=>some s
  | some r => match pTake 43 r with
    | some r'=>pDigits r'
    | none=>pDigits ((pTake 45 r).getD r)
def pFrac (s:Str):Option Str:=
  match pTake 46 s with
  | none=>pExp s
  | some r=>(pDigits r).bind pExp
def pNum (s:Str):Option Str:=
  match pTake 48 ((pTake 45 s).getD s) with
  | some r=>pFrac r
  | none=>(pDigits ((pTake 45 s).getD s)).bind pFrac
def escLetter (c:UInt8):Bool:=c==34 || c==92 || c==47 || c==98 || c==102 || c==110 || c==114 || c==116
def pHex:Nat→Str→Option Str
  | 0,s=>some s
  | _+1,[]=>none
  | n+1,c::r=>if (hexVal c).isSome then pHex n r else none
def pEsc:Str→Option Str
  | []=>none
  | c::r=>if escLetter c then some r else if c=117 then pHex 4 r else none
theorem pHex_le:∀ (n:Nat) (s r:Str),pHex n s=some r→r.length≤s.length
  | 0,s,r,h=>by simp [pHex] at h;simp [h]
  | n+1,[],r,h=>by simp [pHex] at h
  | n + 1, c :: s, r, h => by
    simp only [pHex] at h
    split at h
    · have:=pHex_le n s r h;simp;omega
    · simp at h
theorem pEsc_lt (s r:Str) (h:pEsc s=some r):r.length<s.length:=by
  cases s with
  | nil=>simp [pEsc] at h
  | cons c s =>
    simp only [pEsc] at h
    split at h
    · simp at h;subst h;simp
    · split at h
      · have:=pHex_le 4 s r h;simp;omega
      · simp at h
def pStr (s:Str):Option Str:=
  match s with
  | []=>none
  | c :: r =>
    if c=34 then some r
    else if c.toNat<32 then none
    else if c=92 then
      match h:pEsc r with
      | none=>none
      | some r'=>pStr r'
    else pStr r
termination_by s.length
decreasing_by
  · have:=pEsc_lt _ _ h;simp;omega
  · simp
theorem pStr_nil:pStr []=none:=by rw [pStr]
theorem pStr_cons (c:UInt8) (r:Str):pStr (c::r)=
    if c=34 then some r else if c.toNat<32 then none else if c=92 then (pEsc r).bind pStr else pStr r:=by
  rw [pStr]
  split
  · rfl
  · split
    · rfl
    · split
      · split <;> simp [*]
      · rfl
def pWord (w s:Str):Option Str:=if s.take w.length=w then some (s.drop w.length) else none
mutual
def pVal (L:Nat):Nat→Str→Option (Place×Str)
  | 0,_=>none
  | n + 1, s =>
    match s with
    | []=>none
    | c :: r =>
      if c=123 then
        match pTake 125 (skip r) with
        | some r2=>some (.mk 6 (L - s.length) (L - r2.length) [] [],r2)
        | none=>(pMems L n (skip r)).map fun x=>(.mk 6 (L - s.length) (L - x.2.2.length) x.1 x.2.1,x.2.2)
      else if c=91 then
        match pTake 93 (skip r) with
        | some r2=>some (.mk 5 (L - s.length) (L - r2.length) [] [],r2)
        | none=>(pElems L n (skip r)).map fun x=>(.mk 5 (L - s.length) (L - x.2.length) [] x.1,x.2)
      else if c=34 then (pStr r).map fun r2=>(.mk 4 (L - s.length) (L - r2.length) [] [],r2)
      else if c=45∨isDig c=true then (pNum s).map fun r2=>(.mk 3 (L - s.length) (L - r2.length) [] [],r2)
      else match pWord [110,117,108,108] s with
        | some r2=>some (.mk 0 (L - s.length) (L - r2.length) [] [],r2)
        | none => match pWord [102, 97, 108, 115, 101] s with
          | some r2=>some (.mk 1 (L - s.length) (L - r2.length) [] [],r2)
          | none=>(pWord [116,114,117,101] s).map fun r2=>(.mk 2 (L - s.length) (L - r2.length) [] [],r2)
def pElems (L:Nat):Nat→Str→Option (List Place×Str)
  | 0,_=>none
  | n + 1, s =>
    match pVal L n s with
    | none=>none
    | some (p, r) =>
      match pTake 93 (skip r) with
      | some r2=>some ([p],r2)
      | none => match pTake 44 (skip r) with
        | none=>none
        | some r2=>(pElems L n (skip r2)).map fun x=>(p::x.1,x.2)
def pMems (L:Nat):Nat→Str→Option (List (Nat×Nat)×List Place×Str)
  | 0,_=>none
  | n + 1, s =>
    match (pTake 34 s).bind pStr with
    | none=>none
    | some r =>
      match pTake 58 (skip r) with
      | none=>none
      | some r1 =>
        match pVal L n (skip r1) with
        | none=>none
        | some (p, r2) =>
          match pTake 125 (skip r2) with
          | some r3=>some ([(L - s.length,L - r.length)],[p],r3)
          | none => match pTake 44 (skip r2) with
            | none=>none
            | some r3=>(pMems L n (skip r3)).map fun x=>((L - s.length,L - r.length)::x.1,p::x.2.1,x.2.2)
end
def pText (s:Str):Option Place:=
  match pVal s.length (2*s.length+2) (skip s) with
  | none=>none
  | some (p,r)=>if skip r=[] then some p else none
def sub (s:Str) (b e:Nat):Str:=(s.drop b).take (e - b)
def hex4 (a b c d:UInt8):Option Nat:=
  match hexVal a,hexVal b,hexVal c,hexVal d with
  | some w,some x,some y,some z=>some (((w*16+x)*16+y)*16+z)
  | _,_,_,_=>none
def unit:Str→Option Nat
  | 92::117::a::b::c::d::_=>hex4 a b c d
  | _=>none
def high (n:Nat):Bool:=decide (0xd800≤n)&&decide (n≤0xdbff)
def low (n:Nat):Bool:=decide (0xdc00≤n)&&decide (n≤0xdfff)
def enc (c:Nat):Str:=
  if c<0x80 then [c.toUInt8]
  else if c<0x800 then [(0xc0+c / 64).toUInt8,(0x80+c % 64).toUInt8]
  else if high c || low c then [0xef,0xbf,0xbd]
  else if c<0x10000 then [(0xe0+c / 4096).toUInt8,(0x80+c / 64 % 64).toUInt8,(0x80+c % 64).toUInt8]
  else [(0xf0+c / 262144).toUInt8,(0x80+c / 4096 % 64).toUInt8,(0x80+c / 64 % 64).toUInt8,(0x80+c % 64).toUInt8]
def short (c:UInt8):UInt8:=
  if c=98 then 8 else if c=102 then 12 else if c=110 then 10 else if c=114 then 13 else if c=116 then 9 else c
theorem unit_len {s:Str}{n:Nat}(h:unit s=some n):6≤s.length:=by
  unfold unit at h
  split at h
  · simp only [List.length_cons];omega
  · simp at h
def unq (s:Str):Str:=
  match s with
  | []=> []
  | c :: r =>
    if c=92 then
      match h:unit (c::r) with
      | none => match r with
        | []=> []
        | d::r'=>short d::unq r'
      | some n => match unit (r.drop 5) with
        | none=>enc n++unq (r.drop 5)
        | some m=>if high n&&low m then enc (0x10000+(n - 0xd800)*0x400+(m - 0xdc00))++unq (r.drop 11) else enc n++unq (r.drop 5)
    else c::unq r
termination_by s.length
decreasing_by
  all_goals simp only [List.length_cons,List.length_drop];omega
theorem unq_plain:∀ (s:Str),(∀ c,c∈s→c≠92)→unq s=s
  | [],_=>by rw [unq]
  | c :: r, h => by
    rw [unq,if_neg (h c (by simp)),unq_plain r (fun d hd=>h d (by simp [hd]))]
def unquote (q:Str):Str:=unq ((q.drop 1).take (q.length - 2))
theorem unquote_mk (i:Str):unquote (34::i++ [34])=unq i:=by
  unfold unquote
  congr 1
  simp
mutual
def tree (s:Str):Place→Nd
  | .mk k b e names kids=> .mk k (if k=3 then sub s b e else if k=4 then unquote (sub s b e) else []) (names.map fun x=>unquote (sub s x.1 x.2)) (trees s kids)
def trees (s:Str):List Place→List Nd
  | []=> []
  | p::r=>tree s p::trees s r
end
def Bl (w:Str):Prop:=∀ c∈w,isBlank c=true
inductive It where
  | v (n:Nd)
  | e (l:List Nd)
  | m (ks:List Str) (l:List Nd)
def Ins (i:Str):Prop:=pStr (i++ [34])=some []
inductive Shows:Str→It→Prop where
  | nul:Shows [110,117,108,108] (.v (.mk 0 [] [] []))
  | fls:Shows [102,97,108,115,101] (.v (.mk 1 [] [] []))
  | tru:Shows [116,114,117,101] (.v (.mk 2 [] [] []))
  | num {t:Str}(h:pNum t=some []):Shows t (.v (.mk 3 t [] []))
  | str {i:Str}(h:Ins i):Shows (34::i++ [34]) (.v (.mk 4 (unq i) [] []))
  | arr0 {w:Str}(h:Bl w):Shows (91::w++ [93]) (.v (.mk 5 [] [] []))
  | arr {t:Str}{l:List Nd}(h:Shows t (.e l)):Shows (91::t++ [93]) (.v (.mk 5 [] [] l))
  | obj0 {w:Str}(h:Bl w):Shows (123::w++ [125]) (.v (.mk 6 [] [] []))
  | obj {t:Str}{ks:List Str}{l:List Nd}(h:Shows t (.m ks l)):Shows (123::t++ [125]) (.v (.mk 6 [] ks l))
  | e1 {w1 t w2:Str}{n:Nd}(h1:Bl w1) (h:Shows t (.v n)) (h2:Bl w2):Shows (w1++t++w2) (.e [n])
  | e2 {w1 t w2 r:Str}{n:Nd}{l:List Nd}(h1:Bl w1) (h:Shows t (.v n)) (h2:Bl w2) (hr:Shows r (.e l)):Shows (w1++t++w2++44::r) (.e (n::l))
  | m1 {w1 i w2 w3 t w4:Str}{n:Nd}(h1:Bl w1) (hi:Ins i) (h2:Bl w2) (h3:Bl w3) (h:Shows t (.v n)) (h4:Bl w4):
      Shows (w1++(34::i++ [34])++w2++58::w3++t++w4) (.m [unq i] [n])
  | m2 {w1 i w2 w3 t w4 r:Str}{n:Nd}{ks:List Str}{l:List Nd}(h1:Bl w1) (hi:Ins i) (h2:Bl w2) (h3:Bl w3) (h:Shows t (.v n)) (h4:Bl w4) (hr:Shows r (.m ks l)):
      Shows (w1++(34::i++ [34])++w2++58::w3++t++w4++44::r) (.m (unq i::ks) (n::l))
theorem pTake_some {c:UInt8}{s r:Str}:pTake c s=some r↔s=c::r:=by
  cases s with
  | nil=>simp [pTake]
  | cons d s =>
    simp only [pTake]
    split
    · rename_i h;subst h;simp [eq_comm]
    · rename_i h;simp only [reduceCtorEq,List.cons.injEq,false_iff];intro ⟨h1,_⟩;exact h h1
theorem pTake_none {c:UInt8}{s:Str}:pTake c s=none↔s.head?≠some c:=by
  cases s with
  | nil=>simp [pTake]
  | cons d s=>simp only [pTake,List.head?_cons];split <;> simp_all
theorem pTake_self (c:UInt8) (r:Str):pTake c (c::r)=some r:=by simp [pTake]
def numc (c:UInt8):Bool:=isDig c || c==46 || c==101 || c==69 || c==43 || c==45
def Stop (r:Str):Prop:=∀ c,r.head?=some c→numc c=false
theorem Stop.nil:Stop []:=by intro c h;simp at h
theorem Stop.dig {r:Str}(h:Stop r):∀ c,r.head?=some c→isDig c=false:=by
  intro c hc;have:=h c hc;simp only [numc,Bool.or_eq_false_iff] at this;exact this.1.1.1.1.1
theorem Stop.ne {r:Str}(h:Stop r) {c:UInt8}(hc:numc c=true):r.head?≠some c:=by
  intro he;have:=h c he;simp [hc] at this
theorem head_append {t r:Str}(ht:t≠ []):(t++r).head?=t.head?:=by cases t <;> simp_all
theorem digs_split (s:Str):∃ d,s=d++digs s∧(∀ c∈d,isDig c=true)∧(∀ c,(digs s).head?=some c→isDig c=false):=by
  induction s with
  | nil=>exact ⟨[],rfl,by simp,by simp [digs]⟩
  | cons c s ih =>
    by_cases h:isDig c=true
    · obtain ⟨d,h1,h2,h3⟩:=ih
      have e:digs (c::s)=digs s:=by simp [digs,h]
      rw [e]
      refine ⟨c::d,by rw [List.cons_append,←h1],?_,h3⟩
      intro x hx;rcases List.mem_cons.1 hx with rfl | hx;exact h;exact h2 x hx
    · have e:digs (c::s)=c::s:=by simp [digs,h]
      rw [e]
      exact ⟨[],rfl,by simp,by intro x hx;simp at hx;subst hx;simpa using h⟩
theorem digs_append (d r:Str) (hd:∀ c∈d,isDig c=true) (hr:∀ c,r.head?=some c→isDig c=false):digs (d++r)=r:=by
  induction d with
  | nil =>
    cases r with
    | nil=>rfl
    | cons c r=>have:=hr c rfl;simp [digs,this]
  | cons c d ih =>
    have h1:=hd c (by simp)
    have:digs (c::d++r)=digs (d++r):=by simp [digs,h1]
    rw [this];exact ih (fun x hx=>hd x (by simp [hx]))
theorem pDigits_some {s r:Str}(h:pDigits s=some r):∃ d,s=d++r∧d≠ []∧(∀ c∈d,isDig c=true)∧(∀ c,r.head?=some c→isDig c=false):=by
  unfold pDigits at h
  split at h
  · rename_i hl
    simp only [Option.some.injEq] at h
    subst h
    obtain ⟨d,h1,h2,h3⟩:=digs_split s
    refine ⟨d,h1,?_,h2,h3⟩
    rintro rfl
    simp only [List.nil_append] at h1
    rw [←h1] at hl
    omega
  · simp at h
theorem pDigits_mk {d r:Str}(h0:d≠ []) (hd:∀ c∈d,isDig c=true) (hr:∀ c,r.head?=some c→isDig c=false):pDigits (d++r)=some r:=by
  unfold pDigits
  rw [digs_append d r hd hr,if_pos]
  have:=List.length_pos_iff.2 h0
  simp;omega
def LocN (f:Str→Option Str):Prop:=∀ s r,f s=some r→∃ t,s=t++r∧∀ r',Stop r'→f (t++r')=some r'
theorem numc_dig {c:UInt8}(h:isDig c=true):numc c=true:=by simp [numc,h]
theorem pExp_digits {r r0:Str}(h:pDigits r=some r0):∃ d,r=d++r0∧∀ r',Stop r'→pDigits (d++r')=some r':=by
  obtain ⟨d,h1,h2,h3,h4⟩:=pDigits_some h
  exact ⟨d,h1,fun r' hr=>pDigits_mk h2 h3 hr.dig⟩
theorem pExp_head {s:Str}(c:UInt8) (hc:c=101∨c=69):pExp (c::s)=match pTake 43 s with
    | some r'=>pDigits r'
    | none=>pDigits ((pTake 45 s).getD s):=by
  rcases hc with rfl | rfl <;> rfl
theorem pExp_none {s:Str}(h1:s.head?≠some 101) (h2:s.head?≠some 69):pExp s=some s:=by
  unfold pExp;rw [pTake_none.2 h1,pTake_none.2 h2];rfl
theorem loc_exp:LocN pExp:=by
  intro s r h
  by_cases h1:s.head?=some 101∨s.head?=some 69
  · obtain ⟨c,s,rfl,hc⟩:∃ c s',s=c::s'∧(c=101∨c=69):=by
      cases s with
      | nil=>simp at h1
      | cons c s=>exact ⟨c,s,rfl,by simpa using h1⟩
    rw [pExp_head c hc] at h
    cases h43:pTake 43 s with
    | some s1 =>
      rw [h43] at h
      obtain rfl:=pTake_some.1 h43
      obtain ⟨d,hd,hd'⟩:=pExp_digits h
      refine ⟨c::43::d,by rw [hd];rfl,fun r' hr=> ?_⟩
      show pExp (c::43::(d++r'))=some r'
      rw [pExp_head c hc,pTake_self]
      exact hd' r' hr
    | none =>
      rw [h43] at h
      cases h45:pTake 45 s with
      | some s1 =>
        rw [h45] at h
        obtain rfl:=pTake_some.1 h45
        obtain ⟨d,hd,hd'⟩:=pExp_digits (r:=s1) h
        refine ⟨c::45::d,by rw [hd];rfl,fun r' hr=> ?_⟩
        show pExp (c::45::(d++r'))=some r'
        rw [pExp_head c hc,pTake_self]
        exact hd' r' hr
      | none =>
        rw [h45] at h
        obtain ⟨d,hd,h0,hdd,hr0⟩:=pDigits_some h
        simp only [Option.getD_none] at hd
        refine ⟨c::d,by rw [hd];rfl,fun r' hr=> ?_⟩
        show pExp (c::(d++r'))=some r'
        have hh:(d++r').head?=s.head?:=by rw [head_append h0,hd,head_append h0]
        rw [pExp_head c hc,pTake_none.2 (by rw [hh];exact pTake_none.1 h43),pTake_none.2 (by rw [hh];exact pTake_none.1 h45)]
        exact pDigits_mk h0 hdd hr.dig
  · have e:=pExp_none (fun h=>h1 (.inl h)) (fun h=>h1 (.inr h))
    rw [e] at h
    obtain rfl:=Option.some.inj h
    refine ⟨[],rfl,fun r' hr=> ?_⟩
    exact pExp_none (hr.ne (by decide)) (hr.ne (by decide))
theorem loc_frac:LocN pFrac:=by
  intro s r h
  unfold pFrac at h
  cases h46:pTake 46 s with
  | some s1 =>
    rw [h46] at h
    obtain rfl:=pTake_some.1 h46
    obtain ⟨s2,hd,he⟩:=Option.bind_eq_some_iff.1 h
    obtain ⟨d,rfl,h0,hdd,hr0⟩:=pDigits_some hd
    obtain ⟨t,rfl,ht⟩:=loc_exp s2 r he
    refine ⟨46::d++t,by simp,fun r' hr=> ?_⟩
    show pFrac (46::d++t++r')=some r'
    have:pDigits (d++(t++r'))=some (t++r'):=pDigits_mk h0 hdd (by
      by_cases h:t=[]
      · subst h;exact hr.dig
      · rw [head_append h] at hr0 ⊢;exact hr0)
    simp only [pFrac,List.cons_append,pTake_self,List.append_assoc,this,Option.bind_some]
    exact ht r' hr
  | none =>
    rw [h46] at h
    obtain ⟨t,rfl,ht⟩:=loc_exp s r h
    refine ⟨t,rfl,fun r' hr=> ?_⟩
    have:pTake 46 (t++r')=none:=pTake_none.2 (by
      by_cases h:t=[]
      · subst h;exact hr.ne (by decide)
      · have:=pTake_none.1 h46;rw [head_append h] at this ⊢;exact this)
    simp only [pFrac,this]
    exact ht r' hr
def pNum0 (s:Str):Option Str:=
  match pTake 48 s with
  | some r=>pFrac r
  | none=>(pDigits s).bind pFrac
theorem pNum_eq (s:Str):pNum s=pNum0 ((pTake 45 s).getD s):=rfl
theorem loc_num0:∀ s r,pNum0 s=some r→∃ t,s=t++r∧(∃ c,t.head?=some c∧isDig c=true)∧∀ r',Stop r'→pNum0 (t++r')=some r':=by
  intro s r h
  unfold pNum0 at h
  cases h48:pTake 48 s with
  | some s1 =>
    rw [h48] at h
    obtain rfl:=pTake_some.1 h48
    obtain ⟨t,rfl,ht⟩:=loc_frac s1 r h
    refine ⟨48::t,rfl,⟨48,rfl,by decide⟩,fun r' hr=> ?_⟩
    simp only [pNum0,List.cons_append,pTake_self]
    exact ht r' hr
  | none =>
    rw [h48] at h
    obtain ⟨s2,hd,he⟩:=Option.bind_eq_some_iff.1 h
    obtain ⟨d,rfl,h0,hdd,hr0⟩:=pDigits_some hd
    obtain ⟨t,rfl,ht⟩:=loc_frac s2 r he
    obtain ⟨c,d,rfl⟩:∃ c d',d=c::d':=by cases d with
      | nil=>exact absurd rfl h0
      | cons c d=>exact ⟨c,d,rfl⟩
    refine ⟨c::d++t,by simp,⟨c,by simp,hdd c (by simp)⟩,fun r' hr=> ?_⟩
    have:pDigits (c::d++(t++r'))=some (t++r'):=pDigits_mk h0 hdd (by
      by_cases h:t=[]
      · subst h;exact hr.dig
      · rw [head_append h] at hr0 ⊢;exact hr0)
    have h48':pTake 48 (c::d++(t++r'))=none:=by
      have:=pTake_none.1 h48
      exact pTake_none.2 (by simpa using this)
    unfold pNum0
    rw [List.append_assoc,h48']
    simp only [this,Option.bind_some]
    exact ht r' hr
theorem loc_num {s r:Str}(h:pNum s=some r):∃ t,s=t++r∧(∃ c,t.head?=some c∧(c=45∨isDig c=true))∧∀ r',Stop r'→pNum (t++r')=some r':=by
  rw [pNum_eq] at h
  cases h45:pTake 45 s with
  | some s1 =>
    rw [h45] at h
    obtain rfl:=pTake_some.1 h45
    obtain ⟨t,rfl,_,ht⟩:=loc_num0 s1 r h
    refine ⟨45::t,rfl,⟨45,rfl,.inl rfl⟩,fun r' hr=> ?_⟩
    rw [pNum_eq,List.cons_append,pTake_self]
    exact ht r' hr
  | none =>
    rw [h45] at h
    obtain ⟨t,rfl,⟨c,hc,hd⟩,ht⟩:=loc_num0 s r h
    refine ⟨t,rfl,⟨c,hc,.inr hd⟩,fun r' hr=> ?_⟩
    have h0:t≠ []:=by rintro rfl;simp at hc
    have:pTake 45 (t++r')=none:=pTake_none.2 (by
      have:=pTake_none.1 h45;rw [head_append h0];simpa [head_append h0] using this)
    rw [pNum_eq,this]
    exact ht r' hr
def IsNum (t:Str):Prop:=pNum t=some []
theorem num_split {s r:Str}(h:pNum s=some r):∃ t,s=t++r∧IsNum t:=by
  obtain ⟨t,rfl,_,ht⟩:=loc_num h
  exact ⟨t,rfl,by have:=ht [] Stop.nil;rw [List.append_nil] at this;exact this⟩
theorem IsNum.head {t:Str}(h:IsNum t):∃ c,t.head?=some c∧(c=45∨isDig c=true):=by
  obtain ⟨t',e,hc,ht⟩:=loc_num h
  rw [List.append_nil] at e
  subst e
  exact hc
theorem pHex_split:∀ (n:Nat) (s r:Str),pHex n s=some r→∃ t,s=t++r∧∀ u,pHex n (t++u)=some u
  | 0,s,r,h=>by simp [pHex] at h;exact ⟨[],by simp [h],fun u=>rfl⟩
  | n+1,[],r,h=>by simp [pHex] at h
  | n + 1, c :: s, r, h => by
    simp only [pHex] at h
    split at h
    · rename_i hc
      obtain ⟨t,rfl,ht⟩:=pHex_split n s r h
      exact ⟨c::t,rfl,fun u=>by simp only [List.cons_append,pHex,if_pos hc];exact ht u⟩
    · simp at h
theorem pEsc_split (s r:Str) (h:pEsc s=some r):∃ t,s=t++r∧∀ u,pEsc (t++u)=some u:=by
  cases s with
  | nil=>simp [pEsc] at h
  | cons c s =>
    simp only [pEsc] at h
    split at h
    · rename_i hc;simp at h;subst h
      exact ⟨[c],rfl,fun u=>by simp [pEsc,hc]⟩
    · rename_i hc
      split at h
      · rename_i h2
        obtain ⟨t,rfl,ht⟩:=pHex_split 4 s r h
        exact ⟨c::t,rfl,fun u=>by simp only [List.cons_append,pEsc,if_neg hc,if_pos h2];exact ht u⟩
      · simp at h
theorem str_split (s r:Str) (h:pStr s=some r):∃ i,s=i++34::r∧∀ u,pStr (i++34::u)=some u:=by
  induction hn:s.length using Nat.strongRecOn generalizing s with
  | _ n ih =>
    cases s with
    | nil=>rw [pStr_nil] at h;simp at h
    | cons c s =>
      rw [pStr_cons] at h
      split at h
      · rename_i hc;simp at h;subst h;subst hc
        exact ⟨[],rfl,fun u=>by simp [pStr_cons]⟩
      · rename_i hc
        split at h
        · simp at h
        · rename_i h2
          split at h
          · rename_i h3
            obtain ⟨s1,h4,h5⟩:=Option.bind_eq_some_iff.1 h
            have:=pEsc_lt _ _ h4
            obtain ⟨t,rfl,ht⟩:=pEsc_split _ _ h4
            obtain ⟨i,rfl,hi⟩:=ih s1.length (by simp at hn;omega) s1 h5 rfl
            refine ⟨c::t++i,by simp,fun u=> ?_⟩
            rw [List.append_assoc,List.cons_append,pStr_cons,if_neg hc,if_neg h2,if_pos h3,ht,Option.bind_some]
            exact hi u
          · rename_i h3
            obtain ⟨i,rfl,hi⟩:=ih s.length (by simp at hn;omega) s h rfl
            refine ⟨c::i,rfl,fun u=> ?_⟩
            rw [List.cons_append,pStr_cons,if_neg hc,if_neg h2,if_neg h3]
            exact hi u
theorem ins_split {s r:Str}(h:pStr s=some r):∃ i,s=i++34::r∧Ins i:=by
  obtain ⟨i,e,hi⟩:=str_split s r h
  exact ⟨i,e,hi []⟩
theorem skip_split (s:Str):∃ w,s=w++skip s∧Bl w∧∀ c,(skip s).head?=some c→isBlank c=false:=by
  induction s with
  | nil=>exact ⟨[],rfl,by intro c h;simp at h,by simp [skip]⟩
  | cons c s ih =>
    by_cases h:isBlank c=true
    · obtain ⟨w,h1,h2,h3⟩:=ih
      have e:skip (c::s)=skip s:=by simp [skip,h]
      rw [e]
      refine ⟨c::w,by rw [List.cons_append,←h1],?_,h3⟩
      intro x hx;rcases List.mem_cons.1 hx with rfl | hx;exact h;exact h2 x hx
    · have e:skip (c::s)=c::s:=by simp [skip,h]
      rw [e]
      exact ⟨[],rfl,by intro x hx;simp at hx,by intro x hx;simp at hx;subst hx;simpa using h⟩
theorem skip_len (s:Str):(skip s).length≤s.length:=by
  obtain ⟨w,h,_⟩:=skip_split s
  have:=congrArg List.length h
  simp at this;omega
theorem sub_mid (pre t r:Str):sub (pre++(t++r)) ((pre++(t++r)).length - (t++r).length) ((pre++(t++r)).length - r.length)=t:=by
  unfold sub
  simp only [List.length_append]
  rw [show pre.length+(t.length+r.length) - (t.length+r.length)=pre.length from by omega,show pre.length+(t.length+r.length) - r.length - pre.length=t.length from by omega]
  simp
theorem sub_at {T pre t r:Str}(h:T=pre++(t++r)):sub T (T.length - (t++r).length) (T.length - r.length)=t:=by
  subst h;exact sub_mid pre t r
theorem Bl.nil:Bl []:=by intro c h;simp at h
theorem Bl.append {a b:Str}(ha:Bl a) (hb:Bl b):Bl (a++b):=by
  intro c h;rcases List.mem_append.1 h with h | h;exact ha c h;exact hb c h
theorem word_split {w s r:Str}(h:pWord w s=some r):s=w++r:=by
  unfold pWord at h
  split at h
  · rename_i hw
    obtain rfl:=Option.some.inj h
    conv=>lhs;rw [←List.take_append_drop w.length s,hw]
  · simp at h
def vhead (c:UInt8):Bool:=c==110 || c==102 || c==116 || c==45 || isDig c || c==34 || c==91 || c==123
theorem Shows.head {t:Str}{it:It}(h:Shows t it):∀ n,it= .v n→∃ c r,t=c::r∧vhead c=true:=by
  cases h with
  | num h =>
    intro n _
    obtain ⟨c,hc,hd⟩:=IsNum.head h
    cases t with
    | nil=>simp at hc
    | cons d r =>
      simp only [List.head?_cons,Option.some.injEq] at hc
      subst hc
      exact ⟨d,r,rfl,by rcases hd with rfl | hd;decide;simp [vhead,hd]⟩
  | nul=>intro n _;exact ⟨_,_,rfl,by decide⟩
  | fls=>intro n _;exact ⟨_,_,rfl,by decide⟩
  | tru=>intro n _;exact ⟨_,_,rfl,by decide⟩
  | str h=>intro n _;exact ⟨34,_,rfl,by decide⟩
  | arr0 h=>intro n _;exact ⟨91,_,rfl,by decide⟩
  | arr h=>intro n _;exact ⟨91,_,rfl,by decide⟩
  | obj0 h=>intro n _;exact ⟨123,_,rfl,by decide⟩
  | obj h=>intro n _;exact ⟨123,_,rfl,by decide⟩
  | e1=>intro n h;cases h
  | e2=>intro n h;cases h
  | m1=>intro n h;cases h
  | m2=>intro n h;cases h
theorem isDig_ne {c d:UInt8}(h:isDig c=true) (hd:isDig d=false):c≠d:=by rintro rfl;rw [h] at hd;exact absurd hd (by decide)
theorem vhead_blank {c:UInt8}(h:vhead c=true):isBlank c=false:=by
  simp only [vhead,Bool.or_eq_true,beq_iff_eq] at h
  rcases h with ((((((rfl | rfl) | rfl) | rfl) | h) | rfl) | rfl) | rfl <;> first | decide | skip
  simp only [isBlank,Bool.or_eq_false_iff,beq_eq_false_iff_ne]
  refine ⟨⟨⟨?_,?_⟩,?_⟩,?_⟩ <;> exact isDig_ne h (by decide)
theorem vhead_ne {c:UInt8}(h:vhead c=true) {d:UInt8}(hd:vhead d=false):c≠d:=by rintro rfl;rw [h] at hd;exact absurd hd (by decide)
theorem Shows.lead_e {w t:Str}{l:List Nd}(hw:Bl w) (h:Shows t (.e l)):Shows (w++t) (.e l):=by
  cases h with
  | e1 h1 h h2=>have:=Shows.e1 (hw.append h1) h h2;simpa using this
  | e2 h1 h h2 hr=>have:=Shows.e2 (hw.append h1) h h2 hr;simpa using this
theorem Shows.lead_m {w t:Str}{ks:List Str}{l:List Nd}(hw:Bl w) (h:Shows t (.m ks l)):Shows (w++t) (.m ks l):=by
  cases h with
  | m1 h1 hi h2 h3 h h4=>have:=Shows.m1 (hw.append h1) hi h2 h3 h h4;simpa using this
  | m2 h1 hi h2 h3 h h4 hr=>have:=Shows.m2 (hw.append h1) hi h2 h3 h h4 hr;simpa using this
theorem sound (T:Str):∀ n,
    (∀ pre s p r,T=pre++s→pVal T.length n s=some (p,r)→∃ t,s=t++r∧Shows t (.v (tree T p)))∧
    (∀ pre s ps r,T=pre++s→pElems T.length n s=some (ps,r)→∃ t,s=t++93::r∧Shows t (.e (trees T ps)))∧
    (∀ pre s ns ps r,T=pre++s→pMems T.length n s=some (ns,ps,r)→∃ t,s=t++125::r∧Shows t (.m (ns.map fun x=>unquote (sub T x.1 x.2)) (trees T ps)))
  | 0=>⟨fun _ _ _ _ _ h=>by simp [pVal] at h,fun _ _ _ _ _ h=>by simp [pElems] at h,fun _ _ _ _ _ _ h=>by simp [pMems] at h⟩
  | n + 1 => by
    obtain ⟨ihv,ihe,ihm⟩:=sound T n
    refine ⟨?_,?_,?_⟩
    · intro pre s p r hT h
      cases s with
      | nil=>simp [pVal] at h
      | cons c s =>
        simp only [pVal] at h
        obtain ⟨w,hw,hbl,hsk⟩:=skip_split s
        split at h
        · rename_i hc;subst hc
          split at h
          · rename_i r2 hr2
            obtain ⟨rfl,rfl⟩:=Prod.mk.inj (Option.some.inj h)
            have hs:123::s=(123::w++ [125])++r2:=by rw [hw,pTake_some.1 hr2];simp
            refine ⟨123::w++ [125],hs,?_⟩
            simp only [tree,trees,List.map_nil]
            exact .obj0 hbl
          · obtain ⟨⟨ns,ps,r'⟩,hx,he⟩:=Option.map_eq_some_iff.1 h
            obtain ⟨rfl,rfl⟩:=Prod.mk.inj he
            obtain ⟨t,ht,hsh⟩:=ihm (pre++123::w) (skip s) ns ps r' (by rw [hT];simp;exact hw) hx
            refine ⟨123::(w++t)++ [125],by rw [hw,ht];simp,?_⟩
            simp only [tree]
            exact .obj (hsh.lead_m hbl)
        · split at h
          · rename_i hc;subst hc
            split at h
            · rename_i r2 hr2
              obtain ⟨rfl,rfl⟩:=Prod.mk.inj (Option.some.inj h)
              have hs:91::s=(91::w++ [93])++r2:=by rw [hw,pTake_some.1 hr2];simp
              refine ⟨91::w++ [93],hs,?_⟩
              simp only [tree,trees,List.map_nil]
              exact .arr0 hbl
            · obtain ⟨⟨ps,r'⟩,hx,he⟩:=Option.map_eq_some_iff.1 h
              obtain ⟨rfl,rfl⟩:=Prod.mk.inj he
              obtain ⟨t,ht,hsh⟩:=ihe (pre++91::w) (skip s) ps r' (by rw [hT];simp;exact hw) hx
              refine ⟨91::(w++t)++ [93],by rw [hw,ht];simp,?_⟩
              simp only [tree]
              exact .arr (hsh.lead_e hbl)
          · split at h
            · rename_i hc;subst hc
              obtain ⟨r2,hx,he⟩:=Option.map_eq_some_iff.1 h
              obtain ⟨rfl,rfl⟩:=Prod.mk.inj he
              obtain ⟨i,hi,hin⟩:=ins_split hx
              have hs:34::s=(34::i++ [34])++r2:=by rw [hi];simp
              refine ⟨34::i++ [34],hs,?_⟩
              have e:sub T (T.length - (34::s).length) (T.length - r2.length)=34::i++ [34]:=by rw [hs];exact sub_at (pre:=pre) (by rw [hT,hs])
              simp only [tree,trees,List.map_nil,e]
              simp only [show (4:Nat)≠3 from by decide,if_false,if_true,unquote_mk]
              exact .str hin
            · split at h
              · obtain ⟨r2,hx,he⟩:=Option.map_eq_some_iff.1 h
                obtain ⟨rfl,rfl⟩:=Prod.mk.inj he
                obtain ⟨t,hs,hn⟩:=num_split hx
                refine ⟨t,hs,?_⟩
                have e:sub T (T.length - (c::s).length) (T.length - r2.length)=t:=by rw [hs];exact sub_at (pre:=pre) (by rw [hT,hs])
                simp only [tree,trees,List.map_nil,e,if_true]
                exact .num hn
              · split at h
                · rename_i r2 hx
                  obtain ⟨rfl,rfl⟩:=Prod.mk.inj (Option.some.inj h)
                  refine ⟨_,word_split hx,?_⟩
                  simp only [tree,trees,List.map_nil]
                  exact .nul
                · split at h
                  · rename_i r2 hx
                    obtain ⟨rfl,rfl⟩:=Prod.mk.inj (Option.some.inj h)
                    refine ⟨_,word_split hx,?_⟩
                    simp only [tree,trees,List.map_nil]
                    exact .fls
                  · obtain ⟨r2,hx,he⟩:=Option.map_eq_some_iff.1 h
                    obtain ⟨rfl,rfl⟩:=Prod.mk.inj he
                    refine ⟨_,word_split hx,?_⟩
                    simp only [tree,trees,List.map_nil]
                    exact .tru
    · intro pre s ps r hT h
      simp only [pElems] at h
      split at h
      · simp at h
      · rename_i p r1 hv
        obtain ⟨t,rfl,hsh⟩:=ihv pre s p r1 hT hv
        obtain ⟨w,hw,hbl,hsk⟩:=skip_split r1
        split at h
        · rename_i r2 hr2
          obtain ⟨rfl,rfl⟩:=Prod.mk.inj (Option.some.inj h)
          refine ⟨[]++t++w,?_,?_⟩
          · conv=>lhs;rw [hw,pTake_some.1 hr2]
            simp
          · simp only [trees]
            exact .e1 Bl.nil hsh hbl
        · split at h
          · simp at h
          · rename_i r2 hr2
            obtain ⟨⟨ps',r'⟩,hx,he⟩:=Option.map_eq_some_iff.1 h
            obtain ⟨rfl,rfl⟩:=Prod.mk.inj he
            obtain ⟨w',hw',hbl',hsk'⟩:=skip_split r2
            have e1:r1=w++44::w'++skip r2:=by conv=>{lhs;rw [hw,pTake_some.1 hr2,hw']};simp
            obtain ⟨t',ht',hsh'⟩:=ihe (pre++t++w++44::w') (skip r2) ps' r' (by rw [hT];conv=>{lhs;rw [e1]};simp) hx
            have lead:=hsh'.lead_e hbl'
            refine ⟨[]++t++w++44::(w'++t'),?_,?_⟩
            · conv=>lhs;rw [e1,ht']
              simp
            · simp only [trees]
              exact .e2 Bl.nil hsh hbl lead
    · intro pre s ns ps r hT h
      simp only [pMems] at h
      split at h
      · simp at h
      · rename_i r0 hq
        obtain ⟨s1,hs1,hstr⟩:=Option.bind_eq_some_iff.1 hq
        obtain rfl:=pTake_some.1 hs1
        obtain ⟨i,rfl,hin⟩:=ins_split hstr
        have hsq:34::(i++34::r0)=(34::i++ [34])++r0:=by simp
        have eq1:sub T (T.length - (34::(i++34::r0)).length) (T.length - r0.length)=34::i++ [34]:=by rw [hsq];exact sub_at (pre:=pre) (by rw [hT,hsq])
        obtain ⟨w,hw,hbl,hsk⟩:=skip_split r0
        split at h
        · simp at h
        · rename_i r1 hr1
          obtain ⟨w3,hw3,hbl3,hsk3⟩:=skip_split r1
          have e0:r0=w++58::w3++skip r1:=by conv=>{lhs;rw [hw,pTake_some.1 hr1,hw3]};simp
          split at h
          · simp at h
          · rename_i p r2 hv
            obtain ⟨t,ht,hsh⟩:=ihv (pre++34::i++34::w++58::w3) (skip r1) p r2 (by rw [hT];conv=>{lhs;rw [e0]};simp) hv
            obtain ⟨w4,hw4,hbl4,hsk4⟩:=skip_split r2
            split at h
            · rename_i r3 hr3
              have h:=Option.some.inj h
              simp only [Prod.mk.injEq] at h
              obtain ⟨rfl,rfl,rfl⟩:=h
              refine ⟨[]++(34::i++ [34])++w++58::w3++t++w4,?_,?_⟩
              · conv=>lhs;rw [e0,ht,hw4,pTake_some.1 hr3]
                simp
              · simp only [trees,List.map_cons,List.map_nil,eq1,unquote_mk]
                exact .m1 Bl.nil hin hbl hbl3 hsh hbl4
            · split at h
              · simp at h
              · rename_i r3 hr3
                obtain ⟨⟨ns',ps',r'⟩,hx,he⟩:=Option.map_eq_some_iff.1 h
                simp only [Prod.mk.injEq] at he
                obtain ⟨rfl,rfl,rfl⟩:=he
                obtain ⟨w5,hw5,hbl5,hsk5⟩:=skip_split r3
                have e2:r2=w4++44::w5++skip r3:=by conv=>{lhs;rw [hw4,pTake_some.1 hr3,hw5]};simp
                obtain ⟨t',ht',hsh'⟩:=ihm (pre++34::i++34::w++58::w3++t++w4++44::w5) (skip r3) ns' ps' r'
                  (by rw [hT];conv=>{lhs;rw [e0,ht,e2]};simp) hx
                have lead:=hsh'.lead_m hbl5
                refine ⟨[]++(34::i++ [34])++w++58::w3++t++w4++44::(w5++t'),?_,?_⟩
                · conv=>lhs;rw [e0,ht,e2,ht']
                  simp
                · simp only [trees,List.map_cons,eq1,unquote_mk]
                  exact .m2 Bl.nil hin hbl hbl3 hsh hbl4 lead
def trailFrom (n:Nat) (s:Str):Nat:=s.foldl (fun n c=>if c=92 then n+1 else 0) n
def trail (s:Str):Nat:=trailFrom 0 s
theorem trail_snoc (s:Str) (c:UInt8):trail (s++ [c])=if c=92 then trail s+1 else 0:=by simp [trail,trailFrom]
theorem trailFrom_mod (s:Str):∀ n m:Nat,n % 2=m % 2→trailFrom n s % 2=trailFrom m s % 2:=by
  induction s with
  | nil=>intro n m h;exact h
  | cons c s ih =>
    intro n m h
    simp only [trailFrom,List.foldl_cons] at ih ⊢
    by_cases hc:c=92
    · simp only [hc,if_true];exact ih _ _ (by omega)
    · simp only [hc,if_false]
theorem trailFrom_append (n:Nat) (a b:Str):trailFrom n (a++b)=trailFrom (trailFrom n a) b:=by simp [trailFrom]
theorem trail_plain {c:UInt8}(hc:c≠92) (s:Str):trail (c::s)=trail s:=by simp [trail,trailFrom,hc]
theorem trail_pair (d:UInt8) (s:Str):trail (92::d::s) % 2=trail s % 2:=by
  simp only [trail,trailFrom,List.foldl_cons,if_true]
  by_cases hd:d=92
  · simp only [hd,if_true];exact trailFrom_mod s 2 0 (by decide)
  · simp only [hd,if_false]
theorem hex_ne {c:UInt8}(h:(hexVal c).isSome=true) {d:UInt8}(hd:(hexVal d).isSome=false):c≠d:=by rintro rfl;rw [h] at hd;cases hd
theorem pHex_take:∀ (n:Nat) (s r:Str),pHex n s=some r→∃ t,s=t++r∧t.length=n∧∀ c∈t,(hexVal c).isSome=true
  | 0,s,r,h=>by simp [pHex] at h;exact ⟨[],by simp [h],rfl,by simp⟩
  | n+1,[],r,h=>by simp [pHex] at h
  | n + 1, c :: s, r, h => by
    simp only [pHex] at h
    split at h
    · rename_i hc
      obtain ⟨t,rfl,hl,ht⟩:=pHex_take n s r h
      refine ⟨c::t,rfl,by simp [hl],?_⟩
      intro x hx;rcases List.mem_cons.1 hx with rfl | hx;exact hc;exact ht x hx
    · simp at h
theorem esc_take {s r:Str}(h:pEsc s=some r):(∃ d,s=d::r∧escLetter d=true)∨(∃ t,s=117::t++r∧t.length=4∧∀ c∈t,(hexVal c).isSome=true):=by
  cases s with
  | nil=>simp [pEsc] at h
  | cons c s =>
    simp only [pEsc] at h
    split at h
    · rename_i hc;simp at h;subst h;exact .inl ⟨c,rfl,hc⟩
    · split at h
      · rename_i h2;subst h2
        obtain ⟨t,rfl,hl,ht⟩:=pHex_take 4 s r h
        exact .inr ⟨t,rfl,hl,ht⟩
      · simp at h
theorem trail_hex {t:Str}(ht:∀ c∈t,(hexVal c).isSome=true) (s:Str):trail (92::117::t++s)=trail s:=by
  have:∀ (t:Str),(∀ c∈t,(hexVal c).isSome=true)→trailFrom 0 t=0:=by
    intro t
    induction t with
    | nil=>intro _;rfl
    | cons c t ih =>
      intro h
      have hc:c≠92:=hex_ne (h c (by simp)) (by decide)
      simp only [trailFrom,List.foldl_cons,hc,if_false] at ih ⊢
      exact ih (fun x hx=>h x (by simp [hx]))
  show trailFrom 0 (92::117::(t++s))=_
  have e:trailFrom 0 (92::117::(t++s))=trailFrom 0 (t++s):=by simp [trailFrom]
  rw [e,trailFrom_append,this t ht];rfl
theorem ins_trail:∀ (n:Nat) (i:Str),i.length=n→Ins i→trail i % 2=0∧∀ p r,i=p++34::r→trail p % 2=1:=by
  intro n
  induction n using Nat.strongRecOn with
  | _ n ih =>
    intro i hn h
    unfold Ins at h
    cases i with
    | nil=>exact ⟨rfl,fun p r e=>by simp at e⟩
    | cons c i =>
      rw [List.cons_append,pStr_cons] at h
      split at h
      · simp at h
      · rename_i h34
        split at h
        · simp at h
        · split at h
          · rename_i h92;subst h92
            obtain ⟨s1,h4,h5⟩:=Option.bind_eq_some_iff.1 h
            rcases esc_take h4 with ⟨d,hd,hl⟩ | ⟨t,ht,hl,hx⟩
            · cases i with
              | nil =>
                simp only [List.nil_append,List.cons.injEq] at hd
                rw [←hd.2] at h5;rw [pStr_nil] at h5;simp at h5
              | cons d' i =>
                simp only [List.cons_append,List.cons.injEq] at hd
                obtain ⟨rfl,rfl⟩:=hd
                obtain ⟨a,b⟩:=ih i.length (by simp at hn;omega) i rfl h5
                refine ⟨by rw [trail_pair];exact a,fun p r e=> ?_⟩
                cases p with
                | nil=>simp at e
                | cons p0 p =>
                  simp only [List.cons_append,List.cons.injEq] at e
                  obtain ⟨rfl,e⟩:=e
                  cases p with
                  | nil=>decide
                  | cons p1 p =>
                    simp only [List.cons_append,List.cons.injEq] at e
                    obtain ⟨rfl,e⟩:=e
                    rw [trail_pair];exact b p r e
            · have hlen:5≤i.length:=by
                have hs1:s1≠ []:=by rintro rfl;rw [pStr_nil] at h5;simp at h5
                have:=congrArg List.length ht
                have h6:0<s1.length:=List.length_pos_iff.2 hs1
                simp [hl] at this;omega
              obtain ⟨i',rfl,hs⟩:∃ i',i=117::t++i'∧s1=i'++ [34]:=by
                have e1:(117::t).length=5:=by simp [hl]
                have h1:i.take 5=117::t:=by
                  have:=congrArg (List.take 5) ht
                  rw [List.take_append_of_le_length hlen] at this
                  rw [this,←e1,List.take_left]
                have h2:i.drop 5++ [34]=s1:=by
                  have:=congrArg (List.drop 5) ht
                  rw [List.drop_append_of_le_length hlen] at this
                  rw [this,←e1,List.drop_left]
                exact ⟨i.drop 5,by rw [←h1,List.take_append_drop],h2.symm⟩
              subst hs
              obtain ⟨a,b⟩:=ih i'.length (by simp at hn;omega) i' rfl h5
              refine ⟨by rw [←List.cons_append,trail_hex hx];exact a,fun p r e=> ?_⟩
              have hp:∃ p',p=92::117::t++p':=by
                have hmem:∀ c∈(92::117::t:Str),c≠34:=by
                  intro c hc
                  rcases List.mem_cons.1 hc with rfl | hc;decide
                  rcases List.mem_cons.1 hc with rfl | hc;decide
                  exact hex_ne (hx c hc) (by decide)
                have e':(92::117::t)++i'=p++34::r:=by simpa using e
                clear e b a ih hn h h4 h5 ht
                generalize (92::117::t:Str)=q at*
                induction q generalizing p with
                | nil=>exact ⟨p,rfl⟩
                | cons q0 q ihq =>
                  cases p with
                  | nil =>
                    simp only [List.cons_append,List.nil_append,List.cons.injEq] at e'
                    exact absurd e'.1 (hmem q0 (by simp))
                  | cons p0 p =>
                    simp only [List.cons_append,List.cons.injEq] at e'
                    obtain ⟨rfl,e'⟩:=e'
                    obtain ⟨p',rfl⟩:=ihq p (fun c hc=>hmem c (by simp [hc])) e'
                    exact ⟨p',rfl⟩
              obtain ⟨p',rfl⟩:=hp
              rw [trail_hex hx]
              refine b p' r ?_
              have:(92::117::t)++i'=(92::117::t)++(p'++34::r):=by simpa using e
              exact List.append_cancel_left this
          · rename_i h92
            obtain ⟨a,b⟩:=ih i.length (by simp at hn;omega) i rfl h
            refine ⟨by rw [trail_plain h92];exact a,fun p r e=> ?_⟩
            cases p with
            | nil=>simp only [List.nil_append,List.cons.injEq] at e;exact absurd e.1 h34
            | cons p0 p =>
              simp only [List.cons_append,List.cons.injEq] at e
              obtain ⟨rfl,e⟩:=e
              rw [trail_plain h92];exact b p r e
theorem Ins.even {i:Str}(h:Ins i):trail i % 2=0:=(ins_trail _ i rfl h).1
theorem Ins.odd {i p r:Str}(h:Ins i) (e:i=p++34::r):trail p % 2=1:=(ins_trail _ i rfl h).2 p r e
def vcls (c:UInt8):Nat:=if c=34 then 2 else if c=123∨c=91∨c=40 then 3 else if c=125∨c=93∨c=41 then 1 else 0
def Quo (i:Str):Prop:=trail i % 2=0∧∀ p r,i=p++34::r→trail p % 2=1
theorem Ins.quo {i:Str}(h:Ins i):Quo i:=⟨h.even,fun _ _ e=>h.odd e⟩
theorem bl_vcls {w:Str}(hw:Bl w):∀ c∈w,vcls c=0:=by
  intro c hc
  have:=hw c hc
  simp only [isBlank,Bool.or_eq_true,beq_iff_eq] at this
  rcases this with ((rfl | rfl) | rfl) | rfl <;> decide
theorem dig_ne {c:UInt8}(h:isDig c=true):vcls c=0:=by
  unfold vcls
  have hn:∀ d:UInt8,isDig d=false→c≠d:=fun d hd=>isDig_ne h hd
  rw [if_neg (hn 34 (by decide)),if_neg,if_neg]
  · rintro (h1 | h1 | h1) <;> exact hn _ (by decide) h1
  · rintro (h1 | h1 | h1) <;> exact hn _ (by decide) h1
theorem exp_chars {s r:Str}(h:pExp s=some r):∃ t,s=t++r∧∀ c∈t,numc c=true:=by
  by_cases h1:s.head?=some 101∨s.head?=some 69
  · obtain ⟨c,s,rfl,hc⟩:∃ c s',s=c::s'∧(c=101∨c=69):=by
      cases s with
      | nil=>simp at h1
      | cons c s=>exact ⟨c,s,rfl,by simpa using h1⟩
    have hcn:numc c=true:=by rcases hc with rfl | rfl <;> decide
    rw [pExp_head c hc] at h
    have key:∀ (p:Str) (u:Str),(∀ x∈p,numc x=true)→pDigits u=some r→∃ t,c::(p++u)=t++r∧∀ x∈t,numc x=true:=by
      intro p u hp hu
      obtain ⟨d,rfl,_,hd,_⟩:=pDigits_some hu
      refine ⟨c::(p++d),by simp,?_⟩
      intro x hx
      simp only [List.mem_cons,List.mem_append] at hx
      rcases hx with rfl | hx | hx
      · exact hcn
      · exact hp x hx
      · exact numc_dig (hd x hx)
    cases h43:pTake 43 s with
    | some s1 =>
      rw [h43] at h
      obtain rfl:=pTake_some.1 h43
      exact key [43] s1 (by decide) h
    | none =>
      rw [h43] at h
      cases h45:pTake 45 s with
      | some s1 =>
        rw [h45] at h
        obtain rfl:=pTake_some.1 h45
        exact key [45] s1 (by decide) h
      | none =>
        rw [h45] at h
        exact key [] s (by simp) h
  · rw [pExp_none (fun h=>h1 (.inl h)) (fun h=>h1 (.inr h))] at h
    obtain rfl:=Option.some.inj h
    exact ⟨[],rfl,by simp⟩
theorem frac_chars {s r:Str}(h:pFrac s=some r):∃ t,s=t++r∧∀ c∈t,numc c=true:=by
  unfold pFrac at h
  cases h46:pTake 46 s with
  | some s1 =>
    rw [h46] at h
    obtain rfl:=pTake_some.1 h46
    obtain ⟨s2,hd,he⟩:=Option.bind_eq_some_iff.1 h
    obtain ⟨d,rfl,_,hdd,_⟩:=pDigits_some hd
    obtain ⟨t,rfl,ht⟩:=exp_chars he
    refine ⟨46::(d++t),by simp,?_⟩
    intro x hx
    simp only [List.mem_cons,List.mem_append] at hx
    rcases hx with rfl | hx | hx
    · decide
    · exact numc_dig (hdd x hx)
    · exact ht x hx
  | none=>rw [h46] at h;exact exp_chars h
theorem num0_chars {s r:Str}(h:pNum0 s=some r):∃ t,s=t++r∧∀ c∈t,numc c=true:=by
  unfold pNum0 at h
  cases h48:pTake 48 s with
  | some s1 =>
    rw [h48] at h
    obtain rfl:=pTake_some.1 h48
    obtain ⟨t,rfl,ht⟩:=frac_chars h
    refine ⟨48::t,rfl,?_⟩
    intro x hx
    rcases List.mem_cons.1 hx with rfl | hx
    · decide
    · exact ht x hx
  | none =>
    rw [h48] at h
    obtain ⟨s2,hd,he⟩:=Option.bind_eq_some_iff.1 h
    obtain ⟨d,rfl,_,hdd,_⟩:=pDigits_some hd
    obtain ⟨t,rfl,ht⟩:=frac_chars he
    refine ⟨d++t,by simp,?_⟩
    intro x hx
    rcases List.mem_append.1 hx with hx | hx
    · exact numc_dig (hdd x hx)
    · exact ht x hx
theorem IsNum.chars {t:Str}(h:IsNum t):∀ c∈t,numc c=true:=by
  unfold IsNum at h
  rw [pNum_eq] at h
  cases h45:pTake 45 t with
  | some s1 =>
    rw [h45] at h
    obtain rfl:=pTake_some.1 h45
    obtain ⟨u,hu,hc⟩:=num0_chars (s:=s1) h
    rw [List.append_nil] at hu
    subst hu
    intro x hx
    rcases List.mem_cons.1 hx with rfl | hx
    · decide
    · exact hc x hx
  | none =>
    rw [h45] at h
    obtain ⟨u,hu,hc⟩:=num0_chars (s:=t) h
    rw [List.append_nil] at hu
    subst hu
    exact hc
theorem numc_vcls {c:UInt8}(h:numc c=true):vcls c=0:=by
  simp only [numc,Bool.or_eq_true,beq_iff_eq] at h
  rcases h with ((((h | rfl) | rfl) | rfl) | rfl) | rfl
  · exact dig_ne h
  all_goals decide
def tr (T:Str) (a p:Nat):Nat:=trail ((T.drop a).take (p - a))
theorem tr_self (T:Str) (a:Nat):tr T a a=0:=by simp [tr,trail,trailFrom]
theorem tr_next {T:Str}{a p:Nat}{c:UInt8}(h:a≤p) (hc:T[p]?=some c):tr T a (p+1)=if c=92 then tr T a p+1 else 0:=by
  unfold tr
  have e:p+1 - a=(p - a)+1:=by omega
  have hx:(T.drop a)[p - a]?=some c:=by rw [List.getElem?_drop];rw [show a+(p - a)=p by omega];exact hc
  rw [e,List.take_add_one,hx]
  exact trail_snoc _ c
theorem tr_run {T:Str}{a:Nat}:∀ (m p:Nat),a+m≤p→(∀ x,x<m→T[p - 1 - x]?=some 92)→tr T a p=tr T a (p - m)+m
  | 0,p,_,_=>rfl
  | m + 1, p, h, hx => by
    have h1:=tr_run (T:=T) (a:=a) m p (by omega) (fun x hl=>hx x (by omega))
    have h2:=hx m (Nat.lt_succ_self m)
    have e:p - m=(p - 1 - m)+1:=by omega
    have h3:a≤p - 1 - m:=by omega
    rw [h1,e,tr_next h3 h2,if_pos rfl,show p - (m+1)=p - 1 - m by omega]
    omega
theorem tr_stop {T:Str}{a p:Nat}{c:UInt8}(h:a<p) (hc:T[p - 1]?=some c) (hn:c≠92):tr T a p=0:=by
  have e:p=(p - 1)+1:=by omega
  rw [e,tr_next (by omega) hc,if_neg hn]
theorem drop_cons {T:Str}{i:Nat}{c:UInt8}(h:T[i]?=some c):T.drop i=c::T.drop (i+1):=by
  obtain ⟨hl,he⟩:=List.getElem?_eq_some_iff.1 h
  rw [List.drop_eq_getElem_cons hl,he]
theorem eq_t {c d:UInt8}{z:Int}(hz:z=(d.toNat:Int)) (h:((c.toNat:Int)==z)=true):c=d:=by
  have:=eq_of_beq h
  exact UInt8.toNat_inj.1 (by omega)
theorem eq_f {c d:UInt8}{z:Int}(hz:z=(d.toNat:Int)) (h:((c.toNat:Int)==z)=false):c≠d:=by
  rintro rfl
  rw [hz] at h
  simp at h
theorem ne_t {c d:UInt8}{z:Int}(hz:z=(d.toNat:Int)) (h:((c.toNat:Int) !=z)=true):c≠d:=by
  rintro rfl
  rw [hz] at h
  simp at h
theorem ne_f {c d:UInt8}{z:Int}(hz:z=(d.toNat:Int)) (h:((c.toNat:Int) !=z)=false):c=d:=by
  have:(c.toNat:Int)=z:=by simpa using h
  exact UInt8.toNat_inj.1 (by omega)
theorem seg_len {T t r:Str}{p:Nat}(h:T.drop p=t++r) (h0:t≠ []):p+t.length≤T.length:=by
  have:=congrArg List.length h
  have h1:0<t.length:=List.length_pos_iff.2 h0
  simp at this
  omega
theorem beq_t {c d:UInt8}{z:Int}(hz:z=(d.toNat:Int)) (h:c=d):((c.toNat:Int)==z)=true:=by subst h;rw [hz];simp
theorem beq_f {c d:UInt8}{z:Int}(hz:z=(d.toNat:Int)) (h:c≠d):((c.toNat:Int)==z)=false:=by
  have: ¬ (c.toNat:Int)=z:=fun e=>h (UInt8.toNat_inj.1 (by omega))
  simpa using this
theorem beq_dec {c d:UInt8}{z:Int}(hz:z=(d.toNat:Int)):((c.toNat:Int)==z)=decide (c=d):=by
  by_cases h:c=d
  · rw [beq_t hz h,decide_eq_true h]
  · rw [beq_f hz h,decide_eq_false h]
theorem bne_t {c d:UInt8}{z:Int}(hz:z=(d.toNat:Int)) (h:c≠d):((c.toNat:Int) !=z)=true:=by
  rw [bne,beq_f hz h];rfl
theorem bne_f {c d:UInt8}{z:Int}(hz:z=(d.toNat:Int)) (h:c=d):((c.toNat:Int) !=z)=false:=by
  rw [bne,beq_t hz h];rfl
def Ink (c:UInt8):Prop:=32<c.toNat∧c.toNat<128
def hv (c:UInt8):Nat:=(hexVal c).getD 0
def hexN (l:Str):Nat:=l.foldl (fun n c=>n*16+hv c) 0
theorem hexN_snoc (l:Str) (c:UInt8):hexN (l++ [c])=hexN l*16+hv c:=by simp [hexN]
def IsHex (c:UInt8):Prop:=(hexVal c).isSome=true
theorem hex_cases {c:UInt8}(h:IsHex c):(48≤c.toNat∧c.toNat≤57∧hv c=c.toNat - 48)∨(c.toNat≠95∧57<c.toNat∧97≤(c.toNat ||| 32)∧(c.toNat ||| 32)≤102∧hv c=(c.toNat ||| 32) - 97+10):=by
  have h2:∀ x:Nat,97≤x→x≤102→(x ||| 32)=x:=by
    intro x h1 h2
    have:x=97∨x=98∨x=99∨x=100∨x=101∨x=102:=by omega
    rcases this with rfl | rfl | rfl | rfl | rfl | rfl <;> rfl
  have h3:∀ x:Nat,65≤x→x≤70→(x ||| 32)=x+32:=by
    intro x h1 h2
    have:x=65∨x=66∨x=67∨x=68∨x=69∨x=70:=by omega
    rcases this with rfl | rfl | rfl | rfl | rfl | rfl <;> rfl
  unfold IsHex hexVal at h
  unfold hv hexVal
  by_cases h4:48≤c.toNat∧c.toNat≤57
  · exact .inl ⟨h4.1,h4.2,by rw [if_pos h4];rfl⟩
  · rw [if_neg h4] at h ⊢
    by_cases h5:97≤c.toNat∧c.toNat≤102
    · rw [if_pos h5,h2 _ h5.1 h5.2]
      exact .inr ⟨by omega,by omega,h5.1,h5.2,rfl⟩
    · rw [if_neg h5] at h ⊢
      by_cases h6:65≤c.toNat∧c.toNat≤70
      · rw [if_pos h6,h3 _ h6.1 h6.2]
        exact .inr ⟨by omega,by omega,by omega,by omega,by simp only [Option.getD_some];omega⟩
      · rw [if_neg h6] at h
        simp at h
theorem hv_lt {c:UInt8}(h:IsHex c):hv c<16:=by
  rcases hex_cases h with ⟨_,_,h⟩ | ⟨_,_,h1,h2,h3⟩ <;> omega
theorem hexN_lt':∀ (l:Str) (n:Nat),(∀ c∈l,IsHex c)→l.foldl (fun n c=>n*16+hv c) n<(n+1)*16^l.length
  | [],n,_=>by simp
  | c :: l, n, h => by
    have h1:=hexN_lt' l (n*16+hv c) (fun x hx=>h x (by simp [hx]))
    have h2:=hv_lt (h c (by simp))
    simp only [List.foldl_cons,List.length_cons]
    refine Nat.lt_of_lt_of_le h1 ?_
    rw [Nat.pow_succ,Nat.mul_comm (16^l.length) 16,←Nat.mul_assoc]
    exact Nat.mul_le_mul_right _ (by omega)
theorem hexN_lt (l:Str) (h:∀ c∈l,IsHex c):hexN l<16^l.length:=by
  have:=hexN_lt' l 0 h
  simpa [hexN] using this
theorem or_c0 {m:Nat}(h:m<32):192 ||| m=192+m:=by
  have:∀ m,m<32→192 ||| m=192+m:=by decide
  exact this m h
theorem or_e0 {m:Nat}(h:m<16):224 ||| m=224+m:=by
  have:∀ m,m<16→224 ||| m=224+m:=by decide
  exact this m h
theorem or_f0 {m:Nat}(h:m<8):240 ||| m=240+m:=by
  have:∀ m,m<8→240 ||| m=240+m:=by decide
  exact this m h
theorem or_80 {m:Nat}(h:m<64):128 ||| m=128+m:=by
  have:∀ m,m<64→128 ||| m=128+m:=by decide
  exact this m h
theorem and_3f (m:Nat):(m % 256)&&&63=m % 64:=by
  have:=Nat.and_two_pow_sub_one_eq_mod (m % 256) 6
  rw [show 2^6 - 1=63 from rfl] at this
  rw [this]
  omega
theorem byte_nat {m:Nat}(h:m<256):((m.toUInt8).toNat:Int)=(m:Int):=by
  congr 1
  simp [Nat.toUInt8,UInt8.toNat_ofNat']
  omega

end Js