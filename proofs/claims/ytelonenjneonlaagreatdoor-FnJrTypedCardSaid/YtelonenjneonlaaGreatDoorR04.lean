/- Part 4 of the proof of FnJrTyped: the statement Rows.FnJrTypedCardSaid; no further condition. -/
import Derived.Test.YtelonenjneonlaaGreatDoorR03
import Derived.Deep.MidRow
import Derived.Great.FillDense
import Derived.Laws.OwnMore
import Derived.Lib.LazyBuf
import Derived.Lib.UnsafeStr
set_option linter.all false
namespace Go.Sx
open Go.RowKit Go.Proofs Js Go.Proofs.YtelonenjneonlaaGreatDoorW.PrintWords
def decL (ds:Str) (nd dp:Int) (neg tr:Bool):List Value:=u8s ds++ [.int .i64 nd,.int .i64 dp,.bool neg,.bool tr]
section
variable {ds:Str}{nd dp:Int}{neg tr:Bool}
theorem dec_len (hl:ds.length=800):(decL ds nd dp neg tr).length=804:=by simp [decL,u8s_length,hl]
theorem dec_past (hl:ds.length=800) (i:Nat):(decL ds nd dp neg tr)[800+i]?=([.int .i64 nd,.int .i64 dp,.bool neg,.bool tr]:List Value)[i]?:=by
  unfold decL
  rw [List.getElem?_append_right (by rw [u8s_length];omega),u8s_length,hl,Nat.add_sub_cancel_left]
theorem dget_nd (hl:ds.length=800):(decL ds nd dp neg tr)[800]?=some (.int .i64 nd):=dec_past hl 0
theorem dget_dp (hl:ds.length=800):(decL ds nd dp neg tr)[801]?=some (.int .i64 dp):=dec_past hl 1
theorem dget_neg (hl:ds.length=800):(decL ds nd dp neg tr)[802]?=some (.bool neg):=dec_past hl 2
theorem dget_tr (hl:ds.length=800):(decL ds nd dp neg tr)[803]?=some (.bool tr):=dec_past hl 3
theorem dget_dig {j:Nat}{c:UInt8}(hc:ds[j]?=some c):(decL ds nd dp neg tr)[j]?=some (.int .u8 (c.toNat:Int)):=by
  have hj:=(List.getElem?_eq_some_iff.1 hc).1
  unfold decL
  rw [List.getElem?_append_left (by rw [u8s_length];exact hj)]
  simp [u8s,hc]
theorem dset_past (hl:ds.length=800) (i:Nat) (v:Value):(decL ds nd dp neg tr).set (800+i) v=u8s ds++([.int .i64 nd,.int .i64 dp,.bool neg,.bool tr]:List Value).set i v:=by
  unfold decL
  rw [List.set_append_right _ _ (by rw [u8s_length];omega),u8s_length,hl,Nat.add_sub_cancel_left]
theorem dset_nd (hl:ds.length=800) (v:Int):(decL ds nd dp neg tr).set 800 (.int .i64 v)=decL ds v dp neg tr:=dset_past hl 0 _
theorem dset_dp (hl:ds.length=800) (v:Int):(decL ds nd dp neg tr).set 801 (.int .i64 v)=decL ds nd v neg tr:=dset_past hl 1 _
theorem dset_neg (hl:ds.length=800) (v:Bool):(decL ds nd dp neg tr).set 802 (.bool v)=decL ds nd dp v tr:=dset_past hl 2 _
theorem dset_tr (hl:ds.length=800) (v:Bool):(decL ds nd dp neg tr).set 803 (.bool v)=decL ds nd dp neg v:=dset_past hl 3 _
theorem dset_dig (hl:ds.length=800) {j:Nat}(hj:j<800) {z:Int}{c:UInt8}(hz:z=(c.toNat:Int)):(decL ds nd dp neg tr).set j (.int .u8 z)=decL (ds.set j c) nd dp neg tr:=by
  subst hz
  unfold decL
  rw [List.set_append_left _ _ (by rw [u8s_length];omega)]
  congr 1
  simp [u8s,List.map_set]
variable {n:Nat}{K:List (Nat×Value)}{a:Act}{w:World}{Q:Exit→Act→World→Prop}{ops:Array Oper}{rest:List Oper}{o:Oper}{B:Nat}{w0:World}{L:List Bk}
theorem op_storeD {ds':Str}{nd' dp':Int}{neg' tr':Bool}(hF:Fr n K a) {b:Nat}(hM:Mem B w0 ((b,240,decL ds nd dp neg tr)::L) w) (hg:o.guard=none) {x y:Operand}{t:TypeId}{j:Nat}{v:Value}(hd:o.dst=none) (hop:o.op= .store t x y)
    (hi:(Tryz.prog.info? t).map (·.size)=some 1) (hx:ev K x=some (.pointer (some ⟨b,j,none⟩))) (hy:ev K y=some v) (hv:v.oneCell'=true) (hj:j<804) (hl:ds.length=800) (hs:(decL ds nd dp neg tr).set j v=decL ds' nd' dp' neg' tr')
    (h:∀ a' w',Fr n K a'→Mem B w0 ((b,240,decL ds' nd' dp' neg' tr')::L) w'→wpList Tryz.prog ops Q rest a' w'):wpList Tryz.prog ops Q (o::rest) a w:=
  op_store hF hM hg 0 hd hop hi hx hy hv rfl (by rw [dec_len hl];exact hj) (fun a' w' hF' hM'=>h a' w' hF' (by rw [←hs];exact hM'))
theorem gives_indexAddrD {x i:Operand}{b:Nat}{k:IntKind}{z:Int}(j:Nat) (hF:Fr n K a) (hop:o.op= .indexAddr 238 x i) (hx:ev K x=some (.pointer (some ⟨b,0,none⟩))) (hi:ev K i=some (.int k z)) (hz:z=(j:Int)) (hj:j<800) (w:World):
    (execOp a.eval o).run Tryz.prog w= .ok (.value (.pointer (some ⟨b,j,none⟩))) w:=by
  have e:=gives_indexAddrA (e:=5) (sz:=1) j hF hop (P:=Tryz.prog) (by kernel_rfl) (by kernel_rfl) hx hi hz hj w
  simpa using e
end
theorem gives_indexAddr0 {n:Nat}{K:List (Nat×Value)}{a:Act}{o:Oper}{x i:Operand}{t e:TypeId}{b l c:Nat}{k:IntKind}{z:Int}(j:Nat) (hF:Fr n K a) (hop:o.op= .indexAddr t x i) (hT:Tryz.prog.underlying t=some (.slice e)) (hs:(Tryz.prog.info? e).map (·.size)=some 1)
    (hx:ev K x=some (.slice (some ⟨b,0,none⟩) l c)) (hi:ev K i=some (.int k z)) (hz:z=(j:Int)) (hj:j<l) (w:World):(execOp a.eval o).run Tryz.prog w= .ok (.value (.pointer (some ⟨b,j,none⟩))) w:=by
  have e:=gives_indexAddrS (P:=Tryz.prog) j hF hop hT hs hx hi hz hj w
  simpa using e
theorem chr_put {m:Nat}(h:m<10):IntKind.u8.wrap (IntKind.u64.wrap ((m:Int)+48))=((chr m).toNat:Int):=by
  rw [chr_nat h,IntWalk.u64_in _ ⟨by omega,by omega⟩,IntWalk.u8_in _ ⟨by omega,by omega⟩]
  omega
theorem dig_read {c:UInt8}(h:isDig c=true):IntKind.u64.wrap (IntKind.u64.wrap (c.toNat:Int) - 48)=((dg c:Nat):Int):=by
  have:=dig_rng h
  rw [IntWalk.u64_in (c.toNat:Int) ⟨by omega,by omega⟩,IntWalk.u64_in _ ⟨by omega,by omega⟩]
  unfold dg
  omega
theorem shl_u64 {x k:Nat}(hk:k≤64) (h:x*2^k<2^64):IntKind.u64.wrap ((x:Int)*2^min k IntKind.u64.bits)=((x*2^k:Nat):Int):=by
  rw [show IntKind.u64.bits=64 from rfl,Nat.min_eq_left hk]
  have e:(x:Int)*2^k=((x*2^k:Nat):Int):=by simp
  rw [e]
  exact IntWalk.u64_in _ ⟨by omega,by omega⟩
theorem quo10 {x:Nat}(h:x<2^64):IntKind.u64.wrap ((x:Int).tdiv 10)=((x / 10:Nat):Int):=by
  have e:(x:Int).tdiv 10=((x / 10:Nat):Int):=by
    rw [Int.tdiv_eq_ediv_of_nonneg (by omega)]
    omega
  rw [e]
  exact IntWalk.u64_in _ ⟨by omega,by omega⟩
theorem u64_in {r:Int}(h1:0≤r) (h2:r≤18446744073709551615):IntKind.u64.wrap r=r:=IntWalk.u64_in _ ⟨h1,h2⟩
theorem shr_u64 {n k:Nat}(hk:k≤64):(n:Int).fdiv (2^min k IntKind.u64.bits)=((n / 2^k:Nat):Int):=by
  rw [show IntKind.u64.bits=64 from rfl,Nat.min_eq_left hk]
  have e:(2:Int)^k=((2^k:Nat):Int):=by simp
  rw [e,Int.fdiv_eq_ediv_of_nonneg _ (Int.natCast_nonneg _)]
  rfl
theorem one_shl {k:Nat}(hk:k≤60):IntKind.u64.wrap ((1:Int)*2^min k IntKind.u64.bits)=((2^k:Nat):Int):=by
  have h:(1:Nat)*2^k<2^64:=by
    have:=Nat.pow_le_pow_right (show 0<2 by decide) hk
    omega
  have e:=shl_u64 (x:=1) (k:=k) (by omega) h
  simpa using e
theorem and_mask {n k:Nat}(hn:n<2^64) (hk:k≤60):bitVal .and .u64 (n:Int) ((2^k - 1:Nat):Int)=some ((n % 2^k:Nat):Int):=by
  have h1:(2:Nat)^k≤2^60:=Nat.pow_le_pow_right (by decide) hk
  have h2:n % 2^k≤n:=Nat.mod_le _ _
  simp only [bitVal,ofInt_nat,BitVec.toNat_and,BitVec.toNat_ofNat]
  rw [show IntKind.u64.bits=64 from rfl,Nat.mod_eq_of_lt hn,Nat.mod_eq_of_lt (show 2^k - 1<2^64 by omega),Nat.and_two_pow_sub_one_eq_mod,IntWalk.u64_in _ ⟨by omega,by omega⟩]
theorem div_zero_lt {n k:Nat}(h:(((n / 2^k:Nat):Int)==0)=true):n<2^k:=by
  have h1:n / 2^k=0:=by have:=of_decide_eq_true (p:=((n / 2^k:Nat):Int)=0) (by simpa using h);omega
  exact (Nat.div_eq_zero_iff_lt (Nat.pow_pos (by decide))).1 h1
theorem div_pos_le {n k:Nat}(h:(((n / 2^k:Nat):Int)==0)=false):2^k≤n:=by
  rcases Nat.lt_or_ge n (2^k) with h1 | h1
  · rw [Nat.div_eq_of_lt h1] at h;cases h
  · exact h1
theorem powtab_at {j:Nat}(h:j<9):∃ k:Nat,powtabL[j]?=some (k:Int)∧1≤k∧k≤27∧(1≤j→3≤k)∧(j=0→k=1):=by
  match j,h with
  | 0,_=>exact ⟨1,rfl,by decide,by decide,by decide,by decide⟩
  | 1,_=>exact ⟨3,rfl,by decide,by decide,by decide,by decide⟩
  | 2,_=>exact ⟨6,rfl,by decide,by decide,by decide,by decide⟩
  | 3,_=>exact ⟨9,rfl,by decide,by decide,by decide,by decide⟩
  | 4,_=>exact ⟨13,rfl,by decide,by decide,by decide,by decide⟩
  | 5,_=>exact ⟨16,rfl,by decide,by decide,by decide,by decide⟩
  | 6,_=>exact ⟨19,rfl,by decide,by decide,by decide,by decide⟩
  | 7,_=>exact ⟨23,rfl,by decide,by decide,by decide,by decide⟩
  | 8,_=>exact ⟨26,rfl,by decide,by decide,by decide,by decide⟩
  | j+9,h=>omega
section
variable {n:Nat}{K:List (Nat×Value)}{a:Act}{w:World}{Q:Exit→Act→World→Prop}{ops:Array Oper}{rest:List Oper}{o:Oper}{B:Nat}{w0:World}{L:List Bk}
theorem op_frombits (hF:Fr n K a) (hg:o.guard=none) {d:Nat}{x:Operand}{z:Int}(hd:o.dst=some d) (hlt:Nat.blt d n=true) (hop:o.op= .call {callee:= .value (.func 215),args:= #[x],argTypes:= #[54]}) (hx:ev K x=some (.int .u64 z))
    (h:∀ a',Fr n ((d,.float .f64 z.toNat)::K) a'→wpList Tryz.prog ops Q rest a' w):wpList Tryz.prog ops Q (o::rest) a w:=
  op_run hF hg _ hd hlt (by
    have e:=run_callFunc_extern (P:=Tryz.prog) Tryz.func215 (by kernel_rfl) (by kernel_rfl) (by kernel_rfl) (e:=Extern.MathFloatBits.float64frombits) (by kernel_rfl) #[.int .u64 z] w
    have hc:a.eval (.func 215)= .func (.func 215) #[] #[]:=rfl
    simp only [execOp,hop,resolve,Deferred.ofValue,invoke,List.map_toArray,List.map_cons,List.map_nil,hF.ev hx,hc]
    simp
    rw [e]
    rfl) h
theorem op_makeN (hF:Fr n K a) (hM:Mem B w0 L w) (hg:o.guard=none) {d:Nat}{x y:Operand}{k k':IntKind}{z z':Int}(c:Nat) (hd:o.dst=some d) (hlt:Nat.blt d n=true) (hop:o.op= .makeSlice 66 x y)
    (hx:ev K x=some (.int k z)) (hy:ev K y=some (.int k' z')) (hz:z=(c:Int)) (hz':z'=(c:Int)) (hc:c≤2^46)
    (h:∀ a' w' b vs,Fr n ((d,.slice (some ⟨b,0,none⟩) c c)::K) a'→vs.length=c→Mem B w0 ((b,5,vs)::L) w'→wpList Tryz.prog ops Q rest a' w'):wpList Tryz.prog ops Q (o::rest) a w:=by
  subst hz;subst hz'
  obtain ⟨i,hi,hz,hz1,hz2⟩:=info5
  have hr:=run_make (P:=Tryz.prog) w 66 5 i (.int .u8 0) Tryz.underlying66 hi hz k k' (c:Int) (c:Int) (by omega) (Int.le_refl _) (by rw [hz2];omega) (by omega)
  have hl:(madeCells (Value.int .u8 0).cells ((c:Int).toNat*i.size)).toList.length=c:=by rw [hz1];simp [size_madeCells]
  refine op_run hF hg (.slice (some ⟨w.heap.size,0,none⟩) c c) (w':=w.alloc (.cells (madeCells (Value.int .u8 0).cells ((c:Int).toNat*i.size)) 5)) hd hlt ?_ (fun a' hF'=>h a' _ w.heap.size _ hF' hl ?_)
  · simp only [execOp,hop,hF.ev hx,hF.ev hy]
    simp [hr]
  · have:=hM.alloc 5 (madeCells (Value.int .u8 0).cells ((c:Int).toNat*i.size)).toList
    simpa using this
theorem mem_setCells:∀ (cs:List Value) (k:Nat) {b:Nat}{vs:List Value}{w:World},Mem B w0 ((b,5,vs)::L) w→Mem B w0 ((b,5,setL vs k cs)::L) (w.setCells b k cs)
  | [],_,_,_,_,hM=>hM
  | c::cs,k,b,vs,w,hM=>mem_setCells cs (k+1) (hM.set (k:=0) rfl k c)
theorem op_copyStr (hF:Fr n K a) {b c:Nat}{vs:List Value}(hM:Mem B w0 ((b,5,vs)::L) w) (hg:o.guard=none) {d:Nat}{x y:Operand}{s:List UInt8}(hd:o.dst=some d) (hlt:Nat.blt d n=true)
    (hop:o.op= .call {callee:= .builtin .copy,args:= #[x,y],argTypes:= #[66,9]}) (hx:ev K x=some (.slice (some ⟨b,0,none⟩) s.length c)) (hy:ev K y=some (.string (mkS s))) (hv:vs.length=s.length)
    (h:∀ a' w' v,Fr n ((d,v)::K) a'→Mem B w0 ((b,5,u8s s)::L) w'→wpList Tryz.prog ops Q rest a' w'):wpList Tryz.prog ops Q (o::rest) a w:=by
  obtain ⟨i,hi,hz,hz1,hz2⟩:=info5
  have hb:=(hM.blk (k:=0) rfl).2
  have hsz:∀ w,(Go.sizeOf 5).run Tryz.prog w= .ok 1 w:=fun w=>by simp [sizeOf,typeInfo,hi,hz1]
  have e:=run_copy_string (P:=Tryz.prog) w 66 9 o.type 5 b 0 s.length c (mkS s) Tryz.underlying66 hsz (by rw [mkS_size];exact Nat.le_refl _)
    (fun j hj=>by rw [mkS_size] at hj;rw [Nat.zero_add,blk_cell hb];simp;omega) (fun j hj=>by rw [mkS_size] at hj;rw [Nat.zero_add];exact blk_frozen hb j)
  have hcells:((mkS s).data.toList.map fun x=>Value.int .u8 (x.toNat:Int))=u8s s:=by simp [mkS,u8s]
  rw [hcells] at e
  have hM':=mem_setCells (u8s s) 0 hM
  rw [setL_eq (u8s s) vs 0 (by rw [u8s_length];omega)] at hM'
  have hfin:vs.take 0++u8s s++vs.drop (0+(u8s s).length)=u8s s:=by
    rw [u8s_length,List.drop_of_length_le (by omega)];simp
  rw [hfin] at hM'
  refine op_run hF hg (goInt (mkS s).size) (w':=w.setCells b 0 (u8s s)) hd hlt ?_ (fun a' hF'=>h a' _ _ hF' hM')
  simp only [execOp,hop,resolve,invoke,builtin,List.map_toArray,List.map_cons,List.map_nil,hF.ev hx,hF.ev hy]
  simp [e]
theorem op_unsafeStr (hF:Fr n K a) {b:Nat}{l:List UInt8}(hM:Mem B w0 ((b,5,u8s l)::L) w) (hg:o.guard=none) {d:Nat}{x y:Operand}(hd:o.dst=some d) (hlt:Nat.blt d n=true)
    (hop:o.op= .call {callee:= .builtin .unsafeString,args:= #[x,y],argTypes:= #[180,3]}) (hx:ev K x=some (.pointer (some ⟨b,0,none⟩))) (hy:ev K y=some (.int .i64 (l.length:Int))) (h0:l≠ []) (hl:l.length≤2^46)
    (h:∀ a' w',Fr n ((d,.string (mkS l))::K) a'→Mem B w0 L w'→wpList Tryz.prog ops Q rest a' w'):wpList Tryz.prog ops Q (o::rest) a w:=by
  have hb:=(hM.blk (k:=0) rfl)
  have hsh:w.shape? b=some (5,l.length):=by simp [World.shape?,hb.2,u8s_length]
  have e:=Lib.run_unsafeString_row (P:=Tryz.prog) (w:=w) 180 3 o.type 5 Tryz.underlying180 (by kernel_rfl) b l.length hsh l h0 (Nat.le_refl _) (by omega)
    (fun j x hx=>by rw [addr_add,Nat.zero_add,blk_cell hb.2];simp [u8s,hx])
  have hap:=List.pairwise_cons.1 hM.apart
  have hMf:Mem B w0 L (w.freeze ⟨b,0,none⟩ l.length):=by
    refine ⟨Lib.below_freeze hM.below hb.1 _,by unfold World.freeze;split;exact hM.base;simpa using hM.base,fun x hx=> ?_,hap.2⟩
    have h1:=hM.held x (by simp [hx])
    refine ⟨h1.1,?_⟩
    have hne:b≠x.1:=hap.1 x hx
    unfold World.freeze
    split
    · exact h1.2
    · simp only [Array.getElem?_modify,if_neg hne]
      exact h1.2
  refine op_run hF hg (.string (mkS l)) (w':=w.freeze ⟨b,0,none⟩ l.length) hd hlt ?_ (fun a' hF'=>h a' _ hF' hMf)
  have e':(Builtin.unsafeString_ #[180,3] o.type #[.pointer (some ⟨b,0,none⟩),.int .i64 l.length]).run Tryz.prog w= .ok (.string (mkS l)) (w.freeze ⟨b,0,none⟩ l.length):=e
  simp only [execOp,hop,resolve,invoke,builtin,List.map_toArray,List.map_cons,List.map_nil,hF.ev hx,hF.ev hy]
  simp [e']
theorem run_equalIn_iface_int {P:Program}(w:World) (d:Nat) {ti tn:TypeId}{ms:Array (String×TypeId)}{i:TypeInfo}{k:IntKind}(a b:Int)
    (hi:P.underlying ti=some (.interface ms)) (hn:P.underlying tn=some (.int k)) (hinfo:P.info? tn=some i) (hcomp:i.comparable=true):
    (Op.equalIn (d+2) ti (.iface tn (.int k a)) (.iface tn (.int k b))).run P w= .ok (a==b) w:=by
  simp [Op.equalIn,run_underlying hi,run_underlying hn,typeInfo,hinfo,hcomp]
theorem gives_eqErr {x y:Operand}{t':TypeId}{p q:Int}(hF:Fr n K a) (hop:o.op= .binOp .eql 63 x y t') (hx:ev K x=some (.iface 168 (.int .i64 p))) (hy:ev K y=some (.iface 168 (.int .i64 q))) (w:World):
    (execOp a.eval o).run Tryz.prog w= .ok (.value (.bool (p==q))) w:=by
  have hinfo:∃ i,Tryz.prog.info? 168=some i∧i.comparable=true:=by
    have h:(Tryz.prog.info? 168).map (·.comparable)=some true:=by kernel_rfl
    obtain ⟨i,h1,h2⟩:=Option.map_eq_some_iff.1 h
    exact ⟨i,h1,h2⟩
  obtain ⟨i,hi,hc⟩:=hinfo
  have hT:∃ ms,Tryz.prog.underlying 63=some (.interface ms):=⟨_,Tryz.underlying63⟩
  obtain ⟨ms,hT⟩:=hT
  have e1:=run_equalIn_iface_int (P:=Tryz.prog) w 9998 p q hT Tryz.underlying168 hi hc
  have e:(binOp .eql 63 (.iface 168 (.int .i64 p)) (.iface 168 (.int .i64 q))).run Tryz.prog w= .ok (.bool (p==q)) w:=by
    simp only [binOp]
    simp [Op.equal,Op.maxDepth,e1]
  simp only [execOp,hop,hF.ev hx,hF.ev hy]
  simp [eqGuard,e]
theorem gives_neNil1 {x:Operand}{t' tn:TypeId}{v:Value}(hF:Fr n K a) (hop:o.op= .binOp .neq 63 x (.const .nilIface) t') (hx:ev K x=some (.iface tn v)) (w:World):
    (execOp a.eval o).run Tryz.prog w= .ok (.value (.bool true)) w:=by
  have hT:∃ ms,Tryz.prog.underlying 63=some (.interface ms):=⟨_,Tryz.underlying63⟩
  obtain ⟨ms,hT⟩:=hT
  have e1:∀ m,(Op.equalIn (m+1) 63 (.iface tn v) .nilIface).run Tryz.prog w= .ok false w:=fun m=>by simp [Op.equalIn,run_underlying hT]
  have e2:(Op.equal 63 (.iface tn v) .nilIface).run Tryz.prog w= .ok false w:=e1 9999
  have e:(binOp .neq 63 (.iface tn v) .nilIface).run Tryz.prog w= .ok (.bool true) w:=by
    simp only [binOp,Sem.run_bind,e2,Result.andThen_ok]
    rfl
  have hc:a.eval (.const .nilIface)= .nilIface:=rfl
  simp only [execOp,hop,hF.ev hx,hc]
  simp [eqGuard,e]
end
theorem only_callM {P:Program}{n:Nat}{K:List (Nat×Value)}{a:Act}{w:World}{Q:Exit→Act→World→Prop}{ops:Array Oper}{oi:Oper}{B:Nat}{w0:World}{L:List Bk}{md:Region.Mode}{fuel:Nat}{listed:Array Bool}(i:Nat)
    (hF:Fr n K a) (hM:Mem B w0 L w) (hi:ops[i]?=some oi) (hr:Region.ready md ops listed=[i]) (hg:oi.guard=none) {d:Nat}{f:FuncId}{fn:Func}{l:List Operand}{ats:Array TypeId}{vals:List Value}{R:Value→Prop}(hd:oi.dst=some d) (hlt:Nat.blt d n=true)
    (hop:oi.op= .call {callee:= .value (.func f),args:=l.toArray,argTypes:=ats}) (hf:P.funcs[f]?=some fn) (hname:(fn.name== "runtime.NumGoroutine")=false) (hb:fn.body.isNone=false) (hargs:evs K l=some vals)
    (hc:Calls P f vals.toArray w (Ret fun v w'=>R v∧Below w.heap.size w w')) (h:∀ a' w' v,R v→Fr n ((d,v)::K) a'→Mem B w0 L w'→wpAny P md ops Q fuel (listed.setIfInBounds i true) a' w'):wpAny P md ops Q (fuel+1) listed a w:=by
  refine wpAny_all hr (by simp) fun j hj=> ?_
  obtain rfl:=List.mem_singleton.1 hj
  refine wpOp_step hi (fun K' hK=> ?_)
  rw [if_pos (by simp [Region.wanted,hg])]
  unfold Oper.wp
  have h1: ¬ fn.name= "runtime.NumGoroutine" :=by simpa using hname
  have h2: ¬ fn.body=none:=by cases hx:fn.body <;> simp_all
  have e:(execOp a.eval oi).run P w= .ok (.enter f vals.toArray) w:=by
    unfold execOp
    have:=hF.evs l vals hargs
    simp [hop,resolve,Deferred.ofValue,invoke,callFunc,hf,h1,h2,Act.eval]
    exact this
  rw [e,Oper.upon_enter]
  refine hc.mono ?_
  rintro e w' ⟨v,rfl,hR,hBe⟩
  rw [hd]
  exact hK _ _ (h _ w' v hR (hF.put d v (Nat.le_of_ble_eq_true hlt)) (hM.step hBe))
theorem call_and_load {P:Program}{n:Nat}{K:List (Nat×Value)}{a:Act}{w:World}{Q:Exit→Act→World→Prop}{ops:Array Oper}{oi oj:Oper}{B:Nat}{w0:World}{L:List Bk}{md:Region.Mode}{fuel:Nat}{listed:Array Bool}(i j:Nat) (hne:i≠j)
    (hF:Fr n K a) (hM:Mem B w0 L w) (hi:ops[i]?=some oi) (hj:ops[j]?=some oj) (hr:Region.ready md ops listed=[i,j]) (hri:Region.ready md ops (listed.setIfInBounds i true)=[j]) (hrj:Region.ready md ops (listed.setIfInBounds j true)=[i])
    (hg:oi.guard=none) (hg':oj.guard=none) {d d':Nat}{f:FuncId}{fn:Func}{l:List Operand}{ats:Array TypeId}{vals:List Value}{R:Value→Prop}(hd:oi.dst=some d) (hlt:Nat.blt d n=true) (hd':oj.dst=some d') (hlt':Nat.blt d' n=true) (hdd:d≠d')
    (hop:oi.op= .call {callee:= .value (.func f),args:=l.toArray,argTypes:=ats}) (hf:P.funcs[f]?=some fn) (hname:(fn.name== "runtime.NumGoroutine")=false) (hb:fn.body.isNone=false) (hargs:evs K l=some vals)
    (hargs':∀ v,evs ((d',v)::K) l=some vals)
    {t:TypeId}{td:TypeDesc}{g:Nat}{u:Value}(hop':oj.op= .load t (.global g)) (hT:P.underlying t=some td) (hpl:plainB td=true) (hu:w.cell? ⟨g,0,none⟩=some u) (hgw:g<w.heap.size)
    (hc:Calls P f vals.toArray w (Ret fun v w'=>R v∧Below w.heap.size w w'))
    (h:∀ a' w' v,R v→Fr n ((d,v)::(d',u)::K) a'→Mem B w0 L w'→wpAny P md ops Q fuel ((listed.setIfInBounds i true).setIfInBounds j true) a' w'):wpAny P md ops Q (fuel+2) listed a w:=by
  refine wpAny_all (fuel:=fuel+1) hr (by simp) fun k hk=> ?_
  rcases List.mem_cons.1 hk with rfl | hk
  · refine wpOp_step hi (fun K' hK=> ?_)
    rw [if_pos (by simp [Region.wanted,hg])]
    unfold Oper.wp
    have h1: ¬ fn.name= "runtime.NumGoroutine" :=by simpa using hname
    have h2: ¬ fn.body=none:=by cases hx:fn.body <;> simp_all
    have e:(execOp a.eval oi).run P w= .ok (.enter f vals.toArray) w:=by
      unfold execOp
      have:=hF.evs l vals hargs
      simp [hop,resolve,Deferred.ofValue,invoke,callFunc,hf,h1,h2,Act.eval]
      exact this
    rw [e,Oper.upon_enter]
    refine hc.mono ?_
    rintro e w' ⟨v,rfl,hR,hBe⟩
    rw [hd]
    refine hK _ _ ?_
    have hF':=hF.put d v (Nat.le_of_ble_eq_true hlt)
    refine only j hF' hj hri hg' hd' hlt' (gives_load1 hF' hop' hT hpl rfl ((hBe.cell hgw).trans hu)) (fun a' hF2=>h a' w' v hR ?_ (hM.step hBe))
    refine ⟨hF2.size,hF2.defers,fun x y hxy=>hF2.at_ x y ?_⟩
    simp only [look] at hxy ⊢
    by_cases e1:d'=x
    · subst e1
      have e2:Nat.beq d d'=false:=Bool.eq_false_iff.2 (fun h=>hdd (Nat.eq_of_beq_eq_true h))
      rw [e2] at hxy
      simpa using hxy
    · have e2:Nat.beq d' x=false:=Bool.eq_false_iff.2 (fun h=>e1 (Nat.eq_of_beq_eq_true h))
      rw [e2] at hxy ⊢
      exact hxy
  · obtain rfl:=List.mem_singleton.1 hk
    refine wpOp_step hj (fun K' hK=> ?_)
    rw [if_pos (by simp [Region.wanted,hg'])]
    unfold Oper.wp
    rw [gives_load1 hF hop' hT hpl rfl hu,Oper.upon_value,hd']
    refine hK _ _ ?_
    have hF':=hF.put d' u (Nat.le_of_ble_eq_true hlt')
    refine only_callM i hF' hM hi hrj hg hd hlt hop hf hname hb (hargs' u) hc (fun a' w' v hR hF2 hM2=> ?_)
    have:=h a' w' v hR hF2 hM2
    rwa [Array.setIfInBounds_comm _ _ hne] at this
variable {P:Program}{n:Nat}{K:List (Nat×Value)}{a:Act}{w:World}{Q:Exit→Act→World→Prop}{ops:Array Oper}{o oi:Oper}{B:Nat}{w0:World}{L:List Bk}{md:Region.Mode}{fuel:Nat}{listed:Array Bool}
theorem gives_build {t:TypeId}{parts:List (Nat×Operand)}{vals:List (Nat×Value)}{cells:List Value}(hF:Fr n K a) (hop:o.op= .build t parts.toArray) (hv:parts.map (fun x=>(x.1,ev K x.2))=vals.map (fun x=>(x.1,some x.2))) (hb:P.built t vals=some cells.toArray) (w:World):
    (execOp a.eval o).run P w= .ok (.value (.agg cells.toArray)) w:=by
  have hval:parts.map (fun x=>(x.1,a.eval x.2))=vals:=by
    clear hop hb
    induction parts generalizing vals with
    | nil => cases vals with
      | nil=>rfl
      | cons=>simp at hv
    | cons x parts ih => cases vals with
      | nil=>simp at hv
      | cons y vals =>
        simp only [List.map_cons,List.cons.injEq,Prod.mk.injEq] at hv ⊢
        obtain ⟨⟨h1,h2⟩,h3⟩:=hv
        refine ⟨?_,ih h3⟩
        rw [h1,hF.ev h2]
  have hr:=run_build (P:=P) w t vals.toArray cells.toArray hb
  simp only [execOp,hop]
  have e:(parts.toArray.map fun x=>(x.1,a.eval x.2))=vals.toArray:=by rw [List.map_toArray,hval]
  have e2:(Array.map (fun x=>match x with | (i,x)=>(i,a.eval x)) parts.toArray)=vals.toArray:=e
  rw [e2]
  simp [hr]
theorem only_box (i:Nat) (hF:Fr n K a) (hM:Mem B w0 L w) (hi:ops[i]?=some oi) (hr:Region.ready md ops listed=[i]) (hg:oi.guard=none) {d:Nat}{t:TypeId}{x:Operand}{v:Value}{vs:List Value}(hd:oi.dst=some d) (hlt:Nat.blt d n=true) (hop:oi.op= .box t x) (hx:ev K x=some v) (hc:v.cells=vs.toArray)
    (h:∀ a' w' b,Fr n ((d,.pointer (some ⟨b,0,none⟩))::K) a'→Mem B w0 ((b,t,vs)::L) w'→wpAny P md ops Q fuel (listed.setIfInBounds i true) a' w'):wpAny P md ops Q (fuel+1) listed a w:=by
  obtain ⟨b,w',e,hM'⟩:=does_box hF hM hop hx hc
  exact only i hF hi hr hg hd hlt e (fun a' hF'=>h a' w' b hF' hM')
end Go.Sx
namespace Js
instance (c:UInt8):Decidable (Ink c):=inferInstanceAs (Decidable (_∧_))
where
  dig_lo {c:UInt8}(h:isDig c=true):48≤c.toNat:=by
    simp only [isDig,Bool.and_eq_true,decide_eq_true_eq] at h
    exact h.1
def stopB (c:UInt8):Bool:=c==32 || c==10 || c==13 || c==9 || c==44 || c==125 || c==93
def blB (c:UInt8):Bool:=c==32 || c==10 || c==13 || c==9
def fst (p:UInt8→Bool):Str→Nat
  | []=>0
  | c::r=>if p c then 0 else fst p r+1
theorem fst_le (p:UInt8→Bool):∀ D:Str,fst p D≤D.length
  | []=>Nat.le_refl _
  | c :: r => by
    unfold fst
    split
    · exact Nat.zero_le _
    · have:=fst_le p r;simp only [List.length_cons];omega
theorem fst_drop {p:UInt8→Bool}{D:Str}{i:Nat}{c:UInt8}{r:Str}(h:D.drop i=c::r) (hi:fst p D=i+fst p (D.drop i)) (hc:p c=false):fst p D=i+1+fst p (D.drop (i+1)):=by
  rw [hi,←List.drop_drop,h]
  simp only [fst,hc,Bool.false_eq_true,if_false,List.drop_succ_cons,List.drop_zero]
  omega
theorem fst_hit {p:UInt8→Bool}{D:Str}{i:Nat}{c:UInt8}{r:Str}(h:D.drop i=c::r) (hi:fst p D=i+fst p (D.drop i)) (hc:p c=true):fst p D=i:=by
  rw [hi,h];simp [fst,hc]
theorem fst_end {p:UInt8→Bool}{D:Str}{i:Nat}(h:D.length≤i) (hi:fst p D=i+fst p (D.drop i)):fst p D=i:=by
  rw [hi,List.drop_of_length_le h];simp [fst]
def Sfx (T r:Str):Prop:=∃ pre,T=pre++r
def ps (T r:Str):Nat:=T.length - r.length
theorem Sfx.len {T r:Str}(h:Sfx T r):ps T r+r.length=T.length:=by
  obtain ⟨pre,rfl⟩:=h
  simp [ps]
theorem Sfx.refl (T:Str):Sfx T T:=⟨[],rfl⟩
theorem Sfx.drop {T r:Str}(h:Sfx T r):T.drop (ps T r)=r:=by
  obtain ⟨pre,rfl⟩:=h
  simp [ps]
theorem Sfx.tail {T t r:Str}(h:Sfx T (t++r)):Sfx T r:=by
  obtain ⟨pre,rfl⟩:=h
  exact ⟨pre++t,by simp⟩
theorem Sfx.next {T r:Str}{c:UInt8}(h:Sfx T (c::r)):Sfx T r∧ps T r=ps T (c::r)+1∧T[ps T (c::r)]?=some c∧ps T (c::r)<T.length:=by
  have h1:Sfx T r:=Sfx.tail (t:=[c]) h
  have e1:=h.len
  have e2:=h1.len
  simp only [List.length_cons] at e1
  refine ⟨h1,by omega,?_,by omega⟩
  have:=h.drop
  have e:T[ps T (c::r)]?=(T.drop (ps T (c::r)))[0]?:=by rw [List.getElem?_drop,Nat.add_zero]
  rw [e,this]
  rfl
theorem ps_nil (T:Str):ps T []=T.length:=by simp [ps]
theorem ps_self (T:Str):ps T T=0:=by simp [ps]
theorem Sfx.of_skip {T r:Str}(h:Sfx T r):Sfx T (skip r):=by
  obtain ⟨w,e,_⟩:=skip_split r
  rw [e] at h
  exact h.tail
theorem skip_step {c:UInt8}(r:Str) (h:isBlank c=true):skip (c::r)=skip r:=by simp [skip,h]
theorem skip_stop {c:UInt8}(r:Str) (h:isBlank c=false):skip (c::r)=c::r:=by simp [skip,h]
theorem unit_parts (D:Str):(D.length<6∧unit D=none)∨(∃ c r,D=c::r∧c≠92∧6≤D.length∧unit D=none)∨(∃ c r,D=92::c::r∧c≠117∧6≤D.length∧unit D=none)∨
    (∃ a b c d r,D=92::117::a::b::c::d::r∧unit D=hex4 a b c d):=by
  rcases Nat.lt_or_ge D.length 6 with h | h
  · refine .inl ⟨h,?_⟩
    cases hu:unit D with
    | none=>rfl
    | some n=>have:=unit_len hu;omega
  · match D,h with
    | c1 :: c2 :: a :: b :: c :: d :: r, h =>
      by_cases h1:c1=92
      · subst h1
        by_cases h2:c2=117
        · subst h2;exact .inr (.inr (.inr ⟨a,b,c,d,r,rfl,rfl⟩))
        · exact .inr (.inr (.inl ⟨c2,_,rfl,h2,h,unit_esc h2 _⟩))
      · refine .inr (.inl ⟨c1,_,rfl,h1,h,?_⟩)
        unfold unit
        split
        · rename_i h2;simp only [List.cons.injEq] at h2;exact absurd h2.1 h1
        · rfl
theorem hex4_none {a b c d x:UInt8}(hx:x∈ [a,b,c,d]) (h:hexVal x=none):hex4 a b c d=none:=by
  unfold hex4
  simp only [List.mem_cons,List.not_mem_nil,or_false] at hx
  rcases hx with rfl | rfl | rfl | rfl <;> rw [h] <;> (repeat' split) <;> simp_all
theorem hex_step {t:Str}(ht:t.length=4) {j:Nat}(hj:j<4) (h:∀ x∈t.take j,IsHex x) {x:UInt8}(hx:t[j]?=some x) (hh:IsHex x):
    (∀ x∈t.take (j+1),IsHex x)∧hexN (t.take (j+1))=hexN (t.take j)*16+hv x∧hexN (t.take j)<4096∧hv x<16:=by
  have e:t.take (j+1)=t.take j++ [x]:=by rw [List.take_add_one,hx];rfl
  refine ⟨?_,by rw [e,hexN_snoc],?_,hv_lt hh⟩
  · rw [e]
    intro y hy
    rcases List.mem_append.1 hy with hy | hy
    · exact h y hy
    · rw [List.mem_singleton.1 hy];exact hh
  · refine Nat.lt_of_lt_of_le (hexN_lt _ h) ?_
    have hl:(t.take j).length≤3:=by simp;omega
    exact Nat.le_trans (Nat.pow_le_pow_right (by decide) hl) (by decide)
theorem hex4_lt {a b c d:UInt8}{n:Nat}(h:hex4 a b c d=some n):n<65536:=by
  have hex:∀ x∈ [a,b,c,d],IsHex x:=by
    intro x hx
    unfold IsHex
    cases hh:hexVal x with
    | none=>rw [hex4_none hx hh] at h;cases h
    | some v=>rfl
  rw [hex4_hexN hex] at h
  have h1:=Option.some.inj h
  have h2:=hexN_lt [a,b,c,d] hex
  have h3:(16:Nat)^ [a,b,c,d].length=65536:=by simp
  omega
theorem unit_lt {D:Str}{n:Nat}(h:unit D=some n):n<65536:=by
  rcases unit_parts D with ⟨_,e⟩ | ⟨_,_,_,_,_,e⟩ | ⟨_,_,_,_,_,e⟩ | ⟨a,b,c,d,r,_,e⟩
  · rw [e] at h;cases h
  · rw [e] at h;cases h
  · rw [e] at h;cases h
  · rw [e] at h;exact hex4_lt h
theorem drop_get {s D:Str}{i:Nat}(h:s.drop i=D) (j:Nat):s[i+j]?=D[j]?:=by rw [←h,List.getElem?_drop]
theorem unq_step {D:Str}(h:Ins D):D=[]∨(∃ c r,D=c::r∧c≠92∧Ins r∧unq D=c::unq r)∨(∃ d r,D=92::d::r∧unit D=none∧Ins r∧unq D=short d::unq r)∨
    (∃ n r,D.drop 6=r∧6≤D.length∧D.head?=some 92∧unit D=some n∧Ins r∧unit r=none∧unq D=enc n++unq r)∨
    (∃ n m r,D.drop 6=r∧6≤D.length∧D.head?=some 92∧unit D=some n∧Ins r∧unit r=some m∧high n=false∧unq D=enc n++unq r)∨
    (∃ n m r,D.drop 6=r∧6≤D.length∧D.head?=some 92∧unit D=some n∧Ins r∧unit r=some m∧high n=true∧low m=false∧unq D=enc n++unq r)∨
    (∃ n m r,D.drop 12=r∧12≤D.length∧D.head?=some 92∧unit D=some n∧Ins r∧unit (D.drop 6)=some m∧high n=true∧low m=true∧unq D=enc (0x10000+(n - 0xd800)*0x400+(m - 0xdc00))++unq r):=by
  rcases ins_cases h with h | ⟨c,r,rfl,_,hc,hr⟩ | ⟨d,r,rfl,hd,hr⟩ | ⟨a,b,c,d,r,rfl,hx,hr⟩
  · exact .inl h
  · exact .inr (.inl ⟨c,r,rfl,hc,hr,unq_cons hc r⟩)
  · have hd117:d≠117:=by rintro rfl;exact absurd hd (by decide)
    exact .inr (.inr (.inl ⟨d,r,rfl,unit_esc hd117 r,hr,unq_esc hd117 r⟩))
  · have hn:=hex4_hexN hx
    have hu:unit (92::117::a::b::c::d::r)=some (hexN [a,b,c,d]):=hn
    have h6:6≤(92::117::a::b::c::d::r).length:=by simp only [List.length_cons];omega
    cases hm:unit r with
    | none=>exact .inr (.inr (.inr (.inl ⟨_,r,rfl,h6,rfl,hu,hr,hm,unq_uni hn r (.inr (fun m h=>by rw [hm] at h;cases h))⟩)))
    | some m =>
      cases hh:high (hexN [a,b,c,d]) with
      | false=>exact .inr (.inr (.inr (.inr (.inl ⟨_,m,r,rfl,h6,rfl,hu,hr,hm,hh,unq_uni hn r (.inl hh)⟩))))
      | true =>
        cases hl:low m with
        | false=>exact .inr (.inr (.inr (.inr (.inr (.inl ⟨_,m,r,rfl,h6,rfl,hu,hr,hm,hh,hl,unq_uni hn r (.inr (fun m' h=>by rw [hm] at h;cases h;exact hl))⟩)))))
        | true =>
          rcases ins_cases hr with rfl | ⟨c',r',rfl,_,hc',_⟩ | ⟨d',r',rfl,hd',_⟩ | ⟨a',b',c',d',r',rfl,hx',hr'⟩
          · cases hm
          · rcases unit_parts (c'::r') with ⟨_,e⟩ | ⟨_,_,_,_,_,e⟩ | ⟨_,_,_,_,_,e⟩ | ⟨_,_,_,_,_,e1,e⟩
            · rw [e] at hm;cases hm
            · rw [e] at hm;cases hm
            · rw [e] at hm;cases hm
            · simp only [List.cons.injEq] at e1;exact absurd e1.1 hc'
          · rw [unit_esc (by rintro rfl;exact absurd hd' (by decide))] at hm;cases hm
          · refine .inr (.inr (.inr (.inr (.inr (.inr ⟨_,m,r',rfl,?_,rfl,hu,hr',hm,hh,hl,unq_pair hn hm hh hl r'⟩)))))
            simp only [List.length_cons];omega
end Js
namespace Go.Sx
open Go.RowKit Go.Proofs Js
def Bts (w:World) (b o:Nat) (D:Str):Prop:=b<w.heap.size∧∀ j c,D[j]?=some c→w.cell? ⟨b,o+j,none⟩=some (.int .u8 (c.toNat:Int))
theorem Bts.below {w w':World}{b o:Nat}{D:Str}(h:Bts w b o D) (hb:Below w.heap.size w w'):Bts w' b o D:=
  ⟨Nat.lt_of_lt_of_le h.1 hb.size,fun j c hj=>(hb.cell (show b<w.heap.size from h.1)).trans (h.2 j c hj)⟩
theorem Bts.drop {w:World}{b o:Nat}{D:Str}(h:Bts w b o D) (i:Nat):Bts w b (o+i) (D.drop i):=
  ⟨h.1,fun j c hj=>by rw [Nat.add_assoc];exact h.2 _ c (by rw [List.getElem?_drop] at hj;exact hj)⟩
theorem Bts.take {w:World}{b o:Nat}{D:Str}(h:Bts w b o D) (i:Nat):Bts w b o (D.take i):=
  ⟨h.1,fun j c hj=>h.2 j c (by rw [List.getElem?_take] at hj;split at hj;exact hj;cases hj)⟩
theorem Bts.cell {w w':World}{b o j:Nat}{D:Str}{c:UInt8}{L:List Bk}(h:Bts w b o D) (hM:Mem w.heap.size w L w') (hj:D[j]?=some c):w'.cell? ⟨b,o+j*1,none⟩=some (.int .u8 (c.toNat:Int)):=by
  rw [Nat.mul_one];exact (hM.below.cell (show b<w.heap.size from h.1)).trans (h.2 j c hj)
theorem drop_cons {D:Str}{i:Nat}(h:i<D.length):∃ c r,D.drop i=c::r∧D[i]?=some c:=by
  refine ⟨D[i],D.drop (i+1),List.drop_eq_getElem_cons h,List.getElem?_eq_getElem h⟩
open Go.Proofs.YtelonenjneonlaaGreatDoorW.PrintWords
def RD (T r:Str):List Value:=[.string (mkS T),.int .i64 ((ps T r:Nat):Int)]
theorem gives_neqStr {P:Program}{n:Nat}{K:List (Nat×Value)}{a:Act}{o:Oper}{t t':TypeId}{x y:Operand}{l r:List UInt8}(hF:Fr n K a) (hop:o.op= .binOp .neq t x y t') (hx:ev K x=some (.string (mkS l))) (hy:ev K y=some (.string (mkS r))) (w:World):
    (execOp a.eval o).run P w= .ok (.value (.bool (!(l==r)))) w:=by
  have e:(binOp .neq t (.string (mkS l)) (.string (mkS r))).run P w= .ok (.bool (!(l==r))) w:=by
    rw [binOp_string_neq,toList_mkS,toList_mkS];rfl
  simp only [execOp,hop,hF.ev hx,hF.ev hy]
  simp [eqGuard,e]
noncomputable def c1 (x y:Bk):Nat:=@ite _ (y=x) (Classical.propDecidable _) 1 0
noncomputable def ct (x:Bk):List Bk→Nat
  | []=>0
  | y::L=>ct x L+c1 x y
theorem ct_append (x:Bk):∀ (L M:List Bk),ct x (L++M)=ct x L+ct x M
  | [],M=>by simp [ct]
  | y::L,M=>by simp only [List.cons_append,ct,ct_append x L M];omega
theorem pc {L M:List Bk}(h:∀ x,ct x L=ct x M):L.Perm M:=by
  classical
  refine List.perm_iff_count.2 (fun x=> ?_)
  have e:∀ L:List Bk,L.count x=ct x L:=by
    intro L
    induction L with
    | nil=>rfl
    | cons y L ih =>
      rw [List.count_cons,ih]
      simp only [ct,c1]
      by_cases hy:y=x <;> simp [hy]
  rw [e,e,h x]
structure Elt (t e m:Nat):Prop where
  und:Tryz.prog.underlying t=some (.slice e)
  info:∃ i z,Tryz.prog.info? e=some i∧i.zero=some z∧i.size=m∧i.bytes≤128∧z.cells.size=m
  pos:0<m
noncomputable def eltB (e m:Nat):Bool:=match Tryz.prog.info? e with
  | none=>false
  | some i => match i.zero with
    | none=>false
    | some z=>Nat.beq i.size m&&Nat.ble i.bytes 128&&Nat.beq z.cells.size m&&Nat.blt 0 m
theorem Elt.of {t e m:Nat}(h:Tryz.prog.underlying t=some (.slice e)) (hb:eltB e m=true):Elt t e m:=by
  unfold eltB at hb
  split at hb
  · cases hb
  · rename_i i hi
    split at hb
    · cases hb
    · rename_i z hz
      simp only [Bool.and_eq_true] at hb
      obtain ⟨⟨⟨h1,h2⟩,h3⟩,h4⟩:=hb
      exact ⟨h,⟨i,z,hi,hz,Nat.eq_of_beq_eq_true h1,Nat.le_of_ble_eq_true h2,Nat.eq_of_beq_eq_true h3⟩,Nat.le_of_ble_eq_true h4⟩
theorem elt24:Elt 24 80 2:= .of (by kernel_rfl) (by kernel_rfl)
theorem elt25:Elt 25 27 5:= .of (by kernel_rfl) (by kernel_rfl)
theorem elt66:Elt 66 5 1:= .of (by kernel_rfl) (by kernel_rfl)
def Row (e m:Nat) (R:List Bk) (v:Value) (n:Nat) (xs:List Value):Prop:=
  xs.length=n*m∧((R=[]∧v= .slice none 0 0∧n=0)∨∃ g cap vs,R=[(g,e,vs)]∧v= .slice (some ⟨g,0,none⟩) n cap∧n≤cap∧cap≤maxLen∧vs.length=cap*m∧vs.take (n*m)=xs)
def SlOf (TB:List Bk) (e m:Nat) (v:Value) (n:Nat) (xs:List Value):Prop:=
  xs.length=n*m∧((v= .slice none 0 0∧n=0)∨∃ g cap vs,(g,e,vs)∈TB∧v= .slice (some ⟨g,0,none⟩) n cap∧n≤cap∧cap≤maxLen∧vs.length=cap*m∧vs.take (n*m)=xs)
theorem Row.nil (e m:Nat):Row e m [] (.slice none 0 0) 0 []:=⟨by simp,.inl ⟨rfl,rfl,rfl⟩⟩
theorem Row.sl {e m:Nat}{R:List Bk}{v:Value}{n:Nat}{xs:List Value}(h:Row e m R v n xs):SlOf R e m v n xs:=by
  refine ⟨h.1,?_⟩
  rcases h.2 with ⟨_,h2,h3⟩ | ⟨g,cap,vs,rfl,h2,h3⟩
  · exact .inl ⟨h2,h3⟩
  · exact .inr ⟨g,cap,vs,by simp,h2,h3⟩
theorem SlOf.mono {TB TB':List Bk}{e m:Nat}{v:Value}{n:Nat}{xs:List Value}(h:SlOf TB e m v n xs) (hs:TB⊆TB'):SlOf TB' e m v n xs:=by
  refine ⟨h.1,?_⟩
  rcases h.2 with h2 | ⟨g,cap,vs,h1,h2⟩
  · exact .inl h2
  · exact .inr ⟨g,cap,vs,hs h1,h2⟩
theorem SlOf.nil (TB:List Bk) (e m:Nat):SlOf TB e m (.slice none 0 0) 0 []:=⟨by simp,.inl ⟨rfl,rfl⟩⟩
theorem SlOf.one {TB:List Bk}{e m:Nat}{v:Value}{n:Nat}{xs:List Value}(h:SlOf TB e m v n xs):v.oneCell'=true:=by
  rcases h.2 with ⟨rfl,_⟩ | ⟨g,cap,vs,_,rfl,_⟩ <;> rfl
section
variable {B:Nat}{w0 w:World}{L:List Bk}
theorem Mem.sub (hM:Mem B w0 L w) {L':List Bk}(D:List Bk) (h:L.Perm (D++L')):Mem B w0 L' w:=(hM.perm h).drop (List.sublist_append_right _ _)
theorem Row.owns {e m:Nat}{R:List Bk}{v:Value}{n:Nat}{xs:List Value}(h:Row e m R v n xs) (hM:Mem B w0 (R++L) w):w.ownsRow B e m v n xs:=by
  refine ⟨h.1,?_⟩
  rcases h.2 with ⟨_,h2,h3⟩ | ⟨g,cap,vs,rfl,h2,h3,h4,h5,h6⟩
  · exact .inl ⟨h2,h3⟩
  · have:=hM.blk (k:=0) rfl
    exact .inr ⟨g,cap,vs.toArray,h2,this.1,this.2,h3,h4,by simpa using h5,by simpa using h6⟩
theorem row_after {e m:Nat}{R:List Bk}{v:Value}{n:Nat}{xs:List Value}(h:Row e m R v n xs) (hM:Mem B w0 (R++L) w) {v':Value}{w':World}{n':Nat}{xs':List Value}(ho:w'.ownsRow B e m v' n' xs') (hg:w.grownBy w' v.ownBlock)
    (hat:v'.ownBlock=v.ownBlock∨v'.ownBlock=some w.heap.size):∃ R',Row e m R' v' n' xs'∧Mem B w0 (R'++L) w':=by
  have hL:Mem B w0 L w:=hM.drop (List.sublist_append_right _ _)
  have hv:∀ k,v.ownBlock=some k→B≤k∧∀ x∈L,x.1≠k:=by
    intro k hk
    rcases h.2 with ⟨_,rfl,_⟩ | ⟨g,cap,vs,rfl,rfl,_⟩
    · simp [Value.ownBlock] at hk
    · simp only [Value.ownBlock,Option.some.injEq] at hk
      subst hk
      refine ⟨(hM.blk (k:=0) rfl).1,fun x hx=> ?_⟩
      have:=(List.pairwise_cons.1 hM.apart).1 x hx
      exact Ne.symm this
  have hM':Mem B w0 L w':=by
    refine ⟨hM.below.grown hg hM.base (fun k' e=>(hv k' e).1),Nat.le_trans hM.base hg.size,fun x hx=> ?_,hL.apart⟩
    have h3:=hL.held x hx
    exact ⟨h3.1,(hg.block _ (blk_lt h3.2) (fun e=>(hv x.1 (e.symm▸rfl)).2 x hx rfl)).trans h3.2⟩
  rcases ho.2 with ⟨rfl,rfl⟩ | ⟨g,cap,cur,rfl,hb,hh,hnc,hcm,hcs,ht⟩
  · exact ⟨[],⟨ho.1,.inl ⟨rfl,rfl,rfl⟩⟩,hM'⟩
  · refine ⟨[(g,e,cur.toList)],⟨ho.1,.inr ⟨g,cap,cur.toList,rfl,rfl,hnc,hcm,by simpa using hcs,ht⟩⟩,hM'.below,hM'.base,?_,?_⟩
    · intro x hx
      rcases List.mem_cons.1 hx with rfl | hx
      · exact ⟨hb,by simpa using hh⟩
      · exact hM'.held x hx
    · refine List.pairwise_cons.2 ⟨fun x hx=> ?_,hM'.apart⟩
      rcases hat with h1 | h1
      · exact Ne.symm ((hv g (by rw [←h1];rfl)).2 x hx)
      · simp only [Value.ownBlock,Option.some.injEq] at h1
        have:=blk_lt (hL.held x hx).2
        simp only;omega
theorem mem_appendR {t e m:Nat}(hE:Elt t e m) {R:List Bk}{v:Value}{n:Nat}{xs:List Value}(h:Row e m R v n xs) (hM:Mem B w0 (R++L) w) (ty:TypeId) {TB:List Bk}{v2:Value}{k:Nat}{news:List Value}(h2:SlOf TB e m v2 k news) (hTB:TB⊆L)
    (h1:∀ u∈news,u.oneCell'=true) (hs:n+k≤2^40):
    ∃ R' v' w',(Builtin.append_ #[t,t] ty #[v,v2]).run Tryz.prog w= .ok v' w'∧Row e m R' v' (n+k) (xs++news)∧Mem B w0 (R'++L) w':=by
  obtain ⟨i,z,hi,hz,hz1,hz2,hz3⟩:=hE.info
  rcases h2.2 with ⟨rfl,rfl⟩ | ⟨g,cap,vs,hmem,rfl,hnc,hcm,hcs,ht⟩
  · have hn:news=[]:=by have:=h2.1;simp at this;exact this
    subst hn
    have e1:=run_append_owned_none (P:=Tryz.prog) (w:=w) B t ty e i m hE.und hi v n xs (h.owns hM)
    exact ⟨R,v,w,e1,by simpa using h,hM⟩
  · have hgL:=(hM.held _ (List.mem_append_right R (hTB hmem))).2
    have hnews:∀ j u,news[j]?=some u→w.cell? ((⟨g,0,none⟩:Addr).add j)=some u:=by
      intro j u hj
      rw [Addr.add_mid,Nat.zero_add,blk_cell hgL]
      rw [←ht,List.getElem?_take] at hj
      split at hj
      · simpa using hj
      · cases hj
    have hb:(n+k)*i.bytes≤140737488355328:=Nat.le_trans (Nat.mul_le_mul hs hz2) (by decide)
    obtain ⟨v',w',hr,ho,hg, -,hat⟩:=run_append_own_at (P:=Tryz.prog) w B t ty e i z m i.bytes hE.und hi hz hz1 rfl hz3 hE.pos v n xs (h.owns hM) ⟨g,0,none⟩ k cap news h2.1 hnews h1 (by simp only [maxLen];omega) hb hM.base
    obtain ⟨R',h3,h4⟩:=row_after h hM ho hg hat
    exact ⟨R',v',w',hr,h3,h4⟩
end
section
variable {n:Nat}{K:List (Nat×Value)}{a:Act}{w:World}{Q:Exit→Act→World→Prop}{ops:Array Oper}{rest:List Oper}{o:Oper}{B:Nat}{w0:World}{L:List Bk}
theorem op_appendR (hF:Fr n K a) {t e m:Nat}(hE:Elt t e m) {R TB:List Bk}{v v2:Value}{j k:Nat}{xs news:List Value}(h0:Row e m R v j xs) (hM:Mem B w0 (R++L) w) (h2:SlOf TB e m v2 k news) (hTB:TB⊆L) (h1:∀ u∈news,u.oneCell'=true) (hs:j+k≤2^40)
    (hg:o.guard=none) {d:Nat}{x y:Operand}(hd:o.dst=some d) (hlt:Nat.blt d n=true) (hop:o.op= .call {callee:= .builtin .append,args:= #[x,y],argTypes:= #[t,t]}) (hx:ev K x=some v) (hy:ev K y=some v2)
    (h:∀ a' w' R' v',Fr n ((d,v')::K) a'→Row e m R' v' (j+k) (xs++news)→Mem B w0 (R'++L) w'→wpList Tryz.prog ops Q rest a' w'):wpList Tryz.prog ops Q (o::rest) a w:=by
  obtain ⟨R',v',w',hr,h3,h4⟩:=mem_appendR hE h0 hM o.type h2 hTB h1 hs
  refine op_run hF hg v' (w':=w') hd hlt ?_ (fun a' hF'=>h a' w' R' v' hF' h3 h4)
  simp only [execOp,hop,resolve,invoke,builtin,List.map_toArray,List.map_cons,List.map_nil,hF.ev hx,hF.ev hy]
  simp [hr]
theorem op_buildS (hF:Fr n K a) (hM:Mem B w0 L w) {t e m:Nat}(hE:Elt t e m) (hg:o.guard=none) {d:Nat}{x:Operand}{v:Value}{cs:List Value}(hd:o.dst=some d) (hlt:Nat.blt d n=true) (hop:o.op= .buildSlice t 1 #[(0,x)]) (hx:ev K x=some v)
    (hc:v.cells=cs.toArray) (hl:cs.length=m) (hm:m≤64)
    (h:∀ a' w' b,Fr n ((d,.slice (some ⟨b,0,none⟩) 1 1)::K) a'→Mem B w0 ((b,e,cs)::L) w'→wpList Tryz.prog ops Q rest a' w'):wpList Tryz.prog ops Q (o::rest) a w:=by
  obtain ⟨i,z,hi,hz,hz1,hz2,hz3⟩:=hE.info
  have hpos:=hE.pos
  have hf:Instr.fill (fun j=>some (j*i.size,i.size)) ((Array.range (1*i.size)).map (z.cells[· % z.cells.size]!)) (#[(0,v)]:Array (Nat×Value)).toList=some cs.toArray:=by
    have:=Great.fill_whole (s:=i.size) (by omega) [v] ((Array.range (1*i.size)).map (z.cells[· % z.cells.size]!)) (by intro u hu;rw [List.mem_singleton.1 hu,hc];simp [hl,hz1]) (by simp)
    simpa [hc] using this
  have hr:=run_buildSlice (P:=Tryz.prog) w t e 1 #[(0,v)] cs.toArray i z hE.und hi hz (by rw [hz1];omega) (by rw [hz1];omega) hf
  refine op_run hF hg (.slice (some ⟨w.heap.size,0,none⟩) 1 1) (w':=w.alloc (.cells cs.toArray e)) hd hlt ?_ (fun a' hF'=>h a' _ w.heap.size hF' (hM.alloc e cs))
  simp only [execOp,hop]
  have e2:(Array.map (fun x=>match x with | (i,x)=>(i,a.eval x)) #[(0,x)])= #[(0,v)]:=by simp [hF.ev hx]
  rw [e2]
  simp [hr]
theorem sl_one {b e m:Nat}{cs:List Value}(hl:cs.length=m):SlOf [(b,e,cs)] e m (.slice (some ⟨b,0,none⟩) 1 1) 1 cs:=
  ⟨by rw [hl,Nat.one_mul],.inr ⟨b,1,cs,by simp,rfl,Nat.le_refl _,by decide,by rw [hl,Nat.one_mul],by rw [Nat.one_mul];exact List.take_of_length_le (by omega)⟩⟩
end
def spans (ns:List (Nat×Nat)):List Value:=ns.flatMap fun x=> [.int .i64 (x.1:Int),.int .i64 (x.2:Int)]
mutual
def RepPl (TB:List Bk):Js.Place→List Value→Prop
  | .mk k b e ns kids,cs=>∃ sn sk xs,cs=[.int .i64 (k:Int),.int .i64 (b:Int),.int .i64 (e:Int),sn,sk]∧SlOf TB 80 2 sn ns.length (spans ns)∧SlOf TB 27 5 sk kids.length xs∧RepPls TB kids xs
def RepPls (TB:List Bk):List Js.Place→List Value→Prop
  | [],xs=>xs=[]
  | p::ps,xs=>∃ c cs,xs=c++cs∧RepPl TB p c∧RepPls TB ps cs
end
mutual
theorem RepPl.mono {TB TB':List Bk}(hs:TB⊆TB'):∀ (p:Js.Place) (cs:List Value),RepPl TB p cs→RepPl TB' p cs
  | .mk k b e ns kids, cs, h => by
    simp only [RepPl] at h ⊢
    obtain ⟨sn,sk,xs,h1,h2,h3,h4⟩:=h
    exact ⟨sn,sk,xs,h1,h2.mono hs,h3.mono hs,RepPls.mono hs kids xs h4⟩
theorem RepPls.mono {TB TB':List Bk}(hs:TB⊆TB'):∀ (ps:List Js.Place) (cs:List Value),RepPls TB ps cs→RepPls TB' ps cs
  | [],cs,h=>by simpa only [RepPls] using h
  | p :: ps, cs, h => by
    simp only [RepPls] at h ⊢
    obtain ⟨c,ds,h1,h2,h3⟩:=h
    exact ⟨c,ds,h1,RepPl.mono hs p c h2,RepPls.mono hs ps ds h3⟩
end
theorem RepPl.len {TB:List Bk}{p:Js.Place}{cs:List Value}(h:RepPl TB p cs):cs.length=5∧cs.all (·.oneCell')=true:=by
  obtain ⟨k,b,e,ns,kids⟩:=p
  simp only [RepPl] at h
  obtain ⟨sn,sk,xs,rfl,h2,h3,_⟩:=h
  exact ⟨rfl,by simp only [List.all_cons,List.all_nil,h2.one,h3.one];rfl⟩
theorem RepPls.append {TB:List Bk}:∀ {ps qs:List Js.Place}{xs ys:List Value},RepPls TB ps xs→RepPls TB qs ys→RepPls TB (ps++qs) (xs++ys)
  | [],qs,xs,ys,h1,h2=>by simp only [RepPls] at h1;subst h1;exact h2
  | p :: ps, qs, xs, ys, h1, h2 => by
    simp only [RepPls] at h1
    obtain ⟨c,cs,rfl,h3,h4⟩:=h1
    simp only [List.cons_append,RepPls]
    exact ⟨c,cs++ys,by simp,h3,RepPls.append h4 h2⟩
theorem RepPls.one {TB:List Bk}{p:Js.Place}{c:List Value}(h:RepPl TB p c):RepPls TB [p] c:=by simp only [RepPls];exact ⟨c,[],by simp,h,rfl⟩
theorem spans_append (l r:List (Nat×Nat)):spans (l++r)=spans l++spans r:=by simp [spans]
theorem RepPls.at_ {TB:List Bk}:∀ {ps:List Js.Place}{xs:List Value},RepPls TB ps xs→∀ {j:Nat}{p:Js.Place},ps[j]?=some p→∃ c,RepPl TB p c∧∀ i u,c[i]?=some u→xs[j*5+i]?=some u
  | [],xs,_,j,p,hj=>by simp at hj
  | q :: ps, xs, h, j, p, hj => by
    simp only [RepPls] at h
    obtain ⟨c,cs,rfl,h1,h2⟩:=h
    cases j with
    | zero =>
      simp only [List.getElem?_cons_zero,Option.some.injEq] at hj
      subst hj
      refine ⟨c,h1,fun i u hi=> ?_⟩
      have hlt:=(List.getElem?_eq_some_iff.1 hi).1
      rw [Nat.zero_mul,Nat.zero_add,List.getElem?_append_left hlt]
      exact hi
    | succ j =>
      obtain ⟨d,h3,h4⟩:=RepPls.at_ h2 (j:=j) (p:=p) (by simpa using hj)
      refine ⟨d,h3,fun i u hi=> ?_⟩
      have:=h1.len.1
      rw [List.getElem?_append_right (by omega),this,show (j+1)*5+i - 5=j*5+i by omega]
      exact h4 i u hi
def ValOut (T:Str) (B b:Nat) (wc:World) (L:List Bk):Option (Js.Place×Str)→Value→World→Prop
  | some (p,q),v,w'=>∃ cs TB,v= .tuple #[.agg cs.toArray,.bool true]∧RepPl TB p cs∧Sfx T q∧Mem B wc ((b,108,RD T q)::(TB++L)) w'
  | none,v,w'=>∃ x y z q,v= .tuple #[.agg [.int .i64 x,.int .i64 y,.int .i64 z,.slice none 0 0,.slice none 0 0].toArray,.bool false]∧Sfx T q∧Mem B wc ((b,108,RD T q)::L) w'
def VAL (T:Str) (B b:Nat) (wc:World) (n:Nat):Prop:=∀ (r:Str) (L:List Bk) (w0:World),Sfx T r→2*r.length+1≤n→Mem B wc ((b,108,RD T r)::L) w0→
  Calls Tryz.prog 74 #[.pointer (some ⟨b,0,none⟩)] w0 (Ret fun v w'=>ValOut T B b wc L (pVal T.length n r) v w')
def arrOf (N n:Nat) (s:Str):Option (List Js.Place×Str):=
  match pTake 93 (Js.skip s) with
  | some r2=>some ([],r2)
  | none=>pElems N n (Js.skip s)
def objOf (N n:Nat) (s:Str):Option (List (Nat×Nat)×List Js.Place×Str):=
  match pTake 125 (Js.skip s) with
  | some r2=>some ([],[],r2)
  | none=>pMems N n (Js.skip s)
def EleOut (T:Str) (B b:Nat) (wc:World) (L:List Bk):Option (List Js.Place×Str)→Value→World→Prop
  | some (ps,q),v,w'=>∃ sl xs TB,v= .tuple #[sl,.bool true]∧SlOf TB 27 5 sl ps.length xs∧RepPls TB ps xs∧Sfx T q∧Mem B wc ((b,108,RD T q)::(TB++L)) w'
  | none,v,w'=>∃ q,v= .tuple #[.slice none 0 0,.bool false]∧Sfx T q∧Mem B wc ((b,108,RD T q)::L) w'
def ELE (T:Str) (B b:Nat) (wc:World) (n:Nat):Prop:=∀ (s:Str) (L:List Bk) (w0:World),Sfx T (91::s)→2*s.length+2≤n→Mem B wc ((b,108,RD T (91::s))::L) w0→
  Calls Tryz.prog 113 #[.pointer (some ⟨b,0,none⟩)] w0 (Ret fun v w'=>EleOut T B b wc L (arrOf T.length n s) v w')
def MemOut (T:Str) (B b:Nat) (wc:World) (L:List Bk):Option (List (Nat×Nat)×List Js.Place×Str)→Value→World→Prop
  | some (ns,ps,q),v,w'=>∃ sn sl xs TB,v= .tuple #[sn,sl,.bool true]∧SlOf TB 80 2 sn ns.length (spans ns)∧SlOf TB 27 5 sl ps.length xs∧RepPls TB ps xs∧Sfx T q∧Mem B wc ((b,108,RD T q)::(TB++L)) w'
  | none,v,w'=>∃ q,v= .tuple #[.slice none 0 0,.slice none 0 0,.bool false]∧Sfx T q∧Mem B wc ((b,108,RD T q)::L) w'
def MEMS (T:Str) (B b:Nat) (wc:World) (n:Nat):Prop:=∀ (s:Str) (L:List Bk) (w0:World),Sfx T (123::s)→2*s.length+2≤n→Mem B wc ((b,108,RD T (123::s))::L) w0→
  Calls Tryz.prog 112 #[.pointer (some ⟨b,0,none⟩)] w0 (Ret fun v w'=>MemOut T B b wc L (objOf T.length n s) v w')
theorem SlOf.shape {TB:List Bk}{e m:Nat}{v:Value}{n:Nat}{xs:List Value}(h:SlOf TB e m v n xs):∃ ad c,v= .slice ad n c:=by
  rcases h.2 with ⟨rfl,rfl⟩ | ⟨g,cap,vs,_,rfl,_⟩ <;> exact ⟨_,_,rfl⟩
theorem RepPl.shape {TB:List Bk}{p:Js.Place}{cs:List Value}(h:RepPl TB p cs):∃ (k b e:Int) (o1:Option Addr) (l1 c1:Nat) (o2:Option Addr) (l2 c2:Nat),cs=[.int .i64 k,.int .i64 b,.int .i64 e,.slice o1 l1 c1,.slice o2 l2 c2]:=by
  obtain ⟨k,b,e,ns,kids⟩:=p
  simp only [RepPl] at h
  obtain ⟨sn,sk,xs,rfl,h2,h3,_⟩:=h
  obtain ⟨_,_,rfl⟩:=h2.shape
  obtain ⟨_,_,rfl⟩:=h3.shape
  exact ⟨_,_,_,_,_,_,_,_,_,rfl⟩
theorem _root_.Js.Sfx.take {T r q:Str}{d:UInt8}(h:Sfx T r) (e:pTake d r=some q):Sfx T q∧r=d::q:=by
  have:=pTake_some.1 e
  subst this
  exact ⟨h.next.1,rfl⟩
theorem pVal_lt {T:Str}{n:Nat}{s q:Str}{p:Js.Place}(hs:Sfx T s) (h:pVal T.length n s=some (p,q)):q.length<s.length:=by
  obtain ⟨pre,e⟩:=hs
  obtain ⟨t,rfl,ht⟩:=(sound T n).1 pre s p q e h
  obtain ⟨c,r,rfl,_⟩:=ht.head _ rfl
  simp;omega
theorem pStr_lt:∀ {r q:Str},pStr r=some q→q.length<r.length
  | [],q,h=>by rw [pStr_nil] at h;cases h
  | c :: r, q, h => by
    rw [pStr_cons] at h
    split at h
    · cases h;simp
    · split at h
      · cases h
      · split at h
        · cases he:pEsc r with
          | none=>rw [he] at h;cases h
          | some r' =>
            rw [he] at h
            have h1:=pEsc_lt r r' he
            have h2:=pStr_lt (r:=r') h
            simp only [List.length_cons];omega
        · have h2:=pStr_lt h
          simp only [List.length_cons];omega
  termination_by r=>r.length
  decreasing_by all_goals first | (simp_wf;done) | (simp_wf;omega)
theorem pElems_succ (N n:Nat) (s:Str):pElems N (n+1) s=match pVal N n s with
    | none=>none
    | some (p, r) =>
      match pTake 93 (Js.skip r) with
      | some r2=>some ([p],r2)
      | none => match pTake 44 (Js.skip r) with
        | none=>none
        | some r2=>(pElems N n (Js.skip r2)).map fun x=>(p::x.1,x.2):=rfl
theorem pMems_succ (N n:Nat) (s:Str):pMems N (n+1) s=match (pTake 34 s).bind pStr with
    | none=>none
    | some r =>
      match pTake 58 (Js.skip r) with
      | none=>none
      | some r1 =>
        match pVal N n (Js.skip r1) with
        | none=>none
        | some (p, r2) =>
          match pTake 125 (Js.skip r2) with
          | some r3=>some ([(N - s.length,N - r.length)],[p],r3)
          | none => match pTake 44 (Js.skip r2) with
            | none=>none
            | some r3=>(pMems N n (Js.skip r3)).map fun x=>((N - s.length,N - r.length)::x.1,p::x.2.1,x.2.2):=rfl
theorem pVal_123 (N n:Nat) (s:Str):pVal N (n+1) (123::s)=(objOf N n s).map fun x=>(.mk 6 (N - (123::s).length) (N - x.2.2.length) x.1 x.2.1,x.2.2):=by
  simp only [pVal,objOf]
  rw [if_pos trivial]
  cases pTake 125 (Js.skip s) <;> rfl
theorem pVal_91 (N n:Nat) (s:Str):pVal N (n+1) (91::s)=(arrOf N n s).map fun x=>(.mk 5 (N - (91::s).length) (N - x.2.length) [] x.1,x.2):=by
  simp only [pVal,arrOf]
  rw [if_neg (by decide),if_pos trivial]
  cases pTake 93 (Js.skip s) <;> rfl
theorem pVal_34 (N n:Nat) (s:Str):pVal N (n+1) (34::s)=(pStr s).map fun x=>(.mk 4 (N - (34::s).length) (N - x.length) [] [],x):=by
  simp only [pVal]
  rw [if_neg (by decide),if_neg (by decide),if_pos trivial]
theorem pVal_45 (N n:Nat) {c:UInt8}(s:Str) (h:c=45∨(48≤c.toNat∧c.toNat≤57)):pVal N (n+1) (c::s)=(pNum (c::s)).map fun x=>(.mk 3 (N - (c::s).length) (N - x.length) [] [],x):=by
  have hn:∀ d:UInt8,(d.toNat≠45∧(d.toNat<48∨57<d.toNat))→c≠d:=by
    rintro d hd rfl
    rcases h with rfl | h
    · exact hd.1 rfl
    · omega
  simp only [pVal]
  rw [if_neg (hn 123 (by decide)),if_neg (hn 91 (by decide)),if_neg (hn 34 (by decide)),if_pos (by
    rcases h with h | h
    · exact .inl h
    · exact .inr (by simp [isDig,h.1,h.2]))]
def wordOf (N:Nat) (r:Str):Option (Js.Place×Str):=
  match pWord [110,117,108,108] r with
  | some r2=>some (.mk 0 (N - r.length) (N - r2.length) [] [],r2)
  | none => match pWord [102, 97, 108, 115, 101] r with
    | some r2=>some (.mk 1 (N - r.length) (N - r2.length) [] [],r2)
    | none=>(pWord [116,114,117,101] r).map fun r2=>(.mk 2 (N - r.length) (N - r2.length) [] [],r2)
theorem pVal_word (N n:Nat) {r:Str}(h1:r.headD 0≠123) (h2:r.headD 0≠91) (h3:r.headD 0≠34) (h4:r.headD 0≠45) (h5:(r.headD 0).toNat<48∨57<(r.headD 0).toNat):pVal N (n+1) r=wordOf N r:=by
  cases r with
  | nil=>rfl
  | cons c s =>
    simp only [List.headD_cons] at h1 h2 h3 h4 h5
    simp only [pVal]
    rw [if_neg h1,if_neg h2,if_neg h3,if_neg (by rintro (h | h);exact h4 h;simp [isDig] at h;omega)]
    rfl
def VMid (T r q:Str) (TB:List Bk) (k:Int) (sn sk:Value) (ok:Bool):Option (Js.Place×Str)→Prop
  | some (p,q')=>q'=q∧ok=true∧∃ (k':Nat) (ns:List (Nat×Nat)) (kids:List Js.Place) (xs:List Value),k=(k':Int)∧p= .mk k' (ps T r) (ps T q) ns kids∧SlOf TB 80 2 sn ns.length (spans ns)∧SlOf TB 27 5 sk kids.length xs∧RepPls TB kids xs
  | none=>ok=false∧sn= .slice none 0 0∧sk= .slice none 0 0
theorem VMid.leaf {T r q:Str}{x:Option Str}{k:Nat}{e:Option (Js.Place×Str)}(he:e=x.map fun y=>(.mk k (T.length - r.length) (T.length - y.length) [] [],y)) (hq:∀ q',x=some q'→q=q'):VMid T r q [] (k:Int) (.slice none 0 0) (.slice none 0 0) x.isSome e:=by
  subst he
  cases x with
  | none=>exact ⟨rfl,rfl,rfl⟩
  | some y =>
    obtain rfl:=hq y rfl
    exact ⟨rfl,rfl,k,[],[],[],rfl,rfl,.nil _ _ _,.nil _ _ _,rfl⟩
theorem first_of (r:Str):(∃ s,r=123::s)∨(∃ s,r=91::s)∨(∃ s,r=34::s)∨(∃ s,r=45::s)∨(48≤(r.headD 0).toNat∧(r.headD 0).toNat≤57)∨((r.headD 0).toNat<48∧r.headD 0≠34∧r.headD 0≠45)∨(57<(r.headD 0).toNat∧r.headD 0≠123∧r.headD 0≠91):=by
  cases r with
  | nil=>exact .inr (.inr (.inr (.inr (.inr (.inl (by decide))))))
  | cons c s =>
    by_cases h1:c=123
    · subst h1;exact .inl ⟨s,rfl⟩
    by_cases h2:c=91
    · subst h2;exact .inr (.inl ⟨s,rfl⟩)
    by_cases h3:c=34
    · subst h3;exact .inr (.inr (.inl ⟨s,rfl⟩))
    by_cases h4:c=45
    · subst h4;exact .inr (.inr (.inr (.inl ⟨s,rfl⟩)))
    simp only [List.headD_cons]
    rcases (show (48≤c.toNat∧c.toNat≤57)∨c.toNat<48∨57<c.toNat by omega) with h | h | h
    · exact .inr (.inr (.inr (.inr (.inl h))))
    · exact .inr (.inr (.inr (.inr (.inr (.inl ⟨h,h3,h4⟩)))))
    · exact .inr (.inr (.inr (.inr (.inr (.inr ⟨h,h1,h2⟩)))))
theorem _root_.Js.Sfx.word {T r q u:Str}(h:Sfx T r) (e:pWord u r=some q):Sfx T q:=by
  unfold pWord at e
  split at e
  · cases e
    exact Sfx.tail (t:=r.take u.length) (by rw [List.take_append_drop];exact h)
  · cases e
theorem Mem.join {B:Nat}{wc w w':World}{L TB:List Bk}(hM:Mem B wc L w) (h:Mem w.heap.size w TB w'):Mem B wc (TB++L) w':=by
  have h2:=hM.step h.below
  refine ⟨h2.below,h2.base,fun x hx=> ?_,List.pairwise_append.2 ⟨h.apart,h2.apart,fun x hx y hy=> ?_⟩⟩
  · rcases List.mem_append.1 hx with hx | hx
    · exact ⟨Nat.le_trans hM.base (h.held x hx).1,(h.held x hx).2⟩
    · exact h2.held x hx
  · have h3:=(h.held x hx).1
    have h4:=blk_lt (hM.held y hy).2
    omega
def PlOut (T:Str) (w0:World):Option Js.Place→Value→World→Prop
  | some p,v,w'=>∃ cs TB,v= .tuple #[.agg cs.toArray,.bool true]∧RepPl TB p cs∧Mem w0.heap.size w0 TB w'
  | none,v,w'=>∃ x y z,v= .tuple #[.agg [.int .i64 x,.int .i64 y,.int .i64 z,.slice none 0 0,.slice none 0 0].toArray,.bool false]∧Below w0.heap.size w0 w'

end Go.Sx