/- Part 3 of the proof of FnJrTyped: the statement Rows.FnJrTypedCardSaid; no further condition. -/
import Derived.Test.YtelonenjneonlaaGreatDoorR02
import Derived.Deep.MidRow
import Derived.LaidLaws
import Derived.Lib.LaidTab
import Derived.Lib.LaidU8
import Derived.MakeChecks
import Derived.OpenShut
import Derived.Test.YtelonenjneonlaaGreatDoorProg
import Derived.Test.YtelonenjneonlaaGreatDoorRows
set_option linter.all false
set_option maxRecDepth 100000
namespace Go.Sx
open Go.RowKit Go.Proofs
def foTab:List (Nat×Nat×Nat):=[(125,0,0),(125,1,1),(125,2,2),(135,0,0),(135,1,1),(135,2,2),(135,3,3),(135,4,4),(135,5,5),(27,0,0),(27,1,1),(27,2,2),(27,3,3),(27,4,4),(40,0,0),(40,1,1),(40,2,2),(40,3,3),(80,0,0),(80,1,1),(108,0,0),(108,1,1),(240,0,0),(240,1,800),(240,2,801),(240,3,802),(240,4,803),(250,0,0),(250,1,1),(250,2,2),(268,0,0),(268,1,1),(268,2,2),(291,0,0),(291,1,1),(297,0,0),(297,1,1),(139,0,0),(139,1,1),(58,0,0),(58,1,1),(58,2,2),(102,0,0),(102,1,1),(102,2,2)]
def foff (t f:Nat):List (Nat×Nat×Nat)→Option Nat
  | []=>none
  | e::r=>bif Nat.beq t e.1&&Nat.beq f e.2.1 then some e.2.2 else foff t f r
def hasN (t:Nat):List Nat→Bool
  | []=>false
  | e::r=>bif Nat.beq t e then true else hasN t r
def kindN (t:Nat):List (Nat×IntKind)→Option IntKind
  | []=>none
  | e::r=>bif Nat.beq t e.1 then some e.2 else kindN t r
def strL:List Nat:=[9,10,11]
def slL:List Nat:=[66,24,25,38,22,133,146,158,159,286,298]
def plL:List Nat:=[186,9,137,146,147,3,4,5,66,24,25,22,32,38,54,63,132,133,157,286,298]
def inL:List (Nat×IntKind):=[(2,.i64),(3,.i64),(5,.u8),(54,.u64),(157,.u64),(21,.i32),(186,.u32),(12,.u64),(132,.i64)]
def fieldOk (P:Program) (e:Nat×Nat×Nat):Bool:=match P.underlying e.1 with
  | some (.struct fs) => match fs[e.2.1]? with
    | some fld=>Nat.beq fld.offset e.2.2&&(match P.info? fld.type with | some i=>Nat.blt 0 i.size | none=>false)
    | none=>false
  | _=>false
def strOk (P:Program) (t:Nat):Bool:=match P.underlying t with | some .string=>true | _=>false
def slOk (P:Program) (t:Nat):Bool:=match P.underlying t with | some (.slice _)=>true | _=>false
def plOk (P:Program) (t:Nat):Bool:=match P.underlying t,P.info? t with | some u,some i=>plainB u&&Nat.beq i.size 1 | _,_=>false
def inOk (P:Program) (e:Nat×IntKind):Bool:=match P.underlying e.1 with | some (.int k)=>decide (k=e.2) | _=>false
theorem foTab_ok:foTab.all (fieldOk Tryz.prog)=true:=by kernel_rfl
theorem strL_ok:strL.all (strOk Tryz.prog)=true:=by kernel_rfl
theorem slL_ok:slL.all (slOk Tryz.prog)=true:=by kernel_rfl
theorem plL_ok:plL.all (plOk Tryz.prog)=true:=by kernel_rfl
theorem inL_ok:inL.all (inOk Tryz.prog)=true:=by kernel_rfl
theorem hasN_mem {t:Nat}:∀ {l:List Nat},hasN t l=true→t∈l
  | [],h=>by cases h
  | e :: r, h => by
    unfold hasN at h
    cases hb:Nat.beq t e with
    | true=>rw [Nat.eq_of_beq_eq_true hb];simp
    | false=>rw [hb] at h;exact List.mem_cons_of_mem _ (hasN_mem h)
theorem kindN_mem {t:Nat}{k:IntKind}:∀ {l:List (Nat×IntKind)},kindN t l=some k→(t,k)∈l
  | [],h=>by cases h
  | e :: r, h => by
    unfold kindN at h
    cases hb:Nat.beq t e.1 with
    | true=>rw [hb] at h;rw [Nat.eq_of_beq_eq_true hb];obtain rfl:=Option.some.inj h;simp
    | false=>rw [hb] at h;exact List.mem_cons_of_mem _ (kindN_mem h)
theorem foff_mem {t f o:Nat}:∀ {l:List (Nat×Nat×Nat)},foff t f l=some o→(t,f,o)∈l
  | [],h=>by cases h
  | e :: r, h => by
    unfold foff at h
    cases hb:Nat.beq t e.1&&Nat.beq f e.2.1 with
    | true =>
      rw [hb] at h;obtain rfl:=Option.some.inj h
      obtain ⟨h1,h2⟩:=Bool.and_eq_true_iff.1 hb
      rw [Nat.eq_of_beq_eq_true h1,Nat.eq_of_beq_eq_true h2];simp
    | false=>rw [hb] at h;exact List.mem_cons_of_mem _ (foff_mem h)
theorem strOk_of {P:Program}{t:Nat}(h:strOk P t=true):P.underlying t=some .string:=by
  unfold strOk at h
  split at h
  · assumption
  · cases h
theorem slOk_of {P:Program}{t:Nat}(h:slOk P t=true):∃ e,P.underlying t=some (.slice e):=by
  unfold slOk at h
  split at h
  · exact ⟨_,by assumption⟩
  · cases h
theorem plOk_of {P:Program}{t:Nat}(h:plOk P t=true):(∃ u,P.underlying t=some u∧plainB u=true)∧(P.info? t).map (·.size)=some 1:=by
  unfold plOk at h
  split at h
  · rename_i u i hu hi
    obtain ⟨h1,h2⟩:=Bool.and_eq_true_iff.1 h
    exact ⟨⟨u,hu,h1⟩,by rw [hi];simp [Nat.eq_of_beq_eq_true h2]⟩
  · cases h
theorem inOk_of {P:Program}{e:Nat×IntKind}(h:inOk P e=true):P.underlying e.1=some (.int e.2):=by
  unfold inOk at h
  split at h
  · rename_i k' e';rw [e',of_decide_eq_true h]
  · cases h
theorem foOk_of {P:Program}{e:Nat×Nat×Nat}(h:fieldOk P e=true) (ad:Addr) (w:World):(Instr.fieldAt e.1 (.pointer (some ad)) e.2.1).run P w= .ok (.pointer (some (ad.add e.2.2))) w:=by
  unfold fieldOk at h
  split at h
  · rename_i fs hT
    split at h
    · rename_i fld hf
      obtain ⟨h1,h2⟩:=Bool.and_eq_true_iff.1 h
      refine field_at hT hf (Nat.eq_of_beq_eq_true h1) ?_ ad w
      split at h2
      · rename_i i hi;rw [hi];simp [h2]
      · cases h2
    · cases h
  · cases h
theorem str_of {t:Nat}(h:hasN t strL=true):Tryz.prog.underlying t=some .string:=strOk_of (List.all_eq_true.1 strL_ok _ (hasN_mem h))
theorem sl_of {t:Nat}(h:hasN t slL=true):∃ e,Tryz.prog.underlying t=some (.slice e):=slOk_of (List.all_eq_true.1 slL_ok _ (hasN_mem h))
theorem pl_of {t:Nat}(h:hasN t plL=true):(∃ u,Tryz.prog.underlying t=some u∧plainB u=true)∧(Tryz.prog.info? t).map (·.size)=some 1:=plOk_of (List.all_eq_true.1 plL_ok _ (hasN_mem h))
theorem in_of {t:Nat}{k:IntKind}(h:kindN t inL=some k):Tryz.prog.underlying t=some (.int k):=inOk_of (P:=Tryz.prog) (e:=(t,k)) (List.all_eq_true.1 inL_ok _ (kindN_mem h))
theorem fo_of {t f off:Nat}(h:foff t f foTab=some off) (ad:Addr) (w:World):(Instr.fieldAt t (.pointer (some ad)) f).run Tryz.prog w= .ok (.pointer (some (ad.add off))) w:=foOk_of (P:=Tryz.prog) (e:=(t,f,off)) (List.all_eq_true.1 foTab_ok _ (foff_mem h)) ad w
def valU (K:List (Nat×Value)):Op→Option Value
  | .nilCheck x => match ev K x with
    | some (.pointer (some ad))=>some (.pointer (some ad))
    | _=>none
  | .fieldAddr t x f => match ev K x with
    | some (.pointer (some ⟨b, j, none⟩)) => match foff t f foTab with
      | some off=>some (.pointer (some ⟨b,j+off,none⟩))
      | none=>none
    | _=>none
  | .call ⟨.builtin .len, ⟨[x]⟩, ⟨[t]⟩⟩ => match ev K x with
    | some (.string ⟨⟨l⟩⟩)=>bif hasN t strL then some (.int .i64 (l.length:Int)) else none
    | some (.slice _ l _)=>bif hasN t slL then some (.int .i64 (l:Int)) else none
    | _=>none
  | .convert s t x => match kindN s inL, kindN t inL, ev K x with
    | some _,some k',some (.int _ z)=>some (.int k' (k'.wrap z))
    | _,_,_=>none
  | _=>none
def valT (K:List (Nat×Value)) (op:Op):Option Value:=match valB K op with
  | some v=>some v
  | none=>valU K op
def wantT (n:Nat) (ops:Array Oper) (K:List (Nat×Value)):Option (Nat×Bool)→Option Bool
  | none=>some true
  | some (j, want) => match ops[j]? with
    | none=>none
    | some oj => match oj.dst with
      | none=>none
      | some d0 => match Nat.blt d0 n with
        | false=>none
        | true => match look K d0 with
          | some (.bool b)=>some (b==want)
          | some (.tuple ⟨[]⟩)=>some false
          | _=>none
def dstT (n:Nat) (ops:Array Oper) (K:List (Nat×Value)) (o:Oper):Option Nat:=match o.dst with
  | none=>none
  | some d => match Nat.blt d n with
    | false=>none
    | true => match wantT n ops K o.guard with
      | some true=>some d
      | _=>none
def sT1 (n:Nat) (ops:Array Oper) (K:List (Nat×Value)) (o:Oper):Option (Nat×Value):=
  match o.dst with
  | none=>none
  | some d => match Nat.blt d n with
    | false=>none
    | true => match wantT n ops K o.guard with
      | none=>none
      | some false=>some (d,undef)
      | some true => match valT K o.op with
        | none=>none
        | some v=>some (d,v)
def sTN (n:Nat) (ops:Array Oper):Nat→List (Nat×Value)→List Oper→Option (List (Nat×Value)×List Oper)
  | 0,K,l=>some (K,l)
  | _+1,_,[]=>none
  | j + 1, K, o :: l => match sT1 n ops K o with
    | none=>none
    | some p=>sTN n ops j (p::K) l
def sTD (n:Nat) (ops:Array Oper) (j:Nat) (ks:List Nat) (K:List (Nat×Value)) (l:List Oper):Option (List (Nat×Value)):=match sTN n ops j K l with
  | some (K1,[])=>pickK ks K1
  | _=>none
section
variable {P:Program}{n:Nat}{K:List (Nat×Value)}{a:Act}{w:World}{Q:Exit→Act→World→Prop}{q:Act→Prop}{ops:Array Oper}{rest:List Oper}{o:Oper}{B:Nat}{w0:World}{L:List Bk}
theorem valU_run (hF:Fr n K a) {v:Value}(h:valU K o.op=some v):(execOp a.eval o).run Tryz.prog w= .ok (.value v) w:=by
  unfold valU at h
  split at h
  · rename_i x e
    split at h
    · rename_i ad hx;obtain rfl:=Option.some.inj h;exact gives_nilCheck hF e hx w
    · cases h
  · rename_i t x f e
    split at h
    · rename_i b j hx
      split at h
      · rename_i off ho;obtain rfl:=Option.some.inj h;exact gives_fieldAddr hF off e hx (fo_of ho) w
      · cases h
    · cases h
  · rename_i x t e
    split at h
    · rename_i l hx
      cases hs:hasN t strL with
      | false=>rw [hs] at h;cases h
      | true=>rw [hs] at h;obtain rfl:=Option.some.inj h;exact gives_len_str (l:=l) hF e (str_of hs) hx w
    · rename_i ad l c hx
      cases hs:hasN t slL with
      | false=>rw [hs] at h;cases h
      | true=>rw [hs] at h;obtain rfl:=Option.some.inj h;obtain ⟨e',he⟩:=sl_of hs;exact gives_len_sl hF e he hx w
    · cases h
  · rename_i s t x e
    split at h
    · rename_i k k' z1 z2 h1 h2 h3;obtain rfl:=Option.some.inj h;exact gives_conv hF e (in_of h1) (in_of h2) h3 _ rfl w
    · cases h
  · cases h
theorem valT_run (hF:Fr n K a) {v:Value}(h:valT K o.op=some v):(execOp a.eval o).run Tryz.prog w= .ok (.value v) w:=by
  unfold valT at h
  split at h
  · rename_i u e;obtain rfl:=Option.some.inj h;exact valB_run hF e
  · exact valU_run hF h
theorem want_ok (hF:Fr n K a) {b:Bool}(h:wantT n ops K o.guard=some b):Region.wanted o (yielded ops a.tmps)=b:=by
  cases hg:o.guard with
  | none=>rw [hg] at h;simp only [wantT,Option.some.injEq] at h;rw [←h];simp [Region.wanted,hg]
  | some g =>
    obtain ⟨j,want⟩:=g
    rw [hg] at h
    simp only [wantT] at h
    split at h
    · cases h
    · rename_i oj hj
      split at h
      · cases h
      · rename_i d0 hd0
        split at h
        · cases h
        · rename_i hlt0
          split at h
          · rename_i c hc;obtain rfl:=Option.some.inj h;exact wanted_of hF hg hj hd0 hlt0 hc
          · rename_i hc;obtain rfl:=Option.some.inj h;exact unwanted_undef hF hg hj hd0 hlt0 hc
          · cases h
theorem dst_ok {d:Nat}(h:dstT n ops K o=some d):o.dst=some d∧d<n∧wantT n ops K o.guard=some true:=by
  unfold dstT at h
  split at h
  · cases h
  · rename_i d' hd
    split at h
    · cases h
    · rename_i hlt
      split at h
      · rename_i hw;obtain rfl:=Option.some.inj h;exact ⟨hd,Nat.le_of_ble_eq_true hlt,hw⟩
      · cases h
theorem unguard (hF:Fr n K a) (hw:wantT n ops K o.guard=some true) (h:wpList P ops Q ({o with guard:=none}::rest) a w):wpList P ops Q (o::rest) a w:=by
  unfold wpList at h ⊢
  rw [want_ok hF hw]
  simp only [Region.wanted,if_true] at h ⊢
  rcases h with h | h
  · left
    obtain ⟨d,op,ty,pos,af,g⟩:=o
    exact h
  · right
    obtain ⟨d,op,ty,pos,af,g⟩:=o
    exact h
theorem Gv {v:Value}{d:Nat}(hd:dstT n ops K o=some d) (hy:∀ a,Fr n K a→(execOp a.eval o).run P w= .ok (.value v) w) (h:∀ a,Fr n ((d,v)::K) a→wpList P ops Q rest a w):∀ a,Fr n K a→wpList P ops Q (o::rest) a w:=by
  intro a hF
  obtain ⟨h1,h2,h3⟩:=dst_ok hd
  unfold wpList
  rw [want_ok hF h3]
  simp only [if_true]
  left
  unfold Oper.wp
  rw [hy a hF,Oper.upon_value,h1]
  exact h _ (hF.put d v h2)
theorem Gs {v:Value}{d:Nat}(hd:dstT n ops K o=some d) (hy:∀ a,Fr n K a→(execOp a.eval o).run P w= .ok (.value v) w) (h:∀ a,Fr n ((d,v)::K) a→wpStill P ops w q rest a):∀ a,Fr n K a→wpStill P ops w q (o::rest) a:=by
  intro a hF
  obtain ⟨h1,h2,h3⟩:=dst_ok hd
  unfold wpStill
  rw [want_ok hF h3]
  simp only [if_true]
  unfold Oper.still
  rw [hy a hF,Oper.stillUpon_value,h1]
  exact h _ (hF.put d v h2)
theorem sT1_run {p:Nat×Value}(h:sT1 n ops K o=some p) (k:∀ a,Fr n (p::K) a→wpList Tryz.prog ops Q rest a w):∀ a,Fr n K a→wpList Tryz.prog ops Q (o::rest) a w:=by
  intro a hF
  unfold sT1 at h
  split at h
  · cases h
  · rename_i d hd
    split at h
    · cases h
    · rename_i hlt
      split at h
      · cases h
      · rename_i hb
        obtain rfl:=Option.some.inj h
        unfold wpList
        rw [want_ok hF hb]
        simp only [Bool.false_eq_true,if_false,hd]
        exact k _ (hF.put d _ (Nat.le_of_ble_eq_true hlt))
      · rename_i hb
        split at h
        · cases h
        · rename_i v hv
          obtain rfl:=Option.some.inj h
          exact Gv (d:=d) (by unfold dstT;simp only [hd,hlt,hb]) (fun a hF=>valT_run hF hv) k a hF
theorem sT1_still {p:Nat×Value}(h:sT1 n ops K o=some p) (k:∀ a,Fr n (p::K) a→wpStill Tryz.prog ops w q rest a):∀ a,Fr n K a→wpStill Tryz.prog ops w q (o::rest) a:=by
  intro a hF
  unfold sT1 at h
  split at h
  · cases h
  · rename_i d hd
    split at h
    · cases h
    · rename_i hlt
      split at h
      · cases h
      · rename_i hb
        obtain rfl:=Option.some.inj h
        unfold wpStill
        rw [want_ok hF hb]
        simp only [Bool.false_eq_true,if_false,hd]
        exact k _ (hF.put d _ (Nat.le_of_ble_eq_true hlt))
      · rename_i hb
        split at h
        · cases h
        · rename_i v hv
          obtain rfl:=Option.some.inj h
          exact Gs (d:=d) (by unfold dstT;simp only [hd,hlt,hb]) (fun a hF=>valT_run hF hv) k a hF
theorem Mv (j:Nat) {l l':List Oper}{K':List (Nat×Value)}(h:sTN n ops j K l=some (K',l')) (k:∀ a,Fr n K' a→wpList Tryz.prog ops Q l' a w):∀ a,Fr n K a→wpList Tryz.prog ops Q l a w:=by
  induction j generalizing K l with
  | zero=>simp only [sTN,Option.some.injEq,Prod.mk.injEq] at h;obtain ⟨rfl,rfl⟩:=h;exact k
  | succ j ih =>
    cases l with
    | nil=>simp [sTN] at h
    | cons o l =>
      simp only [sTN] at h
      split at h
      · cases h
      · rename_i p hp
        exact sT1_run hp (ih h)
theorem Ms (j:Nat) {l l':List Oper}{K':List (Nat×Value)}(h:sTN n ops j K l=some (K',l')) (k:∀ a,Fr n K' a→wpStill Tryz.prog ops w q l' a):∀ a,Fr n K a→wpStill Tryz.prog ops w q l a:=by
  induction j generalizing K l with
  | zero=>simp only [sTN,Option.some.injEq,Prod.mk.injEq] at h;obtain ⟨rfl,rfl⟩:=h;exact k
  | succ j ih =>
    cases l with
    | nil=>simp [sTN] at h
    | cons o l =>
      simp only [sTN] at h
      split at h
      · cases h
      · rename_i p hp
        exact sT1_still hp (ih h)
theorem Md (j:Nat) (ks:List Nat) {l:List Oper}{K':List (Nat×Value)}(h:sTD n ops j ks K l=some K') (k:∀ a,Fr n K' a→Q .normal a w):∀ a,Fr n K a→wpList Tryz.prog ops Q l a w:=by
  unfold sTD at h
  split at h
  · rename_i K1 h1;exact Mv j h1 (fun a hF=>k a (hF.kp ks h))
  · cases h
theorem Kp {X:Act→Prop}(ks:List Nat) {K':List (Nat×Value)}(h:pickK ks K=some K') (k:∀ a,Fr n K' a→X a):∀ a,Fr n K a→X a:=fun a hF=>k a (hF.kp ks h)
theorem Bv {e b:Bool}{d:Nat}(hd:dstT n ops K o=some d) (hv:valT K o.op=some (.bool e)) (he:e=b) (h:∀ a,Fr n ((d,.bool b)::K) a→wpList Tryz.prog ops Q rest a w):∀ a,Fr n K a→wpList Tryz.prog ops Q (o::rest) a w:=
  Gv hd (fun a hF=>by rw [←he];exact valT_run hF hv) h
theorem Bs {e b:Bool}{d:Nat}(hd:dstT n ops K o=some d) (hv:valT K o.op=some (.bool e)) (he:e=b) (h:∀ a,Fr n ((d,.bool b)::K) a→wpStill Tryz.prog ops w q rest a):∀ a,Fr n K a→wpStill Tryz.prog ops w q (o::rest) a:=
  Gs hd (fun a hF=>by rw [←he];exact valT_run hF hv) h
theorem Bt {p:Prop}{i:Decidable p}{d:Nat}(hd:(dstT n ops K o,valT K o.op)=(some d,some (.bool (@decide p i)))) (hp:p) (h:∀ a,Fr n ((d,.bool true)::K) a→wpList Tryz.prog ops Q rest a w):∀ a,Fr n K a→wpList Tryz.prog ops Q (o::rest) a w:=Bv (Prod.mk.inj hd).1 (Prod.mk.inj hd).2 (decide_eq_true hp) h
theorem Bf {p:Prop}{i:Decidable p}{d:Nat}(hd:(dstT n ops K o,valT K o.op)=(some d,some (.bool (@decide p i)))) (hp: ¬ p) (h:∀ a,Fr n ((d,.bool false)::K) a→wpList Tryz.prog ops Q rest a w):∀ a,Fr n K a→wpList Tryz.prog ops Q (o::rest) a w:=Bv (Prod.mk.inj hd).1 (Prod.mk.inj hd).2 (decide_eq_false hp) h
theorem Ut {p:Prop}{i:Decidable p}{d:Nat}(hd:(dstT n ops K o,valT K o.op)=(some d,some (.bool (@decide p i)))) (hp:p) (h:∀ a,Fr n ((d,.bool true)::K) a→wpStill Tryz.prog ops w q rest a):∀ a,Fr n K a→wpStill Tryz.prog ops w q (o::rest) a:=Bs (Prod.mk.inj hd).1 (Prod.mk.inj hd).2 (decide_eq_true hp) h
theorem Uf {p:Prop}{i:Decidable p}{d:Nat}(hd:(dstT n ops K o,valT K o.op)=(some d,some (.bool (@decide p i)))) (hp: ¬ p) (h:∀ a,Fr n ((d,.bool false)::K) a→wpStill Tryz.prog ops w q rest a):∀ a,Fr n K a→wpStill Tryz.prog ops w q (o::rest) a:=Bs (Prod.mk.inj hd).1 (Prod.mk.inj hd).2 (decide_eq_false hp) h
theorem beqT {c e:UInt8}{z:Int}(hz:(e.toNat:Int)=z) (h:c=e):((c.toNat:Int)==z)=true:=by rw [h,hz];simp
theorem beqF {c e:UInt8}{z:Int}(hz:(e.toNat:Int)=z) (h:c≠e):((c.toNat:Int)==z)=false:=by
  rw [beq_eq_false_iff_ne,←hz]
  intro h2
  exact h (UInt8.toNat_inj.1 (by omega))
theorem Qt (e:UInt8) {c:UInt8}{z:Int}{d:Nat}(hd:(dstT n ops K o,valT K o.op)=(some d,some (.bool ((c.toNat:Int)==z)))) (hz:(e.toNat:Int)=z) (hc:c=e) (h:∀ a,Fr n ((d,.bool true)::K) a→wpList Tryz.prog ops Q rest a w):∀ a,Fr n K a→wpList Tryz.prog ops Q (o::rest) a w:=Bv (Prod.mk.inj hd).1 (Prod.mk.inj hd).2 (beqT hz hc) h
theorem Qf (e:UInt8) {c:UInt8}{z:Int}{d:Nat}(hd:(dstT n ops K o,valT K o.op)=(some d,some (.bool ((c.toNat:Int)==z)))) (hz:(e.toNat:Int)=z) (hc:c≠e) (h:∀ a,Fr n ((d,.bool false)::K) a→wpList Tryz.prog ops Q rest a w):∀ a,Fr n K a→wpList Tryz.prog ops Q (o::rest) a w:=Bv (Prod.mk.inj hd).1 (Prod.mk.inj hd).2 (beqF hz hc) h
theorem Vf (e:UInt8) {c:UInt8}{z:Int}{d:Nat}(hd:(dstT n ops K o,valT K o.op)=(some d,some (.bool ((c.toNat:Int)==z)))) (hz:(e.toNat:Int)=z) (hc:c≠e) (h:∀ a,Fr n ((d,.bool false)::K) a→wpStill Tryz.prog ops w q rest a):∀ a,Fr n K a→wpStill Tryz.prog ops w q (o::rest) a:=Bs (Prod.mk.inj hd).1 (Prod.mk.inj hd).2 (beqF hz hc) h
def smT (K:List (Nat×Value)):Op→Option Int
  | .binOp op _ x y _ => match ev K x, ev K y with
    | some (.int .i64 p), some (.int .i64 q) => match op with
      | .add=>some (p+q)
      | .sub=>some (p - q)
      | .mul=>some (p*q)
      | _=>none
    | _,_=>none
  | _=>none
theorem smT_run (hF:Fr n K a) {r r':Int}(h:smT K o.op=some r') (he:r'=r∧ -9223372036854775808≤r∧r≤9223372036854775807):(execOp a.eval o).run P w= .ok (.value (.int .i64 r)) w:=by
  unfold smT at h
  split at h
  · rename_i op t x y t' e
    split at h
    · rename_i p q hx hy
      have hw:IntKind.i64.wrap r'=r:=by rw [he.1];exact wrap_i64 he.2.1 he.2.2
      split at h
      · obtain rfl:=Option.some.inj h;exact gives_bin hF e hx hy (by simp only [binVal,hw]) w
      · obtain rfl:=Option.some.inj h;exact gives_bin hF e hx hy (by simp only [binVal,hw]) w
      · obtain rfl:=Option.some.inj h;exact gives_bin hF e hx hy (by simp only [binVal,hw]) w
      · cases h
    · cases h
  · cases h
theorem Sm (r:Int) {r':Int}{d:Nat}(hd:(dstT n ops K o,smT K o.op)=(some d,some r')) (he:r'=r∧ -9223372036854775808≤r∧r≤9223372036854775807) (h:∀ a,Fr n ((d,.int .i64 r)::K) a→wpList P ops Q rest a w):∀ a,Fr n K a→wpList P ops Q (o::rest) a w:=
  Gv (Prod.mk.inj hd).1 (fun _ hF=>smT_run hF (Prod.mk.inj hd).2 he) h
theorem Sn {r:Int}{d:Nat}(hd:(dstT n ops K o,smT K o.op)=(some d,some r)) (he: -9223372036854775808≤r∧r≤9223372036854775807) (h:∀ a,Fr n ((d,.int .i64 r)::K) a→wpList P ops Q rest a w):∀ a,Fr n K a→wpList P ops Q (o::rest) a w:=
  Sm r hd ⟨rfl,he⟩ h
theorem Ss (r:Int) {r':Int}{d:Nat}(hd:(dstT n ops K o,smT K o.op)=(some d,some r')) (he:r'=r∧ -9223372036854775808≤r∧r≤9223372036854775807) (h:∀ a,Fr n ((d,.int .i64 r)::K) a→wpStill P ops w q rest a):∀ a,Fr n K a→wpStill P ops w q (o::rest) a:=
  Gs (Prod.mk.inj hd).1 (fun _ hF=>smT_run hF (Prod.mk.inj hd).2 he) h
def ixT (K:List (Nat×Value)):Op→Option (List UInt8×Int)
  | .index t x i => match hasN t strL, ev K x, ev K i with
    | true,some (.string ⟨⟨l⟩⟩),some (.int _ z)=>some (l,z)
    | _,_,_=>none
  | _=>none
theorem ixT_run (hF:Fr n K a) {l:List UInt8}{z:Int}(h:ixT K o.op=some (l,z)) {j:Nat}{c:UInt8}(hz:z=(j:Int)) (hc:l[j]?=some c):(execOp a.eval o).run Tryz.prog w= .ok (.value (.int .u8 (c.toNat:Int))) w:=by
  unfold ixT at h
  split at h
  · rename_i t x i e
    split at h
    · rename_i ht hx hi
      obtain ⟨rfl,rfl⟩:=Prod.mk.inj (Option.some.inj h)
      exact gives_index_str j c hF e (str_of ht) hx hi hz hc w
    · cases h
  · cases h
theorem Ix (j:Nat) (c:UInt8) {l:List UInt8}{z:Int}{d:Nat}(hd:(dstT n ops K o,ixT K o.op)=(some d,some (l,z))) (hc:l[j]?=some c) (hz:z=(j:Int)) (h:∀ a,Fr n ((d,.int .u8 (c.toNat:Int))::K) a→wpList Tryz.prog ops Q rest a w):∀ a,Fr n K a→wpList Tryz.prog ops Q (o::rest) a w:=
  Gv (Prod.mk.inj hd).1 (fun _ hF=>ixT_run hF (Prod.mk.inj hd).2 hz hc) h
theorem Is (j:Nat) (c:UInt8) {l:List UInt8}{z:Int}{d:Nat}(hd:(dstT n ops K o,ixT K o.op)=(some d,some (l,z))) (hc:l[j]?=some c) (hz:z=(j:Int)) (h:∀ a,Fr n ((d,.int .u8 (c.toNat:Int))::K) a→wpStill Tryz.prog ops w q rest a):∀ a,Fr n K a→wpStill Tryz.prog ops w q (o::rest) a:=
  Gs (Prod.mk.inj hd).1 (fun _ hF=>ixT_run hF (Prod.mk.inj hd).2 hz hc) h
def ldT (K:List (Nat×Value)):Op→Option (Nat×Nat)
  | .load t x => match hasN t plL, ev K x with
    | true,some (.pointer (some ⟨b,j,none⟩))=>some (b,j)
    | _,_=>none
  | _=>none
theorem ldT_run (hF:Fr n K a) (hM:Mem B w0 L w) {b j k:Nat}{t0:TypeId}{vs:List Value}{v:Value}(h:ldT K o.op=some (b,j)) (hk:L[k]?=some (b,t0,vs)) (hv:vs[j]?=some v):(execOp a.eval o).run Tryz.prog w= .ok (.value v) w:=by
  unfold ldT at h
  split at h
  · rename_i t x e
    split at h
    · rename_i ht hx
      obtain ⟨rfl,rfl⟩:=Prod.mk.inj (Option.some.inj h)
      obtain ⟨⟨u,h1,h2⟩,_⟩:=pl_of ht
      exact gives_load hF hM k e h1 h2 hx hk hv
    · cases h
  · cases h
theorem Ld (hM:Mem B w0 L w) (k:Nat) {b j d:Nat}{t0:TypeId}{vs:List Value}{v:Value}(hd:(dstT n ops K o,ldT K o.op)=(some d,some (b,j))) (hk:(L[k]?,vs[j]?)=(some (b,t0,vs),some v)) (h:∀ a,Fr n ((d,v)::K) a→wpList Tryz.prog ops Q rest a w):∀ a,Fr n K a→wpList Tryz.prog ops Q (o::rest) a w:=
  Gv (Prod.mk.inj hd).1 (fun _ hF=>ldT_run hF hM (Prod.mk.inj hd).2 (Prod.mk.inj hk).1 (Prod.mk.inj hk).2) h
theorem Ls (hM:Mem B w0 L w) (k:Nat) {b j d:Nat}{t0:TypeId}{vs:List Value}{v:Value}(hd:(dstT n ops K o,ldT K o.op)=(some d,some (b,j))) (hk:(L[k]?,vs[j]?)=(some (b,t0,vs),some v)) (h:∀ a,Fr n ((d,v)::K) a→wpStill Tryz.prog ops w q rest a):∀ a,Fr n K a→wpStill Tryz.prog ops w q (o::rest) a:=
  Gs (Prod.mk.inj hd).1 (fun _ hF=>ldT_run hF hM (Prod.mk.inj hd).2 (Prod.mk.inj hk).1 (Prod.mk.inj hk).2) h
theorem St (hM:Mem B w0 L w) (k:Nat) {x y:Operand}{t t0:TypeId}{b j:Nat}{vs:List Value}{v:Value}(hd:(o.dst,wantT n ops K o.guard,o.op,hasN t plL,ev K x,ev K y,v.oneCell',L[k]?,Nat.blt j vs.length)=(none,some true,.store t x y,true,some (.pointer (some ⟨b,j,none⟩)),some v,true,some (b,t0,vs),true))
    (h:∀ w',Mem B w0 (L.set k (b,t0,vs.set j v)) w'→∀ a,Fr n K a→wpList Tryz.prog ops Q rest a w'):∀ a,Fr n K a→wpList Tryz.prog ops Q (o::rest) a w:=by
  intro a hF
  simp only [Prod.mk.injEq] at hd
  obtain ⟨h1,h2,h3,h4,h5,h6,h7,h8,h9⟩:=hd
  exact unguard hF h2 <| op_store (o:={o with guard:=none}) hF hM rfl k h1 h3 (pl_of h4).2 h5 h6 h7 h8 (Nat.le_of_ble_eq_true h9) (fun a' w' hF' hM'=>h w' hM' a' hF')
def fnB (P:Program) (f:Nat):Bool:=match P.funcs[f]? with | some fn=> !(fn.name== "runtime.NumGoroutine")&& !fn.body.isNone | none=>false
def FNS:List Nat:=[3,4,5,6,7,8,9,10,11,12,13,14,15,16,17,18,19,20,21,22,23,24,25,26,27,28,29,30,31,32,33,34,35,36,37,38,39,40,41,42,43,44,45,46,47,48,49,50,51,52,53,54,56,57,58,59,60,61,62,63,64,65,66,67,68,69,70,71,72,73,74,75,76,77,78,79,80,81,82,83,84,85,86,87,89,90,91,92,93,94,95,96,97,98,99,101,102,104,105,106,107,108,109,110,111,112,113,114,115,116,117,118,119,120,121,122,123,124,125,126,127,128,130,131,134,138,139,140,141,145,146,147,148,149,150,151,152,153,154,155,156,157,158,159,161,163,164,165,166,167,168,169,174,175,176,177,179,180,184,187,188,189,195,202,205,206,212,213,214,216,217,221,225,226,227,231,232,233,235,236,237,238,241,242,243,245,246,249,250,251]
theorem fnS_ok:FNS.all (fnB Tryz.prog)=true:=by kernel_rfl
theorem fn_of {f:Nat}(h:fnB P f=true):∃ fn,P.funcs[f]?=some fn∧(!(fn.name== "runtime.NumGoroutine")&& !fn.body.isNone)=true:=by
  unfold fnB at h
  split at h
  · exact ⟨_,by assumption,h⟩
  · cases h
theorem Cl {d:Nat}{f:FuncId}{l:List Operand}{ats:Array TypeId}{vals:List Value}{R:Value→World→Prop}(hd:(dstT n ops K o,o.op)=(some d,.call {callee:= .value (.func f),args:=l.toArray,argTypes:=ats})) (hf:hasN f FNS=true)
    (hargs:evs K l=some vals) (hc:Calls Tryz.prog f vals.toArray w (Ret R)) (h:∀ w' v,R v w'→∀ a,Fr n ((d,v)::K) a→wpList Tryz.prog ops Q rest a w'):∀ a,Fr n K a→wpList Tryz.prog ops Q (o::rest) a w:=by
  intro a hF
  simp only [Prod.mk.injEq] at hd
  obtain ⟨h1,h3⟩:=hd
  obtain ⟨h4,h5,h6⟩:=dst_ok h1
  obtain ⟨fn,hf,hn⟩:=fn_of (List.all_eq_true.1 fnS_ok _ (hasN_mem hf))
  simp only [Bool.and_eq_true,Bool.not_eq_true'] at hn
  exact unguard hF h6 (op_call (o:={o with guard:=none}) hF rfl h4 (Nat.ble_eq_true_of_le h5) h3 hf hn.1 hn.2 hargs hc (fun a' w' v hR hF'=>h w' v hR a' hF'))
theorem Cm (hM:Mem B w0 L w) {d:Nat}{f:FuncId}{l:List Operand}{ats:Array TypeId}{vals:List Value}{R:Value→Prop}(hd:(dstT n ops K o,o.op)=(some d,.call {callee:= .value (.func f),args:=l.toArray,argTypes:=ats})) (hf:hasN f FNS=true)
    (hargs:evs K l=some vals) (hc:Calls Tryz.prog f vals.toArray w (Ret fun v w'=>R v∧Below w.heap.size w w')) (h:∀ w' v,R v→Mem B w0 L w'→Below w.heap.size w w'→∀ a,Fr n ((d,v)::K) a→wpList Tryz.prog ops Q rest a w'):∀ a,Fr n K a→wpList Tryz.prog ops Q (o::rest) a w:=
  Cl hd hf hargs hc (fun w' v hR=>h w' v hR.1 (hM.step hR.2) hR.2)
theorem Nx {y:Code}(h:∀ a,Fr n K a→y.wp P Q a w):∀ a,Fr n K a→Exit.then (y.wp P Q) Q .normal a w:=h
theorem Sq {x y:Code}(h:∀ a,Fr n K a→x.wp P (Exit.then (y.wp P Q) Q) a w):∀ a,Fr n K a→(Code.seq x y).wp P Q a w:=fun a hF=>wp_seq (h a hF)
theorem Rg {id:Nat}{l:List Oper}(h:∀ a,Fr n K a→wpList P l.toArray Q l a w):∀ a,Fr n K a→(Code.region id l.toArray false).wp P Q a w:=fun a hF=>region (h a hF)
theorem Sd (h:∀ a,Fr n K a→q a):∀ a,Fr n K a→wpStill P ops w q [] a:=fun a hF=>stdone (h a hF)
theorem Sk (h:∀ a,Fr n K a→Q .normal a w):∀ a,Fr n K a→Code.skip.wp P Q a w:=fun a hF=>skip (h a hF)
theorem Bo {id:Nat}{c:Code}(h:∀ a,Fr n K a→c.wp P (Exit.inBlock id Q) a w):∀ a,Fr n K a→(Code.block id c).wp P Q a w:=fun a hF=>wp_block (h a hF)
theorem Nb {id:Nat}(h:∀ a,Fr n K a→Q .normal a w):∀ a,Fr n K a→Exit.inBlock id Q .normal a w:=h
theorem Ob {id:Nat}(h:∀ a,Fr n K a→Q .normal a w):∀ a,Fr n K a→Exit.inBlock id Q (.exit id) a w:=fun a hF=>out_block (h a hF)
theorem Op' {id id':Nat}(hne:Nat.beq id' id=false) (h:∀ a,Fr n K a→Q (.exit id') a w):∀ a,Fr n K a→Exit.inBlock id Q (.exit id') a w:=fun a hF=>out_past (fun e=>by rw [e] at hne;simp at hne) (h a hF)
theorem Ot {id:Nat}{M:Act→World→Prop}(h:∀ a,Fr n K a→Q (.exit id) a w):∀ a,Fr n K a→Exit.then M Q (.exit id) a w:=h
theorem Rt {M:Act→World→Prop}(h:∀ a,Fr n K a→Q .ret a w):∀ a,Fr n K a→Exit.then M Q .ret a w:=h
theorem Rb {id:Nat}(h:∀ a,Fr n K a→Q .ret a w):∀ a,Fr n K a→Exit.inBlock id Q .ret a w:=h
theorem Ex {id:Nat}(h:∀ a,Fr n K a→Q (.exit id) a w):∀ a,Fr n K a→(Code.exit id).wp P Q a w:=fun a hF=>wp_exit (h a hF)
theorem Re (h:∀ a,Fr n K a→Q .ret a w):∀ a,Fr n K a→Code.ret.wp P Q a w:=fun a hF=>wp_ret (h a hF)
theorem Jr {J:Nat→Act→World→Prop}(h:∀ a,Fr n K a→Q .ret a w):∀ a,Fr n K a→Jumps J Q .ret a w:=h
theorem Jt {J:Nat→Act→World→Prop}{l:Nat}(h:∀ a,Fr n K a→J l a w):∀ a,Fr n K a→Jumps J Q (.goto l) a w:=h
theorem Gt {l:Nat}{M:Act→World→Prop}(h:∀ a,Fr n K a→Q (.goto l) a w):∀ a,Fr n K a→Exit.then M Q (.goto l) a w:=h
theorem Wl {l:Nat}(h:∀ a,Fr n K a→Q .normal a w):∀ a,Fr n K a→(Code.label l).wp P Q a w:=fun a hF=>wp_label (h a hF)
theorem Wg {l:Nat}(h:∀ a,Fr n K a→Q (.goto l) a w):∀ a,Fr n K a→(Code.goto l).wp P Q a w:=fun a hF=>wp_goto (h a hF)
theorem Sl {id:Nat}{l:List Oper}(hm:P.follows .mixedOrders=true) (hB:Region.lexB .any l.toArray=true) (h:∀ a,Fr n K a→wpStill P l.toArray w.drew (fun a'=>Q .normal a' w.drew) l a):∀ a,Fr n K a→(Code.region id l.toArray true).wp P Q a w:=fun a hF=>still hm hB (h a hF)
theorem Su {id:Nat}{l:List Oper}(m:Nat) (hm:P.follows .mixedOrders=true) (hB:Region.lexTailB .any l.toArray m=true) (h:∀ a,Fr n K a→wpStill P l.toArray w.drew (fun a'=>wpList P l.toArray Q (l.drop m) a' w.drew) (l.take m) a):∀ a,Fr n K a→(Code.region id l.toArray true).wp P Q a w:=fun a hF=>stillTail m hm hB (h a hF)
theorem Cd {c:Operand}{x y:Code}{t:Bool}(hc:ev K c=some (.bool t)) (ht:t=true→∀ a,Fr n K a→x.wp P Q a w) (hf:t=false→∀ a,Fr n K a→y.wp P Q a w):∀ a,Fr n K a→(Code.cond c x y).wp P Q a w:=fun a hF=>cond hF hc (fun e=>ht e a hF) (fun e=>hf e a hF)
theorem Ce {c:Operand}{x y:Code}{t:Bool}(hc:ev K c=some (.bool t)) (hf:t=false→∀ a,Fr n K a→y.wp P Q a w) (ht:t=true→∀ a,Fr n K a→x.wp P Q a w):∀ a,Fr n K a→(Code.cond c x y).wp P Q a w:=Cd hc ht hf
theorem C0 {c:Operand}{x y:Code}{t:Bool}(hc:ev K c=some (.bool t)) (ht:∀ a,Fr n K a→x.wp P Q a w) (hf:∀ a,Fr n K a→y.wp P Q a w):∀ a,Fr n K a→(Code.cond c x y).wp P Q a w:=Cd hc (fun _=>ht) (fun _=>hf)
theorem C1 {c:Operand}{x y:Code}{t:Bool}(hc:ev K c=some (.bool t)) (ht:t=true→∀ a,Fr n K a→x.wp P Q a w) (hf:∀ a,Fr n K a→y.wp P Q a w):∀ a,Fr n K a→(Code.cond c x y).wp P Q a w:=Cd hc ht (fun _=>hf)
theorem C2 {c:Operand}{x y:Code}{t:Bool}(hc:ev K c=some (.bool t)) (ht:∀ a,Fr n K a→x.wp P Q a w) (hf:t=false→∀ a,Fr n K a→y.wp P Q a w):∀ a,Fr n K a→(Code.cond c x y).wp P Q a w:=Cd hc (fun _=>ht) hf
theorem D0 {c:Operand}{x y:Code}{t:Bool}(hc:ev K c=some (.bool t)) (hf:∀ a,Fr n K a→y.wp P Q a w) (ht:∀ a,Fr n K a→x.wp P Q a w):∀ a,Fr n K a→(Code.cond c x y).wp P Q a w:=C0 hc ht hf
theorem D1 {c:Operand}{x y:Code}{t:Bool}(hc:ev K c=some (.bool t)) (hf:∀ a,Fr n K a→y.wp P Q a w) (ht:t=true→∀ a,Fr n K a→x.wp P Q a w):∀ a,Fr n K a→(Code.cond c x y).wp P Q a w:=C1 hc ht hf
theorem D2 {c:Operand}{x y:Code}{t:Bool}(hc:ev K c=some (.bool t)) (hf:t=false→∀ a,Fr n K a→y.wp P Q a w) (ht:∀ a,Fr n K a→x.wp P Q a w):∀ a,Fr n K a→(Code.cond c x y).wp P Q a w:=C2 hc ht hf
theorem Ct {c:Operand}{x y:Code}(hc:ev K c=some (.bool true)) (h:∀ a,Fr n K a→x.wp P Q a w):∀ a,Fr n K a→(Code.cond c x y).wp P Q a w:=Cd hc (fun _=>h) (fun e=>by cases e)
theorem Cf {c:Operand}{x y:Code}(hc:ev K c=some (.bool false)) (h:∀ a,Fr n K a→y.wp P Q a w):∀ a,Fr n K a→(Code.cond c x y).wp P Q a w:=Cd hc (fun e=>by cases e) (fun _=>h)
variable {fn:Func}{R:Ending→World→Prop}
theorem Y1 {t:Tmp}{x:Value}(h:fn.results= #[.tmp t]) (hx:look K t=some x) (hR:R (.returned x) w):∀ a,Fr n K a→bodyPost P fn R .ret a w:=fun _ hF=>ret1 hF h hx hR
theorem Y2 {t u:Tmp}{x y:Value}(h:fn.results= #[.tmp t,.tmp u]) (hx:look K t=some x) (hy:look K u=some y) (hR:R (.returned (.tuple #[x,y])) w):∀ a,Fr n K a→bodyPost P fn R .ret a w:=fun _ hF=>ret2 hF h hx hy hR
theorem Y3 {t u v:Tmp}{x y z:Value}(h:fn.results= #[.tmp t,.tmp u,.tmp v]) (hx:look K t=some x) (hy:look K u=some y) (hz:look K v=some z) (hR:R (.returned (.tuple #[x,y,z])) w):∀ a,Fr n K a→bodyPost P fn R .ret a w:=fun _ hF=>ret3 hF h hx hy hz hR
theorem Z0 (h:fn.results= #[]) (hR:R (.returned (.tuple #[])) w):∀ a,Fr n K a→bodyPost P fn R .normal a w:=fun _ hF=>endNone hF h hR
end
open Js Go.Proofs.YtelonenjneonlaaGreatDoorW.PrintWords
end Go.Sx
namespace Js
def deltas:List Nat:=[0,1,1,1,2,2,2,3,3,3,4,4,4,4,5,5,5,6,6,6,7,7,7,7,8,8,8,9,9,9,10,10,10,10,11,11,11,12,12,12,13,13,13,13,14,14,14,15,15,15,16,16,16,16,17,17,17,18,18,18,19]
def digsOf:Nat→Nat→Str→Str
  | 0,_,out=>out
  | f+1,n,out=>if n=0 then out else digsOf f (n / 10) (chr (n % 10)::out)
def five (k:Nat):Str:=if k=0 then [] else digsOf 50 (5^k) []
def tabOk (k:Nat):Bool:=
  worth (five k)==5^k&&(five k).all isDig&&decide ((five k).getLast?≠some 48)&&decide (k+1=deltas.getD k 0+(five k).length)&&decide (2^k<10^deltas.getD k 0)&&decide (1≤deltas.getD k 0)&&decide (deltas.getD k 0≤19)&&decide (4≤k→2≤deltas.getD k 0)&&decide (10^(deltas.getD k 0 - 1)≤2^k)
theorem tab_all:((List.range 61).drop 1).all tabOk=true:=by decide+kernel
structure TabRow (k d:Nat) (s:Str):Prop where
  worth:worth s=5^k
  digs:Digs s
  last:s.getLast?≠some 48
  len:k+1=d+s.length
  big:2^k<10^d
  pos:1≤d
  le:d≤19
  two:4≤k→2≤d
  low:10^(d - 1)≤2^k
theorem tab_row {k:Nat}(h1:1≤k) (h2:k≤60):TabRow k (deltas.getD k 0) (five k):=by
  have h:=List.all_eq_true.1 tab_all k (by
    rw [List.mem_iff_getElem]
    exact ⟨k - 1,by simp;omega,by simp;omega⟩)
  simp only [tabOk,Bool.and_eq_true,decide_eq_true_eq,beq_iff_eq,List.all_eq_true] at h
  obtain ⟨⟨⟨⟨⟨⟨⟨⟨h1,h2⟩,h3⟩,h4⟩,h5⟩,h6⟩,h7⟩,h8⟩,h9⟩:=h
  exact ⟨h1,h2,h3,h4,h5,h6,h7,h8,h9⟩
end Js
namespace Go.Sx
open Go.RowKit Go.Proofs Js Go.Proofs.YtelonenjneonlaaGreatDoorW.PrintWords
def powtabL:List Int:=[1,3,6,9,13,16,19,23,26]
structure Tabs (N:Nat) (w:World):Prop where
  lt:30<N
  opt:w.cell? ⟨20,0,none⟩=some (.bool true)
  mant:w.cell? ⟨22,0,none⟩=some (.int .u64 52)
  expb:w.cell? ⟨22,1,none⟩=some (.int .u64 11)
  bias:w.cell? ⟨22,2,none⟩=some (.int .i64 (-1023))
  powtab:∃ b off c,b<N∧w.cell? ⟨25,0,none⟩=some (.slice (some ⟨b,off,none⟩) 9 c)∧∀ j x,powtabL[j]?=some x→w.cell? ⟨b,off+j,none⟩=some (.int .i64 x)
  pow10:∃ b off c,b<N∧w.cell? ⟨26,0,none⟩=some (.slice (some ⟨b,off,none⟩) 23 c)∧∀ j,j<23→∃ f,w.cell? ⟨b,off+j,none⟩=some (.float .f64 f)
  tab:∀ j,j<1392→∃ x:Nat,x<2^64∧w.cell? ⟨27,j,none⟩=some (.int .u64 (x:Int))
  cheats:∃ b off c,b<N∧w.cell? ⟨28,0,none⟩=some (.slice (some ⟨b,off,none⟩) 61 c)∧∀ k,k<61→w.cell? ⟨b,off+k*2,none⟩=some (.int .i64 ((deltas.getD k 0:Nat):Int))∧w.cell? ⟨b,off+k*2+1,none⟩=some (.string (mkS (five k)))
  eRange:∃ t v,w.cell? ⟨10,0,none⟩=some (.iface t v)
  eSyntax:∃ t v,w.cell? ⟨14,0,none⟩=some (.iface t v)
theorem Tabs.keep {N M:Nat}{w w':World}(h:Tabs N w) (hN:N≤M) (hB:Below M w w'):Tabs N w':=by
  have c:∀ {b j:Nat}{v:Value},b<N→w.cell? ⟨b,j,none⟩=some v→w'.cell? ⟨b,j,none⟩=some v:=fun {b _ _} hb hv=>(hB.cell (show b<M by omega)).trans hv
  have h30:=h.lt
  refine ⟨h30,c (by omega) h.opt,c (by omega) h.mant,c (by omega) h.expb,c (by omega) h.bias,?_,?_,?_,?_,?_,?_⟩
  · obtain ⟨b,off,k,hb,h1,h2⟩:=h.powtab
    exact ⟨b,off,k,hb,c (by omega) h1,fun j x hx=>c hb (h2 j x hx)⟩
  · obtain ⟨b,off,k,hb,h1,h2⟩:=h.pow10
    exact ⟨b,off,k,hb,c (by omega) h1,fun j hj=>(h2 j hj).imp fun f hf=>c hb hf⟩
  · exact fun j hj=>(h.tab j hj).imp fun x hx=>⟨hx.1,c (by omega) hx.2⟩
  · obtain ⟨b,off,k,hb,h1,h2⟩:=h.cheats
    exact ⟨b,off,k,hb,c (by omega) h1,fun j hj=>⟨c hb (h2 j hj).1,c hb (h2 j hj).2⟩⟩
  · exact h.eRange.imp fun t h=>h.imp fun v hv=>c (by omega) hv
  · exact h.eSyntax.imp fun t h=>h.imp fun v hv=>c (by omega) hv
open Go.Lib
theorem one_at {cs:List Value}{o:Nat}{v:Value}(h:(cs.drop o).take 1=[v]):cs[o]?=some v:=by
  have h0:((cs.drop o).take 1)[0]?=some v:=by rw [h];rfl
  simpa using h0
section
variable {H:Type}{enc:TypeId×Value→H}{P:Program}{w:World}{base:Nat}{sp:Nat→Bool}{held:Bool}{fuel:Nat}{t:TypeId}{cs:List Value}{p:List MemPlace}
theorem struct_at {fs:Array Field}{ds:List (DataW H)}(ht:P.underlying t=some (.struct fs)) (h:DataW.trod enc P w base sp held fuel t cs=some (.agg ds,p)) {i:Nat}{f:Field}{d:DataW H}(hf:fs[i]?=some f) (hd:ds[i]?=some d):
    ∃ m q,DataW.trod enc P w base sp held m f.type ((cs.drop f.offset).take (P.cellsOf f.type))=some (d,q):=by
  obtain ⟨xs,n,rfl,hx,_,_,hall⟩:=DataW.trod_struct ht h
  have h1:=hall i f hf
  have e:ds=xs.map (·.1):=by have:=congrArg Prod.fst hx;simpa using this
  subst e
  rw [List.getElem?_map] at hd
  obtain ⟨b,hb,rfl⟩:=Option.map_eq_some_iff.1 hd
  exact ⟨n,b.2,by rw [h1,hb]⟩
theorem int_field {fs:Array Field}{ds:List (DataW H)}(ht:P.underlying t=some (.struct fs)) (h:DataW.trod enc P w base sp held fuel t cs=some (.agg ds,p)) {i o:Nat}{f:Field}{k:IntKind}{z:Int}(hf:fs[i]?=some f) (hd:ds[i]?=some (.lit (.int k z)))
    (ho:f.offset=o) (hu:P.underlying f.type=some (.int k)) (hc:P.cellsOf f.type=1):cs[o]?=some (.int k z):=by
  obtain ⟨m,q,h1⟩:=struct_at ht h hf hd
  rw [ho,hc] at h1
  obtain ⟨z',e1,e2,_⟩:=DataW.trod_int hu h1
  have:=(Prod.mk.inj e2).1
  simp only [DataW.lit.injEq,Lit.int.injEq,true_and] at this
  rw [one_at e1,this]
theorem string_field {fs:Array Field}{ds:List (DataW H)}(ht:P.underlying t=some (.struct fs)) (h:DataW.trod enc P w base sp held fuel t cs=some (.agg ds,p)) {i o:Nat}{f:Field}{l:List UInt8}(hf:fs[i]?=some f) (hd:ds[i]?=some (.lit (.string l)))
    (ho:f.offset=o) (hu:P.underlying f.type=some .string) (hc:P.cellsOf f.type=1):cs[o]?=some (.string (mkS l)):=by
  obtain ⟨m,q,h1⟩:=struct_at ht h hf hd
  rw [ho,hc] at h1
  obtain ⟨s,e1,e2,_⟩:=DataW.trod_string hu h1
  have:=(Prod.mk.inj e2).1
  simp only [DataW.lit.injEq,Lit.string.injEq] at this
  rw [one_at e1,this]
  have:mkS s.data.toList=s:=by unfold mkS;cases s;simp
  rw [this]
theorem slice_at {e:TypeId}{ds rs:List (DataW H)}(ht:P.underlying t=some (.slice e)) (h:DataW.trod enc P w base sp held fuel t cs=some (.slice ds rs,p)) (h0:0<ds.length) (hc:0<P.cellsOf e):
    ∃ b off cap,cs=[.slice (some ⟨b,off,none⟩) ds.length cap]∧b<w.heap.size∧∀ i d,ds[i]?=some d→∃ m q ce,ce.length=P.cellsOf e∧(∀ j v,ce[j]?=some v→w.cell? ⟨b,off+i*P.cellsOf e+j,none⟩=some v)∧DataW.trod enc P w base sp held m e ce=some (d,q):=by
  rcases DataW.trod_slice ht h with ⟨_,hx⟩ | ⟨a,len,cap,el,rr,m,rfl,hcs,hx,_,_,_,hel,helem,_,_⟩
  · cases hx
  have e0:=congrArg Prod.fst hx
  simp only [DataW.slice.injEq] at e0
  obtain ⟨eE,_⟩:=e0
  have hlen:len=ds.length:=by rw [eE,List.length_map,hel]
  have key:∀ i d,ds[i]?=some d→∃ q ce,ce.length=P.cellsOf e∧(∀ j v,ce[j]?=some v→w.cell? ((a.add (i*P.cellsOf e)).add j)=some v)∧DataW.trod enc P w base sp held m e ce=some (d,q):=by
    intro i d hd
    have hil:i<len:=by rw [hlen];exact (List.getElem?_eq_some_iff.1 hd).1
    rw [eE,List.getElem?_map] at hd
    obtain ⟨b,hb,rfl⟩:=Option.map_eq_some_iff.1 hd
    have h1:=helem i hil
    rw [hb] at h1
    obtain ⟨ce,hce,hte⟩:=Option.bind_eq_some_iff.1 h1
    obtain ⟨_,hl,hcc⟩:=World.cells?_some hce
    refine ⟨b.2,ce,hl,fun j v hv=> ?_,hte⟩
    rw [hcc j (by rw [←hl];exact (List.getElem?_eq_some_iff.1 hv).1),hv]
  obtain ⟨R,o,sR⟩:=a
  obtain ⟨q0,ce0,hl0,hc0,_⟩:=key 0 ds[0] (List.getElem?_eq_getElem h0)
  have h00:=hc0 0 ce0[0] (List.getElem?_eq_getElem (by omega))
  have ea:((⟨R,o,sR⟩:Addr).add (0*P.cellsOf e)).add 0=⟨R,o,sR⟩:=by simp [Addr.add]
  rw [ea] at h00
  obtain rfl:sR=none:=Go.Proofs.cell_spot h00
  refine ⟨R,o,cap,by rw [hcs,hlen],?_,fun i d hd=> ?_⟩
  · rcases Nat.lt_or_ge R w.heap.size with h | h
    · exact h
    · simp [World.cell?,h] at h00
  · obtain ⟨q,ce,h1,h2,h3⟩:=key i d hd
    refine ⟨m,q,ce,h1,fun j v hv=> ?_,h3⟩
    have:=h2 j v hv
    rwa [Addr.add_mid,Addr.add_mid] at this
end
theorem var_reads {w:World}{name:String}{d:DataW Unit}{g:Nat}{t:TypeId}(h:VarReads Tryz.prog w name d) (hn:Tryz.prog.globalNamed name=some g) (hy:(Tryz.prog.globals[g]?).map (·.type)=some t):
    ∃ (cs:List Value) (fuel:Nat) (p:List MemPlace),(∀ j,w.cell? ⟨g,j,none⟩=cs[j]?)∧DataW.trod (fun _=>()) Tryz.prog w 0 (fun _=>true) false fuel t cs=some (d,p):=by
  obtain ⟨g',t',cs,fuel,p,hg,ht,hv,hd⟩:=h
  obtain rfl:=Option.some.inj (hn.symm.trans hg)
  obtain rfl:=Option.some.inj (hy.symm.trans ht)
  exact ⟨cs.toList,fuel,p,fun j=>by rw [World.var?_cell hg hv j];simp,hd⟩
theorem g_opt {w:World}(h:VarReads Tryz.prog w "internal/strconv.optimize" (.lit (.bool true))):w.cell? ⟨20,0,none⟩=some (.bool true):=by
  obtain ⟨cs,fuel,p,hc,hd⟩:=var_reads h (g:=20) (t:=4) (by kernel_rfl) (by kernel_rfl)
  obtain ⟨b,rfl,e⟩:=DataW.trod_bool Tryz.underlying4 hd
  have:=(Prod.mk.inj e).1
  simp only [DataW.lit.injEq,Lit.bool.injEq] at this
  rw [hc 0,←this];rfl
theorem g_info {w:World}(h:VarReads Tryz.prog w "internal/strconv.float64info" (.agg [.lit (.int .u64 52),.lit (.int .u64 11),.lit (.int .i64 (-1023))])):
    w.cell? ⟨22,0,none⟩=some (.int .u64 52)∧w.cell? ⟨22,1,none⟩=some (.int .u64 11)∧w.cell? ⟨22,2,none⟩=some (.int .i64 (-1023)):=by
  obtain ⟨cs,fuel,p,hc,hd⟩:=var_reads h (g:=22) (t:=250) (by kernel_rfl) (by kernel_rfl)
  refine ⟨?_,?_,?_⟩
  · rw [hc 0];exact int_field (i:=0) Tryz.underlying250 hd rfl rfl rfl (by kernel_rfl) (by kernel_rfl)
  · rw [hc 1];exact int_field (i:=1) Tryz.underlying250 hd rfl rfl rfl (by kernel_rfl) (by kernel_rfl)
  · rw [hc 2];exact int_field (i:=2) Tryz.underlying250 hd rfl rfl rfl (by kernel_rfl) (by kernel_rfl)
theorem g_powtab {w:World}(h:VarReads Tryz.prog w "internal/strconv.powtab" (.slice (powtabL.map fun z=> .lit (.int .i64 z)) [])):
    ∃ b off c,b<w.heap.size∧w.cell? ⟨25,0,none⟩=some (.slice (some ⟨b,off,none⟩) 9 c)∧∀ j x,powtabL[j]?=some x→w.cell? ⟨b,off+j,none⟩=some (.int .i64 x):=by
  obtain ⟨cs,fuel,p,hc,hd⟩:=var_reads h (g:=25) (t:=133) (by kernel_rfl) (by kernel_rfl)
  have c3:Tryz.prog.cellsOf 3=1:=by kernel_rfl
  obtain ⟨b,off,cap,rfl,hb,hel⟩:=slice_at (e:=3) (by kernel_rfl) hd (by decide) (by rw [c3];decide)
  refine ⟨b,off,cap,hb,by rw [hc 0];rfl,fun j x hx=> ?_⟩
  obtain ⟨m,q,ce,hl,hcc,ht⟩:=hel j (.lit (.int .i64 x)) (by rw [List.getElem?_map,hx];rfl)
  obtain ⟨z,rfl,e,_⟩:=DataW.trod_int Tryz.underlying3 ht
  have:=(Prod.mk.inj e).1
  simp only [DataW.lit.injEq,Lit.int.injEq,true_and] at this
  subst this
  have:=hcc 0 _ rfl
  rw [c3,Nat.mul_one] at this
  exact this
theorem trod_float {P:Program}{w:World}{base:Nat}{sp:Nat→Bool}{held:Bool}{fuel:Nat}{t:TypeId}{cs:List Value}{k:FloatKind}{x:DataW Unit×List MemPlace}(ht:P.underlying t=some (.float k)) (h:DataW.trod (fun _=>()) P w base sp held fuel t cs=some x):∃ f,cs=[.float k f]:=by
  cases fuel with
  | zero=>simp [DataW.trod] at h
  | succ n =>
    unfold DataW.trod at h
    rw [ht] at h
    split at h <;> simp_all
theorem g_pow10 {w:World}{ds:List (DataW Unit)}(hl:ds.length=23) (h:VarReads Tryz.prog w "internal/strconv.float64pow10" (.slice ds [])):
    ∃ b off c,b<w.heap.size∧w.cell? ⟨26,0,none⟩=some (.slice (some ⟨b,off,none⟩) 23 c)∧∀ j,j<23→∃ f,w.cell? ⟨b,off+j,none⟩=some (.float .f64 f):=by
  obtain ⟨cs,fuel,p,hc,hd⟩:=var_reads h (g:=26) (t:=286) (by kernel_rfl) (by kernel_rfl)
  have c3:Tryz.prog.cellsOf 32=1:=by kernel_rfl
  obtain ⟨b,off,cap,rfl,hb,hel⟩:=slice_at (e:=32) (by kernel_rfl) hd (by omega) (by rw [c3];decide)
  refine ⟨b,off,cap,hb,by rw [hc 0,hl];rfl,fun j hj=> ?_⟩
  obtain ⟨m,q,ce,_,hcc,ht⟩:=hel j _ (List.getElem?_eq_getElem (by omega))
  obtain ⟨f,rfl⟩:=trod_float Tryz.underlying32 ht
  have:=hcc 0 _ rfl
  rw [c3,Nat.mul_one] at this
  exact ⟨f,this⟩
theorem rows_small:(Go.Pinned.pow10Rows.all fun x=>decide (x.1<2^64)&&decide (x.2<2^64))=true:=by decide+kernel
theorem rows_len:Go.Pinned.pow10Rows.length=696:=by decide+kernel
theorem g_tab {w:World}(h:VarReads Tryz.prog w "internal/strconv.pow10Tab" Go.Pinned.pow10Tab):∀ j,j<1392→∃ x:Nat,x<2^64∧w.cell? ⟨27,j,none⟩=some (.int .u64 (x:Int)):=by
  intro j hj
  obtain ⟨cs,fuel,p,hc,hd⟩:=var_reads h (g:=27) (t:=292) (by kernel_rfl) (by kernel_rfl)
  have c2:Tryz.prog.cellsOf 291=2:=by kernel_rfl
  obtain ⟨m,d,q,h1,h2⟩:=array_elem (n:=696) (e:=291) (by kernel_rfl) hd (j / 2) (by omega)
  rw [List.getElem?_map] at h1
  obtain ⟨x,hx,rfl⟩:=Option.map_eq_some_iff.1 h1
  have hs:=List.all_eq_true.1 rows_small x (List.mem_of_getElem? hx)
  simp only [Bool.and_eq_true,decide_eq_true_eq] at hs
  rw [c2] at h2
  have hget:∀ r v,r<2→((cs.drop (j / 2*2)).take 2)[r]?=some v→cs[j / 2*2+r]?=some v:=by
    intro r v hr hv
    rw [List.getElem?_take,if_pos hr,List.getElem?_drop] at hv
    exact hv
  rcases (show j % 2=0∨j % 2=1 by omega) with hr | hr
  · refine ⟨x.1,hs.1,?_⟩
    rw [hc j]
    have:=hget 0 _ (by decide) (int_field (i:=0) Tryz.underlying291 h2 rfl rfl rfl (by kernel_rfl) (by kernel_rfl))
    rw [show j / 2*2+0=j by omega] at this
    exact this
  · refine ⟨x.2,hs.2,?_⟩
    rw [hc j]
    have:=hget 1 _ (by decide) (int_field (i:=1) Tryz.underlying291 h2 rfl rfl rfl (by kernel_rfl) (by kernel_rfl))
    rw [show j / 2*2+1=j by omega] at this
    exact this
theorem cheats_are:Go.Pinned.cheatRows=(List.range 61).map fun k=>(deltas.getD k 0,five k):=by decide+kernel
theorem g_cheats {w:World}(h:VarReads Tryz.prog w "internal/strconv.leftcheats" Go.Pinned.leftcheats):
    ∃ b off c,b<w.heap.size∧w.cell? ⟨28,0,none⟩=some (.slice (some ⟨b,off,none⟩) 61 c)∧∀ k,k<61→w.cell? ⟨b,off+k*2,none⟩=some (.int .i64 ((deltas.getD k 0:Nat):Int))∧w.cell? ⟨b,off+k*2+1,none⟩=some (.string (mkS (five k))):=by
  obtain ⟨cs,fuel,p,hc,hd⟩:=var_reads h (g:=28) (t:=298) (by kernel_rfl) (by kernel_rfl)
  unfold Go.Pinned.leftcheats at hd
  rw [cheats_are] at hd
  have c2:Tryz.prog.cellsOf 297=2:=by kernel_rfl
  obtain ⟨b,off,cap,rfl,hb,hel⟩:=slice_at (e:=297) (by kernel_rfl) hd (by simp) (by rw [c2];decide)
  refine ⟨b,off,cap,hb,by rw [hc 0];simp,fun k hk=> ?_⟩
  obtain ⟨m,q,ce,_,hcc,ht⟩:=hel k (.agg [.lit (.int .i64 ((deltas.getD k 0:Nat):Int)),.lit (.string (five k))]) (by rw [List.getElem?_map,List.getElem?_map,List.getElem?_range hk];rfl)
  rw [c2] at hcc
  exact ⟨hcc 0 _ (int_field (i:=0) Tryz.underlying297 ht rfl rfl rfl (by kernel_rfl) (by kernel_rfl)),hcc 1 _ (string_field (i:=1) Tryz.underlying297 ht rfl rfl rfl (by kernel_rfl) (by kernel_rfl))⟩
theorem g_err {w:World}{name nm:String}{d:DataW Unit}{g:Nat}(h:VarReads Tryz.prog w name (.iface nm d)) (hn:Tryz.prog.globalNamed name=some g) (hy:(Tryz.prog.globals[g]?).map (·.type)=some 63):∃ t v,w.cell? ⟨g,0,none⟩=some (.iface t v):=by
  obtain ⟨cs,fuel,p,hc,hd⟩:=var_reads h hn hy
  obtain ⟨_,u,v,rfl,_⟩:=iface_of_trod Tryz.underlying63 hd
  exact ⟨u,v,by rw [hc 0];rfl⟩
end Go.Sx
namespace Js
structure Dec (ds:Str) (m:Nat):Prop where
  len:ds.length=800
  le:m≤800
  digs:Digs (ds.take m)
  head:0<m→ds[0]?≠some 48
theorem Dec.at {ds:Str}{m j:Nat}(h:Dec ds m) (hj:j<m):∃ c,ds[j]?=some c∧isDig c=true:=by
  have hl:j<ds.length:=by rw [h.len];have:=h.le;omega
  refine ⟨ds[j],List.getElem?_eq_getElem hl,h.digs _ ?_⟩
  rw [List.mem_iff_getElem?]
  exact ⟨j,by rw [List.getElem?_take,if_pos hj,List.getElem?_eq_getElem hl]⟩
theorem Dec.first {ds:Str}{m:Nat}(h:Dec ds m) (h0:0<m):∃ c r,ds.take m=c::r∧isDig c=true∧c≠48∧ds[0]?=some c∧r.length+1=m:=by
  obtain ⟨c,hc,hd⟩:=h.at h0
  have hn:=h.head h0
  have hle:=h.le
  cases ds with
  | nil=>simp at hc
  | cons d r =>
    simp only [List.getElem?_cons_zero,Option.some.injEq] at hc
    subst hc
    obtain ⟨m,rfl⟩:∃ k,m=k+1:=⟨m - 1,by omega⟩
    refine ⟨d,r.take m,rfl,hd,fun e=>hn (by rw [e];rfl),rfl,?_⟩
    have:=h.len
    simp only [List.length_cons] at this
    rw [List.length_take]
    omega
theorem Dec.low {ds:Str}{m:Nat}(h:Dec ds m) (h0:0<m):10^(m - 1)≤worth (ds.take m):=by
  obtain ⟨c,r,e,hc,hn,_,hl⟩:=h.first h0
  rw [e,show m - 1=r.length by omega]
  exact worth_pos hc hn
theorem Dec.tlen {ds:Str}{m:Nat}(h:Dec ds m):(ds.take m).length=m:=by
  rw [List.length_take,h.len];exact Nat.min_eq_left h.le
def ldel (D:Str) (k:Nat):Nat:=if pless D (five k) then deltas.getD k 0 - 1 else deltas.getD k 0
theorem left_range {ds:Str}{m k:Nat}(h:Dec ds m) (h0:0<m) (h1:1≤k) (h2:k≤60):
    10^(m+ldel (ds.take m) k - 1)≤worth (ds.take m)*2^k∧worth (ds.take m)*2^k<10^(m+ldel (ds.take m) k):=by
  have R:=tab_row h1 h2
  have hlow:=h.low h0
  have hD:=h.digs
  have htl:=h.tlen
  have hlt:=worth_lt hD
  rw [htl] at hlt
  have hk:(0:Nat)<2^k:=Nat.pow_pos (by decide)
  unfold ldel
  generalize deltas.getD k 0=d at*
  have e1:worth (five k)*10^m*2^k=10^(m+k):=by
    rw [R.worth,Nat.mul_right_comm,←Nat.mul_pow,show 5*2=10 from rfl,←Nat.pow_add,Nat.add_comm]
  have hp:(0:Nat)<10^(five k).length:=Nat.pow_pos (by decide)
  have hlen:=R.len
  have hd1:=R.pos
  cases hpl:pless (ds.take m) (five k) with
  | true =>
    simp only [if_true]
    have h3:=pless_true hD R.digs R.last hpl
    rw [htl] at h3
    refine ⟨?_,?_⟩
    · have:=Nat.mul_le_mul hlow R.low
      rw [←Nat.pow_add,show m - 1+(d - 1)=m+(d - 1) - 1 by omega] at this
      exact this
    · have h4:=Nat.mul_lt_mul_of_pos_right h3 hk
      rw [e1,Nat.mul_right_comm,show m+k=(m+(d - 1))+(five k).length by omega,Nat.pow_add] at h4
      exact Nat.lt_of_mul_lt_mul_right h4
  | false =>
    simp only [Bool.false_eq_true,if_false]
    have h3:=pless_false hD R.digs hpl
    rw [htl] at h3
    refine ⟨?_,?_⟩
    · have h4:=Nat.mul_le_mul_right (2^k) h3
      rw [e1,Nat.mul_right_comm (worth _),show m+k=(m+d - 1)+(five k).length by omega,Nat.pow_add] at h4
      exact Nat.le_of_mul_le_mul_right h4 hp
    · have h5:worth (ds.take m)*2^k<10^m*2^k:=Nat.mul_lt_mul_of_pos_right hlt hk
      have h6:10^m*2^k<10^m*10^d:=Nat.mul_lt_mul_of_pos_left R.big (Nat.pow_pos (by decide))
      rw [Nat.pow_add]
      omega
theorem carry_lt {X n p v:Nat}{out:Str}(hX:X<10^p) (he:X=n*10^out.length+worth out) (hl:out.length+v=p):n<10^v:=by
  have h1:n*10^out.length<10^v*10^out.length:=by rw [←Nat.pow_add,Nat.add_comm v,hl];omega
  exact Nat.lt_of_mul_lt_mul_right h1
theorem carry_ge {X n p v:Nat}{out:Str}(hX:10^(p - 1)≤X) (he:X=n*10^out.length+worth out) (hd:Digs out) (hl:out.length+v=p) (hv:1≤v):10^(v - 1)≤n:=by
  have h0:=worth_lt hd
  have h1:10^(v - 1)*10^out.length<(n+1)*10^out.length:=by
    rw [←Nat.pow_add,show v - 1+out.length=p - 1 by omega,Nat.add_mul]
    omega
  have:=Nat.lt_of_mul_lt_mul_right h1
  omega
theorem Dec.of_out {arr out:Str}{ds:Str}{m':Nat}(hA:Arr ds arr 0 out) (hd:Digs out) (hh:out.head?≠some 48) (h0:out≠ []) (hle:m'≤min 800 out.length)
    (hz:∀ j,m'≤j→j<min 800 out.length→arr[j]?=some 48):Dec arr m'∧0<m'∧arr.take (min 800 out.length)=out.take (min 800 out.length)∧arr[0]?=out.head?:=by
  have hpos:0<out.length:=List.length_pos_iff.2 h0
  have hall:∀ j,j<800→j<out.length→arr[j]?=out[j]?:=fun j h1 h2=>by
    have:=hA.high j _ (List.getElem?_eq_getElem h2) (by omega)
    rw [Nat.zero_add] at this
    rw [this,List.getElem?_eq_getElem h2]
  have hfirst:arr[0]?=out.head?:=by rw [hall 0 (by omega) hpos,List.head?_eq_getElem?]
  have hm:0<m':=by
    rcases Nat.eq_zero_or_pos m' with h | h
    · have:=hz 0 (by omega) (by omega)
      rw [hfirst] at this
      exact absurd this hh
    · exact h
  have htk:∀ n,n≤min 800 out.length→arr.take n=out.take n:=by
    intro n hn
    apply List.ext_getElem?
    intro j
    rw [List.getElem?_take,List.getElem?_take]
    split
    · exact hall j (by omega) (by omega)
    · rfl
  refine ⟨⟨hA.len,by omega,?_,fun _=>by rw [hfirst];exact hh⟩,hm,htk _ (Nat.le_refl _),hfirst⟩
  rw [htk _ hle]
  exact hd.take m'
theorem head_of_worth {out:Str}{p:Nat}(hd:Digs out) (hl:out.length=p) (h0:0<p) (hw:10^(p - 1)≤worth out):∃ c r,out=c::r∧isDig c=true∧c≠48∧dg c=worth out / 10^(p - 1):=by
  cases out with
  | nil=>simp at hl;omega
  | cons c r =>
    have hr:=worth_lt hd.tail
    simp only [List.length_cons] at hl
    rw [show p - 1=r.length by omega] at hw ⊢
    have hp:(0:Nat)<10^r.length:=Nat.pow_pos (by decide)
    refine ⟨c,r,rfl,hd.head,?_,?_⟩
    · rintro rfl
      simp only [worth,show dg 48=0 from rfl] at hw
      omega
    · simp only [worth]
      rw [Nat.add_comm,Nat.add_mul_div_right _ _ hp,Nat.div_eq_of_lt hr,Nat.zero_add]
theorem left_grows {ds out:Str}{m k:Nat}(h:Dec ds m) (h0:0<m) (h1:1≤k) (hd:Digs out) (hl:out.length=m) (hw:worth out=worth (ds.take m)*2^k):
    ∃ c c' r,ds[0]?=some c∧out=c'::r∧isDig c=true∧isDig c'=true∧c≠48∧dg c<dg c':=by
  have hlow:=h.low h0
  obtain ⟨c,r,e,hc,hn,hc0,hl0⟩:=h.first h0
  have h2k:2≤2^k:=by
    have:=Nat.pow_le_pow_right (show 0<2 by decide) h1
    simpa using this
  have hge:worth (ds.take m)*2≤worth out:=by rw [hw];exact Nat.mul_le_mul_left _ h2k
  obtain ⟨c',r',rfl,hc',hn',hq⟩:=head_of_worth (p:=m) hd hl h0 (by omega)
  have hp:(0:Nat)<10^(m - 1):=Nat.pow_pos (by decide)
  have h3:dg c*10^(m - 1)≤worth (ds.take m):=by
    rw [e,show m - 1=r.length by omega];simp [worth]
  have h4:dg c*2≤dg c':=by
    rw [hq,Nat.le_div_iff_mul_le hp]
    have:dg c*2*10^(m - 1)=dg c*10^(m - 1)*2:=by rw [Nat.mul_right_comm]
    omega
  have h5:1≤dg c:=by
    have h6:=dig_rng hc
    have h7:c.toNat≠48:=fun e=>hn (UInt8.toNat_inj.1 e)
    unfold dg;omega
  exact ⟨c,c',r',hc0,rfl,hc,hc',hn,by omega⟩

end Js