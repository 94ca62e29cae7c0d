/- Part 20 of the proof of FnJrTyped: the statement Rows.FnJrTypedCardSaid; no further condition. -/
import Derived.Test.YtelonenjneonlaaGreatDoorR19
set_option linter.all false
set_option maxRecDepth 100000
namespace Go.Sx
open Go.RowKit Go.Proofs Js Go.Proofs.YtelonenjneonlaaGreatDoorW.PrintWords
theorem clone_walk (s:Str) (hs:s.length≤2^41) (w0:World):
    Calls Tryz.prog 159 #[.string (mkS s)] w0 (Ret fun v w'=>v= .string (mkS s)∧Below w0.heap.size w0 w'):=by
 have hM:=MS0 w0
 refine enter (l:=[.string (mkS s)]) 17 Tryz.func159 rfl rfl (Sq (Rg (Md 1 [0] rfl (Nx (Sq (Sq (Rg (Md 3 [0,6] rfl (Nx (Cd rfl (fun ht=> ?_) ((fun ht=> ?_))))))))))))
 ·
  have h0:s=[]:=by have:=ht;simp at this;exact this
  subst h0
  exact Sq (Rg (Md 1 [2] rfl (Nx (Re (Rt (Y1 rfl rfl ⟨_,rfl,rfl,hM.below⟩))))))
 have h0:s≠ []:=by have:=ht;simp at this;exact this
 have hpos:0<s.length:=List.length_pos_iff.2 h0
 refine Sk (Nx (Sq (Rg (Mv 2 rfl ?_))));intro a hF
 refine op_makeN hF hM rfl s.length rfl rfl rfl rfl rfl rfl rfl (by omega) ?_;clear hF hM a;intro a w b vs hF hvl hM
 revert a;refine Md 1 [0,3] rfl (Nx (Sq (Rg (Mv 2 rfl ?_))));intro a hF
 refine op_copyStr hF hM rfl rfl rfl rfl rfl rfl hvl ?_;clear hF hM a;intro a w vn hF hM
 revert a;refine Md 0 [3] rfl (Nx (Sq (Rg (Mv 1 rfl (Gv rfl (fun _ hF=>gives_indexAddr0 0 hF rfl Tryz.underlying66 (by kernel_rfl) rfl rfl rfl hpos _) (Mv 2 rfl ?_))))));intro a hF
 refine op_unsafeStr hF hM rfl rfl rfl rfl rfl rfl h0 (by omega) ?_;clear hF hM a;intro a w hF hM
 revert a;exact Md 1 [2] rfl (Nx (Re (Y1 rfl rfl ⟨_,rfl,rfl,hM.below⟩)))
theorem rangeErr2_walk {ea:Nat→Addr}(q s:Str) (hs:s.length≤2^41) (w0:World) (hJ:JB ea w0.heap.size w0):
    Calls Tryz.prog 131 #[.string (mkS q),.string (mkS s)] w0 (Ret fun v w'=>∃ k,v= .pointer (some ⟨k,0,none⟩)∧Mem w0.heap.size w0 [(k,102,[.string (mkS q),.string (mkS s),EV (ea 10)])] w'):=by
 have hM:=MS0 w0
 refine enter (l:=[.string (mkS q),.string (mkS s)]) 9 Tryz.func131 rfl rfl (Sq (Rg (Md 1 [0,1] rfl (Nx (Sq ?_)))));intro a hF
 refine draw (by kernel_rfl) ?_
 replace hM:=hM.drew
 have hg:10<(World.drew w0).heap.size:=by have:=(hJ.mem hM).lt;omega
 refine take 0 hF rfl (by kernel_rfl) (by kernel_rfl) (by kernel_rfl) (fun _ _ _ h=>h) rfl rfl rfl (gives_move hF rfl rfl) ?_;clear hF a;intro a hF
 refine take 1 hF rfl (by kernel_rfl) (by kernel_rfl) (by kernel_rfl) (fun _ _ _ h=>h) rfl rfl rfl (gives_move hF rfl rfl) ?_;clear hF a;intro a hF
 refine call_and_load 2 3 (by decide) hF hM rfl rfl (by kernel_rfl) (by kernel_rfl) (by kernel_rfl) rfl rfl rfl rfl rfl rfl (by decide) rfl Tryz.func159 (by kernel_rfl) rfl rfl (fun _=>rfl) rfl Tryz.underlying63 rfl (((hJ.mem hM).errs 10 (by omega)).1) hg (clone_walk s hs _) ?_
 clear hF hM a;intro a w v hR hF hM
 obtain rfl:=hR
 refine take 4 hF rfl (by kernel_rfl) (by kernel_rfl) (by kernel_rfl) (fun _ _ _ h=>h) rfl rfl rfl (gives_build (vals:=[(0,.string (mkS q)),(1,.string (mkS s)),(2,EV (ea 10))]) (cells:=[.string (mkS q),.string (mkS s),EV (ea 10)]) hF rfl rfl (by kernel_rfl)) ?_;clear hF a;intro a hF
 refine only_box 5 hF hM rfl (by kernel_rfl) rfl rfl rfl rfl rfl rfl ?_;clear hF hM a;intro a w bx hF hM
 refine take 6 hF rfl (by kernel_rfl) (by kernel_rfl) (by kernel_rfl) (fun _ _ _ h=>h) rfl rfl rfl (gives_assign hF rfl rfl) ?_;clear hF a;intro a hF
 refine drawn (h0:=by kernel_rfl) ?_
 revert a;exact Kp [4] rfl (Nx (Re (Y1 rfl rfl ⟨_,rfl,_,rfl,hM⟩)))
theorem syntaxErr2_walk {ea:Nat→Addr}(q s:Str) (hs:s.length≤2^41) (w0:World) (hJ:JB ea w0.heap.size w0):
    Calls Tryz.prog 130 #[.string (mkS q),.string (mkS s)] w0 (Ret fun v w'=>∃ k,v= .pointer (some ⟨k,0,none⟩)∧Mem w0.heap.size w0 [(k,102,[.string (mkS q),.string (mkS s),EV (ea 11)])] w'):=by
 have hM:=MS0 w0
 refine enter (l:=[.string (mkS q),.string (mkS s)]) 9 Tryz.func130 rfl rfl (Sq (Rg (Md 1 [0,1] rfl (Nx (Sq ?_)))));intro a hF
 refine draw (by kernel_rfl) ?_
 replace hM:=hM.drew
 have hg:14<(World.drew w0).heap.size:=by have:=(hJ.mem hM).lt;omega
 refine take 0 hF rfl (by kernel_rfl) (by kernel_rfl) (by kernel_rfl) (fun _ _ _ h=>h) rfl rfl rfl (gives_move hF rfl rfl) ?_;clear hF a;intro a hF
 refine take 1 hF rfl (by kernel_rfl) (by kernel_rfl) (by kernel_rfl) (fun _ _ _ h=>h) rfl rfl rfl (gives_move hF rfl rfl) ?_;clear hF a;intro a hF
 refine call_and_load 2 3 (by decide) hF hM rfl rfl (by kernel_rfl) (by kernel_rfl) (by kernel_rfl) rfl rfl rfl rfl rfl rfl (by decide) rfl Tryz.func159 (by kernel_rfl) rfl rfl (fun _=>rfl) rfl Tryz.underlying63 rfl ((hJ.mem hM).syn.1) hg (clone_walk s hs _) ?_
 clear hF hM a;intro a w v hR hF hM
 obtain rfl:=hR
 refine take 4 hF rfl (by kernel_rfl) (by kernel_rfl) (by kernel_rfl) (fun _ _ _ h=>h) rfl rfl rfl (gives_build (vals:=[(0,.string (mkS q)),(1,.string (mkS s)),(2,EV (ea 11))]) (cells:=[.string (mkS q),.string (mkS s),EV (ea 11)]) hF rfl rfl (by kernel_rfl)) ?_;clear hF a;intro a hF
 refine only_box 5 hF hM rfl (by kernel_rfl) rfl rfl rfl rfl rfl rfl ?_;clear hF hM a;intro a w bx hF hM
 refine take 6 hF rfl (by kernel_rfl) (by kernel_rfl) (by kernel_rfl) (fun _ _ _ h=>h) rfl rfl rfl (gives_assign hF rfl rfl) ?_;clear hF a;intro a hF
 refine drawn (h0:=by kernel_rfl) ?_
 revert a;exact Kp [4] rfl (Nx (Re (Y1 rfl rfl ⟨_,rfl,_,rfl,hM⟩)))
theorem toError2_walk {ea:Nat→Addr}(q s:Str) (hs:s.length≤2^41) (x y k:Int) (hk:k=1∨k=2) (w0:World) (hJ:JB ea w0.heap.size w0):
    Calls Tryz.prog 87 #[.string (mkS q),.string (mkS s),.int .i64 x,.int .i64 y,.iface 168 (.int .i64 k)] w0 (Ret fun v w'=>∃ b,v= .iface 99 (.pointer (some ⟨b,0,none⟩))∧Mem w0.heap.size w0 [(b,102,[.string (mkS q),.string (mkS s),EV (ea (if k=1 then 10 else 11))])] w'):=by
 have hM:=MS0 w0
 refine enter (l:=[.string (mkS q),.string (mkS s),.int .i64 x,.int .i64 y,.iface 168 (.int .i64 k)]) 38 Tryz.func87 rfl rfl (Sq (Rg (Md 1 [0,1,2,3,4] rfl (Nx (Sq (Sq (Rg (Md 1 [0,1,2,3,4,11] rfl (Nx (Bo (Sq ?_)))))))))))
 rcases hk with rfl | rfl
 ·
  refine Rg (Gv rfl (fun _ hF=>gives_mkIface hF rfl Tryz.underlying168 rfl rfl _) (Gv rfl (fun _ hF=>gives_eqErr hF rfl rfl rfl _) (Md 1 [0,1,2,3,4,11,12] rfl (Nx (C1 rfl (fun ht=>absurd ht (by decide)) (Sq (Rg (Gv rfl (fun _ hF=>gives_mkIface hF rfl Tryz.underlying168 rfl rfl _) (Gv rfl (fun _ hF=>gives_eqErr hF rfl rfl rfl _) (Md 1 [0,1,2,3,4,11,19] rfl (Nx (D2 rfl (fun ht=>absurd ht (by decide)) (Sq (Rg (Mv 2 rfl ?_)))))))))))))));intro a hF
  refine op_call hF rfl rfl rfl rfl Tryz.func131 (by kernel_rfl) rfl rfl (rangeErr2_walk q s hs _ hJ) ?_
  clear hF a;intro a w' v hR hF
  obtain ⟨ad,rfl,hM2⟩:=hR
  revert a;exact Gv rfl (fun _ hF=>gives_mkIface hF rfl Tryz.underlying99 rfl rfl _) (Md 1 [10] rfl (Nx (Re (Rb (Rt (Y1 rfl rfl ⟨_,rfl,_,rfl,hM2⟩))))))
 refine Rg (Gv rfl (fun _ hF=>gives_mkIface hF rfl Tryz.underlying168 rfl rfl _) (Gv rfl (fun _ hF=>gives_eqErr hF rfl rfl rfl _) (Md 1 [0,1,2,3,4,11,12] rfl (Nx (D2 rfl (fun ht=>absurd ht (by decide)) (Sq (Rg (Mv 2 rfl ?_))))))));intro a hF
 refine op_call hF rfl rfl rfl rfl Tryz.func130 (by kernel_rfl) rfl rfl (syntaxErr2_walk q s hs _ hJ) ?_
 clear hF a;intro a w' v hR hF
 obtain ⟨ad,rfl,hM2⟩:=hR
 revert a;exact Gv rfl (fun _ hF=>gives_mkIface hF rfl Tryz.underlying99 rfl rfl _) (Md 1 [10] rfl (Nx (Re (Rb (Rt (Y1 rfl rfl ⟨_,rfl,_,rfl,hM2⟩))))))
theorem prefix64x_walk {s:Str}{neg:Bool}{I fd E:Str}{k k':Int}(hf:NumForm s neg I fd E k) (hx:ExCap E k') (hs:s.length≤2^40) (hn:∀ c∈s,numc c=true) (w0:World) (hV:TabX w0.heap.size w0):
    Calls Tryz.prog 174 #[.string (mkS s),.int .i64 64] w0 (Ret fun v w'=>(∃ (f:Nat) (er:Value),v= .tuple #[.float .f64 f,.int .i64 (s.length:Int),er]∧Tel neg I fd k' er)∧Below w0.heap.size w0 w'):=by
 have hM:=MS0 w0
 refine enter (l:=[.string (mkS s),.int .i64 64]) 25 Tryz.func174 rfl rfl (Sq (Rg (Md 3 [0,1] rfl (Nx (Sq (Sq (Rg (Md 2 [0,11] rfl (Nx (C1 rfl (fun ht=>absurd ht (by decide)) (Sk (Nx (Sq (Rg (Mv 1 rfl (Cm hM rfl rfl rfl (atof64x_walk hf hx hs hn _ hV) ?_))))))))))))))))
 clear hM;intro w v hR hM hBe
 obtain ⟨f,er,rfl,her⟩:=hR
 exact Md 6 [4,5,6] rfl (Nx (Re (Y3 rfl rfl rfl rfl ⟨_,rfl,⟨_,_,rfl,her⟩,hM.below⟩)))
theorem inner64x_walk {s:Str}{neg:Bool}{I fd E:Str}{k k':Int}(hf:NumForm s neg I fd E k) (hx:ExCap E k') (hs:s.length≤2^40) (hn:∀ c∈s,numc c=true) (w0:World) (hV:TabX w0.heap.size w0):
    Calls Tryz.prog 151 #[.string (mkS s),.int .i64 64] w0 (Ret fun v w'=>(∃ (f:Nat) (er:Value),v= .tuple #[.float .f64 f,er]∧Tel neg I fd k' er)∧Below w0.heap.size w0 w'):=by
 have hM:=MS0 w0
 refine enter (l:=[.string (mkS s),.int .i64 64]) 21 Tryz.func151 rfl rfl (Sq (Rg (Md 2 [0,1] rfl (Nx (Sq (Rg (Mv 2 rfl (Cm hM rfl rfl rfl (prefix64x_walk hf hx hs hn _ hV) ?_))))))))
 clear hM;intro w v hR hM hBe
 obtain ⟨f,er,rfl,her⟩:=hR
 refine Md 7 [0,6,7,8] rfl (Nx (Sq (Sq (Rg (Md 4 [6,8,19] rfl (Nx (C1 rfl (fun ht=> ?_) ?_)))))))
 ·
  intro a hF
  simp at ht
 exact Sk (Nx (Sq (Rg (Md 4 [4,5] rfl (Nx (Re (Y2 rfl rfl rfl ⟨_,rfl,⟨_,_,rfl,her⟩,hM.below⟩)))))))
def Tel2 (neg:Bool) (I fd:Str) (k':Int) (er:Value):Prop:=(er= .nilIface∧ ¬ ErrX neg I fd k')∨(∃ u,er= .iface 99 u∧ErrX neg I fd k')
theorem parseFloatx_walk {ea:Nat→Addr}{s:Str}{neg:Bool}{I fd E:Str}{k k':Int}(hf:NumForm s neg I fd E k) (hx:ExCap E k') (hs:s.length≤2^40) (hn:∀ c∈s,numc c=true) (w0:World) (hV:TabX w0.heap.size w0) (hJ:JB ea w0.heap.size w0):
    Calls Tryz.prog 124 #[.string (mkS s),.int .i64 64] w0 (Ret fun v w'=>(∃ (f:Nat) (e:Value),v= .tuple #[.float .f64 f,e]∧Tel2 neg I fd k' e)∧Below w0.heap.size w0 w'):=by
 have hM:=MS0 w0
 refine enter (l:=[.string (mkS s),.int .i64 64]) 20 Tryz.func124 rfl rfl (Sq (Rg (Md 2 [0,1] rfl (Nx (Sq (Rg (Mv 2 rfl (Cm hM rfl rfl rfl (inner64x_walk hf hx hs hn _ hV) ?_))))))))
 clear hM;intro w v hR hM hBe
 obtain ⟨f,er,rfl,her⟩:=hR
 refine Md 5 [0,1,6,7] rfl (Nx (Sq (Sq ?_)))
 rcases her with ⟨rfl,hno⟩ | ⟨rfl,hyes⟩
 ·
  refine Rg (Mv 1 rfl ?_);intro a hF
  refine op_neNil hF rfl rfl rfl rfl rfl ⟨_,Tryz.underlying63⟩ ?_;clear hF a;intro a hF
  revert a;exact Md 0 [0,1,6,7,15] rfl (Nx (Cf rfl (Sk (Nx (Sq (Rg (Md 3 [4,5] rfl (Nx (Re (Y2 rfl rfl rfl ⟨_,rfl,⟨_,_,rfl,.inl ⟨rfl,hno⟩⟩,hM.below⟩))))))))))
 refine Rg (Mv 1 rfl (Gv rfl (fun _ hF=>gives_neNil1 hF rfl rfl _) (Md 0 [0,1,6,7,15] rfl (Nx (Ct rfl (Sq (Rg (Mv 4 rfl ?_))))))));intro a hF
 refine op_call hF rfl rfl rfl rfl Tryz.func87 (by kernel_rfl) rfl rfl (toError2_walk [80,97,114,115,101,70,108,111,97,116] s (by omega) _ _ 1 (.inl rfl) _ (hJ.mem hM)) ?_
 clear hF a;intro a w' v hR hF
 obtain ⟨ad,rfl,hM2⟩:=hR
 replace hM:=hM.step hM2.below
 revert a;exact Md 2 [4,5] rfl (Nx (Re (Rt (Y2 rfl rfl rfl ⟨_,rfl,⟨_,_,rfl,.inr ⟨_,rfl,hyes⟩⟩,hM.below⟩))))
abbrev errV:Option Addr→Value
  | none=> .nilIface
  | some x=>EV x
def codeOf (ea:Nat→Addr):Option Addr→Nat
  | none=>0
  | some x=>kindOf ea x
theorem jrKind_walk {ea:Nat→Addr}(e:Option Addr) (w0:World) (hJ:JB ea w0.heap.size w0) (hc:∀ x,e=some x→∃ ca ta,w0.heap[x.block]?=some (.cells ca ta (0,0))):
    Calls Tryz.prog 34 #[errV e] w0 (Ret fun v w'=>v= .int .i64 ((codeOf ea e:Nat):Int)∧Below w0.heap.size w0 w'):=by
 have hM:=MS0 w0
 refine enter (l:=[errV e]) 45 Tryz.func34 rfl rfl (Sq (Rg (Md 1 [0] rfl (Nx (Sq (Bo (Sq ?_)))))))
 rcases e with _ | x
 · exact Rg (Mv 1 rfl (Gv rfl (fun _ hF=>gives_isNil hF (.inl rfl) rfl rfl ⟨_,Tryz.underlying63⟩ true rfl) (Md 1 [0,3] rfl (Nx (Ct rfl (Sq (Rg (Md 1 [2] rfl (Nx (Re (Rb (Rt (Y1 rfl rfl ⟨_,rfl,rfl,hM.below⟩)))))))))))))
 have hx:∀ {w:World},Below w0.heap.size w0 w→∃ ca ta,w.heap[x.block]?=some (.cells ca ta (0,0)):=fun {w} hb=>by obtain ⟨ca,ta,h⟩:=hc x rfl;exact ⟨ca,ta,(hb.block _ (by rcases Nat.lt_or_ge x.block w0.heap.size with h9 | h9;exact h9;rw [Array.getElem?_eq_none h9] at h;cases h)).trans h⟩
 skip
 refine Rg (Mv 1 rfl (Gv rfl (fun _ hF=>gives_isErr (u:=118) (v:= .pointer (some x)) hF (.inl rfl) rfl rfl ⟨_,Tryz.underlying63⟩ false rfl) (Md 1 [0,3] rfl (Nx (Cf rfl (Sq (Rg (Mv 1 rfl (Gv rfl (fun _ hF=>gives_load1 hF rfl Tryz.underlying63 rfl rfl (((hJ.mem hM).errs 1 (by omega)).1)) (Gv rfl (fun _ hF=>gives_eqEV hF rfl rfl rfl (hx hM.below) ((hJ.mem hM).cel 1 (by omega))) (Md 1 [0,6] rfl (Nx (Cd rfl (fun ht=> ?_) ((fun ht=> ?_)))))))))))))))
 ·
  have hkk:codeOf ea (some x)=1:=by show kindOf ea x=_;unfold kindOf;rw [if_pos (of_decide_eq_true ht)]
  exact Sq (Rg (Md 1 [2] rfl (Nx (Re (Rb (Rt (Y1 rfl rfl ⟨_,rfl,by rw [hkk];rfl,hM.below⟩)))))))
 have m0:=of_decide_eq_false ht
 refine Sq (Rg (Mv 1 rfl (Gv rfl (fun _ hF=>gives_load1 hF rfl Tryz.underlying63 rfl rfl (((hJ.mem hM).errs 2 (by omega)).1)) (Gv rfl (fun _ hF=>gives_eqEV hF rfl rfl rfl (hx hM.below) ((hJ.mem hM).cel 2 (by omega))) (Md 1 [0,10] rfl (Nx (Cd rfl (fun ht=> ?_) ((fun ht=> ?_)))))))))
 ·
  have hkk:codeOf ea (some x)=2:=by show kindOf ea x=_;unfold kindOf;rw [if_neg m0,if_pos (of_decide_eq_true ht)]
  exact Sq (Rg (Md 1 [2] rfl (Nx (Re (Rb (Rt (Y1 rfl rfl ⟨_,rfl,by rw [hkk];rfl,hM.below⟩)))))))
 have m1:=of_decide_eq_false ht
 refine Sq (Rg (Mv 1 rfl (Gv rfl (fun _ hF=>gives_load1 hF rfl Tryz.underlying63 rfl rfl (((hJ.mem hM).errs 3 (by omega)).1)) (Gv rfl (fun _ hF=>gives_eqEV hF rfl rfl rfl (hx hM.below) ((hJ.mem hM).cel 3 (by omega))) (Md 1 [0,14] rfl (Nx (Cd rfl (fun ht=> ?_) ((fun ht=> ?_)))))))))
 ·
  have hkk:codeOf ea (some x)=3:=by show kindOf ea x=_;unfold kindOf;rw [if_neg m0,if_neg m1,if_pos (of_decide_eq_true ht)]
  exact Sq (Rg (Md 1 [2] rfl (Nx (Re (Rb (Rt (Y1 rfl rfl ⟨_,rfl,by rw [hkk];rfl,hM.below⟩)))))))
 have m2:=of_decide_eq_false ht
 refine Sq (Rg (Mv 1 rfl (Gv rfl (fun _ hF=>gives_load1 hF rfl Tryz.underlying63 rfl rfl (((hJ.mem hM).errs 4 (by omega)).1)) (Gv rfl (fun _ hF=>gives_eqEV hF rfl rfl rfl (hx hM.below) ((hJ.mem hM).cel 4 (by omega))) (Md 1 [0,18] rfl (Nx (Cd rfl (fun ht=> ?_) ((fun ht=> ?_)))))))))
 ·
  have hkk:codeOf ea (some x)=4:=by show kindOf ea x=_;unfold kindOf;rw [if_neg m0,if_neg m1,if_neg m2,if_pos (of_decide_eq_true ht)]
  exact Sq (Rg (Md 1 [2] rfl (Nx (Re (Rb (Rt (Y1 rfl rfl ⟨_,rfl,by rw [hkk];rfl,hM.below⟩)))))))
 have m3:=of_decide_eq_false ht
 refine Sq (Rg (Mv 1 rfl (Gv rfl (fun _ hF=>gives_load1 hF rfl Tryz.underlying63 rfl rfl (((hJ.mem hM).errs 5 (by omega)).1)) (Gv rfl (fun _ hF=>gives_eqEV hF rfl rfl rfl (hx hM.below) ((hJ.mem hM).cel 5 (by omega))) (Md 1 [0,22] rfl (Nx (Cd rfl (fun ht=> ?_) ((fun ht=> ?_)))))))))
 ·
  have hkk:codeOf ea (some x)=5:=by show kindOf ea x=_;unfold kindOf;rw [if_neg m0,if_neg m1,if_neg m2,if_neg m3,if_pos (of_decide_eq_true ht)]
  exact Sq (Rg (Md 1 [2] rfl (Nx (Re (Rb (Rt (Y1 rfl rfl ⟨_,rfl,by rw [hkk];rfl,hM.below⟩)))))))
 have m4:=of_decide_eq_false ht
 refine Sq (Rg (Mv 1 rfl (Gv rfl (fun _ hF=>gives_load1 hF rfl Tryz.underlying63 rfl rfl (((hJ.mem hM).errs 6 (by omega)).1)) (Gv rfl (fun _ hF=>gives_eqEV hF rfl rfl rfl (hx hM.below) ((hJ.mem hM).cel 6 (by omega))) (Md 1 [0,26] rfl (Nx (Cd rfl (fun ht=> ?_) ((fun ht=> ?_)))))))))
 ·
  have hkk:codeOf ea (some x)=6:=by show kindOf ea x=_;unfold kindOf;rw [if_neg m0,if_neg m1,if_neg m2,if_neg m3,if_neg m4,if_pos (of_decide_eq_true ht)]
  exact Sq (Rg (Md 1 [2] rfl (Nx (Re (Rb (Rt (Y1 rfl rfl ⟨_,rfl,by rw [hkk];rfl,hM.below⟩)))))))
 have m5:=of_decide_eq_false ht
 refine Sq (Rg (Mv 1 rfl (Gv rfl (fun _ hF=>gives_load1 hF rfl Tryz.underlying63 rfl rfl (((hJ.mem hM).errs 7 (by omega)).1)) (Gv rfl (fun _ hF=>gives_eqEV hF rfl rfl rfl (hx hM.below) ((hJ.mem hM).cel 7 (by omega))) (Md 1 [0,30] rfl (Nx (Cd rfl (fun ht=> ?_) ((fun ht=> ?_)))))))))
 ·
  have hkk:codeOf ea (some x)=7:=by show kindOf ea x=_;unfold kindOf;rw [if_neg m0,if_neg m1,if_neg m2,if_neg m3,if_neg m4,if_neg m5,if_pos (of_decide_eq_true ht)]
  exact Sq (Rg (Md 1 [2] rfl (Nx (Re (Rb (Rt (Y1 rfl rfl ⟨_,rfl,by rw [hkk];rfl,hM.below⟩)))))))
 have m6:=of_decide_eq_false ht
 refine Sq (Rg (Mv 1 rfl (Gv rfl (fun _ hF=>gives_load1 hF rfl Tryz.underlying63 rfl rfl (((hJ.mem hM).errs 8 (by omega)).1)) (Gv rfl (fun _ hF=>gives_eqEV hF rfl rfl rfl (hx hM.below) ((hJ.mem hM).cel 8 (by omega))) (Md 1 [0,34] rfl (Nx (Cd rfl (fun ht=> ?_) ((fun ht=> ?_)))))))))
 ·
  have hkk:codeOf ea (some x)=8:=by show kindOf ea x=_;unfold kindOf;rw [if_neg m0,if_neg m1,if_neg m2,if_neg m3,if_neg m4,if_neg m5,if_neg m6,if_pos (of_decide_eq_true ht)]
  exact Sq (Rg (Md 1 [2] rfl (Nx (Re (Rb (Rt (Y1 rfl rfl ⟨_,rfl,by rw [hkk];rfl,hM.below⟩)))))))
 have m7:=of_decide_eq_false ht
 refine Sq (Rg (Mv 1 rfl (Gv rfl (fun _ hF=>gives_load1 hF rfl Tryz.underlying63 rfl rfl (((hJ.mem hM).errs 9 (by omega)).1)) (Gv rfl (fun _ hF=>gives_eqEV hF rfl rfl rfl (hx hM.below) ((hJ.mem hM).cel 9 (by omega))) (Md 1 [0,38] rfl (Nx (Cd rfl (fun ht=> ?_) ((fun ht=> ?_)))))))))
 ·
  have hkk:codeOf ea (some x)=9:=by show kindOf ea x=_;unfold kindOf;rw [if_neg m0,if_neg m1,if_neg m2,if_neg m3,if_neg m4,if_neg m5,if_neg m6,if_neg m7,if_pos (of_decide_eq_true ht)]
  exact Sq (Rg (Md 1 [2] rfl (Nx (Re (Rb (Rt (Y1 rfl rfl ⟨_,rfl,by rw [hkk];rfl,hM.below⟩)))))))
 have m8:=of_decide_eq_false ht
 refine Sq (Rg (Mv 1 rfl (Gv rfl (fun _ hF=>gives_load1 hF rfl Tryz.underlying63 rfl rfl (((hJ.mem hM).errs 0 (by omega)).1)) (Gv rfl (fun _ hF=>gives_eqEV hF rfl rfl rfl (hx hM.below) ((hJ.mem hM).cel 0 (by omega))) (Md 1 [42] rfl (Nx (Cd rfl (fun ht=> ?_) ((fun ht=> ?_)))))))))
 ·
  have hkk:codeOf ea (some x)=10:=by show kindOf ea x=_;unfold kindOf;rw [if_neg m0,if_neg m1,if_neg m2,if_neg m3,if_neg m4,if_neg m5,if_neg m6,if_neg m7,if_neg m8,if_pos (of_decide_eq_true ht)]
  exact Sq (Rg (Md 1 [2] rfl (Nx (Re (Rb (Rt (Y1 rfl rfl ⟨_,rfl,by rw [hkk];rfl,hM.below⟩)))))))
 have m9:=of_decide_eq_false ht
 have hkk:codeOf ea (some x)=11:=by show kindOf ea x=_;unfold kindOf;rw [if_neg m0,if_neg m1,if_neg m2,if_neg m3,if_neg m4,if_neg m5,if_neg m6,if_neg m7,if_neg m8,if_neg m9]
 exact Sk (Nb (Nx (Sq (Rg (Md 1 [2] rfl (Nx (Re (Y1 rfl rfl ⟨_,rfl,by rw [hkk];rfl,hM.below⟩))))))))
theorem hex3 {c:UInt8}(h:IsHex c):(48≤c.toNat∧c.toNat≤57∧hv c=c.toNat - 48)∨(57<c.toNat∧65≤c.toNat∧c.toNat≤70∧hv c=c.toNat - 65+10)∨(70<c.toNat∧97≤c.toNat∧c.toNat≤102∧hv c=c.toNat - 97+10):=by
  unfold IsHex at h
  unfold hv
  unfold hexVal at h ⊢
  split at h
  · next h1=>rw [if_pos h1];exact .inl ⟨h1.1,h1.2,rfl⟩
  · next h1=>
    split at h
    · next h2=>rw [if_neg h1,if_pos h2];exact .inr (.inr ⟨by omega,h2.1,h2.2,rfl⟩)
    · next h2=>
      split at h
      · next h3=>rw [if_neg h1,if_neg h2,if_pos h3];exact .inr (.inl ⟨by omega,h3.1,h3.2,rfl⟩)
      · simp at h
theorem h2I_walk (c:UInt8) (hx:IsHex c) (w0:World):Calls Tryz.prog 221 #[.int .u8 (c.toNat:Int)] w0 (Ret fun v w'=>v= .int .i64 ((hv c:Nat):Int)∧Below w0.heap.size w0 w'):=by
 have hM:=MS0 w0
 refine enter (l:=[.int .u8 (c.toNat:Int)]) 31 Tryz.func221 rfl rfl (Sq (Rg (Md 1 [0] rfl (Nx (Sq (Sq ?_))))))
 rcases hex3 hx with ⟨h1,h2,h3⟩ | ⟨h0,h1,h2,h3⟩ | ⟨h0,h1,h2,h3⟩
 ·
  refine Rg (Mv 1 rfl (Bt rfl (by omega) (Mv 2 rfl (Bt rfl (by omega) (Md 1 [0,8] rfl (Nx (Ct rfl (Sq (Rg (Mv 1 rfl ?_))))))))));intro a hF
  refine op_sum hF rfl (((c.toNat - 48:Nat):Int)) rfl rfl rfl rfl rfl rfl (by omega) (IntWalk.u8_in _ ⟨by omega,by omega⟩) ?_;clear hF a;intro a hF
  refine op_conv_to hF rfl rfl rfl rfl Tryz.underlying5 Tryz.underlying3 rfl (wrap_i64 (by omega) (by omega)) ?_;clear hF a;intro a hF
  revert a;exact Md 1 [2] rfl (Nx (Re (Rt (Y1 rfl rfl ⟨_,rfl,by rw [h3],hM.below⟩))))
 ·
  refine Rg (Mv 1 rfl (Bt rfl (by omega) (Mv 2 rfl (Bf rfl (by omega) (Md 1 [0,8] rfl (Nx (Cf rfl (Sk (Nx (Sq (Sq (Rg (Mv 1 rfl (Bt rfl (by omega) (Mv 2 rfl (Bt rfl (by omega) (Md 1 [0,17] rfl (Nx (Ct rfl (Sq (Rg (Mv 1 rfl ?_))))))))))))))))))))));intro a hF
  refine op_sum hF rfl (((c.toNat - 65:Nat):Int)) rfl rfl rfl rfl rfl rfl (by omega) (IntWalk.u8_in _ ⟨by omega,by omega⟩) ?_;clear hF a;intro a hF
  refine op_conv_to hF rfl rfl rfl rfl Tryz.underlying5 Tryz.underlying3 rfl (wrap_i64 (by omega) (by omega)) ?_;clear hF a;intro a hF
  revert a;exact Sm (((c.toNat - 65+10:Nat):Int)) rfl (by omega) (Md 1 [2] rfl (Nx (Re (Rt (Y1 rfl rfl ⟨_,rfl,by rw [h3],hM.below⟩)))))
 refine Rg (Mv 1 rfl (Bt rfl (by omega) (Mv 2 rfl (Bf rfl (by omega) (Md 1 [0,8] rfl (Nx (Cf rfl (Sk (Nx (Sq (Sq (Rg (Mv 1 rfl (Bt rfl (by omega) (Mv 2 rfl (Bf rfl (by omega) (Md 1 [0,17] rfl (Nx (Cf rfl (Sk (Nx (Sq (Sq (Rg (Mv 1 rfl (Bt rfl (by omega) (Mv 2 rfl (Bt rfl (by omega) (Md 1 [0,27] rfl (Nx (Ct rfl (Sq (Rg (Mv 1 rfl ?_))))))))))))))))))))))))))))))))));intro a hF
 refine op_sum hF rfl (((c.toNat - 97:Nat):Int)) rfl rfl rfl rfl rfl rfl (by omega) (IntWalk.u8_in _ ⟨by omega,by omega⟩) ?_;clear hF a;intro a hF
 refine op_conv_to hF rfl rfl rfl rfl Tryz.underlying5 Tryz.underlying3 rfl (wrap_i64 (by omega) (by omega)) ?_;clear hF a;intro a hF
 revert a;exact Sm (((c.toNat - 97+10:Nat):Int)) rfl (by omega) (Md 1 [2] rfl (Nx (Re (Rt (Y1 rfl rfl ⟨_,rfl,by rw [h3],hM.below⟩)))))
theorem unit_shape {D:Str}{n:Nat}(h:unit D=some n):∃ a b c d r,D=92::117::a::b::c::d::r∧IsHex a∧IsHex b∧IsHex c∧IsHex d∧n=hv a*4096+hv b*256+hv c*16+hv d:=by
  rcases unit_parts D with ⟨_,e⟩ | ⟨_,_,_,_,_,e⟩ | ⟨_,_,_,_,_,e⟩ | ⟨a,b,c,d,r,rfl,e⟩
  · rw [e] at h;cases h
  · rw [e] at h;cases h
  · rw [e] at h;cases h
  · rw [e] at h
    refine ⟨a,b,c,d,r,rfl,?_⟩
    unfold hex4 at h
    split at h
    · next w x y z ha hb hc hd=>
      refine ⟨by unfold IsHex;rw [ha];rfl,by unfold IsHex;rw [hb];rfl,by unfold IsHex;rw [hc];rfl,by unfold IsHex;rw [hd];rfl,?_⟩
      have:=Option.some.inj h
      unfold hv
      rw [ha,hb,hc,hd]
      simp only [Option.getD_some]
      omega
    · cases h
theorem shl_h {x:Nat}(k:Nat) (hx:x<16) (hk:k≤12):IntKind.i64.wrap ((x:Int)*2^min k IntKind.i64.bits)=((x*2^k:Nat):Int):=by
  have e:min k IntKind.i64.bits=k:=Nat.min_eq_left (by show k≤64;omega)
  rw [e,show (x:Int)*2^k=((x*2^k:Nat):Int) by simp]
  have h2:x*2^k≤16*2^12:=Nat.mul_le_mul (by omega) (Nat.pow_le_pow_right (by decide) hk)
  exact wrap_i64 (by omega) (by omega)
theorem decSingle_walk {b o cp n:Nat}{D:Str}(hu:unit D=some n) (hl:D.length≤2^40) (w0:World) (hD:Bts w0 b o D):
    Calls Tryz.prog 187 #[.slice (some ⟨b,o,none⟩) D.length cp] w0 (Ret fun v w'=>v= .tuple #[.int .i32 (n:Int),.bool true]∧Below w0.heap.size w0 w'):=by
 have hM:=MS0 w0
 obtain ⟨e2,e3,e4,e5,r,hDe,x2,x3,x4,x5,hn⟩:=unit_shape hu
 have h6:6≤D.length:=by rw [hDe];simp only [List.length_cons];omega
 have hg2:D[2]?=some e2:=by rw [hDe];rfl
 have hg3:D[3]?=some e3:=by rw [hDe];rfl
 have hg4:D[4]?=some e4:=by rw [hDe];rfl
 have hg5:D[5]?=some e5:=by rw [hDe];rfl
 have hv2:=hv_lt x2
 have hv3:=hv_lt x3
 have hv4:=hv_lt x4
 have hv5:=hv_lt x5
 refine enter (l:=[.slice (some ⟨b,o,none⟩) D.length cp]) 51 Tryz.func187 rfl rfl (Sq (Rg (Md 2 [0] rfl (Nx (Sq (Sq (Rg (Md 3 [0,10] rfl (Nx (C1 rfl (fun ht=>absurd (of_decide_eq_true ht) (by omega)) (Sk (Nx (Sq ?_)))))))))))));intro a hF
 refine mix (fun w=>Mem w0.heap.size w0 [] w) 19 (by kernel_rfl) ?_
 replace hM:=hM.drew
 generalize World.drew w0=w at*
 refine mtakeP 0 hF (.inl hM) rfl (by kernel_rfl) (by kernel_rfl) (by kernel_rfl) rfl (fun _ _ _ h=>h) rfl rfl (y_plain rfl (fun w _=>gives_move hF rfl rfl _)) ?_;clear hF a;intro a hF
 refine mtakeP 1 hF (.inl hM) rfl (by kernel_rfl) (by kernel_rfl) (by kernel_rfl) rfl (fun _ _ _ h=>h) rfl rfl (y_plain rfl (fun w _=>gives_indexAddrS (sz:=1) (2) hF rfl Tryz.underlying66 (by kernel_rfl) rfl rfl rfl (by omega) _)) ?_;clear hF a;intro a hF
 refine mtakeL 2 hF hM rfl (by kernel_rfl) (by kernel_rfl) (by kernel_rfl) (by kernel_rfl) (by kernel_rfl) (fun _ _ _ h=>h) rfl rfl (y_plain rfl (fun w hM=>gives_load1 hF rfl Tryz.underlying5 rfl rfl (hD.cell hM hg2))) ?_;clear hF a;intro a hF
 refine mtakeP 4 hF (.inl hM) rfl (by kernel_rfl) (by kernel_rfl) (by kernel_rfl) rfl (fun _ _ _ h=>h) rfl rfl (y_plain rfl (fun w _=>gives_move hF rfl rfl _)) ?_;clear hF a;intro a hF
 refine mtakeP 5 hF (.inl hM) rfl (by kernel_rfl) (by kernel_rfl) (by kernel_rfl) rfl (fun _ _ _ h=>h) rfl rfl (y_plain rfl (fun w _=>gives_indexAddrS (sz:=1) (3) hF rfl Tryz.underlying66 (by kernel_rfl) rfl rfl rfl (by omega) _)) ?_;clear hF a;intro a hF
 refine mtakeL 6 hF hM rfl (by kernel_rfl) (by kernel_rfl) (by kernel_rfl) (by kernel_rfl) (by kernel_rfl) (fun _ _ _ h=>h) rfl rfl (y_plain rfl (fun w hM=>gives_load1 hF rfl Tryz.underlying5 rfl rfl (hD.cell hM hg3))) ?_;clear hF a;intro a hF
 refine mtakeP 8 hF (.inl hM) rfl (by kernel_rfl) (by kernel_rfl) (by kernel_rfl) rfl (fun _ _ _ h=>h) rfl rfl (y_plain rfl (fun w _=>gives_move hF rfl rfl _)) ?_;clear hF a;intro a hF
 refine mtakeP 9 hF (.inl hM) rfl (by kernel_rfl) (by kernel_rfl) (by kernel_rfl) rfl (fun _ _ _ h=>h) rfl rfl (y_plain rfl (fun w _=>gives_indexAddrS (sz:=1) (4) hF rfl Tryz.underlying66 (by kernel_rfl) rfl rfl rfl (by omega) _)) ?_;clear hF a;intro a hF
 refine mtakeL 10 hF hM rfl (by kernel_rfl) (by kernel_rfl) (by kernel_rfl) (by kernel_rfl) (by kernel_rfl) (fun _ _ _ h=>h) rfl rfl (y_plain rfl (fun w hM=>gives_load1 hF rfl Tryz.underlying5 rfl rfl (hD.cell hM hg4))) ?_;clear hF a;intro a hF
 refine mtakeP 12 hF (.inl hM) rfl (by kernel_rfl) (by kernel_rfl) (by kernel_rfl) rfl (fun _ _ _ h=>h) rfl rfl (y_plain rfl (fun w _=>gives_move hF rfl rfl _)) ?_;clear hF a;intro a hF
 refine mtakeP 13 hF (.inl hM) rfl (by kernel_rfl) (by kernel_rfl) (by kernel_rfl) rfl (fun _ _ _ h=>h) rfl rfl (y_plain rfl (fun w _=>gives_indexAddrS (sz:=1) (5) hF rfl Tryz.underlying66 (by kernel_rfl) rfl rfl rfl (by omega) _)) ?_;clear hF a;intro a hF
 refine mtakeL 14 hF hM rfl (by kernel_rfl) (by kernel_rfl) (by kernel_rfl) (by kernel_rfl) (by kernel_rfl) (fun _ _ _ h=>h) rfl rfl (y_plain rfl (fun w hM=>gives_load1 hF rfl Tryz.underlying5 rfl rfl (hD.cell hM hg5))) ?_;clear hF a;intro a hF
 refine malone 3 rfl (by kernel_rfl) ?_
 revert a;refine Cm hM rfl rfl rfl (h2I_walk e2 x2 _) ?_
 clear hM;intro w v hR hM hBe
 obtain rfl:=hR
 intro a hF
 refine mstep (.inl (hM)) ?_
 refine malone 7 rfl (by kernel_rfl) ?_
 revert a;refine Cm hM rfl rfl rfl (h2I_walk e3 x3 _) ?_
 clear hM;intro w v hR hM hBe
 obtain rfl:=hR
 intro a hF
 refine mstep (.inl (hM)) ?_
 refine malone 11 rfl (by kernel_rfl) ?_
 revert a;refine Cm hM rfl rfl rfl (h2I_walk e4 x4 _) ?_
 clear hM;intro w v hR hM hBe
 obtain rfl:=hR
 intro a hF
 refine mstep (.inl (hM)) ?_
 refine malone 15 rfl (by kernel_rfl) ?_
 revert a;refine Cm hM rfl rfl rfl (h2I_walk e5 x5 _) ?_
 clear hM;intro w v hR hM hBe
 obtain rfl:=hR
 intro a hF
 refine mstep (.inl (hM)) ?_
 refine malone 16 rfl (by kernel_rfl) ?_
 revert a;refine Mv 1 rfl ?_;intro a hF
 refine mstep (.inl (hM)) ?_
 refine malone 17 rfl (by kernel_rfl) ?_
 revert a;refine Mv 1 rfl ?_;intro a hF
 refine mstep (.inl (hM)) ?_
 refine malone 18 rfl (by kernel_rfl) ?_
 revert a;refine Mv 1 rfl ?_;intro a hF
 refine mstep (.inl (hM)) ?_
 refine malone 19 rfl (by kernel_rfl) ?_
 revert a;refine Mv 1 rfl ?_;intro a hF
 refine mstep (.inr (by kernel_rfl)) ?_
 refine mend (by kernel_rfl) ?_
 revert a;refine Kp [4,5,6,7] rfl (Nx (Sq (Sq (Rg (Mv 2 rfl ?_)))));intro a hF
 rw [show (((hv e2:Nat):Int)== -1)=false by first | (simp;done) | (simp;omega)] at hF
 revert a;refine Mv 3 rfl ?_;intro a hF
 rw [show (((hv e3:Nat):Int)== -1)=false by first | (simp;done) | (simp;omega)] at hF
 revert a;refine Mv 4 rfl ?_;intro a hF
 rw [show (((hv e4:Nat):Int)== -1)=false by first | (simp;done) | (simp;omega)] at hF
 revert a;refine Mv 4 rfl ?_;intro a hF
 rw [show (((hv e5:Nat):Int)== -1)=false by first | (simp;done) | (simp;omega)] at hF
 revert a;refine Md 1 [4,5,6,7,40] rfl (Nx (Cf rfl (Sk (Nx (Sq (Rg (Mv 1 rfl (Gv rfl (fun _ hF=>gives_shl (12) (((hv e2*2^12:Nat):Int)) hF rfl rfl rfl rfl (shl_h 12 hv2 (by decide)) _) (Mv 1 rfl (Gv rfl (fun _ hF=>gives_shl (8) (((hv e3*2^8:Nat):Int)) hF rfl rfl rfl rfl (shl_h 8 hv3 (by decide)) _) (Sn rfl (by omega) (Mv 1 rfl (Gv rfl (fun _ hF=>gives_shl (4) (((hv e4*2^4:Nat):Int)) hF rfl rfl rfl rfl (shl_h 4 hv4 (by decide)) _) (Sn rfl (by omega) (Mv 1 rfl (Sm ((n:Int)) rfl (by omega) ?_))))))))))))))));intro a hF
 refine op_conv_to hF rfl rfl rfl rfl Tryz.underlying3 Tryz.underlying21 rfl (wrap_i32 (by omega) (by omega)) ?_;clear hF a;intro a hF
 revert a;exact Md 2 [2,3] rfl (Nx (Re (Y2 rfl rfl rfl ⟨_,rfl,rfl,hM.below⟩)))
theorem isU16_walk (r:Nat) (hr:r<65536) (w0:World):Calls Tryz.prog 188 #[.int .i32 (r:Int)] w0 (Ret fun v w'=>v= .bool (high r || low r)∧Below w0.heap.size w0 w'):=by
 have hM:=MS0 w0
 refine enter (l:=[.int .i32 (r:Int)]) 8 Tryz.func188 rfl rfl (Sq (Rg (Md 1 [0] rfl (Nx (Sq ?_)))))
 rcases (show r<55296∨(55296≤r∧r≤57343)∨(55296≤r∧57343<r) by omega) with h | ⟨h,h2⟩ | ⟨h,h2⟩
 ·
  have hv:(high r || low r)=false:=by simp [high,low];omega
  exact Rg (Mv 1 rfl (Bf rfl (by omega) (Md 5 [2] rfl (Nx (Re (Y1 rfl rfl ⟨_,rfl,by rw [hv],hM.below⟩))))))
 ·
  have hv:(high r || low r)=true:=by simp [high,low];omega
  exact Rg (Mv 1 rfl (Bt rfl (by omega) (Mv 2 rfl (Bt rfl (by omega) (Md 2 [2] rfl (Nx (Re (Y1 rfl rfl ⟨_,rfl,by rw [hv],hM.below⟩))))))))
 have hv:(high r || low r)=false:=by simp [high,low];omega
 exact Rg (Mv 1 rfl (Bt rfl (by omega) (Mv 2 rfl (Bf rfl (by omega) (Md 2 [2] rfl (Nx (Re (Y1 rfl rfl ⟨_,rfl,by rw [hv],hM.below⟩))))))))
theorem combine_walk (n m:Nat) (hn:high n=true) (hm:low m=true) (w0:World):Calls Tryz.prog 189 #[.int .i32 (n:Int),.int .i32 (m:Int)] w0 (Ret fun v w'=>v= .int .i32 ((0x10000+(n - 0xd800)*0x400+(m - 0xdc00):Nat):Int)∧Below w0.heap.size w0 w'):=by
 have hM:=MS0 w0
 obtain ⟨h1,h2⟩:55296≤n∧n≤56319:=by simpa [high] using hn
 obtain ⟨h3,h4⟩:56320≤m∧m≤57343:=by simpa [low] using hm
 refine enter (l:=[.int .i32 (n:Int),.int .i32 (m:Int)]) 10 Tryz.func189 rfl rfl (Sq (Rg (Md 1 [0,1] rfl (Nx (Sq (Rg (Mv 1 rfl ?_)))))));intro a hF
 refine op_sum hF rfl (((n - 55296:Nat):Int)) rfl rfl rfl rfl rfl rfl (by omega) (wrap_i32 (by omega) (by omega)) ?_;clear hF a;intro a hF
 refine op_shl hF rfl 10 (((n - 55296)*1024:Nat):Int) rfl rfl rfl rfl rfl rfl (by rw [show min 10 IntKind.i32.bits=10 from rfl,show ((n - 55296:Nat):Int)*2^10=(((n - 55296)*1024:Nat):Int) by omega];exact wrap_i32 (by omega) (by omega)) ?_;clear hF a;intro a hF
 refine op_sum hF rfl (((65536+(n - 55296)*1024:Nat):Int)) rfl rfl rfl rfl rfl rfl (by omega) (wrap_i32 (by omega) (by omega)) ?_;clear hF a;intro a hF
 revert a;refine Mv 1 rfl ?_;intro a hF
 refine op_sum hF rfl (((m - 56320:Nat):Int)) rfl rfl rfl rfl rfl rfl (by omega) (wrap_i32 (by omega) (by omega)) ?_;clear hF a;intro a hF
 refine op_sum hF rfl (((65536+(n - 55296)*1024+(m - 56320):Nat):Int)) rfl rfl rfl rfl rfl rfl (by omega) (wrap_i32 (by omega) (by omega)) ?_;clear hF a;intro a hF
 revert a;exact Md 1 [4] rfl (Nx (Re (Y1 rfl rfl ⟨_,rfl,rfl,hM.below⟩)))
theorem none_shape {D:Str}(hi:Ins (D.drop 6)) (hn:unit (D.drop 6)=none):D.length<8∨(8≤D.length∧∃ c,D[6]?=some c∧c≠92)∨(8≤D.length∧D[6]?=some 92∧∃ d,D[7]?=some d∧d≠117):=by
  rcases Nat.lt_or_ge D.length 8 with h8 | h8
  · exact .inl h8
  have g:∀ j,D[6+j]?=(D.drop 6)[j]?:=fun j=>by rw [List.getElem?_drop]
  have g0:=g 0
  have g1:=g 1
  rcases ins_cases hi with h | ⟨c,r,h,_,hc,_⟩ | ⟨d,r,h,hd,_⟩ | ⟨a,b,c,d,r,h,hx,_⟩
  · have:=congrArg List.length h;simp at this;omega
  · exact .inr (.inl ⟨h8,c,by rw [h] at g0;exact g0,hc⟩)
  · exact .inr (.inr ⟨h8,by rw [h] at g0;exact g0,d,by rw [h] at g1;exact g1,esc_117 hd⟩)
  · rw [h,show unit (92::117::a::b::c::d::r)=hex4 a b c d from rfl,hex4_hexN hx] at hn;cases hn
theorem some_shape {D:Str}{m:Nat}(hn:unit (D.drop 6)=some m):8≤D.length∧D[6]?=some 92∧D[7]?=some 117:=by
  obtain ⟨a,b,c,d,r,h,_⟩:=unit_shape hn
  have g:∀ j,D[6+j]?=(D.drop 6)[j]?:=fun j=>by rw [List.getElem?_drop]
  have g0:=g 0
  have g1:=g 1
  have hl:=congrArg List.length h
  simp only [List.length_drop,List.length_cons] at hl
  exact ⟨by omega,by rw [h] at g0;exact g0,by rw [h] at g1;exact g1⟩
theorem decU_walk {b o cp n:Nat}{D:Str}(hu:unit D=some n) (hi:Ins (D.drop 6)) (hl:D.length≤2^40) (hcp:D.length≤cp) (w0:World) (hD:Bts w0 b o D):
    Calls Tryz.prog 179 #[.slice (some ⟨b,o,none⟩) D.length cp] w0 (Ret fun v w'=>v= .tuple #[.int .i32 (((decU D).1:Nat):Int),.int .i64 (((decU D).2:Nat):Int)]∧Below w0.heap.size w0 w'):=by
 have hM:=MS0 w0
 have hn:=unit_lt hu
 refine enter (l:=[.slice (some ⟨b,o,none⟩) D.length cp]) 52 Tryz.func179 rfl rfl (Sq (Rg (Md 2 [0] rfl (Nx (Sq (Rg (Mv 1 rfl (Cm hM rfl rfl rfl (decSingle_walk hu hl _ (hD.below hM.below)) ?_))))))))
 clear hM;intro w v hR hM hBe
 obtain rfl:=hR
 refine Md 5 [0,4,5] rfl (Nx (Sq (Rg (Md 2 [0,4,14] rfl (Nx (Cf rfl (Sq ?_)))))))
 rcases (show (high n=false∧low n=false)∨(high n=false∧low n=true)∨(high n=true∧unit (D.drop 6)=none)∨(high n=true∧∃ m,unit (D.drop 6)=some m∧low m=true)∨(high n=true∧∃ m,unit (D.drop 6)=some m∧low m=false) by cases high n <;> cases low n <;> cases hm:unit (D.drop 6) <;> simp <;> (rename_i m;cases low m <;> simp)) with ⟨hh,hw⟩ | ⟨hh,hw⟩ | ⟨hh,hm⟩ | ⟨hh,m,hm,hw⟩ | ⟨hh,m,hm,hw⟩
 ·
  have hres:decU D=(n,6):=by unfold decU;rw [hu];simp only [hh,hw,Bool.false_eq_true,if_false]
  refine Rg (Mv 1 rfl (Cm hM rfl rfl rfl (isU16_walk n hn _) ?_))
  clear hM;intro w v hR hM hBe
  obtain rfl:=hR
  exact Md 1 [0,4,17] rfl (Nx (D2 rfl (fun ht=>absurd ht (by rw [hh,hw];decide)) (Sq (Rg (Md 3 [2,3] rfl (Nx (Re (Y2 rfl rfl rfl ⟨_,rfl,by rw [hres];rfl,hM.below⟩))))))))
 ·
  have hres:decU D=(65533,6):=by unfold decU;rw [hu];simp only [hh,hw,Bool.false_eq_true,if_false,if_true]
  obtain ⟨r1,r2⟩:56320≤n∧n≤57343:=by simpa [low] using hw
  refine Rg (Mv 1 rfl (Cm hM rfl rfl rfl (isU16_walk n hn _) ?_))
  clear hM;intro w v hR hM hBe
  obtain rfl:=hR
  exact Md 1 [0,4,17] rfl (Nx (C1 rfl (fun ht=>absurd ht (by rw [hh,hw];decide)) (Sq (Rg (Mv 1 rfl (Bt rfl (by omega) (Md 0 [0,4,20] rfl (Nx (Ct rfl (Sq (Rg (Md 2 [2,3] rfl (Nx (Re (Y2 rfl rfl rfl ⟨_,rfl,by rw [hres];rfl,hM.below⟩)))))))))))))))
 ·
  obtain ⟨r1,r2⟩:55296≤n∧n≤56319:=by simpa [high] using hh
  have hres:decU D=(65533,6):=by unfold decU;rw [hu];simp only [hh,hm,if_true]
  refine Rg (Mv 1 rfl (Cm hM rfl rfl rfl (isU16_walk n hn _) ?_))
  clear hM;intro w v hR hM hBe
  obtain rfl:=hR
  refine Md 1 [0,4,17] rfl (Nx (C1 rfl (fun ht=>absurd ht (by rw [hh];simp)) (Sq (Rg (Mv 1 rfl (Bf rfl (by omega) (Md 0 [0,4,20] rfl (Nx (Cf rfl (Sq ?_))))))))))
  rcases none_shape hi hm with h8 | ⟨h8,c,hc,hc92⟩ | ⟨h8,hc,d,hd,hd117⟩
  · exact Rg (Mv 2 rfl (Bt rfl (by omega) (Md 12 [0,4,35] rfl (Nx (Ct rfl (Sq (Rg (Md 2 [2,3] rfl (Nx (Re (Y2 rfl rfl rfl ⟨_,rfl,by rw [hres];rfl,hM.below⟩)))))))))))
  ·
   refine Rg (Mv 2 rfl (Bf rfl (by omega) (Mv 2 rfl (Gv rfl (fun _ hF=>gives_indexAddrS (sz:=1) (6) hF rfl Tryz.underlying66 (by kernel_rfl) rfl rfl rfl (by omega) _) (Gv rfl (fun _ hF=>gives_load1 hF rfl Tryz.underlying5 rfl rfl (hD.cell hM hc)) (Mv 1 rfl ?_))))));intro a hF
   rw [bne_t (d:=92) (z:=92) rfl hc92] at hF
   revert a;exact Md 7 [0,4,35] rfl (Nx (Ct rfl (Sq (Rg (Md 2 [2,3] rfl (Nx (Re (Y2 rfl rfl rfl ⟨_,rfl,by rw [hres];rfl,hM.below⟩))))))))
  refine Rg (Mv 2 rfl (Bf rfl (by omega) (Mv 2 rfl (Gv rfl (fun _ hF=>gives_indexAddrS (sz:=1) (6) hF rfl Tryz.underlying66 (by kernel_rfl) rfl rfl rfl (by omega) _) (Gv rfl (fun _ hF=>gives_load1 hF rfl Tryz.underlying5 rfl rfl (hD.cell hM hc)) (Mv 4 rfl (Gv rfl (fun _ hF=>gives_indexAddrS (sz:=1) (7) hF rfl Tryz.underlying66 (by kernel_rfl) rfl rfl rfl (by omega) _) (Gv rfl (fun _ hF=>gives_load1 hF rfl Tryz.underlying5 rfl rfl (hD.cell hM hd)) (Mv 1 rfl ?_)))))))));intro a hF
  rw [bne_t (d:=117) (z:=117) rfl hd117] at hF
  revert a;exact Md 1 [0,4,35] rfl (Nx (Ct rfl (Sq (Rg (Md 2 [2,3] rfl (Nx (Re (Y2 rfl rfl rfl ⟨_,rfl,by rw [hres];rfl,hM.below⟩))))))))
 ·
  obtain ⟨r1,r2⟩:55296≤n∧n≤56319:=by simpa [high] using hh
  obtain ⟨h8,hc,hd⟩:=some_shape hm
  obtain ⟨r3,r4⟩:56320≤m∧m≤57343:=by simpa [low] using hw
  have hres:decU D=(0x10000+(n - 0xd800)*0x400+(m - 0xdc00),12):=by unfold decU;rw [hu];simp only [hh,hm,hw,if_true]
  refine Rg (Mv 1 rfl (Cm hM rfl rfl rfl (isU16_walk n hn _) ?_))
  clear hM;intro w v hR hM hBe
  obtain rfl:=hR
  refine Md 1 [0,4,17] rfl (Nx (C1 rfl (fun ht=>absurd ht (by rw [hh];simp)) (Sq (Rg (Mv 1 rfl (Bf rfl (by omega) (Md 0 [0,4,20] rfl (Nx (Cf rfl (Sq (Rg (Mv 2 rfl (Bf rfl (by omega) (Mv 2 rfl (Gv rfl (fun _ hF=>gives_indexAddrS (sz:=1) (6) hF rfl Tryz.underlying66 (by kernel_rfl) rfl rfl rfl (by omega) _) (Gv rfl (fun _ hF=>gives_load1 hF rfl Tryz.underlying5 rfl rfl (hD.cell hM hc)) (Mv 4 rfl (Gv rfl (fun _ hF=>gives_indexAddrS (sz:=1) (7) hF rfl Tryz.underlying66 (by kernel_rfl) rfl rfl rfl (by omega) _) (Gv rfl (fun _ hF=>gives_load1 hF rfl Tryz.underlying5 rfl rfl (hD.cell hM hd)) (Md 2 [0,4,35] rfl (Nx (Cf rfl (Sq (Rg (Mv 1 rfl (Gv rfl (fun _ hF=>gives_slFrom (6) hF rfl Tryz.underlying66 (by kernel_rfl) rfl rfl rfl (by omega) _) ?_))))))))))))))))))))))))));intro a hF
  rw [←List.length_drop] at hF
  revert a;refine Cm hM rfl rfl rfl (decSingle_walk (D:=D.drop 6) (cp:=cp - 6) hm (by rw [List.length_drop];omega) _ ((hD.below hM.below).so 6 hcp)) ?_
  clear hM;intro w v hR hM hBe
  obtain rfl:=hR
  refine Md 5 [4,6,7] rfl (Nx (Sq (Rg (Md 2 [4,6,43] rfl (Nx (Cf rfl (Sq (Rg (Mv 1 rfl (Bf rfl (by omega) (Mv 2 rfl (Bf rfl (by omega) (Md 1 [4,6,49] rfl (Nx (Cf rfl (Sq (Rg (Mv 2 rfl (Cm hM rfl rfl rfl (combine_walk n m hh hw _) ?_)))))))))))))))))))
  clear hM;intro w v hR hM hBe
  obtain rfl:=hR
  exact Md 2 [2,3] rfl (Nx (Re (Y2 rfl rfl rfl ⟨_,rfl,by rw [hres];rfl,hM.below⟩)))
 obtain ⟨r1,r2⟩:55296≤n∧n≤56319:=by simpa [high] using hh
 obtain ⟨h8,hc,hd⟩:=some_shape hm
 have hml:=unit_lt hm
 have hres:decU D=(65533,6):=by unfold decU;rw [hu];simp only [hh,hm,hw,Bool.false_eq_true,if_true,if_false]
 refine Rg (Mv 1 rfl (Cm hM rfl rfl rfl (isU16_walk n hn _) ?_))
 clear hM;intro w v hR hM hBe
 obtain rfl:=hR
 refine Md 1 [0,4,17] rfl (Nx (C1 rfl (fun ht=>absurd ht (by rw [hh];simp)) (Sq (Rg (Mv 1 rfl (Bf rfl (by omega) (Md 0 [0,4,20] rfl (Nx (Cf rfl (Sq (Rg (Mv 2 rfl (Bf rfl (by omega) (Mv 2 rfl (Gv rfl (fun _ hF=>gives_indexAddrS (sz:=1) (6) hF rfl Tryz.underlying66 (by kernel_rfl) rfl rfl rfl (by omega) _) (Gv rfl (fun _ hF=>gives_load1 hF rfl Tryz.underlying5 rfl rfl (hD.cell hM hc)) (Mv 4 rfl (Gv rfl (fun _ hF=>gives_indexAddrS (sz:=1) (7) hF rfl Tryz.underlying66 (by kernel_rfl) rfl rfl rfl (by omega) _) (Gv rfl (fun _ hF=>gives_load1 hF rfl Tryz.underlying5 rfl rfl (hD.cell hM hd)) (Md 2 [0,4,35] rfl (Nx (Cf rfl (Sq (Rg (Mv 1 rfl (Gv rfl (fun _ hF=>gives_slFrom (6) hF rfl Tryz.underlying66 (by kernel_rfl) rfl rfl rfl (by omega) _) ?_))))))))))))))))))))))))));intro a hF
 rw [←List.length_drop] at hF
 revert a;refine Cm hM rfl rfl rfl (decSingle_walk (D:=D.drop 6) (cp:=cp - 6) hm (by rw [List.length_drop];omega) _ ((hD.below hM.below).so 6 hcp)) ?_
 clear hM;intro w v hR hM hBe
 obtain rfl:=hR
 refine Md 5 [4,6,7] rfl (Nx (Sq (Rg (Md 2 [4,6,43] rfl (Nx (Cf rfl (Sq ?_)))))))
 rcases (show m<56320∨(¬ m<56320∧57343<m) by have h9: ¬ (56320≤m∧m≤57343):=(by intro h9;simp [low,h9] at hw);omega) with r3 | ⟨r3,r4⟩
 · exact Rg (Mv 1 rfl (Bt rfl (by omega) (Md 4 [4,6,49] rfl (Nx (Ct rfl (Sq (Rg (Md 2 [2,3] rfl (Nx (Re (Y2 rfl rfl rfl ⟨_,rfl,by rw [hres];rfl,hM.below⟩)))))))))))
 exact Rg (Mv 1 rfl (Bf rfl (by omega) (Mv 2 rfl (Bt rfl (by omega) (Md 1 [4,6,49] rfl (Nx (Ct rfl (Sq (Rg (Md 2 [2,3] rfl (Nx (Re (Y2 rfl rfl rfl ⟨_,rfl,by rw [hres];rfl,hM.below⟩)))))))))))))

end Go.Sx