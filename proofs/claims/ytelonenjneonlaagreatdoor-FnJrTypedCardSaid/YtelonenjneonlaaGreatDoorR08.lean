/- Part 8 of the proof of FnJrTyped: the statement Rows.FnJrTypedCardSaid; no further condition. -/
import Derived.Test.YtelonenjneonlaaGreatDoorR07
import Derived.OrdersHeld
import Derived.StillTail
set_option linter.all false
set_option maxRecDepth 100000
namespace Go.Sx
open Go.RowKit Go.Proofs Js Go.Proofs.YtelonenjneonlaaGreatDoorW.PrintWords
theorem op_bytesStrR {n:Nat}{K:List (Nat×Value)}{a:Act}{w:World}{Q:Exit→Act→World→Prop}{ops:Array Oper}{rest:List Oper}{o:Oper}{B:Nat}{w0:World}{L R:List Bk}(hF:Fr n K a) {bs:List UInt8}{v:Value}(hRow:Row 5 1 R v bs.length (u8s bs)) (hM:Mem B w0 (R++L) w) (hg:o.guard=none) {d:Nat}{x:Operand}(hd:o.dst=some d) (hlt:Nat.blt d n=true) (hop:o.op= .convert 66 9 x)
    (hx:ev K x=some v) (h:∀ a',Fr n ((d,.string (mkS bs))::K) a'→wpList Tryz.prog ops Q rest a' w):wpList Tryz.prog ops Q (o::rest) a w:=by
  rcases hRow.2 with ⟨rfl,rfl,h0⟩ | ⟨g,cap,vs,rfl,rfl,h1,h2,h3,h4⟩
  · obtain rfl:bs=[]:=List.length_eq_zero_iff.1 h0
    refine op_run hF hg (.string (mkS [])) hd hlt ?_ h
    simp only [execOp,hop,hF.ev hx]
    simp [convert,run_underlying Tryz.underlying66,run_underlying Tryz.underlying9,run_underlying Tryz.underlying5]
    try rfl
  · exact op_bytesStr (k:=0) hF hM hg bs hd hlt hop hx rfl (by rw [Nat.mul_one] at h4;exact h4) rfl h
theorem unquote_walk {i:Str}(hi:Ins i) (hl:i.length≤2^38) (w0:World):
    Calls Tryz.prog 48 #[.string (mkS (34::i++ [34]))] w0 (Ret fun v w'=>v= .string (mkS (unq i))∧Below w0.heap.size w0 w'):=by
 have hM:=MS0 w0
 have e14:List.take (i.length+1 - 1) (List.drop 1 (34::i++ [34]))=i:=by simp
 have hsl:(34::i++ [34]).length=i.length+2:=by simp
 refine enter (l:=[.string (mkS (34::i++ [34]))]) 79 Tryz.func48 rfl rfl (Sq (Rg (Md 1 [0] rfl (Nx (Sq (Rg (Md 1 [0,3] rfl (Nx (Sq (Rg (Mv 3 rfl (Sm (((i.length+1:Nat):Int)) rfl (by omega) (Gv rfl (fun _ hF=>gives_slice_str 1 (i.length+1) hF rfl Tryz.underlying9 rfl rfl rfl rfl rfl (by omega) (by omega) _) ?_)))))))))))));intro a hF
 rw [e14] at hF
 revert a;refine Md 1 [3,4] rfl (Nx (Sq (Sq (Rg (Md 1 [3,4,5] rfl (Nx (Bo (Kp [3,4,5] rfl ?_))))))));intro a hF
 refine loopX (fun (x:Nat×Str) a w=>∃ R v,Fr 80 [(3,v),(4,.string (mkS i)),(5,.int .i64 (x.1:Int))] a∧Mem w0.heap.size w0 (R++ []) w∧Row 5 1 R v x.2.length (u8s x.2)∧Ins (i.drop x.1)∧x.1≤i.length∧x.2.length≤x.1∧x.2++unq (i.drop x.1)=unq i) (fun x=>i.length - x.1) ((0,[])) ?_ (fun x a w hI=> ?_)
 · exact ⟨[],_,hF,hM,.nil _ _,hi,Nat.zero_le _,Nat.le_refl _,by simp⟩
 clear hF hM
 obtain ⟨k,out⟩:=x
 obtain ⟨R,v,hF,hM,hRow,hIns,hk,hol,heq⟩:=hI
 simp only at hF hM hRow hIns hk hol heq
 have hdl:(i.drop k).length=i.length - k:=List.length_drop
 revert a;refine Sq (Sq (Rg (Md 4 [3,4,5,18] rfl (Nx (Ce rfl (fun ht=> ?_) ((fun ht=> ?_)))))))
 ·
  have hke:k=i.length:=by have:=of_decide_eq_false ht;omega
  rw [hke,List.drop_length,show unq []=[] from by rw [unq],List.append_nil] at heq
  refine Ex (Ot (Ot (Ob (Nx (Sq (Rg (Mv 1 rfl ?_)))))));intro a hF
  refine op_bytesStrR hF hRow hM rfl rfl rfl rfl rfl ?_;clear hF a;intro a hF
  revert a;exact Md 1 [2] rfl (Nx (Re (Y1 rfl rfl ⟨_,rfl,by rw [←heq],hM.below⟩)))
 have hklt:k<i.length:=by have:=of_decide_eq_true ht;omega
 refine Sk (Nx (Bo (Sq (Sq ?_))))
 rcases unq_step hIns with hD | ⟨c,r,hD,hc,hr,hq⟩ | ⟨d,r,hD,hu,hr,hq⟩ | ⟨n,r,hD,h6,h92,hu,hr,hm,hq⟩ | ⟨n,m,r,hD,h6,h92,hu,hr,hm,hh,hq⟩ | ⟨n,m,r,hD,h6,h92,hu,hr,hm,hh,hlo,hq⟩ | ⟨n,m,r,hD,h6,h92,hu,hr,hm,hh,hlo,hq⟩
 ·
  intro a hF
  rw [hD] at hdl;simp only [List.length_nil] at hdl;omega
 ·
  have hg:=drop_get hD 0
  refine Rg (Mv 2 rfl (Ix (k) c rfl hg (by omega) (Mv 1 rfl ?_)));intro a hF
  rw [bne_t (d:=92) (z:=92) rfl hc] at hF
  revert a;refine Md 0 [3,4,5,22] rfl (Nx (Ct rfl (Sq (Rg (Mv 3 rfl (Ix (k) c rfl hg (by omega) ?_))))));intro a hF
  refine op_buildS hF hM elt66 rfl rfl rfl rfl rfl (cs:=[.int .u8 ((c.toNat:Nat):Int)]) rfl rfl (by decide) ?_;clear hF hM a;intro a w b27 hF hM
  replace hM:=hM.perm (L':=R++((b27,5,[.int .u8 ((c.toNat:Nat):Int)])::[])) (pc fun x=>by simp [ct,ct_append] <;> omega)
  refine op_appendR hF elt66 hRow hM (sl_one (b:=b27) (e:=5) (m:=1) (cs:=[.int .u8 ((c.toNat:Nat):Int)]) rfl) (by simp) (by simp [Value.oneCell']) (by omega) rfl rfl rfl rfl rfl rfl ?_;clear hF hM a;intro a w R' v' hF hRow' hM
  replace hM:=hM.sub (L':=R'++ []) [(b27,5,[.int .u8 ((c.toNat:Nat):Int)])] (pc fun x=>by simp [ct,ct_append] <;> omega)
  revert a;refine Md 1 [3,4,5] rfl (Nx (Sq (Rg (Mv 1 rfl (Sm (((k+1:Nat):Int)) rfl (by omega) (Md 1 [3,4,5] rfl (Nx (Ex (Ot (Ob (Kp [3,4,5] rfl ?_)))))))))))
  have hdr:i.drop (k+1)=r:=drop_of (t:=[c]) hD
  have hle:k+1≤i.length:=by omega
  intro a hF
  exact ⟨(k+1,out++ [c]),⟨R',_,hF,hM,by simp only;rw [List.length_append,u8s_append];exact hRow',by simp only;rw [hdr];exact hr,hle,by simp only [List.length_append];simp only [List.length_cons,List.length_nil];omega,by simp only;rw [hdr,←heq,hq];simp⟩,by simp only;omega⟩
 ·
  have hg:=drop_get hD 0
  have hg1:=drop_get hD 1
  have hle2:k+2≤i.length:=le_of (t:=[92,d]) hD (by simp)
  refine Rg (Mv 2 rfl (Ix (k) 92 rfl hg (by omega) (Md 1 [3,4,5,22] rfl (Nx (Cf rfl (Sk (Nx (Sq (Rg (Mv 2 rfl (Cm hM rfl rfl rfl (unit_walk i k (by omega) (by omega) _) ?_)))))))))))
  clear hM;intro w v hR hM hBe
  rw [hu] at hR
  try simp only [Option.getD_some,Option.isSome_some] at hR
  obtain rfl:=hR
  refine Md 5 [3,4,5,6,7] rfl (Nx (Sq (Sq (Rg (Md 2 [3,4,5,6,38] rfl (Nx (Ct rfl (Sq (Rg (Mv 3 rfl (Sm (((k+1:Nat):Int)) rfl (by omega) (Ix ((k+1)) d rfl hg1 (by omega) (Cm hM rfl rfl rfl (short_walk d _) ?_)))))))))))))
  clear hM;intro w v hR hM hBe
  obtain rfl:=hR
  intro a hF
  refine op_buildS hF hM elt66 rfl rfl rfl rfl rfl (cs:=[.int .u8 (((short d).toNat:Nat):Int)]) rfl rfl (by decide) ?_;clear hF hM a;intro a w b45 hF hM
  replace hM:=hM.perm (L':=R++((b45,5,[.int .u8 (((short d).toNat:Nat):Int)])::[])) (pc fun x=>by simp [ct,ct_append] <;> omega)
  refine op_appendR hF elt66 hRow hM (sl_one (b:=b45) (e:=5) (m:=1) (cs:=[.int .u8 (((short d).toNat:Nat):Int)]) rfl) (by simp) (by simp [Value.oneCell']) (by omega) rfl rfl rfl rfl rfl rfl ?_;clear hF hM a;intro a w R' v' hF hRow' hM
  replace hM:=hM.sub (L':=R'++ []) [(b45,5,[.int .u8 (((short d).toNat:Nat):Int)])] (pc fun x=>by simp [ct,ct_append] <;> omega)
  revert a;refine Md 1 [3,4,5] rfl (Nx (Sq (Rg (Mv 1 rfl (Sm (((k+2:Nat):Int)) rfl (by omega) (Md 1 [3,4,5] rfl (Nx (Ex (Ot (Ob (Kp [3,4,5] rfl ?_)))))))))))
  have hdr:i.drop (k+2)=r:=drop_of (t:=[92,d]) hD
  have hle:k+2≤i.length:=hle2
  intro a hF
  exact ⟨(k+2,out++ [short d]),⟨R',_,hF,hM,by simp only;rw [List.length_append,u8s_append];exact hRow',by simp only;rw [hdr];exact hr,hle,by simp only [List.length_append];simp only [List.length_cons,List.length_nil];omega,by simp only;rw [hdr,←heq,hq];simp⟩,by simp only;omega⟩
 ·
  have hnl:=unit_lt hu
  have hg:i[k]?=some 92:=(drop_get (s:=i) (i:=k) rfl 0).trans (by rw [←List.head?_eq_getElem?];exact h92)
  have hr6:i.drop (k+6)=r:=by rw [←List.drop_drop];exact hD
  refine Rg (Mv 2 rfl (Ix (k) 92 rfl hg (by omega) (Md 1 [3,4,5,22] rfl (Nx (Cf rfl (Sk (Nx (Sq (Rg (Mv 2 rfl (Cm hM rfl rfl rfl (unit_walk i k (by omega) (by omega) _) ?_)))))))))))
  clear hM;intro w v hR hM hBe
  rw [hu] at hR
  try simp only [Option.getD_some,Option.isSome_some] at hR
  obtain rfl:=hR
  refine Md 5 [3,4,5,6,7] rfl (Nx (Sq (Sq (Rg (Md 2 [3,4,5,6,38] rfl (Nx (Cf rfl (Sk (Nx (Sq (Rg (Mv 1 rfl (Sm (((k+6:Nat):Int)) rfl (by omega) (Md 1 [3,4,5,6] rfl (Nx (Sq (Sq (Rg (Mv 2 rfl (Cm hM rfl rfl rfl (unit_walk i (k+6) (by omega) (by omega) _) ?_))))))))))))))))))))
  clear hM;intro w v hR hM hBe
  rw [hr6,hm] at hR
  try simp only [Option.getD_some,Option.isSome_some] at hR
  obtain rfl:=hR
  refine Md 5 [3,4,5,6,8,9] rfl (Nx (Sq (Rg (Md 9 [3,4,5,6,8,65] rfl (Nx (Cf rfl (Sk (Nx (Rg (Mv 2 rfl ?_))))))))));intro a hF
  refine op_call hF rfl rfl rfl rfl Tryz.func79 (by kernel_rfl) rfl rfl (appendUTF8_walk hRow (n) (by omega) (by omega) hM) ?_
  clear hF hM a;intro a w v' hR hF
  obtain ⟨R',hRow',hM⟩:=hR
  revert a;refine Md 1 [3,4,5] rfl (Nb (Kp [3,4,5] rfl ?_))
  have hdr:i.drop (k+6)=r:=hr6
  have hle:k+6≤i.length:=by omega
  intro a hF
  exact ⟨(k+6,out++enc n),⟨R',_,hF,hM,hRow',by simp only;rw [hdr];exact hr,hle,by simp only [List.length_append];have:=enc_len n;omega,by simp only;rw [hdr,←heq,hq];simp⟩,by simp only;omega⟩
 ·
  have hnl:=unit_lt hu
  have hg:i[k]?=some 92:=(drop_get (s:=i) (i:=k) rfl 0).trans (by rw [←List.head?_eq_getElem?];exact h92)
  have hr6:i.drop (k+6)=r:=by rw [←List.drop_drop];exact hD
  refine Rg (Mv 2 rfl (Ix (k) 92 rfl hg (by omega) (Md 1 [3,4,5,22] rfl (Nx (Cf rfl (Sk (Nx (Sq (Rg (Mv 2 rfl (Cm hM rfl rfl rfl (unit_walk i k (by omega) (by omega) _) ?_)))))))))))
  clear hM;intro w v hR hM hBe
  rw [hu] at hR
  try simp only [Option.getD_some,Option.isSome_some] at hR
  obtain rfl:=hR
  refine Md 5 [3,4,5,6,7] rfl (Nx (Sq (Sq (Rg (Md 2 [3,4,5,6,38] rfl (Nx (Cf rfl (Sk (Nx (Sq (Rg (Mv 1 rfl (Sm (((k+6:Nat):Int)) rfl (by omega) (Md 1 [3,4,5,6] rfl (Nx (Sq (Sq (Rg (Mv 2 rfl (Cm hM rfl rfl rfl (unit_walk i (k+6) (by omega) (by omega) _) ?_))))))))))))))))))))
  clear hM;intro w v hR hM hBe
  rw [hr6,hm] at hR
  try simp only [Option.getD_some,Option.isSome_some] at hR
  obtain rfl:=hR
  refine Md 5 [3,4,5,6,8,9] rfl (Nx (Sq (Rg (Mv 3 rfl (Cm hM rfl rfl rfl (high_walk n _) ?_)))))
  clear hM;intro w v hR hM hBe
  rw [hh] at hR
  try simp only [Option.getD_some,Option.isSome_some] at hR
  obtain rfl:=hR
  refine Md 5 [3,4,5,6,8,65] rfl (Nx (Cf rfl (Sk (Nx (Rg (Mv 2 rfl ?_))))));intro a hF
  refine op_call hF rfl rfl rfl rfl Tryz.func79 (by kernel_rfl) rfl rfl (appendUTF8_walk hRow (n) (by omega) (by omega) hM) ?_
  clear hF hM a;intro a w v' hR hF
  obtain ⟨R',hRow',hM⟩:=hR
  revert a;refine Md 1 [3,4,5] rfl (Nb (Kp [3,4,5] rfl ?_))
  have hdr:i.drop (k+6)=r:=hr6
  have hle:k+6≤i.length:=by omega
  intro a hF
  exact ⟨(k+6,out++enc n),⟨R',_,hF,hM,hRow',by simp only;rw [hdr];exact hr,hle,by simp only [List.length_append];have:=enc_len n;omega,by simp only;rw [hdr,←heq,hq];simp⟩,by simp only;omega⟩
 ·
  have hnl:=unit_lt hu
  have hg:i[k]?=some 92:=(drop_get (s:=i) (i:=k) rfl 0).trans (by rw [←List.head?_eq_getElem?];exact h92)
  have hr6:i.drop (k+6)=r:=by rw [←List.drop_drop];exact hD
  refine Rg (Mv 2 rfl (Ix (k) 92 rfl hg (by omega) (Md 1 [3,4,5,22] rfl (Nx (Cf rfl (Sk (Nx (Sq (Rg (Mv 2 rfl (Cm hM rfl rfl rfl (unit_walk i k (by omega) (by omega) _) ?_)))))))))))
  clear hM;intro w v hR hM hBe
  rw [hu] at hR
  try simp only [Option.getD_some,Option.isSome_some] at hR
  obtain rfl:=hR
  refine Md 5 [3,4,5,6,7] rfl (Nx (Sq (Sq (Rg (Md 2 [3,4,5,6,38] rfl (Nx (Cf rfl (Sk (Nx (Sq (Rg (Mv 1 rfl (Sm (((k+6:Nat):Int)) rfl (by omega) (Md 1 [3,4,5,6] rfl (Nx (Sq (Sq (Rg (Mv 2 rfl (Cm hM rfl rfl rfl (unit_walk i (k+6) (by omega) (by omega) _) ?_))))))))))))))))))))
  clear hM;intro w v hR hM hBe
  rw [hr6,hm] at hR
  try simp only [Option.getD_some,Option.isSome_some] at hR
  obtain rfl:=hR
  refine Md 5 [3,4,5,6,8,9] rfl (Nx (Sq (Rg (Mv 3 rfl (Cm hM rfl rfl rfl (high_walk n _) ?_)))))
  clear hM;intro w v hR hM hBe
  rw [hh] at hR
  try simp only [Option.getD_some,Option.isSome_some] at hR
  obtain rfl:=hR
  refine Mv 3 rfl (Cm hM rfl rfl rfl (low_walk m _) ?_)
  clear hM;intro w v hR hM hBe
  rw [hlo] at hR
  try simp only [Option.getD_some,Option.isSome_some] at hR
  obtain rfl:=hR
  refine Md 1 [3,4,5,6,8,65] rfl (Nx (Cf rfl (Sk (Nx (Rg (Mv 2 rfl ?_))))));intro a hF
  refine op_call hF rfl rfl rfl rfl Tryz.func79 (by kernel_rfl) rfl rfl (appendUTF8_walk hRow (n) (by omega) (by omega) hM) ?_
  clear hF hM a;intro a w v' hR hF
  obtain ⟨R',hRow',hM⟩:=hR
  revert a;refine Md 1 [3,4,5] rfl (Nb (Kp [3,4,5] rfl ?_))
  have hdr:i.drop (k+6)=r:=hr6
  have hle:k+6≤i.length:=by omega
  intro a hF
  exact ⟨(k+6,out++enc n),⟨R',_,hF,hM,hRow',by simp only;rw [hdr];exact hr,hle,by simp only [List.length_append];have:=enc_len n;omega,by simp only;rw [hdr,←heq,hq];simp⟩,by simp only;omega⟩
 have hnl:=unit_lt hu
 have hg:i[k]?=some 92:=(drop_get (s:=i) (i:=k) rfl 0).trans (by rw [←List.head?_eq_getElem?];exact h92)
 have hr6:i.drop (k+6)=(i.drop k).drop 6:=by rw [←List.drop_drop]
 have hr12:i.drop (k+6+6)=r:=by rw [Nat.add_assoc,←List.drop_drop];exact hD
 have hml:=unit_lt hm
 have hhb:55296≤n∧n≤56319:=by simpa [high] using hh
 have hlb:56320≤m∧m≤57343:=by simpa [low] using hlo
 refine Rg (Mv 2 rfl (Ix (k) 92 rfl hg (by omega) (Md 1 [3,4,5,22] rfl (Nx (Cf rfl (Sk (Nx (Sq (Rg (Mv 2 rfl (Cm hM rfl rfl rfl (unit_walk i k (by omega) (by omega) _) ?_)))))))))))
 clear hM;intro w v hR hM hBe
 rw [hu] at hR
 try simp only [Option.getD_some,Option.isSome_some] at hR
 obtain rfl:=hR
 refine Md 5 [3,4,5,6,7] rfl (Nx (Sq (Sq (Rg (Md 2 [3,4,5,6,38] rfl (Nx (Cf rfl (Sk (Nx (Sq (Rg (Mv 1 rfl (Sm (((k+6:Nat):Int)) rfl (by omega) (Md 1 [3,4,5,6] rfl (Nx (Sq (Sq (Rg (Mv 2 rfl (Cm hM rfl rfl rfl (unit_walk i (k+6) (by omega) (by omega) _) ?_))))))))))))))))))))
 clear hM;intro w v hR hM hBe
 rw [hr6,hm] at hR
 try simp only [Option.getD_some,Option.isSome_some] at hR
 obtain rfl:=hR
 refine Md 5 [3,4,5,6,8,9] rfl (Nx (Sq (Rg (Mv 3 rfl (Cm hM rfl rfl rfl (high_walk n _) ?_)))))
 clear hM;intro w v hR hM hBe
 rw [hh] at hR
 try simp only [Option.getD_some,Option.isSome_some] at hR
 obtain rfl:=hR
 refine Mv 3 rfl (Cm hM rfl rfl rfl (low_walk m _) ?_)
 clear hM;intro w v hR hM hBe
 rw [hlo] at hR
 try simp only [Option.getD_some,Option.isSome_some] at hR
 obtain rfl:=hR
 refine Md 1 [3,4,5,6,8,65] rfl (Nx (Ct rfl (Sq (Rg (Mv 1 rfl (Sm (((n - 55296:Nat):Int)) rfl (by omega) (Sm ((((n - 55296)*1024:Nat):Int)) rfl (by omega) (Sm (((65536+(n - 55296)*1024:Nat):Int)) rfl (by omega) (Mv 1 rfl (Sm (((m - 56320:Nat):Int)) rfl (by omega) (Sm (((65536+(n - 55296)*1024+(m - 56320):Nat):Int)) rfl (by omega) (Md 1 [3,4,5,6] rfl (Nx (Rg (Mv 1 rfl (Sm (((k+6+6:Nat):Int)) rfl (by omega) (Md 1 [3,4,5,6] rfl (Nx (Rg (Mv 2 rfl ?_))))))))))))))))))));intro a hF
 refine op_call hF rfl rfl rfl rfl Tryz.func79 (by kernel_rfl) rfl rfl (appendUTF8_walk hRow (65536+(n - 55296)*1024+(m - 56320)) (by omega) (by omega) hM) ?_
 clear hF hM a;intro a w v' hR hF
 obtain ⟨R',hRow',hM⟩:=hR
 revert a;refine Md 1 [3,4,5] rfl (Nb (Kp [3,4,5] rfl ?_))
 have hdr:i.drop (k+6+6)=r:=hr12
 have hle:k+6+6≤i.length:=by omega
 intro a hF
 exact ⟨(k+6+6,out++enc (65536+(n - 55296)*1024+(m - 56320))),⟨R',_,hF,hM,hRow',by simp only;rw [hdr];exact hr,hle,by simp only [List.length_append];have:=enc_len (65536+(n - 55296)*1024+(m - 56320));omega,by simp only;rw [hdr,←heq,hq];simp⟩,by simp only;omega⟩
section
variable {P:Program}{ops:Array Oper}{Q:Exit→Act→World→Prop}{md:Region.Mode}{S:World→Prop}{m:Nat}
def wpM (P:Program) (md:Region.Mode) (ops:Array Oper) (Q:Exit→Act→World→Prop) (S:World→Prop) (m:Nat):Nat→Array Bool→Act→World→Prop
  | 0,listed,a,w=>Region.ready md ops listed=[]∧Q .normal a w
  | f + 1, listed, a, w => (Region.ready md ops listed = [] → Q .normal a w) ∧
    ∀ i∈Region.ready md ops listed,wpOp P ops Q i (fun a' w'=>(S w'∨(listed.setIfInBounds i true).getD m false=true)∧wpM P md ops Q S m f (listed.setIfInBounds i true) a' w') a w
theorem wpM.any:∀ {f:Nat}{listed:Array Bool}{a:Act}{w:World},wpM P md ops Q S m f listed a w→wpAny P md ops Q f listed a w
  | 0,_,_,_,h=>h
  | _+1,_,_,_,h=>⟨h.1,fun i hi=>wpOp_mono (fun _ _ h'=>h'.2.any) (h.2 i hi)⟩
theorem listed_stays {listed:Array Bool}(h:listed.getD m false=true) (i:Nat):(listed.setIfInBounds i true).getD m false=true:=by
  by_cases e:i=m
  · subst e
    rcases Nat.lt_or_ge i listed.size with h' | h'
    · simp [h']
    · simp [Array.getElem?_eq_none h'] at h
  · rw [getD_set_ne false e];exact h
def Closed (md:Region.Mode) (ops:Array Oper) (listed:Array Bool):Prop:=∀ j oj,ops[j]?=some oj→listed.getD j false=true→∀ e∈oj.after,Region.binds md e=true→listed.getD e.on false=true
def closedB (md:Region.Mode) (ops:Array Oper) (listed:Array Bool):Bool:=(List.range ops.size).all fun j=> !listed.getD j false || match ops[j]? with
  | some oj=>oj.after.all fun e=> !Region.binds md e || listed.getD e.on false
  | none=>true
theorem Closed.of {listed:Array Bool}(h:closedB md ops listed=true):Closed md ops listed:=by
  intro j oj hj hl e he hb
  have h1:=List.all_eq_true.1 h j (List.mem_range.2 (Array.getElem?_eq_some_iff.1 hj).1)
  rw [hl,hj] at h1
  simp only [Bool.not_true,Bool.false_or] at h1
  have h2:=Array.all_eq_true_iff_forall_mem.1 h1 e he
  rw [hb] at h2
  simpa using h2
theorem Closed.set {listed:Array Bool}(h:Closed md ops listed) {i:Nat}(hi:i∈Region.ready md ops listed):Closed md ops (listed.setIfInBounds i true):=by
  obtain ⟨_,oi,hoi,hall⟩:=mem_ready.1 hi
  intro j oj hj hl e he hb
  by_cases hij:i=j
  · subst hij
    obtain rfl:=Option.some.inj (hj.symm.trans hoi)
    exact getD_set_true (hall e he hb)
  · rw [getD_set_ne false hij] at hl
    exact getD_set_true (h j oj hj hl e he hb)
def waitsT (md:Region.Mode) (ops:Array Oper):Nat→Nat→Nat→Bool
  | 0,_,_=>false
  | f+1,m,i=>Region.waitsFor md ops m i || (List.range ops.size).any fun k=>Region.waitsFor md ops m k&&waitsT md ops f k i
theorem waitsT_listed {listed:Array Bool}(hc:Closed md ops listed):∀ (f:Nat) {m i:Nat},waitsT md ops f m i=true→listed.getD m false=true→listed.getD i false=true
  | 0,_,_,h,_=>by simp [waitsT] at h
  | f + 1, m, i, h, hl => by
    simp only [waitsT,Bool.or_eq_true,List.any_eq_true,Bool.and_eq_true] at h
    have go:∀ k,Region.waitsFor md ops m k=true→listed.getD k false=true:=fun k hk=>by
      obtain ⟨om,hom,e,he,hb,heq⟩:=Region.waitsFor_spec hk
      rw [←heq];exact hc m om hom hl e he hb
    rcases h with h | ⟨k,_,h1,h2⟩
    · exact go i h
    · exact waitsT_listed hc f h2 (go k h1)
theorem waitsT_ready {listed:Array Bool}(hc:Closed md ops listed) {f:Nat}{m i:Nat}(h:waitsT md ops f m i=true) (hr:m∈Region.ready md ops listed):listed.getD i false=true:=by
  cases f with
  | zero=>simp [waitsT] at h
  | succ f =>
    simp only [waitsT,Bool.or_eq_true,List.any_eq_true,Bool.and_eq_true] at h
    obtain ⟨_,om,hom,hall⟩:=mem_ready.1 hr
    have go:∀ k,Region.waitsFor md ops m k=true→listed.getD k false=true:=fun k hk=>by
      obtain ⟨om',hom',e,he,hb,heq⟩:=Region.waitsFor_spec hk
      obtain rfl:=Option.some.inj (hom'.symm.trans hom)
      rw [←heq];exact hall e he hb
    rcases h with h | ⟨k,_,h1,h2⟩
    · exact go i h
    · exact waitsT_listed hc f h2 (go k h1)
theorem unlisted {listed:Array Bool}{i:Nat}(h:listed.getD i true=false): ¬ listed.getD i false=true:=by
  intro h1
  rcases Nat.lt_or_ge i listed.size with h' | h'
  · simp [h'] at h h1;rw [h] at h1;cases h1
  · simp [Array.getElem?_eq_none h'] at h1
theorem wpM.first {i:Nat}{oi:Oper}{v:Value}(hi:ops[i]?=some oi) (hsel:∀ (j:Nat) (o:Oper) cs b,ops[j]?=some o→o.op≠ .select cs b)
    (hQ:∀ c a w,Q (.panic c) (a.put oi.dst v) w→Q (.panic c) a w) {f0:Nat}(hm:waitsT md ops f0 m i=true):
    ∀ (f : Nat) (listed : Array Bool) (a : Act) (w : World), listed.getD m false = false → Closed md ops listed →
      (∀ j oj,ops[j]?=some oj→j≠i→listed.getD j true=false→(∀ e∈oj.after,Region.binds md e=true→e.on≠i)→oi.apart ops oj=true)→
      i∈Region.ready md ops listed→YieldsIf P ops S oi v a→S w→wpM P md ops Q S m f (listed.setIfInBounds i true) (a.put oi.dst v) w→wpM P md ops Q S m (f+1) listed a w
  | f, listed, a, w, hml, hc, hfree, hr, hy, hS, H => by
    refine ⟨fun h=>absurd hr (by rw [h];simp),fun j hj=> ?_⟩
    by_cases hji:j=i
    · subst hji
      exact hy.wpOp hi hS ⟨.inl hS,H⟩
    obtain ⟨hjun,oj,hoj,hall⟩:=mem_ready.1 hj
    have hiun:=unlisted (mem_ready.1 hr).1
    have hnot:∀ e∈oj.after,Region.binds md e=true→e.on≠i:=fun e he hb heq=>hiun (heq▸hall e he hb)
    have hjm:j≠m:=by
      rintro rfl
      exact hiun (waitsT_ready hc hm hj)
    have him:i≠m:=by
      rintro rfl
      exact hiun (waitsT_ready hc hm hr)
    cases f with
    | zero =>
      have:=ready_mono hj hji
      rw [H.1] at this
      cases this
    | succ f =>
      have h1:=H.2 j (ready_mono hj hji)
      have h2:=wpOp_putIf hoj (hfree j oj hoj hji hjun hnot) (fun cs b=>hsel i oi cs b hi) (fun cs b=>hsel j oj cs b hoj) hQ hy h1
      have hml':(listed.setIfInBounds j true).getD m false=false:=by rw [getD_set_ne false hjm];exact hml
      refine wpOp_mono (fun a' w' h3=> ?_) h2
      have hSw:S w':=by
        rcases h3.2.1 with h | h
        · exact h
        · rw [getD_set_ne false hjm,getD_set_ne false him,hml] at h;cases h
      refine ⟨.inl hSw,wpM.first hi hsel hQ hm f (listed.setIfInBounds j true) a' w' hml' (hc.set hj) (fun k ok hk hki hun hno=> ?_) (ready_mono hr (Ne.symm hji)) h3.1 hSw ?_⟩
      · refine hfree k ok hk hki ?_ hno
        by_cases hjk:j=k
        · subst hjk;exact hjun
        · rw [getD_set_ne true hjk] at hun;exact hun
      · rw [Array.setIfInBounds_comm _ _ hji]
        exact h3.2.2
end
section
variable {P:Program}{n:Nat}{K:List (Nat×Value)}{a:Act}{w:World}{Q:Exit→Act→World→Prop}{md:Region.Mode}{ops:Array Oper}{fuel:Nat}{listed:Array Bool}{oi:Oper}{S:World→Prop}{m:Nat}
theorem mix {id:Nat}{l:List Oper}(S:World→Prop) (m:Nat) (hm:P.follows .mixedOrders=true) (h:wpM P .any l.toArray Q S m l.length (Array.replicate l.length false) a w.drew):(Code.region id l.toArray true).wp P Q a w:=
  wp_region_any hm (by simpa using h.any)
def MQ (K:Act→World→Prop) (Q:Exit→Act→World→Prop):Exit→Act→World→Prop
  | .normal=>K
  | .exit i=>Q (.exit i)
  | .goto l=>Q (.goto l)
  | .ret=>Q .ret
  | .panic c=>Q (.panic c)
  | .outgrown=>Q .outgrown
theorem wp_MQ {o:Oper}{K' K:Act→World→Prop}(hK:∀ a w,K' a w→K a w) (h:o.wp P a w K' (MQ K Q)):o.wp P a w K Q:=by
  unfold Oper.wp at*
  generalize (execOp a.eval o).run P w=r at*
  cases r with
  | ok n w' =>
    cases n <;> simp only [Oper.upon] at h ⊢
    case value=>exact hK _ _ h
    case skip=>exact hK _ _ h
    case defer=>exact hK _ _ h
    case enter=>exact h.mono (fun e w'' he=>by cases e <;> first | exact hK _ _ he | exact he)
    case row=>exact Rows.mono h (fun _ _ he=>hK _ _ he)
  | halt x w'=>cases x <;> simp only [Oper.upon] at h ⊢;exact h
theorem malone (i:Nat) (hi:ops[i]?=some oi) (hr:Region.ready md ops listed=[i])
    (h:wpList P ops (MQ (fun a' w'=>(S w'∨(listed.setIfInBounds i true).getD m false=true)∧wpM P md ops Q S m fuel (listed.setIfInBounds i true) a' w') Q) [oi] a w):wpM P md ops Q S m (fuel+1) listed a w:=by
  refine ⟨fun h0=>absurd h0 (by rw [hr];simp),fun j hj=> ?_⟩
  rw [hr] at hj
  obtain rfl:=List.mem_singleton.1 hj
  unfold wpOp
  simp only [hi]
  unfold wpList at h
  split
  · rename_i hw
    rw [if_pos hw] at h
    rcases h with h | h
    · exact .inl (wp_MQ (fun _ _ h=>h) h)
    · exact .inr h
  · rename_i hw
    rw [if_neg hw] at h
    exact h
end
theorem mstep {P:Program}{a:Act}{w:World}{Q:Exit→Act→World→Prop}{ops:Array Oper}{K1 K2:Act→World→Prop}(h1:K1 a w) (h2:K2 a w):wpList P ops (MQ (fun a' w'=>K1 a' w'∧K2 a' w') Q) [] a w:=⟨h1,h2⟩
theorem mend {P:Program}{ops:Array Oper}{Q:Exit→Act→World→Prop}{md:Region.Mode}{S:World→Prop}{m fuel:Nat}{listed:Array Bool}{a:Act}{w:World}(h0:Region.ready md ops listed=[]) (h:Q .normal a w):wpM P md ops Q S m fuel listed a w:=by
  cases fuel with
  | zero=>exact ⟨h0,h⟩
  | succ f=>exact ⟨fun _=>h,fun i hi=>absurd hi (by rw [h0];simp)⟩
section
variable {P:Program}{n:Nat}{K:List (Nat×Value)}{a:Act}{w:World}{Q:Exit→Act→World→Prop}{md:Region.Mode}{ops:Array Oper}{fuel:Nat}{listed:Array Bool}{oi:Oper}{S S':World→Prop}{m:Nat}{v:Value}
theorem y_plain (hg:oi.guard=none) (hy:∀ w,S w→(execOp a.eval oi).run P w= .ok (.value v) w):YieldsIf P ops S oi v a:= .inl ⟨by simp [Region.wanted,hg],hy⟩
theorem wpM.firstP {i:Nat}(hi:ops[i]?=some oi) (hsel:∀ (j:Nat) (o:Oper) cs b,ops[j]?=some o→o.op≠ .select cs b) (hQ:∀ c a w,Q (.panic c) (a.put oi.dst v) w→Q (.panic c) a w) (him:i≠m):
    ∀ (f : Nat) (listed : Array Bool) (a : Act) (w : World), (S w ∨ listed.getD m false = true) →
      (∀ j oj,ops[j]?=some oj→j≠i→listed.getD j true=false→(∀ e∈oj.after,Region.binds md e=true→e.on≠i)→oi.apart ops oj=true)→
      i∈Region.ready md ops listed→YieldsIf P ops (fun _=>True) oi v a→wpM P md ops Q S m f (listed.setIfInBounds i true) (a.put oi.dst v) w→wpM P md ops Q S m (f+1) listed a w
  | f, listed, a, w, hS, hfree, hr, hy, H => by
    refine ⟨fun h=>absurd hr (by rw [h];simp),fun j hj=> ?_⟩
    by_cases hji:j=i
    · subst hji
      exact hy.wpOp hi trivial ⟨hS.imp id fun h=>listed_stays h _,H⟩
    obtain ⟨hjun,oj,hoj,hall⟩:=mem_ready.1 hj
    have hiun:=unlisted (mem_ready.1 hr).1
    have hnot:∀ e∈oj.after,Region.binds md e=true→e.on≠i:=fun e he hb heq=>hiun (heq▸hall e he hb)
    cases f with
    | zero =>
      have:=ready_mono hj hji
      rw [H.1] at this
      cases this
    | succ f =>
      have h1:=H.2 j (ready_mono hj hji)
      have h2:=wpOp_putIf hoj (hfree j oj hoj hji hjun hnot) (fun cs b=>hsel i oi cs b hi) (fun cs b=>hsel j oj cs b hoj) hQ hy h1
      refine wpOp_mono (fun a' w' h3=> ?_) h2
      have hSw:S w'∨(listed.setIfInBounds j true).getD m false=true:=by
        rcases h3.2.1 with h | h
        · exact .inl h
        · rw [Array.setIfInBounds_comm _ _ (Ne.symm hji),getD_set_ne false him] at h
          exact .inr h
      refine ⟨hSw,wpM.firstP hi hsel hQ him f (listed.setIfInBounds j true) a' w' hSw (fun k ok hk hki hun hno=> ?_) (ready_mono hr (Ne.symm hji)) h3.1 ?_⟩
      · refine hfree k ok hk hki ?_ hno
        by_cases hjk:j=k
        · subst hjk;exact hjun
        · rw [getD_set_ne true hjk] at hun;exact hun
      · rw [Array.setIfInBounds_comm _ _ hji]
        exact h3.2.2
theorem mtakeL (i:Nat) {d:Nat}(hF:Fr n K a) (hS:S w) (hi:ops[i]?=some oi) (hs:Region.noSelect ops=true) (hf:Region.free md ops listed i=true) (hr:(Region.ready md ops listed).contains i=true) (hm:waitsT md ops ops.size m i=true) (hml:(!listed.getD m false&&closedB md ops listed)=true)
    (hQ:∀ c a w,Q (.panic c) (a.put (some d) v) w→Q (.panic c) a w) (hd:oi.dst=some d) (hlt:Nat.blt d n=true) (hy:YieldsIf P ops S oi v a)
    (h:∀ a',Fr n ((d,v)::K) a'→wpM P md ops Q S m fuel (listed.setIfInBounds i true) a' w):wpM P md ops Q S m (fuel+1) listed a w:=
  wpM.first hi (Region.noSelect_spec hs) (by rw [hd];exact hQ) hm fuel listed a w (by simp only [Bool.and_eq_true,Bool.not_eq_true'] at hml;exact hml.1) (.of (by simp only [Bool.and_eq_true] at hml;exact hml.2)) (Region.free_spec hi hf) (by simpa using hr) hy hS (by rw [hd];exact h _ (hF.put d v (Nat.le_of_ble_eq_true hlt)))
theorem mtakeP (i:Nat) {d:Nat}(hF:Fr n K a) (hS:S w∨listed.getD m false=true) (hi:ops[i]?=some oi) (hs:Region.noSelect ops=true) (hf:Region.free md ops listed i=true) (hr:(Region.ready md ops listed).contains i=true) (him:Nat.beq i m=false)
    (hQ:∀ c a w,Q (.panic c) (a.put (some d) v) w→Q (.panic c) a w) (hd:oi.dst=some d) (hlt:Nat.blt d n=true) (hy:YieldsIf P ops (fun _=>True) oi v a)
    (h:∀ a',Fr n ((d,v)::K) a'→wpM P md ops Q S m fuel (listed.setIfInBounds i true) a' w):wpM P md ops Q S m (fuel+1) listed a w:=
  wpM.firstP hi (Region.noSelect_spec hs) (by rw [hd];exact hQ) (fun e=>by rw [e,Nat.beq_refl] at him;cases him) fuel listed a w hS (Region.free_spec hi hf) (by simpa using hr) hy (by rw [hd];exact h _ (hF.put d v (Nat.le_of_ble_eq_true hlt)))
end
def nameI (T key:Str) (ns:List (Nat×Nat)):Int:=match nameIx T key ns with | some j=>(j:Int) | none=> -1
theorem nameIx_at {T key:Str}:∀ {ns:List (Nat×Nat)}{j:Nat},(∀ i x,i<j→ns[i]?=some x→unquote (sub T x.1 x.2)≠key)→(∃ x,ns[j]?=some x∧unquote (sub T x.1 x.2)=key)→nameIx T key ns=some j
  | [],j,_,⟨x,h,_⟩=>by simp at h
  | n::ns,0,_,⟨x,h,hk⟩=>by simp only [List.getElem?_cons_zero,Option.some.injEq] at h;subst h;simp [nameIx,hk]
  | n :: ns, j + 1, hn, ⟨x, h, hk⟩ => by
    have h0:=hn 0 n (Nat.succ_pos _) rfl
    have:=nameIx_at (ns:=ns) (j:=j) (fun i x hi hx=>hn (i+1) x (by omega) (by simpa using hx)) ⟨x,by simpa using h,hk⟩
    simp [nameIx,h0,this]
theorem nameIx_none {T key:Str}:∀ {ns:List (Nat×Nat)},(∀ x∈ns,unquote (sub T x.1 x.2)≠key)→nameIx T key ns=none
  | [],_=>rfl
  | n::ns,hn=>by simp [nameIx,hn n (by simp),nameIx_none (ns:=ns) fun x hx=>hn x (by simp [hx])]
theorem named_walk {T key:Str}(hT:T.length≤2^37) {B:Nat}{wc w0:World}{L:List Bk}{k b e:Nat}{ns:List (Nat×Nat)}{kids:List Js.Place}{cs:List Value}(hR:RepPl L (.mk k b e ns kids) cs) (hwn:∀ x∈ns,Qs T x.1 x.2) (hM0:Mem B wc L w0):
    Calls Tryz.prog 49 #[.string (mkS T),.agg cs.toArray,.string (mkS key)] w0 (Ret fun v w'=>v= .int .i64 (nameI T key ns)∧Mem B wc L w'):=by
 have hM:=hM0
 simp only [RepPl] at hR
 obtain ⟨sn,sk,xs,rfl,hsn,hsk,hkr⟩:=hR
 obtain ⟨o1,c1,rfl⟩:=hsn.shape
 obtain ⟨o2,c2,rfl⟩:=hsk.shape
 have hsz:=hsn.small
 refine enter (l:=[.string (mkS T),.agg ([.int .i64 (k:Int),.int .i64 (b:Int),.int .i64 (e:Int),.slice o1 ns.length c1,.slice o2 kids.length c2]:List Value).toArray,.string (mkS key)]) 30 Tryz.func49 rfl rfl (Sq (Rg ?_));intro a hF
 refine op_box hF hM rfl rfl rfl rfl rfl rfl ?_;clear hF hM a;intro a w b4 hF hM
 revert a;refine Md 1 [0,2,4] rfl (Nx (Sq (Sq (Rg (Md 1 [0,2,4,7] rfl (Nx (Bo (Kp [0,2,4,7] rfl ?_))))))));intro a hF
 refine loopX (fun (j:Nat) a w=>Fr 33 [(0,.string (mkS T)),(2,.string (mkS key)),(4,.pointer (some ⟨b4,0,none⟩)),(7,.int .i64 (j:Int))] a∧Mem B wc ((b4,27,[.int .i64 (k:Int),.int .i64 (b:Int),.int .i64 (e:Int),.slice o1 ns.length c1,.slice o2 kids.length c2])::L) w∧(∀ i x,i<j→ns[i]?=some x→unquote (sub T x.1 x.2)≠key)∧j≤ns.length) (fun j=>ns.length - j) (0) ?_ (fun j a w hI=> ?_)
 · exact ⟨hF,hM,fun i x h=>absurd h (Nat.not_lt_zero _),Nat.zero_le _⟩
 clear hF hM
 obtain ⟨hF,hM,hno,hjl⟩:=hI
 revert a;refine Sq (Sq (Rg (Mv 2 rfl (Ld hM 0 rfl rfl (Md 2 [0,2,4,7,12] rfl (Nx (Ce rfl (fun ht=> ?_) ((fun ht=> ?_)))))))))
 ·
  have hjn:j=ns.length:=by have:=of_decide_eq_false ht;omega
  have e1:nameI T key ns= -1:=by unfold nameI;rw [nameIx_none (fun x hx=>by obtain ⟨i,hi⟩:=List.mem_iff_getElem?.1 hx;exact hno i x (by rw [hjn];exact (List.getElem?_eq_some_iff.1 hi).1) hi)]
  exact Ex (Ot (Ot (Ob (Nx (Sq (Rg (Md 1 [6] rfl (Nx (Re (Y1 rfl rfl ⟨_,rfl,by rw [e1],hM.sub [(b4,27,[.int .i64 (k:Int),.int .i64 (b:Int),.int .i64 (e:Int),.slice o1 ns.length c1,.slice o2 kids.length c2])] (pc fun x=>by simp [ct,ct_append] <;> omega)⟩))))))))))
 have hj:j<ns.length:=by have:=of_decide_eq_true ht;omega
 obtain ⟨x,hx⟩:∃ x,ns[j]?=some x:=⟨_,List.getElem?_eq_getElem hj⟩
 obtain ⟨hx1,hx2,i,hin,hsub⟩:=hwn x (List.mem_of_getElem? hx)
 have hun:unquote (sub T x.1 x.2)=unq i:=by rw [hsub,unquote_mk]
 have hil:i.length≤2^38:=by have:=congrArg List.length hsub;simp [sub] at this;omega
 obtain ⟨g,cap,hv,hcell⟩:=hsn.row (by omega)
 have ho:o1=some ⟨g,0,none⟩:=by cases hv;rfl
 obtain ⟨hs1,hs2⟩:=spans_at hx
 refine Sk (Nx (Sq (Bo (Sq ?_))));intro a hF
 refine mix (fun w=>Mem B wc ((b4,27,[.int .i64 (k:Int),.int .i64 (b:Int),.int .i64 (e:Int),.slice o1 ns.length c1,.slice o2 kids.length c2])::L) w) 16 (by kernel_rfl) ?_
 replace hM:=hM.drew
 generalize World.drew w=w at*
 refine mtakeP 0 hF (.inl hM) rfl (by kernel_rfl) (by kernel_rfl) (by kernel_rfl) rfl (fun _ _ _ h=>h) rfl rfl (y_plain rfl (fun w _=>gives_move hF rfl rfl _)) ?_;clear hF a;intro a hF
 refine mtakeP 1 hF (.inl hM) rfl (by kernel_rfl) (by kernel_rfl) (by kernel_rfl) rfl (fun _ _ _ h=>h) rfl rfl (y_plain rfl (fun w _=>gives_fieldAddr hF 3 rfl rfl (field_at Tryz.underlying27 rfl rfl (by kernel_rfl)) _)) ?_;clear hF a;intro a hF
 refine mtakeL 2 hF hM rfl (by kernel_rfl) (by kernel_rfl) (by kernel_rfl) (by kernel_rfl) (by kernel_rfl) (fun _ _ _ h=>h) rfl rfl (y_plain rfl (fun w hM=>gives_load hF hM 0 rfl Tryz.underlying24 rfl rfl rfl rfl)) ?_;clear hF a;intro a hF
 rw [ho] at hF
 refine mtakeP 3 hF (.inl hM) rfl (by kernel_rfl) (by kernel_rfl) (by kernel_rfl) rfl (fun _ _ _ h=>h) rfl rfl (y_plain rfl (fun w _=>gives_move hF rfl rfl _)) ?_;clear hF a;intro a hF
 refine mtakeP 4 hF (.inl hM) rfl (by kernel_rfl) (by kernel_rfl) (by kernel_rfl) rfl (fun _ _ _ h=>h) rfl rfl (y_plain rfl (fun w _=>gives_indexAddrS (sz:=2) (j) hF rfl Tryz.underlying24 (by kernel_rfl) rfl rfl rfl hj _)) ?_;clear hF a;intro a hF
 refine mtakeP 5 hF (.inl hM) rfl (by kernel_rfl) (by kernel_rfl) (by kernel_rfl) rfl (fun _ _ _ h=>h) rfl rfl (y_plain rfl (fun w _=>gives_fieldAddr hF 0 rfl rfl (field_at Tryz.underlying80 rfl rfl (by kernel_rfl)) _)) ?_;clear hF a;intro a hF
 refine mtakeL 6 hF hM rfl (by kernel_rfl) (by kernel_rfl) (by kernel_rfl) (by kernel_rfl) (by kernel_rfl) (fun _ _ _ h=>h) rfl rfl (y_plain rfl (fun w hM=>gives_load1 hF rfl Tryz.underlying3 rfl rfl ((show w.cell? ⟨g,0+j*2+0,none⟩=some (.int .i64 (x.1:Int)) from by rw [Nat.zero_add];exact hcell hM (by intro z hz;simp [hz]) _ _ hs1)))) ?_;clear hF a;intro a hF
 refine mtakeP 7 hF (.inl hM) rfl (by kernel_rfl) (by kernel_rfl) (by kernel_rfl) rfl (fun _ _ _ h=>h) rfl rfl (y_plain rfl (fun w _=>gives_fieldAddr hF 3 rfl rfl (field_at Tryz.underlying27 rfl rfl (by kernel_rfl)) _)) ?_;clear hF a;intro a hF
 refine mtakeL 8 hF hM rfl (by kernel_rfl) (by kernel_rfl) (by kernel_rfl) (by kernel_rfl) (by kernel_rfl) (fun _ _ _ h=>h) rfl rfl (y_plain rfl (fun w hM=>gives_load hF hM 0 rfl Tryz.underlying24 rfl rfl rfl rfl)) ?_;clear hF a;intro a hF
 rw [ho] at hF
 refine mtakeP 9 hF (.inl hM) rfl (by kernel_rfl) (by kernel_rfl) (by kernel_rfl) rfl (fun _ _ _ h=>h) rfl rfl (y_plain rfl (fun w _=>gives_move hF rfl rfl _)) ?_;clear hF a;intro a hF
 refine mtakeP 10 hF (.inl hM) rfl (by kernel_rfl) (by kernel_rfl) (by kernel_rfl) rfl (fun _ _ _ h=>h) rfl rfl (y_plain rfl (fun w _=>gives_indexAddrS (sz:=2) (j) hF rfl Tryz.underlying24 (by kernel_rfl) rfl rfl rfl hj _)) ?_;clear hF a;intro a hF
 refine mtakeP 11 hF (.inl hM) rfl (by kernel_rfl) (by kernel_rfl) (by kernel_rfl) rfl (fun _ _ _ h=>h) rfl rfl (y_plain rfl (fun w _=>gives_fieldAddr hF 1 rfl rfl (field_at Tryz.underlying80 rfl rfl (by kernel_rfl)) _)) ?_;clear hF a;intro a hF
 refine mtakeL 12 hF hM rfl (by kernel_rfl) (by kernel_rfl) (by kernel_rfl) (by kernel_rfl) (by kernel_rfl) (fun _ _ _ h=>h) rfl rfl (y_plain rfl (fun w hM=>gives_load1 hF rfl Tryz.underlying3 rfl rfl ((show w.cell? ⟨g,0+j*2+1,none⟩=some (.int .i64 (x.2:Int)) from by rw [Nat.zero_add];exact hcell hM (by intro z hz;simp [hz]) _ _ hs2)))) ?_;clear hF a;intro a hF
 refine mtakeP 13 hF (.inl hM) rfl (by kernel_rfl) (by kernel_rfl) (by kernel_rfl) rfl (fun _ _ _ h=>h) rfl rfl (y_plain rfl (fun w _=>gives_slice_str (x.1) (x.2) hF rfl Tryz.underlying9 rfl rfl rfl rfl rfl hx1 hx2 _)) ?_;clear hF a;intro a hF
 rw [show List.take (x.2 - x.1) (List.drop x.1 T)=34::i++ [34] from hsub] at hF
 refine mtakeP 15 hF (.inl hM) rfl (by kernel_rfl) (by kernel_rfl) (by kernel_rfl) rfl (fun _ _ _ h=>h) rfl rfl (y_plain rfl (fun w _=>gives_move hF rfl rfl _)) ?_;clear hF a;intro a hF
 refine malone 14 rfl (by kernel_rfl) ?_
 revert a;refine Cm hM rfl rfl rfl (unquote_walk hin (by omega) _) ?_
 clear hM;intro w v hR hM hBe
 obtain rfl:=hR
 intro a hF
 refine mstep (.inl (hM)) ?_
 refine malone 16 rfl (by kernel_rfl) ?_
 refine op_eqlStr hF rfl rfl rfl rfl rfl rfl ?_;clear hF a;intro a hF
 refine mstep (.inr (by kernel_rfl)) ?_
 refine mend (by kernel_rfl) ?_
 revert a;refine Kp [0,2,4,7,31] rfl (Nx (Ce rfl (fun ht=> ?_) ((fun ht=> ?_))))
 ·
  have hne:unq i≠key:=by simpa using ht
  refine Sk (Nb (Nx (Rg (Mv 1 rfl (Sm (((j+1:Nat):Int)) rfl (by omega) (Md 1 [0,2,4,7] rfl ?_))))));intro a hF
  exact ⟨j+1,⟨hF,hM,fun i y hi hy=>by rcases Nat.lt_or_eq_of_le (Nat.le_of_lt_succ hi) with h | h;exact hno i y h hy;rw [h,hx] at hy;obtain rfl:=Option.some.inj hy;rw [hun];exact hne,hj⟩,by omega⟩
 have hk:unq i=key:=by simpa using ht
 have e1:nameI T key ns=(j:Int):=by unfold nameI;rw [nameIx_at hno ⟨x,hx,by rw [hun];exact hk⟩]
 exact Sq (Rg (Md 2 [6] rfl (Nx (Re (Rb (Rt (Rt (Rb (Rt (Y1 rfl rfl ⟨_,rfl,by rw [e1],hM.sub [(b4,27,[.int .i64 (k:Int),.int .i64 (b:Int),.int .i64 (e:Int),.slice o1 ns.length c1,.slice o2 kids.length c2])] (pc fun x=>by simp [ct,ct_append] <;> omega)⟩))))))))))
theorem idx_zero {s r:Str}(h:s=48::r) (hl:1<s.length):idxok s=false:=by
  unfold idxok;rw [decide_eq_false_iff_not];rintro ⟨_,_,h3⟩;exact h3 hl (by rw [h];rfl)
theorem idx_nil {s:Str}(h:s=[]):idxok s=false:=by subst h;rfl
theorem idx_all {s:Str}{i:Nat}(h0:s≠ []) (hd:Digs (s.take i)) (hi:s.length≤i) (hz:1<s.length→s.head?≠some 48):idxok s=true:=by
  rw [List.take_of_length_le hi] at hd
  exact decide_eq_true ⟨h0,hd,hz⟩
theorem index_walk (s:Str) (hl:s.length≤2^40) (w0:World):Calls Tryz.prog 80 #[.string (mkS s)] w0 (Ret fun v w'=>(∃ n:Nat,v= .tuple #[.int .i64 (n:Int),.bool (idxok s)]∧(idxok s=true→n=worth s∨(2^58≤n∧2^58≤worth s)))∧Below w0.heap.size w0 w'):=by
 have hM:=MS0 w0
 refine enter (l:=[.string (mkS s)]) 42 Tryz.func80 rfl rfl (Sq (Rg (Md 2 [0] rfl (Nx (Sq ?_)))));intro a hF
 refine cut (fun a w=>∃ b:Bool,Fr 43 [(0,.string (mkS s)),(18,.bool b)] a∧Mem w0.heap.size w0 [] w∧((b=true∧idxok s=false)∨(b=false∧s≠ []∧(1<s.length→s.head?≠some 48)))) ?_ (fun a w h=> ?_)
 ·
  rcases (show s=[]∨(s≠ []∧s.length≤1)∨∃ c r,s=c::r∧1<s.length by rcases s with _ | ⟨c,r⟩;exact .inl rfl;rcases Nat.lt_or_ge 1 (c::r).length with h | h;exact .inr (.inr ⟨c,r,rfl,h⟩);exact .inr (.inl ⟨by simp,h⟩)) with h0 | ⟨h0,h1⟩ | ⟨c,r,hcr,h1⟩
  ·
   have hcut:=Or.inl (b:=(true=false∧s≠ []∧(1<s.length→s.head?≠some 48))) (And.intro (Eq.refl true) (idx_nil h0))
   revert a;refine Rg (Mv 1 rfl ?_);intro a hF
   refine op_eqlStr hF rfl rfl rfl rfl rfl rfl ?_;clear hF a;intro a hF
   rw [show (s==([]:Str))=true from by rw [h0];rfl] at hF
   revert a;refine Md 10 [0,18] rfl ?_;intro a hF
   exact ⟨_,hF,hM,hcut⟩
  ·
   have hcut:=Or.inr (a:=(false=true∧idxok s=false)) (And.intro (Eq.refl false) (And.intro h0 (fun h:1<s.length=>show s.head?≠some 48 by omega)))
   revert a;refine Rg (Mv 1 rfl ?_);intro a hF
   refine op_eqlStr hF rfl rfl rfl rfl rfl rfl ?_;clear hF a;intro a hF
   rw [show (s==([]:Str))=false from by simpa using h0] at hF
   revert a;refine Mv 3 rfl (Bf rfl (by omega) (Md 6 [0,18] rfl ?_));intro a hF
   exact ⟨_,hF,hM,hcut⟩
  have h0:s≠ []:=by rw [hcr];simp
  have hcut:(((c.toNat:Int)==48)=true∧idxok s=false)∨(((c.toNat:Int)==48)=false∧s≠ []∧(1<s.length→s.head?≠some 48)):=by
    cases ht:((c.toNat:Int)==48)
    · exact .inr ⟨rfl,h0,fun _ e=>by rw [hcr] at e;exact eq_f (d:=48) rfl ht (Option.some.inj e)⟩
    · exact .inl ⟨rfl,idx_zero (r:=r) (by rw [hcr,eq_t (d:=48) rfl ht]) h1⟩
  revert a;refine Rg (Mv 1 rfl ?_);intro a hF
  refine op_eqlStr hF rfl rfl rfl rfl rfl rfl ?_;clear hF a;intro a hF
  rw [show (s==([]:Str))=false from by simpa using h0] at hF
  revert a;refine Mv 3 rfl (Bt rfl (by omega) (Mv 2 rfl (Ix (0) c rfl (by rw [hcr];rfl) (by omega) (Md 3 [0,18] rfl ?_))));intro a hF
  exact ⟨_,hF,hM,hcut⟩
 clear hF hM
 obtain ⟨b,hF,hM,hb⟩:=h
 revert a;refine Cd rfl (fun ht=> ?_) ((fun ht=> ?_))
 ·
  have hbad:idxok s=false:=by rcases hb with ⟨_,h⟩ | ⟨h,_⟩;exact h;rw [h] at ht;cases ht
  refine Sq (Rg (Md 2 [2,3] rfl (Nx (Re (Rt ?_)))));intro a hF
  exact ret2 hF rfl rfl rfl ⟨_,rfl,⟨0,by rw [hbad];rfl,fun h=>by rw [hbad] at h;cases h⟩,hM.below⟩
 obtain ⟨h0,hz⟩:s≠ []∧(1<s.length→s.head?≠some 48):=by rcases hb with ⟨h,_⟩ | ⟨_,h⟩;rw [h] at ht;cases ht;exact h
 refine Sk (Nx (Sq (Rg (Md 1 [0,4] rfl (Nx (Sq (Sq (Rg (Md 1 [0,4,5] rfl (Nx (Bo (Kp [0,4,5] rfl ?_))))))))))));intro a hF
 refine loopX (fun (x:Nat×Nat) a w=>Fr 43 [(0,.string (mkS s)),(4,.int .i64 (x.2:Int)),(5,.int .i64 (x.1:Int))] a∧Mem w0.heap.size w0 [] w∧Digs (s.take x.1)∧Ix58 s x.1 x.2∧x.2≤2^62∧x.1≤s.length) (fun x=>s.length - x.1) ((0,0)) ?_ (fun x a w hI=> ?_)
 · exact ⟨hF,hM,by intro c hc;simp at hc,.inl (by simp [worth]),by decide,Nat.zero_le _⟩
 clear hF hM
 obtain ⟨i,n⟩:=x
 obtain ⟨hF,hM,hdg,hix,hn62,hil⟩:=hI
 simp only at hF hM hdg hix hn62 hil
 revert a;refine Sq (Sq (Rg (Md 4 [0,4,5,22] rfl (Nx (Ce rfl (fun ht=> ?_) ((fun ht=> ?_)))))))
 ·
  have hge:s.length≤i:=by have:=of_decide_eq_false ht;omega
  have hgood:=idx_all h0 hdg hge hz
  have hval:n=worth s∨(2^58≤n∧2^58≤worth s):=by unfold Ix58 at hix;rw [List.take_of_length_le hge] at hix;exact hix
  refine Ex (Ot (Ot (Ob (Nx (Sq (Rg (Md 3 [2,3] rfl (Nx (Re ?_)))))))));intro a hF
  exact ret2 hF rfl rfl rfl ⟨_,rfl,⟨n,by rw [hgood],fun _=>hval⟩,hM.below⟩
 have hi:i<s.length:=by have:=of_decide_eq_true ht;omega
 obtain ⟨c,r,hd,hg⟩:=drop_cons hi
 refine Sk (Nx ?_);intro a hF
 refine cutF (fun a w=>∃ n1:Nat,Fr 43 [(0,.string (mkS s)),(4,.int .i64 (n1:Int)),(5,.int .i64 (i:Int))] a∧Mem w0.heap.size w0 [] w∧Ix58 s (i+1) n1∧n1≤2^62∧isDig c=true) (fun a w h=> ?_) ?_
 ·
  clear hF hM
  obtain ⟨n1,hF,hM,hix1,hn1,hcd⟩:=h
  revert a;refine Rg (Mv 1 rfl (Sm (((i+1:Nat):Int)) rfl (by omega) (Md 1 [0,4,5] rfl ?_)));intro a hF
  exact ⟨(i+1,n1),⟨hF,hM,hdg.next hg hcd,hix1,hn1,hi⟩,by simp only;omega⟩
 revert a;refine Bo (Sq (Rg (Mv 2 rfl (Ix (i) c rfl hg (by omega) (Md 1 [0,4,5,6] rfl (Nx (Sq (Sq ?_))))))))
 rcases (show c.toNat<48∨(¬ c.toNat<48∧57<c.toNat)∨(¬ c.toNat<48∧ ¬ 57<c.toNat) by omega) with h1 | ⟨h1,h2⟩ | ⟨h1,h2⟩
 ·
  have hbad:=idx_bad hg (isDig_lo h1)
  refine Rg (Mv 1 rfl (Bt rfl (by omega) (Md 4 [0,4,5,6,33] rfl (Nx (Ct rfl (Sq (Rg (Md 2 [2,3] rfl (Nx (Re (Rt (Rb (Rt (Rt (Rb (Rt ?_))))))))))))))));intro a hF
  exact ret2 hF rfl rfl rfl ⟨_,rfl,⟨0,by rw [hbad];rfl,fun h=>by rw [hbad] at h;cases h⟩,hM.below⟩
 ·
  have hbad:=idx_bad hg (isDig_hi h2)
  refine Rg (Mv 1 rfl (Bf rfl (by omega) (Mv 2 rfl (Bt rfl (by omega) (Md 1 [0,4,5,6,33] rfl (Nx (Ct rfl (Sq (Rg (Md 2 [2,3] rfl (Nx (Re (Rt (Rb (Rt (Rt (Rb (Rt ?_))))))))))))))))));intro a hF
  exact ret2 hF rfl rfl rfl ⟨_,rfl,⟨0,by rw [hbad];rfl,fun h=>by rw [hbad] at h;cases h⟩,hM.below⟩
 have hcd:=isDig_of (c:=c) (by omega) (by omega)
 have hdgc:dg c=c.toNat - 48:=rfl
 refine Rg (Mv 1 rfl (Bf rfl (by omega) (Mv 2 rfl (Bf rfl (by omega) (Md 1 [0,4,5,6,33] rfl (Nx (Cf rfl (Sk (Nx (Sq (Rg (Md 2 [0,4,5,6,35] rfl (Nx (Ce rfl (fun ht=> ?_) ((fun ht=> ?_))))))))))))))))
 ·
  have hnlt:=of_decide_eq_false ht
  refine Rg (Md 1 [0,4,5] rfl (Nb (Kp [0,4,5] rfl ?_)));intro a hF
  exact ⟨2^62,hF,hM,hix.high (by omega) hg,Nat.le_refl _,hcd⟩
 have hlt:=of_decide_eq_true ht
 refine Rg (Mv 1 rfl (Sm (((n*10:Nat):Int)) rfl (by omega) (Mv 1 rfl ?_)));intro a hF
 refine op_sum hF rfl ((dg c:Int)) rfl rfl rfl rfl rfl rfl (by omega) (IntWalk.u8_in _ ⟨by omega,by omega⟩) ?_;clear hF a;intro a hF
 refine op_conv_to hF rfl rfl rfl rfl Tryz.underlying5 Tryz.underlying3 rfl (wrap_i64 (by omega) (by omega)) ?_;clear hF a;intro a hF
 revert a;refine Sm (((n*10+dg c:Nat):Int)) rfl (by omega) (Md 1 [0,4,5] rfl (Nb (Kp [0,4,5] rfl ?_)));intro a hF
 exact ⟨n*10+dg c,hF,hM,hix.low (by omega) hg,by omega,hcd⟩
theorem brk_short {s:Str}(h:s.length<3):brk s=none:=by
  unfold brk;split
  · rw [if_neg];rintro ⟨h1,_⟩;simp only [List.length_cons] at h;omega
  · rfl
theorem brk_first {s:Str}{c:UInt8}(h:s[0]?=some c) (hc:c≠91):brk s=none:=by
  unfold brk;split
  · simp at h;exact absurd h.symm hc
  · rfl
theorem brk_is {s:Str}{d:UInt8}(h3:3≤s.length) (h:s[0]?=some 91) (hd:s[s.length - 1]?=some d):brk s=if d=93∧idxok ((s.drop 1).take (s.length - 1 - 1))=true then some ((s.drop 1).take (s.length - 1 - 1)) else none:=by
  cases s with
  | nil=>simp at h3
  | cons c r =>
    obtain rfl:c=91:=by simpa using h
    have h0:r≠ []:=by rintro rfl;simp at h3
    have e1:r.dropLast=((91::r:Str).drop 1).take ((91::r:Str).length - 1 - 1):=by simp [List.dropLast_eq_take]
    have e2:r.getLast?=some d:=by rw [List.getLast?_eq_getElem?,←hd];cases r with | nil=>exact absurd rfl h0 | cons x r=>simp
    have h2:2≤r.length:=by simpa using h3
    rw [←e1]
    unfold brk
    simp only
    rw [e2]
    by_cases hx:d=93∧idxok r.dropLast=true
    · rw [if_pos hx,if_pos ⟨h2,by rw [hx.1],hx.2⟩]
    · rw [if_neg hx,if_neg]
      rintro ⟨_,h5,h6⟩
      exact hx ⟨Option.some.inj h5,h6⟩
theorem bracket_walk (s:Str) (hl:s.length≤2^40) (w0:World):Calls Tryz.prog 50 #[.string (mkS s)] w0 (Ret fun v w'=>(∃ n:Nat,v= .tuple #[.int .i64 (n:Int),.bool (brk s).isSome]∧∀ d,brk s=some d→n=worth d∨(2^58≤n∧2^58≤worth d))∧Below w0.heap.size w0 w'):=by
 have hM:=MS0 w0
 refine enter (l:=[.string (mkS s)]) 27 Tryz.func50 rfl rfl (Sq (Rg (Md 2 [0] rfl (Nx (Sq ?_)))));intro a hF
 refine cutF (fun a w=>∃ b:Bool,Fr 28 [(0,.string (mkS s)),(19,.bool b)] a∧Mem w0.heap.size w0 [] w∧((b=true∧brk s=none)∨(b=false∧3≤s.length∧s[0]?=some 91∧s[s.length - 1]?=some 93))) (fun a w h=> ?_) ?_
 ·
  clear hF hM
  obtain ⟨b,hF,hM,hb⟩:=h
  revert a;refine Cd rfl (fun ht=> ?_) ((fun ht=> ?_))
  ·
   have hbad:brk s=none:=by rcases hb with ⟨_,h⟩ | ⟨h,_⟩;exact h;rw [h] at ht;cases ht
   refine Sq (Rg (Md 2 [2,3] rfl (Nx (Re (Rt ?_)))));intro a hF
   exact ret2 hF rfl rfl rfl ⟨_,rfl,⟨0,by rw [hbad];rfl,fun d h=>by rw [hbad] at h;cases h⟩,hM.below⟩
  obtain ⟨h3,h91,h93⟩:3≤s.length∧s[0]?=some 91∧s[s.length - 1]?=some 93:=by rcases hb with ⟨h,_⟩ | ⟨_,h⟩;rw [h] at ht;cases ht;exact h
  have hbk:=brk_is h3 h91 h93
  refine Sk (Nx (Sq (Rg (Mv 3 rfl (Sm (((s.length - 1:Nat):Int)) rfl (by omega) ?_)))));intro a hF
  refine op_slice_str hF rfl 1 (s.length - 1) rfl rfl rfl Tryz.underlying9 rfl rfl rfl rfl rfl (by omega) (by omega) ?_;clear hF a;intro a hF
  revert a;refine Cm hM rfl rfl rfl (index_walk ((s.drop 1).take (s.length - 1 - 1)) (by rw [List.length_take,List.length_drop];omega) _) ?_
  clear hM;intro w v hR hM hBe
  obtain ⟨n,rfl,hn⟩:=hR
  refine Md 4 [2,3] rfl (Nx (Re ?_));intro a hF
  exact ret2 hF rfl rfl rfl ⟨_,rfl,⟨n,by rw [hbk];cases idxok ((s.drop 1).take (s.length - 1 - 1)) <;> rfl,fun d h=>by rw [hbk] at h;rcases Classical.em ((93:UInt8)=93∧idxok ((s.drop 1).take (s.length - 1 - 1))=true) with hh | hh;rw [if_pos hh] at h;rw [←Option.some.inj h];exact hn hh.2;rw [if_neg hh] at h;cases h⟩,hM.below⟩
 rcases (show s.length<3∨∃ c d,3≤s.length∧s[0]?=some c∧s[s.length - 1]?=some d by rcases Nat.lt_or_ge s.length 3 with h | h;exact .inl h;exact .inr ⟨_,_,h,List.getElem?_eq_getElem (by omega),List.getElem?_eq_getElem (by omega)⟩) with h3 | ⟨c,d,h3,hc,hd⟩
 ·
  have hcut:(true=true∧brk s=none)∨(true=false∧3≤s.length∧s[0]?=some 91∧s[s.length - 1]?=some 93):= .inl ⟨rfl,brk_short h3⟩
  revert a;refine Rg (Mv 2 rfl (Bt rfl (by omega) (Md 13 [0,19] rfl ?_)));intro a hF
  exact ⟨_,hF,hM,hcut⟩
 rcases Classical.em (c=91) with h91 | h91
 ·
  subst h91
  have hcut:(((d.toNat:Int) !=93)=true∧brk s=none)∨(((d.toNat:Int) !=93)=false∧3≤s.length∧s[0]?=some 91∧s[s.length - 1]?=some 93):=by
    cases ht:((d.toNat:Int) !=93)
    · exact .inr ⟨rfl,h3,hc,by rw [hd,ne_f (d:=93) rfl ht]⟩
    · exact .inl ⟨rfl,by rw [brk_is h3 hc hd,if_neg (fun h=>ne_t (d:=93) rfl ht h.1)]⟩
  revert a;refine Rg (Mv 2 rfl (Bf rfl (by omega) (Mv 2 rfl (Ix (0) 91 rfl hc (by omega) (Mv 6 rfl (Sm (((s.length - 1:Nat):Int)) rfl (by omega) (Ix (s.length - 1) d rfl hd (by omega) (Md 2 [0,19] rfl ?_))))))));intro a hF
  exact ⟨_,hF,hM,hcut⟩
 have hcut:(true=true∧brk s=none)∨(true=false∧3≤s.length∧s[0]?=some 91∧s[s.length - 1]?=some 93):= .inl ⟨rfl,brk_first hc h91⟩
 revert a;refine Rg (Mv 2 rfl (Bf rfl (by omega) (Mv 2 rfl (Ix (0) c rfl hc (by omega) (Mv 1 rfl ?_)))));intro a hF
 rw [bne_t (d:=91) (z:=91) rfl h91] at hF
 revert a;refine Md 9 [0,19] rfl ?_;intro a hF
 exact ⟨_,hF,hM,hcut⟩
theorem nameIx_lt {T key:Str}:∀ {ns:List (Nat×Nat)}{j:Nat},nameIx T key ns=some j→j<ns.length
  | [],j,h=>by simp [nameIx] at h
  | n :: ns, j, h => by
    unfold nameIx at h
    split at h
    · obtain rfl:=Option.some.inj h;simp
    · obtain ⟨i,hi,rfl⟩:=Option.map_eq_some_iff.1 h
      have:=nameIx_lt hi
      simp only [List.length_cons];omega
theorem stepP_o {T key:Str}{k b e:Nat}{ns:List (Nat×Nat)}{kids:List Js.Place}(h:k=6):stepP T (.mk k b e ns kids) key=(nameIx T key ns).bind (fun j=>kids[j]?):=by simp only [stepP];rw [if_pos h]
theorem stepP_a {T key:Str}{k b e:Nat}{ns:List (Nat×Nat)}{kids:List Js.Place}(h: ¬ k=6) (h5:k=5):stepP T (.mk k b e ns kids) key=(brk key).bind (fun d=>kids[worth d]?):=by simp only [stepP];rw [if_neg h,if_pos h5]
theorem stepP_n {T key:Str}{k b e:Nat}{ns:List (Nat×Nat)}{kids:List Js.Place}(h: ¬ k=6) (h5: ¬ k=5):stepP T (.mk k b e ns kids) key=none:=by simp only [stepP];rw [if_neg h,if_neg h5]
theorem step_walk {T key:Str}(hT:T.length≤2^37) (hkl:key.length≤2^40) {B:Nat}{wc w0:World}{L TB:List Bk}(hTB:TB⊆L) {k b e:Nat}{ns:List (Nat×Nat)}{kids:List Js.Place}{cs:List Value}(hR:RepPl TB (.mk k b e ns kids) cs) (hW:WfPl T (.mk k b e ns kids)) (hE:EqPl (.mk k b e ns kids)) (hM0:Mem B wc L w0):
    Calls Tryz.prog 28 #[.string (mkS T),.agg cs.toArray,.string (mkS key)] w0 (Ret fun v w'=>(∃ cq ok,v= .tuple #[.agg cq.toArray,.bool ok]∧match stepP T (.mk k b e ns kids) key with | some q=>ok=true∧RepPl TB q cq | none=>ok=false∧cq=[.int .i64 0,.int .i64 0,.int .i64 0,.slice none 0 0,.slice none 0 0])∧Mem B wc L w'):=by
 have hM:=hM0
 have hR0:=hR
 simp only [RepPl] at hR
 obtain ⟨sn,sk,xs,rfl,hsn,hsk,hkr⟩:=hR
 obtain ⟨o1,c1,rfl⟩:=hsn.shape
 obtain ⟨o2,c2,rfl⟩:=hsk.shape
 simp only [WfPl] at hW
 obtain ⟨_,_,hwn,hnl,hkdl,_⟩:=hW
 simp only [EqPl] at hE
 have hsz:=hsk.small
 refine enter (l:=[.string (mkS T),.agg ([.int .i64 (k:Int),.int .i64 (b:Int),.int .i64 (e:Int),.slice o1 ns.length c1,.slice o2 kids.length c2]:List Value).toArray,.string (mkS key)]) 40 Tryz.func28 rfl rfl (Sq (Rg ?_));intro a hF
 refine op_box hF hM rfl rfl rfl rfl rfl rfl ?_;clear hF hM a;intro a w b4 hF hM
 refine op_alloc hF hM rfl (vs:=[.int .i64 0,.int .i64 0,.int .i64 0,.slice none 0 0,.slice none 0 0]) rfl rfl rfl (by kernel_rfl) ?_;clear hF hM a;intro a w b6 hF hM
 revert a;refine Md 1 [0,2,4,6] rfl (Nx (Sq (Rg (Md 1 [0,2,4,6,8] rfl (Nx ?_)))));intro a hF
 refine cutF (fun a w=>∃ ki:Int,Fr 43 [(4,.pointer (some ⟨b4,0,none⟩)),(6,.pointer (some ⟨b6,0,none⟩)),(8,.int .i64 ki)] a∧Mem B wc ((b6,27,[.int .i64 0,.int .i64 0,.int .i64 0,.slice none 0 0,.slice none 0 0])::(b4,27,[.int .i64 (k:Int),.int .i64 (b:Int),.int .i64 (e:Int),.slice o1 ns.length c1,.slice o2 kids.length c2])::L) w∧((ki= -1∧stepP T (.mk k b e ns kids) key=none)∨∃ j q,ki=((j:Nat):Int)∧kids[j]?=some q∧stepP T (.mk k b e ns kids) key=some q)) (fun a w h=> ?_) ?_
 ·
  clear hF hM
  obtain ⟨ki,hF,hM,hki⟩:=h
  revert a;refine Sq (Sq (Rg (Md 2 [4,6,8,36] rfl (Nx (Cd rfl (fun ht=> ?_) ((fun ht=> ?_)))))))
  ·
   have hnone:stepP T (.mk k b e ns kids) key=none:=by rcases hki with ⟨_,h⟩ | ⟨j,q,h,_⟩;exact h;have:=of_decide_eq_true ht;omega
   refine Sq (Rg (Gv rfl (fun _ hF=>gives_build (parts:=[]) (vals:=[]) (cells:=[.int .i64 0,.int .i64 0,.int .i64 0,.slice none 0 0,.slice none 0 0]) hF rfl rfl (by kernel_rfl) _) ?_));intro a hF
   refine op_storeA hF hM rfl 0 rfl rfl (by kernel_rfl) rfl rfl rfl rfl (rfl) ?_;clear hF hM a;intro a w hF hM
   revert a;refine Md 1 [6,7] rfl (Nx (Re (Rt ?_)));intro a hF
   refine retMany (vs:=[_,_]) hF hM rfl rfl (.cell 0 rfl rfl Tryz.underlying27 rfl (by kernel_rfl) (.tmp rfl .nil)) ⟨_,rfl,⟨_,_,rfl,?_⟩,hM.drop (List.Sublist.cons _ (List.Sublist.cons _ (List.Sublist.refl _)))⟩
   simp only [hnone];exact ⟨trivial,trivial⟩
  obtain ⟨j,q,rfl,hq,hsome⟩:∃ j q,ki=((j:Nat):Int)∧kids[j]?=some q∧stepP T (.mk k b e ns kids) key=some q:=by rcases hki with ⟨h,_⟩ | h;(have:=of_decide_eq_false ht;omega);exact h
  have hj:j<kids.length:=(List.getElem?_eq_some_iff.1 hq).1
  obtain ⟨c,hqc,hcx⟩:=hkr.at_ hq
  obtain ⟨g,cap,hv,hcell⟩:=hsk.row (by omega)
  have ho:o2=some ⟨g,0,none⟩:=by cases hv;rfl
  have hcl:=hqc.len
  obtain ⟨k1,k2,k3,q1,l1,d1,q2,l2,d2,rfl⟩:=hqc.shape
  refine Sk (Nx (Sq (Rg (Mv 1 rfl (Ld hM 1 rfl rfl ?_)))));intro a hF
  rw [ho] at hF
  revert a;refine Mv 1 rfl (Gv rfl (fun _ hF=>gives_indexAddrS (sz:=5) (j) hF rfl Tryz.underlying25 (by kernel_rfl) rfl rfl rfl hj _) (Gv rfl (fun _ hF=>gives_loadMid hF rfl rfl Tryz.underlying27 rfl (by rw [hqc.len.1];kernel_rfl) (fun i u hi=>by rw [Nat.zero_add];exact hcell hM (by intro z hz;simp [hTB hz]) _ u (hcx i u hi))) ?_));intro a hF
  refine op_storeA hF hM rfl 0 rfl rfl (by kernel_rfl) rfl rfl rfl rfl (rfl) ?_;clear hF hM a;intro a w hF hM
  revert a;refine Md 1 [6,7] rfl (Nx (Re ?_));intro a hF
  refine retMany (vs:=[_,_]) hF hM rfl rfl (.cell 0 rfl rfl Tryz.underlying27 rfl (by kernel_rfl) (.tmp rfl .nil)) ⟨_,rfl,⟨_,_,rfl,?_⟩,hM.drop (List.Sublist.cons _ (List.Sublist.cons _ (List.Sublist.refl _)))⟩
  rw [hsome];exact ⟨rfl,hqc⟩
 revert a;refine Sq (Rg (Mv 1 rfl (Ld hM 1 rfl rfl (Md 0 [0,2,4,6,8,12] rfl (Nx (Bo (Sq (Rg (Md 2 [0,2,4,6,8,12,13] rfl (Nx (Cd rfl (fun ht=> ?_) ((fun ht=> ?_)))))))))))))
 ·
  have hk6:k=6:=by have:=(beq_iff_eq).1 ht;omega
  refine Rg (Mv 1 rfl ?_);intro a hF
  refine op_loadA hF hM rfl 1 rfl rfl rfl Tryz.underlying27 rfl (by kernel_rfl) rfl rfl ?_;clear hF a;intro a hF
  revert a;refine Mv 1 rfl (Cl rfl rfl rfl (named_walk (key:=key) hT (RepPl.mono (by intro z hz;simp [hTB hz]) _ _ hR0) hwn hM) ?_)
  clear hM;intro w v hR
  obtain ⟨rfl,hM⟩:=hR
  refine Md 1 [4,6,8] rfl (Nb (Kp [4,6,8] rfl ?_));intro a hF
  refine ⟨_,hF,hM,?_⟩;rw [stepP_o hk6];unfold nameI;cases hx:nameIx T key ns with | none=>exact .inl ⟨rfl,rfl⟩ | some j=>(have hj:=nameIx_lt hx;rw [hE.1 hk6] at hj;exact .inr ⟨j,kids[j],rfl,List.getElem?_eq_getElem hj,List.getElem?_eq_getElem hj⟩)
 have hk6: ¬ k=6:=by rintro rfl;exact absurd ht (by decide)
 refine Sq (Rg (Md 2 [2,4,6,8,19] rfl (Nx (Ce rfl (fun ht=> ?_) ((fun ht=> ?_))))))
 ·
  have hk5: ¬ k=5:=by rintro rfl;exact absurd ht (by decide)
  refine Sk (Nb (Kp [4,6,8] rfl ?_));intro a hF
  exact ⟨_,hF,hM,.inl ⟨rfl,stepP_n hk6 hk5⟩⟩
 have hk5:k=5:=by have:=(beq_iff_eq).1 ht;omega
 refine Sq (Rg (Mv 1 rfl (Cm hM rfl rfl rfl (bracket_walk key hkl _) ?_)))
 clear hM;intro w v hR hM hBe
 obtain ⟨n,rfl,hn⟩:=hR
 refine Md 5 [4,6,8,9,10] rfl (Nx (Sq ?_))
 rcases hb:brk key with _ | d
 ·
  have hcut:((-1:Int)= -1∧stepP T (.mk k b e ns kids) key=none)∨∃ j q,(-1:Int)=((j:Nat):Int)∧kids[j]?=some q∧stepP T (.mk k b e ns kids) key=some q:= .inl ⟨rfl,by rw [stepP_a hk6 hk5,hb];rfl⟩
  refine Rg (Md 8 [4,6,8,9,33] rfl (Nx (Cf rfl (Sk (Nb (Kp [4,6,8] rfl ?_))))));intro a hF
  exact ⟨_,hF,hM,hcut⟩
 have hnd:=hn d hb
 have hsp:stepP T (.mk k b e ns kids) key=kids[worth d]?:=by rw [stepP_a hk6 hk5,hb];rfl
 refine Rg (Mv 4 rfl (Ld hM 1 rfl rfl (Md 3 [4,6,8,9,33] rfl (Nx (Ce rfl (fun ht=> ?_) ((fun ht=> ?_)))))))
 ·
  have hnlt: ¬ n<kids.length:=by have:=of_decide_eq_false ht;omega
  have hcut:((-1:Int)= -1∧stepP T (.mk k b e ns kids) key=none)∨∃ j q,(-1:Int)=((j:Nat):Int)∧kids[j]?=some q∧stepP T (.mk k b e ns kids) key=some q:= .inl ⟨rfl,by rw [hsp];exact List.getElem?_eq_none (by rcases hnd with h | ⟨_,h⟩ <;> omega)⟩
  refine Sk (Nb (Kp [4,6,8] rfl ?_));intro a hF
  exact ⟨_,hF,hM,hcut⟩
 have hlt:n<kids.length:=by have:=of_decide_eq_true ht;omega
 have hnw:n=worth d:=by rcases hnd with h | ⟨h,_⟩;exact h;omega
 have hcut:((n:Int)= -1∧stepP T (.mk k b e ns kids) key=none)∨∃ j q,(n:Int)=((j:Nat):Int)∧kids[j]?=some q∧stepP T (.mk k b e ns kids) key=some q:= .inr ⟨n,kids[n],rfl,List.getElem?_eq_getElem hlt,by rw [hsp,←hnw];exact List.getElem?_eq_getElem hlt⟩
 refine Rg (Md 2 [4,6,8] rfl (Nb (Kp [4,6,8] rfl ?_)));intro a hF
 exact ⟨_,hF,hM,hcut⟩

end Go.Sx