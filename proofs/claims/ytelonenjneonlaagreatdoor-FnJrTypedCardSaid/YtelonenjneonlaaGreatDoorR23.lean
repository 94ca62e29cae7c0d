/- Part 23 of the proof of FnJrTyped: the statement Rows.FnJrTypedCardSaid; no further condition. -/
import Derived.Test.YtelonenjneonlaaGreatDoorR22
set_option linter.all false
set_option maxRecDepth 100000
namespace Go.Sx
open Go.RowKit Go.Proofs Js Go.Proofs.YtelonenjneonlaaGreatDoorW.PrintWords
theorem getType_walk {b o cp p:Nat}{D t r:Str}{n:Nd}(he:D.drop p=t++r) (hsh:Shows t (.v n)) (hr:Fol r) (hl:D.length≤2^40) (hcp:D.length≤cp) (w0:World) (hD:Bts w0 b o D):
    Calls Tryz.prog 127 #[.agg CFG.toArray,.slice (some ⟨b,o,none⟩) D.length cp,.int .i64 (p:Int)] w0 (Ret fun v w'=>v= .tuple #[.slice (some ⟨b,so o p cp,none⟩) t.length (cp - p),.int .i64 ((jk (knd n):Nat):Int),.int .i64 ((p+t.length:Nat):Int),.nilIface]∧Below w0.heap.size w0 w'):=by
 have hM:=MS0 w0
 obtain ⟨c,u,hcu,_⟩:=vhead_of hsh
 have hlen:=congrArg List.length he
 simp only [List.length_drop,List.length_append] at hlen
 have htl:0<t.length:=by rw [hcu];simp
 have hc:D[p]?=some c:=by have:=congrArg (fun l=>l[0]?) he;simpa [hcu] using this
 refine enter (l:=[.agg CFG.toArray,.slice (some ⟨b,o,none⟩) D.length cp,.int .i64 (p:Int)]) 146 Tryz.func127 rfl rfl (Sq (Rg ?_));intro a hF
 refine op_box (vs:=CFG) hF hM rfl rfl rfl rfl rfl rfl ?_;clear hF hM a;intro a w b3 hF hM
 revert a;refine Md 4 [1,2,3] rfl (Nx (Sq (Rg (Md 1 [1,2,3] rfl (Nx (Sq (Rg (Md 2 [1,2,3,11] rfl (Nx (Sq (Sq ?_)))))))))))
 rcases gt_cases hsh with ⟨i,ht0,hin,hk⟩ | ⟨hk,⟨u',ht0⟩,hN⟩ | ⟨hk,⟨u',ht0⟩,hN⟩ | ⟨ht0,hk⟩ | ⟨ht0,hk⟩ | ⟨ht0,hk⟩ | ⟨hk,hnum,c',u',ht0,hcd⟩
 ·
  have hc0:c=34:=by rw [ht0] at hcu;exact (List.cons.inj hcu).1.symm
  have hil:t.length=i.length+2:=by rw [ht0];simp
  have hC:Cls (D.drop (p+1)) i.length:=by rw [←List.drop_drop,he,ht0];simpa using Cls.of (r:=r) hin.quo
  refine Rg (Mv 2 rfl (Gv rfl (fun _ hF=>gives_indexAddrS (sz:=1) (p) hF rfl Tryz.underlying66 (by kernel_rfl) rfl rfl rfl (by omega) _) (Gv rfl (fun _ hF=>gives_load1 hF rfl Tryz.underlying5 rfl rfl (hD.cell hM hc)) (Qt 34 rfl rfl hc0 (Md 11 [1,2,3,11,32] rfl (Nx (Ct rfl (Sq (Rg (Md 1 [1,2,3,10,11] rfl (Nx (Sq ?_))))))))))));intro a hF
  refine mix (fun w=>Mem w0.heap.size w0 [(b3,125,CFG)] w) 14 (by kernel_rfl) ?_
  replace hM:=hM.drew
  generalize World.drew w=w at*
  refine mtakeL 0 hF hM rfl (by kernel_rfl) (by kernel_rfl) (by kernel_rfl) (by kernel_rfl) (by kernel_rfl) (fun _ _ _ h=>h) rfl rfl (y_plain rfl (fun w hM=>gives_loadA hF hM 0 rfl Tryz.underlying125 rfl (by kernel_rfl) rfl rfl)) ?_;clear hF a;intro a hF
  refine mtakeP 1 hF (.inl hM) rfl (by kernel_rfl) (by kernel_rfl) (by kernel_rfl) rfl (fun _ _ _ h=>h) rfl rfl (y_plain rfl (fun w _=>gives_move hF rfl rfl _)) ?_;clear hF a;intro a hF
  refine mtakeP 2 hF (.inl hM) rfl (by kernel_rfl) (by kernel_rfl) (by kernel_rfl) rfl (fun _ _ _ h=>h) rfl rfl (y_plain rfl (fun w _=>gives_move hF rfl rfl _)) ?_;clear hF a;intro a hF
  refine mtakeP 3 hF (.inl hM) rfl (by kernel_rfl) (by kernel_rfl) (by kernel_rfl) rfl (fun _ _ _ h=>h) rfl rfl (y_plain rfl (fun w _=>gives_sum hF rfl rfl rfl (((p+1:Nat):Int)) rfl (by omega) (wrap_i64 (by omega) (by omega)) _)) ?_;clear hF a;intro a hF
  refine mtakeP 4 hF (.inl hM) rfl (by kernel_rfl) (by kernel_rfl) (by kernel_rfl) rfl (fun _ _ _ h=>h) rfl rfl (y_plain rfl (fun w _=>gives_slFrom (p+1) hF rfl Tryz.underlying66 (by kernel_rfl) rfl rfl rfl (by omega) _)) ?_;clear hF a;intro a hF
  rw [←List.length_drop] at hF
  refine mtakeP 5 hF (.inl hM) rfl (by kernel_rfl) (by kernel_rfl) (by kernel_rfl) rfl (fun _ _ _ h=>h) rfl rfl (y_plain rfl (fun w _=>gives_move hF rfl rfl _)) ?_;clear hF a;intro a hF
  refine mtakeP 6 hF (.inl hM) rfl (by kernel_rfl) (by kernel_rfl) (by kernel_rfl) rfl (fun _ _ _ h=>h) rfl rfl (y_plain rfl (fun w _=>gives_move hF rfl rfl _)) ?_;clear hF a;intro a hF
  refine mtakeP 7 hF (.inl hM) rfl (by kernel_rfl) (by kernel_rfl) (by kernel_rfl) rfl (fun _ _ _ h=>h) rfl rfl (y_plain rfl (fun w _=>gives_indexAddrS (sz:=1) (p) hF rfl Tryz.underlying66 (by kernel_rfl) rfl rfl rfl (by omega) _)) ?_;clear hF a;intro a hF
  refine mtakeL 8 hF hM rfl (by kernel_rfl) (by kernel_rfl) (by kernel_rfl) (by kernel_rfl) (by kernel_rfl) (fun _ _ _ h=>h) rfl rfl (y_plain rfl (fun w hM=>gives_load1 hF rfl Tryz.underlying5 rfl rfl (hD.cell hM hc))) ?_;clear hF a;intro a hF
  rw [hc0] at hF
  refine malone 9 rfl (by kernel_rfl) ?_
  revert a;refine Cm hM rfl rfl rfl (stringEnd_walk (D:=D.drop (p+1)) (cp:=cp - (p+1)) (by rw [List.length_drop];omega) (by rw [List.length_drop];omega) hC _ ((hD.below hM.below).so (p+1) hcp)) ?_
  clear hM;intro w v hR hM hBe
  obtain rfl:=hR
  intro a hF
  refine mstep (.inl (hM)) ?_
  refine malone 10 rfl (by kernel_rfl) ?_
  revert a;refine Mv 1 rfl ?_;intro a hF
  refine mstep (.inl (hM)) ?_
  refine mtakeP 11 hF (.inl hM) rfl (by kernel_rfl) (by kernel_rfl) (by kernel_rfl) rfl (fun _ _ _ h=>h) rfl rfl (y_plain rfl (fun w _=>gives_extract hF rfl rfl rfl _)) ?_;clear hF a;intro a hF
  refine mtakeP 12 hF (.inl hM) rfl (by kernel_rfl) (by kernel_rfl) (by kernel_rfl) rfl (fun _ _ _ h=>h) rfl rfl (y_plain rfl (fun w _=>gives_extract hF rfl rfl rfl _)) ?_;clear hF a;intro a hF
  refine malone 13 rfl (by kernel_rfl) ?_
  revert a;refine Mv 1 rfl ?_;intro a hF
  refine mstep (.inl (hM)) ?_
  refine malone 14 rfl (by kernel_rfl) ?_
  revert a;refine Mv 1 rfl ?_;intro a hF
  refine mstep (.inr (by kernel_rfl)) ?_
  refine mend (by kernel_rfl) ?_
  revert a;refine Kp [1,2,10,11,12] rfl (Nx (Sq (Rg (Md 2 [1,2,10,11,12,47] rfl (Nx (D2 rfl (fun ht=>absurd ht (by simp;omega)) (Rg (Mv 2 rfl (Sm (((i.length+2:Nat):Int)) rfl (by omega) (Sm (((p+t.length:Nat):Int)) rfl (by omega) (Md 1 [1,2,10,11] rfl (Nx (Sq (Rg (Mv 3 rfl (Gv rfl (fun _ hF=>gives_slFT (p) (p+t.length) hF rfl Tryz.underlying66 (by kernel_rfl) rfl rfl rfl rfl rfl (by omega) (by omega) _) ?_))))))))))))))));intro a hF
  rw [Nat.add_sub_cancel_left] at hF
  revert a;refine Md 6 [6,7,8,9] rfl (Nx (Re ?_));intro a hF
  exact ret4 hF rfl rfl rfl rfl rfl ⟨_,rfl,by rw [hk];rfl,hM.below⟩
 ·
  have hc0:c=91:=by rw [ht0] at hcu;exact (List.cons.inj hcu).1.symm
  refine Rg (Mv 2 rfl (Gv rfl (fun _ hF=>gives_indexAddrS (sz:=1) (p) hF rfl Tryz.underlying66 (by kernel_rfl) rfl rfl rfl (by omega) _) (Gv rfl (fun _ hF=>gives_load1 hF rfl Tryz.underlying5 rfl rfl (hD.cell hM hc)) (Qf 34 rfl rfl (by rw [hc0];decide) (Mv 2 rfl (Ld hM 0 rfl rfl (Md 8 [1,2,3,11,32] rfl (Nx (Cf rfl (Sq (Rg (Mv 2 rfl (Gv rfl (fun _ hF=>gives_indexAddrS (sz:=1) (p) hF rfl Tryz.underlying66 (by kernel_rfl) rfl rfl rfl (by omega) _) (Gv rfl (fun _ hF=>gives_load1 hF rfl Tryz.underlying5 rfl rfl (hD.cell hM hc)) (Qt 91 rfl rfl hc0 (Md 0 [1,2,3,11,59] rfl (Nx (Ct rfl (Sq (Rg (Md 1 [1,2,3,10] rfl (Nx (Sq ?_)))))))))))))))))))))));intro a hF
  refine mix (fun w=>Mem w0.heap.size w0 [(b3,125,CFG)] w) 5 (by kernel_rfl) ?_
  replace hM:=hM.drew
  generalize World.drew w=w at*
  refine mtakeL 0 hF hM rfl (by kernel_rfl) (by kernel_rfl) (by kernel_rfl) (by kernel_rfl) (by kernel_rfl) (fun _ _ _ h=>h) rfl rfl (y_plain rfl (fun w hM=>gives_loadA hF hM 0 rfl Tryz.underlying125 rfl (by kernel_rfl) rfl rfl)) ?_;clear hF a;intro a hF
  refine mtakeP 1 hF (.inl hM) rfl (by kernel_rfl) (by kernel_rfl) (by kernel_rfl) rfl (fun _ _ _ h=>h) rfl rfl (y_plain rfl (fun w _=>gives_move hF rfl rfl _)) ?_;clear hF a;intro a hF
  refine mtakeP 2 hF (.inl hM) rfl (by kernel_rfl) (by kernel_rfl) (by kernel_rfl) rfl (fun _ _ _ h=>h) rfl rfl (y_plain rfl (fun w _=>gives_move hF rfl rfl _)) ?_;clear hF a;intro a hF
  refine mtakeP 3 hF (.inl hM) rfl (by kernel_rfl) (by kernel_rfl) (by kernel_rfl) rfl (fun _ _ _ h=>h) rfl rfl (y_plain rfl (fun w _=>gives_slFrom p hF rfl Tryz.underlying66 (by kernel_rfl) rfl rfl rfl (by omega) _)) ?_;clear hF a;intro a hF
  rw [←List.length_drop] at hF
  refine malone 4 rfl (by kernel_rfl) ?_
  revert a;refine Cm hM rfl rfl rfl (blockEnd_walk (x:=91) (y:=93) (E:=t.length) (D:=D.drop p) (cp:=cp - p) (.inl ⟨rfl,rfl⟩) (by rw [he];exact hN r) (by rw [List.length_drop];omega) (by rw [List.length_drop];omega) _ ((hD.below hM.below).so p hcp)) ?_
  clear hM;intro w v hR hM hBe
  obtain rfl:=hR
  intro a hF
  refine mstep (.inl (hM)) ?_
  refine malone 5 rfl (by kernel_rfl) ?_
  revert a;refine Mv 1 rfl ?_;intro a hF
  refine mstep (.inr (by kernel_rfl)) ?_
  refine mend (by kernel_rfl) ?_
  revert a;refine Kp [1,2,10,11] rfl (Nx (Sq (Sq (Rg (Md 2 [1,2,10,11,66] rfl (Nx (C1 rfl (fun ht=>absurd (eq_of_beq ht) (by omega)) (Sk (Nx (Rg (Mv 2 rfl (Sm (((p+t.length:Nat):Int)) rfl (by omega) (Md 1 [1,2,10,11] rfl (Nx (Sq (Rg (Mv 3 rfl (Gv rfl (fun _ hF=>gives_slFT (p) (p+t.length) hF rfl Tryz.underlying66 (by kernel_rfl) rfl rfl rfl rfl rfl (by omega) (by omega) _) ?_))))))))))))))))));intro a hF
  rw [Nat.add_sub_cancel_left] at hF
  revert a;refine Md 6 [6,7,8,9] rfl (Nx (Re ?_));intro a hF
  exact ret4 hF rfl rfl rfl rfl rfl ⟨_,rfl,by rw [hk];rfl,hM.below⟩
 ·
  have hc0:c=123:=by rw [ht0] at hcu;exact (List.cons.inj hcu).1.symm
  refine Rg (Mv 2 rfl (Gv rfl (fun _ hF=>gives_indexAddrS (sz:=1) (p) hF rfl Tryz.underlying66 (by kernel_rfl) rfl rfl rfl (by omega) _) (Gv rfl (fun _ hF=>gives_load1 hF rfl Tryz.underlying5 rfl rfl (hD.cell hM hc)) (Qf 34 rfl rfl (by rw [hc0];decide) (Mv 2 rfl (Ld hM 0 rfl rfl (Md 8 [1,2,3,11,32] rfl (Nx (Cf rfl (Sq (Rg (Mv 2 rfl (Gv rfl (fun _ hF=>gives_indexAddrS (sz:=1) (p) hF rfl Tryz.underlying66 (by kernel_rfl) rfl rfl rfl (by omega) _) (Gv rfl (fun _ hF=>gives_load1 hF rfl Tryz.underlying5 rfl rfl (hD.cell hM hc)) (Qf 91 rfl rfl (by rw [hc0];decide) (Md 0 [1,2,3,11,59] rfl (Nx (Cf rfl (Sq (Rg (Mv 2 rfl (Gv rfl (fun _ hF=>gives_indexAddrS (sz:=1) (p) hF rfl Tryz.underlying66 (by kernel_rfl) rfl rfl rfl (by omega) _) (Gv rfl (fun _ hF=>gives_load1 hF rfl Tryz.underlying5 rfl rfl (hD.cell hM hc)) (Qt 123 rfl rfl hc0 (Md 0 [1,2,3,11,77] rfl (Nx (Ct rfl (Sq (Rg (Md 1 [1,2,3,10] rfl (Nx (Sq ?_))))))))))))))))))))))))))))))));intro a hF
  refine mix (fun w=>Mem w0.heap.size w0 [(b3,125,CFG)] w) 5 (by kernel_rfl) ?_
  replace hM:=hM.drew
  generalize World.drew w=w at*
  refine mtakeL 0 hF hM rfl (by kernel_rfl) (by kernel_rfl) (by kernel_rfl) (by kernel_rfl) (by kernel_rfl) (fun _ _ _ h=>h) rfl rfl (y_plain rfl (fun w hM=>gives_loadA hF hM 0 rfl Tryz.underlying125 rfl (by kernel_rfl) rfl rfl)) ?_;clear hF a;intro a hF
  refine mtakeP 1 hF (.inl hM) rfl (by kernel_rfl) (by kernel_rfl) (by kernel_rfl) rfl (fun _ _ _ h=>h) rfl rfl (y_plain rfl (fun w _=>gives_move hF rfl rfl _)) ?_;clear hF a;intro a hF
  refine mtakeP 2 hF (.inl hM) rfl (by kernel_rfl) (by kernel_rfl) (by kernel_rfl) rfl (fun _ _ _ h=>h) rfl rfl (y_plain rfl (fun w _=>gives_move hF rfl rfl _)) ?_;clear hF a;intro a hF
  refine mtakeP 3 hF (.inl hM) rfl (by kernel_rfl) (by kernel_rfl) (by kernel_rfl) rfl (fun _ _ _ h=>h) rfl rfl (y_plain rfl (fun w _=>gives_slFrom p hF rfl Tryz.underlying66 (by kernel_rfl) rfl rfl rfl (by omega) _)) ?_;clear hF a;intro a hF
  rw [←List.length_drop] at hF
  refine malone 4 rfl (by kernel_rfl) ?_
  revert a;refine Cm hM rfl rfl rfl (blockEnd_walk (x:=123) (y:=125) (E:=t.length) (D:=D.drop p) (cp:=cp - p) (.inr ⟨rfl,rfl⟩) (by rw [he];exact hN r) (by rw [List.length_drop];omega) (by rw [List.length_drop];omega) _ ((hD.below hM.below).so p hcp)) ?_
  clear hM;intro w v hR hM hBe
  obtain rfl:=hR
  intro a hF
  refine mstep (.inl (hM)) ?_
  refine malone 5 rfl (by kernel_rfl) ?_
  revert a;refine Mv 1 rfl ?_;intro a hF
  refine mstep (.inr (by kernel_rfl)) ?_
  refine mend (by kernel_rfl) ?_
  revert a;refine Kp [1,2,10,11] rfl (Nx (Sq (Sq (Rg (Md 2 [1,2,10,11,84] rfl (Nx (C1 rfl (fun ht=>absurd (eq_of_beq ht) (by omega)) (Sk (Nx (Rg (Mv 2 rfl (Sm (((p+t.length:Nat):Int)) rfl (by omega) (Md 1 [1,2,10,11] rfl (Nx (Sq (Rg (Mv 3 rfl (Gv rfl (fun _ hF=>gives_slFT (p) (p+t.length) hF rfl Tryz.underlying66 (by kernel_rfl) rfl rfl rfl rfl rfl (by omega) (by omega) _) ?_))))))))))))))))));intro a hF
  rw [Nat.add_sub_cancel_left] at hF
  revert a;refine Md 6 [6,7,8,9] rfl (Nx (Re ?_));intro a hF
  exact ret4 hF rfl rfl rfl rfl rfl ⟨_,rfl,by rw [hk];rfl,hM.below⟩
 ·
  have hc0:c=116:=by rw [ht0] at hcu;exact (List.cons.inj hcu).1.symm
  have hfs:fst stopB (t++r)=t.length:=fst_tok (by rw [ht0];decide) hr
  refine Rg (Mv 2 rfl (Gv rfl (fun _ hF=>gives_indexAddrS (sz:=1) (p) hF rfl Tryz.underlying66 (by kernel_rfl) rfl rfl rfl (by omega) _) (Gv rfl (fun _ hF=>gives_load1 hF rfl Tryz.underlying5 rfl rfl (hD.cell hM hc)) (Qf 34 rfl rfl (by rw [hc0];decide) (Mv 2 rfl (Ld hM 0 rfl rfl (Md 8 [1,2,3,11,32] rfl (Nx (Cf rfl (Sq (Rg (Mv 2 rfl (Gv rfl (fun _ hF=>gives_indexAddrS (sz:=1) (p) hF rfl Tryz.underlying66 (by kernel_rfl) rfl rfl rfl (by omega) _) (Gv rfl (fun _ hF=>gives_load1 hF rfl Tryz.underlying5 rfl rfl (hD.cell hM hc)) (Qf 91 rfl rfl (by rw [hc0];decide) (Md 0 [1,2,3,11,59] rfl (Nx (Cf rfl (Sq (Rg (Mv 2 rfl (Gv rfl (fun _ hF=>gives_indexAddrS (sz:=1) (p) hF rfl Tryz.underlying66 (by kernel_rfl) rfl rfl rfl (by omega) _) (Gv rfl (fun _ hF=>gives_load1 hF rfl Tryz.underlying5 rfl rfl (hD.cell hM hc)) (Qf 123 rfl rfl (by rw [hc0];decide) (Md 0 [1,2,3,11,77] rfl (Nx (Cf rfl (Sq (Rg (Mv 2 rfl (Gv rfl (fun _ hF=>gives_slFrom (p) hF rfl Tryz.underlying66 (by kernel_rfl) rfl rfl rfl (by omega) _) ?_)))))))))))))))))))))))))))))));intro a hF
  rw [←List.length_drop] at hF
  revert a;refine Cm hM rfl rfl rfl (tokenEnd_walk (D:=D.drop p) (cp:=cp - p) (by rw [List.length_drop];omega) _ ((hD.below hM.below).so p hcp)) ?_
  clear hM;intro w v hR hM hBe
  obtain rfl:=hR
  intro a hF
  rw [show fst stopB (D.drop p)=t.length by rw [he];exact hfs] at hF
  revert a;refine Md 1 [1,2,11,14] rfl (Nx (Sq (Rg (Mv 4 rfl (Sm (((p+t.length:Nat):Int)) rfl (by omega) (Gv rfl (fun _ hF=>gives_slFT (p) (p+t.length) hF rfl Tryz.underlying66 (by kernel_rfl) rfl rfl rfl rfl rfl (by omega) (by omega) _) ?_))))));intro a hF
  rw [Nat.add_sub_cancel_left] at hF
  revert a;refine Md 1 [1,2,11,14,15] rfl (Nx (Sq (Sq (Rg (Mv 2 rfl (Gv rfl (fun _ hF=>gives_indexAddrS (sz:=1) (p) hF rfl Tryz.underlying66 (by kernel_rfl) rfl rfl rfl (by omega) _) (Gv rfl (fun _ hF=>gives_load1 hF rfl Tryz.underlying5 rfl rfl (hD.cell hM hc)) (Md 0 [1,2,11,14,15,104] rfl (Nx (Bo (Sq (Sq (Rg (Qt 116 rfl rfl hc0 (Md 1 [1,2,11,14,15,104,107] rfl (Nx (Ct rfl (Sk (Nx (Ct rfl (Sq (Rg (Mv 1 rfl (Gv rfl (fun _ hF=>gives_bytesStrB t hF rfl rfl rfl ((hD.below hM.below).seg p hcp he)) ?_))))))))))))))))))))))));intro a hF
  refine op_eqlStr hF rfl rfl rfl rfl rfl rfl ?_;clear hF a;intro a hF
  rw [show (t==([116,114,117,101]:Str))=true from by rw [ht0];rfl] at hF
  revert a;refine Md 5 [1,2,11,14,117] rfl (Nx (Ct rfl (Rg (Md 1 [1,2,10,11,14] rfl (Nb (Nx (Rg (Mv 2 rfl (Sm (((p+t.length:Nat):Int)) rfl (by omega) (Md 1 [1,2,10,11] rfl (Nx (Sq (Rg (Mv 3 rfl (Gv rfl (fun _ hF=>gives_slFT (p) (p+t.length) hF rfl Tryz.underlying66 (by kernel_rfl) rfl rfl rfl rfl rfl (by omega) (by omega) _) ?_)))))))))))))));intro a hF
  rw [Nat.add_sub_cancel_left] at hF
  revert a;refine Md 6 [6,7,8,9] rfl (Nx (Re ?_));intro a hF
  exact ret4 hF rfl rfl rfl rfl rfl ⟨_,rfl,by rw [hk];rfl,hM.below⟩
 ·
  have hc0:c=102:=by rw [ht0] at hcu;exact (List.cons.inj hcu).1.symm
  have hfs:fst stopB (t++r)=t.length:=fst_tok (by rw [ht0];decide) hr
  refine Rg (Mv 2 rfl (Gv rfl (fun _ hF=>gives_indexAddrS (sz:=1) (p) hF rfl Tryz.underlying66 (by kernel_rfl) rfl rfl rfl (by omega) _) (Gv rfl (fun _ hF=>gives_load1 hF rfl Tryz.underlying5 rfl rfl (hD.cell hM hc)) (Qf 34 rfl rfl (by rw [hc0];decide) (Mv 2 rfl (Ld hM 0 rfl rfl (Md 8 [1,2,3,11,32] rfl (Nx (Cf rfl (Sq (Rg (Mv 2 rfl (Gv rfl (fun _ hF=>gives_indexAddrS (sz:=1) (p) hF rfl Tryz.underlying66 (by kernel_rfl) rfl rfl rfl (by omega) _) (Gv rfl (fun _ hF=>gives_load1 hF rfl Tryz.underlying5 rfl rfl (hD.cell hM hc)) (Qf 91 rfl rfl (by rw [hc0];decide) (Md 0 [1,2,3,11,59] rfl (Nx (Cf rfl (Sq (Rg (Mv 2 rfl (Gv rfl (fun _ hF=>gives_indexAddrS (sz:=1) (p) hF rfl Tryz.underlying66 (by kernel_rfl) rfl rfl rfl (by omega) _) (Gv rfl (fun _ hF=>gives_load1 hF rfl Tryz.underlying5 rfl rfl (hD.cell hM hc)) (Qf 123 rfl rfl (by rw [hc0];decide) (Md 0 [1,2,3,11,77] rfl (Nx (Cf rfl (Sq (Rg (Mv 2 rfl (Gv rfl (fun _ hF=>gives_slFrom (p) hF rfl Tryz.underlying66 (by kernel_rfl) rfl rfl rfl (by omega) _) ?_)))))))))))))))))))))))))))))));intro a hF
  rw [←List.length_drop] at hF
  revert a;refine Cm hM rfl rfl rfl (tokenEnd_walk (D:=D.drop p) (cp:=cp - p) (by rw [List.length_drop];omega) _ ((hD.below hM.below).so p hcp)) ?_
  clear hM;intro w v hR hM hBe
  obtain rfl:=hR
  intro a hF
  rw [show fst stopB (D.drop p)=t.length by rw [he];exact hfs] at hF
  revert a;refine Md 1 [1,2,11,14] rfl (Nx (Sq (Rg (Mv 4 rfl (Sm (((p+t.length:Nat):Int)) rfl (by omega) (Gv rfl (fun _ hF=>gives_slFT (p) (p+t.length) hF rfl Tryz.underlying66 (by kernel_rfl) rfl rfl rfl rfl rfl (by omega) (by omega) _) ?_))))));intro a hF
  rw [Nat.add_sub_cancel_left] at hF
  revert a;refine Md 1 [1,2,11,14,15] rfl (Nx (Sq (Sq (Rg (Mv 2 rfl (Gv rfl (fun _ hF=>gives_indexAddrS (sz:=1) (p) hF rfl Tryz.underlying66 (by kernel_rfl) rfl rfl rfl (by omega) _) (Gv rfl (fun _ hF=>gives_load1 hF rfl Tryz.underlying5 rfl rfl (hD.cell hM hc)) (Md 0 [1,2,11,14,15,104] rfl (Nx (Bo (Sq (Sq (Rg (Qf 116 rfl rfl (by rw [hc0];decide) (Md 1 [1,2,11,14,15,104,107] rfl (Nx (Cf rfl (Rg (Qt 102 rfl rfl hc0 (Md 1 [1,2,11,14,15,104,107] rfl (Nx (Ct rfl (Sq (Rg (Mv 1 rfl (Gv rfl (fun _ hF=>gives_bytesStrB t hF rfl rfl rfl ((hD.below hM.below).seg p hcp he)) ?_))))))))))))))))))))))))));intro a hF
  refine op_eqlStr hF rfl rfl rfl rfl rfl rfl ?_;clear hF a;intro a hF
  rw [show (t==([116,114,117,101]:Str))=false from by rw [ht0];rfl] at hF
  revert a;refine Mv 2 rfl (Gv rfl (fun _ hF=>gives_bytesStrB t hF rfl rfl rfl ((hD.below hM.below).seg p hcp he)) ?_);intro a hF
  refine guard_yes hF rfl rfl rfl rfl rfl rfl ?_
  refine op_eqlStr hF rfl rfl rfl rfl rfl rfl ?_;clear hF a;intro a hF
  rw [show (t==([102,97,108,115,101]:Str))=true from by rw [ht0];rfl] at hF
  revert a;refine Md 1 [1,2,11,14,117] rfl (Nx (Ct rfl (Rg (Md 1 [1,2,10,11,14] rfl (Nb (Nx (Rg (Mv 2 rfl (Sm (((p+t.length:Nat):Int)) rfl (by omega) (Md 1 [1,2,10,11] rfl (Nx (Sq (Rg (Mv 3 rfl (Gv rfl (fun _ hF=>gives_slFT (p) (p+t.length) hF rfl Tryz.underlying66 (by kernel_rfl) rfl rfl rfl rfl rfl (by omega) (by omega) _) ?_)))))))))))))));intro a hF
  rw [Nat.add_sub_cancel_left] at hF
  revert a;refine Md 6 [6,7,8,9] rfl (Nx (Re ?_));intro a hF
  exact ret4 hF rfl rfl rfl rfl rfl ⟨_,rfl,by rw [hk];rfl,hM.below⟩
 ·
  have hc0:c=110:=by rw [ht0] at hcu;exact (List.cons.inj hcu).1.symm
  have hfs:fst stopB (t++r)=t.length:=fst_tok (by rw [ht0];decide) hr
  refine Rg (Mv 2 rfl (Gv rfl (fun _ hF=>gives_indexAddrS (sz:=1) (p) hF rfl Tryz.underlying66 (by kernel_rfl) rfl rfl rfl (by omega) _) (Gv rfl (fun _ hF=>gives_load1 hF rfl Tryz.underlying5 rfl rfl (hD.cell hM hc)) (Qf 34 rfl rfl (by rw [hc0];decide) (Mv 2 rfl (Ld hM 0 rfl rfl (Md 8 [1,2,3,11,32] rfl (Nx (Cf rfl (Sq (Rg (Mv 2 rfl (Gv rfl (fun _ hF=>gives_indexAddrS (sz:=1) (p) hF rfl Tryz.underlying66 (by kernel_rfl) rfl rfl rfl (by omega) _) (Gv rfl (fun _ hF=>gives_load1 hF rfl Tryz.underlying5 rfl rfl (hD.cell hM hc)) (Qf 91 rfl rfl (by rw [hc0];decide) (Md 0 [1,2,3,11,59] rfl (Nx (Cf rfl (Sq (Rg (Mv 2 rfl (Gv rfl (fun _ hF=>gives_indexAddrS (sz:=1) (p) hF rfl Tryz.underlying66 (by kernel_rfl) rfl rfl rfl (by omega) _) (Gv rfl (fun _ hF=>gives_load1 hF rfl Tryz.underlying5 rfl rfl (hD.cell hM hc)) (Qf 123 rfl rfl (by rw [hc0];decide) (Md 0 [1,2,3,11,77] rfl (Nx (Cf rfl (Sq (Rg (Mv 2 rfl (Gv rfl (fun _ hF=>gives_slFrom (p) hF rfl Tryz.underlying66 (by kernel_rfl) rfl rfl rfl (by omega) _) ?_)))))))))))))))))))))))))))))));intro a hF
  rw [←List.length_drop] at hF
  revert a;refine Cm hM rfl rfl rfl (tokenEnd_walk (D:=D.drop p) (cp:=cp - p) (by rw [List.length_drop];omega) _ ((hD.below hM.below).so p hcp)) ?_
  clear hM;intro w v hR hM hBe
  obtain rfl:=hR
  intro a hF
  rw [show fst stopB (D.drop p)=t.length by rw [he];exact hfs] at hF
  revert a;refine Md 1 [1,2,11,14] rfl (Nx (Sq (Rg (Mv 4 rfl (Sm (((p+t.length:Nat):Int)) rfl (by omega) (Gv rfl (fun _ hF=>gives_slFT (p) (p+t.length) hF rfl Tryz.underlying66 (by kernel_rfl) rfl rfl rfl rfl rfl (by omega) (by omega) _) ?_))))));intro a hF
  rw [Nat.add_sub_cancel_left] at hF
  revert a;refine Md 1 [1,2,11,14,15] rfl (Nx (Sq (Sq (Rg (Mv 2 rfl (Gv rfl (fun _ hF=>gives_indexAddrS (sz:=1) (p) hF rfl Tryz.underlying66 (by kernel_rfl) rfl rfl rfl (by omega) _) (Gv rfl (fun _ hF=>gives_load1 hF rfl Tryz.underlying5 rfl rfl (hD.cell hM hc)) (Md 0 [1,2,11,14,15,104] rfl (Nx (Bo (Sq (Sq (Rg (Qf 116 rfl rfl (by rw [hc0];decide) (Md 1 [1,2,11,14,15,104,107] rfl (Nx (Cf rfl (Rg (Qf 102 rfl rfl (by rw [hc0];decide) (Md 1 [1,2,11,14,15,104,107] rfl (Nx (Cf rfl (Sq (Sq (Rg (Qf 117 rfl rfl (by rw [hc0];decide) (Md 1 [1,2,11,14,15,104,120] rfl (Nx (Cf rfl (Rg (Qt 110 rfl rfl hc0 (Md 1 [1,2,11,14,15,104,120] rfl (Nx (Ct rfl (Sq (Rg (Mv 1 rfl (Gv rfl (fun _ hF=>gives_bytesStrB t hF rfl rfl rfl ((hD.below hM.below).seg p hcp he)) ?_))))))))))))))))))))))))))))))))))))));intro a hF
  refine op_eqlStr hF rfl rfl rfl rfl rfl rfl ?_;clear hF a;intro a hF
  rw [show (t==([110,117,108,108]:Str))=true from by rw [ht0];rfl] at hF
  revert a;refine Md 0 [1,2,11,14,125] rfl (Nx (Ct rfl (Rg (Md 1 [1,2,10,11,14] rfl (Nb (Nx (Rg (Mv 2 rfl (Sm (((p+t.length:Nat):Int)) rfl (by omega) (Md 1 [1,2,10,11] rfl (Nx (Sq (Rg (Mv 3 rfl (Gv rfl (fun _ hF=>gives_slFT (p) (p+t.length) hF rfl Tryz.underlying66 (by kernel_rfl) rfl rfl rfl rfl rfl (by omega) (by omega) _) ?_)))))))))))))));intro a hF
  rw [Nat.add_sub_cancel_left] at hF
  revert a;refine Md 6 [6,7,8,9] rfl (Nx (Re ?_));intro a hF
  exact ret4 hF rfl rfl rfl rfl rfl ⟨_,rfl,by rw [hk];rfl,hM.below⟩
 have hcc:c'=c:=by rw [ht0] at hcu;exact (List.cons.inj hcu).1
 rw [hcc] at hcd
 have hdc:=dig_cases hcd
 have hfs:fst stopB (t++r)=t.length:=num_stop hnum hr
 obtain ⟨n1,n2,n3,n4,n5,n6,n7⟩:c≠34∧c≠91∧c≠123∧c≠116∧c≠102∧c≠117∧c≠110:=by rcases hdc with h | h | h | h | h | h | h | h | h | h | h <;> rw [h] <;> decide
 refine Rg (Mv 2 rfl (Gv rfl (fun _ hF=>gives_indexAddrS (sz:=1) (p) hF rfl Tryz.underlying66 (by kernel_rfl) rfl rfl rfl (by omega) _) (Gv rfl (fun _ hF=>gives_load1 hF rfl Tryz.underlying5 rfl rfl (hD.cell hM hc)) (Qf 34 rfl rfl n1 (Mv 2 rfl (Ld hM 0 rfl rfl (Md 8 [1,2,3,11,32] rfl (Nx (Cf rfl (Sq (Rg (Mv 2 rfl (Gv rfl (fun _ hF=>gives_indexAddrS (sz:=1) (p) hF rfl Tryz.underlying66 (by kernel_rfl) rfl rfl rfl (by omega) _) (Gv rfl (fun _ hF=>gives_load1 hF rfl Tryz.underlying5 rfl rfl (hD.cell hM hc)) (Qf 91 rfl rfl n2 (Md 0 [1,2,3,11,59] rfl (Nx (Cf rfl (Sq (Rg (Mv 2 rfl (Gv rfl (fun _ hF=>gives_indexAddrS (sz:=1) (p) hF rfl Tryz.underlying66 (by kernel_rfl) rfl rfl rfl (by omega) _) (Gv rfl (fun _ hF=>gives_load1 hF rfl Tryz.underlying5 rfl rfl (hD.cell hM hc)) (Qf 123 rfl rfl n3 (Md 0 [1,2,3,11,77] rfl (Nx (Cf rfl (Sq (Rg (Mv 2 rfl (Gv rfl (fun _ hF=>gives_slFrom (p) hF rfl Tryz.underlying66 (by kernel_rfl) rfl rfl rfl (by omega) _) ?_)))))))))))))))))))))))))))))));intro a hF
 rw [←List.length_drop] at hF
 revert a;refine Cm hM rfl rfl rfl (tokenEnd_walk (D:=D.drop p) (cp:=cp - p) (by rw [List.length_drop];omega) _ ((hD.below hM.below).so p hcp)) ?_
 clear hM;intro w v hR hM hBe
 obtain rfl:=hR
 intro a hF
 rw [show fst stopB (D.drop p)=t.length by rw [he];exact hfs] at hF
 revert a;refine Md 1 [1,2,11,14] rfl (Nx (Sq (Rg (Mv 4 rfl (Sm (((p+t.length:Nat):Int)) rfl (by omega) (Gv rfl (fun _ hF=>gives_slFT (p) (p+t.length) hF rfl Tryz.underlying66 (by kernel_rfl) rfl rfl rfl rfl rfl (by omega) (by omega) _) ?_))))));intro a hF
 rw [Nat.add_sub_cancel_left] at hF
 revert a;refine Md 1 [1,2,11,14,15] rfl (Nx (Sq (Sq (Rg (Mv 2 rfl (Gv rfl (fun _ hF=>gives_indexAddrS (sz:=1) (p) hF rfl Tryz.underlying66 (by kernel_rfl) rfl rfl rfl (by omega) _) (Gv rfl (fun _ hF=>gives_load1 hF rfl Tryz.underlying5 rfl rfl (hD.cell hM hc)) (Md 0 [1,2,11,14,15,104] rfl (Nx (Bo (Sq (Sq (Rg (Qf 116 rfl rfl n4 (Md 1 [1,2,11,14,15,104,107] rfl (Nx (Cf rfl (Rg (Qf 102 rfl rfl n5 (Md 1 [1,2,11,14,15,104,107] rfl (Nx (Cf rfl (Sq (Sq (Rg (Qf 117 rfl rfl n6 (Md 1 [1,2,11,14,15,104,120] rfl (Nx (Cf rfl (Rg (Qf 110 rfl rfl n7 (Md 1 [1,2,11,14,15,104,120] rfl (Nx (Cf rfl ?_))))))))))))))))))))))))))))))))));intro a hF
 refine cutF (fun a w=>Fr 149 [(1,.slice (some ⟨b,o,none⟩) D.length cp),(2,.int .i64 (p:Int)),(11,.int .i64 (p:Int)),(14,.int .i64 ((t.length:Nat):Int)),(128,.bool true)] a∧Mem w0.heap.size w0 [(b3,125,CFG)] w) (fun a w h=> ?_) ?_
 ·
  clear hF hM
  obtain ⟨hF,hM⟩:=h
  revert a;refine Ct rfl (Rg (Md 1 [1,2,10,11,14] rfl (Nb (Nx (Rg (Mv 2 rfl (Sm (((p+t.length:Nat):Int)) rfl (by omega) (Md 1 [1,2,10,11] rfl (Nx (Sq (Rg (Mv 3 rfl (Gv rfl (fun _ hF=>gives_slFT (p) (p+t.length) hF rfl Tryz.underlying66 (by kernel_rfl) rfl rfl rfl rfl rfl (by omega) (by omega) _) ?_)))))))))))));intro a hF
  rw [Nat.add_sub_cancel_left] at hF
  revert a;refine Md 6 [6,7,8,9] rfl (Nx (Re ?_));intro a hF
  exact ret4 hF rfl rfl rfl rfl rfl ⟨_,rfl,by rw [hk];rfl,hM.below⟩
 revert a;refine Sq (Rg (Md 2 [1,2,11,14,104,128] rfl (Nx (Cd rfl (fun ht=> ?_) ((fun ht=> ?_))))))
 ·
  skip
  refine Sk (Kp [1,2,11,14,128] rfl ?_);intro a hF
  rw [ht] at hF;exact ⟨hF,hM⟩
 have m0:=eq_f (d:=48) rfl ht
 refine Sq (Rg (Md 2 [1,2,11,14,104,128] rfl (Nx (Cd rfl (fun ht=> ?_) ((fun ht=> ?_))))))
 ·
  skip
  refine Sk (Kp [1,2,11,14,128] rfl ?_);intro a hF
  rw [ht] at hF;exact ⟨hF,hM⟩
 have m1:=eq_f (d:=49) rfl ht
 refine Sq (Rg (Md 2 [1,2,11,14,104,128] rfl (Nx (Cd rfl (fun ht=> ?_) ((fun ht=> ?_))))))
 ·
  skip
  refine Sk (Kp [1,2,11,14,128] rfl ?_);intro a hF
  rw [ht] at hF;exact ⟨hF,hM⟩
 have m2:=eq_f (d:=50) rfl ht
 refine Sq (Rg (Md 2 [1,2,11,14,104,128] rfl (Nx (Cd rfl (fun ht=> ?_) ((fun ht=> ?_))))))
 ·
  skip
  refine Sk (Kp [1,2,11,14,128] rfl ?_);intro a hF
  rw [ht] at hF;exact ⟨hF,hM⟩
 have m3:=eq_f (d:=51) rfl ht
 refine Sq (Rg (Md 2 [1,2,11,14,104,128] rfl (Nx (Cd rfl (fun ht=> ?_) ((fun ht=> ?_))))))
 ·
  skip
  refine Sk (Kp [1,2,11,14,128] rfl ?_);intro a hF
  rw [ht] at hF;exact ⟨hF,hM⟩
 have m4:=eq_f (d:=52) rfl ht
 refine Sq (Rg (Md 2 [1,2,11,14,104,128] rfl (Nx (Cd rfl (fun ht=> ?_) ((fun ht=> ?_))))))
 ·
  skip
  refine Sk (Kp [1,2,11,14,128] rfl ?_);intro a hF
  rw [ht] at hF;exact ⟨hF,hM⟩
 have m5:=eq_f (d:=53) rfl ht
 refine Sq (Rg (Md 2 [1,2,11,14,104,128] rfl (Nx (Cd rfl (fun ht=> ?_) ((fun ht=> ?_))))))
 ·
  skip
  refine Sk (Kp [1,2,11,14,128] rfl ?_);intro a hF
  rw [ht] at hF;exact ⟨hF,hM⟩
 have m6:=eq_f (d:=54) rfl ht
 refine Sq (Rg (Md 2 [1,2,11,14,104,128] rfl (Nx (Cd rfl (fun ht=> ?_) ((fun ht=> ?_))))))
 ·
  skip
  refine Sk (Kp [1,2,11,14,128] rfl ?_);intro a hF
  rw [ht] at hF;exact ⟨hF,hM⟩
 have m7:=eq_f (d:=55) rfl ht
 refine Sq (Rg (Md 2 [1,2,11,14,104,128] rfl (Nx (Cd rfl (fun ht=> ?_) ((fun ht=> ?_))))))
 ·
  skip
  refine Sk (Kp [1,2,11,14,128] rfl ?_);intro a hF
  rw [ht] at hF;exact ⟨hF,hM⟩
 have m8:=eq_f (d:=56) rfl ht
 refine Sq (Rg (Md 2 [1,2,11,14,104,128] rfl (Nx (Cd rfl (fun ht=> ?_) ((fun ht=> ?_))))))
 ·
  skip
  refine Sk (Kp [1,2,11,14,128] rfl ?_);intro a hF
  rw [ht] at hF;exact ⟨hF,hM⟩
 have m9:=eq_f (d:=57) rfl ht
 refine Rg (Md 2 [1,2,11,14,128] rfl ?_);intro a hF
 rw [beq_t (d:=45) (z:=45) rfl (by simpa [m0,m1,m2,m3,m4,m5,m6,m7,m8,m9] using hdc)] at hF;exact ⟨hF,hM⟩
theorem nextToken_walk {b o cp:Nat}{D:Str}(x:Value) (hx:x.cells.size≤100) (hl:D.length≤2^40) (w0:World) (hD:Bts w0 b o D):
    Calls Tryz.prog 126 #[x,.slice (some ⟨b,o,none⟩) D.length cp] w0 (Ret fun v w'=>v= .int .i64 (if fst (fun c=> !blB c) D<D.length then ((fst (fun c=> !blB c) D:Nat):Int) else -1)∧Below w0.heap.size w0 w'):=by
 have hM:=MS0 w0
 refine enter (l:=[x,.slice (some ⟨b,o,none⟩) D.length cp]) 28 Tryz.func126 rfl rfl (Sq (Rg ?_));intro a hF
 refine op_box (vs:=x.cells.toList) hF hM rfl rfl rfl rfl rfl (by simp) ?_;clear hF hM a;intro a w b2 hF hM
 revert a;refine Md 1 [1] rfl (Nx (Sq (Sq (Rg (Md 3 [7,8,9] rfl (Nx (Bo (Kp [7,8,9] rfl ?_))))))));intro a hF
 refine loopX (fun (i:Nat) a w=>Fr 30 [(7,.slice (some ⟨b,o,none⟩) D.length cp),(8,.int .i64 (D.length:Int)),(9,.int .i64 (i:Int))] a∧Mem w0.heap.size w0 [(b2,125,x.cells.toList)] w∧fst (fun c=> !blB c) D=i+fst (fun c=> !blB c) (D.drop i)∧i≤D.length) (fun i=>D.length - i) (0) ?_ (fun i a w hI=> ?_)
 · exact ⟨hF,hM,by simp,Nat.zero_le _⟩
 clear hF hM
 obtain ⟨hF,hM,hf,hil⟩:=hI
 revert a;refine Sq (Rg (Md 1 [7,8,9,10] rfl (Nx (Sq (Ce rfl (fun ht=> ?_) ((fun ht=> ?_)))))))
 ·
  have hi:D.length≤i:=by have:=of_decide_eq_false ht;omega
  have hfi:=(fst_end hi hf).trans (Nat.le_antisymm hil hi)
  refine Ex (Ot (Ot (Ob (Nx (Sq (Rg (Md 1 [4] rfl (Nx (Re ?_)))))))));intro a hF
  exact ret1 hF rfl rfl ⟨_,rfl,by rw [hfi,if_neg (Nat.lt_irrefl _)],hM.below⟩
 have hi:i<D.length:=by have:=of_decide_eq_true ht;omega
 obtain ⟨c,r,hd,hg⟩:=drop_cons hi
 refine Sk (Nx (Sq (Bo (Sq (Rg (Mv 1 rfl (Gv rfl (fun _ hF=>gives_indexAddrS (sz:=1) (i) hF rfl Tryz.underlying66 (by kernel_rfl) rfl rfl rfl hi _) (Gv rfl (fun _ hF=>gives_load1 hF rfl Tryz.underlying5 rfl rfl (hD.cell hM hg)) (Md 2 [5,6,7,8,9] rfl (Nx (Sq (Sq ?_))))))))))))
 rcases (show c=32∨c=10∨c=13∨c=9∨blB c=false by cases h:blB c with | false=>simp | true=>simp only [blB,Bool.or_eq_true,beq_iff_eq] at h;rcases h with ((h | h) | h) | h <;> simp [h]) with hc | hc | hc | hc | hcs
 ·
  subst hc
  have hcs:blB 32=true:=rfl
  refine Rg (Md 14 [5,7,8,9,27] rfl (Nx (Ct rfl (Ex (Ot (Ob (Nx (Rg (Sm (((i+1:Nat):Int)) rfl (by omega) (Md 1 [7,8,9] rfl ?_))))))))));intro a hF
  exact ⟨i+1,⟨hF,hM,fst_drop hd hf (by rw [hcs];rfl),hi⟩,by omega⟩
 ·
  subst hc
  have hcs:blB 10=true:=rfl
  refine Rg (Md 14 [5,7,8,9,27] rfl (Nx (Ct rfl (Ex (Ot (Ob (Nx (Rg (Sm (((i+1:Nat):Int)) rfl (by omega) (Md 1 [7,8,9] rfl ?_))))))))));intro a hF
  exact ⟨i+1,⟨hF,hM,fst_drop hd hf (by rw [hcs];rfl),hi⟩,by omega⟩
 ·
  subst hc
  have hcs:blB 13=true:=rfl
  refine Rg (Md 14 [5,7,8,9,27] rfl (Nx (Ct rfl (Ex (Ot (Ob (Nx (Rg (Sm (((i+1:Nat):Int)) rfl (by omega) (Md 1 [7,8,9] rfl ?_))))))))));intro a hF
  exact ⟨i+1,⟨hF,hM,fst_drop hd hf (by rw [hcs];rfl),hi⟩,by omega⟩
 ·
  subst hc
  have hcs:blB 9=true:=rfl
  refine Rg (Md 14 [5,7,8,9,27] rfl (Nx (Ct rfl (Ex (Ot (Ob (Nx (Rg (Sm (((i+1:Nat):Int)) rfl (by omega) (Md 1 [7,8,9] rfl ?_))))))))));intro a hF
  exact ⟨i+1,⟨hF,hM,fst_drop hd hf (by rw [hcs];rfl),hi⟩,by omega⟩
 have hn:=hcs
 simp only [blB,Bool.or_eq_false_iff,beq_eq_false_iff_ne,ne_eq] at hn
 obtain ⟨⟨⟨h0,h1⟩,h2⟩,h3⟩:=hn
 have hfi:=fst_hit hd hf (by rw [hcs];rfl)
 refine Rg (Mv 1 rfl (Qf 32 rfl rfl h0 (Mv 2 rfl (Qf 10 rfl rfl h1 (Mv 3 rfl (Qf 13 rfl rfl h2 (Mv 3 rfl (Qf 9 rfl rfl h3 (Md 1 [5,7,8,9,27] rfl (Nx (Cf rfl (Sk (Nx (Sq (Rg (Md 2 [4] rfl (Nx (Re (Rb (Rt (Rt (Rb (Rt ?_)))))))))))))))))))))));intro a hF
 exact ret1 hF rfl rfl ⟨_,rfl,by rw [hfi,if_pos hi],hM.below⟩
def rawx (n:Nd) (t:Str):Str:=if knd n=4 then (t.drop 1).take (t.length - 2) else t
theorem rawx_str {n:Nd}{t:Str}(h:knd n=4):rawx n t=(t.drop 1).take (t.length - 2):=by unfold rawx;rw [if_pos h]
theorem rawx_no {n:Nd}{t:Str}(h: ¬ knd n=4):rawx n t=t:=by unfold rawx;rw [if_neg h]
theorem rawx_len {n:Nd}{t:Str}(h:knd n=4) (h2:2≤t.length):(rawx n t).length=t.length - 2:=by rw [rawx_str h,List.length_take,List.length_drop];omega
theorem jk_one (k:Nat):jk k=1↔k=4:=by unfold jk;(repeat' split) <;> omega
theorem getConfig_walk {b o cp S:Nat}{D wb t r:Str}{n:Nd}{ad:Option Addr}{kl kc:Nat}(he:D.drop S=wb++(t++r)) (hSl:S≤D.length) (hwb:Bl wb) (hsh:Shows t (.v n)) (hr:Fol r) (hl:D.length≤2^40) (hcp:D.length≤cp) (w0:World) (hD:Bts w0 b o D)
    (hk:(kl=0∧S=0)∨(0<kl∧∀ w,Below w0.heap.size w0 w→w0.heap.size≤w.heap.size→Calls Tryz.prog 125 #[.agg CFG.toArray,.slice (some ⟨b,o,none⟩) D.length cp,.slice ad kl kc] w (Ret fun v w'=>v= .int .i64 (S:Int)∧Below w.heap.size w w'))):
    Calls Tryz.prog 85 #[.agg CFG.toArray,.slice (some ⟨b,o,none⟩) D.length cp,.slice ad kl kc] w0 (Ret fun v w'=>(∃ a',v= .tuple #[.slice (some ⟨b,a',none⟩) (rawx n t).length (rawx n t).length,.int .i64 ((jk (knd n):Nat):Int),.int .i64 ((S+wb.length:Nat):Int),.int .i64 ((S+wb.length+t.length:Nat):Int),.nilIface]∧Bts w0 b a' (rawx n t))∧Below w0.heap.size w0 w'):=by
 have hM:=MS0 w0
 obtain ⟨c,u,hcu,hcb⟩:=vhead_of hsh
 have hlen:=congrArg List.length he
 simp only [List.length_drop,List.length_append] at hlen
 have htl:0<t.length:=by rw [hcu];simp
 have he2:D.drop (S+wb.length)=t++r:=by rw [←List.drop_drop,he,List.drop_left]
 have hfs:fst (fun c=> !blB c) (D.drop S)=wb.length:=by rw [he,hcu];exact fst_bl hwb hcb _
 have hseg:=hD.seg (S+wb.length) hcp he2
 refine enter (l:=[.agg CFG.toArray,.slice (some ⟨b,o,none⟩) D.length cp,.slice ad kl kc]) 63 Tryz.func85 rfl rfl (Sq (Rg ?_));intro a hF
 refine op_box (vs:=CFG) hF hM rfl rfl rfl rfl rfl rfl ?_;clear hF hM a;intro a w b3 hF hM
 revert a;refine Md 5 [1,2,3,8] rfl (Nx ?_);intro a hF
 refine cut (fun a w=>Fr 66 [(1,.slice (some ⟨b,o,none⟩) D.length cp),(3,.pointer (some ⟨b3,0,none⟩)),(8,.int .i64 (S:Int))] a∧Mem w0.heap.size w0 [(b3,125,CFG)] w) ?_ (fun a w h=> ?_)
 ·
  revert a;refine Sq (Rg (Md 3 [1,2,3,8,14] rfl (Nx (Ce rfl (fun ht=> ?_) ((fun ht=> ?_))))))
  ·
   have hS0:S=0:=by rcases hk with ⟨_,h⟩ | ⟨h,_⟩;exact h;have:=of_decide_eq_false ht;omega
   refine Sk (Kp [1,3,8] rfl ?_);intro a hF
   exact ⟨by rw [hS0];exact hF,hM⟩
  obtain ⟨hkl,hcall⟩:0<kl∧∀ w,Below w0.heap.size w0 w→w0.heap.size≤w.heap.size→Calls Tryz.prog 125 #[.agg CFG.toArray,.slice (some ⟨b,o,none⟩) D.length cp,.slice ad kl kc] w (Ret fun v w'=>v= .int .i64 (S:Int)∧Below w.heap.size w w'):=by rcases hk with ⟨h,_⟩ | h;(have:=of_decide_eq_true ht;omega);exact h
  refine Sq (Rg (Gv rfl (fun _ hF=>gives_loadA hF hM 0 rfl Tryz.underlying125 rfl (by kernel_rfl) rfl rfl) (Mv 2 rfl (Cm hM rfl rfl rfl (hcall _ hM.below hM.base) ?_))))
  clear hM;intro w v hR hM hBe
  obtain rfl:=hR
  refine Md 1 [1,3,8] rfl (Nx (Sq (Rg (Md 2 [1,3,8,20] rfl (Nx (C1 rfl (fun ht=>absurd (eq_of_beq ht) (by omega)) (Sk (Kp [1,3,8] rfl ?_))))))));intro a hF
  exact ⟨hF,hM⟩
 clear hF hM
 obtain ⟨hF,hM⟩:=h
 refine seq ?_
 refine mix (fun w=>Mem w0.heap.size w0 [(b3,125,CFG)] w) 5 (by kernel_rfl) ?_
 replace hM:=hM.drew
 generalize World.drew w=w at*
 refine mtakeL 0 hF hM rfl (by kernel_rfl) (by kernel_rfl) (by kernel_rfl) (by kernel_rfl) (by kernel_rfl) (fun _ _ _ h=>h) rfl rfl (y_plain rfl (fun w hM=>gives_loadA hF hM 0 rfl Tryz.underlying125 rfl (by kernel_rfl) rfl rfl)) ?_;clear hF a;intro a hF
 refine mtakeP 1 hF (.inl hM) rfl (by kernel_rfl) (by kernel_rfl) (by kernel_rfl) rfl (fun _ _ _ h=>h) rfl rfl (y_plain rfl (fun w _=>gives_move hF rfl rfl _)) ?_;clear hF a;intro a hF
 refine mtakeP 2 hF (.inl hM) rfl (by kernel_rfl) (by kernel_rfl) (by kernel_rfl) rfl (fun _ _ _ h=>h) rfl rfl (y_plain rfl (fun w _=>gives_move hF rfl rfl _)) ?_;clear hF a;intro a hF
 refine mtakeP 3 hF (.inl hM) rfl (by kernel_rfl) (by kernel_rfl) (by kernel_rfl) rfl (fun _ _ _ h=>h) rfl rfl (y_plain rfl (fun w _=>gives_slFrom S hF rfl Tryz.underlying66 (by kernel_rfl) rfl rfl rfl hSl _)) ?_;clear hF a;intro a hF
 rw [←List.length_drop] at hF
 refine malone 4 rfl (by kernel_rfl) ?_
 revert a;refine Cm hM rfl rfl rfl (nextToken_walk (D:=D.drop S) (cp:=cp - S) (.agg CFG.toArray) (by decide) (by rw [List.length_drop];omega) _ ((hD.below hM.below).so S hcp)) ?_
 clear hM;intro w v hR hM hBe
 obtain rfl:=hR
 intro a hF
 rw [hfs,if_pos (show wb.length<(D.drop S).length by rw [List.length_drop];omega)] at hF
 refine mstep (.inl (hM)) ?_
 refine malone 5 rfl (by kernel_rfl) ?_
 revert a;refine Mv 1 rfl ?_;intro a hF
 refine mstep (.inr (by kernel_rfl)) ?_
 refine mend (by kernel_rfl) ?_
 revert a;refine Kp [1,3,8,11] rfl (Nx (Sq (Sq (Rg (Md 2 [1,3,8,11,28] rfl (Nx (C1 rfl (fun ht=>absurd (eq_of_beq ht) (by omega)) (Sk (Nx (Sq (Rg (Mv 2 rfl (Sm (((S+wb.length:Nat):Int)) rfl (by omega) (Md 1 [1,3,8] rfl (Nx (Sq (Rg (Gv rfl (fun _ hF=>gives_loadA hF hM 0 rfl Tryz.underlying125 rfl (by kernel_rfl) rfl rfl) (Mv 2 rfl (Cm hM rfl rfl rfl (getType_walk he2 hsh hr hl hcp _ (hD.below hM.below)) ?_))))))))))))))))))))
 clear hM;intro w v hR hM hBe
 obtain rfl:=hR
 refine Md 9 [6,7,8,9,10] rfl (Nx (Sq (Sq (Rg (Mv 1 rfl ?_)))));intro a hF
 refine op_neNil hF rfl rfl rfl rfl rfl ⟨_,Tryz.underlying63⟩ ?_;clear hF a;intro a hF
 revert a;refine Md 0 [6,7,8,9,10,44] rfl (Nx (Cf rfl (Sk (Nx (Sq (Sq ?_))))))
 rcases Classical.em (knd n=4) with h4 | h4
 ·
  have h2:2≤t.length:=by rcases gt_cases hsh with ⟨i,h,_⟩ | ⟨h,_⟩ | ⟨h,_⟩ | ⟨_,h⟩ | ⟨_,h⟩ | ⟨_,h⟩ | ⟨h,_⟩ <;> first | (rw [h4] at h;cases h) | (rw [h];simp)
  have hrl:=rawx_len h4 h2
  refine Rg (Mv 2 rfl ?_);intro a hF
  rw [show (((jk (knd n):Nat):Int)==1)=true by rw [(jk_one _).2 h4];rfl] at hF
  revert a;refine Md 0 [6,7,8,9,51] rfl (Nx (Ct rfl (Rg (Mv 3 rfl (Sm (((t.length - 1:Nat):Int)) rfl (by omega) (Gv rfl (fun _ hF=>gives_slFT (1) (t.length - 1) hF rfl Tryz.underlying66 (by kernel_rfl) rfl rfl rfl rfl rfl (by omega) (by omega) _) ?_))))));intro a hF
  rw [show t.length - 1 - 1=(rawx n t).length by rw [hrl];omega] at hF
  revert a;refine Md 1 [6,7,8,9] rfl (Nx (Sq (Rg (Mv 5 rfl (Gv rfl (fun _ hF=>gives_sl3 (rawx n t).length hF rfl Tryz.underlying66 (by kernel_rfl) rfl rfl rfl rfl rfl (by omega) _) (Md 8 [6,7,8,9,10] rfl (Nx (Re ?_))))))));intro a hF
  refine retMany (vs:=[_,_,_,_,_]) hF hM rfl rfl (.tmp rfl (.tmp rfl (.tmp rfl (.tmp rfl (.tmp rfl .nil))))) ⟨_,rfl,⟨_,rfl,?_⟩,hM.below⟩
  have hx:=(hseg.so 1 (c:=cp - (S+wb.length)) (by omega)).take (t.length - 2)
  rw [←rawx_str h4] at hx
  exact hx
 have hrl:=rawx_no (t:=t) h4
 refine Rg (Mv 2 rfl ?_);intro a hF
 rw [show (((jk (knd n):Nat):Int)==1)=false by simp;intro h;exact h4 ((jk_one _).1 (by omega))] at hF
 revert a;refine Md 0 [6,7,8,9,51] rfl (Nx (Cf rfl (Sk (Nx (Sq (Rg (Mv 5 rfl (Gv rfl (fun _ hF=>gives_sl3 t.length hF rfl Tryz.underlying66 (by kernel_rfl) rfl rfl rfl rfl rfl (by omega) _) (Md 8 [6,7,8,9,10] rfl (Nx (Re ?_)))))))))));intro a hF
 refine retMany (vs:=[_,_,_,_,_]) hF hM rfl rfl (.tmp rfl (.tmp rfl (.tmp rfl (.tmp rfl (.tmp rfl .nil))))) ⟨_,rfl,⟨_,by rw [hrl],?_⟩,hM.below⟩
 rw [hrl]
 exact hseg
def FoundAt (w:World) (b:Nat) (t:Str) (start:Nat) (vf:Value) (vo:Int):Prop:=∃ a c,vf= .slice (some ⟨b,a,none⟩) t.length c∧t.length≤c∧Bts w b a t∧vo=(start:Int)
theorem cb_walk {wc w0:World}{L:List Bk}{b4 b5 b6 b7 b8 b9 b o cp ci j m start a0:Nat}{D t r:Str}{n:Nd}{vf0:Value}{vo0:Int}(hvf:vf0.oneCell'=true) (hj:j≤2^40) (hl:D.length≤2^40) (hcp:D.length≤cp) (he:D.drop (ci+start)=t++r) (hci:ci+start≤D.length) (hsh:Shows t (.v n)) (hD:Bts wc b o D) (hx:Bts wc b a0 (rawx n t))
    (hM0:Mem wc.heap.size wc ((b4,3,[.int .i64 (j:Int)])::(b5,3,[.int .i64 (m:Int)])::(b6,66,[vf0])::(b7,3,[.int .i64 (vo0)])::(b8,66,[.slice (some ⟨b,o,none⟩) D.length cp])::(b9,3,[.int .i64 (ci:Int)])::L) w0):
    Calls Tryz.prog 157 #[.slice (some ⟨b,a0,none⟩) (rawx n t).length (rawx n t).length,.int .i64 ((jk (knd n):Nat):Int),.int .i64 ((start+t.length:Nat) - ((rawx n t).length:Int)),.nilIface,.pointer (some ⟨b4,0,none⟩),.pointer (some ⟨b5,0,none⟩),.pointer (some ⟨b6,0,none⟩),.pointer (some ⟨b7,0,none⟩),.pointer (some ⟨b8,0,none⟩),.pointer (some ⟨b9,0,none⟩)] w0 (Ret fun v w'=>v= .tuple #[]∧∃ vf vo,Mem wc.heap.size wc ((b4,3,[.int .i64 ((j+1:Nat):Int)])::(b5,3,[.int .i64 (m:Int)])::(b6,66,[vf])::(b7,3,[.int .i64 (vo)])::(b8,66,[.slice (some ⟨b,o,none⟩) D.length cp])::(b9,3,[.int .i64 (ci:Int)])::L) w'∧vf.oneCell'=true∧(j≠m→vf=vf0∧vo=vo0)∧(j=m→FoundAt wc b t start vf vo)):=by
 have hM:=hM0
 have hlen:=congrArg List.length he
 simp only [List.length_drop,List.length_append] at hlen
 have hseg:=hD.seg (ci+start) hcp he
 refine enter (l:=[.slice (some ⟨b,a0,none⟩) (rawx n t).length (rawx n t).length,.int .i64 ((jk (knd n):Nat):Int),.int .i64 ((start+t.length:Nat) - ((rawx n t).length:Int)),.nilIface,.pointer (some ⟨b4,0,none⟩),.pointer (some ⟨b5,0,none⟩),.pointer (some ⟨b6,0,none⟩),.pointer (some ⟨b7,0,none⟩),.pointer (some ⟨b8,0,none⟩),.pointer (some ⟨b9,0,none⟩)]) 27 Tryz.func157 rfl rfl ?_;intro a hF
 refine cutF (fun a w=>∃ vf vo,Fr 37 [(4,.pointer (some ⟨b4,0,none⟩))] a∧Mem wc.heap.size wc ((b4,3,[.int .i64 (j:Int)])::(b5,3,[.int .i64 (m:Int)])::(b6,66,[vf])::(b7,3,[.int .i64 (vo)])::(b8,66,[.slice (some ⟨b,o,none⟩) D.length cp])::(b9,3,[.int .i64 (ci:Int)])::L) w∧vf.oneCell'=true∧(j≠m→vf=vf0∧vo=vo0)∧(j=m→FoundAt wc b t start vf vo)) (fun a w h=> ?_) ?_
 ·
  clear hF hM
  obtain ⟨vf,vo,hF,hM,hvf1,hno,hyes⟩:=h
  revert a;refine Rg (Ld hM 0 rfl rfl (Sm (((j+1:Nat):Int)) rfl (by omega) (St hM 0 rfl ?_)))
  clear hM;intro w hM
  exact Md 0 [] rfl (Z0 rfl ⟨_,rfl,rfl,_,_,hM,hvf1,hno,hyes⟩)
 revert a;refine Sq (Rg (Ld hM 0 rfl rfl (Ld hM 1 rfl rfl (Md 1 [0,1,2,4,6,7,8,9,16] rfl (Nx (Ce rfl (fun ht=> ?_) ((fun ht=> ?_))))))))
 ·
  have hjm:j≠m:=by rintro rfl;simp at ht
  refine Sk (Kp [4] rfl ?_);intro a hF
  exact ⟨_,_,hF,hM,hvf,fun _=>⟨rfl,rfl⟩,fun h=>absurd h hjm⟩
 have hjm:j=m:=by have:=eq_of_beq ht;omega
 refine Sq (Rg (Mv 1 rfl (St hM 2 rfl ?_)))
 clear hM;intro w hM
 refine Md 0 [0,1,2,4,6,7,8,9] rfl (Nx (Sq (Rg (Mv 1 rfl (St hM 3 rfl ?_)))))
 clear hM;intro w hM
 refine Md 0 [0,1,4,6,7,8,9] rfl (Nx (Sq ?_))
 rcases Classical.em (knd n=4) with h4 | h4
 ·
  have h2:2≤t.length:=by rcases gt_cases hsh with ⟨i,h,_⟩ | ⟨h,_⟩ | ⟨h,_⟩ | ⟨_,h⟩ | ⟨_,h⟩ | ⟨_,h⟩ | ⟨h,_⟩ <;> first | (rw [h4] at h;cases h) | (rw [h];simp)
  have hrl:=rawx_len h4 h2
  refine Rg (Mv 2 rfl ?_);intro a hF
  rw [show (((jk (knd n):Nat):Int)==1)=true by rw [(jk_one _).2 h4];rfl] at hF
  revert a;refine Md 0 [0,4,6,7,8,9,20] rfl (Nx (Ct rfl (Sq (Rg (Ld hM 3 rfl rfl (Sm ((start:Int)) rfl (by omega) (St hM 3 rfl ?_)))))))
  clear hM;intro w hM
  refine Md 0 [0,4,6,7,8,9] rfl (Nx (Rg (Ld hM 4 rfl rfl (Ld hM 5 rfl rfl (Ld hM 3 rfl rfl (Sm (((ci+start:Nat):Int)) rfl (by omega) (Ld hM 5 rfl rfl (Ld hM 3 rfl rfl (Sm (((ci+start:Nat):Int)) rfl (by omega) (Mv 2 rfl (Sm (((ci+start+(rawx n t).length:Nat):Int)) rfl (by omega) (Sm (((ci+start+t.length:Nat):Int)) rfl (by omega) (Gv rfl (fun _ hF=>gives_slFT (ci+start) (ci+start+t.length) hF rfl Tryz.underlying66 (by kernel_rfl) rfl rfl rfl rfl rfl (by omega) (by omega) _) ?_)))))))))))));intro a hF
  rw [Nat.add_sub_cancel_left] at hF
  revert a;refine St hM 2 rfl ?_
  clear hM;intro w hM
  refine Md 0 [4] rfl ?_;intro a hF
  exact ⟨_,_,hF,hM,rfl,fun h=>absurd hjm h,fun _=>⟨_,_,rfl,by omega,hseg,rfl⟩⟩
 have hrl:=rawx_no (t:=t) h4
 refine Rg (Mv 2 rfl ?_);intro a hF
 rw [show (((jk (knd n):Nat):Int)==1)=false by simp;intro h;exact h4 ((jk_one _).1 (by omega))] at hF
 revert a;refine Md 0 [0,4,6,7,8,9,20] rfl (Nx (Cf rfl (Sk (Kp [4] rfl ?_))));intro a hF
 exact ⟨_,_,hF,hM,rfl,fun h=>absurd hjm h,fun _=>⟨a0,(rawx n t).length,by rw [hrl],Nat.le_of_eq (by rw [hrl]),by have:=hx;rw [hrl] at this;exact this,by rw [hrl];omega⟩⟩
theorem cfgGet_walk {b o cp:Nat}{D wb t r:Str}{n:Nd}(he:D=wb++(t++r)) (hwb:Bl wb) (hsh:Shows t (.v n)) (hr:Fol r) (hl:D.length≤2^40) (hcp:D.length≤cp) (w0:World) (hD:Bts w0 b o D):
    Calls Tryz.prog 177 #[.agg CFG.toArray,.slice (some ⟨b,o,none⟩) D.length cp,.slice none 0 0] w0 (Ret fun v w'=>(∃ a',v= .tuple #[.slice (some ⟨b,a',none⟩) (rawx n t).length (rawx n t).length,.int .i64 ((jk (knd n):Nat):Int),.int .i64 ((wb.length+t.length:Nat):Int),.nilIface]∧Bts w0 b a' (rawx n t))∧Below w0.heap.size w0 w'):=by
 have hM:=MS0 w0
 refine enter (l:=[.agg CFG.toArray,.slice (some ⟨b,o,none⟩) D.length cp,.slice none 0 0]) 26 Tryz.func177 rfl rfl (Sq (Rg ?_));intro a hF
 refine op_box (vs:=CFG) hF hM rfl rfl rfl rfl rfl rfl ?_;clear hF hM a;intro a w b3 hF hM
 revert a;refine Md 4 [1,2,3] rfl (Nx (Sq (Rg (Gv rfl (fun _ hF=>gives_loadA hF hM 0 rfl Tryz.underlying125 rfl (by kernel_rfl) rfl rfl) (Mv 2 rfl (Cm hM rfl rfl rfl (getConfig_walk (S:=0) (ad:=none) (kc:=0) (by rw [List.drop_zero];exact he) (Nat.zero_le _) hwb hsh hr hl hcp _ (hD.below hM.below) (.inl ⟨rfl,rfl⟩)) ?_))))))
 clear hM;intro w v hR hM hBe
 obtain ⟨a',rfl,hx⟩:=hR
 have hxx:=(hx.below hBe).back hM.below hD.1
 intro a hF
 rw [Nat.zero_add] at hF
 revert a;refine Md 11 [10,11,13,14] rfl (Nx (Sq (Rg (Md 8 [6,7,8,9] rfl (Nx (Re ?_))))));intro a hF
 exact ret4 hF rfl rfl rfl rfl rfl ⟨_,rfl,⟨_,rfl,hxx⟩,hM.below⟩

end Go.Sx