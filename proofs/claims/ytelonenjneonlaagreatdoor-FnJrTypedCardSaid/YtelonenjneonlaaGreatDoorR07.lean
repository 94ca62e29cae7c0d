/- Part 7 of the proof of FnJrTyped: the statement Rows.FnJrTypedCardSaid; no further condition. -/
import Derived.Test.YtelonenjneonlaaGreatDoorR06
import Derived.Test.YtelonenjneonlaaGreatDoorRows
set_option linter.all false
set_option maxRecDepth 100000
namespace Go.Sx
open Go.RowKit Go.Proofs Js Go.Lib Go.Proofs.YtelonenjneonlaaGreatDoor
theorem LaidVars_at {P:Program}{w:World}:∀ {l:List (String×DataW Unit)}{ps:List MemPlace},DataW.LaidVars P w l ps→∀ {n d},(n,d)∈l→
    ∃ g t cs fuel p,P.globalNamed n=some g∧(P.globals[g]?).map (·.type)=some t∧w.var? P n=some cs∧DataW.trod (fun _=>()) P w 0 (fun _=>true) false fuel t cs.toList=some (d,p)∧(∀ m∈MemPlace.row ⟨g,0,none⟩ cs.size,m∈ps)∧∀ m∈p,m∈ps
  | [],_,_,_,_,hm=>by cases hm
  | (n', d') :: r, ps, h, n, d, hm => by
    obtain ⟨g,t,cs,fuel,p,q,h1,h2,h3,h4,h5,h6⟩:=h
    rcases List.mem_cons.1 hm with e | e
    · cases e
      exact ⟨g,t,cs,fuel,p,h1,h2,h3,h4,fun m hm=>by rw [h6];simp [hm],fun m hm=>by rw [h6];simp [hm]⟩
    · obtain ⟨g',t',cs',fuel',p',a1,a2,a3,a4,a5,a6⟩:=LaidVars_at h5 e
      exact ⟨g',t',cs',fuel',p',a1,a2,a3,a4,fun m hm=>by rw [h6];simp [a5 m hm],fun m hm=>by rw [h6];simp [a6 m hm]⟩
theorem c120:Tryz.prog.cellsOf 120=1:=by kernel_rfl
theorem c9:Tryz.prog.cellsOf 9=1:=by kernel_rfl
theorem star_err: "*" ++ "errors.errorString" = "*errors.errorString" :=by decide
theorem row118 (u:TypeId) (h:Tryz.prog.typeName? 3 u=some "*errors.errorString"):u=118:=
  typeName_ptr_named (nm:= "errors.errorString") (by rw [star_err];kernel_rfl) (by kernel_rfl) (by decide) u (by rw [star_err];exact h)
def errD (text:List UInt8):DataW Unit:= .iface "*errors.errorString" (.ptr (.agg [.lit (.string text)]))
set_option maxRecDepth 100000 in
theorem err_at {w:World}{l:List (String×DataW Unit)}(h:laidMet Tryz.prog l w) {n:String}{text:List UInt8}{g:Nat}(hm:(n,errD text)∈l) (hn:Tryz.prog.globalNamed n=some g) (hy:(Tryz.prog.globals[g]?).map (·.type)=some 63):
    ∃ a,w.cell? ⟨g,0,none⟩=some (EV a)∧(∃ s:ByteArray,w.cell? a=some (.string s)∧s.data.toList=text)∧∃ ca ta,w.heap[a.block]?=some (.cells ca ta (0,0)):=by
  obtain ⟨ps,hv,hnd,hrows⟩:=h
  obtain ⟨g',t',cs,fuel,p,hg,ht,hvar,hd,hs1,hs2⟩:=LaidVars_at hv hm
  obtain rfl:=Option.some.inj (hn.symm.trans hg)
  obtain rfl:=Option.some.inj (hy.symm.trans ht)
  obtain ⟨l0⟩:=cs
  have hc0:=fun j=>World.var?_cell hg hvar j
  have ok:∀ u v,l0=[.iface u v]→Value.okWide Tryz.prog w .any 0 u v:=fun u v e=>by
    subst e
    exact (hrows g 0 (hs1 _ (by simp [MemPlace.row]))).2 u v (by simpa using hc0 0)
  obtain ⟨a,s,rfl,hc,hs,_,rfl⟩:=errorString_of_trod Tryz.underlying63 row118 Tryz.underlying118 Tryz.underlying120 rfl rfl Tryz.underlying9 c120 c9 hd ok
  obtain ⟨ca,ta,hb⟩:=(hrows a.block a.off (hs2 _ (by simp [MemPlace.row]))).1
  exact ⟨a,by unfold EV;simpa using hc0 0,⟨s,hc,hs⟩,ca,ta,hb⟩
def gOf (k:Nat):Nat:=if k=11 then 14 else k
def txtOf:Nat→List UInt8
  | 0=> [86,97,108,117,101,32,105,115,32,110,117,108,108]
  | 1=> [75,101,121,32,112,97,116,104,32,110,111,116,32,102,111,117,110,100]
  | 2=> [85,110,107,110,111,119,110,32,118,97,108,117,101,32,116,121,112,101]
  | 3=> [77,97,108,102,111,114,109,101,100,32,74,83,79,78,32,101,114,114,111,114]
  | 4=> [86,97,108,117,101,32,105,115,32,115,116,114,105,110,103,44,32,98,117,116,32,99,97,110,39,116,32,102,105,110,100,32,99,108,111,115,105,110,103,32,39,34,39,32,115,121,109,98,111,108]
  | 5=> [86,97,108,117,101,32,105,115,32,97,114,114,97,121,44,32,98,117,116,32,99,97,110,39,116,32,102,105,110,100,32,99,108,111,115,105,110,103,32,39,93,39,32,115,121,109,98,111,108]
  | 6=> [86,97,108,117,101,32,108,111,111,107,115,32,108,105,107,101,32,111,98,106,101,99,116,44,32,98,117,116,32,99,97,110,39,116,32,102,105,110,100,32,99,108,111,115,105,110,103,32,39,125,39,32,115,121,109,98,111,108]
  | 7=> [86,97,108,117,101,32,108,111,111,107,115,32,108,105,107,101,32,78,117,109,98,101,114,47,66,111,111,108,101,97,110,47,78,111,110,101,44,32,98,117,116,32,99,97,110,39,116,32,102,105,110,100,32,105,116,115,32,101,110,100,58,32,39,44,39,32,111,114,32,39,125,39,32,115,121,109,98,111,108]
  | 8=> [86,97,108,117,101,32,105,115,32,110,117,109,98,101,114,44,32,98,117,116,32,111,118,101,114,102,108,111,119,101,100,32,119,104,105,108,101,32,112,97,114,115,105,110,103]
  | 9=> [69,110,99,111,117,110,116,101,114,101,100,32,97,110,32,105,110,118,97,108,105,100,32,101,115,99,97,112,101,32,115,101,113,117,101,110,99,101,32,105,110,32,97,32,115,116,114,105,110,103]
  | 10=> [118,97,108,117,101,32,111,117,116,32,111,102,32,114,97,110,103,101]
  | _=> [105,110,118,97,108,105,100,32,115,121,110,116,97,120]
theorem txt_apart:((List.range 12).all fun j=>(List.range 12).all fun k=>j==k || txtOf j !=txtOf k)=true:=by decide+kernel
set_option maxRecDepth 100000 in
theorem errs_at {w:World}(h:laidMet Tryz.prog Rows.fnJrTypedRow.laid w) (k:Nat) (hk:k<12):∃ a,w.cell? ⟨gOf k,0,none⟩=some (EV a)∧(∃ s:ByteArray,w.cell? a=some (.string s)∧s.data.toList=txtOf k)∧∃ ca ta,w.heap[a.block]?=some (.cells ca ta (0,0)):=by
  match k,hk with
  | 0,_=>exact err_at h (n:= "pub-tetrapla/pub/jsonparser.NullValueError") (List.mem_of_getElem? (i:=22) rfl) (by kernel_rfl) (by kernel_rfl)
  | 1,_=>exact err_at h (n:= "pub-tetrapla/pub/jsonparser.KeyPathNotFoundError") (List.mem_of_getElem? (i:=13) rfl) (by kernel_rfl) (by kernel_rfl)
  | 2,_=>exact err_at h (n:= "pub-tetrapla/pub/jsonparser.UnknownValueTypeError") (List.mem_of_getElem? (i:=14) rfl) (by kernel_rfl) (by kernel_rfl)
  | 3,_=>exact err_at h (n:= "pub-tetrapla/pub/jsonparser.MalformedJsonError") (List.mem_of_getElem? (i:=15) rfl) (by kernel_rfl) (by kernel_rfl)
  | 4,_=>exact err_at h (n:= "pub-tetrapla/pub/jsonparser.MalformedStringError") (List.mem_of_getElem? (i:=16) rfl) (by kernel_rfl) (by kernel_rfl)
  | 5,_=>exact err_at h (n:= "pub-tetrapla/pub/jsonparser.MalformedArrayError") (List.mem_of_getElem? (i:=17) rfl) (by kernel_rfl) (by kernel_rfl)
  | 6,_=>exact err_at h (n:= "pub-tetrapla/pub/jsonparser.MalformedObjectError") (List.mem_of_getElem? (i:=18) rfl) (by kernel_rfl) (by kernel_rfl)
  | 7,_=>exact err_at h (n:= "pub-tetrapla/pub/jsonparser.MalformedValueError") (List.mem_of_getElem? (i:=19) rfl) (by kernel_rfl) (by kernel_rfl)
  | 8,_=>exact err_at h (n:= "pub-tetrapla/pub/jsonparser.OverflowIntegerError") (List.mem_of_getElem? (i:=20) rfl) (by kernel_rfl) (by kernel_rfl)
  | 9,_=>exact err_at h (n:= "pub-tetrapla/pub/jsonparser.MalformedStringEscapeError") (List.mem_of_getElem? (i:=21) rfl) (by kernel_rfl) (by kernel_rfl)
  | 10,_=>exact err_at h (n:= "strconv.ErrRange") (List.mem_of_getElem? (i:=9) rfl) (by kernel_rfl) (by kernel_rfl)
  | 11,_=>exact err_at h (n:= "strconv.ErrSyntax") (List.mem_of_getElem? (i:=10) rfl) (by kernel_rfl) (by kernel_rfl)
  | n+12,h=>exact absurd h (by omega)
theorem bool_field {H:Type}{enc:TypeId×Value→H}{P:Program}{w:World}{base:Nat}{sp:Nat→Bool}{held:Bool}{fuel:Nat}{t:TypeId}{cs:List Value}{p:List MemPlace}{fs:Array Field}{ds:List (DataW H)}(ht:P.underlying t=some (.struct fs)) (h:DataW.trod enc P w base sp held fuel t cs=some (.agg ds,p)) {i o:Nat}{f:Field}{z:Bool}(hf:fs[i]?=some f) (hd:ds[i]?=some (.lit (.bool z)))
    (ho:f.offset=o) (hu:P.underlying f.type=some .bool) (hc:P.cellsOf f.type=1):cs[o]?=some (.bool z):=by
  obtain ⟨m,q,h1⟩:=struct_at ht h hf hd
  rw [ho,hc] at h1
  obtain ⟨z',e1,e2⟩:=DataW.trod_bool hu h1
  have:=(Prod.mk.inj e2).1
  simp only [DataW.lit.injEq,Lit.bool.injEq] at this
  rw [one_at e1,this]
theorem g_cfg {w:World}(h:VarReads Tryz.prog w "pub-tetrapla/pub/jsonparser.DefaultConfig" (.agg [.lit (.bool false),.lit (.bool false),.lit (.int .i64 0)])):w.rangeAt 12 0 CFG:=by
  obtain ⟨cs,fuel,p,hc,hd⟩:=var_reads h (g:=12) (t:=125) (by kernel_rfl) (by kernel_rfl)
  intro i u hi
  rw [Nat.zero_add,hc i]
  rcases i with _ | _ | _ | i
  · obtain rfl:=Option.some.inj hi
    exact bool_field (i:=0) Tryz.underlying125 hd rfl rfl rfl (by kernel_rfl) (by kernel_rfl)
  · obtain rfl:=Option.some.inj hi
    exact bool_field (i:=1) Tryz.underlying125 hd rfl rfl rfl (by kernel_rfl) (by kernel_rfl)
  · obtain rfl:=Option.some.inj hi
    exact int_field (i:=2) Tryz.underlying125 hd rfl rfl rfl (by kernel_rfl) (by kernel_rfl)
  · cases hi
def tabN (c:Nat):Int:=if escLetter (UInt8.ofNat c) then ((short (UInt8.ofNat c)).toNat:Int) else 0
theorem g_esc {w:World}(h:VarReads Tryz.prog w "pub-tetrapla/pub/jsonparser.backslashCharEscapeTable" (tabData .u8 ((List.range 117).map tabN))):∀ d,escLetter d=true→w.cell? ⟨16,d.toNat,none⟩=some (.int .u8 ((short d).toNat:Int)):=by
  obtain ⟨cs,fuel,p,hc,hd⟩:=var_reads h (g:=16) (t:=209) (by kernel_rfl) (by kernel_rfl)
  have e:=cells_of_tab (n:=117) (e:=5) (by kernel_rfl) Tryz.underlying5 (by kernel_rfl) (by kernel_rfl) hd
  intro d hdl
  have hlt:d.toNat<117:=by
    have g:∀ n:Nat,n<256→escLetter n.toUInt8=true→n<117:=by decide+kernel
    exact g d.toNat d.toNat_lt (by rw [show d.toNat.toUInt8=d by simp];exact hdl)
  rw [hc,e,List.getElem?_map,List.getElem?_map,List.getElem?_range hlt]
  simp [tabN,hdl]
theorem g_rows {w:World}(h:VarReads Tryz.prog w "internal/strconv.pow10Tab" Go.Pinned.pow10Tab):∀ j x,Go.Pinned.pow10Rows[j]?=some x→w.cell? ⟨27,j*2,none⟩=some (.int .u64 (x.1:Int))∧w.cell? ⟨27,j*2+1,none⟩=some (.int .u64 (x.2:Int)):=by
  intro j x hx
  obtain ⟨cs,fuel,p,hc,hd⟩:=var_reads h (g:=27) (t:=292) (by kernel_rfl) (by kernel_rfl)
  have c2:Tryz.prog.cellsOf 291=2:=by kernel_rfl
  have hj:j<696:=by rw [←rows_len];exact (List.getElem?_eq_some_iff.1 hx).1
  obtain ⟨m,d,q,h1,h2⟩:=array_elem (n:=696) (e:=291) (by kernel_rfl) hd j hj
  rw [List.getElem?_map] at h1
  obtain ⟨x',hx',rfl⟩:=Option.map_eq_some_iff.1 h1
  obtain rfl:=Option.some.inj (hx.symm.trans hx')
  rw [c2] at h2
  have hget:∀ r v,r<2→((cs.drop (j*2)).take 2)[r]?=some v→cs[j*2+r]?=some v:=by
    intro r v hr hv
    rw [List.getElem?_take,if_pos hr,List.getElem?_drop] at hv
    exact hv
  exact ⟨by rw [hc];exact hget 0 _ (by decide) (int_field (i:=0) Tryz.underlying291 h2 rfl rfl rfl (by kernel_rfl) (by kernel_rfl)),by rw [hc];exact hget 1 _ (by decide) (int_field (i:=1) Tryz.underlying291 h2 rfl rfl rfl (by kernel_rfl) (by kernel_rfl))⟩
set_option maxRecDepth 100000 in
theorem tabx_of_laid {w:World}(h:laidMet Tryz.prog Rows.fnJrTypedRow.laid w):TabX w.heap.size w:=by
  have hlt:30<w.heap.size:=by
    obtain ⟨cs,fuel,p,hc,hd⟩:=var_reads (Go.Lib.laidMet.reads h (n:= "math/bits.deBruijn64tab") (List.mem_of_getElem? (i:=1) rfl)) (g:=30) (t:=127) (by kernel_rfl) (by kernel_rfl)
    obtain ⟨xs,m,_,ex,hl,_⟩:=DataW.trod_array (n:=64) (e:=5) (by kernel_rfl) hd
    have c:Tryz.prog.cellsOf 127=64:=by kernel_rfl
    rw [c] at hl
    have h0:=hc 0
    rw [List.getElem?_eq_getElem (by omega)] at h0
    rcases Nat.lt_or_ge 30 w.heap.size with h | h
    · exact h
    · simp [World.cell?,h] at h0
  obtain ⟨i1,i2,i3⟩:=g_info (Go.Lib.laidMet.reads h (n:= "internal/strconv.float64info") (List.mem_of_getElem? (i:=3) rfl))
  have ht:=Go.Lib.laidMet.reads h (n:= "internal/strconv.pow10Tab") (List.mem_of_getElem? (i:=24) rfl)
  exact ⟨⟨hlt,g_opt (Go.Lib.laidMet.reads h (n:= "internal/strconv.optimize") (List.mem_of_getElem? (i:=4) rfl)),i1,i2,i3,
    g_powtab (Go.Lib.laidMet.reads h (n:= "internal/strconv.powtab") (List.mem_of_getElem? (i:=5) rfl)),g_pow10 rfl (Go.Lib.laidMet.reads h (n:= "internal/strconv.float64pow10") (List.mem_of_getElem? (i:=6) rfl)),
    g_tab ht,g_cheats (Go.Lib.laidMet.reads h (n:= "internal/strconv.leftcheats") (List.mem_of_getElem? (i:=23) rfl)),
    g_err (Go.Lib.laidMet.reads h (n:= "strconv.ErrRange") (List.mem_of_getElem? (i:=9) rfl)) (by kernel_rfl) (by kernel_rfl),g_err (Go.Lib.laidMet.reads h (n:= "strconv.ErrSyntax") (List.mem_of_getElem? (i:=10) rfl)) (by kernel_rfl) (by kernel_rfl)⟩,g_rows ht⟩
set_option maxRecDepth 100000 in
theorem jb_of_laid {w:World}(h:laidMet Tryz.prog Rows.fnJrTypedRow.laid w):∃ ea,JB ea w.heap.size w:=by
  have hlt:=(tabx_of_laid h).tabs.lt
  have hall:∀ k,∃ a,k<12→w.cell? ⟨gOf k,0,none⟩=some (EV a)∧(∃ s:ByteArray,w.cell? a=some (.string s)∧s.data.toList=txtOf k)∧∃ ca ta,w.heap[a.block]?=some (.cells ca ta (0,0)):=fun k=>by
    by_cases hk:k<12
    · obtain ⟨a,ha⟩:=errs_at h k hk
      exact ⟨a,fun _=>ha⟩
    · exact ⟨⟨0,0,none⟩,fun h=>absurd h hk⟩
  obtain ⟨ea,hea⟩:=Classical.axiomOfChoice hall
  have hblk:∀ k,k<12→(ea k).block<w.heap.size:=fun k hk=>by
    obtain ⟨ca,ta,hb⟩:=(hea k hk).2.2
    rcases Nat.lt_or_ge (ea k).block w.heap.size with h | h
    · exact h
    · rw [Array.getElem?_eq_none h] at hb;cases hb
  refine ⟨ea,hlt,g_cfg (Go.Lib.laidMet.reads h (n:= "pub-tetrapla/pub/jsonparser.DefaultConfig") (List.mem_of_getElem? (i:=11) rfl)),g_esc (Go.Lib.laidMet.reads h (n:= "pub-tetrapla/pub/jsonparser.backslashCharEscapeTable") (List.mem_of_getElem? (i:=12) rfl)),fun k hk=> ?_,?_,fun j k hj hk hjk e=> ?_,fun k hk=>(hea k hk).2.2⟩
  · have h1:=(hea k (by omega)).1
    rw [show gOf k=k by unfold gOf;rw [if_neg (by omega)]] at h1
    exact ⟨h1,hblk k (by omega)⟩
  · exact ⟨(hea 11 (by omega)).1,hblk 11 (by omega)⟩
  · obtain ⟨s,h1,h2⟩:=(hea j hj).2.1
    obtain ⟨s',h3,h4⟩:=(hea k hk).2.1
    rw [e,h3] at h1
    have h5:s'=s:=by simpa using h1
    have h6:=List.all_eq_true.1 (List.all_eq_true.1 txt_apart j (List.mem_range.2 hj)) k (List.mem_range.2 hk)
    rw [h5,h2] at h4
    simp [hjk,h4] at h6
open Go.Proofs.YtelonenjneonlaaGreatDoorW.PrintWords
theorem sub_conv {c d:Nat}(h:d≤c) (h2:c<256):IntKind.i64.wrap (IntKind.u8.wrap ((c:Int) - (d:Int)))=((c - d:Nat):Int):=by
  rw [IntWalk.u8_in _ ⟨by omega,by omega⟩,IntWalk.i64_in _ ⟨by omega,by omega⟩];omega
theorem hexDigit_walk (c:UInt8) (w0:World):Calls Tryz.prog 116 #[.int .u8 (c.toNat:Int)] w0 (Ret fun v w'=>v= .tuple #[.int .i64 (((hexVal c).getD 0:Nat):Int),.bool (hexVal c).isSome]∧Below w0.heap.size w0 w'):=by
 have hM:=MS0 w0
 have hc:=c.toNat_lt
 refine enter (l:=[.int .u8 (c.toNat:Int)]) 35 Tryz.func116 rfl rfl (Sq (Rg (Md 2 [0] rfl (Nx (Sq (Bo (Sq ?_)))))))
 rcases (show c.toNat<48∨(48≤c.toNat∧c.toNat≤57)∨(58≤c.toNat∧c.toNat≤64)∨(65≤c.toNat∧c.toNat≤70)∨(71≤c.toNat∧c.toNat≤96)∨(97≤c.toNat∧c.toNat≤102)∨103≤c.toNat by omega) with hk | hk | hk | hk | hk | hk | hk
 ·
  have hv:hexVal c=none:=by unfold hexVal;rw [if_neg (by omega),if_neg (by omega),if_neg (by omega)]
  exact Rg (Mv 1 rfl (Bf rfl (by omega) (Md 5 [0,4] rfl (Nx (Cf rfl (Sq (Rg (Mv 1 rfl (Bf rfl (by omega) (Md 5 [0,14] rfl (Nx (Cf rfl (Sq (Rg (Mv 1 rfl (Bf rfl (by omega) (Md 5 [0,25] rfl (Nx (Cf rfl (Sk (Nb (Nx (Sq (Rg (Md 2 [2,3] rfl (Nx (Re (Y2 rfl rfl rfl ⟨_,rfl,by rw [hv];rfl,hM.below⟩))))))))))))))))))))))))))))
 ·
  have hv:hexVal c=some (c.toNat - 48):=by unfold hexVal;rw [if_pos (by omega)]
  exact Rg (Mv 1 rfl (Bt rfl (by omega) (Mv 2 rfl (Bt rfl (by omega) (Md 2 [0,4] rfl (Nx (Ct rfl (Sq (Rg (Mv 2 rfl (Gv rfl (fun _ hF=>gives_conv hF rfl Tryz.underlying5 Tryz.underlying3 rfl (((c.toNat - 48:Nat):Int)) (sub_conv (d:=48) (by omega) (by omega)) _) (Md 2 [2,3] rfl (Nx (Re (Rb (Rt (Y2 rfl rfl rfl ⟨_,rfl,by rw [hv];rfl,hM.below⟩)))))))))))))))))
 ·
  have hv:hexVal c=none:=by unfold hexVal;rw [if_neg (by omega),if_neg (by omega),if_neg (by omega)]
  exact Rg (Mv 1 rfl (Bt rfl (by omega) (Mv 2 rfl (Bf rfl (by omega) (Md 2 [0,4] rfl (Nx (Cf rfl (Sq (Rg (Mv 1 rfl (Bf rfl (by omega) (Md 5 [0,14] rfl (Nx (Cf rfl (Sq (Rg (Mv 1 rfl (Bf rfl (by omega) (Md 5 [0,25] rfl (Nx (Cf rfl (Sk (Nb (Nx (Sq (Rg (Md 2 [2,3] rfl (Nx (Re (Y2 rfl rfl rfl ⟨_,rfl,by rw [hv];rfl,hM.below⟩))))))))))))))))))))))))))))))
 ·
  have hv:hexVal c=some (c.toNat - 65+10):=by unfold hexVal;rw [if_neg (by omega),if_neg (by omega),if_pos (by omega)]
  exact Rg (Mv 1 rfl (Bt rfl (by omega) (Mv 2 rfl (Bf rfl (by omega) (Md 2 [0,4] rfl (Nx (Cf rfl (Sq (Rg (Mv 1 rfl (Bf rfl (by omega) (Md 5 [0,14] rfl (Nx (Cf rfl (Sq (Rg (Mv 1 rfl (Bt rfl (by omega) (Mv 2 rfl (Bt rfl (by omega) (Md 2 [0,25] rfl (Nx (Ct rfl (Sq (Rg (Mv 2 rfl (Gv rfl (fun _ hF=>gives_conv hF rfl Tryz.underlying5 Tryz.underlying3 rfl (((c.toNat - 65:Nat):Int)) (sub_conv (d:=65) (by omega) (by omega)) _) (Sm (((c.toNat - 65+10:Nat):Int)) rfl (by omega) (Md 2 [2,3] rfl (Nx (Re (Rb (Rt (Y2 rfl rfl rfl ⟨_,rfl,by rw [hv];rfl,hM.below⟩))))))))))))))))))))))))))))))))))
 ·
  have hv:hexVal c=none:=by unfold hexVal;rw [if_neg (by omega),if_neg (by omega),if_neg (by omega)]
  exact Rg (Mv 1 rfl (Bt rfl (by omega) (Mv 2 rfl (Bf rfl (by omega) (Md 2 [0,4] rfl (Nx (Cf rfl (Sq (Rg (Mv 1 rfl (Bf rfl (by omega) (Md 5 [0,14] rfl (Nx (Cf rfl (Sq (Rg (Mv 1 rfl (Bt rfl (by omega) (Mv 2 rfl (Bf rfl (by omega) (Md 2 [0,25] rfl (Nx (Cf rfl (Sk (Nb (Nx (Sq (Rg (Md 2 [2,3] rfl (Nx (Re (Y2 rfl rfl rfl ⟨_,rfl,by rw [hv];rfl,hM.below⟩))))))))))))))))))))))))))))))))
 ·
  have hv:hexVal c=some (c.toNat - 97+10):=by unfold hexVal;rw [if_neg (by omega),if_pos (by omega)]
  exact Rg (Mv 1 rfl (Bt rfl (by omega) (Mv 2 rfl (Bf rfl (by omega) (Md 2 [0,4] rfl (Nx (Cf rfl (Sq (Rg (Mv 1 rfl (Bt rfl (by omega) (Mv 2 rfl (Bt rfl (by omega) (Md 2 [0,14] rfl (Nx (Ct rfl (Sq (Rg (Mv 2 rfl (Gv rfl (fun _ hF=>gives_conv hF rfl Tryz.underlying5 Tryz.underlying3 rfl (((c.toNat - 97:Nat):Int)) (sub_conv (d:=97) (by omega) (by omega)) _) (Sm (((c.toNat - 97+10:Nat):Int)) rfl (by omega) (Md 2 [2,3] rfl (Nx (Re (Rb (Rt (Y2 rfl rfl rfl ⟨_,rfl,by rw [hv];rfl,hM.below⟩)))))))))))))))))))))))))))
 have hv:hexVal c=none:=by unfold hexVal;rw [if_neg (by omega),if_neg (by omega),if_neg (by omega)]
 exact Rg (Mv 1 rfl (Bt rfl (by omega) (Mv 2 rfl (Bf rfl (by omega) (Md 2 [0,4] rfl (Nx (Cf rfl (Sq (Rg (Mv 1 rfl (Bt rfl (by omega) (Mv 2 rfl (Bf rfl (by omega) (Md 2 [0,14] rfl (Nx (Cf rfl (Sq (Rg (Mv 1 rfl (Bt rfl (by omega) (Mv 2 rfl (Bf rfl (by omega) (Md 2 [0,25] rfl (Nx (Cf rfl (Sk (Nb (Nx (Sq (Rg (Md 2 [2,3] rfl (Nx (Re (Y2 rfl rfl rfl ⟨_,rfl,by rw [hv];rfl,hM.below⟩))))))))))))))))))))))))))))))))))
theorem short_walk (c:UInt8) (w0:World):Calls Tryz.prog 76 #[.int .u8 (c.toNat:Int)] w0 (Ret fun v w'=>v= .int .u8 ((short c).toNat:Int)∧Below w0.heap.size w0 w'):=by
 have hM:=MS0 w0
 refine enter (l:=[.int .u8 (c.toNat:Int)]) 14 Tryz.func76 rfl rfl (Sq (Rg (Md 1 [0] rfl (Nx (Sq (Sq (Rg (Md 1 [0,3] rfl (Nx (Bo (Sq (Rg (Md 2 [0,3,4] rfl (Nx (Cd rfl (fun ht=> ?_) ((fun ht=> ?_)))))))))))))))))
 ·
  obtain rfl:=eq_t (d:=98) rfl ht
  exact Sq (Rg (Md 1 [2] rfl (Nx (Re (Rb (Rt (Y1 rfl rfl ⟨_,rfl,by first | rfl | simp [short,n98,n102,n110,n114,n116],hM.below⟩)))))))
 have n98:=eq_f (d:=98) rfl ht
 refine Sq (Rg (Md 2 [0,3,6] rfl (Nx (Cd rfl (fun ht=> ?_) ((fun ht=> ?_))))))
 ·
  obtain rfl:=eq_t (d:=102) rfl ht
  exact Sq (Rg (Md 1 [2] rfl (Nx (Re (Rb (Rt (Y1 rfl rfl ⟨_,rfl,by first | rfl | simp [short,n98,n102,n110,n114,n116],hM.below⟩)))))))
 have n102:=eq_f (d:=102) rfl ht
 refine Sq (Rg (Md 2 [0,3,8] rfl (Nx (Cd rfl (fun ht=> ?_) ((fun ht=> ?_))))))
 ·
  obtain rfl:=eq_t (d:=110) rfl ht
  exact Sq (Rg (Md 1 [2] rfl (Nx (Re (Rb (Rt (Y1 rfl rfl ⟨_,rfl,by first | rfl | simp [short,n98,n102,n110,n114,n116],hM.below⟩)))))))
 have n110:=eq_f (d:=110) rfl ht
 refine Sq (Rg (Md 2 [0,3,10] rfl (Nx (Cd rfl (fun ht=> ?_) ((fun ht=> ?_))))))
 ·
  obtain rfl:=eq_t (d:=114) rfl ht
  exact Sq (Rg (Md 1 [2] rfl (Nx (Re (Rb (Rt (Y1 rfl rfl ⟨_,rfl,by first | rfl | simp [short,n98,n102,n110,n114,n116],hM.below⟩)))))))
 have n114:=eq_f (d:=114) rfl ht
 refine Sq (Rg (Md 2 [0,12] rfl (Nx (Cd rfl (fun ht=> ?_) ((fun ht=> ?_))))))
 ·
  obtain rfl:=eq_t (d:=116) rfl ht
  exact Sq (Rg (Md 1 [2] rfl (Nx (Re (Rb (Rt (Y1 rfl rfl ⟨_,rfl,by first | rfl | simp [short,n98,n102,n110,n114,n116],hM.below⟩)))))))
 have n116:=eq_f (d:=116) rfl ht
 exact Sk (Nb (Nx (Sq (Rg (Md 2 [2] rfl (Nx (Re (Y1 rfl rfl ⟨_,rfl,by first | rfl | simp [short,n98,n102,n110,n114,n116],hM.below⟩))))))))
theorem high_walk (n:Nat) (w0:World):Calls Tryz.prog 77 #[.int .i64 (n:Int)] w0 (Ret fun v w'=>v= .bool (high n)∧Below w0.heap.size w0 w'):=by
 have hM:=MS0 w0
 refine enter (l:=[.int .i64 (n:Int)]) 8 Tryz.func77 rfl rfl (Sq (Rg (Md 1 [0] rfl (Nx (Sq ?_)))))
 rcases (show n<55296∨(55296≤n∧56319<n)∨(55296≤n∧n≤56319) by omega) with hk | hk | hk
 · exact Rg (Mv 1 rfl (Bf rfl (by omega) (Md 5 [2] rfl (Nx (Re (Y1 rfl rfl ⟨_,rfl,by simp [high];omega,hM.below⟩))))))
 · exact Rg (Mv 1 rfl (Bt rfl (by omega) (Mv 2 rfl (Bf rfl (by omega) (Md 2 [2] rfl (Nx (Re (Y1 rfl rfl ⟨_,rfl,by simp [high];omega,hM.below⟩))))))))
 exact Rg (Mv 1 rfl (Bt rfl (by omega) (Mv 2 rfl (Bt rfl (by omega) (Md 2 [2] rfl (Nx (Re (Y1 rfl rfl ⟨_,rfl,by simp [high];omega,hM.below⟩))))))))
theorem low_walk (n:Nat) (w0:World):Calls Tryz.prog 78 #[.int .i64 (n:Int)] w0 (Ret fun v w'=>v= .bool (low n)∧Below w0.heap.size w0 w'):=by
 have hM:=MS0 w0
 refine enter (l:=[.int .i64 (n:Int)]) 8 Tryz.func78 rfl rfl (Sq (Rg (Md 1 [0] rfl (Nx (Sq ?_)))))
 rcases (show n<56320∨(56320≤n∧57343<n)∨(56320≤n∧n≤57343) by omega) with hk | hk | hk
 · exact Rg (Mv 1 rfl (Bf rfl (by omega) (Md 5 [2] rfl (Nx (Re (Y1 rfl rfl ⟨_,rfl,by simp [low];omega,hM.below⟩))))))
 · exact Rg (Mv 1 rfl (Bt rfl (by omega) (Mv 2 rfl (Bf rfl (by omega) (Md 2 [2] rfl (Nx (Re (Y1 rfl rfl ⟨_,rfl,by simp [low];omega,hM.below⟩))))))))
 exact Rg (Mv 1 rfl (Bt rfl (by omega) (Mv 2 rfl (Bt rfl (by omega) (Md 2 [2] rfl (Nx (Re (Y1 rfl rfl ⟨_,rfl,by simp [low];omega,hM.below⟩))))))))
theorem unit_walk (s:Str) (i:Nat) (hi:i≤2^41) (hl:s.length≤2^41) (w0:World):
    Calls Tryz.prog 75 #[.string (mkS s),.int .i64 (i:Int)] w0 (Ret fun v w'=>v= .tuple #[.int .i64 (((unit (s.drop i)).getD 0:Nat):Int),.bool (unit (s.drop i)).isSome]∧Below w0.heap.size w0 w'):=by
 have hM:=MS0 w0
 have hdl:(s.drop i).length=s.length - i:=List.length_drop
 refine enter (l:=[.string (mkS s),.int .i64 (i:Int)]) 48 Tryz.func75 rfl rfl (Sq (Rg (Md 2 [0,1] rfl (Nx (Sq (Sq ?_))))))
 rcases unit_parts (s.drop i) with ⟨h6,hu⟩ | ⟨c,r,hD,hc,h6,hu⟩ | ⟨c,r,hD,hc,h6,hu⟩ | ⟨a',b,c,d,r,hD,hu⟩
 · exact Rg (Mv 3 rfl (Sm ((s.length:Int) - (i:Int)) rfl (by omega) (Bt rfl (by omega) (Md 13 [0,1,27] rfl (Nx (Ct rfl (Sq (Rg (Md 2 [4,5] rfl (Nx (Re (Rt (Y2 rfl rfl rfl ⟨_,rfl,by rw [hu];rfl,hM.below⟩)))))))))))))
 ·
  have hg:=drop_get hD 0
  refine Rg (Mv 3 rfl (Sm ((s.length:Int) - (i:Int)) rfl (by omega) (Bf rfl (by omega) (Mv 3 rfl (Ix (i) c rfl hg (by omega) (Mv 1 rfl ?_))))));intro a hF
  rw [bne_t (d:=92) (z:=92) rfl hc] at hF
  revert a;exact Md 8 [0,1,27] rfl (Nx (Ct rfl (Sq (Rg (Md 2 [4,5] rfl (Nx (Re (Rt (Y2 rfl rfl rfl ⟨_,rfl,by rw [hu];rfl,hM.below⟩)))))))))
 ·
  have hg:=drop_get hD 0
  have hg1:=drop_get hD 1
  refine Rg (Mv 3 rfl (Sm ((s.length:Int) - (i:Int)) rfl (by omega) (Bf rfl (by omega) (Mv 3 rfl (Ix (i) 92 rfl hg (by omega) (Mv 5 rfl (Sm (((i+1:Nat):Int)) rfl (by omega) (Ix ((i+1)) c rfl hg1 (by omega) (Mv 1 rfl ?_)))))))));intro a hF
  rw [bne_t (d:=117) (z:=117) rfl hc] at hF
  revert a;exact Md 1 [0,1,27] rfl (Nx (Ct rfl (Sq (Rg (Md 2 [4,5] rfl (Nx (Re (Rt (Y2 rfl rfl rfl ⟨_,rfl,by rw [hu];rfl,hM.below⟩)))))))))
 have hg:=drop_get hD 0
 have hg1:=drop_get hD 1
 have h6:s.length - i=r.length+6:=by rw [←hdl,hD];rfl
 refine Rg (Mv 3 rfl (Sm ((s.length:Int) - (i:Int)) rfl (by omega) (Bf rfl (by omega) (Mv 3 rfl (Ix (i) 92 rfl hg (by omega) (Mv 5 rfl (Sm (((i+1:Nat):Int)) rfl (by omega) (Ix ((i+1)) 117 rfl hg1 (by omega) (Md 2 [0,1,27] rfl (Nx (Cf rfl (Sk (Nx (Sq (Rg (Md 1 [0,1,6] rfl (Nx (Sq (Sq (Rg (Mv 1 rfl (Sm (((i+2:Nat):Int)) rfl (by omega) (Md 1 [0,1,6,7] rfl (Nx (Bo (Kp [0,1,6,7] rfl ?_))))))))))))))))))))))))));intro a hF
 refine loopX (fun (j:Nat) a w=>Fr 50 [(0,.string (mkS s)),(1,.int .i64 (i:Int)),(6,.int .i64 ((hexN ([a',b,c,d].take j):Nat):Int)),(7,.int .i64 ((i+2+j:Nat):Int))] a∧Mem w0.heap.size w0 [] w∧j≤4∧∀ x∈ [a',b,c,d].take j,IsHex x) (fun j=>4 - j) (0) ?_ (fun j a w hI=> ?_)
 · exact ⟨hF,hM,Nat.zero_le _,by simp⟩
 clear hF hM
 obtain ⟨hF,hM,hj,hall⟩:=hI
 revert a;refine Sq (Sq (Rg (Mv 2 rfl (Sm (((i+6:Nat):Int)) rfl (by omega) (Md 1 [0,1,6,7,33] rfl (Nx (Ce rfl (fun ht=> ?_) ((fun ht=> ?_)))))))))
 ·
  have hj4:j=4:=by have:=of_decide_eq_false ht;omega
  subst hj4
  refine Ex (Ot (Ot (Ob (Nx (Sq (Rg (Md 3 [4,5] rfl (Nx (Re ?_)))))))));intro a hF
  exact ret2 hF rfl rfl rfl ⟨_,rfl,by rw [hu,hex4_hexN hall];rfl,hM.below⟩
 have hj4:j<4:=by have:=of_decide_eq_true ht;omega
 obtain ⟨x,hx⟩:∃ x,[a',b,c,d][j]?=some x:=⟨_,List.getElem?_eq_getElem (by simp;omega)⟩
 have hgj:s[i+2+j]?=some x:=by rw [Nat.add_assoc,drop_get hD,show 2+j=j+1+1 by omega];exact (List.getElem?_append_left (l₂:=r) (l₁:=[a',b,c,d]) (by simp;omega)).trans hx
 have hlt:i+2+j<s.length:=by omega
 refine Sk (Nx (Sq (Bo (Sq (Rg (Mv 2 rfl (Ix ((i+2+j)) x rfl hgj (by omega) (Cm hM rfl rfl rfl (hexDigit_walk x _) ?_))))))))
 clear hM;intro w v hR hM hBe
 obtain rfl:=hR
 refine Md 5 [0,1,6,7,8,9] rfl (Nx (Sq (Sq (Rg (Md 2 [0,1,6,7,8,44] rfl (Nx (Cd rfl (fun ht=> ?_) ((fun ht=> ?_)))))))))
 ·
  have hn:hexVal x=none:=by cases hp:hexVal x with | none=>rfl | some q=>rw [hp] at ht;cases ht
  have hu0:unit (s.drop i)=none:=by rw [hu];exact hex4_none (List.mem_of_getElem? hx) hn
  refine Sq (Rg (Md 2 [4,5] rfl (Nx (Re (Rt (Rb (Rt (Rt (Rb (Rt ?_))))))))));intro a hF
  exact ret2 hF rfl rfl rfl ⟨_,rfl,by rw [hu0];rfl,hM.below⟩
 have hh:IsHex x:=by unfold IsHex;cases hp:hexVal x with | none=>rw [hp] at ht;cases ht | some q=>rfl
 obtain ⟨hall1,hN,hN4,hv4⟩:=hex_step rfl hj4 hall hx hh
 intro a hF
 unfold hv at hN hv4
 revert a;refine Sk (Nx (Rg (Mv 1 rfl (Sm (((hexN ([a',b,c,d].take j)*16:Nat):Int)) rfl (by omega) (Mv 1 rfl (Sm (((hexN ([a',b,c,d].take (j+1)):Nat):Int)) rfl (by omega) (Md 1 [0,1,6,7] rfl (Nb (Nx (Rg (Mv 1 rfl (Sm (((i+2+(j+1):Nat):Int)) rfl (by omega) (Md 1 [0,1,6,7] rfl ?_)))))))))))));intro a hF
 exact ⟨j+1,⟨hF,hM,hj4,hall1⟩,by omega⟩
theorem conv_byte {m:Nat}(h:m<256):IntKind.u8.wrap (m:Int)=((m.toUInt8.toNat:Nat):Int):=by rw [byte_nat h];exact IntWalk.u8_in _ ⟨by omega,by omega⟩
theorem quoN (c d:Nat) (h:c≤2^40):IntKind.i64.wrap ((c:Int).tdiv (d:Int))=((c / d:Nat):Int):=by
  have e:(c:Int).tdiv (d:Int)=((c / d:Nat):Int):=rfl
  have:=Nat.div_le_self c d
  rw [e];generalize c / d=x at this;exact IntWalk.i64_in _ ⟨by omega,by omega⟩
theorem remN (c d:Nat):(c:Int).tmod (d:Int)=((c % d:Nat):Int):=rfl
theorem sl_all {b e m k:Nat}{cs:List Value}(hl:cs.length=k*m) (hk:k≤1000):SlOf [(b,e,cs)] e m (.slice (some ⟨b,0,none⟩) k k) k cs:=
  ⟨hl,.inr ⟨b,k,cs,by simp,rfl,Nat.le_refl _,by simp only [maxLen];omega,hl,by rw [←hl];exact List.take_of_length_le (Nat.le_refl _)⟩⟩
theorem appendUTF8_walk {B:Nat}{wc:World}{R L:List Bk}{v:Value}{l:Str}(hRow:Row 5 1 R v l.length (u8s l)) (c:Nat) (hc:c≤1114111) (hl:l.length≤2^39) {w0:World}(hM0:Mem B wc (R++L) w0):
    Calls Tryz.prog 79 #[v,.int .i64 (c:Int)] w0 (Ret fun v' w'=>∃ R',Row 5 1 R' v' (l++enc c).length (u8s (l++enc c))∧Mem B wc (R'++L) w'):=by
 have hM:=hM0
 refine enter (l:=[v,.int .i64 (c:Int)]) 75 Tryz.func79 rfl rfl (Sq (Rg (Md 1 [0,1] rfl (Nx (Sq (Bo (Sq (Rg (Md 3 [0,1,5] rfl (Nx (Cd rfl (fun ht=> ?_) ((fun ht=> ?_)))))))))))))
 ·
  have k128:c<128:=by have:=of_decide_eq_true ht;omega
  refine Sq (Rg (Mv 2 rfl (Gv rfl (fun _ hF=>gives_conv hF rfl Tryz.underlying3 Tryz.underlying5 rfl (((c.toUInt8.toNat:Nat):Int)) (conv_byte (m:=c) (by omega)) _) ?_)));intro a hF
  refine op_build hF hM rfl (m:=1) (parts:=[(0,.tmp 10)]) (vals:=[(0,.int .u8 ((c.toUInt8.toNat:Nat):Int))]) [.int .u8 ((c.toUInt8.toNat:Nat):Int)] rfl rfl rfl rfl (by decide) (by decide) (by kernel_rfl) ?_;clear hF hM a;intro a w b11 hF hM
  replace hM:=hM.perm (L':=R++((b11,5,[.int .u8 ((c.toUInt8.toNat:Nat):Int)])::L)) (pc fun x=>by simp [ct,ct_append] <;> omega)
  refine op_appendR hF elt66 hRow hM (sl_all (b:=b11) (e:=5) (m:=1) (k:=1) (cs:=[.int .u8 ((c.toUInt8.toNat:Nat):Int)]) rfl (by decide)) (by simp) (by simp [Value.oneCell']) (by omega) rfl rfl rfl rfl rfl rfl ?_;clear hF hM a;intro a w R' v' hF hRow' hM
  replace hM:=hM.sub (L':=R'++L) [(b11,5,[.int .u8 ((c.toUInt8.toNat:Nat):Int)])] (pc fun x=>by simp [ct,ct_append] <;> omega)
  revert a;refine Md 1 [4] rfl (Nx (Re (Rb (Rt ?_))));intro a hF
  first
    | (have ee:enc c=[c.toUInt8]:=by unfold enc;rw [if_pos k128]
       exact ret1 hF rfl rfl ⟨_,rfl,R',by rw [ee,List.length_append,u8s_append];exact hRow',hM⟩)
    | (have ee:enc c=[(0xc0+c / 64).toUInt8,(0x80+c % 64).toUInt8]:=by unfold enc;rw [if_neg k128,if_pos k2048]
       exact ret1 hF rfl rfl ⟨_,rfl,R',by rw [ee,List.length_append,u8s_append];exact hRow',hM⟩)
    | (have ee:enc c=[0xef,0xbf,0xbd]:=by unfold enc;rw [if_neg k128,if_neg k2048,if_pos hlo]
       exact ret1 hF rfl rfl ⟨_,rfl,R',by rw [ee,List.length_append,u8s_append];exact hRow',hM⟩)
    | (have ee:enc c=[(0xe0+c / 4096).toUInt8,(0x80+c / 64 % 64).toUInt8,(0x80+c % 64).toUInt8]:=by unfold enc;rw [if_neg k128,if_neg k2048,if_neg hlo,if_pos k65536]
       exact ret1 hF rfl rfl ⟨_,rfl,R',by rw [ee,List.length_append,u8s_append];exact hRow',hM⟩)
    | (have ee:enc c=[(0xf0+c / 262144).toUInt8,(0x80+c / 4096 % 64).toUInt8,(0x80+c / 64 % 64).toUInt8,(0x80+c % 64).toUInt8]:=by unfold enc;rw [if_neg k128,if_neg k2048,if_neg hlo,if_neg k65536]
       exact ret1 hF rfl rfl ⟨_,rfl,R',by rw [ee,List.length_append,u8s_append];exact hRow',hM⟩)
 have k128: ¬ c<128:=by have:=of_decide_eq_false ht;omega
 refine Sq (Rg (Md 3 [0,1,13] rfl (Nx (Cd rfl (fun ht=> ?_) ((fun ht=> ?_))))))
 ·
  have k2048:c<2048:=by have:=of_decide_eq_true ht;omega
  refine Sq (Rg (Mv 2 rfl (Gv rfl (fun _ hF=>gives_quo (((c / 64:Nat):Int)) hF rfl rfl rfl (by decide) (quoN c 64 (by omega)) _) (Sm (((0xc0+c / 64:Nat):Int)) rfl (by omega) (Gv rfl (fun _ hF=>gives_conv hF rfl Tryz.underlying3 Tryz.underlying5 rfl ((((0xc0+c / 64).toUInt8.toNat:Nat):Int)) (conv_byte (m:=(0xc0+c / 64)) (by omega)) _) (Mv 1 rfl (Gv rfl (fun _ hF=>gives_rem (((c % 64:Nat):Int)) hF rfl rfl rfl (by decide) (remN (c) 64) _) (Sm (((0x80+c % 64:Nat):Int)) rfl (by omega) (Gv rfl (fun _ hF=>gives_conv hF rfl Tryz.underlying3 Tryz.underlying5 rfl ((((0x80+c % 64).toUInt8.toNat:Nat):Int)) (conv_byte (m:=(0x80+c % 64)) (by omega)) _) ?_)))))))));intro a hF
  refine op_build hF hM rfl (m:=2) (parts:=[(0,.tmp 20),(1,.tmp 24)]) (vals:=[(0,.int .u8 (((0xc0+c / 64).toUInt8.toNat:Nat):Int)),(1,.int .u8 (((0x80+c % 64).toUInt8.toNat:Nat):Int))]) [.int .u8 (((0xc0+c / 64).toUInt8.toNat:Nat):Int),.int .u8 (((0x80+c % 64).toUInt8.toNat:Nat):Int)] rfl rfl rfl rfl (by decide) (by decide) (by kernel_rfl) ?_;clear hF hM a;intro a w b25 hF hM
  replace hM:=hM.perm (L':=R++((b25,5,[.int .u8 (((0xc0+c / 64).toUInt8.toNat:Nat):Int),.int .u8 (((0x80+c % 64).toUInt8.toNat:Nat):Int)])::L)) (pc fun x=>by simp [ct,ct_append] <;> omega)
  refine op_appendR hF elt66 hRow hM (sl_all (b:=b25) (e:=5) (m:=1) (k:=2) (cs:=[.int .u8 (((0xc0+c / 64).toUInt8.toNat:Nat):Int),.int .u8 (((0x80+c % 64).toUInt8.toNat:Nat):Int)]) rfl (by decide)) (by simp) (by simp [Value.oneCell']) (by omega) rfl rfl rfl rfl rfl rfl ?_;clear hF hM a;intro a w R' v' hF hRow' hM
  replace hM:=hM.sub (L':=R'++L) [(b25,5,[.int .u8 (((0xc0+c / 64).toUInt8.toNat:Nat):Int),.int .u8 (((0x80+c % 64).toUInt8.toNat:Nat):Int)])] (pc fun x=>by simp [ct,ct_append] <;> omega)
  revert a;refine Md 1 [4] rfl (Nx (Re (Rb (Rt ?_))));intro a hF
  first
    | (have ee:enc c=[c.toUInt8]:=by unfold enc;rw [if_pos k128]
       exact ret1 hF rfl rfl ⟨_,rfl,R',by rw [ee,List.length_append,u8s_append];exact hRow',hM⟩)
    | (have ee:enc c=[(0xc0+c / 64).toUInt8,(0x80+c % 64).toUInt8]:=by unfold enc;rw [if_neg k128,if_pos k2048]
       exact ret1 hF rfl rfl ⟨_,rfl,R',by rw [ee,List.length_append,u8s_append];exact hRow',hM⟩)
    | (have ee:enc c=[0xef,0xbf,0xbd]:=by unfold enc;rw [if_neg k128,if_neg k2048,if_pos hlo]
       exact ret1 hF rfl rfl ⟨_,rfl,R',by rw [ee,List.length_append,u8s_append];exact hRow',hM⟩)
    | (have ee:enc c=[(0xe0+c / 4096).toUInt8,(0x80+c / 64 % 64).toUInt8,(0x80+c % 64).toUInt8]:=by unfold enc;rw [if_neg k128,if_neg k2048,if_neg hlo,if_pos k65536]
       exact ret1 hF rfl rfl ⟨_,rfl,R',by rw [ee,List.length_append,u8s_append];exact hRow',hM⟩)
    | (have ee:enc c=[(0xf0+c / 262144).toUInt8,(0x80+c / 4096 % 64).toUInt8,(0x80+c / 64 % 64).toUInt8,(0x80+c % 64).toUInt8]:=by unfold enc;rw [if_neg k128,if_neg k2048,if_neg hlo,if_neg k65536]
       exact ret1 hF rfl rfl ⟨_,rfl,R',by rw [ee,List.length_append,u8s_append];exact hRow',hM⟩)
 have k2048: ¬ c<2048:=by have:=of_decide_eq_false ht;omega
 refine Sq ?_
 rcases hh:high c with _ | _
 ·
  refine Rg (Mv 1 rfl (Cm hM rfl rfl rfl (high_walk c _) ?_))
  clear hM;intro w v hR hM hBe
  obtain rfl:=hR
  intro a hF
  rw [hh] at hF
  revert a;refine Mv 2 rfl (Cm hM rfl rfl rfl (low_walk c _) ?_)
  clear hM;intro w v hR hM hBe
  obtain rfl:=hR
  refine Md 2 [0,1,27] rfl (Nx (Cd rfl (fun ht=> ?_) ((fun ht=> ?_))))
  ·
   have hlo:(high c || low c)=true:=by rw [hh];exact ht
   refine Sq (Rg (Mv 1 rfl ?_));intro a hF
   refine op_build hF hM rfl (m:=3) (parts:=[(0,.const (.int .u8 239)),(1,.const (.int .u8 191)),(2,.const (.int .u8 189))]) (vals:=[(0,.int .u8 239),(1,.int .u8 191),(2,.int .u8 189)]) [.int .u8 239,.int .u8 191,.int .u8 189] rfl rfl rfl rfl (by decide) (by decide) (by kernel_rfl) ?_;clear hF hM a;intro a w b35 hF hM
   replace hM:=hM.perm (L':=R++((b35,5,[.int .u8 239,.int .u8 191,.int .u8 189])::L)) (pc fun x=>by simp [ct,ct_append] <;> omega)
   refine op_appendR hF elt66 hRow hM (sl_all (b:=b35) (e:=5) (m:=1) (k:=3) (cs:=[.int .u8 239,.int .u8 191,.int .u8 189]) rfl (by decide)) (by simp) (by simp [Value.oneCell']) (by omega) rfl rfl rfl rfl rfl rfl ?_;clear hF hM a;intro a w R' v' hF hRow' hM
   replace hM:=hM.sub (L':=R'++L) [(b35,5,[.int .u8 239,.int .u8 191,.int .u8 189])] (pc fun x=>by simp [ct,ct_append] <;> omega)
   revert a;refine Md 1 [4] rfl (Nx (Re (Rb (Rt ?_))));intro a hF
   first
     | (have ee:enc c=[c.toUInt8]:=by unfold enc;rw [if_pos k128]
        exact ret1 hF rfl rfl ⟨_,rfl,R',by rw [ee,List.length_append,u8s_append];exact hRow',hM⟩)
     | (have ee:enc c=[(0xc0+c / 64).toUInt8,(0x80+c % 64).toUInt8]:=by unfold enc;rw [if_neg k128,if_pos k2048]
        exact ret1 hF rfl rfl ⟨_,rfl,R',by rw [ee,List.length_append,u8s_append];exact hRow',hM⟩)
     | (have ee:enc c=[0xef,0xbf,0xbd]:=by unfold enc;rw [if_neg k128,if_neg k2048,if_pos hlo]
        exact ret1 hF rfl rfl ⟨_,rfl,R',by rw [ee,List.length_append,u8s_append];exact hRow',hM⟩)
     | (have ee:enc c=[(0xe0+c / 4096).toUInt8,(0x80+c / 64 % 64).toUInt8,(0x80+c % 64).toUInt8]:=by unfold enc;rw [if_neg k128,if_neg k2048,if_neg hlo,if_pos k65536]
        exact ret1 hF rfl rfl ⟨_,rfl,R',by rw [ee,List.length_append,u8s_append];exact hRow',hM⟩)
     | (have ee:enc c=[(0xf0+c / 262144).toUInt8,(0x80+c / 4096 % 64).toUInt8,(0x80+c / 64 % 64).toUInt8,(0x80+c % 64).toUInt8]:=by unfold enc;rw [if_neg k128,if_neg k2048,if_neg hlo,if_neg k65536]
        exact ret1 hF rfl rfl ⟨_,rfl,R',by rw [ee,List.length_append,u8s_append];exact hRow',hM⟩)
  have hlo: ¬ (high c || low c)=true:=by rw [hh];simp only [Bool.false_or];rw [show low c=false from ht];decide
  refine Sq (Rg (Md 3 [0,1,37] rfl (Nx (Cd rfl (fun ht=> ?_) ((fun ht=> ?_))))))
  ·
   have k65536:c<65536:=by have:=of_decide_eq_true ht;omega
   refine Sq (Rg (Mv 2 rfl (Gv rfl (fun _ hF=>gives_quo (((c / 4096:Nat):Int)) hF rfl rfl rfl (by decide) (quoN c 4096 (by omega)) _) (Sm (((0xe0+c / 4096:Nat):Int)) rfl (by omega) (Gv rfl (fun _ hF=>gives_conv hF rfl Tryz.underlying3 Tryz.underlying5 rfl ((((0xe0+c / 4096).toUInt8.toNat:Nat):Int)) (conv_byte (m:=(0xe0+c / 4096)) (by omega)) _) (Mv 1 rfl (Gv rfl (fun _ hF=>gives_quo (((c / 64:Nat):Int)) hF rfl rfl rfl (by decide) (quoN c 64 (by omega)) _) (Gv rfl (fun _ hF=>gives_rem (((c / 64 % 64:Nat):Int)) hF rfl rfl rfl (by decide) (remN (c / 64) 64) _) (Sm (((0x80+c / 64 % 64:Nat):Int)) rfl (by omega) (Gv rfl (fun _ hF=>gives_conv hF rfl Tryz.underlying3 Tryz.underlying5 rfl ((((0x80+c / 64 % 64).toUInt8.toNat:Nat):Int)) (conv_byte (m:=(0x80+c / 64 % 64)) (by omega)) _) (Mv 1 rfl (Gv rfl (fun _ hF=>gives_rem (((c % 64:Nat):Int)) hF rfl rfl rfl (by decide) (remN (c) 64) _) (Sm (((0x80+c % 64:Nat):Int)) rfl (by omega) (Gv rfl (fun _ hF=>gives_conv hF rfl Tryz.underlying3 Tryz.underlying5 rfl ((((0x80+c % 64).toUInt8.toNat:Nat):Int)) (conv_byte (m:=(0x80+c % 64)) (by omega)) _) ?_))))))))))))));intro a hF
   refine op_build hF hM rfl (m:=3) (parts:=[(0,.tmp 44),(1,.tmp 49),(2,.tmp 53)]) (vals:=[(0,.int .u8 (((0xe0+c / 4096).toUInt8.toNat:Nat):Int)),(1,.int .u8 (((0x80+c / 64 % 64).toUInt8.toNat:Nat):Int)),(2,.int .u8 (((0x80+c % 64).toUInt8.toNat:Nat):Int))]) [.int .u8 (((0xe0+c / 4096).toUInt8.toNat:Nat):Int),.int .u8 (((0x80+c / 64 % 64).toUInt8.toNat:Nat):Int),.int .u8 (((0x80+c % 64).toUInt8.toNat:Nat):Int)] rfl rfl rfl rfl (by decide) (by decide) (by kernel_rfl) ?_;clear hF hM a;intro a w b54 hF hM
   replace hM:=hM.perm (L':=R++((b54,5,[.int .u8 (((0xe0+c / 4096).toUInt8.toNat:Nat):Int),.int .u8 (((0x80+c / 64 % 64).toUInt8.toNat:Nat):Int),.int .u8 (((0x80+c % 64).toUInt8.toNat:Nat):Int)])::L)) (pc fun x=>by simp [ct,ct_append] <;> omega)
   refine op_appendR hF elt66 hRow hM (sl_all (b:=b54) (e:=5) (m:=1) (k:=3) (cs:=[.int .u8 (((0xe0+c / 4096).toUInt8.toNat:Nat):Int),.int .u8 (((0x80+c / 64 % 64).toUInt8.toNat:Nat):Int),.int .u8 (((0x80+c % 64).toUInt8.toNat:Nat):Int)]) rfl (by decide)) (by simp) (by simp [Value.oneCell']) (by omega) rfl rfl rfl rfl rfl rfl ?_;clear hF hM a;intro a w R' v' hF hRow' hM
   replace hM:=hM.sub (L':=R'++L) [(b54,5,[.int .u8 (((0xe0+c / 4096).toUInt8.toNat:Nat):Int),.int .u8 (((0x80+c / 64 % 64).toUInt8.toNat:Nat):Int),.int .u8 (((0x80+c % 64).toUInt8.toNat:Nat):Int)])] (pc fun x=>by simp [ct,ct_append] <;> omega)
   revert a;refine Md 1 [4] rfl (Nx (Re (Rb (Rt ?_))));intro a hF
   first
     | (have ee:enc c=[c.toUInt8]:=by unfold enc;rw [if_pos k128]
        exact ret1 hF rfl rfl ⟨_,rfl,R',by rw [ee,List.length_append,u8s_append];exact hRow',hM⟩)
     | (have ee:enc c=[(0xc0+c / 64).toUInt8,(0x80+c % 64).toUInt8]:=by unfold enc;rw [if_neg k128,if_pos k2048]
        exact ret1 hF rfl rfl ⟨_,rfl,R',by rw [ee,List.length_append,u8s_append];exact hRow',hM⟩)
     | (have ee:enc c=[0xef,0xbf,0xbd]:=by unfold enc;rw [if_neg k128,if_neg k2048,if_pos hlo]
        exact ret1 hF rfl rfl ⟨_,rfl,R',by rw [ee,List.length_append,u8s_append];exact hRow',hM⟩)
     | (have ee:enc c=[(0xe0+c / 4096).toUInt8,(0x80+c / 64 % 64).toUInt8,(0x80+c % 64).toUInt8]:=by unfold enc;rw [if_neg k128,if_neg k2048,if_neg hlo,if_pos k65536]
        exact ret1 hF rfl rfl ⟨_,rfl,R',by rw [ee,List.length_append,u8s_append];exact hRow',hM⟩)
     | (have ee:enc c=[(0xf0+c / 262144).toUInt8,(0x80+c / 4096 % 64).toUInt8,(0x80+c / 64 % 64).toUInt8,(0x80+c % 64).toUInt8]:=by unfold enc;rw [if_neg k128,if_neg k2048,if_neg hlo,if_neg k65536]
        exact ret1 hF rfl rfl ⟨_,rfl,R',by rw [ee,List.length_append,u8s_append];exact hRow',hM⟩)
  have k65536: ¬ c<65536:=by have:=of_decide_eq_false ht;omega
  refine Sk (Nb (Nx (Sq (Rg (Mv 2 rfl (Gv rfl (fun _ hF=>gives_quo (((c / 262144:Nat):Int)) hF rfl rfl rfl (by decide) (quoN c 262144 (by omega)) _) (Sm (((0xf0+c / 262144:Nat):Int)) rfl (by omega) (Gv rfl (fun _ hF=>gives_conv hF rfl Tryz.underlying3 Tryz.underlying5 rfl ((((0xf0+c / 262144).toUInt8.toNat:Nat):Int)) (conv_byte (m:=(0xf0+c / 262144)) (by omega)) _) (Mv 1 rfl (Gv rfl (fun _ hF=>gives_quo (((c / 4096:Nat):Int)) hF rfl rfl rfl (by decide) (quoN c 4096 (by omega)) _) (Gv rfl (fun _ hF=>gives_rem (((c / 4096 % 64:Nat):Int)) hF rfl rfl rfl (by decide) (remN (c / 4096) 64) _) (Sm (((0x80+c / 4096 % 64:Nat):Int)) rfl (by omega) (Gv rfl (fun _ hF=>gives_conv hF rfl Tryz.underlying3 Tryz.underlying5 rfl ((((0x80+c / 4096 % 64).toUInt8.toNat:Nat):Int)) (conv_byte (m:=(0x80+c / 4096 % 64)) (by omega)) _) (Mv 1 rfl (Gv rfl (fun _ hF=>gives_quo (((c / 64:Nat):Int)) hF rfl rfl rfl (by decide) (quoN c 64 (by omega)) _) (Gv rfl (fun _ hF=>gives_rem (((c / 64 % 64:Nat):Int)) hF rfl rfl rfl (by decide) (remN (c / 64) 64) _) (Sm (((0x80+c / 64 % 64:Nat):Int)) rfl (by omega) (Gv rfl (fun _ hF=>gives_conv hF rfl Tryz.underlying3 Tryz.underlying5 rfl ((((0x80+c / 64 % 64).toUInt8.toNat:Nat):Int)) (conv_byte (m:=(0x80+c / 64 % 64)) (by omega)) _) (Mv 1 rfl (Gv rfl (fun _ hF=>gives_rem (((c % 64:Nat):Int)) hF rfl rfl rfl (by decide) (remN (c) 64) _) (Sm (((0x80+c % 64:Nat):Int)) rfl (by omega) (Gv rfl (fun _ hF=>gives_conv hF rfl Tryz.underlying3 Tryz.underlying5 rfl ((((0x80+c % 64).toUInt8.toNat:Nat):Int)) (conv_byte (m:=(0x80+c % 64)) (by omega)) _) ?_))))))))))))))))))))));intro a hF
  refine op_build hF hM rfl (m:=4) (parts:=[(0,.tmp 60),(1,.tmp 65),(2,.tmp 70),(3,.tmp 74)]) (vals:=[(0,.int .u8 (((0xf0+c / 262144).toUInt8.toNat:Nat):Int)),(1,.int .u8 (((0x80+c / 4096 % 64).toUInt8.toNat:Nat):Int)),(2,.int .u8 (((0x80+c / 64 % 64).toUInt8.toNat:Nat):Int)),(3,.int .u8 (((0x80+c % 64).toUInt8.toNat:Nat):Int))]) [.int .u8 (((0xf0+c / 262144).toUInt8.toNat:Nat):Int),.int .u8 (((0x80+c / 4096 % 64).toUInt8.toNat:Nat):Int),.int .u8 (((0x80+c / 64 % 64).toUInt8.toNat:Nat):Int),.int .u8 (((0x80+c % 64).toUInt8.toNat:Nat):Int)] rfl rfl rfl rfl (by decide) (by decide) (by kernel_rfl) ?_;clear hF hM a;intro a w b75 hF hM
  replace hM:=hM.perm (L':=R++((b75,5,[.int .u8 (((0xf0+c / 262144).toUInt8.toNat:Nat):Int),.int .u8 (((0x80+c / 4096 % 64).toUInt8.toNat:Nat):Int),.int .u8 (((0x80+c / 64 % 64).toUInt8.toNat:Nat):Int),.int .u8 (((0x80+c % 64).toUInt8.toNat:Nat):Int)])::L)) (pc fun x=>by simp [ct,ct_append] <;> omega)
  refine op_appendR hF elt66 hRow hM (sl_all (b:=b75) (e:=5) (m:=1) (k:=4) (cs:=[.int .u8 (((0xf0+c / 262144).toUInt8.toNat:Nat):Int),.int .u8 (((0x80+c / 4096 % 64).toUInt8.toNat:Nat):Int),.int .u8 (((0x80+c / 64 % 64).toUInt8.toNat:Nat):Int),.int .u8 (((0x80+c % 64).toUInt8.toNat:Nat):Int)]) rfl (by decide)) (by simp) (by simp [Value.oneCell']) (by omega) rfl rfl rfl rfl rfl rfl ?_;clear hF hM a;intro a w R' v' hF hRow' hM
  replace hM:=hM.sub (L':=R'++L) [(b75,5,[.int .u8 (((0xf0+c / 262144).toUInt8.toNat:Nat):Int),.int .u8 (((0x80+c / 4096 % 64).toUInt8.toNat:Nat):Int),.int .u8 (((0x80+c / 64 % 64).toUInt8.toNat:Nat):Int),.int .u8 (((0x80+c % 64).toUInt8.toNat:Nat):Int)])] (pc fun x=>by simp [ct,ct_append] <;> omega)
  revert a;refine Md 1 [4] rfl (Nx (Re ?_));intro a hF
  first
    | (have ee:enc c=[c.toUInt8]:=by unfold enc;rw [if_pos k128]
       exact ret1 hF rfl rfl ⟨_,rfl,R',by rw [ee,List.length_append,u8s_append];exact hRow',hM⟩)
    | (have ee:enc c=[(0xc0+c / 64).toUInt8,(0x80+c % 64).toUInt8]:=by unfold enc;rw [if_neg k128,if_pos k2048]
       exact ret1 hF rfl rfl ⟨_,rfl,R',by rw [ee,List.length_append,u8s_append];exact hRow',hM⟩)
    | (have ee:enc c=[0xef,0xbf,0xbd]:=by unfold enc;rw [if_neg k128,if_neg k2048,if_pos hlo]
       exact ret1 hF rfl rfl ⟨_,rfl,R',by rw [ee,List.length_append,u8s_append];exact hRow',hM⟩)
    | (have ee:enc c=[(0xe0+c / 4096).toUInt8,(0x80+c / 64 % 64).toUInt8,(0x80+c % 64).toUInt8]:=by unfold enc;rw [if_neg k128,if_neg k2048,if_neg hlo,if_pos k65536]
       exact ret1 hF rfl rfl ⟨_,rfl,R',by rw [ee,List.length_append,u8s_append];exact hRow',hM⟩)
    | (have ee:enc c=[(0xf0+c / 262144).toUInt8,(0x80+c / 4096 % 64).toUInt8,(0x80+c / 64 % 64).toUInt8,(0x80+c % 64).toUInt8]:=by unfold enc;rw [if_neg k128,if_neg k2048,if_neg hlo,if_neg k65536]
       exact ret1 hF rfl rfl ⟨_,rfl,R',by rw [ee,List.length_append,u8s_append];exact hRow',hM⟩)
 refine Rg (Mv 1 rfl (Cm hM rfl rfl rfl (high_walk c _) ?_))
 clear hM;intro w v hR hM hBe
 obtain rfl:=hR
 intro a hF
 rw [hh] at hF
 revert a;refine Md 5 [0,1,27] rfl (Nx (Ce rfl (fun ht=> ?_) ((fun ht=> ?_))))
 · cases ht
 have hlo:(high c || low c)=true:=by rw [hh];rfl
 refine Sq (Rg (Mv 1 rfl ?_));intro a hF
 refine op_build hF hM rfl (m:=3) (parts:=[(0,.const (.int .u8 239)),(1,.const (.int .u8 191)),(2,.const (.int .u8 189))]) (vals:=[(0,.int .u8 239),(1,.int .u8 191),(2,.int .u8 189)]) [.int .u8 239,.int .u8 191,.int .u8 189] rfl rfl rfl rfl (by decide) (by decide) (by kernel_rfl) ?_;clear hF hM a;intro a w b35 hF hM
 replace hM:=hM.perm (L':=R++((b35,5,[.int .u8 239,.int .u8 191,.int .u8 189])::L)) (pc fun x=>by simp [ct,ct_append] <;> omega)
 refine op_appendR hF elt66 hRow hM (sl_all (b:=b35) (e:=5) (m:=1) (k:=3) (cs:=[.int .u8 239,.int .u8 191,.int .u8 189]) rfl (by decide)) (by simp) (by simp [Value.oneCell']) (by omega) rfl rfl rfl rfl rfl rfl ?_;clear hF hM a;intro a w R' v' hF hRow' hM
 replace hM:=hM.sub (L':=R'++L) [(b35,5,[.int .u8 239,.int .u8 191,.int .u8 189])] (pc fun x=>by simp [ct,ct_append] <;> omega)
 revert a;refine Md 1 [4] rfl (Nx (Re (Rb (Rt ?_))));intro a hF
 first
   | (have ee:enc c=[c.toUInt8]:=by unfold enc;rw [if_pos k128]
      exact ret1 hF rfl rfl ⟨_,rfl,R',by rw [ee,List.length_append,u8s_append];exact hRow',hM⟩)
   | (have ee:enc c=[(0xc0+c / 64).toUInt8,(0x80+c % 64).toUInt8]:=by unfold enc;rw [if_neg k128,if_pos k2048]
      exact ret1 hF rfl rfl ⟨_,rfl,R',by rw [ee,List.length_append,u8s_append];exact hRow',hM⟩)
   | (have ee:enc c=[0xef,0xbf,0xbd]:=by unfold enc;rw [if_neg k128,if_neg k2048,if_pos hlo]
      exact ret1 hF rfl rfl ⟨_,rfl,R',by rw [ee,List.length_append,u8s_append];exact hRow',hM⟩)
   | (have ee:enc c=[(0xe0+c / 4096).toUInt8,(0x80+c / 64 % 64).toUInt8,(0x80+c % 64).toUInt8]:=by unfold enc;rw [if_neg k128,if_neg k2048,if_neg hlo,if_pos k65536]
      exact ret1 hF rfl rfl ⟨_,rfl,R',by rw [ee,List.length_append,u8s_append];exact hRow',hM⟩)
   | (have ee:enc c=[(0xf0+c / 262144).toUInt8,(0x80+c / 4096 % 64).toUInt8,(0x80+c / 64 % 64).toUInt8,(0x80+c % 64).toUInt8]:=by unfold enc;rw [if_neg k128,if_neg k2048,if_neg hlo,if_neg k65536]
      exact ret1 hF rfl rfl ⟨_,rfl,R',by rw [ee,List.length_append,u8s_append];exact hRow',hM⟩)

end Go.Sx