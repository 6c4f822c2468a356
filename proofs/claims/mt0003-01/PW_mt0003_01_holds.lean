import PyProof.Rows.All
import Wide.All
import OpenK.AllK
import Wide.FinOn
import KE.KxFormat
import KE.KSetIn
import PyProof.ConsumeWalk
import KE.KDictOf
import PyProof.ZipIter
import PyProof.StrCalls2
import PyProof.StrLawsTight
import PyProof.FitsReplace
import PyProof.Rows.RuleB_pow
import PyProof.Rows.ListMulCarried
import PyProof.Rows.Nodes
import PyProof.Rows.Chain
import PyProof.IsiPairs
import PyProof.StrLawsChain
import PyProof.Rows.StrIntSpec
import PyProof.Rows.RuleC_bool
import Lean
import PySem.Challenge.RW_mt0003_01
open PySem PySem.W PyProof.Rows
set_option Elab.async false
set_option linter.all false
set_option maxRecDepth 100000
set_option maxHeartbeats 4000000
set_option genSizeOf false
set_option genInjectivity false
set_option hygiene false
set_option tactic.hygienic false
set_option compiler.extract_closed false
namespace Mine
def tS(k:Lean.Name)(as:Array Lean.Syntax):Lean.Syntax:=.node .none k as
def tQ(as:Array Lean.Syntax):Lean.Syntax:=tS ``Lean.Parser.Tactic.tacticSeq #[tS ``Lean.Parser.Tactic.tacticSeq1Indented #[tS `null as]]
def tI(as:Array Lean.Syntax):Lean.Syntax:=tS ``Lean.Parser.Tactic.intro #[Lean.mkAtom "intro",tS `null as]
def tH:Lean.Syntax:=tS ``Lean.Parser.Term.hole #[Lean.mkAtom "_"]
def tR:Lean.Syntax:=tS ``Lean.Parser.Tactic.tacticRfl #[Lean.mkAtom "rfl"]
def aR:Lean.Syntax:=tQ #[tR]
def aI:Lean.Syntax:=tQ #[tI #[tH],Lean.mkAtom ";",tR]
def aW:Lean.Syntax:=tQ #[tS ``Lean.Parser.Tactic.withUnfoldingAll #[Lean.mkAtom "with_unfolding_all",aR]]
def aK:Lean.Syntax:=tQ #[tS `PyProof.Rows.«tacticKernel_rfl!» #[Lean.mkAtom "kernel_rfl!"]]
def aD:Lean.Syntax:=tQ #[tS ``Lean.Parser.Tactic.decide #[Lean.mkAtom "decide",tS ``Lean.Parser.Tactic.optConfig #[tS `null #[]]]]
def aX:Lean.Syntax:=tQ #[tS ``Lean.Parser.Tactic.exact #[Lean.mkAtom "exact",Lean.mkIdent `id]]
def aY:Lean.Syntax:=tQ #[tI #[tH],Lean.mkAtom ";",tS `PyProof.Rows.«tacticKernel_rfl!» #[Lean.mkAtom "kernel_rfl!"]]
set_option compiler.extract_closed false
namespace Mc
open Lean
abbrev Sy:=Syntax
abbrev Ls:=List Syntax
def mp{α β}(f:α->β):List α->List β|[]=>[]|a::l=>f a::mp f l
def fl{α β}(f:α->List β):List α->List β|[]=>[]|a::l=>f a++fl f l
def sA(s:String):Sy:=.atom .none s
def sI(s:String):Sy:=mkIdent s.toName
def sN(k:String)(l:Ls):Sy:=.node .none k.toName l.toArray
def sU(l:Ls):Sy:=sN "null" l
def sT(k:String)(l:Ls):Sy:=sN ("Lean.Parser.Tactic."++k) l
def sE(k:String)(l:Ls):Sy:=sN ("Lean.Parser.Term."++k) l
def sS(s:String):Ls->Sy|[]=>sU []|a::l=>sU (a::fl (λx=>[sA s,x]) l)
def sB(l:Ls):Sy:=sT "tacticSeq" [sT "tacticSeq1Indented" [sS ";" l]]
def sP(l:Ls):Sy:=sT "paren" [sA "(",sB l,sA ")"]
def sF(l:Ls):Sy:=sT "first" [sA "first",sU (mp (λt=>sN "group" [sA "|",sB [t]]) l)]
def sX(f:Sy)(l:Ls):Sy:=sE "app" [f,sU l]
def sR(t:Sy):Sy:=sT "refine" [sA "refine",t]
def sW(t:Sy):Sy:=sT "withReducible" [sA "with_reducible",sB [t]]
def sH:Sy:=sE "syntheticHole" [sA "?",sA "_"]
def sD(t:Sy):Sy:=sX t [sE "ellipsis" [sA ".."]]
def sM(t:Sy):Sy:=sX (sI "Eq.symm") [t]
def sQ:Sy:=sT "tacticTry_" [sA "try",sB [sW (sT "tacticRfl" [sA "rfl"])]]
def sLam(bs:Ls)(b:Sy):Sy:=sE "fun" [sA "fun",sE "basicFun" [sU bs,sU [],sA "=>",b]]
def sPar(h:Sy):Sy:=sE "paren" [sE "hygienicLParen" [sA "(",sN "hygieneInfo" [sI ""]],h,sA ")"]
def sCl:Sy:=sT "tacticRepeat_" [sA "repeat",sB [sT "clear" [sA "clear",sU [sI "O"]]]]
def sSub(h:Sy):Sy:=sP [sCl,sT "subst" [sA "subst",sU [sPar h]]]
def sO(m h:Sy):Sy:=sT "obtain" [sA "obtain",sU [m],sU [],sU [sA ":=",sU [h]]]
def sEx(h:Sy):Sy:=sT "exact" [sA "exact",h]
def sRc(h:Sy)(w:Ls):Sy:=sP [sCl,sT "rcases" [sA "rcases",sU [sT "elimTarget" [sU [],sPar h]],sU w]]
def sOut(o:Option Sy):MacroM Sy:=match o with|some s=>pure s|none=>Macro.throwUnsupported
def sAll(s:Sy):Ls:=s.getArgs.toList
def sSep(s:Sy):Ls:=s.getSepArgs.toList
def loc:Sy:=sT "location" [sA "at",sT "locationHyp" [sU [sT "locationType" [sN "patternIgnore" [.node .none (.mkSimple "token.⊢") #[sA "⊢"]]]]]]
def sLP:Sy:=sE "hygienicLParen" [sA "(",sN "hygieneInfo" [sI ""]]
def qRep(h e:Sy):Sy:=sW (sT "replace" [sA "replace",sE "letDecl" [sE "letIdDecl" [sE "letId" [h],sU [],sU [],sA ":=",e]]])
def rw1(t:Sy)(l:Bool):Ls:=let d:=sD t
 let f(r:String):=sX (sI r) [d,sH]
 if l then[sW (sR (f "trS")),sW (sR (sX (sI "Eq.trans") [sH,d])),sR (sX (sI "rwP") [sM d,sH])]else[sW (sR (f "Eq.trans")),sW (sR (f "trR")),sR (f "rwP")]
def rwF(s:Sy):Option Sy:=let rs:=sSep s[2][1]
 match rs with
 |[]=>none|r::rest=>let l:=r[0].getNumArgs !=0
  let t:=r[1]
  let d:=sD t
  let more:=s.setArg 2 (s[2].setArg 1 (sS "," rest))
  let rwt:=(s.setArg 0 (sA "rewrite")).setKind `Lean.Parser.Tactic.rewriteSeq|>.setArg 2 (s[2].setArg 1 (sU [r]))
  if s[1][0].getNumArgs !=0 then none else if s[3].getNumArgs==0 then if rest.isEmpty then some (sF (sW (sEx (if l then sM d else d))::mp (λx=>sP [x,sQ]) (rw1 t l)++[s.setArg 3 (sU [loc])]))else some (sP [sF (rw1 t l++[rwt]),more])else let hs:=sAll s[3][0][1][0]
   match hs with
   |[h]=>if h.isIdent then let e1:=sX (sI (if l then"Eq.trans"else"trS")) [d,h]
     let e2:=sX (sI "Eq.trans") [h,if l then sM d else d]
     let f:=sF [qRep h e1,qRep h e2,rwt]
     some (if rest.isEmpty then f else sP [f,more])else none|_=>none
def pOne(v:Sy):Sy:=sT "rcasesPat.one" [v]
def pIg:Sy:=sT "rcasesPat.ignore" [sA "_"]
def pMed(l:Ls):Sy:=sT "rcasesPatMed" [sS "|" l]
def pLo(m:Sy):Sy:=sT "rcasesPatLo" [m,sU []]
def pTup(l:Ls):Sy:=sT "rcasesPat.tuple" [sA "⟨",sS "," l,sA "⟩"]
def isT(s:Sy)(k:String):Bool:=s.getKind==("Lean.Parser.Tactic."++k).toName
def isE(s:Sy)(k:String):Bool:=s.getKind==("Lean.Parser.Term."++k).toName
def un(hn:Lean.Name)(x:String):Sy:=sI (if x.toName==hn then x++"Y"else x)
def obP(hn:Lean.Name)(p:Sy)(i:Nat):Sy×Ls:=let q:=p[0][0][0]
 let y:=un hn ("Y"++toString i)
 let z:=match p.find? λs=>s.isIdent&&s.getId !=`rfl with|some v=>un hn (v.getId.toString++"Y")|none=>y
 if p[0][0].getNumArgs !=1 then(z,[sO p[0] z])else if isT q "rcasesPat.one"then let x:=q[0]
  if x.getId==`rfl then(y,[sSub y])else if x.getId==hn then(y,[sT "revert" [sA "revert",sU [y]],sT "intro" [sA "intro",sU [x]]])else(x,[])else if isT q "rcasesPat.ignore"then(sI "O",[])else(z,[sO p[0] z])
def obM(h:Sy)(as:Ls)(n:Nat)(a:String)(i:Nat):Sy:=let k:=if a=="ex"then i+1 else i+2
 let us:=mp (λx=>obP h.getId x.1 x.2) (if i+2==n then as else as.take (i+1)).zipIdx
 let w:=un h.getId "Yw"
 let c:=i+2 !=n
 sP (sR (sX (sI (a++toString k)) [h,sLam (mp (·.1) us++if c then[w]else[]) sH])::(if h.isIdent then[sT "tacticTry_" [sA "try",sB [sT "clear" [sA "clear",sU [h]]]]]else[])++fl (·.2) us++if c then[sO (pMed [pTup (as.drop (i+1))]) w]else[])
def obF(s:Sy):Option Sy:=match sAll s[1][0][0],sAll s[3][1]with
 |[tp],[h]=>let as:=sSep tp[1]
  let n:=as.length
  if !isT tp "rcasesPat.tuple"||s[2].getNumArgs !=0||n<2 then none else some (sF (mp (obM h as n "ex") (List.range (min (n-1) 8)).reverse++mp (obM h as n "and") (List.range (min n 9-1)).reverse++[sRc h [sA "with",pLo (pMed [tp])]]))|_,_=>none
def caF(s:Sy):Option Sy:=let h:=s[1][0][1]
 let cs(t:Sy)(w:Sy):=sT "cases" [sA "cases",sU [sT "elimTarget" [sU [],t]],sU [],w]
 let par:=cs (sPar h) s[3]
 if isE h "paren"||s[1].getNumArgs !=1||s[1][0][0].getNumArgs !=0||s[2].getNumArgs !=0 then none else if s[3].getNumArgs==0 then let inj(l:Ls)(w:Sy):=sP (sT "injection" [sA "injection",h,w]::l)
  let f(l:List String):=inj (mp (λx=>cs (sI x) (sU [])) l) (sU [sA "with",sU (mp sI l)])
  some (sF ([inj [sT "done" [sA "done"]] (sU []),f ["YA","YB","YC","YD"],f ["YA","YB","YC"],f ["YA","YB"],f ["YA"]]++(if h.isIdent then[sSub h]else[])++[sRc h [],par]))else let g(u:Ls):Sy:=sP [sCl,sT "induction" [sA "induction",s[1],sU u,sU [],s[3]]]
  some (sF (mp (λn=>g [sA "using",sI (n++".casesOn")]) ["List","Nat","Option"]++[g [],par]))
def geF(s:Sy):Option Sy:=match sSep s[1]with
 |[a]=>let hs:=sAll a[0]
  if s[2].getNumArgs !=0 then none else some (sF [sR (sX (sI "genM") [a[1],sLam [a[3],hs.headD (sI "O")] sH]),s.setArg 2 (sU [loc])])|_=>none
def shF(s:Sy):Option Sy:=some (sR (sE "typeAscription" [sLP,sH,sA ":",sU [s[1]],sA ")"]))
def suF(s:Sy):Option Sy:=let hs:=sAll s[1]
 if hs.any (!·.isIdent)then none else some (sP (mp sSub hs))
def rcF(s:Sy):Option Sy:=match sSep s[1]with|[t]=>if isE t[1] "paren"||t[0].getNumArgs !=0 then none else some (sP [sCl,s.setArg 1 (sU [t.setArg 1 (sPar t[1])])])|_=>none
def ltL:Ls->Sy->Sy|[],b=>b|v::l,b=>sE "let" [sA "let",sE "letConfig" [sU []],sE "letDecl" [sE "letIdDecl" [sE "letId" [v],sU [],sU [],sA ":=",sE "hole" [sA "_"]]],sA ";",ltL l b]
def ix(c:Char):Nat:=let n:=c.toNat;if n==95 then 62 else if 97<=n then n-97 else if 65<=n then n-39 else if 48<=n then n+4 else 63
def tb:Array String:=("A'F.plainAttrs_str A2Builtin.List.listUpdate A_if_false BObq.fQ B_wpAny_unpackItems_tuple BtMv.of C'Nat.le_of_not_lt C1S.aG C2codeAmong CLFuncData C_Heap CacompareOp CtcellsFrom D'not_not_intro D_bh.cps.toList DpList.Pairwise.imp_of_mem E'clipAt E_attr F'swappedStores F_Builtin.List.listTooLong FleJ.one G'Classical.byContradiction G0Bool.not_eq_true' G1G.heap.IsListIter G2List.ext_getElem? G3z.toNat G4m.depth G5X.B.CodeRec G6kinds G7S.f.loc G_del GbsubscriptTail GfS.toks GpOut GsS.f.gl Gub.place H'rows H2Nat.lt_of_le_of_ne H3posOf H4List.drop_drop HSFast.tw4202317264376624991 H_NN.ps Hha.two I1checkBoundCall I2Heap.dictOf_iff.mp I3GF.yield I4Ext.refl I5isSubtype_stop I6List.filterMap_nil I7Heap.size_push I8assignEach IAemit ICa.drop IDis.map IHgetD_get ILEF.doc IPInt.fdiv_eq_ediv_of_nonneg IVLooks.ld IXBuiltin.List.listFitsIndex IYe.size I_assign J-List J_c.size K1g.length K2S.g.base K3pos.line K4EV.none_ K5S.f.keep KPr.length K_S.low Kbb.toList KcrecursionLimit L'Value.ref L0boot_heap L1seqItems? L2scanBound L3isSubtype LVFalse L_hm.typeIs M_EV.extend N'Sub N0swapsWith NOgetMethod N_NK.lookup O'List.drop_length OAo.data OBObj OCNat.min_eq_left ODList.eq_nil_of_length_eq_zero OEList.mem_of_mem_take OFList.getElem?_of_mem OGwpAny_field OHbuiltinKind OISetTable OJentryFor OKCalls.evalArgs_plain OLOption.elim OMMethodCall_ ONhk' OOagain OPcallWith OQArray.getElem?_eq_some_iff.mp ORInt.le_refl OSG.heap.DictOf OTbq.attr OUbehindInMarks OVm.units OWS.g.low OXe.trans OYParams OZfs.length O_List.isEmpty_map OaDecidable ObNN.rows OcList.toArray Odslot Oebq.name OfInt.add_zero OgNat.rec Ohlit OiArray.toList_inj.mp OjX.w.params.setOrder OlF.plain_extend_loop OoF.entry_extend_loop OqNat.add_sub_cancel' OtList.all_eq_true.mp OuKasT.kasWp_bind OvList.dropLast_concat_getLast OwcodeAny_of_tree Oxa.elim Oyback OzS.g.cO P'SeqAt.EqAt P1Nb.length POal.lookup P_List.countP_cons Prc.getD Q'Std Q0S.f.fn Q1S.keep QOEF.ret Q_Nat.min_eq_right R'Array.toList_push R0Txt.join R1Nat.ne_of_gt R2List.length_pos_of_mem R3Eq.trans R4Heap.SameBut.refl R5Manifest.varargsMethods.contains R6hp.length_eq R7List.map_nil R8GF.ae R9letTemporaryGo RHnewOf ROs.cps.toList RXy.cps.toList RYh.ps RZdone.map R_F.plainAttrs_list RrbV.mpr S'x.cps.toList S0compEnvC S1bindArgs S2Env S3List.forall_mem_cons.mpr S4argsOk S5d.take S6List.countP_eq_length.mpr S7begun S8PySem.Builtin.Str.strKind S9List.findIdx?_eq_none_iff SAst.new SDst.old SEdecide_eq_true_iff SFBuiltin.«frozenset.__contains__» SGcall_meets SHmore SIInt.natCast_nonneg SJList.mem_filter.mp SKNat.not_lt_zero SMthis.symm.trans SNgZ.none SOForInStep.yield SPInt.ofNat_le.mp SQpiecesOf SRStr.join SSNameKind.cell SUSmall SVEB.pb SWLooks.of_pure SXBuiltin.«object.__getattribute__» SYBuiltin.List.listSameRef S_Nat.zero_lt_succ SaList.range_succ_eq_map Sbm.deeper Sdc.lookup SePV.same SfOm.dc SgInt.zero_add ShX.w Simap_const SjTxt.split SkList.mem_iff_getElem.mp Slm.in1.in1 SmList.length SnGF.c5 SoGF.aj SqBuiltin.Range.rangeSize Srnames.Nodup SsNat.casesOn Suex1 Svfilled SxEF.one Szgroups T'cls T1Array.getElem?_eq_none T2st.a8.length T3KPc.ite_no T4List.getElem?_drop T5Bool.false_eq_true T6a.size T7String T8holding T9p.objs.size TAPyProof.Rows.callWith_type1 TCBuiltin.List.listExtendWith THwpAny_pyIter_list TJArray.getElem?_toList TKResult TLEV.tup TMexec TNbs.length TOBool.or_false TPplainId_quiet TQoff TRassignInOrder TSys.length TUList.countP_map TVList.mem_append TXList.range_succ TYe.drop TZList.getElem?_take T_model Tab.drop Tbl.Pairwise Tdt.take TeF.slot_tuple_iterator_next TfSetTable.grown TgstrKind_is Thm.over Tia.map TjHeap.ExtBut TnEB.val Tos.heap.push Tpr.mono TqSub.refl TrS.base Tss.heap TtWorld TucI.le Tvidxs TwInst Txst.aL Tzrs.take U-Nat U'seqIndex? U0cond U1List.getElem?_eq_none U2gZ.some U3List.filterMap_append U4codeAny U5Option.map U6Value.none U7Option.toList_some U8Nat.lt_of_le_of_lt U9b.mb UANat.lt_irrefl UBb.getD UCG.heap.update UDList.any_cons UEbackTo UGS.objs UHmerge UIList.mem_of_mem_drop UJNat.lt_or_ge UKStr.length_append ULF.rm.handled UMTG.name UNwpAny_truthy_bool UOf.scope.names.lookup UPInt.sub_nonneg_of_le UQList.foldl_cons URwpAny_ite USwpAny_updateSeq UTList.length_nil UUList.getElem?_append_left UWPV.now UXd.map UYvalue UZr.raw U_GenState UaArray Ubfin Ucand2 UdtreeTable UeList.filter_eq_self.mpr UgPySem.Builtin.Str.partsBetween UhSetTable.below UiwpAny_setField UjNameKind.local Ukp.side UlwpAny_askSetting UmwpAny_isInstance UnList.getElem_mem UoList.drop_zero Upwhole Uqm.in1 Urs.toks UsS.g.fresh UtList.lookup_cons Uubeq_eq_false_iff_ne UvSem.onRaise_eq_wrap UwEV.lstP Uxturn Uypre.length UzMV.int V'List.size_toArray V0codeAny_builtin V1Base V2w.params V3Looks V4k.length V5beq_iff_eq V6typeLookup V7wpAny_assign_Name V8a.trans V9codeAny_mono VAExists.imp VBe.elim VCsucc VDList.contains_nil VEfastTable_eq_tree VFl.foldr VGwpAny_seqItems VHwpAny_of_eq VIEF.bJ VJcongrFun VKList.length_erase_of_mem VLList.filter_append VMrs.reverse VNof_decide_eq_false VOpyNext VPcall VQenv.locals VRList.length_filter_le VSEB.cR VTstandAt VUProgram VVOsState VWrawInt VXEV.lst VYb.mg VZzero V_wpAny_call VaBool.noConfusion Vbbeq_self_eq_true VcInt.ofNat_lt.mpr VdwpAny_attempt Vemem_of_lookup VfFast.te12563942051412417395 VgFast.te10110043849684766642 VhfirstOf ViList.drop_eq_nil_of_le VjList.drop_of_length_le VkNB.map Vlh.get? Vmq.elim Vnx.elim VoexI2 VqList.map_congr_left VrList.getElem?_range VsManifest.signature? Vtor_false Vua.getD VvList.countP_eq_length_filter VwwpAny_rule VxValue.type VywpAny_specialOf VzBuiltin.divisionGoesByPylong W'Nat.le_of_lt W0f.length W1h.use W2mainGlobals W3Sem.wrap_wrap W4EV.append W5typeLookup_type W6i.length W7S.f.cG W8body W9st.a8 WBiter WCplain WDnames WENat.le_of_ble_eq_true WGList.pairwise_cons.mp WHrm.deeper WJvalueAt WKcs.flatMap WLList.mem_flatMap.mp WMm.length WNNat.le_add_right WOList.cons_append WQnames.zip WRolds WSisSubtype_type WTh.mono WUList.ne_of_not_mem_cons WVList.foldl_append WWList.length_range WXList.mem_range.mp WYStr.ofString WZrl.size W_strKind WaStmt WbEV.cH WcS.g.objs WdA.cells.lookup WebuiltinsNs Wftoks WgNat.not_lt.mpr WhClassical.em WiNat.zero_add WjX.pr WlEnt.b WmNat.add_sub_cancel_left WnList.mem_erase_of_ne WocodeAny_call_builtin WpNat.lt_succ_self Wql.lookup WrList.contains_cons Wsbefore WtList.mem_singleton WuG.toks Wvdoc Wwdecide_eq_false WxExpr WyExt Wznews X'builtinLookup_eq_fast X0EV.pe X1scope X2EV.be X3ND.length X4h.rows X5Around X6List.length_reverse X7wpAny_call_entry X8seqObj X9List.take_add_one XAList.append_eq_nil_iff.mp XBList.drop_eq_getElem_cons XCEB.cmp XDArray.getElem?_eq_getElem XEisTrue XFEF.ite XGrest XHPyProof.Rows.seqObj XIwpAny_callSpecial?_slot XJList.take_append_drop XKSem.bind_eq_wrap' XMfoldedSetIterable XNpop XOkept XQe.length XRHeap.lt_size XSgv73 XTDecidable.byContradiction XUList.length_replicate XWList.mem_cons XXList.take_length XYdecide_eq_true_eq XZm.handled X_heap Xak0.length XbRows XdcallEnvC Xes.heap.get? XfList.mem_flatMap.mpr Xgdata XhNat.lt_add_of_pos_right XiList.length_pos_iff.mpr XjList.flatMap_nil Xkj.heap.objs.size Xll.length XmList.length_eq_zero_iff.mp XnletOwnedTupleGo XoList.map_map XpHeap.SameBut Xqh.elim XrF.length XsA.kindOf XuNat.lt_of_lt_of_le Xvt.drop XwStr.cps_append XxList.mem_singleton.mpr Xyr.handled Xzenv.cells.lookup Y'Nat.ne_of_lt Y0Array.toList_append Y1List.mem_append_right Y2List.mem_append_left Y3Option.map_eq_some_iff.mp Y4List.mem_cons_self Y5EA.aj Y6h.s.length Y7upd Y8List.cons_ne_nil Y9Addr YEd.size YFX.B.get? YGList.length_cons YHX.M YIt.length YJenv.kindOf YKG.heap YLList.not_mem_nil YMBool.and_eq_true YNList.not_mem_of_not_mem_cons YOList.mem_of_getElem? YQrm.handled YRList.take_of_length_le YSHeap.get?_update_self YTList.flatMap_append YUEV.binop YVLoc YWEF.aj YXNat.le_trans YYList.length_singleton YZBool Y_Heap.SameBut.update Ybo.lookup Ycd.length YdList.map_cons YeObj.mapSeq YgS.g.aG Yhpure YiList.nil_append Yjside Ykexecs Ylnil Ympos YnwpAny_newObj_type YoA.locals YpBool.false_ne_true YqwpAny_standAt Yrd.flatMap YsEV.item Ytdecide_eq_true Yubeq_eq_false_iff_ne.mpr Yvc.length YxList.mem_map.mpr YyArray.length_toList Yzprog Z-Str Z'3 Z0List.getD_eq_getElem?_getD Z1List.length_append Z2List.length_map Z3autoParam Z4EV.name Z5wpAny_pure Z6List.getElem?_eq_getElem Z7wpAny_bind Z84 Z92 ZAHeap.get?_push_of_some ZCa.length ZDList.mem_singleton.mp ZEList.map_append ZFwpAny_holding ZGG.heap.get? ZHeval ZIList.mem_cons.mp ZJEF.ae ZKsizeLine ZLHeap.get?_push_size ZMList.mem_append.mp ZNList.getElem?_eq_some_iff.mp ZOx.length ZPValue ZQList.append_assoc ZRs.length ZSwpAny_mono ZTif_pos ZUwpAny ZVNat.le_refl ZWOption.some.inj ZXList.mem_cons_of_mem ZYif_neg ZZG.heap.objs.size Z_1 Zaabsurd ZbShared Zcrs.length ZdList.length_drop ZeNd.params ZfNat.zero_le ZgNe.symm ZhList.range Ziof_decide_eq_true ZjG.heap.push ZkEF.assign ZlList.mem_map.mp ZmList.append_nil Znenv ZoList.length_take Zpcons ZqcongrArg ZrstarEach ZsOption ZtList.replicate ZuEA.ae ZvInt Zwb.length Zxs.heap.objs.size ZyList.getElem?_map ZzList.flatMap_cons a'Reads a3e.none a4P9.trans a5Sem.wrap a6GF.ite a_h.size abwpAny_loadPart aidictSetDefault arpos.atName b'r.size b0S.set b3G.TypeIs b4wpAny_load b5EV.lN b6le.trans b7toString b_bne_iff_ne.mpr bbx.cps.size bjlookup_mem bkTG.fQ brhz' c'args_nil c0wpAny_newFunctionEnv_cells c3S.g.gens c4S.g.os c_f.toArray.size cbi.size cjc.toks cti.toList d'c2.drop d3endLine d4Fast.tw14364793385576792824 d6Hn.rows dVu.sub d_Pc.cons dawpAny_Name dfS.cO dibeq_iff_eq.mpr dnr.cU dtdict dxInt.lt_sub_right_of_add_lt e'PB.same e0Builtin.Range.rangeFitsLong e3if_true e4Off.new e5cv.list e6rl.mono e8h.off.p eBlo.elim e_h.S.ext eaPM.symm ebFast.te10254737850608025244 ecFast.te11612656972197000677 edkas_rev eeArray.getD_eq_getD_getElem? ekS.state enF.entry_tuple_iterator_next eoList.getElem?_concat_length erintKind etgetAttr ewHid ezp.trans f'neN f3F.slot_dict_get f5strSliceIndices f6Int.zero_lt_one f7List.of_mem_zip fIList.cons.injEq f_test ffOption.isSome_iff_exists.mp fij.trans fjret fkList.mem_filter foList.pairwise_iff_getElem.mp ftget?_update_seq fvF.args_tuple_iterator_next_1 fxInt.ofNat_lt.mp g4wpAny_throw g5wpAny_point g6Scope g7Off gSEF.dg g_interactive ggNat.le_antisymm gmList.drop_append_of_le_length gnmarks gqj.objs.size gsArray.perm_iff_toList_perm.mp gukeyOf gxlooks_mroIn gytable h'pyIter h3ps.length h4e.symm h5rs.map h6F.call h7FnAt h8wpAny_pyIter_gen h9as.map hAInt.mul_add hCsegRun_of hDpiece_app hET.rows hHtoldOf hIc1.length hKB.take hLstrValues hNq.symm hOkas_place hPpickOrder hQnewFields hRt.special hSPyProof.Rows.callWith_builtin1 hTList.map_reverse hWps.map h_eJ.nil haEF.fp hcx.map hislice hkConst hor.seq hub.map hzG.gens.size i'Ent.rep i2S.g i3Array.size_append i4Nonempty i_e.rep iarl.get ibtruthy ihS.push ijps.toList irInt.blt'_eq_true ivl.ev iwtwo ixPos j'List.getElem?_inj j2D.no j3Nat.succ_pos j4F.entry_str_split j6pairsOf j_Int.lt_trans jdsc.drop jnfs.drop jsplacesOf juc2.getD k't.map k1F.plainAttrs_dict k3List.nodup_append k5ex.none kVwpAny_setState_of k_yieldOut kcsetNext kfo.length kiInt.toNat_natCast kki.natAbs klitem_at knbne_self_eq_false kplooks_findIn ksfits_of_scanBound kywpAny_storeSet_of l'Operator l4getItem l5Nat.min_self l6h.units l7h.depth l_y.length lhNat.le_total llgetMethod_builtin lsEV.jD lxArray.getElem?_toList.symm.trans m'h.symm.trans m1List.reverse_cons m2Nat.beq m3True m4Int.zero_mul m_List.casesOn masmallInt mcq.le miList.lookup_cons_self.symm.trans muS.g.old.mono mwEV.glob mxc.toList n'KasT.kasWp n2F.args_str_split_2 nCList.countP_append nPtag.length n_PUnit.unit nfBuiltin.«set_iterator.__next__» njTok nvaH.ind nxLies nyInt.fmod_lt_of_pos nzx.fdiv o'Obj.mapFields o2d.getD o3Prod.mk.injEq o4List.map_drop oCNat.pos_of_ne_zero oIInt.lt_of_le_of_lt oLx.ev o_Bool.true_and oaG.heap.IsTupleIter ocline odcheck_slot ogCode.quiet_builtin oisysModules ooouts ovList.nodup_cons.mp owS.g.old.ne ozbase p'List.mem_filter.mpr p3gh.iH p4EV.i7 p5eY.le p6hd.symm.trans p7bne_iff_ne.mp p8i.natAbs.log2 p9EV.iJ p_Sem paEV.xq pdNQ.In pjh1.symm.trans pnm.in1.handled pxwpAny_handled pzFrame.guarded q'EF.forL q0Ch.item q1PM.extBut q6st.a8.map q7NR.length q8sD.dict q9specialOf q_wpAny_For qaM.mv qbList.filterMap_cons qnne_true_of_eq_false qrList.any_eq_true.mp qscs.length r'entryFor_alias r0oneType' r1left.length r3EV.mn r4Bind.madeBy r5Bind.checkArgs rDinner r_relayAll rahx' rbNB.length rdValue.str rih.handled rkargs_cons rrNG.get? rtInt.ofNat ruk.trans rva.at_ rxcutAt ryProd.mk.inj s'Option.none sLCall_ s_EV.ip saDecidableEq sbkeep sfAttribute_any_ sgwpAny_letGo skfirstArgMember sloccurrences sosliceBounds spEF.dK sqgl.contains svh.len szr.str t'l.map t6Nat.eq_of_beq_eq_true t7StrLaws.glued_eq_join t8fdOf t_Int.natCast_add taS.f.bi tbS.f.yf tdf.get? tfList.rec tkD.C trout txX.T u'wpAny_execs_nil u0EV.eu u_EB.lu v'h.S.g.objs v_fnName vaInt.neg_one_mul vbInt.fmod_nonneg_of_pos vceW.drop vil.drop vsNat.add_zero vxcontext w'typeOf w1rm.room w2PySem.assign w_Nat.lt_trans wdwpAny_typeOf x'kindOf x1h.off.l x2h.off.b x3h.off.g x4MV.casesOn x6names.length x_Nat.succ.inj xatypeIs_str xbh.off.c y'sc.length y0S.f.knd y1aw.sub y2key y_Array.any yxS.f.inj z'entryFor_of_tree z0p.length z3a.lookup zAF.slot_str_split zBc.toArray z_checkBuiltinCall zaEnt.a zbPySem.Builtin.Str.glued zxh.k0 zyEV.gw zzouter".splitOn " ").foldl (λa x=>match x.toList with|c::d::l=>a.set! (if d=='-' then 4096+ix c else 64*ix c+ix d) (String.ofList l)|_=>a) (Array.replicate 4160 "")
def cs:Array String:=("wpAny 7 4,Exists 2 1,wpAny 7 45,EF 7 4,wpAny 7 46,wpAny 7 6,And 2 01,wpAny 7 456,Eq 3 2,Eq 3 1,codeAny 5 3,And 2 0,EA 7 6,Or 2 01,wpAny 7 5,EF 7 46,iU 8 6,Eq 3 12,bF 7 2,b8 6 3,bF 7 4,GF 13 7,codeAny 5 34,bF 7 24,And 2 1,bF 7 2345,bq 8 567,EA 7 46,b8 6 23,EB 7 46,iU 8 16,GF 13 8,EF 7 5,pW 5 3,EF 7 6,JW 5 2,EV 7 6,LE.le 4 23,List.Pairwise 3 1,Or 2 1,eJ 7 246,bF 7 234,aA 4 3,wants 4 3,yT 3 0,EF 7 456,iU 8 267,bF 7 3,Iz 12 8,JW 5 024,GF 13 678,GF 13 <,CD 6 4,aH 6 4,aA 4 23,ak 6 1,ak 6 35,aA 4 1,ak 6 23,CR 6 23,compPost 9 34,PV 7 5,aw 3 012,bF 7 5,Sem.wp 8 345,Sem.wp 8 3,CT 8 36,Wk 9 8,Wk 9 3,Wk 9 5,ak 6 4,gD 7 56,bF 7 0234,ak 6 5,Heap.IsTuple 3 02,wants 4 023,Not 1 0,EF 7 45,b8 6 235,JW 5 023,List.Perm 3 2,W.Looks 5 4,W.KasT.kasWp 5 3,List.Perm 3 1,Qs 4 3,CT 8 3,cQ 4 1,W.KdsAll 7 6,W.KdsAll 7 056,W.KdsFill 8 0367,W.KdsFill 8 7,ak 6 45,jN 10 2,PV 7 56,M8 10 9,pW 5 4,oW 12 5,iU 8 1,ML 3 1,iU 8 167,JW 5 0234,bq 8 7,JW 5 3,iU 8 147,iU 8 7,JW 5 4,bq 8 6,rO 14 <,vk 10 4,aw 3 0,Hj 15 <,Hj 15 5,Hj 15 8,GF 13 ;,TG 7 4,TG 7 3,EB 7 5,EV 7 46,eJ 7 2,EA 7 456,TG 7 6,iU 8 26,ML 3 01,M9 10 257,EV 7 456,bq 8 5,Ex 5 04,At 9 6,At 9 5,iR 7 56,aH 6 5,LT.lt 4 23,LE.le 4 2,Rel 4 23,Told 4 3,Nonempty 1 0".splitOn ",").toArray
def wc(s:String):String:=match s.toList with|[a]=>cs.getD (ix a) s|[a,b]=>cs.getD ((ix a+1)*62+ix b) s|_=>s
def pb:Array String:=("some~.globalImplicit ak~X~y~A~o~E~G .type~\"tuple\" .type~\"list\" PV~X~A~y~o~g .type~\"dict\" some~o aA~X~y~E~G .type~\"object\" .ref~a some~x .lst~(~ah~s~) .type~\"builtin_function_or_method\" some~c .type~\"function\" bM~X~NQ~z~Nh~Q .list~[] some~b ak~u~P~Zn~l~F~s .type~\"type\" X8~(~.type~\"list\"~)~b~n ke~Nr~NF Hy~Nd~NG~NM~N8 .type~\"map\" .ref~z .builtin~\"len\" .ref~fa some~a some~d .ref~ZZ .lst~(~ah~a~) ZH~Ng~A .ref~d .type~\"range\" .ns~(~aJ~\"opcodes\"~(~.ref~an~)~(~vW~s~k~F~S~V~)~) .type~\"set\" .ref~x .builtin~id .type~\"code\" GF~X~m~Nv~Ni~XS~Nk~A~(~TM~(~.For~u~WB~W8~[]~Ym~)~A~)~o~E~w~Nb~NS bX~pm~cd~Wv~u~fa W_~Wj~Sh .ref~b Yh~(~.type~\"method_descriptor\"~) some~mv .ref~ga VO~(~.ref~it~) Y7~(~Y7~E~S~(~.list~[]~)~)~S~(~.list~[]~) au~(~jz~s~(~dE~s~a~)~)~(~fO~s~a~(~dE~s~a~)~) .type~T J~MV ZH~WB~A .int~k xT~X~z~Nh~NM some~r Rm~X~m~n .int~(~BC~Yj~) Z3~(~gK~A~Nn~[]~)~aR .type~\"frame\" .ref~S .forLoop~u~(~.ref~ga~)~W8~[]~A some~(~.type~\"enumerate\"~) vk~X~m~cu~A~f~a~o~N7 some~(~sD~X~k~) Y7~E~x~(~.list~(~ah~g~)~) .lst~(~ah~b~) bX~pm~cd~Wv~c~fa .Name~\"isinstance\"~d some~f some~(~.list~c~) .ref~u cP~M.C Sat~Zav~c Qs~j~NA~NY~G .type~\"getset_descriptor\" some~(~.type~\"zip\"~) some~.cell cW~\"dict.get\"~o .type~\"list_iterator\" .int~n bG~y~N .ref~C .int~i T_~Yz~a .int~a kE~e~k Th~Ni~XS T_~Pe~Nd .forLoop~Ng~NH~NZ~[]~A some~(~.list~b~) Y7~E~S~(~.list~[]~) Y7~(~Y7~i~x~(~.list~[]~)~)~d~(~.list~[]~) some~j .builtin~\"list.append\" Zr~[]~A EV~u~V~Zn~(~ZH~(~.Name~x~Ym~)~Zn~)~l~F~g .builtin~\"object.__init_subclass__\" Y7~E~t~(~.list~(~ah~Tx~)~) d5~n~c .type~\"StopIteration\" .refl~y .list~(~q6~aZ~) .list~(~G.map~jb~) z4~v1~v2~v3~v4 J~Op o6~d~i~WB~X1~Ym Yk~W8~Zn Th~(~.forLoop~Ng~NH~NZ~[]~A~)~XS G6~Z_ .Name~\"str\"~c some~e .type~\"tuple_iterator\" ZU~YH~m~(~Xn~f~(~.ref~it~)~i~)~d~k~G ZH~d~A XM~WB~A~x XE~b~A~(~ZH~b~A~) IQ~X~E~Nt~Pj~t~e~I~NT .ref~c .lst~(~ah~XN~) av~Z_ .ref~it some~(~.builtin~NX~) ZH~c~A Y7~n~Xk~(~.list~[]~) J~cp .int~j GA~S~ZR~Xr~q~p~n~(~d9~d~Yc~) .type~\"str\" .Name~\"SequenceMatcher\"~Np some~(~sS~X~i~) .Name~\"any\"~l some~m eX~C~t~e~a~c~b~d bU~pm~cd~Wv~a~fa ZH~b~A G_~E~d ZH~Nn~A .builtin~\"type.__prepare__\" V1~X .Call~(~.Attribute~(~.Name~\"self\"~Np~)~D~Nx~)~[]~[]~N2 qz~A~X1~cl~o~l ZH~UY~A Yk~W8~A LY~sc~f~s1~x~z~kd~s~i_ .list~(~ah~d~) .builtin~\"tuple.__new__\" w0~s~F .type~\"dict_items\" .Subscript~c~i~d some~(~Oh~la~k~) some~(~.list~m~) j8~XN~a~b ak~u~P~Zn~(~aJ~x~mv~l~)~F~a V3~YH~hp~(~setEntries~a~)~d .ref~Q .lst~(~ah~f~) .forLoop~r~it~W8~[]~A .builtin~\"list.extend\" xV~q~Ny~pm~cd~Wv~d~k fO~s~a~(~dE~s~a~) cW~\"set.__contains__\"~a cW~\"set.__contains__\"~PY X8~(~.type~\"tuple\"~)~b~n Hc~S~ZR~Xr~q~p~a~P0~T~P2~o~A~k~(~qa~o~A~k~) E7~sc~(~.ref~f~)~(~.ref~s1~) .builtin~\"isinstance\" ZH~(~.Call~(~.Attribute~Ng~D~Np~)~[]~[]~Nx~)~A .int~b some~\"tuple.__new__\" h~P~s~S Yk~NZ~A S0~X1~cl~C~Zn Q'~b PB~X~A~y~o~Nj .ref~NL .lst~(~ah~k~) .Call~(~.Attribute~Ng~(~\"items\"~)~Np~)~[]~[]~Nx Z3~(~gK~A~l~d~)~aR X8~c~f~n .Attribute~(~.Name~\"tuple\"~Np~)~\"__new__\"~Nx some~n ak~u~a~Zn~l~G~s ZH~l~A Lb~t~e~ND~Nw~Nm J~ZP En~sc~s~n~XN~u~a~F~H'~(~.ref~x~)~(~.ref~b~) .int~c .Tuple~(~Vk~nm~)~k~Ym .Attribute~Ng~D~Np au~k0~cs ZH~i~A X.M.den~(~.forLoop~u~(~.ref~ga~)~W8~[]~A~) PV~X~A~d~o~g EF~X~m~A~(~TM~(~.For~u~WB~W8~[]~Ym~)~A~)~o~E~B DG~x~n~c2~(~.ref~g0~) Ch~C~t~e~YI~XQ~i~j~l .ref~p .ref~an .Subscript~(~.Name~\"back\"~p1~)~(~.Name~\"k\"~p2~)~q cZ~X~b".splitOn " ").toArray
def by_(t:Sy):Sy:=sE "byTactic" [sA "by",t]
def nm(n:Lean.Name):String:=match n with
 |.str .anonymous s=>match s.toList with
  |[a]=>tb.getD (4096+ix a) ""|[a,b]=>tb.getD (64*ix a+ix b) ""|['Z',a,b]=>pb.getD (64*ix a+ix b) ""|_=>""
 |_=>""
def tm(l:Ls):Sy:=match l.reverse with|[]=>sE "hole" [sA "_"]|[a]=>a|f::l=>sX f l
def ph(k:Sy->Sy)(x:String):Sy:=let tk(x:String):Sy:=match x.toList with
  |'.'::l=>sE "dotIdent" [sA ".",sI (String.ofList l)]|'"'::l=>Syntax.mkStrLit (String.ofList l.dropLast)|['_']=>sE "hole" [sA "_"]|['[',']']=>sN "«term[_]»" [sA "[",sU [],sA "]"]|_=>k (sI x)
 tm (((x.splitOn "~").foldl (λ(st:List Ls)x=>match x,st with
  |"(",st=>[]::st|")",a::b::r=>(tm a::b)::r|_,a::r=>(tk x::a)::r|_,st=>st) [[]]).headD [])
def rwJ(k:Sy->Sy)(s:Sy):Sy:=match s with
 |.ident _ _ n _=>let e:=nm n
  if e.contains '~' then ph k e else match e with
  |""=>s|"1"=>by_ aK|"2"=>by_ (tQ #[sN "tacticKernel_rfl" [sA "kernel_rfl"]])|"3"=>by_ aD|"4"=>by_ (tQ #[sT "decide" [sA "decide",sT "optConfig" [sU [sT "configItem" [sT "posConfigItem" [sA "+",sI "kernel"]]]]]])|x=>sI x
 |.node _ k as=>if k==`Lean.Parser.Term.paren&&as[1]!.isStrLit?.isSome then sE "typeAscription" [sLP,as[1]!,sA ":",sU [sI "Str"],sA ")"]else if k==`Lean.Parser.Command.declaration&&(s[1].getKind==`Lean.Parser.Command.definition||s[1].getKind==`Lean.Parser.Command.abbrev)&&s[0][4].getNumArgs==0 then s.setArg 0 (s[0].setArg 4 (sU [sN "Lean.Parser.Command.noncomputable" [sA "noncomputable"]]))else s|_=>s
def rwI:Sy->Sy:=rwJ (rwJ (rwJ (rwJ (rwJ (rwJ (rwJ (rwJ id)))))))
def stF(s:Syntax):MacroM Syntax:=if s.getPos?.isNone then Macro.throwUnsupported else pure (s.rewriteBottomUp λx=>rwI (x.setInfo .none))
def waF(s:Sy):Option Sy:=match(wc (s[1].isStrLit?.getD "")).splitOn " "with
 |[h,n,d]=>let is:=mp (λc=>c.toNat-48) d.toList
  let nm(i:Nat):=sI ("v"++toString i)
  some (sR (ltL (mp nm is) (sE "typeAscription" [sLP,sH,sA ":",sU [sX (sE "explicit" [sA "@",sI h]) (mp (λi=>if is.contains i then nm i else sE "hole" [sA "_"]) (List.range (n.toNat?.getD 0)))],sA ")"])))|_=>none
def haF(s:Sy):Option Sy:=if isE s[2][0] "letIdDecl"then some (sT "focus" [sA "focus",sB [sR (sE "have" [s[0],s[1],s[2],sA ";",sH]),sT "rotateRight" [sA "rotate_right",sU []]]])else none
def deF(s:Sy):Option Sy:=if s[1][0].getNumArgs !=0 then some (sP [sR (sX (sI "of_decide_eq_true") [sH]),sN "PyProof.Rows.«tacticKernel_rfl!»" [sA "kernel_rfl!"]])else let e(x:String):=sEx (sX (sI x) [sI "rfl"])
 some (sF [sW (sEx (sI "rfl")),e "Nat.le_of_ble_eq_true",e "Nat.ne_of_beq_eq_false",e "of_decide_eq_true",s.setArg 1 (sT "optConfig" [sU [sT "configItem" [sT "negConfigItem" [sA "-",sI "kernel"]]]])])
end Mc
section
local macro_rules (kind:=Lean.Parser.Command.declaration)|s=>Mc.stF s
local macro_rules (kind:=Lean.Parser.Command.variable)|s=>Mc.stF s
local macro_rules (kind:=Lean.Parser.Command.mutual)|s=>Mc.stF s
set_option bootstrap.genMatcherCode false
theorem trR{α:Sort _}{a b c:α}(h:a=b)(k:c=b):c=a:=ru h.symm
theorem trS{α:Sort _}{a b c:α}(h:a=b)(k:a=c):b=c:=m' k
@[elab_as_elim]theorem rwP{α:Sort _}{a b:α}(h:a=b){c:α->Prop}(k:c b):c a:=h▸k
@[elab_as_elim]theorem genM{α:Sort _}{b:α->Prop}(a:α)(k:∀x,a=x->b x):b a:=k a rfl
theorem EH{α β d:Type _}{e:α×β×d->Prop}(mk:∀a b c,e (a,b,c))(p:α×β×d):e p:=mk p.1 p.2.1 p.2.2
theorem Im{α β e f:Type _}{g:α×β×e×f->Prop}(mk:∀a b c d,g (a,b,c,d))(p:α×β×e×f):g p:=mk p.1 p.2.1 p.2.2.1 p.2.2.2
@[elab_as_elim]theorem bQ{α:Sort _}{c:Prop}[Oa c]{a b x:α}{d:α->Prop}(e:(if c then a else b)=x)(h1:c->d a)(h2:¬c->d b):d x:=by
 rw[<-e]at⊢;split;.exact h1 ‹_›
 .exact h2 ‹_›
theorem gC{α:Type _}{C:Prop}(x:Zs α)(h:x=none->C)(k:∀a,x=ZaB->C):C:=by
 rcases x with _|a;.exact h rfl
 .exact k a rfl
theorem wB{α:Type _}{C:Prop}(x:J α)(h:x=[]->C)(k:∀a l,x=a::l->C):C:=by
 rcases x with _|⟨a,l⟩;.exact h rfl
 .exact k a l rfl
theorem Su{b:Sort _}{p:b->Prop}{C:Prop}(h:∃a,p a)(k:∀a,p a->C):C:=Xq λa h=>k a h
theorem ex2{c:Sort _}{d:Sort _}{p:c->d->Prop}{C:Prop}(h:∃a b,p a b)(k:∀a b,p a b->C):C:=Xq λa h=>Xq λb h=>k a b h
theorem ex3{d:Sort _}{e:Sort _}{f:Sort _}{p:d->e->f->Prop}{C:Prop}(h:∃a b c,p a b c)(k:∀a b c,p a b c->C):C:=Xq λa h=>Xq λb h=>Xq λc h=>k a b c h
theorem ex4{e:Sort _}{f:Sort _}{g:Sort _}{i:Sort _}{p:e->f->g->i->Prop}{C:Prop}(h:∃a b c d,p a b c d)(k:∀a b c d,p a b c d->C):C:=Xq λa h=>Xq λb h=>Xq λc h=>Xq λd h=>k a b c d h
theorem ex5{f:Sort _}{g:Sort _}{i:Sort _}{j:Sort _}{l:Sort _}{p:f->g->i->j->l->Prop}{C:Prop}(h:∃a b c d e,p a b c d e)(k:∀a b c d e,p a b c d e->C):C:=Xq λa h=>Xq λb h=>Xq λc h=>Xq λd h=>Xq λe h=>k a b c d e h
theorem ex6{g:Sort _}{i:Sort _}{j:Sort _}{l:Sort _}{m:Sort _}{n:Sort _}{p:g->i->j->l->m->n->Prop}{C:Prop}(h:∃a b c d e f,p a b c d e f)(k:∀a b c d e f,p a b c d e f->C):C:=Xq λa h=>Xq λb h=>Xq λc h=>Xq λd h=>Xq λe h=>Xq λf h=>k a b c d e f h
theorem ex7{i:Sort _}{j:Sort _}{l:Sort _}{m:Sort _}{n:Sort _}{o:Sort _}{q:Sort _}{p:i->j->l->m->n->o->q->Prop}{C:Prop}(h:∃a b c d e f g,p a b c d e f g)(k:∀a b c d e f g,p a b c d e f g->C):C:=Xq λa h=>Xq λb h=>Xq λc h=>Xq λd h=>Xq λe h=>Xq λf h=>Xq λg h=>k a b c d e f g h
theorem ex8{j:Sort _}{l:Sort _}{m:Sort _}{n:Sort _}{o:Sort _}{q:Sort _}{r:Sort _}{s:Sort _}{p:j->l->m->n->o->q->r->s->Prop}{C:Prop}(h:∃a b c d e f g i,p a b c d e f g i)(k:∀a b c d e f g i,p a b c d e f g i->C):C:=Xq λa h=>Xq λb h=>Xq λc h=>Xq λd h=>Xq λe h=>Xq λf h=>Xq λg h=>Xq λi h=>k a b c d e f g i h
theorem Uc{p0 p1:Prop}{C:Prop}(h:p0/\p1)(k:p0->p1->C):C:=k h.1 h.2
theorem and3{p0 p1 p2:Prop}{C:Prop}(h:p0/\p1/\p2)(k:p0->p1->p2->C):C:=k h.1 h.2.1 h.2.2
theorem and4{p0 p1 p2 p:Prop}{C:Prop}(h:p0/\p1/\p2/\p)(k:p0->p1->p2->p->C):C:=k h.1 h.2.1 h.2.2.1 h.2.2.2
theorem and5{p0 p1 p2 p a:Prop}{C:Prop}(h:p0/\p1/\p2/\p/\a)(k:p0->p1->p2->p->a->C):C:=k h.1 h.2.1 h.2.2.1 h.2.2.2.1 h.2.2.2.2
theorem and6{p0 p1 p2 p a b:Prop}{C:Prop}(h:p0/\p1/\p2/\p/\a/\b)(k:p0->p1->p2->p->a->b->C):C:=k h.1 h.2.1 h.2.2.1 h.2.2.2.1 h.2.2.2.2.1 h.2.2.2.2.2
theorem and7{p0 p1 p2 p a b c:Prop}{C:Prop}(h:p0/\p1/\p2/\p/\a/\b/\c)(k:p0->p1->p2->p->a->b->c->C):C:=k h.1 h.2.1 h.2.2.1 h.2.2.2.1 h.2.2.2.2.1 h.2.2.2.2.2.1 h.2.2.2.2.2.2
theorem and8{p0 p1 p2 p a b c d:Prop}{C:Prop}(h:p0/\p1/\p2/\p/\a/\b/\c/\d)(k:p0->p1->p2->p->a->b->c->d->C):C:=k h.1 h.2.1 h.2.2.1 h.2.2.2.1 h.2.2.2.2.1 h.2.2.2.2.2.1 h.2.2.2.2.2.2.1 h.2.2.2.2.2.2.2
theorem and9{p0 p1 p2 p a b c d e:Prop}{C:Prop}(h:p0/\p1/\p2/\p/\a/\b/\c/\d/\e)(k:p0->p1->p2->p->a->b->c->d->e->C):C:=k h.1 h.2.1 h.2.2.1 h.2.2.2.1 h.2.2.2.2.1 h.2.2.2.2.2.1 h.2.2.2.2.2.2.1 h.2.2.2.2.2.2.2.1 h.2.2.2.2.2.2.2.2
theorem Vo{α:Sort _}{β:Sort _}{p:α->β->Prop}(a:α)(b:β)(z:p a b):∃a b,p a b:=⟨a,b,z⟩
theorem exI3{α:Sort _}{β:Sort _}{d:Sort _}{p:α->β->d->Prop}(a:α)(b:β)(c:d)(z:p a b c):∃a b c,p a b c:=⟨a,b,c,z⟩
theorem exI4{α:Sort _}{β:Sort _}{e:Sort _}{f:Sort _}{p:α->β->e->f->Prop}(a:α)(b:β)(c:e)(d:f)(z:p a b c d):∃a b c d,p a b c d:=⟨a,b,c,d,z⟩
theorem exI5{α:Sort _}{β:Sort _}{f:Sort _}{g:Sort _}{i:Sort _}{p:α->β->f->g->i->Prop}(a:α)(b:β)(c:f)(d:g)(e:i)(z:p a b c d e):∃a b c d e,p a b c d e:=⟨a,b,c,d,e,z⟩
theorem andI3{a b c:Prop}(d:a)(hb:b)(e:c):a/\b/\c:=⟨d,hb,e⟩
theorem andI4{a b c d:Prop}(e:a)(hb:b)(f:c)(hd:d):a/\b/\c/\d:=⟨e,hb,f,hd⟩
theorem andI5{a b c d e:Prop}(f:a)(hb:b)(g:c)(hd:d)(he:e):a/\b/\c/\d/\e:=⟨f,hb,g,hd,he⟩
theorem andI6{a b c d e f:Prop}(g:a)(hb:b)(i:c)(hd:d)(he:e)(j:f):a/\b/\c/\d/\e/\f:=⟨g,hb,i,hd,he,j⟩
theorem andI7{a b c d e f g:Prop}(i:a)(hb:b)(j:c)(hd:d)(he:e)(k:f)(hg:g):a/\b/\c/\d/\e/\f/\g:=⟨i,hb,j,hd,he,k,hg⟩
namespace Om
set_option genCtorIdx false in inductive T where|n(i:U)|z(i:U)|k(c:U)|a(x y:T)|s(x y:T)|m(c:U)(y:T)|c(x:T)|t(x:T)|b(x:T)|l(x y:T)|h(x y:T)|g(x:T)
set_option genCtorIdx false in inductive F where|le(s:YZ)(x y:T)|lt(s:YZ)(x y:T)|eq(s:YZ)(x y:T)|no(f:F)|an(f g:F)|o(f g:F)|i(f g:F)|f
structure dS where
 k:Zv
 c:J Zv
section
variable(d:J U)(q:J Zv)
def T.ev(f:T):U×Zv:=T.rec (motive:=λO=>U×Zv) (λi=>(o2 i 0,0)) (λi=>(0,q.getD i 0)) (λe=>(e,e)) (λO O x y=>(x.1+y.1,x.2+y.2)) (λO O x y=>(x.1-y.1,x.2-y.2)) (λe O y=>(e*y.1,e*y.2)) (λO x=>(0,x.1)) (λO x=>(x.2.toNat,0)) (λO x=>(x.2.natAbs,0)) (λO O x y=>(min x.1 y.1,min x.2 y.2)) (λO O x y=>(max x.1 y.1,max x.2 y.2)) (λO x=>(0,-x.2)) f
def F.den(b:F):Prop:=F.rec (motive:=λO=>Prop) (λs x y=>U0 s ((oL d q).2<=(y.ev d q).2) ((oL d q).1<=(y.ev d q).1)) (λs x y=>U0 s ((oL d q).2<(y.ev d q).2) ((oL d q).1<(y.ev d q).1)) (λs x y=>U0 s ((oL d q).2=(y.ev d q).2) ((oL d q).1=(y.ev d q).1)) (λO p=>¬p) (λO O p a=>p/\a) (λO O p a=>p\/a) (λO O p a=>p->a) LV b
end
def Dh(s:J Zv):J Zv->J Zv:=tf (motive:=λO=>J Zv->J Zv) (λt=>t) (λa s i t=>m_ (motive:=λO=>J Zv) t (a::s) λb t=>(a+b)::i t) s
def dS.add(x y:dS):dS:=⟨x.k+y.k,Dh x.c y.c⟩
def dS.sc(j:Zv)(x:dS):dS:=⟨j*x.k,x.c.map (j*.)⟩
def dS.sub(x y:dS):dS:=x.add (y.sc (-1))
def unit(i:U):dS:=⟨0,Og (motive:=λO=>J Zv) [1] (λO t=>0::t) i⟩
def comb{α:Type}(A B:J (J dS×dS))(f:dS->dS->J (J dS×α)):J (J dS×α):=A.flatMap λx=>B.flatMap λy=>(f x.2 y.2).map λr=>(x.1++(y.1++r.1),r.2)
abbrev AL:=J (J dS×dS)
abbrev Yl:AL:=[([],⟨0,[]⟩)]
def T.CU(j:T):YZ->AL:=T.rec (motive:=λO=>YZ->AL) (λi d=>U0 d Yl [([unit (2*i)],unit (2*i))]) (λi d=>U0 d [([],unit (2*i+1))] Yl) (λf O=>[([],⟨f,[]⟩)]) (λO O x y d=>comb (x d) (y d) λu e=>[([],u.add e)]) (λO O x y d=>comb (x d) (y d) λu e=>U0 d [([],dV e)] [([dV e],dV e),([e.sub u],⟨0,[]⟩)]) (λf O y d=>(y d).map λr=>(r.1,r.2.sc f)) (λO x d=>U0 d (x false) Yl) (λO x d=>U0 d Yl ((x true).flatMap λr=>[(r.2::r.1,r.2),(r.2.sc (-1)::r.1,⟨0,[]⟩)])) (λO x d=>U0 d Yl ((x true).flatMap λr=>[(r.2::r.1,r.2),(r.2.sc (-1)::r.1,r.2.sc (-1))])) (λO O x y d=>comb (x d) (y d) λu e=>[([e.sub u],u),([dV e],e)]) (λO O x y d=>comb (x d) (y d) λu e=>[([e.sub u],e),([dV e],u)]) (λO x d=>U0 d ((x true).map λr=>(r.1,r.2.sc (-1))) Yl) j
def prod(A B:J (J dS)):J (J dS):=A.flatMap λx=>B.map λy=>x++y
def rel(s:YZ)(x y:T)(f:dS->dS->J (J dS)):J (J dS):=(comb (x.CU s) (y.CU s) λu a=>(f u a).map λr=>(r,())).map (·.1)
def gt(u a:dS):dS:=(dV a).add ⟨-1,[]⟩
def F.KO(a:F):YZ->J (J dS):=F.rec (motive:=λO=>YZ->J (J dS)) (λs x y p=>rel s x y λu b=>U0 p [[b.sub u]] [[gt u b]]) (λs x y p=>rel s x y λu b=>U0 p [[gt b u]] [[dV b]]) (λs x y p=>rel s x y λu b=>U0 p [[b.sub u,dV b]] [[gt u b],[gt b u]]) (λO a p=>a !p) (λO O a g p=>U0 p (prod (a true) (g true)) (a false++g false)) (λO O a g p=>U0 p (a true++g true) (prod (a false) (g false))) (λO O a g p=>U0 p (a false++g true) (prod (a true) (g false))) (λp=>U0 p [] [[]]) a
def hd(l:dS):Zv:=l.c.headD 0
def tl(l:dS):dS:=⟨l.k,l.c.tail⟩
def elim(cs:J dS):J dS:=(cs.filter λl=>hd l==0).map tl++(cs.filter λl=>Int.blt' 0 (hd l)).flatMap λp=>(cs.filter λl=>Int.blt' (hd l) 0).map λq=>((tl p).sc (-hd q)).add ((tl q).sc (hd p))
def ref(n:U):J dS->YZ:=Og (motive:=λO=>J dS->YZ) (λcs=>cs.any λl=>Int.blt' l.k 0&&l.c.isEmpty) (λO r cs=>r (elim cs)) n
def ok(n:U)(f:F):YZ:=(f.KO false).all (ref n)
section
variable(b:U->Zv)
def se(s:J Zv):U->Zv:=tf (motive:=λO=>U->Zv) (λO=>0) (λc O r i=>c*b i+r (i+1)) s
def dS.ev(l:dS)(i:U):Zv:=l.k+se b l.c i
variable{b}
theorem EC:∀(s t:J Zv)(i:U),se b (Dh s t) i=se b s i+se b t i:=by
 intro I;induction I with
 |Yl=>
  intro t i;exact(Sg _).symm|Zp a s d=>
  intro e;cases e with
  |Yl=>
   intro i;exact(Of _).symm|Zp c t=>
   intro i;show(a+c)*b i+se b (Dh s t) (i+1)=(a*b i+se b s (i+1))+(c*b i+se b t (i+1));rw[d t,Int.add_mul];ac_rfl
theorem Gx(j:Zv):∀(s:J Zv)(i:U),se b (s.map (j*.)) i=j*se b s i:=by
 intro I;induction I with
 |Yl=>
  intro i;exact(Int.mul_zero _).symm|Zp a s c=>
  intro i;show j*a*b i+se b (s.map (j*.)) (i+1)=j*(a*b i+se b s (i+1));rw[c,hA,Int.mul_assoc]
theorem rV(x y:dS)(i:U):(x.add y).ev b i=oL b i+y.ev b i:=by
 show x.k+y.k+se b (Dh x.c y.c) i=_;rw[EC];unfold dS.ev;ac_rfl
theorem oB(j:Zv)(x:dS)(i:U):(x.sc j).ev b i=j*oL b i:=by
 show j*x.k+se b (x.c.map (j*.)) i=_;rw[Gx];exact(hA ..).symm
theorem gO(x y:dS)(i:U):(x.sub y).ev b i=oL b i-y.ev b i:=by unfold dS.sub;rw[rV,oB,va];rfl
theorem xu:0<=(gt x a).ev b i↔a.ev b i<oL b i:=by unfold gt;rw[rV,gO];exact⟨λh=>Int.lt_of_sub_pos (Int.lt_of_lt_of_le Z' (Int.le_of_sub_nonneg (b:=1) h)),λh=>UP (Int.sub_pos_of_lt h)⟩
theorem rz(i:U):∀j,(unit i).ev b j=b (j+i):=by induction i with|VZ=>intro j;show(0:Zv)+(1*b j+0)=b j;rw[Int.one_mul,Of,Sg]|VC i a=>intro j;have:=a (j+1);rw[show j+(i+1)=j+1+i from by ac_rfl,<-this];show(0:Zv)+(0*b j+se b (unit i).c (j+1))=0+se b (unit i).c (j+1);rw[m4,Sg]
theorem EY(l:dS)(i:U):iv b i=hd l*b i+(tl l).ev b (i+1):=by
 obtain⟨k,c⟩:=l;cases c with|Yl=>show k+0=0*b i+(k+0);rw[m4,Sg]|Zp a s=>show k+(a*b i+se b s (i+1))=a*b i+(k+se b s (i+1));ac_rfl
theorem fm(f:0<a)(hb:c<0)(h1:0<=a*r+x)(h2:0<=c*r+d):0<=-c*x+a*d:=by
 have e1:=Int.mul_nonneg (Int.le_of_lt (Int.neg_pos_of_neg hb)) h1;have e2:=Int.mul_nonneg (Int.le_of_lt f) h2;rw[hA]at e1;rw[show-c*(a*r)=-(a*(c*r))from by rw[Int.neg_mul,Int.mul_left_comm]]at e1;have e:=Int.add_nonneg e1 e2;rw[hA]at e;rwa[show-(a*(c*r))+-c*x+(a*(c*r)+a*d)=-c*x+a*d from by rw[Int.add_comm (-(a*(c*r))),Int.add_assoc,Int.neg_add_cancel_left]]at e
theorem C0(h:∀l∈cs,0<=iv b i):∀l∈elim cs,0<=iv b (i+1):=λl hl=>by
  rcases ZM hl with hl|hl;.obtain⟨q,hq,rfl⟩:=Zl hl;obtain⟨h1,h2⟩:=SJ hq;have:=h q h1;rw[EY,eq_of_beq h2,m4,Sg]at this;exact this
  .obtain⟨p,hp,hl⟩:=WL hl;obtain⟨q,hq,rfl⟩:=Zl hl;obtain⟨h1,h2⟩:=SJ hp;obtain⟨g,a⟩:=SJ hq;have a1:=h p h1;have a2:=h q g;rw[EY]at a1 a2;rw[rV,oB,oB];exact fm (by rwa[ir]at h2) (by rwa[ir]at a) a1 a2
theorem Gh(n:U):∀(cs:J dS)(i:U),ref n cs=true->¬∀l∈cs,0<=iv b i:=by induction n with
 |VZ=>
  intro cs i h k;obtain⟨l,hl,e⟩:=qr h;rw[YM,ir,List.isEmpty_iff]at e;have:=k l hl;unfold dS.ev at this;rw[e.2]at this;exact Za e.1 (Int.not_lt.mpr (by rwa[show se b [] i=0 from rfl,Of]at this))|VC n a=>exactλcs i h k=>a _ (i+1) h (C0 k)
abbrev Sat(b:U->Zv)(cs:J dS):Prop:=∀l∈cs,0<=iv b 0
inductive Ok{α:Type}(b:U->Zv)(Q:α->Prop)(a:J (J dS×α)):Prop where|mk(c:J dS)(x:α)(m:(c,x)∈a)(s:Sat b c)(q:Q x)
theorem Ok.hd{Q:α->Prop}{a:J (J dS×α)}{x:α}(s:Sat b c)(q:Q x):Ok b Q ((c,x)::a):=⟨c,x,.head _,s,q⟩
theorem Ok.tl{Q:α->Prop}{d:J (J dS×α)}{c:J dS×α}(h:Ok b Q d):Ok b Q (c::d):=by obtain⟨a,e,m,s,q⟩:=h;exact⟨a,e,.tail _ m,s,q⟩
variable{PA:AL}
theorem Ok.comb{B:AL}{Q:α->Prop}{f:dS->dS->J (J dS×α)}(d:Ok b (λl=>iv b 0=u) PA)(hb:Ok b (λl=>iv b 0=i) B)(h:∀x y:dS,oL b 0=u->y.ev b 0=i->Ok b Q (f x y)):Ok b Q (comb PA B f):=by obtain⟨o,x,m,s,q⟩:=d;exact by obtain⟨p,y,e,a,g⟩:=hb;exact by obtain⟨c,z,j,k,n⟩:=h x y q g;exact⟨_,z,Xf ⟨_,m,Xf ⟨_,e,Yx ⟨_,j,rfl⟩⟩⟩,λl hl=>(ZM hl).elim (s l) λhl=>(ZM hl).elim (a l) (k l),n⟩
variable{Pz:dS->dS}
theorem Ok.map(c:Ok b (λl=>iv b 0=u) PA)(h:∀x:dS,oL b 0=u->(Pz x).ev b 0=d):Ok b (λl=>iv b 0=d) (PA.map λr=>(r.1,Pz r.2)):=by obtain⟨a,x,m,s,q⟩:=c;exact⟨a,Pz x,Yx ⟨_,m,rfl⟩,s,h x q⟩
theorem Ok.two(d:Ok b (λl=>iv b 0=u) PA)(h1:0<=u->u=c)(h2:u<=0->∀x:dS,oL b 0=u->(Pz x).ev b 0=c):Ok b (λl=>iv b 0=c) (PA.flatMap λr=>[(r.2::r.1,r.2),(r.2.sc (-1)::r.1,Pz r.2)]):=by
 obtain⟨a,x,m,s,q⟩:=d;rcases Int.le_total 0 u with h|h;.exact⟨x::a,x,Xf ⟨_,m,.head _⟩,S3 ⟨q▸h,s⟩,q.trans (h1 h)⟩
 .exact⟨_,Pz x,Xf ⟨_,m,.tail _ (.head _)⟩,S3 ⟨by rw[oB,q,va];exact Int.neg_nonneg_of_nonpos h,s⟩,h2 h x q⟩
theorem oH:Sat b []:=λO h=>nomatch h
theorem oS(h:0<=iv b 0):Sat b [l]:=S3 ⟨h,oH⟩
end
def ke(d:J U)(q:J Zv)(i:U):Zv:=U0 (i%2==0) (o2 (i/2) 0) (q.getD (i/2) 0)
variable{Nr:J U}{NF:J Zv}
theorem EO(i:U):ke Nr NF (2*i)=Nr.getD i 0:=by unfold ke;rw[Nat.mul_mod_right,Nat.mul_div_cancel_left i Z'];rfl
theorem HZ(i:U):ke Nr NF (2*i+1)=NF.getD i 0:=by unfold ke;rw[Nat.mul_add_mod,show(2*i+1)/2=i from(Nat.mul_add_div Z' i 1).trans rfl];rfl
abbrev V(d:J U)(q:J Zv)(t:T)(s:YZ):Zv:=U0 s (t.ev d q).2 (t.ev d q).1
abbrev M4(d:J U)(q:J Zv)(t:T)(s:YZ):Prop:=Ok (ke d q) (λl=>iv (ke d q) 0=V d q t s) (t.CU s)
theorem jo:Ok Zav (λl=>iv Zav 0=0) Yl:=.hd oH rfl
theorem mm{u:dS}{s:YZ}{x:dS}(e:u.ev Zav 0=a)(b:c.ev Zav 0=q)(h1:a<=q->oL Zav 0=d)(h2:q<=a->f.ev Zav 0=d):Ok Zav (λl=>iv Zav 0=d) [([c.sub u],x),([dV c],f)]:=by
 rcases Int.le_total a q with h|h;.exact .hd (oS (by rw[gO,e,b];exact UP h)) (h1 h)
 .exact .tl (.hd (oS (by rw[gO,e,b];exact UP h)) (h2 h))
abbrev W(s:YZ)(p:U×Zv):Zv:=U0 s p.2 p.1
theorem MH:∀{s},W s a<=W s q->W s a=W s (min a.1 q.1,min a.2 q.2)|true,h=>(Int.min_eq_left h).symm|false,h=>Zq rt (OC (SP h)).symm
theorem MJ:∀{s},W s q<=W s a->W s q=W s (min a.1 q.1,min a.2 q.2)|true,h=>(Int.min_eq_right h).symm|false,h=>Zq rt (Q_ (SP h)).symm
theorem MY:∀{s},W s a<=W s q->W s q=W s (max a.1 q.1,max a.2 q.2)|true,h=>(Int.max_eq_right h).symm|false,h=>Zq rt (Nat.max_eq_right (SP h)).symm
theorem MP:∀{s},W s q<=W s a->W s a=W s (max a.1 q.1,max a.2 q.2)|true,h=>(Int.max_eq_left h).symm|false,h=>Zq rt (Nat.max_eq_left (SP h)).symm
theorem A3(o:T):∀d,M4 Nr NF o d:=by induction o with
 |n i=>exactλ|true=>jo|false=>.hd (oS (by rw[rz,Wi,EO];exact SI _)) (by rw[rz,Wi,EO];rfl)
 |z i=>exactλ|true=>.hd oH (by rw[rz,Wi,HZ];rfl)|false=>jo
 |k p=>exactλ|true=>.hd oH (Of _)|false=>.hd oH (Of _)
 |a x y hx hy=>exactλd=>(hx d).comb (hy d) λu j e f=>.hd oH (by rw[rV,e,f];cases d<;>rfl)|s x y hx hy=>exactλ
  |true=>(hx true).comb (hy true) λu j e f=>.hd oH (by rw[gO,e,f];rfl)|false=>(hx false).comb (hy false) λu j e f=>mm (s:=false) f e (λh=>by rw[gO,e,f];exact(Int.ofNat_sub (SP h)).symm) (λh=>by show(0:Zv)=((oL Nr NF).1-(y.ev Nr NF).1:U);rw[Nat.sub_eq_zero_of_le (SP h)];rfl)
 |m p y hy=>exactλd=>(hy d).map λq e=>by rw[oB,e];cases d<;>rfl|c x hx=>exactλ|true=>hx false|false=>jo
 |t x hx=>exactλ|true=>jo|false=>(hx true).two (Pz:=λO=>⟨0,[]⟩) (λh=>(Int.toNat_of_nonneg h).symm) λh O O=>Zq rt (Int.toNat_of_nonpos h).symm
 |b x hx=>exactλ|true=>jo|false=>(hx true).two (λh=>(Int.natAbs_of_nonneg h).symm) λh O e=>by rw[oB,e,va];exact(Int.ofNat_natAbs_of_nonpos h).symm
 |l x y hx hy=>exactλd=>(hx d).comb (hy d) λu j e f=>mm (s:=d) e f (λh=>OX (MH h)) (λh=>f.trans (MJ h))|h x y hx hy=>exactλd=>(hx d).comb (hy d) λu j e f=>mm (s:=d) e f (λh=>f.trans (MY h)) (λh=>OX (MP h))|g x hx=>exactλ|true=>(hx true).map λq e=>by rw[oB,e,va];rfl|false=>jo
theorem lK(h:∀u a:dS,u.ev Zav 0=V Nr NF x s->a.ev Zav 0=V Nr NF b s->∃c∈f u a,Zbi):∃c∈rel s x b f,Zbi:=let⟨c,_,m,s,_⟩:=(A3 x s).comb (Q:=λ(_:Unit)=>m3) (A3 b s) λu a e d=>Su (h u a e d) λc Yw=>Uc Yw λm k=>⟨c,(),Yx ⟨c,m,rfl⟩,k,trivial⟩
 ⟨c,Yx ⟨_,m,rfl⟩,s⟩
theorem rR(e:∃c∈f,Zbi)(hb:∃c∈i,Zbi):∃c∈prod f i,Zbi:=Su e λd Yw=>Uc Yw λm s=>let⟨b,g,a⟩:=hb;⟨d++b,Xf ⟨d,m,Yx ⟨b,g,rfl⟩⟩,λl hl=>(ZM hl).elim (s l) (a l)⟩
variable{PK:J (J dS)}
theorem BM(b:∃c∈PK,Zbi):∃c∈PK++d,Zbi:=Su b λa Yw=>Uc Yw λm s=>⟨a,Y2 _ m,s⟩
theorem BN(b:∃c∈d,Zbi):∃c∈PK++d,Zbi:=Su b λa Yw=>Uc Yw λm s=>⟨a,Y1 _ m,s⟩
abbrev Rd(s:YZ)(x y:T)(o:Zv->Zv->Prop)(a:U->U->Prop):Prop:=U0 s (o (oL Nr NF).2 (y.ev Nr NF).2) (a (oL Nr NF).1 (y.ev Nr NF).1)
theorem one(h:Zbi):∃c∈c::a,Zbi:=⟨c,.head _,h⟩
theorem HB:(F.le s x a).den Nr NF↔V Nr NF x s<=V Nr NF a s:=by cases s;exact Int.ofNat_le.symm;exact Iff.rfl
theorem v_lt:(F.lt s x a).den Nr NF↔V Nr NF x s<V Nr NF a s:=by cases s;exact Int.ofNat_lt.symm;exact Iff.rfl
theorem v_eq:(F.eq s x a).den Nr NF↔V Nr NF x s=V Nr NF a s:=by cases s;exact Int.ofNat_inj.symm;exact Iff.rfl
theorem FH(b:F):(b.den Nr NF->∃c∈b.KO true,Zbi)/\(¬b.den Nr NF->∃c∈b.KO false,Zbi):=by induction b with
 |le s x y=>exact⟨λh=>lK λu j e a=>⟨_,.head _,oS (by rw[gO,e,a];exact UP (HB.mp h))⟩,λh=>lK λu j e a=>⟨_,.head _,oS (by rw[xu,e,a];exact Int.not_le.mp λk=>h (HB.mpr k))⟩⟩|lt s x y=>exact⟨λh=>lK λu j e a=>⟨_,.head _,oS (by rw[xu,e,a];exact v_lt.mp h)⟩,λh=>lK λu j e a=>⟨_,.head _,oS (by rw[gO,e,a];exact UP (Int.not_lt.mp λk=>h (v_lt.mpr k)))⟩⟩|eq s x y=>exact⟨λh=>lK λu j e a=>⟨_,.head _,S3 ⟨by rw[gO,e,a,v_eq.mp h,Int.sub_self];exact OR 0,oS (by rw[gO,e,a,v_eq.mp h,Int.sub_self];exact OR 0)⟩⟩,λh=>lK λu j e a=>by
  rcases Int.lt_or_gt_of_ne λk=>h (v_eq.mpr k)with k|k;.exact⟨_,.tail _ (.head _),oS (by rw[xu,e,a];exact k)⟩
  .exact⟨_,.head _,oS (by rw[xu,e,a];exact k)⟩⟩|no b d=>exact⟨d.2,λh=>d.1 (Classical.not_not.mp h)⟩|an b g d hg=>exact⟨λh=>rR (d.1 h.1) (hg.1 h.2),λh=>(Wh (b.den Nr NF)).elim (λk=>BN (hg.2 λl=>h ⟨k,l⟩)) λk=>BM (d.2 k)⟩|o b g d hg=>exact⟨λh=>Xq (λk=>BM (d.1 k)) λk=>BN (hg.1 k),λh=>rR (d.2 λk=>h (.inl k)) (hg.2 λk=>h (.inr k))⟩|i b g d hg=>exact⟨λh=>(Wh (b.den Nr NF)).elim (λk=>BN (hg.1 (h k))) λk=>BM (d.2 k),λh=>rR (d.1 (G' λk=>h λl=>(k l).elim)) (hg.2 λk=>h λO=>k)⟩|f=>exact⟨False.elim,λO=>⟨_,.head _,oH⟩⟩
end Om
theorem CU(f:Om.F)(n:U)(h:Om.ok n f=true)(d:J U)(q:J Zv):f.den d q:=G' λk=>Su ((Om.FH f).2 k) λc Yw=>Uc Yw λm s=>Om.Gh n c 0 (Ot h c m) s
namespace Om
def T.Mq(d:T):YZ:=T.rec (motive:=λO=>YZ) (λO=>false) (λO=>true) (λO=>false) (λO O x y=>x||y) (λO O x y=>x||y) (λO O y=>y) (λO O=>true) (λO O=>false) (λO O=>false) (λO O x y=>x||y) (λO O x y=>x||y) (λO O=>true) d
abbrev St:=J U×J T×J F
def p2(f:T->T->T)(s:St):St:=(s.1,f (s.2.1.tail.headD (.k 0)) (s.2.1.headD (.k 0))::s.2.1.tail.tail,s.2.2)
def p1(f:T->T)(s:St):St:=(s.1,f (s.2.1.headD (.k 0))::s.2.1.tail,s.2.2)
def p0(t:T)(s:St):St:=(s.1,t::s.2.1,s.2.2)
def q2(f:YZ->T->T->F)(s:St):St:=(s.1,s.2.1.tail.tail,f ((s.2.1.tail.headD (.k 0)).Mq||(s.2.1.headD (.k 0)).Mq) (s.2.1.tail.headD (.k 0)) (s.2.1.headD (.k 0))::s.2.2)
def r2(a:F->F->F)(s:St):St:=(s.1,s.2.1,a (s.2.2.tail.headD .f) (s.2.2.headD .f)::s.2.2.tail.tail)
def tab:J (St->St):=[id,p0 (.n 0),p0 (.n 1),p0 (.n 2),p0 (.n 3),p0 (.n 4),p0 (.n 5),p0 (.n 6),p0 (.n 7),λd=>(d.1,d.2.1,.f::d.2.2),p0 (.z 0),p0 (.z 1),p0 (.z 2),p0 (.k 0),p0 (.k 1),λd=>(d.1.tail,.k (d.1.headD 0)::d.2.1,d.2.2),p2 .a,p2 .s,λd=>(d.1.tail,p1 (.m (d.1.headD 0)) d|>.2),p1 .c,p1 .t,p1 .b,p2 .l,p2 .h,p1 .g,q2 .le,q2 .lt,q2 .eq,λd=>(d.1,d.2.1,.no (d.2.2.headD .f)::d.2.2.tail),r2 .an,r2 .o,r2 .i]
def dec(n:U):U->St->F:=Og (motive:=λO=>U->St->F) (λO s=>s.2.2.headD .f) (λO r c s=>U0 (m2 c 0) (s.2.2.headD .f) (r (c/32) ((tab.getD (c%32) id) s))) n
def Nu(c:U)(i d:J U)(q:J Zv):Prop:=U0 (ok (2*Yc+2*q.length) (dec 64 c (i,[],[]))) ((dec 64 c (i,[],[])).den d q) m3
end Om
theorem II(c:U)(i d:J U)(q:J Zv):Om.Nu c i d q:=by
 unfold Om.Nu;generalize h:Om.ok _ _=b;exact b.casesOn (motive:=λb=>_=b->U0 b _ m3) (λO=>trivial) (λh=>CU _ _ h d q) h
theorem nu(c:U)(i d:J U)(q:J Zv)(e:Z3 (Om.Nu c i d q=a) aK):a:=e▸II c i d q
theorem O0:0<=a:=nu 0x642d [] [a] []
variable{j:U}
theorem O1:j<=j+b:=nu 0x1980821 [] [j,b] []
theorem O2:j<b->¬(j=b):=nu 0xff3620e841 [] [j,b] []
theorem O3:a<=10000->a<=16777216:=nu 0x7f2f0e5e1 [10000,16777216] [a] []
theorem O4:0+a=a:=nu 0x1b0c02d [] [a] []
theorem O5:j<b->b=c->j<c:=nu 0x7ffa1876316841 [] [j,b,c] []
theorem O6:j<b->c=b->j<c:=nu 0x7ffa187621e841 [] [j,b,c] []
theorem O7:a+1<=b->a<=b:=nu 0x1fc8839141c1 [] [a,b] []
theorem O8:a<=100000->a<=16777216:=nu 0x7f2f0e5e1 [100000,16777216] [a] []
theorem O9:j<=b->j<=b:=nu 0x7f220e441 [] [j,b] []
theorem EE:j<=b->b<=c->j<=c:=nu 0x7ff91872316441 [] [j,b,c] []
theorem E6:a+(b+1)=a+1+b:=nu 0x6e028383083841 [] [a,b] []
theorem JQ:j<b->b<=c->j<c:=nu 0x7ffa1872316841 [] [j,b,c] []
theorem EN:j<b->c<=j->c<b:=nu 0x7ffa10f211e841 [] [j,b,c] []
variable{p:U}
theorem Dt:(j:Zv)+(p:Zv)=((j+p:U):Zv):=nu 0x3738083098a61 [] [j,p] []
theorem FA:a<=a+1:=nu 0x1983821 [] [a] []
theorem Ke:a+b=c->a<c->b-1<b:=nu 0x7ffa145c2d0c3b1c041 [] [a,b,c] []
theorem KA:a+b=c->a<c->a+1+(b-1)=c:=nu 0x7ffb1c22e141c1d0c3b1c041 [] [a,b,c] []
theorem J7:j+b=c->¬(j<c)->j=c:=nu 0x3ffd8c3cd0c3b1c041 [] [j,b,c] []
theorem F0:a<=1000->a<=16777216:=nu 0x7f2f0e5e1 [1000,16777216] [a] []
theorem GP:a+(b+1)<=c->a<c:=nu 0x7f430e47083841 [] [a,b,c] []
theorem GO:a+(b+1)<=c->a+1+b<=c:=nu 0x7f2380a0e0e47083841 [] [a,b,c] []
theorem GK:a<b->a+1<=b:=nu 0x1fc8a0e0e841 [] [a,b] []
theorem GV:a+1-(b+1)=a-b:=nu 0x6e220c60e141c1 [] [a,b] []
theorem GL:¬(a=0)->0<a:=nu 0xfe82de6da1 [] [a] []
theorem GG:a<b->0<b-a:=nu 0x1fd44226e841 [] [a,b] []
theorem GB:a+(b+1)=c->a<c:=nu 0x7f430ec7083841 [] [a,b,c] []
theorem GN:j=b->j<=b:=nu 0x7f220ec41 [] [j,b] []
theorem JH:a+1<=b->a<b:=nu 0x1fd0839141c1 [] [a,b] []
theorem Hz:a<=b->a+1<=b+1:=nu 0x7f3070a0e0e441 [] [a,b] []
theorem Ig:j<b->j=b->LV:=nu 0x1ffa7620e841 [] [j,b] []
theorem HQ:a<b+1->¬(a=b)->a<b:=nu 0x3ffd083cd883a83841 [] [a,b] []
theorem HA:j<=b->j+(b-j)=b:=nu 0x7f62844220e441 [] [j,b] []
theorem Ic:0<a->a-1<a:=nu 0x1fd062e0e82d [] [a] []
theorem Jp:j<b->j<b+c:=nu 0x1fd40620e841 [] [j,b,c] []
theorem HX:a<=4->a<=1000:=nu 0x7f2f0e5e1 [4,1000] [a] []
theorem Hp:(j:Zv)<(p:Zv)->j<p:=nu 0x1fd083a98a61 [] [j,p] []
theorem IZ:a+(b+1)<=c->a-1<c:=nu 0x1fd0e2e0e47083841 [] [a,b,c] []
theorem HI:¬(j=b)->¬(b=j):=nu 0x1fe6c22e6c41 [] [j,b] []
theorem Js:a<0->LV:=nu 0x1f4e9a1 [] [a] []
theorem Jw:a<b->a<b+1:=nu 0x1fd41c20e841 [] [a,b] []
theorem Ku:a<a+1:=nu 0x1a83821 [] [a] []
theorem JF:j<b->(j:Zv)<(b:Zv):=nu 0x1fd4c530e841 [] [j,b] []
theorem Ju:j<b->b<=j->LV:=nu 0x1ffa72116841 [] [j,b] []
theorem Jt:a<b->b-1-a<b:=nu 0x7f428862e16841 [] [a,b] []
theorem JI:a<=1000->a<=10000:=nu 0x7f2f0e5e1 [1000,10000] [a] []
theorem JB:48<=10/\10<=a->LV:=nu 0x1f4f7217e5ef [48,10,10] [a] []
theorem Li:¬(0<0):=nu 0xe69ad [] [] []
theorem JM:a<=10000->a<=100000:=nu 0x7f2f0e5e1 [10000,100000] [a] []
theorem Jv:a<b->b<=c+1->a<=c:=nu 0x1ffe461cc1c316841 [] [a,b,c] []
theorem JL:a+(b+1)=c->a+1+b=c:=nu 0x7f6380a0e0ec7083841 [] [a,b,c] []
theorem JT:j<=b->min c j<=b:=nu 0x1fc8ac11e441 [] [j,b,c] []
theorem JA:1<=a->¬(a=a-1):=nu 0x3fcdc5c10e42e [] [a] []
theorem Lr:a%2<=1:=Nat.le_of_lt_succ (Nat.mod_lt a Z')
theorem JO:a<=700->a<=1000:=nu 0x7f2f0e5e1 [700,1000] [a] []
theorem Kw:a+1<b+1->a<b:=nu 0x7f420ea0e141c1 [] [a,b] []
theorem LX:a<b->c=d+b->c-1-(b-1-a)=d+a:=nu 0x7ffb804918862e145c3dc0441e841 [] [a,b,c,d] []
theorem LB:j<=b+c+(j-b-c):=nu 0x66111c44180c41 [] [j,b,c] []
theorem Lp:a<=100->a<=16777216:=nu 0x7f2f0e5e1 [100,16777216] [a] []
theorem Kx:a+b<=100000->b<=16777216:=nu 0x1fcbc597c041 [100000,16777216] [a,b] []
theorem J2:a+b<=100000->a<=16777216:=nu 0x1fcbc397c041 [100000,16777216] [a,b] []
theorem Lj:j+(b+c+d)<=a->j+b+c+d<=a:=nu 0x7f2581203808392c20480c41 [] [j,b,c,d,a] []
theorem LI:j<min b c->j<b:=nu 0x1fd083ab0c41 [] [j,b,c] []
theorem KZ:min j (b-c)<=b:=nu 0x645688c41 [] [j,b,c] []
theorem KH:a+0=b->c=b->c<=a:=nu 0x1ffe423d887b141a1 [] [a,b,c] []
theorem K9:j<b->b<=c->j<=c:=nu 0x7ff91872316841 [] [j,b,c] []
theorem K7:j+b<=c->d<=j->d<=c:=nu 0x1ffe464c84991c041 [] [j,b,c,d] []
variable{Ph:Zv}
theorem LQ:¬(Ph<b)->¬(Ph=b)->b<Ph:=nu 0x1ffe94be6d6ae696a [] [] [Ph,b]
theorem J4:a<b+1->c<a->a-1<b:=nu 0x7ffa145c1d047a83841 [] [a,b,c] []
theorem La:j<b->b<c->¬(j=c):=nu 0xfff9b1874316841 [] [j,b,c] []
variable{I:U}
theorem LG:(j:Zv)+(p:Zv)<(I:Zv)->j+p<I:=nu 0x3fa1c041d4c7098a61 [] [j,p,I] []
theorem Lf:a+b<=c->c<=d->f<a->a-1<d:=nu 0x7fffd122e0e825c90791c041 [] [a,b,c,d,f] []
theorem Kz:j<b->(b:Zv)-1=((b-1:U):Zv):=nu 0x1fdce2e145d316841 [] [j,b] []
theorem MT:¬(0<=Ph)->Ph<0:=nu 0xfe9aae654d [] [] [Ph]
theorem Kf:j<=16777216->¬(2^63<=(j:Zv)):=nu 0x1fe66617e5e1 [16777216,9223372036854775808] [j] []
theorem Ie:a=b-c->(c<b↔0<a):=λh=>h▸Nat.sub_pos_iff_lt.symm
theorem KD:j+b<=c->j<=c:=nu 0x1fc8c391c041 [] [j,b,c] []
theorem G8:a+b<c->a+(b+1)<=c:=nu 0x1fc8e107083a1c041 [] [a,b,c] []
theorem Hb:(j:Zv)-1=(p:Zv)->p+(c+1)=j+c:=nu 0x1fdc061841c316e628ba61 [] [j,p,c] []
theorem Lm:Ph<=b/\b<2^62->b<2^63:=nu 0x7f4f5f74f5e56a [4611686018427387904,9223372036854775808] [] [Ph,b]
theorem Ld:(-(2^62))<=a/\a<2^62->(-(2^63))<=a:=nu 0x1fcab0fee9eacab0f [4611686018427387904,4611686018427387904,9223372036854775808] [] [a]
theorem Lq:j+b+c+d<=l->f+r+q=f+c->k=b->j+k+q<=l:=CU (.i (.le false (.a (.a (.a (.n 0) (.n 1)) (.n 2)) (.n 3)) (.n 4)) (.i (.eq false (.a (.a (.n 5) (.n 6)) (.n 7)) (.a (.n 5) (.n 2))) (.i (.eq false (.n 8) (.n 1)) (.le false (.a (.a (.n 0) (.n 8)) (.n 7)) (.n 4))))) 17 Z_ [j,b,c,d,l,f,r,q,k] []
theorem LK:a<=6002->a*1001<=6008002:=λh=>Nat.mul_le_mul_right 1001 h
theorem Lw:200<=j/\j/100+1<b->200<=(j:Zv)/\(j:Zv)<100*((b:Zv)-1):=λh=>⟨Int.ofNat_le.mpr h.1,Int.mul_sub 100 (b:Zv) 1▸dx (Vc (Xu (Nat.add_lt_add_right (Nat.lt_mul_div_succ j Z') (100*1)) (Nat.mul_add 100 _ 1▸Nat.mul_le_mul_left 100 h.2)))⟩
theorem Ks:0<Ph->(Ph-1)/1112063<Ph:=λh=>oI (Int.ediv_le_self _ (UP h)) (Int.sub_lt_self Ph Z')
theorem KR:j+b<=c->d=j->d<=c:=nu 0x1ffe464d84991c041 [] [j,b,c,d] []
theorem Kj:a+b<=c->d=a->f=b->d+f<=c+1:=nu 0x1ffff3070e0526c45d84991c041 [] [a,b,c,d,f] []
theorem Km:j+b<=c->c<d+a->d=j->a=b->LV:=nu 0x1ffffe9d88bb09350290791c041 [] [j,b,c,d,a] []
theorem L7:a<=1000000->¬((2^63-1)/8<a):=λh=>Wg (YX h Z')
theorem LS:a+(b+1)=c->d=c->a<d:=nu 0x7ffa2076326c7083841 [] [a,b,c,d] []
theorem Ly:j+b=c->c<=d->min j a<=d:=nu 0x7ff9258a1c907b1c041 [] [j,b,c,d,a] []
theorem LC:a+b=c->c<=d->min a f+1<=d+1:=nu 0x7ff983890758a1c907b1c041 [] [a,b,c,d,f] []
theorem Lu:a+b<=c->a+1<=c+1:=nu 0x1fcc1c3838391c041 [] [a,b,c] []
theorem JU:a+2<=a+3:=nu 0x660f0c1e1 [2,3] [a] []
theorem JZ:¬(a<=b)->(b+a)/2<a:=λh=>Nat.div_lt_of_lt_mul (Nat.two_mul a▸Nat.add_lt_add_right (Nat.lt_of_not_le h) a)
theorem Lz:¬(a<=b)->b<=(b+a)/2:=λh=>(Nat.le_div_iff_mul_le Z').mpr (Nat.mul_two b▸Nat.add_le_add_left (Nat.le_of_not_le h) b)
theorem J1:(j:Zv)/2=((j/2:U):Zv):=rfl
theorem Kq:(j:Zv)%2=((j%2:U):Zv):=rfl
theorem L5:l<=1000->b<=1000->c+d<=l->u+f<=b->q<=2*r->r<=d+f->s<=1->s+q<=100000:=CU (.i (.le false (.n 0) (.k 1000)) (.i (.le false (.n 1) (.k 1000)) (.i (.le false (.a (.n 2) (.n 3)) (.n 0)) (.i (.le false (.a (.n 4) (.n 5)) (.n 1)) (.i (.le false (.n 6) (.m 2 (.n 7))) (.i (.le false (.n 7) (.a (.n 3) (.n 5))) (.i (.le false (.n 8) (.k 1)) (.le false (.a (.n 8) (.n 6)) (.k 100000))))))))) 17 Z_ [l,b,c,d,u,f,q,r,s] []
theorem Kl:j=b->b<=c->j<=c:=nu 0x7ff91872316c41 [] [j,b,c] []
theorem Kh:j<b-c->j+c<b:=nu 0x7f4280c3a88c41 [] [j,b,c] []
theorem KY:j+b<c->j<=c:=nu 0x1fc8c3a1c041 [] [j,b,c] []
theorem Kd:a+2<b->c<=a+1->c+1<=b:=nu 0x1ffe45070f307047a141e1 [2] [a,b,c] []
theorem Ln:j+b<=c/\p<=d->c<=f/\d<=q->l<b->j+l<f+k:=CU (.i (.an (.le false (.a (.n 0) (.n 1)) (.n 2)) (.le false (.n 3) (.n 4))) (.i (.an (.le false (.n 2) (.n 5)) (.le false (.n 4) (.n 6))) (.i (.lt false (.n 7) (.n 1)) (.lt false (.a (.n 0) (.n 7)) (.a (.n 5) (.n 8)))))) 17 Z_ [j,b,c,p,d,f,q,l,k] []
theorem KQ:j<b->p<=d/\c+b<=f->d<=q/\f<=l->c+j<l+k:=CU (.i (.lt false (.n 0) (.n 1)) (.i (.an (.le false (.n 2) (.n 3)) (.le false (.a (.n 4) (.n 1)) (.n 5))) (.i (.an (.le false (.n 3) (.n 6)) (.le false (.n 5) (.n 7))) (.lt false (.a (.n 4) (.n 0)) (.a (.n 7) (.n 8)))))) 17 Z_ [j,b,p,d,c,f,q,l,k] []
theorem LP:a=b+(200*c-b)->c<=1->¬(200*c<=b)->a=200:=λd h1 h2=>by
 have e:c=1:=gg h1 (oC λe=>h2 (e▸Zf b));subst e;exact d.trans (Oq (Nat.le_of_not_le h2))
theorem J8:¬(200<=200/\200/100+1<a)->a<=3:=λh=>C' λk=>h ⟨ZV _,k⟩
theorem Kt:a+1=b-c->a=b-(c+1):=nu 0x7f71838620ee23141c1 [] [a,b,c] []
theorem J6:0<=a+b/\a+b<b->(-b)<=a:=nu 0xfe5585f74b82d5982d4d [] [] [a,b]
theorem Lv:j=16777216->b<=j->¬(2^63<=(b:Zv)):=nu 0x1fff33313f2116de1 [16777216,9223372036854775808] [j,b] []
theorem Iv:a<i+1->a<=i:=nu 0x1fc883a83841 [] [a,i] []
theorem DR:j<=b->b+s<=a->j+(b-j)<=a:=nu 0x1ffe49088441c920316441 [] [j,b,s,a] []
namespace Om
abbrev dc(c:U)(i:J U):F:=dec 64 c (i,[],[])
def F.h(a:F):F:=F.rec (motive:=λO=>F) (λO O O=>.f) (λO O O=>.f) (λO O O=>.f) (λO O=>.f) (λO O O O=>.f) (λO O O O=>.f) (λa O O O=>a) .f a
def F.r(a:F):F:=F.rec (motive:=λO=>F) (λO O O=>.f) (λO O O=>.f) (λO O O=>.f) (λO O=>.f) (λO O O O=>.f) (λO O O O=>.f) (λO g O O=>g) .f a
def z5(i:J U)(c:U):YZ:=ok 40 (dec 64 c (i,[],[]))
theorem F.mp(a:F):a.den d q->a.h.den d q->a.r.den d q:=F.rec (motive:=λa=>a.den d q->a.h.den d q->a.r.den d q) (λO O O O x=>Vn) (λO O O O x=>Vn) (λO O O O x=>Vn) (λO O O x=>Vn) (λO O O O O x=>Vn) (λO O O O O x=>Vn) (λO O O O h x=>h x) (λO x=>Vn) a
end Om
section
open Om
variable(c:U)(i d:J U)(q:J Zv)
theorem fA(k:Z3 (let b:=z5 i c;b=true) aY):(dc c i).den d q:=CU _ _ k d q
theorem a9(a:(dc c i).h.den d q)(k:Z3 (let b:=z5 i c;b=true) aY):(dc c i).r.den d q:=F.mp _ (fA c i d q k) a
theorem cD(a:(dc c i).h.den d q)(h1:(dc c i).r.h.den d q)(k:Z3 (let b:=z5 i c;b=true) aY):(dc c i).r.r.den d q:=F.mp _ (a9 c i d q a k) h1
theorem rU(a:(dc c i).h.den d q)(h1:(dc c i).r.h.den d q)(h2:(dc c i).r.r.h.den d q)(k:Z3 (let b:=z5 i c;b=true) aY):(dc c i).r.r.r.den d q:=F.mp _ (cD c i d q a h1 k) h2
theorem pk(a:(dc c i).h.den d q)(h1:(dc c i).r.h.den d q)(h2:(dc c i).r.r.h.den d q)(e:(dc c i).r.r.r.h.den d q)(k:Z3 (let b:=z5 i c;b=true) aY):(dc c i).r.r.r.r.den d q:=F.mp _ (rU c i d q a h1 h2 k) e
theorem E9(a:(dc c i).h.den d q)(h1:(dc c i).r.h.den d q)(h2:(dc c i).r.r.h.den d q)(e:(dc c i).r.r.r.h.den d q)(f:(dc c i).r.r.r.r.h.den d q)(k:Z3 (let b:=z5 i c;b=true) aY):(dc c i).r.r.r.r.r.den d q:=F.mp _ (pk c i d q a h1 h2 e k) f
end
theorem cY(c:U)(d:J U)(k:Z3 (let b:=Om.z5 [] c;b=true) aY):(Sf c []).den d []:=fA c [] d [] k
theorem aV(c:U)(d:J U)(a:(Sf c []).h.den d [])(k:Z3 (let b:=Om.z5 [] c;b=true) aY):(Sf c []).r.den d []:=a9 c [] d [] a k
theorem bx(c:U)(d:J U)(a:(Sf c []).h.den d [])(h1:(Sf c []).r.h.den d [])(k:Z3 (let b:=Om.z5 [] c;b=true) aY):(Sf c []).r.r.den d []:=cD c [] d [] a h1 k
theorem fX(c:U)(d:J U)(a:(Sf c []).h.den d [])(h1:(Sf c []).r.h.den d [])(h2:(Sf c []).r.r.h.den d [])(k:Z3 (let b:=Om.z5 [] c;b=true) aY):(Sf c []).r.r.r.den d []:=rU c [] d [] a h1 h2 k
theorem FV(c:U)(d:J U)(a:(Sf c []).h.den d [])(h1:(Sf c []).r.h.den d [])(h2:(Sf c []).r.r.h.den d [])(e:(Sf c []).r.r.r.h.den d [])(k:Z3 (let b:=Om.z5 [] c;b=true) aY):(Sf c []).r.r.r.r.den d []:=pk c [] d [] a h1 h2 e k
theorem LH(c:U)(d:J U)(a:(Sf c []).h.den d [])(h1:(Sf c []).r.h.den d [])(h2:(Sf c []).r.r.h.den d [])(e:(Sf c []).r.r.r.h.den d [])(f:(Sf c []).r.r.r.r.h.den d [])(k:Z3 (let b:=Om.z5 [] c;b=true) aY):(Sf c []).r.r.r.r.r.den d []:=E9 c [] d [] a h1 h2 e f k
theorem Eo:PySem.Challenge.rw_mt0003_01.wellSaid=true:=by
 refine(VJ Fast.te9446332074065402090 _).trans ?_;delta Fast.tw9446332074065402090 Fast.tw17960256430627541270 Fast.tw2436336058641802641 Fast.tw12908688711261696721;repeat'(with_reducible refine look_both ?_ ?_)
 all_goals decide+kernel
local macro_rules (kind:=Lean.Parser.Tactic.rwSeq)|s=>Mc.sOut (Mc.rwF s)
local macro_rules (kind:=Lean.Parser.Tactic.obtain)|s=>Mc.sOut (Mc.obF s)
local macro_rules (kind:=Lean.Parser.Tactic.cases)|s=>Mc.sOut (Mc.caF s)
local macro_rules (kind:=Lean.Parser.Tactic.generalize)|s=>Mc.sOut (Mc.geF s)
local macro_rules (kind:=Lean.Parser.Tactic.show)|s=>Mc.sOut (Mc.shF s)
local macro_rules (kind:=Lean.Parser.Tactic.subst)|s=>Mc.sOut (Mc.suF s)
local macro_rules (kind:=Lean.Parser.Tactic.rcases)|s=>Mc.sOut (Mc.rcF s)
local macro_rules (kind:=PyProof.Rows.tacticWalk_at_)|s=>Mc.sOut (Mc.waF s)
local macro_rules (kind:=Lean.Parser.Tactic.tacticHave__)|s=>Mc.sOut (Mc.haF s)
local macro_rules (kind:=Lean.Parser.Tactic.decide)|s=>Mc.sOut (Mc.deF s)
theorem jP{α:Type _}{Q:α->Prop}:∀x∈([]:J α),Q x:=λ_ h=>(YL h).elim
theorem cq{α:Type _}{Q:α->Prop}{a:α}{l:J α}(h:Q a)(t:∀x∈l,Q x):∀x∈a::l,Q x:=λx m=>(ZI m).elim (λe=>e▸h) (t x)
set_option genCtorIdx false in inductive MV where|raw(a:ZP)|int(i:Zv)|str(s:Z)|seq(c:ZP)(l:J MV)
def MV.ctorIdx(x:MV):U:=x.casesOn (λO=>0) (λO=>1) (λO=>2) λO O=>3
abbrev MV.tup(l:ZaY):MV:=.seq Zac l
abbrev MV.lst(l:ZaY):MV:=.seq Zad l
abbrev MV.none:MV:=.raw .none
abbrev MV.bool(b:YZ):MV:=.raw (.bool b)
abbrev MV.ref(a:Y9):MV:=.raw Zaj
abbrev aT:=Y9->OB->Prop
def bG(b Q:aT):Prop:=∀a o,b a o->Q a o
theorem bG.refl(a:aT):bG a a:=λO O e=>e
theorem bG.trans(a:bG c d)(b:bG d R):bG c R:=λx o e=>b x o (a x o e)
def cI(c:aT)(a:Y9)(ob:OB):aT:=λb o=>c b o\/(b=a/\o=ob)
theorem Tu:bG b (cI b a ob):=λO O e=>.inl e
abbrev M5:ZP->U->Zs Y9|.ref _,n=>some n|_,_=>none
abbrev MM:ZP->U->U|.ref _,_=>0|_,n=>n
abbrev X8(c:ZP)(a:Ua ZP)(n:U):OB:={T':=c,dt:=M5 c n,Xg:=.seq a (MM c n)}
mutual def aw(d:aT):MV->ZP->Prop|.raw f,b=>b=f|.int i,b=>∃t,b=.int i t|.str x,b=>∃t,b=.str x t|.seq c m,b=>∃a e n,b=Zaj/\d a (X8 c e n)/\ao d m e.toList def ao(b:aT):ZaY->J ZP->Prop|[],a=>a=[]|m::e,a=>∃c d,a=c::d/\aw b m c/\ao b e d end
theorem ao.vT(r:ao b [] a):a=[]:=r
theorem ao.c5(r:ao a (d::f) i):∃b c,i=b::c/\aw a d b/\ao a f c:=r
variable{NJ:Zc4->Prop}
theorem ao.jX(r:ao b [] a)(k:NJ []):NJ a:=by rw[r.vT];exact k
theorem ao.cU(r:ao f (i::l) n)(k:∀c d,aw f i c->ao f l d->NJ (c::d)):NJ n:=by
 obtain⟨c,d,YA,a,b⟩:=r.c5;rw[YA];exact k c d a b
theorem ao.nil:ao a [] []:=(rfl:([]:Zc4)=[])
theorem ao.cons(r:aw a d b)(q:ao a f c):ao a (d::f) (b::c):=(⟨b,c,rfl,r,q⟩:∃e us,b::c=e::us/\aw a d e/\ao a f us)
theorem ao.one(r:aw a b c):ao a [b] [c]:=.cons r .nil
variable{y:aT}
theorem ao.u(r:ao y [b] c):∃a,c=[a]/\aw y b a:=r.elim λa q=>Vm λus q=>⟨a,q.1.trans (Zq (a::.) q.2.2),q.2.1⟩
theorem ao.length:∀{a:Zc4},ao y c a->ZC=Yv:=by induction c with|Yl=>exactλr=>r.jX (NJ:=λa=>ZC=0) rfl|Zp m c i=>exactλr=>dn (NJ:=λa=>ZC=Yv+1) λd a O b=>Zq (.+1) (i b)
theorem ao.append(r:ao y d c)(e:ao y f k):ao y (d++f) (c++k):=by
 revert c;induction d with|Yl=>exactλr=>r.jX (NJ:=λc=>ao y f (c++k)) e|Zp m d i=>exactλr=>dn (NJ:=λc=>ao y (m::(d++f)) (c++k)) λg c a b=>.cons a (i b)
theorem ao.get:∀{d:Zc4}(i:U),ao y f d->f[i]?=ZaB->∃c,d[i]?=Zan/\aw y a c:=by induction f with|Yl=>exactλi O e=>nomatch e|Zp a f g=>exactλi r=>dn (NJ:=λd=>(a::f)[i]?=some _->∃c,d[i]?=Zan/\aw y _ c) λc d j b=>Ss i (λe=>⟨c,rfl,ZW e▸j⟩) λi e=>g i b e
theorem ao.drop:∀{c:Zc4}(i:U),ao y d c->ao y (d.drop i) (c.drop i):=by induction d with|Yl=>exactλi r=>r.jX (NJ:=λc=>ao y (List.drop i []) (c.drop i)) (by rw[List.drop_nil,List.drop_nil];exact .nil)|Zp m d e=>exactλi r=>dn (NJ:=λc=>ao y ((m::d).drop i) (c.drop i)) λf c a b=>Ss i (.cons a b) λi=>e i b
theorem ao.take:∀{c:Zc4}(i:U),ao y d c->ao y (S5 i) (c.take i):=by induction d with|Yl=>exactλi r=>r.jX (NJ:=λc=>ao y (List.take i []) (c.take i)) (by rw[List.take_nil,List.take_nil];exact .nil)|Zp m d e=>exactλi r=>dn (NJ:=λc=>ao y ((m::d).take i) (c.take i)) λf c a b=>Ss i .nil λi=>.cons a (e i b)
theorem ao.set(i:U)(r:ao y d c)(q:aw y k f):ao y (d.set i k) (c.set i f):=by
 revert c i;induction d with|Yl=>exactλi r=>r.jX (NJ:=λc=>ao y [] (c.set i f)) .nil|Zp m d e=>exactλi r=>dn (NJ:=λc=>ao y ((m::d).set i k) (c.set i f)) λg c a b=>Ss i (.cons q b) λi=>.cons a (e i b)
theorem ao.reverse:∀{c:Zc4},ao y d c->ao y d.reverse c.reverse:=by induction d with|Yl=>exactλr=>r.jX (NJ:=λc=>ao y [] c.reverse) .nil|Zp m d i=>exactλr=>dn (NJ:=λc=>ao y (m::d).reverse c.reverse) λe c a b=>by rw[m1,m1];exact(i b).append (.one a)
theorem ao.snoc(r:ao y a b)(q:aw y c d):ao y (a++[c]) (b++[d]):=r.append (.one q)
theorem y1(k:∀a c f n,q a ZcY->l a ZcY):∀mv d,aw q mv d->aw l mv d:=λmv=>MV.rec (motive_1:=λmv=>∀d,aw q mv d->aw l mv d) (motive_2:=λmv=>∀d,ao q mv d->ao l mv d) (λO O r=>r) (λO O r=>r) (λO O r=>r) (λc m i d r=>ex3 ((show∃a f n,d=Zaj/\q a ZcY/\ao q m f.toList from r)) λa f n Yw=>and3 Yw λe g rl=>(⟨a,f,n,e,k a c f n g,i _ rl⟩:∃a f n,d=Zaj/\l a ZcY/\ao l m f.toList)) (λd r=>r) (λj m o p d r=>dn (NJ:=ao l (j::m)) λu us a b=>.cons (o _ a) (p _ b)) mv
theorem ao.sub(k:∀a c e n,f a (X8 c e n)->l a (X8 c e n))(mv:ZaY):∀d,ao f mv d->ao l mv d:=by induction mv with|Yl=>exactλd r=>r|Zp m g i=>exactλd r=>dn λj us a b=>.cons (y1 k _ _ a) (i _ b)
theorem aw.mono(k:bG f i)(r:aw f b d):aw i b d:=y1 (λa c e n=>k a _) b d r
theorem ao.mono(k:bG f i)(r:ao f d b):ao i d b:=ao.sub (λa c b n=>k a _) d b r
abbrev YV:=J (Z×MV)
def aJ(x:Z)(a:MV)(l:YV):YV:=tf (motive:=λO=>YV) [(x,a)] (λp r k=>if p.1=x then(x,a)::r else p::k) l
theorem aB(l:YV)(x:Z)(a:MV)(y:Z):(aJ x a l).lookup y=if y=x then some a else Wq y:=by
  have hd:∀{z:Z}{u:MV}{r:YV},List.lookup y ((z,u)::r)=if y=z then some u else r.lookup y:=λ{z u r}=>by
    rw[Ut];by_cases h:y=z;.rw[ZT h,di h]
    .rw[ZY h,Yu h]
  induction l with
  |Yl=>exact hd|Zp p r i=>
    obtain⟨z,u⟩:=p;show List.lookup y (if z=x then(x,a)::r else(z,u)::aJ x a r)=_;rw[hd];by_cases b:z=x
    . rw[ZT b,hd,b];by_cases hy:y=x;.rw[ZT hy,ZT hy]
      .rw[ZY hy,ZY hy,ZY hy]
    . rw[ZY b,hd,i];by_cases hy:y=z;.rw[ZT hy,ZY λe=>b (hy.symm.trans e),ZT hy]
      .rw[ZY hy,ZY hy]
def ly(o:OB):Prop:=(∃c a n,o=X8 c a n)\/(o.cls=ZaM/\∃a,OA=.fields a)
theorem kS(b:a.cls≠.type "code")(hd:∀c n,a.data≠.seq c n):¬ly a:=λq=>Vm (λd=>ex3 d λO O O e=>hd _ _ (Zq Obj.data e)) λe=>b e.1
theorem Fi(hd:∀a n,c.data≠.seq a n)(d:∀a,c.data≠.fields a):¬ly c:=λq=>Vm (λb=>ex3 b λO O O e=>hd _ _ (Zq Obj.data e)) λb=>by obtain⟨_,a,e⟩:=b;exact d a e
def lV(b Q:aT):Prop:=∀a o,ly o->b a o->Q a o
theorem bG.s(h:bG b c):lV b c:=λa o O=>h a o
theorem lV.refl(a:aT):lV a a:=λO O O e=>e
theorem lV.trans(h:lV b c)(k:lV c R):lV b R:=λa o s e=>k a o s (h a o s e)
theorem lV.q(k:lV d f):∀a c b n,d a (X8 c b n)->f a (X8 c b n):=λa c b n=>k a _ (.inl ⟨c,b,n,rfl⟩)
theorem aw.ik(k:lV c d)(r:aw c a b):aw d a b:=y1 k.q a b r
theorem ao.ik(k:lV c d)(r:ao c a b):ao d a b:=ao.sub k.q a b r
set_option genCtorIdx false in inductive MO where|list(l:J MV)|own(Q:OB->Prop)|ns(l:YV)|gen(g:U)(st:U_)
def MO.ctorIdx(x:MO):U:=x.casesOn (λO=>0) (λO=>1) (λO=>2) λO O=>3
def cQ(b:aT)(h:C_)(a:Y9):MO->Prop|.list e=>∃c n,Vl a=some (X8 (.type "list") c n)/\ao b e mx|.own Q=>∃o,Vl a=Zag/\Q o|.ns l=>∃m,h.Ns1 a m/\(∀x,Wq x=none->m x=none)/\∀x mv,Wq x=ZaS->∃d,m x=ZaC/\aw b mv d|.gen g _=>h.IsGen a g
theorem cQ.obj(x:cQ c h a b):∃o,Vl a=Zag:=by
 walk_at"b";cases b with
 |list=>obtain⟨_,_,g,_⟩:=x;exact⟨_,g⟩|own=>obtain⟨_,g,_⟩:=x;exact⟨_,g⟩|ns=>obtain⟨_,⟨b,_,_,g,_⟩,_⟩:=x;exact⟨b,g⟩|gen=>obtain⟨b,_,_,g,_⟩:=x;exact⟨b,g⟩
theorem cQ.lt(x:cQ b h a c):a<h.objs.size:=Su x.obj λO e=>XR e
theorem cQ.sub(x:cQ i h a b)(k:∀a c f n,i a ZcY->r a ZcY)(e:l.get? a=Vl a):cQ r l a b:=by cases b with|list=>obtain⟨f,n,g,d⟩:=x;exact(Vo f n ⟨OX g,ao.sub k _ _ d⟩)|own=>obtain⟨b,g,p⟩:=x;exact⟨b,OX g,p⟩|ns=>obtain⟨m,n,q,d⟩:=x;exact⟨m,n.at λb g=>OX g,q,λy mv hy=>Su (d y mv hy) λj Yw=>Uc Yw λe z=>⟨j,e,y1 k _ _ z⟩⟩|gen=>obtain⟨b,nm,o,g,d⟩:=x;exact(exI3 b nm o ⟨OX g,d⟩)
theorem cQ.mono(x:cQ b h a d)(k:bG b r)(e:td a=Vl a):cQ r f a d:=x.sub (λa c g n=>k a _) e
abbrev GH:=Y9->Zs MO
def Y7(G:GH)(c:Y9)(a:MO):GH:=λb=>if b=c then some a else G b
def G_(G:GH)(a:Y9):GH:=λb=>if b=a then none else G b
theorem aa(G:GH)(a:Y9)(o:MO):Y7 G a o a=Zag:=by simp[Y7]
variable{E:GH}
theorem ag{o:MO}(h:b≠a):Y7 E a o b=E b:=by simp[Y7,h]
variable{N5:Y9->MO->Prop}
@[elab_as_elim]theorem x7(e:Y7 E a d c=Zar)(h:N5 a d)(k:c≠a->E c=Zar->N5 c b):N5 c b:=by
 by_cases q:c=a;.rw[q,aa]at e;rw[q,<-ZW e];exact h
 .exact k q ((ag q).symm.trans e)
@[elab_as_elim]theorem eN(e:Y7 E a d c=Zar)(h:N5 a d)(k:E c=Zar->N5 c b):N5 c b:=x7 e h λ_=>k
variable{w:GH}
theorem DV(h:c≠a->E c=w c):Y7 E a b c=Y7 w a b c:=by
 unfold Y7;split;.rfl
 .exact h ‹_›
theorem f'(h:E a=Zan)(k:E b=none):a≠b:=λe=>by rw[<-e,h]at k;cases k
theorem CQ(h:E a=none)(k:E b=Zan):a≠b:=(f' k h).symm
theorem dO(G:GH)(a:Y9):G_ G a a=none:=by simp[G_]
theorem bZ(G:GH)(h:b≠a):G_ G a b=G b:=by simp[G_,h]
theorem ck(e:G_ c a b=ZaC):b≠a/\c b=ZaC:=by
 by_cases h:b=a;.subst h;rw[dO]at e;cases e
 .rw[bZ c h]at e;exact⟨h,e⟩
theorem mB(G:GH)(a:Y9)(o:MO)(h:G a=none):G_ (Y7 G a o) a=G:=by
 funext b;by_cases q:b=a;.rw[q];rw[dO,h]
 .rw[bZ _ q,ag q]
theorem aP(G:GH)(a:Y9)(c o:MO):Y7 (Y7 G a c) a o=Y7 G a o:=by
 funext b;by_cases q:b=a;.rw[q];rw[aa,aa]
 .rw[ag q,ag q,ag q]
structure Cx where
 w:Tt
 B:C_
 os:VV
 pr:VU
 T:Y9
structure dT(G:GH)(gens:Ua U_):Prop where
 bare:AllBare gens
 vy:∀a g st,G a=some (.gen g st)->gens[g]?=some st
 uniq:∀a b g st s,G a=some (.gen g st)->G b=some (.gen g s)->a=b
theorem dT.sub(x:dT c gens)(h:∀a o,i a=Zag->c a=Zag):dT i gens:=⟨x.bare,λa g st e=>x.vy a g st (h _ _ e),λa b g st s e d=>x.uniq a b g st s (h _ _ e) (h _ _ d)⟩
theorem dT.push(x:dT i gens)(c:Code):dT (Y7 i a (.gen gens.size (.fresh c))) (gens.push (.fresh c)):=by
  have k:∀b g st,Mine.upd i a (.gen gens.size (.fresh c)) b=some (.gen g st)->b=a/\g=gens.size/\st=.fresh c\/i b=some (.gen g st)/\g≠gens.size:=λb g st e=>by
    by_cases hb:b=a;.rw[hb,aa]at e;cases e;exact .inl ⟨hb,rfl,rfl⟩
    .have e:=(ag hb).symm.trans e;exact .inr ⟨e,Y' (OQ (x.vy b g st e)).1⟩
  refine⟨x.bare.push rfl,λb g st e=>(k b g st e).elim (λh=>?_) λh=>?_,λb d g st s e j=>(k b g st e).elim (λh=>(k d g s j).elim (λf=>h.1.trans f.1.symm) λf=>(f.2 h.2.1).elim) λh=>(k d g s j).elim (λf=>(h.2 f.2.1).elim) λf=>x.uniq b d g st s h.1 f.1⟩;.rw[h.2.1,h.2.2];exact Array.getElem?_push_size ..
  .exact(Array.getElem?_push.trans (ZY h.2)).trans (x.vy b g st h.1)
def MO.kd:MO->U|.list _=>0|.own _=>1|.ns _=>2|.gen ..=>3
theorem dT.upd(x:dT d gens)(h:(a.kd==3)=false):dT (Y7 d f a) gens:=by
 have k:∀b g st,Mine.upd d f a b=some (.gen g st)->d b=some (.gen g st):=λb g st e=>by
  by_cases hb:b=f;.subst hb;rw[aa]at e;exact Za (m' (Zq (λa:MO=>a.kd==3) (ZW e))) Yp
  .rw[ag hb]at e;exact e
 exact⟨x.bare,λb g st e=>x.vy b g st (k _ _ _ e),λb c g st s e i=>x.uniq b c g st s (k _ _ _ e) (k _ _ _ i)⟩
abbrev Cx.M(X:Cx):Model:=T_ Wj Sh
structure oK(X:Cx)(a:aT)(h:C_):Prop where
 k:OldK X.B h
 b:∃o,YF tx=some o
 p:∀o,¬a tx o
 t:∃ps,Vl tx=some {T':=.none,Xg:=.fields ps}/\TriplesOk ij/\∀Ym d,C2 Ym ij=ZaC->∃c o e,d=Zb1/\a c o/\o.cls=ZaM/\OA=.fields e
theorem oK.mono(x:oK d f h)(le:lV f r)(hp:∀o,r d.T o->f d.T o):oK d r h:=⟨x.k,x.b,λo e=>x.p o (hp o e),Su x.t λps Yw=>and3 Yw λa i c=>⟨ps,a,i,λYm j e=>ex3 (c Ym j e) λc o g Yw=>and4 Yw λq q2 q3 q4=>⟨c,o,g,q,le c o (.inr ⟨q3,g,q4⟩) q2,q3,q4⟩⟩⟩
theorem oK.at(x:oK c f h)(g:OldK c.B d)(e:∀o,Vl c.T=Zag->d.get? c.T=Zag):oK c f d:=⟨g,x.b,x.p,Su x.t λps Yw=>Uc Yw λa r=>⟨ps,e _ a,r⟩⟩
theorem oK.ne(x:oK c i h)(d:c.B.get? a=none):c.T≠a:=by intro f;subst f;obtain⟨o,e⟩:=x.b;rw[d]at e;cases e
theorem oK.add(x:oK c d h)(f:c.B.get? a=none):oK c (cI d a ob) h:=x.mono cI.le.s λo e=>VB id λq=>Za q.1 (x.ne f)
structure aA(X:Cx)(c:aT)(G:GH)(s:Zb):Prop where
 old:oK X c Ts
 oz:∀b o,YF b=Zag->b≠tx->Xe b=some o
 aG:∀a o,c a o->Xe a=some o
 objs:∀a o,G a=Zag->cQ c Ts a o
 cO:∀a o,c a o->G a=none
 low:∀a o,G a=Zag->YF a=none
 os:s.os=X.os
 gens:dT G s.gens
variable{NG:C_}
theorem w5(c:rr a=none)(hb:rr b=Zbe):b≠a:=by intro d;subst d;rw[c]at hb;cases hb
theorem xP(x:asItWas a h b c)(mv:∀o,Vl b=Zag->td b=Zag):asItWas a f b c:=by
 refine x.imp (mv _) (Or.imp (λy=>⟨y.1,y.2.1,y.2.2.imp λe=>VA λSH=>And.imp id (mv _)⟩) λy=>⟨y.1,y.2.1,y.2.2.1.imp λo=>VA λd=>VA λn=>And.imp (mv _) id,λy2=>?_⟩);refine y.2.2.1.elim λo q=>Vm λd q=>Vm λn q=>?_;rw[OldK.staticOf_congr (y.1▸((mv _ q.1).trans q.1.symm)) y2];exact y.2.2.2 y2
variable{Pm:Y9->Prop}
theorem OldK.kW(K:OldK d h)(g:∀a,Pm a->d.get? a=none)(hx:∀b o,¬Pm b->Vl b=Zag->td b=Zag):OldK d f:=by
 have mv:∀b o,d.get? b=Zag->∀{c},Vl b=Zan->td b=Zan:=λb o e O=>hx b _ λw=>nomatch(g b w).symm.trans e;refine⟨λb o e=>?_,λb o e=>Su (K.there b o e) λc i=>⟨c,mv b o e i⟩⟩;exact xP (K.old b o e) λO=>mv b o e
theorem oK.kW(x:oK d i h)(f:∀a,Pm a->d.B.get? a=none)(hx:∀c o,¬Pm c->Vl c=Zag->l.get? c=Zag):oK d i l:=x.at (OldK.kW x.k f hx) λo e=>hx _ o (λw=>x.ne (f _ w) rfl) e
theorem oK.same(x:oK c d h)(f:c.B.get? a=none)(hs:Xp a h i):oK c d i:=x.kW (Pm:=(.=a)) (λO e=>e▸f) λg o hb e=>(hs.2 g hb).trans e
theorem oK.keeps(x:oK d f h)(a:∀c o,Vl c=Zag->i.get? c=Zag):oK d f i:=x.at (x.k.step_keeps a) λo e=>a _ o e
variable{X:Cx}{G:Zb}{z:Y9}
theorem aA.hM(S:Zah)(h:ZZ<=z):YF z=none:=by cases e:YF z with|none=>rfl|some o=>obtain⟨b,a⟩:=S.old.k.there z o e;exact Za (XR a) (Wg h)
theorem aA.fresh(S:Zah)(h:ZZ<=z):E z=none:=by cases e:E z with|none=>rfl|some o=>exact Za (UG z o e).lt (Wg h)
variable{Nc:Zb}
theorem aA.keep(S:Zah)(k:∀a o,ZG a=Zag->Nc.heap.get? a=Zag)(c:Z3 (Nc.os=G.os) aR)(hg:Z3 (dT E G.gens->dT E Nc.gens) aX):aA X y E Nc:=⟨S.old.keeps k,λb o e t=>k b o (Tr b o e t),λa o e=>k a o (C1 a o e),λa o e=>by
  have x:=UG a o e;obtain⟨d,g⟩:=x.obj;exact x.mono ZbK ((k a d g).trans g.symm),df,K_,c.trans S.os,hg S.gens⟩
theorem aA.push(S:Zah)(o:OB):aA X y E {G with X_:=Zj o}:=Q1 (λO O e=>ZA o e)
theorem aA.toks(S:Zah)(n:U):aA X y E {G with Wf:=n}:=Q1 (λO O e=>e)
theorem aA.pin(S:Zah)(c:ZG a=some ob)(ga:E a=none)(la:YF a=none):aA X (cI y a ob) E G:=⟨S.old.add la,Tr,λb o e=>VB (C1 b o) λq=>by rw[q.1,q.2];exact c,λb o e=>(UG b o e).mono Tu rfl,λb o e=>VB (df b o) λq=>by rw[q.1,q.2];exact ga,K_,S.os,S.gens⟩
theorem aA.freeze(S:Zah)(d:ZG a=some ob)(go:E a=Zan):aA X (cI y a ob) (G_ E a) G:=⟨S.old.add (K_ a c ‹_›),Tr,λb c e=>VB (C1 b c) λq=>by rw[q.1,q.2];exact d,λb c e=>(UG b c (ck e).2).mono Tu rfl,λb c e=>(by
      clear d go;rcases e with e|⟨rfl,rfl⟩
      . by_cases h:b=a;.subst h;exact dO ..
        .rw[bZ _ h];exact df b c e
      .exact dO ..),λb c e=>K_ b c (ck e).2,S.os,S.gens.sub λb c e=>(ck e).2⟩
theorem aA.kW(S:Zah)(w:∀a,Pm a->E a=none/\(∀o,¬y a o)/\YF a=none)(hx:∀b o,¬Pm b->ZG b=Zag->c.get? b=Zag):aA X y E {G with X_:=c,Wf:=n}:=⟨S.old.kW (λa e=>(w a e).2.2) hx,λb o e t=>hx b o (λq=>nomatch(w b q).2.2.symm.trans e) (Tr b o e t),λb o hb=>hx b o (λq=>(w b q).2.1 o hb) (C1 b o hb),λb o e=>Su ((UG b o e).obj) λd g=>(UG b o e).mono ZbK ((hx b d (λq=>nomatch(w b q).1.symm.trans e) g).trans g.symm),df,K_,S.os,S.gens⟩
theorem aA.other(S:Zah)(ga:E a=none)(p:∀o,¬y a o)(la:YF a=none)(hs:Xp a YK c):aA X y E {G with X_:=c,Wf:=n}:=S.kW (Pm:=(.=a)) (λO e=>e▸⟨ga,p,la⟩) λb o hb e=>(hs.2 b hb).trans e
theorem aA.set(S:Zah)(d:E c=Zbe)(hs:Xp c YK i)(x:cQ y i c a)(g:Z3 ((a.kd==3)=false) aR):aA X y (Y7 E c a) {G with X_:=i,Wf:=n}:=by
 walk_at"2";have ne:∀b ob,y b ob->b≠c:=λb ob hb e=>by have:=df b ob hb;rw[e,d]at this;cases this
 refine⟨S.old.same (K_ c f d) hs,λb a e t=>(hs.2 b (w5 (K_ c f d) e)).trans (Tr b a e t),λb ob hb=>(hs.2 b (ne b ob hb)).trans (C1 b ob hb),λb ob e=>?_,λb ob hb=>?_,λb ob e=>?_,S.os,S.gens.upd g⟩;.exact x7 (N5:=λb f=>cQ y i b f) e x λhb e=>(UG b ob e).mono ZbK (hs.2 b hb)
 .rw[ag (ne b ob hb)];exact df b ob hb
 .exact eN (N5:=λb O=>YF b=none) e (K_ _ _ d) (K_ b ob)
theorem aA.Iu(S:Zah)(x:cQ y (Zj ob) ZZ a)(g:dT (Y7 E ZZ a) c):aA X y (Y7 E ZZ a) {G with X_:=Zj ob,gens:=c,Wf:=n}:=by
 have Q:=ih ob;refine⟨Q.old,Q.base,Q.aG,λb o e=>?_,λb o hb=>?_,λb o e=>?_,Q.os,g⟩;.exact eN (N5:=λb a=>cQ y (Zj ob) b a) e x (Q.objs b o)
 .exact(ag (Y' (XR (C1 b o hb)))).trans (df b o hb)
 .exact eN (N5:=λb O=>YF b=none) e (S.hM (ZV _)) (K_ b o)
theorem aA.new(S:Zah)(x:cQ y (Zj ob) ZZ a)(b:Z3 ((a.kd==3)=false) aR):aA X y (Y7 E ZZ a) {G with X_:=Zj ob}:=S.Iu x (S.gens.upd b)
theorem aA.newGen(S:Zah)(c:Code):aA X y (Y7 E ZZ (.gen hz (.fresh c))) {G with gens:=G.gens.push (.fresh c),Wf:=a,X_:=Zj {T':=.type "generator",Xg:=.fields #[.int hz 0,.str nm t1,.str q t2]}}:=S.Iu ⟨_,_,_,ZL _ rfl,rfl,rfl,rfl⟩ (S.gens.push c)
theorem aA.drop(S:Zah)(hg:∀a o,w a=Zag->E a=Zag):aA X y w G:=⟨S.old,Tr,C1,λa o e=>UG a o (hg a o e),λa o e=>(by
  have d:=df a o e;cases q:w a with|none=>rfl|some b=>rw[hg a b q]at d;exact Za d (by simp)),λa o e=>K_ a o (hg a o e),S.os,S.gens.sub hg⟩
def N'(l b:YV):Prop:=∀x a,Wq x=ZaB->b.lookup x=some a
theorem Tq(l:YV):N' l l:=λO O e=>e
structure CR(X:Cx)(b:aT)(G:GH)(Zn:S2)(l:YV)(h:C_):Prop where
 fn:env.scope.kind=.function
 gl:env.globals=W2
 bi:env.builtins=We
 loc:∃m,h.Ns VQ m/\∀x mv,Wq x=ZaS->YJ x=some .local->∃a,m x=ZaB/\aw b mv a
 yf:∀x c,Xz x=Zan->∃a,h.IsCell c a/\∀mv,Wq x=ZaS->YJ x≠some .local->∃u,a=some u/\aw b mv u
 knd:∀x mv,Wq x=ZaS->YJ x=some .local\/((YJ x=Zbm\/YJ x=some .free)/\∃c,Xz x=Zan)
 lG:G VQ=none/\(∀o,¬b VQ o)/\YF VQ=none
 cG:∀x c,Xz x=Zan->G c=none/\YF c=none/\(VQ<c->∀o,¬b c o)
 inj:∀x y c,Xz x=Zan->Xz y=Zan->x=y
structure ak(X:Cx)(a:aT)(Zn:S2)(l:YV)(G:GH)(s:Zb):Prop where
 g:aA X a G s
 f:CR X a G Zn l Ts
variable{A:S2}{o:YV}
theorem CR.keep{f:C_}(F:CR X y E A o NG)(k:∀a,rr Yo=ZaB->td Yo=ZaB)(i:∀x c a,Wd x=Zan->rr c=ZaB->td c=ZaB)(gl:w Yo=none)(gc:∀x c,Wd x=Zan->w c=none):CR X y w A o f:=by
  refine⟨F.fn,F.gl,F.bi,?_,λx c b=>?_,F.knd,⟨gl,F.lG.2⟩,λx c b=>⟨gc x c b,(F.cG x c b).2⟩,F.inj⟩;.obtain⟨m,⟨a,d,e,g,r⟩,hm⟩:=F.loc;exact⟨m,(Vo a d ⟨e,k a g,r⟩),hm⟩
  .obtain⟨j,⟨a,g,hd⟩,hm⟩:=F.yf x c b;exact⟨j,⟨a,i x c a b g,hd⟩,hm⟩
variable{N:aT}
theorem CR.more(F:CR X y E A o NG)(k:Zbq)(i:∀f,¬N Yo f)(j:∀x c,Wd x=Zan->Yo<c->∀f,¬N c f):CR X N E A o NG:=by
  refine⟨F.fn,F.gl,F.bi,?_,λx c d=>?_,F.knd,⟨F.lG.1,i,F.lG.2.2⟩,λx c d=>⟨(F.cG x c d).1,(F.cG x c d).2.1,j x c d⟩,F.inj⟩;.obtain⟨m,n,hm⟩:=F.loc;exact⟨m,n,λx mv a b=>Su (hm x mv a b) λg Yw=>Uc Yw λe q=>⟨g,e,q.mono k⟩⟩
  .obtain⟨g,n,hm⟩:=F.yf x c d;exact⟨g,n,λmv a b=>Su (hm mv a b) λu Yw=>Uc Yw λe q=>⟨u,e,q.mono k⟩⟩
theorem ak.keep(S:Zab)(k:∀a b,ZG a=Zar->Nc.heap.get? a=Zar)(d:Z3 (Nc.os=G.os) aR)(hg:Z3 (dT E G.gens->dT E Nc.gens) aX):ak X y A o E Nc:=⟨S.g.keep k d hg,K5 (λb e=>k _ b e) (λO c b O e=>k c b e) S.f.lG.1 λx c i=>(W7 x c i).1⟩
theorem ak.push(S:Zab)(a:OB):ak X y A o E {G with X_:=Zj a}:=Q1 (λO O e=>ZA a e)
theorem ak.toks(S:Zab)(n:U):ak X y A o E {G with Wf:=n}:=Q1 (λO O e=>e)
theorem ak.lT(S:Zab):Yo<ZZ:=by obtain⟨m,n,_⟩:=G7;exact n.lt
theorem ak.kP(S:Zab)(a:Wd x=Zan):c<ZZ:=by obtain⟨m,n,_⟩:=tb x c a;exact n.lt
theorem ak.new(S:Zab)(x:cQ y (Zj ob) ZZ a)(d:Z3 ((a.kd==3)=false) aR):ak X y A o (Y7 E ZZ a) {G with X_:=Zj ob}:=⟨S.g.new x d,K5 (λa e=>ZA _ e) (λO c a O e=>ZA _ e) (by rw[ag (Y' S.lT)];exact S.f.lG.1) λx c b=>by rw[ag (Y' (S.kP b))];exact(W7 x c b).1⟩
theorem ak.Bg(S:Zab)(ob:OB)(d:Z3 (ob.isFreed=false) aR):ak X (cI y ZZ ob) A o E {G with X_:=Zj ob}:=by
  have Q:=ih ob;walk_at"3";refine⟨Q.g.pin (ZL _ d) (Us (ZV _)) (S.g.hM (ZV _)),Q.f.more Tu (λa e=>?_) λx c b i a e=>?_⟩
  . refine VB (λe=>?_) λYA=>?_;.exact S.f.lG.2.1 a e
    .obtain⟨q,_⟩:=YA;exact Za q (Y' S.lT)
  . refine VB (λe=>?_) λYA=>?_;.exact(W7 x c b).2.2 i a e
    .obtain⟨q,_⟩:=YA;exact Za q (Y' (S.kP b))
theorem ak.freeze(S:Zab)(i:ZG a=some ob)(ga:E a=ZaC):ak X (cI y a ob) A o (G_ E a) G:=by
  have nl:Yo≠a:=λe=>by have:=S.f.lG.1;rw[e,ga]at this;cases this
  have nc:∀x c,Wd x=Zan->c≠a:=λx c b e=>by have:=(W7 x c b).1;rw[e,ga]at this;cases this
  refine⟨S.g.freeze i ga,(S.f.more Tu (λd e=>?_) λx c b j d e=>?_).keep (λO e=>e) (λO O O O e=>e) (by rw[bZ _ nl];exact S.f.lG.1) λx c b=>by rw[bZ _ (nc x c b)];exact(W7 x c b).1⟩
  . refine VB (λe=>?_) λYA=>?_;.exact S.f.lG.2.1 d e
    .obtain⟨q,_⟩:=YA;exact nl q
  . refine VB (λe=>?_) λYA=>?_;.exact(W7 x c b).2.2 j d e
    .obtain⟨q,_⟩:=YA;exact nc x c b q
theorem ak.set(S:Zab)(i:E d=some k)(hs:Xp d YK NG)(x:cQ y NG d a)(j:Z3 ((a.kd==3)=false) aR):ak X y A o (Y7 E d a) {G with X_:=NG,Wf:=n}:=by
 have nl:Yo≠d:=λe=>by have:=S.f.lG.1;rw[e,i]at this;cases this
 have nc:∀x c,Wd x=Zan->c≠d:=λx c b e=>by have:=(W7 x c b).1;rw[e,i]at this;cases this
 exact⟨S.g.set i hs x j,K5 (λk e=>(hs.2 _ nl).trans e) (λx c k b e=>(hs.2 _ (nc x c b)).trans e) (by rw[ag nl];exact S.f.lG.1) λx c b=>by rw[ag (nc x c b)];exact(W7 x c b).1⟩
theorem ak.drop(S:Zab)(hg:∀a b,w a=Zar->E a=Zar):ak X y A o w G:=have z:∀a,E a=none->w a=none:=λa e=>by cases q:w a with
  |none=>rfl|some b=>rw[hg a b q]at e;cases e
 ⟨S.g.drop hg,K5 (λO e=>e) (λO O O O e=>e) (z _ S.f.lG.1) λx c d=>z _ (W7 x c d).1⟩
variable{NK:YV}
theorem ak.eF(S:Zab)(hl:∀x mv,N_ x=ZaS->∃m,Yb x=Zcd/\∀d,aw y m d->aw y mv d):ak X y A NK E G:=⟨i2,⟨Q0,Gs,ta,Su G7 λk Yw=>Uc Yw λn q=>⟨k,n,λx mv a b=>Su (hl x mv a) λm Yw=>Uc Yw λe r=>Su (q x m e b) λd Yw=>Uc Yw λi j=>⟨d,i,r d j⟩⟩,λx c l=>Su (tb x c l) λd Yw=>Uc Yw λn q=>⟨d,n,λmv a b=>Su (hl x mv a) λm Yw=>Uc Yw λe r=>Su (q m e b) λu Yw=>Uc Yw λi j=>⟨u,i,r u j⟩⟩,λx mv a=>Su (hl x mv a) λm Yw=>Uc Yw λe O=>y0 x m e,S.f.lG,W7,yx⟩⟩
theorem ak.forget(S:Zab)(hl:∀x a,N_ x=ZaB->Yb x=ZaB):ak X y A NK E G:=S.eF λx mv e=>⟨mv,hl x mv e,λO r=>r⟩
theorem ak.jk(S:Zab)(ga:E a=Zbf):∃N,Zbq/\aw N (.lst c) Zaj/\ak X N A o (G_ E a) G:=by
 walk_at"b";obtain⟨b,n,d,r⟩:=Wc a _ ga;refine⟨cI y a Zau,Tu,?_,S.freeze d ga⟩;exact⟨a,b,n,rfl,.inr ⟨rfl,rfl⟩,Tp Tu⟩
set_option genCtorIdx false in inductive Gp where|next|brk|cont|fj(m:MV)
def Out.ctorIdx(x:Gp):U:=x.casesOn 0 1 2 λO=>3
def F4(b:aT):Gp->Flow->Prop|.next,f=>f=.next|.brk,f=>f=.brk|.cont,f=>f=.cont|.ret m,f=>∃a,f=.ret a/\aw b m a
section
variable(u:Cx)(V:X5)(Zn:S2)
inductive PV(b:aT)(l:YV)(K:MV->GH->Prop)(c:ZP)(a:Zb):Prop where|mk(r:aT)(mv:MV)(i:GH)(d:bG b r)(e:aw r mv c)(S:ak u r Zn l i a)(k:K mv i)
inductive PB(c:aT)(l:YV)(K:YZ->GH->Prop)(b:YZ)(a:Zb):Prop where|mk(r:aT)(i:GH)(d:bG c r)(S:ak u r Zn l i a)(k:K b i)
inductive PL(b:aT)(l:YV)(K:ZaY->GH->Prop)(c:Zc4)(a:Zb):Prop where|mk(r:aT)(m:ZaY)(i:GH)(d:bG b r)(e:ao r m c)(S:ak u r Zn l i a)(k:K m i)
inductive PU(b:aT)(K:YV->GH->Prop)(d:Unit)(a:Zb):Prop where|mk(r:aT)(c:YV)(i:GH)(e:bG b r)(S:ak u r Zn c i a)(k:K c i)
inductive PF(b:aT)(K:Gp->YV->GH->Prop)(f:Flow)(a:Zb):Prop where|mk(r:aT)(o:Gp)(c:YV)(i:GH)(d:bG b r)(e:F4 r o f)(S:ak u r Zn c i a)(k:K o c i)
abbrev bz:ZP->Zb->Prop:=λO O=>LV
def EV(t:p_ ZP)(l:YV)(G:GH)(K:MV->GH->Prop):Prop:=∀a s,Zc1->ZU u.M V t (PV u Zn a l K) bz s
def EB(t:p_ YZ)(l:YV)(G:GH)(K:YZ->GH->Prop):Prop:=∀a s,Zc1->ZU u.M V t (PB u Zn a l K) bz s
def EL(t:p_ Zc4)(l:YV)(G:GH)(K:ZaY->GH->Prop):Prop:=∀a s,Zc1->ZU u.M V t (PL u Zn a l K) bz s
def EF(t:p_ Flow)(l:YV)(G:GH)(K:Gp->YV->GH->Prop):Prop:=∀a s,Zc1->ZU u.M V t (PF u Zn a K) bz s
end
section
variable{u:Cx}{V:X5}{Zn:S2}{P r:aT}{l c:YV}{F i:GH}{s a:Zb}
variable{g:MV->GH->Prop}
theorem PV.le(k:bG P r)(h:PV u Zn r l g f s):PV u Zn P l g f s:=by obtain⟨Q,mv,i,e,b,j,d⟩:=h;exact⟨Q,mv,i,ru e,b,j,d⟩
variable{Nj:YZ->GH->Prop}
theorem PB.le(k:bG P r)(h:PB u Zn r l Nj d s):PB u Zn P l Nj d s:=by obtain⟨Q,i,e,b,f⟩:=h;exact⟨Q,i,ru e,b,f⟩
variable{B:Gp->YV->GH->Prop}
theorem PF.le(k:bG P r)(h:PF u Zn r B f s):PF u Zn P B f s:=by obtain⟨Q,o,c,i,e,b,g,d⟩:=h;exact⟨Q,o,c,i,ru e,b,g,d⟩
theorem EV.mono(h:EV u V Zn f l F g)(k:∀m F,g m F->n m F):EV u V Zn f l F n:=λP s S=>ZS ZcP (λO O e=>by obtain⟨Q,mv,i,j,b,o,d⟩:=e;exact⟨Q,mv,i,j,b,o,k _ _ d⟩) λO O x=>x
theorem EB.mono(h:EB u V Zn b l F Nj)(k:∀m F,Nj m F->f m F):EB u V Zn b l F f:=λP s S=>ZS ZcP (λO O e=>by obtain⟨Q,i,g,j,d⟩:=e;exact⟨Q,i,g,j,k _ _ d⟩) λO O x=>x
theorem EF.mono(h:EF u V Zn f l F B)(k:∀o l F,B o l F->n o l F):EF u V Zn f l F n:=λP s S=>ZS ZcP (λO O e=>by obtain⟨Q,o,c,i,g,b,j,d⟩:=e;exact⟨Q,o,c,i,g,b,j,k _ _ _ d⟩) λO O x=>x
theorem UW(S:Zas)(b:aw P mv d)(k:g mv F):PV u Zn P l g d {s with Wf:=n}:=⟨P,mv,F,.refl P,b,Gf n,k⟩
theorem Se(S:Zas)(b:aw P mv d)(k:g mv F):PV u Zn P l g d s:=⟨P,mv,F,.refl P,b,S,k⟩
theorem a0(P:aT)(b:Zv)(t:nj):aw P ZcN (.int b t):=⟨t,rfl⟩
theorem bp(P:aT)(x:Z)(t:nj):aw P (.str x) (.str x t):=⟨t,rfl⟩
theorem aE(P:aT)(b:ZP):aw P (.raw b) b:=(rfl:b=b)
theorem EV.use(h:EV u V Zn f l F g)(S:Zas)(k:∀r a e mv i,bG P r->aw r mv e->ak u r Zn l i a->g mv i->b e a):ZU u.M V f b bz s:=ZS ZcP (λe a j=>by obtain⟨r,mv,i,m,n,o,d⟩:=j;exact k r a e mv i m n o d) λO O x=>x
theorem EB.use(h:EB u V Zn f l F Nj)(S:Zas)(k:∀r a e i,bG P r->ak u r Zn l i a->Nj e i->b e a):ZU u.M V f b bz s:=ZS ZcP (λe a g=>by obtain⟨r,i,j,m,d⟩:=g;exact k r a e i j m d) λO O x=>x
theorem EF.use(h:EF u V Zn n l F B)(S:Zas)(k:∀r a f o c i,bG P r->F4 r o f->ak u r Zn c i a->B o c i->b f a):ZU u.M V n b bz s:=ZS ZcP (λf a e=>by obtain⟨r,o,c,i,g,j,m,d⟩:=e;exact k r a f o c i g j m d) λO O x=>x
theorem ak.load(S:Zas)(hx:Wq x=ZaS)(h:∀b,aw P mv b->q b s)(hn:(x=="__classdict__")=false):ZU u.M V (loadName Zn x) q bz s:=by
  refine(y0 x mv hx).elim (λk=>?_) λYA=>?_;.obtain⟨m,n,hm⟩:=G7;obtain⟨b,e,d⟩:=hm x mv hx k;exact wpAny_loadName_local Q0 k n e (h b d)
  . obtain⟨k,p,j⟩:=YA;obtain⟨b,n,hm⟩:=tb x p j;obtain⟨o,rfl,d⟩:=hm mv hx (by rcases k with k|k<;>rw[k]<;>simp);rcases k with k|k;.exact wpAny_loadName_cell Q0 k j n (h o d)
    .exact wpAny_loadName_free Q0 k j n (h o d) hn
theorem Z4(hx:Wq x=ZaS)(k:g mv F)(hn:Z3 ((x=="__classdict__")=false) aD)(hd:Z3 ((x=="__debug__")=false) aD):ZbF:=λO O S=>da (S.load hx (λO b=>.same S b k) hn) hd
theorem X2(h:g ZcN F):EV u V Zn (ZH (.Constant (.int b) k Ym) Zn) l F g:=λO s S=>wpAny_Constant_int (UW S (a0 _ b Ur) h)
theorem Wb(h:g (.str x) F):EV u V Zn (ZH (.Constant (.str x) k Ym) Zn) l F g:=λO s S=>λO O O=>(UW (n:=Ur+1) S (bp _ x Ur) h)
theorem K4(h:g .none F):EV u V Zn (ZH (.Constant .none k Ym) Zn) l F g:=λO s S=>λO O O=>(Se S (aE _ .none) h)
theorem EV.BB(h:g (.bool b) F):EV u V Zn (ZH (.Constant (.bool b) k Ym) Zn) l F g:=λO s S=>λO O O=>(Se S (aE _ (.bool b)) h)
theorem ak.store(S:Zas)(z:aw P mv T)(j:YJ x=some .local)(h:∀a,Zcy->PM () a):ZU u.M V (storeName Zn x T) PM bz s:=by
  obtain⟨N,n,hm⟩:=G7;refine wpAny_storeName_local j n (λQ hn hs=>h _ ?_) ?_
  . refine⟨S.g.other S.f.lG.1 S.f.lG.2.1 S.f.lG.2.2 hs,⟨Q0,Gs,ta,⟨_,hn,λy m hy k=>?_⟩,λy p B=>?_,λy m hy=>?_,S.f.lG,W7,yx⟩⟩
    . rw[aB]at hy;walk_at"b";by_cases b:y=x;.subst b;rw[ZT rfl]at hy;cases hy;exact⟨T,by rw[ZT rfl],z⟩
      .rw[ZY b]at hy;obtain⟨o,e,q⟩:=hm y m hy k;exact⟨o,by rw[ZY b];exact e,q⟩
    . obtain⟨o,t,C⟩:=tb y p B;have D:p≠VQ:=by
        intro e;obtain⟨PN,w,hd⟩:=t;obtain⟨PR,d,PS,E,I,_⟩:=n;rw[e,E]at w;cases w;rw[I]at hd;cases hd
      refine⟨o,t.sameBut hs D,λm hy k=>?_⟩;walk_at"b";rw[aB]at hy;clear h hn;by_cases b:y=x;.subst b;exact Za j k
      .rw[ZY b]at hy;exact C m hy k
    . rw[aB]at hy;walk_at"n";by_cases b:y=x;.subst b;exact .inl j
      .rw[ZY b]at hy;exact y0 y m hy
  .rw[Q0];rfl
theorem ak.Fy(S:Zas)(E:aw P mv T)(o:YJ x=Zbm)(j:Xz x=some q)(w:VQ<q)(h:∀a,Zcy->PM () a):ZU u.M V (storeName Zn x T) PM bz s:=by
  obtain⟨PW,p,_⟩:=tb x q j;obtain⟨I,n,hm⟩:=G7;have z:VQ≠q:=by
    intro e;obtain⟨PX,N,hd⟩:=p;obtain⟨PY,d,PZ,B,Q,_⟩:=n;rw[e,N]at B;cases B;rw[Q]at hd;cases hd
  obtain⟨C,D,g3⟩:=W7 x q j;refine wpAny_storeName_cell Q0 o j p (λP0 hn hs=>h _ ?_);walk_at"4";refine⟨S.g.other C (g3 w) D hs,⟨Q0,Gs,ta,⟨I,n.sameBut hs z,λy m hy k=>?_⟩,λy t hb=>?_,λy m hy=>?_,S.f.lG,W7,yx⟩⟩
  . rw[aB]at hy;by_cases b:y=x;.subst b;rw[o]at k;cases k
    .rw[ZY b]at hy;exact hm y m hy k
  . by_cases b:y=x;.subst b;rw[j]at hb;rw[<-ZW hb];refine⟨some T,hn,λm hy O=>?_⟩;rw[aB,ZT rfl]at hy;rw[<-ZW hy];exact⟨T,rfl,E⟩
    . obtain⟨PN,PR,PS⟩:=tb y t hb;clear w p z C D g3 hn;have:t≠q:=by intro PT;subst PT;exact b (yx y x t hb j)
      walk_at"b";refine⟨PN,PR.sameBut hs this,λm hy k=>?_⟩;rw[aB,ZY b]at hy;exact PS m hy k
  . rw[aB]at hy;walk_at"N";by_cases b:y=x;.subst b;exact .inr ⟨.inl o,q,j⟩
    .rw[ZY b]at hy;exact y0 y m hy
def aM(Zn:S2)(x:Z):Prop:=YJ x=some .local\/(YJ x=Zbm/\∃b,Xz x=Zar/\VQ<b)
theorem ak.st(S:Zas)(d:aw P mv k)(b:aM Zn x)(h:∀a,Zcy->n () a):ZU u.M V (storeName Zn x k) n bz s:=by
  refine b.elim (λb=>?_) λYA=>?_;.exact S.store d b h
  .obtain⟨b,m,e,j⟩:=YA;exact S.Fy d b e j h
abbrev iU(u:Cx)(V:X5)(Zn:S2)(XG:J Wa)(K:Gp->YV->GH->Prop):Gp->YV->GH->Prop:=λo l F=>match o with|.next=>EF u V Zn (Yk XG Zn) l F K|o=>K o l F
abbrev JW(K:Gp->YV->GH->Prop)(x:Z)(l:YV):MV->GH->Prop:=λmv F=>K .next (aJ x mv l) F
abbrev Ky(K:Gp->YV->GH->Prop)(l:YV):MV->GH->Prop:=λmv F=>K (.ret mv) l F
abbrev rF(K:MV->GH->Prop):Gp->YV->GH->Prop:=λo O F=>match o with|.ret m=>K m F|_=>K .none F
abbrev J3(u:Cx)(V:X5)(Zn:S2)(W8 orelse:J Wa)(l:YV)(K:Gp->YV->GH->Prop):YZ->GH->Prop:=λb F=>(b=true->EF u V Zn ZbQ l F K)/\(b=false->EF u V Zn (Yk orelse Zn) l F K)
inductive LO(d:YV->GH->Prop)(l:YV)(F:GH):Prop where|mk(b:YV)(j:d b F)(s:N' b l)
inductive MZ(I:U->YV->GH->Prop)(n:U)(l:YV)(F:GH):Prop where|mk(m:U)(b:YV)(lt:m<n)(d:I m b F)(s:N' b l)
abbrev Ex(b:YV->GH->Prop)(K:Gp->YV->GH->Prop):Gp->YV->GH->Prop:=λo l F=>match o with|.next|.cont=>LO b l F|.brk=>K .next l F|.ret d=>K (.ret d) l F
abbrev GY(b:YV->GH->Prop):Gp->YV->GH->Prop:=λo l F=>match o with|.next|.cont=>LO b l F|_=>LV
abbrev Lo(I:U->YV->GH->Prop)(n:U)(K:Gp->YV->GH->Prop):Gp->YV->GH->Prop:=λo l F=>match o with|.next|.cont=>MZ I n l F|.brk=>K .next l F|.ret b=>K (.ret b) l F
abbrev ML(K:Gp->YV->GH->Prop):YV->GH->Prop:=λl F=>K .next l F
theorem YW(h:B .next l F):EF u V Zn (Yk [] Zn) l F B:=λP O S=>u' ⟨P,.next,l,F,.refl P,rfl,S,h⟩
theorem ZJ{st:Wa}{K:Gp->YV->GH->Prop}(h:EF u V Zn (TM st Zn) l F (iU u V Zn XG K)):EF u V Zn (Yk (st::XG) Zn) l F K:=λP s S=>wpAny_execs_cons (W1 S λr a f o c i e b g d=>by cases o with|next=>cases b;exact ZS (d r a g) (λO O x=>x.le e) λO O x=>x|brk=>cases b;exact⟨r,.brk,c,i,e,rfl,g,d⟩|cont=>cases b;exact⟨r,.cont,c,i,e,rfl,g,d⟩|fj m=>obtain⟨j,rfl,k⟩:=b;exact⟨r,.ret m,c,i,e,⟨j,rfl,k⟩,g,d⟩)
theorem Zk{K:Gp->YV->GH->Prop}(h:EV u V Zn (ZH f Zn) l F (JW K x l))(e:aM Zn x)(hs:Z3 (N0 f (some (.Name x k)) K3 Zn=Yh false) aR):EF u V Zn (TM (.Assign [.Name x k] f Ym) Zn) l F K:=λP s S=>wpAny_Assign_Name (W1 S λr a n mv i g b j d=>j.st b e λo m=>⟨r,.next,_,i,g,rfl,m,d⟩) hs
theorem XF(h:EB u V Zn (XE f_ Zn (ZH f_ Zn)) l F (J3 u V Zn W8 orelse l B)):EF u V Zn (TM (.If f_ W8 orelse Ym) Zn) l F B:=λP s S=>wpAny_If (W1 S λr a b i e f d=>by cases b with|true=>exact ZS (d.1 rfl r a f) (λO O x=>x.le e) λO O x=>x|false=>exact ZS (d.2 rfl r a f) (λO O x=>x.le e) λO O x=>x)
theorem QO(h:EV u V Zn (ZH f Zn) l F (Ky B l)):EF u V Zn (TM (.Return (some f) Ym) Zn) l F B:=λP s S=>wpAny_Return_some (W1 S λr a e mv i g b j d=>⟨r,.ret mv,l,i,g,⟨e,rfl,b⟩,j,d⟩)
theorem EF.brk(h:B .brk l F):EF u V Zn (TM (.Break Ym) Zn) l F B:=λP s S=>λO O O=>⟨P,.brk,l,F,.refl P,rfl,S,h⟩
theorem EF.cont(h:B .cont l F):EF u V Zn (TM (.Continue Ym) Zn) l F B:=λP s S=>λO O O=>⟨P,.cont,l,F,.refl P,rfl,S,h⟩
theorem EF.eF(h:EF u V Zn f c i B)(hl:∀x b,Sd x=Zar->Wq x=Zar)(hg:∀d o,i d=Zag->F d=Zag):EF u V Zn f l F B:=λP s S=>h P s ((S.forget hl).drop hg)
theorem EF.rg(I:U->YV->GH->Prop)(n:U)(z:I n M F)(C:N' M l)(Ux:∀n l F,I n l F->EB u V Zn (XE f_ Zn (ZH f_ Zn)) l F λb i=>(b=true->EF u V Zn ZbQ l i (Lo I n B))/\(b=false->B .next l i)):EF u V Zn (TM (.While f_ W8 [] Ym) Zn) l F B:=λP s D=>by
 walk_at"a";refine wpAny_While ?_;walk_at"k";refine codeAny_whileLoop (λn a=>∃r c i,bG P r/\ak u r Zn c i a/\I n c i) ?_ n (exI3 P (M) F ⟨.refl P,D.forget C,z⟩);intro n a E;obtain⟨P4,d,N,Q,T,PM⟩:=E;walk_at"c";refine ZS ((Ux n d N PM).use (b:=λb p=>∃r i,bG P r/\ak u r Zn d i p/\(b=true->EF u V Zn ZbQ d i (Lo I n B))/\(b=false->B .next d i)) T λr a b i PN PR PS=>(Vo r i ⟨Q.trans PN,PR,PS⟩)) (λb p h=>?_) λO O x=>Vn;obtain⟨t,PT,e,w,PW,PX⟩:=h;cases b with
 |false=>exact u' ⟨t,.next,d,PT,e,rfl,w,PX rfl⟩|true=>
  refine ZS (PW rfl t p w) (λP5 P6 h=>?_) λO O x=>Vn;obtain⟨f,PY,y,g,j,o,S,k⟩:=h;cases PY with
  |next=>cases o;obtain⟨m,d,hm,q,hs⟩:=k;exact⟨m,hm,f,d,g,OX j,S.forget hs,q⟩|brk=>cases o;exact⟨f,.next,y,g,OX j,rfl,S,k⟩|cont=>cases o;obtain⟨m,d,hm,q,hs⟩:=k;exact⟨m,hm,f,d,g,OX j,S.forget hs,q⟩|fj PZ=>obtain⟨P0,rfl,P2⟩:=o;exact⟨f,.ret PZ,y,g,OX j,⟨P0,rfl,P2⟩,S,k⟩
end
structure V1(X:Cx)where
 mg:Z->Zs ZP
 mb:Z->Zs ZP
 hg:X.B.Ns W2 mg
 hb:X.B.Ns We mb
 lim:X.B.NoLimit
 ng:W2≠tx
 nb:We≠tx
 nc:cStatics≠tx
section
variable{u:Cx}{V:X5}{Zn:S2}{P r:aT}{l c:YV}{F i:GH}{s a:Zb}
theorem Ns.of_get{f:C_}(n:NG.Ns b q)(k:∀o,rr b=Zag->td b=Zag):f.Ns b q:=ex3 n λo d e Yw=>Uc Yw λg j=>⟨o,d,e,k _ g,j⟩
theorem aA.ns(S:aA u P F s)(n:u.B.Ns b d)(f:b≠u.T):s.heap.Ns b d:=Ns.of_get n λo e=>Tr b o e f
theorem aA.lim(S:aA u P F s)(b:V1 u):s.heap.NoLimit:=Su b.lim λm Yw=>Uc Yw λn q=>⟨m,S.ns n b.nc,q⟩
theorem ET(b:env.scope.kind=.function)(d:YJ x=Zaa):loadName Zn x=loadGlobal Zn x:=by unfold loadName Env.blockKind;rw[b,d];rfl
variable{g:MV->GH->Prop}
theorem mw(b:V1 u)(e:YJ x=Zaa)(hv:VY x=ZaC)(k:g (.raw d) F)(hd:Z3 ((x=="__debug__")=false) aD):ZbF:=λP s S=>by
 refine da ?_ hd;rw[ET Q0 e];unfold loadGlobal;rw[Gs];refine Z7 (wpAny_nsGet (S.g.ns b.hg b.ng) ?_);rw[hv];exact Z5 (Se S (aE P d) k)
theorem p9(b:V1 u)(e:YJ x=Zaa)(hn:VY x=none)(hv:U9 x=ZaC)(k:g (.raw d) F)(hd:Z3 ((x=="__debug__")=false) aD):ZbF:=λP s S=>by
 refine da ?_ hd;rw[ET Q0 e];unfold loadGlobal;walk_at"a";rw[Gs,ta];refine Z7 (wpAny_nsGet (S.g.ns b.hg b.ng) ?_);rw[hn];refine Z7 (wpAny_nsGet (S.g.ns b.hb b.nb) ?_);rw[hv];exact Z5 (Se S (aE P d) k)
abbrev gK(Zn:S2)(e:Wx)(d:J Wx):Prop:=Zr (e::d) Zn=(false,ZH e Zn)::Zr d Zn
abbrev nO(Zn:S2)(d:J Wx):Prop:=∀Ym,(UE Ym (Zr d Zn)).any (·.1)=false
abbrev eP(Zn:S2)(o:Wx)(name:Z)(b:ix)(d:J Wx)(Ym:ix)(p:p_ YZ):Prop:=ZH (.Call (.Attribute o name b) d [] Ym) Zn=(do
 let e<-ZH o Zn
 VT b.atName let(f,first)<-T8 [e] (NO e name p)
 OP Ym f first (UE Ym (Zr d Zn)) [])
def EA(u:Cx)(V:X5)(Zn:S2)(d:J Wx)(l:YV)(F:GH)(K:ZaY->GH->Prop):Prop:=∀Ym,EL u V Zn (spliced (UE Ym (Zr d Zn))) l F K
variable{Pk:ZaY->GH->Prop}
theorem Y5(h:Pk [] F):EA u V Zn [] l F Pk:=λYm P s S=>c' ⟨P,[],F,.refl P,.nil,S,h⟩
theorem Zu(h:EV u V Zn (ZH f Zn) l F λg i=>EA u V Zn d l i λm j=>Pk (g::m) j)(he:Z3 (gK Zn f d) aR):EA u V Zn (f::d) l F Pk:=λYm P s S=>rk (W1 S λr a B mv i k b n o=>ZS (o Ym r a n) (λC D p=>by obtain⟨q,m,t,e,w,y,z⟩:=p;exact⟨q,mv::m,t,ru e,.cons (b.mono e) w,y,z⟩) λO O x=>x) he
theorem EL.use(h:EL u V Zn f l F Pk)(S:Zas)(k:∀r a e mv i,bG P r->ao r mv e->ak u r Zn l i a->Pk mv i->b e a):ZU u.M V f b bz s:=ZS ZcP (λe a g=>by obtain⟨r,mv,i,j,m,n,d⟩:=g;exact k r a e mv i j m n d) λO O x=>x
theorem ak.iZ(S:Zas)(d:ao P k b):∃r,bG P r/\aw r (.seq (.type T) k) (.ref Zx)/\ak u r Zn l F {s with X_:=To (X8 ZaX b.toArray 0)}:=by
 walk_at"b";refine⟨_,Tu,?_,S.Bg (X8 ZaX b.toArray 0)⟩;exact⟨_,b.toArray,0,rfl,.inr ⟨rfl,rfl⟩,d.mono Tu⟩
theorem TL(h:EA u V Zn d l F λm i=>WM<=ZK/\g (.tup m) i):EV u V Zn (ZH (.Tuple d k Ym) Zn) l F g:=λP s S=>Tuple_ ((h Ym).use S λr a f m i j b n e=>by
  obtain⟨o,p,q,t⟩:=n.iZ (T:="tuple") b;exact Yn ⟨o,_,i,fi p,q,t,e.2⟩ (by show c_<=ZK;rw[V',Zw];exact e.1))
theorem Uw(h:EA u V Zn d l F λm i=>WM<=ZK/\g (.lst m) i):EV u V Zn (ZH (.List d Ym) Zn) l F g:=λP s S=>List_ ((h Ym).use S λr a f m i j b k e=>by
  obtain⟨n,o,p,q⟩:=k.iZ (T:="list") b;exact Yn ⟨n,_,i,fi o,p,q,e.2⟩ (by show c_<=ZK;rw[V',Zw];exact e.1))
theorem VX{K:MV->GH->Prop}(h:EA u V Zn d l F λm i=>WM<=ZK/\∀e,i e=none->K (.ref e) (Y7 i e (.list m))):EV u V Zn (ZH (.List d Ym) Zn) l F K:=λP s S=>List_ ((h Ym).use S λr a f m i e b j k=>by
  have x:cQ r (a.heap.push (X8 Zad f.toArray 0)) a.heap.objs.size (.list m):=(Vo f.toArray 0 ⟨ZL _ rfl,b⟩);exact Yn ⟨r,.ref a.heap.objs.size,_,e,aE ..,j.new x,k.2 _ (j.g.fresh (ZV _))⟩ (by show c_<=ZK;rw[V',Zw];exact k.1))
inductive RC(u:Cx)(P:aT)(K:MV->GH->Prop)(d:TK)(a:Zb):Prop where|mk(b:ZP)(r:aT)(mv:MV)(i:GH)(e:d=.ok (.ret b))(f:bG P r)(q:aw r mv b)(S:aA u r i a)(k:K mv i)
def b8(u:Cx)(V:X5)(f:ZP)(m:ZaY)(F:GH)(K:MV->GH->Prop):Prop:=∀P s b,aA u P F s->ao P m b->U4 u.M V (.call f ⟨b,[]⟩) (RC u P K) s
theorem ak.liftT(S:Zas):∃B,bG P B/\aA u B F s/\(∀j o,B j o->P j o\/j=VQ\/∃x,Xz x=ZbC)/\∀r i a,bG B r->aA u r i a->∃z,bG P z/\ak u z Zn l i a/\lV r z/\bG z r:=by
  walk_at"b";let own:Y9->Prop:=λj=>j=VQ\/∃x,Xz x=some j;let m:Y9->Prop:=λj=>j=VQ\/∃x,Xz x=ZbC/\VQ<j;have PS:aA u (λj o=>P j o\/(own j/\Xe j=Zag)) F s:=by
    walk_at"5";refine⟨mu (λO O O e=>.inl e) (λo e=>VB id λp=>by
      refine p.1.elim (λh=>?_) λYA=>?_;.exact Za h (ow S.f.lG.2.2)
      .obtain⟨x,hx⟩:=YA;exact Za rfl (ow (W7 x _ hx).2.1)),K2,λj o e=>VB (Yg j o) λp=>p.2,λj o e=>(Wc j o e).mono (λO O e=>.inl e) rfl,λj o e=>?_,OW,c4,c3⟩;refine VB (λe=>?_) λYA=>?_;.exact Oz j o e
    . obtain⟨p,_⟩:=YA;refine p.elim (λYA=>?_) λYA=>?_;.rw[YA];exact S.f.lG.1
      .obtain⟨x,hx⟩:=YA;exact(W7 x j hx).1
  refine⟨_,λO O e=>.inl e,PS,λj o e=>e.imp id λp=>p.1,λr i a k t=>?_⟩;walk_at"b";obtain⟨PT,n,hm⟩:=G7;obtain⟨PW,d,PX,PM,E,PY⟩:=n;have C:=k _ _ (.inr ⟨.inl rfl,PM⟩);have I:∀x w,Xz x=some w->∃y o,Xe w=Zag/\OA=.cell y/\r w o/\∀mv,Wq x=ZaS->YJ x≠some .local->∃D,y=some D/\aw P mv D:=λx w hx=>by
    walk_at"b";obtain⟨y,⟨o,A,hd⟩,hv⟩:=tb x w hx;exact⟨y,o,A,hd,k _ _ (.inr ⟨.inr ⟨x,hx⟩,A⟩),hv⟩
  have PZ:∀j o,ly o->r j o->¬own j:=λj o st hp p=>by
    rcases p with rfl|⟨x,hx⟩
    . have:=(t.aG _ _ C).symm.trans (t.aG _ _ hp);cases this;clear PM C hp;refine st.elim (λYA=>?_) λst=>?_;.obtain⟨P0,M,n,rfl⟩:=YA;cases E
      .obtain⟨_,M,e⟩:=st;rw[E]at e;cases e
    . obtain⟨y,o,A,hd,PN,_⟩:=I x j hx;have:=(t.aG _ _ PN).symm.trans (t.aG _ _ hp);clear A;cases this;clear PN hp;refine st.elim (λYA=>?_) λst=>?_;.obtain⟨P0,M,n,rfl⟩:=YA;cases hd
      .obtain⟨_,M,e⟩:=st;rw[hd]at e;cases e
  let z:aT:=λj o=>r j o/\¬m j;have N:bG P z:=λj o e=>⟨k j o (.inl e),λp=>by
    rcases p with rfl|⟨x,hx,Q⟩;.exact S.f.lG.2.1 o e
    .exact(W7 x j hx).2.2 Q o e⟩;have P2:∀j,m j->own j:=λj p=>p.imp id λP4=>Su P4 λx Yw=>Uc Yw λhx O=>⟨x,hx⟩;have T:lV r z:=λj o st PR=>⟨PR,λp=>PZ j o st PR (P2 j p)⟩;refine⟨z,N,⟨⟨t.old.mono T (λo e=>e.1),t.base,λj o e=>t.aG j o e.1,λj o e=>?_,λj o e=>t.cO j o e.1,t.low,t.os,t.gens⟩,?_⟩,T,(λO O e=>e.1:bG z r)⟩;.exact(t.objs j o e).sub T.q rfl
  . refine⟨Q0,Gs,ta,⟨PT,(Vo PW d ⟨PX,t.aG _ _ C,E,PY⟩),λx mv j b=>Su (hm x mv j b) λy Yw=>Uc Yw λe p=>⟨y,e,p.mono N⟩⟩,λx w hx=>?_,y0,⟨t.cO _ _ C,λo e=>e.2 (.inl rfl),S.f.lG.2.2⟩,λx w hx=>⟨?_,(W7 x w hx).2.1,λQ o e=>e.2 (.inr ⟨x,hx,Q⟩)⟩,yx⟩;.obtain⟨y,o,A,hd,hp,hv⟩:=I x w hx;exact⟨y,⟨o,t.aG _ _ hp,hd⟩,λmv j b=>Su (hv mv j b) λD Yw=>Uc Yw λe p=>⟨D,e,p.mono N⟩⟩
    .obtain⟨y,o,A,hd,hp,hv⟩:=I x w hx;exact t.cO _ _ hp
theorem ak.kR(S:Zas):∃d,bG P d/\aA u d F s/\∀r i a,bG d r->aA u r i a->∃e,bG P e/\ak u e Zn l i a/\lV r e/\bG e r:=by
 walk_at"b";obtain⟨d,j,b,_,k⟩:=S.liftT;exact⟨d,j,b,k⟩
theorem ak.HM(S:Zas):∃e,bG P e/\aA u e F s/\∀r i a,bG e r->aA u r i a->∃d,bG P d/\ak u d Zn l i a/\(∀mv j,aw r mv j->aw d mv j)/\bG d r:=by
 walk_at"b";obtain⟨e,k,b,m⟩:=S.kR;exact⟨e,k,b,λr i a x y=>Su (m r i a x y) λd Yw=>and4 Yw λp q n z=>⟨d,p,q,λmv j h=>h.ik n,z⟩⟩
theorem ak.lift(S:Zas):∃d,bG P d/\aA u d F s/\∀r i a,bG d r->aA u r i a->∃e,bG P e/\ak u e Zn l i a/\∀mv j,aw r mv j->aw e mv j:=by
 walk_at"b";obtain⟨d,k,b,m⟩:=S.HM;exact⟨d,k,b,λr i a x y=>Su (m r i a x y) λe Yw=>and4 Yw λp q n O=>⟨e,p,q,n⟩⟩
theorem b8.ev(h:b8 u V f x F g)(S:Zas)(e:ao P x n):ZU u.M V (VP f n) (PV u Zn P l g) bz s:=by
 walk_at"a";obtain⟨j,k,m,Oy⟩:=S.lift;refine V_ (V9 (h j s n m (e.mono k)) λz a q=>?_);obtain⟨B,r,mv,i,YA,o,b,p,d⟩:=q;rw[YA];obtain⟨t,w,y,rep⟩:=Oy r i a o p;exact⟨t,mv,i,w,rep _ _ b,y,d⟩
end
theorem yN(x':Z->Zs NameKind)(x:Z)(b:J (Z×ZP)):∀m:Z->Zs ZP,x∉hu (·.1)->bindL x' b m x=m x:=by induction b with
 |Yl=>exactλO O=>rfl|Zp p r i=>
  intro m h;rw[Yd,XW,not_or]at h;refine(i _ h.2).trans ?_;refine bQ rfl (λO=>?_) λO=>?_;.exact ZY h.1
  .rfl
theorem zJ(x':Z->Zs NameKind)(x:Z)(b:J (Z×ZP)):∀m:Z->Zs ZP,x∉hu (·.1)->bindC x' b m x=m x:=by induction b with
 |Yl=>exactλO O=>rfl|Zp p r i=>
  intro m h;rw[Yd,XW,not_or]at h;refine(i _ h.2).trans ?_;refine bQ rfl (λO=>?_) λO=>?_;.rfl
  .exact ZY h.1
theorem rP(WD:J Z)(a:Zc4)(x:Z)(h:x∈(WQ a).map (·.1)):x∈WD:=by
 obtain⟨p,hp,rfl⟩:=Zl h;exact(f7 hp).1
theorem Ma{α β:Type}[BEq α][LawfulBEq α]{x n:α}{m:β}{l:J (α×β)}(h:x≠n):((n,m)::l).lookup x=Wq x:=List.lookup_cons.trans (by rw[Yu h])
theorem uR(x':Z->Zs NameKind):∀(WD:J Z)(m:ZaY)(d:Zc4)(f c:Z->Zs ZP),Sr->ao y m d->∀x mv,(WQ m).lookup x=ZaS->(x' x=some .local->∃a,bindL x' (WQ d) f x=ZaB/\aw y mv a)/\(x' x≠some .local->∃a,bindC x' (WQ d) c x=ZaB/\aw y mv a):=by
  intro I;induction I with
  |Yl=>
    intro _ _ _ _ _ _ x mv e;simp at e|Zp n ns j=>
    intro k;cases k with
    |Yl=>
      intro _ _ _ _ _ x mv e;simp at e|Zp s m=>
      intro d f c hn l x mv e;obtain⟨a,i,YA,r,rl⟩:=l;rw[YA];obtain⟨o,p⟩:=ov hn;clear hn;by_cases hx:x=n
      . subst hx;rw[<-ZW (mi e)];have tr:x∉(ns.zip i).map (·.1):=λq=>o (rP _ _ _ q);refine⟨λg=>⟨a,?_,r⟩,λg=>⟨a,?_,r⟩⟩;.refine(yN _ _ _ _ tr).trans ?_;rw[ZT g,ZT rfl]
        .refine(zJ _ _ _ _ tr).trans ?_;rw[ZY g,ZT rfl]
      .exact j m i (if x' n=some .local thenλb=>if b=n then some a else f b else f) (if x' n=some .local then c elseλb=>if b=n then some a else c b) p rl x mv ((Ma hx).symm.trans e)
theorem MX{α:Type}{b:J α->Prop}(h:b []):∀a:J α,ZC=0->b a:=λa e=>Xm e▸h
theorem Jn{α:Type}{c:J α->Prop}(h:∀a,∀b:J α,Zw=n->c (a::b)):∀b:J α,Zw=n+1->c b:=λb e=>by cases b with|Yl=>cases e|Zp a b=>exact h a b (x_ e)
theorem Fb{α:Type}{b:J α->Prop}(h:∀a,b [a]):∀c:J α,Yv=1->b c:=Jn λa=>MX (h a)
theorem zl{α:Type}{c:J α->Prop}(h:∀a b,c [a,b]):∀d:J α,Yc=2->c d:=Jn λa=>Fb (h a)
theorem Ia{α:Type}{d:J α->Prop}(h:∀a b c,d [a,b,c]):∀e:J α,XQ=3->d e:=Jn λa=>zl (h a)
theorem Le{α:Type}{e:J α->Prop}(h:∀a b c d,e [a,b,c,d]):∀f:J α,W0=4->e f:=Jn λa=>Ia (h a)
theorem Mm{α:Type}{f:J α->Prop}(h:∀a b c d e,f [a,b,c,d,e]):∀g:J α,K1=5->f g:=Jn λa=>Le (h a)
theorem rep1(r:ao y [a] b){c:Prop}(k:∀v1,b=[v1]->c):c:=Fb (b:=λb=>(∀v1,b=[v1]->c)->c) (λa k=>k a rfl) b KP k
theorem rep2(r:ao y [a,b] c){d:Prop}(k:∀v1 v2,c=[v1,v2]->d):d:=zl (c:=λc=>(∀v1 v2,c=[v1,v2]->d)->d) (λa b k=>k a b rfl) c KP k
theorem Lx(r:ao y [a,b,c,d] f){e:Prop}(k:∀v1 v2 v3 v4,f=[v1,v2,v3,v4]->e):e:=Le (e:=λf=>(∀v1 v2 v3 v4,f=[v1,v2,v3,v4]->e)->e) (λa b c d k=>k a b c d rfl) f KP k
theorem LU(r:ao y [a,b,c,d,i] f){e:Prop}(k:∀v1 v2 v3 v4 v5,f=[v1,v2,v3,v4,v5]->e):e:=Mm (f:=λf=>(∀v1 v2 v3 v4 v5,f=[v1,v2,v3,v4,v5]->e)->e) (λa b c d i k=>k a b c d i rfl) f KP k
theorem LW(r:ao y (a::b::f) c)(h:W0=5){d:Prop}(k:∀v1 v2 v3 v4 v5 v6 v7,aw y a v1->aw y b v2->ao y f [v3,v4,v5,v6,v7]->c=[v1,v2,v3,v4,v5,v6,v7]->d):d:=dn (NJ:=λc=>(∀v1 v2 v3 v4 v5 v6 v7,aw y a v1->aw y b v2->ao y f [v3,v4,v5,v6,v7]->c=[v1,v2,v3,v4,v5,v6,v7]->d)->d) (λv1 c q r=>dn (NJ:=λc=>(∀g v2 v3 v4 v5 v6 v7,aw y a g->aw y b v2->ao y f [v3,v4,v5,v6,v7]->v1::c=[g,v2,v3,v4,v5,v6,v7]->d)->d) (λv2 c q2 r k=>Mm (f:=λi=>c=i->d) (λv3 v4 v5 v6 v7 e=>by subst e;exact k v1 v2 v3 v4 v5 v6 v7 q q2 r rfl) c (r.length.trans h) rfl)) k
variable{t:J Z}
theorem G6{T:J (Z×NameKind)}{Q:Y9->Z->Prop}(h:(t.all λx=>decide (T.lookup x=some .local))=true):∀a,∀x∈t,T.lookup x=some .local\/Q a x:=λO x hx=>.inl (Zi (Ot h x hx))
theorem e7(h:(t.all λf=>decide (Xs f=Zaa))=true):∀f,t.contains f=true->Xs f=Zaa:=λf a=>Zi (Ot h f (List.contains_iff_mem.mp a))
theorem qE(h:(t.all λf=>decide (Xs f=some .local))=true):∀z∈t,aM A z:=λz a=>.inl (Zi (Ot h z a))
def JS(X:Cx)(A:X5)(f:CL)(m:ZaY)(g:J Z)(i:ZaY)(c:GH)(WD:J Z)(j:ZaY):Prop:=∀y G d k,aA X y c G->ao y m d->ao y i k->ZU YH A (S1 f ⟨d,g.zip k⟩) (λb s=>∃a e,bG y a/\aA X a c s/\b=WQ e/\ao a j e) bz G
def iL(X:Cx)(A:X5)(f:ZP)(m:ZaY)(b:J Z)(c:ZaY)(d:GH)(K:MV->GH->Prop):Prop:=∀y G a k,aA X y d G->ao y m a->ao y c k->U4 YH A (.call f ⟨a,b.zip k⟩) (RC X y K) G
variable{m:X5}{g:MV->GH->Prop}
theorem iL.call(h:iL X m f a [] [] E g):b8 X m f a E g:=λb s c S r=>h b s c [] S r .nil
theorem qk(S:Zah)(hg:f.globals=W2)(u:f.builtins=We)(w:f.scope.kind=.function)(hn:t.Nodup)(r:ao y l d)(A:∀B,∀x∈t,UO x=some .local\/(UO x=Zbm/\((Ct (B+1) f.scope.names []).lookup x).isSome=true))(x:InCallC G (Xd f ZZ fa).locals (bindL (Xd f ZZ fa).kindOf (t.zip d) λO=>none) (Xd f ZZ fa).cells (bindC (Xd f ZZ fa).kindOf (t.zip d) λO=>none) s):ak X y (Xd f ZZ fa) (t.zip l) E s:=by
  walk_at"6";have g:=x.toInCall.fresh;obtain⟨C,D,rfl⟩:=x.toInCall.same;have F:aA X y E {G with X_:=C,Wf:=D}:=Q1 (x.toInCall.keep);have p:∀a o,ZZ<=a->¬y a o:=λa o I q=>Za (XR (C1 a o q)) (Wg I);refine⟨F,⟨w,hg,u,⟨_,x.toInCall.ns,λb mv hy k=>(uR _ t l d _ (λO=>s') hn r b mv hy).1 k⟩,λb c j=>⟨_,x.cell b c j,λmv hy k=>(uR _ t l d (λO=>s') _ hn r b mv hy).2 k⟩,λb mv hy=>?_,⟨S.fresh g,λo=>p _ o g,S.hM g⟩,λb c j=>?_,λb z c hy M=>?_⟩⟩
  . have hm:b∈t:=(f7 (Ve hy)).1;walk_at"n";refine(A ZZ b hm).elim (λq=>?_) λYA=>?_;.exact .inl q
    .obtain⟨q,N⟩:=YA;obtain⟨c,e⟩:=ff N;exact .inr ⟨.inl q,c,e⟩
  .have m:=(λn i hm=>W' (U8 g (x.above n i hm)):∀n i,(n,i)∈(Xd f ZZ fa).cells->ZZ<=i) b c (Ve j);exact⟨S.fresh m,S.hM m,λO o=>p _ o m⟩
  .exact name_of_addr x.apart (Ve hy) (Ve M)
variable{NZ:J Wa}
theorem iL.body(b:Zck)(WD:J Z)(z:YF fa=some u)(C:fa≠tx)(hd:u.data=.func f)(D:G5 f.code f.qualname)(F:f.code≠.ref tx)(I:f.body=.stmts NZ)(M:f.closure=[])(hg:f.globals=W2)(N:f.builtins=We)(Q:JS X Uq f V PM PN E WD PR)(hn:Sr)(p:∀n,∀x∈WD,UO x=some .local\/(UO x=Zbm/\((Ct (n+1) f.scope.names []).lookup x).isSome=true))(room:G4<Kc)(h:∀n,let A:=Xd f n fa;EF X (Sb A) A ZcQ (WQ PR) E (rF g))(PS:Z3 (f.scope.isCoroutine=false) aR)(PT:Z3 (f.scope.isGenerator=false) aR)(t:Z3 (f.scope.kind=.function) aR):iL X m ZaA V PM PN E g:=λd s PW PX S PY PZ=>by
 walk_at"k";have P0:∀d s,aA X d E s->s.heap.CodeRec f.code f.qualname:=λd s S=>by
  obtain⟨c,o,P2,P4,e,P5,q⟩:=D;exact⟨c,o,P2,P4,e,Tr c o P5 (by intro P6;subst P6;exact F e),q⟩
 refine codeAny_call_function room (Tr fa u z C) hd PS PT I (P0 _ _ S) ?_;refine ZS (Q d s PW PX S PY PZ) (λQf P7 q=>?_) λO O q=>Vm;walk_at"c";obtain⟨P8,w,a,P9,YA,Qa⟩:=q;rw[YA];rw[M];refine c0 t (λx hx=>p _ x.1 ((λx hx=>rP WD w x.1 (Yx ⟨x,hx,rfl⟩):∀x∈WQ w,x.1∈WD) x hx)) λA he Qg x=>?_;subst he;have y:=qk (fa:=fa) P9 hg N t hn Qa p x;refine⟨y.g.lim b,codeAny_func ?_⟩;walk_at"c";refine ZS (h P7.heap.objs.size P8 _ y) (λQh Qi q=>?_) λO O q=>Vm;obtain⟨i,Qb,Qj,G,j,r,l,k⟩:=q;cases Qb with|next=>cases r;exact⟨_,i,.none,G,rfl,V8 j,aE ..,l.g,k⟩|brk=>cases r;exact⟨_,i,.none,G,rfl,V8 j,aE ..,l.g,k⟩|cont=>cases r;exact⟨_,i,.none,G,rfl,V8 j,aE ..,l.g,k⟩|fj Qc=>obtain⟨Qd,rfl,Qe⟩:=r;exact⟨Qd,i,Qc,G,rfl,V8 j,Qe,l.g,k⟩
theorem b8.body(b:Zck)(WD:J Z)(e:YF fa=some i)(j:fa≠tx)(hd:i.data=.func f)(l:G5 f.code f.qualname)(n:f.code≠.ref tx)(o:f.body=.stmts NZ)(p:f.closure=[])(hg:f.globals=W2)(q:f.builtins=We)(t:∀a:Zc4,ZC=Yv->S1 f ⟨a,[]⟩=Yh (WQ a))(hn:Sr)(D:x6=Yv)(u:∀d,∀x∈WD,UO x=some .local\/(UO x=Zbm/\((Ct (d+1) f.scope.names []).lookup x).isSome=true))(room:G4<Kc)(h:∀d,let A:=Xd f d fa;EF X (Sb A) A ZcQ (WQ c) E (rF g))(w:Z3 (f.scope.isCoroutine=false) aR)(y:Z3 (f.scope.isGenerator=false) aR)(z:Z3 (f.scope.kind=.function) aR):b8 X m ZaA c E g:=(iL.body (PM:=[]) (PN:=[]) b WD e j hd l n o p hg q (λC s a k S r F=>by
  show ZU _ _ (S1 f ⟨a,[]⟩) _ _ _;rw[t a KP];exact Z5 ⟨C,a,.refl _,S,rfl,r⟩) hn u room h w y z).call
theorem s_(b:Zck)(n:Xs f=Zaa)(hv:VY f=some ZaA)(p:YF fa=Zan)(t:fa≠tx)(hd:c.data=.func u)(h:EA X m A (i::d) o E λe w=>b8 X m ZaA e w g)(x:Z3 ((f==("__debug__"))=false) aD)(y:Z3 (∀args,ZH (.Call (.Name f l) args [] Ym) A=(do OP Ym (<-ZH (.Name f l) A) [] (UE Ym (Zr args A)) (backToKw Ym (keywordEach [] A)))) aI)(he:Z3 (gK A i d) aR):EV X m A (ZH (.Call (.Name f l) (i::d) [] Ym) A) o E g:=λM s S=>by
 walk_at"a";refine sL ?_ (y _);walk_at"a";refine(mw (g:=λz w=>z=.raw ZaA/\w=E) b n hv ⟨rfl,rfl⟩ x).use S λN Q V mv G a r C k=>?_;clear S;obtain⟨rfl,rfl⟩:=k;rw[r];refine callWith_def (o:=c) (fd:=u) hd ((h Ym).use C λPM PN PR e PS D F j I=>⟨j.g.base fa c p t,?_⟩) he;exact ZS (I.ev j F) (λO O q=>mc (V8 D)) λO O q=>q
def listIn:Zs MO->Zs ZaY|some (.list m)=>some m|_=>none
def cg(G:GH):MV->Zs ZaY|.seq c m=>if c=.type "list"then some m else none|.raw Zaj=>listIn (G a)|_=>none
theorem aF(G:GH)(m:ZaY):cg G (.lst m)=Zcd:=rfl
theorem c8(h:b a=Zbf):cg b Zaj=Zan:=Zq listIn h
theorem aw.int(r:aw y Zbs a):∃t,a=.int i t:=r
theorem aw.str(r:aw y (.str x) a):∃t,a=.str x t:=r
theorem aw.raw(r:aw y (.raw u) a):a=u:=r
theorem aw.seq(r:aw y (.seq c d) f):∃a b n,f=Zaj/\y a (X8 c b n)/\ao y d Kb:=r
theorem aO{α β:Type}{o:Zs α}{f:α->Zs β}{r:β}(h:o.bind f=Za2){a:Prop}(k:∀x,o=Zak->f x=Za2->a):a:=by cases o with|none=>cases h|some x=>exact k x rfl h
theorem yZ{α β:Type}{o:Zs α}{f:α->β}{r:β}(h:o.map f=Za2){a:Prop}(k:∀x,o=Zak->f x=r->a):a:=by cases o with|none=>cases h|some x=>exact k x rfl (ZW h)
theorem Cw{α:Type}{o b:Zs α}{r:α}(h:o.or b=Za2){a:Prop}(k:o=Za2->a)(c:b=Za2->a):a:=by cases o with|none=>exact c h|some x=>exact k h
theorem mA{α:Type}[Oa c]{o:Zs α}{r:α}(h:(if c then o else none)=Za2){b:Prop}(k:c->o=Za2->b):b:=by
 by_cases a:c;.rw[ZT a]at h;exact k a h
 .rw[ZY a]at h;cases h
theorem JD{α:Type}[Oa c]{o:Zs α}{r:α}(h:(if c then none else o)=Za2){b:Prop}(k:¬c->o=Za2->b):b:=by
 by_cases a:c;.rw[ZT a]at h;cases h
 .rw[ZY a]at h;exact k a h
theorem ax{α:Type}{x:α}{a:Prop}(h:none=Zak):a:=nomatch h
theorem uI:∀{o:Zs MO},listIn o=ZaB->o=some (.list a):=λ{o}=>by cases o with|none=>exact ax|some o=>induction o with|list=>exactλh=>Zq (λl=>some (MO.list l)) (ZW h)|_=>exact ax
variable{NU:ZP->Prop}
theorem jM(h:cg E d=Zbe)(S:Zab)(r:aw y d i)(k:∀a b n,ZG a=some Zau->ao y f Kb->NU Zaj):NU i:=by cases d with
 |raw u=>induction u with
  |ref a=>
   rw[UZ];obtain⟨b,n,j,rl⟩:=Wc _ _ (uI h);exact k a b n j rl|_=>exact ax h
 |int=>exact ax h|str=>exact ax h|seq c m=>
  exact mA h λl e=>by
   clear h;cases e;subst l;obtain⟨a,b,n,YA,p,rl⟩:=ho;rw[YA];exact k a b n (Yg _ _ p) rl
theorem listAt(h:cg E f=ZaC)(S:Zab)(r:aw y f c):∃a b n,c=Zaj/\ZG a=some Zau/\ao y d Kb:=jM (NU:=λc=>∃a b n,c=Zaj/\ZG a=some Zau/\ao y d Kb) h S r λa b n g rl=>⟨a,b,n,rfl,g,rl⟩
def intOf:MV->Zs Zv|.int i=>some i|_=>none
def strOf:MV->Zs Z|.str x=>some x|_=>none
def jx{β:Type}(m c:MV)(f:Zv->Zv->Zs β):Zs β:=(intOf m).bind λa=>(intOf c).bind λb=>f a b
def D0{β:Type}(m c:MV)(f:Z->Z->Zs β):Zs β:=(strOf m).bind λa=>(strOf c).bind λb=>f a b
theorem rE(h:intOf a=some i)(r:aw y a b)(k:∀t,NU (.int i t)):NU b:=by induction a using x4 with|int j=>cases h;obtain⟨t,rfl⟩:=r.int;exact k t|_=>exact ax h
theorem CN(h:strOf a=some i)(r:aw y a b)(k:∀t,NU (.str i t)):NU b:=by induction a using x4 with|str j=>cases h;obtain⟨t,rfl⟩:=sz;exact k t|_=>exact ax h
theorem eU{f:Zv->Zv->Zs β}{q:β}(h:jx i l f=some q)(r:aw y i c)(e:aw y l d)(C:ZP->ZP->Prop)(k:∀a b t u,f a b=some q->C (.int a t) (.int b u)):C c d:=aO h λa g h=>aO h λb hb h=>rE (NU:=λc=>C c d) g r λt=>rE hb e λu=>k a b t u h
theorem ub{f:Z->Z->Zs β}{q:β}(h:D0 i l f=some q)(r:aw y i c)(e:aw y l d)(C:ZP->ZP->Prop)(k:∀a b t u,f a b=some q->C (.str a t) (.str b u)):C c d:=aO h λa g h=>aO h λb hb h=>CN (NU:=λc=>C c d) g r λt=>CN hb e λu=>k a b t u h
theorem aq(g:rr a=some Zau):NG.IsList a b:=⟨_,g,rfl,n,rfl⟩
variable{Po:Ua ZP}
theorem ao.size(r:ao y a Po.toList):Po.size=ZC:=by rw[<-KP,Yy]at⊢
theorem PV.grow(S:Zab)(k:∀a b,ZG a=Zar->c.get? a=Zar)(r:aw y mv d)(q:g mv E):PV X A y o g d {G with X_:=c,Wf:=n}:=⟨y,mv,E,ZbK,r,Q1 k,q⟩
theorem PV.newList(S:Zab)(d:ao y f ct)(q:g (.lst f) E):PV X A y o g ZaD {G with X_:=Zj (X8 Zad i 0),Wf:=n}:=by
 obtain⟨r,a,b,c⟩:=S.iZ (T:="list") d;exact⟨r,_,E,a,b,by simpa using cj n,q⟩
theorem PV.Fn(S:Zab)(d:ao y f ct)(q:g (.tup f) E):PV X A y o g ZaD {G with X_:=Zj (X8 Zac i 0),Wf:=n}:=by
 obtain⟨r,a,b,c⟩:=S.iZ (T:="tuple") d;exact⟨r,_,E,a,b,by simpa using cj n,q⟩
def ma(b:Zv):YZ:=decide (Builtin.Int.intBits b<=64)
def vf(G:GH)(o:l')(m c:MV):Zs MV:=match o with|.Add=>(jx m c λa b=>some (.int (a+b))).or ((D0 m c λx y=>if ZO+l_<=ZK then some (.str (x++y))else none).or ((cg G m).bind λd=>(cg G c).bind λys=>if Yc+TS<=ZK then some (.lst (d++ys))else none))|.Sub=>jx m c λa b=>some (.int (a-b))|.Mult=>jx m c λa b=>if ma a||ma b then some (.int (a*b))else none|.FloorDiv=>jx m c λa b=>if b=0 then none else if Vz a b=false then some (.int (a.fdiv b))else none|.Mod=>jx m c λa b=>if b=0 then none else some (.int (a.fmod b))|_=>none
structure Rm(X:Cx)(A:X5)(n:U):Prop where
 depth:A.depth+n<=900
 units:A.units+20*n<=9000
 handled:A.handled=none
theorem Rm.in1(h:Rm X m (n+1)):Rm X Uq n:=⟨by have:=l7;simp only[Around.in1_depth];(exact aV 0x1fc8e020e47083841 [_,_,_] this),by have:=l6;simp only[Around.in1_units];(exact a9 0x1fc8e12141c1c8e1283841 [20,20] [_,_,_] [] this),ri⟩
theorem Rm.deeper(h:Rm X m (n+1))(Zn:S2):Rm X (Sb Zn) n:=⟨by have:=l7;show G4+1+n<=900;(exact GO this),by have:=l6;show OV+3+20*n<=9000;(exact a9 0x1fc8e12141e1c8e1283841 [20,3,20] [_,_,_] [] this),ri⟩
theorem Rm.le(h:Za3)(k:a<=n):Rm X m a:=⟨by have:=l7;(exact bx 0x7ff91c081c88991c041 [_,_,_,_] this k),by have:=l6;(exact cD 0x1ffe470910391132384841 [20,20] [_,_,_,_] [] this k),ri⟩
theorem Rm.room(h:Za3):G4<Kc:=by have:=l7;show G4<1000;exact a9 0x1fd3c397c041 [900,1000] [_,_] [] this
theorem Rm.cl(h:Za3):OV<cLine:=by have:=l6;show OV<9900;exact a9 0x1fd3c397c041 [9000,9900] [_,_] [] this
theorem kE(e:Zak=Za2)(k:g r E):g x E:=ZW e▸k
theorem yE(h:vf E f q mb=some i)(S:Zab)(r:aw y q d)(c:aw y mb l)(k:g i E):ZU YH m (binaryOp f d l) Zae bz G:=by
 walk_at"a";let C:l'->ZP->ZP->Prop:=λf d l=>ZU YH m (binaryOp f d l) Zae bz G;induction f with
 |Add=>
  walk_at"a";exact Cw h (λh=>eU h r c (C .Add) λa b t u e=>add_int (UW S (a0 ..) Zbv)) λh=>Cw h (λh=>ub h r c (C .Add) λa b t u e=>mA e λhs e=>PyProof.Rows.add_str (λs w=>UW S (bp ..) Zbv) hs) λh=>aO h λx hx h=>aO h λys hy h=>mA h λhs e=>jM (NU:=λd=>C .Add d l) hx S r λa z n p i=>jM hy S c λB D F g' j=>PySem.P.add_list p g' (PV.newList S (by rw[Y0];exact i.append j) Zbv) (by rw[cb,j.size];exact hs)|N'=>exact eU h r c (C .Sub) λa b t u e=>PyProof.Rows.sub_int (UW S (a0 ..) Zbv)|Mult=>exact eU h r c (C .Mult) λa b t u e=>mA e λhs e=>PyProof.Rows.mul_int (UW S (a0 ..) Zbv) ((Bool.or_eq_true_iff.mp hs).elim (λhs=>.of_left (Zi hs)) λhs=>.of_right (Zi hs))|FloorDiv=>exact eU h r c (C .FloorDiv) λa b t u e=>JD e λhb e=>mA e λhp e=>PyProof.Rows.floordiv_int hb (UW S (a0 ..) Zbv) (.inl hp)|Mod=>exact eU h r c (C .Mod) λa b t u e=>JD e λhb e=>PyProof.Rows.mod_int' hb (UW S (a0 ..) Zbv)|_=>exact ax h
def vh(m c:MV):Zs YZ:=(jx m c λa b=>some (a==b)).or (D0 m c λx y=>some (x==y))
def all2(f:MV->MV->Zs YZ)(l c:ZaY):Zs YZ:=VF (λd k m=>m.head?.bind λe=>(f d e).bind λa=>(k m.tail).bind λb=>some (a&&b)) (λm=>if m=[]then some true else none) c
def AS:MV->Zs ZaY|.seq c m=>if c=.type "tuple"then some m else none|_=>none
def eq1(m a:MV):Zs YZ:=(vh m a).or ((AS m).bind λb=>(AS a).bind λc=>all2 vh b c)
def Dr(x ys:ZaY):Zs YZ:=if ZO=TS then all2 eq1 x ys else some false
def jE(x:MV)(l:ZaY):Zs YZ:=VF (λy k=>(vh y x).bind λa=>k.bind λb=>some (a||b)) (some false)
def isNone:MV->YZ|.raw a=>a==.none|_=>false
def BJ:MV->YZ|.raw .none=>true|_=>false
def yg(G:GH)(m a:MV):Zs YZ:=(vh m a).or ((cg G m).bind λx=>(cg G a).bind λys=>Dr x ys)
def vR(G:GH)(o:CmpOp)(m c:MV):Zs YZ:=match o with|.Lt=>jx m c λa b=>some (decide (a<b))|.LtE=>jx m c λa b=>some (decide (a<=b))|.Gt=>jx m c λa b=>some (decide (b<a))|.GtE=>jx m c λa b=>some (decide (b<=a))|.Eq=>yg G m c|.NotEq=>(yg G m c).map (!.)|.In=>(cg G c).bind (jE m)|.NotIn=>((cg G c).bind (jE m)).map (!.)|.Is=>if BJ c then some (isNone m)else none|.IsNot=>if BJ c then some (!isNone m)else none
inductive oZ(f:MV->MV->Zs YZ):ZaY->J MV->YZ->Prop where|Yl:oZ f [] [] true|Zp{m c:MV}{d e:ZaY}{a b:YZ}(h:f m c=ZaB)(t:oZ f d e b):oZ f (m::d) (c::e) (a&&b)
theorem uU:∀(d m:ZaY){b:YZ},all2 f d m=Zar->oZ f d m b:=by
 intro I;induction I with
 |Yl=>
  intro m b h;exact mA h λe h=>by rw[e];exact ZW h▸.nil|Zp g d i=>
  intro j;cases j with
  |Yl=>
   intro b h;exact ax h|Zp k m=>
   intro b h;exact aO (show(f g k).bind (λa=>(all2 f d m).bind λb=>some (a&&b))=some b from h) λa l h=>aO h λc n h=>ZW h▸.cons l (i m n)
theorem oZ.len(h:oZ f a c b):ZC=Yv:=by induction h with|Yl=>rfl|Zp _ _ i=>exact Zq (.+1) i
theorem oZ.get(h:oZ f c d b):∃e:U->YZ,b=(Zh Yv).all e/\∀i a m,c[i]?=ZaB->d[i]?=Zcd->f a m=some (e i):=by
 walk_at"b";induction h with|Yl=>exact⟨λO=>true,rfl,λi a m h=>ax h⟩|@Zp a m c d g b h _ j=>
  obtain⟨e,he,k⟩:=j;refine⟨λi=>Og g (λi O=>e i) i,?_,λi a m=>Ss i (λh1 h2=>?_) λi=>k i a m⟩;.rw[YG,Sa,List.all_cons,List.all_map,he];rfl
  .rw[<-ZW h1];rw[<-ZW h2];exact h
theorem v9(h:vh i k=Zar)(r:aw y i d)(g:aw y k f):P' m G d f b:=Cw h (λh=>eU h r g (λd f=>P' m G d f b) λa c t u e=>ZW e▸SeqAt.EqAt.int_int _ _ _ _) λh=>ub h r g (λd f=>P' m G d f b) λa c t u e=>ZW e▸SeqAt.EqAt.str_str _ _ _ _
theorem A7(h:vh i k=Zar)(r:aw y i d)(g:aw y k d):b=true:=Cw h (λh=>eU h r g (λd f=>d=f->b=true) (λa c t u e q=>(ZW e).symm.trans (di (Value.int.inj q).1)) rfl) λh=>ub h r g (λd f=>d=f->b=true) (λa c t u e q=>(ZW e).symm.trans (di (Value.str.inj q).1)) rfl
theorem cN(g:rr a=some ZcI):NG.IsTuple a b:=⟨_,g,rfl,n,rfl⟩
theorem oZ.same(g:∀{m d b c},f m d=Zar->aw y m c->aw y d c->b=true)(h:oZ f k l b):∀{a:Zc4},ao y k a->ao y l a->b=true:=by induction h with|Yl=>exactλO O=>rfl|Zp h _ i=>
  exactλj r=>ao.cU (NJ:=λa=>ao y _ a->_) j (λc a x n r=>ao.cU (NJ:=λus=>us=c::a->_) r (λq s o p e=>by
   clear r;cases e;rw[g h x o,i n p];rfl) rfl) r
theorem tupK(h:AS d=Zbe)(r:aw y d i)(k:∀a b n,y a ZcI->ao y f Kb->NU Zaj):NU i:=by induction d using x4 with
 |seq c m=>
  exact mA h λg e=>by
   clear h;cases e;subst g;obtain⟨a,b,n,YA,p,rl⟩:=ho;rw[YA];exact k a b n p rl|_=>exact ax h
theorem ao.at(r:ao y b Po.toList)(h:a<Po.size){c:Prop}(k:∀m,b[a]?=Zcd->aw y m Po[a]->c):c:=by
 have e:b[a]?=some (b[a]'(by rw[<-b'];exact h)):=Z6 _;obtain⟨g,d,f⟩:=r.get a e;rw[TJ,XD h]at d;exact k _ e (ZW d▸f)
theorem FP(S:Zah)(s:OV<cLine)(h:eq1 i k=Zar)(r:aw y i d)(c:aw y k l):P' m G d l b:=Cw h (λh=>v9 h r c) λh=>aO h λu hm h=>aO h λw f h=>tupK (NU:=λd=>P' m G d l b) hm r λa x n p rl=>tupK (NU:=λd=>P' m G _ d b) f c λt z A o g=>by
    have h:=uU _ _ h;by_cases q:a=t;.subst q;cases(C1 _ _ p).symm.trans (C1 _ _ o);rw[h.same (λh r c=>A7 h r c) rl g];exact SeqAt.EqAt.same _
    .obtain⟨e,YA,he⟩:=h.get;rw[YA];have:=SeqAt.RcAt.tuples (A:=m) (s:=G) (e:=e) (cN (C1 _ _ p)) (cN (C1 _ _ o)) s λj h1 h2=>rl.at h1 λi hm r=>g.at h2 λk f c=>v9 (he j _ _ hm f) r c;rw[WZ,g.size,sv,l5,Vb,Bool.and_true]at this;rw[sv];exact SeqAt.EqAt.of_refs q this
theorem FE(S:Zah)(o:OV+1<cLine)(h:Dr x ys=Zar)(g:ZG a=some (X8 (.type "list") k n))(g':ZG q=some (X8 (.type "list") c s))(r:ao y x k.toList)(d:ao y ys mx):SeqAt.RcAt m G Zaj (.ref q) b/\SeqAt.RcNeAt m G Zaj (.ref q) (!b):=by
  have l:=Nat.lt_of_succ_lt o;unfold Dr at h;by_cases hl:ZO=TS
  . rw[ZT hl]at h;obtain⟨e,YA,he⟩:=(uU _ _ h).get;rw[YA];have f:k.size=J_:=by rw[b',YE,hl]
    have i:∀j h1(h2:j<J_),P' Uq G k[j] c[j] (e j):=λj h1 h2=>r.at h1 λt hm r=>d.at h2 λu p d=>FP S o (he j _ _ hm p) r d;rw[<-b'];exact⟨SeqAt.RcAt.lists (aq g) (aq g') f l i,SeqAt.RcNeAt.lists (aq g) (aq g') f l i⟩
  . rw[ZY hl]at h;obtain rfl:=ZW h;have f:(k.size !=J_)=true:=by rw[b',YE];exact b_ hl
    exact⟨SeqAt.RcAt.lists_lengths (aq g) (aq g') f l,SeqAt.RcNeAt.lists_lengths (aq g) (aq g') f l⟩
theorem zj:∀(ys:ZaY){b:YZ},jE x ys=Zar->∀y∈ys,∃c,vh y x=Zan:=by
 intro I;induction I with
 |Yl=>
  intro _ _ _ hy;exact nomatch hy|Zp y ys d=>
  intro b h z f;exact aO h λa g h=>aO h λc i h=>(ZI f).elim (λe=>⟨a,e▸g⟩) (d i z)
section
theorem C7(n:aw y q f)(r:aw y k f)(h:vh q x=Zan)(d:vh k x=some i):c=i:=Cw h (λh=>aO h λa j h=>aO h λb hb h=>rE (NU:=λf=>aw y k f->c=i) j n (λt r=>Cw d (λd=>aO d λl g d=>aO d λo m d=>rE (NU:=λf=>Value.int a t=f->c=i) g r (λu e=>by cases e;obtain rfl:=ZW (hb.symm.trans m);exact ZW (m' d)) rfl) λd=>aO d λl g O=>CN (NU:=λf=>Value.int a t=f->c=i) g r (λu e=>nomatch e) rfl) r) λh=>aO h λa j h=>aO h λb hb h=>CN (NU:=λf=>aw y k f->c=i) j n (λt r=>Cw d (λd=>aO d λl g O=>rE (NU:=λf=>rd a t=f->c=i) g r (λu e=>nomatch e) rfl) λd=>aO d λl g d=>aO d λo m d=>CN (NU:=λf=>rd a t=f->c=i) g r (λu e=>by cases e;obtain rfl:=ZW (hb.symm.trans m);exact ZW (m' d)) rfl) r
theorem FF:∀(ys:ZaY){d:Zc4}{b:YZ},ao y ys d->jE x ys=Zar->(∀e m c,m∈ys->aw y m e->vh m x=Zan->f e=c)->d.any f=b:=by
 intro I;induction I with
 |Yl=>
  intro d b r h _;rw[r.vT];exact ZW h|Zp m o g=>
  intro d b r h k;exact aO h λa i h=>aO h λc j h=>ao.cU (NJ:=λd=>d.any f=b) r λl d n rl=>by rw[UD,k l m a Y4 n i,g rl j λe m c hm=>k e m c (ZX _ hm)];exact ZW h
theorem Jr:∀(neg:YZ),g (.bool (b !=neg)) E->g (.bool (U0 neg (!b) b)) E|false,k=>by rw[Bool.bne_false]at k;exact k|true,k=>by rw[Bool.bne_true]at k;exact k
open Classical in theorem uW{x m:MV}{ys:J MV}{b:YZ}{f v:ZP}{K:MV->GH->Prop}(hs:cg F m=some ys)(h:jE x ys=some b)(S:ak u P Zn l F s)(w:aw P x f)(r:aw P m v)(neg:YZ)(k:K (.bool (b !=neg)) F):ZU u.M V (Ca (if neg then .NotIn else .In) f v) (PV u Zn P l K) bz s:=jM (NU:=λv=>ZU u.M V (Ca (if neg then .NotIn else .In) f v) (PV u Zn P l K) bz s) hs S r λa j n g rl=>by
 let e:ZP->YZ:=λy=>decide (∃m,m∈ys/\aw P m y/\vh m x=some true);have y2:∀y m c,m∈ys->aw P m y->vh m x=Zan->e y=c:=λy m c hm hr d=>by cases c with
  |false=>exact Ww λq=>Vm λB q=>nomatch C7 hr q.2.1 d q.2.2|true=>exact Yt ⟨m,hm,hr,d⟩
 have he:∀y,y∈j->P' V.in1 s y f (e y):=λy hy=>by
  obtain⟨i,z,YA⟩:=Array.mem_iff_getElem.mp hy;rw[<-YA];refine rl.at z λm hm o=>?_;obtain⟨c,d⟩:=zj ys h m (YO hm);rw[y2 _ m c (YO hm) o d];exact v9 d o w
 have p:j.any e=b:=by rw[<-Array.any_toList];exact FF ys rl h y2
 have t:=Jr neg k;cases neg with|false=>exact SeqAt.in_listAt e (aq g) he (by rw[p];exact Se S (aE ..) t)|true=>exact SeqAt.notIn_listAt e (aq g) he (by rw[p];exact Se S (aE ..) t)
theorem kH(r:aw y b d):(d==.none)=isNone b:=by cases b with|raw u=>rw[UZ];rfl|int i=>obtain⟨t,rfl⟩:=r.int;rfl|str x=>obtain⟨t,rfl⟩:=sz;rfl|seq c m=>obtain⟨a,e,n,rfl,_⟩:=ho;rfl
theorem pH(h:BJ a=true):a=.raw .none:=by induction a using x4 with
 |raw b=>induction b with|none=>rfl|_=>exact Va h
 |_=>exact Va h
theorem qt(j:OV+1<cLine)(h:yg E l s=Zar)(S:Zab)(r:aw y l d)(i:aw y s f)(neg:YZ)(p:g (.bool (b !=neg)) E):ZU YH m (Ca (if neg then .NotEq else .Eq) d f) Zae bz G:=by
  let C:ZP->ZP->Prop:=λd f=>ZU YH m (Ca (if neg then .NotEq else .Eq) d f) Zae bz G;have k:=Se S (aE y (.bool (U0 neg (!b) b))) (Jr neg p);refine Cw h (λh=>Cw h (λh=>eU h r i C λa c t u e=>?_) λh=>ub h r i C λa c t u e=>?_) λh=>aO h λx hx h=>aO h λys hy h=>jM (NU:=λd=>C d f) hx S r λa B n w rl=>jM hy S i λD F I g' z=>?_;.cases e;cases neg with
    |false=>exact PyProof.Rows.eq_int k|true=>exact PyProof.Rows.ne_int k
  .cases e;cases neg with
    |false=>exact PyProof.Rows.eq_str k|true=>exact PyProof.Rows.ne_str k
  .have q:=FE i2 j h w g' rl z;cases neg with|false=>exact q.1 _ _ _ _ k|true=>exact q.2 _ _ _ _ k
theorem jq(rm:Za3)(h:vR E f s x=Zar)(S:Zab)(r:aw y s l)(d:aw y x q)(i:g (.bool b) E):ZU YH m (Ca f l q) Zae bz G:=by
 walk_at"a";have p:OV+1<cLine:=by have:=rm.units;show OV+1<9900;exact a9 0x7f4f838397c041 [9000,9900] [_,_] [] this
 let C:CmpOp->ZP->ZP->Prop:=λf l q=>ZU YH m (Ca f l q) Zae bz G;have k0:g (.bool (b !=false)) E:=by rw[Bool.bne_false];exact i
 have k:=Se S (aE y (.bool b)) i;walk_at"a";cases f with
 |Lt=>exact eU h r d (C .Lt) λa c t u e=>by cases e;exact PyProof.Rows.lt_int k|LtE=>exact eU h r d (C .LtE) λa c t u e=>by cases e;exact PyProof.Rows.le_int k|Gt=>exact eU h r d (C .Gt) λa c t u e=>by cases e;exact PyProof.Rows.gt_int k|GtE=>exact eU h r d (C .GtE) λa c t u e=>by cases e;exact PyProof.Rows.ge_int k|Eq=>exact qt p h S r d false k0|NotEq=>exact yZ h λc j e=>qt p j S r d true (by rw[Bool.bne_true,e];exact i)|In=>exact aO h λys hy hb=>uW hy hb S r d false k0|NotIn=>exact yZ h λc j e=>aO j λys hy hb=>uW hy hb S r d true (by rw[Bool.bne_true,e];exact i)|Is=>
  exact mA h λhq e=>by
   cases pH hq;rw[d.raw];exact is_none_gen (by rw[kH r,ZW e];exact k)|IsNot=>
  exact mA h λhq e=>by
   cases pH hq;rw[d.raw];exact isnot_none_gen (by rw[kH r,ZW e];exact k)
def lI(G:GH):MV->Zs YZ|.int i=>some (i !=0)|.str x=>if ZO<=ZK then some (decide (ZO≠0))else none|.raw .none=>some false|.raw (.bool b)=>some b|a=>(cg G a).bind λm=>if WM<=ZK then some (!m.isEmpty)else none
theorem Kg(h:cg E (.raw (.ref a))=Zar)(z:Zw<=ZK):lI E (.raw (.ref a))=some (!b.isEmpty):=(Zq (Option.bind . _) h).trans (ZT z)
variable{Nj:YZ->GH->Prop}
theorem PB.now(S:Zab)(k:Nj b E):PB X A y o Nj b {G with Wf:=n}:=⟨y,E,ZbK,Gf n,k⟩
theorem e'(S:Zab)(k:Nj b E):PB X A y o Nj b G:=⟨y,E,ZbK,S,k⟩
theorem qD(S:Zab)(r:aw y f d)(k:Nj b E)(h:((cg E f).bind λc=>if Yv<=ZK then some (!c.isEmpty)else none)=Zar):ZU YH m (ib d) ZcT bz G:=aO h λc hs h=>mA h λe h=>jM (NU:=λd=>ZU YH m (ib d) ZcT bz G) hs S r λa i n g rl=>by
  refine wpAny_truthy_list (aq g) (by rw[WZ];exact a9 0xfe9f30e5e1 [16777216,9223372036854775808] [_] [] (e:Yv<=16777216)) (PB.now S ?_);have:i.isEmpty=c.isEmpty:=by rw[Bool.eq_iff_iff,Array.isEmpty_iff_size_eq_zero,List.isEmpty_iff_length_eq_zero,WZ]
  rw[this,ZW h];exact k
theorem iM(h:lI E d=Zar)(S:Zab)(r:aw y d f)(k:Nj b E):ZU YH m (ib f) ZcT bz G:=by
 walk_at"a";cases d with
 |raw u=>induction u with
  |none=>cases h;cases UZ;exact truthy_none (e' S k)|bool=>cases h;cases UZ;exact UN (e' S k)|ref a=>exact qD S r k h|_=>exact ax h
 |int i=>cases h;obtain⟨t,rfl⟩:=r.int;exact PySem.P.truthy_int (e' S k)|str x=>
  exact mA h λhs e=>by
   obtain⟨t,YA⟩:=sz;rw[YA];refine PySem.P.truthy_str (Kf hs) (PB.now S ?_);have:((ZO:Zv)!=0)=decide (ZO≠0):=by
    by_cases hx:ZO=0;.rw[hx];rfl
    .rw[Yt hx];exact b_ λe=>hx (Int.ofNat.inj e)
   rw[this,ZW e];exact k|seq c g=>exact qD S r k h
end
def ml(G:GH):MV->Zs ZaY|.seq c m=>if c=Zad\/c=.type "tuple"then some m else none|a=>cg G a
def bS(G:GH)(a i:MV):Zs MV:=(intOf i).bind λk=>(ml G a).bind λm=>if-(2^62)<=k/\k<2^62 then(U' k WM).bind (m[.]?)else none
def l8(G:GH):MV->Zs U|.str x=>some ZO|m=>(ml G m).map (·.length)
def ko(G:GH)(f:ZP)(args:ZaY):Zs MV:=match args with|[m]=>if f=.builtin "len"then(l8 G m).bind λn=>if n<=ZK then some Zbp else none else if f=.builtin "abs"then(intOf m).bind λi=>some (.int (if i<0 then-i else i))else if f=.builtin "chr"then(intOf m).bind λi=>if 0<=i/\i<=1114111 then some (.str ⟨#[i.toNat]⟩)else none else if f=.type "str"then(intOf m).bind λi=>if p8<1920 then some (.str (WY (b7 i)))else none else none|[m,c]=>if f=.builtin "divmod"then jx m c λa b=>if b≠0/\b.natAbs<1073741824 then some (.tup [.int (a.fdiv b),.int (a.fmod b)])else none else if f=.builtin "max"then jx m c λa b=>some (.int (if b>a then b else a))else if f=.builtin "min"then jx m c λa b=>some (.int (if b<a then b else a))else none|_=>none
def vK(f:Z):Zs ZP:=if f=("len")then some Zaz else if f=("abs")then some (.builtin "abs")else if f=("chr")then some (.builtin "chr")else if f=("divmod")then some (.builtin "divmod")else if f=("max")then some (.builtin "max")else if f=("min")then some (.builtin "min")else if f=("str")then some Zb' else none
def Q'(b:Zck):Prop:=∀f a,vK f=ZaB->VY f=none/\U9 f=some a
def Fq:hk->Zs MV|.none=>some .none|.bool b=>some (.bool b)|.int i=>some Zbs|.str x=>some (.str x)|_=>none
def B1(x:Z):YZ:=x !=("__debug__")&&x !=("__classdict__")
def jF(G:GH)(a:Zs MV):Zs MV×Zs YZ:=(a,a.bind (lI G))
set_option backward.match.sparseCases false in def H9:Wx->Zs Z×hk×YZ|.Name x _=>(some x,.none,false)|.Constant c _ _=>(none,c,false)|.Starred _ _=>(none,.none,true)|_=>(none,.none,false)
theorem JG{Q:Wx->Zs Z×hk×YZ->Prop}(name:∀x p,Q (.Name x p) (Zak,.none,false))(g:∀c k p,Q (.Constant c k p) (none,c,false))(star:∀e p,Q (.Starred e p) (none,.none,true))(hi:∀a b c p,Q (.Slice a b c p) (none,.none,false))(XG:∀e,(∀d Zn,Zr (e::d) Zn=(false,ZH e Zn)::Zr d Zn)->(∀o f,subscripted e false o f=operate [o,f] (l4 o f))->Q e (none,.none,false))(e:Wx):Q e (H9 e):=by induction e using Expr.casesOn with|Name x p=>exact name x p|Constant c k p=>exact g c k p|Starred e p=>exact star e p|Slice a b c p=>exact hi a b c p|_=>exact XG _ (λO O=>rfl) λO O=>rfl
def AV(e:Wx):Zs Z:=(H9 e).1
def isStar(e:Wx):YZ:=(H9 e).2.2
def Jg(c:hk):Zs Zv:=match c with|.int i=>some i|_=>none
def litOf(e:Wx):Zs Zv:=Jg (H9 e).2.1
abbrev PQ:=Wx->Zs MV×Zs YZ
def F5(r:PQ)(d:J Wx):Zs ZaY:=d.foldr (λe k=>if isStar e then none else(r e).1.bind λx=>k.bind λa=>some (x::a)) (some [])
def Mn(r:PQ)(o:BoolOp)(d:J Wx):Zs YZ:=d.foldr (λe k=>(r e).2.bind λc=>if c=(o==.And)then k else some c) (some (o==.And))
def Cp{α:Type}:J α->Zs α|[a]=>some a|_=>none
theorem xp{α:Type}{a:α}:∀{l:J α},Cp l=ZaB->l=[a]|[_],e=>Zq (λa=>[a]) (ZW e)
set_option backward.match.sparseCases false in def Mr(gl:J Z)(l:YV)(G:GH)(r:PQ):PQ|.Constant c _ _=>jF G (Fq c)|.Name x _=>jF G (if B1 x then Wq x else none)|.BinOp a o b _=>jF G ((r a).1.bind λx=>(r b).1.bind λy=>vf G o x y)|.Compare a ops bs _=>let q:=((Cp ops).bind λo=>(Cp bs).bind λb=>if OU o b then none else(r a).1.bind λx=>(r b).1.bind λy=>vR G o x y);(q.map .bool,q)|.UnaryOp .Not x _=>((r x).1.bind λj=>(lI G j).map λb=>.bool !b,(r x).2.map (!.))|.UnaryOp .USub e _=>jF G ((litOf e).bind λi=>some (.int (-i)))|.IfExp t a b _=>((r t).2.bind λc=>if c then(r a).1 else(r b).1,(r t).2.bind λc=>if c then(r a).2 else(r b).2)|.BoolOp o d _=>(none,Mn r o d)|.Subscript j i _=>jF G ((r j).1.bind λx=>(r i).1.bind λy=>bS G x y)|.Tuple d _ _=>jF G ((F5 r d).bind λg=>if K1<=ZK then some (.tup g)else none)|.List d _=>jF G ((F5 r d).bind λg=>if K1<=ZK then some (.lst g)else none)|.Call f (e::d) [] _=>jF G ((AV f).bind λf=>if sq f then(vK f).bind λk=>(F5 r (e::d)).bind λg=>ko G k g else none)|_=>(none,none)
def pq(gl:J Z)(l:YV)(G:GH):PQ:=Og (motive:=λO=>PQ) (λO=>(none,none)) (λO r=>Mr gl l G r) 16
abbrev pe(gl:J Z)(l:YV)(G:GH)(e:Wx):Zs MV:=(pq gl l G e).1
abbrev pb(gl:J Z)(l:YV)(G:GH)(e:Wx):Zs YZ:=(pq gl l G e).2
abbrev GC(i:Wx):Prop:=subscripted i false=λo a=>operate [o,a] (l4 o a)
theorem kB(h:∀a b p,i≠.Slice a b none p):GC i:=funext λo=>funext λd=>JG (Q:=λi O=>(∀a b p,i≠.Slice a b none p)->subscripted i false o d=operate [o,d] (l4 o d)) (λO O O=>rfl) (λO O O O=>rfl) (λO O O=>rfl) (λa b c p h=>(by cases c with|none=>exact Za rfl (h a b p)|some _=>rfl)) (λO O h O=>h o d) i h
theorem zH(a:0<=k)(h:U' k n=Zar):b=k.toNat:=by
 unfold U' at h;rw[ZY (Int.not_lt.mpr a)]at h;exact mA h λO e=>(ZW e).symm
theorem yh(a:k<0)(h:U' k n=Zar):-(n:Zv)<=k:=by
 unfold U' at h;rw[ZT a]at h;exact mA h λq O=>J6 ((Bool.and_eq_true_iff.mp q).imp Zi Zi)
theorem oO(d:ZG a=some (X8 (.type "list") f n))(rl:ao y i f.toList)(e:-(2^62)<=k/\k<2^62)(h:(U' k W6).bind (i[.]?)=some l)(S:Zab)(hq:g l E)(hs:GC hi):ZU YH m (Gb UY hi (.ref a) (.int k q)) Zae bz G:=aO h λj hj hr=>by
  walk_at"a";obtain⟨u,p,r⟩:=ia j hr;refine tail_any (aq d).typeIs slot_list_getitem.lookup ?_ (VJ (VJ hs _) _);have c:f[j]?=some u:=lx p;clear hr;by_cases b:0<=k;.rw[zH b hj]at c;exact wpAny_getItem_list (aq d) b (Lm e) c (Se S r hq)
  .have b:=MT b;have h1:=yh b hj;rw[seqIndex_neg b h1]at hj;obtain rfl:=ZW hj;rw[<-WZ]at c h1;exact wpAny_getItem_list_neg (aq d) b h1 (Ld e) c (Se S r hq)
theorem rn(b:ZG a=some (X8 (.type "tuple") f n))(rl:ao y c f.toList)(d:-(2^62)<=k/\k<2^62)(h:(U' k Yv).bind (c[.]?)=Za2)(S:Zab)(hq:g r E)(hs:GC hi):ZU YH m (Gb UY hi (.ref a) (.int k l)) Zae bz G:=aO h λj hj hr=>by
 obtain⟨u,e,i⟩:=ia j hr;exact tail_any (T:="tuple") ⟨_,b,rfl⟩ F.slot_tuple_getitem.lookup (PySem.P.getItem_tuple b (a9 0x1fcab0fee9eacab0f [4611686018427387904,4611686018427387904,9223372036854775808] [] [_] d) (a9 0x7f4f5f74f5e56a [4611686018427387904,9223372036854775808] [] [_,_] d) (by rw[WZ];exact hj) (lx e) (Se S i hq)) (VJ (VJ hs _) _)
theorem HV(h:ml E d=Zbe)(S:Zab)(r:aw y d l)(k:∀a b n,ZG a=some Zau->ao y f Kb->NU Zaj)(j:∀a b n,ZG a=some ZcI->ao y f Kb->NU Zaj):NU l:=by cases d with
 |raw l=>exact jM h S r k|int i=>exact jM (d:=Zbs) h S r k|str x=>exact jM (d:=.str x) h S r k|seq c m=>
  exact mA h λq e=>by
   clear h;cases e;obtain⟨a,b,n,YA,p,rl⟩:=ho;rw[YA];clear r;rcases q with rfl|rfl;.exact k a b n (Yg _ _ p) rl
   .exact j a b n (Yg _ _ p) rl
theorem vC(h:bS E f i=Za2)(S:Zab)(rm:aw y f b)(j:aw y i c)(k:g r E)(hs:GC hi):ZU YH m (Gb UY hi b c) Zae bz G:=aO h λl p h=>aO h λs hm h=>mA h λe h=>rE (NU:=λc=>ZU YH m (Gb UY hi b c) Zae bz G) p j λt=>HV (NU:=λb=>ZU YH m (Gb UY hi b (.int l t)) Zae bz G) hm S rm (λa q n d rl=>oO d rl e h S k hs) λa q n d rl=>rn d rl e h S k hs
theorem jm(h:l8 E c=Zc0)(hn:n<=ZK)(S:Zab)(r:aw y c b)(k:g Zbp E):ZU YH m (VP Zaz [b]) Zae bz G:=by
 have d:=hn;have s:(ml E c).map (·.length)=Zc0->ZU YH m (VP Zaz [b]) Zae bz G:=λh=>yZ h λj hm e=>by
  walk_at"a";subst e;exact HV (NU:=λb=>ZU YH m (VP Zaz [b]) Zae bz G) hm S r (λa i n f rl=>len_list (aq f) (by rw[WZ];exact a9 0xfe9f30e5e1 [16777216,9223372036854775808] [_] [] d) (UW S (by rw[WZ];exact a0 ..) k)) λa i n f rl=>PySem.P.len_tuple f (by rw[WZ];exact Kf d) (UW S (by rw[WZ];exact a0 ..) k)
 induction c using x4 with|str x=>cases h;obtain⟨t,rfl⟩:=sz;exact PySem.P.len_str (Kf d) (UW S (a0 ..) k)|_=>exact s h
theorem w4{α:Type}[Oa c]{o d:Zs α}{r:α}(h:(if c then o else d)=Za2){a:Prop}(k:c->o=Za2->a)(e:d=Za2->a):a:=by
 by_cases b:c;.rw[ZT b]at h;exact k b h
 .rw[ZY b]at h;exact e h
theorem jY(rm:Za3)(h:ko E f q=some F)(S:Zab)(rl:ao y q l)(k:g F E):ZU YH m (VP f l) Zae bz G:=by
  walk_at"a";let C:Zc4->Prop:=λl=>ZU YH m (VP f l) Zae bz G;let B:T7->ZP->Prop:=λf j=>ZU YH m (VP (.builtin f) [j]) Zae bz G;let w:T7->ZP->ZP->Prop:=λf j x=>ZU YH m (VP (.builtin f) [j,x]) Zae bz G;cases q with
  |Yl=>exact ax h|Zp N q=>cases q with
    |Yl=>
      refine rl.cU λj l r rl=>rl.jX (NJ:=λl=>C (j::l)) (w4 h (λd h=>?_) λh=>w4 h (λd h=>?_) λh=>w4 h (λd h=>?_) λh=>w4 h (λd h=>?_) ax);.subst d;exact aO h λQ hl h=>mA h λhn e=>jm hl hn S r Zbv
      .subst d;exact aO h λi p h=>rE (NU:=B _) p r λt=>call_abs_int λu D=>UW S (a0 ..) (kE h k)
      .subst d;exact aO h λi p h=>mA h λhr e=>rE (NU:=B _) p r λt=>chr_of_range hr.1 hr.2 (UW S (bp ..) Zbv)
      .subst d;exact aO h λi p h=>mA h λhr e=>rE (NU:=λj=>ZU YH m (VP Zb' [j]) Zae bz G) p r λt=>PySem.P.str_of_int hr (UW S (bp ..) Zbv)|Zp T q=>cases q with
      |Yl=>
        refine rl.cU λj l r rl=>rl.cU (NJ:=λl=>C (j::l)) λx l z rl=>rl.jX (NJ:=λl=>C (j::x::l)) (w4 h (λd h=>?_) λh=>w4 h (λd h=>?_) λh=>w4 h (λd h=>?_) ax);.subst d;exact eU h r z (w _) λa b t u h=>mA h λhb e=>divmod_int hb.1 (PV.Fn S (.cons (a0 ..) (.one (a0 ..))) Zbv) (.inl (PyProof.noPylong_small hb.2))
        . subst d;refine eU h r z (w _) λa b t u e=>PySem.max_two_ints YQ λI D s=>?_;have k:=kE e k;by_cases c:b>a;.rw[ZT c]at k⊢;exact PV.grow S s (a0 ..) k
          .rw[ZY c]at k⊢;exact PV.grow S s (a0 ..) k
        . subst d;refine eU h r z (w _) λa b t u e=>PySem.min_two_ints YQ λI D s=>?_;have k:=kE e k;by_cases c:b<a;.rw[ZT c]at k⊢;exact PV.grow S s (a0 ..) k
          .rw[ZY c]at k⊢;exact PV.grow S s (a0 ..) k|Zp=>exact ax h
inductive J5(o:l')(K:MV->GH->Prop)(x y:MV)(G:GH):Prop where|mk(r:MV)(h:vf G o x y=Za2)(k:K r G)
inductive Hg(o:CmpOp)(K:YZ->GH->Prop)(x y:MV)(G:GH):Prop where|mk(c:YZ)(h:vR G o x y=Zan)(k:K c G)
inductive Jk(K:MV->GH->Prop)(x y:MV)(G:GH):Prop where|mk(r:MV)(h:bS G x y=Za2)(k:K r G)
inductive HJ(K:YZ->GH->Prop)(x:MV)(G:GH):Prop where|mk(c:YZ)(h:lI G x=Zan)(k:K c G)
structure TF(p q:Prop)(c:YZ):Prop where
 t:c=true->p
 f:c=false->q
abbrev LL(K:MV->GH->Prop)(c:YZ)(G:GH):Prop:=K (.bool c) G
structure FT(p q:Prop)(c:YZ):Prop where
 f:c=false->p
 t:c=true->q
abbrev AZ(X:Cx)(A:X5)(Zn:S2)(b:Wx)(l:YV)(Q:MV->MV->GH->Prop):MV->GH->Prop:=λx G=>EV X A Zn (ZH b Zn) l G (Q x)
theorem EV.C8{f:ZP->ZP->p_ α}{R:α->Zb->Prop}(h:EV X m A Zc_ o E (AZ X m A b o l))(S:Zab)(k:∀N Nc c d x e w,Zbq->aw N x c->aw N e d->ak X N A o w Nc->l x e w->ZU YH m (f c d) R bz Nc):ZU YH m Zc_ (λc g=>ZU YH m Zcg (λd s=>ZU YH m (f c d) R bz s) bz g) bz G:=W1 S λC g c x D j r n p=>p.use n λq s d e t a u z B=>k q s c d x e t (fi a) (Tp a) u z B
theorem IS(le:Zbq)(h:ZU YH m a (PV X A N o g) bz G):ZU YH m a Zae bz G:=ZS h (λO O q=>mc le) λO O q=>q
variable{Nj:YZ->GH->Prop}
theorem Ht(le:Zbq)(h:ZU YH m a (PB X A N o Nj) bz G):ZU YH m a ZcT bz G:=ZS h (λO O q=>mc le) λO O q=>q
theorem YU(h:EV X m A Zb6 o E (AZ X m A b o (J5 d g))):EV X m A (ZH (.BinOp c d b Ym) A) o E g:=λn s S=>wpAny_BinOp (h.C8 S λr a p w x y i le e f j l=>by obtain⟨_,h,k⟩:=l;exact IS le (yE h j e f k))
theorem EV.cmp(rm:Za3)(h:EV X m A ZbX o E (AZ X m A b o (Hg c (LL g))))(hm:Z3 (OU c b=false) aW):EV X m A (ZH (.Compare d [c] [b] Ym) A) o E g:=λp s S=>wpAny_Compare1 (h.C8 S λr a q w x y i le e f j l=>by obtain⟨_,h,k⟩:=l;exact IS le (jq rm h j e f k)) hm
theorem XC(rm:Za3)(h:EV X m A (ZH f A) o E (AZ X m A b o (Hg d Nj)))(hm:Z3 (OU d b=false) aW):EB X m A (XE (.Compare f [d] [b] Ym) A Up) o E Nj:=λI s S=>wpAny_isTrue_Compare1 (h.C8 (f:=λe w=>Ca d e w) S λr a e w x y i le j l p⟨c,h,t⟩=>ZS (jq (g:=λz i=>z=.bool c/\Nj c i) rm h p j l ⟨rfl,t⟩) (λu M⟨B,N,G,C,D,F,k⟩=>by
   cases(k.1▸D).raw;exact UN ⟨B,G,b6 C,F,k.2⟩) λO O q=>q) hm
theorem Tn(h:EV X m A Zcg o E (HJ Nj))(he:Z3 (ZbZ=(do let c<-ZH b A;VT b.pos;T8 [c] (ib c))) aR):EB X m A ZbZ o E Nj:=λf s S=>isTrue_plain (W1 S λg i c x G a r d e=>by obtain⟨_,h,k⟩:=e;exact Ht a (iM h d r k)) he
theorem EB.rC(h:EB X m A ZbZ o E λc G=>Nj (!c) G):EB X m A (XE (.UnaryOp .Not b Ym) A Up) o E Nj:=λf s S=>isTrue_not (W1 S λd g c G a e k=>⟨d,G,a,e,k⟩)
abbrev LR(X:Cx)(A:X5)(Zn:S2)(d:J Wx)(Ym:ix)(Up:p_ ZP)(l:YV)(K:YZ->GH->Prop):YZ->GH->Prop:=λc G=>TF (EB X A Zn (XE (.BoolOp .And d Ym) Zn Up) l G K) (K false G) c
abbrev M9(X:Cx)(A:X5)(Zn:S2)(d:J Wx)(Ym:ix)(Up:p_ ZP)(l:YV)(K:YZ->GH->Prop):YZ->GH->Prop:=λc G=>FT (EB X A Zn (XE (.BoolOp .Or d Ym) Zn Up) l G K) (K true G) c
theorem VS(h:EB X m A ZbZ o E (LR X m A d Ym Up o Nj)):EB X m A (XE (.BoolOp .And (b::d) Ym) A Up) o E Nj:=λi j g=>isTrue_and (W1 g λe s c G a S k=>by cases c with|true=>exact Ht a (k.t rfl e s S)|false=>exact⟨e,G,a,S,k.f rfl⟩)
theorem EB.CV(h:EB X m A ZbZ o E (M9 X m A d Ym Up o Nj)):EB X m A (XE (.BoolOp .Or (b::d) Ym) A Up) o E Nj:=λi j g=>isTrue_or (W1 g λe s c G a S k=>by cases c with|false=>exact Ht a (k.f rfl e s S)|true=>exact⟨e,G,a,S,k.t rfl⟩)
theorem u_(h:Nj true E):EB X m A (XE (.BoolOp .And [] Ym) A Up) o E Nj:=λa s S=>isTrue_and_nil (e' S h)
theorem EB.Jx(h:Nj false E):EB X m A (XE (.BoolOp .Or [] Ym) A Up) o E Nj:=λa s S=>isTrue_or_nil (e' S h)
abbrev Kr(X:Cx)(A:X5)(Zn:S2)(a b:Wx)(l:YV)(K:MV->GH->Prop):YZ->GH->Prop:=λc G=>TF (EV X A Zn (ZH a Zn) l G K) (EV X A Zn (ZH b Zn) l G K) c
theorem EV.ER(h:EB X m A (XE d A (ZH d A)) o E (Kr X m A i b o g)):EV X m A (ZH (.IfExp d i b Ym) A) o E g:=λl n j=>IfExp_ (W1 j λe s c G a S k=>by cases c with|true=>exact IS a (k.t rfl e s S)|false=>exact IS a (k.f rfl e s S))
theorem EB.ER(h:EB X m A (XE d A (ZH d A)) o E λc G=>TF (EB X m A (XE a A (ZH a A)) o G Nj) (EB X m A (XE b A (ZH b A)) o G Nj) c):EB X m A (XE (.IfExp d a b Ym) A Up) o E Nj:=λj l i=>isTrue_IfExp (W1 i λe s c G g S k=>by cases c with|true=>exact Ht g (k.t rfl e s S)|false=>exact Ht g (k.f rfl e s S))
theorem EV.rC(h:EV X m A ZbX o E (HJ λb G=>g (.bool !b) G)):EV X m A (ZH (.UnaryOp .Not d Ym) A) o E g:=λu s S=>UnaryOp_ (W1 S λw y z x G a r e⟨b,h,k⟩=>not_of (ZS (iM (Nj:=λc i=>g (.bool !c) i) h e r k) (λc B f=>by obtain⟨j,l,n,p,t⟩:=f;exact⟨j,.bool !c,l,V8 n,aE ..,p,t⟩) λO O q=>q))
theorem EV.neg(h:g (.int (-i)) E):EV X m A (ZH (.UnaryOp .USub (.Constant (.int i) k a) Ym) A) o E g:=λb s S=>UnaryOp_ (wpAny_Constant_int (neg_int (UW (n:=Ur+1+1) (Gf (Ur+1)) (a0 ..) h)))
theorem Ys(h:EV X m A Zb6 o E (AZ X m A b o (Jk g)))(hs:Z3 (GC b) aR):EV X m A (ZH (.Subscript c b Ym) A) o E g:=λl s S=>Subscript_ (h.C8 S λr a u w x y i le d e f j=>by obtain⟨_,h,k⟩:=j;exact IS le (vC h f d e k hs))
variable{N1:Model}{Pp:ZP->Zb->Prop}{Np:ix}{Ng:Wx}{NP:J Wx}{NH:ZP}
theorem xA{E:ZP->Zb->Prop}(a:(∃id,NH=ZaL)\/∃T,NH=ZaX)(h:ZU N1 m (spliced (UE Np (Zr (Ng::NP) A))) (λb s=>ZU N1 m (VP NH b) Pp E s) E G)(he:Zr (Ng::NP) A=(false,ZaF)::Zr NP A)(hp:(UE Np (Zr NP A)).any (·.1)=false):ZU N1 m (OP Np NH [] (UE Np (Zr (Ng::NP) A)) []) Pp E G:=by
 rcases a with⟨id,rfl⟩|⟨T,rfl⟩;.exact callWith_builtin1 h he hp
 .exact callWith_type1 h he hp
theorem b5(b:Zck)(j:Xs i=Zaa)(hn:VY i=none)(hv:U9 i=Zbe)(n:(∃id,f=ZaL)\/∃T,f=ZaX)(h:EA X m A (l::d) o E λe w=>∀y G c,ak X y A o w G->ao y e c->ZU YH m (VP f c) Zae bz G)(p:Z3 ((i==("__debug__"))=false) aD)(he:ZcX)(hp:Z3 (nO A d) aI):EV X m A (ZH (.Call (.Name i F) (l::d) [] Ym) A) o E g:=λy G S=>by
 walk_at"a";refine sL ?_ rfl;walk_at"a";refine(p9 (g:=λt w=>t=.raw f/\w=E) b j hn hv ⟨rfl,rfl⟩ p).use S λI N Q mv V a r u k=>?_;clear hv;cases k.1;cases k.2;cases UZ;exact xA n ((h Ym).use u (b:=λc s=>ZU YH m (VP f c) Zae bz s) λx s c e PM z B C D=>ZS (D x s c C B) (λO O q=>mc (V8 z)) λO O q=>q) he (hp Ym)
section
variable{u:Cx}{V:X5}{Zn:S2}{gl:J Z}{l:YV}{F:GH}
structure IU(u:Cx)(V:X5)(Zn:S2)(l:YV)(F:GH)(q:Zs MV×Zs YZ)(e:Wx):Prop where
 v:∀mv,q.1=ZaS->∀K:MV->GH->Prop,K mv F->EV u V Zn (ZH e Zn) l F K
 b:∀c,q.2=Zan->∀K:YZ->GH->Prop,K c F->EB u V Zn (XE e Zn (ZH e Zn)) l F K
theorem eR(hv:∀mv,d=ZaS->∀K:MV->GH->Prop,K mv F->EV u V Zn (ZH a Zn) l F K)(he:Z3 (XE a Zn (ZH a Zn)=(do let d<-ZH a Zn;VT a.pos;T8 [d] (ib d))) aR):IU u V Zn l F (jF F d) a:=⟨hv,λc e K k=>Tn (aO e λm hm ht=>hv m hm _ ⟨c,ht,k⟩) he⟩
theorem nZ:IU u V Zn l F (none,none) a:=⟨λO a=>(nomatch a),λO a=>(nomatch a)⟩
theorem zW:∀{e:Wx},AV e=Zak->∃p,e=.Name x p:=λ{e}=>JG (Q:=λe r=>r.1=Zak->∃p,e=.Name x p) (λy p h=>⟨p,Zq (Expr.Name . p) (ZW h)⟩) (λO O O=>ax) (λO O=>ax) (λO O O O=>ax) (λO O O=>ax) e
theorem Au:∀{e:Wx},litOf e=some i->∃k p,e=.Constant Zbs k p:=λ{e}=>JG (Q:=λe r=>Jg r.2.1=some i->∃k p,e=.Constant Zbs k p) (λO O=>ax) (λc k p=>by induction c with|int=>exactλh=>(Vo k p (Zq (λi=>Expr.Constant Zbs k p) (ZW h)))|_=>exact ax) (λO O=>ax) (λO O O O=>ax) (λO O O=>ax) e
theorem noStar(h:¬isStar a=true)(d:J Wx):Zr (a::d) Zn=(false,ZH a Zn)::Zr d Zn:=JG (Q:=λa r=>¬r.2.2=true->Zr (a::d) Zn=(false,ZH a Zn)::Zr d Zn) (λO O O=>rfl) (λO O O O=>rfl) (λO O h=>Za rfl h) (λO O O O O=>rfl) (λO h O O=>h d Zn) a h
theorem mE(h:F5 r (c::d)=Zbe){e:Prop}(k:∀x a,Zr (c::d) Zn=(false,ZH c Zn)::Zr d Zn->(r c).1=Zak->F5 r d=ZaB->x::a=f->e):e:=JD h λhn h=>aO h λx hx h=>aO h λa g h=>k x a (noStar hn d) hx g (ZW h)
theorem y3(d:J Wx):∀{m:ZaY},F5 r d=Zcd->∀Ym,(UE Ym (Zr d Zn)).any (·.1)=false:=by induction d with|Yl=>exactλO O=>rfl|Zp e d i=>exactλh Ym=>mE h λx c he O a O=>by rw[he];exact i a Ym
theorem mY(d:vK q=Zbe):(q=="__debug__")=false/\((∃id,f=ZaL)\/∃T,f=ZaX):=by
  refine⟨Yu ?_,?_⟩
  . intro m;subst m;have e:vK "__debug__"=none:=by rfl
    exact ax (OX d)
  . have g:∀{c:Prop}[Oa c]{i:ZP}{o:Zs ZP},(if c then some i else o)=Zbe->((∃id,i=ZaL)\/∃T,i=ZaX)->(o=Zbe->(∃id,f=ZaL)\/∃T,f=ZaX)->(∃id,f=ZaL)\/∃T,f=ZaX:=λ{c}_{i o}h a k=>by
      clear d;by_cases j:c;.rw[ZT j]at h;cases h;exact a
      .rw[ZY j]at h;exact k h
    unfold vK at d;exact g d (.inl ⟨_,rfl⟩) λd=>g d (.inl ⟨_,rfl⟩) λd=>g d (.inl ⟨_,rfl⟩) λd=>g d (.inl ⟨_,rfl⟩) λd=>g d (.inl ⟨_,rfl⟩) λd=>g d (.inl ⟨_,rfl⟩) λd=>g d (.inr ⟨_,rfl⟩) λd=>nomatch d
variable(b:V1 u)(hb:ZcS){n:U}(rm:Rm u V n)(hg:∀f,sq f=true->YJ f=Zaa)
include b hb rm hg
theorem Eb(r:PQ)(S:∀e,IU u V Zn l F (r e) e)(PT:∀a b p,(r (.Slice a b none p)).1=none)(e:Wx):IU u V Zn l F (Mr gl l F r e) e:=by
 have s:∀d m,F5 r d=Zcd->∀K:ZaY->GH->Prop,K m F->EA u V Zn d l F K:=λd=>by induction d with
  |Yl=>exactλm h K q=>Y5 (ZW h▸q)|Zp e d D=>exactλm h K q=>mE h λx Q he hx E I=>Zu ((S e).v x hx _ (D Q E _ (I▸q))) he
 induction e using Expr.casesOn with
 |Constant c k Ym=>
  exact eR λmv h K q=>by induction c with
   |none=>cases h;exact K4 q|bool=>cases h;exact EV.BB q|int=>cases h;exact X2 q|str=>cases h;exact Wb q|_=>cases h
 |Name x Ym=>
  exact eR λmv h K q=>mA h λB h=>have B:=Bool.and_eq_true_iff.mp B
   Z4 h q (Yu (p7 B.2)) (Yu (p7 B.1))|BinOp x o y Ym=>exact eR λmv h K q=>aO h λj w h=>aO h λg hv h=>YU ((S x).v j w _ ((S y).v g hv _ ⟨mv,h,q⟩))|Compare x ops ys Ym=>
  have go:∀{c},((Cp ops).bind λo=>(Cp ys).bind λb=>if OU o b then none else(r x).1.bind λx=>(r b).1.bind λy=>vR F o x y)=Zan->∀{M:Prop},(∀o y j g,ops=[o]->ys=[y]->OU o y=false->(r x).1=ZbC->(r y).1=some g->vR F o j g=Zan->M)->M:=λh M k=>aO h λo B h=>aO h λy hy h=>JD h λhm h=>aO h λj w h=>aO h λg hv h=>k o y j g (xp B) (xp hy) (Bool.eq_false_iff.mpr hm) w hv h;exact⟨λmv h K q=>yZ h λc t e=>go t λo y j g e1 e2 hm w hv C=>by subst e1;subst e2;exact EV.cmp rm ((S x).v j w _ ((S y).v g hv _ ⟨c,C,(show K (.bool c) F from e▸q)⟩)) hm,λc h K q=>go h λo y j g e1 e2 hm w hv t=>by subst e1;subst e2;exact XC rm ((S x).v j w _ ((S y).v g hv _ ⟨c,t,q⟩)) hm⟩|UnaryOp o x Ym=>induction o with
  |Not=>exact⟨λmv h K q=>aO h λg hv ht=>yZ ht λc t e=>EV.rC ((S x).v g hv _ ⟨c,t,(show K (.bool !c) F from e▸q)⟩),λc h K q=>yZ h λPW t e=>EB.rC ((S x).b PW t _ (e▸q))⟩|USub=>exact eR λmv h K q=>aO h λT PX h=>ex2 (Au PX) λk p e=>by rw[e];exact EV.neg (ZW h▸q)|_=>exact nZ
 |IfExp PM x y Ym=>exact⟨λmv h K q=>aO h λc t h=>EV.ER ((S PM).b c t _ ⟨λe=>(S x).v mv ((ZT e).symm.trans h) _ q,λe=>(S y).v mv ((ZY (qn e)).symm.trans h) _ q⟩),λmv h K q=>aO h λc t h=>EB.ER ((S PM).b c t _ ⟨λe=>(S x).b mv ((ZT e).symm.trans h) _ q,λe=>(S y).b mv ((ZY (qn e)).symm.trans h) _ q⟩)⟩|BoolOp o d Ym=>
  refine⟨λmv h K q=>(nomatch h),λc h K q=>?_⟩;have sB:∀d:J Wx,Mn r o d=Zan->∀Up,EB u V Zn (XE (.BoolOp o d Ym) Zn Up) l F K:=λd=>by induction d with
   |Yl=>
    exactλh O=>by
     have e:=ZW h;cases o with
     |And=>exact u_ ((show true=c from e)▸q)|Or=>exact EB.Jx ((show false=c from e)▸q)
   |Zp e d D=>exactλh Up=>aO h λPN hd h=>by cases o with|And=>exact VS ((S e).b PN hd _ ⟨λz=>D (by subst z;exact h) Up,λz=>by subst z;exact ZW h▸q⟩)|Or=>exact EB.CV ((S e).b PN hd _ ⟨λz=>D (by subst z;exact h) Up,λz=>by subst z;exact ZW h▸q⟩)
  exact sB d h _|Subscript x T Ym=>exact eR λmv h K q=>aO h λj w h=>aO h λg hv h=>Ys ((S x).v j w _ ((S T).v g hv _ ⟨mv,h,q⟩)) (kB λa c p e=>by subst e;cases(PT a c p).symm.trans hv)|Tuple d k Ym=>exact eR λmv h K q=>aO h λm hm h=>mA h λC h=>TL (s d m hm _ ⟨C,ZW h▸q⟩)|J d Ym=>exact eR λmv h K q=>aO h λm hm h=>mA h λC h=>Uw (s d m hm _ ⟨C,ZW h▸q⟩)|Call f d i Ym=>cases d with
  |Yl=>exact nZ|Zp e d=>cases i with
   |Yl=>
    exact eR λmv PR K q=>aO PR λx hn PY=>mA PY λPZ P0=>aO P0 λPS N P2=>aO P2 λm hm h=>mE (Zn:=Zn) hm λO Q he O E O=>Su (zW hn) λp I=>by
      clear PR hn;rw[I];have k:=mY N;exact b5 b (hg x PZ) (hb x PS N).1 (hb x PS N).2 k.2 (s (e::d) m hm _ λP4 P5 P6 S r=>jY rm h S r q) k.1 he (y3 d E)|Zp=>exact nZ
 |_=>exact nZ
theorem Cc(e:Wx):IU u V Zn l F (pq gl l F e) e:=by
 unfold pq;generalize 16=n at⊢;revert e;induction n with|VZ=>exactλO=>nZ|VC n i=>exact Eb b hb rm hg _ i λa b p=>by cases n<;>rfl
end
def A8(c:aT)(a:Y9):aT:=λb o=>c b o/\b≠a
theorem ak.Iy(S:Zab)(p:y a ob)(hn:¬ly ob):ak X (A8 y a) A o E G/\(∀mv i,aw y mv i->aw (A8 y a) mv i)/\∀mv i,ao y mv i->ao (A8 y a) mv i:=by
  have l:lV y (A8 y a):=λb d st h=>⟨h,λe=>by
    subst e;exact hn ((ZW ((Yg _ _ p).symm.trans (Yg _ _ h)))▸st)⟩;have k:=l.q;walk_at"l";refine⟨⟨⟨mu l (λd e=>e.1),K2,λb d e=>Yg b d e.1,λb d e=>?_,λb d e=>Oz b d e.1,OW,c4,c3⟩,?_⟩,y1 k,ao.sub k⟩;.exact(Wc b d e).sub k rfl
  . refine⟨Q0,Gs,ta,?_,λx c hx=>?_,y0,⟨S.f.lG.1,λd e=>S.f.lG.2.1 d e.1,S.f.lG.2.2⟩,λx c hx=>⟨(W7 x c hx).1,(W7 x c hx).2.1,λr d e=>(W7 x c hx).2.2 r d e.1⟩,yx⟩;.obtain⟨m,n,hm⟩:=G7;walk_at"b";exact⟨m,n,λx mv a b=>Su (hm x mv a b) λi Yw=>Uc Yw λe j=>⟨i,e,y1 k _ _ j⟩⟩
    .obtain⟨i,n,hm⟩:=tb x c hx;walk_at"b";exact⟨i,n,λmv a b=>Su (hm mv a b) λu Yw=>Uc Yw λe j=>⟨u,e,y1 k _ _ j⟩⟩
def bq(X:Cx)(A:X5)(Zn:S2)(t:Wx)(mv:MV)(l:YV)(b:GH)(K:YV->GH->Prop):Prop:=∀y G a,ak X y Zn l b G->aw y mv a->ZU YH A (I_ t Zn a) (PU X Zn y K) bz G
variable{Pa:YV->GH->Prop}
theorem Oe(c:aM A x)(h:Pa (aJ x mv o) E):bq X m A (.Name x Ym) mv o E Pa:=λb s e S r=>V7 (S.st r c λa d=>⟨b,_,E,.refl b,d,h⟩)
def dU(l:YV)(x:J Z)(m:ZaY):YV:=(x.zip m).foldl (λl p=>aJ p.1 p.2 l) l
def nm(x:Z×ix):Wx:=.Name x.1 x.2
def Hi(Zn:S2)(x:Z×ix):YZ×(ZP->p_ Unit):=(false,I_ (nm x) Zn)
theorem md(Zn:S2)(x:Z×ix)(d:J Wx):I8 (nm x::d) Zn=Hi Zn x::I8 d Zn:=by with_unfolding_all rfl
theorem ei(Zn:S2)(x:J (Z×ix)):I8 (hc nm) Zn=hc (Hi Zn):=by induction x with|Yl=>with_unfolding_all rfl|Zp a x i=>rw[Yd,Yd,md,i]
theorem jG:∀(x:J (Z×ix))(c:ZaY){d:Zc4}{o:YV}{G:Zb}{f:Unit->Zb->Prop},ZO=Yv->(∀e∈x,aM A e.1)->ak X y A o E G->ao y c d->(∀Nc,ak X y A (dU o (hc (·.1)) c) E Nc->f () Nc)->ZU YH m (TR (hc λe=>I_ (nm e) A) d) f bz G:=by
 intro x;induction x with
 |Yl=>
  intro c d o G f h O S r k;cases c with
  |Yl=>exact r.jX (NJ:=λd=>ZU YH m (TR [] d) f bz G) (Z5 (k G S))|Zp a b=>cases h
 |Zp e x I=>
  intro c d o G f h g S r k;cases c with|Yl=>cases h|Zp n c=>exact dn (NJ:=λd=>ZU YH m (TR ((e::x).map λe=>I_ (nm e) A) d) f bz G) λp q i rl=>Z7 (ZF (V7 (S.st i (g e Y4) λNc j=>I c (x_ h) (λl hy=>g l (ZX _ hy)) j rl k)))
variable{NB:J (Z×ix)}
theorem qX(h:rb=Zw)(c:∀x∈NB,aM A x.1)(S:Zab)(r:ao y b d)(k:Pa (dU o (Vk (·.1)) b) E):ZU YH m (TR (Vk λx=>I_ (nm x) A) d) (PU X A y Pa) bz G:=jG NB b h c S r λa S=>⟨y,_,E,ZbK,S,k⟩
theorem km(x:Tj h.objs.size h b):∀a o,Vl a=Zag->b.get? a=Zag:=λa o e=>x a o (Y' (XR e)) e
theorem bq.tup(hh:XZ=none)(c:∀x∈NB,aM A x.1)(hl:rb=Zw)(h:Pa (dU o (Vk (·.1)) b) E):bq X m A Zc7 (.tup b) o E Pa:=λf s i S r=>by
 obtain⟨a,j,n,YA,p,rl⟩:=ho;rw[YA];show ZU _ _ (do VT Ym;unpack Zaj (I8 (Vk nm) A)) _ _ _;refine Z7 (Yq ?_);unfold unpack;rw[ei];have d:(Vk (Hi A)).findIdx? (·.1)=none:=by rw[S9];intro x hx;obtain⟨y,_,rfl⟩:=Zl hx;rfl
 rw[d,Z2,hl,<-WZ];refine Z7 (ZF (B_ hh (cN (Yg _ _ p)) λe he=>?_));have:=qX (m:=m) hl c (Q1 (Nc:={s with X_:=e}) (km he)) rl h;rw[Xo];exact this
abbrev xY(a:Y9)(i:U):OB:={T':=Zbo,Xg:=.fields #[Zaj,.int i 0]}
variable{Pn:ZP}
theorem K0{a:p_ Unit->Prop}(tup:∀d k p,a (Xn (.Tuple d k p) NH Pn))(WC:a (Yh ()))(t:Wx):a (Xn t NH Pn):=by induction t using Expr.casesOn with|Tuple d k p=>exact tup d k p|J d p=>exact tup d 0 p|_=>exact WC
theorem i6(j:ZG it=some l)(o:l.cls=ZaX)(g:(["enumerate","zip","dict_itemiterator","dict_reverseitemiterator","odict_iterator","itertools.zip_longest","itertools.pairwise"].contains T)=false)(h:f () G):ZU YH m (Xn r (.ref it) q) f i G:=by
 have core:∀{n:T7},(["enumerate","zip","dict_itemiterator","dict_reverseitemiterator","odict_iterator","itertools.zip_longest","itertools.pairwise"].contains n)=false->∀{b:YZ}{e:p_ Unit},ZU YH m (if(["enumerate","zip","dict_itemiterator","dict_reverseitemiterator","odict_iterator","itertools.zip_longest","itertools.pairwise"].contains n&&b)=true then e else Yh ()) f i G:=λg b e=>by rw[g];exact Z5 h
 obtain⟨c,u,t,s⟩:=l;cases o;have iw:∀d k p,ZU YH m (Xn (.Tuple d k p) (.ref it) q) f i G:=λd k p=>by induction q with
  |ref a=>exact Z7 (b4 j (by induction t with|fields=>exact core g|_=>exact Z5 h))|_=>exact Z5 h
 exact K0 (a:=λe=>ZU YH m e f i G) iw (Z5 h) r
theorem eI(a:ZG it=Zar)(c:b.cls=Zbo)(h:d () G):ZbW:=i6 a c Z' h
theorem aA.ext(S:Zah)(ga:E a=none)(p:∀o,¬y a o)(la:YF a=none)(hx:Tj a YK c):aA X y E {G with X_:=c,Wf:=n}:=S.kW (Pm:=(.=a)) (λO e=>e▸⟨ga,p,la⟩) λb o hb e=>hx b o hb e
theorem ak.ext(S:Zab)(ga:E a=none)(p:∀b,¬y a b)(la:YF a=none)(d:Yo≠a)(i:∀x c,Wd x=Zan->c≠a)(hx:Tj a YK k):ak X y A o E {G with X_:=k,Wf:=n}:=⟨S.g.ext ga p la hx,K5 (λb e=>hx _ b d e) (λx c b ra e=>hx _ b (i x c ra) e) S.f.lG.1 λx c hx=>(W7 x c hx).1⟩
theorem ak.pin(S:Zab)(d:ZG a=some ob)(ga:E a=none)(la:YF a=none)(i:Yo≠a)(j:∀x c,Wd x=Zan->c≠a):ak X (cI y a ob) A o E G:=⟨S.g.pin d ga la,S.f.more Tu (λb e=>VB (S.f.lG.2.1 b) λq=>i q.1) λx c hx k b e=>VB ((W7 x c hx).2.2 k b) λq=>j x c hx q.1⟩
inductive Co(X:Cx)(A:X5)(Zn:S2)(W8:J Wa)(K:Gp->YV->GH->Prop)(c:YV->GH->Prop)(d:aT)(k:aT->YV->GH->Zb->Prop)(m:Zb):Prop where|mk(a:aT)(e:YV)(f:GH)(le:bG d a)(S:ak X a Zn e f m)(b:EF X A Zn ZbQ e f (Ex c K))(Oy:∀g i G s l,bG a g->ak X g Zn i G s->c l G->N' l i->∃j,bG d j/\k j l G s)
inductive HL(n:U)(b:aT)(c:U->aT->YV->GH->Zb->Prop)(I:U->YV->GH->Prop)(j:U)(s:Zb):Prop where|mk(k:U)(a:aT)(l:YV)(G:GH)(e:k+j=n)(le:bG b a)(h:c k a l G s)(i:I k l G)
abbrev Mz(X:Cx)(A:X5)(Zn:S2)(K:Gp->YV->GH->Prop)(a:aT):TK->Zb->Prop:=λr G=>match r with|.ok f=>PF X Zn a K f G|.error e=>cameBackBy YH A Zn bz e G
variable{B:Gp->YV->GH->Prop}
theorem tn(I:U->YV->GH->Prop)(b:U->aT->YV->GH->Zb->Prop)(step:∀k y o E G,k<n->bG a y->b k y o E G->I k o E->∀R i,(∀c s,(∀w,ZU YH m (Xn x it c) (λO z=>ZU YH m (I_ x A c) (λO p=>Co X m A W8 B (I (k+1)) a (b (k+1)) p) w z) w s)->R Zan s)->ZU YH m (VO it) R i G)(done:∀y o E G,bG a y->b n y o E G->I n o E->∀R i,(∀s,PF X A a B .next s->R none s)->ZU YH m (VO it) R i G)(e:bG a y)(h:b 0 y o E G)(T:I 0 o E):U4 YH m (.forLoop x it W8 [] A) (Mz X m A B a) G:=by
  walk_at"k";refine codeAny_forLoop_any (I:=HL n a b I) ?_ n ⟨0,y,o,E,Wi n,e,h,T⟩;intro j G V;obtain⟨k,y,o,E,hj,e,h,C⟩:=V;walk_at"c";by_cases f:k<n;.refine step k y o E G f e h C _ _ λc s q=>ZS (q _) (λO z q=>ZS q (λO p PM=>?_) λO O q=>q) λO O q=>q;walk_at"c";obtain⟨PN,P0,P2,le,PR,hb,Oy⟩:=PM;refine ZS (hb PN p PR) (λP4 D q=>?_) λO O q=>Vm;obtain⟨t,PS,l,d,u,r,S,g⟩:=q;have OO:LO (I (k+1)) l d->∃F,F<j/\HL n a b I F D:=λ⟨N,Q,hs⟩=>Su (Oy t l d D N u S Q hs) λPT Yw=>Uc Yw λPW PX=>⟨j-1,Ke hj f,k+1,PT,N,d,KA hj f,PW,PX,Q⟩;cases PS with
    |next=>cases r;exact OO g|brk=>cases r;exact⟨t,.next,l,d,b6 u,rfl,S,g⟩|cont=>cases r;exact OO g|fj c=>obtain⟨PY,rfl,PZ⟩:=r;exact⟨t,.ret c,l,d,b6 u,⟨PY,rfl,PZ⟩,S,g⟩
  .have ON:=J7 hj f;clear step;subst ON;exact done y o E G e h C _ _ λs q=>u' q
structure OffI(X:Cx)(d:aT)(G:GH)(Zn:S2)(it:Y9):Prop where
 g:G it=none
 p:∀o,¬d it o
 b:YF it=none
 l:VQ≠it
 c:∀x a,Xz x=ZaB->a≠it
theorem nL(t:bG F y)(TQ:OffI X y E A it)(n:¬ly i)(q:PU X A (cI y it i) (λo w=>EF X m A Zco o w (Ex M B)) PN T)(Oy:∀d f j G s,bG (cI y it i) d->bG y f->lV d f->ak X f A j G s->Xe it=some i->OffI X f G A it->V f j G s):Co X m A W8 B M F V T:=by
 obtain⟨z,C,D,a,I,N⟩:=q;refine⟨z,C,D,(t.trans Tu).trans a,I,N,λd PR G s j r S PS Q=>?_⟩;have k:=r _ _ (a _ _ (.inr ⟨rfl,rfl⟩));have u:bG y (A8 d it):=λPM x q=>⟨r _ _ (a _ _ (.inl q)),λe=>off.p x (e▸q)⟩;exact⟨_,t.trans u,Oy d _ j G s (V8 r) u (λPM i st h=>⟨h,λe=>n (by subst e;exact ZW ((Yg _ _ k).symm.trans (Yg _ _ h))▸st)⟩) ((S.Iy k n).1.forget Q) (Yg _ _ k) ⟨Oz _ _ k,λx q=>q.2 rfl,off.b,off.l,off.c⟩⟩
theorem ak.Bq(S:Zab)(h:ZZ<=z):OffI X y E A z:=⟨Us h,λa q=>Za (XR (Yg _ _ q)) (Wg h),S.g.hM h,Y' (Xu S.lT h),λx c hx=>Y' (Xu (S.kP hx) h)⟩
theorem Gn(b:a.cls=ZaX)(c:T≠"code")(hd:a.data=.fields fs):¬ly a:=kS (λe=>c (Value.type.inj (b.symm.trans e))) λO O e=>nomatch p6 e
structure nD(X:Cx)(Zn:S2)(m:ZaY)(a it:Y9)(k:U)(b:aT)(l:YV)(G:GH)(s:Zb):Prop where
 S:ak X b Zn l G s
 i:s.heap.IsListIter it a k
 TQ:OffI X b G Zn it
theorem pG(N:bG V y)(h:nD X A f a it k y o E G)(hl:G.heap.IsList a F)(rl:ao y f F.toList)(Ux:∀e,f[k]?=ZbU->bq X m A T e o E λNK w=>EF X m A Zco NK w (Ex PM B))(Q:k<W0)(Oy:∀j d n r t s,bG (cI y it n) j->bG y d->lV j d->nD X A f a it (k+1) d r t s->PN d r t s)(Ub:∀u C,(∀x,ZU YH m (Xn T (.ref it) u) (λO PR=>ZU YH m (I_ T A u) (λO D=>Co X m A W8 B PM V PN D) x PR) x C)->R (some u) C):ZU YH m ZaU R P0 G:=by
 have ON:k<F.size:=by rw[WZ];exact Q
 refine rl.at ON λe hm PS=>wpAny_pyNext_list_item h.i hl (XD ON) λPT PW hs=>Ub _ _ λx=>?_;walk_at"e";obtain⟨n,I,z,hd⟩:=PW;have PX:ak X y A o E {G with X_:=PT}:=e_ x3 e8 x2 x1 xb hs.extBut;exact eI I z (ZS (Ux e hm _ _ _ (PX.pin I x3 x2 x1 xb) (PS.mono Tu)) (λO D q=>nL N h.off (Gn z Z' hd) q λj d r t s PY q2 q3 q4 q5 PZ=>Oy j d n r t s PY q2 q3 ⟨q4,⟨n,q5,z,hd⟩,PZ⟩) λO O q=>Vm)
theorem pB(hh:XZ=none)(e:bG f y)(h:nD X A d a it Yc y o E G)(hl:G.heap.IsList a q)(rl:ao y d q.toList)(k:B .next o E)(Ub:∀s,PF X A f B .next s->R none s):ZU YH m ZaU R r G:=wpAny_pyNext_list_end hh h.i hl (by rw[Array.getElem?_eq_none_iff,WZ];exact ZV _) λj he=>Ub _ ⟨y,.next,o,E,e,rfl,e_ (n:=Wu) x3 e8 x2 x1 xb he,k⟩
inductive HW(X:Cx)(A:X5)(Zn:S2)(t:Wx)(W8:J Wa)(l:YV)(I:U->YV->GH->Prop)(K:Gp->YV->GH->Prop)(m:MV)(d:GH):Prop where|mk(a:ZaY)(b:YV)(e:m=.lst a)(f:I 0 b d)(s:N' b l)(Ux:∀k m l G,a[k]?=Zcd->I k l G->bq X A Zn t m l G λc i=>EF X A Zn ZbQ c i (Ex (I (k+1)) K))(Ub:∀l G,I ZC l G->K .next l G)
theorem q'(hh:XZ=none)(I:U->YV->GH->Prop)(h:EV X m A ZaZ o E (HW X m A u W8 o I B))(hs:Z3 (∀x,ZbY=Yh x) aI):Zdb:=λb s t=>by
  walk_at"a";refine q_ (W1 t λN w Q j G y r c z=>?_) hs;walk_at"a";obtain⟨d,l,rfl,C,D,Ux,Ub⟩:=z;obtain⟨a,q,n,YA,p,rl⟩:=ho;rw[YA];refine TH (aq (c.g.aG _ _ p)) ?_;refine tn I (n:=Yc) (λk b o E s=>b a (X8 (.type "list") q n)/\ao b d q.toList/\nD X A d a w.heap.objs.size k b o E s) (λk b o E s F e h i R M f=>?_) (λb o E s e h i R M f=>?_) y ⟨p,rl,(c.push (xY a 0)).forget D,⟨_,ZL _ rfl,rfl,rfl⟩,c.Bq (ZV _)⟩ C;.obtain⟨p,rl,h⟩:=h;exact pG e h (aq (h.S.g.aG _ _ p)) rl (λj hm=>Ux k j o E hm i) F (λT V PM PN PR PS PT q2 q3 h=>⟨q2 _ _ p,e6 q2,h⟩) f
  .obtain⟨p,rl,h⟩:=h;exact pB hh e h (aq (h.S.g.aG _ _ p)) rl (Ub o E i) f
theorem sp(h:EV X m A Zcg o E λmv G=>bq X m A (.Tuple d k tp) mv o G (ML B))(hs:Z3 (swapsWithSole [.Tuple d k tp] b K3 A=Yh false) aR)(hw:Z3 (F' [.Tuple d k tp] b A=Yh none) aR):EF X m A (TM (.Assign [.Tuple d k tp] b Ym) A) o E B:=λu w S=>Assign_Tuple (W1 S λc s e x G a r f g=>ZS (g c s e f r) (λO y q=>by
  obtain⟨i,l,j,n,p,t⟩:=q;exact⟨i,.next,l,j,V8 n,rfl,p,t⟩) λO O q=>q) hs hw
theorem wL:∀(x:J Z)(c:ZaY){d:Zc4}{o:YV}{G:Zb}{K:YV->GH->Prop},ZO=Yv->(∀e∈x,aM A e)->ak X y A o E G->ao y c d->K (dU o x c) E->ZU YH m (TR (hc λn=>bindName A n) d) (PU X A y K) bz G:=by
 intro x;induction x with
 |Yl=>
  intro c d o G K h O S r k;cases c with
  |Yl=>exact r.jX (NJ:=λd=>ZU YH m (TR [] d) (PU X A y K) bz G) (Z5 ⟨y,o,E,ZbK,S,k⟩)|Zp l b=>cases h
 |Zp e x I=>
  intro c d o G K h f S r k;cases c with|Yl=>cases h|Zp p c=>exact dn (NJ:=λd=>ZU YH m (TR ((e::x).map λn=>bindName A n) d) (PU X A y K) bz G) λq s g rl=>Z7 (ZF (wpAny_bindName (S.st g (f e Y4) λa i=>I c (x_ h) (λj hy=>f j (ZX _ hy)) i rl k)))
inductive IE(K:Gp->YV->GH->Prop)(l:YV)(WD:J Z)(mv:MV)(G:GH):Prop where|mk(m:ZaY)(e:mv=.tup m)(n:WM=x6)(k:K .next (dU l names.reverse m.reverse) G)
theorem ha(hh:XZ=none)(h:EV X m A Zcg o E (IE B o WD))(e:∀x∈WD,aM A x)(hw:Z3 (F' [.Tuple d c tp] b A=Yh (some WD)) aR)(hs:Z3 (swapsWithSole [.Tuple d c tp] b K3 A=Yh false) aR):EF X m A (TM (.Assign [.Tuple d c tp] b Ym) A) o E B:=λz C f=>Assign_Tuple_swapped (W1 f λD s F I M a r S k=>by
  obtain⟨i,rfl,hl,k⟩:=k;obtain⟨N,Q,n,YA,p,rl⟩:=ho;rw[YA];rw[<-hl,<-WZ];refine B_ hh (cN (Yg _ _ p)) λj he=>?_;refine ZS (wL (m:=m) names.reverse i.reverse (K:=λo E=>B .next o E) (by rw[X6,X6,hl]) (λx hx=>e x (List.mem_reverse.mp hx)) (Q1 (Nc:={s with X_:=j}) (km he)) rl.reverse k) (λO T q=>?_) λO O q=>q;obtain⟨t,l,G,u,w,y⟩:=q;exact⟨t,.next,l,G,V8 u,rfl,w,y⟩) hs hw
def Hv(o:l')(m c:MV):Zs MV:=match o with|.Add=>(jx m c λa b=>some (.int (a+b))).or (D0 m c λx y=>if ZO+l_<=ZK then some (.str (x++y))else none)|.Sub=>jx m c λa b=>some (.int (a-b))|_=>none
theorem yM(h:Hv c l mb=Zc0)(S:Zab)(r:aw y l d)(f:aw y mb i)(k:g n E):ZU YH m (inplaceOp c d i) Zae bz G:=by
 let C:l'->ZP->ZP->Prop:=λc d i=>ZU YH m (inplaceOp c d i) Zae bz G;induction c with|Add=>exact Cw h (λh=>eU h r f (C .Add) λa b t u e=>AutoIntOps.iadd_0 (UW S (a0 ..) Zbv)) λh=>ub h r f (C .Add) λa b t u e=>mA e λhs e=>SBL.iadd (λj p O=>UW S (bp ..) Zbv) hs|N'=>exact eU h r f (C .Sub) λa b t u e=>AutoIntOps.isub_0 (UW S (a0 ..) Zbv)|_=>exact ax h
inductive K8(o:l')(m:MV)(K:Gp->YV->GH->Prop)(l:YV)(x:Z)(a:MV)(G:GH):Prop where|mk(r:MV)(h:Hv o m a=Za2)(k:K .next (aJ x r l) G)
theorem EF.aug(hx:Yb x=Zar)(h:EV X m A Zb6 o E (K8 d b B o x))(e:aM A x)(hn:Z3 ((x=="__classdict__")=false) aD):EF X m A (TM (.AugAssign (.Name x F) d c Ym) A) o E B:=λD s S=>wpAny_AugAssign_Name (S.load hx (λI r=>W1 S λM N Q T G a f j k=>by
  walk_at"a";obtain⟨q,hq,k⟩:=k;refine ZS (yM (g:=λl i=>l=q/\i=G) hq j (Tp a) f ⟨rfl,rfl⟩) (λu V z=>?_) λO O z=>z;obtain⟨n,PM,p,t,w,y,rfl,rfl⟩:=z;exact y.st w e λPN C=>⟨n,.next,_,p,V8 t,rfl,C,k⟩) hn)
theorem VI(h:EV X m A Zcg o E λc G=>c=.none/\B .next o G)(d:Z3 (g_ A=false) aR)(hs:Z3 (N0 b none K3 A=Yh false) aR):EF X m A (TM (.Expr b Ym) A) o E B:=λg s S=>wpAny_Expr (W1 S λe i j c G a r f k=>by
  obtain⟨rfl,k⟩:=k;rw[UZ];exact⟨e,.next,o,G,a,rfl,f,k⟩) d hs
theorem EF.freeze(ga:E a=Zbz)(c:YV)(hl:∀x mv,Sd x=ZaS->Yb x=ZaS\/(Yb x=some Zaj/\mv=.lst b))(h:EF X m A d c (G_ E a) B):EF X m A d o E B:=λk s S=>by
  obtain⟨f,g,i,j⟩:=S.jk ga;refine ZS (h f s (j.eF λx mv e=>?_)) (λO O q=>mc g) λO O q=>q;walk_at"b";refine(hl x mv e).elim (λh=>?_) λYA=>?_;.exact⟨mv,h,λO r=>r⟩
  .obtain⟨h,rfl⟩:=YA;exact⟨_,h,λl r=>by rw[UZ];exact i⟩
theorem EV.E1(hx:Yb x=some Zaj)(ga:E a=Zbz)(k:g (.lst b) (G_ E a))(hn:Z3 ((x=="__classdict__")=false) aD)(hd:Z3 ((x=="__debug__")=false) aD):EV X m A (ZH (.Name x Ym) A) o E g:=λi s S=>da (S.load hx (λj r=>by
  obtain⟨c,d,e,f⟩:=S.jk ga;rw[UZ];exact⟨c,.lst b,_,d,e,f,k⟩) hn) hd
theorem BO(hh:XZ=none)(hx:aM A x)(hy:aM A a)(h:Pa (aJ a c (aJ x d o)) E):bq X m A (.Tuple [.Name x f,.Name a q] k Ym) (.tup [d,c]) o E Pa:=bq.tup hh (NB:=[(x,f),(a,q)]) (by intro z b;simp only[XW,YL,Vt]at b;rcases b with rfl|rfl<;>assumption) rfl h
def cv(X:Cx)(Zn:S2)(l:YV)(c:GH)(T:T7)(m:MV):Prop:=∀y G b,ak X y Zn l c G->aw y m b->b3 b T/\∀a,b=Zaj->∃o,ZG a=Zag/\o.dict=none
theorem e5(h:cg E c=ZaC):cv X A o E "list" c:=λf s i S r=>by
 obtain⟨a,j,n,YA,g,rl⟩:=listAt h S r;rw[YA];exact⟨(aq g).typeIs,λb e=>by cases e;exact⟨_,g,rfl⟩⟩
theorem cv.str:cv X A o E "str" (.str x):=λa s c S r=>by
 obtain⟨t,YA⟩:=sz;rw[YA];exact⟨xa s x t,λb e=>by cases e⟩
variable{NX:T7}{D:Z}{Nn:Wx}{Nx:ix}{Nz:p_ YZ}
theorem ls{id:T7}(p:PlainAttrs NX)(Od:Slot NX D id)(j:w' ZaL=ZaR)(h:EV X m A ZaF o E λd e=>cv X A o e NX d/\EA X m A (Nn::NP) o e λf i=>∀y G b c,ak X y A o i G->aw y d b->ao y f c->ZU YH m (VP ZaL (b::c)) Zae bz G)(he:Z3 (eP A Ng D Np (Nn::NP) Nx Nz) aR)(l:Z3 (gK A Nn NP) aR)(hp:Z3 (nO A NP) aI):EV X m A (ZH (.Call Zc8 (Nn::NP) [] Nx) A) o E g:=λy G n=>OM (pl:=Nz) (W1 n λt s b d e u r S k=>by
  obtain⟨w,hd⟩:=k.1 t s b S r;refine ll w p Od j hd ?_;refine callWith_method1 (first:=[b]) ((k.2 Nx).use S λx z c f i a B C F=>?_) l (hp Nx);exact ZS (F x z b c C (Tp a) B) (λO O q=>mc (u.trans a)) λO O q=>q) he
theorem EV.ES{id:T7}(p:PlainAttrs NX)(Od:Slot NX D id)(f:w' ZaL=ZaR)(h:EV X m A ZaF o E λc d=>cv X A o d NX c/\∀y G b,ak X y A o d G->aw y c b->ZU YH m (VP ZaL [b]) Zae bz G)(he:Z3 (eP A Ng D Np [] Nx Nz) aR):EV X m A ZcM o E g:=λy G i=>OM (pl:=Nz) (W1 i λe s b c d a r S k=>by
  obtain⟨j,hd⟩:=k.1 e s b S r;refine ll j p Od f hd ?_;exact callWith_method0 (ZS (k.2 e s b S r) (λO O q=>mc a) λO O q=>q)) he
theorem af:ZK=16777216:=rfl
theorem PV.set(S:Zab)(d:ZG a=some Zau)(hg:E a=some (.list q))(r:ao y i (f b).toList)(e:aw y c l)(k:g c (Y7 E a (.list i))):PV X A y o g l {G with X_:=UC a (Ye f)}:=by
 refine⟨y,c,_,ZbK,e,b0 hg (Y_ ..) ?_,k⟩;exact⟨f b,if(f b).size==b.size then n else n+1,YS _ d rfl,r⟩
theorem k8(hg:E a=Zbf)(S:Zab)(r:aw y Zaj d):d=Zaj/\∃b n,ZG a=some Zau/\ao y c Kb:=⟨UZ,Wc _ _ hg⟩
theorem lW(hg:E a=Zbf)(d:Yv<=ZK)(S:Zab)(r:aw y Zaj f)(e:aw y x u)(k:g .none (Y7 E a (.list (c++[x])))):ZU YH m (VP ZbD [f,u]) Zae bz G:=by
 obtain⟨YA,i,n,b,rl⟩:=k8 hg S r;rw[YA];refine SG F.slot_list_append ⟨_,b,rfl⟩ F.entry_list_append (F.args_list_append_2 _ _) (list_append a i n u (by rw[WZ];exact d)) ⟨b,?_⟩;exact PV.set S b hg (by rw[R'];exact rl.snoc e) (aE ..) k
inductive KX(K:MV->GH->Prop)(a:Y9)(x:MV)(G:GH):Prop where|mk(m:ZaY)(g:G a=Zcw)(z:WM<=ZK)(k:K .none (Y7 G a (.list (m++[x]))))
inductive LZ(K:MV->GH->Prop)(a:Y9)(b:MV)(G:GH):Prop where|mk(m x:ZaY)(g:G a=Zcw)(h:cg G b=Zak)(z:WM+ZO<=ZK)(k:K .none (Y7 G a (.list (m++x))))
inductive HT(X:Cx)(A:X5)(Zn:S2)(e:Wx)(l:YV)(Q:Y9->MV->GH->Prop)(m:MV)(G:GH):Prop where|mk(a:Y9)(b:ZaY)(q:m=Zaj)(g:G a=Zbz)(k:EV X A Zn (ZH e Zn) l G (Q a))
theorem W4(h:EV X m A ZaF o E (HT X m A Nn o (KX g)))(he:Z3 (eP A Ng ("append") Np [Nn] Nx Nz) aR)(c:Za5):EV X m A (ZH (.Call (.Attribute Ng ("append") Np) [Nn] [] Nx) A) o E g:=by
 refine ls (Nz:=Nz) R_ F.slot_list_append F.type_list_append (WT λl G hm=>?_) he c;obtain⟨a,n,YA,hg,h⟩:=hm;rw[YA];walk_at"l";refine⟨e5 (c8 hg),Zu (WT λx p hx=>Y5 λd s e b S r rs=>?_) c⟩;obtain⟨q,f,i,k⟩:=hx;exact rs.cU (NJ:=λb=>ZU YH m (VP ZbD (e::b)) Zda bz s) λu b j rs=>rs.jX (NJ:=λb=>ZU YH m (VP ZbD (e::u::b)) Zda bz s) (lW f i S r j k)
theorem um(hg:E a=some (.list d))(hx:cg E f=Zak)(e:Yc+ZO<=ZK)(S:Zab)(i:aw y Zaj l)(j:aw y f u)(k:g .none (Y7 E a (.list (d++x)))):ZU YH m (VP ZcD [l,u]) Zae bz G:=by
  walk_at"a";obtain⟨YA,p,n,c,rl⟩:=k8 hg S i;rw[YA];obtain⟨b,w,q,YA,g',r⟩:=listAt hx S j;rw[YA];have br:=e;have h1:=WZ;have h2:=b';refine SG F.slot_list_extend ⟨_,c,rfl⟩ F.entry_list_extend (F.args_list_extend_2 _ _) (AutoSeq1.list_extend_list_list_0 a p n b w q ?_ (by rw[af];exact KR br h1) (by rw[af];exact Kj br h1 h2)) ⟨c,g',?_⟩;.intro h;simp only[YM]at h;have:=h.2;simp only[F_,XY]at this;exact Km e this h1 h2
  .exact PV.set S c hg (by rw[Y0];exact rl.append r) (aE ..) k
theorem M_(h:EV X m A ZaF o E (HT X m A Nn o (LZ g)))(he:Z3 (eP A Ng ("extend") Np [Nn] Nx Nz) aR)(c:Za5):EV X m A (ZH (.Call (.Attribute Ng ("extend") Np) [Nn] [] Nx) A) o E g:=by
 refine ls (Nz:=Nz) R_ F.slot_list_extend F.type_list_extend (WT λl G hm=>?_) he c;obtain⟨a,n,YA,hg,h⟩:=hm;rw[YA];walk_at"l";refine⟨e5 (c8 hg),Zu (WT λx p hx=>Y5 λd s e b S r rs=>?_) c⟩;obtain⟨q,t,f,hx,i,k⟩:=hx;exact rs.cU (NJ:=λb=>ZU YH m (VP ZcD (e::b)) Zda bz s) λu b j rs=>rs.jX (NJ:=λb=>ZU YH m (VP ZcD (e::u::b)) Zda bz s) (um f hx i S r j k)
def Mv(w:J Y9)(s a:Zb):Prop:=∃c t,a={s with X_:=c,Wf:=t}/\∀b o,b∉w->Xe b=Zag->c.get? b=some o
def iA(a:aT)(s:Zb)(m:MV)(b:ZP):Prop:=aw a m b\/∃T c d,b=.ref T/\m=.tup d/\s.heap.IsTuple T c/\ao a d mx
abbrev oD:=aT->Zb->MV->ZP->Prop
abbrev cu:oD:=λy O m a=>aw y m a
structure Wk(X:Cx)(A:X5)(I:oD)(it:ZP)(t:Wx)(n:U)(i:U->MV)(w:J Y9)(St:U->aT->C_->Prop):Prop where
 frame:∀k c r h f,St k c h->lV c r->(∀a o,c a o->Vl a=Zag)->(∀a o,r a o->td a=Zag)->(∀b∈w,∀o,Vl b=Zag->td b=Zag)->St k r f
 KI:∀c r s m d,bG c r->I c s m d->I r s m d
 obj:∀k c h,St k c h->∀b∈w,∃o,Vl b=Zag/\¬ly o
 next:∀k c s(Q:Zs ZP->Zb->Prop)(E:ZP->Zb->Prop),k<n->St k c Ts->(∀a o,c a o->Xe a=Zag)->(∀b∈w,∀o,¬c b o)->(∀d e,(∀E,ZU YH A (Xn t it d) (λO g=>Mv w s g/\St (k+1) c g.heap/\I c g (i k) d) E e)->Q ZaC e)->ZU YH A (VO it) Q E s
 done:∀c s(Q:Zs ZP->Zb->Prop)(E:ZP->Zb->Prop),St n c Ts->(∀a o,c a o->Xe a=Zag)->(∀b∈w,∀o,¬c b o)->(∀e,Mv w s e->Q none e)->ZU YH A (VO it) Q E s
 self:∀k c s(Q:ZP->Zb->Prop)(E:ZP->Zb->Prop),St k c Ts->(∀a o,c a o->Xe a=Zag)->Q it s->ZU YH A (h' it) Q E s
def g7(X:Cx)(a:aT)(G:GH)(Zn:S2)(w:J Y9):Prop:=∀b∈w,G b=none/\(∀o,¬a b o)/\YF b=none/\VQ≠b/\∀x c,Xz x=Zan->c≠b
theorem ak.mv(S:Zab)(TQ:g7 X y E A d)(m:Mv d G Nc):ak X y A o E Nc:=by
 obtain⟨i,t,YA,hx⟩:=m;rw[YA];exact⟨S.g.kW (λa q=>⟨(TQ a q).1,(TQ a q).2.1,(TQ a q).2.2.1⟩) hx,K5 (λb e=>hx _ b (λq=>(TQ _ q).2.2.2.1 rfl) e) (λx c b ra e=>hx _ b (λq=>(TQ _ q).2.2.2.2 x c ra rfl) e) S.f.lG.1 λx c hx=>(W7 x c hx).1⟩
def eY(b:aT)(w:J Y9)(h:C_):aT:=λa o=>b a o\/(a∈w/\Vl a=Zag)
def gk(b:aT)(w:J Y9):aT:=λa o=>b a o/\a∉w
theorem p5:bG y (eY y a h):=λO O e=>.inl e
theorem ak.zD(S:Zab)(TQ:g7 X y E A d):ak X (eY y d YK) A o E G:=⟨⟨mu eY.le.s (λa e=>VB id λq=>Za rfl (ow (TQ _ q.1).2.2.1)),K2,λb a e=>VB (Yg b a) λq=>q.2,λb a e=>(Wc b a e).mono p5 rfl,λb a e=>VB (Oz b a) λq=>(TQ b q.1).1,OW,c4,c3⟩,S.f.more p5 (λa e=>VB (S.f.lG.2.1 a) λq=>(TQ _ q.1).2.2.2.1 rfl) λx c hx i a e=>VB ((W7 x c hx).2.2 i a) λq=>(TQ _ q.1).2.2.2.2 x c hx rfl⟩
theorem ak.m9(S:Zab)(hn:∀b∈l,∃d,y b d/\¬ly d):ak X (gk y l) A o E G/\(∀mv i,aw y mv i->aw (gk y l) mv i)/\∀mv i,ao y mv i->ao (gk y l) mv i:=by
  have p:lV y (gk y l):=λb t st h=>⟨h,λe=>by
    obtain⟨d,r,j⟩:=hn b e;exact j ((ZW ((Yg _ _ r).symm.trans (Yg _ _ h)))▸st)⟩;have k:=p.q;refine⟨⟨⟨mu p (λd e=>e.1),K2,λb d e=>Yg b d e.1,λb d e=>?_,λb d e=>Oz b d e.1,OW,c4,c3⟩,?_⟩,y1 k,ao.sub k⟩;.exact(Wc b d e).sub k rfl
  . refine⟨Q0,Gs,ta,?_,λx c hx=>?_,y0,⟨S.f.lG.1,λd e=>S.f.lG.2.1 d e.1,S.f.lG.2.2⟩,λx c hx=>⟨(W7 x c hx).1,(W7 x c hx).2.1,λs d e=>(W7 x c hx).2.2 s d e.1⟩,yx⟩;.obtain⟨m,n,hm⟩:=G7;walk_at"b";exact⟨m,n,λx mv a b=>Su (hm x mv a b) λi Yw=>Uc Yw λe j=>⟨i,e,y1 k _ _ j⟩⟩
    .obtain⟨i,n,hm⟩:=tb x c hx;exact⟨i,n,λmv a b=>Su (hm mv a b) λu Yw=>Uc Yw λe j=>⟨u,e,y1 k _ _ j⟩⟩
def TG(X:Cx)(A:X5)(I:oD)(Zn:S2)(t:Wx)(m:MV)(f:YV->YV):Prop:=∀y o E G a,ak X y Zn o E G->I y G m a->ZU YH A (I_ t Zn a) (λO Nc=>ak X y Zn (f o) E Nc) bz G
theorem TG.le(h:TG X m c A d b f)(k:∀y G a,i y G b a->c y G b a):TG X m i A d b f:=λy l e G a S r=>h y l e G a S (k y G a r)
theorem UM(b:aM A x):TG X m cu A (.Name x Ym) c (λo=>aJ x c o):=λe o G s f S r=>V7 (S.st r b λa d=>d)
theorem jR(h:rb=ZC)(b:∀x∈NB,aM A x.1)(S:Zab)(r:ao y a c):ZU YH m (TR (Vk λx=>I_ (nm x) A) c) (λO Nc=>ak X y A (dU o (Vk (·.1)) a) E Nc) bz G:=jG NB a h b S r λO S=>S
theorem TG.tup(hh:XZ=none)(d:∀x∈NB,aM A x.1)(hl:rb=Yv):TG X m iA A Zc7 (.tup c) (λo=>dU o (Vk (·.1)) c):=λf o G s i S r=>by
  walk_at"a";obtain⟨a,b,rfl,ht,rl⟩:∃a b,i=Zaj/\s.heap.IsTuple a b/\ao f c Kb:=by
    walk_at"b";refine r.elim (λr=>?_) λYA=>?_;.obtain⟨a,b,n,rfl,p,rl⟩:=ho;exact(Vo a b ⟨rfl,cN (Yg _ _ p),rl⟩)
    .obtain⟨T,j,t,rfl,e,ht,rl⟩:=YA;injection e with _ e;subst e;exact(Vo T j ⟨rfl,ht,rl⟩)
  show ZU _ _ (do VT Ym;unpack Zaj (I8 (Vk nm) A)) _ _ _;refine Z7 (Yq ?_);unfold unpack;rw[ei];have l:(Vk (Hi A)).findIdx? (·.1)=none:=by rw[S9];intro x hx;obtain⟨y,_,rfl⟩:=Zl hx;rfl
  rw[l,Z2,hl,<-WZ];refine Z7 (ZF (B_ hh ht λq he=>?_));have:=jR (m:=m) hl d (Q1 (Nc:={s with X_:=q}) (km he)) rl;rw[Xo];exact this
theorem TG.gA(h:TG X m iA A a b f):TG X m cu A a b f:=h.le λc s d r=>.inl r
theorem bk(hh:XZ=none)(hx:aM A x)(hy:aM A c):TG X m iA A (.Tuple [.Name x f,.Name c q] k Ym) (.tup [a,b]) (λo=>aJ c b (aJ x a o)):=TG.tup hh (NB:=[(x,f),(c,q)]) (by intro z d;simp at d;rcases d with rfl|rfl<;>assumption) rfl
structure I9(X:Cx)(Zn:S2)(w:J Y9)(St:U->aT->C_->Prop)(k:U)(a:aT)(l:YV)(G:GH)(s:Zb):Prop where
 S:ak X a Zn l G s
 st:St k a Ts
 TQ:g7 X a G Zn w
variable{Px:U->aT->C_->Prop}{Pw:U->YV->YV}
theorem Ge(d:Wk X m T it u n V i Px)(I:U->YV->GH->Prop)(tg:∀k,k<n->TG X m T A u (V k) (Pw k))(Ux:∀k o E,k<n->I k o E->EF X m A Zco (Pw k o) E (Ex (I (k+1)) B))(Ub:∀o E,I n o E->B .next o E)(c:bG PM y)(h:I9 X A i Px 0 y o E G)(j:I 0 o E):U4 YH m (.forLoop u it W8 [] A) (Mz X m A B PM) G:=by
  refine tn I (n:=n) (I9 X A i Px) (λk y o E G p c h j R Q f=>?_) (λy o E G c h j R Q f=>?_) c h j
  . obtain⟨S,st,TQ⟩:=h;refine d.next k y G _ _ p st Yg (λb q=>(TQ b q).2.1) λw x PN=>f w x λPR=>ZS (PN PR) (λO z PS=>and3 PS λmv C PT=>?_) λO O q=>q;have D:=S.mv TQ mv;refine ZS (tg k p _ o E z w (D.zD TQ) (d.KI _ _ _ _ _ p5 PT)) (λO P2 PW=>⟨_,_,E,c.trans p5,PW,Ux k o E p j,λr P4 P5 P6 P7 le t P8 PX=>?_⟩) λO O q=>Vm;have F:∀b∈i,∃a,(r b a/\¬ly a)/\z.heap.get? b=ZaB:=λb q=>by
      walk_at"b";obtain⟨a,e,PY⟩:=d.obj _ _ _ C b q;exact⟨a,⟨le _ _ (.inr ⟨q,e⟩),PY⟩,e⟩
    have l:bG y (gk r i):=λPZ a e=>⟨le _ _ (.inl e),λq=>(TQ PZ q).2.1 a e⟩;have N:=(t.m9 λb q=>Su (F b q) λa Yw=>Uc Yw λh O=>⟨a,h⟩).1;refine⟨gk r i,c.trans l,N.forget PX,d.frame _ _ _ _ _ C l.s D.g.aG N.g.aG (λb q a e=>t.g.aG _ _ (le _ _ (.inr ⟨q,e⟩))),λb q=>⟨?_,λa e=>e.2 q,(TQ b q).2.2⟩⟩;obtain⟨a,P0,_⟩:=F b q;exact t.g.cO _ _ P0.1
  .obtain⟨S,st,TQ⟩:=h;exact d.done y G _ _ st Yg (λb q=>(TQ b q).2.1) λx mv=>f _ ⟨y,.next,o,E,c,rfl,S.mv TQ mv,Ub o E j⟩
def BR(X:Cx)(A:X5)(I:oD)(t:Wx)(fr:J Y9)(a:aT)(s:Zb)(c:ZP)(n:U)(m:U->MV):Prop:=∀(Q:ZP->Zb->Prop)E,(∀it G w St,Wk X A I it t n m w St->Mv [] s G->St 0 a YK->(∀b∈w,Zx<=b\/b∈fr)->Q it G)->ZU YH A (h' c) Q E s
inductive vk(X:Cx)(A:X5)(I:oD)(Zn:S2)(t:Wx)(b:aT)(l:YV)(K:U->(U->MV)->GH->Prop)(c:ZP)(a:Zb):Prop where|mk(r:aT)(i:GH)(n:U)(m:U->MV)(fr:J Y9)(d:bG b r)(S:ak X r Zn l i a)(o:g7 X r i Zn fr)(s:BR X A I t fr r a c n m)(k:K n m i)
variable{N7:U->(U->MV)->GH->Prop}
theorem vk.le(k:Zbq)(h:vk X m b A c N o N7 d G):vk X m b A c y o N7 d G:=by obtain⟨e,f,n,g,fr,a,S,i,s,q⟩:=h;exact⟨e,f,n,g,fr,ru a,S,i,s,q⟩
def gh(X:Cx)(A:X5)(I:oD)(Zn:S2)(t:Wx)(a:p_ ZP)(l:YV)(b:GH)(K:U->(U->MV)->GH->Prop):Prop:=∀y G,ak X y Zn l b G->ZU YH A a (vk X A I Zn t y l K) bz G
theorem gh.mono(h:gh X m c A d f o E N7)(k:∀n b E,N7 n b E->l n b E):gh X m c A d f o E l:=λe s S=>ZS (h e s S) (λO O g=>by obtain⟨r,i,n,b,fr,a,j,p,t,q⟩:=g;exact⟨r,i,n,b,fr,a,j,p,t,k _ _ _ q⟩) λO O q=>q
variable{Nk:J Y9}
theorem e4(S:Zab)(h:∀b∈Nk,ZZ<=b):g7 X y E A Nk:=λb q=>⟨Us (h b q),λa e=>Za (XR (Yg _ _ e)) (Wg (h b q)),S.g.hM (h b q),λe=>Za S.lT (Wg (e▸h b q)),λx c hx e=>Za (S.kP hx) (Wg (e▸h b q))⟩
theorem Off.Il(S:Zab)(d:g7 X y E A fr)(h:∀b∈Nk,ZZ<=b\/b∈fr):g7 X y E A Nk:=λb q=>by
 refine(h b q).elim (λh=>?_) λh=>?_;.exact e4 (Nk:=[b]) S (λc a=>by simp at a;rw[a];exact h) b (Xx rfl)
 .exact d b h
theorem Off.nil:g7 X y E A []:=λb q=>by exact nomatch q
theorem ak.Lg(S:Zab)(m:Mv [] G Nc):ak X y A o E Nc:=by obtain⟨c,t,rfl,hx⟩:=m;exact Q1 (λa b e=>hx a b (nofun) e)
inductive Iz(X:Cx)(A:X5)(b:oD)(Zn:S2)(t:Wx)(W8:J Wa)(l:YV)(I:U->YV->GH->Prop)(K:Gp->YV->GH->Prop)(n:U)(m:U->MV)(c:GH):Prop where|mk(f:U->YV->YV)(a:YV)(d:I 0 a c)(s:N' a l)(tg:∀k,k<n->TG X A b Zn t (m k) (f k))(Ux:∀k l G,k<n->I k l G->EF X A Zn ZbQ (f k l) G (Ex (I (k+1)) K))(Ub:∀l G,I n l G->K .next l G)
theorem EF.vw(I:U->YV->GH->Prop)(h:gh X m c A b ZaZ o E (Iz X m c A b W8 o I B))(hs:Z3 (∀x,ZbY=Yh x) aI):EF X m A (TM (.For b WB W8 [] Ym) A) o E B:=λd s e=>by
 walk_at"a";refine q_ (ZS (h d s e) (λt u q=>?_) λO O q=>q) hs;walk_at"a";obtain⟨y,G,n,z,fr,g,S,i,j,f,l,k,p,tg,Ux,Ub⟩:=q;refine j _ _ λit a w St r mv st hw=>?_;exact Ge r I tg Ux Ub g ⟨(S.Lg mv).forget p,st,Off.Il S i hw⟩ k
theorem g8:∀(y N:aT)(G:Zb)(m:MV)(a:ZP),Zbq->cu y G m a->cu N G m a:=λy N G m a k r=>aw.mono k r
theorem v8:∀(y N:aT)(G:Zb)(m:MV)(e:ZP),Zbq->iA y G m e->iA N G m e:=λy N G m e k r=>r.imp (aw.mono k) λf=>ex3 f λT g i Yw=>and4 Yw λa b c d=>⟨T,g,i,a,b,c,d.mono k⟩
theorem Mv.refl(w:J Y9)(s:Zb):Mv w s s:=⟨Ts,Ur,rfl,λO O O e=>e⟩
theorem Bt(h:∀b o,b∉c->ZG b=Zag->a.get? b=Zag):Mv c G {G with X_:=a,Wf:=d}:=⟨a,d,rfl,h⟩
theorem BR.list(hh:XZ=none)(S:aw y (.lst l) x)(hp:∀a o,y a o->ZG a=Zag):BR X m cu PW [] y G x Xl (λk=>l.getD k .none):=λPX PY k=>by
  obtain⟨a,j,n,YA,z,rl⟩:=S.seq;rw[YA];have F:=WZ;refine TH (aq (hp _ _ z)) ?_;have A:=Walks.list (prog:=Wj) (w:=Sh) (A:=m) hh ZZ a (Y' (XR (hp _ _ z)):a≠ZZ) j;refine k ZaD _ [ZZ] (λk r h=>h.IsListIter ZZ a k/\r a (X8 (.type "list") j n)/\ao r l j.toList) ⟨?_,g8,?_,?_,?_,?_⟩ (Bt λb o O e=>ZA _ e) ⟨⟨_,ZL _ rfl,rfl,rfl⟩,z,rl⟩ (λb hb=>by simp at hb;subst hb;exact .inl (ZV _));.intro k t PZ h I c;obtain⟨⟨o,B,T⟩,p,d⟩:=c;intro le O O hw;exact⟨⟨o,hw _ (.head _) o B,T⟩,le.q _ _ _ _ p,d.ik le⟩
  .intro k t h c;obtain⟨⟨o,B,V,hd⟩,_⟩:=c;intro b hb;simp at hb;subst hb;walk_at"b";exact⟨o,B,kS (by rw[V];simp) λO O e=>by rw[e]at hd;cases hd⟩
  . intro k t s Q E C c;obtain⟨f,p,d⟩:=c;intro g hw i;have ON:k<j.size:=by exact O6 C F
    obtain⟨u,D,PM⟩:=d.get k (a:=l[k]) (Z6 C);refine A.item k s _ _ ON ⟨f,aq (g _ _ p)⟩ λx I PN hv PR hx=>i x _ λP0=>?_;walk_at"e";obtain rfl:x=u:=by simp at hv D;rw[hv]at D;exact ZW D
    obtain⟨⟨PS,M,N,PT⟩,_⟩:=id PR;refine eI M N ⟨Bt hx,⟨⟨PS,M,N,PT⟩,p,d⟩,?_⟩;show aw _ _ _;rw[Z0,Z6 C];exact PM
  .intro t s Q E c;obtain⟨f,p,d⟩:=c;intro g hw i;exact A.done s _ _ (by rw[F];exact⟨f,aq (g _ _ p)⟩) λI PN hx=>i _ (Bt hx)
  .intro k t s Q E c;obtain⟨f,p,d⟩:=c;intro g i;exact A.self k s _ _ ⟨f,aq (g _ _ p)⟩ i
theorem gh.list(hh:XZ=none)(h:EV X m A d o E λc w=>∃b,c=.lst b/\N7 Zw (λe=>UB e .none) w):gh X m cu A l d o E N7:=λj s f=>W1 f λi n p c G a r S k=>by
  obtain⟨b,rfl,k⟩:=k;exact⟨i,G,_,_,[],a,S,Off.nil,BR.list hh r Yg,k⟩
variable{Pf:aT->ZP->Zb->Prop}
theorem kY(b:Zck)(n:∀y N e G,Zbq->Pf N e G->Pf y e G)(p:Xs i=Zaa)(hn:VY i=none)(hv:U9 i=Zbe)(t:(∃id,f=ZaL)\/∃T,f=ZaX)(h:EA X m A (l::d) o E λj w=>∀y G c,ak X y A o w G->ao y j c->ZU YH m (VP f c) (Pf y) bz G)(S:Zab)(u:Z3 ((i==("__debug__"))=false) aD)(he:ZcX)(hp:Z3 (nO A d) aI):ZU YH m (ZH (.Call (.Name i V) (l::d) [] Ym) A) (Pf y) bz G:=by
 refine sL ?_ rfl;walk_at"a";refine(p9 (g:=λx w=>x=.raw f/\w=E) b p hn hv ⟨rfl,rfl⟩ u).use S λQ PM e mv PN a r z k=>?_;clear hv S;obtain⟨rfl,rfl⟩:=k;cases UZ;exact xA t ((h Ym).use z (b:=λc s=>ZU YH m (VP f c) (Pf y) bz s) λB s c j PR C D F I=>ZS (I B s c F D) (λO O q=>n _ _ _ _ (V8 C) q) λO O q=>q) he (hp Ym)
theorem nM(a:ZG it=Zar)(c:b.cls=.type "range_iterator")(h:d () G):ZbW:=i6 a c Z' h
theorem BR.range(hh:XZ=none)(hr:IsRange YK q a b 1 x u F)(i:a.natAbs<2^40)(hb:b.natAbs<2^40):BR X m cu M [] y G (.ref q) (b-a).toNat (λk=>.int (a+k)):=λD I k=>by
  have p:Builtin.Range.small a b 1=true:=by
    unfold Builtin.Range.small;have e1:Sq a b 1=((b-a).toNat):=by
      walk_at"i";unfold Sq;simp only[gt_iff_lt,f6,e3,Int.ediv_one];split<;>(first|exact a9 0x1fdce9152e0e8ba2a5e96a [] [] [_,_] ‹_›|exact a9 0xfee748a96de696a [] [] [_,_] ‹_›)
    have f:∀z:Zv,z.natAbs<2^42->e0 z=true:=λz A=>by
      unfold e0;simp only[YM,XY];exact a9 0x1fee9eacab0fd3eaa [4398046511104,9223372036854775808,9223372036854775808] [] [_] A
    rw[e1,f a (a9 0x7f4f0e9e1 [1099511627776,4398046511104] [_] [] i),f b (a9 0x7f4f0e9e1 [1099511627776,4398046511104] [_] [] hb),f 1 Z',f _ (by exact cD 0x3ffd3eb3a456ad3eabd3eaa [1099511627776,1099511627776,4398046511104] [] [_,_] hb i)]at⊢;simp only[gt_iff_lt,f6,e3,f (b+(1-1)) (a9 0x1fd3eb08b9cad3eaa [1099511627776,4398046511104] [] [_] hb),Bool.and_self,Bool.or_true]
  have hn:Sq a b 1=((b-a).toNat):=by
    unfold Sq;simp only[gt_iff_lt,f6,e3,Int.ediv_one];split<;>(first|exact a9 0x1fdce9152e0e8ba2a5e96a [] [] [_,_] ‹_›|exact a9 0xfee748a96de696a [] [] [_,_] ‹_›)
  refine wpAny_pyIter_range hr p ?_;rw[hn];have g:=Walks.range (prog:=Wj) (w:=Sh) hh ZZ a 1 (b-a).toNat;refine k ZaD _ [ZZ] (λk r h=>IsRangeIter h ZZ (a+k*1) (((b-a).toNat)-k) 1) ⟨?_,g8,?_,?_,?_,?_⟩ (Bt λb o O e=>ZA _ e) ?_ (λb hb=>by simp at hb;subst hb;exact .inl (ZV _));.intro k d N h j st O O O hw;exact hw _ (.head _) _ st
  .intro k d h st b hb;simp at hb;subst hb;exact⟨_,st,kS (by simp) λO O e=>by cases e⟩
  .intro k d s Q E B st l hw c;refine g.item k s _ _ B st λC j t hv n hx=>c C _ λS=>?_;refine nM n rfl ⟨Bt hx,n,?_⟩;obtain⟨x,YA⟩:=hv;rw[YA];rw[Int.mul_one];exact a0 ..
  .intro d s Q E st l hw c;exact g.done s _ _ st λj t hx=>c _ (Bt hx)
  .intro k d s Q E st l c;exact g.self k s _ _ st c
  .show IsRangeIter _ _ _ _ _;simp only[Int.ofNat_zero,m4,Of,Int.sub_zero];exact ZL _ rfl
theorem gh.rY(hh:XZ=none)(b:Zck)(hb:ZcS)(l:Xs "range"=Zaa)(hn:VY "range"=none)(hv:U9 "range"=some ZaH)(h:EV X m A ZbX o E λg w=>∃z:Zv,g=.int z/\z.natAbs<2^40/\N7 G3 (λk=>.int k) w)(i:Z3 (Zr [d] A=(false,ZbX)::ZbE) aR)(hp:Z3 (∀Ym,(UE Ym ZbE).any (·.1)=false) aI):gh X m cu A f (ZH (.Call (.Name "range" u) [d] [] Ym) A) o E N7:=λa s S=>by
 refine kY (Pf:=λa=>vk X m cu A f a o N7) b (λa r j s k=>vk.le k) l hn hv (.inr ⟨_,rfl⟩) (Zu (WT λg w n=>Su n λz Yw=>and3 Yw λhm p k=>Y5 ?_) i) S (by rfl) i hp;rw[hm];intro a s c S e;refine e.cU (NJ:=λc=>ZU YH m (VP (.type "range") c) Za_ bz s) λj c e q=>q.jX (NJ:=λc=>ZU YH m (VP ZaH (j::c)) Za_ bz s) ?_;walk_at"a";obtain⟨t,YA⟩:=e.int;rw[YA];refine call_range_1 ⟨a,w,_,_,[],.refl a,(ih _).toks _,Off.nil,BR.range hh (IsRange.new ..) Z' p,?_⟩;simpa using k
theorem gh.Cq(hh:XZ=none)(b:Zck)(hb:ZcS)(n:Xs "range"=Zaa)(hn:VY "range"=none)(hv:U9 "range"=some ZaH)(h:EV X m A Zc_ o E λe G=>∃y:Zv,e=.int y/\y.natAbs<2^40/\EV X m A ZbX o G λe w=>∃z:Zv,e=.int z/\z.natAbs<2^40/\N7 (z-y).toNat (λk=>.int (y+k)) w)(l:Z3 (Zr [i,d] A=(false,Zc_)::Zr [d] A) aR)(p:Z3 (Zr [d] A=(false,ZbX)::ZbE) aR)(hp:Z3 (∀Ym,(UE Ym (Zr [d] A)).any (·.1)=false) aI):gh X m cu A f (ZH (.Call (.Name "range" F) [i,d] [] Ym) A) o E N7:=λa s S=>by
 refine kY (Pf:=λa=>vk X m cu A f a o N7) b (λa r g s k=>vk.le k) n hn hv (.inr ⟨_,rfl⟩) (Zu (WT λe w q=>?_) l) S (by rfl) l hp;obtain⟨y,rfl,hy,k⟩:=q;refine Zu (k.mono λC w q=>?_) p;obtain⟨z,rfl,u,k⟩:=q;refine Y5 ?_;intro a s c S j;refine j.cU (NJ:=λc=>ZU YH m (VP (.type "range") c) Za_ bz s) λg c j q=>q.cU (NJ:=λc=>ZU YH m (VP ZaH (g::c)) Za_ bz s) λx c B q=>q.jX (NJ:=λc=>ZU YH m (VP ZaH (g::x::c)) Za_ bz s) ?_;walk_at"a";obtain⟨t,YA⟩:=j.int;rw[YA];obtain⟨D,YA⟩:=B.int;rw[YA];exact call_range_2 ⟨a,w,_,_,[],.refl a,(ih _).toks _,Off.nil,BR.range hh (IsRange.new ..) hy u,k⟩
variable{Pd:Wx}
theorem rN{R:TK->Zb->Prop}{X1:g6}(I:U->Zb->Prop)(Ux:∀n G,I n G->ZU YH m (VO NH) (λr s=>match r with
   |none=>R (.ok .next) s|some f=>ZU YH m (Xn Nn NH f) (λO g=>ZU YH m (I_ Nn A f) (λO i=>ZU YH m (forIn NP true λc r=>if r=true then do let ok<-XE c A Zb6;Yh (SO ok)else Yh (SO r)) (λok e=>if ok=true then ZU YH m ZaF (λx j=>ZU YH m (VP ZbD [Pn,x]) (λO k=>∃b,b<n/\I b k) bz j) bz e else∃b,b<n/\I b e) bz i) bz g) bz s) bz G)(n:U)(h:I n G):U4 YH m (.compLoop (.ListComp Ng [⟨Nn,Pd,NP,0⟩] X1 Np) 0 NH Pn A) R G:=by
 refine codeAny_loop rfl I (λn G o=>?_) n h;walk_at"c";show ZU _ m ((compTurn (.ListComp Ng [⟨Nn,Pd,NP,0⟩] X1 Np) 0 NH Pn A).onRaise (λx=>do noteFrame x A;theTreesLotGoes x)) _ _ G;refine wpAny_noted ?_;walk_at"c";rw[compTurn_list];refine Z7 (Yq (Z7 (ZS (Ux n G o) (λr s d=>?_) λO O a=>Ox)));cases r with|none=>exact Z5 d|some f=>
  refine Z7 (ZS d (λO g d=>?_) λO O a=>Ox);refine Z7 (ZS d (λO i p=>Z7 (ZS p (λok e l=>?_) λO O a=>Ox)) λO O a=>Ox);cases ok with|false=>exact Z5 ⟨rfl,l⟩|true=>exact Z7 (Z7 (ZS l (λx j q=>Z7 (ZS q (λO k t=>Z5 (Z5 ⟨rfl,t⟩)) λO O a=>Ox)) λO O a=>Ox))
def eJ(X:Cx)(A:X5)(Zn:S2)(i:J Wx)(l:YV)(G:GH)(K:YZ->GH->Prop):Prop:=EB X A Zn (forIn i true λc r=>if r=true then do let ok<-XE c Zn (ZH c Zn);Yh (SO ok)else Yh (SO r)) l G K
theorem h_(h:Nj true E):eJ X m A [] o E Nj:=λa s S=>wpAny_tests_nil ⟨a,E,.refl a,S,h⟩
theorem Fl(h:EB X m A (XE c A (ZH c A)) o E Nj):eJ X m A [c] o E Nj:=λa s S=>wpAny_tests_one (h a s S)
def oo(tr:U->Zs MV)(k:U):ZaY:=(Zh k).filterMap tr
theorem qA(tr:U->Zs MV)(k:U):oo tr (k+1)=oo tr k++(tr k).toList:=by unfold oo;rw[TX,U3];cases h:tr k<;>simp[h]
theorem tu(tr:U->Zs MV)(k:U):(oo tr k).length<=k:=by unfold oo;exact YX (List.length_filterMap_le ..) (by simp)
inductive LM(i:GH)(o:Zs MV)(r:MV)(G:GH):Prop where|mk(g:G=i)(e:o=Za2)
inductive E2(X:Cx)(A:X5)(c:S2)(e:Wx)(l:YV)(i:GH)(o:Zs MV)(b:YZ)(G:GH):Prop where|mk(g:G=i)(t:b=true->EV X A c (ZH e c) l i (LM i o))(f:b=false->o=none)
inductive E8(X:Cx)(c:S2)(l:YV)(G:GH)(D:Y9)(tr:U->Zs MV)(w:J Y9)(St:U->aT->C_->Prop)(n:U)(d:aT)(j:U)(s:Zb):Prop where|mk(k:U)(a:aT)(e:k+j=n)(le:bG d a)(S:ak X a c l (Y7 G D (.list (oo tr k))) s)(st:St k a Ts)(f:∀b∈w,∀o,¬a b o)
theorem zO(t:Wk X m PY it T n PZ f Px)(I:n<=ZK)(tg:∀k,k<n->TG X m PY c T (PZ k) (Pw k))(Q:∀k,k<n->N' l (Pw k l))(Ux:∀k w,k<n->(∀a o,E a=Zag->w a=Zag)->eJ X m c P0 (Pw k l) w (E2 X m c P2 (Pw k l) w (tr k)))(hb:∀b∈f,YF b=none/\c.locals≠b/\∀x V,c.cells.lookup x=some V->V≠b)(P4:E d=none)(P5:d∉f)(z:bG F y)(S:ak X y c l (Y7 E d (.list [])) G)(st:Px 0 y YK)(hg:∀b∈f,E b=none/\∀o,¬y b o)(Ub:∀N Nc,bG F N->ak X N c l (Y7 E d (.list (oo tr n))) Nc->R (.ok .next) Nc):U4 YH m (.compLoop (.ListComp P2 [⟨T,WB,P0,0⟩] X1 Ym) 0 it ZaG c) R G:=by
  refine rN (E8 X c l E d tr f Px n F) ?_ n ⟨0,y,Wi n,z,S,st,λb q=>(hg b q).2⟩;intro j G P6;obtain⟨k,y,C,z,S,st,hw⟩:=P6;walk_at"a";have P7:∀{b o},E b=Zag->b≠d:=λe q=>by rw[q,P4]at e;cases e
  have TQ:g7 X y (Y7 E d (.list (oo tr k))) c f:=λb q=>⟨(ag λe:b=d=>P5 (e▸q)).trans (hg b q).1,hw b q,hb b q⟩;by_cases p:k<n
  . refine t.next k y G _ _ p st Yg hw λP8 PM P9=>ZS (P9 _) (λ_ D q=>?_) λO O q=>q;obtain⟨mv,PN,Qa⟩:=q;walk_at"a";have PR:=S.mv TQ mv;refine ZS (tg k p _ l _ D P8 (PR.zD TQ) (t.KI _ _ _ _ _ p5 Qa)) (λO Qb Qc=>?_) λO O q=>Vm;walk_at"a";have OO:∀i r,bG (eY y f D.heap) i->ak X i c (Pw k l) (Y7 E d (.list (oo tr (k+1)))) r->∃PS,PS<j/\E8 X c l E d tr f Px n F PS r:=λi r le u=>by
      have PT:∀b∈f,∀o,D.heap.get? b=Zag->i b o:=λb q o e=>le _ _ (.inr ⟨q,e⟩);have A:=(u.m9 λb q=>Su (t.obj _ _ _ PN b q) λo Yw=>Uc Yw λe Qd=>⟨o,PT b q o e,Qd⟩).1;have PW:bG y (gk i f):=λa o e=>⟨le _ _ (.inl e),λq=>hw a q o e⟩;exact⟨j-1,Ke C p,k+1,gk i f,KA C p,z.trans PW,A.forget (Q k p),t.frame _ _ _ _ _ PN PW.s PR.g.aG A.g.aG (λb q o e=>u.g.aG _ _ (PT b q o e)),λb q o e=>e.2 q⟩
    refine ZS (Ux k _ p (λa o e=>(ag (P7 e)).trans e) _ Qb Qc) (λok r q=>?_) λO O q=>Vm;obtain⟨i,Qp,PX,u,Qe,ht,Qf⟩:=q;subst Qe;cases ok with
    |false=>exact OO i r PX (by rw[qA,Qf rfl,Option.toList_none,Zm];exact u)|true=>
      refine ZS (ht rfl i r u) (λx Qq q=>?_) λO O q=>Vm;obtain⟨Qr,Qt,Qu,Qg,Qh,A,Qi,Qj⟩:=q;walk_at"a";subst Qi;refine ZS (lW (g:=λO w=>w=Y7 E d (.list (oo tr (k+1)))) (aa ..) (YX (tu tr k) (K9 p I)) A (aE ..) Qh (by rw[aP,qA,Qj];rfl)) (λ_ Qk q=>?_) λO O q=>q;obtain⟨Ql,_,Qv,Qm,_,Qn,Qo⟩:=q;subst Qo;exact OO Ql Qk (PX.trans (Qg.trans Qm)) Qn
  .have ON:=J7 C p;clear I tg Q Ux;subst ON;exact t.done y G _ _ st Yg hw λPM mv=>Ub y PM z (S.mv TQ mv)
theorem bj(h:Yb x=ZaS):(x,mv)∈o:=Ve h
structure qz(Zn:S2)(X1:g6)(cl:J (Z×Y9))(l a:YV):Prop where
 Lh:closureFor X1 Zn=Yh cl
 kind:scope.kind=.function
 WD:∀x∈scope.names,x.2=.local->scope.names.lookup x.1=some .local
 Ip:∀x∈scope.names,x.2≠.cell
 sub:∀p∈cl,Xz p.1=some p.2
 my:∀p∈a,Wq p.1=some p.2/\YJ p.1≠some .local/\((relabel X1 Zn).names.lookup p.1=Zbm\/(relabel X1 Zn).names.lookup p.1=some .free)/\(cl.lookup p.1).isSome=true
inductive xR(X:Cx)(A:X5)(I:oD)(Zn:S2)(e t:Wx)(b:J Wx)(X1:g6)(cl:J (Z×Y9))(l:YV)(K:ZaY->GH->Prop)(n:U)(m:U->MV)(G:GH):Prop where|mk(f:U->YV->YV)(tr:U->Zs MV)(z:n<=ZK)(tg:∀C k,k<n->TG X A I ZcR t (m k) (f k))(sub:∀k,k<n->N' l (f k l))(Ux:∀C k i,k<n->(∀a o,G a=Zag->i a=Zag)->eJ X A ZcR b (f k l) i (E2 X A (S0 X1 cl C Zn) e (f k l) i (tr k)))(k:K (oo tr n) G)
variable{Pk:ZaY->GH->Prop}
theorem qm(l:YV)(my:Zcm)(h:gh X m Qf A PM ZaZ o E (xR X m Qf A PY PM PZ X1 cl l Pk))(Ub:∀os n C P0 B j Q,Pk os n->bG y B->ak X B A o n j->aw B (.lst os) (.ref P0)->g7 X B n A [C]->j.heap.get? C=some Q->(∃d PN,Q.data=.dict d PN)->(∃PR,j.heap.Ns C PR)->compPost YH m bz use P2 (.ref P0) C (.ok .next) j)(Qg:Zab)(hs:Z3 (∀x,ZbY=Yh x) aI):ZU YH m (comprehension (.ListComp PY [⟨PM,WB,PZ,0⟩] X1 Ym) X1 A QJ (newList []) false ZaZ use) P2 bz G:=by
  refine wpAny_comprehension_free rfl hs my.Lh my.kind my.names ?_;walk_at"a";refine ZS (h y G Qg) (λP4 QK q=>?_) λO O q=>q;obtain⟨Qh,n,QL,QM,fr,Qi,S,Qj,Qk,QN,tr,Ql,tg,Qm,Ux,Qn⟩:=q;obtain⟨t,P5,Qo,Qp,Oy⟩:=S.liftT;refine Qk _ _ λit j Qq St T mv st hw=>?_;have w:ak X Qh A o n j:=S.Lg mv;have P6:aA X t n j:=by
    clear st w;obtain⟨QP,QQ,YA,hx⟩:=mv;rw[YA];exact Qo.keep (λPS k e=>hx PS k (by simp) e)
  have TQ:=Off.Il S Qj hw;walk_at"a";have P7:∀b∈Qq,b<Xk:=λb q=>Su (T.obj _ _ _ st b q) λk Yw=>Uc Yw λe O=>XR e;refine Yn (wpAny_newFunctionEnv (my.Ip) (by intro PT hy;simp at hy) (λz P8 P9=>?_) my.kind);have Qa:=P6.fresh (ZV _);have N:aA X t Zb7 {j with X_:=j.heap.push {T':=Zad,dt:=none,Xg:=.seq [].toArray}}:=P6.new (Vo (#[]) 0 ⟨ZL _ rfl,.nil⟩);generalize Qb:j.heap.push {T':=Zad,dt:=none,Xg:=.seq [].toArray}=p at P8 P9 N⊢;have V:T9=Xk+1:=by rw[<-Qb,I7]
  have old:∀b k,p.get? b=some k->z.get? b=some k:=λb k e=>P9.extBut b k (Y' (XR e)) (ZA _ e);have PW:aA X t Zb7 {j with X_:=z,Wf:=j.toks+([]:J (Z×ZP)).length}:=N.keep (λPS k e=>old PS k e);have Qc:∀b k,j.heap.get? b=some k->z.get? b=some k:=λb k e=>old b k (Qb▸ZA _ e);have u:∀x c,cl.lookup x=Zan->Wd x=Zan:=λx c e=>my.sub (x,c) (Ve e);have Qr:CR X t Zb7 (S0 X1 cl T9 A) l z:=by
    walk_at"7";refine⟨my.kind,Gs,ta,⟨_,P8,λx mv hx D=>?_⟩,λx c F=>?_,λx mv hx=>?_,⟨?_,λk e=>?_,?_⟩,λx c F=>⟨?_,?_,λQt k e=>?_⟩,λx PT c hx hy=>yx x PT c (u x c hx) (u PT c hy)⟩;.obtain⟨_,_,ON,_⟩:=my.my _ (bj hx);have:(S0 X1 cl T9 A).kindOf x=(relabel X1 A).names.lookup x:=rfl;rw[this]at D;rw[D]at ON;rcases ON with e|e<;>cases e
    .obtain⟨P4,⟨k,Qu,hd⟩,hv⟩:=w.f.yf x c (u x c F);walk_at"b";refine⟨P4,⟨k,Qc _ _ Qu,hd⟩,λmv hx O=>?_⟩;walk_at"b";obtain⟨e1,e2,_⟩:=my.my _ (bj hx);clear hd;obtain⟨Qv,rfl,Qw⟩:=hv mv e1 e2;exact⟨Qv,rfl,Qw.mono P5⟩
    .obtain⟨_,_,ON,Qx⟩:=my.my _ (bj hx);exact .inr ⟨ON,ff Qx⟩
    .show Y7 _ _ _ T9=none;exact N.fresh (ZV _)
    .exact Za (XR (N.aG _ _ e)) (UA _)
    .exact N.hM (ZV _)
    .have:=w.kP (u x c F);rw[ag (Y' this)];exact(W7 x c (u x c F)).1
    .exact(W7 x c (u x c F)).2.1
    .have:=w.kP (u x c F);have Qy:T9<c:=Qt;exact Za (w_ this (V▸Wp Xk)) (Nat.lt_asymm Qy)
  have Qz:ak X t (S0 X1 cl T9 A) l Zb7 {j with X_:=z,Wf:=j.toks+[].length}:=⟨PW,Qr⟩;have Qd:St 0 t z:=T.frame _ _ _ _ _ st P5.s w.g.aG PW.aG λb q k e=>Qc b k e;have loop:U4 YH m (.compLoop (.ListComp PY [⟨PM,WB,PZ,0⟩] X1 Ym) 0 it (.ref Xk) (S0 X1 cl T9 A)) (compPost YH m bz use P2 (.ref Xk) T9) {j with X_:=z,Wf:=j.toks+[].length}:=by
    walk_at"w";refine zO (F:=t) T Ql (λPX D=>tg _ PX D) Qm (λPX i D hx=>Ux _ PX i D hx) (λb q=>⟨(TQ b q).2.2.1,?_,λx c hx=>(TQ b q).2.2.2.2 x c (u x c hx)⟩) Qa (λq=>Za (P7 _ q) (UA _)) (.refl _) Qz Qd (λb q=>⟨(TQ b q).1,λk e=>?_⟩) λr a le QA=>?_;.show T9≠b;exact Zg (Y' (w_ (P7 b q) (V▸Wp Xk)))
    . refine(Qp _ _ e).elim (λh=>?_) λYB=>YB.elim (λh=>?_) λYA=>?_;.exact(TQ b q).2.1 k h
      .exact(TQ b q).2.2.2.1 h.symm
      .obtain⟨x,h⟩:=YA;exact(TQ b q).2.2.2.2 x b h rfl
    . obtain⟨QB,QC,QD,I⟩:=QA.jk (aa ..);rw[mB _ _ _ Qa]at I;obtain⟨B,QE,QF,rep,QG⟩:=Oy QB n a (b6 QC) I.g;obtain⟨PR,Qe,_⟩:=I.f.loc;obtain⟨Q,d,PN,QH,QI,_⟩:=id Qe;refine Ub _ n T9 Xk B a Q Qn (Qi.trans QE) QF (QD.ik rep) ?_ QH (Vo d PN QI) ⟨PR,Qe⟩;intro b hb;simp only[Wt]at hb;rw[hb];refine(andI5 I.f.lG.1 (λk e=>I.f.lG.2.1 k (QG _ _ e)) I.f.lG.2.2 ?_ (λx c hx=>?_));.exact Y' (w_ w.lT (V▸Wp Xk))
      .exact Y' (w_ (w.kP hx) (V▸Wp Xk))
  exact codeAny_compStart_list loop (T.self 0 t _ _ _ Qd PW.aG loop)
theorem EV.comp(l:YV)(my:Zcm)(h:gh X m c A a ZaZ o E (xR X m c A d a i X1 cl l λos=>g (.lst os)))(hs:Z3 (∀x,ZbY=Yh x) aI):EV X m A (ZH (.ListComp d [⟨a,WB,i,0⟩] X1 Ym) A) o E g:=λw y S=>by
 walk_at"a";refine qm (use:=none) l my h (λos G C D f s z k le j r TQ B O hm=>?_) S hs;obtain⟨n,hm⟩:=hm;exact⟨n,hm,λp t=>⟨f,_,G,le,r,j.mv TQ (Vo p (Ur) ⟨rfl,λb u hb e=>t.extBut b u (λq=>hb (Xx q)) e⟩),k⟩⟩
theorem EF.Hl(l:YV)(my:Zcm)(y:aM A x)(h:gh X m T A n ZaZ o E (xR X m T A F n i X1 cl l λos=>B .next (aJ x (.lst os) o)))(hw:Z3 (N0 (.ListComp F [⟨n,WB,i,0⟩] X1 Ym) (some (.Name x u)) M.line A=Yh true) aR)(hs:Z3 (∀x,ZbY=Yh x) aI):EF X m A (TM (.Assign [.Name x u] (.ListComp F [⟨n,WB,i,0⟩] X1 Ym) M) A) o E B:=λz PT D=>by
 walk_at"a";rw[exec_Assign_Name_used x u _ M hw];refine Z7 (Yq (Z7 ?_));walk_at"a";show ZU _ _ (comprehension _ X1 A _ (newList []) false ZaZ (some _)>>=_) _ _ _;refine Z7 (ZS (qm (use:=some (w2 (.Name x u) A)) (P2:=λO a=>PF X A z B .next a) l my h (λos G C PW c s j k le I r TQ p N hm=>?_) D hs) (λO O q=>Z5 (Z5 q)) λO O q=>q);walk_at"8";have Q:=I.zD TQ;refine V7 (Q.st (Tp p5) y λa S=>?_);walk_at"b";have t:eY c [C] Ts C j:=.inr ⟨.head _,p⟩;obtain⟨V,PX,d,w,hm,hr⟩:=hm;rw[p]at hm;cases hm;refine⟨V,(exI3 j d w ⟨Yg _ _ t,hr⟩),λPM PN=>?_⟩;obtain⟨PR,PY,_⟩:=S.m9 (l:=[C]) λb q=>by
  rw[ZD q];exact⟨j,t,ex2 N λd w hd=>Fi (λO O e=>nomatch p6 e) λO e=>nomatch p6 e⟩
 refine⟨gk (eY c [C] Ts) [C],.next,_,G,b6 (λPS f e=>⟨.inl e,λq=>(TQ PS q).2.1 f e⟩:bG c (gk (eY c [C] Ts) [C])),rfl,?_,k⟩;exact PR.mv (λb q=>⟨(TQ b q).1,λf e=>e.2 q,(TQ b q).2.2⟩:g7 X (gk (eY c [C] Ts) [C]) G A [C]) (Vo PM a.toks ⟨rfl,λb f hb e=>PN.extBut b f (λq=>hb (Xx q)) e⟩)
section
open PySem.Builtin.Str(strSliceIndices)
theorem qC(hl:V6 ZaX "__getitem__"=Yh Zb5)(h:ZU Zbt m Zcn (λo d=>ZU Zbt m (ZH (.Slice lower upper none k) A) (λi s=>s.TypeIs o T/\ZU Zbt m (l4 o i) f b s) b d) b G):ZU Zbt m (ZH (.Subscript UY (.Slice lower upper none k) Ym) A) f b G:=by
  refine Z7 (ZS h (λo d g=>Z7 (ZF (ZS g (λi s c=>Z7 (Yq ?_)) λO O x=>x))) λO O x=>x);have Ub:ZU Zbt m (operate [i,o] (l4 o i)) (λr e=>ZU Zbt m (R9 UY o r>>=λO=>Yh r) f b e) b s:=wpAny_operating (ZS c.2 (λr e j=>Z7 (wpAny_letTemporaryGo (Z5 j))) λO O x=>x);first
    |(refine Z7 ?_;walk_at"a";refine Z7 (Vy c.1 hl ?_);first
         |exact Z5 (Z7 Ub)|exact Z7 (Z5 (Z7 Ub))|exact Z7 Ub)
    |(refine Z7 (Vy c.1 hl ?_);first|exact Z7 (Z5 (Z7 Ub))|exact Z7 Ub)
theorem oP(hl:V6 ZaX "__getitem__"=Yh Zb5)(h:ZU Zbt m Zcn (λo d=>ZU Zbt m (ZH (.Slice lower upper (some k) l) A) (λi s=>s.TypeIs o T/\ZU Zbt m (l4 o i) f b s) b d) b G):ZU Zbt m (ZH (.Subscript UY (.Slice lower upper (some k) l) Ym) A) f b G:=by
  refine Z7 (ZS h (λo d g=>Z7 (ZF (ZS g (λi s c=>Z7 (Yq ?_)) λO O x=>x))) λO O x=>x);have Ub:ZU Zbt m (operate [o,i] (l4 o i)) (λr e=>ZU Zbt m (R9 UY o r>>=λO=>Yh r) f b e) b s:=wpAny_operating (ZS c.2 (λr e j=>Z7 (wpAny_letTemporaryGo (Z5 j))) λO O x=>x);first
    |(refine Z7 ?_;walk_at"a";refine Z7 (Vy c.1 hl ?_);first
         |exact Z5 (Z7 Ub)|exact Z7 (Z5 (Z7 Ub))|exact Z7 Ub)
    |(refine Z7 (Vy c.1 hl ?_);first|exact Z7 (Z5 (Z7 Ub))|exact Z7 Ub)
def rB:Zs Zv->MV|none=>.none|some i=>.int i
theorem rB.part(r:aw y (rB a) b):IsPart b a:=by cases a with|none=>rw[UZ];exact .none|some i=>obtain⟨t,rfl⟩:=r.int;exact .int i t
inductive M3(K:Zs Zv->GH->Prop)(m:MV)(i:GH):Prop where|mk(o:Zs Zv)(e:m=rB o)(k:K o i)
inductive MI(K:Zs Zv->GH->Prop)(m:MV)(i:GH):Prop where|mk(a:Zv)(e:m=Zbu)(k:K ZaB i)
def gZ(X:Cx)(A:X5)(Zn:S2)(e:Zs Wx)(l:YV)(G:GH)(K:Zs Zv->GH->Prop):Prop:=EV X A Zn (evalPart e Zn) l G (M3 K)
variable{PJ:Zs Zv->GH->Prop}
theorem SN(h:PJ none E):gZ X m A none o E PJ:=λa s S=>Z5 ⟨a,.none,E,.refl a,aE ..,S,s',rfl,h⟩
theorem U2(h:EV X m A (ZH a A) o E (MI PJ)):gZ X m A ZaB o E PJ:=EV.mono h λd i b=>by obtain⟨c,a,k⟩:=b;exact⟨Option.some c,a,k⟩
def cF{α:Type}(m:J α)(lo a:Zs Zv):J α:=(m.drop (eB 0 (E' WM))).take (Ox WM (E' WM)-eB 0 (E' WM))
theorem eT(m:J α)(a:U):cF m ZaB none=m.drop a:=by
 unfold cF;simp only[OL,clipAt_nat];refine(lh a WM).elim (λh=>?_) λh=>?_;.rw[OC h,YR (by simp)]
 .rw[Q_ h,Vj (by simp),Vj (by simpa using h)];simp
theorem iS(m:J α)(b:U):cF m none Zar=m.take b:=by
 unfold cF;simp only[OL,clipAt_nat,Uo,Nat.sub_zero];refine(lh b WM).elim (λh=>?_) λh=>?_;.rw[OC h]
 .rw[Q_ h,YR (by simp),YR (by simpa using h)]
theorem nq(m:J α):cF m none none=m:=by simp[cF]
theorem fW(m:J α)(a b:U):cF m ZaB Zar=(m.drop a).take (b-a):=by
  unfold cF;simp only[OL,clipAt_nat];refine(lh a WM).elim (λh=>?_) λh=>?_
  . rw[OC h];refine(lh b WM).elim (λc=>?_) λc=>?_;.rw[OC c]
    .rw[Q_ c,YR (by simp),YR (by simp;exact aV 0x7f301c4620e441 [_,_,_] c)]
  .rw[Vj h,Vj (by rw[Q_ h];exact ZV _)];simp
theorem ao.slice(r:ao y b mx)(lo a:Zs Zv):ao y (cF b lo a) (slicePick c lo a s').toList:=by
 rw[slicePick_plain,b'];exact(r.drop _).take _
inductive KN(K:MV->GH->Prop)(lo a:Zs Zv)(b:MV)(G:GH):Prop where|mk(m:ZaY)(h:cg G b=Zcd)(z:WM<=ZK)(k:K (.lst (cF m lo a)) G)
theorem u0(h:EV X m A Zcn o E λd G=>gZ X m A lower o G λlo e=>gZ X m A upper o e λb=>KN g lo b d):EV X m A (ZH (.Subscript UY (.Slice lower upper none T) Ym) A) o E g:=λV PM l=>by
 walk_at"a";refine qC (T:="list") list_getitem_lookup (W1 l λPN PR PS d G p r q t=>wpAny_Slice (EV.use t q λPT PW f PX e i u w c=>?_));walk_at"a";obtain⟨lo,rfl,c⟩:=c;refine EV.use c w λPY s j PZ x a y S k=>?_;obtain⟨b,rfl,k⟩:=k;obtain⟨P0,hm,z,k⟩:=k;obtain⟨B,C,n,rfl,D,rl⟩:=listAt hm S (Tp (i.trans a));refine Z5 ?_;have g':(To {T':=.type "slice",Xg:=.fields #[f,j,.none]}).get? B=some (X8 (.type "list") C n):=ZA _ D;refine⟨(aq g').typeIs,wpAny_getItem_list_slice (aq g') (Heap.IsSliceOf.new ..) (rB.part (u.mono a)) (rB.part y) .none Z' ?_ (by rw[WZ];exact z)⟩;have F:=ih {T':=.type "slice",Xg:=.fields #[f,j,.none]};obtain⟨I,M,N,Q⟩:=F.iZ (T:="list") (rl.slice lo b);refine⟨I,_,x,((ez i).trans a).trans M,N,?_,k⟩;exact Q
theorem o7(a:Ua ZP):slicePick a none none (some (-1))=a.toList.reverse.toArray:=by
  unfold slicePick;have e:so none none (some (-1)) T6=((T6:Zv)-1,-1,-1):=by simp[so]
  rw[e];have h2:sliceRange (T6-1) (-1) (-1)=(Zh T6).map λk=>T6-1-k:=by
    have:=picked_rev T6;unfold f5 at this;exact this
  simp only[h2];congr 1;apply G2;intro f;rw[List.filterMap_map];have:(Zh T6).filterMap ((λx=>a[x]?)∘λk=>T6-1-k)=(Zh T6).map λk=>(a[T6-1-k]?).getD .none:=by
    have gen:∀i:J U,(∀k∈i,k<T6)->i.filterMap ((λx=>a[x]?)∘λk=>T6-1-k)=i.map λk=>(a[T6-1-k]?).getD .none:=by
      intro i;induction i with|Yl=>intro O;rfl|Zp k i g=>
        intro b;have c:T6-1-k<T6:=by exact Jt (b k Y4)
        rw[qb,Yd,g λj hj=>b j (ZX _ hj)];simp[c]
    exact gen _ λk b=>WX b
  rw[this];by_cases d:f<T6
  . have c:T6-1-f<T6:=by exact Jt d
    simp[d,c]
  .simp[d]
theorem EV.th(h:EV X m A Zcn o E λc d=>EV X m A ZaF o d λe G=>∃b,e=.int (-1)/\cg G c=Zar/\Zw<=ZK/\g (.lst b.reverse) G):EV X m A (ZH (.Subscript UY (.Slice none none (some Ng) F) Ym) A) o E g:=λI M f=>by
 walk_at"a";refine oP (T:="list") list_getitem_lookup (W1 f λN Q T c d i r j l=>wpAny_Slice ?_);refine Z5 (Z5 (EV.use l j λV s PM PN G a p S k=>?_));walk_at"g";obtain⟨b,rfl,hm,q,k⟩:=k;obtain⟨u,w,n,rfl,x,rl⟩:=listAt hm S (Tp a);obtain⟨t,rfl⟩:=p.int;have g':(To {T':=.type "slice",Xg:=.fields #[.none,.none,.int (-1) t]}).get? u=some (X8 (.type "list") w n):=ZA _ x;refine⟨(aq g').typeIs,wpAny_getItem_list_slice (aq g') (Heap.IsSliceOf.new ..) .none .none (.int (-1) t) Z' ?_ (by rw[WZ];exact q)⟩;have y:=ih {T':=.type "slice",Xg:=.fields #[.none,.none,.int (-1) t]};obtain⟨z,B,C,D⟩:=y.iZ (T:="list") rl.reverse;refine⟨z,_,G,(i.trans a).trans B,C,?_,k⟩;rw[o7];exact D
theorem kg(lo a:Zs Zv)(n:U):f5 lo a 1 n=(Zh (Ox n (E' n)-eB 0 (E' n))).map (eB 0 (E' n)+.):=by
 unfold f5;have e:sliceRange (so lo a none n).1 (so lo a none n).2.1 1=(Zh (Ox n (E' n)-eB 0 (E' n))).map (eB 0 (E' n)+.):=by rw[(sliceBounds_plain lo a n)];exact sliceRange_one _ _
 rw[<-e];clear e;cases lo<;>cases a<;>simp[so]
def eL(x:Z)(lo a:Zs Zv):Z:=⟨(cF S' lo a).toArray⟩
theorem sG(x:Z)(lo a:Zs Zv):(eL x lo a).length<=ZO:=by
 show(cF S' lo a).toArray.size<=bb;unfold cF;simp only[V',Zo,Zd,Yy];exact KZ
theorem wc{t:nj}{lo:Zs (Zv×nj)}(b:ZO<=ZK)(h:∀t n,i (.str (eL x (lo.map (·.1)) (Ti (·.1))) t) {G with Wf:=n}):(sliceMade x t lo a none).post i G:=by
  have e:((slicePicked x lo a none).filterMap (x.cps[.]?)).toArray=(eL x (lo.map (·.1)) (Ti (·.1))).cps:=by
    unfold slicePicked eL;rw[kg,pick_run];rfl
  unfold sliceMade;refine bQ rfl (λd=>?_) λO=>?_
  . simp only[Option.map_none,Option.getD_none,YM,V5]at d;have hx:eL x (lo.map (·.1)) (Ti (·.1))=x:=by
      have hl:=d.2;unfold slicePicked at hl;simp only[Option.map_none,Option.getD_none]at hl;rw[kg,Z2,WW]at hl;unfold eL cF;have f:x.cps.toList.length=ZO:=by simp[Str.length]
      have j:(Ti (·.1)).elim ZO (E' ZO)<=ZO:=by
        clear h e d hl;cases a with|none=>exact ZV _|some p=>simp only[Option.map_some,OL];unfold E';exact fA 0x190d2f69854d [] [_] [_]
      by_cases g:(lo.map (·.1)).elim 0 (E' ZO)=0;.rw[g,Uo,YR (by rw[f];exact aV 0x7f316847b1c441 [_,_,_] hl)]
      . have:ZO=0:=by exact fX 0x3fffeda3e6da2c8c3b1c441 [_,_,_] hl j g
        have b:=Xm (bx 0x7ffb68b6116da1 [_,_] this f);cases x with|mk c=>simp at b;rw[b];simp
    have:=h t Wu;rw[hx]at this;exact this
  .have:=h Wu (Wu+1);rw[e];exact⟨YX (sG x _ _) b,this⟩
theorem rB.EJ(r:aw y (rB a) b):∃p:Zs (Zv×nj),b=partValue p/\p.map (·.1)=a:=by cases a with|none=>rw[UZ];exact⟨s',rfl,rfl⟩|some i=>obtain⟨t,rfl⟩:=r.int;exact⟨Option.some (i,t),rfl,rfl⟩
theorem EV.wx(h:EV X m A Zcn o E λc d=>gZ X m A lower o d λlo e=>gZ X m A upper o e λf G=>∃x,c=.str x/\ZO<=ZK/\g (.str (eL x lo f)) G):EV X m A (ZH (.Subscript UY (.Slice lower upper none M) Ym) A) o E g:=λB s S=>by
 walk_at"a";refine qC (T:="str") F.slot_str_getitem.lookup (W1 S λC D I c d a r j i=>wpAny_Slice (EV.use i j λN Q T V e l p q k=>?_));walk_at"a";clear i;obtain⟨lo,rfl,k⟩:=k;refine EV.use k q λt PM PN PR G u w y b=>?_;clear k;obtain⟨f,rfl,x,rfl,z,b⟩:=b;obtain⟨PS,rfl⟩:=sz;obtain⟨p1,rfl,e1⟩:=rB.EJ p;obtain⟨p2,YA,e2⟩:=rB.EJ w;rw[YA];refine Z5 ⟨xa ..,wpAny_getItem_str_slice (l:=p1) (u:=p2) (st:=none) ⟨_,ZL _ rfl,rfl,rfl⟩ rfl (wc z λPT n=>?_)⟩;rw[e1,e2];walk_at"9";exact⟨t,_,G,(V8 l).trans u,bp ..,(y.push _).toks n,b⟩
end
section
open PySem.Builtin.Str(occurrences)
theorem EV.BH(h:EV X m A ZaF o E λa G=>∃x,a=.str x/\EV X m A Zci o G λb c=>∃y i XG,b=.str y/\sl x y 0 ZO 1=i::XG/\g Zbs c)(he:Z3 (eP A Ng ("index") Np [Nn] Nx Nz) aR)(d:Za5):EV X m A (ZH (.Call (.Attribute Ng ("index") Np) [Nn] [] Nx) A) o E g:=by
 refine ls (Nz:=Nz) A' F.slot_str_index F.type_str_index (WT λa G hm=>?_) he d;obtain⟨x,YA,h⟩:=hm;rw[YA];refine⟨cv.str,Zu (WT λb c hx=>Y5 λl s n p S r rs=>?_) d⟩;walk_at"a";obtain⟨y,i,XG,rfl,e,k⟩:=hx;obtain⟨q,YA,f⟩:=rs.u;rw[YA];obtain⟨t,YA⟩:=sz;rw[YA];obtain⟨j,YA⟩:=f.str;rw[YA];exact call_gives F.slot_str_index (xa ..) F.entry_str_index (F.args_str_index_2 _ _) (gives_str_index x y t j i XG e) (UW S (a0 ..) k)
theorem A1(hg:E a=some (.list (c++[x])))(f:Yv+1<=ZK)(S:Zab)(r:aw y Zaj i)(k:g x (Y7 E a (.list c))):ZU YH m (VP (.builtin "list.pop") [i]) Zae bz G:=by
 walk_at"a";obtain⟨YA,b,n,e,rl⟩:=k8 hg S r;rw[YA];have d:b.size=Yv+1:=by rw[WZ,Z1];rfl
 obtain⟨u,j,l⟩:=ia Yv (a:=x) (by simp);have p:b[b.size-1]?=some u:=by rw[d];simpa using j
 refine SG F.slot_list_pop ⟨_,e,rfl⟩ F.entry_list_pop (F.args_list_pop_1 _) (MeetsSeq.list_pop_last a b n u p (by rw[d];exact f)) ⟨e,?_⟩;refine PV.set S e hg ?_ l k;have:(b.eraseIdxIfInBounds (b.size-1)).toList=b.toList.take Yv:=by
  rw[Array.eraseIdxIfInBounds,dif_pos (by exact aV 0x7f418b83b83841 [_,_] d),Array.toList_eraseIdx,List.eraseIdx_eq_take_drop_succ,Vj (by simp;exact cY 0x660e8b821 [_]),Zm,d];rfl
 rw[this];have:=rl.take Yv;simpa using this
theorem EV.pop(h:EV X m A ZaF o E λc G=>∃a b x,c=Zaj/\G a=some (.list (b++[x]))/\Zw+1<=ZK/\g x (Y7 G a (.list b)))(he:Z3 (eP A Ng ("pop") Np [] Nx Nz) aR):EV X m A (ZH (.Call (.Attribute Ng ("pop") Np) [] [] Nx) A) o E g:=by
 refine EV.ES (Nz:=Nz) R_ F.slot_list_pop F.type_list_pop (WT λc G hm=>?_) he;walk_at"g";obtain⟨a,b,x,rfl,hg,d,k⟩:=hm;exact⟨e5 (c8 hg),λe s f S r=>A1 hg d S r k⟩
theorem wb(rm:Rm X m T)(hm:cg E l=some (k' .str))(S:Zab)(r:aw y l b)(j:aw y (.str d) u)(k:g (.int (t.countP (.==d):U)) E):ZU YH m (VP (.builtin "list.count") [b,u]) Zae bz G:=by
  walk_at"a";obtain⟨a,c,n,YA,f,rl⟩:=listAt hm S r;rw[YA];obtain⟨e,YA⟩:=j.str;rw[YA];have p:∀(t:J Z)c,ao y (k' .str) c->(∀b∈c,∃x e,b=.str x e)/\c.countP (λb=>match b with|.str x _=>x==d|_=>false)=t.countP (.==d):=by
    intro t;induction t with
    |Yl=>intro c r;rw[r];exact⟨jP,rfl⟩|Zp x t i=>
      intro c r;obtain⟨b,q,rfl,s,rl⟩:=r;walk_at"l";obtain⟨e,rfl⟩:=s.str;obtain⟨h1,h2⟩:=i q rl;refine⟨λb hv=>?_,?_⟩
      . refine(ZI hv).elim (λYA=>?_) λhv=>?_;.rw[YA];exact⟨x,e,rfl⟩
        .exact h1 b hv
      .rw[P_,P_,h2]
  obtain⟨h1,h2⟩:=p t mx rl;refine SG F.slot_list_count ⟨_,f,rfl⟩ F.entry_list_count (F.args_list_count_2 _ _) (SeqAt.list_countAt a c n none #[] (.str d e) (λb=>match b with|.str x _=>x==d|_=>false)) ⟨f,λb hv=>?_,?_⟩;.obtain⟨x,w,YA⟩:=h1 b (Array.mem_toList_iff.mpr hv);rw[YA];exact SeqAt.EqAt.str_str x w d e
  .rw[h2];exact UW S (a0 ..) k
theorem EV.count(rm:Rm X m j)(h:EV X m A ZaF o E λa G=>∃x:J Z,a=.lst (hc .str)/\EV X m A Zci o G λb c=>∃y,b=.str y/\g (.int (x.countP (.==y):U)) c)(he:Z3 (eP A Ng ("count") Np [Nn] Nx Nz) aR)(d:Za5):EV X m A (ZH (.Call (.Attribute Ng ("count") Np) [Nn] [] Nx) A) o E g:=by
 refine ls (Nz:=Nz) R_ F.slot_list_count F.type_list_count (WT λa G hm=>?_) he d;obtain⟨x,YA,h⟩:=hm;rw[YA];refine⟨e5 (aF ..),Zu (WT λb c hx=>Y5 λf s i l S r rs=>?_) d⟩;walk_at"a";obtain⟨y,rfl,k⟩:=hx;obtain⟨n,YA,e⟩:=rs.u;rw[YA];exact wb rm (aF ..) S r e k
end
def a'(a:aT)(m c:MV):Prop:=∀b,aw a m b->aw a c b
theorem Reads.refl(m:MV):a' y m m:=λO r=>r
inductive jZ(a:aT):ZaY->J MV->Prop|Yl:jZ a [] []|Zp{m b c d}:a' a m b->jZ a c d->jZ a (m::c) (b::d)
theorem jZ.rep(h:jZ y f k):∀{c},ao y f c->ao y k c:=by induction h with|Yl=>exactλr=>r|Zp h O i=>
  intro c r;obtain⟨d,g,e,a,b⟩:=r;exact⟨d,g,e,h d a,i b⟩
theorem Reads.seq(h:jZ y b d):a' y (.seq c b) (.seq c d):=λi r=>by
 obtain⟨a,f,n,e,g,rl⟩:=r;exact⟨a,f,n,e,g,h.rep rl⟩
theorem Reads.ref(h:aw y b Zaj):a' y Zaj b:=λc r=>by rw[UZ];exact h
theorem ak.fh(S:Zab)(as:J (Y9×J MV))(j:∀p∈as,E p.1=some (.list p.2))(hG:∀a d,i a=ZaC->E a=ZaC/\a∉h9 (·.1)):∃N,Zbq/\(∀p∈as,aw N (.lst p.2) (.ref p.1))/\ak X N A o i G:=by
 walk_at"b";have hm:∀b∈h9 (·.1),∃m,E b=Zcw:=λb hb=>by obtain⟨p,hp,rfl⟩:=Zl hb;exact⟨p.2,j p hp⟩
 have TQ:g7 X y i A (h9 (·.1)):=λb hb=>by
  obtain⟨m,e⟩:=hm b hb;refine⟨?_,λd p=>?_,OW _ _ e,λq=>?_,λx c hx q=>?_⟩;.cases h:i b with|none=>rfl|some d=>exact Za hb (hG b d h).2
  .have:=Oz b d p;exact ax (SM e)
  .have:=S.f.lG.1;rw[q,e]at this;cases this
  .have:=(W7 x c hx).1;rw[q,e]at this;cases this
 refine⟨_,p5,λp hp=>?_,(S.drop λa d e=>(hG a d e).1).zD TQ⟩;walk_at"aa";obtain⟨k,n,l,r⟩:=Wc _ _ (j p hp);exact⟨p.1,k,n,rfl,.inr ⟨Yx ⟨p,hp,rfl⟩,l⟩,Tp p5⟩
theorem EF.fh(as:J (Y9×J MV))(G:GH)(c:YV)(g:∀p∈as,E p.1=some (.list p.2))(hG:∀a b,G a=Zar->E a=Zar/\a∉h9 (·.1))(hl:∀y,(∀p∈as,aw y (.lst p.2) (.ref p.1))->∀p∈c,∃d,Yb p.1=ZaC/\a' y d p.2)(h:EF X m A i c G B):EF X m A i o E B:=λl s S=>by
 obtain⟨f,j,r,k⟩:=S.fh as g hG;refine ZS (h f s (k.eF λx mv e=>?_)) (λO O q=>mc j) λO O q=>q;exact hl f r (x,mv) (Ve e)
theorem EV.fh(h:EV X m A l o E λd G=>∃(as:J (Y9×J MV))(b:GH)(c:MV),(∀p∈as,G p.1=some (.list p.2))/\(∀a e,b a=ZbU->G a=ZbU/\a∉h9 (·.1))/\(∀y,(∀p∈as,aw y (.lst p.2) (.ref p.1))->a' y d c)/\g c b):EV X m A l o E g:=λz s S=>W1 S λB C j d G n r q k=>by
  obtain⟨as,b,c,t,hG,hr,u⟩:=k;obtain⟨f,i,w,x⟩:=q.fh as t hG;exact⟨f,c,b,n.trans i,hr f w j (Tp i),x,u⟩
theorem EF.xM(h:EV X m A Zb6 o E λmv w=>B .next (aJ b mv (aJ x mv o)) w)(hx:aM A x)(hy:aM A b)(hw:Z3 (F' [.Name x f,.Name b q] c A=Yh none) aR):EF X m A (TM (.Assign [.Name x f,.Name b q] c Ym) A) o E B:=λl s S=>wpAny_Assign_two (W1 S λr a n mv w e d g k=>V7 (g.st d hx λp i=>V7 (i.st d hy λt j=>⟨r,.next,_,w,e,rfl,j,k⟩))) rfl hw
theorem EF.DW(h:EV X m A (ZH f A) o E λmv w=>B .next (aJ b mv (aJ c mv (aJ x mv o))) w)(hx:aM A x)(hy:aM A c)(e:aM A b)(hw:Z3 (F' [.Name x i,.Name c q,.Name b l] f A=Yh none) aR):EF X m A (TM (.Assign [.Name x i,.Name c q,.Name b l] f Ym) A) o E B:=λu s S=>wpAny_Assign_three (W1 S λr a y mv w g d j k=>V7 (j.st d hx λz n=>V7 (n.st d hy λC p=>V7 (p.st d e λD t=>⟨r,.next,_,w,g,rfl,t,k⟩)))) rfl hw
theorem yX{α:Type}(m:J α)(f:α->Zs MV):oo (λ(k:U)=>(m[k]?).bind f) WM=m.filterMap f:=by
 unfold oo;walk_at"r";have:∀n,n<=WM->(Zh n).filterMap (λk=>(m[k]?).bind f)=(m.take n).filterMap f:=by
  intro n;induction n with|VZ=>intro O;simp|VC n i=>
   intro h;rw[TX,U3,i (O7 h),X9,U3];have:n<WM:=by exact JH h
   refine gC (f m[n]) (λh=>?_) λy h=>?_;.rw[List.filterMap_cons_none (by rw[Z6 this];exact h),I6,Z6 this,U7,List.filterMap_cons_none h,I6]
   .rw[List.filterMap_cons_some (by rw[Z6 this];exact h),I6,Z6 this,U7,List.filterMap_cons_some h,I6]
 rw[this _ (ZV _),XX]
theorem nY{α:Type}(x:J α)(U0:α->YZ)(val:α->MV):x.filterMap (λa=>if U0 a then some (val a)else none)=(x.filter U0).map val:=by induction x with|Yl=>rfl|Zp a x i=>
  by_cases h:U0 a=true;.simp[h,i]
  .simp[h,i]
inductive Iw(i:GH)(m r:MV)(G:GH):Prop where|mk(g:G=i)(e:r=m)
inductive HU(X:Cx)(A:X5)(c:S2)(e:Wx)(l:YV)(i:GH)(a:YZ)(m:MV)(b:YZ)(G:GH):Prop where|mk(g:G=i)(a:b=a)(t:b=true->EV X A c (ZH e c) l i (Iw i m))
structure Hm(X:Cx)(A:X5)(I:oD)(Zn:S2)(e t:Wx)(c:J Wx)(X1:g6)(cl:J (Z×Y9))(l:YV){α:Type}(b:J α)(d:α->MV)(f:α->YV->YV)(U0:α->YZ)(val:α->MV)(G:GH):Prop where
 size:Zw<=ZK
 tg:∀C,∀x∈b,TG X A I ZcR t (d x) (f x)
 sub:∀x∈b,N' l (f x l)
 Ux:∀C i,∀x∈b,(∀a o,G a=Zag->i a=Zag)->eJ X A ZcR c (f x l) i (HU X A (S0 X1 cl C Zn) e (f x l) i (U0 x) (val x))
inductive D3{α:Type}(x:J α)(e:α->MV)(Q:GH->Prop)(n:U)(m:U->MV)(G:GH):Prop where|mk(n:n=ZO)(b:∀k a,x[k]?=ZaB->m k=e a)(q:Q G)
inductive k4(X:Cx)(A:X5)(I:oD)(Zn:S2)(e t:Wx)(i:J Wx)(X1:g6)(cl:J (Z×Y9))(l:YV){α:Type}(x:J α)(a:α->MV)(f:α->YV->YV)(U0:α->YZ)(val:α->MV)(K:ZaY->GH->Prop)(G:GH):Prop where|mk(b:Hm X A I Zn e t i X1 cl l x a f U0 val G)(k:K ((x.filter U0).map val) G)
theorem k4.use{c:J α}{d:α->MV}{f:α->YV->YV}{U0:α->YZ}{val:α->MV}(h:D3 c d (k4 X m q A s u F X1 cl M c d f U0 val Pk) n S T):xR X m q A s u F X1 cl M Pk n S T:=by
  obtain⟨rfl,hm,h,g⟩:=h;have at_:∀{k},k<Yv->∃x,x∈c/\c[k]?=Zak:=λa=>⟨_,Un a,Z6 a⟩;refine⟨λk l=>(c[k]?).elim l λx=>f x l,λk=>(c[k]?).bind λx=>if U0 x then some (val x)else none,a_,λC k a=>?_,λk a=>?_,λC k i a hG=>?_,?_⟩;.obtain⟨x,hx,e⟩:=at_ a;rw[hm k _ e,e];exact h.tg C x hx
  .obtain⟨x,hx,e⟩:=at_ a;rw[e];exact h.sub x hx
  . obtain⟨x,hx,e⟩:=at_ a;rw[e];walk_at"O";refine(h.turn C i x hx hG).mono λb G⟨h1,h2,j⟩=>⟨h1,λhb=>(j hb).mono λr G hr=>⟨hr.1,?_⟩,λhb=>?_⟩;.exact(ZT (h2.symm.trans hb)).trans (Zq some hr.2.symm)
    .exact ZY (qn (h2.symm.trans hb))
  .rw[yX,nY];exact g
theorem p4(l:YV)(x:J α)(e:α->MV)(f:α->YV->YV)(U0:α->YZ)(val:α->MV)(my:Zcm)(h:gh X m c A a ZaZ o E (D3 x e (k4 X m c A d a i X1 cl l x e f U0 val λos=>g (.lst os))))(hs:Z3 (∀b,XM WB A b=Yh b) aI):EV X m A (ZH (.ListComp d [⟨a,WB,i,0⟩] X1 Ym) A) o E g:=EV.comp l my (WT λO O O q=>k4.use q) hs
theorem EF.rq(l:YV)(c:J α)(e:α->MV)(f:α->YV->YV)(U0:α->YZ)(val:α->MV)(my:Zcm)(g:aM A x)(h:gh X m k A b ZaZ o E (D3 c e (k4 X m k A d b i X1 cl l c e f U0 val λos=>B .next (aJ x (.lst os) o))))(hw:Z3 (N0 (.ListComp d [⟨b,WB,i,0⟩] X1 Ym) (some (.Name x n)) a.line A=Yh true) aR)(hs:Z3 (∀x,ZbY=Yh x) aI):EF X m A (TM (.Assign [.Name x n] (.ListComp d [⟨b,WB,i,0⟩] X1 Ym) a) A) o E B:=EF.Hl l my g (WT λO O O q=>k4.use q) hw hs
inductive HD{α:Type}(x:J α)(e:α->MV)(K:GH->Prop)(m:MV)(i:GH):Prop where|mk(a:m=.lst (hc e))(k:K i)
theorem p3{K:GH->Prop}(hh:XZ=none){x:J α}{e:α->MV}(h:EV X m A a o E (HD x e K)):gh X m cu A c a o E (D3 x e K):=gh.list hh (WT λd i b=>by obtain⟨hm,k⟩:=b;exact⟨_,hm,Z2 ..,λk f hx=>by rw[Z0,Zy,hx];rfl,k⟩)
def bF(M:Model)(A:X5)(d:End->Zb->Prop)(c:Code)(t:p_ Fin)(fs:J Frame)(s:Zb):Prop:=∀b p,b.code=c->b.Woken A->∃e a,Runs M b p t fs s e a/\d e a
variable{NW:End->Zb->Prop}{Ni:Code}{XS:J Frame}
theorem b9{b:p_ α}{K:α->p_ Fin}{gd l}(h:ZU N1 Zbw b (λf a=>bF N1 m NW Ni (K f) XS a) (λx a=>bF N1 m NW Ni (i x) XS a) G):bF N1 m NW Ni (b.wrap K i gd l) XS G:=by
 intro c g j;subst j;intro d;exact runs_wrap_of_wp K i gd l b (h (c.over XS) g (d.over XS)) (λf p a e=>e c p rfl d) (λx p a e=>e c p rfl d)
theorem gz(h:bF N1 m NW Ni (k ()) XS G):bF N1 m NW Ni (.at a k) XS G:=b9 (b:=VT a) (K:=k) (i:=.raise) (gd:=id) (l:=id) (Yq h)
theorem wJ(h:bF N1 m NW Ni (k ()) XS G):bF N1 m NW Ni (.point l k) XS G:=b9 (b:=point) (K:=k) (i:=.raise) (gd:=id) (l:=λO=>l) (g5 h)
theorem qB{h b l}(d:∀p,bF N1 m NW c (N1.den c) (.ret k h b l Ni p []::XS) G):bF N1 m NW Ni (.call c h b l k) XS G:=by
 walk_at"u";intro f p g;subst g;intro i;walk_at"b";obtain⟨e,a,hr,he⟩:=d p (f.goto c) p rfl (i.goto c);exact⟨e,a,runs_call_seg hr,he⟩
theorem qi{k h d l c b f}(r:TK)(g:bF N1 m NW c (k r) XS G):bF N1 m NW Ni (leafOf r) (.ret k h d l c b f::XS) G:=by
 walk_at"ab";intro i p j;subst j;intro n;walk_at"b";obtain⟨e,a,hr,he⟩:=g (i.goto c) b rfl (n.goto c);exact⟨e,a,Runs.pop r hr,he⟩
theorem c6(hq:c.quiet=true)(b:bF N1 m NW c (N1.den c) XS G):bF N1 m NW Ni (.pure (.again c)) XS G:=by
 intro d p f;subst f;intro g;walk_at"b";obtain⟨e,a,hr,he⟩:=b (d.goto c) p rfl (g.goto c);exact⟨e,a,Runs.head (c₁:=c) (λO O x=>.again hq x) hr,he⟩
theorem uA(r:TK)(h:NW (.ret r) G):bF N1 m NW Ni (leafOf r) [] G:=by
 intro b p a;subst a;intro O;exact⟨.ret r,G,Runs.leaf r,h⟩
theorem nG{a b l}(c:splitAtGen XS=none)(h:∀p,NW (.susp a b l k Ni p XS) G):bF N1 m NW Ni (.yield a b l k) XS G:=by
 walk_at"u";intro e p d;subst d;intro O;exact⟨_,G,Runs.yield' XS c,h p⟩
def n6(M:Model)(A:X5)(a:End->Zb->Prop)(g:U_)(r:Resume)(s:Zb):Prop:=match g with|.fresh Ni=>r=.send .none/\bF M A a Ni (M.den Ni) [] s|.suspended k _ Ni _ XS _=>bF M A a Ni (k r) XS s|_=>LV
theorem qy(h:bF N1 m NW Ni b XS G)(k:∀e G,NW e G->c e G):bF N1 m c Ni b XS G:=λd p f g=>ex2 (h d p f g) λe a Yw=>Uc Yw λhr he=>⟨e,a,hr,k e a he⟩
theorem D1{k:GenResult->p_ α}{Q:α->Zb->Prop}(hg:G.gens[d]?=Zc0)(b:n6 N1 m (λe s=>e.quiet=true/\ZU N1 m (k e.result) Q q (s.setGen d e.genState)) n r (G.setGen d .running)):ZU N1 m (.resume d r l k) Q q G:=by
 intro a p g;walk_at"ac";have hB:∀c,(a.wake c p).Woken m:=λc=>g.wake c p;cases n with
 |fresh c=>
  walk_at"ad";obtain⟨rfl,hs⟩:=b;obtain⟨i,s,hr,hq,he⟩:=hs (a.wake c p) p rfl (hB c);exact(Vo _ _ ⟨by unfold Wakes;rw[hg];exact⟨i,s,hr,hq,rfl,rfl⟩,he a p g⟩)|suspended t u j o f cl=>
  obtain⟨i,s,hr,hq,he⟩:=b (a.wake j p) o rfl (hB j);exact⟨_,_,by unfold Wakes;rw[hg];exact(Vo (i) (s) ⟨hr,hq,rfl,rfl⟩),he a p g⟩|running=>exact b.elim|finished=>exact b.elim
theorem n6.mono(h:n6 N1 m NW a r G)(k:∀e G,NW e G->b e G):n6 N1 m b a r G:=by cases a with|fresh c=>exact⟨h.1,qy h.2 k⟩|suspended=>exact qy h k|running=>exact h|finished=>exact h
variable{Pe:VU}{Nd:Tt}{Pg:U_}{Nv:TK}
theorem Jh{Q:Zs ZP->Zb->Prop}(n:Nv=.ok (.ret .none)\/Nv=.ok .next)(hh:XZ=none)(hl:G.heap.NoLimit)(p:G4<Kc)(hg:G.heap.IsGen z j)(f:G.gens[j]?=some Pg)(a:n6 Zbx Uq (λe s=>e.quiet=true/\match e with|.ret r=>r=Nv/\∀g,(∀b o,Xe b=Zag->g.get? b=Zag)->Q none {s.setGen j .finished with X_:=g}|.susp d g' l k c i fs=>Q ZaC (s.setGen j (.suspended k l c i fs (g'||fs.any pz)))) Pg (.send .none) (G.setGen j .running)):ZU Zbx m (VO (.ref z)) Q Pp G:=by
 refine Z7 (Vd (XI hg.typeIs slot_gen_next (X7 slot_gen_next hg.typeIs entry_gen_next ?_ (args_gen_next _))));walk_at"c";show ZU _ Uq (Builtin.Generator.genWake (.ref z) (.send .none)) _ _ G;refine Z7 (ZF (wpAny_genNumber hg (Z7 (wpAny_genState f ?_))));induction Pg with|running=>exact Ox|finished=>exact Ox|_=>
  refine Z7 (wpAny_roomToWake hl p ?_);show ZU _ Uq (.resume j (.send .none) [] _) _ _ G;refine D1 f (a.mono λe s he=>⟨he.1,?_⟩);walk_at"h";obtain⟨hq,he⟩:=he;cases e with
  |fj r=>
   obtain⟨rfl,hp⟩:=he;walk_at"o";have q:(End.ret r).result=.returned .none:=by rcases n with rfl|rfl<;>rfl
   rw[q];show ZU _ Uq (newExc ZbJ []>>=_) _ _ _;refine Z7 ?_;walk_at"a";refine Z7 (Yn ?_ (by size_fits));refine Z7 (VH (by first|rfl|(simp only[sk];rfl)) ?_);walk_at"f";refine Yn ?_ (by size_fits);refine Z7 (Z7 (px ?_));first|rw[show pn=none from hh]|rw[hh]
   refine g4 ?_;refine Z7 (Um ⟨_,ZL _ rfl,rfl⟩ I5 ?_);exact Z5 (hp _ λb o hb=>ZA _ (ZA _ hb))|susp d g' l k c i fs=>exact Z5 ⟨d,rfl,Z5 he⟩
def Wy(C G:GH):Prop:=∀a o,C a=Zag->G a=some o
def Dj(G C:GH):Prop:=∀a o,G a=Zag->C a=none
theorem I4(G:GH):Wy G G:=λO O e=>e
theorem Ext.trans(h:Wy b c)(k:Wy c d):Wy b d:=λa o e=>k a o (h a o e)
theorem Ext.upd(h:Wy c d)(f:c i=none):Wy c (Y7 d i a):=λb g e=>by rw[ag (by intro j;subst j;exact ax (f.symm.trans e))];exact h b g e
theorem Ext.del(h:Wy c d)(f:c a=none):Wy c (G_ d a):=λb g e=>by rw[bZ _ (by intro i;subst i;exact ax (f.symm.trans e))];exact h b g e
theorem Ext.none(h:Wy b c)(d:c a=none):b a=none:=by cases e:b a with|none=>rfl|some o=>exact ax (d.symm.trans (h a o e))
def Mj(X:Cx)(d:TK)(b:aT)(C:GH)(m:Zs MV)(K:aT->GH->U_->Prop)(e:End)(a:Zb):Prop:=e.quiet=true/\match e,m with|.ret f,none=>f=d/\∃r i,bG b r/\Wy C i/\aA X r i a|.susp g g' l k c p fs,Zcd=>∃r i G,bG b r/\Wy C i/\Wy G i/\Dj G C/\aw r m g/\aA X r i a/\K r G (.suspended k l c p fs (g'||fs.any pz))|_,_=>LV
def Mk(X:Cx)(A:X5)(r:TK)(m:Zs MV)(K:aT->GH->U_->Prop)(c:aT)(b:GH)(g:U_):Prop:=∀a C G s,lV c a->Wy b G->Wy C G->Dj b C->aA X a G s->n6 YH A (Mj X r a C m K) g (.send .none) s
def gD(X:Cx)(A:X5)(r:TK)(t:ZaY)(a:aT)(G:GH)(g:U_):Prop:=t.foldr (λm K=>Mk X A r Zcd K) (Mk X A r none λO O O=>LV) a G g
def Je(X:Cx)(A:X5)(r:TK):ZaY->aT->GH->U_->Prop|[]=>λO O O=>LV|_::t=>gD X A r t
def CT(X:Cx)(A:X5)(r:TK)(t:ZaY)(a:aT)(C:GH):End->Zb->Prop:=Mj X r a C t.head? (Je X A r t)
theorem fN:gD a d r b i f k↔∀c C G s,lV i c->Wy f G->Wy C G->Dj f C->aA a c G s->n6 a.M d (CT a d r b c C) k (.send .none) s:=by cases b with|Yl=>exact Iff.rfl|Zp m b=>exact Iff.rfl
structure hY(X:Cx)(A:X5)(c:Code)(fs:J Frame)(n:U):Prop where
 split:splitAtGen fs=none
 L8:fs.any pz=false
 rm:Rm X (A.over c fs) n
structure qL(X:Cx)(a c:aT)(p:J Y9):Prop where
 le:bG c a
 obj:∀b∈p,∃o,a b o/\¬ly o
 tr:∀b∈p,∀o,¬c b o
 low:∀b∈p,YF b=none
theorem qL.more(h:qL X y a c)(k:Zbq):qL X N a c:=⟨h.le.trans k,λb q=>Su (h.obj b q) λo Yw=>Uc Yw λe z=>⟨o,k _ _ e,z⟩,h.out,h.low⟩
structure AR(c:J Y9)(a r:aT):Prop where
 s:lV a r
 p:∀b∈c,∀o,a b o->r b o
theorem bG.q(h:Zbq):AR a y N:=⟨h.s,λb O o=>h b o⟩
theorem AR.trans(h:AR a y c)(k:AR a c R):AR a y R:=⟨h.s.trans k.s,λb q o e=>k.p b q o (h.p b q o e)⟩
def GF(X:Cx)(A:X5)(r:TK)(c:Code)(fs:J Frame)(p:J Y9)(Zn:S2)(g:p_ Flow)(l:YV)(i C:GH)(j:ZaY)(K:Gp->YV->GH->GH->J MV->Prop):Prop:=∀y G(a:Flow->p_ Fin)(k:ZP->p_ Fin)(gd:YZ->YZ)(m:Zc4->J ZP)b,gd false=false->qL X y b p->ak X y Zn l i G->(∀N Nc f d o E w t e,AR p y N->qL X N e p->F4 N d f->ak X N Zn o E Nc->K d o E w t->bF YH A (CT X A r t e w) c (a f) fs Nc)->bF YH A (CT X A r j b C) c (g.wrap a k gd m) fs G
variable{Nb:ZaY}
abbrev xn(X:Cx)(A:X5)(r:TK)(c:Code)(fs:J Frame)(p:J Y9)(Zn:S2)(XG:J Wa)(K:Gp->YV->GH->GH->J MV->Prop):Gp->YV->GH->GH->J MV->Prop:=λa o E w Nb=>match a with|.next=>GF X A r c fs p Zn (Yk XG Zn) o E w Nb K|a=>K a o E w Nb
abbrev rO(X:Cx)(A:X5)(r:TK)(c:Code)(fs:J Frame)(p:J Y9)(Zn:S2)(XG:J Wa)(C:GH)(t:ZaY)(K:Gp->YV->GH->GH->J MV->Prop):Gp->YV->GH->Prop:=λa o E=>match a with|.next=>GF X A r c fs p Zn (Yk XG Zn) o E C t K|a=>K a o E C t
inductive I'(a:YV->GH->GH->J MV->Prop)(b:YV)(G C:GH)(t:ZaY):Prop where|mk(l:YV)(j:a l G C t)(s:N' l b)
abbrev FG(a:YV->GH->GH->J MV->Prop)(K:Gp->YV->GH->GH->J MV->Prop):Gp->YV->GH->GH->J MV->Prop:=λb o E w Nb=>match b with|.next|.cont=>I' a o E w Nb|.brk=>K .next o E w Nb|.ret c=>K (.ret c) o E w Nb
abbrev Ji(X:Cx)(A:X5)(r:TK)(c:Code)(fs:J Frame)(p:J Y9)(Zn:S2)(W8 orelse:J Wa)(l:YV)(C:GH)(t:ZaY)(K:Gp->YV->GH->GH->J MV->Prop):YZ->GH->Prop:=λb E=>(b=true->GF X A r c fs p Zn ZbQ l E C t K)/\(b=false->GF X A r c fs p Zn (Yk orelse Zn) l E C t K)
variable{NI:GH}{NS:Gp->YV->GH->GH->J MV->Prop}
theorem GF.of(h:EF X Zbw A i o E λe NK w=>NS e NK w NI Nb):GF X m Nv Ni XS Nk A i o E NI Nb NS:=λj s u y gd l n z p S k=>b9 (ZS (h j s S) (λf a t=>by obtain⟨r,e,NK,w,g,b,c,d⟩:=t;exact k r a f e NK w NI Nb n g.q (p.more g) b c d) λO O x=>Vn)
theorem GF.mono{j:Gp->YV->GH->GH->J MV->Prop}(h:GF X m Nv Ni XS Nk A n o E w Nb NS)(k:∀g o E w Nb,NS g o E w Nb->j g o E w Nb):GF X m Nv Ni XS Nk A n o E w Nb j:=λp s u y gd l z B D S q=>h p s u y gd l z B D S λr a f g c i C t F G b d e x=>q r a f g c i C t F G b d e (k _ _ _ _ _ x)
theorem So(h:NS .next o E w Nb):GF X m Nv Ni XS Nk A (Yk [] A) o E w Nb NS:=GF.of (YW h)
variable{Ny:Wa}
theorem R8(h:GF X m Nv Ni XS Nk A (TM Ny A) o E w Nb (xn X m Nv Ni XS Nk A XG NS)):GF X m Nv Ni XS Nk A (Yk (Ny::XG) A) o E w Nb NS:=λu s y n gd l z p B S k=>by
 rw[execs_cons_wrap];refine h u s _ n gd l z p B S λr a PY D c i C t g j b d e x=>?_;walk_at"s";cases D with
 |next=>
  cases d;exact x r a y n gd l g p b e λF I f M N G Q T V PM PN PR PS PT=>k F I f M N G Q T V (fi PM) PN PR PS PT|brk=>cases d;exact k r a .brk .brk c i C t g j b rfl e x|cont=>cases d;exact k r a .cont .cont c i C t g j b rfl e x|fj PW=>obtain⟨q,rfl,PX⟩:=d;exact k r a (.ret q) (.ret PW) c i C t g j b ⟨q,rfl,PX⟩ e x
theorem Sn(h:EF X Zbw A (TM Ny A) o E (rO X m Nv Ni XS Nk A XG w Nb NS)):GF X m Nv Ni XS Nk A (Yk (Ny::XG) A) o E w Nb NS:=R8 (GF.of (WT λa c i x=>by cases a<;>exact x))
theorem a6(h:EB X Zbw A (XE f_ A (ZH f_ A)) o E (Ji X m Nv Ni XS Nk A W8 orelse o w Nb NS)):GF X m Nv Ni XS Nk A (TM (.If f_ W8 orelse Ym) A) o E w Nb NS:=λT D g j gd l F I N V k=>by
 walk_at"x";show bF YH m _ Ni (.at Ym λO=>((XE f_ A (ZH f_ A)>>=λb=>if b=true then Yk W8 A else Yk orelse A)).wrap g j gd l) XS D;refine gz ?_;rw[XK,W3];refine b9 (ZS (h T D V) (λb a PM=>?_) λO O PN=>PN.elim);obtain⟨r,i,c,S,Q⟩:=PM;cases b with|false=>exact Q.2 rfl r a g j gd l F I (N.more c) S λn s f p u G C t y z B d e x=>k n s f p u G C t y (c.q.trans z) B d e x|true=>exact Q.1 rfl r a g j gd l F I (N.more c) S λn s f p u G C t y z B d e x=>k n s f p u G C t y (c.q.trans z) B d e x
theorem GF.eF(hl:N' NK o)(h:GF X m Nv Ni XS Nk A a NK E w Nb NS):GF X m Nv Ni XS Nk A a o E w Nb NS:=λb s c d gd l e f g S k=>h b s c d gd l e f g (S.forget hl) k
def Ga(G C:GH):GH:=λa=>(C a).elim (G a) λ_=>none
theorem qw(h:Ga E w a=Zar):E a=Zar/\w a=none:=gC (w a) (λe=>⟨(Zq (OL . (E a) λ_=>none) e).symm.trans h,e⟩) λc e=>ax ((Zq (OL . (E a) λ_=>none) e).symm.trans h)
theorem xF(h:E a=Zar)(c:w a=none):Ga E w a=Zar:=(Zq (OL . (E a) λ_=>none) c).trans h
theorem aA.Bw(j:Zah)(h:∀a∈Nk,(∃o,ZG a=Zag)/\E a=none/\(∀o,¬y a o)/\YF a=none):∃w,aA X y w G/\(∀a,a∉Nk->w a=E a)/\∀a∈Nk,∃o,ZG a=Zag/\w a=some (.own (.=o)):=by induction Nk with|Yl=>exact⟨E,j,λO O=>rfl,λa q=>by cases q⟩|Zp a Nk i=>
    obtain⟨w,S,h1,h2⟩:=i λb q=>h b (ZX _ q);obtain⟨⟨o,g⟩,hg,hp,hb⟩:=h a Y4;clear h hg;by_cases hm:a∈Nk;.exact⟨w,S,λb q=>h1 b λd=>q (ZX _ d),λb q=>by
        walk_at"b";rcases ZI q with rfl|q;.exact h2 b hm
        .exact h2 b q⟩
    . refine⟨Y7 w a (.own (.=o)),⟨S.old,Tr,C1,λb c e=>?_,λb c e=>?_,λb c e=>?_,S.os,S.gens.upd rfl⟩,λb q=>?_,λb q=>?_⟩;.exact eN (N5:=λb c=>cQ _ _ b c) e ⟨o,g,rfl⟩ (UG b c)
      . have hb:b≠a:=by intro f;subst f;exact hp c e
        rw[ag hb];exact df b c e
      .exact eN (N5:=λb O=>YF b=none) e hb (K_ b c)
      . have hb:b≠a:=by intro f;subst f;exact q Y4
        rw[ag hb];exact h1 b λd=>q (ZX _ d)
      . by_cases hb:b=a;.rw[hb];exact⟨o,g,aa ..⟩
        . rw[ag hb];rcases ZI q with rfl|q;.exact Za rfl hb
          .exact h2 b q
theorem I3(F:hY X m Ni XS Qw)(y:A.cells=[])(ht:Nb=P6::T)(h:EV X Zbw A (ZH k A) o E λV z=>V=P6/\Wy w z/\∀G C,(∀e j,z e=ZbC->w e=none->G e=ZbC/\C e=none)->Wy C G->NS .next o G C T)(P7:Z3 (A.scope.isCoroutine=false) aR)(P8:Z3 (g_ A=false) aR):GF X m Nv Ni XS Nk A (TM (.Expr (.Yield (some k) PM) Ym) A) o E w Nb NS:=λP9 PN Qa Qb gd Qc Qx Qd Qe Qf Qg=>by
  walk_at"s";subst ht;rw[exec_Expr A _ Ym P8 rfl];show bF YH m _ Ni (.at Ym λO=>((ZH k A>>=λr=>(VT PM>>=λO=>k_ A r))>>=λx=>dropValue (.Yield (some k) PM) Ym x).wrap Qa Qb gd Qc) XS PN;simp only[(λr=>by simp only[k_,P7,T5,A_]:∀r,k_ A r=yieldValue r)];refine gz ?_;rw[XK,XK,W3,W3];refine b9 (ZS (h P9 PN Qf) (λr a i=>?_) λO O x=>Vn);walk_at"x";clear h;obtain⟨I,V,z,PR,Qh,S,rfl,PS,Qi⟩:=i;refine gz (nG F.split λQy=>?_);walk_at"ae";have n:=Qe.more PR;obtain⟨N,Qj,_⟩:=S.m9 n.obj;obtain⟨mN,⟨ob,d,Qk,PT,hd,hr⟩,hm⟩:=N.f.loc;have Ql:∀b∈Nk,b≠Yo:=λb i k=>by
    obtain⟨j,hb,_⟩:=n.obj b i;exact S.f.lG.2.1 j (k▸hb)
  obtain⟨PW,Qm,tr,ins⟩:=N.g.Bw (Nk:=Yo::Nk) λe i=>by
    walk_at"y";rcases ZI i with rfl|i;.exact⟨⟨ob,PT⟩,N.f.lG⟩
    .obtain⟨j,hb,_⟩:=n.obj e i;exact(andI4 ⟨j,Yg _ _ hb⟩ (Oz _ _ hb) (λj k=>k.2 i) (n.low e i))
  have PX:∀e∈Yo::Nk,z e=none:=λe i=>by
    refine(ZI i).elim (λYA=>?_) λi=>?_;.rw[YA];exact S.f.lG.1
    .obtain⟨j,hb,_⟩:=n.obj e i;exact Oz _ _ hb
  have PY:∀e∈Yo::Nk,w e=none:=λe i=>PS.none (PX e i);refine⟨by show(!(gd false||gv73.any pz))=true;rw[Qd,F.L8];rfl,gk I Nk,PW,Ga PW w,λb j k=>⟨n.le _ _ k,λi=>n.out b i j k⟩,λe j k=>?_,λe j k=>(qw k).1,λe j k=>(qw k).2,Qj _ _ Qh,Qm,fN.mpr λt C G s PZ P0 Qn P2 D=>?_⟩;.rw[tr e λi=>by rw[PY e i]at k;cases k];exact PS e j k
  . have own:∀e∈Yo::Nk,∃j,a.heap.get? e=ZbC/\Xe e=ZbC/\G e=some (.own (.=j))/\C e=none:=λe i=>by
      walk_at"b";obtain⟨j,h1,h2⟩:=ins e i;have hp:=xF h2 (PY e i);have u:=P0 _ _ hp;obtain⟨Q,Qo,rfl⟩:=D.objs _ _ u;exact⟨Q,h1,Qo,u,P2 _ _ hp⟩
    have l:∀e∈Yo::Nk,(∀j,¬t e j)/\YF e=none:=λe i=>by
      obtain⟨j,_,_,u,_⟩:=own e i;exact⟨λQ k=>(by have:=D.cO _ _ k;exact ax (SM u)),D.low _ _ u⟩
    let p:GH:=λe=>if e∈Yo::Nk then none else G e;have g3:∀e j,p e=ZbC->e∉Yo::Nk/\G e=ZbC:=λe j k=>by
      by_cases i:e∈Yo::Nk;.have:p e=none:=ZT i;rw[this]at k;cases k
      .have:p e=G e:=ZY i;rw[this]at k;exact⟨i,k⟩
    have P4:∀e∈Yo::Nk,p e=none:=λe i=>ZT i;have P5:∀e,e∉Yo::Nk->p e=G e:=λe i=>ZY i;have Qp:ak X t A o p s:=by
      obtain⟨j,h1,h2,_,_⟩:=own Yo Y4;rw[PT]at h1;cases h1;refine⟨D.drop λe j k=>(g3 e j k).2,⟨Q0,Gs,ta,⟨mN,(Vo _ d ⟨Qk,h2,hd,hr⟩),λx mv e b=>Su (hm x mv e b) λr Yw=>Uc Yw λk i=>⟨r,k,i.ik PZ⟩⟩,λx c hx=>?_,λx mv e=>y0 x mv e,⟨P4 _ Y4,l _ Y4⟩,λx c hx=>?_,λx Qz c hx=>?_⟩⟩;.rw[y]at hx;cases hx
      .rw[y]at hx;cases hx
      .rw[y]at hx;cases hx
    have TQ:g7 X t p A Nk:=λb i=>(andI5 (P4 b (ZX _ i)) ((l b (ZX _ i)).1) ((l b (ZX _ i)).2) (Zg (Ql b i)) (λx c hx=>by rw[y]at hx;cases hx));have pins:∀b∈Nk,∀j,I b j->eY t Nk Ts b j:=λb i j k=>by
      obtain⟨Q,h1,h2,_⟩:=own b (ZX _ i);rw[Yg _ _ k]at h1;rw[ZW h1];exact .inr ⟨i,h2⟩
    have Qq:AR Nk I (eY t Nk Ts):=⟨λe QA st k=>.inl (PZ _ _ st ⟨k,λi=>by
      obtain⟨j,Qr,Qt⟩:=n.obj e i;exact Qt ((ZW ((Yg _ _ Qr).symm.trans (Yg _ _ k)))▸st)⟩),pins⟩;have:=Qg (eY t Nk Ts) s .next .next o p C T t (PR.q.trans Qq) ⟨p5,λb i=>Su (n.obj b i) λj Yw=>Uc Yw λk Qu=>⟨j,pins b i j k,Qu⟩,λb i=>(TQ b i).2.1,n.low⟩ rfl (Qp.zD TQ) (Qi p C (λe j k Qv=>?_) λe j k=>?_);.exact this
    . have i:e∉Yo::Nk:=λi=>by rw[PX e i]at k;cases k
      have hp:=xF (by rw[tr e i];exact k) Qv;exact⟨by rw[P5 e i];exact P0 _ _ hp,P2 _ _ hp⟩
    . have i:e∉Yo::Nk:=λi=>by obtain⟨_,_,_,_,h⟩:=own e i;exact f' k h rfl
      rw[P5 e i];exact Qn e j k
def B2(X:Cx)(a:X5)(I:oD)(t:Wx)(c:aT)(s:Zb)(d:ZP)(n:U)(m:U->MV):Prop:=∀(Q:ZP->Zb->Prop)E,(∀it G w St,(∀A,A.handled=none->Wk X A I it t n m w St)->Mv [] s G->St 0 c YK->(∀b∈w,Zx<=b)->Q it G)->ZU YH a (h' d) Q E s
theorem B2.list(S:aw y (.lst l) u)(hp:∀a o,y a o->ZG a=Zag):B2 X m cu PX y G u Xl (λk=>l.getD k .none):=λPY PZ k=>by
  obtain⟨a,j,n,YA,x,rl⟩:=S.seq;rw[YA];have F:=WZ;refine TH (aq (hp _ _ x)) ?_;refine k ZaD _ [ZZ] (λk r h=>h.IsListIter ZZ a k/\r a (X8 (.type "list") j n)/\ao r l j.toList) (λA hh=>?_) (Bt λb o O e=>ZA _ e) ⟨⟨_,ZL _ rfl,rfl,rfl⟩,x,rl⟩ (λb hb=>by simp at hb;subst hb;exact ZV _);walk_at"af";have z:=Walks.list (prog:=Wj) (w:=Sh) (A:=A) hh ZZ a (Y' (XR (hp _ _ x)):a≠ZZ) j;walk_at"ag";walk_at"ah";refine⟨?_,g8,?_,?_,?_,?_⟩;.intro k t P0 h I c;obtain⟨⟨o,B,T⟩,p,d⟩:=c;intro le O O hw;exact⟨⟨o,hw _ (.head _) o B,T⟩,le.q _ _ _ _ p,d.ik le⟩
  .intro k t h c;obtain⟨⟨o,B,V,hd⟩,_⟩:=c;intro b hb;simp at hb;subst hb;walk_at"b";exact⟨o,B,kS (by rw[V];simp) λO O e=>by rw[e]at hd;cases hd⟩
  . intro k t s Q E C c;obtain⟨f,p,d⟩:=c;intro g hw i;have ON:k<j.size:=by exact O6 C F
    obtain⟨PM,D,PN⟩:=d.get k (a:=l[k]) (Z6 C);refine z.item k s _ _ ON ⟨f,aq (g _ _ p)⟩ λu I PR hv PS hx=>i u _ λP2=>?_;walk_at"e";obtain rfl:u=PM:=by simp at hv D;rw[hv]at D;exact ZW D
    obtain⟨⟨PT,M,N,PW⟩,_⟩:=id PS;refine eI M N ⟨Bt hx,⟨⟨PT,M,N,PW⟩,p,d⟩,?_⟩;show aw _ _ _;rw[Z0,Z6 C];exact PN
  .intro t s Q E c;obtain⟨f,p,d⟩:=c;intro g hw i;exact z.done s _ _ (by rw[F];exact⟨f,aq (g _ _ p)⟩) λI PR hx=>i _ (Bt hx)
  .intro k t s Q E c;obtain⟨f,p,d⟩:=c;intro g i;exact z.self k s _ _ ⟨f,aq (g _ _ p)⟩ i
def xJ(c:Code):Flow->p_ Fin:=λf=>match f with|.next|.cont=>.pure (.again c)|.brk=>.pure (.done .next)|.ret a=>.pure (.done (.ret a))
theorem fq(h:ZU Zbx ZbR (VO NH) (λr s=>match r with|none=>bF Zbx m NW (.block [] A) (.pure (.done .next)) XS s|some a=>ZU Zbx ZbR (Xn Ng NH a) (λO b=>ZU Zbx ZbR (I_ Ng A a) (λO c=>∀e,bF Zbx m NW Zby ((Yk NZ A).wrap (xJ (.forLoop Ng NH NZ [] A)) e id id) XS c) bz b) bz s) bz G):bF Zbx m NW Zby ((T_ Pe Nd).den Zby) XS G:=by
 show bF _ m NW _ ((forTurn Ng NH NZ [] A).onRaise (λx=>do noteFrame x A;theTreesLotGoes x)) XS G;rw[Uv];refine gz ?_;show bF _ m NW _ (a5 _ _ _ _ ((VO NH).onRaise _>>=_)) XS G;rw[Uv (VO NH),XK,W3,W3];refine b9 (ZS h (λr s d=>?_) λO O x=>Vn);cases r with
 |none=>
  show bF _ m NW _ (.pure (.again (.block [] A))) XS s;exact c6 rfl d|some a=>
  show bF _ m NW _ ((Xn Ng NH a>>=λO=>I_ Ng A a>>=λO=>Yk NZ A>>=λf=>_).wrap _ _ _ _) XS s;rw[XK,W3];refine b9 (ZS d (λO b g=>?_) λO O x=>Vn);rw[XK,W3];refine b9 (ZS g (λO c i=>?_) λO O x=>Vn);rw[XK,W3];rw[Sem.wrap_congr ZcQ _ _ (K':=xJ Zby) (λf=>by cases f<;>rfl) (λO=>rfl)];exact i _
theorem hY.loop(F:hY X m Ni XS n)(hg:b=false):hY X m (.forLoop a it W8 [] A) (.ret k none b l Ni d []::XS) n:=by
  rw[hg];refine⟨?_,?_,?_,?_,?_⟩;.rw[splitAtGen_ret,F.split];rfl
  .rw[UD,F.L8];rfl
  .have:=F.rm.depth;have c:(Code.forLoop a it W8 [] A).weight=0:=rfl;exact bx 0x1ffe4b0240d080861db4d92c0901c041 [_,_,_,_,_,_] this c
  .have:=F.rm.units;exact bx 0x1ffe4b0240d080861db4d92c0901c041 [_,_,_,_,_,_] this (rfl:(Code.forLoop a it W8 [] A).cUnits=0)
  .exact UL
theorem GF.vw(QF:hY X m Ni XS Ql)(I:U->YV->GH->GH->J MV->Prop)(h:∀y G,Zab->ZU YH Zbw ZaZ (λj Nc=>∃N PT n P4,Zbq/\ak X N A o PT Nc/\B2 X Zbw QG r N Nc j n P4/\∃(P5:U->YV->YV)(PW:YV),I 0 PW PT w Nb/\N' PW o/\(∀Qm,Qm.handled=none->∀k,k<n->TG X Qm QG A r (P4 k) (P5 k))/\(∀Qn Qo QH k o E w Nb,hY X m Qn Qo Ql->k<n->I k o E w Nb->GF X m Nv Qn Qo QH A Zco (P5 k o) E w Nb (FG (I (k+1)) NS))/\(∀o E w Nb,I n o E w Nb->NS .next o E w Nb)) bz G)(hs:Z3 (∀x,ZbY=Yh x) aI):GF X m Nv Ni XS Nk A (TM (.For r WB W8 [] Ym) A) o E w Nb NS:=λy G P6 Qp gd Qq l QI f S k=>by
  walk_at"x";refine gz ?_;walk_at"s";show bF YH m _ Ni (a5 P6 Qp gd Qq (ZH WB A>>=_)) XS G;rw[XK,W3];refine b9 (ZS (h y G S) (λj QJ c=>?_) λO O x=>Vn);obtain⟨Qr,PT,n,P4,a,P7,Qt,P5,PW,QK,QL,tg,Ux,Ub⟩:=c;rw[hs j];refine gz ?_;show bF YH m _ Ni (a5 P6 Qp gd Qq (T8 [j] (h' j)>>=_)) XS QJ;rw[XK,W3];refine b9 (ZF (Qt _ _ λit QM i St D mv st hw=>?_));have TQ:=e4 P7 hw;refine qB λQN=>?_;generalize Qu:Frame.ret _ _ _ _ Ni QN []=fr;clear Qt;have F:hY X m ZcC (fr::XS) Ql:=by subst Qu;exact QF.loop QI
  have P8:∀P9 Qv fl G,bF YH m P9 Ni (P6 fl) XS G->bF YH m P9 Qv (.pure (.done fl)) (fr::XS) G:=λP9 Qv fl G Q=>by
    clear F;subst Qu;exact qi (.ok fl) Q
  have hb:∀b∈i,YF b=none/\Yo≠b/\∀x Qw,Wd x=some Qw->Qw≠b:=λb c=>(TQ b c).2.2;have Qx:∀b∈Nk,b∉i:=λb c QP=>by
    obtain⟨d,e,_⟩:=(f.more a).obj b c;exact Za (XR (P7.g.aG _ _ e)) (Wg (hw b QP))
  have main:∀PX k y o E w Nb l G,k+PX=n->AR Nk Qr y->qL X y l Nk->ak X y A o E G->St k y YK->(∀b∈i,E b=none/\∀d,¬y b d)->I k o E w Nb->bF YH m (CT X m Nv Nb l w) ZcC (X.M.den (.forLoop r it W8 [] A)) (fr::XS) G:=by
    intro PX;induction PX with
    |VZ=>
      intro t y o E w Nb l G Q V f S st hg Qa;walk_at"z";have ON:t=n:=by exact aV 0x1fd883b141a1 [_,_] Q
      clear tg Ux;subst ON;refine fq ((D _ UL).done y G _ _ st Yg (λb c=>(hg b c).2) λQb QQ=>?_);have QR:=S.mv (λb c=>⟨(hg b c).1,(hg b c).2,hb b c⟩) QQ;exact P8 _ _ .next Qb (k y Qb .next .next o E w Nb l (a.q.trans V) f rfl QR (Ub o E w Nb Qa))|VC PX QS=>
      intro t y o E w Nb l G Q V f S st hg Qa;walk_at"z";have Qy:g7 X y E A i:=λb c=>⟨(hg b c).1,(hg b c).2,hb b c⟩;have Qc:t<n:=by exact GB Q
      refine fq ((D _ UL).next t y G _ _ Qc st Yg (λb c=>(hg b c).2) λj Qb QT=>?_);refine ZS (QT _) (λO Qd c=>?_) λO O c=>c;walk_at"a";obtain⟨QU,Qe,QV⟩:=c;have Qz:=S.mv Qy QU;have Qf:=Qz.zD Qy;have QW:qL X (eY y i Qd.heap) l (i++Nk):=by
        refine⟨f.le.trans p5,λb c=>?_,λb c d e=>?_,λb c=>?_⟩
        . rcases ZM c with c|c;.obtain⟨d,e,z⟩:=(D _ UL).obj _ _ _ Qe b c;exact⟨d,.inr ⟨c,e⟩,z⟩
          .obtain⟨d,e,z⟩:=f.obj b c;exact⟨d,.inl e,z⟩
        . rcases ZM c with c|c;.exact(hg b c).2 d (f.le _ _ e)
          .exact f.out b c d e
        . rcases ZM c with c|c;.exact(hb b c).1
          .exact f.low b c
      refine ZS (tg _ UL t Qc _ o E Qd j Qf ((D _ UL).KI _ _ _ _ _ p5 QV)) (λO QX Qf QY=>?_) λO O c=>c.elim;refine Ux _ (fr::XS) (i++Nk) t o E w Nb F Qc Qa _ QX (xJ (.forLoop r it W8 [] A)) QY id id l rfl QW Qf λu T fl d Qg PY PM PN PR Qh C PZ PS P0=>?_;walk_at"s";have P2:AR Nk y u:=⟨eY.le.s.trans Qh.s,λb c d e=>Qh.p b (Y1 _ c) d (.inl e)⟩;have OO:I' (I (t+1)) Qg PY PM PN->bF YH m (CT X m Nv PN PR PM) ZcC (X.M.den (.forLoop r it W8 [] A)) (fr::XS) T:=λQi=>by
        walk_at"s";obtain⟨QZ,Qi,Q2⟩:=Qi;have QA:∀b∈i,∀d,Qd.heap.get? b=ZaC->u b d:=λb c d e=>Qh.p b (Y2 _ c) d (.inr ⟨c,e⟩);have QB:∀b∈i,∃d,u b d/\¬ly d:=λb c=>by
          walk_at"b";obtain⟨d,e,z⟩:=(D _ UL).obj _ _ _ Qe b c;exact⟨d,QA b c d e,z⟩
        obtain⟨QC,Q5,Q6⟩:=PS.m9 QB;have QD:AR Nk y (gk u i):=⟨λQj d st e=>⟨P2.s _ _ st e,λc=>(hg Qj c).2 _ e⟩,λb c d e=>⟨P2.p b c d e,Qx b c⟩⟩;refine QS (t+1) (gk u i) QZ PY PM PN PR T (JL Q) (V.trans QD) ⟨λQj d e=>⟨C.le _ _ e,λc=>C.out Qj (Y2 _ c) d e⟩,λb c=>Su (C.obj b (Y1 _ c)) λd Yw=>Uc Yw λe z=>⟨d,⟨e,Qx b c⟩,z⟩,λb c=>C.out b (Y1 _ c),f.low⟩ (QC.forget Q2) ((D _ UL).frame _ _ _ _ _ Qe QD.s Qz.g.aG QC.g.aG (λb c d e=>PS.g.aG _ _ (QA b c d e))) (λb c=>⟨?_,λd e=>e.2 c⟩) Qi;obtain⟨d,Q3,_⟩:=QB b c;exact PS.g.cO _ _ Q3
      have QE:qL X u PR Nk:=⟨C.le,λb c=>C.obj b (Y1 _ c),λb c=>C.out b (Y1 _ c),f.low⟩;cases d with
      |next=>cases PZ;exact c6 rfl (OO P0)|brk=>cases PZ;exact P8 _ _ .next T (k u T .next .next Qg PY PM PN PR (a.q.trans (V.trans P2)) QE rfl PS P0)|cont=>cases PZ;exact c6 rfl (OO P0)|fj j=>obtain⟨Qk,rfl,Q4⟩:=PZ;exact P8 _ _ (.ret Qk) T (k u T (.ret Qk) (.ret j) Qg PY PM PN PR (a.q.trans (V.trans P2)) QE ⟨Qk,rfl,Q4⟩ PS P0)
  exact main n 0 Qr PW PT w Nb l QM (O4) (bG.refl _).q (f.more a) ((P7.Lg mv).forget QL) st (λb c=>⟨(TQ b c).1,(TQ b c).2.1⟩) QK
def jl(b:aT)(Zn:S2)(l:YV)(ob:OB):Prop:=∃d e,∃m:Z->Zs ZP,ob.data=.dict d e/\StrKeys d/\(∀name,nsFind d name=m name)/\(∀x mv,Wq x=ZaS->YJ x=some .local)/\∀x mv,Wq x=ZaS->∃a,m x=ZaB/\aw b mv a
theorem zP(h:∀b,bF Zbx m NW (.func NZ A) ((Yk NZ A).wrap (λf=>.pure (.done (.ret (match f with|.ret a=>a|_=>.none)))) b id id) XS G):bF Zbx m NW (.func NZ A) ((T_ Pe Nd).den (.func NZ A)) XS G:=by
 show bF _ m NW _ (.point [] λO=>((Yk NZ A).onRaise (leaving A))>>=_) XS G;refine wJ ?_;rw[Uv,XK,W3];rw[Sem.wrap_congr ZcQ _ _ (K':=λf=>.pure (.done (.ret (match f with|.ret a=>a|_=>.none)))) (λf=>by cases f<;>rfl) (λe=>rfl)];exact h _
theorem ak.sleep(S:Zab)(loc:∀x mv,Yb x=ZaS->Xs x=some .local):∃ob,aA X y (Y7 E Yo (.own (.=ob))) G/\jl y A o ob:=by
 walk_at"b";obtain⟨m,⟨ob,d,e,c,k,l,n⟩,hm⟩:=G7;obtain⟨p,i,tr,ins⟩:=S.g.Bw λa q=>by
  rcases ZD q with rfl;exact⟨⟨ob,c⟩,S.f.lG⟩
 obtain⟨t,j,r⟩:=ins _ (Xx rfl);rw[c]at j;cases j;have s:p=Y7 E Yo (.own (.=ob)):=by
  walk_at"i";funext a;by_cases b:a=Yo;.subst b;rw[r,aa]
  .rw[ag b];exact tr a (by simpa using b)
 rw[s]at i;exact⟨ob,i,d,e,m,k,l,n,loc,λx mv hx=>hm x mv hx (loc x mv hx)⟩
theorem ak.wake(S:Zah)(hl:E Yo=some (.own (.=ob)))(k:jl l A o ob)(le:lV l y)(n:A.scope.kind=.function)(p:A.globals=W2)(r:A.builtins=We)(i:A.cells=[]):ak X y A o (G_ E Yo) G:=by
 obtain⟨j,s,rfl⟩:=UG _ _ hl;walk_at"ai";obtain⟨d,t,m,hd,u,hm,w,hv⟩:=k;refine⟨S.drop λa j e=>(ck e).2,⟨n,p,r,⟨m,(exI3 j d t ⟨s,hd,u,hm⟩),λx mv a b=>Su (hv x mv a) λz Yw=>Uc Yw λe q=>⟨z,e,q.ik le⟩⟩,λx c hx=>?_,λx mv a=>.inl (w x mv a),⟨dO ..,λj e=>?_,K_ _ _ hl⟩,λx c hx=>?_,λx B c hx=>?_⟩⟩;.rw[i]at hx;cases hx
 .have:=df _ _ e;exact ax (SM hl)
 .rw[i]at hx;cases hx
 .rw[i]at hx;cases hx
def ew(D G C:GH):Prop:=∀a o,D a=Zag->G a=Zag/\C a=none
theorem gD.start(rm:Rm X (Th (.func W8 A) []) n)(B:A.scope.kind=.function)(D:A.globals=W2)(F:A.builtins=We)(G:A.cells=[])(I:i Yo=none)(f:jl T A o ob)(hB:∀E C,ew i E C->Wy C E->hY X m (.func W8 A) [] n->GF X m (.ok (.ret .none)) (.func W8 A) [] [] A Zco o E C V λk O w l t=>(k=.next\/k=.ret .none)/\t=[]/\Wy l w):gD X m (.ok (.ret .none)) V T (Y7 i Yo (.own (.=ob))) (.fresh (.func W8 A)):=by
 walk_at"aj";refine fN.mpr λu C E s le x N dj S=>⟨rfl,zP λQ=>?_⟩;walk_at"ak";have hl:=x _ _ (aa ..);have PM:ew i (G_ E Yo) C:=λj p e=>by
  have y:=CQ I e;have z:Y7 i Yo (.own (.=ob)) j=some p:=(ag y.symm).trans e;exact⟨(bZ _ y.symm).trans (x j p z),dj j p z⟩
 refine hB (G_ E Yo) C PM (N.del (dj _ _ (aa ..))) ⟨rfl,rfl,rm⟩ u s _ Q id id u rfl ⟨.refl _,λb q=>(by cases q),λb q=>(by cases q),λb q=>(by cases q)⟩ (ak.wake S hl f le B D F G) λr a PT k c w l t PN j b d e PR=>?_;walk_at"P";obtain⟨hx,rfl,ra⟩:=PR;have Ub:bF YH m (CT X m (.ok (.ret .none)) [] PN l) (.func W8 A) (leafOf (.ok (.ret .none))) [] a:=uA _ (andI3 rfl rfl ⟨r,w,b.le,ra,e.g⟩);rcases hx with rfl|rfl;.cases d;exact Ub
 .obtain⟨PW,rfl,PS⟩:=d;cases PS.raw;exact Ub
theorem ud(b:Zck)(WD:J Z)(u:YF fa=Zc0)(w:fa≠tx)(hd:n.data=.func a)(z:G5 a.code a.qualname)(A:a.code≠.ref tx)(C:a.body=.stmts W8)(D:a.closure=[])(hg:a.globals=W2)(F:a.builtins=We)(I:JS X Uq a V PM PN E WD PR)(hn:Sr)(j:∀x∈WD,a.scope.names.lookup x=some .local)(room:G4<Kc)(S:Zah)(Q:ao y V r)(PS:ao y PN k)(h:∀d ga l N Nc ob,Zbq->aA X N (Y7 (Y7 E d (.own (.=ob))) ga (.gen l (.fresh (.func W8 (Xd a d fa))))) Nc->E d=none->E ga=none->d≠ga->jl N (Xd a d fa) (WQ PR) ob->R (.ok (.ret (.ref ga))) Nc)(PT:Z3 (a.scope.isCoroutine=false) aR)(PW:Z3 (a.scope.isGenerator=true) aR)(p:Z3 (a.scope.kind=.function) aR):U4 YH m (.call ZaA ⟨r,PM.zip k⟩) R G:=by
 have PX:∀y G,Zah->G.heap.CodeRec a.code a.qualname:=λy G S=>by
  obtain⟨c,o,PY,PZ,e,l,q⟩:=z;exact(exI4 c o PY PZ ⟨e,Tr c o l (by intro P0;subst P0;exact A e),q⟩)
 refine codeAny_call_generator room (Tr fa n u w) hd PT PW C (PX _ _ S) ?_;refine ZS (I y G r k S Q PS) (λQa P2 q=>?_) λO O q=>Vm;walk_at"c";obtain⟨P4,t,P5,P6,YA,P7⟩:=q;rw[YA];rw[D];refine c0 p (λx hx=>.inl (j x.1 ((λx hx=>rP WD t x.1 (Yx ⟨x,hx,rfl⟩):∀x∈WQ t,x.1∈WD) x hx))) λZn he s x=>?_;walk_at"g";subst he;have i:=qk P6 hg F p hn P7 (λd x hx=>.inl (j x hx)) x;refine⟨i.g.lim b,?_⟩;obtain⟨ob,P8,P9⟩:=i.sleep λx mv hx=>j x (f7 (Ve hx)).1;exact h P2.heap.objs.size Zx s.gens.size P4 _ ob P5 (P8.newGen _) i.f.lG.1 (i.g.fresh (ZV _)) (Y' i.lT) P9
theorem aA.setGen(S:Zah)(f:E ga=some (.gen c Pg))(hb:s.bare=true):aA X y (Y7 E ga (.gen c s)) (G.setGen c s):=by
  walk_at"Q";have m:(G.setGen c s).gens[c]?=some s:=setGen_self (S.gens.vy _ _ _ f);have n:=(GenOnly.setGen G c s).2;refine⟨S.old,Tr,C1,λa o e=>?_,λa o e=>?_,λa o e=>?_,S.os,⟨?_,?_,?_⟩⟩;.exact eN (N5:=λa o=>cQ _ _ a o) e (by have:=UG _ _ f;exact this) (UG a o)
  . have d:a≠ga:=by intro j;subst j;have:=df _ _ e;exact ax (SM f)
    rw[ag d];exact df a o e
  .exact eN (N5:=λa O=>YF a=none) e (K_ _ _ f) (K_ a o)
  . intro u hy;obtain⟨i,p,rfl⟩:=Array.mem_iff_getElem.mp hy;by_cases e:i=c;.subst e;have:=XD p;rw[m]at this;rw[<-ZW this];exact hb
    .have h1:=n i e;rw[XD p]at h1;obtain⟨r,l⟩:=OQ h1.symm;exact l▸S.gens.bare _ (Array.getElem_mem r)
  . intro a g' g e;by_cases d:a=ga;.subst d;rw[aa]at e;cases e;exact m
    . rw[ag d]at e;walk_at"j";have t:g'≠c:=by intro j;subst j;exact d (S.gens.uniq _ _ _ _ _ e f)
      rw[n g' t];exact S.gens.vy _ _ _ e
  . have k:∀a g' g,Y7 E ga (.gen c s) a=some (.gen g' g)->∃q,E a=some (.gen g' q):=λa g' g e=>by
      by_cases d:a=ga;.subst d;rw[aa]at e;cases e;exact⟨_,f⟩
      .rw[ag d]at e;exact⟨_,e⟩
    intro a b g' g q e l;obtain⟨_,h1⟩:=k _ _ _ e;obtain⟨_,h2⟩:=k _ _ _ l;exact S.gens.uniq _ _ _ _ _ h1 h2
variable{Pb:GH}
theorem gX(b:Zck)(rm:Rm X m PM)(z:Nv=.ok (.ret .none)\/Nv=.ok .next)(S:Zah)(j:E ga=some (.gen n Pg))(p:gD X Uq Nv Nb N Pb Pg)(le:lV N y)(B:Wy Pb E)(C:Wy NI E)(dj:Dj Pb NI)(q:Pb ga=none)(k:NI ga=none)(A:Nb=[]->∀r w Nc,bG y r->aA X r w Nc->Wy NI w->F none Nc)(h1:∀g XG,Nb=g::XG->∀r w c s l Nc,bG y r->aA X r w Nc->Wy NI w->Wy c w->Dj c NI->c ga=none->w ga=some (.gen n s)->aw r g l->gD X Uq Nv XG r c s->F (some l) Nc):ZU YH m (VO (.ref ga)) F PN G:=by
  refine Jh z YQ (S.lim b) w1 (UG _ _ j) (S.gens.vy _ _ _ j) ?_;refine(fN.mp p y (Y7 NI ga (.gen n .running)) _ _ le (B.upd q) (λa o e=>?_) (λa o e=>?_) (S.setGen j rfl)).mono λe PR he=>⟨he.1,?_⟩
  . by_cases f:a=ga;.subst f;rw[aa]at e⊢;exact e
    .rw[ag f]at e⊢;exact C a o e
  . have f:a≠ga:=by intro i;subst i;exact f' e q rfl
    rw[ag f];exact dj a o e
  have t:∀w,Wy (Y7 NI ga (.gen n .running)) w->Wy NI w:=λw h=>λa o e=>h a o (by rw[ag (by intro i;subst i;exact f' e k rfl)];exact e);obtain⟨hq,he⟩:=he;cases e with
  |fj PS=>cases Nb with
    |Yl=>
      clear z p h1;obtain⟨YA,r,w,a,ex,u⟩:=he;rw[YA];refine⟨rfl,λPT D=>?_⟩;have I:=u.setGen (ex _ _ (aa ..)) (s:=.finished) rfl;exact A rfl r _ _ a (I.keep D) ((t _ ex).upd k)|Zp g XG=>exact he.elim
  |susp l g' PW PX PY PZ fs=>
    clear p A;cases Nb with
    |Yl=>exact he.elim|Zp g XG=>
      obtain⟨r,w,c,a,ex,Q,d,T,u,V⟩:=he;have x:c ga=none:=by cases e:c ga with
        |none=>rfl|some o=>have:=d _ _ e;rw[aa]at this;cases this
      refine h1 g XG rfl r _ c _ l _ a (u.setGen (ex _ _ (aa ..)) (hq)) ((t _ ex).upd k) (Q.upd x) (λa o e=>?_) x (aa ..) T V;clear j q k t h1 ex;have f:a≠ga:=by intro i;subst i;exact f' e x rfl
      have:=d a o e;rw[ag f]at this;exact this
theorem Hid.mono(h:ew b E w)(k:Wy c b):ew c E w:=λa o e=>h a o (k a o e)
abbrev CC(a:YV->J MV->Prop)(D:GH):Gp->YV->GH->GH->J MV->Prop:=λb o E w Nb=>match b with|.next|.cont=>∃l,a l Nb/\N' l o/\ew D E w/\Wy w E|_=>LV
inductive Hj(X:Cx)(A:X5)(r:TK)(Zn:S2)(j:Wx)(W8:J Wa)(n:U)(D:GH)(I:U->YV->J MV->Prop)(l:YV)(G:GH)(t:ZaY)(K:Gp->YV->GH->GH->J MV->Prop)(m:MV)(o:GH):Prop where|mk(a:ZaY)(f:U->YV->YV)(b:YV)(g:o=G)(e:m=.lst a)(q:I 0 b t)(s:N' b l)(tg:∀d,d.handled=none->∀k m,a[k]?=Zcd->TG X d cu Zn j m (f k))(Ux:∀c i p k m l G C t,hY X A c i n->a[k]?=Zcd->I k l t->ew D G C->Wy C G->GF X A r c i p Zn ZbQ (f k l) G C t (CC (I (k+1)) D))(Ub:∀l G C t,I ZC l t->ew D G C->Wy C G->K .next l G C t)
structure ME(I:U->YV->J MV->Prop)(D:GH)(k:U)(l:YV)(G C:GH)(t:ZaY):Prop where
 i:I k l t
 h:ew D G C
 e:Wy C G
theorem CC.k:∀e o E w t,CC (f j) i e o E w t->FG (ME f i j) NS e o E w t:=by
 intro e o E w t q;cases e with
 |next=>obtain⟨l,a,b,c,d⟩:=q;exact⟨l,⟨a,c,d⟩,b⟩|brk=>exact Vm|cont=>obtain⟨l,a,b,c,d⟩:=q;exact⟨l,⟨a,c,d⟩,b⟩|fj _=>exact Vm
theorem GF.Jd(F:hY X m Ni XS n)(D:GH)(I:U->YV->J MV->Prop)(q:ew D E w)(t:Wy w E)(h:EV X Zbw A ZaZ o E (Hj X m Nv A u W8 n D I o E Nb NS))(hs:Z3 (∀x,ZbY=Yh x) aI):ZaN:=by
 refine GF.vw (QG:=cu) F (ME I D) (λT s S=>?_) hs;walk_at"a";refine W1 S λy V PM PN G a r i z=>?_;clear h S;obtain⟨j,f,l,rfl,rfl,i0,B,tg,Ux,Ub⟩:=z;walk_at"b";refine⟨y,G,j.length,_,a,i,B2.list r i.g.aG,f,l,⟨i0,q,t⟩,B,λC M d e=>?_,λc N p d o E w Nb Q e b=>(Ux c N p d j[d] o E w Nb Q (Z6 e) b.1 b.2 b.3).mono CC.k,λo E w Nb b=>Ub o E w Nb b.1 b.2 b.3⟩;rw[Z0,Z6 e];exact tg C M d _ (Z6 e)
theorem qK(a:ZG it=Zar)(c:b.cls=.type "generator")(h:d () G):ZbW:=i6 a c Z' h
def tz(D C:GH):GH:=λa=>(D a).or (C a)
theorem BW(h:b a=Zan):tz b E a=Zan:=by unfold tz;rw[h];rfl
theorem pE(h:b a=none):tz b E a=E a:=by unfold tz;rw[h];rfl
theorem E0(h:tz b E a=Zan):b a=Zan\/E a=Zan:=by
 unfold tz at h;refine gC (b a) (λhd=>?_) λo hd=>?_;.rw[hd];rw[hd]at h;exact .inr h
 .rw[hd];rw[hd]at h;exact .inl h
theorem Ja(h:tz b E a=none):b a=none/\E a=none:=by
 unfold tz at h;refine gC (b a) (λhd=>?_) λo hd=>?_;.rw[hd];rw[hd]at h;exact⟨rfl,h⟩
 .rw[hd];rw[hd]at h;cases h
theorem Hid.tz(b:ew c E w)(d:Wy w E):Wy (tz c w) E:=λa o e=>(E0 e).elim (λh=>(b a o h).1) (d a o)
theorem Hid.cc(c:ew b E w):Wy w (Mine.tz b w):=λa d e=>by
 refine gC (b a) (λhd=>?_) λo hd=>?_;.exact(pE hd).trans e
 .exact nomatch(c a o hd).2.symm.trans e
structure vS(b:ZaY->aT->GH->U_->Prop)(c:aT)(a D:GH)(ga:Y9)(i:ZaY)(G:GH)(g:U)(st:U_):Prop where
 at_:a ga=some (.gen g st)
 ext:Wy G a
 self:G ga=none
 GD:D ga=none
 dj:Dj G D
 live:b i c G st
theorem gD.mono(h:gD X m Nv Nb y E Pg)(k:lV y a):gD X m Nv Nb a E Pg:=fN.mpr λb C G s le=>fN.mp h b C G s (ru le)
abbrev H6(X:Cx)(a:X5)(r:TK)(n:U):ZaY->aT->GH->U_->Prop:=λis y E st=>∀A,Rm X A n->gD X A r is y E st
inductive KG(X:Cx)(A:X5)(d:TK)(n:U)(Zn:S2)(f:aT)(l:YV)(C D:GH)(i:ZaY)(j:ZP)(a:Zb):Prop where|mk(r:aT)(G:GH)(ga:Y9)(g:U)(st:U_)(b:GH)(k:bG f r)(S:ak X r Zn l G a)(e:j=ZaT)(m:vS (H6 X A d n) r G D ga i b g st)(c:C ga=none)(dj:Dj b C)(o:ew D G C)(ext:Wy C G)
theorem GF.Gl(Qj:Zck)(Qk:P2=.ok (.ret .none)\/P2=.ok .next)(QI:hY X m Ni XS (P4+2))(D:GH)(I:U->YV->J MV->Prop)(f:ZaY)(Ql:U->YV->YV)(h:∀y G,Zab->ZU YH Zbw ZaZ (KG X m P2 P4 A y o w D f) bz G)(i0:I 0 Qm Nb)(QJ:N' Qm o)(tg:∀Qn,Qn.handled=none->∀k j,f[k]?=ZbC->TG X Qn cu A u j (Ql k))(Ux:∀Qo Qp QK P5 k j o E w Nb,hY X m Qo Qp (P4+2)->f[k]?=ZbC->I k o Nb->Wy D P5->ew P5 E w->Wy w E->GF X m Nv Qo Qp QK A Zco (Ql k o) E w Nb (CC (I (k+1)) P5))(Ub:∀o E w Nb,I W0 o Nb->ew D E w->Wy w E->NS .next o E w Nb)(hs:Z3 (∀PN,XM WB A PN=Yh PN) aI):ZaN:=λy G P6 Qq gd Qr p QL N S k=>by
 walk_at"x";refine gz ?_;show bF YH m _ Ni (a5 P6 Qq gd Qr (ZH WB A>>=_)) XS G;rw[XK,W3];refine b9 (ZS (h y G S) (λP7 Qt B=>?_) λO O PN=>PN.elim);obtain⟨Qu,QM,ga,Q,st,C,Qv,Qw,rfl,d,z,QN,n,T⟩:=B;rw[hs ZaT];refine gz ?_;show bF YH m _ Ni (a5 P6 Qq gd Qr (T8 [ZaT] (h' (.ref ga))>>=_)) XS Qt;rw[XK,W3];refine b9 (ZF (h8 (Qw.g.objs _ _ d.at_) ?_));refine qB λQP=>?_;generalize Qx:Frame.ret _ _ _ _ Ni QP []=fr;have F:hY X m Za8 (fr::XS) (P4+2):=by subst Qx;exact QI.loop QL
 have QQ:∀P8 Qy fl G,bF YH m P8 Ni (P6 fl) XS G->bF YH m P8 Qy (.pure (.done fl)) (fr::XS) G:=λP8 Qy fl G PR=>by
  clear F;subst Qx;exact qi (.ok fl) PR
 have main:∀XG k y o E w Nb p G C st,f.drop k=XG->k<=W0->AR Nk Qu y->qL X y p Nk->ak X y A o E G->vS (gD X (Th Za8 (fr::XS)).in1 P2) y E D ga XG C Q st->w ga=none->Dj C w->ew D E w->Wy w E->I k o Nb->bF YH m (CT X m Nv Nb p w) Za8 Zc' (fr::XS) G:=by
  intro XG;clear d z;induction XG with
  |Yl=>
   intro t y o E w Nb p G C st PS PR P9 N S d z Qa n T Qb;walk_at"z";have ON:t=W0:=by
    have:=Zq Sm PS;rw[Zd,UT]at this;exact bx 0x1ffec22c845b6c441 [_,_] this PR
   subst ON;obtain⟨QR,Qc,Qd,Oy⟩:=S.kR;refine fq (gX Qj F.rm Qk Qd d.at_ d.live Qc.s d.ext (n.tz T) (λb c e=>(pE (d.dj b c e)).trans (Qa b c e)) d.self ((pE d.GD).trans z) (λO r i a Qe PT V=>?_) λj XG hh=>nomatch hh);obtain⟨PW,l,Qf,_,_⟩:=Oy r i a Qe PT;exact QQ _ _ .next a (k PW a .next .next o i w Nb p (Qv.q.trans (a4 l.q)) (N.more l) rfl Qf (Ub o i w Nb Qb (λb c e=>⟨V b c (BW e),(n b c e).2⟩) λb c e=>V b c (n.cc b c e)))|Zp j XG QS=>
   intro t y o E w Nb p G C st PS PR P9 N S d z Qa n T Qb;walk_at"z";have hm:f[t]?=ZbC:=by
    have:=Zq (.[0]?) PS;rw[T4]at this;exact this
   have QT:f.drop (t+1)=XG:=by rw[<-List.tail_drop,PS];rfl
   obtain⟨QR,Qc,Qd,Oy⟩:=S.kR;refine fq (gX Qj F.rm Qk Qd d.at_ d.live Qc.s d.ext (n.tz T) (λb c e=>(pE (d.dj b c e)).trans (Qa b c e)) d.self ((pE d.GD).trans z) (λhh=>nomatch hh) λRi Rj hh r i x PM P7 a Qe PT V QU QV Qz QA QW QX=>?_);cases hh;obtain⟨PW,l,Qf,QB,_⟩:=Oy r i a Qe PT;obtain⟨Rk,_,_,QY,QZ,_⟩:=PT.objs _ _ QA;refine qK QY QZ (ZS (tg _ UL t j hm PW o i a P7 Qf (QW.ik QB)) (λO Q2 Q3 Q4=>?_) λO O B=>B.elim);have Qg:∀b c,x b=Zan->D b=none/\w b=none:=λb c e=>Ja (QV b c e);have Q5:∀{b c},D b=Zan->b≠ga:=λe=>f' e d.GD;have QC:∀b c,x b=Zan->Y7 (tz x D) ga (.gen Q PM) b=Zan:=λb c e=>(ag (f' e Qz)).trans (BW e);walk_at"s";have QD:Wy D (Y7 (tz x D) ga (.gen Q PM)):=λb c e=>by
    rw[ag (Q5 e)];refine gC (x b) (λhg=>?_) λQ6 hg=>?_;.exact(pE hg).trans e
    .exact nomatch(Qg b Q6 hg).1.symm.trans e
   have Q7:ew (Y7 (tz x D) ga (.gen Q PM)) i w:=λb c e=>eN (N5:=λb c=>i b=Zan/\w b=none) e ⟨QA,z⟩ λe=>(E0 e).elim (λh=>⟨QU b c h,(Qg b c h).2⟩) λh=>⟨V b c (BW h),(n b c h).2⟩;refine Ux _ (fr::XS) Nk _ t j o i w Nb F hm Qb QD Q7 (λb c e=>V b c (n.cc b c e)) PW Q2 (xJ (.forLoop u (.ref ga) W8 [] A)) Q4 id id p rfl (N.more l) Q3 λQ8 QE fl c Q9 Qh PX Qi QF QG Ra QH Rb PY=>?_;have OO:(∃PZ,I (t+1) PZ Qi/\N' PZ Q9/\ew (Y7 (tz x D) ga (.gen Q PM)) Qh PX/\Wy PX Qh)->bF YH m (CT X m Nv Qi QF PX) Za8 Zc' (fr::XS) QE:=λRc=>Su Rc λPZ Yw=>and4 Yw λRf Rg P0 Rh=>have B:=P0 _ _ (aa ..)
    QS (t+1) Q8 PZ Qh PX Qi QF QE x PM QT (ZN hm).1 (a4 (l.q.trans QG)) Ra (Rb.forget Rg) ⟨B.1,λb c e=>(P0 b c (QC b c e)).1,Qz,d.GD,λb c e=>(Qg b c e).1,QX.mono (QB.trans QG.s)⟩ B.2 (λb c e=>(P0 b c (QC b c e)).2) (P0.mono QD) Rh Rf;cases c with
   |next=>cases QH;exact c6 rfl (OO PY)|brk=>exact PY.elim|cont=>cases QH;exact c6 rfl (OO PY)|fj P7=>exact PY.elim
 exact main f 0 Qu Qm QM w Nb p Qt C st rfl (Zf _) (bG.refl _).q (N.more Qv) (Qw.forget QJ) ⟨d.at_,d.ext,d.self,d.GD,d.dj,d.live _ (F.rm.in1.le (FA))⟩ z QN n T i0
theorem uL(b:Zck)(rm:Rm X m (Qf+2))(I:Nv=.ok (.ret .none)\/Nv=.ok .next)(t:S≠ga)(Q:NI S=none)(T:NI ga=none):∀(XG done:ZaY)(y:aT)(E Pb:GH)(st:U_)(G:Zb),Zah->E S=some (.list done)->E ga=some (.gen Qg st)->gD X Sl Nv XG y Pb st->Wy Pb E->Pb ga=none->Pb S=none->Wy NI E->Dj Pb NI->done.length+rest.length<=ZK->(∀N w Nc,Zbq->aA X N w Nc->Wy NI w->w S=some (.list (done++XG))->R (.ok (.ret PS)) Nc)->U4 YH m (.builtin "list.extend.loop" ⟨[Za7,ZaT,PS],[]⟩) R G:=by
  intro PT;induction PT with
  |Yl=>
    intro done y E Pb st G u p x z A B q ex dj r C;refine V0 Oo ?_;walk_at"c";walk_at"c";show ZU _ Uq (VO ZaT>>=_) _ _ G;refine Z7 (gX (NI:=Y7 NI S (.list done)) b rm.in1 I u x z (.refl _) A (λa o e=>?_) (λa o e=>?_) B (by rw[ag (Zg t)];exact T) (λO N w Nc l s f=>?_) λg XG hh=>by cases hh);.exact eN e p (ex a o)
    . have c:a≠S:=by intro i;subst i;exact f' e q rfl
      rw[ag c];exact dj a o e
    . refine Z5 (C N w Nc l s (λa o e=>f a o ?_) ?_);.rw[ag (by intro i;subst i;exact f' e Q rfl)];exact e
      .rw[Zm];exact f _ _ (aa ..)|Zp g XG PW=>
    intro done y E Pb st G u p x z A B q ex dj r C;refine V0 Oo ?_;walk_at"c";show ZU _ Uq (VO ZaT>>=_) _ _ G;refine Z7 (gX (NI:=Y7 NI S (.list done)) b rm.in1 I u x z (.refl _) A (λa o e=>?_) (λa o e=>?_) B (by rw[ag (Zg t)];exact T) (λhh=>by cases hh) λPX PY hh N w D PZ j Nc l s f P0 V P2 P4 P5 P6=>?_);.exact eN e p (ex a o)
    .have c:a≠S:=f' e q;rw[ag c];exact dj a o e
    . obtain⟨rfl,rfl⟩:g=PX/\XG=PY:=by cases hh;exact⟨rfl,rfl⟩
      have PM:=f _ _ (aa ..);obtain⟨k,n,PN,rl⟩:=s.objs _ _ PM;have PR:=WZ;have d:D S=none:=gC (D S) id λo e=>ax ((V _ _ e).symm.trans (aa ..));show ZU _ Uq (updateSeq S (·.push j)>>=_) _ _ _;refine Z7 ?_;clear p q;have P7:aA X N (Y7 w S (.list (done++[g]))) {Nc with X_:=Nc.heap.update S (Ye (·.push j)),Wf:=Nc.toks}:=s.set PM (Y_ ..) (Vo (k.push j) (if(k.push j).size==k.size then n else n+1) ⟨YS (o:=X8 Zad k n) _ PN rfl,by rw[R'];exact rl.snoc P5⟩);refine US PN rfl (Z5 ⟨TP Ol _,PW (done++[g]) N (Y7 w S (.list (done++[g]))) D PZ _ P7 (aa ..) (by rw[ag (Zg t)];exact P4) P6 (P0.upd d) P2 d (λa o e=>?_) (λa o e=>?_) ?_ λP8 P9 Qa Qb Qc Qd Qe=>?_⟩) (by rw[PR];(exact KD r)) (by show(k.push j).size<=ZK+1;rw[Array.size_push,PR];(exact Lu r))
      . have c:a≠S:=by intro i;subst i;exact f' e Q rfl
        rw[ag c];exact f a o (by rw[ag c];exact e)
      .have c:a≠S:=f' e d;have:=V a o e;rw[ag c]at this;exact this
      .rw[Z1,YY];(exact GO r)
      .refine C P8 P9 Qa (l.trans Qb) Qc Qd ?_;rw[Qe,ZQ];rfl
theorem BF(b:Zck)(rm:Rm X m (n+4))(x:Nv=.ok (.ret .none)\/Nv=.ok .next)(z:NI ga=none)(p:Zah)(f:E ga=some (.gen q Pg))(A:gD X m.in1.in1.in1 Nv Nb y Pb Pg)(e:Wy Pb E)(B:Pb ga=none)(ex:Wy NI E)(dj:Dj Pb NI)(C:P1<=ZK)(D:∀S N w Nc,Zbq->aA X N w Nc->Wy NI w->NI S=none->w S=some (.list Nb)->T Za7 Nc):ZU YH m (VP Zad [ZaT]) T PZ G:=by
 refine callType_codes (Q₁:=λobj s=>obj=ZaD/\s={G with X_:=Zj {T':=Zad,Xg:=.seq #[]}}) F.called_list (F.typeCall_list_1 _) F.entry_list_init (code_list_new _ ⟨rfl,rfl⟩) λobj s I=>?_;obtain⟨rfl,rfl⟩:=I;generalize i:ZZ=S;have c:(Zj {T':=Zad,Xg:=.seq #[]}).get? S=some {T':=Zad,Xg:=.seq #[]}:=by subst i;exact ZL _ rfl
 have g:=p.fresh (GN i);have Q:aA X y ZbA {G with X_:=Zj {T':=Zad,Xg:=.seq #[]}}:=by
  clear c g;subst i;exact p.new (Vo (#[]) 0 ⟨ZL _ rfl,.nil⟩)
 have d:S≠ga:=by intro V;subst V;exact ax (g.symm.trans f)
 have j:=k5 g;have r:=a3 g;refine⟨⟨_,c,rfl⟩,F.args_list_init_2 _ _,?_⟩;show ZU _ Sl (do let old<-Builtin.List.listItems Za7;A2 Za7 (λO=>#[]);letGo old.toList.reverse;TC Za7 ZaT .none) _ _ _;refine Z7 ?_;refine Z7 (VG c rfl (Z5 ?_));show ZU _ Sl (updateSeq S (λO=>#[])>>=λO=>letGo #[].toList.reverse>>=λO=>TC Za7 ZaT .none) _ _ _;refine Z7 (US c rfl ?_);have k:=YS (Ye (λO=>#[])) c rfl;have a:aA X y ZaV {G with X_:=(Zj {T':=Zad,Xg:=.seq #[]}).update S (Ye (λO=>#[])),Wf:=Wu}:=Q.set (aa ..) (Y_ ..) (Vo (#[]) _ ⟨k,.nil⟩);rw[aP]at a;refine Z7 (sg ?_);have l:∀G:Zb,aA X y ZbA G->b3 ZaT "generator":=λG PM=>by
  have:=PM.objs ga (.gen q Pg) (by rw[ag (Zg d)];exact f);exact Heap.IsGen.typeIs this
 refine Z7 (wd (l _ a) ?_);have h1:SY Za7 ZaT=false:=by simp[SY,d]
 have h2:(Vx "generator"==Vx "list")=false:=by rfl
 have t:(Vx "generator"==Vx "tuple")=false:=by rfl
 first|refine UR (T3 (by rw[h1,h2,t];exact Yp) ?_)|refine Z7 (UR (T3 (by rw[h1,h2,t];exact Yp) ?_))
 have PN:=a.objs ga (.gen q Pg) (by rw[ag (Zg d)];exact f);refine Z7 (h8 PN ?_);refine Z7 (ZF ?_);refine Z7 (Vy (l _ a) F.gen_no_len ?_);show ZU _ Sl (q9 (L' ga) (WY "__length_hint__")>>=_) _ _ _;refine Z7 (Vy (l _ a) F.gen_no_hint ?_);refine Z5 ?_;show ZU _ Sl (rule "list.extend.makes-room">>=λO=>Builtin.List.listTouch Za7>>=λO=>OO (.builtin "list.extend.loop" ⟨[Za7,ZaT,.none],[]⟩)) _ _ _;refine Z7 (Vw ?_);refine Z7 ?_;refine Z7 (US k rfl ?_);have o:=YS (Ye (·.push U6)) k rfl;refine US o rfl ?_;have PR:=YS (Ye (·.pop)) o rfl;have u:aA X y ZaV {G with X_:=(((Zj {T':=Zad,Xg:=.seq #[]}).update S (Ye (λO=>#[]))).update S (Ye (·.push U6))).update S (Ye (·.pop)),Wf:=Wu}:=by
  have PS:aA X y (Y7 ZbA S (.own λO=>m3)) {G with X_:=(((Zj {T':=Zad,Xg:=.seq #[]}).update S (Ye (λO=>#[]))).update S (Ye (·.push U6))),Wf:=Wu}:=a.set (aa ..) (Y_ ..) ⟨_,o,trivial⟩;have z2:=PS.set (n:=Wu) (a:=Zaq) (aa ..) (Y_ ..) (Vo (#[]) _ ⟨PR,.nil⟩);rw[aP]at z2;exact z2
 rw[aP]at u;refine Z5 ⟨TP Ol _,uL (m:=Uq) b (Qf:=n) (rm.in1.le (by exact JU)) x d j z Nb [] y _ Pb Pg _ u (aa ..) (by rw[ag (Zg d)];exact f) A (e.upd r) B r (ex.upd j) dj (by simpa using C) λN w Nc PT PW PX PY=>?_⟩;exact⟨rfl,D S N w Nc PT PW PX j PY⟩
theorem EV.DK(b:Zck)(rm:Rm X m (n+4))(t:Nv=.ok (.ret .none)\/Nv=.ok .next)(u:Xs ("list")=Zaa)(hn:VY ("list")=none)(hv:U9 ("list")=some Zad)(h:∀y G,Zab->ZU YH m Zb6 (λf Nc=>∃N d ga j st w,Zbq/\ak X N A o d Nc/\f=ZaT/\vS (λis y w st=>∀l,Rm X l n->gD X l Nv is y w st) N d E ga Nb w j st/\Wy E d) bz G)(x:P1<=ZK)(k:g (.lst Nb) E)(he:Z3 (Zr [c] A=(false,Zb6)::ZbE) aR):EV X m A (ZH (.Call (.Name ("list") P6) [c] [] Ym) A) o E g:=λy G S=>by
 walk_at"a";refine sL ?_ rfl;walk_at"a";refine(p9 (g:=λz i=>z=.raw Zad/\i=E) b u hn hv ⟨rfl,rfl⟩ (by rfl)).use S λB C f mv d a r D F=>?_;clear S;obtain⟨rfl,rfl⟩:=F;rw[UZ];refine TA (rk (ZS (h B C D) (λf P7 q=>?_) λO O q=>q) he) he rfl;walk_at"a";obtain⟨P8,P9,ga,j,st,w,I,Q,rfl,e,ex⟩:=q;refine c' ?_;obtain⟨Qa,T,V,Oy⟩:=Q.kR;refine BF b (n:=n) rm t (NI:=d) e.GD V e.at_ ((e.live _ (rm.in1.in1.in1.le (by exact FA))).mono T.s) e.ext e.self ex e.dj x λQb N i Nc PM PN PR PS p=>?_;obtain⟨Qc,PT,PW,Qd,_⟩:=Oy N i Nc PM PN;obtain⟨PX,PY,PZ,P0⟩:=PW.jk p;clear p;exact⟨PX,.lst Nb,d,(V8 I).trans (PT.trans PY),PZ,P0.drop (λP2 P4 c=>by rw[bZ _ (by intro P5;subst P5;exact ax (PS.symm.trans c))];exact PR P2 P4 c),k⟩
structure xT(X:Cx)(C N:Y9)(mN:Z->Zs ZP):Prop where
 at_:ClsAt X.B C N mN
 nc:C≠tx
 nn:N≠tx
 L6:mN "__getattribute__"=none
 ng:mN "__getattr__"=none
 Mh:mN "__setattr__"=none
def n8(C d:Y9)(o:OB):Prop:=o.cls=Zbr/\(∀c,OA≠.cls c)/\o.dict=some d
structure Tw(G:GH)(x C d:Y9)(al:YV):Prop where
 ob:G x=some (.own (n8 C d))
 dc:G d=some (.ns al)
variable{Nh Q:Y9}
theorem Inst.ne(I:Tw E Nh z Q o):Q≠Nh:=by intro a;subst a;have:=I.ob;rw[I.dc]at this;cases this
variable{NM:Z->Zs ZP}
theorem xT.sat(c:Za1)(S:Zah):ClsAt YK z Nh NM:=by exact⟨c.at_.obj.imp λnm=>VA λq=>VA λbs=>VA λs=>VA λsub=>VA λcol=>VA λdd=>VA λk0=>VA λk=>VA λk2=>VA λa=>VA λb e=>Tr _ _ e c.nc,S.ns c.at_.ns c.nn⟩
theorem xT.use(c:Za1)(S:Zah){d:Prop}(f:∀nm q bs s sub col dd k0 k k2 a b,ZG z=some (excClassObj nm q z Nh bs [Zai] true s sub false col dd k0 k k2 a b "object.__new__")->G.heap.Ns Nh NM->d):d:=by exact(c.sat S).obj.elim λnm q=>Vm λq x=>Vn λbs x=>Vn λs x=>Vn λsub x=>Vn λcol x=>Vn λdd x=>Vn λk0 x=>Vn λk x=>Vn λk2 x=>Vn λa x=>Vn λb e=>f nm q bs s sub col dd k0 k k2 a b e (c.sat S).ns
theorem Inst.heap(I:Tw E Nh z Q o)(S:Zah):∃m a,ZG Nh=ZaB/\n8 z Q a/\G.heap.Inst Nh z m/\G.heap.Ns1 Q m/\(∀b,Yb b=none->m b=none)/\∀b mv,Yb b=ZaS->∃d,m b=ZaC/\aw y mv d:=by
 walk_at"b";obtain⟨a,e,c⟩:=UG _ _ I.ob;obtain⟨m,n1,f,hv⟩:=UG _ _ I.dc;exact⟨m,a,e,c,⟨a,e,c.1,c.2.1,.inr ⟨Q,c.2.2,I.ne,n1⟩⟩,n1,f,hv⟩
inductive M6(X:Cx)(C:Y9)(E_:Z)(K:MV->GH->Prop)(m:MV)(G:GH):Prop where|mk(x d:Y9)(al:YV)(mv:MV)(e:m=ZaK)(I:Tw G x C d al)(h:PO E_=ZaS)(b:∀id,mv≠.raw ZaL)(k:K mv G)
theorem EV.Hu(c:Za1)(j:NM E_=none)(hB:V6 Zai E_=Yh none)(h:EV X m A Zcn o E (M6 X z E_ g))(he:Z3 (ZH (.Attribute UY E_ Ym) A=(do
   let b<-ZH UY A
   VT ar let f<-T8 [b] (et b E_ true)
   R9 UY b f
   Yh f)) aW):EV X m A (ZH (.Attribute UY E_ Ym) A) o E g:=λF M l=>sf (W1 l λn s N Q G a p S k=>by
  walk_at"a";obtain⟨x,d,al,mv,rfl,I,hx,q,w⟩:=k;rw[p.raw];obtain⟨mm,b,T,V,y,n1,PM,hv⟩:=I.heap i2;obtain⟨u,B,r⟩:=hv E_ mv hx;obtain⟨hh,PN,PR,tt,os⟩:=s;walk_at"e";refine c.use i2 λnm PS bs PT sub col dd k0 PW k2 PX PY C D=>?_;refine load_attr C D c.L6 j hB y B ?_ ⟨n,mv,G,a,r,Gf _,w⟩;cases u<;>first|rfl|skip
  exfalso;cases mv with
  |raw PZ=>have:=UZ;subst this;exact q _ rfl|int i=>obtain⟨t,e⟩:=r.int;cases e|str i=>obtain⟨t,e⟩:=sz;cases e|seq c P0=>obtain⟨_,_,_,e,_⟩:=ho;cases e) he
variable{Nt:Y9}
theorem ua(p:Za1)(PS:NM E_=none)(hB:V6 Zai E_=Yh none)(I:Tw E Q z Nt NK)(S:Zab)(PT:aw y mv u)(PW:NK.length<=100)(h:∀Nc,ak X y A o (Y7 E Nt (.ns (aJ E_ mv NK))) Nc->PX () Nc):ZU YH m (setAttr (.ref Q) E_ u) PX bz G:=by
  obtain⟨Qk,d,l,j,r,n1,t,hv⟩:=I.heap i2;have w:Q≠z:=by
    clear I r;intro PY;subst PY;exact p.use i2 λnm q bs PZ sub col dd k0 P0 k2 P2 P4 s O=>j.2.1 _ (Zq _ (ZW (l.symm.trans s)))
  obtain⟨hh,Ql,Qm,tt,os⟩:=G;walk_at"f";refine p.use i2 λnm q bs PZ sub col dd k0 P0 k2 P2 P4 s P5=>?_;refine store_attr (ns:=NK.map (·.1)) F.store_object s P5 p.Mh PS hB w r (λP6 Qn P7 P8 x=>?_) (λa hy=>?_) (by rw[Z2,af];exact Lp PW)
  . obtain⟨Qo,C,P9,Qa,Qb⟩:=P7;obtain⟨D,N,e1,e2,T,Qc⟩:=x d l;have Qd:D=d:=by
      obtain⟨a1,a2,Qp,Qq⟩:=d;obtain⟨b1,b2,Qr,Qt⟩:=D;have Qe:b2=a2:=by have h1:=Qc Nt j.2.2;have h2:=j.2.2;simp only at h1 h2;rw[h1,h2]
      simp only at e1 e2 T;clear l;subst e1 e2 T Qe;rfl
    clear w r n1 x P9 Qa;subst Qd;rw[N]at C;cases C;obtain⟨qM,_⟩|⟨d2,hd2,Qf,Qg⟩:=Qb;.exact ax (qM.symm.trans (j.2.2))
    . rw[j.2.2]at hd2;clear Qf;cases hd2;have sb:∀b ob,b≠Nt->hh.get? b=some ob->P6.get? b=some ob:=λb ob hb e=>by
        by_cases V:b=Q;.subst V;rw[l]at e;cases e;exact N
        .exact P8 b ob V (λQu Qv h1 h2=>by rw[l]at h1;cases h1;rw[j.2.2]at h2;cases h2;exact hb) e
      refine h _ ?_;walk_at"al";have TQ:=OW _ _ I.dc;have ga:=I.dc;clear h;have n:∀ob,¬y Nt ob:=λob e=>by have:=Oz _ _ e;rw[ga]at this;cases this
      have nl:Yo≠Nt:=λe=>by have:=S.f.lG.1;rw[e,ga]at this;cases this
      have PM:∀a c,Wd a=Zan->c≠Nt:=λa c k e=>by have:=(W7 a c k).1;rw[e,ga]at this;cases this
      refine⟨⟨S.g.old.kW (Pm:=(.∈[Nt])) (λQw q=>by simp at q;rw[q];exact TQ) (λb d hb e=>sb b d (by simpa using hb) e),λb ob e Qh=>sb b ob (λq=>by rw[q,TQ]at e;cases e) (K2 b ob e Qh),λb ob e=>sb b ob (λq=>n ob (q▸e)) (Yg b ob e),λb ob e=>?_,λb ob e=>?_,λb ob e=>?_,c4,S.g.gens.upd rfl⟩,K5 (λd e=>sb _ d nl e) (λa c d k e=>sb _ d (PM a c k) e) (by rw[ag nl];exact S.f.lG.1) λa c k=>by rw[ag (PM a c k)];exact(W7 a c k).1⟩
      . by_cases hb:b=Nt
        . subst hb;rw[aa]at e;rw[<-ZW e];refine⟨_,Qg,λa hy=>?_,λa Qi hy=>?_⟩
          . rw[aB]at hy;by_cases i:a=E_;.rw[ZT i]at hy;cases hy
            .rw[ZY i]at hy;simp only[ZY i];exact t a hy
          . rw[aB]at hy;by_cases i:a=E_;.rw[ZT i]at hy;cases hy;exact⟨u,ZT i,PT⟩
            .rw[ZY i]at hy;simp only[ZY i];exact hv a Qi hy
        .rw[ag hb]at e;have PN:=Wc b ob e;obtain⟨Qj,PR⟩:=PN.obj;exact PN.mono ZbK ((sb b Qj hb PR).trans PR.symm)
      .have hb:b≠Nt:=λq=>n ob (q▸e);rw[ag hb];exact Oz b ob e
      .exact eN (N5:=λb O=>YF b=none) e TQ (OW b ob)
  . by_cases hl:N_ a=none;.exact Za (t a hl) hy
    .obtain⟨Qx,e⟩:=Option.ne_none_iff_exists'.mp hl;exact Yx ⟨_,Ve e,rfl⟩
inductive MB(X:Cx)(C:Y9)(E_:Z)(mv:MV)(K:GH->Prop)(m:MV)(G:GH):Prop where|mk(x d:Y9)(al:YV)(e:m=ZaK)(I:Tw G x C d al)(z:al.length<=100)(k:K (Y7 G d (.ns (aJ E_ mv al))))
theorem OT(c:Za1)(e:NM D=none)(hB:V6 Zai D=Yh none)(h:EV X m A (ZH f A) o E (MB X z D mv (Pa o))):bq X m A (.Attribute f D Ym) mv o E Pa:=λq s t S r=>by
 walk_at"a";refine Z7 (ZF (W1 S λg w u y G b i j k=>Z7 (Yq ?_)));obtain⟨x,d,al,rfl,I,l,n⟩:=k;rw[i.raw];exact Z7 (ZF (ua c e hB I j (Tp b) l λa p=>wpAny_release ⟨g,o,_,b,p,n⟩))
theorem EF.jv(e:Za1)(g:NM E_=none)(hB:V6 Zai E_=Yh none)(h:EV X m A Zcg o E λmv w=>EV X m A ZbX o w (MB X z E_ mv (B .next o)))(hs:Z3 (N0 b (some (.Attribute d E_ f)) K3 A=Yh false) aR):EF X m A (TM (.Assign [.Attribute d E_ f] b Ym) A) o E B:=λy C S=>by
 walk_at"a";rw[plainObj_exec_Assign_Attribute d E_ f b Ym hs];refine Z7 (Yq (Z7 (W1 S λi s j mv D a r n k=>Z7 ?_)));refine ZS (OT (Pa:=λc w=>B .next c w) e g hB k i s j n r) (λO F q=>?_) λO O q=>q;obtain⟨p,l,G,t,u,x⟩:=q;exact Z5 ⟨p,.next,l,G,V8 t,rfl,u,x⟩
theorem gS(h:EV X m A ZbX o E λmv w=>bq X m A b mv o w λg G=>bq X m A c mv g G λl e=>B .next l e)(he:Z3 ((I8 [b,c] A).map (·.2)=[w2 b A,w2 c A]) aR)(hw:Z3 (F' [b,c] d A=Yh none) aR):EF X m A (TM (.Assign [b,c] d Ym) A) o E B:=λM N S=>wpAny_Assign_two (W1 S λi s f mv G j r n k=>ZS (k i s f n r) (λO p q=>by
  obtain⟨t,l,e,a,u,x⟩:=q;refine ZS (x t p f u (Tp a)) (λO Q q=>?_) λO O q=>q;obtain⟨y,z,C,D,F,I⟩:=q;exact⟨y,.next,z,C,(fi a).trans D,rfl,F,I⟩) λO O q=>q) he hw
theorem j5(c:Za1)(a:NM name=some (.ref f))(b:YF f=some of)(e:f≠tx)(i:of.cls=Zao)(hB:V6 Zai name=Yh u)(I:Tw E Q z Nt o)(j:Yb name=none)(S:Zah)(h:l (.ref f,[ZcA]) G):ZU YH m (NO (.ref Q) name x) l F G:=by
 obtain⟨w,A,C,D,n,n1,p,hv⟩:=I.heap S;obtain⟨hh,g,d,tt,os⟩:=G;walk_at"f";refine c.use S λnm q bs s sub col dd k0 k k2 N V r t=>?_;exact method_of r t c.L6 c.ng a (Tr _ _ b e) i hB n (p name j) h
variable{NL:Y9}{N3:OB}{PC:CL}{PG:Zs ZP}
theorem EV.Io(c:Za1)(t:NM D=some ZcU)(d:YF NL=some N3)(e:NL≠tx)(u:N3.cls=Zao)(w:N3.data=.func PC)(hB:V6 Zai D=Yh PG)(h:EV X m A ZaF o E λf G=>∃Q Nt NK,f=ZcA/\Tw G Q z Nt NK/\N_ D=none/\EA X m A (Nn::NP) o G λi j=>b8 X m ZcU (.ref Q::i) j g)(he:Z3 (eP A Ng D Np (Nn::NP) Nx Nz) aR)(x:Z3 (gK A Nn NP) aR):EV X m A (ZH (.Call Zc8 (Nn::NP) [] Nx) A) o E g:=λy PR C=>OM (pl:=Nz) (W1 C λPS PT PW f G a r S k=>by
  obtain⟨Q,Nt,NK,rfl,I,F,N⟩:=k;rw[UZ];refine j5 c t d e u hB I F i2 ?_;have l:=(N Nx).use S (b:=λb s=>Xe NL=some N3/\ZU YH m (VP ZcU ([ZcA]++b)) Zae bz s) λPX s b i j V PM n PN=>⟨n.g.base _ _ d e,ZS (PN.ev n (.cons (aE ..) PM)) (λO O q=>mc (V8 V)) λO O q=>q⟩;rw[x]at l⊢;exact Calls.callWith_function (o:=N3) (fd:=PC) (OK (ZS l (λb s p=>⟨⟨p.1,w⟩,p.2⟩) λO O q=>q))) he
theorem EV.Fp(c:Za1)(f:NM D=some ZcU)(b:YF NL=some N3)(d:NL≠tx)(i:N3.cls=Zao)(j:N3.data=.func PC)(hB:V6 Zai D=Yh PG)(h:EV X m A ZaF o E λe G=>∃Q Nt NK,e=ZcA/\Tw G Q z Nt NK/\N_ D=none/\b8 X m ZcU [ZcA] G g)(he:Z3 (eP A Ng D Np [] Nx Nz) aR):EV X m A ZcM o E g:=λt s l=>OM (pl:=Nz) (W1 l λu w x e G a r S k=>by
  walk_at"a";obtain⟨Q,Nt,NK,rfl,I,n,p⟩:=k;rw[UZ];refine j5 c f b d i hB I n i2 ?_;refine callWith_meth0 j (K2 _ _ b d) ?_;exact ZS (p.ev S (.one (aE ..))) (λO O q=>mc a) λO O q=>q) he
theorem DM(c:Za1)(w:∀y N d G,Zbq->Pf N d G->Pf y d G)(x:NM D=some ZcU)(f:YF NL=some N3)(i:NL≠tx)(C:N3.cls=Zao)(F:N3.data=.func PC)(hB:V6 Zai D=Yh PG)(h:EV X m A ZaF o E λj e=>∃Q Nt NK,j=ZcA/\Tw e Q z Nt NK/\N_ D=none/\EA X m A (Nn::NP) o e λl n=>∀y G b,ak X y A o n G->ao y (.ref Q::l) b->ZU YH m (VP (.ref NL) b) (Pf y) bz G)(I:Zab)(he:Z3 (eP A Ng D Np (Nn::NP) Nx Nz) aR)(V:Z3 (gK A Nn NP) aR):ZU YH m (ZH (.Call Zc8 (Nn::NP) [] Nx) A) (Pf y) bz G:=OM (pl:=Nz) (W1 I λPY PZ d j e a r S k=>by
  obtain⟨Q,Nt,NK,rfl,PM,PN,PR⟩:=k;rw[UZ];refine j5 c x f i C hB PM PN i2 ?_;have p:=(PR Nx).use S (b:=λb s=>Xe NL=some N3/\ZU YH m (VP ZcU ([ZcA]++b)) (Pf y) bz s) λPS s b l n PT PW t PX=>⟨t.g.base _ _ f i,ZS (PX PS s (.ref Q::b) t (.cons (aE ..) PW)) (λO O q=>w _ _ _ _ (V8 PT) q) λO O q=>q⟩;rw[V]at p⊢;exact Calls.callWith_function (o:=N3) (fd:=PC) (OK (ZS p (λb s u=>⟨⟨u.1,F⟩,u.2⟩) λO O q=>q))) he
theorem aA.HN(S:Zah)(sb:∀c o,ZG c=Zag->i.get? c=Zag)(m:ZG a=none)(hb:ZG b=none)(s:a≠b)(x:cQ y i a q)(p:cQ y i b ob)(n:(q.kd==3)=false)(nb:(ob.kd==3)=false):aA X y (Y7 (Y7 E a q) b ob) {G with X_:=i}:=by
  walk_at"Q";have Q:aA X y E {G with X_:=i}:=Q1 sb;have fr:∀c,ZG c=none->E c=none/\(∀o,¬y c o)/\YF c=none:=λc j=>by
    refine⟨?_,λo e=>?_,?_⟩;.cases e:E c with
      |none=>rfl|some o=>obtain⟨r,g⟩:=(UG c o e).obj;rw[j]at g;cases g
    .exact ax (j.symm.trans (C1 _ _ e))
    .cases e:YF c with|none=>rfl|some o=>obtain⟨r,g⟩:=S.old.k.there c o e;rw[j]at g;cases g
  refine⟨Q.old,Q.base,Q.aG,λc o e=>?_,λc o e=>?_,λc o e=>?_,Q.os,(Q.gens.upd n).upd nb⟩
  . by_cases d:c=b;.subst d;rw[aa]at e;cases e;exact p
    . rw[ag d]at e;by_cases f:c=a;.subst f;rw[aa]at e;cases e;exact x
      .rw[ag f]at e;exact Q.objs c o e
  . have d:c≠b:=by intro l;subst l;exact(fr _ hb).2.1 o e
    walk_at"j";have f:c≠a:=by intro l;subst l;exact(fr _ m).2.1 o e
    rw[ag d,ag f];exact Q.cO c o e
  . by_cases d:c=b;.rw[d];exact(fr _ hb).2.2
    . rw[ag d]at e;by_cases f:c=a;.subst f;exact(fr _ m).2.2
      .rw[ag f]at e;exact Q.low c o e
theorem Rm.make(h:Rm X m (n+1))(a:Zc4):Rm X (m.under (.builtin "type.__call__" ⟨.ref z::a,[]⟩)) n:=by exact⟨by rw[(rfl:(m.under (.builtin "type.__call__" ⟨.ref z::a,[]⟩)).depth=G4+1)];(exact GO (l7)),by rw[(rfl:(m.under (.builtin "type.__call__" ⟨.ref z::a,[]⟩)).units=OV+1)];(exact a9 0x1fc8e12141c1c8e1283841 [20,20] [_,_,_] [] (l6)),ri⟩
theorem EV.Jb(b:Zck)(c:Za1)(rm:Rm X m (PY+1))(PZ:Xs f=Zaa)(hv:VY f=some Zay)(P0:NM "__init__"=some Zbg)(P2:YF u=some P4)(P5:u≠tx)(P6:P4.cls=Zao)(h:EA X m A (l::d) o E λC G=>∀D Q Nt,Rm X D PY->G Q=none->G Nt=none->Q≠Nt->b8 X D Zbg (.ref Q::C) (Y7 (Y7 G Nt (.ns [])) Q (.own (n8 z Nt))) λw p=>w=.none/\g ZcA p)(P7:Z3 ((f==("__debug__"))=false) aD)(P8:ZcX)(hp:Z3 (nO A d) aI):EV X m A (ZH (.Call (.Name f QC) (l::d) [] Ym) A) o E g:=λP9 QD I=>by
  walk_at"a";refine sL ?_ rfl;refine(mw (g:=λw i=>w=.raw Zay/\i=E) b PZ hv ⟨rfl,rfl⟩ P7).use I λQE N Qa mv G Qb Qc Qd Qe=>?_;clear I;obtain⟨rfl,rfl⟩:=Qe;rw[Qc.raw];obtain⟨nm,q,bs,V,sub,col,dd,k0,k,k2,PM,PN,Qf⟩:=c.at_.obj;have PR:=(h Ym).use Qd (b:=λe s=>Xe z=some (excClassObj nm q z Nh bs [Zai] true V sub false col dd k0 k k2 PM PN "object.__new__")/\ZU YH m (VP (.ref z) e) (PV X A P9 o g) bz s) λQF s e C p Qg Qh PS Qi=>⟨PS.g.base _ _ Qf c.nc,by
    walk_at"a";obtain⟨Qj,Qk,S,Oy⟩:=PS.kR;obtain⟨hh,QG,QH,tt,os⟩:=s;walk_at"e";refine c.use S λnm q bs V sub col dd k0 k k2 PM PN j Ql=>?_;refine wpAny_call_obj_init F.objNew j Ql P0 (Tr _ _ P2 P5) P6 λQm Q Nt mk=>?_;walk_at"e";obtain⟨t,PT,Qn,Qo,hd⟩:=mk.inst;have n:=mk.dict t PT;have PW:Nt≠Q:=by
      refine hd.elim (λYA=>?_) λYA=>?_;.obtain⟨h1,_⟩:=YA;exact ax (pj n)
      .obtain⟨x,h1,h2,_⟩:=YA;rw[n]at h1;cases h1;exact h2
    have n1:Qm.Ns1 Nt λO=>none:=by
      refine hd.elim (λYA=>?_) λYA=>?_;.obtain⟨h1,_⟩:=YA;exact ax (pj n)
      .obtain⟨x,h1,h2,Qp⟩:=YA;rw[n]at h1;cases h1;exact Qp
    have fr:∀y,hh.get? y=none->p y=none:=λy hy=>by cases l:p y with|none=>rfl|some t=>obtain⟨QI,Qq⟩:=(UG y t l).obj;exact ax (hy.symm.trans Qq)
    refine V_ (V9 (Qi _ Q Nt (rm.make e) (fr Q mk.newX) (fr Nt mk.newD) (Zg PW) Qj _ (.ref Q::e) (S.HN mk.keeps mk.newD mk.newX PW ⟨_,n1,λO O=>rfl,λy mv l=>by exact ax l⟩ ⟨t,PT,Qn,Qo,n⟩ rfl rfl) (.cons (aE ..) (Qh.mono Qk))) λQJ a q=>?_);obtain⟨Qa,r,mv,i,YA,Qr,Qt,Qu,YB,Qv⟩:=q;subst YA;subst YB;obtain⟨Qw,Qx,Qy,QK,_⟩:=Oy r i a Qr Qu;exact⟨Qt.raw,Qw,ZcA,i,(Qb.trans Qg).trans Qx,aE ..,Qy,Qv⟩⟩;rw[P8]at PR⊢;have Qz:((UE Ym ((false,Zc2)::Zr d A)).any (λQ=>Q.fst)||([]:J (Zs Z×p_ ZP)).any λQ=>Q.fst.isNone)=false:=by rw[hp Ym];rfl
  refine Z7 (ZF (OK (ZS PR (λe N PX=>?_) λO O Q=>Q)));obtain⟨hh,QA,x,QB,os⟩:=N;have j:=PX.1;have QL:=tc_lookup;have QM:(⟨hh,QA,x,QB,os⟩:Zb).TypeIs Zay "type":=⟨_,j,rfl⟩;refine Z7 (Yq ?_);repeat(any_goals(first|assumption|with_reducible refine wpAny_loadPart_at j ?_|with_reducible refine wpAny_load' j ?_|wp_step))
  rw[ZT (by rfl),Qz];exact Z7 (ZS PX.2 (λQN a hr=>Z7 (ZF (g5 (Z5 hr)))) λO O Q=>Q)
def dY(X:Cx):Prop:=∃o,YF oi=some o
abbrev sD(X:Cx)(k:J (Z×ZP)):MO:=.own λo=>o.IsDictOf ZaP k
inductive dy:J (Zv×Zv)->J (Zv×ZP)->Prop|Yl:dy [] []|Zp{k a:Zv}{t:nj}{j b}:dy j b->dy ((k,a)::j) ((k,.int a t)::b)
abbrev iD(X:Cx)(j:J (Zv×Zv)):MO:=.own λo=>∃k,o.IsDictOf (er Wj Sh) k/\dy j k
theorem dy.length{a k}(h:dy a k):V4=ZC:=by induction h with|Yl=>rfl|Zp _ i=>simp[i]
theorem dy.at{c d}(h:dy c d)(k:Zv):(Sd k=none/\WJ d k=none)\/∃e t,Sd k=ZbU/\WJ d k=some (.int e t):=by
  walk_at"n";induction h with
  |Yl=>exact .inl ⟨rfl,rfl⟩|@Zp g e t c d h i=>
    by_cases f:g=k;.subst f;exact .inr (Vo e t ⟨by simp,by simp[WJ]⟩)
    . have hb:=Yu (Zg f);refine i.elim (λYA=>?_) λYA=>?_;.obtain⟨a,b⟩:=YA;exact .inl ⟨by simp[Ut,hb,a],by simpa[WJ,f]using b⟩
      .obtain⟨j,l,a,b⟩:=YA;exact .inr (Vo j l ⟨by simp[Ut,hb,a],by simpa[WJ,f]using b⟩)
theorem dy.snoc{a k}(h:dy a k)(b c:Zv)(t:nj):dy (a++[(b,c)]) (k++[(b,.int c t)]):=by induction h with|Yl=>exact .cons .nil|Zp _ i=>exact .cons i
theorem qN(hs:dY X)(S:Zah)(hd:E d=Zar):(d==oi)=false:=by
 refine Yu ?_;intro a;subst a;obtain⟨o,e⟩:=hs;exact ax ((K_ _ _ hd).symm.trans e)
theorem q8(S:Zah)(hd:E d=Za'):OS ZaP d k:=Heap.dictOf_iff.mpr (UG _ _ hd)
theorem iD.dict(S:Zah)(hd:E d=some (iD X a)):∃k,OS (er Wj Sh) d k/\dy a k:=by
 walk_at"b";obtain⟨o,b,k,h,i⟩:=UG _ _ hd;exact⟨k,Heap.dictOf_iff.mpr ⟨o,b,h⟩,i⟩
theorem jJ{K:Type}[sa K]{knd:KeyKind Wj Sh K}{k:J (K×ZP)}(h:OS knd d k):∀b,L' d=ZaQ->∃ob,ZG b=some ob/\ob.dict=none:=h.mapOf.noDict
theorem EV.AJ(d:b {T':=Zaf,Xg:=.dict #[]})(h:∀a,E a=none->g Zaj (Y7 E a (.own b))):EV X m A (ZH (.Dict [] [] Ym) A) o E g:=λc s S=>wpAny_Dict_empty ⟨c,.ref Zx,_,.refl c,aE ..,S.new (a:=.own b) ⟨_,ZL _ rfl,d⟩,h _ (Us (ZV _))⟩
theorem Fx:Obj.IsDictOf ZaP {T':=Zaf,Xg:=.dict #[]} []:=⟨#[],0,⟨rfl,rfl,rfl⟩,rfl,λO h=>by simp at h,.nil,by simp⟩
theorem B7:∃k,Obj.IsDictOf (er Wj Sh) {T':=Zaf,Xg:=.dict #[]} k/\dy [] k:=⟨[],⟨#[],0,⟨rfl,rfl,rfl⟩,rfl,λO h=>by simp at h,.nil,by simp⟩,.nil⟩
theorem cv.E3(hd:E d=Za'):cv X A o E "dict" ZaG:=λa s b S r=>by
 rw[UZ];have h:=q8 i2 hd;exact⟨h.typeIs,jJ h⟩
theorem kZ{K:Type}[sa K]{knd:KeyKind Wj Sh K}{a:J (K×ZP)}{k:K}(c:knd.is k y2=true)(hm:OS knd n a)(B:ZC<=ZK)(q:∀r,WJ a k=Za2->s r {G with Wf:=Wu+1})(t:WJ a k=none->∀j,j.DictOf knd n (a++[(k,NH)])->Xp n YK j->s NH {G with X_:=j,Wf:=Wu+1}):ZU YH m (ai n y2 NH) s S G:=by
  obtain⟨o,d,u,b,x,hd,p,hp,hn⟩:=hm;have N:YE<=ZK:=by have e1:=hp.length;have e2:d.toList.length=YE:=rfl;exact Kl e1 B
  have y:∀k,findBy knd.is d k=WJ a k:=λk=>by
    walk_at"r";have:=(show OS knd n a from(Vo o d ⟨u,b,x,hd,p,hp,hn⟩)).mapOf;obtain⟨Q,T,V,z,_,A,_,C⟩:=this;rw[b]at z;cases z;rw[hd]at A;cases A;exact C k
  unfold ai;try with_reducible refine ZF ?_
  refine Z7 (knd.pyHash c ?_);refine Z7 (wpAny_dictFind_of c b hd p ?_);cases g:d.findIdx? λe=>knd.is k e.key with
  |none=>
    have f:WJ a k=none:=by rw[<-y k,findBy_of_findIdx?,g]
    have D:(d.findIdx? λe=>knd.is k e.key)=a.findIdx? λkv=>decide (kv.1=k):=by rw[<-hp.findIdx k];obtain⟨l⟩:=d;simp
    have E:=not_mem_of_findIdx_none (D▸g);refine Z7 (Vw (Z7 (wpAny_updateDictKeys b hd (Z5 (t f _ (exI3 _ _ (u+1) ⟨YS _ b (Obj.isFreed_of_dict (Obj.data_mapDictKeys hd _)),x.mapDictKeys _,Obj.data_mapDictKeys hd _,p.push c _,?_,?_⟩) (Y_ ..))))));.have:=hp.append c (knd.hash k) NH;obtain⟨l⟩:=d;simpa using this
    .rw[ZE,k3];refine⟨hn,by simp,?_⟩;intro PM F PN hb;simp only[Yd,R7,Wt]at hb;clear c q t f;rw[hb];exactλe=>E (e▸F)|some i=>
    have f:WJ a k=(d[i]?).map (·.val):=by rw[<-y k,findBy_of_findIdx?,g]
    refine Z7 (wpAny_dictEntries b hd ?_);walk_at"f";cases he:d[i]? with
    |none=>
      exfalso;have:=Array.findIdx?_eq_some_iff_findIdx_eq.mp g;have I:=this.1;rw[XD I]at he;exact nomatch he|some e=>
      rw[he]at f;exact Z7 (Vw (Z5 (q e.val f)))
theorem mj{K:Type}[sa K]{knd:KeyKind Wj Sh K}{k:J (K×ZP)}{c:K}(e:knd.is c y2=true)(g:(d==oi)=false)(hm:OS knd d k)(i:V4<=ZK)(j:∀a,WJ k c=ZaB->f a {G with Wf:=Wu+1})(l:WJ k c=none->∀b,b.DictOf knd d (k++[(c,NH)])->Xp d YK b->f NH {G with X_:=b,Wf:=Wu+1}):ZU YH m (VP (.builtin "dict.setdefault") [ZaG,y2,NH]) f q G:=by
 refine X7 F.slot_dict_setdefault L_ F.entry_dict_setdefault ?_ (F.args_dict_setdefault_3 _ _ _);refine Z7 ?_;refine Z7 (wpAny_notOrdered_dict L_ ?_);show ZU _ _ (Yh (d,y2,some NH)) _ _ G;refine Z5 ?_;show ZU _ _ (if(d==oi)=true then _ else(ai d y2 NH>>=_)) _ _ G;rw[ZY (by rw[g];exact Yp)];exact Z7 (kZ e hm i (λa hv=>Z5 ⟨a,rfl,j a hv⟩) λhn b n o=>Z5 ⟨NH,rfl,l hn b n o⟩)
theorem EV.vH(hs:dY X)(h:EV X m A ZaF o E λj f=>∃d k,j=ZaG/\f d=Za'/\EV X m A Zci o f λmk l=>∃a,mk=.str a/\EV X m A (ZH Pd A) o l λn G=>∃b,n=.raw b/\G d=Za'/\V4<=ZK/\(∀c,WJ k a=Zan->g (.raw c) G)/\(WJ k a=none->g (.raw b) (Y7 G d (sD X (k++[(a,b)])))))(he:Z3 (eP A Ng ("setdefault") Np [Nn,Pd] Nx Nz) aR)(q:Z3 (Zr [Nn,Pd] A=(false,Zci)::Zr [Pd] A) aR)(x:Z3 (Zr [Pd] A=(false,ZH Pd A)::ZbE) aR):EV X m A (ZH (.Call (.Attribute Ng ("setdefault") Np) [Nn,Pd] [] Nx) A) o E g:=by
 refine ls (Nz:=Nz) k1 F.slot_dict_setdefault F.type_dict_setdefault (WT λj f hm=>?_) he q (by intro p;rw[x];rfl);walk_at"g";obtain⟨d,k,rfl,hd,h⟩:=hm;refine⟨cv.E3 hd,Zu (WT λmk l y=>?_) q⟩;walk_at"m";obtain⟨a,rfl,h⟩:=y;refine Zu (WT λn G hx=>Y5 λe s c M S r rs=>?_) x;walk_at"a";obtain⟨b,rfl,i,z,h1,h2⟩:=hx;obtain⟨u,_,YA,B,N,_,YB,C,YC⟩:=rs;rw[YA,YB,YC];rw[UZ];rw[C.raw];obtain⟨t,YA⟩:=B.str;rw[YA];refine mj (Tg Wj Sh a t) (qN hs i2 i) (q8 i2 i) z (λc hv=>?_) λhn Q D I=>?_;.exact⟨e,.raw c,G,.refl e,aE ..,Gf _,h1 c hv⟩
 .exact⟨e,.raw b,_,.refl e,aE ..,b0 (a:=sD X (k++[(a,b)])) i I (I2 D),h2 hn⟩
theorem EV.IT(hs:dY X)(h:EV X m A ZaF o E λe c=>∃d k,e=ZaG/\c d=Za'/\EV X m A Zci o c λmk f=>∃a,mk=.str a/\EV X m A (ZH Pd A) o f λi G=>∃b,i=.raw b/\G d=Za'/\g (.raw ((WJ k a).getD b)) G)(he:Z3 (eP A Ng ("get") Np [Nn,Pd] Nx Nz) aR)(j:Z3 (Zr [Nn,Pd] A=(false,Zci)::Zr [Pd] A) aR)(l:Z3 (Zr [Pd] A=(false,ZH Pd A)::ZbE) aR):EV X m A (ZH (.Call (.Attribute Ng ("get") Np) [Nn,Pd] [] Nx) A) o E g:=by
 refine ls (Nz:=Nz) k1 f3 F.type_dict_get (WT λe c hm=>?_) he j (by intro p;rw[l];rfl);walk_at"g";obtain⟨d,k,rfl,hd,h⟩:=hm;refine⟨cv.E3 hd,Zu (WT λmk f x=>?_) j⟩;walk_at"m";obtain⟨a,rfl,h⟩:=x;refine Zu (WT λi G hx=>Y5 λn s C D S r rs=>?_) l;walk_at"a";obtain⟨b,rfl,q,y⟩:=hx;obtain⟨u,_,YA,z,I,_,YB,B,YC⟩:=rs;rw[YA,YB,YC];rw[UZ];rw[B.raw];obtain⟨t,YA⟩:=z.str;rw[YA];have hm:=q8 i2 q;exact call_meetsIn f3 L_ F.entry_dict_get (F.args_dict_get_3 _ _ _) (meets_dict_get_default (W_ Wj Sh) d (Tg Wj Sh a t) (qN hs i2 q) b) ⟨_,hm.mapOf,n,_,G,.refl n,aE ..,Gf _,y⟩
theorem stored_new(h:dy c a)(k:Zv)(d:ZP)(hn:Sd k=none):stored a k d=a++[(k,d)]:=by
 have:(a.any λkv=>decide (kv.1=k))=false:=by induction h with|Yl=>rfl|@Zp e f t c a h i=>
   by_cases b:e=k;.subst b;cases mi hn
   .simp[b,i ((Ma (Zg b)).symm.trans hn)]
 rw[stored,this];rfl
theorem bq.Jm(h:EV X m A (ZH q A) o E λc e=>EV X m A Zc_ o e λf G=>∃d j k,c=ZaG/\f=Za0/\G d=some (iD X j)/\j.lookup k=none/\j.length<=ZK/\Pa o (Y7 G d (iD X (j++[(k,n)])))):bq X m A (.Subscript q i Ym) Zbp o E Pa:=λV PM PN p r=>by
 walk_at"a";refine Z7 (ZF (W1 p λPR PS PT c e a s u x=>Z7 (ZF (x.use u λy PW PX f G z B S C=>Z7 (Yq ?_)))));walk_at"a";obtain⟨d,j,k,rfl,rfl,hd,hn,D,F⟩:=C;rw[s.raw];obtain⟨t,YA⟩:=B.int;rw[YA];obtain⟨I,YA⟩:=r.int;rw[YA];walk_at"a";obtain⟨PY,hm,b⟩:=iD.dict i2 hd;refine Z7 (ZF (wpAny_setItem_pairs (intKind_is Wj Sh k t) hm (λPZ l M=>wpAny_release ?_) (by rw[Zw];exact D)));rw[stored_new b k _ hn]at l;obtain⟨N,Q,T⟩:=I2 l;exact⟨y,o,_,V8 z,b0 (a:=iD X (j++[(k,n)])) hd M ⟨N,Q,_,T,b.snoc k n I⟩,F⟩
theorem EF.Kk(h:EV X m A Zc2 o E λc e=>EV X m A Zc_ o e λf G=>∃d k b,c=ZaG/\f=.str b/\G d=Za'/\(WJ k b).isSome=true/\V4<=ZK/\B .next o (Y7 G d (sD X (without k b)))):EF X m A (TM (.Delete [.Subscript l i T] Ym) A) o E B:=λN s j=>by
 walk_at"a";refine wpAny_Delete (wpAny_deleteEach_cons (wpAny_delete_Subscript (W1 j λQ V PM c e a r n p=>p.use n λq PN PR f G u x S y=>?_)));walk_at"a";obtain⟨d,k,b,rfl,rfl,hd,z,C,D⟩:=y;rw[UZ];obtain⟨t,YA⟩:=x.str;rw[YA];have hm:=q8 i2 hd;refine wpAny_delItem_slot L_ (by rfl) F.slot_dict_delitem ?_;refine call_meetsIn F.slot_dict_delitem L_ F.entry_dict_delitem (F.args_dict_delitem_2 _ _) (meets_dict_delitem_pairs (W_ Wj Sh) d (Tg Wj Sh b t)) ⟨k,hm,C,z,λPS I M=>?_⟩;exact wpAny_deleteEach_nil ⟨q,.next,o,_,V8 u,rfl,b0 (a:=sD X (without k b)) hd M (I2 I),D⟩
theorem EV.FJ(h:EV X m A Zc2 o E λc e=>EV X m A Zc_ o e λf G=>∃d b k x t,c=ZaG/\f=.str k/\G d=some (sD X b)/\WJ b k=some (.str x t)/\g (.str x) G)(hs:Z3 (GC i) aR):EV X m A (ZH (.Subscript l i Ym) A) o E g:=λD s j=>Subscript_ (W1 j λI M u c e a r n p=>p.use n λq N Q f G y z S B=>by
  walk_at"a";obtain⟨d,b,k,x,T,rfl,rfl,hd,hv,C⟩:=B;rw[UZ];obtain⟨t,YA⟩:=z.str;rw[YA];have hm:=q8 i2 hd;refine tail_any L_ F.slot_dict_getitem.lookup ?_ (VJ (VJ hs _) _);exact wpAny_getItem_of (Tg Wj Sh k t) hm.mapOf hv ⟨q,.str x,G,V8 y,bp ..,Gf _,C⟩)
theorem rL:Slot "dict" "__getattribute__" "dict.__getattribute__":=.of (owner:="dict") (n:="__getattribute__") (by rw[W5,X'];kernel_rfl) Z8 Z8 Z8 (by first|exact .inl Z8|exact .inr Z8) (by rw[WS];kernel_rfl)
theorem entry_dict_ga:OJ gy "dict.__getattribute__"=some SX:=r' (id':="object.__getattribute__") (by rw[VE];kernel_rfl) rfl Z8 (by rw[VE];kernel_rfl)
theorem rA(a b:ZP):S4 "dict.__getattribute__" ⟨[a,b],[]⟩:=by unfold S4;kernel_rfl
theorem tJ:Slot "set" "__getattribute__" "set.__getattribute__":=.of (owner:="set") (n:="__getattribute__") (by rw[W5,X'];kernel_rfl) Z8 Z8 Z8 (by first|exact .inl Z8|exact .inr Z8) (by rw[WS];kernel_rfl)
theorem entry_set_ga:OJ gy "set.__getattribute__"=some SX:=r' (id':="object.__getattribute__") (by rw[VE];kernel_rfl) rfl Z8 (by rw[VE];kernel_rfl)
theorem uj(a b:ZP):S4 "set.__getattribute__" ⟨[a,b],[]⟩:=by unfold S4;kernel_rfl
theorem l9:w' (.builtin "set.__contains__")=ZaR:=by show builtinType _=_;rw[builtinType_eq_fast];kernel_rfl
theorem uu:Slot "method_descriptor" "__get__" "method_descriptor.__get__":=.of (owner:="method_descriptor") (n:="__get__") (by rw[W5,X'];kernel_rfl) Z8 Z8 Z8 (by first|exact .inl Z8|exact .inr Z8) (by rw[WS];kernel_rfl)
theorem qQ:OJ gy "method_descriptor.__get__"=some Builtin.«method_descriptor.__get__»:=by first|exact z' Z9|exact entryFor_of_fast Z9
theorem uz(a b c:ZP):S4 "method_descriptor.__get__" ⟨[a,b,c],[]⟩:=by unfold S4;kernel_rfl
theorem dataE{d:Data}{f:ClassData->α}{g:α}{a:α->Prop}(h:∀c,d≠.cls c)(k:a g):a (Builtin.ObjectAttr.ownDict.match_1 (λ_=>α) d f λ_=>g):=by induction d using Data.casesOn with|T' c=>exact Za rfl (h c)|_=>exact k
theorem jQ(s:Slot T "__getattribute__" ga)(e:OJ gy ga=some SX)(j:∀a b,S4 ga ⟨[a,b],[]⟩)(k:Slot T name NX)(ty:w' (.builtin NX)=ZaR)(l:(["__module__","__name__","__qualname__","__doc__","__annotations__"]:J Z).contains name=false)(n:Manifest.toldItsClass.contains NX=false)(nm:Z)(o:(kfb_private%"nameAndClass") (.builtin NX)=(Yh (nm,Vx T):p_ (Z×ZP)))(p:L3 ZaX ZaX=Yh true)(g:ZG a=ZaC)(i:d.cls=ZaX)(q:d.dict=none)(r:∀c,d.data≠.cls c)(h:∀t,u ZaD {G with X_:=Zj {T':=Zam,Xg:=.fields #[.builtin NX,Zaj]},Wf:=t}):ZU YH m (et (.ref a) name true) u x G:=by
 have f:∀t,({G with Wf:=t}).TypeIs Zaj T:=λt=>⟨d,g,i⟩;refine Z7 (wpAny_mkText ?_);walk_at"f";refine ZF ?_;refine Z7 (wd (f _) ?_);rw[s.lookup];refine Z7 (Z5 ?_);refine Z7 (Z5 ?_);refine Z7 (Vd (ZF ?_));walk_at"h";refine Z7 ?_;walk_at"a";rw[s.bind];refine Z5 ?_;refine X7 s (f _) e ?_ (j _ _);walk_at"a";refine Z7 (VH (by first|rfl|kernel_rfl) ?_);refine Z7 (VH (by first|rfl|kernel_rfl) ?_);refine Z7 (wd (f _) ?_);refine Z7 ?_;walk_at"a";unfold Builtin.ObjectAttr.find;rw[k.lookup];refine Z7 (Z5 ?_);unfold Builtin.ObjectAttr.getOf;dsimp only;refine Z7 ?_;walk_at"a";unfold q9;rw[ty];refine Z7 (Z5 ?_);refine Z5 ?_;refine Z7 ?_;walk_at"a";unfold Builtin.ObjectAttr.dataDescriptor?;dsimp only;unfold Builtin.ObjectAttr.takesStores q9;rw[ty];refine Z7 (Z7 (Z7 (Z5 ?_)));refine Z5 ?_;refine Z7 (Z7 (Z5 ?_));refine Z5 (Z5 ?_);refine Z5 ?_;refine Z7 (Z7 (Z7 ?_));refine ab g ?_;walk_at"a";refine dataE (a:=λw=>ZU YH _ w _ _ _) r ?_;refine Z7 (ab g ?_);rw[i,q];refine Z5 (Z5 ?_);unfold Builtin.ObjectAttr.copiedAttributeGuard;rw[l];refine Z7 (Z5 ?_);refine Z7 (Vw (Z5 ?_));refine Z7 (ZF ?_);walk_at"a";refine X7 uu ty qQ ?_ (uz _ _ _);walk_at"a";refine Z7 (VH (a:=(Value.builtin NX,some (L' a),some (Vx T))) (by first|rfl|kernel_rfl) ?_);dsimp only;rw[n];refine Z7 ?_;walk_at"a";refine Z7 ?_;walk_at"a";rw[o];refine Z5 ?_;refine Z7 (Um (f _) p ?_);refine Z5 ?_;refine Z7 (Yn (Z5 ⟨_,rfl,Z5 ⟨_,rfl,?_⟩⟩) (by size_fits));exact Z5 (h _)
theorem Cj:(kfb_private%"nameAndClass") (.builtin "dict.get")=(Yh (WY "get",Vx "dict"):p_ (Z×ZP)):=by kernel_rfl
theorem o8:(kfb_private%"nameAndClass") (.builtin "set.__contains__")=(Yh (WY "__contains__",Vx "set"):p_ (Z×ZP)):=by kernel_rfl
abbrev cW(id:T7)(a:Y9):OB:={T':=Zam,Xg:=.fields #[ZaL,Zaj]}
theorem m6(c:args.any (·.1)=false)(h:ZU M m (evalArgs (.ref u) true args []) (λx s=>Xe u=some (cW NX a)/\ZU M m (VP Zbg (first++x.pos) x.kw) d b s) b G):ZU M m (OP Ym (.ref u) first args []) d b G:=by
 refine Z7 (ZF (ZS h (λx s e=>Z7 (Yq ?_)) λO O x=>x));obtain⟨f,g⟩:=e;rw[c];refine Z7 ?_;walk_at"a";refine Z7 (b4 f ?_);refine Z5 ?_;exact Z7 (ZS g (λr i hr=>Z7 (ZF (g5 (Z5 hr)))) λO O x=>x)
theorem n4(e:OJ gy NX=Zbe)(WC:plainId NX=true)(check:∀(Q:Unit->Zb->Prop)(E:ZP->Zb->Prop),Q () G->ZU YH Uq (I1 NX ⟨.ref a::b,[]⟩) Q E G)(g:MeetsIn Wj Sh (f ⟨.ref a::b,[]⟩) S)(i:ZG u=some (cW NX a))(h:S m (wants c d) G):ZU YH m (VP (.ref u) b) c d G:=by
 refine V_ (Ow ?_);walk_at"a";refine Z7 (b4 i ?_);refine KFB.if_so (by rfl) ?_;refine Z7 (check _ _ ?_);refine Z7 (Z5 (Z5 ?_));refine⟨TP WC _,V0 e ?_⟩;walk_at"c";rw[Around.under_plainId WC];exact g m (wants c d) G h
def ef(X:Cx):YZ:=X.w.params.followText "set-order"
def EI(X:Cx)(t:OI)(n:U):Prop:=t.fits n=true/\t.led=!ef X/\(n≠0->t.plain=false)
def mK(X:Cx)(i:J Z)(o:OB):Prop:=∃d e t,o.ExactSet/\OA=.set d e t/\ElemsOf ZaP d.toList/\YE<L2/\EI X t YE/\i.Nodup/\YE=W6/\(∀k,k∈i↔∃a∈d.toList,(W_ Wj Sh).is k a.2=true)
abbrev sS(X:Cx)(i:J Z):MO:=.own (mK X i)
theorem cn(X:Cx)(k:Z)(a:ZP):(W_ Wj Sh).is k a=true↔∃t,a=.str k t:=by
 constructor;.intro h;exact Value.isStrOf_shape h
 .intro b;obtain⟨t,rfl⟩:=b;exact Tg Wj Sh k t
theorem wK(t:OI)(d:Ua (Zv×ZP))(h:Zv)(x:ZP):(layNew t d h x).2.1.led=t.led:=by
  unfold layNew;refine gC (t.freeSlot h) (λe=>?_) λp e=>?_;.rw[e];rfl
  .rw[e];exact bQ (d:=λz:OI=>z.led=t.led) rfl (λO=>rfl) λO=>rfl
theorem qH(t:OI)(d:Ua (Zv×ZP))(h:Zv)(x:ZP)(ht:t.plain=false):(layNew t d h x).2.1.plain=false:=by
  unfold layNew;refine gC (t.freeSlot h) (λe=>?_) λp e=>?_;.rw[e];rfl
  .rw[e];exact bQ (d:=λz:OI=>z.plain=false) rfl (λO=>ht) λO=>rfl
theorem qJ(t:OI)(d:Ua (Zv×ZP))(w:U):(r_ t d w).2.1.led=t.led/\(t.plain=false->(r_ t d w).2.1.plain=false):=by
  unfold r_;refine gC (t.relaid (UX (·.1)) w) (λe=>?_) λp hr=>?_;.rw[e];exact⟨rfl,λO=>rfl⟩
  . have hl:p.1.led=t.led/\p.1.plain=t.plain:=by
      unfold SetTable.relaid SetTable.laid at hr;refine gC (SetTable.layClean (SetTable.sizeAbove w-1) (UX (·.1))) (λa=>?_) λo a=>?_;.rw[a]at hr;cases hr
      .rw[a]at hr;cases hr;exact⟨rfl,rfl⟩
    rw[hr];dsimp only;refine bQ rfl (λO=>?_) λO=>?_;.exact⟨hl.1,λh=>hl.2.trans h⟩
    .exact⟨rfl,λO=>rfl⟩
abbrev oT(X:Cx):OB:={T':=ZaJ,dt:=none,Xg:=.set #[] 0 (.fresh 0 0 (!ef X))}
theorem z8(h:a ZaD {G with X_:=Zj (oT X)}):U4 YH m (.call (.builtin "set.__new__") ⟨[ZaJ],[]⟩) (wants a b) G:=by
 walk_at"k";refine Ow ?_;walk_at"a";show ZU _ Uq (do z_ "set.__new__" ⟨[ZaJ],[]⟩;OO (.builtin "set.__new__" ⟨[ZaJ],[]⟩)) _ _ G;refine Z7 (VH F.newCall_set_0 (Z5 ⟨TP F.plain_set_new _,V0 F.entry_set_new ?_⟩));walk_at"c";unfold Builtin.«set.__new__»Builtin.Frozenset.newClass;have c:=sub_set_self;obtain⟨hp,g,d,t,os⟩:=G;dsimp only;wp_walk;refine Ul (Z5 ?_);refine Z7 (wpAny_alloc (Z5 ?_));exact Z5 h
theorem yK(h:b ZaD {G with X_:=Zj (oT X)}):ZU YH m (VP (.type "set") []) b d G:=by
  obtain⟨c,tl,l⟩:=F.called_set.mro;have n:=F.called_set.made;have o:=F.called_set.sub;have p:=F.typeCall_set_0;refine V_ (Ow ?_);show ZU _ _ (callAny (.type "set") _) _ _ _;refine Z5 ⟨og _ Z8,V0 F.entry_type_call ?_⟩;walk_at"c";repeat(any_goals(first|assumption|wp_step))
  walk_at"k";refine V9 (z8 (b:=d) (a:=λobj s=>obj=ZaD/\s={G with X_:=Zj (oT X)}) ⟨rfl,rfl⟩) λr s hr=>?_;cases r with|error e=>exact hr|ok f=>cases f with
   |next=>exact hr.elim|brk=>exact hr.elim|cont=>exact hr.elim|fj obj=>
    rw[hr.1,hr.2];have i:(Zj (oT X)).get? ZZ=some (oT X):=ZL _ rfl;have j:Shared.TypeIs {G with X_:=Zj (oT X)} ZaD "set":=⟨_,i,rfl⟩;have q:=F.called_set.init.lookup;have t:=F.called_set.init.bind ZaD;repeat(any_goals(first|assumption|wp_step))
    refine V9 (Wo (R:=wants (λr g=>r=.none/\b ZaD g) d) F.called_set.init.plain F.entry_set_init (check_set_init j ?_)) λk g a=>?_;.unfold Builtin.«set.__init__»noKeywords;wp_walk;exact⟨rfl,h⟩
    .cases k with
      |error e=>exact a|ok f=>cases f with
       |next=>exact Ox|brk=>exact Ox|cont=>exact Ox|fj r=>
        obtain⟨YA,hq⟩:=a;rw[YA];repeat(any_goals(first|assumption|wp_step))
theorem DO:mK X [] (oT X):=⟨#[],0,_,⟨rfl,rfl,rfl⟩,rfl,λe he=>by simp at he,by decide,⟨by rfl,rfl,λh=>Za rfl h⟩,by simp,rfl,λk=>by simp⟩
theorem xj(c:rr a=Zar)(hd:b.data=.set d f i)(e:Ua (Zv×ZP))(t:OI):(NG.update a (Obj.putSet e t)).get? a=some {b with Xg:=.set e (f+1) t}:=by
 have:=YS (Obj.putSet e t) c (by rw[putSet_of e t hd];rfl);rw[putSet_of e t hd]at this;exact this
theorem wk(p:ZG f=some F)(P7:mK X i F)(PN:W6+1<L2)(PR:k∉i)(h:∀b j o,Xp f YK j->j.get? f=Zag->mK X (i++[k]) o->S b {G with X_:=j}):ZU YH m (setAddHashed f (.str k n) ((W_ Wj Sh).hash k)) S PS G:=by
  obtain⟨d,PT,t,PW,hd,z,hb,⟨PX,PY,Ql⟩,P8,hn,A⟩:=P7;have u:=Tg Wj Sh k n;have B:(rd k n).scannable=true:=rfl;refine ZF (Z7 (kV p hd PX ?_));dsimp only;rw[byScan_of B hb z];refine Z7 (Z7 (Vw (Z7 (wpAny_setScan_of u p hd PX z ?_))));walk_at"a";have P9:List.findIdx? (λl=>(W_ Wj Sh).is k l.2) d.toList=none:=by
    rw[S9];intro l he;cases hp:(W_ Wj Sh).is k l.2 with|false=>rfl|true=>exact Za ((A k).mpr ⟨l,he,hp⟩) PR
  rw[P9];have x:=layNew_perm t d ((W_ Wj Sh).hash k) (.str k n);have C:=layNew_fits t d ((W_ Wj Sh).hash k) (.str k n);have D:=wK t d ((W_ Wj Sh).hash k) (.str k n);have Qa:=qH t d ((W_ Wj Sh).hash k) (.str k n);generalize layNew t d ((W_ Wj Sh).hash k) (.str k n)=Qb at x C D Qa⊢;induction Qb using Im with|mk e t1 Qc Qm=>?_;rw[R']at x;have E:IY=W6+1:=by rw[<-Yy,x.length_eq,Z1,Yy,hn];rfl
  have Ub:∀c t2 j o I,List.Perm mx e.toList->EI X t2 J_->o.ExactSet->OA=.set c I t2->Xp f YK j->j.get? f=Zag->S true {G with X_:=j}:=λc t2 j o I hp Qd Qe Qf Qg hg=>by
    have y:=hp.trans x;refine h true j o Qg hg ⟨c,I,t2,Qe,Qf,(z.push u B).perm y,?_,Qd,?_,?_,λN=>?_⟩;.rw[<-Yy,R6,Yy,E];exact PN
    .rw[k3];exact⟨P8,by simp,by intro Qn hx Qo hy;simp at hy;rw[hy];intro T;subst T;exact PR hx⟩
    .rw[<-Yy,R6,Yy,E,Z1];rfl
    . constructor
      . intro ON;walk_at"b";rcases ZM ON with ON|ON;.obtain⟨l,he,q⟩:=(A N).mp ON;exact⟨l,y.mem_iff.mpr (Y2 _ he),q⟩
        .simp at ON;subst ON;exact⟨_,y.mem_iff.mpr (Y1 _ (Xx rfl)),u⟩
      . intro T;obtain⟨l,he,q⟩:=T;clear h B;rcases ZM (y.mem_iff.mp he)with he|he;.exact Y2 _ ((A N).mpr ⟨l,he,q⟩)
        .simp at he;subst he;have:=(W_ Wj Sh).inj _ N k q u;rw[this];simp
  have Qh:∀b{s:Zb}{Q:Unit->Zb->Prop}{PZ:ZP->Zb->Prop},Q () s->ZU YH m (match b with|true=>rule "set.scan.the-table-gave-way"|false=>Yh ()) Q PZ s:=λb s Q PZ hq=>by cases b<;>first|exact Z5 hq|exact Vw hq
  refine Z7 (Qh _ ?_);have tail:∀(g:YZ->p_ Unit),(∀b s Q,Q () s->ZU YH m (g b) Q PS s)->∀t2:OI,t2.fits IY=true->t2.led=!ef X->t2.plain=false->ZU YH m (do
        storeSet f e t2 if(!Qc&&t2.tooFull)=true then do
            g (r_ t2 e (Tf IY)).2.2
            storeSet f (r_ t2 e (Tf IY)).1 (r_ t2 e (Tf IY)).2.1
            Yh (some true)else Yh (some true)) (λr a=>∃b,r=Zar/\S b a) PS G:=λg hg t2 Qi P0 P2=>by
    walk_at"a";have P4:IY<L2:=by rw[E];exact PN
    refine Z7 (ky p hd ?_ (ks P4));walk_at"e";have V:=xj p hd e t2;have P5:=Y_ YK f (Obj.putSet e t2);refine bQ rfl (λO=>?_) λO=>?_
    . have hp:=relayAll_perm t2 e (Tf IY);have P6:=relayAll_fits t2 e (Tf IY);have PM:=qJ t2 e (Tf IY);generalize r_ t2 e (Tf IY)=R at hp P6 PM⊢;induction R using EH with|mk c t3 Qp=>?_;have Qj:J_<L2:=by rw[<-Yy,R6,Yy];exact P4
      refine Z7 (hg _ _ _ (Z7 (ky V rfl ?_ (ks Qj))));exact Z5 ⟨true,rfl,Ub c t3 _ {F with Xg:=.set c (PT+1+1) t3} _ hp ⟨P6,PM.1.trans P0,λO=>PM.2 P2⟩ PW rfl (P5.trans (Y_ _ f _)) (xj V rfl c t3)⟩
    .exact Z5 ⟨true,rfl,Ub e t2 _ {F with Xg:=.set e (PT+1) t2} _ (List.Perm.refl _) ⟨Qi,P0,λO=>P2⟩ PW rfl P5 V⟩
  cases Qk:t1.plain with
  |false=>
    refine Z7 (Z5 ?_);refine ZS (tail _ (λb s Q hq=>by cases b<;>first|exact Z5 hq|exact Vw hq) t1 C (D.trans PY) Qk) (λr a hr=>?_) λO O q=>q;obtain⟨b,rfl,hq⟩:=hr;exact Z5 hq|true=>
    refine Z7 ?_;refine Z5 ?_;refine ZS (tail _ (λb s Q hq=>by cases b<;>first|exact Z5 hq|exact Vw hq) {t1 with WC:=false} (SetTable.fits_plain_off C) (D.trans PY) rfl) (λr a hr=>?_) λO O q=>q;obtain⟨b,rfl,hq⟩:=hr;exact Z5 hq
theorem EV.oT(b:Zck)(d:Xs "set"=Zaa)(hn:VY "set"=none)(hv:U9 "set"=some ZaJ)(h:∀a,E a=none->g Zaj (Y7 E a (sS X []))):EV X m A (ZH (.Call (.Name "set" l) [] [] Ym) A) o E g:=λn p S=>by
 walk_at"a";refine sL ?_ rfl;walk_at"a";refine(p9 (g:=λe i=>e=.raw ZaJ/\i=E) b d hn hv ⟨rfl,rfl⟩ (by rfl)).use S λf s q mv G j r c k=>?_;clear S;obtain⟨rfl,rfl⟩:=k;rw[UZ];refine PyProof.Rows.callWith_type0 (yK ⟨f,.ref Zx,_,j,aE ..,c.new (a:=sS X []) ⟨_,ZL _ rfl,DO⟩,h _ (c.g.fresh (ZV _))⟩)
theorem cv.Ka(hd:E k=Zcb):cv X A o E "set" (.ref k):=λj s l S r=>by
 walk_at"g";cases UZ;obtain⟨a,c,d,m,t,f,_⟩:=Wc _ _ hd;exact⟨⟨a,c,f.1⟩,λb e=>by cases e;exact⟨a,c,f.2.1⟩⟩
theorem EV.setAdd(h:EV X m A ZaF o E λc G=>∃a i,c=Zaj/\G a=Zcb/\EV X m A Zci o G λe b=>∃k,e=.str k/\b a=Zcb/\k∉i/\W6+1<L2/\g .none (Y7 b a (sS X (i++[k]))))(he:Z3 (eP A Ng ("add") Np [Nn] Nx Nz) aR)(f:Za5):EV X m A (ZH (.Call (.Attribute Ng ("add") Np) [Nn] [] Nx) A) o E g:=by
 refine ls (Nz:=Nz) F.plainAttrs_set F.slot_set_add F.type_set_add (WT λc G hm=>?_) he f;obtain⟨a,i,YA,hg,h⟩:=hm;rw[YA];walk_at"l";refine⟨cv.Ka hg,Zu (WT λe b hx=>Y5 λj s Q T S r rs=>?_) f⟩;walk_at"a";obtain⟨k,rfl,l,q,x,y⟩:=hx;obtain⟨V,YA,z⟩:=rs.u;rw[YA];clear rs;rw[UZ];obtain⟨t,YA⟩:=z.str;rw[YA];obtain⟨B,n,p⟩:=Wc _ _ l;have C:s.TypeIs Zaj "set":=by obtain⟨d,PM,t,D,_⟩:=p;exact⟨B,n,D.1⟩
 refine X7 F.slot_set_add C F.entry_set_add ?_ (F.args_set_add_2 _ _);walk_at"a";unfold Builtin.«set.add»Builtin.Frozenset.oneOther;simp only[List.isEmpty_nil,bind_assoc];refine Z7 (Z5 ?_);try dsimp only
 refine Z7 (Z5 ?_);try dsimp only
 refine Z7 (ZF (Z7 ((W_ Wj Sh).pyHash (Tg Wj Sh k t) ?_)));refine wk n p x q λPN PR I M hg' N=>?_;show ZU _ _ (fj U6) _ _ _;exact Z5 ⟨_,rfl,j,.none,_,.refl j,aE ..,b0 (a:=sS X (i++[k])) l M ⟨I,hg',N⟩,y⟩
theorem EV.F6(h:EV X m A Zcn o E λi G=>∃b j,i=ZaQ/\G b=some (iD X j)/\∀u,G u=none->g Zbg (Y7 G u (.own (.=cW "dict.get" b))))(he:Z3 (ZH (.Attribute UY "get" Ym) A=(do
   let f<-ZH UY A
   VT ar let r<-T8 [f] (et f "get" true)
   R9 UY f r
   Yh r)) aW):EV X m A (ZH (.Attribute UY "get" Ym) A) o E g:=λz B n=>sf (W1 n λp s C i G a q S k=>by
  walk_at"a";obtain⟨b,j,rfl,hd,w⟩:=k;rw[q.raw];obtain⟨f,x,D,⟨d,I,l,y,_⟩,_⟩:=Wc _ _ hd;refine jQ (T:="dict") (NX:="dict.get") rL entry_dict_ga rA f3 F.type_dict_get (by rfl) Z8 "get" Cj (by rw[WS];kernel_rfl) x l.1 l.2.1 (λc e=>by rw[y]at e;cases e) λt=>?_;exact⟨p,.ref Zx,_,a,aE ..,(S.new (a:=.own (.=cW "dict.get" b)) ⟨_,ZL _ rfl,rfl⟩).toks t,w _ (Us (ZV _))⟩) he
theorem EV.FO(h:EV X m A Zcn o E λj G=>∃b i,j=ZaQ/\G b=Zcb/\∀u,G u=none->g Zbg (Y7 G u (.own (.=cW "set.__contains__" b))))(he:Z3 (ZH (.Attribute UY "__contains__" Ym) A=(do
   let f<-ZH UY A
   VT ar let r<-T8 [f] (et f "__contains__" true)
   R9 UY f r
   Yh r)) aW):EV X m A (ZH (.Attribute UY "__contains__" Ym) A) o E g:=λz B n=>sf (W1 n λp s C j G a q S k=>by
  walk_at"a";obtain⟨b,i,rfl,hd,w⟩:=k;rw[q.raw];obtain⟨f,x,d,D,I,l,y,_⟩:=Wc _ _ hd;refine jQ (T:="set") (NX:="set.__contains__") tJ entry_set_ga uj F.slot_set_contains l9 (by rfl) Z8 "__contains__" o8 (by rw[WS];kernel_rfl) x l.1 l.2.1 (λc e=>by rw[y]at e;cases e) λt=>?_;exact⟨p,.ref Zx,_,a,aE ..,(S.new (a:=.own (.=cW "set.__contains__" b)) ⟨_,ZL _ rfl,rfl⟩).toks t,w _ (Us (ZV _))⟩) he
theorem EV.xU(t:Yb f=some Zbg)(h:EA X m A (l::d) o E λe c=>c u=some (.own (.=cW NX a))/\∀y G b,ak X y A o c G->ao y e b->ZG u=some (cW NX a)->ZU YH m (VP (.ref u) b) Zae bz G)(hn:Z3 ((f==("__classdict__"))=false) aD)(hd:Z3 ((f==("__debug__"))=false) aD)(w:ZcX)(hp:Z3 (nO A d) aI):EV X m A (ZH (.Call (.Name f T) (l::d) [] Ym) A) o E g:=λy G S=>by
 walk_at"a";refine sL ?_ rfl;refine(Z4 (g:=λx i=>x=Zbg/\i=E) t ⟨rfl,rfl⟩ hn hd).use S λN Q V mv c z r B C=>?_;clear S;obtain⟨rfl,rfl⟩:=C;rw[UZ];have j:=(h Ym).use B (b:=λb s=>Xe u=some (cW NX a)/\ZU YH m (VP (.ref u) b) Zae bz s) λD s b e PM F I n k=>by
  walk_at"g";obtain⟨PN,p,rfl⟩:=n.g.objs _ _ k.1;exact⟨p,ZS (k.2 D s b n I p) (λO O q=>mc (z.trans F)) λO O q=>q⟩
 rw[w]at j⊢;refine m6 (NX:=NX) (a:=a) (by show(false||(UE Ym (Zr d A)).any (·.1))=false;rw[hp Ym];rfl) ?_;exact OK j
theorem pL{id:T7}(d:ZG a=Zar)(f:b.cls=.type ty)(g:∀c,b.data≠.cls c)(i:Vs id=some s)(j:OH id=some .method)(k:L3 (.type ty) (.type "module")=Yh false)(l:R5 id=false)(n:r5 id {s with full:=s!"{Bind.lastOf ty}.{Bind.lastOf id}"} ⟨.ref a::XG,[]⟩=Yh ())(h:q () G):ZU YH m (I1 id ⟨.ref a::XG,[]⟩) q r G:=by
 have e:b3 Zaj ty:=⟨b,d,f⟩;unfold I1;rw[i,j];dsimp only;refine Z7 (Um e k ?_);rw[l];refine Z7 (Z7 (ab d ?_));walk_at"a";refine Z5 ?_;refine dataE (a:=λo=>(_:YZ->Zb->Prop) o G) g ?_;refine Z7 (wd e ?_);dsimp only;rw[n];exact Z5 h
theorem mh:L3 Zaf (.type "module")=Yh false:=by rw[WS];kernel_rfl
theorem mI:L3 ZaJ (.type "module")=Yh false:=by rw[WS];kernel_rfl
theorem AP:OH "dict.get"=some .method:=by decide+kernel
theorem yn:OH "set.__contains__"=some .method:=by decide+kernel
def zL(id:T7):Manifest.Signature:=(Vs id).getD ⟨.hand,"","",.self,[]⟩
theorem CY:Vs "dict.get"=some (zL "dict.get"):=by kernel_rfl
theorem AO:Vs "set.__contains__"=some (zL "set.__contains__"):=by kernel_rfl
theorem yJ(d:Y9)(i j:Zv)(t u:nj):r5 "dict.get" {zL "dict.get"with full:=s!"{Bind.lastOf "dt"}.{Bind.lastOf "dict.get"}"} ⟨[ZaG,.int i t,.int j u],[]⟩=Yh ():=by kernel_rfl
theorem wH(d:Y9)(x:Z)(t:nj):r5 "set.__contains__" {zL "set.__contains__"with full:=s!"{Bind.lastOf "set"}.{Bind.lastOf "set.__contains__"}"} ⟨[ZaG,.str x t],[]⟩=Yh ():=by kernel_rfl
theorem me:MeetsIn Wj Sh (SF ⟨[Zaj,.str x b],[]⟩) (λO R G=>∃o i,ZG a=Zag/\mK X i o/\R (.ok (.ret (.bool (decide (x∈i))))) {G with Wf:=Wu+1}):=.of_wp λA R G q=>by
  obtain⟨o,i,c,f,h⟩:=q;walk_at"c";obtain⟨d,e,tt,g,hd,j,hb,⟨l,_,_⟩,n,hn,m⟩:=f;unfold SF Builtin.Frozenset.oneOther;simp only[List.isEmpty_nil,bind_assoc];refine Z7 (Z5 ?_);try dsimp only
  refine Z7 (Z5 ?_);try dsimp only
  refine Z7 (wpAny_tryCatch ?_);walk_at"c";refine ZF ?_;refine Z7 ((W_ Wj Sh).pyHash (Tg Wj Sh x b) ?_);refine Z7 (wpAny_setFind_of (s:={G with Wf:=Wu+1}) (Tg Wj Sh x b) rfl (⟨o,d,e,tt,c,g,hd,j,λk=>by rw[XY];exact m k,hb,l,rfl⟩:G.heap.SetOf ZaP a (λk=>decide (k∈i)) YE) λr hr=>?_);refine Z5 ?_;show ZU _ _ (fj (Value.bool r.isSome)) _ _ _;rw[hr];exact Z5 ⟨_,rfl,h⟩
theorem AH:R5 "dict.get"=false:=by decide+kernel
theorem yA:R5 "set.__contains__"=false:=by decide+kernel
theorem EV.kx(D:Yb f=some (.ref l))(h:EV X m A ZbX o E λq G=>∃x i,q=.str x/\G l=some (.own (.=ZcG))/\G a=Zcb/\g (.bool (decide (x∈i))) G)(hn:Z3 ((f=="__classdict__")=false) aD)(hd:Z3 ((f=="__debug__")=false) aD)(w:Z3 (Zr [d] A=(false,ZbX)::ZbE) aR):EV X m A (ZH (.Call (.Name f PW) [d] [] Ym) A) o E g:=by
 have y2:EA X m A [d] o E λI G=>G l=some (.own (.=ZcG))/\∀b s j,ak X b A o G s->ao b I j->Xe l=some ZcG->ZU YH m (VP (.ref l) j) (PV X A b o g) bz s:=by
  walk_at"m";refine Zu (WT λq G hm=>Y5 ?_) w;obtain⟨x,i,YA,N,T,k⟩:=hm;rw[YA];refine⟨N,λb s j S r V=>?_⟩;walk_at"a";obtain⟨PX,YA,PM⟩:=r.u;rw[YA];clear r;obtain⟨t,YA⟩:=PM.str;rw[YA];obtain⟨n,y,p⟩:=Wc _ _ T;have PN:n.cls=ZaJ:=by obtain⟨_,_,_,PR,_⟩:=p;exact PR.1
  have PS:∀c,n.data≠.cls c:=λc d=>by obtain⟨_,_,_,_,hd,_⟩:=p;rw[hd]at d;cases d
  have Ub:PV X A b o g (.bool (decide (x∈i))) {s with Wf:=Ur+1}:=⟨b,.bool (decide (x∈i)),G,.refl b,aE ..,Gf _,k⟩;have z:=me (X:=X) (a:=a) (x:=x) (b:=t);have PT:(λ(_:X5)(R:TK->Zb->Prop)(s:Zb)=>∃B i,Xe a=some B/\mK X i B/\R (.ok (.ret (.bool (decide (x∈i))))) {s with Wf:=Ur+1}) m (wants (PV X A b o g) bz) s:=⟨n,i,y,p,Ub⟩;have e:=entry_set_contains;generalize SF=PY at z e;exact n4 e (F.slot_set_contains.plain) (λQ C hq=>pL (id:="set.__contains__") (s:=zL "set.__contains__") (XG:=[.str x t]) y PN PS AO yn mI yA (wH a x t) hq:∀(Q:Unit->Zb->Prop)(C:ZP->Zb->Prop),Q () s->ZU YH Uq (I1 "set.__contains__" ⟨.ref a::[.str x t],[]⟩) Q C s) z V PT
 exact EV.xU D y2 hn hd w (λO=>rfl:∀Ym:ix,(UE Ym ZbE).any (·.1)=false)
theorem EV.A0(hs:dY X)(I:Yb f=some Zbg)(h:EV X m A Zb6 o E λq r=>∃i,q=Zbs/\EV X m A Zc2 o r λx G=>∃z j,x=.int z/\G u=some (.own (.=cW "dict.get" n))/\G n=some (iD X j)/\g (.int ((j.lookup i).getD z)) G)(hn:Z3 ((f==("__classdict__"))=false) aD)(hd:Z3 ((f==("__debug__"))=false) aD)(y:Z3 (Zr [c,l] A=(false,Zb6)::Zr [l] A) aR)(B:Z3 (Zr [l] A=(false,Zc2)::ZbE) aR):EV X m A (ZH (.Call (.Name f T) [c,l] [] Ym) A) o E g:=by
  refine EV.xU (NX:="dict.get") (a:=n) I (Zu (WT λq r hm=>?_) y) hn hd y (by intro T;rw[B];rfl);walk_at"m";obtain⟨i,rfl,h⟩:=hm;refine Zu (WT λx G N=>Y5 ?_) B;obtain⟨z,j,YA,V,C,k⟩:=N;rw[YA];refine⟨V,λe s P0 S PM PN=>?_⟩;walk_at"a";obtain⟨PR,_,YA,PS,P2,_,YB,PT,YC⟩:=PM;rw[YA,YB,YC];obtain⟨t,YA⟩:=PS.int;rw[YA];obtain⟨p,YA⟩:=PT.int;rw[YA];obtain⟨P4,hm,PW⟩:=iD.dict i2 C;obtain⟨P5,d,P6,PX,PY,PZ,_⟩:=id hm;refine n4 (NX:="dict.get") (f:=Builtin.«dict.get») F.entry_dict_get F.slot_dict_get.plain (λQ D hq=>pL (ty:="dict") (id:="dict.get") (s:=zL "dict.get") (XG:=[.int i t,.int z p]) PX PY.1 (λP7 c=>by rw[PZ]at c;cases c) CY AP mh AH (yJ n i z t p) hq:∀(Q:Unit->Zb->Prop)(D:ZP->Zb->Prop),Q () s->ZU YH Uq (I1 "dict.get" ⟨.ref n::[.int i t,.int z p],[]⟩) Q D s) (meets_dict_get_default (er Wj Sh) n (intKind_is Wj Sh i t) (qN hs i2 C) (.int z p)) PN ⟨_,hm.mapOf,?_⟩;walk_at"R";refine(PW.at i).elim (λYA=>?_) λYA=>?_;.obtain⟨a,b⟩:=YA;rw[b];rw[a]at k;exact⟨e,_,G,.refl e,a0 ..,Gf _,k⟩
  .obtain⟨PR,P8,a,b⟩:=YA;rw[b];rw[a]at k;exact⟨e,_,G,.refl e,a0 ..,Gf _,k⟩
theorem qZ(b:ZG a=some (X8 (.type "list") c n))(e:(k=0/\d=0)\/(k=-1/\d=J_-1))(hj:d<J_)(h:i () {G with X_:=UC a (Ye (·.setIfInBounds d f))}):ZU YH m (setItem (.ref a) (.int k l) f) i s G:=by
  have hl:=aq b;have g:IX k=true:=VB (λq=>by rw[q.1];decide) λq=>by rw[q.1];decide
  unfold setItem;try with_reducible refine ZF ?_
  refine Z7 (wpAny_sequenceKey hl.typeIs (by rfl) ?_);refine Z7 (XI hl.typeIs slot_list_setitem (X7 slot_list_setitem hl.typeIs entry_list_setitem ?_ (args_list_setitem _ _ _)));walk_at"a";show ZU _ _ (Builtin.List.listSubscript? (.int k l)>>=_) _ _ G;refine Z7 (wpAny_listSubscript_int g ?_);refine VB (λq=>?_) λq=>?_;.rw[q.1];rw[q.2]at hj;rw[q.2]at h;have hx:=XD hj;show ZU _ _ ((seqItemAt a 0>>=λr=>Yh (r.map (0,.)))>>=_) _ _ G;walk_at"a";refine Z7 (Z7 (wpAny_seqItemAt b rfl (Z5 ?_)));rw[hx];show ZU _ _ (setSeqItemAt a 0 f>>=_) _ _ G;refine Z7 (wpAny_setSeqItemAt b rfl ?_);walk_at"f";exact Z5 ⟨.none,rfl,Z5 h⟩
  . rw[q.1];rw[q.2]at hj;rw[q.2]at h;have hx:=XD hj;have j:U' (-1) J_=some (J_-1):=by
      simp[U'];exact aV 0x1feee2e0d2130e1ddd4c309870ecc261c39ba0c5c1 [_] hj
    refine Z7 (Z7 (Z7 (VG b rfl (Z5 (Z5 ?_)))));rw[j,Option.bind_some,hx];show ZU _ _ (setSeqItemAt a (J_-1) f>>=_) _ _ G;refine Z7 (wpAny_setSeqItemAt b rfl ?_);walk_at"f";exact Z5 ⟨.none,rfl,Z5 h⟩
theorem bq.xf(h:EV X m A (ZH x A) o E λd e=>EV X m A Zc_ o e λf G=>∃a b k j,d=Zaj/\f=Za0/\G a=Zbz/\((k=0/\j=0)\/(k=-1/\j=Zw-1))/\j<Zw/\Pa o (Y7 G a (.list (b.set j mv)))):bq X m A (.Subscript x i Ym) mv o E Pa:=λN Q l w r=>by
 walk_at"a";refine Z7 (ZF (W1 w λT V PM d e p y z B=>Z7 (ZF (B.use z λC s PN f G q D S F=>Z7 (Yq ?_)))));walk_at"a";obtain⟨a,b,k,j,rfl,rfl,hg,I,hj,M⟩:=F;rw[y.raw];obtain⟨PR,YA⟩:=D.int;rw[YA];obtain⟨c,n,t,rl⟩:=Wc _ _ hg;have u:=WZ;refine Z7 (ZF (qZ (d:=j) t (by rw[u];exact I) (by rw[u];exact hj) (wpAny_release ?_)));refine⟨C,o,_,ez q,b0 (n:=Ur) (a:=.list (b.set j mv)) hg (Y_ ..) ?_,M⟩;refine⟨c.setIfInBounds j l,if(c.setIfInBounds j l).size==J_ then n else n+1,YS (o:=X8 Zad c n) _ t rfl,?_⟩;rw[Array.toList_setIfInBounds];exact rl.set j (Tp (ez q))
theorem EF.CK(h:EV X m A Zcg o E λmv G=>bq X m A Zcu mv o G λNK w=>B .next NK w)(hs:Z3 (N0 b (some (.Subscript c i d)) K3 A=Yh false) aR):EF X m A (TM (.Assign [Zcu] b Ym) A) o E B:=λy z S=>by
 walk_at"a";have e:TM (.Assign [Zcu] b Ym) A=(do
   VT Ym if<-N0 b (some (.Subscript c i d)) K3 A then evalThenUse b A (w2 (.Subscript c i d) A)return .next
   let f<-ZH b A
   w2 Zcu A f
   Yh .next):=rfl;rw[e,hs];refine Z7 (Yq (Z7 (Z5 ?_)));refine Z7 (W1 S λg s f mv G a r j k=>Z7 (ZS (k g s f j r) (λO C q=>?_) λO O q=>q));obtain⟨n,l,p,t,u,x⟩:=q;exact Z5 ⟨n,.next,l,p,V8 t,rfl,u,x⟩
theorem BR.enum(hh:XZ=none)(F:y la (X8 (.type "list") l n))(rl:ao y i l.toList)(hp:∀a o,y a o->ZG a=Zag)(he:IsEnum YK c it 0 .none)(z:G1 it la 0)(I:c≠it)(M:la≠c)(N:la≠it):BR X m iA (.Tuple elts PM tp) [c,it] y G Zb1 W6 (λk=>.tup [Za0,i.getD k .none]):=λP6 P7 k=>by
  have S:=WZ;have e:=WalksT.enumerate (prog:=Wj) (w:=Sh) (A:=m) hh c it la I M N l;have hl:=aq (hp _ _ F);refine e.self 0 G _ _ ⟨⟨_,he⟩,z,hl⟩ ?_;refine k Zb1 G [c,it] (λk r h=>(∃old,IsEnum h c it k old)/\h.IsListIter it la k/\r la (X8 (.type "list") l n)/\ao r i l.toList) ⟨?_,v8,?_,?_,?_,?_⟩ (Mv.refl _ _) ⟨⟨_,he⟩,z,F,rl⟩ (λb hb=>.inr hb);.intro k x P8 h A d;obtain⟨⟨old,h1⟩,⟨o,B,PN⟩,p,f⟩:=d;intro le O O hw;exact⟨⟨old,hw _ (.head _) _ h1⟩,⟨o,hw _ (.tail _ (.head _)) o B,PN⟩,le.q _ _ _ _ p,f.ik le⟩
  . intro k x h d;obtain⟨⟨old,h1⟩,⟨o,B,PR,hd⟩,_⟩:=d;intro b hb;walk_at"b";simp only[XW,YL,Vt]at hb;clear he z I M N e;rcases hb with rfl|rfl;.exact⟨_,h1,kS (by simp) λO O c=>by cases c⟩
    .exact⟨o,B,kS (by rw[PR];simp) λO O c=>by rw[c]at hd;cases hd⟩
  . intro k x s Q E C d;obtain⟨h1,h2,p,f⟩:=d;intro g hw j;refine e.item k s _ _ (by exact O6 C S) ⟨h1,h2,(aq (g _ _ p))⟩ λT P9 A t hv Qa PS mid hx=>j (.ref T) _ λQb=>?_;walk_at"e";obtain⟨PT,u,V,rfl⟩:=hv;obtain⟨PW,D,PX⟩:=f.get k (a:=i[k]) (Z6 C);have PY:u=PW:=by simp at V D;rw[V]at D;exact ZW D
    subst PY;obtain⟨_,_,_,PZ,P0⟩:=id mid;refine e.go elts PM tp k T {s with X_:=A,Wf:=t} _ _ mid λP2 st ra=>?_;refine⟨⟨P2,t,rfl,λb o hb c=>ra b o hb (hx b o hb c)⟩,⟨st.1,st.2.1,p,f⟩,.inr ⟨T,#[.int k PT,u],[Za0,i.getD k .none],rfl,rfl,?_,?_⟩⟩;.obtain⟨ot,P4,P5⟩:=PS;walk_at"am";exact⟨ot,ra T ot (by simp[PZ,P0]) P4,P5⟩
    .rw[Z0,Z6 C];exact .cons (a0 ..) (.one PX)
  .intro x s Q E d;obtain⟨h1,h2,p,f⟩:=d;intro g hw j;exact e.done s _ _ (by rw[S];exact⟨h1,h2,aq (g _ _ p)⟩) λA t hx=>j _ (Bt hx)
  .intro k x s Q E d;obtain⟨h1,h2,p,f⟩:=d;intro g j;exact e.self k s _ _ ⟨h1,h2,aq (g _ _ p)⟩ j
theorem gh.enum(hh:XZ=none)(b:Zck)(x:Xs "enumerate"=Zaa)(hn:VY "enumerate"=none)(hv:U9 "enumerate"=Za9)(h:EV X m A (ZH f A) o E λe w=>∃d,e=.lst d/\N7 Yc (λk=>.tup [Za0,o2 k .none]) w)(i:Z3 (Zr [f] A=(false,ZH f A)::ZbE) aR)(hp:Z3 (∀Ym,(UE Ym ZbE).any (·.1)=false) aI):gh X m iA A (.Tuple elts F tp) (ZH (.Call (.Name "enumerate" M) [f] [] Ym) A) o E N7:=λc s S=>by
 refine kY (Pf:=λc=>vk X m iA A (.Tuple elts F tp) c o N7) b (λc r y s k=>vk.le k) x hn hv (.inr ⟨_,rfl⟩) (Zu (WT λe w z=>Su z λd Yw=>Uc Yw λhm k=>Y5 ?_) i) S (by rfl) i hp;rw[hm];intro c s G S j;walk_at"a";obtain⟨y,YA,q⟩:=ao.u j;rw[YA];clear j;obtain⟨a,I,n,YA,p,rl⟩:=q.seq;rw[YA];have l:a<Zx:=XR (Yg _ _ p);refine call_enumerate_list (aq (Yg _ _ p)) λB he C N D=>?_;have t:ak X c A o w {s with X_:=B}:=Q1 D;have TQ:g7 X c w A [Zx+1,Zx]:=e4 S λb hb=>by
  simp only[XW,YL,Vt]at hb;rcases hb with rfl|rfl<;>(first|exact FA|exact cY 0x6421 [_])
 exact⟨c,w,_,_,_,.refl c,t,TQ,BR.enum hh p rl t.g.aG he C (Nat.succ_ne_self _) (Y' (Nat.lt_succ_of_lt l)) (Y' l),k⟩
structure Fo(X:Cx)(Zn:S2)(d it:Y9)(n e k:U)(a:aT)(l:YV)(G:GH)(s:Zb):Prop where
 S:ak X a Zn l G s
 i:∃ok o,IsItemIter Ts it d k n e ok o
 TQ:OffI X a G Zn it
theorem GY.k:∀a o E,GY b a o E->Ex b B a o E|.next,_,_,h=>h|.cont,_,_,h=>h|.brk,_,_,h=>Xq|.ret _,_,_,h=>Xq
inductive Jo(X:Cx)(a:YV)(d:Y9)(k:J (Z×ZP))(I:OB->U->YV->GH->Prop)(m:MV)(G:GH):Prop where|mk(e:m=ZaG)(g:G d=Za')(h:∀ob,∃l,I ob 0 l (Y7 G d (.own (.=ob)))/\N' l a)
variable{N2 Pq:ix}{NR:J (Z×ZP)}
theorem EF.A6(hs:dY X)(hh:XZ=none)(PS:U->YV->YV)(I:OB->U->YV->GH->Prop)(h:EV X m A ZaF o E (Jo X o z NR I))(tg:∀a x N,NR[a]?=some (x,N)->TG X m iA A (.Tuple NP j Pq) (.tup [.str x,.raw N]) (PS a))(Ux:∀ob a o E,a<q7->I ob a o E->EF X m A ZcQ (PS a o) E (GY (I ob (a+1))))(Q:∀ob a o E,I ob a o E->E z=some (.own (.=ob)))(Ub:∀ob o E,I ob q7 o E->B .next o (Y7 E z (sD X NR)))(he:Z3 (eP A Ng ("items") Np [] Nx Nz) aR)(P0:Z3 (∀x,XM ZcW A x=Yh x) aI):EF X m A (TM (.For (.Tuple NP j Pq) ZcW NZ [] N2) A) o E B:=λq s P2=>by
  walk_at"a";refine q_ ?_ P0;walk_at"a";refine OM (pl:=Nz) (W1 P2 λQo C N Qp Qq P4 P5 T P6=>?_) he;walk_at"a";obtain⟨rfl,hd,P7⟩:=P6;rw[P5.raw];have hm:=q8 T.g hd;refine ll L_ k1 F.slot_dict_items F.type_dict_items (jJ hm) ?_;refine callWith_method0 ?_;refine call_meetsIn F.slot_dict_items L_ F.entry_dict_items (F.args_dict_items_1 _) (meets_dict_items (W_ Wj Sh) z (qN hs T.g hd)) ⟨⟨NR,hm⟩,?_⟩;walk_at"an";have D:=T.push {T':=Zct,Xg:=.fields #[Zay]};obtain⟨ob,d,e,PT,r⟩:=q8 D.g hd;refine wpAny_pyIter_items (d:=z) (kvs:=NR) (ep:=e) ⟨_,ZL _ rfl,rfl,rfl⟩ (Vo ob d ⟨PT,r⟩) ?_;walk_at"w";have P8:=D.push {T':=.type "dict_itemiterator",Xg:=.fields #[.none,.bool false,Zay,.int 0 0,.int q7 0,.int e 0,.none,.none]};have P9:=P8.set (a:=.own (.=ob)) (n:=C.toks) hd (R4 z _) ⟨ob,(ZA {T':=.type "dict_itemiterator",Xg:=.fields #[.none,.bool false,Zay,.int 0 0,.int q7 0,.int e 0,.none,.none]} PT),rfl⟩;obtain⟨Qr,Qa,Qb⟩:=P7 ob;have y:=D.Bq (ZV (C.heap.push {T':=Zct,Xg:=.fields #[Zay]}).objs.size);have PW:z≠(C.heap.push {T':=Zct,Xg:=.fields #[Zay]}).objs.size:=Y' ((D.g.objs _ _ hd).lt);refine tn (I ob) (n:=q7) (a:=q) (Fo X A z (C.heap.push {T':=Zct,Xg:=.fields #[Zay]}).objs.size q7 e) (λa q o E s PX V h t R Qc f=>?_) (λq o E s V h t R Qc f=>?_) P4 ⟨P9.forget Qb,(Vo .none .none (ZL _ rfl)),(ag (Zg PW)).trans y.g,y.p,y.b,y.l,y.c⟩ Qa;.obtain⟨u,G,rfl⟩:=v' _ _ (Q _ _ _ _ t);obtain⟨ok,Qd,M⟩:=h.i;have hx:NR[a]?=some (NR[a].1,NR[a].2):=Z6 PX;refine wpAny_pyNext_items_item M (Vo u d ⟨G,r⟩) hx λy2 PM Qe Qf Qg Qt Qh=>f _ _ λQu=>?_;walk_at"e";obtain⟨Qi,rfl⟩:=(cn X _ y2).mp Qe;refine wpAny_letOwnedTupleGo_items (s:={s with X_:=PM}) Qf λQj Qk PY=>?_;walk_at"e";have PN:ak X q A o E {s with X_:=Qj}:=e_ (n:=Ur) x3 e8 x2 x1 xb λPZ Ng hb PR=>PY.extBut PZ Ng hb (Qh PZ Ng hb PR);exact ZS (tg a _ _ hx _ o E _ _ (PN.pin Qk x3 x2 x1 xb) (.inr (Vo _ (#[.str NR[a].1 Qi,NR[a].2]) ⟨_,rfl,rfl,⟨_,PY.extBut _ _ (Zg (Y' (XR M))) Qg,rfl,_,rfl⟩,.cons (bp ..) (.one (aE ..))⟩))) (λO Qv Ql=>nL V h.off (kS (by simp) λO O PR=>by cases PR) (PN:=()) ⟨_,_,E,.refl _,Ql,(Ux u a o E PX t).mono GY.k⟩ λQw Qx Qy Qz QA O O O q4 q5 Qm=>⟨q4,(Vo _ _ q5),Qm⟩) λO O Qn=>Qn.elim
  .obtain⟨u,G,rfl⟩:=v' _ _ (Q _ _ _ _ t);obtain⟨ok,Qd,M⟩:=h.i;refine wpAny_pyNext_items_end hh M (Vo u d ⟨G,r⟩) (U1 (ZV _)) λPM he=>f _ ?_;have PN:ak X q A o E {s with X_:=PM}:=e_ (n:=Ur) x3 e8 x2 x1 xb he;exact⟨q,.next,o,_,V,rfl,PN.set (a:=sD X NR) (n:=Ur) (Q _ _ _ _ t) (R4 z _) ⟨u,he _ _ PW G,d,e,r⟩,Ub u o E t⟩
structure bM(X:Cx)(K:Frag)(C p fn:Y9):Prop where
 Jc:K.In X.B
 kT:K.lookup tx=none
 obj:∃o a cd s,K.lookup C=some ⟨o,a,.cls cd,s⟩/\cd.abstract=false/\cd.hasDel=false/\cd.mro=[Zbr,Zac,Zai]/\cd.bases=[Zac]/\(s[4]?).join=some .none
 VP:specialIn K Zbr "__call__"=some (some (.builtin "type.__call__"))
 typ:instIn K Zbr Zat=some true
 init:findIn K Zbr "__init__"=some (some (.builtin "object.__init__"))
 reads:readsIn K C Zat=true
 new:findCls K Zbr Zat "__new__"=some (.get (.builtin "staticmethod.__get__") (.ref p) .none (.ref C))
 sm:recIn K p "staticmethod"=some [.ref fn]
 sb:keepIn K Zbr=true
 WB:findIn K Zbr "__iter__"=some (some (.builtin "tuple.__iter__"))
 len:findIn K Zbr "__len__"=some (some (.builtin "tuple.__len__"))
 lt:findIn K Zbr "__lt__"=some (some (.builtin "tuple.__lt__"))
variable{NQ:Frag}
theorem bM.at_(t:Zap)(S:Zah):pd YK:=λa o e=>Tr a o (t.Jc a o e) (by intro b;subst b;exact ax (t.kT.symm.trans e))
theorem bM.made(t:Zap)(k:pd h):V3 YH h (r4 (.ref z)) none:=by
 obtain⟨o,f,cd,i,a,e1,e2,e,j,b⟩:=t.obj;have a:=k _ _ a;intro A l E s c q;have a:=c _ _ a;obtain⟨hh,g,d,m,os⟩:=s;dsimp only at a;have hm:V3 YH hh (mroOf (.ref z)) [Zay,Zac,Zai]:=e▸((IV (part:=none) a).andThen .now).andThen .now;have hs:V3 YH hh (slotAt z 4) (some .none):=(IV a).andThen (by rw[b];exact .now);unfold r4;repeat lk
 exact q
theorem AK(x:ZP)(a:Zc4):S4 "object.__init__" ⟨x::a,[]⟩:=by unfold S4;kernel_rfl
theorem tU(t:Zap)(k:pd YK)(h:U4 YH (m.under (.builtin "type.__call__" ⟨.ref z::a,[]⟩)) (.call ZcA ⟨.ref z::a,[]⟩) (λr Nc=>∃x o,r=.ok (.ret (.ref x))/\Nc.heap.get? x=Zag/\o.cls=Zay/\pd Nc.heap/\R (.ok (.ret (.ref x))) Nc) {G with Wf:=Wu+1}):U4 YH m (.call Zay ⟨a,[]⟩) R G:=by
 have made:=t.made k;obtain⟨B,C,cd,s,c,e1,e2,e,D,E⟩:=t.obj;have c:=k _ _ c;have VP:=looks_specialIn (M:=YH) k t.call;have typ:=looks_instIn (M:=YH) k t.typ;obtain⟨hh,g,p,u,os⟩:=G;dsimp only at c k VP typ made;refine Ow ?_;show ZU _ _ (callAny (.ref z) _) _ _ _;refine nd_load c ?_;show ZU _ _ (callAny.viaDunder (.ref z) _) _ _ _;refine Z7 (call.at ?_);refine Z7 (Z5 (Z7 (Z5 ?_)));refine Z5 (a:=Fin.again (.call (.builtin "type.__call__") ⟨.ref z::a,[]⟩)) (And.intro rfl ?_);refine codeAny_call_builtin_at (og _ Z8) entry_typeCall (@od YH _ _ _ _ _ _ _ _ _ _ tc_kind tc_split typ (tc_args _ _ _) ?_);have hm:V3 YH hh (mroOf (.ref z)) [Zay,Zac,Zai]:=e▸((IV (part:=none) c).andThen .now).andThen .now;iterate 10 lk
 show ZU _ _ (et (.ref z) ("__new__")) _ _ _;refine cls_bind k t.reads t.new (V_ (sm_get (s:=⟨hh,g,p,u+1,os⟩) k t.sm (handed_on rfl ?_)));refine Z7 (ZF (V_ (V9 h λr Nc q=>?_)));clear h;obtain⟨x,o,YA,i,w,f,q⟩:=q;rw[YA];have made:=t.made f;obtain⟨b,g',d,j,l⟩:=Nc;dsimp only at i f made;have t1:V3 YH b (w' (.ref x)) Zay:=(IV i).andThen (by rw[w];exact .now);have s1:V3 YH b (L3 (.ref z) (.ref z)) true:=gx f (by unfold mroIn clsIn;rw[‹NQ.lookup z=some _›];simp[e]);have s2:V3 YH b (L3 (.ref z) (.type "object")) true:=gx f (by unfold mroIn clsIn;rw[‹NQ.lookup z=some _›];simp[e]);have i1:=kp (M:=YH) f t.init;have t2:V3 YH b (isInstance (.ref x) (.type "object")) true:=t1.andThen s2;have b1:V3 YH b (bindSpecial (.builtin "object.__init__") (.ref x)) (.builtin "object.__init__",[ZaK]):=SW (oi_bind _);have y:∀A,U4 YH A (.call (.builtin "object.__init__") ⟨.ref x::a,[]⟩) (λr G=>r=.ok (.ret .none)/\G=⟨b,g',d,j,l⟩) ⟨b,g',d,j,l⟩:=λA=>by
  refine Wo oi_plain entry_oi (@od YH _ _ _ "object.__init__" "object" "__init__" ZaK a [] _ oi_kind oi_split t2 (AK _ _) ?_);cases a with
  |Yl=>
   repeat lk
   exact⟨rfl,rfl⟩|Zp F a=>
   repeat lk
   exact⟨rfl,rfl⟩
 repeat(first|with_reducible refine V_ ?_|lk)
 refine V9 (y _) λr I n=>?_;rw[n.1,n.2];exact Z5 (Z5 q)
theorem BQ:Builtin.Slots.bestBase [Zac]=Yh Zac:=by kernel_rfl
theorem uy:r4 Zac=Yh ZcO:=F.called_tuple.made
theorem bM.base(t:Zap)(k:pd h):V3 YH h (Bind.staticBase (.ref z)) Zac:=by
 have made:=t.made k;obtain⟨o,f,cd,i,a,e1,e2,e,c,j⟩:=t.obj;have a:=k _ _ a;intro A l E s b q;have a:=b _ _ a;have made:=made.keeps b;obtain⟨hh,g,d,m,os⟩:=s;dsimp only at a made;have hm:V3 YH hh (mroOf (.ref z)) [Zay,Zac,Zai]:=e▸((IV (part:=none) a).andThen .now).andThen .now;have hb:V3 YH hh (classData z) cd:=(IV (part:=none) a).andThen .now;have n:V3 YH hh (Builtin.Slots.bestBase cd.bases) Zac:=by rw[c];exact SW BQ
 have p:V3 YH hh (r4 (.type "tuple")) ZcO:=SW uy;unfold Bind.staticBase;repeat lk
 exact q
theorem Dc:OH "tuple.__new__"=some .builtinFn:=by decide+kernel
theorem Ce:splitId "tuple.__new__"=some ("tuple","__new__"):=by decide+kernel
theorem Cy:plainId "tuple.__new__"=true:=by decide+kernel
theorem F9:Vs "tuple.__new__"=some ((Vs "tuple.__new__").getD ⟨.hand,"","",.self,[]⟩):=by kernel_rfl
theorem Ec(C it:Y9):r5 "tuple.__new__" ((Vs "tuple.__new__").getD ⟨.hand,"","",.self,[]⟩) ⟨[Zbr,Zb4],[]⟩=Yh ():=by kernel_rfl
theorem zY(t:Zap)(k:pd YK)(j:ZG it=Zan)(u:c.cls=Zac)(hd:c.data=.seq i n)(l:cb<=ZK)(h:∀a:C_,(∀b c,ZG b=Zan->a.get? b=Zan)->R (.ok (.ret (.ref (a.objs.size+1)))) {G with X_:=(a.push {T':=Zaf,Xg:=.dict #[]}).push {T':=Zay,dt:=some a.objs.size,Xg:=.seq i}}):U4 YH m (.call Zcr ⟨[Zay,Zb4],[]⟩) R G:=by
 have made:=t.made k;have oz:=t.base k;obtain⟨o,w,cd,s,p,e1,e2,e,x,y⟩:=t.obj;have f:=k _ _ p;have s1:V3 YH YK (L3 (.ref z) (.type "tuple")) true:=gx k (by unfold mroIn clsIn;rw[p];simp[e]);have i1:=kp (M:=YH) k t.init;have q:V3 YH YK (r4 (.type "tuple")) ZcO:=SW uy;have tt:V3 YH YK (isType (.ref z)) true:=(IV f).andThen .now;have here:V3 YH YK (Bind.madeHere "tuple.__new__" (.ref z)) ():=base.andThen (q.andThen (SW (by simp only[Option.map_some,kn,T5,A_])));obtain⟨hh,g,d,A,os⟩:=G;dsimp only at f k oz made s1 i1 q tt here j;refine Wo Cy F.entry_tuple_new ?_;unfold z_;rw[Dc,Ce,F9];walk_at"a";dsimp only;rw[Ec];repeat(first|with_reducible refine wpAny_collect_seq (hsz:=l) it (.inr rfl) j u hd ?_|simp only[kn,T5,A_]|lk)
 intro a r;walk_at"h";refine Z7 (Z5 (Z7 (wpAny_alloc ?_)));walk_at"h";show ZU _ _ ((if i.toList.toArray.size>ZK then _ else _)>>=_) _ _ _;rw[ZY (by simpa using l)];refine Z7 (Z7 (wpAny_alloc (Z7 (Z7 (b4 (ZA {T':=Zay,dt:=some a.objs.size,Xg:=.seq i.toList.toArray} (ZA {T':=Zaf,Xg:=.dict #[]} (r _ _ f))) (Z5 ?_))))));walk_at"f";rw[e2];refine Z5 (Z5 ?_);have:=h a r;rwa[<-I7]at this
abbrev Yz:VU:=PySem.Challenge.pw_mt0003_01
def cx(k:U):Wa:=(prog.main.body[k]?).getD (.Pass default)
abbrev JJ:Wx:=.Constant .none 0 default
abbrev GR:Arguments:=⟨[],[],none,[],[],none,[]⟩
abbrev GW:g6:={kind:=.function,WD:=[],isGenerator:=false,isCoroutine:=false,SH:=[]}
set_option backward.match.sparseCases false in def GU:Wa->Z×Arguments×J Wa×J Wa×Wx×g6|.FunctionDef n a b _ _ _ s _ _ _=>(n,a,b,[],JJ,s)|.ClassDef _ _ _ b _ _ _ _ _ _ _=>("",GR,b,[],JJ,GW)|.For _ _ b _ _=>("",GR,b,[],JJ,GW)|.While t b _ _=>("",GR,b,[],t,GW)|.If t b o _=>("",GR,b,o,t,GW)|.Expr e _=>("",GR,[],[],e,GW)|_=>("",GR,[],[],JJ,GW)
def bH(st:Wa):J Wa:=(GU st).2.2.1
def Ci(st:Wa):Arguments:=(GU st).2.1
def bu(st:Wa):g6:=(GU st).2.2.2.2.2
def v_(st:Wa):Z:=(GU st).1
def Gr(st:Wa):Wx:=(GU st).2.2.2.2.1
def IW(i:U)(st:Wa):J Wa:=Ss (motive:=λO=>J Wa) i (bH st) λO=>(GU st).2.2.2.1
def t8(st:Wa)(pm cd Wv d k:ZP):CL:={Calls.docDef (v_ st) (Ci st) (bH st) (bu st) pm cd Wv with defaults:=d,kwdefaults:=k}
structure h7(X:Cx)(fa:Y9)(st:Wa)(pm cd Wv d k:ZP):Prop where
 get:YF fa=some {T':=Zao,Xg:=.func (t8 st pm cd Wv d k)}
 nt:fa≠tx
 rX:G5 cd (v_ st)
 nc:cd≠.ref tx
theorem ay(a b:T7):(WY a=WY b)=(a=b):=by
 refine propext ⟨λh=>?_,λh=>h▸rfl⟩;rw[Str.ofString_eq_toList,Str.ofString_eq_toList]at h;injection h with h;have h:=Array.toList_inj.mpr h;simp only[List.toList_toArray]at h;have inj:∀(x y:J Char),hc Char.toNat=y.map Char.toNat->x=y:=by
  intro x;induction x with|Yl=>intro y h;cases y<;>simp at h;rfl|Zp c x i=>
   intro y h;cases y with|Yl=>simp at h|Zp d y=>
    simp only[Yd,fI]at h;rw[i y h.2,Char.toNat_inj.mp h.1]
 exact String.toList_inj.mp (inj _ _ h)
theorem eM(h:b a=Zbf):ml b Zaj=Zan:=Zq listIn h
theorem kl(h:ml b c=ZaB)(d:-(2^62)<=k/\k<2^62)(hr:(U' k ZC).bind (a[.]?)=Za2):bS b c Za0=Za2:=by
 show((ml b c).bind λa=>if-(2^62)<=k/\k<2^62 then(U' k ZC).bind (a[.]?)else none)=some r;rw[h];exact(ZT d).trans hr
theorem jT(h:j<n):U' (j:Zv) n=ZbC:=by exact ZT (Bool.and_eq_true_iff.mpr ⟨Yt (SI j),Yt (Vc h)⟩)
theorem ug(h:ml c d=ZaB)(hr:a[j]?=Za2)(e:ZC<=ZK):bS c d Zb9=Za2:=by
 have b:=(ZN hr).1;exact kl h (cD 0x3ffee9f30e661c3f2f16841 [16777216,4611686018427387904,4611686018427387904] [_,_] [] b e) (by rw[jT b];exact hr)
theorem uV(h:ml b c=some (a++[x])):bS b c (.int (-1))=Zak:=by
 refine kl h Z' ?_;have:U' (-1) (a++[x]).length=some ZC:=by
  simp[U'];exact cY 0x1dd869083a61c3bba83a61841d30e1d9841d30e1cd [_]
 rw[this];exact eo ..
theorem qd(h:ml c d=Zar)(a:b[Zw-1]?=Zbe):bS c d (.int (-1))=Zbe:=by
  walk_at"j";refine(List.eq_nil_or_concat b).elim (λYA=>?_) λYA=>?_;.subst YA;cases a
  .obtain⟨x,y,rfl⟩:=YA;rw[List.concat_eq_append]at h a;rw[Z1,show ZO+[y].length-1=ZO from rfl,eo]at a;exact ZW a▸uV h
theorem iY:ml b (.lst a)=ZaB:=ZT (c:=(Vx "list"=Zad\/Vx "list"=Zac)) (e:=none) (.inl rfl)
theorem dN(h:ZO+ZC<=ZK):vf b .Add (.str x) (.str a)=some (.str (x++a)):=by
 show Option.or (if ZO+ZC<=ZK then some (MV.str (x++a))else none) _=_;rw[ZT h];rfl
theorem gj(h:cg a b=Zak)(d:cg a c=some ys)(z:ZO+TS<=ZK):vf a .Add b c=some (.lst (x++ys)):=by
 have e:((cg a b).bind λx=>(cg a c).bind λys=>if ZO+TS<=ZK then some (MV.lst (x++ys))else none)=some (.lst (x++ys)):=by rw[h,d];exact ZT z
 walk_at"i";induction b using x4 with
 |int=>exact ax h|str=>exact ax h|_=>exact e
theorem xK(m:ZaY):Dr m []=some m.isEmpty:=by cases m with|Yl=>rfl|Zp=>rfl
theorem DT(G:GH)(a b:Z):yg G (.str a) (.str b)=some (a==b):=rfl
theorem bO(G:GH)(m:ZaY):yg G (.lst m) (.lst [])=some m.isEmpty:=xK m
theorem X0(b:V1 a)(hb:ZcS)(rm:Rm a i n)(hg:∀f,sq f=true->YJ f=Zaa)(h:pe gl l c d=ZaS)(k:g mv c):EV a i Zn (ZH d Zn) l c g:=(Cc b hb rm hg d).v mv h g k
theorem SV(d:V1 i)(hb:Q' d)(rm:Rm i r n)(hg:∀f,sq f=true->YJ f=Zaa)(h:pb gl l q a=Zan)(k:Nj c q):EB i r Zn (XE a Zn (ZH a Zn)) l q Nj:=(Cc d hb rm hg a).b c h Nj k
inductive KW(f:ZP)(K:MV->GH->Prop)(m:ZaY)(G:GH):Prop where|mk(r:MV)(h:ko G f m=Za2)(k:K r G)
theorem pa(b:V1 c)(hb:ZcS)(rm:Rm c u n)(h:EA c u Zn (F::d) l M (KW q g))(j:Z3 (YJ f=Zaa) aR)(hs:Z3 (vK f=some q) aK)(he:Z3 (gK Zn F d) aR)(hp:Z3 (nO Zn d) aI):EV c u Zn (ZH (.Call (.Name f T) (F::d) [] Ym) Zn) l M g:=b5 b j (hb f q hs).1 (hb f q hs).2 (mY hs).2 (λYm e s S=>ZS (h Ym e s S) (λo a p=>by obtain⟨r,m,i,t,w,y,A,z,k⟩:=p;exact⟨r,m,i,t,w,y,λe s o S rl=>jY rm z S rl k⟩) λO O x=>x) (mY hs).1 he hp
theorem FY(h:l8 a b=Zc0)(c:n<=ZK):ko a Zaz [b]=some Zbp:=by
 have e:ko a Zaz [b]=(l8 a b).bind λn=>if n<=ZK then some (Uz n)else none:=by kernel_rfl!
 rw[e,h];exact ZT c
theorem r3(b:V1 a)(hb:ZcS)(rm:Rm a d n)(hx:Wq x=Zbe)(h:l8 c f=some k)(e:k<=ZK)(i:g Za0 c)(hg:Z3 (YJ "len"=Zaa) aR)(hn:Z3 ((x==("__classdict__"))=false) aD)(hd:Z3 ((x=="__debug__")=false) aD):EV a d Zn (ZH (.Call (.Name "len" q) [.Name x r] [] Ym) Zn) l c g:=pa b hb rm (Zu (Z4 hx (Y5 ⟨_,FY h e,i⟩) hn hd) rfl) hg Z8 rfl (λO=>rfl)
theorem Ei(h:p8<1920):ko a Zb' [Zbs]=some (.str (WY (b7 i))):=by
 have e:ko a Zb' [Zbs]=if p8<1920 then some (.str (WY (b7 i)))else none:=by kernel_rfl!
 rw[e];exact ZT h
theorem LA(h:0<=i/\i<=1114111):ko a (.builtin "chr") [Zbs]=some (.str ⟨#[i.toNat]⟩):=by
 have e:ko a (.builtin "chr") [Zbs]=if 0<=i/\i<=1114111 then some (.str ⟨#[i.toNat]⟩)else none:=by kernel_rfl!
 rw[e];exact ZT h
theorem sel[Oa d](h:c=true↔d):(if c=true then some (Uz a)else some ZcN)=some (.int (if d then a else b)):=by
 by_cases q:d;.rw[ZT q,ZT (h.mpr q)]
 .rw[ZY q,ZY λe=>q (h.mp e)]
theorem JP{α β:Type}{f:α->β}{l:J α}(h:(!(t' f).isEmpty)=true):l≠[]:=λe=>by rw[e]at h;exact Va h
theorem vT{α β:Type}{f:α->β}{l:J α}(h:(!(t' f).isEmpty)=false):l=[]:=match l,h with|[],O=>rfl
theorem Iq{α β:Type}{f:α->β}{l:J α}(h:(t' f).isEmpty=false):l≠[]:=λe=>by rw[e]at h;exact Va h
theorem CF{α β:Type}{f:α->β}{l:J α}(h:(t' f).isEmpty=true):l=[]:=match l,h with|[],O=>rfl
theorem EB.vh(rm:Rm b d n)(hx:Wq x=Zbe)(h:yg a f (.lst [])=Zan)(e:Nj c a)(hn:Z3 ((x==("__classdict__"))=false) aD)(hd:Z3 ((x=="__debug__")=false) aD):EB b d Zn (XE (.Compare (.Name x i) [.Eq] [.List [] k] Ym) Zn Up) l a Nj:=XC rm (Z4 hx (Uw (Y5 ⟨by decide,c,h,e⟩)) hn hd) (by with_unfolding_all rfl)
theorem EB.Jz(rm:Rm b d n)(hx:Wq x=Zbe)(h:yg a f (.lst [])=Zan)(e:Nj (!c) a)(hn:Z3 ((x==("__classdict__"))=false) aD)(hd:Z3 ((x=="__debug__")=false) aD):EB b d Zn (XE (.Compare (.Name x i) [.NotEq] [.List [] k] Ym) Zn Up) l a Nj:=XC rm (Z4 hx (Uw (Y5 ⟨by decide,!c,Zq (U5 (!.)) h,e⟩)) hn hd) (by with_unfolding_all rfl)
def gI(i:Zv):Z:=WY (b7 i)
def aN(a b:Zv):Z:=if b<2 then gI (a+b)else gI (a+1)++","++gI (a+b)
def SU(i:Zv):Prop:=kk<2^40
theorem Small.log(h:SU i):p8<1920:=by
 by_cases a:kk=0;.rw[a];decide
 .rw[Nat.log2_lt a];exact Xu h (Nat.pow_le_pow_right Z' Z')
theorem iO(h:SU i):(gI i).length<=20:=by
 unfold gI;rw[PySem.ofString_length];have:=PySem.int_text_length_le10 (k:=13) Z' (w_ h Z');exact a9 0x1fcbc39839e1 [13,20] [_] [] this
theorem FnAt.call(F:h7 a fa Ny pm cd Wv d k)(b:V1 a)(rm:Rm a i n)(WD:J Z)(j:∀c:Zc4,Yv=W0->S1 (t8 Ny pm cd Wv d k) ⟨c,[]⟩=Yh (WQ c))(hn:Sr)(l:x6=W0)(m:∀e,∀x∈WD,(bu Ny).names.lookup x=some .local\/((bu Ny).names.lookup x=Zbm/\((Ct (e+1) (bu Ny).names []).lookup x).isSome=true))(h:∀e,let Zn:=Xd (t8 Ny pm cd Wv d k) e fa;EF a (i.deeper Zn) Zn (Yk (bH Ny) Zn) (WQ f) q (rF g))(o:Z3 ((bu Ny).isCoroutine=false) aR)(p:Z3 ((bu Ny).isGenerator=false) aR)(r:Z3 ((bu Ny).kind=.function) aR):b8 a i ZaA f q g:=b8.body b WD F.get F.nt rfl F.rX F.nc rfl rfl rfl rfl j hn l m w1 h o p r
theorem Fv(h:∀p∈l,z3 p.1=some p.2):N' l a:=λx b e=>h (x,b) (Ve e)
theorem av(h:t' (λp=>z3 p.1)=t' λp=>some p.2):N' l a:=Fv λp hp=>List.map_inj_left.mp h p hp
theorem EF.sub(hl:N' l a)(h:EF b c Zn d l f B):EF b c Zn d a f B:=h.eF hl λO O e=>e
theorem nW(F:h7 X fa (cx 12) pm cd Wv .none .none)(b:Zck)(hb:ZcS)(rm:Rm X m (n+1))(e:SU (a+1))(d:SU (a+c))(k:g (.str (aN a c)) E):b8 X m ZaA [Zbu,Zc6] E g:=by
  walk_at"t";refine h6 b rm ["start","size"] (zl λO O=>rfl) Z' rfl ZbS λf=>?_
  . intro Zn;have r:=WH Zn;have h1:=iO e;refine ZJ (QO (EV.ER (XC r (Z4 rfl (X2 ⟨decide (c<2),rfl,λh=>?_,λh=>?_⟩)))));.refine pa b hb r (Zu (YU (Z4 rfl (Z4 rfl ⟨_,rfl,Y5 ⟨_,Ei d.log,?_⟩⟩))));unfold aN at k;rw[ZT (Zi h)]at k;exact k
    . refine YU (YU (pa b hb r (Zu (YU (Z4 rfl (X2 ⟨_,rfl,Y5 ⟨_,Ei e.log,Wb ⟨_,dN ?_,pa b hb r (Zu (YU (Z4 rfl (Z4 rfl ⟨_,rfl,Y5 ⟨_,Ei d.log,_,dN ?_,?_⟩⟩))))⟩⟩⟩))))));.show _+1<=_;rw[sizeLine_eq];exact a9 0x1fcbe0e0e5e1 [20,16777216] [_] [] h1
      .rw[UK];show _+1+_<=_;rw[sizeLine_eq];exact cD 0x7ff97c0507072f165e1 [20,20,16777216] [_,_] [] h1 (iO d)
      .unfold aN at k;rw[ZY (VN h)]at k;exact k
def aZ(r:Z×Z):MV:=.tup [.str r.1,.str r.2]
def aS(rs:J (Z×Z)):MV:=.lst (h5 aZ)
def bR(f:Zv)(l:J (Z×Z)):J Zv:=VF (λr k f=>(if r.1=(" ")then f+1 else 0)::k (if r.1=(" ")then f+1 else 0)) (λO=>[]) f
theorem xI(f r rs):bR f (r::rs)=(if r.1=" "then f+1 else 0)::bR (if r.1=" "then f+1 else 0) rs:=rfl
def d0(f:Zv)(l:J (Z×Z)):Zv:=VF (λr k f=>k (if r.1=(" ")then f+1 else 0)) id f
theorem ti(f r rs):d0 f (r::rs)=d0 (if r.1=" "then f+1 else 0) rs:=rfl
theorem bw:∀(f:Zv)(rs:J (Z×Z)),(bR f rs).length=Zc:=by
 intro a I;revert a;induction I with
 |Yl=>
  intro _;exact rfl|Zp r rs b=>
  intro f;exact Zq Nat.succ (b _)
theorem ie:∀(f:Zv)(rs r:J (Z×Z)),bR f (rs++r)=bR f rs++bR (d0 f rs) r:=by
 intro a I;revert a;induction I with
 |Yl=>
  intro _ _;exact rfl|Zp c rs b=>
  intro f r;exact Zq (_::.) (b _ r)
theorem jH:∀(f:Zv)(rs r:J (Z×Z)),d0 f (rs++r)=d0 (d0 f rs) r:=by
 intro a I;revert a;induction I with
 |Yl=>
  intro _ _;exact rfl|Zp c rs b=>
  intro f r;exact b _ r
theorem sC(F:h7 X fa (cx 11) pm cd Wv .none .none)(b:Zck)(hb:ZcS)(rm:Rm X m (n+1))(q:Zc<=ZK)(s:g (.lst ((bR (k+1) rs).map .int)) E):b8 X m ZaA [aS rs,Za0] E g:=by
  walk_at"t";refine h6 b rm ["rows","n"] (zl λO O=>rfl) Z' rfl ZbS λw=>?_;intro Zn;have hg:∀f,[].contains f=true->YJ f=Zaa:=e7 rfl;have c:=WH Zn;refine ZJ (Zk (VX (Y5 ⟨by decide,λa t=>?_⟩)) (.inl rfl));refine ZJ (Zk (X0 b hb c hg (mv:=.int (k+1)) ?_ ?_) (.inl rfl));.kernel_rfl!
  let I:U->YV->GH->Prop:=λj l i=>∃f,f=d0 (k+1) (Tz j)/\i=Y7 E a (.list ((bR (k+1) (Tz j)).map .int))/\l=([("rows",aS rs),("n",Za0),("told",Zaj),("far",.int f)]:YV);refine ZJ (q' c.handled I ?_);refine Z4 rfl ⟨_,_,rfl,⟨k+1,rfl,rfl,rfl⟩,?_,λj u l i hm d=>?_,λl i d=>?_⟩;.exact av Z_
  . obtain⟨f,o,YA,YB⟩:=d;rw[YA,YB];walk_at"A";obtain⟨r,hr,rfl⟩:∃r,rs[j]?=Za2/\u=aZ r:=by
      walk_at"b";rw[Zy]at hm;obtain⟨r,hr,e⟩:=Y3 hm;exact⟨r,hr,h4⟩
    have p:Tz (j+1)=Tz j++[r]:=by rw[X9,hr];rfl
    refine BO c.handled (.inl rfl) (.inl rfl) ?_;refine ZJ (Zk (X0 b hb c hg (mv:=.int (if r.1=" "then f+1 else 0)) ?_ ?_) (.inl rfl));.exact R3 Z_ (sel V5)
    refine ZJ (VI (W4 ?_));refine X0 b hb c hg ?_ ⟨a,_,rfl,aa ..,X0 b hb c hg (mv:=.int (if r.1=" "then f+1 else 0)) ?_ ⟨_,aa ..,?_,rfl,YW ?_⟩⟩;.kernel_rfl!
    .kernel_rfl!
    .rw[Z2,bw,Zo];exact JT q
    . refine⟨_,⟨if r.1=" "then f+1 else 0,?_,?_,rfl⟩,?_⟩;.rw[p,jH,<-o];rfl
      .rw[aP,p,ie,ZE,<-o];rfl
      .exact av Z_
  .obtain⟨f,o,YA,YB⟩:=d;rw[YA,YB];rw[Z2,XX];refine ZJ (QO (EV.E1 rfl (aa ..) ?_));rw[mB _ _ _ t];exact s
def yi(x:Z):Prop:=∀c∈S',c≠10
def nl:Z:="\n"
theorem yi.snoc(h:yi x)(a:c≠10):yi (x++(⟨#[c]⟩:Z)):=by
 intro d hd;rw[Xw,Y0,TV]at hd;refine hd.elim (λhd=>?_) λhd=>?_;.exact h d hd
 .simp at hd;rw[hd];exact a
theorem y8(F:h7 X fa (cx 10) pm cd Wv .none .none)(b:Zck)(hb:ZcS)(rm:Rm X m (n+1))(w:0<=a)(h1:a<1112063^3)(y:∀x:Z,yi x->ZO<=3->g (.str (x++nl)) E):b8 X m ZaA [Zbu] E g:=by
  refine h6 b rm ["z"] (Fb λO=>rfl) Z' rfl ZbS λD=>?_;intro Zn;have hg:∀f,[("divmod"),"chr"].contains f=true->YJ f=Zaa:=e7 Z_;have r:=WH Zn;refine ZJ (Zk (Wb ?_) (.inl rfl));refine ZJ (EF.rg (λo l i=>∃a x,o=a.toNat/\0<=a/\ZO<=3/\a<1112063^(3-ZO)/\yi x/\i=E/\l=([("z",Zbu),("signs",.str x)]:YV)) a.toNat (M:=[("z",Zbu),("signs",.str "")]) (Vo a ("") ⟨rfl,w,by decide,h1,?_,rfl,rfl⟩) ?_ ?_);.intro c A;cases A
  .exact av Z_
  . intro o l i B;obtain⟨a,x,rfl,G,hx,d,hn,rfl,rfl⟩:=B;refine SV b hb r hg (c:=decide (0<a)) ?_ ⟨λht=>?_,λI=>?_⟩;.kernel_rfl!
    . have e:0<a:=by exact Zi ht
      walk_at"p";have j:ZO<3:=by
        refine(UJ ZO 3).elim (λh=>?_) λh=>?_;.exact h
        . have:3-ZO=0:=by exact aV 0x1fdb6220e441 [_,_] h
          rw[this]at d;simp at d;exact cD 0x7ffa1074e5694d [] [_,_] [_] e d
      have C:(1112063:Zv)^(3-ZO)=1112063^(3-(ZO+1))*1112063:=by
        have:3-ZO=(3-(ZO+1))+1:=by exact aV 0x7f707460e08a2116841 [_,_] j
        rw[this,Int.pow_succ]
      refine ZJ (sp (X0 b hb r hg (mv:=.tup [.int ((a-1).fdiv 1112063),.int ((a-1).fmod 1112063)]) ?_ (BO Xy (.inl rfl) (.inl rfl) ?_)));.kernel_rfl!
      have e2:(a-1).fmod 1112063=(a-1)%1112063:=Int.fmod_eq_emod_of_nonneg _ Z';rw[(IP _ Z'),e2];have p:0<=(a-1)%1112063:=Int.emod_nonneg _ Z';have q:(a-1)%1112063<1112063:=Int.emod_lt_of_pos _ Z';have GS:0<=(a-1)/1112063:=Int.ediv_nonneg (a9 0x1fcc5ca6e94d [] [] [_] e) Z';have qM:(a-1)/1112063<a:=by exact Ks e
      have hd2:(a-1)/1112063<1112063^(3-(ZO+1)):=by
        refine Int.ediv_lt_of_lt_mul Z' ?_;rw[<-C];exact a9 0x1fd2e2e5696a [] [] [_,_] d
      generalize(a-1)/1112063=z at GS qM hd2;generalize(a-1)%1112063=s at p q;refine ZJ (Zk (X0 b hb r hg (mv:=.int (if s<10 then s else s+1)) ?_ ?_) (.inl rfl));.exact R3 Z_ (sel SE)
      have k:0<=(if s<10 then s else s+1):=by split<;>(first|exact a9 0x7f2a6e54d [] [] [_] p|exact a9 0x3f98394de69ea [10] [] [_] ‹_›)
      have t:(if s<10 then s else s+1)<=1112063:=by split<;>(first|exact a9 0x7f2f569ea [10,1112063] [] [_] ‹_›|exact a9 0x1fcae0e5696a [] [] [_,_] q)
      have u:(if s<10 then s else s+1)≠10:=by split<;>(first|exact a9 0xff36b5696a [] [] [_,_] ‹_›|exact a9 0x7f9b5c1cae696a [] [] [_,_] ‹_›)
      generalize(if s<10 then s else s+1)=zU at k t u;refine ZJ (EF.aug rfl (pa b hb r (Zu (X0 b hb r hg (mv:=.int (if zU<55296 then zU else zU+2048)) ?_ (Y5 ⟨_,LA ?_,.str (x++⟨#[(if zU<55296 then zU else zU+2048).toNat]⟩),?_,YW ?_⟩)))) (.inl rfl));.exact R3 Z_ (sel SE)
      . by_cases h:zU<55296;.rw[ZT h];exact⟨k,Int.le_trans (Int.le_of_lt h) Z'⟩
        .rw[ZY h];exact⟨Int.add_nonneg k Z',Int.le_trans (Int.add_le_add_right t _) Z'⟩
      .show(if ZO+1<=ZK then _ else _)=_;rw[ZT (by rw[af];exact a9 0x1fcbe0e0e9e1 [3,16777216] [_] [] j)]
      . refine⟨G3,_,by exact cD 0x1ffea8ba2b4b5654d [] [] [_,_] GS qM,⟨z,x++⟨#[(if zU<55296 then zU else zU+2048).toNat]⟩,rfl,GS,?_,?_,hn.snoc ?_,rfl,rfl⟩,?_⟩;.rw[UK];show ZO+1<=3;exact GK j
        .rw[UK];exact hd2
        .split<;>(first|exact a9 0x3fcdbe8ae6dea [10,10] [] [_] u|exact a9 0xff36fa41eae69ea [55296,2048,10] [] [_] ‹_›)
        .exact av Z_
    .refine ZJ (QO (YU (Z4 rfl (Wb ⟨_,dN ?_,y x hn hx⟩))));show ZO+1<=ZK;rw[af];exact a9 0x1fcbe0e0e5e1 [3,16777216] [_] [] hx
structure Pt where
 d:J Z
 a:J Z
 k:J Z
def Pt.put(p:Pt)(sign oc:Z):Pt:=if sign=("-")then{p with d:=p.d++[oc]}else if sign=("+")then{p with a:=p.a++[oc]}else{p with k:=p.k++[oc]}
def aQ(st:J Pt×Pt)(sign:Z):J Pt×Pt:=if sign≠(" ")/\st.2.k≠[]then(st.1++[st.2],⟨[],[],[]⟩)else st
def bc(st:J Pt×Pt)(r:Z×Z):J Pt×Pt:=((aQ st r.1).1,(aQ st r.1).2.put r.1 r.2)
def aC(rs:J (Z×Z)):J Pt×Pt:=rs.foldl bc ([],⟨[],[],[]⟩)
def bD(rs:J (Z×Z)):J Pt:=(aC rs).1++[(aC rs).2]
def Pt.side(p:Pt)(Yj:YZ):J Z:=if Yj then p.a else p.d
def Pt.mark(p:Pt)(WC:Z):Z:=if p.d≠[]/\p.a≠[]then("! ")else WC
def Pt.aL(p:Pt)(Yj:YZ)(WC:Z):J Z:=(Uk Yj).map (p.mark WC++.)++p.k.map (("  ")++.)
def half(rs:J (Z×Z))(Yj:YZ)(WC:Z):J Z:=if(bD rs).any (λp=>!(Uk Yj).isEmpty)then(bD rs).flatMap (·.aL Yj WC)else[]
abbrev Ad:=Y9×Y9×Y9
def fZ(c:Ad):MV:=.tup [.ref c.1,.ref c.2.1,.ref c.2.2]
def ah(x:J Z):ZaY:=hc .str
def yT(G:GH)(c:Ad)(p:Pt):Prop:=G c.1=some (.list (ah p.d))/\G c.2.1=some (.list (ah p.a))/\G c.2.2=some (.list (ah p.k))
def f9(c:Ad):J Y9:=[c.1,c.2.1,c.2.2]
structure HP(G i:GH)(p:Y9)(a:J Ad)(ps:J Pt)(c:Ad)(e:Pt):Prop where
 ext:∀b o,G b=Zag->i b=some o
 gp:i p=some (.list (Ti fZ++[fZ c]))
 len:ZC=h3
 gd:∀(d:U)(ad:Ad)(q:Pt),a[d]?=some ad->ps[d]?=some q->yT i ad q
 gc:yT i c e
 np:G p=none
 nc:∀x∈f9 c,G x=none/\x≠p
 nd:∀ad∈a,∀x∈f9 ad,G x=none/\x≠p/\x∉f9 c
 dc:c.1≠c.2.1/\c.1≠c.2.2/\c.2.1≠c.2.2
theorem cB(h:c b=ZaC)(e:c a=none):Y7 c a i b=ZaC:=by rw[ag (by intro f;subst f;exact ax (e.symm.trans h))];exact h
theorem HP.app(h:HP d i f a ps c r)(hx:x∈f9 c)(hp:yT (Y7 i x (.list k)) c l):HP d (Y7 i x (.list k)) f a ps c l:=by
  have b:=h.nc x hx;refine⟨λg o e=>?_,?_,sv,λj ad q h1 h2=>?_,hp,h.np,h.nc,h.nd,h.dc⟩;.rw[ag (by intro m;subst m;exact ax ((b.1).symm.trans e))];exact h.ext g o e
  .rw[ag (Zg b.2)];exact h.gp
  .obtain⟨e1,e2,n⟩:=h.gd j ad q h1 h2;have ne:∀y∈f9 ad,y≠x:=λy hy e=>((h.nd ad (YO h1)) y hy).2.2 (e▸hx);exact⟨by rw[ag (ne _ (by simp[f9]))];exact e1,by rw[ag (ne _ (by simp[f9]))];exact e2,by rw[ag (ne _ (by simp[f9]))];exact n⟩
theorem HP.more(h:HP r i l a ps c F)(hx:i x=none)(hy:Y7 i x Zaq d=none)(m:Y7 (Y7 i x (.list [])) d Zaq f=none):HP r (Y7 (Y7 ZbB f Zaq) l (.list (Ti fZ++[fZ c]++[fZ (x,d,f)]))) l (a++[c]) (ps++[F]) (x,d,f) ⟨[],[],[]⟩:=by
  have ns:∀{r:GH}{u b:Y9}{j:MO},r b=ZbC->r u=none->u≠b:=λh1 h2 e=>by rw[e,h1]at h2;cases h2
  have y:d≠x:=by intro p;subst p;rw[aa]at hy;cases hy
  rw[ag y]at hy;have z:f≠d:=by intro p;subst p;rw[aa]at m;cases m
  rw[ag z]at m;have B:f≠x:=by intro p;subst p;rw[aa]at m;cases m
  rw[ag B]at m;have sb:∀b j,i b=ZbC->b≠l->Y7 (Y7 ZbB f Zaq) l (.list (Ti fZ++[fZ c]++[fZ (x,d,f)])) b=ZbC:=λb j e hb=>by rw[ag hb,ag (Zg (ns e m)),ag (Zg (ns e hy)),ag (Zg (ns e hx))];exact e
  have n:x≠l/\d≠l/\f≠l:=⟨ns h.gp hx,ns h.gp hy,ns h.gp m⟩;have g:∀b,i b=none->r b=none:=λb hb=>by cases e:r b with
    |none=>rfl|some o=>rw[h.ext b o e]at hb;cases hb
  obtain⟨c1,c2,E⟩:=h.gc;have G:∀b∈f9 c,∃j,i b=ZbC:=cq ⟨_,c1⟩ (cq ⟨_,c2⟩ (cq ⟨_,E⟩ jP));have A:∀b j,i b=ZbC->b∉f9 (x,d,f):=λb j e hb=>cq (Q:=λw=>b≠w) (λq=>by rw[q,hx]at e;cases e) (cq (λq=>by rw[q,hy]at e;cases e) (cq (λq=>by rw[q,m]at e;cases e) jP)) b hb rfl;refine⟨λu o e=>sb u o (h.ext u o e) (by intro p;subst p;exact f' e h.np rfl),?_,by simp[sv],λs ad q h1 h2=>?_,⟨?_,?_,?_⟩,h.np,λb hb=>?_,λad had b hb=>?_,Zg y,Zg B,Zg z⟩;.rw[aa];simp
  . have k:∀ad q,(∀b∈f9 ad,b≠l)->yT i ad q->yT (Y7 (Y7 ZbB f Zaq) l (.list (Ti fZ++[fZ c]++[fZ (x,d,f)]))) ad q:=λad q hn I=>and3 I λe1 e2 C=>⟨sb _ _ e1 (hn _ (by simp[f9])),sb _ _ e2 (hn _ (by simp[f9])),sb _ _ C (hn _ (by simp[f9]))⟩;walk_at"S";by_cases t:s<ZC;.rw[UU t]at h1;rw[UU (O5 t (sv))]at h2;exact k ad q (λb hb=>(h.nd ad (YO h1) b hb).2.1) (h.gd s ad q h1 h2)
    . have D:=(ZN h1).1;rw[Z1,YY]at D;have:s=ZC:=by exact bx 0x3ffd883cd083a83841 [_,_] D t
      walk_at"S";subst this;simp at h1;subst h1;rw[sv]at h2;simp at h2;subst h2;exact k c F (λb hb=>(h.nc b hb).2) h.gc
  .show Y7 _ _ _ x=_;rw[ag n.1,ag (Zg B),ag (Zg y),aa];rfl
  .show Y7 _ _ _ d=_;rw[ag n.2.1,ag (Zg z),aa];rfl
  .show Y7 _ _ _ f=_;rw[ag n.2.2,aa];rfl
  .exact cq (Q:=λw=>r w=none/\w≠l) ⟨g _ hx,n.1⟩ (cq ⟨g _ hy,n.2.1⟩ (cq ⟨g _ m,n.2.2⟩ jP)) b hb
  . rcases ZM had with had|had;.obtain⟨h1,h2,M⟩:=h.nd ad had b hb;refine⟨h1,h2,?_⟩;clear h1 h2 M;obtain⟨s,t,rfl⟩:=Sk had;obtain⟨e1,e2,C⟩:=h.gd s a[s] (ps[s]'(sv▸t)) (Z6 t) (by simp[sv▸t]);exact cq (Q:=λw=>w∉f9 (x,d,f)) (A _ _ e1) (cq (A _ _ e2) (cq (A _ _ C) jP)) b hb
    .simp at had;subst had;walk_at"g";obtain⟨j,e⟩:=G b hb;exact⟨(h.nc b hb).1,(h.nc b hb).2,A _ _ e⟩
theorem item_last(h:a b=some (.list (c++[x]))):bS a ZaQ (.int (-1))=Zak:=uV (eM h)
theorem HP.start(hx:d x=none)(hy:Y7 d x Zaq f=none)(g:Y7 (Y7 d x (.list [])) f Zaq k=none)(hp:Y7 (Y7 (Y7 d x (.list [])) f (.list [])) k Zaq l=none):HP d (Y7 (Y7 (Y7 (Y7 d x (.list [])) f (.list [])) k Zaq) l (.list [fZ (x,f,k)])) l [] [] (x,f,k) ⟨[],[],[]⟩:=by
  have ns:∀{d:GH}{a b:Y9}{r:MO},d b=Za2->d a=none->a≠b:=λh1 h2 e=>by rw[e,h1]at h2;cases h2
  have y:f≠x:=by intro c;subst c;rw[aa]at hy;cases hy
  rw[ag y]at hy;have z:k≠f:=by intro c;subst c;rw[aa]at g;cases g
  rw[ag z]at g;have j:k≠x:=by intro c;subst c;rw[aa]at g;cases g
  rw[ag j]at g;have p:l≠k:=by intro c;subst c;rw[aa]at hp;cases hp
  rw[ag p]at hp;have m:l≠f:=by intro c;subst c;rw[aa]at hp;cases hp
  rw[ag m]at hp;have n:l≠x:=by intro c;subst c;rw[aa]at hp;cases hp
  rw[ag n]at hp;refine⟨λa o e=>?_,aa ..,rfl,λi ad q h1 h2=>by simp at h1,⟨?_,?_,?_⟩,hp,λb hb=>?_,λad had=>by simp at had,Zg y,Zg j,Zg z⟩;.rw[ag (Zg (ns e hp)),ag (Zg (ns e g)),ag (Zg (ns e hy)),ag (Zg (ns e hx))];exact e
  .show Y7 _ _ _ x=_;rw[ag (Zg n),ag (Zg j),ag (Zg y),aa];rfl
  .show Y7 _ _ _ f=_;rw[ag (Zg m),ag (Zg z),aa];rfl
  .show Y7 _ _ _ k=_;rw[ag (Zg p),aa];rfl
  .exact cq (Q:=λw=>d w=none/\w≠l) ⟨hx,Zg n⟩ (cq ⟨hy,Zg m⟩ (cq ⟨g,Zg p⟩ jP)) b hb
theorem lX(h:b a=Zbf):yg b Zaj (.lst [])=some c.isEmpty:=by
 show(Option.bind (listIn (b a)) λx=>Dr x [])=_;rw[h];exact xK c
theorem Bv(G:GH)(c:Ad):bS G (fZ c) (.int 0)=some (.ref c.1):=rfl
theorem BI(G:GH)(c:Ad):bS G (fZ c) (.int 1)=some (.ref c.2.1):=rfl
theorem tq(G:GH)(c:Ad):bS G (fZ c) (.int 2)=some (.ref c.2.2):=rfl
theorem eH(rs:J (Z×Z))(r:Z×Z):aC (rs++[r])=bc (aC rs) r:=by unfold aC;rw[WV];rfl
theorem ve(st:J Pt×Pt)(x:Z):(aQ st x).1.length<=st.1.length+1:=by unfold aQ;split<;>simp
theorem kq(rs:J (Z×Z)):(aC rs).1.length<=Zc:=by
 suffices h:∀n rs,Zc=n->(aC rs).1.length<=n from h _ rs rfl;intro n;induction n with|VZ=>intro rs h;rw[Xm h];exact ZV _|VC n i=>
  intro rs h;obtain⟨a,r,rfl⟩:∃a r,rs=a++[r]:=(Vo rs.dropLast (rs.getLast (by intro e;rw[e]at h;simp at h)) ((Ov _).symm));rw[eH];have:=i a (by simpa using h);exact YX (ve _ _) (Hz this)
theorem oQ(rs:J (Z×Z)):(aC rs).2.d.length+(aC rs).2.a.length+(aC rs).2.k.length<=Zc:=by
 suffices h:∀n rs,Zc=n->(aC rs).2.d.length+(aC rs).2.a.length+(aC rs).2.k.length<=n from h _ rs rfl;intro n;induction n with
 |VZ=>intro rs h;rw[Xm h];exact ZV _|VC n i=>
  intro rs h;obtain⟨b,r,rfl⟩:∃b r,rs=b++[r]:=(Vo rs.dropLast (rs.getLast (by intro e;rw[e]at h;simp at h)) ((Ov _).symm));rw[eH];have:=i b (by simpa using h);have h2:(aQ (aC b) r.1).2.d.length+(aQ (aC b) r.1).2.a.length+(aQ (aC b) r.1).2.k.length<=n:=by
   unfold aQ;refine bQ rfl (λO=>?_) λO=>?_;.simp
   .exact this
  show((aQ (aC b) r.1).2.put r.1 r.2).d.length+((aQ (aC b) r.1).2.put r.1 r.2).a.length+((aQ (aC b) r.1).2.put r.1 r.2).k.length<=_;generalize(aQ (aC b) r.1).2=p at h2⊢;unfold Pt.put;refine bQ rfl (λO=>?_) λO=>?_;.simp only[Z1,YY];exact aV 0x7f307120380a0e0e4901c041 [_,_,_,_] h2
  .split<;>simp only[Z1,YY]<;>(first|exact aV 0x7f3071203841c20e4901c041 [_,_,_,_] h2|exact aV 0x7f3070e10708391c041 [_,_,_] h2)
theorem gU(x:J Z)(a:Z):ah (x++[a])=ah x++[.str a]:=by simp[ah]
theorem az(x:J Z):(ah x).length=ZO:=by simp[ah]
theorem qx(p:Pt)(x:Z):p.put "-" x=⟨p.d++[x],p.a,p.k⟩:=by simp[Pt.put]
theorem s7(p:Pt)(x:Z):p.put "+" x=⟨p.d,p.a++[x],p.k⟩:=by unfold Pt.put;rw[ZY (by rw[ay];decide),ZT rfl]
theorem pI(p:Pt)(x:Z):p.put " " x=⟨p.d,p.a,p.k++[x]⟩:=by unfold Pt.put;rw[ZY (by rw[ay];decide),ZY (by rw[ay];decide)]
def eV(p:Pt):MV:=.tup [.lst (ah p.d),.lst (ah p.a),.lst (ah p.k)]
theorem wi:∀(as:J Ad)(ps:J Pt),as.length=h3->(∀q∈as.zip ps,a' b (fZ q.1) (eV q.2))->jZ b (h9 fZ) (hW eV):=by
 intro as;induction as with
 |Yl=>intro ps h hq;cases ps with|Yl=>exact .nil|Zp=>cases h
 |Zp a as i=>intro ps h hq;cases ps with|Yl=>cases h|Zp p ps=>exact .cons (hq (a,p) Y4) (i ps (x_ h) λq c=>hq q (ZX _ c))
theorem HP.all(h:HP k i l a ps c f):(a++[c]).length=(ps++[f]).length/\∀q∈(a++[c]).zip (ps++[f]),yT i q.1 q.2/\∀x∈f9 q.1,k x=none:=by
  refine⟨by simp[sv],λq hq=>?_⟩;rw[List.zip_append sv]at hq;rcases ZM hq with hq|hq
  . obtain⟨b,d,YA⟩:=Sk hq;rw[<-YA];simp only[List.length_zip]at d;have h1:b<ZC:=by exact LI d
    have h2:b<h3:=by exact aV 0x1fd0c3ab0c41 [_,_,_] d
    simp only[List.getElem_zip];exact⟨h.gd b _ _ (Z6 h1) (Z6 h2),λx hx=>(h.nd _ (Un h1) x hx).1⟩
  .simp at hq;rw[hq];exact⟨h.gc,λx hx=>(h.nc x hx).1⟩
def BC(Yj:YZ):Zv:=if Yj then 1 else 0
def MF(rs:J (Z×Z))(Yj:YZ)(WC:Z)(p:Y9):YV:=[("hunk",aS rs),("side",Za4),("plain",.str WC),("parts",Zde)]
def Mx(rs:J (Z×Z))(Yj:YZ)(WC:Z)(p:Y9)(r:Z×Z):YV:=aJ "line" (.str r.2) (aJ "sign" (.str r.1) (MF rs Yj WC p))
def M'(p:Y9)(as:J Ad)(ps:J Pt):J (Y9×J MV):=(p,h9 fZ)::(as.zip ps).flatMap λq=>[(q.1.1,ah q.2.d),(q.1.2.1,ah q.2.a),(q.1.2.2,ah q.2.k)]
theorem zh(F:h7 X fa (cx 13) pm cd Wv .none .none)(b:Zck)(hb:ZcS)(rm:Rm X m (Qh+1))(hs:∀n∈rs,n.1=("-")\/n.1=("+")\/n.1=(" "))(N:Zc<=100000)(PZ:∀u,EF X (Sb (Xd (t8 (cx 13) pm cd Wv .none .none) u fa)) (Xd (t8 (cx 13) pm cd Wv .none .none) u fa) (Yk ((bH (cx 13)).drop 2) (Xd (t8 (cx 13) pm cd Wv .none .none) u fa)) [("hunk",aS rs),("side",Za4),("plain",.str D),("parts",.lst ((bD rs).map eV))] E (rF g)):b8 X m ZaA [aS rs,Za4,.str D] E g:=by
  walk_at"t";refine h6 b rm ["hunk","side","plain"] (Ia λO O O=>rfl) Z' rfl (λu x hx=>?_) λu=>?_
  . simp only[XW,YL,Vt]at hx;rcases hx with rfl|rfl|rfl;.exact .inl rfl
    .exact .inr ⟨rfl,rfl⟩
    .exact .inl rfl
  intro Zn;have hg:∀f,([]:J Z).contains f=true->YJ f=Zaa:=e7 rfl;have w:=WH Zn;refine@ZJ _ _ _ _ _ _ _ _ (@Zk _ _ _ _ _ _ _ _ _ _ ?_ (.inl rfl) rfl);refine VX ?_;refine Zu ?_;refine TL ?_;refine Zu (VX (Y5 ⟨by decide,λx hx=>?_⟩));refine Zu (VX (Y5 ⟨by decide,λP0 hy=>?_⟩));refine Zu (VX (Y5 ⟨by decide,λP2 br=>?_⟩));refine Y5 ⟨by simp[af],Y5 ⟨by simp[af],λp P4=>?_⟩⟩;refine ZJ (q' w.handled (λj l i=>∃o s,HP E i p o (aC (Tz j)).1 s (aC (Tz j)).2/\l=MF rs Yj D p) ?_);refine Z4 rfl ⟨_,_,rfl,(Vo ([]) ((x,P0,P2)) ⟨HP.start hx hy br P4,rfl⟩),?_,λj P5 l i hm I=>?_,λl i I=>?_⟩;.exact av Z_
  . obtain⟨o,s,hp,rfl⟩:=I;obtain⟨n,hr,rfl⟩:∃n,rs[j]?=Zc0/\P5=aZ n:=by
      rw[Zy]at hm;obtain⟨n,hr,e⟩:=Y3 hm;exact⟨n,hr,h4⟩
    have P6:aC (Tz (j+1))=bc (aC (Tz j)) n:=by
      unfold aC;rw[X9,hr,U7,WV];rfl
    rw[P6];have Qi:j<Zc:=(ZN hr).1;have Q:(aC (Tz j)).1.length<=100000:=YX (kq _) (by rw[Zo];(exact JT N));have S:(aC (Tz j)).2.d.length+(aC (Tz j)).2.a.length+(aC (Tz j)).2.k.length<=100000:=YX (oQ _) (by rw[Zo];(exact JT N));generalize aC (Tz j)=st at hp Q S;refine BO w.handled (.inl rfl) (.inl rfl) ?_;have P7:n.1="-"\/n.1="+"\/n.1=" ":=hs n (YO hr);refine ZJ ?_;generalize P8:iU _ _ _ _ _=T;have V:∀G y c,HP E G p y (aQ st n.1).1 c (aQ st n.1).2->T .next (Mx rs Yj D p n) G:=by
      intro G y c t;subst P8;have A:(aQ st n.1).2.d.length+(aQ st n.1).2.a.length+(aQ st n.1).2.k.length<=100000:=by
        unfold aQ;refine bQ rfl (λO=>?_) λO=>?_;.simp
        .exact S
      show EF X _ _ _ _ _ _;unfold bc;generalize aQ st n.1=Qj at t A;obtain⟨B,C,g3⟩:=t.gc;obtain⟨d1,d2,PM⟩:=t.dc;refine ZJ (VI (W4 ?_));refine Ys (Ys (Z4 rfl (X0 b hb w hg Z_ ⟨_,item_last t.gp,EV.BH (Wb ⟨_,rfl,Z4 rfl ?_⟩)⟩)));rcases P7 with hh|hh|hh<;>rw[hh]
      . refine⟨_,0,[],rfl,by decide+kernel,.ref c.1,Bv ..,c.1,_,rfl,B,Z4 rfl ⟨_,B,?_,rfl,YW ⟨_,(Vo y c ⟨t.app (by simp[f9]) ?_,rfl⟩),?_⟩⟩⟩;.rw[az,af];(exact a9 0x7f2f0e5f01c041 [100000,16777216] [_,_,_] [] A)
        .rw[qx];exact⟨by rw[aa,gU],by rw[ag (Zg d1)];exact C,by rw[ag (Zg d2)];exact g3⟩
        .exact av Z_
      . refine⟨_,1,[],rfl,by decide+kernel,.ref c.2.1,BI ..,c.2.1,_,rfl,C,Z4 rfl ⟨_,C,?_,rfl,YW ⟨_,(Vo y c ⟨t.app (by simp[f9]) ?_,rfl⟩),?_⟩⟩⟩;.rw[az,af];(exact a9 0x7f2f165f01c041 [100000,16777216] [_,_,_] [] A)
        .rw[s7];exact⟨by rw[ag d1];exact B,by rw[aa,gU],by rw[ag (Zg PM)];exact g3⟩
        .exact av Z_
      . refine⟨_,2,[],rfl,by decide+kernel,.ref c.2.2,tq ..,c.2.2,_,rfl,g3,Z4 rfl ⟨_,g3,?_,rfl,YW ⟨_,(Vo y c ⟨t.app (by simp[f9]) ?_,rfl⟩),?_⟩⟩⟩;.rw[az,af];(exact Kx A)
        .rw[pI];exact⟨by rw[ag d2];exact B,by rw[ag PM];exact C,by rw[aa,gU]⟩
        .exact av Z_
    have F:¬(n.1≠" "/\st.2.k≠[])->T .next (Mx rs Yj D p n) i:=λh=>V i o s (by rw[show aQ st n.1=st from ZY h];exact hp);refine XF (VS (XC w (Z4 rfl (Wb ⟨!(n.1==" "),rfl,⟨λh1=>VS (XC w (Ys (Ys (Z4 rfl (X0 b hb w hg Z_ ⟨_,item_last hp.gp,X2 ⟨_,tq ..,Uw (Y5 ⟨by decide,!(ah st.2.k).isEmpty,Zq (U5 (!.)) (lX hp.gc.2.2),⟨λh2=>u_ ⟨λO=>?_,λh=>nomatch h⟩,λh2=>⟨λh=>(nomatch h),λO=>YW (F λq=>q.2 (vT h2))⟩⟩⟩)⟩⟩))))),λh1=>⟨λh=>(nomatch h),λO=>YW (F λq=>Va (pj (b_ q.1)))⟩⟩⟩))))
    . refine ZJ (VI (W4 (Z4 rfl ⟨p,_,rfl,hp.gp,?_⟩)));refine TL ?_;refine Zu (VX (Y5 ⟨by decide,λPN ra=>?_⟩));refine Zu (VX (Y5 ⟨by decide,λPR PS=>?_⟩));refine Zu (VX (Y5 ⟨by decide,λPT PW=>?_⟩));have hm:=hp.more ra PS PW;have P9:=hp.len;have e:Y7 (Y7 (Y7 i PN (.list [])) PR (.list [])) PT Zaq p=some (.list (o.map fZ++[fZ s])):=cB (cB (cB hp.gp ra) PS) PW;refine Y5 ⟨by simp[af],_,e,?_,rfl,YW ?_⟩;.rw[Z1,Z2,YY,af];(exact cD 0x1ffe5f07072f16c41 [100000,16777216] [_,_] [] P9 Q)
      . have Qa:aQ st n.1=(st.1++[st.2],⟨[],[],[]⟩):=by exact ZT ⟨p7 h1,JP h2⟩
        have:=V _ (o++[s]) (PN,PR,PT) (by rw[Qa];exact hm);exact this
  . obtain⟨o,s,hp,rfl⟩:=I;rw[Z2,XX]at hp;have z:=hp.all;have M:=PZ u;unfold bD at M;generalize(aC rs).1++[(aC rs).2]=ps at z M;generalize Qb:o++[s]=as at z;have Qc:i p=some (.list (h9 fZ)):=by rw[<-Qb,ZE];exact hp.gp
    refine EF.fh (M' p as ps) E _ (λPX hm=>?_) (λQd Qe e=>⟨hp.ext Qd Qe e,λhm=>?_⟩) (λr hr PX hm=>?_) M
    . rcases ZI hm with rfl|hm;.exact Qc
      . obtain⟨q,hq,hm⟩:=WL hm;obtain⟨⟨e1,e2,Qf⟩,_⟩:=z.2 q hq;simp only[XW,YL,Vt]at hm;rcases hm with rfl|rfl|rfl;.exact e1
        .exact e2
        .exact Qf
    . obtain⟨PX,PY,rfl⟩:=Zl hm;clear hm;rcases ZI PY with rfl|hm;.rw[hp.np]at e;cases e
      . obtain⟨q,hq,hm⟩:=WL hm;obtain⟨_,hn⟩:=z.2 q hq;simp only[XW,YL,Vt]at hm;clear PY;rcases hm with rfl|rfl|rfl;.rw[hn _ (by simp[f9])]at e;cases e
        .rw[hn _ (by simp[f9])]at e;cases e
        .rw[hn _ (by simp[f9])]at e;cases e
    . simp only[XW,YL,Vt]at hm;refine hm.elim (λYA=>?_) λYB=>YB.elim (λYA=>?_) λYB=>YB.elim (λYA=>?_) λYA=>?_;.rw[YA];exact⟨_,rfl,.refl _⟩
      .rw[YA];exact⟨_,rfl,.refl _⟩
      .rw[YA];exact⟨_,rfl,.refl _⟩
      . rw[YA];refine⟨Zde,rfl,.ref (Reads.seq ?_ _ (hr _ Y4))⟩;have hq:∀q∈as.zip ps,a' r (fZ q.1) (eV q.2):=λq hq=>by
          have h1:=hr (q.1.1,ah q.2.d) (ZX _ (Xf ⟨q,hq,.head _⟩));have h2:=hr (q.1.2.1,ah q.2.a) (ZX _ (Xf ⟨q,hq,.tail _ (.head _)⟩));have Qg:=hr (q.1.2.2,ah q.2.k) (ZX _ (Xf ⟨q,hq,.tail _ (.tail _ (.head _))⟩));exact Reads.seq (.cons (.ref h1) (.cons (.ref h2) (.cons (.ref Qg) .nil)))
        exact wi as ps z.1 hq
theorem uk(G:GH)(p:Pt):bS G (eV p) (.int 0)=some (.lst (ah p.d)):=rfl
theorem t9(G:GH)(p:Pt):bS G (eV p) (.int 1)=some (.lst (ah p.a)):=rfl
theorem CG(G:GH)(p:Pt):bS G (eV p) (.int 2)=some (.lst (ah p.k)):=rfl
theorem uH(G:GH)(p:Pt)(Yj:YZ):bS G (eV p) Za4=some (.lst (ah (Uk Yj))):=by
 cases Yj;.exact uk G p
 .exact t9 G p
theorem iT{α:Type}(m:J α)(f:α->Zs MV):oo (λ(k:U)=>(m[k]?).bind f) WM=m.filterMap f:=by
 have:∀n,n<=WM->(Zh n).filterMap (λk=>(m[k]?).bind f)=(m.take n).filterMap f:=by
  intro n;induction n with
  |VZ=>intro O;rfl|VC n i=>
   intro h;rw[TX,U3,i (O7 h),X9,U3,qb,Z6 (JH h)];rfl
 exact(this _ (ZV _)).trans (by rw[XX])
theorem tW(x:J Z)(f:Z->Z):oo (λ(k:U)=>(x[k]?).map λa=>.str (f a)) (ah x).length=ah (hc f):=by
 rw[ah,ah,Z2,Xo,<-List.filterMap_eq_map];exact(Zq (oo . _) (funext λk=>Option.map_eq_bind)).trans (iT x λa=>some (.str (f a)))
theorem kF(p:Pt)(Yj:YZ)(WC:Z):(p.aL Yj WC).length=(Uk Yj).length+p.k.length:=by simp[Pt.aL]
theorem lE(x:J Z)(k:U)(h:k<(ah x).length):∃a,x[k]?=ZaB/\(ah x).getD k .none=.str a/\a∈x:=by
 have b:k<ZO:=by simpa[ah]using h
 refine⟨x[k],Z6 b,by simp[ah,Z0,b],Un b⟩
theorem tG{b:J (Z×Z)->Prop}(c:b [])(h1:∀a r,b a->b (a++[r]))(rs:J (Z×Z)):b rs:=by
 suffices h:∀n rs,Zc=n->b rs from h _ rs rfl;intro n;induction n with
 |VZ=>intro rs h;rw[Xm h];exact c|VC n i=>
  intro rs h;obtain⟨a,r,rfl⟩:∃a r,rs=a++[r]:=(Vo rs.dropLast (rs.getLast (by intro e;rw[e]at h;simp at h)) ((Ov _).symm));exact h1 a r (i a (by simpa using h))
theorem Ed(p:Pt)(s x y:Z)(h:y∈(p.put s x).d++(p.put s x).a++(p.put s x).k):y=x\/y∈p.d++p.a++p.k:=by
  unfold Pt.put at h;split at h;.simp only[TV,Wt]at h⊢;rcases h with((h|h)|h)|h<;>simp[h]
  . split at h;.simp only[TV,Wt]at h⊢;rcases h with(h|(h|h))|h<;>simp[h]
    .simp only[TV,Wt]at h⊢;rcases h with(h|h)|(h|h)<;>simp[h]
theorem D5(p:Pt)(s x:Z):(p.put s x).d.length+(p.put s x).a.length+(p.put s x).k.length=p.d.length+p.a.length+p.k.length+1:=by
 unfold Pt.put;refine bQ rfl (λO=>?_) λO=>?_;.simp;exact cY 0x6e0e80e020c070141c1 [_,_,_]
 .split<;>simp<;>(first|exact cY 0x6e0e80e020c07083841 [_,_,_]|exact cY 0x6e0e8083083841 [_,_])
theorem lR(st:J Pt×Pt)(s:Z):(aQ st s).1++[(aQ st s).2]=st.1++[st.2]\/(aQ st s).1++[(aQ st s).2]=st.1++[st.2]++[⟨[],[],[]⟩]:=by
 unfold aQ;refine bQ rfl (λO=>?_) λO=>?_;.exact .inr rfl
 .exact .inl rfl
theorem oX(rs:J (Z×Z)):∀p∈bD rs,∀x∈p.d++p.a++p.k,∃r∈rs,r.2=x:=by
  refine tG (b:=λrs=>∀p∈bD rs,∀x∈p.d++p.a++p.k,∃r∈rs,r.2=x) ?_ (λb r i=>?_) rs;.intro p hp x hx;simp[bD,aC]at hp;subst hp;simp at hx
  . intro p hp x hx;walk_at"b";unfold bD at hp;rw[eH]at hp;have c:∀p∈(aQ (aC b) r.1).1++[(aQ (aC b) r.1).2],∀x∈p.d++p.a++p.k,∃r∈b,r.2=x:=by
      intro p hp x hx;rcases lR (aC b) r.1 with e|e<;>rw[e]at hp;.exact i p hp x hx
      . refine(ZM hp).elim (λhp=>?_) λhp=>?_;.exact i p hp x hx
        .simp at hp;subst hp;simp at hx
    rcases ZM hp with hp|hp;.obtain⟨q,hq,e⟩:=c p (Y2 _ hp) x hx;exact⟨q,Y2 _ hq,e⟩
    . have f:p=(aQ (aC b) r.1).2.put r.1 r.2:=by simpa[bc]using hp
      subst f;refine(Ed _ _ _ _ hx).elim (λYA=>?_) λhx=>?_;.subst YA;exact⟨r,by simp,rfl⟩
      .obtain⟨q,hq,e⟩:=c _ (Y1 _ (Xx rfl)) x hx;exact⟨q,Y2 _ hq,e⟩
def lJ(p:Pt):U:=p.d.length+p.a.length+p.k.length
theorem oy(rs:J (Z×Z)):((bD rs).map lJ).sum=Zc:=by
 refine tG (b:=λrs=>((bD rs).map lJ).sum=Zc) rfl (λa r i=>?_) rs;unfold bD;rw[eH];have e:(((aQ (aC a) r.1).1++[(aQ (aC a) r.1).2]).map lJ).sum=ZC:=by
  rcases lR (aC a) r.1 with e|e<;>rw[e];.exact i
  .rw[ZE,List.sum_append];exact i
 simp only[bc,ZE,List.sum_append,Yd,R7,List.sum_cons,List.sum_nil,Z1,YY]at e⊢;have:=D5 (aQ (aC a) r.1).2 r.1 r.2;simp only[lJ]at e⊢;exact bx 0x7ffb8387083481dc1c226c7083441 [_,_,_,_] e this
theorem iX(rs:J (Z×Z))(Yj:YZ)(WC:Z):((bD rs).flatMap (·.aL Yj WC)).length<=Zc:=by
 rw[<-oy rs];generalize bD rs=ps at⊢;induction ps with
 |Yl=>simp|Zp p ps i=>
  rw[Z1,kF];have:(Uk Yj).length+p.k.length<=lJ p:=by unfold lJ Pt.side;split<;>(first|exact cY 0x1980a011c041 [_,_,_]|exact cY 0x1980a030c041 [_,_,_])
  exact bx 0x7ff981050187241e441 [_,_,_,_] this i
theorem yP{ps:J Pt}(b:Zck)(hb:ZcS)(f:Rm X m P2)(S:(ps.flatMap (·.aL Yj D)).length<=200000)(T:∀p∈ps,(∀x∈Uk Yj,ZO<=1000)/\∀x∈p.k,ZO<=1000)(V:D.length<=10)(hn:h3<=200000)(s:g (.lst (ah (if ps.any (λp=>!(Uk Yj).isEmpty)then ps.flatMap (·.aL Yj D)else[]))) E):EF X m (Xd (t8 (cx 13) pm cd Wv .none .none) n fa) (Yk ((bH (cx 13)).drop 2) (Xd (t8 (cx 13) pm cd Wv .none .none) n fa)) [("hunk",c),("side",Za4),("plain",.str D),("parts",.lst (hW eV))] E (rF g):=by
  walk_at"d";refine ZJ (Zk (VX (Y5 ⟨by decide,λt y=>?_⟩)) (.inl rfl));let I:U->YV->GH->Prop:=λj l i=>i=Y7 E t (.list (ah ((ps.take j).flatMap (·.aL Yj D))))/\l=([("hunk",c),("side",Za4),("plain",.str D),("parts",.lst (hW eV)),("told",.ref t)]:YV);refine ZJ (q' f.handled I ?_);refine Z4 rfl ⟨_,_,rfl,⟨by rw[ah];rfl,rfl⟩,?_,λj z l i hm o=>?_,λl i o=>?_⟩;.exact av Z_
  . rw[o.1,o.2];walk_at"A";obtain⟨p,hr,rfl⟩:∃u,ps[j]?=some u/\z=eV u:=by
      walk_at"b";rw[Zy]at hm;obtain⟨u,hr,e⟩:=Y3 hm;exact⟨u,hr,h4⟩
    refine Oe (.inl rfl) ?_;walk_at"T";have no:∀{A:Zv}{B:J Z}{PM:U}{p1 p2 PN PR PS:ix}{F:YZ->GH->Prop}{G:GH}{Up:p_ ZP},bS G (eV p) (.int A)=some (.lst (ah B))->F (!(ah B).isEmpty) G->EB X m (Xd (t8 (cx 13) pm cd Wv .none .none) n fa) (XE (.Compare (.Subscript (.Name "part" p1) (.Constant (.int A) PM p2) PN) [.NotEq] [.List [] PR] PS) (Xd (t8 (cx 13) pm cd Wv .none .none) n fa) Up) ([("hunk",c),("side",Za4),("plain",.str D),("parts",.lst (hW eV)),("told",.ref t),("part",eV p)]) G F:=λh a=>XC f (Ys (Z4 rfl (X2 ⟨_,h,Uw (Y5 ⟨by decide,_,Zq (U5 (!.)) (bO ..),a⟩)⟩))) (by with_unfolding_all rfl);refine ZJ ?_;generalize PT:iU _ _ _ _ _=PW;have N:∀w,p.mark D=w->PW .next ([("hunk",c),("side",Za4),("plain",.str D),("parts",.lst (hW eV)),("told",.ref t),("part",eV p),("mark",.str w)]) (Y7 E t (.list (ah ((ps.take j).flatMap (·.aL Yj D))))):=by
      intro w PX;subst PX;subst PT;walk_at"U";refine ?_;have d:((ps.take (j+1)).flatMap (·.aL Yj D)).length<=200000:=by
        refine YX ?_ S;conv=>rhs;rw[<-XJ (j+1) ps,YT,Z1]
        exact O1
      have M:(ps.take (j+1)).flatMap (·.aL Yj D)=(ps.take j).flatMap (·.aL Yj D)++p.aL Yj D:=by rw[X9,hr,U7,YT];simp
      rw[M,Z1]at d;have PY:(p.mark D).length<=10:=by
        unfold Pt.mark;refine bQ rfl (λO=>?_) λO=>?_;.decide
        .exact V
      have h1:=T p (YO hr);walk_at"G";refine ZJ (VI (M_ (Z4 rfl ⟨t,_,rfl,aa ..,?_⟩)));refine YU (EV.comp [("mark",.str (p.mark D))] ⟨rfl,rfl,by decide,by decide,?_,?_⟩ (gh.list f.handled (Ys (Z4 rfl (Z4 rfl ⟨_,uH ..,_,rfl,?_⟩)))));.intro q hq;rcases ZD hq with rfl;rfl
      .intro q hq;rcases ZD hq with rfl;exact⟨rfl,by show some SS≠some Uj;decide,.inl rfl,rfl⟩
      refine⟨λa l=>aJ "line" ((ah (Uk Yj)).getD a .none) l,λa=>((Uk Yj)[a]?).map λx=>.str (p.mark D++x),?_,λC a c=>UM (.inl rfl),λa c=>?_,λC a i c hG=>h_ ⟨rfl,λO=>?_,λh=>by cases h⟩,?_⟩;.rw[kF]at d;rw[az,af];exact a9 0x7f2f165f080c41 [200000,16777216] [_,_,_] [] d
      .exact av Z_
      .obtain⟨x,e1,e2,hx⟩:=lE _ a c;have:=h1.1 x hx;show EV X m _ _ (aJ "line" ((ah (Uk Yj)).getD a .none) [("mark",.str (p.mark D))]) i _;rw[e2];exact YU (Z4 rfl (Z4 rfl ⟨_,dN (by rw[af];exact cD 0x1ffe5f01072f165e1 [10,1000,16777216] [_,_] [] PY this),rfl,by show U5 _ _=_;rw[e1];rfl⟩))
      rw[tW];refine EV.comp [] ⟨rfl,rfl,by decide,by decide,λq hq=>(nomatch hq),λq hq=>(nomatch hq)⟩ (gh.list f.handled (Ys (Z4 rfl (X2 ⟨_,CG ..,_,rfl,?_⟩))));refine⟨λa l=>aJ "line" ((ah p.k).getD a .none) l,λa=>(p.k[a]?).map λx=>.str ("  "++x),?_,λC a c=>UM (.inl rfl),λa c=>?_,λC a i c hG=>h_ ⟨rfl,λO=>?_,λh=>by cases h⟩,?_⟩;.rw[kF]at d;rw[az,af];exact a9 0x7f2f1e5f080c41 [200000,16777216] [_,_,_] [] d
      .intro x w e;exact ax e
      .obtain⟨x,e1,e2,hx⟩:=lE _ a c;have:=h1.2 x hx;show EV X m _ _ (aJ "line" ((ah p.k).getD a .none) []) i _;rw[e2];exact YU (Wb (Z4 rfl ⟨_,dN (by show 2+ZO<=ZK;rw[af];exact a9 0x1fcbe017e5e1 [1000,2,16777216] [_] [] this),rfl,by show U5 _ _=_;rw[e1];rfl⟩))
      rw[tW];have PZ:ah (p.aL Yj D)=ah ((Uk Yj).map (p.mark D++.))++ah (p.k.map ("  "++.)):=by simp[Pt.aL,ah]
      refine⟨.lst (ah (p.aL Yj D)),?_,_,_,aa ..,aF ..,?_,rfl,YW ⟨_,⟨?_,rfl⟩,?_⟩⟩;.rw[PZ];refine R3 (gj rfl rfl ?_) rfl;rw[az,az,Z2,Z2];rw[kF]at d;exact a9 0x1fcbc597c041 [200000,16777216] [_,_] [] d
      .rw[az,az,af];exact a9 0x7f2f0e5e1 [200000,16777216] [_] [] d
      .rw[aP,M];simp[ah]
      .exact av Z_
    refine Zk (EV.ER (VS (no (uk ..) ⟨λh1=>VS (no (t9 ..) ⟨λh2=>u_ ⟨λO=>Wb (N _ (ZT ⟨JP h1,JP h2⟩)),λh=>nomatch h⟩,λh2=>⟨λh=>(nomatch h),λO=>Z4 rfl (N _ (ZY λq=>q.2 (vT h2)))⟩⟩),λh1=>⟨λh=>(nomatch h),λO=>Z4 rfl (N _ (ZY λq=>q.1 (vT h1)))⟩⟩))) (.inr ⟨rfl,_,rfl,?_⟩);first|exact Wp n|exact Nat.lt_succ_of_lt (Wp n)
  . rw[o.1,o.2];walk_at"q";rw[Z2,XX];walk_at"U";refine ZJ (QO (EV.ER (XC f (EV.comp [("side",Za4)] ⟨rfl,rfl,?_,?_,?_,?_⟩ (gh.list f.handled (Z4 rfl ⟨_,rfl,?_⟩))))));.decide
    .decide
    .intro q hq;rcases ZD hq with rfl;rfl
    .intro q hq;rcases ZD hq with rfl;exact⟨rfl,by show some SS≠some Uj;decide,.inl rfl,rfl⟩
    refine⟨λa l=>aJ "part" ((hW eV).getD a .none) l,λa=>(ps[a]?).bind λp=>if(Uk Yj).isEmpty then none else some (eV p),?_,λC a c=>UM (.inl rfl),λa c=>?_,λC a i c hG=>?_,?_⟩;.rw[Z2,af];exact a9 0x7f2f0e5e1 [200000,16777216] [_] [] hn
    .exact av Z_
    . have ON:a<h3:=by simpa using c
      have e1:ps[a]?=some ps[a]:=Z6 ON;have e2:(hW eV).getD a .none=eV ps[a]:=by simp[Z0,ON]
      show eJ X m _ _ (aJ "part" ((hW eV).getD a .none) [("side",Za4)]) i _;rw[e2];generalize ps[a]=p at e1 e2;refine Fl (XC f (Ys (Z4 rfl (Z4 rfl ⟨_,uH ..,Uw (Y5 ⟨by decide,!(ah (Uk Yj)).isEmpty,Zq (U5 (!.)) (bO ..),rfl,λh=>Z4 rfl ⟨rfl,?_⟩,λh=>?_⟩)⟩))));.show(ps[a]?).bind _=_;rw[e1];simp[ah]at h;simp[h]
      .show(ps[a]?).bind _=_;rw[e1];simp[ah]at h;simp[h]
    rw[Z2,iT];refine Uw (Y5 ⟨by decide,!(ps.filterMap λp:Pt=>if(Uk Yj).isEmpty then none else some (eV p)).isEmpty,Zq (U5 (!.)) (bO ..),λh=>?_,λh=>?_⟩)
    . refine EV.E1 rfl (aa ..) ?_;rw[mB _ _ _ y];have:ps.any (λp=>!(Uk Yj).isEmpty)=true:=by
        simp only[G0,List.isEmpty_eq_false_iff_exists_mem]at h;obtain⟨z,hm⟩:=h;obtain⟨p,hp,e⟩:=List.mem_filterMap.mp hm;refine List.any_eq_true.mpr ⟨p,hp,?_⟩;by_cases Q:(Uk Yj).isEmpty;.simp[Q]at e
        .simp[Q]
      rw[ZT this]at s;exact s
    . refine EV.fh (Uw (Y5 ⟨by decide,[],E,.lst [],λp hp=>(nomatch hp),λP4 P5 e=>⟨cB e y,YL⟩,λr O=>.refl _,?_⟩))
      . have:¬ps.any (λp=>!(Uk Yj).isEmpty)=true:=by
          walk_at"ao";intro ht;obtain⟨p,hp,e⟩:=qr ht;have P0:(ps.filterMap λp=>if(Uk Yj).isEmpty then none else some (eV p))=[]:=by simpa using h
          have:eV p∈(ps.filterMap λp=>if(Uk Yj).isEmpty then none else some (eV p)):=List.mem_filterMap.mpr ⟨p,hp,by simp at e;simp[e]⟩;rw[P0]at this;exact nomatch this
        rw[ZY this]at s;exact s
theorem qg(F:h7 X fa (cx 13) pm cd Wv .none .none)(b:Zck)(hb:ZcS)(rm:Rm X m (n+1))(hs:∀r∈rs,r.1=("-")\/r.1=("+")\/r.1=(" "))(a:Zc<=100000)(c:∀r∈rs,r.2.length<=1000)(d:D.length<=10)(e:g (.lst (ah (half rs Yj D))) E):b8 X m ZaA [aS rs,Za4,.str D] E g:=zh F b hb rm hs a λf=>by
    have hm:=oX rs;refine yP b hb (WH _) ?_ (λp hp=>⟨λx hx=>?_,λx hx=>?_⟩) d ?_ e;.exact YX (iX rs Yj D) (by exact a9 0x7f2f0e5e1 [100000,200000] [_] [] a)
    .obtain⟨r,hr,YA⟩:=hm p hp x (by cases Yj<;>simp[Pt.side]at hx<;>simp[hx]);rw[<-YA];exact c r hr
    .obtain⟨r,hr,YA⟩:=hm p hp x (by simp[hx]);rw[<-YA];exact c r hr
    .unfold bD;have:=kq rs;simp;(exact cD 0x7ff978b21165e1 [100000,199999] [_,_] [] a this)
structure lq(X:Cx)(b:Zck)(k:U)(d a:ZP)where
 fa:Y9
 pm:ZP
 cd:ZP
 Wv:ZP
 fn:h7 X fa (cx k) pm cd Wv d a
 gl:VY (v_ (cx k))=some ZaA
structure cZ(X:Cx)(b:Zck)where
 oc:lq X b 10 .none .none
 Ep:lq X b 11 .none .none
 range:lq X b 12 .none .none
 half:lq X b 13 .none .none
 Ba:VY ("range")=none/\U9 ("range")=some ZaH
structure vj where
 aL:J Z
 a8:J (Z×Z)
 old:Zv
 new:Zv
def WR(h:J (Z×Z)):U:=h.countP λr=>!(r.1==("+"))
def Wz(h:J (Z×Z)):U:=h.countP λr=>!(r.1==("-"))
def cS(st:vj):J Z:=[("***************\n"),("*** ")++aN SD (WR W9)++(" ****\n")]++half W9 false ("- ")++([("--- ")++aN SA (Wz W9)++(" ----\n")]++half W9 true ("+ "))
def near(rs:J (Z×Z))(n:Zv)(k:U):YZ:=let b:=(bR (n+1) rs).getD k 0
 let a:=((bR (n+1) VM).reverse).getD k 0
 decide ((if a<b then a else b)<=n)
def fy(rs:J (Z×Z))(n:Zv)(st:vj)(k:U):vj:=if k<Zc/\near rs n k=true then{st with a8:=W9++(rs[k]?).toList}else{aL:=if W9=[]then Tx else Tx++cS st,a8:=[],old:=SD+WR W9+1,new:=SA+Wz W9+1}
def cL(rs:J (Z×Z))(n:Zv)(j:U):vj:=(Zh j).foldl (fy rs n) ⟨[],[],0,0⟩
def vx(rs:J (Z×Z))(n:Zv):J Z:=let m:=if(Zc:Zv)<n then(Zc:Zv)else n
 let t:=(cL rs m (Zc+1)).aL
 if t=[]then[]else[("*** \n"),("--- \n")]++t
theorem d7(rs:J (Z×Z))(n:Zv)(j:U):cL rs n (j+1)=fy rs n (cL rs n j) j:=by unfold cL;rw[TX,WV];rfl
theorem gY(h:a[j]?=Zar)(c:ZC<=ZK):bS d (.lst a) Zb9=Zar:=ug iY h c
theorem qI(rs:J (Z×Z))(n:Zv):∀k,(cL rs n k).a8.length<=k:=by
  intro I;induction I with
  |VZ=>exact ZV _|VC k a=>
    rw[d7];unfold fy;refine bQ rfl (λO=>?_) λO=>?_
    . have:((rs[k]?).toList).length<=1:=by cases rs[k]?<;>simp
      simp only[Z1];exact bx 0x7ff98387008b23165c1 [_,_,_] this ‹_›
    .simp
theorem vq{rs:J (Z×Z)}(b:k<Zc)(c:Zc<=ZK):bS d (.lst ((bR (a+1) rs).map .int)) Za0=some (.int ((bR (a+1) rs).getD k 0))/\bS d (.lst ((bR (a+1) VM).reverse.map .int)) Za0=some (.int ((bR (a+1) VM).reverse.getD k 0)):=by
 have e1:((bR (a+1) rs).map Uz)[k]?=some (.int ((bR (a+1) rs).getD k 0)):=by simp[Z0,bw,b]
 have e2:((bR (a+1) VM).reverse.map Uz)[k]?=some (.int ((bR (a+1) VM).reverse.getD k 0)):=by simp[Z0,bw,b]
 exact⟨gY e1 (by rw[Z2,bw];exact c),gY e2 (by rw[Z2,X6,bw,X6];exact c)⟩
theorem gr(rs:J (Z×Z))(Yj:YZ)(WC:Z):(half rs Yj WC).length<=Zc:=by
 unfold half;refine bQ rfl (λO=>?_) λO=>?_;.exact iX rs Yj WC
 .simp
theorem eE{α:Type}(p:α->YZ)(l:J α):l.countP p<=Xl:=List.countP_le_length
theorem iy(st:vj):(cS st).length<=3+2*T2:=by
 unfold cS;simp only[Z1,YG,UT];exact cD 0x3ffcc2427c203839b00c1d0737221e441 [3,2] [_,_,_] [] (gr W9 false "- ") (gr W9 true "+ ")
structure H7(rs:J (Z×Z))(st:vj)(k:U):Prop where
 o0:0<=SD
 o1:SD+T2<=k
 n0:0<=SA
 n1:SA+T2<=k
 t1:st.aL.length+5*T2<=5*k
 hm:∀r∈W9,r∈rs
theorem iG(rs:J (Z×Z))(n:Zv):∀k,H7 rs (cL rs n k) k:=by
  intro I;induction I with
  |VZ=>exact⟨OR 0,OR 0,OR 0,OR 0,ZV 0,by intro r h;simp[cL]at h⟩|VC k a=>
    rw[d7];have b:=a;generalize cL rs n k=st at b;obtain⟨o0,o1,n0,n1,t1,hm⟩:=b;unfold fy;refine bQ rfl (λO=>?_) λO=>?_
    . have hl:((rs[k]?).toList).length<=1:=by cases rs[k]?<;>simp
      refine⟨o0,?_,n0,?_,?_,λr hr=>?_⟩;.simp only[Z1];exact cD 0x7ff99c1c384e0112b331c262565c1 [] [_,_,_] [_] hl o1
      .simp only[Z1];exact cD 0x7ff99c1c384e0112b331c262565c1 [] [_,_,_] [_] hl n1
      .simp only[Z1];exact cD 0x7ff9941c384a041072e2664384841 [5,5,5,5] [_,_,_,_] [] t1 hl
      . refine(ZM hr).elim (λhr=>?_) λhr=>?_;.exact hm r hr
        . refine gC (rs[k]?) (λe=>?_) λq e=>?_;.rw[e]at hr;simp at hr
          .rw[e]at hr;simp at hr;rw[hr];exact YO e
    . have h1:WR W9<=T2:=eE _ _;refine⟨?_,?_,?_,?_,?_,λr hr=>by simp at hr⟩;.show 0<=SD+WR W9+1;exact a9 0xfe60e84c2a6e54d [] [_] [_] o0
      .show SD+WR W9+1+(([]:J (Z×Z)).length)<=((k+1:U));simp only[UT];exact cD 0x3ffcce0e1c26d83a130ab331c26256441 [] [_,_,_] [_] h1 o1
      .show 0<=SA+Wz W9+1;exact a9 0xfe60e84c2a6e54d [] [_] [_] n0
      .show SA+Wz W9+1+(([]:J (Z×Z)).length)<=((k+1:U));simp only[UT];exact cD 0x3ffcce0e1c26d83a130ab331c26256441 [] [_,_,_] [_] (eE _ _) n1
      . simp only[UT];refine bQ rfl (λO=>?_) λc=>?_;.exact a9 0xfe65070e12687321c041 [5,5,5] [_,_,_] [] t1
        .simp only[Z1];exact cD 0x3ffcca0e1c24d810398484f2664384841 [5,5,3,2,5,5] [_,_,_,_] [] t1 (iy st)
theorem fc(h1:SU (a+1))(h2:SU (a+b)):(aN a b).length<=41:=by
  have e2:=iO h2;unfold aN;refine bQ rfl (λO=>?_) λO=>?_;.exact a9 0x7f2f0e5e1 [20,41] [_] [] e2
  .rw[UK,UK];show _+1+_<=_;exact cD 0x7ff97c0507072f165e1 [20,20,41] [_,_] [] (iO h1) e2
theorem Cn(h:J (Z×Z)):(h.filter λr=>!(r.1==("+"))).length=WR h:=by unfold WR;rw[Vv]
theorem By(h:J (Z×Z)):(h.filter λr=>!(r.1==("-"))).length=Wz h:=by unfold Wz;rw[Vv]
theorem EF.D7(ga:b a=Zbf)(hx:Wq x=some Zaj)(h:EF d f Zn i (aJ x (.lst c) l) (G_ b a) B):EF d f Zn i l b B:=EF.freeze ga _ (λy mv e=>by
  rw[aB]at e;by_cases q:y=x;.rw[ZT q]at e;exact .inr ⟨q▸hx,(ZW e).symm⟩
  .rw[ZY q]at e;exact .inl e) h
theorem gH(G:GH)(m:ZaY):l8 G (.lst m)=some WM:=Zq (U5 (Sm (α:=MV))) (iY (b:=G) (a:=m))
theorem oj(rs:J (Z×Z)):(h5 aZ).length=Zc:=by simp
theorem Dm(b:Zck)(hb:ZcS)(rm:Za3)(hg:∀f,t.contains f=true->YJ f=Zaa)(h1:Yb ("back")=some (.lst ((bR (a+1) rs).map .int)))(h2:Yb ("ahead")=some (.lst ((bR (a+1) VM).reverse.map .int)))(c:Yb ("k")=some Zb9)(e:Yb ("n")=some Zbu)(g:YJ "min"=Zaa)(hx:(1:U)=1)(ra:(1:U)=1)(k:j<Zc)(l:Zc<=ZK)(p:Nj (near rs a j) E):EB X m Zn (XE (.Compare (.Call (.Name "min" p0) [Zdg,.Subscript (.Name "ahead" u) (.Name "k" x) F] [] M) [.LtE] [.Name "n" T] V) Zn (ZH (.Compare (.Call (.Name "min" p0) [Zdg,.Subscript (.Name "ahead" u) (.Name "k" x) F] [] M) [.LtE] [.Name "n" T] V) Zn)) o E Nj:=by
 obtain⟨i1,i⟩:=vq (d:=E) (a:=a) k l;have d:=hb "min" (.builtin "min") (by rfl);refine XC rm (b5 b g d.1 d.2 (.inl ⟨_,rfl⟩) (Zu (Ys (Z4 h1 (Z4 c ⟨_,i1,Zu (Ys (Z4 h2 (Z4 c ⟨_,i,Y5 λw s y S r=>jY rm (F:=.int (if(bR (a+1) VM).reverse.getD j 0<(bR (a+1) rs).getD j 0 then(bR (a+1) VM).reverse.getD j 0 else(bR (a+1) rs).getD j 0)) ?_ S r (Z4 e ⟨near rs a j,?_,p⟩)⟩)))⟩)))));.rfl
 .rfl
theorem FR:1<=ZK:=by decide
theorem ym:2<=ZK:=by decide
theorem Ii:3<=ZK:=by decide
theorem eA:l8 E (.lst (ah x))=some ZO:=(gH E _).trans (Zq some (az x))
theorem zZ(h:E a=some (.list (ah x))):l8 E Zaj=some ZO:=(Zq (U5 (Sm (α:=MV))) (eM h)).trans (Zq some (az x))
theorem gN(G:GH)(rs:J (Z×Z)):l8 G (aS rs)=some Zc:=(gH G _).trans (Zq some (oj rs))
theorem EW(D:Zdh)(hb:ZcS)(rm:Rm X m (l+1))(hx:Yb x=some Zbu)(hy:Yb d=some Zc6)(h1:SU (a+1))(h2:SU (a+c))(hp:Uy=4)(hq:post.length=6)(k:g (.str (pre++aN a c++post)) E)(hg:Z3 (YJ "_law_range"=Zaa) aR)(n:Z3 ((x=="__classdict__")=false) aD)(e:Z3 ((x=="__debug__")=false) aD)(f:Z3 ((d=="__classdict__")=false) aD)(i:Z3 ((d=="__debug__")=false) aD):EV X m Zn (ZH (.BinOp (.BinOp (.Constant (.str pre) q p1) .Add (.Call (.Name "_law_range" p2) [.Name x r,.Name d s] [] u) F) .Add (.Constant (.str post) k2 M) S) Zn) o E g:=by
 have hr:=fc h1 h2;refine YU (YU (Wb (s_ b hg D.range.gl D.range.fn.get D.range.fn.nt rfl (Zu (Z4 hx (Zu (Z4 hy (Y5 (nW D.range.fn b hb rm h1 h2 ⟨_,dN ?_,Wb ⟨_,dN ?_,k⟩⟩)) f i)) n e)))));.rw[hp,af];exact a9 0x1fcbe017e5e1 [41,4,16777216] [_] [] hr
 .rw[UK,hp,hq,af];exact a9 0x7f2f83e017e5e1 [41,4,6,16777216] [_] [] hr
def IB(rs:J (Z×Z))(m:Zv)(aL a8:MV)(o n:Zv):YV:=[("rows",aS rs),("n",.int m),("back",.lst ((bR (m+1) rs).map .int)),("ahead",.lst ((bR (m+1) VM).reverse.map .int)),("told",aL),("hunk",a8),("old",.int o),("new",Zbp)]
inductive J9(rs:J (Z×Z))(m:Zv)(G:GH)(t:Y9)(st:vj)(l:YV)(i:GH):Prop where|mk(a:Y9)(h:G a=none)(ne:a≠t)(g:i=Y7 (Y7 G t (.list (ah Tx))) a ZbL)(e:l=IB rs m (.ref t) Zaj SD SA)
abbrev Am(pm cd Wv:ZP)(a fa:Y9):S2:=Xd (t8 (cx 14) pm cd Wv .none .none) a fa
abbrev AU:J Wa:=bH ((bH (cx 14)).getD 6 (.Pass default))
theorem y4{st:vj}(D:Zdh)(hb:ZcS)(rm:Rm X m (n+1))(hs:∀r∈rs,r.1=("-")\/r.1=("+")\/r.1=(" "))(a:Zc<=10000)(N:∀r∈rs,r.2.length<=1000)(c:k<Zc+1)(j:T2<=k)(f:H7 rs st k)(Q:E l=none)(u:l≠d)(S:∀hb o,E hb=none->hb≠d->N' (IB rs F ZaG (.ref hb) (SD+WR W9+1) (SA+Wz W9+1)) o->B .next o (Y7 (Y7 E d (.list (ah (if W9=[]then Tx else Tx++cS st)))) hb Zaq)):EF X m (Am pm cd Wv V fa) (Yk (AU.drop 1) (Am pm cd Wv V fa)) (IB rs F ZaG (.ref l) SD SA++([("k",Za0)]:YV)) (Y7 (Y7 E d (.list (ah Tx))) l ZbL) B:=by
  walk_at"ap";have o0:=f.o0;have o1:=f.o1;have n0:=f.n0;have n1:=f.n1;have t1:=f.t1;have w:WR W9<=T2:=eE _ _;have hw:Wz W9<=T2:=eE _ _;have y:T2<=ZK:=by rw[af];(exact rU 0x1ffff2f1e423cbc5a83841 [10000,16777216] [_,_,_] [] c a j)
  refine EF.D7 (x:="hunk") (aa ..) rfl ?_;rw[mB _ _ _ (by rw[ag u];exact Q)];clear u;refine ZJ (Zk (pa (f:="len") b hb rm (Zu (p4 (c:=cu) [] W9 aZ (λr o=>aJ "line" (.str r.2) (aJ "sign" (.str r.1) o)) (λr=>!(r.1==("+"))) (λr=>.str r.2) ⟨rfl,rfl,by decide,by decide,λq hq=>(nomatch hq),λq hq=>(nomatch hq)⟩ (p3 YQ (Z4 rfl ⟨rfl,?_,Y5 ⟨_,FY (n:=WR W9) (by rw[gH,Z2,Cn]) (by rw[af];(exact pk 0x1fffff9797222e5e4d41c41e64384841 [5,5,10000,16777216] [_,_,_,_,_] [] t1 c a w)),?_⟩⟩))))) (.inl rfl));.refine⟨y,λC r hr=>(bk YQ (.inl rfl) (.inl rfl)).gA,λr hr x PM e=>(nomatch e),λC i r hr hG=>?_⟩;exact Fl (XC rm (Z4 rfl (Wb ⟨!(r.1=="+"),rfl,rfl,rfl,λO=>Z4 rfl ⟨rfl,rfl⟩⟩)))
  refine ZJ (Zk (pa b hb rm (Zu (p4 [] W9 aZ (λr o=>aJ "line" (.str r.2) (aJ "sign" (.str r.1) o)) (λr=>!(r.1=="-")) (λr=>.str r.2) ⟨rfl,rfl,by decide,by decide,λq hq=>(nomatch hq),λq hq=>(nomatch hq)⟩ (p3 YQ (Z4 rfl ⟨rfl,?_,Y5 ⟨_,FY (by rw[gH,Z2,By]) (by rw[af];(exact pk 0x1fffff9797222e5e4d41c41e64384841 [5,5,10000,16777216] [_,_,_,_,_] [] t1 c a hw)),?_⟩⟩))))) (.inl rfl));.refine⟨y,λC r hr=>(bk YQ (.inl rfl) (.inl rfl)).gA,λr hr x PM e=>(nomatch e),λC i r hr hG=>?_⟩;exact Fl (XC rm (Z4 rfl (Wb ⟨!(r.1=="-"),rfl,rfl,rfl,λO=>Z4 rfl ⟨rfl,rfl⟩⟩)))
  refine ZJ ?_;generalize PN:iU _ _ _ _ _=PR;have T:∀t,t=(if W9=[]then Tx else Tx++cS st)->PR .next (IB rs F ZaG (aS W9) SD SA++([("k",Za0),("olds",.int (WR W9)),("news",.int (Wz W9))]:YV)) (Y7 E d (.list (ah t))):=by
    intro t ht;subst PN;refine(?_:EF X _ _ _ _ _ _);refine ZJ (ha YQ (WD:=["old","new","hunk"]) (TL (Zu (X0 b hb rm (gl:=[]) (e7 rfl) (mv:=.int (SD+WR W9+1)) Z_ (Zu (X0 b hb rm (gl:=[]) (e7 rfl) (mv:=.int (SA+Wz W9+1)) Z_ (Zu (VX (Y5 ⟨by decide,λz g=>?_⟩)))))))) (qE Z_));have A:z≠d:=by intro PS;subst PS;rw[aa]at g;cases g
    rw[ag A]at g;exact Y5 ⟨Ii,_,rfl,rfl,YW (ht▸S z _ g A Zb3)⟩
  refine XF (EB.Jz rm rfl (bO ..) ⟨λh1=>?_,λh1=>YW ?_⟩)
  . have p:W9≠[]:=by intro e;rw[e]at h1;cases h1
    have s:=gr W9 false "- ";have G:=gr W9 true "+ ";have I:∀r∈W9,r.1="-"\/r.1="+"\/r.1=" ":=λr hr=>hs r (f.hm r hr);have M:∀r∈W9,r.2.length<=1000:=λr hr=>N r (f.hm r hr);refine ZJ (VI (M_ (Z4 rfl ⟨d,_,rfl,aa ..,YU (Uw (Zu (Wb (Zu (EW D hb rm rfl rfl (pk 0xfffffd3eb072b330c263565e2ca9ba83841 [10000,1099511627776] [_,_,_] [_] c o0 a o1:SU (SD+1)) (E9 0x1ffffffd3eb098d599861322b2a6e483cbc5a83841 [10000,1099511627776] [_,_,_,_] [_] c a w o0 o1:SU (SD+WR W9)) rfl rfl (Y5 ⟨ym,s_ b rfl D.half.gl D.half.fn.get D.half.fn.nt rfl (Zu (Z4 rfl (Zu (X2 (Zu (Wb (Y5 (qg (Yj:=false) D.half.fn b hb rm I (rU 0x1ffff2f1e423cbc5a83841 [10000,100000] [_,_,_] [] c a j) M Z' ⟨_,gj rfl rfl ?_,_,_,aa ..,aF ..,?_,rfl,?_⟩))))))))⟩))))))⟩)));.rw[az,af];(exact pk 0x7ffffe5f02bf222e5e4d41c41e64384841 [5,5,10000,2,16777216] [_,_,_,_,_] [] t1 c a s)
    .rw[az,Z1,az,af];(exact pk 0x1fffff97c205787222e5e4d41c41e64384841 [5,5,10000,2,16777216] [_,_,_,_,_] [] t1 c a s)
    rw[aP];refine ZJ (VI (M_ (Z4 rfl ⟨d,_,rfl,aa ..,YU (Uw (Zu (EW D hb rm rfl rfl (pk 0xfffffd3eb072b330c263565e2ca9ba83841 [10000,1099511627776] [_,_,_] [_] c n0 a n1:SU (SA+1)) (E9 0x1ffffffd3eb098d599861322b2a6e483cbc5a83841 [10000,1099511627776] [_,_,_,_] [_] c a hw n0 n1:SU (SA+Wz W9)) rfl rfl (Y5 ⟨FR,s_ b (f:=v_ (cx 13)) rfl D.half.gl D.half.fn.get D.half.fn.nt rfl (Zu (Z4 rfl (Zu (X2 (Zu (Wb (Y5 (qg (Yj:=true) D.half.fn b hb (n:=n) rm I (rU 0x1ffff2f1e423cbc5a83841 [10000,100000] [_,_,_] [] c a j) M Z' ⟨_,gj rfl rfl ?_,_,_,aa ..,aF ..,?_,rfl,YW ?_⟩))))))))⟩))))⟩)));.rw[az,af];(exact pk 0x7ffffe5f02bb222e5e4d41c41e64384841 [5,5,10000,16777216] [_,_,_,_,_] [] t1 c a G)
    .rw[Z1,Z1,Z1,az,az,az,af];(exact E9 0x7ffffff2f840d0736102c1d07343911b222e5e4d41c41e64384841 [5,5,10000,16777216] [_,_,_,_,_,_] [] t1 c a s G)
    rw[aP];have e:ah Tx++(ah ["***************\n","*** "++aN SD (WR W9)++" ****\n"]++ah (half W9 false "- "))++(ah ["--- "++aN SA (Wz W9)++" ----\n"]++ah (half W9 true "+ "))=ah (Tx++cS st):=by simp only[ah,cS,ZE,ZQ]
    exact e▸T (Tx++cS st) (ZY p).symm
  . have p:W9=[]:=by cases e:W9 with|Yl=>rfl|Zp x PT=>rw[e]at h1;cases h1
    exact T Tx (ZT p).symm
theorem B0(D:Zdh)(F:h7 X fa (cx 14) pm cd Wv .none .none)(hb:ZcS)(rm:Rm X m (n+2))(hs:∀x∈rs,x.1=("-")\/x.1=("+")\/x.1=(" "))(y:Zc<=10000)(T:∀x∈rs,x.2.length<=1000)(P4:0<=c)(u:g (.lst (ah (vx rs c))) E):b8 X m ZaA [aS rs,Zc6] E g:=by
  refine h6 b rm ["rows","n"] (zl λO O=>rfl) Z' rfl (λV PM hx=>?_) λV=>?_
  . simp only[XW,YL,Vt]at hx;rcases hx with rfl|rfl;.exact .inl rfl
    .exact .inl rfl
  intro Zn;have j:=WH Zn;have s:Zc<=ZK:=by rw[af];(exact O3 y)
  refine ZJ (Zk (pa (f:="min") (q:=.builtin "min") b hb j (Zu (Z4 rfl (Zu (r3 b hb j rfl (gN ..) s (Y5 ⟨.int (if(Zc:Zv)<c then(Zc:Zv)else c),by kernel_rfl!,?_⟩)))))) (.inl rfl));unfold vx at u;dsimp only at u;generalize hm:(if(Zc:Zv)<c then(Zc:Zv)else c)=d at u;refine ZJ (Zk ?_ (.inl rfl));refine s_ b (f:=v_ (cx 11)) rfl D.Ep.gl D.Ep.fn.get D.Ep.fn.nt rfl ?_;refine Zu (Z4 rfl ?_);refine Zu (Z4 rfl ?_);refine Y5 (sC D.Ep.fn b hb (n:=n) j s ?_);refine ZJ (Zk ?_ (.inl rfl));refine EV.th (s_ b (f:=v_ (cx 11)) rfl D.Ep.gl D.Ep.fn.get D.Ep.fn.nt rfl ?_);refine Zu (EV.th (Z4 rfl (EV.neg ⟨_,rfl,aF ..,?_,?_⟩)));.rw[oj];exact s
  refine Zu (Z4 rfl ?_);rw[show MV.lst (h5 aZ).reverse=aS VM by simp[aS,hT]];refine Y5 (sC D.Ep.fn b hb (n:=n) j (by rw[X6];exact s) ?_);refine EV.neg ⟨_,rfl,aF ..,?_,?_⟩;.rw[Z2,bw,X6];exact s
  rw[<-hT];refine ZJ (Zk (VX (Y5 ⟨by decide,λt PN=>?_⟩)) (.inl rfl));refine ZJ (Zk (VX (Y5 ⟨by decide,λp q=>?_⟩)) (.inl rfl));refine ZJ (EF.xM (X2 ?_) (.inl rfl) (.inl rfl));refine ZJ (EF.vw (c:=cu) (λPR=>J9 rs d E t (cL rs d PR)) (gh.rY j.handled b hb rfl D.Ba.1 D.Ba.2 (YU (r3 b hb j rfl (gN ..) s (X2 ⟨.int (Zc+1),rfl,_,rfl,?_,?_⟩)))));.exact a9 0x7f4fac1d30e5e1 [10000,1099511627776] [_] [] y
  have w:p≠t:=by intro PS;subst PS;rw[aa]at q;cases q
  rw[ag w]at q;refine⟨λk l=>aJ "k" Za0 l,_,⟨p,q,w,rfl,rfl⟩,?_,λk I=>UM (.inl rfl),λk l i I z=>?_,λl i z=>?_⟩;.exact av Z_
  . obtain⟨p,q,w,rfl,rfl⟩:=z;have PT:k<Zc+1:=by exact aV 0x1fd41c20ea9074c41 [_,_] I
    rw[d7];have A:(cL rs d k).a8.length<=k:=qI rs d k;have M:=iG rs d k;generalize cL rs d k=st at A M;refine ZJ ?_;generalize N:iU _ _ _ _ _=PW;have B:¬(k<Zc/\near rs d k=true)->PW .next (IB rs d (.ref t) Zde SD SA++([("k",Za0)]:YV)) (Y7 ZbH p ZbL):=by
      intro PX;subst N;refine(?_:EF X _ _ (Yk (AU.drop 1) _) _ _ _);rw[show fy rs d st k={aL:=if W9=[]then Tx else Tx++cS st,a8:=[],old:=SD+WR W9+1,new:=SA+Wz W9+1}from ZY PX];exact y4 D hb (n:=n) j hs y T PT A M q w λPY l h1 h2 PZ=>⟨_,⟨PY,h1,h2,rfl,rfl⟩,PZ⟩
    refine XF (VS (XC j (Z4 rfl (r3 b hb j rfl (gN ..) s ⟨decide ((k:Zv)<Zc),rfl,⟨λh1=>VS (Dm b hb j (e7 Z_:∀f,[("min"),"len"].contains f=true->YJ f=Zaa) rfl rfl rfl rfl rfl rfl rfl (fx (Zi h1)) s ⟨λh2=>u_ ⟨λO=>?_,λh=>nomatch h⟩,λh2=>⟨λh=>(nomatch h),λO=>YW (B λh=>?_)⟩⟩),λh1=>⟨λh=>(nomatch h),λO=>YW (B λh=>?_)⟩⟩⟩))))
    . have C:k<Zc:=fx (Zi h1);have Q:rs[k]?=some rs[k]:=Z6 C;clear B;subst N;refine(?_:EF X _ _ _ _ _ _);rw[show fy rs d st k={st with a8:=W9++[rs[k]]}from(ZT ⟨C,h2⟩).trans (by rw[Q];rfl)];refine ZJ (VI (W4 (Z4 rfl ⟨p,_,rfl,aa ..,Ys (Z4 rfl (Z4 rfl ⟨aZ rs[k],gY (by rw[Zy,Q];rfl) (by rw[oj];exact s),_,aa ..,?_,rfl,ZJ (EF.cont ⟨_,⟨p,q,w,?_,rfl⟩,?_⟩)⟩))⟩)));.rw[Z2,af];(exact rU 0x7fffcbc7908f2f16841 [10000,16777216] [_,_,_] [] C y A)
      .rw[aP,ZE];rfl
      .exact av Z_
    .rw[h2]at h;cases h.2
    .exact Za (Vc h.1) (VN h1)
  . obtain⟨p,q,w,YA,YB⟩:=z;rw[YA,YB];have P0:((Zc:Zv)+1).toNat=Zc+1:=by exact cY 0x1b8383483a61 [_]
    rw[P0];have S:=(iG rs d (Zc+1)).t1;generalize(cL rs d (Zc+1))=st at u S;have gt:Y7 ZbH p ZbL t=some (.list (ah Tx)):=cB (aa ..) (by rw[ag w];exact q);have G:∀a o,E a=Zag->Y7 ZbH p ZbL a=Zag/\a∉([]:J (Y9×J MV)).map (·.1):=λa o e=>⟨cB (cB e PN) (by rw[ag w];exact q),YL⟩;generalize Y7 ZbH p ZbL=P5 at gt G;refine ZJ (QO (EV.fh (EV.ER (EB.Jz j rfl (lX gt) ⟨λh1=>YU (Uw (Zu (Wb (Zu (Wb (Y5 ⟨by decide,Z4 rfl ⟨.lst (ah [("*** \n"),"--- \n"]++ah Tx),gj (aF ..) (c8 gt) ?_,[],E,_,λP2 hp=>(nomatch hp),G,λr O=>.refl _,?_⟩⟩)))))),λh1=>Uw (Y5 ⟨by decide,[],E,_,λP2 hp=>(nomatch hp),G,λr O=>.refl _,?_⟩)⟩))));.show 2+(ah Tx).length<=_;rw[az,af];(exact cD 0x3ffcbe017e5e3cca0e1c041 [5,10000,2,16777216] [_,_,_] [] S y)
    . have:Tx≠[]:=by intro e;rw[e]at h1;cases h1
      rw[ZY this]at u;exact u
    . have:Tx=[]:=by cases e:Tx with|Yl=>rfl|Zp PM P6=>rw[e]at h1;cases h1
      rw[ZT this]at u;exact u
def fz(k i:U):Wa:=((bH (cx k))[i]?).getD (.Pass default)
def xV(q:Z)(st:Wa)(pm cd Wv d k:ZP):CL:={t8 st pm cd Wv d k with qualname:=q}
structure vl(X:Cx)(fa:Y9)(q:Z)(st:Wa)(pm cd Wv d k:ZP):Prop where
 get:YF fa=some {T':=Zao,Xg:=.func (xV q st pm cd Wv d k)}
 nt:fa≠tx
 rX:G5 cd q
 nc:cd≠.ref tx
theorem vl.call(F:vl a fa q Ny pm cd Wv d k)(b:V1 a)(rm:Rm a i n)(WD:J Z)(j:∀c:Zc4,Yv=W0->S1 ZcE ⟨c,[]⟩=Yh (WQ c))(hn:Sr)(l:x6=W0)(m:∀e,∀x∈WD,(bu Ny).names.lookup x=some .local\/((bu Ny).names.lookup x=Zbm/\((Ct (e+1) (bu Ny).names []).lookup x).isSome=true))(h:∀e,let Zn:=Xd ZcE e fa;EF a (i.deeper Zn) Zn (Yk (bH Ny) Zn) (WQ f) r (rF g))(o:Z3 ((bu Ny).isCoroutine=false) aR)(p:Z3 ((bu Ny).isGenerator=false) aR)(s:Z3 ((bu Ny).kind=.function) aR):b8 a i ZaA f r g:=b8.body b WD F.get F.nt rfl F.rX F.nc rfl rfl rfl rfl j hn l m w1 h o p s
structure AE(X:Cx)(fa:Y9)(q:Z)(st:Wa)(pm cd Wv d k:ZP)(an:Zs Y9):Prop where
 get:YF fa=some {T':=Zao,Xg:=.func {xV q st pm cd Wv d k with annotations:=an}}
 nt:fa≠tx
 rX:G5 cd q
 nc:cd≠.ref tx
theorem AE.call(F:AE a fa q Ny pm cd Wv d k an)(b:V1 a)(rm:Rm a i n)(WD:J Z)(j:∀c:Zc4,Yv=W0->S1 {xV q Ny pm cd Wv d k with annotations:=an} ⟨c,[]⟩=Yh (WQ c))(hn:Sr)(l:x6=W0)(m:∀e,∀x∈WD,(bu Ny).names.lookup x=some .local\/((bu Ny).names.lookup x=Zbm/\((Ct (e+1) (bu Ny).names []).lookup x).isSome=true))(h:∀e,let Zn:=Xd ZcE e fa;EF a (i.deeper Zn) Zn (Yk (bH Ny) Zn) (WQ f) r (rF g))(o:Z3 ((bu Ny).isCoroutine=false) aR)(p:Z3 ((bu Ny).isGenerator=false) aR)(s:Z3 ((bu Ny).kind=.function) aR):b8 a i ZaA f r g:=b8.body b WD F.get F.nt rfl F.rX F.nc rfl rfl rfl rfl j hn l m w1 h o p s
theorem IL(h:B .next o E)(c:Z3 (g_ A=false) aR)(hs:Z3 (N0 (.Constant (.str x) k Np) none K3 A=Yh false) aR):EF X m A (TM (.Expr (.Constant (.str x) k Np) Ym) A) o E B:=λj s S=>wpAny_Expr ((Wb (g:=λb i=>b=.str x/\i=E) ⟨rfl,rfl⟩).use S λd l n b G a r e f=>by
  obtain⟨rfl,rfl⟩:=f;obtain⟨t,YA⟩:=sz;rw[YA];exact⟨d,.next,o,G,a,rfl,e,h⟩) c hs
theorem nr(ht:w' ZaX=Yh Zat)(hs:Manifest.isStub T=false)(e:findCls [] ZaX Zat name=some (.val a))(hh:handedIn a=true)(h:c (a,[]) {G with Wf:=Wu+1}):ZU YH m (NO (.type T) name f) c i G:=by
 have k:Frag.In [] YK:=λO O e=>by exact ax e
 have d:opaqueClassAbove ZaX=Yh none:=by unfold opaqueClassAbove;dsimp only;rw[hs];rfl
 have b:V3 YH YK (w' (.type T)) Zat:=SW ht;refine Z7 (Z7 (b.here ((kp k type_tga).here ?_)));refine Z7 (ZS ?_ (λO O z=>Z5 z) λO O z=>z);exact cls_open k (SW d) b type_tga (looks_hook k (by rfl)) (by show subIn [] _ _=_;rfl) e (Z5 (by show ZU _ _ (handedOut a) _ _ _;rw[handedOut_of hh];exact Z5 h))
theorem ty_tuple:w' Zac=Yh Zat:=by kernel_rfl
theorem wM:Manifest.isStub "tuple"=false:=by decide+kernel
theorem nK:findCls [] Zac Zat "__new__"=some (.val (.builtin "tuple.__new__")):=by kernel_rfl
theorem yC:handedIn Zcr=true:=by kernel_rfl
theorem EV.B6(b:Zck)(t:Zap)(j:Xs "tuple"=Zaa)(hn:VY "tuple"=none)(hv:U9 "tuple"=some Zac)(h:EA X m A [Ng,Nn] o E λd w=>∃i,d=[Zay,.tup i]/\W6<=ZK/\g (.seq (.ref z) i) w)(l:Z3 (Zr [Ng,Nn] A=(false,ZaF)::Zr [Nn] A) aR)(hp:Z3 (∀N2,(UE N2 (Zr [Nn] A)).any (·.1)=false) aI)(he:Z3 (ZH (.Call ZcZ [Ng,Nn] [] N2) A=(do
   let e<-ZH (.Name "tuple" Np) A
   VT Nx.atName let(f,first)<-T8 [e] (NO e "__new__" Nz)
   OP N2 f first (UE N2 (Zr [Ng,Nn] A)) [])) aR):EV X m A (ZH (.Call ZcZ [Ng,Nn] [] N2) A) o E g:=λV PM n=>by
 walk_at"a";refine OM (pl:=Nz) ?_ he;walk_at"a";refine(p9 (g:=λq w=>q=.raw Zac/\w=E) b j hn hv ⟨rfl,rfl⟩).use n λPN PR PS mv PT u r y B=>?_;obtain⟨rfl,rfl⟩:=B;rw[UZ];refine nr (T:="tuple") (name:="__new__") (a:=Zcr) (f:=Nz) ty_tuple wM nK yC ?_;refine hS ((h N2).use (y.toks _) λC s PW d G D F S k=>?_) l (hp N2);obtain⟨i,rfl,I,k⟩:=k;obtain⟨v1,_,YA,M,v2,_,YB,r2,YC⟩:=F;rw[YA,YB,YC];rw[M.raw];obtain⟨a,x,PX,YA,p,rl⟩:=r2.seq;rw[YA];refine V_ (zY t (t.at_ i2) (Yg _ _ p) rfl rfl (by rw[WZ];exact I) λc ON=>?_);have N:ak X C A o G {s with X_:=c.push {T':=Zaf,Xg:=.dict #[]}}:=Q1 λa T Ng=>ZA _ (ON a T Ng);have e1:(c.push {T':=Zaf,Xg:=.dict #[]}).objs.size=c.objs.size+1:=I7 ..;refine⟨_,.seq Zay i,G,(u.trans D).trans Tu,?_,(N.Bg (X8 (.ref z) x c.objs.size)),k⟩;exact⟨_,x,_,rfl,.inr ⟨e1.symm,rfl⟩,e6 Tu⟩
theorem b8.Gk(t:Zap)(rm:Rm X m (n+1))(h:∀A,Rm X A n->b8 X A ZcA (.ref z::f) E λb w=>(∃i,b=.seq Zay i)/\l b w):b8 X m Zay f E l:=λe s c d g=>by
 walk_at"k";refine tU t (t.at_ d) (V9 (h _ (rm.make c) e _ (.ref z::c) (d.toks _) (.cons (aE ..) g)) λy a q=>?_);walk_at"b";obtain⟨B,r,mv,w,rfl,j,o,S,⟨i,rfl⟩,k⟩:=q;obtain⟨x,u,n,rfl,p,rl⟩:=o.seq;refine⟨x,_,rfl,C1 _ _ p,rfl,t.at_ S,?_⟩;refine⟨_,r,.seq Zay i,w,rfl,j,?_,S,k⟩;exact⟨x,u,n,rfl,p,rl⟩
theorem EV.DH(b:Zck)(t:Zap)(j:Xs f=Zaa)(hv:VY f=some Zay)(h:EA X m A (c::d) o E λe w=>b8 X m Zay e w l)(n:Z3 ((f==("__debug__"))=false) aD)(he:Z3 (gK A c d) aR)(hp:Z3 ((UE Ym (Zr d A)).any (·.1)=false) aR):EV X m A (ZH (.Call (.Name f F) (c::d) [] Ym) A) o E l:=λC s p=>by
 walk_at"a";refine sL ?_ rfl;walk_at"a";refine(mw (g:=λu w=>u=.raw Zay/\w=E) b j hv ⟨rfl,rfl⟩ n).use p λD I M mv G a r S k=>?_;obtain⟨rfl,rfl⟩:=k;rw[UZ];refine callWith_K (first:=[]) (t.at_ i2) t.keep ((h Ym).use S λN T V e PM x y i B=>⟨t.at_ i.g,?_⟩) he hp;exact ZS (B.ev i y) (λO O q=>mc (V8 x)) λO O q=>q
def vv(h:C_)(a:Y9)(i:Ua ZP):Prop:=∃o,Vl a=Zag/\∃n,OA=.seq i n
theorem vv.keep(x:vv h a i)(k:∀o,Vl a=Zag->b.get? a=Zag):vv b a i:=Su x λo Yw=>Uc Yw λe r=>⟨o,k o e,r⟩
theorem Dw(c:oa it a i)(ht:vv YK a f)(hx:f[i]?=Zak)(e:∀d,d.IsTupleIter it a (i+1)->Xp it YK d->k Zak {G with X_:=d}):ZU YH m ZaU k n G:=by
 obtain⟨o,b,g,hd⟩:=id c;obtain⟨ol,j,nl,l⟩:=ht;refine Z7 (Vd (XI c.typeIs Te (X7 Te c.typeIs en ?_ (fv _))));walk_at"c";show ZU _ _ (field Zb4 0>>=_) _ _ G;refine Z7 (OG b hd (x:=Zaj) rfl ?_);show ZU _ _ (field Zb4 1>>=_) _ _ G;refine Z7 (OG b hd (x:=.int i 0) rfl ?_);show ZU _ _ (L1 Zaj>>=_) _ _ G;refine Z7 (VG j l ?_);simp only[ki,hx];refine Z7 (Ui b hd (by simp) (Z5 ⟨x,rfl,Z5 (e _ ?_ (Y_ ..))⟩));exact⟨_,YS _ b (Obj.isFreed_of_fields (Obj.data_mapFields hd _)),(Obj.cls_mapFields ..).trans g,by rw[Obj.data_mapFields hd];simp[VW]⟩
theorem F2(hh:XZ=none)(a:oa it b i)(ht:vv YK b f)(hx:f[i]?=none)(e:∀d,Tj it YK d->k none {G with X_:=d}):ZU YH m ZaU k l G:=by
 obtain⟨o,c,n,hd⟩:=id a;obtain⟨ol,g,nl,j⟩:=ht;refine Z7 (Vd (XI a.typeIs Te (X7 Te a.typeIs en ?_ (fv _))));walk_at"c";show ZU _ _ (field Zb4 0>>=_) _ _ G;refine Z7 (OG c hd (x:=ZaQ) rfl ?_);show ZU _ _ (field Zb4 1>>=_) _ _ G;refine Z7 (OG c hd rfl ?_);show ZU _ _ (L1 ZaQ>>=_) _ _ G;refine Z7 (VG g j ?_);simp only[ki,hx];refine Z7 (Vw (Z7 (Ui c hd (S_ _) ?_)));walk_at"h";show ZU _ _ (newExc ZbJ []>>=_) _ _ _;refine Z7 ?_;refine Z7 (Yn ?_ (by size_fits));walk_at"h";refine Z7 (VH (a:=U6) (by first|rfl|(simp only[sk];rfl)) ?_);refine Yn ?_ (by size_fits);refine Z7 (px ?_);first|rw[show pn=none from hh]|rw[hh]
 refine Z7 (Z5 (g4 ?_));refine Z7 (Um ⟨_,ZL _ rfl,rfl⟩ I5 ?_);exact Z5 (e _ (((Y_ ..).extBut.push _).push _))
theorem Eh(p:b≠it):∀(n i:U)(G:Zb)(Q:Zc4->Zb->Prop),oa it b i->vv YK b a->i+n<=T6->(∀c,c.IsTupleIter it b (i+n)->Xp it YK c->Q ((a.toList.drop i).take n) {G with X_:=c})->ZU YH m (draw (.ref it) n) Q k G:=by
 intro I;induction I with
 |VZ=>
  intro i G Q d _ _ f;show ZU _ _ (Yh []) Q k G;exact Z5 (by simpa using f YK d (R4 ..))|VC n q=>
  intro i G Q d ht g f;have j:i<T6:=by exact GP g
  show ZU _ _ (VO Zb4>>=_) Q k G;refine Z7 (Dw d ht (x:=a[i]) (by simp[j]) λw r l=>?_);refine Z7 (ZF (q (i+1) _ _ r (ht.keep λo e=>l.extBut _ _ p e) (GO g) λs t u=>Z5 ?_));have hd:a.toList.drop i=a[i]::a.toList.drop (i+1):=by simp[XB,j]
  have:=f s (by rw[show i+(n+1)=i+1+n by(exact E6)];exact t) (l.trans u);rw[hd,List.take_succ_cons]at this;exact this
theorem C3:OH "tuple.__iter__"=some .slot:=by decide+kernel
theorem Bx:splitId "tuple.__iter__"=some ("tuple","__iter__"):=by decide+kernel
theorem bM.special(t:Zap)(k:pd h)(a:Vl x=Zar)(c:b.cls=Zay)(d:findIn NQ Zay name=some Zb5):V3 YH h (q9 (.ref x) name) Zb5/\V3 YH h (isInstance (.ref x) (.type "tuple")) true:=by
 walk_at"g";have t1:V3 YH h (w' (.ref x)) Zay:=(IV a).andThen (by rw[c];exact .now);obtain⟨o,g,cd,s,f,e1,e2,e,i,j⟩:=t.obj;exact⟨t1.andThen (kp k d),t1.andThen (gx k (by unfold mroIn clsIn;rw[f];simp[e]))⟩
theorem uB(t:Zap)(k:pd YK)(i:ZG x=some l)(j:l.cls=Zay)(n:a ZaD {G with X_:=Zj {T':=ZbV,Xg:=.fields #[ZaK,.int 0 0]}}):ZU YH m (h' (.ref x)) a b G:=by
 obtain⟨f,o⟩:=hR k i j t.iter;refine Z7 (f.here ?_);show ZU YH m (callSpecialIfBoundUnlessNone? ZaK "__iter__" _>>=_) a b G;refine Z7 ?_;walk_at"a";refine ZF (Z7 (Z7 (f.here ?_)));walk_at"a";refine Z7 (Ul (UR ?_));have c:∀A,U4 YH A (.call (.builtin "tuple.__iter__") ⟨[ZaK],[]⟩) (λr s=>r=.ok (.ret (.ref ZZ))/\s={G with X_:=Zj {T':=ZbV,Xg:=.fields #[ZaK,.int 0 0]}}) G:=λA=>by
  walk_at"k";refine Wo F.slot_tuple_iter.plain F.entry_tuple_iter (@od YH _ _ _ _ _ _ _ _ _ _ C3 Bx o (F.args_tuple_iter_1 _) ?_);show ZU _ _ (do fj (<-hQ "tuple_iterator" [ZaK,VW 0])) _ _ G;exact Z7 (Yn (Z5 ⟨rfl,rfl⟩))
 have Ub:∀g d,d (some (.ref ZZ)) {G with X_:=Zj {T':=ZbV,Xg:=.fields #[ZaK,.int 0 0]}}->ZU YH m (if(Value.builtin "tuple.__iter__"==U6)=true then(g>>=λe=>Yh ZbU)else(VP (.builtin "tuple.__iter__") [ZaK]>>=λe=>Yh ZbU)) d b G:=λg d q=>by exact Z7 (V_ (V9 (c _) λr s h=>by rw[h.1,h.2];exact Z5 q))
 have last:ZU YH m (match(some (L' ZZ))with|some it=>(do match<-q9 it "__next__"with|none=>(do rule "iter.non-iterator";raiseError"TypeError"s!"iter() returned non-iterator of type '{<-typeNameOf it}'")|some _=>Yh it)|none=>Yh .none) a b {G with X_:=Zj {T':=ZbV,Xg:=.fields #[ZaK,.int 0 0]}}:=Z7 (Vy ⟨_,ZL _ rfl,rfl⟩ F.slot_tuple_iterator_next.lookup (Z5 n));split;.exact Z7 (Z5 (Z5 (Ub _ _ last)))
 .exact wpAny_tryCatch (Z7 (Z5 (Z5 (Ub _ _ last))))
theorem lL(t:Zap)(hh:XZ=none)(k:pd YK)(c:ZG x=ZaB)(d:a.cls=Zay)(hd:a.data=.seq i n)(o:∀f,Tj ZZ YK f->q ct {G with X_:=f}):ZU YH m (unpackItems (.ref x) cb none) q F G:=by
 have g:=Y' (XR c);have j:vv YK x i:=⟨a,c,n,hd⟩;obtain⟨p,_⟩:=hR k c d t.iter;refine Z7 ?_;walk_at"a";refine Z7 (p.here ?_);refine Z5 ?_;refine Z7 (ZF (uB t k c d ?_));walk_at"f";refine Z7 (ZF (Eh g cb 0 _ _ ⟨_,ZL _ rfl,rfl,rfl⟩ (j.keep λa e=>ZA _ e) (cY 0x190c02d [_]) λy r l=>?_));have s:List.take cb (List.drop 0 ct)=ct:=by rw[Uo];exact YR (by simp)
 rw[s];rw[ZY (by simp)];walk_at"f";refine Z7 (ZF (F2 hh r ((j.keep λa e=>ZA _ e).keep λa e=>l.extBut _ _ g e) (by simp) λu w=>?_));exact Z5 (o u λb a hb e=>w b a hb (l.extBut b a hb (ZA _ e)))
theorem TG.J'(t:Zap)(hh:XZ=none)(c:∀x∈NB,aM A x.1)(hl:rb=Zw):TG X m cu A Zc7 (.seq (.ref z) b) (λo=>dU o (Vk (·.1)) b):=λf o G s i S r=>by
 obtain⟨a,j,n,YA,p,rl⟩:=aw.seq r;rw[YA];show ZU _ _ (do VT Ym;unpack Zaj (I8 (Vk nm) A)) _ _ _;refine Z7 (Yq ?_);unfold unpack;rw[ei];have d:(Vk (Hi A)).findIdx? (·.1)=none:=by rw[S9];intro x hx;obtain⟨y,_,rfl⟩:=Zl hx;rfl
 rw[d,Z2,hl,<-WZ];refine Z7 (ZF (lL t hh (t.at_ i2) (Yg _ _ p) rfl rfl λe he=>?_));have:=jR (m:=m) hl c (Q1 (Nc:={s with X_:=e}) (km he)) rl;rw[Xo];exact this
theorem TG.Bl(t:Zap)(hh:XZ=none)(hx:aM A x)(hy:aM A b)(c:aM A a):TG X m cu A (.Tuple [.Name x d,.Name b q,.Name a r] k Ym) (.seq Zay [f,i,l]) (λo=>aJ a l (aJ b i (aJ x f o))):=TG.J' t hh (NB:=[(x,d),(b,q),(a,r)]) (by intro a c;simp only[XW,YL,Vt]at c;rcases c with rfl|rfl|rfl<;>assumption) rfl
theorem bq.FZ(h:TG X m cu A c d f)(k:Pa (f o) E):bq X m A c d o E Pa:=λb s e S r=>ZS (h b o E s e S r) (λO a g=>⟨b,f o,E,.refl b,g,k⟩) λO O q=>q
theorem Eg:OH "tuple.__len__"=some .slot:=by decide+kernel
theorem An:splitId "tuple.__len__"=some ("tuple","__len__"):=by decide+kernel
theorem Cv(c:ZG a=Zar)(hd:b.data=.seq f n)(h:i (.done (.ret (.int f.size Wu))) {G with Wf:=Wu+1}):ZU YH m (Builtin.«tuple.__len__» ⟨[Zaj],[]⟩) i k G:=by
 obtain⟨hh,g,d,t,os⟩:=G;walk_at"f";obtain⟨o,e,j,s⟩:=b;dsimp only at c hd;subst hd;repeat lk
 exact h
theorem B9(t:Zap)(hn:Zw<=ZK)(S:Zab)(r:aw y (.seq (.ref z) b) f)(k:i (.int Zw) E):ZU YH m (VP Zaz [f]) (PV X A y o i) bz G:=by
 walk_at"a";obtain⟨a,c,n,YA,p,rl⟩:=ho;rw[YA];have d:=Yg _ _ p;obtain⟨j,l⟩:=hR (t.at_ i2) d rfl t.len;refine Calls.call_function_entry kind_len plain_len entry_len (args_len1 _) ?_;walk_at"a";refine Z7 (Z5 ?_);have e:=WZ;refine Z7 ?_;refine Z7 (j.here ?_);refine ZF (Z7 (Z5 (Z7 (V_ (Wo F.slot_tuple_len.plain F.entry_tuple_len (@od YH _ _ _ _ _ _ _ _ _ _ Eg An l (F.args_tuple_len_1 _) ?_))))));refine Cv d rfl ?_;refine Z5 ?_;have e2:¬((J_:Zv)>=2^63):=by rw[e];have:=af;exact Lv this hn
 refine Z7 (ZF (Z5 ?_));refine Z7 (sg ?_);show ZU _ _ (if(J_:Zv)>=2^63 then _ else _) _ _ _;rw[ZY e2];refine Z7 (wpAny_mkInt (Z5 ⟨_,rfl,?_⟩));exact⟨y,.int Zw,E,ZbK,by rw[e];exact a0 ..,(Gf _).toks _,k⟩
structure d8(X:Cx)(b:Zck)where
 K:Frag
 C:Y9
 p:Y9
 fn:Y9
 q:Y9
 fm:Y9
 t:bM X K C p fn
 gl:VY ("Match")=some Zbr
 pm:ZP
 cd:ZP
 Wv:ZP
 Mb:ZP
 zU:ZP
 HO:ZP
 new:vl X fn "Match.__new__" (fz 3 4) pm cd Wv .none .none
 Mo:Zs Y9
 make:AE X fm "Match._make" (fz 3 5) Mb zU HO .none .none Mo
 tup:VY ("tuple")=none/\U9 ("tuple")=some Zac
 tw:findCls K Zbr Zat "_make"=some (.get (.builtin "classmethod.__get__") (.ref q) .none (.ref C))
 cm:recIn K q "classmethod"=some [.ref fm,.bool false]
 Ft:fnIn K fm=true
variable{NC:Zck}
abbrev d8.mv(D:d8 X NC)(i j k:Zv):MV:=.seq (.ref tk) [Zbs,Zb9,Za0]
theorem jW(a b c:MV):[a,b,c].length<=ZK:=by simp[af]
theorem Cz(D:d8 X b)(hb:ZcS)(rm:Rm X m (n+1))(c:g (D.mv i d k) E):b8 X m (.ref D.fn) [.ref tk,Zbs,.int d,Za0] E λa w=>(∃e,a=.seq (.ref tk) e)/\g a w:=by
 walk_at"aq";refine D.new.call b rm ["_cls","a","b","size"] (Le λO O O O=>rfl) Z' rfl ZbS λj=>?_;intro Zn;have hg:∀f,[].contains f=true->YJ f=Zaa:=e7 rfl;have r:=WH Zn;refine ZJ (IL ?_);refine ZJ (QO (EV.B6 b D.t rfl D.tup.1 D.tup.2 ?_));walk_at"B";refine Zu (X0 b hb r hg (mv:=.ref tk) ?_ ?_);.kernel_rfl!
 refine Zu (X0 b hb r hg ?_ (Y5 ⟨_,rfl,jW ..,⟨_,rfl⟩,c⟩));kernel_rfl!
theorem vr(D:d8 X b)(hb:ZcS)(rm:Rm X m (n+2))(a:c (D.mv i d k) E):b8 X m (.ref tk) [Zbs,.int d,Za0] E c:=b8.Gk D.t (n:=n+1) rm λA r=>Cz D hb (n:=n) r a
theorem yY(D:d8 X b)(hb:ZcS)(rm:Rm X m (n+1))(d:l (D.mv i a k) E):b8 X m (.ref D.fm) [.ref tk,.tup [Zbs,Zbu,Za0]] E l:=by
 walk_at"C";refine D.make.call b rm ["cls","iterable"] (zl λO O=>rfl) Z' rfl ZbS λg=>?_;intro Zn;have hg:∀f,[].contains f=true->YJ f=Zaa:=e7 rfl;have r:=WH Zn;refine ZJ (IL ?_);refine ZJ (Zk (EV.B6 b D.t rfl D.tup.1 D.tup.2 ?_) (.inl rfl));walk_at"B";refine Zu (X0 b hb r hg (mv:=.ref tk) ?_ ?_);.kernel_rfl!
 refine Zu (X0 b hb r hg (mv:=.tup [Zbs,Zbu,Za0]) ?_ (Y5 ⟨_,rfl,jW ..,?_⟩));.kernel_rfl!
 walk_at"ar";have c:=hb "len" Zaz (by rfl);refine ZJ (XF (XC r (b5 b rfl c.1 c.2 (.inl ⟨_,rfl⟩) (Zu (Z4 rfl (Y5 λj s o S e=>?_))))));walk_at"a";obtain⟨p,YA,q⟩:=ao.u e;rw[YA];refine B9 D.t (jW ..) S q (X2 ⟨false,rfl,(λh=>by cases h),λO=>YW ?_⟩);exact ZJ (QO (Z4 rfl d))
inductive Ij(X:Cx)(A:X5)(Zn:S2)(t:Wx)(W8:J Wa)(l:YV)(K:Gp->YV->GH->Prop)(m:MV)(f:GH):Prop where|mk(I:U->YV->GH->Prop)(a:Y9)(b:ZaY)(d:YV)(e:m=Zaj)(g:∀k l G,I k l G->G a=Zbz)(j:I 0 d f)(s:N' d l)(Ux:∀k m l G,b[k]?=Zcd->I k l G->bq X A Zn t m l G λc i=>EF X A Zn ZbQ c i (Ex (I (k+1)) K))(Ub:∀l G,I Zw l G->K .next l G)
theorem EF.H8(hh:XZ=none)(h:EV X m A ZaZ o E (Ij X m A u W8 o B))(hs:Z3 (∀x,ZbY=Yh x) aI):Zdb:=λc s w=>by
  walk_at"a";refine q_ (W1 w λN y Q j G z r d C=>?_) hs;walk_at"a";obtain⟨I,a,p,l,rfl,e,q,D,Ux,Ub⟩:=C;rw[UZ];obtain⟨t,n,ga,rl⟩:=d.g.objs _ _ (e _ _ _ q);refine TH (aq ga) ?_;refine tn I (n:=z0) (λk c o E s=>nD X A p a y.heap.objs.size k c o E s) (λk c o E s F i h b R M f=>?_) (λc o E s i h b R M f=>?_) z ⟨(d.push (xY a 0)).forget D,⟨_,ZL _ rfl,rfl,rfl⟩,d.Bq (ZV _)⟩ q;.obtain⟨t,n,ga,rl⟩:=v' _ _ (e _ _ _ b);exact pG i h (aq ga) rl (λj hm=>Ux k j o E hm b) F (λT V PM PN PR PS O O O h=>h) f
  .obtain⟨t,n,ga,rl⟩:=v' _ _ (e _ _ _ b);exact pB hh i h (aq ga) rl (Ub o E b) f
structure ni(X:Cx)(d:Y9)(i:Zc4):Prop where
 get:∃n,YF d=some {T':=Zac,Xg:=.seq i.toArray n}
 nt:d≠tx
theorem AQ(D:ni X d i)(hd:f.defaults=ZaG)(h:∀y a k,ao y l a->ao y q k->∃c b,S1 f ⟨a,u.zip k⟩=L1 f.defaults>>=c/\c (some i.toArray)=Yh (WQ b)/\ao y x b):JS X m f l u q E WD x:=λy s a k S r e=>by
 walk_at"a";obtain⟨c,b,e1,e2,j⟩:=h y a k r e;obtain⟨n,g⟩:=D.get;rw[e1,hd];refine Z7 (VG (Tr _ _ g D.nt) rfl ?_);rw[e2];exact Z5 ⟨y,b,ZbK,S,rfl,j⟩
def Jl:{k:CL->J ZP->Zs (Ua ZP)->p_ (J (Z×ZP))//∀f a,S1 f ⟨a,[]⟩=L1 f.defaults>>=k f a}:=⟨_,λ_ _=>rfl⟩
variable{PI:Zc4}
theorem xO(a:Zc4)(e:Jl.1 f b i=Yh (t.zip a))(r:ao y c a):∃k a,S1 f ⟨b,([]:J Z).zip PI⟩=L1 f.defaults>>=k/\k i=Yh (t.zip a)/\ao y c a:=⟨_,a,Jl.2 f b,e,r⟩
theorem xd(D:ni X d i)(h:∀(pm cd Wv:ZP)(d:Y9)y a k,ao y f a->ao y l k->∃b c,S1 (xV q Ny pm cd Wv (.ref d) n) ⟨a,r.zip k⟩=L1 ZaG>>=b/\b (some i.toArray)=Yh (WQ c)/\ao y s c):JS X m (xV q Ny pm cd Wv (.ref d) n) f r l E WD s:=AQ D rfl (h _ _ _ _)
theorem vl.E5(F:vl X fa q Ny pm cd Wv ZaG k)(D:ni X d i)(b:Zck)(rm:Za3)(WD:J Z)(l:∀(pm cd Wv:ZP)(d:Y9)y c f,ao y r c->ao y s f->∃e j,S1 (xV q Ny pm cd Wv (.ref d) k) ⟨c,u.zip f⟩=L1 ZaG>>=e/\e (some i.toArray)=Yh (WQ j)/\ao y M j)(hn:Sr)(o:∀a,∀x∈WD,(bu Ny).names.lookup x=some .local\/((bu Ny).names.lookup x=Zbm/\((Ct (a+1) (bu Ny).names []).lookup x).isSome=true))(h:∀a,let A:=Xd (xV q Ny pm cd Wv (.ref d) k) a fa;EF X (Sb A) A (Yk (bH Ny) A) (WQ M) E (rF g))(p:Z3 ((bu Ny).isCoroutine=false) aR)(t:Z3 ((bu Ny).isGenerator=false) aR)(w:Z3 ((bu Ny).kind=.function) aR):iL X m ZaA r u s E g:=iL.body b WD F.get F.nt rfl F.rX F.nc rfl rfl rfl rfl (xd D l) hn o w1 h p t w
theorem EF.back(h:EF X m A c o E λb NK w=>Wy E w/\B b NK E):EF X m A c o E B:=λd s S=>ZS (h d s S) (λf a q=>by
  obtain⟨r,b,NK,w,g,i,j,e,k⟩:=q;exact⟨r,b,NK,E,g,i,j.drop e,k⟩) λO O q=>q
structure iu(st:Wa)(q name:Z)(d:ZP)(mN:Z->Zs ZP)(X:Cx)where
 f:Y9
 pm:ZP
 cd:ZP
 Wv:ZP
 get:mN name=some (.ref f)
 fn:vl X f q st pm cd Wv d .none
structure hU(X:Cx)(b:Zck)where
 C:Y9
 N:Y9
 mN:Z->Zs ZP
 c:xT X C N mN
 gl:VY ("SequenceMatcher")=some Zbr
 no:∀x∈([("isjunk"),"a","b","autojunk","matching_blocks","opcodes","fullbcount","b2j","bjunk","bpopular"]:J Z),mN x=none
 dI:Y9
 dF:Y9
 dG:Y9
 t1:nj
 t2:nj
 t3:nj
 t4:nj
 t5:nj
 Ir:ni X dI [.none,.str "" t1,.str "" t2,.bool true]
 Hr:ni X dF [.int 0 t3,.none,.int 0 t4,.none]
 IJ:ni X dG [.int 3 t5]
 init:iu (fz 5 1) "SequenceMatcher.__init__" "__init__" (.ref dI) mN X
 Ek:iu (fz 5 2) "SequenceMatcher.set_seqs" "set_seqs" .none mN X
 seq1:iu (fz 5 3) "SequenceMatcher.set_seq1" "set_seq1" .none mN X
 DF:iu (fz 5 4) "SequenceMatcher.set_seq2" "set_seq2" .none mN X
 chain:iu (fz 5 5) "SequenceMatcher.__chain_b" "_SequenceMatcher__chain_b" .none mN X
 eX:iu (fz 5 6) "SequenceMatcher.find_longest_match" "find_longest_match" (.ref dF) mN X
 JE:iu (fz 5 7) "SequenceMatcher.get_matching_blocks" "get_matching_blocks" .none mN X
 ops:iu (fz 5 8) "SequenceMatcher.get_opcodes" "get_opcodes" .none mN X
 x5:iu (fz 5 9) "SequenceMatcher.get_grouped_opcodes" "get_grouped_opcodes" (.ref dG) mN X
section
open PySem.Sem(wp)
theorem mO{α:Type}:∀(o:J α)(i:U)(h:i<kf),(o[i]::o.eraseIdx i).Perm o:=by
 intro o;induction o with|Yl=>exactλi h=>Za h (SK _)|Zp x o a=>intro i h;cases i with|VZ=>exact .refl _|VC i=>exact(List.Perm.swap ..).trans (.cons _ (a i (Nat.lt_of_succ_lt_succ h)))
theorem qG(a:n≠0)(h:∀i d,i<n->b i {G with drawn:=d}):ZU YH m (choose s n) b c G:=λe p f=>by exact⟨a,h _ _ (Nat.mod_lt _ (oC a))⟩
theorem yH:∀(n:U)(x:J U)(G:Zb)(Q:J U->Zb->Prop),ZO=n->(∀ys d,ys.Perm x->Q ys {G with drawn:=d})->ZU YH m (drawOrder n x) Q k G:=by
 intro I;induction I with
 |VZ=>
  intro x G Q hn h;have:=Xm hn;subst this;exact Z5 (h [] G.drawn (.refl _))|VC n c=>
  intro e;cases e with
  |Yl=>
   intro G Q hn h;simp at hn|Zp b x=>
   intro G Q hn h;show ZU _ _ (choose .order (b::x).length>>=_) _ _ _;refine Z7 (qG (by simp) λi d a=>?_);rw[(Z6 a)];refine Z7 (c ((b::x).eraseIdx i) _ _ (by rw[List.length_eraseIdx_of_lt a];simp at hn⊢;exact aV 0x7f620ec41 [_,_] hn) λys f hp=>Z5 ?_);refine h _ f ((List.Perm.cons _ hp).trans ?_);exact(mO _ _ a)
theorem mZ:OJ gy "set.__iter__"=some Builtin.«frozenset.__iter__»:=r' (id':="frozenset.__iter__") (by rw[VE];kernel_rfl) rfl Z8 (by rw[VE];kernel_rfl)
theorem bo:Slot "set_iterator" "__next__" "set_iterator.__next__":=.of (owner:="set_iterator") (n:="__next__") (by rw[W5,X'];kernel_rfl) Z8 Z8 Z8 (by first|exact .inl Z8|exact .inr Z8) (by rw[WS];kernel_rfl)
theorem dm:OJ gy "set_iterator.__next__"=some nf:=z' Z9
theorem dJ(a:ZP):S4 "set_iterator.__next__" ⟨[a],[]⟩:=by unfold S4;kernel_rfl
abbrev iq(f0:ZP)(i:U)(a:Y9)(n e:U):OB:={T':=.type "set_iterator",Xg:=.fields #[f0,.int i 0,Zaj,.int n 0,.int e 0]}
structure iB(h:C_)(a:Y9)(d:Ua (Zv×ZP))(e:U)(t:OI):Prop where
 at_:∃o,Vl a=Zag/\o.ExactSet/\OA=.set d e t
 fits:t.fits YE=true
theorem iB.state{d b c}(x:iB h a d b c):V3 YH h (setState a) (d,b,c):=λA Q E s k q=>by
 obtain⟨o,e,_,hd⟩:=x.at_;exact kV (k _ _ e) hd x.fits q
theorem FQ(f:U->U):∀(n k:U)(left:J α)(tr:Ua α),r1=n->((pickOrder.go f n k left tr).toList).Perm (out.toList++left):=by
 intro I;induction I with
 |VZ=>
  intro k left tr h;have:=Xm h;rw[this];rw[Zm];exact .refl _|VC n b=>
  intro k left tr h;walk_at"as";have a:f k%r1<r1:=Nat.mod_lt _ (aV 0x1fd05bb83841 [_,_] h);rw[show pickOrder.go f (n+1) k left tr=_ from(rfl:_=(λo:Zs α=>match o with|some x=>pickOrder.go f n (k+1) (left.eraseIdx (f k%r1)) (out.push x)|none=>tr) left[f k%r1]?).trans (by rw[Z6 a])];refine(b (k+1) _ _ (by rw[List.length_eraseIdx_of_lt a];exact aV 0x7f628b83b83841 [_,_] h)).trans ?_;rw[R',ZQ];exact List.Perm.append_left _ (mO _ _ a)
theorem qc(f:U->U)(x:Ua α):(hP f x).toList.Perm x.toList:=by
 unfold hP;have:=FQ f x.size 0 x.toList #[] (rfl);simpa using this
theorem vB(b:ZG it=some (iq (.int j 0) i a n c))(S:iB YK a d c r)(hn:YE=n)(f:V3 YH YK (kc a j i c) (some (x,k)))(h:∀e,Xp it YK e->e.get? it=some (iq (.int k 0) (i+1) a n c)->q (.done (.ret x)) {G with X_:=e}):ZU YH m (nf ⟨[Zb4],[]⟩) q s G:=by
 have l:=ek (X:=X);obtain⟨hh,o,p,t,os⟩:=G;dsimp only at b l f h;have u:V3 YH hh (setEntries a) d:=l.andThen .now;have e1:(YE !=(n:Zv))=false:=by rw[hn];simp
 repeat lk
 walk_at"f";refine UR (T3 (by rw[e1];exact Yp) ?_);refine Z7 (f.at ?_);refine Z7 (Ui b rfl (S_ _) ?_);have g:=YS (o' (·.setIfInBounds 0 (.int k 0))) b rfl;refine Z7 (Ui g rfl (by simp) ?_);exact Z5 (h _ ((Y_ ..).trans (Y_ ..)) (YS (o' (·.setIfInBounds 1 (.int (i+1) 0))) g rfl))
theorem y9(hh:XZ=none)(b:ZG it=some (iq (.int j 0) i a n c))(S:iB YK a d c q)(hn:YE=n)(e:V3 YH YK (kc a j i c) none)(h:∀f,Tj it YK f->l none {G with X_:=f}):ZU YH m ZaU l r G:=by
 have k:=ek (X:=X);refine Z7 (Vd (XI ⟨_,b,rfl⟩ bo (X7 bo ⟨_,b,rfl⟩ dm ?_ (dJ _))));walk_at"c";obtain⟨hp,g,o,t,os⟩:=G;dsimp only at b k e h;have p:Zcz:=k.andThen .now;have e1:(YE !=(n:Zv))=false:=by rw[hn];simp
 repeat lk
 walk_at"o";refine UR (T3 (by rw[e1];exact Yp) ?_);refine Z7 (e.at ?_);refine Z7 (Ui b rfl (by simp) ?_);walk_at"h";show ZU _ _ (newExc ZbJ []>>=_) _ _ _;refine Z7 ?_;refine Z7 (Yn ?_ (by size_fits));walk_at"h";refine Z7 (VH (by first|rfl|(simp only[sk];rfl)) ?_);refine Yn ?_ (by size_fits);refine Z7 (px ?_);first|rw[show pn=none from hh]|rw[hh]
 refine Z7 (Z5 (g4 ?_));refine Z7 (Um ⟨_,ZL _ rfl,rfl⟩ I5 ?_);exact Z5 (h _ (((Y_ ..).extBut.push _).push _))
theorem wo(c:ZG it=some (iq (.int j 0) i a n f))(S:iB YK a d f q)(hn:YE=n)(e:V3 YH YK (kc a j i f) (some (x,k)))(h:∀b,Xp it YK b->b.get? it=some (iq (.int k 0) (i+1) a n f)->l Zak {G with X_:=b}):ZU YH m ZaU l r G:=by
 refine Z7 (Vd (XI ⟨_,c,rfl⟩ bo (X7 bo ⟨_,c,rfl⟩ dm ?_ (dJ _))));exact vB c S hn e λb a1 a2=>⟨x,rfl,Z5 (h b a1 a2)⟩
abbrev sJ(p:J U):OB:={T':=Zac,Xg:=.seq (p.map λ(i:U)=>VW i).toArray}
theorem EX(p:J U)(i:U):(p.map λ(i:U)=>VW i).toArray[i]?=(p[i]?).map λ(i:U)=>VW i:=by simp
theorem wZ(b:ZG it=some (iq (.ref tp) i a n c))(o:ZG tp=some (sJ f))(S:iB YK a d c r)(hn:YE=n)(hj:f[i]?=some k)(he:d[k]?=some l)(h:∀e,Xp it YK e->e.get? it=some (iq (.ref tp) (i+1) a n c)->q (some l.2) {G with X_:=e}):ZU YH m ZaU q s G:=by
 have j:=ek (X:=X);refine Z7 (Vd (XI ⟨_,b,rfl⟩ bo (X7 bo ⟨_,b,rfl⟩ dm ?_ (dJ _))));walk_at"c";obtain⟨hp,g,u,t,os⟩:=G;dsimp only at b j o h;have w:Zcz:=j.andThen .now;have e1:(YE !=(n:Zv))=false:=by rw[hn];simp
 repeat lk
 walk_at"o";refine UR (T3 (by rw[e1];exact Yp) ?_);refine Z7 (VG o rfl ?_);have e2:(f.map λ(i:U)=>VW i).toArray[(i:Zv).toNat]?=_:=EX f i;rw[hj]at e2;dsimp only;rw[e2];show ZU _ _ (setNextDrawn a k c>>=_) _ _ _;have p:V3 YH hp (setNextDrawn a k c) l.2:=by
  refine j.andThen ?_;walk_at"at";dsimp only;rw[ZY (by simp),he];exact .now
 refine Z7 (p.at ?_);refine Z7 (Ui b rfl (by simp) ?_);exact Z5 ⟨l.2,rfl,Z5 (h _ (Y_ ..) (YS (o' (·.setIfInBounds 1 (.int (i+1) 0))) b rfl))⟩
theorem yz(hh:XZ=none)(b:ZG it=some (iq (.ref tp) i a n k))(e:ZG tp=some (sJ c))(S:iB YK a d k q)(hn:YE=n)(hj:c[i]?=none)(h:∀f,Tj it YK f->l none {G with X_:=f}):ZU YH m ZaU l r G:=by
 have j:=ek (X:=X);refine Z7 (Vd (XI ⟨_,b,rfl⟩ bo (X7 bo ⟨_,b,rfl⟩ dm ?_ (dJ _))));walk_at"c";obtain⟨hp,g,o,t,os⟩:=G;dsimp only at b j e h;have p:Zcz:=j.andThen .now;have e1:(YE !=(n:Zv))=false:=by rw[hn];simp
 repeat lk
 walk_at"o";refine UR (T3 (by rw[e1];exact Yp) ?_);refine Z7 (VG e rfl ?_);have e2:(c.map λ(i:U)=>VW i).toArray[(i:Zv).toNat]?=_:=EX c i;rw[hj]at e2;dsimp only;rw[e2];show ZU _ _ (setField Zb4 0 (VW 0)>>=_) _ _ _;refine Z7 (Ui b rfl (S_ _) ?_);refine Z7 (Ui (YS (o' (·.setIfInBounds 0 (VW 0))) b rfl) rfl (by simp) ?_);walk_at"h";show ZU _ _ (newExc ZbJ []>>=_) _ _ _;refine Z7 ?_;refine Z7 (Yn ?_ (by size_fits));walk_at"h";refine Z7 (VH (by first|rfl|(simp only[sk];rfl)) ?_);refine Yn ?_ (by size_fits);refine Z7 (px ?_);first|rw[show pn=none from hh]|rw[hh]
 refine Z7 (Z5 (g4 ?_));refine Z7 (Um ⟨_,ZL _ rfl,rfl⟩ I5 ?_);exact Z5 (h _ ((((Y_ ..).trans (Y_ ..)).extBut.push _).push _))
end
set_option genCtorIdx false in inductive qe where|int(Od:U->U)|dr(tp:Y9)(p:J U)
def qe.ctorIdx(x:qe):U:=x.casesOn (λO=>0) λO O=>1
def qe.f0:qe->U->ZP|.int Od,i=>.int (Od i) 0|.dr tp _,_=>.ref tp
structure vE(X:Cx)(a:Y9)(d:Ua (Zv×ZP))(b:U)(t:OI)(m:qe)(o:J (Zv×ZP)):Prop where
 perm:o.Perm d.toList
 run:match m with|.int Od=>∀h,iB h a d b t->(∀(i:U)(e:Zv×ZP),o[i]?=ZbU->V3 YH h (kc a (Od i) i b) (some (e.2,Od (i+1))))/\V3 YH h (kc a (Od YE) YE b) none|.dr _ p=>z0=YE/\∀(i j:U),p[i]?=ZbC->∃e,d[j]?=ZbU/\o[i]?=some e
theorem fw(h:C_):V3 YH h setsByText (ef X):=λA Q E s k q=>by
 unfold setsByText;exact Z7 (Ul (Z5 q))
theorem Cd(hb:ef X=true):vE X a d b l (.int λO=>0) (hP (Oj a b) d).toList:=by
  refine⟨qc _ _,λh S=>?_⟩;have c:=ek (X:=X);have y2:∀i,V3 YH h (kc a 0 i b) (((hP (Oj a b) d)[i]?).map λe=>(e.2,0)):=λi A Q E s k q=>by
    refine Z7 ((c.keeps k).here ?_);refine Z7 ((fw _).here ?_);rw[hb,ZT rfl,ZY (by simp)];refine Z7 ?_;refine Z7 ((c.keeps k).here ?_);refine Z7 ((fw _).here ?_);walk_at"a";rw[hb];exact Z7 (Ul (Z5 (Z5 q)))
  refine⟨λi e he=>?_,?_⟩;.have:=y2 i;rw[TJ]at he;rw[he]at this;exact this
  . have:=y2 YE;have f:(hP (Oj a b) d).size=YE:=by
      have:=(qc (Oj a b) d).length_eq;simpa using this
    rw[T1 (GN f)]at this;exact this
theorem Df(hb:ef X=false)(f:YE<=1)(hl:b.led=true)(l:b.fits YE=true):vE X a d n b (.int λi=>if i=0 then 0 else b.place.getD 0 0+1) d.toList:=by
  have m:b.place.size=YE:=by simp only[SetTable.fits,YM,V5,XY]at l;exact l.1
  refine⟨.refl _,λh S=>?_⟩;have o:=ek (X:=X);have y2:∀Od i,V3 YH h (kc a Od i n) (match d[Uh Gu Od]?,Gu[Uh Gu Od]? with|some e,ZbC=>some (e.2,j+1)|_,_=>none):=λOd i A Q E s k q=>by
    refine Z7 ((o.keeps k).here ?_);refine Z7 ((fw _).here ?_);rw[hb,ZY Z'];show ZU _ _ (if(!b.plain&&decide (YE>1))=true then _ else _) _ _ _;rw[ZY (by simp;omega)];show ZU _ _ ((if(!b.led&&!d.isEmpty)=true then _ else _)>>=_) _ _ _;rw[ZY (by simp[hl])];refine Z7 (Z5 ?_);refine Z5 ?_;cases h1:d[Uh Gu Od]?<;>cases h2:Gu[Uh Gu Od]?<;>(rw[h1,h2]at q;exact q)
  refine⟨λi e he=>?_,?_⟩
  . have r:i=0/\YE=1:=by
      have:=(ZN he).1;rw[Yy]at this;exact bx 0x7ffddb85b6872e16841 [_,_] this f
    obtain⟨rfl,h1⟩:=r;obtain⟨p,c⟩:∃q,Gu=#[q]:=Array.size_eq_one_iff.mp (m.trans h1);have t:Uh Gu 0=0:=by rw[c];rfl
    have:=y2 0 0;rw[t]at this;rw[TJ]at he;rw[he,c]at this;rw[c];exact this
  . have:=y2 (if YE=0 then 0 else b.place.getD 0 0+1) YE;have u:d[Uh Gu (if YE=0 then 0 else b.place.getD 0 0+1)]?=none:=by
      by_cases g:YE=0;.rw[T1];exact aV 0x7f220eda1 [_,_] g
      . obtain⟨p,c⟩:∃q,Gu=#[q]:=Array.size_eq_one_iff.mp (fX 0xffffb7079b68b2e16c41 [_,_] m f g);rw[ZY g,c];have:Uh #[p] (Array.getD #[p] 0 0+1)=1:=by
          rw[show∀j,Uh #[p] j=if 0<1 then(if p<j then 1 else 0)else 0 fromλj=>by kernel_rfl,ZT Z'];exact ZT (Wp p)
        rw[this,T1];exact aV 0x7f2e0e5c1 [_] f
    rw[u]at this;exact this
theorem zp(hp:b.Perm (Zh YE)):vE X a d f k (.dr tp b) (b.filterMap (d[.]?)):=by
  refine⟨(hp.filterMap _).trans ?_,by simpa using R6,λi j hj=>?_⟩
  . have y2:∀n,n<=YE->(Zh n).filterMap (d[.]?)=d.toList.take n:=by
      intro n;induction n with|VZ=>intro O;rfl|VC n c=>
        intro h;rw[TX,U3,c (O7 h),X9];have:=XD (JH h);simp[this]
    have:=y2 YE (ZV _);rw[YR (by simp)]at this;rw[this]
  . have h1:∀(b:J U),(∀j∈b,j<YE)->∀(i j:U),b[i]?=ZbC->∃e,d[j]?=ZbU/\(b.filterMap (d[.]?))[i]?=ZbU:=by
      intro b;induction b with|Yl=>intro O i j h;simp at h|Zp q b c=>
        intro hl i j h;obtain⟨eq,hq⟩:∃x,d[q]?=Zak:=⟨_,XD (hl q Y4)⟩;rw[qb,hq];cases i with
        |VZ=>simp at h;subst h;exact⟨eq,hq,rfl⟩|VC i=>exact c (λj hj=>hl j (ZX _ hj)) i j (by simpa using h)
    exact h1 b (λj hj=>WX (hp.mem_iff.mp hj):∀j∈b,j<YE) i j hj
theorem wa(z:ZG c=some s)(I:mK X i s)(A:∀(d:Ua (Zv×ZP))l f r u(V:C_)PN it,s.ExactSet->s.data=.set d l f->f.fits YE=true->vE X c d l f r u->(∀b x,ZG b=Zak->V.get? b=Zak)->ZZ<=it->V.get? it=some (iq (r.f0 0) 0 c YE l)->(∀tp p,r=.dr tp p->ZZ<=tp/\tp<it/\V.get? tp=some (sJ p))->S Zb4 {G with X_:=V,drawn:=PN}):ZU YH m (h' (.ref c)) S PM G:=by
  obtain⟨d,l,f,o,hd,PZ,B,j,P0,P2,P4⟩:=I;have N:iB YK c d l f:=⟨⟨s,z,o,hd⟩,j.1⟩;have C:b3 Zb1 "set":=⟨s,z,o.1⟩;have t:=N.state (X:=X);have Q:YE<=ZK:=by rw[af];unfold L2 at B;exact a9 0x7f2f0e9e1 [4096,16777216] [_] [] B
  refine wpAny_pyIter_slot C F.slot_set_iter (X7 F.slot_set_iter C mZ ?_ (F.args_set_iter_1 _));walk_at"a";have PR:(ef X=true)\/(ef X=false/\YE<=1)\/(ef X=false/\1<YE/\f.plain=false):=by cases hb:ef X with
    |false=>
      by_cases h1:YE<=1;.exact .inr (.inl ⟨rfl,h1⟩)
      .exact .inr (.inr ⟨rfl,by exact aV 0xfe82ee65c1 [_] h1,j.2.2 (aV 0x1fe6da1e65c1 [_] h1)⟩)|true=>exact .inl rfl
  have PS:V3 YH YK (setDrawn c) (!ef X&&(!f.plain&&decide (YE>1))):=λm S PM G k q=>by
    refine Z7 ((t.keeps k).here ?_);refine Z7 ((fw _).here ?_);exact Z5 q
  have PT:V3 YH YK (Builtin.Frozenset.sizeOf c) YE:=λm S PM G k q=>by exact Z7 (Z7 ((t.keeps k).here (Z5 (Z5 q))))
  have D:V3 YH YK (setEpoch c) l:=λm S PM G k q=>by exact Z7 ((t.keeps k).here (Z5 q))
  show ZU _ _ (Builtin.Frozenset.sizeOf c>>=λn=>setDrawn c>>=λdr=>if dr=true then(drawOrder n (Zh n)>>=λys=>newTuple (ys.map λ(w:U)=>VW w)>>=λfirst=>(setEpoch c>>=λe=>hQ "set_iterator" [first,VW 0,Zb1,VW n,VW e]>>=λg=>fj g))else(Yh (VW 0)>>=λfirst=>(setEpoch c>>=λe=>hQ "set_iterator" [first,VW 0,Zb1,VW n,VW e]>>=λg=>fj g))) _ _ G;refine Z7 (PT.here (Z7 (PS.here ?_)));have WC:∀r Od u,r=.int Od->Od 0=0->vE X c d l f r u->(!ef X&&(!f.plain&&decide (YE>1)))=false->ZU YH Uq (if(!ef X&&(!f.plain&&decide (YE>1)))=true then(drawOrder YE (Zh YE)>>=λys=>newTuple (ys.map λ(w:U)=>VW w)>>=λfirst=>(setEpoch c>>=λe=>hQ "set_iterator" [first,VW 0,Zb1,VW YE,VW e]>>=λg=>fj g))else(Yh (VW 0)>>=λfirst=>(setEpoch c>>=λe=>hQ "set_iterator" [first,VW 0,Zb1,VW YE,VW e]>>=λg=>fj g))) (λUb a=>∃g,Ub=Fin.done (.ret g)/\∃T PW,a.TypeIs g T/\V6 ZaX "__next__"=Yh (some PW)/\S g a) PM G:=λr Od u hm PX PY y=>by
    walk_at"a";rw[y,ZY Z'];refine Z7 (Z5 (Z7 (D.here (Z7 (Yn (Z5 ⟨_,rfl,"set_iterator",_,⟨_,ZL _ rfl,rfl⟩,bo.lookup,?_⟩))))));refine A d l f r u _ G.drawn ZZ o hd j.1 PY (λb x e=>ZA _ e) (ZV _) ?_ (λtp p e=>by rw[hm]at e;cases e);rw[hm];show _=some (iq (.int (Od 0) 0) 0 c YE l);rw[PX];exact ZL _ rfl
  refine PR.elim (λhb=>?_) λYB=>YB.elim (λYA=>?_) λYA=>?_;.exact WC _ _ _ rfl rfl (Cd hb) (by rw[hb];rfl)
  .obtain⟨hb,h1⟩:=YA;exact WC _ _ _ rfl rfl (Df hb h1 (by rw[j.2.1,hb];rfl) j.1) (by rw[hb];simp;omega)
  . obtain⟨hb,h1,h2⟩:=YA;have y:(!ef X&&(!f.plain&&decide (YE>1)))=true:=by rw[hb,h2];simp[h1]
    rw[y];refine Z7 (yH YE (Zh YE) G _ (by simp) λp PN hp=>?_);walk_at"e";refine Z7 (Yn ?_ (by show _<=_;rw[V',Z2,R6,WW];exact Q));walk_at"e";have E:∀b x,ZG b=Zak->(Zj (sJ p)).get? b=Zak:=λb x e=>ZA _ e;refine Z7 ((D.keeps E).here (Z7 (Yn (Z5 ⟨_,rfl,"set_iterator",_,⟨_,ZL _ rfl,rfl⟩,bo.lookup,?_⟩))));refine A d l f (.dr ZZ p) _ _ PN (Zj (sJ p)).objs.size o hd j.1 (zp hp) (λb x e=>ZA _ (E b x e)) (by rw[I7];exact FA) (ZL _ rfl) (λtp P5 e=>?_);cases e;walk_at"l";exact⟨ZV _,by show ZZ<(Zj (sJ p)).objs.size;rw[I7];exact Wp _,ZA _ (ZL _ rfl)⟩
theorem Bu{α:Type}[sa α]:∀(i a:J α),i.Nodup->(∀k∈i,k∈a)->W6<=ZC:=by
 intro I;induction I with
 |Yl=>
  intro _ _ _;exact Zf _|Zp k i c=>
  intro a hn h;obtain⟨h1,h2⟩:=ov hn;clear hn;have:=c (a.erase k) h2 λy hy=>(Wn (by intro d;subst d;exact h1 hy)).mpr (h y (ZX _ hy));have b:=h k Y4;rw[VK b]at this;have:=R2 b;rw[YG];exact bx 0x7ff90c1c2cc5c11682d [_,_] this ‹_›
theorem Al{α:Type}[sa α]:∀(i b:J α),i.Nodup->(∀k∈i,k∈b)->Zw<=W6->b.Nodup:=by
 intro I;induction I with
 |Yl=>
  intro b _ _ hl;have:=Xm (by simpa using hl);clear a;rw[this];exact .nil|Zp k i g=>
  intro b hn h hl;obtain⟨h1,h2⟩:=ov hn;have c:=h k Y4;have d:∀y∈i,y∈b.erase k:=λy hy=>(Wn (by intro j;subst j;exact h1 hy)).mpr (h y (ZX _ hy));have f:(b.erase k).length<=W6:=by rw[VK c];rw[YG]at hl;exact aV 0x7f228b83983841 [_,_] hl
  have l:k∉b.erase k:=λON=>by
   have:=Bu (k::i) (b.erase k) hn λy hy=>(ZI hy).elim (λe=>e▸ON) (d y);rw[YG]at this;exact bx 0x7fe9c8459141c1 [_,_] this f
  exact((List.perm_cons_erase c).nodup_iff).mpr (List.nodup_cons.mpr ⟨l,(g (b.erase k) h2 d f)⟩)
def gu(e:Zv×ZP):Z:=match e.2 with|.str k _=>k|_=>⟨#[]⟩
structure xS(X:Cx)(Zn:S2)(m:qe)(a it:Y9)(n e k:U)(b:aT)(l:YV)(G:GH)(s:Zb):Prop where
 S:ak X b Zn l G s
 i:Xe it=some (iq (m.f0 k) k a n e)
 TQ:OffI X b G Zn it
 tp:∀tp p,m=.dr tp p->b tp (sJ p)
theorem BL(l:vE X a d b u c x)(h:xS X A c a it YE b k y o E G)(f:iB YK a d b u)(t:k<YE)(he:x[k]?=Zc0)(q:∀j,Xp it YK j->j.get? it=some (iq (c.f0 (k+1)) (k+1) a YE b)->F (some n.2) {G with X_:=j}):ZU YH m ZaU F T G:=by cases c with
 |int Od=>exact wo h.i f rfl ((l.run _ f).1 k n he) q|dr tp p=>
  have r:=l.run;have s:=Z6 (by rw[r.1];exact t);obtain⟨e,e1,e2⟩:=r.2 k _ s;obtain rfl:=ZW (he.symm.trans e2);exact wZ h.i (h.S.g.aG _ _ (h.tp tp p rfl)) f rfl s e1 q
theorem Es(hh:XZ=none)(c:vE X a d f l k q)(h:xS X A k a it YE f YE y o E G)(b:iB YK a d f l)(e:∀j,Tj it YK j->n none {G with X_:=j}):ZU YH m ZaU n r G:=by cases k with|int Od=>exact y9 hh h.i b rfl (c.run _ b).2 e|dr tp p=>exact yz hh h.i (h.S.g.aG _ _ (h.tp tp p rfl)) b rfl (U1 (by rw[c.run.1];exact ZV _)) e
theorem vA(h:t.Nodup)(e:t[k]?=some y2):y2∉Td k:=λq=>by
 obtain⟨i,a⟩:=OF q;have b:i<k:=Xu (ZN a).1 (List.length_take_le ..);rw[List.getElem?_take_of_lt b]at a;exact Ig b ((j' (ZN a).1 h).mp (V8 h4))
inductive HG(X:Cx)(b:YV)(a:Y9)(i:J Z)(I:OB->J Z->YV->GH->Prop)(m:MV)(G:GH):Prop where|mk(e:m=Zaj)(g:G a=Zcb)(h:∀ob,∃l,I ob [] l (Y7 G a (.own (.=ob)))/\N' l b)
theorem EF.Gq(hh:XZ=none)(hx:aM A P6)(I:OB->J Z->YV->GH->Prop)(h:EV X m A ZaZ o E (HG X o a i I))(PN:∀ob j o E,I ob j o E->E a=some (.own (.=ob)))(Ux:∀ob j f o E,f∈i->f∉j->(∀y∈j,y∈i)->I ob j o E->EF X m A Zco (aJ P6 (.str f) o) E (GY (I ob (j++[f]))))(Ub:∀ob j o E,(∀y,y∈j↔y∈i)->I ob j o E->B .next o (Y7 E a (sS X i)))(hs:Z3 (∀y,XM WB A y=Yh y) aI):EF X m A (TM (.For (.Name P6 QN) WB W8 [] Ym) A) o E B:=λq s Qm=>by
  walk_at"a";refine q_ (W1 Qm λN PR QP Q PS Qn P7 C Qo=>?_) hs;walk_at"a";clear h;obtain⟨rfl,T,Qp⟩:=Qo;rw[P7.raw];obtain⟨ob,P8,PT⟩:=C.g.objs _ _ T;refine wa P8 PT λd P9 QQ Q r Qa Qb it Qc hd Qd w sb Qe Qf Qq=>?_;obtain⟨QR,QS,QT,Qr,Qt,Qu,Qv,Qw,Qx,Qy,Qz⟩:=id PT;clear P7 Qr Qv Qw;cases p6 Qt;have Qg:∀e∈r,∃t,e.2=.str (gu e) t:=λe he=>by
    obtain⟨⟨f,x,_⟩,_⟩:=Qu e (w.perm.mem_iff.mp he);obtain⟨t,D⟩:=(cn X f _).mp x;exact⟨t,by unfold gu;rw[D]at⊢⟩
  have PW:KP=YE:=w.perm.length_eq.trans Yy;have V:∀f,f∈r.map gu↔f∈i:=λf=>by
    rw[Qz,List.mem_map];constructor;.intro F;obtain⟨e,he,rfl⟩:=F;obtain⟨t,D⟩:=Qg e he;exact⟨e,w.perm.mem_iff.mp he,by rw[D];exact Tg ..⟩
    .intro F;obtain⟨e,he,QA⟩:=F;obtain⟨t,D⟩:=(cn X f _).mp QA;exact⟨e,w.perm.mem_iff.mpr he,by unfold gu;rw[D]at⊢⟩
  have Qh:a≠it:=Y' (Xu (C.g.objs _ _ T).lt Qe);have Qi:=(show ak X N A o PS {PR with X_:=Qa,drawn:=Qb}from C.keep sb).set (a:=.own (.=ob)) (n:=PR.toks) T (R4 a _) ⟨ob,sb _ _ P8,rfl⟩;obtain⟨QB,QC,Qj⟩:=Qp ob;have n:=C.Bq Qe;have Qk:Y7 PS a (.own (.=ob)) it=none:=(ag (Zg Qh)).trans n.g;obtain⟨PX,QD,QE⟩:∃PX,bG N PX/\xS X A Q a it YE P9 0 PX QB (Y7 PS a (.own (.=ob))) {PR with X_:=Qa,drawn:=Qb}:=by cases Q with
    |int Od=>exact⟨N,.refl _,Qi.forget Qj,Qf,⟨Qk,n.p,n.b,n.l,n.c⟩,λtp G e=>nomatch e⟩|dr tp G=>
      obtain⟨Ql,q2,q3⟩:=Qq tp G rfl;have M:=C.Bq Ql;have QF:tp≠a:=by intro F;subst F;exact nomatch T.symm.trans M.g
      walk_at"b";exact⟨cI N tp (sJ G),Tu,(Qi.pin q3 ((ag QF).trans M.g) M.b M.l M.c).forget Qj,Qf,⟨Qk,λQG e=>VB (n.p QG) λe=>Y' q2 e.1.symm,n.b,n.l,n.c⟩,λQU QV e=>by cases e;exact .inr ⟨rfl,rfl⟩⟩
  refine tn (λf=>I ob ((r.map gu).take f)) (n:=YE) (a:=q) (λf q o E s=>xS X A Q a it YE P9 f q o E s) (λf q o E s x PY h z R QH PZ=>?_) (λq o E s PY h z R QH PZ=>?_) (Qn.trans QD) QE QC;.obtain⟨u,PM,rfl⟩:=v' _ _ (PN _ _ _ _ z);have he:=Z6 (by rw[PW];exact x);have P0:=(Zy ..).trans (Zq (U5 gu) he);obtain⟨t,QI⟩:=Qg _ (YO he);rw[show(r.map gu).take (f+1)=(r.map gu).take f++[gu r[f]]by rw[X9,P0];rfl]at*;refine BL w h ⟨⟨u,PM,Qc,hd⟩,Qd⟩ x he λP2 QJ QK=>PZ _ _ λQW=>Z5 ?_;have P4:ak X q A o E {s with X_:=P2}:=e_ x3 e8 x2 x1 xb QJ.extBut;have QL:=P4.pin QK x3 x2 x1 xb;refine ZS (Oe hx ((Ux u _ _ o E ((V _).mp (YO P0)) (vA (Al i _ Qx (λf x=>(V f).mpr x) (fX 0x7fffc903b20f6316c41 [_,_,_,_] (Z2 ..) PW Qy)) P0) (λy hy=>(V y).mp (OE hy)) z).mono GY.k) _ _ _ QL (by rw[QI];exact bp ..)) (λO QX P5=>nL PY h.off (kS (by simp) λO O e=>by cases e) P5 λQY QZ Q2 Q3 Q4 Ql q2 q3 q4 q5 QM=>⟨q4,q5,QM,λtp G e=>q2 _ _ (h.tp tp G e)⟩) λO O P5=>P5.elim
  .obtain⟨u,PM,rfl⟩:=v' _ _ (PN _ _ _ _ z);refine Es hh w h ⟨⟨u,PM,Qc,hd⟩,Qd⟩ λP2 he=>PZ _ ?_;have P4:ak X q A o E {s with X_:=P2}:=e_ x3 e8 x2 x1 xb he;exact⟨q,.next,o,_,PY,rfl,P4.set (a:=sS X i) (PN _ _ _ _ z) (R4 a _) ⟨u,he a u Qh PM,PT⟩,Ub u _ o E (λy=>by rw[YR (by rw[Z2,PW];exact ZV _)];exact V y) z⟩
abbrev kv(y2:U->Zv)(p:Ua U)(i:U):Zv:=y2 (p.getD i 0)
def Vp(n:U)(p:Ua U):Prop:=p.toList.Perm (Zh n)
def z9(y2:U->Zv)(p:Ua U)(m:U):Prop:=∀i j,i<j->j<m->kv y2 p i<kv y2 p j
def It(y2:U->Zv)(p:Ua U)(m:U):Prop:=∀i j,i<j->j<m->kv y2 p j<kv y2 p i
structure Qs(n:U)(y2:U->Zv)(cmp:U->U->(YZ->Zb->Prop)->Zb->Prop)(s:Zb):Prop where
 inj:∀i j,i<n->j<n->y2 i=y2 j->i=j
 ask:∀i j C,i<n->j<n->i≠j->C (decide (y2 i<y2 j)) s->cmp i j C s
theorem Vp.size(h:Vp j a):T6=j:=by have:=h.length_eq;simpa using this
variable{Pu:Ua U}
theorem IH(h:i<Pu.size):Pu[i]?=some (Pu.getD i 0):=by simp[Array.getD,h]
theorem kU(h:Pu[i]?=ZaB):Pu.getD i 0=a:=by simp[ee,h]
theorem Vp.lt(h:Vp j a)(b:i<j):Vu i 0<j:=by
 have:Vu i 0∈a.toList:=by
  have:=IH (by rw[a_];exact b);rw[<-TJ]at this;exact YO this
 exact WX (h.mem_iff.mp this)
theorem Vp.ne(h:Vp j a)(c:i<j)(hj:b<j)(d:i≠b):Vu i 0≠Vu b 0:=λe=>by
 have e1:=IH (Pu:=a) (i:=i) (by rw[a_];exact c);have e2:=IH (Pu:=a) (i:=b) (by rw[a_];exact hj);rw[<-TJ]at e1 e2;exact d ((j' (by simpa[a_]using c) ((h.nodup_iff).mpr List.nodup_range:a.toList.Nodup)).mp (by rw[e1,e2,e]))
variable{NA:U->Zv}{NY:U->U->(YZ->Zb->Prop)->Zb->Prop}
theorem Qs.KC(q:Zbj)(h:Vp j a)(b:i<j)(hj:c<j)(d:i≠c):kv NA a i≠kv NA a c:=λe=>h.ne b hj d (q.inj _ _ (h.lt b) (h.lt hj) e)
theorem Qs.B4(q:Zbj)(h:Vp j a)(d:i<j)(hj:b<j)(e:i≠b)(c:f (decide (kv NA a i<kv NA a b)) G):NY (Vu i 0) (Vu b 0) f G:=q.ask _ _ f (h.lt d) (h.lt hj) (h.ne d hj e) c
theorem tT(q:Zbj)(h:Vp j d):∀(f m:U),1<=m->m+f<=j->z9 NA d m->(∀g,m<=g->g<=m+f->z9 NA d g->(g<m+f->kv NA d g<kv NA d (g-1))->r g G)->(kas_asc d f m).kasWp NY r G:=by
  intro I;induction I with
  |VZ=>
    intro m h1 h2 k l;exact l m (ZV _) (ZV _) k λh=>Za h (UA _)|VC f s=>
    intro m h1 h2 k l;show NY (o2 m 0) (o2 (m-1) 0) (λb a=>(if b=true then KasT.ret m else kas_asc d f (m+1)).kasWp NY r a) G;refine q.B4 h (GP h2) (IZ h2) (JA h1) ?_;by_cases c:kv NA d m<kv NA d (m-1);.rw[Yt c,ZT rfl];exact l m (ZV _) (O1) k λO=>c
    . rw[Ww c,ZY Z'];have o:kv NA d (m-1)<kv NA d m:=by
        have:=q.KC h (GP h2) (IZ h2) (JA h1);exact LQ c this
      refine s (m+1) (cY 0x198382e [_]) (GO h2) (λi n p hj=>?_) λg a1 a2=>l g (O7 a1) (aV 0x7f30838620e60383841 [_,_,_] a2)|>λz t u=>z t λw=>u (aV 0x7f501c1c20ea1070c41 [_,_,_] w);clear l;by_cases e:n=m
      . subst e;by_cases e2:i=n-1;.rw[e2];exact o
        .exact j_ (k i (n-1) (bx 0xfff517083cdc5c20e841 [_,_] p e2) (aV 0x1fd062e0e42e [_] h1)) o
      .exact k i n p (HQ hj e)
theorem zI(q:Zbj)(h:Vp j k):∀(f m:U),1<=m->m+f<=j->It NA k m->(∀g,m<=g->g<=m+f->It NA k g->r (k,g,0) G)->(kas_desc f k m 0).kasWp NY r G:=by
  intro I;induction I with
  |VZ=>
    intro m h1 h2 l n;exact n m (ZV _) (ZV _) l|VC f s=>
    intro m h1 h2 l n;show NY (k.getD m 0) (k.getD (m-1) 0) (λb a=>n' NY (if b=true then(if 0>0 then kas_desc f (ed k (m-(0+1)) m) (m+1) 0 else kas_desc f k (m+1) 0)else .ask (k.getD (m-1) 0) (k.getD m 0) λd=>if d=true then .ret (k,m,0)else kas_desc f k (m+1) (0+1)) r a) G;refine q.B4 h (GP h2) (IZ h2) (JA h1) ?_;by_cases c:kv NA k m<kv NA k (m-1)
    . rw[Yt c,ZT rfl,ZY (Li)];refine s (m+1) (cY 0x198382e [_]) (GO h2) (λi o p hj=>?_) λg a1 a2=>n g (O7 a1) (aV 0x7f30838620e60383841 [_,_,_] a2);clear h2 n;by_cases e:o=m
      . subst e;by_cases e2:i=o-1;.rw[e2];exact c
        .exact j_ c (l i (o-1) (bx 0xfff517083cdc5c20e841 [_,_] p e2) (aV 0x1fd062e0e42e [_] h1))
      .exact l i o p (HQ hj e)
    . rw[Ww c,ZY Z'];show NY (k.getD (m-1) 0) (k.getD m 0) (λb a=>n' NY (if b=true then .ret (k,m,0)else kas_desc f k (m+1) (0+1)) r a) G;refine q.B4 h (IZ h2) (GP h2) (aV 0x3fcd862e0e42e [_] h1) ?_;have t:kv NA k (m-1)<kv NA k m:=by
        have:=q.KC h (GP h2) (IZ h2) (JA h1);exact LQ c this
      rw[Yt t];exact n m (ZV _) (O1) l
theorem Vp.mirror(h:Vp j a)(i b d:U):Vp j (mirror a i b d):=(gs (mirror_perm a i b d)).trans h
theorem Vp.bubble(h:Vp j a)(i d:U):Vp j (bubble a i d):=(gs (bubble_perm a i d)).trans h
theorem xH(h:Vp j c)(hm:a<=j)(d:k<j):(ed c 0 a).getD k 0=if k<a then Pr (a-1-k) 0 else Pr k 0:=by
  walk_at"i";have hs:=a_;have:=getElem?_mirror_all (i:=0) (j:=a) (bx 0x7ff908f221ec41 [_,_,_] hs hm) k;by_cases b:k<a;.rw[ZT ⟨Zf _,b⟩,Wi,IH (i:=a-1-k) (fX 0x7fffd12218b85b1932316841 [_,_,_,_] b hm hs)]at this;rw[ZT b];exact kU this
  .rw[ZY (by exact aV 0x1fe77420e42de6841 [_,_] b),IH (O6 d hs)]at this;rw[ZY b];exact kU this
theorem It.rev(h:Vp j c)(hm:a<=j)(hd:It NA c a):z9 NA (ed c 0 a) a:=λi d b hj=>by
 show NA _<NA _;rw[xH h hm (by exact fX 0x7fffd103920f4316841 [_,_,_,_] b hj hm),xH h hm (by exact JQ hj hm),ZT (by exact bx 0x7ffa1874316841 [_,_,_] b hj),ZT hj];exact hd (a-1-d) (a-1-i) (by exact bx 0x7ffa8862e1c45170f4316841 [_,_,_] b hj) (by exact aV 0x7f4288e2e16841 [_,_,_] hj)
theorem vU(q:Zbj)(h:Vp j c)(h1:1<=b)(h2:b<=j)(hd:It NA c b)(d:∀m p,Vp j p->m<=j->1<=m->z9 NA p m->f (m,p) G):(kas_tail3 b j c).kasWp NY f G:=by
 rw[Ou];have hv:Vp j (ed c 0 b):=h.mirror _ _ _;exact tT q hv (j-b) b h1 (aV 0x7f22844220e441 [_,_] h2) (hd.rev h h2) λm a1 a2 a O=>d m _ hv (bx 0x7ff9187231661110c41 [_,_,_] a2 h2) (bx 0x7ff913b220e42e [_,_] h1 a1) a
theorem wj(q:Zbj)(h:Vp j c)(hn:1<=j)(g:∀d p,Vp j p->d<=j->1<=d->z9 NA p d->k (d,p) G):(kas_count j c).kasWp NY k G:=by
  rw[Ou];refine tT q h (j-1) 1 (ZV _) (aV 0x7f21845c17642e [_] hn) (λi o l hj=>by exact cD 0x7ffa5ab41169c1 [] [_,_] [_,_] hj l) λm a1 a2 f r=>?_;by_cases e:m=j;.subst e;rw[ZT (by simp)];exact g m c h (ZV _) hn f
  . rw[ZY (by simpa using e)];by_cases e2:m>1;.rw[ZT e2];show NY (Pr 0 0) (Pr (m-1) 0) (λb a=>n' NY (if b=true then .ret (m,c)else kas_descPart m j (ed c 0 m)) k a) G;refine q.B4 h (aV 0x7f416e42e [_] hn) (bx 0x1ffe851707308b84e0e82e [_,_] e2 a2) (aV 0x3fcdc5c16e82e [_] e2) ?_;have:=f 0 (m-1) (aV 0x1fd45c16e82e [_] e2) (aV 0x1fd062e0e82e [_] e2);rw[Yt this];exact g m c h (bx 0x7ff908b308b82e1642e [_,_] hn a2) (aV 0x7f217682e [_] e2) f
    . rw[ZY e2];have hm:m=1:=by exact bx 0xfff6e0f3417642e [_] a1 e2
      clear a2 f;subst hm;rw[Ou];walk_at"au";have n:2<=j:=by exact cD 0xfff217f3617642e [2] [_] [] hn e
      refine zI q h (j-(1+1)) (1+1) (cY 0x19839ce []) (a9 0x7f218460e7060e7642f [2] [_] [] n) (λi o l hj=>?_) λd b1 b2 s=>?_
      . have:i=0/\o=1:=by exact bx 0x1fff76e0eda2d045a839c1 [_,_] hj l
        rw[this.1,this.2];exact(r (a9 0x7f508b82e7642f [2] [_] [] n))
      .show n' NY (if 0>0 then kas_tail3 d j (ed c (d-(0+1)) d)else kas_tail3 d j c) k G;exact vU q h (aV 0x1fc85d90c1ce [_] b1) (cD 0x7ff908b308c1ce0c1ce1642f [2] [_,_] [] n b2) s g
theorem place_spec(q:Zbj)(h:Vp j d)(p:k<j)(t:z9 NA d k)(u:∀l,l<=k->(∀i,i<l->kv NA d i<kv NA d k)->(∀i,l<=i->i<k->kv NA d k<kv NA d i)->x l G):∀(f l r:U),l<=r->r<=k->r-l<=f->(∀i,i<l->kv NA d i<kv NA d k)->(∀i,r<=i->i<k->kv NA d k<kv NA d i)->(hO d k f l r).kasWp NY x G:=by
  intro y;induction y with
  |VZ=>
    intro l r h1 h2 s hl hr;exact u l (EE h1 h2) hl λi n b=>hr i (bx 0x1ffe461c8c596c441 [_,_,_] s n) b|VC f I=>
    intro l r h1 h2 s hl hr;unfold hO;by_cases e:l>=r;.rw[ZT e];exact u l (EE h1 h2) hl λi n b=>hr i (EE e n) b
    . rw[ZY e];show NY (o2 k 0) (o2 ((l+r)/2) 0) (λb a=>n' NY (if b=true then hO d k f l ((l+r)/2)else hO d k f ((l+r)/2+1) r) x a) G;have g:(l+r)/2<r:=by exact JZ e
      have o:l<=(l+r)/2:=by exact Lz e
      generalize(l+r)/2=m at g o;refine q.B4 h p (fX 0x7fffd103a20f2316841 [_,_,_,_] g h2 p) (bx 0xfff9b08f2316841 [_,_,_] g h2) ?_;by_cases c:kv NA d k<kv NA d m
      . rw[Yt c,ZT rfl];refine I l m (O9 o) (K9 g h2) (bx 0x1ffe471113412660e1c441 [_,_,_,_] s g) hl λi n b=>?_;clear g o;by_cases e:i=m;.rw[e];exact c
        .exact j_ c (t m i (bx 0xfff420f36116441 [_,_] n e) b)
      . rw[Ww c,ZY Z'];have w:kv NA d m<kv NA d k:=by
          have:=q.KC h (c:=m) p (fX 0x7fffd103a20f2316841 [_,_,_,_] g h2 p) (bx 0xfff9b08f2316841 [_,_,_] g h2);exact LQ c this
        refine I (m+1) r (GK g) (O9 h2) (bx 0x7ff91c60e207241660e1c441 [_,_,_,_] s o) (λi n=>?_) hr;clear o;by_cases e:i=m;.rw[e];exact w
        . by_cases e2:i<l;.exact hl i e2
          .exact j_ (t i m (HQ n e) (JQ g h2)) w
theorem xo(h:Vp j a)(b:k<j)(hl:l<=k)(c:i<j):(bubble a k (k-l)).getD i 0=if i=l then Vu k 0 else if l<i/\i<=k then Vu (i-1) 0 else Vu i 0:=by
  walk_at"j";have hs:=a_;have:=getElem?_bubble (O6 b hs) (k-l) (cY 0x190c441 [_,_]) i;rw[show k-(k-l)=l by(exact aV 0x7f618c42216441 [_,_] hl)]at this;by_cases e1:i=l;.rw[ZT e1,IH (O6 b hs)]at this;rw[ZT e1];exact kU this
  . rw[ZY e1]at this⊢;by_cases e2:l<i/\i<=k;.rw[ZT e2,IH (i:=i-1) (bx 0x1ffe871707621e841 [_,_,_] c hs)]at this;rw[ZT e2];exact kU this
    .rw[ZY e2,IH (O6 c hs)]at this;rw[ZY e2];exact kU this
theorem Bj(q:Zbj)(s:∀c,Vp j c->z9 NA c j->r c G):∀(f:U)(c:Ua U)(k:U),Vp j c->k+f=j->z9 NA c k->(kas_bin f c k).kasWp NY r G:=by
  intro I;induction I with
  |VZ=>
    intro c k h g n;exact s c h (by rw[<-g];exact n)|VC f t=>
    intro c k h g n;show((hO c k k 0 k).bind λl=>kas_bin f (bubble c k (k-l)) (k+1)).kasWp NY r G;rw[Ou];refine place_spec q h (GB g) n (λl hl h1 h2=>?_) k 0 k (Zf _) (ZV _) (cY 0x190c5a1 [_]) (λi u=>by exact a9 0x7f4b569a1 [] [_] [_,_] u) λi a b=>by exact cD 0x7ffa5ab2116841 [] [_,_] [_,_] b a
    refine t _ (k+1) (h.bubble _ _) (JL g) λi m d hj=>?_;show NA _<NA _;rw[xo h (GB g) hl (by exact fX 0x7fffd0cba217507049b1c041 [_,_,_,_,_] g hj d),xo h (GB g) hl (by exact bx 0x1ffe864d41c126c7083841 [_,_,_,_] g hj)];by_cases e1:i=l;.rw[ZT e1,ZY (by exact bx 0xfff9b18b630e841 [_,_,_] d e1),ZT (by exact fX 0x1ffffb91074126c83d047a83841 [_,_,_,_] hj d e1)];exact h2 (m-1) (bx 0x1ffe62e10f630e841 [_,_,_] d e1) (J4 hj d)
    . rw[ZY e1];by_cases e2:l<i/\i<=k;.rw[ZT e2,ZY (by exact bx 0xfff9b18bb9207411e841 [_,_,_,_] d e2),ZT (by exact fX 0x1ffffb910741277221e864d047a83841 [_,_,_,_] hj d e2)];exact n (i-1) (m-1) (bx 0x7ffa8b851707b9207411e841 [_,_,_,_] d e2) (J4 hj d)
      . rw[ZY e2];have p:i<l:=by exact FV 0x7ffffe883e77221e864e6c83d047a83841 [_,_,_,_] hj d e1 e2
        by_cases o:m=l;.rw[ZT o];exact h1 i p
        . rw[ZY o];by_cases e:l<m/\m<=k;.rw[ZT e];exact n i (m-1) (bx 0x1ffea2e187b920f4316841 [_,_,_,_] p e) (J4 hj d)
          .rw[ZY e];exact n i m d (FV 0x7ffffe841e77220e823e6c61c887a83841 [_,_,_] hj hl o e)
theorem zQ(q:Zbj)(hn:1<=j)(a:∀p,Vp j p->z9 NA p j->c p G):(kas_sort j).kasWp NY c G:=by
  rw[Ou];have hv:Vp j (Oc (Zh j)):=by unfold Vp;simp
  refine wj q hv hn λm p hp h1 h2 b=>?_;clear hn hv;by_cases e:m<j
  . rw[ZT e];have:max m 1=m:=by exact aV 0x1fd86ee0e42e [_] h2
    rw[this];exact Bj q a (j-m) p m hp (aV 0x7f62844220e841 [_,_] e) b
  . rw[ZY e];have:m=j:=by exact bx 0xfff620f3420e441 [_,_] h1 e
    clear q;subst this;exact a p hp b
abbrev EM:=Zv×Zv×Zv
abbrev cP(C:Y9)(t:EM):MV:=.seq Zbr [.int t.1,.int t.2.1,.int t.2.2]
def pX(h:C_)(C:Y9)(a:ZP)(t:EM):Prop:=∃x o n t1 t2 t3,a=ZaK/\Vl x=Zag/\o.cls=Zbr/\OA=.seq #[.int t.1 t1,.int t.2.1 t2,.int t.2.2 t3] n
theorem oR[Oa c]{a b:p_ α}{Q:α->Zb->Prop}(d:c)(h:ZU YH m a Q f G):ZU YH m (if c then a else b) Q f G:=by rw[ZT d];exact h
theorem AA:OH "tuple.__lt__"=some .slot:=by decide+kernel
theorem yQ:splitId "tuple.__lt__"=some ("tuple","__lt__"):=by decide+kernel
theorem DS(t:Zap)(k:pd h)(a:Vl x=Zar)(c:b.cls=Zay):V3 YH h (isInstance (.ref x) (.type "tuple")) true:=(hR k a c t.lt).2
theorem tN(h:c (.bool (decide (a<b))) G):ZU YH m (richCompare .Lt (.int a d) (.int b u)) c f G:=wpAny_richCompare_same (op:=.Lt) (typeIs_int G a d) (typeIs_int G b u) slot_int_lt (PyProof.Rows.call_int_lt ⟨(λx=>nomatch x),h⟩)
theorem tL(t:Zap)(k:pd YK)(i:pX YK z l a)(hb:pX YK z q b)(j:a.1≠b.1)(h:r (.done (.ret (.bool (decide (a.1<b.1))))) G):ZU YH m (Builtin.«tuple.__lt__» ⟨[l,q],[]⟩) r F G:=by
 obtain⟨x,o,n,t1,t2,t3,rfl,p,u,hd⟩:=i;obtain⟨y,w,C,u1,u2,u3,rfl,c,e,f⟩:=hb;have A:=DS t k c e;obtain⟨D,E,d,s⟩:=o;obtain⟨I,N,S,T⟩:=w;dsimp only at hd f;clear u e;subst hd f;obtain⟨hh,g,V,PM,os⟩:=G;dsimp only at p c A;have B:(a.1==b.1)=false:=by simpa using j
 repeat(first|with_reducible refine wpAny_eqBool_int ?_|lk)
 walk_at"e";rw[B];refine oR rfl ?_;refine Z7 (Vw (Z7 (tN ?_)));exact Z7 (Z5 (Z5 (Z5 (Z5 h))))
theorem Gv(t:Zap)(u:OV<cLine)(k:pd YK)(g:pX YK z d a)(hb:pX YK z f b)(w:a.1≠b.1)(h:i (decide (a.1<b.1)) G):ZU YH m (keyLt' r0 d f) i l G:=by
 obtain⟨x,o,n,t1,t2,t3,rfl,j,y,hd⟩:=id g;obtain⟨p,B⟩:=hR k j y t.lt;refine Z7 (wpAny_cRoomFor u ?_);refine Z7 ?_;walk_at"a";refine ZF (Z7 (Z7 (p.here ?_)));walk_at"a";refine Z7 (Ul (UR ?_));have c:∀A,U4 YH A (.call (.builtin "tuple.__lt__") ⟨[ZaK,f],[]⟩) (λr s=>r=.ok (.ret (.bool (decide (a.1<b.1))))/\s=G) G:=λA=>Wo F.slot_tuple_lt.plain F.entry_tuple_lt (@od YH _ _ _ _ _ _ _ _ _ _ AA yQ B (F.args_tuple_lt_2 _ _) (tL t k g hb w ⟨rfl,rfl⟩));have Ub:∀e,e (some (.bool (decide (a.1<b.1)))) G->ZU YH m (VP (.builtin "tuple.__lt__") ([ZaK]++[f])>>=λd=>Yh ZaC) e l G:=λe q=>by
  clear h j p;exact Z7 (V_ (V9 (c _) λr s h=>by rw[h.1,h.2];exact Z5 q))
 have last:ZU YH m (truthOfDropped (.bool (decide (a.1<b.1)))) i l G:=UN h;split;.exact Z7 (Z5 (Z5 (Ub _ last)))
 .exact wpAny_tryCatch (Z7 (Z5 (Z5 (Ub _ last))))
theorem ao.pick(r:ao y a b):∀(is:J U),(∀i∈is,i<ZC)->ao y (ID λi=>Vu i .none) (ID λi=>UB i .none):=by
 intro I;induction I with
 |Yl=>
  intro _;exact .nil|Zp i is d=>
  intro h;have c:=h i Y4;obtain⟨f,hv,e⟩:=r.get i (Z6 c);refine .cons ?_ (d λj hj=>h j (ZX _ hj));show aw y (Vu i .none) (UB i .none);rw[Z0,Z0,hv,Z6 c];exact e
theorem Ap(r:aw y (cP z b) c)(hp:∀a o,y a o->Vl a=Zag):pX h z c b:=by
 obtain⟨a,d,n,YA,p,rl⟩:=aw.seq r;rw[YA];obtain⟨l⟩:=d;obtain⟨v1,_,e,f,v2,_,YA,r2,v3,_,YB,g,YC⟩:=rl;subst YA;subst YB;subst YC;obtain⟨t1,rfl⟩:=f.int;obtain⟨t2,rfl⟩:=r2.int;obtain⟨t3,rfl⟩:=g.int;subst e;exact⟨a,_,0,t1,t2,t3,rfl,hp _ _ p,rfl,rfl⟩
theorem yW(PW:Zap)(rm:Rm X m (Qr+1))(hg:E l=some (.list (hu (cP z))))(D:Zw<64)(PX:b.Pairwise λx u=>x.1≠u.1)(PY:Zab)(Qb:aw y (.ref l) n)(k:∀t:J EM,t.Perm b->t.Pairwise (λx u=>x.1<u.1)->PZ .none (Y7 E l (.list (k' (cP z))))):ZU YH m (VP (.builtin "list.sort") [n]) (PV X A y o PZ) bz G:=by
  walk_at"a";rw[Qb.raw];obtain⟨⟨c⟩,Qt,B,rl⟩:=PY.g.objs _ _ hg;have f:Yv=Zw:=by have:=rl.length;simpa using this
  refine X7 slot_list_sort ⟨_,B,rfl⟩ entry_list_sort ?_ (args_list_sort _);walk_at"a";have Qc:ak X y A o (Y7 E l (.list [])) {G with X_:=UC l (Ye λO=>#[]),Wf:=Wu}:=PY.set hg (Y_ ..) ⟨#[],_,ft B _,.nil⟩;obtain⟨e1,P0⟩:∃e1,(UC l (Ye λO=>#[])).get? l=some (XH "list" #[] e1):=⟨_,ft B λO=>#[]⟩;have S:ak X y A o (Y7 E l (.list [])) {G with X_:=((UC l (Ye λO=>#[])).push (XH "tuple" zB 0)).push (XH "list" #[] 0)}:=(Qc.push _).push _;have F:(((UC l (Ye λO=>#[])).push (XH "tuple" zB 0)).push (XH "list" #[] 0)).get? l=some (XH "list" #[] e1):=ZA _ (ZA _ P0);have P2:=PW.at_ i2;have I:∀i N,b[i]?=some N->∃n,c[i]?=Zc0/\pX (((UC l (Ye λO=>#[])).push (XH "tuple" zB 0)).push (XH "list" #[] 0)) z n N:=λi N d=>by
    obtain⟨n,hv,Qd⟩:=ia i (by rw[Zy,d];rfl);exact⟨n,hv,Ap Qd Yg⟩
  rw[list_sort_plain];refine Z7 (listItems_at B rfl ?_);refine Z7 (listUpdate_at B rfl ?_ (by rw[V',af];exact cD 0x7ff978b61169e1 [64,16777216] [_,_] [] D f) (Zf _));walk_at"f";refine Z7 (seqEpoch_at P0 rfl ?_);refine Z7 (wpAny_newTuple ?_ (by show Yv<=_;rw[af];exact cD 0x7ff978b61169e1 [64,16777216] [_,_] [] D f));refine Z7 (wpAny_newList ?_ (Zf _));refine ZF ?_;show ZU YH Uq _ _ _ {G with X_:=((UC l (Ye λO=>#[])).push (XH "tuple" zB 0)).push (XH "list" #[] 0)};generalize((UC l (Ye λO=>#[])).push (XH "tuple" zB 0)).push (XH "list" #[] 0)=r at S F P2 I;have P4:∀st(is:J U),is.Perm (Zh Zw)->(ID λi=>UB i (0,0,0)).Pairwise (λx u=>x.1<u.1)->(arrOf st).map (·.2)=Oc (ID λi=>Pr i .none)->failedOf st=none->ZU YH Uq (do
        let Qe:=(<-seqEpoch l)!=e1
        A2 (.ref l) λO=>(arrOf st).map (·.2)if let some e:=failedOf st then rule "list.sort.comparison-raised";throw e
        if Qe then rule "list.sort.modified";raiseError"ValueError""list modified during sort"
        fj .none) (λUb a=>∃n,Ub=Fin.done (.ret n)/\PV X A y o PZ n a) bz {G with X_:=r}:=λst is hp hs Qf T=>by
    walk_at"e";rw[Qf];have P5:∀i∈is,i<Zw:=λi d=>WX (hp.mem_iff.mp d);have Qg:(Oc (ID λi=>Pr i U6)).size=Zw:=by rw[V',Z2,R6,WW]
    refine Z7 (seqEpoch_at F rfl ?_);refine Z7 (listUpdate_at F rfl ?_ (Zf _) (by show _<=_;rw[Qg,af];exact a9 0x1fcc1cf0e9e1 [64,16777216] [_] [] D));walk_at"f";rw[T];simp only[kn,T5,A_];refine Z5 ⟨.none,rfl,?_⟩;have Qh:(ID λi=>UB i (0,0,0)).Perm b:=by
      have h1:=hp.map λi=>UB i (0,0,0);walk_at"av";have h2:(Zh Zw).map (λi=>UB i (0,0,0))=b:=by
        apply G2;intro k;rw[Zy];by_cases p:k<Zw;.rw[Vr p];simp[p]
        .simp[p]
      rwa[h2]at h1
    have Qi:ao y ((ID λi=>UB i (0,0,0)).map (cP z)) (ID λi=>Pr i .none):=by
      have h2:(ID λi=>UB i (0,0,0)).map (cP z)=ID λi=>(hu (cP z)).getD i .none:=by
        rw[Xo];refine Vq λi d=>?_;have:=P5 i d;simp[Z0,this]
      rw[h2];exact(ao.pick rl is λi d=>by rw[Z2];exact P5 i d)
    have P6:=b0 (n:=Wu) (a:=.list ((ID λi=>UB i (0,0,0)).map (cP z))) (aa ..) (Y_ r l (Ye λO=>Oc (ID λi=>Pr i .none))) ⟨_,_,ft F _,Qi⟩;rw[aP]at P6;exact⟨y,.none,_,ZbK,aE ..,P6,k _ Qh hs⟩
  have Qj:∀is,is=Zh Zw->(ID λi=>Pr i U6)=c:=λis e=>by
    rw[e];apply G2;intro k;rw[Zy];by_cases p:k<Zw
    . rw[Vr p];have:k<Yv:=by exact O6 p f
      simp[this]
    .rw[U1 (by rw[WW];exact aV 0xfe422e6841 [_,_] p),U1 (bx 0xfff230f3421ec41 [_,_,_] f p)];rfl
  by_cases h2:Zw<2
  . have C:c.toArray.size<2:=by rw[V'];exact bx 0x7ffa10f611e841 [_,_,_] h2 f
    rw[ZT C,ZT C];refine Z7 (Z5 ?_);refine Z7 (Z5 ?_);refine P4 _ (Zh Zw) (.refl _) ?_ ?_ rfl
    . have:Zw=0\/Zw=1:=by exact a9 0x7fdb7076d0e9e1 [2] [_] [] h2
      rcases this with e|e<;>rw[e];.exact .nil
      .exact List.pairwise_singleton ..
    . rw[Qj _ rfl];show((c.toArray.zip zB).map (·.2))=_;apply Array.ext_getElem?;intro i;by_cases d:i<Yv;.simp[d]
      .simp[d]
  . have C:¬c.toArray.size<2:=by rw[V'];exact bx 0x1fff3430f34316c41 [_,_,_] f h2
    rw[ZY C,ZY C];have Qk:∀n∈c,V3 YH r (w' n) Zay:=λn hv=>by
      obtain⟨i,d⟩:=OF hv;have Ql:i<Zw:=by have:=(ZN d).1;exact O5 this f
      clear hv;obtain⟨Qu,P7,x,Qv,_,_,_,_,rfl,hx,V,_⟩:=I i _ (Z6 Ql);rw[d]at P7;cases P7;exact(IV hx).andThen (by rw[V];exact .now)
    refine Z7 (kas_kind (bx 0xfff211f34316c41 [_,_,_] f h2) Qk rfl (by simp) ?_);have Qm:SortSt.mk' r0 (c.toArray.zip zB) #[] 7 none=kas_st r0 (j6 c) (Oc (Zh Yv)):=by
      have e:=kas_range (j6 c);rw[pairsOf_size]at e;show SortSt.mk' r0 (j6 c) #[] 7 none=SortSt.mk' r0 ((Oc (Zh Yv)).map (kas_item (j6 c))) #[] 7 none;rw[e]
    have Qn:Qs Yv (λi=>(UB i (0,0,0)).1) (kas_cmp Wj Sh Uq r0 (j6 c)) {G with X_:=r}:=by
      walk_at"aw";have P8:∀i j,i<Yv->j<Yv->i≠j->(UB i (0,0,0)).1≠(UB j (0,0,0)).1:=λi j d hj q=>by
        have PM:i<Zw:=by exact O5 d f
        have PN:j<Zw:=by exact O5 hj f
        rw[Z0,Z0,Z6 PM,Z6 PN];show b[i].1≠b[j].1;rcases Nat.lt_or_gt_of_ne q with h|h;.exact fo PX i j PM PN h
        .exact Zg (fo PX j i PN PM h)
      refine⟨λi j d hj e=>G' λq=>P8 i j d hj q e,λi j z d hj q V=>?_⟩;obtain⟨n,hv,P9⟩:=I i _ (Z6 (O5 d f));obtain⟨Qw,hw,Qa⟩:=I j _ (Z6 (O5 hj f));have e1:b[i]=UB i (0,0,0):=by simp[Z0,(by(exact O5 d f):i<Zw)]
      have e2:b[j]=UB j (0,0,0):=by simp[Z0,(by(exact O5 hj f):j<Zw)]
      rw[e1]at P9;rw[e2]at Qa;rw[<-kas_ask_eq];show ZU _ _ (keyLt' r0 (Pr i .none) (Pr j .none)) _ _ _;rw[Z0,Z0,hv,hw];exact Gv PW rm.in1.cl P2 P9 Qa (P8 i j d hj q) V
    have run:=kas_runs (E:=bz) (Q:=λO s a=>∃Nh:Ua U,Vp Yv Nh/\z9 (λi=>(UB i (0,0,0)).1) Nh Yv/\arrOf s=Nh.map (kas_item (j6 c))/\failedOf s=none/\a={G with X_:=r}) (n:=Yv) (bx 0xfff211f34316c41 [_,_,_] f h2) (bx 0x7ffa10f611e841 [_,_,_] D f) (G:=λNh a=>Vp Yv Nh/\z9 (λi=>(UB i (0,0,0)).1) Nh Yv/\a={G with X_:=r}) (λQo s a a1 a2 Qp PR=>⟨Qo,PR.1,PR.2.1,a2,Qp,PR.2.2⟩) (zQ Qn (cD 0xfff217734f16c41 [2] [_,_] [] f h2) λNh hp PS=>⟨hp,PS,rfl⟩);rw[<-Qm]at run;refine Z7 (ZS run ?_ λO O e=>e);intro PT;obtain⟨⟨⟩,s⟩:=PT;intro a PT;obtain⟨Nh,hp,PS,Qq,T,rfl⟩:=PT;refine P4 s Nh.toList (by rw[<-f];exact hp) ?_ ?_ T
    . rw[List.pairwise_map,List.pairwise_iff_getElem];intro i j d hj q;rw[Yy]at d hj;have:=PS i j q (O5 hj (hp.size));have e1:Nh.toList[i]'(by rw[Yy];exact d)=Nh.getD i 0:=by simp[Array.getD,d]
      have e2:Nh.toList[j]'(by rw[Yy];exact hj)=Nh.getD j 0:=by simp[Array.getD,hj]
      rw[e1,e2];exact this
    .apply Oi;rw[Qq,Array.map_map,Array.toList_map];exact Vq λi O=>by show(kas_item (j6 c) i).2=_;rw[kas_item_eq]
theorem Em:w' (.builtin "list.sort")=ZaR:=by show builtinType _=_;rw[builtinType_eq_fast];kernel_rfl
theorem EV.sort(d:Zap)(rm:Rm X m (j+1))(h:EV X m A ZaF o E λc G=>∃a t,c=Zaj/\G a=some (.list (k' (cP z)))/\YI<64/\(t.Pairwise λx y=>x.1≠y.1)/\∀b:J EM,b.Perm t->b.Pairwise (λx y=>x.1<y.1)->g .none (Y7 G a (.list (hu (cP z)))))(he:Z3 (eP A Ng ("sort") Np [] Nx Nz) aR):EV X m A (ZH (.Call (.Attribute Ng ("sort") Np) [] [] Nx) A) o E g:=by
 refine EV.ES (Nz:=Nz) R_ slot_list_sort Em (WT λc G hm=>?_) he;walk_at"g";obtain⟨a,t,rfl,hg,h1,h2,k⟩:=hm;exact⟨e5 (c8 hg),λe s f S r=>yW d rm hg h1 h2 S r k⟩
theorem pf:Slot "map" "__init__" "object.__init__":=.of (owner:="object") (n:="__init__") (by rw[W5,X'];kernel_rfl) Z8 Z8 Z8 (by first|exact .inl Z8|exact .inr Z8) (by rw[WS];kernel_rfl)
theorem jK:Slot "map" "__iter__" "map.__iter__":=.of (owner:="map") (n:="__iter__") (by rw[W5,X'];kernel_rfl) Z8 Z8 Z8 (by first|exact .inl Z8|exact .inr Z8) (by rw[WS];kernel_rfl)
theorem dD:Slot "map" "__next__" "map.__next__":=.of (owner:="map") (n:="__next__") (by rw[W5,X'];kernel_rfl) Z8 Z8 Z8 (by first|exact .inl Z8|exact .inr Z8) (by rw[WS];kernel_rfl)
theorem ja:OJ gy "map.__next__"=some Builtin.«map.__next__»:=z' Z9
theorem jI(a:ZP):S4 "map.__next__" ⟨[a],[]⟩:=by unfold S4;kernel_rfl
theorem nJ:OJ gy "map.__iter__"=some Builtin.«dict_keyiterator.__iter__»:=r' (id':="dict_keyiterator.__iter__") (by rw[VE];kernel_rfl) (by first|rfl|decide+kernel|(unfold String.splitOn;simp+decide[String.splitOnAux])) Z8 (by rw[VE];kernel_rfl)
theorem ph(a:ZP):S4 "map.__iter__" ⟨[a],[]⟩:=by unfold S4;kernel_rfl
theorem xZ:mroOf Zax=Yh [Zax,Zai]:=by rw[mroOf_type];kernel_rfl
theorem mH:V6 Zax "__new__"=Yh (some (.builtin "map.__new__")):=by rw[W5,X'];kernel_rfl
theorem vP:TypeCalled "map" "map.__new__" "object.__init__":=⟨by decide+kernel,by decide+kernel,⟨_,_,xZ⟩,madeBy_type xZ mH Z8,by decide+kernel,by rw[WS];kernel_rfl,pf⟩
theorem nQ(a b:ZP):checkTypeCall "map" ⟨[a,b],[]⟩=Yh ():=(VJ (VJ ec _) _).trans Z9
theorem pA(a b:ZP):z_ "map.__new__" ⟨[Zax,a,b],[]⟩=Yh ():=(VJ (VJ eb _) _).trans Z9
theorem pw:OJ gy "map.__new__"=some Builtin.«map.__new__»:=z' Z9
theorem CO:L3 Zax Zax=Yh true:=by rw[WS];kernel_rfl
theorem w6:V6 Zax "__len__"=Yh none:=by rw[W5,X'];kernel_rfl
theorem uh:V6 Zax "__length_hint__"=Yh none:=by rw[W5,X'];kernel_rfl
abbrev n3(l:Y9):OB:={T':=Zbo,Xg:=.fields #[.ref l,.int 0 0]}
abbrev xk(it:Y9):OB:={T':=Zac,Xg:=.seq #[Zb4]}
abbrev AM(tp:Y9)(f:ZP):OB:={T':=Zax,Xg:=.fields #[.ref tp,f]}
theorem pg(f:ZP)(l:Y9)(x:Ua ZP):Meets (Builtin.«map.__new__» ⟨[Zax,f,.ref l],[]⟩) (λO R s=>s.heap.IsList l x/\R (.ok (.ret (.ref ((To (n3 l)).push (xk Zx)).objs.size))) {s with X_:=((To (n3 l)).push (xk Zx)).push (AM (To (n3 l)).objs.size f)}):=.of_wp λYz w A R s h=>by
  walk_at"c";obtain⟨hp,g,d,t,os⟩:=s;obtain⟨a,h⟩:=h;have b:=CO;wp_walk using TH (a:Heap.IsList (Shared.heap ⟨hp,g,d,t,os⟩) l x);exact⟨_,rfl,h⟩
abbrev Oh(la:Y9)(k:U):MO:=.own λo=>o.cls=Zbo/\OA=.fields #[.ref la,.int k 0]
structure lM(a:aT)(m tp q it la f:Y9)(s:ZP)(b:Ua ZP):Prop where
 om:a m (AM tp (.ref q))
 ot:a tp (xk it)
 oq:a q (methodObj (.ref f) s)
 ol:∃n,a la Zau
theorem lM.mono(h:lM y a tp q it la f s b)(k:Zbq):lM N a tp q it la f s b:=⟨k _ _ h.om,k _ _ h.ot,k _ _ h.oq,Su h.ol λn e=>⟨n,k _ _ e⟩⟩
theorem A9(rm:Rm X m (n+2))(a:lM y b tp PW it la f s l)(S:Zah)(e:E it=Zcv)(hv:l[k]?=some i)(r:aw y mv i)(rs:aw y q s)(g:∀A w,Rm X A n->b8 X A (.ref f) [q,mv] w λb j=>b=u/\j=w)(p:∀N Nc c,Zbq->aA X N (Y7 E it (Oh la (k+1))) Nc->aw N u c->x Zan Nc):ZU YH m (VO (.ref b)) x PX G:=by
 obtain⟨nl,t⟩:=a.ol;have hm:=C1 _ _ a.om;obtain⟨o,z,B,C⟩:=UG _ _ e;refine Z7 (Vd (XI ⟨_,hm,rfl⟩ dD (X7 dD ⟨_,hm,rfl⟩ ja ?_ (jI _))));walk_at"c";show ZU _ _ (field ZaQ 0>>=_) _ _ G;refine Z7 (OG hm rfl rfl ?_);refine Z7 (VG (C1 _ _ a.ot) rfl ?_);refine Z7 ?_;walk_at"c";refine Z7 (Z7 (ZF (wpAny_nextOf_list_item ⟨o,z,B,C⟩ (aq (C1 _ _ t)) hv λD F hs=>?_)));walk_at"h";obtain⟨I,Q,T,V⟩:=F;have d:aA X y (Y7 E it (Oh la (k+1))) {G with X_:=D,Wf:=Wu}:=b0 e hs ⟨I,Q,T,V⟩;refine Z5 ?_;refine Z5 ?_;show ZU _ _ (field ZaQ 1>>=_) _ _ _;refine Z7 (OG (d.aG _ _ a.om) rfl rfl ?_);refine Z7 (ZF (V_ (method_call (d.aG _ _ a.oq) ?_)));walk_at"w";refine V9 (g _ _ (rm.in1.le (FA)) y _ [s,i] d (.cons rs (.one r))) λPY PM PN=>?_;clear g;obtain⟨c,N,PZ,w,YA,PR,PS,PT,YB,YC⟩:=PN;subst YA;subst YB;subst YC;refine Z7 (sg ?_);exact Z5 ⟨c,rfl,Z5 (p N PM c PR PT PS)⟩
theorem DE(hh:XZ=none)(b:lM y d tp q it la f s i)(S:Zah)(c:E it=Zcv)(hv:i[k]?=none)(g:∀Nc,aA X y (G_ E it) Nc->l none Nc):ZU YH m (VO (.ref d)) l x G:=by
 obtain⟨nl,j⟩:=b.ol;have hm:=C1 _ _ b.om;obtain⟨n,p,r,t⟩:=UG _ _ c;refine Z7 (Vd (XI ⟨_,hm,rfl⟩ dD (X7 dD ⟨_,hm,rfl⟩ ja ?_ (jI _))));walk_at"c";show ZU _ _ (field ZaG 0>>=_) _ _ G;refine Z7 (OG hm rfl (x:=.ref tp) rfl ?_);refine Z7 (VG (C1 _ _ b.ot) rfl ?_);refine Z7 ?_;refine Z7 (Z7 (ZF (wpAny_nextOf_list_end hh ⟨n,p,r,t⟩ (aq (C1 _ _ j)) hv λz e he u=>?_)));refine Z7 (Um u I5 ?_);have w:aA X y (G_ E it) G:=S.drop λa o e=>(ck e).2;have np:∀o,¬y it o:=λo e=>by have:=df _ _ e;exact ax (SM c)
 exact Z5 (g _ (w.ext (dO ..) np (K_ _ _ c) he))
theorem z7(rm:Rm X m (T+3))(Qc:NI it=none)(u:S≠it)(PN:∀(i:U)q w,i<Zw->Rm X q T->b8 X q (.ref PR) [PS,UB i .none] w λd PT=>d=rs.getD i .none/\PT=w)(I:Zc=Zw)(Q:Zw<=ZK):∀(j k:U)(y:aT)(E:GH)(G:Zb),k+j=Zw->aA X y E G->E S=some (.list (Tz k))->E it=Zcv->lM y d tp Qd it la PR PW PX->ao y b PX.toList->aw y PS PW->(∀a o,a≠S->a≠it->NI a=Zag->E a=Zag)->(∀N w Nc,Zbq->aA X N w Nc->(∀a o,a≠S->a≠it->NI a=Zag->w a=Zag)->w S=some (.list rs)->R (.ok (.ret PY)) Nc)->U4 YH m (.builtin "list.extend.loop" ⟨[Za7,ZaG,PY],[]⟩) R G:=by
 intro PZ;induction PZ with
 |VZ=>
  intro k y E G c x z A s rl r ex B;refine V0 Oo ?_;walk_at"a";walk_at"c";show ZU _ Uq (VO ZaG>>=_) _ _ G;refine Z7 (DE rm.in1.handled s x A (by rw[T1];have:=WZ;exact KH c this) λNc t=>?_);refine Z5 (B y _ Nc (.refl _) t (λa o h1 h2 e=>by rw[bZ _ h2];exact ex a o h1 h2 e) ?_);rw[bZ _ u,z,YR (KH c I)]|VC j P0=>
  intro k y E G c x z A s rl r ex B;refine V0 Oo ?_;walk_at"c";show ZU _ Uq (VO ZaG>>=_) _ _ G;have C:k<Zw:=by exact GB c
  obtain⟨Qe,hv,P2⟩:=ia k (Z6 C);have hg:UB k .none=b[k]:=by simp[Z0,C]
  have P4:rs[k]?=some (rs.getD k .none):=by rw[Z0,Z6 (by exact LS c I)]at⊢;rfl
  refine Z7 (A9 (n:=T) rm.in1 s x A (by simpa using hv) P2 r (λq w P5=>by rw[<-hg];exact PN k q w C P5) λN Nc f l t P6=>?_);have V:Y7 E it (Oh la (k+1)) S=some (.list (Tz k)):=by rw[ag u];exact z
  obtain⟨p,n,g,PM⟩:=t.objs _ _ V;have D:=PM.size;rw[Zo]at D;show ZU _ Uq (updateSeq S (·.push f)>>=_) _ _ _;refine Z7 ?_;have P7:aA X N (Y7 (Y7 E it (Oh la (k+1))) S (.list (Tz (k+1)))) {Nc with X_:=Nc.heap.update S (Ye (·.push f)),Wf:=Nc.toks}:=t.set V (Y_ ..) (Vo (p.push f) (if(p.push f).size==p.size then n else n+1) ⟨YS (o:=X8 Zad p n) _ g rfl,by rw[R',X9,P4];exact PM.snoc P6⟩);refine US g rfl (Z5 ⟨TP Ol _,P0 (k+1) N _ _ (by exact JL c) P7 (aa ..) (by rw[ag (Zg u)];exact aa ..) (s.mono l) (e6 l) (Tp l) (λa o h1 h2 e=>by rw[ag h1,ag h2];exact ex a o h1 h2 e) λP8 P9 Qa Qb=>B P8 P9 Qa (l.trans Qb)⟩) (by rw[D];(exact Ly c Q)) (by show(p.push f).size<=ZK+1;rw[Array.size_push,D];(exact LC c Q))
theorem wU(a:ZG b=ZaC)(c:d.cls=Zax)(h:f ZaQ G):ZU YH m (h' (.ref b)) f i G:=by
 refine wpAny_pyIter_slot ⟨_,a,c⟩ jK (X7 jK ⟨_,a,c⟩ nJ ?_ (ph _));show ZU _ _ (fj (.ref b)) _ _ G;exact Z5 ⟨_,rfl,"map",_,⟨_,a,c⟩,dD.lookup,h⟩
theorem Ax(rm:Rm X m (n+5))(z:l it=none)(Q:∀(i:U)T w,i<V4->Rm X T n->b8 X T (.ref f) [V,k.getD i .none] w λb PM=>b=rs.getD i .none/\PM=w)(PN:Zc=V4)(PR:V4<=ZK)(q:Zah)(r:E it=some (Oh la 0))(c:lM y b tp P9 it la f PS PT)(rl:ao y k PT.toList)(PW:aw y V PS)(ex:Wy l E)(PX:∀S N w Nc,Zbq->aA X N w Nc->Wy l w->l S=none->w S=some (.list rs)->PY Za7 Nc):ZU YH m (VP Zad [ZaQ]) PY Qa G:=by
 refine callType_codes (Q₁:=λobj s=>obj=ZaD/\s={G with X_:=Zj {T':=Zad,Xg:=.seq #[]}}) F.called_list (F.typeCall_list_1 _) F.entry_list_init (code_list_new _ ⟨rfl,rfl⟩) λobj s PZ=>?_;obtain⟨rfl,rfl⟩:=PZ;generalize p:ZZ=S;have g:(Zj {T':=Zad,Xg:=.seq #[]}).get? S=some {T':=Zad,Xg:=.seq #[]}:=by subst p;exact ZL _ rfl
 have t:=q.fresh (GN p);have A:aA X y ZbA {G with X_:=Zj {T':=Zad,Xg:=.seq #[]}}:=by
  clear g t;subst p;exact q.new ⟨#[],0,ZL _ rfl,.nil⟩
 have B:S≠it:=by intro j;subst j;rw[t]at r;cases r
 have P0:S≠b:=λe=>by have:=XR (q.aG _ _ c.om);rw[p,e]at this;exact UA _ this
 have C:=k5 t;refine⟨⟨_,g,rfl⟩,F.args_list_init_2 _ _,?_⟩;walk_at"h";show ZU _ Sl (do let old<-Builtin.List.listItems Za7;A2 Za7 (λO=>#[]);letGo old.toList.reverse;TC Za7 ZaQ .none) _ _ _;refine Z7 ?_;refine Z7 (VG g rfl (Z5 ?_));show ZU _ Sl (updateSeq S (λO=>#[])>>=λO=>letGo #[].toList.reverse>>=λO=>TC Za7 ZaQ .none) _ _ _;refine Z7 (US g rfl ?_);walk_at"f";have u:=YS (Ye (λO=>#[])) g rfl;have d:aA X y ZaV {G with X_:=(Zj {T':=Zad,Xg:=.seq #[]}).update S (Ye (λO=>#[])),Wf:=Wu}:=A.set (aa ..) (Y_ ..) ⟨#[],_,u,.nil⟩;rw[aP]at d;refine Z7 (sg ?_);clear A;refine Z7 (wd ⟨_,d.aG _ _ c.om,rfl⟩ ?_);have h1:SY Za7 ZaQ=false:=by simp[SY,P0]
 have h2:(Vx "map"==Vx "list")=false:=by rfl
 have D:(Vx "map"==Vx "tuple")=false:=by rfl
 first|refine UR (T3 (by rw[h1,h2,D];exact Yp) ?_)|refine Z7 (UR (T3 (by rw[h1,h2,D];exact Yp) ?_))
 refine Z7 (wU (d.aG _ _ c.om) rfl ?_);refine Z7 (ZF ?_);refine Z7 (Vy ⟨_,d.aG _ _ c.om,rfl⟩ w6 ?_);show ZU _ Sl (q9 (L' b) (WY "__length_hint__")>>=_) _ _ _;refine Z7 (Vy ⟨_,d.aG _ _ c.om,rfl⟩ uh ?_);refine Z5 ?_;show ZU _ Sl (rule "list.extend.makes-room">>=λO=>Builtin.List.listTouch Za7>>=λO=>OO (.builtin "list.extend.loop" ⟨[Za7,ZaQ,.none],[]⟩)) _ _ _;refine Z7 (Vw ?_);refine Z7 ?_;refine Z7 (US u rfl ?_);walk_at"f";have x:=YS (Ye (·.push U6)) u rfl;refine US x rfl ?_;have P2:=YS (Ye (·.pop)) x rfl;have I:aA X y ZaV {G with X_:=(((Zj {T':=Zad,Xg:=.seq #[]}).update S (Ye (λO=>#[]))).update S (Ye (·.push U6))).update S (Ye (·.pop)),Wf:=Wu}:=by
  have P4:aA X y (Y7 ZbA S (.own λO=>m3)) {G with X_:=(((Zj {T':=Zad,Xg:=.seq #[]}).update S (Ye (λO=>#[]))).update S (Ye (·.push U6))),Wf:=Wu}:=d.set (aa ..) (Y_ ..) ⟨_,x,trivial⟩;have z2:=P4.set (n:=Wu) (a:=Zaq) (aa ..) (Y_ ..) ⟨#[],_,P2,.nil⟩;rw[aP]at z2;exact z2
 rw[aP]at I;refine Z5 ⟨TP Ol _,z7 (m:=Uq) (T:=n) (NI:=l) (rm.in1.le (by exact fA 0x660f0c1e1 [3,4] [_] [])) z B Q PN PR V4 0 y _ _ (by exact O4) I (aa ..) (by rw[ag (Zg B)];exact r) c rl PW (λa o h1 h2 e=>by rw[ag h1];exact ex a o e) λN w Nc P5 P6 P7 P8=>?_⟩;refine⟨rfl,PX S N w Nc P5 P6 (λa o e=>P7 a o ?_ ?_ e) C P8⟩;.intro j;subst j;exact f' e C rfl
 .intro j;subst j;exact f' e z rfl
theorem EV.Ah(b:Zck)(PX:bM X NQ u QA fn)(P8:findCls NQ Zbg Zat "_make"=some (.get (.builtin "classmethod.__get__") (.ref q) .none (.ref u)))(P9:recIn NQ q "classmethod"=some [.ref fm,.bool false])(rm:Rm X m (n+5))(Qa:VY f=some Zbg)(Qb:Xs f=Zaa)(Qc:Xs ("list")=Zaa)(Qd:Xs ("map")=Zaa)(hl:VY ("list")=none/\U9 ("list")=some Zad)(hm:VY ("map")=none/\U9 ("map")=some Zax)(h:EV X m A Zc2 o E λc G=>∃d rs:ZaY,c=.lst d/\Zc=Yc/\Yc<=ZK/\(∀(i:U)x w,i<Yc->Rm X x n->b8 X x (.ref fm) [Zbg,o2 i .none] w λc Q=>c=rs.getD i .none/\Q=w)/\PY (.lst rs) G)(PZ:Z3 (Zr [l] A=(false,Zc2)::ZbE) aR)(Qe:Z3 ((f==("__debug__"))=false) aD):EV X m A (ZH (.Call (.Name ("list") p1) [.Call (.Name ("map") p2) [.Attribute (.Name f QB) ("_make") QC,l] [] QD] [] QE) A) o E PY:=λQF QG P0=>by
  walk_at"a";refine sL ?_ rfl;walk_at"a";refine(p9 (g:=λc w=>c=.raw Zad/\w=E) b Qc hl.1 hl.2 ⟨rfl,rfl⟩ (by rfl)).use P0 λQf QH e mv G Qg Qh P2 Qi=>?_;clear P0;obtain⟨rfl,rfl⟩:=Qi;cases Qh.raw;refine TA (rk (ZS (Q:=λe T=>∃r tp q it la j d rs c,e=Zb1/\bG Qf r/\∃G,ak X r A o (Y7 G it (Oh la 0)) T/\G it=none/\lM r c tp q it la fm Zbg j/\ao r d j.toList/\Zc=Yc/\Yc<=ZK/\(∀(i:U)x w,i<Yc->Rm X x n->b8 X x (.ref fm) [Zbg,o2 i .none] w λc Q=>c=rs.getD i .none/\Q=w)/\PY (.lst rs) G) ?_ (λe T z=>?_) λO O z=>z) rfl) rfl rfl
  . refine sL ?_ rfl;walk_at"a";refine(p9 (g:=λc w=>c=.raw Zax/\w=G) b Qd hm.1 hm.2 ⟨rfl,rfl⟩ (by rfl)).use P2 λQj T e mv p V Qk t Ql=>?_;walk_at"a";clear P2;obtain⟨rfl,rfl⟩:=Ql;cases Qk.raw;refine TA (rk ?_ rfl) rfl (by rw[PZ];rfl);walk_at"a";refine sf ?_ (by with_unfolding_all rfl);walk_at"a";refine(mw (g:=λc w=>c=.raw Zbg/\w=p) b Qb Qa ⟨rfl,rfl⟩ Qe).use t λQm y e mv QI Qn Qo P4 k=>?_;obtain⟨rfl,rfl⟩:=k;rw[Qo.raw];have Jc:=PX.at_ P4.g;refine cls_bind Jc PX.reads P8 (V_ (cm_get (s:={y with Wf:=y.toks+1}) Jc P9 (handed_on rfl ?_)));have B:=(P4.toks (y.toks+1)).Bg (methodObj (.ref fm) (.ref u));generalize QJ:y.heap.objs.size=q at B⊢;walk_at"e";refine rk (ZS (h _ _ B) (λe s z=>?_) λO O z=>z) PZ;walk_at"a";obtain⟨C,mv,PM,D,PN,S,d,rs,rfl,PR,PS,PT,PW⟩:=z;refine c' ?_;obtain⟨la,j,nl,rfl,P5,rl⟩:=PN.seq;refine callType_new vP (by rfl) (nQ _ _) (pA _ _) (λobj=>F.args_object_init_3 obj _ _) pw (pg _ la j) ⟨aq (Yg _ _ P5),?_⟩;generalize P6:Zx=it;walk_at"R";have I:PM it=none:=Us (by exact GN P6);have Qp:ak X C A o (Y7 PM it (Oh la 0)) {s with X_:=To (n3 la)}:=by
      rw[<-P6];exact S.new (ob:=n3 la) (a:=Oh la 0) ⟨_,ZL _ rfl,rfl,rfl⟩
    have Qq:=Qp.Bg (xk it);exact⟨⟨_,ZL _ rfl,rfl⟩,_,(To (n3 la)).objs.size,q,it,la,j,d,rs,_,rfl,λM N l=>.inl (.inl (D _ _ (.inl (Qn _ _ (V _ _ l))))),PM,(Qq.Bg (AM (To (n3 la)).objs.size (.ref q))),I,⟨.inr ⟨rfl,rfl⟩,.inl (.inr ⟨rfl,rfl⟩),.inl (.inl (D _ _ (.inr ⟨rfl,rfl⟩):C q (methodObj (.ref fm) (.ref u)))),⟨nl,.inl (.inl P5)⟩⟩,e6 (λM N l=>.inl (.inl l)),PR,PS,PT,PW⟩
  .obtain⟨Qj,tp,q,it,la,j,d,rs,c,rfl,V,p,t,I,Qr,rl,PR,PS,PT,PW⟩:=z;refine c' ?_;obtain⟨Qm,k,Qt,Oy⟩:=t.kR;clear t;refine Ax (n:=n) rm (l:=p) I PT PR PS Qt (aa ..) (Qr.mono k) (e6 k) (aE ..) (λM N l=>by rw[ag (by intro Qu;subst Qu;exact ax (I.symm.trans l))];exact l) λQK r w a Qv Qw Qx Qy P7=>?_;obtain⟨QL,Qz,B,QM,_⟩:=Oy r w a Qv Qw;obtain⟨C,D,PN,S⟩:=B.jk P7;clear P7;exact⟨C,.lst rs,p,(Qg.trans V).trans (Qz.trans D),PN,S.drop (λM N l=>by rw[bZ _ (f' l Qy)];exact Qx M N l),PW⟩
theorem GF.freeze(ga:E n=some (.list u))(c:YV)(hl:∀x mv,Sd x=ZaS->Yb x=ZaS\/(Yb x=some (.ref n)/\mv=.lst u))(h:GF X m Nv Ni XS Nk A F c (G_ E n) w Nb NS):GF X m Nv Ni XS Nk A F o E w Nb NS:=λT s p y gd l z B D S k=>by
  obtain⟨G,j,I,M⟩:=S.jk ga;refine h G s p y gd l z B (D.more j) (M.eF λx mv e=>?_) λr a f N c i C t Q n b d e x=>k r a f N c i C t Q (j.q.trans n) b d e x;walk_at"b";refine(hl x mv e).elim (λh=>?_) λYA=>?_;.exact⟨mv,h,λO g=>g⟩
  .obtain⟨h,rfl⟩:=YA;exact⟨_,h,λV g=>by rw[g.raw];exact I⟩
theorem GF.Ih(F:hY X m Ni XS n)(I:U->YV->GH->GH->J MV->Prop)(h:EV X Zbw A ZaZ o E λd G=>∃(b:ZaY)(f:U->YV->YV)(l:YV),d=.lst b/\I 0 l G w Nb/\N' l o/\(∀i,i.handled=none->∀k d,b[k]?=ZaC->TG X i cu A u d (f k))/\(∀c j p k d o E w Nb,hY X m c j n->b[k]?=ZaC->I k o E w Nb->GF X m Nv c j p A Zco (f k o) E w Nb (FG (I (k+1)) NS))/\(∀o E w Nb,I Zw o E w Nb->NS .next o E w Nb))(hs:Z3 (∀x,ZbY=Yh x) aI):ZaN:=by
 refine GF.vw (QG:=cu) F I (λN s t=>?_) hs;walk_at"a";refine W1 t λy Q T d G a r S z=>?_;obtain⟨b,f,l,rfl,i0,B,tg,Ux,Ub⟩:=z;walk_at"b";refine⟨y,G,Zw,_,a,S,B2.list r Yg,f,l,i0,B,λi C k q=>?_,λc j p k o E w Nb D q M=>Ux c j p k b[k] o E w Nb D (Z6 q) M,Ub⟩;have e:UB k .none=b[k]:=by simp[Z0,q]
 rw[e];exact tg i C k _ (Z6 q)
theorem dp{b:p_ α}{f:α->p_ β}{K:β->p_ Fin}(h:ZU M (Th c fs) b (λa Nc=>bF M m d c ((f a).wrap K i gd l) fs Nc) (λO O=>LV) G):bF M m d c ((b>>=f).wrap K i gd l) fs G:=by
 rw[XK,W3];exact b9 (ZS h (λO O q=>q) λO O q=>Vm)
abbrev o6(e t WB:Wx)(X1:g6)(Ym:ix):Wx:=.GeneratorExp e [⟨t,WB,[],0⟩] X1 Ym
structure F7(X:Cx)(n:U)(e t:Wx)(c:S2)(cc:Y9)(o:OB)(b rs:ZaY)(f:U->YV->YV):Prop where
 len:Zc=Zw
 fn:c.scope.kind=.function
 gl:c.globals=W2
 bi:c.builtins=We
 cl:c.cells=[]
 co:c.scope.isCoroutine=false
 tg:∀A,A.handled=none->∀k m,b[k]?=Zcd->TG X A cu c t m (f k)
 st:ly o
 el:∀A k l G a s r,Rm X A n->rs[k]?=Za2->a cc o->ak X a c (f k l) G s->ZU YH A (ZH e c) (PV X c a (f k l) λm i=>m=r/\i=G) bz s
theorem Av(c:F7 X P2 d i A cc P4 u rs Qt)(rm:Rm X (Th (.compLoop ZbP 0 ZaQ .none A) []) P2):∀(j k:U)(o:YV)(y:aT)(w E:GH)(G:Zb),k+j=u.length->ak X y A o E G->E b=Zcv->y la (X8 (.type "list") P5 nn)->ao y u P5.toList->y cc P4->Wy w E->w b=none->bF YH m (CT X m (.ok .next) (rs.drop k) y w) (.compLoop ZbP 0 ZaQ .none A) (X.M.den (.compLoop ZbP 0 ZaQ .none A)) [] G:=by
  have P6:∀{y:aT}{o:YV}{E:GH}{G:Zb},Zab->∀{n},E b=Zc0->b≠Yo:=λS O e=>f' e (S.f.lG.1);intro j;induction j with
  |VZ=>
    intro k o y w E G t S p hp rl hq z B;walk_at"u";walk_at"u";show bF _ m _ _ ((compTurn ZbP 0 ZaQ .none A).onRaise (leaving A)) [] G;walk_at"V";rw[Uv];walk_at"u";obtain⟨F,N,Q,T⟩:=Wc _ _ p;refine dp (Yq ?_);refine dp (wpAny_pyNext_list_end YQ (show G1 b la k from⟨F,N,Q,T⟩) (aq (Yg _ _ hp)) (by have:=WZ;simp;exact KH t this) λC he=>?_);have P7:aA X y (G_ E b) G:=S.g.drop λPN n e=>(ck e).2;have np:∀n,¬y b n:=λn e=>by have:=Oz _ _ e;exact ax (SM p)
    have P8:aA X y (G_ E b) {G with X_:=C}:=P7.ext (dO ..) np (OW _ _ p) he;rw[Vi (by rw[c.len];exact aV 0x1fc845b141a1 [_,_] t)];have Ub:CT X m (.ok .next) [] y w (.ret (.ok .next)) {G with X_:=C}:=⟨rfl,rfl,y,_,ZbK,z.del B,P8⟩;exact uA (.ok .next) Ub|VC j P9=>
    intro k o y w E G t S p hp rl hq z B;walk_at"V";show bF _ m _ _ ((compTurn ZbP 0 ZaQ .none A).onRaise (leaving A)) [] G;rw[Uv];obtain⟨F,N,Q,T⟩:=Wc _ _ p;have V:k<u.length:=by exact GB t
    obtain⟨x,hx,Qa⟩:=ia k (a:=u[k]) (Z6 V);refine dp (Yq ?_);refine dp (wpAny_pyNext_list_item (show G1 b la k from⟨F,N,Q,T⟩) (aq (Yg _ _ hp)) (by simpa using hx) λC Qb hs=>?_);obtain⟨Qc,PR,PS,Qd⟩:=Qb;have Qe:ak X y A o (Y7 E b (Oh la (k+1))) {G with X_:=C,Wf:=Wu}:=b0 p hs ⟨Qc,PR,PS,Qd⟩;have PT:Wy w (Y7 E b (Oh la (k+1))):=z.upd B;show bF _ m _ _ ((Xn i ZaQ x>>=λO=>I_ i A x>>=λO=>_).wrap _ _ _ _) [] _;refine dp (eI PR PS ?_);refine dp (ZS (c.tg _ YQ k u[k] (Z6 V) y o _ _ x Qe Qa) (λO s2 Qf=>?_) λO O q=>Vm);have PW:k<Zc:=by rw[c.len];exact V
    refine dp (α:=YZ) (Z5 ?_);show bF _ m _ _ (((ZH d A>>=λr=>VT d.pos>>=λO=>k_ A r>>=λO=>Yh n_)>>=λO=>OO _).wrap _ _ _ _) [] _;rw[XK (_>>=_),W3];refine dp (ZS (c.el _ k o _ y s2 rs[k] rm (Z6 PW) hq Qf) (λr Qu q=>?_) λO O q=>Vm);obtain⟨Qg,Qv,Qh,a,Qi,D,rfl,rfl⟩:=q;refine dp (Yq ?_);rw[(λr=>by simp only[k_,c.co,T5,A_]:∀r,k_ A r=yieldValue r)];have I:Y7 E b (Oh la (k+1)) b=some (Oh la (k+1)):=aa ..;generalize Y7 E b (Oh la (k+1))=Qh at D I PT;refine nG rfl λQw=>?_;rw[XB PW];walk_at"ax";obtain⟨ob,Qj,Qk⟩:=D.sleep (λx mv hx=>(D.f.knd x mv hx).elim (λq=>q) λq=>q.2.elim λQx Ql=>ax ((Zq (List.lookup x) c.cl).symm.trans Ql));have PX:=z.none S.f.lG.1;have PM:=P6 D I;refine⟨rfl,Qg,_,Y7 (Y7 (λO=>none) b (Oh la (k+1))) Yo (.own (.=ob)),a,PT.upd PX,λPN n e=>?_,λPN n e=>?_,Qi,Qj,fN.mpr λQm PY Qn Qo l PZ Qp P0 Qq=>?_⟩;.exact x7 e (aa ..) λh1 e=>(ag h1).trans (eN e I ax)
    .exact eN e PX λe=>eN e B ax
    .have Qr:=ak.wake Qq (PZ _ _ (aa ..)) Qk l c.fn c.gl c.bi c.cl;refine c6 rfl (P9 (k+1) _ Qm PY _ Qo (by exact JL t) Qr (by rw[bZ _ PM];exact(PZ _ _ (by rw[ag PM];exact aa ..):Qn b=some (Oh la (k+1)))) (l _ _ (.inl (exI3 _ _ _ rfl)) (a _ _ hp)) (rl.ik (a.s.trans l)) (l _ _ c.st (a _ _ hq)) (Qp.del (P0 _ _ (aa ..):PY Yo=none)) (P0 _ _ (by rw[ag PM];exact aa ..)))
structure tM(X:Cx)(c:Y9):Prop where
 nt:c≠tx
 ex:∃o a f t b tg i d tt,YF c=Zag/\o.cls=ZaM/\OA=.fields a/\a[11]?=some (.ref tx)/\Vu 18 .none=.str f t/\Vu 7 .none=.int b tg/\Vu 9 .none=.bool i/\Vu 10 .none=.int d tt
theorem tM.is(K:tM X c)(S:Zah)(ht:ZG tx=some {T':=.none,Xg:=.fields ps})(t:TriplesOk ij):G.heap.IsCode c tx ps/\G.heap.TableAt c tx ps/\isCodeTable X.B tx:=by
 walk_at"g";obtain⟨o,a,f,j,k,tg,i,l,tt,d,e,hd,b,m,n,p,q⟩:=K.ex;have g:=Tr _ _ d K.nt;exact⟨⟨o,a,f,j,k,tg,i,l,tt,_,g,hd,by rw[ee,b];rfl,m,n,p,q,ht,rfl,t,K.nt⟩,⟨⟨o,a,g,e,hd,b⟩,ht⟩,(Vo c o ⟨a,d,e,hd,b⟩)⟩
theorem o9(l:Zc4)(h:TriplesOk l)(hn:C2 Ym (l++[VW a,VW b,c])=Zbe):C2 Ym l=Zbe\/f=c:=by
 walk_at"N";fun_induction TriplesOk l with
 |case1=>
  simp only[Yi,C2,VW]at hn;split at hn;.exact .inr (ZW hn).symm
  .cases hn|case2 e t g u x XG i=>
  simp only[WO,C2]at hn⊢;refine bQ rfl (λd=>?_) λd=>?_;.rw[ZT d]at hn;exact .inl hn
  .rw[ZY d]at hn;exact i h hn|case3 l h1 h2=>exact Xq
theorem OldK.table(K:OldK f h)(hx:Tj T h i)(ht:Vl T=some {T':=.none,Xg:=.fields ps})(it:isCodeTable f T)(h2:i.get? T=some {T':=.none,Xg:=.fields (ps++SH)}):OldK f i:=by
  refine⟨λb o e=>?_,λb o e=>?_⟩
  . by_cases hb:b=T
    . subst hb;refine .inr (.inl ?_);walk_at"g";rcases K.old b o e with x|⟨t,g,j,m,hv,x⟩|⟨_,g,⟨a,d,n,c,_,hd,_⟩,z⟩;.rw[ht]at x;cases x;exact⟨it,rfl,ps,SH,rfl,h2⟩
      .rw[ht]at x;obtain⟨k,l,p,q⟩:=o;clear ht e;cases x;refine⟨it,rfl,j,m++SH,hv,?_⟩;rw[h2,Array.append_assoc]
      .rw[ht]at c;cases c;cases hd
    .exact xP (K.old b o e) λa=>hx b a hb
  . by_cases hb:b=T;.rw[hb];exact⟨_,h2⟩
    .obtain⟨a,c⟩:=K.there b o e;exact⟨a,hx b a hb c⟩
theorem rZ(K:tM X F)(z:A.code=.ref F)(S:Zab)(h:∀N Nc c d C,Zbq->ak X N A o E Nc->N c d->d.cls=ZaM->d.data=.fields C->PT Zb1 Nc):ZU YH m (genexprCode A Ym q X1) PT Ql G:=by
  obtain⟨ps,ht,r,D⟩:=S.g.old.t;obtain⟨i1,PW,PX⟩:=K.is i2 ht r;cases hv:C2 Ym ij with
  |none=>
    refine wpAny_genexprCodeX z i1 PW hv λc Qm Qn hx hge PY PZ P0 I P2=>Su P2 λQo Yw=>and3 Yw λO O P4=>?_;obtain⟨⟨s,Q,P5,V,PM,_⟩,_⟩:=P4;have l:=hge;have neT:∀a(d:MO),YF a=none->a≠tx:=λa d e=>λq=>ow e hN;clear PY PZ P0;refine h (cI y c s) _ c s Q Tu ⟨⟨⟨OldK.table S.g.old.k hx ht PX I.2,S.g.old.b,λd e=>VB (S.g.old.p d) λq=>(ow (S.g.hM l)) q.1,_,I.2,by simpa using TriplesOk_snoc _ _ _ _ r,λPN n P6=>?_⟩,λi d e PR=>hx i d PR (K2 i d e PR),λi d e=>?_,λi d e=>?_,λi d e=>?_,OW,c4,c3⟩,?_⟩ (.inr ⟨rfl,rfl⟩) V PM
    . have P7:C2 PN (ij++[VW K3,VW pos.col,Zb1])=Zc0:=by simpa using P6
      walk_at"b";refine(o9 _ r P7).elim (λe=>?_) λYA=>?_;.obtain⟨P8,P9,Qa,Qb,q2,q3,q4⟩:=D PN n e;exact⟨P8,P9,Qa,Qb,.inl q2,q3,q4⟩
      .subst YA;exact⟨c,s,Q,rfl,.inr ⟨rfl,rfl⟩,V,PM⟩
    . refine VB (λe=>?_) λYA=>?_;.exact hx i d (λq=>S.g.old.p d (q▸e)) (Yg i d e)
      .obtain⟨u,Qc⟩:=YA;rw[u,Qc];exact P5
    .have x:=Wc i d e;walk_at"ay";obtain⟨w,PS⟩:=x.obj;exact x.mono Tu ((hx i w ((λa d e=>neT a d (OW a d e):∀a d,E a=ZaC->a≠tx) i d e) PS).trans PS.symm)
    . refine VB (λe=>?_) λYA=>?_;.exact Oz i d e
      .obtain⟨u,_⟩:=YA;rw[u];exact Us l
    . refine CR.more (CR.keep S.f (λd e=>hx _ d (neT _ (.own λO=>m3) S.f.lG.2.2) e) (λx j d ra e=>hx _ d (neT _ (.own λO=>m3) (W7 x j ra).2.1) e) S.f.lG.1 λx j ra=>(W7 x j ra).1) Tu (λd e=>?_) λx j ra Qd d e=>?_
      . refine VB (λe=>?_) λYA=>?_;.exact S.f.lG.2.1 d e
        .obtain⟨q,_⟩:=YA;exact Za (q▸S.lT) (Wg l)
      . refine VB (λe=>?_) λYA=>?_;.exact(W7 x j ra).2.2 Qd d e
        .obtain⟨q,_⟩:=YA;exact Za (q▸S.kP ra) (Wg l)|some n=>
    obtain⟨c,w,Qe,rfl,hp,Qf,hd⟩:=D Ym n hv;obtain⟨d,C,Qp,Qq,Qr,tg,Qt,Qu,tt,Qv,Qg,Qh,Qi,Qw,Qx,Qy,Qz,Qj,Qk,QA,QB⟩:=id i1;unfold genexprCode codeAt;rw[z,ZY (show¬((L' F==U6)=true)from Yp)];refine Z7 (wpAny_fieldsOf Qg Qh ?_);rw[Qi];refine Z7 (wpAny_fieldsOf Qj Qk ?_);rw[hv];exact Z5 (h y G c w Qe (.refl y) S hp Qf hd)
theorem MR{f:Z->nj->α}{g:α}{a:α->Prop}(h:∀x t,a (f x t))(k:a g):a (inMainModule.match_3 (λ_=>α) NH f λ_=>g):=by induction NH using Value.casesOn with|str x t=>exact h x t|_=>exact k
theorem Dy(c:A.code=.ref cc)(d:ZG cc=Zbe)(hd:f.data=.fields k)(h:∀b,a b G):ZU YH m (inMainModule A) a i G:=by
 unfold inMainModule;rw[c,ZY (show¬((L' cc==U6)=true)from Yp)];refine Z7 (wpAny_fieldsOf d hd ?_);refine MR (a:=λe=>ZU YH m e a i G) (λO O=>?_) ?_;.exact Z7 (Ul (Z5 (h _)))
 .exact Z5 (h _)
theorem add_str(c:G.heap.SetOf ZaP d S n)(hb:n+1<L2)(h:∀a r,Xp d YK a->a.SetOf ZaP d (λk=>S k||decide (k=x)) (if S x then n else n+1)->f r {G with X_:=a,Wf:=Wu+1}):ZU YH m (setAdd d (.str x b)) f i G:=by
 refine ZF (Z7 ((W_ Wj Sh).pyHash ((cn X x _).mpr ⟨b,rfl⟩) ?_));exact wpAny_setAddHashed_of ((cn X x _).mpr ⟨b,rfl⟩) rfl c hb λa hs e=>h a _ hs e
theorem zM(i:G.heap.SetOf ZaP a S n)(h:∀b,Xp a YK b->b.SetOf ZaP a S n->k () {G with X_:=b}):ZU YH m (setUnled a) k r G:=by
 obtain⟨o,d,e,t,c,j,hd,l,p,hb,f,hn⟩:=i;have q:({t with led:=false}).fits YE=true:=by cases t;exact f
 refine Z7 (kV c hd f ?_);refine ky c hd ?_ (ks hb);obtain⟨_,g⟩:=SetOf_store c j hd l p hb q;rw[hn]at g;exact h _ (Y_ YK a (Obj.putSet d {t with led:=false})) g
theorem lg(h:b (.str a Wu) {G with Wf:=Wu+1}):ZU YH m (ZH (.Constant (.str a) k Ym) A) b c G:=λO O O=>h
theorem El(t:A.code=.ref cc)(hp:y cc F)(hd:F.data=.fields PX)(z:Zab)(hx:Yb x=some (.str c))(hn:Z3 ((x=="__classdict__")=false) aD)(B:Z3 ((x=="__debug__")=false) aD):ZU YH m (ZH (.Compare (.Name x PY) [.In] [.Set [.Constant (.str a) ka T,.Constant (.str b) kb Np] 0 ps] Ym) A) (PV X A y o λf w=>f=.bool (decide (c=a\/c=b))/\w=E) bz G:=by
 walk_at"a";refine kdi_eval rfl ?_;walk_at"a";refine(Z4 (g:=λf w=>f=.str c/\w=E) hx ⟨rfl,rfl⟩ hn B).use z λC i j f PZ l r S k=>?_;walk_at"a";obtain⟨rfl,rfl⟩:=k;obtain⟨u,rfl⟩:=sz;refine Z7 (Yq ?_);refine Z7 (Dy t (Yg _ _ (l _ _ hp)) hd λP0=>?_);refine kds_core (ts:=(evalEach [.Constant (.str a) ka T,.Constant (.str b) kb Np] A).map λc=>do let j<-c;VT ps;Yh j) rfl rfl (show 2<=30 by decide) rfl λled=>kds_all ps _ _ _ ?_;generalize n:({T':=ZaJ,dt:=none,Xg:=.set #[] 0 (.fresh 0 0 led)}:OB)=s;walk_at"az";have D:s.isFreed=false:=by rw[<-n];rfl
 have I:s.SetObjOf ZaP (λO=>false) 0:=by rw[<-n];exact setObjOf_fresh led
 have TQ:=e4 S λb q=>by rw[ZD q];exact ZV _
 have p:(i.heap.push s).SetOf ZaP i.heap.objs.size (λO=>false) 0:=I.setOf (ZL _ D) Z';have N:=ih s;generalize i.heap.objs.size=d at TQ p;refine lg (lg ?_);walk_at"aA";refine kds_fill_cons (add_str p Z' λP2 P4 Q V=>?_);walk_at"aB";refine kds_fill_cons (add_str V (by split<;>decide) λP5 P6 PM PN=>?_);walk_at"aC";refine kds_fill_nil rfl (kdi_mark (zM PN λPR PS PT=>?_));refine wpAny_inSet_of ((cn X c _).mpr ⟨u,rfl⟩) rfl PT ?_;refine⟨C,_,_,l,aE ..,N.mv TQ (Bt (λb e hb PW=>PS.extBut b e (by simpa using hb) (q1 b e (by simpa using hb) (Q.extBut b e (by simpa using hb) PW)):∀b e,b∉[d]->(i.heap.push s).get? b=ZbU->PR.get? b=ZbU)),?_,rfl⟩;simp
inductive jN(X:Cx)(f:TK)(n:U)(Zn:S2)(l:YV)(c:GH)(i:ZaY)(j:aT)(k:ZP)(a:Zb):Prop|mk(r:aT)(G b:GH)(ga:Y9)(g:U)(st:U_)(le:bG j r)(S:ak X r Zn l G a)(hv:k=ZaT)(ex:Wy c G)(at_:G ga=some (.gen g st))(e:Wy b G)(self:b ga=none)(new:c ga=none)(fr:∀d o,b d=Zag->c d=none)(live:∀A,Rm X A n->gD X A f i r b st)
structure BMod(X:Cx)(b:Zck)where
 bm:Y9
 gl:VY ("__builtins__")=some (.ref bm)
 ne:bm≠We
 nt:bm≠tx
 o:OB
 get:YF bm=some o
 T':o.cls=.type "module"
 dt:o.dict=some We
 Xg:OA=.plain
theorem Rm.comp(h:Rm X m (n+1))(e t WB:Wx)(X1:g6)(Ym:ix)(it:ZP)(Zn:S2):Rm X (Th (.compLoop (o6 e t WB X1 Ym) 0 it .none Zn) []) n:=⟨by have:=l7;show G4+0+1+n<=900;(exact aV 0x1fc8e0283a0d0e47083841 [_,_,_] this),by have:=l6;show OV+0+3+20*n<=9000;(exact a9 0x7f23848507c1a1c8e1283841 [20,3,20] [_,_,_] [] this),ri⟩
theorem yj(E:F7 X n b c A cc i d rs u)(rm:Rm X m (n+1))(hp:y la (X8 (.type "list") k nn))(rl:ao y d k.toList)(hq:y cc i)(f:jl y A o ob)(I:a≠Yo):gD X m (.ok .next) rs y (Y7 (Y7 (λO=>none) a (Oh la 0)) Yo (.own (.=ob))) (.fresh (.compStart (o6 b c WB X1 Ym) 0 Zaj .none A)):=by
  refine fN.mpr λj C G s le e l dj S=>⟨rfl,?_⟩;walk_at"P";have g:G a=some (Oh la 0):=e _ _ (by rw[ag I];exact aa ..);have loop:=Av (WB:=WB) (X1:=X1) (Ym:=Ym) E (rm.comp b c WB X1 Ym (.ref a) A) Yc 0 o j C _ s (by exact O4) (ak.wake S (e _ _ (aa ..)) f le E.fn E.gl E.bi E.cl) (by rw[bZ _ I];exact g) (le _ _ (.inl (exI3 _ _ _ rfl)) hp) (rl.ik le) (le _ _ E.st hq) (l.del (dj _ _ (aa ..))) (dj _ _ (by rw[ag I];exact aa ..));obtain⟨p,q,r,t⟩:=UG _ _ g;show bF _ m _ _ ((compStart (o6 b c WB X1 Ym) 0 Zaj .none A).onRaise (leaving A)) [] s;rw[Uv];show bF _ m _ _ ((ask>>=_).wrap _ _ _ _) [] s;refine dp (Ul ?_);refine bQ rfl (λO=>?_) λO=>?_;.exact c6 rfl loop
  .refine dp (Vw ?_);show bF _ m _ _ ((VT iter.pos>>=_).wrap _ _ _ _) [] s;exact dp (Yq (dp (wpAny_pyIter_listiter (show s.heap.IsListIter a la 0 from⟨p,q,r,t⟩) (c6 rfl loop))))
theorem ak.newGen(S:Zab)(c:Code)(nm q:Z)(t t1 t2:U):ak X y A o (Y7 E ZZ (.gen hz (.fresh c))) {G with gens:=G.gens.push (.fresh c),Wf:=t,X_:=Zj {T':=.type "generator",Xg:=.fields #[.int hz 0,.str nm t1,.str q t2]}}:=by
 walk_at"aD";refine⟨S.g.newGen c,K5 (λb e=>ZA _ e) (λO a b O e=>ZA _ e) ?_ λx a hx=>?_⟩;.rw[ag (Y' S.lT)];exact S.f.lG.1
 .rw[ag (Y' (S.kP hx))];exact(W7 x a hx).1
theorem yB(b:Zck)(bm:BMod X b)(K:tM X PT)(PW:A.code=.ref PT)(rm:Za3)(PX:scope.isCoroutine=false)(PY:closureFor X1 A=Yh [])(PZ:∀P0∈scope.names,P0.2≠.cell)(P2:scope.names.lookup (".0")=some Uj)(P4:scope.kind=.function)(D:EV X m A ZaZ o E λF w=>F=.lst P5/\w=E)(P6:∀NI cc i N,i.cls=ZaM->i.data=.fields N->F7 X n T V (genEnv X1 [] NI (.ref cc) We A) cc i P5 rs Qo)(Q:Zab)(hs:∀x,genFold WB A x=Yh x):ZU YH m (ZH (o6 T V WB X1 Ym) A) (jN X (.ok .next) (n+1) A o E rs y) bz G:=by
  walk_at"a";refine wpAny_GeneratorExp_make PX PY PZ P2 P4 w1 (D.use Q λQp P7 Qq F p P8 P9 q Qa=>?_) hs;walk_at"a";clear D Q;obtain⟨rfl,rfl⟩:=Qa;obtain⟨la,N,nn,YA,hp,rl⟩:=P9.seq;rw[YA];refine TH (aq (q.g.aG _ _ hp)) ?_;have r:=q.g.fresh (ZV _);have k:=q.new (ob:={T':=Zbo,Xg:=.fields #[.ref la,.int 0 0]}) (a:=Oh la 0) ⟨_,ZL _ rfl,rfl,rfl⟩;generalize P7.heap.objs.size=I at r k;refine⟨k.g.lim b,rZ K PW k λt s cc i Qb a S Qc Qd Qe=>?_⟩;rw[Gs];refine wpAny_builtinsFor (S.g.ns b.hg b.ng) bm.gl bm.ne (K2 _ _ bm.get bm.nt) bm.cls bm.dict bm.data ?_;intro j hn PM;have fC:=Us (ZV _);clear k;have PN:=S.new (ob:={T':=Za6,Xg:=.dict #[]}) (a:=.own λO=>m3) ⟨_,ZL _ rfl,trivial⟩;obtain⟨ob,d,Qf,PR,Qg,Qh,Qi⟩:=hn;walk_at"aE";have u:ak X t A o (Y7 (Y7 (Y7 p I (Oh la 0)) Zx (.own λO=>m3)) Zx (.own (.=ob))) {s with X_:=j,Wf:=Ur}:=PN.set (aa ..) PM ⟨ob,PR,rfl⟩;rw[aP]at u;clear PM PN PR;have PS:I≠Zx:=by intro Qj;subst Qj;rw[aa]at fC;cases fC
  rw[ag PS.symm]at fC;have c:Y7 (Y7 p I (Oh la 0)) Zx (.own (.=ob)) gq=none:=u.g.fresh (ZV _);have Qk:=u.newGen (.compStart (o6 T V WB X1 Ym) 0 (.ref I) .none (genEnv X1 [] Zx (.ref cc) We A)) "<genexpr>" (A.qual++"<genexpr>") (Ur+1+1+1) (Ur+1) (Ur+1+1);have Ql:=P6 Zx cc i Qb Qd Qe;generalize Zx=C at*;have l:gq≠C:=by intro h;rw[h,aa]at c;cases c
  have z:gq≠I:=by intro h;rw[ag l,h,aa]at c;cases c
  rw[ag l,ag z]at c;refine⟨t,_,Y7 (Y7 (λO=>none) I (Oh la 0)) C (.own (.=ob)),gq,s.gens.size,_,P8.trans a,Qk,rfl,(((I4 p).upd r).upd fC).upd c,aa ..,λB Qm e=>?_,?_,c,λB Qm e=>?_,λQr Qn=>yj Ql Qn (a _ _ hp) (e6 a) Qc (⟨d,Qf,_,Qg,Qh,Qi,λx mv e=>by(cases e),λx mv e=>by(cases e)⟩:jl t (genEnv X1 [] Zx (.ref cc) We A) [] ob) PS⟩
  . by_cases h1:B=C;.subst h1;rw[aa]at e;rw[ag l.symm,aa];exact e
    . rw[ag h1]at e;by_cases h2:B=I;.subst h2;rw[aa]at e;rw[ag z.symm,ag h1,aa];exact e
      .rw[ag h2]at e;cases e
  .rw[ag l,ag z]
  .exact eN e fC λe=>eN e r ax
theorem Cm(b:Zck)(rm:Rm X m (PM+2))(t:Nv=.ok (.ret .none)\/Nv=.ok .next)(u:k ga=none):∀(XG:J YZ)(y:aT)(E f:GH)(st:U_)(G:Zb),Zah->E ga=some (.gen PN st)->gD X Sl Nv (rest.map .bool) y f st->Wy f E->f ga=none->Wy k E->Dj f k->(∀N w Nc,Zbq->aA X N w Nc->Wy k w->R (.ok (.ret (.bool (rest.any id)))) Nc)->U4 YH m (.builtin "any.loop" ⟨[ZaT],[]⟩) R G:=by
 intro XG;induction XG with
 |Yl=>
  intro y E f st G j n o p q ex dj g;refine V0 F.entry_any_loop ?_;walk_at"c";show ZU _ Uq (VO ZaT>>=_) _ _ G;walk_at"a";refine Z7 (gX b rm.in1 t j n o (.refl _) p ex dj q u (λO N w Nc l S e=>?_) λPR XG hh=>by cases hh);exact Z7 (Vw (Z5 (g N w Nc l S e)))|Zp c XG i=>
  intro y E f st G j n o p q ex dj g;refine V0 F.entry_any_loop ?_;walk_at"c";show ZU _ Uq (VO ZaT>>=_) _ _ G;refine Z7 (gX b rm.in1 t j n o (.refl _) p ex dj q u (λhh=>by cases hh) λPS PT hh N w x s PW Nc l S e z d A a r B=>?_);cases hh;rw[UZ];show ZU _ Uq (T8 [.bool c] (ib (.bool c))>>=_) _ _ _;refine Z7 (ZF (UN ?_));refine Z7 (sg ?_);cases c with|false=>exact Z5 ⟨TP F.plain_any_loop _,i N w x s Nc S a B z A e d λC D I Q T V=>g C D I (l.trans Q) T V⟩|true=>exact Z7 (Vw (Z5 (g N w Nc l S e)))
theorem EB.any{cs:J YZ}(b:Zck)(rm:Rm X m (n+4))(u:Nv=.ok (.ret .none)\/Nv=.ok .next)(w:Xs "any"=Zaa)(hn:VY "any"=none)(hv:U9 "any"=some (.builtin "any"))(h:∀y G,Zab->ZU YH m ZbX (jN X Nv n A o E (cs.map .bool) y) bz G)(k:Nj (cs.any id) E)(he:Z3 (Zr [d] A=(false,ZbX)::ZbE) aR)(ht:Z3 (XE (.Call Zcc [d] [] Ym) A (ZH (.Call Zcc [d] [] Ym) A)=(do let j<-ZH (.Call Zcc [d] [] Ym) A;VT Ym;T8 [j] (ib j))) aR):EB X m A (XE (.Call Zcc [d] [] Ym) A (ZH (.Call Zcc [d] [] Ym) A)) o E Nj:=Tn (λy G z=>by
 walk_at"a";refine sL ?_ rfl;walk_at"a";refine(p9 (g:=λB i=>B=.raw (.builtin "any")/\i=E) b w hn hv ⟨rfl,rfl⟩ (by rfl)).use z λC D j mv p I N Q T=>?_;obtain⟨rfl,rfl⟩:=T;rw[N.raw];refine hS (rk (ZS (h C D Q) (λj P4 q=>?_) λO O q=>q) he) he rfl;obtain⟨P5,P6,V,ga,P7,st,PM,PN,YA,ex,at_,PR,self,new,fr,live⟩:=q;rw[YA];walk_at"a";refine c' ?_;obtain⟨PS,PT,t,Oy⟩:=PN.kR;refine call_function_tree F.kind_any F.plain_any F.entry_any (F.args_any1 _) ?_;walk_at"a";refine Z7 (m:=oneArg "any" _) (Z5 ?_);refine Z7 (h8 (t.objs _ _ at_) ?_);refine Z5 ⟨TP F.plain_any_loop _,Cm b (PM:=n) (rm.le (by exact fA 0x660f0c1e1 [2,4] [_] [])) u (k:=p) new cs PS _ V st _ t at_ ((live _ (rm.in1.in1.le (by exact O1))).mono PT.s) PR self ex (λPW PX d=>fr PW PX d) λr i a PY PZ e=>?_⟩;obtain⟨P0,P2,S,_,_⟩:=Oy r i a PY PZ;exact⟨P0,.bool (cs.any id),p,(I.trans PM).trans P2,aE ..,⟨S.g.drop e,⟨Q0,Gs,ta,G7,tb,y0,⟨a3 S.f.lG.1,S.f.lG.2⟩,λx c hx=>⟨a3 (W7 x c hx).1,(W7 x c hx).2⟩,yx⟩⟩,_,rfl,k⟩) ht
abbrev z4(v1 v2 v3 v4:ZP):J (Z×ZP):=[("insert",v1),("delete",v2),("replace",v3),("equal",v4)]
theorem te(v1 v2 v3 v4:ZP):checkTypeCall "dict" ⟨[],ZbN⟩=Yh ():=(VJ (VJ ec _) _).trans Z9
theorem vY(v1 v2 v3 v4:ZP):z_ "dict.__new__" ⟨[Zaf],ZbN⟩=Yh ():=(VJ (VJ eb _) _).trans Z9
theorem Dq(a v1 v2 v3 v4:ZP):S4 "dict.__init__" ⟨[a],ZbN⟩:=by unfold S4;rw[signature?_of (n:=['_','_','t','i','n','i','_','_']) Z9 F.owner_dict];kernel_rfl
theorem Fg(v1 v2 v3 v4:ZP)(h:a ZaD {G with X_:=Zj {T':=Zaf,Xg:=.dict #[]}}):U4 YH m (.call (.builtin "dict.__new__") ⟨[Zaf],ZbN⟩) (wants a Pp) G:=by
 refine Wo F.kt_plain_dict_new F.kt_entry_dict_new (VH (vY v1 v2 v3 v4) ?_);walk_at"c";have b:=F.kt_sub_dict;have c:=F.kt_mro_dict;obtain⟨hp,g,d,t,os⟩:=G;unfold Builtin.«dict.__new__»;wp_walk;exact h
theorem C6(v1 v2 v3 v4:ZP)(h:∀a t,a.DictOf ZaP ZZ ZbN->Xp ZZ (Zj {T':=Zaf,Xg:=.dict #[]}) a->l ZaD {G with X_:=a,Wf:=t}):ZU YH m (VP (.type "dict") [] (z4 v1 v2 v3 v4)) l Pp G:=by
  have f:=F.kt_called_dict;obtain⟨c,tl,PM⟩:=f.mro;have PN:=f.made;have PR:=f.sub;have PS:=te v1 v2 v3 v4;refine V_ (Ow ?_);show ZU _ _ (callAny (.type "dict") _) _ _ _;refine Z5 ⟨og _ Z8,V0 F.entry_type_call ?_⟩;walk_at"o";rw[Around.under_plain (weight_type_call_type "dict" [] (z4 v1 v2 v3 v4)) rfl];have h2:=f.canCreate;repeat(any_goals(first|assumption|wp_step))
  refine V9 (Fg (Pp:=Pp) v1 v2 v3 v4 (a:=λobj b=>obj=ZaD/\b={G with X_:=Zj {T':=Zaf,Xg:=.dict #[]}}) ⟨rfl,rfl⟩) λr b hr=>?_;cases r with|error e=>exact hr|ok fl=>cases fl with
    |fj obj=>
      rw[hr.1,hr.2];have n:(Zj {T':=Zaf,Xg:=.dict #[]}).DictOf ZaP ZZ []:=Heap.DictOf.new YK;have o:Shared.TypeIs {G with X_:=Zj {T':=Zaf,Xg:=.dict #[]}} ZaD "dict":=n.typeIs;have PT:=f.init.lookup;have PW:=f.init.bind ZaD;repeat(any_goals(first|assumption|wp_step))
      refine V9 (Wo (R:=wants (λr g=>r=.none/\l ZaD g) Pp) f.init.plain F.entry_dict_init (f.init.check _ _ _ _ _ _ _ _ o (Dq ..) ?_)) λp g i=>?_
      . unfold Builtin.«dict.__init__»;refine Z7 ?_;refine Z7 (wpAny_notOrdered_dict o ?_);show ZU _ _ (Yh (ZZ,[])) _ _ _;refine Z5 ?_;show ZU _ _ (Builtin.Dict.addKeywords ZZ ZbN>>=λO=>fj .none) _ _ _;refine Z7 ?_;generalize ZZ=d at*;refine Z7 ?_;have step:∀{s:Zb}{k:J (Z×ZP)}{x:Z}{j:ZP}{XG:J (Z×ZP)}{Q:PUnit->Zb->Prop}{A:X5}{E:ZP->Zb->Prop},s.heap.DictOf ZaP d k->V4<=100->ZO<=100->(∀a t,a.DictOf ZaP d (stored k x j)->Xp d Ts a->ZU YH A (forIn XG n_ λx O=>do dictSet d (<-mkStr x.1) x.2;Yh (SO n_)) Q E {s with X_:=a,Wf:=t})->ZU YH A (forIn ((x,j)::XG) n_ λx O=>do dictSet d (<-mkStr x.1) x.2;Yh (SO n_)) Q E s:=by
          intro s k x j XG Q A E hd q hx u;rw[List.forIn_cons];refine Z7 (Z7 (wpAny_mkStr ?_ (show ZO<=ZK by rw[af];(exact Lp hx))));refine Z7 (wpAny_dictSet_pairs ((cn X x _).mpr ⟨_,rfl⟩) hd (λa y z=>?_) (by rw[af];(exact Lp q)));exact Z5 (u a _ y z)
        refine step (s:={G with X_:=Zj {T':=Zaf,Xg:=.dict #[]}}) n Z' Z' λPX PY B b=>?_;refine step (j:=v2) (XG:=[("replace",v3),("equal",v4)]) B (show 1<=100 by decide) Z' λPZ P0 C g=>?_;refine step (k:=[("insert",v1),("delete",v2)]) (x:="replace") (j:=v3) (XG:=[("equal",v4)]) C (show 2<=100 by decide) Z' λP2 P4 D I=>?_;refine step (k:=[("insert",v1),("delete",v2),("replace",v3)]) (x:="equal") (j:=v4) (XG:=[]) D (show 3<=100 by decide) Z' λN P5 S T=>?_;refine Z5 (Z5 (Z5 ⟨rfl,h N _ ?_ ?_⟩));.exact S
        .exact((b.trans g).trans I).trans T
      .cases p with|error e=>exact i|ok V=>cases V with
          |fj r=>
            obtain⟨rfl,hq⟩:=i;repeat(any_goals(first|assumption|wp_step))|_=>exact i.elim
    |_=>exact hr.elim
theorem EV.Gw(b:Zck)(z:Xs ("dict")=Zaa)(hv:VY ("dict")=none/\U9 ("dict")=some Zaf)(h:∀d t1 t2 t3 t4,E d=none->g ZaG (Y7 E d (sD X (z4 (.str x t1) (.str l t2) (.str n t3) (.str u t4))))):EV X m A (ZH (.Call (.Name ("dict") F) [] [⟨some "insert",.Constant (.str x) j1 PM,PN⟩,⟨some "delete",.Constant (.str l) PR q2,r2⟩,⟨some "replace",.Constant (.str n) PS q3,PT⟩,⟨some "equal",.Constant (.str u) PW q4,PX⟩] Ym) A) o E g:=λPY s S=>by
 walk_at"a";show ZU _ _ (ZH (.Name ("dict") F) A>>=λf=>OP Ym f [] (UE Ym (Zr [] A)) (backToKw Ym (keywordEach _ A))) _ _ _;refine Z7 ((p9 (g:=λB i=>B=.raw Zaf/\i=E) b z hv.1 hv.2 ⟨rfl,rfl⟩ (by rfl)).use S λC c e mv PZ D G I k=>?_);clear S;obtain⟨rfl,rfl⟩:=k;rw[G.raw];refine Z7 (ZF (evalArgs_kw_nil rfl ?_));walk_at"a";have kv:∀{p:Z}{j:U}{q:ix}{XG:J (p_ ZP)}{Q:Zc4->Zb->Prop}{s:Zb},ZU YH m (evalAll XG) (λr a=>Q (.str p Ur::r) a) bz {s with Wf:=Ur+1}->ZU YH m (evalAll ((do let e<-ZH (.Constant (.str p) j q) A;VT Ym;Yh e)::XG)) Q bz s:=λh=>Z7 (Z7 (lg (Z7 (Yq (Z5 (Z7 (ZF (ZS h (λr a q=>Z5 q) λO O q=>q))))))));refine kv (kv (kv (kv (Z5 ?_))));walk_at"f";refine Z7 (Yq (Z7 (Z5 (Z7 ?_))));have w:=I.toks (cj+1+1+1+1);refine C6 _ _ _ _ λP0 t hd hs=>?_;refine Z7 (ZF (g5 (Z5 ?_)));obtain⟨N,T,V⟩:=I2 hd;have y:=(w.new (ob:={T':=Zaf,Xg:=.dict #[]}) (a:=.own λO=>m3) ⟨_,ZL _ rfl,trivial⟩).set (a:=sD X (z4 (.str x cj) (.str l (cj+1)) (.str n (cj+1+1)) (.str u (cj+1+1+1)))) (n:=t) (aa ..) hs ⟨N,T,V⟩;rw[aP]at y;exact⟨C,_,_,D,aE ..,y,h _ _ _ _ _ (w.g.fresh (ZV _))⟩
theorem ak.uS(S:Zab)(TQ:g7 X y E A [a])(x:cQ y YK a mo)(ng:(mo.kd==3)=false):ak X y A o (Y7 E a mo) G:=by
 obtain⟨ga,p,la,nl,nc⟩:=TQ a (Xx rfl);exact⟨⟨S.g.old,K2,Yg,λb d e=>eN (N5:=λb d=>cQ y YK b d) e x (Wc b d),λb d e=>(ag λq:b=a=>p d (q▸e)).trans (Oz b d e),λb d e=>eN (N5:=λb _=>YF b=none) e la (OW b d),c4,S.g.gens.upd ng⟩,K5 (λO e=>e) (λO O O O e=>e) ((ag nl).trans S.f.lG.1) λx c hx=>(ag (nc x c hx)).trans (W7 x c hx).1⟩
theorem Off.of(S:Zab)(h:E a=some mo):g7 X y (G_ E a) A [a]:=λb q=>by
 rw[ZD q];exact⟨dO ..,λd e=>f' h (Oz _ _ e) rfl,OW _ _ h,λq=>f' h S.f.lG.1 hN,λx c hx q=>f' h (W7 x c hx).1 hN⟩
theorem Off.more(TQ:g7 X y E A [a])(h:a≠b):g7 X y (Y7 E b mo) A [a]:=λc q=>by
 obtain⟨h1,h2⟩:=TQ c q;rw[ZD q]at h1 h2⊢;exact⟨(ag h).trans h1,h2⟩
def cut(a:J Y9)(G:GH):GH:=λc=>if c∈a then none else G c
theorem ak.cut(a:J Y9)(S:Zab)(j:∀c∈a,∃mo,E c=some mo)(k:∀c d,c∉a->ZG c=ZaC->i.get? c=ZaC):ak X y A o (cut a E) {G with X_:=i}/\g7 X y (cut a E) A a:=by
 have TQ:g7 X y (Mine.cut a E) A a:=λb hb=>by
  obtain⟨mo,h⟩:=j b hb;exact⟨ZT hb,(Off.of S h b (.head _)).2⟩
 exact⟨(S.drop λc d e=>by unfold Mine.cut at e;split at e;exact ax e;exact e).mv TQ (Vo i Wu ⟨rfl,k⟩),TQ⟩
theorem Off.one(TQ:g7 X y E A c)(h:a∈c):g7 X y E A [a]:=λb hb=>TQ b (ZD hb▸h)
abbrev I0(T a:Y9)(f0:ZP):OB:={T':=.type "zip",dt:=none,Xg:=.fields #[f0,.bool false,.bool false,.ref T,Zaj],slots:=#[]}
abbrev r7(a b:ZP):OB:={T':=Zac,Xg:=.seq #[a,b]}
abbrev iF:MO:=.own λo=>∃a b,o=r7 a b
abbrev nN(T a:Y9):MO:=.own (.=I0 T a .none)
structure oV(G:GH)(z c T i1 i l1 l2:Y9)(k:U):Prop where
 z:G z=some (nN c T)
 o:G T=some iF
 a:G i1=some (Oh l1 k)
 b:G i=some (Oh l2 k)
theorem qT{it la k}(h:E it=Zcv)(S:Zah):G1 it la k:=by obtain⟨o,a,b,hd⟩:=UG _ _ h;exact⟨o,a,b,hd⟩
theorem Hq(h:c∉[a,b,x,d]):Y7 (Y7 (Y7 (Y7 E a f) b i) x n) d k c=E c:=(ag (WU (YN (YN (YN h))))).trans ((ag (WU (YN (YN h)))).trans ((ag (WU (YN h))).trans (ag (WU h))))
theorem oV.of(D:ZipApart z c T i1 i l1 l2):oV (Y7 (Y7 (Y7 (Y7 E z (nN c T)) T iF) i1 (Oh l1 k)) i (Oh l2 k)) z c T i1 i l1 l2 k:=⟨(ag D.i2z.symm).trans ((ag D.i1z.symm).trans ((ag D.TOz.symm).trans (aa ..))),(ag D.TOi2).trans ((ag D.TOi1).trans (aa ..)),(ag D.i12).trans (aa ..),aa ..⟩
theorem oV.cut(d:oV E z n T i1 i l1 l2 k)(S:Zab)(g:∀c e,c≠z->c≠T->c≠i1->c≠i->ZG c=ZbU->l.get? c=ZbU):ak X y A o (cut [z,T,i1,i] E) {G with X_:=l}/\g7 X y (cut [z,T,i1,i] E) A [z,T,i1,i]:=S.cut [z,T,i1,i] (cq ⟨_,d.z⟩ (cq ⟨_,d.o⟩ (cq ⟨_,d.a⟩ (cq ⟨_,d.b⟩ jP)))) λc e f=>g c e (WU f) (WU (YN f)) (WU (YN (YN f))) (WU (YN (YN (YN f))))
theorem oV.next(n:oV E z d T i1 i l1 l2 k)(p:Zab)(D:ZipApart z d T i1 i l1 l2)(r:IsZip f z d T .none)(g:∃j l,IsPair f T j l)(h1:f.IsListIter i1 l1 (k+1))(h2:f.IsListIter i l2 (k+1))(s:∀c m,c≠z->c≠T->c≠i1->c≠i->ZG c=Zcd->td c=Zcd):ak X y A o (Y7 (Y7 (Y7 (Y7 E z (nN d T)) T iF) i1 (Oh l1 (k+1))) i (Oh l2 (k+1))) {G with X_:=f}:=by
 obtain⟨j,l,g⟩:=g;obtain⟨S,TQ⟩:=n.cut p s;have e:Y7 (Y7 (Y7 (Y7 (Mine.cut [z,T,i1,i] E) z (nN d T)) T iF) i1 (Oh l1 (k+1))) i (Oh l2 (k+1))=Y7 (Y7 (Y7 (Y7 E z (nN d T)) T iF) i1 (Oh l1 (k+1))) i (Oh l2 (k+1)):=funext λc=>DV λt=>DV λu=>DV λh2=>DV λh1=>ZY λw=>(cq h1 (cq h2 (cq u (cq t jP))):∀x∈[z,T,i1,i],c≠x) c w rfl;rw[<-e];generalize Mine.cut [z,T,i1,i] E=I at S TQ;have B:=S.uS (mo:=nN d T) (off.one (.head _)) ⟨_,r,rfl⟩ rfl;have C:=B.uS (mo:=iF) ((off.one (.tail _ (.head _))).more D.TOz) ⟨_,g,j,l,rfl⟩ rfl;obtain⟨q,q2,q3,q4⟩:=h1;have F:=C.uS (mo:=Oh l1 (k+1)) (((off.one (.tail _ (.tail _ (.head _)))).more D.i1z).more D.TOi1.symm) ⟨q,q2,q3,q4⟩ rfl;obtain⟨q,q2,q3,q4⟩:=h2;exact F.uS (mo:=Oh l2 (k+1)) ((((off.one (.tail _ (.tail _ (.tail _ (.head _))))).more D.i2z).more D.TOi2.symm).more D.i12.symm) ⟨q,q2,q3,q4⟩ rfl
variable{N6 Pj:Y9}
theorem yc{ys:ZaY}{v2:Ua ZP}(hh:XZ=none)(D:ZipApart z Nh Q Nt NL N6 Pj)(PS:U->YV->YV)(n:U->YV->GH->Prop)(PZ:P1<=TS)(fr:∀c∈[z,Q,Nt,NL],NI c=none)(Qa:∀k o E w,n k o E->(∀c d,NI c=ZaC->w c=E c)->n k o w)(tg:∀k x T,Nb[k]?=Zak->ys[k]?=some T->TG X m iA A (.Tuple NP j Np) (.tup [x,T]) (PS k))(Ux:∀t k o E,(∀c d,t c=ZaC->NI c=none)->k<P1->n k o E->Wy t E->EF X m A ZcQ (PS k o) E λd P0 PT=>match d with|.next|.cont=>∃l,n (k+1) l PT/\N' l P0/\Wy t PT|.brk=>B .next P0 PT|.ret P2=>B (.ret P2) P0 PT)(Ub:∀o E,n P1 o E->B .next o E):∀(s k:U)(y:aT)(o:YV)(E:GH)(G:Zb),k+s=P1->bG N y->ak X y A o E G->oV E z Nh Q Nt NL N6 Pj k->y Nh (r7 (.ref Nt) (.ref NL))->y N6 (X8 (.type "list") Po p)->ao y Nb Po.toList->y Pj (X8 (.type "list") v2 I)->ao y ys v2.toList->n k o E->U4 YH m (.forLoop (.Tuple NP j Np) (.ref z) NZ [] A) (λP4 Nc=>match P4 with|.ok PS=>PF X A N B PS Nc|.error f=>cameBackBy YH m A bz f Nc) G:=by
  intro s k y o E G V C S e F h1 r h2 r2 PW;walk_at"k";let Qb:U->Zb->Prop:=λs G=>∃k y o E,k+s=P1/\bG N y/\ak X y A o E G/\oV E z Nh Q Nt NL N6 Pj k/\y Nh (r7 (.ref Nt) (.ref NL))/\y N6 (X8 (.type "list") Po p)/\ao y Nb Po.toList/\y Pj (X8 (.type "list") v2 I)/\ao y ys v2.toList/\n k o E;walk_at"k";refine codeAny_forLoop_any (I:=Qb) ?_ s (exI4 k y o E ⟨V,C,S,e,F,h1,r,h2,r2,PW⟩);clear e F;have Qc:∀c d,NI c=ZaC->c∉[z,Q,Nt,NL]:=λc d f q=>f' f (fr c q) rfl;intro s G Qh;obtain⟨k,y,o,E,V,C,S,e,F,h1,r,h2,r2,PW⟩:=Qh;walk_at"c";obtain⟨QE,P5,rfl⟩:=Wc _ _ e.z;obtain⟨QF,Qd,QG,QH,rfl⟩:=Wc _ _ e.o;by_cases i:k<P1;.obtain⟨x,hx,Qi⟩:=r.get k (a:=Nb[k]) (Z6 i);obtain⟨T,hy,Qj⟩:=r2.get k (Z6 (Xu i PZ));refine wpAny_pyNext_zip_item D P5 (Yg _ _ F) Qd (qT e.a i2) (qT e.b i2) (aq (Yg _ _ h1)) (aq (Yg _ _ h2)) (by simpa using hx) (by simpa using hy) λQk br Ql Qm Qn Qo QI P6=>?_;refine wpAny_letOwnedTupleGo_zip br λQp Qq PM=>?_;walk_at"o";have Qe:=e.next S D Qq (Vo x T (q1 _ _ D.TOz Ql)) (Qm.extBut q1 D.i1z) (Qn.extBut q1 D.i2z) λQr d c1 c2 Qt Qu f=>q1 _ _ c1 (P6 Qr d c1 c2 Qt Qu f);have Qf:=Qa _ _ _ (Y7 (Y7 (Y7 (Y7 E z (nN Nh Q)) Q iF) Nt (Oh N6 (k+1))) NL (Oh Pj (k+1))) PW λc d f=>Hq (Qc c d f);have PN:=oV.of (E:=E) (k:=k+1) D;generalize Y7 (Y7 (Y7 (Y7 E z (nN Nh Q)) Q iF) Nt (Oh N6 (k+1))) NL (Oh Pj (k+1))=u at Qe Qf PN;have Qv:=R1 (XR P5);have Qw:iA y {G with X_:=Qp} (.tup [Nb[k],ys[k]'(JQ i PZ)]) ZaD:=.inr (Vo _ (#[x,T]) ⟨_,rfl,rfl,⟨_,q1 _ _ Qv Qo,rfl,_,rfl⟩,.cons Qi (.one Qj)⟩);walk_at"o";refine ZS (tg k _ _ (Z6 i) (Z6 (Xu i PZ)) _ o u _ _ Qe Qw) (λO Qx Qy=>?_) λO O q=>Vm;walk_at"o";let t:GH:=Y7 (Y7 (Y7 (Y7 (λ_=>none) NL (Oh Pj (k+1))) Nt (Oh N6 (k+1))) Q iF) z (nN Nh Q);have d1:∀c d,t c=ZaC->NI c=none/\u c=ZaC:=λc d f=>eN (N5:=λc d=>NI c=none/\u c=ZaC) f ⟨fr _ (.head _),PN.z⟩ λf=>eN (N5:=λc d=>NI c=none/\u c=ZaC) f ⟨fr _ (.tail _ (.head _)),PN.o⟩ λf=>eN (N5:=λc d=>NI c=none/\u c=ZaC) f ⟨fr _ (.tail _ (.tail _ (.head _))),PN.a⟩ λf=>eN (N5:=λc d=>NI c=none/\u c=ZaC) f ⟨fr _ (.tail _ (.tail _ (.tail _ (.head _)))),PN.b⟩ ax;walk_at"c";refine ZS (Ux t k o u (λc d f=>(d1 c d f).1) i Qf (λc d f=>(d1 c d f).2) _ Qx Qy) (λfl Qz q=>?_) λO O q=>Vm;obtain⟨P7,d,P8,PR,le,PX,P9,PY⟩:=q;have OO:(∃l,n (k+1) l PR/\N' l P8/\Wy t PR)->∃Qg,Qg<s/\Qb Qg Qz:=λQA=>Su QA λl Yw=>and3 Yw λQB QC ex=>⟨s-1,by exact Ke V i,k+1,P7,l,PR,by exact KA V i,C.trans le,P9.forget QC,⟨ex _ _ (aa ..),ex _ _ ((ag D.TOz).trans (aa ..)),ex _ _ ((ag D.i1z).trans ((ag D.TOi1.symm).trans (aa ..))),ex _ _ ((ag D.i2z).trans ((ag D.TOi2.symm).trans ((ag D.i12.symm).trans (aa ..))))⟩,le _ _ F,le _ _ h1,Tp le,le _ _ h2,r2.mono le,QB⟩;cases d with
    |next=>cases PX;exact OO PY|brk=>cases PX;exact⟨P7,.next,P8,PR,C.trans le,rfl,P9,PY⟩|cont=>cases PX;exact OO PY|fj P2=>obtain⟨QD,rfl,P4⟩:=PX;exact⟨P7,.ret P2,P8,PR,C.trans le,⟨QD,rfl,P4⟩,P9,PY⟩
  . have ON:k=P1:=by exact J7 V i
    refine wpAny_pyNext_zip_end hh D P5 (Yg _ _ F) Qd (qT e.a i2) (qT e.b i2) (aq (Yg _ _ h1)) (aq (Yg _ _ h2)) (.inl (by rw[T1];exact bx 0xfff230f3421ec41 [_,_,_] (b') i)) λQk P6=>?_;refine u' ⟨y,.next,o,cut [z,Q,Nt,NL] E,C,rfl,(e.cut S P6).1,Ub o _ (ON▸Qa _ _ _ _ PW λc d f=>ZY (Qc c d f))⟩
theorem Fh(m l1 l2:U)(t1:l1<m)(t2:l2<m):ZipApart (m+4) (m+2) (m+3) m (m+1) l1 l2:=⟨Y' (by exact fA 0x6a0f0c1e1 [2,4] [_] []),Y' (by exact fA 0x6a0f0c1e1 [3,4] [_] []),Y' (by exact fA 0x1a83c21 [4] [_] []),Y' (by exact fA 0x6a0f0c1c1 [4] [_] []),Y' (by exact fA 0x6a0f0c1e1 [2,3] [_] []),R1 (by exact fA 0x1a83c21 [2] [_] []),R1 (by exact fA 0x6a0f0c1c1 [2] [_] []),R1 (by exact fA 0x1a83c21 [3] [_] []),R1 (by exact fA 0x6a0f0c1c1 [3] [_] []),Y' (by exact Ku),Y' (by exact Jp t1),Y' (by exact Jp t1),Y' (by exact aV 0x7f420e841 [_,_] t1),Y' (by exact Jw t1),Y' (by exact Jp t2),Y' (by exact Jp t2),Y' (by exact aV 0x7f420e841 [_,_] t2),Y' (by exact Jw t2)⟩
theorem EF.Fz(b:Zck)(hh:XZ=none)(P4:Xs "zip"=Zaa)(hv:VY "zip"=none/\U9 "zip"=Zbl)(h:EA X m A [Ng,Nn] o E λPM t=>∃(x ys:ZaY)(I:U->YV->GH->Prop)(f:U->YV->YV)(l:YV),PM=[.lst x,.lst ys]/\ZO<=TS/\I 0 l t/\N' l o/\(∀k o E w,I k o E->(∀d i,t d=some i->w d=E d)->I k o w)/\(∀k PN PR,x[k]?=some PN->ys[k]?=some PR->TG X m iA A (.Tuple NP j N2) (.tup [PN,PR]) (f k))/\(∀F k o E,(∀d i,F d=some i->t d=none)->k<ZO->I k o E->Wy F E->EF X m A ZcQ (f k o) E λi M u=>match i with|.next|.cont=>∃PS,I (k+1) PS u/\N' PS M/\Wy F u|.brk=>B .next M u|.ret PT=>B (.ret PT) M u)/\(∀o E,I ZO o E->B .next o E))(he:Z3 (Zr [Ng,Nn] A=(false,ZaF)::Zr [Nn] A) aR)(hp:Z3 (∀Pq,(UE Pq (Zr [Nn] A)).any (·.1)=false) aI):EF X m A (TM (.For (.Tuple NP j N2) (.Call (.Name "zip" Np) [Ng,Nn] [] Nx) NZ [] Pq) A) o E B:=λP5 QD PW=>by
 walk_at"a";refine q_ ?_ (λO=>rfl);walk_at"a";refine sL ?_ rfl;walk_at"a";refine(p9 (g:=λP6 w=>P6=.raw (.type "zip")/\w=E) b P4 hv.1 hv.2 ⟨rfl,rfl⟩ (by rfl)).use PW λQE QF PT mv t P7 P8 P9 Qa=>?_;clear PW;obtain⟨rfl,rfl⟩:=Qa;rw[P8.raw];refine TA ((h Nx).use P9 λy s QG PM G Qb Qc S Qd=>?_) he (hp Nx);obtain⟨x,ys,I,f,l,rfl,Qe,i0,Qf,PX,tg,Ux,Ub⟩:=Qd;obtain⟨v1,_,YA,Qg,v2,_,YB,q2,YC⟩:=Qc;subst YA;rw[YB];rw[YC];obtain⟨l1,QH,n1,rfl,p1,Qh⟩:=Qg.seq;obtain⟨l2,QI,QJ,YA,p2,Qi⟩:=q2.seq;rw[YA];have t2:=XR (Yg _ _ p2);refine call_zip_2 (aq (Yg _ _ p1)) (aq (Yg _ _ p2)) λPY PZ Qj Qk Ql Qm QK Qn=>?_;walk_at"e";have TQ:∀P0,g7 X y G A [Zx+P0]:=λP0=>e4 S λb hb=>by rw[ZD hb];(exact O1)
 have Qo:ak X y A o G {s with X_:=PY}:=Q1 Qn;have D:=Fh Zx l1 l2 (XR (Yg _ _ p1)) t2;have fr:∀d∈[Zx+4,Zx+3,Zx,Zx+1],G d=none:=cq (Us (WN _ _)) (cq (Us (WN _ _)) (cq (Us (ZV _)) (cq (Us (WN _ _)) jP)));have z:=TQ 2 _ (Xx rfl);have Qp:=TQ 4;have Qq:=TQ 3;have o1:=TQ 1;generalize Zx+4=Qr at*;generalize Zx+3=Q at*;generalize Zx+2=T at*;generalize Zx+1=P2 at*;generalize Zx=i1 at*;refine wpAny_pyIter_zip (s:={s with X_:=PY}) PZ ?_;have Qt:=Qo.pin Qj z.1 z.2.2.1 z.2.2.2.1 z.2.2.2.2;have C:∀{c},c≠T->g7 X y G A [c]->g7 X (cI y T (r7 (.ref i1) (.ref P2))) G A [c]:=λQu i b hb=>by
  obtain⟨n,p,r⟩:=i b hb;exact⟨n,λQv e=>VB (p Qv) λq=>Qu ((ZD hb)▸q.1),r⟩
 have Qw:=Qt.uS (mo:=nN T Q) (C D.TIz.symm Qp) ⟨_,PZ,rfl⟩ rfl;have Qx:=Qw.uS (mo:=iF) ((C D.TITO.symm Qq).more D.TOz) ⟨_,Qk,.none,.none,rfl⟩ rfl;obtain⟨n,p,r,V⟩:=Ql;have Qy:=Qx.uS (mo:=Oh l1 0) (((C D.TIi1.symm (TQ 0)).more D.i1z).more D.TOi1.symm) ⟨n,p,r,V⟩ rfl;walk_at"w";obtain⟨n,p,r,V⟩:=Qm;have Qz:=Qy.uS (mo:=Oh l2 0) ((((C D.TIi2.symm o1).more D.i2z).more D.TOi2.symm).more D.i12.symm) ⟨n,p,r,V⟩ rfl;have QA:=oV.of (E:=G) (k:=0) D;have QB:=PX _ _ _ (Y7 (Y7 (Y7 (Y7 G Qr (nN T Q)) Q iF) i1 (Oh l1 0)) P2 (Oh l2 0)) i0 λd i e=>Hq λq=>f' e (fr d q) rfl;refine V9 (yc hh D f I Qe fr PX tg Ux Ub (N:=P5) ZO 0 _ l _ _ (by exact O4) ((P7.trans Qb).trans Tu) (Qz.forget Qf) QA (.inr ⟨rfl,rfl⟩) (.inl p1) (Qh.mono Tu) (.inl p2) (Qi.mono Tu) QB) λQC a q=>?_;match QC,q with|.ok fl,q=>exact q|.error e,q=>exact q
section
open PySem.Builtin.Str(occurrences)
theorem w9:∀(l:J (Z×nj)),ao a (ah (t' (·.1))) (hL l)|[]=>.nil|(x,t)::l=>.cons (bp ..) (w9 l)
theorem Dz:∀{x:J Z}{a:Zc4},ao f (ah x) a->∃l:J (Z×nj),a=hL l/\t' (·.1)=x:=by
 intro I;induction I with
 |Yl=>
  intro a r;exact⟨[],r,rfl⟩|Zp b x c=>
  intro a r;obtain⟨e,g,rfl,d,rl⟩:=r;obtain⟨t,YA⟩:=d.str;rw[YA];obtain⟨l,rfl,rfl⟩:=c rl;exact⟨(b,t)::l,rfl,rfl⟩
theorem wY(hy:(Zw==0)=false)(hx:ZO<ZK-2)(S:Zab)(r:aw y (.str x) l)(p:aw y (.str b) u)(k:g (.lst (ah (Sj x b))) E):ZU YH m (VP (.builtin "str.split") [l,u]) Zae bz G:=by
  walk_at"a";obtain⟨t,YA⟩:=sz;rw[YA];obtain⟨f,YA⟩:=p.str;rw[YA];have done:∀c n,c.map (·.1)=Sj x b->PV X A y o g ZaD {G with Wf:=n,X_:=Zj {T':=Zad,Xg:=.seq (hL c).toArray}}:=λc n q=>by
    walk_at"aF";have s:=Gf n;obtain⟨w,a,z,B⟩:=s.iZ (T:="list") (w9 c);exact⟨w,_,E,a,q▸z,B,k⟩
  have e:Sj x b=if(decide (ZO<Zw)||decide (S8 x<S8 b))=true then[x]else if(sl x b 0 ZO (ZO+1)).isEmpty=true then[x]else Ug x (sl x b 0 ZO (ZO+1)) Zw:=rfl;have j:ZO+2<ZK:=by rw[af]at*;exact Kh hx
  cases h1:(decide (ZO<Zw)||decide (S8 x<S8 b))
  . cases d:(sl x b 0 ZO (ZO+1)).isEmpty
    . refine SG zA (xa _ _ _) j4 (n2 _ _) (meets_str_split_sep x b t f h1 hy d (KY j) ?_) ?_;.have:=StrLaws.occ_length_le x b 0 ZO (ZO+1);rw[show∀i:J U,(Ug x i Zw).length=W6+1 fromλi=>by simp[Ug]];exact Kd j this
      .show wants _ _ _ {G with Wf:=_,X_:=Zj {T':=Zad,Xg:=.seq (strsFrom Wu (Ug x (sl x b 0 ZO (ZO+1)) Zw)).toArray}};rw[strsFrom_eq];exact done _ _ ((numbered_texts _ _).trans (by rw[e,h1,d];rfl))
    .exact SG zA (xa _ _ _) j4 (n2 _ _) (meets_str_split_not_found x b t f h1 hy d) (done [(x,t)] Wu (by rw[e,h1,d];rfl))
  .exact SG zA (xa _ _ _) j4 (n2 _ _) (meets_str_split_cannot_occur x b t f h1) (done [(x,t)] Wu (by rw[e,h1];rfl))
theorem EV.split(h:EV X m A ZaF o E λa G=>∃x,a=.str x/\ZO<ZK-2/\EV X m A Zci o G λb c=>∃y,b=.str y/\(l_==0)=false/\g (.lst (ah (Sj x y))) c)(he:Z3 (eP A Ng ("split") Np [Nn] Nx Nz) aR)(d:Za5):EV X m A (ZH (.Call (.Attribute Ng ("split") Np) [Nn] [] Nx) A) o E g:=by
 refine ls (Nz:=Nz) A' zA F.type_str_split (WT λa G hm=>?_) he d;obtain⟨x,rfl,hx,h⟩:=hm;walk_at"l";refine⟨cv.str,Zu (WT λb c ra=>Y5 λf s i j S r rs=>?_) d⟩;walk_at"a";obtain⟨y,rfl,hy,k⟩:=ra;obtain⟨l,YA,e⟩:=rs.u;rw[YA];exact wY hy hx S r e k
theorem EV.join(h:EV X m A ZaF o E λc G=>∃x,c=.str x/\EV X m A Zci o G λd e=>∃b,d=Zbb/\JoinOk x b=true/\g (.str (R0 x b)) e)(he:Z3 (eP A Ng ("join") Np [Nn] Nx Nz) aR)(f:Za5):EV X m A (ZH (.Call (.Attribute Ng ("join") Np) [Nn] [] Nx) A) o E g:=by
 refine ls (Nz:=Nz) A' F.slot_str_join F.type_str_join (WT λc G hm=>?_) he f;obtain⟨x,YA,h⟩:=hm;rw[YA];walk_at"l";refine⟨cv.str,Zu (WT λd e ra=>Y5 λl s q y S r rs=>?_) f⟩;walk_at"a";obtain⟨b,rfl,i,k⟩:=ra;obtain⟨z,YA,j⟩:=rs.u;rw[YA];obtain⟨t,YA⟩:=sz;rw[YA];obtain⟨a,w,n,YA,p,rl⟩:=j.seq;rw[YA];obtain⟨lt,e1,e2⟩:=Dz rl;have hl:s.heap.IsList a (hL lt).toArray:=by
  have:=aq (Yg _ _ p);rwa[show w=(hL lt).toArray from by rw[<-e1]]at this
 subst e2;exact SC.join hl rfl i λB n=>UW S (bp ..) k
end
theorem EV.pow(h:EV X m A ZbX o E λx G=>EV X m A Zcg o G λy c=>∃i n:Zv,x=Zbs/\y=Zbp/\0<=n/\(Builtin.Int.intBits i:Zv)*n<=2^27/\g (.int (i^n.toNat)) c):EV X m A (ZH (.BinOp d .Pow b Ym) A) o E g:=λC s S=>wpAny_BinOp (W1 S λD F I x G e r f k=>k.use f λj M N y c a l p w=>by
  walk_at"a";obtain⟨i,n,rfl,rfl,hn,z,B⟩:=w;obtain⟨t,YA⟩:=(Tp a).int;rw[YA];obtain⟨u,YA⟩:=l.int;rw[YA];exact ZS (pow_int (Q:=PV X A j o g) hn z (UW p (a0 ..) B)) (λO O q=>mc (OX a)) λO O q=>q)
theorem DQ(hl:ZG b=some (X8 (.type "list") i n))(e:cb*k.toNat<=1000000)(h:f ZaD {G with X_:=Zj {T':=Zad,Xg:=.seq (List.foldl (λx g=>x++g) #[] (Zt (if i.isEmpty=true then 0 else k.toNat) i))}})(j:0<=k/\k<=1000000):ZU YH m (binaryOp .Mult (.ref b) (.int k u)) f l G:=by
 have c:¬(!IX k)=true:=by
  have:IX k=true:=by
   rw[YM,SE,SE];exact a9 0xff74f565587f72f5654d [1000000,9223372036854775808,9223372036854775808] [] [_] j
  rw[this];decide
 have c2:¬F_ (cb*k.toNat)=true:=by
  unfold F_;rw[SE,af];exact a9 0xff3417e5e1 [1000000,16777216] [_] [] e
 have d:b3 ZaQ "list":=⟨_,hl,rfl⟩;exact wpAny_binaryOp_repeat_ref (by rfl) d (λa=>typeIs_int a _ u) noFill_list_mul F.fills_int_mul F.slot_int_rmul repeat_list F.slot_int_index.lookup (SG F.slot_int_rmul (typeIs_int G _ u) F.entry_int_rmul (F.args_int_rmul_2 _ _) (int___rmul___int_list k u b i n) ⟨hl,rfl,d,(SG F.slot_list_mul d F.entry_list_mul (F.args_list_mul_2 _ _) (AutoListH.list___mul___list_int_3 b i n k u c (L7 e) c2) ⟨hl,h⟩)⟩)
theorem nS(r:aw y a b):∀k,ao y (Zt k a) (Zt k b):=by
 intro I;induction I with
 |VZ=>exact .nil|VC k c=>exact .cons r (c)
theorem EV.times(h:EV X m A Zc2 o E λx d=>EV X m A Zcg o d λy G=>∃(c:MV)(k:U),x=.lst [c]/\y=Za0/\k<=1000000/\g (.lst (Zt k c)) G):EV X m A (ZH (.BinOp l .Mult b Ym) A) o E g:=λV PM n=>wpAny_BinOp (W1 n λPN PR PS x d p r q s=>s.use q λPT PW PX y G a t S u=>by
    walk_at"a";obtain⟨c,k,rfl,rfl,f,z⟩:=u;obtain⟨PY,j,PZ,YA,hp,rl⟩:=(Tp a).seq;rw[YA];obtain⟨P0,YA⟩:=t.int;rw[YA];obtain⟨w,hw,B⟩:=ia 0 (a:=c) rfl;have C:j=#[w]:=by
      have h1:=WZ;apply Array.ext;.exact h1
      . intro i D O;have:i=0:=by simp at h1;exact bx 0x7ffb6876e16841 [_,_] D h1
        subst this;have:=(OQ (show j[0]?=some w by simpa using hw)).2;exact this
    subst C;have e:List.foldl (λF I=>F++I) #[] (Zt (if#[w].isEmpty=true then 0 else(k:Zv).toNat) #[w])=(Zt k w).toArray:=by
      rw[listMul_foldl];simp[lm_rep_flat_one]
    obtain⟨M,N,Q,T⟩:=S.iZ (T:="list") (nS B k);exact DQ ((Yg _ _ hp)) (by rw[ki];simpa using f) (by rw[e];exact⟨M,_,G,(ez a).trans N,Q,T,z⟩) (a9 0x1fee5f30e6616e5e1 [1000000,1000000] [_] [] f))
theorem EV.IM(h:EV X m A (ZH a A) o E g):EV X m A (ZH (.BoolOp .Or [a] Ym) A) o E g:=h
theorem EV.CV(h:EV X m A Zc2 o E λb G=>∃c,lI G b=Zan/\(c=true->g b G)/\(c=false->EV X m A (ZH (.BoolOp .Or (n::d) Ym) A) o G g)):EV X m A (ZH (.BoolOp .Or (l::n::d) Ym) A) o E g:=λz B p=>BoolOp_or (W1 p λC D F b G f r t k=>by
  walk_at"a";obtain⟨c,u,w,x⟩:=k;refine ZS (iM (Nj:=λe i=>e=c/\i=G) u t r ⟨rfl,rfl⟩) (λe s q=>?_) λO O q=>q;obtain⟨j,y,a,S,rfl,rfl⟩:=q;cases e with|true=>exact⟨j,b,y,f.trans a,Tp a,S,w rfl⟩|false=>exact ZS (x rfl j s S) (λO O q=>mc (f.trans a)) λO O q=>q)
theorem EB.JX(rm:Rm X m P0)(h:EV X m A (ZH F A) o E λx l=>EV X m A Zcg o l λy G=>∃t,vR G n x y=some t/\(t=false->Nj false G)/\(t=true->EV X m A Zb6 o G λz e=>∃d,vR e s y z=ZaC/\Nj d e))(hm:Z3 (lastMarks [n,s] [b,c]=false) aW):EB X m A (XE (.Compare F [n,s] [b,c] Ym) A Up) o E Nj:=λP2 P4 w=>isTrue_chain (W1 w λP5 P6 P7 x l p B C k=>test_link (k.use C λP8 P9 Qa y G a r D I=>by
  obtain⟨t,ht,M,N⟩:=I;refine ZS (jq (g:=λf i=>f=.bool t/\i=G) rm ht D (B.mono a) r ⟨rfl,rfl⟩) (λQb Qc q=>?_) λO O q=>q;obtain⟨Q,Qd,e,j,T,S,rfl,rfl⟩:=q;rw[T.raw];refine UN ?_;cases t with
  |false=>exact⟨Q,_,(ez a).trans j,S,M rfl⟩|true=>
   refine test_last ((N rfl).use S λQe Qf Qg z V u PM PN PR=>?_);obtain⟨d,PS,PT⟩:=PR;refine ZS (jq (g:=λf i=>f=.bool d/\i=V) rm PS PN (Tp (fi u)) PM ⟨rfl,rfl⟩) (λQh Qi q=>?_) λO O q=>q;obtain⟨PW,Qj,Qk,PX,PY,PZ,rfl,rfl⟩:=q;rw[PY.raw];exact UN ⟨PW,_,(((ez a).trans j).trans u).trans PX,PZ,PT⟩)) hm
def jC(XN:Z->YZ)(b:J Z)(x:Z):J U:=if XN x=true then[]else(Zh Zw).filter λj=>b[j]?==some x
abbrev jO:=Zv×Zv×Zv
def rD(a:J (Zv×Zv))(c d i:Zv)(l:J Zv)(n:J (Zv×Zv))(b:jO):J (Zv×Zv)×jO:=VF (λj k n b=>if j<c then k n b else if d<=j then(n,b)else k (n++[(j,(z3 (j-1)).getD 0+1)]) (if(z3 (j-1)).getD 0+1>b.2.2 then(i-((z3 (j-1)).getD 0+1)+1,j-((z3 (j-1)).getD 0+1)+1,(z3 (j-1)).getD 0+1)else b)) Prod.mk n b
theorem CW(a c d i n b):rD a c d i [] n b=(n,b):=rfl
def uO(XN:Z->YZ)(a b:J Z)(i:U):J Zv:=((a[i]?).elim [] (jC XN b)).map λj:U=>(j:Zv)
def zz(XN:Z->YZ)(c d:J Z)(a b e t:U):J (Zv×Zv)×jO:=Og (motive:=λO=>J (Zv×Zv)×jO) ([],((a:Zv),(b:Zv),0)) (λt k=>rD k.1 b e ((a+t:U):Zv) (uO XN c d (a+t)) [] k.2) t
def eS(XN:Z->YZ)(a b:J Z)(c d e i j:U):U:=Og (motive:=λO=>U->U) (λO=>0) (λi k j=>Ss (motive:=λO=>U) j 0 λj=>if c<=i/\d<=j/\j<e/\(∃x,a[i]?=Zak/\b[j]?=Zak/\XN x=false)then k j+1 else 0) i j
theorem kN:eS XN a b d f k (i+1) (c+1)=if d<=i/\f<=c/\c<k/\(∃x,a[i]?=Zak/\b[c]?=Zak/\XN x=false)then eS XN a b d f k i c+1 else 0:=rfl
theorem xi:rD c d f i (a::r) n b=if a<d then rD c d f i r n b else if f<=a then(n,b)else rD c d f i r (n++[(a,(Sd (a-1)).getD 0+1)]) (if(Sd (a-1)).getD 0+1>b.2.2 then(i-((Sd (a-1)).getD 0+1)+1,a-((Sd (a-1)).getD 0+1)+1,(Sd (a-1)).getD 0+1)else b):=rfl
inductive Kv(r:U->U->U)(done:U->U->Prop)(bi g b:U):Prop|mk(i:0<b)(p q:U)(d:done p q)(e1:p+1=bi+b)(e2:q+1=g+b)(e:r (p+1) (q+1)=b)(f:∀a c,done a c->(a<p\/a=p/\c<q)->r (a+1) (c+1)<b)
structure zR(r:U->U->U)(done:U->U->Prop)(a f:U)(g:jO)(bi d b:U):Prop where
 e:g=((bi:Zv),(d:Zv),(b:Zv))
 m:∀p q,done p q->r (p+1) (q+1)<=b
 c:(b=0/\bi=a/\d=f)\/Kv r done bi d b
variable{C:Z->YZ}
theorem Bn:a∈jC C t x↔C x=false/\t[a]?=Zak:=by
  unfold jC;by_cases h:C x=true;.rw[ZT h];simp[h]
  . rw[ZY h];have b:C x=false:=by simpa using h
    simp only[fk,List.mem_range,V5,b,true_and];exact⟨λq=>q.2,λq=>⟨(ZN q).1,q⟩⟩
theorem lY(x:Z):(jC C t x).Pairwise (.<.):=by
 unfold jC;refine bQ rfl (λO=>?_) λO=>?_;.exact .nil
 .exact List.Pairwise.filter _ List.pairwise_lt_range
variable{e:J Z}
theorem xw:∀(i a:U),eS C t e j p I i a<=i/\eS C t e j p I i a<=a:=by
 intro b;induction b with
 |VZ=>
  intro a;exact⟨ZV _,Zf _⟩|VC i c=>
  intro d;cases d with
  |VZ=>exact⟨Zf _,ZV _⟩|VC a=>
   have:=c a;rw[kN];split<;>(first|exact aV 0x7fb9838707073070a0e0f7230e441 [_,_,_] this|exact cY 0x77226e42d [_,_])
theorem jf:∀(i b a:U),a<eS C t e j p I i b->j<=i-1-a/\p<=b-1-a/\b<=I/\∃x,t[i-1-a]?=Zak/\e[b-1-a]?=Zak/\C x=false:=by
  intro c;induction c with
  |VZ=>
    intro b a h;exact(SK _ h).elim|VC i d=>
    intro f;cases f with
    |VZ=>
      intro a h;exact(SK _ h).elim|VC b=>
      intro a h;rw[kN]at h;split at h;.rename_i q;obtain⟨g,q2,q3,x,q4,q5,k⟩:=q;cases a with
        |VZ=>exact⟨by simpa using g,by simpa using q2,by exact GK q3,x,by simpa using q4,by simpa using q5,k⟩|VC a=>
          have:=d b a (Kw h);have e1:i+1-1-(a+1)=i-1-a:=by exact cY 0x6e228b83183851741c1 [_,_]
          have e2:b+1-1-(a+1)=b-1-a:=by exact cY 0x6e228b83183851741c1 [_,_]
          rw[e1,e2];exact⟨this.1,this.2.1,by exact GK q3,this.2.2.2⟩
      .exact(Js h).elim
theorem xE:∀(k i b:U),(∀a,a<k->j<=i+a/\p<=b+a/\b+a<I/\∃x,t[i+a]?=Zak/\e[b+a]?=Zak/\C x=false)->k<=eS C t e j p I (i+k) (b+k):=by
 intro c;induction c with
 |VZ=>
  intro _ _ _;exact Zf _|VC k d=>
  intro i b h;have:=d i b λa ht=>h a (Jw ht);show k+1<=eS C t e j p I (i+k+1) (b+k+1);rw[kN];rw[ZT (h k (Ku))];exact Hz this
abbrev R(XN:Z->YZ)(a b:J Z)(c d e:U):=eS XN a b c d e
def Ws(a i j:U)(p q:U):Prop:=a<=p/\(p<i\/p=i/\q<j)
theorem zR.skip(h:zR r (Ws j i a) j p b bi u x)(hj:a<=l)(o:∀q,a<=q->q<l->r (i+1) (q+1)=0):zR r (Ws j i l) j p b bi u x:=by
  refine⟨h.e,λg q d=>?_,h.c.imp id λz=>?_⟩
  . by_cases hd:Ws j i a g q;.exact h.m g q hd
    . unfold Ws at d hd;have:g=i/\a<=q/\q<l:=by exact bx 0xfffbdd149921b63173beee8c4d8c5a18b220f7ddd149b18b4316441 [_,_,_,_,_,_] d hd
      rw[this.1,o q this.2.1 this.2.2];exact Zf _
  obtain⟨s,g,q,d,e1,e2,w,f⟩:=z;refine⟨s,g,q,?_,e1,e2,w,λn k t lt=>?_⟩;.unfold Ws at d⊢;exact bx 0x7ffdf774236ca4d149920fbeee826d949a293241e441 [_,_,_,_,_,_] hj d
  . by_cases hd:Ws j i a n k;.exact f n k hd lt
    . unfold Ws at t hd;have:n=i/\a<=k/\k<l:=by exact bx 0xfffbdd149921b63173beee8c4d8c5a18b220f7ddd149b18b4316441 [_,_,_,_,_,_] t hd
      rw[this.1,o k this.2.1 this.2.2];exact s
theorem zR.step(t:j<=i)(h:zR r (Ws j i a) j p b bi u s)(hr:r (i+1) (a+1)<=i+1/\r (i+1) (a+1)<=a+1):∃w x y,zR r (Ws j i (a+1)) j p (if(r (i+1) (a+1):Zv)>b.2.2 then((i:Zv)-r (i+1) (a+1)+1,(a:Zv)-r (i+1) (a+1)+1,(r (i+1) (a+1):Zv))else b) w x y:=by
  rw[h.e];by_cases k:s<r (i+1) (a+1)
  . rw[ZT (by exact JF k)];refine⟨i+1-r (i+1) (a+1),a+1-r (i+1) (a+1),r (i+1) (a+1),⟨?_,λg q d=>?_,.inr ⟨by exact aV 0x7f426e841 [_,_] k,i,a,?_,by exact aV 0x7f700c422177230e441 [_,_,_] hr,by exact aV 0x7f700c4231f7230e441 [_,_,_] hr,rfl,λl n o lt=>?_⟩⟩⟩
    . refine Prod.ext ?_ (Prod.ext ?_ rfl);.show i-(r (i+1) (a+1))+1=((i+1-r (i+1) (a+1):U):Zv);exact aV 0xfee710c1c283a330cc5dc8c3983841 [_,_,_] hr
      .show a-(r (i+1) (a+1))+1=((a+1-r (i+1) (a+1):U):Zv);exact aV 0xfee710c1c383a330cc7dcc1c30e441 [_,_,_] hr
    . by_cases hd:Ws j i a g q;.exact W' (U8 (h.m g q hd) k)
      . unfold Ws at d hd;have:g=i/\q=a:=by exact bx 0x3ffeeca4d8c5cefbba2936316862c883df77507149b18b4316441 [_,_,_,_,_] d hd
        rw[this.1,this.2];exact ZV _
    .unfold Ws;exact aV 0x1fefbba83863d885a10b220e441 [_,_,_] t
    . have:Ws j i a l n:=by unfold Ws at o⊢;exact bx 0x7ffdf77441ec41d0839097beee8c3d883a107212fbba20f620e841 [_,_,_,_,_,_] lt o
      exact U8 (h.m l n this) k
  . rw[ZY (by exact aV 0x7f9a98a61e6841 [_,_] k)];refine⟨bi,u,s,rfl,λg q d=>?_,h.c.imp id λz=>?_⟩
    . by_cases hd:Ws j i a g q;.exact h.m g q hd
      . unfold Ws at d hd;have:g=i/\q=a:=by exact bx 0x3ffeeca4d8c5cefbba2936316862c883df77507149b18b4316441 [_,_,_,_,_] d hd
        rw[this.1,this.2];exact aV 0xfe422e6841 [_,_] k
    obtain⟨A,g,q,d,e1,e2,B,f⟩:=z;refine⟨A,g,q,?_,e1,e2,B,λl n o lt=>?_⟩;.unfold Ws at d⊢;exact aV 0x1fefbba838a4d8c5a18b220f7ddd149b18b4316441 [_,_,_,_,_] d
    . have:Ws j i a l n:=by unfold Ws at d o⊢;exact fX 0x7fffefbba40f660e8c1c84bdf774826cc2d1859117beee8e3d983a307212fbba20f620e841 [_,_,_,_,_,_,_,_] lt o d
      exact f l n this lt
def Bo(XN:Z->YZ)(a b:J Z)(c d e i:U)(j:J (Zv×Zv)):Prop:=∀z:Zv,(j.lookup z).getD 0=if z<0 then 0 else(eS XN a b c d e i (G3+1):Zv)
def zG(XN:Z->YZ)(a b:J Z)(c d e i j:U)(n:J (Zv×Zv)):Prop:=(∀p∈n,p.1<(j:Zv))/\∀z:Zv,(n.lookup z).getD 0=if z<0\/(j:Zv)<=z then 0 else(eS XN a b c d e (i+1) (G3+1):Zv)
theorem tm(n:J (Zv×Zv))(k a z:Zv)(h:∀p∈n,p.1<k):(n++[(k,a)]).lookup z=if z=k then some a else n.lookup z:=by induction n with
  |Yl=>
    clear h;by_cases e:z=k;.rw[e];simp
    .simp[Ut,e,Yu e]|Zp p n i=>
    obtain⟨y,u⟩:=p;have hy:=h (y,u) Y4;rw[Ut,Ut];by_cases e:z=y
    . subst e;have:z≠k:=by exact a9 0xff36b5696a [] [] [_,_] hy
      simp[this]
    .simp only[Yu e];exact(i λp hp=>h p (ZX _ hp))
theorem oe(n:J (Zv×Zv))(k:Zv)(h:∀p∈n,p.1<k):n.lookup k=none:=by induction n with|Yl=>rfl|Zp p n i=>
  obtain⟨y,u⟩:=p;rw[Ut,Yu (by(exact a9 0xff36a5e96a [] [] [_,_] (h (y,u) Y4)):k≠y)];exact i λp hp=>h p (ZX _ hp)
theorem zG.skip(h:zG C t e j p I i a n)(hj:a<=b)(c:∀q,a<=q->q<b->eS C t e j p I (i+1) (q+1)=0):zG C t e j p I i b n:=by
  refine⟨λd hp=>by have:=h.1 d hp;(exact cD 0x1ffea6256a6156441 [] [_,_] [_] hj this),λz=>?_⟩;rw[h.2 z];by_cases h1:z<0\/b<=z;.rw[ZT h1,ZT (by exact cD 0x1fffb2a9874d57b2a98b4d56441 [] [_,_] [_] hj h1)]
  . rw[ZY h1];by_cases h2:a<=z;.rw[ZT (.inr h2),c G3 (a9 0x1fcd141caa61 [] [_] [_] h2) (a9 0x3fa0d15cf65530e9aa [] [_] [_] h1)];rfl
    .rw[ZY (by exact cD 0x3ffe7b2a669aae654ce7b2a5e9aa [] [] [_,_,_] h1 h2)]
theorem zG.all(h:zG C t e j p I i a n)(b:∀q,a<=q->eS C t e j p I (i+1) (q+1)=0):Bo C t e j p I (i+1) n:=λz=>by
  rw[h.2 z];by_cases h1:z<0;.rw[ZT (.inl h1),ZT h1]
  . rw[ZY h1];by_cases h2:(a:Zv)<=z;.rw[ZT (.inr h2),b G3 (by exact a9 0x1fcd141caa61 [] [_] [_] h2)];rfl
    .rw[ZY (by exact cD 0x3ffe7b2a5e9aae654be69aa [] [] [_,_] h1 h2)]
theorem zR.all(h:zR r (Ws j i a) j p b bi u x)(n:∀q,a<=q->r (i+1) (q+1)=0):zR r (Ws j (i+1) 0) j p b bi u x:=by
  refine⟨h.e,λg q d=>?_,h.c.imp id λz=>?_⟩
  . by_cases hd:Ws j i a g q;.exact h.m g q hd
    . unfold Ws at d hd;have:g=i/\a<=q:=by exact bx 0xfffb921763173beee8a4d8c5a18b220f7ddd349b83862d41c316441 [_,_,_,_,_] d hd
      rw[this.1,n q this.2];exact Zf _
  obtain⟨o,g,q,d,e1,e2,t,f⟩:=z;refine⟨o,g,q,?_,e1,e2,t,λl k s lt=>?_⟩;.unfold Ws at d⊢;exact aV 0x7fbeee9a4dc1c316a0e18b220f7ddd149b18b4316441 [_,_,_,_,_] d
  . by_cases hd:Ws j i a l k;.exact f l k hd lt
    . unfold Ws at s hd;have:l=i/\a<=k:=by exact bx 0xfffb921763173beee8a4d8c5a18b220f7ddd349b83862d41c316441 [_,_,_,_,_] s hd
      rw[this.1,n k this.2];exact o
theorem IK{α:Type}[Oa c]{x y:α}{a:α->Prop}(h1:c->a x)(h2:¬c->a y):a (if c then x else y):=if h:c then(ZT h).symm▸h1 h else(ZY h).symm▸h2 h
def Na(XN:Z->YZ)(c d:J Z)(a b e i:U)(r:J (Zv×Zv)×jO):Prop:=∃f g j,Bo XN c d a b e (i+1) r.1/\zR (R XN c d a b e) (Ws a (i+1) 0) a b r.2 f g j
theorem BG(hx:t[i]?=Zak)(A:j<=i)(G:Bo C t e j p I i F):∀(r:J U)(c:U)(n:J (Zv×Zv))(k:jO)(bi b f:U),r.Pairwise (.<.)->(∀q∈r,c<=q)->(∀q,c<=q->(q∈r↔(C x=false/\e[q]?=Zak)))->zG C t e j p I i c n->zR (R C t e j p I) (Ws j i c) j p k bi b f->Na C t e j p I i (rD F p I i (r.map λc:U=>(c:Zv)) n k):=by
  have VZ:∀q,(q<p\/I<=q\/¬(C x=false/\e[q]?=Zak))->eS C t e j p I (i+1) (q+1)=0:=λq h=>by
    rw[kN];rw[ZY];intro M;obtain⟨_,q2,q3,PN,q4,q5,N⟩:=M;rw[hx]at q4;obtain rfl:=ZW q4;refine Xq (λh=>?_) λYA=>YA.elim (λh=>?_) λh=>?_;.exact Ju h q2
    .exact Ju q3 h
    .exact h ⟨N,q5⟩
  intro r;induction r with
  |Yl=>
    intro c n k bi b f O O hm hn hb;have g:∀q,c<=q->eS C t e j p I (i+1) (q+1)=0:=λq hq=>VZ q (.inr (.inr λh=>by have:=(hm q hq).mpr h;simp at this));exact⟨bi,b,f,hn.all g,hb.all g⟩|Zp a r B=>
    intro c n k bi b f hs hge hm hn hb;obtain⟨w,D⟩:=WG hs;have l:=hge a Y4;have g:∀q,c<=q->q<a->eS C t e j p I (i+1) (q+1)=0:=λq h1 h2=>VZ q (.inr (.inr λh=>by
      rcases ZI ((hm q h1).mpr h)with d|d;.exact Ig h2 d
      .have:=w q d;exact bx 0x1ffa74116841 [_,_] h2 this));have m:=hn.skip l g
    have y:=hb.skip l g;have E:=(hm a l).mp Y4;refine rwP (xi ..) (IK (λh1=>?_) λh1=>IK (λh2=>?_) λh2=>?_);.have o:∀q,a<=q->q<a+1->eS C t e j p I (i+1) (q+1)=0:=λq a1 a2=>VZ q (.inl (bx 0x7ffa10f507047a98a61 [_,_,_] h1 a2));exact B (a+1) n k bi b f D (λq hq=>w q hq) (λq hq=>by
        rw[<-hm q (bx 0x1ffe443c8479141c1 [_,_,_] hq l)];exact⟨λh=>ZX _ h,λh=>(ZI h).resolve_left (aV 0x3fcd8459141c1 [_,_] hq)⟩) (m.skip (FA) o) (y.skip (FA) o)
    .have o:∀q,a<=q->eS C t e j p I (i+1) (q+1)=0:=λq a1=>VZ q (.inr (.inl (bx 0x1ffe461c8c5998a61 [_,_,_] h2 a1)));exact⟨bi,b,f,m.all o,y.all o⟩
    .
        have Q:(F.lookup ((a:Zv)-1)).getD 0+1=(eS C t e j p I (i+1) (a+1):Zv):=by
          have d:eS C t e j p I (i+1) (a+1)=eS C t e j p I i a+1:=by
            rw[kN];rw[ZT ⟨A,by exact aV 0x3f908b9a98a61 [_,_] h1,by exact aV 0x3fa08b9998a61 [_,_] h2,x,hx,E.2,E.1⟩]
          rw[d,G];clear hs;by_cases s:(a:Zv)-1<0
          . rw[ZT s];have:a=0:=by exact aV 0x3fb6874d8ba61 [_] s
            rw[this];have:eS C t e j p I i 0=0:=by cases i<;>rfl
            rw[this];rfl
          . rw[ZY s];have:((a:Zv)-1).toNat+1=a:=by exact aV 0x1fd860ea45d30f34d8ba61 [_] s
            rw[this];rfl
        rw[Q];obtain⟨S,T,V,X⟩:=y.step A (xw (i+1) (a+1));refine B (a+1) _ _ S T V D (λq hq=>w q hq) (λq hq=>by
          rw[<-hm q (bx 0x1ffe443c8479141c1 [_,_,_] hq l)];exact⟨λh=>ZX _ h,λh=>(ZI h).resolve_left (aV 0x3fcd8459141c1 [_,_] hq)⟩) ⟨λPM hp=>?_,λz=>?_⟩ X
        . refine(ZM hp).elim (λhp=>?_) λhp=>?_;.have:=m.1 PM hp;exact a9 0x7f538382ad4c2a [] [_] [_] this
          .simp at hp;rw[hp];show(a:Zv)<_;exact cY 0x6a7070661 [_]
        . rw[tm n _ _ z m.1];by_cases d:z=a;.rw[d];rw[ZT rfl,ZY (by exact cY 0x1cf66619c1c1d3661 [_])];rfl
          . rw[ZY d,m.2 z];by_cases u:z<0\/a<=z;.rw[ZT u,ZT (cD 0x1fffb2a9c1c1d355cdcc2af65530e9aa [] [_] [_] u d)]
            .rw[ZY u,ZY (by exact a9 0x1fe7b2a9c1c1d355cf65530e9aa [] [_] [_] u)]
theorem BK:∀a:U,j+a<=YI->∃bi b c,Bo C t e j p I (j+a) (zz C t e j p I a).1/\zR (R C t e j p I) (Ws j (j+a) 0) j p (zz C t e j p I a).2 bi b c:=by
 intro f;induction f with
 |VZ=>
  intro _;refine⟨j,p,0,λz=>?_,rfl,λg q d=>by unfold Ws at d;(exact aV 0x7f2d277ddd347b83422d41a116441 [_,_,_,_] d),.inl ⟨rfl,rfl,rfl⟩⟩;show(([]:J (Zv×Zv)).lookup z).getD 0=_;have:eS C t e j p I j (G3+1)=0:=by cases h:eS C t e j p I j (G3+1)with
   |VZ=>rfl|VC k=>
    have h1:=jf j (G3+1) 0 (aV 0x1fd05bb83841 [_,_] h);exact fX 0x7fffdb60e16461cc5b170c7b83841 [_,_,_] h h1.1 ((xw j (G3+1)).1)
  rw[this];simp|VC a i=>
  intro h;walk_at"b";obtain⟨bi,b,c,hj,hb⟩:=i (aV 0x1fc8e020e47083841 [_,_,_] h);obtain⟨x,hx⟩:∃x,t[j+a]?=Zak:=⟨_,Z6 (by exact aV 0x1fd0e020e47083841 [_,_,_] h)⟩;have hr:uO C t e (j+a)=(jC C e x).map λl:U=>(l:Zv):=by unfold uO;rw[hx];rfl
  show∃bi b c,Bo _ _ _ _ _ _ _ (rD _ _ _ _ _ _ _).1/\zR _ _ _ _ (rD _ _ _ _ _ _ _).2 _ _ _;rw[hr];refine BG hx (O1) hj (jC C e x) 0 [] _ bi b c (lY x) (λO O=>Zf _) (λq O=>Bn) ⟨λg hp=>(by cases hp),λz=>?_⟩ hb;show([].lookup z).getD 0=_;rw[ZT (fA 0xf65536e9aa [] [] [_])];rfl
def ro(a b:J Z)(c d i j k:U):U×U×U:=Og (motive:=λO=>U->U->U×U×U) (λj k=>(0,j,k)) (λi r j k=>Ss (motive:=λO=>U×U×U) j (i+1,0,k) λj=>if c<=i/\d<=j/\a[i]?=b[j]? then r j (k+1)else(i+1,j+1,k)) i j k
def jB(a b:J Z)(c d i j f k:U):U:=Og (motive:=λO=>U->U) id (λO r k=>if i+k<c/\j+k<d/\a[i+k]?=b[j+k]? then r (k+1)else k) f k
theorem rT:ro t e j p (i+1) (a+1) k=if j<=i/\p<=a/\t[i]?=e[a]? then ro t e j p i a (k+1)else(i+1,a+1,k):=rfl
theorem vZ:jB t e a j i b (f+1) k=if i+k<a/\b+k<j/\t[i+k]?=e[b+k]? then jB t e a j i b f (k+1)else k:=rfl
def toN(b:jO):U×U×U:=(b.1.toNat,b.2.1.toNat,b.2.2.toNat)
def eX(XN:Z->YZ)(a b:J Z)(c d f g:U):U×U×U:=let s:=toN (zz XN a b c f g (d-c)).2
 let e:=ro a b c f s.1 s.2.1 s.2.2
 (e.1,e.2.1,jB a b d g e.1 e.2.1 (d-e.1-e.2.2) e.2.2)
structure Fits(a b:J Z)(c d e f i j k:U):Prop where
 i0:c<=i
 i1:i+k<=d
 j0:e<=j
 j1:j+k<=f
 eq:∀t,t<k->a[i+t]?=b[j+t]?
theorem zX(h:¬(j<i/\p<a/\t[i-1]?=e[a-1]?)):ro t e j p i a k=(i,a,k):=by match i,a with
 |0,_=>rfl|i+1,0=>rfl|i+1,a+1=>
  rw[rT];rw[ZY];intro b;obtain⟨q,q2,q3⟩:=b;exact h ⟨by exact aV 0x1fd41c20e441 [_,_] q,by exact aV 0x1fd41c20e441 [_,_] q2,by simpa using q3⟩
theorem Ee(h:j<i/\p<a/\t[i-1]?=e[a-1]?):ro t e j p i a k=ro t e j p (i-1) (a-1) (k+1):=by cases i with
 |VZ=>exact Za h.1 (SK _)|VC i=>cases a with
  |VZ=>exact Za h.2.1 (SK _)|VC a=>
   rw[rT];rw[ZT ⟨Iv h.1,Iv h.2.1,by simpa using h.2.2⟩];rfl
theorem zw(h:¬(i+k<a/\b+k<j/\t[i+k]?=e[b+k]?)):jB t e a j i b f k=k:=by cases f with|VZ=>rfl|VC f=>rw[vZ];rw[ZY h]
theorem C4(h:i+k<a/\b+k<j/\t[i+k]?=e[b+k]?):jB t e a j i b (f+1) k=jB t e a j i b f (k+1):=by
 rw[vZ];rw[ZT h]
theorem qF:∀(i b k:U),Fits t e j a p I i b k->∃d,ro t e j p i b k=(i-d,b-d,k+d)/\d<=i/\d<=b/\Fits t e j a p I (i-d) (b-d) (k+d)/\(j<i-d->p<b-d->t[i-d-1]?≠e[b-d-1]?):=by
  intro l;induction l with
  |VZ=>
    intro b k h;exact⟨0,by rfl,by exact cY 0x65ad [],by exact O0,h,λh1=>by exact(aV 0x7d3a8b5a1 [_] h1).elim⟩|VC i n=>
    intro o;cases o with
    |VZ=>
      intro k h;exact⟨0,by rfl,by exact O0,by exact cY 0x65ad [],h,λO h1=>by exact(aV 0x7d3a8b5a1 [_] h1).elim⟩|VC b=>
      intro k h;rw[rT];refine bQ rfl (λq=>?_) λq=>?_
      . walk_at"b";obtain⟨d,g,d1,d2,f,m⟩:=n b (k+1) ⟨q.1,by have:=h.i1;(exact aV 0x7f23841c20e470141c1 [_,_,_] this),q.2.1,by have:=h.j1;(exact aV 0x7f23841c20e470141c1 [_,_,_] this),λc ht=>by cases c with|VZ=>exact q.2.2|VC c=>
            have:=h.eq c (Kw ht);rw[show i+(c+1)=i+1+c by exact E6,show b+(c+1)=b+1+c by(exact E6)];exact this⟩;refine⟨d+1,?_,by exact Hz d1,by exact Hz d2,?_,?_⟩;.rw[g,show i+1-(d+1)=i-d by exact GV,show b+1-(d+1)=b-d by exact GV,show k+(d+1)=k+1+d by(exact E6)]
        .rw[show i+1-(d+1)=i-d by exact GV,show b+1-(d+1)=b-d by exact GV,show k+(d+1)=k+1+d by(exact E6)];exact f
        .rw[show i+1-(d+1)=i-d by exact GV,show b+1-(d+1)=b-d by(exact GV)];exact m
      .walk_at"b";refine⟨0,rfl,by exact O0,by exact O0,h,λh1 h2 g=>q ⟨by exact aV 0x7f220ea2d83841 [_,_] h1,by exact aV 0x7f220ea2d83841 [_,_] h2,?_⟩⟩;simpa using g
theorem rS:∀(f k:U),a<=i+k+f->Fits t e j a p I i b k->k<=jB t e a I i b f k/\Fits t e j a p I i b (jB t e a I i b f k)/\(i+jB t e a I i b f k<a->b+jB t e a I i b f k<I->t[i+jB t e a I i b f k]?≠e[b+jB t e a I i b f k]?):=by
  intro l;induction l with
  |VZ=>
    intro k c h;exact⟨ZV _,h,λh1=>by(exact(bx 0x7fe9cc1a116841 [_,_] h1 c).elim)⟩|VC f m=>
    intro k c h;rw[vZ];refine bQ rfl (λq=>?_) λq=>?_
    .obtain⟨e1,e2,n⟩:=m (k+1) (aV 0x7f302420e18839841c480c41 [_,_,_,_] c) ⟨h.i0,aV 0x1fc8e107083a1c041 [_,_,_] q.1,h.j0,aV 0x1fc8e107083a1c041 [_,_,_] q.2.1,λg ht=>by
        clear c;by_cases d:g=k;.rw[d];exact q.2.2
        .exact h.eq g (HQ ht d)⟩;exact⟨by exact O7 e1,e2,n⟩
    .exact⟨ZV _,h,λh1 h2 d=>q ⟨h1,h2,d⟩⟩
structure Found(XN:Z->YZ)(c d:J Z)(a e b f i j k:U):Prop where
 eq:(zz XN c d a b f (e-a)).2=((i:Zv),(j:Zv),(k:Zv))
 fits:Fits c d a e b f i j k
 max:∀p q,a<=p->p<e->eS XN c d a b f (p+1) (q+1)<=k
 VZ:k=0->i=a/\j=b
 GI:∀t,t<k->∃x,c[i+t]?=Zak/\XN x=false
 fst:0<k->∀p q,a<=p->p<e->(p<i+k-1\/p=i+k-1/\q<j+k-1)->eS XN c d a b f (p+1) (q+1)<k
theorem found(h1:j<=a)(h2:a<=YI)(G:p<=I):∃i M k,Found C t e j a p I i M k:=by
  obtain⟨bi,u,b,_,hb⟩:=BK (C:=C) (e:=e) (j:=j) (p:=p) (I:=I) (a-j) (bx 0x7ff91c2211072316441 [_,_,_] h1 h2);have w:j+(a-j)=a:=by exact HA h1
  rw[w]at hb;have cell:∀g q,j<=g->g<a->Ws j a 0 g q:=λg q a1 a2=>⟨a1,.inl a2⟩;have y:=λg q a1 a2=>hb.m g q (cell g q a1 a2);refine⟨bi,u,b,hb.c.elim (λN=>?_) λQ=>?_⟩;.obtain⟨z,A,B⟩:=N;refine⟨hb.e,?_,y,λO=>⟨A,B⟩,λl ht=>by rw[z]at ht;exact(Js ht).elim,λn=>by rw[z]at n;exact(UA 0 n).elim⟩;rw[z,A,B];exact⟨ZV _,by exact aV 0x7f238343b1c041 [_,_,_] w,ZV _,by exact aV 0x1fc8a0d0e441 [_,_] G,λl ht=>by exact(Js ht).elim⟩
  . obtain⟨n,g,q,d,e1,e2,o,f⟩:=Q;refine⟨hb.e,?_,y,λS=>bx 0x7ffdd949b18b6d0e82d [_,_,_,_,_] n S,λl ht=>?_,λ_ D E a1 a2 lt=>f D E (cell D E a1 a2) (fX 0x1ffffddd0cdb097412fbba8b886dc5c22ea2e117648387b141c1 [_,_,_,_,_,_] e1 e2 lt)⟩
    . have hp:g<a:=by unfold Ws at d;exact aV 0x7f43177ddd349b18b4316441 [_,_,_,_] d
      have r:=jf (g+1) (q+1) (b-1) (by show _<R C t e j p I (g+1) (q+1);rw[o];exact Ic n);refine⟨fX 0x7fffc903b80c9070b436e63170e2e83841 [_,_,_,_] r.1 n e1,by exact bx 0x1ffe462d0c3b141c1 [_,_,_] e1 hp,fX 0x7fffc903b80c9070b436e63170e2e83841 [_,_,_,_] r.2.1 n e2,bx 0x7ff914083dc08383839141c1 [_,_,_,_] r.2.2.1 e2,λl ht=>?_⟩;obtain⟨_,_,_,F,x,s,_⟩:=jf (g+1) (q+1) (b-1-l) (by show _<R C t e j p I (g+1) (q+1);rw[o];exact Jt ht);rw[show g+1-1-(b-1-l)=bi+l by(exact LX ht e1)]at x;rw[show q+1-1-(b-1-l)=u+l by(exact LX ht e2)]at s;rw[x,s]
    .obtain⟨_,_,_,F,x,s,T⟩:=jf (g+1) (q+1) (b-1-l) (by show _<R C t e j p I (g+1) (q+1);rw[o];exact Jt ht);rw[show g+1-1-(b-1-l)=bi+l by(exact LX ht e1)]at x;exact⟨F,x,T⟩
structure M8(XN:Z->YZ)(a b:J Z)(c e d f i j k:U):Prop where
 fits:Fits a b c e d f i j k
 left:c<i->d<j->a[i-1]?≠b[j-1]?
 right:i+k<e->j+k<f->a[i+k]?≠b[j+k]?
 GI:(∃t x,t<k/\a[i+t]?=Zak/\XN x=false)\/(i=c/\j=d/\∀p q x,c<=p->p<e->d<=q->q<f->a[p]?=Zak->b[q]?=Zak->XN x=true)
theorem iI(h1:j<=a)(h2:a<=YI)(l:p<=I):M8 C t e j a p I (eX C t e j a p I).1 (eX C t e j a p I).2.1 (eX C t e j a p I).2.2:=by
  obtain⟨i,n,k,h⟩:=found (C:=C) (e:=e) h1 h2 l;clear h1 l;have s:toN (zz C t e j p I (a-j)).2=(i,n,k):=by rw[h.eq];rfl
  obtain⟨d,u,d1,d2,f,m⟩:=qF i n k h.fits;unfold eX;rw[s];dsimp only;rw[u];walk_at"aG";dsimp only;obtain⟨r,r2,w⟩:=rS (a-(i-d)-(k+d)) (k+d) (LB) f;refine⟨r2,m,w,?_⟩;walk_at"n";by_cases b:k=0
  . obtain⟨rfl,rfl⟩:=h.zero b;have:=f.i0;have hd:d=0:=by exact bx 0x1ffeda2c845988821 [_,_] this d1
    right;refine⟨by exact aV 0x1fd8a2116da1 [_,_] hd,by exact aV 0x1fd8a2116da1 [_,_] hd,λo q x p0 p1 y z c g=>?_⟩;cases hp:C x with
    |false=>
      have:=h.max o q p0 p1;have A:=xE 1 o q λB ht=>by
        have:B=0:=by exact aV 0x7f6d0e9c1 [_] ht
        rw[this];exact⟨p0,y,z,x,c,g,hp⟩
      exact(fX 0x1fffd3b68b220e42e [_,_] A this b).elim|true=>rfl
  .left;obtain⟨x,c,g⟩:=h.GI 0 (GL b);exact⟨d,x,by exact bx 0x3ffd0c5cdb4391c041 [_,_,_] r b,by rw[show i-d+d=i+0 by(exact aV 0x1fdc1a28062116441 [_,_] d1)];exact c,g⟩
def Tv(b:J Z)(k:U)(x:Z):J U:=(Zh k).filter λj=>b[j]?==some x
def eZ(b:J Z)(x:Z):YZ:=decide (200<=Zw/\Zw/100+1<(Tv b Zw x).length)
theorem fK(h:b[k]?=ZaB)(x:Z):Tv b (k+1) x=Tv b k x++(if a=x then[k]else[]):=by
 unfold Tv;rw[TX,VL];by_cases e:a=x;.subst e;simp[h]
 .simp[h,e]
structure Tab(G d:GH)(b:J Z)(a:U)(k:J (Z×ZP)):Prop where
 nd:(k.map (·.1)).Nodup
 val:∀x c,(x,c)∈k->∃la,c=.ref la/\G la=none/\d la=some (.list ((Tv b a x).map λj:U=>Uz j))
 y2:∀x,x∈k.map (·.1)↔Tv b a x≠[]
 inj:∀x y la,(x,.ref la)∈k->(y,.ref la)∈k->x=y
 len:V4<=a
theorem rh(h:WJ NR x=ZaB):(x,a)∈NR:=by
 obtain⟨p,hp,YA⟩:=Y3 h;rw[<-YA];have h1:=List.find?_some hp;have h2:=List.mem_of_find?_eq_some hp;simp at h1;rw[<-h1];exact h2
theorem nV(hn:(NR.map (·.1)).Nodup)(h:(x,a)∈NR):WJ NR x=ZaB:=by
 obtain⟨i,b⟩:=OF h;exact valueAt_of_get hn b
theorem tY:WJ NR x=none↔x∉NR.map (·.1):=by
 unfold WJ;simp[List.find?_eq_none];constructor;.intro h b hv;exact h x b hv rfl
 .intro h a b hv e;subst e;exact h b hv
theorem Tab.nil:Tab E w t 0 []:=⟨List.nodup_nil,λx a h=>(by exact nomatch h),λx=>(by simp[Tv]),λx y la h=>(by cases h),ZV _⟩
theorem Tab.sub(h:Tab E w t j NR)(k:∀a m,E a=none->w a=Zcw->i a=Zcw):Tab E i t j NR:=⟨h.nd,λx b hx=>Su (h.val x b hx) λla Yw=>and3 Yw λe1 e2 e=>⟨la,e1,e2,k la _ e2 e⟩,h.key,h.inj,sv⟩
theorem Tab.found(h:Tab E w t j NR)(hy:t[j]?=ZaB)(hv:WJ NR a=some (.ref la)):w la=some (.list ((Tv t j a).map λb:U=>Uz b))/\E la=none/\Tab E (Y7 w la (.list ((Tv t j a).map (λb:U=>Uz b)++[Zb9]))) t (j+1) NR:=by
  have hm:=rh hv;obtain⟨m,e1,e2,c⟩:=h.val a _ hm;cases e1;refine⟨c,e2,h.nd,λx g hx=>?_,λx=>?_,h.inj,by have:=sv;(exact aV 0x1fcc1c20e441 [_,_] this)⟩
  . obtain⟨l,rfl,f,d⟩:=h.val x g hx;clear e2 c;refine⟨l,rfl,f,?_⟩;rw[fK hy];by_cases e:a=x
    . subst e;have:l=la:=by
        have:=nV h.nd hx;clear f d;rw[hv]at this;cases this;rfl
      rw[this];rw[aa,ZT rfl];simp
    . have i:l≠la:=by intro k;subst k;exact e (h.inj _ _ _ hm hx)
      rw[ag i,ZY e,Zm];exact d
  . rw[h.key,fK hy];by_cases e:a=x;.subst e;have:=(h.key a).mp (Yx ⟨_,hm,rfl⟩);simp[this]
    .simp[e]
theorem Tab.fresh(h:Tab E w t j NR)(hy:t[j]?=Zar)(hv:WJ NR b=none)(hn:w n=none)(hb:E n=none):Tv t j b=[]/\Tab E (Y7 w n (.list [Zb9])) t (j+1) (NR++[(b,.ref n)]):=by
  have g:=tY.mp hv;have i:Tv t j b=[]:=by cases e:Tv t j b with|Yl=>rfl|Zp a y=>exact Za ((h.key b).mpr (by rw[e];simp)) g
  have k:∀x,(x,L' n)∉NR:=λx hx=>by
    obtain⟨la,e1,e2,p⟩:=h.val x _ hx;clear e2;cases e1;exact ax (hn.symm.trans p)
  refine⟨i,?_,λx q hx=>?_,λx=>?_,λx z la hx m=>?_,?_⟩;.rw[ZE,List.map_singleton,k3];refine⟨h.nd,by simp,λa r c o=>?_⟩;clear hy i;simp at o;subst o;intro d;subst d;exact g r
  . rcases ZM hx with ra|ra
    . obtain⟨l,rfl,f,s⟩:=h.val x q ra;clear hb hx;refine⟨l,rfl,f,?_⟩;have u:l≠n:=by intro d;subst d;exact k x ra
      have e:¬b=x:=by intro d;subst d;exact g (Yx ⟨_,ra,rfl⟩)
      rw[ag u,fK hy,ZY e,Zm];exact s
    .simp at ra;clear hx;rw[hx'.1,hx'.2];refine⟨n,rfl,hb,?_⟩;rw[aa,fK hy,ZT rfl,i];rfl
  . rw[ZE,TV,h.key,fK hy];by_cases e:b=x;.subst e;simp
    .simp[e,Zg e]
  . rcases ZM hx with ra|ra
    . rcases ZM m with br|br;.exact h.inj x z la ra br
      .simp at br;obtain⟨rfl,rfl⟩:=br;exact Za ra (k x)
    . simp at ra;obtain⟨rfl,rfl⟩:=ra;rcases ZM m with br|br;.exact Za br (k z)
      .simp at br;exact hz'.symm
  .rw[Z1];have:=sv;simp;exact O9 this
def cX(nt:U)(b:J Z)(k:J (Z×ZP)):J Z:=(k.map (·.1)).filter λx=>decide (nt<(Tv b Zw x).length)
theorem uc:(x,a)∈without NR D↔(x,a)∈NR/\x≠D:=by unfold without;simp
abbrev eG:=U×U×U
abbrev si:=U×U×U×U
section
variable(XN:Z->YZ)(a b:J Z)
def hX(c d:U)(m:eG):J si:=if c<m.1/\d<m.2.1 then[(c,m.1,d,m.2.1)]else[]
def jy(c d:U)(m:eG):J si:=if m.1+m.2.2<c/\m.2.1+m.2.2<d then[(m.1+m.2.2,c,m.2.1+m.2.2,d)]else[]
def Fw(f:U)(w:si):J eG:=Og (motive:=λO=>si->J eG) (λO=>[]) (λO k w=>if(eX XN a b w.1 w.2.1 w.2.2.1 w.2.2.2).2.2=0 then[]else(hX w.1 w.2.2.1 (eX XN a b w.1 w.2.1 w.2.2.1 w.2.2.2)).flatMap k++eX XN a b w.1 w.2.1 w.2.2.1 w.2.2.2::(jy w.2.1 w.2.2.2 (eX XN a b w.1 w.2.1 w.2.2.1 w.2.2.2)).flatMap k) f w
def j8(w:si):J eG:=Fw XN a b (w.2.1-w.1) w
structure gv(w:si):Prop where
 x:w.1<=w.2.1
 y:w.2.1<=ZC
 z:w.2.2.1<=w.2.2.2
 u:w.2.2.2<=Zw
end
theorem gv.subs(h:gv t e (a,c,b,d))(n:(eX C t e a c b d).2.2≠0):∀w∈hX a b Zce++jy c d Zce,gv t e w/\w.2.1-w.1<c-a:=by
  obtain⟨o,g,p,l⟩:=h;dsimp only at o g p l;have F:=(iI (C:=C) (e:=e) o g p).fits;generalize eX C t e a c b d=m at*;induction m using EH with|mk i j k=>?_;obtain⟨r,f,s,q,A⟩:=F;dsimp only at*;intro w hw;unfold hX jy at hw;rw[TV]at hw;rcases hw with hw|hw
  . split at hw;.rw[Wt]at hw;subst hw;exact⟨⟨by dsimp only;(exact aV 0x7f220f7441e841 [_,_,_,_] ‹_›),by dsimp only;(exact bx 0x1ffe481c90791c041 [_,_,_,_] f g),by dsimp only;(exact O9 s),by dsimp only;(exact bx 0x1ffe481c90791c041 [_,_,_,_] q l)⟩,by dsimp only;(exact fX 0x3fffea241c481e6da2ee8c5d04991c041 [_,_,_,_,_,_] f ‹_› n)⟩
    .exact nomatch hw
  . split at hw;.rw[Wt]at hw;subst hw;exact⟨⟨by dsimp only;(exact O9 f),by dsimp only;(exact O9 g),by dsimp only;(exact O9 q),by dsimp only;(exact O9 l)⟩,by dsimp only;(exact fX 0xffffa8907180823e6da2c84991c041 [_,_,_,_] f r n)⟩
    .exact nomatch hw
theorem hJ{α β:Type}{f g:α->J β}:∀{l:J α},(∀x∈l,f x=g x)->l.flatMap f=l.flatMap g:=by
 intro I;induction I with
 |Yl=>
  intro _;exact rfl|Zp x l a=>
  intro h;rw[Zz,Zz,h x Y4,a λy hy=>h y (ZX _ hy)]
theorem sx(h:gv t e (a,c,b,f))(he:c<=a):(eX C t e a c b f).2.2=0:=by
 have F:=(iI (C:=C) (e:=e) h.x h.y h.z).fits;have d:=F.i0;have h1:=F.i1;dsimp only at d h1;exact fX 0x1ffff6d16424c90791c041 [_,_,_,_] h1 he d
theorem jr:∀(f g:U)(w:si),gv t e w->w.2.1-w.1<=f->w.2.1-w.1<=g->Fw C t e f w=Fw C t e g w:=by
  intro f;induction f with
  |VZ=>
    intro g w h c hg;induction w using Im with|mk a i b j=>?_;cases g with|VZ=>rfl|VC g=>
    show[]=(if _ then _ else _);rw[ZT (sx h (by dsimp only at c;exact aV 0x1fc88396c441 [_,_] c))]
  |VC f I=>
    intro g w h c hg;induction w using Im with|mk a i b j=>?_;cases g with
    |VZ=>
    show(if _ then _ else _)=[];rw[ZT (sx h (by dsimp only at hg;exact aV 0x1fc88396c441 [_,_] hg))];|VC g=>
    show(if _ then _ else _)=(if _ then _ else _);dsimp only at c hg;by_cases d:(eX C t e a i b j).2.2=0;.rw[ZT d,ZT d]
    . rw[ZY d,ZY d];have hs:=h.subs d;congr 1
      .exact hJ λw hw=>by
          obtain⟨h1,h2⟩:=hs w (Y2 _ hw);exact I g w h1 (Jv h2 c) (Jv h2 hg)
      .congr 1;exact hJ λw hw=>by
          obtain⟨h1,h2⟩:=hs w (Y1 _ hw);exact I g w h1 (Jv h2 c) (Jv h2 hg)
theorem nE(h:gv t e (a,c,b,d))(f:(eX C t e a c b d).2.2=0):j8 C t e (a,c,b,d)=[]:=by
 unfold j8;rw[jr _ (c-a+1) _ h (ZV _) (Nat.le_succ _)];show(if _ then _ else _)=[];rw[ZT f]
theorem m5(h:gv t e (a,c,b,d))(f:(eX C t e a c b d).2.2≠0):j8 C t e (a,c,b,d)=(hX a b Zce).flatMap (j8 C t e)++eX C t e a c b d::(jy c d Zce).flatMap (j8 C t e):=by
  have hs:=h.subs f;conv=>lhs;unfold j8
  rw[jr _ (c-a+1) _ h (ZV _) (Nat.le_succ _)];show(if _ then _ else _)=_;rw[ZY f];congr 1
  .exact hJ λw hw=>by
      obtain⟨h1,h2⟩:=hs w (Y2 _ hw);exact jr _ _ w h1 (aV 0x7f220e841 [_,_] h2) (ZV _)
  .congr 1;exact hJ λw hw=>by
      obtain⟨h1,h2⟩:=hs w (Y1 _ hw);exact jr _ _ w h1 (aV 0x7f220e841 [_,_] h2) (ZV _)
structure HK(XN:Z->YZ)(c d:J Z)(a e b f:U):Prop where
 fst:a<e->b<f->c[a]?≠d[b]?
 M7:∀p q x,a<=p->p<e->b<=q->q<f->c[p]?=Zak->d[q]?=Zak->XN x=true
def Ch(XN:Z->YZ)(c d:J Z)(e f a b:U)(l:J eG):Prop:=VF (λm k a b=>a<=m.1/\b<=m.2.1/\0<m.2.2/\(∀t,t<m.2.2->c[m.1+t]?=d[m.2.1+t]?)/\((∃t x,t<m.2.2/\c[m.1+t]?=Zak/\XN x=false)\/m.1=0/\m.2.1=0)/\HK XN c d a m.1 b m.2.1/\k (m.1+m.2.2) (m.2.1+m.2.2)) (λa b=>a<=e/\b<=f/\HK XN c d a e b f) a b
theorem Ch.join(f:0<c.2.2)(h1:∀d,d<c.2.2->t[c.1+d]?=e[c.2.1+d]?)(h2:(∃d x,d<c.2.2/\t[c.1+d]?=Zak/\C x=false)\/c.1=0/\c.2.1=0)(g:Ch C t e k n (c.1+c.2.2) (c.2.1+c.2.2) r):∀(l:J eG)(a b:U),Ch C t e c.1 c.2.1 a b l->Ch C t e k n a b (l++c::r):=λl=>by induction l with|Yl=>exactλa b h=>(andI7 h.1 h.2.1 f h1 h2 h.2.2 g)|Zp x l i=>exactλa b h=>(andI6 h.1 h.2.1 h.2.2.1 h.2.2.2.1 h.2.2.2.2.1 ⟨h.2.2.2.2.2.1,i _ _ h.2.2.2.2.2.2⟩)
def LD(a b:J Z)(m:eG):Prop:=0<m.1/\0<m.2.1/\a[m.1-1]?≠b[m.2.1-1]?
def RD(a b:J Z)(m:eG):Prop:=a[m.1+m.2.2]?≠b[m.2.1+m.2.2]?
def lD(a b:J Z)(l:J eG):Prop:=tf (motive:=λO=>Prop) m3 (λx r k=>m_ (motive:=λO=>Prop) r m3 λy O=>(RD a b x\/LD a b y)/\k) l
theorem lD.join(h1:r≠[]->RD t e a)(b:lD t e r):∀(l:J eG),(l≠[]->LD t e a)->lD t e l->lD t e (l++a::r):=by
 intro c;induction c with
 |Yl=>
  intro h2 h;cases r with|Yl=>trivial|Zp y r=>exact⟨.inl (h1 (Y8 _ _)),b⟩
 |Zp x d I=>cases d with
  |Yl=>
   intro h2 h;exact⟨.inr (h2 (Y8 _ _)),I (λf=>Za rfl f) trivial⟩|Zp y l=>
   intro h2 h;exact⟨h.1,I (λO=>h2 (Y8 _ _)) h.2⟩
structure pW(XN:Z->YZ)(a b:J Z)(w:si)(l:J eG):Prop where
 ch:Ch XN a b w.2.1 w.2.2.2 w.1 w.2.2.1 l
 sep:lD a b l
theorem HK.of_empty(h:a<=c\/b<=d):HK C t e c a d b:=⟨λO O=>by exact(fX 0x1fffd3a193d920f2116841 [_,_,_,_] ‹_› h ‹_›).elim,λp q x O O O O=>by exact(LH 0x1ffffff4e886c98b908fd92932316841 [_,_,_,_,_,_] ‹_› h ‹_› ‹_› ‹_›).elim⟩
theorem vo:∀(n:U)(w:si),gv t e w->w.2.1-w.1<n->((w.1=0/\w.2.2.1=0)\/(w.1<w.2.1->w.2.2.1<w.2.2.2->t[w.1]?≠e[w.2.2.1]?))->pW C t e w (j8 C t e w):=by
  intro n;induction n with|VZ=>exactλw O hn=>Za hn (SK _)|VC n B=>
    intro w h hn r;induction w using Im with|mk a f b g=>?_;dsimp only at hn r;have F:=iI (C:=C) (e:=e) (j:=a) (a:=f) (p:=b) (I:=g) h.x h.y h.z;by_cases o:(eX C t e a f b g).2.2=0
    . rw[nE h o];refine⟨⟨h.x,h.z,?_⟩,trivial⟩;have R:=F.right;have D:=F.GI;rw[o]at R D;rcases D with⟨s,A,ht,_⟩|⟨u1,u2,u3⟩;.exact(Js ht).elim
      .rw[u1,u2]at R;exact⟨λM q=>by simpa using R M q,u3⟩
    . rw[m5 h o];have hs:=h.subs o;have d:=F.fits;have hr:=F.right;generalize eX C t e a f b g=m at*;induction m using EH with|mk i c k=>?_;dsimp only at*;have hd:((∃s A,s<k/\t[i+s]?=some A/\C A=false)\/i=0/\c=0):=by
        walk_at"n";clear h hn hs;rcases(F.GI)with u|⟨rfl,rfl,u⟩;.exact .inl u
        . rcases r with l|l;.exact .inr l
          .exact Za (d.eq 0 (GL o)) (l (by have:=d.i1;exact bx 0x3ffd0c3cdb4591c041 [_,_,_] this o) (by have:=d.j1;exact bx 0x3ffd0c3cdb4591c041 [_,_,_] this o))
      have E:pW C t e (a,i,b,c) ((hX a b (i,c,k)).flatMap (j8 C t e)):=by
        unfold hX;refine(Wh (a<i/\b<c)).elim (λq=>?_) λq=>?_;.have l:(if a<i/\b<c then[(a,i,b,c)]else[])=[(a,i,b,c)]:=ZT q;walk_at"H";walk_at"H";have hw:=hs (a,i,b,c) (Y2 _ (by unfold hX;dsimp only;rw[l];exact Xx rfl));rw[l,Zz,Zm];refine B _ hw.1 (by have:=hw.2;dsimp only at this⊢;exact bx 0x1ffe843d047a83841 [_,_,_] hn this) ?_;exact r.imp id λN O O=>N (by have:=d.i1;exact bx 0x1ffe864ee8c5d04991c041 [_,_,_,_,_,_] this q) (by have:=d.j1;exact bx 0x1ffe866ee826d14991c041 [_,_,_,_,_,_] this q)
        .dsimp only;rw[ZY q];walk_at"aH";exact⟨⟨d.i0,d.j0,.of_empty (by have:=d.i0;have:=d.j0;dsimp only at*;exact aV 0xffb2326422e77441e841 [_,_,_,_] q)⟩,trivial⟩
      have G:pW C t e (i+k,f,c+k,g) ((jy f g (i,c,k)).flatMap (j8 C t e)):=by
        unfold jy;refine(Wh (i+k<f/\c+k<g)).elim (λq=>?_) λq=>?_;.have l:(if i+k<f/\c+k<g then[(i+k,f,c+k,g)]else[])=[(i+k,f,c+k,g)]:=ZT q;walk_at"H";have hw:=hs (i+k,f,c+k,g) (Y1 _ (by unfold jy;dsimp only;rw[l];exact Xx rfl));rw[l,Zz,Zm];exact B _ hw.1 (by have:=hw.2;dsimp only at this⊢;exact bx 0x1ffe843d047a83841 [_,_,_] hn this) (.inr λO O=>hr q.1 q.2)
        .dsimp only;rw[ZY q];exact⟨⟨d.i1,d.j1,.of_empty (by dsimp only;exact aV 0xffb2326422e77441e841 [_,_,_,_] q)⟩,trivial⟩
      refine⟨Ch.join (oC o) d.eq hd G.ch _ _ _ E.ch,lD.join (λne=>?_) G.sep _ (λne=>?_) E.sep⟩
      . refine(Wh (i+k<f/\c+k<g)).elim (λq=>?_) λq=>?_;.exact hr q.1 q.2
        .exact Za (by unfold jy;dsimp only;rw[ZY q];rfl) ne
      . refine(Wh (a<i/\b<c)).elim (λq=>?_) λq=>?_;.exact⟨by dsimp only;(exact aV 0x7f426f7441e841 [_,_,_,_] q),by dsimp only;(exact aV 0x7f446f7441e841 [_,_,_,_] q),(F.left) q.1 q.2⟩
        .exact Za (by unfold hX;dsimp only;rw[ZY q];rfl) ne
section
variable{XN:Z->YZ}{a b:J Z}
def wt(w:si):U:=2*(w.2.1-w.1)+1
def oF(q:J si):U:=(q.map wt).sum
theorem ig(p q:J si):oF (p++q)=oF p+oF q:=by simp[oF]
theorem xe(q:J si):q.length<=oF q:=by induction q with
 |Yl=>exact ZV _|Zp w q i=>
  show q.length+1<=oF ([w]++q);rw[ig];have:oF [w]=wt w:=by rw[oF];rfl
  have:0<wt w:=j3 _;exact fX 0x7fffcc0828387920f611682d [_,_,_,_] this ‹_› i
theorem CP(h:gv a b (c,d,l,n))(g:(eX XN a b c d l n).2.2≠0):oF (hX c l (eX XN a b c d l n)++jy d n (eX XN a b c d l n))<wt (c,d,l,n):=by
 have F:=(iI (C:=XN) (e:=b) h.x h.y h.z).fits;generalize eX XN a b c d l n=m at*;induction m using EH with|mk i j k=>?_;obtain⟨f,o,p,q,r⟩:=F;dsimp only at*;unfold hX jy;split<;>split<;>simp[oF,wt]<;>(first|exact rU 0x1ffff5074a261c20e9460208e0e944c1e6da2ee907d04ddd149a1c041 [2,2,2] [_,_,_,_,_,_,_,_] [] ‹_› ‹_› g|exact fX 0x3fffea241c481e6da2ee8c5d04991c041 [_,_,_,_,_,_] o ‹_› g|exact fX 0xffffa8987180823e6da2c84ddd149a1c041 [_,_,_,_,_,_] ‹_› f g)
structure tP(XN:Z->YZ)(a b:J Z)(w:si)(done:J eG)(q:J si):Prop where
 perm:(done++q.flatMap Zcx).Perm (j8 XN a b w)
 HF:∀c∈q,gv a b c
 wt:oF q<=2*ZC+1
theorem tP.start(h:gv a b c):tP XN a b c [] [c]:=⟨by simp,λw hw=>by rw[Wt]at hw;rw[hw];exact h,by
 have:=h.x;have:=h.y;simp[oF,Mine.wt];(exact a9 0x7f3214a230e441 [2,2] [_,_,_] [] this)⟩
theorem tP.none{done:J eG}(h:tP XN a b d done (q++[c]))(e:(eX XN a b c.1 c.2.1 c.2.2.1 c.2.2.2).2.2=0):tP XN a b d done q:=by
  refine⟨?_,λf hv=>h.HF f (by simp[hv]),?_⟩;.have:=h.perm;simpa[YT,(nE (h.HF c (by simp)) e)]using this
  .have:=h.wt;rw[ig]at this;exact aV 0x1fc8c391c041 [_,_,_] this
theorem tP.step{done:J eG}(h:tP XN a b k done (q++[c]))(d:(eX XN a b c.1 c.2.1 c.2.2.1 c.2.2.2).2.2≠0):tP XN a b k (done++[eX XN a b c.1 c.2.1 c.2.2.1 c.2.2.2]) (q++(hX c.1 c.2.2.1 (eX XN a b c.1 c.2.1 c.2.2.1 c.2.2.2)++jy c.2.1 c.2.2.2 (eX XN a b c.1 c.2.1 c.2.2.1 c.2.2.2)))/\oF (q++(hX c.1 c.2.2.1 (eX XN a b c.1 c.2.1 c.2.2.1 c.2.2.2)++jy c.2.1 c.2.2.2 (eX XN a b c.1 c.2.1 c.2.2.1 c.2.2.2)))<oF (q++[c]):=by
  have hw:=h.HF c (by simp);have hl:oF [c]=Mine.wt c:=by rw[oF];rfl
  have g:=h.wt;rw[ig,hl]at g;have f:oF (q++(hX c.1 c.2.2.1 (eX XN a b c.1 c.2.1 c.2.2.1 c.2.2.2)++jy c.2.1 c.2.2.2 (eX XN a b c.1 c.2.1 c.2.2.1 c.2.2.2)))<oF (q++[c]):=by rw[ig q,ig q,hl];exact Nat.add_lt_add_left (CP (d:=c.2.1) (l:=c.2.2.1) (n:=c.2.2.2) hw d) _
  refine⟨⟨?_,λi hv=>?_,?_⟩,f⟩
  . refine .trans ?_ (h.perm);have e:(q++[c]).flatMap Zcx=q.flatMap Zcx++j8 XN a b c:=by rw[YT,Zz,Xj,Zm]
    rw[e,(m5 (c:=c.2.1) (b:=c.2.2.1) (d:=c.2.2.2) hw d)];generalize eX XN a b c.1 c.2.1 c.2.2.1 c.2.2.2=m;rw[YT,YT];generalize(hX c.1 c.2.2.1 m).flatMap Zcx=j;generalize(jy c.2.1 c.2.2.2 m).flatMap Zcx=R;generalize q.flatMap Zcx=Q;rw[ZQ];refine List.Perm.append_left _ ?_;show(m::(Q++(j++R))).Perm (Q++(j++m::R));rw[<-ZQ,<-ZQ];exact List.perm_middle.symm
  . rw[TV]at hv;rcases hv with hv|hv;.exact h.HF i (by simp[hv])
    .exact((gv.subs hw d) i hv).1
  .rw[ig q [c],hl]at f;exact K9 f g
variable{PE:J eG}
theorem tP.done(h:tP XN a b c PE []):PE.Perm (j8 XN a b c):=by simpa using h.perm
theorem tP.len(h:tP XN a b c PE q):PE.length<=(j8 XN a b c).length:=by rw[<-h.perm.length_eq,Z1];exact O1
theorem tP.He(h:tP XN a b c PE q):q.length<=2*ZC+1:=YX (xe q) h.wt
theorem Ch.sorted:∀(l:J eG)(c d:U),Ch XN a b n q c d l->(∀m∈l,c<=m.1)/\Tb λx y=>x.1<y.1:=by
 intro l;induction l with
 |Yl=>exactλ_ _ _=>⟨λm h=>(by cases h),.nil⟩|Zp x l I=>
  intro c d h;obtain⟨h1,h2,e,g,j,k,f⟩:=h;obtain⟨i1,i⟩:=I _ _ f;refine⟨λm hm=>?_,.cons (λy hy=>by have:=i1 y hy;exact bx 0x1ffe862c8e011682d [_,_,_] e this) i⟩;clear h2 e g j k f;refine(ZI hm).elim (λYA=>?_) λhm=>?_;.rw[YA];exact h1
  .have:=i1 m hm;exact K7 this h1
theorem q0:∀(l:J eG)(c d:U),Ch XN a b f i c d l->c<=f/\d<=i/\∀m∈l,0<m.2.2/\(∀t,t<m.2.2->a[m.1+t]?=b[m.2.1+t]?)/\m.1+m.2.2<=f/\m.2.1+m.2.2<=i:=by
 intro l;induction l with
 |Yl=>exactλ_ _ h=>⟨h.1,h.2.1,λm h=>by exact nomatch h⟩|Zp x l I=>
  intro c d h;walk_at"l";obtain⟨h1,h2,j,k,n,o,g⟩:=h;obtain⟨e1,e2,e⟩:=I _ _ g;refine⟨by exact K7 e1 h1,by exact K7 e2 h2,λm hm=>?_⟩;walk_at"y";clear h1 h2 n o g;rcases ZI hm with rfl|hm;.exact(andI4 j k e1 e2)
  .exact e m hm
theorem lD.at_:∀(l:J eG)(t:U)(x y:eG),lD a b l->l[t]?=Zak->l[t+1]?=some y->RD a b x\/LD a b y:=by
 intro l;induction l with
 |Yl=>exactλt x y _ h _=>by cases h|Zp u l I=>cases l with
  |Yl=>exactλt x y _ _ h=>by cases h|Zp c l=>
   intro t x y h e1 e2;cases t with|VZ=>obtain rfl:=ZW e1;rw[<-(ZW e2)];exact h.1|VC t=>exact I t x y h.2 e1 e2
theorem pW.apart(h:pW XN a b k l)(e1:l[f]?=Zak)(e2:l[f+1]?=Zan):¬(x.1+x.2.2=c.1/\x.2.1+x.2.2=c.2.1):=by
  intro g;obtain⟨h1,h2⟩:=g;have e:=(q0 l _ _ h.ch).2.2;obtain⟨d,i,-,-⟩:=e x (YO e1);obtain⟨y,j,-,-⟩:=e c (YO e2);rcases lD.at_ l f x c h.sep e1 e2 with r|⟨-,-,r⟩;.apply r;rw[h1,h2];exact j 0 y
  .apply r;have:=i (x.2.2-1) (Ic d);rwa[show x.1+(x.2.2-1)=c.1-1 by exact bx 0x7ffb8b8708b822d8e011682d [_,_,_] d h1,show x.2.1+(x.2.2-1)=c.2.1-1 by(exact bx 0x7ffb8b8708b822d8e011682d [_,_,_] d h2)]at this
theorem zk{α:Type}{f:α->Zv}:∀{c l:J α},c.Perm l->c.Pairwise (λx y=>f x<f y)->Tb (λx y=>f x<f y)->c=l:=by
  intro I;induction I with
  |Yl=>
    intro l p _ _;exact p.nil_eq|Zp x c d=>
    intro g;cases g with
    |Yl=>
      intro p _ _;exact Za p.length_eq (by simp)|Zp y l=>
      intro p h1 h2;rw[List.pairwise_cons]at h1 h2;have hx:=p.subset Y4;have hy:=p.symm.subset Y4;have e:x=y:=by
        rcases ZI hx with e|hx;.exact e
        . refine(ZI hy).elim (λe=>?_) λhy=>?_;.exact h4
          .have:=h1.1 y hy;have:=h2.1 x hx;exact(cD 0x1ffa74a5e96a [] [] [_,_] ‹_› this).elim
      subst e;rw[d (List.Perm.cons_inv p) h1.2 h2.2]
end
theorem eK:∀x∈(["isjunk","a","b","autojunk","matching_blocks","opcodes","fullbcount","b2j","bjunk","bpopular"]:J Z),V6 Zai x=Yh none:=by
 repeat(refine cq (by rw[W5,X'];kernel_rfl) ?_)
 exact jP
structure wq(X:Cx)(C:Y9)(G:GH)(x f d j:Y9)(a b:J Z)(XN:Z->YZ)(al:YV):Prop where
 inst:Tw G x C f al
 la:PO ("a")=some ZaE
 lb:PO ("b")=some Zbb
 ld:PO ("b2j")=some ZaG
 lj:PO ("bjunk")=some (.ref j)
 tab:∃c,G d=some (sD X c)/\∀k,(∃e,WJ c k=some (.ref e)/\G e=some (.list ((jC XN b k).map λg:U=>Uz g)))\/(WJ c k=none/\jC XN b k=[])
 Cr:G j=some (sS X [])
theorem wq.ext(h:wq c f l x d n r a b XN al)(e:Wy l i):wq c f i x d n r a b XN al:=⟨⟨e _ _ h.inst.ob,e _ _ h.inst.dc⟩,h.la,h.lb,h.ld,h.lj,let⟨k,g,q⟩:=h.tab;⟨k,e _ _ g,λj=>(q j).imp (λ⟨m,e1,e2⟩=>⟨m,e1,e _ _ e2⟩) id⟩,e _ _ h.Cr⟩
theorem de(h:a[j]?=Zak)(b:ZC<=ZK):bS c ZaE Zb9=some (.str x):=gY (by simp[ah,h]) (by simpa[ah]using b)
theorem zy(a:hU X b)(hn:D∈(["isjunk","a","b","autojunk","matching_blocks","opcodes","fullbcount","b2j","bjunk","bpopular"]:J Z))(hs:Yb ("self")=some ZaK)(I:Tw E x a.C d al)(hl:PO D=ZaS)(hb:∀id,mv≠.raw ZaL)(k:g mv E)(he:Z3 (ZH (.Attribute (.Name "self" f) D Ym) A=(do
   let e<-ZH (.Name "self" f) A
   VT ar let r<-T8 [e] (et e D true)
   R9 (.Name "self" f) e r
   Yh r)) aW):EV X m A (ZH (.Attribute (.Name "self" f) D Ym) A) o E g:=EV.Hu a.c (a.no _ hn) (eK _ hn) (Z4 hs ⟨x,d,al,mv,rfl,I,hl,hb,k⟩) he
abbrev MS(x a c e f:MV)(g i:J Z)(d u:Y9)(b:jO)(j no:Y9):YV:=[("self",x),("alo",a),("ahi",c),("blo",e),("bhi",f),("a",.lst (ah g)),("b",.lst (ah i)),("b2j",ZaG),("isbjunk",Zbg),("besti",.int b.1),("bestj",.int b.2.1),("bestsize",.int b.2.2),("j2len",.ref j),("nothing",.ref no)]
abbrev sh(x:Y9)(a c b e:U)(f g:J Z)(d u:Y9)(i:jO)(j no:Y9):YV:=MS ZaK Zbu Zc6 ZcN (.int e) f g d u i j no
inductive KV(X:Cx)(XN:Z->YZ)(s c:J Z)(a b d:U)(G:GH)(no:Y9)(g:jO->Y9->YV)(t:U)(l:YV)(i:GH):Prop where|mk(j:Y9)(ex:Wy G i)(n:i no=some Zaq)(k:i j=some (iD X (zz XN s c a b d t).1))(f:G j=none)(ne:j≠no)(e:l=g (zz XN s c a b d t).2 j)
inductive LF(X:Cx)(j:J (Zv×Zv))(c d f:Zv)(a:J U)(R:J (Zv×Zv)×jO)(G:GH)(m:Y9)(o:jO->YV)(k:U)(l:YV)(i:GH):Prop where|mk(n:J (Zv×Zv))(b:jO)(e:rD j c d f ((IC k).map λq:U=>(q:Zv)) n b=R)(h:∀p∈n,∀z∈IC k,p.1<(z:Zv))(r:n.length<=k)(g:i=Y7 G m (iD X n))(el:l=o b)
inductive MQ{a:Type}(S:a->YV)(G:a->GH)(I:U->a->Prop)(n:U)(l:YV)(b:GH):Prop where|mk(m:U)(q:a)(lt:m<n)(i:I m q)(g:b=G q)(s:N' (S q) l)
abbrev LN{a:Type}(S:a->YV)(G:a->GH)(I:U->a->Prop)(n:U)(K:Gp->YV->GH->Prop):Gp->YV->GH->Prop:=λb o E=>match b with|.next|.cont=>MQ S G I n o E|.brk=>K .next o E|.ret c=>K (.ret c) o E
theorem EF.rM(S:d->YV)(G:d->GH)(I:U->d->Prop){q:d}(p:I n q)(Ux:∀n q,I n q->EB X m A (XE f_ A (ZH f_ A)) (S q) (G q) λb i=>TF (EF X m A (Yk W8 A) (S q) i (LN S G I n B)) (B .next (S q) i) b):EF X m A (TM (.While f_ W8 [] Ym) A) (S q) (G q) B:=EF.rg (λa l j=>∃q,I a q/\l=S q/\j=G q) n ⟨q,p,rfl,rfl⟩ (Tq _) λn l j⟨q,c,e,g⟩=>by
  rw[e];rw[g];exact(Ux n q c).mono λb i k=>⟨λe=>(k.t e).mono λo l j k=>match o,k with
   |.next,⟨a,q,lt,c,g,s⟩=>⟨a,_,lt,⟨q,c,rfl,g⟩,s⟩|.cont,⟨a,q,lt,c,g,s⟩=>⟨a,_,lt,⟨q,c,rfl,g⟩,s⟩|.brk,k=>k|.ret _,k=>k,k.f⟩
abbrev Md(D:hU X NC)(a:Y9):S2:=Xd (xV "SequenceMatcher.find_longest_match" (fz 5 6) D.eX.pm D.eX.cd D.eX.doc (.ref D.dF) .none) a D.eX.f
abbrev MG(k:U):J Wa:=(bH (fz 5 6)).drop k
structure IQ(X:Cx)(G:GH)(u c:Y9)(s d:J Z)(e f:U):Prop where
 u:G u=some (.own (.=cW "set.__contains__" c))
 j:G c=some (sS X [])
 z1:ZR<=ZK
 z2:Yc<=ZK
 a:e<=ZR
 b:f<=Yc
abbrev oW(A:X5)(D:hU X NC)(a:Y9)(S:jO->YV)(G:GH)(K:Gp->YV->GH->Prop)(k i j m:U):Prop:=EF X A (Md D a) (Yk (MG k) (Md D a)) (S ((i:Zv),(j:Zv),(m:Zv))) G K
theorem o5(h:a=c):some (Uz a)=some Zc6:=Zq (λz=>some (Uz z)) h
variable{Pl:hU X NC}{N4 NT:U}
theorem Ib(rm:Rm X m j)(C:Zb0)(n:oW m Pl z (λc=>sh Nh p I N4 NT t e Q Nt c NL N6) E B 12 i a k):oW m Pl z (λc=>sh Nh p I N4 NT t e Q Nt c NL N6) E B 11 i a k:=by
 refine ZJ (EF.rM (λO=>sh Nh p I N4 NT t e Q Nt (i,a,k) NL N6) (λO=>E) (λO O=>m3) (n:=0) (q:=()) trivial λO O O=>?_);walk_at"D";refine VS (XC rm (YU (Z4 rfl (Z4 rfl ⟨_,rfl,Z4 rfl ⟨decide ((i:Zv)+k<I),rfl,⟨λc1=>VS (XC rm (YU (Z4 rfl (Z4 rfl ⟨_,rfl,Z4 rfl ⟨decide ((a:Zv)+k<NT),rfl,⟨λc2=>?_,λO=>⟨λh=>(nomatch h),λO=>n⟩⟩⟩⟩)))),λO=>⟨λh=>(nomatch h),λO=>n⟩⟩⟩⟩))));obtain⟨y,hy⟩:∃y,e[a+k]?=some y:=⟨_,Z6 (Xu (LG (Zi c2)) C.b)⟩;exact VS (Tn (EV.kx rfl (Ys (Z4 rfl (YU (Z4 rfl (Z4 rfl ⟨.int ((a+k:U)),o5 Dt,_,de hy C.z2,y,[],rfl,C.u,C.j,⟨false,rfl,λh=>(nomatch h),λO=>⟨λh=>(nomatch h),λO=>n⟩⟩⟩)))))))
theorem H5(rm:Rm X m j)(C:Zb0)(hj:a+k<=NT)(n:oW m Pl z (λd=>sh Nh p I N4 NT t e Q Nt d NL N6) E B 11 i a k):oW m Pl z (λd=>sh Nh p I N4 NT t e Q Nt d NL N6) E B 10 i a k:=by
 refine ZJ (EF.rM (λO=>sh Nh p I N4 NT t e Q Nt (i,a,k) NL N6) (λO=>E) (λO O=>m3) (n:=0) (q:=()) trivial λO O O=>?_);walk_at"D";refine VS (XC rm (Z4 rfl (Z4 rfl ⟨decide ((p:Zv)<i),rfl,⟨λc1=>VS (XC rm (Z4 rfl (Z4 rfl ⟨decide ((N4:Zv)<a),rfl,⟨λc2=>?_,λO=>⟨λh=>(nomatch h),λO=>n⟩⟩⟩))),λO=>⟨λh=>(nomatch h),λO=>n⟩⟩⟩)));have c:=Hp (Zi c2);obtain⟨y,hy⟩:∃y,e[a-1]?=some y:=⟨_,Z6 (Lf hj C.b c)⟩;exact VS (Tn (EV.kx rfl (Ys (Z4 rfl (YU (Z4 rfl (X2 ⟨.int ((a-1:U)),o5 (Kz c),_,de hy C.z2,y,[],rfl,C.u,C.j,⟨false,rfl,λh=>(nomatch h),λO=>⟨λh=>(nomatch h),λO=>n⟩⟩⟩)))))))
structure LJ(s c:J Z)(d a f b i j g m k:U):Prop where
 e:m=a-i-k
 h:Fits s c d a f b i j k
 x:jB s c a b i j m k=g
theorem B5(rm:Rm X m j)(C:Zb0)(S:Fits t e p I N4 NT i d k)(n:oW m Pl z (λl=>sh Nh p I N4 NT t e Q Nt l NL N6) E B 10 i d (jB t e I NT i d (I-i-k) k)):oW m Pl z (λl=>sh Nh p I N4 NT t e Q Nt l NL N6) E B 9 i d k:=by
  generalize T:jB t e I NT i d (I-i-k) k=V at n;refine ZJ (EF.rM (λk:U=>sh Nh p I N4 NT t e Q Nt (i,d,k) NL N6) (λO=>E) (LJ t e p I N4 NT i d V) ⟨rfl,S,T⟩ λD k g=>?_);walk_at"D";have stop:¬(i+k<I/\d+k<NT/\t[i+k]?=e[d+k]?)->oW m Pl z (λl=>sh Nh p I N4 NT t e Q Nt l NL N6) E B 10 i d k:=λPM=>(zw PM).symm.trans g.x▸n;refine VS (XC rm (YU (Z4 rfl (Z4 rfl ⟨_,rfl,Z4 rfl ⟨decide ((i:Zv)+k<I),rfl,⟨λc1=>VS (XC rm (YU (Z4 rfl (Z4 rfl ⟨_,rfl,Z4 rfl ⟨decide ((d:Zv)+k<NT),rfl,⟨λc2=>?_,λc2=>⟨λh=>(nomatch h),λO=>stop λq=>VN c2 (Vc q.2.1)⟩⟩⟩⟩)))),λc1=>⟨λh=>(nomatch h),λO=>stop λq=>VN c1 (Vc q.1)⟩⟩⟩⟩))));have c:=LG (Zi c1);have s:=LG (Zi c2);obtain⟨PN,w⟩:∃y,t[i+k]?=some y:=⟨_,Z6 (Xu c C.a)⟩;obtain⟨F,o⟩:∃y,e[d+k]?=some y:=⟨_,Z6 (Xu s C.b)⟩;refine VS (EB.rC (Tn (EV.kx rfl (Ys (Z4 rfl (YU (Z4 rfl (Z4 rfl ⟨.int ((d+k:U)),o5 Dt,_,de o C.z2,F,[],rfl,C.u,C.j,⟨false,rfl,λO=>?_,λh=>(nomatch h)⟩⟩))))))));refine VS (XC rm (Ys (Z4 rfl (YU (Z4 rfl (Z4 rfl ⟨.int ((i+k:U)),o5 Dt,_,de w C.z1,Ys (Z4 rfl (YU (Z4 rfl (Z4 rfl ⟨.int ((d+k:U)),o5 Dt,_,de o C.z2,PN==F,rfl,⟨λr=>u_ ⟨λO=>?_,λh=>(nomatch h)⟩,λr=>⟨λh=>(nomatch h),λO=>stop λq=>?_⟩⟩⟩))))⟩))))))
  . have G:t[i+k]?=e[d+k]?:=by rw[w,o,eq_of_beq r]
    walk_at"I";obtain⟨f,A⟩:∃f,D=f+1:=⟨D-1,bx 0x1ffee0e8b884dc45108c9a1c041 [_,_,_,_] c g.e⟩;refine ZJ (EF.aug rfl (X2 ⟨.int (k+1),rfl,YW ⟨f,k+1,A▸Wp _,⟨Kt (A▸g.e),⟨g.h.i0,G8 c,g.h.j0,G8 s,λM ht=>?_⟩,?_⟩,rfl,?_⟩⟩) (.inl rfl))
    . by_cases N:M=k;.rw[N];exact G
      .exact g.h.eq M (HQ ht N)
    .rw[<-C4 ⟨c,s,G⟩,<-A];exact g.x
    .exact av Z_
  .rw[w,o]at q;rw[ZW q.2.2,Vb]at r;exact Va r
structure KU(s c:J Z)(a d b f:U)(r:U×U×U)(m:U)(q:U×U×U):Prop where
 e:q.1=m
 h:Fits s c a d b f q.1 q.2.1 q.2.2
 x:ro s c a b q.1 q.2.1 q.2.2=r
theorem C5(rm:Rm X m j)(hh:XZ=none)(C:Zb0)(f:Fits t e p I N4 NT i d k)(he:ro t e p N4 i d k=(F,M,S))(n:oW m Pl z (λg=>sh Nh p I N4 NT t e Q Nt g NL N6) E B 9 F M S):oW m Pl z (λg=>sh Nh p I N4 NT t e Q Nt g NL N6) E B 8 i d k:=by
  refine ZJ (EF.rM (λq:U×U×U=>sh Nh p I N4 NT t e Q Nt (q.1,q.2.1,q.2.2) NL N6) (λO=>E) (KU t e p I N4 NT (F,M,S)) (q:=(i,d,k)) ⟨rfl,f,he⟩ λPN q o=>?_);walk_at"D";induction q using EH with|mk i d k=>?_;have f:=o.h;have stop:¬(p<i/\N4<d/\t[i-1]?=e[d-1]?)->oW m Pl z (λg=>sh Nh p I N4 NT t e Q Nt g NL N6) E B 9 i d k:=λV=>by
    walk_at"aI";have q:=(zX V).symm.trans o.x;rw[show i=F from(ry q).1,show d=M from(ry (ry q).2).1,show k=S from(ry (ry q).2).2]at⊢;exact n
  refine VS (XC rm (Z4 rfl (Z4 rfl ⟨decide ((p:Zv)<i),rfl,⟨λc1=>VS (XC rm (Z4 rfl (Z4 rfl ⟨decide ((N4:Zv)<d),rfl,⟨λc2=>?_,λc2=>⟨λh=>(nomatch h),λO=>stop λq=>VN c2 (Vc q.2.1)⟩⟩⟩))),λc1=>⟨λh=>(nomatch h),λO=>stop λq=>VN c1 (Vc q.1)⟩⟩⟩)));have r:=Hp (Zi c1);have s:=Hp (Zi c2);obtain⟨PM,D⟩:∃y,t[i-1]?=some y:=⟨_,Z6 (Lf f.i1 C.a r)⟩;obtain⟨N,w⟩:∃y,e[d-1]?=some y:=⟨_,Z6 (Lf f.j1 C.b s)⟩;have c:=Kz r;have l:=Kz s;refine VS (EB.rC (Tn (EV.kx rfl (Ys (Z4 rfl (YU (Z4 rfl (X2 ⟨_,o5 l,_,de w C.z2,N,[],rfl,C.u,C.j,⟨false,rfl,λO=>?_,λh=>(nomatch h)⟩⟩))))))));refine VS (XC rm (Ys (Z4 rfl (YU (Z4 rfl (X2 ⟨_,o5 c,_,de D C.z1,Ys (Z4 rfl (YU (Z4 rfl (X2 ⟨_,o5 l,_,de w C.z2,PM==N,rfl,⟨λA=>u_ ⟨λO=>?_,λh=>(nomatch h)⟩,λA=>⟨λh=>(nomatch h),λO=>stop λq=>?_⟩⟩⟩))))⟩))))))
  . have T:t[i-1]?=e[d-1]?:=by rw[D,w,eq_of_beq A]
    walk_at"p";refine ZJ (ha hh (WD:=["besti","bestj","bestsize"]) (TL (Zu (YU (Z4 rfl (X2 ⟨_,o5 c,Zu (YU (Z4 rfl (X2 ⟨_,o5 l,Zu (YU (Z4 rfl (X2 ⟨.int ((k+1:U)),rfl,Y5 ⟨Ii,_,rfl,rfl,YW ⟨i-1,(i-1,d-1,k+1),o.e▸aV 0x7f4116e628ba61 [_,_] c,⟨rfl,⟨aV 0x1fcc5c20e841 [_,_] r,bx 0x1ffe49083862c92030ee628ba61 [_,_,_,_] c f.i1,aV 0x1fcc5c20e841 [_,_] s,bx 0x1ffe49083862c92030ee628ba61 [_,_,_,_] l f.j1,λG ht=>?_⟩,?_⟩,rfl,?_⟩⟩⟩)))⟩)))⟩))))) (qE Z_));.cases G with|VZ=>rw[vs,vs];exact T|VC G=>
        have:=f.eq G (Kw ht);rw[<-(Hb c),<-(Hb l)]at this;exact this
    .rw[<-Ee ⟨r,s,T⟩];exact o.x
    .exact av Z_
  .rw[D,w]at q;rw[ZW q.2.2,Vb]at A;exact Va A
theorem AB(D:hU X F)(P7:d8 X F)(gE:dY X)(hb:Q' F)(hr:F.mg "range"=none/\F.mb "range"=some ZaH)(rm:Rm X m (QM+3))(G:wq X tk E PM QN PN PY l s XN al)(h1:a<=M)(h2:M<=Xl)(QP:b<=d)(QQ:d<=ZR)(P8:Xl<=10000)(Qr:ZR<=10000)(PZ:g (P7.mv (eX XN l s a M b d).1 (eX XN l s a M b d).2.1 (eX XN l s a M b d).2.2) E):b8 X m (.ref D.eX.f) [.ref PM,Zbu,.int M,ZcN,.int d] E g:=by
  refine iL.call (D.eX.fn.E5 D.Hr F (M:=[.ref PM,Zbu,.int M,ZcN,.int d]) rm ["self","alo","ahi","blo","bhi"] (λpm cd Wv PN Rl Rn S P4 Ro=>?_) Z' ZbS λRq=>?_);.have QR:=P4.length;refine LU P4 λv1 v2 v3 v4 v5 c=>?_;clear QR;subst c;exact xO [v1,v2,v3,v4,v5] rfl P4
  intro Zn;walk_at"d";have r:=WH Zn;have hg:∀Qt,([]:J Z).contains Qt=true->YJ Qt=Zaa:=e7 rfl;refine EF.mono (EF.back ?_) (λP5 PR i N=>by cases P5<;>exact N);walk_at"p";refine ZJ (IL ?_);walk_at"aJ";refine ZJ (sp (TL (Zu (zy D Z' rfl G.inst G.la (by intro id h;cases h) ?_))));walk_at"B";refine Zu (zy D Z' rfl G.inst G.lb (by intro id h;cases h) ?_);refine Zu (zy D Z' rfl G.inst G.ld (by intro id h;cases h) ?_);refine Zu (EV.FO (zy D Z' rfl G.inst G.lj (by intro id h;cases h) ⟨PY,[],rfl,G.Cr,λu QS=>Y5 ⟨by simp[af],?_⟩⟩));refine bq.tup Xy (NB:=[("a",_),("b",_),("b2j",_),("isbjunk",_)]) (cq (.inl rfl) (cq (.inl rfl) (cq (.inl rfl) (cq (.inl rfl) jP)))) rfl ?_;walk_at"aK";refine ZJ (XF (SV F hb r hg (c:=false) ?_ ⟨(λh=>by cases h),λO=>YW ?_⟩));.kernel_rfl!
  refine ZJ (XF (SV F hb r hg (c:=false) ?_ ⟨(λh=>by cases h),λO=>YW ?_⟩));.kernel_rfl!
  have Qu:∀z∈(["besti","bestj","bestsize"]:J Z),aM Zn z:=qE Z_;refine ZJ (ha Xy (X0 F hb r hg (mv:=.tup [Zbu,ZcN,.int 0]) ?_ ⟨_,rfl,rfl,?_⟩) Qu);.kernel_rfl!
  walk_at"q";refine ZJ (Zk (EV.AJ (b:=λP5=>∃S,P5.IsDictOf (er Wj Sh) S/\dy [] S) B7 λo Qi=>?_) (.inl rfl));refine ZJ (Zk (VX (Y5 ⟨by decide,λno P0=>?_⟩)) (.inl rfl));have P9:Wy E (Y7 E u (.own (.=ZcH))):=(I4 E).upd QS;generalize QT:Y7 E u (.own (.=ZcH))=Qa at Qi P0 P9;have QU:Qa u=some (.own (.=ZcH)):=by rw[<-QT];exact aa ..
  have Qj:no≠o:=by intro y;subst y;rw[aa]at P0;cases P0
  walk_at"J";rw[ag Qj]at P0;let IO:U->YV->GH->Prop:=KV X XN l s a b d Qa no λx o=>sh PM a M b d l s PN u x o no;refine ZJ (EF.vw IO (gh.Cq Xy F hb rfl hr.1 hr.2 (Z4 rfl ⟨_,rfl,by exact rU 0x1ffff4facc7910f21165e1 [10000,1099511627776] [_,_,_] [] P8 h2 h1,Z4 rfl ⟨_,rfl,by exact cD 0x1ffe9f598b21165e1 [10000,1099511627776] [_,_] [] P8 h2,?_⟩⟩)));walk_at"W";refine⟨λq PR=>aJ "i" (.int ((a+q:U):Zv)) PR,sh PM a M b d l s PN u ((a:Zv),(b:Zv),0) o no,⟨o,((I4 Qa).upd Qi).upd P0,aa ..,cB (aa ..) ?_,Qi,Zg Qj,rfl⟩,?_,λq ht=>(by
    have c:((a:Zv)+q)=((a+q:U):Zv):=by exact Dt
    show TG X _ _ _ _ (Uz ((a:Zv)+q)) _;rw[c];exact UM (.inl rfl)),λq PR i ht PS=>?_,λPR i PS=>?_⟩;.rw[ag Qj];exact P0
  .exact av Z_
  . obtain⟨o,ex,Qv,Qb,Rt,Ru,rfl⟩:=PS;walk_at"I";have QV:a+q<Xl:=by exact bx 0x3ffd12011e482d52331cc41 [_,_,_,_] ht h2
    obtain⟨I,Qw⟩:∃I,l[a+q]?=some I:=⟨_,Z6 QV⟩;have P6:zz XN l s a b d (q+1)=rD (zz XN l s a b d q).1 b d ((a+q:U):Zv) ((jC XN s I).map λPT:U=>(PT:Zv)) [] (zz XN l s a b d q).2:=by
      show rD _ _ _ _ (uO XN l s (a+q)) _ _=_;unfold uO;rw[Qw];rfl
    generalize(zz XN l s a b d q).1=PW at Qb P6;generalize(zz XN l s a b d q).2=Qx at P6⊢;walk_at"p";refine ZJ (Zk (EV.F6 (Z4 rfl ⟨o,PW,rfl,Qb,λB hg'=>?_⟩)) (.inl rfl));refine ZJ (Zk (EV.AJ (b:=λP5=>∃S,P5.IsDictOf (er Wj Sh) S/\dy [] S) B7 λA Q=>?_) (.inl rfl));walk_at"J";have QW:o≠B:=by intro y;subst y;rw[Qb]at hg';cases hg'
    have QX:no≠B:=by intro y;subst y;rw[Qv]at hg';cases hg'
    have Su:Wy Qa (Y7 i B (.own (.=Zbn))):=ex.upd (k5 hg');have Qc:Y7 i B (.own (.=Zbn)) no=some Zaq:=by rw[ag QX];exact Qv
    have Qk:Y7 i B (.own (.=Zbn)) o=some (iD X PW):=by rw[ag QW];exact Qb
    have Ql:Y7 i B (.own (.=Zbn)) B=some (.own (.=Zbn)):=aa ..;generalize Y7 i B (.own (.=Zbn))=P2 at Q Su Qc Qk Ql;walk_at"X";have QY:o≠A:=by intro y;subst y;rw[Qk]at Q;cases Q
    have nn:no≠A:=by intro y;subst y;rw[Qc]at Q;cases Q
    have ng:B≠A:=by intro y;subst y;rw[Ql]at Q;cases Q
    have QZ:∀n,wq X tk (Y7 P2 A (iD X n)) PM QN PN PY l s XN al:=λn=>G.ext ((a4 Su).upd ((a4 Su).none Q));obtain⟨S,hd,Q2⟩:=(QZ []).tab;generalize Qy:rD PW (b:Zv) (d:Zv) ((a+q:U):Zv) ((jC XN s I).map λPT:U=>(PT:Zv)) [] Qx=Qz at P6;refine ZJ ?_;walk_at"d";generalize Q3:iU _ _ _ _ _=Q4;have QA:∀n x(Qm:YV),n.length<=ZR->(n,x)=Qz->N' (sh PM a M b d l s PN u x o no++([("newj2len",.ref A)]:YV)) Qm->Q4 .next Qm (Y7 P2 A (iD X n)):=by
      intro n x Qm T c Q5;subst Q3;show EF X _ _ _ _ _ _;refine EF.sub Q5 (ZJ (Zk (Z4 rfl (YW ⟨_,⟨A,ex1.upd (ex1.none Q),?_,?_,ex1.none Q,Zg nn,rfl⟩,?_⟩)) (.inl rfl)));.rw[ag nn];exact Qc
      .rw[P6,<-c];exact aa ..
      .rw[P6,<-c];exact av Z_
    refine(EF.H8 Xy (EV.IT gE (Z4 rfl ⟨PN,S,rfl,hd,Ys (Z4 rfl (Z4 rfl ⟨_,de Qw (by rw[af];(exact O3 P8)),I,rfl,Z4 rfl ⟨.ref no,rfl,hd,?_⟩⟩))⟩)));obtain⟨la,e1,e2⟩:∃la,(WJ S I).getD (.ref no)=.ref la/\Y7 P2 A (iD X []) la=some (.list ((jC XN s I).map λPT:U=>Uz PT)):=by
      walk_at"b";rcases Q2 I with⟨Q6,e1,e2⟩|⟨e1,e2⟩;.exact⟨Q6,by rw[e1];rfl,e2⟩
      .refine⟨no,by rw[e1];rfl,?_⟩;rw[e2,ag nn];exact Qc
    have QB:la≠A:=by intro y;subst y;rw[aa]at e2;cases e2
    rw[ag QB]at e2;have QC:=lY (C:=XN) (t:=s) I;have Qd:(jC XN s I).length<=ZR:=by
      unfold jC;refine bQ rfl (λO=>?_) λO=>?_;.simp
      .exact YX (VR ..) (by simp)
    generalize jC XN s I=V at e2 QC Qd Qy;rw[e1];let Q7:U->YV->GH->Prop:=LF X PW b d ((a+q:U):Zv) V Qz P2 A λx=>sh PM a M b d l s PN u x o no++([("i",.int ((a+q:U):Zv)),("j2lenget",.ref B),("newj2len",.ref A)]:YV);refine⟨Q7,la,(V.map λPT:U=>Uz PT),_,rfl,?_,⟨[],Qx,Qy,(λp hp=>by cases hp),ZV _,rfl,rfl⟩,?_,λN Q8 PR QD hm PS=>?_,λPR QD PS=>?_⟩;.intro N PR QD y;obtain⟨n,x,_,_,_,rfl,_⟩:=y;rw[ag QB];exact e2
    .exact av Z_
    . obtain⟨n,x,c,Qe,T,YA,YB⟩:=PS;rw[YA,YB];walk_at"A";obtain⟨j,QE,rfl⟩:∃j:U,V[N]?=ZbC/\Q8=Zb9:=by
        walk_at"b";rw[Zy]at hm;obtain⟨P4,hr,c⟩:=Y3 hm;exact⟨P4,hr,c.symm⟩
      have Qn:=(ZN QE).1;have Qo:V.drop N=j::V.drop (N+1):=by rw[XB Qn,(ZN QE).2]
      rw[Qo,Yd]at c;rw[xi]at c;rw[Qo]at Qe;have Q9:∀z∈V.drop (N+1),j<z:=by
        have:=QC.sublist (List.drop_sublist N V);rw[Qo]at this;exact(WG this).1
      refine Oe (.inl rfl) ?_;refine ZJ (XF (SV F hb r hg (c:=decide ((j:Zv)<b)) ?_ ⟨λh=>ZJ (EF.cont ?_),λh=>YW ?_⟩));.kernel_rfl!
      . have PX:(j:Zv)<b:=by exact Zi h
        rw[ZT PX]at c;refine⟨_,⟨n,x,c,λp hp z Qf=>Qe p hp z (ZX _ Qf),by exact aV 0x1fcc1c20e441 [_,_] T,rfl,rfl⟩,?_⟩;exact av Z_
      have Ra:¬(j:Zv)<b:=by simpa using h
      rw[ZY Ra]at c;refine ZJ (XF (SV F hb r hg (c:=decide ((d:Zv)<=j)) ?_ ⟨λh=>ZJ (EF.brk ?_),λh=>YW ?_⟩));.kernel_rfl!
      . have PX:(d:Zv)<=j:=by exact Zi h
        rw[ZT PX]at c;exact QA n x _ (fX 0x7fffc8c990932316841 [_,_,_,_] Qn Qd T) c Zb3
      have Rb:¬(d:Zv)<=j:=by simpa using h
      rw[ZY Rb]at c;have Rc:n.lookup (j:Zv)=none:=oe n j λp hp=>Qe p hp j Y4;have Rf:Y7 P2 A (iD X n) B=some (.own (.=Zbn)):=by rw[ag ng];exact Ql
      have Rg:Y7 P2 A (iD X n) o=some (iD X PW):=by rw[ag QY];exact Qk
      generalize Rh:(PW.lookup ((j:Zv)-1)).getD 0+1=k at c;refine ZJ (gS (YU (EV.A0 gE (u:=B) (n:=o) rfl (X0 F hb r hg (mv:=.int ((j:Zv)-1)) ?_ ⟨_,rfl,X2 ⟨_,PW,rfl,Rf,Rg,X2 ⟨Za0,?_,?_⟩⟩⟩))));.kernel_rfl!
      .exact Zq (λz=>some (Uz z)) Rh
      refine Oe (.inl rfl) (bq.Jm (Z4 rfl (Z4 rfl ⟨A,n,j,rfl,rfl,aa ..,Rc,by rw[af];(exact pk 0x7ffffe5e4c849978f2316841 [10000,16777216] [_,_,_,_] [] Qn Qd Qr T),?_⟩)));rw[aP];have QF:∀p∈n++[((j:Zv),k)],∀z∈V.drop (N+1),p.1<(z:Zv):=λp hp z Qf=>by
        refine(ZM hp).elim (λhp=>?_) λhp=>?_;.exact Qe p hp z (ZX _ Qf)
        .rw[ZD hp];have:=Q9 z Qf;show(j:Zv)<z;(exact JF this)
      have QG:(n++[((j:Zv),k)]).length<=N+1:=by rw[Z1];simpa using T
      refine ZJ (XF (SV F hb r hg (c:=decide (x.2.2<k)) ?_ ⟨λh=>?_,λh=>YW ?_⟩));.kernel_rfl!
      . have PX:k>x.2.2:=by exact Zi h
        rw[ZT PX]at c;refine ZJ (ha Xy (WD:=["besti","bestj","bestsize"]) (X0 F hb r hg (mv:=.tup [.int (((a+q:U):Zv)-k+1),.int ((j:Zv)-k+1),Za0]) ?_ ⟨_,rfl,rfl,YW (YW ?_)⟩) Qu);.kernel_rfl!
        .refine⟨_,⟨n++[((j:Zv),k)],(((a+q:U):Zv)-k+1,(j:Zv)-k+1,k),c,QF,QG,rfl,rfl⟩,?_⟩;exact av Z_
      . have PX:¬k>x.2.2:=by simpa using h
        rw[ZY PX]at c;refine YW ⟨_,⟨n++[((j:Zv),k)],x,c,QF,QG,rfl,rfl⟩,?_⟩;exact av Z_
    .obtain⟨n,x,c,_,T,YA,YB⟩:=PS;rw[YA,YB];rw[Z2]at c T;rw[O',R7]at c;rw[CW]at c;exact QA n x _ (EE T Qd) c Zb3
  . obtain⟨o,ex,O,O,O,O,YA⟩:=PS;rw[YA];obtain⟨Qp,QH,Qg,Qq⟩:=found (C:=XN) (t:=l) (e:=s) h1 h2 QP;have ht:((M:Zv)-a).toNat=M-a:=by exact cY 0x3711069198a61 [_,_]
    rw[ht,Qq.eq];have QI:=a4 ex;have Ri:=ex _ _ QU;have Rj:=(G.ext QI).Cr;unfold eX at PZ;rw[show toN (zz XN l s a b d (M-a)).2=(Qp,QH,Qg)from by rw[Qq.eq];rfl]at PZ;dsimp only at PZ;have QJ:=Qq.fits;obtain⟨dd,QK,d1,d2,QL,_⟩:=qF Qp QH Qg QJ;rw[QK]at PZ;dsimp only at PZ;have Qh:IQ X i u PY l s M d:=⟨Ri,Rj,by rw[af];(exact O3 P8),by rw[af];(exact O3 Qr),h2,QQ⟩;obtain⟨_,Rk,_⟩:=rS (M-(Qp-dd)-(Qg+dd)) (Qg+dd) (LB) QL;refine C5 (Pl:=D) r Xy Qh QJ QK (B5 r Qh QL (H5 r Qh Rk.j1 (Ib r Qh (ZJ (QO (EV.DH F P7.t rfl P7.gl (Zu (Z4 rfl (Zu (Z4 rfl (Zu (Z4 rfl (Y5 ?_)))))))))))));exact vr P7 hb (n:=QM) r ⟨QI,PZ⟩
abbrev EG(a b:J Z):YV:=[("isjunk",.none),("a",ZaE),("b",Zbb),("autojunk",.bool true),("matching_blocks",.none),("opcodes",.none),("fullbcount",.none)]
def JC(a b:J Z)(d:Y9):YV:=EG a b++([("b2j",ZaG)]:YV)
def L4(a b:J Z)(d j:Y9):YV:=EG a b++([("b2j",ZaG),("bjunk",.ref j)]:YV)
abbrev vW(a b:J Z)(d j p:Y9):YV:=EG a b++([("b2j",ZaG),("bjunk",.ref j),("bpopular",Zde)]:YV)
def dQ(G i:GH)(x d:Y9):GH:=λa=>if a=x\/a=d\/G a=none then i a else none
theorem dQ.at(h:a=x\/a=d\/b a=none):dQ b i x d a=i a:=ZT h
theorem dQ.ext:Wy (dQ b i x d) i:=λa o e=>by
 unfold dQ at e;split at e;.exact e
 .cases e
theorem dQ.new(e:dQ c i x d b=ZaB):b=x\/b=d\/c b=none:=by
 unfold dQ at e;split at e;.assumption
 .cases e
theorem dQ.le(h:∀a,b a=none->a=d\/c a=none):Wy (dQ b i x d) (dQ c i x d):=λa o e=>by rw[dQ.at ((dQ.new e).imp id λq=>Vm .inl λq=>h a q)];exact dQ.ext _ _ e
theorem B3(h:Wy (G_ b a) i):Wy (G_ b a) (Y7 i a c):=h.upd (dO ..)
theorem Ll(h:E a=Zbf)(k:E b=some (.own d)):a≠b:=λe=>by subst e;rw[h]at k;cases k
theorem Jy(h:E a=Zan)(k:E b=ZaC)(q:Z3 ((c.kd==d.kd)=false) aR):a≠b:=λe=>by subst e;rw[h]at k;cases k;rw[Vb]at q;cases q
theorem kz(G:GH)(o d:MO)(h:a≠b):Y7 (Y7 G a o) b d=Y7 (Y7 G b d) a o:=by
  funext c;by_cases h1:c=a;.rw[h1];rw[aa,ag h,aa]
  . rw[ag h1];clear h;by_cases h2:c=b;.rw[h2];rw[aa,aa]
    .rw[ag h2,ag h2,ag h1]
theorem putAt(h:i=Y7 c a b):i a=Zar:=h▸aa ..
theorem qO(h:i=Y7 c a f)(n:b≠a)(e:c b=d):i b=d:=by rw[h,ag n];exact e
theorem qV(h:i=Y7 c a f)(n:c a=none)(e:c b=ZaC):i b=ZaC:=by rw[h];exact cB e n
inductive Kn(K:MV->GH->Prop)(m:MV)(G:GH):Prop where|mk(n:U)(h:l8 G m=Zc0)(z:n<=ZK)(k:K Zbp G)
theorem EV.len(b:V1 c)(hb:ZcS)(e:YJ "len"=Zaa)(h:EV c d Zn (ZH f Zn) l q (Kn g))(he:Z3 (Zr [f] Zn=(false,ZH f Zn)::Zr [] Zn) aR):EV c d Zn (ZH (.Call (.Name "len" u) [f] [] Ym) Zn) l q g:=have hl:=hb "len" Zaz (by rfl)
 b5 b e hl.1 hl.2 (.inl ⟨_,rfl⟩) (Zu (he:=he) (WT λm i j=>by obtain⟨n,h,z,k⟩:=j;exact Y5 λt s a S r=>ao.cU (NJ:=λa=>ZU c.M d (VP (.builtin "len") a) _ _ _) r λo a p r2=>ao.jX (NJ:=λa=>ZU c.M d (VP Zaz (o::a)) _ _ _) r2 (jm h z S p k))) (he:=he)
theorem Gd(hb:b≠0)(hp:Vz a b=false)(h:a.fdiv b=r):vf c .FloorDiv Zbu ZcN=some (.int r):=h▸((ZY hb).trans (ZT hp):(if b=0 then none else if Vz a b=false then some (Uz (a.fdiv b))else none)=some (.int (a.fdiv b)))
def stC(x d:Y9)(s:J Z):YV:=[("self",ZaK),("b",Zal),("b2j",ZaG)]
def stN(x d j p:Y9)(s:J Z):YV:=[("self",ZaK),("b",Zal),("b2j",ZaG),("junk",.ref j),("isjunk",.none),("popular",Zde),("n",.int ZR),("ntest",.int ((ZR/100:U)+1))]
inductive MU(X:Cx)(G:GH)(x d:Y9)(s:J Z)(a:U)(l:YV)(i:GH):Prop where|mk(k:J (Z×ZP))(ex:Wy G i)(hd:i d=Za')(T:Tab G i s a k)(e:l=stC x d s)
inductive M0(X:Cx)(G:GH)(d a:Y9)(b:J (Z×ZP))(z:U)(c:YV)(ob:OB)(f:J Z)(l:YV)(i:GH):Prop where|mk(k:J (Z×ZP))(g:i=Y7 (Y7 G d (sD X k)) a (.own (.=ob)))(m:∀p,p∈k↔p∈b/\p.1∉f)(j:(k.map (·.1)).Nodup)(n:V4<=z)(e:l=c)
inductive MK(X:Cx)(G:GH)(d p:Y9)(k:J (Z×ZP))(n:U)(s:J Z)(a:YV)(ob:OB)(b:U)(l:YV)(i:GH):Prop where|mk(g:i=Y7 (Y7 G d (.own (.=ob))) p (sS X (cX n s (k.take b))))(e:l=a)
theorem wN(D:hU X b)(gE:dY X)(hb:ZcS)(Aj:VY "enumerate"=none/\U9 "enumerate"=Za9)(lz:VY "set"=none/\U9 "set"=some ZaJ)(rm:Rm X m (RP+1))(PT:Tw E x tk q (EG F s))(P8:ZR<=1000)(Q8:∀i d j p,wq X tk (dQ E i x q) x q d j F s (eZ s) (vW F s d j p)->Wy (G_ E q) i->g .none i):b8 X m (.ref D.chain.f) [ZaK] E g:=by
  refine D.chain.fn.call b rm ["self"] (Fb λO=>rfl) Z' rfl ZbS λRQ=>?_;intro Zn;walk_at"d";have r:=WH Zn;have hg:∀Qm,[("len")].contains Qm=true->YJ Qm=Zaa:=λQm QK=>by
    simp only[Wr,VD,TO,V5]at QK;subst QK;rfl
  have Qn:=PT.ne;refine ZJ (Zk (zy D Z' rfl PT rfl (by intro id h;cases h) ?_) (.inl rfl));refine ZJ (gS (EV.AJ (b:=λQo=>Qo.IsDictOf ZaP []) Fx λd hd=>?_));walk_at"A";have N:d≠q:=CQ hd PT.dc;have QL:d≠x:=CQ hd PT.ob;have Q9:Tw (Y7 E d (sD X [])) x tk q (EG F s):=⟨by rw[ag (Zg QL)];exact PT.ob,by rw[ag (Zg N)];exact PT.dc⟩;refine OT D.c (j2 _ Z') (eK _ Z') (Z4 rfl ⟨x,q,_,rfl,Q9,WE rfl,Oe (.inl rfl) ?_⟩);walk_at"aL";have Qp:Wy (Y7 E q (.ns (JC F s d))) (Y7 (Y7 E d (sD X [])) q (.ns (aJ "b2j" (.ref d) (EG F s)))):=λa Qo e=>(VJ (kz E _ _ N) a).trans ((ag (f' e ((ag N).trans hd))).trans e);generalize PY:Y7 E q (.ns (JC F s d))=P4 at Qp;have Ra:P4 d=none:=by rw[<-PY,ag N];exact hd
  let Rb:U->YV->GH->Prop:=MU X P4 x d s;refine ZJ (EF.vw Rb (gh.enum Xy b rfl Aj.1 Aj.2 (Z4 rfl ⟨ah s,rfl,?_⟩)));walk_at"W";refine⟨λk l=>aJ "elt" ((ah s).getD k .none) (aJ "i" (.int k) l),_,⟨[],Qp,by rw[ag N];exact aa ..,Tab.nil,rfl⟩,?_,λk S=>bk Xy (.inl rfl) (.inl rfl),λk l i S Qq=>?_,λl i Qq=>?_⟩;.exact av Z_
  . obtain⟨n,ex,M,T,rfl⟩:=Qq;walk_at"p";have Qr:k<ZR:=by simpa[ah]using S
    obtain⟨y,hy⟩:∃y,s[k]?=some y:=⟨_,Z6 Qr⟩;have hge:(ah s).getD k .none=.str y:=by rw[Z0];simp[ah,hy]
    show EF X _ _ _ (aJ "elt" ((ah s).getD k .none) (aJ "i" (.int k) _)) _ _;rw[hge];walk_at"p";have Rc:=T.len;have P9:((Tv s k y).map λQt:U=>Uz Qt).length<=ZK:=by
      rw[Z2];have:(Tv s k y).length<=k:=by unfold Tv;exact YX (VR ..) (by simp)
      exact rU 0x7fffcbc7908f2f16841 [1000,16777216] [_,_,_] [] Qr P8 this
    refine ZJ (Zk (EV.vH gE (Z4 rfl ⟨d,n,rfl,M,Z4 rfl ⟨y,rfl,VX (Y5 ⟨by decide,λnl I=>⟨.ref nl,rfl,cB M I,by rw[af];(exact rU 0x7fffcbc7908f2f16841 [1000,16777216] [_,_,_] [] Qr P8 Rc),λo hv=>?_,λhv=>?_⟩⟩)⟩⟩)) (.inl rfl))
    . obtain⟨la,rfl,_,_⟩:=T.val y o (rh hv);have Rf:Tab P4 (Y7 i nl (.list [])) s k n:=T.sub λa Qa O e=>cB e I;obtain⟨P5,Qb,QM⟩:=Rf.found hy hv;have Rg:d≠la:=by
        clear hv Qb QM;intro z;subst z;rw[cB M I]at P5;cases P5
      walk_at"aM";refine ZJ (VI (W4 (Z4 rfl ⟨la,_,rfl,P5,Z4 rfl ⟨_,P5,P9,rfl,YW ⟨_,⟨n,(ex.upd (k5 I)).upd Qb,by rw[ag Rg];exact cB M I,QM,rfl⟩,?_⟩⟩⟩)));exact av Z_
    . have Qu:=f' M I;obtain⟨P5,Qb⟩:=T.fresh hy hv I (k5 I);have QN:Y7 (Y7 i nl (.list [])) d (sD X (n++[(y,.ref nl)])) nl=some Zaq:=by rw[ag (Zg Qu)];exact aa ..
      refine ZJ (VI (W4 (Z4 rfl ⟨nl,_,rfl,QN,Z4 rfl ⟨_,QN,by decide,rfl,YW ⟨_,⟨n++[(y,.ref nl)],((ex.upd (k5 I)).upd Ra).upd (k5 I),by rw[ag Qu];exact aa ..,Qb.sub λa Qa Qc e=>?_,rfl⟩,?_⟩⟩⟩)));.exact(VJ (kz _ _ _ (Zg Qu)) a).symm.trans ((ag (Ll e (cB M I))).trans ((VJ (aP ..) a).trans e))
      .exact av Z_
  . obtain⟨n,ex,M,T,rfl⟩:=Qq;walk_at"q";rw[az]at T;walk_at"q";have Qd:Tw i x tk q (JC F s d):=⟨ex _ _ (by rw[<-PY,ag (Zg Qn)];exact PT.ob),ex _ _ (by rw[<-PY];exact aa ..)⟩;have Qe:Wy (G_ E q) i:=λa Qo e=>ex _ _ (by rw[<-PY,ag (ck e).1];exact(ck e).2);have QP:∀a,P4 a=none->a≠q:=λa e=>CQ e (PY▸aa ..);refine ZJ (gS (EV.oT b rfl lz.1 lz.2 λj Q=>?_));walk_at"aN";have Qv:=CQ Q Qd.dc;have Rh:=CQ Q M;have Ri:=Qe.none Q;generalize PW:Y7 i j (sS X [])=QQ;have Qw:Tw QQ x tk q (JC F s d):=⟨qV PW.symm Q Qd.ob,qV PW.symm Q Qd.dc⟩;refine OT D.c (j2 _ Z') (eK _ Z') (Z4 rfl ⟨x,q,_,rfl,Qw,WE rfl,Oe (.inl rfl) ?_⟩);walk_at"q";generalize PX:Y7 QQ q (.ns (L4 F s d j))=QR;have PZ:Tw QR x tk q (L4 F s d j):=⟨qO PX.symm (Zg Qn) Qw.ob,putAt PX.symm⟩;have Qx:=qO PX.symm N (qV PW.symm Q M);have Qy:=qO PX.symm Qv (putAt PW.symm);have QS:=T.sub λa Qa Qc e=>qO PX.symm (QP a Qc) (qV PW.symm Q e);have Qf:=PX▸PW▸B3 (Qe.upd (Qe.none Q));clear PX Qw PW Qd Qe M T ex Q Qp;refine ZJ (Zk (zy D Z' rfl PZ rfl (by intro id h;cases h) ?_) (.inl rfl));refine ZJ (XF (SV b hb r hg (c:=false) Z_ ⟨(λh=>by cases h),λO=>YW ?_⟩));walk_at"E";refine ZJ (gS (EV.oT b rfl lz.1 lz.2 λp B=>?_));have QT:=CQ B PZ.dc;have Rj:=CQ B PZ.ob;have P0:=CQ B Qx;have Rk:=CQ B Qy;generalize V:Y7 QR p (sS X [])=Qz;have QA:Tw Qz x tk q (L4 F s d j):=⟨qV V.symm B PZ.ob,qV V.symm B PZ.dc⟩;refine OT D.c (j2 _ Z') (eK _ Z') (Z4 rfl ⟨x,q,_,rfl,QA,WE rfl,Oe (.inl rfl) ?_⟩);show EF X _ _ _ _ (Y7 Qz q (.ns (vW F s d j p))) _;generalize PM:Y7 Qz q (.ns (vW F s d j p))=G;have Qg:Tw G x tk q (vW F s d j p):=⟨qO ea (Zg Qn) QA.ob,putAt ea⟩;have Qh:=qO ea N (qV V.symm B Qx);have QU:=qO ea Qv (qV V.symm B Qy);have QB:=qO ea QT (putAt V.symm);have PN:=QS.sub λa Qa Qc e=>qO ea (QP a Qc) (qV V.symm B e);have QV:=PM▸V▸B3 (Qf.upd (Qf.none B));have Rl:=Qf.none B;have Rn:=(bZ E Qv).symm.trans Ri;have Ro:=(bZ _ N).trans hd;clear PM QA V PZ Qx Qy QS Qf B;have QW:∀t PR,PR d=some (sD X t)->(k' (·.1)).Nodup->(∀A,A∈t↔A∈n/\eZ s A.1=false)->Tab P4 PR s ZR n->Tw PR x tk q (vW F s d j p)->PR j=some (sS X [])->Wy (G_ E q) PR->g .none PR:=λt PR Rq q2 q3 q4 q5 Rt Ru=>by
      refine Q8 PR d j p ⟨⟨(dQ.at (.inl rfl)).trans q5.ob,(dQ.at (.inr (.inl rfl))).trans q5.dc⟩,rfl,rfl,rfl,rfl,⟨t,(dQ.at (.inr (.inr hd))).trans Rq,λk=>?_⟩,(dQ.at (.inr (.inr Rn))).trans Rt⟩ Ru;have QC:jC (eZ s) s k=if eZ s k=true then[]else Tv s ZR k:=rfl;refine gC (WJ t k) (λhv=>?_) λo hv=>?_
      . rw[hv];right;refine⟨rfl,?_⟩;rw[QC];clear QC;by_cases hp:eZ s k=true;.rw[ZT hp]
        . rw[ZY hp];have Rv:eZ s k=false:=by simpa using hp
          have hn:=tY.mp hv;cases e:Tv s ZR k with
          |Yl=>rfl|Zp a QX=>
            obtain⟨A,QD,rfl⟩:=Zl ((q4.key k).mpr (by rw[e];simp));exact Za (Yx ⟨A,(q3 A).mpr ⟨QD,Rv⟩,rfl⟩) hn
      .rw[hv];walk_at"n";obtain⟨P2,PS⟩:=(q3 _).mp (rh hv);obtain⟨la,rfl,QE,P6⟩:=q4.val k o P2;left;refine⟨la,rfl,?_⟩;rw[dQ.at (by rw[<-PY]at QE;exact(Wh (la=q)).elim (λh=>.inr (.inl h)) λh=>.inr (.inr (by rw[ag h]at QE;exact QE)))];have PS:eZ s k=false:=PS;rw[QC,ZY (by rw[PS];decide)];exact P6
    walk_at"d";have QF:ZR<=ZK:=by rw[af];(exact F0 P8)
    refine ZJ (Zk (EV.len b hb rfl (Z4 rfl ⟨ZR,eA,QF,?_⟩)) (.inl rfl));walk_at"aO";refine ZJ (XF (VS (Tn (zy D Z' rfl Qg rfl (by intro id h;cases h) ⟨true,rfl,λO=>VS (SV b hb r hg (c:=decide ((200:Zv)<=ZR)) Z_ ⟨λc1=>u_ ⟨λO=>?_,(λh=>by cases h)⟩,λc1=>⟨(λh=>by cases h),λO=>YW (YW ?_)⟩⟩),(λh=>by cases h)⟩))))
    . have QG:200<=ZR:=by
        have:(200:Zv)<=ZR:=by exact Zi c1
        exact a9 0xfe42fccc2f [200,200] [_] [] this
      have Rw:∀y,eZ s y=decide (ZR/100+1<(Tv s ZR y).length):=λy=>by unfold eZ;simp[QG]
      have hdiv:Vz (ZR:Zv) 100=false:=by
        unfold Vz;walk_at"j";rw[Bool.and_eq_false_iff];exact .inl (by rfl)
      have hq:(ZR:Zv).fdiv 100=((ZR/100:U):Zv):=(IP _ Z');refine ZJ (Zk (YU (YU (Z4 rfl (X2 ⟨.int (ZR/100:U),Gd Z' hdiv hq,X2 ⟨_,rfl,?_⟩⟩)))) (.inl rfl));refine ZJ ?_;generalize Rx:iU _ _ _ _ _=Ry;have Rz:∀(QY:U),(cX (ZR/100+1) s (n.take QY)).length<=ZR:=λQY=>by
        unfold cX;refine YX (VR ..) ?_;rw[Z2,Zo];have:=PN.len;(exact JT this)
      have RA:∀QH,N' (stN x d j p s) QH->Ry .next QH (Y7 (Y7 G d (sD X n)) p (sS X (cX (ZR/100+1) s n))):=by
        intro QH RB;subst Rx;walk_at"aP";show EF X _ _ _ _ _ _;have QZ:∀y,y∈cX (ZR/100+1) s n↔y∈n.map (·.1)/\eZ s y=true:=λy=>by unfold cX;rw[fk,Rw]
        let RE:OB->J Z->YV->GH->Prop:=M0 X G d p n ZR (stN x d j p s);let RR:=cX (ZR/100+1) s n;refine EF.sub RB (ZJ (EF.Gq Xy (.inl rfl) RE (Z4 rfl ⟨rfl,aa ..,λob=>⟨_,⟨n,by rw[aP],λA=>by simp,PN.nd,PN.len,rfl⟩,Tq _⟩⟩) ?_ ?_ ?_));.intro ob Q2 l i z;obtain⟨t,rfl,_⟩:=z;exact aa ..
        . intro ob Q2 k l i S RF Q3 z;obtain⟨t,rfl,P2,PS,P6,rfl⟩:=z;obtain⟨RG,_⟩:=(QZ k).mp S;obtain⟨⟨QI,o⟩,QD,rfl⟩:=Zl RG;have RI:(QI,o)∈t:=(P2 _).mpr ⟨QD,RF⟩;have hd2:Y7 (Y7 G d (sD X t)) p (.own (.=ob)) d=some (sD X t):=by rw[ag (Zg P0)];exact aa ..
          refine ZJ (EF.Kk (Z4 rfl (Z4 rfl ⟨d,t,QI,rfl,rfl,hd2,by rw[nV PS RI];rfl,by exact EE P6 QF,YW ⟨_,⟨without t QI,?_,λA=>?_,?_,?_,rfl⟩,?_⟩⟩)));.exact(kz _ _ _ P0).trans (Zq (Y7 . p _) (aP ..))
          .obtain⟨y,RS⟩:=A;rw[uc,P2];simp[and_assoc]
          .exact PS.sublist (List.Sublist.map _ List.filter_sublist)
          .exact YX (VR ..) P6
          .exact av Z_
        . intro ob Q2 l i Q3 z;obtain⟨t,rfl,P2,PS,P6,rfl⟩:=z;refine YW (YW (QW t _ ?_ PS (λA=>?_) ?_ ?_ ?_ ?_));.rw[aP,ag (Zg P0)];exact aa ..
          .rw[P2];refine and_congr_right λhp=>?_;rw[Q3,QZ];have:A.1∈n.map (·.1):=Yx ⟨A,hp,rfl⟩;simp[this]
          .refine PN.sub λa Qa O e=>?_;exact(VJ (aP ..) a).trans ((ag (Jy e QB)).trans ((ag (Jy e Qh)).trans e))
          .exact⟨by rw[aP,ag (Zg Rj),ag (Zg QL)];exact Qg.ob,by rw[aP,ag (Zg QT),ag (Zg N)];exact Qg.dc⟩
          .rw[aP,ag (Zg Rk),ag Rh];exact QU
          .rw[aP];exact(QV.upd Ro).upd Rl
      let RJ:OB->U->YV->GH->Prop:=MK X G d p n (ZR/100+1) s (stN x d j p s);refine(EF.A6 gE Xy (λk l=>match n[k]? with|some (y,o)=>aJ "idxs" (.raw o) (aJ "elt" (.str y) l)|none=>l) RJ (Z4 rfl ⟨rfl,Qh,λob=>⟨_,⟨?_,rfl⟩,Tq _⟩⟩) ?_ ?_ ?_ ?_)
      . funext a;by_cases h2:a=p;.rw[h2];rw[aa,ag P0,QB];rfl
        .rw[ag h2]
      . intro k y o S;have:(λ(l:YV)=>match n[k]? with|some (y,o)=>aJ "idxs" (.raw o) (aJ "elt" (.str y) l)|none=>l)=λl=>aJ "idxs" (.raw o) (aJ "elt" (.str y) l):=by funext l;rw[S]
        show TG X _ _ _ _ _ (λ(l:YV)=>match n[k]? with|some (y,o)=>aJ "idxs" (.raw o) (aJ "elt" (.str y) l)|none=>l);rw[this];exact bk Xy (.inl rfl) (.inl rfl)
      . intro ob k l i S z;obtain⟨rfl,rfl⟩:=z;obtain⟨⟨y,o⟩,Qi⟩:∃P7,n[k]?=some P7:=⟨_,Z6 S⟩;show EF X _ _ _ (match n[k]? with|some (y,o)=>aJ "idxs" (.raw o) (aJ "elt" (.str y) _)|none=>_) _ _;rw[Qi];dsimp only;obtain⟨la,YA,_,Qj⟩:=PN.val y o (YO Qi);rw[YA];have h1:=Jy Qj QB;have h2:=Jy Qj Qh;have Q4:Y7 (Y7 G d (.own (.=ob))) p (sS X (cX (ZR/100+1) s (n.take k))) la=some (.list ((Tv s ZR y).map λQt:U=>Uz Qt)):=by rw[ag h1,ag h2];exact Qj
        have Q5:(Tv s ZR y).length<=ZR:=by unfold Tv;exact YX (VR ..) (by simp)
        have P9:=hb "len" Zaz (by rfl);have QJ:cX (ZR/100+1) s (n.take (k+1))=cX (ZR/100+1) s (n.take k)++(if ZR/100+1<(Tv s ZR y).length then[y]else[]):=by
          unfold cX;rw[X9,Qi];simp only[U7,ZE,Yd,R7,VL];by_cases h:ZR/100+1<(Tv s ZR y).length<;>simp[h]
        refine ZJ (XF (XC r (b5 b rfl P9.1 P9.2 (.inl ⟨_,rfl⟩) (Zu (Z4 rfl (Y5 λRT RU RV Q6 QX=>?_))))));obtain⟨o,YA,P7⟩:=ao.u QX;rw[YA];refine jm (by show(ml _ _).map _=_;rw[eM Q4];exact Zq some (by simp)) (EE Q5 QF) Q6 P7 (Z4 rfl ⟨decide (((ZR/100:U):Zv)+1<((Tv s ZR y).length:Zv)),rfl,λh=>?_,λh=>YW (YW ?_)⟩)
        . have Qk:ZR/100+1<(Tv s ZR y).length:=by
            have:=Zi h;exact aV 0x1fd0a0e0ea6283a61 [_,_] this
          have RK:y∉cX (ZR/100+1) s (n.take k):=λP7=>by
            have RL:=(SJ P7).1;clear Qj Q4 Q5 QJ Q6 h Qk;obtain⟨⟨Q7,RW⟩,hq,rfl⟩:=Zl RL;obtain⟨RM,Ql⟩:=OF hq;rw[TZ]at Ql;split at Ql
            . rename_i RN;have e1:(n.map (·.1))[RM]?=some Q7:=by simp[Ql]
              have e2:(n.map (·.1))[k]?=some Q7:=by simp[Qi]
              have:=(j' ((ZN e1).1) PN.nd).mp (e1.trans e2.symm);exact Ig RN this
            .cases Ql
          refine ZJ (VI (EV.setAdd (Z4 rfl ⟨p,_,rfl,aa ..,Z4 rfl ⟨y,rfl,aa ..,RK,by have:=Rz k;unfold L2;(exact cD 0x1ffe9f070b21165e1 [1000,4096] [_,_] [] P8 this),rfl,YW (YW ⟨_,⟨?_,rfl⟩,?_⟩)⟩⟩)));.rw[aP,QJ,ZT Qk]
          .exact av Z_
        . have Qk:¬ZR/100+1<(Tv s ZR y).length:=by
            have:=VN h;exact aV 0x7f9a141c1e6a6283a61 [_,_] this
          refine⟨_,⟨?_,rfl⟩,?_⟩;.rw[QJ,ZY Qk,Zm]
          .exact av Z_
      .intro ob k l i z;obtain⟨rfl,_⟩:=z;rw[ag (Zg P0)];exact aa ..
      .intro ob l i z;obtain⟨rfl,rfl⟩:=z;have e:Y7 (Y7 (Y7 G d (.own (.=ob))) p (sS X (cX (ZR/100+1) s (n.take n.length)))) d (sD X n)=Y7 (Y7 G d (sD X n)) p (sS X (cX (ZR/100+1) s n)):=(kz _ _ _ P0).trans ((Zq (Y7 . p _) (aP ..)).trans (by rw[XX]));rw[e];exact RA _ (Tq _)
    . have QG:¬200<=ZR:=by simp at c1;(exact a9 0x1fe642fd3e61 [200,200] [_] [] c1)
      exact QW n G Qh PN.nd (λA=>⟨λh=>⟨h,by unfold eZ;simp[QG]⟩,λh=>h.1⟩) PN Qg QU QV
theorem Bh:∀x∈(["set_seqs","set_seq1","set_seq2","_SequenceMatcher__chain_b","find_longest_match","get_matching_blocks","get_opcodes","get_grouped_opcodes"]:J Z),V6 Zai x=Yh none:=by
 repeat(refine cq (by rw[W5,X'];kernel_rfl) ?_)
 exact jP
theorem EV.xm{q:Z}(b:hU X NC)(a:iu Ny q D NH b.mN X)(hn:D∈(["set_seqs","set_seq1","set_seq2","_SequenceMatcher__chain_b","find_longest_match","get_matching_blocks","get_opcodes","get_grouped_opcodes"]:J Z))(hs:Yb ("self")=some Zay)(I:Tw E z b.C Nh NK)(hl:N_ D=none)(h:EA X m A (Ng::NP) o E λe G=>b8 X m (.ref a.f) (.ref z::e) G g)(he:Z3 (ZH (.Call (.Attribute (.Name "self" Np) D Nx) (Ng::NP) [] N2) A=(do
   let d<-ZH (.Name "self" Np) A
   VT Nx.atName let(i,first)<-T8 [d] (NO d D Nz)
   OP N2 i first (UE N2 (Zr (Ng::NP) A)) [])) aR)(j:Z3 (gK A Ng NP) aR):EV X m A (ZH (.Call (.Attribute (.Name ("self") Np) D Nx) (Ng::NP) [] N2) A) o E g:=EV.Io b.c a.get a.fn.get a.fn.nt rfl rfl (Bh _ hn) (Z4 hs ⟨z,Nh,NK,rfl,I,hl,h⟩) he j
theorem EV.we{q:Z}(b:hU X NC)(a:iu Ny q D NH b.mN X)(hn:D∈(["set_seqs","set_seq1","set_seq2","_SequenceMatcher__chain_b","find_longest_match","get_matching_blocks","get_opcodes","get_grouped_opcodes"]:J Z))(hs:Yb ("self")=some Zay)(I:Tw E z b.C Nh NK)(hl:N_ D=none)(h:b8 X m (.ref a.f) [Zay] E g)(he:Z3 (ZH Zcl A=(do
   let d<-ZH (.Name "self" Np) A
   VT Nx.atName let(e,first)<-T8 [d] (NO d D Nz)
   OP N2 e first (UE N2 (Zr [] A)) [])) aR):EV X m A (ZH Zcl A) o E g:=EV.Fp b.c a.get a.fn.get a.fn.nt rfl rfl (Bh _ hn) (Z4 hs ⟨z,Nh,NK,rfl,I,hl,h⟩) he
theorem Inst.set(I:Tw E x b d al):Tw (Y7 E d (.ns a)) x b d a:=⟨by rw[ag (Zg I.ne)];exact I.ob,aa ..⟩
theorem yF(D:hU X b)(hb:ZcS)(rm:Rm X m (n+1))(I:Tw E x tk d [("isjunk",.none),("a",.none),("b",.none),("autojunk",.bool true)])(a:g .none (Y7 E d (.ns [("isjunk",.none),("a",Zal),("b",.none),("autojunk",.bool true),("matching_blocks",.none),("opcodes",.none)]))):b8 X m (.ref D.seq1.f) [ZaK,Zal] E g:=by
 refine D.seq1.fn.call b rm ["self","a"] (zl λO O=>rfl) Z' rfl ZbS λe=>?_;intro Zn;walk_at"d";refine ZJ (IL ?_);refine ZJ (XF (XC (WH Zn) (Z4 rfl (zy D Z' rfl I rfl (by intro id h;cases h) ⟨false,rfl,(λh=>by cases h),λO=>YW ?_⟩))));refine ZJ (EF.jv D.c (j2 _ Z') (eK _ Z') (Z4 rfl (Z4 rfl ⟨x,d,_,rfl,I,by simp,?_⟩)));refine ZJ (gS (K4 (OT D.c (j2 _ Z') (eK _ Z') (Z4 rfl ⟨x,d,_,rfl,(I.set:Tw (Y7 E d (.ns [("isjunk",.none),("a",Zal),("b",.none),("autojunk",.bool true)])) x tk d [("isjunk",.none),("a",Zal),("b",.none),("autojunk",.bool true)]),by simp,?_⟩))));rw[aP];refine OT D.c (j2 _ Z') (eK _ Z') (Z4 rfl ⟨x,d,_,rfl,(I.set:Tw (Y7 E d (.ns [("isjunk",.none),("a",Zal),("b",.none),("autojunk",.bool true),("matching_blocks",.none)])) x tk d [("isjunk",.none),("a",Zal),("b",.none),("autojunk",.bool true),("matching_blocks",.none)]),by simp,YW ?_⟩);show g .none (Y7 (Y7 E d (.ns _)) d (.ns _));rw[aP];exact a
theorem zF(D:hU X b)(gE:dY X)(hb:ZcS)(Aj:VY "enumerate"=none/\U9 "enumerate"=Za9)(lz:VY "set"=none/\U9 "set"=some ZaJ)(rm:Rm X m (n+2))(I:Tw E x tk d [("isjunk",.none),("a",ZcV),("b",.none),("autojunk",.bool true),("matching_blocks",.none),("opcodes",.none)])(w:ZR<=1000)(y:∀i l j p,wq X tk (dQ E i x d) x d l j k s (eZ s) (vW k s l j p)->Wy Zch i->g .none i):b8 X m (.ref D.DF.f) [ZaK,Zal] E g:=by
 walk_at"C";refine D.DF.fn.call b rm ["self","b"] (zl λO O=>rfl) Z' rfl ZbS λz=>?_;intro Zn;have r:=WH Zn;refine ZJ (IL ?_);refine ZJ (XF (XC r (Z4 rfl (zy D Z' rfl I rfl (by intro id h;cases h) ⟨false,rfl,(λh=>by cases h),λO=>YW ?_⟩))));refine ZJ (EF.jv D.c (j2 _ Z') (eK _ Z') (Z4 rfl (Z4 rfl ⟨x,d,_,rfl,I,by simp,?_⟩)));have t:Tw (Y7 E d (.ns [("isjunk",.none),("a",ZcV),("b",Zal),("autojunk",.bool true),("matching_blocks",.none),("opcodes",.none)])) x tk d [("isjunk",.none),("a",ZcV),("b",Zal),("autojunk",.bool true),("matching_blocks",.none),("opcodes",.none)]:=I.set;refine ZJ (gS (K4 (OT D.c (j2 _ Z') (eK _ Z') (Z4 rfl ⟨x,d,_,rfl,t,by simp,?_⟩))));rw[aP];refine OT D.c (j2 _ Z') (eK _ Z') (Z4 rfl ⟨x,d,_,rfl,t,by simp,?_⟩);rw[aP];refine ZJ (EF.jv D.c (j2 _ Z') (eK _ Z') (K4 (Z4 rfl ⟨x,d,_,rfl,t,by simp,?_⟩)));rw[aP];have u:Tw (Y7 E d (.ns (EG k s))) x tk d (EG k s):=I.set;refine ZJ (VI (EV.we D D.chain Z' rfl u rfl (wN D gE hb Aj lz (RP:=n) r u w λi l j p q q2=>⟨rfl,YW (y i l j p (q.ext (dQ.le λa e=>(Wh (a=d)).imp id λh=>by rw[ag h]at e;exact e)) λa o e=>q2 _ _ ?_)⟩)));obtain⟨e1,e2⟩:=ck e;rw[bZ _ e1,ag e1];exact e2
theorem zK(D:hU X b)(gE:dY X)(hb:ZcS)(Aj:VY ("enumerate")=none/\U9 ("enumerate")=Za9)(lz:VY ("set")=none/\U9 ("set")=some ZaJ)(rm:Rm X m (n+3))(I:Tw E x tk d [("isjunk",.none),("a",.none),("b",.none),("autojunk",.bool true)])(t:ZR<=1000)(u:∀i c j p,wq X tk (dQ E i x d) x d c j k s (eZ s) (vW k s c j p)->Wy Zch i->g .none i):b8 X m (.ref D.Ek.f) [ZaK,ZcV,Zal] E g:=by
 walk_at"C";refine D.Ek.fn.call b rm ["self","a","b"] (Ia λO O O=>rfl) Z' rfl ZbS λw=>?_;intro Zn;have r:=WH Zn;refine ZJ (IL ?_);refine ZJ (VI (EV.xm D D.seq1 Z' rfl I rfl (Zu (Z4 rfl (Y5 (yF D hb r I ⟨rfl,?_⟩))))));walk_at"aQ";have l:Tw (Y7 E d (.ns [("isjunk",.none),("a",ZcV),("b",.none),("autojunk",.bool true),("matching_blocks",.none),("opcodes",.none)])) x tk d [("isjunk",.none),("a",ZcV),("b",.none),("autojunk",.bool true),("matching_blocks",.none),("opcodes",.none)]:=I.set;refine ZJ (VI (EV.xm D D.DF Z' rfl l rfl (Zu (Z4 rfl (Y5 (zF D gE hb Aj lz (n:=n) r l t λi c j p q q2=>⟨rfl,YW (u i c j p (q.ext (dQ.le λa e=>(Wh (a=d)).imp id λh=>by rw[ag h]at e;exact e)) λa o e=>q2 _ _ ?_)⟩))))));obtain⟨e1,e2⟩:=ck e;rw[bZ _ e1,ag e1];exact e2
theorem zE(D:hU X b)(gE:dY X)(hb:ZcS)(Aj:VY ("enumerate")=none/\U9 ("enumerate")=Za9)(lz:VY ("set")=none/\U9 ("set")=some ZaJ)(rm:Rm X m (n+4))(I:Tw E x tk d [])(w:ZR<=1000)(y:∀i l j p,wq X tk (dQ E i x d) x d l j u s (eZ s) (vW u s l j p)->Wy Zch i->g .none i):b8 X m (.ref D.init.f) [ZaK,.none,.lst (ah u),Zal] E g:=by
  refine iL.call (D.init.fn.E5 D.Ir b (M:=[ZaK,.none,.lst (ah u),Zal,.bool true]) rm ["self","isjunk","a","b","autojunk"] (λpm cd Wv l A B k r F=>?_) Z' ZbS λG=>?_);.refine Lx r λv1 v2 v3 v4 e=>?_;subst e;exact xO [v1,v2,v3,v4,.bool true] rfl (r.append (.one (aE ..)))
  intro Zn;walk_at"d";have z:=WH Zn;refine ZJ (IL ?_);refine ZJ (EF.jv D.c (j2 _ Z') (eK _ Z') (Z4 rfl (Z4 rfl ⟨x,d,_,rfl,I,by simp,?_⟩)));refine ZJ (gS (K4 (OT D.c (j2 _ Z') (eK _ Z') (Z4 rfl ⟨x,d,_,rfl,(I.set:Tw (Y7 E d (.ns [("isjunk",.none)])) x tk d [("isjunk",.none)]),S_ _,?_⟩))));rw[aP];refine OT D.c (j2 _ Z') (eK _ Z') (Z4 rfl ⟨x,d,_,rfl,(I.set:Tw (Y7 E d (.ns [("isjunk",.none),("a",.none)])) x tk d [("isjunk",.none),("a",.none)]),by simp,?_⟩);rw[aP];refine ZJ (EF.jv D.c (j2 _ Z') (eK _ Z') (Z4 rfl (Z4 rfl ⟨x,d,_,rfl,(I.set:Tw (Y7 E d (.ns [("isjunk",.none),("a",.none),("b",.none)])) x tk d [("isjunk",.none),("a",.none),("b",.none)]),by simp,?_⟩)));rw[aP];have t:Tw (Y7 E d (.ns [("isjunk",.none),("a",.none),("b",.none),("autojunk",.bool true)])) x tk d [("isjunk",.none),("a",.none),("b",.none),("autojunk",.bool true)]:=I.set;refine ZJ (VI (EV.xm D D.Ek Z' rfl t rfl (Zu (Z4 rfl (Zu (Z4 rfl (Y5 (zK D gE hb Aj lz (n:=n) z t w λi l j p q q2=>⟨rfl,YW (y i l j p (q.ext (dQ.le λa e=>(Wh (a=d)).imp id λh=>by rw[ag h]at e;exact e)) λa o e=>q2 _ _ ?_)⟩))))))));obtain⟨e1,e2⟩:=ck e;rw[bZ _ e1,ag e1];exact e2
def bL(m:eG):EM:=((m.1:Zv),(m.2.1:Zv),(m.2.2:Zv))
def jb(w:si):MV:=.tup [.int (w.1:U),.int (w.2.1:U),.int (w.2.2.1:U),.int (w.2.2.2:U)]
def iV(t:EM):MV:=.tup [.int t.1,.int t.2.1,.int t.2.2]
abbrev JR(x:Y9)(la lb:U)(q m:Y9):YV:=[("self",ZaK),("la",.int la),("lb",.int lb),("queue",.ref q),("matching_blocks",.ref m)]
abbrev Hc(x:Y9)(la lb:U)(q m:Y9)(a c b d i j k:U)(t:MV):YV:=JR x la lb q m++([("alo",Zbu),("ahi",Zc6),("blo",ZcN),("bhi",.int d),("i",Zbs),("j",Zb9),("k",Za0),("x",t)]:YV)
def w0(s a:J Z):si:=(0,ZR,0,ZC)
def d9(l:J eG):U->EM|0=>(0,0,0)|t+1=>bL (l.getD t (0,0,0))
theorem iQ(h:a[s]?=Zar):d9 a (s+1)=bL b:=Zq (λo=>bL (Option.getD o (0,0,0))) h
theorem xB(ht:a<=Zw)(h:((d9 b a).2.2 !=0)=true):∃s z,a=s+1/\b[s]?=some z:=by cases a with|VZ=>exact Va h|VC s=>exact⟨s,b[s],rfl,Z6 ht⟩
theorem xh(c:∀m∈a,0<m.2.2)(ht:b<=ZC)(h:((d9 a b).2.2 !=0)=false):b=0:=by cases b with
 |VZ=>rfl|VC s=>
  rw[iQ (Z6 ht)]at h;exact Za (Int.ofNat_inj.mp (by simpa[bL]using h:((a[s]).2.2:Zv)=0)) (R1 (c _ (Un ht)))
abbrev GA(x:Y9)(la lb:U)(q m n:Y9)(p:EM):YV:=JR x la lb q m++([("i1",.int p.1),("j1",.int p.2.1),("k1",.int p.2.2),("non_adjacent",.ref n)]:YV)
theorem uD(b:Zck)(hb:ZcS)(rm:Za3)(hg:∀f,sq f=true->Xs f=Zaa)(d:pb gl o E i=Zan)(e:pb gl o E l=Za2)(k:Nj (c&&r) E):EB X m A (XE (.BoolOp .And [i,l] Ym) A Up) o E Nj:=VS (SV b hb rm hg d ⟨λq=>VS (SV b hb rm hg e ⟨λa=>u_ (by subst q a;exact k),λa=>(by subst q a;exact k)⟩),λq=>(by subst q;exact k)⟩)
theorem EV.F1(hb:Q' NC)(d:Xs "len"=Zaa)(h:EV X m A (ZH a A) o E λb G=>∃n,l8 G b=Zc0/\n<=ZK/\g Zbp G)(he:Z3 (Zr [a] A=(false,ZH a A)::ZbE) aR):EV X m A (ZH (.Call (.Name "len" f) [a] [] Ym) A) o E g:=by
 have c:=hb "len" Zaz (by rfl);refine b5 NC d c.1 c.2 (.inl ⟨_,rfl⟩) (Zu (WT λb G q=>Y5 λe s i S r=>?_) he) (by rfl) he;walk_at"a";obtain⟨n,h1,h2,k⟩:=q;obtain⟨j,YA,q⟩:=ao.u r;rw[YA];exact jm h1 h2 S q k
theorem Aa(D:hU X b)(M:d8 X b)(gE:dY X)(hb:ZcS)(hr:VY "range"=none/\U9 "range"=some ZaH)(hl:VY "list"=none/\U9 "list"=some Zad)(hm:VY "map"=none/\U9 "map"=some Zax)(rm:Rm X m (Qp+8))(PY:wq X tk E S Qh RE RF s F XN al)(QZ:PO ("matching_blocks")=some .none)(Q2:PO ("find_longest_match")=none)(Q3:al.length<=100)(P8:ZR<=10000)(QG:Xr<=10000)(Qq:j8 XN s F Zcs=d)(hB:Yc<64)(Q4:∀i,Wy (G_ E Qh) i->i Qh=some (.ns (aJ "matching_blocks" (.lst (UX (λl=>qa l.1 l.2.1 l.2.2)++[qa ZR Xr 0])) al))->g (.lst (UX (λl=>qa l.1 l.2.1 l.2.2)++[qa ZR Xr 0])) i):b8 X m (.ref D.JE.f) [Za7] E g:=by
  walk_at"C";refine D.JE.fn.call b rm ["self"] (Fb λO=>rfl) Z' rfl ZbS λRG=>?_;intro Zn;walk_at"d";have r:=WH Zn;have hg:∀QH,([]:J Z).contains QH=true->YJ QH=Zaa:=e7 rfl;have QI:gv s F Zcs:=⟨Zf _,ZV _,Zf _,ZV _⟩;have Qr:pW XN s F Zcs d:=Qq▸vo _ _ QI (Wp _) (.inl ⟨rfl,rfl⟩);refine ZJ (IL ?_);walk_at"E";refine ZJ (XF (XC r (zy D Z' rfl PY.inst QZ (by intro id h;cases h) (K4 ⟨false,rfl,(λh=>by cases h),λO=>YW ?_⟩))));refine ZJ (ha Xy (TL (Zu (EV.F1 hb rfl (zy D Z' rfl PY.inst PY.la (by intro id h;cases h) ⟨ZR,by rw[gH,az],by rw[af];(exact O3 P8),?_⟩)))) (cq (.inl rfl) (cq (.inl rfl) jP)));walk_at"m";refine Zu (EV.F1 hb rfl (zy D Z' rfl PY.inst PY.lb (by intro id h;cases h) ⟨Xr,by rw[gH,az],by rw[af];(exact O3 QG),Y5 ⟨(by simp[af]),_,rfl,rfl,?_⟩⟩));walk_at"E";refine ZJ (Zk (VX (Zu (X0 b hb r hg (mv:=jb Zcs) Z_ (Y5 ⟨(by simp[af]),λq Qi=>?_⟩)))) (.inl rfl));walk_at"aR";refine ZJ (Zk (VX (Y5 ⟨by decide,λp P9=>?_⟩)) (.inl rfl));have Qa:p≠q:=by intro P4;subst P4;rw[aa]at P9;cases P9
  walk_at"X";rw[ag Qa]at P9;have Q5:Y7 (Y7 E q (.list [jb Zcs])) p Zaq q=some (.list [jb Zcs]):=by rw[ag (Zg Qa)];exact aa ..
  have Q6:Wy E (Y7 (Y7 E q (.list [jb Zcs])) p Zaq):=((I4 E).upd Qi).upd P9;refine ZJ ?_;walk_at"d";generalize Q7:iU _ _ _ _ _=Q8;have Q9:∀(i:GH)(done:J eG),Wy E i->i p=some (.list ((RZ bL).map Zbh))->done.Perm (d)->Q8 .next (JR S ZR Xr q p) i:=by
    intro i done ex Qj hp;subst Q7;walk_at"q";show EF X _ _ _ _ _ _;have QJ:=(Ch.sorted _ _ _ Qr.ch).2;have QK:=(q0 _ _ _ Qr.ch).2.2;have Qt:(UX bL).Pairwise λS I=>S.1<I.1:=by rw[List.pairwise_map];exact QJ.imp λh=>by simp only[bL];(exact JF h)
    have Qu:(RZ bL).Perm (UX bL):=hp.map _;refine ZJ (VI (EV.sort M.t (j:=Qp) (r.le (fA 0x660f0c1c1 [7] [_] [])) (Z4 rfl ⟨p,RZ bL,rfl,Qj,by rw[Z2,R6];exact hB,?_,λRa QL QM=>⟨rfl,?_⟩⟩)));.exact(Qu.pairwise_iff (λh=>Zg h)).mpr (Qt.imp λh=>Int.ne_of_lt h)
    obtain rfl:Ra=UX bL:=zk (QL.trans Qu) QM Qt;have QN:Wy E (Y7 i p (.list ((UX bL).map Zbh))):=ex.upd P9;have QP:Y7 i p (.list ((UX bL).map Zbh)) p=some (.list ((UX bL).map Zbh)):=aa ..;generalize Y7 i p (.list ((UX bL).map Zbh))=Qb at QN QP;clear hp QJ Qt Qu QL QM;refine ZJ (EF.DW (X2 ?_) (.inl rfl) (.inl rfl) (.inl rfl));walk_at"q";refine ZJ (Zk (VX (Y5 ⟨by decide,λn Qd=>?_⟩)) (.inl rfl));refine ZJ ?_;generalize Qv:iU _ _ _ _ _=Qw;have Rb:∀(i:GH),Wy Qb i->i n=some (.list ((S5 (Yc-1)).map λl=>iV (bL l)))->Qw .next Zb_ i:=by
      intro i PN B;subst Qv;show EF X _ _ _ _ _ _;refine ZJ ?_;generalize Rc:iU _ _ _ _ _=Rf;have Qx:∀(i:GH),Wy Qb i->i n=some (.list (UX λl=>iV (bL l)))->Rf .next Zb_ i:=by
        intro i PN B;subst Rc;show EF X _ _ _ _ _ _;refine ZJ (VI (W4 (Z4 rfl ⟨n,_,rfl,B,X0 b hb r hg (mv:=iV (bL (ZR,Xr,0))) Z_ ⟨_,B,by rw[Z2,af];(exact a9 0x7f2f0e9e1 [64,16777216] [_] [] hB),rfl,?_⟩⟩)));have ex6:Wy Qb (Y7 i n (.list ((UX λl=>iV (bL l))++[iV (bL (ZR,Xr,0))]))):=PN.upd Qd;clear B;have Qy:Y7 i n (.list ((UX λl=>iV (bL l))++[iV (bL (ZR,Xr,0))])) n=some (.list ((d++[(ZR,Xr,0)]).map λl=>iV (bL l))):=by rw[aa,ZE];rfl
        generalize Y7 i n (.list ((UX λl=>iV (bL l))++[iV (bL (ZR,Xr,0))]))=QQ at ex6 Qy;have ex7:Wy E (G_ QQ n):=λQz QR Q=>by
          have QA:=QN Qz QR Q;clear B Qy;have:Qz≠n:=by intro P4;subst P4;rw[Qd]at QA;cases QA
          rw[bZ _ this];exact ex6 _ _ QA
        refine EF.freeze Qy (aJ "non_adjacent" (.lst ((d++[(ZR,Xr,0)]).map λl=>iV (bL l))) Zb_) (λI mv Q=>?_) ?_
        . rw[aB]at Q;split at Q;.rename_i hy;cases Q;exact .inr ⟨by rw[hy];rfl,rfl⟩
          .exact .inl Q
        generalize G_ QQ n=Rg at ex7;have QS:Tw Rg S tk Qh al:=⟨ex7 _ _ PY.inst.ob,ex7 _ _ PY.inst.dc⟩;have Rh:(d++[(ZR,Xr,0)]).length<=64:=by rw[Z1,YY];(exact GK hB)
        refine ZJ (EF.jv D.c (j2 _ Z') (eK _ Z') (EV.Ah b M.t M.tw M.cm (n:=Qp+1) (r.le (fA 0x1983c307c1c1 [5,7] [_] [])) M.gl rfl rfl rfl hl hm (Z4 rfl ⟨_,(d++[(ZR,Xr,0)]).map (λl:eG=>qa l.1 l.2.1 l.2.2),rfl,by simp,by rw[Z2,af];(exact a9 0x7f2f0e5e1 [64,16777216] [_] [] Rh),λo RI i QT Ri=>?_,Z4 rfl ⟨S,Qh,al,rfl,QS,Q3,?_⟩⟩)))
        . refine gC ((d++[(ZR,Xr,0)])[o]?) (λQe=>?_) λPR Qe=>?_;.rw[List.getElem?_eq_none_iff]at Qe;rw[Z2]at QT;(exact(Ju QT Qe).elim)
          . have e1:((d++[(ZR,Xr,0)]).map λl=>iV (bL l)).getD o .none=iV (bL PR):=by rw[Z0,Zy,Qe];rfl
            have e2:((d++[(ZR,Xr,0)]).map (λl:eG=>qa l.1 l.2.1 l.2.2)).getD o .none=qa PR.1 PR.2.1 PR.2.2:=by rw[Z0,Zy,Qe];rfl
            rw[e1,e2];exact yY M hb Ri ⟨rfl,rfl⟩
        have Rj:=QS.set (a:=aJ "matching_blocks" (.lst ((d++[(ZR,Xr,0)]).map (λl:eG=>qa l.1 l.2.1 l.2.2))) al);have Rk:(d++[(ZR,Xr,0)]).map (λl:eG=>qa l.1 l.2.1 l.2.2)=UX (λl=>qa l.1 l.2.1 l.2.2)++[qa ZR Xr 0]:=by rw[ZE];rfl
        refine ZJ (QO (zy D Z' rfl Rj (mv:=.lst ((d++[(ZR,Xr,0)]).map (λl:eG=>qa l.1 l.2.1 l.2.2))) (by rw[aB,ZT rfl]) (by intro id h;cases h) ?_));.rw[Rk];refine Q4 _ (λQz QR Q=>?_) (aa ..);obtain⟨e1,e2⟩:=ck Q;rw[ag e1];exact ex7 _ _ e2
      refine XF (Tn (Z4 (mv:=.int (d9 d Yc).2.2) rfl ⟨((d9 d Yc).2.2 !=0),rfl,λV=>?_,λV=>YW (Qx i PN ?_)⟩))
      . obtain⟨PS,PR,Qk,PZ⟩:=xB (ZV _) V;have Rl:S5 PS++[PR]=d:=by
          have:=X9 (l:=d) (i:=PS);rw[PZ]at this;rw[show S5 PS++[PR]=S5 PS++(some PR).toList from rfl,<-this,<-Qk,XX]
        rw[Qk]at B Qx⊢;rw[Nat.add_sub_cancel]at B;refine ZJ (VI (W4 (Z4 rfl ⟨n,_,rfl,B,X0 b hb r hg (mv:=iV (d9 d (PS+1))) Z_ ⟨_,B,by rw[Z2,af,Zo];(exact a9 0x1fcbec1169e1 [64,16777216] [_,_] [] hB),rfl,YW (Qx _ (PN.upd Qd) ?_)⟩⟩)));rw[aa,iQ PZ];conv=>rhs;rw[<-Rl]
        rw[ZE];rfl
      .have Qk:=xh (λl hm=>(QK l hm).1) (ZV _) V;have:d=[]:=OD Qk;subst this;exact B
    let Rn:U->YV->GH->Prop:=λN P5 i=>Wy Qb i/\i n=some (.list ((S5 (N-1)).map λl=>iV (bL l)))/\P5=GA S ZR Xr q p n (d9 d N);refine EF.H8 Xy (Z4 rfl ⟨Rn,p,(UX bL).map Zbh,GA S ZR Xr q p n (0,0,0),rfl,λk P5 i h=>h.1 _ _ QP,⟨(I4 Qb).upd Qd,aa ..,rfl⟩,Zb3,λN l P5 i hm QB=>?_,λP5 i QB=>?_⟩)
    . obtain⟨PN,B,rfl⟩:=QB;rw[Zy,Zy]at hm;refine gC (d[N]?) (λQc=>?_) λI Qc=>?_;.rw[Qc]at hm;cases hm
      . rw[Qc]at hm;obtain rfl:cP M.C (bL I)=l:=by simpa using hm
        have QC:=(ZN Qc).1;have QU:=iQ Qc;have QV:(S5 (N-1)).length<=64:=by rw[Zo];(exact aV 0x1fc8ac11e841 [_,_,_] hB)
        refine bq.FZ (TG.Bl M.t Xy (.inl rfl) (.inl rfl) (.inl rfl)) ?_;refine ZJ (XF (uD b hb r hg (c:=(d9 d N).1+(d9 d N).2.2==(bL I).1) (r:=(d9 d N).2.1+(d9 d N).2.2==(bL I).2.1) Z_ Z_ ⟨λh=>?_,λh=>?_⟩))
        . simp only[YM,V5]at h;have ht:N=0:=by cases N with
            |VZ=>rfl|VC PS=>
              exfalso;have PZ:d[PS]?=some d[PS]:=Z6 (Nat.lt_of_succ_lt QC);rw[iQ PZ]at h;simp only[bL]at h;exact Qr.apart PZ Qc ⟨by exact a9 0x3fb1c041eed6adcc7098a61 [] [_,_,_] [_,_] h,by exact a9 0x3fb1c041eee6384c530ed6a [] [_,_,_] [_,_] h⟩
          subst ht;have h1:(0:Zv)=(bL I).1:=h.1;have h2:(0:Zv)=(bL I).2.1:=h.2;have Ro:d9 d (0+1)=(0,0,(bL I).2.2):=by rw[QU,h1];exact Prod.ext rfl (Prod.ext (h2.symm.trans h1) rfl)
          refine ZJ (EF.aug (b:=.int 0) rfl (Z4 rfl ⟨.int (0+(bL I).2.2),rfl,YW (YW ⟨_,⟨PN,B,rfl⟩,?_⟩)⟩) (.inl rfl));rw[Ro,Sg];exact av Z_
        . refine ZJ ?_;generalize Rq:iU _ _ _ _ _=Rt;have QW:∀(i:GH),Wy Qb i->i n=some (.list ((S5 N).map λl=>iV (bL l)))->Rt .next (aJ "k2" (.int (bL I).2.2) (aJ "j2" (.int (bL I).2.1) (aJ "i2" (.int (bL I).1) (GA S ZR Xr q p n (d9 d N))))) i:=by
            intro i ex4 Ru;subst Rq;show EF X _ _ _ _ _ _;refine ZJ (ha Xy (WD:=["i1","j1","k1"]) (X0 b hb r hg (mv:=.tup [.int (bL I).1,.int (bL I).2.1,.int (bL I).2.2]) Z_ ⟨_,rfl,rfl,YW (YW ⟨_,⟨ex4,Ru,rfl⟩,?_⟩)⟩) ?_);.rw[QU];exact av Z_
            .intro PR Rv;exact cq (.inl rfl) (cq (.inl rfl) (cq (.inl rfl) jP)) _ Rv
          clear h;refine XF (Tn (Z4 (mv:=.int (d9 d N).2.2) rfl ⟨((d9 d N).2.2 !=0),rfl,λV=>?_,λV=>YW (QW i PN ?_)⟩));.obtain⟨PS,PR,Rw,PZ⟩:=xB (W' QC) V;subst Rw;rw[Nat.add_sub_cancel]at B QV;refine ZJ (VI (W4 (Z4 rfl ⟨n,_,rfl,B,X0 b hb r hg (mv:=iV (d9 d (PS+1))) Z_ ⟨_,B,by rw[Z2,af];(exact a9 0x7f2f0e5e1 [64,16777216] [_] [] QV),rfl,YW (QW _ (PN.upd Qd) ?_)⟩⟩)));rw[aa,X9,PZ,iQ PZ,ZE];rfl
          .have Rx:=xh (λl hm=>(QK l hm).1) (W' QC) V;subst Rx;exact B
    .obtain⟨PN,B,rfl⟩:=QB;rw[Z2,Z2]at B⊢;exact Rb i PN B
  let Ry:U->YV->GH->Prop:=λl P5 i=>∃(PW:J si)(done:J eG),l=oF PW/\tP XN s F Zcs done PW/\Wy E i/\i q=some (.list (PW.map jb))/\i p=some (.list ((RZ bL).map Zbh))/\P5=JR S ZR Xr q p;refine EF.rg Ry (oF [Zcs]) ⟨[Zcs],[],rfl,.start QI,Q6,Q5,aa ..,rfl⟩ Zb3 ?_;intro l P5 i P4;obtain⟨PW,done,rfl,P6,ex,Ql,Qj,rfl⟩:=P4;have Qf:=P6.He;have QX:=P6.len;rw[Qq]at QX;refine Tn (Z4 rfl ⟨!PW.isEmpty,?_,λhq=>?_,λhq=>?_⟩);.exact(Kg (c8 Ql) (by rw[Z2,af];(exact cD 0x3ffcbc5983a41165e1 [10000,2,16777216] [_,_] [] P8 Qf))).trans (by rw[O_])
  . obtain⟨G,w,rfl⟩:∃G w,PW=G++[w]:=by
      clear P6 Ql Qf;rcases List.eq_nil_or_concat PW with rfl|⟨G,w,rfl⟩;.cases hq
      .exact⟨G,w,List.concat_eq_append⟩
    rw[ZE,List.map_singleton]at Ql;rw[Z1,YY]at Qf;have hw:=P6.HF w (by simp);clear hq;refine ZJ (sp (EV.pop (Z4 rfl ⟨q,G.map jb,jb w,rfl,Ql,by rw[Z2,af];(exact cD 0x3ffcbc5983a41165e1 [10000,2,16777216] [_,_] [] P8 Qf),?_⟩)));refine bq.tup Xy (NB:=[("alo",_),("ahi",_),("blo",_),("bhi",_)]) (cq (.inl rfl) (cq (.inl rfl) (cq (.inl rfl) (cq (.inl rfl) jP)))) rfl ?_;have Su:Wy E (Y7 i q (.list (G.map jb))):=ex.upd Qi;have QD:Y7 i q ZbM q=some ZbM:=aa ..;have Qm:Y7 i q ZbM p=some (.list ((RZ bL).map Zbh)):=by rw[ag Qa];exact Qj
    show EF X _ _ _ _ (Y7 i q (.list (G.map jb))) _;generalize Y7 i q ZbM=Qg at Su QD Qm;have H1:=PY.ext Su;refine ZJ (gS (EV.xm D D.eX Z' rfl H1.inst Q2 (Zu (Z4 rfl (Zu (Z4 rfl (Zu (Z4 rfl (Zu (Z4 rfl (Y5 ?_)))))))))));refine AB D M gE hb hr (QM:=Qp+4) r H1 hw.x hw.y hw.z hw.u P8 QG ?_;refine bq.FZ (TG.Bl M.t Xy (.inl rfl) (.inl rfl) (.inl rfl)) (Oe (.inl rfl) ?_);have Rz:=@tP.none _ _ _ _ _ _ _ P6;have PT:=@tP.step _ _ _ _ _ _ _ P6;have RA:oF G<oF (G++[w]):=by rw[ig];have:=xe [w];simp at this;(exact aV 0x1fd40221642e [_,_] this)
    have RB:=(iI (C:=XN) (t:=s) (e:=F) hw.x hw.y hw.z).fits;have RJ:=hw.u;have RK:=hw.y;generalize eX XN s F w.1 w.2.1 w.2.2.1 w.2.2.2=l at*;induction l using EH with|mk o A k=>?_;induction w using Im with|mk a P0 T P2=>?_;dsimp only at*;clear RB;refine ZJ (XF (Tn (Z4 rfl ⟨((k:Zv)!=0),rfl,λV=>?_,λV=>?_⟩)))
    . have ON:k≠0:=by intro P4;subst P4;simp at V
      obtain⟨PT,P7⟩:=PT ON;have PX:=PT.He;refine ZJ (VI (W4 (Z4 rfl ⟨p,_,rfl,Qm,Z4 rfl ⟨_,Qm,by rw[Z2,Z2,af];(exact cD 0x7ff978b21169e1 [64,16777216] [_,_] [] hB QX),rfl,?_⟩⟩)));have ex2:Wy E (Y7 Qg p (.list ((RZ bL).map Zbh++[.seq (.ref M.C) [.int (o:Zv),.int (A:Zv),.int (k:Zv)]]))):=ex1.upd P9;have QE:Y7 Qg p (.list ((RZ bL).map Zbh++[.seq (.ref M.C) [.int (o:Zv),.int (A:Zv),.int (k:Zv)]])) p=some (.list (((done++[(o,A,k)]).map bL).map Zbh)):=by rw[aa,ZE,ZE];rfl
      have Qn:Y7 Qg p (.list ((RZ bL).map Zbh++[.seq (.ref M.C) [.int (o:Zv),.int (A:Zv),.int (k:Zv)]])) q=some ZbM:=by rw[ag (Zg Qa)];exact QD
      show EF X _ _ _ ZcJ (Y7 Qg p (.list ((RZ bL).map Zbh++[.seq (.ref M.C) [.int (o:Zv),.int (A:Zv),.int (k:Zv)]]))) _;generalize Y7 Qg p (.list ((RZ bL).map Zbh++[.seq (.ref M.C) [.int (o:Zv),.int (A:Zv),.int (k:Zv)]]))=RL at ex2 QE Qn;refine ZJ ?_;generalize Qv:iU _ _ _ _ _=Qw;have Qo:∀(i:GH),Wy E i->i q=some (.list ((G++hX a T (o,A,k)).map jb))->i p=some (.list (((done++[(o,A,k)]).map bL).map Zbh))->Qw .next ZcJ i:=by
        intro i ex3 QF QY;subst Qv;show EF X _ _ _ _ _ _;rw[<-ZQ]at PT P7 PX;generalize G++hX a T (o,A,k)=q2 at*;unfold jy at PT P7 PX;dsimp only at PT P7 PX;refine ZJ (XF (uD b hb r hg (c:=decide ((o:Zv)+k<P0)) (r:=decide ((A:Zv)+k<P2)) Z_ Z_ ⟨λh=>?_,λh=>YW (YW (YW ?_))⟩))
        . simp only[YM,XY]at h;have PM:o+k<P0/\A+k<P2:=by exact aV 0x1fee8b0113438083dd4cb098a64d4c7098a61 [_,_,_,_,_] h
          rw[ZT PM]at PT P7 PX;rw[Z1,YY]at PX;refine ZJ (VI (W4 (Z4 rfl ⟨q,_,rfl,QF,X0 b hb r hg (mv:=jb (o+k,P0,A+k,P2)) ?_ ⟨_,QF,by rw[Z2,af];(exact cD 0xfff2f0e5e2cc1d2141c1 [2,10000,16777216] [_,_] [] PX P8),rfl,YW (YW (YW ⟨_,_,P7,⟨_,_,rfl,PT,ex3.upd Qi,by rw[aa,ZE];rfl,by rw[ag Qa];exact QY,rfl⟩,?_⟩))⟩⟩)));.show _=some (MV.tup [.int ((o+k:U):Zv),.int P0,.int ((A+k:U):Zv),.int P2]);rw[t_,t_];kernel_rfl!
          .exact av Z_
        . have PM:¬(o+k<P0/\A+k<P2):=by
            intro PM;have:(decide ((o:Zv)+k<P0)&&decide ((A:Zv)+k<P2))=true:=by simp only[YM,XY];(exact aV 0x1feea6584c5326a6384c530f7458089a1c041 [_,_,_,_,_] PM)
            rw[this]at h;cases h
          rw[ZY PM,Zm]at PT P7 PX;exact⟨_,_,P7,⟨_,_,rfl,PT,ex3,QF,QY,rfl⟩,Zb3⟩
      refine XF (uD b hb r hg (c:=decide ((a:Zv)<o)) (r:=decide ((T:Zv)<A)) Z_ Z_ ⟨λh=>?_,λh=>YW ?_⟩)
      . simp only[YM,XY]at h;have PM:a<o/\T<A:=by exact aV 0x7fba20f420f75324c7a98a61 [_,_,_,_] h
        have Q:hX a T (o,A,k)=[(a,o,T,A)]:=ZT PM;rw[Q]at Qo PX;rw[Z1]at PX;refine ZJ (VI (W4 (Z4 rfl ⟨q,_,rfl,Qn,X0 b hb r hg (mv:=jb (a,o,T,A)) Z_ ⟨_,Qn,by rw[Z2,af];(exact cD 0xfff2f0e5e2cc1d2141c1 [2,10000,16777216] [_,_] [] Qf P8),rfl,YW (Qo _ (ex2.upd Qi) (by rw[aa,ZE];rfl) (by rw[ag Qa];exact QE))⟩⟩)))
      . have PM:¬(a<o/\T<A):=by
          intro PM;have:(decide ((a:Zv)<o)&&decide ((T:Zv)<A))=true:=by simp only[YM,XY];(exact aV 0x7fba99263d4c530f7441e841 [_,_,_,_] PM)
          rw[this]at h;cases h
        have Q:hX a T (o,A,k)=[]:=ZY PM;rw[Q,Zm]at Qo;exact Qo _ ex2 Qn QE
    . have ON:k=0:=by simpa using V
      subst ON;exact YW (YW ⟨_,_,RA,⟨G,done,rfl,Rz rfl,Su,QD,Qm,rfl⟩,Zb3⟩)
  . have:PW=[]:=by cases PW with
      |Yl=>rfl|Zp=>cases hq
    subst this;exact Q9 i done ex Qj (Qq▸P6.done)
abbrev Op:=Z×U×U×U×U
def e9(i a j b:U):Z:=if i<a/\j<b then"replace"else if i<a then"delete"else if j<b then"insert"else""
def cK(i j:U)(m:eG):ZbO:=(if(e9 i m.1 j m.2.1).length=0 then[]else[(e9 i m.1 j m.2.1,i,m.1,j,m.2.1)])++(if m.2.2=0 then[]else[(("equal"),m.1,m.1+m.2.2,m.2.1,m.2.1+m.2.2)])
def dz(i j:U)(l:J eG):ZbO:=VF (λm k i j=>cK i j m++k (m.1+m.2.2) (m.2.1+m.2.2)) (λO O=>[]) i j
theorem rQ(i b a r):dz i b (a::r)=cK i b a++dz (a.1+a.2.2) (a.2.1+a.2.2) r:=rfl
def endOf(i j:U)(l:J eG):U×U:=VF (λm k O O=>k (m.1+m.2.2) (m.2.1+m.2.2)) Prod.mk i j
theorem vz(m:eG):∀(l:J eG)(i j:U),dz i j (l++[m])=dz i j l++cK (endOf i j l).1 (endOf i j l).2 m:=by
 intro I;induction I with
 |Yl=>
  intro i j;exact(Zm _)|Zp x l a=>
  intro i j;show cK i j x++dz _ _ (l++[m])=(cK i j x++dz _ _ l)++_;rw[a,ZQ]at⊢;rfl
theorem wO(m:eG):∀(l:J eG)(i j:U),endOf i j (l++[m])=(m.1+m.2.2,m.2.1+m.2.2):=by
 intro I;induction I with
 |Yl=>
  intro i j;exact rfl|Zp x l a=>
  intro i j;exact a _ _
theorem qp:∀(l:J eG)(i j:U),(dz i j l).length<=2*Xl:=by
 intro I;induction I with
 |Yl=>
  intro i j;exact ZV _|Zp x l a=>
  intro i j;have:=a (x.1+x.2.2) (x.2.1+x.2.2);have:(cK i j x).length<=2:=by unfold cK;split<;>split<;>simp
  show(cK i j x++dz _ _ l).length<=_;rw[Z1,YG];exact cD 0x1ffe65070a011e5e3cc841 [2,2,2] [_,_,_] [] ‹_› this
def gf(o:Op):MV:=.tup [.str o.1,.int (o.2.1:U),.int (o.2.2.1:U),.int (o.2.2.2.1:U),.int (o.2.2.2.2:U)]
theorem wq.set(c:wq l n i x d q r s b XN al)(h:∀y∈(["a","b","b2j","bjunk"]:J Z),z3 y=PO y):wq l n (Y7 i d (.ns a)) x d q r s b XN a:=by
 have ne:∀{f:Y9}{o:MO},i f=Zag->o≠.ns al->f≠d:=λe g=>by intro j;subst j;rw[c.inst.dc]at e;cases e;exact g rfl
 obtain⟨k,h1,h2⟩:=c.tab;refine⟨c.inst.set,(h _ Z').trans c.la,(h _ Z').trans c.lb,(h _ Z').trans c.ld,(h _ Z').trans c.lj,⟨k,?_,λm=>(h2 m).imp (λp=>Su p λf Yw=>Uc Yw λe1 e2=>⟨f,e1,by rw[ag (ne e2 (by intro h;cases h))];exact e2⟩) id⟩,?_⟩;.rw[ag (ne h1 (by intro h;cases h))];exact h1
 .rw[ag (ne c.Cr (by intro h;cases h))];exact c.Cr
abbrev GJ(x:Y9)(i j:U)(an:Y9):YV:=[("self",ZaK),("i",Zbs),("j",Zb9),("answer",Zdf)]
abbrev Gj(x:Y9)(i j:U)(an:Y9)(m:eG)(tag:Z):YV:=GJ x i j an++([("ai",.int m.1),("bj",.int m.2.1),("size",.int m.2.2),("tag",.str tag)]:YV)
theorem A4(D:hU X b)(M:d8 X b)(gE:dY X)(hb:ZcS)(hr:VY "range"=none/\U9 "range"=some ZaH)(hl:VY "list"=none/\U9 "list"=some Zad)(hm:VY "map"=none/\U9 "map"=some Zax)(rm:Rm X m (Qo+9))(G:wq X tk E x d F S s k XN (vW s k F S V))(Qb:ZR<=10000)(Qc:V4<=10000)(hB:(j8 XN s k (0,ZR,0,V4)).length<64)(I:∀i an,Wy Zch i->E an=none->i an=some (.list ((dz 0 0 (j8 XN s k (0,ZR,0,V4)++[(ZR,V4,0)])).map gf))->g Zdf i):b8 X m (.ref D.ops.f) [ZaK] E g:=by
  revert I;generalize PX:j8 XN s k (0,ZR,0,V4)++[(ZR,V4,0)]=B;intro I;refine D.ops.fn.call b rm ["self"] (Fb λO=>rfl) Z' rfl ZbS λQp=>?_;intro Zn;walk_at"d";have r:=WH Zn;have hg:∀PY,[].contains PY=true->YJ PY=Zaa:=e7 rfl;refine ZJ (IL ?_);refine ZJ (XF (XC r (zy D Z' rfl G.inst rfl (by intro id h;cases h) (K4 ⟨false,rfl,(λh=>by cases h),λO=>YW ?_⟩))));refine ZJ (EF.xM (X2 ?_) (.inl rfl) (.inl rfl));walk_at"E";refine ZJ (gS (VX (Y5 ⟨by decide,λan w=>?_⟩)));walk_at"aS";have H1:=G.ext ((I4 E).upd (a:=Zaq) w);refine OT D.c (j2 _ Z') (eK _ Z') (Z4 rfl ⟨x,d,_,rfl,H1.inst,by simp,Oe (.inl rfl) ?_⟩);have PZ:an≠d:=by intro N;subst N;rw[G.inst.dc]at w;cases w
  have Q:=H1.set (a:=aJ "opcodes" Zdf (vW s k F S V)) (cq rfl (cq rfl (cq rfl (cq rfl jP))));have ex2:Wy Zch (Y7 (Y7 E an (.list [])) d ZaI):=λa o e=>by
    obtain⟨e1,e2⟩:=ck e;rw[ag e1];exact cB e2 w
  have P0:Y7 (Y7 E an (.list [])) d ZaI an=some Zaq:=by rw[ag PZ];exact aa ..
  show EF X _ _ _ _ (Y7 (Y7 E an (.list [])) d ZaI) _;generalize Y7 (Y7 E an (.list [])) d ZaI=Qq at Q ex2 P0;have P2:∀a o,Zch a=Zag->a≠an:=λa o e=>by intro N;subst N;rw[(ck e).2]at w;cases w
  refine ZJ (q' Xy (λp l i=>Wy Zch i/\i an=some (.list ((dz 0 0 (hK p)).map gf))/\l=GJ x (endOf 0 0 (hK p)).1 (endOf 0 0 (hK p)).2 an) (EV.we D D.JE Z' rfl Q.inst rfl ?_));refine Aa D M gE hb hr hl hm r Q rfl rfl (WE Z_) Qb Qc rfl hB λQd ex3 O=>?_;have Qe:(j8 XN s k (0,ZR,0,V4)).map (λq=>qa q.1 q.2.1 q.2.2)++[qa ZR V4 0]=B.map (λq:eG=>qa q.1 q.2.1 q.2.2):=by rw[<-PX,ZE];rfl
  rw[Qe];have P4:B.length<=64:=by rw[<-PX,Z1,YY];(exact GK hB)
  have Qf:=ex3 _ _ (by rw[bZ _ PZ];exact P0);have ex4:Wy Zch Qd:=λa o e=>ex3 _ _ (by rw[bZ _ (ck e).1];exact ex2 _ _ e);refine⟨_,GJ x 0 0 an,rfl,⟨ex4,Qf,rfl⟩,Zb3,λp q l i hm PM=>?_,λl i PM=>?_⟩
  . obtain⟨PN,A,rfl⟩:=PM;rw[Zy]at hm;refine gC (B[p]?) (λz=>?_) λy z=>?_;.rw[z]at hm;cases hm
    . rw[z]at hm;obtain rfl:qa y.1 y.2.1 y.2.2=q:=by simpa using hm
      have P5:=(ZN z).1;have Qg:hK (p+1)=hK p++[y]:=by rw[X9,z];rfl
      have P6:=qp (hK p) 0 0;have P7:(hK p).length<=p:=by rw[Zo];(exact cY 0x190d841 [_,_])
      refine bq.FZ (TG.Bl M.t Xy (.inl rfl) (.inl rfl) (.inl rfl)) ?_;rw[Qg,vz,wO];generalize hK p=P8 at*;generalize dz 0 0 P8=done at*;generalize endOf 0 0 P8=e at*;obtain⟨n,j⟩:=e;dsimp only at*;refine ZJ (Zk (Wb ?_) (.inl rfl));refine ZJ ?_;generalize Qh:iU _ _ _ _ _=P9;have Qi:∀i,Wy Zch i->i an=some (.list (RZ gf))->P9 .next (Gj x n j an y (e9 n y.1 j y.2.1)) i:=by
        intro i ex5 PR;subst Qh;generalize PS:e9 n y.1 j y.2.1=tag;have Qj:nP<=ZK:=by
          rw[<-PS];unfold e9;refine bQ rfl (λO=>?_) λO=>?_;.decide
          . refine bQ rfl (λO=>?_) λO=>?_;.decide
            .split<;>decide
        refine ZJ ?_;generalize Qk:iU _ _ _ _ _=Ql;have Qa:∀i d1,d1=done++(if nP=0 then[]else[(tag,n,y.1,j,y.2.1)])->Wy Zch i->i an=some (.list (d1.map gf))->Ql .next (Gj x n j an y tag) i:=by
          intro i d1 qM ex6 PT;subst Qk;show EF X _ _ _ _ _ _;have Qm:d1.length<=done.length+1:=by rw[qM,Z1];split<;>simp
          refine ZJ (ha Xy (X0 b hb r hg (mv:=.tup [.int (y.1+y.2.2),.int (y.2.1+y.2.2)]) Z_ ⟨_,rfl,rfl,?_⟩) (cq (.inl rfl) (cq (.inl rfl) jP)));refine ZJ (XF (Tn (Z4 rfl ⟨((y.2.2:Zv)!=0),rfl,λu=>?_,λu=>YW (YW ⟨_,⟨ex6,?_,rfl⟩,?_⟩)⟩)))
          . have ON:y.2.2≠0:=by intro h;rw[h]at u;simp at u
            refine ZJ (VI (W4 (Z4 rfl ⟨an,_,rfl,PT,X0 b hb r hg (mv:=gf ("equal",y.1,y.1+y.2.2,y.2.1,y.2.1+y.2.2)) ?_ ⟨_,PT,by rw[Z2,af];(exact E9 0x3ffffff97973070cb90933220f2f16841 [64,2,16777216] [_,_,_,_,_] [] P5 P4 P6 P7 Qm),rfl,YW (YW ⟨_,⟨ex6.upd ?_,?_,rfl⟩,?_⟩)⟩⟩)));.show _=some (MV.tup [.str "equal",.int (y.1:U),.int ((y.1+y.2.2:U):Zv),.int (y.2.1:U),.int ((y.2.1+y.2.2:U):Zv)]);kernel_rfl!
            .cases e:G_ E d an with|none=>rfl|some o=>exact Za rfl (P2 _ _ e)
            .rw[aa,qM];unfold cK;rw[PS,ZY ON,<-ZQ];simp only[ZE];rfl
            .show N' (GJ x (y.1+y.2.2) (y.2.1+y.2.2) an) _;exact av Z_
          . have ON:y.2.2=0:=by simpa using u
            rw[PT,qM];unfold cK;rw[PS,ZT ON,Zm]
          .show N' (GJ x (y.1+y.2.2) (y.2.1+y.2.2) an) _;unfold GJ;rw[t_,t_];exact av Z_
        refine XF (Tn (Z4 rfl ⟨decide (nP≠0),?_,λu=>?_,λu=>YW (Qa i done ?_ ex5 PR)⟩));.exact ZT Qj
        . have ON:¬nP=0:=by exact Zi u
          refine ZJ (VI (W4 (Z4 rfl ⟨an,_,rfl,PR,X0 b hb r hg (mv:=gf (tag,n,y.1,j,y.2.1)) Z_ ⟨_,PR,by rw[Z2,af];(exact pk 0xfffffcbc790933220f2f16841 [64,2,16777216] [_,_,_,_] [] P5 P4 P6 P7),rfl,YW (Qa _ (done++[(tag,n,y.1,j,y.2.1)]) (by rw[ZY ON]) (ex5.upd ?_) ?_)⟩⟩)));.cases e:G_ E d an with
            |none=>rfl|some o=>exact Za rfl (P2 _ _ e)
          .rw[aa,ZE];rfl
        . have ON:nP=0:=by simpa using u
          rw[ZT ON,Zm]
      have T:∀p:Z,e9 n y.1 j y.2.1=p->P9 .next (Gj x n j an y p) i:=λp e=>by rw[<-e];exact Qi i PN A
      refine XF (uD b hb r hg (c:=decide ((n:Zv)<y.1)) (r:=decide ((j:Zv)<y.2.1)) Z_ Z_ ⟨λh=>?_,λh=>?_⟩);.simp only[YM,XY]at h;exact ZJ (Zk (Wb (YW (T _ (by unfold e9;rw[ZT (aV 0x7fba20f420f75324c7a98a61 [_,_,_,_] h)])))) (.inl rfl))
      . have PW:¬(n<y.1/\j<y.2.1):=by
          intro Qn;have:(decide ((n:Zv)<y.1)&&decide ((j:Zv)<y.2.1))=true:=by simp only[YM,XY];(exact aV 0x7fba99263d4c530f7441e841 [_,_,_,_] Qn)
          rw[this]at h;cases h
        refine ZJ (XF (SV b hb r hg (c:=decide ((n:Zv)<y.1)) Z_ ⟨λh=>?_,λh=>?_⟩))
        . have h1:n<y.1:=by
            have:(n:Zv)<y.1:=by exact Zi h
            exact Hp this
          exact ZJ (Zk (Wb (YW (YW (T _ (by unfold e9;rw[ZY PW,ZT h1]))))) (.inl rfl))
        . have h1:¬n<y.1:=by
            have:¬(n:Zv)<y.1:=by simpa using h
            exact aV 0x7f9a1079a98a61 [_,_] this
          refine ZJ (XF (SV b hb r hg (c:=decide ((j:Zv)<y.2.1)) Z_ ⟨λh=>?_,λh=>?_⟩))
          . have h2:j<y.2.1:=by
              have:(j:Zv)<y.2.1:=by exact Zi h
              exact Hp this
            exact ZJ (Zk (Wb (YW (YW (YW (T _ (by unfold e9;rw[ZY PW,ZY h1,ZT h2])))))) (.inl rfl))
          . have h2:¬j<y.2.1:=by
              have:¬(j:Zv)<y.2.1:=by simpa using h
              exact aV 0x7f9a1079a98a61 [_,_] this
            exact YW (YW (YW (T _ (by unfold e9;rw[ZY PW,ZY h1,ZY h2]))))
  .obtain⟨PN,A,YA⟩:=PM;rw[YA];rw[Z2,XX]at A;exact ZJ (QO (Z4 rfl (I _ _ PN w A)))
theorem L9:((j:Zv)-p>(I:Zv)+I)↔j-p>I+I:=⟨λh=>Nat.lt_sub_of_add_lt (fx (Int.add_lt_of_lt_sub_right h)),λh=>dx (Vc (Nat.add_lt_of_lt_sub h))⟩
def Op.eq(o:Op):YZ:=o.1==("equal")
def qR(n:U)(o:Op):Op:=(o.1,max o.2.1 (o.2.2.1-n),o.2.2.1,max o.2.2.2.1 (o.2.2.2.2-n),o.2.2.2.2)
def kJ(n:U)(o:Op):Op:=(o.1,o.2.1,min o.2.2.1 (o.2.1+n),o.2.2.2.1,min o.2.2.2.2 (o.2.2.2.1+n))
def iK(n:U)(cs:ZbO):ZbO:=if(cs.getD 0 default).eq=true then cs.set 0 (qR n (cs.getD 0 default))else cs
def gB(n:U)(cs:ZbO):ZbO:=if(cs.getD (qs-1) default).eq=true then cs.set (qs-1) (kJ n (cs.getD (qs-1) default))else cs
def fY(n:U)(g l:ZbO):J ZbO:=VF (λo k g=>if o.eq=true/\o.2.2.1-o.2.1>n+n then(g++[kJ n o])::k [qR n o]else k (g++[o])) (λg=>if g≠[]/\¬(K1=1/\(g.getD 0 default).eq=true)then[g]else[]) g
theorem m8(n a):fY n a []=if a≠[]/\¬(ZC=1/\(Vu 0 default).eq=true)then[a]else[]:=rfl
def Sz(n:U)(cs:ZbO):J ZbO:=fY n [] (gB n (iK n (if cs=[]then[(("equal"),0,1,0,1)]else cs)))
def gW(g:ZbO):MV:=.lst (g.map gf)
theorem kQ(a b n:U):(if(b:Zv)-n>a then(b:Zv)-n else(a:Zv))=((max a (b-n):U):Zv):=by split<;>(first|exact aV 0x1fdcef11883198e62d466398a61 [_,_,_] ‹_›|exact aV 0x7f73bc4620cc3cd466398a61 [_,_,_] ‹_›)
theorem kG(a b n:U):(if(b:Zv)+n<a then(b:Zv)+n else(a:Zv))=((min a (b+n):U):Zv):=by split<;>(first|exact aV 0x1fdced01047098a61d4c7098a61 [_,_,_] ‹_›|exact aV 0x7f73b40411cc7cd4c7098a61 [_,_,_] ‹_›)
abbrev DG(x:Y9)(n:U)(cs:ZbO)(ga:MV):YV:=[("self",ZaK),("n",Zbp),("codes",.lst (cs.map gf)),("nn",.int ((n:Zv)+n)),("group",ga)]
abbrev BU(x:Y9)(n:U)(cs:ZbO)(ga:MV)(o:Op):YV:=DG x n cs ga++([("tag",.str o.1),("i1",.int (o.2.1:U)),("i2",.int (o.2.2.1:U)),("j1",.int (o.2.2.2.1:U)),("j2",.int (o.2.2.2.2:U))]:YV)
theorem gV(n:U)(g:ZbO)(o:Op)(r:ZbO):fY n g (o::r)=if o.eq=true/\o.2.2.1-o.2.1>n+n then(g++[kJ n o])::fY n [qR n o] r else fY n (g++[o]) r:=rfl
abbrev KL(x:Y9)(n:U)(an:Y9):YV:=[("self",ZaK),("n",Zbp),("codes",Zdf)]
theorem lO(h:d a=Zbz)(c:b[0]?=Zbe):bS d Zaj (.int 0)=Zbe:=kl (eM h) Z' (by cases b with|Yl=>cases c|Zp x r=>rw[(jT (j:=0) (j3 _):U' 0 (x::r).length=some 0)];exact c)
theorem uN(h:c a=Zbz)(d:b[Zw-1]?=Zbe):bS c Zaj (.int (-1))=Zbe:=qd (eM h) d
theorem Fm(b:EB d f Zn (XE n Zn (ZH n Zn)) l a λc i=>c=s/\i=a)(g:EB d f Zn (XE r Zn (ZH r Zn)) l a λc i=>c=u/\i=a)(k:Nj (s&&u) a):EB d f Zn (XE (.BoolOp .And [n,r] Ym) Zn Up) l a Nj:=VS (b.mono λc i q=>by
  clear b;rw[q.1,q.2];refine⟨λe=>?_,λe=>by subst e;exact k⟩;subst e;exact VS (g.mono λc i q=>by
   rw[q.1,q.2];clear g;exact⟨λe=>by subst e;exact u_ k,λe=>by rw[<-e];exact k⟩))
def Mw(D:hU X NC):CL:=xV "SequenceMatcher.get_grouped_opcodes" (fz 5 9) D.x5.pm D.x5.cd D.x5.doc (.ref D.dG) .none
def wz(D:hU X NC)(a:Y9):S2:=Xd (Mw D) a D.x5.f
theorem Fd(D:hU X b)(QD:d8 X b)(gE:dY X)(hb:ZcS)(hr:VY "range"=none/\U9 "range"=some ZaH)(hl:VY "list"=none/\U9 "list"=some Zad)(hm:VY "map"=none/\U9 "map"=some Zax)(PX:hY X m Ni XS (k+9))(P5:wq X tk E x QE QF QG s f XN (vW s f QF QG Q5))(Qg:Wy w E)(Qh:w QE=none)(QH:ZR<=10000)(QI:W0<=10000)(hB:(j8 XN s f (0,ZR,0,W0)).length<64)(I:PY=(Sz n (dz 0 0 (j8 XN s f (0,ZR,0,W0)++[(ZR,W0,0)]))).map gW):GF X m Nv Ni XS Nk (wz D S) (Yk (bH (fz 5 9)) (wz D S)) [("self",ZaK),("n",Zbp)] E w PY λo O i N Q=>(o=.next\/o=.ret .none)/\Q=[]/\Wy N i:=by
  walk_at"Y";have r:=PX.rm;have hg:∀P6,[("max"),"min","len"].contains P6=true->(wz D S).kindOf P6=Zaa:=λP6 Qi=>by
    simp only[Wr,VD,TO,Bool.or_eq_true,V5]at Qi;rcases Qi with rfl|rfl|rfl<;>rfl
  refine Sn (IL ?_);refine Sn (Zk (EV.we D D.ops Z' rfl P5.inst rfl (A4 D QD gE hb hr hl hm (Qo:=k) PX.rm P5 QH QI hB λG an Su Qj g=>?_)) (.inl rfl));have M:w an=none:=Qg.none Qj;have e:Wy w G:=λQk o d=>Su Qk o (by rw[bZ _ (by intro j;subst j;rw[Qh]at d;cases d)];exact Qg Qk o d);have T:(dz 0 0 (j8 XN s f (0,ZR,0,W0)++[(ZR,W0,0)])).length<=128:=by
    have:=qp (j8 XN s f (0,ZR,0,W0)++[(ZR,W0,0)]) 0 0;rw[Z1,YY]at this;(exact cD 0x3ffcbc59941c1169e1 [64,2,128] [_,_] [] hB this)
  unfold Sz at I;generalize dz 0 0 (j8 XN s f (0,ZR,0,W0)++[(ZR,W0,0)])=cs at*;clear Su Qj P5 Qh;refine Sn ?_;walk_at"d";generalize QJ:rO _ _ _ _ _ _ _ _ _ _ _=QK;have Ql:∀(i:GH)(an:Y9)(cs:ZbO),cs≠[]->qs<=128->Wy w i->w an=none->i an=some (.list (cs.map gf))->PY=(fY n [] (gB n (iK n cs))).map gW->QK .next (KL x n an) i:=by
    clear g M e I T;intro G an cs A T e M g I;subst QJ;walk_at"aT";show GF X _ _ _ _ _ _ _ _ _ _ _ _;obtain⟨o0,P7⟩:∃o,cs[0]?=Zag:=⟨_,Z6 (Xi A)⟩;have q:cs.getD 0 default=o0:=by rw[Z0,P7];rfl
    have PN:bS G Zdf (.int 0)=some (gf o0):=by exact lO g (by rw[Zy,P7];rfl)
    refine Sn ?_;generalize QL:rO _ _ _ _ _ _ _ _ _ _ _=QM;have Qm:∀(i:GH)(c:YV),N' (KL x n an) c->Wy w i->i an=some (.list ((iK n cs).map gf))->QM .next c i:=by
      intro Qn c P8 e g;subst QL;show GF X _ _ _ _ _ _ _ _ _ _ _ _;refine GF.eF P8 ?_;walk_at"F";have Qo:iK n cs≠[]:=by
        unfold iK;refine bQ rfl (λO=>?_) λO=>?_;.intro d;have:=Zq Sm d;rw[List.length_set]at this;exact A (OD this)
        .exact A
      walk_at"v";have Qp:(iK n cs).length<=128:=by unfold iK;split<;>simp[T]
      generalize iK n cs=c1 at*;clear PN q P7 A T;have P9:hI-1<hI:=by have:=Xi Qo;(exact Ic this)
      obtain⟨o1,Qa⟩:∃o,c1[hI-1]?=Zag:=⟨_,Z6 P9⟩;have q:c1.getD (hI-1) default=o1:=by rw[Z0,Qa];rfl
      have Qb:bS Qn Zdf (.int (-1))=some (gf o1):=uN g (by rw[Z2,Zy,Qa];rfl);refine Sn ?_;generalize QN:rO _ _ _ _ _ _ _ _ _ _ _=QP;have Qq:∀(i:GH)(c:YV),N' (KL x n an) c->Wy w i->i an=some (.list ((gB n c1).map gf))->QP .next c i:=by
        intro PR c P8 e g;subst QN;show GF X _ _ _ _ _ _ _ _ _ _ _ _;refine GF.eF P8 ?_;walk_at"F";have PZ:(gB n c1).length<=128:=by unfold gB;split<;>simp[Qp]
        generalize gB n c1=c2 at*;clear Qb q Qa Qo Qp P9;refine Sn (Zk (X0 b hb r hg (mv:=.int ((n:Zv)+n)) Z_ ?_) (.inl rfl));refine Sn (Zk (VX (Y5 ⟨by decide,λg0 V=>?_⟩)) (.inl rfl));have Qr:an≠g0:=by intro j;subst j;rw[g]at V;cases V
        have Qt:Y7 PR g0 Zaq an=some (.list (c2.map gf)):=cB g V;have Qu:Y7 PR g0 Zaq g0=some Zaq:=aa ..;have ex4:Wy w (Y7 PR g0 (.list [])):=e.upd (a3 V);have QQ:w g0=none:=a3 V;show GF X _ _ _ _ _ _ _ _ (Y7 PR g0 (.list [])) _ _ _;generalize Y7 PR g0 Zaq=Qc at*;refine GF.freeze Qt Zdc (λPS mv d=>?_) ?_
        . have B:(aJ "codes" (.lst (c2.map gf)) Zdc).lookup PS=ZaS:=d;rw[aB]at B;split at B;.rename_i hy;clear d;cases B;exact .inr ⟨by rw[hy];rfl,rfl⟩
          . rename_i hy;refine .inl ?_;have e2:(aJ "codes" Zdf (aJ "codes" (.lst (c2.map gf)) (DG x n c2 (.ref g0)))).lookup PS=ZaS:=by rw[aB,ZY hy,aB,ZY hy];exact d
            exact e2
        have ex5:Wy w (G_ Qc an):=ex4.del M;have Qv:G_ Qc an g0=some Zaq:=by rw[bZ _ (Zg Qr)];exact Qu
        generalize G_ Qc an=Q6 at ex5 Qv;clear Qt Qu ex4 g V e Qr M;let QR:U->YV->GH->GH->J MV->Prop:=λk PT E w t=>∃(ga:Y9)(a:ZbO),PT=DG x n c2 ZaT/\ZC<=k+1/\Wy w E/\w ga=none/\E ga=some (.list (Ti gf))/\t=(fY n a (d' k)).map gW;refine R8 (GF.Ih PX QR (Z4 (mv:=.lst (c2.map gf)) rfl ⟨c2.map gf,λk PT=>dU PT ["tag","i1","i2","j1","j2"] [.str (ju k default).1,.int ((ju k default).2.1:U),.int ((ju k default).2.2.1:U),.int ((ju k default).2.2.2.1:U),.int ((ju k default).2.2.2.2:U)],Zdc,rfl,⟨g0,[],rfl,by simp,ex5,QQ,Qv,I⟩,Zb3,λQ7 QS k Qw y=>?_,λQ8 Q9 Ra k Qw PT E w PY PM y Qd=>?_,λPT E w PY Qd=>?_⟩))
        . rw[Zy]at y;refine gC (c2[k]?) (λl=>?_) λo l=>?_;.rw[l]at y;cases y
          . rw[l]at y;obtain rfl:gf o=Qw:=by simpa using y
            have P0:ju k default=o:=by rw[Z0,l];rfl
            simp only[P0];exact(TG.tup QS (NB:=[("tag",_),("i1",_),("i2",_),("j1",_),("j2",_)]) (cq (.inl rfl) (cq (.inl rfl) (cq (.inl rfl) (cq (.inl rfl) (cq (.inl rfl) jP))))) rfl).gA
        . obtain⟨ga,a,rfl,z,e,F,p,rfl⟩:=Qd;rw[Zy]at y;refine gC (c2[k]?) (λl=>?_) λo l=>?_;.rw[l]at y;cases y
          . have P0:ju k default=o:=by rw[Z0,l];rfl
            have P2:=(ZN l).1;have QT:d' k=o::d' (k+1):=by
              rw[XB P2];rw[Z6 P2]at l;clear P0;cases l;rfl
            simp only[P0];rw[QT];refine R8 ?_;generalize QU:xn _ _ _ _ _ _ _ _ _=QV;have Qx:∀(E w:GH)(ga:Y9)(a:ZbO)(PW:Op)(t:ZaY),Wy w E->w ga=none->E ga=some (.list (Ti gf))->ZC<=k+1->t=(fY n (a++[PW]) (d' (k+1))).map gW->QV .next (BU x n c2 (.ref ga) PW) E w t:=by
              intro E w ga a PW t e F p z ht;subst QU;show GF X _ _ _ _ _ _ _ _ _ _ _ _;refine Sn (VI (W4 (Z4 rfl ⟨ga,_,rfl,p,X0 b hb PM.rm hg (mv:=gf PW) Z_ ⟨_,p,by rw[Z2,af];(exact rU 0x1ffff2f1e60e08f2f16841 [128,16777216] [_,_,_] [] P2 PZ z),rfl,So ⟨_,⟨ga,a++[PW],rfl,?_,e.upd F,F,?_,ht⟩,?_⟩⟩⟩)));.rw[Z1,YY];(exact Hz z)
              .rw[aa,ZE];rfl
              .exact av Z_
            have QW:∀(Qy:Y9)(Qe:MV),BU x n c2 Qe o=aJ "group" Qe (BU x n c2 (.ref Qy) o):=λQy Qe=>by kernel_rfl!
            refine a6 (uD b hb PM.rm hg (c:=o.eq) (r:=decide ((o.2.2.1:Zv)-o.2.1>(n:Zv)+n)) Z_ Z_ ⟨λh=>?_,λh=>So ?_⟩)
            . simp only[YM,XY]at h;have u:o.eq=true/\o.2.2.1-o.2.1>n+n:=⟨h.1,L9.mp h.2⟩;have ht:(fY n a (o::d' (k+1))).map gW=gW (a++[kJ n o])::(fY n [qR n o] (d' (k+1))).map gW:=by rw[gV,ZT u,Yd]
              refine Sn (VI (W4 (Z4 rfl ⟨ga,_,rfl,p,X0 b hb PM.rm hg (mv:=.tup [.str o.1,.int (o.2.1:U),.int (if(o.2.1:Zv)+n<o.2.2.1 then(o.2.1:Zv)+n else(o.2.2.1:Zv)),.int (o.2.2.2.1:U),.int (if(o.2.2.2.1:Zv)+n<o.2.2.2.2 then(o.2.2.2.1:Zv)+n else(o.2.2.2.2:Zv))]) Z_ ⟨_,p,by rw[Z2,af];(exact rU 0x1ffff2f1e60e08f2f16841 [128,16777216] [_,_,_] [] P2 PZ z),rfl,?_⟩⟩)));rw[kG,kG];have Qz:Y7 E ga (.list (Ti gf++[gf (kJ n o)])) ga=some (.list ((a++[kJ n o]).map gf)):=by rw[aa,ZE];rfl
              have e1:Wy w (Y7 E ga (.list (Ti gf++[gf (kJ n o)]))):=e.upd F;show GF X _ _ _ _ _ _ _ (BU x n c2 (.ref ga) o) (Y7 E ga (.list (Ti gf++[gf (kJ n o)]))) _ _ _;generalize Y7 E ga (.list (Ti gf++[gf (kJ n o)]))=G at Qz e1;refine GF.freeze Qz (BU x n c2 (gW (a++[kJ n o])) o) (λPS mv d=>?_) ?_
              . rw[QW ga,aB]at d;split at d;.rename_i hy;cases d;exact .inr ⟨by rw[hy];rfl,rfl⟩
                .exact .inl d
              refine R8 (I3 PM rfl ht (Z4 rfl ⟨rfl,e1.del F,λQX QA O he=>?_⟩));refine Sn (Zk (VX (Y5 ⟨by decide,λQY QB=>?_⟩)) (.inl rfl));refine Sn (ha PM.rm.handled (WD:=["i1","j1"]) (X0 b hb PM.rm hg (mv:=.tup [.int (if(o.2.2.1:Zv)-n>o.2.1 then(o.2.2.1:Zv)-n else(o.2.1:Zv)),.int (if(o.2.2.2.2:Zv)-n>o.2.2.2.1 then(o.2.2.2.2:Zv)-n else(o.2.2.2.1:Zv))]) Z_ ⟨_,rfl,rfl,?_⟩) (cq (.inl rfl) (cq (.inl rfl) jP)));rw[kQ,kQ];exact So (Qx _ QA QY [] (qR n o) _ (he.upd (he.none QB)) (he.none QB) (aa ..) (by simp) rfl)
            . have u:¬(o.eq=true/\o.2.2.1-o.2.1>n+n):=by
                intro u;have:(o.eq&&decide ((o.2.2.1:Zv)-o.2.1>(n:Zv)+n))=true:=by rw[u.1,o_];exact Yt (L9.mpr u.2)
                rw[this]at h;cases h
              exact Qx E w ga a o _ e F p z (by rw[gV,ZY u])
        . obtain⟨ga,a,rfl,z,e,F,p,rfl⟩:=Qd;rw[Z2,O'];rw[Z2]at z;have stop:∀(t:ZaY),t=[]->GF X m Nv Ni XS Nk (wz D S) (Yk [] (wz D S)) (DG x n c2 (.ref ga)) E w t λo c i N Q=>match o with
              |.next=>GF X m Nv Ni XS Nk (wz D S) (Yk [] (wz D S)) c i N Q λo O i N Q=>(o=.next\/o=.ret .none)/\Q=[]/\Wy N i|o=>(o=.next\/o=.ret .none)/\Q=[]/\Wy N i:=λt ht=>So (So ⟨.inl rfl,ht,e⟩);have QZ:l8 E ZaT=some ZC:=by exact(Zq (U5 Sm) (eM p)).trans (Zq some (Z2 ..))
          show GF X _ _ _ _ _ _ _ _ _ _ _ _;refine R8 (a6 (VS (Tn (Z4 rfl ⟨!a.isEmpty,?_,λQf=>?_,λQf=>⟨(λh=>by cases h),λO=>stop _ ?_⟩⟩))));.exact(Kg (c8 p) (by rw[Z2,af];(exact cD 0x1ffe5e2cc1c1165e1 [128,16777216] [_,_] [] PZ z))).trans (by rw[O_])
          . have A:a≠[]:=by intro j;subst j;cases Qf
            obtain⟨o0,P4⟩:∃o,a[0]?=Zag:=⟨_,Z6 (Xi A)⟩;have q:Vu 0 default=o0:=by rw[Z0,P4];rfl
            have PN:bS E ZaT (.int 0)=some (gf o0):=lO p (by rw[Zy,P4];rfl);have Q2:¬(ZC=1/\o0.eq=true)->(fY n a []).map gW=[gW a]:=λh=>by rw[m8,q,ZT ⟨A,h⟩];rfl
            refine VS (EB.rC (Fm (s:=((ZC:Zv)==1)) (u:=o0.eq) (XC r (EV.F1 hb rfl (Z4 rfl ⟨ZC,QZ,by rw[af];(exact cD 0x1ffe5e2cc1c1165e1 [128,16777216] [_,_] [] PZ z),X2 ⟨_,rfl,rfl,rfl⟩⟩))) (XC r (Ys (Ys (Z4 rfl (X2 ⟨_,PN,X2 ⟨.str o0.1,rfl,Wb ⟨_,rfl,rfl,rfl⟩⟩⟩))))) ⟨λh=>u_ ⟨λO=>?_,(λh=>by cases h)⟩,λh=>⟨(λh=>by cases h),λO=>stop _ ?_⟩⟩))
            . have u:¬(ZC=1/\o0.eq=true):=by
                intro j;obtain⟨Q3,q2⟩:=j;rw[Q3,q2]at h;cases h
              refine GF.freeze p (DG x n c2 (gW a)) (λPS mv d=>?_) ?_
              . have B:(aJ "group" (gW a) (DG x n c2 (.ref ga))).lookup PS=ZaS:=d;rw[aB]at B;split at B;.rename_i hy;clear d;cases B;exact .inr ⟨by rw[hy];rfl,rfl⟩
                .exact .inl B
              exact R8 (I3 PX rfl (Q2 u) (Z4 rfl ⟨rfl,e.del F,λQX QA O he=>So (So ⟨.inl rfl,rfl,he⟩)⟩))
            . have u:ZC=1/\o0.eq=true:=by
                have:(((ZC:Zv)==1)&&o0.eq)=true:=by cases hh:(((ZC:Zv)==1)&&o0.eq)with
                  |false=>rw[hh]at h;cases h|true=>rfl
                simp only[YM,V5]at this;exact⟨Int.ofNat_inj.mp this.1,this.2⟩
              rw[m8,q,ZY (λQ4=>Q4.2 u)];rfl
          . have:a=[]:=by cases a with|Yl=>rfl|Zp=>cases Qf
            subst this;rw[m8,ZY (λh=>h.1 rfl)];rfl
      refine XF (XC r (Ys (Ys (Z4 rfl (X0 b hb r hg (mv:=.int (-1)) Z_ ⟨_,Qb,X2 ⟨.str o1.1,rfl,X0 b hb r hg (mv:=.str "equal") Z_ ⟨o1.eq,rfl,λh=>?_,λh=>YW (Qq Qn _ (Tq _) e ?_)⟩⟩⟩)))))
      . refine ZJ (sp (Ys (Z4 rfl (X0 b hb r hg (mv:=.int (-1)) Z_ ⟨_,Qb,?_⟩))));refine bq.tup Xy (NB:=[("tag",_),("i1",_),("i2",_),("j1",_),("j2",_)]) (cq (.inl rfl) (cq (.inl rfl) (cq (.inl rfl) (cq (.inl rfl) (cq (.inl rfl) jP))))) rfl ?_;refine ZJ (EF.CK (X0 b hb r hg (mv:=.tup [.str o1.1,.int o1.2.1,.int (if(o1.2.1:Zv)+n<o1.2.2.1 then(o1.2.1:Zv)+n else(o1.2.2.1:Zv)),.int o1.2.2.2.1,.int (if(o1.2.2.2.1:Zv)+n<o1.2.2.2.2 then(o1.2.2.2.1:Zv)+n else(o1.2.2.2.2:Zv))]) Z_ ?_));rw[kG,kG];refine bq.xf (Z4 rfl (X0 b hb r hg (mv:=.int (-1)) Z_ ⟨an,_,-1,hI-1,rfl,rfl,g,.inr ⟨rfl,by rw[Z2]⟩,(by rw[Z2];exact P9),YW (Qq _ _ ?_ (e.upd M) ?_)⟩));.exact av Z_
        .rw[aa];unfold gB;rw[q,ZT h,List.map_set];rfl
      .unfold gB;rw[q,h];exact g
    refine XF (XC r (Ys (Ys (Z4 rfl (X2 ⟨_,PN,X2 ⟨.str o0.1,rfl,Wb ⟨o0.eq,rfl,λh=>?_,λh=>YW (Qm G _ (Tq _) e ?_)⟩⟩⟩)))))
    . refine ZJ (sp (Ys (Z4 rfl (X2 ⟨_,PN,?_⟩))));refine bq.tup Xy (NB:=[("tag",_),("i1",_),("i2",_),("j1",_),("j2",_)]) (cq (.inl rfl) (cq (.inl rfl) (cq (.inl rfl) (cq (.inl rfl) (cq (.inl rfl) jP))))) rfl ?_;refine ZJ (EF.CK (X0 b hb r hg (mv:=.tup [.str o0.1,.int (if(o0.2.2.1:Zv)-n>o0.2.1 then(o0.2.2.1:Zv)-n else(o0.2.1:Zv)),.int o0.2.2.1,.int (if(o0.2.2.2.2:Zv)-n>o0.2.2.2.1 then(o0.2.2.2.2:Zv)-n else(o0.2.2.2.1:Zv)),.int o0.2.2.2.2]) Z_ ?_));rw[kQ,kQ];refine bq.xf (Z4 rfl (X2 ⟨an,_,0,0,rfl,rfl,g,.inl ⟨rfl,rfl⟩,(by rw[Z2];exact Xi A),YW (Qm _ _ ?_ (e.upd M) ?_)⟩));.exact av Z_
      .rw[aa];unfold iK;rw[q,ZT h,List.map_set];rfl
    .unfold iK;rw[q,h];exact g
  refine XF (EB.rC (Tn (Z4 rfl ⟨!cs.isEmpty,?_,λh=>?_,λh=>YW (Ql G an cs ?_ T e M g ?_)⟩)));.exact(Kg (c8 g) (by rw[Z2,af];(exact a9 0x7f2f0e5e1 [128,16777216] [_] [] T))).trans (by rw[O_])
  . have P4:cs=[]:=by cases cs with
      |Yl=>rfl|Zp=>cases h
    rw[ZT P4]at I;refine@ZJ _ _ _ _ _ _ _ _ (@Zk _ _ _ _ _ _ _ _ _ _ (@VX _ _ _ _ _ _ _ _ (Zu (X0 b hb r hg (mv:=gf ("equal",0,1,0,1)) Z_ (Y5 ⟨(by simp[af]),λa2 QC=>YW ?_⟩)))) (.inl rfl) rfl);exact Ql _ a2 [("equal",0,1,0,1)] (Y8 _ _) (S_ _) (e.upd (a3 QC)) (a3 QC) (aa ..) I
  .intro j;subst j;cases h
  .rw[I,ZY (by intro j;subst j;cases h)]
theorem Rm.gen(h:Rm X m (n+1))(W8:J Wa)(Zn:S2):Rm X (Th (.func W8 Zn) []) n:=⟨by have:=l7;show G4+0+1+n<=900;(exact aV 0x1fc8e0283a0d0e47083841 [_,_,_] this),by have:=l6;show OV+0+3+20*n<=9000;(exact a9 0x7f23848507c1a1c8e1283841 [20,3,20] [_,_,_] [] this),ri⟩
structure Lib(X:Cx)(b:Zck)where
 gE:dY X
 hb:Q' b
 hr:VY ("range")=none/\U9 ("range")=some ZaH
 hl:VY ("list")=none/\U9 ("list")=some Zad
 hm:VY ("map")=none/\U9 ("map")=some Zax
 Aj:VY ("enumerate")=none/\U9 ("enumerate")=some (.type "enumerate")
 lz:VY ("set")=none/\U9 ("set")=some ZaJ
 D:hU X b
 M:d8 X b
abbrev dE(a s:J Z):J eG:=j8 (eZ s) a s (0,ZC,0,ZR)
abbrev eO(n:U)(s a:J Z):J ZbO:=Sz n (dz 0 0 (dE s a++[(ZR,ZC,0)]))
theorem Az{q:ix}{z:ix}{B:ix}{C:ix}(b:Lib X NC)(rm:Rm X m (j+6))(P2:Xs "SequenceMatcher"=Zaa)(P4:Yb ("a")=some (.lst (ah t)))(P5:Yb ("b")=some (.lst (ah e)))(P6:Yb ("n")=some (.int I))(P7:YI<=1000)(PS:XQ<=1000)(hB:(dE t e).length<64)(P8:Zab)(he:Z3 (ZH (.Call (.Attribute (.Call Zca [.Constant .none p Nx,.Name "a" z,.Name "b" B] [] N2) "get_grouped_opcodes" Pq) [.Name "n" C] [] q) A=(do
      let PT<-ZH (.Call Zca [.Constant .none p Nx,.Name "a" z,.Name "b" B] [] N2) A
      VT Pq.atName let(P9,first)<-T8 [PT] (NO PT "get_grouped_opcodes" Nz)
      OP q P9 first (UE q (Zr [.Name "n" C] A)) [])) aR):ZU YH m (ZH (.Call (.Attribute (.Call Zca [.Constant .none p Nx,.Name "a" z,.Name "b" B] [] N2) "get_grouped_opcodes" Pq) [.Name "n" C] [] q) A) (jN X (.ok (.ret .none)) (j+11) A o E ((eO I t e).map gW) y) bz G:=by
  refine DM b.D.c (λy r QB G a Qa=>by
    obtain⟨PW,Qb,Qc,ga,g,st,le,Qd,q2,q3,q4,q5,Qe,Qf,Qg,Qh⟩:=Qa;exact⟨PW,Qb,Qc,ga,g,st,V8 le,Qd,q2,q3,q4,q5,Qe,Qf,Qg,Qh⟩) b.D.x5.get b.D.x5.fn.get b.D.x5.fn.nt rfl rfl (PG:=none) (by rw[W5,X'];kernel_rfl) ?_ P8 he;walk_at"K";refine EV.Jb NC b.D.c (PY:=j+5) rm P2 b.D.gl b.D.init.get b.D.init.fn.get b.D.init.fn.nt rfl (Zu (K4 (Zu (Z4 P4 (Zu (Z4 P5 (Y5 λQi x d Qj F N Q=>?_)))))));refine zE b.D b.gE b.hb b.Aj b.lz (n:=j+1) Qj ⟨aa ..,by rw[ag Q.symm];exact aa ..⟩ PS λi Qk QC QD k ex=>⟨rfl,x,d,_,rfl,⟨dQ.ext _ _ k.inst.ob,dQ.ext _ _ k.inst.dc⟩,rfl,Zu (Z4 P6 (Y5 λPW QE Ql Qm S=>?_))⟩;walk_at"a";have T:Wy E i:=λa l f=>ex _ _ (by
    clear Q k ex S;have h1:a≠d:=by intro n;subst n;rw[N]at f;cases f
    have h2:a≠x:=by intro n;subst n;rw[F]at f;cases f
    rw[bZ _ h1,ag h2,ag h1];exact f);generalize V:dQ _ i x d=PM at k;have s:Wy PM i:=by rw[<-V];exact dQ.ext
  have newD:∀a l,PM a=some l->E a=none:=λa l f=>by
    rw[<-V]at f;clear Q ex S V k;refine(dQ.new f).elim (λYA=>?_) λYB=>YB.elim (λYA=>?_) λe1=>?_;.rw[YA];exact F
    .rw[YA];exact N
    . by_cases h2:a=x;.rw[h2];exact F
      . by_cases h1:a=d;.rw[h1];exact N
        .rw[ag h2,ag h1]at e1;exact e1
  obtain⟨QF,Qn,Qo,Oy⟩:=Qm.kR;refine V_ ?_;refine ud NC (a:=Mw b.D) (PM:=[]) (PR:=[ZaK,.int I]) ["self","n"] b.D.x5.fn.get b.D.x5.fn.nt rfl b.D.x5.fn.rX b.D.x5.fn.nc rfl rfl rfl rfl (xd b.D.IJ λpm cd Wv Qk y Ql QG PX QH=>?_) Z' (λQp hy=>?_) (w1) Qo (S.mono Qn) .nil λQq ga g Qr Qt ob Qu PY u w PN PZ=>?_;.refine rep2 PX λv1 v2 f=>?_;subst f;exact xO [v1,v2] rfl PX
  . revert Qp;repeat(refine cq (by rfl) ?_)
    exact jP
  obtain⟨Qv,Qw,PR,Qx,_⟩:=Oy Qr _ Qt Qu PY;clear PY;refine⟨Qv,_,Y7 PM Qq (.own (.=ob)),ga,g,_,Qw,PR,rfl,T.trans (((I4 i).upd u).upd w),aa ..,λa l f=>?_,?_,T.none w,λa l f=>?_,λQi Qy=>?_⟩
  . have h1:a≠ga:=by
      clear PR;intro n;subst n;rw[ag (Zg PN),s.none w]at f;cases f
    rw[ag h1];clear u PN PZ PR;exact x7 f (aa ..) λh2 f=>(ag h2).trans (s _ _ f)
  .rw[ag (Zg PN)];exact s.none w
  .exact eN f (T.none u) (newD _ _)
  .refine gD.mono ?_ Qx;refine gD.start (Qy.gen _ _) rfl rfl rfl rfl (s.none u) PZ λQI QJ P0 Qz QA=>?_;exact Fd b.D b.M b.gE b.hb b.hr b.hl b.hm QA (k.ext λa l f=>(P0 a l f).1) Qz (P0 _ _ k.inst.dc).2 (JI P7) (JI PS) hB rfl
section
open Builtin.Str
def Sw(y:Z)(m:MV):Prop:=∀b a,aw b m a->∀(Yz:VU)(w:Tt)(A:X5)(s:Zb)(E Q:ZP->Zb->Prop),(∀t k,Q (.str y t) {s with Wf:=k})->ZU (T_ Yz w) A (formatOf a .empty) Q E s
theorem Sw.s(x:Z):Sw x (.str x):=λ_ _ r _ _ _ a _ _ h=>Su sz λt e=>e▸VH (KFm.formatOf_str x t) (h t a.toks)
theorem Sw.i(h1:0<=n)(h2:n<=1000000):Sw (gI n) Zbp:=λ_ _ r _ _ _ _ _ _ h=>Su r.int λO e=>e▸KFm.formatOf_int (shown (N:=2^1920) (Int.lt_of_lt_of_le Z' h1) (oI h2 Z8) (OR _)) h
theorem Fe(h1:0<=n)(h2:n<=1000000):(gI n).length<=10:=toString_length_le h1 Z' (oI h2 Z')
inductive Pc(a:ZaY)(fn:U)(b:Z):U->J U->Z->U->U->Prop|Yl{i N}(e:Z3 (Nat.ble N 16777216=true) aK):Pc a fn b i [] b N 0|Zp{i:U}{r:J U}{T:Z}{N m:U}(Oh XG:J U){c:MV}(x:Z){y:Z}(K:U){d:Z}(hv:Sw y c)(hy:l_<=K)(f:(T++x)++y=d)(next:Pc a fn b (i+1) XG d (N+ZO+K) m)(g:Z3 (a[i]?=Zan) aR)(hr:Z3 (r.isEmpty=false) aK)(hm:Z3 (nextMarkup r=.ok (Oh,some {name:=[]},XG)) aK)(hx:Z3 (⟨lit.toArray⟩=x) aK)(hn:Z3 ((lit.length==fn)=false) aK)(e:Z3 (Nat.ble N 16777216=true) aK):Pc a fn b i r T N (m+1)
theorem build{byName:Z->p_ ZP}(rl:ao q a F)(p:Pc a fmt.length n 0 fmt .empty 0 c)(hm:c<=fmt.length)(h:∀w N num k,KPc.Good w n N->N<=16777216->M (w,num) {s with Wf:=k}):ZU (T_ Pe S) V (buildString "str.format" (some F.toArray) byName (d+1) fmt self .unset) M PM s:=by
 refine Z7 ?_;rw[KPc.range_list];refine(let f:=_;(?_:ZU _ _ (forIn _ _ f) _ _ _));have y2:∀{i r T N c},Pc a fmt.length n i r T N c->∀(l:J U)w num s Q,c<=Xl->((num=.unset/\i=0)\/num=.auto i)->KPc.Good w T N->(∀w N num k,KPc.Good w n N->N<=16777216->Q (w,num,[]) {s with Wf:=k})->ZU (T_ Pe S) V (forIn l (w,num,r) f) Q PM s:=by
  intro i0 E G I m p;induction p with
  |Yl b=>
   intro l w num s Q O O g h;cases l with|Yl=>exact Z5 (h w _ num Ur g (WE b))|Zp x l=>exact KPc.turn (UR (KPc.ite_yes rfl (Z5 (h w _ num Ur g (WE b)))))
  |@Zp i r T N c Oh XG X x PN K PR hv hy j next o hr hm hx hn b y=>
   intro l w num s Q hl z g h;clear next;cases l with
   |Yl=>cases hl|Zp PS l=>
    refine KPc.turn (UR (T3 (by rw[hr];exact Yp) (UR (T3 (KPc.short_good g (WE b)) ?_))));walk_at"a";dsimp only;rw[hm];subst hx;walk_at"a";obtain⟨u,A,B⟩:=ia _ o;refine Z7 (KFm.field_auto z (List.getElem?_toArray.trans A) ?_);walk_at"a";refine Z7 (ZF (VH rfl ?_));walk_at"a";refine UR (T3 Yp ?_);refine Z7 (Z5 ?_);refine Z7 (ZF (hv q u B _ _ _ _ _ _ λt k=>?_));refine Z7 (VH rfl (Z5 ?_));exact y l _ _ _ Q (Nat.le_of_succ_le_succ hl) (.inr rfl) (j▸KPc.good_mono (KPc.good_add (KPc.good_add g (KPc.obj_none (by rw[hn];rfl))) λu e=>⟨t,by cases C:rest.isEmpty<;>rw[C]at e<;>cases e;rfl⟩) (Nat.add_le_add_left hy _)) λw N num D=>h w N num D
 exact y2 p _ _ _ s _ (by rw[List.length_range'];exact hm) (.inl ⟨rfl,rfl⟩) KPc.good0 λw N num k g b=>Z5 (h w N num k g b)
end
def pv(f:Z)(b:ZaY)(T:Z):Prop:=∀(X:Cx)(m:X5)c s t a(Q:ZP->Zb->Prop),ao c b a->(∀d k,Q (.str T d) {s with Wf:=k})->ZU YH m (VP (.builtin "str.format") (.str f t::a)) Q bz s
theorem pv.of(c:∀t a,ZC=Zw->S4 "str.format" ⟨.str f t::a,[]⟩)(p:Pc b f.cps.toList.length T 0 f.cps.toList .empty 0 d)(hm:Z3 (Nat.ble d f.cps.toList.length=true) aK):pv f b T:=λX A l s t a Q r h=>by
 refine KFm.call_k rfl (c t a KP) (KPc.meets_of λYz w A s Q E h=>?_) h;refine Z7 (VH (a:=(_,_,_)) rfl ?_);exact Z7 (build r p (WE hm) λm N num n g e=>KPc.finish_ok g e rfl λj k=>h j k)
theorem EV.fmt(h:EA X m A (Ng::NP) o E λb G=>∃T:Z,pv D b T/\g (.str T) G)(he:Z3 (ZH (.Call (.Attribute (.Constant (.str D) j Np) "format" Nx) (Ng::NP) [] N2) A=(do
   let e<-ZH (.Constant (.str D) j Np) A
   VT Nx.atName let(D,first)<-T8 [e] (NO e ("format") Nz)
   OP N2 D first (UE N2 (Zr (Ng::NP) A)) [])) aR)(l:Z3 (gK A Ng NP) aR)(hp:Z3 (nO A NP) aI):EV X m A (ZH (.Call (.Attribute (.Constant (.str D) j Np) ("format") Nx) (Ng::NP) [] N2) A) o E g:=by
 refine ls (Nz:=Nz) A' F.slot_str_format_m F.type_str_format_m (Wb ⟨cv.str,?_⟩) he l hp;walk_at"m";intro N2 c s S;refine ZS (h N2 c s S) (λf a q=>?_) λO O x=>x;obtain⟨r,b,i,n,d,p,T,u,k⟩:=q;refine⟨r,b,i,n,d,p,λc s w f S d rs=>?_⟩;obtain⟨t,YA⟩:=d.str;rw[YA];exact u X m c s t f _ rs λy z=>UW S (bp ..) k
theorem pv.i(h1:0<=n)(h2:n<=1000000):pv "{}" [Zbp] (gI n):=.of (λO=>Fb λO=>KFm.args_2 ..) (.cons [] [] "" 10 (.i h1 h2) (Fe h1 h2) KFm.cat_ee .nil)
theorem pv.ii(h1:0<=n)(h2:n<=1000000)(b:0<=a)(c:a<=1000000):pv "{},{}" [Zbp,Zbu] (gI n++","++gI a):=.of (λO=>zl λO O=>KFm.args_3 ..) (.cons [] [44,123,125] "" 10 (.i h1 h2) (Fe h1 h2) KFm.cat_ee (.cons [44] [] "," 10 (.i b c) (Fe b c) rfl .nil))
theorem pv.s1(hx:ZO<=1000):pv "*** {} ****{}" [.str x,.str "\n"] ("*** "++x++" ****"++"\n"):=.of (λO=>zl λO O=>KFm.args_3 ..) (d_ [42,42,42,32] [32,42,42,42,42,123,125] "*** " 1000 (.s x) hx KFm.cat_ex (.cons [32,42,42,42,42] [] " ****" 1 (.s _) Z' rfl .nil))
theorem pv.s2(hx:ZO<=1000):pv "--- {} ----{}" [.str x,.str "\n"] ("--- "++x++" ----"++"\n"):=.of (λO=>zl λO O=>KFm.args_3 ..) (d_ [45,45,45,32] [32,45,45,45,45,123,125] "--- " 1000 (.s x) hx KFm.cat_ex (.cons [32,45,45,45,45] [] " ----" 1 (.s _) Z' rfl .nil))
theorem pv.h1:pv "*** {}{}{}" [.str "",.str "",.str "\n"] "*** \n":=.of (λO=>Ia λO O O=>KFm.args_4 ..) (d_ [42,42,42,32] [123,125,123,125] "*** " 0 (.s "") Z' (d:="*** ") Z' (d_ [] [123,125] "" 0 (.s "") Z' (d:="*** ") Z' (.cons [] [] "" 1 (.s "\n") Z' Z' .nil)))
theorem pv.h2:pv "--- {}{}{}" [.str "",.str "",.str "\n"] "--- \n":=.of (λO=>Ia λO O O=>KFm.args_4 ..) (d_ [45,45,45,32] [123,125,123,125] "--- " 0 (.s "") Z' (d:="--- ") Z' (d_ [] [123,125] "" 0 (.s "") Z' (d:="--- ") Z' (.cons [] [] "" 1 (.s "\n") Z' Z' .nil)))
theorem xC(F:h7 X fa (cx 6) pm cd Wv .none .none)(b:Zck)(hb:ZcS)(rm:Rm X m (n+1))(h1:j<=c)(h2:c<=100000)(k:g (.str (aN j ((c:Zv)-j))) E):b8 X m ZaA [Zb9,Zc6] E g:=by
  walk_at"t";refine h6 b rm ["start","stop"] (zl λO O=>rfl) Z' rfl ZbS λo=>?_;intro Zn;have r:=WH Zn;have hg:∀f,([]:J Z).contains f=true->YJ f=Zaa:=e7 rfl;refine ZJ (IL ?_);refine ZJ (Zk (X0 b hb r hg (mv:=.int ((j:Zv)+1)) Z_ ?_) (.inl rfl));refine ZJ (Zk (X0 b hb r hg (mv:=.int ((c:Zv)-j)) Z_ ?_) (.inl rfl));walk_at"J";have T:∀d:Zv,(0<=d/\d<=100001)->(d=if(c:Zv)-j=0 then(j:Zv)else(j:Zv)+1)->EF X (Sb Zn) Zn (Yk ((bH (cx 6)).drop 4) Zn) [("start",Zb9),("stop",Zc6),("beginning",.int d),("length",.int ((c:Zv)-j))] E (rF g):=by
    intro d l;obtain⟨d1,d2⟩:=l;intro hd;refine ZJ (XF (SV b hb r hg (c:=decide ((c:Zv)-j<=1)) Z_ ⟨λh=>?_,λh=>YW ?_⟩))
    . refine ZJ (QO (EV.fmt (Zu (Z4 rfl (Y5 ⟨_,pv.i d1 (a9 0x7f2f565ea [100001,1000000] [] [_] d2),?_⟩)))));have a:=Zi h;unfold aN at k;rw[ZT (by exact a9 0x7f4f565ca [2] [] [_] a)]at k;have e:d=(j:Zv)+((c:Zv)-j):=by rw[hd];split<;>(first|exact a9 0x1fdc14b5edaa [] [] [_,_] ‹_›|exact fX 0x3fffee1198a6198a0e98b9b6c66298721165d198a61 [_,_] a h1 ‹_›)
      rw[e];exact k
    .have a:=VN h;rw[ZY (by exact a9 0x1fe6daae65ca [] [] [_] a)]at hd;clear d1;subst hd;refine ZJ (QO (EV.fmt (Zu (Z4 rfl (Zu (X0 b hb r hg (mv:=.int ((j:Zv)+1+((c:Zv)-j)-1)) Z_ (Y5 ⟨_,pv.ii (cY 0x33074c2d [_]) (a9 0x7f2f565ea [100001,1000000] [] [_] d2) (fA 0xcc5d08aa618394d [] [_] [_]) (a9 0xfe5f17422a9860e565e1 [100000,1000000] [_] [_] h2),?_⟩)))))));unfold aN at k;rw[ZY (by exact a9 0x1fe69eae65ca [2] [] [_] a)]at k;rw[show(j:Zv)+1+((c:Zv)-j)-1=j+((c:Zv)-j)by(exact fA 0x6e0b545d05c1ca [] [] [_,_])];exact k
  refine ZJ (XF (SV b hb r hg (c:=!((c:Zv)-j !=0)) Z_ ⟨λh=>?_,λh=>YW ?_⟩))
  . have a:(c:Zv)-j=0:=by simpa using h
    refine ZJ (EF.aug (b:=.int ((j:Zv)+1)) rfl (X2 ⟨.int ((j:Zv)+1-1),rfl,YW ?_⟩) (.inl rfl));exact T _ (cD 0x3ffee5f1741cacc5d0729b97876d8aa61 [100000,100001] [_] [_] a h2) (by rw[ZT a];(exact fA 0x6d51741ca [] [] [_]))
  . have a:¬(c:Zv)-j=0:=by simpa using h
    exact T _ (cD 0x1fff72f83a62cc1d313721165e1 [100000,100001] [_,_] [] h2 h1) (by rw[ZY a])
theorem gh.tup(hh:XZ=none)(h:EV X m A V o E λI i=>∃f,I=.tup f/\N7 W0 (λk=>f.getD k .none) i):gh X m cu A (.Name P8 Ym) V o E N7:=λP9 Qa PM=>W1 PM λj s y I PN PR d S z=>by
    walk_at"aU";obtain⟨f,rfl,z⟩:=z;refine⟨j,PN,_,_,[],PR,S,Off.nil,λQb Qc PS=>?_,z⟩;obtain⟨a,x,PT,YA,B,rl⟩:=d.seq;rw[YA];have M:=WZ;refine wpAny_pyIter_tuple (cN (Yg _ _ B)) ?_;have C:=Walks.tuple (prog:=Wj) (w:=Sh) (A:=m) hh Zx a (Y' (XR (Yg _ _ B)):a≠Zx) x;refine PS (.ref Zx) _ [Zx] (λk r h=>h.IsTupleIter Zx a k/\r a (X8 (.type "tuple") x PT)/\ao r f x.toList) ⟨?_,g8,?_,?_,?_,?_⟩ (Bt λb l O e=>ZA _ e) ⟨⟨_,ZL _ rfl,rfl,rfl⟩,B,rl⟩ (λb hb=>by simp at hb;subst hb;exact .inl (ZV _));.intro k j Qd h N c;obtain⟨⟨l,D,PW⟩,p,d⟩:=c;intro le O O hw;exact⟨⟨l,hw _ (.head _) l D,PW⟩,le.q _ _ _ _ p,d.ik le⟩
    .intro k j h c;obtain⟨⟨l,D,PX,hd⟩,_⟩:=c;intro b hb;simp at hb;subst hb;walk_at"b";exact⟨l,D,kS (by rw[PX];simp) λO O e=>by rw[e]at hd;cases hd⟩
    . intro k j s Q T F c;obtain⟨n,p,d⟩:=c;intro t hw u;have ON:k<x.size:=by exact O6 F M
      obtain⟨PY,G,PZ⟩:=d.get k (a:=f[k]) (Z6 F);refine C.item k s _ _ ON ⟨n,cN (t _ _ p)⟩ λy N P0 hv P2 hx=>u y _ λQe=>?_;walk_at"e";obtain rfl:y=PY:=by simp at hv G;rw[hv]at G;exact ZW G
      obtain⟨⟨P4,P5,P6,P7⟩,_⟩:=id P2;refine Z5 ⟨Bt hx,⟨⟨P4,P5,P6,P7⟩,p,d⟩,?_⟩;show aw _ _ _;rw[Z0,Z6 F];exact PZ
    .intro j s Q T c;obtain⟨n,p,d⟩:=c;intro t hw u;exact C.done s _ _ (by rw[M];exact⟨n,cN (t _ _ p)⟩) λN P0 hx=>u _ (Bt hx)
    .intro k j s Q T c;obtain⟨n,p,d⟩:=c;intro t u;exact C.self k s _ _ ⟨n,cN (t _ _ p)⟩ u
theorem EB.isStr(b:Zck)(i:Xs "isinstance"=Zaa)(f:VY "isinstance"=none/\U9 "isinstance"=some ZcL)(j:Xs "str"=Zaa)(hs:VY "str"=none/\U9 "str"=some Zb')(h:EV X m A (ZH a A) o E λg G=>∃x,g=.str x/\Nj true G)(he:Z3 (Zr [a,ZbT] A=(false,ZH a A)::Zr [ZbT] A) aR)(ht:Z3 (XE (.Call Zbd [a,ZbT] [] Ym) A (ZH (.Call Zbd [a,ZbT] [] Ym) A)=(do let e<-ZH (.Call Zbd [a,ZbT] [] Ym) A;VT Ym;T8 [e] (ib e))) aR):EB X m A (XE (.Call Zbd [a,ZbT] [] Ym) A (ZH (.Call Zbd [a,ZbT] [] Ym) A)) o E Nj:=by
 refine Tn (b5 b i f.1 f.2 (.inl ⟨_,rfl⟩) (Zu (WT λg G l=>Su l λx Yw=>Uc Yw λhm k=>Zu (p9 b j hs.1 hs.2 (Y5 λp s q S r=>?_))) he) (by rfl) he) ht;walk_at"a";subst hm;obtain⟨e,_,YA,n,u,_,YB,r2,YC⟩:=r;rw[YA,YB,YC];obtain⟨t,YA⟩:=n.str;rw[YA];rw[r2.raw];exact IsiPair.str_str (Se S (aE ..) ⟨true,rfl,k⟩)
theorem wy(F:h7 X fa (cx 8) pm cd Wv .none .none)(hb:Q' NC)(o:NC.mg "isinstance"=none/\NC.mb "isinstance"=some ZcL)(rm:Rm X m (PT+1))(r r2 b c d:Z)(M:ZR<=10000)(N:W0<=10000)(k:g .none E):b8 X m ZaA [Zal,ZcB,.str r,.str r2,.str b,.str c,.str d] E g:=by
  walk_at"t";refine iL.call (iL.body NC (PR:=[Zal,ZcB,.tup (ah [r,r2,b,c,d])]) ["a","b","args"] F.get F.nt rfl F.rX F.nc rfl rfl rfl rfl (λPW Q PX PY S T PZ=>?_) Z' (λV x hx=>?_) w1 λV=>?_);.refine LW T rfl λv1 v2 v3 v4 v5 v6 v7 q q2 q3 e=>?_;.rw[e];show ZU _ _ (newTuple [v3,v4,v5,v6,v7]>>=λt=>Yh [(("a"),v1),("b",v2),("args",t)]) _ _ _;refine Z7 (wpAny_newTuple (Z5 ?_) (show 5<=ZK by decide));refine⟨_,[v1,v2,.ref Q.heap.objs.size],Tu,((ih (X8 Zac #[v3,v4,v5,v6,v7] 0)).pin (ZL _ rfl) (S.fresh (ZV _)) (S.hM (ZV _))),rfl,.cons (q.mono Tu) (.cons (q2.mono Tu) (.one ?_))⟩;walk_at"aV";exact(exI3 _ _ _ ⟨rfl,.inr ⟨rfl,rfl⟩,ao.mono Tu q3⟩)
  .simp only[XW,YL,Vt]at hx;rcases hx with rfl|rfl|rfl<;>exact .inl rfl
  intro Zn;have PM:=WH Zn;have u:=hb "str" Zb' (by rfl);have one:∀x a{p p0 p1 p2 w z A B C D:ix}{G:U}{W8:J Wa}{l:YV}{E:GH}{g:Gp->YV->GH->Prop},Wq x=some ZaE->(x=="__classdict__")=false->(x=="__debug__")=false->ZC<=10000->g .next l E->EF X (Sb Zn) Zn (TM (.If (.BoolOp .And [.Name x p,.UnaryOp .Not (.Call (.Name "isinstance" p0) [.Subscript (.Name x p1) (.Constant (.int 0) G p2) w,.Name "str" z] [] A) B] C) W8 [] D) Zn) l E g:=by
    intro x a p p0 p1 p2 w z A B C D G W8 l E g hx hn hd PN I;have br:(ah a).length<=ZK:=by rw[az,af];exact O3 PN
    refine XF (VS (Tn (Z4 hx ⟨!(ah a).isEmpty,?_,λh=>VS (EB.rC (EB.isStr NC rfl o rfl u (Ys (Z4 hx (X2 ⟨.str (Vu 0 ""),?_,Vu 0 "",rfl,⟨(λh=>by cases h),λO=>⟨(λh=>by cases h),λO=>YW I⟩⟩⟩) hn hd)))),λh=>⟨(λh=>by cases h),λO=>YW I⟩⟩ hn hd)));.show(if(ah a).length<=ZK then _ else _)=_;rw[ZT br]
    .cases a with
      |Yl=>cases h|Zp y ys=>exact gY rfl br
  refine ZJ (one "a" s rfl (by rfl) (by rfl) M ?_);refine ZJ (one "b" f rfl (by rfl) (by rfl) N ?_);refine ZJ (EF.vw (λj l i=>N' [("a",Zal),("b",ZcB),("args",.tup (ah [r,r2,b,c,d]))] l/\i=E) (gh.tup PM.handled (Z4 rfl ⟨_,rfl,λk l=>aJ "arg" ((ah [r,r2,b,c,d]).getD k .none) l,_,⟨Tq _,rfl⟩,Tq _,λk P0=>UM (.inl rfl),λj l i hj n=>?_,λl i n=>?_⟩)));.obtain⟨hs,YA⟩:=n;rw[YA];walk_at"p";obtain⟨x,hx,hg,_⟩:=lE [r,r2,b,c,d] j hj;show EF X _ _ _ (aJ "arg" ((ah [r,r2,b,c,d]).getD j .none) l) _ _;rw[hg];refine ZJ (XF (EB.rC (EB.isStr NC rfl o rfl u (Z4 (by rw[aB];rfl) ⟨x,rfl,(λh=>by cases h),λO=>YW (YW ⟨_,⟨Tq _,rfl⟩,λy PR e=>?_⟩)⟩))));rw[aB,ZY (by intro PS;subst PS;exact ax e)];exact hs y PR e
  .obtain⟨hs,YA⟩:=n;rw[YA];exact YW k
def qP(o:Op):ZaY:=[.str o.1,.int (o.2.1:U),.int (o.2.2.1:U),.int (o.2.2.2.1:U),.int (o.2.2.2.2:U)]
def pF(t:Z):Z:=if t=("insert")then"+ "else if t=("delete")then"- "else if t=("replace")then"! "else"  "
def u7(t:Z):Prop:=t=("insert")\/t=("delete")\/t=("replace")\/t=("equal")
def IA(skip:Z)(l:J Z)(s:Op->U×U)(g:ZbO):J Z:=g.flatMap λo=>if o.1=skip then[]else((vi (s o).1).take ((s o).2-(s o).1)).map (pF o.1++.)
theorem D2(t:Z):(pF t).length=2:=by
  unfold pF;refine bQ rfl (λO=>?_) λO=>?_;.rfl
  . refine bQ rfl (λO=>?_) λO=>?_;.rfl
    .split<;>rfl
abbrev pD(X:Cx)(t:nj×nj×nj×nj):MO:=sD X (z4 (.str "+ " t.1) (.str "- " t.2.1) (.str "! " t.2.2.1) (.str "  " t.2.2.2))
theorem FL(t:nj×nj×nj×nj)(h:u7 x):∃u,WJ (z4 (.str "+ " t.1) (.str "- " t.2.1) (.str "! " t.2.2.1) (.str "  " t.2.2.2)) x=some (.str (pF x) u):=by
 walk_at"b";rcases h with rfl|rfl|rfl|rfl;.exact⟨_,rfl⟩
 .exact⟨_,rfl⟩
 .exact⟨_,rfl⟩
 .exact⟨_,rfl⟩
theorem Hid.yield(h:ew b E w)(k:∀a o,E a=Zag->w a=none->c a=Zag/\d a=none):ew b c d:=λa o e=>Uc (h a o e) λx y=>k a o x y
theorem pS(V:hY X m Ni XS Ql)(PM:rb=5)(PN:∀x∈NB,aM A x.1)(PR:aM A "line")(PS:A.cells=[])(PT:A.scope.isCoroutine=false)(PW:g_ A=false)(PX:base.lookup ("group")=some (gW b))(l1:∀o:Op,(dU oz (Vk (·.1)) (qP o)).lookup ("tag")=some (.str o.1))(l2:∀o:Op,(dU oz (Vk (·.1)) (qP o)).lookup D=some (.int ((s o).1:U)))(l3:∀o:Op,(dU oz (Vk (·.1)) (qP o)).lookup S=some (.int ((s o).2:U)))(q:∀o:Op,(dU oz (Vk (·.1)) (qP o)).lookup a=some (.lst (ah l)))(y:∀o:Op,(dU oz (Vk (·.1)) (qP o)).lookup ("prefix")=some ZaG)(PY:∀o:Op,N' oz (dU oz (Vk (·.1)) (qP o)))(z:∀o:Op,(dU oz (Vk (·.1)) (qP o)).lookup ("line")=none)(n:(a=="__classdict__")=false/\(a=="__debug__")=false)(I:(D=="__classdict__")=false/\(D=="__debug__")=false)(N:(S=="__classdict__")=false/\(S=="__debug__")=false)(PZ:M d=some (pD X t4))(f:ew M E w)(g:Wy w E)(P0:Xl<=10000)(P2:∀x∈l,ZO<=1000)(P4:∀o∈b,u7 o.1)(P5:∀E w,ew M E w->Wy w E->NS .next oz E w XG):GF X m Nv Ni XS Nk A (TM (.For (.Tuple (Vk nm) Qm tp) (.Name "group" p1) [.If (.Compare (.Name "tag" p2) [.NotEq] [.Constant (.str skip) k2 Qn] Qo) [.For (.Name "line" Qp) (.Subscript (.Name a Qq) (.Slice (some (.Name D Qr)) (some (.Name S Qt)) none Qu) Qv) [.Expr (.Yield (some (.BinOp (.Subscript (.Name "prefix" Qw) (.Name "tag" Qx) Qy) .Add (.Name "line" Qz) QA)) QB) QC] [] QD] [] QE] [] QF) A) oz E w (ah (IA skip l s b)++XG) NS:=by
  refine GF.Jd V M (λk p t=>p=oz/\t=ah (IA skip l s (Ta k))++XG) f g (Z4 PX ⟨hu gf,λk p=>dU p (Vk (·.1)) (qP (UB k default)),oz,rfl,rfl,⟨rfl,rfl⟩,Tq _,λP6 Q k r hm=>?_,λP7 P8 P9 k r p E w t F hm i f g=>?_,λp E w t i f g=>?_⟩)
  . rw[Zy]at hm;obtain⟨o,u,YA⟩:=Y3 hm;rw[<-YA];have B:UB k default=o:=by rw[Z0,u];rfl
    simp only[B];exact(TG.tup (c:=(qP o)) Q PN PM).gA
  . obtain⟨rfl,rfl⟩:=i;walk_at"Z";rw[Zy]at hm;walk_at"v";obtain⟨o,u,YA⟩:=Y3 hm;rw[YA];have B:UB k default=o:=by rw[Z0,u];rfl
    obtain⟨Qa,Qb⟩:=ZN u;have Qc:Ta k=o::Ta (k+1):=by rw[XB Qa,Qb]
    simp only[B];have em:IA skip l s (o::Ta (k+1))=(if o.1=skip then[]else((vi (s o).1).take ((s o).2-(s o).1)).map (pF o.1++.))++IA skip l s (Ta (k+1)):=rfl;rw[Qc,em];have l1:=l1 o;have l2:=l2 o;have l3:=l3 o;have q:=q o;have y:=y o;have C:=PY o;have z:=z o;generalize dU p (Vk (·.1)) _=b1 at l1 l2 l3 q y C z;refine R8 (a6 (XC F.rm (Z4 l1 (Wb ⟨!(o.1==skip),rfl,λh=>?_,λh=>?_⟩))))
    . have G:¬o.1=skip:=by simpa using h
      rw[ZY G];have Qd:(ah l).length<=ZK:=by rw[az,af];exact O3 P0
      have T:∀x∈(vi (s o).1).take ((s o).2-(s o).1),ZO<=1000:=λx hx=>P2 x (UI (OE hx));refine R8 (GF.Jd F M (λj c t=>c=b1/\t=ah ((((vi (s o).1).take ((s o).2-(s o).1)).drop j).map (pF o.1++.))++(ah (IA skip l s (Ta (k+1)))++XG)) f g (u0 (Z4 q (U2 (Z4 l2 ⟨_,rfl,U2 (Z4 l3 ⟨_,rfl,ah l,aF ..,Qd,?_⟩ N.1 N.2)⟩ I.1 I.2)) n.1 n.2)));rw[fW,show((ah l).drop (s o).1).take ((s o).2-(s o).1)=ah ((vi (s o).1).take ((s o).2-(s o).1))from by simp[ah,o4,List.map_take]];walk_at"aW";generalize(vi (s o).1).take ((s o).2-(s o).1)=seg at T;walk_at"aX";walk_at"aY";clear l2 l3 q;refine⟨ah seg,λj p=>aJ "line" (.str (seg.getD j "")) p,b1,rfl,rfl,⟨rfl,?_⟩,Tq _,λP6 Q j r hm=>?_,λP7 P8 P9 j r c E w t F hm i f g=>?_,λc E w t i f g=>?_⟩;.simp[ah]
      . obtain⟨x,hx,rfl⟩:∃x,seg[j]?=Zak/\r=.str x:=by
          walk_at"b";simp only[ah,Zy,Option.map_eq_some_iff]at hm;obtain⟨x,hx,e⟩:=hm;exact⟨x,hx,h4⟩
        have hg:seg.getD j ""=x:=by rw[Z0,hx];rfl
        simp only[hg];exact UM PR
      . rw[i.1,i.2];walk_at"v";obtain⟨x,hx,rfl⟩:∃x,seg[j]?=Zak/\r=.str x:=by
          walk_at"b";simp only[ah,Zy,Option.map_eq_some_iff]at hm;obtain⟨x,hx,e⟩:=hm;exact⟨x,hx,h4⟩
        have hg:seg.getD j ""=x:=by rw[Z0,hx];rfl
        obtain⟨Qe,Qf⟩:=ZN hx;walk_at"Z";have Qg:seg.drop j=x::seg.drop (j+1):=by rw[XB Qe,Qf]
        obtain⟨Qh,Qi⟩:=FL t4 (P4 o (YO u));obtain⟨hd,_⟩:=f d _ PZ;simp only[hg];walk_at"F";rw[Qg];refine R8 (I3 F PS rfl (YU (EV.FJ (Z4 (by rw[aB,ZY Z'];exact y) (Z4 (by rw[aB,ZY Z'];exact l1) (exI5 d _ o.1 _ Qh ⟨rfl,rfl,hd,Qi,Z4 (by rw[aB,ZT rfl]) ⟨.str (pF o.1++x),?_,rfl,g,λQG QH Qj he=>So ⟨_,⟨rfl,rfl⟩,λQI QJ e=>?_,f.yield Qj,he⟩⟩⟩))))) PT PW);.exact dN (by rw[D2,af];exact a9 0x1fcbe017e5e1 [1000,2,16777216] [_] [] (T x (YO hx)))
        .rw[aB,ZY (by intro Qk;subst Qk;exact ax (z.symm.trans e))];exact e
      .rw[i.1,i.2];rw[az,O'];exact So (So ⟨_,⟨rfl,rfl⟩,C,f,g⟩)
    . have G:o.1=skip:=by simpa using h
      walk_at"v";walk_at"v";rw[ZT G];walk_at"aZ";exact So (So ⟨_,⟨rfl,rfl⟩,C,f,g⟩)
  .rw[i.1,i.2];rw[Z2,O'];exact P5 E w f g
def sj(g:ZbO):Op:=g.getD 0 default
def oY(g:ZbO):Op:=g.getD (K1-1) default
def Ea(o:Op):U×U:=(o.2.1,o.2.2.1)
def CS(o:Op):U×U:=(o.2.2.2.1,o.2.2.2.2)
def iP(x y:Z)(g:ZbO):YZ:=(g.map λo=>decide (o.1=x\/o.1=y)).any id
def bW(s a:J Z)(g:ZbO):J Z:=(("***************")++("\n"))::(("*** ")++aN (sj g).2.1 (((oY g).2.2.1:Zv)-(sj g).2.1)++(" ****")++("\n"))::((if iP "replace" "delete" g=true then IA "insert" s Ea g else[])++((("--- ")++aN (sj g).2.2.2.1 (((oY g).2.2.2.2:Zv)-(sj g).2.2.2.1)++(" ----")++("\n"))::(if iP "replace" "insert" g=true then IA "delete" a CS g else[])))
def iC(s a:J Z)(g:J ZbO):J Z:=(if g=[]then[]else[("*** \n"),("--- \n")])++g.flatMap (bW s a)
structure xQ(g:ZbO):Prop where
 ne:g≠[]
 tag:∀o∈g,u7 o.1
 a1:(sj g).2.1<=(oY g).2.2.1
 a2:(oY g).2.2.1<=100000
 b1:(sj g).2.2.2.1<=(oY g).2.2.2.2
 b2:(oY g).2.2.2.2<=100000
 z:K1<=100000
structure mf(X:Cx)(b:Zck)extends Lib X b where
 bm:BMod X b
 any:VY ("any")=none/\U9 ("any")=some (.builtin "any")
 dt:VY ("dict")=none/\U9 ("dict")=some Zaf
 Mf:VY ("isinstance")=none/\U9 ("isinstance")=some ZcL
 fr:lq X b 6 .none .none
 Ik:lq X b 8 .none .none
 fa:Y9
 cc:Y9
 dd:Y9
 pm:ZP
 Wv:ZP
 code:tM X cc
 fn:h7 X fa (cx 7) pm (.ref cc) Wv (.ref dd) .none
 gl:VY (v_ (cx 7))=some ZaA
 u1:nj
 u2:nj
 u3:nj
 u4:nj
 u5:nj
 u6:nj
 defs:ni X dd [.str "" u1,.str "" u2,.str "" u3,.str "" u4,.int 3 u5,.str "\n" u6]
abbrev mf.env(a:mf X NC)(b:Y9):S2:=Xd (t8 (cx 7) a.pm (.ref a.cc) a.doc (.ref a.dd) .none) b a.fa
abbrev KJ(s a:J Z)(n:U):YV:=[("a",Zal),("b",ZaE),("fromfile",.str ""),("tofile",.str ""),("fromfiledate",.str ""),("tofiledate",.str ""),("n",Zbp),("lineterm",.str "\n")]
abbrev E4(s a:J Z)(n:U)(d:Y9)(st:YZ):YV:=KJ s a n++([("prefix",ZaG),("started",.bool st)]:YV)
abbrev GZ(s a:J Z)(n:U)(d:Y9)(g:ZbO)(o p:Op):YV:=E4 s a n d true++([("group",gW g),("last",gf p),("first",gf o)]:YV)
theorem y7(h:a[ZC-1]?=Zar):bS c (.lst a) (.int (-1))=Zar:=qd iY h
theorem MN:(dU l ["tag","_","_","_","_"] [a,b,c,d,f]).lookup ("tag")=ZaB:=by
 show(aJ "_" f (aJ "_" d (aJ "_" c (aJ "_" b (aJ "tag" a l))))).lookup ("tag")=_;rw[aB,ZY Z',aB,ZY Z',aB,ZY Z',aB,ZY Z',aB,ZT rfl]
theorem w8(c:mf X b)(rm:Rm X m (n+5))(hg:Wq ("group")=some (gW a))(k:Nj (iP x i a) E):EB X m (c.env q) (XE (.Call (.Name "any" p0) [.GeneratorExp (.Compare (.Name "tag" p1) [.In] [.Set [.Constant (.str x) r p2,.Constant (.str i) k2 u] 0 F] M) [⟨.Tuple [.Name "tag" T,.Name "_" V,.Name "_" PM,.Name "_" PN,.Name "_" PR] PS PT,.Name "group" PW,[],0⟩] {kind:=.function,WD:=[(".0",.local),("tag",.local),("_",.local)],isGenerator:=true,isCoroutine:=false,SH:=[]} PX] [] PY) (c.env q) (ZH (.Call (.Name "any" p0) [.GeneratorExp (.Compare (.Name "tag" p1) [.In] [.Set [.Constant (.str x) r p2,.Constant (.str i) k2 u] 0 F] M) [⟨.Tuple [.Name "tag" T,.Name "_" V,.Name "_" PM,.Name "_" PN,.Name "_" PR] PS PT,.Name "group" PW,[],0⟩] {kind:=.function,WD:=[(".0",.local),("tag",.local),("_",.local)],isGenerator:=true,isCoroutine:=false,SH:=[]} PX] [] PY) (c.env q))) l E Nj:=by
  refine EB.any b rm (.inr rfl) rfl c.any.1 c.any.2 (λj s S=>?_) k;refine yB (Qo:=λk l=>dU l ["tag","_","_","_","_"] [.str (Vu k default).1,.int ((Vu k default).2.1),.int ((Vu k default).2.2.1),.int ((Vu k default).2.2.2.1),.int ((Vu k default).2.2.2.2)]) b c.bm c.code rfl (rm.le (O1)) rfl rfl Z' rfl rfl (Z4 hg ⟨rfl,rfl⟩) (λC cc y p t hd=>⟨by simp,rfl,rfl,rfl,rfl,rfl,λA w k z hm=>?_,.inr ⟨t,p,hd⟩,λA k l E j s B D hr hp S=>?_⟩) S (λx=>rfl)
  . rw[Zy]at hm;walk_at"a0";walk_at"a1";obtain⟨o,d,YA⟩:=Y3 hm;rw[<-YA];have f:Vu k default=o:=by rw[Z0,d];rfl
    rw[f];exact(TG.tup w (NB:=[("tag",_),("_",_),("_",_),("_",_),("_",_)]) (by intro G g;simp only[XW,YL,Vt]at g;rcases g with rfl|rfl|rfl|rfl|rfl<;>exact .inl rfl) rfl).gA
  . simp only[Zy]at hr;obtain⟨_,e,YA⟩:=Y3 hr;rw[<-YA];clear hr;obtain⟨o,d,YA⟩:=Y3 e;rw[<-YA];have f:Vu k default=o:=by rw[Z0,d];rfl
    simp only[f]at S⊢;exact El rfl hp hd S MN
set_option backward.match.sparseCases false in def DY:Wa->J Wa|.For _ _ b _ _=>b|_=>[]
def Gc:J Wa:=DY (((bH (cx 7))[4]?).getD (.Pass default))
theorem uM:∀f,([]:J Z).contains f=true->Xs f=Zaa:=λf a=>by simp at a
theorem lS(h1:j<=c)(h2:c<=100000):(aN j ((c:Zv)-j)).length<=1000:=by
 have:(aN j (c-j)).length<=41:=fc (by unfold SU;exact cD 0x7ffa7d60e98b21165e1 [100000,1099511627776] [_,_] [] h2 h1) (by unfold SU;exact a9 0x1fd3eb08aa61565e1 [100000,1099511627776] [_] [_] h2);exact a9 0x7f2f0e5e1 [41,1000] [_] [] this
theorem sr(x y:J Z):ah (x++y)=ah x++ah y:=ZE
def gtB(s:J Z)(g:ZbO)(XG:ZaY):ZaY:=ah (if iP "replace" "insert" g=true then IA "delete" s CS g else[])++XG
def Lk(o p:Op):MV:=.str (("--- ")++aN o.2.2.2.1 ((p.2.2.2.2:Zv)-o.2.2.2.1)++(" ----")++("\n"))
def Me(o p:Op):MV:=.str (("*** ")++aN o.2.1 ((p.2.2.1:Zv)-o.2.1)++(" ****")++("\n"))
theorem Cu(e:mf X b)(F:hY X m Ni XS (u+6))(j:xQ a)(t:M d=some (pD X t4))(f:ew M E w)(g:Wy w E)(S:W6<=10000)(T:ZR<=10000)(V:∀x∈i,ZO<=1000)(PM:∀x∈s,ZO<=1000)(y:∀c E w,N' (E4 i s n d true) c->ew M E w->Wy w E->NS .next c E w XG):GF X m Nv Ni XS Nk (e.env PN) (Yk (Gc.drop 1) (e.env PN)) (E4 i s n d true++([("group",gW a)]:YV)) E w (ah (bW i s a)++XG) NS:=by
  walk_at"F";have PR:(Ti gf).length<=ZK:=by rw[Z2,af];have:=j.z;(exact O8 this)
  have A:(Ti gf)[0]?=some (gf (sj a)):=by
    have:=Xi j.ne;rw[Zy,Z6 this];unfold sj;rw[Z0,Z6 this];rfl
  have hge:(Ti gf)[(Ti gf).length-1]?=some (gf (oY a)):=by
    have:ZC-1<ZC:=by have:=Xi j.ne;(exact Ic this)
    rw[Z2,Zy,Z6 this];unfold oY;rw[Z0,Z6 this];rfl
  refine Sn (ha UL (WD:=["first","last"]) (TL (Zu (Ys (Z4 rfl (X2 ⟨gf (sj a),gY A PR,Zu (Ys (Z4 rfl (EV.neg ⟨gf (oY a),y7 hge,Y5 ⟨?_,_,rfl,rfl,?_⟩⟩)))⟩))))) (by intro B k;simp only[XW,YL,Vt]at k;rcases k with rfl|rfl<;>exact .inl rfl));.show 2<=ZK;decide
  have H1:=j.a1;have C:=j.a2;have G:=j.b1;have I:=j.b2;have Q:=j.tag;clear A hge j;have PS:ah (bW i s a)++XG=.str ("***************"++"\n")::Me (sj a) (oY a)::(ah (if iP "replace" "delete" a=true then IA "insert" i Ea a else[])++(Lk (sj a) (oY a)::gtB s a XG)):=by unfold bW gtB Lk Me;simp only[ah,Yd,ZE,WO,ZQ]
  rw[PS];generalize sj a=o at*;generalize oY a=p at*;show GF X _ _ _ _ _ _ _ (GZ i s n d a o p) _ _ _ _;refine R8 (I3 F rfl rfl (X0 b e.hb F.rm uM Z_ ⟨rfl,g,λE w q g=>?_⟩));have f:=f.yield q;refine Sn (Zk (s_ b rfl e.fr.gl e.fr.fn.get e.fr.fn.nt rfl (Zu (X0 b e.hb F.rm uM Z_ (Zu (X0 b e.hb F.rm uM Z_ (Y5 (xC e.fr.fn b e.hb (n:=u) (F.rm.le (fA 0x660f0c1c1 [6] [_] [])) H1 C ?_))))))) (.inl rfl));refine R8 (I3 F rfl rfl (EV.fmt (Zu (Z4 rfl (Zu (Z4 rfl (Y5 ⟨_,pv.s1 (lS H1 C),rfl,g,λE w q g=>?_⟩)))))));have f:=f.yield q;generalize aN (o.2.1:U) ((p.2.2.1:Zv)-(o.2.1:U))=r;show GF X _ _ _ _ _ _ _ (GZ i s n d a o p++([("file1_range",.str r)]:YV)) _ _ _ _;refine R8 ?_;generalize PT:xn _ _ _ _ _ _ _ _ _=PW;have N:∀E w,ew M E w->Wy w E->PW .next (GZ i s n d a o p++([("file1_range",.str r)]:YV)) E w (Lk o p::gtB s a XG):=by
    intro E w f g;subst PT;show GF X _ _ _ _ _ _ _ _ _ _ _ _;refine Sn (Zk (s_ b rfl e.fr.gl e.fr.fn.get e.fr.fn.nt rfl (Zu (X0 b e.hb F.rm uM Z_ (Zu (X0 b e.hb F.rm uM (mv:=.int (p.2.2.2.2:U)) Z_ (Y5 (xC e.fr.fn b e.hb (n:=u) (F.rm.le (fA 0x660f0c1c1 [6] [_] [])) G I ?_))))))) (.inl rfl));refine R8 (I3 F rfl rfl (EV.fmt (Zu (Z4 rfl (Zu (Z4 rfl (Y5 ⟨_,pv.s2 (lS G I),rfl,g,λE w q g=>?_⟩)))))));have f:=f.yield q;generalize aN (o.2.2.2.1:U) ((p.2.2.2.2:Zv)-(o.2.2.2.1:U))=r2;show GF X _ _ _ _ _ _ _ (GZ i s n d a o p++([("file1_range",.str r),("file2_range",.str r2)]:YV)) _ _ _ _;refine R8 (a6 (w8 e (n:=u) (F.rm.le (fA 0x660f0c1e1 [5,6] [_] [])) rfl ⟨λh=>?_,λh=>So (So ?_)⟩));.rw[show gtB s a XG=ah (IA "delete" s CS a)++XG from Zq (λl=>ah l++XG) (ZT h)];refine R8 (pS F (oz:=GZ i s n d a o p++([("file1_range",.str r),("file2_range",.str r2)]:YV)) (d:=d) (t4:=t4) (skip:="delete") (l:=s) (s:=CS) (b:=a) (XG:=XG) (NB:=[("tag",_),("_",_),("_",_),("j1",_),("j2",_)]) (a:="b") (D:="j1") (S:="j2") rfl (by intro B k;simp only[XW,YL,Vt]at k;rcases k with rfl|rfl|rfl|rfl|rfl<;>exact .inl rfl) (.inl rfl) rfl rfl rfl rfl (λO=>rfl) (λO=>rfl) (λO=>rfl) (λO=>rfl) (λO=>rfl) (λO=>av Z_) (λO=>rfl) ⟨by rfl,by rfl⟩ ⟨by rfl,by rfl⟩ ⟨by rfl,by rfl⟩ t f g T PM Q λE w f g=>So (So (y _ _ _ (av Z_) f g)))
    .rw[show gtB s a XG=XG from Zq (λl=>ah l++XG) (ZY (by rw[h];decide))];exact y _ _ _ Zb3 f g
  refine a6 (w8 e (n:=u) (F.rm.le (fA 0x660f0c1e1 [5,6] [_] [])) rfl ⟨λh=>?_,λh=>So ?_⟩);.rw[ZT h];refine R8 (pS F (oz:=GZ i s n d a o p++([("file1_range",.str r)]:YV)) (d:=d) (t4:=t4) (skip:="insert") (l:=i) (s:=Ea) (b:=a) (NB:=[("tag",_),("i1",_),("i2",_),("_",_),("_",_)]) (a:="a") (D:="i1") (S:="i2") rfl (by intro B k;simp only[XW,YL,Vt]at k;rcases k with rfl|rfl|rfl|rfl|rfl<;>exact .inl rfl) (.inl rfl) rfl rfl rfl rfl (λO=>rfl) (λO=>rfl) (λO=>rfl) (λO=>rfl) (λO=>rfl) (λO=>av Z_) (λO=>rfl) ⟨by rfl,by rfl⟩ ⟨by rfl,by rfl⟩ ⟨by rfl,by rfl⟩ t f g S V Q λE w f g=>So (N E w f g))
  .rw[ZY (by rw[h];decide)];exact N E w f g
theorem Gm(u:mf X b)(G:hY X m Ni XS (k+13))(p:Wy w E)(I:ZR<=1000)(M:W0<=1000)(PZ:∀x∈s,ZO<=1000)(P0:∀x∈f,ZO<=1000)(hB:(dE s f).length<64)(hG:∀g∈eO n s f,xQ g)(PM:P2=ah (iC s f (eO n s f))):GF X m Nv Ni XS Nk (u.env P4) (Yk (bH (cx 7)) (u.env P4)) (KJ s f n) E w P2 λo O i P5 P6=>(o=.next\/o=.ret .none)/\P6=[]/\Wy P5 i:=by
  walk_at"Y";refine Sn (IL ?_);refine Sn (VI (s_ b rfl u.Ik.gl u.Ik.fn.get u.Ik.fn.nt rfl (Zu (Z4 rfl (Zu (Z4 rfl (Zu (Z4 rfl (Zu (Z4 rfl (Zu (Z4 rfl (Zu (Z4 rfl (Zu (Z4 rfl (Y5 (wy u.Ik.fn u.hb u.Mf (PT:=k) (G.rm.le (fA 0x660f0c1c1 [13] [_] [])) _ _ _ _ _ (YX I Z') (YX M Z') ⟨rfl,?_⟩))))))))))))))))));refine Sn (Zk (EV.Gw b rfl u.dict λd t1 t2 t3 t4 hd=>?_) (.inl rfl));refine Sn (Zk (EV.BB ?_) (.inl rfl));have PN:=p.none hd;show GF X _ _ _ _ _ _ _ (E4 s f n d false) (Y7 E d (pD X (t1,t2,t3,t4))) _ _ _;have gd:Y7 E d (pD X (t1,t2,t3,t4)) d=some (pD X (t1,t2,t3,t4)):=aa ..;have C:Wy w (Y7 E d (pD X (t1,t2,t3,t4))):=p.upd PN;generalize Y7 E d (pD X (t1,t2,t3,t4))=P7 at gd C;generalize P8:eO n s f=y at hG PM;refine R8 (GF.Gl b (P2:=.ok (.ret .none)) (.inl rfl) G (Y7 (λO=>none) d (pD X (t1,t2,t3,t4))) (λk l t=>l=E4 s f n d (decide (0<k))/\t=ah ((if k=0/\y≠[]then[("*** \n"),"--- \n"]else[])++(y.drop k).flatMap (bW s f))) (y.map gW) (λk l=>aJ "group" (gW (y.getD k [])) l) (λQg Qh PR=>?_) (Qm:=E4 s f n d false) ⟨rfl,?_⟩ (Tq _) (λQi Qj k P9 hm=>?_) (λQk Ql Qm Qa A P9 l E w t F hm D Qb z p=>?_) (λl E w t D z p=>?_))
  . refine ZS (Az u.toLib (j:=k) (G.rm.le (fA 0x660f0c1e1 [6,13] [_] [])) rfl rfl rfl rfl I M hB PR) (λQn a q=>?_) λO O q=>q;clear PR;obtain⟨r,Qc,Qd,ga,g,st,le,PS,rfl,ex,at_,Qe,self,new,fr,live⟩:=q;rw[P8]at live;have N:∀B,P7 B=none->B≠d:=λB e=>by intro Q;subst Q;rw[gd]at e;cases e
    refine⟨r,Qc,ga,g,st,Qd,le,PS,rfl,⟨at_,Qe,self,by rw[ag (N _ new)],λB o e=>by rw[ag (N _ (fr B o e))],live⟩,C.none new,λB o e=>C.none (fr B o e),λB o e=>?_,C.trans ex⟩;clear PS N;refine eN e ?_ ax;exact⟨ex _ _ gd,PN⟩
  . rw[PM];unfold iC;by_cases e:y=[];.rw[ZT e,ZY (λh=>h.2 e),Uo]
    .rw[ZY e,ZT ⟨rfl,e⟩,Uo]
  . rw[Zy]at hm;obtain⟨g,hg,rfl⟩:=Y3 hm;have e:y.getD k []=g:=by rw[Z0,hg];rfl
    simp only[e];exact UM (.inl rfl)
  . obtain⟨rfl,rfl⟩:=D;rw[Zy]at hm;obtain⟨g,hg,rfl⟩:=Y3 hm;clear hm;have e:y.getD A []=g:=by rw[Z0,hg];rfl
    obtain⟨S,PT⟩:=ZN hg;have PW:y.drop A=g::y.drop (A+1):=by rw[XB S,PT]
    simp only[e];rw[PW];refine R8 ?_;generalize Qf:xn _ _ _ _ _ _ _ _ _=PX;have PY:∀c E w,N' (E4 s f n d true++([("group",gW g)]:YV)) c->ew Qa E w->Wy w E->PX .next c E w (ah (bW s f g)++ah ((y.drop (A+1)).flatMap (bW s f))):=by
      intro c E w hs z p;subst Qf;show GF X _ _ _ _ _ _ _ _ _ _ _ _;refine GF.eF hs (Cu u F (hG g (YO hg)) (Qb d _ (aa ..)) z p (JI I) (JI M) PZ P0 λc E w hs z p=>⟨E4 s f n d true,⟨?_,?_⟩,hs,z,p⟩);.rw[Yt (j3 A)]
      .rw[ZY (λh=>by cases h.1),Yi]at⊢
    clear e PT PW;refine a6 (SV b u.hb F.rm uM (c:=!decide (0<A)) Z_ ⟨λh=>?_,λh=>So ?_⟩)
    . have T:A=0:=by simpa using h
      subst T;rw[ZT ⟨rfl,λq=>by rw[q]at S;cases S⟩];refine Sn (Zk (EV.BB ?_) (.inl rfl));refine Sn (Zk (X0 b u.hb F.rm uM (mv:=.str "") Z_ ?_) (.inl rfl));refine Sn (Zk (X0 b u.hb F.rm uM (mv:=.str "") Z_ ?_) (.inl rfl));refine R8 (I3 F rfl rfl (EV.fmt (Zu (Z4 rfl (Zu (Z4 rfl (Zu (Z4 rfl (Y5 ⟨_,pv.h1,rfl,p,λE w V p=>?_⟩)))))))));have z:=z.yield V;refine R8 (I3 F rfl rfl (EV.fmt (Zu (Z4 rfl (Zu (Z4 rfl (Zu (Z4 rfl (Y5 ⟨_,pv.h2,rfl,p,λE w V p=>?_⟩)))))))));have z:=z.yield V;refine So ?_;show PX .next _ E w (ah (bW s f g++(y.drop (0+1)).flatMap (bW s f)));rw[sr];exact PY _ _ _ Zb3 z p
    . have T:0<A:=by simpa using h
      rw[ZY (λq=>by omega),Yi,sr,Yt T];exact PY _ _ _ Zb3 z p
  . rw[D.1,D.2];refine So ⟨.inl rfl,?_,p⟩;rw[Z2,O',ZY];.rfl
    .intro Q;obtain⟨h1,h2⟩:=Q;exact h2 (OD h1)
def D9(a:mf X NC):CL:=t8 (cx 7) a.pm (.ref a.cc) a.doc (.ref a.dd) .none
structure yw(n:U)(s a:J Z):Prop where
 z1:ZR<=1000
 z2:ZC<=1000
 l1:∀x∈s,ZO<=1000
 l2:∀x∈a,ZO<=1000
 hB:(dE s a).length<64
 hG:∀g∈eO n s a,xQ g
theorem xX(c:mf X b)(rm:Rm X m 1)(j:yw n s i)(C:Zab)(r:ao y [Zal,.lst (ah i)] q)(D:ao y F u)(hb:∀(pm cd Wv d:ZP)(u1 u2 u3 u4 u5 u6:nj)y q u,ao y [Zal,.lst (ah i)] q->ao y F u->∃k p,S1 (t8 (cx 7) pm cd Wv d .none) ⟨q,t.zip u⟩=L1 d>>=k/\k (some [rd "" u1,.str "" u2,.str "" u3,.str "" u4,.int 3 u5,.str "\n" u6].toArray)=Yh ([("a"),"b","fromfile","tofile","fromfiledate","tofiledate","n","lineterm"].zip p)/\ao y [Zal,.lst (ah i),.str "",.str "",.str "",.str "",Zbp,.str "\n"] p):ZU YH m (VP (.ref c.fa) q (t.zip u)) (jN X (.ok (.ret .none)) (k+14) A o E (ah (iC s i (eO n s i))) y) bz G:=by
  walk_at"a";obtain⟨PZ,l,I,Oy⟩:=C.kR;refine V_ ?_;refine ud b (a:=D9 c) (PR:=[Zal,.lst (ah i),.str "",.str "",.str "",.str "",Zbp,.str "\n"]) ["a","b","fromfile","tofile","fromfiledate","tofiledate","n","lineterm"] c.fn.get c.fn.nt rfl c.fn.rX c.fn.nc rfl rfl rfl rfl (AQ c.defs rfl (hb _ _ _ _ _ _ _ _ _ _)) Z' (λN hy=>?_) w1 I (Tp l) (D.mono l) λw ga g Q T ob a S x z B f=>?_
  . revert N;repeat(refine cq (by rfl) ?_)
    exact jP
  obtain⟨V,PM,PN,PR,_⟩:=Oy Q _ T a S;clear S;refine⟨V,_,Y7 (λO=>none) w (.own (.=ob)),ga,g,_,PM,PN,rfl,((I4 E).upd x).upd z,aa ..,λPS PT e=>?_,?_,z,λPS PT e=>?_,λP0 PW=>?_⟩;.exact eN e ((ag B).trans (aa ..)) ax
  .rw[ag (Zg B)]
  .exact eN e x ax
  .refine gD.mono ?_ PR;exact gD.start (A:=Xd (D9 c) w c.fa) (n:=k+13) (o:=KJ s i n) (PW.gen _ _) rfl rfl rfl rfl rfl f λP2 P4 P5 PX PY=>Gm c (k:=k) PY PX j.z1 j.z2 j.l1 j.l2 j.hB j.hG rfl
theorem jN.le(h:jN X r n A o E i y a G)(k:bG b y):jN X r n A o E i b a G:=by
 obtain⟨c,d,e,ga,g,st,le,q,q2,q3,q4,q5,f,j,l,m⟩:=h;exact⟨c,d,e,ga,g,st,ru le,q,q2,q3,q4,q5,f,j,l,m⟩
theorem EV.tv(b:Zck)(d:r=.ok (.ret .none)\/r=.ok .next)(rm:Rm X m (n+4))(e:Xs "list"=Zaa)(hl:VY "list"=none/\U9 "list"=some Zad)(h:∀y G,Zab->ZU YH m Zb6 (jN X r n A o E i y) bz G)(f:W6<=ZK)(k:g (.lst i) E)(he:Z3 (Zr [c] A=(false,Zb6)::ZbE) aR):EV X m A (ZH (.Call (.Name "list" F) [c] [] Ym) A) o E g:=EV.DK b (n:=n) rm d e hl.1 hl.2 (λy G S=>ZS (h y G S) (λD a q=>by
  walk_at"b";obtain⟨j,l,p,ga,s,st,le,t,q2,q3,q4,q5,u,w,x,z⟩:=q;exact⟨j,l,ga,s,st,p,le,t,q2,⟨q4,q5,u,w,λB C c=>x B C c,z⟩,q3⟩) λO O q=>q) f k he
theorem Ak(c:mf X b)(rm:Rm X m 1)(n:yw 3 s d)(p:Xs "context_diff"=Zaa)(h:EA X m A [e1,e2] o E λf i=>f=[Zal,.lst (ah d)]/\i=E)(he:Zr [e1,e2] A=(false,ZH e1 A)::Zr [e2] A)(S:Zab):ZU YH m (ZH (.Call (.Name "context_diff" F) [e1,e2] [] Ym) A) (jN X (.ok (.ret .none)) (T+14) A o E (ah (iC s d (eO 3 s d))) y) bz G:=by
 walk_at"a";refine sL ?_ rfl;refine(mw (g:=λu i=>u=.raw (.ref c.fa)/\i=E) b p c.gl ⟨rfl,rfl⟩ (by rfl)).use S λD I N mv Q a w j k=>?_;clear S;obtain⟨rfl,rfl⟩:=k;rw[w.raw];refine callWith_def rfl ((h Ym).use j λV PM x f PN z B l C=>⟨l.g.base c.fa _ c.fn.get c.fn.nt,?_⟩) he;clear j h;obtain⟨rfl,rfl⟩:=C;refine ZS (xX c rm n (t:=[]) l B .nil λpm cd Wv PR u1 u2 u3 u4 u5 u6 y x PS r PT=>?_) (λO O q=>mc (V8 z)) λO O q=>q;refine rep2 r λv1 v2 e=>?_;subst e;exact xO [v1,v2,.str "" u1,.str "" u2,.str "" u3,.str "" u4,.int 3 u5,.str "\n" u6] rfl (r.append (.cons (bp ..) (.cons (bp ..) (.cons (bp ..) (.cons (bp ..) (.cons (a0 ..) (.one (bp ..))))))))
theorem Bi(c:mf X b)(rm:Rm X m 1)(x:yw n s d)(z:Xs "context_diff"=Zaa)(h:EA X m A [e1,e2] o E λj i=>j=[Zal,.lst (ah d)]/\i=E)(he:Zr [e1,e2] A=(false,ZH e1 A)::Zr [e2] A)(hx:Yb ("n")=some Zbp)(S:Zab):ZU YH m (ZH (.Call (.Name "context_diff" PN) [e1,e2] [⟨some "n",.Name "n" q,PR⟩] Ym) A) (jN X (.ok (.ret .none)) (PS+14) A o E (ah (iC s d (eO n s d))) y) bz G:=by
 walk_at"a";refine wpAny_Call_Name_kw ?_;refine(mw (g:=λf i=>f=.raw (.ref c.fa)/\i=E) b z c.gl ⟨rfl,rfl⟩ (by rfl)).use S λPT PW PX mv PY B C D k=>?_;clear S;obtain⟨rfl,rfl⟩:=k;rw[C.raw];have l:=(h Ym);rw[he]at l⊢;refine callWith_function_kw (o:={T':=Zao,Xg:=.func (D9 c)}) (fd:=D9 c) ?_;walk_at"a";clear h;refine evalArgs_kw rfl ?_;refine l.use D λPZ P0 F j P2 I N Q T=>?_;walk_at"a";obtain⟨rfl,rfl⟩:=T;refine Z7 (Z7 ((Z4 (g:=λf i=>f=Zbp/\i=_) hx ⟨rfl,rfl⟩).use Q λP4 P5 w P6 P7 a V p PM=>?_));walk_at"a";obtain⟨rfl,rfl⟩:=PM;refine Z7 (Yq (Z5 (Z7 (ZF (Z5 (Z5 ⟨⟨p.g.base c.fa _ c.fn.get c.fn.nt,rfl⟩,?_⟩))))));refine ZS (xX c rm x (t:=["n"]) p (N.mono a) (.one V) λpm cd Wv P8 u1 u2 u3 u4 u5 u6 y F P9 r u=>?_) (λO O q=>mc ((B.trans I).trans a)) λO O q=>q;refine rep2 r λv1 v2 e=>?_;subst e;refine rep1 u λw e=>?_;subst e;exact⟨_,[v1,v2,.str "" u1,.str "" u2,.str "" u3,.str "" u4,w,.str "\n" u6],rfl,rfl,r.append (.cons (bp ..) (.cons (bp ..) (.cons (bp ..) (.cons (bp ..) (u.append (.one (bp ..)))))))⟩
abbrev Xb:=J (Z×Z)
def comes(w:Xb):Xb:=w.foldr (λn k=>if n.1≠(" ")then(("+"),n.2)::k else((" "),n.2)::k) []
def ED(o:Z×Z)(r:Xb->Xb)(w:Xb):Xb:=tf (motive:=λO=>Xb) (((" "),o.2)::r []) (λn ns k=>if n.1≠(" ")then(("+"),n.2)::k else((" "),o.2)::r ns) w
def UH(l:Xb):Xb->Xb:=VF (λo k w=>if o.1≠(" ")then(("-"),o.2)::k w else ED o k w) comes
theorem xc(hx:x.1≠(" "))(os w:Xb):UH (x::os) w=(("-"),x.2)::UH os w:=ZT hx
variable{NV:Xb}
theorem xr(hy:a.1≠(" "))(b:∀x os,NV=x::os->x.1=" ")(w:Xb):UH NV (a::w)=(("+"),a.2)::UH NV w:=by cases NV with
 |Yl=>exact ZT hy|Zp x os=>
  have ne:=D' (b x os rfl);exact(ZY ne).trans ((ZT hy).trans (Zq _ (ZY ne).symm))
theorem xt{o:Xb}(e:o++a=c::NV)(b:∀x os,o=x::os->x.1=" ")(hw:∀x os,a=x::os->x.1=" "):UH o a=((" "),c.2)::UH (o.drop 1) (IC 1):=by cases o with
 |Yl=>cases a with
  |Yl=>cases e|Zp y w=>
   walk_at"j";cases e;exact ZY (D' (hw _ _ rfl))
 |Zp x os=>
  cases e;cases a with|Yl=>exact ZY (D' (b _ _ rfl))|Zp y w=>exact(ZY (D' (b _ _ rfl))).trans (ZY (D' (hw _ _ rfl)))
abbrev eW:J Wa:=bH ((bH (cx 15)).getD 4 (.Pass default))
abbrev GX(t f pt:MV)(r:Y9)(h st k e b c:MV)(o w:Xb)(p:MV):YV:=[("text",t),("first",f),("parts",pt),("rows",.ref r),("here",h),("stars",st),("k",k),("end",e),("body",b),("cut",c),("olds",aS o),("news",aS w),("places",p)]
theorem qU(G:GH)(x:MV)(a:ZaY):bS G (.lst (x::a)) (.int 0)=Zak:=kl iY Z' (Zq (Option.bind . _) (jT (j3 _)))
theorem hZ(G:GH)(r:Z×Z)(rs:Xb):bS G (.lst (aZ r::h5 aZ)) (.int 0)=some (aZ r):=qU ..
theorem yR(G:GH)(r:Z×Z):bS G (aZ r) (.int 0)=some (.str r.1):=rfl
theorem lA(G:GH)(r:Z×Z):bS G (aZ r) (.int 1)=some (.str r.2):=rfl
abbrev JK:J Wa:=bH (eW.getD 9 (.Pass default))
theorem Sx(h:EF X m Zn (TM Ny Zn) o E B):EF X m Zn (Yk [Ny] Zn) o E B:=ZJ (WT λa O O k=>match a with|.next=>YW k|.brk=>k|.cont=>k|.ret _=>k)
abbrev bX(pm cd Wv:ZP)(a fa:Y9):S2:=Xd (t8 (cx 15) pm cd Wv .none .none) a fa
theorem EV.JN(hx:Yb x=some (aS NV))(a:NV.length<=ZK)(k:g (aS (NV.drop 1)) E)(hn:Z3 ((x=="__classdict__")=false) aD)(hd:Z3 ((x=="__debug__")=false) aD):EV X m Zn (ZH (.Subscript (.Name x b) (.Slice (some (.Constant (.int 1) k0 p1)) none none p2) c) Zn) o E g:=u0 (Z4 hx (U2 (X2 ⟨(1:U),rfl,SN ⟨_,aF ..,by rw[Z2];exact a,by rw[eT,<-o4];exact k⟩⟩)) hn hd)
theorem EB.GS(rm:Za3)(hx:Yb x=some (aS NV))(h1:∀r rs,NV=r::rs->r.1≠" "->Nj true E)(h2:(∀r rs,NV=r::rs->r.1=" ")->Nj false E)(hn:Z3 ((x=="__classdict__")=false) aD)(hd:Z3 ((x=="__debug__")=false) aD):EB X m Zn (XE (.BoolOp .And [.Compare (.Name x p1) [.NotEq] [.List [] p2] a,.Compare (.Subscript (.Subscript (.Name x b) (.Constant (.int 0) k c) d) (.Constant (.int 0) k2 f) i) [.NotEq] [.Constant (.str " ") l s] u] Np) Zn Up) o E Nj:=by cases NV with|Yl=>exact VS (EB.Jz rm hx (bO ..) ⟨λh=>(nomatch h),λO=>h2 λr rs h=>(nomatch h)⟩ hn hd)|Zp r rs=>exact VS (EB.Jz rm hx (bO ..) ⟨λO=>VS (XC rm (Ys (Ys (Z4 hx (X2 ⟨_,hZ ..,X2 ⟨_,yR ..,Wb ⟨!(r.1==" "),rfl,⟨λe=>u_ (h1 r rs rfl (p7 e)),λe=>h2 λg j q=>(List.cons.inj q).1▸eq_of_beq ((Bool.not_not _).symm.trans (Zq (!.) e))⟩⟩⟩⟩) hn hd))) (by with_unfolding_all rfl)),λh=>(nomatch h)⟩ hn hd)
variable{N9:MV}
theorem wR(PM:Zck)(hb:Q' PM)(rm:Rm X m P0)(hr:E r=some (.list (h5 aZ)))(PN:Zc+ZR+u.length<=100000)(D:B .next (GX F f pt r h N9 k n b c [] [] M) (Y7 E r (.list ((rs++UH s u).map aZ)))):EF X m (bX pm cd Wv S fa) (Yk (vc 9) (bX pm cd Wv S fa)) (GX F f pt r h N9 k n b c s u M) E B:=by
  have PR:E=Y7 E r (.list (h5 aZ)):=funext λPS=>by
    clear D;by_cases n:PS=r;.subst n;rw[hr,aa]
    .rw[ag n]
  refine ZJ (EF.rg (λG l i=>∃a o w,G=kf+w.length/\l=GX F f pt r h N9 k n b c o w M/\i=Y7 E r (.list (Ti aZ))/\a++UH o w=rs++UH s u/\ZC+kf+w.length<=100000) (ZR+u.length) (M:=GX F f pt r h N9 k n b c s u M) (exI3 rs s u ⟨rfl,rfl,PR,rfl,PN⟩) ?_ ?_);.exact av Z_
  intro G l i PT;obtain⟨a,o,w,rfl,rfl,rfl,hm,br⟩:=PT;walk_at"a2";have e1:(o++w).length<=ZK:=by rw[Z1,af];exact a9 0x1fcbe03165f01c041 [100000,16777216] [_,_,_] [] br
  have e2:(Ti aZ).length<=ZK:=by rw[Z2,af];exact a9 0x7f2f0e5f01c041 [100000,16777216] [_,_,_] [] br
  have app:∀d,Y7 (Y7 E r (.list (Ti aZ))) r (.list (Ti aZ++[aZ d]))=Y7 E r (.list ((a++[d]).map aZ)):=λd=>by rw[aP,ZE];rfl
  have t:∀E,vf E .Add (aS o) (aS w)=some (aS (o++w)):=λE=>(gj (aF ..) (aF ..) (by rw[Z2,Z2,<-Z1];exact e1)).trans (Zq (λz=>some (MV.lst z)) List.map_append.symm);have A:=YX (by rw[Z1];exact WN _ _) e1;have C:=YX (by rw[Z1];exact Nat.le_add_left _ _) e1;have I:S<S+3:=Xh Z';refine XC rm (YU (Z4 rfl (Z4 rfl ⟨_,t _,Uw (Y5 ⟨by decide,!((o++w).map aZ).isEmpty,Zq (U5 (!.)) (bO ..),λp=>?_,λp=>?_⟩)⟩)));rotate_left;.obtain⟨PW,q2⟩:=XA (vT p);clear e1 t A C p;subst PW;subst q2;rw[show UH [] []=[]from rfl,Zm]at hm;subst hm;exact YW D
  generalize PX:Lo _ _ _=PY;have N:∀d g j,UH o w=d::UH g j->K1+j.length<kf+w.length->PY .next (GX F f pt r h N9 k n b c g j M) (Y7 E r (.list ((a++[d]).map aZ))):=λd g j PZ Q=>by
    subst PX;refine⟨_,_,Q,(Vo (a++[d]) g ⟨j,rfl,rfl,rfl,by rw[<-hm,PZ];simp,by simp only[Z1,YY];(exact bx 0x1ffe490340b07075018a062e4901c041 [_,_,_,_,_,_] br Q)⟩),?_⟩;exact av Z_
  refine Sx (XF (EB.GS rm rfl (λx os q hx=>⟨λO=>?_,λh=>nomatch h⟩) λT=>⟨λh=>(nomatch h),λO=>Sx (XF (EB.GS rm rfl (λy V q hy=>⟨λO=>?_,λh=>nomatch h⟩) λhw=>⟨λh=>(nomatch h),λO=>?_⟩))⟩));.subst q;refine ZJ (VI (W4 (Z4 rfl ⟨r,_,rfl,aa ..,TL (Zu (Wb (Zu (Ys (Ys (Z4 rfl (X2 ⟨_,hZ ..,X2 ⟨_,lA ..,Y5 ⟨ym,_,aa ..,e2,rfl,?_⟩⟩⟩)))))))⟩)));rw[app ("-",x.2)];exact ZJ (Zk (EV.JN rfl A (YW (N ("-",x.2) os w (xc hx os w) (by simp only[YG];exact cY 0x1a80a0e0c041 [_,_])))) (.inr ⟨rfl,_,rfl,I⟩))
  .subst q;refine ZJ (VI (W4 (Z4 rfl ⟨r,_,rfl,aa ..,TL (Zu (Wb (Zu (Ys (Ys (Z4 rfl (X2 ⟨_,hZ ..,X2 ⟨_,lA ..,Y5 ⟨ym,_,aa ..,e2,rfl,?_⟩⟩⟩)))))))⟩)));rw[app ("+",y.2)];exact ZJ (Zk (EV.JN rfl C (YW (N ("+",y.2) o V (xr hy T V) (by simp only[YG];exact cY 0x1a841c20c041 [_,_])))) (.inl rfl))
  . refine wB (o++w) (λe=>?_) λz zs e=>?_;.exact Za e (JP p)
    .refine ZJ (VI (W4 (Z4 rfl ⟨r,_,rfl,aa ..,TL (Zu (Wb (Zu (Ys (Ys (YU (Z4 rfl (Z4 rfl ⟨_,t _,X2 ⟨aZ z,by rw[e];exact hZ ..,X2 ⟨_,lA ..,Y5 ⟨ym,_,aa ..,e2,rfl,?_⟩⟩⟩⟩))))))))⟩)));rw[app (" ",z.2)];refine ZJ (sp (TL (Zu (EV.JN rfl A (Zu (EV.JN rfl C (Y5 ⟨ym,BO YQ (.inr ⟨rfl,_,rfl,I⟩) (.inl rfl) (YW (N (" ",z.2) (o.drop 1) (w.drop 1) (xt e T hw) ?_))⟩)))))));rw[Zd,Zd];have:=Zq Sm e;rw[Z1,YG]at this;(exact aV 0x7f501061170a2e0ee0e1c041 [_,_,_] this)
def rx(x:Z):YZ:=eL x none (some 3)==("---")
def cz(x:Z):Z×Z:=(eL x none (some 1),eL x (some 2) none++("\n"))
theorem fU(b:c<n)(hp:a c=true)(hn:∀i<c,a i=false):∃XG,(Zh n).filter a=c::XG:=by
 obtain⟨m,rfl⟩:∃m,n=c+(m+1):=⟨n-c-1,by exact aV 0x7f7083a2e8844116841 [_,_] b⟩;rw[List.range_add,VL,List.filter_eq_nil_iff.mpr (λi d=>by rw[hn i (WX d)];decide),Yi,Sa,Yd,List.filter_cons,ZT (by exact hp)];exact⟨_,rfl⟩
theorem lF(hx:x[j]?=ZaB)(b:ZO<=1000000):bS c (.lst (ah x)) Zb9=some (.str a):=ug iY (by unfold ah;rw[Zy,hx];rfl) (by rw[az];exact YX b Z')
abbrev Ml(t f:MV)(p:J Z)(r:Y9)(h st:MV)(k e:U):YV:=[("text",t),("first",f),("parts",.lst (ah p)),("rows",.ref r),("here",h),("stars",st),("k",Za0),("end",.int e)]
abbrev MA(t f:MV)(p:J Z)(r:Y9)(h st:MV)(k e:U)(B:J Z)(c:U):YV:=[("text",t),("first",f),("parts",.lst (ah p)),("rows",.ref r),("here",h),("stars",st),("k",Za0),("end",.int e),("body",.lst (ah B)),("cut",Zc6)]
theorem Bd(D:Zdh)(hb:ZcS)(rm:Za3)(g:(s.drop (k+1)).take (u-(k+1))=hd::(t++d::ns))(j:ZR<=100000)(hl:∀x∈s,ZO<=1000)(y:∀x∈hd::t,rx x=false)(z:rx d=true)(A:EF X m (bX pm cd Wv F fa) (Yk (vc 2) (bX pm cd Wv F fa)) (MA M f s r h N9 k u (hd::(t++d::ns)) (YI+1)) E B):EF X m (bX pm cd Wv F fa) (Yk eW (bX pm cd Wv F fa)) (Ml M f s r h N9 k u) E B:=by
  walk_at"d";have hg:∀x,[("len")].contains x=true->(bX pm cd Wv F fa).kindOf x=Zaa:=by
    intro x hx;simp only[Wr,VD,TO,V5]at hx;rw[hx];rfl
  refine ZJ (Zk (u0 (X0 b hb rm hg (mv:=Zal) Z_ (U2 (X0 b hb rm hg (mv:=.int ((k+1))) Z_ ⟨_,rfl,U2 (X0 b hb rm hg (mv:=.int u) Z_ ⟨_,rfl,_,aF ..,?_,?_⟩)⟩)))) (.inr ⟨rfl,_,rfl,(Xh (by decide:0<2))⟩));.rw[az,af];exact O8 j
  have G:∀x∈hd::(t++d::ns),x∈s:=λx hx=>by
    rw[<-g]at hx;exact UI (OE hx)
  have e:(hd::(t++d::ns)).length<=100000:=by rw[<-g,Zo,Zd];exact aV 0x7f22b44811e441 [_,_,_,_] j
  rw[fW,show((ah s).drop (k+1)).take (u-(k+1))=ah ((s.drop (k+1)).take (u-(k+1)))by simp only[ah,o4,List.map_take],g];generalize hB:hd::(t++d::ns)=c at*;refine ZJ (Zk (Ys ?_) (.inl rfl));walk_at"a3";refine p4 [("body",.lst (ah c))] (Zh Yv) (λa=>.int a) (λa l=>aJ "i" Zbu l) (λa=>rx (Pr a "")) (λa=>.int a) ⟨rfl,rfl,?_,?_,?_,?_⟩ (gh.rY YQ b hb rfl D.Ba.1 D.Ba.2 (r3 b hb rm rfl (eA ..) (by rw[af];exact O8 e) ⟨_,rfl,?_,?_⟩));.decide
  .decide
  .intro q hq;rcases ZD hq with rfl;rfl
  .intro q hq;rcases ZD hq with rfl;exact(andI4 rfl (by show some SS≠some Uj;decide) (.inl rfl) rfl)
  .exact a9 0x1fd3eb30e5e1 [100000,1099511627776] [_] [] e
  refine⟨by simp,λa x hx=>?_,⟨?_,λC x hx=>UM (.inl rfl),λx hx=>?_,λC i x hx hG=>?_⟩,?_⟩;.rw[Vr (by have:=(ZN hx).1;simpa using this)]at hx;obtain rfl:=ZW hx;rfl
  .rw[WW,af];exact O8 e
  .exact av Z_
  . have o:=WX hx;walk_at"a4";have p:=Z6 o;have I:Pr x ""=c[x]:=by rw[Z0,p];rfl
    rw[I];refine Fl (XC rm (EV.wx (Ys (Z4 rfl (Z4 rfl ⟨.str c[x],lF p (a9 0x7f2f0e5e1 [100000,1000000] [_] [] e),SN (U2 (X2 ⟨_,rfl,_,rfl,?_,Wb ⟨_,rfl,rfl,rfl,λO=>?_⟩⟩))⟩)))));.have:=hl _ (G c[x] (Un o));rw[af];exact F0 this
    .exact Z4 rfl ⟨rfl,rfl⟩
  obtain⟨XG,N⟩:=fU (a:=λa=>rx (Pr a "")) (n:=Yv) (c:=YI+1) (by rw[<-hB];simp) (by rw[<-hB];simp[z]) (λa w=>by
    have:Pr a ""∈hd::t:=by
      rw[<-hB,<-WO,Z0,UU (by simpa using w),Z6 (by simpa using w)];exact Un _
    exact y _ this);rw[N,Yd];exact X2 ⟨.int ((YI+1:U)),qU ..,A⟩
abbrev G9(t f:MV)(p:J Z)(r:Y9)(h st:MV)(k e:U)(B:J Z)(c:U)(o w:Xb):YV:=[("text",t),("first",f),("parts",.lst (ah p)),("rows",.ref r),("here",h),("stars",st),("k",Za0),("end",.int e),("body",.lst (ah B)),("cut",Zc6),("olds",aS o),("news",aS w)]
def Sv(o w:Xb):Xb:=if o=[]then w.filter (λr=>r.1==(" "))else o
theorem qu(x:Z)(lo a:Zs Zv):(eL x lo a).length<=ZO:=sG x lo a
theorem sY(hb:Q' NC)(rm:Za3)(hx:ZO<=1000)(k:g (aZ (cz x)) E):EV X m Zn (ZH (.Tuple [.Subscript (.Name "part" p1) (.Slice none (some (.Constant (.int 1) j1 p2)) none a) b,.BinOp (.Subscript (.Name "part" c) (.Slice (some (.Constant (.int 2) d f)) none none i) l) .Add (.Constant (.str "\n") q r) s] u F) Zn) (aJ "part" (.str x) []) E g:=by
 refine TL (Zu (EV.wx (Z4 rfl (SN (U2 (X2 ⟨_,rfl,_,rfl,?_,?_⟩))))));.rw[af];exact F0 hx
 refine Zu (YU (EV.wx (Z4 rfl (U2 (X2 ⟨_,rfl,SN ⟨_,rfl,?_,?_⟩⟩)))));.rw[af];exact F0 hx
 refine Wb ⟨.str (eL x (some 2) none++"\n"),?_,Y5 ⟨(by decide:2<=ZK),k⟩⟩;have:=qu x (some 2) none;exact dN (by rw[(rfl:"\n".length=1),af];exact cD 0x1ffe5f070b21165e1 [1000,16777216] [_,_] [] hx this)
theorem yo(D:Zdh)(hb:ZcS)(rm:Za3)(g:YI+ns.length<=100000)(hl:∀x∈t++ns,ZO<=1000)(o:EF X m Zbc (Yk (vc 4) Zbc) (G9 s f u F h N9 k a (hd::(t++d::ns)) (YI+1) (k' cz) (ns.map cz)) E B):EF X m Zbc (Yk (vc 2) Zbc) (MA s f u F h N9 k a (hd::(t++d::ns)) (YI+1)) E B:=by
 walk_at"d";have hg:∀x,[].contains x=true->(bX pm cd Wv c fa).kindOf x=Zaa:=λx hx=>by simp at hx
 have e1:cF (ah (hd::(t++d::ns))) (some 1) (some ((YI+1:U)))=k' .str:=by
  walk_at"j";rw[show(1)=((1:U))from rfl,fW];simp[ah]
 have e2:cF (ah (hd::(t++d::ns))) (some ((YI+1+1:U))) none=ns.map .str:=by
  rw[eT];simp[ah,List.drop_append]
 have e:(ah (hd::(t++d::ns))).length<=ZK:=by rw[az,af];simp only[YG,Z1];exact a9 0x7f2f83a10708397c041 [100000,16777216] [_,_] [] g
 refine ZJ (Zk (p4 [] t (.str .) (λx l=>aJ "part" (.str x) l) (λO=>true) (λx=>aZ (cz x)) ⟨rfl,rfl,?_,?_,?_,?_⟩ (p3 YQ (u0 (Z4 rfl (U2 (X2 ⟨_,rfl,U2 (Z4 rfl ⟨_,rfl,_,aF ..,e,?_⟩)⟩)))))) (.inr ⟨rfl,_,rfl,(Xh (by decide:0<3))⟩));.decide
 .decide
 .intro q hq;cases hq
 .intro q hq;cases hq
 refine⟨by rw[e1],⟨by rw[af];(exact J2 g),λC x hx=>UM (.inl rfl),λx hx y p a=>(by cases a),λC i x hx hG=>h_ ⟨rfl,rfl,λO=>sY hb rm (hl x (Y2 _ hx)) ⟨rfl,rfl⟩⟩⟩,?_⟩;refine ZJ (EF.rq [] ns (.str .) (λx l=>aJ "part" (.str x) l) (λO=>true) (λx=>aZ (cz x)) ⟨rfl,rfl,?_,?_,?_,?_⟩ (.inl rfl) (p3 YQ (u0 (X0 b hb rm hg Z_ (U2 (X0 b hb rm hg (mv:=.int ((YI+1+1))) Z_ ⟨_,rfl,SN ⟨_,aF ..,e,?_⟩⟩))))));.decide
 .decide
 .intro q hq;cases hq
 .intro q hq;cases hq
 refine⟨Zq _ e2,⟨by rw[af];(exact Kx g),λC x hx=>UM (.inl rfl),λx hx y p a=>(by cases a),λC i x hx hG=>h_ ⟨rfl,rfl,λO=>sY hb rm (hl x (Y1 _ hx)) ⟨rfl,rfl⟩⟩⟩,?_⟩;have r:∀j:J Z,(j.filter λO=>true).map (λx=>aZ (cz x))=(j.map cz).map aZ:=λj=>by rw[Xo,Ue (λO O=>rfl)];rfl
 rw[r,r];exact o
abbrev My(t:MV)(fs p:J Z)(r:Y9)(h st:MV)(k e:U)(B:J Z)(c:U)(o w:Xb)(a:J U):YV:=[("text",t),("first",.lst (ah fs)),("parts",.lst (ah p)),("rows",.ref r),("here",h),("stars",st),("k",Za0),("end",.int e),("body",.lst (ah B)),("cut",Zc6),("olds",aS o),("news",aS w),("places",.lst (Ti λs=>.int (s:U)))]
def bC(s m:U):Z:=("*** ")++aN s m++(" ****")
def js(n:U)(hd:Z)(m:U):J U:=(Zh (n+1)).filter λs=>hd==bC s m
theorem mM(o w:Xb)(N:U)(a:kf<=N)(hw:w.length<=N):(Sv o w).length<=N:=by
 unfold Sv;refine bQ rfl (λO=>?_) λO=>?_;.exact YX (VR ..) hw
 .exact a
theorem fJ(h:NV≠[]):Sv NV a=NV:=ZY h
theorem zC(D:Zdh)(hb:ZcS)(rm:Za3)(y:ZC+Yc<=100000)(hs:∀r∈a++d,r.1.length<=1000)(A:EF X m ZaO (Yk (vc 5) ZaO) (G9 F f M S h N9 k s T c (Sv a d) (Sv d a)) E B):EF X m ZaO (Yk (vc 4) ZaO) (G9 F f M S h N9 k s T c a d) E B:=by
  walk_at"d";refine ZJ ?_;generalize G:iU _ _ _ _ _=I;have N:∀o w,o=Sv a d->w=Sv d a->I .next (G9 F f M S h N9 k s T c o w) E:=by intro O O j;subst j;intro j;subst j;subst G;exact A
  clear hs;have z:∀rs:Xb,MV.lst ((rs.filter λr=>r.1==(" ")).map aZ)=aS (rs.filter λr=>r.1==" "):=λO=>rfl;refine XF (EB.vh rm rfl (bO ..) ⟨λp=>?_,λp=>?_⟩)
  . have g:=CF p;refine Sx (Zk (p4 [] d aZ (λr l=>aJ "line" (.str r.2) (aJ "mark" (.str r.1) l)) (λr=>r.1==" ") aZ ⟨rfl,rfl,?_,?_,?_,?_⟩ (p3 YQ (Z4 rfl ⟨rfl,⟨?_,?_,?_,?_⟩,?_⟩))) (.inr ⟨rfl,_,rfl,(Xh (by decide:0<3))⟩));.decide
    .decide
    .intro q hq;cases hq
    .intro q hq;cases hq
    .rw[af];exact Kx y
    .exactλC r hr=>(bk YQ (.inl rfl) (.inl rfl)).gA
    .exactλr hr x Q s=>(by cases s)
    .intro C i r hr hG;refine Fl (SV b hb rm (gl:=[]) (λf e=>by simp at e) Z_ ⟨rfl,rfl,λO=>X0 b hb rm (gl:=[]) (λf e=>by simp at e) Z_ ⟨rfl,rfl⟩⟩)
    .rw[z];exact N _ _ (by unfold Sv;rw[ZT g]) (by rw[g];unfold Sv;split<;>simp_all)
  . have g:=Iq p;refine Sx (XF (EB.vh rm rfl (bO ..) ⟨λhw=>?_,λhw=>?_⟩))
    . have t:=CF hw;refine Sx (EF.rq [] a aZ (λr l=>aJ "line" (.str r.2) (aJ "mark" (.str r.1) l)) (λr=>r.1==" ") aZ ⟨rfl,rfl,?_,?_,?_,?_⟩ (.inl rfl) (p3 YQ (Z4 rfl ⟨rfl,⟨?_,?_,?_,?_⟩,?_⟩)));.decide
      .decide
      .intro q hq;cases hq
      .intro q hq;cases hq
      .rw[af];exact J2 y
      .exactλC r hr=>(bk YQ (.inl rfl) (.inl rfl)).gA
      .exactλr hr x Q s=>(by cases s)
      .intro C i r hr hG;refine Fl (SV b hb rm (gl:=[]) (λf e=>by simp at e) Z_ ⟨rfl,rfl,λO=>X0 b hb rm (gl:=[]) (λf e=>by simp at e) Z_ ⟨rfl,rfl⟩⟩)
      .rw[z];exact N _ _ (fJ g).symm (by unfold Sv;rw[ZT t])
    .have t:=Iq hw;exact YW (N _ _ (fJ g).symm (fJ t).symm)
theorem uK(D:Zdh)(hb:ZcS)(rm:Rm X m (n+1))(g:ZC+Xr<=100000)(hB:f[0]?=some hd)(w:W0<=100000)(e:OZ<=100000)(y:js OZ hd ZC≠[])(z:EF X m ZaO (Yk (vc 7) ZaO) (My M fs S r h N9 k T f c a F (js OZ hd ZC)) E B):EF X m ZaO (Yk (vc 5) ZaO) (G9 M (.lst (ah fs)) S r h N9 k T f c a F) E B:=by
  walk_at"d";refine ZJ (EF.rq [("body",ZcB),("olds",aS a)] (Zh (OZ+1)) (λd=>.int d) (λd l=>aJ "s" (.int d) l) (λs=>hd==bC s ZC) (λd=>.int d) ⟨rfl,rfl,?_,?_,?_,?_⟩ (.inl rfl) (gh.rY YQ b hb rfl D.Ba.1 D.Ba.2 (YU (r3 b hb rm rfl (eA ..) (by rw[af];exact O8 e) (X2 ⟨.int ((OZ+1)),rfl,_,rfl,?_,?_⟩)))));.decide
  .decide
  .intro q hq;simp only[XW,YL,Vt]at hq;rcases hq with rfl|rfl<;>rfl
  .intro q hq;simp only[XW,YL,Vt]at hq;rcases hq with rfl|rfl<;>exact(andI3 rfl (by show some SS≠some Uj;decide) ⟨.inl rfl,rfl⟩)
  .exact a9 0x7f4face0e0e5e1 [100000,1099511627776] [_] [] e
  refine⟨by simp,λd x hx=>?_,⟨?_,λC x hx=>UM (.inl rfl),λx hx=>?_,λC i x hx hG=>?_⟩,?_⟩;.rw[Vr (by have:=(ZN hx).1;simpa using this)]at hx;obtain rfl:=ZW hx;rfl
  .rw[WW,af];exact a9 0x1fcbe0e0e5e1 [100000,16777216] [_] [] e
  .exact av Z_
  . have j:=WX hx;walk_at"O";have o:SU (x+1):=by unfold SU;exact cD 0x1ffe9f583a61cbc5a83841 [100000,1099511627776] [_,_] [] j e
    have p:SU (x+ZC):=by unfold SU;exact rU 0xffffa7d6130cc7979350710797c041 [100000,100000,1099511627776] [_,_,_,_] [] g j e
    have t:=fc o p;refine Fl (XC rm (Ys (Z4 rfl (X2 ⟨.str hd,lF hB (a9 0x7f2f0e5e1 [100000,1000000] [_] [] w),YU (YU (Wb (s_ b rfl D.range.gl D.range.fn.get D.range.fn.nt rfl (Zu (Z4 rfl (Zu (r3 b hb rm rfl (gN ..) (by rw[af];exact J2 g) (Y5 (nW D.range.fn b hb rm o p ?_)))))))))⟩))));refine⟨.str ("*** "++aN x ZC),?_,Wb ⟨.str (bC x ZC),?_,_,rfl,rfl,rfl,λO=>Z4 rfl ⟨rfl,rfl⟩⟩⟩;.refine R3 (dN ?_) rfl;show 4+_<=_;rw[af];exact a9 0x1fcbe017e5e1 [41,4,16777216] [_] [] t
    .refine R3 (dN ?_) rfl;rw[UK];show 4+_+5<=_;rw[af];exact a9 0x7f2f83e017e5e1 [41,4,5,16777216] [_] [] t
  exact ZJ (XF (EB.vh rm rfl (bO ..) ⟨λh=>Za (CF h) y,λO=>YW z⟩))
def XO(l:J Z):Xb:=t' λx=>((" "),x)
theorem lp(G:GH)(x:MV)(a:ZaY):bS G (.lst (x::a)) (.int 0)=Zak:=qU ..
inductive BodyOk(n:U):J Z->U->Xb->Xb->Prop|mk{hd d:Z}{os ns:J Z}{s:U}{XG:J U}(a:∀x∈hd::os,rx x=false)(b:rx d=true)(hp:js n hd (Sv (os.map cz) (ns.map cz)).length=s::XG):BodyOk n (hd::(os++d::ns)) s (Sv (os.map cz) (ns.map cz)) (Sv (ns.map cz) (os.map cz))
theorem yu(D:Zdh)(hb:ZcS)(rm:Rm X m (n+1))(hr:E r=some (.list (h5 aZ)))(a:Zc+OZ+Yv+Yc<=100000)(e:B .next (GX u (.lst (ah fs)) (.lst (ah F)) r (.int ((s+Yv:U))) N9 Zb9 (.int p) (.lst (ah M)) (.int I) [] [] (.lst ((s::XG).map λs=>.int (s:U)))) (Y7 E r (.list ((rs++XO ((jn h).take (s-h))++UH c d).map aZ)))):EF X m (bX pm cd Wv k fa) (Yk (vc 7) (bX pm cd Wv k fa)) (My u fs F r (.int h) N9 j p M I c d (s::XG)) E B:=by
 walk_at"d";have hg:∀x,["len"].contains x=true->(bX pm cd Wv k fa).kindOf x=Zaa:=by
  intro x hx;simp only[Wr,VD,TO,V5]at hx;rw[hx];rfl
 have e1:cF (ah fs) (some h) (some s)=((jn h).take (s-h)).map .str:=by rw[fW];simp[ah]
 have l:((jn h).take (s-h)).length<=OZ:=by rw[Zo,Zd];exact KZ
 refine ZJ (VI (M_ (Z4 rfl ⟨r,_,rfl,hr,?_⟩)));walk_at"K";refine p4 [] ((jn h).take (s-h)) (.str .) (λx g=>aJ "line" (.str x) g) (λO=>true) (λx=>aZ (" ",x)) ⟨rfl,rfl,?_,?_,?_,?_⟩ (p3 YQ (u0 (Z4 rfl (U2 (Z4 rfl ⟨_,rfl,U2 (Ys (Z4 rfl (X2 ⟨.int s,lp ..,_,rfl,_,aF ..,?_,?_⟩)))⟩)))));.decide
 .decide
 .intro q hq;cases hq
 .intro q hq;exact nomatch hq
 .rw[az,af];exact a9 0x1fcbc597c0901c041 [100000,16777216] [_,_,_,_] [] a
 refine⟨e1▸rfl,⟨by rw[af];(exact cD 0x1ffe5e5c88b97c0901c041 [100000,16777216] [_,_,_,_,_] [] a l),λC x hx=>UM (.inl rfl),λx hx y t p=>(by exact ax p),λC i x hx hG=>h_ ⟨rfl,rfl,λO=>X0 b hb rm (gl:=[]) (λf o=>by simp at o) ?_ ⟨rfl,rfl⟩⟩⟩,h5 aZ,(XO ((jn h).take (s-h))).map aZ,hr,?_,?_,rfl,?_⟩;.kernel_rfl!
 .rw[aF,Ue (λO O=>rfl),XO,Xo];rfl
 .rw[Z2,Z2,XO,Z2,af];exact cD 0x7ff97c0a1c88b97c0901c041 [100000,16777216] [_,_,_,_,_] [] a l
 rw[<-ZE];refine ZJ (Zk (YU (Ys (Z4 rfl (X2 ⟨.int s,lp ..,r3 b hb rm rfl (gN ..) (by rw[af];exact a9 0x7f2f165f01c041 [100000,16777216] [_,_,_] [] a) ⟨.int ((s+Yv)),rfl,?_⟩⟩)))) (.inl rfl));refine wR b hb rm (aa ..) (by rw[Z1,XO,Z2];exact bx 0x7ff92c0901c0c1c88d92c0901c041 [_,_,_,_,_,_] a l) ?_;rw[aP];exact e
variable{ND:J Z}
set_option tactic.hygienic true in theorem yk{Wv:ZP}{st:MV}{o:Xb}{w:Xb}(D:cZ X NC)(hb:Q' NC)(rm:Rm X m (j+1))(b:(TY (I+1)).take (N4-(I+1))=ND)(hB:BodyOk YI ND NT o w)(g:XQ<=10000)(hl:∀x∈e,ZO<=1000)(hr:E Q=some (.list (NV.map aZ)))(g:NV.length+YI<=50000)(n:∀c,N' [("text",N9),("first",.lst (ah t)),("parts",.lst (ah e)),("rows",.ref Q),("here",.int ((NT+kf:U))),("stars",st)] c->B .next c (Y7 E Q (.list ((NV++XO ((Xv p).take (NT-p))++UH o w).map aZ)))):EF X m (bX NH Pn Wv Nh z) (Yk eW (bX NH Pn Wv Nh z)) (Ml N9 (.lst (ah t)) e Q (.int p) st I N4) E B:=by
  walk_at"d";have a:X3<=XQ:=by rw[<-b,Zo,Zd];exact KZ
  have s:∀x∈ND,ZO<=1000:=λx hx=>hl x (by rw[<-b]at hx;exact UI (OE hx));induction hB with|mk u y hp=>?_;rename_i hd d os ns NT XG;simp only[YG,Z1]at a;have i:∀x∈os++ns,ZO<=1000:=λx hx=>s x (by
    rcases ZM hx with q|q;.exact ZX _ (Y2 _ q)
    .exact ZX _ (Y1 _ (ZX _ q)));have f:=mM (os.map cz) (ns.map cz) 10000 (by rw[Z2];exact bx 0x7ff9207241e47074041 [_,_,_,_] a ‹_›) (by rw[Z2];exact bx 0x1ffe482c90791c1d083841 [_,_,_,_] a ‹_›);have k:=mM (ns.map cz) (os.map cz) 10000 (by rw[Z2];exact bx 0x1ffe482c90791c1d083841 [_,_,_,_] a ‹_›) (by rw[Z2];exact bx 0x7ff9207241e47074041 [_,_,_,_] a ‹_›);refine Bd D hb rm b (JM ‹_›) hl u y ?_;refine yo D hb rm (cD 0x7ff97c041cbc791c1d083841 [10000,100000] [_,_,_] [] a ‹_›) i ?_;refine zC D hb rm (by rw[Z2,Z2];exact cD 0x7ff97c041cbc791c1d083841 [10000,100000] [_,_,_] [] a ‹_›) (λr l=>?_) ?_;.rw[<-ZE]at l;obtain⟨x,hx,YA⟩:=Zl l;rw[<-YA];exact YX (qu x none (some 1)) (i x hx)
  refine uK D hb rm (cD 0x1ffe5f01072f165e1 [10000,10000,100000] [_,_] [] f k) rfl (by simp only[YG,Z1];exact cD 0x7ff978b21165e1 [10000,100000] [_,_] [] ‹_› a) (a9 0x1fcbc597c041 [50000,100000] [_,_] [] g) (by rw[hp];simp) ?_;rw[hp];exact yu D hb rm hr (rU 0x7fffcbe028047978f2f165e1 [10000,10000,50000,100000] [_,_,_] [] f k g) (n _ (av Z_))
abbrev cp:=J Z×J Z×J Z
def aU(c:cp):Xb:=c.1.map (λx=>(("-"),x))++c.2.1.map (λx=>(("+"),x))++XO c.2.2
def au(e:J Z)(cs:Zb8):Xb:=XO e++WK aU
def a7(cs:Zb8):Prop:=cs.rec m3 λc r R=>(c.1≠[]\/c.2.1≠[])/\(r=[]\/c.2.2≠[])/\R
variable{Nq:cp}{Nl:Zb8}
theorem a7.qM(h:a7 (Nq::Nl)):(Nq.1≠[]\/Nq.2.1≠[])/\(Nl=[]\/Nq.2.2≠[])/\a7 Nl:=h
theorem a7.hd2{c:cp}(h:a7 (Nq::c::Nl)):(Nq.1≠[]\/Nq.2.1≠[])/\Nq.2.2≠[]/\a7 (c::Nl):=⟨h.1,h.2.1.resolve_left (Y8 _ _),h.2.2⟩
theorem pK:¬("-"=(" ")):=by rw[ay];decide
theorem qj:¬("+"=(" ")):=by rw[ay];decide
theorem pY:∀(i:J Z)(st:J Pt×Pt),(XO i).foldl bc st=(st.1,⟨st.2.d,st.2.a,st.2.k++i⟩):=by
 intro I;induction I with
 |Yl=>
  intro st;simp[XO]|Zp x i b=>
  intro st;have e:bc st (" ",x)=(st.1,⟨st.2.d,st.2.a,st.2.k++[x]⟩):=by
   unfold bc aQ;rw[ZY (λh=>h.1 rfl),pI]
  have:=b (st.1,⟨st.2.d,st.2.a,st.2.k++[x]⟩);rw[this];simp
theorem x8:∀(b:J Z)(st:J Pt×Pt),st.2.k=[]->(hu λx=>(("-"),x)).foldl bc st=(st.1,⟨st.2.d++b,st.2.a,st.2.k⟩):=by
 intro I;induction I with
 |Yl=>
  intro st _;simp|Zp x b c=>
  intro st h;rw[UQ];have e:bc st ("-",x)=(st.1,⟨st.2.d++[x],st.2.a,st.2.k⟩):=by
   unfold bc aQ;rw[ZY (λq=>q.2 h),qx]
  rw[e,c (st.1,⟨st.2.d++[x],st.2.a,st.2.k⟩) h];simp
theorem yb:∀(b:J Z)(st:J Pt×Pt),st.2.k=[]->(hu λx=>(("+"),x)).foldl bc st=(st.1,⟨st.2.d,st.2.a++b,st.2.k⟩):=by
 intro I;induction I with
 |Yl=>
  intro st _;simp|Zp x b c=>
  intro st h;rw[UQ];have e:bc st ("+",x)=(st.1,⟨st.2.d,st.2.a++[x],st.2.k⟩):=by
   unfold bc aQ;rw[ZY (λq=>q.2 h),s7]
  rw[e,c (st.1,⟨st.2.d,st.2.a++[x],st.2.k⟩) h];simp
def S7(st:J Pt×Pt):J Pt×Pt:=if st.2.k≠[]then(st.1++[st.2],⟨[],[],[]⟩)else st
theorem mr(st:J Pt×Pt):(S7 st).2.k=[]:=by
 unfold S7;refine bQ rfl (λO=>?_) λh=>?_;.rfl
 .simpa using h
theorem mS{st:J Pt×Pt}(h:r.1≠(" ")):bc st r=bc (S7 st) r:=by
 have e1:aQ st r.1=S7 st:=by
  unfold aQ S7;by_cases a:st.2.k≠[];.rw[ZT ⟨h,a⟩,ZT a]
  .rw[ZY (λq=>a q.2),ZY a]
 have e2:aQ (S7 st) r.1=S7 st:=by
  unfold aQ;rw[ZY (λq=>q.2 (mr st))]at⊢
 unfold bc;rw[e1,e2]
theorem uC(c:cp)(h:c.1≠[]\/c.2.1≠[])(st:J Pt×Pt):(aU c).foldl bc st=((S7 st).1,⟨(S7 st).2.d++c.1,(S7 st).2.a++c.2.1,c.2.2⟩):=by
 have e:(aU c).foldl bc st=(aU c).foldl bc (S7 st):=by
  induction c using EH with|mk b i f=>?_;unfold aU;cases b with
  |Yl=>cases i with|Yl=>exact Za h (by simp)|Zp x i=>
    simp only[R7,Yi,Yd,WO,UQ]
    rw[mS qj]|Zp x b=>
   simp only[Yd,WO,UQ];rw[mS pK]
 rw[e];rw[WV,WV,x8 _ _ (mr st),yb c.2.1 ((S7 st).1,⟨(S7 st).2.d++c.1,(S7 st).2.a,(S7 st).2.k⟩) (mr st),pY];simp[mr st]
def ql(c:cp):Pt:=⟨c.1,c.2.1,c.2.2⟩
theorem yl:∀(cs:Zb8)(st:J Pt×Pt),a7 cs->cs≠[]->(st.2.k≠[]\/st.2=⟨[],[],[]⟩)->(let s:=(WK aU).foldl bc st;s.1++[s.2])=(S7 st).1++cs.map ql:=by
 intro I;induction I with
 |Yl=>
  intro _ _ h _;exact Za rfl h|Zp c d e=>cases d with
  |Yl=>
   intro st ok _ hs;walk_at"r";have a:=ok.qM.1;have hb:(S7 st).2=⟨[],[],[]⟩:=by
    unfold S7;split;.rfl
    .rename_i b;exact hs.resolve_left b
   show((aU c++[]).foldl bc st).1++[((aU c++[]).foldl bc st).2]=_;rw[Zm,uC c a,hb];rfl|Zp f r=>
   intro st ok _ hs;obtain⟨a,he,t⟩:=ok.hd2;have hb:(S7 st).2=⟨[],[],[]⟩:=by
    unfold S7;split;.rfl
    .rename_i b;exact hs.resolve_left b
   rw[WV,uC c a,hb];refine R3 (e ((S7 st).1,ql c) t (Y8 _ _) (.inl he)) ?_;unfold S7;rw[ZT (show(ql c).k≠[]from he)];simp
theorem wh(k0:J Z)(cs:Zb8)(ok:a7 cs)(a:cs≠[]):bD Zc9=(if k0=[]then[]else[⟨[],[],k0⟩])++cs.map ql:=by
 unfold bD aC;rw[WV,pY];have hs:(([]:J Pt),(⟨[],[],[]++k0⟩:Pt)).2.k≠[]\/(([]:J Pt),(⟨[],[],[]++k0⟩:Pt)).2=⟨[],[],[]⟩:=by
  by_cases h:k0=[];.rw[h];exact .inr rfl
  .exact .inl h
 refine R3 (yl cs _ ok a hs) ?_;unfold S7;by_cases h:k0=[];.rw[h];rfl
 .rw[ZT (show(⟨[],[],[]++k0⟩:Pt).k≠[]from h),ZY h];rfl
def dv(Yj:YZ)(c:cp):J Z:=if Yj then c.2.1 else c.1
def gM(WC:Z)(c:cp):Z:=if c.1≠[]/\c.2.1≠[]then("! ")else WC
def ej(i:J Z):J Z:=i.map (("  ")++.)
def dA(Yj:YZ)(WC:Z)(k0:J Z)(cs:Zb8):J Z:=ej k0++WK λc=>(dv Yj c).map (gM WC c++.)++ej c.2.2
def bA(Yj:YZ)(cs:Zb8):YZ:=cs.any λc=>!(dv Yj c).isEmpty
theorem x9(Yj:YZ)(WC:Z)(k0:J Z)(cs:Zb8)(ok:a7 cs)(a:cs≠[]):half Zc9 Yj WC=if bA Yj cs then dA Yj WC k0 cs else[]:=by
  unfold half;rw[wh k0 cs ok a];have e:∀p∈(if k0=[]then[]else[(⟨[],[],k0⟩:Pt)]),Uk Yj=[]/\p=⟨[],[],k0⟩:=λp hp=>by
    split at hp;.exact nomatch hp
    .rw[ZD hp];exact⟨by cases Yj<;>rfl,rfl⟩
  have e1:((if k0=[]then[]else[(⟨[],[],k0⟩:Pt)])++cs.map ql).any (λp=>!(Uk Yj).isEmpty)=bA Yj cs:=by
    rw[List.any_append,List.any_map];have:(if k0=[]then[]else[(⟨[],[],k0⟩:Pt)]).any (λp=>!(Uk Yj).isEmpty)=false:=by
      rw[List.any_eq_false];intro p hp;rw[(e p hp).1];decide
    rw[this,Bool.false_or];rfl
  rw[e1];have e2:((if k0=[]then[]else[(⟨[],[],k0⟩:Pt)])++cs.map ql).flatMap (·.aL Yj WC)=dA Yj WC k0 cs:=by
    rw[YT,dA,List.flatMap_map];congr 1;by_cases h:k0=[];.rw[h];rfl
    .rw[ZY h];cases Yj<;>simp[Pt.aL,Pt.side,ej]
  rw[e2]
structure Hn where
 s:J Z
 k0:J Z
 ps:J cp
def d6(h:Hn):Xb:=au zx RY
def bY(n:U)(l:J Z):J Z:=l.take (Xl-n)
def bK(n:U)(l:J Z):J Z:=vi (Xl-n)
theorem je(n:U)(l:J Z):bY n l++bK n l=l:=XJ ..
def vu(n:U)(s k0:J Z)(a cs:Zb8):J Hn×J Z:=tf (motive:=λO=>J Z->J Z->J cp->J Hn×J Z) (λs k0 a=>([⟨s,k0,a⟩],[])) (λc r k s k0 a=>m_ (motive:=λO=>J Hn×J Z) r ([⟨s,k0,a++[(c.1,c.2.1,c.2.2.take n)]⟩],c.2.2.drop n) λO O=>if 2*n<c.2.2.length then(⟨s,k0,a++[(c.1,c.2.1,c.2.2.take n)]⟩::(k (bY n (c.2.2.drop n)) (bK n (c.2.2.drop n)) []).1,(k (bY n (c.2.2.drop n)) (bK n (c.2.2.drop n)) []).2)else k s k0 (a++[c])) cs s k0 a
theorem HR(n s k0 a):vu n s k0 a []=([⟨s,k0,a⟩],[]):=rfl
theorem uP(n s k0 a c):vu n s k0 a [c]=([⟨s,k0,a++[(c.1,c.2.1,c.2.2.take n)]⟩],c.2.2.drop n):=rfl
theorem mL(n s k0 a c b r):vu n s k0 a (c::b::r)=if 2*n<c.2.2.length then(⟨s,k0,a++[(c.1,c.2.1,c.2.2.take n)]⟩::(vu n (bY n (c.2.2.drop n)) (bK n (c.2.2.drop n)) [] (b::r)).1,(vu n (bY n (c.2.2.drop n)) (bK n (c.2.2.drop n)) [] (b::r)).2)else vu n s k0 (a++[c]) (b::r):=rfl
def dZ(n:U)(e:J Z)(cs:Zb8):J Hn×J Z:=if cs=[]then([],e)else vu n (bY n e) (bK n e) [] cs
def bf(t:J Hn×J Z):Xb:=(t.1.flatMap λh=>XO h.s++X4)++XO t.2
theorem fR(a b:J Z):XO (a++b)=XO a++XO b:=ZE
theorem pM(c:cp)(n:U):aU c=aU (c.1,c.2.1,c.2.2.take n)++XO (c.2.2.drop n):=by
 have e:XO c.2.2=XO (c.2.2.take n)++XO (c.2.2.drop n):=by rw[<-fR,XJ]
 show(c.1.map (λx=>(("-"),x))++c.2.1.map (λx=>(("+"),x)))++XO c.2.2=((c.1.map (λx=>(("-"),x))++c.2.1.map (λx=>(("+"),x)))++XO (c.2.2.take n))++XO (c.2.2.drop n);rw[e,ZQ (_++_) (XO (c.2.2.take n))]
theorem Bp(n:U):∀(cs:Zb8)(s k0:J Z)(a:Zb8),bf (vu n s k0 a cs)=XO s++au k0 (a++cs):=by
  intro b;induction b with
  |Yl=>
    intro s k0 a;simp[HR,bf,d6,XO]|Zp c d I=>cases d with
    |Yl=>
      intro s k0 a;have e:=pM c n;simp only[uP,bf,d6,au,Zz,Xj,Zm,YT,e,ZQ]|Zp f r=>
      intro s k0 a;rw[mL];refine bQ rfl (λO=>?_) λO=>?_
      . have i:=I (bY n (c.2.2.drop n)) (bK n (c.2.2.drop n)) [];unfold bf at i⊢;rw[ZQ,i];have e2:XO (c.2.2.drop n)=XO (bY n (c.2.2.drop n))++XO (bK n (c.2.2.drop n)):=by rw[<-fR,je]
        simp only[d6,au,YT,Zz,Xj,Zm,Yi,(pM c n),e2,ZQ]
      .rw[I s k0 (a++[c])];simp
theorem vD(n:U)(e:J Z)(cs:Zb8):bf (dZ n e cs)=au e cs:=by
 unfold dZ;refine bQ rfl (λh=>?_) λO=>?_;.subst h;simp[bf,au]
 .rw[Bp,Yi,au,<-ZQ,<-fR,je];rfl
theorem DN(b:d<=n):∀(cs:Zb8)(s k0:J Z)(a:Zb8),(∀c∈cs,c.2.2.length<=d)->vu n s k0 a cs=vu d s k0 a cs:=by
 intro I;induction I with
 |Yl=>
  intro _ _ _ _;exact rfl|Zp c e f=>cases e with
  |Yl=>
   intro s k0 a h;have:=h c (.head _);rw[uP,uP];rw[YR (show c.2.2.length<=n by exact EE this b),YR this,Vi (show c.2.2.length<=n by exact EE this b),Vi this]|Zp g r=>
   intro s k0 a h;have:=h c (.head _);rw[mL,mL,ZY (by exact cD 0x1fff34190f2316441 [2] [_,_,_] [] this b),ZY (by exact a9 0x1fe683216441 [2] [_,_] [] this)];exact f s k0 _ λx hx=>h x (ZX _ hx)
theorem a7.snoc:∀{a:Zb8}{c:cp}{cs:Zb8},a7 (a++c::cs)->∀k,a7 (a++[(c.1,c.2.1,k)]):=by
 intro I;induction I with
 |Yl=>
  intro c cs h k;exact⟨h.1,.inl rfl,trivial⟩|Zp d e b=>
  intro c cs h k;exact⟨h.1,.inr (h.2.1.resolve_left (List.append_ne_nil_of_right_ne_nil _ (Y8 _ _))),b h.2.2 k⟩
theorem a7.t1(h:a7 (a::l)):a7 l:=by exact h.2.2
theorem a7.tail:∀{a:Zb8},a7 (a++Nl)->a7 Nl:=λ{a}=>by induction a with|Yl=>exact id|Zp b a i=>exactλh=>i h.t1
theorem F3(n:U):∀(cs:Zb8)(s k0:J Z)(a:Zb8),a7 (a++cs)->cs≠[]->∀h∈(vu n s k0 a cs).1,a7 RY/\RY≠[]:=by
  intro b;induction b with
  |Yl=>
    intro _ _ _ _ h;exact Za rfl h|Zp c d I=>cases d with
    |Yl=>
      intro s k0 a ok _;exactλh hh=>by
        simp only[uP,Wt]at hh;rw[hh];exact⟨ok.snoc _,by simp⟩|Zp e r=>
      intro s k0 a ok _;exactλh hh=>by
        rw[mL]at hh;split at hh
        . refine(ZI hh).elim (λYA=>?_) λhh=>?_;.rw[YA];exact⟨ok.snoc _,by simp⟩
          . have t:a7 (e::r):=by exact(a7.tail ok).t1
            exact I _ _ [] t (Y8 _ _) h hh
        .exact I s k0 (a++[c]) (by rw[ZQ];exact ok) (Y8 _ _) h hh
theorem Ao(n:U)(ok:a7 cs):∀h∈(dZ n b cs).1,a7 RY/\RY≠[]:=by
 unfold dZ;refine bQ rfl (λO=>?_) λa=>?_;.intro h hh;cases hh
 .exact F3 n cs _ _ [] ok a
def dM(st:vj):vj:={aL:=if W9=[]then Tx else Tx++cS st,a8:=[],old:=SD+WR W9+1,new:=SA+Wz W9+1}
def cC(st:vj)(q:YZ×(Z×Z)):vj:=if q.1=true then{st with a8:=W9++[q.2]}else dM st
def behind(m:Zv)(rs:Xb):J Zv:=bR (m+1) rs
def ahead(m:Zv)(rs:Xb):J Zv:=(bR (m+1) VM).reverse
def mk(m:Zv)(b a:Zv):YZ:=decide ((if a<b then a else b)<=m)
def gn(m:Zv)(rs:Xb):J YZ:=List.zipWith (mk m) (behind m rs) (ahead m rs)
theorem yL(m:Zv)(rs:Xb):(gn m rs).length=Zc:=by
 unfold gn behind ahead;rw[List.length_zipWith,bw,X6,bw,X6,l5]
theorem zS(b:k<Zc):(gn a rs)[k]?=some (near rs a k):=by
 have h1:k<(bR (a+1) rs).length:=by rw[bw];exact b
 have h2:k<(bR (a+1) VM).reverse.length:=by rw[X6,bw,X6];exact b
 unfold gn near behind ahead;rw[List.getElem?_zipWith,Z6 h1,Z6 h2];simp only[Z0,Z6 h1,Z6 h2,Option.getD_some];rfl
theorem oJ(rs:Xb)(m:Zv):∀j,j<=Zc->cL rs m j=(((gn m rs).zip rs).take j).foldl cC ⟨[],[],0,0⟩:=by
 intro I;induction I with
 |VZ=>
  intro _;exact rfl|VC j a=>
  intro h;have hj:j<Zc:=h;have h2:((gn m rs).zip rs)[j]?=some (near rs m j,rs[j]):=by
   rw[List.getElem?_zip_eq_some];exact⟨zS hj,Z6 hj⟩
  rw[d7,a (O7 h),X9,h2,U7,WV];generalize(((gn m rs).zip rs).take j).foldl cC ⟨[],[],0,0⟩=st;show fy rs m st j=cC st (near rs m j,rs[j]);unfold fy cC dM;by_cases hn:near rs m j=true;.rw[ZT ⟨hj,hn⟩,ZT hn,Z6 hj];rfl
  .rw[ZY (λq=>hn q.2),ZY hn]
theorem Be(rs:Xb)(m:Zv):(cL rs m (Zc+1)).aL=(dM (((gn m rs).zip rs).foldl cC ⟨[],[],0,0⟩)).aL:=by
 rw[d7,oJ rs m Zc (ZV _),YR (by rw[List.length_zip,yL,l5];exact ZV _)];unfold fy;rw[ZY (λq=>UA _ q.1)];rfl
def dR(m f g:Zv)(rs:Xb):J YZ:=List.zipWith (mk m) (bR f rs) (bR g VM).reverse
theorem Ey(m:Zv)(rs:Xb):gn m rs=dR m (m+1) (m+1) rs:=rfl
theorem hF(m f g:Zv)(x ys:Xb):dR m f g (x++ys)=dR m f (d0 g ys.reverse) x++dR m (d0 f x) g ys:=by
 unfold dR;rw[ie,List.reverse_append,ie,List.reverse_append,List.zipWith_append (by rw[bw,X6,bw,X6])]
def n5(rs:Xb):Prop:=∀r∈rs,r.1≠(" ")
theorem qo:∀(f:Zv)(rs:Xb),n5 rs->bR f rs=Zt Zc 0:=by
 intro a I;revert a;induction I with
 |Yl=>
  intro _ _;exact rfl|Zp r rs b=>
  intro f h;rw[xI,ZY (h r (.head _)),b 0 λx hx=>h x (ZX _ hx)];rfl
theorem n9:∀(f:Zv)(rs:Xb),n5 rs->rs≠[]->d0 f rs=0:=by
 intro a I;revert a;induction I with
 |Yl=>
  intro _ _ h;exact Za rfl h|Zp r b c=>cases b with
  |Yl=>
   intro f h _;rw[ti,ZY (h r (.head _))];rfl|Zp d rs=>
   intro f h _;exact c _ (λx hx=>h x (ZX _ hx)) (Y8 _ _)
theorem oA(hm:0<=a)(h:n5 rs):dR a f b rs=Zt Zc true:=by
 unfold dR;rw[qo f rs h,qo b VM (λr hr=>h r (List.mem_reverse.mp hr):n5 VM),List.reverse_replicate,X6,List.zipWith_replicate,l5];congr 1;exact Yt hm
theorem mQ:∀(l:J Z)(f:Zv),bR f (XO l)=(Zh Xl).map λt:U=>f+t+1:=by
  intro I;induction I with
  |Yl=>
    intro _;exact rfl|Zp x l a=>
    intro f;rw[XO,Yd,xI];have:=a (f+1);rw[this,Sa,Yd,Xo];congr 1;.exact fA 0x3707426d541ca [] [] [_]
    .refine Vq λt O=>?_;show f+1+t+1=f+((t+1:U))+1;exact fA 0x1b83a138382a83a130c1ca [] [_] [_]
theorem Bk(l:J Z):(XO l).reverse=XO l.reverse:=by unfold XO;rw[hT]
theorem gi(m f g:Zv)(l:J Z):dR m f g (XO l)=(Zh Xl).map λt:U=>mk m (f+t+1) (g+((Xl-t:U):Zv)):=by
  unfold dR;rw[Bk,mQ,mQ,X6];apply List.ext_getElem;.simp
  . intro t h1 h2;have ht:t<Xl:=by simpa using h2
    rw[List.getElem_zipWith,List.getElem_reverse];simp only[List.getElem_map,List.getElem_range,Z2,WW];congr 1;exact a9 0x1fdc27108950742710c5c256841 [] [_,_] [_] ht
theorem jj(h:b<=c\/a<=c):mk c b a=true:=by unfold mk;refine Yt ?_;split<;>(first|exact cD 0x7ff962bd962b2c5e96a [] [] [_,_,_] ‹_› h|exact cD 0xfff2b5734a67b2b6656a [] [] [_,_,_] h ‹_›)
theorem kh(h1:c<b)(h2:c<a):mk c b a=false:=by unfold mk;refine Ww ?_;split<;>(first|exact a9 0xff32a5e96a [] [] [_,_] h2|exact a9 0xff32a5e96a [] [] [_,_] h1)
variable{PD:U->YZ}
theorem Si:∀(n:U),(∀t,t<n->PD t=a)->(Zh n).map PD=Zt n a:=by
 intro I;induction I with
 |VZ=>
  intro _;exact rfl|VC n b=>
  intro h;rw[TX,ZE,b λt ht=>h t (Jw ht),Yd,R7,h n (Ku),List.replicate_succ']
theorem eC(a b:U):(Zh (a+b)).map PD=(Zh a).map PD++(Zh b).map λt=>PD (a+t):=by rw[List.range_add,ZE,Xo];rfl
theorem yU(m:U)(l:J Z):dR m 0 0 (XO l)=if 2*m<Xl then Zt m true++(Zt (Xl-2*m) false++Zt m true)else Zt Xl true:=by
  rw[gi];generalize Xl=n;refine bQ rfl (λh=>?_) λh=>?_
  . obtain⟨d,rfl⟩:∃d,n=m+(d+m):=⟨n-2*m,by exact a9 0x7f708063208822d0a41 [2,2] [_,_] [] h⟩;rw[eC,eC,Si m,Si d,Si m,show m+(d+m)-2*m=d by(exact fA 0x3628c83080441 [2] [_,_] [])];.intro t ht;exact jj (.inr (cY 0x19986138c203106100882d [_,_,_]))
    .intro t ht;exact kh (cY 0x6a0e84e020b661 [_,_]) (aV 0x7f509c6011c20310db31e841 [_,_,_] ht)
    .intro t ht;exact jj (.inl (aV 0x1fccc50742616e841 [_,_] ht))
  . refine Si n λt ht=>?_;by_cases h1:t+1<=m;.exact jj (.inl (aV 0x7f33141d0985b9141c1 [_,_] h1))
    .exact jj (.inr (cD 0x3ffccc309c4626f3218387cd0a41 [2] [_,_,_] [] h h1))
theorem tO(m:U)(l:J Z):dR m (m+1) 0 (XO l)=Zt (bY m l).length false++Zt (bK m l).length true:=by
 rw[gi];unfold bY bK;rw[Zo,Zd];generalize Xl=n;have e:(Zh n)=Zh (min (n-m) n+(n-(n-m))):=by congr 1;exact cY 0x1b84441b0441 [_,_]
 rw[e,eC,Si (min (n-m) n),Si (n-(n-m))];.intro t ht;exact jj (.inr (cY 0x666284e301d8311042d [_,_,_]))
 .intro t ht;exact kh (fA 0x350742618394a [] [_] [_]) (aV 0x1fd4271089b31eac288c41 [_,_,_] ht)
theorem wF(m:U)(l:J Z):dR m 0 (m+1) (XO l)=Zt (l.take m).length true++Zt (vi m).length false:=by
 rw[gi];rw[Zo,Zd];generalize Xl=n;have e:(Zh n)=Zh (min m n+(n-m)):=by congr 1;exact cY 0x1b84441b0441 [_,_]
 rw[e,eC,Si (min m n),Si (n-m)];.intro t ht;exact kh (aV 0x7f50742700d8436cc7a88c41 [_,_,_] ht) (fA 0xd42618394a [] [_] [_])
 .intro t ht;exact jj (.inl (aV 0x7f33141d0985bab0c41 [_,_,_] ht))
theorem vQ(m:U)(l:J Z):dR m (m+1) (m+1) (XO l)=Zt Xl false:=by
 rw[gi];exact Si _ λt ht=>kh (fA 0x350742618394a [] [_] [_]) (fA 0xd42618394a [] [_] [_])
def eQ(h:Xb)(o w:Zv):J Z:=cS ⟨[],h,o,w⟩
def bI(o w:Zv)(l:J Hn):J Z:=VF (λh k o w=>eQ X4 (o+Y6) (w+Y6)++k (o+Y6+WR X4) (w+Y6+Wz X4)) (λO O=>[]) o w
theorem kC(a b h r):bI a b (h::r)=eQ X4 (a+Y6) (b+Y6)++bI (a+Y6+WR X4) (b+Y6+Wz X4) r:=rfl
def run(st:vj)(m:J YZ)(rs:Xb):vj:=(m.zip rs).foldl cC st
theorem g9(st:vj)(m a:J YZ)(r r2:Xb)(h:WM=KP):run st (m++a) (r++r2)=run (run st m r) a r2:=by unfold run;rw[List.zip_append h,WV]
theorem mW:∀(rs:Xb)(st:vj),run st (Zt Zc true) rs={st with a8:=W9++rs}:=by
 intro I;induction I with
 |Yl=>
  intro st;simp[run]|Zp r rs a=>
  intro st;have:=a {st with a8:=W9++[r]};unfold run at this⊢;show List.foldl cC (cC st (true,r)) _=_;have e:cC st (true,r)={st with a8:=W9++[r]}:=ZT rfl;rw[this];simp
theorem lB:∀(s:J Z)(aL:J Z)(o w:Zv),run ⟨aL,[],o,w⟩ (Zt ZR false) (XO s)=⟨aL,[],o+ZR,w+ZR⟩:=by
 intro I;induction I with
 |Yl=>
  intro aL o w;simp[run]|Zp x s a=>
  intro aL o w;have e:cC ⟨aL,[],o,w⟩ (false,(" ",x))=⟨aL,[],o+1,w+1⟩:=by
   unfold cC dM;rw[ZY (show¬(false=true)from Yp)];simp[WR,Wz]
  have:=a aL (o+1) (w+1);unfold run at this⊢;rw[XO,UQ,e];rw[this];congr 1<;>push_cast<;>(exact fA 0x6e1072d505c1ca [] [] [_,_])
theorem ui(s:J Z)(hs:s≠[])(aL:J Z)(h:Xb)(hh:h≠[])(o w:Zv):run ⟨aL,h,o,w⟩ (Zt ZR false) (XO s)=⟨aL++eQ h o w,[],o+WR h+ZR,w+Wz h+ZR⟩:=by cases s with
 |Yl=>exact Za rfl hs|Zp x s=>
  have e:cC ⟨aL,h,o,w⟩ (false,(" ",x))=⟨aL++eQ h o w,[],o+WR h+1,w+Wz h+1⟩:=by
   unfold cC dM;rw[ZY (show¬(false=true)from Yp),ZY hh];rfl
  have:=lB s (aL++eQ h o w) (o+WR h+1) (w+Wz h+1);unfold run at this⊢;rw[XO,UQ,e];rw[this];congr 1<;>push_cast<;>(exact fA 0x6e1072d505c1ca [] [] [_,_])
theorem yO(s:J Z)(aL:J Z)(h:Xb)(hh:h≠[])(o w:Zv):(dM (run ⟨aL,h,o,w⟩ (Zt ZR false) (XO s))).aL=aL++eQ h o w:=by
  by_cases hs:s=[];.rw[hs];show(dM ⟨aL,h,o,w⟩).aL=_;unfold dM;rw[ZY hh];rfl
  .rw[ui s hs aL h hh o w];unfold dM;rw[ZT rfl]
def l0(c:cp):Xb:=c.1.map (λx=>(("-"),x))++c.2.1.map (λx=>(("+"),x))
theorem iN(c:cp):n5 (l0 c):=λr hr=>by
 rcases ZM hr with h|h<;>obtain⟨x,_,rfl⟩:=Zl h;.exact pK
 .exact qj
theorem kI(h:c.1≠[]\/c.2.1≠[]):l0 c≠[]:=by
 intro e;rw[l0,List.append_eq_nil_iff,List.map_eq_nil_iff,List.map_eq_nil_iff]at e;exact Xq (λq=>q e.1) λq=>q e.2
theorem fL(c:cp):aU c=l0 c++XO c.2.2:=rfl
theorem uT(h:r.1≠(" ")):d0 a (r::NV).reverse=0:=by rw[m1,jH,ti,ZY h];rfl
theorem pQ(h:c.1≠[]\/c.2.1≠[])(XG:Xb)(g:Zv):d0 g (aU c++XG).reverse=0:=by
  rw[fL];refine wB (l0 c) (λe=>?_) λr rs e=>?_;.rw[e];exact Za e (kI h)
  .rw[e];exact uT (iN c r (by rw[e];simp))
def jS(o w:Zv):J Hn->J Z|[]=>[]|h::r=>eQ X4 o w++bI (o+WR X4) (w+Wz X4) r
theorem uv(a b h r):jS a b (h::r)=eQ X4 a b++bI (a+WR X4) (b+Wz X4) r:=rfl
theorem Br(a b h):jS a b [h]=eQ X4 a b:=Zm _
theorem pT(o w:Zv)(h:Hn)(r:J Hn):bI o w (h::r)=jS (o+Y6) (w+Y6) (h::r):=rfl
theorem uo(k0:J Z)(a:Zb8)(c:cp):au k0 a++aU c=au k0 (a++[c]):=by unfold au;rw[YT,ZQ];simp
theorem Cs(h:Nq.1≠[]\/Nq.2.1≠[])(k:J Z):au k0 (a++[(Nq.1,Nq.2.1,k)])≠[]:=by
 rw[<-uo];intro e;have:=(XA e).2;rw[fL]at this;exact kI h (XA this).1
theorem iE(n:U):∀(cs:Zb8)(s k0:J Z)(a:Zb8),∃ps r,(vu n s k0 a cs).1=⟨s,k0,ps⟩::r:=by
 intro I;induction I with
 |Yl=>
  intro s k0 a;exact⟨_,_,rfl⟩|Zp c b d=>cases b with
  |Yl=>
   intro s k0 a;exact⟨_,_,rfl⟩|Zp e r=>
   intro s k0 a;rw[mL];refine bQ rfl (λO=>?_) λO=>?_;.exact⟨_,_,rfl⟩
   .exact d s k0 _
theorem r6(m:U)(c:cp)(k:J Z)(aL:J Z)(k0:J Z)(a:Zb8)(o w:Zv):run ⟨aL,au k0 a,o,w⟩ (Zt (l0 c).length true++Zt V4 true) (l0 c++XO k)=⟨aL,au k0 (a++[(c.1,c.2.1,k)]),o,w⟩:=by
 rw[List.replicate_append_replicate,show(l0 c).length+V4=(l0 c++XO k).length by rw[Z1,XO,Z2]];rw[mW];have:au k0 a++(l0 c++XO k)=au k0 (a++[(c.1,c.2.1,k)]):=uo k0 a (c.1,c.2.1,k);rw[<-this]
theorem cy(s:J Z):(XO s).length=ZR:=Z2 ..
theorem D4(m:U):∀(cs:Zb8)(s k0:J Z)(a:Zb8)(aL:J Z)(o w f:Zv),a7 cs->cs≠[]->(dM (run ⟨aL,au k0 a,o,w⟩ (dR m f (m+1) (WK aU)) (WK aU))).aL=aL++jS o w (vu m s k0 a cs).1:=by
  intro j;induction j with
  |Yl=>
    intro _ _ _ _ _ _ _ _ h;exact(h rfl).elim|Zp c k I=>cases k with
    |Yl=>
      intro s k0 a aL o w f ok _;have b:=ok.qM.1;have e:XO c.2.2=XO (c.2.2.take m)++XO (c.2.2.drop m):=by rw[<-fR,XJ]
      rw[Zz,Xj,Zm,fL,hF,oA (SI m) (iN c),n9 _ _ (iN c) (kI b),wF,e,<-ZQ,<-ZQ,g9 _ _ _ _ _ (by rw[Z1,Z1,XU,XU,cy]),r6 m,yO _ _ _ (Cs b _)];simp[uP,Br,d6]|Zp d r=>
      intro s k0 a aL o w f ok _;obtain⟨b,he,t⟩:=ok.hd2;have l:=t.qM.1;have n:d0 (m+1) ((d::r).flatMap aU).reverse=0:=by rw[Zz];exact pQ l _ _
      have p:(c::d::r).flatMap aU=(l0 c++XO c.2.2)++(d::r).flatMap aU:=by rw[Zz,fL]
      rw[p,hF,hF,n,oA (SI m) (iN c),n9 _ _ (iN c) (kI b),yU];rw[mL]at⊢;split
      . rename_i g;have l1:(c.2.2.take m).length=m:=by rw[Zo];exact a9 0x3fb0d841d0a41 [2] [_,_] [] g
        have l2:(bY m (c.2.2.drop m)).length=c.2.2.length-2*m:=by unfold bY;rw[Zo,Zd];exact fA 0x371908368883114441 [2] [_,_] []
        have l3:(bK m (c.2.2.drop m)).length=m:=by unfold bK;rw[Zd,Zd];exact a9 0xfec318862114422d0a41 [2] [_,_] [] g
        have e:XO c.2.2=XO (c.2.2.take m)++(XO (bY m (c.2.2.drop m))++XO (bK m (c.2.2.drop m))):=by rw[<-fR,je,<-fR,XJ]
        obtain⟨ps,z,hb⟩:=iE m (d::r) (bY m (c.2.2.drop m)) (bK m (c.2.2.drop m)) [];have i:=λaL o w f=>I (bY m (c.2.2.drop m)) (bK m (c.2.2.drop m)) [] aL o w f t (Y8 _ _);have u:bY m (c.2.2.drop m)≠[]:=λq=>by rw[q,UT]at l2;exact bx 0x7fe9d045b8882d [_,_] l2 g
        generalize bY m (c.2.2.drop m)=x at*;generalize bK m (c.2.2.drop m)=la at*;rw[e];conv=>lhs;rw[show Zt m true++(Zt (c.2.2.length-2*m) false++Zt m true)=Zt (c.2.2.take m).length true++(Zt ZO false++Zt la.length true)by rw[l1,l2,l3]]
        rw[<-ZQ,<-ZQ (l0 c),g9 _ _ _ _ _ (by simp only[Z1,XU,cy]),g9 _ _ _ _ _ (by simp only[Z1,XU,cy]),r6 m,g9 _ _ _ _ _ (by simp only[XU,cy]),ui _ u _ _ (Cs b _)];have y:∀aL o w,run ⟨aL,[],o,w⟩ (Zt la.length true) (XO la)=⟨aL,au la [],o,w⟩:=λaL o w=>by rw[<-cy la,mW];simp[au]
        rw[y,i,hb];rw[uv,uv,kC]at⊢;simp[d6]
      .rw[g9 _ _ _ _ _ (by rw[Z1,Z1,XU,XU,cy]),r6 m];exact I s k0 (a++[c]) aL o w _ t (Y8 _ _)
theorem xx(m:U)(e:J Z)(cs:Zb8)(ok:a7 cs):(cL (au e cs) m ((au e cs).length+1)).aL=bI 0 0 (dZ m e cs).1:=by
  rw[Be,Ey];show(dM (run ⟨[],[],0,0⟩ _ _)).aL=_;unfold dZ;by_cases h:cs=[];.rw[h];rw[ZT rfl];show(dM (run ⟨[],[],0,0⟩ (dR m (m+1) (m+1) (XO e++[])) (XO e++[]))).aL=_;rw[Zm,vQ,lB];rfl
  . rw[ZY h];obtain⟨c,r,rfl⟩:∃c r,cs=c::r:=List.exists_cons_of_ne_nil h;have a:=ok.qM.1;have b:d0 (m+1) ((c::r).flatMap aU).reverse=0:=by rw[Zz];exact pQ a _ _
    obtain⟨ps,j,hb⟩:=iE m (c::r) (bY m e) (bK m e) [];have i:=λaL o w f=>D4 m (c::r) (bY m e) (bK m e) [] aL o w f ok (Y8 _ _);have d:XO e=XO (bY m e)++XO (bK m e):=by rw[<-fR,je]
    unfold au;rw[hF,b,tO,d];generalize bY m e=s at*;generalize bK m e=la at*;have g:∀aL o w,run ⟨aL,[],o,w⟩ (Zt la.length true) (XO la)=⟨aL,au la [],o,w⟩:=λaL o w=>by rw[<-cy la,mW];simp[au]
    rw[g9 _ _ _ _ _ (by simp only[Z1,XU,cy]),g9 _ _ _ _ _ (by simp only[XU,cy]),lB,g,i,hb,Yi];rfl
theorem DL(e:J Z)(cs:Zb8):XQ<=(au e cs).length/\∀c∈cs,c.2.2.length<=(au e cs).length:=by
 unfold au;rw[Z1,cy];refine⟨WN _ _,λc d=>YX ?_ (Nat.le_add_left _ _)⟩;obtain⟨a,b,YA⟩:=List.append_of_mem d;rw[YA];rw[YT,Zz,fL];simp only[Z1,cy];exact cY 0x198409008c41 [_,_,_,_]
theorem yd(d:a<=n)(e:Zw<=a)(h:∀c∈cs,c.2.2.length<=a):dZ n b cs=dZ a b cs:=by
 unfold dZ bY bK;rw[show Zw-n=0 by exact bx 0x1ffedb11872316441 [_,_,_] e d,show Zw-a=0 by exact aV 0x1fdb6220e441 [_,_] e,DN d _ _ _ _ h]
theorem i5(n:U)(e:J Z)(cs:Zb8)(ok:a7 cs):vx (au e cs) n=if bI 0 0 (dZ n e cs).1=[]then[]else[("*** \n"),"--- \n"]++bI 0 0 (dZ n e cs).1:=by
 obtain⟨a,h1⟩:=DL e cs;unfold vx;dsimp only;by_cases hn:(au e cs).length<n;.rw[show(if((au e cs).length)<(n:Zv)then((au e cs).length:Zv)else n)=((au e cs).length)from ZT (JF hn),xx (au e cs).length e cs ok,yd (W' hn) a h1]
 .rw[show(if((au e cs).length)<(n:Zv)then((au e cs).length:Zv)else n)=n from ZY (by exact aV 0x7f9a98a61e6841 [_,_] hn),xx n e cs ok]
def c9(x:Z):Z:=⟨x.cps.pop⟩
def gT:Z:="\n"
theorem nI:gT=⟨#[10]⟩:=by decide+kernel
def eh(x:Z):Prop:=∃y,x=y++gT/\10∉RX
theorem jc(y:Z):c9 (y++gT)=y:=by
 rw[nI];unfold c9;apply Str.ext';show(y.cps++#[10]).pop=y.cps;simp
theorem wC:∀(a b r s:J U),10∉a->10∉b->a++10::r=b++10::s->a=b/\r=s:=by
 intro d;induction d with
 |Yl=>
  intro I;cases I with
  |Yl=>
   intro r s _ _ h;simpa using h|Zp y b=>
   intro r s _ hb h;simp at h;exact Za h.1.symm (by intro q;exact hb (by simp[q]))
 |Zp x a e=>
  intro I;cases I with
  |Yl=>
   intro r s c _ h;simp at h;exact Za h.1 (by intro q;exact c (by simp[q]))|Zp y b=>
   intro r s c hb h;simp only[WO,fI]at h;obtain⟨h1,h2⟩:=e b r s (λq=>c (ZX _ q)) (λq=>hb (ZX _ q)) h.2;exact⟨by rw[h.1,h1],h2⟩
theorem mJ(x y:Z)(r:J Z):(SR gT (x::y::r)).cps.toList=S'++10::(SR gT (y::r)).cps.toList:=by
 show(x++gT++SR gT (y::r)).cps.toList=_;rw[nI,Y0,Y0];simp
theorem uJ:∀(a ys:J Z),a≠[]->ys≠[]->(∀x∈a,10∉S')->(∀y∈ys,10∉RX)->SR gT a=SR gT ys->a=ys:=by
 intro a;induction a with
 |Yl=>exactλys h=>Za rfl h|Zp x a i=>
  intro ys O hn hx hy h;cases ys with|Yl=>exact Za rfl hn|Zp y ys=>
   have b:=Zq (λs:Z=>RO) h;cases a with
   |Yl=>cases ys with
    |Yl=>exact Zq (λx=>[x]) h|Zp d r=>
     simp only[mJ]at b;exact Za (show 10∈S' by rw[show S'=(SR gT [x]).cps.toList from rfl,b];simp) (hx x (.head _))
   |Zp e r=>cases ys with
    |Yl=>
     simp only[mJ]at b;exact Za (show 10∈RX by rw[show RX=(SR gT [y]).cps.toList from rfl,<-b];simp) (hy y (.head _))|Zp d q=>
     simp only[mJ]at b;obtain⟨h1,h2⟩:=wC _ _ _ _ (hx x (.head _)) (hy y (.head _)) b;rw[(Str.ext' (Oi h1)),i (d::q) (Y8 _ _) (Y8 _ _) (λz c=>hx z (ZX _ c)) (λz c=>hy z (ZX _ c)) (Str.ext' (Oi h2))]
theorem vJ:∀(l:J Z),(∀x∈l,eh x)->SR gT (t' c9++[("")])=R0 "" l:=by
 intro I;induction I with
 |Yl=>
  intro _;exact rfl|Zp x b c=>cases b with
  |Yl=>
   intro h;obtain⟨y,rfl,_⟩:=h x (.head _);show SR gT [c9 (y++gT),""]=y++gT;rw[jc];show y++gT++""=y++gT;exact Str.append_empty _|Zp a r=>
   intro h;obtain⟨y,hy,_⟩:=h x (.head _);have e:R0 "" (x::a::r)=x++R0 "" (a::r):=by
    show zb "" (x::a::r)=x++zb "" (a::r);rw[t7,t7];show x++""++SR "" (a::r)=_;rw[show x++""=x from Str.append_empty x]
   rw[e,<-(c λz d=>h z (ZX _ d)),hy];show SR gT (c9 (y++gT)::c9 a::(r.map c9++[("")]))=y++gT++SR gT (c9 a::(r.map c9++[("")]));rw[jc];rfl
theorem ur(l:J Z)(h:∀x∈l,eh x):Sj (R0 "" l) gT=t' c9++[("")]:=by
  refine uJ _ _ ?_ (by simp) ?_ ?_ ?_;.intro q;have:=split_pos (R0 "" l) gT;rw[q]at this;exact Za this Z'
  .rw[nI];exact StrLaws.split_free _ 10
  . intro y hy;rcases ZM hy with hy|hy;.obtain⟨x,hx,YA⟩:=Zl hy;rw[<-YA];obtain⟨z,YA,a⟩:=h x hx;rw[YA];rw[jc];exact a
    .rw[ZD hy];decide+kernel
  .rw[vJ l h];exact StrLaws.join_split _ _
abbrev bh:Z:="***************"
def cw(p:J Z):J U:=(Zh z0).filter λk=>p.getD k ""==bh
def fT(p:J Z):J U:=(cw p).drop 1++[z0-1]
abbrev Hk:=U×Xb×Xb
def lr(fs:J Z)(st:Xb×U)(d:Hk):Xb×U:=(st.1++XO ((jn st.2).take (d.1-st.2))++UH d.2.1 d.2.2,d.1+d.2.1.length)
def cM(fs:J Z)(d:J Hk):Xb×U:=d.foldl (lr fs) ([],0)
def ba(fs:J Z)(d:J Hk):Xb:=(cM fs d).1++XO (jn (cM fs d).2)
structure rp(fs p:J Z)(a:J Hk):Prop where
 size:z0<=10000
 short:∀x∈p,ZO<=1000
 Ym:1<=z0
 len:ZC=(cw p).length
 W8:∀(j k e:U)(d:Hk),(cw p)[j]?=some k->(fT p)[j]?=ZbU->a[j]?=ZaC->BodyOk OZ ((p.drop (k+1)).take (e-(k+1))) d.1 d.2.1 d.2.2
 H':∀j:U,(cM fs (a.take j)).1.length+OZ<=50000
theorem lZ{d:J Hk}(h:d[a]?=Zar):cM fs (S5 (a+1))=lr fs (cM fs (S5 a)) b:=by
 unfold cM;rw[X9,h,U7,WV];rfl
theorem u9(p:J Z):(cw p).length<=z0:=by
 refine YX (VR ..) ?_;rw[WW];exact ZV _
theorem yI{Wv:ZP}{d:J Hk}(N:cZ X NC)(hb:Q' NC)(S:NC.mg "zip"=none/\NC.mb "zip"=Zbl)(r:Rm X m (j+1))(R:rp t e d)(T:g (aS (ba t d)) E)(V:E Q=none):EF X m (bX NH Pn Wv Nh z) (Yk ((bH (cx 15)).drop 4) (bX NH Pn Wv Nh z)) [("text",.str D),("first",.lst (ah t)),("parts",.lst (ah e)),("rows",ZcA),("here",.int (0:U)),("stars",.lst ((cw e).map λs=>.int (s:U)))] (Y7 E Q (.list [])) λo c i=>Wy E i/\(match o with|.ret PM=>g PM E|_=>g .none E):=by
  walk_at"T";have hg:∀D,["len"].contains D=true->(bX NH Pn Wv Nh z).kindOf D=Zaa:=by
    intro D hx;simp only[Wr,VD,TO,V5]at hx;rw[hx];rfl
  have w:=R.size;have B:=u9 e;walk_at"G";have n:∀a o,E a=Zag->a≠Q:=λa o b q=>by rw[q,V]at b;cases b
  refine ZJ (EF.Fz NC Xy rfl S ?_);walk_at"a5";refine Zu (Z4 rfl ?_);walk_at"m";refine Zu (YU (u0 (Z4 rfl (U2 (X2 ⟨_,rfl,SN ⟨_,aF ..,?_,?_⟩⟩)))));.rw[Z2,af];exact cD 0x7ff978b21165e1 [10000,16777216] [_,_] [] w B
  refine Uw (Zu (YU (r3 NC hb r rfl (eA ..) (by rw[af];exact O3 w) (X2 ⟨.int ((XQ-1:U)),Zq (λC=>some (Uz C)) (aV 0x1fdce2e0c5d30e42e [_] (R.pos)),Y5 ⟨FR,.lst ((fT e).map λs=>.int (s:U)),?_,Y5 ?_⟩⟩))))
  . rw[eT];refine R3 (gj rfl rfl ?_) ?_;rotate_left;.simp only[fT,ZE,o4,Yd,R7]
    .rw[Zd,Z2,af];simp only[YG,UT];exact cD 0x1ffe5f0839b170b21165e1 [10000,16777216] [_,_] [] w B
  walk_at"b";have F:(cw e).length<=(fT e).length:=by rw[Z1,Zd,YY];exact cY 0x660e8b821 [_]
  refine(exI5 _ _ (λf l i=>l=([("text",.str D),("first",.lst (ah t)),("parts",.lst (ah e)),("rows",ZcA),("here",.int ((cM t (S5 f)).2)),("stars",.lst ((cw e).map λs=>.int (s:U)))]:YV)/\i Q=some (.list ((cM t (S5 f)).1.map aZ))/\Wy E i) (λf l=>aJ "end" (.int ((fT e).getD f 0)) (aJ "k" (.int ((cw e).getD f 0)) l)) _ ⟨rfl,?_,⟨rfl,aa ..,λa o b=>?_⟩,?_,?_,?_,?_,?_⟩);.rw[Z2,Z2];exact F
  .rw[ag (n a o b)];exact b
  .exact av Z_
  . intro k l G P5 p;obtain⟨rfl,h2,u⟩:=p;intro hs;refine⟨rfl,?_,λa o b=>?_⟩;.rw[hs Q _ (aa ..)];exact h2
    .rw[hs a o (by rw[ag (n a o b)];exact b)];exact u a o b
  . intro k PN C hy I;walk_at"a6";rw[Zy]at hy I;obtain⟨PR,PS,YA⟩:=Y3 hy;rw[<-YA];obtain⟨PT,br,YA⟩:=Y3 I;rw[<-YA];have e1:(cw e).getD k 0=PR:=by rw[Z0,PS];rfl
    have e2:(fT e).getD k 0=PT:=by rw[Z0,br];rfl
    show TG _ _ _ _ _ _ (λl=>aJ "end" (.int ((fT e).getD k 0)) (aJ "k" (.int ((cw e).getD k 0)) l));rw[e1,e2];exact bk Xy (.inl rfl) (.inl rfl)
  . intro P6 k l G PW x p;obtain⟨rfl,h2,u⟩:=p;intro PX;rw[Z2]at x;have e1:(cw e)[k]?=some ((cw e).getD k 0):=by rw[Z0,Z6 x]at⊢;rfl
    walk_at"I";have e2:(fT e)[k]?=some ((fT e).getD k 0):=by rw[Z0,Z6 (Xu x F)]at⊢;rfl
    have PY:k<Yc:=by rw[R.len];exact x
    have y:=Z6 PY;refine yk N hb r rfl (R.body k _ _ _ e1 e2 y) w R.short h2 (R.rows k) λc PZ=>⟨_,⟨rfl,?_,λa o b=>?_⟩,?_,λa o b=>?_⟩;.rw[aa,lZ y];rfl
    .rw[ag (n a o b)];exact u a o b
    .rw[lZ y];exact PZ
    . have:a≠Q:=λq=>by
        have:=PW a o b;rw[q,aa]at this;cases this
      rw[ag this];exact PX a o b
  . intro l G p;obtain⟨rfl,h2,u⟩:=p;rw[Z2,<-R.len,XX]at h2⊢;walk_at"a7";have A:=R.rows Yc;rw[XX]at A;have M:(Xv (cM t d).2).length<=YI:=by rw[Zd];exact cY 0x190c441 [_,_]
    show EF X m _ _ _ _ _;refine Sx (QO (YU (Z4 rfl ?_)));refine p4 [] (Xv (cM t d).2) (.str .) (λD l=>aJ "line" (.str D) l) (λO=>true) (λD=>aZ (" ",D)) ⟨rfl,rfl,?_,?_,?_,?_⟩ (p3 Xy (u0 (Z4 rfl (U2 (Z4 rfl ⟨_,rfl,SN ⟨_,aF ..,?_,?_⟩⟩)))));.decide
    .decide
    .intro q hq;cases hq
    .intro q hq;exact nomatch hq
    .rw[az,af];exact a9 0x1fcbc597c041 [50000,16777216] [_,_] [] (R.rows 0)
    refine⟨by rw[eT];simp[ah],⟨by rw[af];(exact cD 0x1ffe5e3c88797c041 [50000,16777216] [_,_,_] [] A M),λP0 D hx=>UM (.inl rfl),λD hx PN P7 b=>(by exact ax b),λP0 i D hx hG=>h_ ⟨rfl,rfl,λO=>X0 NC hb r (gl:=[]) (λP8 P2=>by simp at P2) Z_ ⟨rfl,rfl⟩⟩⟩,aS (ba t d),?_,u,T⟩;rw[Ue (λO O=>rfl)];have P4:(Xv (cM t d).2).map (λD=>aZ (" ",D))=(XO (Xv (cM t d).2)).map aZ:=by rw[XO,Xo];rfl
    rw[P4];refine R3 (gj (c8 h2) rfl ?_) ?_;rotate_left;.rw[<-ZE];rfl
    .rw[Z2,Z2,XO,Z2,af];exact cD 0x7ff97c061c88797c041 [50000,16777216] [_,_,_] [] A M
theorem y6(F:h7 X fa (cx 15) pm cd Wv .none .none)(D:Zdh)(hb:ZcS)(j:VY "zip"=none/\U9 "zip"=Zbl)(rm:Rm X m (n+2))(hx:ZO<=10000000)(R:rp fs (Sj x "\n") d)(o:g (aS (ba fs d)) E):b8 X m ZaA [.str x,.lst (ah fs)] E g:=by
  walk_at"t";refine h6 b rm ["text","first"] (zl λO O=>rfl) Z' rfl ZbS λc=>?_;refine EF.back ?_;walk_at"p";have r:Rm X (Sb (bX pm cd Wv c fa)) (n+1):=WH _;show EF X (Sb (bX pm cd Wv c fa)) Zbc _ _ _ _;generalize Sb Zbc=m at*;have hg:∀x,["len"].contains x=true->(bX pm cd Wv c fa).kindOf x=Zaa:=by
    intro x hx;simp only[Wr,VD,TO,V5]at hx;rw[hx];rfl
  have e:=R.size;refine ZJ (Zk (EV.split (Z4 rfl ⟨x,rfl,by rw[af];(exact a9 0x1fd45ef0e5e1 [10000000,16777216,2] [_] [] hx),Wb ⟨_,rfl,rfl,?_⟩⟩)) (.inr ⟨rfl,_,rfl,(Xh (by decide:0<1))⟩));generalize Sj x "\n"=p at*;refine ZJ (Zk (VX (Y5 ⟨by decide,λw s=>?_⟩)) (.inl rfl));refine ZJ (Zk (X2 ?_) (.inl rfl));refine ZJ (EF.rq [("parts",.lst (ah p))] (Zh z0) (λa=>.int a) (λa l=>aJ "k" Zbu l) (λk=>p.getD k ""==bh) (λa=>.int a) ⟨rfl,rfl,?_,?_,?_,?_⟩ (.inl rfl) (gh.rY Xy b hb rfl D.Ba.1 D.Ba.2 (r3 b hb r rfl (eA ..) (by rw[af];exact O3 e) ⟨_,rfl,?_,?_⟩)));.decide
  .decide
  .intro q hq;rcases ZD hq with rfl;rfl
  .intro q hq;rcases ZD hq with rfl;exact(andI4 rfl (by show some SS≠some Uj;decide) (.inl rfl) rfl)
  .exact a9 0x1fd3eb30e5e1 [10000,1099511627776] [_] [] e
  refine⟨by simp,λa x hx=>?_,⟨?_,λC x hx=>UM (.inl rfl),λx hx=>?_,λC i x hx hG=>?_⟩,?_⟩;.rw[Vr (by have:=(ZN hx).1;simpa using this)]at hx;obtain rfl:=ZW hx;rfl
  .rw[WW,af];exact O3 e
  .exact av Z_
  . have t:=WX hx;have f:=Z6 t;have u:p.getD x ""=p[x]:=by rw[Z0,f];rfl
    refine Fl (XC r (Ys (Z4 rfl (Z4 rfl ⟨.str p[x],lF f (a9 0x7f2f0e5e1 [10000,1000000] [_] [] e),Wb ⟨p[x]==bh,DT i _ _,rfl,?_,λO=>Z4 rfl ⟨rfl,rfl⟩⟩⟩))));.show _=(p.getD x ""==bh);rw[u]
  exact yI D hb j r R o s
def iw(a:U):Z:=⟨#[a,32]⟩
def one(a:U):Z:=⟨#[a]⟩
theorem eD(h:D.cps.toList=a.cps.toList):D=a:=Str.ext' (Oi h)
theorem kO(x:Z)(lo a:Zs Zv):(eL x lo a).cps.toList=cF S' lo a:=by unfold eL;simp
theorem kM(a:U)(y:Z):(iw a++y).cps.toList=a::32::RX:=by rw[Xw,Y0];rfl
theorem Dv(a:U)(y:Z):cz (iw a++y)=(one a,y++"\n"):=by
 unfold cz;have h1:eL (iw a++y) none (some 1)=one a:=by
  apply eD;rw[kO,kM,show(1)=((1:U))from rfl,iS];rfl
 have h2:eL (iw a++y) (some 2) none=y:=by
  apply eD;rw[kO,kM,show(2)=((2:U))from rfl,eT];rfl
 rw[h1,h2]
theorem r8(x:Z):rx x=(x.cps.toList.take 3==[45,45,45]):=by
 have e:("---").cps.toList=[45,45,45]:=by decide+kernel
 have:(eL x none (some 3)).cps.toList=x.cps.toList.take 3:=by rw[kO,show(3)=((3:U):Zv)from rfl,iS]
 unfold rx;rw[Bool.eq_iff_iff,V5,V5,<-this,<-e];exact⟨λh=>by rw[h],λh=>eD h⟩
theorem CX(a:U)(y:Z):rx (iw a++y)=false:=by
 rw[r8,kM];cases RX with|Yl=>simp|Zp c r=>simp
theorem BV(s m:U):rx (bC s m)=false:=by
 rw[r8];unfold bC;rw[Xw,Xw,Y0,Y0];have e:("*** ").cps.toList=[42,42,42,32]:=by decide+kernel
 rw[e];rfl
theorem Bs(a:U)(y:Z):(iw a++y==bh)=false:=by
 rw[Uu];intro h;have b:=Zq (λs:Z=>RO) h;simp only[kM]at b;have e:D_=Zt 15 42:=by decide+kernel
 rw[e]at b;simp[Zt]at b
theorem zm(s m:U):(bC s m==bh)=false:=by
 rw[Uu];intro h;have a:=Zq (λs:Z=>RO) h;simp only[bC,Xw,Y0]at a;have e:D_=Zt 15 42:=by decide+kernel
 have b:("*** ").cps.toList=[42,42,42,32]:=by decide+kernel
 rw[e,b]at a;simp[Zt]at a
theorem yS(x:Z):("--- "++x==bh)=false:=by
 rw[Uu];intro h;have a:=Zq (λs:Z=>RO) h;simp only[Xw,Y0]at a;have e:D_=Zt 15 42:=by decide+kernel
 have b:("--- ").cps.toList=[45,45,45,32]:=by decide+kernel
 rw[e,b]at a;simp[Zt]at a
def lQ(WC:Z)(c:cp):Z:=if c.1≠[]/\c.2.1≠[]then("!")else WC
def bg(Yj:YZ)(WC:Z)(k0:J Z)(cs:Zb8):Xb:=XO k0++WK λc=>(dv Yj c).map (λx=>(lQ WC c,x))++XO c.2.2
theorem H0:¬("!"=(" ")):=by rw[ay];decide
theorem mU(h:D≠" ")(c:cp):lQ D c≠" ":=by
 unfold lQ;refine bQ rfl (λO=>?_) λO=>?_;.exact H0
 .exact h
theorem nT:∀(i:J Z)(o w:Xb),UH (XO i++o) (XO i++w)=XO i++UH o w:=by
 intro I;induction I with
 |Yl=>
  intro _ _;exact rfl|Zp x i a=>
  intro o w;show UH ((" ",x)::(XO i++o)) ((" ",x)::(XO i++w))=((" "),x)::(XO i++UH o w);rw[xt rfl (λy os e=>(List.cons.inj e).1▸rfl) (λy os e=>(List.cons.inj e).1▸rfl)];exact Zq _ (a o w)
theorem wX(hs:s≠(" ")):∀(d:J Z)(o w:Xb),UH (UX (λx=>(s,x))++o) w=UX (λx=>(("-"),x))++UH o w:=by
 intro I;induction I with
 |Yl=>
  intro _ _;exact rfl|Zp a d b=>
  intro o w;show UH ((s,a)::(UX (λx=>(s,x))++o)) w=(("-"),a)::(UX (λx=>(("-"),x))++UH o w);rw[xc hs,b o w]
theorem sy(hs:s≠(" "))(b:∀x os,NV=x::os->x.1=" "):∀(d:J Z)(w:Xb),UH NV (UX (λx=>(s,x))++w)=UX (λx=>(("+"),x))++UH NV w:=by
 intro I;induction I with
 |Yl=>
  intro _;exact rfl|Zp a d c=>
  intro w;show UH NV ((s,a)::(UX (λx=>(s,x))++w))=(("+"),a)::(UX (λx=>(("+"),x))++UH NV w);rw[xr hs b,c w]
theorem uX(hp:b≠(" "))(hq:q≠(" ")):∀(cs:Zb8),a7 cs->UH (WK λc=>(dv false c).map (λx=>(lQ b c,x))++XO c.2.2) (WK λc=>(dv true c).map (λx=>(lQ q c,x))++XO c.2.2)=WK aU:=by
  intro I;induction I with
  |Yl=>
    intro _;rw[Xj,Xj,Xj];rfl|Zp c cs d=>
    intro ok;obtain⟨_,he,t⟩:=ok.qM;rw[Zz,Zz,Zz,ZQ,ZQ,wX (mU hp c),sy (mU hq c),nT,d t];.unfold aU dv;simp only[T5,A_,e3,ZQ]
    . intro x os e;rcases he with rfl|he
      . refine wB (c.2.2) (λa=>?_) λy ys a=>?_;.rw[a]at e;simp[XO]at e
        .rw[a]at e;cases e;rfl
      . refine wB (c.2.2) (λa=>?_) λy ys a=>?_;.exact Za a he
        .rw[a]at e;cases e;rfl
theorem vp(hp:a≠(" "))(hq:q≠(" "))(k0:J Z)(cs:Zb8)(ok:a7 cs):UH (bg false a k0 cs) (bg true q k0 cs)=Zc9:=by
 unfold au;rw[nT,uX hp hq cs ok]
theorem n7(i:J Z):(XO i).filter (λr=>r.1==(" "))=XO i:=by
 rw[List.filter_eq_self];intro r hr;obtain⟨x,_,YA⟩:=Zl hr;rw[<-YA];exact Vb _
theorem vO(hs:s≠(" "))(d:J Z):(UX λx=>(s,x)).filter (λr=>r.1==(" "))=[]:=by
 rw[List.filter_eq_nil_iff];intro r hr;obtain⟨x,_,YA⟩:=Zl hr;rw[<-YA];simpa using hs
theorem uF(hq:q≠(" "))(k0:J Z):∀(cs:Zb8),bA Yj cs=false->(bg (!Yj) q k0 cs).filter (λr=>r.1==(" "))=bg Yj a k0 cs:=by
 intro cs h;rw[VL,n7];congr 1;induction cs with
 |Yl=>rfl|Zp c cs i=>
  unfold bA at h;rw[UD,Bool.or_eq_false_iff]at h;rw[Zz,Zz,VL,VL,vO (mU hq c),n7,i h.2];have:dv Yj c=[]:=by simpa using h.1
  rw[this];rfl
theorem any_some(h:bA Yj cs=true):bg Yj b k0 cs≠[]:=by
 unfold bA at h;obtain⟨c,a,h⟩:=qr h;intro e;have e2:=(XA e).2;rw[List.flatMap_eq_nil_iff]at e2;rw[(List.map_eq_nil_iff.mp (XA (e2 c a)).1)]at h;exact Za h Z'
theorem Ff(ok:a7 cs)(e:cs≠[]):bA false cs=true\/bA true cs=true:=by cases cs with
  |Yl=>exact Za rfl e|Zp c cs=>
    have h:=ok.qM.1;unfold bA;rw[UD,UD];rcases h with h|h
    . left;have:(dv false c).isEmpty=false:=by
        refine wB (c.1) (λd=>?_) λa b d=>?_;.exact Za d h
        .simp[dv,d]
      rw[this];rfl
    . right;have:(dv true c).isEmpty=false:=by
        refine wB (c.2.1) (λd=>?_) λa b d=>?_;.exact Za d h
        .simp[dv,d]
      rw[this];rfl
theorem rJ(hp:a≠(" "))(hq:q≠(" "))(k0:J Z)(ok:a7 cs)(c:cs≠[]):Sv (if bA false cs then bg false a k0 cs else[]) (if bA true cs then bg true q k0 cs else[])=bg false a k0 cs/\Sv (if bA true cs then bg true q k0 cs else[]) (if bA false cs then bg false a k0 cs else[])=bg true q k0 cs:=by cases b:bA false cs with
 |false=>
  have ht:=(Ff ok c).resolve_left (by rw[b];decide);rw[ht];exact⟨uF hq k0 cs b,fJ (any_some ht)⟩|true=>
  refine⟨fJ (any_some b),?_⟩;cases ht:bA true cs with|false=>exact uF hp k0 cs ht|true=>exact fJ (any_some ht)
theorem dW:"! "=iw 33/\"- "=iw 45/\"+ "=iw 43/\"  "=iw 32/\"!"=one 33/\"-"=one 45/\"+"=one 43/\" "=one 32:=by refine⟨?_,?_,?_,?_,?_,?_,?_,?_⟩<;>decide+kernel
theorem tD(a:U)(h:eh x):∃y,c9 (iw a++x)=iw a++y/\y++"\n"=x/\10∉RX:=by
 obtain⟨y,YA,hy⟩:=h;rw[YA];refine⟨y,?_,rfl,hy⟩;have:iw a++(y++gT)=(iw a++y)++gT:=by
  apply eD;simp only[Xw,Y0,ZQ]
 rw[this,jc]
theorem su(a:U)(h:eh x):cz (c9 (iw a++x))=(one a,x):=by
 obtain⟨y,e,e2,_⟩:=tD a h;rw[e,Dv,e2]
theorem Gy(b:a≠10)(h:eh x):eh (iw a++x):=by
  obtain⟨y,YA,hy⟩:=h;rw[YA];refine⟨iw a++y,?_,?_⟩;.apply eD;simp only[Xw,Y0,ZQ]
  . rw[kM];intro q;rcases ZI q with q|q;.exact b hN
    . rcases ZI q with q|q;.cases q
      .exact hy q
structure DZ(x:Z):Prop where
 ln:eh x
 cut:rx (c9 x)=false
 star:(c9 x==bh)=false
theorem BA(b:a≠10)(h:eh x):DZ (iw a++x):=by
 obtain⟨y,e,e2,_⟩:=tD a h;exact⟨Gy b h,by rw[e];exact CX a y,by rw[e];exact Bs a y⟩
def kj(k0:J Z)(cs:Zb8):Prop:=(∀x∈k0,eh x)/\∀c∈cs,(∀x∈c.1,eh x)/\(∀x∈c.2.1,eh x)/\∀x∈c.2.2,eh x
theorem kj.side(h:kj k0 cs)(a:c∈cs)(Yj:YZ):∀x∈dv Yj c,eh x:=by
 cases Yj;.exact(h.2 c a).1
 .exact(h.2 c a).2.1
theorem lC(b:a≠10)(hp:D=iw a)(c:cp):∃d,d≠10/\gM D c=iw d/\lQ (one a) c=one d:=by
 unfold gM lQ;split;.exact⟨33,by decide,dW.1,dW.2.2.2.2.1⟩
 .exact⟨a,b,hp,rfl⟩
theorem DA(f:a≠10)(hp:D=iw a)(h:kj k0 cs):∀x∈dA Yj D k0 cs,DZ x:=by
  intro x hx;have bl:∀i:J Z,(∀x∈i,eh x)->∀x∈ej i,DZ x:=λi g x hx=>by
    obtain⟨y,hy,YA⟩:=Zl hx;rw[<-YA];exact BA Z' (g y hy)
  rcases ZM hx with hx|hx;.exact bl k0 h.1 x hx
  . obtain⟨c,b,hx⟩:=WL hx;rcases ZM hx with hx|hx;.obtain⟨y,hy,YA⟩:=Zl hx;rw[<-YA];obtain⟨d,hd,e,_⟩:=lC f hp c;rw[e];exact BA hd (h.side b Yj y hy)
    .exact bl _ (h.2 c b).2.2 x hx
theorem yy(f:a≠10)(hp:D=iw a)(h:kj k0 cs):((dA Yj D k0 cs).map c9).map cz=bg Yj (one a) k0 cs:=by
 have bl:∀i:J Z,(∀x∈i,eh x)->((ej i).map c9).map cz=XO i:=λi g=>by
  rw[Xo,Xo];apply Vq;intro x hx;show cz (c9 ("  "++x))=_;rw[dW.2.2.2.1,su 32 (g x hx),dW.2.2.2.2.2.2.2]
 rw[ZE,ZE,bl k0 h.1];congr 1;have b:∀c∈cs,((((dv Yj c).map (gM D c++.)++ej c.2.2)).map c9).map cz=(dv Yj c).map (λx=>(lQ (one a) c,x))++XO c.2.2:=λc b=>by
  rw[ZE,ZE,bl _ (h.2 c b).2.2];congr 1;rw[Xo,Xo];apply Vq;intro x hx;obtain⟨d,hd,e,e2⟩:=lC f hp c;show cz (c9 (gM D c++x))=_;rw[e,e2,su d (h.side b Yj x hx)]
 rw[List.map_flatMap,List.map_flatMap];rw[List.flatMap_def,List.flatMap_def,Vq b]
def AY(q:U)(l:J Z):J U:=VF (λx k q=>if(x==bh)=true then q::k (q+1)else k (q+1)) (λO=>[]) q
theorem s6(q a x):AY q (a::x)=if(a==bh)=true then q::AY (q+1) x else AY (q+1) x:=rfl
theorem yr:∀(x:J Z)(q:U),((Zh ZO).filter λk=>x.getD k ""==bh).map (.+q)=AY q x:=by
 intro I;induction I with
 |Yl=>
  intro _;exact rfl|Zp a x b=>
  intro q;rw[YG,Sa,List.filter_cons,s6,<-b (q+1)];have e:((List.map Nat.succ (Zh ZO)).filter λk=>(a::x).getD k ""==bh).map (.+q)=((Zh ZO).filter λk=>x.getD k ""==bh).map (.+(q+1)):=by
   rw[List.filter_map,Xo];have:((λk=>(a::x).getD k ""==bh)∘Nat.succ)=λk=>x.getD k ""==bh:=rfl;apply Vq;intro k O;show k+1+q=k+(q+1);exact cY 0x6e1070830141c1 [_,_]
  show List.map (.+q) (if(a==bh)=true then 0::_ else _)=_;by_cases h:(a==bh)=true;.rw[ZT h,ZT h,Yd,e,Wi]
  .rw[ZY h,ZY h,e]
theorem Ez(x:J Z):cw x=AY 0 x:=by
 rw[<-yr,cw];exact(List.map_id _).symm
theorem qW:∀(x ys:J Z)(q:U),AY q (x++ys)=AY q x++AY (q+ZO) ys:=by
 intro I;induction I with
 |Yl=>
  intro _ _;exact rfl|Zp b x a=>
  intro ys q;rw[WO,s6,s6,a ys (q+1),YG,show q+1+ZO=q+(ZO+1)by(exact cY 0x6e1070830141c1 [_,_])];split<;>rfl
theorem mR:∀(x:J Z)(q:U),(∀a∈x,(a==bh)=false)->AY q x=[]:=by
 intro I;induction I with
 |Yl=>
  intro _ _;exact rfl|Zp a x b=>
  intro q h;rw[s6,h a (.head _),ZY Z'];exact b (q+1) λy hy=>h y (ZX _ hy)
def c7(s:J (J Z)):J Z:=s.flatMap (bh::.)
def oU(p:U)(l:J (J Z)):J U:=VF (λs k p=>p::k (p+1+ZR)) (λO=>[]) p
theorem qY(a s r):oU a (s::r)=a::oU (a+1+ZR) r:=rfl
theorem BE:∀(s:J (J Z))(a:U),(oU a s).length=ZR:=by
 intro I;induction I with
 |Yl=>
  intro _;exact rfl|Zp c r b=>
  intro a;rw[qY,YG,YG,b]
theorem Bz:∀(a:J (J Z))(q:U),(∀s∈a,∀x∈s,(x==bh)=false)->AY q (c7 a)=oU q a:=by
 intro I;induction I with
 |Yl=>
  intro _ _;exact rfl|Zp s r b=>
  intro q h;show AY q (bh::s++c7 r)=_;rw[qW,s6,ZT (Vb _),mR s _ (h s (.head _)),b _ (λt ht=>h t (ZX _ ht)),qY,YG,show q+(ZR+1)=q+1+ZR by(exact E6)];rfl
theorem jV(s:J Z)(r:J (J Z)):c7 (s::r)=bh::(s++c7 r):=rfl
theorem Ag:∀(e:J (J Z))(pre tl:J Z)(c k d:U),(oU Uy e)[c]?=some k->((oU Uy e).drop 1++[Uy+(c7 e).length])[c]?=ZaC->∃b,e[c]?=Zar/\((pre++(c7 e++tl)).drop (k+1)).take (d-(k+1))=b:=by
 intro I;induction I with
 |Yl=>
  intro _ _ _ _ _ h _;exact ax h|Zp s r i=>
  intro V j l;revert V j;cases l with
  |VZ=>
   intro pre tl k d h1 h2;have m:=ZW h1;have he:d=Uy+1+ZR:=by
    rw[qY,List.drop_one,List.tail_cons]at h2;cases r with|Yl=>rw[<-ZW h2];simp[c7];exact E6|Zp a f=>exact(ZW h2).symm
   refine⟨s,rfl,?_⟩;subst m he;rw[jV,show pre++(bh::(s++c7 r)++tl)=(pre++[bh])++(s++(c7 r++tl))by simp];rw[gm (by simp),Vj (by simp),Yi,show Uy+1+ZR-(Uy+1)=ZR by exact cY 0x6c510c041 [_,_],List.take_left]|VC c=>
   intro pre tl k d h1 h2;have hl:(pre++bh::s).length=Uy+1+ZR:=by simp;exact E6
   have g:(oU (pre++bh::s).length r)[c]?=some k:=by rw[hl];exact h1
   have n:((oU (pre++bh::s).length r).drop 1++[(pre++bh::s).length+(c7 r).length])[c]?=ZaC:=by
    rw[qY,List.drop_one,List.tail_cons,<-hl]at h2;cases r with
    |Yl=>exact ax g|Zp a f=>
     rw[show Uy+(c7 (s::a::f)).length=(pre++bh::s).length+(c7 (a::f)).length by rw[hl,jV s];simp;(exact cY 0x6e0380a0e0c20e80c41 [_,_,_])]at h2;exact h2
   walk_at"b";obtain⟨b,hb,h⟩:=i (pre++bh::s) tl c k d g n;refine⟨b,hb,?_⟩;rw[jV,show pre++(bh::(s++c7 r)++tl)=(pre++bh::s)++(c7 r++tl)by simp];exact h
theorem DC(pre:J Z)(s:J (J Z))(hp:∀x∈pre,(x==bh)=false)(hs:∀a∈s,∀x∈a,(x==bh)=false):cw (pre++(c7 s++[("")]))=oU Uy s/\∀(j k e:U),(cw (pre++(c7 s++[("")])))[j]?=some k->(fT (pre++(c7 s++[("")])))[j]?=ZbU->∃b,s[j]?=Zar/\((pre++(c7 s++[("")])).drop (k+1)).take (e-(k+1))=b:=by
  have e1:cw (pre++(c7 s++[("")]))=oU Uy s:=by
    rw[Ez,qW,qW,mR pre _ hp,Bz s _ hs,mR [""] _ (by intro x hx;rw[ZD hx];decide+kernel)];simp
  refine⟨e1,λj k e h1 h2=>Ag s pre [""] j k e ?_ ?_⟩;.rw[<-e1];exact h1
  .rw[<-h2,fT,e1];congr 2;simp
theorem ou(n:U):(gI (n:Zv)).cps.toList=(Nat.toDigits 10 n).map Char.toNat:=by
 show(WY (b7 (rt n))).cps.toList=_;rw[text_ofNat]
theorem vm{a:Char}(h:a.toNat=b.toNat):a=b:=Char.ext (UInt32.toNat_inj.mp h)
theorem nF(h:gI (j:Zv)=gI (p:Zv)):j=p:=by
 have h1:=Zq (λs:Z=>RO) h;simp only[ou]at h1;have h2:=(List.map_inj_right λx y=>vm).mp h1;have a:=Zq (λl=>Nat.ofDigitChars 10 l 0) h2;simpa using a
theorem ey(h:x∈(gI (j:Zv)).cps.toList):48<=x/\x<=57:=by
 rw[ou]at h;obtain⟨c,a,YA⟩:=Zl h;rw[<-YA];have hd:=Nat.isDigit_of_mem_toDigits Z' Z' a;simp only[Char.isDigit,YM,XY]at hd;exact⟨by simpa using UInt32.le_iff_toNat_le.mp hd.1,by simpa using UInt32.le_iff_toNat_le.mp hd.2⟩
theorem FN(k:U):∀(a b r s:J U),k∉a->k∉b->a++k::r=b++k::s->a=b:=by
 intro d;induction d with
 |Yl=>
  intro I;cases I with
  |Yl=>
   intro r s _ _ h;exact rfl|Zp y b=>
   intro r s _ hb h;simp at h;exact Za h.1.symm (by intro q;exact hb (by simp[q]))
 |Zp x a e=>
  intro I;cases I with
  |Yl=>
   intro r s c _ h;simp at h;exact Za h.1 (by intro q;exact c (by simp[q]))|Zp y b=>
   intro r s c hb h;simp only[WO,fI]at h;rw[h.1,e b r s (λq=>c (ZX _ q)) (λq=>hb (ZX _ q)) h.2]
theorem hV(a m:U):(aN a m).cps.toList=if m<2 then(gI ((a+m:U):Zv)).cps.toList else(gI ((a+1:U):Zv)).cps.toList++44::(gI ((a+m:U):Zv)).cps.toList:=by
 walk_at"i";unfold aN;have e:(",").cps.toList=[44]:=by decide+kernel
 by_cases h:m<2;.rw[ZT (by exact a9 0xfe9f30e9e1 [2,2] [_] [] h),ZT h];rfl
 .rw[ZY (by exact a9 0x3fcd3e61e69e1 [2,2] [_] [] h),ZY h,Xw,Xw,Y0,Y0,e,ZQ];rfl
theorem rG(h:(aN j I).cps.toList=(aN p I).cps.toList):j=p:=by
  rw[hV,hV]at h;by_cases hm:I<2;.rw[ZT hm,ZT hm]at h;have:=nF (eD h);exact aV 0x7f630ee021c041 [_,_,_] this
  .rw[ZY hm,ZY hm]at h;have:=FN 44 _ _ _ _ (λq=>by have:=ey q;exact a9 0x1f4f7217e5ef [48,44,44] [_] [] this) (λq=>by have:=ey q;exact a9 0x1f4f7217e5ef [48,44,44] [_] [] this) h;have:=nF (eD this);exact aV 0x7f620ee0e141c1 [_,_] this
theorem jL(a m:U):10∉(aN a m).cps.toList:=by
  rw[hV];refine bQ rfl (λO=>?_) λO=>?_;.intro q;have:=ey q;exact JB this
  . intro q;rcases ZM q with q|q;.have:=ey q;exact JB this
    . rcases ZI q with q|q;.cases q
      .have:=ey q;exact JB this
theorem gG(a m:U):(bC a m).cps.toList=[42,42,42,32]++(aN a m).cps.toList++[32,42,42,42,42]:=by
 have e:("*** ").cps.toList=[42,42,42,32]:=by decide+kernel
 have b:(" ****").cps.toList=[32,42,42,42,42]:=by decide+kernel
 rw[Y0,Y0,e,b]
theorem oN(h:bC a c=bC b c):a=b:=by
 have h1:=Zq (λs:Z=>RO) h;simp only[gG]at h1;exact rG (List.append_cancel_left (List.append_cancel_right h1))
theorem rH(h:a<=n):∃XG,js n (bC a b) b=a::XG:=by
 unfold js;refine fU (Nat.lt_succ_of_le h) (Vb _) λi c=>?_;rw[Uu];intro e;have:=oN e;exact bx 0x1ffa76116841 [_,_] c this
def cV(a m:U):Z:=("--- ")++aN a m++(" ----")
theorem nB(a m:U):(cV a m).cps.toList=[45,45,45,32]++(aN a m).cps.toList++[32,45,45,45,45]:=by
 have e:("--- ").cps.toList=[45,45,45,32]:=by decide+kernel
 have b:(" ----").cps.toList=[32,45,45,45,45]:=by decide+kernel
 rw[Y0,Y0,e,b]
theorem Bf(a m:U):rx (cV a m)=true:=by rw[r8,nB];rfl
theorem zN(a m:U):(cV a m==bh)=false:=by
 have e:cV a m="--- "++(aN a m++" ----"):=by
  apply eD;unfold cV;simp only[Xw,Y0,ZQ]
 rw[e,yS]
def cA(Yj:YZ)(WC:Z)(k0:J Z)(cs:Zb8):J Z:=if bA Yj cs then dA Yj WC k0 cs else[]
def k9(h:Hn)(o w:U):J Z:=bC o (WR X4)::((cA false "- " zx RY).map c9++cV w (Wz X4)::(cA true "+ " zx RY).map c9)
theorem cT(a b:Xb):WR (a++b)=WR a+WR b:=nC
theorem dB(a b:Xb):Wz (a++b)=Wz a+Wz b:=nC
theorem jw(i:J Z):WR (XO i)=W6:=by
 unfold WR XO;rw[TU,S6];intro x O;show(!(" "==("+")))=true;decide+kernel
theorem k6(i:J Z):Wz (XO i)=W6:=by
 unfold Wz XO;rw[TU,S6];intro x O;show(!(" "==("-")))=true;decide+kernel
theorem ku(c:cp):WR (aU c)=c.1.length+c.2.2.length:=by
 rw[cT,cT,jw];have h1:WR (c.1.map λx=>("-",x))=c.1.length:=by
  unfold WR;rw[TU,S6];intro x O;show(!("-"=="+"))=true;decide+kernel
 have h2:WR (c.2.1.map λx=>("+",x))=0:=by
  unfold WR;rw[TU,List.countP_eq_zero.mpr];intro x O;show¬(!("+"==("+")))=true;simp
 exact bx 0x1ffee041c09008b6316da1 [_,_,_,_] h2 h1
theorem nH(c:cp):Wz (aU c)=c.2.1.length+c.2.2.length:=by
 rw[dB,dB,k6];have h1:Wz (c.1.map λx=>("-",x))=0:=by
  unfold Wz;rw[TU,List.countP_eq_zero.mpr];intro x O;show¬(!("-"==("-")))=true;simp
 have h2:Wz (c.2.1.map λx=>("+",x))=c.2.1.length:=by
  unfold Wz;rw[TU,S6];intro x O;show(!("+"=="-"))=true;decide+kernel
 exact bx 0x1ffee041c0901076316da1 [_,_,_,_] h1 h2
theorem pJ(p:Z)(k0:J Z)(cs:Zb8):(bg false p k0 cs).length=WR Zc9:=by
 rw[Z1,cT,jw,cy];congr 1;induction cs with|Yl=>rfl|Zp c cs i=>rw[Zz,Zz,Z1,cT,i,ku,Z1,cy,Z2];rfl
theorem tF(b:a≠10)(hp:D=iw a)(h:kj k0 cs):((cA Yj D k0 cs).map c9).map cz=if bA Yj cs then bg Yj (one a) k0 cs else[]:=by
 unfold cA;split;.exact yy b hp h
 .rfl
theorem nk(b:a≠10)(hp:D=iw a)(h:kj k0 cs):∀x∈cA Yj D k0 cs,DZ x:=by
 unfold cA;refine bQ rfl (λO=>?_) λO=>?_;.exact DA b hp h
 .intro x hx;cases hx
theorem DP(ok:a7 RY)(b:RY≠[])(hl:kj zx RY)(c:a<=n):BodyOk n (k9 h a d) a (bg false "-" zx RY) (bg true "+" zx RY):=by
  obtain⟨_,m,e,_,_,g,i,_⟩:=dW;have e1:=tF (Yj:=false) Z' m hl;have e2:=tF (Yj:=true) Z' e hl;rw[<-g]at e1;rw[<-i]at e2;have f:=rJ pK qj zx ok b;rw[<-e1,<-e2]at f;obtain⟨XG,hr⟩:=rH c;have hm:(Sv (((cA false "- " zx RY).map c9).map cz) (((cA true "+ " zx RY).map c9).map cz)).length=WR X4:=by
    walk_at"i";rw[f.1,pJ];rfl
  have B:=BodyOk.mk (hd:=bC a (WR X4)) (d:=cV d (Wz X4)) (os:=(cA false "- " zx RY).map c9) (λx hx=>by
      refine(ZI hx).elim (λYA=>?_) λhx=>?_;.rw[YA];exact BV ..
      .obtain⟨y,hy,YA⟩:=Zl hx;rw[<-YA];exact(nk Z' m hl y hy).cut) (Bf ..) (by rw[hm];exact hr);rw[f.1,f.2]at B;exact B
theorem yt(hl:kj zx RY):∀x∈k9 h b c,(x==bh)=false:=by
  obtain⟨_,m,a,_,_,d,e,_⟩:=dW;intro x hx;refine(ZI hx).elim (λYA=>?_) λhx=>?_;.rw[YA];exact zm ..
  . rcases ZM hx with hx|hx;.obtain⟨y,hy,YA⟩:=Zl hx;rw[<-YA];exact(nk Z' m hl y hy).star
    . refine(ZI hx).elim (λYA=>?_) λhx=>?_;.rw[YA];exact zN ..
      .obtain⟨y,hy,YA⟩:=Zl hx;rw[<-YA];exact(nk Z' a hl y hy).star
def fP(o w:U)(l:J Hn):J (J Z):=VF (λh k o w=>k9 h (o+Y6) (w+Y6)::k (o+Y6+WR X4) (w+Y6+Wz X4)) (λO O=>[]) o w
theorem Aw(a b h r):fP a b (h::r)=k9 h (a+Y6) (b+Y6)::fP (a+Y6+WR X4) (b+Y6+Wz X4) r:=rfl
def vI(o:U)(l:J Hn):J Hk:=VF (λh k o=>(o+Y6,bg false "-" zx RY,bg true "+" zx RY)::k (o+Y6+WR X4)) (λO=>[]) o
structure qS(h:Hn):Prop where
 ok:a7 RY
 ne:RY≠[]
 ln:kj zx RY
variable{NN:Hn}
theorem tK(ok:a7 H_)(ne:H_≠[])(Yj:YZ)(WC:Z):half Ob Yj WC=cA Yj WC NN.k0 H_:=x9 Yj WC NN.k0 H_ ok ne
theorem lits:"***************\n"=bh++gT/\" ****\n"=" ****"++gT/\" ----\n"=" ----"++gT/\"*** \n"="*** "++gT/\"--- \n"="--- "++gT:=by refine⟨?_,?_,?_,?_,?_⟩<;>decide+kernel
theorem IF(a b c d:Z):a++b++(c++d)=a++b++c++d:=by
 apply eD;simp only[Xw,Y0,ZQ]
theorem qh(ok:a7 H_)(ne:H_≠[])(o w:U):eQ Ob (o:U) (w:U)=(bh++gT)::(bC o (WR Ob)++gT)::(cA false "- " NN.k0 H_++(cV w (Wz Ob)++gT)::cA true "+ " NN.k0 H_):=by
 unfold eQ cS;rw[tK ok ne,tK ok ne,lits.1,lits.2.1,lits.2.2.1,IF,IF]at⊢;rfl
theorem vg(a:qS h)(o w:U):eQ X4 (o:U) (w:U)=(bh++gT)::(bC o (WR X4)++gT)::(cA false "- " zx RY++(cV w (Wz X4)++gT)::cA true "+ " zx RY):=qh a.ok a.ne o w
theorem ox(h:10∉a.cps.toList):eh (a++gT):=⟨a,rfl,h⟩
theorem zv(o m:U):10∉(bC o m).cps.toList:=by
  rw[gG];intro q;rcases ZM q with q|q
  . rcases ZM q with q|q;.exact Za q Z'
    .exact jL _ _ q
  .exact Za q Z'
theorem y5(o m:U):10∉(cV o m).cps.toList:=by
  rw[nB];intro q;rcases ZM q with q|q
  . rcases ZM q with q|q;.exact Za q Z'
    .exact jL _ _ q
  .exact Za q Z'
theorem vX:10∉D_:=by
 have e:D_=Zt 15 42:=by decide+kernel
 rw[e];decide
theorem Ac(a:qS h)(o w:U):∀x∈eQ X4 (o:U) (w:U),eh x:=by
  obtain⟨_,m,b,_⟩:=dW;rw[vg a];intro x hx;refine(ZI hx).elim (λYA=>?_) λhx=>?_;.rw[YA];exact ox vX
  . refine(ZI hx).elim (λYA=>?_) λhx=>?_;.rw[YA];exact ox (zv _ _)
    . rcases ZM hx with hx|hx;.exact(nk Z' m a.ln x hx).ln
      . refine(ZI hx).elim (λYA=>?_) λhx=>?_;.rw[YA];exact ox (y5 _ _)
        .exact(nk Z' b a.ln x hx).ln
theorem wV(a:qS h)(o w:U):(eQ X4 (o:U) (w:U)).map c9=bh::k9 h o w:=by
 rw[vg a,k9];simp only[Yd,ZE,jc]
theorem yv:∀(hs:J Hn)(o w:U),(∀h∈hs,qS h)->(bI (o:U) (w:U) hs).map c9=c7 (fP o w hs)/\∀x∈bI (o:U) (w:U) hs,eh x:=by
 intro I;induction I with
 |Yl=>
  intro _ _ _;exact⟨rfl,λx hx=>jP _ hx⟩|Zp h r c=>
  intro o w a;walk_at"y";have e1:((o:U))+Y6=((o+Y6:U):Zv):=by exact Dt
  have e2:((w:U))+Y6=((w+Y6:U):Zv):=by exact Dt
  have e:((o+Y6:U))+WR X4=((o+Y6+WR X4):Zv):=by exact Dt
  have d:((w+Y6:U))+Wz X4=((w+Y6+Wz X4):Zv):=by exact Dt
  have b:=a h (.head _);have i:=c (o+Y6+WR X4) (w+Y6+Wz X4) λx hx=>a x (ZX _ hx);rw[kC,e1,e2,Aw,ZE,wV b,i.1];refine⟨rfl,λx hx=>?_⟩;refine(ZM hx).elim (λhx=>?_) λhx=>?_;.exact Ac b _ _ x hx
  .exact i.2 x hx
theorem wD:∀(hs:J Hn)(o w:U),(fP o w hs).length=hs.length:=by
 intro hs;induction hs with|Yl=>exactλO O=>rfl|Zp h r i=>exactλo w=>Zq (.+1) (i _ _)
theorem Cb:∀(hs:J Hn)(o:U),(vI o hs).length=hs.length:=by
 intro hs;induction hs with|Yl=>exactλO=>rfl|Zp h r i=>exactλo=>Zq (.+1) (i _)
theorem uq:∀(hs:J Hn)(o w:U),(∀h∈hs,qS h)->∀s∈fP o w hs,∀x∈s,(x==bh)=false:=by
 intro I;induction I with
 |Yl=>
  intro _ _ _;exactλs hs=>by cases hs|Zp h r b=>
  intro o w a;exactλs hs=>by
   refine(ZI hs).elim (λYA=>?_) λhs=>?_;.rw[YA];exact yt (a h (.head _)).ln
   .exact b _ _ (λx hx=>a x (ZX _ hx)) s hs
def kr(l:J Hn):U:=VF (λh k=>Y6+WR X4+k) 0
theorem k7(h r):kr (h::r)=Y6+WR X4+kr r:=rfl
theorem ya:∀(hs:J Hn)(o w n:U),(∀h∈hs,qS h)->o+kr hs<=n->∀(j:U)(b:J Z)(d:Hk),(fP o w hs)[j]?=Zar->(vI o hs)[j]?=ZaC->BodyOk n b d.1 d.2.1 d.2.2:=by
 intro I;induction I with
 |Yl=>
  intro _ _ _ _ _ j b d hb _;exact ax hb|Zp h r f=>
  intro V g i k l m;revert V g i k l;cases m with
  |VZ=>
   intro o w n c a b d hb hd;have e:=c h (.head _);rw[<-(ZW hb)];rw[<-(ZW hd)];rw[k7]at a;exact DP e.ok e.ne e.ln (aV 0x7f25808392c20480c41 [_,_,_,_,_] a)|VC j=>
   intro o w n c a b d hb hd;rw[k7]at a;exact f _ _ n (λx hx=>c x (ZX _ hx)) (Lj a) j b d hb hd
def z6(sc:J Zv):U:=(sc.headD 0).natAbs/2
def bN(sc:J Zv):U:=(sc.headD 0).natAbs%2
def SQ(sc:J Zv):J Zv:=if((jd 1).take 62).isEmpty=false then(jd 1).take 62 else if sc.isEmpty=false then sc else[1,26]
structure Ent where
 kind:Zv
 size:U
 oc:Z
def i'(e:Ent):J Z:=Zt IY (e.line++nl)
def za(e:Ent):J Z:=if e.kind≠2 then i_ else[]
def Wl(e:Ent):J Z:=if e.kind≠1 then i_ else[]
structure il(e:Ent):Prop where
 k0:0<=e.kind
 k2:e.kind<=2
 s1:1<=IY
 s8:IY<=8
 nl:yi e.line
 l3:e.line.length<=3
theorem il.al(h:il b):b.a.length<=8:=by
 unfold za i';refine bQ rfl (λO=>?_) λO=>?_;.rw[XU];exact h.s8
 .exact Zf _
theorem il.bl(h:il a):a.b.length<=8:=by
 unfold Wl i';refine bQ rfl (λO=>?_) λO=>?_;.rw[XU];exact h.s8
 .exact Zf _
theorem i9{α:Type}{f:α->J Z}:∀{d:J α},(∀e∈d,(f e).length<=8)->(Yr f).length<=8*Yc:=by
 intro I;induction I with
 |Yl=>
  intro _;exact ZV _|Zp e d a=>
  intro h;rw[Z1];have:=h e (Y4 ..);have:=a λx hx=>h x (ZX _ hx);exact cD 0x1ffe65070a011e5e3cc841 [8,8,8] [_,_,_] [] this ‹_›
theorem CA(i:Zv):(if i<0 then-i else i).fdiv 2=((kk/2:U):Zv):=by
 have:(if i<0 then-i else i)=kk:=by split<;>(first|exact a9 0x3fb9d558569aa [] [] [_] ‹_›|exact a9 0x3fb9d54ae69aa [] [] [_] ‹_›)
 rw[this,IP _ Z'];exact J1
theorem CE(i:Zv):(if i<0 then-i else i).fmod 2=((kk%2:U):Zv):=by
 have:(if i<0 then-i else i)=kk:=by split<;>(first|exact a9 0x3fb9d558569aa [] [] [_] ‹_›|exact a9 0x3fb9d54ae69aa [] [] [_] ‹_›)
 rw[this,Int.fmod_eq_emod_of_nonneg _ Z'];exact Kq
theorem fg(h:y'<=63):(SQ sc).length<=62:=by
  unfold SQ;refine bQ rfl (λO=>?_) λh1=>?_;.rw[Zo];exact cY 0x190d841 [_,_]
  . have a:(jd 1).take 62=[]:=by simpa using h1
    refine bQ rfl (λO=>?_) λO=>?_;.have:=Zq Sm a;rw[Zo,Zd,UT]at this;exact a9 0x7f2f0edb68b82f [62,62] [_] [] this
    .decide
abbrev bU(pm cd Wv:ZP)(a fa:Y9):S2:=Xd (t8 (cx 16) pm cd Wv .none .none) a fa
abbrev j9(sc:J Zv):MV:=.lst (sc.map .int)
theorem yp(hb:Q' NC)(rm:Za3)(a:y'<=63)(hl:Yb ("script")=some (j9 sc))(k:g (j9 (SQ sc)) E):EV X m Zn (ZH (.BoolOp .Or [.Subscript (.Name "script" p1) (.Slice (some (.Constant (.int 1) j1 p2)) (some (.Constant (.int 63) b c)) none d) f,.Name "script" i,.List [.Constant (.int 1) l q,.Constant (.int 26) r s] u] F) Zn) o E g:=by
  have hg:∀x,[].contains x=true->YJ x=Zaa:=λx hx=>by simp at hx
  have p:pe [] o E (.Name "script" p1)=some (j9 sc):=by
    show(jF E (if B1 "script"then Yb ("script")else none)).1=_;rw[ZT (by rfl),hl];rfl
  have e1:cF (sc.map Uz) (some 1) (some 63)=((jd 1).take 62).map .int:=by
    rw[show(1)=((1:U))from rfl,show(63)=((63:U))from rfl,fW];simp
  have z1:((jd 1).take 62).length<=ZK:=by rw[Zo,af];exact fA 0x197d82f [62,16777216] [_] []
  have z2:y'<=ZK:=by rw[af];exact a9 0x7f2f0e5e1 [63,16777216] [_] [] a
  refine EV.CV (u0 (X0 NC hb rm hg p (U2 (X2 ⟨_,rfl,U2 (X2 ⟨_,rfl,_,aF ..,?_,!((jd 1).take 62).isEmpty,?_,λh1=>?_,λh1=>?_⟩)⟩))));.rw[Z2];exact z2
  .rw[e1];exact(ZT (by rw[Z2];exact z1)).trans (by rw[O_])
  . rw[e1];have:SQ sc=(jd 1).take 62:=by
      walk_at"i";unfold SQ;rw[ZT (by simpa using h1)]
    rw[this]at k;exact k
  refine EV.CV (X0 NC hb rm hg p ⟨!sc.isEmpty,?_,λh2=>?_,λh2=>EV.IM ?_⟩);.exact(ZT (by rw[Z2];exact z2)).trans (by rw[O_])
  . have:SQ sc=sc:=by unfold SQ;rw[ZY (by simpa using h1),ZT (by simpa using h2)]
    rw[this]at k;exact k
  . have:SQ sc=[1,26]:=by unfold SQ;rw[ZY (by simpa using h1),ZY (by simpa using h2)]
    rw[this]at k;exact X0 NC hb rm hg Z_ k
def i8(m SH:U):J Z:=(Zh (200*SH-m)).map λi=>gI (100+((m+i:U):Zv))++nl
def Vh(d:J Ent):J Z:=Yr za
def du(d:J Ent)(SH:U):J Z:=Yr Wl++i8 (Yr Wl).length SH
abbrev E7(sc:J Zv)(f s:MV):YV:=[("script",j9 sc),("n",.int (z6 sc:U)),("more",.int (bN sc:U)),("first",f),("second",s)]
def LY(sc:J Zv)(f s1:Y9)(x z kd:Zv)(s:U)(l:J Z):YV:=E7 sc (.ref f) (.ref s1)++([("x",.int x),("rest",.int z),("kind",.int kd),("size",.int s),("lines",.lst (ah l))]:YV)
abbrev ic:J Wa:=bH (cx 16)
abbrev D6:J Wa:=bH (ic.getD 2 (.Pass default))
theorem CI(D:cZ X d)(hb:Q' d)(rm:Rm X m (PW+1))(t:f≠s1)(ga:E f=some (.list (ah as)))(gb:E s1=some (.list (ah bs)))(C:as.length<=1000)(F:TN<=1000)(l:∀e c,il e->N' ZcK c->B .next c (Y7 (Y7 E f (.list (ah (as++e.a)))) s1 (.list (ah (bs++e.b))))):EF X m (bU pm cd Wv u fa) (Yk D6 (bU pm cd Wv u fa)) (aJ "x" (.int x) (E7 sc (.ref f) (.ref s1))) E B:=by
  walk_at"d";have hg:∀x,[("divmod")].contains x=true->(bU pm cd Wv u fa).kindOf x=Zaa:=by
    intro x hx;simp only[Wr,VD,TO,V5]at hx;rw[hx];rfl
  refine ZJ (sp (X0 d hb rm hg (mv:=.tup [.int (nz 3),.int (x.fmod 3)]) Z_ (BO YQ (.inl rfl) (.inl rfl) ?_)));refine ZJ (sp (X0 d hb rm hg (mv:=.tup [.int ((nz 3).fdiv 8),.int ((nz 3).fmod 8)]) Z_ (BO YQ (.inl rfl) (.inl rfl) ?_)));have k0:0<=x.fmod 3:=vb _ Z';have G:x.fmod 3<3:=ny _ Z';have I:0<=(nz 3).fmod 8:=vb _ Z';have s8:(nz 3).fmod 8<8:=ny _ Z';have M:0<=((nz 3).fdiv 8).fmod (1112063^3):=vb _ Z';have Q:((nz 3).fdiv 8).fmod (1112063^3)<1112063^3:=ny _ Z';generalize(nz 3).fmod 8=w at*;generalize x.fmod 3=kd at*;generalize(nz 3).fdiv 8=z at*;walk_at"a8";generalize S:z.fmod (1112063^3)=T at*;refine ZJ (Zk (EV.times (Uw (Zu ?_))) (.inl rfl));refine s_ d rfl D.line.gl D.line.fn.get D.line.fn.nt rfl ?_;refine Zu (YU (Z4 rfl (EV.pow (X2 (X2 (Vo 1112063 3 ⟨rfl,rfl,by decide,by decide+kernel,.int T,?_,?_⟩))))));.show(if(1112063^(3:Zv).toNat)=0 then none else some (Uz (z.fmod (1112063^(3:Zv).toNat))))=_;rw[ZY Z',<-S];rfl
  refine Y5 (y8 D.line.fn d hb rm M Q λy V PM=>Y5 ⟨(by decide:1<=ZK),?_⟩);obtain⟨s,rfl⟩:∃s:U,w=s:=⟨w.toNat,by exact a9 0x1fdce8a5654d [] [] [_] I⟩;refine X0 d hb rm hg Z_ (Vo (.str (y++nl)) (s+1) ⟨rfl,rfl,by exact a9 0x3f97c1c1d3e61 [8,1000000] [_] [] s8,?_⟩);have A:il ⟨kd,s+1,y⟩:=⟨k0,by show kd<=2;(exact a9 0x7f2f569ea [3,2] [] [_] G),Nat.succ_le_succ (Zf _),by show s+1<=8;(exact a9 0x3f97c1c1d3e61 [8,8] [_] [] s8),V,PM⟩;have PN:Zt (s+1) (MV.str (y++nl))=ah (i' ⟨kd,s+1,y⟩):=by simp[ah,i']
  rw[PN];have r:(i' ⟨kd,s+1,y⟩).length<=8:=by unfold i';rw[XU];exact A.s8
  have k:=l ⟨kd,s+1,y⟩;generalize PR:(⟨kd,s+1,y⟩:Ent)=e at*;have j:e.kind=kd:=by rw[<-PR]
  show EF X m _ _ Zcp E B;refine ZJ ?_;generalize PS:iU _ _ _ _ _=PT;have N:PT .next Zcp (Y7 E f (.list (ah (as++e.a)))):=by
    clear l;subst PS;have g:Y7 E f (.list (ah (as++e.a))) s1=some (.list (ah bs)):=by rw[ag t.symm];exact gb
    have Ub:=k Zcp A Zb3;show EF X m _ _ _ _ _;refine Sx (XF (SV d hb rm hg (c:=!(kd==1)) Z_ ⟨λh=>?_,λh=>?_⟩))
    . have i:kd≠1:=by simpa using h
      have n:e.b=i_:=by unfold Wl;rw[ZT (by rw[j];exact i)]
      rw[n]at Ub;refine Sx (VI (M_ (Z4 rfl ⟨s1,_,rfl,g,Z4 rfl ⟨_,_,g,aF ..,?_,rfl,?_⟩⟩)));.rw[az,az,af];exact cD 0x1ffe5f01072f165e1 [1000,8,16777216] [_,_] [] F r
      .rw[show ah bs++ah i_=ah (bs++i_)by simp[ah]];exact Ub
    . have i:kd=1:=by simpa using h
      have n:e.b=[]:=by unfold Wl;rw[ZY (by rw[j];exactλq=>q i)]at⊢
      rw[n,Zm]at Ub;refine YW ?_;have:Y7 (Y7 E f (.list (ah (as++e.a)))) s1 (.list (ah bs))=Y7 E f (.list (ah (as++e.a))):=funext λo=>by
        by_cases q:o=s1;.rw[q];rw[aa,g]
        .rw[ag q]
      rw[this]at Ub;exact Ub
  refine XF (SV d hb rm hg (c:=!(kd==2)) Z_ ⟨λh=>?_,λh=>?_⟩)
  . have i:kd≠2:=by simpa using h
    have p:e.a=i_:=by unfold za;rw[ZT (by rw[j];exact i)]
    rw[p]at N;refine Sx (VI (M_ (Z4 rfl ⟨f,_,rfl,ga,Z4 rfl ⟨_,_,ga,aF ..,?_,rfl,?_⟩⟩)));.rw[az,az,af];exact cD 0x1ffe5f01072f165e1 [1000,8,16777216] [_,_] [] C r
    .rw[show ah as++ah i_=ah (as++i_)by simp[ah]];exact N
  . have i:kd=2:=by simpa using h
    have p:e.a=[]:=by unfold za;rw[ZY (by rw[j];exactλq=>q i)]at⊢
    rw[p,Zm]at N;refine YW ?_;have:Y7 E f (.list (ah as))=E:=funext λo=>by
      clear t l k N;by_cases q:o=f;.rw[q];rw[aa,ga]
      .rw[ag q]
    rw[this]at N;exact N
theorem yG(D:cZ X k)(hb:Q' k)(rm:Rm X m (P4+1))(u:y'<=63)(T:∀d,Yc=(SQ sc).length->(∀e∈d,il e)->EF X m (bU pm cd Wv F fa) (Yk (ic.drop 4) (bU pm cd Wv F fa)) (E7 sc (.lst (ah (Vh d))) (.lst (ah (du d (bN sc))))) E B):EF X m (bU pm cd Wv F fa) (Yk ic (bU pm cd Wv F fa)) [("script",j9 sc)] E B:=by
  have hg:∀x,[("divmod"),"abs","len"].contains x=true->(bU pm cd Wv F fa).kindOf x=Zaa:=by
    intro x hx;simp only[Wr,VD,TO,Bool.or_eq_true,V5]at hx;rcases hx with rfl|rfl|rfl<;>rfl
  have V:(sc.map Uz).length<=ZK:=by rw[Z2,af];exact a9 0x7f2f0e5e1 [63,16777216] [_] [] u
  have w:bN sc<=1:=by unfold bN;exact Lr
  refine ZJ ?_;generalize PM:iU _ _ _ _ _=PN;have N:PN .next ([("script",j9 sc),("n",.int (z6 sc:U)),("more",.int (bN sc:U))]) E:=by
    subst PM;show EF X m _ _ _ _ _;refine ZJ (sp (TL (Zu (VX (Y5 ⟨by decide,λf I=>Zu (VX (Y5 ⟨by decide,λs1 p=>Y5 ⟨(by decide:2<=ZK),BO YQ (.inl rfl) (.inr ⟨rfl,_,rfl,(Xh (by decide:0<1))⟩) ?_⟩⟩))⟩)))));have s:f≠s1:=by
      intro PR;subst PR;rw[aa]at p;cases p
    have M:E s1=none:=by rw[ag s.symm]at p;exact p
    let PS:U->YV->GH->Prop:=λPT l i=>∃d:J Ent,Yc=PT/\(∀e∈d,il e)/\l=ZcK/\i=Y7 (Y7 E f (.list (ah (Vh d)))) s1 (.list (ah (Yr Wl)));refine ZJ (q' YQ PS (yp hb rm u rfl ⟨_,ZcK,rfl,⟨[],rfl,(λe he=>by cases he),rfl,rfl⟩,?_,λPW P5 l i hm C=>?_,λl i C=>?_⟩));.exact av Z_
    . obtain⟨d,g,o,rfl,rfl⟩:=C;rw[Zy]at hm;clear I M;obtain⟨x,hx,rfl⟩:=Y3 hm;have Q:=(ZN hx).1;have S:=fg u;have z:=i9 λe he=>(o e he).bl;refine Oe (.inl rfl) ?_;refine CI D hb rm s (by rw[ag s,aa]) (aa ..) (by show(Yr za).length<=1000;(exact pk 0xfffffcbc9990c9b08f2f16841 [62,8,1000] [_,_,_,_] [] Q S g (i9 (f:=za) λe he=>(o e he).al))) (by exact pk 0xfffffcbc9990c9b08f2f16841 [62,8,1000] [_,_,_,_] [] Q S g z) λe c he PX=>⟨_,⟨d++[e],by rw[Z1,g];rfl,λx hx=>?_,rfl,?_⟩,PX⟩
      . rcases ZM hx with q|q;.exact o x q
        .rw[ZD q];exact he
      . rw[show Vh (d++[e])=Vh d++e.a by simp[Vh,YT],show(d++[e]).flatMap Wl=Yr Wl++e.b by simp[YT]];refine funext λj=>?_;clear p s;by_cases q:j=s1;.subst q;rw[aa,aa]
        . rw[ag q,ag q];by_cases y:j=f;.subst y;rw[aa,aa]
          .rw[ag y,ag y,ag q,ag y]
    obtain⟨d,g,o,rfl,rfl⟩:=C;rw[Z2]at g;have z:=i9 λe he=>(o e he).bl;show EF X m _ _ _ _ _;have gb:Y7 (Y7 E f (.list (ah (Vh d)))) s1 (.list (ah (Yr Wl))) s1=some (.list (ah (Yr Wl))):=aa ..;generalize PY:Yr Wl=bs at*;have G:TN<=496:=by exact rU 0xffff978f3208f2f16c41 [62,8,496] [_,_,_] [] g (fg u) z
    refine ZJ (VI (M_ (Z4 rfl ⟨s1,_,rfl,gb,?_⟩)));refine p4 [] (Zh (200*bN sc-TN)) (λt=>.int ((TN+t))) (λt l=>aJ "k" (.int ((TN+t))) l) (λO=>true) (λt=>.str (gI (100+((TN+t:U)))++nl)) ⟨rfl,rfl,?_,?_,?_,?_⟩ (gh.Cq YQ k hb rfl D.Ba.1 D.Ba.2 (r3 k hb rm rfl (zZ gb) (by rw[af];exact a9 0x7f2f0e5e1 [496,16777216] [_] [] G) ?_));.decide
    .decide
    .intro q hq;cases hq
    .intro q hq;cases hq
    refine⟨_,rfl,by exact a9 0x1fd3eb30e5e1 [496,1099511627776] [_] [] G,X0 k hb rm hg (mv:=.int ((200*bN sc))) Z_ ⟨_,rfl,by exact a9 0x3fa7d6720e5c1 [200,1099511627776] [_] [] w,?_⟩⟩;have A:(Zh (200*bN sc-TN)).length=200*bN sc-TN:=WW ..;refine⟨by rw[A];(exact cY 0x3711069198a61 [_,_]),λPW x hx=>?_,⟨by rw[A,af];(exact a9 0x3f97c4520e5c1 [200,16777216] [_,_] [] w),λPZ x hx=>UM (.inl rfl),λx hx P6 P7 e=>(by cases e),λPZ i x hx hG=>h_ ⟨rfl,rfl,λO=>?_⟩⟩,?_⟩;.rw[Vr (by have:=(ZN hx).1;rw[A]at this;exact this)]at hx;obtain rfl:=ZW hx;rfl
    . have P0:=WX hx;have hs:SU (100+((TN+x:U))):=by unfold SU;exact cD 0xfff4fac27008df970b511c841 [200,100,1099511627776] [_,_,_] [] P0 w
      refine YU (pa k hb rm (Zu (YU (X2 (Z4 rfl ⟨.int (100+((TN+x:U))),rfl,Y5 ⟨_,Ei hs.log,Wb ⟨_,dN ?_,rfl,rfl⟩⟩⟩)))));show _+1<=_;rw[af];exact a9 0x1fcbe0e0e5e1 [20,16777216] [_] [] (iO hs)
    refine⟨_,ah (i8 TN (bN sc)),gb,?_,?_,rfl,?_⟩;.rw[aF,Ue (λO O=>rfl),ah,i8,Xo];rfl
    .rw[az,az,i8,Z2,A,af];exact cD 0xfff2f8445208b2f165c1 [496,200,16777216] [_,_] [] w G
    rw[show ah bs++ah (i8 TN (bN sc))=ah (du d (bN sc))by simp only[ah,du,PY,ZE],aP];refine EF.fh [(f,ah (Vh d)),(s1,ah (du d (bN sc)))] E (E7 sc (.lst (ah (Vh d))) (.lst (ah (du d (bN sc))))) ?_ (λj P8 e=>?_) (λr hp=>?_) (T d g o);.exact cq (show Y7 (Y7 E f _) s1 _ f=_ by rw[ag s,aa]) (cq (aa ..) jP)
    . have n1:j≠f:=λq=>by rw[q,I]at e;cases e
      have n:j≠s1:=λq=>by rw[q,M]at e;cases e
      exact⟨by rw[ag n,ag n1];exact e,λq=>cq (Q:=λx=>j≠x) n1 (cq n jP) j q rfl⟩
    .exact cq ⟨_,rfl,.refl _⟩ (cq ⟨_,rfl,.refl _⟩ (cq ⟨_,rfl,.refl _⟩ (cq ⟨_,rfl,.ref (hp (f,_) (.head _))⟩ (cq ⟨_,rfl,.ref (hp (s1,_) (.tail _ (.head _)))⟩ jP))))
  refine sp (EV.ER (Tn (Z4 rfl ⟨!(sc.map Uz).isEmpty,by show(if _ then _ else _)=_;exact ZT V,λh=>?_,λh=>?_⟩)));.cases sc with|Yl=>cases h|Zp x P2=>exact pa (q:=.builtin "divmod") k hb rm (Zu (pa (q:=.builtin "abs") k hb rm (Zu (Ys (Z4 rfl (X2 ⟨.int x,lp ..,Y5 ⟨.int (if x<0 then-x else x),by kernel_rfl!,Zu (X2 (Y5 ⟨.tup [.int ((if x<0 then-x else x).fdiv 2),.int ((if x<0 then-x else x).fmod 2)],by kernel_rfl!,by rw[CA,CE];exact BO YQ (.inl rfl) (.inl rfl) N⟩))⟩⟩))))))
  .cases sc with|Zp x P2=>cases h|Yl=>exact X0 k hb rm hg Z_ (BO YQ (.inl rfl) (.inl rfl) N)
def qf(b:J Z)(x:Z):YZ:=decide ((200:Zv)<=(Zw:U))&&decide (((Zw:U):Zv)<100*((b.countP (.==x):U)-1))
def gQ(b:J Z):J Z:=b.filter (qf b)
abbrev Mi(sc:J Zv)(a b:J Z):YV:=[("script",j9 sc),("n",.int (z6 sc:U)),("more",.int (bN sc:U)),("first",ZaE),("second",Zbb),("popular",.lst (ah (gQ b)))]
theorem F8(h:ma a=true):vf c .Mult Zbu ZcN=some (.int (a*b)):=by
 show(if(ma a||ma b)=true then some (Uz (a*b))else none)=_;rw[h];rfl
theorem Dn(hb:Q' NC)(rm:Rm X m (n+1))(c:ZR<=1000)(d:EF X m Zcf (Yk (ic.drop 5) Zcf) (Mi sc f s) E B):EF X m Zcf (Yk (ic.drop 4) Zcf) (E7 sc (.lst (ah f)) (.lst (ah s))) E B:=by
  have hg:∀x,[].contains x=true->(bU pm cd Wv a fa).kindOf x=Zaa:=λx hx=>by simp at hx
  have b:ZR<=ZK:=by rw[af];exact F0 c
  refine ZJ (Zk (p4 [("second",Zal)] s (.str .) (λx l=>aJ "line" (.str x) l) (qf s) (.str .) ⟨rfl,rfl,?_,?_,?_,?_⟩ (p3 YQ (Z4 rfl ⟨rfl,⟨b,λC x hx=>UM (.inl rfl),λx hx=>?_,λC i x hx hG=>?_⟩,?_⟩))) (.inr ⟨rfl,_,rfl,(Xh (by decide:0<2))⟩));.decide
  .decide
  .intro q hq;rcases ZD hq with rfl;rfl
  .intro q hq;rcases ZD hq with rfl;exact⟨rfl,by show some SS≠some Uj;decide,.inl rfl,rfl⟩
  .exact av Z_
  . refine Fl (VS (XC rm (r3 NC hb rm rfl (eA ..) b (X2 ⟨decide ((200:Zv)<=ZR),rfl,⟨λh1=>?_,λh1=>?_⟩⟩))))
    . refine VS (XC rm (YU (X2 (YU (EV.count rm (Z4 rfl ⟨s,rfl,Z4 rfl ⟨x,rfl,?_⟩⟩))))));refine X2 ⟨_,rfl,.int (100*(((s.countP (.==x):U))-1)),?_,?_⟩;.exact F8 Z8
      refine r3 NC hb rm rfl (eA ..) b ⟨decide (((ZR:U))<100*(((s.countP (.==x)):Zv)-1)),rfl,λh2=>?_,λh2=>?_⟩;.refine u_ ⟨rfl,?_,λO=>Z4 rfl ⟨rfl,rfl⟩⟩;unfold qf;rw[h1,h2];rfl
      .refine⟨rfl,?_,λh=>by cases h⟩;unfold qf;rw[h1,h2];rfl
    .refine⟨rfl,?_,λh=>by cases h⟩;unfold qf;rw[h1];rfl
  exact d
def dX(XN g c:J Z):YZ:=!((g.take 1==c.take 1)&&!(c.take 1).isEmpty)&&(g.filter λx=>c.contains x&&!pop.contains x).isEmpty
def cf(XN g c:J Z)(l:Xb):YZ:=VF (λr k g c=>if r.1=("-")then k (g++[r.2]) c else if r.1=("+")then k g (c++[r.2])else dX XN g c&&k [] []) (λO O=>true) g c
theorem fM(XN a c r rs):cf XN a c (r::rs)=if r.1="-"then cf XN (a++[r.2]) c rs else if r.1="+"then cf XN a (c++[r.2]) rs else dX XN a c&&cf XN [] [] rs:=rfl
abbrev w3:J Wa:=bH (ic.getD 6 (.Pass default))
abbrev Ew:J Wa:=bH (w3.getD 5 (.Pass default))
abbrev En(sc:J Zv)(a b XN:J Z)(s:Y9)(d t:MV)(H':Xb)(g c:MV):YV:=[("script",j9 sc),("n",.int (z6 sc:U)),("more",.int (bN sc:U)),("first",ZaE),("second",Zbb),("popular",Zb2),("seen",.ref s),("around",d),("told",t),("rows",aS H'),("goes",g),("comes",c)]
theorem rI(x:Z)(y:Z)(ys:J Z):(y::ys).contains x=(y==x||ys.contains x):=by rw[Wr,Bool.beq_comm]
theorem mG(x:Z):∀c:J Z,jE (.str x) (ah c)=some (c.contains x):=by
 intro I;induction I with
 |Yl=>exact rfl|Zp y ys d=>
  rw[rI];show(some (y==x)).bind (λa=>(jE (.str x) (ah ys)).bind λb=>some (a||b))=_;rw[d];rfl
theorem BS{α:Type}[BEq α]{f:α->MV}(k:∀x y,eq1 (f x) (f y)=some (x==y)):∀(a b:J α),ZC=Zw->all2 eq1 (Ti f) (hu f)=some (a==b):=by
 intro a;induction a with
 |Yl=>intro b h;cases b with|Yl=>rfl|Zp y ys=>cases h
 |Zp x c I=>intro b h;cases b with|Yl=>cases h|Zp y ys=>
  show(eq1 (f x) (f y)).bind (λa=>(all2 eq1 (c.map f) (ys.map f)).bind λb=>some (a&&b))=_;rw[I ys (x_ h),k];rfl
theorem CZ{α:Type}[BEq α][LawfulBEq α]{a b:J α}(h:ZC≠Zw):(a==b)=false:=by rw[Uu];intro q;rw[q]at h;exact h rfl
theorem xg{α:Type}[BEq α][LawfulBEq α]{f:α->MV}(k:∀x y,eq1 (f x) (f y)=some (x==y))(a b:J α):Dr (Ti f) (hu f)=some (a==b):=by
 unfold Dr;rw[Z2,Z2];by_cases h:ZC=Zw;.rw[ZT h,BS k a b h]
 .rw[ZY h,CZ h]
theorem DB(x y:Z×Z):eq1 (aZ x) (aZ y)=some (x==y):=by
 show some (_&&(_&&true))=some _;rw[Bool.and_true]at⊢;rfl
theorem gJ(G:GH)(a b:J Z):yg G ZaE Zbb=some (a==b):=by
 show(match cg G ZaE,cg G Zbb with|some x,some ys=>Dr x ys|_,_=>none)=_;rw[aF,aF];exact xg (λO O=>rfl) a b
theorem Ar(G:GH)(a b:Xb):yg G (aS a) (aS b)=some (a==b):=by
 show(match cg G (aS a),cg G (aS b)with|some x,some ys=>Dr x ys|_,_=>none)=_;rw[aS,aS,aF,aF];exact xg DB a b
theorem EB.M2(h:EV X m Zn (ZH a Zn) o E λx c=>EV X m Zn (ZH b Zn) o c λy G=>∃p q,x=.bool p/\y=.bool q/\Nj (p !=q) G)(hm:Z3 (OU .NotEq b=false) aW):EB X m Zn (XE (.Compare a [.NotEq] [b] Ym) Zn Up) o E Nj:=λt s S=>wpAny_isTrue_Compare1 (W1 S λu w z x c d r e k=>k.use e λf A B y G g i j l=>by
  walk_at"a";clear k;obtain⟨p,q,rfl,rfl,n⟩:=l;rw[UZ];rw[i.raw];exact ne_bool (UN ⟨f,G,d.trans g,j,n⟩)) hm
theorem take1(g:J Z):cF (ah g) none (some (1:Zv))=ah (g.take 1):=by rw[show(1)=(1:Zv)from rfl,iS,ah,ah,List.map_take]
theorem yq{r:Z×Z}(hb:Q' NC)(rm:Rm X m (n+1))(j:Yc<=100000)(p:Zw<=100000)(f:dX XN d b=true)(u:∀x y c,E x=none->E y=none->x≠y->N' (En sc s F XN M a S H' (.ref x) (.ref y)) c->B .next c (Y7 (Y7 E x (.list (ah []))) y (.list (ah [])))):EF X m (bU pm cd Wv k fa) (Yk (IW 1 ((IW 1 (Ew.getD 0 (.Pass default))).getD 0 (.Pass default))) (bU pm cd Wv k fa)) (aJ "line" (.str r.2) (aJ "sign" (.str r.1) (En sc s F XN M a S H' (.lst (ah d)) (.lst (ah b))))) E B:=by
  have hg:∀x,[].contains x=true->(bU pm cd Wv k fa).kindOf x=Zaa:=λx hx=>by simp at hx
  have z1:(ah d).length<=ZK:=by rw[az,af];exact O8 j
  have z2:(ah b).length<=ZK:=by rw[az,af];exact O8 p
  walk_at"d";unfold dX at f;rw[YM,G0]at f;obtain⟨h1,h2⟩:=f;refine ZJ (XF (EB.mono (Nj:=λt i=>t=false/\i=E) ?_ λt i q=>?_))
  . refine EB.CV (EB.mono (Nj:=λt i=>t=false/\i=E) ?_ λt i q=>?_);.refine EB.JX rm (u0 (Z4 rfl (SN (U2 (X2 ⟨_,rfl,_,aF ..,z1,?_⟩)))));rw[take1];walk_at"K";refine u0 (Z4 rfl (SN (U2 (X2 ⟨_,rfl,_,aF ..,z2,?_⟩))));rw[take1];refine⟨S5 1==b.take 1,gJ E _ _,λO=>⟨rfl,rfl⟩,λh=>?_⟩;rw[h,o_]at h1;refine X0 NC hb rm hg (mv:=.lst (ah [])) Z_ ⟨!(b.take 1).isEmpty,?_,h1,rfl⟩;cases b.take 1<;>rfl
    . obtain⟨rfl,rfl⟩:=q;walk_at"a9";refine⟨λO=>EB.CV (XC rm (p4 [("comes",Zbb),("popular",Zb2)] d (.str .) (λx l=>aJ "one" (.str x) l) (λx=>b.contains x&&!pop.contains x) (.str .) ⟨rfl,rfl,?_,?_,?_,?_⟩ (p3 YQ (Z4 rfl ⟨rfl,⟨by rw[af];(exact O8 j),λC x hx=>UM (.inl rfl),λx hx=>?_,λC i x hx hG=>?_⟩,?_⟩)))),λh=>by cases h⟩;.decide
      .decide
      .intro q hq;simp only[XW,YL,Vt]at hq;rcases hq with rfl|rfl<;>rfl
      .intro q hq;simp only[XW,YL,Vt]at hq;rcases hq with rfl|rfl<;>exact(andI3 rfl (by show some SS≠some Uj;decide) ⟨.inl rfl,rfl⟩)
      .exact av Z_
      . refine Fl (VS (XC rm (Z4 rfl (Z4 rfl ⟨b.contains x,?_,λe=>?_,λe=>?_⟩))));.show(cg i Zbb).bind (jE (.str x))=_;rw[aF];exact mG x b
        . refine VS (XC rm (Z4 rfl (Z4 rfl ⟨!pop.contains x,?_,λg=>?_,λg=>?_⟩)));.show((cg i Zb2).bind (jE (.str x))).map (!.)=_;show(jE (.str x) (ah XN)).map (!.)=_;rw[mG];rfl
          .exact u_ ⟨rfl,by rw[e,g];rfl,λO=>Z4 rfl ⟨rfl,rfl⟩⟩
          .exact⟨rfl,by rw[e,g];rfl,λh=>by cases h⟩
        .exact⟨rfl,by rw[e];rfl,λh=>by cases h⟩
      refine X0 NC hb rm hg (mv:=.lst (ah [])) Z_ ⟨false,?_,λO=>EB.Jx ⟨rfl,rfl⟩,λh=>by cases h⟩;rw[List.isEmpty_iff.mp h2];exact Zq (U5 (!.)) (gJ i [] [])
  rw[q.1,q.2];refine⟨λh=>(by cases h),λO=>YW ?_⟩;refine Sx (sp (TL (Zu (VX (Y5 ⟨by decide,λx hx=>Zu (VX (Y5 ⟨by decide,λy hy=>Y5 ⟨(by decide:2<=ZK),BO YQ (.inl rfl) (.inr ⟨rfl,_,rfl,(Xh (by decide:0<3))⟩) ?_⟩⟩))⟩)))));have o:x≠y:=by
    intro w;subst w;rw[aa]at hy;cases hy
  exact u x y _ hx (by rw[ag o.symm]at hy;exact hy) o Zb3
theorem DU(h:(NV.map aZ)[j]?=ZaB):∃r,NV[j]?=Za2/\a=aZ r:=by
 walk_at"b";rw[Zy]at h;obtain⟨r,hr,e⟩:=Y3 h;exact⟨r,hr,h4⟩
theorem C9{α:Type}{x:J α}{a:α}(h:x[b]?=ZaB):x.drop b=a::x.drop (b+1):=by
 rw[XB ((ZN h).1)];rw[(ZN h).2]
theorem A5(hb:Q' NC)(rm:Rm X m (P6+1))(w:rows.length<=50000)(PR:cf XN [] [] (H'++[((" "),(""))])=true)(hx:E x=none)(hy:E b=none)(k:x≠b)(PX:∀c i,Wy E i->(∃C y,N' (En sc s n XN u a F H' (.ref C) (.ref y)) c)->B .next c i):EF X m (bU pm cd Wv PS fa) (Yk (w3.drop 5) (bU pm cd Wv PS fa)) Zc5 (Y7 (Y7 E x (.list (ah []))) b (.list (ah []))) B:=by
  walk_at"G";have hg:∀x,[].contains x=true->(bU pm cd Wv PS fa).kindOf x=Zaa:=λx hx=>by simp at hx
  have ext2:∀{x b:Y9}{o PY:MO},E x=none->E b=none->Wy E (Y7 (Y7 E x o) b PY):=λhx hy p o e=>by rw[ag (λq=>by rw[q,hy]at e;cases e),ag (λq=>by rw[q,hx]at e;cases e)];exact e
  generalize PT:H'++[((" "),(""))]=all at PR;have z:all.length=rows.length+1:=by rw[<-PT];simp
  let PZ:U->YV->GH->Prop:=λj l i=>∃x b g d,E x=none/\E b=none/\x≠b/\i=Y7 Zba b Zcq/\l=En sc s n XN u a F H' ZaK ZaQ/\cf XN g d (all.drop j)=true/\K1+Yc<=j;refine Sx (q' YQ PZ ?_);walk_at"ba";refine YU (Z4 rfl (Uw (Zu (TL (Zu (Wb (Zu (Wb (Y5 ⟨ym,Y5 ⟨FR,.lst (all.map aZ),?_,_,En sc s n XN u a F H' ZaK ZaQ,rfl,(exI4 x b ([]) ([]) ⟨hx,hy,k,rfl,rfl,PR,ZV _⟩),?_,λj P7 l i hm D=>?_,λl i D=>?_⟩⟩)))))))));.exact(gj (aF ..) (aF ..) (by rw[Z2,af];exact a9 0x7f2f841cd0e5e1 [50000,16777216] [_] [] w)).trans (by rw[<-PT,ZE];rfl)
  .exact av Z_
  rotate_left;.obtain⟨x,b,g,d,hx,hy,k,rfl,rfl,_,_⟩:=D;exact PX _ _ (ext2 hx hy) (Vo x b (av Z_))
  obtain⟨x,b,g,d,hx,hy,k,rfl,rfl,hr,t⟩:=D;walk_at"bb";obtain⟨f,PW,YA⟩:=DU hm;rw[YA];have A:=(ZN PW).1;rw[C9 PW]at hr;have G:Y7 Zba b Zcq x=some (.list (ah g)):=by rw[ag k,aa]
  have I:Y7 Zba b Zcq b=some Zcq:=aa ..;refine BO YQ (.inl rfl) (.inl rfl) ?_;generalize P0:Ex _ _=P2;have N:∀x b g d c,E x=none->E b=none->x≠b->cf XN g d (all.drop (j+1))=true->K1+Yc<=j+1->N' Zc5 c->P2 .next c (Y7 Zba b (.list (ah d))):=by
    intro x b g d c h1 h2 M Q S T;subst P0;walk_at"bc";exact⟨_,⟨x,b,g,d,h1,h2,M,rfl,rfl,Q,S⟩,T⟩
  refine Sx (XF (SV NC hb rm hg (c:=f.1=="-") Z_ ⟨λh=>?_,λh=>?_⟩))
  . have V:f.1="-":=by exact Zi h
    walk_at"d";rw[fM,ZT V]at hr;walk_at"d";refine Sx (VI (W4 (Z4 rfl ⟨x,_,rfl,G,Z4 rfl ⟨_,G,?_,rfl,?_⟩⟩)));.rw[az,af];exact pk 0x7ffffe5e1cbcbb838a4d10791c041 [50000,16777216] [_,_,_,_,_] [] t A z w
    . have:=N x b (g++[f.2]) d ([("script",j9 sc),("n",.int (z6 sc:U)),("more",.int (bN sc:U)),("first",Zal),("second",.lst (ah n)),("popular",Zb2),("seen",Zbg),("around",a),("told",F),("rows",aS H'),("goes",ZaK),("comes",ZaQ),("sign",.str f.1),("line",.str f.2)]) hx hy k hr (by rw[Z1,YY];exact aV 0x7f3070e02838391c041 [_,_,_] t) Zb3;rw[gU]at this;have e:Y7 (Y7 Zba b (.list (ah d))) x (.list (ah g++[.str f.2]))=Y7 (Y7 E x (.list (ah g++[.str f.2]))) b Zcq:=funext λp=>by
        clear hx hy;by_cases q:p=x;.rw[q];rw[aa,ag k,aa]
        . rw[ag q];clear hy k;by_cases PM:p=b;.rw[PM];rw[aa,aa]
          .rw[ag PM,ag PM,ag q,ag q]
      rw[e];exact this
  refine Sx (XF (SV NC hb rm hg (c:=f.1=="+") Z_ ⟨λh2=>?_,λh2=>?_⟩))
  . have PN:¬f.1="-":=by simpa using h
    have V:f.1="+":=by exact Zi h2
    rw[fM,ZY PN,ZT V]at hr;refine Sx (VI (W4 (Z4 rfl ⟨b,_,rfl,I,Z4 rfl ⟨_,I,?_,rfl,?_⟩⟩)));.rw[az,af];exact pk 0x7ffffe5e2cbcbb838a4d10791c041 [50000,16777216] [_,_,_,_,_] [] t A z w
    .have:=N x b g (d++[f.2]) ([("script",j9 sc),("n",.int (z6 sc:U)),("more",.int (bN sc:U)),("first",Zal),("second",.lst (ah n)),("popular",Zb2),("seen",Zbg),("around",a),("told",F),("rows",aS H'),("goes",ZaK),("comes",ZaQ),("sign",.str f.1),("line",.str f.2)]) hx hy k hr (by rw[Z1,YY];exact aV 0x7f3070e10708391c041 [_,_,_] t) Zb3;rw[gU]at this;rw[aP];exact this
  have PN:¬f.1="-":=by simpa using h
  have P4:¬f.1="+":=by simpa using h2
  rw[fM,ZY PN,ZY P4,YM]at hr;walk_at"d";refine EF.fh [(x,ah g),(b,ah d)] E (aJ "line" (.str f.2) (aJ "sign" (.str f.1) (En sc s n XN u a F H' (.lst (ah g)) (.lst (ah d))))) ?_ (λp o e=>?_) (λr hp=>?_) (yq hb rm (pk 0x7ffffe5e1cbcbb838a4d10791c041 [50000,100000] [_,_,_,_,_] [] t A z w) (pk 0x7ffffe5e2cbcbb838a4d10791c041 [50000,100000] [_,_,_,_,_] [] t A z w) hr.1 λC y c M Q S T=>N C y [] [] c M Q S hr.2 (Zf _) T);.exact cq G (cq I jP)
  .exact⟨ext2 hx hy p o e,λq=>cq (Q:=λx=>p≠x) (by intro P5;subst P5;exact f' e hx rfl) (cq (f' e hy) jP) p q rfl⟩
  .show∀P8∈([("script",j9 sc),("n",.int (z6 sc)),("more",.int (bN sc)),("first",Zal),("second",.lst (ah n)),("popular",Zb2),("seen",Zbg),("around",a),("told",F),("rows",aS H'),("goes",.lst (ah g)),("comes",.lst (ah d)),("sign",.str f.1),("line",.str f.2)]:YV),_;exact cq ⟨_,rfl,.refl _⟩ (cq ⟨_,rfl,.refl _⟩ (cq ⟨_,rfl,.refl _⟩ (cq ⟨_,rfl,.refl _⟩ (cq ⟨_,rfl,.refl _⟩ (cq ⟨_,rfl,.refl _⟩ (cq ⟨_,rfl,.refl _⟩ (cq ⟨_,rfl,.refl _⟩ (cq ⟨_,rfl,.refl _⟩ (cq ⟨_,rfl,.refl _⟩ (cq ⟨_,rfl,.ref (hp (x,_) (.head _))⟩ (cq ⟨_,rfl,.ref (hp (b,_) (.tail _ (.head _)))⟩ (cq ⟨_,rfl,.refl _⟩ (cq ⟨_,rfl,.refl _⟩ jP)))))))))))))
def cJ(H':Xb):J Z:=(rows.filter λr=>!(r.1==("+"))).map (·.2)
def RH(H':Xb):J Z:=(rows.filter λr=>!(r.1==("-"))).map (·.2)
structure TurnOk(s a:J Z)(nn:U)(t:J Z)(d:J Hk):Prop where
 join:JoinOk "" t=true
 size:(R0 "" t).length<=10000000
 read:rp s (Sj (R0 "" t) ("\n")) d
 sign:∀r∈ba s d,r.1=("-")\/r.1=("+")\/r.1=(" ")
 JV:(ba s d).length<=10000
 rl:∀r∈ba s d,r.2.length<=1000
 old:cJ (ba s d)=s
 new:RH (ba s d)=a
 aL:t=vx (ba s d) nn
 none:(t==[])=(s==a)
 runs:cf (gQ a) [] [] (ba s d++[((" "),(""))])=true
abbrev GQ(sc:J Zv)(a b XN:J Z)(s:Y9):YV:=[("script",j9 sc),("n",.int (z6 sc:U)),("more",.int (bN sc:U)),("first",ZaE),("second",Zbb),("popular",Zb2),("seen",.ref s)]
theorem law_side(hb:Q' NC)(rm:Za3)(hl:Yb ("rows")=some (aS NV))(c:NV.length<=100000)(hx:Yb x=some ZaE)(d:(x=="__classdict__")=false)(qM:(x=="__debug__")=false)(he:(NV.filter λr=>!(r.1==s)).map (·.2)=a)(k:Nj false E)(my:qz Zn X1 [] o [])(st:∀C,aM (S0 X1 [] C Zn) "sign"/\aM (S0 X1 [] C Zn) "line"):EB X m Zn (XE (.Compare (.ListComp (.Name "line" p1) [⟨.Tuple [.Name "sign" p2,.Name "line" l] j1 q,.Name "rows" u,[.Compare (.Name "sign" F) [.NotEq] [.Constant (.str s) M S] T],0⟩] X1 V) [.NotEq] [.Name x PM] PN) Zn Up) o E Nj:=by
  refine XC rm (p4 [] NV aZ (λr o=>aJ "line" (.str r.2) (aJ "sign" (.str r.1) o)) (λr=>!(r.1==s)) (λr=>.str r.2) my (p3 YQ (Z4 hl ⟨rfl,⟨by rw[af];(exact O8 c),λC r hr=>(bk YQ (st C).1 (st C).2).gA,λr hr x g e=>(by exact ax e),λC i r hr hG=>?_⟩,?_⟩)))
  . refine Fl (SV NC hb rm (gl:=[]) (λf b=>by simp at b) ?_ ⟨rfl,rfl,λO=>X0 NC hb rm (gl:=[]) (λf b=>by simp at b) ?_ ⟨rfl,rfl⟩⟩);.rfl
    .rfl
  . have e1:(NV.filter λr=>!(r.1==s)).map (λr=>MV.str r.2)=ah a:=by rw[<-he,ah,Xo];rfl
    rw[e1];refine Z4 hx ⟨false,?_,k⟩ d qM;show(yg E ZaE ZaE).map (!.)=_;rw[gJ];simp
theorem tZ(D:Zdh)(hb:ZcS)(A:VY "zip"=none/\U9 "zip"=Zbl)(C:lq X b 14 .none .none)(Rd:lq X b 15 .none .none)(rm:Rm X m (n+2))(T:TurnOk a s nn f d)(g:E k=some (.list u))(F:u.length<=10)(o:∀c i,Wy (Y7 E k (.list (u++[aS (ba a d)]))) i->N' (GQ sc a s (gQ s) k) c->B .next c i):EF X m (bU pm cd Wv l fa) (Yk w3 (bU pm cd Wv l fa)) (aJ "told" ZcB (aJ "around" (.int nn) (GQ sc a s (gQ s) k))) E B:=by
  walk_at"d";have hg:∀x,([]:J Z).contains x=true->(bU pm cd Wv l fa).kindOf x=Zaa:=λx hx=>by simp at hx
  have r:Rm X m (n+1):=rm.le (fA 0x660f0c1c1 [2] [_] []);refine ZJ (Zk (s_ b rfl Rd.gl Rd.fn.get Rd.fn.nt rfl ?_) (.inl rfl));walk_at"B";refine Zu (EV.join (Wb ⟨_,rfl,Z4 rfl ⟨f,rfl,T.join,?_⟩⟩));walk_at"m";refine Zu (Z4 rfl (Y5 (y6 Rd.fn D hb A rm T.size T.read ?_)));have t1:=T.sign;have t2:=T.JV;have t3:=T.rl;have t4:=T.old;have t5:=T.new;have I:=T.aL;have M:=T.runs;have N:=T.none;generalize ba a d=H' at*;refine ZJ (VI (W4 (Z4 rfl ⟨k,_,rfl,g,Z4 rfl ⟨_,g,by rw[af];(exact a9 0x7f2f0e5e1 [10,16777216] [_] [] F),rfl,?_⟩⟩)));generalize Y7 E k (.list (u++[aS H']))=Q at o;refine ZJ (XF (EB.mono (Nj:=λt i=>t=false/\i=Q) ?_ λt i q=>?_))
  . refine EB.CV (law_side hb rm rfl (JM t2) rfl rfl rfl t4 ?_ ⟨rfl,rfl,?_,?_,?_,?_⟩ λS=>⟨.inl rfl,.inl rfl⟩)
    . refine⟨λO=>EB.CV (law_side hb rm rfl (JM t2) rfl rfl rfl t5 ⟨λO=>EB.Jx ⟨rfl,rfl⟩,λh=>by cases h⟩ ⟨rfl,rfl,?_,?_,?_,?_⟩ λS=>⟨.inl rfl,.inl rfl⟩),λh=>by cases h⟩;.decide
      .decide
      .intro q hq;cases hq
      .intro q hq;cases hq
    .decide
    .decide
    .intro q hq;cases hq
    .intro q hq;cases hq
  obtain⟨rfl,rfl⟩:=q;refine⟨λh=>(by cases h),λO=>YW ?_⟩;refine ZJ (XF (EB.mono (Nj:=λt G=>t=false/\G=i) ?_ λt G q=>?_))
  . refine EB.CV (XC rm (Z4 rfl (s_ b rfl C.gl C.fn.get C.fn.nt rfl ?_)));refine Zu (Z4 rfl (Zu (Z4 rfl (Y5 (B0 D C.fn hb rm t1 t2 t3 (SI nn) ⟨false,?_,?_⟩)))));.show(yg i ZcB (.lst (ah (vx H' nn)))).map (!.)=_;rw[gJ,I];simp
    . refine⟨λO=>EB.CV (EB.M2 (EV.cmp rm (X0 b hb rm hg Z_ (X0 b hb rm hg Z_ ⟨f==[],gJ i _ _,?_⟩)))),λh=>by cases h⟩;refine EV.cmp rm (Z4 rfl (Z4 rfl ⟨a==s,gJ i _ _,f==[],a==s,rfl,rfl,?_⟩));have e:((f==[])!=(a==s))=false:=by rw[N];simp
      rw[e];exact⟨λO=>EB.Jx ⟨rfl,rfl⟩,λh=>by cases h⟩
  obtain⟨rfl,rfl⟩:=q;refine⟨λh=>(by cases h),λO=>YW ?_⟩;refine ZJ (sp (TL (Zu (VX (Y5 ⟨by decide,λx hx=>Zu (VX (Y5 ⟨by decide,λy hy=>Y5 ⟨(by decide:2<=ZK),BO YQ (.inl rfl) (.inr ⟨rfl,_,rfl,(Xh (by decide:0<3):l<l+3)⟩) ?_⟩⟩))⟩)))));have p:x≠y:=by
    intro V;subst V;rw[aa]at hy;cases hy
  refine A5 hb r (H':=H') (by exact a9 0x7f2f0e5e1 [10000,50000] [_] [] t2) M hx (by rw[ag p.symm]at hy;exact hy) p λc i PM j=>?_;obtain⟨PN,PR,j⟩:=j;refine o c _ PM λz w e=>j z w ?_;exact(show N' (GQ sc a s (gQ s) k) (En sc a s (gQ s) k (.int nn) (.lst (ah f)) H' (.ref PN) (.ref PR))from av Z_) z w e
theorem fD(a b:Xb):cJ (a++b)=cJ a++cJ b:=by unfold cJ;rw[VL,ZE]
theorem jt(a b:Xb):RH (a++b)=RH a++RH b:=by unfold RH;rw[VL,ZE]
variable{PH:Z×Z->YZ}
theorem rf(h:∀x,PH (s,x)=true):((k' λx=>(s,x)).filter PH).map (·.2)=t:=by
 rw[Ue (λr hr=>by obtain⟨x,_,rfl⟩:=Zl hr;exact h x),Xo];exact List.map_id t
theorem of_none(h:∀x,PH (s,x)=false):((k' λx=>(s,x)).filter PH).map (·.2)=[]:=by
 rw[List.filter_eq_nil_iff.mpr (λr hr=>by obtain⟨x,_,rfl⟩:=Zl hr;rw[h x];decide)];rfl
theorem fV(i:J Z):cJ (XO i)=i:=rf λx=>by show(!(" "==("+")))=true;decide+kernel
theorem jU(i:J Z):RH (XO i)=i:=rf λx=>by show(!(" "==("-")))=true;decide+kernel
theorem pO(c:cp):cJ (aU c)=c.1++c.2.2:=by
 rw[fD,fD,fV];have h1:cJ (c.1.map λx=>("-",x))=c.1:=rf λx=>by show(!("-"==("+")))=true;decide+kernel
 have h2:cJ (c.2.1.map λx=>("+",x))=[]:=of_none λx=>by show(!("+"==("+")))=false;decide+kernel
 rw[h1,h2,Zm]
theorem pV(c:cp):RH (aU c)=c.2.1++c.2.2:=by
 rw[jt,jt,jU];have h1:RH (c.1.map λx=>("-",x))=[]:=of_none λx=>by show(!("-"=="-"))=false;decide+kernel
 have h2:RH (c.2.1.map λx=>("+",x))=c.2.1:=rf λx=>by show(!("+"=="-"))=true;decide+kernel
 rw[h1,h2,Yi]at⊢
theorem gL(rs:Xb):(cJ rs).length=WR rs:=by
 unfold cJ WR;rw[Z2,Vv]
theorem lH(rs:Xb):(RH rs).length=Wz rs:=by
 unfold RH Wz;rw[Z2,Vv]
theorem kA(rs:Xb)(h:∀r∈rs,r.1="-"\/r.1="+"\/r.1=" "):Zc<=WR rs+Wz rs:=by induction rs with|Yl=>exact Zf _|Zp r rs i=>
    have:1<=WR [r]+Wz [r]:=by
      rcases h r (.head _)with e|e|e
      . have:WR [r]=1:=by unfold WR;rw[P_,e];decide+kernel
        exact aV 0x1fcc04176dc1 [_,_] this
      . have:Wz [r]=1:=by unfold Wz;rw[P_,e];decide+kernel
        exact aV 0x1fcc02276dc1 [_,_] this
      . have:Wz [r]=1:=by unfold Wz;rw[P_,e];decide+kernel
        exact aV 0x1fcc02276dc1 [_,_] this
    exact FV 0x7ffffe6051c1c7cc0c43ee0611770204798082e [_,_,_,_,_,_,_] this (cT [r] rs) (dB [r] rs) (i λx hx=>h x (ZX _ hx))
theorem nU(k0:J Z)(cs:Zb8):∀r∈au k0 cs,r.1="-"\/r.1="+"\/r.1=" ":=by
  intro r hr;have k:∀i:J Z,r∈XO i->r.1=" ":=λi h=>by obtain⟨x,_,rfl⟩:=Zl h;rfl
  rcases ZM hr with hr|hr;.exact .inr (.inr (k _ hr))
  . obtain⟨c,_,hr⟩:=WL hr;rcases ZM hr with hr|hr
    . rcases ZM hr with hr|hr;.obtain⟨x,_,rfl⟩:=Zl hr;exact .inl rfl
      .obtain⟨x,_,rfl⟩:=Zl hr;exact .inr (.inl rfl)
    .exact .inr (.inr (k _ hr))
theorem Gz:∀(hs:J Hn)(tl:J Z)(a:Xb)(o:U),(∀h∈hs,qS h)->Ta o=cJ (bf (hs,tl))->∃c,(vI o hs).foldl (lr b) (a,o)=(a++hs.flatMap (λh=>XO h.s++X4),c)/\Ta c=tl:=by
 intro I;induction I with
 |Yl=>
  intro tl a o _ h;refine⟨o,by rw[Xj,Zm];rfl,?_⟩;rw[h];exact fV tl|Zp h r g=>
  intro tl a o d e;walk_at"b";have i:=d h (.head _);have e1:cJ (bf (h::r,tl))=h.s++(cJ X4++cJ (bf (r,tl))):=by
   unfold bf;rw[Zz,ZQ,fD,fD,fV,ZQ]
  rw[e1]at e;have e2:lr b (a,o) (o+Y6,bg false "-" zx RY,bg true "+" zx RY)=(a++(XO h.s++X4),o+Y6+WR X4):=by
   have t1:(Ta o).take (o+Y6-o)=h.s:=by rw[e,Wm,List.take_left]
   show((a++XO ((Ta o).take (o+Y6-o)))++UH (bg false "-" zx RY) (bg true "+" zx RY),o+Y6+(bg false "-" zx RY).length)=_;rw[t1,(pJ ..),vp pK qj zx RY i.ok,ZQ];rfl
  have j:Ta (o+Y6+WR X4)=cJ (bf (r,tl)):=by rw[<-H4,<-H4,e,List.drop_left,<-gL,List.drop_left]
  obtain⟨c,f,k⟩:=g tl (a++(XO h.s++X4)) (o+Y6+WR X4) (λx hx=>d x (ZX _ hx)) j;refine⟨c,?_,k⟩;rw[UQ,e2,f,Zz,ZQ]
theorem Di(a:∀h∈hs,qS h)(e:s=cJ (bf (hs,tl))):ba s (vI 0 hs)=bf (hs,tl)/\(cM s (vI 0 hs)).1.length<=(bf (hs,tl)).length:=by
 obtain⟨o,f,b⟩:=Gz hs tl [] 0 a (b:=s) (by rw[Uo];exact e);unfold ba cM;rw[f];unfold bf;refine⟨?_,?_⟩;.rw[Yi,b]at⊢
 .rw[Yi,Z1]at⊢;exact WN _ _
theorem Dg(s:J Z):∀(d:J Hk)(st:Xb×U),st.1.length<=(d.foldl (lr s) st).1.length:=by
 intro I;induction I with
 |Yl=>
  intro _;exact ZV _|Zp b d a=>
  intro st;refine YX ?_ (a _);rw[Z1,Z1];exact cY 0x660380821 [_,_,_]
theorem DD(s:J Z)(d:J Hk)(j:U):(cM s (S5 j)).1.length<=(cM s d).1.length:=by
 have:cM s d=(d.drop j).foldl (lr s) (cM s (S5 j)):=by
  unfold cM;rw[<-WV,XJ]
 rw[this];exact Dg s _ _
theorem vF:∀(hs:J Hn)(tl:J Z),kr hs<=WR (bf (hs,tl)):=by
 intro I;induction I with
 |Yl=>
  intro _;exact Zf _|Zp h r a=>
  intro tl;have:WR (bf (h::r,tl))=Y6+WR X4+WR (bf (r,tl)):=by
   unfold bf;rw[Zz,ZQ,cT,cT,jw]
  rw[k7,this];exact aV 0x7f3010e011e441 [_,_,_] (a tl)
def fu(c:cp):Z:=if c.1≠[]/\c.2.1≠[]then"replace"else if c.1≠[]then"delete"else"insert"
def dH(i j:U)(c:cp):Op:=(fu c,i,i+c.1.length,j,j+c.2.1.length)
def bE(i j k:U):Op:=(("equal"),i,i+k,j,j+k)
structure nx(a b:J Z)(i j:U)(c:cp):Prop where
 ga:(IC i).take c.1.length=c.1
 gb:(Ta j).take c.2.1.length=c.2.1
 ka:(IC (i+c.1.length)).take c.2.2.length=c.2.2
 kb:(Ta (j+c.2.1.length)).take c.2.2.length=c.2.2
def aH(a b:J Z)(i j:U)(cs:Zb8)(os:ZbO):Prop:=cs.rec (motive:=λ_=>U->U->J Op->Prop) (λ_ _ os=>os=[]) (λc _ R i j os=>nx a b i j c/\((∃l,R (i+c.1.length+c.2.2.length) (j+c.2.1.length+c.2.2.length) l/\os=dH i j c::bE (i+c.1.length) (j+c.2.1.length) c.2.2.length::l)\/c.2.2=[]/\∃l,R (i+c.1.length) (j+c.2.1.length) l/\os=dH i j c::l)) i j os
theorem aH.nil:aH t e j p [] []:=rfl
variable{Nf:ZbO}
theorem aH.eq(h:nx t e j p Nq)(r:aH t e (j+Nq.1.length+Nq.2.2.length) (p+Nq.2.1.length+Nq.2.2.length) Nl Nf):aH t e j p (Nq::Nl) (dH j p Nq::bE (j+Nq.1.length) (p+Nq.2.1.length) Nq.2.2.length::Nf):=⟨h,.inl ⟨Nf,r,rfl⟩⟩
theorem aH.ne(h:nx t e j p Nq)(a:Nq.2.2=[])(r:aH t e (j+Nq.1.length) (p+Nq.2.1.length) Nl Nf):aH t e j p (Nq::Nl) (dH j p Nq::Nf):=⟨h,.inr ⟨a,Nf,r,rfl⟩⟩
theorem aH.nl(h:aH t e j p [] Nf):Nf=[]:=h
@[elab_as_elim]theorem aH.inv{a:ZbO->Prop}(h:aH t e j p (Nq::Nl) Nf)(eq:∀Nf,nx t e j p Nq->aH t e (j+Nq.1.length+Nq.2.2.length) (p+Nq.2.1.length+Nq.2.2.length) Nl Nf->a (dH j p Nq::bE (j+Nq.1.length) (p+Nq.2.1.length) Nq.2.2.length::Nf))(ne:∀Nf,nx t e j p Nq->Nq.2.2=[]->aH t e (j+Nq.1.length) (p+Nq.2.1.length) Nl Nf->a (dH j p Nq::Nf)):a Nf:=h.2.elim (λx=>Vn λl y=>y.2▸eq l h.1 y.1) λx=>x.2.elim λl y=>y.2▸ne l h.1 x.1 y.1
@[elab_as_elim]theorem nv{a:U->U->J cp->J Op->Prop}(Yl:∀j p,a j p [] [])(eq:∀j p c Nl Nf,nx t e j p c->aH t e (j+c.1.length+c.2.2.length) (p+c.2.1.length+c.2.2.length) Nl Nf->a (j+c.1.length+c.2.2.length) (p+c.2.1.length+c.2.2.length) Nl Nf->a j p (c::Nl) (dH j p c::bE (j+c.1.length) (p+c.2.1.length) c.2.2.length::Nf))(ne:∀j p c Nl Nf,nx t e j p c->c.2.2=[]->aH t e (j+c.1.length) (p+c.2.1.length) Nl Nf->a (j+c.1.length) (p+c.2.1.length) Nl Nf->a j p (c::Nl) (dH j p c::Nf))(h:aH t e j p Nl Nf):a j p Nl Nf:=by induction Nl generalizing j p Nf with|Yl=>exact h.nl▸Yl j p|Zp c Nl i=>exact h.inv (λNf hl r=>eq j p c Nl Nf hl r (i r)) λNf hl b r=>ne j p c Nl Nf hl b r (i r)
theorem Gg(c:cp):(fu c=="equal")=false:=by
 unfold fu;refine bQ rfl (λO=>?_) λO=>?_;.decide+kernel
 .split<;>decide+kernel
theorem bT:("replace")≠"insert"/\("replace")≠"delete"/\("replace")≠"equal"/\("delete")≠"insert"/\("delete")≠"equal"/\("insert")≠"equal":=by refine⟨?_,?_,?_,?_,?_,?_⟩<;>(rw[Ne,ay];decide)
theorem xN(c:cp):u7 (fu c):=by
  unfold fu;refine bQ rfl (λO=>?_) λO=>?_;.exact .inr (.inr (.inl rfl))
  . refine bQ rfl (λO=>?_) λO=>?_;.exact .inr (.inl rfl)
    .exact .inl rfl
theorem ji(skip:Z)(l:J Z)(s:Op->U×U)(o:Op)(g:ZbO):IA skip l s (o::g)=(if o.1=skip then[]else((vi (s o).1).take ((s o).2-(s o).1)).map (pF o.1++.))++IA skip l s g:=rfl
theorem CH:pF "equal"="  ":=by
 unfold pF;rw[ZY (Zg bT.2.2.2.2.2),ZY (Zg bT.2.2.2.2.1),ZY (Zg bT.2.2.1)]
theorem s9(c:cp):(c.1≠[]->pF (fu c)=gM "- " c)/\(c.2.1≠[]->pF (fu c)=gM "+ " c):=by
  unfold fu gM;refine(Wh (c.1≠[]/\c.2.1≠[])).elim (λh=>?_) λh=>?_
  . rw[ZT h,ZT h,ZT h];have:pF "replace"="! ":=by
      unfold pF;rw[ZY bT.1,ZY bT.2.1,ZT rfl]
    exact⟨λO=>this,λO=>this⟩
  . rw[ZY h,ZY h,ZY h];by_cases h1:c.1≠[];.rw[ZT h1];refine⟨λO=>?_,λh2=>Za ⟨h1,h2⟩ h⟩;unfold pF;rw[ZY bT.2.2.2.1,ZT rfl]
    .rw[ZY h1];refine⟨λh2=>Za h2 h1,λO=>?_⟩;unfold pF;rw[ZT rfl]
theorem ux(a b:J Z)(c j:U)(i:J Z)(h:(IC c).take W6=i)(os:ZbO):IA "insert" a Ea (bE c j W6::os)=ej i++IA "insert" a Ea os:=by
 rw[ji];congr 1;show(if("equal")="insert"then[]else((IC c).take (c+W6-c)).map (pF "equal"++.))=_;rw[ZY (Zg bT.2.2.2.2.2),Wm,h,CH];rfl
theorem tA(a b:J Z)(c j:U)(i:J Z)(h:(Ta j).take W6=i)(os:ZbO):IA "delete" b CS (bE c j W6::os)=ej i++IA "delete" b CS os:=by
 rw[ji];congr 1;show(if("equal")="delete"then[]else((Ta j).take (j+W6-j)).map (pF "equal"++.))=_;rw[ZY (Zg bT.2.2.2.2.1),Wm,h,CH];rfl
theorem uY(h:nx a b i f c)(os:ZbO):IA "insert" a Ea (dH i f c::os)=(dv false c).map (gM "- " c++.)++IA "insert" a Ea os:=by
  rw[ji];congr 1;show(if fu c="insert"then[]else((IC i).take (i+c.1.length-i)).map (pF (fu c)++.))=_;rw[Wm,h.ga];by_cases d:c.1=[];.have:dv false c=[]:=d;rw[this,d];split<;>rfl
  . rw[(s9 c).1 d,ZY];.rfl
    . unfold fu;split;.exact bT.1
      .exact bT.2.2.2.1
set_option tactic.hygienic true in theorem ue(h:nx t e j p Nq)(os:J Op):IA "delete" e CS (dH j p Nq::os)=(dv true Nq).map (gM "+ " Nq++.)++IA "delete" e CS os:=by
  rw[ji];congr 1;show(if fu Nq="delete"then[]else((TY p).take (p+Nq.2.1.length-p)).map (pF (fu Nq)++.))=_;rw[Wm,h.gb];by_cases a:Nq.2.1=[];.have:dv true Nq=[]:=a;rw[this,a];split<;>rfl
  . rw[(s9 Nq).2 a,ZY];.rfl
    . unfold fu;refine bQ rfl (λO=>?_) λk=>?_;.exact bT.2.1
      .rw[ZY (λh1=>k ⟨h1,a⟩)];exact Zg bT.2.2.2.1
theorem aH.HY(h:aH t e a b cs Nf):IA "insert" t Ea Nf=WK λc=>(dv false c).map (gM "- " c++.)++ej c.2.2:=by
 refine nv (λO O=>rfl) (λa b c cs Nf h r i=>?_) (λa b c cs Nf h d r i=>?_) h;.rw[uY h,ux t e _ _ _ h.ka,i,Zz,ZQ]
 .rw[uY h,i,Zz,d];simp[ej]
theorem aH.Hx(h:aH t e a b cs Nf):IA "delete" e CS Nf=WK λc=>(dv true c).map (gM "+ " c++.)++ej c.2.2:=by
 refine nv (λO O=>rfl) (λa b c cs Nf h r i=>?_) (λa b c cs Nf h d r i=>?_) h;.rw[ue h,tA t e _ _ _ h.kb,i,Zz,ZQ]
 .rw[ue h,i,Zz,d];simp[ej]
theorem kD(i j k:U)(g:ZbO):iP "replace" "delete" (bE i j k::g)=iP "replace" "delete" g/\iP "replace" "insert" (bE i j k::g)=iP "replace" "insert" g:=by
 have e1:decide ((bE i j k).1="replace"\/(bE i j k).1="delete")=false:=Ww λh=>Xq (λq=>bT.2.2.1 hN) (λq=>bT.2.2.2.2.1 hN);have e2:decide ((bE i j k).1="replace"\/(bE i j k).1="insert")=false:=Ww λh=>Xq (λq=>bT.2.2.1 hN) (λq=>bT.2.2.2.2.2 hN);exact⟨rfl,rfl⟩
theorem kL(a:c.1≠[]\/c.2.1≠[])(g:ZbO):iP "replace" "delete" (dH i b c::g)=(!(dv false c).isEmpty||iP "replace" "delete" g)/\iP "replace" "insert" (dH i b c::g)=(!(dv true c).isEmpty||iP "replace" "insert" g):=by
  have e:∀l:J Z,(!l.isEmpty)=decide (l≠[]):=λl=>by cases l<;>simp
  rw[e,e];show(decide (fu c="replace"\/fu c="delete")||_)=(decide (c.1≠[])||_)/\(decide (fu c="replace"\/fu c="insert")||_)=(decide (c.2.1≠[])||_);unfold fu;by_cases h:c.1≠[]/\c.2.1≠[];.rw[ZT h,Yt h.1,Yt h.2,Yt (.inl rfl),Yt (.inl rfl)];exact⟨rfl,rfl⟩
  . rw[ZY h];by_cases h1:c.1≠[];.have h2:¬c.2.1≠[]:=λq=>h ⟨h1,q⟩;rw[ZT h1,Yt h1,Ww h2,Yt (.inr rfl),Ww (λq=>Vm (λz=>bT.2.1 z.symm) (λz=>bT.2.2.2.1 z))];exact⟨rfl,rfl⟩
    .have h2:=a.resolve_left h1;rw[ZY h1,Ww h1,Yt h2,Ww (λq=>Vm (λz=>bT.1 z.symm) (λz=>bT.2.2.2.1 z.symm)),Yt (.inr rfl)];exact⟨rfl,rfl⟩
set_option tactic.hygienic true in theorem aH.has(h:aH t e j p Nl Nf)(a:∀c∈Nl,c.1≠[]\/c.2.1≠[]):iP "replace" "delete" Nf=bA false Nl/\iP "replace" "insert" Nf=bA true Nl:=by
  revert a;refine nv (λO O O=>⟨rfl,rfl⟩) (λj p c Nl Nf h r i a=>?_) (λj p c Nl Nf h b r i a=>?_) h;.have i:=i λx hx=>a x (ZX _ hx);unfold bA at i⊢;rw[(kL (a c (by simp)) _).1,(kL (a c (by simp)) _).2,(kD _ _ _ _).1,(kD _ _ _ _).2,i.1,i.2,UD,UD];exact⟨rfl,rfl⟩
  .have i:=i λx hx=>a x (ZX _ hx);unfold bA at i⊢;rw[(kL (a c (by simp)) _).1,(kL (a c (by simp)) _).2,i.1,i.2,UD,UD];exact⟨rfl,rfl⟩
theorem a7.chg:∀{cs:Zb8},a7 cs->∀c∈cs,c.1≠[]\/c.2.1≠[]:=by
 intro I;induction I with
 |Yl=>
  intro _;exactλc a=>by cases a|Zp c cs b=>
  intro ok;exactλd hd=>by
   obtain⟨h,_,t⟩:=ok.qM;clear ok;refine(ZI hd).elim (λYA=>?_) λhd=>?_;.rw[YA];exact h
   .exact b t d hd
def fe(i:U)(cs:Zb8):U:=i+WR (WK aU)
def fb(j:U)(cs:Zb8):U:=j+Wz (WK aU)
theorem dh(i:U)(c:cp)(cs:Zb8):fe i (c::cs)=fe (i+c.1.length+c.2.2.length) cs:=by unfold fe;rw[Zz,cT,ku];exact cY 0x6e0480e020c20480c41 [_,_,_,_]
theorem dq(j:U)(c:cp)(cs:Zb8):fb j (c::cs)=fb (j+c.2.1.length+c.2.2.length) cs:=by unfold fb;rw[Zz,dB,nH];exact cY 0x6e0480e020c20480c41 [_,_,_,_]
theorem iW(o:Op)(h:a≠[]):oY (o::a)=oY a:=by
 unfold oY;cases a with|Yl=>exact Za rfl h|Zp p r=>rfl
set_option tactic.hygienic true in theorem aH.last(h:aH t e j p Nl Nf)(b:Nl≠[]):Nf≠[]/\(oY Nf).2.2.1=fe j Nl/\(oY Nf).2.2.2.2=fb p Nl:=by
  revert b;refine nv (λO O h=>Za rfl h) (λj p c Nl Nf h r i O=>⟨Y8 _ _,?_⟩) (λj p c Nl Nf h d r i O=>⟨Y8 _ _,?_⟩) h
  . rw[dh,dq,iW _ (Y8 _ _)];by_cases a:Nl=[];.subst a;rw[r.nl];exact⟨rfl,rfl⟩
    .obtain⟨h1,h2⟩:=i a;rw[iW _ h1];exact h2
  . rw[dh,dq,d];by_cases a:Nl=[];.subst a;rw[r.nl];exact⟨rfl,rfl⟩
    .obtain⟨h1,h2⟩:=i a;rw[iW _ h1];exact h2
theorem aH.first(h:aH t e i a cs Nf)(b:cs≠[]):(sj Nf).2.1=i/\(sj Nf).2.2.2.1=a:=by cases cs with|Yl=>exact Za rfl b|Zp c cs=>exact h.inv (λO O O=>⟨rfl,rfl⟩) λO O O O=>⟨rfl,rfl⟩
structure iR(a b:J Z)(o w:U)(k0:J Z)(ps:Zb8)(g:ZbO):Prop where
 ka:(IC o).take Xa=k0
 kb:(Ta w).take Xa=k0
 ops:∃pre os,g=pre++os/\aH a b (o+Xa) (w+Xa) ps os/\((pre=[]/\k0=[])\/pre=[bE o w Xa])
theorem kK(o w:U)(k0:J Z)(ps:Zb8):fe (o+Xa) ps=o+WR (au k0 ps)/\fb (w+Xa) ps=w+Wz (au k0 ps):=by
 rw[cT,dB,jw,k6];exact cY 0x7770814448160226e10188301c041 [_,_,_,_,_]
theorem iR.aL(i:iR t e a b NN.k0 H_ l)(ok:a7 H_)(j:H_≠[]):bW t e l=eQ Ob (a:U) (b:U):=by
  obtain⟨pre,os,YA,c,hp⟩:=i.ops;rw[YA];obtain⟨m,l1,l2⟩:=c.last j;obtain⟨t1,t2⟩:=c.has ok.chg;have e1:=c.HY;have e2:=c.Hx;rw[(kK a b NN.k0 H_).1]at l1;rw[(kK a b NN.k0 H_).2]at l2;have F:(sj (pre++os)).2.1=a/\(sj (pre++os)).2.2.2.1=b/\(oY (pre++os)).2.2.1=a+WR Ob/\(oY (pre++os)).2.2.2.2=b+Wz Ob/\iP "replace" "delete" (pre++os)=bA false H_/\iP "replace" "insert" (pre++os)=bA true H_/\IA "insert" t Ea (pre++os)=dA false "- " NN.k0 H_/\IA "delete" e CS (pre++os)=dA true "+ " NN.k0 H_:=by
    refine hp.elim (λYA=>?_) λYA=>?_
    . obtain⟨n,k⟩:=YA;rw[n];rw[Yi];have z:NN.k0.length=0:=by rw[k];rfl
      obtain⟨f,d⟩:=c.first j;rw[z,vs]at f d;refine⟨f,d,l1,l2,t1,t2,?_,?_⟩;.rw[e1,dA,k];rfl
      .rw[e2,dA,k];rfl
    . rw[YA];rw[WO,Yi,iW _ m];refine⟨rfl,rfl,l1,l2,?_,?_,?_,?_⟩;.rw[(kD _ _ _ _).1];exact t1
      .rw[(kD _ _ _ _).2];exact t2
      .rw[ux t e _ _ _ i.ka,e1];rfl
      .rw[tA t e _ _ _ i.kb,e2];rfl
  obtain⟨f,d,o,p,q,r,s,u⟩:=F;rw[qh ok j];unfold bW;rw[f,d,o,p,q,r,s,u];have g:((a+WR Ob:U):Zv)-(a:U)=(WR Ob:U):=by exact cY 0x373146619c041 [_,_]
  have w:((b+Wz Ob:U):Zv)-(b:U)=(Wz Ob:U):=by exact cY 0x373146619c041 [_,_]
  rw[g,w];rfl
def d5(n:U)(c:cp):cp:=(c.1,c.2.1,c.2.2.take n)
def r9(n:U)(l:Zb8):Zb8:=tf (motive:=λO=>J cp) [] (λc r k=>m_ (motive:=λO=>J cp) r [ZbI] λO O=>c::k) l
theorem vd(n:U)(h:(Xv a).take W6=i):(Xv a).take (i.take n).length=i.take n:=by
 have e:i.take n=((Xv a).take W6).take n:=by rw[h]
 rw[Zo];walk_at"j";conv=>rhs;rw[e]
 rw[List.take_take]
theorem Lies.cut(h:nx t e i a c)(n:U):nx t e i a ZbI:=⟨h.ga,h.gb,vd n h.ka,vd n h.kb⟩
set_option tactic.hygienic true in theorem aH.snoc(h:aH t e j p Nl Nf)(a:nx t e (fe j Nl) (fb p Nl) Nq):aH t e j p (Nl++[Nq]) (Nf++[dH (fe j Nl) (fb p Nl) Nq,bE (fe j Nl+Nq.1.length) (fb p Nl+Nq.2.1.length) Nq.2.2.length]):=by
  revert a;refine nv (λO O a=>.eq a .nil) (λj p d Nl Nf h r i a=>?_) (λj p d Nl Nf h b r i a=>?_) h;.rw[dh,dq]at a⊢;exact .eq h (i a)
  . have z:d.2.2.length=0:=by rw[b];rfl
    rw[dh,dq,z]at a⊢;exact .ne h b (i a)
set_option tactic.hygienic true in theorem aH.AN(h:aH t e j p Nl Nf)(a:nx t e (fe j Nl) (fb p Nl) Nq)(b:Nq.2.2=[]):aH t e j p (Nl++[Nq]) (Nf++[dH (fe j Nl) (fb p Nl) Nq]):=by
  revert a;refine nv (λO O a=>.ne a b .nil) (λj p d Nl Nf h r i a=>?_) (λj p d Nl Nf h ON r i a=>?_) h;.rw[dh,dq]at a⊢;exact .eq h (i a)
  . have z:d.2.2.length=0:=by rw[ON];rfl
    rw[dh,dq,z]at a⊢;exact .ne h ON (i a)
structure At(c b:J Z)(o w:U)(k0:J Z)(a:Zb8)(g:ZbO)(i j:U):Prop where
 g:iR c b o w k0 a g
 i:i=fe (o+Xa) a
 j:j=fb (w+Xa) a
theorem At.snoc(h:At t e f k k0 a Nf p j)(l:nx t e p j c):At t e f k k0 (a++[c]) (Nf++[dH p j c,bE (p+c.1.length) (j+c.2.1.length) c.2.2.length]) (p+c.1.length+c.2.2.length) (j+c.2.1.length+c.2.2.length):=by
 walk_at"bd";walk_at"be";obtain⟨⟨ka,kb,pre,os,rfl,m,hp⟩,b,hj⟩:=h;have d:=l;rw[b,hj]at d;refine⟨⟨ka,kb,pre,_,by rw[ZQ],b▸hj▸m.snoc d,hp⟩,?_,?_⟩;.rw[b];unfold fe;rw[YT,cT,Zz,Xj,Zm,ku];exact cY 0x6e10810620c0901c041 [_,_,_,_]
 .rw[hj];unfold fb;rw[YT,dB,Zz,Xj,Zm,nH];exact cY 0x6e10810620c0901c041 [_,_,_,_]
theorem At.AN(h:At t e f k k0 a Nf p j)(l:nx t e p j c)(m:c.2.2=[]):iR t e f k k0 (a++[c]) (Nf++[dH p j c]):=by
 walk_at"bf";obtain⟨⟨ka,kb,pre,os,rfl,n,hp⟩,b,hj⟩:=h;have d:=l;rw[b,hj]at d;exact⟨ka,kb,pre,_,by rw[ZQ],b▸hj▸n.AN d m,hp⟩
theorem At.start(c:(Xv a).take Xa=k0)(hb:(TY b).take Xa=k0):At t e a b k0 [] [bE a b Xa] (a+Xa) (b+Xa):=⟨⟨c,hb,[_],[],rfl,.nil,.inr rfl⟩,rfl,rfl⟩
theorem At.bare:At t e a b [] [] [] a b:=⟨⟨by simp,by simp,[],[],rfl,.nil,.inl ⟨rfl,rfl⟩⟩,rfl,rfl⟩
theorem sZ(i j:U)(c:cp):(dH i j c).eq=false:=Gg c
theorem eq_eq(i j k:U):(bE i j k).eq=true:=Vb _
theorem rj(n:U)(g:ZbO)(i j:U)(c:cp)(r:ZbO):fY n g (dH i j c::r)=fY n (g++[dH i j c]) r:=by rw[gV,ZY (λh=>by rw[sZ]at h;exact Za h.1 Z')]
theorem jg(n:U)(g:ZbO)(i j k:U)(a:k<=n+n)(r:ZbO):fY n g (bE i j k::r)=fY n (g++[bE i j k]) r:=by
 rw[gV,ZY];intro h;have:=h.2;exact bx 0x1ffa7211ea2280c41 [_,_,_] this a
theorem vN(n:U)(g:ZbO)(i j k:U)(a:n+n<k)(r:ZbO):fY n g (bE i j k::r)=(g++[bE i j n])::fY n [bE (i+(k-n)) (j+(k-n)) n] r:=by
 walk_at"i";rw[gV,ZT ⟨eq_eq _ _ _,by show i+k-i>n+n;(exact aV 0x7f511c0430e841 [_,_,_] a)⟩];have e1:kJ n (bE i j k)=bE i j n:=by
  unfold kJ bE;simp only[o3,true_and];exact aV 0x1feee0125a0124044dc023b40238087a14021 [_,_,_,_] a
 have e2:qR n (bE i j k)=bE (i+(k-n)) (j+(k-n)) n:=by
  unfold qR bE;simp only[o3,true_and];exact aV 0x1fef7bb80611088901137088444bc4301109b806110887010f7088443bc43010c7a14021 [_,_,_,_] a
 rw[e1,e2]
theorem uQ(h:∃o∈a,o.eq=false):fY n a []=[a]:=by
 obtain⟨o,b,he⟩:=h;rw[m8,ZT];refine⟨List.ne_nil_of_mem b,λh=>?_⟩;obtain⟨p,rfl⟩:=List.length_eq_one_iff.mp h.1;have h2:p.eq=true:=h.2;rw[<-ZD b,he]at h2;cases h2
theorem mX(h:(Xv a).take W6=i)(p q:U):(Xv (a+p)).take ((i.drop p).take q).length=(i.drop p).take q:=by
  have e:Xv a=i++(Xv a).drop W6:=by conv=>lhs;rw[<-XJ W6 (Xv a),h]
  rw[<-H4,e];rcases UJ W6 p with g|g;.rw[Vi (W' g)];simp
  .rw[gm g];rw[List.take_append_of_le_length (by rw[Zo];exact Nat.min_le_right _ _),Zo];rw[<-List.take_take,XX]
def Good(a b:J Z)(g:ZbO):Prop:=∃o w k0 ps,iR a b o w k0 ps g/\a7 ps/\ps≠[]/\fe (o+Xa) ps<=ZC/\fb (w+Xa) ps<=Zw
structure CD(a b:J Z)(o w:U)(hs:J Hn)(g:J ZbO):Prop where
 aL:g.flatMap (bW a b)=jS (o:U) (w:U) hs
 ne:g≠[]
 good:∀c∈g,Good a b c
set_option tactic.hygienic true in theorem Cf(n:U):∀(cs:J cp)(o w b d:U)(s k0:J Z)(a:J cp)(u os:J Op),At t e o w k0 a u b d->aH t e b d (r9 n cs) os->a7 (a++cs)->cs≠[]->fe b cs<=YI->fb d cs<=XQ->CD t e o w (vu n s k0 a cs).1 (fY n u os):=by
  intro E;induction E with
  |Yl=>
    intro _ _ _ _ _ _ _ _ _ _ _ _ h _ _;exact Za rfl h|Zp c F I=>cases F with
    |Yl=>
      intro o w b d s k0 a u os f x ok _ k l;walk_at"0";have m:a7 (a++[ZbI]):=ok.snoc _;walk_at"0";have Ub:∀g',iR t e o w k0 (a++[ZbI]) g'->fY n g' []=[g']->CD t e o w (vu n s k0 a [c]).1 (fY n g' []):=λg' hg y=>by
        rw[y];refine⟨?_,by simp,λQ G=>?_⟩;.rw[Zz,Xj,Zm,iR.aL (NN:=⟨s,k0,a++[ZbI]⟩) hg m (by simp)];show _=eQ _ _ _++bI _ _ [];exact(Zm _).symm
        . rw[ZD G];refine⟨o,w,k0,_,hg,m,by simp,?_,?_⟩
          . have e1:fe (o+Xa) (a++[ZbI])=fe b [ZbI]:=by rw[f.i];unfold fe;rw[YT,cT];(exact cY 0x6e038083080c41 [_,_,_])
            have e2:fe b [ZbI]<=fe b [c]:=by
              rw[dh,dh];show b+c.1.length+(c.2.2.take n).length<=_;rw[Zo];exact cY 0x1980c30b0c41 [_,_,_]
            exact fX 0x7fffc903920f2316c41 [_,_,_,_] e1 e2 k
          . have e1:fb (w+Xa) (a++[ZbI])=fb d [ZbI]:=by rw[f.j];unfold fb;rw[YT,dB];(exact cY 0x6e038083080c41 [_,_,_])
            have e2:fb d [ZbI]<=fb d [c]:=by
              rw[dq,dq];show d+c.2.1.length+(c.2.2.take n).length<=_;rw[Zo];exact cY 0x1980c30b0c41 [_,_,_]
            exact fX 0x7fffc903920f2316c41 [_,_,_,_] e1 e2 l
      have hl:(d5 n c).2.2.length<=n+n:=by
        show(c.2.2.take n).length<=_;rw[Zo];exact cY 0x66010d841 [_,_]
      refine aH.inv (show aH t e b d (d5 n c::[]) os from x) (λos h r=>?_) λos h z r=>?_;.rw[r.nl];rw[rj,jg n _ _ _ _ hl,ZQ];exact Ub _ (f.snoc h).g (uQ ⟨dH b d ZbI,by simp,sZ _ _ _⟩)
      .rw[r.nl];rw[rj];exact Ub _ (f.AN h z) (uQ ⟨dH b d ZbI,by simp,sZ _ _ _⟩)|Zp A r=>
      intro o w b d s k0 a u os f x ok _ k l;obtain⟨S,he,M⟩:=ok.tail.hd2;rw[dh]at k;rw[dq]at l;refine aH.inv (show aH t e b d (c::r9 n (A::r)) os from x) (λT h q=>?_) λO O z O=>Za z he
      . rw[rj,mL];by_cases hs:2*n<c.2.2.length
        . rw[ZT hs,vN n _ _ _ _ (by exact a9 0x3fa14021d0a41 [2] [_,_] [] hs)];have m:a7 (a++[ZbI]):=ok.snoc _;have hg:=(f.snoc (h.cut n)).g;have ln:(d5 n c).2.2.length=n:=by
            show(c.2.2.take n).length=n;rw[Zo];(exact a9 0x3fb0d841d0a41 [2] [_,_] [] hs)
          rw[ln]at hg;have lk:(bK n (c.2.2.drop n)).length=n:=by unfold bK;rw[Zd,Zd];(exact a9 0xfec318862114422d0a41 [2] [_,_] [] hs)
          have hd:(bY n (c.2.2.drop n)).length=c.2.2.length-n-n:=by unfold bY;rw[Zo,Zd];(exact cY 0x1b888360c441 [_,_])
          have lt:bK n (c.2.2.drop n)=(c.2.2.drop (c.2.2.length-n)).take n:=by
            unfold bK;rw[H4,Zd,YR (by rw[Zd];(exact cY 0x645188821 [_,_]))];congr 1;(exact a9 0xfee211422188441d0a41 [2] [_,_] [] hs)
          have B:=mX h.ka (c.2.2.length-n) n;have C:=mX h.kb (c.2.2.length-n) n;rw[<-lt]at B C;have st:=At.start B C;rw[lk]at st;have p1:b+c.1.length+(c.2.2.length-n)+n=b+c.1.length+c.2.2.length:=by exact a9 0xfee021c03088443d0a41 [2] [_,_,_] [] hs
          have p2:d+c.2.1.length+(c.2.2.length-n)+n=d+c.2.1.length+c.2.2.length:=by exact aV 0x7f7021603808bb810301c041 [_,_,_,_,_] p1
          rw[p1,p2]at st;obtain⟨i1,V,N⟩:=I _ _ _ _ (bY n (c.2.2.drop n)) (bK n (c.2.2.drop n)) [] _ _ st q M (by simp) k l;have gd:=iR.aL (NN:=⟨s,k0,a++[ZbI]⟩) hg m (by simp);rw[ZQ];refine⟨?_,by simp,λg' hg'=>?_⟩
          . show bW t e _++_=eQ _ _ _++bI _ _ _;congr 1;obtain⟨ps,hr,y⟩:=iE n (A::r) (bY n (c.2.2.drop n)) (bK n (c.2.2.drop n)) [];have D:=i1;rw[y]at D⊢;rw[pT];refine R3 D ?_;congr 1;.have:=(kK o w k0 (a++[ZbI])).1;have e2:=(f.snoc (h.cut n)).i;rw[ln]at e2;show _=((o:U):Zv)+(WR (au k0 (a++[ZbI])):U)+((bY n (c.2.2.drop n)).length:U);rw[hd];have p:(d5 n c).1.length=c.1.length:=rfl;exact pk 0xfffffdc2710c42284d133ce1108a061ee083976626cb00c083d0a41 [2] [_,_,_,_,_,_,_,_] [] hs e2 p this
            .have:=(kK o w k0 (a++[ZbI])).2;have e2:=(f.snoc (h.cut n)).j;rw[ln]at e2;show _=((w:U):Zv)+(Wz (au k0 (a++[ZbI])):U)+((bY n (c.2.2.drop n)).length:U);rw[hd];have p:(d5 n c).2.1.length=c.2.1.length:=rfl;exact pk 0xfffffdc2710c42284d133ce1108a061ee083976626cb00c083d0a41 [2] [_,_,_,_,_,_,_,_] [] hs e2 p this
          . rcases ZI hg' with rfl|hg'
            . refine⟨o,w,k0,_,hg,m,by simp,?_,?_⟩;.rw[<-(f.snoc (h.cut n)).i,ln];have p:(d5 n c).1.length=c.1.length:=rfl;unfold fe at k;exact fX 0x7fffc9e048203b12327818bb2c0901c041 [_,_,_,_,_,_,_,_] p1 k p
              .rw[<-(f.snoc (h.cut n)).j,ln];unfold fb at l;exact Lq l p1 (rfl:(d5 n c).2.1.length=c.2.1.length)
            .exact N g' hg'
        .rw[ZY hs,jg n _ _ _ _ (by exact a9 0x7f300845cd0a41 [2] [_,_] [] hs),ZQ];exact I o w _ _ s k0 (a++[c]) _ _ (f.snoc h) q (by rw[ZQ];exact ok) (Y8 _ _) k l
def dw(a b:J Z)(i j:U)(l:J eG):Zb8:=VF (λm k i j=>((IC i).take (m.1-i),(Ta j).take (m.2.1-j),(IC m.1).take m.2.2)::k (m.1+m.2.2) (m.2.1+m.2.2)) (λi j=>if i<ZC\/j<Zw then[(IC i,Ta j,[])]else[]) i j
theorem gP(t e i a):dw t e i a []=if i<YI\/a<XQ then[(Xv i,TY a,[])]else[]:=rfl
theorem Bb(t e i b a r):dw t e i b (a::r)=((Xv i).take (a.1-i),(TY b).take (a.2.1-b),(Xv a.1).take a.2.2)::dw t e (a.1+a.2.2) (a.2.1+a.2.2) r:=rfl
def Sp(i j:U)(l:J eG):Prop:=VF (λm k i j=>(i<m.1\/j<m.2.1)/\k (m.1+m.2.2) (m.2.1+m.2.2)) (λO O=>m3) i j
theorem EU:∀(r:J eG)(m:eG)(a b:U),Ch C t e q s a b (m::r)->lD t e (m::r)->Sp (m.1+m.2.2) (m.2.1+m.2.2) r:=by
  intro I;induction I with
  |Yl=>
    intro _ _ _ _ _;exact trivial|Zp n r i=>
    intro m a b h hs;obtain⟨h1,h2,d,j,u,w,f⟩:=h;obtain⟨g,l,g3,o,x,y,z⟩:=(f);refine⟨?_,i n _ _ f hs.2⟩;refine(Wh (m.1+m.2.2=n.1/\m.2.1+m.2.2=n.2.1)).elim (λc=>?_) λc=>?_
    . exfalso;rcases hs.1 with k|⟨A,k2,p⟩;.apply k;rw[c.1,c.2];exact o 0 g3
      .apply p;have:=j (m.2.2-1) (Ic d);rw[show m.1+(m.2.2-1)=n.1-1 by exact bx 0x7ffb8b8708b822eeca4d8e011682d [_,_,_,_,_] d c,show m.2.1+(m.2.2-1)=n.2.1-1 by(exact bx 0x7ffb8b8b08b824eecb0093631682d [_,_,_,_,_] d c)]at this;exact this
    .exact fX 0xffffed107a1079dd907b107241e441 [_,_,_,_] g l c
theorem a7.push(h:c.1≠[]\/c.2.1≠[])(he:c.2.2≠[])(t:a7 cs):a7 (c::cs):=by exact⟨h,.inr he,t⟩
theorem oh(h:0<YI):t≠[]:=λe=>by rw[e]at h;exact Za h Z'
theorem fF(l:J Z)(i k:U)(h:i+k<=Xl):((vi i).take k).length=k:=by rw[Zo,Zd];exact aV 0x1fd8ad108c591c041 [_,_,_] h
theorem Er:∀(l:J eG)(i j:U),Zdd->Sp i j l->a7 (dw t e i j l):=by
  intro I;induction I with
  |Yl=>
    intro i j h _;rw[gP];refine bQ rfl (λg=>?_) λO=>?_
    . refine⟨?_,.inl rfl,trivial⟩;rcases g with g|g;.exact .inl (oh (by rw[Zd];exact GG g))
      .exact .inr (oh (by rw[Zd];exact GG g))
    .exact trivial|Zp m r a=>
    intro i j h hs;have it:=(q0 _ _ _ h).2.2 m (.head _);obtain⟨h1,h2,b,d,f,k,c⟩:=h;refine a7.push ?_ (oh (by rw[fF _ _ _ it.2.2.1];exact b)) (a _ _ c hs.2);rcases hs.1 with g|g;.exact .inl (oh (by rw[fF _ _ _ (DR h1 it.2.2.1)];exact GG g))
    .exact .inr (oh (by rw[fF _ _ _ (DR h2 it.2.2.2)];exact GG g))
theorem j7(h:∀a,a<k->t[i+a]?=e[b+a]?):(Xv i).take k=(TY b).take k:=by
 apply G2;intro a;rw[TZ,TZ];split;.rename_i g;rw[T4,T4];exact h a g
 .rfl
theorem FX(i a j b:U)(c:cp)(h1:c.1.length=a-i)(h2:c.2.1.length=b-j)(e:i<a\/j<b):e9 i a j b=fu c:=by
  have e1:i<a↔c.1≠[]:=by rw[<-List.length_pos_iff];exact Ie h1
  have e2:j<b↔c.2.1≠[]:=by rw[<-List.length_pos_iff];exact Ie h2
  unfold e9 fu;simp only[e1,e2]at e⊢;by_cases d:c.1≠[]/\c.2.1≠[];.rw[ZT d,ZT d]
  . rw[ZY d,ZY d];by_cases g:c.1≠[];.rw[ZT g,ZT g]
    .rw[ZY g,ZY g,ZT (e.resolve_left g)]
theorem BY(c:cp):(fu c).length≠0:=by
 unfold fu;refine bQ rfl (λO=>?_) λO=>?_;.decide+kernel
 .split<;>decide+kernel
theorem tB(h1:c.1.length=a.1-i)(h2:c.2.1.length=a.2.1-b)(g:i<=a.1)(d:b<=a.2.1)(e:i<a.1\/b<a.2.1):cK i b a=dH i b c::(if a.2.2=0 then[]else[bE a.1 a.2.1 a.2.2]):=by
 unfold cK;rw[FX i a.1 b a.2.1 c h1 h2 e,ZY (BY c)];have:dH i b c=(fu c,i,a.1,b,a.2.1):=by
  unfold dH;rw[h1,h2,Oq g,Oq d]
 walk_at"j";rw[this];rfl
theorem Af:∀(l:J eG)(i j:U),Zdd->Sp i j l->aH t e i j (dw t e i j l) (dz i j (l++[(YI,XQ,0)])):=by
  intro I;induction I with
  |Yl=>
    intro i j h _;obtain⟨h1,h2,_⟩:=h;rw[gP,Yi,rQ];by_cases g:i<YI\/j<XQ;.rw[ZT g,tB (c:=(Xv i,TY j,[])) (by simp) (by simp) h1 h2 g,ZT rfl];exact .ne ⟨XX,XX,by rfl,by rfl⟩ rfl .nil
    . rw[ZY g];have a:cK i j (YI,XQ,0)=[]:=by
        have b:e9 i YI j XQ="":=by
          unfold e9;rw[ZY (λq=>g (.inl q.1)),ZY (λq=>g (.inl q)),ZY (λq=>g (.inr q))]
        unfold cK;rw[b,ZT (by rfl),ZT rfl];rfl
      rw[a];exact .nil|Zp m r c=>
    intro i j h hs;have it:=(q0 _ _ _ h).2.2 m (.head _);obtain⟨h1,h2,d,f,p,s,k⟩:=h;have l1:=fF _ _ _ (DR h1 it.2.2.1);have l2:=fF _ _ _ (DR h2 it.2.2.2);have l3:=fF _ _ _ it.2.2.1;rw[Bb,WO,rQ,tB (c:=((Xv i).take (m.1-i),(TY j).take (m.2.1-j),(Xv m.1).take m.2.2)) l1 l2 h1 h2 hs.1,ZY (R1 d)];have p1:i+(m.1-i)=m.1:=by exact HA h1
    have p2:j+(m.2.1-j)=m.2.1:=by exact HA h2
    have n:=c _ _ k hs.2;generalize dw t e (m.1+m.2.2) (m.2.1+m.2.2) r=cs at*;have o:nx t e i j ((Xv i).take (m.1-i),(TY j).take (m.2.1-j),(Xv m.1).take m.2.2):=by
      refine⟨?_,?_,?_,?_⟩;.show(Xv i).take ((Xv i).take (m.1-i)).length=_;rw[l1]
      .show(TY j).take ((TY j).take (m.2.1-j)).length=_;rw[l2]
      .show(Xv (i+((Xv i).take (m.1-i)).length)).take ((Xv m.1).take m.2.2).length=_;rw[l1,l3,p1]
      .show(TY (j+((TY j).take (m.2.1-j)).length)).take ((Xv m.1).take m.2.2).length=_;rw[l2,l3,p2];exact(j7 f).symm
    have:=aH.eq o (by rw[l1,l2,l3,p1,p2];exact n);rw[show i+(((Xv i).take (m.1-i),(TY j).take (m.2.1-j),(Xv m.1).take m.2.2)).1.length=m.1 by show i+((Xv i).take (m.1-i)).length=_;rw[l1,p1],show j+(((Xv i).take (m.1-i),(TY j).take (m.2.1-j),(Xv m.1).take m.2.2)).2.1.length=m.2.1 by show j+((TY j).take (m.2.1-j)).length=_;rw[l2,p2],show(((Xv i).take (m.1-i),(TY j).take (m.2.1-j),(Xv m.1).take m.2.2)).2.2.length=m.2.2 from l3]at this;exact this
theorem mq(h:i<=k):Xv i=(Xv i).take (k-i)++Xv k:=by
 conv=>lhs;rw[<-XJ (k-i) (Xv i)]
 rw[H4,Oq h]
theorem Et:∀(l:J eG)(i j:U),Zdd->cJ ((dw t e i j l).flatMap aU)=Xv i/\RH ((dw t e i j l).flatMap aU)=TY j:=by
  intro I;induction I with
  |Yl=>
    intro i j h;rw[gP];refine bQ rfl (λO=>?_) λg=>?_;.rw[Zz,Xj,Zm,pO,pV];simp
    .rw[Vi (by exact aV 0xfe422e7b441e841 [_,_,_,_] g),Vi (by exact aV 0xfe464e7b441e841 [_,_,_,_] g)];exact⟨rfl,rfl⟩|Zp m r b=>
    intro i j h;obtain⟨h1,h2,k,c,n,o,d⟩:=h;obtain⟨i1,f⟩:=b _ _ d;rw[fD,jt,pO,pV,i1,f];constructor;.have a:=mq (t:=t) (k:=m.1+m.2.2) (O1);rw[Wm]at a;rw[ZQ];show(Xv i).take (m.1-i)++((Xv m.1).take m.2.2++_)=_;rw[<-a];exact(mq h1).symm
    .have a:=mq (t:=e) (k:=m.2.1+m.2.2) (O1);rw[Wm,<-j7 c]at a;rw[ZQ];show(TY j).take (m.2.1-j)++((Xv m.1).take m.2.2++_)=_;rw[<-a];exact(mq h2).symm
def jz(a:J Z):J eG->J Z|[]=>[]|m::_=>if m.1=0/\m.2.1=0 then a.take m.2.2 else[]
theorem Ab(t a u1):jz t (a::u1)=if a.1=0/\a.2.1=0 then Td a.2.2 else[]:=rfl
def fO(a b:J Z):J eG->J cp|[]=>dw a b 0 0 []|m::r=>if m.1=0/\m.2.1=0 then dw a b m.2.2 m.2.2 r else dw a b 0 0 (m::r)
theorem vt(t e a r):fO t e (a::r)=if a.1=0/\a.2.1=0 then dw t e a.2.2 a.2.2 r else dw t e 0 0 (a::r):=rfl
theorem sV(a:Ch C t e YI XQ 0 0 l)(S:lD t e l):∃r k,jz t l=Td k/\k<=YI/\Td k=e.take k/\k<=XQ/\fO t e l=dw t e k k r/\Ch C t e YI XQ k k r/\Sp k k r/\dz 0 0 (l++[(YI,XQ,0)])=(if k=0 then[]else[bE 0 0 k])++dz k k (r++[(YI,XQ,0)]):=by cases l with|Yl=>exact(Vo ([]) 0 ⟨rfl,Zf _,rfl,Zf _,rfl,a,trivial,rfl⟩)|Zp m r=>
    refine(Wh (m.1=0/\m.2.1=0)).elim (λg=>?_) λg=>?_
    . have it:=(q0 _ _ _ a).2.2 m (.head _);have s:=EU r m _ _ a S;induction m using EH with|mk n o k=>?_;obtain⟨h1,h2,b,d,f,i,c⟩:=a;dsimp only at*;clear S h1 h2 f i;obtain⟨rfl,rfl⟩:=g;rw[Wi]at s c;walk_at"b";refine⟨r,k,by rw[Ab,ZT ⟨rfl,rfl⟩],by have:=it.2.2.1;rwa[Wi]at this,?_,by have:=it.2.2.2;rwa[Wi]at this,by rw[vt,ZT ⟨rfl,rfl⟩],c,s,?_⟩;.have:=j7 d;rwa[Uo,Uo]at this
      . rw[WO,rQ,ZY (show¬k=0 by exact aV 0xff36d0e82d [_] b)];dsimp only;rw[Wi];congr 1;unfold cK;have j:e9 0 0 0 0="":=by
          unfold e9;rw[ZY (by exact cY 0xe774d6e9ad []),ZY (Li),ZY (Li)]
        rw[j,ZT (by rfl),ZY (by exact aV 0xff36d0e82d [_] b)];rfl
    .refine⟨m::r,0,by rw[Ab,ZY g];rfl,Zf _,rfl,Zf _,by rw[vt,ZY g],a,⟨by exact aV 0xffb426e82de776d16da1 [_,_] g,EU r m _ _ a S⟩,rfl⟩
theorem xl(n k:U):qR n (bE 0 0 k)=bE (k-n) (k-n) (k-(k-n)):=by
 unfold qR bE;simp only[o3,true_and];exact cY 0x77bddc23110431106016ee220de22805addc23110431106016ee220de22805ad [_,_]
theorem xW(n i j k:U):kJ n (bE i j k)=bE i j (min n k):=by
 unfold kJ bE;simp only[o3,true_and];exact cY 0x7770b0864b40648089b858430da030c041 [_,_,_,_]
theorem pR(n k:U):Sz n [bE 0 0 k]=[]:=by
 have e1:iK n [bE 0 0 k]=[bE (k-n) (k-n) (k-(k-n))]:=by
  unfold iK;rw[show([bE 0 0 k]).getD 0 default=bE 0 0 k from rfl,ZT (eq_eq _ _ _),xl];rfl
 have e2:∀i j z,gB n [bE i j z]=[bE i j (min n z)]:=λi j z=>by
  unfold gB;rw[show([bE i j z]).getD (([bE i j z]).length-1) default=bE i j z from rfl,ZT (eq_eq _ _ _),xW];rfl
 unfold Sz;rw[ZY (Y8 _ _),e1,e2,jg n _ _ _ _ (by exact cY 0x66010d841 [_,_]),Yi,m8,ZY];intro h;exact h.2 ⟨rfl,eq_eq _ _ _⟩
theorem Ay(n:U):Sz n []=[]:=pR n 1
theorem jh(n:U)(o:Op)(h:Nf≠[]):gB n (o::Nf)=o::gB n Nf:=by
 have e:(o::Nf).getD ((o::Nf).length-1) default=Nf.getD (Nf.length-1) default:=by cases Nf with
  |Yl=>exact Za rfl h|Zp p r=>rfl
 unfold gB;rw[e];split;.cases Nf with
  |Yl=>exact Za rfl h|Zp p r=>rfl
 .rfl
set_option tactic.hygienic true in theorem BZ(h:aH t e p I Nl Nf)(f:Nl≠[]):aH t e p I (r9 j Nl) (gB j Nf)/\gB j Nf≠[]:=by
  revert f;refine nv (λO O h=>Za rfl h) (λp I c Nl Nf h r i O=>?_) (λp I c Nl Nf h b r i O=>?_) h;.rw[jh j _ (Y8 _ _)];refine⟨?_,Y8 _ _⟩;cases Nl with
    |Yl=>
      walk_at"1";clear i;rw[r.nl];have a:gB j [bE (p+c.1.length) (I+c.2.1.length) c.2.2.length]=[bE (p+c.1.length) (I+c.2.1.length) (d5 j c).2.2.length]:=by
        unfold gB;rw[show([bE (p+c.1.length) (I+c.2.1.length) c.2.2.length]).getD (([bE (p+c.1.length) (I+c.2.1.length) c.2.2.length]).length-1) default=bE (p+c.1.length) (I+c.2.1.length) c.2.2.length from rfl,ZT (eq_eq _ _ _),xW];have:(d5 j c).2.2.length=min j c.2.2.length:=Zo;rw[this];rfl
      rw[a];walk_at"bg";exact .eq (h.cut j) .nil|Zp d Nl=>
      walk_at"1";obtain⟨i1,g⟩:=i (Y8 _ _);rw[jh j _ (r.last (Y8 _ _)).1];exact .eq h i1
  .cases Nl with
    |Yl=>
      clear i;rw[r.nl];have a:gB j [dH p I c]=[dH p I c]:=by
        unfold gB;rw[ZY];rw[show([dH p I c]).getD (([dH p I c]).length-1) default=dH p I c from rfl,sZ];decide
      rw[a];refine⟨?_,Y8 _ _⟩;have ON:(d5 j c).2.2=[]:=by show c.2.2.take j=[];rw[b];exact List.take_nil
      exact .ne (h.cut j) ON .nil|Zp d Nl=>
      obtain⟨i1,g⟩:=i (Y8 _ _);rw[jh j _ (r.last (Y8 _ _)).1];exact⟨.ne h b i1,Y8 _ _⟩
theorem Ej(h:aH t e i a cs Nf)(d:cs≠[]):iK n Nf=Nf:=by cases cs with
 |Yl=>exact Za rfl d|Zp c cs=>
  have b(l:ZbO):iK n (dH i a c::l)=dH i a c::l:=by
   unfold iK;rw[ZY];show¬(dH i a c).eq=true;rw[sZ];decide
  exact h.inv (λO O O=>b _) λO O O O=>b _
def g0(k:U)(os:ZbO):ZbO:=(if k=0 then[]else[bE 0 0 k])++os
theorem Ck(n:U)(p:k<=YI)(q:Td k=e.take k)(u:k<=XQ)(ok:a7 cs)(i:aH t e k k cs Nf)(d:cJ (WK aU)=Xv k/\RH (WK aU)=TY k):(Sz n (g0 k Nf)).flatMap (bW t e)=bI 0 0 (dZ n (Td k) cs).1/\(Sz n (g0 k Nf)=[]↔cs=[])/\(∀g∈Sz n (g0 k Nf),Good t e g)/\a7 cs/\cJ (au (Td k) cs)=t/\RH (au (Td k) cs)=e:=by
  have Ub:a7 cs/\cJ (au (Td k) cs)=t/\RH (au (Td k) cs)=e:=by
    refine⟨ok,?_,?_⟩;.unfold au;rw[fD,fV,d.1,XJ]
    .unfold au;rw[jt,jU,d.2,q,XJ]
  have z:fe k cs=YI:=by unfold fe;rw[<-gL,d.1,Zd];exact HA p
  have w:fb k cs=XQ:=by unfold fb;rw[<-lH,d.2,Zd];exact HA u
  by_cases a:cs=[]
  . subst a;rw[i.nl];have m:Sz n (g0 k [])=[]:=by
      unfold g0;rw[Zm];refine bQ rfl (λO=>?_) λO=>?_;.exact Ay n
      .exact pR n k
    rw[m];exact(andI4 rfl ⟨λO=>rfl,λO=>rfl⟩ (λg hg=>(jP _ hg)) Ub)
  . have x:=(i.last a).1;obtain⟨f,E⟩:=BZ (j:=n) i a;have main:∃s k0 o,bY n (Td k)=s/\bK n (Td k)=k0/\o=ZR/\∃g,Sz n (g0 k Nf)=fY n g (gB n Nf)/\At t e o o k0 [] g k k:=by
      walk_at"b";have hn:¬g0 k Nf=[]:=λc=>x (XA c).2;clear u d Ub z w f;by_cases y:k=0;.subst y;refine⟨[],[],0,by unfold bY;simp,by unfold bK;simp,rfl,[],?_,At.bare⟩;unfold Sz;rw[ZY hn,Ej i a]
      . have lt:(Td k).length=k:=by rw[Zo];exact aV 0x1fd86c20e441 [_,_] p
        have A:(bY n (Td k)).length=k-n:=by unfold bY;rw[Zo,lt];exact cY 0x1b888360c441 [_,_]
        have l:(bK n (Td k)).length=k-(k-n):=by unfold bK;rw[Zd,lt]
        refine⟨_,_,_,rfl,rfl,rfl,[bE (k-n) (k-n) (k-(k-n))],?_,?_⟩
        . unfold Sz;rw[ZY hn,show g0 k Nf=[bE 0 0 k]++Nf from Zq (.++Nf) (ZY y)];have B:iK n ([bE 0 0 k]++Nf)=bE (k-n) (k-n) (k-(k-n))::Nf:=by
            unfold iK;rw[show([bE 0 0 k]++Nf).getD 0 default=bE 0 0 k from rfl,ZT (eq_eq _ _ _),xl];rfl
          rw[B,jh n _ x,jg n _ _ _ _ (by exact cY 0x198085188821 [_,_]),Yi]at⊢
        . have la:bK n (Td k)=(Td k).drop (k-n):=by unfold bK;rw[lt]
          have h1:(Xv (k-n)).take (k-(k-n))=bK n (Td k):=by rw[la,List.drop_take]
          have h2:(TY (k-n)).take (k-(k-n))=bK n (Td k):=by rw[la,q,List.drop_take]
          have st:=At.start (by rw[l];exact h1) (by rw[l];exact h2);rw[l,show k-n+(k-(k-n))=k by(exact cY 0x6c308c4410c441 [_,_])]at st;rw[A];exact st
    obtain⟨s,k0,o,h1,h2,C,g,m,D⟩:=main;rw[m];obtain⟨b1,b2,b⟩:=Cf n cs o o k k s k0 [] g (gB n Nf) D f ok a (GN z) (GN w);refine(andI4 ?_ ⟨λc=>Za c b2,λc=>Za c a⟩ b Ub);rw[b1];unfold dZ;rw[ZY a,h1,h2];obtain⟨ps,r,c⟩:=iE n cs s k0 [];rw[c,pT,C];show jS _ _ _=jS (0+ZR) (0+ZR) _;rw[Sg]
theorem wQ(n:U)(b:Ch C t e YI XQ 0 0 l)(c:lD t e l):(Sz n (dz 0 0 (l++[(YI,XQ,0)]))).flatMap (bW t e)=bI 0 0 (dZ n (jz t l) (fO t e l)).1/\(Sz n (dz 0 0 (l++[(YI,XQ,0)]))=[]↔fO t e l=[])/\(∀g∈Sz n (dz 0 0 (l++[(YI,XQ,0)])),Good t e g)/\a7 (fO t e l)/\cJ (au (jz t l) (fO t e l))=t/\RH (au (jz t l) (fO t e l))=e:=by
 obtain⟨r,k,d,f,i,j,e1,a,S,m⟩:=sV b c;rw[d,e1,m];exact Ck n f i j (Er r k k a S) (Af r k k a S) (Et r k k a)
theorem aH.small(h:aH t e b d cs Nf):Nf.length<=2*qs/\∀o∈Nf,u7 o.1:=by
  refine nv (λO O=>⟨ZV _,λo a=>by cases a⟩) (λb d c cs Nf h r i=>?_) (λb d c cs Nf h f r i=>?_) h
  . refine⟨a9 0x7f3283850741c1cc841 [2,2] [_,_] [] i.1,λo a=>?_⟩;refine(ZI a).elim (λYA=>?_) λa=>?_;.rw[YA];exact xN _
    . refine(ZI a).elim (λYA=>?_) λa=>?_;.rw[YA];exact .inr (.inr (.inr rfl))
      .exact i.2 o a
  . refine⟨a9 0x1fcca0e141c1cc841 [2,2] [_,_] [] i.1,λo a=>?_⟩;refine(ZI a).elim (λYA=>?_) λa=>?_;.rw[YA];exact xN _
    .exact i.2 o a
theorem zV:∀(cs:Zb8),(∀c∈cs,c.1≠[]\/c.2.1≠[])->qs<=WR (WK aU)+Wz (WK aU):=by
 intro I;induction I with
 |Yl=>
  intro _;exact Zf _|Zp c cs a=>
  intro h;rw[cT,dB,ku,nH];have:1<=c.1.length+c.2.1.length:=by
   rcases h c (.head _)with g|g;.have:=Xi g;exact aV 0x1fcc0417682d [_,_] this
   .have:=Xi g;exact aV 0x1fcc0227682d [_,_] this
  exact bx 0x7ff9840b030a048183070f30290798082e [_,_,_,_,_,_] this (a λx hx=>h x (ZX _ hx))
theorem Good.x5(h:Good t e i)(c:YI<=1000)(hb:XQ<=1000):xQ i:=by
  obtain⟨o,w,k0,ps,⟨ka,kb,pre,os,rfl,a,hp⟩,ok,d,z1,z2⟩:=h;obtain⟨g,l1,l2⟩:=a.last d;obtain⟨f,j⟩:=a.first d;obtain⟨s1,s2⟩:=a.small;have b:Uy<=1:=by rcases hp with⟨rfl,_⟩|rfl<;>simp
  have e1:(oY (pre++os))=oY os:=by
    walk_at"j";clear b;rcases hp with⟨rfl,_⟩|rfl;.rfl
    .exact iW _ g
  have e2:(sj (pre++os)).2.1<=o+Xa/\(sj (pre++os)).2.2.2.1<=w+Xa:=by
    clear b e1;rcases hp with⟨rfl,_⟩|rfl;.exact⟨by rw[Yi,f];exact ZV _,by rw[Yi,j];exact ZV _⟩
    .exact⟨WN _ _,WN _ _⟩
  refine⟨λk=>g (XA k).2,λx hx=>?_,by rw[e1,l1];(exact bx 0x7ff910fb9293211e441 [_,_,_,_,_] (WN _ _:o+Xa<=fe (o+Xa) ps) e2),by rw[e1,l1];(exact cD 0x7ff978b21165e1 [1000,100000] [_,_] [] c z1),by rw[e1,l2];(exact bx 0x7ff9117b9097241e441 [_,_,_,_,_] (WN _ _:w+Xa<=fb (w+Xa) ps) e2),by rw[e1,l2];(exact cD 0x7ff978b21165e1 [1000,100000] [_,_] [] hb z2),?_⟩
  . refine(ZM hx).elim (λhx=>?_) λhx=>?_
    . rcases hp with⟨rfl,_⟩|rfl;.cases hx
      .rw[ZD hx];exact .inr (.inr (.inr rfl))
    .exact s2 x hx
  .rw[Z1];unfold fe at z1;unfold fb at z2;exact L5 c hb z1 z2 s1 (zV ps ok.chg) b
theorem zu(b:J Z)(x:Z):∀k,k<=Zw->(Tv b k x).length=(b.take k).countP (.==x):=by
 intro I;induction I with
 |VZ=>
  intro _;exact rfl|VC k c=>
  intro h;have a:b[k]?=some b[k]:=Z6 (JH h);rw[fK a x,Z1,c (O7 h),X9,a];show _=List.countP _ (b.take k++[b[k]]);rw[nC];congr 1;by_cases e:b[k]=x;.rw[ZT e,e];simp
  .rw[ZY e];simp[e]
theorem mT(b:J Z)(x:Z):(Tv b Zw x).length=b.countP (.==x):=by rw[zu b x _ (ZV _),XX]
theorem bV:c∈Tv b Zw x↔b[c]?=Zak:=by
  unfold Tv;rw[fk,List.mem_range];constructor;.intro h;simpa using h.2
  . intro h;refine⟨?_,by simpa using h⟩;refine(UJ c Zw).elim (λa=>?_) λa=>?_;.exact a
    .exact ax ((U1 a).symm.trans h)
variable{Nr:J U}
theorem wu(a:i∈Nr)(hj:b∈Nr)(h:i≠b):2<=Nr.length:=by
 have h1:=VK a;have h2:=(Wn (Zg h)).mpr hj;have:=R2 h2;exact cD 0x1ffe44fdc5c20e82d [2] [_,_] [] this h1
theorem uZ(b:i∈Nr)(hj:a∈Nr)(c:k∈Nr)(h:i≠a)(d:i≠k)(e:a≠k):3<=Nr.length:=by
 have h1:=VK b;have:=wu ((Wn (Zg h)).mpr hj) ((Wn (Zg d)).mpr c) e;exact cD 0x1ffe44fdc5c20e42f [2,3] [_,_] [] this h1
theorem xG(c:i∈Nr)(hj:a∈Nr)(d:k∈Nr)(hm:b∈Nr)(h1:i≠a)(h2:i≠k)(e:i≠b)(f:a≠k)(g:a≠b)(j:k≠b):4<=Nr.length:=by
 have:=uZ ((Wn (Zg h1)).mpr hj) ((Wn (Zg h2)).mpr d) ((Wn (Zg e)).mpr hm) f g j;exact cD 0x1ffe44fdc5c20e42f [3,4] [_,_] [] this (VK c)
theorem AF:∀(a ys:J Z),(∀x,a.count x<=ys.count x)->ZC<=TS:=by
  intro I;induction I with
  |Yl=>
    intro _ _;exact Zf _|Zp x a b=>
    intro ys h;have hx:x∈ys:=by
      rw[<-List.count_pos_iff];have:=h x;rw[List.count_cons_self]at this;exact aV 0x1fd09b9141c1 [_,_] this
    have i:=b (ys.erase x) λy=>by
      have:=h y;rw[List.count_cons]at this;rw[List.count_erase];by_cases e:x=y;.subst e;simp at this⊢;exact aV 0x7f3170839141c1 [_,_] this
      . have e1:(x==y)=false:=by simpa using e
        rw[e1]at this⊢;simp at this⊢;exact O9 this
    rw[VK hx]at i;have:=R2 hx;exact bx 0x7ff90c1c2cc5c11682d [_,_] this i
section
variable{a:Type}{f:a->J Z}{ln:a->Z}{d:J a}
def H3(f:a->J Z)(d:J a)(i:U):U:=((S5 i).flatMap f).length
def nR(f:a->J Z)(d:J a)(p i:U):Prop:=∃e,d[i]?=ZbU/\H3 f d i<=p/\p<H3 f d i+(f e).length
theorem nA(h:d[i]?=Zar):H3 f d (i+1)=H3 f d i+(f b).length:=by
 unfold H3;rw[X9,h,YT,Z1];simp
set_option tactic.hygienic true in theorem wg:∀{i j:U},i<=j->H3 f d i<=H3 f d j:=by
  intro i j h;induction h with
  |refl=>exact ZV _|step h b=>
    rename_i m;refine YX b ?_;refine gC (d[m]?) (λhm=>?_) λe hm=>?_;.have:=List.getElem?_eq_none_iff.mp hm;unfold H3;rw[YR this,YR (by exact aV 0x1fcc1c20e441 [_,_] this)];exact ZV _
    .rw[nA hm];exact WN _ _
def iz(f:a->J Z)(l:J a)(p:U):U:=VF (λe k p=>if p<(f e).length then 0 else k (p-(f e).length)+1) (λO=>0) p
theorem D8(f:a->J Z)(b r c):iz f (b::r) c=if c<(f b).length then 0 else iz f r (c-(f b).length)+1:=rfl
theorem nh:∀(d:J a)(p:U),p<(Yr f).length->nR f d p (iz f d p):=by
  intro I;induction I with
  |Yl=>
    intro p h;simp at h|Zp e r c=>
    intro p h;rw[Zz,Z1]at h;rw[D8];by_cases hp:p<(f e).length;.rw[ZT hp];exact⟨e,rfl,Zf _,by simpa[H3]using hp⟩
    . rw[ZY hp];obtain⟨g,h1,h2,i⟩:=c (p-(f e).length) (bx 0xfff438883cd083a80c41 [_,_,_] h hp);have b:H3 f (e::r) (iz f r (p-(f e).length)+1)=(f e).length+H3 f r (iz f r (p-(f e).length)):=by simp[H3]
      exact⟨g,h1,by rw[b];(exact bx 0xfff228047cd0c5988c41 [_,_,_] h2 hp),by rw[b];(exact aV 0x7f50240620ea041c441 [_,_,_,_] i)⟩
theorem nR.lt(h:nR f d b i):i<Yc:=by
 obtain⟨e,h,_⟩:=h;exact(ZN h).1
theorem nR.mono(h:nR f d c i)(j:nR f d k b)(hp:c<=k):i<=b:=by
  obtain⟨e,h1,h2,l⟩:=h;obtain⟨m,g,n,g3⟩:=j;refine(UJ b i).elim (λq=>?_) λq=>?_;.have:=wg (f:=f) (d:=d) q;rw[nA g]at this;exact FV 0x7ffffe4c5c849920f2316841 [_,_,_,_,_,_] g3 this h2 hp
  .exact q
theorem nR.uniq(h:nR f d c i)(b:nR f d c k):i=k:=gg (WT b (ZV _)) (b.mono h (ZV _))
theorem nR.mid(h:nR f d c i)(j:nR f d k i)(h1:c<=b)(h2:b<=k):nR f d b i:=by
 obtain⟨e,a1,a2,l⟩:=h;obtain⟨m,g,n,g3⟩:=j;rw[a1]at g;cases g;exact⟨e,a1,by exact EE a2 h1,by exact EN g3 h2⟩
theorem nR.line(j:∀e,∀x∈f e,x=ln e)(h:nR f d b i):∃x,(UX ln)[i]?=Zak/\(Yr f)[b]?=Zak:=by
 walk_at"b";obtain⟨e,h1,h2,c⟩:=h;refine⟨ln e,by rw[Zy,h1];rfl,?_⟩;have e1:d=S5 i++e::d.drop (i+1):=by
  obtain⟨hl,he⟩:=((ZN h1));rw[<-he,<-XB hl,XJ]
 walk_at"i";have e2:Yr f=(S5 i).flatMap f++(f e++(d.drop (i+1)).flatMap f):=by
  conv=>lhs;rw[e1]
  rw[YT,Zz]
 rw[e2,List.getElem?_append_right h2,UU (by show b-H3 f d i<_;exact bx 0x7ffa1c441c845a80c41 [_,_,_] c h2)];have g:b-H3 f d i<(f e).length:=by exact bx 0x7ffa1c441c845a80c41 [_,_,_] c h2
 show(f e)[b-H3 f d i]?=_;rw[Z6 g,j e _ (Un g)]
theorem nR.more(h:nR f d b i)(he:d[i]?=Zan)(h2:2<=(f c).length):∃p,p≠b/\nR f d p i:=by
 walk_at"b";obtain⟨e,h1,g,j⟩:=h;rw[he]at h1;cases h1;by_cases hp:b=H3 f d i;.exact⟨b+1,by exact cY 0x39b0c1c1 [_],c,he,by exact aV 0x1fcc1c116c41 [_,_] hp,by exact cD 0x7ffa8047070b631642f [2] [_,_,_] [] h2 hp⟩
 .exact⟨b-1,by exact bx 0x7ffcd8a2e1736116441 [_,_] g hp,c,he,by exact bx 0x3ffcc5c20f36116441 [_,_] g hp,by exact aV 0x1fd0a2e0e841 [_,_] j⟩
theorem nR.two(h:nR f d b i)(c:nR f d k i)(he:d[i]?=some l)(hp:b<k):2<=(f l).length:=by
 obtain⟨e,h1,g,m⟩:=h;obtain⟨e,h1,n,j⟩:=c;rw[he]at h1;cases h1;exact rU 0x1ffff237e824c905a80c41 [2] [_,_,_,_] [] j g hp
end
structure Lb(a b ys:J Z)(e i:U->U):Prop where
 oE:∀p x,a[p]?=Zak->ys[e p]?=some x
 oM:∀q x,b[q]?=Zak->i q<TS->ys[i q]?=some x
 CB:∀p d t,e p=e d->p<=t->t<=d->d<ZC->a[t]?=a[p]?
 CM:∀q c t,i q=i c->i q<TS->q<=t->t<=c->c<Zw->b[t]?=b[q]?
 vM:∀p d,p<=d->d<ZC->e p<=e d
 wm:∀q c,q<=c->c<Zw->i q<=i c
 Ki:∀q c x,TS<=i q->TS<=i c->b[q]?=Zak->b[c]?=Zak->q=c
 SH:∀p d q,p<d->d<ZC->e p=e d->q<Zw->i q=e p->∃c,c≠q/\c<Zw/\i c=e p
abbrev Rp:=U×U
structure Rel(a b:J Z)(u c:Rp):Prop where
 p:u.1<c.1
 q:u.2<c.2
 ap:(∃t,u.1<=t/\t<=c.1/\a[t]?≠a[u.1]?)\/∃t,u.2<=t/\t<=c.2/\b[t]?≠b[u.2]?
def Mt(a b:J Z)(u:Rp):Prop:=∃x,a[u.1]?=Zak/\b[u.2]?=some x
theorem bB(h:t[a]?=Zak):a<YI:=(ZN h).1
structure Rel2(a b:J Z)(N:U)(i d:U->U)(u c:Rp):Prop extends Rel a b u c where
 fl:d u.2<N->N<=d c.2->i u.1<i c.1
 un:∀x,a[c.1]?=Zak->(Tv b Zw x).length<=3
variable{Nw Nm:U->U}
theorem w7(c:Zc3):∀(l:J Rp),Tb (Rel2 t e X3 Nw Nm)->(∀u∈l,t[u.1]?=Zak/\e[u.2]?=Zak)->Xl<=(Tv ND X3 x).length:=by
  intro l R h;cases l with
  |Yl=>exact Zf _|Zp u l=>cases l with
    |Yl=>
      walk_at"L";have:=h u (by simp);exact R2 (Rr (c.oE _ _ this.1))|Zp b l=>cases l with
      |Yl=>
        walk_at"L";obtain⟨V,C⟩:=h u (by simp);obtain⟨o,k⟩:=h b (by simp);have r:Rel2 t e X3 Nw Nm u b:=by simpa using R
        have m:=c.wm _ _ (W' r.q) (bB k);show 2<=_;by_cases I:Nw u.1=Nw b.1
        . have e2:¬(Nm u.2=Nm b.2/\Nm u.2<X3):=λP7=>Uc P7 λe2 f=>by
            rcases r.ap with⟨y,t1,t2,t3⟩|⟨y,t1,t2,t3⟩;.exact t3 (c.CB _ _ _ I t1 t2 (bB o))
            .exact t3 (c.CM _ _ _ e2 f t1 t2 (bB k))
          rcases UJ (Nm b.2) X3 with N|N
          . have g':Nm u.2<X3:=by exact EN N m
            exact wu (Rr (c.oM _ _ C g')) (Rr (c.oM _ _ k N)) (λa=>e2 ⟨a,g'⟩)
          . rcases UJ (Nm u.2) X3 with g'|g';.have:=r.fl g' N;(exact bx 0x7ff920f620e841 [_,_,_,_] this I)
            .have:=c.Ki _ _ x g' N C k;have:=r.q;(exact bx 0x7ff920f620e841 [_,_,_,_] this ‹_›)
        .exact wu (Rr (c.oE _ _ V)) (Rr (c.oE _ _ o)) I|Zp w l=>cases l with
        |Yl=>
          obtain⟨V,C⟩:=h u (by simp);obtain⟨o,k⟩:=h b (by simp);obtain⟨Q,M⟩:=h w (by simp);have P8:(Rel2 t e X3 Nw Nm u b/\Rel2 t e X3 Nw Nm u w)/\Rel2 t e X3 Nw Nm b w:=by simpa using R
          obtain⟨⟨E,Qc⟩,F⟩:=P8;have P9:=F.un x Q;have i1:=c.oE _ _ V;have i:=c.oE _ _ o;have S:=c.oE _ _ Q;have X:=c.vM _ _ (W' E.p) (bB o);have m:=c.vM _ _ (W' F.p) (bB Q);have n1:=c.wm _ _ (W' E.q) (bB k);have T:=c.wm _ _ (W' F.q) (bB M);have PX:=E.q;have PM:=F.q;have apart:∀{s y:Rp},Rel2 t e X3 Nw Nm s y->y.1<YI->y.2<XQ->Nw s.1=Nw y.1->Nm s.2=Nm y.2->Nm s.2<X3->LV:=λr h1 h2 e1 e2 f=>by
            refine r.ap.elim (λYA=>?_) λYA=>?_;.obtain⟨y,t1,t2,t3⟩:=YA;exact t3 (c.CB _ _ _ e1 t1 t2 h1)
            .obtain⟨y,t1,t2,t3⟩:=YA;exact t3 (c.CM _ _ _ e2 f t1 t2 h2)
          show 3<=_;rcases UJ (Tv ND X3 x).length 3 with Qa|hge
          . exfalso;have n:∀{D PN PR:U},ND[D]?=Zak->ND[PN]?=Zak->ND[PR]?=Zak->D≠PN->D≠PR->PN≠PR->LV:=λPS hj Qb h1 h2 d=>by
              have:=uZ (Rr PS) (Rr hj) (Rr Qb) h1 h2 d;exact Ju Qa this
            have PT:∀{a:U},e[a]?=Zak->a≠u.2->a≠b.2->a≠w.2->LV:=λhq h1 h2 d=>by
              have:=xG (Rr hq) (Rr C) (Rr k) (Rr M) h1 h2 d (O2 PX) (La PX PM) (O2 PM);exact cD 0x1ffa72f0e42f [4,3] [_] [] this P9
            have oc:∀{a D:U},a<XQ->Nm a=D->D<X3->ND[D]?=Zak->e[a]?=Zak:=λ{a D}hq I PS hy=>by
              have:=c.oM a _ (Z6 hq) (by rw[I];exact PS);rw[I,hy]at this;rw[Z6 hq,this]
            rcases UJ (Nm w.2) X3 with g3|g3
            . have g:Nm b.2<X3:=by exact EN g3 T
              have G:Nm u.2<X3:=by exact EN g n1
              have j1:=c.oM _ _ C G;have j:=c.oM _ _ k g;have PY:=c.oM _ _ M g3;have PZ:=apart F (bB Q) (bB M);have t2:=@n (Nm u.2) (Nm b.2) (Nm w.2) j1 j PY;by_cases e1:Nw u.1=Nw b.1
              . have e2:Nm u.2<Nm b.2:=H2 n1 λa=>(apart E (bB o) (bB k)) e1 a G;have f:Nm b.2=Nm w.2:=XT λa=>t2 (by exact O2 e2) (by exact bx 0xfff9b1872316841 [_,_,_] e2 T) a;have A:Nw b.1<Nw w.1:=H2 m λa=>PZ a f g;have B:Nm u.2=Nw b.1:=XT λa=>(@n (Nw b.1) (Nw w.1) (Nm u.2) i S j1) (by exact O2 A) (by exact HI a) (by
                  intro q2;exact@n (Nw b.1) (Nm u.2) (Nm b.2) i j1 j (λz=>a z.symm) (fX 0xffffcd903a20f6316841 [_,_,_,_] A q2 e2) (O2 e2));obtain⟨P0,h1,h2,d⟩:=c.more _ _ u.2 E.p (bB o) e1 (bB C) (by rw[B,e1]);refine PT (oc h2 d (fX 0x7fffd089b193630e841 [_,_,_,_] G B e1) i1) h1 (λz=>?_) (λz=>?_);.rw[z]at d;(exact FV 0x1ffffe9d8c9b20b630e841 [_,_,_,_] e2 B d e1)
                .rw[z]at d;(exact LH 0x1ffffff4ec65d949b20b630e841 [_,_,_,_,_] e2 B f d e1)
              . have e2:Nw b.1=Nw w.1:=XT λa=>(@n (Nw u.1) (Nw b.1) (Nw w.1) i1 i S) e1 (fX 0x1ffff9b1879b18b2316441 [_,_,_] X m a) a;have f:=H2 T λa=>PZ e2 a g;have A:Nm u.2=Nm b.2:=XT λa=>t2 a (bx 0xfff9b10f211e841 [_,_,_] f n1) (O2 f);have B:Nm w.2=Nw b.1:=XT λa=>by
                  by_cases z:Nm w.2=Nw u.1;.exact@n (Nw u.1) (Nw b.1) (Nm b.2) i1 i j (bx 0x1fff363173630ec41 [_,_,_] z a) (bx 0xfff9b08f6316841 [_,_,_] f z) (fX 0xffffcd849920f6316841 [_,_,_,_] f z X)
                  .exact@n (Nw u.1) (Nw b.1) (Nm w.2) i1 i PY (aV 0x1fe6c41e6c41 [_,_] e1) (HI z) (HI a)
                obtain⟨P0,h1,h2,d⟩:=c.more _ _ w.2 F.p (bB Q) e2 (bB M) B;refine PT (oc h2 d (bx 0x7ffa10f630e841 [_,_,_] g3 B) i) (λz=>?_) (λz=>?_) h1;.rw[z]at d;(exact FV 0x1ffffe9d8c9b0936316841 [_,_,_,_] f B A d)
                .rw[z]at d;(exact fX 0x1fffd3b18b630e841 [_,_,_] f d B)
            . have g:Nm b.2<X3:=XT λa=>by have:=c.Ki _ _ x (C' a) g3 k M;(exact Ig PM this)
              have G:Nm u.2<X3:=by exact EN g n1
              have j1:=c.oM _ _ C G;have j:=c.oM _ _ k g;have e1:=F.fl g g3;have e2:Nw u.1=Nw b.1:=XT λa=>n i1 i S a (bx 0xfff9b10f211e841 [_,_,_] e1 X) (O2 e1);have f:Nm u.2<Nm b.2:=H2 n1 λa=>apart E (bB o) (bB k) e2 a G;have A:Nm u.2=Nw b.1:=XT λa=>by
                by_cases z:Nm u.2=Nw w.1;.exact@n (Nw b.1) (Nw w.1) (Nm b.2) i S j (O2 e1) (fX 0xffffcd889a193630e841 [_,_,_,_] f z e1) (bx 0xfff9b10f630e841 [_,_,_] f z)
                .exact@n (Nw b.1) (Nw w.1) (Nm u.2) i S j1 (O2 e1) (HI a) (HI z)
              obtain⟨P0,h1,h2,d⟩:=c.more _ _ u.2 E.p (bB o) e2 (bB C) (by rw[A,e2]);refine PT (oc h2 d (fX 0x7fffd089b193630e841 [_,_,_,_] G A e2) i1) h1 (λz=>?_) (λz=>?_);.rw[z]at d;(exact FV 0x1ffffe9d8c9b20b630e841 [_,_,_,_] f A d e2)
              .rw[z]at d;(exact LH 0x1ffffff4ec65d949920b630e841 [_,_,_,_,_] f A T d e2)
          .exact hge|Zp z r=>
          exfalso;have P2:=WG R;have P4:=WG P2.2;have P5:=WG P4.2;have P6:=h z (by simp);have PW:=(P2.1 b (by simp)).q;have q2:=(P4.1 w (by simp)).q;have q3:=(P5.1 z (by simp)).q;have:=xG (Rr (h u (by simp)).2) (Rr (h b (by simp)).2) (Rr (h w (by simp)).2) (Rr P6.2) (O2 PW) (La PW q2) (fX 0xffffcd903a20f4316841 [_,_,_,_] PW q2 q3) (O2 q2) (La q2 q3) (O2 q3);exact cD 0x1ffa72f0e42f [4,3] [_] [] this ((P5.1 z (.head _)).un x P6.1)
theorem wG(d:Zc3):∀(l:J Rp),Tb (Rel t e)->(∀u∈l,Mt t e u)->∃l1 l2,l=l1++l2/\(∀u∈l1,Nm u.2<X3)/\∀u∈l2,X3<=Nm u.2:=by
  intro I;induction I with
  |Yl=>
    intro _ _;exact(Vo ([]) ([]) ⟨rfl,λu b=>(by cases b),λu b=>(by cases b)⟩)|Zp u l f=>
    intro R h;have c:=WG R;rcases UJ (Nm u.2) X3 with g|g
    . obtain⟨l1,l2,i,h1,h2⟩:=f c.2 λa hv=>h a (ZX _ hv);clear R h c;refine(Vo (u::l1) l2 ⟨by rw[i];rfl,λa hv=>?_,h2⟩);refine(ZI hv).elim (λYA=>?_) λhv=>?_;.rw[YA];exact g
      .exact h1 a hv
    . refine(Vo ([]) (u::l) ⟨rfl,λa hv=>(by cases hv),λa hv=>?_⟩);refine(ZI hv).elim (λYA=>?_) λhv=>?_;.rw[YA];exact g
      .obtain⟨x,_,hx⟩:=h a (ZX _ hv);exact YX g (d.wm _ _ (W' (c.1 a hv).q) (bB hx))
theorem vn{l:J Rp}(c:Zc3)(R:Tb (Rel t e))(h:∀u∈l,Mt t e u)(b:∀u∈vi 1,∀x,t[u.1]?=Zak->(Tv e XQ x).length<=3):Xl<=X3+1:=by
  obtain⟨l1,l2,f,h1,h2⟩:=wG c l R h;have B:(l1++l2.drop 1).Pairwise (Rel2 t e X3 Nw Nm):=by
    walk_at"M";have un:Tb λu d=>∀x,t[d.1]?=Zak->(Tv e XQ x).length<=3:=by
      walk_at"M";clear R h f;cases l with|Yl=>exact .nil|Zp I l=>
        refine List.pairwise_cons.mpr ⟨λd hv=>b d hv,?_⟩;exact List.pairwise_iff_forall_sublist.mpr λ{s a}C=>b a (C.subset (.tail _ (.head _)))
    have j:Tb λu d=>Rel t e u d/\∀x,t[d.1]?=Zak->(Tv e XQ x).length<=3:=R.and un;rw[f]at j;obtain⟨D,r2,r⟩:=List.pairwise_append.mp j;refine List.pairwise_append.mpr ⟨?_,?_,?_⟩;.exact Dp (λ{s a}hs ht k=>⟨k.1,λO g=>Za (h1 a ht) (by exact aV 0xff34116441 [_,_] g),k.2⟩) D
    .exact Dp (λ{s a}hs ht k=>⟨k.1,λg O=>Za (h2 s (UI hs)) (by exact aV 0xff32116841 [_,_] g),k.2⟩) (r2.sublist (List.drop_sublist 1 l2))
    .intro s hs a ht;have k:=r s hs a (UI ht);refine⟨k.1,λO O=>?_,k.2⟩;walk_at"bh";clear j;cases l2 with
      |Yl=>cases ht|Zp v0 w=>
        have m:a∈w:=ht;have k0:=(r s hs v0 (.head _)).1;have A:=((WG r2).1 a m).1;have mem:∀z∈v0::w,z∈l:=λz E=>by rw[f];exact Y1 _ E
        obtain⟨M,n,F⟩:=h v0 (mem v0 (.head _));obtain⟨N,y,o⟩:=h a (mem a (ZX _ m));have:Nw v0.1≠Nw a.1:=λi=>by
          have e1:=c.oE _ _ n;rw[i,(c.oE _ _ y)]at e1;clear n;cases e1;have:=c.Ki _ _ _ (h2 v0 (.head _)) (h2 a (ZX _ m)) F o;have:=A.q;exact Ig this ‹_›
        exact fX 0xffffa1879b18b2316441 [_,_,_] (c.vM _ _ (W' k0.p) (bB n)) (c.vM _ _ (W' A.p) (bB y)) this
  have hm:∀u∈l1++l2.drop 1,Mt t e u:=λu b=>h u (by
    rw[f];refine(ZM b).elim (λi=>?_) λi=>?_;.exact Y2 _ i
    .exact Y1 _ (UI i));have hb:=AF ((l1++l2.drop 1).map λu=>t.getD u.1 "") ND λx=>by
    rw[List.count,TU,Vv];have:=w7 c (x:=x) ((l1++l2.drop 1).filter ((.==x)∘λu:Rp=>t.getD u.1 "")) (B.sublist List.filter_sublist) λu b=>by
      obtain⟨b,hx⟩:=SJ b;obtain⟨G,y,o⟩:=hm u b;have:G=x:=by
        have:(t.getD u.1 ""==x)=true:=hx;rw[Z0,y]at this;exact Zi this
      rw[<-this];exact⟨y,o⟩
    rw[mT]at this;exact this
  rw[Z2,Z1,Zd]at hb;rw[f,Z1];exact aV 0x7f3070e020e4708b841 [_,_,_] hb
theorem tC{l:J Rp}(b:Zc3)(m:∀f,f<XQ->Nm f<X3)(R:Tb (Rel t e))(h:∀u∈l,Mt t e u):Xl<=X3:=by
  have A:Tb λu a=>Nw u.1+Nm u.2+2<=Nw a.1+Nm a.2:=by
    walk_at"M";refine Dp (λ{u a}B hv r=>?_) R;obtain⟨C,o,x⟩:=h u B;obtain⟨E,j,y⟩:=h a hv;have g:=m _ (bB x);have same:∀{i:U}{z w:Z},ND[i]?=some z->ND[i]?=some w->z=w:=λh1 h2=>ZW (pj h2);by_cases s:Nw u.1=Nw a.1
    . have D:C=E:=by
        have e1:=b.oE _ _ o;have e2:=b.oE _ _ j;rw[s]at e1;exact same e1 e2
      subst D;obtain⟨d,t1,t2,t3⟩:∃d,u.2<=d/\d<=a.2/\e[d]?≠e[u.2]?:=by
        walk_at"b";refine r.ap.elim (λYA=>?_) λk=>?_;.obtain⟨d,t1,t2,t3⟩:=YA;exact Za (b.CB _ _ _ s t1 t2 (bB j)) t3
        .exact k
      have ht:d<XQ:=U8 t2 (bB y);have n1:=b.wm _ _ t1 ht;have n:=b.wm _ _ t2 (bB y);have c1:Nm u.2≠Nm d:=λf=>t3 (b.CM _ _ _ f g t1 (ZV _) ht);have c2:Nm d≠Nm a.2:=λf=>t3 (by
        have:=b.CM _ _ a.2 f (m _ ht) t2 (ZV _) (bB y);rw[<-this,y,x]);exact E9 0x7ffffff3028a0f80c3cd949cd9079293241ec41 [2] [_,_,_,_,_] [] s n1 n c1 c2
    . by_cases e2:Nm u.2=Nm a.2
      . have D:C=E:=by
          have e1:=b.oM _ _ x g;rw[e2]at e1;exact same e1 (b.oM _ _ y (m _ (bB y)))
        subst D;obtain⟨d,t1,t2,t3⟩:∃d,u.1<=d/\d<=a.1/\t[d]?≠t[u.1]?:=by
          walk_at"b";refine r.ap.elim (λk=>?_) λYA=>?_;.exact k
          .obtain⟨d,t1,t2,t3⟩:=YA;exact Za (b.CM _ _ _ e2 g t1 t2 (bB y)) t3
        have ht:d<YI:=U8 t2 (bB j);have c2:Nw d≠Nw a.1:=λf=>t3 (by
          have:=b.CB _ _ a.1 f t2 (ZV _) (bB j);rw[<-this,j,o]);exact E9 0x7ffffff301160f8047cd949cd9079293241ec41 [2] [_,_,_,_,_] [] e2 (b.vM _ _ t1 ht) (b.vM _ _ t2 (bB j)) (λf=>t3 (b.CB _ _ _ f t1 (ZV _) ht):Nw u.1≠Nw d) c2
      .exact pk 0x7ffffe604141f01879b20f9b107241e441 [2] [_,_,_,_] [] (b.vM _ _ (W' r.p) (bB j)) (b.wm _ _ (W' r.q) (bB y)) s e2
  have top:∀u∈l,Nw u.1+Nm u.2+2<=2*X3:=λu B=>by
    walk_at"bi";walk_at"L";obtain⟨C,o,x⟩:=h u B;exact cD 0xfff32141f0187421e841 [2,2] [_,_,_] [] (bB (b.oE _ _ o):Nw u.1<X3) (m _ (bB x))
  have gen:∀(l:J Rp)(c:U),Tb (λu a=>Nw u.1+Nm u.2+2<=Nw a.1+Nm a.2)->(∀u∈l,c<=Nw u.1+Nm u.2)->(∀u∈l,Nw u.1+Nm u.2+2<=2*X3)->c<=2*X3->c+2*Xl<=2*X3:=by
    intro l;induction l with
    |Yl=>intro c O O O h;exact h|Zp u l I=>
      intro c A M ht N;have F:=WG A;have G:=M u (.head _);have:=I (c+2) F.2 (λa hv=>by have:=F.1 a hv;(exact bx 0x7ff91c044c84991c041 [_,_,_,_] this G)) (λa hv=>ht a (ZX _ hv)) (by exact bx 0x7ff91c044c84991c041 [_,_,_,_] (ht u (.head _)) G);rw[YG];(exact a9 0x1fc8e1283841c8e12141e1 [2,2,2] [_,_,_] [] this)
  have:=gen l 0 A (λu O=>Zf _) top (Zf _);exact a9 0x7f220e6428482d [2,2] [_,_] [] this
def jA(XN:Z->YZ)(a:J Z)(m:eG):U:=((Zh m.2.2).find? λt=>!XN (Vu (m.1+t) "")).getD 0
def tV(XN:Z->YZ)(a:J Z)(m:eG):Rp:=(m.1+jA XN a m,m.2.1+jA XN a m)
theorem xv(h:0<a.2.2):jA C t a<a.2.2:=by
 unfold jA;refine gC ((Zh a.2.2).find? λb=>!C (t.getD (a.1+b) "")) (λe=>?_) λb e=>?_;.rw[e];exact h
 .rw[e];exact WX (List.mem_of_find?_eq_some e)
theorem Dk(h:∃a x,a<b.2.2/\t[b.1+a]?=Zak/\C x=false):∀x,t[b.1+jA C t b]?=Zak->C x=false:=by
  obtain⟨a,y,h1,h2,c⟩:=h;intro x hx;unfold jA at hx;refine gC ((Zh b.2.2).find? λa=>!C (t.getD (b.1+a) "")) (λe=>?_) λd e=>?_;.have:=List.find?_eq_none.mp e a (List.mem_range.mpr h1);rw[Z0,h2]at this;exact Za (by simpa using c) this
  .have:=List.find?_some e;rw[e]at hx;rw[Z0,show t[b.1+d]?=some x from hx]at this;simpa using this
theorem Ch.lower:∀(l:J eG)(a b:U),Ch C t e i k a b l->∀m∈l,a<=m.1/\b<=m.2.1:=by
  intro I;induction I with
  |Yl=>
    intro _ _ _;exactλm hm=>by cases hm|Zp x r c=>
    intro a b h;exactλm hm=>by
      obtain⟨h1,h2,d,_,_,_,f⟩:=h;walk_at"g";clear d;rcases ZI hm with rfl|hm;.exact⟨h1,h2⟩
      .have:=c _ _ f m hm;exact fX 0x7fffee4a7c8cd921f2137725808991c041 [_,_,_,_,_,_,_] this h1 h2
theorem As:∀(l:J eG)(a b:U),s<=YI->Ch C t e s F a b l->lD t e l->(t' (tV C t)).Pairwise (Rel t e):=by
  intro j;induction j with
  |Yl=>
    intro _ _ _ _ _;exact .nil|Zp m o I=>cases o with
    |Yl=>
      intro _ _ _ _ _;exact List.pairwise_singleton _ _|Zp n r=>
      intro a b p h hs;obtain⟨h1,h2,u,w,G,M,f⟩:=h;refine List.pairwise_cons.mpr ⟨λN hv=>?_,(I _ _ p f hs.2)⟩;clear I;obtain⟨y,hy,YA⟩:=Zl hv;rw[<-YA];have hn:=Ch.lower _ _ _ f n (.head _);obtain⟨g,x,g3,z,A,B,D⟩:=(f);have d:n.1<=y.1/\n.2.1<=y.2.1:=by
        clear hs f hv hn g x g3 z A B;refine(ZI hy).elim (λYA=>?_) λhy=>?_;.rw[YA];exact⟨ZV _,ZV _⟩
        .have:=Ch.lower _ _ _ D y hy;exact aV 0x7fb9293230f725808991c041 [_,_,_,_,_] this
      have t1:=xv (C:=C) (t:=t) u;have i:=w _ t1;walk_at"bj";refine⟨by show m.1+_<y.1+_;(exact Ln hn d t1),by show m.2.1+_<y.2.1+_;(exact KQ t1 hn d),?_⟩;show(∃c,m.1+jA C t m<=c/\c<=y.1+jA C t y/\t[c]?≠t[m.1+jA C t m]?)\/∃c,m.2.1+jA C t m<=c/\c<=y.2.1+jA C t y/\e[c]?≠e[m.2.1+jA C t m]?;walk_at"n";refine hs.1.elim (λk=>?_) λYA=>?_
      . by_cases q:t[m.1+m.2.2]?=t[m.1+jA C t m]?;.right;exact⟨m.2.1+m.2.2,by exact aV 0x7f3010e011e841 [_,_,_] t1,by exact bx 0x1ffe60730fb931325177241e441 [_,_,_,_,_,_,_] hn d,λq2=>k (by rw[q,q2,i])⟩
        .left;exact⟨m.1+m.2.2,by exact aV 0x7f3010e011e841 [_,_,_] t1,by exact bx 0x1ffe607287b931325177241e441 [_,_,_,_,_,_,_] hn d,q⟩
      . obtain⟨Q,k2,E⟩:=YA;by_cases q:t[n.1-1]?=t[m.1+jA C t m]?;.right;exact⟨n.2.1-1,by exact bx 0x1ffe62e34025ee4d0117241e841 [_,_,_,_,_,_] t1 hn,by exact aV 0x7f302922e1f7241e441 [_,_,_,_,_] d,λq2=>E (by rw[q,q2,i])⟩
        .left;exact⟨n.1-1,by exact bx 0x1ffe62e1c0c1d08ddc94991c041 [_,_,_,_,_,_] hn t1,by exact aV 0x7f3028a2e0f7241e441 [_,_,_,_,_] d,q⟩
theorem Dl(d:a<=YI)(h:Ch C t e a b k n l):∀u∈t' (tV C t),Mt t e u:=by
 intro u f;obtain⟨m,hm,YA⟩:=Zl f;rw[<-YA];obtain⟨i1,i,g,j⟩:=(q0 _ _ _ h).2.2 m hm;have c:=xv (C:=C) (t:=t) i1;have hl:m.1+jA C t m<YI:=by exact fX 0x7fffd12050e845c90791c041 [_,_,_,_,_] g d c
 exact⟨_,Z6 hl,by show e[m.2.1+jA C t m]?=_;rw[<-(i _ c)];exact Z6 hl⟩
theorem Ef(h:Ch C t e n q a b l):∀u∈(t' (tV C t)).drop 1,∀x,t[u.1]?=Zak->C x=false:=by cases l with
 |Yl=>intro u c;cases c|Zp m r=>
  obtain⟨h1,h2,j,p,s,w,d⟩:=h;intro u c;obtain⟨y,hy,YA⟩:=Zl (show u∈r.map (tV C t)from c);rw[<-YA];refine Dk ?_;have:∀l(a b),Ch C t e n q a b l->∀y∈l,(∃f x,f<y.2.2/\t[y.1+f]?=Zak/\C x=false)\/y.1=0/\y.2.1=0:=by
   intro l;induction l with|Yl=>intro O O O y hy;exact nomatch hy|Zp z l i=>
    intro a b h y hy;walk_at"n";obtain⟨_,_,_,_,g,_,o⟩:=h;rcases ZI hy with rfl|hy;.exact g
    .exact i _ _ o y hy
  refine(this r _ _ d y hy).elim (λk=>?_) λk=>?_;.exact k
  .exact(fX 0x7fff4f723804b9113bb68f6d1682d [_,_,_,_,_] j k (Ch.lower _ _ _ d y hy)).elim
theorem xy(e:Ent):∀x∈e.a,x=e.line++nl:=λx hx=>by
 unfold za at hx;split at hx;.exact List.eq_of_mem_replicate hx
 .exact nomatch hx
theorem uG(e:Ent):∀x∈e.b,x=e.line++nl:=λx hx=>by
 unfold Wl at hx;split at hx;.exact List.eq_of_mem_replicate hx
 .exact nomatch hx
theorem Fs(h:x++nl=a++nl):x=a:=by
 apply eD;have h1:=Zq (λs:Z=>RO) h;simp only[Xw,Y0]at h1;exact List.append_cancel_right h1
theorem uf(h:(i8 a SH)[b]?=Zak):x=gI ((100+(a+b):U):Zv)++nl:=by
  walk_at"i";unfold i8 at h;rw[Zy]at h;rcases UJ b (200*SH-a)with hj|hj;.rw[Vr hj]at h;rw[<-ZW h];walk_at"r";congr 2
  .rw[U1 (by simpa using hj)]at h;cases h
theorem Hs:Lb (Vh d) (du d SH) (UX λe=>e.line++nl) (iz za d) (λq=>if q<(Yr Wl).length then iz Wl d q else Yc):=by
  have i:∀p,p<(Vh d).length->nR za d p (iz za d p):=λp hp=>nh d p hp;have t:∀q,q<(Yr Wl).length->nR Wl d q (iz Wl d q):=λp hp=>nh d p hp;have bl:∀q,q<(Yr Wl).length->(du d SH)[q]?=(Yr Wl)[q]?:=λq hq=>by unfold du;rw[UU hq]
  have C:∀q,(Yr Wl).length<=q->(du d SH)[q]?=(i8 (Yr Wl).length SH)[q-(Yr Wl).length]?:=λq hq=>by unfold du;rw[List.getElem?_append_right hq]
  constructor;.intro p x hx;walk_at"r";obtain⟨r,j,y⟩:=(i p (bB hx)).line xy;unfold Vh at hx;rw[hx]at y;cases y;exact j
  . intro q x hx hq;rw[Z2]at hq;by_cases h:q<(Yr Wl).length;.simp only[h,e3]at hq⊢;obtain⟨r,j,y⟩:=(t q h).line uG;rw[bl q h,y]at hx;rw[<-hx];exact j
    .simp only[h,A_]at hq;exact Za hq (UA _)
  .intro p m u e h1 h2 w;have a1:=i p (fX 0x7fffd0899193211e841 [_,_,_,_] w h2 h1);have a2:=i m w;rw[<-e]at a2;have A:=a1.mid a2 h1 h2;obtain⟨r,j,y⟩:=a1.line xy;obtain⟨z,z1,z2⟩:=A.line xy;rw[j]at z1;cases z1;unfold Vh;rw[y,z2]
  . intro q c u e l h1 h2 w;rw[Z2]at l;by_cases h:c<(Yr Wl).length
    . have g:q<(Yr Wl).length:=by exact fX 0x7fffd0899193211e841 [_,_,_,_] h h2 h1
      walk_at"r";have gt:u<(Yr Wl).length:=by exact EN h h2
      simp only[h,g,e3]at e;have a1:=t q g;have a2:=t c h;rw[<-e]at a2;have A:=a1.mid a2 h1 h2;obtain⟨r,j,y⟩:=a1.line uG;obtain⟨z,z1,z2⟩:=A.line uG;rw[j]at z1;cases z1;rw[bl q g,bl u gt,y,z2]
    .simp only[h,A_]at e;rw[e]at l;exact Za l (UA _)
  .intro p m h1 h2;exact(i p (EN h2 h1)).mono (i m h2) h1
  . intro q c h1 h2;by_cases h:c<(Yr Wl).length
    . have g:q<(Yr Wl).length:=by exact EN h h1
      rw[ZT h,ZT g];exact(t q g).mono (t c h) h1
    . rw[ZY h];refine bQ rfl (λg=>?_) λO=>?_;.exact W' (t q g).lt
      .exact ZV _
  . intro q c x h1 h2 e1 e2;rw[Z2]at h1 h2;have g:∀q,Yc<=(if q<(Yr Wl).length then iz Wl d q else Yc)->(Yr Wl).length<=q:=λq h=>by
      by_cases k:q<(Yr Wl).length;.rw[ZT k]at h;have:=(t q k).lt;exact bx 0x7ff920f2116841 [_,_,_,_] this h
      .exact C' k
    have n:=g q h1;have o:=g c h2;rw[C q n]at e1;rw[C c o]at e2;have f:=uf e2;rw[(uf e1)]at f;have:=nF (Fs f);exact fX 0x7fffd907920b2316e10888820c21110c41 [_,_,_,_] this n o
  . intro p m q h1 h2 e hq e2;walk_at"b";have a1:=i p (bx 0x7ffa1874316841 [_,_,_] h1 h2);have a2:=i m h2;rw[<-e]at a2;have l:=a1.lt;have he:=Z6 l;have s2:=a1.two a2 he h1;by_cases h:q<(Yr Wl).length
    . rw[ZT h]at e2;have b1:=t q h;rw[e2]at b1;have s:2<=(Wl d[iz za d p]).length:=by
        obtain⟨E,n,o,g3⟩:=b1;rw[he]at n;cases n;have c1:(Wl d[iz za d p]).length≠0:=by exact bx 0x3ffe6da3c845a80c41 [_,_,_] g3 o
        unfold Wl at c1⊢;unfold za at s2;split at c1
        . rename_i k;rw[ZT k];split at s2;.exact s2
          .exact Za s2 Z'
        .exact Za rfl c1
      obtain⟨c,D,k2⟩:=b1.more he s;have B:c<(Yr Wl).length:=by
        obtain⟨z,_,z2⟩:=k2.line uG;exact bB z2
      refine⟨c,D,?_,?_⟩;.unfold du;rw[Z1];exact Jp B
      .rw[ZT B];exact(t c B).uniq k2
    .rw[ZY h]at e2;exact(bx 0x1ffa76116841 [_,_] l e2).elim
theorem BX(hm:SH<=1)(he:Yc<=62):(dE (Vh d) (du d SH)).length<64:=by
  have B:=vo (C:=eZ (du d SH)) ((Vh d).length+1) (0,(Vh d).length,0,(du d SH).length) ⟨Zf _,ZV _,Zf _,ZV _⟩ (by show(Vh d).length-0<_;exact cY 0x6a0e0c5a1 [_]) (.inl ⟨rfl,rfl⟩);have a:=Hs (d:=d) (SH:=SH);have R:=As _ _ _ (ZV _) B.ch B.sep;have M:=Dl (ZV _) B.ch;rw[<-Z2 (f:=tV (eZ (du d SH)) (Vh d))];have len:(du d SH).length=(Yr Wl).length+(200*SH-(Yr Wl).length):=by unfold du i8;simp
  by_cases h:200*SH<=(Yr Wl).length;.have:=tC a (λq hq=>by
      rw[Z2];rw[ZT (show q<(Yr Wl).length by exact fX 0x7fffd0c391937088c8316841 [_,_,_,_] hq len h)];exact(nh d q (fX 0x7fffd0c391937088c8316841 [_,_,_,_] hq len h)).lt) R M;rw[Z2,Z2]at this;rw[Z2];exact U8 this (a9 0x7f4f0e5e1 [62,64] [_] [] he)
  . have:=vn a R M λu c x hx=>by
      have p:=Ef B.ch u c x hx;unfold eZ at p;have l:(du d SH).length=200:=by exact LP len hm h
      rw[decide_eq_false_iff_not,l]at p;rw[l];exact J8 p
    rw[Z2 (f:=λe:Ent=>e.line++nl)]at this;exact U8 this (a9 0x1fd3e0e0e5e1 [62,64] [_] [] he)
theorem qq(XN:J Z)(rs:Xb):∀i:J Z,cf XN [] [] (XO i++rs)=cf XN [] [] rs:=by
 intro I;induction I with
 |Yl=>exact rfl|Zp x i a=>
  show cf XN [] [] ((" ",x)::(XO i++rs))=_;rw[fM,ZY (λh=>pK h.symm),ZY (λh=>qj h.symm),a];show(dX XN [] []&&_)=_;rw[show dX XN [] []=true from rfl,o_]
theorem zt(XN c:J Z)(rs:Xb):∀(d g:J Z),cf XN g c (UX (λx=>(("-"),x))++rs)=cf XN (g++d) c rs:=by
 intro I;induction I with
 |Yl=>
  intro g;rw[Zm];rfl|Zp a d b=>
  intro g;show cf XN g c (("-",a)::(UX (λx=>(("-"),x))++rs))=_;rw[fM,ZT rfl,b,ZQ];rfl
theorem EZ:¬("+"=("-")):=by rw[ay];decide
theorem wW(XN g:J Z)(rs:Xb):∀(d c:J Z),cf XN g c (UX (λx=>(("+"),x))++rs)=cf XN g (c++d) rs:=by
 intro I;induction I with
 |Yl=>
  intro c;rw[Zm];rfl|Zp a d b=>
  intro c;show cf XN g c (("+",a)::(UX (λx=>(("+"),x))++rs))=_;rw[fM,ZY EZ,ZT rfl,b,ZQ];rfl
theorem mV(XN g c:J Z)(x:Z)(rs:Xb)(h:dX XN g c=true):cf XN g c ((" ",x)::rs)=cf XN [] [] rs:=by rw[fM,ZY (λh=>pK h.symm),ZY (λh=>qj h.symm),h,o_]
theorem Ae(XN:J Z):∀(cs:Zb8),a7 cs->(∀c∈cs,dX XN c.1 c.2.1=true)->cf XN [] [] (WK aU++[((" "),(""))])=true:=by
  intro d;induction d with
  |Yl=>
    intro _ _;show cf XN [] [] [_]=true;rw[mV XN [] [] _ _ rfl];rfl|Zp c cs I=>
    intro ok h;obtain⟨_,he,t⟩:=ok.qM;have b:=h c (.head _);rw[ZQ,ZQ,ZQ,zt,wW];clear ok;refine wB (c.2.2) (λa=>?_) λy ys a=>?_;.rw[a];have:=he.resolve_right (λg=>g a);clear I t;rw[this];show cf XN c.1 c.2.1 [_]=true;rw[mV _ _ _ _ _ b];rfl
    .rw[a];show cf XN c.1 c.2.1 ((" ",y)::(XO ys++_))=true;rw[mV _ _ _ _ _ b,qq];exact(I t λx hx=>h x (ZX _ hx))
theorem Bc(b:J Z)(x:Z)(h:eZ b x=true):qf b x=true:=by
 unfold eZ at h;rw[XY,mT]at h;rw[YM,XY,XY];exact Lw h
theorem pZ(G:HK (eZ b) a b i d c f)(u:d<=ZC)(hj:f<=Zw):dX (gQ b) ((IC i).take (d-i)) ((Ta c).take (f-c))=true:=by
  rw[YM];constructor
  . rw[G0,Bool.and_eq_false_iff];by_cases g:c<f
    . left;rw[Uu];intro o;have e:=Zq (λl:J Z=>l[0]?) o;simp only[TZ,T4,vs,ZT Nat.zero_lt_one,ZT (show 0<f-c by exact GG g)]at e;by_cases hg:i<d;.rw[ZT (show 0<d-i by exact GG hg)]at e;exact G.fst hg g e
      .rw[ZY (show¬0<d-i by exact aV 0x7f9a8844de6841 [_,_] hg),Z6 (show c<Zw by exact JQ g hj)]at e;exact ax e
    .right;rw[show f-c=0 by(exact aV 0x3fb6c422e6841 [_,_] g)];rfl
  . rw[List.isEmpty_iff,List.filter_eq_nil_iff];intro x hx hp;rw[YM,G0,List.contains_iff_mem]at hp;obtain⟨p,j,r⟩:=Sk hx;obtain⟨q,k,s⟩:=Sk hp.1;have p0:p<d-i:=by rw[Zo]at j;exact LI j
    have m:q<f-c:=by rw[Zo]at k;exact LI k
    have t:a[i+p]?=Zak:=by
      have:=Z6 j;rw[r,TZ,ZT p0,T4]at this;exact this
    have n:b[c+q]?=Zak:=by
      have:=Z6 k;rw[s,TZ,ZT m,T4]at this;exact this
    have:=Bc b x (G.M7 (i+p) (c+q) x (O1) (aV 0x7f428047a88c41 [_,_,_] p0) (O1) (aV 0x7f428047a88c41 [_,_,_] m) t n);have mem:x∈gQ b:=p' ⟨YO n,this⟩;rw[List.contains_iff_mem.mpr mem]at hp;exact Za hp.2 Z'
theorem vL:∀(l:J eG)(i j:U),Ch (eZ b) a b ZC Zw i j l->∀c∈dw a b i j l,dX (gQ b) c.1 c.2.1=true:=by
  intro I;induction I with
  |Yl=>
    intro i j h;exactλc d=>by
      rw[gP]at d;split at d;.rw[ZD d];have:=pZ h.2.2 (ZV _) (ZV _);rwa[<-Zd,<-Zd,XX,XX]at this
      .exact nomatch d|Zp m r e=>
    intro i j h;exactλc d=>by
      have it:=(q0 _ _ _ h).2.2 m (.head _);obtain⟨h1,h2,k,n,o,f,g⟩:=h;refine(ZI d).elim (λYA=>?_) λd=>?_;.rw[YA];exact pZ f (aV 0x1fc8c391c041 [_,_,_] it.2.2.1) (aV 0x1fc8c391c041 [_,_,_] it.2.2.2)
      .exact e _ _ g c d
theorem Aq(XN:Z->YZ)(a:J Z):eX XN a a 0 ZC 0 ZC=(0,0,ZC):=by
  obtain⟨i,j,k,F⟩:=found (C:=XN) (e:=a) (a:=ZC) (I:=ZC) (Zf _) (ZV _) (Zf _);have f:=F.fits;have m:i=j:=by
    by_cases b:k=0;.have:=F.zero b;exact aV 0x7f620f76d16da1 [_,_] this
    . have u:=F.GI;have n:∀t,t<k->∃x,a[j+t]?=Zak/\XN x=false:=λt ht=>by
        walk_at"b";obtain⟨x,c,l⟩:=F.GI t ht;exact⟨x,by rw[<-f.eq t ht];exact c,l⟩
      have d:∀p,(∀t,t<k->∃x,a[p+t]?=Zak/\XN x=false)->k<=eS XN a a 0 0 ZC (p+k) (p+k):=λp hp=>xE k p p λt ht=>by
          obtain⟨x,c,l⟩:=hp t ht;exact⟨Zf _,Zf _,bB c,x,c,c,l⟩
      refine(Nat.lt_trichotomy i j).elim (λh=>?_) λYA=>YA.elim (λh=>?_) λh=>?_;.have:=F.fst (GL b) (i+k-1) (i+k-1) (Zf _) (bx 0x1ffe87174044d04991c041 [_,_,_,_] (f.j1) h) (.inr ⟨rfl,by exact bx 0xfff51740628ba030f36d1e841 [_,_,_] h b⟩);have d1:=d i u;rw[show i+k-1+1=i+k by(exact aV 0x7f7010e0e8ba021e841 [_,_,_] this)]at this;exact bx 0x7ffb20f2116841 [_,_,_,_] this d1
      .exact h
      .have:=F.fst (GL b) (j+k-1) (j+k-1) (Zf _) (bx 0x1ffe87174044d04991c041 [_,_,_,_] (f.i1) h) (.inl (bx 0xfff51740628ba030f36d1e841 [_,_,_] h b));have d1:=d j n;rw[show j+k-1+1=j+k by(exact aV 0x7f7010e0e8ba021e841 [_,_,_] this)]at this;exact bx 0x7ffb20f2116841 [_,_,_,_] this d1
  walk_at"i";subst m;obtain⟨d,e1,d1,d2,o,st⟩:=qF i i k f;have z:=XT λq=>st (GL q) (GL q) rfl;have hs:toN (zz XN a a 0 0 ZC (ZC-0)).2=(i,i,k):=by rw[F.eq];rfl
  obtain⟨r,g,g3⟩:=rS (ZC-(i-d)-(k+d)) (k+d) (LB) o;have z2:i-d+jB a a ZC ZC (i-d) (i-d) (ZC-(i-d)-(k+d)) (k+d)=ZC:=by
    have:=g.i1;refine gg this (C' λq=>g3 q q rfl)
  unfold eX;rw[hs];dsimp only;rw[e1];dsimp only;rw[z]at z2⊢;rw[Wi]at z2;rw[z2]
theorem Cg(a:J Z):fO a a (dE a a)=[]:=by
  have c:gv a a (0,ZC,0,ZC):=⟨Zf _,ZV _,Zf _,ZV _⟩;have F:=Aq (eZ a) a;by_cases b:ZC=0;.have:dE a a=[]:=nE c (by rw[F];exact b);rw[this,show fO a a []=dw a a 0 0 []from rfl,gP,ZY (by exact aV 0xff3da0b7416eda1 [_] b)]
  . have:dE a a=[(0,0,ZC)]:=by
      rw[m5 c (by rw[F];exact b),F];unfold hX jy;rw[ZY (λq=>UA 0 q.1),ZY (by dsimp only;exact cY 0xe7741805ba0c02d [_])];rfl
    rw[this,vt,ZT ⟨rfl,rfl⟩,gP,ZY (by dsimp only;exact cY 0xe7b410e821 [_])]
theorem tj(h:b a=some (.list [x,c])):bS b Zaj (.int 0)=Zak/\bS b Zaj (.int 1)=Zan:=by exact⟨kl (eM h) Z' rfl,kl (eM h) Z' rfl⟩
abbrev hH(n:U)(s a:J Z):J Z:=iC s a (eO n s a)
structure Ai(s a:J Z)(n:U)where
 d1:J Hk
 d2:J Hk
 c1:yw n s a
 c2:yw 3 s a
 t1:TurnOk s a n (hH n s a) d1
 t2:TurnOk s a 3 (hH 3 s a) d2
 z1:(hH n s a).length<=1000000
 z2:(hH 3 s a).length<=1000000
 same:ba s d1=ba s d2
theorem Bm(hb:Q' NC)(rm:Za3)(z1:ZR<=1000)(z2:ZC<=1000)(h1:Yb ("first")=some Zal)(h2:Yb ("second")=some ZaE):EA X m Zn [.Subscript (.Name "first" p1) (.Slice none none none p2) c,.Subscript (.Name "second" d) (.Slice none none none f) k] o E λb i=>b=[Zal,ZaE]/\i=E:=by
 walk_at"m";refine Zu (u0 (Z4 h1 (SN (SN ⟨_,aF ..,?_,?_⟩))));.rw[az,af];exact F0 z1
 refine Zu (u0 (Z4 h2 (SN (SN ⟨_,aF ..,?_,Y5 ?_⟩))));.rw[az,af];exact F0 z2
 rw[nq,nq];exact⟨rfl,rfl⟩
theorem B8(e:mf X b)(D:Zdh)(hb:ZcS)(q:VY "zip"=none/\U9 "zip"=Zbl)(C:lq X b 14 .none .none)(Rd:lq X b 15 .none .none)(rm:Rm X m 30)(a:Ai s f (z6 sc))(k:∀c i,B (.ret (.bool true)) c i):EF X m (bU pm cd Wv u fa) (Yk (ic.drop 5) (bU pm cd Wv u fa)) (Mi sc s f) E B:=by
  refine ZJ (Zk (VX (Y5 ⟨by decide,λd y=>?_⟩)) (.inl rfl));have r:Y7 E d Zaq d=some Zaq:=aa ..;generalize Y7 E d Zaq=G at r;show EF X m _ _ (GQ sc s f (gQ f) d) G B;let I:U->YV->GH->Prop:=λj l i=>l=GQ sc s f (gQ f) d/\i d=some (.list ([aS (ba s a.d1),aS (ba s a.d2)].take j));refine ZJ (q' YQ I ?_);refine Uw (Zu (TL (Zu (Z4 rfl (Zu (EV.tv b (n:=14) (.inl rfl) (rm.le (fA 0x197c1ef [14,4,30] [] [])) rfl e.hl (λw x S=>Bi e (rm.le (fA 0x65ee [30] [] [])) a.c1 rfl (Bm hb rm a.c1.z1 a.c1.z2 rfl rfl) rfl rfl S) ?_ (Y5 ⟨(by decide:2<=ZK),?_⟩)))))));.rw[az,af];exact YX a.z1 Z'
  refine Zu (TL (Zu (X2 (Zu (EV.tv b (n:=14) (.inl rfl) (rm.le (fA 0x197c1ef [14,4,30] [] [])) rfl e.hl (λw x S=>Ak e (rm.le (fA 0x65ee [30] [] [])) a.c2 rfl (Bm hb rm a.c1.z1 a.c1.z2 rfl rfl) rfl S) ?_ (Y5 ⟨(by decide:2<=ZK),Y5 ⟨(by decide:2<=ZK),_,GQ sc s f (gQ f) d,rfl,⟨rfl,r⟩,?_,λk z l i hm n=>?_,λl i n=>?_⟩⟩))))));.rw[az,af];exact YX a.z2 Z'
  .exact av Z_
  .obtain⟨rfl,g⟩:=n;match k,hm with
    |0,hm=>
      cases hm;refine BO YQ (.inl rfl) (.inl rfl) ?_;refine tZ D hb q C Rd (n:=10) (rm.le (fA 0x197c1ef [10,2,30] [] [])) a.t1 g (by simp) λc i o p=>⟨_,⟨rfl,?_⟩,p⟩;exact o _ _ (aa ..)|1,hm=>
      cases hm;refine BO YQ (.inl rfl) (.inl rfl) ?_;refine tZ D hb q C Rd (n:=10) (rm.le (fA 0x197c1ef [10,2,30] [] [])) a.t2 g (S_ _) λc i o p=>⟨_,⟨rfl,?_⟩,p⟩;exact o _ _ (aa ..)|k+2,hm=>exact ax hm
  .obtain⟨YA,g⟩:=n;rw[YA];have t:i d=some (.list [aS (ba s a.d1),aS (ba s a.d2)]):=g;show EF X m _ _ _ _ _;refine Sx (QO (EV.cmp rm (Ys (Z4 rfl (X2 ⟨_,(tj t).1,Ys (Z4 rfl (X2 ⟨_,(tj t).2,true,?_,k ..⟩))⟩)))));.show yg i (aS (ba s a.d1)) (aS (ba s a.d2))=some true;rw[Ar,a.same];simp
def pP(sc:J Zv)(s a:J Z):Prop:=∃d:J Ent,Yc=(SQ sc).length/\(∀e∈d,il e)/\s=Vh d/\a=du d (bN sc)
theorem pP.len(b:y'<=63)(h:pP sc s c):ZR<=500/\Yv<=700:=by
 obtain⟨d,hl,he,YA,YB⟩:=h;rw[YA,YB];have hp:=fg b;have z1:=i9 λe h=>(he e h).al;have z2:=i9 λe h=>(he e h).bl;refine⟨by show(Yr za).length<=500;(exact rU 0xffff978f3208f2f16c41 [62,8,500] [_,_,_] [] hl hp z1),?_⟩;have hm:bN sc<=1:=by unfold bN;exact Lr
 unfold du i8;rw[Z1,Z2,WW];exact pk 0x1fffff97c22490c999049970f2f16c41 [62,8,200,700] [_,_,_,_] [] hl hp hm z2
theorem CJ(F:h7 X fa (cx 16) pm cd Wv .none .none)(f:mf X b)(D:Zdh)(hb:ZcS)(j:VY "zip"=none/\U9 "zip"=Zbl)(C:lq X b 14 .none .none)(Rd:lq X b 15 .none .none)(rm:Rm X m 31)(a:y'<=63)(k:∀s c,pP sc s c->i4 (Ai s c (z6 sc)))(l:∀i,g (.bool true) i):b8 X m ZaA [j9 sc] E g:=by
 refine h6 b rm ["script"] (Fb λO=>rfl) Z' rfl (λe x hx=>?_) λe=>?_;.rw[ZD hx];exact .inl rfl
 have r:Rm X (Sb (bU pm cd Wv e fa)) 30:=WH _;refine yG D hb (P4:=20) (r.le (fA 0x197c1cf [20,30] [] [])) a λd hl he=>?_;have B:pP sc (Vh d) (du d (bN sc)):=⟨d,hl,he,rfl,rfl⟩;obtain⟨n⟩:=k _ _ B;have o:=(B.len a).2;exact Dn hb (n:=20) (r.le (fA 0x197c1cf [20,30] [] [])) (JO o) (B8 f D hb j C Rd r n λO i=>l i)
def pC(a:Z->Prop)(rs:Xb):Prop:=∀r∈rs,a r.2
theorem FD(hr:r∈rs)(h:r.1≠("+")):r.2∈cJ rs:=Yx ⟨r,p' ⟨hr,by rw[Yu h];rfl⟩,rfl⟩
theorem Gi(hr:r∈rs)(h:r.1≠("-")):r.2∈RH rs:=Yx ⟨r,p' ⟨hr,by rw[Yu h];rfl⟩,rfl⟩
theorem m7(b:∀x∈cJ rs,a x)(hn:∀x∈RH rs,a x):pC a rs:=λr hr=>by
 by_cases e:r.1="+";.exact hn _ (Gi hr (by rw[e];exact EZ))
 .exact b _ (FD hr e)
theorem pN(h:pC a Zc9):(∀x∈k0,a x)/\∀c∈cs,(∀x∈c.1,a x)/\(∀x∈c.2.1,a x)/\∀x∈c.2.2,a x:=by
 walk_at"y";have k:∀{i:J Z}{x:Z},x∈i->((" "),x)∈XO i:=λhx=>Yx ⟨_,hx,rfl⟩;refine⟨λx hx=>h (_,x) (Y2 _ (k hx)),λc b=>?_⟩;have sub:∀r∈aU c,r∈au k0 cs:=λr hr=>Y1 _ (Xf ⟨c,b,hr⟩);refine⟨λx hx=>h ("-",x) (sub _ ?_),λx hx=>h ("+",x) (sub _ ?_),λx hx=>h (" ",x) (sub _ ?_)⟩;.exact Y2 _ (Y2 _ (Yx ⟨x,hx,rfl⟩))
 .exact Y2 _ (Y1 _ (Yx ⟨x,hx,rfl⟩))
 .exact Y1 _ (k hx)
theorem Fc(hh:h∈a.1)(hr:r∈X4):r∈bf a:=Y2 _ (Xf ⟨h,hh,Y1 _ hr⟩)
theorem AW(x:Z):(c9 x).length<=ZO:=by
 unfold c9;show x.cps.pop.size<=bb;rw[Array.size_pop];exact Nat.sub_le _ _
theorem xD(a:U)(x:Z):(iw a++x).length=ZO+2:=by
 show(iw a++x).cps.size=bb+2;rw[Xw,i3];show 2+_=_;exact cY 0x6e0114041 [_,_]
theorem mF(f:a≠10)(hp:D=iw a)(h:pC (λx=>ZO<=4) Zc9):∀x∈(cA Yj D k0 cs).map c9,ZO<=6:=by
  intro x hx;obtain⟨t,ht,YA⟩:=Zl hx;rw[<-YA];refine YX (AW t) ?_;have b:=pN h;have bl:∀i:J Z,(∀x∈i,ZO<=4)->∀x∈ej i,ZO<=6:=λi g x hx=>by
    obtain⟨y,hy,YA⟩:=Zl hx;rw[<-YA];show("  "++y).length<=6;rw[xD];have:=g y hy;exact a9 0x1fcbe0f0e5e1 [4,2,6] [_] [] this
  unfold cA at ht;split at ht
  . rcases ZM ht with ht|ht;.exact bl k0 b.1 t ht
    . obtain⟨c,j,ht⟩:=WL ht;have Lc:=b.2 c j;clear hx;rcases ZM ht with ht|ht
      . obtain⟨y,hy,YA⟩:=Zl ht;rw[<-YA];obtain⟨d,hd,e,_⟩:=lC f hp c;show(gM D c++y).length<=6;rw[e,xD];have:l_<=4:=by
          clear ht;cases Yj;.exact Lc.1 y hy
          .exact Lc.2.1 y hy
        exact a9 0x1fcbe0f0e5e1 [4,2,6] [_] [] this
      .exact bl _ Lc.2.2 t ht
  .exact nomatch ht
theorem pU(h:j<=100000):SU (j:Zv):=by
 unfold SU;rw[Int.natAbs_natCast];exact a9 0x7f4f0e5e1 [100000,1099511627776] [_] [] h
theorem lU(h:j+a<=10000):(aN j a).length<=41:=fc (by
 have:=pU (j:=j+1) (by exact a9 0x7f2f838397c041 [10000,100000] [_,_] [] h);exact this) (by
 have:=pU (j:=j+a) (by exact JM h);exact this)
theorem sd(x:Z):ZO=x.cps.toList.length:=by rw[Yy];rfl
def mz(l:J Hn):U:=VF (λh k=>Y6+Wz X4+k) 0
theorem yV(h r):mz (h::r)=Y6+Wz X4+mz r:=rfl
theorem vV:∀(hs:J Hn)(tl:J Z),mz hs<=Wz (bf (hs,tl)):=by
 intro I;induction I with
 |Yl=>
  intro _;exact Zf _|Zp h r a=>
  intro tl;have:Wz (bf (h::r,tl))=Y6+Wz X4+Wz (bf (r,tl)):=by
   unfold bf;rw[Zz,ZQ,dB,dB,k6]
  rw[yV,this];exact aV 0x7f3010e011e441 [_,_,_] (a tl)
theorem rK:∀(hs:J Hn)(o w:U),(∀h∈hs,pC (λx=>ZO<=4) X4)->o+kr hs<=10000->w+mz hs<=10000->∀a∈fP o w hs,∀x∈a,ZO<=1000:=by
  intro I;induction I with
  |Yl=>
    intro _ _ _ _ _;exactλa hs=>by cases hs|Zp h r e=>
    intro o w b c hw;exactλa hs=>by
      refine(ZI hs).elim (λYA=>?_) λhs=>?_
      . rw[YA];have d:=b h (.head _);have m:=dW;intro x hx;refine(ZI hx).elim (λYA=>?_) λhx=>?_;.rw[YA];have:=lU (j:=o+Y6) (a:=WR X4) (aV 0x1fc9603808392c20480c41 [_,_,_,_,_] c);rw[sd,gG,Z1,Z1];show 4+_+5<=_;exact a9 0x7f2f83e017e5e1 [41,4,5,1000] [_] [] this
        . rcases ZM hx with hx|hx;.have:=mF Z' m.2.1 d x hx;exact a9 0x7f2f0e5e1 [6,1000] [_] [] this
          . refine(ZI hx).elim (λYA=>?_) λhx=>?_;.rw[YA];have:=lU (j:=w+Y6) (a:=Wz X4) (aV 0x1fc9603808392c20480c41 [_,_,_,_,_] hw);rw[sd,nB,Z1,Z1];show 4+_+5<=_;exact a9 0x7f2f83e017e5e1 [41,4,5,1000] [_] [] this
            .have:=mF Z' m.2.2.1 d x hx;exact a9 0x7f2f0e5e1 [6,1000] [_] [] this
      .exact e _ _ (λx hx=>b x (ZX _ hx)) (Lj c) (Lj hw) a hs
theorem Dd(ok:a7 cs)(a:cs≠[]):1<=(au k0 cs).length:=by cases cs with
 |Yl=>exact Za rfl a|Zp c cs=>
  have:aU c≠[]:=λe=>by exact kI (ok.chg c (.head _)) (XA e).1
  have:=Xi this;unfold au;rw[Zz,Z1,Z1];exact aV 0x7f3080c227682d [_,_,_] this
theorem vG:∀(hs:J Hn)(tl:J Z)(o w:Zv),(∀h∈hs,a7 RY/\RY≠[])->(bI o w hs).length<=5*(bf (hs,tl)).length:=by
 intro I;induction I with
 |Yl=>
  intro _ _ _ _;exact Zf _|Zp h r c=>
  intro tl o w a;have b:=a h (.head _);have e:(bf (h::r,tl)).length=Y6+h.rows.length+(bf (r,tl)).length:=by
   unfold bf;rw[Zz,ZQ,Z1,Z1,cy]
  rw[kC,Z1,e];exact rU 0x3fffe6502402580c59910798482f1642e [3,2,5,5] [_,_,_,_,_] [] (Dd b.1 b.2) (iy _) (c tl (o+Y6+WR X4) (w+Y6+Wz X4) λx hx=>a x (ZX _ hx))
structure MC(s a e:J Z)(cs:Zb8):Prop where
 ok:a7 cs
 old:cJ (au e cs)=s
 new:RH (au e cs)=a
 z1:ZR<=500
 z2:ZC<=700
 la:∀x∈s,eh x/\ZO<=4
 lb:∀x∈a,eh x/\ZO<=4
structure Told(s:J Z)(t:J Z)(d:J Hk)(rs:Xb):Prop where
 read:rp s (Sj (R0 "" t) ("\n")) d
 H':ba s d=rs
 join:JoinOk "" t=true
 size:(R0 "" t).length<=10000000
 len:YI<=1000000
theorem zT(S:MC s T a cs)(n:U):Told s (vx (au a cs) n) (vI 0 (dZ n a cs).1) (au a cs):=by
  have c:=vD n a cs;walk_at"bk";have f:=Ao n (b:=a) S.ok;have zo:WR (au a cs)<=500:=by rw[<-gL,S.old];exact S.z1
  have l:Wz (au a cs)<=700:=by rw[<-lH,S.new];exact S.z2
  have zr:(au a cs).length<=1200:=YX (kA _ (nU a cs)) (cD 0x1ffe5f01072f165e1 [500,700,1200] [_,_] [] zo l);rw[i5 n a cs S.ok];obtain⟨hs,tl,B⟩:∃hs tl,dZ n a cs=(hs,tl):=(Vo _ _ rfl);rw[B]at c f⊢;dsimp only at*;have m:∀h∈hs,pC (λx=>eh x/\ZO<=4) X4:=λh hh r hr=>(m7 (by rw[S.old];exact S.la) (by rw[S.new];exact S.lb)) r (by rw[<-c];exact Fc hh hr);have g:∀h∈hs,qS h:=λh hh=>⟨(f h hh).1,(f h hh).2,by
    have:=pN (λr hr=>(m h hh r hr).1);exact this⟩;have z:=vF hs tl;have o:=vV hs tl;rw[c]at z o;obtain⟨tc,C⟩:=yv hs 0 0 g;have q:=vG hs tl 0 0 f;rw[c]at q;have u:=Di (s:=s) g (by rw[c];exact S.old.symm);rw[c]at u;have D:∃pre:J Z,(if bI 0 0 hs=[]then[]else[("*** \n"),"--- \n"]++bI 0 0 hs).map c9=pre++c7 (fP 0 0 hs)/\(∀x∈pre,(x==bh)=false/\ZO<=4)/\(∀x∈(if bI 0 0 hs=[]then[]else[("*** \n"),"--- \n"]++bI 0 0 hs),eh x)/\(if bI 0 0 hs=[]then[]else[("*** \n"),"--- \n"]++bI 0 0 hs).length<=2+(bI 0 0 hs).length:=by
    by_cases e:bI 0 0 hs=[];.rw[ZT e];refine⟨[],?_,λx hx=>(by exact nomatch hx),λx hx=>(by exact nomatch hx),Zf _⟩;rw[<-tc];show[]=(bI 0 0 hs).map c9;rw[e];rfl
    . rw[ZY e];refine⟨["*** ","--- "],?_,?_,?_,by simp;(exact fA 0x19805f0741c1 [2] [_] [])⟩;.rw[ZE,<-tc,lits.2.2.2.1,lits.2.2.2.2];rfl
      . intro x hx;refine(ZI hx).elim (λYA=>?_) λhx=>?_;.rw[YA];exact⟨by decide+kernel,by decide⟩
        .rw[ZD hx];exact⟨by decide+kernel,by decide⟩
      . intro x hx;rcases ZM hx with hx|hx
        . refine(ZI hx).elim (λYA=>?_) λhx=>?_;.rw[YA];rw[lits.2.2.2.1];exact ox Z8
          .rw[ZD hx,lits.2.2.2.2];exact ox Z8
        .exact C x hx
  obtain⟨pre,p1,p2,p,E⟩:=D;generalize(if bI 0 0 hs=[]then[]else[("*** \n"),"--- \n"]++bI 0 0 hs)=t at*;have F:Sj (R0 "" t) "\n"=pre++(c7 (fP 0 0 hs)++[("")]):=by
    rw[<-ZQ,<-p1];exact ur t p
  obtain⟨s1,s2⟩:=DC pre (fP 0 0 hs) (λx hx=>(p2 x hx).1) (uq hs 0 0 g);have w:∀x∈pre++(c7 (fP 0 0 hs)++[("")]),ZO<=1000:=by
    intro x hx;refine(ZM hx).elim (λhx=>?_) λhx=>?_;.have:=(p2 x hx).2;exact HX this
    . rcases ZM hx with hx|hx
      . obtain⟨G,I,hx⟩:=WL hx;refine(ZI hx).elim (λYA=>?_) λhx=>?_;.rw[YA];decide
        .exact rK hs 0 0 (λh hh r hr=>(m h hh r hr).2:∀h∈hs,pC (λx=>ZO<=4) X4) (cD 0x1ffe5f013721165e1 [500,10000] [_,_] [] zo z) (cD 0x1ffe5f013721165e1 [700,10000] [_,_] [] l o) G I x hx
      .rw[ZD hx];decide
  have i:YI<=6002:=by exact rU 0x3fffe5e2cc823cc06f165e1 [1200,2,5,6002] [_,_,_] [] zr E q
  have M:∀x∈t,ZO<=1001:=λx hx=>by
    obtain⟨y,rfl,_⟩:=p x hx;have:c9 (y++gT)∈k' c9:=Yx ⟨_,hx,rfl⟩;rw[jc,p1]at this;have:=w y (by rw[<-ZQ];exact Y2 _ this);have e:(y++gT).length=l_+1:=by
      show(y++gT).cps.size=y.cps.size+1;rw[nI,Xw,i3];rfl
    exact cD 0x1ffe5e1cbc5b83841 [1000,1001] [_,_] [] e this
  have N:=StrLaws.sumLen_le t M;have A:=YX N (by have:=Nat.mul_le_mul_right 1001 i;exact LK i);refine⟨?_,u.1,?_,?_,by exact a9 0x7f2f0e5e1 [6002,1000000] [_] [] i⟩
  . rw[F];refine⟨?_,w,?_,?_,?_,?_⟩;.have:=Zq Sm p1;rw[Z2,Z1]at this;rw[Z1,Z1,YY];exact cD 0x1ffe5f083862cbc3b80c41 [6002,10000] [_,_,_] [] this i
    .rw[Z1,Z1,YY];exact cY 0x66107082e [_,_]
    .rw[s1,BE,wD,Cb]
    .intro j k e d h1 h2 Q;obtain⟨b,b1,b2⟩:=s2 j k e h1 h2;rw[b2];exact ya hs 0 0 ZR g (by rw[Wi,<-S.old,gL];exact z) j b d b1 Q
    .intro j;have:=DD s (vI 0 hs) j;have:=S.z1;omega
  . unfold JoinOk;rw[StrLaws.joinTotal];have e:"".length=0:=by decide
    rw[vs];unfold PySem.Builtin.Str.tooLong;have:¬(k' (·.length)).sum>ZK:=by rw[af];exact a9 0xff3417e5e1 [6008002,16777216] [_] [] A
    simp[this]
  . have:=StrLaws.join_length_le "" t;have e:"".length=0:=by decide
    show(zb "" t).length<=_;rw[t7];exact YX this (a9 0x7f2f0e5e1 [6008002,10000000] [_] [] A)
theorem AG(x:Z):(x++nl).length=ZO+1:=by
 show(x++nl).cps.size=bb+1;rw[show nl=gT from rfl,nI,Xw,i3];rfl
theorem uE(h:il a):eh (a.line++nl)/\(a.line++nl).length<=4:=by
 refine⟨ox λq=>h.nl 10 q rfl,?_⟩;rw[AG];have:=h.l3;exact a9 0x1fcbe0e0e5e1 [3,4] [_] [] this
theorem tX(h:∀e∈d,il e):∀x∈Vh d,eh x/\ZO<=4:=λx hx=>by
 obtain⟨e,he,hx⟩:=WL hx;rw[xy e x hx];exact uE (h e he)
theorem ye(hm:SH<=1):∀x∈i8 a SH,eh x/\ZO<=4:=λx hx=>by
  obtain⟨i,b,YA⟩:=Zl hx;rw[<-YA];have e:(100:Zv)+((a+i:U):Zv)=((100+(a+i):U):Zv):=by exact fA 0x1b9c02f84c2f [100,100] [_] []
  refine⟨ox λq=>?_,?_⟩;.have:=ey q;exact JB this
  .rw[AG,sd,ou,Z2];have:=digits10_le (k:=3) (n:=100+(a+i)) Z' (cD 0x3ffd3e1008df970b511c841 [200,100,1000] [_,_,_] [] (WX b) hm);exact a9 0x1fcbe0e0e5e1 [3,4] [_] [] this
theorem yD(hm:SH<=1)(h:∀e∈d,il e):∀x∈du d SH,eh x/\ZO<=4:=λx hx=>by
  rcases ZM hx with hx|hx;.obtain⟨e,he,hx⟩:=WL hx;rw[uG e x hx];exact uE (h e he)
  .exact ye hm x hx
theorem AX(h:cJ (au (jz s l) [])=s)(a:RH (au (jz s l) [])=b):s=b:=by
 unfold au at h a;rw[Xj,Zm]at h a;rw[fV]at h;rw[jU]at a;rw[<-a,h]
theorem Ds(z1:ZR<=500)(z2:ZC<=700)(la:∀x∈s,eh x/\ZO<=4)(lb:∀x∈a,eh x/\ZO<=4)(f:(dE s a).length<64)(n:U):yw n s a/\(hH n s a).length<=1000000/\∃d,TurnOk s a n (hH n s a) d/\ba s d=ZaW:=by
  have B:=vo (C:=eZ a) (ZR+1) (0,ZR,0,ZC) ⟨Zf _,ZV _,Zf _,ZV _⟩ (by show ZR-0<_;exact cY 0x6a0e0c5a1 [_]) (.inl ⟨rfl,rfl⟩);have i:Ch (eZ a) s a ZR ZC 0 0 (dE s a):=B.ch;obtain⟨t1,t2,t3,t4,t5,t⟩:=wQ n i B.sep;have S:MC s a (jz s (dE s a)) ZcF:=⟨t4,t5,t,z1,z2,la,lb⟩;obtain⟨r,k,l,_,_,_,e1,m,y,_⟩:=sV i B.sep;have hb:∀c∈fO s a (dE s a),dX (gQ a) c.1 c.2.1=true:=by rw[e1];exact vL r k k m
  clear B i l;have same:s=a->fO s a (dE s a)=[]:=λe=>by rw[<-e];exact Cg s
  have T:=zT S n;have b:bI 0 0 (dZ n (jz s (dE s a)) ZcF).1=[]↔fO s a (dE s a)=[]:=by
    constructor;.intro e;apply XT;intro o;unfold dZ at e;rw[ZY o]at e;obtain⟨ps,z,p⟩:=iE n ZcF (bY n (jz s (dE s a))) (bK n (jz s (dE s a))) [];rw[p,kC]at e;have:=(XA e).1;cases this
    .intro e;unfold dZ;rw[ZT e];rfl
  have aL:hH n s a=vx ZaW n:=by
    rw[i5 n _ _ t4];show iC s a (eO n s a)=_;unfold iC;have u:(eO n s a).flatMap (bW s a)=_:=t1;have j:eO n s a=[]↔_:=t2;rw[u];by_cases e:ZcF=[];.rw[ZT (j.mpr e),ZT (b.mpr e),b.mpr e];rfl
    .rw[ZY (λq=>e (j.mp q)),ZY (λq=>e (b.mp q))]
  rw[aL];refine⟨⟨by exact a9 0x7f2f0e5e1 [500,1000] [_] [] z1,by exact JO z2,λx hx=>by have:=(la x hx).2;(exact HX this),λx hx=>by have:=(lb x hx).2;(exact HX this),f,λg hg=>(t3 g hg).x5 (a9 0x7f2f0e5e1 [500,1000] [_] [] z1) (JO z2)⟩,T.len,_,⟨T.join,T.size,T.read,?_,?_,?_,?_,?_,?_,?_,?_⟩,hE⟩;.rw[hE];exact nU _ _
  . rw[hE];have h1:=kA _ (nU (jz s (dE s a)) (fO s a (dE s a)));have h2:WR ZaW=ZR:=by rw[<-gL,t5]
    have w:Wz ZaW=ZC:=by rw[<-lH,t]
    exact E9 0x1ffffffcbcb980c25cbc9b20f2f16c41 [500,700,10000] [_,_,_,_,_] [] h2 z1 w z2 h1
  .rw[hE];exact m7 (by rw[t5];intro x hx;have:=(la x hx).2;exact HX this) (by rw[t];intro x hx;have:=(lb x hx).2;exact HX this)
  .rw[hE];exact t5
  .rw[hE];exact t
  .rw[hE]
  . rw[i5 n _ _ t4];by_cases e:s=a;.rw[ZT (b.mpr (same e)),e];simp
    .have:fO s a (dE s a)≠[]:=λq=>e (by
        rw[q]at t5 t;exact AX t5 t);rw[ZY (λq=>this (b.mp q)),Yu e];rfl
  .rw[hE];unfold au;rw[ZQ,qq];exact Ae _ _ t4 hb
theorem Fu(a:y'<=63)(b:pP sc s f):i4 (Ai s f (z6 sc)):=by
 walk_at"bl";have c:=pP.len a b;obtain⟨d,hl,e,rfl,rfl⟩:=b;have hm:bN sc<=1:=by unfold bN;exact Lr
 have go:=λn=>Ds c.1 c.2 (tX e) (yD hm e) (BX hm (by rw[hl];exact fg a)) n;obtain⟨c1,l1,d1,t1,r⟩:=go (z6 sc);obtain⟨c2,l2,d2,t2,r2⟩:=go 3;exact⟨⟨d1,d2,c1,c2,t1,t2,l1,l2,by rw[r,r2]⟩⟩
section
open PySem.Calls
namespace Hd
def FK(l:J U):U:=PySem.W.R.foldlR (λn O=>Nat.succ n) 0 l
theorem De(l:J U):FK l=Xl:=by
 unfold FK;rw[<-PySem.W.R.foldlR_eq];have:∀(l:J U)(k:U),l.foldl (λn O=>Nat.succ n) k=k+Xl:=by
  intro l;induction l with
  |Yl=>intro k;rfl|Zp a l i=>intro k;rw[UQ,i,YG];(exact cY 0x6e1070830141c1 [_,_])
 rw[this];(exact O4)
def FW(x:Ua U)(p:U->YZ)(start stop:U):YZ:=U0 (m2 start 0) (U0 (m2 stop (FK x.toList)) (PySem.W.R.anyR x.toList p) (y_ x p start stop)) (y_ x p start stop)
theorem BP{b:YZ}{α:Type}{a:α->Prop}{x y:α}(h:b=true->a x)(k:a y):a (U0 b x y):=by
 cases b;.exact k
 .exact h rfl
theorem Du:@y_ U=FW:=by
 funext x p start stop;refine BP (a:=λz=>y_ x p start stop=z) (λh=>BP (a:=λz=>y_ x p start stop=z) (λk=>?_) rfl) rfl;rw[t6 h,t6 k,De,<-PySem.W.R.anyR_eq];exact Array.any_toList.symm
inductive Fj:Builtin->Builtin->Type|mk(a:Builtin):Fj a a
def EP:(a:(Ua U->(U->YZ)->U->U->YZ)->Builtin)×' Fj HS (a (@y_ U)):=by
 refine⟨?a,?h⟩;case h=>
  delta HS;generalize@y_ U=F;exact Fj.mk _
theorem B':HS=EP.1 FW:=by
 rw[<-Du];kernel_rfl!
def TB(id:T7):Zs Builtin:=U0 (m2 (PySem.code id) 29827186395103491166823348853) (some (EP.1 FW)) (d4 id)
theorem nX:Ud=TB:=by
 rw[Fast.te14364793385576792824];funext id;refine BP (a:=λz=>d4 id=z) (λh=>?_) rfl;rw[PySem.code_inj id "type.__new__" ((t6 h).trans Z_),<-B'];kernel_rfl!
def sP(q:VU)(k:U):Wa:=(q.main.body[k]?).getD (.Pass default)
def mP(q:VU)(k i:U):Wa:=((bH (sP q k))[i]?).getD (.Pass default)
def dC(st:Wa):hk:=(H9 (Gr ((bH st).getD 0 (.Pass default)))).2.1
def dP(st:Wa):Z:=match dC st with|.str s=>s|_=>""
inductive uw:hk->hk->Type|mk(a:hk):uw a a
def AD:(x:hk)×' uw (dC (sP Yz 5)) x:=by
 refine⟨?x,?h⟩;case h=>
  conv=>arg 1;whnf
  exact uw.mk _
set_option maxHeartbeats 4000000 in def HE:(cs:J Char)×' uw AD.1 (Const.str (WY (String.ofList cs))):=by
 refine⟨?cs,?h⟩;case h=>
  delta AD;exact uw.mk _
def DX:Z:=⟨⟨HE.1.map Char.toNat⟩⟩
set_option backward.match.sparseCases false in def setC(st:Wa)(c:hk):Wa:=match st with|.ClassDef a1 a2 a (.Expr (.Constant _ d e) f::r) b1 b2 b g i j k=>.ClassDef a1 a2 a (.Expr (.Constant c d e) f::r) b1 b2 b g i j k|st=>st
theorem FU:sP Yz 5=setC (sP Yz 5) AD.1:=by kernel_rfl
theorem AI:AD.1=Const.str (WY (String.ofList HE.1)):=by kernel_rfl
theorem Fk:sP Yz 5=setC (sP Yz 5) (.str DX):=by
 have e:AD.1=Const.str DX:=by rw[AI,Fast.ofString_ofList];rfl
 conv=>lhs;rw[FU,e]
end Hd
end
namespace Hd
noncomputable section
abbrev zs(x:T7)(t:U):ZP:=.str (WY x) t
abbrev zi(x:Zv)(t:U):ZP:=.int x t
abbrev zr(a:U):ZP:=.ref a
abbrev ze(a:OY)(x:T7)(t:U)(b:ZP):DictEntry:=⟨PyData.keyHash a (WY x),.str (WY x) t,b⟩
abbrev zq(x:Zc4)(n:U):Data:=.seq ⟨x⟩ n
abbrev zd(d:J DictEntry)(n:U):Data:=.dict ⟨d⟩ n
abbrev zf(x:Zc4):Data:=.fields ⟨x⟩
abbrev zc(nm:Z)(bs m:Zc4)(ns:U)(q:Z)(hd:YZ):ClassData:={name:=nm,bases:=bs,mro:=m,ns:=ns,qualname:=q,hasDict:=hd}
abbrev zg(st:Wa)(nm q:Z)(gl:U)(cl:J (Z×U))(d kd dc pm cd c:ZP)(bl:U)(an:Zs U):Data:=.func {name:=nm,qualname:=q,params:=Ci st,W8:=.stmts (bH st),X1:=bu st,globals:=gl,closure:=cl,defaults:=d,kwdefaults:=kd,Wv:=dc,pyModule:=pm,annotations:=an,code:=cd,closureTuple:=c,builtins:=bl}
abbrev zo(cl:ZP)(d:Zs U)(a:Data)(s:J (Zs ZP)):OB:=⟨cl,d,a,⟨s⟩⟩
abbrev nn(l:J T7)(t:U):Zc4:=VF (λx k t=>zs x t::k (t+1)) (λO=>[]) t
abbrev tE:OB:=zo Zac none (zq [] 0) []
abbrev fE:OB:=zo .none none (zf []) []
abbrev MW:ZP:=zs "__main__" 164
abbrev kX:ZP:=zs "cpy313.difflib" 194
abbrev EK:ZP:=zs "law_mt0003_01" 650
abbrev fC(a t:U)(nm q:T7)(ln:Zv)(c:J Zv)(z:U)(m:Zc4):OB:=zo ZaM none (zf ([zs nm t,zs q (t+1),zs "/claim/cut.py" (t+2),zi ln 0]++(c.map (zi . 0)++([zr a,.bool true,zi 181 0,zr (a+1),.none]++(m++[zi (t+3+z:U) 0,zi ln 0,zs "/claim/cut.py" (t+4+z)]))))) []
abbrev gR(st:Wa)(nm q:T7):OB:=zo .none none (zg st nm q 0 [] .none .none .none .none .none .none 0 none) []
abbrev gF(a:U)(st:Wa)(nm q:T7)(b:ZP)(d:U)(m:ZP):OB:=zo Zao none (zg st nm q 3 [] b .none (U0 (m2 d 0) .none (.str (dP st) d)) m (zr a) .none 0 none) []
def fG(a t:U)(st:Wa)(nm q:T7)(ln:Zv)(c:J Zv)(ns:J T7)(d:ZP)(b:U)(m:ZP):J OB:=[tE,fE,zo Zac none (zq (nn ns (t+3)) 0) [],tE,gR st nm q,fC a t nm q ln c ns.length [zr (a+2),zr (a+3),zr (a+4)],gF (a+5) st nm q d b m]
def fH(a t:U)(st:Wa)(nm q:T7)(ln:Zv)(c:J Zv)(d:ZP)(b:U)(m:ZP):J OB:=[tE,fE,gR st nm q,fC a t nm q ln c 0 [.none,.none,zr (a+2)],gF (a+3) st nm q d b m]
def mD(a:OY)(b:ZP)(n:U):OB:=zo Zaf none (zd (List.take n [ze a "__name__" 165 b,ze a "__doc__" 166 .none,ze a "__package__" 167 .none,ze a "__loader__" 168 (.builtin "__main__.__loader__#opaque"),ze a "__spec__" 169 .none,ze a "__annotations__" 170 (zr 6),ze a "__builtins__" 171 (zr 4),ze a "__file__" 173 (zs "/claim/cut.py" 172),ze a "__cached__" 174 .none,ze a "_wall" 193 (zr 21),ze a "_tuplegetter" 252 (zr 60),ze a "Match" 380 (zr 135),ze a "_calculate_ratio" 388 (zr 145),ze a "SequenceMatcher" 591 (zr 242),ze a "_format_range_context" 602 (zr 253),ze a "context_diff" 639 (zr 261),ze a "_check_types" 649 (zr 268),ze a "_law_line" 661 (zr 275),ze a "_law_far" 673 (zr 282),ze a "_law_range" 681 (zr 289),ze a "_law_half" 687 (zr 294),ze a "_law_context" 693 (zr 299),ze a "_law_read" 699 (zr 304),ze a "law" 705 (zr 309)]) n) []
def mC(n:U):OB:=zo .none none (zf ((List.take n ([(1,20),(5,27),(23,71),(66,144),(70,151),(504,252),(513,260),(581,267),(590,274),(597,281),(604,288),(606,293),(617,298),(635,303),(665,308)]:J (Zv×U))).flatMap λp=>[zi p.1 0,zi 0 0,zr p.2])) []
def FC(Q:VU)(a:OY):J OB:=List.flatten [[boot_o_0 a,boot_o_1 a,boot_o_2 a,mD a EK 24,boot_o_4 a,boot_o_5 a,boot_o_6 a,boot_o_7 a,boot_o_8 a,boot_o_9 a,boot_o_10 a,tE,mC 15,zo ZaM none (zf [zs "<module>" 182,zs "<module>" 183,zs "/claim/cut.py" 184,zi 1 0,zi 0 0,zi 0 0,zi 0 0,zi 0 0,zr 11,.bool false,zi 181 0,zr 12,.none,.none,.none,.none,zi 185 0,zi 1 0,zs "/claim/cut.py" 186]) [],zo Za6 none (.plain) [some (zr 13),some (zr 3),some (zr 3),none,some (zs "__main__" 164),none,some (zr 0)]],fG 15 187 (sP Q 0) "_wall" "_wall" 1 [1,0,0,3] ["k"] .none 0 MW,[tE,zo Zam none (zf [Zcj,Zat]) [],zo Zaf none (zd [ze a "__module__" 203 (zs "cpy313.difflib" 194),ze a "__qualname__" 205 (zs "_tuplegetter" 204),ze a "__firstlineno__" 207 (zi 5 206),ze a "__init__" 216 (zr 35),ze a "__get__" 225 (zr 43),ze a "__set__" 234 (zr 50),ze a "__delete__" 242 (zr 57),ze a "__static_attributes__" 245 (zr 58)] 8) [],tE,zo .none none (zf [zi 7 0,zi 4 0,zr 34,zi 11 0,zi 4 0,zr 42,zi 18 0,zi 4 0,zr 49,zi 21 0,zi 4 0,zr 56]) [],zo ZaM none (zf [zs "_tuplegetter" 198,zs "_tuplegetter" 199,zs "/claim/cut.py" 200,zi 5 0,zi 0 0,zi 0 0,zi 0 0,zi 0 0,zr 25,.bool false,zi 181 0,zr 26,.none,.none,.none,.none,zi 201 0,zi 5 0,zs "/claim/cut.py" 202]) [],zo Za6 none (.plain) [some (zr 27),some (zr 3),some (zr 24),none,some (zs "cpy313.difflib" 194),none,some (zr 0)]],fG 29 208 (mP Q 2 0) "__init__" "_tuplegetter.__init__" 7 [3,0,0,3] ["self","index","doc"] .none 0 kX,[zo Zac none (zq [.none] 0) []],fG 37 217 (mP Q 2 1) "__get__" "_tuplegetter.__get__" 11 [3,0,0,3] ["self","obj","objtype"] (zr 36) 0 kX,fG 44 226 (mP Q 2 2) "__set__" "_tuplegetter.__set__" 18 [3,0,0,3] ["self","obj","value"] .none 0 kX,fG 51 235 (mP Q 2 3) "__delete__" "_tuplegetter.__delete__" 21 [2,0,0,3] ["self","obj"] .none 0 kX,[zo Zac none (zq [zs "__doc__" 243,zs "index" 244] 0) [],zo Zaf none (zd [ze a "__module__" 203 (zs "cpy313.difflib" 194),ze a "__firstlineno__" 207 (zi 5 206),ze a "__init__" 216 (zr 35),ze a "__get__" 225 (zr 43),ze a "__set__" 234 (zr 50),ze a "__delete__" 242 (zr 57),ze a "__static_attributes__" 245 (zr 58),ze a "__dict__" 247 (zr 61),ze a "__weakref__" 249 (zr 62),ze a "__doc__" 250 .none] 4) [],zo Zat none (.cls (zc "_tuplegetter" [Zai] [zr 60,Zai] 59 "_tuplegetter" true)) [none,none,some (zs "_tuplegetter" 196),some (zs "_tuplegetter" 204),some (.builtin "object.__new__"),some (.bool true)],zo Zbk none (zf [zs "__dict__" 246,zr 60,.builtin "function.__dict__",.builtin "function.__dict__#set"]) [],zo Zbk none (zf [zs "__weakref__" 248,zr 60,.builtin "ExceptionGroup.__weakref__",.none]) [],zo (.type "super") none (zf [zr 60,zr 60,zr 60]) [],zo Zam none (zf [ZbG,zr 60]) [],zo Zac none (zq [Zac] 0) [],zo Zam none (zf [Zcj,Zat]) [],zo Zaf none (zd [ze a "__module__" 260 (zs "cpy313.difflib" 194),ze a "__qualname__" 262 (zs "Match" 261),ze a "__firstlineno__" 264 (zi 23 263),ze a "__doc__" 266 (zs "Match(a, b, size)" 265),ze a "__slots__" 268 (zr 73),ze a "_fields" 272 (zr 74),ze a "_field_defaults" 273 (zr 75),ze a "__new__" 284 (zr 82),ze a "_make" 306 (zr 91),ze a "_replace" 317 (zr 100),ze a "__replace__" 318 (zr 100),ze a "__repr__" 326 (zr 107),ze a "_asdict" 333 (zr 114),ze a "__getnewargs__" 341 (zr 121),ze a "__match_args__" 345 (zr 122),ze a "a" 355 (zr 124),ze a "b" 365 (zr 127),ze a "size" 375 (zr 130),ze a "__static_attributes__" 376 (zr 132),ze a "__classcell__" 377 (zr 68)] 20) [],zo (.type "cell") none (.cell (some (zr 135))) [],tE,zo .none none (zf [zi 29 0,zi 4 0,zr 81,zi 34 0,zi 4 0,zr 88,zi 41 0,zi 4 0,zr 99,zi 52 0,zi 4 0,zr 106,zi 56 0,zi 4 0,zr 113,zi 59 0,zi 4 0,zr 120]) [],zo ZaM none (zf [zs "Match" 255,zs "Match" 256,zs "/claim/cut.py" 257,zi 23 0,zi 0 0,zi 0 0,zi 0 0,zi 0 0,zr 69,.bool false,zi 181 0,zr 70,.none,.none,.none,.none,zi 258 0,zi 23 0,zs "/claim/cut.py" 259]) [],zo Za6 none (.plain) [some (zr 71),some (zr 3),some (zr 67),none,some (zs "cpy313.difflib" 194),none,some (zr 0)],tE,zo Zac none (zq [zs "a" 269,zs "b" 270,zs "size" 271] 0) [],zo Zaf none (zd [] 0) []],fG 76 274 (mP Q 3 4) "__new__" "Match.__new__" 29 [4,0,0,3] ["_cls","a","b","size"] .none 283 kX,[tE,fE,zo Zac none (zq [zs "cls" 288,zs "iterable" 289,zs "result" 290] 0) [],tE,zo .none none (zg (mP Q 3 5) "_make" "Match._make" 0 [] .none .none .none .none .none .none 0 none) [],zo ZaM none (zf [zs "_make" 285,zs "Match._make" 286,zs "/claim/cut.py" 287,zi 33 0,zi 2 0,zi 0 0,zi 0 0,zi 3 0,zr 83,.bool true,zi 181 0,zr 84,.none,zr 85,zr 86,zr 87,zi 291 0,zi 33 0,zs "/claim/cut.py" 292]) [],zo Zao none (zg (mP Q 3 5) "_make" "Match._make" 3 [] .none .none (.str (dP (mP Q 3 5)) 293) (zs "cpy313.difflib" 194) (zr 88) .none 0 (some 92)) [],zo Zaf none (zd [ze a "__module__" 295 (zs "cpy313.difflib" 194),ze a "__name__" 298 (zs "_make" 297),ze a "__qualname__" 301 (zs "Match._make" 300),ze a "__doc__" 303 (.str (dP (mP Q 3 5)) 293),ze a "__annotations__" 305 (zr 92)] 5) [],zo (.type "classmethod") (some 90) (zf [zr 89,.bool false]) [],zo Zaf none (zd [] 0) [],zo Zac none (zq [zr 68] 0) [],zo Zac none (zq [zs "__class__" 310] 0) [],fE,zo Zac none (zq [zs "self" 311,zs "kwds" 312,zs "result" 313] 0) [],tE,zo .none none (zg (mP Q 3 6) "_replace" "Match._replace" 0 [] .none .none .none .none .none .none 0 none) [],zo ZaM none (zf [zs "_replace" 307,zs "Match._replace" 308,zs "/claim/cut.py" 309,zi 41 0,zi 1 0,zi 1 0,zi 0 0,zi 11 0,zr 94,.bool true,zi 181 0,zr 95,.none,zr 96,zr 97,zr 98,zi 314 0,zi 41 0,zs "/claim/cut.py" 315]) [],zo Zao none (zg (mP Q 3 6) "_replace" "Match._replace" 3 [("__class__",68)] .none .none (.str (dP (mP Q 3 6)) 316) (zs "cpy313.difflib" 194) (zr 99) (zr 93) 0 none) []],fG 101 319 (mP Q 3 8) "__repr__" "Match.__repr__" 52 [1,0,0,3] ["self"] .none 325 kX,fG 108 327 (mP Q 3 9) "_asdict" "Match._asdict" 56 [1,0,0,3] ["self"] .none 0 kX,fG 115 334 (mP Q 3 10) "__getnewargs__" "Match.__getnewargs__" 59 [1,0,0,3] ["self"] .none 340 kX,[zo Zac none (zq [zs "a" 342,zs "b" 343,zs "size" 344] 0) [],zo Zaf none (zd [ze a "index" 352 (zi 0 346),ze a "__doc__" 354 (zs "Alias for field number 0" 347)] 2) [],zo (zr 60) (some 123) (.plain) [],zo Za6 none (zd [ze a "self" 348 (zr 124),ze a "index" 349 (zi 0 346),ze a "doc" 350 (zs "Alias for field number 0" 347)] 3) [],zo Zaf none (zd [ze a "index" 362 (zi 1 356),ze a "__doc__" 364 (zs "Alias for field number 1" 357)] 2) [],zo (zr 60) (some 126) (.plain) [],zo Za6 none (zd [ze a "self" 358 (zr 127),ze a "index" 359 (zi 1 356),ze a "doc" 360 (zs "Alias for field number 1" 357)] 3) [],zo Zaf none (zd [ze a "index" 372 (zi 2 366),ze a "__doc__" 374 (zs "Alias for field number 2" 367)] 2) [],zo (zr 60) (some 129) (.plain) [],zo Za6 none (zd [ze a "self" 368 (zr 130),ze a "index" 369 (zi 2 366),ze a "doc" 370 (zs "Alias for field number 2" 367)] 3) [],tE,zo Zad none (zq [] 0) [],zo Zaf none (zd [ze a "__module__" 260 (zs "cpy313.difflib" 194),ze a "__firstlineno__" 264 (zi 23 263),ze a "__doc__" 266 (zs "Match(a, b, size)" 265),ze a "__slots__" 268 (zr 73),ze a "_fields" 272 (zr 74),ze a "_field_defaults" 273 (zr 75),ze a "__new__" 284 (zr 136),ze a "_make" 306 (zr 91),ze a "_replace" 317 (zr 100),ze a "__replace__" 318 (zr 100),ze a "__repr__" 326 (zr 107),ze a "_asdict" 333 (zr 114),ze a "__getnewargs__" 341 (zr 121),ze a "__match_args__" 345 (zr 122),ze a "a" 355 (zr 124),ze a "b" 365 (zr 127),ze a "size" 375 (zr 130),ze a "__static_attributes__" 376 (zr 132)] 2) [],zo Zat none (.cls (zc "Match" [Zac] [zr 135,Zac,Zai] 134 "Match" false)) [some (zr 65),none,some (zs "Match" 253),some (zs "Match" 261),some .none,some (.bool false)],zo (.type "staticmethod") none (zf [zr 82]) [],zo (.type "super") none (zf [zr 135,zr 135,zr 135]) [],zo Zam none (zf [ZbG,zr 135]) []],fG 139 381 (sP Q 4) "_calculate_ratio" "_calculate_ratio" 66 [2,0,0,3] ["matches","length"] .none 0 kX,[tE,zo Zam none (zf [Zcj,Zat]) [],zo Zaf none (zd [ze a "__module__" 396 (zs "cpy313.difflib" 194),ze a "__qualname__" 398 (zs "SequenceMatcher" 397),ze a "__firstlineno__" 400 (zi 70 399),ze a "__doc__" 402 (.str DX 401),ze a "__init__" 417 (zr 160),ze a "set_seqs" 427 (zr 167),ze a "set_seq1" 436 (zr 174),ze a "set_seq2" 445 (zr 181),ze a "_SequenceMatcher__chain_b" 463 (zr 188),ze a "find_longest_match" 491 (zr 196),ze a "get_matching_blocks" 518 (zr 203),ze a "get_opcodes" 533 (zr 210),ze a "get_grouped_opcodes" 551 (zr 218),ze a "ratio" 560 (zr 225),ze a "quick_ratio" 567 (zr 232),ze a "real_quick_ratio" 574 (zr 239),ze a "__static_attributes__" 585 (zr 240)] 17) [],tE,zo .none none (zf [zi 145 0,zi 4 0,zr 159,zi 173 0,zi 4 0,zr 166,zi 184 0,zi 4 0,zr 173,zi 209 0,zi 4 0,zr 180,zi 236 0,zi 4 0,zr 187,zi 260 0,zi 4 0,zr 195,zi 335 0,zi 4 0,zr 202,zi 383 0,zi 4 0,zr 209,zi 430 0,zi 4 0,zr 217,zi 475 0,zi 4 0,zr 224,zi 499 0,zi 4 0,zr 231,zi 502 0,zi 4 0,zr 238]) [],zo ZaM none (zf [zs "SequenceMatcher" 391,zs "SequenceMatcher" 392,zs "/claim/cut.py" 393,zi 70 0,zi 0 0,zi 0 0,zi 0 0,zi 0 0,zr 149,.bool false,zi 181 0,zr 150,.none,.none,.none,.none,zi 394 0,zi 70 0,zs "/claim/cut.py" 395]) [],zo Za6 none (.plain) [some (zr 151),some (zr 3),some (zr 148),none,some (zs "cpy313.difflib" 194),none,some (zr 0)],zo Zac none (zq [.none,zs "" 404,zs "" 405,.bool true] 0) []],fG 154 406 (mP Q 5 1) "__init__" "SequenceMatcher.__init__" 145 [5,0,0,3] ["self","isjunk","a","b","autojunk"] (zr 153) 416 kX,fG 161 418 (mP Q 5 2) "set_seqs" "SequenceMatcher.set_seqs" 173 [3,0,0,3] ["self","a","b"] .none 426 kX,fG 168 428 (mP Q 5 3) "set_seq1" "SequenceMatcher.set_seq1" 184 [2,0,0,3] ["self","a"] .none 435 kX,fG 175 437 (mP Q 5 4) "set_seq2" "SequenceMatcher.set_seq2" 209 [2,0,0,3] ["self","b"] .none 444 kX,fG 182 446 (mP Q 5 5) "__chain_b" "SequenceMatcher.__chain_b" 236 [1,0,0,3] ["self","b","b2j","i","elt","indices","junk","isjunk","popular","n","ntest","idxs"] .none 0 kX,[zo Zac none (zq [zi 0 464,.none,zi 0 465,.none] 0) []],fG 190 466 (mP Q 5 6) "find_longest_match" "SequenceMatcher.find_longest_match" 260 [5,0,0,3] ["self","alo","ahi","blo","bhi","a","b","b2j","isbjunk","besti","bestj","bestsize","j2len","nothing","i","j2lenget","newj2len","j","k"] (zr 189) 490 kX,fG 197 492 (mP Q 5 7) "get_matching_blocks" "SequenceMatcher.get_matching_blocks" 335 [1,0,0,3] ["self","la","lb","queue","matching_blocks","alo","ahi","blo","bhi","i","j","k","x","i1","j1","k1","non_adjacent","i2","j2","k2"] .none 517 kX,fG 204 519 (mP Q 5 8) "get_opcodes" "SequenceMatcher.get_opcodes" 383 [1,0,0,3] ["self","i","j","answer","ai","bj","size","tag"] .none 532 kX,[zo Zac none (zq [zi 3 534] 0) []],fG 212 535 (mP Q 5 9) "get_grouped_opcodes" "SequenceMatcher.get_grouped_opcodes" 430 [2,0,0,35] ["self","n","codes","tag","i1","i2","j1","j2","nn","group"] (zr 211) 550 kX,fG 219 552 (mP Q 5 10) "ratio" "SequenceMatcher.ratio" 475 [1,0,0,3] ["self","matches"] .none 559 kX,fG 226 561 (mP Q 5 11) "quick_ratio" "SequenceMatcher.quick_ratio" 499 [1,0,0,3] ["self"] .none 0 kX,fG 233 568 (mP Q 5 12) "real_quick_ratio" "SequenceMatcher.real_quick_ratio" 502 [1,0,0,3] ["self"] .none 0 kX,[zo Zac none (zq [zs "a" 575,zs "autojunk" 576,zs "b" 577,zs "b2j" 578,zs "bjunk" 579,zs "bpopular" 580,zs "fullbcount" 581,zs "isjunk" 582,zs "matching_blocks" 583,zs "opcodes" 584] 0) [],zo Zaf none (zd [ze a "__module__" 396 (zs "cpy313.difflib" 194),ze a "__firstlineno__" 400 (zi 70 399),ze a "__doc__" 402 (.str DX 401),ze a "__init__" 417 (zr 160),ze a "set_seqs" 427 (zr 167),ze a "set_seq1" 436 (zr 174),ze a "set_seq2" 445 (zr 181),ze a "_SequenceMatcher__chain_b" 463 (zr 188),ze a "find_longest_match" 491 (zr 196),ze a "get_matching_blocks" 518 (zr 203),ze a "get_opcodes" 533 (zr 210),ze a "get_grouped_opcodes" 551 (zr 218),ze a "ratio" 560 (zr 225),ze a "quick_ratio" 567 (zr 232),ze a "real_quick_ratio" 574 (zr 239),ze a "__static_attributes__" 585 (zr 240),ze a "__dict__" 587 (zr 243),ze a "__weakref__" 589 (zr 244)] 3) [],zo Zat none (.cls (zc "SequenceMatcher" [Zai] [zr 242,Zai] 241 "SequenceMatcher" true)) [none,none,some (zs "SequenceMatcher" 389),some (zs "SequenceMatcher" 397),some (.builtin "object.__new__"),some (.bool true)],zo Zbk none (zf [zs "__dict__" 586,zr 242,.builtin "function.__dict__",.builtin "function.__dict__#set"]) [],zo Zbk none (zf [zs "__weakref__" 588,zr 242,.builtin "ExceptionGroup.__weakref__",.none]) [],zo (.type "super") none (zf [zr 242,zr 242,zr 242]) [],zo Zam none (zf [ZbG,zr 242]) []],fG 247 592 (sP Q 6) "_format_range_context" "_format_range_context" 504 [2,0,0,3] ["start","stop","beginning","length"] .none 601 kX,[zo Zac none (zq [zs "" 603,zs "" 604,zs "" 605,zs "" 606,zi 3 607,zs "\n" 608] 0) []],fG 255 609 (sP Q 7) "context_diff" "context_diff" 513 [8,0,0,35] ["a","b","fromfile","tofile","fromfiledate","tofiledate","n","lineterm","prefix","started","group","fromdate","todate","first","last","file1_range","tag","i1","i2","_","line","file2_range","j1","j2"] (zr 254) 638 kX,fG 262 640 (sP Q 8) "_check_types" "_check_types" 581 [2,0,0,7] ["a","b","args","arg"] .none 0 kX,fG 269 652 (sP Q 10) "_law_line" "_law_line" 590 [1,0,0,3] ["z","signs","sign","code"] .none 0 EK,fG 276 662 (sP Q 11) "_law_far" "_law_far" 597 [2,0,0,3] ["rows","n","told","far","sign","line"] .none 0 EK,fG 283 674 (sP Q 12) "_law_range" "_law_range" 604 [2,0,0,3] ["start","size"] .none 0 EK,fH 290 682 (sP Q 13) "_law_half" "_law_half" 606 [3,0,0,3] .none 0 EK,fH 295 688 (sP Q 14) "_law_context" "_law_context" 617 [2,0,0,3] .none 0 EK,fH 300 694 (sP Q 15) "_law_read" "_law_read" 635 [2,0,0,3] .none 0 EK,fH 305 700 (sP Q 16) "law" "law" 665 [1,0,0,3] .none 0 EK]
def ob(k:U)(Q:VU)(a:OY):OB:=(FC Q a).getD k (zo .none none (zf []) [])
def pt(ps:J (U×OB))(Q:VU)(a:OY)(k:U):OB:=(ps.lookup k).getD (ob k Q a)
def tt(n:U)(g:U->OB)(m:U):U->U->BT:=Og (motive:=λ_=>U->U->BT) (λ_ _=>.nil) (λ_ r i d=>U0 (Nat.blt i n) (.node (g i) (r (i+d) (2*d)) (r (i+2*d) (2*d))) .nil) m
def Lc(Q:VU)(a:OY):J OB:=(Zh 15).map (pt [(3,boot_o_3 a),(12,zo .none none (zf []) [])] Q a)
def Tc(Q:VU)(a:OY):BT:=tt 15 (pt [(3,boot_o_3 a),(12,zo .none none (zf []) [])] Q a) 10 0 1
def Mp(Q:VU)(a:OY):BT:=tt 65 (pt [(3,mD a kX 11),(12,mC 2)] Q a) 10 0 1
def Ms(Q:VU)(a:OY):BT:=tt 139 (pt [(3,mD a kX 12),(12,mC 3)] Q a) 10 0 1
def MD(Q:VU)(a:OY):BT:=tt 146 (pt [(3,mD a kX 13),(12,mC 4)] Q a) 10 0 1
def Mu(Q:VU)(a:OY):BT:=tt 247 (pt [(3,mD a kX 14),(12,mC 5)] Q a) 10 0 1
def Ho(Q:VU)(a:OY):BT:=tt 310 (pt [] Q a) 10 0 1
end
end Hd
section
open PySem.Calls
namespace Hd
def ev(Q:VU):S2:={X1:=Q.main.scope,locals:=mainNs,globals:=mainNs,cells:=[],code:=.ref 13,frame:=some 14}
def p0:ix:={oc:=0,col:=0,d3:=0,endCol:=0}
def bP(Q:VU):J Wa:=behindTheImports Q
def cE(Q:VU):Code:=.body (bP Q) (ev Q)
def fB:J Frame:=[topFrame p0]
def lP(Q:VU)(i n:U):J Wa:=((bP Q).drop i).take n
def sT(T:VU->OY->BT)(n:U)(Q:VU)(k:U)(w:Tt)(os:VV):SharedT:=⟨T Q V2,n,{},⟨[]⟩,{},k,os⟩
def an:Zs ZP:=some (.ref 6)
def t1(Q:VU)(l:J Wa)(p:ix):Thread:=⟨(Yk l (ev Q)).wrap doneF deadEnd id id,cE Q,p,fB⟩
def q2:ix:={oc:=5,col:=0,d3:=22,endCol:=54}
def q3:ix:={oc:=23,col:=0,d3:=65,endCol:=54}
def q4:ix:={oc:=66,col:=0,d3:=69,endCol:=14}
def q5:ix:={oc:=70,col:=0,d3:=503,endCol:=16}
def Mg:ix:={oc:=665,col:=0,d3:=696,endCol:=29}
theorem J0(w:Tt)(os:VV):segRunT Ud Yz w 11 an 1 362 (sT Tc 15 Yz 187 w os) (t1 Yz (lP Yz 0 3) p0)=some (.next,sT Mp 65 Yz 253 w os,cE Yz,q2):=by
 rw[nX,Vg];unfold t1;rw[Vf];kernel_rfl
theorem KS(w:Tt)(os:VV):segRunT Ud Yz w 11 an 1 1047 (sT Mp 65 Yz 253 w os) (t1 Yz (lP Yz 3 1) q2)=some (.next,sT Ms 139 Yz 381 w os,cE Yz,q3):=by
 rw[nX,Vg];unfold t1;rw[Vf];kernel_rfl
theorem Kp(w:Tt)(os:VV):segRunT Ud Yz w 11 an 1 31 (sT Ms 139 Yz 381 w os) (t1 Yz (lP Yz 4 1) q3)=some (.next,sT MD 146 Yz 389 w os,cE Yz,q4):=by
 rw[nX,Vg];unfold t1;rw[Vf];kernel_rfl
theorem K6(w:Tt)(os:VV):segRunT Ud Yz w 11 an 1 666 (sT MD 146 Yz 389 w os) (t1 Yz [setC (sP Yz 5) (.str DX)] q4)=some (.next,sT Mu 247 Yz 592 w os,cE Yz,q5):=by
 rw[nX,Vg];unfold t1;rw[Vf];kernel_rfl
theorem JY(w:Tt)(os:VV):segRunT Ud Yz w 11 an 1 335 (sT Mu 247 Yz 592 w os) (t1 Yz (lP Yz 6 11) q5)=some (.next,sT Ho 310 Yz 706 w os,cE Yz,Mg):=by
 rw[nX,Vg];unfold t1;rw[Vf];kernel_rfl
end Hd
end
section
open PySem.Calls
namespace Hd
def Ha(a:OY):C_:=⟨⟨Lc Yz a⟩,{}⟩
def H1(a:OY):C_:=⟨⟨FC Yz a⟩,{}⟩
theorem pre(w:Tt)(os:VV):topGo Ud Yz w 11 an 12 ⟨L0 V2,⟨[]⟩,boot_drawn,boot_toks,os⟩ (topStub Yz)=some (⟨Ha V2,⟨[]⟩,{},187,os⟩,⟨denote Ud (cE Yz),cE Yz,p0,fB⟩):=by
 rw[nX,Fast.te15667345088766844465,Fast.te11892475500146522536];kernel_rfl
theorem block(w:Tt)(os:VV):segRun Ud Yz w 11 an 1 1 ⟨Ha V2,⟨[]⟩,{},187,os⟩ (blockOf (bP Yz) (ev Yz) (cE Yz) p0 fB)=some (.next,(sT Tc 15 Yz 187 w os).abs,cE Yz,p0):=by kernel_rfl
theorem Ub(w:Tt)(os:VV):topRun Ud Yz w 11 an 2 (sT Ho 310 Yz 706 w os).abs ⟨doneF .next,cE Yz,Mg,fB⟩=some ⟨H1 V2,⟨[]⟩,{},706,os⟩:=by
 rw[nX,Fast.te14082659384304107361];kernel_rfl
theorem DJ:bP Yz=lP Yz 0 3++(lP Yz 3 1++(lP Yz 4 1++([setC (sP Yz 5) (.str DX)]++(lP Yz 6 11++[])))):=by
 rw[<-Fk];kernel_rfl
theorem Up(w:Tt)(os:VV):topRun Ud Yz w 11 an (12+(1+(362+(1047+(31+(666+(335+2))))))) ⟨L0 V2,⟨[]⟩,boot_drawn,boot_toks,os⟩ (topStub Yz)=some ⟨H1 V2,⟨[]⟩,{},706,os⟩:=by
 refine go_top (pre w os) ?_;refine piece_block (block w os) ?_;have k:topRun Ud Yz w 11 an (362+(1047+(31+(666+(335+2))))) (sT Tc 15 Yz 187 w os).abs (restOf (lP Yz 0 3++(lP Yz 3 1++(lP Yz 4 1++([setC (sP Yz 5) (.str DX)]++(lP Yz 6 11++[]))))) (ev Yz) (cE Yz) p0 [topFrame p0])=some ⟨H1 V2,⟨[]⟩,{},706,os⟩:=by
  refine hD (hC (J0 w os)) ?_;refine hD (hC (KS w os)) ?_;refine hD (hC (Kp w os)) ?_;refine hD (hC (K6 w os)) ?_;refine hD (hC (JY w os)) ?_;exact piece_nil (Ub w os)
 rw[<-DJ]at k;exact k
theorem opened(w:Tt):(fencedOpening Ud Yz w 5000).map (λs=>(Ts,s.gens,s.drawn,Ur))=some (L0 V2,⟨[]⟩,boot_drawn,boot_toks):=boot_open Z_ Z_ (λs=>by kernel_rfl!) w
theorem size(w:Tt):((L0 V2).isNs W2&&(⟨[]⟩:Ua U_).size==0,(L0 V2).objs.size,(L0 V2).nsMap W2 "__annotations__")=(true,11,an):=by kernel_rfl!
end Hd
end
section
open PySem.Calls
namespace Hd
def qv:VU:={Yz with main:={prog.main with W8:=prog.main.body.drop 16}}
def lo:J Z:=["_wall","_tuplegetter","Match","_calculate_ratio","SequenceMatcher","_format_range_context","context_diff","_check_types","_law_line","_law_far","_law_range","_law_half","_law_context","_law_read"]
def fS(w:Tt)(os:VV):Zb:=⟨H1 V2,⟨[]⟩,{},706,os⟩
theorem im:importedModules prog.main.body=[]:=by kernel_rfl
theorem Jj(w:Tt):staticsOk [] (L0 V2) (H1 V2)=true:=by kernel_rfl
theorem HH(w:Tt):namesBound Yz (H1 V2)=true:=by kernel_rfl
theorem Jq(w:Tt)(os:VV):gensDone (fS w os)=true:=by kernel_rfl
theorem Jf(w:Tt):laidKept (L0 V2) (H1 V2)=true:=by kernel_rfl
abbrev Xt:Zb->YZ:=λO=>true
theorem Hf(w:Tt)(os:VV):openSeen qv lo [] Xt true (fS w os)=openGood qv lo:=by
 rw[Fast.te4187177175401517315];kernel_rfl
end Hd
end
section
open PySem.Calls
namespace Hd
def oG(o:OB):CL:=match OA with|.func f=>f|_=>default
def HC(o:OB):Zs Z:=match OA with|.fields a=>(match(a[1]?:Zs ZP)with|some (rd x _)=>some x|_=>none)|_=>none
structure Hy(w:Tt)(h:C_)(mg mb:Z->Zs ZP):Prop where
 at_:∀a o,(H1 V2).get? a=Zag->Vl a=some o
 g:h.Ns W2 mg
 b:h.Ns We mb
 nl:h.NoLimit
 bt:∀x:Z,x≠"__name__"->mb x=bootBuiltins x
abbrev Xc(w:Tt)(h:C_)(os:VV):Cx:=⟨w,h,os,Yz,256⟩
variable{N8:Z->Zs ZP}
theorem Hy.ns(a:Zaw)(e:(H1 Ze).isNs j=true):NG.Ns j ((H1 Ze).nsMap j):=(Heap.Ns.of_isNs e).keeps rv
theorem Hy.IG(a:Zaw):NM=(H1 Ze).nsMap W2:=by
 have k:=a.ns (j:=W2) Z9;rw[a.g.eq_nsMap,k.eq_nsMap]
theorem Hy.FI(i:Zaw)(h1:(H1 Ze).get? j=Zan)(h2:HC c=some D):NG.CodeRec (.ref j) D:=by
 obtain⟨cl,k,d⟩:=c;cases d with
 |fields f=>
  have e:∀a:Zs ZP,f[1]?=a->(match a with|some (rd x _)=>some x|_=>none)=some D->∃t,a=some (.str D t):=λa O e=>by cases a with
   |none=>cases e|some a=>cases a with|str x t=>cases e;exact⟨_,rfl⟩|_=>cases e
  obtain⟨t,ht⟩:=e _ rfl h2;exact⟨j,_,f,t,rfl,i.at_ _ _ h1,rfl,ht⟩|_=>cases h2
variable{Py:VV}
theorem Hy.fn(a:Zaw)(h1:(H1 Ze).get? j=some N3)(h2:N3={T':=Zao,Xg:=.func (t8 Ny (oG N3).pyModule Zde (oG N3).doc d k)})(c:(H1 Ze).get? p=Zbe)(i:HC f=some (v_ Ny))(n1:j≠256)(n:p≠256):h7 (Xc Nd NG Py) j Ny (oG N3).pyModule Zde (oG N3).doc d k:=⟨by rw[<-h2];exact rv _ _ h1,n1,a.FI c i,λe=>n (Value.ref.inj e)⟩
theorem Hy.mt(a:Zaw)(h1:(H1 Ze).get? j=some N3)(h2:N3={T':=Zao,Xg:=.func (xV q Ny (oG N3).pyModule Zde (oG N3).doc d k)})(c:(H1 Ze).get? p=Zbe)(i:HC f=some q)(n1:j≠256)(n:p≠256):vl (Xc Nd NG Py) j q Ny (oG N3).pyModule Zde (oG N3).doc d k:=⟨by rw[<-h2];exact rv _ _ h1,n1,a.FI c i,λe=>n (Value.ref.inj e)⟩
abbrev Hy.bs(a:Zaw)(os:VV):V1 (Xc Nd NG os):=⟨NM,N8,a.g,a.b,a.nl,by show(3:U)≠256;decide,by show(0:U)≠256;decide,by show(2:U)≠256;decide⟩
theorem Hy.gl(a:Zaw)(e:(H1 Ze).nsMap W2 x=c):NM x=c:=by rw[a.IG];exact e
theorem Hy.two(a:Zaw)(e:(H1 Ze).nsMap W2 x=none)(n:x≠"__name__")(e2:bootBuiltins x=Zan):(a.bs Py).mg x=none/\(a.bs Py).mb x=Zan:=⟨a.gl e,(a.bt x n).trans e2⟩
set_option tactic.hygienic true in theorem Hy.xq(a:Hy Nd NG NM N8):Q' (a.bs Py):=by
 intro f c e;unfold vK at e;split at e;.rename_i k;cases e;subst k;exact Hh Z9 (by rw[Ne,ay];decide) Z9
 split at e;.rename_i k;cases e;subst k;exact Hh Z9 (by rw[Ne,ay];decide) Z9
 split at e;.rename_i k;cases e;subst k;exact Hh Z9 (by rw[Ne,ay];decide) Z9
 split at e;.rename_i k;cases e;subst k;exact Hh Z9 (by rw[Ne,ay];decide) Z9
 split at e;.rename_i k;cases e;subst k;exact Hh Z9 (by rw[Ne,ay];decide) Z9
 split at e;.rename_i k;cases e;subst k;exact Hh Z9 (by rw[Ne,ay];decide) Z9
 split at e;.rename_i k;cases e;subst k;exact Hh Z9 (by rw[Ne,ay];decide) Z9
 .cases e
def Hy.gd(a:Zaw)(os:VV)(k fa c:U)(o e:OB)(d:ZP)(h1:(H1 Ze).get? fa=Zag)(h2:o={T':=Zao,Xg:=.func (t8 (cx k) (oG o).pyModule Zb1 (oG o).doc d .none)})(f:(H1 Ze).get? c=ZbU)(i:HC e=some (v_ (cx k)))(n1:fa≠256)(n:c≠256)(j:(H1 Ze).nsMap W2 (v_ (cx k))=some ZaA):lq (Xc Nd NG os) (a.bs os) k d .none:={fa:=fa,pm:=(oG o).pyModule,cd:=Zb1,Wv:=(oG o).doc,fn:=a.fn h1 h2 f i n1 n,gl:=a.gl j}
theorem Hy.Ko(a:Zaw)(os:VV):i4 (cZ (Xc Nd NG os) (a.bs os)):=⟨
  { oc:=a.gd os 10 275 274 (ob 275 Yz Ze) (ob 274 Yz Ze) .none Z9 Z9 Z9 Z9 Z' Z' Z9
    Ep:=a.gd os 11 282 281 (ob 282 Yz Ze) (ob 281 Yz Ze) .none Z9 Z9 Z9 Z9 Z' Z' Z9
    range:=a.gd os 12 289 288 (ob 289 Yz Ze) (ob 288 Yz Ze) .none Z9 Z9 Z9 Z9 Z' Z' Z9
    half:=a.gd os 13 294 293 (ob 294 Yz Ze) (ob 293 Yz Ze) .none Z9 Z9 Z9 Z9 Z' Z' Z9
    Ba:=Hh Z9 (by rw[Ne,ay];decide) Z9}⟩
end Hd
end
section
open PySem.Calls
namespace Hd
variable{N8:Z->Zs ZP}
def Hy.Dx(e:Zaw)(os:VV)(nm q:Z)(st:Wa)(d:ZP)(fa c:U)(o a:OB)(i:(H1 Ze).nsMap 241 nm=some ZaA)(h1:(H1 Ze).get? fa=Zag)(h2:o={T':=Zao,Xg:=.func (xV q st (oG o).pyModule Zb1 (oG o).doc d .none)})(j:(H1 Ze).get? c=ZaB)(k:HC a=some q)(n1:fa≠256)(n:c≠256):iu st q nm d ((H1 Ze).nsMap 241) (Xc Nd NG os):={f:=fa,pm:=(oG o).pyModule,cd:=Zb1,Wv:=(oG o).doc,get:=i,fn:=e.mt h1 h2 j k n1 n}
theorem Hy.sm(a:Zaw)(os:VV):i4 (hU (Xc Nd NG os) (a.bs os)):=⟨
  { C:=242,N:=241,mN:=(H1 Ze).nsMap 241
    c := { at_:=⟨⟨"SequenceMatcher","SequenceMatcher",[Zai],[],[],none,none,none,none,some (zs "SequenceMatcher" 389),some (zs "SequenceMatcher" 397),some (.bool true),rv 242 _ Z9⟩,a.ns Z9⟩
           nc:=by show(242:U)≠256;decide
           nn:=by show(241:U)≠256;decide
           L6:=by kernel_rfl
           ng:=by kernel_rfl
           Mh:=by kernel_rfl}
    gl:=a.gl Z9
    no:=by
      repeat(refine cq Z9 ?_)
      exact jP
    dI:=153,dF:=189,dG:=211,t1:=404,t2:=405,t3:=464,t4:=465,t5:=534
    Ir:=⟨⟨0,rv 153 _ Z9⟩,by show(153:U)≠256;decide⟩
    Hr:=⟨⟨0,rv 189 _ Z9⟩,by show(189:U)≠256;decide⟩
    IJ:=⟨⟨0,rv 211 _ Z9⟩,by show(211:U)≠256;decide⟩
    init:=a.Dx os "__init__" "SequenceMatcher.__init__" (fz 5 1) (.ref 153) 160 159 (ob 160 Yz Ze) (ob 159 Yz Ze) Z9 Z9 Z9 Z9 Z9 Z' Z'
    Ek:=a.Dx os "set_seqs" "SequenceMatcher.set_seqs" (fz 5 2) .none 167 166 (ob 167 Yz Ze) (ob 166 Yz Ze) Z9 Z9 Z9 Z9 Z9 Z' Z'
    seq1:=a.Dx os "set_seq1" "SequenceMatcher.set_seq1" (fz 5 3) .none 174 173 (ob 174 Yz Ze) (ob 173 Yz Ze) Z9 Z9 Z9 Z9 Z9 Z' Z'
    DF:=a.Dx os "set_seq2" "SequenceMatcher.set_seq2" (fz 5 4) .none 181 180 (ob 181 Yz Ze) (ob 180 Yz Ze) Z9 Z9 Z9 Z9 Z9 Z' Z'
    chain:=a.Dx os "_SequenceMatcher__chain_b" "SequenceMatcher.__chain_b" (fz 5 5) .none 188 187 (ob 188 Yz Ze) (ob 187 Yz Ze) Z9 Z9 Z9 Z9 Z9 Z' Z'
    eX:=a.Dx os "find_longest_match" "SequenceMatcher.find_longest_match" (fz 5 6) (.ref 189) 196 195 (ob 196 Yz Ze) (ob 195 Yz Ze) Z9 Z9 Z9 Z9 Z9 Z' Z'
    JE:=a.Dx os "get_matching_blocks" "SequenceMatcher.get_matching_blocks" (fz 5 7) .none 203 202 (ob 203 Yz Ze) (ob 202 Yz Ze) Z9 Z9 Z9 Z9 Z9 Z' Z'
    ops:=a.Dx os "get_opcodes" "SequenceMatcher.get_opcodes" (fz 5 8) .none 210 209 (ob 210 Yz Ze) (ob 209 Yz Ze) Z9 Z9 Z9 Z9 Z9 Z' Z'
    x5:=a.Dx os "get_grouped_opcodes" "SequenceMatcher.get_grouped_opcodes" (fz 5 9) (.ref 211) 218 217 (ob 218 Yz Ze) (ob 217 Yz Ze) Z9 Z9 Z9 Z9 Z9 Z' Z'}⟩
def M1:J Y9:=(Zh 310).filter λa=>!m2 a 256
def KF(w:Tt):Frag:=((Zh 310).zip (FC Yz V2)).filter λp=>!m2 p.1 256
theorem Hw(w:Tt):(KF w).In (H1 V2):=Frag.in_of (as:=M1) Z9 Z9
variable{Py:VV}
theorem Hy.tc(a:Zaw):bM (Xc Nd NG Py) (KF Nd) 135 136 82:=
  { Jc:=(Hw Nd).keeps rv
    kT:=by kernel_rfl
    obj:=⟨Zat,none,zc "Match" [Zac] [zr 135,Zac,Zai] 134 "Match" false,⟨[some (zr 65),none,some (zs "Match" 253),some (zs "Match" 261),some .none,some (.bool false)]⟩,by kernel_rfl,rfl,rfl,rfl,rfl,rfl⟩
    VP:=by kernel_rfl
    typ:=by kernel_rfl
    init:=by kernel_rfl
    reads:=by kernel_rfl
    new:=by kernel_rfl
    sm:=by kernel_rfl
    sb:=by kernel_rfl
    WB:=by kernel_rfl
    len:=by kernel_rfl
    lt:=by kernel_rfl}
theorem Hy.mo(a:Zaw)(os:VV):i4 (d8 (Xc Nd NG os) (a.bs os)):=⟨
  { K:=KF Nd,C:=135,p:=136,fn:=82,q:=91,fm:=89
    t:=a.tc
    gl:=a.gl Z9
    pm:=(oG (ob 82 Yz Ze)).pyModule,cd:=.ref 81,Wv:=(oG (ob 82 Yz Ze)).doc
    Mb:=(oG (ob 89 Yz Ze)).pyModule,zU:=.ref 88,HO:=(oG (ob 89 Yz Ze)).doc
    new:=a.mt (f:=ob 81 Yz Ze) Z9 Z9 Z9 Z9 Z' Z'
    Mo:=some 92
    make:=⟨rv 89 _ Z9,(by show(89:U)≠256;decide),a.FI (c:=ob 88 Yz Ze) Z9 Z9,λe=>by cases e⟩
    tup:=Hh Z9 (by rw[Ne,ay];decide) Z9
    tw:=by kernel_rfl
    cm:=by kernel_rfl
    Ft:=by kernel_rfl}⟩
theorem Hy.lib(a:Zaw)(os:VV):i4 (mf (Xc Nd NG os) (a.bs os)):=(a.sm os).elim λD=>(a.mo os).elim λM=>⟨
  { gE:=⟨_,rv oi (boot_o_1 Ze) Z9⟩
    hb:=a.xq
    hr:=Hh Z9 (by rw[Ne,ay];decide) Z9
    hl:=Hh Z9 (by rw[Ne,ay];decide) Z9
    hm:=Hh Z9 (by rw[Ne,ay];decide) Z9
    Aj:=Hh Z9 (by rw[Ne,ay];decide) Z9
    lz:=Hh Z9 (by rw[Ne,ay];decide) Z9
    D:=D
    M:=M
    bm:={bm:=4,gl:=a.gl Z9,ne:=by decide,nt:=by show(4:U)≠256;decide,o:=boot_o_4 Ze,get:=rv 4 _ Z9,T':=by kernel_rfl,dt:=by kernel_rfl,Xg:=by kernel_rfl}
    any:=Hh Z9 (by rw[Ne,ay];decide) Z9
    dt:=Hh Z9 (by rw[Ne,ay];decide) Z9
    Mf:=Hh Z9 (by rw[Ne,ay];decide) Z9
    fr:=a.gd os 6 253 252 (ob 253 Yz Ze) (ob 252 Yz Ze) .none Z9 Z9 Z9 Z9 Z' Z' Z9
    Ik:=a.gd os 8 268 267 (ob 268 Yz Ze) (ob 267 Yz Ze) .none Z9 Z9 Z9 Z9 Z' Z' Z9
    fa:=261,cc:=260,dd:=254,pm:=(oG (ob 261 Yz Ze)).pyModule,Wv:=(oG (ob 261 Yz Ze)).doc
    code:=⟨by show(260:U)≠256;decide,ob 260 Yz Ze,_,"/claim/cut.py",637,35,0,true,181,0,rv 260 _ Z9,rfl,rfl,rfl,rfl,rfl,rfl,rfl⟩
    fn:=a.fn (f:=ob 260 Yz Ze) Z9 Z9 Z9 Z9 Z' Z'
    gl:=a.gl Z9
    u1:=603,u2:=604,u3:=605,u4:=606,u5:=607,u6:=608
    defs:=⟨⟨0,rv 254 _ Z9⟩,by show(254:U)≠256;decide⟩}⟩
end Hd
end
end
section
open PySem.Calls
namespace Hd
noncomputable abbrev rW:OpenRow:=PySem.Challenge.rw_mt0003_01.row
theorem DI:(defOf qv "law").isSome=true:=by kernel_rfl
noncomputable def dk:DefRec×List (Str×Expr):=(defOf qv "law").get DI
theorem left:LeftO rW.prog qv lo Xt (λs=>s.heap) (λw=>H1 w.params) 5000:=LeftO.of_pieces (H₀:=boot_heap) (H₁:=H1) (gs₀:=⟨[]⟩) (gs₁:=⟨[]⟩) (d₀:=boot_drawn) (d₁:={}) (k₀:=boot_toks) (k₁:=706) (m₀:=11) (ann:=an) (M:=12+(1+(362+(1047+(31+(666+(335+2))))))) opened size whole (by decide) λw=>by
  funext os;have e1:importedModules rW.prog.main.body=[]:=im;rw[e1];have e2:(staticsOk [] (boot_heap w.params) (H1 w.params)&&namesBound rW.prog (H1 w.params)&&gensDone ⟨H1 w.params,⟨[]⟩,{},706,os⟩&&laidKept (boot_heap w.params) (H1 w.params))=true:=by
   have l2:namesBound rW.prog (H1 w.params)=true:=HH w;have l3:gensDone ⟨H1 w.params,⟨[]⟩,{},706,os⟩=true:=Jq w os;rw[Jj,l2,l3,Jf];rfl
  rw[e2];have e:openSeen qv lo [] Xt true ⟨H1 w.params,⟨[]⟩,{},706,os⟩=openGood qv lo:=Hf w os;rw[e]
set_option backward.match.sparseCases false in noncomputable def WI(e:Params)(h:Heap)(b:Value)(d:WData):Prop:=match d with|.int i=>∃t,b=.int i t|.list x=>∃a c,b=.ref a/\h.get? a=some {cls:=.type "list",data:=.seq (List.toArray c)}/\WellAll e h c x|_=>True
theorem wI(x:Well f h c d):WI f h c d:=Well.casesOn (motive_1:=λc d O=>WI f h c d) x trivial (λO=>trivial) (λi t=>⟨t,rfl⟩) (λO O=>trivial) (λO O=>trivial) (λO O=>trivial) (λO=>trivial) (λa b=>⟨_,_,rfl,a,b⟩) (λO O=>trivial) (λO O=>trivial) (λO O O O=>trivial) (λO O O O=>trivial) (λO O O O=>trivial)
noncomputable def WA(a:Params)(h:Heap)(b:List Value)(d:List WData):Prop:=d.rec (b=[]) λf r _=>∃c e,b=c::e/\Well a h c f/\WellAll a h e r
theorem wA(x:WellAll f h c d):WA f h c d:=WellAll.casesOn (motive_2:=λc d O=>WA f h c d) x rfl λa b=>⟨_,_,rfl,a,b⟩
theorem BD:∀{sc:List Int}{a:List Value},WellAll d hp a (sc.map .int)->ao f (sc.map .int) a:=by
 intro I;induction I with
 |nil=>
  intro a h;rw[(wA h:a=[])];exact .nil|cons i sc e=>
  intro a h;obtain⟨b,c,rfl,h1,h2⟩:=(wA h:∃b c,a=b::c/\Well d hp b (.int i)/\WellAll d hp c (sc.map .int));exact .cons (wI h1:∃t,b=.int i t) (e h2)
theorem ints_of{R:WRecords}:∀{x:List WData},WShape.hasItems R x .int=true->∃sc:List Int,x=sc.map .int:=by
 intro I;induction I with
 |nil=>
  intro _;exact⟨[],rfl⟩|cons b x c=>
  intro h;have a:WShape.has R b .int=true/\WShape.hasItems R x .int=true:=by simpa[WShape.hasItems]using h
  obtain⟨i,rfl⟩:=hasW_int a.1;obtain⟨sc,rfl⟩:=c a.2;exact⟨i::sc,rfl⟩
theorem Eu(h:rW.toRowW.claim.pre args=true):∃sc:List Int,args=[.list (sc.map .int)]/\sc.length<=63:=by
 obtain⟨h1,h2⟩:=pre_splitW (r:=rW.toRowW) h;obtain⟨d,r,rfl,a,c⟩:=hasAllW_cons (e:=.list .int) (es:=[]) h1;obtain rfl:=hasAllW_nil c;obtain⟨x,rfl,e⟩:=hasW_list a;obtain⟨sc,rfl⟩:=ints_of e;refine⟨sc,rfl,?_⟩;have a:(WTm.and (.not (.lt (.lit (.int (63:Nat))) (.len (.arg 0)))) (.lit (.bool true))).holds [] {args:=[.list (sc.map .int)]}=true:=h2;by_cases b:(63:Int)<(sc.length:Nat);.simp[WTm.holds,WTm.value,less?,Num.less?,b]at a
 .exact a9 0x1fcbc3cd4c2f [63,63] [_] [] b
variable{G:Shared}{z:Addr}{PI:List Value}
theorem oH(hl:G.heap.get? z=some {cls:=.type "list",data:=.seq PI.toArray})(c:G.heap.get? 256=some {cls:=.none,data:=.fields #[]})(hg:G.gens=#[]):aA (Xc f G.heap G.os) (λa o=>a=z/\o=seqObj (.type "list") PI.toArray 0) (λO=>none) G:=
  { old:=⟨OldK.refl _,⟨_,c⟩,(λo e=>by
        have e1:(256:Nat)=z:=e.1;subst e1;have d:G.heap.get? 256=_:=c;rw[hl]at d;cases d),⟨#[],c,trivial,(λpos i e=>by cases e)⟩⟩
    base:=λb o e O=>e
    aG:=(λa o e=>by obtain⟨rfl,rfl⟩:=e;exact hl)
    objs:=(λa o e=>by cases e)
    cO:=λa o O=>rfl
    low:=(λa o e=>by cases e)
    os:=rfl
    gens:=⟨AllBare.of_eq hg,(λa g st e=>by cases e),(λa b g st s e=>by cases e)⟩}
set_option tactic.hygienic true in theorem walk:WalkO qv lo (λO O=>True) (λw h=>∀c o,(H1 w.params).get? c=some o->h.get? c=some o) rW.toRowW dk.1 dk.2 λf n=>PySem.call f n:=by
 intro w PY s mg mb G D c o pm cd doc PZ P0 P2 hd P4 P5 F hg args I as u M N x P6;have d:Hy w s.heap mg mb:=⟨D,G.T.g,G.T.b,G.T.nolimit,G.T.builtins⟩;have Q:c=309:=by
  have y:=d.gl (x:=dk.1.name) (c:=some (.ref 309)) (by kernel_rfl);rw[F]at y;cases y;rfl
 subst Q;obtain⟨sc,rfl,z⟩:=Eu u;clear N M u;obtain⟨q,t,e,A,B⟩:=(wA x:∃q t,I=q::t/\Well w.params s.heap q (.list (sc.map .int))/\WellAll w.params s.heap t []);obtain⟨l,n,C,hl,V⟩:=(wI A:∃c n,q=.ref c/\s.heap.get? c=some {cls:=.type "list",data:=.seq (List.toArray n)}/\WellAll w.params s.heap n (sc.map .int));rw[C,(wA B:t=[])]at e;clear x A B C;subst e;have PM:=oH (f:=w) hl (d.at_ 256 _ (by kernel_rfl)) hg;have rep:ao (λc o=>c=l/\o=seqObj (.type "list") n.toArray 0) [j9 sc] [.ref l]:=.one ⟨l,n.toArray,0,rfl,⟨rfl,rfl⟩,BD V⟩;obtain⟨lb⟩:=d.lib s.os;obtain⟨PN⟩:=d.Ko s.os;have PR:=CJ (X:=Xc w s.heap s.os) (m:=callerA) (E:=λO=>none) (sc:=sc) (g:=λPS O=>PS=.bool true) (d.fn (Ny:=cx 16) (d:=.none) (k:=.none) (N3:=ob 309 prog w.params) (f:=ob 308 prog w.params) (j:=309) (p:=308) (by kernel_rfl) (by kernel_rfl) (by kernel_rfl) (by kernel_rfl) (by decide) (by decide)) lb PN d.xq (d.two (by kernel_rfl) (by rw[Ne,ay];decide) (by kernel_rfl)) (d.gd s.os 14 299 298 (ob 299 prog w.params) (ob 298 prog w.params) .none (by kernel_rfl) (by kernel_rfl) (by kernel_rfl) (by kernel_rfl) (by decide) (by decide) (by kernel_rfl)) (d.gd s.os 15 304 303 (ob 304 prog w.params) (ob 303 prog w.params) .none (by kernel_rfl) (by kernel_rfl) (by kernel_rfl) (by kernel_rfl) (by decide) (by decide) (by kernel_rfl)) ⟨by decide,by decide,rfl⟩ z (λP7 P8 hB=>Fu z hB) (λi=>rfl);refine wpAny_call (codeAny_mono (PR _ s _ PM rep) λP9 a PT=>?_);obtain⟨q,r,mv,i,rfl,le,PW,S,rfl⟩:=PT;have ev:q=.bool true:=PW;subst ev;exact⟨.inl ⟨.bool true,.bool true,[],rfl,λO=>rfl,.bool true,by kernel_rfl,λO=>⟨.nil,λc PX=>by cases PX⟩⟩,S.old.k,S.os,S.gens.bare⟩
end Hd
end
end Mine
open Mine Mine.Hd in
theorem PySem.Challenge.cw_mt0003_01_holds : PySem.Challenge.rw_mt0003_01.Holds := by
 refine holds_law Eo λb=>?_;exact holds_open (r:=rW) (q:=qv) (loose:=lo) (Xt:=Xt) (XP:=λO O=>True) (Yf:=λs=>s.heap) (Ya:=λw=>H1 w.params) (YP:=λw h=>∀a o,(H1 w.params).get? a=some o->h.get? a=some o) (d:=dk.1) (kwd:=dk.2) (N:=5000) left (λw s e a o k=>by have c:s.heap=H1 w.params:=e;rw[c];exact k) (λw h d y k a o e=>k a o (y a o e)) (λO O=>trivial) (λO O O O O=>trivial) (by kernel_rfl) (by kernel_rfl) (by kernel_rfl) (λs O=>recFacts_of (R:=[]) rfl) (by rfl) b (look_both (look_both (by kernel_rfl) (by kernel_rfl)) (look_both (by kernel_rfl) (by kernel_rfl))) ⟨rfl,rfl,rfl,rfl,rfl,by decide+kernel⟩ ⟨[.list []],by decide+kernel,by decide+kernel⟩ walk
