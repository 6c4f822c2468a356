import PyProof.Rows.All
import Wide.All
import OpenK.AllK
import Wide.FinOn
import KE.KxFormat
import KE.KSetIn
import PyProof.ConsumeWalk
import KE.KDictOf
import PyProof.ZipIter
import PyProof.StrCalls2
import PyProof.StrLawsTight
import PyProof.FitsReplace
import PyProof.Rows.RuleB_pow
import PyProof.Rows.ListMulCarried
import PyProof.Rows.Nodes
import PyProof.Rows.Chain
import PyProof.IsiPairs
import PyProof.StrLawsChain
import PyProof.Rows.StrIntSpec
import PyProof.Rows.RuleC_bool
import Lean
import PySem.Challenge.RW_mt0003_01
open PySem PySem.W PyProof.Rows
set_option Elab.async false
set_option linter.all false
set_option maxRecDepth 100000
set_option maxHeartbeats 4000000
set_option genSizeOf false
set_option genInjectivity false
set_option hygiene false
set_option tactic.hygienic false
set_option compiler.extract_closed false
namespace Mine
def tS(k:Lean.Name)(as:Array Lean.Syntax):Lean.Syntax:=.node .none k as
def tQ(as:Array Lean.Syntax):Lean.Syntax:=tS ``Lean.Parser.Tactic.tacticSeq #[tS ``Lean.Parser.Tactic.tacticSeq1Indented #[tS `null as]]
def tI(as:Array Lean.Syntax):Lean.Syntax:=tS ``Lean.Parser.Tactic.intro #[Lean.mkAtom "intro",tS `null as]
def tH:Lean.Syntax:=tS ``Lean.Parser.Term.hole #[Lean.mkAtom "_"]
def tR:Lean.Syntax:=tS ``Lean.Parser.Tactic.tacticRfl #[Lean.mkAtom "rfl"]
def aR:Lean.Syntax:=tQ #[tR]
def aI:Lean.Syntax:=tQ #[tI #[tH],Lean.mkAtom ";",tR]
def aW:Lean.Syntax:=tQ #[tS ``Lean.Parser.Tactic.withUnfoldingAll #[Lean.mkAtom "with_unfolding_all",aR]]
def aK:Lean.Syntax:=tQ #[tS `PyProof.Rows.«tacticKernel_rfl!» #[Lean.mkAtom "kernel_rfl!"]]
def aD:Lean.Syntax:=tQ #[tS ``Lean.Parser.Tactic.decide #[Lean.mkAtom "decide",tS ``Lean.Parser.Tactic.optConfig #[tS `null #[]]]]
def aX:Lean.Syntax:=tQ #[tS ``Lean.Parser.Tactic.exact #[Lean.mkAtom "exact",Lean.mkIdent `id]]
def aY:Lean.Syntax:=tQ #[tI #[tH],Lean.mkAtom ";",tS `PyProof.Rows.«tacticKernel_rfl!» #[Lean.mkAtom "kernel_rfl!"]]
set_option compiler.extract_closed false
namespace Mc
open Lean
abbrev Sy:=Syntax
abbrev Ls:=List Syntax
def mp{α β}(f:α->β):List α->List β|[]=>[]|a::l=>f a::mp f l
def fl{α β}(f:α->List β):List α->List β|[]=>[]|a::l=>f a++fl f l
def sA(s:String):Sy:=.atom .none s
def sI(s:String):Sy:=mkIdent s.toName
def sN(k:String)(l:Ls):Sy:=.node .none k.toName l.toArray
def sU(l:Ls):Sy:=sN "null" l
def sT(k:String)(l:Ls):Sy:=sN ("Lean.Parser.Tactic."++k) l
def sE(k:String)(l:Ls):Sy:=sN ("Lean.Parser.Term."++k) l
def sS(s:String):Ls->Sy|[]=>sU []|a::l=>sU (a::fl (λx=>[sA s,x]) l)
def sB(l:Ls):Sy:=sT "tacticSeq" [sT "tacticSeq1Indented" [sS ";" l]]
def sP(l:Ls):Sy:=sT "paren" [sA "(",sB l,sA ")"]
def sF(l:Ls):Sy:=sT "first" [sA "first",sU (mp (λt=>sN "group" [sA "|",sB [t]]) l)]
def sX(f:Sy)(l:Ls):Sy:=sE "app" [f,sU l]
def sR(t:Sy):Sy:=sT "refine" [sA "refine",t]
def sW(t:Sy):Sy:=sT "withReducible" [sA "with_reducible",sB [t]]
def sH:Sy:=sE "syntheticHole" [sA "?",sA "_"]
def sD(t:Sy):Sy:=sX t [sE "ellipsis" [sA ".."]]
def sM(t:Sy):Sy:=sX (sI "Eq.symm") [t]
def sQ:Sy:=sT "tacticTry_" [sA "try",sB [sW (sT "tacticRfl" [sA "rfl"])]]
def sLam(bs:Ls)(b:Sy):Sy:=sE "fun" [sA "fun",sE "basicFun" [sU bs,sU [],sA "=>",b]]
def sPar(h:Sy):Sy:=sE "paren" [sE "hygienicLParen" [sA "(",sN "hygieneInfo" [sI ""]],h,sA ")"]
def sCl:Sy:=sT "tacticRepeat_" [sA "repeat",sB [sT "clear" [sA "clear",sU [sI "O"]]]]
def sSub(h:Sy):Sy:=sP [sCl,sT "subst" [sA "subst",sU [sPar h]]]
def sO(m h:Sy):Sy:=sT "obtain" [sA "obtain",sU [m],sU [],sU [sA ":=",sU [h]]]
def sEx(h:Sy):Sy:=sT "exact" [sA "exact",h]
def sRc(h:Sy)(w:Ls):Sy:=sP [sCl,sT "rcases" [sA "rcases",sU [sT "elimTarget" [sU [],sPar h]],sU w]]
def sOut(o:Option Sy):MacroM Sy:=match o with|some s=>pure s|none=>Macro.throwUnsupported
def sAll(s:Sy):Ls:=s.getArgs.toList
def sSep(s:Sy):Ls:=s.getSepArgs.toList
def loc:Sy:=sT "location" [sA "at",sT "locationHyp" [sU [sT "locationType" [sN "patternIgnore" [.node .none (.mkSimple "token.⊢") #[sA "⊢"]]]]]]
def sLP:Sy:=sE "hygienicLParen" [sA "(",sN "hygieneInfo" [sI ""]]
def qRep(h e:Sy):Sy:=sW (sT "replace" [sA "replace",sE "letDecl" [sE "letIdDecl" [sE "letId" [h],sU [],sU [],sA ":=",e]]])
def rw1(t:Sy)(l:Bool):Ls:=let d:=sD t
 let f(r:String):=sX (sI r) [d,sH]
 if l then[sW (sR (f "trS")),sW (sR (sX (sI "Eq.trans") [sH,d])),sR (sX (sI "rwP") [sM d,sH])]else[sW (sR (f "Eq.trans")),sW (sR (f "trR")),sR (f "rwP")]
def rwF(s:Sy):Option Sy:=let rs:=sSep s[2][1]
 match rs with
 |[]=>none|r::rest=>let l:=r[0].getNumArgs !=0
  let t:=r[1]
  let d:=sD t
  let more:=s.setArg 2 (s[2].setArg 1 (sS "," rest))
  let rwt:=(s.setArg 0 (sA "rewrite")).setKind `Lean.Parser.Tactic.rewriteSeq|>.setArg 2 (s[2].setArg 1 (sU [r]))
  if s[1][0].getNumArgs !=0 then none else if s[3].getNumArgs==0 then if rest.isEmpty then some (sF (sW (sEx (if l then sM d else d))::mp (λx=>sP [x,sQ]) (rw1 t l)++[s.setArg 3 (sU [loc])]))else some (sP [sF (rw1 t l++[rwt]),more])else let hs:=sAll s[3][0][1][0]
   match hs with
   |[h]=>if h.isIdent then let e1:=sX (sI (if l then"Eq.trans"else"trS")) [d,h]
     let e2:=sX (sI "Eq.trans") [h,if l then sM d else d]
     let f:=sF [qRep h e1,qRep h e2,rwt]
     some (if rest.isEmpty then f else sP [f,more])else none|_=>none
def pOne(v:Sy):Sy:=sT "rcasesPat.one" [v]
def pIg:Sy:=sT "rcasesPat.ignore" [sA "_"]
def pMed(l:Ls):Sy:=sT "rcasesPatMed" [sS "|" l]
def pLo(m:Sy):Sy:=sT "rcasesPatLo" [m,sU []]
def pTup(l:Ls):Sy:=sT "rcasesPat.tuple" [sA "⟨",sS "," l,sA "⟩"]
def isT(s:Sy)(k:String):Bool:=s.getKind==("Lean.Parser.Tactic."++k).toName
def isE(s:Sy)(k:String):Bool:=s.getKind==("Lean.Parser.Term."++k).toName
def un(hn:Lean.Name)(x:String):Sy:=sI (if x.toName==hn then x++"Y"else x)
def obP(hn:Lean.Name)(p:Sy)(i:Nat):Sy×Ls:=let q:=p[0][0][0]
 let y:=un hn ("Y"++toString i)
 let z:=match p.find? λs=>s.isIdent&&s.getId !=`rfl with|some v=>un hn (v.getId.toString++"Y")|none=>y
 if p[0][0].getNumArgs !=1 then(z,[sO p[0] z])else if isT q "rcasesPat.one"then let x:=q[0]
  if x.getId==`rfl then(y,[sSub y])else if x.getId==hn then(y,[sT "revert" [sA "revert",sU [y]],sT "intro" [sA "intro",sU [x]]])else(x,[])else if isT q "rcasesPat.ignore"then(sI "O",[])else(z,[sO p[0] z])
def obM(h:Sy)(as:Ls)(n:Nat)(a:String)(i:Nat):Sy:=let k:=if a=="ex"then i+1 else i+2
 let us:=mp (λx=>obP h.getId x.1 x.2) (if i+2==n then as else as.take (i+1)).zipIdx
 let w:=un h.getId "Yw"
 let c:=i+2 !=n
 sP (sR (sX (sI (a++toString k)) [h,sLam (mp (·.1) us++if c then[w]else[]) sH])::(if h.isIdent then[sT "tacticTry_" [sA "try",sB [sT "clear" [sA "clear",sU [h]]]]]else[])++fl (·.2) us++if c then[sO (pMed [pTup (as.drop (i+1))]) w]else[])
def obF(s:Sy):Option Sy:=match sAll s[1][0][0],sAll s[3][1]with
 |[tp],[h]=>let as:=sSep tp[1]
  let n:=as.length
  if !isT tp "rcasesPat.tuple"||s[2].getNumArgs !=0||n<2 then none else some (sF (mp (obM h as n "ex") (List.range (min (n-1) 8)).reverse++mp (obM h as n "and") (List.range (min n 9-1)).reverse++[sRc h [sA "with",pLo (pMed [tp])]]))|_,_=>none
def caF(s:Sy):Option Sy:=let h:=s[1][0][1]
 let cs(t:Sy)(w:Sy):=sT "cases" [sA "cases",sU [sT "elimTarget" [sU [],t]],sU [],w]
 let par:=cs (sPar h) s[3]
 if isE h "paren"||s[1].getNumArgs !=1||s[1][0][0].getNumArgs !=0||s[2].getNumArgs !=0 then none else if s[3].getNumArgs==0 then let inj(l:Ls)(w:Sy):=sP (sT "injection" [sA "injection",h,w]::l)
  let f(l:List String):=inj (mp (λx=>cs (sI x) (sU [])) l) (sU [sA "with",sU (mp sI l)])
  some (sF ([inj [sT "done" [sA "done"]] (sU []),f ["YA","YB","YC","YD"],f ["YA","YB","YC"],f ["YA","YB"],f ["YA"]]++(if h.isIdent then[sSub h]else[])++[sRc h [],par]))else let g(u:Ls):Sy:=sP [sCl,sT "induction" [sA "induction",s[1],sU u,sU [],s[3]]]
  some (sF (mp (λn=>g [sA "using",sI (n++".casesOn")]) ["List","Nat","Option"]++[g [],par]))
def geF(s:Sy):Option Sy:=match sSep s[1]with
 |[a]=>let hs:=sAll a[0]
  if s[2].getNumArgs !=0 then none else some (sF [sR (sX (sI "genM") [a[1],sLam [a[3],hs.headD (sI "O")] sH]),s.setArg 2 (sU [loc])])|_=>none
def shF(s:Sy):Option Sy:=some (sR (sE "typeAscription" [sLP,sH,sA ":",sU [s[1]],sA ")"]))
def suF(s:Sy):Option Sy:=let hs:=sAll s[1]
 if hs.any (!·.isIdent)then none else some (sP (mp sSub hs))
def rcF(s:Sy):Option Sy:=match sSep s[1]with|[t]=>if isE t[1] "paren"||t[0].getNumArgs !=0 then none else some (sP [sCl,s.setArg 1 (sU [t.setArg 1 (sPar t[1])])])|_=>none
def ltL:Ls->Sy->Sy|[],b=>b|v::l,b=>sE "let" [sA "let",sE "letConfig" [sU []],sE "letDecl" [sE "letIdDecl" [sE "letId" [v],sU [],sU [],sA ":=",sE "hole" [sA "_"]]],sA ";",ltL l b]
def ix(c:Char):Nat:=let n:=c.toNat;if n==95 then 62 else if 97<=n then n-97 else if 65<=n then n-39 else if 48<=n then n+4 else 63
def tb:Array String:=("A'entryFor_of_tree A2l.map A_checkBuiltinCall BOBuiltin.List.listUpdate B_if_false Btc.lookup C'FuncData C1wpAny_unpackItems_tuple C2compareOp CLbq.fP C_cellsFrom CaF.plainAttrs_str CtMv.of D'Heap D_codeAmong DpS.aG E'List.Pairwise.imp_of_mem E_Nat.le_of_not_lt F'c.getD F_not_not_intro Flbg.cps.toList G'X.B.CodeRec G0subscriptTail G1S.toks G2S.f.gl G3b.place G4Bool.not_eq_true' G5G.heap.IsListIter G6List.ext_getElem? G7z.toNat G_m.depth Gbattr GfclipAt GpeQ.one GsBuiltin.List.listTooLong GuswappedStores H'Nat.lt_of_le_of_ne H2del H3Classical.byContradiction H4a.two HSS.f.loc H_Fast.tw4202317264376624991 Hhkinds I1Int.fdiv_eq_ediv_of_nonneg I2Looks.ld I3Builtin.List.listFitsIndex I4e.size I5checkBoundCall I6Heap.dictOf_iff.mp I7GF.yield I8Ext.refl IAposOf ICList.drop_drop IDNN.ps IHrows ILa.drop IPemit IVis.map IXgetD_get IYEF.doc I_isSubtype_stop J-List J_List.filterMap_nil K1c.size K2b.toList K3recursionLimit K4r.length K5g.length KPassign K_S.g.base KbHeap.size_push KcassignEach L'boot_heap L0EV.none_ L1S.f.keep L2S.low L3o.data LVpos.line L_False M_seqItems? N'Value.ref N0isSubtype NOscanBound N_hm.typeIs O'fs.length OAcodeAny_of_tree OBback OCS.g.c7 ODObj OENat.min_eq_left OFList.eq_nil_of_length_eq_zero OGList.mem_of_mem_take OHList.getElem?_of_mem OIwpAny_field OJbuiltinKind OKSetTable OLentryFor OMCalls.evalArgs_plain ONa.map OOOption.elim OPMethodCall_ OQhk' ORagain OScallWith OTArray.getElem?_eq_some_iff.mp OUInt.le_refl OVG.heap.DictOf OWbq.attr OXbehindInMarks OYm.units OZS.g.low O_Params OaEV.extend ObgetMethod OcswapsWith OdSub OeDecidable OfNN.rows OgList.toArray Ohslot Oibq.name OjInt.add_zero OlNat.rec Oolit OqArray.toList_inj.mp OtX.w.params.setOrder OuF.plain_extend_loop OvF.entry_extend_loop OwNat.add_sub_cancel' OxList.all_eq_true.mp OyKasT.kasWp_bind OzList.dropLast_concat_getLast P'List.countP_cons P1al.lookup POList.drop_length P_Nc.length PrList.isEmpty_map Q'NF.lookup Q0EF.ret Q1a.elim QOSeqAt.EqAt Q_S.f.fn R'List.map_nil R0s.cps.toList R1y.cps.toList R2h.ps R3done.map R4Txt.join R5Nat.ne_of_gt R6List.length_pos_of_mem R7Eq.trans R8Heap.SameBut.refl R9Manifest.varargsMethods.contains RHS.keep RONat.min_eq_right RXStd RYbV.mpr RZnewOf R_hp.length_eq Rrenv.locals S'List.countP_eq_length.mpr S0NameKind.cell S1Small S2EB.pb S3Looks.of_pure S4Builtin.«object.__getattribute__» S5Builtin.List.listSameRef S6compEnvC S7bindArgs S8f.length S9List.forall_mem_cons.mpr SAex1 SDfilled SEEF.one SFgroups SGst.new SHst.old SIdecide_eq_true_iff SJBuiltin.«frozenset.__contains__» SKcall_meets SMEnv SNmore SOd.take SPInt.natCast_nonneg SQList.mem_filter.mp SRNat.not_lt_zero SSthis.symm.trans SUgZ.none SVForInStep.yield SWInt.ofNat_le.mp SXpiecesOf SYStr.join S_argsOk SaGF.ae SbletTemporaryGo SdF.plainAttrs_list SeArray.toList_push SfList.range_succ_eq_map Sgm.deeper ShPV.same SicongrFun SjOm.dc SkInt.zero_add SlX.w Smmap_const SnTxt.split SoList.mem_iff_getElem.mp Sqm.in1.in1 SrList.length SsGF.cZ SuGF.aj SvBuiltin.Range.rangeSize Sxnames.Nodup SzNat.casesOn T'holding T1List.range_succ T2e.drop T3List.getElem?_take T4Array.getElem?_eq_none T5st.a8.length T6KPc.ite_no T7List.getElem?_drop T8Bool.false_eq_true T9a.size TAInst TCst.aL THrs.take TJPyProof.Rows.callWith_type1 TKBuiltin.List.listExtendWith TLwpAny_pyIter_list TMArray.getElem?_toList TNResult TOEV.tup TPexec TQbs.length TRBool.or_false TSplainId_quiet TUoff TVassignInOrder TXys.length TYList.countP_map TZList.mem_append T_String Tabegun TbPySem.Builtin.Str.strKind TdList.findIdx?_eq_none_iff TeNat.zero_lt_succ Tfx.cps.toList Tgb.drop Thl.Pairwise Tit.take TjF.slot_tuple_iterator_next TnSetTable.grown TostrKind_is Tpm.over TqHeap.ExtBut TrEB.val Tss.heap.push TtSub.refl TuS.base Tvs.heap TwWorld TxcI.le Tzidxs U-Nat U'Nat.lt_of_le_of_lt U0PV.now U1d.map U2value U3cond U4List.getElem?_eq_none U5gZ.some U6List.filterMap_append U7codeAny U8Option.map U9Value.none UAEV.lstP UBturn UCpre.length UDMV.int UENat.lt_irrefl UGb.getD UHG.heap.update UIList.any_cons UJbackTo UKS.objs ULmerge UMList.mem_of_mem_drop UNNat.lt_or_ge UOStr.length_append UPF.rm.handled UQTG.name URwpAny_truthy_bool USf.scope.names.lookup UTInt.sub_nonneg_of_le UUList.foldl_cons UWwpAny_ite UXwpAny_updateSeq UYList.length_nil UZList.getElem?_append_left U_Option.toList_some Uak.objs.size Ubmodel Uccls UdArray Uefin Ugand2 UhtreeTable UiList.filter_eq_self.mpr UjPySem.Builtin.Str.partsBetween UkSetTable.below UlwpAny_setField UmNameKind.local Unp.side UowpAny_askSetting UpwpAny_isInstance UqList.getElem_mem UrList.drop_zero Uswhole Utm.in1 Uus.toks Uvr.mono UwS.g.fresh UxList.lookup_cons Uybeq_eq_false_iff_ne UzSem.onRaise_eq_wrap V'codeAny_mono V0b.mg V1zero V2codeAny_builtin V3Base V4Stmt V5w.params V6Looks V7beq_iff_eq V8typeLookup V9wpAny_assign_Name VAwpAny_specialOf VBBuiltin.divisionGoesByPylong VCExists.imp VDe.elim VEx.elim VFsucc VGList.contains_nil VHl.foldr VIwpAny_seqItems VJwpAny_of_eq VKEF.bK VLList.length_erase_of_mem VMList.filter_append VNrs.reverse VOof_decide_eq_false VPpyNext VQcall VRenv.cells.lookup VSList.length_filter_le VTEB.cU VUl.lookup VVstandAt VWProgram VXOsState VYrawInt VZEV.lst V_m.length Vab.mb VbGenState VcseqIndex? VdBool.noConfusion Vebeq_self_eq_true VfInt.ofNat_lt.mpr VgwpAny_attempt Vhr.raw Vimem_of_lookup VjFast.te12563942051412417395 VkFast.te10110043849684766642 VlfirstOf VmList.drop_eq_nil_of_le VnList.drop_of_length_le VoNB.map Vqh.get? Vrq.elim VsexI2 VtList.map_congr_left VuList.getElem?_range VvManifest.signature? Vwor_false VxList.countP_eq_length_filter VywpAny_rule VzValue.type W'strKind W0rl.size W1h.use W2mainGlobals W3Sem.wrap_wrap W4EV.append W5l.length W6typeLookup_type W7callEnvC W8S.f.cG W9body WBnews WCiter WDplain WEnames WGNat.le_of_ble_eq_true WHList.pairwise_cons.mp WJrm.deeper WKvalueAt WLcs.flatMap WMList.mem_flatMap.mp WNNat.le_add_right WOList.cons_append WQnames.zip WRolds WSisSubtype_type WTh.mono WUs.heap.get? WVList.ne_of_not_mem_cons WWList.foldl_append WXList.length_range WYList.mem_range.mp WZStr.ofString W_st.a8 WawpAny_call WbList.size_toArray WcEV.cH WdS.g.objs WebuiltinsNs Wftoks WgNat.not_lt.mpr WhClassical.em WiNat.zero_add WjX.pr WlEnt.b Wma.getD WnNat.add_sub_cancel_left WoList.mem_erase_of_ne WpcodeAny_call_builtin Wqk.length WrNat.lt_succ_self WsList.contains_cons Wtbefore WuList.mem_singleton WvG.toks Wwdoc Wxdecide_eq_false WyExpr WzExt X'builtinLookup_eq_fast X0scope X1e.length X2EV.be X3ND.length X4r.handled X5h.rows X6List.length_reverse X7wpAny_call_entry X8seqObj X9List.take_add_one XAEB.cmp XBArray.getElem?_eq_getElem XCisTrue XDEF.ite XErest XFPyProof.Rows.seqObj XGwpAny_callSpecial?_slot XHList.take_append_drop XISem.bind_eq_wrap' XJfoldedSetIterable XKpop XMkept XNHeap.lt_size XOgv74 XQDecidable.byContradiction XRList.length_replicate XSList.mem_cons XTList.take_length XUdecide_eq_true_eq XWm.handled XXA.kindOf XYAround XZEV.pe X_heap XaNat.le_of_lt Xba.trans Xdk0.length XeRows XfList.mem_flatMap.mpr Xgdata XhNat.lt_add_of_pos_right XiList.length_pos_iff.mpr XjList.flatMap_nil Xka.heap.objs.size XlList.length_eq_zero_iff.mp XmletOwnedTupleGo XnList.map_map XoHeap.SameBut Xph.elim XqF.length XrNat.lt_of_lt_of_le Xst.drop XuStr.cps_append XvList.mem_singleton.mpr Xwi.length XxA.cells.lookup XyList.append_eq_nil_iff.mp XzList.drop_eq_getElem_cons Y'Heap.SameBut.update Y0Bool Y1Array.toList_append Y2List.mem_append_right Y3List.mem_append_left Y4Option.map_eq_some_iff.mp Y5List.mem_cons_self Y6EA.aj Y7h.s.length Y8upd Y9List.cons_ne_nil YEList.length_cons YFt.length YGd.length YHX.M YIG.heap YJList.not_mem_nil YKBool.and_eq_true YLA.locals YMList.not_mem_of_not_mem_cons YNList.mem_of_getElem? YOrm.handled YQList.take_of_length_le YRHeap.get?_update_self YSLoc YTList.flatMap_append YUEV.binop YVEF.aj YWNat.le_trans YXenv YYList.length_singleton YZc.length Y_Addr YbList.map_cons YcObj.mapSeq YdS.g.aG Yepure Ygenv.kindOf YhList.nil_append Yiside Yjexecs Yknil Ylpos YmwpAny_newObj_type YnBool.false_ne_true YowpAny_standAt Ypd.flatMap YqEV.item Yrdecide_eq_true Yso.lookup Ytbeq_eq_false_iff_ne.mpr YuList.mem_map.mpr YvArray.length_toList Yxprog Yyd.size YzX.B.get? Z-Str Z'3 Z0List.getD_eq_getElem?_getD Z1List.length_append Z2List.length_map Z3autoParam Z4EV.name Z5wpAny_pure Z6List.getElem?_eq_getElem Z7wpAny_bind Z84 Z92 ZAList.flatMap_cons ZCHeap.get?_push_of_some ZDList.mem_singleton.mp ZEList.map_append ZFwpAny_holding ZGeval ZHG.heap.get? ZIList.mem_cons.mp ZJEF.ae ZKsizeLine ZLHeap.get?_push_size ZMList.mem_append.mp ZNList.getElem?_eq_some_iff.mp ZOx.length ZPValue ZQList.append_assoc ZRs.length ZSwpAny_mono ZTif_pos ZUwpAny ZVNat.le_refl ZWOption.some.inj ZXList.mem_cons_of_mem ZYif_neg ZZG.heap.objs.size Z_1 ZaShared ZbNat.ne_of_lt Zcabsurd Zdrs.length ZeList.length_drop ZfNf.params ZgNat.zero_le ZhNe.symm ZiList.range Zjof_decide_eq_true ZkEF.assign ZlList.mem_map.mp ZmG.heap.push ZnList.append_nil ZoList.length_take Zpcons ZqcongrArg ZrstarEach ZsOption ZtList.replicate ZuEA.ae Zvb.length ZwInt Zxa.length ZyList.getElem?_map Zzs.heap.objs.size a'lookup_mem a3GF.ite a4h.size a5Reads a6x.cps.size a_i.map abpos.atName aie.none arSem.wrap b'c.toks b0wpAny_load b3EV.lR b4le.trans b5toString b6bne_iff_ne.mpr b7r.size b_i.size bbTG.fP bjhz' bkS.set brG.TypeIs c'dict c0args_nil c3wpAny_Name c4S.c7 c_beq_iff_eq.mpr cbwpAny_newFunctionEnv_cells cjS.g.gens ctS.g.os d'F.entry_tuple_iterator_next d3PM.symm d4kas_rev d6Array.getD_eq_getD_getElem? dVc2.drop d_S.state daInt.lt_sub_right_of_add_lt dfu.sub diendLine dnFast.tw14364793385576792824 dtHn.rows dxPc.cons e'Int.ofNat_lt.mp e0PB.same e3Option.isSome_iff_exists.mp e4ret e5List.mem_filter e6List.pairwise_iff_getElem.mp e8get?_update_seq eBh.S.ext e_F.args_tuple_iterator_next_1 eaList.getElem?_concat_length ebintKind ecgetAttr edHid eep.trans eklo.elim enBuiltin.Range.rangeFitsLong eoif_true erOff.new etcv.list ewrl.mono ezh.off.p f'table f3marks f5j.objs.size f6Array.perm_iff_toList_perm.mp f7keyOf fIList.drop_append_of_le_length f_looks_mroIn ffList.cons.injEq fiF.slot_dict_get fjstrSliceIndices fkInt.zero_lt_one foList.of_mem_zip fttest fvneN fxNat.le_antisymm g4Const g5r.int g6b.map g7G.gens.size gSslice g_Int.mul_add ggEF.dq gmwpAny_throw gnwpAny_point gqScope gsOff guinteractive gxEF.fp gyx.map h'ps.toList h3a.q.trans h4as.map h5eQ.nil h6pyIter h7rl.get h8truthy h9S.push hAstrValues hCq.symm hDkas_place hEp.getD hHpickOrder hInewFields hKt.special hLPyProof.Rows.callWith_builtin1 hNList.map_reverse hOps.map hPps.length hQe.symm hRrs.map hSF.call hTFnAt hWwpAny_pyIter_gen h_f.get? haB.map hcsegRun_of hipiece_app hkT.rows hotoldOf huc1.length hzB.take i'fs.drop i2Nonempty i3e.rep i4Ent.rep i_sc.drop iac.take ibr.cS ihInt.blt'_eq_true ijl.ev irtwo ivPos iwS.g ixArray.size_append j'Int.toNat_natCast j2pairsOf j3Int.lt_trans j4List.getElem?_inj j6setNext j_o.length jdplacesOf jnc2.getD jsNat.succ_pos juF.entry_str_split k'EV.jE k1yieldOut k3t.map k5Nat.le_total kVex.none k_getMethod_builtin kci.natAbs kfitem_at kibne_self_eq_false kklooks_findIn klfits_of_scanBound knwpAny_storeSet_of kpwpAny_setState_of ksF.plainAttrs_dict kyList.nodup_append l'q.le l4h.depth l5y.length l6Operator l7smallInt l_r.seq lhArray.getElem?_toList.symm.trans llgetItem lsNat.min_self lxh.units m'k.trans m1Nat.beq m2True m3Int.zero_mul m4List.casesOn m_h.symm.trans maList.lookup_cons_self.symm.trans mcS.g.old.mono miEV.glob muc.toList mwf.toList mxList.reverse_cons n'F.args_str_split_2 n2i.take nCList.countP_append nPtag.length n_D.no nfBuiltin.«set_iterator.__next__» njTok nvaH.ind nxLies nyInt.fmod_lt_of_pos nzx.fdiv o'Bool.true_and o2Int.lt_of_le_of_lt o3x.ev o4Prod.mk.injEq oCS.g.old.ne oIbase oLNat.pos_of_ne_zero o_List.map_drop oaPUnit.unit ocKasT.kasWp odG.heap.IsTupleIter ogline oicheck_slot ooCode.quiet_builtin ovsysModules owouts ozList.nodup_cons.mp p'Sem p3Frame.guarded p4gr.ja p5EV.i6 p6eW.le p7hd.symm.trans p8bne_iff_ne.mp p9i.natAbs.log2 p_EV.iX paObj.mapFields pdEV.xO pjNQ.In pnh1.symm.trans pxm.in1.handled pzwpAny_handled q'wpAny_For q0cs.length q1Ch.item q6PM.extBut q7st.a8.map q8NR.length q9sD.dict q_specialOf qaList.mem_filter.mpr qbM.mv qnList.filterMap_cons qrne_true_of_eq_false qsList.any_eq_true.mp r'relayAll r0inner r1oneType' r3left.length r4EV.me r5Bind.madeBy rDProd.mk.inj r_Bind.checkArgs raEF.forL rbhx' rdNB.length riValue.str rkh.handled rrargs_cons rtNH.get? rue.trans rvInt.ofNat rxa.at_ rycutAt s'Option.none sLCall_ s_EV.ik saentryFor_alias sbDecidableEq sfkeep sgAttribute_any_ skwpAny_letGo slfirstArgMember sooccurrences spsliceBounds sqEF.dM svgl.contains szh.len t'EB.k4 t6fdOf t7X.T t8Int.natCast_add t_EV.eu taS.f.bi tbS.f.yo tdList.rec tfd.getD tkout trNat.eq_of_beq_eq_true txStrLaws.glued_eq_join u'Int.neg_one_mul u0r.str u_wpAny_execs_nil v'h.S.g.objs v_fnName vaInt.fmod_nonneg_of_pos vbeO.drop vcl.drop viNat.add_zero vsD.C vxcontext w'Nat.lt_trans w1i.drop w2rm.room w_PySem.assign wdwpAny_typeOf x'Nat.succ.inj x1h.off.c x2h.off.l x3h.off.b x4h.off.g x6MV.casesOn x_names.length xatypeOf xbtypeIs_str y'key y0S.f.inj y1S.f.knd y2aw.sub y_Out yxkindOf z'a.lookup z0F.slot_str_split z3c.toArray zAEV.gh zBouter z_p.length zaArray.any zbsc.length zxEnt.a zyPySem.Builtin.Str.glued zzh.k0".splitOn " ").foldl (λa x=>match x.toList with|c::d::l=>a.set! (if d=='-' then 4096+ix c else 64*ix c+ix d) (String.ofList l)|_=>a) (Array.replicate 4160 "")
def cs:Array String:=("wpAny 7 4,Exists 2 1,wpAny 7 45,EF 7 4,wpAny 7 46,wpAny 7 6,And 2 01,wpAny 7 456,Eq 3 2,Eq 3 1,codeAny 5 3,And 2 0,EA 7 6,Or 2 01,wpAny 7 5,EF 7 46,iR 8 6,Eq 3 12,bF 7 2,b9 6 3,bF 7 4,GF 13 7,codeAny 5 34,bF 7 24,And 2 1,bF 7 2345,bq 8 567,EA 7 46,b9 6 23,EB 7 46,iR 8 16,GF 13 8,EF 7 5,qu 5 3,EF 7 6,LC 5 2,EV 7 6,LE.le 4 23,List.Pairwise 3 1,Or 2 1,eQ 7 246,bF 7 234,aA 4 3,wants 4 3,zY 3 0,EF 7 456,iR 8 267,bF 7 3,Hz 12 8,LC 5 024,GF 13 678,GF 13 <,Ac 6 4,aH 6 4,aA 4 23,ak 6 1,ak 6 35,aA 4 1,ak 6 23,CV 6 23,compPost 9 34,PV 7 5,aw 3 012,bF 7 5,Sem.wp 8 345,Sem.wp 8 3,CU 8 36,Wk 9 8,Wk 9 3,Wk 9 5,ak 6 4,gB 7 56,bF 7 0234,ak 6 5,Heap.IsTuple 3 02,wants 4 023,Not 1 0,EF 7 45,b9 6 235,LC 5 023,List.Perm 3 2,W.Looks 5 4,W.KasT.kasWp 5 3,List.Perm 3 1,Qs 4 3,CU 8 3,cT 4 1,W.KdsAll 7 6,W.KdsAll 7 056,W.KdsFill 8 0367,W.KdsFill 8 7,ak 6 45,jP 10 2,PV 7 56,MP 10 9,qu 5 4,ph 12 5,iR 8 1,M2 3 1,iR 8 167,LC 5 0234,bq 8 7,LC 5 3,iR 8 147,iR 8 7,LC 5 4,bq 8 6,rV 14 <,wo 10 4,aw 3 0,Jj 15 <,Jj 15 5,Jj 15 8,GF 13 ;,TG 7 4,TG 7 3,EB 7 5,EV 7 46,eQ 7 2,EA 7 456,TG 7 6,iR 8 26,M2 3 01,M3 10 257,EV 7 456,bq 8 5,Es 5 04,At 9 6,At 9 5,i8 7 56,aH 6 5,LT.lt 4 23,LE.le 4 2,Rel 4 23,Told 4 3,Nonempty 1 0".splitOn ",").toArray
def wc(s:String):String:=match s.toList with|[a]=>cs.getD (ix a) s|[a,b]=>cs.getD ((ix a+1)*62+ix b) s|_=>s
def pb:Array String:=("some~.globalImplicit ak~X~y~A~o~E~G .type~\"tuple\" PV~X~A~y~o~g .type~\"list\" .type~\"dict\" .ref~a aA~X~y~E~G some~o .type~\"object\" some~x .lst~(~ah~s~) .type~\"builtin_function_or_method\" bN~X~NQ~z~Nh~Nb some~c .type~\"function\" some~b .list~[] .type~\"type\" X8~(~.type~\"list\"~)~b~n kz~Nr~NG Hy~Nf~NH~NK~N9 .type~\"map\" some~a .ref~z .builtin~\"len\" .ref~fa .ref~ZZ .lst~(~ah~a~) some~d ZG~Ng~A .type~\"range\" .ns~(~aJ~\"opcodes\"~(~.ref~an~)~(~wG~s~k~F~S~V~)~) .type~\"set\" .ref~x .builtin~id .type~\"code\" W'~Wj~Sl Ye~(~.type~\"method_descriptor\"~) .int~i .ref~d .ref~b some~mv .ref~ga VP~(~.ref~it~) Y8~(~Y8~E~S~(~.list~[]~)~)~S~(~.list~[]~) au~(~jA~s~(~dH~s~a~)~)~(~fZ~s~a~(~dH~s~a~)~) J~MV some~r bG~y~B bW~pm~cd~Ww~s~fa ZG~WC~A .int~k xn~X~z~Nh~NK Rm~X~m~n .int~(~CM~Yi~) EV~X~m~A~(~ZG~(~.Name~x~Yl~)~A~)~o~E~g Z3~(~gH~A~Nn~[]~)~aR .type~\"frame\" .ref~S some~f .forLoop~n~(~.ref~ga~)~W9~[]~A some~(~.type~\"enumerate\"~) .type~T wo~X~m~cu~A~f~a~o~N7 some~(~sD~X~k~) Y8~E~x~(~.list~(~ah~g~)~) .lst~(~ah~i~) .Name~\"isinstance\"~d some~(~.list~c~) cQ~M.C TP~(~.For~u~WC~W9~[]~Yl~)~A Sat~Zau~c Qs~j~NA~NY~G .type~\"getset_descriptor\" some~(~.type~\"zip\"~) some~.cell cX~\"dict.get\"~o .type~\"list_iterator\" .int~n .ref~C Ub~Yx~a .refl~y kE~e~k Ub~Pe~Nf Tp~Ni~XO .forLoop~Ng~NI~NZ~[]~A some~(~.list~b~) Y8~E~S~(~.list~[]~) Y8~(~Y8~l~x~(~.list~[]~)~)~d~(~.list~[]~) .builtin~\"list.append\" Zr~[]~A .builtin~\"object.__init_subclass__\" Y8~E~t~(~.list~(~ah~TC~)~) dO~n~c .type~\"StopIteration\" .lst~(~ah~b~) z6~v1~v2~v3~v4 some~i J~Op oK~d~i~WC~X0~Yl Tp~(~.forLoop~Ng~NI~NZ~[]~A~)~XO Hh~Z_ .Name~\"str\"~c Yj~W9~A .type~\"tuple_iterator\" .int~a ZU~YH~m~(~Xm~f~(~.ref~it~)~i~)~d~k~G ZG~d~A XJ~WC~A~x XC~b~A~(~ZG~b~A~) HD~X~E~Nt~Pj~t~e~Q~NU .ref~it .ref~Nb .lst~(~ah~f~) .lst~(~ah~XK~) .ref~r av~Z_ some~(~.builtin~NX~) Y8~j~Xk~(~.list~[]~) J~cg .int~j some~e GL~S~ZR~Xq~q~o~n~(~d7~d~YG~) .type~\"str\" .ref~f .Name~\"SequenceMatcher\"~Np some~j some~(~sS~X~i~) XC~ft~A~(~ZG~ft~A~) V3~X .list~(~q7~aO~) .list~(~ha~iY~) .Name~\"any\"~i some~m eZ~I~t~e~a~c~b~d bW~pm~cd~Ww~u~fa bW~pm~cd~Ww~c~fa bU~pm~cd~Ww~a~fa ZG~b~A H2~E~d ZG~a~A ZG~Nn~A .builtin~\"type.__prepare__\" .Call~(~.Attribute~(~.Name~\"self\"~Np~)~N~Ny~)~[]~[]~N1 qd~A~X0~cl~o~l ZG~U2~A Yj~W9~YX Ko~sc~f~s1~x~z~kd~s~i3 .list~(~ah~c~) .builtin~\"tuple.__new__\" w0~s~F .type~\"dict_items\" .Subscript~c~i~d some~(~Oo~la~k~) some~(~.list~m~) j8~XK~a~b hm~x~mv~a~b V6~YH~hp~(~setEntries~a~)~d .forLoop~r~it~W9~[]~A .builtin~\"list.extend\" ZG~c~A xf~q~Nw~pm~cd~Ww~d~k fZ~s~a~(~dH~s~a~) cX~\"set.__contains__\"~a cX~\"set.__contains__\"~PZ ak~X~y~A~(~aJ~x~mv~o~)~E~C ZG~i~A X8~(~.type~\"tuple\"~)~b~n Ie~S~ZR~Xq~q~o~a~P2~V~P4~i~p~k~(~qb~i~p~k~) .builtin~\"isinstance\" ZG~(~.Call~(~.Attribute~Ng~N~Np~)~[]~[]~Ny~)~A .int~c some~\"tuple.__new__\" h~y~G~S Yj~NZ~A S6~X0~cl~C~YX RX~b PB~X~A~y~o~Nj .ref~NM .Call~(~.Attribute~Ng~(~\"items\"~)~Np~)~[]~[]~Ny .ref~c .Attribute~(~.Name~\"tuple\"~Np~)~\"__new__\"~Ny ak~u~b~YX~l~G~s ak~u~a~YX~l~G~s aM~A~x Lb~t~e~ND~Nx~Nm J~ZP DN~sc~s~f~XK~i~a~k~IH~(~.ref~x~)~(~.ref~b~) .refl~a .lst~(~ah~c~) .Tuple~(~Vo~nm~)~k~Yl .Attribute~Ng~N~Np some~n au~k0~cs X.M.den~(~.forLoop~n~(~.ref~ga~)~W9~[]~A~) PV~X~A~d~o~g Ef~x~n~c2~(~.ref~g0~) Ch~I~t~e~YF~X1~i~j~l .ref~an".splitOn " ").toArray
def by_(t:Sy):Sy:=sE "byTactic" [sA "by",t]
def nm(n:Lean.Name):String:=match n with
 |.str .anonymous s=>match s.toList with
  |[a]=>tb.getD (4096+ix a) ""|[a,b]=>tb.getD (64*ix a+ix b) ""|['Z',a,b]=>pb.getD (64*ix a+ix b) ""|_=>""
 |_=>""
def tm(l:Ls):Sy:=match l.reverse with|[]=>sE "hole" [sA "_"]|[a]=>a|f::l=>sX f l
def ph(k:Sy->Sy)(x:String):Sy:=let tk(x:String):Sy:=match x.toList with
  |'.'::l=>sE "dotIdent" [sA ".",sI (String.ofList l)]|'"'::l=>Syntax.mkStrLit (String.ofList l.dropLast)|['_']=>sE "hole" [sA "_"]|['[',']']=>sN "«term[_]»" [sA "[",sU [],sA "]"]|_=>k (sI x)
 tm (((x.splitOn "~").foldl (λ(st:List Ls)x=>match x,st with
  |"(",st=>[]::st|")",a::b::r=>(tm a::b)::r|_,a::r=>(tk x::a)::r|_,st=>st) [[]]).headD [])
def rwJ(k:Sy->Sy)(s:Sy):Sy:=match s with
 |.ident _ _ n _=>let e:=nm n
  if e.contains '~' then ph k e else match e with
  |""=>s|"1"=>by_ aK|"2"=>by_ (tQ #[sN "tacticKernel_rfl" [sA "kernel_rfl"]])|"3"=>by_ aD|"4"=>by_ (tQ #[sT "decide" [sA "decide",sT "optConfig" [sU [sT "configItem" [sT "posConfigItem" [sA "+",sI "kernel"]]]]]])|x=>sI x
 |.node _ k as=>if k==`Lean.Parser.Term.paren&&as[1]!.isStrLit?.isSome then sE "typeAscription" [sLP,as[1]!,sA ":",sU [sI "Str"],sA ")"]else if k==`Lean.Parser.Command.declaration&&(s[1].getKind==`Lean.Parser.Command.definition||s[1].getKind==`Lean.Parser.Command.abbrev)&&s[0][4].getNumArgs==0 then s.setArg 0 (s[0].setArg 4 (sU [sN "Lean.Parser.Command.noncomputable" [sA "noncomputable"]]))else s|_=>s
def rwI:Sy->Sy:=rwJ (rwJ (rwJ (rwJ (rwJ (rwJ (rwJ (rwJ id)))))))
def stF(s:Syntax):MacroM Syntax:=if s.getPos?.isNone then Macro.throwUnsupported else pure (s.rewriteBottomUp λx=>rwI (x.setInfo .none))
def waF(s:Sy):Option Sy:=match(wc (s[1].isStrLit?.getD "")).splitOn " "with
 |[h,n,d]=>let is:=mp (λc=>c.toNat-48) d.toList
  let nm(i:Nat):=sI ("v"++toString i)
  some (sR (ltL (mp nm is) (sE "typeAscription" [sLP,sH,sA ":",sU [sX (sE "explicit" [sA "@",sI h]) (mp (λi=>if is.contains i then nm i else sE "hole" [sA "_"]) (List.range (n.toNat?.getD 0)))],sA ")"])))|_=>none
def haF(s:Sy):Option Sy:=if isE s[2][0] "letIdDecl"then some (sT "focus" [sA "focus",sB [sR (sE "have" [s[0],s[1],s[2],sA ";",sH]),sT "rotateRight" [sA "rotate_right",sU []]]])else none
def deF(s:Sy):Option Sy:=if s[1][0].getNumArgs !=0 then some (sP [sR (sX (sI "of_decide_eq_true") [sH]),sN "PyProof.Rows.«tacticKernel_rfl!»" [sA "kernel_rfl!"]])else let e(x:String):=sEx (sX (sI x) [sI "rfl"])
 some (sF [sW (sEx (sI "rfl")),e "Nat.le_of_ble_eq_true",e "Nat.ne_of_beq_eq_false",e "of_decide_eq_true",s.setArg 1 (sT "optConfig" [sU [sT "configItem" [sT "negConfigItem" [sA "-",sI "kernel"]]]])])
end Mc
section
local macro_rules (kind:=Lean.Parser.Command.declaration)|s=>Mc.stF s
local macro_rules (kind:=Lean.Parser.Command.variable)|s=>Mc.stF s
local macro_rules (kind:=Lean.Parser.Command.mutual)|s=>Mc.stF s
set_option bootstrap.genMatcherCode false
theorem trR{α:Sort _}{a b c:α}(h:a=b)(k:c=b):c=a:=m' h.symm
theorem trS{α:Sort _}{a b c:α}(h:a=b)(k:a=c):b=c:=m_ k
@[elab_as_elim]theorem rwP{α:Sort _}{a b:α}(h:a=b){c:α->Prop}(k:c b):c a:=h▸k
@[elab_as_elim]theorem genM{α:Sort _}{b:α->Prop}(a:α)(k:∀x,a=x->b x):b a:=k a rfl
theorem E1{α β d:Type _}{e:α×β×d->Prop}(mk:∀a b c,e (a,b,c))(p:α×β×d):e p:=mk p.1 p.2.1 p.2.2
theorem Ii{α β e f:Type _}{g:α×β×e×f->Prop}(mk:∀a b c d,g (a,b,c,d))(p:α×β×e×f):g p:=mk p.1 p.2.1 p.2.2.1 p.2.2.2
@[elab_as_elim]theorem bQ{α:Sort _}{c:Prop}[Oe c]{a b x:α}{d:α->Prop}(e:(if c then a else b)=x)(h1:c->d a)(h2:¬c->d b):d x:=by
 rw[<-e]at⊢;split;.exact h1 ‹_›
 .exact h2 ‹_›
theorem gG{α:Type _}{C:Prop}(x:Zs α)(h:x=none->C)(k:∀a,x=Zax->C):C:=by
 rcases x with _|a;.exact h rfl
 .exact k a rfl
theorem v9{α:Type _}{C:Prop}(x:J α)(h:x=[]->C)(k:∀a l,x=a::l->C):C:=by
 rcases x with _|⟨a,l⟩;.exact h rfl
 .exact k a l rfl
theorem SA{b:Sort _}{p:b->Prop}{C:Prop}(h:∃a,p a)(k:∀a,p a->C):C:=Xp λa h=>k a h
theorem ex2{c:Sort _}{d:Sort _}{p:c->d->Prop}{C:Prop}(h:∃a b,p a b)(k:∀a b,p a b->C):C:=Xp λa h=>Xp λb h=>k a b h
theorem ex3{d:Sort _}{e:Sort _}{f:Sort _}{p:d->e->f->Prop}{C:Prop}(h:∃a b c,p a b c)(k:∀a b c,p a b c->C):C:=Xp λa h=>Xp λb h=>Xp λc h=>k a b c h
theorem ex4{e:Sort _}{f:Sort _}{g:Sort _}{i:Sort _}{p:e->f->g->i->Prop}{C:Prop}(h:∃a b c d,p a b c d)(k:∀a b c d,p a b c d->C):C:=Xp λa h=>Xp λb h=>Xp λc h=>Xp λd h=>k a b c d h
theorem ex5{f:Sort _}{g:Sort _}{i:Sort _}{j:Sort _}{l:Sort _}{p:f->g->i->j->l->Prop}{C:Prop}(h:∃a b c d e,p a b c d e)(k:∀a b c d e,p a b c d e->C):C:=Xp λa h=>Xp λb h=>Xp λc h=>Xp λd h=>Xp λe h=>k a b c d e h
theorem ex6{g:Sort _}{i:Sort _}{j:Sort _}{l:Sort _}{m:Sort _}{n:Sort _}{p:g->i->j->l->m->n->Prop}{C:Prop}(h:∃a b c d e f,p a b c d e f)(k:∀a b c d e f,p a b c d e f->C):C:=Xp λa h=>Xp λb h=>Xp λc h=>Xp λd h=>Xp λe h=>Xp λf h=>k a b c d e f h
theorem ex7{i:Sort _}{j:Sort _}{l:Sort _}{m:Sort _}{n:Sort _}{o:Sort _}{q:Sort _}{p:i->j->l->m->n->o->q->Prop}{C:Prop}(h:∃a b c d e f g,p a b c d e f g)(k:∀a b c d e f g,p a b c d e f g->C):C:=Xp λa h=>Xp λb h=>Xp λc h=>Xp λd h=>Xp λe h=>Xp λf h=>Xp λg h=>k a b c d e f g h
theorem ex8{j:Sort _}{l:Sort _}{m:Sort _}{n:Sort _}{o:Sort _}{q:Sort _}{r:Sort _}{s:Sort _}{p:j->l->m->n->o->q->r->s->Prop}{C:Prop}(h:∃a b c d e f g i,p a b c d e f g i)(k:∀a b c d e f g i,p a b c d e f g i->C):C:=Xp λa h=>Xp λb h=>Xp λc h=>Xp λd h=>Xp λe h=>Xp λf h=>Xp λg h=>Xp λi h=>k a b c d e f g i h
theorem Ug{p0 p1:Prop}{C:Prop}(h:p0/\p1)(k:p0->p1->C):C:=k h.1 h.2
theorem and3{p0 p1 p2:Prop}{C:Prop}(h:p0/\p1/\p2)(k:p0->p1->p2->C):C:=k h.1 h.2.1 h.2.2
theorem and4{p0 p1 p2 p:Prop}{C:Prop}(h:p0/\p1/\p2/\p)(k:p0->p1->p2->p->C):C:=k h.1 h.2.1 h.2.2.1 h.2.2.2
theorem and5{p0 p1 p2 p a:Prop}{C:Prop}(h:p0/\p1/\p2/\p/\a)(k:p0->p1->p2->p->a->C):C:=k h.1 h.2.1 h.2.2.1 h.2.2.2.1 h.2.2.2.2
theorem and6{p0 p1 p2 p a b:Prop}{C:Prop}(h:p0/\p1/\p2/\p/\a/\b)(k:p0->p1->p2->p->a->b->C):C:=k h.1 h.2.1 h.2.2.1 h.2.2.2.1 h.2.2.2.2.1 h.2.2.2.2.2
theorem and7{p0 p1 p2 p a b c:Prop}{C:Prop}(h:p0/\p1/\p2/\p/\a/\b/\c)(k:p0->p1->p2->p->a->b->c->C):C:=k h.1 h.2.1 h.2.2.1 h.2.2.2.1 h.2.2.2.2.1 h.2.2.2.2.2.1 h.2.2.2.2.2.2
theorem and8{p0 p1 p2 p a b c d:Prop}{C:Prop}(h:p0/\p1/\p2/\p/\a/\b/\c/\d)(k:p0->p1->p2->p->a->b->c->d->C):C:=k h.1 h.2.1 h.2.2.1 h.2.2.2.1 h.2.2.2.2.1 h.2.2.2.2.2.1 h.2.2.2.2.2.2.1 h.2.2.2.2.2.2.2
theorem and9{p0 p1 p2 p a b c d e:Prop}{C:Prop}(h:p0/\p1/\p2/\p/\a/\b/\c/\d/\e)(k:p0->p1->p2->p->a->b->c->d->e->C):C:=k h.1 h.2.1 h.2.2.1 h.2.2.2.1 h.2.2.2.2.1 h.2.2.2.2.2.1 h.2.2.2.2.2.2.1 h.2.2.2.2.2.2.2.1 h.2.2.2.2.2.2.2.2
theorem Vs{α:Sort _}{β:Sort _}{p:α->β->Prop}(a:α)(b:β)(z:p a b):∃a b,p a b:=⟨a,b,z⟩
theorem exI3{α:Sort _}{β:Sort _}{d:Sort _}{p:α->β->d->Prop}(a:α)(b:β)(c:d)(z:p a b c):∃a b c,p a b c:=⟨a,b,c,z⟩
theorem exI4{α:Sort _}{β:Sort _}{e:Sort _}{f:Sort _}{p:α->β->e->f->Prop}(a:α)(b:β)(c:e)(d:f)(z:p a b c d):∃a b c d,p a b c d:=⟨a,b,c,d,z⟩
theorem exI5{α:Sort _}{β:Sort _}{f:Sort _}{g:Sort _}{i:Sort _}{p:α->β->f->g->i->Prop}(a:α)(b:β)(c:f)(d:g)(e:i)(z:p a b c d e):∃a b c d e,p a b c d e:=⟨a,b,c,d,e,z⟩
theorem andI3{a b c:Prop}(d:a)(hb:b)(e:c):a/\b/\c:=⟨d,hb,e⟩
theorem andI4{a b c d:Prop}(e:a)(hb:b)(f:c)(hd:d):a/\b/\c/\d:=⟨e,hb,f,hd⟩
theorem andI5{a b c d e:Prop}(f:a)(hb:b)(g:c)(hd:d)(he:e):a/\b/\c/\d/\e:=⟨f,hb,g,hd,he⟩
theorem andI6{a b c d e f:Prop}(g:a)(hb:b)(i:c)(hd:d)(he:e)(j:f):a/\b/\c/\d/\e/\f:=⟨g,hb,i,hd,he,j⟩
theorem andI7{a b c d e f g:Prop}(i:a)(hb:b)(j:c)(hd:d)(he:e)(k:f)(hg:g):a/\b/\c/\d/\e/\f/\g:=⟨i,hb,j,hd,he,k,hg⟩
namespace Om
set_option genCtorIdx false in inductive T where|n(i:U)|z(i:U)|k(c:U)|a(x y:T)|s(x y:T)|m(c:U)(y:T)|c(x:T)|t(x:T)|b(x:T)|l(x y:T)|h(x y:T)|g(x:T)
set_option genCtorIdx false in inductive F where|le(s:Y0)(x y:T)|lt(s:Y0)(x y:T)|eq(s:Y0)(x y:T)|no(f:F)|an(f g:F)|o(f g:F)|i(f g:F)|f
structure dQ where
 k:Zw
 c:J Zw
section
variable(d:J U)(q:J Zw)
def T.ev(f:T):U×Zw:=T.rec (motive:=λO=>U×Zw) (λi=>(tf i 0,0)) (λi=>(0,q.getD i 0)) (λe=>(e,e)) (λO O x y=>(x.1+y.1,x.2+y.2)) (λO O x y=>(x.1-y.1,x.2-y.2)) (λe O y=>(e*y.1,e*y.2)) (λO x=>(0,x.1)) (λO x=>(x.2.toNat,0)) (λO x=>(x.2.natAbs,0)) (λO O x y=>(min x.1 y.1,min x.2 y.2)) (λO O x y=>(max x.1 y.1,max x.2 y.2)) (λO x=>(0,-x.2)) f
def F.den(b:F):Prop:=F.rec (motive:=λO=>Prop) (λs x y=>U3 s ((o3 d q).2<=(y.ev d q).2) ((o3 d q).1<=(y.ev d q).1)) (λs x y=>U3 s ((o3 d q).2<(y.ev d q).2) ((o3 d q).1<(y.ev d q).1)) (λs x y=>U3 s ((o3 d q).2=(y.ev d q).2) ((o3 d q).1=(y.ev d q).1)) (λO p=>¬p) (λO O p a=>p/\a) (λO O p a=>p\/a) (λO O p a=>p->a) L_ b
end
def DG(s:J Zw):J Zw->J Zw:=td (motive:=λO=>J Zw->J Zw) (λt=>t) (λa s i t=>m4 (motive:=λO=>J Zw) t (a::s) λb t=>(a+b)::i t) s
def dQ.add(x y:dQ):dQ:=⟨x.k+y.k,DG x.c y.c⟩
def dQ.sc(j:Zw)(x:dQ):dQ:=⟨j*x.k,x.c.map (j*.)⟩
def dQ.sub(x y:dQ):dQ:=x.add (y.sc (-1))
def unit(i:U):dQ:=⟨0,Ol (motive:=λO=>J Zw) [1] (λO t=>0::t) i⟩
def comb{α:Type}(A B:J (J dQ×dQ))(f:dQ->dQ->J (J dQ×α)):J (J dQ×α):=A.flatMap λx=>B.flatMap λy=>(f x.2 y.2).map λr=>(x.1++(y.1++r.1),r.2)
abbrev AL:=J (J dQ×dQ)
abbrev Yk:AL:=[([],⟨0,[]⟩)]
def T.CT(j:T):Y0->AL:=T.rec (motive:=λO=>Y0->AL) (λi d=>U3 d Yk [([unit (2*i)],unit (2*i))]) (λi d=>U3 d [([],unit (2*i+1))] Yk) (λf O=>[([],⟨f,[]⟩)]) (λO O x y d=>comb (x d) (y d) λu e=>[([],u.add e)]) (λO O x y d=>comb (x d) (y d) λu e=>U3 d [([],df e)] [([df e],df e),([e.sub u],⟨0,[]⟩)]) (λf O y d=>(y d).map λr=>(r.1,r.2.sc f)) (λO x d=>U3 d (x false) Yk) (λO x d=>U3 d Yk ((x true).flatMap λr=>[(r.2::r.1,r.2),(r.2.sc (-1)::r.1,⟨0,[]⟩)])) (λO x d=>U3 d Yk ((x true).flatMap λr=>[(r.2::r.1,r.2),(r.2.sc (-1)::r.1,r.2.sc (-1))])) (λO O x y d=>comb (x d) (y d) λu e=>[([e.sub u],u),([df e],e)]) (λO O x y d=>comb (x d) (y d) λu e=>[([e.sub u],e),([df e],u)]) (λO x d=>U3 d ((x true).map λr=>(r.1,r.2.sc (-1))) Yk) j
def prod(A B:J (J dQ)):J (J dQ):=A.flatMap λx=>ha λy=>x++y
def rel(s:Y0)(x y:T)(f:dQ->dQ->J (J dQ)):J (J dQ):=(comb (x.CT s) (y.CT s) λu a=>(f u a).map λr=>(r,())).map (·.1)
def gt(u a:dQ):dQ:=(df a).add ⟨-1,[]⟩
def F.LA(a:F):Y0->J (J dQ):=F.rec (motive:=λO=>Y0->J (J dQ)) (λs x y p=>rel s x y λu b=>U3 p [[b.sub u]] [[gt u b]]) (λs x y p=>rel s x y λu b=>U3 p [[gt b u]] [[df b]]) (λs x y p=>rel s x y λu b=>U3 p [[b.sub u,df b]] [[gt u b],[gt b u]]) (λO a p=>a !p) (λO O a g p=>U3 p (prod (a true) (g true)) (a false++g false)) (λO O a g p=>U3 p (a true++g true) (prod (a false) (g false))) (λO O a g p=>U3 p (a false++g true) (prod (a true) (g false))) (λp=>U3 p [] [[]]) a
def hd(l:dQ):Zw:=l.c.headD 0
def tl(l:dQ):dQ:=⟨l.k,l.c.tail⟩
def elim(cs:J dQ):J dQ:=(cs.filter λl=>hd l==0).map tl++(cs.filter λl=>Int.blt' 0 (hd l)).flatMap λp=>(cs.filter λl=>Int.blt' (hd l) 0).map λq=>((tl p).sc (-hd q)).add ((tl q).sc (hd p))
def ref(n:U):J dQ->Y0:=Ol (motive:=λO=>J dQ->Y0) (λcs=>cs.any λl=>Int.blt' l.k 0&&l.c.isEmpty) (λO r cs=>r (elim cs)) n
def ok(n:U)(f:F):Y0:=(f.LA false).all (ref n)
section
variable(a:U->Zw)
def sj(s:J Zw):U->Zw:=td (motive:=λO=>U->Zw) (λO=>0) (λc O r i=>c*a i+r (i+1)) s
def dQ.ev(l:dQ)(i:U):Zw:=l.k+sj a l.c i
variable{a}
theorem C7:∀(s t:J Zw)(i:U),sj a (DG s t) i=sj a s i+sj a t i:=by
 intro I;induction I with
 |Yk=>
  intro t i;exact(Sk _).symm|Zp c s d=>
  intro e;cases e with
  |Yk=>
   intro i;exact(Oj _).symm|Zp b t=>
   intro i;show(c+b)*a i+sj a (DG s t) (i+1)=(c*a i+sj a s (i+1))+(b*a i+sj a t (i+1));rw[d t,Int.add_mul];ac_rfl
theorem Fs(j:Zw):∀(s:J Zw)(i:U),sj a (s.map (j*.)) i=j*sj a s i:=by
 intro I;induction I with
 |Yk=>
  intro i;exact(Int.mul_zero _).symm|Zp b s c=>
  intro i;show j*b*a i+sj a (s.map (j*.)) (i+1)=j*(b*a i+sj a s (i+1));rw[c,g_,Int.mul_assoc]
theorem rE(x y:dQ)(i:U):(x.add y).ev a i=o3 a i+y.ev a i:=by
 show x.k+y.k+sj a (DG x.c y.c) i=_;rw[C7];unfold dQ.ev;ac_rfl
theorem oD(j:Zw)(x:dQ)(i:U):(x.sc j).ev a i=j*o3 a i:=by
 show j*x.k+sj a (x.c.map (j*.)) i=_;rw[Fs];exact(g_ ..).symm
theorem g9(x y:dQ)(i:U):(x.sub y).ev a i=o3 a i-y.ev a i:=by unfold dQ.sub;rw[rE,oD,u'];rfl
theorem xd:0<=(gt x b).ev a i↔b.ev a i<o3 a i:=by unfold gt;rw[rE,g9];exact⟨λh=>Int.lt_of_sub_pos (Int.lt_of_lt_of_le Z' (Int.le_of_sub_nonneg (b:=1) h)),λh=>UT (Int.sub_pos_of_lt h)⟩
theorem r7(i:U):∀j,(unit i).ev a j=a (j+i):=by induction i with|V1=>intro j;show(0:Zw)+(1*a j+0)=a j;rw[Int.one_mul,Oj,Sk]|VF i b=>intro j;have:=b (j+1);rw[show j+(i+1)=j+1+i from by ac_rfl,<-this];show(0:Zw)+(0*a j+sj a (unit i).c (j+1))=0+sj a (unit i).c (j+1);rw[m3,Sk]
theorem EY(l:dQ)(i:U):ij a i=hd l*a i+(tl l).ev a (i+1):=by
 obtain⟨k,c⟩:=l;cases c with|Yk=>show k+0=0*a i+(k+0);rw[m3,Sk]|Zp b s=>show k+(b*a i+sj a s (i+1))=b*a i+(k+sj a s (i+1));ac_rfl
theorem fm(f:0<c)(hb:b<0)(h1:0<=c*r+x)(h2:0<=b*r+d):0<=-b*x+c*d:=by
 have e1:=Int.mul_nonneg (Int.le_of_lt (Int.neg_pos_of_neg hb)) h1;have e2:=Int.mul_nonneg (Int.le_of_lt f) h2;rw[g_]at e1;rw[show-b*(c*r)=-(c*(b*r))from by rw[Int.neg_mul,Int.mul_left_comm]]at e1;have e:=Int.add_nonneg e1 e2;rw[g_]at e;rwa[show-(c*(b*r))+-b*x+(c*(b*r)+c*d)=-b*x+c*d from by rw[Int.add_comm (-(c*(b*r))),Int.add_assoc,Int.neg_add_cancel_left]]at e
theorem Eb(h:∀l∈cs,0<=ij a i):∀l∈elim cs,0<=ij a (i+1):=λl hl=>by
  rcases ZM hl with hl|hl;.obtain⟨q,hq,rfl⟩:=Zl hl;obtain⟨h1,h2⟩:=SQ hq;have:=h q h1;rw[EY,eq_of_beq h2,m3,Sk]at this;exact this
  .obtain⟨p,hp,hl⟩:=WM hl;obtain⟨q,hq,rfl⟩:=Zl hl;obtain⟨h1,h2⟩:=SQ hp;obtain⟨g,b⟩:=SQ hq;have a1:=h p h1;have a2:=h q g;rw[EY]at a1 a2;rw[rE,oD,oD];exact fm (by rwa[ih]at h2) (by rwa[ih]at b) a1 a2
theorem Gz(n:U):∀(cs:J dQ)(i:U),ref n cs=true->¬∀l∈cs,0<=ij a i:=by induction n with
 |V1=>
  intro cs i h k;obtain⟨l,hl,e⟩:=qs h;rw[YK,ih,List.isEmpty_iff]at e;have:=k l hl;unfold dQ.ev at this;rw[e.2]at this;exact Zc e.1 (Int.not_lt.mpr (by rwa[show sj a [] i=0 from rfl,Oj]at this))|VF n b=>exactλcs i h k=>b _ (i+1) h (Eb k)
abbrev Sat(a:U->Zw)(cs:J dQ):Prop:=∀l∈cs,0<=ij a 0
inductive Ok{α:Type}(a:U->Zw)(Q:α->Prop)(b:J (J dQ×α)):Prop where|mk(c:J dQ)(x:α)(m:(c,x)∈b)(s:Sat a c)(q:Q x)
theorem Ok.hd{Q:α->Prop}{b:J (J dQ×α)}{x:α}(s:Sat a c)(q:Q x):Ok a Q ((c,x)::b):=⟨c,x,.head _,s,q⟩
theorem Ok.tl{Q:α->Prop}{d:J (J dQ×α)}{c:J dQ×α}(h:Ok a Q d):Ok a Q (c::d):=by obtain⟨e,b,m,s,q⟩:=h;exact⟨e,b,.tail _ m,s,q⟩
variable{PA:AL}
theorem Ok.comb{B:AL}{Q:α->Prop}{f:dQ->dQ->J (J dQ×α)}(d:Ok a (λl=>ij a 0=u) PA)(hb:Ok a (λl=>ij a 0=i) B)(h:∀x y:dQ,o3 a 0=u->y.ev a 0=i->Ok a Q (f x y)):Ok a Q (comb PA B f):=by obtain⟨p,x,m,s,q⟩:=d;exact by obtain⟨b,y,e,g,j⟩:=hb;exact by obtain⟨c,z,k,n,o⟩:=h x y q j;exact⟨_,z,Xf ⟨_,m,Xf ⟨_,e,Yu ⟨_,k,rfl⟩⟩⟩,λl hl=>(ZM hl).elim (s l) λhl=>(ZM hl).elim (g l) (n l),o⟩
variable{Py:dQ->dQ}
theorem Ok.map(b:Ok a (λl=>ij a 0=u) PA)(h:∀x:dQ,o3 a 0=u->(Py x).ev a 0=c):Ok a (λl=>ij a 0=c) (PA.map λr=>(r.1,Py r.2)):=by obtain⟨d,x,m,s,q⟩:=b;exact⟨d,Py x,Yu ⟨_,m,rfl⟩,s,h x q⟩
theorem Ok.two(c:Ok a (λl=>ij a 0=u) PA)(h1:0<=u->u=b)(h2:u<=0->∀x:dQ,o3 a 0=u->(Py x).ev a 0=b):Ok a (λl=>ij a 0=b) (PA.flatMap λr=>[(r.2::r.1,r.2),(r.2.sc (-1)::r.1,Py r.2)]):=by
 obtain⟨d,x,m,s,q⟩:=c;rcases Int.le_total 0 u with h|h;.exact⟨x::d,x,Xf ⟨_,m,.head _⟩,S9 ⟨q▸h,s⟩,q.trans (h1 h)⟩
 .exact⟨_,Py x,Xf ⟨_,m,.tail _ (.head _)⟩,S9 ⟨by rw[oD,q,u'];exact Int.neg_nonneg_of_nonpos h,s⟩,h2 h x q⟩
theorem pf:Sat a []:=λO h=>nomatch h
theorem oU(h:0<=ij a 0):Sat a [l]:=S9 ⟨h,pf⟩
end
def kz(d:J U)(q:J Zw)(i:U):Zw:=U3 (i%2==0) (tf (i/2) 0) (q.getD (i/2) 0)
variable{Nr:J U}{NG:J Zw}
theorem E2(i:U):kz Nr NG (2*i)=Nr.getD i 0:=by unfold kz;rw[Nat.mul_mod_right,Nat.mul_div_cancel_left i Z'];rfl
theorem Hi(i:U):kz Nr NG (2*i+1)=NG.getD i 0:=by unfold kz;rw[Nat.mul_add_mod,show(2*i+1)/2=i from(Nat.mul_add_div Z' i 1).trans rfl];rfl
abbrev V(d:J U)(q:J Zw)(t:T)(s:Y0):Zw:=U3 s (t.ev d q).2 (t.ev d q).1
abbrev MU(d:J U)(q:J Zw)(t:T)(s:Y0):Prop:=Ok (kz d q) (λl=>ij (kz d q) 0=V d q t s) (t.CT s)
theorem jj:Ok Zau (λl=>ij Zau 0=0) Yk:=.hd pf rfl
theorem mm{u:dQ}{s:Y0}{x:dQ}(e:u.ev Zau 0=a)(b:c.ev Zau 0=q)(h1:a<=q->o3 Zau 0=d)(h2:q<=a->f.ev Zau 0=d):Ok Zau (λl=>ij Zau 0=d) [([c.sub u],x),([df c],f)]:=by
 rcases Int.le_total a q with h|h;.exact .hd (oU (by rw[g9,e,b];exact UT h)) (h1 h)
 .exact .tl (.hd (oU (by rw[g9,e,b];exact UT h)) (h2 h))
abbrev W(s:Y0)(p:U×Zw):Zw:=U3 s p.2 p.1
theorem MY:∀{s},W s a<=W s q->W s a=W s (min a.1 q.1,min a.2 q.2)|true,h=>(Int.min_eq_left h).symm|false,h=>Zq rv (OE (SW h)).symm
theorem MQ:∀{s},W s q<=W s a->W s q=W s (min a.1 q.1,min a.2 q.2)|true,h=>(Int.min_eq_right h).symm|false,h=>Zq rv (RO (SW h)).symm
theorem Na:∀{s},W s a<=W s q->W s q=W s (max a.1 q.1,max a.2 q.2)|true,h=>(Int.max_eq_right h).symm|false,h=>Zq rv (Nat.max_eq_right (SW h)).symm
theorem MW:∀{s},W s q<=W s a->W s a=W s (max a.1 q.1,max a.2 q.2)|true,h=>(Int.max_eq_left h).symm|false,h=>Zq rv (Nat.max_eq_left (SW h)).symm
theorem BC(o:T):∀d,MU Nr NG o d:=by induction o with
 |n i=>exactλ|true=>jj|false=>.hd (oU (by rw[r7,Wi,E2];exact SP _)) (by rw[r7,Wi,E2];rfl)
 |z i=>exactλ|true=>.hd pf (by rw[r7,Wi,Hi];rfl)|false=>jj
 |k p=>exactλ|true=>.hd pf (Oj _)|false=>.hd pf (Oj _)
 |a x y hx hy=>exactλd=>(hx d).comb (hy d) λu j e f=>.hd pf (by rw[rE,e,f];cases d<;>rfl)|s x y hx hy=>exactλ
  |true=>(hx true).comb (hy true) λu j e f=>.hd pf (by rw[g9,e,f];rfl)|false=>(hx false).comb (hy false) λu j e f=>mm (s:=false) f e (λh=>by rw[g9,e,f];exact(Int.ofNat_sub (SW h)).symm) (λh=>by show(0:Zw)=((o3 Nr NG).1-(y.ev Nr NG).1:U);rw[Nat.sub_eq_zero_of_le (SW h)];rfl)
 |m p y hy=>exactλd=>(hy d).map λq e=>by rw[oD,e];cases d<;>rfl|c x hx=>exactλ|true=>hx false|false=>jj
 |t x hx=>exactλ|true=>jj|false=>(hx true).two (Py:=λO=>⟨0,[]⟩) (λh=>(Int.toNat_of_nonneg h).symm) λh O O=>Zq rv (Int.toNat_of_nonpos h).symm
 |b x hx=>exactλ|true=>jj|false=>(hx true).two (λh=>(Int.natAbs_of_nonneg h).symm) λh O e=>by rw[oD,e,u'];exact(Int.ofNat_natAbs_of_nonpos h).symm
 |l x y hx hy=>exactλd=>(hx d).comb (hy d) λu j e f=>mm (s:=d) e f (λh=>ru (MY h)) (λh=>f.trans (MQ h))|h x y hx hy=>exactλd=>(hx d).comb (hy d) λu j e f=>mm (s:=d) e f (λh=>f.trans (Na h)) (λh=>ru (MW h))|g x hx=>exactλ|true=>(hx true).map λq e=>by rw[oD,e,u'];rfl|false=>jj
theorem kY(h:∀u a:dQ,u.ev Zau 0=V Nr NG x s->a.ev Zau 0=V Nr NG b s->∃c∈f u a,Zbi):∃c∈rel s x b f,Zbi:=let⟨c,_,m,s,_⟩:=(BC x s).comb (Q:=λ(_:Unit)=>m2) (BC b s) λu a e d=>SA (h u a e d) λc Yw=>Ug Yw λm k=>⟨c,(),Yu ⟨c,m,rfl⟩,k,trivial⟩
 ⟨c,Yu ⟨_,m,rfl⟩,s⟩
theorem qV(d:∃c∈f,Zbi)(hb:∃c∈i,Zbi):∃c∈prod f i,Zbi:=SA d λa Yw=>Ug Yw λm s=>let⟨b,e,g⟩:=hb;⟨a++b,Xf ⟨a,m,Yu ⟨b,e,rfl⟩⟩,λl hl=>(ZM hl).elim (s l) (g l)⟩
variable{PK:J (J dQ)}
theorem Bp(b:∃c∈PK,Zbi):∃c∈PK++d,Zbi:=SA b λa Yw=>Ug Yw λm s=>⟨a,Y3 _ m,s⟩
theorem B8(b:∃c∈d,Zbi):∃c∈PK++d,Zbi:=SA b λa Yw=>Ug Yw λm s=>⟨a,Y2 _ m,s⟩
abbrev Rd(s:Y0)(x y:T)(o:Zw->Zw->Prop)(a:U->U->Prop):Prop:=U3 s (o (o3 Nr NG).2 (y.ev Nr NG).2) (a (o3 Nr NG).1 (y.ev Nr NG).1)
theorem one(h:Zbi):∃c∈c::a,Zbi:=⟨c,.head _,h⟩
theorem IE:(F.le s x a).den Nr NG↔V Nr NG x s<=V Nr NG a s:=by cases s;exact Int.ofNat_le.symm;exact Iff.rfl
theorem v_lt:(F.lt s x a).den Nr NG↔V Nr NG x s<V Nr NG a s:=by cases s;exact Int.ofNat_lt.symm;exact Iff.rfl
theorem v_eq:(F.eq s x a).den Nr NG↔V Nr NG x s=V Nr NG a s:=by cases s;exact Int.ofNat_inj.symm;exact Iff.rfl
theorem FN(b:F):(b.den Nr NG->∃c∈b.LA true,Zbi)/\(¬b.den Nr NG->∃c∈b.LA false,Zbi):=by induction b with
 |le s x y=>exact⟨λh=>kY λu j e a=>⟨_,.head _,oU (by rw[g9,e,a];exact UT (IE.mp h))⟩,λh=>kY λu j e a=>⟨_,.head _,oU (by rw[xd,e,a];exact Int.not_le.mp λk=>h (IE.mpr k))⟩⟩|lt s x y=>exact⟨λh=>kY λu j e a=>⟨_,.head _,oU (by rw[xd,e,a];exact v_lt.mp h)⟩,λh=>kY λu j e a=>⟨_,.head _,oU (by rw[g9,e,a];exact UT (Int.not_lt.mp λk=>h (v_lt.mpr k)))⟩⟩|eq s x y=>exact⟨λh=>kY λu j e a=>⟨_,.head _,S9 ⟨by rw[g9,e,a,v_eq.mp h,Int.sub_self];exact OU 0,oU (by rw[g9,e,a,v_eq.mp h,Int.sub_self];exact OU 0)⟩⟩,λh=>kY λu j e a=>by
  rcases Int.lt_or_gt_of_ne λk=>h (v_eq.mpr k)with k|k;.exact⟨_,.tail _ (.head _),oU (by rw[xd,e,a];exact k)⟩
  .exact⟨_,.head _,oU (by rw[xd,e,a];exact k)⟩⟩|no b d=>exact⟨d.2,λh=>d.1 (Classical.not_not.mp h)⟩|an b g d hg=>exact⟨λh=>qV (d.1 h.1) (hg.1 h.2),λh=>(Wh (b.den Nr NG)).elim (λk=>B8 (hg.2 λl=>h ⟨k,l⟩)) λk=>Bp (d.2 k)⟩|o b g d hg=>exact⟨λh=>Xp (λk=>Bp (d.1 k)) λk=>B8 (hg.1 k),λh=>qV (d.2 λk=>h (.inl k)) (hg.2 λk=>h (.inr k))⟩|i b g d hg=>exact⟨λh=>(Wh (b.den Nr NG)).elim (λk=>B8 (hg.1 (h k))) λk=>Bp (d.2 k),λh=>qV (d.1 (H3 λk=>h λl=>(k l).elim)) (hg.2 λk=>h λO=>k)⟩|f=>exact⟨False.elim,λO=>⟨_,.head _,pf⟩⟩
end Om
theorem CT(f:Om.F)(n:U)(h:Om.ok n f=true)(d:J U)(q:J Zw):f.den d q:=H3 λk=>SA ((Om.FN f).2 k) λc Yw=>Ug Yw λm s=>Om.Gz n c 0 (Ox h c m) s
namespace Om
def T.Mb(d:T):Y0:=T.rec (motive:=λO=>Y0) (λO=>false) (λO=>true) (λO=>false) (λO O x y=>x||y) (λO O x y=>x||y) (λO O y=>y) (λO O=>true) (λO O=>false) (λO O=>false) (λO O x y=>x||y) (λO O x y=>x||y) (λO O=>true) d
abbrev St:=J U×J T×J F
def p2(f:T->T->T)(s:St):St:=(s.1,f (s.2.1.tail.headD (.k 0)) (s.2.1.headD (.k 0))::s.2.1.tail.tail,s.2.2)
def p1(f:T->T)(s:St):St:=(s.1,f (s.2.1.headD (.k 0))::s.2.1.tail,s.2.2)
def p0(t:T)(s:St):St:=(s.1,t::s.2.1,s.2.2)
def q2(f:Y0->T->T->F)(s:St):St:=(s.1,s.2.1.tail.tail,f ((s.2.1.tail.headD (.k 0)).Mb||(s.2.1.headD (.k 0)).Mb) (s.2.1.tail.headD (.k 0)) (s.2.1.headD (.k 0))::s.2.2)
def r2(a:F->F->F)(s:St):St:=(s.1,s.2.1,a (s.2.2.tail.headD .f) (s.2.2.headD .f)::s.2.2.tail.tail)
def tab:J (St->St):=[id,p0 (.n 0),p0 (.n 1),p0 (.n 2),p0 (.n 3),p0 (.n 4),p0 (.n 5),p0 (.n 6),p0 (.n 7),λd=>(d.1,d.2.1,.f::d.2.2),p0 (.z 0),p0 (.z 1),p0 (.z 2),p0 (.k 0),p0 (.k 1),λd=>(d.1.tail,.k (d.1.headD 0)::d.2.1,d.2.2),p2 .a,p2 .s,λd=>(d.1.tail,p1 (.m (d.1.headD 0)) d|>.2),p1 .c,p1 .t,p1 .b,p2 .l,p2 .h,p1 .g,q2 .le,q2 .lt,q2 .eq,λd=>(d.1,d.2.1,.no (d.2.2.headD .f)::d.2.2.tail),r2 .an,r2 .o,r2 .i]
def dec(n:U):U->St->F:=Ol (motive:=λO=>U->St->F) (λO s=>s.2.2.headD .f) (λO r c s=>U3 (m1 c 0) (s.2.2.headD .f) (r (c/32) ((tab.getD (c%32) id) s))) n
def Nu(c:U)(i d:J U)(q:J Zw):Prop:=U3 (ok (2*YG+2*q.length) (dec 64 c (i,[],[]))) ((dec 64 c (i,[],[])).den d q) m2
end Om
theorem Hj(c:U)(i d:J U)(q:J Zw):Om.Nu c i d q:=by
 unfold Om.Nu;generalize h:Om.ok _ _=b;exact b.casesOn (motive:=λb=>_=b->U3 b _ m2) (λO=>trivial) (λh=>CT _ _ h d q) h
theorem nu(c:U)(i d:J U)(q:J Zw)(e:Z3 (Om.Nu c i d q=a) aK):a:=e▸Hj c i d q
theorem O0:0<=a:=nu 0x642d [] [a] []
variable{j:U}
theorem O1:j<=j+b:=nu 0x1980821 [] [j,b] []
theorem O2:j<b->¬(j=b):=nu 0xff3620e841 [] [j,b] []
theorem O3:a<=10000->a<=16777216:=nu 0x7f2f0e5e1 [10000,16777216] [a] []
theorem O4:0+a=a:=nu 0x1b0c02d [] [a] []
theorem O5:j<b->b=c->j<c:=nu 0x7ffa1876316841 [] [j,b,c] []
theorem O6:j<b->c=b->j<c:=nu 0x7ffa187621e841 [] [j,b,c] []
theorem O7:a+1<=b->a<=b:=nu 0x1fc8839141c1 [] [a,b] []
theorem O8:a<=100000->a<=16777216:=nu 0x7f2f0e5e1 [100000,16777216] [a] []
theorem O9:j<=b->j<=b:=nu 0x7f220e441 [] [j,b] []
theorem D1:j<=b->b<=c->j<=c:=nu 0x7ff91872316441 [] [j,b,c] []
theorem E3:a+(b+1)=a+1+b:=nu 0x6e028383083841 [] [a,b] []
theorem JH:j<b->b<=c->j<c:=nu 0x7ffa1872316841 [] [j,b,c] []
theorem E0:j<b->c<=j->c<b:=nu 0x7ffa10f211e841 [] [j,b,c] []
variable{p:U}
theorem Ec:(j:Zw)+(p:Zw)=((j+p:U):Zw):=nu 0x3738083098a61 [] [j,p] []
theorem Fy:a<=a+1:=nu 0x1983821 [] [a] []
theorem LS:a+b=c->a<c->b-1<b:=nu 0x7ffa145c2d0c3b1c041 [] [a,b,c] []
theorem LJ:a+b=c->a<c->a+1+(b-1)=c:=nu 0x7ffb1c22e141c1d0c3b1c041 [] [a,b,c] []
theorem J0:j+b=c->¬(j<c)->j=c:=nu 0x3ffd8c3cd0c3b1c041 [] [j,b,c] []
theorem Gn:a<=1000->a<=16777216:=nu 0x7f2f0e5e1 [1000,16777216] [a] []
theorem GK:a+(b+1)<=c->a<c:=nu 0x7f430e47083841 [] [a,b,c] []
theorem GS:a+(b+1)<=c->a+1+b<=c:=nu 0x7f2380a0e0e47083841 [] [a,b,c] []
theorem GV:a<b->a+1<=b:=nu 0x1fc8a0e0e841 [] [a,b] []
theorem GG:a+1-(b+1)=a-b:=nu 0x6e220c60e141c1 [] [a,b] []
theorem GP:¬(a=0)->0<a:=nu 0xfe82de6da1 [] [a] []
theorem GI:a<b->0<b-a:=nu 0x1fd44226e841 [] [a,b] []
theorem GJ:a+(b+1)=c->a<c:=nu 0x7f430ec7083841 [] [a,b,c] []
theorem GX:j=b->j<=b:=nu 0x7f220ec41 [] [j,b] []
theorem JD:a+1<=b->a<b:=nu 0x1fd0839141c1 [] [a,b] []
theorem H9:a<=b->a+1<=b+1:=nu 0x7f3070a0e0e441 [] [a,b] []
theorem G8:j<b->j=b->L_:=nu 0x1ffa7620e841 [] [j,b] []
theorem Ip:a<b+1->¬(a=b)->a<b:=nu 0x3ffd083cd883a83841 [] [a,b] []
theorem HF:j<=b->j+(b-j)=b:=nu 0x7f62844220e441 [] [j,b] []
theorem Jm:0<a->a-1<a:=nu 0x1fd062e0e82d [] [a] []
theorem He:j<b->j<b+c:=nu 0x1fd40620e841 [] [j,b,c] []
theorem Hr:a<=4->a<=1000:=nu 0x7f2f0e5e1 [4,1000] [a] []
theorem HY:(j:Zw)<(p:Zw)->j<p:=nu 0x1fd083a98a61 [] [j,p] []
theorem Im:a+(b+1)<=c->a-1<c:=nu 0x1fd0e2e0e47083841 [] [a,b,c] []
theorem HU:¬(j=b)->¬(b=j):=nu 0x1fe6c22e6c41 [] [j,b] []
theorem Jy:a<0->L_:=nu 0x1f4e9a1 [] [a] []
theorem Jw:a<b->a<b+1:=nu 0x1fd41c20e841 [] [a,b] []
theorem J9:a<a+1:=nu 0x1a83821 [] [a] []
theorem JI:j<b->(j:Zw)<(b:Zw):=nu 0x1fd4c530e841 [] [j,b] []
theorem Jt:j<b->b<=j->L_:=nu 0x1ffa72116841 [] [j,b] []
theorem JG:a<b->b-1-a<b:=nu 0x7f428862e16841 [] [a,b] []
theorem JR:a<=1000->a<=10000:=nu 0x7f2f0e5e1 [1000,10000] [a] []
theorem JK:48<=10/\10<=a->L_:=nu 0x1f4f7217e5ef [48,10,10] [a] []
theorem Kz:¬(0<0):=nu 0xe69ad [] [] []
theorem JM:a<=10000->a<=100000:=nu 0x7f2f0e5e1 [10000,100000] [a] []
theorem Jv:a<b->b<=c+1->a<=c:=nu 0x1ffe461cc1c316841 [] [a,b,c] []
theorem Ju:a+(b+1)=c->a+1+b=c:=nu 0x7f6380a0e0ec7083841 [] [a,b,c] []
theorem JQ:j<=b->min c j<=b:=nu 0x1fc8ac11e441 [] [j,b,c] []
theorem JP:1<=a->¬(a=a-1):=nu 0x3fcdc5c10e42e [] [a] []
theorem KL:a%2<=1:=Nat.le_of_lt_succ (Nat.mod_lt a Z')
theorem Kl:a<=700->a<=1000:=nu 0x7f2f0e5e1 [700,1000] [a] []
theorem KA:a+1<b+1->a<b:=nu 0x7f420ea0e141c1 [] [a,b] []
theorem Kg:a<b->c=d+b->c-1-(b-1-a)=d+a:=nu 0x7ffb804918862e145c3dc0441e841 [] [a,b,c,d] []
theorem Kn:j<=b+c+(j-b-c):=nu 0x66111c44180c41 [] [j,b,c] []
theorem K7:a<=100->a<=16777216:=nu 0x7f2f0e5e1 [100,16777216] [a] []
theorem Lv:a+b<=100000->b<=16777216:=nu 0x1fcbc597c041 [100000,16777216] [a,b] []
theorem Kj:a+b<=100000->a<=16777216:=nu 0x1fcbc397c041 [100000,16777216] [a,b] []
theorem LW:j+(b+c+d)<=a->j+b+c+d<=a:=nu 0x7f2581203808392c20480c41 [] [j,b,c,d,a] []
theorem KD:j<min b c->j<b:=nu 0x1fd083ab0c41 [] [j,b,c] []
theorem KG:min j (b-c)<=b:=nu 0x645688c41 [] [j,b,c] []
theorem KS:a+0=b->c=b->c<=a:=nu 0x1ffe423d887b141a1 [] [a,b,c] []
theorem J5:j<b->b<=c->j<=c:=nu 0x7ff91872316841 [] [j,b,c] []
theorem Ks:j+b<=c->d<=j->d<=c:=nu 0x1ffe464c84991c041 [] [j,b,c,d] []
variable{Pf:Zw}
theorem Lm:¬(Pf<b)->¬(Pf=b)->b<Pf:=nu 0x1ffe94be6d6ae696a [] [] [Pf,b]
theorem LK:a<b+1->c<a->a-1<b:=nu 0x7ffa145c1d047a83841 [] [a,b,c] []
theorem Lq:j<b->b<c->¬(j=c):=nu 0xfff9b1874316841 [] [j,b,c] []
variable{Q:U}
theorem Ka:(j:Zw)+(p:Zw)<(Q:Zw)->j+p<Q:=nu 0x3fa1c041d4c7098a61 [] [j,p,Q] []
theorem KN:a+b<=c->c<=d->f<a->a-1<d:=nu 0x7fffd122e0e825c90791c041 [] [a,b,c,d,f] []
theorem Ke:j<b->(b:Zw)-1=((b-1:U):Zw):=nu 0x1fdce2e145d316841 [] [j,b] []
theorem M1:¬(0<=Pf)->Pf<0:=nu 0xfe9aae654d [] [] [Pf]
theorem KU:j<=16777216->¬(2^63<=(j:Zw)):=nu 0x1fe66617e5e1 [16777216,9223372036854775808] [j] []
theorem HN:a=b-c->(c<b↔0<a):=λh=>h▸Nat.sub_pos_iff_lt.symm
theorem Kf:j+b<=c->j<=c:=nu 0x1fc8c391c041 [] [j,b,c] []
theorem Iy:a+b<c->a+(b+1)<=c:=nu 0x1fc8e107083a1c041 [] [a,b,c] []
theorem HV:(j:Zw)-1=(p:Zw)->p+(c+1)=j+c:=nu 0x1fdc061841c316e628ba61 [] [j,p,c] []
theorem LH:Pf<=b/\b<2^62->b<2^63:=nu 0x7f4f5f74f5e56a [4611686018427387904,9223372036854775808] [] [Pf,b]
theorem Ll:(-(2^62))<=a/\a<2^62->(-(2^63))<=a:=nu 0x1fcab0fee9eacab0f [4611686018427387904,4611686018427387904,9223372036854775808] [] [a]
theorem J':j+b+c+d<=l->f+r+q=f+c->k=b->j+k+q<=l:=CT (.i (.le false (.a (.a (.a (.n 0) (.n 1)) (.n 2)) (.n 3)) (.n 4)) (.i (.eq false (.a (.a (.n 5) (.n 6)) (.n 7)) (.a (.n 5) (.n 2))) (.i (.eq false (.n 8) (.n 1)) (.le false (.a (.a (.n 0) (.n 8)) (.n 7)) (.n 4))))) 17 Z_ [j,b,c,d,l,f,r,q,k] []
theorem Lh:a<=6002->a*1001<=6008002:=λh=>Nat.mul_le_mul_right 1001 h
theorem KW:200<=j/\j/100+1<b->200<=(j:Zw)/\(j:Zw)<100*((b:Zw)-1):=λh=>⟨Int.ofNat_le.mpr h.1,Int.mul_sub 100 (b:Zw) 1▸da (Vf (Xr (Nat.add_lt_add_right (Nat.lt_mul_div_succ j Z') (100*1)) (Nat.mul_add 100 _ 1▸Nat.mul_le_mul_left 100 h.2)))⟩
theorem KY:0<Pf->(Pf-1)/1112063<Pf:=λh=>o2 (Int.ediv_le_self _ (UT h)) (Int.sub_lt_self Pf Z')
theorem Kw:j+b<=c->d=j->d<=c:=nu 0x1ffe464d84991c041 [] [j,b,c,d] []
theorem J7:a+b<=c->d=a->f=b->d+f<=c+1:=nu 0x1ffff3070e0526c45d84991c041 [] [a,b,c,d,f] []
theorem KZ:j+b<=c->c<d+a->d=j->a=b->L_:=nu 0x1ffffe9d88bb09350290791c041 [] [j,b,c,d,a] []
theorem Li:a<=1000000->¬((2^63-1)/8<a):=λh=>Wg (YW h Z')
theorem Ly:a+(b+1)=c->d=c->a<d:=nu 0x7ffa2076326c7083841 [] [a,b,c,d] []
theorem La:j+b=c->c<=d->min j a<=d:=nu 0x7ff9258a1c907b1c041 [] [j,b,c,d,a] []
theorem LB:a+b=c->c<=d->min a f+1<=d+1:=nu 0x7ff983890758a1c907b1c041 [] [a,b,c,d,f] []
theorem Kd:a+b<=c->a+1<=c+1:=nu 0x1fcc1c3838391c041 [] [a,b,c] []
theorem Ln:a+2<=a+3:=nu 0x660f0c1e1 [2,3] [a] []
theorem Kq:¬(a<=b)->(b+a)/2<a:=λh=>Nat.div_lt_of_lt_mul (Nat.two_mul a▸Nat.add_lt_add_right (Nat.lt_of_not_le h) a)
theorem Lz:¬(a<=b)->b<=(b+a)/2:=λh=>(Nat.le_div_iff_mul_le Z').mpr (Nat.mul_two b▸Nat.add_le_add_left (Nat.le_of_not_le h) b)
theorem Ki:(j:Zw)/2=((j/2:U):Zw):=rfl
theorem JZ:(j:Zw)%2=((j%2:U):Zw):=rfl
theorem KV:l<=1000->b<=1000->c+d<=l->u+f<=b->q<=2*r->r<=d+f->s<=1->s+q<=100000:=CT (.i (.le false (.n 0) (.k 1000)) (.i (.le false (.n 1) (.k 1000)) (.i (.le false (.a (.n 2) (.n 3)) (.n 0)) (.i (.le false (.a (.n 4) (.n 5)) (.n 1)) (.i (.le false (.n 6) (.m 2 (.n 7))) (.i (.le false (.n 7) (.a (.n 3) (.n 5))) (.i (.le false (.n 8) (.k 1)) (.le false (.a (.n 8) (.n 6)) (.k 100000))))))))) 17 Z_ [l,b,c,d,u,f,q,r,s] []
theorem LL:j=b->b<=c->j<=c:=nu 0x7ff91872316c41 [] [j,b,c] []
theorem Km:j<b-c->j+c<b:=nu 0x7f4280c3a88c41 [] [j,b,c] []
theorem Kp:j+b<c->j<=c:=nu 0x1fc8c3a1c041 [] [j,b,c] []
theorem JW:a+2<b->c<=a+1->c+1<=b:=nu 0x1ffe45070f307047a141e1 [2] [a,b,c] []
theorem LF:j+b<=c/\p<=d->c<=f/\d<=q->l<b->j+l<f+k:=CT (.i (.an (.le false (.a (.n 0) (.n 1)) (.n 2)) (.le false (.n 3) (.n 4))) (.i (.an (.le false (.n 2) (.n 5)) (.le false (.n 4) (.n 6))) (.i (.lt false (.n 7) (.n 1)) (.lt false (.a (.n 0) (.n 7)) (.a (.n 5) (.n 8)))))) 17 Z_ [j,b,c,p,d,f,q,l,k] []
theorem K9:j<b->p<=d/\c+b<=f->d<=q/\f<=l->c+j<l+k:=CT (.i (.lt false (.n 0) (.n 1)) (.i (.an (.le false (.n 2) (.n 3)) (.le false (.a (.n 4) (.n 1)) (.n 5))) (.i (.an (.le false (.n 3) (.n 6)) (.le false (.n 5) (.n 7))) (.lt false (.a (.n 4) (.n 0)) (.a (.n 7) (.n 8)))))) 17 Z_ [j,b,p,d,c,f,q,l,k] []
theorem KO:a=b+(200*c-b)->c<=1->¬(200*c<=b)->a=200:=λd h1 h2=>by
 have e:c=1:=fx h1 (oL λe=>h2 (e▸Zg b));subst e;exact d.trans (Ow (Nat.le_of_not_le h2))
theorem J6:¬(200<=200/\200/100+1<a)->a<=3:=λh=>E_ λk=>h ⟨ZV _,k⟩
theorem LN:a+1=b-c->a=b-(c+1):=nu 0x7f71838620ee23141c1 [] [a,b,c] []
theorem Lf:0<=a+b/\a+b<b->(-b)<=a:=nu 0xfe5585f74b82d5982d4d [] [] [a,b]
theorem Lw:j=16777216->b<=j->¬(2^63<=(b:Zw)):=nu 0x1fff33313f2116de1 [16777216,9223372036854775808] [j,b] []
theorem IM:a<i+1->a<=i:=nu 0x1fc883a83841 [] [a,i] []
theorem Eu:j<=b->b+s<=a->j+(b-j)<=a:=nu 0x1ffe49088441c920316441 [] [j,b,s,a] []
namespace Om
abbrev dc(c:U)(i:J U):F:=dec 64 c (i,[],[])
def F.h(a:F):F:=F.rec (motive:=λO=>F) (λO O O=>.f) (λO O O=>.f) (λO O O=>.f) (λO O=>.f) (λO O O O=>.f) (λO O O O=>.f) (λa O O O=>a) .f a
def F.r(a:F):F:=F.rec (motive:=λO=>F) (λO O O=>.f) (λO O O=>.f) (λO O O=>.f) (λO O=>.f) (λO O O O=>.f) (λO O O O=>.f) (λO g O O=>g) .f a
def z5(i:J U)(c:U):Y0:=ok 40 (dec 64 c (i,[],[]))
theorem F.mp(a:F):a.den d q->a.h.den d q->a.r.den d q:=F.rec (motive:=λa=>a.den d q->a.h.den d q->a.r.den d q) (λO O O O x=>VE) (λO O O O x=>VE) (λO O O O x=>VE) (λO O O x=>VE) (λO O O O O x=>VE) (λO O O O O x=>VE) (λO O O O h x=>h x) (λO x=>VE) a
end Om
section
open Om
variable(c:U)(i d:J U)(q:J Zw)
theorem fF(k:Z3 (let b:=z5 i c;b=true) aY):(dc c i).den d q:=CT _ _ k d q
theorem a9(a:(dc c i).h.den d q)(k:Z3 (let b:=z5 i c;b=true) aY):(dc c i).r.den d q:=F.mp _ (fF c i d q k) a
theorem cF(a:(dc c i).h.den d q)(h1:(dc c i).r.h.den d q)(k:Z3 (let b:=z5 i c;b=true) aY):(dc c i).r.r.den d q:=F.mp _ (a9 c i d q a k) h1
theorem rf(a:(dc c i).h.den d q)(h1:(dc c i).r.h.den d q)(h2:(dc c i).r.r.h.den d q)(k:Z3 (let b:=z5 i c;b=true) aY):(dc c i).r.r.r.den d q:=F.mp _ (cF c i d q a h1 k) h2
theorem oP(a:(dc c i).h.den d q)(h1:(dc c i).r.h.den d q)(h2:(dc c i).r.r.h.den d q)(e:(dc c i).r.r.r.h.den d q)(k:Z3 (let b:=z5 i c;b=true) aY):(dc c i).r.r.r.r.den d q:=F.mp _ (rf c i d q a h1 h2 k) e
theorem EO(a:(dc c i).h.den d q)(h1:(dc c i).r.h.den d q)(h2:(dc c i).r.r.h.den d q)(e:(dc c i).r.r.r.h.den d q)(f:(dc c i).r.r.r.r.h.den d q)(k:Z3 (let b:=z5 i c;b=true) aY):(dc c i).r.r.r.r.r.den d q:=F.mp _ (oP c i d q a h1 h2 e k) f
end
theorem cY(c:U)(d:J U)(k:Z3 (let b:=Om.z5 [] c;b=true) aY):(Sj c []).den d []:=fF c [] d [] k
theorem aV(c:U)(d:J U)(a:(Sj c []).h.den d [])(k:Z3 (let b:=Om.z5 [] c;b=true) aY):(Sj c []).r.den d []:=a9 c [] d [] a k
theorem bw(c:U)(d:J U)(a:(Sj c []).h.den d [])(h1:(Sj c []).r.h.den d [])(k:Z3 (let b:=Om.z5 [] c;b=true) aY):(Sj c []).r.r.den d []:=cF c [] d [] a h1 k
theorem fX(c:U)(d:J U)(a:(Sj c []).h.den d [])(h1:(Sj c []).r.h.den d [])(h2:(Sj c []).r.r.h.den d [])(k:Z3 (let b:=Om.z5 [] c;b=true) aY):(Sj c []).r.r.r.den d []:=rf c [] d [] a h1 h2 k
theorem F3(c:U)(d:J U)(a:(Sj c []).h.den d [])(h1:(Sj c []).r.h.den d [])(h2:(Sj c []).r.r.h.den d [])(e:(Sj c []).r.r.r.h.den d [])(k:Z3 (let b:=Om.z5 [] c;b=true) aY):(Sj c []).r.r.r.r.den d []:=oP c [] d [] a h1 h2 e k
theorem L7(c:U)(d:J U)(a:(Sj c []).h.den d [])(h1:(Sj c []).r.h.den d [])(h2:(Sj c []).r.r.h.den d [])(e:(Sj c []).r.r.r.h.den d [])(f:(Sj c []).r.r.r.r.h.den d [])(k:Z3 (let b:=Om.z5 [] c;b=true) aY):(Sj c []).r.r.r.r.r.den d []:=EO c [] d [] a h1 h2 e f k
local macro_rules (kind:=Lean.Parser.Tactic.rwSeq)|s=>Mc.sOut (Mc.rwF s)
local macro_rules (kind:=Lean.Parser.Tactic.obtain)|s=>Mc.sOut (Mc.obF s)
local macro_rules (kind:=Lean.Parser.Tactic.cases)|s=>Mc.sOut (Mc.caF s)
local macro_rules (kind:=Lean.Parser.Tactic.generalize)|s=>Mc.sOut (Mc.geF s)
local macro_rules (kind:=Lean.Parser.Tactic.show)|s=>Mc.sOut (Mc.shF s)
local macro_rules (kind:=Lean.Parser.Tactic.subst)|s=>Mc.sOut (Mc.suF s)
local macro_rules (kind:=Lean.Parser.Tactic.rcases)|s=>Mc.sOut (Mc.rcF s)
local macro_rules (kind:=PyProof.Rows.tacticWalk_at_)|s=>Mc.sOut (Mc.waF s)
local macro_rules (kind:=Lean.Parser.Tactic.tacticHave__)|s=>Mc.sOut (Mc.haF s)
local macro_rules (kind:=Lean.Parser.Tactic.decide)|s=>Mc.sOut (Mc.deF s)
theorem ED:PySem.Challenge.rw_mt0003_01.wellSaid=true:=(Si Fast.te9446332074065402090 _).trans Z9
theorem jK{α:Type _}{Q:α->Prop}:∀x∈([]:J α),Q x:=λ_ h=>(YJ h).elim
theorem cn{α:Type _}{Q:α->Prop}{a:α}{l:J α}(h:Q a)(t:∀x∈l,Q x):∀x∈a::l,Q x:=λx m=>(ZI m).elim (λe=>e▸h) (t x)
set_option genCtorIdx false in inductive MV where|raw(a:ZP)|int(i:Zw)|str(s:Z)|seq(c:ZP)(l:J MV)
def MV.ctorIdx(x:MV):U:=x.casesOn (λO=>0) (λO=>1) (λO=>2) λO O=>3
abbrev MV.tup(l:ZaV):MV:=.seq Zac l
abbrev MV.lst(l:ZaV):MV:=.seq Zae l
abbrev MV.none:MV:=.raw .none
abbrev MV.bool(b:Y0):MV:=.raw (.bool b)
abbrev MV.ref(a:Y_):MV:=.raw Zag
abbrev aT:=Y_->OD->Prop
def bG(b Q:aT):Prop:=∀a o,b a o->Q a o
theorem bG.refl(a:aT):bG a a:=λO O e=>e
theorem bG.trans(a:bG c d)(b:bG d R):bG c R:=λx o e=>b x o (a x o e)
def cI(c:aT)(a:Y_)(ob:OD):aT:=λb o=>c b o\/(b=a/\o=ob)
theorem Tx:bG b (cI b a ob):=λO O e=>.inl e
abbrev ML:ZP->U->Zs Y_|.ref _,n=>some n|_,_=>none
abbrev M6:ZP->U->U|.ref _,_=>0|_,n=>n
abbrev X8(c:ZP)(a:Ud ZP)(n:U):OD:={Uc:=c,c':=ML c n,Xg:=.seq a (M6 c n)}
mutual def aw(d:aT):MV->ZP->Prop|.raw f,b=>b=f|.int i,b=>∃t,b=.int i t|.str x,b=>∃t,b=.str x t|.seq c m,b=>∃a e n,b=Zag/\d a (X8 c e n)/\ao d m e.toList def ao(b:aT):ZaV->J ZP->Prop|[],a=>a=[]|m::e,a=>∃c d,a=c::d/\aw b m c/\ao b e d end
theorem ao.wb(r:ao b [] a):a=[]:=r
theorem ao.cZ(r:ao a (d::f) i):∃b c,i=b::c/\aw a d b/\ao a f c:=r
variable{NL:Zc7->Prop}
theorem ao.jX(r:ao b [] a)(k:NL []):NL a:=by rw[r.wb];exact k
theorem ao.cS(r:ao f (i::l) n)(k:∀c d,aw f i c->ao f l d->NL (c::d)):NL n:=by
 obtain⟨c,d,YA,a,b⟩:=r.cZ;rw[YA];exact k c d a b
theorem ao.nil:ao a [] []:=(rfl:([]:Zc7)=[])
theorem ao.cons(r:aw a d b)(q:ao a f c):ao a (d::f) (b::c):=(⟨b,c,rfl,r,q⟩:∃e us,b::c=e::us/\aw a d e/\ao a f us)
theorem ao.one(r:aw a b c):ao a [b] [c]:=.cons r .nil
variable{y:aT}
theorem ao.u(r:ao y [b] c):∃a,c=[a]/\aw y b a:=r.elim λa q=>Vr λus q=>⟨a,q.1.trans (Zq (a::.) q.2.2),q.2.1⟩
theorem ao.length:∀{a:Zc7},ao y c a->Zx=YZ:=by induction c with|Yk=>exactλr=>r.jX (NL:=λa=>Zx=0) rfl|Zp m c i=>exactλr=>ib (NL:=λa=>Zx=YZ+1) λd a O b=>Zq (.+1) (i b)
theorem ao.append(r:ao y d c)(e:ao y f k):ao y (d++f) (c++k):=by
 revert c;induction d with|Yk=>exactλr=>r.jX (NL:=λc=>ao y f (c++k)) e|Zp m d i=>exactλr=>ib (NL:=λc=>ao y (m::(d++f)) (c++k)) λg c a b=>.cons a (i b)
theorem ao.get:∀{d:Zc7}(i:U),ao y f d->f[i]?=Zax->∃c,d[i]?=Zao/\aw y a c:=by induction f with|Yk=>exactλi O e=>nomatch e|Zp a f g=>exactλi r=>ib (NL:=λd=>(a::f)[i]?=some _->∃c,d[i]?=Zao/\aw y _ c) λc d j b=>Sz i (λe=>⟨c,rfl,ZW e▸j⟩) λi e=>g i b e
theorem ao.drop:∀{c:Zc7}(i:U),ao y d c->ao y (d.drop i) (c.drop i):=by induction d with|Yk=>exactλi r=>r.jX (NL:=λc=>ao y (List.drop i []) (c.drop i)) (by rw[List.drop_nil,List.drop_nil];exact .nil)|Zp m d e=>exactλi r=>ib (NL:=λc=>ao y ((m::d).drop i) (c.drop i)) λf c a b=>Sz i (.cons a b) λi=>e i b
theorem ao.take:∀{c:Zc7}(i:U),ao y d c->ao y (SO i) (ia i):=by induction d with|Yk=>exactλi r=>r.jX (NL:=λc=>ao y (List.take i []) (ia i)) (by rw[List.take_nil,List.take_nil];exact .nil)|Zp m d e=>exactλi r=>ib (NL:=λc=>ao y ((m::d).take i) (ia i)) λf c a b=>Sz i .nil λi=>.cons a (e i b)
theorem ao.set(i:U)(r:ao y d c)(q:aw y k f):ao y (d.set i k) (c.set i f):=by
 revert c i;induction d with|Yk=>exactλi r=>r.jX (NL:=λc=>ao y [] (c.set i f)) .nil|Zp m d e=>exactλi r=>ib (NL:=λc=>ao y ((m::d).set i k) (c.set i f)) λg c a b=>Sz i (.cons q b) λi=>.cons a (e i b)
theorem ao.reverse:∀{c:Zc7},ao y d c->ao y d.reverse c.reverse:=by induction d with|Yk=>exactλr=>r.jX (NL:=λc=>ao y [] c.reverse) .nil|Zp m d i=>exactλr=>ib (NL:=λc=>ao y (m::d).reverse c.reverse) λe c a b=>by rw[mx,mx];exact(i b).append (.one a)
theorem ao.snoc(r:ao y a b)(q:aw y c d):ao y (a++[c]) (b++[d]):=r.append (.one q)
theorem y2(k:∀a c f n,q a (X8 c f n)->l a (X8 c f n)):∀mv d,aw q mv d->aw l mv d:=λmv=>MV.rec (motive_1:=λmv=>∀d,aw q mv d->aw l mv d) (motive_2:=λmv=>∀d,ao q mv d->ao l mv d) (λO O r=>r) (λO O r=>r) (λO O r=>r) (λc m i d r=>ex3 ((show∃a f n,d=Zag/\q a (X8 c f n)/\ao q m mw from r)) λa f n Yw=>and3 Yw λe g rl=>(⟨a,f,n,e,k a c f n g,i _ rl⟩:∃a f n,d=Zag/\l a (X8 c f n)/\ao l m mw)) (λd r=>r) (λj m o p d r=>ib (NL:=ao l (j::m)) λu us a b=>.cons (o _ a) (p _ b)) mv
theorem ao.sub(k:∀a c e n,f a (X8 c e n)->l a (X8 c e n))(mv:ZaV):∀d,ao f mv d->ao l mv d:=by induction mv with|Yk=>exactλd r=>r|Zp m g i=>exactλd r=>ib λj us a b=>.cons (y2 k _ _ a) (i _ b)
theorem aw.mono(k:bG f i)(r:aw f b d):aw i b d:=y2 (λa c e n=>k a _) b d r
theorem ao.mono(k:bG f i)(r:ao f d b):ao i d b:=ao.sub (λa c b n=>k a _) d b r
abbrev YS:=J (Z×MV)
def aJ(x:Z)(a:MV)(l:YS):YS:=td (motive:=λO=>YS) [(x,a)] (λp r k=>if p.1=x then(x,a)::r else p::k) l
theorem aB(l:YS)(x:Z)(a:MV)(y:Z):(aJ x a l).lookup y=if y=x then some a else VU y:=by
  have hd:∀{z:Z}{u:MV}{r:YS},List.lookup y ((z,u)::r)=if y=z then some u else r.lookup y:=λ{z u r}=>by
    rw[Ux];by_cases h:y=z;.rw[ZT h,c_ h]
    .rw[ZY h,Yt h]
  induction l with
  |Yk=>exact hd|Zp p r i=>
    obtain⟨z,u⟩:=p;show List.lookup y (if z=x then(x,a)::r else(z,u)::aJ x a r)=_;rw[hd];by_cases b:z=x
    . rw[ZT b,hd,b];by_cases hy:y=x;.rw[ZT hy,ZT hy]
      .rw[ZY hy,ZY hy,ZY hy]
    . rw[ZY b,hd,i];by_cases hy:y=z;.rw[ZT hy,ZY λe=>b (hy.symm.trans e),ZT hy]
      .rw[ZY hy,ZY hy]
def lr(o:OD):Prop:=(∃c a n,o=X8 c a n)\/(o.cls=ZaK/\∃a,L3=.fields a)
theorem kH(b:a.cls≠.type "code")(hd:∀c n,a.data≠.seq c n):¬lr a:=λq=>Vr (λd=>ex3 d λO O O e=>hd _ _ (Zq Obj.data e)) λe=>b e.1
theorem Fx(hd:∀a n,c.data≠.seq a n)(d:∀a,c.data≠.fields a):¬lr c:=λq=>Vr (λb=>ex3 b λO O O e=>hd _ _ (Zq Obj.data e)) λb=>by obtain⟨_,a,e⟩:=b;exact d a e
def lV(b Q:aT):Prop:=∀a o,lr o->b a o->Q a o
theorem bG.s(h:bG b c):lV b c:=λa o O=>h a o
theorem lV.refl(a:aT):lV a a:=λO O O e=>e
theorem lV.trans(h:lV b c)(k:lV c R):lV b R:=λa o s e=>k a o s (h a o s e)
theorem lV.q(k:lV d f):∀a c b n,d a (X8 c b n)->f a (X8 c b n):=λa c b n=>k a _ (.inl ⟨c,b,n,rfl⟩)
theorem aw.ip(k:lV c d)(r:aw c a b):aw d a b:=y2 k.q a b r
theorem ao.ip(k:lV c d)(r:ao c a b):ao d a b:=ao.sub k.q a b r
set_option genCtorIdx false in inductive MO where|list(l:J MV)|own(Q:OD->Prop)|ns(l:YS)|gen(g:U)(st:Vb)
def MO.ctorIdx(x:MO):U:=x.casesOn (λO=>0) (λO=>1) (λO=>2) λO O=>3
def cT(b:aT)(h:D')(a:Y_):MO->Prop|.list e=>∃c n,Vq a=some (X8 (.type "list") c n)/\ao b e mu|.own Q=>∃o,Vq a=Zai/\Q o|.ns l=>∃m,h.Ns1 a m/\(∀x,VU x=none->m x=none)/\∀x mv,VU x=ZaQ->∃d,m x=ZaD/\aw b mv d|.gen g _=>h.IsGen a g
theorem cT.obj(x:cT c h a b):∃o,Vq a=Zai:=by
 walk_at"b";cases b with
 |list=>obtain⟨_,_,g,_⟩:=x;exact⟨_,g⟩|own=>obtain⟨_,g,_⟩:=x;exact⟨_,g⟩|ns=>obtain⟨_,⟨b,_,_,g,_⟩,_⟩:=x;exact⟨b,g⟩|gen=>obtain⟨b,_,_,g,_⟩:=x;exact⟨b,g⟩
theorem cT.lt(x:cT b h a c):a<h.objs.size:=SA x.obj λO e=>XN e
theorem cT.sub(x:cT f h a b)(k:∀a c d n,f a (X8 c d n)->i a (X8 c d n))(e:l.get? a=Vq a):cT i l a b:=by cases b with|list=>obtain⟨d,n,g,r⟩:=x;exact(Vs d n ⟨ru g,ao.sub k _ _ r⟩)|own=>obtain⟨b,g,p⟩:=x;exact⟨b,ru g,p⟩|ns=>obtain⟨m,n,q,r⟩:=x;exact⟨m,n.at λb g=>ru g,q,λy mv hy=>SA (r y mv hy) λj Yw=>Ug Yw λe z=>⟨j,e,y2 k _ _ z⟩⟩|gen=>obtain⟨b,nm,o,g,r⟩:=x;exact(exI3 b nm o ⟨ru g,r⟩)
theorem cT.mono(x:cT b h a d)(k:bG b f)(e:i.get? a=Vq a):cT f i a d:=x.sub (λa c g n=>k a _) e
abbrev GH:=Y_->Zs MO
def Y8(G:GH)(c:Y_)(a:MO):GH:=λb=>if b=c then some a else G b
def H2(G:GH)(a:Y_):GH:=λb=>if b=a then none else G b
theorem aa(G:GH)(a:Y_)(o:MO):Y8 G a o a=Zai:=by simp[Y8]
variable{E:GH}
theorem ag{o:MO}(h:b≠a):Y8 E a o b=E b:=by simp[Y8,h]
variable{N6:Y_->MO->Prop}
@[elab_as_elim]theorem xv(e:Y8 E a d c=Zaq)(h:N6 a d)(k:c≠a->E c=Zaq->N6 c b):N6 c b:=by
 by_cases q:c=a;.rw[q,aa]at e;rw[q,<-ZW e];exact h
 .exact k q ((ag q).symm.trans e)
@[elab_as_elim]theorem eJ(e:Y8 E a d c=Zaq)(h:N6 a d)(k:E c=Zaq->N6 c b):N6 c b:=xv e h λ_=>k
variable{w:GH}
theorem Eh(h:c≠a->E c=w c):Y8 E a b c=Y8 w a b c:=by
 unfold Y8;split;.rfl
 .exact h ‹_›
theorem fv(h:E a=Zao)(k:E b=none):a≠b:=λe=>by rw[<-e,h]at k;cases k
theorem CQ(h:E a=none)(k:E b=Zao):a≠b:=(fv k h).symm
theorem dZ(G:GH)(a:Y_):H2 G a a=none:=by simp[H2]
theorem bZ(G:GH)(h:b≠a):H2 G a b=G b:=by simp[H2,h]
theorem ck(e:H2 c a b=ZaD):b≠a/\c b=ZaD:=by
 by_cases h:b=a;.subst h;rw[dZ]at e;cases e
 .rw[bZ c h]at e;exact⟨h,e⟩
theorem my(G:GH)(a:Y_)(o:MO)(h:G a=none):H2 (Y8 G a o) a=G:=by
 funext b;by_cases q:b=a;.rw[q];rw[dZ,h]
 .rw[bZ _ q,ag q]
theorem aQ(G:GH)(a:Y_)(c o:MO):Y8 (Y8 G a c) a o=Y8 G a o:=by
 funext b;by_cases q:b=a;.rw[q];rw[aa,aa]
 .rw[ag q,ag q,ag q]
structure Cx where
 w:Tw
 B:D'
 os:VX
 pr:VW
 T:Y_
structure dS(G:GH)(gens:Ud Vb):Prop where
 bare:AllBare gens
 vt:∀a g st,G a=some (.gen g st)->gens[g]?=some st
 uniq:∀a b g st s,G a=some (.gen g st)->G b=some (.gen g s)->a=b
theorem dS.sub(x:dS c gens)(h:∀a o,d a=Zai->c a=Zai):dS d gens:=⟨x.bare,λa g st e=>x.vt a g st (h _ _ e),λa b g st s e f=>x.uniq a b g st s (h _ _ e) (h _ _ f)⟩
theorem dS.push(x:dS i gens)(c:Code):dS (Y8 i a (.gen gens.size (.fresh c))) (gens.push (.fresh c)):=by
  have k:∀b g st,Mine.upd i a (.gen gens.size (.fresh c)) b=some (.gen g st)->b=a/\g=gens.size/\st=.fresh c\/i b=some (.gen g st)/\g≠gens.size:=λb g st e=>by
    by_cases hb:b=a;.rw[hb,aa]at e;cases e;exact .inl ⟨hb,rfl,rfl⟩
    .have e:=(ag hb).symm.trans e;exact .inr ⟨e,Zb (OT (x.vt b g st e)).1⟩
  refine⟨x.bare.push rfl,λb g st e=>(k b g st e).elim (λh=>?_) λh=>?_,λb d g st s e j=>(k b g st e).elim (λh=>(k d g s j).elim (λf=>h.1.trans f.1.symm) λf=>(f.2 h.2.1).elim) λh=>(k d g s j).elim (λf=>(h.2 f.2.1).elim) λf=>x.uniq b d g st s h.1 f.1⟩;.rw[h.2.1,h.2.2];exact Array.getElem?_push_size ..
  .exact(Array.getElem?_push.trans (ZY h.2)).trans (x.vt b g st h.1)
def MO.kd:MO->U|.list _=>0|.own _=>1|.ns _=>2|.gen ..=>3
theorem dS.upd(x:dS d gens)(h:(a.kd==3)=false):dS (Y8 d f a) gens:=by
 have k:∀b g st,Mine.upd d f a b=some (.gen g st)->d b=some (.gen g st):=λb g st e=>by
  by_cases hb:b=f;.subst hb;rw[aa]at e;exact Zc (m_ (Zq (λa:MO=>a.kd==3) (ZW e))) Yn
  .rw[ag hb]at e;exact e
 exact⟨x.bare,λb g st e=>x.vt b g st (k _ _ _ e),λb c g st s e i=>x.uniq b c g st s (k _ _ _ e) (k _ _ _ i)⟩
abbrev Cx.M(X:Cx):Model:=Ub Wj Sl
structure oM(X:Cx)(a:aT)(h:D'):Prop where
 k:OldK X.B h
 b:∃o,Yz t7=some o
 p:∀o,¬a t7 o
 t:∃ps,Vq t7=some {Uc:=.none,Xg:=.fields ps}/\TriplesOk h'/\∀Yl d,D_ Yl h'=ZaD->∃c o e,d=Zc1/\a c o/\o.cls=ZaK/\L3=.fields e
theorem oM.mono(x:oM d f h)(le:lV f i)(hp:∀o,i d.T o->f d.T o):oM d i h:=⟨x.k,x.b,λo e=>x.p o (hp o e),SA x.t λps Yw=>and3 Yw λa j c=>⟨ps,a,j,λYl l e=>ex3 (c Yl l e) λc o g Yw=>and4 Yw λq q2 q3 q4=>⟨c,o,g,q,le c o (.inr ⟨q3,g,q4⟩) q2,q3,q4⟩⟩⟩
theorem oM.at(x:oM c f h)(g:OldK c.B d)(e:∀o,Vq c.T=Zai->d.get? c.T=Zai):oM c f d:=⟨g,x.b,x.p,SA x.t λps Yw=>Ug Yw λa r=>⟨ps,e _ a,r⟩⟩
theorem oM.ne(x:oM c i h)(d:c.B.get? a=none):c.T≠a:=by intro f;subst f;obtain⟨o,e⟩:=x.b;rw[d]at e;cases e
theorem oM.add(x:oM c d h)(f:c.B.get? a=none):oM c (cI d a ob) h:=x.mono cI.le.s λo e=>VD id λq=>Zc q.1 (x.ne f)
structure aA(X:Cx)(c:aT)(G:GH)(s:Za):Prop where
 old:oM X c Tv
 oI:∀b o,Yz b=Zai->b≠t7->WU b=some o
 aG:∀a o,c a o->WU a=some o
 objs:∀a o,G a=Zai->cT c Tv a o
 c7:∀a o,c a o->G a=none
 low:∀a o,G a=Zai->Yz a=none
 os:s.os=X.os
 gens:dS G s.gens
variable{NH:D'}
theorem vN(c:rt a=none)(hb:rt b=Za8):b≠a:=by intro d;subst d;rw[c]at hb;cases hb
theorem xg(x:asItWas a h b c)(mv:∀o,Vq b=Zai->h_ b=Zai):asItWas a f b c:=by
 refine x.imp (mv _) (Or.imp (λy=>⟨y.1,y.2.1,y.2.2.imp λe=>VC λSN=>And.imp id (mv _)⟩) λy=>⟨y.1,y.2.1,y.2.2.1.imp λo=>VC λd=>VC λn=>And.imp (mv _) id,λy'=>?_⟩);refine y.2.2.1.elim λo q=>Vr λd q=>Vr λn q=>?_;rw[OldK.staticOf_congr (y.1▸((mv _ q.1).trans q.1.symm)) y'];exact y.2.2.2 y'
variable{Pl:Y_->Prop}
theorem OldK.kQ(K:OldK d h)(g:∀a,Pl a->d.get? a=none)(hx:∀b o,¬Pl b->Vq b=Zai->h_ b=Zai):OldK d f:=by
 have mv:∀b o,d.get? b=Zai->∀{c},Vq b=Zao->h_ b=Zao:=λb o e O=>hx b _ λw=>nomatch(g b w).symm.trans e;refine⟨λb o e=>?_,λb o e=>SA (K.there b o e) λc i=>⟨c,mv b o e i⟩⟩;exact xg (K.old b o e) λO=>mv b o e
theorem oM.kQ(x:oM d i h)(f:∀a,Pl a->d.B.get? a=none)(hx:∀c o,¬Pl c->Vq c=Zai->l.get? c=Zai):oM d i l:=x.at (OldK.kQ x.k f hx) λo e=>hx _ o (λw=>x.ne (f _ w) rfl) e
theorem oM.same(x:oM c d h)(f:c.B.get? a=none)(hs:Xo a h i):oM c d i:=x.kQ (Pl:=(.=a)) (λO e=>e▸f) λg o hb e=>(hs.2 g hb).trans e
theorem oM.keeps(x:oM d f h)(a:∀c o,Vq c=Zai->i.get? c=Zai):oM d f i:=x.at (x.k.step_keeps a) λo e=>a _ o e
variable{X:Cx}{G:Za}{z:Y_}
theorem aA.hU(S:Zah)(h:ZZ<=z):Yz z=none:=by cases e:Yz z with|none=>rfl|some o=>obtain⟨b,a⟩:=S.old.k.there z o e;exact Zc (XN a) (Wg h)
theorem aA.fresh(S:Zah)(h:ZZ<=z):E z=none:=by cases e:E z with|none=>rfl|some o=>exact Zc (UK z o e).lt (Wg h)
variable{C:Za}
theorem aA.keep(S:Zah)(k:∀a o,ZH a=Zai->C.heap.get? a=Zai)(c:Z3 (C.os=G.os) aR)(hg:Z3 (dS E G.gens->dS E C.gens) aX):aA X y E C:=⟨S.old.keeps k,λb o e t=>k b o (Tu b o e t),λa o e=>k a o (Dp a o e),λa o e=>by
  have x:=UK a o e;obtain⟨d,g⟩:=x.obj;exact x.mono Zbs ((k a d g).trans g.symm),c4,L2,c.trans S.os,hg S.gens⟩
theorem aA.push(S:Zah)(o:OD):aA X y E {G with X_:=Zm o}:=RH (λO O e=>ZC o e)
theorem aA.toks(S:Zah)(n:U):aA X y E {G with Wf:=n}:=RH (λO O e=>e)
theorem aA.pin(S:Zah)(c:ZH a=some ob)(ga:E a=none)(la:Yz a=none):aA X (cI y a ob) E G:=⟨S.old.add la,Tu,λb o e=>VD (Dp b o) λq=>by rw[q.1,q.2];exact c,λb o e=>(UK b o e).mono Tx rfl,λb o e=>VD (c4 b o) λq=>by rw[q.1,q.2];exact ga,L2,S.os,S.gens⟩
theorem aA.freeze(S:Zah)(d:ZH a=some ob)(go:E a=Zao):aA X (cI y a ob) (H2 E a) G:=⟨S.old.add (L2 a c ‹_›),Tu,λb c e=>VD (Dp b c) λq=>by rw[q.1,q.2];exact d,λb c e=>(UK b c (ck e).2).mono Tx rfl,λb c e=>(by
      clear d go;rcases e with e|⟨rfl,rfl⟩
      . by_cases h:b=a;.subst h;exact dZ ..
        .rw[bZ _ h];exact c4 b c e
      .exact dZ ..),λb c e=>L2 b c (ck e).2,S.os,S.gens.sub λb c e=>(ck e).2⟩
theorem aA.kQ(S:Zah)(w:∀a,Pl a->E a=none/\(∀o,¬y a o)/\Yz a=none)(hx:∀b o,¬Pl b->ZH b=Zai->c.get? b=Zai):aA X y E {G with X_:=c,Wf:=n}:=⟨S.old.kQ (λa e=>(w a e).2.2) hx,λb o e t=>hx b o (λq=>nomatch(w b q).2.2.symm.trans e) (Tu b o e t),λb o hb=>hx b o (λq=>(w b q).2.1 o hb) (Dp b o hb),λb o e=>SA ((UK b o e).obj) λd g=>(UK b o e).mono Zbs ((hx b d (λq=>nomatch(w b q).1.symm.trans e) g).trans g.symm),c4,L2,S.os,S.gens⟩
theorem aA.other(S:Zah)(ga:E a=none)(p:∀o,¬y a o)(la:Yz a=none)(hs:Xo a YI c):aA X y E {G with X_:=c,Wf:=n}:=S.kQ (Pl:=(.=a)) (λO e=>e▸⟨ga,p,la⟩) λb o hb e=>(hs.2 b hb).trans e
theorem aA.set(S:Zah)(d:E c=Za8)(hs:Xo c YI i)(x:cT y i c a)(g:Z3 ((a.kd==3)=false) aR):aA X y (Y8 E c a) {G with X_:=i,Wf:=n}:=by
 walk_at"2";have ne:∀b ob,y b ob->b≠c:=λb ob hb e=>by have:=c4 b ob hb;rw[e,d]at this;cases this
 refine⟨S.old.same (L2 c f d) hs,λb a e t=>(hs.2 b (vN (L2 c f d) e)).trans (Tu b a e t),λb ob hb=>(hs.2 b (ne b ob hb)).trans (Dp b ob hb),λb ob e=>?_,λb ob hb=>?_,λb ob e=>?_,S.os,S.gens.upd g⟩;.exact xv (N6:=λb f=>cT y i b f) e x λhb e=>(UK b ob e).mono Zbs (hs.2 b hb)
 .rw[ag (ne b ob hb)];exact c4 b ob hb
 .exact eJ (N6:=λb O=>Yz b=none) e (L2 _ _ d) (L2 b ob)
theorem aA.HA(S:Zah)(x:cT y (Zm ob) ZZ a)(g:dS (Y8 E ZZ a) c):aA X y (Y8 E ZZ a) {G with X_:=Zm ob,gens:=c,Wf:=n}:=by
 have Q:=h9 ob;refine⟨Q.old,Q.base,Q.aG,λb o e=>?_,λb o hb=>?_,λb o e=>?_,Q.os,g⟩;.exact eJ (N6:=λb a=>cT y (Zm ob) b a) e x (Q.objs b o)
 .exact(ag (Zb (XN (Dp b o hb)))).trans (c4 b o hb)
 .exact eJ (N6:=λb O=>Yz b=none) e (S.hU (ZV _)) (L2 b o)
theorem aA.new(S:Zah)(x:cT y (Zm ob) ZZ a)(b:Z3 ((a.kd==3)=false) aR):aA X y (Y8 E ZZ a) {G with X_:=Zm ob}:=S.HA x (S.gens.upd b)
theorem aA.newGen(S:Zah)(c:Code):aA X y (Y8 E ZZ (.gen g7 (.fresh c))) {G with gens:=G.gens.push (.fresh c),Wf:=a,X_:=Zm {Uc:=.type "generator",Xg:=.fields #[.int g7 0,.str nm t1,.str q t2]}}:=S.HA ⟨_,_,_,ZL _ rfl,rfl,rfl,rfl⟩ (S.gens.push c)
theorem aA.drop(S:Zah)(hg:∀a o,w a=Zai->E a=Zai):aA X y w G:=⟨S.old,Tu,Dp,λa o e=>UK a o (hg a o e),λa o e=>(by
  have d:=c4 a o e;cases q:w a with|none=>rfl|some b=>rw[hg a b q]at d;exact Zc d (by simp)),λa o e=>L2 a o (hg a o e),S.os,S.gens.sub hg⟩
def Od(l b:YS):Prop:=∀x a,VU x=Zax->b.lookup x=some a
theorem Tt(l:YS):Od l l:=λO O e=>e
structure CV(X:Cx)(b:aT)(G:GH)(YX:SM)(l:YS)(h:D'):Prop where
 fn:env.scope.kind=.function
 gl:env.globals=W2
 bi:env.builtins=We
 loc:∃m,h.Ns Rr m/\∀x mv,VU x=ZaQ->Yg x=some .local->∃a,m x=Zax/\aw b mv a
 yo:∀x c,VR x=Zao->∃a,h.IsCell c a/\∀mv,VU x=ZaQ->Yg x≠some .local->∃u,a=some u/\aw b mv u
 knd:∀x mv,VU x=ZaQ->Yg x=some .local\/((Yg x=Zbm\/Yg x=some .free)/\∃c,VR x=Zao)
 lG:G Rr=none/\(∀o,¬b Rr o)/\Yz Rr=none
 cG:∀x c,VR x=Zao->G c=none/\Yz c=none/\(Rr<c->∀o,¬b c o)
 inj:∀x y c,VR x=Zao->VR y=Zao->x=y
structure ak(X:Cx)(a:aT)(YX:SM)(l:YS)(G:GH)(s:Za):Prop where
 g:aA X a G s
 f:CV X a G YX l Tv
variable{A:SM}{o:YS}
theorem CV.keep{f:D'}(F:CV X y E A o NH)(k:∀a,rt YL=Zax->h_ YL=Zax)(i:∀x c a,Xx x=Zao->rt c=Zax->h_ c=Zax)(gl:w YL=none)(gc:∀x c,Xx x=Zao->w c=none):CV X y w A o f:=by
  refine⟨F.fn,F.gl,F.bi,?_,λx c b=>?_,F.knd,⟨gl,F.lG.2⟩,λx c b=>⟨gc x c b,(F.cG x c b).2⟩,F.inj⟩;.obtain⟨m,⟨a,d,e,g,r⟩,hm⟩:=F.loc;exact⟨m,(Vs a d ⟨e,k a g,r⟩),hm⟩
  .obtain⟨j,⟨a,g,hd⟩,hm⟩:=F.yo x c b;exact⟨j,⟨a,i x c a b g,hd⟩,hm⟩
variable{B:aT}
theorem CV.more(F:CV X y E A o NH)(k:ZaX)(i:∀f,¬B YL f)(j:∀x c,Xx x=Zao->YL<c->∀f,¬B c f):CV X B E A o NH:=by
  refine⟨F.fn,F.gl,F.bi,?_,λx c d=>?_,F.knd,⟨F.lG.1,i,F.lG.2.2⟩,λx c d=>⟨(F.cG x c d).1,(F.cG x c d).2.1,j x c d⟩,F.inj⟩;.obtain⟨m,n,hm⟩:=F.loc;exact⟨m,n,λx mv a b=>SA ZcD λg Yw=>Ug Yw λe q=>⟨g,e,q.mono k⟩⟩
  .obtain⟨g,n,hm⟩:=F.yo x c d;exact⟨g,n,λmv a b=>SA (hm mv a b) λu Yw=>Ug Yw λe q=>⟨u,e,q.mono k⟩⟩
theorem ak.keep(S:Zab)(k:∀a b,ZH a=Zaq->C.heap.get? a=Zaq)(d:Z3 (C.os=G.os) aR)(hg:Z3 (dS E G.gens->dS E C.gens) aX):ak X y A o E C:=⟨S.g.keep k d hg,L1 (λb e=>k _ b e) (λO c b O e=>k c b e) S.f.lG.1 λx c i=>(W8 x c i).1⟩
theorem ak.push(S:Zab)(a:OD):ak X y A o E {G with X_:=Zm a}:=RH (λO O e=>ZC a e)
theorem ak.toks(S:Zab)(n:U):ak X y A o E {G with Wf:=n}:=RH (λO O e=>e)
theorem ak.lW(S:Zab):YL<ZZ:=by obtain⟨m,n,_⟩:=HS;exact n.lt
theorem ak.kA(S:Zab)(a:Xx x=Zao):c<ZZ:=by obtain⟨m,n,_⟩:=tb x c a;exact n.lt
theorem ak.new(S:Zab)(x:cT y (Zm ob) ZZ a)(d:Z3 ((a.kd==3)=false) aR):ak X y A o (Y8 E ZZ a) {G with X_:=Zm ob}:=⟨S.g.new x d,L1 (λa e=>ZC _ e) (λO c a O e=>ZC _ e) (by rw[ag (Zb S.lW)];exact S.f.lG.1) λx c b=>by rw[ag (Zb (S.kA b))];exact(W8 x c b).1⟩
theorem ak.Aj(S:Zab)(ob:OD)(d:Z3 (ob.isFreed=false) aR):ak X (cI y ZZ ob) A o E {G with X_:=Zm ob}:=by
  have Q:=h9 ob;walk_at"3";refine⟨Q.g.pin (ZL _ d) (Uw (ZV _)) (S.g.hU (ZV _)),Q.f.more Tx (λa e=>?_) λx c b i a e=>?_⟩
  . refine VD (λe=>?_) λYA=>?_;.exact S.f.lG.2.1 a e
    .obtain⟨q,_⟩:=YA;exact Zc q (Zb S.lW)
  . refine VD (λe=>?_) λYA=>?_;.exact(W8 x c b).2.2 i a e
    .obtain⟨q,_⟩:=YA;exact Zc q (Zb (S.kA b))
theorem ak.freeze(S:Zab)(i:ZH a=some ob)(ga:E a=ZaD):ak X (cI y a ob) A o (H2 E a) G:=by
  have nl:YL≠a:=λe=>by have:=S.f.lG.1;rw[e,ga]at this;cases this
  have nc:∀x c,Xx x=Zao->c≠a:=λx c b e=>by have:=(W8 x c b).1;rw[e,ga]at this;cases this
  refine⟨S.g.freeze i ga,(S.f.more Tx (λd e=>?_) λx c b j d e=>?_).keep (λO e=>e) (λO O O O e=>e) (by rw[bZ _ nl];exact S.f.lG.1) λx c b=>by rw[bZ _ (nc x c b)];exact(W8 x c b).1⟩
  . refine VD (λe=>?_) λYA=>?_;.exact S.f.lG.2.1 d e
    .obtain⟨q,_⟩:=YA;exact nl q
  . refine VD (λe=>?_) λYA=>?_;.exact(W8 x c b).2.2 j d e
    .obtain⟨q,_⟩:=YA;exact nc x c b q
theorem ak.set(S:Zab)(i:E d=some k)(hs:Xo d YI NH)(x:cT y NH d a)(j:Z3 ((a.kd==3)=false) aR):ak X y A o (Y8 E d a) {G with X_:=NH,Wf:=n}:=by
 have nl:YL≠d:=λe=>by have:=S.f.lG.1;rw[e,i]at this;cases this
 have nc:∀x c,Xx x=Zao->c≠d:=λx c b e=>by have:=(W8 x c b).1;rw[e,i]at this;cases this
 exact⟨S.g.set i hs x j,L1 (λk e=>(hs.2 _ nl).trans e) (λx c k b e=>(hs.2 _ (nc x c b)).trans e) (by rw[ag nl];exact S.f.lG.1) λx c b=>by rw[ag (nc x c b)];exact(W8 x c b).1⟩
theorem ak.drop(S:Zab)(hg:∀a b,w a=Zaq->E a=Zaq):ak X y A o w G:=have z:∀a,E a=none->w a=none:=λa e=>by cases q:w a with
  |none=>rfl|some b=>rw[hg a b q]at e;cases e
 ⟨S.g.drop hg,L1 (λO e=>e) (λO O O O e=>e) (z _ S.f.lG.1) λx c d=>z _ (W8 x c d).1⟩
variable{NF:YS}
theorem ak.eE(S:Zab)(hl:∀x mv,Q' x=ZaQ->∃m,Ys x=Zcg/\∀d,aw y m d->aw y mv d):ak X y A NF E G:=⟨iw,⟨Q_,G2,ta,SA HS λk Yw=>Ug Yw λn q=>⟨k,n,λx mv a b=>SA (hl x mv a) λm Yw=>Ug Yw λe r=>SA (q x m e b) λd Yw=>Ug Yw λi j=>⟨d,i,r d j⟩⟩,λx c l=>SA (tb x c l) λd Yw=>Ug Yw λn q=>⟨d,n,λmv a b=>SA (hl x mv a) λm Yw=>Ug Yw λe r=>SA (q m e b) λu Yw=>Ug Yw λi j=>⟨u,i,r u j⟩⟩,λx mv a=>SA (hl x mv a) λm Yw=>Ug Yw λe O=>y1 x m e,S.f.lG,W8,y0⟩⟩
theorem ak.forget(S:Zab)(hl:∀x a,Q' x=Zax->Ys x=Zax):ak X y A NF E G:=S.eE λx mv e=>⟨mv,hl x mv e,λO r=>r⟩
theorem ak.jc(S:Zab)(ga:E a=Zbf):∃B,ZaX/\aw B (.lst c) Zag/\ak X B A o (H2 E a) G:=by
 walk_at"b";obtain⟨b,n,d,r⟩:=Wd a _ ga;refine⟨cI y a Zat,Tx,?_,S.freeze d ga⟩;exact⟨a,b,n,rfl,.inr ⟨rfl,rfl⟩,Uv Tx⟩
set_option genCtorIdx false in inductive y_ where|next|brk|cont|e4(m:MV)
def Out.ctorIdx(x:y_):U:=x.casesOn 0 1 2 λO=>3
def FU(b:aT):y_->Flow->Prop|.next,f=>f=.next|.brk,f=>f=.brk|.cont,f=>f=.cont|.ret m,f=>∃a,f=.ret a/\aw b m a
section
variable(u:Cx)(T:XY)(YX:SM)
inductive PV(c:aT)(l:YS)(K:MV->GH->Prop)(d:ZP)(s:Za):Prop where|mk(b:aT)(mv:MV)(G:GH)(a:bG c b)(r:aw b mv d)(S:Zc3)(k:K mv G)
inductive PB(d:aT)(l:YS)(K:Y0->GH->Prop)(b:Y0)(s:Za):Prop where|mk(c:aT)(G:GH)(a:bG d c)(S:ak u c YX l G s)(k:K b G)
inductive PL(c:aT)(l:YS)(K:ZaV->GH->Prop)(d:Zc7)(s:Za):Prop where|mk(b:aT)(m:ZaV)(G:GH)(a:bG c b)(r:ao b m d)(S:Zc3)(k:K m G)
inductive PU(c:aT)(K:YS->GH->Prop)(d:Unit)(s:Za):Prop where|mk(b:aT)(l:YS)(G:GH)(a:bG c b)(S:Zc3)(k:K l G)
inductive PF(c:aT)(K:y_->YS->GH->Prop)(f:Flow)(s:Za):Prop where|mk(b:aT)(o:y_)(l:YS)(G:GH)(a:bG c b)(r:FU b o f)(S:Zc3)(k:K o l G)
abbrev bz:ZP->Za->Prop:=λO O=>L_
def EV(t:p' ZP)(l:YS)(G:GH)(K:MV->GH->Prop):Prop:=∀a s,Zc4->ZU u.M T t (PV u YX a l K) bz s
def EB(t:p' Y0)(l:YS)(G:GH)(K:Y0->GH->Prop):Prop:=∀a s,Zc4->ZU u.M T t (PB u YX a l K) bz s
def EL(t:p' Zc7)(l:YS)(G:GH)(K:ZaV->GH->Prop):Prop:=∀a s,Zc4->ZU u.M T t (PL u YX a l K) bz s
def EF(t:p' Flow)(l:YS)(G:GH)(K:y_->YS->GH->Prop):Prop:=∀a s,Zc4->ZU u.M T t (PF u YX a K) bz s
end
variable{g:MV->GH->Prop}
theorem PV.le(k:ZaX)(h:PV X A B o g f G):PV X A y o g f G:=by obtain⟨Q,mv,e,a,b,c,d⟩:=h;exact⟨Q,mv,e,m' a,b,c,d⟩
variable{Nj:Y0->GH->Prop}
theorem PB.le(k:ZaX)(h:PB X A B o Nj d G):PB X A y o Nj d G:=by obtain⟨Q,e,a,b,c⟩:=h;exact⟨Q,e,m' a,b,c⟩
variable{D:y_->YS->GH->Prop}
theorem PF.le(k:ZaX)(h:PF X A B D f G):PF X A y D f G:=by obtain⟨Q,o,l,e,a,b,c,d⟩:=h;exact⟨Q,o,l,e,m' a,b,c,d⟩
variable{m:XY}
theorem EV.mono(h:EV X m A f o E g)(k:∀e E,g e E->i e E):EV X m A f o E i:=λj s S=>ZS (h j s S) (λO O l=>by obtain⟨Q,mv,G,a,b,c,d⟩:=l;exact⟨Q,mv,G,a,b,c,k _ _ d⟩) λO O x=>x
theorem EB.mono(h:EB X m A f o E Nj)(k:∀b E,Nj b E->i b E):EB X m A f o E i:=λe s S=>ZS (h e s S) (λO O g=>by obtain⟨Q,G,a,c,d⟩:=g;exact⟨Q,G,a,c,k _ _ d⟩) λO O x=>x
theorem EF.mono(h:EF X m A f o E D)(k:∀e o E,D e o E->i e o E):EF X m A f o E i:=λg s S=>ZS (h g s S) (λO O j=>by obtain⟨Q,e,l,G,a,b,c,d⟩:=j;exact⟨Q,e,l,G,a,b,c,k _ _ _ d⟩) λO O x=>x
theorem U0(S:Zab)(r:aw y mv a)(k:g mv E):PV X A y o g a {G with Wf:=n}:=⟨y,mv,E,Zbs,r,G1 n,k⟩
theorem Sh(S:Zab)(r:aw y mv a)(k:g mv E):PV X A y o g a G:=⟨y,mv,E,Zbs,r,S,k⟩
theorem a0(a:aT)(i:Zw)(t:nj):aw a ZaN (.int i t):=⟨t,rfl⟩
theorem bp(a:aT)(x:Z)(t:nj):aw a (.str x) (.str x t):=⟨t,rfl⟩
theorem aE(b:aT)(a:ZP):aw b (.raw a) a:=(rfl:a=a)
theorem EV.use(h:EV X m A f o E g)(S:Zab)(k:∀B C e mv w,ZaX->aw B mv e->ak X B A o w C->g mv w->a e C):ZU YH m f a bz G:=ZS ZcU (λe C i=>by obtain⟨B,mv,w,j,b,c,d⟩:=i;exact k B C e mv w j b c d) λO O x=>x
theorem EB.use(h:EB X m A f o E Nj)(S:Zab)(k:∀B C b w,ZaX->ak X B A o w C->Nj b w->a b C):ZU YH m f a bz G:=ZS ZcU (λb C e=>by obtain⟨B,w,g,c,d⟩:=e;exact k B C b w g c d) λO O x=>x
theorem EF.use(h:EF X m A i o E D)(S:Zab)(k:∀B C f e NF w,ZaX->FU B e f->ak X B A NF w C->D e NF w->a f C):ZU YH m i a bz G:=ZS ZcU (λf C g=>by obtain⟨B,e,NF,w,j,b,c,d⟩:=g;exact k B C f e NF w j b c d) λO O x=>x
theorem ak.load(S:Zab)(hx:Ys x=ZaQ)(h:∀a,aw y mv a->d a G)(hn:(x=="__classdict__")=false):ZU YH m (loadName A x) d bz G:=by
  refine(y1 x mv hx).elim (λk=>?_) λYA=>?_;.obtain⟨i,n,hm⟩:=HS;obtain⟨a,e,r⟩:=hm x mv hx k;exact wpAny_loadName_local Q_ k n e (h a r)
  . obtain⟨k,c,b⟩:=YA;obtain⟨a,n,hm⟩:=tb x c b;obtain⟨u,rfl,r⟩:=hm mv hx (by rcases k with k|k<;>rw[k]<;>simp);rcases k with k|k;.exact wpAny_loadName_cell Q_ k b n (h u r)
    .exact wpAny_loadName_free Q_ k b n (h u r) hn
theorem Z4(hx:Ys x=ZaQ)(k:g mv E)(hn:Z3 ((x=="__classdict__")=false) aD)(hd:Z3 ((x=="__debug__")=false) aD):Za4:=λO O S=>c3 (S.load hx (λO r=>.same S r k) hn) hd
theorem X2(h:g ZaN E):EV X m A (ZG (.Constant (.int i) k Yl) A) o E g:=λO s S=>wpAny_Constant_int (U0 S (a0 _ i Uu) h)
theorem Wc(h:g (.str x) E):EV X m A (ZG (.Constant (.str x) k Yl) A) o E g:=λO s S=>λO O O=>(U0 (n:=Uu+1) S (bp _ x Uu) h)
theorem L0(h:g .none E):EV X m A (ZG (.Constant .none k Yl) A) o E g:=λO s S=>λO O O=>(Sh S (aE _ .none) h)
theorem EV.Cr(h:g (.bool b) E):EV X m A (ZG (.Constant (.bool b) k Yl) A) o E g:=λO s S=>λO O O=>(Sh S (aE _ (.bool b)) h)
theorem ak.store(S:Zab)(r:aw y mv l)(j:XX x=some .local)(h:∀C,ZcM->F () C):ZU YH m (storeName A x l) F bz G:=by
  obtain⟨I,n,hm⟩:=HS;refine wpAny_storeName_local j n (λN hn hs=>h _ ?_) ?_
  . refine⟨S.g.other S.f.lG.1 S.f.lG.2.1 S.f.lG.2.2 hs,⟨Q_,G2,ta,⟨_,hn,λb i hy k=>?_⟩,λb c t=>?_,λb i hy=>?_,S.f.lG,W8,y0⟩⟩
    . rw[aB]at hy;walk_at"b";by_cases a:b=x;.subst a;rw[ZT rfl]at hy;cases hy;exact⟨l,by rw[ZT rfl],r⟩
      .rw[ZY a]at hy;obtain⟨u,e,q⟩:=hm b i hy k;exact⟨u,by rw[ZY a];exact e,q⟩
    . obtain⟨u,p,w⟩:=tb b c t;have z:c≠YL:=by
        intro e;obtain⟨Q,s,hd⟩:=p;obtain⟨T,d,V,B,D,_⟩:=n;rw[e,B]at s;cases s;rw[D]at hd;cases hd
      refine⟨u,p.sameBut hs z,λi hy k=>?_⟩;walk_at"b";rw[aB]at hy;clear h hn;by_cases a:b=x;.subst a;exact Zc j k
      .rw[ZY a]at hy;exact w i hy k
    . rw[aB]at hy;walk_at"n";by_cases a:b=x;.subst a;exact .inl j
      .rw[ZY a]at hy;exact y1 b i hy
  .rw[Q_];rfl
theorem ak.Gm(S:Zab)(r:aw y mv l)(p:XX x=Zbm)(i:Xx x=Zao)(t:YL<c)(h:∀C,ZcM->F () C):ZU YH m (storeName A x l) F bz G:=by
  obtain⟨PN,q,_⟩:=tb x c i;obtain⟨I,n,hm⟩:=HS;have w:YL≠c:=by
    intro e;obtain⟨PR,N,hd⟩:=q;obtain⟨PS,d,PT,z,Q,_⟩:=n;rw[e,N]at z;cases z;rw[Q]at hd;cases hd
  obtain⟨B,D,g3⟩:=W8 x c i;refine wpAny_storeName_cell Q_ p i q (λPW hn hs=>h _ ?_);walk_at"4";refine⟨S.g.other B (g3 t) D hs,⟨Q_,G2,ta,⟨I,n.sameBut hs w,λa j hy k=>?_⟩,λa s hb=>?_,λa j hy=>?_,S.f.lG,W8,y0⟩⟩
  . rw[aB]at hy;by_cases b:a=x;.subst b;rw[p]at k;cases k
    .rw[ZY b]at hy;exact hm a j hy k
  . by_cases b:a=x;.subst b;rw[i]at hb;rw[<-ZW hb];refine⟨some l,hn,λj hy O=>?_⟩;rw[aB,ZT rfl]at hy;rw[<-ZW hy];exact⟨l,rfl,r⟩
    . obtain⟨u,T,V⟩:=tb a s hb;clear t q w B D g3 hn;have:s≠c:=by intro PM;subst PM;exact b (y0 a x s hb i)
      walk_at"b";refine⟨u,T.sameBut hs this,λj hy k=>?_⟩;rw[aB,ZY b]at hy;exact V j hy k
  . rw[aB]at hy;walk_at"N";by_cases b:a=x;.subst b;exact .inr ⟨.inl p,c,i⟩
    .rw[ZY b]at hy;exact y1 a j hy
def aM(YX:SM)(x:Z):Prop:=Yg x=some .local\/(Yg x=Zbm/\∃c,VR x=Zao/\Rr<c)
theorem ak.st(S:Zab)(r:aw y mv b)(a:Zc5)(h:∀C,ZcM->d () C):ZU YH m (storeName A x b) d bz G:=by
  refine Q1 (λa=>?_) λYA=>?_;.exact S.store r a h
  .obtain⟨a,c,e,i⟩:=YA;exact S.Gm r a e i h
abbrev iR(X:Cx)(A:XY)(YX:SM)(XE:J V4)(K:y_->YS->GH->Prop):y_->YS->GH->Prop:=λa o E=>match a with|.next=>EF X A YX (Yj XE YX) o E K|a=>K a o E
abbrev LC(K:y_->YS->GH->Prop)(x:Z)(l:YS):MV->GH->Prop:=λmv E=>K .next (aJ x mv l) E
abbrev LG(K:y_->YS->GH->Prop)(l:YS):MV->GH->Prop:=λmv E=>K (.ret mv) l E
abbrev qI(K:MV->GH->Prop):y_->YS->GH->Prop:=λo O E=>match o with|.ret m=>K m E|_=>K .none E
abbrev Kv(X:Cx)(A:XY)(YX:SM)(W9 orelse:J V4)(l:YS)(K:y_->YS->GH->Prop):Y0->GH->Prop:=λb E=>(b=true->EF X A YX Zct l E K)/\(b=false->EF X A YX (Yj orelse YX) l E K)
inductive K6(a:YS->GH->Prop)(b:YS)(G:GH):Prop where|mk(l:YS)(j:a l G)(s:Od l b)
inductive MM(I:U->YS->GH->Prop)(n:U)(a:YS)(G:GH):Prop where|mk(m:U)(l:YS)(lt:m<n)(i:I m l G)(s:Od l a)
abbrev Es(a:YS->GH->Prop)(K:y_->YS->GH->Prop):y_->YS->GH->Prop:=λb o E=>match b with|.next|.cont=>K6 a o E|.brk=>K .next o E|.ret c=>K (.ret c) o E
abbrev GW(a:YS->GH->Prop):y_->YS->GH->Prop:=λb o E=>match b with|.next|.cont=>K6 a o E|_=>L_
abbrev LI(I:U->YS->GH->Prop)(n:U)(K:y_->YS->GH->Prop):y_->YS->GH->Prop:=λa o E=>match a with|.next|.cont=>MM I n o E|.brk=>K .next o E|.ret b=>K (.ret b) o E
abbrev M2(K:y_->YS->GH->Prop):YS->GH->Prop:=λo E=>K .next o E
theorem YV(h:D .next o E):EF X m A (Yj [] A) o E D:=λa O S=>u_ ⟨a,.next,o,E,Zc9,rfl,S,h⟩
variable{Nw:V4}
theorem ZJ(h:EF X m A (TP Nw A) o E (iR X m A XE D)):EF X m A (Yj (Nw::XE) A) o E D:=λk n S=>wpAny_execs_cons (W1 S λe s f g l G a b c d=>by cases g with|next=>cases b;exact ZS (d e s c) (λO O x=>x.le a) λO O x=>x|brk=>cases b;exact⟨e,.brk,l,G,a,rfl,c,d⟩|cont=>cases b;exact⟨e,.cont,l,G,a,rfl,c,d⟩|e4 i=>obtain⟨j,rfl,r⟩:=b;exact⟨e,.ret i,l,G,a,⟨j,rfl,r⟩,c,d⟩)
theorem Zk(h:EV X m A (ZG f A) o E (LC D x o))(e:Zc5)(hs:Z3 (Oc f (some (.Name x i)) LV A=Ye false) aR):EF X m A (TP (.Assign [.Name x i] f Yl) A) o E D:=λk s S=>wpAny_Assign_Name (W1 S λg l n mv G a b c d=>c.st b e λp j=>⟨g,.next,_,G,a,rfl,j,d⟩) hs
theorem XD(h:EB X m A Zcb o E (Kv X m A W9 orelse o D)):EF X m A (TP (.If ft W9 orelse Yl) A) o E D:=λf g S=>wpAny_If (W1 S λe s b G a c d=>by cases b with|true=>exact ZS (d.1 rfl e s c) (λO O x=>x.le a) λO O x=>x|false=>exact ZS (d.2 rfl e s c) (λO O x=>x.le a) λO O x=>x)
theorem Q0(h:EV X m A (ZG f A) o E (LG D o)):EF X m A (TP (.Return (some f) Yl) A) o E D:=λi s S=>wpAny_Return_some (W1 S λe j g mv G a b c d=>⟨e,.ret mv,o,G,a,⟨g,rfl,b⟩,c,d⟩)
theorem EF.brk(h:D .brk o E):EF X m A (TP (.Break Yl) A) o E D:=λa s S=>λO O O=>⟨a,.brk,o,E,Zc9,rfl,S,h⟩
theorem EF.cont(h:D .cont o E):EF X m A (TP (.Continue Yl) A) o E D:=λa s S=>λO O O=>⟨a,.cont,o,E,Zc9,rfl,S,h⟩
theorem EF.eE(h:EF X m A d NF w D)(hl:∀x b,Q' x=Zaq->Ys x=Zaq)(hg:∀a c,w a=Zao->E a=Zao):EF X m A d o E D:=λe s S=>h e s ((S.forget hl).drop hg)
theorem EF.ro(I:U->YS->GH->Prop)(n:U)(z:I n q E)(B:Od q o)(UB:∀n o E,I n o E->EB X m A Zcb o E λb w=>(b=true->EF X m A ZbO o w (LI I n D))/\(b=false->D .next o w)):EF X m A (TP (.While ft W9 [] Yl) A) o E D:=λd P0 C=>by
 walk_at"a";refine wpAny_While ?_;walk_at"k";refine codeAny_whileLoop (λn s=>∃c r w,bG d c/\ak X c A r w s/\I n r w) ?_ n (exI3 d (q) E ⟨.refl d,C.forget B,z⟩);intro n s F;obtain⟨P2,l,M,N,Q,T⟩:=F;walk_at"c";refine ZS ((UB n l M T).use (a:=λb j=>∃c w,bG d c/\ak X c A l w j/\(b=true->EF X m A ZbO l w (LI I n D))/\(b=false->D .next l w)) Q λc s b w V PM PN=>(Vs c w ⟨N.trans V,PM,PN⟩)) (λb j h=>?_) λO O x=>VE;obtain⟨t,PR,a,u,PS,PT⟩:=h;cases b with
 |false=>exact u_ ⟨t,.next,l,PR,a,rfl,u,PT rfl⟩|true=>
  refine ZS (PS rfl t j u) (λP4 P5 h=>?_) λO O x=>VE;obtain⟨e,PW,y,G,f,g,S,k⟩:=h;cases PW with
  |next=>cases g;obtain⟨p,l,hm,i,hs⟩:=k;exact⟨p,hm,e,l,G,Xb f,S.forget hs,i⟩|brk=>cases g;exact⟨e,.next,y,G,Xb f,rfl,S,k⟩|cont=>cases g;obtain⟨p,l,hm,i,hs⟩:=k;exact⟨p,hm,e,l,G,Xb f,S.forget hs,i⟩|e4 PX=>obtain⟨PY,rfl,PZ⟩:=g;exact⟨e,.ret PX,y,G,Xb f,⟨PY,rfl,PZ⟩,S,k⟩
structure V3(X:Cx)where
 mg:Z->Zs ZP
 mb:Z->Zs ZP
 hg:X.B.Ns W2 mg
 hb:X.B.Ns We mb
 lim:X.B.NoLimit
 ng:W2≠t7
 nb:We≠t7
 nc:cStatics≠t7
theorem Ns.of_get{b:D'}(n:NH.Ns a c)(k:∀o,rt a=Zai->b.get? a=Zai):b.Ns a c:=ex3 n λo d e Yw=>Ug Yw λf r=>⟨o,d,e,k _ f,r⟩
theorem aA.ns(S:Zah)(n:X.B.Ns a b)(c:a≠t7):G.heap.Ns a b:=Ns.of_get n λo e=>Tu a o e c
theorem aA.lim(S:Zah)(b:Zcc):G.heap.NoLimit:=SA b.lim λm Yw=>Ug Yw λn q=>⟨m,S.ns n b.nc,q⟩
theorem EP(a:A.scope.kind=.function)(b:XX x=Zaa):loadName A x=loadGlobal A x:=by unfold loadName Env.blockKind;rw[a,b];rfl
theorem mi(b:Zcc)(c:XX x=Zaa)(hv:V0 x=Zax)(k:g (.raw a) E)(hd:Z3 ((x=="__debug__")=false) aD):Za4:=λd s S=>by
 refine c3 ?_ hd;rw[EP Q_ c];unfold loadGlobal;rw[G2];refine Z7 (wpAny_nsGet (S.g.ns b.hg b.ng) ?_);rw[hv];exact Z5 (Sh S (aE d a) k)
theorem p_(b:Zcc)(c:XX x=Zaa)(hn:V0 x=none)(hv:Va x=Zax)(k:g (.raw a) E)(hd:Z3 ((x=="__debug__")=false) aD):Za4:=λd s S=>by
 refine c3 ?_ hd;rw[EP Q_ c];unfold loadGlobal;walk_at"a";rw[G2,ta];refine Z7 (wpAny_nsGet (S.g.ns b.hg b.ng) ?_);rw[hn];refine Z7 (wpAny_nsGet (S.g.ns b.hb b.nb) ?_);rw[hv];exact Z5 (Sh S (aE d a) k)
abbrev gH(YX:SM)(e:Wy)(d:J Wy):Prop:=Zr (e::d) YX=(false,ZG e YX)::Zr d YX
abbrev nr(YX:SM)(d:J Wy):Prop:=∀Yl,(UJ Yl (Zr d YX)).any (·.1)=false
abbrev eL(YX:SM)(o:Wy)(name:Z)(a:iv)(d:J Wy)(Yl:iv)(p:p' Y0):Prop:=ZG (.Call (.Attribute o name a) d [] Yl) YX=(do
 let b<-ZG o YX
 VV a.atName let(f,first)<-T' [b] (Ob b name p)
 OS Yl f first (UJ Yl (Zr d YX)) [])
def EA(X:Cx)(A:XY)(YX:SM)(d:J Wy)(l:YS)(G:GH)(K:ZaV->GH->Prop):Prop:=∀Yl,EL X A YX (spliced (UJ Yl (Zr d YX))) l G K
variable{Pn:ZaV->GH->Prop}
theorem Y6(h:Pn [] E):EA X m A [] o E Pn:=λYl a s S=>c0 ⟨a,[],E,Zc9,.nil,S,h⟩
theorem Zu(h:EV X m A (ZG f A) o E λg w=>EA X m A d o w λe G=>Pn (g::e) G)(he:Z3 (gH A f d) aR):EA X m A (f::d) o E Pn:=λYl u y S=>rr (W1 S λi s z mv w j b c k=>ZS (k Yl i s c) (λB C l=>by obtain⟨n,e,p,a,q,r,t⟩:=l;exact⟨n,mv::e,p,j.trans a,.cons (b.mono a) q,r,t⟩) λO O x=>x) he
theorem EL.use(h:EL X m A f o E Pn)(S:Zab)(k:∀B C e mv w,ZaX->ao B mv e->ak X B A o w C->Pn mv w->a e C):ZU YH m f a bz G:=ZS ZcU (λe C g=>by obtain⟨B,mv,w,i,b,c,d⟩:=g;exact k B C e mv w i b c d) λO O x=>x
theorem ak.iG(S:Zab)(r:ao y b a):∃B,ZaX/\aw B (.seq (.type T) b) ZaB/\ak X B A o E {G with X_:=Zm (X8 Za' a.toArray 0)}:=by
 walk_at"b";refine⟨_,Tx,?_,S.Aj (X8 Za' a.toArray 0)⟩;exact⟨_,a.toArray,0,rfl,.inr ⟨rfl,rfl⟩,Uv Tx⟩
theorem TO(h:EA X m A d o E λe w=>X1<=ZK/\g (.tup e) w):EV X m A (ZG (.Tuple d k Yl) A) o E g:=λp s S=>Tuple_ ((h Yl).use S λq t i e w a b c f=>by
  obtain⟨j,l,r,n⟩:=c.iG (T:="tuple") b;exact Ym ⟨j,_,w,Xb l,r,n,f.2⟩ (by show i.toArray.size<=ZK;rw[Wb,Zv];exact f.1))
theorem UA(h:EA X m A d o E λe w=>X1<=ZK/\g (.lst e) w):EV X m A (ZG (.List d Yl) A) o E g:=λn s S=>List_ ((h Yl).use S λp q i e w a b c f=>by
  obtain⟨j,k,r,l⟩:=c.iG (T:="list") b;exact Ym ⟨j,_,w,Xb k,r,l,f.2⟩ (by show i.toArray.size<=ZK;rw[Wb,Zv];exact f.1))
theorem VZ(h:EA X m A d o E λe w=>X1<=ZK/\∀a,w a=none->g Zag (Y8 w a (.list e))):EV X m A (ZG (.List d Yl) A) o E g:=λk l S=>List_ ((h Yl).use S λi s f e w a b c j=>by
  have x:cT i (Ts (X8 Zae f.toArray 0)) Zz (.list e):=(Vs f.toArray 0 ⟨ZL _ rfl,b⟩);exact Ym ⟨i,.ref Zz,_,a,aE ..,c.new x,j.2 _ (c.g.fresh (ZV _))⟩ (by show f.toArray.size<=ZK;rw[Wb,Zv];exact j.1))
inductive RC(X:Cx)(d:aT)(K:MV->GH->Prop)(r:TN)(s:Za):Prop where|mk(c:ZP)(b:aT)(mv:MV)(G:GH)(e:r=.ok (.ret c))(a:bG d b)(q:aw b mv c)(S:aA X b G s)(k:K mv G)
def b9(X:Cx)(A:XY)(f:ZP)(m:ZaV)(b:GH)(K:MV->GH->Prop):Prop:=∀y G a,aA X y b G->ao y m a->U7 YH A (.call f ⟨a,[]⟩) (RC X y K) G
theorem ak.liftT(S:Zab):∃z,bG y z/\aA X z E G/\(∀a i,z a i->y a i\/a=YL\/∃x,Xx x=Zax)/\∀B w C,bG z B->aA X B w C->∃s,bG y s/\ak X s A o w C/\lV B s/\bG s B:=by
  walk_at"b";let own:Y_->Prop:=λa=>a=YL\/∃x,Xx x=some a;let m:Y_->Prop:=λa=>a=YL\/∃x,Xx x=Zax/\YL<a;have PN:aA X (λa i=>y a i\/(own a/\ZH a=ZbI)) E G:=by
    walk_at"5";refine⟨mc (λO O O e=>.inl e) (λi e=>VD id λj=>by
      refine j.1.elim (λh=>?_) λYA=>?_;.exact Zc h (oC S.f.lG.2.2)
      .obtain⟨x,hx⟩:=YA;exact Zc rfl (oC (W8 x _ hx).2.1)),K_,λa i e=>VD (Yd a i) λj=>j.2,λa i e=>(Wd a i e).mono (λO O e=>.inl e) rfl,λa i e=>?_,OZ,ct,cj⟩;refine VD (λe=>?_) λYA=>?_;.exact OC a i e
    . obtain⟨j,_⟩:=YA;refine j.elim (λYA=>?_) λYA=>?_;.rw[YA];exact S.f.lG.1
      .obtain⟨x,hx⟩:=YA;exact(W8 x a hx).1
  refine⟨_,λO O e=>.inl e,PN,λa i e=>e.imp id λj=>j.1,λB w C k p=>?_⟩;walk_at"b";obtain⟨PR,n,hm⟩:=HS;obtain⟨PS,d,PT,T,F,PW⟩:=n;have D:=k _ _ (.inr ⟨.inl rfl,T⟩);have I:∀x c,Xx x=Zao->∃r i,ZH c=ZbI/\i.data=.cell r/\B c i/\∀mv,Ys x=ZaQ->XX x≠some .local->∃u,r=some u/\aw y mv u:=λx c hx=>by
    walk_at"b";obtain⟨r,⟨i,t,hd⟩,hv⟩:=tb x c hx;exact⟨r,i,t,hd,k _ _ (.inr ⟨.inr ⟨x,hx⟩,t⟩),hv⟩
  have PX:∀a i,lr i->B a i->¬own a:=λa i st hp j=>by
    rcases j with rfl|⟨x,hx⟩
    . have:=(p.aG _ _ D).symm.trans (p.aG _ _ hp);cases this;clear T D hp;refine st.elim (λYA=>?_) λst=>?_;.obtain⟨PY,M,n,rfl⟩:=YA;cases F
      .obtain⟨_,M,e⟩:=st;rw[F]at e;cases e
    . obtain⟨r,i,t,hd,V,_⟩:=I x a hx;have:=(p.aG _ _ V).symm.trans (p.aG _ _ hp);clear t;cases this;clear V hp;refine st.elim (λYA=>?_) λst=>?_;.obtain⟨PY,M,n,rfl⟩:=YA;cases hd
      .obtain⟨_,M,e⟩:=st;rw[hd]at e;cases e
  let s:aT:=λa i=>B a i/\¬m a;have l:bG y s:=λa i e=>⟨k a i (.inl e),λj=>by
    rcases j with rfl|⟨x,hx,N⟩;.exact S.f.lG.2.1 i e
    .exact(W8 x a hx).2.2 N i e⟩;have PZ:∀a,m a->own a:=λa j=>j.imp id λP0=>SA P0 λx Yw=>Ug Yw λhx O=>⟨x,hx⟩;have Q:lV B s:=λa i st PM=>⟨PM,λj=>PX a i st PM (PZ a j)⟩;refine⟨s,l,⟨⟨p.old.mono Q (λi e=>e.1),p.base,λa i e=>p.aG a i e.1,λa i e=>?_,λa i e=>p.c7 a i e.1,p.low,p.os,p.gens⟩,?_⟩,Q,(λO O e=>e.1:bG s B)⟩;.exact(p.objs a i e).sub Q.q rfl
  . refine⟨Q_,G2,ta,⟨PR,(Vs PS d ⟨PT,p.aG _ _ D,F,PW⟩),λx mv a b=>SA ZcD λr Yw=>Ug Yw λe j=>⟨r,e,j.mono l⟩⟩,λx c hx=>?_,y1,⟨p.c7 _ _ D,λi e=>e.2 (.inl rfl),S.f.lG.2.2⟩,λx c hx=>⟨?_,(W8 x c hx).2.1,λN i e=>e.2 (.inr ⟨x,hx,N⟩)⟩,y0⟩;.obtain⟨r,i,t,hd,hp,hv⟩:=I x c hx;exact⟨r,⟨i,p.aG _ _ hp,hd⟩,λmv a b=>SA (hv mv a b) λu Yw=>Ug Yw λe j=>⟨u,e,j.mono l⟩⟩
    .obtain⟨r,i,t,hd,hp,hv⟩:=I x c hx;exact p.c7 _ _ hp
theorem ak.kG(S:Zab):∃d,bG y d/\aA X d E G/\∀B w C,bG d B->aA X B w C->∃e,bG y e/\ak X e A o w C/\lV B e/\bG e B:=by
 walk_at"b";obtain⟨d,a,b,_,c⟩:=S.liftT;exact⟨d,a,b,c⟩
theorem ak.Ig(S:Zab):∃e,bG y e/\aA X e E G/\∀B w C,bG e B->aA X B w C->∃d,bG y d/\ak X d A o w C/\(∀mv i,aw B mv i->aw d mv i)/\bG d B:=by
 walk_at"b";obtain⟨e,a,b,c⟩:=S.kG;exact⟨e,a,b,λB w C x j=>SA (c B w C x j) λd Yw=>and4 Yw λp q r z=>⟨d,p,q,λmv i h=>h.ip r,z⟩⟩
theorem ak.lift(S:Zab):∃d,bG y d/\aA X d E G/\∀B w C,bG d B->aA X B w C->∃e,bG y e/\ak X e A o w C/\∀mv i,aw B mv i->aw e mv i:=by
 walk_at"b";obtain⟨d,a,b,c⟩:=S.Ig;exact⟨d,a,b,λB w C x j=>SA (c B w C x j) λe Yw=>and4 Yw λp q r O=>⟨e,p,q,r⟩⟩
theorem b9.ev(h:b9 X m f l E g)(S:Zab)(r:ao y l i):ZU YH m (VQ f i) Zad bz G:=by
 walk_at"a";obtain⟨j,k,n,OB⟩:=S.lift;refine Wa (V' (h j G i n (Uv k)) λx s q=>?_);obtain⟨z,p,mv,e,YA,a,b,c,d⟩:=q;rw[YA];obtain⟨t,u,w,rep⟩:=OB p e s a c;exact⟨t,mv,e,u,rep _ _ b,w,d⟩
theorem yK(yx:Z->Zs NameKind)(x:Z)(b:J (Z×ZP)):∀m:Z->Zs ZP,x∉g6 (·.1)->bindL yx b m x=m x:=by induction b with
 |Yk=>exactλO O=>rfl|Zp p r i=>
  intro m h;rw[Yb,XS,not_or]at h;refine(i _ h.2).trans ?_;refine bQ rfl (λO=>?_) λO=>?_;.exact ZY h.1
  .rfl
theorem yX(yx:Z->Zs NameKind)(x:Z)(b:J (Z×ZP)):∀m:Z->Zs ZP,x∉g6 (·.1)->bindC yx b m x=m x:=by induction b with
 |Yk=>exactλO O=>rfl|Zp p r i=>
  intro m h;rw[Yb,XS,not_or]at h;refine(i _ h.2).trans ?_;refine bQ rfl (λO=>?_) λO=>?_;.rfl
  .exact ZY h.1
theorem rY(WE:J Z)(a:Zc7)(x:Z)(h:x∈(WQ a).map (·.1)):x∈WE:=by
 obtain⟨p,hp,rfl⟩:=Zl h;exact(fo hp).1
theorem Mh{α β:Type}[BEq α][LawfulBEq α]{x n:α}{m:β}{l:J (α×β)}(h:x≠n):((n,m)::l).lookup x=VU x:=List.lookup_cons.trans (by rw[Yt h])
theorem um(yx:Z->Zs NameKind):∀(WE:J Z)(m:ZaV)(d:Zc7)(f c:Z->Zs ZP),Sx->ao y m d->∀x mv,(WQ m).lookup x=ZaQ->(yx x=some .local->∃a,bindL yx (WQ d) f x=Zax/\aw y mv a)/\(yx x≠some .local->∃a,bindC yx (WQ d) c x=Zax/\aw y mv a):=by
  intro I;induction I with
  |Yk=>
    intro _ _ _ _ _ _ x mv e;simp at e|Zp n ns j=>
    intro k;cases k with
    |Yk=>
      intro _ _ _ _ _ x mv e;simp at e|Zp s m=>
      intro d f c hn l x mv e;obtain⟨a,i,YA,r,rl⟩:=l;rw[YA];obtain⟨o,p⟩:=oz hn;clear hn;by_cases hx:x=n
      . subst hx;rw[<-ZW (ma e)];have tk:x∉(ns.zip i).map (·.1):=λq=>o (rY _ _ _ q);refine⟨λg=>⟨a,?_,r⟩,λg=>⟨a,?_,r⟩⟩;.refine(yK _ _ _ _ tk).trans ?_;rw[ZT g,ZT rfl]
        .refine(yX _ _ _ _ tk).trans ?_;rw[ZY g,ZT rfl]
      .exact j m i (if yx n=some .local thenλb=>if b=n then some a else f b else f) (if yx n=some .local then c elseλb=>if b=n then some a else c b) p rl x mv ((Mh hx).symm.trans e)
theorem MI{α:Type}{b:J α->Prop}(h:b []):∀a:J α,Zx=0->b a:=λa e=>Xl e▸h
theorem HT{α:Type}{c:J α->Prop}(h:∀a,∀b:J α,Zv=n->c (a::b)):∀b:J α,Zv=n+1->c b:=λb e=>by cases b with|Yk=>cases e|Zp a b=>exact h a b (x' e)
theorem EK{α:Type}{b:J α->Prop}(h:∀a,b [a]):∀c:J α,YZ=1->b c:=HT λa=>MI (h a)
theorem ym{α:Type}{c:J α->Prop}(h:∀a b,c [a,b]):∀d:J α,YG=2->c d:=HT λa=>EK (h a)
theorem Hq{α:Type}{d:J α->Prop}(h:∀a b c,d [a,b,c]):∀e:J α,X1=3->d e:=HT λa=>ym (h a)
theorem LO{α:Type}{e:J α->Prop}(h:∀a b c d,e [a,b,c,d]):∀f:J α,S8=4->e f:=HT λa=>Hq (h a)
theorem MF{α:Type}{f:J α->Prop}(h:∀a b c d e,f [a,b,c,d,e]):∀g:J α,K5=5->f g:=HT λa=>LO (h a)
theorem rep1(r:ao y [a] b){c:Prop}(k:∀v1,b=[v1]->c):c:=EK (b:=λb=>(∀v1,b=[v1]->c)->c) (λa k=>k a rfl) b K4 k
theorem rep2(r:ao y [a,b] c){d:Prop}(k:∀v1 v2,c=[v1,v2]->d):d:=ym (c:=λc=>(∀v1 v2,c=[v1,v2]->d)->d) (λa b k=>k a b rfl) c K4 k
theorem Lp(r:ao y [a,b,c,d] f){e:Prop}(k:∀v1 v2 v3 v4,f=[v1,v2,v3,v4]->e):e:=LO (e:=λf=>(∀v1 v2 v3 v4,f=[v1,v2,v3,v4]->e)->e) (λa b c d k=>k a b c d rfl) f K4 k
theorem Kk(r:ao y [a,b,c,d,i] f){e:Prop}(k:∀v1 v2 v3 v4 v5,f=[v1,v2,v3,v4,v5]->e):e:=MF (f:=λf=>(∀v1 v2 v3 v4 v5,f=[v1,v2,v3,v4,v5]->e)->e) (λa b c d i k=>k a b c d i rfl) f K4 k
theorem KH(r:ao y (a::b::f) c)(h:S8=5){d:Prop}(k:∀v1 v2 v3 v4 v5 v6 v7,aw y a v1->aw y b v2->ao y f [v3,v4,v5,v6,v7]->c=[v1,v2,v3,v4,v5,v6,v7]->d):d:=ib (NL:=λc=>(∀v1 v2 v3 v4 v5 v6 v7,aw y a v1->aw y b v2->ao y f [v3,v4,v5,v6,v7]->c=[v1,v2,v3,v4,v5,v6,v7]->d)->d) (λv1 c q r=>ib (NL:=λc=>(∀g v2 v3 v4 v5 v6 v7,aw y a g->aw y b v2->ao y f [v3,v4,v5,v6,v7]->v1::c=[g,v2,v3,v4,v5,v6,v7]->d)->d) (λv2 c q2 r k=>MF (f:=λi=>c=i->d) (λv3 v4 v5 v6 v7 e=>by subst e;exact k v1 v2 v3 v4 v5 v6 v7 q q2 r rfl) c (r.length.trans h) rfl)) k
variable{t:J Z}
theorem Hh{T:J (Z×NameKind)}{Q:Y_->Z->Prop}(h:(t.all λx=>decide (T.lookup x=some .local))=true):∀a,∀x∈t,T.lookup x=some .local\/Q a x:=λO x hx=>.inl (Zj (Ox h x hx))
theorem e7(h:(t.all λf=>decide (XX f=Zaa))=true):∀f,t.contains f=true->XX f=Zaa:=λf a=>Zj (Ox h f (List.contains_iff_mem.mp a))
theorem rq(h:(t.all λf=>decide (XX f=some .local))=true):∀z∈t,aM A z:=λz a=>.inl (Zj (Ox h z a))
def JN(X:Cx)(A:XY)(f:C')(m:ZaV)(g:J Z)(i:ZaV)(c:GH)(WE:J Z)(j:ZaV):Prop:=∀y G d k,aA X y c G->ao y m d->ao y i k->ZU YH A (S7 f ⟨d,g.zip k⟩) (λb s=>∃a e,bG y a/\aA X a c s/\b=WQ e/\ao a j e) bz G
def iE(X:Cx)(A:XY)(f:ZP)(m:ZaV)(b:J Z)(c:ZaV)(d:GH)(K:MV->GH->Prop):Prop:=∀y G a k,aA X y d G->ao y m a->ao y c k->U7 YH A (.call f ⟨a,b.zip k⟩) (RC X y K) G
theorem iE.call(h:iE X m f a [] [] E g):b9 X m f a E g:=λb s c S r=>h b s c [] S r .nil
theorem pV(S:Zah)(hg:f.globals=W2)(u:f.builtins=We)(w:f.scope.kind=.function)(hn:t.Nodup)(r:ao y l d)(A:∀B,∀x∈t,US x=some .local\/(US x=Zbm/\((C_ (B+1) f.scope.names []).lookup x).isSome=true))(x:InCallC G (W7 f ZZ fa).locals (bindL (W7 f ZZ fa).kindOf (t.zip d) λO=>none) (W7 f ZZ fa).cells (bindC (W7 f ZZ fa).kindOf (t.zip d) λO=>none) s):ak X y (W7 f ZZ fa) (t.zip l) E s:=by
  walk_at"6";have g:=x.toInCall.fresh;obtain⟨C,D,rfl⟩:=x.toInCall.same;have F:aA X y E {G with X_:=C,Wf:=D}:=RH (x.toInCall.keep);have p:∀a o,ZZ<=a->¬y a o:=λa o I q=>Zc (XN (Dp a o q)) (Wg I);refine⟨F,⟨w,hg,u,⟨_,x.toInCall.ns,λb mv hy k=>(um _ t l d _ (λO=>s') hn r b mv hy).1 k⟩,λb c j=>⟨_,x.cell b c j,λmv hy k=>(um _ t l d (λO=>s') _ hn r b mv hy).2 k⟩,λb mv hy=>?_,⟨S.fresh g,λo=>p _ o g,S.hU g⟩,λb c j=>?_,λb z c hy M=>?_⟩⟩
  . have hm:b∈t:=(fo (Vi hy)).1;walk_at"n";refine(A ZZ b hm).elim (λq=>?_) λYA=>?_;.exact .inl q
    .obtain⟨q,N⟩:=YA;obtain⟨c,e⟩:=e3 N;exact .inr ⟨.inl q,c,e⟩
  .have m:=(λn i hm=>Xa (U' g (x.above n i hm)):∀n i,(n,i)∈(W7 f ZZ fa).cells->ZZ<=i) b c (Vi j);exact⟨S.fresh m,S.hU m,λO o=>p _ o m⟩
  .exact name_of_addr x.apart (Vi hy) (Vi M)
variable{NZ:J V4}
theorem iE.body(b:Zcc)(WE:J Z)(z:Yz fa=some u)(C:fa≠t7)(hd:u.data=.func f)(D:G' f.code f.qualname)(F:f.code≠.ref t7)(I:f.body=.stmts NZ)(M:f.closure=[])(hg:f.globals=W2)(N:f.builtins=We)(Q:JN X Ut f V PM PN E WE PR)(hn:Sx)(p:∀n,∀x∈WE,US x=some .local\/(US x=Zbm/\((C_ (n+1) f.scope.names []).lookup x).isSome=true))(room:G_<K3)(h:∀n,let A:=W7 f n fa;EF X (Sg A) A ZcV (WQ PR) E (qI g))(PS:Z3 (f.scope.isCoroutine=false) aR)(PT:Z3 (f.scope.isGenerator=false) aR)(t:Z3 (f.scope.kind=.function) aR):iE X m ZaA V PM PN E g:=λd s PW PX S PY PZ=>by
 walk_at"k";have P0:∀d s,aA X d E s->s.heap.CodeRec f.code f.qualname:=λd s S=>by
  obtain⟨c,o,P2,P4,e,P5,q⟩:=D;exact⟨c,o,P2,P4,e,Tu c o P5 (by intro P6;subst P6;exact F e),q⟩
 refine codeAny_call_function room (Tu fa u z C) hd PS PT I (P0 _ _ S) ?_;refine ZS (Q d s PW PX S PY PZ) (λQf P7 q=>?_) λO O q=>Vr;walk_at"c";obtain⟨P8,w,a,P9,YA,Qa⟩:=q;rw[YA];rw[M];refine cb t (λx hx=>p _ x.1 ((λx hx=>rY WE w x.1 (Yu ⟨x,hx,rfl⟩):∀x∈WQ w,x.1∈WE) x hx)) λA he Qg x=>?_;subst he;have y:=pV (fa:=fa) P9 hg N t hn Qa p x;refine⟨y.g.lim b,codeAny_func ?_⟩;walk_at"c";refine ZS (h P7.heap.objs.size P8 _ y) (λQh Qi q=>?_) λO O q=>Vr;obtain⟨i,Qb,Qj,G,j,r,l,k⟩:=q;cases Qb with|next=>cases r;exact⟨_,i,.none,G,rfl,Xb j,aE ..,l.g,k⟩|brk=>cases r;exact⟨_,i,.none,G,rfl,Xb j,aE ..,l.g,k⟩|cont=>cases r;exact⟨_,i,.none,G,rfl,Xb j,aE ..,l.g,k⟩|e4 Qc=>obtain⟨Qd,rfl,Qe⟩:=r;exact⟨Qd,i,Qc,G,rfl,Xb j,Qe,l.g,k⟩
theorem b9.body(b:Zcc)(WE:J Z)(e:Yz fa=ZbI)(j:fa≠t7)(hd:i.data=.func f)(l:G' f.code f.qualname)(n:f.code≠.ref t7)(o:f.body=.stmts NZ)(p:f.closure=[])(hg:f.globals=W2)(q:f.builtins=We)(t:∀a:Zc7,Zx=YZ->S7 f ⟨a,[]⟩=Ye (WQ a))(hn:Sx)(D:x_=YZ)(u:∀d,∀x∈WE,US x=some .local\/(US x=Zbm/\((C_ (d+1) f.scope.names []).lookup x).isSome=true))(room:G_<K3)(h:∀d,let A:=W7 f d fa;EF X (Sg A) A ZcV (WQ c) E (qI g))(w:Z3 (f.scope.isCoroutine=false) aR)(y:Z3 (f.scope.isGenerator=false) aR)(z:Z3 (f.scope.kind=.function) aR):b9 X m ZaA c E g:=(iE.body (PM:=[]) (PN:=[]) b WE e j hd l n o p hg q (λC s a k S r F=>by
  show ZU _ _ (S7 f ⟨a,[]⟩) _ _ _;rw[t a K4];exact Z5 ⟨C,a,.refl _,S,rfl,r⟩) hn u room h w y z).call
theorem s_(b:Zcc)(n:XX f=Zaa)(hv:V0 f=some ZaA)(p:Yz fa=Zao)(t:fa≠t7)(hd:c.data=.func u)(h:EA X m A (i::d) o E λe w=>b9 X m ZaA e w g)(x:Z3 ((f==("__debug__"))=false) aD)(y:Z3 (∀args,ZG (.Call (.Name f l) args [] Yl) A=(do OS Yl (<-ZG (.Name f l) A) [] (UJ Yl (Zr args A)) (backToKw Yl (keywordEach [] A)))) aI)(he:Z3 (gH A i d) aR):EV X m A (ZG (.Call (.Name f l) (i::d) [] Yl) A) o E g:=λM s S=>by
 walk_at"a";refine sL ?_ (y _);walk_at"a";refine(mi (g:=λz w=>z=.raw ZaA/\w=E) b n hv ⟨rfl,rfl⟩ x).use S λN Q V mv G a r C k=>?_;clear S;obtain⟨rfl,rfl⟩:=k;rw[r];refine callWith_def (o:=c) (fd:=u) hd ((h Yl).use C λPM PN PR e PS D F j I=>⟨j.g.base fa c p t,?_⟩) he;exact ZS (I.ev j F) (λO O q=>l' (Xb D)) λO O q=>q
def listIn:Zs MO->Zs ZaV|some (.list m)=>some m|_=>none
def cf(G:GH):MV->Zs ZaV|.seq c m=>if c=.type "list"then some m else none|.raw Zag=>listIn (G a)|_=>none
theorem aF(G:GH)(m:ZaV):cf G (.lst m)=Zcg:=rfl
theorem dg(h:b a=Zbf):cf b Zag=Zao:=Zq listIn h
theorem aw.int(r:aw y ZaN a):∃t,a=.int i t:=r
theorem aw.str(r:aw y (.str x) a):∃t,a=.str x t:=r
theorem aw.raw(r:aw y (.raw u) a):a=u:=r
theorem aw.seq(r:aw y (.seq c d) f):∃a b n,f=Zag/\y a (X8 c b n)/\ao y d K2:=r
theorem aZ{α β:Type}{o:Zs α}{f:α->Zs β}{r:β}(h:o.bind f=ZaW){a:Prop}(k:∀x,o=Zak->f x=ZaW->a):a:=by cases o with|none=>cases h|some x=>exact k x rfl h
theorem yW{α β:Type}{o:Zs α}{f:α->β}{r:β}(h:o.map f=ZaW){a:Prop}(k:∀x,o=Zak->f x=r->a):a:=by cases o with|none=>cases h|some x=>exact k x rfl (ZW h)
theorem CK{α:Type}{o b:Zs α}{r:α}(h:o.or b=ZaW){a:Prop}(k:o=ZaW->a)(c:b=ZaW->a):a:=by cases o with|none=>exact c h|some x=>exact k h
theorem mr{α:Type}[Oe c]{o:Zs α}{r:α}(h:(if c then o else none)=ZaW){b:Prop}(k:c->o=ZaW->b):b:=by
 by_cases a:c;.rw[ZT a]at h;exact k a h
 .rw[ZY a]at h;cases h
theorem JL{α:Type}[Oe c]{o:Zs α}{r:α}(h:(if c then none else o)=ZaW){b:Prop}(k:¬c->o=ZaW->b):b:=by
 by_cases a:c;.rw[ZT a]at h;cases h
 .rw[ZY a]at h;exact k a h
theorem ax{α:Type}{x:α}{a:Prop}(h:none=Zak):a:=nomatch h
theorem uo:∀{o:Zs MO},listIn o=Zax->o=some (.list a):=λ{o}=>by cases o with|none=>exact ax|some o=>induction o with|list=>exactλh=>Zq (λl=>some (MO.list l)) (ZW h)|_=>exact ax
variable{NT:ZP->Prop}
theorem jF(h:cf E d=Za8)(S:Zab)(r:aw y d i)(k:∀a b n,ZH a=some Zat->ao y f K2->NT Zag):NT i:=by cases d with
 |raw u=>induction u with
  |ref a=>
   rw[Vh];obtain⟨b,n,j,rl⟩:=Wd _ _ (uo h);exact k a b n j rl|_=>exact ax h
 |int=>exact ax h|str=>exact ax h|seq c m=>
  exact mr h λl e=>by
   clear h;cases e;subst l;obtain⟨a,b,n,YA,p,rl⟩:=l_;rw[YA];exact k a b n (Yd _ _ p) rl
theorem listAt(h:cf E f=ZaD)(S:Zab)(r:aw y f c):∃a b n,c=Zag/\ZH a=some Zat/\ao y d K2:=jF (NT:=λc=>∃a b n,c=Zag/\ZH a=some Zat/\ao y d K2) h S r λa b n g rl=>⟨a,b,n,rfl,g,rl⟩
def intOf:MV->Zs Zw|.int i=>some i|_=>none
def strOf:MV->Zs Z|.str x=>some x|_=>none
def jB{β:Type}(m c:MV)(f:Zw->Zw->Zs β):Zs β:=(intOf m).bind λa=>(intOf c).bind λb=>f a b
def Ei{β:Type}(m c:MV)(f:Z->Z->Zs β):Zs β:=(strOf m).bind λa=>(strOf c).bind λb=>f a b
theorem rU(h:intOf a=ZbI)(r:aw y a b)(k:∀t,NT (.int i t)):NT b:=by induction a using x6 with|int j=>cases h;obtain⟨t,rfl⟩:=g5;exact k t|_=>exact ax h
theorem Ay(h:strOf a=ZbI)(r:aw y a b)(k:∀t,NT (.str i t)):NT b:=by induction a using x6 with|str j=>cases h;obtain⟨t,rfl⟩:=u0;exact k t|_=>exact ax h
theorem eS{f:Zw->Zw->Zs β}{q:β}(h:jB i l f=some q)(r:aw y i c)(e:aw y l d)(C:ZP->ZP->Prop)(k:∀a b t u,f a b=some q->C (.int a t) (.int b u)):C c d:=aZ h λa g h=>aZ h λb hb h=>rU (NT:=λc=>C c d) g r λt=>rU hb e λu=>k a b t u h
theorem uK{f:Z->Z->Zs β}{q:β}(h:Ei i l f=some q)(r:aw y i c)(e:aw y l d)(C:ZP->ZP->Prop)(k:∀a b t u,f a b=some q->C (.str a t) (.str b u)):C c d:=aZ h λa g h=>aZ h λb hb h=>Ay (NT:=λc=>C c d) g r λt=>Ay hb e λu=>k a b t u h
theorem aq(g:rt a=some Zat):NH.IsList a b:=⟨_,g,rfl,n,rfl⟩
variable{Po:Ud ZP}
theorem ao.size(r:ao y a Po.toList):Po.size=Zx:=by rw[<-K4,Yv]at⊢
theorem PV.grow(S:Zab)(k:∀a b,ZH a=Zaq->c.get? a=Zaq)(r:aw y mv d)(q:g mv E):PV X A y o g d {G with X_:=c,Wf:=n}:=⟨y,mv,E,Zbs,r,RH k,q⟩
theorem PV.newList(S:Zab)(r:ao y d mw)(q:g (.lst d) E):PV X A y o g ZaB {G with X_:=Zm (X8 Zae f 0),Wf:=n}:=by
 obtain⟨e,a,b,c⟩:=S.iG (T:="list") r;exact⟨e,_,E,a,b,by simpa using b' n,q⟩
theorem PV.Ge(S:Zab)(r:ao y d mw)(q:g (.tup d) E):PV X A y o g ZaB {G with X_:=Zm (X8 Zac f 0),Wf:=n}:=by
 obtain⟨e,a,b,c⟩:=S.iG (T:="tuple") r;exact⟨e,_,E,a,b,by simpa using b' n,q⟩
def l7(b:Zw):Y0:=decide (Builtin.Int.intBits b<=64)
def uw(G:GH)(o:l6)(m c:MV):Zs MV:=match o with|.Add=>(jB m c λa b=>some (.int (a+b))).or ((Ei m c λx y=>if ZO+l5<=ZK then some (.str (x++y))else none).or ((cf G m).bind λd=>(cf G c).bind λys=>if YG+TX<=ZK then some (.lst (d++ys))else none))|.Sub=>jB m c λa b=>some (.int (a-b))|.Mult=>jB m c λa b=>if l7 a||l7 b then some (.int (a*b))else none|.FloorDiv=>jB m c λa b=>if b=0 then none else if VB a b=false then some (.int (a.fdiv b))else none|.Mod=>jB m c λa b=>if b=0 then none else some (.int (a.fmod b))|_=>none
structure Rm(X:Cx)(A:XY)(n:U):Prop where
 depth:A.depth+n<=900
 units:A.units+20*n<=9000
 handled:A.handled=none
theorem Rm.in1(h:Rm X m (n+1)):Rm X Ut n:=⟨by have:=l4;simp only[Around.in1_depth];(exact aV 0x1fc8e020e47083841 [_,_,_] this),by have:=lx;simp only[Around.in1_units];(exact a9 0x1fc8e12141c1c8e1283841 [20,20] [_,_,_] [] this),rk⟩
theorem Rm.deeper(h:Rm X m (n+1))(YX:SM):Rm X (Sg YX) n:=⟨by have:=l4;show G_+1+n<=900;(exact GS this),by have:=lx;show OY+3+20*n<=9000;(exact a9 0x1fc8e12141e1c8e1283841 [20,3,20] [_,_,_] [] this),rk⟩
theorem Rm.le(h:Za2)(k:a<=n):Rm X m a:=⟨by have:=l4;(exact bw 0x7ff91c081c88991c041 [_,_,_,_] this k),by have:=lx;(exact cF 0x1ffe470910391132384841 [20,20] [_,_,_,_] [] this k),rk⟩
theorem Rm.room(h:Za2):G_<K3:=by have:=l4;show G_<1000;exact a9 0x1fd3c397c041 [900,1000] [_,_] [] this
theorem Rm.cl(h:Za2):OY<cLine:=by have:=lx;show OY<9900;exact a9 0x1fd3c397c041 [9000,9900] [_,_] [] this
theorem kE(e:Zak=ZaW)(k:g r E):g x E:=ZW e▸k
theorem y5(h:uw E f q mb=ZbI)(S:Zab)(r:aw y q d)(c:aw y mb l)(k:g i E):ZU YH m (binaryOp f d l) Zad bz G:=by
 walk_at"a";let C:l6->ZP->ZP->Prop:=λf d l=>ZU YH m (binaryOp f d l) Zad bz G;induction f with
 |Add=>
  walk_at"a";exact CK h (λh=>eS h r c (C .Add) λa b t u e=>add_int (U0 S (a0 ..) Zbt)) λh=>CK h (λh=>uK h r c (C .Add) λa b t u e=>mr e λhs e=>PyProof.Rows.add_str (λs w=>U0 S (bp ..) Zbt) hs) λh=>aZ h λx hx h=>aZ h λys hy h=>mr h λhs e=>jF (NT:=λd=>C .Add d l) hx S r λa z n p i=>jF hy S c λB D F g' j=>PySem.P.add_list p g' (PV.newList S (by rw[Y1];exact i.append j) Zbt) (by rw[b_,j.size];exact hs)|Od=>exact eS h r c (C .Sub) λa b t u e=>PyProof.Rows.sub_int (U0 S (a0 ..) Zbt)|Mult=>exact eS h r c (C .Mult) λa b t u e=>mr e λhs e=>PyProof.Rows.mul_int (U0 S (a0 ..) Zbt) ((Bool.or_eq_true_iff.mp hs).elim (λhs=>.of_left (Zj hs)) λhs=>.of_right (Zj hs))|FloorDiv=>exact eS h r c (C .FloorDiv) λa b t u e=>JL e λhb e=>mr e λhp e=>PyProof.Rows.floordiv_int hb (U0 S (a0 ..) Zbt) (.inl hp)|Mod=>exact eS h r c (C .Mod) λa b t u e=>JL e λhb e=>PyProof.Rows.mod_int' hb (U0 S (a0 ..) Zbt)|_=>exact ax h
def vh(m c:MV):Zs Y0:=(jB m c λa b=>some (a==b)).or (Ei m c λx y=>some (x==y))
def all2(f:MV->MV->Zs Y0)(l c:ZaV):Zs Y0:=VH (λd k m=>m.head?.bind λe=>(f d e).bind λa=>(k m.tail).bind λb=>some (a&&b)) (λm=>if m=[]then some true else none) c
def CE:MV->Zs ZaV|.seq c m=>if c=.type "tuple"then some m else none|_=>none
def eq1(m a:MV):Zs Y0:=(vh m a).or ((CE m).bind λb=>(CE a).bind λc=>all2 vh b c)
def El(x ys:ZaV):Zs Y0:=if ZO=TX then all2 eq1 x ys else some false
def jI(x:MV)(l:ZaV):Zs Y0:=VH (λy k=>(vh y x).bind λa=>k.bind λb=>some (a||b)) (some false)
def isNone:MV->Y0|.raw a=>a==.none|_=>false
def Az:MV->Y0|.raw .none=>true|_=>false
def yj(G:GH)(m a:MV):Zs Y0:=(vh m a).or ((cf G m).bind λx=>(cf G a).bind λys=>El x ys)
def vF(G:GH)(o:CmpOp)(m c:MV):Zs Y0:=match o with|.Lt=>jB m c λa b=>some (decide (a<b))|.LtE=>jB m c λa b=>some (decide (a<=b))|.Gt=>jB m c λa b=>some (decide (b<a))|.GtE=>jB m c λa b=>some (decide (b<=a))|.Eq=>yj G m c|.NotEq=>(yj G m c).map (!.)|.In=>(cf G c).bind (jI m)|.NotIn=>((cf G c).bind (jI m)).map (!.)|.Is=>if Az c then some (isNone m)else none|.IsNot=>if Az c then some (!isNone m)else none
inductive pk(f:MV->MV->Zs Y0):ZaV->J MV->Y0->Prop where|Yk:pk f [] [] true|Zp{m c:MV}{d e:ZaV}{a b:Y0}(h:f m c=Zax)(t:pk f d e b):pk f (m::d) (c::e) (a&&b)
theorem uu:∀(d m:ZaV){b:Y0},all2 f d m=Zaq->pk f d m b:=by
 intro I;induction I with
 |Yk=>
  intro m b h;exact mr h λe h=>by rw[e];exact ZW h▸.nil|Zp g d i=>
  intro j;cases j with
  |Yk=>
   intro b h;exact ax h|Zp k m=>
   intro b h;exact aZ (show(f g k).bind (λa=>(all2 f d m).bind λb=>some (a&&b))=some b from h) λa l h=>aZ h λc n h=>ZW h▸.cons l (i m n)
theorem pk.len(h:pk f a c b):Zx=YZ:=by induction h with|Yk=>rfl|Zp _ _ i=>exact Zq (.+1) i
theorem pk.get(h:pk f c d b):∃e:U->Y0,b=(Zi YZ).all e/\∀i a m,c[i]?=Zax->d[i]?=Zcg->f a m=some (e i):=by
 walk_at"b";induction h with|Yk=>exact⟨λO=>true,rfl,λi a m h=>ax h⟩|@Zp a m c d g b h _ j=>
  obtain⟨e,he,k⟩:=j;refine⟨λi=>Ol g (λi O=>e i) i,?_,λi a m=>Sz i (λh1 h2=>?_) λi=>k i a m⟩;.rw[YE,Sf,List.all_cons,List.all_map,he];rfl
  .rw[<-ZW h1];rw[<-ZW h2];exact h
theorem wm(h:vh i k=Zaq)(r:aw y i d)(g:aw y k f):QO m G d f b:=CK h (λh=>eS h r g (λd f=>QO m G d f b) λa c t u e=>ZW e▸SeqAt.EqAt.int_int _ _ _ _) λh=>uK h r g (λd f=>QO m G d f b) λa c t u e=>ZW e▸SeqAt.EqAt.str_str _ _ _ _
theorem Cc(h:vh i k=Zaq)(r:aw y i d)(g:aw y k d):b=true:=CK h (λh=>eS h r g (λd f=>d=f->b=true) (λa c t u e q=>(ZW e).symm.trans (c_ (Value.int.inj q).1)) rfl) λh=>uK h r g (λd f=>d=f->b=true) (λa c t u e q=>(ZW e).symm.trans (c_ (Value.str.inj q).1)) rfl
theorem cM(g:rt a=some ZcO):NH.IsTuple a b:=⟨_,g,rfl,n,rfl⟩
theorem pk.same(g:∀{m d b c},f m d=Zaq->aw y m c->aw y d c->b=true)(h:pk f k l b):∀{a:Zc7},ao y k a->ao y l a->b=true:=by induction h with|Yk=>exactλO O=>rfl|Zp h _ i=>
  exactλj r=>ao.cS (NL:=λa=>ao y _ a->_) j (λc a x n r=>ao.cS (NL:=λus=>us=c::a->_) r (λq s o p e=>by
   clear r;cases e;rw[g h x o,i n p];rfl) rfl) r
theorem tupK(h:CE d=Za8)(r:aw y d i)(k:∀a b n,y a ZcO->ao y f K2->NT Zag):NT i:=by induction d using x6 with
 |seq c m=>
  exact mr h λg e=>by
   clear h;cases e;subst g;obtain⟨a,b,n,YA,p,rl⟩:=l_;rw[YA];exact k a b n p rl|_=>exact ax h
theorem ao.at(r:ao y b Po.toList)(h:a<Po.size){c:Prop}(k:∀m,b[a]?=Zcg->aw y m Po[a]->c):c:=by
 have e:b[a]?=some (b[a]'(by rw[<-b7];exact h)):=Z6 _;obtain⟨g,d,f⟩:=r.get a e;rw[TM,XB h]at d;exact k _ e (ZW d▸f)
theorem FJ(S:Zah)(s:OY<cLine)(h:eq1 i k=Zaq)(r:aw y i d)(c:aw y k l):QO m G d l b:=CK h (λh=>wm h r c) λh=>aZ h λu hm h=>aZ h λw f h=>tupK (NT:=λd=>QO m G d l b) hm r λa x n p rl=>tupK (NT:=λd=>QO m G _ d b) f c λt z A o g=>by
    have h:=uu _ _ h;by_cases q:a=t;.subst q;cases(Dp _ _ p).symm.trans (Dp _ _ o);rw[h.same (λh r c=>Cc h r c) rl g];exact SeqAt.EqAt.same _
    .obtain⟨e,YA,he⟩:=h.get;rw[YA];have:=SeqAt.RcAt.tuples (A:=m) (s:=G) (e:=e) (cM (Dp _ _ p)) (cM (Dp _ _ o)) s λj h1 h2=>rl.at h1 λi hm r=>g.at h2 λk f c=>wm (he j _ _ hm f) r c;rw[W0,g.size,sz,ls,Ve,Bool.and_true]at this;rw[sz];exact SeqAt.EqAt.of_refs q this
theorem Fj(S:Zah)(o:OY+1<cLine)(h:El x ys=Zaq)(g:ZH a=some (X8 (.type "list") k n))(g':ZH q=some (X8 (.type "list") c s))(r:ao y x k.toList)(d:ao y ys mu):SeqAt.RcAt m G Zag (.ref q) b/\SeqAt.RcNeAt m G Zag (.ref q) (!b):=by
  have l:=Nat.lt_of_succ_lt o;unfold El at h;by_cases hl:ZO=TX
  . rw[ZT hl]at h;obtain⟨e,YA,he⟩:=(uu _ _ h).get;rw[YA];have f:k.size=K1:=by rw[b7,Yy,hl]
    have i:∀j h1(h2:j<K1),QO Ut G k[j] c[j] (e j):=λj h1 h2=>r.at h1 λt hm r=>d.at h2 λu p d=>FJ S o (he j _ _ hm p) r d;rw[<-b7];exact⟨SeqAt.RcAt.lists (aq g) (aq g') f l i,SeqAt.RcNeAt.lists (aq g) (aq g') f l i⟩
  . rw[ZY hl]at h;obtain rfl:=ZW h;have f:(k.size !=K1)=true:=by rw[b7,Yy];exact b6 hl
    exact⟨SeqAt.RcAt.lists_lengths (aq g) (aq g') f l,SeqAt.RcNeAt.lists_lengths (aq g) (aq g') f l⟩
theorem yh:∀(ys:ZaV){b:Y0},jI x ys=Zaq->∀y∈ys,∃c,vh y x=Zao:=by
 intro I;induction I with
 |Yk=>
  intro _ _ _ hy;exact nomatch hy|Zp y ys d=>
  intro b h z f;exact aZ h λa g h=>aZ h λc i h=>(ZI f).elim (λe=>⟨a,e▸g⟩) (d i z)
section
theorem DM(n:aw y q f)(r:aw y k f)(h:vh q x=Zao)(d:vh k x=ZbI):c=i:=CK h (λh=>aZ h λa j h=>aZ h λb hb h=>rU (NT:=λf=>aw y k f->c=i) j n (λt r=>CK d (λd=>aZ d λl g d=>aZ d λo m d=>rU (NT:=λf=>Value.int a t=f->c=i) g r (λu e=>by cases e;obtain rfl:=ZW (hb.symm.trans m);exact ZW (m_ d)) rfl) λd=>aZ d λl g O=>Ay (NT:=λf=>Value.int a t=f->c=i) g r (λu e=>nomatch e) rfl) r) λh=>aZ h λa j h=>aZ h λb hb h=>Ay (NT:=λf=>aw y k f->c=i) j n (λt r=>CK d (λd=>aZ d λl g O=>rU (NT:=λf=>ri a t=f->c=i) g r (λu e=>nomatch e) rfl) λd=>aZ d λl g d=>aZ d λo m d=>Ay (NT:=λf=>ri a t=f->c=i) g r (λu e=>by cases e;obtain rfl:=ZW (hb.symm.trans m);exact ZW (m_ d)) rfl) r
theorem Fm:∀(ys:ZaV){d:Zc7}{b:Y0},ao y ys d->jI x ys=Zaq->(∀e m c,m∈ys->aw y m e->vh m x=Zao->f e=c)->d.any f=b:=by
 intro I;induction I with
 |Yk=>
  intro d b r h _;rw[r.wb];exact ZW h|Zp m o g=>
  intro d b r h k;exact aZ h λa i h=>aZ h λc j h=>ao.cS (NL:=λd=>d.any f=b) r λl d n rl=>by rw[UI,k l m a Y5 n i,g rl j λe m c hm=>k e m c (ZX _ hm)];exact ZW h
theorem Ia:∀(neg:Y0),g (.bool (b !=neg)) E->g (.bool (U3 neg (!b) b)) E|false,k=>by rw[Bool.bne_false]at k;exact k|true,k=>by rw[Bool.bne_true]at k;exact k
open Classical in theorem tq{x m:MV}{ys:J MV}{b:Y0}{f v:ZP}{K:MV->GH->Prop}(hs:cf F m=some ys)(h:jI x ys=some b)(S:ak u P YX l F s)(w:aw P x f)(r:aw P m v)(neg:Y0)(k:K (.bool (b !=neg)) F):ZU u.M T (C2 (if neg then .NotIn else .In) f v) (PV u YX P l K) bz s:=jF (NT:=λv=>ZU u.M T (C2 (if neg then .NotIn else .In) f v) (PV u YX P l K) bz s) hs S r λa j n g rl=>by
 let e:ZP->Y0:=λy=>decide (∃m,m∈ys/\aw P m y/\vh m x=some true);have y':∀y m c,m∈ys->aw P m y->vh m x=Zao->e y=c:=λy m c hm hr d=>by cases c with
  |false=>exact Wx λq=>Vr λB q=>nomatch DM hr q.2.1 d q.2.2|true=>exact Yr ⟨m,hm,hr,d⟩
 have he:∀y,y∈j->QO T.in1 s y f (e y):=λy hy=>by
  obtain⟨i,z,YA⟩:=Array.mem_iff_getElem.mp hy;rw[<-YA];refine rl.at z λm hm o=>?_;obtain⟨c,d⟩:=yh ys h m (YN hm);rw[y' _ m c (YN hm) o d];exact wm d o w
 have p:j.any e=b:=by rw[<-Array.any_toList];exact Fm ys rl h y'
 have t:=Ia neg k;cases neg with|false=>exact SeqAt.in_listAt e (aq g) he (by rw[p];exact Sh S (aE ..) t)|true=>exact SeqAt.notIn_listAt e (aq g) he (by rw[p];exact Sh S (aE ..) t)
theorem kq(r:aw y b d):(d==.none)=isNone b:=by cases b with|raw u=>rw[Vh];rfl|int i=>obtain⟨t,rfl⟩:=g5;rfl|str x=>obtain⟨t,rfl⟩:=u0;rfl|seq c m=>obtain⟨a,e,n,rfl,_⟩:=l_;rfl
theorem qB(h:Az a=true):a=.raw .none:=by induction a using x6 with
 |raw b=>induction b with|none=>rfl|_=>exact Vd h
 |_=>exact Vd h
theorem qp(j:OY+1<cLine)(h:yj E l s=Zaq)(S:Zab)(r:aw y l d)(i:aw y s f)(neg:Y0)(p:g (.bool (b !=neg)) E):ZU YH m (C2 (if neg then .NotEq else .Eq) d f) Zad bz G:=by
  let C:ZP->ZP->Prop:=λd f=>ZU YH m (C2 (if neg then .NotEq else .Eq) d f) Zad bz G;have k:=Sh S (aE y (.bool (U3 neg (!b) b))) (Ia neg p);refine CK h (λh=>CK h (λh=>eS h r i C λa c t u e=>?_) λh=>uK h r i C λa c t u e=>?_) λh=>aZ h λx hx h=>aZ h λys hy h=>jF (NT:=λd=>C d f) hx S r λa B n w rl=>jF hy S i λD F I g' z=>?_;.cases e;cases neg with
    |false=>exact PyProof.Rows.eq_int k|true=>exact PyProof.Rows.ne_int k
  .cases e;cases neg with
    |false=>exact PyProof.Rows.eq_str k|true=>exact PyProof.Rows.ne_str k
  .have q:=Fj iw j h w g' rl z;cases neg with|false=>exact q.1 _ _ _ _ k|true=>exact q.2 _ _ _ _ k
theorem jf(rm:Za2)(h:vF E f s x=Zaq)(S:Zab)(r:aw y s l)(d:aw y x q)(i:g (.bool b) E):ZU YH m (C2 f l q) Zad bz G:=by
 walk_at"a";have p:OY+1<cLine:=by have:=rm.units;show OY+1<9900;exact a9 0x7f4f838397c041 [9000,9900] [_,_] [] this
 let C:CmpOp->ZP->ZP->Prop:=λf l q=>ZU YH m (C2 f l q) Zad bz G;have k0:g (.bool (b !=false)) E:=by rw[Bool.bne_false];exact i
 have k:=Sh S (aE y (.bool b)) i;walk_at"a";cases f with
 |Lt=>exact eS h r d (C .Lt) λa c t u e=>by cases e;exact PyProof.Rows.lt_int k|LtE=>exact eS h r d (C .LtE) λa c t u e=>by cases e;exact PyProof.Rows.le_int k|Gt=>exact eS h r d (C .Gt) λa c t u e=>by cases e;exact PyProof.Rows.gt_int k|GtE=>exact eS h r d (C .GtE) λa c t u e=>by cases e;exact PyProof.Rows.ge_int k|Eq=>exact qp p h S r d false k0|NotEq=>exact yW h λc j e=>qp p j S r d true (by rw[Bool.bne_true,e];exact i)|In=>exact aZ h λys hy hb=>tq hy hb S r d false k0|NotIn=>exact yW h λc j e=>aZ j λys hy hb=>tq hy hb S r d true (by rw[Bool.bne_true,e];exact i)|Is=>
  exact mr h λhq e=>by
   cases qB hq;rw[d.raw];exact is_none_gen (by rw[kq r,ZW e];exact k)|IsNot=>
  exact mr h λhq e=>by
   cases qB hq;rw[d.raw];exact isnot_none_gen (by rw[kq r,ZW e];exact k)
def lC(G:GH):MV->Zs Y0|.int i=>some (i !=0)|.str x=>if ZO<=ZK then some (decide (ZO≠0))else none|.raw .none=>some false|.raw (.bool b)=>some b|a=>(cf G a).bind λm=>if V_<=ZK then some (!m.isEmpty)else none
theorem Le(h:cf E (.raw (.ref a))=Zaq)(z:Zv<=ZK):lC E (.raw (.ref a))=some (!b.isEmpty):=(Zq (Option.bind . _) h).trans (ZT z)
theorem PB.now(S:Zab)(k:Nj b E):PB X A y o Nj b {G with Wf:=n}:=⟨y,E,Zbs,G1 n,k⟩
theorem e0(S:Zab)(k:Nj b E):PB X A y o Nj b G:=⟨y,E,Zbs,S,k⟩
theorem pZ(S:Zab)(r:aw y f d)(k:Nj b E)(h:((cf E f).bind λc=>if YZ<=ZK then some (!c.isEmpty)else none)=Zaq):ZU YH m (h8 d) ZcY bz G:=aZ h λc hs h=>mr h λe h=>jF (NT:=λd=>ZU YH m (h8 d) ZcY bz G) hs S r λa i n g rl=>by
  refine wpAny_truthy_list (aq g) (by rw[W0];exact a9 0xfe9f30e5e1 [16777216,9223372036854775808] [_] [] (e:YZ<=16777216)) (PB.now S ?_);have:i.isEmpty=c.isEmpty:=by rw[Bool.eq_iff_iff,Array.isEmpty_iff_size_eq_zero,List.isEmpty_iff_length_eq_zero,W0]
  rw[this,ZW h];exact k
theorem iQ(h:lC E d=Zaq)(S:Zab)(r:aw y d f)(k:Nj b E):ZU YH m (h8 f) ZcY bz G:=by
 walk_at"a";cases d with
 |raw u=>induction u with
  |none=>cases h;cases Vh;exact truthy_none (e0 S k)|bool=>cases h;cases Vh;exact UR (e0 S k)|ref a=>exact pZ S r k h|_=>exact ax h
 |int i=>cases h;obtain⟨t,rfl⟩:=g5;exact PySem.P.truthy_int (e0 S k)|str x=>
  exact mr h λhs e=>by
   obtain⟨t,YA⟩:=u0;rw[YA];refine PySem.P.truthy_str (KU hs) (PB.now S ?_);have:((ZO:Zw)!=0)=decide (ZO≠0):=by
    by_cases hx:ZO=0;.rw[hx];rfl
    .rw[Yr hx];exact b6 λe=>hx (Int.ofNat.inj e)
   rw[this,ZW e];exact k|seq c g=>exact pZ S r k h
end
def l8(G:GH):MV->Zs ZaV|.seq c m=>if c=Zae\/c=.type "tuple"then some m else none|a=>cf G a
def bR(G:GH)(a i:MV):Zs MV:=(intOf i).bind λk=>(l8 G a).bind λm=>if-(2^62)<=k/\k<2^62 then(Vc k V_).bind (m[.]?)else none
def mj(G:GH):MV->Zs U|.str x=>some ZO|m=>(l8 G m).map (·.length)
def kL(G:GH)(f:ZP)(args:ZaV):Zs MV:=match args with|[m]=>if f=.builtin "len"then(mj G m).bind λn=>if n<=ZK then some Zbp else none else if f=.builtin "abs"then(intOf m).bind λi=>some (.int (if i<0 then-i else i))else if f=.builtin "chr"then(intOf m).bind λi=>if 0<=i/\i<=1114111 then some (.str ⟨#[i.toNat]⟩)else none else if f=.type "str"then(intOf m).bind λi=>if p9<1920 then some (.str (WZ (b5 i)))else none else none|[m,c]=>if f=.builtin "divmod"then jB m c λa b=>if b≠0/\b.natAbs<1073741824 then some (.tup [.int (a.fdiv b),.int (a.fmod b)])else none else if f=.builtin "max"then jB m c λa b=>some (.int (if b>a then b else a))else if f=.builtin "min"then jB m c λa b=>some (.int (if b<a then b else a))else none|_=>none
def wu(f:Z):Zs ZP:=if f=("len")then some Zaz else if f=("abs")then some (.builtin "abs")else if f=("chr")then some (.builtin "chr")else if f=("divmod")then some (.builtin "divmod")else if f=("max")then some (.builtin "max")else if f=("min")then some (.builtin "min")else if f=("str")then some Zb8 else none
def RX(b:Zcc):Prop:=∀f a,wu f=Zax->V0 f=none/\Va f=some a
def FZ:g4->Zs MV|.none=>some .none|.bool b=>some (.bool b)|.int i=>some ZaN|.str x=>some (.str x)|_=>none
def BV(x:Z):Y0:=x !=("__debug__")&&x !=("__classdict__")
def jJ(G:GH)(a:Zs MV):Zs MV×Zs Y0:=(a,a.bind (lC G))
set_option backward.match.sparseCases false in def IB:Wy->Zs Z×g4×Y0|.Name x _=>(some x,.none,false)|.Constant c _ _=>(none,c,false)|.Starred _ _=>(none,.none,true)|_=>(none,.none,false)
theorem JB{Q:Wy->Zs Z×g4×Y0->Prop}(name:∀x p,Q (.Name x p) (Zak,.none,false))(g:∀c k p,Q (.Constant c k p) (none,c,false))(star:∀e p,Q (.Starred e p) (none,.none,true))(gS:∀a b c p,Q (.Slice a b c p) (none,.none,false))(XE:∀e,(∀d YX,Zr (e::d) YX=(false,ZG e YX)::Zr d YX)->(∀o f,subscripted e false o f=operate [o,f] (ll o f))->Q e (none,.none,false))(e:Wy):Q e (IB e):=by induction e using Expr.casesOn with|Name x p=>exact name x p|Constant c k p=>exact g c k p|Starred e p=>exact star e p|Slice a b c p=>exact gS a b c p|_=>exact XE _ (λO O=>rfl) λO O=>rfl
def BG(e:Wy):Zs Z:=(IB e).1
def isStar(e:Wy):Y0:=(IB e).2.2
def Hw(c:g4):Zs Zw:=match c with|.int i=>some i|_=>none
def litOf(e:Wy):Zs Zw:=Hw (IB e).2.1
abbrev PQ:=Wy->Zs MV×Zs Y0
def Ga(r:PQ)(d:J Wy):Zs ZaV:=d.foldr (λe k=>if isStar e then none else(r e).1.bind λx=>k.bind λa=>some (x::a)) (some [])
def Mm(r:PQ)(o:BoolOp)(d:J Wy):Zs Y0:=d.foldr (λe k=>(r e).2.bind λc=>if c=(o==.And)then k else some c) (some (o==.And))
def Av{α:Type}:J α->Zs α|[a]=>some a|_=>none
theorem xV{α:Type}{a:α}:∀{l:J α},Av l=Zax->l=[a]|[_],e=>Zq (λa=>[a]) (ZW e)
set_option backward.match.sparseCases false in def Mx(gl:J Z)(l:YS)(G:GH)(r:PQ):PQ|.Constant c _ _=>jJ G (FZ c)|.Name x _=>jJ G (if BV x then VU x else none)|.BinOp a o b _=>jJ G ((r a).1.bind λx=>(r b).1.bind λy=>uw G o x y)|.Compare a ops bs _=>let q:=((Av ops).bind λo=>(Av bs).bind λb=>if OX o b then none else(r a).1.bind λx=>(r b).1.bind λy=>vF G o x y);(q.map .bool,q)|.UnaryOp .Not x _=>((r x).1.bind λj=>(lC G j).map λb=>.bool !b,(r x).2.map (!.))|.UnaryOp .USub e _=>jJ G ((litOf e).bind λi=>some (.int (-i)))|.IfExp t a b _=>((r t).2.bind λc=>if c then(r a).1 else(r b).1,(r t).2.bind λc=>if c then(r a).2 else(r b).2)|.BoolOp o d _=>(none,Mm r o d)|.Subscript j i _=>jJ G ((r j).1.bind λx=>(r i).1.bind λy=>bR G x y)|.Tuple d _ _=>jJ G ((Ga r d).bind λg=>if K5<=ZK then some (.tup g)else none)|.List d _=>jJ G ((Ga r d).bind λg=>if K5<=ZK then some (.lst g)else none)|.Call f (e::d) [] _=>jJ G ((BG f).bind λf=>if sv f then(wu f).bind λk=>(Ga r (e::d)).bind λg=>kL G k g else none)|_=>(none,none)
def pq(gl:J Z)(l:YS)(G:GH):PQ:=Ol (motive:=λO=>PQ) (λO=>(none,none)) (λO r=>Mx gl l G r) 16
abbrev pe(gl:J Z)(l:YS)(G:GH)(e:Wy):Zs MV:=(pq gl l G e).1
abbrev pb(gl:J Z)(l:YS)(G:GH)(e:Wy):Zs Y0:=(pq gl l G e).2
abbrev GD(i:Wy):Prop:=subscripted i false=λo a=>operate [o,a] (ll o a)
theorem kB(h:∀a b p,i≠.Slice a b none p):GD i:=funext λo=>funext λd=>JB (Q:=λi O=>(∀a b p,i≠.Slice a b none p)->subscripted i false o d=operate [o,d] (ll o d)) (λO O O=>rfl) (λO O O O=>rfl) (λO O O=>rfl) (λa b c p h=>(by cases c with|none=>exact Zc rfl (h a b p)|some _=>rfl)) (λO O h O=>h o d) i h
theorem zp(a:0<=k)(h:Vc k n=Zaq):b=k.toNat:=by
 unfold Vc at h;rw[ZY (Int.not_lt.mpr a)]at h;exact mr h λO e=>(ZW e).symm
theorem zO(a:k<0)(h:Vc k n=Zaq):-(n:Zw)<=k:=by
 unfold Vc at h;rw[ZT a]at h;exact mr h λq O=>Lf ((Bool.and_eq_true_iff.mp q).imp Zj Zj)
theorem oN(d:ZH a=some (X8 (.type "list") f n))(rl:ao y i mw)(e:-(2^62)<=k/\k<2^62)(h:(Vc k Xw).bind (i[.]?)=some l)(S:Zab)(hq:g l E)(hs:GD gS):ZU YH m (G0 U2 gS (.ref a) (.int k q)) Zad bz G:=aZ h λj hj hr=>by
  walk_at"a";obtain⟨u,p,r⟩:=h7 j hr;refine tail_any (aq d).typeIs slot_list_getitem.lookup ?_ (Si (Si hs _) _);have c:f[j]?=some u:=lh p;clear hr;by_cases b:0<=k;.rw[zp b hj]at c;exact wpAny_getItem_list (aq d) b (LH e) c (Sh S r hq)
  .have b:=M1 b;have h1:=zO b hj;rw[seqIndex_neg b h1]at hj;obtain rfl:=ZW hj;rw[<-W0]at c h1;exact wpAny_getItem_list_neg (aq d) b h1 (Ll e) c (Sh S r hq)
theorem rQ(b:ZH a=some (X8 (.type "tuple") f n))(rl:ao y c mw)(d:-(2^62)<=k/\k<2^62)(h:(Vc k YZ).bind (c[.]?)=ZaW)(S:Zab)(hq:g r E)(hs:GD gS):ZU YH m (G0 U2 gS (.ref a) (.int k l)) Zad bz G:=aZ h λj hj hr=>by
 obtain⟨u,e,i⟩:=h7 j hr;exact tail_any (T:="tuple") ⟨_,b,rfl⟩ F.slot_tuple_getitem.lookup (PySem.P.getItem_tuple b (a9 0x1fcab0fee9eacab0f [4611686018427387904,4611686018427387904,9223372036854775808] [] [_] d) (a9 0x7f4f5f74f5e56a [4611686018427387904,9223372036854775808] [] [_,_] d) (by rw[W0];exact hj) (lh e) (Sh S i hq)) (Si (Si hs _) _)
theorem Iq(h:l8 E d=Za8)(S:Zab)(r:aw y d l)(k:∀a b n,ZH a=some Zat->ao y f K2->NT Zag)(j:∀a b n,ZH a=some ZcO->ao y f K2->NT Zag):NT l:=by cases d with
 |raw l=>exact jF h S r k|int i=>exact jF (d:=ZaN) h S r k|str x=>exact jF (d:=.str x) h S r k|seq c m=>
  exact mr h λq e=>by
   clear h;cases e;obtain⟨a,b,n,YA,p,rl⟩:=l_;rw[YA];clear r;rcases q with rfl|rfl;.exact k a b n (Yd _ _ p) rl
   .exact j a b n (Yd _ _ p) rl
theorem vT(h:bR E f i=ZaW)(S:Zab)(rm:aw y f b)(j:aw y i c)(k:g r E)(hs:GD gS):ZU YH m (G0 U2 gS b c) Zad bz G:=aZ h λl p h=>aZ h λs hm h=>mr h λe h=>rU (NT:=λc=>ZU YH m (G0 U2 gS b c) Zad bz G) p j λt=>Iq (NT:=λb=>ZU YH m (G0 U2 gS b (.int l t)) Zad bz G) hm S rm (λa q n d rl=>oN d rl e h S k hs) λa q n d rl=>rQ d rl e h S k hs
theorem jw(h:mj E c=Zdb)(hn:n<=ZK)(S:Zab)(r:aw y c b)(k:g Zbp E):ZU YH m (VQ Zaz [b]) Zad bz G:=by
 have d:=hn;have s:(l8 E c).map (·.length)=Zdb->ZU YH m (VQ Zaz [b]) Zad bz G:=λh=>yW h λj hm e=>by
  walk_at"a";subst e;exact Iq (NT:=λb=>ZU YH m (VQ Zaz [b]) Zad bz G) hm S r (λa i n f rl=>len_list (aq f) (by rw[W0];exact a9 0xfe9f30e5e1 [16777216,9223372036854775808] [_] [] d) (U0 S (by rw[W0];exact a0 ..) k)) λa i n f rl=>PySem.P.len_tuple f (by rw[W0];exact KU d) (U0 S (by rw[W0];exact a0 ..) k)
 induction c using x6 with|str x=>cases h;obtain⟨t,rfl⟩:=u0;exact PySem.P.len_str (KU d) (U0 S (a0 ..) k)|_=>exact s h
theorem vD{α:Type}[Oe c]{o d:Zs α}{r:α}(h:(if c then o else d)=ZaW){a:Prop}(k:c->o=ZaW->a)(e:d=ZaW->a):a:=by
 by_cases b:c;.rw[ZT b]at h;exact k b h
 .rw[ZY b]at h;exact e h
theorem jO(rm:Za2)(h:kL E f q=some F)(S:Zab)(rl:ao y q l)(k:g F E):ZU YH m (VQ f l) Zad bz G:=by
  walk_at"a";let C:Zc7->Prop:=λl=>ZU YH m (VQ f l) Zad bz G;let B:T_->ZP->Prop:=λf j=>ZU YH m (VQ (.builtin f) [j]) Zad bz G;let w:T_->ZP->ZP->Prop:=λf j x=>ZU YH m (VQ (.builtin f) [j,x]) Zad bz G;cases q with
  |Yk=>exact ax h|Zp N q=>cases q with
    |Yk=>
      refine rl.cS λj l r rl=>rl.jX (NL:=λl=>C (j::l)) (vD h (λd h=>?_) λh=>vD h (λd h=>?_) λh=>vD h (λd h=>?_) λh=>vD h (λd h=>?_) ax);.subst d;exact aZ h λQ hl h=>mr h λhn e=>jw hl hn S r Zbt
      .subst d;exact aZ h λi p h=>rU (NT:=B _) p r λt=>call_abs_int λu D=>U0 S (a0 ..) (kE h k)
      .subst d;exact aZ h λi p h=>mr h λhr e=>rU (NT:=B _) p r λt=>chr_of_range hr.1 hr.2 (U0 S (bp ..) Zbt)
      .subst d;exact aZ h λi p h=>mr h λhr e=>rU (NT:=λj=>ZU YH m (VQ Zb8 [j]) Zad bz G) p r λt=>PySem.P.str_of_int hr (U0 S (bp ..) Zbt)|Zp T q=>cases q with
      |Yk=>
        refine rl.cS λj l r rl=>rl.cS (NL:=λl=>C (j::l)) λx l z rl=>rl.jX (NL:=λl=>C (j::x::l)) (vD h (λd h=>?_) λh=>vD h (λd h=>?_) λh=>vD h (λd h=>?_) ax);.subst d;exact eS h r z (w _) λa b t u h=>mr h λhb e=>divmod_int hb.1 (PV.Ge S (.cons (a0 ..) (.one (a0 ..))) Zbt) (.inl (PyProof.noPylong_small hb.2))
        . subst d;refine eS h r z (w _) λa b t u e=>PySem.max_two_ints YO λI D s=>?_;have k:=kE e k;by_cases c:b>a;.rw[ZT c]at k⊢;exact PV.grow S s (a0 ..) k
          .rw[ZY c]at k⊢;exact PV.grow S s (a0 ..) k
        . subst d;refine eS h r z (w _) λa b t u e=>PySem.min_two_ints YO λI D s=>?_;have k:=kE e k;by_cases c:b<a;.rw[ZT c]at k⊢;exact PV.grow S s (a0 ..) k
          .rw[ZY c]at k⊢;exact PV.grow S s (a0 ..) k|Zp=>exact ax h
inductive KC(o:l6)(K:MV->GH->Prop)(x y:MV)(G:GH):Prop where|mk(r:MV)(h:uw G o x y=ZaW)(k:K r G)
inductive IT(o:CmpOp)(K:Y0->GH->Prop)(x y:MV)(G:GH):Prop where|mk(c:Y0)(h:vF G o x y=Zao)(k:K c G)
inductive Jg(K:MV->GH->Prop)(x y:MV)(G:GH):Prop where|mk(r:MV)(h:bR G x y=ZaW)(k:K r G)
inductive Jd(K:Y0->GH->Prop)(x:MV)(G:GH):Prop where|mk(c:Y0)(h:lC G x=Zao)(k:K c G)
structure TF(p q:Prop)(c:Y0):Prop where
 t:c=true->p
 f:c=false->q
abbrev KI(K:MV->GH->Prop)(c:Y0)(G:GH):Prop:=K (.bool c) G
structure FT(p q:Prop)(c:Y0):Prop where
 f:c=false->p
 t:c=true->q
abbrev Bx(X:Cx)(A:XY)(YX:SM)(b:Wy)(l:YS)(Q:MV->MV->GH->Prop):MV->GH->Prop:=λx G=>EV X A YX (ZG b YX) l G (Q x)
theorem EV.D3{f:ZP->ZP->p' α}{R:α->Za->Prop}(h:EV X m A ZcN o E (Bx X m A b o l))(S:Zab)(k:∀B C c d x e w,ZaX->aw B x c->aw B e d->ak X B A o w C->l x e w->ZU YH m (f c d) R bz C):ZU YH m ZcN (λc g=>ZU YH m Zcl (λd s=>ZU YH m (f c d) R bz s) bz g) bz G:=W1 S λF g c x I j r n p=>p.use n λq s d e t a u z D=>k q s c d x e t (j.trans a) (Uv a) u z D
theorem I'(le:ZaX)(h:ZU YH m a (PV X A B o g) bz G):ZU YH m a Zad bz G:=ZS h (λO O q=>l' le) λO O q=>q
theorem H5(le:ZaX)(h:ZU YH m a (PB X A B o Nj) bz G):ZU YH m a ZcY bz G:=ZS h (λO O q=>l' le) λO O q=>q
theorem YU(h:EV X m A Zcn o E (Bx X m A b o (KC c g))):EV X m A (ZG (.BinOp a c b Yl) A) o E g:=λi s S=>wpAny_BinOp (h.D3 S λj l n w x y G le r d e f=>by obtain⟨_,h,k⟩:=f;exact I' le (y5 h e r d k))
theorem EV.cmp(rm:Za2)(h:EV X m A Zcn o E (Bx X m A b o (IT c (KI g))))(hm:Z3 (OX c b=false) aW):EV X m A (ZG (.Compare a [c] [b] Yl) A) o E g:=λi s S=>wpAny_Compare1 (h.D3 S λj l p w x y G le r d e f=>by obtain⟨_,h,k⟩:=f;exact I' le (jf rm h e r d k)) hm
theorem XA(rm:Za2)(h:EV X m A Zcn o E (Bx X m A b o (IT d Nj)))(hm:Z3 (OX d b=false) aW):EB X m A (XC (.Compare a [d] [b] Yl) A Us) o E Nj:=λD s S=>wpAny_isTrue_Compare1 (h.D3 (f:=λe w=>C2 d e w) S λF I e w x y G le r f i⟨c,h,j⟩=>ZS (jf (g:=λl G=>l=.bool c/\Nj c G) rm h i r f ⟨rfl,j⟩) (λu M⟨p,N,t,z,B,C,k⟩=>by
   cases(k.1▸B).raw;exact UR ⟨p,t,b4 z,C,k.2⟩) λO O q=>q) hm
theorem Tr(h:EV X m A Zcl o E (Jd Nj))(he:Z3 (ZbU=(do let c<-ZG b A;VV b.pos;T' [c] (h8 c))) aR):EB X m A ZbU o E Nj:=λf s S=>isTrue_plain (W1 S λg i c x G a r d e=>by obtain⟨_,h,k⟩:=e;exact H5 a (iQ h d r k)) he
theorem EB.qG(h:EB X m A ZbU o E λc G=>Nj (!c) G):EB X m A (XC (.UnaryOp .Not b Yl) A Us) o E Nj:=λf s S=>isTrue_not (W1 S λd g c G a e k=>⟨d,G,a,e,k⟩)
abbrev Lk(X:Cx)(A:XY)(YX:SM)(d:J Wy)(Yl:iv)(Us:p' ZP)(l:YS)(K:Y0->GH->Prop):Y0->GH->Prop:=λc G=>TF (EB X A YX (XC (.BoolOp .And d Yl) YX Us) l G K) (K false G) c
abbrev M3(X:Cx)(A:XY)(YX:SM)(d:J Wy)(Yl:iv)(Us:p' ZP)(l:YS)(K:Y0->GH->Prop):Y0->GH->Prop:=λc G=>FT (EB X A YX (XC (.BoolOp .Or d Yl) YX Us) l G K) (K true G) c
theorem VT(h:EB X m A ZbU o E (Lk X m A d Yl Us o Nj)):EB X m A (XC (.BoolOp .And (b::d) Yl) A Us) o E Nj:=λi j g=>isTrue_and (W1 g λe s c G a S k=>by cases c with|true=>exact H5 a (k.t rfl e s S)|false=>exact⟨e,G,a,S,k.f rfl⟩)
theorem EB.CS(h:EB X m A ZbU o E (M3 X m A d Yl Us o Nj)):EB X m A (XC (.BoolOp .Or (b::d) Yl) A Us) o E Nj:=λi j g=>isTrue_or (W1 g λe s c G a S k=>by cases c with|false=>exact H5 a (k.f rfl e s S)|true=>exact⟨e,G,a,S,k.t rfl⟩)
theorem t'(h:Nj true E):EB X m A (XC (.BoolOp .And [] Yl) A Us) o E Nj:=λa s S=>isTrue_and_nil (e0 S h)
theorem EB.JA(h:Nj false E):EB X m A (XC (.BoolOp .Or [] Yl) A Us) o E Nj:=λa s S=>isTrue_or_nil (e0 S h)
abbrev L5(X:Cx)(A:XY)(YX:SM)(a b:Wy)(l:YS)(K:MV->GH->Prop):Y0->GH->Prop:=λc G=>TF (EV X A YX (ZG a YX) l G K) (EV X A YX (ZG b YX) l G K) c
theorem EV.EJ(h:EB X m A (XC d A (ZG d A)) o E (L5 X m A i b o g)):EV X m A (ZG (.IfExp d i b Yl) A) o E g:=λl n j=>IfExp_ (W1 j λe s c G a S k=>by cases c with|true=>exact I' a (k.t rfl e s S)|false=>exact I' a (k.f rfl e s S))
theorem EB.EJ(h:EB X m A (XC d A (ZG d A)) o E λc G=>TF (EB X m A (XC a A (ZG a A)) o G Nj) (EB X m A (XC b A (ZG b A)) o G Nj) c):EB X m A (XC (.IfExp d a b Yl) A Us) o E Nj:=λj l i=>isTrue_IfExp (W1 i λe s c G g S k=>by cases c with|true=>exact H5 g (k.t rfl e s S)|false=>exact H5 g (k.f rfl e s S))
theorem EV.qG(h:EV X m A ZbS o E (Jd λb G=>g (.bool !b) G)):EV X m A (ZG (.UnaryOp .Not d Yl) A) o E g:=λu s S=>UnaryOp_ (W1 S λw y z x G a r e⟨b,h,k⟩=>not_of (ZS (iQ (Nj:=λc f=>g (.bool !c) f) h e r k) (λc B i=>by obtain⟨j,l,n,p,t⟩:=i;exact⟨j,.bool !c,l,Xb n,aE ..,p,t⟩) λO O q=>q))
theorem EV.neg(h:g (.int (-i)) E):EV X m A (ZG (.UnaryOp .USub (.Constant (.int i) k a) Yl) A) o E g:=λb s S=>UnaryOp_ (wpAny_Constant_int (neg_int (U0 (n:=Uu+1+1) (G1 (Uu+1)) (a0 ..) h)))
theorem Yq(h:EV X m A Zcn o E (Bx X m A i o (Jg g)))(hs:Z3 (GD i) aR):EV X m A (ZG (.Subscript a i Yl) A) o E g:=λe s S=>Subscript_ (h.D3 S λf j u w x y G le r b c d=>by obtain⟨_,h,k⟩:=d;exact I' le (vT h c r b k hs))
variable{N2:Model}{Pq:ZP->Za->Prop}{Np:iv}{Ng:Wy}{NP:J Wy}{NI:ZP}
theorem w9{E:ZP->Za->Prop}(a:(∃id,NI=ZaJ)\/∃T,NI=Za')(h:ZU N2 m (spliced (UJ Np (Zr (Ng::NP) A))) (λb s=>ZU N2 m (VQ NI b) Pq E s) E G)(he:Zr (Ng::NP) A=(false,ZaE)::Zr NP A)(hp:(UJ Np (Zr NP A)).any (·.1)=false):ZU N2 m (OS Np NI [] (UJ Np (Zr (Ng::NP) A)) []) Pq E G:=by
 rcases a with⟨id,rfl⟩|⟨T,rfl⟩;.exact callWith_builtin1 h he hp
 .exact callWith_type1 h he hp
theorem b3(b:Zcc)(j:XX i=Zaa)(hn:V0 i=none)(hv:Va i=Za8)(n:(∃id,f=ZaJ)\/∃T,f=Za')(h:EA X m A (l::d) o E λe w=>∀y G c,ak X y A o w G->ao y e c->ZU YH m (VQ f c) Zad bz G)(p:Z3 ((i==("__debug__"))=false) aD)(he:Z3 (gH A l d) aR)(hp:Z3 (nr A d) aI):EV X m A (ZG (.Call (.Name i F) (l::d) [] Yl) A) o E g:=λy G S=>by
 walk_at"a";refine sL ?_ rfl;walk_at"a";refine(p_ (g:=λt w=>t=.raw f/\w=E) b j hn hv ⟨rfl,rfl⟩ p).use S λI N Q mv V a r u k=>?_;clear hv;cases k.1;cases k.2;cases Vh;exact w9 n ((h Yl).use u (a:=λc s=>ZU YH m (VQ f c) Zad bz s) λx s c e PM z B C D=>ZS (D x s c C B) (λO O q=>l' (Xb z)) λO O q=>q) he (hp Yl)
section
variable{u:Cx}{T:XY}{YX:SM}{gl:J Z}{l:YS}{F:GH}
structure HM(u:Cx)(T:XY)(YX:SM)(l:YS)(F:GH)(q:Zs MV×Zs Y0)(e:Wy):Prop where
 v:∀mv,q.1=ZaQ->∀K:MV->GH->Prop,K mv F->EV u T YX (ZG e YX) l F K
 b:∀c,q.2=Zao->∀K:Y0->GH->Prop,K c F->EB u T YX (XC e YX (ZG e YX)) l F K
theorem eK(hv:∀mv,d=ZaQ->∀K:MV->GH->Prop,K mv F->EV u T YX (ZG a YX) l F K)(he:Z3 (XC a YX (ZG a YX)=(do let d<-ZG a YX;VV a.pos;T' [d] (h8 d))) aR):HM u T YX l F (jJ F d) a:=⟨hv,λc e K k=>Tr (aZ e λm hm ht=>hv m hm _ ⟨c,ht,k⟩) he⟩
theorem oE:HM u T YX l F (none,none) a:=⟨λO a=>(nomatch a),λO a=>(nomatch a)⟩
theorem zG:∀{e:Wy},BG e=Zak->∃p,e=.Name x p:=λ{e}=>JB (Q:=λe r=>r.1=Zak->∃p,e=.Name x p) (λy p h=>⟨p,Zq (Expr.Name . p) (ZW h)⟩) (λO O O=>ax) (λO O=>ax) (λO O O O=>ax) (λO O O=>ax) e
theorem Am:∀{e:Wy},litOf e=ZbI->∃k p,e=.Constant ZaN k p:=λ{e}=>JB (Q:=λe r=>Hw r.2.1=ZbI->∃k p,e=.Constant ZaN k p) (λO O=>ax) (λc k p=>by induction c with|int=>exactλh=>(Vs k p (Zq (λi=>Expr.Constant ZaN k p) (ZW h)))|_=>exact ax) (λO O=>ax) (λO O O O=>ax) (λO O O=>ax) e
theorem noStar(h:¬isStar a=true)(d:J Wy):Zr (a::d) YX=(false,ZG a YX)::Zr d YX:=JB (Q:=λa r=>¬r.2.2=true->Zr (a::d) YX=(false,ZG a YX)::Zr d YX) (λO O O=>rfl) (λO O O O=>rfl) (λO O h=>Zc rfl h) (λO O O O O=>rfl) (λO h O O=>h d YX) a h
theorem nL(h:Ga r (c::d)=Za8){e:Prop}(k:∀x a,Zr (c::d) YX=(false,ZG c YX)::Zr d YX->(r c).1=Zak->Ga r d=Zax->x::a=f->e):e:=JL h λhn h=>aZ h λx hx h=>aZ h λa g h=>k x a (noStar hn d) hx g (ZW h)
theorem yS(d:J Wy):∀{m:ZaV},Ga r d=Zcg->∀Yl,(UJ Yl (Zr d YX)).any (·.1)=false:=by induction d with|Yk=>exactλO O=>rfl|Zp e d i=>exactλh Yl=>nL h λx c he O a O=>by rw[he];exact i a Yl
theorem oe(d:wu q=Za8):(q=="__debug__")=false/\((∃id,f=ZaJ)\/∃g,f=.type g):=by
  refine⟨Yt ?_,?_⟩
  . intro p;subst p;have e:wu "__debug__"=none:=by rfl
    exact ax (ru d)
  . have i:∀{c:Prop}[Oe c]{j:ZP}{o:Zs ZP},(if c then some j else o)=Za8->((∃id,j=ZaJ)\/∃g,j=.type g)->(o=Za8->(∃id,f=ZaJ)\/∃g,f=.type g)->(∃id,f=ZaJ)\/∃g,f=.type g:=λ{c}_{j o}h a k=>by
      clear d;by_cases m:c;.rw[ZT m]at h;cases h;exact a
      .rw[ZY m]at h;exact k h
    unfold wu at d;exact i d (.inl ⟨_,rfl⟩) λd=>i d (.inl ⟨_,rfl⟩) λd=>i d (.inl ⟨_,rfl⟩) λd=>i d (.inl ⟨_,rfl⟩) λd=>i d (.inl ⟨_,rfl⟩) λd=>i d (.inl ⟨_,rfl⟩) λd=>i d (.inr ⟨_,rfl⟩) λd=>nomatch d
variable(b:V3 u)(hb:ZcX){n:U}(rm:Rm u T n)(hg:∀f,sv f=true->Yg f=Zaa)
include b hb rm hg
theorem Dn(r:PQ)(S:∀e,HM u T YX l F (r e) e)(PT:∀a b p,(r (.Slice a b none p)).1=none)(e:Wy):HM u T YX l F (Mx gl l F r e) e:=by
 have s:∀d m,Ga r d=Zcg->∀K:ZaV->GH->Prop,K m F->EA u T YX d l F K:=λd=>by induction d with
  |Yk=>exactλm h K q=>Y6 (ZW h▸q)|Zp e d D=>exactλm h K q=>nL h λx Q he hx E I=>Zu ((S e).v x hx _ (D Q E _ (I▸q))) he
 induction e using Expr.casesOn with
 |Constant c k Yl=>
  exact eK λmv h K q=>by induction c with
   |none=>cases h;exact L0 q|bool=>cases h;exact EV.Cr q|int=>cases h;exact X2 q|str=>cases h;exact Wc q|_=>cases h
 |Name x Yl=>
  exact eK λmv h K q=>mr h λB h=>have B:=Bool.and_eq_true_iff.mp B
   Z4 h q (Yt (p8 B.2)) (Yt (p8 B.1))|BinOp x o y Yl=>exact eK λmv h K q=>aZ h λj w h=>aZ h λg hv h=>YU ((S x).v j w _ ((S y).v g hv _ ⟨mv,h,q⟩))|Compare x ops ys Yl=>
  have go:∀{c},((Av ops).bind λo=>(Av ys).bind λb=>if OX o b then none else(r x).1.bind λx=>(r b).1.bind λy=>vF F o x y)=Zao->∀{M:Prop},(∀o y j g,ops=[o]->ys=[y]->OX o y=false->(r x).1=Zb'->(r y).1=some g->vF F o j g=Zao->M)->M:=λh M k=>aZ h λo B h=>aZ h λy hy h=>JL h λhm h=>aZ h λj w h=>aZ h λg hv h=>k o y j g (xV B) (xV hy) (Bool.eq_false_iff.mpr hm) w hv h;exact⟨λmv h K q=>yW h λc t e=>go t λo y j g e1 e2 hm w hv C=>by subst e1;subst e2;exact EV.cmp rm ((S x).v j w _ ((S y).v g hv _ ⟨c,C,(show K (.bool c) F from e▸q)⟩)) hm,λc h K q=>go h λo y j g e1 e2 hm w hv t=>by subst e1;subst e2;exact XA rm ((S x).v j w _ ((S y).v g hv _ ⟨c,t,q⟩)) hm⟩|UnaryOp o x Yl=>induction o with
  |Not=>exact⟨λmv h K q=>aZ h λg hv ht=>yW ht λc t e=>EV.qG ((S x).v g hv _ ⟨c,t,(show K (.bool !c) F from e▸q)⟩),λc h K q=>yW h λPW t e=>EB.qG ((S x).b PW t _ (e▸q))⟩|USub=>exact eK λmv h K q=>aZ h λV PX h=>ex2 (Am PX) λk p e=>by rw[e];exact EV.neg (ZW h▸q)|_=>exact oE
 |IfExp PM x y Yl=>exact⟨λmv h K q=>aZ h λc t h=>EV.EJ ((S PM).b c t _ ⟨λe=>(S x).v mv ((ZT e).symm.trans h) _ q,λe=>(S y).v mv ((ZY (qr e)).symm.trans h) _ q⟩),λmv h K q=>aZ h λc t h=>EB.EJ ((S PM).b c t _ ⟨λe=>(S x).b mv ((ZT e).symm.trans h) _ q,λe=>(S y).b mv ((ZY (qr e)).symm.trans h) _ q⟩)⟩|BoolOp o d Yl=>
  refine⟨λmv h K q=>(nomatch h),λc h K q=>?_⟩;have sB:∀d:J Wy,Mm r o d=Zao->∀Us,EB u T YX (XC (.BoolOp o d Yl) YX Us) l F K:=λd=>by induction d with
   |Yk=>
    exactλh O=>by
     have e:=ZW h;cases o with
     |And=>exact t' ((show true=c from e)▸q)|Or=>exact EB.JA ((show false=c from e)▸q)
   |Zp e d D=>exactλh Us=>aZ h λPN hd h=>by cases o with|And=>exact VT ((S e).b PN hd _ ⟨λz=>D (by subst z;exact h) Us,λz=>by subst z;exact ZW h▸q⟩)|Or=>exact EB.CS ((S e).b PN hd _ ⟨λz=>D (by subst z;exact h) Us,λz=>by subst z;exact ZW h▸q⟩)
  exact sB d h _|Subscript x V Yl=>exact eK λmv h K q=>aZ h λj w h=>aZ h λg hv h=>Yq ((S x).v j w _ ((S V).v g hv _ ⟨mv,h,q⟩)) (kB λa c p e=>by subst e;cases(PT a c p).symm.trans hv)|Tuple d k Yl=>exact eK λmv h K q=>aZ h λm hm h=>mr h λC h=>TO (s d m hm _ ⟨C,ZW h▸q⟩)|J d Yl=>exact eK λmv h K q=>aZ h λm hm h=>mr h λC h=>UA (s d m hm _ ⟨C,ZW h▸q⟩)|Call f d i Yl=>cases d with
  |Yk=>exact oE|Zp e d=>cases i with
   |Yk=>
    exact eK λmv PR K q=>aZ PR λx hn PY=>mr PY λPZ P0=>aZ P0 λPS N P2=>aZ P2 λm hm h=>nL (YX:=YX) hm λO Q he O E O=>SA (zG hn) λp I=>by
      clear PR hn;rw[I];have k:=oe N;exact b3 b (hg x PZ) (hb x PS N).1 (hb x PS N).2 k.2 (s (e::d) m hm _ λP4 P5 P6 S r=>jO rm h S r q) k.1 he (yS d E)|Zp=>exact oE
 |_=>exact oE
theorem Ab(e:Wy):HM u T YX l F (pq gl l F e) e:=by
 unfold pq;generalize 16=n at⊢;revert e;induction n with|V1=>exactλO=>oE|VF n i=>exact Dn b hb rm hg _ i λa b p=>by cases n<;>rfl
end
def B2(c:aT)(a:Y_):aT:=λb o=>c b o/\b≠a
theorem ak.H8(S:Zab)(p:y a ob)(hn:¬lr ob):ak X (B2 y a) A o E G/\(∀mv i,aw y mv i->aw (B2 y a) mv i)/\∀mv i,ao y mv i->ao (B2 y a) mv i:=by
  have l:lV y (B2 y a):=λb d st h=>⟨h,λe=>by
    subst e;exact hn ((ZW ((Yd _ _ p).symm.trans (Yd _ _ h)))▸st)⟩;have k:=l.q;walk_at"l";refine⟨⟨⟨mc l (λd e=>e.1),K_,λb d e=>Yd b d e.1,λb d e=>?_,λb d e=>OC b d e.1,OZ,ct,cj⟩,?_⟩,y2 k,ao.sub k⟩;.exact(Wd b d e).sub k rfl
  . refine⟨Q_,G2,ta,?_,λx c hx=>?_,y1,⟨S.f.lG.1,λd e=>S.f.lG.2.1 d e.1,S.f.lG.2.2⟩,λx c hx=>⟨(W8 x c hx).1,(W8 x c hx).2.1,λr d e=>(W8 x c hx).2.2 r d e.1⟩,y0⟩;.obtain⟨m,n,hm⟩:=HS;walk_at"b";exact⟨m,n,λx mv a b=>SA ZcD λi Yw=>Ug Yw λe j=>⟨i,e,y2 k _ _ j⟩⟩
    .obtain⟨i,n,hm⟩:=tb x c hx;walk_at"b";exact⟨i,n,λmv a b=>SA (hm mv a b) λu Yw=>Ug Yw λe j=>⟨u,e,y2 k _ _ j⟩⟩
def bq(X:Cx)(A:XY)(YX:SM)(t:Wy)(mv:MV)(l:YS)(b:GH)(K:YS->GH->Prop):Prop:=∀y G a,ak X y YX l b G->aw y mv a->ZU YH A (KP t YX a) (PU X YX y K) bz G
variable{Pb:YS->GH->Prop}
theorem Oi(b:Zc5)(h:Pb (aJ x mv o) E):bq X m A (.Name x Yl) mv o E Pb:=λa s d S r=>V9 (S.st r b λe c=>⟨a,_,E,Zc9,c,h⟩)
def dW(l:YS)(x:J Z)(m:ZaV):YS:=(x.zip m).foldl (λl p=>aJ p.1 p.2 l) l
def nm(x:Z×iv):Wy:=.Name x.1 x.2
def Jl(YX:SM)(x:Z×iv):Y0×(ZP->p' Unit):=(false,KP (nm x) YX)
theorem mn(YX:SM)(x:Z×iv)(d:J Wy):Kc (nm x::d) YX=Jl YX x::Kc d YX:=by with_unfolding_all rfl
theorem ey(YX:SM)(x:J (Z×iv)):Kc (gy nm) YX=gy (Jl YX):=by induction x with|Yk=>with_unfolding_all rfl|Zp a x i=>rw[Yb,Yb,mn,i]
theorem jH:∀(x:J (Z×iv))(c:ZaV){d:Zc7}{o:YS}{G:Za}{f:Unit->Za->Prop},ZO=YZ->(∀e∈x,aM A e.1)->ak X y A o E G->ao y c d->(∀C,ak X y A (dW o (gy (·.1)) c) E C->f () C)->ZU YH m (TV (gy λe=>KP (nm e) A) d) f bz G:=by
 intro x;induction x with
 |Yk=>
  intro c d o G f h O S r k;cases c with
  |Yk=>exact r.jX (NL:=λd=>ZU YH m (TV [] d) f bz G) (Z5 (k G S))|Zp a b=>cases h
 |Zp e x I=>
  intro c d o G f h g S r k;cases c with|Yk=>cases h|Zp n c=>exact ib (NL:=λd=>ZU YH m (TV ((e::x).map λe=>KP (nm e) A) d) f bz G) λp q i rl=>Z7 (ZF (V9 (S.st i (g e Y5) λC j=>I c (x' h) (λl hy=>g l (ZX _ hy)) j rl k)))
variable{NB:J (Z×iv)}
theorem qJ(h:rd=Zx)(b:∀x∈NB,aM A x.1)(S:Zab)(r:ao y a c)(k:Pb (dW o (Vo (·.1)) a) E):ZU YH m (TV (Vo λx=>KP (nm x) A) c) (PU X A y Pb) bz G:=jH NB a h b S r λs S=>⟨y,_,E,Zbs,S,k⟩
theorem ku(x:Tq h.objs.size h b):∀a o,Vq a=Zai->b.get? a=Zai:=λa o e=>x a o (Zb (XN e)) e
theorem bq.tup(hh:XW=none)(c:∀x∈NB,aM A x.1)(hl:rd=Zv)(h:Pb (dW o (Vo (·.1)) b) E):bq X m A Zc' (.tup b) o E Pb:=λf s i S r=>by
 obtain⟨a,j,n,YA,p,rl⟩:=l_;rw[YA];show ZU _ _ (do VV Yl;unpack Zag (Kc (Vo nm) A)) _ _ _;refine Z7 (Yo ?_);unfold unpack;rw[ey];have d:(Vo (Jl A)).findIdx? (·.1)=none:=by rw[Td];intro x hx;obtain⟨y,_,rfl⟩:=Zl hx;rfl
 rw[d,Z2,hl,<-W0];refine Z7 (ZF (C1 hh (cM (Yd _ _ p)) λe he=>?_));have:=qJ (m:=m) hl c (RH (C:={s with X_:=e}) (ku he)) rl h;rw[Xn];exact this
abbrev xI(a:Y_)(i:U):OD:={Uc:=Zbo,Xg:=.fields #[Zag,.int i 0]}
variable{Pm:ZP}
theorem Ky{a:p' Unit->Prop}(tup:∀d k p,a (Xm (.Tuple d k p) NI Pm))(WD:a (Ye ()))(t:Wy):a (Xm t NI Pm):=by induction t using Expr.casesOn with|Tuple d k p=>exact tup d k p|J d p=>exact tup d 0 p|_=>exact WD
theorem iN(j:ZH it=some l)(o:l.cls=Za')(g:(["enumerate","zip","dict_itemiterator","dict_reverseitemiterator","odict_iterator","itertools.zip_longest","itertools.pairwise"].contains T)=false)(h:f () G):ZU YH m (Xm r (.ref it) q) f i G:=by
 have core:∀{n:T_},(["enumerate","zip","dict_itemiterator","dict_reverseitemiterator","odict_iterator","itertools.zip_longest","itertools.pairwise"].contains n)=false->∀{b:Y0}{e:p' Unit},ZU YH m (if(["enumerate","zip","dict_itemiterator","dict_reverseitemiterator","odict_iterator","itertools.zip_longest","itertools.pairwise"].contains n&&b)=true then e else Ye ()) f i G:=λg b e=>by rw[g];exact Z5 h
 obtain⟨c,u,t,s⟩:=l;cases o;have ir:∀d k p,ZU YH m (Xm (.Tuple d k p) (.ref it) q) f i G:=λd k p=>by induction q with
  |ref a=>exact Z7 (b0 j (by induction t with|fields=>exact core g|_=>exact Z5 h))|_=>exact Z5 h
 exact Ky (a:=λe=>ZU YH m e f i G) ir (Z5 h) r
theorem eD(a:ZH it=Zaq)(c:b.cls=Zbo)(h:d () G):ZbR:=iN a c Z' h
theorem aA.ext(S:Zah)(ga:E a=none)(p:∀o,¬y a o)(la:Yz a=none)(hx:Tq a YI c):aA X y E {G with X_:=c,Wf:=n}:=S.kQ (Pl:=(.=a)) (λO e=>e▸⟨ga,p,la⟩) λb o hb e=>hx b o hb e
theorem ak.ext(S:Zab)(ga:E a=none)(p:∀b,¬y a b)(la:Yz a=none)(d:YL≠a)(i:∀x c,Xx x=Zao->c≠a)(hx:Tq a YI k):ak X y A o E {G with X_:=k,Wf:=n}:=⟨S.g.ext ga p la hx,L1 (λb e=>hx _ b d e) (λx c b rb e=>hx _ b (i x c rb) e) S.f.lG.1 λx c hx=>(W8 x c hx).1⟩
theorem ak.pin(S:Zab)(d:ZH a=some ob)(ga:E a=none)(la:Yz a=none)(i:YL≠a)(j:∀x c,Xx x=Zao->c≠a):ak X (cI y a ob) A o E G:=⟨S.g.pin d ga la,S.f.more Tx (λb e=>VD (S.f.lG.2.1 b) λq=>i q.1) λx c hx k b e=>VD ((W8 x c hx).2.2 k b) λq=>j x c hx q.1⟩
inductive AR(X:Cx)(A:XY)(YX:SM)(W9:J V4)(K:y_->YS->GH->Prop)(c:YS->GH->Prop)(d:aT)(k:aT->YS->GH->Za->Prop)(m:Za):Prop where|mk(a:aT)(e:YS)(f:GH)(le:bG d a)(S:ak X a YX e f m)(b:EF X A YX Zct e f (Es c K))(OB:∀g i G s l,bG a g->ak X g YX i G s->c l G->Od l i->∃j,bG d j/\k j l G s)
inductive HX(n:U)(b:aT)(c:U->aT->YS->GH->Za->Prop)(I:U->YS->GH->Prop)(j:U)(s:Za):Prop where|mk(k:U)(a:aT)(l:YS)(G:GH)(e:k+j=n)(le:bG b a)(h:c k a l G s)(i:I k l G)
abbrev My(X:Cx)(A:XY)(YX:SM)(K:y_->YS->GH->Prop)(a:aT):TN->Za->Prop:=λr G=>match r with|.ok f=>PF X YX a K f G|.error e=>cameBackBy YH A YX bz e G
theorem uj(I:U->YS->GH->Prop)(b:U->aT->YS->GH->Za->Prop)(step:∀k y o E G,k<n->bG a y->b k y o E G->I k o E->∀R i,(∀c s,(∀w,ZU YH m (Xm x it c) (λO z=>ZU YH m (KP x A c) (λO p=>AR X m A W9 D (I (k+1)) a (b (k+1)) p) w z) w s)->R Zao s)->ZU YH m (VP it) R i G)(done:∀y o E G,bG a y->b n y o E G->I n o E->∀R i,(∀s,PF X A a D .next s->R none s)->ZU YH m (VP it) R i G)(e:bG a y)(h:b 0 y o E G)(T:I 0 o E):U7 YH m (.forLoop x it W9 [] A) (My X m A D a) G:=by
  walk_at"k";refine codeAny_forLoop_any (I:=HX n a b I) ?_ n ⟨0,y,o,E,Wi n,e,h,T⟩;intro j G V;obtain⟨k,y,o,E,hj,e,h,B⟩:=V;walk_at"c";by_cases f:k<n;.refine step k y o E G f e h B _ _ λc s q=>ZS (q _) (λO z q=>ZS q (λO p PM=>?_) λO O q=>q) λO O q=>q;walk_at"c";obtain⟨PN,P0,P2,le,PR,hb,OB⟩:=PM;refine ZS (hb PN p PR) (λP4 C q=>?_) λO O q=>Vr;obtain⟨t,PS,l,d,u,r,S,g⟩:=q;have OR:K6 (I (k+1)) l d->∃F,F<j/\HX n a b I F C:=λ⟨N,Q,hs⟩=>SA (OB t l d C N u S Q hs) λPT Yw=>Ug Yw λPW PX=>⟨j-1,LS hj f,k+1,PT,N,d,LJ hj f,PW,PX,Q⟩;cases PS with
    |next=>cases r;exact OR g|brk=>cases r;exact⟨t,.next,l,d,b4 u,rfl,S,g⟩|cont=>cases r;exact OR g|e4 c=>obtain⟨PY,rfl,PZ⟩:=r;exact⟨t,.ret c,l,d,b4 u,⟨PY,rfl,PZ⟩,S,g⟩
  .have OQ:=J0 hj f;clear step;subst OQ;exact done y o E G e h B _ _ λs q=>u_ q
structure OffI(X:Cx)(d:aT)(G:GH)(YX:SM)(it:Y_):Prop where
 g:G it=none
 p:∀o,¬d it o
 b:Yz it=none
 l:Rr≠it
 c:∀x a,VR x=Zax->a≠it
theorem nS(t:bG F y)(TU:OffI X y E A it)(n:¬lr i)(q:PU X A (cI y it i) (λo w=>EF X m A ZbO o w (Es M D)) PN T)(OB:∀d f j G s,bG (cI y it i) d->bG y f->lV d f->ak X f A j G s->WU it=ZbI->OffI X f G A it->V f j G s):AR X m A W9 D M F V T:=by
 obtain⟨z,B,C,a,I,N⟩:=q;refine⟨z,B,C,(t.trans Tx).trans a,I,N,λd PR G s j r S PS Q=>?_⟩;have k:=r _ _ (a _ _ (.inr ⟨rfl,rfl⟩));have u:bG y (B2 d it):=λPM x q=>⟨r _ _ (a _ _ (.inl q)),λe=>off.p x (e▸q)⟩;exact⟨_,t.trans u,OB d _ j G s (Xb r) u (λPM i st h=>⟨h,λe=>n (by subst e;exact ZW ((Yd _ _ k).symm.trans (Yd _ _ h))▸st)⟩) ((S.H8 k n).1.forget Q) (Yd _ _ k) ⟨OC _ _ k,λx q=>q.2 rfl,off.b,off.l,off.c⟩⟩
theorem ak.AJ(S:Zab)(h:ZZ<=z):OffI X y E A z:=⟨Uw h,λa q=>Zc (XN (Yd _ _ q)) (Wg h),S.g.hU h,Zb (Xr S.lW h),λx c hx=>Zb (Xr (S.kA hx) h)⟩
theorem Gi(b:a.cls=Za')(c:T≠"code")(hd:a.data=.fields fs):¬lr a:=kH (λe=>c (Value.type.inj (b.symm.trans e))) λO O e=>nomatch p7 e
structure nM(X:Cx)(YX:SM)(m:ZaV)(a it:Y_)(k:U)(b:aT)(l:YS)(G:GH)(s:Za):Prop where
 S:ak X b YX l G s
 i:s.heap.IsListIter it a k
 TU:OffI X b G YX it
theorem pN(N:bG V y)(h:nM X A f a it k y o E G)(hl:G.heap.IsList a F)(rl:ao y f F.toList)(UB:∀e,f[k]?=Zb6->bq X m A T e o E λNF w=>EF X m A ZbO NF w (Es PM D))(Q:k<S8)(OB:∀j d n r t s,bG (cI y it n) j->bG y d->lV j d->nM X A f a it (k+1) d r t s->PN d r t s)(Ue:∀u B,(∀x,ZU YH m (Xm T (.ref it) u) (λO PR=>ZU YH m (KP T A u) (λO C=>AR X m A W9 D PM V PN C) x PR) x B)->R (some u) B):ZU YH m ZaS R P0 G:=by
 have OQ:k<F.size:=by rw[W0];exact Q
 refine rl.at OQ λe hm PS=>wpAny_pyNext_list_item h.i hl (XB OQ) λPT PW hs=>Ue _ _ λx=>?_;walk_at"e";obtain⟨n,I,z,hd⟩:=PW;have PX:ak X y A o E {G with X_:=PT}:=eB x4 ez x3 x2 x1 hs.extBut;exact eD I z (ZS (UB e hm _ _ _ (PX.pin I x4 x3 x2 x1) (PS.mono Tx)) (λO C q=>nS N h.off (Gi z Z' hd) q λj d r t s PY q2 q3 q4 q5 PZ=>OB j d n r t s PY q2 q3 ⟨q4,⟨n,q5,z,hd⟩,PZ⟩) λO O q=>Vr)
theorem pG(hh:XW=none)(e:bG f y)(h:nM X A d a it YG y o E G)(hl:G.heap.IsList a q)(rl:ao y d q.toList)(k:D .next o E)(Ue:∀s,PF X A f D .next s->R none s):ZU YH m ZaS R r G:=wpAny_pyNext_list_end hh h.i hl (by rw[Array.getElem?_eq_none_iff,W0];exact ZV _) λj he=>Ue _ ⟨y,.next,o,E,e,rfl,eB (n:=Wv) x4 ez x3 x2 x1 he,k⟩
inductive Io(X:Cx)(A:XY)(YX:SM)(t:Wy)(W9:J V4)(l:YS)(I:U->YS->GH->Prop)(K:y_->YS->GH->Prop)(m:MV)(c:GH):Prop where|mk(a:ZaV)(b:YS)(e:m=.lst a)(g:I 0 b c)(s:Od b l)(UB:∀k m l G,a[k]?=Zcg->I k l G->bq X A YX t m l G λd f=>EF X A YX Zct d f (Es (I (k+1)) K))(Ue:∀l G,I Zx l G->K .next l G)
theorem ra(hh:XW=none)(I:U->YS->GH->Prop)(h:EV X m A ZaZ o E (Io X m A u W9 o I D))(hs:Z3 (∀x,ZbT=Ye x) aI):EF X m A Zbh o E D:=λb s t=>by
  walk_at"a";refine q' (W1 t λN w Q j G y r c z=>?_) hs;walk_at"a";obtain⟨d,l,rfl,B,C,UB,Ue⟩:=z;obtain⟨a,q,n,YA,p,rl⟩:=l_;rw[YA];refine TL (aq (c.g.aG _ _ p)) ?_;refine uj I (n:=YG) (λk b o E s=>b a (X8 (.type "list") q n)/\ao b d q.toList/\nM X A d a w.heap.objs.size k b o E s) (λk b o E s F e h i R M f=>?_) (λb o E s e h i R M f=>?_) y ⟨p,rl,(c.push (xI a 0)).forget C,⟨_,ZL _ rfl,rfl,rfl⟩,c.AJ (ZV _)⟩ B;.obtain⟨p,rl,h⟩:=h;exact pN e h (aq (h.S.g.aG _ _ p)) rl (λj hm=>UB k j o E hm i) F (λT V PM PN PR PS PT q2 q3 h=>⟨q2 _ _ p,ew q2,h⟩) f
  .obtain⟨p,rl,h⟩:=h;exact pG hh e h (aq (h.S.g.aG _ _ p)) rl (Ue o E i) f
theorem sq(h:EV X m A Zcl o E λmv G=>bq X m A (.Tuple d k tp) mv o G (M2 D))(hs:Z3 (swapsWithSole [.Tuple d k tp] b LV A=Ye false) aR)(hw:Z3 (Gu [.Tuple d k tp] b A=Ye none) aR):EF X m A (TP (.Assign [.Tuple d k tp] b Yl) A) o E D:=λu w S=>Assign_Tuple (W1 S λc s e x G a r f g=>ZS (g c s e f r) (λO y q=>by
  obtain⟨i,l,j,n,p,t⟩:=q;exact⟨i,.next,l,j,Xb n,rfl,p,t⟩) λO O q=>q) hs hw
theorem wQ:∀(x:J Z)(c:ZaV){d:Zc7}{o:YS}{G:Za}{K:YS->GH->Prop},ZO=YZ->(∀e∈x,aM A e)->ak X y A o E G->ao y c d->K (dW o x c) E->ZU YH m (TV (gy λn=>bindName A n) d) (PU X A y K) bz G:=by
 intro x;induction x with
 |Yk=>
  intro c d o G K h O S r k;cases c with
  |Yk=>exact r.jX (NL:=λd=>ZU YH m (TV [] d) (PU X A y K) bz G) (Z5 ⟨y,o,E,Zbs,S,k⟩)|Zp a b=>cases h
 |Zp e x I=>
  intro c d o G K h f S r k;cases c with|Yk=>cases h|Zp l c=>exact ib (NL:=λd=>ZU YH m (TV ((e::x).map λn=>bindName A n) d) (PU X A y K) bz G) λp q g rl=>Z7 (ZF (wpAny_bindName (S.st g (f e Y5) λs i=>I c (x' h) (λj hy=>f j (ZX _ hy)) i rl k)))
inductive IF(K:y_->YS->GH->Prop)(l:YS)(WE:J Z)(mv:MV)(G:GH):Prop where|mk(m:ZaV)(e:mv=.tup m)(n:V_=x_)(k:K .next (dW l names.reverse m.reverse) G)
theorem gx(hh:XW=none)(h:EV X m A Zcl o E (IF D o WE))(e:∀x∈WE,Zc5)(hw:Z3 (Gu [.Tuple d c tp] b A=Ye (some WE)) aR)(hs:Z3 (swapsWithSole [.Tuple d c tp] b LV A=Ye false) aR):EF X m A (TP (.Assign [.Tuple d c tp] b Yl) A) o E D:=λz B f=>Assign_Tuple_swapped (W1 f λF s I M N a r S k=>by
  obtain⟨i,rfl,hl,k⟩:=k;obtain⟨Q,T,n,YA,p,rl⟩:=l_;rw[YA];rw[<-hl,<-W0];refine C1 hh (cM (Yd _ _ p)) λj he=>?_;refine ZS (wQ (m:=m) names.reverse i.reverse (K:=λo E=>D .next o E) (by rw[X6,X6,hl]) (λx hx=>e x (List.mem_reverse.mp hx)) (RH (C:={s with X_:=j}) (ku he)) rl.reverse k) (λO V q=>?_) λO O q=>q;obtain⟨t,l,G,u,w,y⟩:=q;exact⟨t,.next,l,G,Xb u,rfl,w,y⟩) hs hw
def IQ(o:l6)(m c:MV):Zs MV:=match o with|.Add=>(jB m c λa b=>some (.int (a+b))).or (Ei m c λx y=>if ZO+l5<=ZK then some (.str (x++y))else none)|.Sub=>jB m c λa b=>some (.int (a-b))|_=>none
theorem y3(h:IQ c l mb=Zdb)(S:Zab)(r:aw y l d)(f:aw y mb i)(k:g n E):ZU YH m (inplaceOp c d i) Zad bz G:=by
 let C:l6->ZP->ZP->Prop:=λc d i=>ZU YH m (inplaceOp c d i) Zad bz G;induction c with|Add=>exact CK h (λh=>eS h r f (C .Add) λa b t u e=>AutoIntOps.iadd_0 (U0 S (a0 ..) Zbt)) λh=>uK h r f (C .Add) λa b t u e=>mr e λhs e=>SBL.iadd (λj p O=>U0 S (bp ..) Zbt) hs|Od=>exact eS h r f (C .Sub) λa b t u e=>AutoIntOps.isub_0 (U0 S (a0 ..) Zbt)|_=>exact ax h
inductive K8(o:l6)(m:MV)(K:y_->YS->GH->Prop)(l:YS)(x:Z)(a:MV)(G:GH):Prop where|mk(r:MV)(h:IQ o m a=ZaW)(k:K .next (aJ x r l) G)
theorem EF.aug(hx:Ys x=Zaq)(h:EV X m A ZcH o E (K8 d b D o x))(e:Zc5)(hn:Z3 ((x=="__classdict__")=false) aD):EF X m A (TP (.AugAssign (.Name x F) d c Yl) A) o E D:=λC s S=>wpAny_AugAssign_Name (S.load hx (λI r=>W1 S λM N Q T G a f i k=>by
  walk_at"a";obtain⟨q,hq,k⟩:=k;refine ZS (y3 (g:=λj l=>j=q/\l=G) hq i (Uv a) f ⟨rfl,rfl⟩) (λu V z=>?_) λO O z=>z;obtain⟨n,PM,p,t,w,y,rfl,rfl⟩:=z;exact y.st w e λPN B=>⟨n,.next,_,p,Xb t,rfl,B,k⟩) hn)
theorem VK(h:EV X m A Zcl o E λc G=>c=.none/\D .next o G)(d:Z3 (gu A=false) aR)(hs:Z3 (Oc b none LV A=Ye false) aR):EF X m A (TP (.Expr b Yl) A) o E D:=λg s S=>wpAny_Expr (W1 S λe i j c G a r f k=>by
  obtain⟨rfl,k⟩:=k;rw[Vh];exact⟨e,.next,o,G,a,rfl,f,k⟩) d hs
theorem EF.freeze(ga:E a=Zbx)(l:YS)(hl:∀x mv,VU x=ZaQ->Ys x=ZaQ\/(Ys x=some Zag/\mv=.lst b))(h:EF X m A c l (H2 E a) D):EF X m A c o E D:=λj s S=>by
  obtain⟨d,f,g,i⟩:=S.jc ga;refine ZS (h d s (i.eE λx mv e=>?_)) (λO O q=>l' f) λO O q=>q;walk_at"b";refine(hl x mv e).elim (λh=>?_) λYA=>?_;.exact⟨mv,h,λO r=>r⟩
  .obtain⟨h,rfl⟩:=YA;exact⟨_,h,λk r=>by rw[Vh];exact g⟩
theorem EV.EI(hx:Ys x=some Zag)(ga:E a=Zbx)(k:g (.lst b) (H2 E a))(hn:Z3 ((x=="__classdict__")=false) aD)(hd:Z3 ((x=="__debug__")=false) aD):Za4:=λi s S=>c3 (S.load hx (λj r=>by
  obtain⟨c,d,e,f⟩:=S.jc ga;rw[Vh];exact⟨c,.lst b,_,d,e,f,k⟩) hn) hd
theorem CL(hh:XW=none)(hx:Zc5)(hy:aM A a)(h:Pb (aJ a c (aJ x d o)) E):bq X m A (.Tuple [.Name x f,.Name a q] k Yl) (.tup [d,c]) o E Pb:=bq.tup hh (NB:=[(x,f),(a,q)]) (by intro z b;simp only[XS,YJ,Vw]at b;rcases b with rfl|rfl<;>assumption) rfl h
def cv(X:Cx)(YX:SM)(l:YS)(c:GH)(T:T_)(m:MV):Prop:=∀y G b,ak X y YX l c G->aw y m b->br b T/\∀a,b=Zag->∃o,ZH a=Zai/\o.dict=none
theorem et(h:cf E c=ZaD):cv X A o E "list" c:=λf s i S r=>by
 obtain⟨a,j,n,YA,g,rl⟩:=listAt h S r;rw[YA];exact⟨(aq g).typeIs,λb e=>by cases e;exact⟨_,g,rfl⟩⟩
theorem cv.str:cv X A o E "str" (.str x):=λa s c S r=>by
 obtain⟨t,YA⟩:=u0;rw[YA];exact⟨xb s x t,λb e=>by cases e⟩
variable{NX:T_}{N:Z}{Nn:Wy}{Ny:iv}{Nz:p' Y0}
theorem k'{id:T_}(p:PlainAttrs NX)(Oh:Slot NX N id)(j:xa ZaJ=ZaM)(h:EV X m A ZaE o E λd e=>cv X A o e NX d/\EA X m A (Nn::NP) o e λf i=>∀y G b c,ak X y A o i G->aw y d b->ao y f c->ZU YH m (VQ ZaJ (b::c)) Zad bz G)(he:Z3 (eL A Ng N Np (Nn::NP) Ny Nz) aR)(l:Z3 (gH A Nn NP) aR)(hp:Z3 (nr A NP) aI):EV X m A (ZG (.Call Zda (Nn::NP) [] Ny) A) o E g:=λy G n=>OP (pl:=Nz) (W1 n λt s b d e u r S k=>by
  obtain⟨w,hd⟩:=k.1 t s b S r;refine k_ w p Oh j hd ?_;refine callWith_method1 (first:=[b]) ((k.2 Ny).use S λx z c f i a B C D=>?_) l (hp Ny);exact ZS (D x z b c C (Uv a) B) (λO O q=>l' (u.trans a)) λO O q=>q) he
theorem EV.EW{id:T_}(p:PlainAttrs NX)(Oh:Slot NX N id)(f:xa ZaJ=ZaM)(h:EV X m A ZaE o E λc d=>cv X A o d NX c/\∀y G b,ak X y A o d G->aw y c b->ZU YH m (VQ ZaJ [b]) Zad bz G)(he:Z3 (eL A Ng N Np [] Ny Nz) aR):EV X m A ZcR o E g:=λy G i=>OP (pl:=Nz) (W1 i λe s b c d a r S k=>by
  obtain⟨j,hd⟩:=k.1 e s b S r;refine k_ j p Oh f hd ?_;exact callWith_method0 (ZS (k.2 e s b S r) (λO O q=>l' a) λO O q=>q)) he
theorem af:ZK=16777216:=rfl
theorem PV.set(S:Zab)(d:ZH a=some Zat)(hg:E a=some (.list q))(r:ao y i (f b).toList)(e:aw y c l)(k:g c (Y8 E a (.list i))):PV X A y o g l {G with X_:=UH a (Yc f)}:=by
 refine⟨y,c,_,Zbs,e,bk hg (Y' ..) ?_,k⟩;exact⟨f b,if(f b).size==b.size then n else n+1,YR _ d rfl,r⟩
theorem lK(hg:E a=Zbf)(S:Zab)(r:aw y Zag d):d=Zag/\∃b n,ZH a=some Zat/\ao y c K2:=⟨Vh,Wd _ _ hg⟩
theorem lQ(hg:E a=Zbf)(d:YZ<=ZK)(S:Zab)(r:aw y Zag f)(e:aw y x u)(k:g .none (Y8 E a (.list (c++[x])))):ZU YH m (VQ ZbA [f,u]) Zad bz G:=by
 obtain⟨YA,i,n,b,rl⟩:=lK hg S r;rw[YA];refine SK F.slot_list_append ⟨_,b,rfl⟩ F.entry_list_append (F.args_list_append_2 _ _) (list_append a i n u (by rw[W0];exact d)) ⟨b,?_⟩;exact PV.set S b hg (by rw[Se];exact rl.snoc e) (aE ..) k
inductive JY(K:MV->GH->Prop)(a:Y_)(x:MV)(G:GH):Prop where|mk(m:ZaV)(g:G a=ZcB)(z:V_<=ZK)(k:K .none (Y8 G a (.list (m++[x]))))
inductive Kx(K:MV->GH->Prop)(a:Y_)(b:MV)(G:GH):Prop where|mk(m x:ZaV)(g:G a=ZcB)(h:cf G b=Zak)(z:V_+ZO<=ZK)(k:K .none (Y8 G a (.list (m++x))))
inductive HC(X:Cx)(A:XY)(YX:SM)(e:Wy)(l:YS)(Q:Y_->MV->GH->Prop)(m:MV)(G:GH):Prop where|mk(a:Y_)(b:ZaV)(q:m=Zag)(g:G a=Zbx)(k:EV X A YX (ZG e YX) l G (Q a))
theorem W4(h:EV X m A ZaE o E (HC X m A Nn o (JY g)))(he:Z3 (eL A Ng ("append") Np [Nn] Ny Nz) aR)(c:Za5):EV X m A (ZG (.Call (.Attribute Ng ("append") Np) [Nn] [] Ny) A) o E g:=by
 refine k' (Nz:=Nz) Sd F.slot_list_append F.type_list_append (WT λl G hm=>?_) he c;obtain⟨a,n,YA,hg,h⟩:=hm;rw[YA];walk_at"l";refine⟨et (dg hg),Zu (WT λx p hx=>Y6 λd s e b S r rs=>?_) c⟩;obtain⟨q,f,i,k⟩:=hx;exact rs.cS (NL:=λb=>ZU YH m (VQ ZbA (e::b)) Zde bz s) λu b j rs=>rs.jX (NL:=λb=>ZU YH m (VQ ZbA (e::u::b)) Zde bz s) (lQ f i S r j k)
theorem uE(hg:E a=some (.list d))(hx:cf E f=Zak)(e:YG+ZO<=ZK)(S:Zab)(i:aw y Zag l)(j:aw y f u)(k:g .none (Y8 E a (.list (d++x)))):ZU YH m (VQ ZcG [l,u]) Zad bz G:=by
  walk_at"a";obtain⟨YA,p,n,c,rl⟩:=lK hg S i;rw[YA];obtain⟨b,w,q,YA,g',r⟩:=listAt hx S j;rw[YA];have bj:=e;have h1:=W0;have h2:=b7;refine SK F.slot_list_extend ⟨_,c,rfl⟩ F.entry_list_extend (F.args_list_extend_2 _ _) (AutoSeq1.list_extend_list_list_0 a p n b w q ?_ (by rw[af];exact Kw bj h1) (by rw[af];exact J7 bj h1 h2)) ⟨c,g',?_⟩;.intro h;simp only[YK]at h;have:=h.2;simp only[Gs,XU]at this;exact KZ e this h1 h2
  .exact PV.set S c hg (by rw[Y1];exact rl.append r) (aE ..) k
theorem Oa(h:EV X m A ZaE o E (HC X m A Nn o (Kx g)))(he:Z3 (eL A Ng ("extend") Np [Nn] Ny Nz) aR)(c:Za5):EV X m A (ZG (.Call (.Attribute Ng ("extend") Np) [Nn] [] Ny) A) o E g:=by
 refine k' (Nz:=Nz) Sd F.slot_list_extend F.type_list_extend (WT λl G hm=>?_) he c;obtain⟨a,n,YA,hg,h⟩:=hm;rw[YA];walk_at"l";refine⟨et (dg hg),Zu (WT λx p hx=>Y6 λd s e b S r rs=>?_) c⟩;obtain⟨q,t,f,hx,i,k⟩:=hx;exact rs.cS (NL:=λb=>ZU YH m (VQ ZcG (e::b)) Zde bz s) λu b j rs=>rs.jX (NL:=λb=>ZU YH m (VQ ZcG (e::u::b)) Zde bz s) (uE f hx i S r j k)
def Mv(w:J Y_)(s c:Za):Prop:=∃a t,c={s with X_:=a,Wf:=t}/\∀b o,b∉w->WU b=Zai->a.get? b=some o
def iz(a:aT)(s:Za)(m:MV)(b:ZP):Prop:=aw a m b\/∃T c d,b=.ref T/\m=.tup d/\s.heap.IsTuple T c/\ao a d mu
abbrev n7:=aT->Za->MV->ZP->Prop
abbrev cu:n7:=λy O m a=>aw y m a
structure Wk(X:Cx)(A:XY)(I:n7)(it:ZP)(t:Wy)(n:U)(j:U->MV)(w:J Y_)(St:U->aT->D'->Prop):Prop where
 frame:∀k c d h g,St k c h->lV c d->(∀a o,c a o->Vq a=Zai)->(∀a o,d a o->g.get? a=Zai)->(∀b∈w,∀o,Vq b=Zai->g.get? b=Zai)->St k d g
 JO:∀c d s m e,bG c d->I c s m e->I d s m e
 obj:∀k c h,St k c h->∀b∈w,∃o,Vq b=Zai/\¬lr o
 next:∀k c s(Q:Zs ZP->Za->Prop)(E:ZP->Za->Prop),k<n->St k c Tv->(∀a o,c a o->WU a=Zai)->(∀b∈w,∀o,¬c b o)->(∀e f,(∀E,ZU YH A (Xm t it e) (λO i=>Mv w s i/\St (k+1) c i.heap/\I c i (j k) e) E f)->Q Zb6 f)->ZU YH A (VP it) Q E s
 done:∀c s(Q:Zs ZP->Za->Prop)(E:ZP->Za->Prop),St n c Tv->(∀a o,c a o->WU a=Zai)->(∀b∈w,∀o,¬c b o)->(∀f,Mv w s f->Q none f)->ZU YH A (VP it) Q E s
 self:∀k c s(Q:ZP->Za->Prop)(E:ZP->Za->Prop),St k c Tv->(∀a o,c a o->WU a=Zai)->Q it s->ZU YH A (h6 it) Q E s
def gs(X:Cx)(a:aT)(G:GH)(YX:SM)(w:J Y_):Prop:=∀b∈w,G b=none/\(∀o,¬a b o)/\Yz b=none/\Rr≠b/\∀x c,VR x=Zao->c≠b
theorem ak.mv(S:Zab)(TU:gs X y E A d)(m:Mv d G C):ak X y A o E C:=by
 obtain⟨i,t,YA,hx⟩:=m;rw[YA];exact⟨S.g.kQ (λa q=>⟨(TU a q).1,(TU a q).2.1,(TU a q).2.2.1⟩) hx,L1 (λb e=>hx _ b (λq=>(TU _ q).2.2.2.1 rfl) e) (λx c b rb e=>hx _ b (λq=>(TU _ q).2.2.2.2 x c rb rfl) e) S.f.lG.1 λx c hx=>(W8 x c hx).1⟩
def eW(b:aT)(w:J Y_)(h:D'):aT:=λa o=>b a o\/(a∈w/\Vq a=Zai)
def gv(b:aT)(w:J Y_):aT:=λa o=>b a o/\a∉w
theorem p6:bG y (eW y a h):=λO O e=>.inl e
theorem ak.zC(S:Zab)(TU:gs X y E A d):ak X (eW y d YI) A o E G:=⟨⟨mc eW.le.s (λa e=>VD id λq=>Zc rfl (oC (TU _ q.1).2.2.1)),K_,λb a e=>VD (Yd b a) λq=>q.2,λb a e=>(Wd b a e).mono p6 rfl,λb a e=>VD (OC b a) λq=>(TU b q.1).1,OZ,ct,cj⟩,S.f.more p6 (λa e=>VD (S.f.lG.2.1 a) λq=>(TU _ q.1).2.2.2.1 rfl) λx c hx i a e=>VD ((W8 x c hx).2.2 i a) λq=>(TU _ q.1).2.2.2.2 x c hx rfl⟩
theorem ak.mZ(S:Zab)(hn:∀b∈l,∃d,y b d/\¬lr d):ak X (gv y l) A o E G/\(∀mv i,aw y mv i->aw (gv y l) mv i)/\∀mv i,ao y mv i->ao (gv y l) mv i:=by
  have p:lV y (gv y l):=λb t st h=>⟨h,λe=>by
    obtain⟨d,r,j⟩:=hn b e;exact j ((ZW ((Yd _ _ r).symm.trans (Yd _ _ h)))▸st)⟩;have k:=p.q;refine⟨⟨⟨mc p (λd e=>e.1),K_,λb d e=>Yd b d e.1,λb d e=>?_,λb d e=>OC b d e.1,OZ,ct,cj⟩,?_⟩,y2 k,ao.sub k⟩;.exact(Wd b d e).sub k rfl
  . refine⟨Q_,G2,ta,?_,λx c hx=>?_,y1,⟨S.f.lG.1,λd e=>S.f.lG.2.1 d e.1,S.f.lG.2.2⟩,λx c hx=>⟨(W8 x c hx).1,(W8 x c hx).2.1,λs d e=>(W8 x c hx).2.2 s d e.1⟩,y0⟩;.obtain⟨m,n,hm⟩:=HS;walk_at"b";exact⟨m,n,λx mv a b=>SA ZcD λi Yw=>Ug Yw λe j=>⟨i,e,y2 k _ _ j⟩⟩
    .obtain⟨i,n,hm⟩:=tb x c hx;exact⟨i,n,λmv a b=>SA (hm mv a b) λu Yw=>Ug Yw λe j=>⟨u,e,y2 k _ _ j⟩⟩
def TG(X:Cx)(A:XY)(I:n7)(YX:SM)(t:Wy)(m:MV)(f:YS->YS):Prop:=∀y o E G a,ak X y YX o E G->I y G m a->ZU YH A (KP t YX a) (λO C=>ak X y YX (f o) E C) bz G
theorem TG.le(h:TG X m c A d b f)(k:∀y G a,i y G b a->c y G b a):TG X m i A d b f:=λy l e G a S r=>h y l e G a S (k y G a r)
theorem UQ(a:Zc5):TG X m cu A (.Name x Yl) b (λo=>aJ x b o):=λd o G s e S r=>V9 (S.st r a λf c=>c)
theorem jM(h:rd=Zx)(b:∀x∈NB,aM A x.1)(S:Zab)(r:ao y a c):ZU YH m (TV (Vo λx=>KP (nm x) A) c) (λO C=>ak X y A (dW o (Vo (·.1)) a) E C) bz G:=jH NB a h b S r λO S=>S
theorem TG.tup(hh:XW=none)(d:∀x∈NB,aM A x.1)(hl:rd=YZ):TG X m iz A Zc' (.tup c) (λo=>dW o (Vo (·.1)) c):=λf o G s i S r=>by
  walk_at"a";obtain⟨a,b,rfl,ht,rl⟩:∃a b,i=Zag/\s.heap.IsTuple a b/\ao f c K2:=by
    walk_at"b";refine r.elim (λr=>?_) λYA=>?_;.obtain⟨a,b,n,rfl,p,rl⟩:=l_;exact(Vs a b ⟨rfl,cM (Yd _ _ p),rl⟩)
    .obtain⟨T,j,t,rfl,e,ht,rl⟩:=YA;injection e with _ e;subst e;exact(Vs T j ⟨rfl,ht,rl⟩)
  show ZU _ _ (do VV Yl;unpack Zag (Kc (Vo nm) A)) _ _ _;refine Z7 (Yo ?_);unfold unpack;rw[ey];have l:(Vo (Jl A)).findIdx? (·.1)=none:=by rw[Td];intro x hx;obtain⟨y,_,rfl⟩:=Zl hx;rfl
  rw[l,Z2,hl,<-W0];refine Z7 (ZF (C1 hh ht λq he=>?_));have:=jM (m:=m) hl d (RH (C:={s with X_:=q}) (ku he)) rl;rw[Xn];exact this
theorem TG.gw(h:TG X m iz A a b f):TG X m cu A a b f:=h.le λc s d r=>.inl r
theorem bb(hh:XW=none)(hx:Zc5)(hy:aM A c):TG X m iz A (.Tuple [.Name x f,.Name c q] k Yl) (.tup [a,b]) (λo=>aJ c b (aJ x a o)):=TG.tup hh (NB:=[(x,f),(c,q)]) (by intro z d;simp at d;rcases d with rfl|rfl<;>assumption) rfl
structure IW(X:Cx)(YX:SM)(w:J Y_)(St:U->aT->D'->Prop)(k:U)(a:aT)(l:YS)(G:GH)(s:Za):Prop where
 S:ak X a YX l G s
 st:St k a Tv
 TU:gs X a G YX w
variable{Pw:U->aT->D'->Prop}{Pu:U->YS->YS}
theorem F4(d:Wk X m T it u n V i Pw)(I:U->YS->GH->Prop)(tg:∀k,k<n->TG X m T A u (V k) (Pu k))(UB:∀k o E,k<n->I k o E->EF X m A ZbO (Pu k o) E (Es (I (k+1)) D))(Ue:∀o E,I n o E->D .next o E)(c:bG PM y)(h:IW X A i Pw 0 y o E G)(j:I 0 o E):U7 YH m (.forLoop u it W9 [] A) (My X m A D PM) G:=by
  refine uj I (n:=n) (IW X A i Pw) (λk y o E G p c h j R Q f=>?_) (λy o E G c h j R Q f=>?_) c h j
  . obtain⟨S,st,TU⟩:=h;refine d.next k y G _ _ p st Yd (λb q=>(TU b q).2.1) λw x PN=>f w x λPR=>ZS (PN PR) (λO z PS=>and3 PS λmv B PT=>?_) λO O q=>q;have C:=S.mv TU mv;refine ZS (tg k p _ o E z w (C.zC TU) (d.JO _ _ _ _ _ p6 PT)) (λO P2 PW=>⟨_,_,E,c.trans p6,PW,UB k o E p j,λr P4 P5 P6 P7 le t P8 PX=>?_⟩) λO O q=>Vr;have F:∀b∈i,∃a,(r b a/\¬lr a)/\z.heap.get? b=Zax:=λb q=>by
      walk_at"b";obtain⟨a,e,PY⟩:=d.obj _ _ _ B b q;exact⟨a,⟨le _ _ (.inr ⟨q,e⟩),PY⟩,e⟩
    have l:bG y (gv r i):=λPZ a e=>⟨le _ _ (.inl e),λq=>(TU PZ q).2.1 a e⟩;have N:=(t.mZ λb q=>SA (F b q) λa Yw=>Ug Yw λh O=>⟨a,h⟩).1;refine⟨gv r i,c.trans l,N.forget PX,d.frame _ _ _ _ _ B l.s C.g.aG N.g.aG (λb q a e=>t.g.aG _ _ (le _ _ (.inr ⟨q,e⟩))),λb q=>⟨?_,λa e=>e.2 q,(TU b q).2.2⟩⟩;obtain⟨a,P0,_⟩:=F b q;exact t.g.c7 _ _ P0.1
  .obtain⟨S,st,TU⟩:=h;exact d.done y G _ _ st Yd (λb q=>(TU b q).2.1) λx mv=>f _ ⟨y,.next,o,E,c,rfl,S.mv TU mv,Ue o E j⟩
def BA(X:Cx)(A:XY)(I:n7)(t:Wy)(fr:J Y_)(a:aT)(s:Za)(c:ZP)(n:U)(m:U->MV):Prop:=∀(Q:ZP->Za->Prop)E,(∀it G w St,Wk X A I it t n m w St->Mv [] s G->St 0 a YI->(∀b∈w,Zz<=b\/b∈fr)->Q it G)->ZU YH A (h6 c) Q E s
inductive wo(X:Cx)(A:XY)(I:n7)(YX:SM)(t:Wy)(c:aT)(l:YS)(K:U->(U->MV)->GH->Prop)(d:ZP)(s:Za):Prop where|mk(b:aT)(G:GH)(n:U)(m:U->MV)(fr:J Y_)(a:bG c b)(S:ak X b YX l G s)(o:gs X b G YX fr)(e:BA X A I t fr b s d n m)(k:K n m G)
variable{N7:U->(U->MV)->GH->Prop}
theorem wo.le(k:ZaX)(h:wo X m b A c B o N7 d G):wo X m b A c y o N7 d G:=by obtain⟨e,f,n,g,fr,a,S,i,s,q⟩:=h;exact⟨e,f,n,g,fr,m' a,S,i,s,q⟩
def gr(X:Cx)(A:XY)(I:n7)(YX:SM)(t:Wy)(a:p' ZP)(l:YS)(b:GH)(K:U->(U->MV)->GH->Prop):Prop:=∀y G,ak X y YX l b G->ZU YH A a (wo X A I YX t y l K) bz G
theorem gr.mono(h:gr X m c A d f o E N7)(k:∀n b E,N7 n b E->i n b E):gr X m c A d f o E i:=λe s S=>ZS (h e s S) (λO O g=>by obtain⟨j,G,n,b,fr,a,l,p,r,q⟩:=g;exact⟨j,G,n,b,fr,a,l,p,r,k _ _ _ q⟩) λO O q=>q
variable{Nk:J Y_}
theorem er(S:Zab)(h:∀b∈Nk,ZZ<=b):gs X y E A Nk:=λb q=>⟨Uw (h b q),λa e=>Zc (XN (Yd _ _ e)) (Wg (h b q)),S.g.hU (h b q),λe=>Zc S.lW (Wg (e▸h b q)),λx c hx e=>Zc (S.kA hx) (Wg (e▸h b q))⟩
theorem Off.Ji(S:Zab)(d:gs X y E A fr)(h:∀b∈Nk,ZZ<=b\/b∈fr):gs X y E A Nk:=λb q=>by
 refine(h b q).elim (λh=>?_) λh=>?_;.exact er (Nk:=[b]) S (λc a=>by simp at a;rw[a];exact h) b (Xv rfl)
 .exact d b h
theorem Off.nil:gs X y E A []:=λb q=>by exact nomatch q
theorem ak.K0(S:Zab)(m:Mv [] G C):ak X y A o E C:=by obtain⟨c,t,rfl,hx⟩:=m;exact RH (λa b e=>hx a b (nofun) e)
inductive Hz(X:Cx)(A:XY)(b:n7)(YX:SM)(t:Wy)(W9:J V4)(l:YS)(I:U->YS->GH->Prop)(K:y_->YS->GH->Prop)(n:U)(m:U->MV)(c:GH):Prop where|mk(f:U->YS->YS)(a:YS)(d:I 0 a c)(s:Od a l)(tg:∀k,k<n->TG X A b YX t (m k) (f k))(UB:∀k l G,k<n->I k l G->EF X A YX Zct (f k l) G (Es (I (k+1)) K))(Ue:∀l G,I n l G->K .next l G)
theorem EF.vO(I:U->YS->GH->Prop)(h:gr X m c A b ZaZ o E (Hz X m c A b W9 o I D))(hs:Z3 (∀x,ZbT=Ye x) aI):EF X m A (TP (.For b WC W9 [] Yl) A) o E D:=λd s e=>by
 walk_at"a";refine q' (ZS (h d s e) (λr t q=>?_) λO O q=>q) hs;walk_at"a";obtain⟨u,G,n,y,fr,a,S,g,i,f,l,j,k,tg,UB,Ue⟩:=q;refine i _ _ λit z w St p mv st hw=>?_;exact F4 p I tg UB Ue a ⟨(S.K0 mv).forget k,st,Off.Ji S g hw⟩ j
theorem gO:∀(y B:aT)(G:Za)(m:MV)(a:ZP),ZaX->cu y G m a->cu B G m a:=λy B G m a k r=>aw.mono k r
theorem wg:∀(y B:aT)(G:Za)(m:MV)(e:ZP),ZaX->iz y G m e->iz B G m e:=λy B G m e k r=>r.imp (aw.mono k) λf=>ex3 f λT g i Yw=>and4 Yw λa b c d=>⟨T,g,i,a,b,c,d.mono k⟩
theorem Mv.refl(w:J Y_)(s:Za):Mv w s s:=⟨Tv,Uu,rfl,λO O O e=>e⟩
theorem Ct(h:∀b o,b∉c->ZH b=Zai->a.get? b=Zai):Mv c G {G with X_:=a,Wf:=d}:=⟨a,d,rfl,h⟩
theorem BA.list(hh:XW=none)(S:aw y (.lst i) l)(hp:∀a o,y a o->ZH a=Zai):BA X m cu PW [] y G l Xw (λk=>i.getD k .none):=λPX PY k=>by
  obtain⟨a,j,n,YA,x,rl⟩:=S.seq;rw[YA];have D:=W0;refine TL (aq (hp _ _ x)) ?_;have z:=Walks.list (prog:=Wj) (w:=Sl) (A:=m) hh ZZ a (Zb (XN (hp _ _ x)):a≠ZZ) j;refine k ZaB _ [ZZ] (λk F h=>h.IsListIter ZZ a k/\F a (X8 (.type "list") j n)/\ao F i j.toList) ⟨?_,gO,?_,?_,?_,?_⟩ (Ct λb o O e=>ZC _ e) ⟨⟨_,ZL _ rfl,rfl,rfl⟩,x,rl⟩ (λb hb=>by simp at hb;subst hb;exact .inl (ZV _));.intro k t PZ h I c;obtain⟨⟨o,A,T⟩,p,r⟩:=c;intro le O O hw;exact⟨⟨o,hw _ (.head _) o A,T⟩,le.q _ _ _ _ p,r.ip le⟩
  .intro k t h c;obtain⟨⟨o,A,V,hd⟩,_⟩:=c;intro b hb;simp at hb;subst hb;walk_at"b";exact⟨o,A,kH (by rw[V];simp) λO O e=>by rw[e]at hd;cases hd⟩
  . intro k t s Q E B c;obtain⟨d,p,r⟩:=c;intro f hw g;have OQ:k<j.size:=by exact O6 B D
    obtain⟨u,C,PM⟩:=r.get k (a:=i[k]) (Z6 B);refine z.item k s _ _ OQ ⟨d,aq (f _ _ p)⟩ λl I PN hv PR hx=>g l _ λP0=>?_;walk_at"e";obtain rfl:l=u:=by simp at hv C;rw[hv]at C;exact ZW C
    obtain⟨⟨PS,M,N,PT⟩,_⟩:=id PR;refine eD M N ⟨Ct hx,⟨⟨PS,M,N,PT⟩,p,r⟩,?_⟩;show aw _ _ _;rw[Z0,Z6 B];exact PM
  .intro t s Q E c;obtain⟨d,p,r⟩:=c;intro f hw g;exact z.done s _ _ (by rw[D];exact⟨d,aq (f _ _ p)⟩) λI PN hx=>g _ (Ct hx)
  .intro k t s Q E c;obtain⟨d,p,r⟩:=c;intro f g;exact z.self k s _ _ ⟨d,aq (f _ _ p)⟩ g
theorem gr.list(hh:XW=none)(h:EV X m A d o E λc w=>∃b,c=.lst b/\N7 Zv (λe=>UG e .none) w):gr X m cu A l d o E N7:=λj s f=>W1 f λi n p c G a r S k=>by
  obtain⟨b,rfl,k⟩:=k;exact⟨i,G,_,_,[],a,S,Off.nil,BA.list hh r Yd,k⟩
variable{Pg:aT->ZP->Za->Prop}
theorem lB(b:Zcc)(n:∀y B e G,ZaX->Pg B e G->Pg y e G)(p:XX i=Zaa)(hn:V0 i=none)(hv:Va i=Za8)(t:(∃id,f=ZaJ)\/∃T,f=Za')(h:EA X m A (l::d) o E λj w=>∀y G c,ak X y A o w G->ao y j c->ZU YH m (VQ f c) (Pg y) bz G)(S:Zab)(u:Z3 ((i==("__debug__"))=false) aD)(he:Z3 (gH A l d) aR)(hp:Z3 (nr A d) aI):ZU YH m (ZG (.Call (.Name i V) (l::d) [] Yl) A) (Pg y) bz G:=by
 refine sL ?_ rfl;walk_at"a";refine(p_ (g:=λx w=>x=.raw f/\w=E) b p hn hv ⟨rfl,rfl⟩ u).use S λQ PM e mv PN a r z k=>?_;clear hv S;obtain⟨rfl,rfl⟩:=k;cases Vh;exact w9 t ((h Yl).use z (a:=λc s=>ZU YH m (VQ f c) (Pg y) bz s) λC s c j PR D F I N=>ZS (N C s c I F) (λO O q=>n _ _ _ _ (Xb D) q) λO O q=>q) he (hp Yl)
theorem nJ(a:ZH it=Zaq)(c:b.cls=.type "range_iterator")(h:d () G):ZbR:=iN a c Z' h
theorem BA.range(hh:XW=none)(hr:IsRange YI r a b 1 q u F)(i:a.natAbs<2^40)(hb:b.natAbs<2^40):BA X m cu M [] y G Zb0 (b-a).toNat (λk=>.int (a+k)):=λC D k=>by
  have p:Builtin.Range.small a b 1=true:=by
    unfold Builtin.Range.small;have e1:Sv a b 1=((b-a).toNat):=by
      walk_at"i";unfold Sv;simp only[gt_iff_lt,fk,eo,Int.ediv_one];split<;>(first|exact a9 0x1fdce9152e0e8ba2a5e96a [] [] [_,_] ‹_›|exact a9 0xfee748a96de696a [] [] [_,_] ‹_›)
    have f:∀z:Zw,z.natAbs<2^42->en z=true:=λz x=>by
      unfold en;simp only[YK,XU];exact a9 0x1fee9eacab0fd3eaa [4398046511104,9223372036854775808,9223372036854775808] [] [_] x
    rw[e1,f a (a9 0x7f4f0e9e1 [1099511627776,4398046511104] [_] [] i),f b (a9 0x7f4f0e9e1 [1099511627776,4398046511104] [_] [] hb),f 1 Z',f _ (by exact cF 0x3ffd3eb3a456ad3eabd3eaa [1099511627776,1099511627776,4398046511104] [] [_,_] hb i)]at⊢;simp only[gt_iff_lt,fk,eo,f (b+(1-1)) (a9 0x1fd3eb08b9cad3eaa [1099511627776,4398046511104] [] [_] hb),Bool.and_self,Bool.or_true]
  have hn:Sv a b 1=((b-a).toNat):=by
    unfold Sv;simp only[gt_iff_lt,fk,eo,Int.ediv_one];split<;>(first|exact a9 0x1fdce9152e0e8ba2a5e96a [] [] [_,_] ‹_›|exact a9 0xfee748a96de696a [] [] [_,_] ‹_›)
  refine wpAny_pyIter_range hr p ?_;rw[hn];have g:=Walks.range (prog:=Wj) (w:=Sl) hh ZZ a 1 (b-a).toNat;refine k ZaB _ [ZZ] (λk I h=>IsRangeIter h ZZ (a+k*1) (((b-a).toNat)-k) 1) ⟨?_,gO,?_,?_,?_,?_⟩ (Ct λb o O e=>ZC _ e) ?_ (λb hb=>by simp at hb;subst hb;exact .inl (ZV _));.intro k d N h j st O O O hw;exact hw _ (.head _) _ st
  .intro k d h st b hb;simp at hb;subst hb;exact⟨_,st,kH (by simp) λO O e=>by cases e⟩
  .intro k d s Q E A st l hw c;refine g.item k s _ _ A st λB j t hv n hx=>c B _ λS=>?_;refine nJ n rfl ⟨Ct hx,n,?_⟩;obtain⟨q,YA⟩:=hv;rw[YA];rw[Int.mul_one];exact a0 ..
  .intro d s Q E st l hw c;exact g.done s _ _ st λj t hx=>c _ (Ct hx)
  .intro k d s Q E st l c;exact g.self k s _ _ st c
  .show IsRangeIter _ _ _ _ _;simp only[Int.ofNat_zero,m3,Oj,Int.sub_zero];exact ZL _ rfl
theorem gr.qK(hh:XW=none)(b:Zcc)(hb:ZcX)(j:XX "range"=Zaa)(hn:V0 "range"=none)(hv:Va "range"=some ZaF)(h:EV X m A ZbS o E λe w=>∃z:Zw,e=.int z/\z.natAbs<2^40/\N7 G7 (λk=>.int k) w)(g:Z3 (Zr [d] A=(false,ZbS)::ZbB) aR)(hp:Z3 (∀Yl,(UJ Yl ZbB).any (·.1)=false) aI):gr X m cu A f (ZG (.Call (.Name "range" u) [d] [] Yl) A) o E N7:=λa s S=>by
 refine lB (Pg:=λa=>wo X m cu A f a o N7) b (λa p i s k=>wo.le k) j hn hv (.inr ⟨_,rfl⟩) (Zu (WT λe w l=>SA l λz Yw=>and3 Yw λhm n k=>Y6 ?_) g) S (by rfl) g hp;rw[hm];intro a s c S r;refine ib (NL:=λc=>ZU YH m (VQ (.type "range") c) Zba bz s) λi c r q=>q.jX (NL:=λc=>ZU YH m (VQ ZaF (i::c)) Zba bz s) ?_;walk_at"a";obtain⟨t,YA⟩:=g5;rw[YA];refine call_range_1 ⟨a,w,_,_,[],Zc9,(h9 _).toks _,Off.nil,BA.range hh (IsRange.new ..) Z' n,?_⟩;simpa using k
theorem gr.Aw(hh:XW=none)(b:Zcc)(hb:ZcX)(l:XX "range"=Zaa)(hn:V0 "range"=none)(hv:Va "range"=some ZaF)(h:EV X m A ZcN o E λe G=>∃y:Zw,e=.int y/\y.natAbs<2^40/\EV X m A ZbS o G λe w=>∃z:Zw,e=.int z/\z.natAbs<2^40/\N7 (z-y).toNat (λk=>.int (y+k)) w)(j:Z3 (Zr [i,d] A=(false,ZcN)::Zr [d] A) aR)(n:Z3 (Zr [d] A=(false,ZbS)::ZbB) aR)(hp:Z3 (∀Yl,(UJ Yl (Zr [d] A)).any (·.1)=false) aI):gr X m cu A f (ZG (.Call (.Name "range" F) [i,d] [] Yl) A) o E N7:=λa s S=>by
 refine lB (Pg:=λa=>wo X m cu A f a o N7) b (λa B g s k=>wo.le k) l hn hv (.inr ⟨_,rfl⟩) (Zu (WT λe w q=>?_) j) S (by rfl) j hp;obtain⟨y,rfl,hy,k⟩:=q;refine Zu (k.mono λC w q=>?_) n;obtain⟨z,rfl,p,k⟩:=q;refine Y6 ?_;intro a s c S r;refine ib (NL:=λc=>ZU YH m (VQ (.type "range") c) Zba bz s) λg c r q=>q.cS (NL:=λc=>ZU YH m (VQ ZaF (g::c)) Zba bz s) λu c x q=>q.jX (NL:=λc=>ZU YH m (VQ ZaF (g::u::c)) Zba bz s) ?_;walk_at"a";obtain⟨t,YA⟩:=g5;rw[YA];obtain⟨D,YA⟩:=x.int;rw[YA];exact call_range_2 ⟨a,w,_,_,[],Zc9,(h9 _).toks _,Off.nil,BA.range hh (IsRange.new ..) hy p,k⟩
variable{Pd:Wy}
theorem rS{R:TN->Za->Prop}{X0:gq}(I:U->Za->Prop)(UB:∀n G,I n G->ZU YH m (VP NI) (λr s=>match r with
   |none=>R (.ok .next) s|some f=>ZU YH m (Xm Nn NI f) (λO g=>ZU YH m (KP Nn A f) (λO i=>ZU YH m (forIn NP true λc r=>if r=true then do let ok<-XC c A ZcH;Ye (SV ok)else Ye (SV r)) (λok e=>if ok=true then ZU YH m ZaE (λx j=>ZU YH m (VQ ZbA [Pm,x]) (λO k=>∃b,b<n/\I b k) bz j) bz e else∃b,b<n/\I b e) bz i) bz g) bz s) bz G)(n:U)(h:I n G):U7 YH m (.compLoop (.ListComp Ng [⟨Nn,Pd,NP,0⟩] X0 Np) 0 NI Pm A) R G:=by
 refine codeAny_loop rfl I (λn G o=>?_) n h;walk_at"c";show ZU _ m ((compTurn (.ListComp Ng [⟨Nn,Pd,NP,0⟩] X0 Np) 0 NI Pm A).onRaise (λx=>do noteFrame x A;theTreesLotGoes x)) _ _ G;refine wpAny_noted ?_;walk_at"c";rw[compTurn_list];refine Z7 (Yo (Z7 (ZS (UB n G o) (λr s d=>?_) λO O a=>Q1)));cases r with|none=>exact Z5 d|some f=>
  refine Z7 (ZS d (λO g d=>?_) λO O a=>Q1);refine Z7 (ZS d (λO i p=>Z7 (ZS p (λok e l=>?_) λO O a=>Q1)) λO O a=>Q1);cases ok with|false=>exact Z5 ⟨rfl,l⟩|true=>exact Z7 (Z7 (ZS l (λx j q=>Z7 (ZS q (λO k t=>Z5 (Z5 ⟨rfl,t⟩)) λO O a=>Q1)) λO O a=>Q1))
def eQ(X:Cx)(A:XY)(YX:SM)(i:J Wy)(l:YS)(G:GH)(K:Y0->GH->Prop):Prop:=EB X A YX (forIn i true λc r=>if r=true then do let ok<-XC c YX (ZG c YX);Ye (SV ok)else Ye (SV r)) l G K
theorem h5(h:Nj true E):eQ X m A [] o E Nj:=λa s S=>wpAny_tests_nil ⟨a,E,Zc9,S,h⟩
theorem Gp(h:EB X m A (XC c A (ZG c A)) o E Nj):eQ X m A [c] o E Nj:=λa s S=>wpAny_tests_one (h a s S)
def ow(tk:U->Zs MV)(k:U):ZaV:=(Zi k).filterMap tk
theorem pJ(tk:U->Zs MV)(k:U):ow tk (k+1)=ow tk k++(tk k).toList:=by unfold ow;rw[T1,U6];cases h:tk k<;>simp[h]
theorem uv(tk:U->Zs MV)(k:U):(ow tk k).length<=k:=by unfold ow;exact YW (List.length_filterMap_le ..) (by simp)
inductive LM(G:GH)(o:Zs MV)(r:MV)(a:GH):Prop where|mk(g:a=G)(e:o=ZaW)
inductive E4(X:Cx)(A:XY)(c:SM)(e:Wy)(l:YS)(G:GH)(o:Zs MV)(b:Y0)(a:GH):Prop where|mk(g:a=G)(t:b=true->EV X A c (ZG e c) l G (LM G o))(f:b=false->o=none)
inductive E5(X:Cx)(c:SM)(l:YS)(G:GH)(D:Y_)(tk:U->Zs MV)(w:J Y_)(St:U->aT->D'->Prop)(n:U)(d:aT)(j:U)(s:Za):Prop where|mk(k:U)(a:aT)(e:k+j=n)(le:bG d a)(S:ak X a c l (Y8 G D (.list (ow tk k))) s)(st:St k a Tv)(f:∀b∈w,∀o,¬a b o)
theorem yG(t:Wk X m PY it T n PZ f Pw)(N:n<=ZK)(tg:∀k,k<n->TG X m PY c T (PZ k) (Pu k))(Q:∀k,k<n->Od l (Pu k l))(UB:∀k w,k<n->(∀a o,E a=Zai->w a=Zai)->eQ X m c P0 (Pu k l) w (E4 X m c P2 (Pu k l) w (tk k)))(hb:∀b∈f,Yz b=none/\c.locals≠b/\∀x V,c.cells.lookup x=some V->V≠b)(P4:E d=none)(P5:d∉f)(z:bG F y)(S:ak X y c l (Y8 E d (.list [])) G)(st:Pw 0 y YI)(hg:∀b∈f,E b=none/\∀o,¬y b o)(Ue:∀B C,bG F B->ak X B c l (Y8 E d (.list (ow tk n))) C->R (.ok .next) C):U7 YH m (.compLoop (.ListComp P2 [⟨T,WC,P0,0⟩] X0 Yl) 0 it ZaO c) R G:=by
  refine rS (E5 X c l E d tk f Pw n F) ?_ n ⟨0,y,Wi n,z,S,st,λb q=>(hg b q).2⟩;intro j G P6;obtain⟨k,y,D,z,S,st,hw⟩:=P6;walk_at"a";have P7:∀{b o},E b=Zai->b≠d:=λe q=>by rw[q,P4]at e;cases e
  have TU:gs X y (Y8 E d (.list (ow tk k))) c f:=λb q=>⟨(ag λe:b=d=>P5 (e▸q)).trans (hg b q).1,hw b q,hb b q⟩;by_cases p:k<n
  . refine t.next k y G _ _ p st Yd hw λP8 PM P9=>ZS (P9 _) (λ_ I q=>?_) λO O q=>q;obtain⟨mv,PN,Qa⟩:=q;walk_at"a";have PR:=S.mv TU mv;refine ZS (tg k p _ l _ I P8 (PR.zC TU) (t.JO _ _ _ _ _ p6 Qa)) (λO Qb Qc=>?_) λO O q=>Vr;walk_at"a";have OR:∀i r,bG (eW y f I.heap) i->ak X i c (Pu k l) (Y8 E d (.list (ow tk (k+1)))) r->∃PS,PS<j/\E5 X c l E d tk f Pw n F PS r:=λi r le u=>by
      have PT:∀b∈f,∀o,I.heap.get? b=Zai->i b o:=λb q o e=>le _ _ (.inr ⟨q,e⟩);have A:=(u.mZ λb q=>SA (t.obj _ _ _ PN b q) λo Yw=>Ug Yw λe Qd=>⟨o,PT b q o e,Qd⟩).1;have PW:bG y (gv i f):=λa o e=>⟨le _ _ (.inl e),λq=>hw a q o e⟩;exact⟨j-1,LS D p,k+1,gv i f,LJ D p,z.trans PW,A.forget (Q k p),t.frame _ _ _ _ _ PN PW.s PR.g.aG A.g.aG (λb q o e=>u.g.aG _ _ (PT b q o e)),λb q o e=>e.2 q⟩
    refine ZS (UB k _ p (λa o e=>(ag (P7 e)).trans e) _ Qb Qc) (λok r q=>?_) λO O q=>Vr;obtain⟨i,Qp,PX,u,Qe,ht,Qf⟩:=q;subst Qe;cases ok with
    |false=>exact OR i r PX (by rw[pJ,Qf rfl,Option.toList_none,Zn];exact u)|true=>
      refine ZS (ht rfl i r u) (λx Qq q=>?_) λO O q=>Vr;obtain⟨Qr,Qt,Qu,Qg,Qh,A,Qi,Qj⟩:=q;walk_at"a";subst Qi;refine ZS (lQ (g:=λO w=>w=Y8 E d (.list (ow tk (k+1)))) (aa ..) (YW (uv tk k) (J5 p N)) A (aE ..) Qh (by rw[aQ,pJ,Qj];rfl)) (λ_ Qk q=>?_) λO O q=>q;obtain⟨Ql,_,Qv,Qm,_,Qn,Qo⟩:=q;subst Qo;exact OR Ql Qk (PX.trans (Qg.trans Qm)) Qn
  .have OQ:=J0 D p;clear N tg Q UB;subst OQ;exact t.done y G _ _ st Yd hw λPM mv=>Ue y PM z (S.mv TU mv)
theorem a'(h:Ys x=ZaQ):(x,mv)∈o:=Vi h
structure qd(YX:SM)(X0:gq)(cl:J (Z×Y_))(l a:YS):Prop where
 LR:closureFor X0 YX=Ye cl
 kind:scope.kind=.function
 WE:∀x∈scope.names,x.2=.local->scope.names.lookup x.1=some .local
 Ho:∀x∈scope.names,x.2≠.cell
 sub:∀p∈cl,VR p.1=some p.2
 mB:∀p∈a,VU p.1=some p.2/\Yg p.1≠some .local/\((relabel X0 YX).names.lookup p.1=Zbm\/(relabel X0 YX).names.lookup p.1=some .free)/\(cl.lookup p.1).isSome=true
inductive xN(X:Cx)(A:XY)(I:n7)(YX:SM)(e t:Wy)(i:J Wy)(X0:gq)(cl:J (Z×Y_))(l:YS)(K:ZaV->GH->Prop)(n:U)(m:U->MV)(b:GH):Prop where|mk(f:U->YS->YS)(tk:U->Zs MV)(z:n<=ZK)(tg:∀C k,k<n->TG X A I ZcW t (m k) (f k))(sub:∀k,k<n->Od l (f k l))(UB:∀C k G,k<n->(∀a o,b a=Zai->G a=Zai)->eQ X A ZcW i (f k l) G (E4 X A (S6 X0 cl C YX) e (f k l) G (tk k)))(k:K (ow tk n) b)
theorem pF(l:YS)(mB:Zcr)(h:gr X m Qd A T ZaZ o E (xN X m Qd A PT T PW X0 cl l Pn))(Ue:∀os j C PX u a F,Pn os j->bG y u->ak X u A o j a->aw u (.lst os) (.ref PX)->gs X u j A [C]->a.heap.get? C=some F->(∃d Q,F.data=.dict d Q)->(∃V,a.heap.Ns C V)->compPost YH m bz use PY (.ref PX) C (.ok .next) a)(Qe:Zab)(hs:Z3 (∀x,ZbT=Ye x) aI):ZU YH m (comprehension (.ListComp PT [⟨T,WC,PW,0⟩] X0 Yl) X0 A QI (newList []) false ZaZ use) PY bz G:=by
  refine wpAny_comprehension_free rfl hs mB.LR mB.kind mB.names ?_;walk_at"a";refine ZS (h y G Qe) (λPZ QJ q=>?_) λO O q=>q;obtain⟨Qf,j,QK,QL,fr,Qg,S,Qh,Qi,QM,tk,Qj,tg,Qk,UB,Ql⟩:=q;obtain⟨n,P0,Qm,Qn,OB⟩:=S.liftT;refine Qi _ _ λit a Qo St I mv st hw=>?_;have r:ak X Qf A o j a:=S.K0 mv;have P2:aA X n j a:=by
    clear st r;obtain⟨QN,QP,YA,hx⟩:=mv;rw[YA];exact Qm.keep (λPM i e=>hx PM i (by simp) e)
  have TU:=Off.Ji S Qh hw;walk_at"a";have P4:∀b∈Qo,b<Xk:=λb q=>SA (I.obj _ _ _ st b q) λi Yw=>Ug Yw λe O=>XN e;refine Ym (wpAny_newFunctionEnv (mB.Ho) (by intro PN hy;simp at hy) (λt P5 P6=>?_) mB.kind);have P7:=P2.fresh (ZV _);have D:aA X n Zb3 {a with X_:=a.heap.push {Uc:=Zae,c':=none,Xg:=.seq [].toArray}}:=P2.new (Vs (#[]) 0 ⟨ZL _ rfl,.nil⟩);generalize P8:a.heap.push {Uc:=Zae,c':=none,Xg:=.seq [].toArray}=k at P5 P6 D⊢;have N:Ua=Xk+1:=by rw[<-P8,Kb]
  have old:∀b i,k.get? b=ZbI->t.get? b=ZbI:=λb i e=>P6.extBut b i (Zb (XN e)) (ZC _ e);have PR:aA X n Zb3 {a with X_:=t,Wf:=a.toks+([]:J (Z×ZP)).length}:=D.keep (λPM i e=>old PM i e);have P9:∀b i,a.heap.get? b=ZbI->t.get? b=ZbI:=λb i e=>old b i (P8▸ZC _ e);have p:∀x c,cl.lookup x=Zao->Xx x=Zao:=λx c e=>mB.sub (x,c) (Vi e);have Qp:CV X n Zb3 (S6 X0 cl Ua A) l t:=by
    walk_at"7";refine⟨mB.kind,G2,ta,⟨_,P5,λx mv hx w=>?_⟩,λx c z=>?_,λx mv hx=>?_,⟨?_,λi e=>?_,?_⟩,λx c z=>⟨?_,?_,λQq i e=>?_⟩,λx PN c hx hy=>y0 x PN c (p x c hx) (p PN c hy)⟩;.obtain⟨_,_,OQ,_⟩:=mB.mB _ (a' hx);have:(S6 X0 cl Ua A).kindOf x=(relabel X0 A).names.lookup x:=rfl;rw[this]at w;rw[w]at OQ;rcases OQ with e|e<;>cases e
    .obtain⟨PZ,⟨i,Qr,hd⟩,hv⟩:=r.f.yo x c (p x c z);walk_at"b";refine⟨PZ,⟨i,P9 _ _ Qr,hd⟩,λmv hx O=>?_⟩;walk_at"b";obtain⟨e1,e2,_⟩:=mB.mB _ (a' hx);clear hd;obtain⟨Qt,rfl,Qu⟩:=hv mv e1 e2;exact⟨Qt,rfl,Qu.mono P0⟩
    .obtain⟨_,_,OQ,Qv⟩:=mB.mB _ (a' hx);exact .inr ⟨OQ,e3 Qv⟩
    .show Y8 _ _ _ Ua=none;exact D.fresh (ZV _)
    .exact Zc (XN (D.aG _ _ e)) (UE _)
    .exact D.hU (ZV _)
    .have:=r.kA (p x c z);rw[ag (Zb this)];exact(W8 x c (p x c z)).1
    .exact(W8 x c (p x c z)).2.1
    .have:=r.kA (p x c z);have Qw:Ua<c:=Qq;exact Zc (w' this (N▸Wr Xk)) (Nat.lt_asymm Qw)
  have Qx:ak X n (S6 X0 cl Ua A) l Zb3 {a with X_:=t,Wf:=a.toks+[].length}:=⟨PR,Qp⟩;have Qa:St 0 n t:=I.frame _ _ _ _ _ st P0.s r.g.aG PR.aG λb q i e=>P9 b i e;have loop:U7 YH m (.compLoop (.ListComp PT [⟨T,WC,PW,0⟩] X0 Yl) 0 it (.ref Xk) (S6 X0 cl Ua A)) (compPost YH m bz use PY (.ref Xk) Ua) {a with X_:=t,Wf:=a.toks+[].length}:=by
    walk_at"w";refine yG (F:=n) I Qj (λPS w=>tg _ PS w) Qk (λPS Qy w hx=>UB _ PS Qy w hx) (λb q=>⟨(TU b q).2.2.1,?_,λx c hx=>(TU b q).2.2.2.2 x c (p x c hx)⟩) P7 (λq=>Zc (P4 _ q) (UE _)) (.refl _) Qx Qa (λb q=>⟨(TU b q).1,λi e=>?_⟩) λQQ Qb le Qz=>?_;.show Ua≠b;exact Zh (Zb (w' (P4 b q) (N▸Wr Xk)))
    . refine(Qn _ _ e).elim (λh=>?_) λYB=>YB.elim (λh=>?_) λYA=>?_;.exact(TU b q).2.1 i h
      .exact(TU b q).2.2.2.1 h.symm
      .obtain⟨x,h⟩:=YA;exact(TU b q).2.2.2.2 x b h rfl
    . obtain⟨QA,QB,QC,B⟩:=Qz.jc (aa ..);rw[my _ _ _ P7]at B;obtain⟨u,QD,QE,rep,QF⟩:=OB QA j Qb (b4 QB) B.g;obtain⟨V,Qc,_⟩:=B.f.loc;obtain⟨F,d,Q,QG,QH,_⟩:=id Qc;refine Ue _ j Ua Xk u Qb F Ql (Qg.trans QD) QE (QC.ip rep) ?_ QG (Vs d Q QH) ⟨V,Qc⟩;intro b hb;simp only[Wu]at hb;rw[hb];refine(andI5 B.f.lG.1 (λi e=>B.f.lG.2.1 i (QF _ _ e)) B.f.lG.2.2 ?_ (λx c hx=>?_));.exact Zb (w' r.lW (N▸Wr Xk))
      .exact Zb (w' (r.kA hx) (N▸Wr Xk))
  exact codeAny_compStart_list loop (I.self 0 n _ _ _ Qa PR.aG loop)
theorem EV.comp(l:YS)(mB:Zcr)(h:gr X m c A a ZaZ o E (xN X m c A d a i X0 cl l λos=>g (.lst os)))(hs:Z3 (∀x,ZbT=Ye x) aI):EV X m A (ZG (.ListComp d [⟨a,WC,i,0⟩] X0 Yl) A) o E g:=λw y S=>by
 walk_at"a";refine pF (use:=none) l mB h (λos G C D f s z k le j r TU B O hm=>?_) S hs;obtain⟨n,hm⟩:=hm;exact⟨n,hm,λp t=>⟨f,_,G,le,r,j.mv TU (Vs p (Uu) ⟨rfl,λb u hb e=>t.extBut b u (λq=>hb (Xv q)) e⟩),k⟩⟩
theorem EF.Jc(l:YS)(mB:Zcr)(z:Zc5)(h:gr X m M A n ZaZ o E (xN X m M A F n i X0 cl l λos=>D .next (aJ x (.lst os) o)))(hw:Z3 (Oc (.ListComp F [⟨n,WC,i,0⟩] X0 Yl) (some (.Name x u)) a.line A=Ye true) aR)(hs:Z3 (∀x,ZbT=Ye x) aI):EF X m A (TP (.Assign [.Name x u] (.ListComp F [⟨n,WC,i,0⟩] X0 Yl) a) A) o E D:=λB PT I=>by
 walk_at"a";rw[exec_Assign_Name_used x u _ a hw];refine Z7 (Yo (Z7 ?_));walk_at"a";show ZU _ _ (comprehension _ X0 A _ (newList []) false ZaZ (some _)>>=_) _ _ _;refine Z7 (ZS (pF (use:=some (w_ (.Name x u) A)) (PY:=λO j=>PF X A B D .next j) l mB h (λos G C PW c s p k le N r TU t Q hm=>?_) I hs) (λO O q=>Z5 (Z5 q)) λO O q=>q);walk_at"8";have T:=N.zC TU;refine V9 (T.st (Uv p6) z λj S=>?_);walk_at"b";have w:eW c [C] Tv C p:=.inr ⟨.head _,t⟩;obtain⟨V,PX,d,y,hm,hr⟩:=hm;rw[t]at hm;cases hm;refine⟨V,(exI3 p d y ⟨Yd _ _ w,hr⟩),λPM PN=>?_⟩;obtain⟨PR,PY,_⟩:=S.mZ (l:=[C]) λb q=>by
  rw[ZD q];exact⟨p,w,ex2 Q λd y hd=>Fx (λO O e=>nomatch p7 e) λO e=>nomatch p7 e⟩
 refine⟨gv (eW c [C] Tv) [C],.next,_,G,b4 (λPS f e=>⟨.inl e,λq=>(TU PS q).2.1 f e⟩:bG c (gv (eW c [C] Tv) [C])),rfl,?_,k⟩;exact PR.mv (λb q=>⟨(TU b q).1,λf e=>e.2 q,(TU b q).2.2⟩:gs X (gv (eW c [C] Tv) [C]) G A [C]) (Vs PM j.toks ⟨rfl,λb f hb e=>PN.extBut b f (λq=>hb (Xv q)) e⟩)
section
open PySem.Builtin.Str(strSliceIndices)
theorem qf(hl:V8 Za' "__getitem__"=Ye Zb2)(h:ZU Zbr m Zcs (λo d=>ZU Zbr m (ZG (.Slice lower upper none k) A) (λi s=>s.TypeIs o T/\ZU Zbr m (ll o i) f b s) b d) b G):ZU Zbr m (ZG (.Subscript U2 (.Slice lower upper none k) Yl) A) f b G:=by
  refine Z7 (ZS h (λo d g=>Z7 (ZF (ZS g (λi s c=>Z7 (Yo ?_)) λO O x=>x))) λO O x=>x);have Ue:ZU Zbr m (operate [i,o] (ll o i)) (λr e=>ZU Zbr m (Sb U2 o r>>=λO=>Ye r) f b e) b s:=wpAny_operating (ZS c.2 (λr e j=>Z7 (wpAny_letTemporaryGo (Z5 j))) λO O x=>x);first
    |(refine Z7 ?_;walk_at"a";refine Z7 (VA c.1 hl ?_);first
         |exact Z5 (Z7 Ue)|exact Z7 (Z5 (Z7 Ue))|exact Z7 Ue)
    |(refine Z7 (VA c.1 hl ?_);first|exact Z7 (Z5 (Z7 Ue))|exact Z7 Ue)
theorem oS(hl:V8 Za' "__getitem__"=Ye Zb2)(h:ZU Zbr m Zcs (λo d=>ZU Zbr m (ZG (.Slice lower upper (some k) l) A) (λi s=>s.TypeIs o T/\ZU Zbr m (ll o i) f b s) b d) b G):ZU Zbr m (ZG (.Subscript U2 (.Slice lower upper (some k) l) Yl) A) f b G:=by
  refine Z7 (ZS h (λo d g=>Z7 (ZF (ZS g (λi s c=>Z7 (Yo ?_)) λO O x=>x))) λO O x=>x);have Ue:ZU Zbr m (operate [o,i] (ll o i)) (λr e=>ZU Zbr m (Sb U2 o r>>=λO=>Ye r) f b e) b s:=wpAny_operating (ZS c.2 (λr e j=>Z7 (wpAny_letTemporaryGo (Z5 j))) λO O x=>x);first
    |(refine Z7 ?_;walk_at"a";refine Z7 (VA c.1 hl ?_);first
         |exact Z5 (Z7 Ue)|exact Z7 (Z5 (Z7 Ue))|exact Z7 Ue)
    |(refine Z7 (VA c.1 hl ?_);first|exact Z7 (Z5 (Z7 Ue))|exact Z7 Ue)
def rn:Zs Zw->MV|none=>.none|some i=>.int i
theorem rn.part(r:aw y (rn a) b):IsPart b a:=by cases a with|none=>rw[Vh];exact .none|some i=>obtain⟨t,rfl⟩:=g5;exact .int i t
inductive MS(K:Zs Zw->GH->Prop)(m:MV)(G:GH):Prop where|mk(o:Zs Zw)(e:m=rn o)(k:K o G)
inductive MZ(K:Zs Zw->GH->Prop)(m:MV)(G:GH):Prop where|mk(i:Zw)(e:m=ZaN)(k:K ZbI G)
def gZ(X:Cx)(A:XY)(YX:SM)(e:Zs Wy)(l:YS)(G:GH)(K:Zs Zw->GH->Prop):Prop:=EV X A YX (evalPart e YX) l G (MS K)
variable{PG:Zs Zw->GH->Prop}
theorem SU(h:PG none E):gZ X m A none o E PG:=λa s S=>Z5 ⟨a,.none,E,Zc9,aE ..,S,s',rfl,h⟩
theorem U5(h:EV X m A Zcn o E (MZ PG)):gZ X m A Zax o E PG:=EV.mono h λc G b=>by obtain⟨i,a,k⟩:=b;exact⟨Option.some i,a,k⟩
def cC{α:Type}(m:J α)(lo a:Zs Zw):J α:=(m.drop (ek 0 (Gf V_))).take (Q1 V_ (Gf V_)-ek 0 (Gf V_))
theorem eN(m:J α)(a:U):cC m Zax none=m.drop a:=by
 unfold cC;simp only[OO,clipAt_nat];refine(k5 a V_).elim (λh=>?_) λh=>?_;.rw[OE h,YQ (by simp)]
 .rw[RO h,Vn (by simp),Vn (by simpa using h)];simp
theorem iV(m:J α)(b:U):cC m none Zaq=m.take b:=by
 unfold cC;simp only[OO,clipAt_nat,Ur,Nat.sub_zero];refine(k5 b V_).elim (λh=>?_) λh=>?_;.rw[OE h]
 .rw[RO h,YQ (by simp),YQ (by simpa using h)]
theorem n3(m:J α):cC m none none=m:=by simp[cC]
theorem fL(m:J α)(a b:U):cC m Zax Zaq=(m.drop a).take (b-a):=by
  unfold cC;simp only[OO,clipAt_nat];refine(k5 a V_).elim (λh=>?_) λh=>?_
  . rw[OE h];refine(k5 b V_).elim (λc=>?_) λc=>?_;.rw[OE c]
    .rw[RO c,YQ (by simp),YQ (by simp;exact aV 0x7f301c4620e441 [_,_,_] c)]
  .rw[Vn h,Vn (by rw[RO h];exact ZV _)];simp
theorem ao.slice(r:ao y b mu)(lo a:Zs Zw):ao y (cC b lo a) (slicePick c lo a s').toList:=by
 rw[slicePick_plain,b7];exact(r.drop _).take _
inductive J8(K:MV->GH->Prop)(lo a:Zs Zw)(b:MV)(G:GH):Prop where|mk(m:ZaV)(h:cf G b=Zcg)(z:V_<=ZK)(k:K (.lst (cC m lo a)) G)
theorem t_(h:EV X m A Zcs o E λd G=>gZ X m A lower o G λlo e=>gZ X m A upper o e λb=>J8 g lo b d):EV X m A (ZG (.Subscript U2 (.Slice lower upper none T) Yl) A) o E g:=λV PM l=>by
 walk_at"a";refine qf (T:="list") list_getitem_lookup (W1 l λPN PR PS d G p r q t=>wpAny_Slice (EV.use t q λPT PW f PX e i u w c=>?_));walk_at"a";obtain⟨lo,rfl,c⟩:=c;refine EV.use c w λPY s j PZ x a y S k=>?_;obtain⟨b,rfl,k⟩:=k;obtain⟨P0,hm,z,k⟩:=k;obtain⟨B,C,n,rfl,D,rl⟩:=listAt hm S (Uv (i.trans a));refine Z5 ?_;have g':(Ts {Uc:=.type "slice",Xg:=.fields #[f,j,.none]}).get? B=some (X8 (.type "list") C n):=ZC _ D;refine⟨(aq g').typeIs,wpAny_getItem_list_slice (aq g') (Heap.IsSliceOf.new ..) (rn.part (u.mono a)) (rn.part y) .none Z' ?_ (by rw[W0];exact z)⟩;have F:=h9 {Uc:=.type "slice",Xg:=.fields #[f,j,.none]};obtain⟨I,M,N,Q⟩:=F.iG (T:="list") (rl.slice lo b);refine⟨I,_,x,((ee i).trans a).trans M,N,?_,k⟩;exact Q
theorem oT(a:Ud ZP):slicePick a none none (some (-1))=a.toList.reverse.toArray:=by
  unfold slicePick;have e:sp none none (some (-1)) T9=((T9:Zw)-1,-1,-1):=by simp[sp]
  rw[e];have h2:sliceRange (T9-1) (-1) (-1)=(Zi T9).map λk=>T9-1-k:=by
    have:=picked_rev T9;unfold fj at this;exact this
  simp only[h2];congr 1;apply G6;intro f;rw[List.filterMap_map];have:(Zi T9).filterMap ((λx=>a[x]?)∘λk=>T9-1-k)=(Zi T9).map λk=>(a[T9-1-k]?).getD .none:=by
    have gen:∀i:J U,(∀k∈i,k<T9)->i.filterMap ((λx=>a[x]?)∘λk=>T9-1-k)=a_ λk=>(a[T9-1-k]?).getD .none:=by
      intro i;induction i with|Yk=>intro O;rfl|Zp k i g=>
        intro b;have c:T9-1-k<T9:=by exact JG (b k Y5)
        rw[qn,Yb,g λj hj=>b j (ZX _ hj)];simp[c]
    exact gen _ λk b=>WY b
  rw[this];by_cases d:f<T9
  . have c:T9-1-f<T9:=by exact JG d
    simp[d,c]
  .simp[d]
theorem EV.tD(h:EV X m A Zcs o E λc d=>EV X m A ZaE o d λe G=>∃b,e=.int (-1)/\cf G c=Zaq/\Zv<=ZK/\g (.lst b.reverse) G):EV X m A (ZG (.Subscript U2 (.Slice none none (some Ng) F) Yl) A) o E g:=λI M f=>by
 walk_at"a";refine oS (T:="list") list_getitem_lookup (W1 f λN Q T c d i r j l=>wpAny_Slice ?_);refine Z5 (Z5 (EV.use l j λV s PM PN G a p S k=>?_));walk_at"g";obtain⟨b,rfl,hm,q,k⟩:=k;obtain⟨u,w,n,rfl,x,rl⟩:=listAt hm S (Uv a);obtain⟨t,rfl⟩:=p.int;have g':(Ts {Uc:=.type "slice",Xg:=.fields #[.none,.none,.int (-1) t]}).get? u=some (X8 (.type "list") w n):=ZC _ x;refine⟨(aq g').typeIs,wpAny_getItem_list_slice (aq g') (Heap.IsSliceOf.new ..) .none .none (.int (-1) t) Z' ?_ (by rw[W0];exact q)⟩;have y:=h9 {Uc:=.type "slice",Xg:=.fields #[.none,.none,.int (-1) t]};obtain⟨z,B,C,D⟩:=y.iG (T:="list") rl.reverse;refine⟨z,_,G,(i.trans a).trans B,C,?_,k⟩;rw[oT];exact D
theorem kP(lo a:Zs Zw)(n:U):fj lo a 1 n=(Zi (Q1 n (Gf n)-ek 0 (Gf n))).map (ek 0 (Gf n)+.):=by
 unfold fj;have e:sliceRange (sp lo a none n).1 (sp lo a none n).2.1 1=(Zi (Q1 n (Gf n)-ek 0 (Gf n))).map (ek 0 (Gf n)+.):=by rw[(sliceBounds_plain lo a n)];exact sliceRange_one _ _
 rw[<-e];clear e;cases lo<;>cases a<;>simp[sp]
def eT(x:Z)(lo a:Zs Zw):Z:=⟨(cC Tf lo a).toArray⟩
theorem uk(x:Z)(lo a:Zs Zw):(eT x lo a).length<=ZO:=by
 show(cC Tf lo a).toArray.size<=a6;unfold cC;simp only[Wb,Zo,Ze,Yv];exact KG
theorem wU{t:nj}{lo:Zs (Zw×nj)}(b:ZO<=ZK)(h:∀t n,i (.str (eT x (lo.map (·.1)) (ON (·.1))) t) {G with Wf:=n}):(sliceMade x t lo a none).post i G:=by
  have e:((slicePicked x lo a none).filterMap (x.cps[.]?)).toArray=(eT x (lo.map (·.1)) (ON (·.1))).cps:=by
    unfold slicePicked eT;rw[kP,pick_run];rfl
  unfold sliceMade;refine bQ rfl (λd=>?_) λO=>?_
  . simp only[Option.map_none,Option.getD_none,YK,V7]at d;have hx:eT x (lo.map (·.1)) (ON (·.1))=x:=by
      have hl:=d.2;unfold slicePicked at hl;simp only[Option.map_none,Option.getD_none]at hl;rw[kP,Z2,WX]at hl;unfold eT cC;have f:x.cps.toList.length=ZO:=by simp[Str.length]
      have j:(ON (·.1)).elim ZO (Gf ZO)<=ZO:=by
        clear h e d hl;cases a with|none=>exact ZV _|some p=>simp only[Option.map_some,OO];unfold Gf;exact fF 0x190d2f69854d [] [_] [_]
      by_cases g:(lo.map (·.1)).elim 0 (Gf ZO)=0;.rw[g,Ur,YQ (by rw[f];exact aV 0x7f316847b1c441 [_,_,_] hl)]
      . have:ZO=0:=by exact fX 0x3fffeda3e6da2c8c3b1c441 [_,_,_] hl j g
        have b:=Xl (bw 0x7ffb68b6116da1 [_,_] this f);cases x with|mk c=>simp at b;rw[b];simp
    have:=h t Wv;rw[hx]at this;exact this
  .have:=h Wv (Wv+1);rw[e];exact⟨YW (uk x _ _) b,this⟩
theorem rn.EE(r:aw y (rn a) b):∃p:Zs (Zw×nj),b=partValue p/\p.map (·.1)=a:=by cases a with|none=>rw[Vh];exact⟨s',rfl,rfl⟩|some i=>obtain⟨t,rfl⟩:=g5;exact⟨Option.some (i,t),rfl,rfl⟩
theorem EV.wB(h:EV X m A Zcs o E λc d=>gZ X m A lower o d λlo e=>gZ X m A upper o e λf G=>∃x,c=.str x/\ZO<=ZK/\g (.str (eT x lo f)) G):EV X m A (ZG (.Subscript U2 (.Slice lower upper none M) Yl) A) o E g:=λB s S=>by
 walk_at"a";refine qf (T:="str") F.slot_str_getitem.lookup (W1 S λC D I c d a r j i=>wpAny_Slice (EV.use i j λN Q T V e l p q k=>?_));walk_at"a";clear i;obtain⟨lo,rfl,k⟩:=k;refine EV.use k q λt PM PN PR G u w y b=>?_;clear k;obtain⟨f,rfl,x,rfl,z,b⟩:=b;obtain⟨PS,rfl⟩:=u0;obtain⟨p1,rfl,e1⟩:=rn.EE p;obtain⟨p2,YA,e2⟩:=rn.EE w;rw[YA];refine Z5 ⟨xb ..,wpAny_getItem_str_slice (l:=p1) (u:=p2) (st:=none) ⟨_,ZL _ rfl,rfl,rfl⟩ rfl (wU z λPT n=>?_)⟩;rw[e1,e2];walk_at"9";exact⟨t,_,G,(Xb l).trans u,bp ..,(y.push _).toks n,b⟩
end
section
open PySem.Builtin.Str(occurrences)
theorem EV.Cw(h:EV X m A ZaE o E λa G=>∃x,a=.str x/\EV X m A Zco o G λb c=>∃y i XE,b=.str y/\so x y 0 ZO 1=i::XE/\g ZaN c)(he:Z3 (eL A Ng ("index") Np [Nn] Ny Nz) aR)(d:Za5):EV X m A (ZG (.Call (.Attribute Ng ("index") Np) [Nn] [] Ny) A) o E g:=by
 refine k' (Nz:=Nz) Ca F.slot_str_index F.type_str_index (WT λa G hm=>?_) he d;obtain⟨x,YA,h⟩:=hm;rw[YA];refine⟨cv.str,Zu (WT λb c hx=>Y6 λl s n p S r rs=>?_) d⟩;walk_at"a";obtain⟨y,i,XE,rfl,e,k⟩:=hx;obtain⟨q,YA,f⟩:=rs.u;rw[YA];obtain⟨t,YA⟩:=u0;rw[YA];obtain⟨j,YA⟩:=f.str;rw[YA];exact call_gives F.slot_str_index (xb ..) F.entry_str_index (F.args_str_index_2 _ _) (gives_str_index x y t j i XE e) (U0 S (a0 ..) k)
theorem Bb(hg:E a=some (.list (c++[x])))(f:YZ+1<=ZK)(S:Zab)(r:aw y Zag i)(k:g x (Y8 E a (.list c))):ZU YH m (VQ (.builtin "list.pop") [i]) Zad bz G:=by
 walk_at"a";obtain⟨YA,b,n,e,rl⟩:=lK hg S r;rw[YA];have d:b.size=YZ+1:=by rw[W0,Z1];rfl
 obtain⟨u,j,l⟩:=h7 YZ (a:=x) (by simp);have p:b[b.size-1]?=some u:=by rw[d];simpa using j
 refine SK F.slot_list_pop ⟨_,e,rfl⟩ F.entry_list_pop (F.args_list_pop_1 _) (MeetsSeq.list_pop_last a b n u p (by rw[d];exact f)) ⟨e,?_⟩;refine PV.set S e hg ?_ l k;have:(b.eraseIdxIfInBounds (b.size-1)).toList=b.toList.take YZ:=by
  rw[Array.eraseIdxIfInBounds,dif_pos (by exact aV 0x7f418b83b83841 [_,_] d),Array.toList_eraseIdx,List.eraseIdx_eq_take_drop_succ,Vn (by simp;exact cY 0x660e8b821 [_]),Zn,d];rfl
 rw[this];have:=rl.take YZ;simpa using this
theorem EV.pop(h:EV X m A ZaE o E λc G=>∃a b x,c=Zag/\G a=some (.list (b++[x]))/\Zv+1<=ZK/\g x (Y8 G a (.list b)))(he:Z3 (eL A Ng ("pop") Np [] Ny Nz) aR):EV X m A (ZG (.Call (.Attribute Ng ("pop") Np) [] [] Ny) A) o E g:=by
 refine EV.EW (Nz:=Nz) Sd F.slot_list_pop F.type_list_pop (WT λc G hm=>?_) he;walk_at"g";obtain⟨a,b,x,rfl,hg,d,k⟩:=hm;exact⟨et (dg hg),λe s f S r=>Bb hg d S r k⟩
theorem vJ(rm:Rm X m T)(hm:cf E l=some (k3 .str))(S:Zab)(r:aw y l b)(j:aw y (.str d) u)(k:g (.int (t.countP (.==d):U)) E):ZU YH m (VQ (.builtin "list.count") [b,u]) Zad bz G:=by
  walk_at"a";obtain⟨a,c,n,YA,f,rl⟩:=listAt hm S r;rw[YA];obtain⟨e,YA⟩:=j.str;rw[YA];have p:∀(t:J Z)c,ao y (k3 .str) c->(∀b∈c,∃x e,b=.str x e)/\c.countP (λb=>match b with|.str x _=>x==d|_=>false)=t.countP (.==d):=by
    intro t;induction t with
    |Yk=>intro c r;rw[r];exact⟨jK,rfl⟩|Zp x t i=>
      intro c r;obtain⟨b,q,rfl,s,rl⟩:=r;walk_at"l";obtain⟨e,rfl⟩:=s.str;obtain⟨h1,h2⟩:=i q rl;refine⟨λb hv=>?_,?_⟩
      . refine(ZI hv).elim (λYA=>?_) λhv=>?_;.rw[YA];exact⟨x,e,rfl⟩
        .exact h1 b hv
      .rw[P',P',h2]
  obtain⟨h1,h2⟩:=p t mu rl;refine SK F.slot_list_count ⟨_,f,rfl⟩ F.entry_list_count (F.args_list_count_2 _ _) (SeqAt.list_countAt a c n none #[] (.str d e) (λb=>match b with|.str x _=>x==d|_=>false)) ⟨f,λb hv=>?_,?_⟩;.obtain⟨x,w,YA⟩:=h1 b (Array.mem_toList_iff.mpr hv);rw[YA];exact SeqAt.EqAt.str_str x w d e
  .rw[h2];exact U0 S (a0 ..) k
theorem EV.count(rm:Rm X m j)(h:EV X m A ZaE o E λa G=>∃x:J Z,a=.lst (gy .str)/\EV X m A Zco o G λb c=>∃y,b=.str y/\g (.int (x.countP (.==y):U)) c)(he:Z3 (eL A Ng ("count") Np [Nn] Ny Nz) aR)(d:Za5):EV X m A (ZG (.Call (.Attribute Ng ("count") Np) [Nn] [] Ny) A) o E g:=by
 refine k' (Nz:=Nz) Sd F.slot_list_count F.type_list_count (WT λa G hm=>?_) he d;obtain⟨x,YA,h⟩:=hm;rw[YA];refine⟨et (aF ..),Zu (WT λb c hx=>Y6 λf s i l S r rs=>?_) d⟩;walk_at"a";obtain⟨y,rfl,k⟩:=hx;obtain⟨n,YA,e⟩:=rs.u;rw[YA];exact vJ rm (aF ..) S r e k
end
def a5(a:aT)(m c:MV):Prop:=∀b,aw a m b->aw a c b
theorem Reads.refl(m:MV):a5 y m m:=λO r=>r
inductive jZ(a:aT):ZaV->J MV->Prop|Yk:jZ a [] []|Zp{m b c d}:a5 a m b->jZ a c d->jZ a (m::c) (b::d)
theorem jZ.rep(h:jZ y f k):∀{c},ao y f c->ao y k c:=by induction h with|Yk=>exactλr=>r|Zp h O i=>
  intro c r;obtain⟨d,g,e,a,b⟩:=r;exact⟨d,g,e,h d a,i b⟩
theorem Reads.seq(h:jZ y b d):a5 y (.seq c b) (.seq c d):=λi r=>by
 obtain⟨a,f,n,e,g,rl⟩:=r;exact⟨a,f,n,e,g,h.rep rl⟩
theorem Reads.ref(h:aw y b Zag):a5 y Zag b:=λc r=>by rw[Vh];exact h
theorem ak.fz(S:Zab)(as:J (Y_×J MV))(j:∀p∈as,E p.1=some (.list p.2))(hG:∀a d,i a=ZaD->E a=ZaD/\a∉h4 (·.1)):∃B,ZaX/\(∀p∈as,aw B (.lst p.2) (.ref p.1))/\ak X B A o i G:=by
 walk_at"b";have hm:∀b∈h4 (·.1),∃m,E b=ZcB:=λb hb=>by obtain⟨p,hp,rfl⟩:=Zl hb;exact⟨p.2,j p hp⟩
 have TU:gs X y i A (h4 (·.1)):=λb hb=>by
  obtain⟨m,e⟩:=hm b hb;refine⟨?_,λd p=>?_,OZ _ _ e,λq=>?_,λx c hx q=>?_⟩;.cases h:i b with|none=>rfl|some d=>exact Zc hb (hG b d h).2
  .have:=OC b d p;exact ax (SS e)
  .have:=S.f.lG.1;rw[q,e]at this;cases this
  .have:=(W8 x c hx).1;rw[q,e]at this;cases this
 refine⟨_,p6,λp hp=>?_,(S.drop λa d e=>(hG a d e).1).zC TU⟩;walk_at"aa";obtain⟨k,n,l,r⟩:=Wd _ _ (j p hp);exact⟨p.1,k,n,rfl,.inr ⟨Yu ⟨p,hp,rfl⟩,l⟩,Uv p6⟩
theorem EF.fz(as:J (Y_×J MV))(G:GH)(l:YS)(f:∀p∈as,E p.1=some (.list p.2))(hG:∀a b,G a=Zaq->E a=Zaq/\a∉h4 (·.1))(hl:∀y,(∀p∈as,aw y (.lst p.2) (.ref p.1))->∀p∈l,∃c,Ys p.1=Zao/\a5 y c p.2)(h:EF X m A i l G D):EF X m A i o E D:=λk s S=>by
 obtain⟨d,g,r,j⟩:=S.fz as f hG;refine ZS (h d s (j.eE λx mv e=>?_)) (λO O q=>l' g) λO O q=>q;exact hl d r (x,mv) (Vi e)
theorem EV.fz(h:EV X m A l o E λd G=>∃(as:J (Y_×J MV))(b:GH)(c:MV),(∀p∈as,G p.1=some (.list p.2))/\(∀a e,b a=Zb6->G a=Zb6/\a∉h4 (·.1))/\(∀y,(∀p∈as,aw y (.lst p.2) (.ref p.1))->a5 y d c)/\g c b):EV X m A l o E g:=λz s S=>W1 S λB C j d G n r q k=>by
  obtain⟨as,b,c,t,hG,hr,u⟩:=k;obtain⟨f,i,w,x⟩:=q.fz as t hG;exact⟨f,c,b,n.trans i,hr f w j (Uv i),x,u⟩
theorem EF.xR(h:EV X m A ZcH o E λmv w=>D .next (aJ b mv (aJ x mv o)) w)(hx:Zc5)(hy:aM A b)(hw:Z3 (Gu [.Name x d,.Name b q] c A=Ye none) aR):EF X m A (TP (.Assign [.Name x d,.Name b q] c Yl) A) o E D:=λj s S=>wpAny_Assign_two (W1 S λe l n mv w a r f k=>V9 (f.st r hx λp g=>V9 (g.st r hy λt i=>⟨e,.next,_,w,a,rfl,i,k⟩))) rfl hw
theorem EF.C4(h:EV X m A ZbS o E λmv w=>D .next (aJ b mv (aJ c mv (aJ x mv o))) w)(hx:Zc5)(hy:aM A c)(e:aM A b)(hw:Z3 (Gu [.Name x f,.Name c q,.Name b i] d A=Ye none) aR):EF X m A (TP (.Assign [.Name x f,.Name c q,.Name b i] d Yl) A) o E D:=λt s S=>wpAny_Assign_three (W1 S λg u y mv w a r j k=>V9 (j.st r hx λz l=>V9 (l.st r hy λB n=>V9 (n.st r e λC p=>⟨g,.next,_,w,a,rfl,p,k⟩)))) rfl hw
theorem yE{α:Type}(m:J α)(f:α->Zs MV):ow (λ(k:U)=>(m[k]?).bind f) V_=m.filterMap f:=by
 unfold ow;walk_at"r";have:∀n,n<=V_->(Zi n).filterMap (λk=>(m[k]?).bind f)=(m.take n).filterMap f:=by
  intro n;induction n with|V1=>intro O;simp|VF n i=>
   intro h;rw[T1,U6,i (O7 h),X9,U6];have:n<V_:=by exact JD h
   refine gG (f m[n]) (λh=>?_) λy h=>?_;.rw[List.filterMap_cons_none (by rw[Z6 this];exact h),J_,Z6 this,U_,List.filterMap_cons_none h,J_]
   .rw[List.filterMap_cons_some (by rw[Z6 this];exact h),J_,Z6 this,U_,List.filterMap_cons_some h,J_]
 rw[this _ (ZV _),XT]
theorem oh{α:Type}(x:J α)(U3:α->Y0)(val:α->MV):x.filterMap (λa=>if U3 a then some (val a)else none)=(x.filter U3).map val:=by induction x with|Yk=>rfl|Zp a x i=>
  by_cases h:U3 a=true;.simp[h,i]
  .simp[h,i]
inductive Hl(G:GH)(m r:MV)(a:GH):Prop where|mk(g:a=G)(e:r=m)
inductive HO(X:Cx)(A:XY)(c:SM)(e:Wy)(l:YS)(G:GH)(a:Y0)(m:MV)(b:Y0)(d:GH):Prop where|mk(g:d=G)(a:b=a)(t:b=true->EV X A c (ZG e c) l G (Hl G m))
structure Hp(X:Cx)(A:XY)(I:n7)(YX:SM)(e t:Wy)(i:J Wy)(X0:gq)(cl:J (Z×Y_))(l:YS){α:Type}(b:J α)(c:α->MV)(f:α->YS->YS)(U3:α->Y0)(val:α->MV)(d:GH):Prop where
 size:Zv<=ZK
 tg:∀C,∀x∈b,TG X A I ZcW t (c x) (f x)
 sub:∀x∈b,Od l (f x l)
 UB:∀C G,∀x∈b,(∀a o,d a=Zai->G a=Zai)->eQ X A ZcW i (f x l) G (HO X A (S6 X0 cl C YX) e (f x l) G (U3 x) (val x))
inductive DU{α:Type}(x:J α)(e:α->MV)(Q:GH->Prop)(n:U)(m:U->MV)(G:GH):Prop where|mk(n:n=ZO)(b:∀k a,x[k]?=Zax->m k=e a)(q:Q G)
inductive lq(X:Cx)(A:XY)(I:n7)(YX:SM)(e t:Wy)(i:J Wy)(X0:gq)(cl:J (Z×Y_))(l:YS){α:Type}(x:J α)(a:α->MV)(f:α->YS->YS)(U3:α->Y0)(val:α->MV)(K:ZaV->GH->Prop)(G:GH):Prop where|mk(b:Hp X A I YX e t i X0 cl l x a f U3 val G)(k:K ((x.filter U3).map val) G)
theorem lq.use{c:J α}{d:α->MV}{f:α->YS->YS}{U3:α->Y0}{val:α->MV}(h:DU c d (lq X m q A s u i X0 cl F c d f U3 val Pn) n M S):xN X m q A s u i X0 cl F Pn n M S:=by
  obtain⟨rfl,hm,h,g⟩:=h;have at_:∀{k},k<YZ->∃x,x∈c/\c[k]?=Zak:=λa=>⟨_,Uq a,Z6 a⟩;refine⟨λk l=>(c[k]?).elim l λx=>f x l,λk=>(c[k]?).bind λx=>if U3 x then some (val x)else none,a4,λC k a=>?_,λk a=>?_,λC k G a hG=>?_,?_⟩;.obtain⟨x,hx,e⟩:=at_ a;rw[hm k _ e,e];exact h.tg C x hx
  .obtain⟨x,hx,e⟩:=at_ a;rw[e];exact h.sub x hx
  . obtain⟨x,hx,e⟩:=at_ a;rw[e];walk_at"O";refine(h.turn C G x hx hG).mono λb j⟨h1,h2,o⟩=>⟨h1,λhb=>(o hb).mono λr j hr=>⟨hr.1,?_⟩,λhb=>?_⟩;.exact(ZT (h2.symm.trans hb)).trans (Zq some hr.2.symm)
    .exact ZY (qr (h2.symm.trans hb))
  .rw[yE,oh];exact g
theorem p5(l:YS)(x:J α)(e:α->MV)(f:α->YS->YS)(U3:α->Y0)(val:α->MV)(mB:Zcr)(h:gr X m c A a ZaZ o E (DU x e (lq X m c A d a i X0 cl l x e f U3 val λos=>g (.lst os))))(hs:Z3 (∀b,XJ WC A b=Ye b) aI):EV X m A (ZG (.ListComp d [⟨a,WC,i,0⟩] X0 Yl) A) o E g:=EV.comp l mB (WT λO O O q=>lq.use q) hs
theorem EF.qM(l:YS)(c:J α)(e:α->MV)(f:α->YS->YS)(U3:α->Y0)(val:α->MV)(mB:Zcr)(g:Zc5)(h:gr X m k A b ZaZ o E (DU c e (lq X m k A d b i X0 cl l c e f U3 val λos=>D .next (aJ x (.lst os) o))))(hw:Z3 (Oc (.ListComp d [⟨b,WC,i,0⟩] X0 Yl) (some (.Name x n)) a.line A=Ye true) aR)(hs:Z3 (∀x,ZbT=Ye x) aI):EF X m A (TP (.Assign [.Name x n] (.ListComp d [⟨b,WC,i,0⟩] X0 Yl) a) A) o E D:=EF.Jc l mB g (WT λO O O q=>lq.use q) hw hs
inductive Jq{α:Type}(x:J α)(e:α->MV)(K:GH->Prop)(m:MV)(G:GH):Prop where|mk(a:m=.lst (gy e))(k:K G)
theorem p4{K:GH->Prop}(hh:XW=none){x:J α}{e:α->MV}(h:EV X m A a o E (Jq x e K)):gr X m cu A c a o E (DU x e K):=gr.list hh (WT λd G b=>by obtain⟨hm,k⟩:=b;exact⟨_,hm,Z2 ..,λk f hx=>by rw[Z0,Zy,hx];rfl,k⟩)
def bF(M:Model)(A:XY)(b:End->Za->Prop)(c:Code)(t:p' Fin)(fs:J Frame)(d:Za):Prop:=∀a p,a.code=c->a.Woken A->∃e s,Runs M a p t fs d e s/\b e s
variable{NW:End->Za->Prop}{Ni:Code}{XO:J Frame}
theorem b8{b:p' α}{K:α->p' Fin}{gd l}(h:ZU N2 Zbv b (λa s=>bF N2 m NW Ni (K a) XO s) (λx s=>bF N2 m NW Ni (f x) XO s) G):bF N2 m NW Ni (b.wrap K f gd l) XO G:=by
 intro c g i;subst i;intro d;exact runs_wrap_of_wp K f gd l b (h (c.over XO) g (d.over XO)) (λa p s e=>e c p rfl d) (λx p s e=>e c p rfl d)
theorem gk(h:bF N2 m NW Ni (k ()) XO G):bF N2 m NW Ni (.at a k) XO G:=b8 (b:=VV a) (K:=k) (f:=.raise) (gd:=id) (l:=id) (Yo h)
theorem vl(h:bF N2 m NW Ni (k ()) XO G):bF N2 m NW Ni (.point l k) XO G:=b8 (b:=point) (K:=k) (f:=.raise) (gd:=id) (l:=λO=>l) (gn h)
theorem ql{h a l}(b:∀p,bF N2 m NW c (N2.den c) (.ret k h a l Ni p []::XO) G):bF N2 m NW Ni (.call c h a l k) XO G:=by
 walk_at"u";intro d p f;subst f;intro g;walk_at"b";obtain⟨e,s,hr,he⟩:=b p (d.goto c) p rfl (g.goto c);exact⟨e,s,runs_call_seg hr,he⟩
theorem qy{k h b l c a d}(r:TN)(f:bF N2 m NW c (k r) XO G):bF N2 m NW Ni (leafOf r) (.ret k h b l c a d::XO) G:=by
 walk_at"ab";intro g p i;subst i;intro j;walk_at"b";obtain⟨e,s,hr,he⟩:=f (g.goto c) a rfl (j.goto c);exact⟨e,s,Runs.pop r hr,he⟩
theorem cO(hq:c.quiet=true)(a:bF N2 m NW c (N2.den c) XO G):bF N2 m NW Ni (.pure (.again c)) XO G:=by
 intro b p d;subst d;intro f;walk_at"b";obtain⟨e,s,hr,he⟩:=a (b.goto c) p rfl (f.goto c);exact⟨e,s,Runs.head (c₁:=c) (λO O x=>.again hq x) hr,he⟩
theorem uS(r:TN)(h:NW (.ret r) G):bF N2 m NW Ni (leafOf r) [] G:=by
 intro b p a;subst a;intro O;exact⟨.ret r,G,Runs.leaf r,h⟩
theorem m8{a b l}(c:splitAtGen XO=none)(h:∀p,NW (.susp a b l k Ni p XO) G):bF N2 m NW Ni (.yield a b l k) XO G:=by
 walk_at"u";intro e p d;subst d;intro O;exact⟨_,G,Runs.yield' XO c,h p⟩
def mR(M:Model)(A:XY)(a:End->Za->Prop)(g:Vb)(r:Resume)(s:Za):Prop:=match g with|.fresh Ni=>r=.send .none/\bF M A a Ni (M.den Ni) [] s|.suspended k _ Ni _ XO _=>bF M A a Ni (k r) XO s|_=>L_
theorem pK(h:bF N2 m NW Ni a XO G)(k:∀e G,NW e G->b e G):bF N2 m b Ni a XO G:=λc p d f=>ex2 (h c p d f) λe s Yw=>Ug Yw λhr he=>⟨e,s,hr,k e s he⟩
theorem C9{k:GenResult->p' α}{Q:α->Za->Prop}(hg:G.gens[d]?=Zdb)(b:mR N2 m (λe s=>e.quiet=true/\ZU N2 m (k e.result) Q q (s.setGen d e.genState)) n r (G.setGen d .running)):ZU N2 m (.resume d r l k) Q q G:=by
 intro a p g;walk_at"ac";have hB:∀c,(a.wake c p).Woken m:=λc=>g.wake c p;cases n with
 |fresh c=>
  walk_at"ad";obtain⟨rfl,hs⟩:=b;obtain⟨i,s,hr,hq,he⟩:=hs (a.wake c p) p rfl (hB c);exact(Vs _ _ ⟨by unfold Wakes;rw[hg];exact⟨i,s,hr,hq,rfl,rfl⟩,he a p g⟩)|suspended t u j o f cl=>
  obtain⟨i,s,hr,hq,he⟩:=b (a.wake j p) o rfl (hB j);exact⟨_,_,by unfold Wakes;rw[hg];exact(Vs (i) (s) ⟨hr,hq,rfl,rfl⟩),he a p g⟩|running=>exact b.elim|finished=>exact b.elim
theorem mR.mono(h:mR N2 m NW a r G)(k:∀e G,NW e G->b e G):mR N2 m b a r G:=by cases a with|fresh c=>exact⟨h.1,pK h.2 k⟩|suspended=>exact pK h k|running=>exact h|finished=>exact h
variable{Pe:VW}{Nf:Tw}{Ph:Vb}{Nv:TN}
theorem I0{Q:Zs ZP->Za->Prop}(n:Nv=.ok (.ret .none)\/Nv=.ok .next)(hh:XW=none)(hl:G.heap.NoLimit)(p:G_<K3)(hg:G.heap.IsGen z j)(f:G.gens[j]?=some Ph)(a:mR Zbu Ut (λe s=>e.quiet=true/\match e with|.ret r=>r=Nv/\∀g,(∀b o,WU b=Zai->g.get? b=Zai)->Q none {s.setGen j .finished with X_:=g}|.susp d g' l k c i fs=>Q ZaD (s.setGen j (.suspended k l c i fs (g'||fs.any p3)))) Ph (.send .none) (G.setGen j .running)):ZU Zbu m (VP (.ref z)) Q Pq G:=by
 refine Z7 (Vg (XG hg.typeIs slot_gen_next (X7 slot_gen_next hg.typeIs entry_gen_next ?_ (args_gen_next _))));walk_at"c";show ZU _ Ut (Builtin.Generator.genWake (.ref z) (.send .none)) _ _ G;refine Z7 (ZF (wpAny_genNumber hg (Z7 (wpAny_genState f ?_))));induction Ph with|running=>exact Q1|finished=>exact Q1|_=>
  refine Z7 (wpAny_roomToWake hl p ?_);show ZU _ Ut (.resume j (.send .none) [] _) _ _ G;refine C9 f (a.mono λe s he=>⟨he.1,?_⟩);walk_at"h";obtain⟨hq,he⟩:=he;cases e with
  |e4 r=>
   obtain⟨rfl,hp⟩:=he;walk_at"o";have q:(End.ret r).result=.returned .none:=by rcases n with rfl|rfl<;>rfl
   rw[q];show ZU _ Ut (newExc ZbF []>>=_) _ _ _;refine Z7 ?_;walk_at"a";refine Z7 (Ym ?_ (by size_fits));refine Z7 (VJ (by first|rfl|(simp only[sl];rfl)) ?_);walk_at"f";refine Ym ?_ (by size_fits);refine Z7 (Z7 (pz ?_));first|rw[show px=none from hh]|rw[hh]
   refine gm ?_;refine Z7 (Up ⟨_,ZL _ rfl,rfl⟩ I_ ?_);exact Z5 (hp _ λb o hb=>ZC _ (ZC _ hb))|susp d g' l k c i fs=>exact Z5 ⟨d,rfl,Z5 he⟩
def Wz(C G:GH):Prop:=∀a o,C a=Zai->G a=some o
def Dj(G C:GH):Prop:=∀a o,G a=Zai->C a=none
theorem I8(G:GH):Wz G G:=λO O e=>e
theorem Ext.trans(h:Wz b c)(k:Wz c d):Wz b d:=λa o e=>k a o (h a o e)
theorem Ext.upd(h:Wz c d)(f:c i=none):Wz c (Y8 d i a):=λb g e=>by rw[ag (by intro j;subst j;exact ax (f.symm.trans e))];exact h b g e
theorem Ext.del(h:Wz c d)(f:c a=none):Wz c (H2 d a):=λb g e=>by rw[bZ _ (by intro i;subst i;exact ax (f.symm.trans e))];exact h b g e
theorem Ext.none(h:Wz b c)(d:c a=none):b a=none:=by cases e:b a with|none=>rfl|some o=>exact ax (d.symm.trans (h a o e))
def MA(X:Cx)(r:TN)(d:aT)(C:GH)(m:Zs MV)(K:aT->GH->Vb->Prop)(e:End)(s:Za):Prop:=e.quiet=true/\match e,m with|.ret f,none=>f=r/\∃a G,bG d a/\Wz C G/\aA X a G s|.susp g g' l k c p fs,Zcg=>∃a G b,bG d a/\Wz C G/\Wz b G/\Dj b C/\aw a m g/\aA X a G s/\K a b (.suspended k l c p fs (g'||fs.any p3))|_,_=>L_
def Mo(X:Cx)(A:XY)(r:TN)(m:Zs MV)(K:aT->GH->Vb->Prop)(c:aT)(b:GH)(g:Vb):Prop:=∀a C G s,lV c a->Wz b G->Wz C G->Dj b C->aA X a G s->mR YH A (MA X r a C m K) g (.send .none) s
def gB(X:Cx)(A:XY)(r:TN)(t:ZaV)(a:aT)(G:GH)(g:Vb):Prop:=t.foldr (λm K=>Mo X A r Zcg K) (Mo X A r none λO O O=>L_) a G g
def HZ(X:Cx)(A:XY)(r:TN):ZaV->aT->GH->Vb->Prop|[]=>λO O O=>L_|_::t=>gB X A r t
def CU(X:Cx)(A:XY)(r:TN)(t:ZaV)(a:aT)(C:GH):End->Za->Prop:=MA X r a C t.head? (HZ X A r t)
theorem fQ:gB a d r b i f k↔∀c C G s,lV i c->Wz f G->Wz C G->Dj f C->aA a c G s->mR a.M d (CU a d r b c C) k (.send .none) s:=by cases b with|Yk=>exact Iff.rfl|Zp m b=>exact Iff.rfl
structure ic(X:Cx)(A:XY)(c:Code)(fs:J Frame)(n:U):Prop where
 split:splitAtGen fs=none
 MC:fs.any p3=false
 rm:Rm X (A.over c fs) n
structure qT(X:Cx)(a c:aT)(p:J Y_):Prop where
 le:bG c a
 obj:∀b∈p,∃o,a b o/\¬lr o
 tk:∀b∈p,∀o,¬c b o
 low:∀b∈p,Yz b=none
theorem qT.more(h:qT X y a c)(k:ZaX):qT X B a c:=⟨h.le.trans k,λb q=>SA (h.obj b q) λo Yw=>Ug Yw λe z=>⟨o,k _ _ e,z⟩,h.out,h.low⟩
structure Be(d:J Y_)(a c:aT):Prop where
 s:lV a c
 p:∀b∈d,∀o,a b o->c b o
theorem bG.q(h:ZaX):Be a y B:=⟨h.s,λb O o=>h b o⟩
theorem Be.trans(h:Be a y c)(k:Be a c R):Be a y R:=⟨h.s.trans k.s,λb q o e=>k.p b q o (h.p b q o e)⟩
def GF(X:Cx)(A:XY)(r:TN)(c:Code)(fs:J Frame)(p:J Y_)(YX:SM)(g:p' Flow)(l:YS)(i j:GH)(k:ZaV)(K:y_->YS->GH->GH->J MV->Prop):Prop:=∀y G(a:Flow->p' Fin)(m:ZP->p' Fin)(gd:Y0->Y0)(n:Zc7->J ZP)b,gd false=false->qT X y b p->ak X y YX l i G->(∀B C f d o E w t e,Be p y B->qT X B e p->FU B d f->ak X B YX o E C->K d o E w t->bF YH A (CU X A r t e w) c (a f) fs C)->bF YH A (CU X A r k b j) c (g.wrap a m gd n) fs G
variable{Nc:ZaV}
abbrev xi(X:Cx)(A:XY)(r:TN)(c:Code)(fs:J Frame)(p:J Y_)(YX:SM)(XE:J V4)(K:y_->YS->GH->GH->J MV->Prop):y_->YS->GH->GH->J MV->Prop:=λa o E w Nc=>match a with|.next=>GF X A r c fs p YX (Yj XE YX) o E w Nc K|a=>K a o E w Nc
abbrev rV(X:Cx)(A:XY)(r:TN)(c:Code)(fs:J Frame)(p:J Y_)(YX:SM)(XE:J V4)(C:GH)(t:ZaV)(K:y_->YS->GH->GH->J MV->Prop):y_->YS->GH->Prop:=λa o E=>match a with|.next=>GF X A r c fs p YX (Yj XE YX) o E C t K|a=>K a o E C t
inductive Hu(a:YS->GH->GH->J MV->Prop)(b:YS)(G C:GH)(t:ZaV):Prop where|mk(l:YS)(j:a l G C t)(s:Od l b)
abbrev F0(a:YS->GH->GH->J MV->Prop)(K:y_->YS->GH->GH->J MV->Prop):y_->YS->GH->GH->J MV->Prop:=λb o E w Nc=>match b with|.next|.cont=>Hu a o E w Nc|.brk=>K .next o E w Nc|.ret c=>K (.ret c) o E w Nc
abbrev II(X:Cx)(A:XY)(r:TN)(c:Code)(fs:J Frame)(p:J Y_)(YX:SM)(W9 orelse:J V4)(l:YS)(C:GH)(t:ZaV)(K:y_->YS->GH->GH->J MV->Prop):Y0->GH->Prop:=λb E=>(b=true->GF X A r c fs p YX Zct l E C t K)/\(b=false->GF X A r c fs p YX (Yj orelse YX) l E C t K)
variable{NJ:GH}{NS:y_->YS->GH->GH->J MV->Prop}
theorem GF.of(h:EF X Zbv A i o E λe NF w=>NS e NF w NJ Nc):GF X m Nv Ni XO Nk A i o E NJ Nc NS:=λg s u y gd l j z n S k=>b8 (ZS (h g s S) (λf p r=>by obtain⟨t,e,NF,w,a,b,c,d⟩:=r;exact k t p f e NF w NJ Nc j a.q (n.more a) b c d) λO O x=>VE)
theorem GF.mono{g:y_->YS->GH->GH->J MV->Prop}(h:GF X m Nv Ni XO Nk A i o E w Nc NS)(k:∀c o E w Nc,NS c o E w Nc->g c o E w Nc):GF X m Nv Ni XO Nk A i o E w Nc g:=λj s n p gd l r u y S q=>h j s n p gd l r u y S λz B f c D G C t F a b d e x=>q z B f c D G C t F a b d e (k _ _ _ _ _ x)
theorem Su(h:NS .next o E w Nc):GF X m Nv Ni XO Nk A (Yj [] A) o E w Nc NS:=GF.of (YV h)
theorem Sa(h:GF X m Nv Ni XO Nk A (TP Nw A) o E w Nc (xi X m Nv Ni XO Nk A XE NS)):GF X m Nv Ni XO Nk A (Yj (Nw::XE) A) o E w Nc NS:=λq r u i gd j y n z S k=>by
 rw[execs_cons_wrap];refine h q r _ i gd j y n z S λc s PY B l G C t g a b d e x=>?_;walk_at"s";cases B with
 |next=>
  cases d;exact x c s u i gd j g n b e λD F f I M N Q T V PM PN PR PS PT=>k D F f I M N Q T V (Xb PM) PN PR PS PT|brk=>cases d;exact k c s .brk .brk l G C t g a b rfl e x|cont=>cases d;exact k c s .cont .cont l G C t g a b rfl e x|e4 PW=>obtain⟨p,rfl,PX⟩:=d;exact k c s (.ret p) (.ret PW) l G C t g a b ⟨p,rfl,PX⟩ e x
theorem Ss(h:EF X Zbv A (TP Nw A) o E (rV X m Nv Ni XO Nk A XE w Nc NS)):GF X m Nv Ni XO Nk A (Yj (Nw::XE) A) o E w Nc NS:=Sa (GF.of (WT λa l G x=>by cases a<;>exact x))
theorem a3(h:EB X Zbv A Zcb o E (II X m Nv Ni XO Nk A W9 orelse o w Nc NS)):GF X m Nv Ni XO Nk A (TP (.If ft W9 orelse Yl) A) o E w Nc NS:=λQ y c g gd l z B D T k=>by
 walk_at"x";show bF YH m _ Ni (.at Yl λO=>((XC ft A (ZG ft A)>>=λb=>if b=true then Yj W9 A else Yj orelse A)).wrap c g gd l) XO y;refine gk ?_;rw[XI,W3];refine b8 (ZS (h Q y T) (λb F V=>?_) λO O PM=>PM.elim);obtain⟨I,PN,a,S,N⟩:=V;cases b with|false=>exact N.2 rfl I F c g gd l z B (D.more a) S λi s f j n G C t p r u d e x=>k i s f j n G C t p (h3 r) u d e x|true=>exact N.1 rfl I F c g gd l z B (D.more a) S λi s f j n G C t p r u d e x=>k i s f j n G C t p (h3 r) u d e x
theorem GF.eE(hl:Od NF o)(h:GF X m Nv Ni XO Nk A a NF E w Nc NS):GF X m Nv Ni XO Nk A a o E w Nc NS:=λb s c d gd l e f g S k=>h b s c d gd l e f g (S.forget hl) k
def F9(G C:GH):GH:=λa=>(C a).elim (G a) λ_=>none
theorem qo(h:F9 E w a=Zaq):E a=Zaq/\w a=none:=gG (w a) (λe=>⟨(Zq (OO . (E a) λ_=>none) e).symm.trans h,e⟩) λc e=>ax ((Zq (OO . (E a) λ_=>none) e).symm.trans h)
theorem xl(h:E a=Zaq)(c:w a=none):F9 E w a=Zaq:=(Zq (OO . (E a) λ_=>none) c).trans h
theorem aA.Cb(j:Zah)(h:∀a∈Nk,(∃o,ZH a=Zai)/\E a=none/\(∀o,¬y a o)/\Yz a=none):∃w,aA X y w G/\(∀a,a∉Nk->w a=E a)/\∀a∈Nk,∃o,ZH a=Zai/\w a=some (.own (.=o)):=by induction Nk with|Yk=>exact⟨E,j,λO O=>rfl,λa q=>by cases q⟩|Zp a Nk i=>
    obtain⟨w,S,h1,h2⟩:=i λb q=>h b (ZX _ q);obtain⟨⟨o,g⟩,hg,hp,hb⟩:=h a Y5;clear h hg;by_cases hm:a∈Nk;.exact⟨w,S,λb q=>h1 b λd=>q (ZX _ d),λb q=>by
        walk_at"b";rcases ZI q with rfl|q;.exact h2 b hm
        .exact h2 b q⟩
    . refine⟨Y8 w a (.own (.=o)),⟨S.old,Tu,Dp,λb c e=>?_,λb c e=>?_,λb c e=>?_,S.os,S.gens.upd rfl⟩,λb q=>?_,λb q=>?_⟩;.exact eJ (N6:=λb c=>cT _ _ b c) e ⟨o,g,rfl⟩ (UK b c)
      . have hb:b≠a:=by intro f;subst f;exact hp c e
        rw[ag hb];exact c4 b c e
      .exact eJ (N6:=λb O=>Yz b=none) e hb (L2 b c)
      . have hb:b≠a:=by intro f;subst f;exact q Y5
        rw[ag hb];exact h1 b λd=>q (ZX _ d)
      . by_cases hb:b=a;.rw[hb];exact⟨o,g,aa ..⟩
        . rw[ag hb];rcases ZI q with rfl|q;.exact Zc rfl hb
          .exact h2 b q
theorem I7(F:ic X m Ni XO Qw)(u:A.cells=[])(ht:Nc=P5::T)(h:EV X Zbv A ZcN o E λQ y=>Q=P5/\Wz w y/\∀G C,(∀a j,y a=Zb'->w a=none->G a=Zb'/\C a=none)->Wz C G->NS .next o G C T)(P6:Z3 (A.scope.isCoroutine=false) aR)(P7:Z3 (gu A=false) aR):GF X m Nv Ni XO Nk A (TP (.Expr (.Yield (some i) V) Yl) A) o E w Nc NS:=λP8 PM P9 Qa gd Qb Qx Qc Qd Qe Qf=>by
  walk_at"s";subst ht;rw[exec_Expr A _ Yl P7 rfl];show bF YH m _ Ni (.at Yl λO=>((ZG i A>>=λp=>(VV V>>=λO=>k1 A p))>>=λx=>dropValue (.Yield (some i) V) Yl x).wrap P9 Qa gd Qb) XO PM;simp only[(λp=>by simp only[k1,P6,T8,B_]:∀p,k1 A p=yieldValue p)];refine gk ?_;rw[XI,XI,W3,W3];refine b8 (ZS (h P8 PM Qe) (λp Qg e=>?_) λO O x=>VE);walk_at"x";clear h;obtain⟨D,Q,y,PN,Qh,S,rfl,PR,Qi⟩:=e;refine gk (m8 F.split λQy=>?_);walk_at"ae";have k:=Qd.more PN;obtain⟨I,Qj,_⟩:=S.mZ k.obj;obtain⟨mN,⟨ob,d,Qk,PS,hd,hr⟩,hm⟩:=I.f.loc;have Ql:∀b∈Nk,b≠YL:=λb e i=>by
    obtain⟨j,hb,_⟩:=k.obj b e;exact S.f.lG.2.1 j (i▸hb)
  obtain⟨PT,Qm,tk,ins⟩:=I.g.Cb (Nk:=YL::Nk) λa e=>by
    walk_at"y";rcases ZI e with rfl|e;.exact⟨⟨ob,PS⟩,I.f.lG⟩
    .obtain⟨j,hb,_⟩:=k.obj a e;exact(andI4 ⟨j,Yd _ _ hb⟩ (OC _ _ hb) (λj i=>i.2 e) (k.low a e))
  have PW:∀a∈YL::Nk,y a=none:=λa e=>by
    refine(ZI e).elim (λYA=>?_) λe=>?_;.rw[YA];exact S.f.lG.1
    .obtain⟨j,hb,_⟩:=k.obj a e;exact OC _ _ hb
  have PX:∀a∈YL::Nk,w a=none:=λa e=>PR.none (PW a e);refine⟨by show(!(gd false||gv74.any p3))=true;rw[Qc,F.MC];rfl,gv D Nk,PT,F9 PT w,λb j i=>⟨k.le _ _ i,λe=>k.out b e j i⟩,λa j i=>?_,λa j i=>(qo i).1,λa j i=>(qo i).2,Qj _ _ Qh,Qm,fQ.mpr λr C G s PY PZ Qn P0 z=>?_⟩;.rw[tk a λe=>by rw[PX a e]at i;cases i];exact PR a j i
  . have own:∀a∈YL::Nk,∃j,Qg.heap.get? a=Zb'/\WU a=Zb'/\G a=some (.own (.=j))/\C a=none:=λa e=>by
      walk_at"b";obtain⟨j,h1,h2⟩:=ins a e;have hp:=xl h2 (PX a e);have t:=PZ _ _ hp;obtain⟨N,Qo,rfl⟩:=z.objs _ _ t;exact⟨N,h1,Qo,t,P0 _ _ hp⟩
    have l:∀a∈YL::Nk,(∀j,¬r a j)/\Yz a=none:=λa e=>by
      obtain⟨j,_,_,t,_⟩:=own a e;exact⟨λN i=>(by have:=z.c7 _ _ i;exact ax (SS t)),z.low _ _ t⟩
    let n:GH:=λa=>if a∈YL::Nk then none else G a;have g3:∀a j,n a=Zb'->a∉YL::Nk/\G a=Zb':=λa j i=>by
      by_cases e:a∈YL::Nk;.have:n a=none:=ZT e;rw[this]at i;cases i
      .have:n a=G a:=ZY e;rw[this]at i;exact⟨e,i⟩
    have P2:∀a∈YL::Nk,n a=none:=λa e=>ZT e;have P4:∀a,a∉YL::Nk->n a=G a:=λa e=>ZY e;have Qp:ak X r A o n s:=by
      obtain⟨j,h1,h2,_,_⟩:=own YL Y5;rw[PS]at h1;cases h1;refine⟨z.drop λa j i=>(g3 a j i).2,⟨Q_,G2,ta,⟨mN,(Vs _ d ⟨Qk,h2,hd,hr⟩),λx mv a b=>SA ZcD λp Yw=>Ug Yw λi e=>⟨p,i,e.ip PY⟩⟩,λx c hx=>?_,λx mv a=>y1 x mv a,⟨P2 _ Y5,l _ Y5⟩,λx c hx=>?_,λx Qz c hx=>?_⟩⟩;.rw[u]at hx;cases hx
      .rw[u]at hx;cases hx
      .rw[u]at hx;cases hx
    have TU:gs X r n A Nk:=λb e=>(andI5 (P2 b (ZX _ e)) ((l b (ZX _ e)).1) ((l b (ZX _ e)).2) (Zh (Ql b e)) (λx c hx=>by rw[u]at hx;cases hx));have pins:∀b∈Nk,∀j,D b j->eW r Nk Tv b j:=λb e j i=>by
      obtain⟨N,h1,h2,_⟩:=own b (ZX _ e);rw[Yd _ _ i]at h1;rw[ZW h1];exact .inr ⟨e,h2⟩
    have Qq:Be Nk D (eW r Nk Tv):=⟨λa QA st i=>.inl (PY _ _ st ⟨i,λe=>by
      obtain⟨j,Qr,Qt⟩:=k.obj a e;exact Qt ((ZW ((Yd _ _ Qr).symm.trans (Yd _ _ i)))▸st)⟩),pins⟩;have:=Qf (eW r Nk Tv) s .next .next o n C T r (PN.q.trans Qq) ⟨p6,λb e=>SA (k.obj b e) λj Yw=>Ug Yw λi Qu=>⟨j,pins b e j i,Qu⟩,λb e=>(TU b e).2.1,k.low⟩ rfl (Qp.zC TU) (Qi n C (λa j i Qv=>?_) λa j i=>?_);.exact this
    . have e:a∉YL::Nk:=λe=>by rw[PW a e]at i;cases i
      have hp:=xl (by rw[tk a e];exact i) Qv;exact⟨by rw[P4 a e];exact PZ _ _ hp,P0 _ _ hp⟩
    . have e:a∉YL::Nk:=λe=>by obtain⟨_,_,_,_,h⟩:=own a e;exact fv i h rfl
      rw[P4 a e];exact Qn a j i
def Ck(X:Cx)(a:XY)(I:n7)(t:Wy)(c:aT)(s:Za)(d:ZP)(n:U)(m:U->MV):Prop:=∀(Q:ZP->Za->Prop)E,(∀it G w St,(∀A,A.handled=none->Wk X A I it t n m w St)->Mv [] s G->St 0 c YI->(∀b∈w,Zz<=b)->Q it G)->ZU YH a (h6 d) Q E s
theorem Ck.list(S:aw y (.lst i) l)(hp:∀a o,y a o->ZH a=Zai):Ck X m cu PX y G l Xw (λk=>i.getD k .none):=λPY PZ k=>by
  obtain⟨a,j,n,YA,u,rl⟩:=S.seq;rw[YA];have D:=W0;refine TL (aq (hp _ _ u)) ?_;refine k ZaB _ [ZZ] (λk F h=>h.IsListIter ZZ a k/\F a (X8 (.type "list") j n)/\ao F i j.toList) (λA hh=>?_) (Ct λb o O e=>ZC _ e) ⟨⟨_,ZL _ rfl,rfl,rfl⟩,u,rl⟩ (λb hb=>by simp at hb;subst hb;exact ZV _);walk_at"af";have x:=Walks.list (prog:=Wj) (w:=Sl) (A:=A) hh ZZ a (Zb (XN (hp _ _ u)):a≠ZZ) j;walk_at"ag";walk_at"ah";refine⟨?_,gO,?_,?_,?_,?_⟩;.intro k t P0 h I c;obtain⟨⟨o,z,T⟩,p,r⟩:=c;intro le O O hw;exact⟨⟨o,hw _ (.head _) o z,T⟩,le.q _ _ _ _ p,r.ip le⟩
  .intro k t h c;obtain⟨⟨o,z,V,hd⟩,_⟩:=c;intro b hb;simp at hb;subst hb;walk_at"b";exact⟨o,z,kH (by rw[V];simp) λO O e=>by rw[e]at hd;cases hd⟩
  . intro k t s Q E B c;obtain⟨d,p,r⟩:=c;intro f hw g;have OQ:k<j.size:=by exact O6 B D
    obtain⟨PM,C,PN⟩:=r.get k (a:=i[k]) (Z6 B);refine x.item k s _ _ OQ ⟨d,aq (f _ _ p)⟩ λl I PR hv PS hx=>g l _ λP2=>?_;walk_at"e";obtain rfl:l=PM:=by simp at hv C;rw[hv]at C;exact ZW C
    obtain⟨⟨PT,M,N,PW⟩,_⟩:=id PS;refine eD M N ⟨Ct hx,⟨⟨PT,M,N,PW⟩,p,r⟩,?_⟩;show aw _ _ _;rw[Z0,Z6 B];exact PN
  .intro t s Q E c;obtain⟨d,p,r⟩:=c;intro f hw g;exact x.done s _ _ (by rw[D];exact⟨d,aq (f _ _ p)⟩) λI PR hx=>g _ (Ct hx)
  .intro k t s Q E c;obtain⟨d,p,r⟩:=c;intro f g;exact x.self k s _ _ ⟨d,aq (f _ _ p)⟩ g
def xZ(c:Code):Flow->p' Fin:=λf=>match f with|.next|.cont=>.pure (.again c)|.brk=>.pure (.done .next)|.ret a=>.pure (.done (.ret a))
theorem fe(h:ZU Zbu ZbL (VP NI) (λr s=>match r with|none=>bF Zbu m NW (.block [] A) (.pure (.done .next)) XO s|some a=>ZU Zbu ZbL (Xm Ng NI a) (λO b=>ZU Zbu ZbL (KP Ng A a) (λO c=>∀e,bF Zbu m NW Zbw ((Yj NZ A).wrap (xZ (.forLoop Ng NI NZ [] A)) e id id) XO c) bz b) bz s) bz G):bF Zbu m NW Zbw ((Ub Pe Nf).den Zbw) XO G:=by
 show bF _ m NW _ ((forTurn Ng NI NZ [] A).onRaise (λx=>do noteFrame x A;theTreesLotGoes x)) XO G;rw[Uz];refine gk ?_;show bF _ m NW _ (ar _ _ _ _ ((VP NI).onRaise _>>=_)) XO G;rw[Uz (VP NI),XI,W3,W3];refine b8 (ZS h (λr s d=>?_) λO O x=>VE);cases r with
 |none=>
  show bF _ m NW _ (.pure (.again (.block [] A))) XO s;exact cO rfl d|some a=>
  show bF _ m NW _ ((Xm Ng NI a>>=λO=>KP Ng A a>>=λO=>Yj NZ A>>=λf=>_).wrap _ _ _ _) XO s;rw[XI,W3];refine b8 (ZS d (λO b g=>?_) λO O x=>VE);rw[XI,W3];refine b8 (ZS g (λO c i=>?_) λO O x=>VE);rw[XI,W3];rw[Sem.wrap_congr ZcV _ _ (K':=xZ Zbw) (λf=>by cases f<;>rfl) (λO=>rfl)];exact i _
theorem ic.loop(F:ic X m Ni XO n)(hg:b=false):ic X m (.forLoop a it W9 [] A) (.ret k none b l Ni d []::XO) n:=by
  rw[hg];refine⟨?_,?_,?_,?_,?_⟩;.rw[splitAtGen_ret,F.split];rfl
  .rw[UI,F.MC];rfl
  .have:=F.rm.depth;have c:(Code.forLoop a it W9 [] A).weight=0:=rfl;exact bw 0x1ffe4b0240d080861db4d92c0901c041 [_,_,_,_,_,_] this c
  .have:=F.rm.units;exact bw 0x1ffe4b0240d080861db4d92c0901c041 [_,_,_,_,_,_] this (rfl:(Code.forLoop a it W9 [] A).cUnits=0)
  .exact UP
theorem GF.vO(QF:ic X m Ni XO Ql)(I:U->YS->GH->GH->J MV->Prop)(h:∀y G,Zab->ZU YH Zbv ZaZ (λj C=>∃B PT n P4,ZaX/\ak X B A o PT C/\Ck X Zbv QG r B C j n P4/\∃(P5:U->YS->YS)(PW:YS),I 0 PW PT w Nc/\Od PW o/\(∀Qm,Qm.handled=none->∀k,k<n->TG X Qm QG A r (P4 k) (P5 k))/\(∀Qn Qo QH k o E w Nc,ic X m Qn Qo Ql->k<n->I k o E w Nc->GF X m Nv Qn Qo QH A ZbO (P5 k o) E w Nc (F0 (I (k+1)) NS))/\(∀o E w Nc,I n o E w Nc->NS .next o E w Nc)) bz G)(hs:Z3 (∀x,ZbT=Ye x) aI):GF X m Nv Ni XO Nk A (TP (.For r WC W9 [] Yl) A) o E w Nc NS:=λy G P6 Qp gd Qq l QI f S k=>by
  walk_at"x";refine gk ?_;walk_at"s";show bF YH m _ Ni (ar P6 Qp gd Qq (ZG WC A>>=_)) XO G;rw[XI,W3];refine b8 (ZS ZcU (λj QJ c=>?_) λO O x=>VE);obtain⟨Qr,PT,n,P4,a,P7,Qt,P5,PW,QK,QL,tg,UB,Ue⟩:=c;rw[hs j];refine gk ?_;show bF YH m _ Ni (ar P6 Qp gd Qq (T' [j] (h6 j)>>=_)) XO QJ;rw[XI,W3];refine b8 (ZF (Qt _ _ λit QM i St N mv st hw=>?_));have TU:=er P7 hw;refine ql λQN=>?_;generalize Qu:Frame.ret _ _ _ _ Ni QN []=fr;clear Qt;have F:ic X m ZcF (fr::XO) Ql:=by subst Qu;exact QF.loop QI
  have P8:∀P9 Qv fl G,bF YH m P9 Ni (P6 fl) XO G->bF YH m P9 Qv (.pure (.done fl)) (fr::XO) G:=λP9 Qv fl G Q=>by
    clear F;subst Qu;exact qy (.ok fl) Q
  have hb:∀b∈i,Yz b=none/\YL≠b/\∀x Qw,Xx x=some Qw->Qw≠b:=λb c=>(TU b c).2.2;have Qx:∀b∈Nk,b∉i:=λb c QP=>by
    obtain⟨d,e,_⟩:=(f.more a).obj b c;exact Zc (XN (P7.g.aG _ _ e)) (Wg (hw b QP))
  have main:∀PX k y o E w Nc l G,k+PX=n->Be Nk Qr y->qT X y l Nk->ak X y A o E G->St k y YI->(∀b∈i,E b=none/\∀d,¬y b d)->I k o E w Nc->bF YH m (CU X m Nv Nc l w) ZcF (X.M.den (.forLoop r it W9 [] A)) (fr::XO) G:=by
    intro PX;induction PX with
    |V1=>
      intro t y o E w Nc l G Q V f S st hg Qa;walk_at"z";have OQ:t=n:=by exact aV 0x1fd883b141a1 [_,_] Q
      clear tg UB;subst OQ;refine fe ((N _ UP).done y G _ _ st Yd (λb c=>(hg b c).2) λQb QQ=>?_);have QR:=S.mv (λb c=>⟨(hg b c).1,(hg b c).2,hb b c⟩) QQ;exact P8 _ _ .next Qb (k y Qb .next .next o E w Nc l (h3 V) f rfl QR (Ue o E w Nc Qa))|VF PX QS=>
      intro t y o E w Nc l G Q V f S st hg Qa;walk_at"z";have Qy:gs X y E A i:=λb c=>⟨(hg b c).1,(hg b c).2,hb b c⟩;have Qc:t<n:=by exact GJ Q
      refine fe ((N _ UP).next t y G _ _ Qc st Yd (λb c=>(hg b c).2) λj Qb QT=>?_);refine ZS (QT _) (λO Qd c=>?_) λO O c=>c;walk_at"a";obtain⟨QU,Qe,QV⟩:=c;have Qz:=S.mv Qy QU;have Qf:=Qz.zC Qy;have QW:qT X (eW y i Qd.heap) l (i++Nk):=by
        refine⟨f.le.trans p6,λb c=>?_,λb c d e=>?_,λb c=>?_⟩
        . rcases ZM c with c|c;.obtain⟨d,e,z⟩:=(N _ UP).obj _ _ _ Qe b c;exact⟨d,.inr ⟨c,e⟩,z⟩
          .obtain⟨d,e,z⟩:=f.obj b c;exact⟨d,.inl e,z⟩
        . rcases ZM c with c|c;.exact(hg b c).2 d (f.le _ _ e)
          .exact f.out b c d e
        . rcases ZM c with c|c;.exact(hb b c).1
          .exact f.low b c
      refine ZS (tg _ UP t Qc _ o E Qd j Qf ((N _ UP).JO _ _ _ _ _ p6 QV)) (λO QX Qf QY=>?_) λO O c=>c.elim;refine UB _ (fr::XO) (i++Nk) t o E w Nc F Qc Qa _ QX (xZ (.forLoop r it W9 [] A)) QY id id l rfl QW Qf λu T fl d Qg PY PM PN PR Qh D PZ PS P0=>?_;walk_at"s";have P2:Be Nk y u:=⟨eW.le.s.trans Qh.s,λb c d e=>Qh.p b (Y2 _ c) d (.inl e)⟩;have OR:Hu (I (t+1)) Qg PY PM PN->bF YH m (CU X m Nv PN PR PM) ZcF (X.M.den (.forLoop r it W9 [] A)) (fr::XO) T:=λQi=>by
        walk_at"s";obtain⟨QZ,Qi,Q2⟩:=Qi;have QA:∀b∈i,∀d,Qd.heap.get? b=ZaD->u b d:=λb c d e=>Qh.p b (Y3 _ c) d (.inr ⟨c,e⟩);have QB:∀b∈i,∃d,u b d/\¬lr d:=λb c=>by
          walk_at"b";obtain⟨d,e,z⟩:=(N _ UP).obj _ _ _ Qe b c;exact⟨d,QA b c d e,z⟩
        obtain⟨QC,Q5,Q6⟩:=PS.mZ QB;have QD:Be Nk y (gv u i):=⟨λQj d st e=>⟨P2.s _ _ st e,λc=>(hg Qj c).2 _ e⟩,λb c d e=>⟨P2.p b c d e,Qx b c⟩⟩;refine QS (t+1) (gv u i) QZ PY PM PN PR T (Ju Q) (V.trans QD) ⟨λQj d e=>⟨D.le _ _ e,λc=>D.out Qj (Y3 _ c) d e⟩,λb c=>SA (D.obj b (Y2 _ c)) λd Yw=>Ug Yw λe z=>⟨d,⟨e,Qx b c⟩,z⟩,λb c=>D.out b (Y2 _ c),f.low⟩ (QC.forget Q2) ((N _ UP).frame _ _ _ _ _ Qe QD.s Qz.g.aG QC.g.aG (λb c d e=>PS.g.aG _ _ (QA b c d e))) (λb c=>⟨?_,λd e=>e.2 c⟩) Qi;obtain⟨d,Q3,_⟩:=QB b c;exact PS.g.c7 _ _ Q3
      have QE:qT X u PR Nk:=⟨D.le,λb c=>D.obj b (Y2 _ c),λb c=>D.out b (Y2 _ c),f.low⟩;cases d with
      |next=>cases PZ;exact cO rfl (OR P0)|brk=>cases PZ;exact P8 _ _ .next T (k u T .next .next Qg PY PM PN PR (h3 (V.trans P2)) QE rfl PS P0)|cont=>cases PZ;exact cO rfl (OR P0)|e4 j=>obtain⟨Qk,rfl,Q4⟩:=PZ;exact P8 _ _ (.ret Qk) T (k u T (.ret Qk) (.ret j) Qg PY PM PN PR (h3 (V.trans P2)) QE ⟨Qk,rfl,Q4⟩ PS P0)
  exact main n 0 Qr PW PT w Nc l QM (O4) (bG.refl _).q (f.more a) ((P7.K0 mv).forget QL) st (λb c=>⟨(TU b c).1,(TU b c).2.1⟩) QK
def je(b:aT)(YX:SM)(l:YS)(ob:OD):Prop:=∃d e,∃m:Z->Zs ZP,ob.data=.dict d e/\StrKeys d/\(∀name,nsFind d name=m name)/\(∀x mv,VU x=ZaQ->Yg x=some .local)/\∀x mv,VU x=ZaQ->∃a,m x=Zax/\aw b mv a
theorem yg(h:∀b,bF Zbu m NW (.func NZ A) ((Yj NZ A).wrap (λf=>.pure (.done (.ret (match f with|.ret a=>a|_=>.none)))) b id id) XO G):bF Zbu m NW (.func NZ A) ((Ub Pe Nf).den (.func NZ A)) XO G:=by
 show bF _ m NW _ (.point [] λO=>((Yj NZ A).onRaise (leaving A))>>=_) XO G;refine vl ?_;rw[Uz,XI,W3];rw[Sem.wrap_congr ZcV _ _ (K':=λf=>.pure (.done (.ret (match f with|.ret a=>a|_=>.none)))) (λf=>by cases f<;>rfl) (λe=>rfl)];exact h _
theorem ak.sleep(S:Zab)(loc:∀x mv,Ys x=ZaQ->XX x=some .local):∃ob,aA X y (Y8 E YL (.own (.=ob))) G/\je y A o ob:=by
 walk_at"b";obtain⟨m,⟨ob,d,e,c,k,l,n⟩,hm⟩:=HS;obtain⟨p,i,tk,ins⟩:=S.g.Cb λa q=>by
  rcases ZD q with rfl;exact⟨⟨ob,c⟩,S.f.lG⟩
 obtain⟨t,j,r⟩:=ins _ (Xv rfl);rw[c]at j;cases j;have s:p=Y8 E YL (.own (.=ob)):=by
  walk_at"i";funext a;by_cases b:a=YL;.subst b;rw[r,aa]
  .rw[ag b];exact tk a (by simpa using b)
 rw[s]at i;exact⟨ob,i,d,e,m,k,l,n,loc,λx mv hx=>hm x mv hx (loc x mv hx)⟩
theorem ak.wake(S:Zah)(hl:E YL=some (.own (.=ob)))(k:je l A o ob)(le:lV l y)(n:A.scope.kind=.function)(p:A.globals=W2)(r:A.builtins=We)(i:A.cells=[]):ak X y A o (H2 E YL) G:=by
 obtain⟨j,s,rfl⟩:=UK _ _ hl;walk_at"ai";obtain⟨d,t,m,hd,u,hm,w,hv⟩:=k;refine⟨S.drop λa j e=>(ck e).2,⟨n,p,r,⟨m,(exI3 j d t ⟨s,hd,u,hm⟩),λx mv a b=>SA (hv x mv a) λz Yw=>Ug Yw λe q=>⟨z,e,q.ip le⟩⟩,λx c hx=>?_,λx mv a=>.inl (w x mv a),⟨dZ ..,λj e=>?_,L2 _ _ hl⟩,λx c hx=>?_,λx B c hx=>?_⟩⟩;.rw[i]at hx;cases hx
 .have:=c4 _ _ e;exact ax (SS hl)
 .rw[i]at hx;cases hx
 .rw[i]at hx;cases hx
def ed(D G C:GH):Prop:=∀a o,D a=Zai->G a=Zai/\C a=none
theorem gB.start(rm:Rm X (Tp (.func W9 A) []) n)(x:A.scope.kind=.function)(y:A.globals=W2)(z:A.builtins=We)(B:A.cells=[])(D:c YL=none)(f:je F A o ob)(hB:∀E C,ed c E C->Wz C E->ic X m (.func W9 A) [] n->GF X m (.ok (.ret .none)) (.func W9 A) [] [] A ZbO o E C T λi O w j t=>(i=.next\/i=.ret .none)/\t=[]/\Wz j w):gB X m (.ok (.ret .none)) T F (Y8 c YL (.own (.=ob))) (.fresh (.func W9 A)):=by
 walk_at"aj";refine fQ.mpr λl C E s le p G dj S=>⟨rfl,yg λI=>?_⟩;walk_at"ak";have hl:=p _ _ (aa ..);have N:ed c (H2 E YL) C:=λa k e=>by
  have r:=CQ D e;have u:Y8 c YL (.own (.=ob)) a=some k:=(ag r.symm).trans e;exact⟨(bZ _ r.symm).trans (p a k u),dj a k u⟩
 refine hB (H2 E YL) C N (G.del (dj _ _ (aa ..))) ⟨rfl,rfl,rm⟩ l s _ I id id l rfl ⟨.refl _,λb q=>(by cases q),λb q=>(by cases q),λb q=>(by cases q)⟩ (ak.wake S hl f le x y z B) λQ V PS i PT w j t PM a b d e PN=>?_;walk_at"P";obtain⟨hx,rfl,rb⟩:=PN;have Ue:bF YH m (CU X m (.ok (.ret .none)) [] PM j) (.func W9 A) (leafOf (.ok (.ret .none))) [] V:=uS _ (andI3 rfl rfl ⟨Q,w,b.le,rb,e.g⟩);rcases hx with rfl|rfl;.cases d;exact Ue
 .obtain⟨PW,rfl,PR⟩:=d;cases PR.raw;exact Ue
theorem uH(b:Zcc)(WE:J Z)(u:Yz fa=Zdb)(w:fa≠t7)(hd:n.data=.func a)(z:G' a.code a.qualname)(A:a.code≠.ref t7)(D:a.body=.stmts W9)(F:a.closure=[])(hg:a.globals=W2)(I:a.builtins=We)(N:JN X Ut a V PM PN E WE PR)(hn:Sx)(j:∀x∈WE,a.scope.names.lookup x=some .local)(room:G_<K3)(S:Zah)(Q:ao y V r)(PS:ao y PN k)(h:∀d ga l B C ob,ZaX->aA X B (Y8 (Y8 E d (.own (.=ob))) ga (.gen l (.fresh (.func W9 (W7 a d fa))))) C->E d=none->E ga=none->d≠ga->je B (W7 a d fa) (WQ PR) ob->R (.ok (.ret (.ref ga))) C)(PT:Z3 (a.scope.isCoroutine=false) aR)(PW:Z3 (a.scope.isGenerator=true) aR)(p:Z3 (a.scope.kind=.function) aR):U7 YH m (.call ZaA ⟨r,PM.zip k⟩) R G:=by
 have PX:∀y G,Zah->G.heap.CodeRec a.code a.qualname:=λy G S=>by
  obtain⟨c,o,PY,PZ,e,l,q⟩:=z;exact(exI4 c o PY PZ ⟨e,Tu c o l (by intro P0;subst P0;exact A e),q⟩)
 refine codeAny_call_generator room (Tu fa n u w) hd PT PW D (PX _ _ S) ?_;refine ZS (N y G r k S Q PS) (λQa P2 q=>?_) λO O q=>Vr;walk_at"c";obtain⟨P4,t,P5,P6,YA,P7⟩:=q;rw[YA];rw[F];refine cb p (λx hx=>.inl (j x.1 ((λx hx=>rY WE t x.1 (Yu ⟨x,hx,rfl⟩):∀x∈WQ t,x.1∈WE) x hx))) λYX he s x=>?_;walk_at"g";subst he;have i:=pV P6 hg I p hn P7 (λd x hx=>.inl (j x hx)) x;refine⟨i.g.lim b,?_⟩;obtain⟨ob,P8,P9⟩:=i.sleep λx mv hx=>j x (fo (Vi hx)).1;exact h P2.heap.objs.size Zz s.gens.size P4 _ ob P5 (P8.newGen _) i.f.lG.1 (i.g.fresh (ZV _)) (Zb i.lW) P9
theorem aA.setGen(S:Zah)(f:E ga=some (.gen c Ph))(hb:s.bare=true):aA X y (Y8 E ga (.gen c s)) (G.setGen c s):=by
  walk_at"Q";have m:(G.setGen c s).gens[c]?=some s:=setGen_self (S.gens.vt _ _ _ f);have n:=(GenOnly.setGen G c s).2;refine⟨S.old,Tu,Dp,λa o e=>?_,λa o e=>?_,λa o e=>?_,S.os,⟨?_,?_,?_⟩⟩;.exact eJ (N6:=λa o=>cT _ _ a o) e (by have:=UK _ _ f;exact this) (UK a o)
  . have d:a≠ga:=by intro j;subst j;have:=c4 _ _ e;exact ax (SS f)
    rw[ag d];exact c4 a o e
  .exact eJ (N6:=λa O=>Yz a=none) e (L2 _ _ f) (L2 a o)
  . intro u hy;obtain⟨i,p,rfl⟩:=Array.mem_iff_getElem.mp hy;by_cases e:i=c;.subst e;have:=XB p;rw[m]at this;rw[<-ZW this];exact hb
    .have h1:=n i e;rw[XB p]at h1;obtain⟨r,l⟩:=OT h1.symm;exact l▸S.gens.bare _ (Array.getElem_mem r)
  . intro a g' g e;by_cases d:a=ga;.subst d;rw[aa]at e;cases e;exact m
    . rw[ag d]at e;walk_at"j";have t:g'≠c:=by intro j;subst j;exact d (S.gens.uniq _ _ _ _ _ e f)
      rw[n g' t];exact S.gens.vt _ _ _ e
  . have k:∀a g' g,Y8 E ga (.gen c s) a=some (.gen g' g)->∃q,E a=some (.gen g' q):=λa g' g e=>by
      by_cases d:a=ga;.subst d;rw[aa]at e;cases e;exact⟨_,f⟩
      .rw[ag d]at e;exact⟨_,e⟩
    intro a b g' g q e l;obtain⟨_,h1⟩:=k _ _ _ e;obtain⟨_,h2⟩:=k _ _ _ l;exact S.gens.uniq _ _ _ _ _ h1 h2
variable{Pa:GH}
theorem gV(b:Zcc)(rm:Rm X m PN)(A:Nv=.ok (.ret .none)\/Nv=.ok .next)(S:Zah)(k:E ga=some (.gen q Ph))(p:gB X Ut Nv Nc B Pa Ph)(le:lV B y)(I:Wz Pa E)(N:Wz NJ E)(dj:Dj Pa NJ)(t:Pa ga=none)(l:NJ ga=none)(D:Nc=[]->∀c w C,bG y c->aA X c w C->Wz NJ w->F none C)(h1:∀i XE,Nc=i::XE->∀c w f s n C,bG y c->aA X c w C->Wz NJ w->Wz f w->Dj f NJ->f ga=none->w ga=some (.gen q s)->aw c i n->gB X Ut Nv XE c f s->F Zdb C):ZU YH m (VP (.ref ga)) F PR G:=by
  refine I0 A YO (S.lim b) w2 (UK _ _ k) (S.gens.vt _ _ _ k) ?_;refine(fQ.mp p y (Y8 NJ ga (.gen q .running)) _ _ le (I.upd t) (λa o e=>?_) (λa o e=>?_) (S.setGen k rfl)).mono λe PS he=>⟨he.1,?_⟩
  . by_cases g:a=ga;.subst g;rw[aa]at e⊢;exact e
    .rw[ag g]at e⊢;exact N a o e
  . have g:a≠ga:=by intro j;subst j;exact fv e t rfl
    rw[ag g];exact dj a o e
  have u:∀w,Wz (Y8 NJ ga (.gen q .running)) w->Wz NJ w:=λw h=>λa o e=>h a o (by rw[ag (by intro j;subst j;exact fv e l rfl)];exact e);obtain⟨hq,he⟩:=he;cases e with
  |e4 PT=>cases Nc with
    |Yk=>
      clear A p h1;obtain⟨YA,c,w,a,ex,x⟩:=he;rw[YA];refine⟨rfl,λPW Q=>?_⟩;have T:=x.setGen (ex _ _ (aa ..)) (s:=.finished) rfl;exact D rfl c _ _ a (T.keep Q) ((u _ ex).upd l)|Zp i XE=>exact he.elim
  |susp n g' PX PY PZ P0 fs=>
    clear p D;cases Nc with
    |Yk=>exact he.elim|Zp i XE=>
      obtain⟨c,w,f,a,ex,V,d,r,x,PM⟩:=he;have z:f ga=none:=by cases e:f ga with
        |none=>rfl|some o=>have:=d _ _ e;rw[aa]at this;cases this
      refine h1 i XE rfl c _ f _ n _ a (x.setGen (ex _ _ (aa ..)) (hq)) ((u _ ex).upd l) (V.upd z) (λa o e=>?_) z (aa ..) r PM;clear k t l u h1 ex;have g:a≠ga:=by intro j;subst j;exact fv e z rfl
      have:=d a o e;rw[ag g]at this;exact this
theorem Hid.mono(h:ed b E w)(k:Wz c b):ed c E w:=λa o e=>h a o (k a o e)
abbrev Al(a:YS->J MV->Prop)(D:GH):y_->YS->GH->GH->J MV->Prop:=λb o E w Nc=>match b with|.next|.cont=>∃l,a l Nc/\Od l o/\ed D E w/\Wz w E|_=>L_
inductive Jj(X:Cx)(A:XY)(r:TN)(YX:SM)(j:Wy)(W9:J V4)(n:U)(D:GH)(I:U->YS->J MV->Prop)(l:YS)(G:GH)(t:ZaV)(K:y_->YS->GH->GH->J MV->Prop)(m:MV)(o:GH):Prop where|mk(a:ZaV)(f:U->YS->YS)(b:YS)(g:o=G)(e:m=.lst a)(q:I 0 b t)(s:Od b l)(tg:∀d,d.handled=none->∀k m,a[k]?=Zcg->TG X d cu YX j m (f k))(UB:∀c i p k m l G C t,ic X A c i n->a[k]?=Zcg->I k l t->ed D G C->Wz C G->GF X A r c i p YX Zct (f k l) G C t (Al (I (k+1)) D))(Ue:∀l G C t,I Zx l t->ed D G C->Wz C G->K .next l G C t)
structure Mz(I:U->YS->J MV->Prop)(D:GH)(k:U)(l:YS)(G C:GH)(t:ZaV):Prop where
 i:I k l t
 h:ed D G C
 e:Wz C G
theorem Al.k:∀e o E w t,Al (f j) i e o E w t->F0 (Mz f i j) NS e o E w t:=by
 intro e o E w t q;cases e with
 |next=>obtain⟨l,a,b,c,d⟩:=q;exact⟨l,⟨a,c,d⟩,b⟩|brk=>exact Vr|cont=>obtain⟨l,a,b,c,d⟩:=q;exact⟨l,⟨a,c,d⟩,b⟩|e4 _=>exact Vr
theorem GF.H7(F:ic X m Ni XO n)(D:GH)(I:U->YS->J MV->Prop)(q:ed D E w)(t:Wz w E)(h:EV X Zbv A ZaZ o E (Jj X m Nv A u W9 n D I o E Nc NS))(hs:Z3 (∀x,ZbT=Ye x) aI):GF X m Nv Ni XO Nk A Zbh o E w Nc NS:=by
 refine GF.vO (QG:=cu) F (Mz I D) (λT s S=>?_) hs;walk_at"a";refine W1 S λy V PM PN G a r i z=>?_;clear h S;obtain⟨j,f,l,rfl,rfl,i0,B,tg,UB,Ue⟩:=z;walk_at"b";refine⟨y,G,j.length,_,a,i,Ck.list r i.g.aG,f,l,⟨i0,q,t⟩,B,λC M d e=>?_,λc N p d o E w Nc Q e b=>(UB c N p d j[d] o E w Nc Q (Z6 e) b.1 b.2 b.3).mono Al.k,λo E w Nc b=>Ue o E w Nc b.1 b.2 b.3⟩;rw[Z0,Z6 e];exact tg C M d _ (Z6 e)
theorem rO(a:ZH it=Zaq)(c:b.cls=.type "generator")(h:d () G):ZbR:=iN a c Z' h
def tK(D C:GH):GH:=λa=>(D a).or (C a)
theorem Ba(h:b a=Zao):tK b E a=Zao:=by unfold tK;rw[h];rfl
theorem pE(h:b a=none):tK b E a=E a:=by unfold tK;rw[h];rfl
theorem ER(h:tK b E a=Zao):b a=Zao\/E a=Zao:=by
 unfold tK at h;refine gG (b a) (λhd=>?_) λo hd=>?_;.rw[hd];rw[hd]at h;exact .inr h
 .rw[hd];rw[hd]at h;exact .inl h
theorem Ht(h:tK b E a=none):b a=none/\E a=none:=by
 unfold tK at h;refine gG (b a) (λhd=>?_) λo hd=>?_;.rw[hd];rw[hd]at h;exact⟨rfl,h⟩
 .rw[hd];rw[hd]at h;cases h
theorem Hid.tK(b:ed c E w)(d:Wz w E):Wz (tK c w) E:=λa o e=>(ER e).elim (λh=>(b a o h).1) (d a o)
theorem Hid.cc(c:ed b E w):Wz w (Mine.tK b w):=λa d e=>by
 refine gG (b a) (λhd=>?_) λo hd=>?_;.exact(pE hd).trans e
 .exact nomatch(c a o hd).2.symm.trans e
structure vA(b:ZaV->aT->GH->Vb->Prop)(c:aT)(a D:GH)(ga:Y_)(i:ZaV)(G:GH)(g:U)(st:Vb):Prop where
 at_:a ga=some (.gen g st)
 ext:Wz G a
 self:G ga=none
 GC:D ga=none
 dj:Dj G D
 live:b i c G st
theorem gB.mono(h:gB X m Nv Nc y E Ph)(k:lV y a):gB X m Nv Nc a E Ph:=fQ.mpr λb C G s le=>fQ.mp h b C G s (m' le)
abbrev Il(X:Cx)(a:XY)(r:TN)(n:U):ZaV->aT->GH->Vb->Prop:=λis y E st=>∀A,Rm X A n->gB X A r is y E st
inductive Kt(X:Cx)(A:XY)(r:TN)(n:U)(YX:SM)(f:aT)(l:YS)(C D:GH)(i:ZaV)(j:ZP)(s:Za):Prop where|mk(b:aT)(G:GH)(ga:Y_)(g:U)(st:Vb)(d:GH)(a:bG f b)(S:ak X b YX l G s)(e:j=ZaR)(k:vA (Il X A r n) b G D ga i d g st)(c:C ga=none)(dj:Dj d C)(m:ed D G C)(ext:Wz C G)
theorem GF.Fw(Qj:Zcc)(Qk:P0=.ok (.ret .none)\/P0=.ok .next)(QI:ic X m Ni XO (P2+2))(D:GH)(I:U->YS->J MV->Prop)(i:ZaV)(Ql:U->YS->YS)(h:∀y G,Zab->ZU YH Zbv ZaZ (Kt X m P0 P2 A y o w D i) bz G)(i0:I 0 Qm Nc)(QJ:Od Qm o)(tg:∀Qn,Qn.handled=none->∀k d,i[k]?=ZaD->TG X Qn cu A n d (Ql k))(UB:∀Qo Qp QK P4 k d o E w Nc,ic X m Qo Qp (P2+2)->i[k]?=ZaD->I k o Nc->Wz D P4->ed P4 E w->Wz w E->GF X m Nv Qo Qp QK A ZbO (Ql k o) E w Nc (Al (I (k+1)) P4))(Ue:∀o E w Nc,I Xw o Nc->ed D E w->Wz w E->NS .next o E w Nc)(hs:Z3 (∀PM,XJ WC A PM=Ye PM) aI):GF X m Nv Ni XO Nk A (TP (.For n WC W9 [] Yl) A) o E w Nc NS:=λy G P5 Qq gd Qr p QL C S k=>by
 walk_at"x";refine gk ?_;show bF YH m _ Ni (ar P5 Qq gd Qr (ZG WC A>>=_)) XO G;rw[XI,W3];refine b8 (ZS ZcU (λP6 Qt x=>?_) λO O PM=>PM.elim);obtain⟨Qu,QM,ga,N,st,z,Qv,Qw,rfl,c,u,QN,f,Q⟩:=x;rw[hs ZaR];refine gk ?_;show bF YH m _ Ni (ar P5 Qq gd Qr (T' [ZaR] (h6 (.ref ga))>>=_)) XO Qt;rw[XI,W3];refine b8 (ZF (hW (Qw.g.objs _ _ c.at_) ?_));refine ql λQP=>?_;generalize Qx:Frame.ret _ _ _ _ Ni QP []=fr;have F:ic X m Za9 (fr::XO) (P2+2):=by subst Qx;exact QI.loop QL
 have QQ:∀P7 Qy fl G,bF YH m P7 Ni (P5 fl) XO G->bF YH m P7 Qy (.pure (.done fl)) (fr::XO) G:=λP7 Qy fl G PN=>by
  clear F;subst Qx;exact qy (.ok fl) PN
 have main:∀XE k y o E w Nc p G z st,w1 k=XE->k<=Xw->Be Nk Qu y->qT X y p Nk->ak X y A o E G->vA (gB X (Tp Za9 (fr::XO)).in1 P0) y E D ga XE z N st->w ga=none->Dj z w->ed D E w->Wz w E->I k o Nc->bF YH m (CU X m Nv Nc p w) Za9 Zdd (fr::XO) G:=by
  intro XE;clear c u;induction XE with
  |Yk=>
   intro r y o E w Nc p G z st PR PN P8 C S c u P9 f Q Qa;walk_at"z";have OQ:r=Xw:=by
    have:=Zq Sr PR;rw[Ze,UY]at this;exact bw 0x1ffec22c845b6c441 [_,_] this PN
   subst OQ;obtain⟨QR,Qb,Qc,OB⟩:=S.kG;refine fe (gV Qj F.rm Qk Qc c.at_ c.live Qb.s c.ext (f.tK Q) (λa b e=>(pE (c.dj a b e)).trans (P9 a b e)) c.self ((pE c.GC).trans u) (λO Qd j B Qe PS T=>?_) λd XE hh=>nomatch hh);obtain⟨PT,l,Qf,_,_⟩:=OB Qd j B Qe PS;exact QQ _ _ .next B (k PT B .next .next o j w Nc p (Qv.q.trans (P8.trans l.q)) (C.more l) rfl Qf (Ue o j w Nc Qa (λa b e=>⟨T a b (Ba e),(f a b e).2⟩) λa b e=>T a b (f.cc a b e)))|Zp d XE QS=>
   intro r y o E w Nc p G z st PR PN P8 C S c u P9 f Q Qa;walk_at"z";have hm:i[r]?=ZaD:=by
    have:=Zq (.[0]?) PR;rw[T7]at this;exact this
   have QT:w1 (r+1)=XE:=by rw[<-List.tail_drop,PR];rfl
   obtain⟨QR,Qb,Qc,OB⟩:=S.kG;refine fe (gV Qj F.rm Qk Qc c.at_ c.live Qb.s c.ext (f.tK Q) (λa b e=>(pE (c.dj a b e)).trans (P9 a b e)) c.self ((pE c.GC).trans u) (λhh=>nomatch hh) λRi Rj hh Qd j t V P6 B Qe PS T QU QV Qz QA QW QX=>?_);cases hh;obtain⟨PT,l,Qf,QB,_⟩:=OB Qd j B Qe PS;obtain⟨Rk,_,_,QY,QZ,_⟩:=PS.objs _ _ QA;refine rO QY QZ (ZS (tg _ UP r d hm PT o j B P6 Qf (QW.ip QB)) (λO Q2 Q3 Q4=>?_) λO O x=>VE);have Qg:∀a b,t a=Zaq->D a=none/\w a=none:=λa b e=>Ht (QV a b e);have Q5:∀{a b},D a=Zaq->a≠ga:=λe=>fv e c.GC;have QC:∀a b,t a=Zaq->Y8 (tK t D) ga (.gen N V) a=Zaq:=λa b e=>(ag (fv e Qz)).trans (Ba e);walk_at"s";have QD:Wz D (Y8 (tK t D) ga (.gen N V)):=λa b e=>by
    rw[ag (Q5 e)];refine gG (t a) (λhg=>?_) λQ6 hg=>?_;.exact(pE hg).trans e
    .exact nomatch(Qg a Q6 hg).1.symm.trans e
   have Q7:ed (Y8 (tK t D) ga (.gen N V)) j w:=λa b e=>eJ (N6:=λa b=>j a=Zaq/\w a=none) e ⟨QA,u⟩ λe=>(ER e).elim (λh=>⟨QU a b h,(Qg a b h).2⟩) λh=>⟨T a b (Ba h),(f a b h).2⟩;refine UB _ (fr::XO) Nk _ r d o j w Nc F hm Qa QD Q7 (λa b e=>T a b (f.cc a b e)) PT Q2 (xZ (.forLoop n (.ref ga) W9 [] A)) Q4 id id p rfl (C.more l) Q3 λQ8 QE fl b Q9 Qh PW Qi QF QG Ra QH Rb PX=>?_;have OR:(∃PY,I (r+1) PY Qi/\Od PY Q9/\ed (Y8 (tK t D) ga (.gen N V)) Qh PW/\Wz PW Qh)->bF YH m (CU X m Nv Qi QF PW) Za9 Zdd (fr::XO) QE:=λRc=>SA Rc λPY Yw=>and4 Yw λRf Rg PZ Rh=>have x:=PZ _ _ (aa ..)
    QS (r+1) Q8 PY Qh PW Qi QF QE t V QT (ZN hm).1 (P8.trans (l.q.trans QG)) Ra (Rb.forget Rg) ⟨x.1,λa b e=>(PZ a b (QC a b e)).1,Qz,c.GC,λa b e=>(Qg a b e).1,QX.mono (QB.trans QG.s)⟩ x.2 (λa b e=>(PZ a b (QC a b e)).2) (PZ.mono QD) Rh Rf;cases b with
   |next=>cases QH;exact cO rfl (OR PX)|brk=>exact PX.elim|cont=>cases QH;exact cO rfl (OR PX)|e4 P6=>exact PX.elim
 exact main i 0 Qu Qm QM w Nc p Qt z st rfl (Zg _) (bG.refl _).q (C.more Qv) (Qw.forget QJ) ⟨c.at_,c.ext,c.self,c.GC,c.dj,c.live _ (F.rm.in1.le (Fy))⟩ u QN f Q i0
theorem tA(b:Zcc)(rm:Rm X m (Qg+2))(Q:Nv=.ok (.ret .none)\/Nv=.ok .next)(t:S≠ga)(T:NJ S=none)(V:NJ ga=none):∀(XE done:ZaV)(y:aT)(E Pa:GH)(st:Vb)(G:Za),Zah->E S=some (.list done)->E ga=some (.gen Qh st)->gB X Sq Nv XE y Pa st->Wz Pa E->Pa ga=none->Pa S=none->Wz NJ E->Dj Pa NJ->done.length+rest.length<=ZK->(∀B w C,ZaX->aA X B w C->Wz NJ w->w S=some (.list (done++XE))->R (.ok (.ret PT)) C)->U7 YH m (.builtin "list.extend.loop" ⟨[Za7,ZaR,PT],[]⟩) R G:=by
  intro PW;induction PW with
  |Yk=>
    intro done y E Pa st G u p x z A D q ex dj r I;refine V2 Ov ?_;walk_at"c";walk_at"c";show ZU _ Ut (VP ZaR>>=_) _ _ G;refine Z7 (gV (NJ:=Y8 NJ S (.list done)) b rm.in1 Q u x z (.refl _) A (λa o e=>?_) (λa o e=>?_) D (by rw[ag (Zh t)];exact V) (λO B w C l s f=>?_) λg XE hh=>by cases hh);.exact eJ e p (ex a o)
    . have c:a≠S:=by intro i;subst i;exact fv e q rfl
      rw[ag c];exact dj a o e
    . refine Z5 (I B w C l s (λa o e=>f a o ?_) ?_);.rw[ag (by intro i;subst i;exact fv e T rfl)];exact e
      .rw[Zn];exact f _ _ (aa ..)|Zp g XE PX=>
    intro done y E Pa st G u p x z A D q ex dj r I;refine V2 Ov ?_;walk_at"c";show ZU _ Ut (VP ZaR>>=_) _ _ G;refine Z7 (gV (NJ:=Y8 NJ S (.list done)) b rm.in1 Q u x z (.refl _) A (λa o e=>?_) (λa o e=>?_) D (by rw[ag (Zh t)];exact V) (λhh=>by cases hh) λPY PZ hh B w N P0 j C l s f P2 PM P4 P5 P6 P7=>?_);.exact eJ e p (ex a o)
    .have c:a≠S:=fv e q;rw[ag c];exact dj a o e
    . obtain⟨rfl,rfl⟩:g=PY/\XE=PZ:=by cases hh;exact⟨rfl,rfl⟩
      have PN:=f _ _ (aa ..);obtain⟨k,n,PR,rl⟩:=s.objs _ _ PN;have PS:=W0;have d:N S=none:=gG (N S) id λo e=>ax ((PM _ _ e).symm.trans (aa ..));show ZU _ Ut (updateSeq S (·.push j)>>=_) _ _ _;refine Z7 ?_;clear p q;have P8:aA X B (Y8 w S (.list (done++[g]))) {C with X_:=C.heap.update S (Yc (·.push j)),Wf:=C.toks}:=s.set PN (Y' ..) (Vs (k.push j) (if(k.push j).size==k.size then n else n+1) ⟨YR (o:=X8 Zae k n) _ PR rfl,by rw[Se];exact rl.snoc P6⟩);refine UX PR rfl (Z5 ⟨TS Ou _,PX (done++[g]) B (Y8 w S (.list (done++[g]))) N P0 _ P8 (aa ..) (by rw[ag (Zh t)];exact P5) P7 (P2.upd d) P4 d (λa o e=>?_) (λa o e=>?_) ?_ λP9 Qa Qb Qc Qd Qe Qf=>?_⟩) (by rw[PS];(exact Kf r)) (by show(k.push j).size<=ZK+1;rw[Array.size_push,PS];(exact Kd r))
      . have c:a≠S:=by intro i;subst i;exact fv e T rfl
        rw[ag c];exact f a o (by rw[ag c];exact e)
      .have c:a≠S:=fv e d;have:=PM a o e;rw[ag c]at this;exact this
      .rw[Z1,YY];(exact GS r)
      .refine I P9 Qa Qb (l.trans Qc) Qd Qe ?_;rw[Qf,ZQ];rfl
theorem BE(b:Zcc)(rm:Rm X m (n+4))(x:Nv=.ok (.ret .none)\/Nv=.ok .next)(z:NJ ga=none)(p:Zah)(f:E ga=some (.gen q Ph))(A:gB X m.in1.in1.in1 Nv Nc y Pa Ph)(e:Wz Pa E)(D:Pa ga=none)(ex:Wz NJ E)(dj:Dj Pa NJ)(I:P_<=ZK)(N:∀S B w C,ZaX->aA X B w C->Wz NJ w->NJ S=none->w S=some (.list Nc)->T Za7 C):ZU YH m (VQ Zae [ZaR]) T P0 G:=by
 refine callType_codes (Q₁:=λobj s=>obj=ZaB/\s={G with X_:=Zm {Uc:=Zae,Xg:=.seq #[]}}) F.called_list (F.typeCall_list_1 _) F.entry_list_init (code_list_new _ ⟨rfl,rfl⟩) λobj s Q=>?_;obtain⟨rfl,rfl⟩:=Q;generalize i:ZZ=S;have c:(Zm {Uc:=Zae,Xg:=.seq #[]}).get? S=some {Uc:=Zae,Xg:=.seq #[]}:=by subst i;exact ZL _ rfl
 have g:=p.fresh (GX i);have V:aA X y Zby {G with X_:=Zm {Uc:=Zae,Xg:=.seq #[]}}:=by
  clear c g;subst i;exact p.new (Vs (#[]) 0 ⟨ZL _ rfl,.nil⟩)
 have d:S≠ga:=by intro PM;subst PM;exact ax (g.symm.trans f)
 have j:=kV g;have r:=ai g;refine⟨⟨_,c,rfl⟩,F.args_list_init_2 _ _,?_⟩;show ZU _ Sq (do let old<-Builtin.List.listItems Za7;BO Za7 (λO=>#[]);letGo old.toList.reverse;TK Za7 ZaR .none) _ _ _;refine Z7 ?_;refine Z7 (VI c rfl (Z5 ?_));show ZU _ Sq (updateSeq S (λO=>#[])>>=λO=>letGo #[].toList.reverse>>=λO=>TK Za7 ZaR .none) _ _ _;refine Z7 (UX c rfl ?_);have k:=YR (Yc (λO=>#[])) c rfl;have a:aA X y ZaT {G with X_:=(Zm {Uc:=Zae,Xg:=.seq #[]}).update S (Yc (λO=>#[])),Wf:=Wv}:=V.set (aa ..) (Y' ..) (Vs (#[]) _ ⟨k,.nil⟩);rw[aQ]at a;refine Z7 (sk ?_);have l:∀G:Za,aA X y Zby G->br ZaR "generator":=λG PN=>by
  have:=PN.objs ga (.gen q Ph) (by rw[ag (Zh d)];exact f);exact Heap.IsGen.typeIs this
 refine Z7 (wd (l _ a) ?_);have h1:S5 Za7 ZaR=false:=by simp[S5,d]
 have h2:(Vz "generator"==Vz "list")=false:=by rfl
 have t:(Vz "generator"==Vz "tuple")=false:=by rfl
 first|refine UW (T6 (by rw[h1,h2,t];exact Yn) ?_)|refine Z7 (UW (T6 (by rw[h1,h2,t];exact Yn) ?_))
 have PR:=a.objs ga (.gen q Ph) (by rw[ag (Zh d)];exact f);refine Z7 (hW PR ?_);refine Z7 (ZF ?_);refine Z7 (VA (l _ a) F.gen_no_len ?_);show ZU _ Sq (q_ (N' ga) (WZ "__length_hint__")>>=_) _ _ _;refine Z7 (VA (l _ a) F.gen_no_hint ?_);refine Z5 ?_;show ZU _ Sq (rule "list.extend.makes-room">>=λO=>Builtin.List.listTouch Za7>>=λO=>OR (.builtin "list.extend.loop" ⟨[Za7,ZaR,.none],[]⟩)) _ _ _;refine Z7 (Vy ?_);refine Z7 ?_;refine Z7 (UX k rfl ?_);have o:=YR (Yc (·.push U9)) k rfl;refine UX o rfl ?_;have PS:=YR (Yc (·.pop)) o rfl;have u:aA X y ZaT {G with X_:=(((Zm {Uc:=Zae,Xg:=.seq #[]}).update S (Yc (λO=>#[]))).update S (Yc (·.push U9))).update S (Yc (·.pop)),Wf:=Wv}:=by
  have PT:aA X y (Y8 Zby S (.own λO=>m2)) {G with X_:=(((Zm {Uc:=Zae,Xg:=.seq #[]}).update S (Yc (λO=>#[]))).update S (Yc (·.push U9))),Wf:=Wv}:=a.set (aa ..) (Y' ..) ⟨_,o,trivial⟩;have z2:=PT.set (n:=Wv) (a:=Zar) (aa ..) (Y' ..) (Vs (#[]) _ ⟨PS,.nil⟩);rw[aQ]at z2;exact z2
 rw[aQ]at u;refine Z5 ⟨TS Ou _,tA (m:=Ut) b (Qg:=n) (rm.in1.le (by exact Ln)) x d j z Nc [] y _ Pa Ph _ u (aa ..) (by rw[ag (Zh d)];exact f) A (e.upd r) D r (ex.upd j) dj (by simpa using I) λB w C PW PX PY PZ=>?_⟩;exact⟨rfl,N S B w C PW PX PY j PZ⟩
theorem EV.Eo(b:Zcc)(rm:Rm X m (n+4))(t:Nv=.ok (.ret .none)\/Nv=.ok .next)(u:XX ("list")=Zaa)(hn:V0 ("list")=none)(hv:Va ("list")=some Zae)(h:∀y G,Zab->ZU YH m ZcH (λf C=>∃B d ga j st w,ZaX/\ak X B A o d C/\f=ZaR/\vA (λis y w st=>∀l,Rm X l n->gB X l Nv is y w st) B d E ga Nc w j st/\Wz E d) bz G)(x:P_<=ZK)(k:g (.lst Nc) E)(he:Z3 (Zr [c] A=(false,ZcH)::ZbB) aR):EV X m A (ZG (.Call (.Name ("list") P7) [c] [] Yl) A) o E g:=λy G S=>by
 walk_at"a";refine sL ?_ rfl;walk_at"a";refine(p_ (g:=λz i=>z=.raw Zae/\i=E) b u hn hv ⟨rfl,rfl⟩ (by rfl)).use S λD F f mv d a r I N=>?_;clear S;obtain⟨rfl,rfl⟩:=N;rw[Vh];refine TJ (rr (ZS (h D F I) (λf P8 q=>?_) λO O q=>q) he) he rfl;walk_at"a";obtain⟨P9,Qa,ga,j,st,w,Q,T,rfl,e,ex⟩:=q;refine c0 ?_;obtain⟨Qb,V,PM,OB⟩:=T.kG;refine BE b (n:=n) rm t (NJ:=d) e.GC PM e.at_ ((e.live _ (rm.in1.in1.in1.le (by exact Fy))).mono V.s) e.ext e.self ex e.dj x λQc B i C PN PR PS PT p=>?_;obtain⟨Qd,PW,PX,Qe,_⟩:=OB B i C PN PR;obtain⟨PY,PZ,P0,P2⟩:=PX.jc p;clear p;exact⟨PY,.lst Nc,d,(Xb Q).trans (PW.trans PZ),P0,P2.drop (λP4 P5 c=>by rw[bZ _ (by intro P6;subst P6;exact ax (PT.symm.trans c))];exact PS P4 P5 c),k⟩
structure xn(X:Cx)(C N:Y_)(mN:Z->Zs ZP):Prop where
 at_:ClsAt X.B C N mN
 nc:C≠t7
 nn:N≠t7
 J3:mN "__getattribute__"=none
 ng:mN "__getattr__"=none
 L8:mN "__setattr__"=none
def nY(C d:Y_)(o:OD):Prop:=o.cls=Zbq/\(∀c,L3≠.cls c)/\o.dict=some d
structure TA(G:GH)(x C d:Y_)(al:YS):Prop where
 ob:G x=some (.own (nY C d))
 dc:G d=some (.ns al)
variable{Nh Nb:Y_}
theorem Inst.ne(I:TA E Nh z Nb o):Nb≠Nh:=by intro a;subst a;have:=I.ob;rw[I.dc]at this;cases this
variable{NK:Z->Zs ZP}
theorem xn.sat(c:Za1)(S:Zah):ClsAt YI z Nh NK:=by exact⟨c.at_.obj.imp λnm=>VC λq=>VC λbs=>VC λs=>VC λsub=>VC λcol=>VC λdd=>VC λk0=>VC λk=>VC λk2=>VC λa=>VC λb e=>Tu _ _ e c.nc,S.ns c.at_.ns c.nn⟩
theorem xn.use(c:Za1)(S:Zah){d:Prop}(f:∀nm q bs s sub col dd k0 k k2 a b,ZH z=some (excClassObj nm q z Nh bs [Zaj] true s sub false col dd k0 k k2 a b "object.__new__")->G.heap.Ns Nh NK->d):d:=by exact(c.sat S).obj.elim λnm q=>Vr λq x=>VE λbs x=>VE λs x=>VE λsub x=>VE λcol x=>VE λdd x=>VE λk0 x=>VE λk x=>VE λk2 x=>VE λa x=>VE λb e=>f nm q bs s sub col dd k0 k k2 a b e (c.sat S).ns
theorem Inst.heap(I:TA E Nh z Nb o)(S:Zah):∃m a,ZH Nh=Zax/\nY z Nb a/\G.heap.Inst Nh z m/\G.heap.Ns1 Nb m/\(∀b,Ys b=none->m b=none)/\∀b mv,Ys b=ZaQ->∃d,m b=ZaD/\aw y mv d:=by
 walk_at"b";obtain⟨a,e,c⟩:=UK _ _ I.ob;obtain⟨m,n1,f,hv⟩:=UK _ _ I.dc;exact⟨m,a,e,c,⟨a,e,c.1,c.2.1,.inr ⟨Nb,c.2.2,I.ne,n1⟩⟩,n1,f,hv⟩
inductive MG(X:Cx)(C:Y_)(Gb:Z)(K:MV->GH->Prop)(m:MV)(G:GH):Prop where|mk(x d:Y_)(al:YS)(mv:MV)(e:m=ZaI)(I:TA G x C d al)(h:P1 Gb=ZaQ)(b:∀id,mv≠.raw ZaJ)(k:K mv G)
theorem EV.Hg(c:Za1)(j:NK Gb=none)(hB:V8 Zaj Gb=Ye none)(h:EV X m A Zcs o E (MG X z Gb g))(he:Z3 (ZG (.Attribute U2 Gb Yl) A=(do
   let b<-ZG U2 A
   VV ab let f<-T' [b] (ec b Gb true)
   Sb U2 b f
   Ye f)) aW):EV X m A (ZG (.Attribute U2 Gb Yl) A) o E g:=λF M l=>sg (W1 l λn s N Q G a p S k=>by
  walk_at"a";obtain⟨x,d,al,mv,rfl,I,hx,q,w⟩:=k;rw[p.raw];obtain⟨mm,b,T,V,y,n1,PM,hv⟩:=I.heap iw;obtain⟨u,B,r⟩:=hv Gb mv hx;obtain⟨hh,PN,PR,tt,os⟩:=s;walk_at"e";refine c.use iw λnm PS bs PT sub col dd k0 PW k2 PX PY C D=>?_;refine load_attr C D c.J3 j hB y B ?_ ⟨n,mv,G,a,r,G1 _,w⟩;cases u<;>first|rfl|skip
  exfalso;cases mv with
  |raw PZ=>have:=Vh;subst this;exact q _ rfl|int i=>obtain⟨t,e⟩:=g5;cases e|str i=>obtain⟨t,e⟩:=u0;cases e|seq c P0=>obtain⟨_,_,_,e,_⟩:=l_;cases e) he
variable{Nt:Y_}
theorem s6(p:Za1)(PS:NK Gb=none)(hB:V8 Zaj Gb=Ye none)(I:TA E Nb z Nt NF)(S:Zab)(PT:aw y mv u)(PW:NF.length<=100)(h:∀C,ak X y A o (Y8 E Nt (.ns (aJ Gb mv NF))) C->PX () C):ZU YH m (setAttr (.ref Nb) Gb u) PX bz G:=by
  obtain⟨Qk,d,l,j,r,n1,t,hv⟩:=I.heap iw;have w:Nb≠z:=by
    clear I r;intro PY;subst PY;exact p.use iw λnm q bs PZ sub col dd k0 P0 k2 P2 P4 s O=>j.2.1 _ (Zq _ (ZW (l.symm.trans s)))
  obtain⟨hh,Ql,Qm,tt,os⟩:=G;walk_at"f";refine p.use iw λnm q bs PZ sub col dd k0 P0 k2 P2 P4 s P5=>?_;refine store_attr (ns:=NF.map (·.1)) F.store_object s P5 p.L8 PS hB w r (λP6 Qn P7 P8 x=>?_) (λa hy=>?_) (by rw[Z2,af];exact K7 PW)
  . obtain⟨Qo,D,P9,Qa,Qb⟩:=P7;obtain⟨N,Q,e1,e2,T,Qc⟩:=x d l;have Qd:N=d:=by
      obtain⟨a1,a2,Qp,Qq⟩:=d;obtain⟨b1,b2,Qr,Qt⟩:=N;have Qe:b2=a2:=by have h1:=Qc Nt j.2.2;have h2:=j.2.2;simp only at h1 h2;rw[h1,h2]
      simp only at e1 e2 T;clear l;subst e1 e2 T Qe;rfl
    clear w r n1 x P9 Qa;subst Qd;rw[Q]at D;cases D;obtain⟨qS,_⟩|⟨d2,hd2,Qf,Qg⟩:=Qb;.exact ax (qS.symm.trans (j.2.2))
    . rw[j.2.2]at hd2;clear Qf;cases hd2;have sf:∀b ob,b≠Nt->hh.get? b=some ob->P6.get? b=some ob:=λb ob hb e=>by
        by_cases V:b=Nb;.subst V;rw[l]at e;cases e;exact Q
        .exact P8 b ob V (λQu Qv h1 h2=>by rw[l]at h1;cases h1;rw[j.2.2]at h2;cases h2;exact hb) e
      refine h _ ?_;walk_at"al";have TU:=OZ _ _ I.dc;have ga:=I.dc;clear h;have n:∀ob,¬y Nt ob:=λob e=>by have:=OC _ _ e;rw[ga]at this;cases this
      have nl:YL≠Nt:=λe=>by have:=S.f.lG.1;rw[e,ga]at this;cases this
      have PM:∀a c,Xx a=Zao->c≠Nt:=λa c k e=>by have:=(W8 a c k).1;rw[e,ga]at this;cases this
      refine⟨⟨S.g.old.kQ (Pl:=(.∈[Nt])) (λQw q=>by simp at q;rw[q];exact TU) (λb d hb e=>sf b d (by simpa using hb) e),λb ob e Qh=>sf b ob (λq=>by rw[q,TU]at e;cases e) (K_ b ob e Qh),λb ob e=>sf b ob (λq=>n ob (q▸e)) (Yd b ob e),λb ob e=>?_,λb ob e=>?_,λb ob e=>?_,ct,S.g.gens.upd rfl⟩,L1 (λd e=>sf _ d nl e) (λa c d k e=>sf _ d (PM a c k) e) (by rw[ag nl];exact S.f.lG.1) λa c k=>by rw[ag (PM a c k)];exact(W8 a c k).1⟩
      . by_cases hb:b=Nt
        . subst hb;rw[aa]at e;rw[<-ZW e];refine⟨_,Qg,λa hy=>?_,λa Qi hy=>?_⟩
          . rw[aB]at hy;by_cases i:a=Gb;.rw[ZT i]at hy;cases hy
            .rw[ZY i]at hy;simp only[ZY i];exact t a hy
          . rw[aB]at hy;by_cases i:a=Gb;.rw[ZT i]at hy;cases hy;exact⟨u,ZT i,PT⟩
            .rw[ZY i]at hy;simp only[ZY i];exact hv a Qi hy
        .rw[ag hb]at e;have PN:=Wd b ob e;obtain⟨Qj,PR⟩:=PN.obj;exact PN.mono Zbs ((sf b Qj hb PR).trans PR.symm)
      .have hb:b≠Nt:=λq=>n ob (q▸e);rw[ag hb];exact OC b ob e
      .exact eJ (N6:=λb O=>Yz b=none) e TU (OZ b ob)
  . by_cases hl:Q' a=none;.exact Zc (t a hl) hy
    .obtain⟨Qx,e⟩:=Option.ne_none_iff_exists'.mp hl;exact Yu ⟨_,Vi e,rfl⟩
inductive Mq(X:Cx)(C:Y_)(Gb:Z)(mv:MV)(K:GH->Prop)(m:MV)(G:GH):Prop where|mk(x d:Y_)(al:YS)(e:m=ZaI)(I:TA G x C d al)(z:al.length<=100)(k:K (Y8 G d (.ns (aJ Gb mv al))))
theorem OW(c:Za1)(b:NK N=none)(hB:V8 Zaj N=Ye none)(h:EV X m A (ZG f A) o E (Mq X z N mv (Pb o))):bq X m A (.Attribute f N Yl) mv o E Pb:=λp s q S r=>by
 walk_at"a";refine Z7 (ZF (W1 S λe t u w G a g i k=>Z7 (Yo ?_)));obtain⟨x,d,al,rfl,I,j,l⟩:=k;rw[g.raw];exact Z7 (ZF (s6 c b hB I i (Uv a) j λy n=>wpAny_release ⟨e,o,_,a,n,l⟩))
theorem EF.jv(c:Za1)(e:NK Gb=none)(hB:V8 Zaj Gb=Ye none)(h:EV X m A Zcl o E λmv w=>EV X m A ZbS o w (Mq X z Gb mv (D .next o)))(hs:Z3 (Oc b (some (.Attribute d Gb f)) LV A=Ye false) aR):EF X m A (TP (.Assign [.Attribute d Gb f] b Yl) A) o E D:=λy B S=>by
 walk_at"a";rw[plainObj_exec_Assign_Attribute d Gb f b Yl hs];refine Z7 (Yo (Z7 (W1 S λg s i mv C a r j k=>Z7 ?_)));refine ZS (OW (Pb:=λl w=>D .next l w) c e hB k g s i j r) (λO F q=>?_) λO O q=>q;obtain⟨n,p,G,t,u,x⟩:=q;exact Z5 ⟨n,.next,p,G,Xb t,rfl,u,x⟩
theorem gg(h:EV X m A ZbS o E λmv w=>bq X m A b mv o w λg G=>bq X m A c mv g G λl e=>D .next l e)(he:Z3 ((Kc [b,c] A).map (·.2)=[w_ b A,w_ c A]) aR)(hw:Z3 (Gu [b,c] d A=Ye none) aR):EF X m A (TP (.Assign [b,c] d Yl) A) o E D:=λM N S=>wpAny_Assign_two (W1 S λi s f mv G j r n k=>ZS (k i s f n r) (λO p q=>by
  obtain⟨t,l,e,a,u,x⟩:=q;refine ZS (x t p f u (Uv a)) (λO Q q=>?_) λO O q=>q;obtain⟨y,z,B,C,F,I⟩:=q;exact⟨y,.next,z,B,(j.trans a).trans C,rfl,F,I⟩) λO O q=>q) he hw
theorem j7(c:Za1)(a:NK name=some Zb9)(b:Yz f=some of)(e:f≠t7)(i:of.cls=Zap)(hB:V8 Zaj name=Ye u)(I:TA E Nb z Nt o)(j:Ys name=none)(S:Zah)(h:l (Zb9,[ZbX]) G):ZU YH m (Ob (.ref Nb) name x) l F G:=by
 obtain⟨w,A,C,D,n,n1,p,hv⟩:=I.heap S;obtain⟨hh,g,d,tt,os⟩:=G;walk_at"f";refine c.use S λnm q bs s sub col dd k0 k k2 N Q r t=>?_;exact method_of r t c.J3 c.ng a (Tu _ _ b e) i hB n (p name j) h
variable{NM:Y_}{N3:OD}{PD:C'}{PH:Zs ZP}
theorem EV.It(c:Za1)(t:NK N=some ZcZ)(d:Yz NM=some N3)(e:NM≠t7)(u:N3.cls=Zap)(w:N3.data=.func PD)(hB:V8 Zaj N=Ye PH)(h:EV X m A ZaE o E λf G=>∃Nb Nt NF,f=ZbX/\TA G Nb z Nt NF/\Q' N=none/\EA X m A (Nn::NP) o G λi j=>b9 X m ZcZ (.ref Nb::i) j g)(he:Z3 (eL A Ng N Np (Nn::NP) Ny Nz) aR)(x:Z3 (gH A Nn NP) aR):EV X m A (ZG (.Call Zda (Nn::NP) [] Ny) A) o E g:=λy PN C=>OP (pl:=Nz) (W1 C λPR PS PT f G a r S k=>by
  obtain⟨Nb,Nt,NF,rfl,I,D,F⟩:=k;rw[Vh];refine j7 c t d e u hB I D iw ?_;have l:=(F Ny).use S (a:=λb s=>WU NM=some N3/\ZU YH m (VQ ZcZ ([ZbX]++b)) Zad bz s) λPW s b i j Q V n PM=>⟨n.g.base _ _ d e,ZS (PM.ev n (.cons (aE ..) V)) (λO O q=>l' (Xb Q)) λO O q=>q⟩;rw[x]at l⊢;exact Calls.callWith_function (o:=N3) (fd:=PD) (OM (ZS l (λb s p=>⟨⟨p.1,w⟩,p.2⟩) λO O q=>q))) he
theorem EV.Gd(c:Za1)(f:NK N=some ZcZ)(b:Yz NM=some N3)(d:NM≠t7)(i:N3.cls=Zap)(j:N3.data=.func PD)(hB:V8 Zaj N=Ye PH)(h:EV X m A ZaE o E λe G=>∃Nb Nt NF,e=ZbX/\TA G Nb z Nt NF/\Q' N=none/\b9 X m ZcZ [ZbX] G g)(he:Z3 (eL A Ng N Np [] Ny Nz) aR):EV X m A ZcR o E g:=λt s l=>OP (pl:=Nz) (W1 l λu w x e G a r S k=>by
  walk_at"a";obtain⟨Nb,Nt,NF,rfl,I,n,p⟩:=k;rw[Vh];refine j7 c f b d i hB I n iw ?_;refine callWith_meth0 j (K_ _ _ b d) ?_;exact ZS (p.ev S (.one (aE ..))) (λO O q=>l' a) λO O q=>q) he
theorem Dt(c:Za1)(w:∀y B d G,ZaX->Pg B d G->Pg y d G)(x:NK N=some ZcZ)(f:Yz NM=some N3)(i:NM≠t7)(C:N3.cls=Zap)(D:N3.data=.func PD)(hB:V8 Zaj N=Ye PH)(h:EV X m A ZaE o E λj e=>∃Nb Nt NF,j=ZbX/\TA e Nb z Nt NF/\Q' N=none/\EA X m A (Nn::NP) o e λl n=>∀y G b,ak X y A o n G->ao y (.ref Nb::l) b->ZU YH m (VQ (.ref NM) b) (Pg y) bz G)(F:Zab)(he:Z3 (eL A Ng N Np (Nn::NP) Ny Nz) aR)(Q:Z3 (gH A Nn NP) aR):ZU YH m (ZG (.Call Zda (Nn::NP) [] Ny) A) (Pg y) bz G:=OP (pl:=Nz) (W1 F λPW PX d j e a r S k=>by
  obtain⟨Nb,Nt,NF,rfl,I,V,PM⟩:=k;rw[Vh];refine j7 c x f i C hB I V iw ?_;have p:=(PM Ny).use S (a:=λb s=>WU NM=some N3/\ZU YH m (VQ ZcZ ([ZbX]++b)) (Pg y) bz s) λPN s b l n PR PS t PT=>⟨t.g.base _ _ f i,ZS (PT PN s (.ref Nb::b) t (.cons (aE ..) PS)) (λO O q=>w _ _ _ _ (Xb PR) q) λO O q=>q⟩;rw[Q]at p⊢;exact Calls.callWith_function (o:=N3) (fd:=PD) (OM (ZS p (λb s u=>⟨⟨u.1,D⟩,u.2⟩) λO O q=>q))) he
theorem aA.IG(S:Zah)(sf:∀c o,ZH c=Zai->i.get? c=Zai)(m:ZH a=none)(hb:ZH b=none)(s:a≠b)(x:cT y i a q)(p:cT y i b ob)(n:(q.kd==3)=false)(nb:(ob.kd==3)=false):aA X y (Y8 (Y8 E a q) b ob) {G with X_:=i}:=by
  walk_at"Q";have Q:aA X y E {G with X_:=i}:=RH sf;have fr:∀c,ZH c=none->E c=none/\(∀o,¬y c o)/\Yz c=none:=λc j=>by
    refine⟨?_,λo e=>?_,?_⟩;.cases e:E c with
      |none=>rfl|some o=>obtain⟨r,g⟩:=(UK c o e).obj;rw[j]at g;cases g
    .exact ax (j.symm.trans (Dp _ _ e))
    .cases e:Yz c with|none=>rfl|some o=>obtain⟨r,g⟩:=S.old.k.there c o e;rw[j]at g;cases g
  refine⟨Q.old,Q.base,Q.aG,λc o e=>?_,λc o e=>?_,λc o e=>?_,Q.os,(Q.gens.upd n).upd nb⟩
  . by_cases d:c=b;.subst d;rw[aa]at e;cases e;exact p
    . rw[ag d]at e;by_cases f:c=a;.subst f;rw[aa]at e;cases e;exact x
      .rw[ag f]at e;exact Q.objs c o e
  . have d:c≠b:=by intro l;subst l;exact(fr _ hb).2.1 o e
    walk_at"j";have f:c≠a:=by intro l;subst l;exact(fr _ m).2.1 o e
    rw[ag d,ag f];exact Q.c7 c o e
  . by_cases d:c=b;.rw[d];exact(fr _ hb).2.2
    . rw[ag d]at e;by_cases f:c=a;.subst f;exact(fr _ m).2.2
      .rw[ag f]at e;exact Q.low c o e
theorem Rm.make(h:Rm X m (n+1))(a:Zc7):Rm X (m.under (.builtin "type.__call__" ⟨.ref z::a,[]⟩)) n:=by exact⟨by rw[(rfl:(m.under (.builtin "type.__call__" ⟨.ref z::a,[]⟩)).depth=G_+1)];(exact GS (l4)),by rw[(rfl:(m.under (.builtin "type.__call__" ⟨.ref z::a,[]⟩)).units=OY+1)];(exact a9 0x1fc8e12141c1c8e1283841 [20,20] [_,_,_] [] (lx)),rk⟩
theorem EV.Ij(b:Zcc)(c:Za1)(rm:Rm X m (PW+1))(PX:XX f=Zaa)(hv:V0 f=some Zay)(PY:NK "__init__"=some Zb0)(PZ:Yz r=some P0)(P2:r≠t7)(P4:P0.cls=Zap)(h:EA X m A (a::d) o E λw G=>∀x Nb Nt,Rm X x PW->G Nb=none->G Nt=none->Nb≠Nt->b9 X x Zb0 (.ref Nb::w) (Y8 (Y8 G Nt (.ns [])) Nb (.own (nY z Nt))) λt l=>t=.none/\g ZbX l)(P5:Z3 ((f==("__debug__"))=false) aD)(P6:Z3 (gH A a d) aR)(hp:Z3 (nr A d) aI):EV X m A (ZG (.Call (.Name f QB) (a::d) [] Yl) A) o E g:=λP7 QC C=>by
  walk_at"a";refine sL ?_ rfl;refine(mi (g:=λt n=>t=.raw Zay/\n=E) b PX hv ⟨rfl,rfl⟩ P5).use C λQD D P8 mv G P9 Qa Qb Qc=>?_;clear C;obtain⟨rfl,rfl⟩:=Qc;rw[Qa.raw];obtain⟨nm,q,bs,I,sub,col,dd,k0,k,k2,N,Q,Qd⟩:=c.at_.obj;have V:=(h Yl).use Qb (a:=λe s=>WU z=some (excClassObj nm q z Nh bs [Zaj] true I sub false col dd k0 k k2 N Q "object.__new__")/\ZU YH m (VQ (.ref z) e) (PV X A P7 o g) bz s) λQE s e w l Qe Qf PM Qg=>⟨PM.g.base _ _ Qd c.nc,by
    walk_at"a";obtain⟨Qh,Qi,S,OB⟩:=PM.kG;obtain⟨hh,QF,QG,tt,os⟩:=s;walk_at"e";refine c.use S λnm q bs I sub col dd k0 k k2 N Q i Qj=>?_;refine wpAny_call_obj_init F.objNew i Qj PY (Tu _ _ PZ P2) P4 λQk Nb Nt mk=>?_;walk_at"e";obtain⟨p,PN,Ql,Qm,hd⟩:=mk.inst;have j:=mk.dict p PN;have PR:Nt≠Nb:=by
      refine hd.elim (λYA=>?_) λYA=>?_;.obtain⟨h1,_⟩:=YA;exact ax (pn j)
      .obtain⟨u,h1,h2,_⟩:=YA;rw[j]at h1;cases h1;exact h2
    have n1:Qk.Ns1 Nt λO=>none:=by
      refine hd.elim (λYA=>?_) λYA=>?_;.obtain⟨h1,_⟩:=YA;exact ax (pn j)
      .obtain⟨u,h1,h2,Qn⟩:=YA;rw[j]at h1;cases h1;exact Qn
    have fr:∀y,hh.get? y=none->l y=none:=λy hy=>by cases a:l y with|none=>rfl|some p=>obtain⟨QH,Qo⟩:=(UK y p a).obj;exact ax (hy.symm.trans Qo)
    refine Wa (V' (Qg _ Nb Nt (rm.make e) (fr Nb mk.newX) (fr Nt mk.newD) (Zh PR) Qh _ (.ref Nb::e) (S.IG mk.keeps mk.newD mk.newX PR ⟨_,n1,λO O=>rfl,λy mv a=>by exact ax a⟩ ⟨p,PN,Ql,Qm,j⟩ rfl rfl) (.cons (aE ..) (Qf.mono Qi))) λQI PS q=>?_);obtain⟨P8,Qp,mv,n,YA,Qq,Qr,Qt,YB,Qu⟩:=q;subst YA;subst YB;obtain⟨Qv,Qw,Qx,QJ,_⟩:=OB Qp n PS Qq Qt;exact⟨Qr.raw,Qv,ZbX,n,(P9.trans Qe).trans Qw,aE ..,Qx,Qu⟩⟩;rw[P6]at V⊢;have Qy:((UJ Yl ((false,Zcn)::Zr d A)).any (λNb=>Nb.fst)||([]:J (Zs Z×p' ZP)).any λNb=>Nb.fst.isNone)=false:=by rw[hp Yl];rfl
  refine Z7 (ZF (OM (ZS V (λe D PT=>?_) λO O Nb=>Nb)));obtain⟨hh,Qz,u,QA,os⟩:=D;have i:=PT.1;have QK:=tc_lookup;have QL:(⟨hh,Qz,u,QA,os⟩:Za).TypeIs Zay "type":=⟨_,i,rfl⟩;refine Z7 (Yo ?_);repeat(any_goals(first|assumption|with_reducible refine wpAny_loadPart_at i ?_|with_reducible refine wpAny_load' i ?_|wp_step))
  rw[ZT (by rfl),Qy];exact Z7 (ZS PT.2 (λQM PS hr=>Z7 (ZF (gn (Z5 hr)))) λO O Nb=>Nb)
def d0(X:Cx):Prop:=∃o,Yz ov=some o
abbrev sD(X:Cx)(k:J (Z×ZP)):MO:=.own λo=>o.IsDictOf ZaL k
inductive dw:J (Zw×Zw)->J (Zw×ZP)->Prop|Yk:dw [] []|Zp{k a:Zw}{t:nj}{j b}:dw j b->dw ((k,a)::j) ((k,.int a t)::b)
abbrev iD(X:Cx)(j:J (Zw×Zw)):MO:=.own λo=>∃k,o.IsDictOf (eb Wj Sl) k/\dw j k
theorem dw.length{a k}(h:dw a k):Wq=Zx:=by induction h with|Yk=>rfl|Zp _ i=>simp[i]
theorem dw.at{c d}(h:dw c d)(k:Zw):(Bt k=none/\WK d k=none)\/∃e t,Bt k=Zb6/\WK d k=some (.int e t):=by
  walk_at"n";induction h with
  |Yk=>exact .inl ⟨rfl,rfl⟩|@Zp g e t c d h i=>
    by_cases f:g=k;.subst f;exact .inr (Vs e t ⟨by simp,by simp[WK]⟩)
    . have hb:=Yt (Zh f);refine i.elim (λYA=>?_) λYA=>?_;.obtain⟨a,b⟩:=YA;exact .inl ⟨by simp[Ux,hb,a],by simpa[WK,f]using b⟩
      .obtain⟨j,l,a,b⟩:=YA;exact .inr (Vs j l ⟨by simp[Ux,hb,a],by simpa[WK,f]using b⟩)
theorem dw.snoc{a k}(h:dw a k)(b c:Zw)(t:nj):dw (a++[(b,c)]) (k++[(b,.int c t)]):=by induction h with|Yk=>exact .cons .nil|Zp _ i=>exact .cons i
theorem rp(hs:d0 X)(S:Zah)(hd:E d=Zaq):(d==ov)=false:=by
 refine Yt ?_;intro a;subst a;obtain⟨o,e⟩:=hs;exact ax ((L2 _ _ hd).symm.trans e)
theorem q9(S:Zah)(hd:E d=Zbb):OV ZaL d k:=Heap.dictOf_iff.mpr (UK _ _ hd)
theorem iD.dict(S:Zah)(hd:E d=some (iD X a)):∃k,OV (eb Wj Sl) d k/\dw a k:=by
 walk_at"b";obtain⟨o,b,k,h,i⟩:=UK _ _ hd;exact⟨k,Heap.dictOf_iff.mpr ⟨o,b,h⟩,i⟩
theorem jN{K:Type}[sb K]{knd:KeyKind Wj Sl K}{k:J (K×ZP)}(h:OV knd d k):∀b,N' d=ZaP->∃ob,ZH b=some ob/\ob.dict=none:=h.mapOf.noDict
theorem EV.Cd(d:b {Uc:=Zaf,Xg:=.dict #[]})(h:∀a,E a=none->g Zag (Y8 E a (.own b))):EV X m A (ZG (.Dict [] [] Yl) A) o E g:=λc s S=>wpAny_Dict_empty ⟨c,.ref Zz,_,.refl c,aE ..,S.new (a:=.own b) ⟨_,ZL _ rfl,d⟩,h _ (Uw (ZV _))⟩
theorem FF:Obj.IsDictOf ZaL {Uc:=Zaf,Xg:=.dict #[]} []:=⟨#[],0,⟨rfl,rfl,rfl⟩,rfl,λO h=>by simp at h,.nil,by simp⟩
theorem Ci:∃k,Obj.IsDictOf (eb Wj Sl) {Uc:=Zaf,Xg:=.dict #[]} k/\dw [] k:=⟨[],⟨#[],0,⟨rfl,rfl,rfl⟩,rfl,λO h=>by simp at h,.nil,by simp⟩,.nil⟩
theorem cv.E6(hd:E d=Zbb):cv X A o E "dict" ZaO:=λa s b S r=>by
 rw[Vh];have h:=q9 iw hd;exact⟨h.typeIs,jN h⟩
theorem lH{K:Type}[sb K]{knd:KeyKind Wj Sl K}{a:J (K×ZP)}{k:K}(c:knd.is k y'=true)(hm:OV knd n a)(B:Zx<=ZK)(q:∀r,WK a k=ZaW->s r {G with Wf:=Wv+1})(t:WK a k=none->∀j,j.DictOf knd n (a++[(k,NI)])->Xo n YI j->s NI {G with X_:=j,Wf:=Wv+1}):ZU YH m (dictSetDefault n y' NI) s S G:=by
  obtain⟨o,d,u,b,x,hd,p,hp,hn⟩:=hm;have N:Yy<=ZK:=by have e1:=hp.length;have e2:d.toList.length=Yy:=rfl;exact LL e1 B
  have y:∀k,findBy knd.is d k=WK a k:=λk=>by
    walk_at"r";have:=(show OV knd n a from(Vs o d ⟨u,b,x,hd,p,hp,hn⟩)).mapOf;obtain⟨Q,T,V,z,_,A,_,C⟩:=this;rw[b]at z;cases z;rw[hd]at A;cases A;exact C k
  unfold dictSetDefault;try with_reducible refine ZF ?_
  refine Z7 (knd.pyHash c ?_);refine Z7 (wpAny_dictFind_of c b hd p ?_);cases g:d.findIdx? λe=>knd.is k e.key with
  |none=>
    have f:WK a k=none:=by rw[<-y k,findBy_of_findIdx?,g]
    have D:(d.findIdx? λe=>knd.is k e.key)=a.findIdx? λkv=>decide (kv.1=k):=by rw[<-hp.findIdx k];obtain⟨l⟩:=d;simp
    have E:=not_mem_of_findIdx_none (D▸g);refine Z7 (Vy (Z7 (wpAny_updateDictKeys b hd (Z5 (t f _ (exI3 _ _ (u+1) ⟨YR _ b (Obj.isFreed_of_dict (Obj.data_mapDictKeys hd _)),x.mapDictKeys _,Obj.data_mapDictKeys hd _,p.push c _,?_,?_⟩) (Y' ..))))));.have:=hp.append c (knd.hash k) NI;obtain⟨l⟩:=d;simpa using this
    .rw[ZE,ky];refine⟨hn,by simp,?_⟩;intro PM F PN hb;simp only[Yb,R',Wu]at hb;clear c q t f;rw[hb];exactλe=>E (e▸F)|some i=>
    have f:WK a k=(d[i]?).map (·.val):=by rw[<-y k,findBy_of_findIdx?,g]
    refine Z7 (wpAny_dictEntries b hd ?_);walk_at"f";cases he:d[i]? with
    |none=>
      exfalso;have:=Array.findIdx?_eq_some_iff_findIdx_eq.mp g;have I:=this.1;rw[XB I]at he;exact nomatch he|some e=>
      rw[he]at f;exact Z7 (Vy (Z5 (q e.val f)))
theorem mf{K:Type}[sb K]{knd:KeyKind Wj Sl K}{k:J (K×ZP)}{c:K}(e:knd.is c y'=true)(g:(d==ov)=false)(hm:OV knd d k)(i:Wq<=ZK)(j:∀a,WK k c=Zax->f a {G with Wf:=Wv+1})(l:WK k c=none->∀b,b.DictOf knd d (k++[(c,NI)])->Xo d YI b->f NI {G with X_:=b,Wf:=Wv+1}):ZU YH m (VQ (.builtin "dict.setdefault") [ZaO,y',NI]) f q G:=by
 refine X7 F.slot_dict_setdefault N_ F.entry_dict_setdefault ?_ (F.args_dict_setdefault_3 _ _ _);refine Z7 ?_;refine Z7 (wpAny_notOrdered_dict N_ ?_);show ZU _ _ (Ye (d,y',some NI)) _ _ G;refine Z5 ?_;show ZU _ _ (if(d==ov)=true then _ else(dictSetDefault d y' NI>>=_)) _ _ G;rw[ZY (by rw[g];exact Yn)];exact Z7 (lH e hm i (λa hv=>Z5 ⟨a,rfl,j a hv⟩) λhn b n o=>Z5 ⟨NI,rfl,l hn b n o⟩)
theorem EV.wh(hs:d0 X)(h:EV X m A ZaE o E λj f=>∃d k,j=ZaO/\f d=Zbb/\EV X m A Zco o f λmk l=>∃a,mk=.str a/\EV X m A (ZG Pd A) o l λn G=>∃b,n=.raw b/\G d=Zbb/\Wq<=ZK/\(∀c,WK k a=Zao->g (.raw c) G)/\(WK k a=none->g (.raw b) (Y8 G d (sD X (k++[(a,b)])))))(he:Z3 (eL A Ng ("setdefault") Np [Nn,Pd] Ny Nz) aR)(q:Z3 (Zr [Nn,Pd] A=(false,Zco)::Zr [Pd] A) aR)(x:Z3 (Zr [Pd] A=(false,ZG Pd A)::ZbB) aR):EV X m A (ZG (.Call (.Attribute Ng ("setdefault") Np) [Nn,Pd] [] Ny) A) o E g:=by
 refine k' (Nz:=Nz) ks F.slot_dict_setdefault F.type_dict_setdefault (WT λj f hm=>?_) he q (by intro p;rw[x];rfl);walk_at"g";obtain⟨d,k,rfl,hd,h⟩:=hm;refine⟨cv.E6 hd,Zu (WT λmk l y=>?_) q⟩;walk_at"m";obtain⟨a,rfl,h⟩:=y;refine Zu (WT λn G hx=>Y6 λe s c M S r rs=>?_) x;walk_at"a";obtain⟨b,rfl,i,z,h1,h2⟩:=hx;obtain⟨u,_,YA,B,N,_,YB,C,YC⟩:=rs;rw[YA,YB,YC];rw[Vh];rw[C.raw];obtain⟨t,YA⟩:=B.str;rw[YA];refine mf (To Wj Sl a t) (rp hs iw i) (q9 iw i) z (λc hv=>?_) λhn Q D I=>?_;.exact⟨e,.raw c,G,.refl e,aE ..,G1 _,h1 c hv⟩
 .exact⟨e,.raw b,_,.refl e,aE ..,bk (a:=sD X (k++[(a,b)])) i I (I6 D),h2 hn⟩
theorem EV.HJ(hs:d0 X)(h:EV X m A ZaE o E λe c=>∃d k,e=ZaO/\c d=Zbb/\EV X m A Zco o c λmk f=>∃a,mk=.str a/\EV X m A (ZG Pd A) o f λi G=>∃b,i=.raw b/\G d=Zbb/\g (.raw ((WK k a).getD b)) G)(he:Z3 (eL A Ng ("get") Np [Nn,Pd] Ny Nz) aR)(j:Z3 (Zr [Nn,Pd] A=(false,Zco)::Zr [Pd] A) aR)(l:Z3 (Zr [Pd] A=(false,ZG Pd A)::ZbB) aR):EV X m A (ZG (.Call (.Attribute Ng ("get") Np) [Nn,Pd] [] Ny) A) o E g:=by
 refine k' (Nz:=Nz) ks fi F.type_dict_get (WT λe c hm=>?_) he j (by intro p;rw[l];rfl);walk_at"g";obtain⟨d,k,rfl,hd,h⟩:=hm;refine⟨cv.E6 hd,Zu (WT λmk f x=>?_) j⟩;walk_at"m";obtain⟨a,rfl,h⟩:=x;refine Zu (WT λi G hx=>Y6 λn s C D S r rs=>?_) l;walk_at"a";obtain⟨b,rfl,q,y⟩:=hx;obtain⟨u,_,YA,z,I,_,YB,B,YC⟩:=rs;rw[YA,YB,YC];rw[Vh];rw[B.raw];obtain⟨t,YA⟩:=z.str;rw[YA];have hm:=q9 iw q;exact call_meetsIn fi N_ F.entry_dict_get (F.args_dict_get_3 _ _ _) (meets_dict_get_default (W' Wj Sl) d (To Wj Sl a t) (rp hs iw q) b) ⟨_,hm.mapOf,n,_,G,.refl n,aE ..,G1 _,y⟩
theorem stored_new(h:dw c a)(k:Zw)(d:ZP)(hn:Bt k=none):stored a k d=a++[(k,d)]:=by
 have:(a.any λkv=>decide (kv.1=k))=false:=by induction h with|Yk=>rfl|@Zp e f t c a h i=>
   by_cases b:e=k;.subst b;cases ma hn
   .simp[b,i ((Mh (Zh b)).symm.trans hn)]
 rw[stored,this];rfl
theorem bq.Hx(h:EV X m A (ZG q A) o E λc e=>EV X m A ZcN o e λf G=>∃d j k,c=ZaO/\f=Za0/\G d=some (iD X j)/\j.lookup k=none/\j.length<=ZK/\Pb o (Y8 G d (iD X (j++[(k,n)])))):bq X m A (.Subscript q i Yl) Zbp o E Pb:=λV PM PN p r=>by
 walk_at"a";refine Z7 (ZF (W1 p λPR PS PT c e a s u x=>Z7 (ZF (x.use u λy PW PX f G z B S C=>Z7 (Yo ?_)))));walk_at"a";obtain⟨d,j,k,rfl,rfl,hd,hn,D,F⟩:=C;rw[s.raw];obtain⟨t,YA⟩:=B.int;rw[YA];obtain⟨I,YA⟩:=g5;rw[YA];walk_at"a";obtain⟨PY,hm,b⟩:=iD.dict iw hd;refine Z7 (ZF (wpAny_setItem_pairs (intKind_is Wj Sl k t) hm (λPZ l M=>wpAny_release ?_) (by rw[Zv];exact D)));rw[stored_new b k _ hn]at l;obtain⟨N,Q,T⟩:=I6 l;exact⟨y,o,_,Xb z,bk (a:=iD X (j++[(k,n)])) hd M ⟨N,Q,_,T,b.snoc k n I⟩,F⟩
theorem EF.Lx(h:EV X m A (ZG l A) o E λc e=>EV X m A ZcN o e λf G=>∃d k b,c=ZaO/\f=.str b/\G d=Zbb/\(WK k b).isSome=true/\Wq<=ZK/\D .next o (Y8 G d (sD X (without k b)))):EF X m A (TP (.Delete [.Subscript l i T] Yl) A) o E D:=λN s j=>by
 walk_at"a";refine wpAny_Delete (wpAny_deleteEach_cons (wpAny_delete_Subscript (W1 j λQ V PM c e a r n p=>p.use n λq PN PR f G u x S y=>?_)));walk_at"a";obtain⟨d,k,b,rfl,rfl,hd,z,B,C⟩:=y;rw[Vh];obtain⟨t,YA⟩:=x.str;rw[YA];have hm:=q9 iw hd;refine wpAny_delItem_slot N_ (by rfl) F.slot_dict_delitem ?_;refine call_meetsIn F.slot_dict_delitem N_ F.entry_dict_delitem (F.args_dict_delitem_2 _ _) (meets_dict_delitem_pairs (W' Wj Sl) d (To Wj Sl b t)) ⟨k,hm,B,z,λPS I M=>?_⟩;exact wpAny_deleteEach_nil ⟨q,.next,o,_,Xb u,rfl,bk (a:=sD X (without k b)) hd M (I6 I),C⟩
theorem EV.FQ(h:EV X m A (ZG l A) o E λc e=>EV X m A ZcN o e λf G=>∃d b k x t,c=ZaO/\f=.str k/\G d=some (sD X b)/\WK b k=some (.str x t)/\g (.str x) G)(hs:Z3 (GD i) aR):EV X m A (ZG (.Subscript l i Yl) A) o E g:=λD s j=>Subscript_ (W1 j λI M u c e a r n p=>p.use n λq N Q f G y z S B=>by
  walk_at"a";obtain⟨d,b,k,x,T,rfl,rfl,hd,hv,C⟩:=B;rw[Vh];obtain⟨t,YA⟩:=z.str;rw[YA];have hm:=q9 iw hd;refine tail_any N_ F.slot_dict_getitem.lookup ?_ (Si (Si hs _) _);exact wpAny_getItem_of (To Wj Sl k t) hm.mapOf hv ⟨q,.str x,G,Xb y,bp ..,G1 _,C⟩)
theorem rP:Slot "dict" "__getattribute__" "dict.__getattribute__":=.of (owner:="dict") (n:="__getattribute__") (by rw[W6,X'];kernel_rfl) Z8 Z8 Z8 (by first|exact .inl Z8|exact .inr Z8) (by rw[WS];kernel_rfl)
theorem entry_dict_ga:OL f' "dict.__getattribute__"=some S4:=sa (id':="object.__getattribute__") Z9 rfl Z8 Z9
theorem rB(a b:ZP):S_ "dict.__getattribute__" ⟨[a,b],[]⟩:=by unfold S_;kernel_rfl
theorem uM:Slot "set" "__getattribute__" "set.__getattribute__":=.of (owner:="set") (n:="__getattribute__") (by rw[W6,X'];kernel_rfl) Z8 Z8 Z8 (by first|exact .inl Z8|exact .inr Z8) (by rw[WS];kernel_rfl)
theorem entry_set_ga:OL f' "set.__getattribute__"=some S4:=sa (id':="object.__getattribute__") Z9 rfl Z8 Z9
theorem ve(a b:ZP):S_ "set.__getattribute__" ⟨[a,b],[]⟩:=by unfold S_;kernel_rfl
theorem ml:xa (.builtin "set.__contains__")=ZaM:=by show builtinType _=_;rw[builtinType_eq_fast];kernel_rfl
theorem uc:Slot "method_descriptor" "__get__" "method_descriptor.__get__":=.of (owner:="method_descriptor") (n:="__get__") (by rw[W6,X'];kernel_rfl) Z8 Z8 Z8 (by first|exact .inl Z8|exact .inr Z8) (by rw[WS];kernel_rfl)
theorem qP:OL f' "method_descriptor.__get__"=some Builtin.«method_descriptor.__get__»:=by first|exact A' Z9|exact entryFor_of_fast Z9
theorem uI(a b c:ZP):S_ "method_descriptor.__get__" ⟨[a,b,c],[]⟩:=by unfold S_;kernel_rfl
theorem dataE{d:Data}{f:ClassData->α}{g:α}{a:α->Prop}(h:∀c,d≠.cls c)(k:a g):a (Builtin.ObjectAttr.ownDict.match_1 (λ_=>α) d f λ_=>g):=by induction d using Data.casesOn with|Uc c=>exact Zc rfl (h c)|_=>exact k
theorem jL(s:Slot T "__getattribute__" ga)(e:OL f' ga=some S4)(j:∀a b,S_ ga ⟨[a,b],[]⟩)(k:Slot T name NX)(ty:xa (.builtin NX)=ZaM)(l:(["__module__","__name__","__qualname__","__doc__","__annotations__"]:J Z).contains name=false)(n:Manifest.toldItsClass.contains NX=false)(nm:Z)(o:(kfb_private%"nameAndClass") (.builtin NX)=(Ye (nm,Vz T):p' (Z×ZP)))(p:N0 Za' Za'=Ye true)(g:ZH a=ZaD)(i:d.cls=Za')(q:d.dict=none)(r:∀c,d.data≠.cls c)(h:∀t,u ZaB {G with X_:=Zm {Uc:=Zam,Xg:=.fields #[.builtin NX,Zag]},Wf:=t}):ZU YH m (ec (.ref a) name true) u x G:=by
 have f:∀t,({G with Wf:=t}).TypeIs Zag T:=λt=>⟨d,g,i⟩;refine Z7 (wpAny_mkText ?_);walk_at"f";refine ZF ?_;refine Z7 (wd (f _) ?_);rw[s.lookup];refine Z7 (Z5 ?_);refine Z7 (Z5 ?_);refine Z7 (Vg (ZF ?_));walk_at"h";refine Z7 ?_;walk_at"a";rw[s.bind];refine Z5 ?_;refine X7 s (f _) e ?_ (j _ _);walk_at"a";refine Z7 (VJ (by first|rfl|kernel_rfl) ?_);refine Z7 (VJ (by first|rfl|kernel_rfl) ?_);refine Z7 (wd (f _) ?_);refine Z7 ?_;walk_at"a";unfold Builtin.ObjectAttr.find;rw[k.lookup];refine Z7 (Z5 ?_);unfold Builtin.ObjectAttr.getOf;dsimp only;refine Z7 ?_;walk_at"a";unfold q_;rw[ty];refine Z7 (Z5 ?_);refine Z5 ?_;refine Z7 ?_;walk_at"a";unfold Builtin.ObjectAttr.dataDescriptor?;dsimp only;unfold Builtin.ObjectAttr.takesStores q_;rw[ty];refine Z7 (Z7 (Z7 (Z5 ?_)));refine Z5 ?_;refine Z7 (Z7 (Z5 ?_));refine Z5 (Z5 ?_);refine Z5 ?_;refine Z7 (Z7 (Z7 ?_));refine wpAny_loadPart g ?_;walk_at"a";refine dataE (a:=λw=>ZU YH _ w _ _ _) r ?_;refine Z7 (wpAny_loadPart g ?_);rw[i,q];refine Z5 (Z5 ?_);unfold Builtin.ObjectAttr.copiedAttributeGuard;rw[l];refine Z7 (Z5 ?_);refine Z7 (Vy (Z5 ?_));refine Z7 (ZF ?_);walk_at"a";refine X7 uc ty qP ?_ (uI _ _ _);walk_at"a";refine Z7 (VJ (a:=(Value.builtin NX,some (N' a),some (Vz T))) (by first|rfl|kernel_rfl) ?_);dsimp only;rw[n];refine Z7 ?_;walk_at"a";refine Z7 ?_;walk_at"a";rw[o];refine Z5 ?_;refine Z7 (Up (f _) p ?_);refine Z5 ?_;refine Z7 (Ym (Z5 ⟨_,rfl,Z5 ⟨_,rfl,?_⟩⟩) (by size_fits));exact Z5 (h _)
theorem B7:(kfb_private%"nameAndClass") (.builtin "dict.get")=(Ye (WZ "get",Vz "dict"):p' (Z×ZP)):=by kernel_rfl
theorem o5:(kfb_private%"nameAndClass") (.builtin "set.__contains__")=(Ye (WZ "__contains__",Vz "set"):p' (Z×ZP)):=by kernel_rfl
abbrev cX(id:T_)(a:Y_):OD:={Uc:=Zam,Xg:=.fields #[ZaJ,Zag]}
theorem nK(c:args.any (·.1)=false)(h:ZU M m (evalArgs (.ref u) true args []) (λx s=>WU u=some (cX NX a)/\ZU M m (VQ (.ref u) (first++x.pos) x.kw) d b s) b G):ZU M m (OS Yl (.ref u) first args []) d b G:=by
 refine Z7 (ZF (ZS h (λx s e=>Z7 (Yo ?_)) λO O x=>x));obtain⟨f,g⟩:=e;rw[c];refine Z7 ?_;walk_at"a";refine Z7 (b0 f ?_);refine Z5 ?_;exact Z7 (ZS g (λr i hr=>Z7 (ZF (gn (Z5 hr)))) λO O x=>x)
theorem mW(e:OL f' NX=Za8)(WD:plainId NX=true)(check:∀(Q:Unit->Za->Prop)(E:ZP->Za->Prop),Q () G->ZU YH Ut (I5 NX ⟨.ref a::b,[]⟩) Q E G)(g:MeetsIn Wj Sl (f ⟨.ref a::b,[]⟩) S)(i:ZH u=some (cX NX a))(h:S m (wants c d) G):ZU YH m (VQ (.ref u) b) c d G:=by
 refine Wa (OA ?_);walk_at"a";refine Z7 (b0 i ?_);refine KFB.if_so (by rfl) ?_;refine Z7 (check _ _ ?_);refine Z7 (Z5 (Z5 ?_));refine⟨TS WD _,V2 e ?_⟩;walk_at"c";rw[Around.under_plainId WD];exact g m (wants c d) G h
def d8(X:Cx):Y0:=X.w.params.followText "set-order"
def EG(X:Cx)(t:OK)(n:U):Prop:=t.fits n=true/\t.led=!d8 X/\(n≠0->t.plain=false)
def m5(X:Cx)(i:J Z)(o:OD):Prop:=∃d e t,o.ExactSet/\L3=.set d e t/\ElemsOf ZaL d.toList/\Yy<NO/\EG X t Yy/\i.Nodup/\Yy=Xw/\(∀k,k∈i↔∃a∈d.toList,(W' Wj Sl).is k a.2=true)
abbrev sS(X:Cx)(i:J Z):MO:=.own (m5 X i)
theorem cq(X:Cx)(k:Z)(a:ZP):(W' Wj Sl).is k a=true↔∃t,a=.str k t:=by
 constructor;.intro h;exact Value.isStrOf_shape h
 .intro b;obtain⟨t,rfl⟩:=b;exact To Wj Sl k t
theorem wz(t:OK)(d:Ud (Zw×ZP))(h:Zw)(x:ZP):(layNew t d h x).2.1.led=t.led:=by
  unfold layNew;refine gG (t.freeSlot h) (λe=>?_) λp e=>?_;.rw[e];rfl
  .rw[e];exact bQ (d:=λz:OK=>z.led=t.led) rfl (λO=>rfl) λO=>rfl
theorem rz(t:OK)(d:Ud (Zw×ZP))(h:Zw)(x:ZP)(ht:t.plain=false):(layNew t d h x).2.1.plain=false:=by
  unfold layNew;refine gG (t.freeSlot h) (λe=>?_) λp e=>?_;.rw[e];rfl
  .rw[e];exact bQ (d:=λz:OK=>z.plain=false) rfl (λO=>ht) λO=>rfl
theorem r6(t:OK)(d:Ud (Zw×ZP))(w:U):(r' t d w).2.1.led=t.led/\(t.plain=false->(r' t d w).2.1.plain=false):=by
  unfold r';refine gG (t.relaid (U1 (·.1)) w) (λe=>?_) λp hr=>?_;.rw[e];exact⟨rfl,λO=>rfl⟩
  . have hl:p.1.led=t.led/\p.1.plain=t.plain:=by
      unfold SetTable.relaid SetTable.laid at hr;refine gG (SetTable.layClean (SetTable.sizeAbove w-1) (U1 (·.1))) (λa=>?_) λo a=>?_;.rw[a]at hr;cases hr
      .rw[a]at hr;cases hr;exact⟨rfl,rfl⟩
    rw[hr];dsimp only;refine bQ rfl (λO=>?_) λO=>?_;.exact⟨hl.1,λh=>hl.2.trans h⟩
    .exact⟨rfl,λO=>rfl⟩
abbrev pw(X:Cx):OD:={Uc:=ZaH,c':=none,Xg:=.set #[] 0 (.fresh 0 0 (!d8 X))}
theorem BW(h:a ZaB {G with X_:=Zm (pw X)}):U7 YH m (.call (.builtin "set.__new__") ⟨[ZaH],[]⟩) (wants a b) G:=by
 walk_at"k";refine OA ?_;walk_at"a";show ZU _ Ut (do A_ "set.__new__" ⟨[ZaH],[]⟩;OR (.builtin "set.__new__" ⟨[ZaH],[]⟩)) _ _ G;refine Z7 (VJ F.newCall_set_0 (Z5 ⟨TS F.plain_set_new _,V2 F.entry_set_new ?_⟩));walk_at"c";unfold Builtin.«set.__new__»Builtin.Frozenset.newClass;have c:=sub_set_self;obtain⟨hp,g,d,t,os⟩:=G;dsimp only;wp_walk;refine Uo (Z5 ?_);refine Z7 (wpAny_alloc (Z5 ?_));exact Z5 h
theorem yR(h:b ZaB {G with X_:=Zm (pw X)}):ZU YH m (VQ (.type "set") []) b d G:=by
  obtain⟨c,tl,l⟩:=F.called_set.mro;have n:=F.called_set.made;have o:=F.called_set.sub;have p:=F.typeCall_set_0;refine Wa (OA ?_);show ZU _ _ (callAny (.type "set") _) _ _ _;refine Z5 ⟨oo _ Z8,V2 F.entry_type_call ?_⟩;walk_at"c";repeat(any_goals(first|assumption|wp_step))
  walk_at"k";refine V' (BW (b:=d) (a:=λobj s=>obj=ZaB/\s={G with X_:=Zm (pw X)}) ⟨rfl,rfl⟩) λr s hr=>?_;cases r with|error e=>exact hr|ok f=>cases f with
   |next=>exact hr.elim|brk=>exact hr.elim|cont=>exact hr.elim|e4 obj=>
    rw[hr.1,hr.2];have i:(Zm (pw X)).get? ZZ=some (pw X):=ZL _ rfl;have j:Shared.TypeIs {G with X_:=Zm (pw X)} ZaB "set":=⟨_,i,rfl⟩;have q:=F.called_set.init.lookup;have t:=F.called_set.init.bind ZaB;repeat(any_goals(first|assumption|wp_step))
    refine V' (Wp (R:=wants (λr g=>r=.none/\b ZaB g) d) F.called_set.init.plain F.entry_set_init (check_set_init j ?_)) λk g a=>?_;.unfold Builtin.«set.__init__»noKeywords;wp_walk;exact⟨rfl,h⟩
    .cases k with
      |error e=>exact a|ok f=>cases f with
       |next=>exact Q1|brk=>exact Q1|cont=>exact Q1|e4 r=>
        obtain⟨YA,hq⟩:=a;rw[YA];repeat(any_goals(first|assumption|wp_step))
theorem Ea:m5 X [] (pw X):=⟨#[],0,_,⟨rfl,rfl,rfl⟩,rfl,λe he=>by simp at he,by decide,⟨by rfl,rfl,λh=>Zc rfl h⟩,by simp,rfl,λk=>by simp⟩
theorem xQ(c:rt a=Zaq)(hd:b.data=.set d f i)(e:Ud (Zw×ZP))(t:OK):(NH.update a (Obj.putSet e t)).get? a=some {b with Xg:=.set e (f+1) t}:=by
 have:=YR (Obj.putSet e t) c (by rw[putSet_of e t hd];rfl);rw[putSet_of e t hd]at this;exact this
theorem vB(n:ZH a=some F)(P7:m5 X i F)(PN:Xw+1<NO)(PR:k∉i)(h:∀b f o,Xo a YI f->h_ a=Zai->m5 X (i++[k]) o->S b {G with X_:=f}):ZU YH m (setAddHashed a (.str k l) ((W' Wj Sl).hash k)) S PS G:=by
  obtain⟨d,PT,t,PW,hd,y,hb,⟨PX,PY,Ql⟩,P8,hn,z⟩:=P7;have p:=To Wj Sl k l;have A:(ri k l).scannable=true:=rfl;refine ZF (Z7 (kp n hd PX ?_));dsimp only;rw[byScan_of A hb y];refine Z7 (Z7 (Vy (Z7 (wpAny_setScan_of p n hd PX y ?_))));walk_at"a";have P9:List.findIdx? (λj=>(W' Wj Sl).is k j.2) d.toList=none:=by
    rw[Td];intro j he;cases hp:(W' Wj Sl).is k j.2 with|false=>rfl|true=>exact Zc ((z k).mpr ⟨j,he,hp⟩) PR
  rw[P9];have u:=layNew_perm t d ((W' Wj Sl).hash k) (.str k l);have B:=layNew_fits t d ((W' Wj Sl).hash k) (.str k l);have C:=wz t d ((W' Wj Sl).hash k) (.str k l);have Qa:=rz t d ((W' Wj Sl).hash k) (.str k l);generalize layNew t d ((W' Wj Sl).hash k) (.str k l)=Qb at u B C Qa⊢;induction Qb using Ii with|mk e t1 Qc Qm=>?_;rw[Se]at u;have D:I4=Xw+1:=by rw[<-Yv,u.length_eq,Z1,Yv,hn];rfl
  have Ue:∀c t2 f o E,List.Perm mu e.toList->EG X t2 K1->o.ExactSet->L3=.set c E t2->Xo a YI f->h_ a=Zai->S true {G with X_:=f}:=λc t2 f o E hp Qd Qe Qf Qg hg=>by
    have x:=hp.trans u;refine h true f o Qg hg ⟨c,E,t2,Qe,Qf,(y.push p A).perm x,?_,Qd,?_,?_,λI=>?_⟩;.rw[<-Yv,R_,Yv,D];exact PN
    .rw[ky];exact⟨P8,by simp,by intro Qn hx Qo hy;simp at hy;rw[hy];intro N;subst N;exact PR hx⟩
    .rw[<-Yv,R_,Yv,D,Z1];rfl
    . constructor
      . intro OQ;walk_at"b";rcases ZM OQ with OQ|OQ;.obtain⟨j,he,q⟩:=(z I).mp OQ;exact⟨j,x.mem_iff.mpr (Y3 _ he),q⟩
        .simp at OQ;subst OQ;exact⟨_,x.mem_iff.mpr (Y2 _ (Xv rfl)),p⟩
      . intro N;obtain⟨j,he,q⟩:=N;clear h A;rcases ZM (x.mem_iff.mp he)with he|he;.exact Y3 _ ((z I).mpr ⟨j,he,q⟩)
        .simp at he;subst he;have:=(W' Wj Sl).inj _ I k q p;rw[this];simp
  have Qh:∀b{s:Za}{Q:Unit->Za->Prop}{PZ:ZP->Za->Prop},Q () s->ZU YH m (match b with|true=>rule "set.scan.the-table-gave-way"|false=>Ye ()) Q PZ s:=λb s Q PZ hq=>by cases b<;>first|exact Z5 hq|exact Vy hq
  refine Z7 (Qh _ ?_);have tail:∀(g:Y0->p' Unit),(∀b s Q,Q () s->ZU YH m (g b) Q PS s)->∀t2:OK,t2.fits I4=true->t2.led=!d8 X->t2.plain=false->ZU YH m (do
        storeSet a e t2 if(!Qc&&t2.tooFull)=true then do
            g (r' t2 e (Tn I4)).2.2
            storeSet a (r' t2 e (Tn I4)).1 (r' t2 e (Tn I4)).2.1
            Ye (some true)else Ye (some true)) (λr T=>∃b,r=Zaq/\S b T) PS G:=λg hg t2 Qi P0 P2=>by
    walk_at"a";have P4:I4<NO:=by rw[D];exact PN
    refine Z7 (kn n hd ?_ (kl P4));walk_at"e";have V:=xQ n hd e t2;have P5:=Y' YI a (Obj.putSet e t2);refine bQ rfl (λO=>?_) λO=>?_
    . have hp:=relayAll_perm t2 e (Tn I4);have P6:=relayAll_fits t2 e (Tn I4);have PM:=r6 t2 e (Tn I4);generalize r' t2 e (Tn I4)=R at hp P6 PM⊢;induction R using E1 with|mk c t3 Qp=>?_;have Qj:K1<NO:=by rw[<-Yv,R_,Yv];exact P4
      refine Z7 (hg _ _ _ (Z7 (kn V rfl ?_ (kl Qj))));exact Z5 ⟨true,rfl,Ue c t3 _ {F with Xg:=.set c (PT+1+1) t3} _ hp ⟨P6,PM.1.trans P0,λO=>PM.2 P2⟩ PW rfl (P5.trans (Y' _ a _)) (xQ V rfl c t3)⟩
    .exact Z5 ⟨true,rfl,Ue e t2 _ {F with Xg:=.set e (PT+1) t2} _ (List.Perm.refl _) ⟨Qi,P0,λO=>P2⟩ PW rfl P5 V⟩
  cases Qk:t1.plain with
  |false=>
    refine Z7 (Z5 ?_);refine ZS (tail _ (λb s Q hq=>by cases b<;>first|exact Z5 hq|exact Vy hq) t1 B (C.trans PY) Qk) (λr T hr=>?_) λO O q=>q;obtain⟨b,rfl,hq⟩:=hr;exact Z5 hq|true=>
    refine Z7 ?_;refine Z5 ?_;refine ZS (tail _ (λb s Q hq=>by cases b<;>first|exact Z5 hq|exact Vy hq) {t1 with WD:=false} (SetTable.fits_plain_off B) (C.trans PY) rfl) (λr T hr=>?_) λO O q=>q;obtain⟨b,rfl,hq⟩:=hr;exact Z5 hq
theorem EV.pw(b:Zcc)(d:XX "set"=Zaa)(hn:V0 "set"=none)(hv:Va "set"=some ZaH)(h:∀a,E a=none->g Zag (Y8 E a (sS X []))):EV X m A (ZG (.Call (.Name "set" l) [] [] Yl) A) o E g:=λj n S=>by
 walk_at"a";refine sL ?_ rfl;walk_at"a";refine(p_ (g:=λe G=>e=.raw ZaH/\G=E) b d hn hv ⟨rfl,rfl⟩ (by rfl)).use S λf s p mv q i r c k=>?_;clear S;obtain⟨rfl,rfl⟩:=k;rw[Vh];refine PyProof.Rows.callWith_type0 (yR ⟨f,.ref Zz,_,i,aE ..,c.new (a:=sS X []) ⟨_,ZL _ rfl,Ea⟩,h _ (c.g.fresh (ZV _))⟩)
theorem cv.Lr(hd:E k=Zca):cv X A o E "set" (.ref k):=λj s l S r=>by
 walk_at"g";cases Vh;obtain⟨a,c,d,m,t,f,_⟩:=Wd _ _ hd;exact⟨⟨a,c,f.1⟩,λb e=>by cases e;exact⟨a,c,f.2.1⟩⟩
theorem EV.setAdd(h:EV X m A ZaE o E λc G=>∃a i,c=Zag/\G a=Zca/\EV X m A Zco o G λe b=>∃k,e=.str k/\b a=Zca/\k∉i/\Xw+1<NO/\g .none (Y8 b a (sS X (i++[k]))))(he:Z3 (eL A Ng ("add") Np [Nn] Ny Nz) aR)(f:Za5):EV X m A (ZG (.Call (.Attribute Ng ("add") Np) [Nn] [] Ny) A) o E g:=by
 refine k' (Nz:=Nz) F.plainAttrs_set F.slot_set_add F.type_set_add (WT λc G hm=>?_) he f;obtain⟨a,i,YA,hg,h⟩:=hm;rw[YA];walk_at"l";refine⟨cv.Lr hg,Zu (WT λe b hx=>Y6 λj s Q T S r rs=>?_) f⟩;walk_at"a";obtain⟨k,rfl,l,q,x,y⟩:=hx;obtain⟨V,YA,z⟩:=rs.u;rw[YA];clear rs;rw[Vh];obtain⟨t,YA⟩:=z.str;rw[YA];obtain⟨B,n,p⟩:=Wd _ _ l;have C:s.TypeIs Zag "set":=by obtain⟨d,PM,t,D,_⟩:=p;exact⟨B,n,D.1⟩
 refine X7 F.slot_set_add C F.entry_set_add ?_ (F.args_set_add_2 _ _);walk_at"a";unfold Builtin.«set.add»Builtin.Frozenset.oneOther;simp only[List.isEmpty_nil,bind_assoc];refine Z7 (Z5 ?_);try dsimp only
 refine Z7 (Z5 ?_);try dsimp only
 refine Z7 (ZF (Z7 ((W' Wj Sl).pyHash (To Wj Sl k t) ?_)));refine vB n p x q λPN PR I M hg' N=>?_;show ZU _ _ (e4 U9) _ _ _;exact Z5 ⟨_,rfl,j,.none,_,.refl j,aE ..,bk (a:=sS X (i++[k])) l M ⟨I,hg',N⟩,y⟩
theorem EV.Ft(h:EV X m A Zcs o E λi G=>∃b j,i=ZaP/\G b=some (iD X j)/\∀u,G u=none->g (.ref u) (Y8 G u (.own (.=cX "dict.get" b))))(he:Z3 (ZG (.Attribute U2 "get" Yl) A=(do
   let f<-ZG U2 A
   VV ab let r<-T' [f] (ec f "get" true)
   Sb U2 f r
   Ye r)) aW):EV X m A (ZG (.Attribute U2 "get" Yl) A) o E g:=λz B n=>sg (W1 n λp s C i G a q S k=>by
  walk_at"a";obtain⟨b,j,rfl,hd,w⟩:=k;rw[q.raw];obtain⟨f,x,D,⟨d,I,l,y,_⟩,_⟩:=Wd _ _ hd;refine jL (T:="dict") (NX:="dict.get") rP entry_dict_ga rB fi F.type_dict_get (by rfl) Z8 "get" B7 (by rw[WS];kernel_rfl) x l.1 l.2.1 (λc e=>by rw[y]at e;cases e) λt=>?_;exact⟨p,.ref Zz,_,a,aE ..,(S.new (a:=.own (.=cX "dict.get" b)) ⟨_,ZL _ rfl,rfl⟩).toks t,w _ (Uw (ZV _))⟩) he
theorem EV.Gh(h:EV X m A Zcs o E λj G=>∃b i,j=ZaP/\G b=Zca/\∀u,G u=none->g (.ref u) (Y8 G u (.own (.=cX "set.__contains__" b))))(he:Z3 (ZG (.Attribute U2 "__contains__" Yl) A=(do
   let f<-ZG U2 A
   VV ab let r<-T' [f] (ec f "__contains__" true)
   Sb U2 f r
   Ye r)) aW):EV X m A (ZG (.Attribute U2 "__contains__" Yl) A) o E g:=λz B n=>sg (W1 n λp s C j G a q S k=>by
  walk_at"a";obtain⟨b,i,rfl,hd,w⟩:=k;rw[q.raw];obtain⟨f,x,d,D,I,l,y,_⟩:=Wd _ _ hd;refine jL (T:="set") (NX:="set.__contains__") uM entry_set_ga ve F.slot_set_contains ml (by rfl) Z8 "__contains__" o5 (by rw[WS];kernel_rfl) x l.1 l.2.1 (λc e=>by rw[y]at e;cases e) λt=>?_;exact⟨p,.ref Zz,_,a,aE ..,(S.new (a:=.own (.=cX "set.__contains__" b)) ⟨_,ZL _ rfl,rfl⟩).toks t,w _ (Uw (ZV _))⟩) he
theorem EV.xm(p:Ys f=some (.ref u))(h:EA X m A (i::d) o E λe c=>c u=some (.own (.=cX NX a))/\∀y G b,ak X y A o c G->ao y e b->ZH u=some (cX NX a)->ZU YH m (VQ (.ref u) b) Zad bz G)(hn:Z3 ((f==("__classdict__"))=false) aD)(hd:Z3 ((f==("__debug__"))=false) aD)(t:Z3 (gH A i d) aR)(hp:Z3 (nr A d) aI):EV X m A (ZG (.Call (.Name f T) (i::d) [] Yl) A) o E g:=λy G S=>by
 walk_at"a";refine sL ?_ rfl;refine(Z4 (g:=λw x=>w=.ref u/\x=E) p ⟨rfl,rfl⟩ hn hd).use S λN Q V mv c z r B C=>?_;clear S;obtain⟨rfl,rfl⟩:=C;rw[Vh];have j:=(h Yl).use B (a:=λb s=>WU u=some (cX NX a)/\ZU YH m (VQ (.ref u) b) Zad bz s) λD s b e PM F I l k=>by
  walk_at"g";obtain⟨PN,n,rfl⟩:=l.g.objs _ _ k.1;exact⟨n,ZS (k.2 D s b l I n) (λO O q=>l' (z.trans F)) λO O q=>q⟩
 rw[t]at j⊢;refine nK (NX:=NX) (a:=a) (by show(false||(UJ Yl (Zr d A)).any (·.1))=false;rw[hp Yl];rfl) ?_;exact OM j
theorem pW{id:T_}(d:ZH a=Zaq)(f:b.cls=.type ty)(g:∀c,b.data≠.cls c)(i:Vv id=some s)(j:OJ id=some .method)(k:N0 (.type ty) (.type "module")=Ye false)(l:R9 id=false)(n:r_ id {s with full:=s!"{Bind.lastOf ty}.{Bind.lastOf id}"} ⟨.ref a::XE,[]⟩=Ye ())(h:q () G):ZU YH m (I5 id ⟨.ref a::XE,[]⟩) q r G:=by
 have e:br Zag ty:=⟨b,d,f⟩;unfold I5;rw[i,j];dsimp only;refine Z7 (Up e k ?_);rw[l];refine Z7 (Z7 (wpAny_loadPart d ?_));walk_at"a";refine Z5 ?_;refine dataE (a:=λo=>(_:Y0->Za->Prop) o G) g ?_;refine Z7 (wd e ?_);dsimp only;rw[n];exact Z5 h
theorem l0:N0 Zaf (.type "module")=Ye false:=by rw[WS];kernel_rfl
theorem nF:N0 ZaH (.type "module")=Ye false:=by rw[WS];kernel_rfl
theorem A3:OJ "dict.get"=some .method:=by decide+kernel
theorem zV:OJ "set.__contains__"=some .method:=by decide+kernel
def zF(id:T_):Manifest.Signature:=(Vv id).getD ⟨.hand,"","",.self,[]⟩
theorem DS:Vv "dict.get"=some (zF "dict.get"):=by kernel_rfl
theorem z8:Vv "set.__contains__"=some (zF "set.__contains__"):=by kernel_rfl
theorem yb(d:Y_)(i j:Zw)(t u:nj):r_ "dict.get" {zF "dict.get"with full:=s!"{Bind.lastOf "c'"}.{Bind.lastOf "dict.get"}"} ⟨[ZaO,.int i t,.int j u],[]⟩=Ye ():=by kernel_rfl
theorem wN(d:Y_)(x:Z)(t:nj):r_ "set.__contains__" {zF "set.__contains__"with full:=s!"{Bind.lastOf "set"}.{Bind.lastOf "set.__contains__"}"} ⟨[ZaO,.str x t],[]⟩=Ye ():=by kernel_rfl
theorem l9:MeetsIn Wj Sl (SJ ⟨[Zag,.str x b],[]⟩) (λO R G=>∃o i,ZH a=Zai/\m5 X i o/\R (.ok (.ret (.bool (decide (x∈i))))) {G with Wf:=Wv+1}):=.of_wp λA R G q=>by
  obtain⟨o,i,c,f,h⟩:=q;walk_at"c";obtain⟨d,e,tt,g,hd,j,hb,⟨l,_,_⟩,n,hn,m⟩:=f;unfold SJ Builtin.Frozenset.oneOther;simp only[List.isEmpty_nil,bind_assoc];refine Z7 (Z5 ?_);try dsimp only
  refine Z7 (Z5 ?_);try dsimp only
  refine Z7 (wpAny_tryCatch ?_);walk_at"c";refine ZF ?_;refine Z7 ((W' Wj Sl).pyHash (To Wj Sl x b) ?_);refine Z7 (wpAny_setFind_of (s:={G with Wf:=Wv+1}) (To Wj Sl x b) rfl (⟨o,d,e,tt,c,g,hd,j,λk=>by rw[XU];exact m k,hb,l,rfl⟩:G.heap.SetOf ZaL a (λk=>decide (k∈i)) Yy) λr hr=>?_);refine Z5 ?_;show ZU _ _ (e4 (Value.bool r.isSome)) _ _ _;rw[hr];exact Z5 ⟨_,rfl,h⟩
theorem Bh:R9 "dict.get"=false:=by decide+kernel
theorem yO:R9 "set.__contains__"=false:=by decide+kernel
theorem EV.kj(D:Ys f=some (.ref l))(h:EV X m A ZbS o E λq G=>∃x i,q=.str x/\G l=some (.own (.=ZcK))/\G a=Zca/\g (.bool (decide (x∈i))) G)(hn:Z3 ((f=="__classdict__")=false) aD)(hd:Z3 ((f=="__debug__")=false) aD)(w:Z3 (Zr [d] A=(false,ZbS)::ZbB) aR):EV X m A (ZG (.Call (.Name f PW) [d] [] Yl) A) o E g:=by
 have y':EA X m A [d] o E λI G=>G l=some (.own (.=ZcK))/\∀b s j,ak X b A o G s->ao b I j->WU l=some ZcK->ZU YH m (VQ (.ref l) j) (PV X A b o g) bz s:=by
  walk_at"m";refine Zu (WT λq G hm=>Y6 ?_) w;obtain⟨x,i,YA,N,T,k⟩:=hm;rw[YA];refine⟨N,λb s j S r V=>?_⟩;walk_at"a";obtain⟨PX,YA,PM⟩:=r.u;rw[YA];clear r;obtain⟨t,YA⟩:=PM.str;rw[YA];obtain⟨n,y,p⟩:=Wd _ _ T;have PN:n.cls=ZaH:=by obtain⟨_,_,_,PR,_⟩:=p;exact PR.1
  have PS:∀c,n.data≠.cls c:=λc d=>by obtain⟨_,_,_,_,hd,_⟩:=p;rw[hd]at d;cases d
  have Ue:PV X A b o g (.bool (decide (x∈i))) {s with Wf:=Uu+1}:=⟨b,.bool (decide (x∈i)),G,.refl b,aE ..,G1 _,k⟩;have z:=l9 (X:=X) (a:=a) (x:=x) (b:=t);have PT:(λ(_:XY)(R:TN->Za->Prop)(s:Za)=>∃B i,WU a=some B/\m5 X i B/\R (.ok (.ret (.bool (decide (x∈i))))) {s with Wf:=Uu+1}) m (wants (PV X A b o g) bz) s:=⟨n,i,y,p,Ue⟩;have e:=entry_set_contains;generalize SJ=PY at z e;exact mW e (F.slot_set_contains.plain) (λQ C hq=>pW (id:="set.__contains__") (s:=zF "set.__contains__") (XE:=[.str x t]) y PN PS z8 zV nF yO (wN a x t) hq:∀(Q:Unit->Za->Prop)(C:ZP->Za->Prop),Q () s->ZU YH Ut (I5 "set.__contains__" ⟨.ref a::[.str x t],[]⟩) Q C s) z V PT
 exact EV.xm D y' hn hd w (λO=>rfl:∀Yl:iv,(UJ Yl ZbB).any (·.1)=false)
theorem EV.AQ(hs:d0 X)(I:Ys f=some (.ref u))(h:EV X m A ZcH o E λq r=>∃i,q=ZaN/\EV X m A (ZG l A) o r λx G=>∃z j,x=.int z/\G u=some (.own (.=cX "dict.get" n))/\G n=some (iD X j)/\g (.int ((j.lookup i).getD z)) G)(hn:Z3 ((f==("__classdict__"))=false) aD)(hd:Z3 ((f==("__debug__"))=false) aD)(y:Z3 (Zr [c,l] A=(false,ZcH)::Zr [l] A) aR)(B:Z3 (Zr [l] A=(false,ZG l A)::ZbB) aR):EV X m A (ZG (.Call (.Name f T) [c,l] [] Yl) A) o E g:=by
  refine EV.xm (NX:="dict.get") (a:=n) I (Zu (WT λq r hm=>?_) y) hn hd y (by intro T;rw[B];rfl);walk_at"m";obtain⟨i,rfl,h⟩:=hm;refine Zu (WT λx G N=>Y6 ?_) B;obtain⟨z,j,YA,V,C,k⟩:=N;rw[YA];refine⟨V,λe s P0 S PM PN=>?_⟩;walk_at"a";obtain⟨PR,_,YA,PS,P2,_,YB,PT,YC⟩:=PM;rw[YA,YB,YC];obtain⟨t,YA⟩:=PS.int;rw[YA];obtain⟨p,YA⟩:=PT.int;rw[YA];obtain⟨P4,hm,PW⟩:=iD.dict iw C;obtain⟨P5,d,P6,PX,PY,PZ,_⟩:=id hm;refine mW (NX:="dict.get") (f:=Builtin.«dict.get») F.entry_dict_get F.slot_dict_get.plain (λQ D hq=>pW (ty:="dict") (id:="dict.get") (s:=zF "dict.get") (XE:=[.int i t,.int z p]) PX PY.1 (λP7 c=>by rw[PZ]at c;cases c) DS A3 l0 Bh (yb n i z t p) hq:∀(Q:Unit->Za->Prop)(D:ZP->Za->Prop),Q () s->ZU YH Ut (I5 "dict.get" ⟨.ref n::[.int i t,.int z p],[]⟩) Q D s) (meets_dict_get_default (eb Wj Sl) n (intKind_is Wj Sl i t) (rp hs iw C) (.int z p)) PN ⟨_,hm.mapOf,?_⟩;walk_at"R";refine(PW.at i).elim (λYA=>?_) λYA=>?_;.obtain⟨a,b⟩:=YA;rw[b];rw[a]at k;exact⟨e,_,G,.refl e,a0 ..,G1 _,k⟩
  .obtain⟨PR,P8,a,b⟩:=YA;rw[b];rw[a]at k;exact⟨e,_,G,.refl e,a0 ..,G1 _,k⟩
theorem rR(b:ZH a=some (X8 (.type "list") c n))(e:(k=0/\d=0)\/(k=-1/\d=K1-1))(hj:d<K1)(h:i () {G with X_:=UH a (Yc (·.setIfInBounds d f))}):ZU YH m (setItem (.ref a) (.int k l) f) i s G:=by
  have hl:=aq b;have g:I3 k=true:=VD (λq=>by rw[q.1];decide) λq=>by rw[q.1];decide
  unfold setItem;try with_reducible refine ZF ?_
  refine Z7 (wpAny_sequenceKey hl.typeIs (by rfl) ?_);refine Z7 (XG hl.typeIs slot_list_setitem (X7 slot_list_setitem hl.typeIs entry_list_setitem ?_ (args_list_setitem _ _ _)));walk_at"a";show ZU _ _ (Builtin.List.listSubscript? (.int k l)>>=_) _ _ G;refine Z7 (wpAny_listSubscript_int g ?_);refine VD (λq=>?_) λq=>?_;.rw[q.1];rw[q.2]at hj;rw[q.2]at h;have hx:=XB hj;show ZU _ _ ((seqItemAt a 0>>=λr=>Ye (r.map (0,.)))>>=_) _ _ G;walk_at"a";refine Z7 (Z7 (wpAny_seqItemAt b rfl (Z5 ?_)));rw[hx];show ZU _ _ (setSeqItemAt a 0 f>>=_) _ _ G;refine Z7 (wpAny_setSeqItemAt b rfl ?_);walk_at"f";exact Z5 ⟨.none,rfl,Z5 h⟩
  . rw[q.1];rw[q.2]at hj;rw[q.2]at h;have hx:=XB hj;have j:Vc (-1) K1=some (K1-1):=by
      simp[Vc];exact aV 0x1feee2e0d2130e1ddd4c309870ecc261c39ba0c5c1 [_] hj
    refine Z7 (Z7 (Z7 (VI b rfl (Z5 (Z5 ?_)))));rw[j,Option.bind_some,hx];show ZU _ _ (setSeqItemAt a (K1-1) f>>=_) _ _ G;refine Z7 (wpAny_setSeqItemAt b rfl ?_);walk_at"f";exact Z5 ⟨.none,rfl,Z5 h⟩
theorem bq.xS(h:EV X m A (ZG x A) o E λd e=>EV X m A ZcN o e λf G=>∃a b k j,d=Zag/\f=Za0/\G a=Zbx/\((k=0/\j=0)\/(k=-1/\j=Zv-1))/\j<Zv/\Pb o (Y8 G a (.list (b.set j mv)))):bq X m A (.Subscript x i Yl) mv o E Pb:=λN Q l w r=>by
 walk_at"a";refine Z7 (ZF (W1 w λT V PM d e p y z B=>Z7 (ZF (B.use z λC s PN f G q D S F=>Z7 (Yo ?_)))));walk_at"a";obtain⟨a,b,k,j,rfl,rfl,hg,I,hj,M⟩:=F;rw[y.raw];obtain⟨PR,YA⟩:=D.int;rw[YA];obtain⟨c,n,t,rl⟩:=Wd _ _ hg;have u:=W0;refine Z7 (ZF (rR (d:=j) t (by rw[u];exact I) (by rw[u];exact hj) (wpAny_release ?_)));refine⟨C,o,_,ee q,bk (n:=Uu) (a:=.list (b.set j mv)) hg (Y' ..) ?_,M⟩;refine⟨c.setIfInBounds j l,if(c.setIfInBounds j l).size==K1 then n else n+1,YR (o:=X8 Zae c n) _ t rfl,?_⟩;rw[Array.toList_setIfInBounds];exact rl.set j (Uv (ee q))
theorem EF.Bm(h:EV X m A Zcl o E λmv G=>bq X m A Zcz mv o G λNF w=>D .next NF w)(hs:Z3 (Oc b (some (.Subscript c i d)) LV A=Ye false) aR):EF X m A (TP (.Assign [Zcz] b Yl) A) o E D:=λy z S=>by
 walk_at"a";have e:TP (.Assign [Zcz] b Yl) A=(do
   VV Yl if<-Oc b (some (.Subscript c i d)) LV A then evalThenUse b A (w_ (.Subscript c i d) A)return .next
   let f<-ZG b A
   w_ Zcz A f
   Ye .next):=rfl;rw[e,hs];refine Z7 (Yo (Z7 (Z5 ?_)));refine Z7 (W1 S λg s f mv G a r j k=>Z7 (ZS (k g s f j r) (λO B q=>?_) λO O q=>q));obtain⟨n,l,p,t,u,x⟩:=q;exact Z5 ⟨n,.next,l,p,Xb t,rfl,u,x⟩
theorem BA.enum(hh:XW=none)(D:y la (X8 (.type "list") l n))(rl:ao y f l.toList)(hp:∀a o,y a o->ZH a=Zai)(he:IsEnum YI c it 0 .none)(x:G5 it la 0)(F:c≠it)(I:la≠c)(M:la≠it):BA X m iz (.Tuple elts PM tp) [c,it] y G Zc1 S8 (λk=>.tup [Za0,f.getD k .none]):=λP6 P7 k=>by
  have N:=W0;have e:=WalksT.enumerate (prog:=Wj) (w:=Sl) (A:=m) hh c it la F I M l;have hl:=aq (hp _ _ D);refine e.self 0 G _ _ ⟨⟨_,he⟩,x,hl⟩ ?_;refine k Zc1 G [c,it] (λk S h=>(∃old,IsEnum h c it k old)/\h.IsListIter it la k/\S la (X8 (.type "list") l n)/\ao S f l.toList) ⟨?_,wg,?_,?_,?_,?_⟩ (Mv.refl _ _) ⟨⟨_,he⟩,x,D,rl⟩ (λb hb=>.inr hb);.intro k j P8 h z d;obtain⟨⟨old,h1⟩,⟨o,A,PN⟩,p,r⟩:=d;intro le O O hw;exact⟨⟨old,hw _ (.head _) _ h1⟩,⟨o,hw _ (.tail _ (.head _)) o A,PN⟩,le.q _ _ _ _ p,r.ip le⟩
  . intro k j h d;obtain⟨⟨old,h1⟩,⟨o,A,PR,hd⟩,_⟩:=d;intro b hb;walk_at"b";simp only[XS,YJ,Vw]at hb;clear he x F I M e;rcases hb with rfl|rfl;.exact⟨_,h1,kH (by simp) λO O c=>by cases c⟩
    .exact⟨o,A,kH (by rw[PR];simp) λO O c=>by rw[c]at hd;cases hd⟩
  . intro k j s Q E B d;obtain⟨h1,h2,p,r⟩:=d;intro g hw i;refine e.item k s _ _ (by exact O6 B N) ⟨h1,h2,(aq (g _ _ p))⟩ λT P9 z t hv Qa PS mid hx=>i (.ref T) _ λQb=>?_;walk_at"e";obtain⟨PT,u,V,rfl⟩:=hv;obtain⟨PW,C,PX⟩:=r.get k (a:=f[k]) (Z6 B);have PY:u=PW:=by simp at V C;rw[V]at C;exact ZW C
    subst PY;obtain⟨_,_,_,PZ,P0⟩:=id mid;refine e.go elts PM tp k T {s with X_:=z,Wf:=t} _ _ mid λP2 st rb=>?_;refine⟨⟨P2,t,rfl,λb o hb c=>rb b o hb (hx b o hb c)⟩,⟨st.1,st.2.1,p,r⟩,.inr ⟨T,#[.int k PT,u],[Za0,f.getD k .none],rfl,rfl,?_,?_⟩⟩;.obtain⟨ot,P4,P5⟩:=PS;walk_at"am";exact⟨ot,rb T ot (by simp[PZ,P0]) P4,P5⟩
    .rw[Z0,Z6 B];exact .cons (a0 ..) (.one PX)
  .intro j s Q E d;obtain⟨h1,h2,p,r⟩:=d;intro g hw i;exact e.done s _ _ (by rw[N];exact⟨h1,h2,aq (g _ _ p)⟩) λz t hx=>i _ (Ct hx)
  .intro k j s Q E d;obtain⟨h1,h2,p,r⟩:=d;intro g i;exact e.self k s _ _ ⟨h1,h2,aq (g _ _ p)⟩ i
theorem gr.enum(hh:XW=none)(b:Zcc)(t:XX "enumerate"=Zaa)(hn:V0 "enumerate"=none)(hv:Va "enumerate"=Za_)(h:EV X m A (ZG f A) o E λe w=>∃d,e=.lst d/\N7 YG (λk=>.tup [Za0,tf k .none]) w)(i:Z3 (Zr [f] A=(false,ZG f A)::ZbB) aR)(hp:Z3 (∀Yl,(UJ Yl ZbB).any (·.1)=false) aI):gr X m iz A (.Tuple elts x tp) (ZG (.Call (.Name "enumerate" F) [f] [] Yl) A) o E N7:=λc s S=>by
 refine lB (Pg:=λc=>wo X m iz A (.Tuple elts x tp) c o N7) b (λc G y s k=>wo.le k) t hn hv (.inr ⟨_,rfl⟩) (Zu (WT λe w z=>SA z λd Yw=>Ug Yw λhm k=>Y6 ?_) i) S (by rfl) i hp;rw[hm];intro c s I S r;walk_at"a";obtain⟨y,YA,q⟩:=ao.u r;rw[YA];clear r;obtain⟨a,M,n,YA,p,rl⟩:=q.seq;rw[YA];have j:a<Zz:=XN (Yd _ _ p);refine call_enumerate_list (aq (Yd _ _ p)) λB he C N D=>?_;have l:ak X c A o w {s with X_:=B}:=RH D;have TU:gs X c w A [Zz+1,Zz]:=er S λb hb=>by
  simp only[XS,YJ,Vw]at hb;rcases hb with rfl|rfl<;>(first|exact Fy|exact cY 0x6421 [_])
 exact⟨c,w,_,_,_,.refl c,l,TU,BA.enum hh p rl l.g.aG he C (Nat.succ_ne_self _) (Zb (Nat.lt_succ_of_lt j)) (Zb j),k⟩
structure Ff(X:Cx)(YX:SM)(d it:Y_)(n e k:U)(a:aT)(l:YS)(G:GH)(s:Za):Prop where
 S:ak X a YX l G s
 i:∃ok o,IsItemIter Tv it d k n e ok o
 TU:OffI X a G YX it
theorem GW.k:∀a o E,GW b a o E->Es b D a o E|.next,_,_,h=>h|.cont,_,_,h=>h|.brk,_,_,h=>Xp|.ret _,_,_,h=>Xp
inductive IZ(X:Cx)(a:YS)(d:Y_)(k:J (Z×ZP))(I:OD->U->YS->GH->Prop)(m:MV)(G:GH):Prop where|mk(e:m=ZaO)(g:G d=Zbb)(h:∀ob,∃l,I ob 0 l (Y8 G d (.own (.=ob)))/\Od l a)
variable{N1 Pp:iv}{NR:J (Z×ZP)}
theorem EF.CP(hs:d0 X)(hh:XW=none)(PS:U->YS->YS)(I:OD->U->YS->GH->Prop)(h:EV X m A ZaE o E (IZ X o z NR I))(tg:∀a x N,NR[a]?=some (x,N)->TG X m iz A (.Tuple NP j Pp) (.tup [.str x,.raw N]) (PS a))(UB:∀ob a o E,a<q8->I ob a o E->EF X m A ZcV (PS a o) E (GW (I ob (a+1))))(Q:∀ob a o E,I ob a o E->E z=some (.own (.=ob)))(Ue:∀ob o E,I ob q8 o E->D .next o (Y8 E z (sD X NR)))(he:Z3 (eL A Ng ("items") Np [] Ny Nz) aR)(P0:Z3 (∀x,XJ Zc0 A x=Ye x) aI):EF X m A (TP (.For (.Tuple NP j Pp) Zc0 NZ [] N1) A) o E D:=λq s P2=>by
  walk_at"a";refine q' ?_ P0;walk_at"a";refine OP (pl:=Nz) (W1 P2 λQo B N Qp Qq P4 P5 T P6=>?_) he;walk_at"a";obtain⟨rfl,hd,P7⟩:=P6;rw[P5.raw];have hm:=q9 T.g hd;refine k_ N_ ks F.slot_dict_items F.type_dict_items (jN hm) ?_;refine callWith_method0 ?_;refine call_meetsIn F.slot_dict_items N_ F.entry_dict_items (F.args_dict_items_1 _) (meets_dict_items (W' Wj Sl) z (rp hs T.g hd)) ⟨⟨NR,hm⟩,?_⟩;walk_at"an";have C:=T.push {Uc:=Zcy,Xg:=.fields #[Zay]};obtain⟨ob,d,e,PT,r⟩:=q9 C.g hd;refine wpAny_pyIter_items (d:=z) (kvs:=NR) (ep:=e) ⟨_,ZL _ rfl,rfl,rfl⟩ (Vs ob d ⟨PT,r⟩) ?_;walk_at"w";have P8:=C.push {Uc:=.type "dict_itemiterator",Xg:=.fields #[.none,.bool false,Zay,.int 0 0,.int q8 0,.int e 0,.none,.none]};have P9:=P8.set (a:=.own (.=ob)) (n:=B.toks) hd (R8 z _) ⟨ob,(ZC {Uc:=.type "dict_itemiterator",Xg:=.fields #[.none,.bool false,Zay,.int 0 0,.int q8 0,.int e 0,.none,.none]} PT),rfl⟩;obtain⟨Qr,Qa,Qb⟩:=P7 ob;have y:=C.AJ (ZV (B.heap.push {Uc:=Zcy,Xg:=.fields #[Zay]}).objs.size);have PW:z≠(B.heap.push {Uc:=Zcy,Xg:=.fields #[Zay]}).objs.size:=Zb ((C.g.objs _ _ hd).lt);refine uj (I ob) (n:=q8) (a:=q) (Ff X A z (B.heap.push {Uc:=Zcy,Xg:=.fields #[Zay]}).objs.size q8 e) (λa q o E s PX V h t R Qc f=>?_) (λq o E s V h t R Qc f=>?_) P4 ⟨P9.forget Qb,(Vs .none .none (ZL _ rfl)),(ag (Zh PW)).trans y.g,y.p,y.b,y.l,y.c⟩ Qa;.obtain⟨u,G,rfl⟩:=v' _ _ (Q _ _ _ _ t);obtain⟨ok,Qd,M⟩:=h.i;have hx:NR[a]?=some (NR[a].1,NR[a].2):=Z6 PX;refine wpAny_pyNext_items_item M (Vs u d ⟨G,r⟩) hx λy' PM Qe Qf Qg Qt Qh=>f _ _ λQu=>?_;walk_at"e";obtain⟨Qi,rfl⟩:=(cq X _ y').mp Qe;refine wpAny_letOwnedTupleGo_items (s:={s with X_:=PM}) Qf λQj Qk PY=>?_;walk_at"e";have PN:ak X q A o E {s with X_:=Qj}:=eB (n:=Uu) x4 ez x3 x2 x1 λPZ Ng hb PR=>PY.extBut PZ Ng hb (Qh PZ Ng hb PR);exact ZS (tg a _ _ hx _ o E _ _ (PN.pin Qk x4 x3 x2 x1) (.inr (Vs _ (#[.str NR[a].1 Qi,NR[a].2]) ⟨_,rfl,rfl,⟨_,PY.extBut _ _ (Zh (Zb (XN M))) Qg,rfl,_,rfl⟩,.cons (bp ..) (.one (aE ..))⟩))) (λO Qv Ql=>nS V h.off (kH (by simp) λO O PR=>by cases PR) (PN:=()) ⟨_,_,E,.refl _,Ql,(UB u a o E PX t).mono GW.k⟩ λQw Qx Qy Qz QA O O O q4 q5 Qm=>⟨q4,(Vs _ _ q5),Qm⟩) λO O Qn=>Qn.elim
  .obtain⟨u,G,rfl⟩:=v' _ _ (Q _ _ _ _ t);obtain⟨ok,Qd,M⟩:=h.i;refine wpAny_pyNext_items_end hh M (Vs u d ⟨G,r⟩) (U4 (ZV _)) λPM he=>f _ ?_;have PN:ak X q A o E {s with X_:=PM}:=eB (n:=Uu) x4 ez x3 x2 x1 he;exact⟨q,.next,o,_,V,rfl,PN.set (a:=sD X NR) (n:=Uu) (Q _ _ _ _ t) (R8 z _) ⟨u,he _ _ PW G,d,e,r⟩,Ue u o E t⟩
structure bN(X:Cx)(K:Frag)(C p fn:Y_):Prop where
 HG:K.In X.B
 kT:K.lookup t7=none
 obj:∃o a cd s,K.lookup C=some ⟨o,a,.cls cd,s⟩/\cd.abstract=false/\cd.hasDel=false/\cd.mro=[Zbq,Zac,Zaj]/\cd.bases=[Zac]/\(s[4]?).join=some .none
 VQ:specialIn K Zbq "__call__"=some (some (.builtin "type.__call__"))
 typ:instIn K Zbq Zas=some true
 init:findIn K Zbq "__init__"=some (some (.builtin "object.__init__"))
 reads:readsIn K C Zas=true
 new:findCls K Zbq Zas "__new__"=some (.get (.builtin "staticmethod.__get__") (.ref p) .none (.ref C))
 sm:recIn K p "staticmethod"=some [.ref fn]
 sf:keepIn K Zbq=true
 WC:findIn K Zbq "__iter__"=some (some (.builtin "tuple.__iter__"))
 len:findIn K Zbq "__len__"=some (some (.builtin "tuple.__len__"))
 lt:findIn K Zbq "__lt__"=some (some (.builtin "tuple.__lt__"))
variable{NQ:Frag}
theorem bN.at_(t:Zan)(S:Zah):pj YI:=λa o e=>Tu a o (t.HG a o e) (by intro b;subst b;exact ax (t.kT.symm.trans e))
theorem bN.made(t:Zan)(k:pj h):V6 YH h (r5 (.ref z)) none:=by
 obtain⟨o,f,cd,i,a,e1,e2,e,j,b⟩:=t.obj;have a:=k _ _ a;intro A Q E s c q;have a:=c _ _ a;obtain⟨hh,g,d,l,os⟩:=s;dsimp only at a;have hm:V6 YH hh (mroOf (.ref z)) [Zay,Zac,Zaj]:=e▸((I2 (part:=none) a).andThen .now).andThen .now;have hs:V6 YH hh (slotAt z 4) (some .none):=(I2 a).andThen (by rw[b];exact .now);unfold r5;repeat lk
 exact q
theorem AI(x:ZP)(a:Zc7):S_ "object.__init__" ⟨x::a,[]⟩:=by unfold S_;kernel_rfl
theorem tX(t:Zan)(k:pj YI)(h:U7 YH (m.under (.builtin "type.__call__" ⟨.ref z::a,[]⟩)) (.call ZbX ⟨.ref z::a,[]⟩) (λr C=>∃x o,r=.ok (.ret (.ref x))/\C.heap.get? x=Zai/\o.cls=Zay/\pj C.heap/\R (.ok (.ret (.ref x))) C) {G with Wf:=Wv+1}):U7 YH m (.call Zay ⟨a,[]⟩) R G:=by
 have made:=t.made k;obtain⟨B,D,cd,s,c,e1,e2,e,E,F⟩:=t.obj;have c:=k _ _ c;have VQ:=looks_specialIn (M:=YH) k t.call;have typ:=looks_instIn (M:=YH) k t.typ;obtain⟨hh,g,p,u,os⟩:=G;dsimp only at c k VQ typ made;refine OA ?_;show ZU _ _ (callAny (.ref z) _) _ _ _;refine nd_load c ?_;show ZU _ _ (callAny.viaDunder (.ref z) _) _ _ _;refine Z7 (call.at ?_);refine Z7 (Z5 (Z7 (Z5 ?_)));refine Z5 (a:=Fin.again (.call (.builtin "type.__call__") ⟨.ref z::a,[]⟩)) (And.intro rfl ?_);refine codeAny_call_builtin_at (oo _ Z8) entry_typeCall (oi tc_kind tc_split typ (tc_args _ _ _) ?_);have hm:V6 YH hh (mroOf (.ref z)) [Zay,Zac,Zaj]:=e▸((I2 (part:=none) c).andThen .now).andThen .now;iterate 10 lk
 show ZU _ _ (ec (.ref z) ("__new__")) _ _ _;refine cls_bind k t.reads t.new (Wa (sm_get (s:=⟨hh,g,p,u+1,os⟩) k t.sm (handed_on rfl ?_)));refine Z7 (ZF (Wa (V' h λr C q=>?_)));clear h;obtain⟨x,o,YA,i,w,f,q⟩:=q;rw[YA];have made:=t.made f;obtain⟨b,g',d,j,l⟩:=C;dsimp only at i f made;have t1:V6 YH b (xa (.ref x)) Zay:=(I2 i).andThen (by rw[w];exact .now);have s1:V6 YH b (N0 (.ref z) (.ref z)) true:=f_ f (by unfold mroIn clsIn;rw[‹NQ.lookup z=some _›];simp[e]);have s2:V6 YH b (N0 (.ref z) (.type "object")) true:=f_ f (by unfold mroIn clsIn;rw[‹NQ.lookup z=some _›];simp[e]);have i1:=kk (M:=YH) f t.init;have t2:V6 YH b (isInstance (.ref x) (.type "object")) true:=t1.andThen s2;have b1:V6 YH b (bindSpecial (.builtin "object.__init__") (.ref x)) (.builtin "object.__init__",[ZaI]):=S3 (oi_bind _);have y:∀A,U7 YH A (.call (.builtin "object.__init__") ⟨.ref x::a,[]⟩) (λr G=>r=.ok (.ret .none)/\G=⟨b,g',d,j,l⟩) ⟨b,g',d,j,l⟩:=λA=>by
  refine Wp oi_plain entry_oi (@oi YH _ _ _ "object.__init__" "object" "__init__" ZaI a [] _ oi_kind oi_split t2 (AI _ _) ?_);cases a with
  |Yk=>
   repeat lk
   exact⟨rfl,rfl⟩|Zp I a=>
   repeat lk
   exact⟨rfl,rfl⟩
 repeat(first|with_reducible refine Wa ?_|lk)
 refine V' (y _) λr N n=>?_;rw[n.1,n.2];exact Z5 (Z5 q)
theorem Bv:Builtin.Slots.bestBase [Zac]=Ye Zac:=by kernel_rfl
theorem uJ:r5 Zac=Ye ZcT:=F.called_tuple.made
theorem bN.base(t:Zan)(k:pj h):V6 YH h (Bind.staticBase (.ref z)) Zac:=by
 have made:=t.made k;obtain⟨o,f,cd,i,a,e1,e2,e,c,j⟩:=t.obj;have a:=k _ _ a;intro A Q E s b q;have a:=b _ _ a;have made:=made.keeps b;obtain⟨hh,g,d,l,os⟩:=s;dsimp only at a made;have hm:V6 YH hh (mroOf (.ref z)) [Zay,Zac,Zaj]:=e▸((I2 (part:=none) a).andThen .now).andThen .now;have hb:V6 YH hh (classData z) cd:=(I2 (part:=none) a).andThen .now;have m:V6 YH hh (Builtin.Slots.bestBase cd.bases) Zac:=by rw[c];exact S3 Bv
 have n:V6 YH hh (r5 (.type "tuple")) ZcT:=S3 uJ;unfold Bind.staticBase;repeat lk
 exact q
theorem CO:OJ "tuple.__new__"=some .builtinFn:=by decide+kernel
theorem Bg:splitId "tuple.__new__"=some ("tuple","__new__"):=by decide+kernel
theorem CN:plainId "tuple.__new__"=true:=by decide+kernel
theorem FK:Vv "tuple.__new__"=some ((Vv "tuple.__new__").getD ⟨.hand,"","",.self,[]⟩):=by kernel_rfl
theorem DW(C it:Y_):r_ "tuple.__new__" ((Vv "tuple.__new__").getD ⟨.hand,"","",.self,[]⟩) ⟨[Zbq,ZbW],[]⟩=Ye ():=by kernel_rfl
theorem yF(t:Zan)(k:pj YI)(j:ZH it=Zao)(u:c.cls=Zac)(hd:c.data=.seq i n)(l:b_<=ZK)(h:∀a:D',(∀b c,ZH b=Zao->a.get? b=Zao)->R (.ok (.ret (.ref (a.objs.size+1)))) {G with X_:=(a.push {Uc:=Zaf,Xg:=.dict #[]}).push {Uc:=Zay,c':=some a.objs.size,Xg:=.seq i}}):U7 YH m (.call Zcw ⟨[Zay,ZbW],[]⟩) R G:=by
 have made:=t.made k;have oI:=t.base k;obtain⟨o,w,cd,s,p,e1,e2,e,x,y⟩:=t.obj;have f:=k _ _ p;have s1:V6 YH YI (N0 (.ref z) (.type "tuple")) true:=f_ k (by unfold mroIn clsIn;rw[p];simp[e]);have i1:=kk (M:=YH) k t.init;have q:V6 YH YI (r5 (.type "tuple")) ZcT:=S3 uJ;have tt:V6 YH YI (isType (.ref z)) true:=(I2 f).andThen .now;have here:V6 YH YI (Bind.madeHere "tuple.__new__" (.ref z)) ():=base.andThen (q.andThen (S3 (by simp only[Option.map_some,ki,T8,B_])));obtain⟨hh,g,d,A,os⟩:=G;dsimp only at f k oI made s1 i1 q tt here j;refine Wp CN F.entry_tuple_new ?_;unfold A_;rw[CO,Bg,FK];walk_at"a";dsimp only;rw[DW];repeat(first|with_reducible refine wpAny_collect_seq (hsz:=l) it (.inr rfl) j u hd ?_|simp only[ki,T8,B_]|lk)
 intro a r;walk_at"h";refine Z7 (Z5 (Z7 (wpAny_alloc ?_)));walk_at"h";show ZU _ _ ((if i.toList.toArray.size>ZK then _ else _)>>=_) _ _ _;rw[ZY (by simpa using l)];refine Z7 (Z7 (wpAny_alloc (Z7 (Z7 (b0 (ZC {Uc:=Zay,c':=some a.objs.size,Xg:=.seq i.toList.toArray} (ZC {Uc:=Zaf,Xg:=.dict #[]} (r _ _ f))) (Z5 ?_))))));walk_at"f";rw[e2];refine Z5 (Z5 ?_);have:=h a r;rwa[<-Kb]at this
abbrev Yx:VW:=PySem.Challenge.pw_mt0003_01
def cy(k:U):V4:=(prog.main.body[k]?).getD (.Pass default)
abbrev JS:Wy:=.Constant .none 0 default
abbrev GY:Arguments:=⟨[],[],none,[],[],none,[]⟩
abbrev GU:gq:={kind:=.function,WE:=[],isGenerator:=false,isCoroutine:=false,SN:=[]}
set_option backward.match.sparseCases false in def GZ:V4->Z×Arguments×J V4×J V4×Wy×gq|.FunctionDef n a b _ _ _ s _ _ _=>(n,a,b,[],JS,s)|.ClassDef _ _ _ b _ _ _ _ _ _ _=>("",GY,b,[],JS,GU)|.For _ _ b _ _=>("",GY,b,[],JS,GU)|.While t b _ _=>("",GY,b,[],t,GU)|.If t b o _=>("",GY,b,o,t,GU)|.Expr e _=>("",GY,[],[],e,GU)|_=>("",GY,[],[],JS,GU)
def bI(st:V4):J V4:=(GZ st).2.2.1
def AS(st:V4):Arguments:=(GZ st).2.1
def bu(st:V4):gq:=(GZ st).2.2.2.2.2
def v_(st:V4):Z:=(GZ st).1
def Fi(st:V4):Wy:=(GZ st).2.2.2.2.1
def Ja(i:U)(st:V4):J V4:=Sz (motive:=λO=>J V4) i (bI st) λO=>(GZ st).2.2.2.1
def t6(st:V4)(pm cd Ww d k:ZP):C':={Calls.docDef (v_ st) (AS st) (bI st) (bu st) pm cd Ww with defaults:=d,kwdefaults:=k}
structure hT(X:Cx)(fa:Y_)(st:V4)(pm cd Ww d k:ZP):Prop where
 get:Yz fa=some {Uc:=Zap,Xg:=.func (t6 st pm cd Ww d k)}
 nt:fa≠t7
 rX:G' cd (v_ st)
 nc:cd≠.ref t7
theorem ay(a b:T_):(WZ a=WZ b)=(a=b):=by
 refine propext ⟨λh=>?_,λh=>h▸rfl⟩;rw[Str.ofString_eq_toList,Str.ofString_eq_toList]at h;injection h with h;have h:=Array.toList_inj.mpr h;simp only[List.toList_toArray]at h;have inj:∀(x y:J Char),gy Char.toNat=y.map Char.toNat->x=y:=by
  intro x;induction x with|Yk=>intro y h;cases y<;>simp at h;rfl|Zp c x i=>
   intro y h;cases y with|Yk=>simp at h|Zp d y=>
    simp only[Yb,ff]at h;rw[i y h.2,Char.toNat_inj.mp h.1]
 exact String.toList_inj.mp (inj _ _ h)
theorem eU(h:b a=Zbf):l8 b Zag=Zao:=Zq listIn h
theorem kf(h:l8 b c=Zax)(d:-(2^62)<=k/\k<2^62)(hr:(Vc k Zx).bind (a[.]?)=ZaW):bR b c Za0=ZaW:=by
 show((l8 b c).bind λa=>if-(2^62)<=k/\k<2^62 then(Vc k Zx).bind (a[.]?)else none)=some r;rw[h];exact(ZT d).trans hr
theorem jU(h:j<n):Vc (j:Zw) n=Zb':=by exact ZT (Bool.and_eq_true_iff.mpr ⟨Yr (SP j),Yr (Vf h)⟩)
theorem ti(h:l8 c d=Zax)(hr:a[j]?=ZaW)(e:Zx<=ZK):bR c d Zb5=ZaW:=by
 have b:=(ZN hr).1;exact kf h (cF 0x3ffee9f30e661c3f2f16841 [16777216,4611686018427387904,4611686018427387904] [_,_] [] b e) (by rw[jU b];exact hr)
theorem vf(h:l8 b c=some (a++[x])):bR b c (.int (-1))=Zak:=by
 refine kf h Z' ?_;have:Vc (-1) (a++[x]).length=some Zx:=by
  simp[Vc];exact cY 0x1dd869083a61c3bba83a61841d30e1d9841d30e1cd [_]
 rw[this];exact ea ..
theorem pP(h:l8 c d=Zaq)(a:b[Zv-1]?=Za8):bR c d (.int (-1))=Za8:=by
  walk_at"j";refine(List.eq_nil_or_concat b).elim (λYA=>?_) λYA=>?_;.subst YA;cases a
  .obtain⟨x,y,rfl⟩:=YA;rw[List.concat_eq_append]at h a;rw[Z1,show ZO+[y].length-1=ZO from rfl,ea]at a;exact ZW a▸vf h
theorem iK:l8 b (.lst a)=Zax:=ZT (c:=(Vz "list"=Zae\/Vz "list"=Zac)) (e:=none) (.inl rfl)
theorem dK(h:ZO+Zx<=ZK):uw b .Add (.str x) (.str a)=some (.str (x++a)):=by
 show Option.or (if ZO+Zx<=ZK then some (MV.str (x++a))else none) _=_;rw[ZT h];rfl
theorem gA(h:cf a b=Zak)(d:cf a c=some ys)(z:ZO+TX<=ZK):uw a .Add b c=some (.lst (x++ys)):=by
 have e:((cf a b).bind λx=>(cf a c).bind λys=>if ZO+TX<=ZK then some (MV.lst (x++ys))else none)=some (.lst (x++ys)):=by rw[h,d];exact ZT z
 walk_at"i";induction b using x6 with
 |int=>exact ax h|str=>exact ax h|_=>exact e
theorem xX(m:ZaV):El m []=some m.isEmpty:=by cases m with|Yk=>rfl|Zp=>rfl
theorem D2(G:GH)(a b:Z):yj G (.str a) (.str b)=some (a==b):=rfl
theorem bO(G:GH)(m:ZaV):yj G (.lst m) (.lst [])=some m.isEmpty:=xX m
theorem XZ(b:V3 a)(hb:ZcX)(rm:Rm a i n)(hg:∀f,sv f=true->Yg f=Zaa)(h:pe gl l c d=ZaQ)(k:g mv c):EV a i YX (ZG d YX) l c g:=(Ab b hb rm hg d).v mv h g k
theorem S2(d:V3 i)(hb:RX d)(rm:Rm i r n)(hg:∀f,sv f=true->Yg f=Zaa)(h:pb gl l q a=Zao)(k:Nj c q):EB i r YX (XC a YX (ZG a YX)) l q Nj:=(Ab d hb rm hg a).b c h Nj k
inductive L6(f:ZP)(K:MV->GH->Prop)(m:ZaV)(G:GH):Prop where|mk(r:MV)(h:kL G f m=ZaW)(k:K r G)
theorem pd(b:V3 c)(hb:ZcX)(rm:Rm c q n)(h:EA c q YX (u::d) l F (L6 i g))(j:Z3 (Yg f=Zaa) aR)(hs:Z3 (wu f=ZbI) aK)(he:Z3 (gH YX u d) aR)(hp:Z3 (nr YX d) aI):EV c q YX (ZG (.Call (.Name f M) (u::d) [] Yl) YX) l F g:=b3 b j (hb f i hs).1 (hb f i hs).2 (oe hs).2 (λYl e s S=>ZS (h Yl e s S) (λo z p=>by obtain⟨t,m,G,a,r,w,A,y,k⟩:=p;exact⟨t,m,G,a,r,w,λe s o S rl=>jO rm y S rl k⟩) λO O x=>x) (oe hs).1 he hp
theorem FC(h:mj a b=Zdb)(c:n<=ZK):kL a Zaz [b]=some Zbp:=by
 have e:kL a Zaz [b]=(mj a b).bind λn=>if n<=ZK then some (UD n)else none:=by kernel_rfl!
 rw[e,h];exact ZT c
theorem r4(b:V3 a)(hb:ZcX)(rm:Rm a d n)(hx:VU x=Za8)(h:mj c f=some k)(e:k<=ZK)(i:g Za0 c)(hg:Z3 (Yg "len"=Zaa) aR)(hn:Z3 ((x==("__classdict__"))=false) aD)(hd:Z3 ((x=="__debug__")=false) aD):EV a d YX (ZG (.Call (.Name "len" q) [.Name x r] [] Yl) YX) l c g:=pd b hb rm (Zu (Z4 hx (Y6 ⟨_,FC h e,i⟩) hn hd) rfl) hg Z8 rfl (λO=>rfl)
theorem Ex(h:p9<1920):kL a Zb8 [ZaN]=some (.str (WZ (b5 i))):=by
 have e:kL a Zb8 [ZaN]=if p9<1920 then some (.str (WZ (b5 i)))else none:=by kernel_rfl!
 rw[e];exact ZT h
theorem J2(h:0<=i/\i<=1114111):kL a (.builtin "chr") [ZaN]=some (.str ⟨#[i.toNat]⟩):=by
 have e:kL a (.builtin "chr") [ZaN]=if 0<=i/\i<=1114111 then some (.str ⟨#[i.toNat]⟩)else none:=by kernel_rfl!
 rw[e];exact ZT h
theorem sel[Oe d](h:c=true↔d):(if c=true then some (UD a)else some (.int b))=some (.int (if d then a else b)):=by
 by_cases q:d;.rw[ZT q,ZT (h.mpr q)]
 .rw[ZY q,ZY λe=>q (h.mp e)]
theorem JT{α β:Type}{f:α->β}{l:J α}(h:(!(A2 f).isEmpty)=true):l≠[]:=λe=>by rw[e]at h;exact Vd h
theorem wb{α β:Type}{f:α->β}{l:J α}(h:(!(A2 f).isEmpty)=false):l=[]:=match l,h with|[],O=>rfl
theorem Jo{α β:Type}{f:α->β}{l:J α}(h:(A2 f).isEmpty=false):l≠[]:=λe=>by rw[e]at h;exact Vd h
theorem AG{α β:Type}{f:α->β}{l:J α}(h:(A2 f).isEmpty=true):l=[]:=match l,h with|[],O=>rfl
theorem EB.vh(rm:Rm b d n)(hx:VU x=Za8)(h:yj a f (.lst [])=Zao)(e:Nj c a)(hn:Z3 ((x==("__classdict__"))=false) aD)(hd:Z3 ((x=="__debug__")=false) aD):EB b d YX (XC (.Compare (.Name x i) [.Eq] [.List [] k] Yl) YX Us) l a Nj:=XA rm (Z4 hx (UA (Y6 ⟨by decide,c,h,e⟩)) hn hd) (by with_unfolding_all rfl)
theorem EB.JE(rm:Rm b d n)(hx:VU x=Za8)(h:yj a f (.lst [])=Zao)(e:Nj (!c) a)(hn:Z3 ((x==("__classdict__"))=false) aD)(hd:Z3 ((x=="__debug__")=false) aD):EB b d YX (XC (.Compare (.Name x i) [.NotEq] [.List [] k] Yl) YX Us) l a Nj:=XA rm (Z4 hx (UA (Y6 ⟨by decide,!c,Zq (U8 (!.)) h,e⟩)) hn hd) (by with_unfolding_all rfl)
def gK(i:Zw):Z:=WZ (b5 i)
def aN(a b:Zw):Z:=if b<2 then gK (a+b)else gK (a+1)++","++gK (a+b)
def S1(i:Zw):Prop:=kc<2^40
theorem Small.log(h:S1 i):p9<1920:=by
 by_cases a:kc=0;.rw[a];decide
 .rw[Nat.log2_lt a];exact Xr h (Nat.pow_le_pow_right Z' Z')
theorem i7(h:S1 i):(gK i).length<=20:=by
 unfold gK;rw[PySem.ofString_length];have:=PySem.int_text_length_le10 (k:=13) Z' (w' h Z');exact a9 0x1fcbc39839e1 [13,20] [_] [] this
theorem FnAt.call(F:hT a fa Nw pm cd Ww d k)(b:V3 a)(rm:Rm a i n)(WE:J Z)(j:∀c:Zc7,YZ=S8->S7 (t6 Nw pm cd Ww d k) ⟨c,[]⟩=Ye (WQ c))(hn:Sx)(l:x_=S8)(m:∀e,∀x∈WE,(bu Nw).names.lookup x=some .local\/((bu Nw).names.lookup x=Zbm/\((C_ (e+1) (bu Nw).names []).lookup x).isSome=true))(h:∀e,let YX:=W7 (t6 Nw pm cd Ww d k) e fa;EF a (i.deeper YX) YX (Yj (bI Nw) YX) (WQ f) q (qI g))(o:Z3 ((bu Nw).isCoroutine=false) aR)(p:Z3 ((bu Nw).isGenerator=false) aR)(r:Z3 ((bu Nw).kind=.function) aR):b9 a i ZaA f q g:=b9.body b WE F.get F.nt rfl F.rX F.nc rfl rfl rfl rfl j hn l m w2 h o p r
theorem Gq(h:∀p∈l,z' p.1=some p.2):Od l a:=λx b e=>h (x,b) (Vi e)
theorem av(h:A2 (λp=>z' p.1)=A2 λp=>some p.2):Od l a:=Gq λp hp=>List.map_inj_left.mp h p hp
theorem EF.sub(hl:Od l a)(h:EF b c YX d l f D):EF b c YX d a f D:=h.eE hl λO O e=>e
theorem nk(F:hT X fa (cy 12) pm cd Ww .none .none)(b:Zcc)(hb:ZcX)(rm:Rm X m (n+1))(e:S1 (a+1))(d:S1 (a+c))(k:g (.str (aN a c)) E):b9 X m ZaA [ZbQ,ZcS] E g:=by
  walk_at"t";refine hS b rm ["start","size"] (ym λO O=>rfl) Z' rfl ZbM λf=>?_
  . intro YX;have r:=WJ YX;have h1:=i7 e;refine ZJ (Q0 (EV.EJ (XA r (Z4 rfl (X2 ⟨decide (c<2),rfl,λh=>?_,λh=>?_⟩)))));.refine pd b hb r (Zu (YU (Z4 rfl (Z4 rfl ⟨_,rfl,Y6 ⟨_,Ex d.log,?_⟩⟩))));unfold aN at k;rw[ZT (Zj h)]at k;exact k
    . refine YU (YU (pd b hb r (Zu (YU (Z4 rfl (X2 ⟨_,rfl,Y6 ⟨_,Ex e.log,Wc ⟨_,dK ?_,pd b hb r (Zu (YU (Z4 rfl (Z4 rfl ⟨_,rfl,Y6 ⟨_,Ex d.log,_,dK ?_,?_⟩⟩))))⟩⟩⟩))))));.show _+1<=_;rw[sizeLine_eq];exact a9 0x1fcbe0e0e5e1 [20,16777216] [_] [] h1
      .rw[UO];show _+1+_<=_;rw[sizeLine_eq];exact cF 0x7ff97c0507072f165e1 [20,20,16777216] [_,_] [] h1 (i7 d)
      .unfold aN at k;rw[ZY (VO h)]at k;exact k
def aO(r:Z×Z):MV:=.tup [.str r.1,.str r.2]
def aS(rs:J (Z×Z)):MV:=.lst (hR aO)
def bS(f:Zw)(l:J (Z×Z)):J Zw:=VH (λr k f=>(if r.1=(" ")then f+1 else 0)::k (if r.1=(" ")then f+1 else 0)) (λO=>[]) f
theorem x5(f r rs):bS f (r::rs)=(if r.1=" "then f+1 else 0)::bS (if r.1=" "then f+1 else 0) rs:=rfl
def dX(f:Zw)(l:J (Z×Z)):Zw:=VH (λr k f=>k (if r.1=(" ")then f+1 else 0)) id f
theorem tT(f r rs):dX f (r::rs)=dX (if r.1=" "then f+1 else 0) rs:=rfl
theorem bx:∀(f:Zw)(rs:J (Z×Z)),(bS f rs).length=Zd:=by
 intro a I;revert a;induction I with
 |Yk=>
  intro _;exact rfl|Zp r rs b=>
  intro f;exact Zq Nat.succ (b _)
theorem hJ:∀(f:Zw)(rs r:J (Z×Z)),bS f (rs++r)=bS f rs++bS (dX f rs) r:=by
 intro a I;revert a;induction I with
 |Yk=>
  intro _ _;exact rfl|Zp c rs b=>
  intro f r;exact Zq (_::.) (b _ r)
theorem jD:∀(f:Zw)(rs r:J (Z×Z)),dX f (rs++r)=dX (dX f rs) r:=by
 intro a I;revert a;induction I with
 |Yk=>
  intro _ _;exact rfl|Zp c rs b=>
  intro f r;exact b _ r
theorem sV(F:hT X fa (cy 11) pm cd Ww .none .none)(b:Zcc)(hb:ZcX)(rm:Rm X m (n+1))(p:Zd<=ZK)(q:g (.lst ((bS (k+1) rs).map .int)) E):b9 X m ZaA [aS rs,Za0] E g:=by
  walk_at"t";refine hS b rm ["rows","n"] (ym λO O=>rfl) Z' rfl ZbM λu=>?_;intro YX;have hg:∀f,[].contains f=true->Yg f=Zaa:=e7 rfl;have c:=WJ YX;refine ZJ (Zk (VZ (Y6 ⟨by decide,λa s=>?_⟩)) (.inl rfl));refine ZJ (Zk (XZ b hb c hg (mv:=.int (k+1)) ?_ ?_) (.inl rfl));.kernel_rfl!
  let I:U->YS->GH->Prop:=λj l G=>∃f,f=dX (k+1) (TH j)/\G=Y8 E a (.list ((bS (k+1) (TH j)).map .int))/\l=([("rows",aS rs),("n",Za0),("told",Zag),("far",.int f)]:YS);refine ZJ (ra c.handled I ?_);refine Z4 rfl ⟨_,_,rfl,⟨k+1,rfl,rfl,rfl⟩,?_,λj t l G hm d=>?_,λl G d=>?_⟩;.exact av Z_
  . obtain⟨f,i,YA,YB⟩:=d;rw[YA,YB];walk_at"A";obtain⟨r,hr,rfl⟩:∃r,rs[j]?=ZaW/\t=aO r:=by
      walk_at"b";rw[Zy]at hm;obtain⟨r,hr,e⟩:=Y4 hm;exact⟨r,hr,hQ⟩
    have o:TH (j+1)=TH j++[r]:=by rw[X9,hr];rfl
    refine CL c.handled (.inl rfl) (.inl rfl) ?_;refine ZJ (Zk (XZ b hb c hg (mv:=.int (if r.1=" "then f+1 else 0)) ?_ ?_) (.inl rfl));.exact R7 Z_ (sel V7)
    refine ZJ (VK (W4 ?_));refine XZ b hb c hg ?_ ⟨a,_,rfl,aa ..,XZ b hb c hg (mv:=.int (if r.1=" "then f+1 else 0)) ?_ ⟨_,aa ..,?_,rfl,YV ?_⟩⟩;.kernel_rfl!
    .kernel_rfl!
    .rw[Z2,bx,Zo];exact JQ p
    . refine⟨_,⟨if r.1=" "then f+1 else 0,?_,?_,rfl⟩,?_⟩;.rw[o,jD,<-i];rfl
      .rw[aQ,o,hJ,ZE,<-i];rfl
      .exact av Z_
  .obtain⟨f,i,YA,YB⟩:=d;rw[YA,YB];rw[Z2,XT];refine ZJ (Q0 (EV.EI rfl (aa ..) ?_));rw[my _ _ _ s];exact q
def yM(x:Z):Prop:=∀c∈Tf,c≠10
def nl:Z:="\n"
theorem yM.snoc(h:yM x)(a:c≠10):yM (x++(⟨#[c]⟩:Z)):=by
 intro d hd;rw[Xu,Y1,TZ]at hd;refine hd.elim (λhd=>?_) λhd=>?_;.exact h d hd
 .simp at hd;rw[hd];exact a
theorem y7(F:hT X fa (cy 10) pm cd Ww .none .none)(b:Zcc)(hb:ZcX)(rm:Rm X m (n+1))(u:0<=a)(h1:a<1112063^3)(w:∀x:Z,yM x->ZO<=3->g (.str (x++nl)) E):b9 X m ZaA [ZbQ] E g:=by
  refine hS b rm ["z"] (EK λO=>rfl) Z' rfl ZbM λC=>?_;intro YX;have hg:∀f,[("divmod"),"chr"].contains f=true->Yg f=Zaa:=e7 Z_;have r:=WJ YX;refine ZJ (Zk (Wc ?_) (.inl rfl));refine ZJ (EF.ro (λk l G=>∃a x,k=a.toNat/\0<=a/\ZO<=3/\a<1112063^(3-ZO)/\yM x/\G=E/\l=([("z",ZbQ),("signs",.str x)]:YS)) a.toNat (q:=[("z",ZbQ),("signs",.str "")]) (Vs a ("") ⟨rfl,u,by decide,h1,?_,rfl,rfl⟩) ?_ ?_);.intro c y;cases y
  .exact av Z_
  . intro k l G A;obtain⟨a,x,rfl,D,hx,d,hn,rfl,rfl⟩:=A;refine S2 b hb r hg (c:=decide (0<a)) ?_ ⟨λht=>?_,λI=>?_⟩;.kernel_rfl!
    . have e:0<a:=by exact Zj ht
      walk_at"p";have i:ZO<3:=by
        refine(UN ZO 3).elim (λh=>?_) λh=>?_;.exact h
        . have:3-ZO=0:=by exact aV 0x1fdb6220e441 [_,_] h
          rw[this]at d;simp at d;exact cF 0x7ffa1074e5694d [] [_,_] [_] e d
      have B:(1112063:Zw)^(3-ZO)=1112063^(3-(ZO+1))*1112063:=by
        have:3-ZO=(3-(ZO+1))+1:=by exact aV 0x7f707460e08a2116841 [_,_] i
        rw[this,Int.pow_succ]
      refine ZJ (sq (XZ b hb r hg (mv:=.tup [.int ((a-1).fdiv 1112063),.int ((a-1).fmod 1112063)]) ?_ (CL X4 (.inl rfl) (.inl rfl) ?_)));.kernel_rfl!
      have e2:(a-1).fmod 1112063=(a-1)%1112063:=Int.fmod_eq_emod_of_nonneg _ Z';rw[(I1 _ Z'),e2];have o:0<=(a-1)%1112063:=Int.emod_nonneg _ Z';have p:(a-1)%1112063<1112063:=Int.emod_lt_of_pos _ Z';have GQ:0<=(a-1)/1112063:=Int.ediv_nonneg (a9 0x1fcc5ca6e94d [] [] [_] e) Z';have qS:(a-1)/1112063<a:=by exact KY e
      have hd2:(a-1)/1112063<1112063^(3-(ZO+1)):=by
        refine Int.ediv_lt_of_lt_mul Z' ?_;rw[<-B];exact a9 0x1fd2e2e5696a [] [] [_,_] d
      generalize(a-1)/1112063=z at GQ qS hd2;generalize(a-1)%1112063=s at o p;refine ZJ (Zk (XZ b hb r hg (mv:=.int (if s<10 then s else s+1)) ?_ ?_) (.inl rfl));.exact R7 Z_ (sel SI)
      have j:0<=(if s<10 then s else s+1):=by split<;>(first|exact a9 0x7f2a6e54d [] [] [_] o|exact a9 0x3f98394de69ea [10] [] [_] ‹_›)
      have q:(if s<10 then s else s+1)<=1112063:=by split<;>(first|exact a9 0x7f2f569ea [10,1112063] [] [_] ‹_›|exact a9 0x1fcae0e5696a [] [] [_,_] p)
      have t:(if s<10 then s else s+1)≠10:=by split<;>(first|exact a9 0xff36b5696a [] [] [_,_] ‹_›|exact a9 0x7f9b5c1cae696a [] [] [_,_] ‹_›)
      generalize(if s<10 then s else s+1)=yN at j q t;refine ZJ (EF.aug rfl (pd b hb r (Zu (XZ b hb r hg (mv:=.int (if yN<55296 then yN else yN+2048)) ?_ (Y6 ⟨_,J2 ?_,.str (x++⟨#[(if yN<55296 then yN else yN+2048).toNat]⟩),?_,YV ?_⟩)))) (.inl rfl));.exact R7 Z_ (sel SI)
      . by_cases h:yN<55296;.rw[ZT h];exact⟨j,Int.le_trans (Int.le_of_lt h) Z'⟩
        .rw[ZY h];exact⟨Int.add_nonneg j Z',Int.le_trans (Int.add_le_add_right q _) Z'⟩
      .show(if ZO+1<=ZK then _ else _)=_;rw[ZT (by rw[af];exact a9 0x1fcbe0e0e9e1 [3,16777216] [_] [] i)]
      . refine⟨G7,_,by exact cF 0x1ffea8ba2b4b5654d [] [] [_,_] GQ qS,⟨z,x++⟨#[(if yN<55296 then yN else yN+2048).toNat]⟩,rfl,GQ,?_,?_,hn.snoc ?_,rfl,rfl⟩,?_⟩;.rw[UO];show ZO+1<=3;exact GV i
        .rw[UO];exact hd2
        .split<;>(first|exact a9 0x3fcdbe8ae6dea [10,10] [] [_] t|exact a9 0xff36fa41eae69ea [55296,2048,10] [] [_] ‹_›)
        .exact av Z_
    .refine ZJ (Q0 (YU (Z4 rfl (Wc ⟨_,dK ?_,w x hn hx⟩))));show ZO+1<=ZK;rw[af];exact a9 0x1fcbe0e0e5e1 [3,16777216] [_] [] hx
structure Pt where
 d:J Z
 a:J Z
 k:J Z
def Pt.put(p:Pt)(sign og:Z):Pt:=if sign=("-")then{p with d:=p.d++[og]}else if sign=("+")then{p with a:=p.a++[og]}else{p with k:=p.k++[og]}
def aP(st:J Pt×Pt)(sign:Z):J Pt×Pt:=if sign≠(" ")/\st.2.k≠[]then(st.1++[st.2],⟨[],[],[]⟩)else st
def bc(st:J Pt×Pt)(r:Z×Z):J Pt×Pt:=((aP st r.1).1,(aP st r.1).2.put r.1 r.2)
def aC(rs:J (Z×Z)):J Pt×Pt:=rs.foldl bc ([],⟨[],[],[]⟩)
def bC(rs:J (Z×Z)):J Pt:=(aC rs).1++[(aC rs).2]
def Pt.side(p:Pt)(Yi:Y0):J Z:=if Yi then p.a else p.d
def Pt.mark(p:Pt)(WD:Z):Z:=if p.d≠[]/\p.a≠[]then("! ")else WD
def Pt.aL(p:Pt)(Yi:Y0)(WD:Z):J Z:=(Un Yi).map (p.mark WD++.)++p.k.map (("  ")++.)
def half(rs:J (Z×Z))(Yi:Y0)(WD:Z):J Z:=if(bC rs).any (λp=>!(Un Yi).isEmpty)then(bC rs).flatMap (·.aL Yi WD)else[]
abbrev Ad:=Y_×Y_×Y_
def fY(c:Ad):MV:=.tup [.ref c.1,.ref c.2.1,.ref c.2.2]
def ah(x:J Z):ZaV:=gy .str
def zY(G:GH)(c:Ad)(p:Pt):Prop:=G c.1=some (.list (ah p.d))/\G c.2.1=some (.list (ah p.a))/\G c.2.2=some (.list (ah p.k))
def fO(c:Ad):J Y_:=[c.1,c.2.1,c.2.2]
structure HP(G b:GH)(p:Y_)(a:J Ad)(ps:J Pt)(c:Ad)(e:Pt):Prop where
 ext:∀d o,G d=Zai->b d=some o
 gp:b p=some (.list (ON fY++[fY c]))
 len:Zx=hP
 gd:∀(i:U)(ad:Ad)(q:Pt),a[i]?=some ad->ps[i]?=some q->zY b ad q
 gc:zY b c e
 np:G p=none
 nc:∀x∈fO c,G x=none/\x≠p
 nd:∀ad∈a,∀x∈fO ad,G x=none/\x≠p/\x∉fO c
 dc:c.1≠c.2.1/\c.1≠c.2.2/\c.2.1≠c.2.2
theorem cB(h:c b=ZaD)(e:c a=none):Y8 c a i b=ZaD:=by rw[ag (by intro f;subst f;exact ax (e.symm.trans h))];exact h
theorem HP.app(h:HP f b k a ps c r)(hx:x∈fO c)(hp:zY (Y8 b x (.list l)) c n):HP f (Y8 b x (.list l)) k a ps c n:=by
  have d:=h.nc x hx;refine⟨λg o e=>?_,?_,sz,λi ad q h1 h2=>?_,hp,h.np,h.nc,h.nd,h.dc⟩;.rw[ag (by intro j;subst j;exact ax ((d.1).symm.trans e))];exact h.ext g o e
  .rw[ag (Zh d.2)];exact h.gp
  .obtain⟨e1,e2,m⟩:=h.gd i ad q h1 h2;have ne:∀y∈fO ad,y≠x:=λy hy e=>((h.nd ad (YN h1)) y hy).2.2 (e▸hx);exact⟨by rw[ag (ne _ (by simp[fO]))];exact e1,by rw[ag (ne _ (by simp[fO]))];exact e2,by rw[ag (ne _ (by simp[fO]))];exact m⟩
theorem HP.more(h:HP s l r a ps c F)(hx:l x=none)(hy:Y8 l x Zar d=none)(m:Y8 (Y8 l x (.list [])) d Zar f=none):HP s (Y8 (Y8 Zbz f Zar) r (.list (ON fY++[fY c]++[fY (x,d,f)]))) r (a++[c]) (ps++[F]) (x,d,f) ⟨[],[],[]⟩:=by
  have ns:∀{s:GH}{u b:Y_}{j:MO},s b=Zb'->s u=none->u≠b:=λh1 h2 e=>by rw[e,h1]at h2;cases h2
  have y:d≠x:=by intro p;subst p;rw[aa]at hy;cases hy
  rw[ag y]at hy;have z:f≠d:=by intro p;subst p;rw[aa]at m;cases m
  rw[ag z]at m;have B:f≠x:=by intro p;subst p;rw[aa]at m;cases m
  rw[ag B]at m;have sf:∀b j,l b=Zb'->b≠r->Y8 (Y8 Zbz f Zar) r (.list (ON fY++[fY c]++[fY (x,d,f)])) b=Zb':=λb j e hb=>by rw[ag hb,ag (Zh (ns e m)),ag (Zh (ns e hy)),ag (Zh (ns e hx))];exact e
  have n:x≠r/\d≠r/\f≠r:=⟨ns h.gp hx,ns h.gp hy,ns h.gp m⟩;have g:∀b,l b=none->s b=none:=λb hb=>by cases e:s b with
    |none=>rfl|some o=>rw[h.ext b o e]at hb;cases hb
  obtain⟨c1,c2,E⟩:=h.gc;have G:∀b∈fO c,∃j,l b=Zb':=cn ⟨_,c1⟩ (cn ⟨_,c2⟩ (cn ⟨_,E⟩ jK));have A:∀b j,l b=Zb'->b∉fO (x,d,f):=λb j e hb=>cn (Q:=λw=>b≠w) (λq=>by rw[q,hx]at e;cases e) (cn (λq=>by rw[q,hy]at e;cases e) (cn (λq=>by rw[q,m]at e;cases e) jK)) b hb rfl;refine⟨λu o e=>sf u o (h.ext u o e) (by intro p;subst p;exact fv e h.np rfl),?_,by simp[sz],λi ad q h1 h2=>?_,⟨?_,?_,?_⟩,h.np,λb hb=>?_,λad had b hb=>?_,Zh y,Zh B,Zh z⟩;.rw[aa];simp
  . have k:∀ad q,(∀b∈fO ad,b≠r)->zY l ad q->zY (Y8 (Y8 Zbz f Zar) r (.list (ON fY++[fY c]++[fY (x,d,f)]))) ad q:=λad q hn I=>and3 I λe1 e2 C=>⟨sf _ _ e1 (hn _ (by simp[fO])),sf _ _ e2 (hn _ (by simp[fO])),sf _ _ C (hn _ (by simp[fO]))⟩;walk_at"S";by_cases t:i<Zx;.rw[UZ t]at h1;rw[UZ (O5 t (sz))]at h2;exact k ad q (λb hb=>(h.nd ad (YN h1) b hb).2.1) (h.gd i ad q h1 h2)
    . have D:=(ZN h1).1;rw[Z1,YY]at D;have:i=Zx:=by exact bw 0x3ffd883cd083a83841 [_,_] D t
      walk_at"S";subst this;simp at h1;subst h1;rw[sz]at h2;simp at h2;subst h2;exact k c F (λb hb=>(h.nc b hb).2) h.gc
  .show Y8 _ _ _ x=_;rw[ag n.1,ag (Zh B),ag (Zh y),aa];rfl
  .show Y8 _ _ _ d=_;rw[ag n.2.1,ag (Zh z),aa];rfl
  .show Y8 _ _ _ f=_;rw[ag n.2.2,aa];rfl
  .exact cn (Q:=λw=>s w=none/\w≠r) ⟨g _ hx,n.1⟩ (cn ⟨g _ hy,n.2.1⟩ (cn ⟨g _ m,n.2.2⟩ jK)) b hb
  . rcases ZM had with had|had;.obtain⟨h1,h2,M⟩:=h.nd ad had b hb;refine⟨h1,h2,?_⟩;clear h1 h2 M;obtain⟨i,t,rfl⟩:=So had;obtain⟨e1,e2,C⟩:=h.gd i a[i] (ps[i]'(sz▸t)) (Z6 t) (by simp[sz▸t]);exact cn (Q:=λw=>w∉fO (x,d,f)) (A _ _ e1) (cn (A _ _ e2) (cn (A _ _ C) jK)) b hb
    .simp at had;subst had;walk_at"g";obtain⟨j,e⟩:=G b hb;exact⟨(h.nc b hb).1,(h.nc b hb).2,A _ _ e⟩
theorem item_last(h:a b=some (.list (c++[x]))):bR a ZaP (.int (-1))=Zak:=vf (eU h)
theorem HP.start(hx:d x=none)(hy:Y8 d x Zar f=none)(g:Y8 (Y8 d x (.list [])) f Zar k=none)(hp:Y8 (Y8 (Y8 d x (.list [])) f (.list [])) k Zar l=none):HP d (Y8 (Y8 (Y8 (Y8 d x (.list [])) f (.list [])) k Zar) l (.list [fY (x,f,k)])) l [] [] (x,f,k) ⟨[],[],[]⟩:=by
  have ns:∀{d:GH}{a b:Y_}{r:MO},d b=ZaW->d a=none->a≠b:=λh1 h2 e=>by rw[e,h1]at h2;cases h2
  have y:f≠x:=by intro c;subst c;rw[aa]at hy;cases hy
  rw[ag y]at hy;have z:k≠f:=by intro c;subst c;rw[aa]at g;cases g
  rw[ag z]at g;have j:k≠x:=by intro c;subst c;rw[aa]at g;cases g
  rw[ag j]at g;have p:l≠k:=by intro c;subst c;rw[aa]at hp;cases hp
  rw[ag p]at hp;have m:l≠f:=by intro c;subst c;rw[aa]at hp;cases hp
  rw[ag m]at hp;have n:l≠x:=by intro c;subst c;rw[aa]at hp;cases hp
  rw[ag n]at hp;refine⟨λa o e=>?_,aa ..,rfl,λi ad q h1 h2=>by simp at h1,⟨?_,?_,?_⟩,hp,λb hb=>?_,λad had=>by simp at had,Zh y,Zh j,Zh z⟩;.rw[ag (Zh (ns e hp)),ag (Zh (ns e g)),ag (Zh (ns e hy)),ag (Zh (ns e hx))];exact e
  .show Y8 _ _ _ x=_;rw[ag (Zh n),ag (Zh j),ag (Zh y),aa];rfl
  .show Y8 _ _ _ f=_;rw[ag (Zh m),ag (Zh z),aa];rfl
  .show Y8 _ _ _ k=_;rw[ag (Zh p),aa];rfl
  .exact cn (Q:=λw=>d w=none/\w≠l) ⟨hx,Zh n⟩ (cn ⟨hy,Zh m⟩ (cn ⟨g,Zh p⟩ jK)) b hb
theorem lO(h:b a=Zbf):yj b Zag (.lst [])=some c.isEmpty:=by
 show(Option.bind (listIn (b a)) λx=>El x [])=_;rw[h];exact xX c
theorem Bd(G:GH)(c:Ad):bR G (fY c) (.int 0)=some (.ref c.1):=rfl
theorem AF(G:GH)(c:Ad):bR G (fY c) (.int 1)=some (.ref c.2.1):=rfl
theorem uN(G:GH)(c:Ad):bR G (fY c) (.int 2)=some (.ref c.2.2):=rfl
theorem eG(rs:J (Z×Z))(r:Z×Z):aC (rs++[r])=bc (aC rs) r:=by unfold aC;rw[WW];rfl
theorem tP(st:J Pt×Pt)(x:Z):(aP st x).1.length<=st.1.length+1:=by unfold aP;split<;>simp
theorem kR(rs:J (Z×Z)):(aC rs).1.length<=Zd:=by
 suffices h:∀n rs,Zd=n->(aC rs).1.length<=n from h _ rs rfl;intro n;induction n with|V1=>intro rs h;rw[Xl h];exact ZV _|VF n i=>
  intro rs h;obtain⟨a,r,rfl⟩:∃a r,rs=a++[r]:=(Vs rs.dropLast (rs.getLast (by intro e;rw[e]at h;simp at h)) ((Oz _).symm));rw[eG];have:=i a (by simpa using h);exact YW (tP _ _) (H9 this)
theorem oX(rs:J (Z×Z)):(aC rs).2.d.length+(aC rs).2.a.length+(aC rs).2.k.length<=Zd:=by
 suffices h:∀n rs,Zd=n->(aC rs).2.d.length+(aC rs).2.a.length+(aC rs).2.k.length<=n from h _ rs rfl;intro n;induction n with
 |V1=>intro rs h;rw[Xl h];exact ZV _|VF n i=>
  intro rs h;obtain⟨b,r,rfl⟩:∃b r,rs=b++[r]:=(Vs rs.dropLast (rs.getLast (by intro e;rw[e]at h;simp at h)) ((Oz _).symm));rw[eG];have:=i b (by simpa using h);have h2:(aP (aC b) r.1).2.d.length+(aP (aC b) r.1).2.a.length+(aP (aC b) r.1).2.k.length<=n:=by
   unfold aP;refine bQ rfl (λO=>?_) λO=>?_;.simp
   .exact this
  show((aP (aC b) r.1).2.put r.1 r.2).d.length+((aP (aC b) r.1).2.put r.1 r.2).a.length+((aP (aC b) r.1).2.put r.1 r.2).k.length<=_;generalize(aP (aC b) r.1).2=p at h2⊢;unfold Pt.put;refine bQ rfl (λO=>?_) λO=>?_;.simp only[Z1,YY];exact aV 0x7f307120380a0e0e4901c041 [_,_,_,_] h2
  .split<;>simp only[Z1,YY]<;>(first|exact aV 0x7f3071203841c20e4901c041 [_,_,_,_] h2|exact aV 0x7f3070e10708391c041 [_,_,_] h2)
theorem gT(x:J Z)(a:Z):ah (x++[a])=ah x++[.str a]:=by simp[ah]
theorem az(x:J Z):(ah x).length=ZO:=by simp[ah]
theorem qg(p:Pt)(x:Z):p.put "-" x=⟨p.d++[x],p.a,p.k⟩:=by simp[Pt.put]
theorem tz(p:Pt)(x:Z):p.put "+" x=⟨p.d,p.a++[x],p.k⟩:=by unfold Pt.put;rw[ZY (by rw[ay];decide),ZT rfl]
theorem pR(p:Pt)(x:Z):p.put " " x=⟨p.d,p.a,p.k++[x]⟩:=by unfold Pt.put;rw[ZY (by rw[ay];decide),ZY (by rw[ay];decide)]
def eV(p:Pt):MV:=.tup [.lst (ah p.d),.lst (ah p.a),.lst (ah p.k)]
theorem vp:∀(as:J Ad)(ps:J Pt),as.length=hP->(∀q∈as.zip ps,a5 b (fY q.1) (eV q.2))->jZ b (h4 fY) (hO eV):=by
 intro as;induction as with
 |Yk=>intro ps h hq;cases ps with|Yk=>exact .nil|Zp=>cases h
 |Zp a as i=>intro ps h hq;cases ps with|Yk=>cases h|Zp p ps=>exact .cons (hq (a,p) Y5) (i ps (x' h) λq c=>hq q (ZX _ c))
theorem HP.all(h:HP f k l a ps c d):(a++[c]).length=(ps++[d]).length/\∀q∈(a++[c]).zip (ps++[d]),zY k q.1 q.2/\∀x∈fO q.1,f x=none:=by
  refine⟨by simp[sz],λq hq=>?_⟩;rw[List.zip_append sz]at hq;rcases ZM hq with hq|hq
  . obtain⟨i,b,YA⟩:=So hq;rw[<-YA];simp only[List.length_zip]at b;have h1:i<Zx:=by exact KD b
    have h2:i<hP:=by exact aV 0x1fd0c3ab0c41 [_,_,_] b
    simp only[List.getElem_zip];exact⟨h.gd i _ _ (Z6 h1) (Z6 h2),λx hx=>(h.nd _ (Uq h1) x hx).1⟩
  .simp at hq;rw[hq];exact⟨h.gc,λx hx=>(h.nc x hx).1⟩
def CM(Yi:Y0):Zw:=if Yi then 1 else 0
def Mn(rs:J (Z×Z))(Yi:Y0)(WD:Z)(p:Y_):YS:=[("hunk",aS rs),("side",Za3),("plain",.str WD),("parts",.ref p)]
def L9(rs:J (Z×Z))(Yi:Y0)(WD:Z)(p:Y_)(r:Z×Z):YS:=aJ "line" (.str r.2) (aJ "sign" (.str r.1) (Mn rs Yi WD p))
def M'(p:Y_)(as:J Ad)(ps:J Pt):J (Y_×J MV):=(p,h4 fY)::(as.zip ps).flatMap λq=>[(q.1.1,ah q.2.d),(q.1.2.1,ah q.2.a),(q.1.2.2,ah q.2.k)]
theorem zM(F:hT X fa (cy 13) pm cd Ww .none .none)(b:Zcc)(hb:ZcX)(rm:Rm X m (Qh+1))(hs:∀r∈rs,r.1=("-")\/r.1=("+")\/r.1=(" "))(I:Zd<=100000)(PY:∀s,EF X (Sg (W7 (t6 (cy 13) pm cd Ww .none .none) s fa)) (W7 (t6 (cy 13) pm cd Ww .none .none) s fa) (Yj ((bI (cy 13)).drop 2) (W7 (t6 (cy 13) pm cd Ww .none .none) s fa)) [("hunk",aS rs),("side",Za3),("plain",.str N),("parts",.lst ((bC rs).map eV))] E (qI g)):b9 X m ZaA [aS rs,Za3,.str N] E g:=by
  walk_at"t";refine hS b rm ["hunk","side","plain"] (Hq λO O O=>rfl) Z' rfl (λs x hx=>?_) λs=>?_
  . simp only[XS,YJ,Vw]at hx;rcases hx with rfl|rfl|rfl;.exact .inl rfl
    .exact .inr ⟨rfl,rfl⟩
    .exact .inl rfl
  intro YX;have hg:∀f,([]:J Z).contains f=true->Yg f=Zaa:=e7 rfl;have t:=WJ YX;refine ZJ (Zk ?_ (.inl rfl));refine VZ ?_;refine Zu ?_;refine TO ?_;refine Zu (VZ (Y6 ⟨by decide,λx hx=>?_⟩));refine Zu (VZ (Y6 ⟨by decide,λPZ hy=>?_⟩));refine Zu (VZ (Y6 ⟨by decide,λP0 bj=>?_⟩));refine Y6 ⟨by simp[af],Y6 ⟨by simp[af],λp P2=>?_⟩⟩;refine ZJ (ra t.handled (λj l G=>∃i n,HP E G p i (aC (TH j)).1 n (aC (TH j)).2/\l=Mn rs Yi N p) ?_);refine Z4 rfl ⟨_,_,rfl,(Vs ([]) ((x,PZ,P0)) ⟨HP.start hx hy bj P2,rfl⟩),?_,λj P4 l G hm B=>?_,λl G B=>?_⟩;.exact av Z_
  . obtain⟨i,n,hp,rfl⟩:=B;obtain⟨r,hr,rfl⟩:∃r,rs[j]?=ZaW/\P4=aO r:=by
      rw[Zy]at hm;obtain⟨r,hr,e⟩:=Y4 hm;exact⟨r,hr,hQ⟩
    have P5:aC (TH (j+1))=bc (aC (TH j)) r:=by
      unfold aC;rw[X9,hr,U_,WW];rfl
    rw[P5];have Qi:j<Zd:=(ZN hr).1;have M:(aC (TH j)).1.length<=100000:=YW (kR _) (by rw[Zo];(exact JQ I));have Q:(aC (TH j)).2.d.length+(aC (TH j)).2.a.length+(aC (TH j)).2.k.length<=100000:=YW (oX _) (by rw[Zo];(exact JQ I));generalize aC (TH j)=st at hp M Q;refine CL t.handled (.inl rfl) (.inl rfl) ?_;have P6:r.1="-"\/r.1="+"\/r.1=" ":=hs r (YN hr);refine ZJ ?_;generalize P7:iR _ _ _ _ _=S;have T:∀C u c,HP E C p u (aP st r.1).1 c (aP st r.1).2->S .next (L9 rs Yi N p r) C:=by
      intro C u c o;subst P7;have y:(aP st r.1).2.d.length+(aP st r.1).2.a.length+(aP st r.1).2.k.length<=100000:=by
        unfold aP;refine bQ rfl (λO=>?_) λO=>?_;.simp
        .exact Q
      show EF X _ _ _ _ _ _;unfold bc;generalize aP st r.1=Qj at o y;obtain⟨z,A,g3⟩:=o.gc;obtain⟨d1,d2,V⟩:=o.dc;refine ZJ (VK (W4 ?_));refine Yq (Yq (Z4 rfl (XZ b hb t hg Z_ ⟨_,item_last o.gp,EV.Cw (Wc ⟨_,rfl,Z4 rfl ?_⟩)⟩)));rcases P6 with hh|hh|hh<;>rw[hh]
      . refine⟨_,0,[],rfl,by decide+kernel,.ref c.1,Bd ..,c.1,_,rfl,z,Z4 rfl ⟨_,z,?_,rfl,YV ⟨_,(Vs u c ⟨o.app (by simp[fO]) ?_,rfl⟩),?_⟩⟩⟩;.rw[az,af];(exact a9 0x7f2f0e5f01c041 [100000,16777216] [_,_,_] [] y)
        .rw[qg];exact⟨by rw[aa,gT],by rw[ag (Zh d1)];exact A,by rw[ag (Zh d2)];exact g3⟩
        .exact av Z_
      . refine⟨_,1,[],rfl,by decide+kernel,.ref c.2.1,AF ..,c.2.1,_,rfl,A,Z4 rfl ⟨_,A,?_,rfl,YV ⟨_,(Vs u c ⟨o.app (by simp[fO]) ?_,rfl⟩),?_⟩⟩⟩;.rw[az,af];(exact a9 0x7f2f165f01c041 [100000,16777216] [_,_,_] [] y)
        .rw[tz];exact⟨by rw[ag d1];exact z,by rw[aa,gT],by rw[ag (Zh V)];exact g3⟩
        .exact av Z_
      . refine⟨_,2,[],rfl,by decide+kernel,.ref c.2.2,uN ..,c.2.2,_,rfl,g3,Z4 rfl ⟨_,g3,?_,rfl,YV ⟨_,(Vs u c ⟨o.app (by simp[fO]) ?_,rfl⟩),?_⟩⟩⟩;.rw[az,af];(exact Lv y)
        .rw[pR];exact⟨by rw[ag d2];exact z,by rw[ag V];exact A,by rw[aa,gT]⟩
        .exact av Z_
    have F:¬(r.1≠" "/\st.2.k≠[])->S .next (L9 rs Yi N p r) G:=λh=>T G i n (by rw[show aP st r.1=st from ZY h];exact hp);refine XD (VT (XA t (Z4 rfl (Wc ⟨!(r.1==" "),rfl,⟨λh1=>VT (XA t (Yq (Yq (Z4 rfl (XZ b hb t hg Z_ ⟨_,item_last hp.gp,X2 ⟨_,uN ..,UA (Y6 ⟨by decide,!(ah st.2.k).isEmpty,Zq (U8 (!.)) (lO hp.gc.2.2),⟨λh2=>t' ⟨λO=>?_,λh=>nomatch h⟩,λh2=>⟨λh=>(nomatch h),λO=>YV (F λq=>q.2 (wb h2))⟩⟩⟩)⟩⟩))))),λh1=>⟨λh=>(nomatch h),λO=>YV (F λq=>Vd (pn (b6 q.1)))⟩⟩⟩))))
    . refine ZJ (VK (W4 (Z4 rfl ⟨p,_,rfl,hp.gp,?_⟩)));refine TO ?_;refine Zu (VZ (Y6 ⟨by decide,λPM rb=>?_⟩));refine Zu (VZ (Y6 ⟨by decide,λPN PR=>?_⟩));refine Zu (VZ (Y6 ⟨by decide,λPS PT=>?_⟩));have hm:=hp.more rb PR PT;have P8:=hp.len;have e:Y8 (Y8 (Y8 G PM (.list [])) PN (.list [])) PS Zar p=some (.list (a_ fY++[fY n])):=cB (cB (cB hp.gp rb) PR) PT;refine Y6 ⟨by simp[af],_,e,?_,rfl,YV ?_⟩;.rw[Z1,Z2,YY,af];(exact cF 0x1ffe5f07072f16c41 [100000,16777216] [_,_] [] P8 M)
      . have P9:aP st r.1=(st.1++[st.2],⟨[],[],[]⟩):=by exact ZT ⟨p8 h1,JT h2⟩
        have:=T _ (i++[n]) (PM,PN,PS) (by rw[P9];exact hm);exact this
  . obtain⟨i,n,hp,rfl⟩:=B;rw[Z2,XT]at hp;have w:=hp.all;have D:=PY s;unfold bC at D;generalize(aC rs).1++[(aC rs).2]=ps at w D;generalize Qa:i++[n]=as at w;have Qb:G p=some (.list (h4 fY)):=by rw[<-Qa,ZE];exact hp.gp
    refine EF.fz (M' p as ps) E _ (λPW hm=>?_) (λQc Qd e=>⟨hp.ext Qc Qd e,λhm=>?_⟩) (λQe hr PW hm=>?_) D
    . rcases ZI hm with rfl|hm;.exact Qb
      . obtain⟨q,hq,hm⟩:=WM hm;obtain⟨⟨e1,e2,Qf⟩,_⟩:=w.2 q hq;simp only[XS,YJ,Vw]at hm;rcases hm with rfl|rfl|rfl;.exact e1
        .exact e2
        .exact Qf
    . obtain⟨PW,PX,rfl⟩:=Zl hm;clear hm;rcases ZI PX with rfl|hm;.rw[hp.np]at e;cases e
      . obtain⟨q,hq,hm⟩:=WM hm;obtain⟨_,hn⟩:=w.2 q hq;simp only[XS,YJ,Vw]at hm;clear PX;rcases hm with rfl|rfl|rfl;.rw[hn _ (by simp[fO])]at e;cases e
        .rw[hn _ (by simp[fO])]at e;cases e
        .rw[hn _ (by simp[fO])]at e;cases e
    . simp only[XS,YJ,Vw]at hm;refine hm.elim (λYA=>?_) λYB=>YB.elim (λYA=>?_) λYB=>YB.elim (λYA=>?_) λYA=>?_;.rw[YA];exact⟨_,rfl,.refl _⟩
      .rw[YA];exact⟨_,rfl,.refl _⟩
      .rw[YA];exact⟨_,rfl,.refl _⟩
      . rw[YA];refine⟨.ref p,rfl,.ref (Reads.seq ?_ _ (hr _ Y5))⟩;have hq:∀q∈as.zip ps,a5 Qe (fY q.1) (eV q.2):=λq hq=>by
          have h1:=hr (q.1.1,ah q.2.d) (ZX _ (Xf ⟨q,hq,.head _⟩));have h2:=hr (q.1.2.1,ah q.2.a) (ZX _ (Xf ⟨q,hq,.tail _ (.head _)⟩));have Qg:=hr (q.1.2.2,ah q.2.k) (ZX _ (Xf ⟨q,hq,.tail _ (.tail _ (.head _))⟩));exact Reads.seq (.cons (.ref h1) (.cons (.ref h2) (.cons (.ref Qg) .nil)))
        exact vp as ps w.1 hq
theorem uG(G:GH)(p:Pt):bR G (eV p) (.int 0)=some (.lst (ah p.d)):=rfl
theorem ur(G:GH)(p:Pt):bR G (eV p) (.int 1)=some (.lst (ah p.a)):=rfl
theorem BZ(G:GH)(p:Pt):bR G (eV p) (.int 2)=some (.lst (ah p.k)):=rfl
theorem uq(G:GH)(p:Pt)(Yi:Y0):bR G (eV p) Za3=some (.lst (ah (Un Yi))):=by
 cases Yi;.exact uG G p
 .exact ur G p
theorem iI{α:Type}(m:J α)(f:α->Zs MV):ow (λ(k:U)=>(m[k]?).bind f) V_=m.filterMap f:=by
 have:∀n,n<=V_->(Zi n).filterMap (λk=>(m[k]?).bind f)=(m.take n).filterMap f:=by
  intro n;induction n with
  |V1=>intro O;rfl|VF n i=>
   intro h;rw[T1,U6,i (O7 h),X9,U6,qn,Z6 (JD h)];rfl
 exact(this _ (ZV _)).trans (by rw[XT])
theorem ub(x:J Z)(f:Z->Z):ow (λ(k:U)=>(x[k]?).map λa=>.str (f a)) (ah x).length=ah (gy f):=by
 rw[ah,ah,Z2,Xn,<-List.filterMap_eq_map];exact(Zq (ow . _) (funext λk=>Option.map_eq_bind)).trans (iI x λa=>some (.str (f a)))
theorem kx(p:Pt)(Yi:Y0)(WD:Z):(p.aL Yi WD).length=(Un Yi).length+p.k.length:=by simp[Pt.aL]
theorem lA(x:J Z)(k:U)(h:k<(ah x).length):∃a,x[k]?=Zax/\(ah x).getD k .none=.str a/\a∈x:=by
 have b:k<ZO:=by simpa[ah]using h
 refine⟨x[k],Z6 b,by simp[ah,Z0,b],Uq b⟩
theorem sx{b:J (Z×Z)->Prop}(c:b [])(h1:∀a r,b a->b (a++[r]))(rs:J (Z×Z)):b rs:=by
 suffices h:∀n rs,Zd=n->b rs from h _ rs rfl;intro n;induction n with
 |V1=>intro rs h;rw[Xl h];exact c|VF n i=>
  intro rs h;obtain⟨a,r,rfl⟩:∃a r,rs=a++[r]:=(Vs rs.dropLast (rs.getLast (by intro e;rw[e]at h;simp at h)) ((Oz _).symm));exact h1 a r (i a (by simpa using h))
theorem Eg(p:Pt)(s x y:Z)(h:y∈(p.put s x).d++(p.put s x).a++(p.put s x).k):y=x\/y∈p.d++p.a++p.k:=by
  unfold Pt.put at h;split at h;.simp only[TZ,Wu]at h⊢;rcases h with((h|h)|h)|h<;>simp[h]
  . split at h;.simp only[TZ,Wu]at h⊢;rcases h with(h|(h|h))|h<;>simp[h]
    .simp only[TZ,Wu]at h⊢;rcases h with(h|h)|(h|h)<;>simp[h]
theorem D9(p:Pt)(s x:Z):(p.put s x).d.length+(p.put s x).a.length+(p.put s x).k.length=p.d.length+p.a.length+p.k.length+1:=by
 unfold Pt.put;refine bQ rfl (λO=>?_) λO=>?_;.simp;exact cY 0x6e0e80e020c070141c1 [_,_,_]
 .split<;>simp<;>(first|exact cY 0x6e0e80e020c07083841 [_,_,_]|exact cY 0x6e0e8083083841 [_,_])
theorem lN(st:J Pt×Pt)(s:Z):(aP st s).1++[(aP st s).2]=st.1++[st.2]\/(aP st s).1++[(aP st s).2]=st.1++[st.2]++[⟨[],[],[]⟩]:=by
 unfold aP;refine bQ rfl (λO=>?_) λO=>?_;.exact .inr rfl
 .exact .inl rfl
theorem oH(rs:J (Z×Z)):∀p∈bC rs,∀x∈p.d++p.a++p.k,∃r∈rs,r.2=x:=by
  refine sx (b:=λrs=>∀p∈bC rs,∀x∈p.d++p.a++p.k,∃r∈rs,r.2=x) ?_ (λb r i=>?_) rs;.intro p hp x hx;simp[bC,aC]at hp;subst hp;simp at hx
  . intro p hp x hx;walk_at"b";unfold bC at hp;rw[eG]at hp;have c:∀p∈(aP (aC b) r.1).1++[(aP (aC b) r.1).2],∀x∈p.d++p.a++p.k,∃r∈b,r.2=x:=by
      intro p hp x hx;rcases lN (aC b) r.1 with e|e<;>rw[e]at hp;.exact i p hp x hx
      . refine(ZM hp).elim (λhp=>?_) λhp=>?_;.exact i p hp x hx
        .simp at hp;subst hp;simp at hx
    rcases ZM hp with hp|hp;.obtain⟨q,hq,e⟩:=c p (Y3 _ hp) x hx;exact⟨q,Y3 _ hq,e⟩
    . have f:p=(aP (aC b) r.1).2.put r.1 r.2:=by simpa[bc]using hp
      subst f;refine(Eg _ _ _ _ hx).elim (λYA=>?_) λhx=>?_;.subst YA;exact⟨r,by simp,rfl⟩
      .obtain⟨q,hq,e⟩:=c _ (Y2 _ (Xv rfl)) x hx;exact⟨q,Y3 _ hq,e⟩
def lJ(p:Pt):U:=p.d.length+p.a.length+p.k.length
theorem n6(rs:J (Z×Z)):((bC rs).map lJ).sum=Zd:=by
 refine sx (b:=λrs=>((bC rs).map lJ).sum=Zd) rfl (λa r i=>?_) rs;unfold bC;rw[eG];have e:(((aP (aC a) r.1).1++[(aP (aC a) r.1).2]).map lJ).sum=Zx:=by
  rcases lN (aC a) r.1 with e|e<;>rw[e];.exact i
  .rw[ZE,List.sum_append];exact i
 simp only[bc,ZE,List.sum_append,Yb,R',List.sum_cons,List.sum_nil,Z1,YY]at e⊢;have:=D9 (aP (aC a) r.1).2 r.1 r.2;simp only[lJ]at e⊢;exact bw 0x7ffb8387083481dc1c226c7083441 [_,_,_,_] e this
theorem iB(rs:J (Z×Z))(Yi:Y0)(WD:Z):((bC rs).flatMap (·.aL Yi WD)).length<=Zd:=by
 rw[<-n6 rs];generalize bC rs=ps at⊢;induction ps with
 |Yk=>simp|Zp p ps i=>
  rw[Z1,kx];have:(Un Yi).length+p.k.length<=lJ p:=by unfold lJ Pt.side;split<;>(first|exact cY 0x1980a011c041 [_,_,_]|exact cY 0x1980a030c041 [_,_,_])
  exact bw 0x7ff981050187241e441 [_,_,_,_] this i
theorem yP{ps:J Pt}(b:Zcc)(hb:ZcX)(r:Rm X m P0)(Q:(ps.flatMap (·.aL Yi N)).length<=200000)(S:∀p∈ps,(∀x∈Un Yi,ZO<=1000)/\∀x∈p.k,ZO<=1000)(T:N.length<=10)(hn:hP<=200000)(o:g (.lst (ah (if ps.any (λp=>!(Un Yi).isEmpty)then ps.flatMap (·.aL Yi N)else[]))) E):EF X m (W7 (t6 (cy 13) pm cd Ww .none .none) f fa) (Yj ((bI (cy 13)).drop 2) (W7 (t6 (cy 13) pm cd Ww .none .none) f fa)) [("hunk",c),("side",Za3),("plain",.str N),("parts",.lst (hO eV))] E (qI g):=by
  walk_at"d";refine ZJ (Zk (VZ (Y6 ⟨by decide,λt z=>?_⟩)) (.inl rfl));let I:U->YS->GH->Prop:=λj l G=>G=Y8 E t (.list (ah ((ps.take j).flatMap (·.aL Yi N))))/\l=([("hunk",c),("side",Za3),("plain",.str N),("parts",.lst (hO eV)),("told",.ref t)]:YS);refine ZJ (ra X4 I ?_);refine Z4 rfl ⟨_,_,rfl,⟨by rw[ah];rfl,rfl⟩,?_,λj A l G hm n=>?_,λl G n=>?_⟩;.exact av Z_
  . rw[n.1,n.2];walk_at"A";obtain⟨p,hr,rfl⟩:∃s,ps[j]?=some s/\A=eV s:=by
      walk_at"b";rw[Zy]at hm;obtain⟨s,hr,e⟩:=Y4 hm;exact⟨s,hr,hQ⟩
    refine Oi (.inl rfl) ?_;walk_at"T";have no:∀{i:Zw}{B:J Z}{V:U}{p1 p2 PM PN PR:iv}{D:Y0->GH->Prop}{w:GH}{Us:p' ZP},bR w (eV p) ZaN=some (.lst (ah B))->D (!(ah B).isEmpty) w->EB X m (W7 (t6 (cy 13) pm cd Ww .none .none) f fa) (XC (.Compare (.Subscript (.Name "part" p1) (.Constant (.int i) V p2) PM) [.NotEq] [.List [] PN] PR) (W7 (t6 (cy 13) pm cd Ww .none .none) f fa) Us) ([("hunk",c),("side",Za3),("plain",.str N),("parts",.lst (hO eV)),("told",.ref t),("part",eV p)]) w D:=λh a=>XA r (Yq (Z4 rfl (X2 ⟨_,h,UA (Y6 ⟨by decide,_,Zq (U8 (!.)) (bO ..),a⟩)⟩))) (by with_unfolding_all rfl);refine ZJ ?_;generalize PS:iR _ _ _ _ _=PT;have y:∀u,p.mark N=u->PT .next ([("hunk",c),("side",Za3),("plain",.str N),("parts",.lst (hO eV)),("told",.ref t),("part",eV p),("mark",.str u)]) (Y8 E t (.list (ah ((ps.take j).flatMap (·.aL Yi N))))):=by
      intro u PW;subst PW;subst PS;walk_at"U";refine ?_;have d:((ps.take (j+1)).flatMap (·.aL Yi N)).length<=200000:=by
        refine YW ?_ Q;conv=>rhs;rw[<-XH (j+1) ps,YT,Z1]
        exact O1
      have F:(ps.take (j+1)).flatMap (·.aL Yi N)=(ps.take j).flatMap (·.aL Yi N)++p.aL Yi N:=by rw[X9,hr,U_,YT];simp
      rw[F,Z1]at d;have PX:(p.mark N).length<=10:=by
        unfold Pt.mark;refine bQ rfl (λO=>?_) λO=>?_;.decide
        .exact T
      have h1:=S p (YN hr);walk_at"G";refine ZJ (VK (Oa (Z4 rfl ⟨t,_,rfl,aa ..,?_⟩)));refine YU (EV.comp [("mark",.str (p.mark N))] ⟨rfl,rfl,by decide,by decide,?_,?_⟩ (gr.list X4 (Yq (Z4 rfl (Z4 rfl ⟨_,uq ..,_,rfl,?_⟩)))));.intro q hq;rcases ZD hq with rfl;rfl
      .intro q hq;rcases ZD hq with rfl;exact⟨rfl,by show some S0≠some Um;decide,.inl rfl,rfl⟩
      refine⟨λa l=>aJ "line" ((ah (Un Yi)).getD a .none) l,λa=>((Un Yi)[a]?).map λx=>.str (p.mark N++x),?_,λC a c=>UQ (.inl rfl),λa c=>?_,λC a G c hG=>h5 ⟨rfl,λO=>?_,λh=>by cases h⟩,?_⟩;.rw[kx]at d;rw[az,af];exact a9 0x7f2f165f080c41 [200000,16777216] [_,_,_] [] d
      .exact av Z_
      .obtain⟨x,e1,e2,hx⟩:=lA _ a c;have:=h1.1 x hx;show EV X m _ _ (aJ "line" ((ah (Un Yi)).getD a .none) [("mark",.str (p.mark N))]) G _;rw[e2];exact YU (Z4 rfl (Z4 rfl ⟨_,dK (by rw[af];exact cF 0x1ffe5f01072f165e1 [10,1000,16777216] [_,_] [] PX this),rfl,by show U8 _ _=_;rw[e1];rfl⟩))
      rw[ub];refine EV.comp [] ⟨rfl,rfl,by decide,by decide,λq hq=>(nomatch hq),λq hq=>(nomatch hq)⟩ (gr.list X4 (Yq (Z4 rfl (X2 ⟨_,BZ ..,_,rfl,?_⟩))));refine⟨λa l=>aJ "line" ((ah p.k).getD a .none) l,λa=>(p.k[a]?).map λx=>.str ("  "++x),?_,λC a c=>UQ (.inl rfl),λa c=>?_,λC a G c hG=>h5 ⟨rfl,λO=>?_,λh=>by cases h⟩,?_⟩;.rw[kx]at d;rw[az,af];exact a9 0x7f2f1e5f080c41 [200000,16777216] [_,_,_] [] d
      .intro x u e;exact ax e
      .obtain⟨x,e1,e2,hx⟩:=lA _ a c;have:=h1.2 x hx;show EV X m _ _ (aJ "line" ((ah p.k).getD a .none) []) G _;rw[e2];exact YU (Wc (Z4 rfl ⟨_,dK (by show 2+ZO<=ZK;rw[af];exact a9 0x1fcbe017e5e1 [1000,2,16777216] [_] [] this),rfl,by show U8 _ _=_;rw[e1];rfl⟩))
      rw[ub];have PY:ah (p.aL Yi N)=ah ((Un Yi).map (p.mark N++.))++ah (p.k.map ("  "++.)):=by simp[Pt.aL,ah]
      refine⟨.lst (ah (p.aL Yi N)),?_,_,_,aa ..,aF ..,?_,rfl,YV ⟨_,⟨?_,rfl⟩,?_⟩⟩;.rw[PY];refine R7 (gA rfl rfl ?_) rfl;rw[az,az,Z2,Z2];rw[kx]at d;exact a9 0x1fcbc597c041 [200000,16777216] [_,_] [] d
      .rw[az,az,af];exact a9 0x7f2f0e5e1 [200000,16777216] [_] [] d
      .rw[aQ,F];simp[ah]
      .exact av Z_
    refine Zk (EV.EJ (VT (no (uG ..) ⟨λh1=>VT (no (ur ..) ⟨λh2=>t' ⟨λO=>Wc (y _ (ZT ⟨JT h1,JT h2⟩)),λh=>nomatch h⟩,λh2=>⟨λh=>(nomatch h),λO=>Z4 rfl (y _ (ZY λq=>q.2 (wb h2)))⟩⟩),λh1=>⟨λh=>(nomatch h),λO=>Z4 rfl (y _ (ZY λq=>q.1 (wb h1)))⟩⟩))) (.inr ⟨rfl,_,rfl,?_⟩);first|exact Wr f|exact Nat.lt_succ_of_lt (Wr f)
  . rw[n.1,n.2];walk_at"q";rw[Z2,XT];walk_at"U";refine ZJ (Q0 (EV.EJ (XA r (EV.comp [("side",Za3)] ⟨rfl,rfl,?_,?_,?_,?_⟩ (gr.list X4 (Z4 rfl ⟨_,rfl,?_⟩))))));.decide
    .decide
    .intro q hq;rcases ZD hq with rfl;rfl
    .intro q hq;rcases ZD hq with rfl;exact⟨rfl,by show some S0≠some Um;decide,.inl rfl,rfl⟩
    refine⟨λa l=>aJ "part" ((hO eV).getD a .none) l,λa=>(ps[a]?).bind λp=>if(Un Yi).isEmpty then none else some (eV p),?_,λC a c=>UQ (.inl rfl),λa c=>?_,λC a G c hG=>?_,?_⟩;.rw[Z2,af];exact a9 0x7f2f0e5e1 [200000,16777216] [_] [] hn
    .exact av Z_
    . have OQ:a<hP:=by simpa using c
      have e1:ps[a]?=some ps[a]:=Z6 OQ;have e2:(hO eV).getD a .none=eV ps[a]:=by simp[Z0,OQ]
      show eQ X m _ _ (aJ "part" ((hO eV).getD a .none) [("side",Za3)]) G _;rw[e2];generalize ps[a]=p at e1 e2;refine Gp (XA r (Yq (Z4 rfl (Z4 rfl ⟨_,uq ..,UA (Y6 ⟨by decide,!(ah (Un Yi)).isEmpty,Zq (U8 (!.)) (bO ..),rfl,λh=>Z4 rfl ⟨rfl,?_⟩,λh=>?_⟩)⟩))));.show(ps[a]?).bind _=_;rw[e1];simp[ah]at h;simp[h]
      .show(ps[a]?).bind _=_;rw[e1];simp[ah]at h;simp[h]
    rw[Z2,iI];refine UA (Y6 ⟨by decide,!(ps.filterMap λp:Pt=>if(Un Yi).isEmpty then none else some (eV p)).isEmpty,Zq (U8 (!.)) (bO ..),λh=>?_,λh=>?_⟩)
    . refine EV.EI rfl (aa ..) ?_;rw[my _ _ _ z];have:ps.any (λp=>!(Un Yi).isEmpty)=true:=by
        simp only[G4,List.isEmpty_eq_false_iff_exists_mem]at h;obtain⟨A,hm⟩:=h;obtain⟨p,hp,e⟩:=List.mem_filterMap.mp hm;refine List.any_eq_true.mpr ⟨p,hp,?_⟩;by_cases M:(Un Yi).isEmpty;.simp[M]at e
        .simp[M]
      rw[ZT this]at o;exact o
    . refine EV.fz (UA (Y6 ⟨by decide,[],E,.lst [],λp hp=>(nomatch hp),λP2 P4 e=>⟨cB e z,YJ⟩,λP5 O=>.refl _,?_⟩))
      . have:¬ps.any (λp=>!(Un Yi).isEmpty)=true:=by
          walk_at"ao";intro ht;obtain⟨p,hp,e⟩:=qs ht;have PZ:(ps.filterMap λp=>if(Un Yi).isEmpty then none else some (eV p))=[]:=by simpa using h
          have:eV p∈(ps.filterMap λp=>if(Un Yi).isEmpty then none else some (eV p)):=List.mem_filterMap.mpr ⟨p,hp,by simp at e;simp[e]⟩;rw[PZ]at this;exact nomatch this
        rw[ZY this]at o;exact o
theorem pL(F:hT X fa (cy 13) pm cd Ww .none .none)(b:Zcc)(hb:ZcX)(rm:Rm X m (n+1))(hs:∀r∈rs,r.1=("-")\/r.1=("+")\/r.1=(" "))(a:Zd<=100000)(c:∀r∈rs,r.2.length<=1000)(d:N.length<=10)(e:g (.lst (ah (half rs Yi N))) E):b9 X m ZaA [aS rs,Za3,.str N] E g:=zM F b hb rm hs a λf=>by
    have hm:=oH rs;refine yP b hb (WJ _) ?_ (λp hp=>⟨λx hx=>?_,λx hx=>?_⟩) d ?_ e;.exact YW (iB rs Yi N) (by exact a9 0x7f2f0e5e1 [100000,200000] [_] [] a)
    .obtain⟨r,hr,YA⟩:=hm p hp x (by cases Yi<;>simp[Pt.side]at hx<;>simp[hx]);rw[<-YA];exact c r hr
    .obtain⟨r,hr,YA⟩:=hm p hp x (by simp[hx]);rw[<-YA];exact c r hr
    .unfold bC;have:=kR rs;simp;(exact cF 0x7ff978b21165e1 [100000,199999] [_,_] [] a this)
structure ly(X:Cx)(b:Zcc)(k:U)(d a:ZP)where
 fa:Y_
 pm:ZP
 cd:ZP
 Ww:ZP
 fn:hT X fa (cy k) pm cd Ww d a
 gl:V0 (v_ (cy k))=some ZaA
structure c6(X:Cx)(b:Zcc)where
 og:ly X b 10 .none .none
 Ep:ly X b 11 .none .none
 range:ly X b 12 .none .none
 half:ly X b 13 .none .none
 AZ:V0 ("range")=none/\Va ("range")=some ZaF
structure vj where
 aL:J Z
 a8:J (Z×Z)
 old:Zw
 new:Zw
def WR(h:J (Z×Z)):U:=h.countP λr=>!(r.1==("+"))
def WB(h:J (Z×Z)):U:=h.countP λr=>!(r.1==("-"))
def cP(st:vj):J Z:=[("***************\n"),("*** ")++aN SH (WR W_)++(" ****\n")]++half W_ false ("- ")++([("--- ")++aN SG (WB W_)++(" ----\n")]++half W_ true ("+ "))
def near(rs:J (Z×Z))(n:Zw)(k:U):Y0:=let b:=(bS (n+1) rs).getD k 0
 let a:=((bS (n+1) VN).reverse).getD k 0
 decide ((if a<b then a else b)<=n)
def fq(rs:J (Z×Z))(n:Zw)(st:vj)(k:U):vj:=if k<Zd/\near rs n k=true then{st with a8:=W_++(rs[k]?).toList}else{aL:=if W_=[]then TC else TC++cP st,a8:=[],old:=SH+WR W_+1,new:=SG+WB W_+1}
def cN(rs:J (Z×Z))(n:Zw)(j:U):vj:=(Zi j).foldl (fq rs n) ⟨[],[],0,0⟩
def vx(rs:J (Z×Z))(n:Zw):J Z:=let m:=if(Zd:Zw)<n then(Zd:Zw)else n
 let t:=(cN rs m (Zd+1)).aL
 if t=[]then[]else[("*** \n"),("--- \n")]++t
theorem d9(rs:J (Z×Z))(n:Zw)(j:U):cN rs n (j+1)=fq rs n (cN rs n j) j:=by unfold cN;rw[T1,WW];rfl
theorem gQ(h:a[j]?=Zaq)(c:Zx<=ZK):bR d (.lst a) Zb5=Zaq:=ti iK h c
theorem qR(rs:J (Z×Z))(n:Zw):∀k,(cN rs n k).a8.length<=k:=by
  intro I;induction I with
  |V1=>exact ZV _|VF k a=>
    rw[d9];unfold fq;refine bQ rfl (λO=>?_) λO=>?_
    . have:((rs[k]?).toList).length<=1:=by cases rs[k]?<;>simp
      simp only[Z1];exact bw 0x7ff98387008b23165c1 [_,_,_] this ‹_›
    .simp
theorem vu{rs:J (Z×Z)}(b:k<Zd)(c:Zd<=ZK):bR d (.lst ((bS (a+1) rs).map .int)) Za0=some (.int ((bS (a+1) rs).getD k 0))/\bR d (.lst ((bS (a+1) VN).reverse.map .int)) Za0=some (.int ((bS (a+1) VN).reverse.getD k 0)):=by
 have e1:((bS (a+1) rs).map UD)[k]?=some (.int ((bS (a+1) rs).getD k 0)):=by simp[Z0,bx,b]
 have e2:((bS (a+1) VN).reverse.map UD)[k]?=some (.int ((bS (a+1) VN).reverse.getD k 0)):=by simp[Z0,bx,b]
 exact⟨gQ e1 (by rw[Z2,bx];exact c),gQ e2 (by rw[Z2,X6,bx,X6];exact c)⟩
theorem gf(rs:J (Z×Z))(Yi:Y0)(WD:Z):(half rs Yi WD).length<=Zd:=by
 unfold half;refine bQ rfl (λO=>?_) λO=>?_;.exact iB rs Yi WD
 .simp
theorem eF{α:Type}(p:α->Y0)(l:J α):l.countP p<=W5:=List.countP_le_length
theorem iu(st:vj):(cP st).length<=3+2*T5:=by
 unfold cP;simp only[Z1,YE,UY];exact cF 0x3ffcc2427c203839b00c1d0737221e441 [3,2] [_,_,_] [] (gf W_ false "- ") (gf W_ true "+ ")
structure IU(rs:J (Z×Z))(st:vj)(k:U):Prop where
 o0:0<=SH
 o1:SH+T5<=k
 n0:0<=SG
 n1:SG+T5<=k
 t1:st.aL.length+5*T5<=5*k
 hm:∀r∈W_,r∈rs
theorem iW(rs:J (Z×Z))(n:Zw):∀k,IU rs (cN rs n k) k:=by
  intro I;induction I with
  |V1=>exact⟨OU 0,OU 0,OU 0,OU 0,ZV 0,by intro r h;simp[cN]at h⟩|VF k a=>
    rw[d9];have b:=a;generalize cN rs n k=st at b;obtain⟨o0,o1,n0,n1,t1,hm⟩:=b;unfold fq;refine bQ rfl (λO=>?_) λO=>?_
    . have hl:((rs[k]?).toList).length<=1:=by cases rs[k]?<;>simp
      refine⟨o0,?_,n0,?_,?_,λr hr=>?_⟩;.simp only[Z1];exact cF 0x7ff99c1c384e0112b331c262565c1 [] [_,_,_] [_] hl o1
      .simp only[Z1];exact cF 0x7ff99c1c384e0112b331c262565c1 [] [_,_,_] [_] hl n1
      .simp only[Z1];exact cF 0x7ff9941c384a041072e2664384841 [5,5,5,5] [_,_,_,_] [] t1 hl
      . refine(ZM hr).elim (λhr=>?_) λhr=>?_;.exact hm r hr
        . refine gG (rs[k]?) (λe=>?_) λq e=>?_;.rw[e]at hr;simp at hr
          .rw[e]at hr;simp at hr;rw[hr];exact YN e
    . have h1:WR W_<=T5:=eF _ _;refine⟨?_,?_,?_,?_,?_,λr hr=>by simp at hr⟩;.show 0<=SH+WR W_+1;exact a9 0xfe60e84c2a6e54d [] [_] [_] o0
      .show SH+WR W_+1+(([]:J (Z×Z)).length)<=((k+1:U));simp only[UY];exact cF 0x3ffcce0e1c26d83a130ab331c26256441 [] [_,_,_] [_] h1 o1
      .show 0<=SG+WB W_+1;exact a9 0xfe60e84c2a6e54d [] [_] [_] n0
      .show SG+WB W_+1+(([]:J (Z×Z)).length)<=((k+1:U));simp only[UY];exact cF 0x3ffcce0e1c26d83a130ab331c26256441 [] [_,_,_] [_] (eF _ _) n1
      . simp only[UY];refine bQ rfl (λO=>?_) λc=>?_;.exact a9 0xfe65070e12687321c041 [5,5,5] [_,_,_] [] t1
        .simp only[Z1];exact cF 0x3ffcca0e1c24d810398484f2664384841 [5,5,3,2,5,5] [_,_,_,_] [] t1 (iu st)
theorem fb(h1:S1 (a+1))(h2:S1 (a+b)):(aN a b).length<=41:=by
  have e2:=i7 h2;unfold aN;refine bQ rfl (λO=>?_) λO=>?_;.exact a9 0x7f2f0e5e1 [20,41] [_] [] e2
  .rw[UO,UO];show _+1+_<=_;exact cF 0x7ff97c0507072f165e1 [20,20,41] [_,_] [] (i7 h1) e2
theorem BL(h:J (Z×Z)):(h.filter λr=>!(r.1==("+"))).length=WR h:=by unfold WR;rw[Vx]
theorem BX(h:J (Z×Z)):(h.filter λr=>!(r.1==("-"))).length=WB h:=by unfold WB;rw[Vx]
theorem EF.DK(ga:b a=Zbf)(hx:VU x=some Zag)(h:EF d f YX i (aJ x (.lst c) l) (H2 b a) D):EF d f YX i l b D:=EF.freeze ga _ (λy mv e=>by
  rw[aB]at e;by_cases q:y=x;.rw[ZT q]at e;exact .inr ⟨q▸hx,(ZW e).symm⟩
  .rw[ZY q]at e;exact .inl e) h
theorem gY(G:GH)(m:ZaV):mj G (.lst m)=some V_:=Zq (U8 (Sr (α:=MV))) (iK (b:=G) (a:=m))
theorem mK(rs:J (Z×Z)):(hR aO).length=Zd:=by simp
theorem Dr(b:Zcc)(hb:ZcX)(rm:Za2)(hg:∀f,t.contains f=true->Yg f=Zaa)(h1:Ys ("back")=some (.lst ((bS (a+1) rs).map .int)))(h2:Ys ("ahead")=some (.lst ((bS (a+1) VN).reverse.map .int)))(c:Ys ("k")=some Zb5)(e:Ys ("n")=some ZbQ)(g:Yg "min"=Zaa)(hx:(1:U)=1)(rb:(1:U)=1)(k:j<Zd)(l:Zd<=ZK)(p:Nj (near rs a j) E):EB X m YX (XC (.Compare (.Call (.Name "min" p0) [.Subscript (.Name "back" p1) (.Name "k" p2) q,.Subscript (.Name "ahead" u) (.Name "k" x) F] [] M) [.LtE] [.Name "n" T] V) YX (ZG (.Compare (.Call (.Name "min" p0) [.Subscript (.Name "back" p1) (.Name "k" p2) q,.Subscript (.Name "ahead" u) (.Name "k" x) F] [] M) [.LtE] [.Name "n" T] V) YX)) o E Nj:=by
 obtain⟨i1,i⟩:=vu (d:=E) (a:=a) k l;have d:=hb "min" (.builtin "min") (by rfl);refine XA rm (b3 b g d.1 d.2 (.inl ⟨_,rfl⟩) (Zu (Yq (Z4 h1 (Z4 c ⟨_,i1,Zu (Yq (Z4 h2 (Z4 c ⟨_,i,Y6 λw s y S r=>jO rm (F:=.int (if(bS (a+1) VN).reverse.getD j 0<(bS (a+1) rs).getD j 0 then(bS (a+1) VN).reverse.getD j 0 else(bS (a+1) rs).getD j 0)) ?_ S r (Z4 e ⟨near rs a j,?_,p⟩)⟩)))⟩)))));.rfl
 .rfl
theorem FE:1<=ZK:=by decide
theorem x9:2<=ZK:=by decide
theorem Jk:3<=ZK:=by decide
theorem eA:mj E (.lst (ah x))=some ZO:=(gY E _).trans (Zq some (az x))
theorem yq(h:E a=some (.list (ah x))):mj E Zag=some ZO:=(Zq (U8 (Sr (α:=MV))) (eU h)).trans (Zq some (az x))
theorem gI(G:GH)(rs:J (Z×Z)):mj G (aS rs)=some Zd:=(gY G _).trans (Zq some (mK rs))
theorem EU(D:c6 X b)(hb:ZcX)(rm:Rm X m (l+1))(hx:Ys x=some ZbQ)(hy:Ys d=some ZcS)(h1:S1 (a+1))(h2:S1 (a+c))(hp:UC=4)(hq:post.length=6)(k:g (.str (pre++aN a c++post)) E)(hg:Z3 (Yg "_law_range"=Zaa) aR)(n:Z3 ((x=="__classdict__")=false) aD)(e:Z3 ((x=="__debug__")=false) aD)(f:Z3 ((d=="__classdict__")=false) aD)(i:Z3 ((d=="__debug__")=false) aD):EV X m YX (ZG (.BinOp (.BinOp (.Constant (.str pre) q p1) .Add (.Call (.Name "_law_range" p2) [.Name x r,.Name d s] [] u) F) .Add (.Constant (.str post) k2 M) S) YX) o E g:=by
 have hr:=fb h1 h2;refine YU (YU (Wc (s_ b hg D.range.gl D.range.fn.get D.range.fn.nt rfl (Zu (Z4 hx (Zu (Z4 hy (Y6 (nk D.range.fn b hb rm h1 h2 ⟨_,dK ?_,Wc ⟨_,dK ?_,k⟩⟩)) f i)) n e)))));.rw[hp,af];exact a9 0x1fcbe017e5e1 [41,4,16777216] [_] [] hr
 .rw[UO,hp,hq,af];exact a9 0x7f2f83e017e5e1 [41,4,6,16777216] [_] [] hr
def HH(rs:J (Z×Z))(m:Zw)(aL a8:MV)(o n:Zw):YS:=[("rows",aS rs),("n",.int m),("back",.lst ((bS (m+1) rs).map .int)),("ahead",.lst ((bS (m+1) VN).reverse.map .int)),("told",aL),("hunk",a8),("old",.int o),("new",Zbp)]
inductive KR(rs:J (Z×Z))(m:Zw)(G:GH)(t:Y_)(st:vj)(l:YS)(b:GH):Prop where|mk(a:Y_)(h:G a=none)(ne:a≠t)(g:b=Y8 (Y8 G t (.list (ah TC))) a Zcd)(e:l=HH rs m (.ref t) Zag SH SG)
abbrev Bs(pm cd Ww:ZP)(a fa:Y_):SM:=W7 (t6 (cy 14) pm cd Ww .none .none) a fa
abbrev BD:J V4:=bI ((bI (cy 14)).getD 6 (.Pass default))
theorem zW{st:vj}(d:c6 X b)(hb:ZcX)(rm:Rm X m (n+1))(hs:∀r∈rs,r.1=("-")\/r.1=("+")\/r.1=(" "))(a:Zd<=10000)(M:∀r∈rs,r.2.length<=1000)(c:k<Zd+1)(i:T5<=k)(B:IU rs st k)(N:E l=none)(s:l≠f)(Q:∀hb o,E hb=none->hb≠f->Od (HH rs u Zb9 (.ref hb) (SH+WR W_+1) (SG+WB W_+1)) o->D .next o (Y8 (Y8 E f (.list (ah (if W_=[]then TC else TC++cP st)))) hb Zar)):EF X m (Bs pm cd Ww S fa) (Yj (BD.drop 1) (Bs pm cd Ww S fa)) (HH rs u Zb9 (.ref l) SH SG++([("k",Za0)]:YS)) (Y8 (Y8 E f (.list (ah TC))) l Zcd) D:=by
  walk_at"ap";have o0:=B.o0;have o1:=B.o1;have n0:=B.n0;have n1:=B.n1;have t1:=B.t1;have w:WR W_<=T5:=eF _ _;have hw:WB W_<=T5:=eF _ _;have y:T5<=ZK:=by rw[af];(exact rf 0x1ffff2f1e423cbc5a83841 [10000,16777216] [_,_,_] [] c a i)
  refine EF.DK (x:="hunk") (aa ..) rfl ?_;rw[my _ _ _ (by rw[ag s];exact N)];clear s;refine ZJ (Zk (pd (f:="len") b hb rm (Zu (p5 (c:=cu) [] W_ aO (λr o=>aJ "line" (.str r.2) (aJ "sign" (.str r.1) o)) (λr=>!(r.1==("+"))) (λr=>.str r.2) ⟨rfl,rfl,by decide,by decide,λq hq=>(nomatch hq),λq hq=>(nomatch hq)⟩ (p4 YO (Z4 rfl ⟨rfl,?_,Y6 ⟨_,FC (n:=WR W_) (by rw[gY,Z2,BL]) (by rw[af];(exact oP 0x1fffff9797222e5e4d41c41e64384841 [5,5,10000,16777216] [_,_,_,_,_] [] t1 c a w)),?_⟩⟩))))) (.inl rfl));.refine⟨y,λC r hr=>(bb YO (.inl rfl) (.inl rfl)).gw,λr hr x V e=>(nomatch e),λC PM r hr hG=>?_⟩;exact Gp (XA rm (Z4 rfl (Wc ⟨!(r.1=="+"),rfl,rfl,rfl,λO=>Z4 rfl ⟨rfl,rfl⟩⟩)))
  refine ZJ (Zk (pd b hb rm (Zu (p5 [] W_ aO (λr o=>aJ "line" (.str r.2) (aJ "sign" (.str r.1) o)) (λr=>!(r.1=="-")) (λr=>.str r.2) ⟨rfl,rfl,by decide,by decide,λq hq=>(nomatch hq),λq hq=>(nomatch hq)⟩ (p4 YO (Z4 rfl ⟨rfl,?_,Y6 ⟨_,FC (by rw[gY,Z2,BX]) (by rw[af];(exact oP 0x1fffff9797222e5e4d41c41e64384841 [5,5,10000,16777216] [_,_,_,_,_] [] t1 c a hw)),?_⟩⟩))))) (.inl rfl));.refine⟨y,λC r hr=>(bb YO (.inl rfl) (.inl rfl)).gw,λr hr x V e=>(nomatch e),λC PM r hr hG=>?_⟩;exact Gp (XA rm (Z4 rfl (Wc ⟨!(r.1=="-"),rfl,rfl,rfl,λO=>Z4 rfl ⟨rfl,rfl⟩⟩)))
  refine ZJ ?_;generalize PN:iR _ _ _ _ _=PR;have T:∀t,t=(if W_=[]then TC else TC++cP st)->PR .next (HH rs u Zb9 (aS W_) SH SG++([("k",Za0),("olds",.int (WR W_)),("news",.int (WB W_))]:YS)) (Y8 E f (.list (ah t))):=by
    intro t ht;subst PN;refine(?_:EF X _ _ _ _ _ _);refine ZJ (gx YO (WE:=["old","new","hunk"]) (TO (Zu (XZ b hb rm (gl:=[]) (e7 rfl) (mv:=.int (SH+WR W_+1)) Z_ (Zu (XZ b hb rm (gl:=[]) (e7 rfl) (mv:=.int (SG+WB W_+1)) Z_ (Zu (VZ (Y6 ⟨by decide,λz g=>?_⟩)))))))) (rq Z_));have A:z≠f:=by intro PS;subst PS;rw[aa]at g;cases g
    rw[ag A]at g;exact Y6 ⟨Jk,_,rfl,rfl,YV (ht▸Q z _ g A Zb1)⟩
  refine XD (EB.JE rm rfl (bO ..) ⟨λh1=>?_,λh1=>YV ?_⟩)
  . have j:W_≠[]:=by intro e;rw[e]at h1;cases h1
    have p:=gf W_ false "- ";have F:=gf W_ true "+ ";have G:∀r∈W_,r.1="-"\/r.1="+"\/r.1=" ":=λr hr=>hs r (B.hm r hr);have I:∀r∈W_,r.2.length<=1000:=λr hr=>M r (B.hm r hr);refine ZJ (VK (Oa (Z4 rfl ⟨f,_,rfl,aa ..,YU (UA (Zu (Wc (Zu (EU d hb rm rfl rfl (oP 0xfffffd3eb072b330c263565e2ca9ba83841 [10000,1099511627776] [_,_,_] [_] c o0 a o1:S1 (SH+1)) (EO 0x1ffffffd3eb098d599861322b2a6e483cbc5a83841 [10000,1099511627776] [_,_,_,_] [_] c a w o0 o1:S1 (SH+WR W_)) rfl rfl (Y6 ⟨x9,s_ b rfl d.half.gl d.half.fn.get d.half.fn.nt rfl (Zu (Z4 rfl (Zu (X2 (Zu (Wc (Y6 (pL (Yi:=false) d.half.fn b hb rm G (rf 0x1ffff2f1e423cbc5a83841 [10000,100000] [_,_,_] [] c a i) I Z' ⟨_,gA rfl rfl ?_,_,_,aa ..,aF ..,?_,rfl,?_⟩))))))))⟩))))))⟩)));.rw[az,af];(exact oP 0x7ffffe5f02bf222e5e4d41c41e64384841 [5,5,10000,2,16777216] [_,_,_,_,_] [] t1 c a p)
    .rw[az,Z1,az,af];(exact oP 0x1fffff97c205787222e5e4d41c41e64384841 [5,5,10000,2,16777216] [_,_,_,_,_] [] t1 c a p)
    rw[aQ];refine ZJ (VK (Oa (Z4 rfl ⟨f,_,rfl,aa ..,YU (UA (Zu (EU d hb rm rfl rfl (oP 0xfffffd3eb072b330c263565e2ca9ba83841 [10000,1099511627776] [_,_,_] [_] c n0 a n1:S1 (SG+1)) (EO 0x1ffffffd3eb098d599861322b2a6e483cbc5a83841 [10000,1099511627776] [_,_,_,_] [_] c a hw n0 n1:S1 (SG+WB W_)) rfl rfl (Y6 ⟨FE,s_ b (f:=v_ (cy 13)) rfl d.half.gl d.half.fn.get d.half.fn.nt rfl (Zu (Z4 rfl (Zu (X2 (Zu (Wc (Y6 (pL (Yi:=true) d.half.fn b hb (n:=n) rm G (rf 0x1ffff2f1e423cbc5a83841 [10000,100000] [_,_,_] [] c a i) I Z' ⟨_,gA rfl rfl ?_,_,_,aa ..,aF ..,?_,rfl,YV ?_⟩))))))))⟩))))⟩)));.rw[az,af];(exact oP 0x7ffffe5f02bb222e5e4d41c41e64384841 [5,5,10000,16777216] [_,_,_,_,_] [] t1 c a F)
    .rw[Z1,Z1,Z1,az,az,az,af];(exact EO 0x7ffffff2f840d0736102c1d07343911b222e5e4d41c41e64384841 [5,5,10000,16777216] [_,_,_,_,_,_] [] t1 c a p F)
    rw[aQ];have e:ah TC++(ah ["***************\n","*** "++aN SH (WR W_)++" ****\n"]++ah (half W_ false "- "))++(ah ["--- "++aN SG (WB W_)++" ----\n"]++ah (half W_ true "+ "))=ah (TC++cP st):=by simp only[ah,cP,ZE,ZQ]
    exact e▸T (TC++cP st) (ZY j).symm
  . have j:W_=[]:=by cases e:W_ with|Yk=>rfl|Zp x PT=>rw[e]at h1;cases h1
    exact T TC (ZT j).symm
theorem Ax(D:c6 X b)(F:hT X fa (cy 14) pm cd Ww .none .none)(hb:ZcX)(rm:Rm X m (n+2))(hs:∀u∈rs,u.1=("-")\/u.1=("+")\/u.1=(" "))(w:Zd<=10000)(S:∀u∈rs,u.2.length<=1000)(P4:0<=c)(q:g (.lst (ah (vx rs c))) E):b9 X m ZaA [aS rs,ZcS] E g:=by
  refine hS b rm ["rows","n"] (ym λO O=>rfl) Z' rfl (λT x hx=>?_) λT=>?_
  . simp only[XS,YJ,Vw]at hx;rcases hx with rfl|rfl;.exact .inl rfl
    .exact .inl rfl
  intro YX;have r:=WJ YX;have p:Zd<=ZK:=by rw[af];(exact O3 w)
  refine ZJ (Zk (pd (f:="min") (i:=.builtin "min") b hb r (Zu (Z4 rfl (Zu (r4 b hb r rfl (gI ..) p (Y6 ⟨.int (if(Zd:Zw)<c then(Zd:Zw)else c),by kernel_rfl!,?_⟩)))))) (.inl rfl));unfold vx at q;dsimp only at q;generalize hm:(if(Zd:Zw)<c then(Zd:Zw)else c)=d at q;refine ZJ (Zk ?_ (.inl rfl));refine s_ b (f:=v_ (cy 11)) rfl D.Ep.gl D.Ep.fn.get D.Ep.fn.nt rfl ?_;refine Zu (Z4 rfl ?_);refine Zu (Z4 rfl ?_);refine Y6 (sV D.Ep.fn b hb (n:=n) r p ?_);refine ZJ (Zk ?_ (.inl rfl));refine EV.tD (s_ b (f:=v_ (cy 11)) rfl D.Ep.gl D.Ep.fn.get D.Ep.fn.nt rfl ?_);refine Zu (EV.tD (Z4 rfl (EV.neg ⟨_,rfl,aF ..,?_,?_⟩)));.rw[mK];exact p
  refine Zu (Z4 rfl ?_);rw[show MV.lst (hR aO).reverse=aS VN by simp[aS,hN]];refine Y6 (sV D.Ep.fn b hb (n:=n) r (by rw[X6];exact p) ?_);refine EV.neg ⟨_,rfl,aF ..,?_,?_⟩;.rw[Z2,bx,X6];exact p
  rw[<-hN];refine ZJ (Zk (VZ (Y6 ⟨by decide,λt V=>?_⟩)) (.inl rfl));refine ZJ (Zk (VZ (Y6 ⟨by decide,λi j=>?_⟩)) (.inl rfl));refine ZJ (EF.xR (X2 ?_) (.inl rfl) (.inl rfl));refine ZJ (EF.vO (c:=cu) (λPM=>KR rs d E t (cN rs d PM)) (gr.qK X4 b hb rfl D.AZ.1 D.AZ.2 (YU (r4 b hb r rfl (gI ..) p (X2 ⟨.int (Zd+1),rfl,_,rfl,?_,?_⟩)))));.exact a9 0x7f4fac1d30e5e1 [10000,1099511627776] [_] [] w
  have s:i≠t:=by intro PN;subst PN;rw[aa]at j;cases j
  rw[ag s]at j;refine⟨λk l=>aJ "k" Za0 l,_,⟨i,j,s,rfl,rfl⟩,?_,λk G=>UQ (.inl rfl),λk l PR G y=>?_,λl PR y=>?_⟩;.exact av Z_
  . obtain⟨i,j,s,rfl,rfl⟩:=y;have PS:k<Zd+1:=by exact aV 0x1fd41c20ea9074c41 [_,_] G
    rw[d9];have z:(cN rs d k).a8.length<=k:=qR rs d k;have I:=iW rs d k;generalize cN rs d k=st at z I;refine ZJ ?_;generalize M:iR _ _ _ _ _=PT;have A:¬(k<Zd/\near rs d k=true)->PT .next (HH rs d (.ref t) (.ref i) SH SG++([("k",Za0)]:YS)) (Y8 ZbD i (.list (q7 aO))):=by
      intro PW;subst M;refine(?_:EF X _ _ (Yj (BD.drop 1) _) _ _ _);rw[show fq rs d st k={aL:=if W_=[]then TC else TC++cP st,a8:=[],old:=SH+WR W_+1,new:=SG+WB W_+1}from ZY PW];exact zW D hb (n:=n) r hs w S PS z I j s λPX l h1 h2 PY=>⟨_,⟨PX,h1,h2,rfl,rfl⟩,PY⟩
    refine XD (VT (XA r (Z4 rfl (r4 b hb r rfl (gI ..) p ⟨decide ((k:Zw)<Zd),rfl,⟨λh1=>VT (Dr b hb r (e7 Z_:∀f,[("min"),"len"].contains f=true->Yg f=Zaa) rfl rfl rfl rfl rfl rfl rfl (e' (Zj h1)) p ⟨λh2=>t' ⟨λO=>?_,λh=>nomatch h⟩,λh2=>⟨λh=>(nomatch h),λO=>YV (A λh=>?_)⟩⟩),λh1=>⟨λh=>(nomatch h),λO=>YV (A λh=>?_)⟩⟩⟩))))
    . have B:k<Zd:=e' (Zj h1);have N:rs[k]?=some rs[k]:=Z6 B;clear A;subst M;refine(?_:EF X _ _ _ _ _ _);rw[show fq rs d st k={st with a8:=W_++[rs[k]]}from(ZT ⟨B,h2⟩).trans (by rw[N];rfl)];refine ZJ (VK (W4 (Z4 rfl ⟨i,_,rfl,aa ..,Yq (Z4 rfl (Z4 rfl ⟨aO rs[k],gQ (by rw[Zy,N];rfl) (by rw[mK];exact p),_,aa ..,?_,rfl,ZJ (EF.cont ⟨_,⟨i,j,s,?_,rfl⟩,?_⟩)⟩))⟩)));.rw[Z2,af];(exact rf 0x7fffcbc7908f2f16841 [10000,16777216] [_,_,_] [] B w z)
      .rw[aQ,ZE];rfl
      .exact av Z_
    .rw[h2]at h;cases h.2
    .exact Zc (Vf h.1) (VO h1)
  . obtain⟨i,j,s,YA,YB⟩:=y;rw[YA,YB];have PZ:((Zd:Zw)+1).toNat=Zd+1:=by exact cY 0x1b8383483a61 [_]
    rw[PZ];have Q:=(iW rs d (Zd+1)).t1;generalize(cN rs d (Zd+1))=st at q Q;have gt:Y8 ZbD i Zcd t=some (.list (ah TC)):=cB (aa ..) (by rw[ag s];exact j);have C:∀a o,E a=Zai->Y8 ZbD i Zcd a=Zai/\a∉([]:J (Y_×J MV)).map (·.1):=λa o e=>⟨cB (cB e V) (by rw[ag s];exact j),YJ⟩;generalize Y8 ZbD i Zcd=P5 at gt C;refine ZJ (Q0 (EV.fz (EV.EJ (EB.JE r rfl (lO gt) ⟨λh1=>YU (UA (Zu (Wc (Zu (Wc (Y6 ⟨by decide,Z4 rfl ⟨.lst (ah [("*** \n"),"--- \n"]++ah TC),gA (aF ..) (dg gt) ?_,[],E,_,λP0 hp=>(nomatch hp),C,λP2 O=>.refl _,?_⟩⟩)))))),λh1=>UA (Y6 ⟨by decide,[],E,_,λP0 hp=>(nomatch hp),C,λP2 O=>.refl _,?_⟩)⟩))));.show 2+(ah TC).length<=_;rw[az,af];(exact cF 0x3ffcbe017e5e3cca0e1c041 [5,10000,2,16777216] [_,_,_] [] Q w)
    . have:TC≠[]:=by intro e;rw[e]at h1;cases h1
      rw[ZY this]at q;exact q
    . have:TC=[]:=by cases e:TC with|Yk=>rfl|Zp x P6=>rw[e]at h1;cases h1
      rw[ZT this]at q;exact q
def fy(k i:U):V4:=((bI (cy k))[i]?).getD (.Pass default)
def xf(q:Z)(st:V4)(pm cd Ww d k:ZP):C':={t6 st pm cd Ww d k with qualname:=q}
structure vo(X:Cx)(fa:Y_)(q:Z)(st:V4)(pm cd Ww d k:ZP):Prop where
 get:Yz fa=some {Uc:=Zap,Xg:=.func (xf q st pm cd Ww d k)}
 nt:fa≠t7
 rX:G' cd q
 nc:cd≠.ref t7
theorem vo.call(F:vo a fa q Nw pm cd Ww d k)(b:V3 a)(rm:Rm a i n)(WE:J Z)(j:∀c:Zc7,YZ=S8->S7 ZcI ⟨c,[]⟩=Ye (WQ c))(hn:Sx)(l:x_=S8)(m:∀e,∀x∈WE,(bu Nw).names.lookup x=some .local\/((bu Nw).names.lookup x=Zbm/\((C_ (e+1) (bu Nw).names []).lookup x).isSome=true))(h:∀e,let YX:=W7 ZcI e fa;EF a (i.deeper YX) YX (Yj (bI Nw) YX) (WQ f) r (qI g))(o:Z3 ((bu Nw).isCoroutine=false) aR)(p:Z3 ((bu Nw).isGenerator=false) aR)(s:Z3 ((bu Nw).kind=.function) aR):b9 a i ZaA f r g:=b9.body b WE F.get F.nt rfl F.rX F.nc rfl rfl rfl rfl j hn l m w2 h o p s
structure Bu(X:Cx)(fa:Y_)(q:Z)(st:V4)(pm cd Ww d k:ZP)(an:Zs Y_):Prop where
 get:Yz fa=some {Uc:=Zap,Xg:=.func {xf q st pm cd Ww d k with annotations:=an}}
 nt:fa≠t7
 rX:G' cd q
 nc:cd≠.ref t7
theorem Bu.call(F:Bu a fa q Nw pm cd Ww d k an)(b:V3 a)(rm:Rm a i n)(WE:J Z)(j:∀c:Zc7,YZ=S8->S7 {xf q Nw pm cd Ww d k with annotations:=an} ⟨c,[]⟩=Ye (WQ c))(hn:Sx)(l:x_=S8)(m:∀e,∀x∈WE,(bu Nw).names.lookup x=some .local\/((bu Nw).names.lookup x=Zbm/\((C_ (e+1) (bu Nw).names []).lookup x).isSome=true))(h:∀e,let YX:=W7 ZcI e fa;EF a (i.deeper YX) YX (Yj (bI Nw) YX) (WQ f) r (qI g))(o:Z3 ((bu Nw).isCoroutine=false) aR)(p:Z3 ((bu Nw).isGenerator=false) aR)(s:Z3 ((bu Nw).kind=.function) aR):b9 a i ZaA f r g:=b9.body b WE F.get F.nt rfl F.rX F.nc rfl rfl rfl rfl j hn l m w2 h o p s
theorem IY(h:D .next o E)(c:Z3 (gu A=false) aR)(hs:Z3 (Oc (.Constant (.str x) k Np) none LV A=Ye false) aR):EF X m A (TP (.Expr (.Constant (.str x) k Np) Yl) A) o E D:=λj s S=>wpAny_Expr ((Wc (g:=λb G=>b=.str x/\G=E) ⟨rfl,rfl⟩).use S λd l n b e a r f i=>by
  obtain⟨rfl,rfl⟩:=i;obtain⟨t,YA⟩:=u0;rw[YA];exact⟨d,.next,o,e,a,rfl,f,h⟩) c hs
theorem n4(ht:xa Za'=Ye Zas)(hs:Manifest.isStub T=false)(e:findCls [] Za' Zas name=some (.val a))(hh:handedIn a=true)(h:c (a,[]) {G with Wf:=Wv+1}):ZU YH m (Ob (.type T) name f) c i G:=by
 have k:Frag.In [] YI:=λO O e=>by exact ax e
 have d:opaqueClassAbove Za'=Ye none:=by unfold opaqueClassAbove;dsimp only;rw[hs];rfl
 have b:V6 YH YI (xa (.type T)) Zas:=S3 ht;refine Z7 (Z7 (b.here ((kk k type_tga).here ?_)));refine Z7 (ZS ?_ (λO O z=>Z5 z) λO O z=>z);exact cls_open k (S3 d) b type_tga (looks_hook k (by rfl)) (by show subIn [] _ _=_;rfl) e (Z5 (by show ZU _ _ (handedOut a) _ _ _;rw[handedOut_of hh];exact Z5 h))
theorem ty_tuple:xa Zac=Ye Zas:=by kernel_rfl
theorem vG:Manifest.isStub "tuple"=false:=by decide+kernel
theorem n8:findCls [] Zac Zas "__new__"=some (.val (.builtin "tuple.__new__")):=by kernel_rfl
theorem yT:handedIn Zcw=true:=by kernel_rfl
theorem EV.Bc(b:Zcc)(t:Zan)(j:XX "tuple"=Zaa)(hn:V0 "tuple"=none)(hv:Va "tuple"=some Zac)(h:EA X m A [Ng,Nn] o E λd w=>∃i,d=[Zay,.tup i]/\Xw<=ZK/\g (.seq (.ref z) i) w)(l:Z3 (Zr [Ng,Nn] A=(false,ZaE)::Zr [Nn] A) aR)(hp:Z3 (∀N1,(UJ N1 (Zr [Nn] A)).any (·.1)=false) aI)(he:Z3 (ZG (.Call Zc2 [Ng,Nn] [] N1) A=(do
   let e<-ZG (.Name "tuple" Np) A
   VV Ny.atName let(f,first)<-T' [e] (Ob e "__new__" Nz)
   OS N1 f first (UJ N1 (Zr [Ng,Nn] A)) [])) aR):EV X m A (ZG (.Call Zc2 [Ng,Nn] [] N1) A) o E g:=λT V n=>by
 walk_at"a";refine OP (pl:=Nz) ?_ he;walk_at"a";refine(p_ (g:=λq w=>q=.raw Zac/\w=E) b j hn hv ⟨rfl,rfl⟩).use n λPM PN PR mv PS u r y B=>?_;obtain⟨rfl,rfl⟩:=B;rw[Vh];refine n4 (T:="tuple") (name:="__new__") (a:=Zcw) (f:=Nz) ty_tuple vG n8 yT ?_;refine hL ((h N1).use (y.toks _) λC s PT d G D F S k=>?_) l (hp N1);obtain⟨i,rfl,I,k⟩:=k;obtain⟨v1,_,YA,M,v2,_,YB,r2,YC⟩:=F;rw[YA,YB,YC];rw[M.raw];obtain⟨a,x,PW,YA,p,rl⟩:=r2.seq;rw[YA];refine Wa (yF t (t.at_ iw) (Yd _ _ p) rfl rfl (by rw[W0];exact I) λc OQ=>?_);have N:ak X C A o G {s with X_:=c.push {Uc:=Zaf,Xg:=.dict #[]}}:=RH λa Q Ng=>ZC _ (OQ a Q Ng);have e1:(c.push {Uc:=Zaf,Xg:=.dict #[]}).objs.size=c.objs.size+1:=Kb ..;refine⟨_,.seq Zay i,G,(u.trans D).trans Tx,?_,(N.Aj (X8 (.ref z) x c.objs.size)),k⟩;exact⟨_,x,_,rfl,.inr ⟨e1.symm,rfl⟩,ew Tx⟩
theorem b9.Fz(t:Zan)(rm:Rm X m (n+1))(h:∀A,Rm X A n->b9 X A ZbX (.ref z::f) E λb w=>(∃i,b=.seq Zay i)/\l b w):b9 X m Zay f E l:=λe s c d r=>by
 walk_at"k";refine tX t (t.at_ d) (V' (h _ (rm.make c) e _ (.ref z::c) (d.toks _) (.cons (aE ..) r)) λu y q=>?_);walk_at"b";obtain⟨B,g,mv,w,rfl,a,j,S,⟨i,rfl⟩,k⟩:=q;obtain⟨x,o,n,rfl,p,rl⟩:=j.seq;refine⟨x,_,rfl,Dp _ _ p,rfl,t.at_ S,?_⟩;refine⟨_,g,.seq Zay i,w,rfl,a,?_,S,k⟩;exact⟨x,o,n,rfl,p,rl⟩
theorem EV.Ey(b:Zcc)(t:Zan)(j:XX f=Zaa)(hv:V0 f=some Zay)(h:EA X m A (c::d) o E λe w=>b9 X m Zay e w l)(n:Z3 ((f==("__debug__"))=false) aD)(he:Z3 (gH A c d) aR)(hp:Z3 ((UJ Yl (Zr d A)).any (·.1)=false) aR):EV X m A (ZG (.Call (.Name f F) (c::d) [] Yl) A) o E l:=λC s p=>by
 walk_at"a";refine sL ?_ rfl;walk_at"a";refine(mi (g:=λu w=>u=.raw Zay/\w=E) b j hv ⟨rfl,rfl⟩ n).use p λD I M mv G a r S k=>?_;obtain⟨rfl,rfl⟩:=k;rw[Vh];refine callWith_K (first:=[]) (t.at_ iw) t.keep ((h Yl).use S λN Q T e V x y i B=>⟨t.at_ i.g,?_⟩) he hp;exact ZS (B.ev i y) (λO O q=>l' (Xb x)) λO O q=>q
def vv(h:D')(a:Y_)(i:Ud ZP):Prop:=∃o,Vq a=Zai/\∃n,L3=.seq i n
theorem vv.keep(x:vv h a i)(k:∀o,Vq a=Zai->b.get? a=Zai):vv b a i:=SA x λo Yw=>Ug Yw λe r=>⟨o,k o e,r⟩
theorem Dv(c:od it a i)(ht:vv YI a f)(hx:f[i]?=Zak)(e:∀d,d.IsTupleIter it a (i+1)->Xo it YI d->k Zak {G with X_:=d}):ZU YH m ZaS k n G:=by
 obtain⟨o,b,g,hd⟩:=id c;obtain⟨ol,j,nl,l⟩:=ht;refine Z7 (Vg (XG c.typeIs Tj (X7 Tj c.typeIs d' ?_ (e_ _))));walk_at"c";show ZU _ _ (field ZbW 0>>=_) _ _ G;refine Z7 (OI b hd (x:=Zag) rfl ?_);show ZU _ _ (field ZbW 1>>=_) _ _ G;refine Z7 (OI b hd (x:=.int i 0) rfl ?_);show ZU _ _ (M_ Zag>>=_) _ _ G;refine Z7 (VI j l ?_);simp only[j',hx];refine Z7 (Ul b hd (by simp) (Z5 ⟨x,rfl,Z5 (e _ ?_ (Y' ..))⟩));exact⟨_,YR _ b (Obj.isFreed_of_fields (Obj.data_mapFields hd _)),(Obj.cls_mapFields ..).trans g,by rw[Obj.data_mapFields hd];simp[VY]⟩
theorem F6(hh:XW=none)(a:od it b i)(ht:vv YI b f)(hx:f[i]?=none)(e:∀d,Tq it YI d->k none {G with X_:=d}):ZU YH m ZaS k l G:=by
 obtain⟨o,c,n,hd⟩:=id a;obtain⟨ol,g,nl,j⟩:=ht;refine Z7 (Vg (XG a.typeIs Tj (X7 Tj a.typeIs d' ?_ (e_ _))));walk_at"c";show ZU _ _ (field ZbW 0>>=_) _ _ G;refine Z7 (OI c hd (x:=ZaP) rfl ?_);show ZU _ _ (field ZbW 1>>=_) _ _ G;refine Z7 (OI c hd rfl ?_);show ZU _ _ (M_ ZaP>>=_) _ _ G;refine Z7 (VI g j ?_);simp only[j',hx];refine Z7 (Vy (Z7 (Ul c hd (Te _) ?_)));walk_at"h";show ZU _ _ (newExc ZbF []>>=_) _ _ _;refine Z7 ?_;refine Z7 (Ym ?_ (by size_fits));walk_at"h";refine Z7 (VJ (a:=U9) (by first|rfl|(simp only[sl];rfl)) ?_);refine Ym ?_ (by size_fits);refine Z7 (pz ?_);first|rw[show px=none from hh]|rw[hh]
 refine Z7 (Z5 (gm ?_));refine Z7 (Up ⟨_,ZL _ rfl,rfl⟩ I_ ?_);exact Z5 (e _ (((Y' ..).extBut.push _).push _))
theorem Ee(p:b≠it):∀(n i:U)(G:Za)(Q:Zc7->Za->Prop),od it b i->vv YI b a->i+n<=T9->(∀c,c.IsTupleIter it b (i+n)->Xo it YI c->Q ((a.toList.drop i).take n) {G with X_:=c})->ZU YH m (draw (.ref it) n) Q k G:=by
 intro I;induction I with
 |V1=>
  intro i G Q d _ _ f;show ZU _ _ (Ye []) Q k G;exact Z5 (by simpa using f YI d (R8 ..))|VF n q=>
  intro i G Q d ht g f;have j:i<T9:=by exact GK g
  show ZU _ _ (VP ZbW>>=_) Q k G;refine Z7 (Dv d ht (x:=a[i]) (by simp[j]) λw r l=>?_);refine Z7 (ZF (q (i+1) _ _ r (ht.keep λo e=>l.extBut _ _ p e) (GS g) λs t u=>Z5 ?_));have hd:a.toList.drop i=a[i]::a.toList.drop (i+1):=by simp[Xz,j]
  have:=f s (by rw[show i+(n+1)=i+1+n by(exact E3)];exact t) (l.trans u);rw[hd,List.take_succ_cons]at this;exact this
theorem D0:OJ "tuple.__iter__"=some .slot:=by decide+kernel
theorem AX:splitId "tuple.__iter__"=some ("tuple","__iter__"):=by decide+kernel
theorem bN.special(t:Zan)(k:pj h)(a:Vq x=Zaq)(c:b.cls=Zay)(d:findIn NQ Zay name=some Zb2):V6 YH h (q_ (.ref x) name) Zb2/\V6 YH h (isInstance (.ref x) (.type "tuple")) true:=by
 walk_at"g";have t1:V6 YH h (xa (.ref x)) Zay:=(I2 a).andThen (by rw[c];exact .now);obtain⟨o,g,cd,s,f,e1,e2,e,i,j⟩:=t.obj;exact⟨t1.andThen (kk k d),t1.andThen (f_ k (by unfold mroIn clsIn;rw[f];simp[e]))⟩
theorem uf(t:Zan)(k:pj YI)(g:ZH x=ZbI)(j:i.cls=Zay)(l:a ZaB {G with X_:=Zm {Uc:=ZbP,Xg:=.fields #[ZaI,.int 0 0]}}):ZU YH m (h6 (.ref x)) a b G:=by
 obtain⟨e,n⟩:=hK k g j t.iter;refine Z7 (e.here ?_);show ZU YH m (callSpecialIfBoundUnlessNone? ZaI "__iter__" _>>=_) a b G;refine Z7 ?_;walk_at"a";refine ZF (Z7 (Z7 (e.here ?_)));walk_at"a";refine Z7 (Uo (UW ?_));have c:∀A,U7 YH A (.call (.builtin "tuple.__iter__") ⟨[ZaI],[]⟩) (λr s=>r=.ok (.ret (.ref ZZ))/\s={G with X_:=Zm {Uc:=ZbP,Xg:=.fields #[ZaI,.int 0 0]}}) G:=λA=>by
  walk_at"k";refine Wp F.slot_tuple_iter.plain F.entry_tuple_iter (oi D0 AX n (F.args_tuple_iter_1 _) ?_);show ZU _ _ (do e4 (<-hI "tuple_iterator" [ZaI,VY 0])) _ _ G;exact Z7 (Ym (Z5 ⟨rfl,rfl⟩))
 have Ue:∀f Q,Q (some (.ref ZZ)) {G with X_:=Zm {Uc:=ZbP,Xg:=.fields #[ZaI,.int 0 0]}}->ZU YH m (if(Value.builtin "tuple.__iter__"==U9)=true then(f>>=λd=>Ye ZaD)else(VQ (.builtin "tuple.__iter__") [ZaI]>>=λd=>Ye ZaD)) Q b G:=λf Q q=>by exact Z7 (Wa (V' (c _) λr s h=>by rw[h.1,h.2];exact Z5 q))
 have last:ZU YH m (match(some (N' ZZ))with|some it=>(do match<-q_ it "__next__"with|none=>(do rule "iter.non-iterator";raiseError"TypeError"s!"iter() returned non-iterator of type '{<-typeNameOf it}'")|some _=>Ye it)|none=>Ye .none) a b {G with X_:=Zm {Uc:=ZbP,Xg:=.fields #[ZaI,.int 0 0]}}:=Z7 (VA ⟨_,ZL _ rfl,rfl⟩ F.slot_tuple_iterator_next.lookup (Z5 l));split;.exact Z7 (Z5 (Z5 (Ue _ _ last)))
 .exact wpAny_tryCatch (Z7 (Z5 (Z5 (Ue _ _ last))))
theorem lg(t:Zan)(hh:XW=none)(k:pj YI)(c:ZH x=Zax)(d:a.cls=Zay)(hd:a.data=.seq i n)(o:∀f,Tq ZZ YI f->q i.toList {G with X_:=f}):ZU YH m (unpackItems (.ref x) b_ none) q F G:=by
 have g:=Zb (XN c);have j:vv YI x i:=⟨a,c,n,hd⟩;obtain⟨p,_⟩:=hK k c d t.iter;refine Z7 ?_;walk_at"a";refine Z7 (p.here ?_);refine Z5 ?_;refine Z7 (ZF (uf t k c d ?_));walk_at"f";refine Z7 (ZF (Ee g b_ 0 _ _ ⟨_,ZL _ rfl,rfl,rfl⟩ (j.keep λa e=>ZC _ e) (cY 0x190c02d [_]) λy r l=>?_));have s:List.take b_ (List.drop 0 i.toList)=i.toList:=by rw[Ur];exact YQ (by simp)
 rw[s];rw[ZY (by simp)];walk_at"f";refine Z7 (ZF (F6 hh r ((j.keep λa e=>ZC _ e).keep λa e=>l.extBut _ _ g e) (by simp) λu w=>?_));exact Z5 (o u λb a hb e=>w b a hb (l.extBut b a hb (ZC _ e)))
theorem TG.LU(t:Zan)(hh:XW=none)(c:∀x∈NB,aM A x.1)(hl:rd=Zv):TG X m cu A Zc' (.seq (.ref z) b) (λo=>dW o (Vo (·.1)) b):=λf o G s i S r=>by
 obtain⟨a,j,n,YA,p,rl⟩:=aw.seq r;rw[YA];show ZU _ _ (do VV Yl;unpack Zag (Kc (Vo nm) A)) _ _ _;refine Z7 (Yo ?_);unfold unpack;rw[ey];have d:(Vo (Jl A)).findIdx? (·.1)=none:=by rw[Td];intro x hx;obtain⟨y,_,rfl⟩:=Zl hx;rfl
 rw[d,Z2,hl,<-W0];refine Z7 (ZF (lg t hh (t.at_ iw) (Yd _ _ p) rfl rfl λe he=>?_));have:=jM (m:=m) hl c (RH (C:={s with X_:=e}) (ku he)) rl;rw[Xn];exact this
theorem TG.A8(t:Zan)(hh:XW=none)(hx:Zc5)(hy:aM A b)(c:aM A a):TG X m cu A (.Tuple [.Name x d,.Name b q,.Name a r] k Yl) (.seq Zay [f,i,l]) (λo=>aJ a l (aJ b i (aJ x f o))):=TG.LU t hh (NB:=[(x,d),(b,q),(a,r)]) (by intro a c;simp only[XS,YJ,Vw]at c;rcases c with rfl|rfl|rfl<;>assumption) rfl
theorem bq.Fv(h:TG X m cu A b c f)(k:Pb (f o) E):bq X m A b c o E Pb:=λa s d S r=>ZS (h a o E s d S r) (λO g e=>⟨a,f o,E,Zc9,e,k⟩) λO O q=>q
theorem C3:OJ "tuple.__len__"=some .slot:=by decide+kernel
theorem Cz:splitId "tuple.__len__"=some ("tuple","__len__"):=by decide+kernel
theorem CF(c:ZH a=Zaq)(hd:b.data=.seq f n)(h:i (.done (.ret (.int f.size Wv))) {G with Wf:=Wv+1}):ZU YH m (Builtin.«tuple.__len__» ⟨[Zag],[]⟩) i k G:=by
 obtain⟨hh,g,d,t,os⟩:=G;walk_at"f";obtain⟨o,e,j,s⟩:=b;dsimp only at c hd;subst hd;repeat lk
 exact h
theorem CG(t:Zan)(hn:Zv<=ZK)(S:Zab)(r:aw y (.seq (.ref z) b) f)(k:i (.int Zv) E):ZU YH m (VQ Zaz [f]) (PV X A y o i) bz G:=by
 walk_at"a";obtain⟨a,c,n,YA,p,rl⟩:=l_;rw[YA];have d:=Yd _ _ p;obtain⟨j,l⟩:=hK (t.at_ iw) d rfl t.len;refine Calls.call_function_entry kind_len plain_len entry_len (args_len1 _) ?_;walk_at"a";refine Z7 (Z5 ?_);have e:=W0;refine Z7 ?_;refine Z7 (j.here ?_);refine ZF (Z7 (Z5 (Z7 (Wa (Wp F.slot_tuple_len.plain F.entry_tuple_len (oi C3 Cz l (F.args_tuple_len_1 _) ?_))))));refine CF d rfl ?_;refine Z5 ?_;have e2:¬((K1:Zw)>=2^63):=by rw[e];have:=af;exact Lw this hn
 refine Z7 (ZF (Z5 ?_));refine Z7 (sk ?_);show ZU _ _ (if(K1:Zw)>=2^63 then _ else _) _ _ _;rw[ZY e2];refine Z7 (wpAny_mkInt (Z5 ⟨_,rfl,?_⟩));exact⟨y,.int Zv,E,Zbs,by rw[e];exact a0 ..,(G1 _).toks _,k⟩
structure d5(X:Cx)(b:Zcc)where
 K:Frag
 C:Y_
 p:Y_
 fn:Y_
 q:Y_
 fm:Y_
 t:bN X K C p fn
 gl:V0 ("Match")=some Zbq
 pm:ZP
 cd:ZP
 Ww:ZP
 Ms:ZP
 yN:ZP
 IS:ZP
 new:vo X fn "Match.__new__" (fy 3 4) pm cd Ww .none .none
 Mr:Zs Y_
 make:Bu X fm "Match._make" (fy 3 5) Ms yN IS .none .none Mr
 tup:V0 ("tuple")=none/\Va ("tuple")=some Zac
 uF:findCls K Zbq Zas "_make"=some (.get (.builtin "classmethod.__get__") (.ref q) .none (.ref C))
 cm:recIn K q "classmethod"=some [.ref fm,.bool false]
 Gx:fnIn K fm=true
variable{NC:Zcc}
abbrev d5.mv(D:d5 X NC)(i j k:Zw):MV:=.seq (.ref vs) [ZaN,Zb5,Za0]
theorem jT(a b c:MV):[a,b,c].length<=ZK:=by simp[af]
theorem CC(D:d5 X b)(hb:ZcX)(rm:Rm X m (n+1))(c:g (D.mv i d k) E):b9 X m (.ref D.fn) [.ref vs,ZaN,.int d,Za0] E λa w=>(∃e,a=.seq (.ref vs) e)/\g a w:=by
 walk_at"aq";refine D.new.call b rm ["_cls","a","b","size"] (LO λO O O O=>rfl) Z' rfl ZbM λj=>?_;intro YX;have hg:∀f,[].contains f=true->Yg f=Zaa:=e7 rfl;have r:=WJ YX;refine ZJ (IY ?_);refine ZJ (Q0 (EV.Bc b D.t rfl D.tup.1 D.tup.2 ?_));walk_at"B";refine Zu (XZ b hb r hg (mv:=.ref vs) ?_ ?_);.kernel_rfl!
 refine Zu (XZ b hb r hg ?_ (Y6 ⟨_,rfl,jT ..,⟨_,rfl⟩,c⟩));kernel_rfl!
theorem vz(D:d5 X b)(hb:ZcX)(rm:Rm X m (n+2))(a:c (D.mv i d k) E):b9 X m (.ref vs) [ZaN,.int d,Za0] E c:=b9.Fz D.t (n:=n+1) rm λA r=>CC D hb (n:=n) r a
theorem yu(D:d5 X b)(hb:ZcX)(rm:Rm X m (n+1))(d:l (D.mv i a k) E):b9 X m (.ref D.fm) [.ref vs,.tup [ZaN,ZbQ,Za0]] E l:=by
 walk_at"C";refine D.make.call b rm ["cls","iterable"] (ym λO O=>rfl) Z' rfl ZbM λg=>?_;intro YX;have hg:∀f,[].contains f=true->Yg f=Zaa:=e7 rfl;have r:=WJ YX;refine ZJ (IY ?_);refine ZJ (Zk (EV.Bc b D.t rfl D.tup.1 D.tup.2 ?_) (.inl rfl));walk_at"B";refine Zu (XZ b hb r hg (mv:=.ref vs) ?_ ?_);.kernel_rfl!
 refine Zu (XZ b hb r hg (mv:=.tup [ZaN,ZbQ,Za0]) ?_ (Y6 ⟨_,rfl,jT ..,?_⟩));.kernel_rfl!
 walk_at"ar";have c:=hb "len" Zaz (by rfl);refine ZJ (XD (XA r (b3 b rfl c.1 c.2 (.inl ⟨_,rfl⟩) (Zu (Z4 rfl (Y6 λj s o S e=>?_))))));walk_at"a";obtain⟨p,YA,q⟩:=ao.u e;rw[YA];refine CG D.t (jT ..) S q (X2 ⟨false,rfl,(λh=>by cases h),λO=>YV ?_⟩);exact ZJ (Q0 (Z4 rfl d))
inductive HB(X:Cx)(A:XY)(YX:SM)(t:Wy)(W9:J V4)(l:YS)(K:y_->YS->GH->Prop)(m:MV)(d:GH):Prop where|mk(I:U->YS->GH->Prop)(a:Y_)(b:ZaV)(c:YS)(e:m=Zag)(i:∀k l G,I k l G->G a=Zbx)(j:I 0 c d)(s:Od c l)(UB:∀k m l G,b[k]?=Zcg->I k l G->bq X A YX t m l G λf g=>EF X A YX Zct f g (Es (I (k+1)) K))(Ue:∀l G,I Zv l G->K .next l G)
theorem EF.Hb(hh:XW=none)(h:EV X m A ZaZ o E (HB X m A u W9 o D))(hs:Z3 (∀x,ZbT=Ye x) aI):EF X m A Zbh o E D:=λc s w=>by
  walk_at"a";refine q' (W1 w λN y Q j G z r d B=>?_) hs;walk_at"a";obtain⟨I,a,p,l,rfl,e,q,C,UB,Ue⟩:=B;rw[Vh];obtain⟨t,n,ga,rl⟩:=d.g.objs _ _ (e _ _ _ q);refine TL (aq ga) ?_;refine uj I (n:=z_) (λk c o E s=>nM X A p a y.heap.objs.size k c o E s) (λk c o E s F i h b R M f=>?_) (λc o E s i h b R M f=>?_) z ⟨(d.push (xI a 0)).forget C,⟨_,ZL _ rfl,rfl,rfl⟩,d.AJ (ZV _)⟩ q;.obtain⟨t,n,ga,rl⟩:=v' _ _ (e _ _ _ b);exact pN i h (aq ga) rl (λj hm=>UB k j o E hm b) F (λT V PM PN PR PS O O O h=>h) f
  .obtain⟨t,n,ga,rl⟩:=v' _ _ (e _ _ _ b);exact pG hh i h (aq ga) rl (Ue o E b) f
structure nN(X:Cx)(d:Y_)(i:Zc7):Prop where
 get:∃n,Yz d=some {Uc:=Zac,Xg:=.seq i.toArray n}
 nt:d≠t7
theorem Cu(D:nN X d i)(hd:f.defaults=ZaO)(h:∀y a k,ao y l a->ao y q k->∃c b,S7 f ⟨a,u.zip k⟩=M_ f.defaults>>=c/\c (some i.toArray)=Ye (WQ b)/\ao y x b):JN X m f l u q E WE x:=λy s a k S r e=>by
 walk_at"a";obtain⟨c,b,e1,e2,j⟩:=h y a k r e;obtain⟨n,g⟩:=D.get;rw[e1,hd];refine Z7 (VI (Tu _ _ g D.nt) rfl ?_);rw[e2];exact Z5 ⟨y,b,Zbs,S,rfl,j⟩
def Hc:{k:C'->J ZP->Zs (Ud ZP)->p' (J (Z×ZP))//∀f a,S7 f ⟨a,[]⟩=M_ f.defaults>>=k f a}:=⟨_,λ_ _=>rfl⟩
variable{PJ:Zc7}
theorem xc(a:Zc7)(e:Hc.1 f b i=Ye (t.zip a))(r:ao y c a):∃k a,S7 f ⟨b,([]:J Z).zip PJ⟩=M_ f.defaults>>=k/\k i=Ye (t.zip a)/\ao y c a:=⟨_,a,Hc.2 f b,e,r⟩
theorem xy(D:nN X d i)(h:∀(pm cd Ww:ZP)(d:Y_)y a k,ao y f a->ao y l k->∃b c,S7 (xf q Nw pm cd Ww (.ref d) n) ⟨a,r.zip k⟩=M_ ZaO>>=b/\b (some i.toArray)=Ye (WQ c)/\ao y s c):JN X m (xf q Nw pm cd Ww (.ref d) n) f r l E WE s:=Cu D rfl (h _ _ _ _)
theorem vo.E8(F:vo X fa q Nw pm cd Ww ZaO k)(D:nN X d i)(b:Zcc)(rm:Za2)(WE:J Z)(l:∀(pm cd Ww:ZP)(d:Y_)y c f,ao y r c->ao y s f->∃e j,S7 (xf q Nw pm cd Ww (.ref d) k) ⟨c,u.zip f⟩=M_ ZaO>>=e/\e (some i.toArray)=Ye (WQ j)/\ao y M j)(hn:Sx)(o:∀a,∀x∈WE,(bu Nw).names.lookup x=some .local\/((bu Nw).names.lookup x=Zbm/\((C_ (a+1) (bu Nw).names []).lookup x).isSome=true))(h:∀a,let A:=W7 (xf q Nw pm cd Ww (.ref d) k) a fa;EF X (Sg A) A (Yj (bI Nw) A) (WQ M) E (qI g))(p:Z3 ((bu Nw).isCoroutine=false) aR)(t:Z3 ((bu Nw).isGenerator=false) aR)(w:Z3 ((bu Nw).kind=.function) aR):iE X m ZaA r u s E g:=iE.body b WE F.get F.nt rfl F.rX F.nc rfl rfl rfl rfl (xy D l) hn o w2 h p t w
theorem EF.back(h:EF X m A c o E λb NF w=>Wz E w/\D b NF E):EF X m A c o E D:=λd s S=>ZS (h d s S) (λf j q=>by
  obtain⟨g,b,NF,w,a,r,i,e,k⟩:=q;exact⟨g,b,NF,E,a,r,w1 e,k⟩) λO O q=>q
structure il(st:V4)(q name:Z)(d:ZP)(mN:Z->Zs ZP)(X:Cx)where
 f:Y_
 pm:ZP
 cd:ZP
 Ww:ZP
 get:mN name=some Zb9
 fn:vo X f q st pm cd Ww d .none
structure hF(X:Cx)(b:Zcc)where
 C:Y_
 N:Y_
 mN:Z->Zs ZP
 c:xn X C N mN
 gl:V0 ("SequenceMatcher")=some Zbq
 no:∀x∈([("isjunk"),"a","b","autojunk","matching_blocks","opcodes","fullbcount","b2j","bjunk","bpopular"]:J Z),mN x=none
 dI:Y_
 dF:Y_
 dG:Y_
 t1:nj
 t2:nj
 t3:nj
 t4:nj
 t5:nj
 Ib:nN X dI [.none,.str "" t1,.str "" t2,.bool true]
 Iz:nN X dF [.int 0 t3,.none,.int 0 t4,.none]
 Ih:nN X dG [.int 3 t5]
 init:il (fy 5 1) "SequenceMatcher.__init__" "__init__" (.ref dI) mN X
 C5:il (fy 5 2) "SequenceMatcher.set_seqs" "set_seqs" .none mN X
 seq1:il (fy 5 3) "SequenceMatcher.set_seq1" "set_seq1" .none mN X
 DB:il (fy 5 4) "SequenceMatcher.set_seq2" "set_seq2" .none mN X
 chain:il (fy 5 5) "SequenceMatcher.__chain_b" "_SequenceMatcher__chain_b" .none mN X
 eZ:il (fy 5 6) "SequenceMatcher.find_longest_match" "find_longest_match" (.ref dF) mN X
 JC:il (fy 5 7) "SequenceMatcher.get_matching_blocks" "get_matching_blocks" .none mN X
 ops:il (fy 5 8) "SequenceMatcher.get_opcodes" "get_opcodes" .none mN X
 xt:il (fy 5 9) "SequenceMatcher.get_grouped_opcodes" "get_grouped_opcodes" (.ref dG) mN X
section
open PySem.Sem(wp)
theorem nU{α:Type}:∀(o:J α)(i:U)(h:i<j_),(o[i]::o.eraseIdx i).Perm o:=by
 intro o;induction o with|Yk=>exactλi h=>Zc h (SR _)|Zp x o a=>intro i h;cases i with|V1=>exact .refl _|VF i=>exact(List.Perm.swap ..).trans (.cons _ (a i (Nat.lt_of_succ_lt_succ h)))
theorem rG(a:n≠0)(h:∀i d,i<n->b i {G with drawn:=d}):ZU YH m (choose s n) b c G:=λe p f=>by exact⟨a,h _ _ (Nat.mod_lt _ (oL a))⟩
theorem zU:∀(n:U)(x:J U)(G:Za)(Q:J U->Za->Prop),ZO=n->(∀ys d,ys.Perm x->Q ys {G with drawn:=d})->ZU YH m (drawOrder n x) Q k G:=by
 intro I;induction I with
 |V1=>
  intro x G Q hn h;have:=Xl hn;subst this;exact Z5 (h [] G.drawn (.refl _))|VF n c=>
  intro e;cases e with
  |Yk=>
   intro G Q hn h;simp at hn|Zp b x=>
   intro G Q hn h;show ZU _ _ (choose .order (b::x).length>>=_) _ _ _;refine Z7 (rG (by simp) λi d a=>?_);rw[(Z6 a)];refine Z7 (c ((b::x).eraseIdx i) _ _ (by rw[List.length_eraseIdx_of_lt a];simp at hn⊢;exact aV 0x7f620ec41 [_,_] hn) λys f hp=>Z5 ?_);refine h _ f ((List.Perm.cons _ hp).trans ?_);exact(nU _ _ a)
theorem nI:OL f' "set.__iter__"=some Builtin.«frozenset.__iter__»:=sa (id':="frozenset.__iter__") Z9 rfl Z8 Z9
theorem bo:Slot "set_iterator" "__next__" "set_iterator.__next__":=.of (owner:="set_iterator") (n:="__next__") (by rw[W6,X'];kernel_rfl) Z8 Z8 Z8 (by first|exact .inl Z8|exact .inr Z8) (by rw[WS];kernel_rfl)
theorem de:OL f' "set_iterator.__next__"=some nf:=A' Z9
theorem dJ(a:ZP):S_ "set_iterator.__next__" ⟨[a],[]⟩:=by unfold S_;kernel_rfl
abbrev iy(f0:ZP)(i:U)(a:Y_)(n e:U):OD:={Uc:=.type "set_iterator",Xg:=.fields #[f0,.int i 0,Zag,.int n 0,.int e 0]}
structure iU(h:D')(a:Y_)(d:Ud (Zw×ZP))(e:U)(t:OK):Prop where
 at_:∃o,Vq a=Zai/\o.ExactSet/\L3=.set d e t
 fits:t.fits Yy=true
theorem iU.state{d b c}(x:iU h a d b c):V6 YH h (setState a) (d,b,c):=λA Q E s k q=>by
 obtain⟨o,e,_,hd⟩:=x.at_;exact kp (k _ _ e) hd x.fits q
theorem FA(f:U->U):∀(n k:U)(left:J α)(tk:Ud α),r3=n->((pickOrder.go f n k left tk).toList).Perm (out.toList++left):=by
 intro I;induction I with
 |V1=>
  intro k left tk h;have:=Xl h;rw[this];rw[Zn];exact .refl _|VF n b=>
  intro k left tk h;walk_at"as";have a:f k%r3<r3:=Nat.mod_lt _ (aV 0x1fd05bb83841 [_,_] h);rw[show pickOrder.go f (n+1) k left tk=_ from(rfl:_=(λo:Zs α=>match o with|some x=>pickOrder.go f n (k+1) (left.eraseIdx (f k%r3)) (out.push x)|none=>tk) left[f k%r3]?).trans (by rw[Z6 a])];refine(b (k+1) _ _ (by rw[List.length_eraseIdx_of_lt a];exact aV 0x7f628b83b83841 [_,_] h)).trans ?_;rw[Se,ZQ];exact List.Perm.append_left _ (nU _ _ a)
theorem qh(f:U->U)(x:Ud α):(hH f x).toList.Perm x.toList:=by
 unfold hH;have:=FA f x.size 0 x.toList #[] (rfl);simpa using this
theorem wi(b:ZH it=some (iy (.int j 0) i a n c))(S:iU YI a d c r)(hn:Yy=n)(f:V6 YH YI (j6 a j i c) (some (x,k)))(h:∀e,Xo it YI e->e.get? it=some (iy (.int k 0) (i+1) a n c)->q (.done (.ret x)) {G with X_:=e}):ZU YH m (nf ⟨[ZbW],[]⟩) q s G:=by
 have l:=d_ (X:=X);obtain⟨hh,o,p,t,os⟩:=G;dsimp only at b l f h;have u:V6 YH hh (setEntries a) d:=l.andThen .now;have e1:(Yy !=(n:Zw))=false:=by rw[hn];simp
 repeat lk
 walk_at"f";refine UW (T6 (by rw[e1];exact Yn) ?_);refine Z7 (f.at ?_);refine Z7 (Ul b rfl (Te _) ?_);have g:=YR (pa (·.setIfInBounds 0 (.int k 0))) b rfl;refine Z7 (Ul g rfl (by simp) ?_);exact Z5 (h _ ((Y' ..).trans (Y' ..)) (YR (pa (·.setIfInBounds 1 (.int (i+1) 0))) g rfl))
theorem zZ(hh:XW=none)(b:ZH it=some (iy (.int j 0) i a n c))(S:iU YI a d c q)(hn:Yy=n)(e:V6 YH YI (j6 a j i c) none)(h:∀f,Tq it YI f->l none {G with X_:=f}):ZU YH m ZaS l r G:=by
 have k:=d_ (X:=X);refine Z7 (Vg (XG ⟨_,b,rfl⟩ bo (X7 bo ⟨_,b,rfl⟩ de ?_ (dJ _))));walk_at"c";obtain⟨hp,g,o,t,os⟩:=G;dsimp only at b k e h;have p:ZcE:=k.andThen .now;have e1:(Yy !=(n:Zw))=false:=by rw[hn];simp
 repeat lk
 walk_at"o";refine UW (T6 (by rw[e1];exact Yn) ?_);refine Z7 (e.at ?_);refine Z7 (Ul b rfl (by simp) ?_);walk_at"h";show ZU _ _ (newExc ZbF []>>=_) _ _ _;refine Z7 ?_;refine Z7 (Ym ?_ (by size_fits));walk_at"h";refine Z7 (VJ (by first|rfl|(simp only[sl];rfl)) ?_);refine Ym ?_ (by size_fits);refine Z7 (pz ?_);first|rw[show px=none from hh]|rw[hh]
 refine Z7 (Z5 (gm ?_));refine Z7 (Up ⟨_,ZL _ rfl,rfl⟩ I_ ?_);exact Z5 (h _ (((Y' ..).extBut.push _).push _))
theorem vI(c:ZH it=some (iy (.int j 0) i a n f))(S:iU YI a d f q)(hn:Yy=n)(e:V6 YH YI (j6 a j i f) (some (x,k)))(h:∀b,Xo it YI b->b.get? it=some (iy (.int k 0) (i+1) a n f)->l Zak {G with X_:=b}):ZU YH m ZaS l r G:=by
 refine Z7 (Vg (XG ⟨_,c,rfl⟩ bo (X7 bo ⟨_,c,rfl⟩ de ?_ (dJ _))));exact wi c S hn e λb a1 a2=>⟨x,rfl,Z5 (h b a1 a2)⟩
abbrev s7(p:J U):OD:={Uc:=Zac,Xg:=.seq (p.map λ(i:U)=>VY i).toArray}
theorem EN(p:J U)(i:U):(p.map λ(i:U)=>VY i).toArray[i]?=(p[i]?).map λ(i:U)=>VY i:=by simp
theorem vH(b:ZH it=some (iy (.ref tp) i a n c))(o:ZH tp=some (s7 f))(S:iU YI a d c r)(hn:Yy=n)(hj:f[i]?=some k)(he:d[k]?=some l)(h:∀e,Xo it YI e->e.get? it=some (iy (.ref tp) (i+1) a n c)->q (some l.2) {G with X_:=e}):ZU YH m ZaS q s G:=by
 have j:=d_ (X:=X);refine Z7 (Vg (XG ⟨_,b,rfl⟩ bo (X7 bo ⟨_,b,rfl⟩ de ?_ (dJ _))));walk_at"c";obtain⟨hp,g,u,t,os⟩:=G;dsimp only at b j o h;have w:ZcE:=j.andThen .now;have e1:(Yy !=(n:Zw))=false:=by rw[hn];simp
 repeat lk
 walk_at"o";refine UW (T6 (by rw[e1];exact Yn) ?_);refine Z7 (VI o rfl ?_);have e2:(f.map λ(i:U)=>VY i).toArray[(i:Zw).toNat]?=_:=EN f i;rw[hj]at e2;dsimp only;rw[e2];show ZU _ _ (setNextDrawn a k c>>=_) _ _ _;have p:V6 YH hp (setNextDrawn a k c) l.2:=by
  refine j.andThen ?_;walk_at"at";dsimp only;rw[ZY (by simp),he];exact .now
 refine Z7 (p.at ?_);refine Z7 (Ul b rfl (by simp) ?_);exact Z5 ⟨l.2,rfl,Z5 (h _ (Y' ..) (YR (pa (·.setIfInBounds 1 (.int (i+1) 0))) b rfl))⟩
theorem zj(hh:XW=none)(b:ZH it=some (iy (.ref tp) i a n k))(e:ZH tp=some (s7 c))(S:iU YI a d k q)(hn:Yy=n)(hj:c[i]?=none)(h:∀f,Tq it YI f->l none {G with X_:=f}):ZU YH m ZaS l r G:=by
 have j:=d_ (X:=X);refine Z7 (Vg (XG ⟨_,b,rfl⟩ bo (X7 bo ⟨_,b,rfl⟩ de ?_ (dJ _))));walk_at"c";obtain⟨hp,g,o,t,os⟩:=G;dsimp only at b j e h;have p:ZcE:=j.andThen .now;have e1:(Yy !=(n:Zw))=false:=by rw[hn];simp
 repeat lk
 walk_at"o";refine UW (T6 (by rw[e1];exact Yn) ?_);refine Z7 (VI e rfl ?_);have e2:(c.map λ(i:U)=>VY i).toArray[(i:Zw).toNat]?=_:=EN c i;rw[hj]at e2;dsimp only;rw[e2];show ZU _ _ (setField ZbW 0 (VY 0)>>=_) _ _ _;refine Z7 (Ul b rfl (Te _) ?_);refine Z7 (Ul (YR (pa (·.setIfInBounds 0 (VY 0))) b rfl) rfl (by simp) ?_);walk_at"h";show ZU _ _ (newExc ZbF []>>=_) _ _ _;refine Z7 ?_;refine Z7 (Ym ?_ (by size_fits));walk_at"h";refine Z7 (VJ (by first|rfl|(simp only[sl];rfl)) ?_);refine Ym ?_ (by size_fits);refine Z7 (pz ?_);first|rw[show px=none from hh]|rw[hh]
 refine Z7 (Z5 (gm ?_));refine Z7 (Up ⟨_,ZL _ rfl,rfl⟩ I_ ?_);exact Z5 (h _ ((((Y' ..).trans (Y' ..)).extBut.push _).push _))
end
set_option genCtorIdx false in inductive pB where|int(Oh:U->U)|dr(tp:Y_)(p:J U)
def pB.ctorIdx(x:pB):U:=x.casesOn (λO=>0) λO O=>1
def pB.f0:pB->U->ZP|.int Oh,i=>.int (Oh i) 0|.dr tp _,_=>.ref tp
structure wC(X:Cx)(a:Y_)(d:Ud (Zw×ZP))(b:U)(t:OK)(m:pB)(o:J (Zw×ZP)):Prop where
 perm:o.Perm d.toList
 run:match m with|.int Oh=>∀h,iU h a d b t->(∀(i:U)(e:Zw×ZP),o[i]?=Zb6->V6 YH h (j6 a (Oh i) i b) (some (e.2,Oh (i+1))))/\V6 YH h (j6 a (Oh Yy) Yy b) none|.dr _ p=>z_=Yy/\∀(i j:U),p[i]?=Zb'->∃e,d[j]?=Zb6/\o[i]?=some e
theorem fu(h:D'):V6 YH h setsByText (d8 X):=λA Q E s k q=>by
 unfold setsByText;exact Z7 (Uo (Z5 q))
theorem A9(hb:d8 X=true):wC X a d b l (.int λO=>0) (hH (Ot a b) d).toList:=by
  refine⟨qh _ _,λh S=>?_⟩;have c:=d_ (X:=X);have y':∀i,V6 YH h (j6 a 0 i b) (((hH (Ot a b) d)[i]?).map λe=>(e.2,0)):=λi A Q E s k q=>by
    refine Z7 ((c.keeps k).here ?_);refine Z7 ((fu _).here ?_);rw[hb,ZT rfl,ZY (by simp)];refine Z7 ?_;refine Z7 ((c.keeps k).here ?_);refine Z7 ((fu _).here ?_);walk_at"a";rw[hb];exact Z7 (Uo (Z5 (Z5 q)))
  refine⟨λi e he=>?_,?_⟩;.have:=y' i;rw[TM]at he;rw[he]at this;exact this
  . have:=y' Yy;have f:(hH (Ot a b) d).size=Yy:=by
      have:=(qh (Ot a b) d).length_eq;simpa using this
    rw[T4 (GX f)]at this;exact this
theorem Ek(hb:d8 X=false)(f:Yy<=1)(hl:b.led=true)(l:b.fits Yy=true):wC X a d n b (.int λi=>if i=0 then 0 else b.place.getD 0 0+1) d.toList:=by
  have m:b.place.size=Yy:=by simp only[SetTable.fits,YK,V7,XU]at l;exact l.1
  refine⟨.refl _,λh S=>?_⟩;have o:=d_ (X:=X);have y':∀Oh i,V6 YH h (j6 a Oh i n) (match d[Uk G3 Oh]?,G3[Uk G3 Oh]? with|some e,Zb'=>some (e.2,j+1)|_,_=>none):=λOh i A Q E s k q=>by
    refine Z7 ((o.keeps k).here ?_);refine Z7 ((fu _).here ?_);rw[hb,ZY Z'];show ZU _ _ (if(!b.plain&&decide (Yy>1))=true then _ else _) _ _ _;rw[ZY (by simp;omega)];show ZU _ _ ((if(!b.led&&!d.isEmpty)=true then _ else _)>>=_) _ _ _;rw[ZY (by simp[hl])];refine Z7 (Z5 ?_);refine Z5 ?_;cases h1:d[Uk G3 Oh]?<;>cases h2:G3[Uk G3 Oh]?<;>(rw[h1,h2]at q;exact q)
  refine⟨λi e he=>?_,?_⟩
  . have r:i=0/\Yy=1:=by
      have:=(ZN he).1;rw[Yv]at this;exact bw 0x7ffddb85b6872e16841 [_,_] this f
    obtain⟨rfl,h1⟩:=r;obtain⟨p,c⟩:∃q,G3=#[q]:=Array.size_eq_one_iff.mp (m.trans h1);have t:Uk G3 0=0:=by rw[c];rfl
    have:=y' 0 0;rw[t]at this;rw[TM]at he;rw[he,c]at this;rw[c];exact this
  . have:=y' (if Yy=0 then 0 else b.place.getD 0 0+1) Yy;have u:d[Uk G3 (if Yy=0 then 0 else b.place.getD 0 0+1)]?=none:=by
      by_cases g:Yy=0;.rw[T4];exact aV 0x7f220eda1 [_,_] g
      . obtain⟨p,c⟩:∃q,G3=#[q]:=Array.size_eq_one_iff.mp (fX 0xffffb7079b68b2e16c41 [_,_] m f g);rw[ZY g,c];have:Uk #[p] (Array.getD #[p] 0 0+1)=1:=by
          rw[show∀j,Uk #[p] j=if 0<1 then(if p<j then 1 else 0)else 0 fromλj=>by kernel_rfl,ZT Z'];exact ZT (Wr p)
        rw[this,T4];exact aV 0x7f2e0e5c1 [_] f
    rw[u]at this;exact this
theorem yn(hp:b.Perm (Zi Yy)):wC X a d f k (.dr tp b) (b.filterMap (d[.]?)):=by
  refine⟨(hp.filterMap _).trans ?_,by simpa using R_,λi j hj=>?_⟩
  . have y':∀n,n<=Yy->(Zi n).filterMap (d[.]?)=d.toList.take n:=by
      intro n;induction n with|V1=>intro O;rfl|VF n c=>
        intro h;rw[T1,U6,c (O7 h),X9];have:=XB (JD h);simp[this]
    have:=y' Yy (ZV _);rw[YQ (by simp)]at this;rw[this]
  . have h1:∀(b:J U),(∀j∈b,j<Yy)->∀(i j:U),b[i]?=Zb'->∃e,d[j]?=Zb6/\(b.filterMap (d[.]?))[i]?=Zb6:=by
      intro b;induction b with|Yk=>intro O i j h;simp at h|Zp q b c=>
        intro hl i j h;obtain⟨eq,hq⟩:∃x,d[q]?=Zak:=⟨_,XB (hl q Y5)⟩;rw[qn,hq];cases i with
        |V1=>simp at h;subst h;exact⟨eq,hq,rfl⟩|VF i=>exact c (λj hj=>hl j (ZX _ hj)) i j (by simpa using h)
    exact h1 b (λj hj=>WY (hp.mem_iff.mp hj):∀j∈b,j<Yy) i j hj
theorem vV(y:ZH a=some u)(E:m5 X i u)(z:∀(d:Ud (Zw×ZP))l c r S(PM:D')PR it,u.ExactSet->u.data=.set d l c->c.fits Yy=true->wC X a d l c r S->(∀b x,ZH b=Zak->PM.get? b=Zak)->ZZ<=it->PM.get? it=some (iy (r.f0 0) 0 a Yy l)->(∀tp p,r=.dr tp p->ZZ<=tp/\tp<it/\PM.get? tp=some (s7 p))->V ZbW {G with X_:=PM,drawn:=PR}):ZU YH m (h6 (.ref a)) V PN G:=by
  obtain⟨d,l,c,j,hd,PZ,A,g,P0,P2,P4⟩:=E;have I:iU YI a d l c:=⟨⟨u,y,j,hd⟩,g.1⟩;have B:br Zag "set":=⟨u,y,j.1⟩;have o:=I.state (X:=X);have N:Yy<=ZK:=by rw[af];unfold NO at A;exact a9 0x7f2f0e9e1 [4096,16777216] [_] [] A
  refine wpAny_pyIter_slot B F.slot_set_iter (X7 F.slot_set_iter B nI ?_ (F.args_set_iter_1 _));walk_at"a";have Q:(d8 X=true)\/(d8 X=false/\Yy<=1)\/(d8 X=false/\1<Yy/\c.plain=false):=by cases hb:d8 X with
    |false=>
      by_cases h1:Yy<=1;.exact .inr (.inl ⟨rfl,h1⟩)
      .exact .inr (.inr ⟨rfl,by exact aV 0xfe82ee65c1 [_] h1,g.2.2 (aV 0x1fe6da1e65c1 [_] h1)⟩)|true=>exact .inl rfl
  have PS:V6 YH YI (setDrawn a) (!d8 X&&(!c.plain&&decide (Yy>1))):=λm V PN G k q=>by
    refine Z7 ((o.keeps k).here ?_);refine Z7 ((fu _).here ?_);exact Z5 q
  have PT:V6 YH YI (Builtin.Frozenset.sizeOf a) Yy:=λm V PN G k q=>by exact Z7 (Z7 ((o.keeps k).here (Z5 (Z5 q))))
  have C:V6 YH YI (setEpoch a) l:=λm V PN G k q=>by exact Z7 ((o.keeps k).here (Z5 q))
  show ZU _ _ (Builtin.Frozenset.sizeOf a>>=λn=>setDrawn a>>=λdr=>if dr=true then(drawOrder n (Zi n)>>=λys=>newTuple (ys.map λ(t:U)=>VY t)>>=λfirst=>(setEpoch a>>=λe=>hI "set_iterator" [first,VY 0,Zag,VY n,VY e]>>=λf=>e4 f))else(Ye (VY 0)>>=λfirst=>(setEpoch a>>=λe=>hI "set_iterator" [first,VY 0,Zag,VY n,VY e]>>=λf=>e4 f))) _ _ G;refine Z7 (PT.here (Z7 (PS.here ?_)));have WD:∀r Oh S,r=.int Oh->Oh 0=0->wC X a d l c r S->(!d8 X&&(!c.plain&&decide (Yy>1)))=false->ZU YH Ut (if(!d8 X&&(!c.plain&&decide (Yy>1)))=true then(drawOrder Yy (Zi Yy)>>=λys=>newTuple (ys.map λ(t:U)=>VY t)>>=λfirst=>(setEpoch a>>=λe=>hI "set_iterator" [first,VY 0,Zag,VY Yy,VY e]>>=λf=>e4 f))else(Ye (VY 0)>>=λfirst=>(setEpoch a>>=λe=>hI "set_iterator" [first,VY 0,Zag,VY Yy,VY e]>>=λf=>e4 f))) (λUe s=>∃f,Ue=Fin.done (.ret f)/\∃T PW,s.TypeIs f T/\V8 Za' "__next__"=Ye (some PW)/\V f s) PN G:=λr Oh S hm PX PY w=>by
    walk_at"a";rw[w,ZY Z'];refine Z7 (Z5 (Z7 (C.here (Z7 (Ym (Z5 ⟨_,rfl,"set_iterator",_,⟨_,ZL _ rfl,rfl⟩,bo.lookup,?_⟩))))));refine z d l c r S _ G.drawn ZZ j hd g.1 PY (λb x e=>ZC _ e) (ZV _) ?_ (λtp p e=>by rw[hm]at e;cases e);rw[hm];show _=some (iy (.int (Oh 0) 0) 0 a Yy l);rw[PX];exact ZL _ rfl
  refine Q.elim (λhb=>?_) λYB=>YB.elim (λYA=>?_) λYA=>?_;.exact WD _ _ _ rfl rfl (A9 hb) (by rw[hb];rfl)
  .obtain⟨hb,h1⟩:=YA;exact WD _ _ _ rfl rfl (Ek hb h1 (by rw[g.2.1,hb];rfl) g.1) (by rw[hb];simp;omega)
  . obtain⟨hb,h1,h2⟩:=YA;have w:(!d8 X&&(!c.plain&&decide (Yy>1)))=true:=by rw[hb,h2];simp[h1]
    rw[w];refine Z7 (zU Yy (Zi Yy) G _ (by simp) λp PR hp=>?_);walk_at"e";refine Z7 (Ym ?_ (by show _<=_;rw[Wb,Z2,R_,WX];exact N));walk_at"e";have D:∀b x,ZH b=Zak->(Zm (s7 p)).get? b=Zak:=λb x e=>ZC _ e;refine Z7 ((C.keeps D).here (Z7 (Ym (Z5 ⟨_,rfl,"set_iterator",_,⟨_,ZL _ rfl,rfl⟩,bo.lookup,?_⟩))));refine z d l c (.dr ZZ p) _ _ PR (Zm (s7 p)).objs.size j hd g.1 (yn hp) (λb x e=>ZC _ (D b x e)) (by rw[Kb];exact Fy) (ZL _ rfl) (λtp P5 e=>?_);cases e;walk_at"l";exact⟨ZV _,by show ZZ<(Zm (s7 p)).objs.size;rw[Kb];exact Wr _,ZC _ (ZL _ rfl)⟩
theorem B5{α:Type}[sb α]:∀(i a:J α),i.Nodup->(∀k∈i,k∈a)->Xw<=Zx:=by
 intro I;induction I with
 |Yk=>
  intro _ _ _;exact Zg _|Zp k i c=>
  intro a hn h;obtain⟨h1,h2⟩:=oz hn;clear hn;have:=c (a.erase k) h2 λy hy=>(Wo (by intro d;subst d;exact h1 hy)).mpr (h y (ZX _ hy));have b:=h k Y5;rw[VL b]at this;have:=R6 b;rw[YE];exact bw 0x7ff90c1c2cc5c11682d [_,_] this ‹_›
theorem Ai{α:Type}[sb α]:∀(i b:J α),i.Nodup->(∀k∈i,k∈b)->Zv<=Xw->b.Nodup:=by
 intro I;induction I with
 |Yk=>
  intro b _ _ hl;have:=Xl (by simpa using hl);clear a;rw[this];exact .nil|Zp k i g=>
  intro b hn h hl;obtain⟨h1,h2⟩:=oz hn;have c:=h k Y5;have d:∀y∈i,y∈b.erase k:=λy hy=>(Wo (by intro j;subst j;exact h1 hy)).mpr (h y (ZX _ hy));have f:(b.erase k).length<=Xw:=by rw[VL c];rw[YE]at hl;exact aV 0x7f228b83983841 [_,_] hl
  have l:k∉b.erase k:=λOQ=>by
   have:=B5 (k::i) (b.erase k) hn λy hy=>(ZI hy).elim (λe=>e▸OQ) (d y);rw[YE]at this;exact bw 0x7fe9c8459141c1 [_,_] this f
  exact((List.perm_cons_erase c).nodup_iff).mpr (List.nodup_cons.mpr ⟨l,(g (b.erase k) h2 d f)⟩)
def f7(e:Zw×ZP):Z:=match e.2 with|.str k _=>k|_=>⟨#[]⟩
structure xp(X:Cx)(YX:SM)(m:pB)(a it:Y_)(n e k:U)(b:aT)(l:YS)(G:GH)(s:Za):Prop where
 S:ak X b YX l G s
 i:WU it=some (iy (m.f0 k) k a n e)
 TU:OffI X b G YX it
 tp:∀tp p,m=.dr tp p->b tp (s7 p)
theorem AO(l:wC X a d b u c x)(h:xp X A c a it Yy b k y o E G)(f:iU YI a d b u)(t:k<Yy)(he:x[k]?=Zdb)(q:∀j,Xo it YI j->j.get? it=some (iy (c.f0 (k+1)) (k+1) a Yy b)->F (some n.2) {G with X_:=j}):ZU YH m ZaS F T G:=by cases c with
 |int Oh=>exact vI h.i f rfl ((l.run _ f).1 k n he) q|dr tp p=>
  have r:=l.run;have s:=Z6 (by rw[r.1];exact t);obtain⟨e,e1,e2⟩:=r.2 k _ s;obtain rfl:=ZW (he.symm.trans e2);exact vH h.i (h.S.g.aG _ _ (h.tp tp p rfl)) f rfl s e1 q
theorem D7(hh:XW=none)(c:wC X a d f l k q)(h:xp X A k a it Yy f Yy y o E G)(b:iU YI a d f l)(e:∀j,Tq it YI j->n none {G with X_:=j}):ZU YH m ZaS n r G:=by cases k with|int Oh=>exact zZ hh h.i b rfl (c.run _ b).2 e|dr tp p=>exact zj hh h.i (h.S.g.aG _ _ (h.tp tp p rfl)) b rfl (U4 (by rw[c.run.1];exact ZV _)) e
theorem w5(h:t.Nodup)(e:t[k]?=some y'):y'∉Ti k:=λq=>by
 obtain⟨i,a⟩:=OH q;have b:i<k:=Xr (ZN a).1 (List.length_take_le ..);rw[List.getElem?_take_of_lt b]at a;exact G8 b ((j4 (ZN a).1 h).mp (Xb hQ))
inductive H0(X:Cx)(b:YS)(a:Y_)(i:J Z)(I:OD->J Z->YS->GH->Prop)(m:MV)(G:GH):Prop where|mk(e:m=Zag)(g:G a=Zca)(h:∀ob,∃l,I ob [] l (Y8 G a (.own (.=ob)))/\Od l b)
theorem EF.Fd(hh:XW=none)(hx:aM A P6)(I:OD->J Z->YS->GH->Prop)(h:EV X m A ZaZ o E (H0 X o a i I))(PN:∀ob j o E,I ob j o E->E a=some (.own (.=ob)))(UB:∀ob j f o E,f∈i->f∉j->(∀y∈j,y∈i)->I ob j o E->EF X m A ZbO (aJ P6 (.str f) o) E (GW (I ob (j++[f]))))(Ue:∀ob j o E,(∀y,y∈j↔y∈i)->I ob j o E->D .next o (Y8 E a (sS X i)))(hs:Z3 (∀y,XJ WC A y=Ye y) aI):EF X m A (TP (.For (.Name P6 QN) WC W9 [] Yl) A) o E D:=λq s Qm=>by
  walk_at"a";refine q' (W1 Qm λN PR QP Q PS Qn P7 B Qo=>?_) hs;walk_at"a";clear h;obtain⟨rfl,T,Qp⟩:=Qo;rw[P7.raw];obtain⟨ob,P8,PT⟩:=B.g.objs _ _ T;refine vV P8 PT λd P9 QQ Q r Qa Qb it Qc hd Qd w sf Qe Qf Qq=>?_;obtain⟨QR,QS,QT,Qr,Qt,Qu,Qv,Qw,Qx,Qy,Qz⟩:=id PT;clear P7 Qr Qv Qw;cases p7 Qt;have Qg:∀e∈r,∃t,e.2=.str (f7 e) t:=λe he=>by
    obtain⟨⟨f,x,_⟩,_⟩:=Qu e (w.perm.mem_iff.mp he);obtain⟨t,C⟩:=(cq X f _).mp x;exact⟨t,by unfold f7;rw[C]at⊢⟩
  have PW:K4=Yy:=w.perm.length_eq.trans Yv;have V:∀f,f∈r.map f7↔f∈i:=λf=>by
    rw[Qz,List.mem_map];constructor;.intro F;obtain⟨e,he,rfl⟩:=F;obtain⟨t,C⟩:=Qg e he;exact⟨e,w.perm.mem_iff.mp he,by rw[C];exact To ..⟩
    .intro F;obtain⟨e,he,QA⟩:=F;obtain⟨t,C⟩:=(cq X f _).mp QA;exact⟨e,w.perm.mem_iff.mpr he,by unfold f7;rw[C]at⊢⟩
  have Qh:a≠it:=Zb (Xr (B.g.objs _ _ T).lt Qe);have Qi:=(show ak X N A o PS {PR with X_:=Qa,drawn:=Qb}from B.keep sf).set (a:=.own (.=ob)) (n:=PR.toks) T (R8 a _) ⟨ob,sf _ _ P8,rfl⟩;obtain⟨QB,QC,Qj⟩:=Qp ob;have n:=B.AJ Qe;have Qk:Y8 PS a (.own (.=ob)) it=none:=(ag (Zh Qh)).trans n.g;obtain⟨PX,QD,QE⟩:∃PX,bG N PX/\xp X A Q a it Yy P9 0 PX QB (Y8 PS a (.own (.=ob))) {PR with X_:=Qa,drawn:=Qb}:=by cases Q with
    |int Oh=>exact⟨N,.refl _,Qi.forget Qj,Qf,⟨Qk,n.p,n.b,n.l,n.c⟩,λtp G e=>nomatch e⟩|dr tp G=>
      obtain⟨Ql,q2,q3⟩:=Qq tp G rfl;have M:=B.AJ Ql;have QF:tp≠a:=by intro F;subst F;exact nomatch T.symm.trans M.g
      walk_at"b";exact⟨cI N tp (s7 G),Tx,(Qi.pin q3 ((ag QF).trans M.g) M.b M.l M.c).forget Qj,Qf,⟨Qk,λQG e=>VD (n.p QG) λe=>Zb q2 e.1.symm,n.b,n.l,n.c⟩,λQU QV e=>by cases e;exact .inr ⟨rfl,rfl⟩⟩
  refine uj (λf=>I ob ((r.map f7).take f)) (n:=Yy) (a:=q) (λf q o E s=>xp X A Q a it Yy P9 f q o E s) (λf q o E s x PY h z R QH PZ=>?_) (λq o E s PY h z R QH PZ=>?_) (Qn.trans QD) QE QC;.obtain⟨u,PM,rfl⟩:=v' _ _ (PN _ _ _ _ z);have he:=Z6 (by rw[PW];exact x);have P0:=(Zy ..).trans (Zq (U8 f7) he);obtain⟨t,QI⟩:=Qg _ (YN he);rw[show(r.map f7).take (f+1)=(r.map f7).take f++[f7 r[f]]by rw[X9,P0];rfl]at*;refine AO w h ⟨⟨u,PM,Qc,hd⟩,Qd⟩ x he λP2 QJ QK=>PZ _ _ λQW=>Z5 ?_;have P4:ak X q A o E {s with X_:=P2}:=eB x4 ez x3 x2 x1 QJ.extBut;have QL:=P4.pin QK x4 x3 x2 x1;refine ZS (Oi hx ((UB u _ _ o E ((V _).mp (YN P0)) (w5 (Ai i _ Qx (λf x=>(V f).mpr x) (fX 0x7fffc903b20f6316c41 [_,_,_,_] (Z2 ..) PW Qy)) P0) (λy hy=>(V y).mp (OG hy)) z).mono GW.k) _ _ _ QL (by rw[QI];exact bp ..)) (λO QX P5=>nS PY h.off (kH (by simp) λO O e=>by cases e) P5 λQY QZ Q2 Q3 Q4 Ql q2 q3 q4 q5 QM=>⟨q4,q5,QM,λtp G e=>q2 _ _ (h.tp tp G e)⟩) λO O P5=>P5.elim
  .obtain⟨u,PM,rfl⟩:=v' _ _ (PN _ _ _ _ z);refine D7 hh w h ⟨⟨u,PM,Qc,hd⟩,Qd⟩ λP2 he=>PZ _ ?_;have P4:ak X q A o E {s with X_:=P2}:=eB x4 ez x3 x2 x1 he;exact⟨q,.next,o,_,PY,rfl,P4.set (a:=sS X i) (PN _ _ _ _ z) (R8 a _) ⟨u,he a u Qh PM,PT⟩,Ue u _ o E (λy=>by rw[YQ (by rw[Z2,PW];exact ZV _)];exact V y) z⟩
abbrev kv(y':U->Zw)(p:Ud U)(i:U):Zw:=y' (hE i 0)
def Vp(n:U)(p:Ud U):Prop:=p.toList.Perm (Zi n)
def AM(y':U->Zw)(p:Ud U)(m:U):Prop:=∀i j,i<j->j<m->kv y' p i<kv y' p j
def HI(y':U->Zw)(p:Ud U)(m:U):Prop:=∀i j,i<j->j<m->kv y' p j<kv y' p i
structure Qs(n:U)(y':U->Zw)(cmp:U->U->(Y0->Za->Prop)->Za->Prop)(s:Za):Prop where
 inj:∀i j,i<n->j<n->y' i=y' j->i=j
 ask:∀i j C,i<n->j<n->i≠j->C (decide (y' i<y' j)) s->cmp i j C s
theorem Vp.size(h:Vp j a):T9=j:=by have:=h.length_eq;simpa using this
variable{Px:Ud U}
theorem IX(h:i<Px.size):Px[i]?=some (Px.getD i 0):=by simp[Array.getD,h]
theorem kW(h:Px[i]?=Zax):Px.getD i 0=a:=by simp[d6,h]
theorem Vp.lt(h:Vp j a)(b:i<j):Wm i 0<j:=by
 have:Wm i 0∈a.toList:=by
  have:=IX (by rw[a4];exact b);rw[<-TM]at this;exact YN this
 exact WY (h.mem_iff.mp this)
theorem Vp.ne(h:Vp j a)(c:i<j)(hj:b<j)(d:i≠b):Wm i 0≠Wm b 0:=λe=>by
 have e1:=IX (Px:=a) (i:=i) (by rw[a4];exact c);have e2:=IX (Px:=a) (i:=b) (by rw[a4];exact hj);rw[<-TM]at e1 e2;exact d ((j4 (by simpa[a4]using c) ((h.nodup_iff).mpr List.nodup_range:a.toList.Nodup)).mp (by rw[e1,e2,e]))
variable{NA:U->Zw}{NY:U->U->(Y0->Za->Prop)->Za->Prop}
theorem Qs.Ku(q:Zbj)(h:Vp j a)(b:i<j)(hj:c<j)(d:i≠c):kv NA a i≠kv NA a c:=λe=>h.ne b hj d (q.inj _ _ (h.lt b) (h.lt hj) e)
theorem Qs.B3(q:Zbj)(h:Vp j a)(d:i<j)(hj:b<j)(e:i≠b)(c:f (decide (kv NA a i<kv NA a b)) G):NY (Wm i 0) (Wm b 0) f G:=q.ask _ _ f (h.lt d) (h.lt hj) (h.ne d hj e) c
theorem uZ(q:Zbj)(h:Vp j d):∀(f m:U),1<=m->m+f<=j->AM NA d m->(∀g,m<=g->g<=m+f->AM NA d g->(g<m+f->kv NA d g<kv NA d (g-1))->r g G)->(kas_asc d f m).kasWp NY r G:=by
  intro I;induction I with
  |V1=>
    intro m h1 h2 k l;exact l m (ZV _) (ZV _) k λh=>Zc h (UE _)|VF f t=>
    intro m h1 h2 k l;show NY (tf m 0) (tf (m-1) 0) (λb s=>(if b=true then KasT.ret m else kas_asc d f (m+1)).kasWp NY r s) G;refine q.B3 h (GK h2) (Im h2) (JP h1) ?_;by_cases c:kv NA d m<kv NA d (m-1);.rw[Yr c,ZT rfl];exact l m (ZV _) (O1) k λO=>c
    . rw[Wx c,ZY Z'];have o:kv NA d (m-1)<kv NA d m:=by
        have:=q.Ku h (GK h2) (Im h2) (JP h1);exact Lm c this
      refine t (m+1) (cY 0x198382e [_]) (GS h2) (λi n p hj=>?_) λg a1 a2=>l g (O7 a1) (aV 0x7f30838620e60383841 [_,_,_] a2)|>λz a u=>z a λw=>u (aV 0x7f501c1c20ea1070c41 [_,_,_] w);clear l;by_cases e:n=m
      . subst e;by_cases e2:i=n-1;.rw[e2];exact o
        .exact j3 (k i (n-1) (bw 0xfff517083cdc5c20e841 [_,_] p e2) (aV 0x1fd062e0e42e [_] h1)) o
      .exact k i n p (Ip hj e)
theorem y4(q:Zbj)(h:Vp j a):∀(f m:U),1<=m->m+f<=j->HI NA a m->(∀g,m<=g->g<=m+f->HI NA a g->r (a,g,0) G)->(kas_desc f a m 0).kasWp NY r G:=by
  intro I;induction I with
  |V1=>
    intro m h1 h2 k l;exact l m (ZV _) (ZV _) k|VF f p=>
    intro m h1 h2 k l;show NY (Wm m 0) (Wm (m-1) 0) (λb s=>oc NY (if b=true then(if 0>0 then kas_desc f (d4 a (m-(0+1)) m) (m+1) 0 else kas_desc f a (m+1) 0)else .ask (Wm (m-1) 0) (Wm m 0) λd=>if d=true then .ret (a,m,0)else kas_desc f a (m+1) (0+1)) r s) G;refine q.B3 h (GK h2) (Im h2) (JP h1) ?_;by_cases c:kv NA a m<kv NA a (m-1)
    . rw[Yr c,ZT rfl,ZY (Kz)];refine p (m+1) (cY 0x198382e [_]) (GS h2) (λi n o hj=>?_) λg a1 a2=>l g (O7 a1) (aV 0x7f30838620e60383841 [_,_,_] a2);clear h2 l;by_cases e:n=m
      . subst e;by_cases e2:i=n-1;.rw[e2];exact c
        .exact j3 c (k i (n-1) (bw 0xfff517083cdc5c20e841 [_,_] o e2) (aV 0x1fd062e0e42e [_] h1))
      .exact k i n o (Ip hj e)
    . rw[Wx c,ZY Z'];show NY (Wm (m-1) 0) (Wm m 0) (λb s=>oc NY (if b=true then .ret (a,m,0)else kas_desc f a (m+1) (0+1)) r s) G;refine q.B3 h (Im h2) (GK h2) (aV 0x3fcd862e0e42e [_] h1) ?_;have t:kv NA a (m-1)<kv NA a m:=by
        have:=q.Ku h (GK h2) (Im h2) (JP h1);exact Lm c this
      rw[Yr t];exact l m (ZV _) (O1) k
theorem Vp.mirror(h:Vp j a)(i b d:U):Vp j (mirror a i b d):=(f6 (mirror_perm a i b d)).trans h
theorem Vp.bubble(h:Vp j a)(i d:U):Vp j (bubble a i d):=(f6 (bubble_perm a i d)).trans h
theorem xT(h:Vp j c)(hm:a<=j)(d:k<j):(d4 c 0 a).getD k 0=if k<a then F' (a-1-k) 0 else F' k 0:=by
  walk_at"i";have hs:=a4;have:=getElem?_mirror_all (i:=0) (j:=a) (bw 0x7ff908f221ec41 [_,_,_] hs hm) k;by_cases b:k<a;.rw[ZT ⟨Zg _,b⟩,Wi,IX (i:=a-1-k) (fX 0x7fffd12218b85b1932316841 [_,_,_,_] b hm hs)]at this;rw[ZT b];exact kW this
  .rw[ZY (by exact aV 0x1fe77420e42de6841 [_,_] b),IX (O6 d hs)]at this;rw[ZY b];exact kW this
theorem HI.rev(h:Vp j c)(hm:a<=j)(hd:HI NA c a):AM NA (d4 c 0 a) a:=λi d b hj=>by
 show NA _<NA _;rw[xT h hm (by exact fX 0x7fffd103920f4316841 [_,_,_,_] b hj hm),xT h hm (by exact JH hj hm),ZT (by exact bw 0x7ffa1874316841 [_,_,_] b hj),ZT hj];exact hd (a-1-d) (a-1-i) (by exact bw 0x7ffa8862e1c45170f4316841 [_,_,_] b hj) (by exact aV 0x7f4288e2e16841 [_,_,_] hj)
theorem vY(q:Zbj)(h:Vp j c)(h1:1<=b)(h2:b<=j)(hd:HI NA c b)(d:∀m p,Vp j p->m<=j->1<=m->AM NA p m->f (m,p) G):(kas_tail3 b j c).kasWp NY f G:=by
 rw[Oy];have hv:Vp j (d4 c 0 b):=h.mirror _ _ _;exact uZ q hv (j-b) b h1 (aV 0x7f22844220e441 [_,_] h2) (hd.rev h h2) λm a1 a2 a O=>d m _ hv (bw 0x7ff9187231661110c41 [_,_,_] a2 h2) (bw 0x7ff913b220e42e [_,_] h1 a1) a
theorem wX(q:Zbj)(h:Vp j c)(hn:1<=j)(f:∀d p,Vp j p->d<=j->1<=d->AM NA p d->k (d,p) G):(kas_count j c).kasWp NY k G:=by
  rw[Oy];refine uZ q h (j-1) 1 (ZV _) (aV 0x7f21845c17642e [_] hn) (λi n g hj=>by exact cF 0x7ffa5ab41169c1 [] [_,_] [_,_] hj g) λm a1 a2 a o=>?_;by_cases e:m=j;.subst e;rw[ZT (by simp)];exact f m c h (ZV _) hn a
  . rw[ZY (by simpa using e)];by_cases e2:m>1;.rw[ZT e2];show NY (F' 0 0) (F' (m-1) 0) (λb s=>oc NY (if b=true then .ret (m,c)else kas_descPart m j (d4 c 0 m)) k s) G;refine q.B3 h (aV 0x7f416e42e [_] hn) (bw 0x1ffe851707308b84e0e82e [_,_] e2 a2) (aV 0x3fcdc5c16e82e [_] e2) ?_;have:=a 0 (m-1) (aV 0x1fd45c16e82e [_] e2) (aV 0x1fd062e0e82e [_] e2);rw[Yr this];exact f m c h (bw 0x7ff908b308b82e1642e [_,_] hn a2) (aV 0x7f217682e [_] e2) a
    . rw[ZY e2];have hm:m=1:=by exact bw 0xfff6e0f3417642e [_] a1 e2
      clear a2 a;subst hm;rw[Oy];walk_at"au";have l:2<=j:=by exact cF 0xfff217f3617642e [2] [_] [] hn e
      refine y4 q h (j-(1+1)) (1+1) (cY 0x19839ce []) (a9 0x7f218460e7060e7642f [2] [_] [] l) (λi n g hj=>?_) λd b1 b2 r=>?_
      . have:i=0/\n=1:=by exact bw 0x1fff76e0eda2d045a839c1 [_,_] hj g
        rw[this.1,this.2];exact(o (a9 0x7f508b82e7642f [2] [_] [] l))
      .show oc NY (if 0>0 then kas_tail3 d j (d4 c (d-(0+1)) d)else kas_tail3 d j c) k G;exact vY q h (aV 0x1fc85d90c1ce [_] b1) (cF 0x7ff908b308c1ce0c1ce1642f [2] [_,_] [] l b2) r f
theorem place_spec(q:Zbj)(h:Vp j d)(o:k<j)(t:AM NA d k)(u:∀l,l<=k->(∀i,i<l->kv NA d i<kv NA d k)->(∀i,l<=i->i<k->kv NA d k<kv NA d i)->x l G):∀(f l r:U),l<=r->r<=k->r-l<=f->(∀i,i<l->kv NA d i<kv NA d k)->(∀i,r<=i->i<k->kv NA d k<kv NA d i)->(hD d k f l r).kasWp NY x G:=by
  intro y;induction y with
  |V1=>
    intro l r h1 h2 p hl hr;exact u l (D1 h1 h2) hl λi a b=>hr i (bw 0x1ffe461c8c596c441 [_,_,_] p a) b|VF f I=>
    intro l r h1 h2 p hl hr;unfold hD;by_cases e:l>=r;.rw[ZT e];exact u l (D1 h1 h2) hl λi a b=>hr i (D1 e a) b
    . rw[ZY e];show NY (tf k 0) (tf ((l+r)/2) 0) (λb s=>oc NY (if b=true then hD d k f l ((l+r)/2)else hD d k f ((l+r)/2+1) r) x s) G;have g:(l+r)/2<r:=by exact Kq e
      have n:l<=(l+r)/2:=by exact Lz e
      generalize(l+r)/2=m at g n;refine q.B3 h o (fX 0x7fffd103a20f2316841 [_,_,_,_] g h2 o) (bw 0xfff9b08f2316841 [_,_,_] g h2) ?_;by_cases c:kv NA d k<kv NA d m
      . rw[Yr c,ZT rfl];refine I l m (O9 n) (J5 g h2) (bw 0x1ffe471113412660e1c441 [_,_,_,_] p g) hl λi a b=>?_;clear g n;by_cases e:i=m;.rw[e];exact c
        .exact j3 c (t m i (bw 0xfff420f36116441 [_,_] a e) b)
      . rw[Wx c,ZY Z'];have w:kv NA d m<kv NA d k:=by
          have:=q.Ku h (c:=m) o (fX 0x7fffd103a20f2316841 [_,_,_,_] g h2 o) (bw 0xfff9b08f2316841 [_,_,_] g h2);exact Lm c this
        refine I (m+1) r (GV g) (O9 h2) (bw 0x7ff91c60e207241660e1c441 [_,_,_,_] p n) (λi a=>?_) hr;clear n;by_cases e:i=m;.rw[e];exact w
        . by_cases e2:i<l;.exact hl i e2
          .exact j3 (t i m (Ip a e) (JH g h2)) w
theorem xK(h:Vp j a)(b:k<j)(hl:l<=k)(c:i<j):(bubble a k (k-l)).getD i 0=if i=l then Wm k 0 else if l<i/\i<=k then Wm (i-1) 0 else Wm i 0:=by
  walk_at"j";have hs:=a4;have:=getElem?_bubble (O6 b hs) (k-l) (cY 0x190c441 [_,_]) i;rw[show k-(k-l)=l by(exact aV 0x7f618c42216441 [_,_] hl)]at this;by_cases e1:i=l;.rw[ZT e1,IX (O6 b hs)]at this;rw[ZT e1];exact kW this
  . rw[ZY e1]at this⊢;by_cases e2:l<i/\i<=k;.rw[ZT e2,IX (i:=i-1) (bw 0x1ffe871707621e841 [_,_,_] c hs)]at this;rw[ZT e2];exact kW this
    .rw[ZY e2,IX (O6 c hs)]at this;rw[ZY e2];exact kW this
theorem Bl(q:Zbj)(s:∀c,Vp j c->AM NA c j->r c G):∀(f:U)(c:Ud U)(k:U),Vp j c->k+f=j->AM NA c k->(kas_bin f c k).kasWp NY r G:=by
  intro I;induction I with
  |V1=>
    intro c k h g n;exact s c h (by rw[<-g];exact n)|VF f t=>
    intro c k h g n;show((hD c k k 0 k).bind λl=>kas_bin f (bubble c k (k-l)) (k+1)).kasWp NY r G;rw[Oy];refine place_spec q h (GJ g) n (λl hl h1 h2=>?_) k 0 k (Zg _) (ZV _) (cY 0x190c5a1 [_]) (λi u=>by exact a9 0x7f4b569a1 [] [_] [_,_] u) λi a b=>by exact cF 0x7ffa5ab2116841 [] [_,_] [_,_] b a
    refine t _ (k+1) (h.bubble _ _) (Ju g) λi m d hj=>?_;show NA _<NA _;rw[xK h (GJ g) hl (by exact fX 0x7fffd0cba217507049b1c041 [_,_,_,_,_] g hj d),xK h (GJ g) hl (by exact bw 0x1ffe864d41c126c7083841 [_,_,_,_] g hj)];by_cases e1:i=l;.rw[ZT e1,ZY (by exact bw 0xfff9b18b630e841 [_,_,_] d e1),ZT (by exact fX 0x1ffffb91074126c83d047a83841 [_,_,_,_] hj d e1)];exact h2 (m-1) (bw 0x1ffe62e10f630e841 [_,_,_] d e1) (LK hj d)
    . rw[ZY e1];by_cases e2:l<i/\i<=k;.rw[ZT e2,ZY (by exact bw 0xfff9b18bb9207411e841 [_,_,_,_] d e2),ZT (by exact fX 0x1ffffb910741277221e864d047a83841 [_,_,_,_] hj d e2)];exact n (i-1) (m-1) (bw 0x7ffa8b851707b9207411e841 [_,_,_,_] d e2) (LK hj d)
      . rw[ZY e2];have p:i<l:=by exact F3 0x7ffffe883e77221e864e6c83d047a83841 [_,_,_,_] hj d e1 e2
        by_cases o:m=l;.rw[ZT o];exact h1 i p
        . rw[ZY o];by_cases e:l<m/\m<=k;.rw[ZT e];exact n i (m-1) (bw 0x1ffea2e187b920f4316841 [_,_,_,_] p e) (LK hj d)
          .rw[ZY e];exact n i m d (F3 0x7ffffe841e77220e823e6c61c887a83841 [_,_,_] hj hl o e)
theorem zL(q:Zbj)(hn:1<=j)(a:∀p,Vp j p->AM NA p j->c p G):(kas_sort j).kasWp NY c G:=by
  rw[Oy];have hv:Vp j (Og (Zi j)):=by unfold Vp;simp
  refine wX q hv hn λm p hp h1 h2 b=>?_;clear hn hv;by_cases e:m<j
  . rw[ZT e];have:max m 1=m:=by exact aV 0x1fd86ee0e42e [_] h2
    rw[this];exact Bl q a (j-m) p m hp (aV 0x7f62844220e841 [_,_] e) b
  . rw[ZY e];have:m=j:=by exact bw 0xfff620f3420e441 [_,_] h1 e
    clear q;subst this;exact a p hp b
abbrev E7:=Zw×Zw×Zw
abbrev cQ(C:Y_)(t:E7):MV:=.seq Zbq [.int t.1,.int t.2.1,.int t.2.2]
def qj(h:D')(C:Y_)(a:ZP)(t:E7):Prop:=∃x o n t1 t2 t3,a=ZaI/\Vq x=Zai/\o.cls=Zbq/\L3=.seq #[.int t.1 t1,.int t.2.1 t2,.int t.2.2 t3] n
theorem o7[Oe c]{a b:p' α}{Q:α->Za->Prop}(d:c)(h:ZU YH m a Q f G):ZU YH m (if c then a else b) Q f G:=by rw[ZT d];exact h
theorem Co:OJ "tuple.__lt__"=some .slot:=by decide+kernel
theorem yy:splitId "tuple.__lt__"=some ("tuple","__lt__"):=by decide+kernel
theorem Ed(t:Zan)(k:pj h)(a:Vq x=Zaq)(c:b.cls=Zay):V6 YH h (isInstance (.ref x) (.type "tuple")) true:=(hK k a c t.lt).2
theorem uO(h:c (.bool (decide (a<b))) G):ZU YH m (richCompare .Lt (.int a d) (.int b u)) c f G:=wpAny_richCompare_same (op:=.Lt) (typeIs_int G a d) (typeIs_int G b u) slot_int_lt (PyProof.Rows.call_int_lt ⟨(λx=>nomatch x),h⟩)
theorem tB(t:Zan)(k:pj YI)(i:qj YI z l a)(hb:qj YI z q b)(j:a.1≠b.1)(h:r (.done (.ret (.bool (decide (a.1<b.1))))) G):ZU YH m (Builtin.«tuple.__lt__» ⟨[l,q],[]⟩) r F G:=by
 obtain⟨x,o,n,t1,t2,t3,rfl,p,u,hd⟩:=i;obtain⟨y,w,C,u1,u2,u3,rfl,c,e,f⟩:=hb;have A:=Ed t k c e;obtain⟨D,E,d,s⟩:=o;obtain⟨I,N,Q,S⟩:=w;dsimp only at hd f;clear u e;subst hd f;obtain⟨hh,g,T,V,os⟩:=G;dsimp only at p c A;have B:(a.1==b.1)=false:=by simpa using j
 repeat(first|with_reducible refine wpAny_eqBool_int ?_|lk)
 walk_at"e";rw[B];refine o7 rfl ?_;refine Z7 (Vy (Z7 (uO ?_)));exact Z7 (Z5 (Z5 (Z5 (Z5 h))))
theorem Fo(t:Zan)(p:OY<cLine)(k:pj YI)(e:qj YI z d a)(hb:qj YI z f b)(u:a.1≠b.1)(h:i (decide (a.1<b.1)) G):ZU YH m (keyLt' r1 d f) i l G:=by
 obtain⟨x,o,n,t1,t2,t3,rfl,g,w,hd⟩:=id e;obtain⟨j,y⟩:=hK k g w t.lt;refine Z7 (wpAny_cRoomFor p ?_);refine Z7 ?_;walk_at"a";refine ZF (Z7 (Z7 (j.here ?_)));walk_at"a";refine Z7 (Uo (UW ?_));have c:∀A,U7 YH A (.call (.builtin "tuple.__lt__") ⟨[ZaI,f],[]⟩) (λr s=>r=.ok (.ret (.bool (decide (a.1<b.1))))/\s=G) G:=λA=>Wp F.slot_tuple_lt.plain F.entry_tuple_lt (oi Co yy y (F.args_tuple_lt_2 _ _) (tB t k e hb u ⟨rfl,rfl⟩));have Ue:∀Q,Q (some (.bool (decide (a.1<b.1)))) G->ZU YH m (VQ (.builtin "tuple.__lt__") ([ZaI]++[f])>>=λd=>Ye ZaD) Q l G:=λQ q=>by
  clear h g j;exact Z7 (Wa (V' (c _) λr s h=>by rw[h.1,h.2];exact Z5 q))
 have last:ZU YH m (truthOfDropped (.bool (decide (a.1<b.1)))) i l G:=UR h;split;.exact Z7 (Z5 (Z5 (Ue _ last)))
 .exact wpAny_tryCatch (Z7 (Z5 (Z5 (Ue _ last))))
theorem ao.pick(r:ao y a b):∀(is:J U),(∀i∈is,i<Zx)->ao y (IV λi=>Wm i .none) (IV λi=>UG i .none):=by
 intro I;induction I with
 |Yk=>
  intro _;exact .nil|Zp i is d=>
  intro h;have c:=h i Y5;obtain⟨f,hv,e⟩:=r.get i (Z6 c);refine .cons ?_ (d λj hj=>h j (ZX _ hj));show aw y (Wm i .none) (UG i .none);rw[Z0,Z0,hv,Z6 c];exact e
theorem AV(r:aw y (cQ z b) c)(hp:∀a o,y a o->Vq a=Zai):qj h z c b:=by
 obtain⟨a,d,n,YA,p,rl⟩:=aw.seq r;rw[YA];obtain⟨l⟩:=d;obtain⟨v1,_,e,f,v2,_,YA,r2,v3,_,YB,g,YC⟩:=rl;subst YA;subst YB;subst YC;obtain⟨t1,rfl⟩:=f.int;obtain⟨t2,rfl⟩:=r2.int;obtain⟨t3,rfl⟩:=g.int;subst e;exact⟨a,_,0,t1,t2,t3,rfl,hp _ _ p,rfl,rfl⟩
theorem zl(PT:Zan)(rm:Rm X m (Qq+1))(hg:E a=some (.list (g6 (cQ z))))(D:Zv<64)(PW:b.Pairwise λx r=>x.1≠r.1)(PX:Zab)(Qa:aw y Zag l)(k:∀t:J E7,t.Perm b->t.Pairwise (λx r=>x.1<r.1)->PY .none (Y8 E a (.list (k3 (cQ z))))):ZU YH m (VQ (.builtin "list.sort") [l]) (PV X A y o PY) bz G:=by
  walk_at"a";rw[Qa.raw];obtain⟨⟨c⟩,Qr,u,rl⟩:=PX.g.objs _ _ hg;have f:YZ=Zv:=by have:=rl.length;simpa using this
  refine X7 slot_list_sort ⟨_,u,rfl⟩ entry_list_sort ?_ (args_list_sort _);walk_at"a";have Qb:ak X y A o (Y8 E a (.list [])) {G with X_:=UH a (Yc λO=>#[]),Wf:=Wv}:=PX.set hg (Y' ..) ⟨#[],_,e8 u _,.nil⟩;obtain⟨e1,PZ⟩:∃e1,(UH a (Yc λO=>#[])).get? a=some (XF "list" #[] e1):=⟨_,e8 u λO=>#[]⟩;have S:ak X y A o (Y8 E a (.list [])) {G with X_:=((UH a (Yc λO=>#[])).push (XF "tuple" z3 0)).push (XF "list" #[] 0)}:=(Qb.push _).push _;have F:(((UH a (Yc λO=>#[])).push (XF "tuple" z3 0)).push (XF "list" #[] 0)).get? a=some (XF "list" #[] e1):=ZC _ (ZC _ PZ);have P0:=PT.at_ iw;have I:∀i N,b[i]?=some N->∃l,c[i]?=some l/\qj (((UH a (Yc λO=>#[])).push (XF "tuple" z3 0)).push (XF "list" #[] 0)) z l N:=λi N d=>by
    obtain⟨l,hv,Qc⟩:=h7 i (by rw[Zy,d];rfl);exact⟨l,hv,AV Qc Yd⟩
  rw[list_sort_plain];refine Z7 (listItems_at u rfl ?_);refine Z7 (listUpdate_at u rfl ?_ (by rw[Wb,af];exact cF 0x7ff978b61169e1 [64,16777216] [_,_] [] D f) (Zg _));walk_at"f";refine Z7 (seqEpoch_at PZ rfl ?_);refine Z7 (wpAny_newTuple ?_ (by show YZ<=_;rw[af];exact cF 0x7ff978b61169e1 [64,16777216] [_,_] [] D f));refine Z7 (wpAny_newList ?_ (Zg _));refine ZF ?_;show ZU YH Ut _ _ _ {G with X_:=((UH a (Yc λO=>#[])).push (XF "tuple" z3 0)).push (XF "list" #[] 0)};generalize((UH a (Yc λO=>#[])).push (XF "tuple" z3 0)).push (XF "list" #[] 0)=q at S F P0 I;have P2:∀st(is:J U),is.Perm (Zi Zv)->(IV λi=>UG i (0,0,0)).Pairwise (λx r=>x.1<r.1)->(arrOf st).map (·.2)=Og (IV λi=>F' i .none)->failedOf st=none->ZU YH Ut (do
        let Qd:=(<-seqEpoch a)!=e1
        BO Zag λO=>(arrOf st).map (·.2)if let some e:=failedOf st then rule "list.sort.comparison-raised";throw e
        if Qd then rule "list.sort.modified";raiseError"ValueError""list modified during sort"
        e4 .none) (λUe s=>∃l,Ue=Fin.done (.ret l)/\PV X A y o PY l s) bz {G with X_:=q}:=λst is hp hs Qe Q=>by
    walk_at"e";rw[Qe];have P4:∀i∈is,i<Zv:=λi d=>WY (hp.mem_iff.mp d);have Qf:(Og (IV λi=>F' i U9)).size=Zv:=by rw[Wb,Z2,R_,WX]
    refine Z7 (seqEpoch_at F rfl ?_);refine Z7 (listUpdate_at F rfl ?_ (Zg _) (by show _<=_;rw[Qf,af];exact a9 0x1fcc1cf0e9e1 [64,16777216] [_] [] D));walk_at"f";rw[Q];simp only[ki,T8,B_];refine Z5 ⟨.none,rfl,?_⟩;have Qg:(IV λi=>UG i (0,0,0)).Perm b:=by
      have h1:=hp.map λi=>UG i (0,0,0);walk_at"av";have h2:(Zi Zv).map (λi=>UG i (0,0,0))=b:=by
        apply G6;intro k;rw[Zy];by_cases n:k<Zv;.rw[Vu n];simp[n]
        .simp[n]
      rwa[h2]at h1
    have Qh:ao y ((IV λi=>UG i (0,0,0)).map (cQ z)) (IV λi=>F' i .none):=by
      have h2:(IV λi=>UG i (0,0,0)).map (cQ z)=IV λi=>(g6 (cQ z)).getD i .none:=by
        rw[Xn];refine Vt λi d=>?_;have:=P4 i d;simp[Z0,this]
      rw[h2];exact(ao.pick rl is λi d=>by rw[Z2];exact P4 i d)
    have P5:=bk (n:=Wv) (a:=.list ((IV λi=>UG i (0,0,0)).map (cQ z))) (aa ..) (Y' q a (Yc λO=>Og (IV λi=>F' i .none))) ⟨_,_,e8 F _,Qh⟩;rw[aQ]at P5;exact⟨y,.none,_,Zbs,aE ..,P5,k _ Qg hs⟩
  have Qi:∀is,is=Zi Zv->(IV λi=>F' i U9)=c:=λis e=>by
    rw[e];apply G6;intro k;rw[Zy];by_cases n:k<Zv
    . rw[Vu n];have:k<YZ:=by exact O6 n f
      simp[this]
    .rw[U4 (by rw[WX];exact aV 0xfe422e6841 [_,_] n),U4 (bw 0xfff230f3421ec41 [_,_,_] f n)];rfl
  by_cases h2:Zv<2
  . have B:c.toArray.size<2:=by rw[Wb];exact bw 0x7ffa10f611e841 [_,_,_] h2 f
    rw[ZT B,ZT B];refine Z7 (Z5 ?_);refine Z7 (Z5 ?_);refine P2 _ (Zi Zv) (.refl _) ?_ ?_ rfl
    . have:Zv=0\/Zv=1:=by exact a9 0x7fdb7076d0e9e1 [2] [_] [] h2
      rcases this with e|e<;>rw[e];.exact .nil
      .exact List.pairwise_singleton ..
    . rw[Qi _ rfl];show((c.toArray.zip z3).map (·.2))=_;apply Array.ext_getElem?;intro i;by_cases d:i<YZ;.simp[d]
      .simp[d]
  . have B:¬c.toArray.size<2:=by rw[Wb];exact bw 0x1fff3430f34316c41 [_,_,_] f h2
    rw[ZY B,ZY B];have Qj:∀l∈c,V6 YH q (xa l) Zay:=λl hv=>by
      obtain⟨i,d⟩:=OH hv;have Qk:i<Zv:=by have:=(ZN d).1;exact O5 this f
      clear hv;obtain⟨Qt,P6,x,Qu,_,_,_,_,rfl,hx,T,_⟩:=I i _ (Z6 Qk);rw[d]at P6;cases P6;exact(I2 hx).andThen (by rw[T];exact .now)
    refine Z7 (kas_kind (bw 0xfff211f34316c41 [_,_,_] f h2) Qj rfl (by simp) ?_);have Ql:SortSt.mk' r1 (c.toArray.zip z3) #[] 7 none=kas_st r1 (j2 c) (Og (Zi YZ)):=by
      have e:=kas_range (j2 c);rw[pairsOf_size]at e;show SortSt.mk' r1 (j2 c) #[] 7 none=SortSt.mk' r1 ((Og (Zi YZ)).map (kas_item (j2 c))) #[] 7 none;rw[e]
    have Qm:Qs YZ (λi=>(UG i (0,0,0)).1) (kas_cmp Wj Sl Ut r1 (j2 c)) {G with X_:=q}:=by
      walk_at"aw";have P7:∀i j,i<YZ->j<YZ->i≠j->(UG i (0,0,0)).1≠(UG j (0,0,0)).1:=λi j d hj p=>by
        have V:i<Zv:=by exact O5 d f
        have PM:j<Zv:=by exact O5 hj f
        rw[Z0,Z0,Z6 V,Z6 PM];show b[i].1≠b[j].1;rcases Nat.lt_or_gt_of_ne p with h|h;.exact e6 PW i j V PM h
        .exact Zh (e6 PW j i PM V h)
      refine⟨λi j d hj e=>H3 λp=>P7 i j d hj p e,λi j z d hj p T=>?_⟩;obtain⟨l,hv,P8⟩:=I i _ (Z6 (O5 d f));obtain⟨Qv,hw,P9⟩:=I j _ (Z6 (O5 hj f));have e1:b[i]=UG i (0,0,0):=by simp[Z0,(by(exact O5 d f):i<Zv)]
      have e2:b[j]=UG j (0,0,0):=by simp[Z0,(by(exact O5 hj f):j<Zv)]
      rw[e1]at P8;rw[e2]at P9;rw[<-kas_ask_eq];show ZU _ _ (keyLt' r1 (F' i .none) (F' j .none)) _ _ _;rw[Z0,Z0,hv,hw];exact Fo PT rm.in1.cl P0 P8 P9 (P7 i j d hj p) T
    have run:=kas_runs (E:=bz) (Q:=λO C s=>∃Nh:Ud U,Vp YZ Nh/\AM (λi=>(UG i (0,0,0)).1) Nh YZ/\arrOf C=Nh.map (kas_item (j2 c))/\failedOf C=none/\s={G with X_:=q}) (n:=YZ) (bw 0xfff211f34316c41 [_,_,_] f h2) (bw 0x7ffa10f611e841 [_,_,_] D f) (G:=λNh s=>Vp YZ Nh/\AM (λi=>(UG i (0,0,0)).1) Nh YZ/\s={G with X_:=q}) (λQn C s a1 a2 Qo PN=>⟨Qn,PN.1,PN.2.1,a2,Qo,PN.2.2⟩) (zL Qm (cF 0xfff217734f16c41 [2] [_,_] [] f h2) λNh hp PR=>⟨hp,PR,rfl⟩);rw[<-Ql]at run;refine Z7 (ZS run ?_ λO O e=>e);intro PS;obtain⟨⟨⟩,C⟩:=PS;intro s PS;obtain⟨Nh,hp,PR,Qp,Q,rfl⟩:=PS;refine P2 C Nh.toList (by rw[<-f];exact hp) ?_ ?_ Q
    . rw[List.pairwise_map,List.pairwise_iff_getElem];intro i j d hj p;rw[Yv]at d hj;have:=PR i j p (O5 hj (hp.size));have e1:Nh.toList[i]'(by rw[Yv];exact d)=Nh.getD i 0:=by simp[Array.getD,d]
      have e2:Nh.toList[j]'(by rw[Yv];exact hj)=Nh.getD j 0:=by simp[Array.getD,hj]
      rw[e1,e2];exact this
    .apply Oq;rw[Qp,Array.map_map,Array.toList_map];exact Vt λi O=>by show(kas_item (j2 c) i).2=_;rw[kas_item_eq]
theorem Du:xa (.builtin "list.sort")=ZaM:=by show builtinType _=_;rw[builtinType_eq_fast];kernel_rfl
theorem EV.sort(d:Zan)(rm:Rm X m (j+1))(h:EV X m A ZaE o E λc G=>∃a t,c=Zag/\G a=some (.list (k3 (cQ z)))/\YF<64/\(t.Pairwise λx y=>x.1≠y.1)/\∀b:J E7,b.Perm t->b.Pairwise (λx y=>x.1<y.1)->g .none (Y8 G a (.list (g6 (cQ z)))))(he:Z3 (eL A Ng ("sort") Np [] Ny Nz) aR):EV X m A (ZG (.Call (.Attribute Ng ("sort") Np) [] [] Ny) A) o E g:=by
 refine EV.EW (Nz:=Nz) Sd slot_list_sort Du (WT λc G hm=>?_) he;walk_at"g";obtain⟨a,t,rfl,hg,h1,h2,k⟩:=hm;exact⟨et (dg hg),λe s f S r=>zl d rm hg h1 h2 S r k⟩
theorem oO:Slot "map" "__init__" "object.__init__":=.of (owner:="object") (n:="__init__") (by rw[W6,X'];kernel_rfl) Z8 Z8 Z8 (by first|exact .inl Z8|exact .inr Z8) (by rw[WS];kernel_rfl)
theorem jQ:Slot "map" "__iter__" "map.__iter__":=.of (owner:="map") (n:="__iter__") (by rw[W6,X'];kernel_rfl) Z8 Z8 Z8 (by first|exact .inl Z8|exact .inr Z8) (by rw[WS];kernel_rfl)
theorem dz:Slot "map" "__next__" "map.__next__":=.of (owner:="map") (n:="__next__") (by rw[W6,X'];kernel_rfl) Z8 Z8 Z8 (by first|exact .inl Z8|exact .inr Z8) (by rw[WS];kernel_rfl)
theorem iZ:OL f' "map.__next__"=some Builtin.«map.__next__»:=A' Z9
theorem jG(a:ZP):S_ "map.__next__" ⟨[a],[]⟩:=by unfold S_;kernel_rfl
theorem mY:OL f' "map.__iter__"=some Builtin.«dict_keyiterator.__iter__»:=sa (id':="dict_keyiterator.__iter__") Z9 (by first|rfl|decide+kernel|(unfold String.splitOn;simp+decide[String.splitOnAux])) Z8 Z9
theorem pv(a:ZP):S_ "map.__iter__" ⟨[a],[]⟩:=by unfold S_;kernel_rfl
theorem xG:mroOf Zaw=Ye [Zaw,Zaj]:=by rw[mroOf_type];kernel_rfl
theorem mS:V8 Zaw "__new__"=Ye (some (.builtin "map.__new__")):=by rw[W6,X'];kernel_rfl
theorem vL:TypeCalled "map" "map.__new__" "object.__init__":=⟨by decide+kernel,by decide+kernel,⟨_,_,xG⟩,madeBy_type xG mS Z8,by decide+kernel,by rw[WS];kernel_rfl,oO⟩
theorem nB(a b:ZP):checkTypeCall "map" ⟨[a,b],[]⟩=Ye ():=by kernel_rfl
theorem pg(a b:ZP):A_ "map.__new__" ⟨[Zaw,a,b],[]⟩=Ye ():=by kernel_rfl
theorem oZ:OL f' "map.__new__"=some Builtin.«map.__new__»:=A' Z9
theorem Dd:N0 Zaw Zaw=Ye true:=by rw[WS];kernel_rfl
theorem vm:V8 Zaw "__len__"=Ye none:=by rw[W6,X'];kernel_rfl
theorem tO:V8 Zaw "__length_hint__"=Ye none:=by rw[W6,X'];kernel_rfl
abbrev m6(l:Y_):OD:={Uc:=Zbo,Xg:=.fields #[.ref l,.int 0 0]}
abbrev xu(it:Y_):OD:={Uc:=Zac,Xg:=.seq #[ZbW]}
abbrev BH(tp:Y_)(f:ZP):OD:={Uc:=Zaw,Xg:=.fields #[.ref tp,f]}
theorem oV(f:ZP)(l:Y_)(x:Ud ZP):Meets (Builtin.«map.__new__» ⟨[Zaw,f,.ref l],[]⟩) (λO R s=>s.heap.IsList l x/\R (.ok (.ret (.ref ((Ts (m6 l)).push (xu Zz)).objs.size))) {s with X_:=((Ts (m6 l)).push (xu Zz)).push (BH (Ts (m6 l)).objs.size f)}):=.of_wp λYx w A R s h=>by
  walk_at"c";obtain⟨hp,g,d,t,os⟩:=s;obtain⟨a,h⟩:=h;have b:=Dd;wp_walk using TL (a:Heap.IsList (Shared.heap ⟨hp,g,d,t,os⟩) l x);exact⟨_,rfl,h⟩
abbrev Oo(la:Y_)(k:U):MO:=.own λo=>o.cls=Zbo/\L3=.fields #[.ref la,.int k 0]
structure lY(a:aT)(m tp q it la f:Y_)(s:ZP)(b:Ud ZP):Prop where
 om:a m (BH tp (.ref q))
 ot:a tp (xu it)
 oq:a q (methodObj (.ref f) s)
 ol:∃n,a la Zat
theorem lY.mono(h:lY y a tp q it la f s b)(k:ZaX):lY B a tp q it la f s b:=⟨k _ _ h.om,k _ _ h.ot,k _ _ h.oq,SA h.ol λn e=>⟨n,k _ _ e⟩⟩
theorem AP(rm:Rm X m (n+2))(a:lY y b tp PX it la f s l)(S:Zah)(e:E it=ZcA)(hv:l[k]?=ZbI)(r:aw y mv i)(rs:aw y q s)(g:∀A w,Rm X A n->b9 X A Zb9 [q,mv] w λb j=>b=u/\j=w)(p:∀B C c,ZaX->aA X B (Y8 E it (Oo la (k+1))) C->aw B u c->x Zao C):ZU YH m (VP (.ref b)) x PY G:=by
 obtain⟨nl,t⟩:=a.ol;have hm:=Dp _ _ a.om;obtain⟨o,z,D,F⟩:=UK _ _ e;refine Z7 (Vg (XG ⟨_,hm,rfl⟩ dz (X7 dz ⟨_,hm,rfl⟩ iZ ?_ (jG _))));walk_at"c";show ZU _ _ (field ZaP 0>>=_) _ _ G;refine Z7 (OI hm rfl rfl ?_);refine Z7 (VI (Dp _ _ a.ot) rfl ?_);refine Z7 ?_;walk_at"c";refine Z7 (Z7 (ZF (wpAny_nextOf_list_item ⟨o,z,D,F⟩ (aq (Dp _ _ t)) hv λI N hs=>?_)));walk_at"h";obtain⟨Q,T,V,PM⟩:=N;have d:aA X y (Y8 E it (Oo la (k+1))) {G with X_:=I,Wf:=Wv}:=bk e hs ⟨Q,T,V,PM⟩;refine Z5 ?_;refine Z5 ?_;show ZU _ _ (field ZaP 1>>=_) _ _ _;refine Z7 (OI (d.aG _ _ a.om) rfl rfl ?_);refine Z7 (ZF (Wa (method_call (d.aG _ _ a.oq) ?_)));walk_at"w";refine V' (g _ _ (rm.in1.le (Fy)) y _ [s,i] d (.cons rs (.one r))) λPZ PN PR=>?_;clear g;obtain⟨c,B,P0,w,YA,PS,PT,PW,YB,YC⟩:=PR;subst YA;subst YB;subst YC;refine Z7 (sk ?_);exact Z5 ⟨c,rfl,Z5 (p B PN c PS PW PT)⟩
theorem Dq(hh:XW=none)(b:lY y d tp q it la f s i)(S:Zah)(c:E it=ZcA)(hv:i[k]?=none)(g:∀C,aA X y (H2 E it) C->l none C):ZU YH m (VP (.ref d)) l x G:=by
 obtain⟨nl,j⟩:=b.ol;have hm:=Dp _ _ b.om;obtain⟨n,p,r,t⟩:=UK _ _ c;refine Z7 (Vg (XG ⟨_,hm,rfl⟩ dz (X7 dz ⟨_,hm,rfl⟩ iZ ?_ (jG _))));walk_at"c";show ZU _ _ (field ZaO 0>>=_) _ _ G;refine Z7 (OI hm rfl (x:=.ref tp) rfl ?_);refine Z7 (VI (Dp _ _ b.ot) rfl ?_);refine Z7 ?_;refine Z7 (Z7 (ZF (wpAny_nextOf_list_end hh ⟨n,p,r,t⟩ (aq (Dp _ _ j)) hv λz e he u=>?_)));refine Z7 (Up u I_ ?_);have w:aA X y (H2 E it) G:=S.drop λa o e=>(ck e).2;have np:∀o,¬y it o:=λo e=>by have:=c4 _ _ e;exact ax (SS c)
 exact Z5 (g _ (w.ext (dZ ..) np (L2 _ _ c) he))
theorem Bi(rm:Rm X m (T+3))(Qd:NJ it=none)(t:S≠it)(PR:∀(i:U)q w,i<Zv->Rm X q T->b9 X q (.ref PS) [PT,UG i .none] w λd PW=>d=rs.getD i .none/\PW=w)(N:Zd=Zv)(Q:Zv<=ZK):∀(j k:U)(y:aT)(E:GH)(G:Za),k+j=Zv->aA X y E G->E S=some (.list (TH k))->E it=ZcA->lY y d tp Qe it la PS PX PY->ao y b PY.toList->aw y PT PX->(∀a o,a≠S->a≠it->NJ a=Zai->E a=Zai)->(∀B w C,ZaX->aA X B w C->(∀a o,a≠S->a≠it->NJ a=Zai->w a=Zai)->w S=some (.list rs)->R (.ok (.ret PZ)) C)->U7 YH m (.builtin "list.extend.loop" ⟨[Za7,ZaO,PZ],[]⟩) R G:=by
 intro P0;induction P0 with
 |V1=>
  intro k y E G c u x z p rl r ex A;refine V2 Ov ?_;walk_at"a";walk_at"c";show ZU _ Ut (VP ZaO>>=_) _ _ G;refine Z7 (Dq rm.in1.handled p u z (by rw[T4];have:=W0;exact KS c this) λC s=>?_);refine Z5 (A y _ C (.refl _) s (λa o h1 h2 e=>by rw[bZ _ h2];exact ex a o h1 h2 e) ?_);rw[bZ _ t,x,YQ (KS c N)]|VF j P2=>
  intro k y E G c u x z p rl r ex A;refine V2 Ov ?_;walk_at"c";show ZU _ Ut (VP ZaO>>=_) _ _ G;have D:k<Zv:=by exact GJ c
  obtain⟨Qf,hv,P4⟩:=h7 k (Z6 D);have hg:UG k .none=b[k]:=by simp[Z0,D]
  have P5:rs[k]?=some (rs.getD k .none):=by rw[Z0,Z6 (by exact Ly c N)]at⊢;rfl
  refine Z7 (AP (n:=T) rm.in1 p u z (by simpa using hv) P4 r (λq w P6=>by rw[<-hg];exact PR k q w D P6) λB C f l s P7=>?_);have V:Y8 E it (Oo la (k+1)) S=some (.list (TH k)):=by rw[ag t];exact x
  obtain⟨g,n,PM,PN⟩:=s.objs _ _ V;have I:=PN.size;rw[Zo]at I;show ZU _ Ut (updateSeq S (·.push f)>>=_) _ _ _;refine Z7 ?_;have P8:aA X B (Y8 (Y8 E it (Oo la (k+1))) S (.list (TH (k+1)))) {C with X_:=C.heap.update S (Yc (·.push f)),Wf:=C.toks}:=s.set V (Y' ..) (Vs (g.push f) (if(g.push f).size==g.size then n else n+1) ⟨YR (o:=X8 Zae g n) _ PM rfl,by rw[Se,X9,P5];exact PN.snoc P7⟩);refine UX PM rfl (Z5 ⟨TS Ou _,P2 (k+1) B _ _ (by exact Ju c) P8 (aa ..) (by rw[ag (Zh t)];exact aa ..) (p.mono l) (ew l) (Uv l) (λa o h1 h2 e=>by rw[ag h1,ag h2];exact ex a o h1 h2 e) λP9 Qa Qb Qc=>A P9 Qa Qb (l.trans Qc)⟩) (by rw[I];(exact La c Q)) (by show(g.push f).size<=ZK+1;rw[Array.size_push,I];(exact LB c Q))
theorem wq(a:ZH b=ZaD)(c:d.cls=Zaw)(h:f ZaP G):ZU YH m (h6 (.ref b)) f i G:=by
 refine wpAny_pyIter_slot ⟨_,a,c⟩ jQ (X7 jQ ⟨_,a,c⟩ mY ?_ (pv _));show ZU _ _ (e4 (.ref b)) _ _ G;exact Z5 ⟨_,rfl,"map",_,⟨_,a,c⟩,dz.lookup,h⟩
theorem B9(rm:Rm X m (n+5))(z:l it=none)(V:∀(i:U)T w,i<Wq->Rm X T n->b9 X T Zb9 [PM,k.getD i .none] w λb PN=>b=rs.getD i .none/\PN=w)(PR:Zd=Wq)(PS:Wq<=ZK)(q:Zah)(r:E it=some (Oo la 0))(c:lY y b tp Qa it la f PT PW)(rl:ao y k PW.toList)(PX:aw y PM PT)(ex:Wz l E)(PY:∀S B w C,ZaX->aA X B w C->Wz l w->l S=none->w S=some (.list rs)->PZ Za7 C):ZU YH m (VQ Zae [ZaP]) PZ Qb G:=by
 refine callType_codes (Q₁:=λobj s=>obj=ZaB/\s={G with X_:=Zm {Uc:=Zae,Xg:=.seq #[]}}) F.called_list (F.typeCall_list_1 _) F.entry_list_init (code_list_new _ ⟨rfl,rfl⟩) λobj s P0=>?_;obtain⟨rfl,rfl⟩:=P0;generalize p:ZZ=S;have g:(Zm {Uc:=Zae,Xg:=.seq #[]}).get? S=some {Uc:=Zae,Xg:=.seq #[]}:=by subst p;exact ZL _ rfl
 have t:=q.fresh (GX p);have A:aA X y Zby {G with X_:=Zm {Uc:=Zae,Xg:=.seq #[]}}:=by
  clear g t;subst p;exact q.new ⟨#[],0,ZL _ rfl,.nil⟩
 have D:S≠it:=by intro j;subst j;rw[t]at r;cases r
 have P2:S≠b:=λe=>by have:=XN (q.aG _ _ c.om);rw[p,e]at this;exact UE _ this
 have I:=kV t;refine⟨⟨_,g,rfl⟩,F.args_list_init_2 _ _,?_⟩;walk_at"h";show ZU _ Sq (do let old<-Builtin.List.listItems Za7;BO Za7 (λO=>#[]);letGo old.toList.reverse;TK Za7 ZaP .none) _ _ _;refine Z7 ?_;refine Z7 (VI g rfl (Z5 ?_));show ZU _ Sq (updateSeq S (λO=>#[])>>=λO=>letGo #[].toList.reverse>>=λO=>TK Za7 ZaP .none) _ _ _;refine Z7 (UX g rfl ?_);walk_at"f";have u:=YR (Yc (λO=>#[])) g rfl;have d:aA X y ZaT {G with X_:=(Zm {Uc:=Zae,Xg:=.seq #[]}).update S (Yc (λO=>#[])),Wf:=Wv}:=A.set (aa ..) (Y' ..) ⟨#[],_,u,.nil⟩;rw[aQ]at d;refine Z7 (sk ?_);clear A;refine Z7 (wd ⟨_,d.aG _ _ c.om,rfl⟩ ?_);have h1:S5 Za7 ZaP=false:=by simp[S5,P2]
 have h2:(Vz "map"==Vz "list")=false:=by rfl
 have N:(Vz "map"==Vz "tuple")=false:=by rfl
 first|refine UW (T6 (by rw[h1,h2,N];exact Yn) ?_)|refine Z7 (UW (T6 (by rw[h1,h2,N];exact Yn) ?_))
 refine Z7 (wq (d.aG _ _ c.om) rfl ?_);refine Z7 (ZF ?_);refine Z7 (VA ⟨_,d.aG _ _ c.om,rfl⟩ vm ?_);show ZU _ Sq (q_ (N' b) (WZ "__length_hint__")>>=_) _ _ _;refine Z7 (VA ⟨_,d.aG _ _ c.om,rfl⟩ tO ?_);refine Z5 ?_;show ZU _ Sq (rule "list.extend.makes-room">>=λO=>Builtin.List.listTouch Za7>>=λO=>OR (.builtin "list.extend.loop" ⟨[Za7,ZaP,.none],[]⟩)) _ _ _;refine Z7 (Vy ?_);refine Z7 ?_;refine Z7 (UX u rfl ?_);walk_at"f";have x:=YR (Yc (·.push U9)) u rfl;refine UX x rfl ?_;have P4:=YR (Yc (·.pop)) x rfl;have Q:aA X y ZaT {G with X_:=(((Zm {Uc:=Zae,Xg:=.seq #[]}).update S (Yc (λO=>#[]))).update S (Yc (·.push U9))).update S (Yc (·.pop)),Wf:=Wv}:=by
  have P5:aA X y (Y8 Zby S (.own λO=>m2)) {G with X_:=(((Zm {Uc:=Zae,Xg:=.seq #[]}).update S (Yc (λO=>#[]))).update S (Yc (·.push U9))),Wf:=Wv}:=d.set (aa ..) (Y' ..) ⟨_,x,trivial⟩;have z2:=P5.set (n:=Wv) (a:=Zar) (aa ..) (Y' ..) ⟨#[],_,P4,.nil⟩;rw[aQ]at z2;exact z2
 rw[aQ]at Q;refine Z5 ⟨TS Ou _,Bi (m:=Ut) (T:=n) (NJ:=l) (rm.in1.le (by exact fF 0x660f0c1e1 [3,4] [_] [])) z D V PR PS Wq 0 y _ _ (by exact O4) Q (aa ..) (by rw[ag (Zh D)];exact r) c rl PX (λa o h1 h2 e=>by rw[ag h1];exact ex a o e) λB w C P6 P7 P8 P9=>?_⟩;refine⟨rfl,PY S B w C P6 P7 (λa o e=>P8 a o ?_ ?_ e) I P9⟩;.intro j;subst j;exact fv e I rfl
 .intro j;subst j;exact fv e z rfl
theorem EV.Bz(b:Zcc)(PW:bN X NQ r QA fn)(P7:findCls NQ Zb0 Zas "_make"=some (.get (.builtin "classmethod.__get__") (.ref q) .none (.ref r)))(P8:recIn NQ q "classmethod"=some [.ref fm,.bool false])(rm:Rm X m (n+5))(P9:V0 f=some Zb0)(Qa:XX f=Zaa)(Qb:XX ("list")=Zaa)(Qc:XX ("map")=Zaa)(hl:V0 ("list")=none/\Va ("list")=some Zae)(hm:V0 ("map")=none/\Va ("map")=some Zaw)(h:EV X m A (ZG l A) o E λc G=>∃d rs:ZaV,c=.lst d/\Zd=YG/\YG<=ZK/\(∀(i:U)u w,i<YG->Rm X u n->b9 X u (.ref fm) [Zb0,tf i .none] w λc N=>c=rs.getD i .none/\N=w)/\PX (.lst rs) G)(PY:Z3 (Zr [l] A=(false,ZG l A)::ZbB) aR)(Qd:Z3 ((f==("__debug__"))=false) aD):EV X m A (ZG (.Call (.Name ("list") p1) [.Call (.Name ("map") p2) [.Attribute (.Name f QB) ("_make") QC,l] [] QD] [] QE) A) o E PX:=λQF QG PZ=>by
  walk_at"a";refine sL ?_ rfl;walk_at"a";refine(p_ (g:=λc w=>c=.raw Zae/\w=E) b Qb hl.1 hl.2 ⟨rfl,rfl⟩ (by rfl)).use PZ λQe QH e mv G Qf Qg P0 Qh=>?_;clear PZ;obtain⟨rfl,rfl⟩:=Qh;cases Qg.raw;refine TJ (rr (ZS (Q:=λe Q=>∃j tp q it la p d rs c,e=Zc1/\bG Qe j/\∃G,ak X j A o (Y8 G it (Oo la 0)) Q/\G it=none/\lY j c tp q it la fm Zb0 p/\ao j d p.toList/\Zd=YG/\YG<=ZK/\(∀(i:U)u w,i<YG->Rm X u n->b9 X u (.ref fm) [Zb0,tf i .none] w λc N=>c=rs.getD i .none/\N=w)/\PX (.lst rs) G) ?_ (λe Q z=>?_) λO O z=>z) rfl) rfl rfl
  . refine sL ?_ rfl;walk_at"a";refine(p_ (g:=λc w=>c=.raw Zaw/\w=G) b Qc hm.1 hm.2 ⟨rfl,rfl⟩ (by rfl)).use P0 λQi Q e mv t T Qj x Qk=>?_;walk_at"a";clear P0;obtain⟨rfl,rfl⟩:=Qk;cases Qj.raw;refine TJ (rr ?_ rfl) rfl (by rw[PY];rfl);walk_at"a";refine sg ?_ (by with_unfolding_all rfl);walk_at"a";refine(mi (g:=λc w=>c=.raw Zb0/\w=t) b Qa P9 ⟨rfl,rfl⟩ Qd).use x λQl y e mv QI Qm Qn P2 k=>?_;obtain⟨rfl,rfl⟩:=k;rw[Qn.raw];have HG:=PW.at_ P2.g;refine cls_bind HG PW.reads P7 (Wa (cm_get (s:={y with Wf:=y.toks+1}) HG P8 (handed_on rfl ?_)));have B:=(P2.toks (y.toks+1)).Aj (methodObj (.ref fm) (.ref r));generalize QJ:y.heap.objs.size=q at B⊢;walk_at"e";refine rr (ZS (h _ _ B) (λe s z=>?_) λO O z=>z) PY;walk_at"a";obtain⟨C,mv,V,a,PM,S,d,rs,rfl,PN,PR,PS,PT⟩:=z;refine c0 ?_;obtain⟨la,p,nl,rfl,P4,rl⟩:=PM.seq;refine callType_new vL (by rfl) (nB _ _) (pg _ _) (λobj=>F.args_object_init_3 obj _ _) oZ (oV _ la p) ⟨aq (Yd _ _ P4),?_⟩;generalize P5:Zz=it;walk_at"R";have D:V it=none:=Uw (by exact GX P5);have Qo:ak X C A o (Y8 V it (Oo la 0)) {s with X_:=Ts (m6 la)}:=by
      rw[<-P5];exact S.new (ob:=m6 la) (a:=Oo la 0) ⟨_,ZL _ rfl,rfl,rfl⟩
    have Qp:=Qo.Aj (xu it);exact⟨⟨_,ZL _ rfl,rfl⟩,_,(Ts (m6 la)).objs.size,q,it,la,p,d,rs,_,rfl,λI M l=>.inl (.inl (a _ _ (.inl (Qm _ _ (T _ _ l))))),V,(Qp.Aj (BH (Ts (m6 la)).objs.size (.ref q))),D,⟨.inr ⟨rfl,rfl⟩,.inl (.inr ⟨rfl,rfl⟩),.inl (.inl (a _ _ (.inr ⟨rfl,rfl⟩):C q (methodObj (.ref fm) (.ref r)))),⟨nl,.inl (.inl P4)⟩⟩,ew (λI M l=>.inl (.inl l)),PN,PR,PS,PT⟩
  .obtain⟨Qi,tp,q,it,la,p,d,rs,c,rfl,T,t,x,D,Qq,rl,PN,PR,PS,PT⟩:=z;refine c0 ?_;obtain⟨Ql,k,Qr,OB⟩:=x.kG;clear x;refine B9 (n:=n) rm (l:=t) D PS PN PR Qr (aa ..) (Qq.mono k) (ew k) (aE ..) (λI M l=>by rw[ag (by intro Qt;subst Qt;exact ax (D.symm.trans l))];exact l) λQK j w Qu Qv Qw Qx Qy P6=>?_;obtain⟨QL,Qz,B,QM,_⟩:=OB j w Qu Qv Qw;obtain⟨C,a,PM,S⟩:=B.jc P6;clear P6;exact⟨C,.lst rs,t,(Qf.trans T).trans (Qz.trans a),PM,S.drop (λI M l=>by rw[bZ _ (fv l Qy)];exact Qx I M l),PT⟩
theorem GF.freeze(ga:E a=some (.list i))(l:YS)(hl:∀x mv,VU x=ZaQ->Ys x=ZaQ\/(Ys x=some Zag/\mv=.lst i))(h:GF X m Nv Ni XO Nk A n l (H2 E a) w Nc NS):GF X m Nv Ni XO Nk A n o E w Nc NS:=λT s g j gd p u y z S k=>by
  obtain⟨B,c,D,F⟩:=S.jc ga;refine h B s g j gd p u y (z.more c) (F.eE λx mv e=>?_) λI M f N l G C t Q a b d e x=>k I M f N l G C t Q (c.q.trans a) b d e x;walk_at"b";refine(hl x mv e).elim (λh=>?_) λYA=>?_;.exact⟨mv,h,λO r=>r⟩
  .obtain⟨h,rfl⟩:=YA;exact⟨_,h,λV r=>by rw[Vh];exact D⟩
theorem GF.G9(F:ic X m Ni XO n)(I:U->YS->GH->GH->J MV->Prop)(h:EV X Zbv A ZaZ o E λd G=>∃(b:ZaV)(f:U->YS->YS)(l:YS),d=.lst b/\I 0 l G w Nc/\Od l o/\(∀i,i.handled=none->∀k d,b[k]?=ZaD->TG X i cu A u d (f k))/\(∀c j p k d o E w Nc,ic X m c j n->b[k]?=ZaD->I k o E w Nc->GF X m Nv c j p A ZbO (f k o) E w Nc (F0 (I (k+1)) NS))/\(∀o E w Nc,I Zv o E w Nc->NS .next o E w Nc))(hs:Z3 (∀x,ZbT=Ye x) aI):GF X m Nv Ni XO Nk A Zbh o E w Nc NS:=by
 refine GF.vO (QG:=cu) F I (λN s t=>?_) hs;walk_at"a";refine W1 t λy Q T d G a r S z=>?_;obtain⟨b,f,l,rfl,i0,B,tg,UB,Ue⟩:=z;walk_at"b";refine⟨y,G,Zv,_,a,S,Ck.list r Yd,f,l,i0,B,λi C k q=>?_,λc j p k o E w Nc D q M=>UB c j p k b[k] o E w Nc D (Z6 q) M,Ue⟩;have e:UG k .none=b[k]:=by simp[Z0,q]
 rw[e];exact tg i C k _ (Z6 q)
theorem c9{b:p' α}{f:α->p' β}{K:β->p' Fin}(h:ZU M (Tp c fs) b (λa C=>bF M m d c ((f a).wrap K i gd l) fs C) (λO O=>L_) G):bF M m d c ((b>>=f).wrap K i gd l) fs G:=by
 rw[XI,W3];exact b8 (ZS h (λO O q=>q) λO O q=>Vr)
abbrev oK(e t WC:Wy)(X0:gq)(Yl:iv):Wy:=.GeneratorExp e [⟨t,WC,[],0⟩] X0 Yl
structure Gk(X:Cx)(n:U)(e t:Wy)(c:SM)(cc:Y_)(o:OD)(b rs:ZaV)(f:U->YS->YS):Prop where
 len:Zd=Zv
 fn:c.scope.kind=.function
 gl:c.globals=W2
 bi:c.builtins=We
 cl:c.cells=[]
 co:c.scope.isCoroutine=false
 tg:∀A,A.handled=none->∀k m,b[k]?=Zcg->TG X A cu c t m (f k)
 st:lr o
 el:∀A k l G a s r,Rm X A n->rs[k]?=ZaW->a cc o->ak X a c (f k l) G s->ZU YH A (ZG e c) (PV X c a (f k l) λm d=>m=r/\d=G) bz s
theorem Cn(c:Gk X P2 d i A cc P4 u rs Qt)(rm:Rm X (Tp (.compLoop ZbK 0 ZaP .none A) []) P2):∀(j k:U)(o:YS)(y:aT)(w E:GH)(G:Za),k+j=u.length->ak X y A o E G->E b=ZcA->y la (X8 (.type "list") P5 nn)->ao y u P5.toList->y cc P4->Wz w E->w b=none->bF YH m (CU X m (.ok .next) (rs.drop k) y w) (.compLoop ZbK 0 ZaP .none A) (X.M.den (.compLoop ZbK 0 ZaP .none A)) [] G:=by
  have P6:∀{y:aT}{o:YS}{E:GH}{G:Za},Zab->∀{n},E b=Zdb->b≠YL:=λS O e=>fv e (S.f.lG.1);intro j;induction j with
  |V1=>
    intro k o y w E G t S p hp rl hq z B;walk_at"u";walk_at"u";show bF _ m _ _ ((compTurn ZbK 0 ZaP .none A).onRaise (leaving A)) [] G;walk_at"V";rw[Uz];walk_at"u";obtain⟨F,N,Q,T⟩:=Wd _ _ p;refine c9 (Yo ?_);refine c9 (wpAny_pyNext_list_end YO (show G5 b la k from⟨F,N,Q,T⟩) (aq (Yd _ _ hp)) (by have:=W0;simp;exact KS t this) λC he=>?_);have P7:aA X y (H2 E b) G:=S.g.drop λPN n e=>(ck e).2;have np:∀n,¬y b n:=λn e=>by have:=OC _ _ e;exact ax (SS p)
    have P8:aA X y (H2 E b) {G with X_:=C}:=P7.ext (dZ ..) np (OZ _ _ p) he;rw[Vm (by rw[c.len];exact aV 0x1fc845b141a1 [_,_] t)];have Ue:CU X m (.ok .next) [] y w (.ret (.ok .next)) {G with X_:=C}:=⟨rfl,rfl,y,_,Zbs,z.del B,P8⟩;exact uS (.ok .next) Ue|VF j P9=>
    intro k o y w E G t S p hp rl hq z B;walk_at"V";show bF _ m _ _ ((compTurn ZbK 0 ZaP .none A).onRaise (leaving A)) [] G;rw[Uz];obtain⟨F,N,Q,T⟩:=Wd _ _ p;have V:k<u.length:=by exact GJ t
    obtain⟨x,hx,Qa⟩:=h7 k (a:=u[k]) (Z6 V);refine c9 (Yo ?_);refine c9 (wpAny_pyNext_list_item (show G5 b la k from⟨F,N,Q,T⟩) (aq (Yd _ _ hp)) (by simpa using hx) λC Qb hs=>?_);obtain⟨Qc,PR,PS,Qd⟩:=Qb;have Qe:ak X y A o (Y8 E b (Oo la (k+1))) {G with X_:=C,Wf:=Wv}:=bk p hs ⟨Qc,PR,PS,Qd⟩;have PT:Wz w (Y8 E b (Oo la (k+1))):=z.upd B;show bF _ m _ _ ((Xm i ZaP x>>=λO=>KP i A x>>=λO=>_).wrap _ _ _ _) [] _;refine c9 (eD PR PS ?_);refine c9 (ZS (c.tg _ YO k u[k] (Z6 V) y o _ _ x Qe Qa) (λO s2 Qf=>?_) λO O q=>Vr);have PW:k<Zd:=by rw[c.len];exact V
    refine c9 (α:=Y0) (Z5 ?_);show bF _ m _ _ (((ZG d A>>=λr=>VV d.pos>>=λO=>k1 A r>>=λO=>Ye oa)>>=λO=>OR _).wrap _ _ _ _) [] _;rw[XI (_>>=_),W3];refine c9 (ZS (c.el _ k o _ y s2 rs[k] rm (Z6 PW) hq Qf) (λr Qu q=>?_) λO O q=>Vr);obtain⟨Qg,Qv,Qh,a,Qi,D,rfl,rfl⟩:=q;refine c9 (Yo ?_);rw[(λr=>by simp only[k1,c.co,T8,B_]:∀r,k1 A r=yieldValue r)];have I:Y8 E b (Oo la (k+1)) b=some (Oo la (k+1)):=aa ..;generalize Y8 E b (Oo la (k+1))=Qh at D I PT;refine m8 rfl λQw=>?_;rw[Xz PW];walk_at"ax";obtain⟨ob,Qj,Qk⟩:=D.sleep (λx mv hx=>(D.f.knd x mv hx).elim (λq=>q) λq=>q.2.elim λQx Ql=>ax ((Zq (List.lookup x) c.cl).symm.trans Ql));have PX:=z.none S.f.lG.1;have PM:=P6 D I;refine⟨rfl,Qg,_,Y8 (Y8 (λO=>none) b (Oo la (k+1))) YL (.own (.=ob)),a,PT.upd PX,λPN n e=>?_,λPN n e=>?_,Qi,Qj,fQ.mpr λQm PY Qn Qo l PZ Qp P0 Qq=>?_⟩;.exact xv e (aa ..) λh1 e=>(ag h1).trans (eJ e I ax)
    .exact eJ e PX λe=>eJ e B ax
    .have Qr:=ak.wake Qq (PZ _ _ (aa ..)) Qk l c.fn c.gl c.bi c.cl;refine cO rfl (P9 (k+1) _ Qm PY _ Qo (by exact Ju t) Qr (by rw[bZ _ PM];exact(PZ _ _ (by rw[ag PM];exact aa ..):Qn b=some (Oo la (k+1)))) (l _ _ (.inl (exI3 _ _ _ rfl)) (a _ _ hp)) (rl.ip (a.s.trans l)) (l _ _ c.st (a _ _ hq)) (Qp.del (P0 _ _ (aa ..):PY YL=none)) (P0 _ _ (by rw[ag PM];exact aa ..)))
structure uQ(X:Cx)(c:Y_):Prop where
 nt:c≠t7
 ex:∃o a f t b tg i d tt,Yz c=Zai/\o.cls=ZaK/\L3=.fields a/\a[11]?=some (.ref t7)/\Wm 18 .none=.str f t/\Wm 7 .none=.int b tg/\Wm 9 .none=.bool i/\Wm 10 .none=.int d tt
theorem uQ.is(K:uQ X c)(S:Zah)(ht:ZH t7=some {Uc:=.none,Xg:=.fields ps})(t:TriplesOk h'):G.heap.IsCode c t7 ps/\G.heap.TableAt c t7 ps/\isCodeTable X.B t7:=by
 walk_at"g";obtain⟨o,a,f,j,k,tg,i,l,tt,d,e,hd,b,m,n,p,q⟩:=K.ex;have g:=Tu _ _ d K.nt;exact⟨⟨o,a,f,j,k,tg,i,l,tt,_,g,hd,by rw[d6,b];rfl,m,n,p,q,ht,rfl,t,K.nt⟩,⟨⟨o,a,g,e,hd,b⟩,ht⟩,(Vs c o ⟨a,d,e,hd,b⟩)⟩
theorem oW(l:Zc7)(h:TriplesOk l)(hn:D_ Yl (l++[VY a,VY b,c])=Za8):D_ Yl l=Za8\/f=c:=by
 walk_at"N";fun_induction TriplesOk l with
 |case1=>
  simp only[Yh,D_,VY]at hn;split at hn;.exact .inr (ZW hn).symm
  .cases hn|case2 e t g u x XE i=>
  simp only[WO,D_]at hn⊢;refine bQ rfl (λd=>?_) λd=>?_;.rw[ZT d]at hn;exact .inl hn
  .rw[ZY d]at hn;exact i h hn|case3 l h1 h2=>exact Xp
theorem OldK.table(K:OldK f h)(hx:Tq T h i)(ht:Vq T=some {Uc:=.none,Xg:=.fields ps})(it:isCodeTable f T)(h2:i.get? T=some {Uc:=.none,Xg:=.fields (ps++SN)}):OldK f i:=by
  refine⟨λb o e=>?_,λb o e=>?_⟩
  . by_cases hb:b=T
    . subst hb;refine .inr (.inl ?_);walk_at"g";rcases K.old b o e with x|⟨t,g,j,m,hv,x⟩|⟨_,g,⟨a,d,n,c,_,hd,_⟩,z⟩;.rw[ht]at x;cases x;exact⟨it,rfl,ps,SN,rfl,h2⟩
      .rw[ht]at x;obtain⟨k,l,p,q⟩:=o;clear ht e;cases x;refine⟨it,rfl,j,m++SN,hv,?_⟩;rw[h2,Array.append_assoc]
      .rw[ht]at c;cases c;cases hd
    .exact xg (K.old b o e) λa=>hx b a hb
  . by_cases hb:b=T;.rw[hb];exact⟨_,h2⟩
    .obtain⟨a,c⟩:=K.there b o e;exact⟨a,hx b a hb c⟩
theorem sd(K:uQ X F)(z:A.code=.ref F)(S:Zab)(h:∀B C c d D,ZaX->ak X B A o E C->B c d->d.cls=ZaK->d.data=.fields D->PT Zc1 C):ZU YH m (genexprCode A Yl q X0) PT Ql G:=by
  obtain⟨ps,ht,r,I⟩:=S.g.old.t;obtain⟨i1,PW,PX⟩:=K.is iw ht r;cases hv:D_ Yl h' with
  |none=>
    refine wpAny_genexprCodeX z i1 PW hv λc Qm Qn hx hge PY PZ P0 N P2=>SA P2 λQo Yw=>and3 Yw λO O P4=>?_;obtain⟨⟨s,Q,P5,V,PM,_⟩,_⟩:=P4;have l:=hge;have neT:∀a(d:MO),Yz a=none->a≠t7:=λa d e=>λq=>oC e hC;clear PY PZ P0;refine h (cI y c s) _ c s Q Tx ⟨⟨⟨OldK.table S.g.old.k hx ht PX N.2,S.g.old.b,λd e=>VD (S.g.old.p d) λq=>(oC (S.g.hU l)) q.1,_,N.2,by simpa using TriplesOk_snoc _ _ _ _ r,λPN n P6=>?_⟩,λi d e PR=>hx i d PR (K_ i d e PR),λi d e=>?_,λi d e=>?_,λi d e=>?_,OZ,ct,cj⟩,?_⟩ (.inr ⟨rfl,rfl⟩) V PM
    . have P7:D_ PN (h'++[VY LV,VY pos.col,Zc1])=Zdb:=by simpa using P6
      walk_at"b";refine(oW _ r P7).elim (λe=>?_) λYA=>?_;.obtain⟨P8,P9,Qa,Qb,q2,q3,q4⟩:=I PN n e;exact⟨P8,P9,Qa,Qb,.inl q2,q3,q4⟩
      .subst YA;exact⟨c,s,Q,rfl,.inr ⟨rfl,rfl⟩,V,PM⟩
    . refine VD (λe=>?_) λYA=>?_;.exact hx i d (λq=>S.g.old.p d (q▸e)) (Yd i d e)
      .obtain⟨u,Qc⟩:=YA;rw[u,Qc];exact P5
    .have x:=Wd i d e;walk_at"ay";obtain⟨w,PS⟩:=x.obj;exact x.mono Tx ((hx i w ((λa d e=>neT a d (OZ a d e):∀a d,E a=ZaD->a≠t7) i d e) PS).trans PS.symm)
    . refine VD (λe=>?_) λYA=>?_;.exact OC i d e
      .obtain⟨u,_⟩:=YA;rw[u];exact Uw l
    . refine CV.more (CV.keep S.f (λd e=>hx _ d (neT _ (.own λO=>m2) S.f.lG.2.2) e) (λx j d rb e=>hx _ d (neT _ (.own λO=>m2) (W8 x j rb).2.1) e) S.f.lG.1 λx j rb=>(W8 x j rb).1) Tx (λd e=>?_) λx j rb Qd d e=>?_
      . refine VD (λe=>?_) λYA=>?_;.exact S.f.lG.2.1 d e
        .obtain⟨q,_⟩:=YA;exact Zc (q▸S.lW) (Wg l)
      . refine VD (λe=>?_) λYA=>?_;.exact(W8 x j rb).2.2 Qd d e
        .obtain⟨q,_⟩:=YA;exact Zc (q▸S.kA rb) (Wg l)|some n=>
    obtain⟨c,w,Qe,rfl,hp,Qf,hd⟩:=I Yl n hv;obtain⟨d,D,Qp,Qq,Qr,tg,Qt,Qu,tt,Qv,Qg,Qh,Qi,Qw,Qx,Qy,Qz,Qj,Qk,QA,QB⟩:=id i1;unfold genexprCode codeAt;rw[z,ZY (show¬((N' F==U9)=true)from Yn)];refine Z7 (wpAny_fieldsOf Qg Qh ?_);rw[Qi];refine Z7 (wpAny_fieldsOf Qj Qk ?_);rw[hv];exact Z5 (h y G c w Qe (.refl y) S hp Qf hd)
theorem MT{f:Z->nj->α}{g:α}{a:α->Prop}(h:∀x t,a (f x t))(k:a g):a (inMainModule.match_3 (λ_=>α) NI f λ_=>g):=by induction NI using Value.casesOn with|str x t=>exact h x t|_=>exact k
theorem Dz(c:A.code=.ref cc)(d:ZH cc=Za8)(hd:f.data=.fields k)(h:∀b,a b G):ZU YH m (inMainModule A) a i G:=by
 unfold inMainModule;rw[c,ZY (show¬((N' cc==U9)=true)from Yn)];refine Z7 (wpAny_fieldsOf d hd ?_);refine MT (a:=λe=>ZU YH m e a i G) (λO O=>?_) ?_;.exact Z7 (Uo (Z5 (h _)))
 .exact Z5 (h _)
theorem add_str(c:G.heap.SetOf ZaL d S n)(hb:n+1<NO)(h:∀a r,Xo d YI a->a.SetOf ZaL d (λk=>S k||decide (k=x)) (if S x then n else n+1)->f r {G with X_:=a,Wf:=Wv+1}):ZU YH m (setAdd d (.str x b)) f i G:=by
 refine ZF (Z7 ((W' Wj Sl).pyHash ((cq X x _).mpr ⟨b,rfl⟩) ?_));exact wpAny_setAddHashed_of ((cq X x _).mpr ⟨b,rfl⟩) rfl c hb λa hs e=>h a _ hs e
theorem zN(i:G.heap.SetOf ZaL a S n)(h:∀b,Xo a YI b->b.SetOf ZaL a S n->k () {G with X_:=b}):ZU YH m (setUnled a) k r G:=by
 obtain⟨o,d,e,t,c,j,hd,l,p,hb,f,hn⟩:=i;have q:({t with led:=false}).fits Yy=true:=by cases t;exact f
 refine Z7 (kp c hd f ?_);refine kn c hd ?_ (kl hb);obtain⟨_,g⟩:=SetOf_store c j hd l p hb q;rw[hn]at g;exact h _ (Y' YI a (Obj.putSet d {t with led:=false})) g
theorem lF(h:b (.str a Wv) {G with Wf:=Wv+1}):ZU YH m (ZG (.Constant (.str a) k Yl) A) b c G:=λO O O=>h
theorem C0(t:A.code=.ref cc)(hp:y cc F)(hd:F.data=.fields PX)(z:Zab)(hx:Ys x=some (.str c))(hn:Z3 ((x=="__classdict__")=false) aD)(B:Z3 ((x=="__debug__")=false) aD):ZU YH m (ZG (.Compare (.Name x PY) [.In] [.Set [.Constant (.str a) ka T,.Constant (.str b) kb Np] 0 ps] Yl) A) (PV X A y o λf w=>f=.bool (decide (c=a\/c=b))/\w=E) bz G:=by
 walk_at"a";refine kdi_eval rfl ?_;walk_at"a";refine(Z4 (g:=λf w=>f=.str c/\w=E) hx ⟨rfl,rfl⟩ hn B).use z λC i j f PZ l r S k=>?_;walk_at"a";obtain⟨rfl,rfl⟩:=k;obtain⟨u,rfl⟩:=u0;refine Z7 (Yo ?_);refine Z7 (Dz t (Yd _ _ (l _ _ hp)) hd λP0=>?_);refine kds_core (ts:=(evalEach [.Constant (.str a) ka T,.Constant (.str b) kb Np] A).map λc=>do let j<-c;VV ps;Ye j) rfl rfl (show 2<=30 by decide) rfl λled=>kds_all ps _ _ _ ?_;generalize n:({Uc:=ZaH,c':=none,Xg:=.set #[] 0 (.fresh 0 0 led)}:OD)=s;walk_at"az";have D:s.isFreed=false:=by rw[<-n];rfl
 have I:s.SetObjOf ZaL (λO=>false) 0:=by rw[<-n];exact setObjOf_fresh led
 have TU:=er S λb q=>by rw[ZD q];exact ZV _
 have p:(i.heap.push s).SetOf ZaL i.heap.objs.size (λO=>false) 0:=I.setOf (ZL _ D) Z';have N:=h9 s;generalize i.heap.objs.size=d at TU p;refine lF (lF ?_);walk_at"aA";refine kds_fill_cons (add_str p Z' λP2 P4 Q V=>?_);walk_at"aB";refine kds_fill_cons (add_str V (by split<;>decide) λP5 P6 PM PN=>?_);walk_at"aC";refine kds_fill_nil rfl (kdi_mark (zN PN λPR PS PT=>?_));refine wpAny_inSet_of ((cq X c _).mpr ⟨u,rfl⟩) rfl PT ?_;refine⟨C,_,_,l,aE ..,N.mv TU (Ct (λb e hb PW=>PS.extBut b e (by simpa using hb) (q6 b e (by simpa using hb) (Q.extBut b e (by simpa using hb) PW)):∀b e,b∉[d]->(i.heap.push s).get? b=Zb6->PR.get? b=Zb6)),?_,rfl⟩;simp
inductive jP(X:Cx)(r:TN)(n:U)(YX:SM)(l:YS)(c:GH)(i:ZaV)(f:aT)(j:ZP)(s:Za):Prop|mk(d:aT)(G b:GH)(ga:Y_)(g:U)(st:Vb)(le:bG f d)(S:ak X d YX l G s)(hv:j=ZaR)(ex:Wz c G)(at_:G ga=some (.gen g st))(e:Wz b G)(self:b ga=none)(new:c ga=none)(fr:∀a o,b a=Zai->c a=none)(live:∀A,Rm X A n->gB X A r i d b st)
structure BMod(X:Cx)(b:Zcc)where
 bm:Y_
 gl:V0 ("__builtins__")=some (.ref bm)
 ne:bm≠We
 nt:bm≠t7
 o:OD
 get:Yz bm=some o
 Uc:o.cls=.type "module"
 c':o.dict=some We
 Xg:L3=.plain
theorem Rm.comp(h:Rm X m (n+1))(e t WC:Wy)(X0:gq)(Yl:iv)(it:ZP)(YX:SM):Rm X (Tp (.compLoop (oK e t WC X0 Yl) 0 it .none YX) []) n:=⟨by have:=l4;show G_+0+1+n<=900;(exact aV 0x1fc8e0283a0d0e47083841 [_,_,_] this),by have:=lx;show OY+0+3+20*n<=9000;(exact a9 0x7f23848507c1a1c8e1283841 [20,3,20] [_,_,_] [] this),rk⟩
theorem zv(E:Gk X n b c A cc i d rs u)(rm:Rm X m (n+1))(hp:y la (X8 (.type "list") k nn))(rl:ao y d k.toList)(hq:y cc i)(f:je y A o ob)(I:a≠YL):gB X m (.ok .next) rs y (Y8 (Y8 (λO=>none) a (Oo la 0)) YL (.own (.=ob))) (.fresh (.compStart (oK b c WC X0 Yl) 0 Zag .none A)):=by
  refine fQ.mpr λj C G s le e l dj S=>⟨rfl,?_⟩;walk_at"P";have g:G a=some (Oo la 0):=e _ _ (by rw[ag I];exact aa ..);have loop:=Cn (WC:=WC) (X0:=X0) (Yl:=Yl) E (rm.comp b c WC X0 Yl (.ref a) A) YG 0 o j C _ s (by exact O4) (ak.wake S (e _ _ (aa ..)) f le E.fn E.gl E.bi E.cl) (by rw[bZ _ I];exact g) (le _ _ (.inl (exI3 _ _ _ rfl)) hp) (rl.ip le) (le _ _ E.st hq) (l.del (dj _ _ (aa ..))) (dj _ _ (by rw[ag I];exact aa ..));obtain⟨p,q,r,t⟩:=UK _ _ g;show bF _ m _ _ ((compStart (oK b c WC X0 Yl) 0 Zag .none A).onRaise (leaving A)) [] s;rw[Uz];show bF _ m _ _ ((ask>>=_).wrap _ _ _ _) [] s;refine c9 (Uo ?_);refine bQ rfl (λO=>?_) λO=>?_;.exact cO rfl loop
  .refine c9 (Vy ?_);show bF _ m _ _ ((VV iter.pos>>=_).wrap _ _ _ _) [] s;exact c9 (Yo (c9 (wpAny_pyIter_listiter (show s.heap.IsListIter a la 0 from⟨p,q,r,t⟩) (cO rfl loop))))
theorem ak.newGen(S:Zab)(c:Code)(nm q:Z)(t t1 t2:U):ak X y A o (Y8 E ZZ (.gen g7 (.fresh c))) {G with gens:=G.gens.push (.fresh c),Wf:=t,X_:=Zm {Uc:=.type "generator",Xg:=.fields #[.int g7 0,.str nm t1,.str q t2]}}:=by
 walk_at"aD";refine⟨S.g.newGen c,L1 (λb e=>ZC _ e) (λO a b O e=>ZC _ e) ?_ λx a hx=>?_⟩;.rw[ag (Zb S.lW)];exact S.f.lG.1
 .rw[ag (Zb (S.kA hx))];exact(W8 x a hx).1
theorem y8(b:Zcc)(bm:BMod X b)(K:uQ X PT)(PW:A.code=.ref PT)(rm:Za2)(PX:scope.isCoroutine=false)(PY:closureFor X0 A=Ye [])(PZ:∀P0∈scope.names,P0.2≠.cell)(P2:scope.names.lookup (".0")=some Um)(P4:scope.kind=.function)(D:EV X m A ZaZ o E λF w=>F=.lst P5/\w=E)(P6:∀NJ cc i N,i.cls=ZaK->i.data=.fields N->Gk X n T V (genEnv X0 [] NJ (.ref cc) We A) cc i P5 rs Qo)(Q:Zab)(hs:∀x,genFold WC A x=Ye x):ZU YH m (ZG (oK T V WC X0 Yl) A) (jP X (.ok .next) (n+1) A o E rs y) bz G:=by
  walk_at"a";refine wpAny_GeneratorExp_make PX PY PZ P2 P4 w2 (D.use Q λQp P7 Qq F p P8 P9 q Qa=>?_) hs;walk_at"a";clear D Q;obtain⟨rfl,rfl⟩:=Qa;obtain⟨la,N,nn,YA,hp,rl⟩:=P9.seq;rw[YA];refine TL (aq (q.g.aG _ _ hp)) ?_;have r:=q.g.fresh (ZV _);have k:=q.new (ob:={Uc:=Zbo,Xg:=.fields #[.ref la,.int 0 0]}) (a:=Oo la 0) ⟨_,ZL _ rfl,rfl,rfl⟩;generalize P7.heap.objs.size=I at r k;refine⟨k.g.lim b,sd K PW k λt s cc i Qb a S Qc Qd Qe=>?_⟩;rw[G2];refine wpAny_builtinsFor (S.g.ns b.hg b.ng) bm.gl bm.ne (K_ _ _ bm.get bm.nt) bm.cls bm.dict bm.data ?_;intro j hn PM;have fC:=Uw (ZV _);clear k;have PN:=S.new (ob:={Uc:=Za6,Xg:=.dict #[]}) (a:=.own λO=>m2) ⟨_,ZL _ rfl,trivial⟩;obtain⟨ob,d,Qf,PR,Qg,Qh,Qi⟩:=hn;walk_at"aE";have u:ak X t A o (Y8 (Y8 (Y8 p I (Oo la 0)) Zz (.own λO=>m2)) Zz (.own (.=ob))) {s with X_:=j,Wf:=Uu}:=PN.set (aa ..) PM ⟨ob,PR,rfl⟩;rw[aQ]at u;clear PM PN PR;have PS:I≠Zz:=by intro Qj;subst Qj;rw[aa]at fC;cases fC
  rw[ag PS.symm]at fC;have c:Y8 (Y8 p I (Oo la 0)) Zz (.own (.=ob)) f5=none:=u.g.fresh (ZV _);have Qk:=u.newGen (.compStart (oK T V WC X0 Yl) 0 (.ref I) .none (genEnv X0 [] Zz (.ref cc) We A)) "<genexpr>" (A.qual++"<genexpr>") (Uu+1+1+1) (Uu+1) (Uu+1+1);have Ql:=P6 Zz cc i Qb Qd Qe;generalize Zz=C at*;have l:f5≠C:=by intro h;rw[h,aa]at c;cases c
  have z:f5≠I:=by intro h;rw[ag l,h,aa]at c;cases c
  rw[ag l,ag z]at c;refine⟨t,_,Y8 (Y8 (λO=>none) I (Oo la 0)) C (.own (.=ob)),f5,s.gens.size,_,P8.trans a,Qk,rfl,(((I8 p).upd r).upd fC).upd c,aa ..,λB Qm e=>?_,?_,c,λB Qm e=>?_,λQr Qn=>zv Ql Qn (a _ _ hp) (ew a) Qc (⟨d,Qf,_,Qg,Qh,Qi,λx mv e=>by(cases e),λx mv e=>by(cases e)⟩:je t (genEnv X0 [] Zz (.ref cc) We A) [] ob) PS⟩
  . by_cases h1:B=C;.subst h1;rw[aa]at e;rw[ag l.symm,aa];exact e
    . rw[ag h1]at e;by_cases h2:B=I;.subst h2;rw[aa]at e;rw[ag z.symm,ag h1,aa];exact e
      .rw[ag h2]at e;cases e
  .rw[ag l,ag z]
  .exact eJ e fC λe=>eJ e r ax
theorem BK(b:Zcc)(rm:Rm X m (PN+2))(t:Nv=.ok (.ret .none)\/Nv=.ok .next)(u:k ga=none):∀(XE:J Y0)(y:aT)(E f:GH)(st:Vb)(G:Za),Zah->E ga=some (.gen PR st)->gB X Sq Nv (rest.map .bool) y f st->Wz f E->f ga=none->Wz k E->Dj f k->(∀B w C,ZaX->aA X B w C->Wz k w->R (.ok (.ret (.bool (rest.any id)))) C)->U7 YH m (.builtin "any.loop" ⟨[ZaR],[]⟩) R G:=by
 intro XE;induction XE with
 |Yk=>
  intro y E f st G j n o p q ex dj g;refine V2 F.entry_any_loop ?_;walk_at"c";show ZU _ Ut (VP ZaR>>=_) _ _ G;walk_at"a";refine Z7 (gV b rm.in1 t j n o (.refl _) p ex dj q u (λO B w C l S e=>?_) λPS XE hh=>by cases hh);exact Z7 (Vy (Z5 (g B w C l S e)))|Zp c XE i=>
  intro y E f st G j n o p q ex dj g;refine V2 F.entry_any_loop ?_;walk_at"c";show ZU _ Ut (VP ZaR>>=_) _ _ G;refine Z7 (gV b rm.in1 t j n o (.refl _) p ex dj q u (λhh=>by cases hh) λPT PW hh B w x s PX C l S e z d A a r D=>?_);cases hh;rw[Vh];show ZU _ Ut (T' [.bool c] (h8 (.bool c))>>=_) _ _ _;refine Z7 (ZF (UR ?_));refine Z7 (sk ?_);cases c with|false=>exact Z5 ⟨TS F.plain_any_loop _,i B w x s C S a D z A e d λI N Q T V PM=>g I N Q (l.trans T) V PM⟩|true=>exact Z7 (Vy (Z5 (g B w C l S e)))
theorem EB.any{cs:J Y0}(b:Zcc)(rm:Rm X m (n+4))(u:Nv=.ok (.ret .none)\/Nv=.ok .next)(w:XX "any"=Zaa)(hn:V0 "any"=none)(hv:Va "any"=some (.builtin "any"))(h:∀y G,Zab->ZU YH m ZbS (jP X Nv n A o E (cs.map .bool) y) bz G)(k:Nj (cs.any id) E)(he:Z3 (Zr [d] A=(false,ZbS)::ZbB) aR)(ht:Z3 (XC (.Call Zcf [d] [] Yl) A (ZG (.Call Zcf [d] [] Yl) A)=(do let j<-ZG (.Call Zcf [d] [] Yl) A;VV Yl;T' [j] (h8 j))) aR):EB X m A (XC (.Call Zcf [d] [] Yl) A (ZG (.Call Zcf [d] [] Yl) A)) o E Nj:=Tr (λy G z=>by
 walk_at"a";refine sL ?_ rfl;walk_at"a";refine(p_ (g:=λB l=>B=.raw (.builtin "any")/\l=E) b w hn hv ⟨rfl,rfl⟩ (by rfl)).use z λC D j mv p a r I N=>?_;obtain⟨rfl,rfl⟩:=N;rw[Vh];refine hL (rr (ZS (h C D I) (λj P4 q=>?_) λO O q=>q) he) he rfl;obtain⟨P5,P6,Q,ga,P7,st,T,V,YA,ex,at_,PM,self,new,fr,live⟩:=q;rw[YA];walk_at"a";refine c0 ?_;obtain⟨PN,PR,t,OB⟩:=V.kG;refine call_function_tree F.kind_any F.plain_any F.entry_any (F.args_any1 _) ?_;walk_at"a";refine Z7 (m:=oneArg "any" _) (Z5 ?_);refine Z7 (hW (t.objs _ _ at_) ?_);refine Z5 ⟨TS F.plain_any_loop _,BK b (PN:=n) (rm.le (by exact fF 0x660f0c1e1 [2,4] [_] [])) u (k:=p) new cs PN _ Q st _ t at_ ((live _ (rm.in1.in1.le (by exact O1))).mono PR.s) PM self ex (λPS PT d=>fr PS PT d) λPW l PX PY PZ e=>?_⟩;obtain⟨P0,P2,S,_,_⟩:=OB PW l PX PY PZ;exact⟨P0,.bool (cs.any id),p,(Xb T).trans P2,aE ..,⟨S.g.drop e,⟨Q_,G2,ta,HS,tb,y1,⟨ai S.f.lG.1,S.f.lG.2⟩,λx c hx=>⟨ai (W8 x c hx).1,(W8 x c hx).2⟩,y0⟩⟩,_,rfl,k⟩) ht
abbrev z6(v1 v2 v3 v4:ZP):J (Z×ZP):=[("insert",v1),("delete",v2),("replace",v3),("equal",v4)]
theorem tN(v1 v2 v3 v4:ZP):checkTypeCall "dict" ⟨[],ZbH⟩=Ye ():=by kernel_rfl
theorem vK(v1 v2 v3 v4:ZP):A_ "dict.__new__" ⟨[Zaf],ZbH⟩=Ye ():=by kernel_rfl
theorem CW(a v1 v2 v3 v4:ZP):S_ "dict.__init__" ⟨[a],ZbH⟩:=by unfold S_;rw[signature?_of (n:=['_','_','t','i','n','i','_','_']) Z9 F.owner_dict];kernel_rfl
theorem Fb(v1 v2 v3 v4:ZP)(h:a ZaB {G with X_:=Zm {Uc:=Zaf,Xg:=.dict #[]}}):U7 YH m (.call (.builtin "dict.__new__") ⟨[Zaf],ZbH⟩) (wants a Pq) G:=by
 refine Wp F.kt_plain_dict_new F.kt_entry_dict_new (VJ (vK v1 v2 v3 v4) ?_);walk_at"c";have b:=F.kt_sub_dict;have c:=F.kt_mro_dict;obtain⟨hp,g,d,t,os⟩:=G;unfold Builtin.«dict.__new__»;wp_walk;exact h
theorem Ew(v1 v2 v3 v4:ZP)(h:∀a t,a.DictOf ZaL ZZ ZbH->Xo ZZ (Zm {Uc:=Zaf,Xg:=.dict #[]}) a->l ZaB {G with X_:=a,Wf:=t}):ZU YH m (VQ (.type "dict") [] (z6 v1 v2 v3 v4)) l Pq G:=by
  have f:=F.kt_called_dict;obtain⟨c,tl,PM⟩:=f.mro;have PN:=f.made;have PR:=f.sub;have PS:=tN v1 v2 v3 v4;refine Wa (OA ?_);show ZU _ _ (callAny (.type "dict") _) _ _ _;refine Z5 ⟨oo _ Z8,V2 F.entry_type_call ?_⟩;walk_at"o";rw[Around.under_plain (weight_type_call_type "dict" [] (z6 v1 v2 v3 v4)) rfl];have h2:=f.canCreate;repeat(any_goals(first|assumption|wp_step))
  refine V' (Fb (Pq:=Pq) v1 v2 v3 v4 (a:=λobj b=>obj=ZaB/\b={G with X_:=Zm {Uc:=Zaf,Xg:=.dict #[]}}) ⟨rfl,rfl⟩) λr b hr=>?_;cases r with|error e=>exact hr|ok fl=>cases fl with
    |e4 obj=>
      rw[hr.1,hr.2];have n:(Zm {Uc:=Zaf,Xg:=.dict #[]}).DictOf ZaL ZZ []:=Heap.DictOf.new YI;have o:Shared.TypeIs {G with X_:=Zm {Uc:=Zaf,Xg:=.dict #[]}} ZaB "dict":=n.typeIs;have PT:=f.init.lookup;have PW:=f.init.bind ZaB;repeat(any_goals(first|assumption|wp_step))
      refine V' (Wp (R:=wants (λr g=>r=.none/\l ZaB g) Pq) f.init.plain F.entry_dict_init (f.init.check _ _ _ _ _ _ _ _ o (CW ..) ?_)) λp g i=>?_
      . unfold Builtin.«dict.__init__»;refine Z7 ?_;refine Z7 (wpAny_notOrdered_dict o ?_);show ZU _ _ (Ye (ZZ,[])) _ _ _;refine Z5 ?_;show ZU _ _ (Builtin.Dict.addKeywords ZZ ZbH>>=λO=>e4 .none) _ _ _;refine Z7 ?_;generalize ZZ=d at*;refine Z7 ?_;have step:∀{s:Za}{k:J (Z×ZP)}{x:Z}{j:ZP}{XE:J (Z×ZP)}{Q:PUnit->Za->Prop}{A:XY}{E:ZP->Za->Prop},s.heap.DictOf ZaL d k->Wq<=100->ZO<=100->(∀a t,a.DictOf ZaL d (stored k x j)->Xo d Tv a->ZU YH A (forIn XE oa λx O=>do dictSet d (<-mkStr x.1) x.2;Ye (SV oa)) Q E {s with X_:=a,Wf:=t})->ZU YH A (forIn ((x,j)::XE) oa λx O=>do dictSet d (<-mkStr x.1) x.2;Ye (SV oa)) Q E s:=by
          intro s k x j XE Q A E hd q hx u;rw[List.forIn_cons];refine Z7 (Z7 (wpAny_mkStr ?_ (show ZO<=ZK by rw[af];(exact K7 hx))));refine Z7 (wpAny_dictSet_pairs ((cq X x _).mpr ⟨_,rfl⟩) hd (λa y z=>?_) (by rw[af];(exact K7 q)));exact Z5 (u a _ y z)
        refine step (s:={G with X_:=Zm {Uc:=Zaf,Xg:=.dict #[]}}) n Z' Z' λPX PY B b=>?_;refine step (j:=v2) (XE:=[("replace",v3),("equal",v4)]) B (show 1<=100 by decide) Z' λPZ P0 C g=>?_;refine step (k:=[("insert",v1),("delete",v2)]) (x:="replace") (j:=v3) (XE:=[("equal",v4)]) C (show 2<=100 by decide) Z' λP2 P4 D I=>?_;refine step (k:=[("insert",v1),("delete",v2),("replace",v3)]) (x:="equal") (j:=v4) (XE:=[]) D (show 3<=100 by decide) Z' λN P5 S T=>?_;refine Z5 (Z5 (Z5 ⟨rfl,h N _ ?_ ?_⟩));.exact S
        .exact((b.trans g).trans I).trans T
      .cases p with|error e=>exact i|ok V=>cases V with
          |e4 r=>
            obtain⟨rfl,hq⟩:=i;repeat(any_goals(first|assumption|wp_step))|_=>exact i.elim
    |_=>exact hr.elim
theorem EV.F7(b:Zcc)(y:XX ("dict")=Zaa)(hv:V0 ("dict")=none/\Va ("dict")=some Zaf)(h:∀a t1 t2 t3 t4,E a=none->g Zag (Y8 E a (sD X (z6 (.str x t1) (.str d t2) (.str i t3) (.str l t4))))):EV X m A (ZG (.Call (.Name ("dict") F) [] [⟨some "insert",.Constant (.str x) j1 PM,PN⟩,⟨some "delete",.Constant (.str d) PR q2,r2⟩,⟨some "replace",.Constant (.str i) PS q3,PT⟩,⟨some "equal",.Constant (.str l) PW q4,PX⟩] Yl) A) o E g:=λPY s S=>by
 walk_at"a";show ZU _ _ (ZG (.Name ("dict") F) A>>=λf=>OS Yl f [] (UJ Yl (Zr [] A)) (backToKw Yl (keywordEach _ A))) _ _ _;refine Z7 ((p_ (g:=λz G=>z=.raw Zaf/\G=E) b y hv.1 hv.2 ⟨rfl,rfl⟩ (by rfl)).use S λB c e mv PZ C D I k=>?_);clear S;obtain⟨rfl,rfl⟩:=k;rw[D.raw];refine Z7 (ZF (evalArgs_kw_nil rfl ?_));walk_at"a";have kv:∀{n:Z}{j:U}{q:iv}{XE:J (p' ZP)}{Q:Zc7->Za->Prop}{s:Za},ZU YH m (evalAll XE) (λr p=>Q (.str n Uu::r) p) bz {s with Wf:=Uu+1}->ZU YH m (evalAll ((do let e<-ZG (.Constant (.str n) j q) A;VV Yl;Ye e)::XE)) Q bz s:=λh=>Z7 (Z7 (lF (Z7 (Yo (Z5 (Z7 (ZF (ZS h (λr p q=>Z5 q) λO O q=>q))))))));refine kv (kv (kv (kv (Z5 ?_))));walk_at"f";refine Z7 (Yo (Z7 (Z5 (Z7 ?_))));have u:=I.toks (b'+1+1+1+1);refine Ew _ _ _ _ λP0 t hd hs=>?_;refine Z7 (ZF (gn (Z5 ?_)));obtain⟨N,T,V⟩:=I6 hd;have w:=(u.new (ob:={Uc:=Zaf,Xg:=.dict #[]}) (a:=.own λO=>m2) ⟨_,ZL _ rfl,trivial⟩).set (a:=sD X (z6 (.str x b') (.str d (b'+1)) (.str i (b'+1+1)) (.str l (b'+1+1+1)))) (n:=t) (aa ..) hs ⟨N,T,V⟩;rw[aQ]at w;exact⟨B,_,_,C,aE ..,w,h _ _ _ _ _ (u.g.fresh (ZV _))⟩
theorem ak.vg(S:Zab)(TU:gs X y E A [a])(x:cT y YI a mo)(ng:(mo.kd==3)=false):ak X y A o (Y8 E a mo) G:=by
 obtain⟨ga,p,la,nl,nc⟩:=TU a (Xv rfl);exact⟨⟨S.g.old,K_,Yd,λb d e=>eJ (N6:=λb d=>cT y YI b d) e x (Wd b d),λb d e=>(ag λq:b=a=>p d (q▸e)).trans (OC b d e),λb d e=>eJ (N6:=λb _=>Yz b=none) e la (OZ b d),ct,S.g.gens.upd ng⟩,L1 (λO e=>e) (λO O O O e=>e) ((ag nl).trans S.f.lG.1) λx c hx=>(ag (nc x c hx)).trans (W8 x c hx).1⟩
theorem Off.of(S:Zab)(h:E a=some mo):gs X y (H2 E a) A [a]:=λb q=>by
 rw[ZD q];exact⟨dZ ..,λd e=>fv h (OC _ _ e) rfl,OZ _ _ h,λq=>fv h S.f.lG.1 hC,λx c hx q=>fv h (W8 x c hx).1 hC⟩
theorem Off.more(TU:gs X y E A [a])(h:a≠b):gs X y (Y8 E b mo) A [a]:=λc q=>by
 obtain⟨h1,h2⟩:=TU c q;rw[ZD q]at h1 h2⊢;exact⟨(ag h).trans h1,h2⟩
def cut(a:J Y_)(G:GH):GH:=λc=>if c∈a then none else G c
theorem ak.cut(a:J Y_)(S:Zab)(j:∀c∈a,∃mo,E c=some mo)(k:∀c d,c∉a->ZH c=ZaD->i.get? c=ZaD):ak X y A o (cut a E) {G with X_:=i}/\gs X y (cut a E) A a:=by
 have TU:gs X y (Mine.cut a E) A a:=λb hb=>by
  obtain⟨mo,h⟩:=j b hb;exact⟨ZT hb,(Off.of S h b (.head _)).2⟩
 exact⟨(S.drop λc d e=>by unfold Mine.cut at e;split at e;exact ax e;exact e).mv TU (Vs i Wv ⟨rfl,k⟩),TU⟩
theorem Off.one(TU:gs X y E A c)(h:a∈c):gs X y E A [a]:=λb hb=>TU b (ZD hb▸h)
abbrev HW(T a:Y_)(f0:ZP):OD:={Uc:=.type "zip",c':=none,Xg:=.fields #[f0,.bool false,.bool false,.ref T,Zag],slots:=#[]}
abbrev rI(a b:ZP):OD:={Uc:=Zac,Xg:=.seq #[a,b]}
abbrev iL:MO:=.own λo=>∃a b,o=rI a b
abbrev m7(T a:Y_):MO:=.own (.=HW T a .none)
structure oR(G:GH)(z c T i1 i l1 l2:Y_)(k:U):Prop where
 z:G z=some (m7 c T)
 o:G T=some iL
 a:G i1=some (Oo l1 k)
 b:G i=some (Oo l2 k)
theorem qF{it la k}(h:E it=ZcA)(S:Zah):G5 it la k:=by obtain⟨o,a,b,hd⟩:=UK _ _ h;exact⟨o,a,b,hd⟩
theorem Ir(h:c∉[a,b,x,d]):Y8 (Y8 (Y8 (Y8 E a f) b i) x n) d k c=E c:=(ag (WV (YM (YM (YM h))))).trans ((ag (WV (YM (YM h)))).trans ((ag (WV (YM h))).trans (ag (WV h))))
theorem oR.of(D:ZipApart z c T i1 i l1 l2):oR (Y8 (Y8 (Y8 (Y8 E z (m7 c T)) T iL) i1 (Oo l1 k)) i (Oo l2 k)) z c T i1 i l1 l2 k:=⟨(ag D.i2z.symm).trans ((ag D.i1z.symm).trans ((ag D.TOz.symm).trans (aa ..))),(ag D.TOi2).trans ((ag D.TOi1).trans (aa ..)),(ag D.i12).trans (aa ..),aa ..⟩
theorem oR.cut(d:oR E z n T i1 i l1 l2 k)(S:Zab)(g:∀c e,c≠z->c≠T->c≠i1->c≠i->ZH c=Zb6->l.get? c=Zb6):ak X y A o (cut [z,T,i1,i] E) {G with X_:=l}/\gs X y (cut [z,T,i1,i] E) A [z,T,i1,i]:=S.cut [z,T,i1,i] (cn ⟨_,d.z⟩ (cn ⟨_,d.o⟩ (cn ⟨_,d.a⟩ (cn ⟨_,d.b⟩ jK)))) λc e f=>g c e (WV f) (WV (YM f)) (WV (YM (YM f))) (WV (YM (YM (YM f))))
theorem oR.next(n:oR E z d T i1 i l1 l2 k)(p:Zab)(D:ZipApart z d T i1 i l1 l2)(r:IsZip f z d T .none)(g:∃j l,IsPair f T j l)(h1:f.IsListIter i1 l1 (k+1))(h2:f.IsListIter i l2 (k+1))(s:∀c m,c≠z->c≠T->c≠i1->c≠i->ZH c=Zcg->h_ c=Zcg):ak X y A o (Y8 (Y8 (Y8 (Y8 E z (m7 d T)) T iL) i1 (Oo l1 (k+1))) i (Oo l2 (k+1))) {G with X_:=f}:=by
 obtain⟨j,l,g⟩:=g;obtain⟨S,TU⟩:=n.cut p s;have e:Y8 (Y8 (Y8 (Y8 (Mine.cut [z,T,i1,i] E) z (m7 d T)) T iL) i1 (Oo l1 (k+1))) i (Oo l2 (k+1))=Y8 (Y8 (Y8 (Y8 E z (m7 d T)) T iL) i1 (Oo l1 (k+1))) i (Oo l2 (k+1)):=funext λc=>Eh λt=>Eh λu=>Eh λh2=>Eh λh1=>ZY λw=>(cn h1 (cn h2 (cn u (cn t jK))):∀x∈[z,T,i1,i],c≠x) c w rfl;rw[<-e];generalize Mine.cut [z,T,i1,i] E=I at S TU;have B:=S.vg (mo:=m7 d T) (off.one (.head _)) ⟨_,r,rfl⟩ rfl;have C:=B.vg (mo:=iL) ((off.one (.tail _ (.head _))).more D.TOz) ⟨_,g,j,l,rfl⟩ rfl;obtain⟨q,q2,q3,q4⟩:=h1;have F:=C.vg (mo:=Oo l1 (k+1)) (((off.one (.tail _ (.tail _ (.head _)))).more D.i1z).more D.TOi1.symm) ⟨q,q2,q3,q4⟩ rfl;obtain⟨q,q2,q3,q4⟩:=h2;exact F.vg (mo:=Oo l2 (k+1)) ((((off.one (.tail _ (.tail _ (.tail _ (.head _))))).more D.i2z).more D.TOi2.symm).more D.i12.symm) ⟨q,q2,q3,q4⟩ rfl
variable{N5 Pj:Y_}
theorem yQ{ys:ZaV}{v2:Ud ZP}(hh:XW=none)(e:ZipApart z Nh Nb Nt NM N5 Pj)(PS:U->YS->YS)(I:U->YS->GH->Prop)(PZ:P_<=TX)(fr:∀c∈[z,Nb,Nt,NM],NJ c=none)(Qa:∀k o E w,I k o E->(∀c d,NJ c=ZaD->w c=E c)->I k o w)(tg:∀k x T,Nc[k]?=Zak->ys[k]?=some T->TG X m iz A (.Tuple NP j Np) (.tup [x,T]) (PS k))(UB:∀t k o E,(∀c d,t c=ZaD->NJ c=none)->k<P_->I k o E->Wz t E->EF X m A ZcV (PS k o) E λd P0 PT=>match d with|.next|.cont=>∃l,I (k+1) l PT/\Od l P0/\Wz t PT|.brk=>D .next P0 PT|.ret P2=>D (.ret P2) P0 PT)(Ue:∀o E,I P_ o E->D .next o E):∀(s k:U)(y:aT)(o:YS)(E:GH)(G:Za),k+s=P_->bG B y->ak X y A o E G->oR E z Nh Nb Nt NM N5 Pj k->y Nh (rI (.ref Nt) (.ref NM))->y N5 (X8 (.type "list") Po p)->ao y Nc Po.toList->y Pj (X8 (.type "list") v2 Q)->ao y ys v2.toList->I k o E->U7 YH m (.forLoop (.Tuple NP j Np) (.ref z) NZ [] A) (λP4 C=>match P4 with|.ok PS=>PF X A B D PS C|.error f=>cameBackBy YH m A bz f C) G:=by
  intro s k y o E G V F S i N h1 r h2 r2 PW;walk_at"k";let Qb:U->Za->Prop:=λs G=>∃k y o E,k+s=P_/\bG B y/\ak X y A o E G/\oR E z Nh Nb Nt NM N5 Pj k/\y Nh (rI (.ref Nt) (.ref NM))/\y N5 (X8 (.type "list") Po p)/\ao y Nc Po.toList/\y Pj (X8 (.type "list") v2 Q)/\ao y ys v2.toList/\I k o E;walk_at"k";refine codeAny_forLoop_any (I:=Qb) ?_ s (exI4 k y o E ⟨V,F,S,i,N,h1,r,h2,r2,PW⟩);clear i N;have Qc:∀c d,NJ c=ZaD->c∉[z,Nb,Nt,NM]:=λc d f q=>fv f (fr c q) rfl;intro s G Qh;obtain⟨k,y,o,E,V,F,S,i,N,h1,r,h2,r2,PW⟩:=Qh;walk_at"c";obtain⟨QE,P5,rfl⟩:=Wd _ _ i.z;obtain⟨QF,Qd,QG,QH,rfl⟩:=Wd _ _ i.o;by_cases n:k<P_;.obtain⟨x,hx,Qi⟩:=r.get k (a:=Nc[k]) (Z6 n);obtain⟨T,hy,Qj⟩:=r2.get k (Z6 (Xr n PZ));refine wpAny_pyNext_zip_item e P5 (Yd _ _ N) Qd (qF i.a iw) (qF i.b iw) (aq (Yd _ _ h1)) (aq (Yd _ _ h2)) (by simpa using hx) (by simpa using hy) λQk bj Ql Qm Qn Qo QI P6=>?_;refine wpAny_letOwnedTupleGo_zip bj λQp Qq PM=>?_;walk_at"o";have Qe:=i.next S e Qq (Vs x T (q6 _ _ e.TOz Ql)) (Qm.extBut q6 e.i1z) (Qn.extBut q6 e.i2z) λQr d c1 c2 Qt Qu f=>q6 _ _ c1 (P6 Qr d c1 c2 Qt Qu f);have Qf:=Qa _ _ _ (Y8 (Y8 (Y8 (Y8 E z (m7 Nh Nb)) Nb iL) Nt (Oo N5 (k+1))) NM (Oo Pj (k+1))) PW λc d f=>Ir (Qc c d f);have PN:=oR.of (E:=E) (k:=k+1) e;generalize Y8 (Y8 (Y8 (Y8 E z (m7 Nh Nb)) Nb iL) Nt (Oo N5 (k+1))) NM (Oo Pj (k+1))=u at Qe Qf PN;have Qv:=R5 (XN P5);have Qw:iz y {G with X_:=Qp} (.tup [Nc[k],ys[k]'(JH n PZ)]) ZaB:=.inr (Vs _ (#[x,T]) ⟨_,rfl,rfl,⟨_,q6 _ _ Qv Qo,rfl,_,rfl⟩,.cons Qi (.one Qj)⟩);walk_at"o";refine ZS (tg k _ _ (Z6 n) (Z6 (Xr n PZ)) _ o u _ _ Qe Qw) (λO Qx Qy=>?_) λO O q=>Vr;walk_at"o";let t:GH:=Y8 (Y8 (Y8 (Y8 (λ_=>none) NM (Oo Pj (k+1))) Nt (Oo N5 (k+1))) Nb iL) z (m7 Nh Nb);have d1:∀c d,t c=ZaD->NJ c=none/\u c=ZaD:=λc d f=>eJ (N6:=λc d=>NJ c=none/\u c=ZaD) f ⟨fr _ (.head _),PN.z⟩ λf=>eJ (N6:=λc d=>NJ c=none/\u c=ZaD) f ⟨fr _ (.tail _ (.head _)),PN.o⟩ λf=>eJ (N6:=λc d=>NJ c=none/\u c=ZaD) f ⟨fr _ (.tail _ (.tail _ (.head _))),PN.a⟩ λf=>eJ (N6:=λc d=>NJ c=none/\u c=ZaD) f ⟨fr _ (.tail _ (.tail _ (.tail _ (.head _)))),PN.b⟩ ax;walk_at"c";refine ZS (UB t k o u (λc d f=>(d1 c d f).1) n Qf (λc d f=>(d1 c d f).2) _ Qx Qy) (λfl Qz q=>?_) λO O q=>Vr;obtain⟨P7,d,P8,PR,le,PX,P9,PY⟩:=q;have OR:(∃l,I (k+1) l PR/\Od l P8/\Wz t PR)->∃Qg,Qg<s/\Qb Qg Qz:=λQA=>SA QA λl Yw=>and3 Yw λQB QC ex=>⟨s-1,by exact LS V n,k+1,P7,l,PR,by exact LJ V n,F.trans le,P9.forget QC,⟨ex _ _ (aa ..),ex _ _ ((ag e.TOz).trans (aa ..)),ex _ _ ((ag e.i1z).trans ((ag e.TOi1.symm).trans (aa ..))),ex _ _ ((ag e.i2z).trans ((ag e.TOi2.symm).trans ((ag e.i12.symm).trans (aa ..))))⟩,le _ _ N,le _ _ h1,Uv le,le _ _ h2,r2.mono le,QB⟩;cases d with
    |next=>cases PX;exact OR PY|brk=>cases PX;exact⟨P7,.next,P8,PR,F.trans le,rfl,P9,PY⟩|cont=>cases PX;exact OR PY|e4 P2=>obtain⟨QD,rfl,P4⟩:=PX;exact⟨P7,.ret P2,P8,PR,F.trans le,⟨QD,rfl,P4⟩,P9,PY⟩
  . have OQ:k=P_:=by exact J0 V n
    refine wpAny_pyNext_zip_end hh e P5 (Yd _ _ N) Qd (qF i.a iw) (qF i.b iw) (aq (Yd _ _ h1)) (aq (Yd _ _ h2)) (.inl (by rw[T4];exact bw 0xfff230f3421ec41 [_,_,_] (b7) n)) λQk P6=>?_;refine u_ ⟨y,.next,o,cut [z,Nb,Nt,NM] E,F,rfl,(i.cut S P6).1,Ue o _ (OQ▸Qa _ _ _ _ PW λc d f=>ZY (Qc c d f))⟩
theorem F8(m l1 l2:U)(t1:l1<m)(t2:l2<m):ZipApart (m+4) (m+2) (m+3) m (m+1) l1 l2:=⟨Zb (by exact fF 0x6a0f0c1e1 [2,4] [_] []),Zb (by exact fF 0x6a0f0c1e1 [3,4] [_] []),Zb (by exact fF 0x1a83c21 [4] [_] []),Zb (by exact fF 0x6a0f0c1c1 [4] [_] []),Zb (by exact fF 0x6a0f0c1e1 [2,3] [_] []),R5 (by exact fF 0x1a83c21 [2] [_] []),R5 (by exact fF 0x6a0f0c1c1 [2] [_] []),R5 (by exact fF 0x1a83c21 [3] [_] []),R5 (by exact fF 0x6a0f0c1c1 [3] [_] []),Zb (by exact J9),Zb (by exact He t1),Zb (by exact He t1),Zb (by exact aV 0x7f420e841 [_,_] t1),Zb (by exact Jw t1),Zb (by exact He t2),Zb (by exact He t2),Zb (by exact aV 0x7f420e841 [_,_] t2),Zb (by exact Jw t2)⟩
theorem EF.Fe(b:Zcc)(hh:XW=none)(P2:XX "zip"=Zaa)(hv:V0 "zip"=none/\Va "zip"=Zbl)(h:EA X m A [Ng,Nn] o E λV t=>∃(x ys:ZaV)(I:U->YS->GH->Prop)(f:U->YS->YS)(l:YS),V=[.lst x,.lst ys]/\ZO<=TX/\I 0 l t/\Od l o/\(∀k o E w,I k o E->(∀a i,t a=ZbI->w a=E a)->I k o w)/\(∀k PM PN,x[k]?=some PM->ys[k]?=some PN->TG X m iz A (.Tuple NP j N1) (.tup [PM,PN]) (f k))/\(∀F k o E,(∀a i,F a=ZbI->t a=none)->k<ZO->I k o E->Wz F E->EF X m A ZcV (f k o) E λi M u=>match i with|.next|.cont=>∃PR,I (k+1) PR u/\Od PR M/\Wz F u|.brk=>D .next M u|.ret PS=>D (.ret PS) M u)/\(∀o E,I ZO o E->D .next o E))(he:Z3 (Zr [Ng,Nn] A=(false,ZaE)::Zr [Nn] A) aR)(hp:Z3 (∀Pp,(UJ Pp (Zr [Nn] A)).any (·.1)=false) aI):EF X m A (TP (.For (.Tuple NP j N1) (.Call (.Name "zip" Np) [Ng,Nn] [] Ny) NZ [] Pp) A) o E D:=λP4 QC PT=>by
 walk_at"a";refine q' ?_ (λO=>rfl);walk_at"a";refine sL ?_ rfl;walk_at"a";refine(p_ (g:=λP5 w=>P5=.raw (.type "zip")/\w=E) b P2 hv.1 hv.2 ⟨rfl,rfl⟩ (by rfl)).use PT λQD QE PS mv t P6 P7 P8 P9=>?_;clear PT;obtain⟨rfl,rfl⟩:=P9;rw[P7.raw];refine TJ ((h Ny).use P8 λy s QF V G Qa Qb S Qc=>?_) he (hp Ny);obtain⟨x,ys,I,f,l,rfl,Qd,i0,Qe,PW,tg,UB,Ue⟩:=Qc;obtain⟨v1,_,YA,Qf,v2,_,YB,q2,YC⟩:=Qb;subst YA;rw[YB];rw[YC];obtain⟨l1,QG,n1,rfl,p1,Qg⟩:=Qf.seq;obtain⟨l2,QH,QI,YA,p2,Qh⟩:=q2.seq;rw[YA];have t2:=XN (Yd _ _ p2);refine call_zip_2 (aq (Yd _ _ p1)) (aq (Yd _ _ p2)) λPX PY Qi Qj Qk Ql QJ Qm=>?_;walk_at"e";have TU:∀PZ,gs X y G A [Zz+PZ]:=λPZ=>er S λb hb=>by rw[ZD hb];(exact O1)
 have Qn:ak X y A o G {s with X_:=PX}:=RH Qm;have d:=F8 Zz l1 l2 (XN (Yd _ _ p1)) t2;have fr:∀a∈[Zz+4,Zz+3,Zz,Zz+1],G a=none:=cn (Uw (WN _ _)) (cn (Uw (WN _ _)) (cn (Uw (ZV _)) (cn (Uw (WN _ _)) jK)));have z:=TU 2 _ (Xv rfl);have Qo:=TU 4;have Qp:=TU 3;have o1:=TU 1;generalize Zz+4=Qq at*;generalize Zz+3=N at*;generalize Zz+2=T at*;generalize Zz+1=P0 at*;generalize Zz=i1 at*;refine wpAny_pyIter_zip (s:={s with X_:=PX}) PY ?_;have Qr:=Qn.pin Qi z.1 z.2.2.1 z.2.2.2.1 z.2.2.2.2;have C:∀{c},c≠T->gs X y G A [c]->gs X (cI y T (rI (.ref i1) (.ref P0))) G A [c]:=λQt i b hb=>by
  obtain⟨n,p,r⟩:=i b hb;exact⟨n,λQu e=>VD (p Qu) λq=>Qt ((ZD hb)▸q.1),r⟩
 have Qv:=Qr.vg (mo:=m7 T N) (C d.TIz.symm Qo) ⟨_,PY,rfl⟩ rfl;have Qw:=Qv.vg (mo:=iL) ((C d.TITO.symm Qp).more d.TOz) ⟨_,Qj,.none,.none,rfl⟩ rfl;obtain⟨n,p,r,Q⟩:=Qk;have Qx:=Qw.vg (mo:=Oo l1 0) (((C d.TIi1.symm (TU 0)).more d.i1z).more d.TOi1.symm) ⟨n,p,r,Q⟩ rfl;walk_at"w";obtain⟨n,p,r,Q⟩:=Ql;have Qy:=Qx.vg (mo:=Oo l2 0) ((((C d.TIi2.symm o1).more d.i2z).more d.TOi2.symm).more d.i12.symm) ⟨n,p,r,Q⟩ rfl;have Qz:=oR.of (E:=G) (k:=0) d;have QA:=PW _ _ _ (Y8 (Y8 (Y8 (Y8 G Qq (m7 T N)) N iL) i1 (Oo l1 0)) P0 (Oo l2 0)) i0 λa i e=>Ir λq=>fv e (fr a q) rfl;refine V' (yQ hh d f I Qd fr PW tg UB Ue (B:=P4) ZO 0 _ l _ _ (by exact O4) ((P6.trans Qa).trans Tx) (Qy.forget Qe) Qz (.inr ⟨rfl,rfl⟩) (.inl p1) (Qg.mono Tx) (.inl p2) (Qh.mono Tx) QA) λQB QK q=>?_;match QB,q with|.ok fl,q=>exact q|.error e,q=>exact q
section
open PySem.Builtin.Str(occurrences)
theorem xB:∀(l:J (Z×nj)),ao a (ah (A2 (·.1))) (hA l)|[]=>.nil|(x,t)::l=>.cons (bp ..) (xB l)
theorem D8:∀{x:J Z}{a:Zc7},ao f (ah x) a->∃l:J (Z×nj),a=hA l/\A2 (·.1)=x:=by
 intro I;induction I with
 |Yk=>
  intro a r;exact⟨[],r,rfl⟩|Zp b x c=>
  intro a r;obtain⟨e,g,rfl,d,rl⟩:=r;obtain⟨t,YA⟩:=d.str;rw[YA];obtain⟨l,rfl,rfl⟩:=c rl;exact⟨(b,t)::l,rfl,rfl⟩
theorem vn(hy:(Zv==0)=false)(hx:ZO<ZK-2)(S:Zab)(r:aw y (.str x) q)(j:aw y (.str b) u)(k:g (.lst (ah (Sn x b))) E):ZU YH m (VQ (.builtin "str.split") [q,u]) Zad bz G:=by
  walk_at"a";obtain⟨t,YA⟩:=u0;rw[YA];obtain⟨f,YA⟩:=j.str;rw[YA];have done:∀l n,A2 (·.1)=Sn x b->PV X A y o g ZaB {G with Wf:=n,X_:=Zm {Uc:=Zae,Xg:=.seq (hA l).toArray}}:=λl n p=>by
    walk_at"aF";have s:=G1 n;obtain⟨w,a,z,B⟩:=s.iG (T:="list") (xB l);exact⟨w,_,E,a,p▸z,B,k⟩
  have e:Sn x b=if(decide (ZO<Zv)||decide (Tb x<Tb b))=true then[x]else if(so x b 0 ZO (ZO+1)).isEmpty=true then[x]else Uj x (so x b 0 ZO (ZO+1)) Zv:=rfl;have i:ZO+2<ZK:=by rw[af]at*;exact Km hx
  cases h1:(decide (ZO<Zv)||decide (Tb x<Tb b))
  . cases d:(so x b 0 ZO (ZO+1)).isEmpty
    . refine SK z0 (xb _ _ _) ju (n' _ _) (meets_str_split_sep x b t f h1 hy d (Kp i) ?_) ?_;.have:=StrLaws.occ_length_le x b 0 ZO (ZO+1);rw[show∀c:J U,(Uj x c Zv).length=YZ+1 fromλc=>by simp[Uj]];exact JW i this
      .show wants _ _ _ {G with Wf:=_,X_:=Zm {Uc:=Zae,Xg:=.seq (strsFrom Wv (Uj x (so x b 0 ZO (ZO+1)) Zv)).toArray}};rw[strsFrom_eq];exact done _ _ ((numbered_texts _ _).trans (by rw[e,h1,d];rfl))
    .exact SK z0 (xb _ _ _) ju (n' _ _) (meets_str_split_not_found x b t f h1 hy d) (done [(x,t)] Wv (by rw[e,h1,d];rfl))
  .exact SK z0 (xb _ _ _) ju (n' _ _) (meets_str_split_cannot_occur x b t f h1) (done [(x,t)] Wv (by rw[e,h1];rfl))
theorem EV.split(h:EV X m A ZaE o E λa G=>∃x,a=.str x/\ZO<ZK-2/\EV X m A Zco o G λb c=>∃y,b=.str y/\(l5==0)=false/\g (.lst (ah (Sn x y))) c)(he:Z3 (eL A Ng ("split") Np [Nn] Ny Nz) aR)(d:Za5):EV X m A (ZG (.Call (.Attribute Ng ("split") Np) [Nn] [] Ny) A) o E g:=by
 refine k' (Nz:=Nz) Ca z0 F.type_str_split (WT λa G hm=>?_) he d;obtain⟨x,rfl,hx,h⟩:=hm;walk_at"l";refine⟨cv.str,Zu (WT λb c rb=>Y6 λf s i j S r rs=>?_) d⟩;walk_at"a";obtain⟨y,rfl,hy,k⟩:=rb;obtain⟨l,YA,e⟩:=rs.u;rw[YA];exact vn hy hx S r e k
theorem EV.join(h:EV X m A ZaE o E λc G=>∃x,c=.str x/\EV X m A Zco o G λd e=>∃b,d=ZbG/\JoinOk x b=true/\g (.str (R4 x b)) e)(he:Z3 (eL A Ng ("join") Np [Nn] Ny Nz) aR)(f:Za5):EV X m A (ZG (.Call (.Attribute Ng ("join") Np) [Nn] [] Ny) A) o E g:=by
 refine k' (Nz:=Nz) Ca F.slot_str_join F.type_str_join (WT λc G hm=>?_) he f;obtain⟨x,YA,h⟩:=hm;rw[YA];walk_at"l";refine⟨cv.str,Zu (WT λd e rb=>Y6 λl s q y S r rs=>?_) f⟩;walk_at"a";obtain⟨b,rfl,i,k⟩:=rb;obtain⟨z,YA,j⟩:=rs.u;rw[YA];obtain⟨t,YA⟩:=u0;rw[YA];obtain⟨a,w,n,YA,p,rl⟩:=j.seq;rw[YA];obtain⟨lt,e1,e2⟩:=D8 rl;have hl:s.heap.IsList a (hA lt).toArray:=by
  have:=aq (Yd _ _ p);rwa[show w=(hA lt).toArray from by rw[<-e1]]at this
 subst e2;exact SC.join hl rfl i λB n=>U0 S (bp ..) k
end
theorem EV.pow(h:EV X m A ZbS o E λx G=>EV X m A Zcl o G λy c=>∃i n:Zw,x=ZaN/\y=Zbp/\0<=n/\(Builtin.Int.intBits i:Zw)*n<=2^27/\g (.int (i^n.toNat)) c):EV X m A (ZG (.BinOp d .Pow b Yl) A) o E g:=λC s S=>wpAny_BinOp (W1 S λD F I x G e r f k=>k.use f λj M N y c a l p w=>by
  walk_at"a";obtain⟨i,n,rfl,rfl,hn,z,B⟩:=w;obtain⟨t,YA⟩:=(Uv a).int;rw[YA];obtain⟨u,YA⟩:=l.int;rw[YA];exact ZS (pow_int (Q:=PV X A j o g) hn z (U0 p (a0 ..) B)) (λO O q=>l' (ru a)) λO O q=>q)
theorem Er(hl:ZH a=some (X8 (.type "list") i n))(d:b_*k.toNat<=1000000)(h:f ZaB {G with X_:=Zm {Uc:=Zae,Xg:=.seq (List.foldl (λx e=>x++e) #[] (Zt (if i.isEmpty=true then 0 else k.toNat) i))}})(g:0<=k/\k<=1000000):ZU YH m (binaryOp .Mult (.ref a) (.int k u)) f l G:=by
 have c:¬(!I3 k)=true:=by
  have:I3 k=true:=by
   rw[YK,SI,SI];exact a9 0xff74f565587f72f5654d [1000000,9223372036854775808,9223372036854775808] [] [_] g
  rw[this];decide
 have c2:¬Gs (b_*k.toNat)=true:=by
  unfold Gs;rw[SI,af];exact a9 0xff3417e5e1 [1000000,16777216] [_] [] d
 have b:br Zag "list":=⟨_,hl,rfl⟩;exact wpAny_binaryOp_repeat_ref (by rfl) b (λs=>typeIs_int s _ u) noFill_list_mul F.fills_int_mul F.slot_int_rmul repeat_list F.slot_int_index.lookup (SK F.slot_int_rmul (typeIs_int G _ u) F.entry_int_rmul (F.args_int_rmul_2 _ _) (int___rmul___int_list k u a i n) ⟨hl,rfl,b,(SK F.slot_list_mul b F.entry_list_mul (F.args_list_mul_2 _ _) (AutoListH.list___mul___list_int_3 a i n k u c (Li d) c2) ⟨hl,h⟩)⟩)
theorem mH(r:aw y a b):∀k,ao y (Zt k a) (Zt k b):=by
 intro I;induction I with
 |V1=>exact .nil|VF k c=>exact .cons r (c)
theorem EV.times(h:EV X m A (ZG l A) o E λx d=>EV X m A Zcl o d λy G=>∃(c:MV)(k:U),x=.lst [c]/\y=Za0/\k<=1000000/\g (.lst (Zt k c)) G):EV X m A (ZG (.BinOp l .Mult b Yl) A) o E g:=λV PM n=>wpAny_BinOp (W1 n λPN PR PS x d p r q s=>s.use q λPT PW PX y G a t S u=>by
    walk_at"a";obtain⟨c,k,rfl,rfl,f,z⟩:=u;obtain⟨PY,j,PZ,YA,hp,rl⟩:=(Uv a).seq;rw[YA];obtain⟨P0,YA⟩:=t.int;rw[YA];obtain⟨w,hw,B⟩:=h7 0 (a:=c) rfl;have C:j=#[w]:=by
      have h1:=W0;apply Array.ext;.exact h1
      . intro i D O;have:i=0:=by simp at h1;exact bw 0x7ffb6876e16841 [_,_] D h1
        subst this;have:=(OT (show j[0]?=some w by simpa using hw)).2;exact this
    subst C;have e:List.foldl (λF I=>F++I) #[] (Zt (if#[w].isEmpty=true then 0 else(k:Zw).toNat) #[w])=(Zt k w).toArray:=by
      rw[listMul_foldl];simp[lm_rep_flat_one]
    obtain⟨M,N,Q,T⟩:=S.iG (T:="list") (mH B k);exact Er ((Yd _ _ hp)) (by rw[j'];simpa using f) (by rw[e];exact⟨M,_,G,(ee a).trans N,Q,T,z⟩) (a9 0x1fee5f30e6616e5e1 [1000000,1000000] [_] [] f))
theorem EV.Jf(h:EV X m A Zcn o E g):EV X m A (ZG (.BoolOp .Or [a] Yl) A) o E g:=h
theorem EV.CS(h:EV X m A (ZG l A) o E λb G=>∃c,lC G b=Zao/\(c=true->g b G)/\(c=false->EV X m A (ZG (.BoolOp .Or (n::d) Yl) A) o G g)):EV X m A (ZG (.BoolOp .Or (l::n::d) Yl) A) o E g:=λz B j=>BoolOp_or (W1 j λC D F b G f r p k=>by
  walk_at"a";obtain⟨c,t,u,w⟩:=k;refine ZS (iQ (Nj:=λe x=>e=c/\x=G) t p r ⟨rfl,rfl⟩) (λe s q=>?_) λO O q=>q;obtain⟨i,y,a,S,rfl,rfl⟩:=q;cases e with|true=>exact⟨i,b,y,f.trans a,Uv a,S,u rfl⟩|false=>exact ZS (w rfl i s S) (λO O q=>l' (f.trans a)) λO O q=>q)
theorem EB.KJ(rm:Rm X m P0)(h:EV X m A (ZG F A) o E λx l=>EV X m A Zcl o l λy G=>∃t,vF G n x y=some t/\(t=false->Nj false G)/\(t=true->EV X m A ZcH o G λz e=>∃d,vF e s y z=ZaD/\Nj d e))(hm:Z3 (lastMarks [n,s] [b,c]=false) aW):EB X m A (XC (.Compare F [n,s] [b,c] Yl) A Us) o E Nj:=λP2 P4 w=>isTrue_chain (W1 w λP5 P6 P7 x l p B C k=>test_link (k.use C λP8 P9 Qa y G a r D I=>by
  obtain⟨t,ht,M,N⟩:=I;refine ZS (jf (g:=λf i=>f=.bool t/\i=G) rm ht D (B.mono a) r ⟨rfl,rfl⟩) (λQb Qc q=>?_) λO O q=>q;obtain⟨Q,Qd,e,j,T,S,rfl,rfl⟩:=q;rw[T.raw];refine UR ?_;cases t with
  |false=>exact⟨Q,_,(ee a).trans j,S,M rfl⟩|true=>
   refine test_last ((N rfl).use S λQe Qf Qg z V u PM PN PR=>?_);obtain⟨d,PS,PT⟩:=PR;refine ZS (jf (g:=λf i=>f=.bool d/\i=V) rm PS PN (Uv (j.trans u)) PM ⟨rfl,rfl⟩) (λQh Qi q=>?_) λO O q=>q;obtain⟨PW,Qj,Qk,PX,PY,PZ,rfl,rfl⟩:=q;rw[PY.raw];exact UR ⟨PW,_,(((ee a).trans j).trans u).trans PX,PZ,PT⟩)) hm
def jy(XK:Z->Y0)(b:J Z)(x:Z):J U:=if XK x=true then[]else(Zi Zv).filter λj=>b[j]?==some x
abbrev jW:=Zw×Zw×Zw
def r0(a:J (Zw×Zw))(c d i:Zw)(l:J Zw)(n:J (Zw×Zw))(b:jW):J (Zw×Zw)×jW:=VH (λj k n b=>if j<c then k n b else if d<=j then(n,b)else k (n++[(j,(z' (j-1)).getD 0+1)]) (if(z' (j-1)).getD 0+1>b.2.2 then(i-((z' (j-1)).getD 0+1)+1,j-((z' (j-1)).getD 0+1)+1,(z' (j-1)).getD 0+1)else b)) Prod.mk n b
theorem Ez(a c d i n b):r0 a c d i [] n b=(n,b):=rfl
def t9(XK:Z->Y0)(a b:J Z)(i:U):J Zw:=((a[i]?).elim [] (jy XK b)).map λj:U=>(j:Zw)
def zB(XK:Z->Y0)(c d:J Z)(a b e t:U):J (Zw×Zw)×jW:=Ol (motive:=λO=>J (Zw×Zw)×jW) ([],((a:Zw),(b:Zw),0)) (λt k=>r0 k.1 b e ((a+t:U):Zw) (t9 XK c d (a+t)) [] k.2) t
def eM(XK:Z->Y0)(a b:J Z)(c d e i j:U):U:=Ol (motive:=λO=>U->U) (λO=>0) (λi k j=>Sz (motive:=λO=>U) j 0 λj=>if c<=i/\d<=j/\j<e/\(∃x,a[i]?=Zak/\b[j]?=Zak/\XK x=false)then k j+1 else 0) i j
theorem kJ:eM XK a b d f k (i+1) (c+1)=if d<=i/\f<=c/\c<k/\(∃x,a[i]?=Zak/\b[c]?=Zak/\XK x=false)then eM XK a b d f k i c+1 else 0:=rfl
theorem xU:r0 c d f i (a::r) n b=if a<d then r0 c d f i r n b else if f<=a then(n,b)else r0 c d f i r (n++[(a,(Bt (a-1)).getD 0+1)]) (if(Bt (a-1)).getD 0+1>b.2.2 then(i-((Bt (a-1)).getD 0+1)+1,a-((Bt (a-1)).getD 0+1)+1,(Bt (a-1)).getD 0+1)else b):=rfl
inductive Ld(r:U->U->U)(done:U->U->Prop)(bi g b:U):Prop|mk(i:0<b)(p q:U)(d:done p q)(e1:p+1=bi+b)(e2:q+1=g+b)(e:r (p+1) (q+1)=b)(f:∀a c,done a c->(a<p\/a=p/\c<q)->r (a+1) (c+1)<b)
structure y9(r:U->U->U)(done:U->U->Prop)(a f:U)(g:jW)(bi d b:U):Prop where
 e:g=((bi:Zw),(d:Zw),(b:Zw))
 m:∀p q,done p q->r (p+1) (q+1)<=b
 c:(b=0/\bi=a/\d=f)\/Ld r done bi d b
variable{I:Z->Y0}
theorem BF:a∈jy I t x↔I x=false/\t[a]?=Zak:=by
  unfold jy;by_cases h:I x=true;.rw[ZT h];simp[h]
  . rw[ZY h];have b:I x=false:=by simpa using h
    simp only[e5,List.mem_range,V7,b,true_and];exact⟨λq=>q.2,λq=>⟨(ZN q).1,q⟩⟩
theorem lX(x:Z):(jy I t x).Pairwise (.<.):=by
 unfold jy;refine bQ rfl (λO=>?_) λO=>?_;.exact .nil
 .exact List.Pairwise.filter _ List.pairwise_lt_range
variable{e:J Z}
theorem x7:∀(i a:U),eM I t e j p Q i a<=i/\eM I t e j p Q i a<=a:=by
 intro b;induction b with
 |V1=>
  intro a;exact⟨ZV _,Zg _⟩|VF i c=>
  intro d;cases d with
  |V1=>exact⟨Zg _,ZV _⟩|VF a=>
   have:=c a;rw[kJ];split<;>(first|exact aV 0x7fb9838707073070a0e0f7230e441 [_,_,_] this|exact cY 0x77226e42d [_,_])
theorem ji:∀(i b a:U),a<eM I t e j p Q i b->j<=i-1-a/\p<=b-1-a/\b<=Q/\∃x,t[i-1-a]?=Zak/\e[b-1-a]?=Zak/\I x=false:=by
  intro c;induction c with
  |V1=>
    intro b a h;exact(SR _ h).elim|VF i d=>
    intro f;cases f with
    |V1=>
      intro a h;exact(SR _ h).elim|VF b=>
      intro a h;rw[kJ]at h;split at h;.rename_i q;obtain⟨g,q2,q3,x,q4,q5,k⟩:=q;cases a with
        |V1=>exact⟨by simpa using g,by simpa using q2,by exact GV q3,x,by simpa using q4,by simpa using q5,k⟩|VF a=>
          have:=d b a (KA h);have e1:i+1-1-(a+1)=i-1-a:=by exact cY 0x6e228b83183851741c1 [_,_]
          have e2:b+1-1-(a+1)=b-1-a:=by exact cY 0x6e228b83183851741c1 [_,_]
          rw[e1,e2];exact⟨this.1,this.2.1,by exact GV q3,this.2.2.2⟩
      .exact(Jy h).elim
theorem xC:∀(k i b:U),(∀a,a<k->j<=i+a/\p<=b+a/\b+a<Q/\∃x,t[i+a]?=Zak/\e[b+a]?=Zak/\I x=false)->k<=eM I t e j p Q (i+k) (b+k):=by
 intro c;induction c with
 |V1=>
  intro _ _ _;exact Zg _|VF k d=>
  intro i b h;have:=d i b λa ht=>h a (Jw ht);show k+1<=eM I t e j p Q (i+k+1) (b+k+1);rw[kJ];rw[ZT (h k (J9))];exact H9 this
abbrev R(XK:Z->Y0)(a b:J Z)(c d e:U):=eM XK a b c d e
def Wt(a i j:U)(p q:U):Prop:=a<=p/\(p<i\/p=i/\q<j)
theorem y9.skip(h:y9 r (Wt j i a) j p b bi u x)(hj:a<=l)(o:∀q,a<=q->q<l->r (i+1) (q+1)=0):y9 r (Wt j i l) j p b bi u x:=by
  refine⟨h.e,λg q d=>?_,h.c.imp id λz=>?_⟩
  . by_cases hd:Wt j i a g q;.exact h.m g q hd
    . unfold Wt at d hd;have:g=i/\a<=q/\q<l:=by exact bw 0xfffbdd149921b63173beee8c4d8c5a18b220f7ddd149b18b4316441 [_,_,_,_,_,_] d hd
      rw[this.1,o q this.2.1 this.2.2];exact Zg _
  obtain⟨s,g,q,d,e1,e2,w,f⟩:=z;refine⟨s,g,q,?_,e1,e2,w,λn k t lt=>?_⟩;.unfold Wt at d⊢;exact bw 0x7ffdf774236ca4d149920fbeee826d949a293241e441 [_,_,_,_,_,_] hj d
  . by_cases hd:Wt j i a n k;.exact f n k hd lt
    . unfold Wt at t hd;have:n=i/\a<=k/\k<l:=by exact bw 0xfffbdd149921b63173beee8c4d8c5a18b220f7ddd149b18b4316441 [_,_,_,_,_,_] t hd
      rw[this.1,o k this.2.1 this.2.2];exact s
theorem y9.step(t:j<=i)(h:y9 r (Wt j i a) j p b bi u s)(hr:r (i+1) (a+1)<=i+1/\r (i+1) (a+1)<=a+1):∃w x y,y9 r (Wt j i (a+1)) j p (if(r (i+1) (a+1):Zw)>b.2.2 then((i:Zw)-r (i+1) (a+1)+1,(a:Zw)-r (i+1) (a+1)+1,(r (i+1) (a+1):Zw))else b) w x y:=by
  rw[h.e];by_cases k:s<r (i+1) (a+1)
  . rw[ZT (by exact JI k)];refine⟨i+1-r (i+1) (a+1),a+1-r (i+1) (a+1),r (i+1) (a+1),⟨?_,λg q d=>?_,.inr ⟨by exact aV 0x7f426e841 [_,_] k,i,a,?_,by exact aV 0x7f700c422177230e441 [_,_,_] hr,by exact aV 0x7f700c4231f7230e441 [_,_,_] hr,rfl,λl n o lt=>?_⟩⟩⟩
    . refine Prod.ext ?_ (Prod.ext ?_ rfl);.show i-(r (i+1) (a+1))+1=((i+1-r (i+1) (a+1):U):Zw);exact aV 0xfee710c1c283a330cc5dc8c3983841 [_,_,_] hr
      .show a-(r (i+1) (a+1))+1=((a+1-r (i+1) (a+1):U):Zw);exact aV 0xfee710c1c383a330cc7dcc1c30e441 [_,_,_] hr
    . by_cases hd:Wt j i a g q;.exact Xa (U' (h.m g q hd) k)
      . unfold Wt at d hd;have:g=i/\q=a:=by exact bw 0x3ffeeca4d8c5cefbba2936316862c883df77507149b18b4316441 [_,_,_,_,_] d hd
        rw[this.1,this.2];exact ZV _
    .unfold Wt;exact aV 0x1fefbba83863d885a10b220e441 [_,_,_] t
    . have:Wt j i a l n:=by unfold Wt at o⊢;exact bw 0x7ffdf77441ec41d0839097beee8c3d883a107212fbba20f620e841 [_,_,_,_,_,_] lt o
      exact U' (h.m l n this) k
  . rw[ZY (by exact aV 0x7f9a98a61e6841 [_,_] k)];refine⟨bi,u,s,rfl,λg q d=>?_,h.c.imp id λz=>?_⟩
    . by_cases hd:Wt j i a g q;.exact h.m g q hd
      . unfold Wt at d hd;have:g=i/\q=a:=by exact bw 0x3ffeeca4d8c5cefbba2936316862c883df77507149b18b4316441 [_,_,_,_,_] d hd
        rw[this.1,this.2];exact aV 0xfe422e6841 [_,_] k
    obtain⟨A,g,q,d,e1,e2,B,f⟩:=z;refine⟨A,g,q,?_,e1,e2,B,λl n o lt=>?_⟩;.unfold Wt at d⊢;exact aV 0x1fefbba838a4d8c5a18b220f7ddd149b18b4316441 [_,_,_,_,_] d
    . have:Wt j i a l n:=by unfold Wt at d o⊢;exact fX 0x7fffefbba40f660e8c1c84bdf774826cc2d1859117beee8e3d983a307212fbba20f620e841 [_,_,_,_,_,_,_,_] lt o d
      exact f l n this lt
def A7(XK:Z->Y0)(a b:J Z)(c d e i:U)(j:J (Zw×Zw)):Prop:=∀z:Zw,(j.lookup z).getD 0=if z<0 then 0 else(eM XK a b c d e i (G7+1):Zw)
def yV(XK:Z->Y0)(a b:J Z)(c d e i j:U)(n:J (Zw×Zw)):Prop:=(∀p∈n,p.1<(j:Zw))/\∀z:Zw,(n.lookup z).getD 0=if z<0\/(j:Zw)<=z then 0 else(eM XK a b c d e (i+1) (G7+1):Zw)
theorem ui(n:J (Zw×Zw))(k a z:Zw)(h:∀p∈n,p.1<k):(n++[(k,a)]).lookup z=if z=k then some a else n.lookup z:=by induction n with
  |Yk=>
    clear h;by_cases e:z=k;.rw[e];simp
    .simp[Ux,e,Yt e]|Zp p n i=>
    obtain⟨y,u⟩:=p;have hy:=h (y,u) Y5;rw[Ux,Ux];by_cases e:z=y
    . subst e;have:z≠k:=by exact a9 0xff36b5696a [] [] [_,_] hy
      simp[this]
    .simp only[Yt e];exact(i λp hp=>h p (ZX _ hp))
theorem nH(n:J (Zw×Zw))(k:Zw)(h:∀p∈n,p.1<k):n.lookup k=none:=by induction n with|Yk=>rfl|Zp p n i=>
  obtain⟨y,u⟩:=p;rw[Ux,Yt (by(exact a9 0xff36a5e96a [] [] [_,_] (h (y,u) Y5)):k≠y)];exact i λp hp=>h p (ZX _ hp)
theorem yV.skip(h:yV I t e j p Q i a n)(hj:a<=b)(c:∀q,a<=q->q<b->eM I t e j p Q (i+1) (q+1)=0):yV I t e j p Q i b n:=by
  refine⟨λd hp=>by have:=h.1 d hp;(exact cF 0x1ffea6256a6156441 [] [_,_] [_] hj this),λz=>?_⟩;rw[h.2 z];by_cases h1:z<0\/b<=z;.rw[ZT h1,ZT (by exact cF 0x1fffb2a9874d57b2a98b4d56441 [] [_,_] [_] hj h1)]
  . rw[ZY h1];by_cases h2:a<=z;.rw[ZT (.inr h2),c G7 (a9 0x1fcd141caa61 [] [_] [_] h2) (a9 0x3fa0d15cf65530e9aa [] [_] [_] h1)];rfl
    .rw[ZY (by exact cF 0x3ffe7b2a669aae654ce7b2a5e9aa [] [] [_,_,_] h1 h2)]
theorem yV.all(h:yV I t e j p Q i a n)(b:∀q,a<=q->eM I t e j p Q (i+1) (q+1)=0):A7 I t e j p Q (i+1) n:=λz=>by
  rw[h.2 z];by_cases h1:z<0;.rw[ZT (.inl h1),ZT h1]
  . rw[ZY h1];by_cases h2:(a:Zw)<=z;.rw[ZT (.inr h2),b G7 (by exact a9 0x1fcd141caa61 [] [_] [_] h2)];rfl
    .rw[ZY (by exact cF 0x3ffe7b2a5e9aae654be69aa [] [] [_,_] h1 h2)]
theorem y9.all(h:y9 r (Wt j i a) j p b bi u x)(n:∀q,a<=q->r (i+1) (q+1)=0):y9 r (Wt j (i+1) 0) j p b bi u x:=by
  refine⟨h.e,λg q d=>?_,h.c.imp id λz=>?_⟩
  . by_cases hd:Wt j i a g q;.exact h.m g q hd
    . unfold Wt at d hd;have:g=i/\a<=q:=by exact bw 0xfffb921763173beee8a4d8c5a18b220f7ddd349b83862d41c316441 [_,_,_,_,_] d hd
      rw[this.1,n q this.2];exact Zg _
  obtain⟨o,g,q,d,e1,e2,t,f⟩:=z;refine⟨o,g,q,?_,e1,e2,t,λl k s lt=>?_⟩;.unfold Wt at d⊢;exact aV 0x7fbeee9a4dc1c316a0e18b220f7ddd149b18b4316441 [_,_,_,_,_] d
  . by_cases hd:Wt j i a l k;.exact f l k hd lt
    . unfold Wt at s hd;have:l=i/\a<=k:=by exact bw 0xfffb921763173beee8a4d8c5a18b220f7ddd349b83862d41c316441 [_,_,_,_,_] s hd
      rw[this.1,n k this.2];exact o
theorem Hf{α:Type}[Oe c]{x y:α}{a:α->Prop}(h1:c->a x)(h2:¬c->a y):a (if c then x else y):=if h:c then(ZT h).symm▸h1 h else(ZY h).symm▸h2 h
def M5(XK:Z->Y0)(c d:J Z)(a b e i:U)(r:J (Zw×Zw)×jW):Prop:=∃f g j,A7 XK c d a b e (i+1) r.1/\y9 (R XK c d a b e) (Wt a (i+1) 0) a b r.2 f g j
theorem A6(hx:t[i]?=Zak)(A:j<=i)(E:A7 I t e j p Q i F):∀(r:J U)(c:U)(n:J (Zw×Zw))(k:jW)(bi b f:U),r.Pairwise (.<.)->(∀q∈r,c<=q)->(∀q,c<=q->(q∈r↔(I x=false/\e[q]?=Zak)))->yV I t e j p Q i c n->y9 (R I t e j p Q) (Wt j i c) j p k bi b f->M5 I t e j p Q i (r0 F p Q i (r.map λc:U=>(c:Zw)) n k):=by
  have V1:∀q,(q<p\/Q<=q\/¬(I x=false/\e[q]?=Zak))->eM I t e j p Q (i+1) (q+1)=0:=λq h=>by
    rw[kJ];rw[ZY];intro G;obtain⟨_,q2,q3,PN,q4,q5,M⟩:=G;rw[hx]at q4;obtain rfl:=ZW q4;refine Xp (λh=>?_) λYA=>YA.elim (λh=>?_) λh=>?_;.exact Jt h q2
    .exact Jt q3 h
    .exact h ⟨M,q5⟩
  intro r;induction r with
  |Yk=>
    intro c n k bi b f O O hm hn hb;have g:∀q,c<=q->eM I t e j p Q (i+1) (q+1)=0:=λq hq=>V1 q (.inr (.inr λh=>by have:=(hm q hq).mpr h;simp at this));exact⟨bi,b,f,hn.all g,hb.all g⟩|Zp a r B=>
    intro c n k bi b f hs hge hm hn hb;obtain⟨w,C⟩:=WH hs;have l:=hge a Y5;have g:∀q,c<=q->q<a->eM I t e j p Q (i+1) (q+1)=0:=λq h1 h2=>V1 q (.inr (.inr λh=>by
      rcases ZI ((hm q h1).mpr h)with d|d;.exact G8 h2 d
      .have:=w q d;exact bw 0x1ffa74116841 [_,_] h2 this));have m:=hn.skip l g
    have y:=hb.skip l g;have D:=(hm a l).mp Y5;refine rwP (xU ..) (Hf (λh1=>?_) λh1=>Hf (λh2=>?_) λh2=>?_);.have o:∀q,a<=q->q<a+1->eM I t e j p Q (i+1) (q+1)=0:=λq a1 a2=>V1 q (.inl (bw 0x7ffa10f507047a98a61 [_,_,_] h1 a2));exact B (a+1) n k bi b f C (λq hq=>w q hq) (λq hq=>by
        rw[<-hm q (bw 0x1ffe443c8479141c1 [_,_,_] hq l)];exact⟨λh=>ZX _ h,λh=>(ZI h).resolve_left (aV 0x3fcd8459141c1 [_,_] hq)⟩) (m.skip (Fy) o) (y.skip (Fy) o)
    .have o:∀q,a<=q->eM I t e j p Q (i+1) (q+1)=0:=λq a1=>V1 q (.inr (.inl (bw 0x1ffe461c8c5998a61 [_,_,_] h2 a1)));exact⟨bi,b,f,m.all o,y.all o⟩
    .
        have N:(F.lookup ((a:Zw)-1)).getD 0+1=(eM I t e j p Q (i+1) (a+1):Zw):=by
          have d:eM I t e j p Q (i+1) (a+1)=eM I t e j p Q i a+1:=by
            rw[kJ];rw[ZT ⟨A,by exact aV 0x3f908b9a98a61 [_,_] h1,by exact aV 0x3fa08b9998a61 [_,_] h2,x,hx,D.2,D.1⟩]
          rw[d,E];clear hs;by_cases s:(a:Zw)-1<0
          . rw[ZT s];have:a=0:=by exact aV 0x3fb6874d8ba61 [_] s
            rw[this];have:eM I t e j p Q i 0=0:=by cases i<;>rfl
            rw[this];rfl
          . rw[ZY s];have:((a:Zw)-1).toNat+1=a:=by exact aV 0x1fd860ea45d30f34d8ba61 [_] s
            rw[this];rfl
        rw[N];obtain⟨S,T,V,X⟩:=y.step A (x7 (i+1) (a+1));refine B (a+1) _ _ S T V C (λq hq=>w q hq) (λq hq=>by
          rw[<-hm q (bw 0x1ffe443c8479141c1 [_,_,_] hq l)];exact⟨λh=>ZX _ h,λh=>(ZI h).resolve_left (aV 0x3fcd8459141c1 [_,_] hq)⟩) ⟨λPM hp=>?_,λz=>?_⟩ X
        . refine(ZM hp).elim (λhp=>?_) λhp=>?_;.have:=m.1 PM hp;exact a9 0x7f538382ad4c2a [] [_] [_] this
          .simp at hp;rw[hp];show(a:Zw)<_;exact cY 0x6a7070661 [_]
        . rw[ui n _ _ z m.1];by_cases d:z=a;.rw[d];rw[ZT rfl,ZY (by exact cY 0x1cf66619c1c1d3661 [_])];rfl
          . rw[ZY d,m.2 z];by_cases u:z<0\/a<=z;.rw[ZT u,ZT (cF 0x1fffb2a9c1c1d355cdcc2af65530e9aa [] [_] [_] u d)]
            .rw[ZY u,ZY (by exact a9 0x1fe7b2a9c1c1d355cf65530e9aa [] [_] [_] u)]
theorem A1:∀a:U,j+a<=YF->∃bi b c,A7 I t e j p Q (j+a) (zB I t e j p Q a).1/\y9 (R I t e j p Q) (Wt j (j+a) 0) j p (zB I t e j p Q a).2 bi b c:=by
 intro f;induction f with
 |V1=>
  intro _;refine⟨j,p,0,λz=>?_,rfl,λg q d=>by unfold Wt at d;(exact aV 0x7f2d277ddd347b83422d41a116441 [_,_,_,_] d),.inl ⟨rfl,rfl,rfl⟩⟩;show(([]:J (Zw×Zw)).lookup z).getD 0=_;have:eM I t e j p Q j (G7+1)=0:=by cases h:eM I t e j p Q j (G7+1)with
   |V1=>rfl|VF k=>
    have h1:=ji j (G7+1) 0 (aV 0x1fd05bb83841 [_,_] h);exact fX 0x7fffdb60e16461cc5b170c7b83841 [_,_,_] h h1.1 ((x7 j (G7+1)).1)
  rw[this];simp|VF a i=>
  intro h;walk_at"b";obtain⟨bi,b,c,hj,hb⟩:=i (aV 0x1fc8e020e47083841 [_,_,_] h);obtain⟨x,hx⟩:∃x,t[j+a]?=Zak:=⟨_,Z6 (by exact aV 0x1fd0e020e47083841 [_,_,_] h)⟩;have hr:t9 I t e (j+a)=(jy I e x).map λl:U=>(l:Zw):=by unfold t9;rw[hx];rfl
  show∃bi b c,A7 _ _ _ _ _ _ _ (r0 _ _ _ _ _ _ _).1/\y9 _ _ _ _ (r0 _ _ _ _ _ _ _).2 _ _ _;rw[hr];refine A6 hx (O1) hj (jy I e x) 0 [] _ bi b c (lX x) (λO O=>Zg _) (λq O=>BF) ⟨λg hp=>(by cases hp),λz=>?_⟩ hb;show([].lookup z).getD 0=_;rw[ZT (fF 0xf65536e9aa [] [] [_])];rfl
def qN(a b:J Z)(c d i j k:U):U×U×U:=Ol (motive:=λO=>U->U->U×U×U) (λj k=>(0,j,k)) (λi r j k=>Sz (motive:=λO=>U×U×U) j (i+1,0,k) λj=>if c<=i/\d<=j/\a[i]?=b[j]? then r j (k+1)else(i+1,j+1,k)) i j k
def jx(a b:J Z)(c d i j f k:U):U:=Ol (motive:=λO=>U->U) id (λO r k=>if i+k<c/\j+k<d/\a[i+k]?=b[j+k]? then r (k+1)else k) f k
theorem rZ:qN t e j p (i+1) (a+1) k=if j<=i/\p<=a/\t[i]?=e[a]? then qN t e j p i a (k+1)else(i+1,a+1,k):=rfl
theorem wM:jx t e a j i b (f+1) k=if i+k<a/\b+k<j/\t[i+k]?=e[b+k]? then jx t e a j i b f (k+1)else k:=rfl
def toN(b:jW):U×U×U:=(b.1.toNat,b.2.1.toNat,b.2.2.toNat)
def eZ(XK:Z->Y0)(a b:J Z)(c d f g:U):U×U×U:=let s:=toN (zB XK a b c f g (d-c)).2
 let e:=qN a b c f s.1 s.2.1 s.2.2
 (e.1,e.2.1,jx a b d g e.1 e.2.1 (d-e.1-e.2.2) e.2.2)
structure Fits(a b:J Z)(c d e f i j k:U):Prop where
 i0:c<=i
 i1:i+k<=d
 j0:e<=j
 j1:j+k<=f
 eq:∀t,t<k->a[i+t]?=b[j+t]?
theorem yr(h:¬(j<i/\p<a/\t[i-1]?=e[a-1]?)):qN t e j p i a k=(i,a,k):=by match i,a with
 |0,_=>rfl|i+1,0=>rfl|i+1,a+1=>
  rw[rZ];rw[ZY];intro b;obtain⟨q,q2,q3⟩:=b;exact h ⟨by exact aV 0x1fd41c20e441 [_,_] q,by exact aV 0x1fd41c20e441 [_,_] q2,by simpa using q3⟩
theorem D5(h:j<i/\p<a/\t[i-1]?=e[a-1]?):qN t e j p i a k=qN t e j p (i-1) (a-1) (k+1):=by cases i with
 |V1=>exact Zc h.1 (SR _)|VF i=>cases a with
  |V1=>exact Zc h.2.1 (SR _)|VF a=>
   rw[rZ];rw[ZT ⟨IM h.1,IM h.2.1,by simpa using h.2.2⟩];rfl
theorem x8(h:¬(i+k<a/\b+k<j/\t[i+k]?=e[b+k]?)):jx t e a j i b f k=k:=by cases f with|V1=>rfl|VF f=>rw[wM];rw[ZY h]
theorem Em(h:i+k<a/\b+k<j/\t[i+k]?=e[b+k]?):jx t e a j i b (f+1) k=jx t e a j i b f (k+1):=by
 rw[wM];rw[ZT h]
theorem qL:∀(i b k:U),Fits t e j a p Q i b k->∃d,qN t e j p i b k=(i-d,b-d,k+d)/\d<=i/\d<=b/\Fits t e j a p Q (i-d) (b-d) (k+d)/\(j<i-d->p<b-d->t[i-d-1]?≠e[b-d-1]?):=by
  intro I;induction I with
  |V1=>
    intro b k h;exact⟨0,by rfl,by exact cY 0x65ad [],by exact O0,h,λh1=>by exact(aV 0x7d3a8b5a1 [_] h1).elim⟩|VF i l=>
    intro n;cases n with
    |V1=>
      intro k h;exact⟨0,by rfl,by exact O0,by exact cY 0x65ad [],h,λO h1=>by exact(aV 0x7d3a8b5a1 [_] h1).elim⟩|VF b=>
      intro k h;rw[rZ];refine bQ rfl (λq=>?_) λq=>?_
      . walk_at"b";obtain⟨d,g,d1,d2,f,m⟩:=l b (k+1) ⟨q.1,by have:=h.i1;(exact aV 0x7f23841c20e470141c1 [_,_,_] this),q.2.1,by have:=h.j1;(exact aV 0x7f23841c20e470141c1 [_,_,_] this),λc ht=>by cases c with|V1=>exact q.2.2|VF c=>
            have:=h.eq c (KA ht);rw[show i+(c+1)=i+1+c by exact E3,show b+(c+1)=b+1+c by(exact E3)];exact this⟩;refine⟨d+1,?_,by exact H9 d1,by exact H9 d2,?_,?_⟩;.rw[g,show i+1-(d+1)=i-d by exact GG,show b+1-(d+1)=b-d by exact GG,show k+(d+1)=k+1+d by(exact E3)]
        .rw[show i+1-(d+1)=i-d by exact GG,show b+1-(d+1)=b-d by exact GG,show k+(d+1)=k+1+d by(exact E3)];exact f
        .rw[show i+1-(d+1)=i-d by exact GG,show b+1-(d+1)=b-d by(exact GG)];exact m
      .walk_at"b";refine⟨0,rfl,by exact O0,by exact O0,h,λh1 h2 g=>q ⟨by exact aV 0x7f220ea2d83841 [_,_] h1,by exact aV 0x7f220ea2d83841 [_,_] h2,?_⟩⟩;simpa using g
theorem rj:∀(f k:U),a<=i+k+f->Fits t e j a p Q i b k->k<=jx t e a Q i b f k/\Fits t e j a p Q i b (jx t e a Q i b f k)/\(i+jx t e a Q i b f k<a->b+jx t e a Q i b f k<Q->t[i+jx t e a Q i b f k]?≠e[b+jx t e a Q i b f k]?):=by
  intro I;induction I with
  |V1=>
    intro k c h;exact⟨ZV _,h,λh1=>by(exact(bw 0x7fe9cc1a116841 [_,_] h1 c).elim)⟩|VF f l=>
    intro k c h;rw[wM];refine bQ rfl (λq=>?_) λq=>?_
    .obtain⟨e1,e2,m⟩:=l (k+1) (aV 0x7f302420e18839841c480c41 [_,_,_,_] c) ⟨h.i0,aV 0x1fc8e107083a1c041 [_,_,_] q.1,h.j0,aV 0x1fc8e107083a1c041 [_,_,_] q.2.1,λg ht=>by
        clear c;by_cases d:g=k;.rw[d];exact q.2.2
        .exact h.eq g (Ip ht d)⟩;exact⟨by exact O7 e1,e2,m⟩
    .exact⟨ZV _,h,λh1 h2 d=>q ⟨h1,h2,d⟩⟩
structure Found(XK:Z->Y0)(c d:J Z)(a e b f i j k:U):Prop where
 eq:(zB XK c d a b f (e-a)).2=((i:Zw),(j:Zw),(k:Zw))
 fits:Fits c d a e b f i j k
 max:∀p q,a<=p->p<e->eM XK c d a b f (p+1) (q+1)<=k
 V1:k=0->i=a/\j=b
 GB:∀t,t<k->∃x,c[i+t]?=Zak/\XK x=false
 fst:0<k->∀p q,a<=p->p<e->(p<i+k-1\/p=i+k-1/\q<j+k-1)->eM XK c d a b f (p+1) (q+1)<k
theorem found(h1:j<=a)(h2:a<=YF)(F:p<=Q):∃i G k,Found I t e j a p Q i G k:=by
  obtain⟨bi,u,b,_,hb⟩:=A1 (I:=I) (e:=e) (j:=j) (p:=p) (Q:=Q) (a-j) (bw 0x7ff91c2211072316441 [_,_,_] h1 h2);have w:j+(a-j)=a:=by exact HF h1
  rw[w]at hb;have cell:∀g q,j<=g->g<a->Wt j a 0 g q:=λg q a1 a2=>⟨a1,.inl a2⟩;have y:=λg q a1 a2=>hb.m g q (cell g q a1 a2);refine⟨bi,u,b,hb.c.elim (λM=>?_) λN=>?_⟩;.obtain⟨z,A,B⟩:=M;refine⟨hb.e,?_,y,λO=>⟨A,B⟩,λl ht=>by rw[z]at ht;exact(Jy ht).elim,λn=>by rw[z]at n;exact(UE 0 n).elim⟩;rw[z,A,B];exact⟨ZV _,by exact aV 0x7f238343b1c041 [_,_,_] w,ZV _,by exact aV 0x1fc8a0d0e441 [_,_] F,λl ht=>by exact(Jy ht).elim⟩
  . obtain⟨n,g,q,d,e1,e2,o,f⟩:=N;refine⟨hb.e,?_,y,λS=>bw 0x7ffdd949b18b6d0e82d [_,_,_,_,_] n S,λl ht=>?_,λ_ C D a1 a2 lt=>f C D (cell C D a1 a2) (fX 0x1ffffddd0cdb097412fbba8b886dc5c22ea2e117648387b141c1 [_,_,_,_,_,_] e1 e2 lt)⟩
    . have hp:g<a:=by unfold Wt at d;exact aV 0x7f43177ddd349b18b4316441 [_,_,_,_] d
      have r:=ji (g+1) (q+1) (b-1) (by show _<R I t e j p Q (g+1) (q+1);rw[o];exact Jm n);refine⟨fX 0x7fffc903b80c9070b436e63170e2e83841 [_,_,_,_] r.1 n e1,by exact bw 0x1ffe462d0c3b141c1 [_,_,_] e1 hp,fX 0x7fffc903b80c9070b436e63170e2e83841 [_,_,_,_] r.2.1 n e2,bw 0x7ff914083dc08383839141c1 [_,_,_,_] r.2.2.1 e2,λl ht=>?_⟩;obtain⟨_,_,_,E,x,s,_⟩:=ji (g+1) (q+1) (b-1-l) (by show _<R I t e j p Q (g+1) (q+1);rw[o];exact JG ht);rw[show g+1-1-(b-1-l)=bi+l by(exact Kg ht e1)]at x;rw[show q+1-1-(b-1-l)=u+l by(exact Kg ht e2)]at s;rw[x,s]
    .obtain⟨_,_,_,E,x,s,T⟩:=ji (g+1) (q+1) (b-1-l) (by show _<R I t e j p Q (g+1) (q+1);rw[o];exact JG ht);rw[show g+1-1-(b-1-l)=bi+l by(exact Kg ht e1)]at x;exact⟨E,x,T⟩
structure MP(XK:Z->Y0)(a b:J Z)(c e d f i j k:U):Prop where
 fits:Fits a b c e d f i j k
 left:c<i->d<j->a[i-1]?≠b[j-1]?
 right:i+k<e->j+k<f->a[i+k]?≠b[j+k]?
 GB:(∃t x,t<k/\a[i+t]?=Zak/\XK x=false)\/(i=c/\j=d/\∀p q x,c<=p->p<e->d<=q->q<f->a[p]?=Zak->b[q]?=Zak->XK x=true)
theorem iF(h1:j<=a)(h2:a<=YF)(l:p<=Q):MP I t e j a p Q (eZ I t e j a p Q).1 (eZ I t e j a p Q).2.1 (eZ I t e j a p Q).2.2:=by
  obtain⟨i,n,k,h⟩:=found (I:=I) (e:=e) h1 h2 l;clear h1 l;have s:toN (zB I t e j p Q (a-j)).2=(i,n,k):=by rw[h.eq];rfl
  obtain⟨d,u,d1,d2,f,m⟩:=qL i n k h.fits;unfold eZ;rw[s];dsimp only;rw[u];walk_at"aG";dsimp only;obtain⟨r,r2,w⟩:=rj (a-(i-d)-(k+d)) (k+d) (Kn) f;refine⟨r2,m,w,?_⟩;walk_at"n";by_cases b:k=0
  . obtain⟨rfl,rfl⟩:=h.zero b;have:=f.i0;have hd:d=0:=by exact bw 0x1ffeda2c845988821 [_,_] this d1
    right;refine⟨by exact aV 0x1fd8a2116da1 [_,_] hd,by exact aV 0x1fd8a2116da1 [_,_] hd,λo q x p0 p1 y z c g=>?_⟩;cases hp:I x with
    |false=>
      have:=h.max o q p0 p1;have A:=xC 1 o q λB ht=>by
        have:B=0:=by exact aV 0x7f6d0e9c1 [_] ht
        rw[this];exact⟨p0,y,z,x,c,g,hp⟩
      exact(fX 0x1fffd3b68b220e42e [_,_] A this b).elim|true=>rfl
  .left;obtain⟨x,c,g⟩:=h.GB 0 (GP b);exact⟨d,x,by exact bw 0x3ffd0c5cdb4391c041 [_,_,_] r b,by rw[show i-d+d=i+0 by(exact aV 0x1fdc1a28062116441 [_,_] d1)];exact c,g⟩
def Tz(b:J Z)(k:U)(x:Z):J U:=(Zi k).filter λj=>b[j]?==some x
def eX(b:J Z)(x:Z):Y0:=decide (200<=Zv/\Zv/100+1<(Tz b Zv x).length)
theorem fA(h:b[k]?=Zax)(x:Z):Tz b (k+1) x=Tz b k x++(if a=x then[k]else[]):=by
 unfold Tz;rw[T1,VM];by_cases e:a=x;.subst e;simp[h]
 .simp[h,e]
structure Tab(G d:GH)(b:J Z)(a:U)(k:J (Z×ZP)):Prop where
 nd:(k.map (·.1)).Nodup
 val:∀x c,(x,c)∈k->∃la,c=.ref la/\G la=none/\d la=some (.list ((Tz b a x).map λj:U=>UD j))
 y':∀x,x∈k.map (·.1)↔Tz b a x≠[]
 inj:∀x y la,(x,.ref la)∈k->(y,.ref la)∈k->x=y
 len:Wq<=a
theorem qZ(h:WK NR x=Zax):(x,a)∈NR:=by
 obtain⟨p,hp,YA⟩:=Y4 h;rw[<-YA];have h1:=List.find?_some hp;have h2:=List.mem_of_find?_eq_some hp;simp at h1;rw[<-h1];exact h2
theorem mE(hn:(NR.map (·.1)).Nodup)(h:(x,a)∈NR):WK NR x=Zax:=by
 obtain⟨i,b⟩:=OH h;exact valueAt_of_get hn b
theorem uD:WK NR x=none↔x∉NR.map (·.1):=by
 unfold WK;simp[List.find?_eq_none];constructor;.intro h b hv;exact h x b hv rfl
 .intro h a b hv e;subst e;exact h b hv
theorem Tab.nil:Tab E w t 0 []:=⟨List.nodup_nil,λx a h=>(by exact nomatch h),λx=>(by simp[Tz]),λx y la h=>(by cases h),ZV _⟩
theorem Tab.sub(h:Tab E w t j NR)(k:∀a m,E a=none->w a=ZcB->b a=ZcB):Tab E b t j NR:=⟨h.nd,λx c hx=>SA (h.val x c hx) λla Yw=>and3 Yw λe1 e2 e=>⟨la,e1,e2,k la _ e2 e⟩,h.key,h.inj,sz⟩
theorem Tab.found(h:Tab E w t j NR)(hy:t[j]?=Zax)(hv:WK NR a=some (.ref la)):w la=some (.list ((Tz t j a).map λb:U=>UD b))/\E la=none/\Tab E (Y8 w la (.list ((Tz t j a).map (λb:U=>UD b)++[Zb5]))) t (j+1) NR:=by
  have hm:=qZ hv;obtain⟨m,e1,e2,c⟩:=h.val a _ hm;cases e1;refine⟨c,e2,h.nd,λx g hx=>?_,λx=>?_,h.inj,by have:=sz;(exact aV 0x1fcc1c20e441 [_,_] this)⟩
  . obtain⟨l,rfl,f,d⟩:=h.val x g hx;clear e2 c;refine⟨l,rfl,f,?_⟩;rw[fA hy];by_cases e:a=x
    . subst e;have:l=la:=by
        have:=mE h.nd hx;clear f d;rw[hv]at this;cases this;rfl
      rw[this];rw[aa,ZT rfl];simp
    . have i:l≠la:=by intro k;subst k;exact e (h.inj _ _ _ hm hx)
      rw[ag i,ZY e,Zn];exact d
  . rw[h.key,fA hy];by_cases e:a=x;.subst e;have:=(h.key a).mp (Yu ⟨_,hm,rfl⟩);simp[this]
    .simp[e]
theorem Tab.fresh(h:Tab E w t j NR)(hy:t[j]?=Zaq)(hv:WK NR b=none)(hn:w n=none)(hb:E n=none):Tz t j b=[]/\Tab E (Y8 w n (.list [Zb5])) t (j+1) (NR++[(b,.ref n)]):=by
  have g:=uD.mp hv;have i:Tz t j b=[]:=by cases e:Tz t j b with|Yk=>rfl|Zp a y=>exact Zc ((h.key b).mpr (by rw[e];simp)) g
  have k:∀x,(x,N' n)∉NR:=λx hx=>by
    obtain⟨la,e1,e2,p⟩:=h.val x _ hx;clear e2;cases e1;exact ax (hn.symm.trans p)
  refine⟨i,?_,λx q hx=>?_,λx=>?_,λx z la hx m=>?_,?_⟩;.rw[ZE,List.map_singleton,ky];refine⟨h.nd,by simp,λa r c o=>?_⟩;clear hy i;simp at o;subst o;intro d;subst d;exact g r
  . rcases ZM hx with rb|rb
    . obtain⟨l,rfl,f,s⟩:=h.val x q rb;clear hb hx;refine⟨l,rfl,f,?_⟩;have u:l≠n:=by intro d;subst d;exact k x rb
      have e:¬b=x:=by intro d;subst d;exact g (Yu ⟨_,rb,rfl⟩)
      rw[ag u,fA hy,ZY e,Zn];exact s
    .simp at rb;clear hx;rw[hx'.1,hx'.2];refine⟨n,rfl,hb,?_⟩;rw[aa,fA hy,ZT rfl,i];rfl
  . rw[ZE,TZ,h.key,fA hy];by_cases e:b=x;.subst e;simp
    .simp[e,Zh e]
  . rcases ZM hx with rb|rb
    . rcases ZM m with bj|bj;.exact h.inj x z la rb bj
      .simp at bj;obtain⟨rfl,rfl⟩:=bj;exact Zc rb (k x)
    . simp at rb;obtain⟨rfl,rfl⟩:=rb;rcases ZM m with bj|bj;.exact Zc bj (k z)
      .simp at bj;exact hz'.symm
  .rw[Z1];have:=sz;simp;exact O9 this
def cW(nt:U)(b:J Z)(k:J (Z×ZP)):J Z:=(k.map (·.1)).filter λx=>decide (nt<(Tz b Zv x).length)
theorem u7:(x,a)∈without NR N↔(x,a)∈NR/\x≠N:=by unfold without;simp
abbrev eI:=U×U×U
abbrev se:=U×U×U×U
section
variable(XK:Z->Y0)(a b:J Z)
def ie(c d:U)(m:eI):J se:=if c<m.1/\d<m.2.1 then[(c,m.1,d,m.2.1)]else[]
def jz(c d:U)(m:eI):J se:=if m.1+m.2.2<c/\m.2.1+m.2.2<d then[(m.1+m.2.2,c,m.2.1+m.2.2,d)]else[]
def FD(f:U)(w:se):J eI:=Ol (motive:=λO=>se->J eI) (λO=>[]) (λO k w=>if(eZ XK a b w.1 w.2.1 w.2.2.1 w.2.2.2).2.2=0 then[]else(ie w.1 w.2.2.1 (eZ XK a b w.1 w.2.1 w.2.2.1 w.2.2.2)).flatMap k++eZ XK a b w.1 w.2.1 w.2.2.1 w.2.2.2::(jz w.2.1 w.2.2.2 (eZ XK a b w.1 w.2.1 w.2.2.1 w.2.2.2)).flatMap k) f w
def j8(w:se):J eI:=FD XK a b (w.2.1-w.1) w
structure gi(w:se):Prop where
 x:w.1<=w.2.1
 y:w.2.1<=Zx
 z:w.2.2.1<=w.2.2.2
 u:w.2.2.2<=Zv
end
theorem gi.subs(h:gi t e (a,c,b,d))(n:(eZ I t e a c b d).2.2≠0):∀w∈ie a b Zch++jz c d Zch,gi t e w/\w.2.1-w.1<c-a:=by
  obtain⟨o,g,p,l⟩:=h;dsimp only at o g p l;have F:=(iF (I:=I) (e:=e) o g p).fits;generalize eZ I t e a c b d=m at*;induction m using E1 with|mk i j k=>?_;obtain⟨r,f,s,q,A⟩:=F;dsimp only at*;intro w hw;unfold ie jz at hw;rw[TZ]at hw;rcases hw with hw|hw
  . split at hw;.rw[Wu]at hw;subst hw;exact⟨⟨by dsimp only;(exact aV 0x7f220f7441e841 [_,_,_,_] ‹_›),by dsimp only;(exact bw 0x1ffe481c90791c041 [_,_,_,_] f g),by dsimp only;(exact O9 s),by dsimp only;(exact bw 0x1ffe481c90791c041 [_,_,_,_] q l)⟩,by dsimp only;(exact fX 0x3fffea241c481e6da2ee8c5d04991c041 [_,_,_,_,_,_] f ‹_› n)⟩
    .exact nomatch hw
  . split at hw;.rw[Wu]at hw;subst hw;exact⟨⟨by dsimp only;(exact O9 f),by dsimp only;(exact O9 g),by dsimp only;(exact O9 q),by dsimp only;(exact O9 l)⟩,by dsimp only;(exact fX 0xffffa8907180823e6da2c84991c041 [_,_,_,_] f r n)⟩
    .exact nomatch hw
theorem g8{α β:Type}{f g:α->J β}:∀{l:J α},(∀x∈l,f x=g x)->l.flatMap f=l.flatMap g:=by
 intro I;induction I with
 |Yk=>
  intro _;exact rfl|Zp x l a=>
  intro h;rw[ZA,ZA,h x Y5,a λy hy=>h y (ZX _ hy)]
theorem su(h:gi t e (a,c,b,f))(he:c<=a):(eZ I t e a c b f).2.2=0:=by
 have F:=(iF (I:=I) (e:=e) h.x h.y h.z).fits;have d:=F.i0;have h1:=F.i1;dsimp only at d h1;exact fX 0x1ffff6d16424c90791c041 [_,_,_,_] h1 he d
theorem jl:∀(f g:U)(w:se),gi t e w->w.2.1-w.1<=f->w.2.1-w.1<=g->FD I t e f w=FD I t e g w:=by
  intro f;induction f with
  |V1=>
    intro g w h c hg;induction w using Ii with|mk a i b j=>?_;cases g with|V1=>rfl|VF g=>
    show[]=(if _ then _ else _);rw[ZT (su h (by dsimp only at c;exact aV 0x1fc88396c441 [_,_] c))]
  |VF f k=>
    intro g w h c hg;induction w using Ii with|mk a i b j=>?_;cases g with
    |V1=>
    show(if _ then _ else _)=[];rw[ZT (su h (by dsimp only at hg;exact aV 0x1fc88396c441 [_,_] hg))];|VF g=>
    show(if _ then _ else _)=(if _ then _ else _);dsimp only at c hg;by_cases d:(eZ I t e a i b j).2.2=0;.rw[ZT d,ZT d]
    . rw[ZY d,ZY d];have hs:=h.subs d;congr 1
      .exact g8 λw hw=>by
          obtain⟨h1,h2⟩:=hs w (Y3 _ hw);exact k g w h1 (Jv h2 c) (Jv h2 hg)
      .congr 1;exact g8 λw hw=>by
          obtain⟨h1,h2⟩:=hs w (Y2 _ hw);exact k g w h1 (Jv h2 c) (Jv h2 hg)
theorem oj(h:gi t e (a,c,b,d))(f:(eZ I t e a c b d).2.2=0):j8 I t e (a,c,b,d)=[]:=by
 unfold j8;rw[jl _ (c-a+1) _ h (ZV _) (Nat.le_succ _)];show(if _ then _ else _)=[];rw[ZT f]
theorem ou(h:gi t e (a,c,b,d))(f:(eZ I t e a c b d).2.2≠0):j8 I t e (a,c,b,d)=(ie a b Zch).flatMap (j8 I t e)++eZ I t e a c b d::(jz c d Zch).flatMap (j8 I t e):=by
  have hs:=h.subs f;conv=>lhs;unfold j8
  rw[jl _ (c-a+1) _ h (ZV _) (Nat.le_succ _)];show(if _ then _ else _)=_;rw[ZY f];congr 1
  .exact g8 λw hw=>by
      obtain⟨h1,h2⟩:=hs w (Y3 _ hw);exact jl _ _ w h1 (aV 0x7f220e841 [_,_] h2) (ZV _)
  .congr 1;exact g8 λw hw=>by
      obtain⟨h1,h2⟩:=hs w (Y2 _ hw);exact jl _ _ w h1 (aV 0x7f220e841 [_,_] h2) (ZV _)
structure IK(XK:Z->Y0)(c d:J Z)(a e b f:U):Prop where
 fst:a<e->b<f->c[a]?≠d[b]?
 MN:∀p q x,a<=p->p<e->b<=q->q<f->c[p]?=Zak->d[q]?=Zak->XK x=true
def Ch(XK:Z->Y0)(c d:J Z)(e f a b:U)(l:J eI):Prop:=VH (λm k a b=>a<=m.1/\b<=m.2.1/\0<m.2.2/\(∀t,t<m.2.2->c[m.1+t]?=d[m.2.1+t]?)/\((∃t x,t<m.2.2/\c[m.1+t]?=Zak/\XK x=false)\/m.1=0/\m.2.1=0)/\IK XK c d a m.1 b m.2.1/\k (m.1+m.2.2) (m.2.1+m.2.2)) (λa b=>a<=e/\b<=f/\IK XK c d a e b f) a b
theorem Ch.join(f:0<c.2.2)(h1:∀d,d<c.2.2->t[c.1+d]?=e[c.2.1+d]?)(h2:(∃d x,d<c.2.2/\t[c.1+d]?=Zak/\I x=false)\/c.1=0/\c.2.1=0)(g:Ch I t e k n (c.1+c.2.2) (c.2.1+c.2.2) r):∀(l:J eI)(a b:U),Ch I t e c.1 c.2.1 a b l->Ch I t e k n a b (l++c::r):=λl=>by induction l with|Yk=>exactλa b h=>(andI7 h.1 h.2.1 f h1 h2 h.2.2 g)|Zp x l i=>exactλa b h=>(andI6 h.1 h.2.1 h.2.2.1 h.2.2.2.1 h.2.2.2.2.1 ⟨h.2.2.2.2.2.1,i _ _ h.2.2.2.2.2.2⟩)
def LD(a b:J Z)(m:eI):Prop:=0<m.1/\0<m.2.1/\a[m.1-1]?≠b[m.2.1-1]?
def RD(a b:J Z)(m:eI):Prop:=a[m.1+m.2.2]?≠b[m.2.1+m.2.2]?
def lE(a b:J Z)(l:J eI):Prop:=td (motive:=λO=>Prop) m2 (λx r k=>m4 (motive:=λO=>Prop) r m2 λy O=>(RD a b x\/LD a b y)/\k) l
theorem lE.join(h1:r≠[]->RD t e a)(b:lE t e r):∀(l:J eI),(l≠[]->LD t e a)->lE t e l->lE t e (l++a::r):=by
 intro c;induction c with
 |Yk=>
  intro h2 h;cases r with|Yk=>trivial|Zp y r=>exact⟨.inl (h1 (Y9 _ _)),b⟩
 |Zp x d I=>cases d with
  |Yk=>
   intro h2 h;exact⟨.inr (h2 (Y9 _ _)),I (λf=>Zc rfl f) trivial⟩|Zp y l=>
   intro h2 h;exact⟨h.1,I (λO=>h2 (Y9 _ _)) h.2⟩
structure qu(XK:Z->Y0)(a b:J Z)(w:se)(l:J eI):Prop where
 ch:Ch XK a b w.2.1 w.2.2.2 w.1 w.2.2.1 l
 sep:lE a b l
theorem IK.of_empty(h:a<=c\/b<=d):IK I t e c a d b:=⟨λO O=>by exact(fX 0x1fffd3a193d920f2116841 [_,_,_,_] ‹_› h ‹_›).elim,λp q x O O O O=>by exact(L7 0x1ffffff4e886c98b908fd92932316841 [_,_,_,_,_,_] ‹_› h ‹_› ‹_› ‹_›).elim⟩
theorem w3:∀(n:U)(w:se),gi t e w->w.2.1-w.1<n->((w.1=0/\w.2.2.1=0)\/(w.1<w.2.1->w.2.2.1<w.2.2.2->t[w.1]?≠e[w.2.2.1]?))->qu I t e w (j8 I t e w):=by
  intro n;induction n with|V1=>exactλw O hn=>Zc hn (SR _)|VF n B=>
    intro w h hn r;induction w using Ii with|mk a f b g=>?_;dsimp only at hn r;have F:=iF (I:=I) (e:=e) (j:=a) (a:=f) (p:=b) (Q:=g) h.x h.y h.z;by_cases o:(eZ I t e a f b g).2.2=0
    . rw[oj h o];refine⟨⟨h.x,h.z,?_⟩,trivial⟩;have R:=F.right;have C:=F.GB;rw[o]at R C;rcases C with⟨s,A,ht,_⟩|⟨u1,u2,u3⟩;.exact(Jy ht).elim
      .rw[u1,u2]at R;exact⟨λG q=>by simpa using R G q,u3⟩
    . rw[ou h o];have hs:=h.subs o;have d:=F.fits;have hr:=F.right;generalize eZ I t e a f b g=m at*;induction m using E1 with|mk i c k=>?_;dsimp only at*;have hd:((∃s A,s<k/\t[i+s]?=some A/\I A=false)\/i=0/\c=0):=by
        walk_at"n";clear h hn hs;rcases(F.GB)with u|⟨rfl,rfl,u⟩;.exact .inl u
        . rcases r with l|l;.exact .inr l
          .exact Zc (d.eq 0 (GP o)) (l (by have:=d.i1;exact bw 0x3ffd0c3cdb4591c041 [_,_,_] this o) (by have:=d.j1;exact bw 0x3ffd0c3cdb4591c041 [_,_,_] this o))
      have D:qu I t e (a,i,b,c) ((ie a b (i,c,k)).flatMap (j8 I t e)):=by
        unfold ie;refine(Wh (a<i/\b<c)).elim (λq=>?_) λq=>?_;.have l:(if a<i/\b<c then[(a,i,b,c)]else[])=[(a,i,b,c)]:=ZT q;walk_at"H";walk_at"H";have hw:=hs (a,i,b,c) (Y3 _ (by unfold ie;dsimp only;rw[l];exact Xv rfl));rw[l,ZA,Zn];refine B _ hw.1 (by have:=hw.2;dsimp only at this⊢;exact bw 0x1ffe843d047a83841 [_,_,_] hn this) ?_;exact r.imp id λM O O=>M (by have:=d.i1;exact bw 0x1ffe864ee8c5d04991c041 [_,_,_,_,_,_] this q) (by have:=d.j1;exact bw 0x1ffe866ee826d14991c041 [_,_,_,_,_,_] this q)
        .dsimp only;rw[ZY q];walk_at"aH";exact⟨⟨d.i0,d.j0,.of_empty (by have:=d.i0;have:=d.j0;dsimp only at*;exact aV 0xffb2326422e77441e841 [_,_,_,_] q)⟩,trivial⟩
      have E:qu I t e (i+k,f,c+k,g) ((jz f g (i,c,k)).flatMap (j8 I t e)):=by
        unfold jz;refine(Wh (i+k<f/\c+k<g)).elim (λq=>?_) λq=>?_;.have l:(if i+k<f/\c+k<g then[(i+k,f,c+k,g)]else[])=[(i+k,f,c+k,g)]:=ZT q;walk_at"H";have hw:=hs (i+k,f,c+k,g) (Y2 _ (by unfold jz;dsimp only;rw[l];exact Xv rfl));rw[l,ZA,Zn];exact B _ hw.1 (by have:=hw.2;dsimp only at this⊢;exact bw 0x1ffe843d047a83841 [_,_,_] hn this) (.inr λO O=>hr q.1 q.2)
        .dsimp only;rw[ZY q];exact⟨⟨d.i1,d.j1,.of_empty (by dsimp only;exact aV 0xffb2326422e77441e841 [_,_,_,_] q)⟩,trivial⟩
      refine⟨Ch.join (oL o) d.eq hd E.ch _ _ _ D.ch,lE.join (λne=>?_) E.sep _ (λne=>?_) D.sep⟩
      . refine(Wh (i+k<f/\c+k<g)).elim (λq=>?_) λq=>?_;.exact hr q.1 q.2
        .exact Zc (by unfold jz;dsimp only;rw[ZY q];rfl) ne
      . refine(Wh (a<i/\b<c)).elim (λq=>?_) λq=>?_;.exact⟨by dsimp only;(exact aV 0x7f426f7441e841 [_,_,_,_] q),by dsimp only;(exact aV 0x7f446f7441e841 [_,_,_,_] q),(F.left) q.1 q.2⟩
        .exact Zc (by unfold ie;dsimp only;rw[ZY q];rfl) ne
section
variable{XK:Z->Y0}{a b:J Z}
def wt(w:se):U:=2*(w.2.1-w.1)+1
def oG(q:J se):U:=(q.map wt).sum
theorem hM(p q:J se):oG (p++q)=oG p+oG q:=by simp[oG]
theorem xF(q:J se):q.length<=oG q:=by induction q with
 |Yk=>exact ZV _|Zp w q i=>
  show q.length+1<=oG ([w]++q);rw[hM];have:oG [w]=wt w:=by rw[oG];rfl
  have:0<wt w:=js _;exact fX 0x7fffcc0828387920f611682d [_,_,_,_] this ‹_› i
theorem An(h:gi a b (c,d,l,n))(g:(eZ XK a b c d l n).2.2≠0):oG (ie c l (eZ XK a b c d l n)++jz d n (eZ XK a b c d l n))<wt (c,d,l,n):=by
 have F:=(iF (I:=XK) (e:=b) h.x h.y h.z).fits;generalize eZ XK a b c d l n=m at*;induction m using E1 with|mk i j k=>?_;obtain⟨f,o,p,q,r⟩:=F;dsimp only at*;unfold ie jz;split<;>split<;>simp[oG,wt]<;>(first|exact rf 0x1ffff5074a261c20e9460208e0e944c1e6da2ee907d04ddd149a1c041 [2,2,2] [_,_,_,_,_,_,_,_] [] ‹_› ‹_› g|exact fX 0x3fffea241c481e6da2ee8c5d04991c041 [_,_,_,_,_,_] o ‹_› g|exact fX 0xffffa8987180823e6da2c84ddd149a1c041 [_,_,_,_,_,_] ‹_› f g)
structure sJ(XK:Z->Y0)(a b:J Z)(w:se)(done:J eI)(q:J se):Prop where
 perm:(done++q.flatMap ZcC).Perm (j8 XK a b w)
 HR:∀c∈q,gi a b c
 wt:oG q<=2*Zx+1
theorem sJ.start(h:gi a b c):sJ XK a b c [] [c]:=⟨by simp,λw hw=>by rw[Wu]at hw;rw[hw];exact h,by
 have:=h.x;have:=h.y;simp[oG,Mine.wt];(exact a9 0x7f3214a230e441 [2,2] [_,_,_] [] this)⟩
theorem sJ.none{done:J eI}(h:sJ XK a b d done (q++[c]))(e:(eZ XK a b c.1 c.2.1 c.2.2.1 c.2.2.2).2.2=0):sJ XK a b d done q:=by
  refine⟨?_,λf hv=>h.HR f (by simp[hv]),?_⟩;.have:=h.perm;simpa[YT,(oj (h.HR c (by simp)) e)]using this
  .have:=h.wt;rw[hM]at this;exact aV 0x1fc8c391c041 [_,_,_] this
theorem sJ.step{done:J eI}(h:sJ XK a b k done (q++[c]))(d:(eZ XK a b c.1 c.2.1 c.2.2.1 c.2.2.2).2.2≠0):sJ XK a b k (done++[eZ XK a b c.1 c.2.1 c.2.2.1 c.2.2.2]) (q++(ie c.1 c.2.2.1 (eZ XK a b c.1 c.2.1 c.2.2.1 c.2.2.2)++jz c.2.1 c.2.2.2 (eZ XK a b c.1 c.2.1 c.2.2.1 c.2.2.2)))/\oG (q++(ie c.1 c.2.2.1 (eZ XK a b c.1 c.2.1 c.2.2.1 c.2.2.2)++jz c.2.1 c.2.2.2 (eZ XK a b c.1 c.2.1 c.2.2.1 c.2.2.2)))<oG (q++[c]):=by
  have hw:=h.HR c (by simp);have hl:oG [c]=Mine.wt c:=by rw[oG];rfl
  have g:=h.wt;rw[hM,hl]at g;have f:oG (q++(ie c.1 c.2.2.1 (eZ XK a b c.1 c.2.1 c.2.2.1 c.2.2.2)++jz c.2.1 c.2.2.2 (eZ XK a b c.1 c.2.1 c.2.2.1 c.2.2.2)))<oG (q++[c]):=by rw[hM q,hM q,hl];exact Nat.add_lt_add_left (An (d:=c.2.1) (l:=c.2.2.1) (n:=c.2.2.2) hw d) _
  refine⟨⟨?_,λi hv=>?_,?_⟩,f⟩
  . refine .trans ?_ (h.perm);have e:(q++[c]).flatMap ZcC=q.flatMap ZcC++j8 XK a b c:=by rw[YT,ZA,Xj,Zn]
    rw[e,(ou (c:=c.2.1) (b:=c.2.2.1) (d:=c.2.2.2) hw d)];generalize eZ XK a b c.1 c.2.1 c.2.2.1 c.2.2.2=m;rw[YT,YT];generalize(ie c.1 c.2.2.1 m).flatMap ZcC=j;generalize(jz c.2.1 c.2.2.2 m).flatMap ZcC=R;generalize q.flatMap ZcC=Q;rw[ZQ];refine List.Perm.append_left _ ?_;show(m::(Q++(j++R))).Perm (Q++(j++m::R));rw[<-ZQ,<-ZQ];exact List.perm_middle.symm
  . rw[TZ]at hv;rcases hv with hv|hv;.exact h.HR i (by simp[hv])
    .exact((gi.subs hw d) i hv).1
  .rw[hM q [c],hl]at f;exact J5 f g
variable{PE:J eI}
theorem sJ.done(h:sJ XK a b c PE []):PE.Perm (j8 XK a b c):=by simpa using h.perm
theorem sJ.len(h:sJ XK a b c PE q):PE.length<=(j8 XK a b c).length:=by rw[<-h.perm.length_eq,Z1];exact O1
theorem sJ.Hm(h:sJ XK a b c PE q):q.length<=2*Zx+1:=YW (xF q) h.wt
theorem Ch.sorted:∀(l:J eI)(c d:U),Ch XK a b n q c d l->(∀m∈l,c<=m.1)/\Th λx y=>x.1<y.1:=by
 intro l;induction l with
 |Yk=>exactλ_ _ _=>⟨λm h=>(by cases h),.nil⟩|Zp x l I=>
  intro c d h;obtain⟨h1,h2,e,g,j,k,f⟩:=h;obtain⟨i1,i⟩:=I _ _ f;refine⟨λm hm=>?_,.cons (λy hy=>by have:=i1 y hy;exact bw 0x1ffe862c8e011682d [_,_,_] e this) i⟩;clear h2 e g j k f;refine(ZI hm).elim (λYA=>?_) λhm=>?_;.rw[YA];exact h1
  .have:=i1 m hm;exact Ks this h1
theorem q1:∀(l:J eI)(c d:U),Ch XK a b f i c d l->c<=f/\d<=i/\∀m∈l,0<m.2.2/\(∀t,t<m.2.2->a[m.1+t]?=b[m.2.1+t]?)/\m.1+m.2.2<=f/\m.2.1+m.2.2<=i:=by
 intro l;induction l with
 |Yk=>exactλ_ _ h=>⟨h.1,h.2.1,λm h=>by exact nomatch h⟩|Zp x l I=>
  intro c d h;walk_at"l";obtain⟨h1,h2,j,k,n,o,g⟩:=h;obtain⟨e1,e2,e⟩:=I _ _ g;refine⟨by exact Ks e1 h1,by exact Ks e2 h2,λm hm=>?_⟩;walk_at"y";clear h1 h2 n o g;rcases ZI hm with rfl|hm;.exact(andI4 j k e1 e2)
  .exact e m hm
theorem lE.at_:∀(l:J eI)(t:U)(x y:eI),lE a b l->l[t]?=Zak->l[t+1]?=some y->RD a b x\/LD a b y:=by
 intro l;induction l with
 |Yk=>exactλt x y _ h _=>by cases h|Zp u l I=>cases l with
  |Yk=>exactλt x y _ _ h=>by cases h|Zp c l=>
   intro t x y h e1 e2;cases t with|V1=>obtain rfl:=ZW e1;rw[<-(ZW e2)];exact h.1|VF t=>exact I t x y h.2 e1 e2
theorem qu.apart(h:qu XK a b k l)(e1:l[f]?=Zak)(e2:l[f+1]?=Zao):¬(x.1+x.2.2=c.1/\x.2.1+x.2.2=c.2.1):=by
  intro g;obtain⟨h1,h2⟩:=g;have e:=(q1 l _ _ h.ch).2.2;obtain⟨d,i,-,-⟩:=e x (YN e1);obtain⟨y,j,-,-⟩:=e c (YN e2);rcases lE.at_ l f x c h.sep e1 e2 with r|⟨-,-,r⟩;.apply r;rw[h1,h2];exact j 0 y
  .apply r;have:=i (x.2.2-1) (Jm d);rwa[show x.1+(x.2.2-1)=c.1-1 by exact bw 0x7ffb8b8708b822d8e011682d [_,_,_] d h1,show x.2.1+(x.2.2-1)=c.2.1-1 by(exact bw 0x7ffb8b8708b822d8e011682d [_,_,_] d h2)]at this
theorem zk{α:Type}{f:α->Zw}:∀{c l:J α},c.Perm l->c.Pairwise (λx y=>f x<f y)->Th (λx y=>f x<f y)->c=l:=by
  intro I;induction I with
  |Yk=>
    intro l p _ _;exact p.nil_eq|Zp x c d=>
    intro g;cases g with
    |Yk=>
      intro p _ _;exact Zc p.length_eq (by simp)|Zp y l=>
      intro p h1 h2;rw[List.pairwise_cons]at h1 h2;have hx:=p.subset Y5;have hy:=p.symm.subset Y5;have e:x=y:=by
        rcases ZI hx with e|hx;.exact e
        . refine(ZI hy).elim (λe=>?_) λhy=>?_;.exact hQ
          .have:=h1.1 y hy;have:=h2.1 x hx;exact(cF 0x1ffa74a5e96a [] [] [_,_] ‹_› this).elim
      subst e;rw[d (List.Perm.cons_inv p) h1.2 h2.2]
end
theorem eR:∀x∈(["isjunk","a","b","autojunk","matching_blocks","opcodes","fullbcount","b2j","bjunk","bpopular"]:J Z),V8 Zaj x=Ye none:=by
 repeat(refine cn (by rw[W6,X'];kernel_rfl) ?_)
 exact jK
structure vr(X:Cx)(C:Y_)(G:GH)(x f d j:Y_)(a b:J Z)(XK:Z->Y0)(al:YS):Prop where
 inst:TA G x C f al
 la:P1 ("a")=some ZaC
 lb:P1 ("b")=some ZbG
 ld:P1 ("b2j")=some ZaO
 lj:P1 ("bjunk")=some (.ref j)
 tab:∃c,G d=some (sD X c)/\∀k,(∃e,WK c k=some (.ref e)/\G e=some (.list ((jy XK b k).map λg:U=>UD g)))\/(WK c k=none/\jy XK b k=[])
 Ak:G j=some (sS X [])
theorem vr.ext(h:vr c f i x d l n a b XK al)(e:Wz i r):vr c f r x d l n a b XK al:=⟨⟨e _ _ h.inst.ob,e _ _ h.inst.dc⟩,h.la,h.lb,h.ld,h.lj,let⟨k,g,q⟩:=h.tab;⟨k,e _ _ g,λj=>(q j).imp (λ⟨m,e1,e2⟩=>⟨m,e1,e _ _ e2⟩) id⟩,e _ _ h.Ak⟩
theorem dm(h:a[j]?=Zak)(b:Zx<=ZK):bR c ZaC Zb5=some (.str x):=gQ (by simp[ah,h]) (by simpa[ah]using b)
theorem zA(D:hF X b)(hn:N∈(["isjunk","a","b","autojunk","matching_blocks","opcodes","fullbcount","b2j","bjunk","bpopular"]:J Z))(hs:Ys ("self")=some ZaI)(I:TA E x vs d al)(hl:P1 N=ZaQ)(hb:∀id,mv≠.raw ZaJ)(k:g mv E)(he:Z3 (ZG (.Attribute (.Name "self" a) N Yl) A=(do
   let e<-ZG (.Name "self" a) A
   VV ab let r<-T' [e] (ec e N true)
   Sb (.Name "self" a) e r
   Ye r)) aW):EV X m A (ZG (.Attribute (.Name "self" a) N Yl) A) o E g:=EV.Hg D.c (n_ _ hn) (eR _ hn) (Z4 hs ⟨x,d,al,mv,rfl,I,hl,hb,k⟩) he
abbrev MH(x a c e f:MV)(g i:J Z)(d u:Y_)(b:jW)(j no:Y_):YS:=[("self",x),("alo",a),("ahi",c),("blo",e),("bhi",f),("a",.lst (ah g)),("b",Zbd),("b2j",ZaO),("isbjunk",.ref u),("besti",.int b.1),("bestj",.int b.2.1),("bestsize",.int b.2.2),("j2len",.ref j),("nothing",.ref no)]
abbrev sh(x:Y_)(a c b e:U)(f g:J Z)(d u:Y_)(i:jW)(j no:Y_):YS:=MH ZaI ZbQ ZcS (.int b) (.int e) f g d u i j no
inductive JV(X:Cx)(XK:Z->Y0)(s c:J Z)(a b d:U)(g:GH)(no:Y_)(i:jW->Y_->YS)(t:U)(l:YS)(G:GH):Prop where|mk(j:Y_)(ex:Wz g G)(n:G no=some Zar)(k:G j=some (iD X (zB XK s c a b d t).1))(f:g j=none)(ne:j≠no)(e:l=i (zB XK s c a b d t).2 j)
inductive Lg(X:Cx)(j:J (Zw×Zw))(a c d:Zw)(i:J U)(R:J (Zw×Zw)×jW)(G:GH)(f:Y_)(m:jW->YS)(k:U)(l:YS)(o:GH):Prop where|mk(n:J (Zw×Zw))(b:jW)(e:r0 j a c d ((w1 k).map λq:U=>(q:Zw)) n b=R)(h:∀p∈n,∀z∈w1 k,p.1<(z:Zw))(r:n.length<=k)(g:o=Y8 G f (iD X n))(el:l=m b)
inductive MJ{a:Type}(S:a->YS)(G:a->GH)(I:U->a->Prop)(n:U)(l:YS)(b:GH):Prop where|mk(m:U)(q:a)(lt:m<n)(i:I m q)(g:b=G q)(s:Od (S q) l)
abbrev Lj{a:Type}(S:a->YS)(G:a->GH)(I:U->a->Prop)(n:U)(K:y_->YS->GH->Prop):y_->YS->GH->Prop:=λb o E=>match b with|.next|.cont=>MJ S G I n o E|.brk=>K .next o E|.ret c=>K (.ret c) o E
theorem EF.qQ(S:c->YS)(G:c->GH)(I:U->c->Prop){q:c}(p:I n q)(UB:∀n q,I n q->EB X m A Zcb (S q) (G q) λb d=>TF (EF X m A (Yj W9 A) (S q) d (Lj S G I n D)) (D .next (S q) d) b):EF X m A (TP (.While ft W9 [] Yl) A) (S q) (G q) D:=EF.ro (λa l j=>∃q,I a q/\l=S q/\j=G q) n ⟨q,p,rfl,rfl⟩ (Tt _) λn l j⟨q,i,e,g⟩=>by
  rw[e];rw[g];exact(UB n q i).mono λb d k=>⟨λe=>(k.t e).mono λo l j k=>match o,k with
   |.next,⟨a,q,lt,i,g,s⟩=>⟨a,_,lt,⟨q,i,rfl,g⟩,s⟩|.cont,⟨a,q,lt,i,g,s⟩=>⟨a,_,lt,⟨q,i,rfl,g⟩,s⟩|.brk,k=>k|.ret _,k=>k,k.f⟩
abbrev Mp(D:hF X NC)(a:Y_):SM:=W7 (xf "SequenceMatcher.find_longest_match" (fy 5 6) D.eZ.pm D.eZ.cd D.eZ.doc (.ref D.dF) .none) a D.eZ.f
abbrev M9(k:U):J V4:=(bI (fy 5 6)).drop k
structure HD(X:Cx)(G:GH)(u c:Y_)(s d:J Z)(e f:U):Prop where
 u:G u=some (.own (.=cX "set.__contains__" c))
 j:G c=some (sS X [])
 z1:ZR<=ZK
 z2:YG<=ZK
 a:e<=ZR
 b:f<=YG
abbrev ph(A:XY)(D:hF X NC)(a:Y_)(S:jW->YS)(G:GH)(K:y_->YS->GH->Prop)(k i j m:U):Prop:=EF X A (Mp D a) (Yj (M9 k) (Mp D a)) (S ((i:Zw),(j:Zw),(m:Zw))) G K
theorem o8(h:a=c):some (UD a)=some ZcS:=Zq (λz=>some (UD z)) h
variable{Pk:hF X NC}{N4 NU:U}
theorem Jh(rm:Rm X m j)(C:ZbV)(n:ph m Pk z (λc=>sh Nh p Q N4 NU t e Nb Nt c NM N5) E D 12 i a k):ph m Pk z (λc=>sh Nh p Q N4 NU t e Nb Nt c NM N5) E D 11 i a k:=by
 refine ZJ (EF.qQ (λO=>sh Nh p Q N4 NU t e Nb Nt (i,a,k) NM N5) (λO=>E) (λO O=>m2) (n:=0) (q:=()) trivial λO O O=>?_);walk_at"D";refine VT (XA rm (YU (Z4 rfl (Z4 rfl ⟨_,rfl,Z4 rfl ⟨decide ((i:Zw)+k<Q),rfl,⟨λc1=>VT (XA rm (YU (Z4 rfl (Z4 rfl ⟨_,rfl,Z4 rfl ⟨decide ((a:Zw)+k<NU),rfl,⟨λc2=>?_,λO=>⟨λh=>(nomatch h),λO=>n⟩⟩⟩⟩)))),λO=>⟨λh=>(nomatch h),λO=>n⟩⟩⟩⟩))));obtain⟨y,hy⟩:∃y,e[a+k]?=some y:=⟨_,Z6 (Xr (Ka (Zj c2)) C.b)⟩;exact VT (Tr (EV.kj rfl (Yq (Z4 rfl (YU (Z4 rfl (Z4 rfl ⟨.int ((a+k:U)),o8 Ec,_,dm hy C.z2,y,[],rfl,C.u,C.j,⟨false,rfl,λh=>(nomatch h),λO=>⟨λh=>(nomatch h),λO=>n⟩⟩⟩)))))))
theorem HQ(rm:Rm X m j)(C:ZbV)(hj:a+k<=NU)(n:ph m Pk z (λd=>sh Nh p Q N4 NU t e Nb Nt d NM N5) E D 11 i a k):ph m Pk z (λd=>sh Nh p Q N4 NU t e Nb Nt d NM N5) E D 10 i a k:=by
 refine ZJ (EF.qQ (λO=>sh Nh p Q N4 NU t e Nb Nt (i,a,k) NM N5) (λO=>E) (λO O=>m2) (n:=0) (q:=()) trivial λO O O=>?_);walk_at"D";refine VT (XA rm (Z4 rfl (Z4 rfl ⟨decide ((p:Zw)<i),rfl,⟨λc1=>VT (XA rm (Z4 rfl (Z4 rfl ⟨decide ((N4:Zw)<a),rfl,⟨λc2=>?_,λO=>⟨λh=>(nomatch h),λO=>n⟩⟩⟩))),λO=>⟨λh=>(nomatch h),λO=>n⟩⟩⟩)));have c:=HY (Zj c2);obtain⟨y,hy⟩:∃y,e[a-1]?=some y:=⟨_,Z6 (KN hj C.b c)⟩;exact VT (Tr (EV.kj rfl (Yq (Z4 rfl (YU (Z4 rfl (X2 ⟨.int ((a-1:U)),o8 (Ke c),_,dm hy C.z2,y,[],rfl,C.u,C.j,⟨false,rfl,λh=>(nomatch h),λO=>⟨λh=>(nomatch h),λO=>n⟩⟩⟩)))))))
structure LY(s c:J Z)(d a f b i j g m k:U):Prop where
 e:m=a-i-k
 h:Fits s c d a f b i j k
 x:jx s c a b i j m k=g
theorem Ar(rm:Rm X m j)(C:ZbV)(N:Fits t e p Q N4 NU i d k)(n:ph m Pk z (λg=>sh Nh p Q N4 NU t e Nb Nt g NM N5) E D 10 i d (jx t e Q NU i d (Q-i-k) k)):ph m Pk z (λg=>sh Nh p Q N4 NU t e Nb Nt g NM N5) E D 9 i d k:=by
  generalize S:jx t e Q NU i d (Q-i-k) k=T at n;refine ZJ (EF.qQ (λk:U=>sh Nh p Q N4 NU t e Nb Nt (i,d,k) NM N5) (λO=>E) (LY t e p Q N4 NU i d T) ⟨rfl,N,S⟩ λA k I=>?_);walk_at"D";have stop:¬(i+k<Q/\d+k<NU/\t[i+k]?=e[d+k]?)->ph m Pk z (λg=>sh Nh p Q N4 NU t e Nb Nt g NM N5) E D 10 i d k:=λV=>(x8 V).symm.trans I.x▸n;refine VT (XA rm (YU (Z4 rfl (Z4 rfl ⟨_,rfl,Z4 rfl ⟨decide ((i:Zw)+k<Q),rfl,⟨λc1=>VT (XA rm (YU (Z4 rfl (Z4 rfl ⟨_,rfl,Z4 rfl ⟨decide ((d:Zw)+k<NU),rfl,⟨λc2=>?_,λc2=>⟨λh=>(nomatch h),λO=>stop λq=>VO c2 (Vf q.2.1)⟩⟩⟩⟩)))),λc1=>⟨λh=>(nomatch h),λO=>stop λq=>VO c1 (Vf q.1)⟩⟩⟩⟩))));have c:=Ka (Zj c1);have r:=Ka (Zj c2);obtain⟨PM,s⟩:∃y,t[i+k]?=some y:=⟨_,Z6 (Xr c C.a)⟩;obtain⟨B,l⟩:∃y,e[d+k]?=some y:=⟨_,Z6 (Xr r C.b)⟩;refine VT (EB.qG (Tr (EV.kj rfl (Yq (Z4 rfl (YU (Z4 rfl (Z4 rfl ⟨.int ((d+k:U)),o8 Ec,_,dm l C.z2,B,[],rfl,C.u,C.j,⟨false,rfl,λO=>?_,λh=>(nomatch h)⟩⟩))))))));refine VT (XA rm (Yq (Z4 rfl (YU (Z4 rfl (Z4 rfl ⟨.int ((i+k:U)),o8 Ec,_,dm s C.z1,Yq (Z4 rfl (YU (Z4 rfl (Z4 rfl ⟨.int ((d+k:U)),o8 Ec,_,dm l C.z2,PM==B,rfl,⟨λo=>t' ⟨λO=>?_,λh=>(nomatch h)⟩,λo=>⟨λh=>(nomatch h),λO=>stop λq=>?_⟩⟩⟩))))⟩))))))
  . have F:t[i+k]?=e[d+k]?:=by rw[s,l,eq_of_beq o]
    walk_at"I";obtain⟨f,w⟩:∃f,A=f+1:=⟨A-1,bw 0x1ffee0e8b884dc45108c9a1c041 [_,_,_,_] c I.e⟩;refine ZJ (EF.aug rfl (X2 ⟨.int (k+1),rfl,YV ⟨f,k+1,w▸Wr _,⟨LN (w▸I.e),⟨I.h.i0,Iy c,I.h.j0,Iy r,λG ht=>?_⟩,?_⟩,rfl,?_⟩⟩) (.inl rfl))
    . by_cases M:G=k;.rw[M];exact F
      .exact I.h.eq G (Ip ht M)
    .rw[<-Em ⟨c,r,F⟩,<-w];exact I.x
    .exact av Z_
  .rw[s,l]at q;rw[ZW q.2.2,Ve]at o;exact Vd o
structure Lo(s c:J Z)(a d b f:U)(r:U×U×U)(m:U)(q:U×U×U):Prop where
 e:q.1=m
 h:Fits s c a d b f q.1 q.2.1 q.2.2
 x:qN s c a b q.1 q.2.1 q.2.2=r
theorem Df(rm:Rm X m j)(hh:XW=none)(C:ZbV)(f:Fits t e p Q N4 NU i d k)(he:qN t e p N4 i d k=(F,M,S))(n:ph m Pk z (λg=>sh Nh p Q N4 NU t e Nb Nt g NM N5) E D 9 F M S):ph m Pk z (λg=>sh Nh p Q N4 NU t e Nb Nt g NM N5) E D 8 i d k:=by
  refine ZJ (EF.qQ (λq:U×U×U=>sh Nh p Q N4 NU t e Nb Nt (q.1,q.2.1,q.2.2) NM N5) (λO=>E) (Lo t e p Q N4 NU (F,M,S)) (q:=(i,d,k)) ⟨rfl,f,he⟩ λPM q I=>?_);walk_at"D";induction q using E1 with|mk i d k=>?_;have f:=I.h;have stop:¬(p<i/\N4<d/\t[i-1]?=e[d-1]?)->ph m Pk z (λg=>sh Nh p Q N4 NU t e Nb Nt g NM N5) E D 9 i d k:=λT=>by
    walk_at"aI";have q:=(yr T).symm.trans I.x;rw[show i=F from(rD q).1,show d=M from(rD (rD q).2).1,show k=S from(rD (rD q).2).2]at⊢;exact n
  refine VT (XA rm (Z4 rfl (Z4 rfl ⟨decide ((p:Zw)<i),rfl,⟨λc1=>VT (XA rm (Z4 rfl (Z4 rfl ⟨decide ((N4:Zw)<d),rfl,⟨λc2=>?_,λc2=>⟨λh=>(nomatch h),λO=>stop λq=>VO c2 (Vf q.2.1)⟩⟩⟩))),λc1=>⟨λh=>(nomatch h),λO=>stop λq=>VO c1 (Vf q.1)⟩⟩⟩)));have o:=HY (Zj c1);have r:=HY (Zj c2);obtain⟨V,A⟩:∃y,t[i-1]?=some y:=⟨_,Z6 (KN f.i1 C.a o)⟩;obtain⟨G,s⟩:∃y,e[d-1]?=some y:=⟨_,Z6 (KN f.j1 C.b r)⟩;have c:=Ke o;have l:=Ke r;refine VT (EB.qG (Tr (EV.kj rfl (Yq (Z4 rfl (YU (Z4 rfl (X2 ⟨_,o8 l,_,dm s C.z2,G,[],rfl,C.u,C.j,⟨false,rfl,λO=>?_,λh=>(nomatch h)⟩⟩))))))));refine VT (XA rm (Yq (Z4 rfl (YU (Z4 rfl (X2 ⟨_,o8 c,_,dm A C.z1,Yq (Z4 rfl (YU (Z4 rfl (X2 ⟨_,o8 l,_,dm s C.z2,V==G,rfl,⟨λw=>t' ⟨λO=>?_,λh=>(nomatch h)⟩,λw=>⟨λh=>(nomatch h),λO=>stop λq=>?_⟩⟩⟩))))⟩))))))
  . have N:t[i-1]?=e[d-1]?:=by rw[A,s,eq_of_beq w]
    walk_at"p";refine ZJ (gx hh (WE:=["besti","bestj","bestsize"]) (TO (Zu (YU (Z4 rfl (X2 ⟨_,o8 c,Zu (YU (Z4 rfl (X2 ⟨_,o8 l,Zu (YU (Z4 rfl (X2 ⟨.int ((k+1:U)),rfl,Y6 ⟨Jk,_,rfl,rfl,YV ⟨i-1,(i-1,d-1,k+1),I.e▸aV 0x7f4116e628ba61 [_,_] c,⟨rfl,⟨aV 0x1fcc5c20e841 [_,_] o,bw 0x1ffe49083862c92030ee628ba61 [_,_,_,_] c f.i1,aV 0x1fcc5c20e841 [_,_] r,bw 0x1ffe49083862c92030ee628ba61 [_,_,_,_] l f.j1,λB ht=>?_⟩,?_⟩,rfl,?_⟩⟩⟩)))⟩)))⟩))))) (rq Z_));.cases B with|V1=>rw[vi,vi];exact N|VF B=>
        have:=f.eq B (KA ht);rw[<-(HV c),<-(HV l)]at this;exact this
    .rw[<-D5 ⟨o,r,N⟩];exact I.x
    .exact av Z_
  .rw[A,s]at q;rw[ZW q.2.2,Ve]at w;exact Vd w
theorem BR(D:hF X x)(P8:d5 X x)(gE:d0 X)(hb:RX x)(hr:x.mg "range"=none/\x.mb "range"=some ZaF)(rm:Rm X m (QN+3))(M:vr X vs E PN QP PR PZ l s XK al)(h1:a<=F)(h2:F<=W5)(QQ:b<=d)(QR:d<=ZR)(P9:W5<=10000)(Qt:ZR<=10000)(P0:g (P8.mv (eZ XK l s a F b d).1 (eZ XK l s a F b d).2.1 (eZ XK l s a F b d).2.2) E):b9 X m (.ref D.eZ.f) [.ref PN,ZbQ,.int F,.int b,.int d] E g:=by
  refine iE.call (D.eZ.fn.E8 D.Iz x (M:=[.ref PN,ZbQ,.int F,.int b,.int d]) rm ["self","alo","ahi","blo","bhi"] (λpm cd Ww PR Rn Ro T P5 Rq=>?_) Z' ZbM λRt=>?_);.have QS:=P5.length;refine Kk P5 λv1 v2 v3 v4 v5 c=>?_;clear QS;subst c;exact xc [v1,v2,v3,v4,v5] rfl P5
  intro YX;walk_at"d";have r:=WJ YX;have hg:∀Qu,([]:J Z).contains Qu=true->Yg Qu=Zaa:=e7 rfl;refine EF.mono (EF.back ?_) (λP6 PS G Q=>by cases P6<;>exact Q);walk_at"p";refine ZJ (IY ?_);walk_at"aJ";refine ZJ (sq (TO (Zu (zA D Z' rfl M.inst M.la (by intro id h;cases h) ?_))));walk_at"B";refine Zu (zA D Z' rfl M.inst M.lb (by intro id h;cases h) ?_);refine Zu (zA D Z' rfl M.inst M.ld (by intro id h;cases h) ?_);refine Zu (EV.Gh (zA D Z' rfl M.inst M.lj (by intro id h;cases h) ⟨PZ,[],rfl,M.Ak,λu QT=>Y6 ⟨by simp[af],?_⟩⟩));refine bq.tup X4 (NB:=[("a",_),("b",_),("b2j",_),("isbjunk",_)]) (cn (.inl rfl) (cn (.inl rfl) (cn (.inl rfl) (cn (.inl rfl) jK)))) rfl ?_;walk_at"aK";refine ZJ (XD (S2 x hb r hg (c:=false) ?_ ⟨(λh=>by cases h),λO=>YV ?_⟩));.kernel_rfl!
  refine ZJ (XD (S2 x hb r hg (c:=false) ?_ ⟨(λh=>by cases h),λO=>YV ?_⟩));.kernel_rfl!
  have Qv:∀z∈(["besti","bestj","bestsize"]:J Z),aM YX z:=rq Z_;refine ZJ (gx X4 (XZ x hb r hg (mv:=.tup [ZbQ,.int b,.int 0]) ?_ ⟨_,rfl,rfl,?_⟩) Qv);.kernel_rfl!
  walk_at"q";refine ZJ (Zk (EV.Cd (b:=λP6=>∃T,P6.IsDictOf (eb Wj Sl) T/\dw [] T) Ci λo Qj=>?_) (.inl rfl));refine ZJ (Zk (VZ (Y6 ⟨by decide,λno P2=>?_⟩)) (.inl rfl));have Qa:Wz E (Y8 E u (.own (.=ZcL))):=(I8 E).upd QT;generalize QU:Y8 E u (.own (.=ZcL))=Qb at Qj P2 Qa;have QV:Qb u=some (.own (.=ZcL)):=by rw[<-QU];exact aa ..
  have Qk:no≠o:=by intro y;subst y;rw[aa]at P2;cases P2
  walk_at"J";rw[ag Qk]at P2;let IO:U->YS->GH->Prop:=JV X XK l s a b d Qb no λq o=>sh PN a F b d l s PR u q o no;refine ZJ (EF.vO IO (gr.Aw X4 x hb rfl hr.1 hr.2 (Z4 rfl ⟨_,rfl,by exact rf 0x1ffff4facc7910f21165e1 [10000,1099511627776] [_,_,_] [] P9 h2 h1,Z4 rfl ⟨_,rfl,by exact cF 0x1ffe9f598b21165e1 [10000,1099511627776] [_,_] [] P9 h2,?_⟩⟩)));walk_at"W";refine⟨λp PS=>aJ "i" (.int ((a+p:U):Zw)) PS,sh PN a F b d l s PR u ((a:Zw),(b:Zw),0) o no,⟨o,((I8 Qb).upd Qj).upd P2,aa ..,cB (aa ..) ?_,Qj,Zh Qk,rfl⟩,?_,λp ht=>(by
    have c:((a:Zw)+p)=((a+p:U):Zw):=by exact Ec
    show TG X _ _ _ _ (UD ((a:Zw)+p)) _;rw[c];exact UQ (.inl rfl)),λp PS G ht PT=>?_,λPS G PT=>?_⟩;.rw[ag Qk];exact P2
  .exact av Z_
  . obtain⟨o,ex,Qw,Qc,Ru,Rv,rfl⟩:=PT;walk_at"I";have QW:a+p<W5:=by exact bw 0x3ffd12011e482d52331cc41 [_,_,_,_] ht h2
    obtain⟨N,Qx⟩:∃N,l[a+p]?=some N:=⟨_,Z6 QW⟩;have P7:zB XK l s a b d (p+1)=r0 (zB XK l s a b d p).1 b d ((a+p:U):Zw) ((jy XK s N).map λPW:U=>(PW:Zw)) [] (zB XK l s a b d p).2:=by
      show r0 _ _ _ _ (t9 XK l s (a+p)) _ _=_;unfold t9;rw[Qx];rfl
    generalize(zB XK l s a b d p).1=PX at Qc P7;generalize(zB XK l s a b d p).2=Qy at P7⊢;walk_at"p";refine ZJ (Zk (EV.Ft (Z4 rfl ⟨o,PX,rfl,Qc,λB hg'=>?_⟩)) (.inl rfl));refine ZJ (Zk (EV.Cd (b:=λP6=>∃T,P6.IsDictOf (eb Wj Sl) T/\dw [] T) Ci λA S=>?_) (.inl rfl));walk_at"J";have QX:o≠B:=by intro y;subst y;rw[Qc]at hg';cases hg'
    have QY:no≠B:=by intro y;subst y;rw[Qw]at hg';cases hg'
    have SA:Wz Qb (Y8 G B (.own (.=Zbn))):=ex.upd (kV hg');have Qd:Y8 G B (.own (.=Zbn)) no=some Zar:=by rw[ag QY];exact Qw
    have Ql:Y8 G B (.own (.=Zbn)) o=some (iD X PX):=by rw[ag QX];exact Qc
    have Qm:Y8 G B (.own (.=Zbn)) B=some (.own (.=Zbn)):=aa ..;generalize Y8 G B (.own (.=Zbn))=P4 at S SA Qd Ql Qm;walk_at"X";have QZ:o≠A:=by intro y;subst y;rw[Ql]at S;cases S
    have nn:no≠A:=by intro y;subst y;rw[Qd]at S;cases S
    have ng:B≠A:=by intro y;subst y;rw[Qm]at S;cases S
    have Q2:∀n,vr X vs (Y8 P4 A (iD X n)) PN QP PR PZ l s XK al:=λn=>M.ext ((Qa.trans SA).upd ((Qa.trans SA).none S));obtain⟨T,hd,Q3⟩:=(Q2 []).tab;generalize Qz:r0 PX (b:Zw) (d:Zw) ((a+p:U):Zw) ((jy XK s N).map λPW:U=>(PW:Zw)) [] Qy=QA at P7;refine ZJ ?_;walk_at"d";generalize Q4:iR _ _ _ _ _=Q5;have QB:∀n q(Qn:YS),n.length<=ZR->(n,q)=QA->Od (sh PN a F b d l s PR u q o no++([("newj2len",.ref A)]:YS)) Qn->Q5 .next Qn (Y8 P4 A (iD X n)):=by
      intro n q Qn V c Q6;subst Q4;show EF X _ _ _ _ _ _;refine EF.sub Q6 (ZJ (Zk (Z4 rfl (YV ⟨_,⟨A,ex1.upd (ex1.none S),?_,?_,ex1.none S,Zh nn,rfl⟩,?_⟩)) (.inl rfl)));.rw[ag nn];exact Qd
      .rw[P7,<-c];exact aa ..
      .rw[P7,<-c];exact av Z_
    refine(EF.Hb X4 (EV.HJ gE (Z4 rfl ⟨PR,T,rfl,hd,Yq (Z4 rfl (Z4 rfl ⟨_,dm Qx (by rw[af];(exact O3 P9)),N,rfl,Z4 rfl ⟨.ref no,rfl,hd,?_⟩⟩))⟩)));obtain⟨la,e1,e2⟩:∃la,(WK T N).getD (.ref no)=.ref la/\Y8 P4 A (iD X []) la=some (.list ((jy XK s N).map λPW:U=>UD PW)):=by
      walk_at"b";rcases Q3 N with⟨Q7,e1,e2⟩|⟨e1,e2⟩;.exact⟨Q7,by rw[e1];rfl,e2⟩
      .refine⟨no,by rw[e1];rfl,?_⟩;rw[e2,ag nn];exact Qd
    have QC:la≠A:=by intro y;subst y;rw[aa]at e2;cases e2
    rw[ag QC]at e2;have QD:=lX (I:=XK) (t:=s) N;have Qe:(jy XK s N).length<=ZR:=by
      unfold jy;refine bQ rfl (λO=>?_) λO=>?_;.simp
      .exact YW (VS ..) (by simp)
    generalize jy XK s N=i at e2 QD Qe Qz;rw[e1];let Q8:U->YS->GH->Prop:=Lg X PX b d ((a+p:U):Zw) i QA P4 A λq=>sh PN a F b d l s PR u q o no++([("i",.int ((a+p:U):Zw)),("j2lenget",.ref B),("newj2len",.ref A)]:YS);refine⟨Q8,la,(a_ λPW:U=>UD PW),_,rfl,?_,⟨[],Qy,Qz,(λPM hp=>by cases hp),ZV _,rfl,rfl⟩,?_,λQ Q9 PS QE hm PT=>?_,λPS QE PT=>?_⟩;.intro Q PS QE y;obtain⟨n,q,_,_,_,rfl,_⟩:=y;rw[ag QC];exact e2
    .exact av Z_
    . obtain⟨n,q,c,Qf,V,YA,YB⟩:=PT;rw[YA,YB];walk_at"A";obtain⟨j,QF,rfl⟩:∃j:U,i[Q]?=Zb'/\Q9=Zb5:=by
        walk_at"b";rw[Zy]at hm;obtain⟨P5,hr,c⟩:=Y4 hm;exact⟨P5,hr,c.symm⟩
      have Qo:=(ZN QF).1;have Qp:w1 Q=j::w1 (Q+1):=by rw[Xz Qo,(ZN QF).2]
      rw[Qp,Yb]at c;rw[xU]at c;rw[Qp]at Qf;have Ra:∀z∈w1 (Q+1),j<z:=by
        have:=QD.sublist (List.drop_sublist Q i);rw[Qp]at this;exact(WH this).1
      refine Oi (.inl rfl) ?_;refine ZJ (XD (S2 x hb r hg (c:=decide ((j:Zw)<b)) ?_ ⟨λh=>ZJ (EF.cont ?_),λh=>YV ?_⟩));.kernel_rfl!
      . have PY:(j:Zw)<b:=by exact Zj h
        rw[ZT PY]at c;refine⟨_,⟨n,q,c,λPM hp z Qg=>Qf PM hp z (ZX _ Qg),by exact aV 0x1fcc1c20e441 [_,_] V,rfl,rfl⟩,?_⟩;exact av Z_
      have Rb:¬(j:Zw)<b:=by simpa using h
      rw[ZY Rb]at c;refine ZJ (XD (S2 x hb r hg (c:=decide ((d:Zw)<=j)) ?_ ⟨λh=>ZJ (EF.brk ?_),λh=>YV ?_⟩));.kernel_rfl!
      . have PY:(d:Zw)<=j:=by exact Zj h
        rw[ZT PY]at c;exact QB n q _ (fX 0x7fffc8c990932316841 [_,_,_,_] Qo Qe V) c Zb1
      have Rc:¬(d:Zw)<=j:=by simpa using h
      rw[ZY Rc]at c;have Rf:n.lookup (j:Zw)=none:=nH n j λPM hp=>Qf PM hp j Y5;have Rg:Y8 P4 A (iD X n) B=some (.own (.=Zbn)):=by rw[ag ng];exact Qm
      have Rh:Y8 P4 A (iD X n) o=some (iD X PX):=by rw[ag QZ];exact Ql
      generalize Ri:(PX.lookup ((j:Zw)-1)).getD 0+1=k at c;refine ZJ (gg (YU (EV.AQ gE (u:=B) (n:=o) rfl (XZ x hb r hg (mv:=.int ((j:Zw)-1)) ?_ ⟨_,rfl,X2 ⟨_,PX,rfl,Rg,Rh,X2 ⟨Za0,?_,?_⟩⟩⟩))));.kernel_rfl!
      .exact Zq (λz=>some (UD z)) Ri
      refine Oi (.inl rfl) (bq.Hx (Z4 rfl (Z4 rfl ⟨A,n,j,rfl,rfl,aa ..,Rf,by rw[af];(exact oP 0x7ffffe5e4c849978f2316841 [10000,16777216] [_,_,_,_] [] Qo Qe Qt V),?_⟩)));rw[aQ];have QG:∀PM∈n++[((j:Zw),k)],∀z∈w1 (Q+1),PM.1<(z:Zw):=λPM hp z Qg=>by
        refine(ZM hp).elim (λhp=>?_) λhp=>?_;.exact Qf PM hp z (ZX _ Qg)
        .rw[ZD hp];have:=Ra z Qg;show(j:Zw)<z;(exact JI this)
      have QH:(n++[((j:Zw),k)]).length<=Q+1:=by rw[Z1];simpa using V
      refine ZJ (XD (S2 x hb r hg (c:=decide (q.2.2<k)) ?_ ⟨λh=>?_,λh=>YV ?_⟩));.kernel_rfl!
      . have PY:k>q.2.2:=by exact Zj h
        rw[ZT PY]at c;refine ZJ (gx X4 (WE:=["besti","bestj","bestsize"]) (XZ x hb r hg (mv:=.tup [.int (((a+p:U):Zw)-k+1),.int ((j:Zw)-k+1),Za0]) ?_ ⟨_,rfl,rfl,YV (YV ?_)⟩) Qv);.kernel_rfl!
        .refine⟨_,⟨n++[((j:Zw),k)],(((a+p:U):Zw)-k+1,(j:Zw)-k+1,k),c,QG,QH,rfl,rfl⟩,?_⟩;exact av Z_
      . have PY:¬k>q.2.2:=by simpa using h
        rw[ZY PY]at c;refine YV ⟨_,⟨n++[((j:Zw),k)],q,c,QG,QH,rfl,rfl⟩,?_⟩;exact av Z_
    .obtain⟨n,q,c,_,V,YA,YB⟩:=PT;rw[YA,YB];rw[Z2]at c V;rw[PO,R']at c;rw[Ez]at c;exact QB n q _ (D1 V Qe) c Zb1
  . obtain⟨o,ex,O,O,O,O,YA⟩:=PT;rw[YA];obtain⟨Qq,QI,Qh,Qr⟩:=found (I:=XK) (t:=l) (e:=s) h1 h2 QQ;have ht:((F:Zw)-a).toNat=F-a:=by exact cY 0x3711069198a61 [_,_]
    rw[ht,Qr.eq];have QJ:=Qa.trans ex;have Rj:=ex _ _ QV;have Rk:=(M.ext QJ).Ak;unfold eZ at P0;rw[show toN (zB XK l s a b d (F-a)).2=(Qq,QI,Qh)from by rw[Qr.eq];rfl]at P0;dsimp only at P0;have QK:=Qr.fits;obtain⟨dd,QL,d1,d2,QM,_⟩:=qL Qq QI Qh QK;rw[QL]at P0;dsimp only at P0;have Qi:HD X G u PZ l s F d:=⟨Rj,Rk,by rw[af];(exact O3 P9),by rw[af];(exact O3 Qt),h2,QR⟩;obtain⟨_,Rl,_⟩:=rj (F-(Qq-dd)-(Qh+dd)) (Qh+dd) (Kn) QM;refine Df (Pk:=D) r X4 Qi QK QL (Ar r Qi QM (HQ r Qi Rl.j1 (Jh r Qi (ZJ (Q0 (EV.Ey x P8.t rfl P8.gl (Zu (Z4 rfl (Zu (Z4 rfl (Zu (Z4 rfl (Y6 ?_)))))))))))));exact vz P8 hb (n:=QN) r ⟨QJ,P0⟩
abbrev ES(a b:J Z):YS:=[("isjunk",.none),("a",ZaC),("b",ZbG),("autojunk",.bool true),("matching_blocks",.none),("opcodes",.none),("fullbcount",.none)]
def JJ(a b:J Z)(d:Y_):YS:=ES a b++([("b2j",ZaO)]:YS)
def Kh(a b:J Z)(d j:Y_):YS:=ES a b++([("b2j",ZaO),("bjunk",.ref j)]:YS)
abbrev wG(a b:J Z)(d j p:Y_):YS:=ES a b++([("b2j",ZaO),("bjunk",.ref j),("bpopular",.ref p)]:YS)
def dT(G b:GH)(x d:Y_):GH:=λa=>if a=x\/a=d\/G a=none then b a else none
theorem dT.at(h:a=x\/a=d\/b a=none):dT b c x d a=c a:=ZT h
theorem dT.ext:Wz (dT c b x d) b:=λa o e=>by
 unfold dT at e;split at e;.exact e
 .cases e
theorem dT.new(e:dT c f x d b=Zax):b=x\/b=d\/c b=none:=by
 unfold dT at e;split at e;.assumption
 .cases e
theorem dT.le(h:∀a,b a=none->a=d\/c a=none):Wz (dT b f x d) (dT c f x d):=λa o e=>by rw[dT.at ((dT.new e).imp id λq=>Vr .inl λq=>h a q)];exact dT.ext _ _ e
theorem Cm(h:Wz (H2 b a) c):Wz (H2 b a) (Y8 c a d):=h.upd (dZ ..)
theorem J1(h:E a=Zbf)(k:E b=some (.own d)):a≠b:=λe=>by subst e;rw[h]at k;cases k
theorem Js(h:E a=Zao)(k:E b=ZaD)(q:Z3 ((c.kd==d.kd)=false) aR):a≠b:=λe=>by subst e;rw[h]at k;cases k;rw[Ve]at q;cases q
theorem kM(G:GH)(o d:MO)(h:a≠b):Y8 (Y8 G a o) b d=Y8 (Y8 G b d) a o:=by
  funext c;by_cases h1:c=a;.rw[h1];rw[aa,ag h,aa]
  . rw[ag h1];clear h;by_cases h2:c=b;.rw[h2];rw[aa,aa]
    .rw[ag h2,ag h2,ag h1]
theorem putAt(h:b=Y8 d a c):b a=Zao:=h▸aa ..
theorem qE(h:c=Y8 d a i)(n:b≠a)(e:d b=f):c b=f:=by rw[h,ag n];exact e
theorem rM(h:d=Y8 c a i)(n:c a=none)(e:c b=Za8):d b=Za8:=by rw[h];exact cB e n
inductive LQ(K:MV->GH->Prop)(m:MV)(G:GH):Prop where|mk(n:U)(h:mj G m=Zdb)(z:n<=ZK)(k:K Zbp G)
theorem EV.len(b:V3 c)(hb:ZcX)(e:Yg "len"=Zaa)(h:EV c d YX (ZG f YX) l i (LQ g))(he:Z3 (Zr [f] YX=(false,ZG f YX)::Zr [] YX) aR):EV c d YX (ZG (.Call (.Name "len" q) [f] [] Yl) YX) l i g:=have hl:=hb "len" Zaz (by rfl)
 b3 b e hl.1 hl.2 (.inl ⟨_,rfl⟩) (Zu (he:=he) (WT λm G j=>by obtain⟨n,h,z,k⟩:=j;exact Y6 λt s a S r=>ao.cS (NL:=λa=>ZU c.M d (VQ (.builtin "len") a) _ _ _) r λo a p r2=>ao.jX (NL:=λa=>ZU c.M d (VQ Zaz (o::a)) _ _ _) r2 (jw h z S p k))) (he:=he)
theorem FW(hb:b≠0)(hp:VB a b=false)(h:a.fdiv b=r):uw c .FloorDiv ZbQ (.int b)=some (.int r):=h▸((ZY hb).trans (ZT hp):(if b=0 then none else if VB a b=false then some (UD (a.fdiv b))else none)=some (.int (a.fdiv b)))
def stC(x d:Y_)(s:J Z):YS:=[("self",ZaI),("b",Zal),("b2j",ZaO)]
def stN(x d j p:Y_)(s:J Z):YS:=[("self",ZaI),("b",Zal),("b2j",ZaO),("junk",.ref j),("isjunk",.none),("popular",.ref p),("n",.int ZR),("ntest",.int ((ZR/100:U)+1))]
inductive MK(X:Cx)(a:GH)(x d:Y_)(s:J Z)(b:U)(l:YS)(G:GH):Prop where|mk(k:J (Z×ZP))(ex:Wz a G)(hd:G d=Zbb)(T:Tab a G s b k)(e:l=stC x d s)
inductive M8(X:Cx)(G:GH)(d a:Y_)(b:J (Z×ZP))(z:U)(c:YS)(ob:OD)(f:J Z)(l:YS)(i:GH):Prop where|mk(k:J (Z×ZP))(g:i=Y8 (Y8 G d (sD X k)) a (.own (.=ob)))(m:∀p,p∈k↔p∈b/\p.1∉f)(j:(k.map (·.1)).Nodup)(n:Wq<=z)(e:l=c)
inductive M0(X:Cx)(G:GH)(d p:Y_)(k:J (Z×ZP))(n:U)(s:J Z)(a:YS)(ob:OD)(b:U)(l:YS)(c:GH):Prop where|mk(g:c=Y8 (Y8 G d (.own (.=ob))) p (sS X (cW n s (k.take b))))(e:l=a)
theorem vQ(D:hF X b)(gE:d0 X)(hb:ZcX)(Bw:V0 "enumerate"=none/\Va "enumerate"=Za_)(k8:V0 "set"=none/\Va "set"=some ZaH)(rm:Rm X m (RP+1))(PT:TA E x vs n (ES q s))(P8:ZR<=1000)(Q8:∀G d j p,vr X vs (dT E G x n) x n d j q s (eX s) (wG q s d j p)->Wz (H2 E n) G->g .none G):b9 X m (.ref D.chain.f) [ZaI] E g:=by
  refine D.chain.fn.call b rm ["self"] (EK λO=>rfl) Z' rfl ZbM λRQ=>?_;intro YX;walk_at"d";have r:=WJ YX;have hg:∀Qm,[("len")].contains Qm=true->Yg Qm=Zaa:=λQm QK=>by
    simp only[Ws,VG,TR,V7]at QK;subst QK;rfl
  have Qn:=PT.ne;refine ZJ (Zk (zA D Z' rfl PT rfl (by intro id h;cases h) ?_) (.inl rfl));refine ZJ (gg (EV.Cd (b:=λQo=>Qo.IsDictOf ZaL []) FF λd hd=>?_));walk_at"A";have M:d≠n:=CQ hd PT.dc;have QL:d≠x:=CQ hd PT.ob;have Q9:TA (Y8 E d (sD X [])) x vs n (ES q s):=⟨by rw[ag (Zh QL)];exact PT.ob,by rw[ag (Zh M)];exact PT.dc⟩;refine OW D.c (n_ _ Z') (eR _ Z') (Z4 rfl ⟨x,n,_,rfl,Q9,WG rfl,Oi (.inl rfl) ?_⟩);walk_at"aL";have Qp:Wz (Y8 E n (.ns (JJ q s d))) (Y8 (Y8 E d (sD X [])) n (.ns (aJ "b2j" (.ref d) (ES q s)))):=λa Qo e=>(Si (kM E _ _ M) a).trans ((ag (fv e ((ag M).trans hd))).trans e);generalize PY:Y8 E n (.ns (JJ q s d))=P4 at Qp;have Ra:P4 d=none:=by rw[<-PY,ag M];exact hd
  let Rb:U->YS->GH->Prop:=MK X P4 x d s;refine ZJ (EF.vO Rb (gr.enum X4 b rfl Bw.1 Bw.2 (Z4 rfl ⟨ah s,rfl,?_⟩)));walk_at"W";refine⟨λk l=>aJ "elt" ((ah s).getD k .none) (aJ "i" (.int k) l),_,⟨[],Qp,by rw[ag M];exact aa ..,Tab.nil,rfl⟩,?_,λk S=>bb X4 (.inl rfl) (.inl rfl),λk l G S Qq=>?_,λl G Qq=>?_⟩;.exact av Z_
  . obtain⟨i,ex,I,T,rfl⟩:=Qq;walk_at"p";have Qr:k<ZR:=by simpa[ah]using S
    obtain⟨y,hy⟩:∃y,s[k]?=some y:=⟨_,Z6 Qr⟩;have hge:(ah s).getD k .none=.str y:=by rw[Z0];simp[ah,hy]
    show EF X _ _ _ (aJ "elt" ((ah s).getD k .none) (aJ "i" (.int k) _)) _ _;rw[hge];walk_at"p";have Rc:=T.len;have P9:((Tz s k y).map λQt:U=>UD Qt).length<=ZK:=by
      rw[Z2];have:(Tz s k y).length<=k:=by unfold Tz;exact YW (VS ..) (by simp)
      exact rf 0x7fffcbc7908f2f16841 [1000,16777216] [_,_,_] [] Qr P8 this
    refine ZJ (Zk (EV.wh gE (Z4 rfl ⟨d,i,rfl,I,Z4 rfl ⟨y,rfl,VZ (Y6 ⟨by decide,λnl F=>⟨.ref nl,rfl,cB I F,by rw[af];(exact rf 0x7fffcbc7908f2f16841 [1000,16777216] [_,_,_] [] Qr P8 Rc),λo hv=>?_,λhv=>?_⟩⟩)⟩⟩)) (.inl rfl))
    . obtain⟨la,rfl,_,_⟩:=T.val y o (qZ hv);have Rf:Tab P4 (Y8 G nl (.list [])) s k i:=T.sub λa Qa O e=>cB e F;obtain⟨P5,Qb,QM⟩:=Rf.found hy hv;have Rg:d≠la:=by
        clear hv Qb QM;intro z;subst z;rw[cB I F]at P5;cases P5
      walk_at"aM";refine ZJ (VK (W4 (Z4 rfl ⟨la,_,rfl,P5,Z4 rfl ⟨_,P5,P9,rfl,YV ⟨_,⟨i,(ex.upd (kV F)).upd Qb,by rw[ag Rg];exact cB I F,QM,rfl⟩,?_⟩⟩⟩)));exact av Z_
    . have Qu:=fv I F;obtain⟨P5,Qb⟩:=T.fresh hy hv F (kV F);have QN:Y8 (Y8 G nl (.list [])) d (sD X (i++[(y,.ref nl)])) nl=some Zar:=by rw[ag (Zh Qu)];exact aa ..
      refine ZJ (VK (W4 (Z4 rfl ⟨nl,_,rfl,QN,Z4 rfl ⟨_,QN,by decide,rfl,YV ⟨_,⟨i++[(y,.ref nl)],((ex.upd (kV F)).upd Ra).upd (kV F),by rw[ag Qu];exact aa ..,Qb.sub λa Qa Qc e=>?_,rfl⟩,?_⟩⟩⟩)));.exact(Si (kM _ _ _ (Zh Qu)) a).symm.trans ((ag (J1 e (cB I F))).trans ((Si (aQ ..) a).trans e))
      .exact av Z_
  . obtain⟨i,ex,I,T,rfl⟩:=Qq;walk_at"q";rw[az]at T;walk_at"q";have Qd:TA G x vs n (JJ q s d):=⟨ex _ _ (by rw[<-PY,ag (Zh Qn)];exact PT.ob),ex _ _ (by rw[<-PY];exact aa ..)⟩;have Qe:Wz (H2 E n) G:=λa Qo e=>ex _ _ (by rw[<-PY,ag (ck e).1];exact(ck e).2);have QP:∀a,P4 a=none->a≠n:=λa e=>CQ e (PY▸aa ..);refine ZJ (gg (EV.pw b rfl k8.1 k8.2 λj N=>?_));walk_at"aN";have Qv:=CQ N Qd.dc;have Rh:=CQ N I;have Ri:=Qe.none N;generalize PW:Y8 G j (sS X [])=QQ;have Qw:TA QQ x vs n (JJ q s d):=⟨rM PW.symm N Qd.ob,rM PW.symm N Qd.dc⟩;refine OW D.c (n_ _ Z') (eR _ Z') (Z4 rfl ⟨x,n,_,rfl,Qw,WG rfl,Oi (.inl rfl) ?_⟩);walk_at"q";generalize PX:Y8 QQ n (.ns (Kh q s d j))=QR;have PZ:TA QR x vs n (Kh q s d j):=⟨qE PX.symm (Zh Qn) Qw.ob,putAt PX.symm⟩;have Qx:=qE PX.symm M (rM PW.symm N I);have Qy:=qE PX.symm Qv (putAt PW.symm);have QS:=T.sub λa Qa Qc e=>qE PX.symm (QP a Qc) (rM PW.symm N e);have Qf:=PX▸PW▸Cm (Qe.upd (Qe.none N));clear PX Qw PW Qd Qe I T ex N Qp;refine ZJ (Zk (zA D Z' rfl PZ rfl (by intro id h;cases h) ?_) (.inl rfl));refine ZJ (XD (S2 b hb r hg (c:=false) Z_ ⟨(λh=>by cases h),λO=>YV ?_⟩));walk_at"E";refine ZJ (gg (EV.pw b rfl k8.1 k8.2 λp B=>?_));have QT:=CQ B PZ.dc;have Rj:=CQ B PZ.ob;have P0:=CQ B Qx;have Rk:=CQ B Qy;generalize V:Y8 QR p (sS X [])=Qz;have QA:TA Qz x vs n (Kh q s d j):=⟨rM V.symm B PZ.ob,rM V.symm B PZ.dc⟩;refine OW D.c (n_ _ Z') (eR _ Z') (Z4 rfl ⟨x,n,_,rfl,QA,WG rfl,Oi (.inl rfl) ?_⟩);show EF X _ _ _ _ (Y8 Qz n (.ns (wG q s d j p))) _;generalize PM:Y8 Qz n (.ns (wG q s d j p))=Q;have Qg:TA Q x vs n (wG q s d j p):=⟨qE d3 (Zh Qn) QA.ob,putAt d3⟩;have Qh:=qE d3 M (rM V.symm B Qx);have QU:=qE d3 Qv (rM V.symm B Qy);have QB:=qE d3 QT (putAt V.symm);have PN:=QS.sub λa Qa Qc e=>qE d3 (QP a Qc) (rM V.symm B e);have QV:=PM▸V▸Cm (Qf.upd (Qf.none B));have Rl:=Qf.none B;have Rn:=(bZ E Qv).symm.trans Ri;have Ro:=(bZ _ M).trans hd;clear PM QA V PZ Qx Qy QS Qf B;have QW:∀t PR,PR d=some (sD X t)->(k3 (·.1)).Nodup->(∀A,A∈t↔A∈i/\eX s A.1=false)->Tab P4 PR s ZR i->TA PR x vs n (wG q s d j p)->PR j=some (sS X [])->Wz (H2 E n) PR->g .none PR:=λt PR Rq q2 q3 q4 q5 Rt Ru=>by
      refine Q8 PR d j p ⟨⟨(dT.at (.inl rfl)).trans q5.ob,(dT.at (.inr (.inl rfl))).trans q5.dc⟩,rfl,rfl,rfl,rfl,⟨t,(dT.at (.inr (.inr hd))).trans Rq,λk=>?_⟩,(dT.at (.inr (.inr Rn))).trans Rt⟩ Ru;have QC:jy (eX s) s k=if eX s k=true then[]else Tz s ZR k:=rfl;refine gG (WK t k) (λhv=>?_) λo hv=>?_
      . rw[hv];right;refine⟨rfl,?_⟩;rw[QC];clear QC;by_cases hp:eX s k=true;.rw[ZT hp]
        . rw[ZY hp];have Rv:eX s k=false:=by simpa using hp
          have hn:=uD.mp hv;cases e:Tz s ZR k with
          |Yk=>rfl|Zp a QX=>
            obtain⟨A,QD,rfl⟩:=Zl ((q4.key k).mpr (by rw[e];simp));exact Zc (Yu ⟨A,(q3 A).mpr ⟨QD,Rv⟩,rfl⟩) hn
      .rw[hv];walk_at"n";obtain⟨P2,PS⟩:=(q3 _).mp (qZ hv);obtain⟨la,rfl,QE,P6⟩:=q4.val k o P2;left;refine⟨la,rfl,?_⟩;rw[dT.at (by rw[<-PY]at QE;exact(Wh (la=n)).elim (λh=>.inr (.inl h)) λh=>.inr (.inr (by rw[ag h]at QE;exact QE)))];have PS:eX s k=false:=PS;rw[QC,ZY (by rw[PS];decide)];exact P6
    walk_at"d";have QF:ZR<=ZK:=by rw[af];(exact Gn P8)
    refine ZJ (Zk (EV.len b hb rfl (Z4 rfl ⟨ZR,eA,QF,?_⟩)) (.inl rfl));walk_at"aO";refine ZJ (XD (VT (Tr (zA D Z' rfl Qg rfl (by intro id h;cases h) ⟨true,rfl,λO=>VT (S2 b hb r hg (c:=decide ((200:Zw)<=ZR)) Z_ ⟨λc1=>t' ⟨λO=>?_,(λh=>by cases h)⟩,λc1=>⟨(λh=>by cases h),λO=>YV (YV ?_)⟩⟩),(λh=>by cases h)⟩))))
    . have QG:200<=ZR:=by
        have:(200:Zw)<=ZR:=by exact Zj c1
        exact a9 0xfe42fccc2f [200,200] [_] [] this
      have Rw:∀y,eX s y=decide (ZR/100+1<(Tz s ZR y).length):=λy=>by unfold eX;simp[QG]
      have hdiv:VB (ZR:Zw) 100=false:=by
        unfold VB;walk_at"j";rw[Bool.and_eq_false_iff];exact .inl (by rfl)
      have hq:(ZR:Zw).fdiv 100=((ZR/100:U):Zw):=(I1 _ Z');refine ZJ (Zk (YU (YU (Z4 rfl (X2 ⟨.int (ZR/100:U),FW Z' hdiv hq,X2 ⟨_,rfl,?_⟩⟩)))) (.inl rfl));refine ZJ ?_;generalize Rx:iR _ _ _ _ _=Ry;have Rz:∀(QY:U),(cW (ZR/100+1) s (n2 QY)).length<=ZR:=λQY=>by
        unfold cW;refine YW (VS ..) ?_;rw[Z2,Zo];have:=PN.len;(exact JQ this)
      have RA:∀QH,Od (stN x d j p s) QH->Ry .next QH (Y8 (Y8 Q d (sD X i)) p (sS X (cW (ZR/100+1) s i))):=by
        intro QH RB;subst Rx;walk_at"aP";show EF X _ _ _ _ _ _;have QZ:∀y,y∈cW (ZR/100+1) s i↔y∈a_ (·.1)/\eX s y=true:=λy=>by unfold cW;rw[e5,Rw]
        let RE:OD->J Z->YS->GH->Prop:=M8 X Q d p i ZR (stN x d j p s);let RR:=cW (ZR/100+1) s i;refine EF.sub RB (ZJ (EF.Fd X4 (.inl rfl) RE (Z4 rfl ⟨rfl,aa ..,λob=>⟨_,⟨i,by rw[aQ],λA=>by simp,PN.nd,PN.len,rfl⟩,Tt _⟩⟩) ?_ ?_ ?_));.intro ob Q2 l G z;obtain⟨t,rfl,_⟩:=z;exact aa ..
        . intro ob Q2 k l G S RF Q3 z;obtain⟨t,rfl,P2,PS,P6,rfl⟩:=z;obtain⟨RG,_⟩:=(QZ k).mp S;obtain⟨⟨QI,o⟩,QD,rfl⟩:=Zl RG;have RI:(QI,o)∈t:=(P2 _).mpr ⟨QD,RF⟩;have hd2:Y8 (Y8 Q d (sD X t)) p (.own (.=ob)) d=some (sD X t):=by rw[ag (Zh P0)];exact aa ..
          refine ZJ (EF.Lx (Z4 rfl (Z4 rfl ⟨d,t,QI,rfl,rfl,hd2,by rw[mE PS RI];rfl,by exact D1 P6 QF,YV ⟨_,⟨without t QI,?_,λA=>?_,?_,?_,rfl⟩,?_⟩⟩)));.exact(kM _ _ _ P0).trans (Zq (Y8 . p _) (aQ ..))
          .obtain⟨y,RS⟩:=A;rw[u7,P2];simp[and_assoc]
          .exact PS.sublist (List.Sublist.map _ List.filter_sublist)
          .exact YW (VS ..) P6
          .exact av Z_
        . intro ob Q2 l G Q3 z;obtain⟨t,rfl,P2,PS,P6,rfl⟩:=z;refine YV (YV (QW t _ ?_ PS (λA=>?_) ?_ ?_ ?_ ?_));.rw[aQ,ag (Zh P0)];exact aa ..
          .rw[P2];refine and_congr_right λhp=>?_;rw[Q3,QZ];have:A.1∈a_ (·.1):=Yu ⟨A,hp,rfl⟩;simp[this]
          .refine PN.sub λa Qa O e=>?_;exact(Si (aQ ..) a).trans ((ag (Js e QB)).trans ((ag (Js e Qh)).trans e))
          .exact⟨by rw[aQ,ag (Zh Rj),ag (Zh QL)];exact Qg.ob,by rw[aQ,ag (Zh QT),ag (Zh M)];exact Qg.dc⟩
          .rw[aQ,ag (Zh Rk),ag Rh];exact QU
          .rw[aQ];exact(QV.upd Ro).upd Rl
      let RJ:OD->U->YS->GH->Prop:=M0 X Q d p i (ZR/100+1) s (stN x d j p s);refine(EF.CP gE X4 (λk l=>match i[k]? with|some (y,o)=>aJ "idxs" (.raw o) (aJ "elt" (.str y) l)|none=>l) RJ (Z4 rfl ⟨rfl,Qh,λob=>⟨_,⟨?_,rfl⟩,Tt _⟩⟩) ?_ ?_ ?_ ?_)
      . funext a;by_cases h2:a=p;.rw[h2];rw[aa,ag P0,QB];rfl
        .rw[ag h2]
      . intro k y o S;have:(λ(l:YS)=>match i[k]? with|some (y,o)=>aJ "idxs" (.raw o) (aJ "elt" (.str y) l)|none=>l)=λl=>aJ "idxs" (.raw o) (aJ "elt" (.str y) l):=by funext l;rw[S]
        show TG X _ _ _ _ _ (λ(l:YS)=>match i[k]? with|some (y,o)=>aJ "idxs" (.raw o) (aJ "elt" (.str y) l)|none=>l);rw[this];exact bb X4 (.inl rfl) (.inl rfl)
      . intro ob k l G S z;obtain⟨rfl,rfl⟩:=z;obtain⟨⟨y,o⟩,Qi⟩:∃P7,i[k]?=some P7:=⟨_,Z6 S⟩;show EF X _ _ _ (match i[k]? with|some (y,o)=>aJ "idxs" (.raw o) (aJ "elt" (.str y) _)|none=>_) _ _;rw[Qi];dsimp only;obtain⟨la,YA,_,Qj⟩:=PN.val y o (YN Qi);rw[YA];have h1:=Js Qj QB;have h2:=Js Qj Qh;have Q4:Y8 (Y8 Q d (.own (.=ob))) p (sS X (cW (ZR/100+1) s (n2 k))) la=some (.list ((Tz s ZR y).map λQt:U=>UD Qt)):=by rw[ag h1,ag h2];exact Qj
        have Q5:(Tz s ZR y).length<=ZR:=by unfold Tz;exact YW (VS ..) (by simp)
        have P9:=hb "len" Zaz (by rfl);have QJ:cW (ZR/100+1) s (n2 (k+1))=cW (ZR/100+1) s (n2 k)++(if ZR/100+1<(Tz s ZR y).length then[y]else[]):=by
          unfold cW;rw[X9,Qi];simp only[U_,ZE,Yb,R',VM];by_cases h:ZR/100+1<(Tz s ZR y).length<;>simp[h]
        refine ZJ (XD (XA r (b3 b rfl P9.1 P9.2 (.inl ⟨_,rfl⟩) (Zu (Z4 rfl (Y6 λRT RU RV Q6 QX=>?_))))));obtain⟨o,YA,P7⟩:=ao.u QX;rw[YA];refine jw (by show(l8 _ _).map _=_;rw[eU Q4];exact Zq some (by simp)) (D1 Q5 QF) Q6 P7 (Z4 rfl ⟨decide (((ZR/100:U):Zw)+1<((Tz s ZR y).length:Zw)),rfl,λh=>?_,λh=>YV (YV ?_)⟩)
        . have Qk:ZR/100+1<(Tz s ZR y).length:=by
            have:=Zj h;exact aV 0x1fd0a0e0ea6283a61 [_,_] this
          have RK:y∉cW (ZR/100+1) s (n2 k):=λP7=>by
            have RL:=(SQ P7).1;clear Qj Q4 Q5 QJ Q6 h Qk;obtain⟨⟨Q7,RW⟩,hq,rfl⟩:=Zl RL;obtain⟨RM,Ql⟩:=OH hq;rw[T3]at Ql;split at Ql
            . rename_i RN;have e1:(a_ (·.1))[RM]?=some Q7:=by simp[Ql]
              have e2:(a_ (·.1))[k]?=some Q7:=by simp[Qi]
              have:=(j4 ((ZN e1).1) PN.nd).mp (e1.trans e2.symm);exact G8 RN this
            .cases Ql
          refine ZJ (VK (EV.setAdd (Z4 rfl ⟨p,_,rfl,aa ..,Z4 rfl ⟨y,rfl,aa ..,RK,by have:=Rz k;unfold NO;(exact cF 0x1ffe9f070b21165e1 [1000,4096] [_,_] [] P8 this),rfl,YV (YV ⟨_,⟨?_,rfl⟩,?_⟩)⟩⟩)));.rw[aQ,QJ,ZT Qk]
          .exact av Z_
        . have Qk:¬ZR/100+1<(Tz s ZR y).length:=by
            have:=VO h;exact aV 0x7f9a141c1e6a6283a61 [_,_] this
          refine⟨_,⟨?_,rfl⟩,?_⟩;.rw[QJ,ZY Qk,Zn]
          .exact av Z_
      .intro ob k l G z;obtain⟨rfl,_⟩:=z;rw[ag (Zh P0)];exact aa ..
      .intro ob l G z;obtain⟨rfl,rfl⟩:=z;have e:Y8 (Y8 (Y8 Q d (.own (.=ob))) p (sS X (cW (ZR/100+1) s (n2 Xw)))) d (sD X i)=Y8 (Y8 Q d (sD X i)) p (sS X (cW (ZR/100+1) s i)):=(kM _ _ _ P0).trans ((Zq (Y8 . p _) (aQ ..)).trans (by rw[XT]));rw[e];exact RA _ (Tt _)
    . have QG:¬200<=ZR:=by simp at c1;(exact a9 0x1fe642fd3e61 [200,200] [_] [] c1)
      exact QW i Q Qh PN.nd (λA=>⟨λh=>⟨h,by unfold eX;simp[QG]⟩,λh=>h.1⟩) PN Qg QU QV
theorem Bn:∀x∈(["set_seqs","set_seq1","set_seq2","_SequenceMatcher__chain_b","find_longest_match","get_matching_blocks","get_opcodes","get_grouped_opcodes"]:J Z),V8 Zaj x=Ye none:=by
 repeat(refine cn (by rw[W6,X'];kernel_rfl) ?_)
 exact jK
theorem EV.xe{q:Z}(D:hF X NC)(a:il Nw q N NI D.mN X)(hn:N∈(["set_seqs","set_seq1","set_seq2","_SequenceMatcher__chain_b","find_longest_match","get_matching_blocks","get_opcodes","get_grouped_opcodes"]:J Z))(hs:Ys ("self")=some Zay)(I:TA E z vs Nh NF)(hl:Q' N=none)(h:EA X m A (Ng::NP) o E λd G=>b9 X m (.ref a.f) (.ref z::d) G g)(he:Z3 (ZG (.Call (.Attribute (.Name "self" Np) N Ny) (Ng::NP) [] N1) A=(do
   let b<-ZG (.Name "self" Np) A
   VV Ny.atName let(e,first)<-T' [b] (Ob b N Nz)
   OS N1 e first (UJ N1 (Zr (Ng::NP) A)) [])) aR)(i:Z3 (gH A Ng NP) aR):EV X m A (ZG (.Call (.Attribute (.Name ("self") Np) N Ny) (Ng::NP) [] N1) A) o E g:=EV.It D.c a.get a.fn.get a.fn.nt rfl rfl (Bn _ hn) (Z4 hs ⟨z,Nh,NF,rfl,I,hl,h⟩) he i
theorem EV.wD{q:Z}(D:hF X NC)(a:il Nw q N NI D.mN X)(hn:N∈(["set_seqs","set_seq1","set_seq2","_SequenceMatcher__chain_b","find_longest_match","get_matching_blocks","get_opcodes","get_grouped_opcodes"]:J Z))(hs:Ys ("self")=some Zay)(I:TA E z vs Nh NF)(hl:Q' N=none)(h:b9 X m (.ref a.f) [Zay] E g)(he:Z3 (ZG Zcq A=(do
   let b<-ZG (.Name "self" Np) A
   VV Ny.atName let(d,first)<-T' [b] (Ob b N Nz)
   OS N1 d first (UJ N1 (Zr [] A)) [])) aR):EV X m A (ZG Zcq A) o E g:=EV.Gd D.c a.get a.fn.get a.fn.nt rfl rfl (Bn _ hn) (Z4 hs ⟨z,Nh,NF,rfl,I,hl,h⟩) he
theorem Inst.set(I:TA E x b d al):TA (Y8 E d (.ns a)) x b d a:=⟨by rw[ag (Zh I.ne)];exact I.ob,aa ..⟩
theorem zt(D:hF X b)(hb:ZcX)(rm:Rm X m (n+1))(I:TA E x vs d [("isjunk",.none),("a",.none),("b",.none),("autojunk",.bool true)])(a:g .none (Y8 E d (.ns [("isjunk",.none),("a",Zal),("b",.none),("autojunk",.bool true),("matching_blocks",.none),("opcodes",.none)]))):b9 X m (.ref D.seq1.f) [ZaI,Zal] E g:=by
 refine D.seq1.fn.call b rm ["self","a"] (ym λO O=>rfl) Z' rfl ZbM λe=>?_;intro YX;walk_at"d";refine ZJ (IY ?_);refine ZJ (XD (XA (WJ YX) (Z4 rfl (zA D Z' rfl I rfl (by intro id h;cases h) ⟨false,rfl,(λh=>by cases h),λO=>YV ?_⟩))));refine ZJ (EF.jv D.c (n_ _ Z') (eR _ Z') (Z4 rfl (Z4 rfl ⟨x,d,_,rfl,I,by simp,?_⟩)));refine ZJ (gg (L0 (OW D.c (n_ _ Z') (eR _ Z') (Z4 rfl ⟨x,d,_,rfl,(I.set:TA (Y8 E d (.ns [("isjunk",.none),("a",Zal),("b",.none),("autojunk",.bool true)])) x vs d [("isjunk",.none),("a",Zal),("b",.none),("autojunk",.bool true)]),by simp,?_⟩))));rw[aQ];refine OW D.c (n_ _ Z') (eR _ Z') (Z4 rfl ⟨x,d,_,rfl,(I.set:TA (Y8 E d (.ns [("isjunk",.none),("a",Zal),("b",.none),("autojunk",.bool true),("matching_blocks",.none)])) x vs d [("isjunk",.none),("a",Zal),("b",.none),("autojunk",.bool true),("matching_blocks",.none)]),by simp,YV ?_⟩);show g .none (Y8 (Y8 E d (.ns _)) d (.ns _));rw[aQ];exact a
theorem zw(D:hF X b)(gE:d0 X)(hb:ZcX)(Bw:V0 "enumerate"=none/\Va "enumerate"=Za_)(k8:V0 "set"=none/\Va "set"=some ZaH)(rm:Rm X m (n+2))(I:TA E x vs d [("isjunk",.none),("a",Zbd),("b",.none),("autojunk",.bool true),("matching_blocks",.none),("opcodes",.none)])(u:ZR<=1000)(w:∀G k j p,vr X vs (dT E G x d) x d k j i s (eX s) (wG i s k j p)->Wz Zcm G->g .none G):b9 X m (.ref D.DB.f) [ZaI,Zal] E g:=by
 walk_at"C";refine D.DB.fn.call b rm ["self","b"] (ym λO O=>rfl) Z' rfl ZbM λy=>?_;intro YX;have r:=WJ YX;refine ZJ (IY ?_);refine ZJ (XD (XA r (Z4 rfl (zA D Z' rfl I rfl (by intro id h;cases h) ⟨false,rfl,(λh=>by cases h),λO=>YV ?_⟩))));refine ZJ (EF.jv D.c (n_ _ Z') (eR _ Z') (Z4 rfl (Z4 rfl ⟨x,d,_,rfl,I,by simp,?_⟩)));have l:TA (Y8 E d (.ns [("isjunk",.none),("a",Zbd),("b",Zal),("autojunk",.bool true),("matching_blocks",.none),("opcodes",.none)])) x vs d [("isjunk",.none),("a",Zbd),("b",Zal),("autojunk",.bool true),("matching_blocks",.none),("opcodes",.none)]:=I.set;refine ZJ (gg (L0 (OW D.c (n_ _ Z') (eR _ Z') (Z4 rfl ⟨x,d,_,rfl,l,by simp,?_⟩))));rw[aQ];refine OW D.c (n_ _ Z') (eR _ Z') (Z4 rfl ⟨x,d,_,rfl,l,by simp,?_⟩);rw[aQ];refine ZJ (EF.jv D.c (n_ _ Z') (eR _ Z') (L0 (Z4 rfl ⟨x,d,_,rfl,l,by simp,?_⟩)));rw[aQ];have t:TA (Y8 E d (.ns (ES i s))) x vs d (ES i s):=I.set;refine ZJ (VK (EV.wD D D.chain Z' rfl t rfl (vQ D gE hb Bw k8 (RP:=n) r t u λG k j p q q2=>⟨rfl,YV (w G k j p (q.ext (dT.le λa e=>(Wh (a=d)).imp id λh=>by rw[ag h]at e;exact e)) λa o e=>q2 _ _ ?_)⟩)));obtain⟨e1,e2⟩:=ck e;rw[bZ _ e1,ag e1];exact e2
theorem y6(D:hF X b)(gE:d0 X)(hb:ZcX)(Bw:V0 ("enumerate")=none/\Va ("enumerate")=Za_)(k8:V0 ("set")=none/\Va ("set")=some ZaH)(rm:Rm X m (n+3))(I:TA E x vs d [("isjunk",.none),("a",.none),("b",.none),("autojunk",.bool true)])(l:ZR<=1000)(t:∀G c j p,vr X vs (dT E G x d) x d c j i s (eX s) (wG i s c j p)->Wz Zcm G->g .none G):b9 X m (.ref D.C5.f) [ZaI,Zbd,Zal] E g:=by
 walk_at"C";refine D.C5.fn.call b rm ["self","a","b"] (Hq λO O O=>rfl) Z' rfl ZbM λu=>?_;intro YX;have r:=WJ YX;refine ZJ (IY ?_);refine ZJ (VK (EV.xe D D.seq1 Z' rfl I rfl (Zu (Z4 rfl (Y6 (zt D hb r I ⟨rfl,?_⟩))))));walk_at"aQ";have k:TA (Y8 E d (.ns [("isjunk",.none),("a",Zbd),("b",.none),("autojunk",.bool true),("matching_blocks",.none),("opcodes",.none)])) x vs d [("isjunk",.none),("a",Zbd),("b",.none),("autojunk",.bool true),("matching_blocks",.none),("opcodes",.none)]:=I.set;refine ZJ (VK (EV.xe D D.DB Z' rfl k rfl (Zu (Z4 rfl (Y6 (zw D gE hb Bw k8 (n:=n) r k l λG c j p q q2=>⟨rfl,YV (t G c j p (q.ext (dT.le λa e=>(Wh (a=d)).imp id λh=>by rw[ag h]at e;exact e)) λa o e=>q2 _ _ ?_)⟩))))));obtain⟨e1,e2⟩:=ck e;rw[bZ _ e1,ag e1];exact e2
theorem zD(D:hF X b)(gE:d0 X)(hb:ZcX)(Bw:V0 ("enumerate")=none/\Va ("enumerate")=Za_)(k8:V0 ("set")=none/\Va ("set")=some ZaH)(rm:Rm X m (n+4))(I:TA E x vs d [])(u:ZR<=1000)(w:∀G i j p,vr X vs (dT E G x d) x d i j l s (eX s) (wG l s i j p)->Wz Zcm G->g .none G):b9 X m (.ref D.init.f) [ZaI,.none,.lst (ah l),Zal] E g:=by
  refine iE.call (D.init.fn.E8 D.Ib b (M:=[ZaI,.none,.lst (ah l),Zal,.bool true]) rm ["self","isjunk","a","b","autojunk"] (λpm cd Ww i z A k r B=>?_) Z' ZbM λF=>?_);.refine Lp r λv1 v2 v3 v4 e=>?_;subst e;exact xc [v1,v2,v3,v4,.bool true] rfl (r.append (.one (aE ..)))
  intro YX;walk_at"d";have y:=WJ YX;refine ZJ (IY ?_);refine ZJ (EF.jv D.c (n_ _ Z') (eR _ Z') (Z4 rfl (Z4 rfl ⟨x,d,_,rfl,I,by simp,?_⟩)));refine ZJ (gg (L0 (OW D.c (n_ _ Z') (eR _ Z') (Z4 rfl ⟨x,d,_,rfl,(I.set:TA (Y8 E d (.ns [("isjunk",.none)])) x vs d [("isjunk",.none)]),Te _,?_⟩))));rw[aQ];refine OW D.c (n_ _ Z') (eR _ Z') (Z4 rfl ⟨x,d,_,rfl,(I.set:TA (Y8 E d (.ns [("isjunk",.none),("a",.none)])) x vs d [("isjunk",.none),("a",.none)]),by simp,?_⟩);rw[aQ];refine ZJ (EF.jv D.c (n_ _ Z') (eR _ Z') (Z4 rfl (Z4 rfl ⟨x,d,_,rfl,(I.set:TA (Y8 E d (.ns [("isjunk",.none),("a",.none),("b",.none)])) x vs d [("isjunk",.none),("a",.none),("b",.none)]),by simp,?_⟩)));rw[aQ];have t:TA (Y8 E d (.ns [("isjunk",.none),("a",.none),("b",.none),("autojunk",.bool true)])) x vs d [("isjunk",.none),("a",.none),("b",.none),("autojunk",.bool true)]:=I.set;refine ZJ (VK (EV.xe D D.C5 Z' rfl t rfl (Zu (Z4 rfl (Zu (Z4 rfl (Y6 (y6 D gE hb Bw k8 (n:=n) y t u λG i j p q q2=>⟨rfl,YV (w G i j p (q.ext (dT.le λa e=>(Wh (a=d)).imp id λh=>by rw[ag h]at e;exact e)) λa o e=>q2 _ _ ?_)⟩))))))));obtain⟨e1,e2⟩:=ck e;rw[bZ _ e1,ag e1];exact e2
def bL(m:eI):E7:=((m.1:Zw),(m.2.1:Zw),(m.2.2:Zw))
def iY(w:se):MV:=.tup [.int (w.1:U),.int (w.2.1:U),.int (w.2.2.1:U),.int (w.2.2.2:U)]
def jb(t:E7):MV:=.tup [.int t.1,.int t.2.1,.int t.2.2]
abbrev Jx(x:Y_)(la lb:U)(q m:Y_):YS:=[("self",ZaI),("la",.int la),("lb",.int lb),("queue",.ref q),("matching_blocks",.ref m)]
abbrev Ie(x:Y_)(la lb:U)(q m:Y_)(a c b d i j k:U)(t:MV):YS:=Jx x la lb q m++([("alo",ZbQ),("ahi",ZcS),("blo",.int b),("bhi",.int d),("i",ZaN),("j",Zb5),("k",Za0),("x",t)]:YS)
def w0(s a:J Z):se:=(0,ZR,0,Zx)
def d7(l:J eI):U->E7|0=>(0,0,0)|t+1=>bL (l.getD t (0,0,0))
theorem iH(h:a[s]?=Zaq):d7 a (s+1)=bL b:=Zq (λo=>bL (Option.getD o (0,0,0))) h
theorem xw(ht:a<=Zv)(h:((d7 b a).2.2 !=0)=true):∃s z,a=s+1/\b[s]?=some z:=by cases a with|V1=>exact Vd h|VF s=>exact⟨s,b[s],rfl,Z6 ht⟩
theorem xx(c:∀m∈a,0<m.2.2)(ht:b<=Zx)(h:((d7 a b).2.2 !=0)=false):b=0:=by cases b with
 |V1=>rfl|VF s=>
  rw[iH (Z6 ht)]at h;exact Zc (Int.ofNat_inj.mp (by simpa[bL]using h:((a[s]).2.2:Zw)=0)) (R5 (c _ (Uq ht)))
abbrev GL(x:Y_)(la lb:U)(q m n:Y_)(p:E7):YS:=Jx x la lb q m++([("i1",.int p.1),("j1",.int p.2.1),("k1",.int p.2.2),("non_adjacent",.ref n)]:YS)
theorem ud(b:Zcc)(hb:ZcX)(rm:Za2)(hg:∀f,sv f=true->XX f=Zaa)(d:pb gl o E i=Zao)(e:pb gl o E l=ZaW)(k:Nj (c&&r) E):EB X m A (XC (.BoolOp .And [i,l] Yl) A Us) o E Nj:=VT (S2 b hb rm hg d ⟨λq=>VT (S2 b hb rm hg e ⟨λa=>t' (by subst q a;exact k),λa=>(by subst q a;exact k)⟩),λq=>(by subst q;exact k)⟩)
theorem EV.Fc(hb:RX NC)(d:XX "len"=Zaa)(h:EV X m A Zcn o E λb G=>∃n,mj G b=Zdb/\n<=ZK/\g Zbp G)(he:Z3 (Zr [a] A=(false,Zcn)::ZbB) aR):EV X m A (ZG (.Call (.Name "len" f) [a] [] Yl) A) o E g:=by
 have c:=hb "len" Zaz (by rfl);refine b3 NC d c.1 c.2 (.inl ⟨_,rfl⟩) (Zu (WT λb G q=>Y6 λe s i S r=>?_) he) (by rfl) he;walk_at"a";obtain⟨n,h1,h2,k⟩:=q;obtain⟨j,YA,q⟩:=ao.u r;rw[YA];exact jw h1 h2 S q k
theorem AH(D:hF X b)(M:d5 X b)(gE:d0 X)(hb:ZcX)(hr:V0 "range"=none/\Va "range"=some ZaF)(hl:V0 "list"=none/\Va "list"=some Zae)(hm:V0 "map"=none/\Va "map"=some Zaw)(rm:Rm X m (Qq+8))(PZ:vr X vs E S Qi RF RG s F XK al)(Q2:P1 ("matching_blocks")=some .none)(Q3:P1 ("find_longest_match")=none)(Q4:al.length<=100)(P9:ZR<=10000)(QH:Xq<=10000)(Qr:j8 XK s F Zcx=d)(hB:YG<64)(Q5:∀G,Wz (H2 E Qi) G->G Qi=some (.ns (aJ "matching_blocks" (.lst (U1 (λl=>qb l.1 l.2.1 l.2.2)++[qb ZR Xq 0])) al))->g (.lst (U1 (λl=>qb l.1 l.2.1 l.2.2)++[qb ZR Xq 0])) G):b9 X m (.ref D.JC.f) [Za7] E g:=by
  walk_at"C";refine D.JC.fn.call b rm ["self"] (EK λO=>rfl) Z' rfl ZbM λRI=>?_;intro YX;walk_at"d";have r:=WJ YX;have hg:∀QI,([]:J Z).contains QI=true->Yg QI=Zaa:=e7 rfl;have QJ:gi s F Zcx:=⟨Zg _,ZV _,Zg _,ZV _⟩;have Qt:qu XK s F Zcx d:=Qr▸w3 _ _ QJ (Wr _) (.inl ⟨rfl,rfl⟩);refine ZJ (IY ?_);walk_at"E";refine ZJ (XD (XA r (zA D Z' rfl PZ.inst Q2 (by intro id h;cases h) (L0 ⟨false,rfl,(λh=>by cases h),λO=>YV ?_⟩))));refine ZJ (gx X4 (TO (Zu (EV.Fc hb rfl (zA D Z' rfl PZ.inst PZ.la (by intro id h;cases h) ⟨ZR,by rw[gY,az],by rw[af];(exact O3 P9),?_⟩)))) (cn (.inl rfl) (cn (.inl rfl) jK)));walk_at"m";refine Zu (EV.Fc hb rfl (zA D Z' rfl PZ.inst PZ.lb (by intro id h;cases h) ⟨Xq,by rw[gY,az],by rw[af];(exact O3 QH),Y6 ⟨(by simp[af]),_,rfl,rfl,?_⟩⟩));walk_at"E";refine ZJ (Zk (VZ (Zu (XZ b hb r hg (mv:=iY Zcx) Z_ (Y6 ⟨(by simp[af]),λq Qj=>?_⟩)))) (.inl rfl));walk_at"aR";refine ZJ (Zk (VZ (Y6 ⟨by decide,λo Qa=>?_⟩)) (.inl rfl));have Qb:o≠q:=by intro P5;subst P5;rw[aa]at Qa;cases Qa
  walk_at"X";rw[ag Qb]at Qa;have Q6:Y8 (Y8 E q (.list [iY Zcx])) o Zar q=some (.list [iY Zcx]):=by rw[ag (Zh Qb)];exact aa ..
  have Q7:Wz E (Y8 (Y8 E q (.list [iY Zcx])) o Zar):=((I8 E).upd Qj).upd Qa;refine ZJ ?_;walk_at"d";generalize Q8:iR _ _ _ _ _=Q9;have Ra:∀(G:GH)(done:J eI),Wz E G->G o=some (.list ((R3 bL).map Zbg))->done.Perm (d)->Q9 .next (Jx S ZR Xq q o) G:=by
    intro G done ex Qk hp;subst Q8;walk_at"q";show EF X _ _ _ _ _ _;have QK:=(Ch.sorted _ _ _ Qt.ch).2;have QL:=(q1 _ _ _ Qt.ch).2.2;have Qu:(U1 bL).Pairwise λS N=>S.1<N.1:=by rw[List.pairwise_map];exact QK.imp λh=>by simp only[bL];(exact JI h)
    have Qv:(R3 bL).Perm (U1 bL):=hp.map _;refine ZJ (VK (EV.sort M.t (j:=Qq) (r.le (fF 0x660f0c1c1 [7] [_] [])) (Z4 rfl ⟨o,R3 bL,rfl,Qk,by rw[Z2,R_];exact hB,?_,λRb QM QN=>⟨rfl,?_⟩⟩)));.exact(Qv.pairwise_iff (λh=>Zh h)).mpr (Qu.imp λh=>Int.ne_of_lt h)
    obtain rfl:Rb=U1 bL:=zk (QM.trans Qv) QN Qu;have QP:Wz E (Y8 G o (.list ((U1 bL).map Zbg))):=ex.upd Qa;have QQ:Y8 G o (.list ((U1 bL).map Zbg)) o=some (.list ((U1 bL).map Zbg)):=aa ..;generalize Y8 G o (.list ((U1 bL).map Zbg))=Qc at QP QQ;clear hp QK Qu Qv QM QN;refine ZJ (EF.C4 (X2 ?_) (.inl rfl) (.inl rfl) (.inl rfl));walk_at"q";refine ZJ (Zk (VZ (Y6 ⟨by decide,λn Qe=>?_⟩)) (.inl rfl));refine ZJ ?_;generalize Qw:iR _ _ _ _ _=Qx;have Rc:∀(G:GH),Wz Qc G->G n=some (.list ((SO (YG-1)).map λl=>jb (bL l)))->Qx .next Zb7 G:=by
      intro G PR A;subst Qw;show EF X _ _ _ _ _ _;refine ZJ ?_;generalize Rf:iR _ _ _ _ _=Rg;have Qy:∀(G:GH),Wz Qc G->G n=some (.list (U1 λl=>jb (bL l)))->Rg .next Zb7 G:=by
        intro G PR A;subst Rf;show EF X _ _ _ _ _ _;refine ZJ (VK (W4 (Z4 rfl ⟨n,_,rfl,A,XZ b hb r hg (mv:=jb (bL (ZR,Xq,0))) Z_ ⟨_,A,by rw[Z2,af];(exact a9 0x7f2f0e9e1 [64,16777216] [_] [] hB),rfl,?_⟩⟩)));have ex6:Wz Qc (Y8 G n (.list ((U1 λl=>jb (bL l))++[jb (bL (ZR,Xq,0))]))):=PR.upd Qe;clear A;have Qz:Y8 G n (.list ((U1 λl=>jb (bL l))++[jb (bL (ZR,Xq,0))])) n=some (.list ((d++[(ZR,Xq,0)]).map λl=>jb (bL l))):=by rw[aa,ZE];rfl
        generalize Y8 G n (.list ((U1 λl=>jb (bL l))++[jb (bL (ZR,Xq,0))]))=QR at ex6 Qz;have ex7:Wz E (H2 QR n):=λQA QS T=>by
          have QB:=QP QA QS T;clear A Qz;have:QA≠n:=by intro P5;subst P5;rw[Qe]at QB;cases QB
          rw[bZ _ this];exact ex6 _ _ QB
        refine EF.freeze Qz (aJ "non_adjacent" (.lst ((d++[(ZR,Xq,0)]).map λl=>jb (bL l))) Zb7) (λN mv T=>?_) ?_
        . rw[aB]at T;split at T;.rename_i hy;cases T;exact .inr ⟨by rw[hy];rfl,rfl⟩
          .exact .inl T
        generalize H2 QR n=Rh at ex7;have QT:TA Rh S vs Qi al:=⟨ex7 _ _ PZ.inst.ob,ex7 _ _ PZ.inst.dc⟩;have Ri:(d++[(ZR,Xq,0)]).length<=64:=by rw[Z1,YY];(exact GV hB)
        refine ZJ (EF.jv D.c (n_ _ Z') (eR _ Z') (EV.Bz b M.t M.uF M.cm (n:=Qq+1) (r.le (fF 0x1983c307c1c1 [5,7] [_] [])) M.gl rfl rfl rfl hl hm (Z4 rfl ⟨_,(d++[(ZR,Xq,0)]).map (λl:eI=>qb l.1 l.2.1 l.2.2),rfl,by simp,by rw[Z2,af];(exact a9 0x7f2f0e5e1 [64,16777216] [_] [] Ri),λi RJ G QU Rj=>?_,Z4 rfl ⟨S,Qi,al,rfl,QT,Q4,?_⟩⟩)))
        . refine gG ((d++[(ZR,Xq,0)])[i]?) (λQf=>?_) λPS Qf=>?_;.rw[List.getElem?_eq_none_iff]at Qf;rw[Z2]at QU;(exact(Jt QU Qf).elim)
          . have e1:((d++[(ZR,Xq,0)]).map λl=>jb (bL l)).getD i .none=jb (bL PS):=by rw[Z0,Zy,Qf];rfl
            have e2:((d++[(ZR,Xq,0)]).map (λl:eI=>qb l.1 l.2.1 l.2.2)).getD i .none=qb PS.1 PS.2.1 PS.2.2:=by rw[Z0,Zy,Qf];rfl
            rw[e1,e2];exact yu M hb Rj ⟨rfl,rfl⟩
        have Rk:=QT.set (a:=aJ "matching_blocks" (.lst ((d++[(ZR,Xq,0)]).map (λl:eI=>qb l.1 l.2.1 l.2.2))) al);have Rl:(d++[(ZR,Xq,0)]).map (λl:eI=>qb l.1 l.2.1 l.2.2)=U1 (λl=>qb l.1 l.2.1 l.2.2)++[qb ZR Xq 0]:=by rw[ZE];rfl
        refine ZJ (Q0 (zA D Z' rfl Rk (mv:=.lst ((d++[(ZR,Xq,0)]).map (λl:eI=>qb l.1 l.2.1 l.2.2))) (by rw[aB,ZT rfl]) (by intro id h;cases h) ?_));.rw[Rl];refine Q5 _ (λQA QS T=>?_) (aa ..);obtain⟨e1,e2⟩:=ck T;rw[ag e1];exact ex7 _ _ e2
      refine XD (Tr (Z4 (mv:=.int (d7 d YG).2.2) rfl ⟨((d7 d YG).2.2 !=0),rfl,λPM=>?_,λPM=>YV (Qy G PR ?_)⟩))
      . obtain⟨PT,PS,Ql,P0⟩:=xw (ZV _) PM;have Rn:SO PT++[PS]=d:=by
          have:=X9 (l:=d) (i:=PT);rw[P0]at this;rw[show SO PT++[PS]=SO PT++(some PS).toList from rfl,<-this,<-Ql,XT]
        rw[Ql]at A Qy⊢;rw[Nat.add_sub_cancel]at A;refine ZJ (VK (W4 (Z4 rfl ⟨n,_,rfl,A,XZ b hb r hg (mv:=jb (d7 d (PT+1))) Z_ ⟨_,A,by rw[Z2,af,Zo];(exact a9 0x1fcbec1169e1 [64,16777216] [_,_] [] hB),rfl,YV (Qy _ (PR.upd Qe) ?_)⟩⟩)));rw[aa,iH P0];conv=>rhs;rw[<-Rn]
        rw[ZE];rfl
      .have Ql:=xx (λl hm=>(QL l hm).1) (ZV _) PM;have:d=[]:=OF Ql;subst this;exact A
    let Ro:U->YS->GH->Prop:=λQ P6 G=>Wz Qc G/\G n=some (.list ((SO (Q-1)).map λl=>jb (bL l)))/\P6=GL S ZR Xq q o n (d7 d Q);refine EF.Hb X4 (Z4 rfl ⟨Ro,o,(U1 bL).map Zbg,GL S ZR Xq q o n (0,0,0),rfl,λk P6 G h=>h.1 _ _ QQ,⟨(I8 Qc).upd Qe,aa ..,rfl⟩,Zb1,λQ l P6 G hm QC=>?_,λP6 G QC=>?_⟩)
    . obtain⟨PR,A,rfl⟩:=QC;rw[Zy,Zy]at hm;refine gG (d[Q]?) (λQd=>?_) λN Qd=>?_;.rw[Qd]at hm;cases hm
      . rw[Qd]at hm;obtain rfl:cQ M.C (bL N)=l:=by simpa using hm
        have QD:=(ZN Qd).1;have QV:=iH Qd;have QW:(SO (Q-1)).length<=64:=by rw[Zo];(exact aV 0x1fc8ac11e841 [_,_,_] hB)
        refine bq.Fv (TG.A8 M.t X4 (.inl rfl) (.inl rfl) (.inl rfl)) ?_;refine ZJ (XD (ud b hb r hg (c:=(d7 d Q).1+(d7 d Q).2.2==(bL N).1) (r:=(d7 d Q).2.1+(d7 d Q).2.2==(bL N).2.1) Z_ Z_ ⟨λh=>?_,λh=>?_⟩))
        . simp only[YK,V7]at h;have ht:Q=0:=by cases Q with
            |V1=>rfl|VF PT=>
              exfalso;have P0:d[PT]?=some d[PT]:=Z6 (Nat.lt_of_succ_lt QD);rw[iH P0]at h;simp only[bL]at h;exact Qt.apart P0 Qd ⟨by exact a9 0x3fb1c041eed6adcc7098a61 [] [_,_,_] [_,_] h,by exact a9 0x3fb1c041eee6384c530ed6a [] [_,_,_] [_,_] h⟩
          subst ht;have h1:(0:Zw)=(bL N).1:=h.1;have h2:(0:Zw)=(bL N).2.1:=h.2;have Rq:d7 d (0+1)=(0,0,(bL N).2.2):=by rw[QV,h1];exact Prod.ext rfl (Prod.ext (h2.symm.trans h1) rfl)
          refine ZJ (EF.aug (b:=.int 0) rfl (Z4 rfl ⟨.int (0+(bL N).2.2),rfl,YV (YV ⟨_,⟨PR,A,rfl⟩,?_⟩)⟩) (.inl rfl));rw[Rq,Sk];exact av Z_
        . refine ZJ ?_;generalize Rt:iR _ _ _ _ _=Ru;have QX:∀(G:GH),Wz Qc G->G n=some (.list ((SO Q).map λl=>jb (bL l)))->Ru .next (aJ "k2" (.int (bL N).2.2) (aJ "j2" (.int (bL N).2.1) (aJ "i2" (.int (bL N).1) (GL S ZR Xq q o n (d7 d Q))))) G:=by
            intro G ex4 Rv;subst Rt;show EF X _ _ _ _ _ _;refine ZJ (gx X4 (WE:=["i1","j1","k1"]) (XZ b hb r hg (mv:=.tup [.int (bL N).1,.int (bL N).2.1,.int (bL N).2.2]) Z_ ⟨_,rfl,rfl,YV (YV ⟨_,⟨ex4,Rv,rfl⟩,?_⟩)⟩) ?_);.rw[QV];exact av Z_
            .intro PS Rw;exact cn (.inl rfl) (cn (.inl rfl) (cn (.inl rfl) jK)) _ Rw
          clear h;refine XD (Tr (Z4 (mv:=.int (d7 d Q).2.2) rfl ⟨((d7 d Q).2.2 !=0),rfl,λPM=>?_,λPM=>YV (QX G PR ?_)⟩));.obtain⟨PT,PS,Rx,P0⟩:=xw (Xa QD) PM;subst Rx;rw[Nat.add_sub_cancel]at A QW;refine ZJ (VK (W4 (Z4 rfl ⟨n,_,rfl,A,XZ b hb r hg (mv:=jb (d7 d (PT+1))) Z_ ⟨_,A,by rw[Z2,af];(exact a9 0x7f2f0e5e1 [64,16777216] [_] [] QW),rfl,YV (QX _ (PR.upd Qe) ?_)⟩⟩)));rw[aa,X9,P0,iH P0,ZE];rfl
          .have Ry:=xx (λl hm=>(QL l hm).1) (Xa QD) PM;subst Ry;exact A
    .obtain⟨PR,A,rfl⟩:=QC;rw[Z2,Z2]at A⊢;exact Rc G PR A
  let Rz:U->YS->GH->Prop:=λl P6 G=>∃(PX:J se)(done:J eI),l=oG PX/\sJ XK s F Zcx done PX/\Wz E G/\G q=some (.list (PX.map iY))/\G o=some (.list ((R3 bL).map Zbg))/\P6=Jx S ZR Xq q o;refine EF.ro Rz (oG [Zcx]) ⟨[Zcx],[],rfl,.start QJ,Q7,Q6,aa ..,rfl⟩ Zb1 ?_;intro l P6 G P5;obtain⟨PX,done,rfl,P7,ex,Qm,Qk,rfl⟩:=P5;have Qg:=P7.Hm;have QY:=P7.len;rw[Qr]at QY;refine Tr (Z4 rfl ⟨!PX.isEmpty,?_,λhq=>?_,λhq=>?_⟩);.exact(Le (dg Qm) (by rw[Z2,af];(exact cF 0x3ffcbc5983a41165e1 [10000,2,16777216] [_,_] [] P9 Qg))).trans (by rw[Pr])
  . obtain⟨B,w,rfl⟩:∃B w,PX=B++[w]:=by
      clear P7 Qm Qg;rcases List.eq_nil_or_concat PX with rfl|⟨B,w,rfl⟩;.cases hq
      .exact⟨B,w,List.concat_eq_append⟩
    rw[ZE,List.map_singleton]at Qm;rw[Z1,YY]at Qg;have hw:=P7.HR w (by simp);clear hq;refine ZJ (sq (EV.pop (Z4 rfl ⟨q,ha iY,iY w,rfl,Qm,by rw[Z2,af];(exact cF 0x3ffcbc5983a41165e1 [10000,2,16777216] [_,_] [] P9 Qg),?_⟩)));refine bq.tup X4 (NB:=[("alo",_),("ahi",_),("blo",_),("bhi",_)]) (cn (.inl rfl) (cn (.inl rfl) (cn (.inl rfl) (cn (.inl rfl) jK)))) rfl ?_;have SA:Wz E (Y8 G q (.list (ha iY))):=ex.upd Qj;have QE:Y8 G q Zce q=some Zce:=aa ..;have Qn:Y8 G q Zce o=some (.list ((R3 bL).map Zbg)):=by rw[ag Qb];exact Qk
    show EF X _ _ _ _ (Y8 G q (.list (ha iY))) _;generalize Y8 G q Zce=Qh at SA QE Qn;have H1:=PZ.ext SA;refine ZJ (gg (EV.xe D D.eZ Z' rfl H1.inst Q3 (Zu (Z4 rfl (Zu (Z4 rfl (Zu (Z4 rfl (Zu (Z4 rfl (Y6 ?_)))))))))));refine BR D M gE hb hr (QN:=Qq+4) r H1 hw.x hw.y hw.z hw.u P9 QH ?_;refine bq.Fv (TG.A8 M.t X4 (.inl rfl) (.inl rfl) (.inl rfl)) (Oi (.inl rfl) ?_);have RA:=@sJ.none _ _ _ _ _ _ _ P7;have PW:=@sJ.step _ _ _ _ _ _ _ P7;have RB:oG B<oG (B++[w]):=by rw[hM];have:=xF [w];simp at this;(exact aV 0x1fd40221642e [_,_] this)
    have RE:=(iF (I:=XK) (t:=s) (e:=F) hw.x hw.y hw.z).fits;have RK:=hw.u;have RL:=hw.y;generalize eZ XK s F w.1 w.2.1 w.2.2.1 w.2.2.2=l at*;induction l using E1 with|mk i p k=>?_;induction w using Ii with|mk a P2 V P4=>?_;dsimp only at*;clear RE;refine ZJ (XD (Tr (Z4 rfl ⟨((k:Zw)!=0),rfl,λPM=>?_,λPM=>?_⟩)))
    . have OQ:k≠0:=by intro P5;subst P5;simp at PM
      obtain⟨PW,P8⟩:=PW OQ;have PY:=PW.Hm;refine ZJ (VK (W4 (Z4 rfl ⟨o,_,rfl,Qn,Z4 rfl ⟨_,Qn,by rw[Z2,Z2,af];(exact cF 0x7ff978b21169e1 [64,16777216] [_,_] [] hB QY),rfl,?_⟩⟩)));have ex2:Wz E (Y8 Qh o (.list ((R3 bL).map Zbg++[.seq (.ref M.C) [.int (i:Zw),.int (p:Zw),.int (k:Zw)]]))):=ex1.upd Qa;have QF:Y8 Qh o (.list ((R3 bL).map Zbg++[.seq (.ref M.C) [.int (i:Zw),.int (p:Zw),.int (k:Zw)]])) o=some (.list (((done++[(i,p,k)]).map bL).map Zbg)):=by rw[aa,ZE,ZE];rfl
      have Qo:Y8 Qh o (.list ((R3 bL).map Zbg++[.seq (.ref M.C) [.int (i:Zw),.int (p:Zw),.int (k:Zw)]])) q=some Zce:=by rw[ag (Zh Qb)];exact QE
      show EF X _ _ _ ZcP (Y8 Qh o (.list ((R3 bL).map Zbg++[.seq (.ref M.C) [.int (i:Zw),.int (p:Zw),.int (k:Zw)]]))) _;generalize Y8 Qh o (.list ((R3 bL).map Zbg++[.seq (.ref M.C) [.int (i:Zw),.int (p:Zw),.int (k:Zw)]]))=RM at ex2 QF Qo;refine ZJ ?_;generalize Qw:iR _ _ _ _ _=Qx;have Qp:∀(G:GH),Wz E G->G q=some (.list ((B++ie a V (i,p,k)).map iY))->G o=some (.list (((done++[(i,p,k)]).map bL).map Zbg))->Qx .next ZcP G:=by
        intro G ex3 QG QZ;subst Qw;show EF X _ _ _ _ _ _;rw[<-ZQ]at PW P8 PY;generalize B++ie a V (i,p,k)=q2 at*;unfold jz at PW P8 PY;dsimp only at PW P8 PY;refine ZJ (XD (ud b hb r hg (c:=decide ((i:Zw)+k<P2)) (r:=decide ((p:Zw)+k<P4)) Z_ Z_ ⟨λh=>?_,λh=>YV (YV (YV ?_))⟩))
        . simp only[YK,XU]at h;have PN:i+k<P2/\p+k<P4:=by exact aV 0x1fee8b0113438083dd4cb098a64d4c7098a61 [_,_,_,_,_] h
          rw[ZT PN]at PW P8 PY;rw[Z1,YY]at PY;refine ZJ (VK (W4 (Z4 rfl ⟨q,_,rfl,QG,XZ b hb r hg (mv:=iY (i+k,P2,p+k,P4)) ?_ ⟨_,QG,by rw[Z2,af];(exact cF 0xfff2f0e5e2cc1d2141c1 [2,10000,16777216] [_,_] [] PY P9),rfl,YV (YV (YV ⟨_,_,P8,⟨_,_,rfl,PW,ex3.upd Qj,by rw[aa,ZE];rfl,by rw[ag Qb];exact QZ,rfl⟩,?_⟩))⟩⟩)));.show _=some (MV.tup [.int ((i+k:U):Zw),.int P2,.int ((p+k:U):Zw),.int P4]);rw[t8,t8];kernel_rfl!
          .exact av Z_
        . have PN:¬(i+k<P2/\p+k<P4):=by
            intro PN;have:(decide ((i:Zw)+k<P2)&&decide ((p:Zw)+k<P4))=true:=by simp only[YK,XU];(exact aV 0x1feea6584c5326a6384c530f7458089a1c041 [_,_,_,_,_] PN)
            rw[this]at h;cases h
          rw[ZY PN,Zn]at PW P8 PY;exact⟨_,_,P8,⟨_,_,rfl,PW,ex3,QG,QZ,rfl⟩,Zb1⟩
      refine XD (ud b hb r hg (c:=decide ((a:Zw)<i)) (r:=decide ((V:Zw)<p)) Z_ Z_ ⟨λh=>?_,λh=>YV ?_⟩)
      . simp only[YK,XU]at h;have PN:a<i/\V<p:=by exact aV 0x7fba20f420f75324c7a98a61 [_,_,_,_] h
        have T:ie a V (i,p,k)=[(a,i,V,p)]:=ZT PN;rw[T]at Qp PY;rw[Z1]at PY;refine ZJ (VK (W4 (Z4 rfl ⟨q,_,rfl,Qo,XZ b hb r hg (mv:=iY (a,i,V,p)) Z_ ⟨_,Qo,by rw[Z2,af];(exact cF 0xfff2f0e5e2cc1d2141c1 [2,10000,16777216] [_,_] [] Qg P9),rfl,YV (Qp _ (ex2.upd Qj) (by rw[aa,ZE];rfl) (by rw[ag Qb];exact QF))⟩⟩)))
      . have PN:¬(a<i/\V<p):=by
          intro PN;have:(decide ((a:Zw)<i)&&decide ((V:Zw)<p))=true:=by simp only[YK,XU];(exact aV 0x7fba99263d4c530f7441e841 [_,_,_,_] PN)
          rw[this]at h;cases h
        have T:ie a V (i,p,k)=[]:=ZY PN;rw[T,Zn]at Qp;exact Qp _ ex2 Qo QF
    . have OQ:k=0:=by simpa using PM
      subst OQ;exact YV (YV ⟨_,_,RB,⟨B,done,rfl,RA rfl,SA,QE,Qn,rfl⟩,Zb1⟩)
  . have:PX=[]:=by cases PX with
      |Yk=>rfl|Zp=>cases hq
    subst this;exact Ra G done ex Qk (Qr▸P7.done)
abbrev Op:=Z×U×U×U×U
def e9(i a j b:U):Z:=if i<a/\j<b then"replace"else if i<a then"delete"else if j<b then"insert"else""
def cL(i j:U)(m:eI):ZbJ:=(if(e9 i m.1 j m.2.1).length=0 then[]else[(e9 i m.1 j m.2.1,i,m.1,j,m.2.1)])++(if m.2.2=0 then[]else[(("equal"),m.1,m.1+m.2.2,m.2.1,m.2.1+m.2.2)])
def dE(i j:U)(l:J eI):ZbJ:=VH (λm k i j=>cL i j m++k (m.1+m.2.2) (m.2.1+m.2.2)) (λO O=>[]) i j
theorem qX(i b a r):dE i b (a::r)=cL i b a++dE (a.1+a.2.2) (a.2.1+a.2.2) r:=rfl
def endOf(i j:U)(l:J eI):U×U:=VH (λm k O O=>k (m.1+m.2.2) (m.2.1+m.2.2)) Prod.mk i j
theorem v8(m:eI):∀(l:J eI)(i j:U),dE i j (l++[m])=dE i j l++cL (endOf i j l).1 (endOf i j l).2 m:=by
 intro I;induction I with
 |Yk=>
  intro i j;exact(Zn _)|Zp x l a=>
  intro i j;show cL i j x++dE _ _ (l++[m])=(cL i j x++dE _ _ l)++_;rw[a,ZQ]at⊢;rfl
theorem vM(m:eI):∀(l:J eI)(i j:U),endOf i j (l++[m])=(m.1+m.2.2,m.2.1+m.2.2):=by
 intro I;induction I with
 |Yk=>
  intro i j;exact rfl|Zp x l a=>
  intro i j;exact a _ _
theorem qx:∀(l:J eI)(i j:U),(dE i j l).length<=2*W5:=by
 intro I;induction I with
 |Yk=>
  intro i j;exact ZV _|Zp x l a=>
  intro i j;have:=a (x.1+x.2.2) (x.2.1+x.2.2);have:(cL i j x).length<=2:=by unfold cL;split<;>split<;>simp
  show(cL i j x++dE _ _ l).length<=_;rw[Z1,YE];exact cF 0x1ffe65070a011e5e3cc841 [2,2,2] [_,_,_] [] ‹_› this
def gz(o:Op):MV:=.tup [.str o.1,.int (o.2.1:U),.int (o.2.2.1:U),.int (o.2.2.2.1:U),.int (o.2.2.2.2:U)]
theorem vr.set(c:vr l n i x d q r s b XK al)(h:∀y∈(["a","b","b2j","bjunk"]:J Z),z' y=P1 y):vr l n (Y8 i d (.ns a)) x d q r s b XK a:=by
 have ne:∀{f:Y_}{o:MO},i f=Zai->o≠.ns al->f≠d:=λe g=>by intro j;subst j;rw[c.inst.dc]at e;cases e;exact g rfl
 obtain⟨k,h1,h2⟩:=c.tab;refine⟨c.inst.set,(h _ Z').trans c.la,(h _ Z').trans c.lb,(h _ Z').trans c.ld,(h _ Z').trans c.lj,⟨k,?_,λm=>(h2 m).imp (λp=>SA p λf Yw=>Ug Yw λe1 e2=>⟨f,e1,by rw[ag (ne e2 (by intro h;cases h))];exact e2⟩) id⟩,?_⟩;.rw[ag (ne h1 (by intro h;cases h))];exact h1
 .rw[ag (ne c.Ak (by intro h;cases h))];exact c.Ak
abbrev GN(x:Y_)(i j:U)(an:Y_):YS:=[("self",ZaI),("i",ZaN),("j",Zb5),("answer",Zdh)]
abbrev Gy(x:Y_)(i j:U)(an:Y_)(m:eI)(tag:Z):YS:=GN x i j an++([("ai",.int m.1),("bj",.int m.2.1),("size",.int m.2.2),("tag",.str tag)]:YS)
theorem AW(D:hF X b)(M:d5 X b)(gE:d0 X)(hb:ZcX)(hr:V0 "range"=none/\Va "range"=some ZaF)(hl:V0 "list"=none/\Va "list"=some Zae)(hm:V0 "map"=none/\Va "map"=some Zaw)(rm:Rm X m (Qo+9))(A:vr X vs E x d F S s k XK (wG s k F S V))(Qb:ZR<=10000)(Qc:Wq<=10000)(hB:(j8 XK s k (0,ZR,0,Wq)).length<64)(I:∀G an,Wz Zcm G->E an=none->G an=some (.list ((dE 0 0 (j8 XK s k (0,ZR,0,Wq)++[(ZR,Wq,0)])).map gz))->g Zdh G):b9 X m (.ref D.ops.f) [ZaI] E g:=by
  revert I;generalize PX:j8 XK s k (0,ZR,0,Wq)++[(ZR,Wq,0)]=B;intro I;refine D.ops.fn.call b rm ["self"] (EK λO=>rfl) Z' rfl ZbM λQp=>?_;intro YX;walk_at"d";have r:=WJ YX;have hg:∀PY,[].contains PY=true->Yg PY=Zaa:=e7 rfl;refine ZJ (IY ?_);refine ZJ (XD (XA r (zA D Z' rfl A.inst rfl (by intro id h;cases h) (L0 ⟨false,rfl,(λh=>by cases h),λO=>YV ?_⟩))));refine ZJ (EF.xR (X2 ?_) (.inl rfl) (.inl rfl));walk_at"E";refine ZJ (gg (VZ (Y6 ⟨by decide,λan u=>?_⟩)));walk_at"aS";have H1:=A.ext ((I8 E).upd (a:=Zar) u);refine OW D.c (n_ _ Z') (eR _ Z') (Z4 rfl ⟨x,d,_,rfl,H1.inst,by simp,Oi (.inl rfl) ?_⟩);have PZ:an≠d:=by intro N;subst N;rw[A.inst.dc]at u;cases u
  have Q:=H1.set (a:=aJ "opcodes" Zdh (wG s k F S V)) (cn rfl (cn rfl (cn rfl (cn rfl jK))));have ex2:Wz Zcm (Y8 (Y8 E an (.list [])) d ZaG):=λa o e=>by
    obtain⟨e1,e2⟩:=ck e;rw[ag e1];exact cB e2 u
  have P0:Y8 (Y8 E an (.list [])) d ZaG an=some Zar:=by rw[ag PZ];exact aa ..
  show EF X _ _ _ _ (Y8 (Y8 E an (.list [])) d ZaG) _;generalize Y8 (Y8 E an (.list [])) d ZaG=Qq at Q ex2 P0;have P2:∀a o,Zcm a=Zai->a≠an:=λa o e=>by intro N;subst N;rw[(ck e).2]at u;cases u
  refine ZJ (ra X4 (λn l G=>Wz Zcm G/\G an=some (.list ((dE 0 0 (hz n)).map gz))/\l=GN x (endOf 0 0 (hz n)).1 (endOf 0 0 (hz n)).2 an) (EV.wD D D.JC Z' rfl Q.inst rfl ?_));refine AH D M gE hb hr hl hm r Q rfl rfl (WG Z_) Qb Qc rfl hB λQd ex3 O=>?_;have Qe:(j8 XK s k (0,ZR,0,Wq)).map (λp=>qb p.1 p.2.1 p.2.2)++[qb ZR Wq 0]=ha (λp:eI=>qb p.1 p.2.1 p.2.2):=by rw[<-PX,ZE];rfl
  rw[Qe];have P4:B.length<=64:=by rw[<-PX,Z1,YY];(exact GV hB)
  have Qf:=ex3 _ _ (by rw[bZ _ PZ];exact P0);have ex4:Wz Zcm Qd:=λa o e=>ex3 _ _ (by rw[bZ _ (ck e).1];exact ex2 _ _ e);refine⟨_,GN x 0 0 an,rfl,⟨ex4,Qf,rfl⟩,Zb1,λn p l G hm PM=>?_,λl G PM=>?_⟩
  . obtain⟨PN,z,rfl⟩:=PM;rw[Zy]at hm;refine gG (B[n]?) (λw=>?_) λy w=>?_;.rw[w]at hm;cases hm
    . rw[w]at hm;obtain rfl:qb y.1 y.2.1 y.2.2=p:=by simpa using hm
      have P5:=(ZN w).1;have Qg:hz (n+1)=hz n++[y]:=by rw[X9,w];rfl
      have P6:=qx (hz n) 0 0;have P7:(hz n).length<=n:=by rw[Zo];(exact cY 0x190d841 [_,_])
      refine bq.Fv (TG.A8 M.t X4 (.inl rfl) (.inl rfl) (.inl rfl)) ?_;rw[Qg,v8,vM];generalize hz n=P8 at*;generalize dE 0 0 P8=done at*;generalize endOf 0 0 P8=e at*;obtain⟨i,j⟩:=e;dsimp only at*;refine ZJ (Zk (Wc ?_) (.inl rfl));refine ZJ ?_;generalize Qh:iR _ _ _ _ _=P9;have Qi:∀G,Wz Zcm G->G an=some (.list (R3 gz))->P9 .next (Gy x i j an y (e9 i y.1 j y.2.1)) G:=by
        intro G ex5 PR;subst Qh;generalize PS:e9 i y.1 j y.2.1=tag;have Qj:nP<=ZK:=by
          rw[<-PS];unfold e9;refine bQ rfl (λO=>?_) λO=>?_;.decide
          . refine bQ rfl (λO=>?_) λO=>?_;.decide
            .split<;>decide
        refine ZJ ?_;generalize Qk:iR _ _ _ _ _=Ql;have Qa:∀G d1,d1=done++(if nP=0 then[]else[(tag,i,y.1,j,y.2.1)])->Wz Zcm G->G an=some (.list (d1.map gz))->Ql .next (Gy x i j an y tag) G:=by
          intro G d1 qS ex6 PT;subst Qk;show EF X _ _ _ _ _ _;have Qm:d1.length<=done.length+1:=by rw[qS,Z1];split<;>simp
          refine ZJ (gx X4 (XZ b hb r hg (mv:=.tup [.int (y.1+y.2.2),.int (y.2.1+y.2.2)]) Z_ ⟨_,rfl,rfl,?_⟩) (cn (.inl rfl) (cn (.inl rfl) jK)));refine ZJ (XD (Tr (Z4 rfl ⟨((y.2.2:Zw)!=0),rfl,λq=>?_,λq=>YV (YV ⟨_,⟨ex6,?_,rfl⟩,?_⟩)⟩)))
          . have OQ:y.2.2≠0:=by intro h;rw[h]at q;simp at q
            refine ZJ (VK (W4 (Z4 rfl ⟨an,_,rfl,PT,XZ b hb r hg (mv:=gz ("equal",y.1,y.1+y.2.2,y.2.1,y.2.1+y.2.2)) ?_ ⟨_,PT,by rw[Z2,af];(exact EO 0x3ffffff97973070cb90933220f2f16841 [64,2,16777216] [_,_,_,_,_] [] P5 P4 P6 P7 Qm),rfl,YV (YV ⟨_,⟨ex6.upd ?_,?_,rfl⟩,?_⟩)⟩⟩)));.show _=some (MV.tup [.str "equal",.int (y.1:U),.int ((y.1+y.2.2:U):Zw),.int (y.2.1:U),.int ((y.2.1+y.2.2:U):Zw)]);kernel_rfl!
            .cases e:H2 E d an with|none=>rfl|some o=>exact Zc rfl (P2 _ _ e)
            .rw[aa,qS];unfold cL;rw[PS,ZY OQ,<-ZQ];simp only[ZE];rfl
            .show Od (GN x (y.1+y.2.2) (y.2.1+y.2.2) an) _;exact av Z_
          . have OQ:y.2.2=0:=by simpa using q
            rw[PT,qS];unfold cL;rw[PS,ZT OQ,Zn]
          .show Od (GN x (y.1+y.2.2) (y.2.1+y.2.2) an) _;unfold GN;rw[t8,t8];exact av Z_
        refine XD (Tr (Z4 rfl ⟨decide (nP≠0),?_,λq=>?_,λq=>YV (Qa G done ?_ ex5 PR)⟩));.exact ZT Qj
        . have OQ:¬nP=0:=by exact Zj q
          refine ZJ (VK (W4 (Z4 rfl ⟨an,_,rfl,PR,XZ b hb r hg (mv:=gz (tag,i,y.1,j,y.2.1)) Z_ ⟨_,PR,by rw[Z2,af];(exact oP 0xfffffcbc790933220f2f16841 [64,2,16777216] [_,_,_,_] [] P5 P4 P6 P7),rfl,YV (Qa _ (done++[(tag,i,y.1,j,y.2.1)]) (by rw[ZY OQ]) (ex5.upd ?_) ?_)⟩⟩)));.cases e:H2 E d an with
            |none=>rfl|some o=>exact Zc rfl (P2 _ _ e)
          .rw[aa,ZE];rfl
        . have OQ:nP=0:=by simpa using q
          rw[ZT OQ,Zn]
      have T:∀n:Z,e9 i y.1 j y.2.1=n->P9 .next (Gy x i j an y n) G:=λn e=>by rw[<-e];exact Qi G PN z
      refine XD (ud b hb r hg (c:=decide ((i:Zw)<y.1)) (r:=decide ((j:Zw)<y.2.1)) Z_ Z_ ⟨λh=>?_,λh=>?_⟩);.simp only[YK,XU]at h;exact ZJ (Zk (Wc (YV (T _ (by unfold e9;rw[ZT (aV 0x7fba20f420f75324c7a98a61 [_,_,_,_] h)])))) (.inl rfl))
      . have PW:¬(i<y.1/\j<y.2.1):=by
          intro Qn;have:(decide ((i:Zw)<y.1)&&decide ((j:Zw)<y.2.1))=true:=by simp only[YK,XU];(exact aV 0x7fba99263d4c530f7441e841 [_,_,_,_] Qn)
          rw[this]at h;cases h
        refine ZJ (XD (S2 b hb r hg (c:=decide ((i:Zw)<y.1)) Z_ ⟨λh=>?_,λh=>?_⟩))
        . have h1:i<y.1:=by
            have:(i:Zw)<y.1:=by exact Zj h
            exact HY this
          exact ZJ (Zk (Wc (YV (YV (T _ (by unfold e9;rw[ZY PW,ZT h1]))))) (.inl rfl))
        . have h1:¬i<y.1:=by
            have:¬(i:Zw)<y.1:=by simpa using h
            exact aV 0x7f9a1079a98a61 [_,_] this
          refine ZJ (XD (S2 b hb r hg (c:=decide ((j:Zw)<y.2.1)) Z_ ⟨λh=>?_,λh=>?_⟩))
          . have h2:j<y.2.1:=by
              have:(j:Zw)<y.2.1:=by exact Zj h
              exact HY this
            exact ZJ (Zk (Wc (YV (YV (YV (T _ (by unfold e9;rw[ZY PW,ZY h1,ZT h2])))))) (.inl rfl))
          . have h2:¬j<y.2.1:=by
              have:¬(j:Zw)<y.2.1:=by simpa using h
              exact aV 0x7f9a1079a98a61 [_,_] this
            exact YV (YV (YV (T _ (by unfold e9;rw[ZY PW,ZY h1,ZY h2]))))
  .obtain⟨PN,z,YA⟩:=PM;rw[YA];rw[Z2,XT]at z;exact ZJ (Q0 (Z4 rfl (I _ _ PN u z)))
theorem Me:((j:Zw)-p>(Q:Zw)+Q)↔j-p>Q+Q:=⟨λh=>Nat.lt_sub_of_add_lt (e' (Int.add_lt_of_lt_sub_right h)),λh=>da (Vf (Nat.add_lt_of_lt_sub h))⟩
def Op.eq(o:Op):Y0:=o.1==("equal")
def rh(n:U)(o:Op):Op:=(o.1,max o.2.1 (o.2.2.1-n),o.2.2.1,max o.2.2.2.1 (o.2.2.2.2-n),o.2.2.2.2)
def kr(n:U)(o:Op):Op:=(o.1,o.2.1,min o.2.2.1 (o.2.1+n),o.2.2.2.1,min o.2.2.2.2 (o.2.2.2.1+n))
def iC(n:U)(cs:ZbJ):ZbJ:=if(cs.getD 0 default).eq=true then cs.set 0 (rh n (cs.getD 0 default))else cs
def gD(n:U)(cs:ZbJ):ZbJ:=if(cs.getD (q0-1) default).eq=true then cs.set (q0-1) (kr n (cs.getD (q0-1) default))else cs
def f9(n:U)(g l:ZbJ):J ZbJ:=VH (λo k g=>if o.eq=true/\o.2.2.1-o.2.1>n+n then(g++[kr n o])::k [rh n o]else k (g++[o])) (λg=>if g≠[]/\¬(K5=1/\(g.getD 0 default).eq=true)then[g]else[]) g
theorem nW(n a):f9 n a []=if a≠[]/\¬(Zx=1/\(Wm 0 default).eq=true)then[a]else[]:=rfl
def SF(n:U)(cs:ZbJ):J ZbJ:=f9 n [] (gD n (iC n (if cs=[]then[(("equal"),0,1,0,1)]else cs)))
def gL(g:ZbJ):MV:=.lst (g.map gz)
theorem kC(a b n:U):(if(b:Zw)-n>a then(b:Zw)-n else(a:Zw))=((max a (b-n):U):Zw):=by split<;>(first|exact aV 0x1fdcef11883198e62d466398a61 [_,_,_] ‹_›|exact aV 0x7f73bc4620cc3cd466398a61 [_,_,_] ‹_›)
theorem kK(a b n:U):(if(b:Zw)+n<a then(b:Zw)+n else(a:Zw))=((min a (b+n):U):Zw):=by split<;>(first|exact aV 0x1fdced01047098a61d4c7098a61 [_,_,_] ‹_›|exact aV 0x7f73b40411cc7cd4c7098a61 [_,_,_] ‹_›)
abbrev Ef(x:Y_)(n:U)(cs:ZbJ)(ga:MV):YS:=[("self",ZaI),("n",Zbp),("codes",.lst (cs.map gz)),("nn",.int ((n:Zw)+n)),("group",ga)]
abbrev BY(x:Y_)(n:U)(cs:ZbJ)(ga:MV)(o:Op):YS:=Ef x n cs ga++([("tag",.str o.1),("i1",.int (o.2.1:U)),("i2",.int (o.2.2.1:U)),("j1",.int (o.2.2.2.1:U)),("j2",.int (o.2.2.2.2:U))]:YS)
theorem gJ(n:U)(g:ZbJ)(o:Op)(r:ZbJ):f9 n g (o::r)=if o.eq=true/\o.2.2.1-o.2.1>n+n then(g++[kr n o])::f9 n [rh n o] r else f9 n (g++[o]) r:=rfl
abbrev J4(x:Y_)(n:U)(an:Y_):YS:=[("self",ZaI),("n",Zbp),("codes",Zdh)]
theorem lZ(h:d a=Zbx)(c:b[0]?=Za8):bR d Zag (.int 0)=Za8:=kf (eU h) Z' (by cases b with|Yk=>cases c|Zp x r=>rw[(jU (j:=0) (js _):Vc 0 (x::r).length=some 0)];exact c)
theorem tj(h:c a=Zbx)(d:b[Zv-1]?=Za8):bR c Zag (.int (-1))=Za8:=pP (eU h) d
theorem Gr(b:EB d f YX (XC i YX (ZG i YX)) l a λc G=>c=r/\G=a)(g:EB d f YX (XC n YX (ZG n YX)) l a λc G=>c=s/\G=a)(k:Nj (r&&s) a):EB d f YX (XC (.BoolOp .And [i,n] Yl) YX Us) l a Nj:=VT (b.mono λc G q=>by
  clear b;rw[q.1,q.2];refine⟨λe=>?_,λe=>by subst e;exact k⟩;subst e;exact VT (g.mono λc G q=>by
   rw[q.1,q.2];clear g;exact⟨λe=>by subst e;exact t' k,λe=>by rw[<-e];exact k⟩))
def Ml(D:hF X NC):C':=xf "SequenceMatcher.get_grouped_opcodes" (fy 5 9) D.xt.pm D.xt.cd D.xt.doc (.ref D.dG) .none
def vR(D:hF X NC)(a:Y_):SM:=W7 (Ml D) a D.xt.f
theorem Gw(D:hF X b)(QD:d5 X b)(gE:d0 X)(hb:ZcX)(hr:V0 "range"=none/\Va "range"=some ZaF)(hl:V0 "list"=none/\Va "list"=some Zae)(hm:V0 "map"=none/\Va "map"=some Zaw)(PX:ic X m Ni XO (k+9))(P5:vr X vs E x QE QF QG s d XK (wG s d QF QG Q5))(Qg:Wz w E)(Qh:w QE=none)(QH:ZR<=10000)(QI:YG<=10000)(hB:(j8 XK s d (0,ZR,0,YG)).length<64)(F:PY=(SF n (dE 0 0 (j8 XK s d (0,ZR,0,YG)++[(ZR,YG,0)]))).map gL):GF X m Nv Ni XO Nk (vR D M) (Yj (bI (fy 5 9)) (vR D M)) [("self",ZaI),("n",Zbp)] E w PY λo O G N Q=>(o=.next\/o=.ret .none)/\Q=[]/\Wz N G:=by
  walk_at"Y";have r:=PX.rm;have hg:∀P6,[("max"),"min","len"].contains P6=true->(vR D M).kindOf P6=Zaa:=λP6 Qi=>by
    simp only[Ws,VG,TR,Bool.or_eq_true,V7]at Qi;rcases Qi with rfl|rfl|rfl<;>rfl
  refine Ss (IY ?_);refine Ss (Zk (EV.wD D D.ops Z' rfl P5.inst rfl (AW D QD gE hb hr hl hm (Qo:=k) PX.rm P5 QH QI hB λS an SA Qj g=>?_)) (.inl rfl));have I:w an=none:=Qg.none Qj;have e:Wz w S:=λQk o a=>SA Qk o (by rw[bZ _ (by intro f;subst f;rw[Qh]at a;cases a)];exact Qg Qk o a);have T:(dE 0 0 (j8 XK s d (0,ZR,0,YG)++[(ZR,YG,0)])).length<=128:=by
    have:=qx (j8 XK s d (0,ZR,0,YG)++[(ZR,YG,0)]) 0 0;rw[Z1,YY]at this;(exact cF 0x3ffcbc59941c1169e1 [64,2,128] [_,_] [] hB this)
  unfold SF at F;generalize dE 0 0 (j8 XK s d (0,ZR,0,YG)++[(ZR,YG,0)])=cs at*;clear SA Qj P5 Qh;refine Ss ?_;walk_at"d";generalize QJ:rV _ _ _ _ _ _ _ _ _ _ _=QK;have Ql:∀(G:GH)(an:Y_)(cs:ZbJ),cs≠[]->q0<=128->Wz w G->w an=none->G an=some (.list (cs.map gz))->PY=(f9 n [] (gD n (iC n cs))).map gL->QK .next (J4 x n an) G:=by
    clear g I e F T;intro S an cs z T e I g F;subst QJ;walk_at"aT";show GF X _ _ _ _ _ _ _ _ _ _ _ _;obtain⟨o0,P7⟩:∃o,cs[0]?=Zai:=⟨_,Z6 (Xi z)⟩;have p:cs.getD 0 default=o0:=by rw[Z0,P7];rfl
    have PN:bR S Zdh (.int 0)=some (gz o0):=by exact lZ g (by rw[Zy,P7];rfl)
    refine Ss ?_;generalize QL:rV _ _ _ _ _ _ _ _ _ _ _=QM;have Qm:∀(G:GH)(l:YS),Od (J4 x n an) l->Wz w G->G an=some (.list ((iC n cs).map gz))->QM .next l G:=by
      intro Qn l P8 e g;subst QL;show GF X _ _ _ _ _ _ _ _ _ _ _ _;refine GF.eE P8 ?_;walk_at"F";have Qo:iC n cs≠[]:=by
        unfold iC;refine bQ rfl (λO=>?_) λO=>?_;.intro a;have:=Zq Sr a;rw[List.length_set]at this;exact z (OF this)
        .exact z
      walk_at"v";have Qp:(iC n cs).length<=128:=by unfold iC;split<;>simp[T]
      generalize iC n cs=c1 at*;clear PN p P7 z T;have P9:hu-1<hu:=by have:=Xi Qo;(exact Jm this)
      obtain⟨o1,Qa⟩:∃o,c1[hu-1]?=Zai:=⟨_,Z6 P9⟩;have p:c1.getD (hu-1) default=o1:=by rw[Z0,Qa];rfl
      have Qb:bR Qn Zdh (.int (-1))=some (gz o1):=tj g (by rw[Z2,Zy,Qa];rfl);refine Ss ?_;generalize QN:rV _ _ _ _ _ _ _ _ _ _ _=QP;have Qq:∀(G:GH)(l:YS),Od (J4 x n an) l->Wz w G->G an=some (.list ((gD n c1).map gz))->QP .next l G:=by
        intro PR l P8 e g;subst QN;show GF X _ _ _ _ _ _ _ _ _ _ _ _;refine GF.eE P8 ?_;walk_at"F";have PZ:(gD n c1).length<=128:=by unfold gD;split<;>simp[Qp]
        generalize gD n c1=c2 at*;clear Qb p Qa Qo Qp P9;refine Ss (Zk (XZ b hb r hg (mv:=.int ((n:Zw)+n)) Z_ ?_) (.inl rfl));refine Ss (Zk (VZ (Y6 ⟨by decide,λg0 V=>?_⟩)) (.inl rfl));have Qr:an≠g0:=by intro f;subst f;rw[g]at V;cases V
        have Qt:Y8 PR g0 Zar an=some (.list (c2.map gz)):=cB g V;have Qu:Y8 PR g0 Zar g0=some Zar:=aa ..;have ex4:Wz w (Y8 PR g0 (.list [])):=e.upd (ai V);have QQ:w g0=none:=ai V;show GF X _ _ _ _ _ _ _ _ (Y8 PR g0 (.list [])) _ _ _;generalize Y8 PR g0 Zar=Qc at*;refine GF.freeze Qt Zdf (λPS mv a=>?_) ?_
        . have A:(aJ "codes" (.lst (c2.map gz)) Zdf).lookup PS=ZaQ:=a;rw[aB]at A;split at A;.rename_i hy;clear a;cases A;exact .inr ⟨by rw[hy];rfl,rfl⟩
          . rename_i hy;refine .inl ?_;have e2:(aJ "codes" Zdh (aJ "codes" (.lst (c2.map gz)) (Ef x n c2 (.ref g0)))).lookup PS=ZaQ:=by rw[aB,ZY hy,aB,ZY hy];exact a
            exact e2
        have ex5:Wz w (H2 Qc an):=ex4.del I;have Qv:H2 Qc an g0=some Zar:=by rw[bZ _ (Zh Qr)];exact Qu
        generalize H2 Qc an=Q6 at ex5 Qv;clear Qt Qu ex4 g V e Qr I;let QR:U->YS->GH->GH->J MV->Prop:=λk PT E w t=>∃(ga:Y_)(c:ZbJ),PT=Ef x n c2 ZaR/\YZ<=k+1/\Wz w E/\w ga=none/\E ga=some (.list (c.map gz))/\t=(f9 n c (dV k)).map gL;refine Sa (GF.G9 PX QR (Z4 (mv:=.lst (c2.map gz)) rfl ⟨c2.map gz,λk PT=>dW PT ["tag","i1","i2","j1","j2"] [.str (jn k default).1,.int ((jn k default).2.1:U),.int ((jn k default).2.2.1:U),.int ((jn k default).2.2.2.1:U),.int ((jn k default).2.2.2.2:U)],Zdf,rfl,⟨g0,[],rfl,by simp,ex5,QQ,Qv,F⟩,Zb1,λQ7 QS k Qw u=>?_,λQ8 Q9 Ra k Qw PT E w PY PM u Qd=>?_,λPT E w PY Qd=>?_⟩))
        . rw[Zy]at u;refine gG (c2[k]?) (λi=>?_) λo i=>?_;.rw[i]at u;cases u
          . rw[i]at u;obtain rfl:gz o=Qw:=by simpa using u
            have P0:jn k default=o:=by rw[Z0,i];rfl
            simp only[P0];exact(TG.tup QS (NB:=[("tag",_),("i1",_),("i2",_),("j1",_),("j2",_)]) (cn (.inl rfl) (cn (.inl rfl) (cn (.inl rfl) (cn (.inl rfl) (cn (.inl rfl) jK))))) rfl).gw
        . obtain⟨ga,c,rfl,y,e,B,j,rfl⟩:=Qd;rw[Zy]at u;refine gG (c2[k]?) (λi=>?_) λo i=>?_;.rw[i]at u;cases u
          . have P0:jn k default=o:=by rw[Z0,i];rfl
            have P2:=(ZN i).1;have QT:dV k=o::dV (k+1):=by
              rw[Xz P2];rw[Z6 P2]at i;clear P0;cases i;rfl
            simp only[P0];rw[QT];refine Sa ?_;generalize QU:xi _ _ _ _ _ _ _ _ _=QV;have Qx:∀(E w:GH)(ga:Y_)(c:ZbJ)(PW:Op)(t:ZaV),Wz w E->w ga=none->E ga=some (.list (c.map gz))->YZ<=k+1->t=(f9 n (c++[PW]) (dV (k+1))).map gL->QV .next (BY x n c2 (.ref ga) PW) E w t:=by
              intro E w ga c PW t e B j y ht;subst QU;show GF X _ _ _ _ _ _ _ _ _ _ _ _;refine Ss (VK (W4 (Z4 rfl ⟨ga,_,rfl,j,XZ b hb PM.rm hg (mv:=gz PW) Z_ ⟨_,j,by rw[Z2,af];(exact rf 0x1ffff2f1e60e08f2f16841 [128,16777216] [_,_,_] [] P2 PZ y),rfl,Su ⟨_,⟨ga,c++[PW],rfl,?_,e.upd B,B,?_,ht⟩,?_⟩⟩⟩)));.rw[Z1,YY];(exact H9 y)
              .rw[aa,ZE];rfl
              .exact av Z_
            have QW:∀(Qy:Y_)(Qe:MV),BY x n c2 Qe o=aJ "group" Qe (BY x n c2 (.ref Qy) o):=λQy Qe=>by kernel_rfl!
            refine a3 (ud b hb PM.rm hg (c:=o.eq) (r:=decide ((o.2.2.1:Zw)-o.2.1>(n:Zw)+n)) Z_ Z_ ⟨λh=>?_,λh=>Su ?_⟩)
            . simp only[YK,XU]at h;have q:o.eq=true/\o.2.2.1-o.2.1>n+n:=⟨h.1,Me.mp h.2⟩;have ht:(f9 n c (o::dV (k+1))).map gL=gL (c++[kr n o])::(f9 n [rh n o] (dV (k+1))).map gL:=by rw[gJ,ZT q,Yb]
              refine Ss (VK (W4 (Z4 rfl ⟨ga,_,rfl,j,XZ b hb PM.rm hg (mv:=.tup [.str o.1,.int (o.2.1:U),.int (if(o.2.1:Zw)+n<o.2.2.1 then(o.2.1:Zw)+n else(o.2.2.1:Zw)),.int (o.2.2.2.1:U),.int (if(o.2.2.2.1:Zw)+n<o.2.2.2.2 then(o.2.2.2.1:Zw)+n else(o.2.2.2.2:Zw))]) Z_ ⟨_,j,by rw[Z2,af];(exact rf 0x1ffff2f1e60e08f2f16841 [128,16777216] [_,_,_] [] P2 PZ y),rfl,?_⟩⟩)));rw[kK,kK];have Qz:Y8 E ga (.list (c.map gz++[gz (kr n o)])) ga=some (.list ((c++[kr n o]).map gz)):=by rw[aa,ZE];rfl
              have e1:Wz w (Y8 E ga (.list (c.map gz++[gz (kr n o)]))):=e.upd B;show GF X _ _ _ _ _ _ _ (BY x n c2 (.ref ga) o) (Y8 E ga (.list (c.map gz++[gz (kr n o)]))) _ _ _;generalize Y8 E ga (.list (c.map gz++[gz (kr n o)]))=S at Qz e1;refine GF.freeze Qz (BY x n c2 (gL (c++[kr n o])) o) (λPS mv a=>?_) ?_
              . rw[QW ga,aB]at a;split at a;.rename_i hy;cases a;exact .inr ⟨by rw[hy];rfl,rfl⟩
                .exact .inl a
              refine Sa (I7 PM rfl ht (Z4 rfl ⟨rfl,e1.del B,λQX QA O he=>?_⟩));refine Ss (Zk (VZ (Y6 ⟨by decide,λQY QB=>?_⟩)) (.inl rfl));refine Ss (gx PM.rm.handled (WE:=["i1","j1"]) (XZ b hb PM.rm hg (mv:=.tup [.int (if(o.2.2.1:Zw)-n>o.2.1 then(o.2.2.1:Zw)-n else(o.2.1:Zw)),.int (if(o.2.2.2.2:Zw)-n>o.2.2.2.1 then(o.2.2.2.2:Zw)-n else(o.2.2.2.1:Zw))]) Z_ ⟨_,rfl,rfl,?_⟩) (cn (.inl rfl) (cn (.inl rfl) jK)));rw[kC,kC];exact Su (Qx _ QA QY [] (rh n o) _ (he.upd (he.none QB)) (he.none QB) (aa ..) (by simp) rfl)
            . have q:¬(o.eq=true/\o.2.2.1-o.2.1>n+n):=by
                intro q;have:(o.eq&&decide ((o.2.2.1:Zw)-o.2.1>(n:Zw)+n))=true:=by rw[q.1,o'];exact Yr (Me.mpr q.2)
                rw[this]at h;cases h
              exact Qx E w ga c o _ e B j y (by rw[gJ,ZY q])
        . obtain⟨ga,c,rfl,y,e,B,j,rfl⟩:=Qd;rw[Z2,PO];rw[Z2]at y;have stop:∀(t:ZaV),t=[]->GF X m Nv Ni XO Nk (vR D M) (Yj [] (vR D M)) (Ef x n c2 (.ref ga)) E w t λo l G N Q=>match o with
              |.next=>GF X m Nv Ni XO Nk (vR D M) (Yj [] (vR D M)) l G N Q λo O G N Q=>(o=.next\/o=.ret .none)/\Q=[]/\Wz N G|o=>(o=.next\/o=.ret .none)/\Q=[]/\Wz N G:=λt ht=>Su (Su ⟨.inl rfl,ht,e⟩);have QZ:mj E ZaR=some YZ:=by exact(Zq (U8 Sr) (eU j)).trans (Zq some (Z2 ..))
          show GF X _ _ _ _ _ _ _ _ _ _ _ _;refine Sa (a3 (VT (Tr (Z4 rfl ⟨!c.isEmpty,?_,λQf=>?_,λQf=>⟨(λh=>by cases h),λO=>stop _ ?_⟩⟩))));.exact(Le (dg j) (by rw[Z2,af];(exact cF 0x1ffe5e2cc1c1165e1 [128,16777216] [_,_] [] PZ y))).trans (by rw[Pr])
          . have z:c≠[]:=by intro f;subst f;cases Qf
            obtain⟨o0,P4⟩:∃o,c[0]?=Zai:=⟨_,Z6 (Xi z)⟩;have p:F' 0 default=o0:=by rw[Z0,P4];rfl
            have PN:bR E ZaR (.int 0)=some (gz o0):=lZ j (by rw[Zy,P4];rfl);have Q2:¬(YZ=1/\o0.eq=true)->(f9 n c []).map gL=[gL c]:=λh=>by rw[nW,p,ZT ⟨z,h⟩];rfl
            refine VT (EB.qG (Gr (r:=((YZ:Zw)==1)) (s:=o0.eq) (XA r (EV.Fc hb rfl (Z4 rfl ⟨YZ,QZ,by rw[af];(exact cF 0x1ffe5e2cc1c1165e1 [128,16777216] [_,_] [] PZ y),X2 ⟨_,rfl,rfl,rfl⟩⟩))) (XA r (Yq (Yq (Z4 rfl (X2 ⟨_,PN,X2 ⟨.str o0.1,rfl,Wc ⟨_,rfl,rfl,rfl⟩⟩⟩))))) ⟨λh=>t' ⟨λO=>?_,(λh=>by cases h)⟩,λh=>⟨(λh=>by cases h),λO=>stop _ ?_⟩⟩))
            . have q:¬(YZ=1/\o0.eq=true):=by
                intro f;obtain⟨Q3,q2⟩:=f;rw[Q3,q2]at h;cases h
              refine GF.freeze j (Ef x n c2 (gL c)) (λPS mv a=>?_) ?_
              . have A:(aJ "group" (gL c) (Ef x n c2 (.ref ga))).lookup PS=ZaQ:=a;rw[aB]at A;split at A;.rename_i hy;clear a;cases A;exact .inr ⟨by rw[hy];rfl,rfl⟩
                .exact .inl A
              exact Sa (I7 PX rfl (Q2 q) (Z4 rfl ⟨rfl,e.del B,λQX QA O he=>Su (Su ⟨.inl rfl,rfl,he⟩)⟩))
            . have q:YZ=1/\o0.eq=true:=by
                have:(((YZ:Zw)==1)&&o0.eq)=true:=by cases hh:(((YZ:Zw)==1)&&o0.eq)with
                  |false=>rw[hh]at h;cases h|true=>rfl
                simp only[YK,V7]at this;exact⟨Int.ofNat_inj.mp this.1,this.2⟩
              rw[nW,p,ZY (λQ4=>Q4.2 q)];rfl
          . have:c=[]:=by cases c with|Yk=>rfl|Zp=>cases Qf
            subst this;rw[nW,ZY (λh=>h.1 rfl)];rfl
      refine XD (XA r (Yq (Yq (Z4 rfl (XZ b hb r hg (mv:=.int (-1)) Z_ ⟨_,Qb,X2 ⟨.str o1.1,rfl,XZ b hb r hg (mv:=.str "equal") Z_ ⟨o1.eq,rfl,λh=>?_,λh=>YV (Qq Qn _ (Tt _) e ?_)⟩⟩⟩)))))
      . refine ZJ (sq (Yq (Z4 rfl (XZ b hb r hg (mv:=.int (-1)) Z_ ⟨_,Qb,?_⟩))));refine bq.tup X4 (NB:=[("tag",_),("i1",_),("i2",_),("j1",_),("j2",_)]) (cn (.inl rfl) (cn (.inl rfl) (cn (.inl rfl) (cn (.inl rfl) (cn (.inl rfl) jK))))) rfl ?_;refine ZJ (EF.Bm (XZ b hb r hg (mv:=.tup [.str o1.1,.int o1.2.1,.int (if(o1.2.1:Zw)+n<o1.2.2.1 then(o1.2.1:Zw)+n else(o1.2.2.1:Zw)),.int o1.2.2.2.1,.int (if(o1.2.2.2.1:Zw)+n<o1.2.2.2.2 then(o1.2.2.2.1:Zw)+n else(o1.2.2.2.2:Zw))]) Z_ ?_));rw[kK,kK];refine bq.xS (Z4 rfl (XZ b hb r hg (mv:=.int (-1)) Z_ ⟨an,_,-1,hu-1,rfl,rfl,g,.inr ⟨rfl,by rw[Z2]⟩,(by rw[Z2];exact P9),YV (Qq _ _ ?_ (e.upd I) ?_)⟩));.exact av Z_
        .rw[aa];unfold gD;rw[p,ZT h,List.map_set];rfl
      .unfold gD;rw[p,h];exact g
    refine XD (XA r (Yq (Yq (Z4 rfl (X2 ⟨_,PN,X2 ⟨.str o0.1,rfl,Wc ⟨o0.eq,rfl,λh=>?_,λh=>YV (Qm S _ (Tt _) e ?_)⟩⟩⟩)))))
    . refine ZJ (sq (Yq (Z4 rfl (X2 ⟨_,PN,?_⟩))));refine bq.tup X4 (NB:=[("tag",_),("i1",_),("i2",_),("j1",_),("j2",_)]) (cn (.inl rfl) (cn (.inl rfl) (cn (.inl rfl) (cn (.inl rfl) (cn (.inl rfl) jK))))) rfl ?_;refine ZJ (EF.Bm (XZ b hb r hg (mv:=.tup [.str o0.1,.int (if(o0.2.2.1:Zw)-n>o0.2.1 then(o0.2.2.1:Zw)-n else(o0.2.1:Zw)),.int o0.2.2.1,.int (if(o0.2.2.2.2:Zw)-n>o0.2.2.2.1 then(o0.2.2.2.2:Zw)-n else(o0.2.2.2.1:Zw)),.int o0.2.2.2.2]) Z_ ?_));rw[kC,kC];refine bq.xS (Z4 rfl (X2 ⟨an,_,0,0,rfl,rfl,g,.inl ⟨rfl,rfl⟩,(by rw[Z2];exact Xi z),YV (Qm _ _ ?_ (e.upd I) ?_)⟩));.exact av Z_
      .rw[aa];unfold iC;rw[p,ZT h,List.map_set];rfl
    .unfold iC;rw[p,h];exact g
  refine XD (EB.qG (Tr (Z4 rfl ⟨!cs.isEmpty,?_,λh=>?_,λh=>YV (Ql S an cs ?_ T e I g ?_)⟩)));.exact(Le (dg g) (by rw[Z2,af];(exact a9 0x7f2f0e5e1 [128,16777216] [_] [] T))).trans (by rw[Pr])
  . have P4:cs=[]:=by cases cs with
      |Yk=>rfl|Zp=>cases h
    rw[ZT P4]at F;refine ZJ (Zk (VZ (Zu (XZ b hb r hg (mv:=gz ("equal",0,1,0,1)) Z_ (Y6 ⟨(by simp[af]),λa2 QC=>YV ?_⟩)))) (.inl rfl));exact Ql _ a2 [("equal",0,1,0,1)] (Y9 _ _) (Te _) (e.upd (ai QC)) (ai QC) (aa ..) F
  .intro f;subst f;cases h
  .rw[F,ZY (by intro f;subst f;cases h)]
theorem Rm.gen(h:Rm X m (n+1))(W9:J V4)(YX:SM):Rm X (Tp (.func W9 YX) []) n:=⟨by have:=l4;show G_+0+1+n<=900;(exact aV 0x1fc8e0283a0d0e47083841 [_,_,_] this),by have:=lx;show OY+0+3+20*n<=9000;(exact a9 0x7f23848507c1a1c8e1283841 [20,3,20] [_,_,_] [] this),rk⟩
structure Lib(X:Cx)(b:Zcc)where
 gE:d0 X
 hb:RX b
 hr:V0 ("range")=none/\Va ("range")=some ZaF
 hl:V0 ("list")=none/\Va ("list")=some Zae
 hm:V0 ("map")=none/\Va ("map")=some Zaw
 Bw:V0 ("enumerate")=none/\Va ("enumerate")=some (.type "enumerate")
 k8:V0 ("set")=none/\Va ("set")=some ZaH
 D:hF X b
 M:d5 X b
abbrev dH(a s:J Z):J eI:=j8 (eX s) a s (0,Zx,0,ZR)
abbrev eY(n:U)(s a:J Z):J ZbJ:=SF n (dE 0 0 (dH s a++[(ZR,Zx,0)]))
theorem CJ{n:iv}{z:iv}{B:iv}{C:iv}(b:Lib X NC)(rm:Rm X m (j+6))(P0:XX "SequenceMatcher"=Zaa)(P2:Ys ("a")=some (.lst (ah t)))(P4:Ys ("b")=some (.lst (ah e)))(P5:Ys ("n")=some (.int Q))(P6:YF<=1000)(PR:X1<=1000)(hB:(dH t e).length<64)(P7:Zab)(he:Z3 (ZG (.Call (.Attribute (.Call Zb_ [.Constant .none p Ny,.Name "a" z,.Name "b" B] [] N1) "get_grouped_opcodes" Pp) [.Name "n" C] [] n) A=(do
      let PS<-ZG (.Call Zb_ [.Constant .none p Ny,.Name "a" z,.Name "b" B] [] N1) A
      VV Pp.atName let(P8,first)<-T' [PS] (Ob PS "get_grouped_opcodes" Nz)
      OS n P8 first (UJ n (Zr [.Name "n" C] A)) [])) aR):ZU YH m (ZG (.Call (.Attribute (.Call Zb_ [.Constant .none p Ny,.Name "a" z,.Name "b" B] [] N1) "get_grouped_opcodes" Pp) [.Name "n" C] [] n) A) (jP X (.ok (.ret .none)) (j+11) A o E ((eY Q t e).map gL) y) bz G:=by
  refine Dt b.D.c (λy QA QB G a P9=>by
    obtain⟨PT,Qa,Qb,ga,g,st,le,Qc,q2,q3,q4,q5,Qd,Qe,Qf,Qg⟩:=P9;exact⟨PT,Qa,Qb,ga,g,st,Xb le,Qc,q2,q3,q4,q5,Qd,Qe,Qf,Qg⟩) b.D.xt.get b.D.xt.fn.get b.D.xt.fn.nt rfl rfl (PH:=none) (by rw[W6,X'];kernel_rfl) ?_ P7 he;walk_at"K";refine EV.Ij NC b.D.c (PW:=j+5) rm P0 b.D.gl b.D.init.get b.D.init.fn.get b.D.init.fn.nt rfl (Zu (L0 (Zu (Z4 P2 (Zu (Z4 P4 (Y6 λQh x d Qi F I N=>?_)))))));refine zD b.D b.gE b.hb b.Bw b.k8 (n:=j+1) Qi ⟨aa ..,by rw[ag N.symm];exact aa ..⟩ PR λq Qj QC QD i ex=>⟨rfl,x,d,_,rfl,⟨dT.ext _ _ i.inst.ob,dT.ext _ _ i.inst.dc⟩,rfl,Zu (Z4 P5 (Y6 λPT QE Qk Ql r=>?_))⟩;walk_at"a";have S:Wz E q:=λa k f=>ex _ _ (by
    clear N i ex r;have h1:a≠d:=by intro l;subst l;rw[I]at f;cases f
    have h2:a≠x:=by intro l;subst l;rw[F]at f;cases f
    rw[bZ _ h1,ag h2,ag h1];exact f);generalize T:dT _ q x d=V at i;have s:Wz V q:=by rw[<-T];exact dT.ext
  have newD:∀a k,V a=some k->E a=none:=λa k f=>by
    rw[<-T]at f;clear N ex r T i;refine(dT.new f).elim (λYA=>?_) λYB=>YB.elim (λYA=>?_) λe1=>?_;.rw[YA];exact F
    .rw[YA];exact I
    . by_cases h2:a=x;.rw[h2];exact F
      . by_cases h1:a=d;.rw[h1];exact I
        .rw[ag h2,ag h1]at e1;exact e1
  obtain⟨QF,Qm,Qn,OB⟩:=Ql.kG;refine Wa ?_;refine uH NC (a:=Ml b.D) (PM:=[]) (PR:=[ZaI,.int Q]) ["self","n"] b.D.xt.fn.get b.D.xt.fn.nt rfl b.D.xt.fn.rX b.D.xt.fn.nc rfl rfl rfl rfl (xy b.D.Ih λpm cd Ww Qj y Qk QG PW QH=>?_) Z' (λQo hy=>?_) (w2) Qn (Uv Qm) .nil λQp ga g Qq Qr ob Qt PX u w PM PY=>?_;.refine rep2 PW λv1 v2 f=>?_;subst f;exact xc [v1,v2] rfl PW
  . revert Qo;repeat(refine cn (by rfl) ?_)
    exact jK
  obtain⟨Qu,Qv,PN,Qw,_⟩:=OB Qq _ Qr Qt PX;clear PX;refine⟨Qu,_,Y8 V Qp (.own (.=ob)),ga,g,_,Qv,PN,rfl,S.trans (((I8 q).upd u).upd w),aa ..,λa k f=>?_,?_,S.none w,λa k f=>?_,λQh Qx=>?_⟩
  . have h1:a≠ga:=by
      clear PN;intro l;subst l;rw[ag (Zh PM),s.none w]at f;cases f
    rw[ag h1];clear u PM PY PN;exact xv f (aa ..) λh2 f=>(ag h2).trans (s _ _ f)
  .rw[ag (Zh PM)];exact s.none w
  .exact eJ f (S.none u) (newD _ _)
  .refine gB.mono ?_ Qw;refine gB.start (Qx.gen _ _) rfl rfl rfl rfl (s.none u) PY λQI QJ PZ Qy Qz=>?_;exact Gw b.D b.M b.gE b.hb b.hr b.hl b.hm Qz (i.ext λa k f=>(PZ a k f).1) Qy (PZ _ _ i.inst.dc).2 (JR P6) (JR PR) hB rfl
section
open Builtin.Str
def Sw(y:Z)(m:MV):Prop:=∀b a,aw b m a->∀(Yx:VW)(w:Tw)(A:XY)(s:Za)(E Q:ZP->Za->Prop),(∀t k,Q (.str y t) {s with Wf:=k})->ZU (Ub Yx w) A (formatOf a .empty) Q E s
theorem Sw.s(x:Z):Sw x (.str x):=λ_ _ r _ _ _ a _ _ h=>SA u0 λt e=>e▸VJ (KFm.formatOf_str x t) (h t a.toks)
theorem Sw.i(h1:0<=n)(h2:n<=1000000):Sw (gK n) Zbp:=λ_ _ r _ _ _ _ _ _ h=>SA g5 λO e=>e▸KFm.formatOf_int (shown (N:=2^1920) (Int.lt_of_lt_of_le Z' h1) (o2 h2 Z8) (OU _)) h
theorem FP(h1:0<=n)(h2:n<=1000000):(gK n).length<=10:=toString_length_le h1 Z' (o2 h2 Z')
inductive Pc(a:ZaV)(fn:U)(b:Z):U->J U->Z->U->U->Prop|Yk{i N}(e:Z3 (Nat.ble N 16777216=true) aK):Pc a fn b i [] b N 0|Zp{i:U}{r:J U}{T:Z}{N m:U}(Oo XE:J U){c:MV}(x:Z){y:Z}(K:U){d:Z}(hv:Sw y c)(hy:l5<=K)(f:(T++x)++y=d)(next:Pc a fn b (i+1) XE d (N+ZO+K) m)(g:Z3 (a[i]?=Zao) aR)(hr:Z3 (r.isEmpty=false) aK)(hm:Z3 (nextMarkup r=.ok (Oo,some {name:=[]},XE)) aK)(hx:Z3 (⟨lit.toArray⟩=x) aK)(hn:Z3 ((lit.length==fn)=false) aK)(e:Z3 (Nat.ble N 16777216=true) aK):Pc a fn b i r T N (m+1)
theorem build{byName:Z->p' ZP}(rl:ao q a F)(p:Pc a fmt.length n 0 fmt .empty 0 c)(hm:c<=fmt.length)(h:∀w N num k,KPc.Good w n N->N<=16777216->M (w,num) {s with Wf:=k}):ZU (Ub Pe S) V (buildString "str.format" (some F.toArray) byName (d+1) fmt self .unset) M PM s:=by
 refine Z7 ?_;rw[KPc.range_list];refine(let f:=_;(?_:ZU _ _ (forIn _ _ f) _ _ _));have y':∀{i r T N c},Pc a fmt.length n i r T N c->∀(l:J U)w num s Q,c<=W5->((num=.unset/\i=0)\/num=.auto i)->KPc.Good w T N->(∀w N num k,KPc.Good w n N->N<=16777216->Q (w,num,[]) {s with Wf:=k})->ZU (Ub Pe S) V (forIn l (w,num,r) f) Q PM s:=by
  intro i0 E G I m p;induction p with
  |Yk b=>
   intro l w num s Q O O g h;cases l with|Yk=>exact Z5 (h w _ num Uu g (WG b))|Zp x l=>exact KPc.turn (UW (KPc.ite_yes rfl (Z5 (h w _ num Uu g (WG b)))))
  |@Zp i r T N c Oo XE X x PN K PR hv hy j next o hr hm hx hn b y=>
   intro l w num s Q hl z g h;clear next;cases l with
   |Yk=>cases hl|Zp PS l=>
    refine KPc.turn (UW (T6 (by rw[hr];exact Yn) (UW (T6 (KPc.short_good g (WG b)) ?_))));walk_at"a";dsimp only;rw[hm];subst hx;walk_at"a";obtain⟨u,A,B⟩:=h7 _ o;refine Z7 (KFm.field_auto z (List.getElem?_toArray.trans A) ?_);walk_at"a";refine Z7 (ZF (VJ rfl ?_));walk_at"a";refine UW (T6 Yn ?_);refine Z7 (Z5 ?_);refine Z7 (ZF (hv q u B _ _ _ _ _ _ λt k=>?_));refine Z7 (VJ rfl (Z5 ?_));exact y l _ _ _ Q (Nat.le_of_succ_le_succ hl) (.inr rfl) (j▸KPc.good_mono (KPc.good_add (KPc.good_add g (KPc.obj_none (by rw[hn];rfl))) λu e=>⟨t,by cases C:rest.isEmpty<;>rw[C]at e<;>cases e;rfl⟩) (Nat.add_le_add_left hy _)) λw N num D=>h w N num D
 exact y' p _ _ _ s _ (by rw[List.length_range'];exact hm) (.inl ⟨rfl,rfl⟩) KPc.good0 λw N num k g b=>Z5 (h w N num k g b)
end
def oY(f:Z)(b:ZaV)(T:Z):Prop:=∀(X:Cx)(m:XY)c s t a(Q:ZP->Za->Prop),ao c b a->(∀d k,Q (.str T d) {s with Wf:=k})->ZU YH m (VQ (.builtin "str.format") (.str f t::a)) Q bz s
theorem oY.of(c:∀t a,Zx=Zv->S_ "str.format" ⟨.str f t::a,[]⟩)(p:Pc b f.cps.toList.length T 0 f.cps.toList .empty 0 d)(hm:Z3 (Nat.ble d f.cps.toList.length=true) aK):oY f b T:=λX A l s t a Q r h=>by
 refine KFm.call_k rfl (c t a K4) (KPc.meets_of λYx w A s Q E h=>?_) h;refine Z7 (VJ (a:=(_,_,_)) rfl ?_);exact Z7 (build r p (WG hm) λm N num n g e=>KPc.finish_ok g e rfl λj k=>h j k)
theorem EV.fmt(h:EA X m A (Ng::NP) o E λb G=>∃T:Z,oY N b T/\g (.str T) G)(he:Z3 (ZG (.Call (.Attribute (.Constant (.str N) j Np) "format" Ny) (Ng::NP) [] N1) A=(do
   let d<-ZG (.Constant (.str N) j Np) A
   VV Ny.atName let(N,first)<-T' [d] (Ob d ("format") Nz)
   OS N1 N first (UJ N1 (Zr (Ng::NP) A)) [])) aR)(f:Z3 (gH A Ng NP) aR)(hp:Z3 (nr A NP) aI):EV X m A (ZG (.Call (.Attribute (.Constant (.str N) j Np) ("format") Ny) (Ng::NP) [] N1) A) o E g:=by
 refine k' (Nz:=Nz) Ca F.slot_str_format_m F.type_str_format_m (Wc ⟨cv.str,?_⟩) he f hp;walk_at"m";intro N1 c s S;refine ZS (h N1 c s S) (λe u q=>?_) λO O x=>x;obtain⟨i,b,l,a,r,n,T,p,k⟩:=q;refine⟨i,b,l,a,r,n,λc s w e S r rs=>?_⟩;obtain⟨t,YA⟩:=u0;rw[YA];exact p X m c s t e _ rs λy z=>U0 S (bp ..) k
theorem oY.i(h1:0<=n)(h2:n<=1000000):oY "{}" [Zbp] (gK n):=.of (λO=>EK λO=>KFm.args_2 ..) (.cons [] [] "" 10 (.i h1 h2) (FP h1 h2) KFm.cat_ee .nil)
theorem oY.ii(h1:0<=n)(h2:n<=1000000)(b:0<=a)(c:a<=1000000):oY "{},{}" [Zbp,ZbQ] (gK n++","++gK a):=.of (λO=>ym λO O=>KFm.args_3 ..) (.cons [] [44,123,125] "" 10 (.i h1 h2) (FP h1 h2) KFm.cat_ee (.cons [44] [] "," 10 (.i b c) (FP b c) rfl .nil))
theorem oY.s1(hx:ZO<=1000):oY "*** {} ****{}" [.str x,.str "\n"] ("*** "++x++" ****"++"\n"):=.of (λO=>ym λO O=>KFm.args_3 ..) (dx [42,42,42,32] [32,42,42,42,42,123,125] "*** " 1000 (.s x) hx KFm.cat_ex (.cons [32,42,42,42,42] [] " ****" 1 (.s _) Z' rfl .nil))
theorem oY.s2(hx:ZO<=1000):oY "--- {} ----{}" [.str x,.str "\n"] ("--- "++x++" ----"++"\n"):=.of (λO=>ym λO O=>KFm.args_3 ..) (dx [45,45,45,32] [32,45,45,45,45,123,125] "--- " 1000 (.s x) hx KFm.cat_ex (.cons [32,45,45,45,45] [] " ----" 1 (.s _) Z' rfl .nil))
theorem oY.h1:oY "*** {}{}{}" [.str "",.str "",.str "\n"] "*** \n":=.of (λO=>Hq λO O O=>KFm.args_4 ..) (dx [42,42,42,32] [123,125,123,125] "*** " 0 (.s "") Z' (d:="*** ") Z' (dx [] [123,125] "" 0 (.s "") Z' (d:="*** ") Z' (.cons [] [] "" 1 (.s "\n") Z' Z' .nil)))
theorem oY.h2:oY "--- {}{}{}" [.str "",.str "",.str "\n"] "--- \n":=.of (λO=>Hq λO O O=>KFm.args_4 ..) (dx [45,45,45,32] [123,125,123,125] "--- " 0 (.s "") Z' (d:="--- ") Z' (dx [] [123,125] "" 0 (.s "") Z' (d:="--- ") Z' (.cons [] [] "" 1 (.s "\n") Z' Z' .nil)))
theorem xD(F:hT X fa (cy 6) pm cd Ww .none .none)(b:Zcc)(hb:ZcX)(rm:Rm X m (n+1))(h1:j<=c)(h2:c<=100000)(k:g (.str (aN j ((c:Zw)-j))) E):b9 X m ZaA [Zb5,ZcS] E g:=by
  walk_at"t";refine hS b rm ["start","stop"] (ym λO O=>rfl) Z' rfl ZbM λo=>?_;intro YX;have r:=WJ YX;have hg:∀f,([]:J Z).contains f=true->Yg f=Zaa:=e7 rfl;refine ZJ (IY ?_);refine ZJ (Zk (XZ b hb r hg (mv:=.int ((j:Zw)+1)) Z_ ?_) (.inl rfl));refine ZJ (Zk (XZ b hb r hg (mv:=.int ((c:Zw)-j)) Z_ ?_) (.inl rfl));walk_at"J";have T:∀d:Zw,(0<=d/\d<=100001)->(d=if(c:Zw)-j=0 then(j:Zw)else(j:Zw)+1)->EF X (Sg YX) YX (Yj ((bI (cy 6)).drop 4) YX) [("start",Zb5),("stop",ZcS),("beginning",.int d),("length",.int ((c:Zw)-j))] E (qI g):=by
    intro d l;obtain⟨d1,d2⟩:=l;intro hd;refine ZJ (XD (S2 b hb r hg (c:=decide ((c:Zw)-j<=1)) Z_ ⟨λh=>?_,λh=>YV ?_⟩))
    . refine ZJ (Q0 (EV.fmt (Zu (Z4 rfl (Y6 ⟨_,oY.i d1 (a9 0x7f2f565ea [100001,1000000] [] [_] d2),?_⟩)))));have a:=Zj h;unfold aN at k;rw[ZT (by exact a9 0x7f4f565ca [2] [] [_] a)]at k;have e:d=(j:Zw)+((c:Zw)-j):=by rw[hd];split<;>(first|exact a9 0x1fdc14b5edaa [] [] [_,_] ‹_›|exact fX 0x3fffee1198a6198a0e98b9b6c66298721165d198a61 [_,_] a h1 ‹_›)
      rw[e];exact k
    .have a:=VO h;rw[ZY (by exact a9 0x1fe6daae65ca [] [] [_] a)]at hd;clear d1;subst hd;refine ZJ (Q0 (EV.fmt (Zu (Z4 rfl (Zu (XZ b hb r hg (mv:=.int ((j:Zw)+1+((c:Zw)-j)-1)) Z_ (Y6 ⟨_,oY.ii (cY 0x33074c2d [_]) (a9 0x7f2f565ea [100001,1000000] [] [_] d2) (fF 0xcc5d08aa618394d [] [_] [_]) (a9 0xfe5f17422a9860e565e1 [100000,1000000] [_] [_] h2),?_⟩)))))));unfold aN at k;rw[ZY (by exact a9 0x1fe69eae65ca [2] [] [_] a)]at k;rw[show(j:Zw)+1+((c:Zw)-j)-1=j+((c:Zw)-j)by(exact fF 0x6e0b545d05c1ca [] [] [_,_])];exact k
  refine ZJ (XD (S2 b hb r hg (c:=!((c:Zw)-j !=0)) Z_ ⟨λh=>?_,λh=>YV ?_⟩))
  . have a:(c:Zw)-j=0:=by simpa using h
    refine ZJ (EF.aug (b:=.int ((j:Zw)+1)) rfl (X2 ⟨.int ((j:Zw)+1-1),rfl,YV ?_⟩) (.inl rfl));exact T _ (cF 0x3ffee5f1741cacc5d0729b97876d8aa61 [100000,100001] [_] [_] a h2) (by rw[ZT a];(exact fF 0x6d51741ca [] [] [_]))
  . have a:¬(c:Zw)-j=0:=by simpa using h
    exact T _ (cF 0x1fff72f83a62cc1d313721165e1 [100000,100001] [_,_] [] h2 h1) (by rw[ZY a])
theorem gr.tup(hh:XW=none)(h:EV X m A V o E λF G=>∃d,F=.tup d/\N7 YG (λk=>tf k .none) G):gr X m cu A (.Name P8 Yl) V o E N7:=λP9 Qa PM=>W1 PM λf s u F PN PR r S x=>by
    walk_at"aU";obtain⟨d,rfl,x⟩:=x;refine⟨f,PN,_,_,[],PR,S,Off.nil,λQb Qc PS=>?_,x⟩;obtain⟨a,t,PT,YA,y,rl⟩:=l_;rw[YA];have I:=W0;refine wpAny_pyIter_tuple (cM (Yd _ _ y)) ?_;have z:=Walks.tuple (prog:=Wj) (w:=Sl) (A:=m) hh Zz a (Zb (XN (Yd _ _ y)):a≠Zz) t;refine PS (.ref Zz) _ [Zz] (λk M h=>h.IsTupleIter Zz a k/\M a (X8 (.type "tuple") t PT)/\ao M d t.toList) ⟨?_,gO,?_,?_,?_,?_⟩ (Ct λb i O e=>ZC _ e) ⟨⟨_,ZL _ rfl,rfl,rfl⟩,y,rl⟩ (λb hb=>by simp at hb;subst hb;exact .inl (ZV _));.intro k f Qd h N c;obtain⟨⟨i,B,PW⟩,p,r⟩:=c;intro le O O hw;exact⟨⟨i,hw _ (.head _) i B,PW⟩,le.q _ _ _ _ p,r.ip le⟩
    .intro k f h c;obtain⟨⟨i,B,PX,hd⟩,_⟩:=c;intro b hb;simp at hb;subst hb;walk_at"b";exact⟨i,B,kH (by rw[PX];simp) λO O e=>by rw[e]at hd;cases hd⟩
    . intro k f s Q T C c;obtain⟨j,p,r⟩:=c;intro l hw n;have OQ:k<t.size:=by exact O6 C I
      obtain⟨PY,D,PZ⟩:=r.get k (a:=d[k]) (Z6 C);refine z.item k s _ _ OQ ⟨j,cM (l _ _ p)⟩ λu N P0 hv P2 hx=>n u _ λQe=>?_;walk_at"e";obtain rfl:u=PY:=by simp at hv D;rw[hv]at D;exact ZW D
      obtain⟨⟨P4,P5,P6,P7⟩,_⟩:=id P2;refine Z5 ⟨Ct hx,⟨⟨P4,P5,P6,P7⟩,p,r⟩,?_⟩;show aw _ _ _;rw[Z0,Z6 C];exact PZ
    .intro f s Q T c;obtain⟨j,p,r⟩:=c;intro l hw n;exact z.done s _ _ (by rw[I];exact⟨j,cM (l _ _ p)⟩) λN P0 hx=>n _ (Ct hx)
    .intro k f s Q T c;obtain⟨j,p,r⟩:=c;intro l n;exact z.self k s _ _ ⟨j,cM (l _ _ p)⟩ n
theorem EB.isStr(b:Zcc)(i:XX "isinstance"=Zaa)(f:V0 "isinstance"=none/\Va "isinstance"=some ZcQ)(j:XX "str"=Zaa)(hs:V0 "str"=none/\Va "str"=some Zb8)(h:EV X m A Zcn o E λg G=>∃x,g=.str x/\Nj true G)(he:Z3 (Zr [a,ZbN] A=(false,Zcn)::Zr [ZbN] A) aR)(ht:Z3 (XC (.Call Zbe [a,ZbN] [] Yl) A (ZG (.Call Zbe [a,ZbN] [] Yl) A)=(do let e<-ZG (.Call Zbe [a,ZbN] [] Yl) A;VV Yl;T' [e] (h8 e))) aR):EB X m A (XC (.Call Zbe [a,ZbN] [] Yl) A (ZG (.Call Zbe [a,ZbN] [] Yl) A)) o E Nj:=by
 refine Tr (b3 b i f.1 f.2 (.inl ⟨_,rfl⟩) (Zu (WT λg G l=>SA l λx Yw=>Ug Yw λhm k=>Zu (p_ b j hs.1 hs.2 (Y6 λp s q S r=>?_))) he) (by rfl) he) ht;walk_at"a";subst hm;obtain⟨e,_,YA,n,u,_,YB,r2,YC⟩:=r;rw[YA,YB,YC];obtain⟨t,YA⟩:=n.str;rw[YA];rw[r2.raw];exact IsiPair.str_str (Sh S (aE ..) ⟨true,rfl,k⟩)
theorem wY(F:hT X fa (cy 8) pm cd Ww .none .none)(hb:RX NC)(n:NC.mg "isinstance"=none/\NC.mb "isinstance"=some ZcQ)(rm:Rm X m (PT+1))(r r2 b c d:Z)(M:ZR<=10000)(N:S8<=10000)(k:g .none E):b9 X m ZaA [Zal,ZbY,.str r,.str r2,.str b,.str c,.str d] E g:=by
  walk_at"t";refine iE.call (iE.body NC (PR:=[Zal,ZbY,.tup (ah [r,r2,b,c,d])]) ["a","b","args"] F.get F.nt rfl F.rX F.nc rfl rfl rfl rfl (λPW Q PX PY S T PZ=>?_) Z' (λV x hx=>?_) w2 λV=>?_);.refine KH T rfl λv1 v2 v3 v4 v5 v6 v7 q q2 q3 e=>?_;.rw[e];show ZU _ _ (newTuple [v3,v4,v5,v6,v7]>>=λt=>Ye [(("a"),v1),("b",v2),("args",t)]) _ _ _;refine Z7 (wpAny_newTuple (Z5 ?_) (show 5<=ZK by decide));refine⟨_,[v1,v2,.ref Q.heap.objs.size],Tx,((h9 (X8 Zac #[v3,v4,v5,v6,v7] 0)).pin (ZL _ rfl) (S.fresh (ZV _)) (S.hU (ZV _))),rfl,.cons (q.mono Tx) (.cons (q2.mono Tx) (.one ?_))⟩;walk_at"aV";exact(exI3 _ _ _ ⟨rfl,.inr ⟨rfl,rfl⟩,ao.mono Tx q3⟩)
  .simp only[XS,YJ,Vw]at hx;rcases hx with rfl|rfl|rfl<;>exact .inl rfl
  intro YX;have PM:=WJ YX;have o:=hb "str" Zb8 (by rfl);have one:∀x a{p p0 p1 p2 u w z A B C:iv}{D:U}{W9:J V4}{l:YS}{E:GH}{g:y_->YS->GH->Prop},VU x=some ZaC->(x=="__classdict__")=false->(x=="__debug__")=false->Zx<=10000->g .next l E->EF X (Sg YX) YX (TP (.If (.BoolOp .And [.Name x p,.UnaryOp .Not (.Call (.Name "isinstance" p0) [.Subscript (.Name x p1) (.Constant (.int 0) D p2) u,.Name "str" w] [] z) A] B) W9 [] C) YX) l E g:=by
    intro x a p p0 p1 p2 u w z A B C D W9 l E g hx hn hd PN I;have bj:(ah a).length<=ZK:=by rw[az,af];exact O3 PN
    refine XD (VT (Tr (Z4 hx ⟨!(ah a).isEmpty,?_,λh=>VT (EB.qG (EB.isStr NC rfl n rfl o (Yq (Z4 hx (X2 ⟨.str (Wm 0 ""),?_,Wm 0 "",rfl,⟨(λh=>by cases h),λO=>⟨(λh=>by cases h),λO=>YV I⟩⟩⟩) hn hd)))),λh=>⟨(λh=>by cases h),λO=>YV I⟩⟩ hn hd)));.show(if(ah a).length<=ZK then _ else _)=_;rw[ZT bj]
    .cases a with
      |Yk=>cases h|Zp y ys=>exact gQ rfl bj
  refine ZJ (one "a" s rfl (by rfl) (by rfl) M ?_);refine ZJ (one "b" f rfl (by rfl) (by rfl) N ?_);refine ZJ (EF.vO (λj l G=>Od [("a",Zal),("b",ZbY),("args",.tup (ah [r,r2,b,c,d]))] l/\G=E) (gr.tup PM.handled (Z4 rfl ⟨_,rfl,λk l=>aJ "arg" ((ah [r,r2,b,c,d]).getD k .none) l,_,⟨Tt _,rfl⟩,Tt _,λk P0=>UQ (.inl rfl),λj l G hj i=>?_,λl G i=>?_⟩)));.obtain⟨hs,YA⟩:=i;rw[YA];walk_at"p";obtain⟨x,hx,hg,_⟩:=lA [r,r2,b,c,d] j hj;show EF X _ _ _ (aJ "arg" ((ah [r,r2,b,c,d]).getD j .none) l) _ _;rw[hg];refine ZJ (XD (EB.qG (EB.isStr NC rfl n rfl o (Z4 (by rw[aB];rfl) ⟨x,rfl,(λh=>by cases h),λO=>YV (YV ⟨_,⟨Tt _,rfl⟩,λy PR e=>?_⟩)⟩))));rw[aB,ZY (by intro PS;subst PS;exact ax e)];exact hs y PR e
  .obtain⟨hs,YA⟩:=i;rw[YA];exact YV k
def qY(o:Op):ZaV:=[.str o.1,.int (o.2.1:U),.int (o.2.2.1:U),.int (o.2.2.2.1:U),.int (o.2.2.2.2:U)]
def pH(t:Z):Z:=if t=("insert")then"+ "else if t=("delete")then"- "else if t=("replace")then"! "else"  "
def tF(t:Z):Prop:=t=("insert")\/t=("delete")\/t=("replace")\/t=("equal")
def IP(skip:Z)(l:J Z)(s:Op->U×U)(g:ZbJ):J Z:=g.flatMap λo=>if o.1=skip then[]else((vc (s o).1).take ((s o).2-(s o).1)).map (pH o.1++.)
theorem Dl(t:Z):(pH t).length=2:=by
  unfold pH;refine bQ rfl (λO=>?_) λO=>?_;.rfl
  . refine bQ rfl (λO=>?_) λO=>?_;.rfl
    .split<;>rfl
abbrev pD(X:Cx)(t:nj×nj×nj×nj):MO:=sD X (z6 (.str "+ " t.1) (.str "- " t.2.1) (.str "! " t.2.2.1) (.str "  " t.2.2.2))
theorem FL(t:nj×nj×nj×nj)(h:tF x):∃u,WK (z6 (.str "+ " t.1) (.str "- " t.2.1) (.str "! " t.2.2.1) (.str "  " t.2.2.2)) x=some (.str (pH x) u):=by
 walk_at"b";rcases h with rfl|rfl|rfl|rfl;.exact⟨_,rfl⟩
 .exact⟨_,rfl⟩
 .exact⟨_,rfl⟩
 .exact⟨_,rfl⟩
theorem Hid.yield(h:ed b E w)(k:∀a o,E a=Zai->w a=none->c a=Zai/\d a=none):ed b c d:=λa o e=>Ug (h a o e) λx y=>k a o x y
theorem qi(V:ic X m Ni XO Ql)(PM:rd=5)(PN:∀x∈NB,aM A x.1)(PR:aM A "line")(PS:A.cells=[])(PT:A.scope.isCoroutine=false)(PW:gu A=false)(PX:base.lookup ("group")=some (gL b))(l1:∀o:Op,(dW oI (Vo (·.1)) (qY o)).lookup ("tag")=some (.str o.1))(l2:∀o:Op,(dW oI (Vo (·.1)) (qY o)).lookup N=some (.int ((s o).1:U)))(l3:∀o:Op,(dW oI (Vo (·.1)) (qY o)).lookup S=some (.int ((s o).2:U)))(p:∀o:Op,(dW oI (Vo (·.1)) (qY o)).lookup a=some (.lst (ah l)))(u:∀o:Op,(dW oI (Vo (·.1)) (qY o)).lookup ("prefix")=some ZaO)(PY:∀o:Op,Od oI (dW oI (Vo (·.1)) (qY o)))(y:∀o:Op,(dW oI (Vo (·.1)) (qY o)).lookup ("line")=none)(n:(a=="__classdict__")=false/\(a=="__debug__")=false)(G:(N=="__classdict__")=false/\(N=="__debug__")=false)(I:(S=="__classdict__")=false/\(S=="__debug__")=false)(PZ:M d=some (pD X t4))(c:ed M E w)(f:Wz w E)(P0:W5<=10000)(P2:∀x∈l,ZO<=1000)(P4:∀o∈b,tF o.1)(P5:∀E w,ed M E w->Wz w E->NS .next oI E w XE):GF X m Nv Ni XO Nk A (TP (.For (.Tuple (Vo nm) Qm tp) (.Name "group" p1) [.If (.Compare (.Name "tag" p2) [.NotEq] [.Constant (.str skip) k2 Qn] Qo) [.For (.Name "line" Qp) (.Subscript (.Name a Qq) (.Slice (some (.Name N Qr)) (some (.Name S Qt)) none Qu) Qv) [.Expr (.Yield (some (.BinOp (.Subscript (.Name "prefix" Qw) (.Name "tag" Qx) Qy) .Add (.Name "line" Qz) QA)) QB) QC] [] QD] [] QE] [] QF) A) oI E w (ah (IP skip l s b)++XE) NS:=by
  refine GF.H7 V M (λk i t=>i=oI/\t=ah (IP skip l s (Tg k))++XE) c f (Z4 PX ⟨g6 gz,λk i=>dW i (Vo (·.1)) (qY (UG k default)),oI,rfl,rfl,⟨rfl,rfl⟩,Tt _,λP6 Q k q hm=>?_,λP7 P8 P9 k q i E w t F hm g c f=>?_,λi E w t g c f=>?_⟩)
  . rw[Zy]at hm;obtain⟨o,r,YA⟩:=Y4 hm;rw[<-YA];have z:UG k default=o:=by rw[Z0,r];rfl
    simp only[z];exact(TG.tup (c:=(qY o)) Q PN PM).gw
  . obtain⟨rfl,rfl⟩:=g;walk_at"Z";rw[Zy]at hm;walk_at"v";obtain⟨o,r,YA⟩:=Y4 hm;rw[YA];have z:UG k default=o:=by rw[Z0,r];rfl
    obtain⟨Qa,Qb⟩:=ZN r;have Qc:Tg k=o::Tg (k+1):=by rw[Xz Qa,Qb]
    simp only[z];have em:IP skip l s (o::Tg (k+1))=(if o.1=skip then[]else((vc (s o).1).take ((s o).2-(s o).1)).map (pH o.1++.))++IP skip l s (Tg (k+1)):=rfl;rw[Qc,em];have l1:=l1 o;have l2:=l2 o;have l3:=l3 o;have p:=p o;have u:=u o;have B:=PY o;have y:=y o;generalize dW i (Vo (·.1)) _=b1 at l1 l2 l3 p u B y;refine Sa (a3 (XA F.rm (Z4 l1 (Wc ⟨!(o.1==skip),rfl,λh=>?_,λh=>?_⟩))))
    . have C:¬o.1=skip:=by simpa using h
      rw[ZY C];have Qd:(ah l).length<=ZK:=by rw[az,af];exact O3 P0
      have T:∀x∈(vc (s o).1).take ((s o).2-(s o).1),ZO<=1000:=λx hx=>P2 x (UM (OG hx));refine Sa (GF.H7 F M (λj D t=>D=b1/\t=ah ((((vc (s o).1).take ((s o).2-(s o).1)).drop j).map (pH o.1++.))++(ah (IP skip l s (Tg (k+1)))++XE)) c f (t_ (Z4 p (U5 (Z4 l2 ⟨_,rfl,U5 (Z4 l3 ⟨_,rfl,ah l,aF ..,Qd,?_⟩ I.1 I.2)⟩ G.1 G.2)) n.1 n.2)));rw[fL,show((ah l).drop (s o).1).take ((s o).2-(s o).1)=ah ((vc (s o).1).take ((s o).2-(s o).1))from by simp[ah,o_,List.map_take]];walk_at"aW";generalize(vc (s o).1).take ((s o).2-(s o).1)=seg at T;walk_at"aX";walk_at"aY";clear l2 l3 p;refine⟨ah seg,λj i=>aJ "line" (.str (seg.getD j "")) i,b1,rfl,rfl,⟨rfl,?_⟩,Tt _,λP6 Q j q hm=>?_,λP7 P8 P9 j q D E w t F hm g c f=>?_,λD E w t g c f=>?_⟩;.simp[ah]
      . obtain⟨x,hx,rfl⟩:∃x,seg[j]?=Zak/\q=.str x:=by
          walk_at"b";simp only[ah,Zy,Option.map_eq_some_iff]at hm;obtain⟨x,hx,e⟩:=hm;exact⟨x,hx,hQ⟩
        have hg:seg.getD j ""=x:=by rw[Z0,hx];rfl
        simp only[hg];exact UQ PR
      . rw[g.1,g.2];walk_at"v";obtain⟨x,hx,rfl⟩:∃x,seg[j]?=Zak/\q=.str x:=by
          walk_at"b";simp only[ah,Zy,Option.map_eq_some_iff]at hm;obtain⟨x,hx,e⟩:=hm;exact⟨x,hx,hQ⟩
        have hg:seg.getD j ""=x:=by rw[Z0,hx];rfl
        obtain⟨Qe,Qf⟩:=ZN hx;walk_at"Z";have Qg:seg.drop j=x::seg.drop (j+1):=by rw[Xz Qe,Qf]
        obtain⟨Qh,Qi⟩:=FL t4 (P4 o (YN r));obtain⟨hd,_⟩:=c d _ PZ;simp only[hg];walk_at"F";rw[Qg];refine Sa (I7 F PS rfl (YU (EV.FQ (Z4 (by rw[aB,ZY Z'];exact u) (Z4 (by rw[aB,ZY Z'];exact l1) (exI5 d _ o.1 _ Qh ⟨rfl,rfl,hd,Qi,Z4 (by rw[aB,ZT rfl]) ⟨.str (pH o.1++x),?_,rfl,f,λQG QH Qj he=>Su ⟨_,⟨rfl,rfl⟩,λQI QJ e=>?_,c.yield Qj,he⟩⟩⟩))))) PT PW);.exact dK (by rw[Dl,af];exact a9 0x1fcbe017e5e1 [1000,2,16777216] [_] [] (T x (YN hx)))
        .rw[aB,ZY (by intro Qk;subst Qk;exact ax (y.symm.trans e))];exact e
      .rw[g.1,g.2];rw[az,PO];exact Su (Su ⟨_,⟨rfl,rfl⟩,B,c,f⟩)
    . have C:o.1=skip:=by simpa using h
      walk_at"v";walk_at"v";rw[ZT C];walk_at"aZ";exact Su (Su ⟨_,⟨rfl,rfl⟩,B,c,f⟩)
  .rw[g.1,g.2];rw[Z2,PO];exact P5 E w c f
def si(g:ZbJ):Op:=g.getD 0 default
def o9(g:ZbJ):Op:=g.getD (K5-1) default
def DV(o:Op):U×U:=(o.2.1,o.2.2.1)
def CR(o:Op):U×U:=(o.2.2.2.1,o.2.2.2.2)
def iS(x y:Z)(g:ZbJ):Y0:=(g.map λo=>decide (o.1=x\/o.1=y)).any id
def bY(s a:J Z)(g:ZbJ):J Z:=(("***************")++("\n"))::(("*** ")++aN (si g).2.1 (((o9 g).2.2.1:Zw)-(si g).2.1)++(" ****")++("\n"))::((if iS "replace" "delete" g=true then IP "insert" s DV g else[])++((("--- ")++aN (si g).2.2.2.1 (((o9 g).2.2.2.2:Zw)-(si g).2.2.2.1)++(" ----")++("\n"))::(if iS "replace" "insert" g=true then IP "delete" a CR g else[])))
def iJ(s a:J Z)(g:J ZbJ):J Z:=(if g=[]then[]else[("*** \n"),("--- \n")])++g.flatMap (bY s a)
structure w8(g:ZbJ):Prop where
 ne:g≠[]
 tag:∀o∈g,tF o.1
 a1:(si g).2.1<=(o9 g).2.2.1
 a2:(o9 g).2.2.1<=100000
 b1:(si g).2.2.2.1<=(o9 g).2.2.2.2
 b2:(o9 g).2.2.2.2<=100000
 z:K5<=100000
structure mh(X:Cx)(b:Zcc)extends Lib X b where
 bm:BMod X b
 any:V0 ("any")=none/\Va ("any")=some (.builtin "any")
 c':V0 ("dict")=none/\Va ("dict")=some Zaf
 Md:V0 ("isinstance")=none/\Va ("isinstance")=some ZcQ
 fr:ly X b 6 .none .none
 I9:ly X b 8 .none .none
 fa:Y_
 cc:Y_
 dd:Y_
 pm:ZP
 Ww:ZP
 code:uQ X cc
 fn:hT X fa (cy 7) pm (.ref cc) Ww (.ref dd) .none
 gl:V0 (v_ (cy 7))=some ZaA
 u1:nj
 u2:nj
 u3:nj
 u4:nj
 u5:nj
 u6:nj
 defs:nN X dd [.str "" u1,.str "" u2,.str "" u3,.str "" u4,.int 3 u5,.str "\n" u6]
abbrev mh.env(a:mh X NC)(b:Y_):SM:=W7 (t6 (cy 7) a.pm (.ref a.cc) a.doc (.ref a.dd) .none) b a.fa
abbrev Kr(s a:J Z)(n:U):YS:=[("a",Zal),("b",ZaC),("fromfile",.str ""),("tofile",.str ""),("fromfiledate",.str ""),("tofiledate",.str ""),("n",Zbp),("lineterm",.str "\n")]
abbrev ET(s a:J Z)(n:U)(d:Y_)(st:Y0):YS:=Kr s a n++([("prefix",ZaO),("started",.bool st)]:YS)
abbrev GR(s a:J Z)(n:U)(d:Y_)(g:ZbJ)(o p:Op):YS:=ET s a n d true++([("group",gL g),("last",gz p),("first",gz o)]:YS)
theorem yD(h:a[Zx-1]?=Zaq):bR c (.lst a) (.int (-1))=Zaq:=pP iK h
theorem M4:(dW l ["tag","_","_","_","_"] [a,b,c,d,f]).lookup ("tag")=Zax:=by
 show(aJ "_" f (aJ "_" d (aJ "_" c (aJ "_" b (aJ "tag" a l))))).lookup ("tag")=_;rw[aB,ZY Z',aB,ZY Z',aB,ZY Z',aB,ZY Z',aB,ZT rfl]
theorem xh(c:mh X b)(rm:Rm X m (n+5))(hg:VU ("group")=some (gL a))(k:Nj (iS x i a) E):EB X m (c.env q) (XC (.Call (.Name "any" p0) [.GeneratorExp (.Compare (.Name "tag" p1) [.In] [.Set [.Constant (.str x) r p2,.Constant (.str i) k2 u] 0 F] M) [⟨.Tuple [.Name "tag" T,.Name "_" V,.Name "_" PM,.Name "_" PN,.Name "_" PR] PS PT,.Name "group" PW,[],0⟩] {kind:=.function,WE:=[(".0",.local),("tag",.local),("_",.local)],isGenerator:=true,isCoroutine:=false,SN:=[]} PX] [] PY) (c.env q) (ZG (.Call (.Name "any" p0) [.GeneratorExp (.Compare (.Name "tag" p1) [.In] [.Set [.Constant (.str x) r p2,.Constant (.str i) k2 u] 0 F] M) [⟨.Tuple [.Name "tag" T,.Name "_" V,.Name "_" PM,.Name "_" PN,.Name "_" PR] PS PT,.Name "group" PW,[],0⟩] {kind:=.function,WE:=[(".0",.local),("tag",.local),("_",.local)],isGenerator:=true,isCoroutine:=false,SN:=[]} PX] [] PY) (c.env q))) l E Nj:=by
  refine EB.any b rm (.inr rfl) rfl c.any.1 c.any.2 (λj s S=>?_) k;refine y8 (Qo:=λk l=>dW l ["tag","_","_","_","_"] [.str (Wm k default).1,.int ((Wm k default).2.1),.int ((Wm k default).2.2.1),.int ((Wm k default).2.2.2.1),.int ((Wm k default).2.2.2.2)]) b c.bm c.code rfl (rm.le (O1)) rfl rfl Z' rfl rfl (Z4 hg ⟨rfl,rfl⟩) (λC cc y p t hd=>⟨by simp,rfl,rfl,rfl,rfl,rfl,λA w k z hm=>?_,.inr ⟨t,p,hd⟩,λA k l E j s B D hr hp S=>?_⟩) S (λx=>rfl)
  . rw[Zy]at hm;walk_at"a0";walk_at"a1";obtain⟨o,d,YA⟩:=Y4 hm;rw[<-YA];have f:Wm k default=o:=by rw[Z0,d];rfl
    rw[f];exact(TG.tup w (NB:=[("tag",_),("_",_),("_",_),("_",_),("_",_)]) (by intro G g;simp only[XS,YJ,Vw]at g;rcases g with rfl|rfl|rfl|rfl|rfl<;>exact .inl rfl) rfl).gw
  . simp only[Zy]at hr;obtain⟨_,e,YA⟩:=Y4 hr;rw[<-YA];clear hr;obtain⟨o,d,YA⟩:=Y4 e;rw[<-YA];have f:Wm k default=o:=by rw[Z0,d];rfl
    simp only[f]at S⊢;exact C0 rfl hp hd S M4
set_option backward.match.sparseCases false in def DP:V4->J V4|.For _ _ b _ _=>b|_=>[]
def F2:J V4:=DP (((bI (cy 7))[4]?).getD (.Pass default))
theorem uP:∀f,([]:J Z).contains f=true->XX f=Zaa:=λf a=>by simp at a
theorem lU(h1:j<=c)(h2:c<=100000):(aN j ((c:Zw)-j)).length<=1000:=by
 have:(aN j (c-j)).length<=41:=fb (by unfold S1;exact cF 0x7ffa7d60e98b21165e1 [100000,1099511627776] [_,_] [] h2 h1) (by unfold S1;exact a9 0x1fd3eb08aa61565e1 [100000,1099511627776] [_] [_] h2);exact a9 0x7f2f0e5e1 [41,1000] [_] [] this
theorem uy(x y:J Z):ah (x++y)=ah x++ah y:=ZE
def gtB(s:J Z)(g:ZbJ)(XE:ZaV):ZaV:=ah (if iS "replace" "insert" g=true then IP "delete" s CR g else[])++XE
def L4(o p:Op):MV:=.str (("--- ")++aN o.2.2.2.1 ((p.2.2.2.2:Zw)-o.2.2.2.1)++(" ----")++("\n"))
def Mf(o p:Op):MV:=.str (("*** ")++aN o.2.1 ((p.2.2.1:Zw)-o.2.1)++(" ****")++("\n"))
theorem BS(c:mh X b)(F:ic X m Ni XO (q+6))(g:w8 a)(t:u d=some (pD X t4))(e:ed u E w)(f:Wz w E)(S:Xw<=10000)(T:ZR<=10000)(V:∀x∈i,ZO<=1000)(PM:∀x∈s,ZO<=1000)(y:∀A E w,Od (ET i s n d true) A->ed u E w->Wz w E->NS .next A E w XE):GF X m Nv Ni XO Nk (c.env PN) (Yj (F2.drop 1) (c.env PN)) (ET i s n d true++([("group",gL a)]:YS)) E w (ah (bY i s a)++XE) NS:=by
  walk_at"F";have PR:(ON gz).length<=ZK:=by rw[Z2,af];have:=g.z;(exact O8 this)
  have B:(ON gz)[0]?=some (gz (si a)):=by
    have:=Xi g.ne;rw[Zy,Z6 this];unfold si;rw[Z0,Z6 this];rfl
  have hge:(ON gz)[(ON gz).length-1]?=some (gz (o9 a)):=by
    have:Zx-1<Zx:=by have:=Xi g.ne;(exact Jm this)
    rw[Z2,Zy,Z6 this];unfold o9;rw[Z0,Z6 this];rfl
  refine Ss (gx UP (WE:=["first","last"]) (TO (Zu (Yq (Z4 rfl (X2 ⟨gz (si a),gQ B PR,Zu (Yq (Z4 rfl (EV.neg ⟨gz (o9 a),yD hge,Y6 ⟨?_,_,rfl,rfl,?_⟩⟩)))⟩))))) (by intro C j;simp only[XS,YJ,Vw]at j;rcases j with rfl|rfl<;>exact .inl rfl));.show 2<=ZK;decide
  have H1:=g.a1;have D:=g.a2;have G:=g.b1;have I:=g.b2;have M:=g.tag;clear B hge g;have PS:ah (bY i s a)++XE=.str ("***************"++"\n")::Mf (si a) (o9 a)::(ah (if iS "replace" "delete" a=true then IP "insert" i DV a else[])++(L4 (si a) (o9 a)::gtB s a XE)):=by unfold bY gtB L4 Mf;simp only[ah,Yb,ZE,WO,ZQ]
  rw[PS];generalize si a=o at*;generalize o9 a=p at*;show GF X _ _ _ _ _ _ _ (GR i s n d a o p) _ _ _ _;refine Sa (I7 F rfl rfl (XZ b c.hb F.rm uP Z_ ⟨rfl,f,λE w k f=>?_⟩));have e:=e.yield k;refine Ss (Zk (s_ b rfl c.fr.gl c.fr.fn.get c.fr.fn.nt rfl (Zu (XZ b c.hb F.rm uP Z_ (Zu (XZ b c.hb F.rm uP Z_ (Y6 (xD c.fr.fn b c.hb (n:=q) (F.rm.le (fF 0x660f0c1c1 [6] [_] [])) H1 D ?_))))))) (.inl rfl));refine Sa (I7 F rfl rfl (EV.fmt (Zu (Z4 rfl (Zu (Z4 rfl (Y6 ⟨_,oY.s1 (lU H1 D),rfl,f,λE w k f=>?_⟩)))))));have e:=e.yield k;generalize aN (o.2.1:U) ((p.2.2.1:Zw)-(o.2.1:U))=r;show GF X _ _ _ _ _ _ _ (GR i s n d a o p++([("file1_range",.str r)]:YS)) _ _ _ _;refine Sa ?_;generalize PT:xi _ _ _ _ _ _ _ _ _=PW;have Q:∀E w,ed u E w->Wz w E->PW .next (GR i s n d a o p++([("file1_range",.str r)]:YS)) E w (L4 o p::gtB s a XE):=by
    intro E w e f;subst PT;show GF X _ _ _ _ _ _ _ _ _ _ _ _;refine Ss (Zk (s_ b rfl c.fr.gl c.fr.fn.get c.fr.fn.nt rfl (Zu (XZ b c.hb F.rm uP Z_ (Zu (XZ b c.hb F.rm uP (mv:=.int (p.2.2.2.2:U)) Z_ (Y6 (xD c.fr.fn b c.hb (n:=q) (F.rm.le (fF 0x660f0c1c1 [6] [_] [])) G I ?_))))))) (.inl rfl));refine Sa (I7 F rfl rfl (EV.fmt (Zu (Z4 rfl (Zu (Z4 rfl (Y6 ⟨_,oY.s2 (lU G I),rfl,f,λE w k f=>?_⟩)))))));have e:=e.yield k;generalize aN (o.2.2.2.1:U) ((p.2.2.2.2:Zw)-(o.2.2.2.1:U))=r2;show GF X _ _ _ _ _ _ _ (GR i s n d a o p++([("file1_range",.str r),("file2_range",.str r2)]:YS)) _ _ _ _;refine Sa (a3 (xh c (n:=q) (F.rm.le (fF 0x660f0c1e1 [5,6] [_] [])) rfl ⟨λh=>?_,λh=>Su (Su ?_)⟩));.rw[show gtB s a XE=ah (IP "delete" s CR a)++XE from Zq (λl=>ah l++XE) (ZT h)];refine Sa (qi F (oI:=GR i s n d a o p++([("file1_range",.str r),("file2_range",.str r2)]:YS)) (d:=d) (t4:=t4) (skip:="delete") (l:=s) (s:=CR) (b:=a) (XE:=XE) (NB:=[("tag",_),("_",_),("_",_),("j1",_),("j2",_)]) (a:="b") (N:="j1") (S:="j2") rfl (by intro C j;simp only[XS,YJ,Vw]at j;rcases j with rfl|rfl|rfl|rfl|rfl<;>exact .inl rfl) (.inl rfl) rfl rfl rfl rfl (λO=>rfl) (λO=>rfl) (λO=>rfl) (λO=>rfl) (λO=>rfl) (λO=>av Z_) (λO=>rfl) ⟨by rfl,by rfl⟩ ⟨by rfl,by rfl⟩ ⟨by rfl,by rfl⟩ t e f T PM M λE w e f=>Su (Su (y _ _ _ (av Z_) e f)))
    .rw[show gtB s a XE=XE from Zq (λl=>ah l++XE) (ZY (by rw[h];decide))];exact y _ _ _ Zb1 e f
  refine a3 (xh c (n:=q) (F.rm.le (fF 0x660f0c1e1 [5,6] [_] [])) rfl ⟨λh=>?_,λh=>Su ?_⟩);.rw[ZT h];refine Sa (qi F (oI:=GR i s n d a o p++([("file1_range",.str r)]:YS)) (d:=d) (t4:=t4) (skip:="insert") (l:=i) (s:=DV) (b:=a) (NB:=[("tag",_),("i1",_),("i2",_),("_",_),("_",_)]) (a:="a") (N:="i1") (S:="i2") rfl (by intro C j;simp only[XS,YJ,Vw]at j;rcases j with rfl|rfl|rfl|rfl|rfl<;>exact .inl rfl) (.inl rfl) rfl rfl rfl rfl (λO=>rfl) (λO=>rfl) (λO=>rfl) (λO=>rfl) (λO=>rfl) (λO=>av Z_) (λO=>rfl) ⟨by rfl,by rfl⟩ ⟨by rfl,by rfl⟩ ⟨by rfl,by rfl⟩ t e f S V M λE w e f=>Su (Q E w e f))
  .rw[ZY (by rw[h];decide)];exact Q E w e f
theorem Fk(i:mh X b)(B:ic X m Ni XO (k+13))(f:Wz w E)(C:ZR<=1000)(D:YZ<=1000)(PW:∀x∈s,ZO<=1000)(PX:∀x∈c,ZO<=1000)(hB:(dH s c).length<64)(hG:∀g∈eY n s c,w8 g)(T:PY=ah (iJ s c (eY n s c))):GF X m Nv Ni XO Nk (i.env PZ) (Yj (bI (cy 7)) (i.env PZ)) (Kr s c n) E w PY λo O P0 P2 P4=>(o=.next\/o=.ret .none)/\P4=[]/\Wz P2 P0:=by
  walk_at"Y";refine Ss (IY ?_);refine Ss (VK (s_ b rfl i.I9.gl i.I9.fn.get i.I9.fn.nt rfl (Zu (Z4 rfl (Zu (Z4 rfl (Zu (Z4 rfl (Zu (Z4 rfl (Zu (Z4 rfl (Zu (Z4 rfl (Zu (Z4 rfl (Y6 (wY i.I9.fn i.hb i.Md (PT:=k) (B.rm.le (fF 0x660f0c1c1 [13] [_] [])) _ _ _ _ _ (YW C Z') (YW D Z') ⟨rfl,?_⟩))))))))))))))))));refine Ss (Zk (EV.F7 b rfl i.dict λd t1 t2 t3 t4 hd=>?_) (.inl rfl));refine Ss (Zk (EV.Cr ?_) (.inl rfl));have V:=f.none hd;show GF X _ _ _ _ _ _ _ (ET s c n d false) (Y8 E d (pD X (t1,t2,t3,t4))) _ _ _;have gd:Y8 E d (pD X (t1,t2,t3,t4)) d=some (pD X (t1,t2,t3,t4)):=aa ..;have y:Wz w (Y8 E d (pD X (t1,t2,t3,t4))):=f.upd V;generalize Y8 E d (pD X (t1,t2,t3,t4))=P5 at gd y;generalize P6:eY n s c=p at hG T;refine Sa (GF.Fw b (P0:=.ok (.ret .none)) (.inl rfl) B (Y8 (λO=>none) d (pD X (t1,t2,t3,t4))) (λk l t=>l=ET s c n d (decide (0<k))/\t=ah ((if k=0/\p≠[]then[("*** \n"),"--- \n"]else[])++(p.drop k).flatMap (bY s c))) (p.map gL) (λk l=>aJ "group" (gL (hE k [])) l) (λQf Qg S=>?_) (Qm:=ET s c n d false) ⟨rfl,?_⟩ (Tt _) (λQh Qi k P7 hm=>?_) (λQj Qk Ql P8 u P7 l E w t F hm z P9 r f=>?_) (λl E w t z r f=>?_))
  . refine ZS (CJ i.toLib (j:=k) (B.rm.le (fF 0x660f0c1e1 [6,13] [_] [])) rfl rfl rfl rfl C D hB S) (λQm Qn q=>?_) λO O q=>q;clear S;obtain⟨Qa,Qb,Qc,ga,g,st,le,PM,rfl,ex,at_,Qd,self,new,fr,live⟩:=q;rw[P6]at live;have G:∀a,P5 a=none->a≠d:=λa e=>by intro I;subst I;rw[gd]at e;cases e
    refine⟨Qa,Qb,ga,g,st,Qc,le,PM,rfl,⟨at_,Qd,self,by rw[ag (G _ new)],λa o e=>by rw[ag (G _ (fr a o e))],live⟩,y.none new,λa o e=>y.none (fr a o e),λa o e=>?_,y.trans ex⟩;clear PM G;refine eJ e ?_ ax;exact⟨ex _ _ gd,V⟩
  . rw[T];unfold iJ;by_cases e:p=[];.rw[ZT e,ZY (λh=>h.2 e),Ur]
    .rw[ZY e,ZT ⟨rfl,e⟩,Ur]
  . rw[Zy]at hm;obtain⟨g,hg,rfl⟩:=Y4 hm;have e:hE k []=g:=by rw[Z0,hg];rfl
    simp only[e];exact UQ (.inl rfl)
  . obtain⟨rfl,rfl⟩:=z;rw[Zy]at hm;obtain⟨g,hg,rfl⟩:=Y4 hm;clear hm;have e:hE u []=g:=by rw[Z0,hg];rfl
    obtain⟨M,PN⟩:=ZN hg;have PR:p.drop u=g::p.drop (u+1):=by rw[Xz M,PN]
    simp only[e];rw[PR];refine Sa ?_;generalize Qe:xi _ _ _ _ _ _ _ _ _=PS;have PT:∀A E w,Od (ET s c n d true++([("group",gL g)]:YS)) A->ed P8 E w->Wz w E->PS .next A E w (ah (bY s c g)++ah ((p.drop (u+1)).flatMap (bY s c))):=by
      intro A E w hs r f;subst Qe;show GF X _ _ _ _ _ _ _ _ _ _ _ _;refine GF.eE hs (BS i F (hG g (YN hg)) (P9 d _ (aa ..)) r f (JR C) (JR D) PW PX λA E w hs r f=>⟨ET s c n d true,⟨?_,?_⟩,hs,r,f⟩);.rw[Yr (js u)]
      .rw[ZY (λh=>by cases h.1),Yh]at⊢
    clear e PN PR;refine a3 (S2 b i.hb F.rm uP (c:=!decide (0<u)) Z_ ⟨λh=>?_,λh=>Su ?_⟩)
    . have N:u=0:=by simpa using h
      subst N;rw[ZT ⟨rfl,λq=>by rw[q]at M;cases M⟩];refine Ss (Zk (EV.Cr ?_) (.inl rfl));refine Ss (Zk (XZ b i.hb F.rm uP (mv:=.str "") Z_ ?_) (.inl rfl));refine Ss (Zk (XZ b i.hb F.rm uP (mv:=.str "") Z_ ?_) (.inl rfl));refine Sa (I7 F rfl rfl (EV.fmt (Zu (Z4 rfl (Zu (Z4 rfl (Zu (Z4 rfl (Y6 ⟨_,oY.h1,rfl,f,λE w Q f=>?_⟩)))))))));have r:=r.yield Q;refine Sa (I7 F rfl rfl (EV.fmt (Zu (Z4 rfl (Zu (Z4 rfl (Zu (Z4 rfl (Y6 ⟨_,oY.h2,rfl,f,λE w Q f=>?_⟩)))))))));have r:=r.yield Q;refine Su ?_;show PS .next _ E w (ah (bY s c g++(p.drop (0+1)).flatMap (bY s c)));rw[uy];exact PT _ _ _ Zb1 r f
    . have N:0<u:=by simpa using h
      rw[ZY (λq=>by omega),Yh,uy,Yr N];exact PT _ _ _ Zb1 r f
  . rw[z.1,z.2];refine Su ⟨.inl rfl,?_,f⟩;rw[Z2,PO,ZY];.rfl
    .intro I;obtain⟨h1,h2⟩:=I;exact h2 (OF h1)
def F1(a:mh X NC):C':=t6 (cy 7) a.pm (.ref a.cc) a.doc (.ref a.dd) .none
structure zI(n:U)(s a:J Z):Prop where
 z1:ZR<=1000
 z2:Zx<=1000
 l1:∀x∈s,ZO<=1000
 l2:∀x∈a,ZO<=1000
 hB:(dH s a).length<64
 hG:∀g∈eY n s a,w8 g
theorem xP(c:mh X b)(rm:Rm X m 1)(j:zI n s i)(B:Zab)(r:ao y [Zal,Zbd] q)(C:ao y F u)(hb:∀(pm cd Ww d:ZP)(u1 u2 u3 u4 u5 u6:nj)y q u,ao y [Zal,Zbd] q->ao y F u->∃k p,S7 (t6 (cy 7) pm cd Ww d .none) ⟨q,t.zip u⟩=M_ d>>=k/\k (some [ri "" u1,.str "" u2,.str "" u3,.str "" u4,.int 3 u5,.str "\n" u6].toArray)=Ye ([("a"),"b","fromfile","tofile","fromfiledate","tofiledate","n","lineterm"].zip p)/\ao y [Zal,Zbd,.str "",.str "",.str "",.str "",Zbp,.str "\n"] p):ZU YH m (VQ (.ref c.fa) q (t.zip u)) (jP X (.ok (.ret .none)) (k+14) A o E (ah (iJ s i (eY n s i))) y) bz G:=by
  walk_at"a";obtain⟨PZ,l,D,OB⟩:=B.kG;refine Wa ?_;refine uH b (a:=F1 c) (PR:=[Zal,Zbd,.str "",.str "",.str "",.str "",Zbp,.str "\n"]) ["a","b","fromfile","tofile","fromfiledate","tofiledate","n","lineterm"] c.fn.get c.fn.nt rfl c.fn.rX c.fn.nc rfl rfl rfl rfl (Cu c.defs rfl (hb _ _ _ _ _ _ _ _ _ _)) Z' (λI hy=>?_) w2 D (Uv l) (C.mono l) λN ga g Q T ob a S w x z f=>?_
  . revert I;repeat(refine cn (by rfl) ?_)
    exact jK
  obtain⟨V,PM,PN,PR,_⟩:=OB Q _ T a S;clear S;refine⟨V,_,Y8 (λO=>none) N (.own (.=ob)),ga,g,_,PM,PN,rfl,((I8 E).upd w).upd x,aa ..,λPS PT e=>?_,?_,x,λPS PT e=>?_,λP0 PW=>?_⟩;.exact eJ e ((ag z).trans (aa ..)) ax
  .rw[ag (Zh z)]
  .exact eJ e w ax
  .refine gB.mono ?_ PR;exact gB.start (n:=k+13) (o:=Kr s i n) (PW.gen _ _) rfl rfl rfl rfl rfl f λP2 P4 P5 PX PY=>Fk c (k:=k) PY PX j.z1 j.z2 j.l1 j.l2 j.hB j.hG rfl
theorem jP.le(h:jP X r n A o E i y a G)(k:bG b y):jP X r n A o E i b a G:=by
 obtain⟨c,d,e,ga,g,st,le,q,q2,q3,q4,q5,f,j,l,m⟩:=h;exact⟨c,d,e,ga,g,st,m' le,q,q2,q3,q4,q5,f,j,l,m⟩
theorem EV.uW(b:Zcc)(d:r=.ok (.ret .none)\/r=.ok .next)(rm:Rm X m (n+4))(e:XX "list"=Zaa)(hl:V0 "list"=none/\Va "list"=some Zae)(h:∀y G,Zab->ZU YH m ZcH (jP X r n A o E i y) bz G)(f:Xw<=ZK)(k:g (.lst i) E)(he:Z3 (Zr [c] A=(false,ZcH)::ZbB) aR):EV X m A (ZG (.Call (.Name "list" F) [c] [] Yl) A) o E g:=EV.Eo b (n:=n) rm d e hl.1 hl.2 (λy G S=>ZS ZcU (λD s q=>by
  walk_at"b";obtain⟨j,l,p,ga,t,st,le,u,q2,q3,q4,q5,w,x,z,B⟩:=q;exact⟨j,l,ga,t,st,p,le,u,q2,⟨q4,q5,w,x,λa C c=>z a C c,B⟩,q3⟩) λO O q=>q) f k he
theorem CD(c:mh X b)(rm:Rm X m 1)(n:zI 3 s d)(p:XX "context_diff"=Zaa)(h:EA X m A [e1,e2] o E λi f=>i=[Zal,.lst (ah d)]/\f=E)(he:Zr [e1,e2] A=(false,ZG e1 A)::Zr [e2] A)(S:Zab):ZU YH m (ZG (.Call (.Name "context_diff" F) [e1,e2] [] Yl) A) (jP X (.ok (.ret .none)) (T+14) A o E (ah (iJ s d (eY 3 s d))) y) bz G:=by
 walk_at"a";refine sL ?_ rfl;refine(mi (g:=λu f=>u=.raw (.ref c.fa)/\f=E) b p c.gl ⟨rfl,rfl⟩ (by rfl)).use S λD I N mv Q a w j k=>?_;clear S;obtain⟨rfl,rfl⟩:=k;rw[w.raw];refine callWith_def rfl ((h Yl).use j λV PM x i PN z B l C=>⟨l.g.base c.fa _ c.fn.get c.fn.nt,?_⟩) he;clear j h;obtain⟨rfl,rfl⟩:=C;refine ZS (xP c rm n (t:=[]) l B .nil λpm cd Ww PR u1 u2 u3 u4 u5 u6 y x PS r PT=>?_) (λO O q=>l' (Xb z)) λO O q=>q;refine rep2 r λv1 v2 e=>?_;subst e;exact xc [v1,v2,.str "" u1,.str "" u2,.str "" u3,.str "" u4,.int 3 u5,.str "\n" u6] rfl (r.append (.cons (bp ..) (.cons (bp ..) (.cons (bp ..) (.cons (bp ..) (.cons (a0 ..) (.one (bp ..))))))))
theorem A0(c:mh X b)(rm:Rm X m 1)(x:zI n s f)(z:XX "context_diff"=Zaa)(h:EA X m A [e1,e2] o E λj d=>j=[Zal,ZbY]/\d=E)(he:Zr [e1,e2] A=(false,ZG e1 A)::Zr [e2] A)(hx:Ys ("n")=some Zbp)(S:Zab):ZU YH m (ZG (.Call (.Name "context_diff" PN) [e1,e2] [⟨some "n",.Name "n" q,PR⟩] Yl) A) (jP X (.ok (.ret .none)) (PS+14) A o E (ah (iJ s f (eY n s f))) y) bz G:=by
 walk_at"a";refine wpAny_Call_Name_kw ?_;refine(mi (g:=λi d=>i=.raw (.ref c.fa)/\d=E) b z c.gl ⟨rfl,rfl⟩ (by rfl)).use S λPT PW PX mv PY B C D k=>?_;clear S;obtain⟨rfl,rfl⟩:=k;rw[C.raw];have l:=(h Yl);rw[he]at l⊢;refine callWith_function_kw (o:={Uc:=Zap,Xg:=.func (F1 c)}) (fd:=F1 c) ?_;walk_at"a";clear h;refine evalArgs_kw rfl ?_;refine l.use D λPZ P0 F j P2 I N Q T=>?_;walk_at"a";obtain⟨rfl,rfl⟩:=T;refine Z7 (Z7 ((Z4 (g:=λi d=>i=Zbp/\d=_) hx ⟨rfl,rfl⟩).use Q λP4 P5 w P6 P7 a V p PM=>?_));walk_at"a";obtain⟨rfl,rfl⟩:=PM;refine Z7 (Yo (Z5 (Z7 (ZF (Z5 (Z5 ⟨⟨p.g.base c.fa _ c.fn.get c.fn.nt,rfl⟩,?_⟩))))));refine ZS (xP c rm x (t:=["n"]) p (N.mono a) (.one V) λpm cd Ww P8 u1 u2 u3 u4 u5 u6 y F P9 r u=>?_) (λO O q=>l' ((B.trans I).trans a)) λO O q=>q;refine rep2 r λv1 v2 e=>?_;subst e;refine rep1 u λw e=>?_;subst e;exact⟨_,[v1,v2,.str "" u1,.str "" u2,.str "" u3,.str "" u4,w,.str "\n" u6],rfl,rfl,r.append (.cons (bp ..) (.cons (bp ..) (.cons (bp ..) (.cons (bp ..) (u.append (.one (bp ..)))))))⟩
abbrev Xe:=J (Z×Z)
def comes(w:Xe):Xe:=w.foldr (λn k=>if n.1≠(" ")then(("+"),n.2)::k else((" "),n.2)::k) []
def DT(o:Z×Z)(r:Xe->Xe)(w:Xe):Xe:=td (motive:=λO=>Xe) (((" "),o.2)::r []) (λn ns k=>if n.1≠(" ")then(("+"),n.2)::k else((" "),o.2)::r ns) w
def UL(l:Xe):Xe->Xe:=VH (λo k w=>if o.1≠(" ")then(("-"),o.2)::k w else DT o k w) comes
theorem xA(hx:x.1≠(" "))(os w:Xe):UL (x::os) w=(("-"),x.2)::UL os w:=ZT hx
variable{NV:Xe}
theorem xH(hy:a.1≠(" "))(b:∀x os,NV=x::os->x.1=" ")(w:Xe):UL NV (a::w)=(("+"),a.2)::UL NV w:=by cases NV with
 |Yk=>exact ZT hy|Zp x os=>
  have ne:=F_ (b x os rfl);exact(ZY ne).trans ((ZT hy).trans (Zq _ (ZY ne).symm))
theorem xE{o:Xe}(e:o++a=c::NV)(b:∀x os,o=x::os->x.1=" ")(hw:∀x os,a=x::os->x.1=" "):UL o a=((" "),c.2)::UL (o.drop 1) (IL 1):=by cases o with
 |Yk=>cases a with
  |Yk=>cases e|Zp y w=>
   walk_at"j";cases e;exact ZY (F_ (hw _ _ rfl))
 |Zp x os=>
  cases e;cases a with|Yk=>exact ZY (F_ (b _ _ rfl))|Zp y w=>exact(ZY (F_ (b _ _ rfl))).trans (ZY (F_ (hw _ _ rfl)))
abbrev eO:J V4:=bI ((bI (cy 15)).getD 4 (.Pass default))
abbrev GA(t f pt:MV)(r:Y_)(h st k e b c:MV)(o w:Xe)(p:MV):YS:=[("text",t),("first",f),("parts",pt),("rows",Zb0),("here",h),("stars",st),("k",k),("end",e),("body",b),("cut",c),("olds",aS o),("news",aS w),("places",p)]
theorem rF(G:GH)(x:MV)(a:ZaV):bR G (.lst (x::a)) (.int 0)=Zak:=kf iK Z' (Zq (Option.bind . _) (jU (js _)))
theorem hY(G:GH)(r:Z×Z)(rs:Xe):bR G (.lst (aO r::hR aO)) (.int 0)=some (aO r):=rF ..
theorem zh(G:GH)(r:Z×Z):bR G (aO r) (.int 0)=some (.str r.1):=rfl
theorem kO(G:GH)(r:Z×Z):bR G (aO r) (.int 1)=some (.str r.2):=rfl
abbrev JF:J V4:=bI (eO.getD 9 (.Pass default))
theorem SE(h:EF X m YX (TP Nw YX) o E D):EF X m YX (Yj [Nw] YX) o E D:=ZJ (WT λa O O k=>match a with|.next=>YV k|.brk=>k|.cont=>k|.ret _=>k)
abbrev bW(pm cd Ww:ZP)(a fa:Y_):SM:=W7 (t6 (cy 15) pm cd Ww .none .none) a fa
theorem EV.Jz(hx:Ys x=some (aS NV))(a:NV.length<=ZK)(k:g (aS (NV.drop 1)) E)(hn:Z3 ((x=="__classdict__")=false) aD)(hd:Z3 ((x=="__debug__")=false) aD):EV X m YX (ZG (.Subscript (.Name x b) (.Slice (some (.Constant (.int 1) k0 p1)) none none p2) c) YX) o E g:=t_ (Z4 hx (U5 (X2 ⟨(1:U),rfl,SU ⟨_,aF ..,by rw[Z2];exact a,by rw[eN,<-o_];exact k⟩⟩)) hn hd)
theorem EB.GQ(rm:Za2)(hx:Ys x=some (aS NV))(h1:∀r rs,NV=r::rs->r.1≠" "->Nj true E)(h2:(∀r rs,NV=r::rs->r.1=" ")->Nj false E)(hn:Z3 ((x=="__classdict__")=false) aD)(hd:Z3 ((x=="__debug__")=false) aD):EB X m YX (XC (.BoolOp .And [.Compare (.Name x p1) [.NotEq] [.List [] p2] a,.Compare (.Subscript (.Subscript (.Name x b) (.Constant (.int 0) k c) d) (.Constant (.int 0) k2 f) i) [.NotEq] [.Constant (.str " ") l s] u] Np) YX Us) o E Nj:=by cases NV with|Yk=>exact VT (EB.JE rm hx (bO ..) ⟨λh=>(nomatch h),λO=>h2 λr rs h=>(nomatch h)⟩ hn hd)|Zp r rs=>exact VT (EB.JE rm hx (bO ..) ⟨λO=>VT (XA rm (Yq (Yq (Z4 hx (X2 ⟨_,hY ..,X2 ⟨_,zh ..,Wc ⟨!(r.1==" "),rfl,⟨λe=>t' (h1 r rs rfl (p8 e)),λe=>h2 λg j q=>(List.cons.inj q).1▸eq_of_beq ((Bool.not_not _).symm.trans (Zq (!.) e))⟩⟩⟩⟩) hn hd))) (by with_unfolding_all rfl)),λh=>(nomatch h)⟩ hn hd)
variable{N8:MV}
theorem vZ(PM:Zcc)(hb:RX PM)(rm:Rm X m P0)(hr:E r=some (.list (hR aO)))(PN:Zd+n.length+ZR<=100000)(C:D .next (GA u f pt r h N8 k i b c [] [] F) (Y8 E r (.list ((rs++UL n s).map aO)))):EF X m (bW pm cd Ww M fa) (Yj (vb 9) (bW pm cd Ww M fa)) (GA u f pt r h N8 k i b c n s F) E D:=by
  have PR:E=Y8 E r (.list (hR aO)):=funext λPS=>by
    clear C;by_cases i:PS=r;.subst i;rw[hr,aa]
    .rw[ag i]
  refine ZJ (EF.ro (λI l G=>∃a o w,I=j_+w.length/\l=GA u f pt r h N8 k i b c o w F/\G=Y8 E r (.list (ON aO))/\a++UL o w=rs++UL n s/\Zx+j_+w.length<=100000) (n.length+ZR) (q:=GA u f pt r h N8 k i b c n s F) (exI3 rs n s ⟨rfl,rfl,PR,rfl,PN⟩) ?_ ?_);.exact av Z_
  intro I l G PT;obtain⟨a,o,w,rfl,rfl,rfl,hm,bj⟩:=PT;walk_at"a2";have e1:(o++w).length<=ZK:=by rw[Z1,af];exact a9 0x1fcbe03165f01c041 [100000,16777216] [_,_,_] [] bj
  have e2:(ON aO).length<=ZK:=by rw[Z2,af];exact a9 0x7f2f0e5f01c041 [100000,16777216] [_,_,_] [] bj
  have app:∀d,Y8 (Y8 E r (.list (ON aO))) r (.list (ON aO++[aO d]))=Y8 E r (.list ((a++[d]).map aO)):=λd=>by rw[aQ,ZE];rfl
  have t:∀E,uw E .Add (aS o) (aS w)=some (aS (o++w)):=λE=>(gA (aF ..) (aF ..) (by rw[Z2,Z2,<-Z1];exact e1)).trans (Zq (λz=>some (MV.lst z)) List.map_append.symm);have A:=YW (by rw[Z1];exact WN _ _) e1;have B:=YW (by rw[Z1];exact Nat.le_add_left _ _) e1;have Q:M<M+3:=Xh Z';refine XA rm (YU (Z4 rfl (Z4 rfl ⟨_,t _,UA (Y6 ⟨by decide,!((o++w).map aO).isEmpty,Zq (U8 (!.)) (bO ..),λp=>?_,λp=>?_⟩)⟩)));rotate_left;.obtain⟨PW,q2⟩:=Xy (wb p);clear e1 t A B p;subst PW;subst q2;rw[show UL [] []=[]from rfl,Zn]at hm;subst hm;exact YV C
  generalize PX:LI _ _ _=PY;have N:∀d g j,UL o w=d::UL g j->K5+j.length<j_+w.length->PY .next (GA u f pt r h N8 k i b c g j F) (Y8 E r (.list ((a++[d]).map aO))):=λd g j PZ S=>by
    subst PX;refine⟨_,_,S,(Vs (a++[d]) g ⟨j,rfl,rfl,rfl,by rw[<-hm,PZ];simp,by simp only[Z1,YY];(exact bw 0x1ffe490340b07075018a062e4901c041 [_,_,_,_,_,_] bj S)⟩),?_⟩;exact av Z_
  refine SE (XD (EB.GQ rm rfl (λx os q hx=>⟨λO=>?_,λh=>nomatch h⟩) λT=>⟨λh=>(nomatch h),λO=>SE (XD (EB.GQ rm rfl (λy V q hy=>⟨λO=>?_,λh=>nomatch h⟩) λhw=>⟨λh=>(nomatch h),λO=>?_⟩))⟩));.subst q;refine ZJ (VK (W4 (Z4 rfl ⟨r,_,rfl,aa ..,TO (Zu (Wc (Zu (Yq (Yq (Z4 rfl (X2 ⟨_,hY ..,X2 ⟨_,kO ..,Y6 ⟨x9,_,aa ..,e2,rfl,?_⟩⟩⟩)))))))⟩)));rw[app ("-",x.2)];exact ZJ (Zk (EV.Jz rfl A (YV (N ("-",x.2) os w (xA hx os w) (by simp only[YE];exact cY 0x1a80a0e0c041 [_,_])))) (.inr ⟨rfl,_,rfl,Q⟩))
  .subst q;refine ZJ (VK (W4 (Z4 rfl ⟨r,_,rfl,aa ..,TO (Zu (Wc (Zu (Yq (Yq (Z4 rfl (X2 ⟨_,hY ..,X2 ⟨_,kO ..,Y6 ⟨x9,_,aa ..,e2,rfl,?_⟩⟩⟩)))))))⟩)));rw[app ("+",y.2)];exact ZJ (Zk (EV.Jz rfl B (YV (N ("+",y.2) o V (xH hy T V) (by simp only[YE];exact cY 0x1a841c20c041 [_,_])))) (.inl rfl))
  . refine v9 (o++w) (λe=>?_) λz zs e=>?_;.exact Zc e (JT p)
    .refine ZJ (VK (W4 (Z4 rfl ⟨r,_,rfl,aa ..,TO (Zu (Wc (Zu (Yq (Yq (YU (Z4 rfl (Z4 rfl ⟨_,t _,X2 ⟨aO z,by rw[e];exact hY ..,X2 ⟨_,kO ..,Y6 ⟨x9,_,aa ..,e2,rfl,?_⟩⟩⟩⟩))))))))⟩)));rw[app (" ",z.2)];refine ZJ (sq (TO (Zu (EV.Jz rfl A (Zu (EV.Jz rfl B (Y6 ⟨x9,CL YO (.inr ⟨rfl,_,rfl,Q⟩) (.inl rfl) (YV (N (" ",z.2) (o.drop 1) (w.drop 1) (xE e T hw) ?_))⟩)))))));rw[Ze,Ze];have:=Zq Sr e;rw[Z1,YE]at this;(exact aV 0x7f501061170a2e0ee0e1c041 [_,_,_] this)
def ry(x:Z):Y0:=eT x none (some 3)==("---")
def cz(x:Z):Z×Z:=(eT x none (some 1),eT x (some 2) none++("\n"))
theorem fV(b:c<n)(hp:a c=true)(hn:∀i<c,a i=false):∃XE,(Zi n).filter a=c::XE:=by
 obtain⟨m,rfl⟩:∃m,n=c+(m+1):=⟨n-c-1,by exact aV 0x7f7083a2e8844116841 [_,_] b⟩;rw[List.range_add,VM,List.filter_eq_nil_iff.mpr (λi d=>by rw[hn i (WY d)];decide),Yh,Sf,Yb,List.filter_cons,ZT (by exact hp)];exact⟨_,rfl⟩
theorem k7(hx:x[j]?=Zax)(b:ZO<=1000000):bR c (.lst (ah x)) Zb5=some (.str a):=ti iK (by unfold ah;rw[Zy,hx];rfl) (by rw[az];exact YW b Z')
abbrev Mu(t f:MV)(p:J Z)(r:Y_)(h st:MV)(k e:U):YS:=[("text",t),("first",f),("parts",.lst (ah p)),("rows",Zb0),("here",h),("stars",st),("k",Za0),("end",.int e)]
abbrev Mw(t f:MV)(p:J Z)(r:Y_)(h st:MV)(k e:U)(B:J Z)(c:U):YS:=[("text",t),("first",f),("parts",.lst (ah p)),("rows",Zb0),("here",h),("stars",st),("k",Za0),("end",.int e),("body",.lst (ah B)),("cut",ZcS)]
theorem B1(j:c6 X b)(hb:ZcX)(rm:Za2)(g:(IL (k+1)).take (c-(k+1))=hd::(t++d::ns))(o:Zx<=100000)(hl:∀x∈a,ZO<=1000)(y:∀x∈hd::t,ry x=false)(z:ry d=true)(A:EF X m ZaY (Yj (vb 2) ZaY) (Mw F f a r h N8 k c (hd::(t++d::ns)) (YF+1)) E D):EF X m ZaY (Yj eO (bW pm cd Ww s fa)) (Mu F f a r h N8 k c) E D:=by
  walk_at"d";have hg:∀x,[("len")].contains x=true->(bW pm cd Ww s fa).kindOf x=Zaa:=by
    intro x hx;simp only[Ws,VG,TR,V7]at hx;rw[hx];rfl
  refine ZJ (Zk (t_ (XZ b hb rm hg (mv:=ZaC) Z_ (U5 (XZ b hb rm hg (mv:=.int ((k+1))) Z_ ⟨_,rfl,U5 (XZ b hb rm hg (mv:=ZcS) Z_ ⟨_,rfl,_,aF ..,?_,?_⟩)⟩)))) (.inr ⟨rfl,_,rfl,(Xh (by decide:0<2))⟩));.rw[az,af];exact O8 o
  have I:∀x∈hd::(t++d::ns),x∈a:=λx hx=>by
    rw[<-g]at hx;exact UM (OG hx)
  have e:(hd::(t++d::ns)).length<=100000:=by rw[<-g,Zo,Ze];exact aV 0x7f22b44811e441 [_,_,_,_] o
  rw[fL,show((ah a).drop (k+1)).take (c-(k+1))=ah ((IL (k+1)).take (c-(k+1)))by simp only[ah,o_,List.map_take],g];generalize hB:hd::(t++d::ns)=B at*;refine ZJ (Zk (Yq ?_) (.inl rfl));walk_at"a3";refine p5 [("body",.lst (ah B))] (Zi B.length) (λi=>.int i) (λi l=>aJ "i" ZaN l) (λi=>ry (B.getD i "")) (λi=>.int i) ⟨rfl,rfl,?_,?_,?_,?_⟩ (gr.qK YO b hb rfl j.AZ.1 j.AZ.2 (r4 b hb rm rfl (eA ..) (by rw[af];exact O8 e) ⟨_,rfl,?_,?_⟩));.decide
  .decide
  .intro q hq;rcases ZD hq with rfl;rfl
  .intro q hq;rcases ZD hq with rfl;exact(andI4 rfl (by show some S0≠some Um;decide) (.inl rfl) rfl)
  .exact a9 0x1fd3eb30e5e1 [100000,1099511627776] [_] [] e
  refine⟨by simp,λi x hx=>?_,⟨?_,λC x hx=>UQ (.inl rfl),λx hx=>?_,λC G x hx hG=>?_⟩,?_⟩;.rw[Vu (by have:=(ZN hx).1;simpa using this)]at hx;obtain rfl:=ZW hx;rfl
  .rw[WX,af];exact O8 e
  .exact av Z_
  . have p:=WY hx;walk_at"a4";have u:=Z6 p;have M:B.getD x ""=B[x]:=by rw[Z0,u];rfl
    rw[M];refine Gp (XA rm (EV.wB (Yq (Z4 rfl (Z4 rfl ⟨.str B[x],k7 u (a9 0x7f2f0e5e1 [100000,1000000] [_] [] e),SU (U5 (X2 ⟨_,rfl,_,rfl,?_,Wc ⟨_,rfl,rfl,rfl,λO=>?_⟩⟩))⟩)))));.have:=hl _ (I B[x] (Uq p));rw[af];exact Gn this
    .exact Z4 rfl ⟨rfl,rfl⟩
  obtain⟨XE,N⟩:=fV (a:=λi=>ry (B.getD i "")) (n:=B.length) (c:=YF+1) (by rw[<-hB];simp) (by rw[<-hB];simp[z]) (λi w=>by
    have:B.getD i ""∈hd::t:=by
      rw[<-hB,<-WO,Z0,UZ (by simpa using w),Z6 (by simpa using w)];exact Uq _
    exact y _ this);rw[N,Yb];exact X2 ⟨.int ((YF+1:U)),rF ..,A⟩
abbrev Jp(t f:MV)(p:J Z)(r:Y_)(h st:MV)(k e:U)(B:J Z)(c:U)(o w:Xe):YS:=[("text",t),("first",f),("parts",.lst (ah p)),("rows",Zb0),("here",h),("stars",st),("k",Za0),("end",.int e),("body",.lst (ah B)),("cut",ZcS),("olds",aS o),("news",aS w)]
def SD(o w:Xe):Xe:=if o=[]then w.filter (λr=>r.1==(" "))else o
theorem qw(x:Z)(lo a:Zs Zw):(eT x lo a).length<=ZO:=uk x lo a
theorem sG(hb:RX NC)(rm:Za2)(hx:ZO<=1000)(k:g (aO (cz x)) E):EV X m YX (ZG (.Tuple [.Subscript (.Name "part" p1) (.Slice none (some (.Constant (.int 1) j1 p2)) none a) b,.BinOp (.Subscript (.Name "part" c) (.Slice (some (.Constant (.int 2) d f)) none none i) l) .Add (.Constant (.str "\n") q r) s] u F) YX) (aJ "part" (.str x) []) E g:=by
 refine TO (Zu (EV.wB (Z4 rfl (SU (U5 (X2 ⟨_,rfl,_,rfl,?_,?_⟩))))));.rw[af];exact Gn hx
 refine Zu (YU (EV.wB (Z4 rfl (U5 (X2 ⟨_,rfl,SU ⟨_,rfl,?_,?_⟩⟩)))));.rw[af];exact Gn hx
 refine Wc ⟨.str (eT x (some 2) none++"\n"),?_,Y6 ⟨(by decide:2<=ZK),k⟩⟩;have:=qw x (some 2) none;exact dK (by rw[(rfl:"\n".length=1),af];exact cF 0x1ffe5f070b21165e1 [1000,16777216] [_,_] [] hx this)
theorem zJ(p:c6 X b)(hb:ZcX)(rm:Za2)(g:YF+ns.length<=100000)(hl:∀x∈t++ns,ZO<=1000)(j:EF X m Zcj (Yj (vb 4) Zcj) (Jp s f u F h N8 k a (hd::(t++d::ns)) (YF+1) (k3 cz) (ns.map cz)) E D):EF X m Zcj (Yj (vb 2) Zcj) (Mw s f u F h N8 k a (hd::(t++d::ns)) (YF+1)) E D:=by
 walk_at"d";have hg:∀x,[].contains x=true->(bW pm cd Ww c fa).kindOf x=Zaa:=λx hx=>by simp at hx
 have e1:cC (ah (hd::(t++d::ns))) (some 1) (some ((YF+1:U)))=k3 .str:=by
  walk_at"j";rw[show(1)=((1:U))from rfl,fL];simp[ah]
 have e2:cC (ah (hd::(t++d::ns))) (some ((YF+1+1:U))) none=ns.map .str:=by
  rw[eN];simp[ah,List.drop_append]
 have e:(ah (hd::(t++d::ns))).length<=ZK:=by rw[az,af];simp only[YE,Z1];exact a9 0x7f2f83a10708397c041 [100000,16777216] [_,_] [] g
 refine ZJ (Zk (p5 [] t (.str .) (λx l=>aJ "part" (.str x) l) (λO=>true) (λx=>aO (cz x)) ⟨rfl,rfl,?_,?_,?_,?_⟩ (p4 YO (t_ (Z4 rfl (U5 (X2 ⟨_,rfl,U5 (Z4 rfl ⟨_,rfl,_,aF ..,e,?_⟩)⟩)))))) (.inr ⟨rfl,_,rfl,(Xh (by decide:0<3))⟩));.decide
 .decide
 .intro q hq;cases hq
 .intro q hq;cases hq
 refine⟨by rw[e1],⟨by rw[af];(exact Kj g),λC x hx=>UQ (.inl rfl),λx hx y o a=>(by cases a),λC G x hx hG=>h5 ⟨rfl,rfl,λO=>sG hb rm (hl x (Y3 _ hx)) ⟨rfl,rfl⟩⟩⟩,?_⟩;refine ZJ (EF.qM [] ns (.str .) (λx l=>aJ "part" (.str x) l) (λO=>true) (λx=>aO (cz x)) ⟨rfl,rfl,?_,?_,?_,?_⟩ (.inl rfl) (p4 YO (t_ (XZ b hb rm hg Z_ (U5 (XZ b hb rm hg (mv:=.int ((YF+1+1))) Z_ ⟨_,rfl,SU ⟨_,aF ..,e,?_⟩⟩))))));.decide
 .decide
 .intro q hq;cases hq
 .intro q hq;cases hq
 refine⟨Zq _ e2,⟨by rw[af];(exact Lv g),λC x hx=>UQ (.inl rfl),λx hx y o a=>(by cases a),λC G x hx hG=>h5 ⟨rfl,rfl,λO=>sG hb rm (hl x (Y2 _ hx)) ⟨rfl,rfl⟩⟩⟩,?_⟩;have r:∀i:J Z,(i.filter λO=>true).map (λx=>aO (cz x))=(a_ cz).map aO:=λi=>by rw[Xn,Ui (λO O=>rfl)];rfl
 rw[r,r];exact j
abbrev Mg(t:MV)(fs p:J Z)(r:Y_)(h st:MV)(k e:U)(B:J Z)(c:U)(o w:Xe)(a:J U):YS:=[("text",t),("first",.lst (ah fs)),("parts",.lst (ah p)),("rows",Zb0),("here",h),("stars",st),("k",Za0),("end",.int e),("body",.lst (ah B)),("cut",ZcS),("olds",aS o),("news",aS w),("places",.lst (ON λs=>.int (s:U)))]
def bD(s m:U):Z:=("*** ")++aN s m++(" ****")
def jd(n:U)(hd:Z)(m:U):J U:=(Zi (n+1)).filter λs=>hd==bD s m
theorem ni(o w:Xe)(N:U)(a:j_<=N)(hw:w.length<=N):(SD o w).length<=N:=by
 unfold SD;refine bQ rfl (λO=>?_) λO=>?_;.exact YW (VS ..) hw
 .exact a
theorem fJ(h:NV≠[]):SD NV a=NV:=ZY h
theorem yc(Q:c6 X b)(hb:ZcX)(rm:Za2)(u:Zx+YG<=100000)(hs:∀r∈a++d,r.1.length<=1000)(z:EF X m ZaY (Yj (vb 5) ZaY) (Jp F f M S h N8 k i T c (SD a d) (SD d a)) E D):EF X m ZaY (Yj (vb 4) ZaY) (Jp F f M S h N8 k i T c a d) E D:=by
  walk_at"d";refine ZJ ?_;generalize A:iR _ _ _ _ _=B;have N:∀o w,o=SD a d->w=SD d a->B .next (Jp F f M S h N8 k i T c o w) E:=by intro O O j;subst j;intro j;subst j;subst A;exact z
  clear hs;have y:∀rs:Xe,MV.lst ((rs.filter λr=>r.1==(" ")).map aO)=aS (rs.filter λr=>r.1==" "):=λO=>rfl;refine XD (EB.vh rm rfl (bO ..) ⟨λp=>?_,λp=>?_⟩)
  . have g:=AG p;refine SE (Zk (p5 [] d aO (λr l=>aJ "line" (.str r.2) (aJ "mark" (.str r.1) l)) (λr=>r.1==" ") aO ⟨rfl,rfl,?_,?_,?_,?_⟩ (p4 YO (Z4 rfl ⟨rfl,⟨?_,?_,?_,?_⟩,?_⟩))) (.inr ⟨rfl,_,rfl,(Xh (by decide:0<3))⟩));.decide
    .decide
    .intro q hq;cases hq
    .intro q hq;cases hq
    .rw[af];exact Lv u
    .exactλC r hr=>(bb YO (.inl rfl) (.inl rfl)).gw
    .exactλr hr x I i=>(by cases i)
    .intro C G r hr hG;refine Gp (S2 b hb rm (gl:=[]) (λf e=>by simp at e) Z_ ⟨rfl,rfl,λO=>XZ b hb rm (gl:=[]) (λf e=>by simp at e) Z_ ⟨rfl,rfl⟩⟩)
    .rw[y];exact N _ _ (by unfold SD;rw[ZT g]) (by rw[g];unfold SD;split<;>simp_all)
  . have g:=Jo p;refine SE (XD (EB.vh rm rfl (bO ..) ⟨λhw=>?_,λhw=>?_⟩))
    . have t:=AG hw;refine SE (EF.qM [] a aO (λr l=>aJ "line" (.str r.2) (aJ "mark" (.str r.1) l)) (λr=>r.1==" ") aO ⟨rfl,rfl,?_,?_,?_,?_⟩ (.inl rfl) (p4 YO (Z4 rfl ⟨rfl,⟨?_,?_,?_,?_⟩,?_⟩)));.decide
      .decide
      .intro q hq;cases hq
      .intro q hq;cases hq
      .rw[af];exact Kj u
      .exactλC r hr=>(bb YO (.inl rfl) (.inl rfl)).gw
      .exactλr hr x I i=>(by cases i)
      .intro C G r hr hG;refine Gp (S2 b hb rm (gl:=[]) (λf e=>by simp at e) Z_ ⟨rfl,rfl,λO=>XZ b hb rm (gl:=[]) (λf e=>by simp at e) Z_ ⟨rfl,rfl⟩⟩)
      .rw[y];exact N _ _ (fJ g).symm (by unfold SD;rw[ZT t])
    .have t:=Jo hw;exact YV (N _ _ (fJ g).symm (fJ t).symm)
theorem tZ(d:c6 X b)(hb:ZcX)(rm:Rm X m (n+1))(g:Zx+Xq<=100000)(hB:f[0]?=some hd)(w:S8<=100000)(e:O'<=100000)(y:jd O' hd Zx≠[])(z:EF X m Zci (Yj (vb 7) Zci) (Mg M fs S r h N8 k T f c a F (jd O' hd Zx)) E D):EF X m Zci (Yj (vb 5) Zci) (Jp M (.lst (ah fs)) S r h N8 k T f c a F) E D:=by
  walk_at"d";refine ZJ (EF.qM [("body",ZbY),("olds",aS a)] (Zi (O'+1)) (λi=>.int i) (λi l=>aJ "s" ZaN l) (λs=>hd==bD s Zx) (λi=>.int i) ⟨rfl,rfl,?_,?_,?_,?_⟩ (.inl rfl) (gr.qK YO b hb rfl d.AZ.1 d.AZ.2 (YU (r4 b hb rm rfl (eA ..) (by rw[af];exact O8 e) (X2 ⟨.int ((O'+1)),rfl,_,rfl,?_,?_⟩)))));.decide
  .decide
  .intro q hq;simp only[XS,YJ,Vw]at hq;rcases hq with rfl|rfl<;>rfl
  .intro q hq;simp only[XS,YJ,Vw]at hq;rcases hq with rfl|rfl<;>exact(andI3 rfl (by show some S0≠some Um;decide) ⟨.inl rfl,rfl⟩)
  .exact a9 0x7f4face0e0e5e1 [100000,1099511627776] [_] [] e
  refine⟨by simp,λi x hx=>?_,⟨?_,λC x hx=>UQ (.inl rfl),λx hx=>?_,λC G x hx hG=>?_⟩,?_⟩;.rw[Vu (by have:=(ZN hx).1;simpa using this)]at hx;obtain rfl:=ZW hx;rfl
  .rw[WX,af];exact a9 0x1fcbe0e0e5e1 [100000,16777216] [_] [] e
  .exact av Z_
  . have j:=WY hx;walk_at"O";have o:S1 (x+1):=by unfold S1;exact cF 0x1ffe9f583a61cbc5a83841 [100000,1099511627776] [_,_] [] j e
    have p:S1 (x+Zx):=by unfold S1;exact rf 0xffffa7d6130cc7979350710797c041 [100000,100000,1099511627776] [_,_,_,_] [] g j e
    have t:=fb o p;refine Gp (XA rm (Yq (Z4 rfl (X2 ⟨.str hd,k7 hB (a9 0x7f2f0e5e1 [100000,1000000] [_] [] w),YU (YU (Wc (s_ b rfl d.range.gl d.range.fn.get d.range.fn.nt rfl (Zu (Z4 rfl (Zu (r4 b hb rm rfl (gI ..) (by rw[af];exact Kj g) (Y6 (nk d.range.fn b hb rm o p ?_)))))))))⟩))));refine⟨.str ("*** "++aN x Zx),?_,Wc ⟨.str (bD x Zx),?_,_,rfl,rfl,rfl,λO=>Z4 rfl ⟨rfl,rfl⟩⟩⟩;.refine R7 (dK ?_) rfl;show 4+_<=_;rw[af];exact a9 0x1fcbe017e5e1 [41,4,16777216] [_] [] t
    .refine R7 (dK ?_) rfl;rw[UO];show 4+_+5<=_;rw[af];exact a9 0x7f2f83e017e5e1 [41,4,5,16777216] [_] [] t
  exact ZJ (XD (EB.vh rm rfl (bO ..) ⟨λh=>Zc (AG h) y,λO=>YV z⟩))
def XM(l:J Z):Xe:=A2 λx=>((" "),x)
theorem lz(G:GH)(x:MV)(a:ZaV):bR G (.lst (x::a)) (.int 0)=Zak:=rF ..
inductive BodyOk(n:U):J Z->U->Xe->Xe->Prop|mk{hd d:Z}{os ns:J Z}{s:U}{XE:J U}(a:∀x∈hd::os,ry x=false)(b:ry d=true)(hp:jd n hd (SD (os.map cz) (ns.map cz)).length=s::XE):BodyOk n (hd::(os++d::ns)) s (SD (os.map cz) (ns.map cz)) (SD (ns.map cz) (os.map cz))
theorem yt(t:c6 X b)(hb:ZcX)(rm:Rm X m (n+1))(hr:E r=some (.list (hR aO)))(a:Zd+O'+YZ+YG<=100000)(e:D .next (GA k (.lst (ah fs)) (.lst (ah u)) r (.int ((s+YZ:U))) N8 Zb5 (.int p) (.lst (ah F)) (.int Q) [] [] (.lst ((s::XE).map λs=>.int (s:U)))) (Y8 E r (.list ((rs++XM ((i' h).take (s-h))++UL c d).map aO)))):EF X m (bW pm cd Ww i fa) (Yj (vb 7) (bW pm cd Ww i fa)) (Mg k fs u r (.int h) N8 j p F Q c d (s::XE)) E D:=by
 walk_at"d";have hg:∀x,["len"].contains x=true->(bW pm cd Ww i fa).kindOf x=Zaa:=by
  intro x hx;simp only[Ws,VG,TR,V7]at hx;rw[hx];rfl
 have e1:cC (ah fs) (some h) (some s)=((i' h).take (s-h)).map .str:=by rw[fL];simp[ah]
 have l:((i' h).take (s-h)).length<=O':=by rw[Zo,Ze];exact KG
 refine ZJ (VK (Oa (Z4 rfl ⟨r,_,rfl,hr,?_⟩)));walk_at"K";refine p5 [] ((i' h).take (s-h)) (.str .) (λx g=>aJ "line" (.str x) g) (λO=>true) (λx=>aO (" ",x)) ⟨rfl,rfl,?_,?_,?_,?_⟩ (p4 YO (t_ (Z4 rfl (U5 (Z4 rfl ⟨_,rfl,U5 (Yq (Z4 rfl (X2 ⟨.int s,lz ..,_,rfl,_,aF ..,?_,?_⟩)))⟩)))));.decide
 .decide
 .intro q hq;cases hq
 .intro q hq;exact nomatch hq
 .rw[az,af];exact a9 0x1fcbc597c0901c041 [100000,16777216] [_,_,_,_] [] a
 refine⟨e1▸rfl,⟨by rw[af];(exact cF 0x1ffe5e5c88b97c0901c041 [100000,16777216] [_,_,_,_,_] [] a l),λC x hx=>UQ (.inl rfl),λx hx y w p=>(by exact ax p),λC G x hx hG=>h5 ⟨rfl,rfl,λO=>XZ b hb rm (gl:=[]) (λf o=>by simp at o) ?_ ⟨rfl,rfl⟩⟩⟩,hR aO,(XM ((i' h).take (s-h))).map aO,hr,?_,?_,rfl,?_⟩;.kernel_rfl!
 .rw[aF,Ui (λO O=>rfl),XM,Xn];rfl
 .rw[Z2,Z2,XM,Z2,af];exact cF 0x7ff97c0a1c88b97c0901c041 [100000,16777216] [_,_,_,_,_] [] a l
 rw[<-ZE];refine ZJ (Zk (YU (Yq (Z4 rfl (X2 ⟨.int s,lz ..,r4 b hb rm rfl (gI ..) (by rw[af];exact a9 0x7f2f165f01c041 [100000,16777216] [_,_,_] [] a) ⟨.int ((s+YZ)),rfl,?_⟩⟩)))) (.inl rfl));refine vZ b hb rm (aa ..) (by rw[Z1,XM,Z2];exact bw 0x7ff92c0901c0c1c88d92c0901c041 [_,_,_,_,_,_] a l) ?_;rw[aQ];exact e
variable{ND:J Z}
set_option tactic.hygienic true in theorem zQ{Ww:ZP}{st:MV}{o:Xe}{w:Xe}(b:c6 X NC)(hb:RX NC)(rm:Rm X m (j+1))(c:(T2 (Q+1)).take (N4-(Q+1))=ND)(hB:BodyOk YF ND NU o w)(g:X1<=10000)(hl:∀x∈e,ZO<=1000)(hr:E Nb=some (.list (NV.map aO)))(g:NV.length+YF<=50000)(s:∀l,Od [("text",N8),("first",.lst (ah t)),("parts",.lst (ah e)),("rows",.ref Nb),("here",.int ((NU+j_:U))),("stars",st)] l->D .next l (Y8 E Nb (.list ((NV++XM ((Xs p).take (NU-p))++UL o w).map aO)))):EF X m (bW NI Pm Ww Nh z) (Yj eO (bW NI Pm Ww Nh z)) (Mu N8 (.lst (ah t)) e Nb (.int p) st Q N4) E D:=by
  walk_at"d";have a:X3<=X1:=by rw[<-c,Zo,Ze];exact KG
  have u:∀x∈ND,ZO<=1000:=λx hx=>hl x (by rw[<-c]at hx;exact UM (OG hx));induction hB with|mk y A hp=>?_;rename_i hd d os ns NU XE;simp only[YE,Z1]at a;have i:∀x∈os++ns,ZO<=1000:=λx hx=>u x (by
    rcases ZM hx with q|q;.exact ZX _ (Y3 _ q)
    .exact ZX _ (Y2 _ (ZX _ q)));have f:=ni (os.map cz) (ns.map cz) 10000 (by rw[Z2];exact bw 0x7ff9207241e47074041 [_,_,_,_] a ‹_›) (by rw[Z2];exact bw 0x1ffe482c90791c1d083841 [_,_,_,_] a ‹_›);have k:=ni (ns.map cz) (os.map cz) 10000 (by rw[Z2];exact bw 0x1ffe482c90791c1d083841 [_,_,_,_] a ‹_›) (by rw[Z2];exact bw 0x7ff9207241e47074041 [_,_,_,_] a ‹_›);refine B1 b hb rm c (JM ‹_›) hl y A ?_;refine zJ b hb rm (cF 0x7ff97c041cbc791c1d083841 [10000,100000] [_,_,_] [] a ‹_›) i ?_;refine yc b hb rm (by rw[Z2,Z2];exact cF 0x7ff97c041cbc791c1d083841 [10000,100000] [_,_,_] [] a ‹_›) (λr n=>?_) ?_;.rw[<-ZE]at n;obtain⟨x,hx,YA⟩:=Zl n;rw[<-YA];exact YW (qw x none (some 1)) (i x hx)
  refine tZ b hb rm (cF 0x1ffe5f01072f165e1 [10000,10000,100000] [_,_] [] f k) rfl (by simp only[YE,Z1];exact cF 0x7ff978b21165e1 [10000,100000] [_,_] [] ‹_› a) (a9 0x1fcbc597c041 [50000,100000] [_,_] [] g) (by rw[hp];simp) ?_;rw[hp];exact yt b hb rm hr (rf 0x7fffcbe028047978f2f165e1 [10000,10000,50000,100000] [_,_,_] [] f k g) (s _ (av Z_))
abbrev cg:=J Z×J Z×J Z
def aU(c:cg):Xe:=c.1.map (λx=>(("-"),x))++c.2.1.map (λx=>(("+"),x))++XM c.2.2
def au(e:J Z)(cs:Zb4):Xe:=XM e++WL aU
def a7(cs:Zb4):Prop:=cs.rec m2 λc r R=>(c.1≠[]\/c.2.1≠[])/\(r=[]\/c.2.2≠[])/\R
variable{Nq:cg}{Nl:Zb4}
theorem a7.qS(h:a7 (Nq::Nl)):(Nq.1≠[]\/Nq.2.1≠[])/\(Nl=[]\/Nq.2.2≠[])/\a7 Nl:=h
theorem a7.hd2{c:cg}(h:a7 (Nq::c::Nl)):(Nq.1≠[]\/Nq.2.1≠[])/\Nq.2.2≠[]/\a7 (c::Nl):=⟨h.1,h.2.1.resolve_left (Y9 _ _),h.2.2⟩
theorem pI:¬("-"=(" ")):=by rw[ay];decide
theorem qC:¬("+"=(" ")):=by rw[ay];decide
theorem qe:∀(i:J Z)(st:J Pt×Pt),(XM i).foldl bc st=(st.1,⟨st.2.d,st.2.a,st.2.k++i⟩):=by
 intro I;induction I with
 |Yk=>
  intro st;simp[XM]|Zp x i b=>
  intro st;have e:bc st (" ",x)=(st.1,⟨st.2.d,st.2.a,st.2.k++[x]⟩):=by
   unfold bc aP;rw[ZY (λh=>h.1 rfl),pR]
  have:=b (st.1,⟨st.2.d,st.2.a,st.2.k++[x]⟩);rw[this];simp
theorem zS:∀(b:J Z)(st:J Pt×Pt),st.2.k=[]->(g6 λx=>(("-"),x)).foldl bc st=(st.1,⟨st.2.d++b,st.2.a,st.2.k⟩):=by
 intro I;induction I with
 |Yk=>
  intro st _;simp|Zp x b c=>
  intro st h;rw[UU];have e:bc st ("-",x)=(st.1,⟨st.2.d++[x],st.2.a,st.2.k⟩):=by
   unfold bc aP;rw[ZY (λq=>q.2 h),qg]
  rw[e,c (st.1,⟨st.2.d++[x],st.2.a,st.2.k⟩) h];simp
theorem yC:∀(b:J Z)(st:J Pt×Pt),st.2.k=[]->(g6 λx=>(("+"),x)).foldl bc st=(st.1,⟨st.2.d,st.2.a++b,st.2.k⟩):=by
 intro I;induction I with
 |Yk=>
  intro st _;simp|Zp x b c=>
  intro st h;rw[UU];have e:bc st ("+",x)=(st.1,⟨st.2.d,st.2.a++[x],st.2.k⟩):=by
   unfold bc aP;rw[ZY (λq=>q.2 h),tz]
  rw[e,c (st.1,⟨st.2.d,st.2.a++[x],st.2.k⟩) h];simp
def Ta(st:J Pt×Pt):J Pt×Pt:=if st.2.k≠[]then(st.1++[st.2],⟨[],[],[]⟩)else st
theorem mz(st:J Pt×Pt):(Ta st).2.k=[]:=by
 unfold Ta;refine bQ rfl (λO=>?_) λh=>?_;.rfl
 .simpa using h
theorem mV{st:J Pt×Pt}(h:r.1≠(" ")):bc st r=bc (Ta st) r:=by
 have e1:aP st r.1=Ta st:=by
  unfold aP Ta;by_cases a:st.2.k≠[];.rw[ZT ⟨h,a⟩,ZT a]
  .rw[ZY (λq=>a q.2),ZY a]
 have e2:aP (Ta st) r.1=Ta st:=by
  unfold aP;rw[ZY (λq=>q.2 (mz st))]at⊢
 unfold bc;rw[e1,e2]
theorem sY(c:cg)(h:c.1≠[]\/c.2.1≠[])(st:J Pt×Pt):(aU c).foldl bc st=((Ta st).1,⟨(Ta st).2.d++c.1,(Ta st).2.a++c.2.1,c.2.2⟩):=by
 have e:(aU c).foldl bc st=(aU c).foldl bc (Ta st):=by
  induction c using E1 with|mk b i f=>?_;unfold aU;cases b with
  |Yk=>cases i with|Yk=>exact Zc h (by simp)|Zp x i=>
    simp only[R',Yh,Yb,WO,UU]
    rw[mV qC]|Zp x b=>
   simp only[Yb,WO,UU];rw[mV pI]
 rw[e];rw[WW,WW,zS _ _ (mz st),yC c.2.1 ((Ta st).1,⟨(Ta st).2.d++c.1,(Ta st).2.a,(Ta st).2.k⟩) (mz st),qe];simp[mz st]
def qA(c:cg):Pt:=⟨c.1,c.2.1,c.2.2⟩
theorem yJ:∀(cs:Zb4)(st:J Pt×Pt),a7 cs->cs≠[]->(st.2.k≠[]\/st.2=⟨[],[],[]⟩)->(let s:=(WL aU).foldl bc st;s.1++[s.2])=(Ta st).1++cs.map qA:=by
 intro I;induction I with
 |Yk=>
  intro _ _ h _;exact Zc rfl h|Zp c d e=>cases d with
  |Yk=>
   intro st ok _ hs;walk_at"r";have a:=ok.qS.1;have hb:(Ta st).2=⟨[],[],[]⟩:=by
    unfold Ta;split;.rfl
    .rename_i b;exact hs.resolve_left b
   show((aU c++[]).foldl bc st).1++[((aU c++[]).foldl bc st).2]=_;rw[Zn,sY c a,hb];rfl|Zp f r=>
   intro st ok _ hs;obtain⟨a,he,t⟩:=ok.hd2;have hb:(Ta st).2=⟨[],[],[]⟩:=by
    unfold Ta;split;.rfl
    .rename_i b;exact hs.resolve_left b
   rw[WW,sY c a,hb];refine R7 (e ((Ta st).1,qA c) t (Y9 _ _) (.inl he)) ?_;unfold Ta;rw[ZT (show(qA c).k≠[]from he)];simp
theorem w4(k0:J Z)(cs:Zb4)(ok:a7 cs)(a:cs≠[]):bC Zdc=(if k0=[]then[]else[⟨[],[],k0⟩])++cs.map qA:=by
 unfold bC aC;rw[WW,qe];have hs:(([]:J Pt),(⟨[],[],[]++k0⟩:Pt)).2.k≠[]\/(([]:J Pt),(⟨[],[],[]++k0⟩:Pt)).2=⟨[],[],[]⟩:=by
  by_cases h:k0=[];.rw[h];exact .inr rfl
  .exact .inl h
 refine R7 (yJ cs _ ok a hs) ?_;unfold Ta;by_cases h:k0=[];.rw[h];rfl
 .rw[ZT (show(⟨[],[],[]++k0⟩:Pt).k≠[]from h),ZY h];rfl
def dv(Yi:Y0)(c:cg):J Z:=if Yi then c.2.1 else c.1
def gN(WD:Z)(c:cg):Z:=if c.1≠[]/\c.2.1≠[]then("! ")else WD
def ei(i:J Z):J Z:=a_ (("  ")++.)
def dD(Yi:Y0)(WD:Z)(k0:J Z)(cs:Zb4):J Z:=ei k0++WL λc=>(dv Yi c).map (gN WD c++.)++ei c.2.2
def bB(Yi:Y0)(cs:Zb4):Y0:=cs.any λc=>!(dv Yi c).isEmpty
theorem zX(Yi:Y0)(WD:Z)(k0:J Z)(cs:Zb4)(ok:a7 cs)(a:cs≠[]):half Zdc Yi WD=if bB Yi cs then dD Yi WD k0 cs else[]:=by
  unfold half;rw[w4 k0 cs ok a];have e:∀p∈(if k0=[]then[]else[(⟨[],[],k0⟩:Pt)]),Un Yi=[]/\p=⟨[],[],k0⟩:=λp hp=>by
    split at hp;.exact nomatch hp
    .rw[ZD hp];exact⟨by cases Yi<;>rfl,rfl⟩
  have e1:((if k0=[]then[]else[(⟨[],[],k0⟩:Pt)])++cs.map qA).any (λp=>!(Un Yi).isEmpty)=bB Yi cs:=by
    rw[List.any_append,List.any_map];have:(if k0=[]then[]else[(⟨[],[],k0⟩:Pt)]).any (λp=>!(Un Yi).isEmpty)=false:=by
      rw[List.any_eq_false];intro p hp;rw[(e p hp).1];decide
    rw[this,Bool.false_or];rfl
  rw[e1];have e2:((if k0=[]then[]else[(⟨[],[],k0⟩:Pt)])++cs.map qA).flatMap (·.aL Yi WD)=dD Yi WD k0 cs:=by
    rw[YT,dD,List.flatMap_map];congr 1;by_cases h:k0=[];.rw[h];rfl
    .rw[ZY h];cases Yi<;>simp[Pt.aL,Pt.side,ei]
  rw[e2]
structure Hn where
 s:J Z
 k0:J Z
 ps:J cg
def dt(h:Hn):Xe:=au zz R2
def bX(n:U)(l:J Z):J Z:=l.take (W5-n)
def bJ(n:U)(l:J Z):J Z:=vc (W5-n)
theorem jg(n:U)(l:J Z):bX n l++bJ n l=l:=XH ..
def w7(n:U)(s k0:J Z)(a cs:Zb4):J Hn×J Z:=td (motive:=λO=>J Z->J Z->J cg->J Hn×J Z) (λs k0 a=>([⟨s,k0,a⟩],[])) (λc r k s k0 a=>m4 (motive:=λO=>J Hn×J Z) r ([⟨s,k0,a++[(c.1,c.2.1,c.2.2.take n)]⟩],c.2.2.drop n) λO O=>if 2*n<c.2.2.length then(⟨s,k0,a++[(c.1,c.2.1,c.2.2.take n)]⟩::(k (bX n (c.2.2.drop n)) (bJ n (c.2.2.drop n)) []).1,(k (bX n (c.2.2.drop n)) (bJ n (c.2.2.drop n)) []).2)else k s k0 (a++[c])) cs s k0 a
theorem Ic(n s k0 a):w7 n s k0 a []=([⟨s,k0,a⟩],[]):=rfl
theorem ug(n s k0 a c):w7 n s k0 a [c]=([⟨s,k0,a++[(c.1,c.2.1,c.2.2.take n)]⟩],c.2.2.drop n):=rfl
theorem nD(n s k0 a c b r):w7 n s k0 a (c::b::r)=if 2*n<c.2.2.length then(⟨s,k0,a++[(c.1,c.2.1,c.2.2.take n)]⟩::(w7 n (bX n (c.2.2.drop n)) (bJ n (c.2.2.drop n)) [] (b::r)).1,(w7 n (bX n (c.2.2.drop n)) (bJ n (c.2.2.drop n)) [] (b::r)).2)else w7 n s k0 (a++[c]) (b::r):=rfl
def ef(n:U)(e:J Z)(cs:Zb4):J Hn×J Z:=if cs=[]then([],e)else w7 n (bX n e) (bJ n e) [] cs
def bf(t:J Hn×J Z):Xe:=(t.1.flatMap λh=>XM h.s++X5)++XM t.2
theorem fR(a b:J Z):XM (a++b)=XM a++XM b:=ZE
theorem pY(c:cg)(n:U):aU c=aU (c.1,c.2.1,c.2.2.take n)++XM (c.2.2.drop n):=by
 have e:XM c.2.2=XM (c.2.2.take n)++XM (c.2.2.drop n):=by rw[<-fR,XH]
 show(c.1.map (λx=>(("-"),x))++c.2.1.map (λx=>(("+"),x)))++XM c.2.2=((c.1.map (λx=>(("-"),x))++c.2.1.map (λx=>(("+"),x)))++XM (c.2.2.take n))++XM (c.2.2.drop n);rw[e,ZQ (_++_) (XM (c.2.2.take n))]
theorem CI(n:U):∀(cs:Zb4)(s k0:J Z)(a:Zb4),bf (w7 n s k0 a cs)=XM s++au k0 (a++cs):=by
  intro b;induction b with
  |Yk=>
    intro s k0 a;simp[Ic,bf,dt,XM]|Zp c d I=>cases d with
    |Yk=>
      intro s k0 a;have e:=pY c n;simp only[ug,bf,dt,au,ZA,Xj,Zn,YT,e,ZQ]|Zp f r=>
      intro s k0 a;rw[nD];refine bQ rfl (λO=>?_) λO=>?_
      . have i:=I (bX n (c.2.2.drop n)) (bJ n (c.2.2.drop n)) [];unfold bf at i⊢;rw[ZQ,i];have e2:XM (c.2.2.drop n)=XM (bX n (c.2.2.drop n))++XM (bJ n (c.2.2.drop n)):=by rw[<-fR,jg]
        simp only[dt,au,YT,ZA,Xj,Zn,Yh,(pY c n),e2,ZQ]
      .rw[I s k0 (a++[c])];simp
theorem vq(n:U)(e:J Z)(cs:Zb4):bf (ef n e cs)=au e cs:=by
 unfold ef;refine bQ rfl (λh=>?_) λO=>?_;.subst h;simp[bf,au]
 .rw[CI,Yh,au,<-ZQ,<-fR,jg];rfl
theorem Dg(b:d<=n):∀(cs:Zb4)(s k0:J Z)(a:Zb4),(∀c∈cs,c.2.2.length<=d)->w7 n s k0 a cs=w7 d s k0 a cs:=by
 intro I;induction I with
 |Yk=>
  intro _ _ _ _;exact rfl|Zp c e f=>cases e with
  |Yk=>
   intro s k0 a h;have:=h c (.head _);rw[ug,ug];rw[YQ (show c.2.2.length<=n by exact D1 this b),YQ this,Vm (show c.2.2.length<=n by exact D1 this b),Vm this]|Zp g r=>
   intro s k0 a h;have:=h c (.head _);rw[nD,nD,ZY (by exact cF 0x1fff34190f2316441 [2] [_,_,_] [] this b),ZY (by exact a9 0x1fe683216441 [2] [_,_] [] this)];exact f s k0 _ λx hx=>h x (ZX _ hx)
theorem a7.snoc:∀{a:Zb4}{c:cg}{cs:Zb4},a7 (a++c::cs)->∀k,a7 (a++[(c.1,c.2.1,k)]):=by
 intro I;induction I with
 |Yk=>
  intro c cs h k;exact⟨h.1,.inl rfl,trivial⟩|Zp d e b=>
  intro c cs h k;exact⟨h.1,.inr (h.2.1.resolve_left (List.append_ne_nil_of_right_ne_nil _ (Y9 _ _))),b h.2.2 k⟩
theorem a7.t1(h:a7 (a::l)):a7 l:=by exact h.2.2
theorem a7.tail:∀{a:Zb4},a7 (a++Nl)->a7 Nl:=λ{a}=>by induction a with|Yk=>exact id|Zp b a i=>exactλh=>i h.t1
theorem Gj(n:U):∀(cs:Zb4)(s k0:J Z)(a:Zb4),a7 (a++cs)->cs≠[]->∀h∈(w7 n s k0 a cs).1,a7 R2/\R2≠[]:=by
  intro b;induction b with
  |Yk=>
    intro _ _ _ _ h;exact Zc rfl h|Zp c d I=>cases d with
    |Yk=>
      intro s k0 a ok _;exactλh hh=>by
        simp only[ug,Wu]at hh;rw[hh];exact⟨ok.snoc _,by simp⟩|Zp e r=>
      intro s k0 a ok _;exactλh hh=>by
        rw[nD]at hh;split at hh
        . refine(ZI hh).elim (λYA=>?_) λhh=>?_;.rw[YA];exact⟨ok.snoc _,by simp⟩
          . have t:a7 (e::r):=by exact(a7.tail ok).t1
            exact I _ _ [] t (Y9 _ _) h hh
        .exact I s k0 (a++[c]) (by rw[ZQ];exact ok) (Y9 _ _) h hh
theorem BP(n:U)(ok:a7 cs):∀h∈(ef n b cs).1,a7 R2/\R2≠[]:=by
 unfold ef;refine bQ rfl (λO=>?_) λa=>?_;.intro h hh;cases hh
 .exact Gj n cs _ _ [] ok a
def dN(st:vj):vj:={aL:=if W_=[]then TC else TC++cP st,a8:=[],old:=SH+WR W_+1,new:=SG+WB W_+1}
def cD(st:vj)(q:Y0×(Z×Z)):vj:=if q.1=true then{st with a8:=W_++[q.2]}else dN st
def behind(m:Zw)(rs:Xe):J Zw:=bS (m+1) rs
def ahead(m:Zw)(rs:Xe):J Zw:=(bS (m+1) VN).reverse
def mk(m:Zw)(b a:Zw):Y0:=decide ((if a<b then a else b)<=m)
def f3(m:Zw)(rs:Xe):J Y0:=List.zipWith (mk m) (behind m rs) (ahead m rs)
theorem yZ(m:Zw)(rs:Xe):(f3 m rs).length=Zd:=by
 unfold f3 behind ahead;rw[List.length_zipWith,bx,X6,bx,X6,ls]
theorem yw(b:k<Zd):(f3 a rs)[k]?=some (near rs a k):=by
 have h1:k<(bS (a+1) rs).length:=by rw[bx];exact b
 have h2:k<(bS (a+1) VN).reverse.length:=by rw[X6,bx,X6];exact b
 unfold f3 near behind ahead;rw[List.getElem?_zipWith,Z6 h1,Z6 h2];simp only[Z0,Z6 h1,Z6 h2,Option.getD_some];rfl
theorem o6(rs:Xe)(m:Zw):∀j,j<=Zd->cN rs m j=(((f3 m rs).zip rs).take j).foldl cD ⟨[],[],0,0⟩:=by
 intro I;induction I with
 |V1=>
  intro _;exact rfl|VF j a=>
  intro h;have hj:j<Zd:=h;have h2:((f3 m rs).zip rs)[j]?=some (near rs m j,rs[j]):=by
   rw[List.getElem?_zip_eq_some];exact⟨yw hj,Z6 hj⟩
  rw[d9,a (O7 h),X9,h2,U_,WW];generalize(((f3 m rs).zip rs).take j).foldl cD ⟨[],[],0,0⟩=st;show fq rs m st j=cD st (near rs m j,rs[j]);unfold fq cD dN;by_cases hn:near rs m j=true;.rw[ZT ⟨hj,hn⟩,ZT hn,Z6 hj];rfl
  .rw[ZY (λq=>hn q.2),ZY hn]
theorem Ap(rs:Xe)(m:Zw):(cN rs m (Zd+1)).aL=(dN (((f3 m rs).zip rs).foldl cD ⟨[],[],0,0⟩)).aL:=by
 rw[d9,o6 rs m Zd (ZV _),YQ (by rw[List.length_zip,yZ,ls];exact ZV _)];unfold fq;rw[ZY (λq=>UE _ q.1)];rfl
def dR(m f g:Zw)(rs:Xe):J Y0:=List.zipWith (mk m) (bS f rs) (bS g VN).reverse
theorem DQ(m:Zw)(rs:Xe):f3 m rs=dR m (m+1) (m+1) rs:=rfl
theorem hZ(m f g:Zw)(x ys:Xe):dR m f g (x++ys)=dR m f (dX g ys.reverse) x++dR m (dX f x) g ys:=by
 unfold dR;rw[hJ,List.reverse_append,hJ,List.reverse_append,List.zipWith_append (by rw[bx,X6,bx,X6])]
def mI(rs:Xe):Prop:=∀r∈rs,r.1≠(" ")
theorem pQ:∀(f:Zw)(rs:Xe),mI rs->bS f rs=Zt Zd 0:=by
 intro a I;revert a;induction I with
 |Yk=>
  intro _ _;exact rfl|Zp r rs b=>
  intro f h;rw[x5,ZY (h r (.head _)),b 0 λx hx=>h x (ZX _ hx)];rfl
theorem mX:∀(f:Zw)(rs:Xe),mI rs->rs≠[]->dX f rs=0:=by
 intro a I;revert a;induction I with
 |Yk=>
  intro _ _ h;exact Zc rfl h|Zp r b c=>cases b with
  |Yk=>
   intro f h _;rw[tT,ZY (h r (.head _))];rfl|Zp d rs=>
   intro f h _;exact c _ (λx hx=>h x (ZX _ hx)) (Y9 _ _)
theorem nT(hm:0<=a)(h:mI rs):dR a f b rs=Zt Zd true:=by
 unfold dR;rw[pQ f rs h,pQ b VN (λr hr=>h r (List.mem_reverse.mp hr):mI VN),List.reverse_replicate,X6,List.zipWith_replicate,ls];congr 1;exact Yr hm
theorem nZ:∀(l:J Z)(f:Zw),bS f (XM l)=(Zi W5).map λt:U=>f+t+1:=by
  intro I;induction I with
  |Yk=>
    intro _;exact rfl|Zp x l a=>
    intro f;rw[XM,Yb,x5];have:=a (f+1);rw[this,Sf,Yb,Xn];congr 1;.exact fF 0x3707426d541ca [] [] [_]
    .refine Vt λt O=>?_;show f+1+t+1=f+((t+1:U))+1;exact fF 0x1b83a138382a83a130c1ca [] [_] [_]
theorem AN(l:J Z):(XM l).reverse=XM l.reverse:=by unfold XM;rw[hN]
theorem gj(m f g:Zw)(l:J Z):dR m f g (XM l)=(Zi W5).map λt:U=>mk m (f+t+1) (g+((W5-t:U):Zw)):=by
  unfold dR;rw[AN,nZ,nZ,X6];apply List.ext_getElem;.simp
  . intro t h1 h2;have ht:t<W5:=by simpa using h2
    rw[List.getElem_zipWith,List.getElem_reverse];simp only[List.getElem_map,List.getElem_range,Z2,WX];congr 1;exact a9 0x1fdc27108950742710c5c256841 [] [_,_] [_] ht
theorem jm(h:b<=c\/a<=c):mk c b a=true:=by unfold mk;refine Yr ?_;split<;>(first|exact cF 0x7ff962bd962b2c5e96a [] [] [_,_,_] ‹_› h|exact cF 0xfff2b5734a67b2b6656a [] [] [_,_,_] h ‹_›)
theorem kD(h1:c<b)(h2:c<a):mk c b a=false:=by unfold mk;refine Wx ?_;split<;>(first|exact a9 0xff32a5e96a [] [] [_,_] h2|exact a9 0xff32a5e96a [] [] [_,_] h1)
variable{PC:U->Y0}
theorem Sm:∀(n:U),(∀t,t<n->PC t=a)->(Zi n).map PC=Zt n a:=by
 intro I;induction I with
 |V1=>
  intro _;exact rfl|VF n b=>
  intro h;rw[T1,ZE,b λt ht=>h t (Jw ht),Yb,R',h n (J9),List.replicate_succ']
theorem eC(a b:U):(Zi (a+b)).map PC=(Zi a).map PC++(Zi b).map λt=>PC (a+t):=by rw[List.range_add,ZE,Xn];rfl
theorem zu(m:U)(l:J Z):dR m 0 0 (XM l)=if 2*m<W5 then Zt m true++(Zt (W5-2*m) false++Zt m true)else Zt W5 true:=by
  rw[gj];generalize W5=n;refine bQ rfl (λh=>?_) λh=>?_
  . obtain⟨d,rfl⟩:∃d,n=m+(d+m):=⟨n-2*m,by exact a9 0x7f708063208822d0a41 [2,2] [_,_] [] h⟩;rw[eC,eC,Sm m,Sm d,Sm m,show m+(d+m)-2*m=d by(exact fF 0x3628c83080441 [2] [_,_] [])];.intro t ht;exact jm (.inr (cY 0x19986138c203106100882d [_,_,_]))
    .intro t ht;exact kD (cY 0x6a0e84e020b661 [_,_]) (aV 0x7f509c6011c20310db31e841 [_,_,_] ht)
    .intro t ht;exact jm (.inl (aV 0x1fccc50742616e841 [_,_] ht))
  . refine Sm n λt ht=>?_;by_cases h1:t+1<=m;.exact jm (.inl (aV 0x7f33141d0985b9141c1 [_,_] h1))
    .exact jm (.inr (cF 0x3ffccc309c4626f3218387cd0a41 [2] [_,_,_] [] h h1))
theorem tL(m:U)(l:J Z):dR m (m+1) 0 (XM l)=Zt (bX m l).length false++Zt (bJ m l).length true:=by
 rw[gj];unfold bX bJ;rw[Zo,Ze];generalize W5=n;have e:(Zi n)=Zi (min (n-m) n+(n-(n-m))):=by congr 1;exact cY 0x1b84441b0441 [_,_]
 rw[e,eC,Sm (min (n-m) n),Sm (n-(n-m))];.intro t ht;exact jm (.inr (cY 0x666284e301d8311042d [_,_,_]))
 .intro t ht;exact kD (fF 0x350742618394a [] [_] [_]) (aV 0x1fd4271089b31eac288c41 [_,_,_] ht)
theorem wH(m:U)(l:J Z):dR m 0 (m+1) (XM l)=Zt (l.take m).length true++Zt (vc m).length false:=by
 rw[gj];rw[Zo,Ze];generalize W5=n;have e:(Zi n)=Zi (min m n+(n-m)):=by congr 1;exact cY 0x1b84441b0441 [_,_]
 rw[e,eC,Sm (min m n),Sm (n-m)];.intro t ht;exact kD (aV 0x7f50742700d8436cc7a88c41 [_,_,_] ht) (fF 0xd42618394a [] [_] [_])
 .intro t ht;exact jm (.inl (aV 0x7f33141d0985bab0c41 [_,_,_] ht))
theorem vE(m:U)(l:J Z):dR m (m+1) (m+1) (XM l)=Zt W5 false:=by
 rw[gj];exact Sm _ λt ht=>kD (fF 0x350742618394a [] [_] [_]) (fF 0xd42618394a [] [_] [_])
def eP(h:Xe)(o w:Zw):J Z:=cP ⟨[],h,o,w⟩
def bH(o w:Zw)(l:J Hn):J Z:=VH (λh k o w=>eP X5 (o+Y7) (w+Y7)++k (o+Y7+WR X5) (w+Y7+WB X5)) (λO O=>[]) o w
theorem km(a b h r):bH a b (h::r)=eP X5 (a+Y7) (b+Y7)++bH (a+Y7+WR X5) (b+Y7+WB X5) r:=rfl
def run(st:vj)(m:J Y0)(rs:Xe):vj:=(m.zip rs).foldl cD st
theorem hV(st:vj)(m a:J Y0)(r r2:Xe)(h:V_=K4):run st (m++a) (r++r2)=run (run st m r) a r2:=by unfold run;rw[List.zip_append h,WW]
theorem nV:∀(rs:Xe)(st:vj),run st (Zt Zd true) rs={st with a8:=W_++rs}:=by
 intro I;induction I with
 |Yk=>
  intro st;simp[run]|Zp r rs a=>
  intro st;have:=a {st with a8:=W_++[r]};unfold run at this⊢;show List.foldl cD (cD st (true,r)) _=_;have e:cD st (true,r)={st with a8:=W_++[r]}:=ZT rfl;rw[this];simp
theorem lL:∀(s:J Z)(aL:J Z)(o w:Zw),run ⟨aL,[],o,w⟩ (Zt ZR false) (XM s)=⟨aL,[],o+ZR,w+ZR⟩:=by
 intro I;induction I with
 |Yk=>
  intro aL o w;simp[run]|Zp x s a=>
  intro aL o w;have e:cD ⟨aL,[],o,w⟩ (false,(" ",x))=⟨aL,[],o+1,w+1⟩:=by
   unfold cD dN;rw[ZY (show¬(false=true)from Yn)];simp[WR,WB]
  have:=a aL (o+1) (w+1);unfold run at this⊢;rw[XM,UU,e];rw[this];congr 1<;>push_cast<;>(exact fF 0x6e1072d505c1ca [] [] [_,_])
theorem sy(s:J Z)(hs:s≠[])(aL:J Z)(h:Xe)(hh:h≠[])(o w:Zw):run ⟨aL,h,o,w⟩ (Zt ZR false) (XM s)=⟨aL++eP h o w,[],o+WR h+ZR,w+WB h+ZR⟩:=by cases s with
 |Yk=>exact Zc rfl hs|Zp x s=>
  have e:cD ⟨aL,h,o,w⟩ (false,(" ",x))=⟨aL++eP h o w,[],o+WR h+1,w+WB h+1⟩:=by
   unfold cD dN;rw[ZY (show¬(false=true)from Yn),ZY hh];rfl
  have:=lL s (aL++eP h o w) (o+WR h+1) (w+WB h+1);unfold run at this⊢;rw[XM,UU,e];rw[this];congr 1<;>push_cast<;>(exact fF 0x6e1072d505c1ca [] [] [_,_])
theorem yd(s:J Z)(aL:J Z)(h:Xe)(hh:h≠[])(o w:Zw):(dN (run ⟨aL,h,o,w⟩ (Zt ZR false) (XM s))).aL=aL++eP h o w:=by
  by_cases hs:s=[];.rw[hs];show(dN ⟨aL,h,o,w⟩).aL=_;unfold dN;rw[ZY hh];rfl
  .rw[sy s hs aL h hh o w];unfold dN;rw[ZT rfl]
def md(c:cg):Xe:=c.1.map (λx=>(("-"),x))++c.2.1.map (λx=>(("+"),x))
theorem i5(c:cg):mI (md c):=λr hr=>by
 rcases ZM hr with h|h<;>obtain⟨x,_,rfl⟩:=Zl h;.exact pI
 .exact qC
theorem kF(h:c.1≠[]\/c.2.1≠[]):md c≠[]:=by
 intro e;rw[md,List.append_eq_nil_iff,List.map_eq_nil_iff,List.map_eq_nil_iff]at e;exact Xp (λq=>q e.1) λq=>q e.2
theorem fM(c:cg):aU c=md c++XM c.2.2:=rfl
theorem tG(h:r.1≠(" ")):dX a (r::NV).reverse=0:=by rw[mx,jD,tT,ZY h];rfl
theorem qk(h:c.1≠[]\/c.2.1≠[])(XE:Xe)(g:Zw):dX g (aU c++XE).reverse=0:=by
  rw[fM];refine v9 (md c) (λe=>?_) λr rs e=>?_;.rw[e];exact Zc e (kF h)
  .rw[e];exact tG (i5 c r (by rw[e];simp))
def jV(o w:Zw):J Hn->J Z|[]=>[]|h::r=>eP X5 o w++bH (o+WR X5) (w+WB X5) r
theorem tu(a b h r):jV a b (h::r)=eP X5 a b++bH (a+WR X5) (b+WB X5) r:=rfl
theorem Aa(a b h):jV a b [h]=eP X5 a b:=Zn _
theorem pX(o w:Zw)(h:Hn)(r:J Hn):bH o w (h::r)=jV (o+Y7) (w+Y7) (h::r):=rfl
theorem tM(k0:J Z)(a:Zb4)(c:cg):au k0 a++aU c=au k0 (a++[c]):=by unfold au;rw[YT,ZQ];simp
theorem Ao(h:Nq.1≠[]\/Nq.2.1≠[])(k:J Z):au k0 (a++[(Nq.1,Nq.2.1,k)])≠[]:=by
 rw[<-tM];intro e;have:=(Xy e).2;rw[fM]at this;exact kF h (Xy this).1
theorem iP(n:U):∀(cs:Zb4)(s k0:J Z)(a:Zb4),∃ps r,(w7 n s k0 a cs).1=⟨s,k0,ps⟩::r:=by
 intro I;induction I with
 |Yk=>
  intro s k0 a;exact⟨_,_,rfl⟩|Zp c b d=>cases b with
  |Yk=>
   intro s k0 a;exact⟨_,_,rfl⟩|Zp e r=>
   intro s k0 a;rw[nD];refine bQ rfl (λO=>?_) λO=>?_;.exact⟨_,_,rfl⟩
   .exact d s k0 _
theorem qH(m:U)(c:cg)(k:J Z)(aL:J Z)(k0:J Z)(a:Zb4)(o w:Zw):run ⟨aL,au k0 a,o,w⟩ (Zt (md c).length true++Zt Wq true) (md c++XM k)=⟨aL,au k0 (a++[(c.1,c.2.1,k)]),o,w⟩:=by
 rw[List.replicate_append_replicate,show(md c).length+Wq=(md c++XM k).length by rw[Z1,XM,Z2]];rw[nV];have:au k0 a++(md c++XM k)=au k0 (a++[(c.1,c.2.1,k)]):=tM k0 a (c.1,c.2.1,k);rw[<-this]
theorem cx(s:J Z):(XM s).length=ZR:=Z2 ..
theorem Dy(m:U):∀(cs:Zb4)(s k0:J Z)(a:Zb4)(aL:J Z)(o w f:Zw),a7 cs->cs≠[]->(dN (run ⟨aL,au k0 a,o,w⟩ (dR m f (m+1) (WL aU)) (WL aU))).aL=aL++jV o w (w7 m s k0 a cs).1:=by
  intro j;induction j with
  |Yk=>
    intro _ _ _ _ _ _ _ _ h;exact(h rfl).elim|Zp c k I=>cases k with
    |Yk=>
      intro s k0 a aL o w f ok _;have b:=ok.qS.1;have e:XM c.2.2=XM (c.2.2.take m)++XM (c.2.2.drop m):=by rw[<-fR,XH]
      rw[ZA,Xj,Zn,fM,hZ,nT (SP m) (i5 c),mX _ _ (i5 c) (kF b),wH,e,<-ZQ,<-ZQ,hV _ _ _ _ _ (by rw[Z1,Z1,XR,XR,cx]),qH m,yd _ _ _ (Ao b _)];simp[ug,Aa,dt]|Zp d r=>
      intro s k0 a aL o w f ok _;obtain⟨b,he,t⟩:=ok.hd2;have l:=t.qS.1;have n:dX (m+1) ((d::r).flatMap aU).reverse=0:=by rw[ZA];exact qk l _ _
      have p:(c::d::r).flatMap aU=(md c++XM c.2.2)++(d::r).flatMap aU:=by rw[ZA,fM]
      rw[p,hZ,hZ,n,nT (SP m) (i5 c),mX _ _ (i5 c) (kF b),zu];rw[nD]at⊢;split
      . rename_i g;have l1:(c.2.2.take m).length=m:=by rw[Zo];exact a9 0x3fb0d841d0a41 [2] [_,_] [] g
        have l2:(bX m (c.2.2.drop m)).length=c.2.2.length-2*m:=by unfold bX;rw[Zo,Ze];exact fF 0x371908368883114441 [2] [_,_] []
        have l3:(bJ m (c.2.2.drop m)).length=m:=by unfold bJ;rw[Ze,Ze];exact a9 0xfec318862114422d0a41 [2] [_,_] [] g
        have e:XM c.2.2=XM (c.2.2.take m)++(XM (bX m (c.2.2.drop m))++XM (bJ m (c.2.2.drop m))):=by rw[<-fR,jg,<-fR,XH]
        obtain⟨ps,z,hb⟩:=iP m (d::r) (bX m (c.2.2.drop m)) (bJ m (c.2.2.drop m)) [];have i:=λaL o w f=>I (bX m (c.2.2.drop m)) (bJ m (c.2.2.drop m)) [] aL o w f t (Y9 _ _);have u:bX m (c.2.2.drop m)≠[]:=λq=>by rw[q,UY]at l2;exact bw 0x7fe9d045b8882d [_,_] l2 g
        generalize bX m (c.2.2.drop m)=x at*;generalize bJ m (c.2.2.drop m)=la at*;rw[e];conv=>lhs;rw[show Zt m true++(Zt (c.2.2.length-2*m) false++Zt m true)=Zt (c.2.2.take m).length true++(Zt ZO false++Zt la.length true)by rw[l1,l2,l3]]
        rw[<-ZQ,<-ZQ (md c),hV _ _ _ _ _ (by simp only[Z1,XR,cx]),hV _ _ _ _ _ (by simp only[Z1,XR,cx]),qH m,hV _ _ _ _ _ (by simp only[XR,cx]),sy _ u _ _ (Ao b _)];have y:∀aL o w,run ⟨aL,[],o,w⟩ (Zt la.length true) (XM la)=⟨aL,au la [],o,w⟩:=λaL o w=>by rw[<-cx la,nV];simp[au]
        rw[y,i,hb];rw[tu,tu,km]at⊢;simp[dt]
      .rw[hV _ _ _ _ _ (by rw[Z1,Z1,XR,XR,cx]),qH m];exact I s k0 (a++[c]) aL o w _ t (Y9 _ _)
theorem xj(m:U)(e:J Z)(cs:Zb4)(ok:a7 cs):(cN (au e cs) m ((au e cs).length+1)).aL=bH 0 0 (ef m e cs).1:=by
  rw[Ap,DQ];show(dN (run ⟨[],[],0,0⟩ _ _)).aL=_;unfold ef;by_cases h:cs=[];.rw[h];rw[ZT rfl];show(dN (run ⟨[],[],0,0⟩ (dR m (m+1) (m+1) (XM e++[])) (XM e++[]))).aL=_;rw[Zn,vE,lL];rfl
  . rw[ZY h];obtain⟨c,r,rfl⟩:∃c r,cs=c::r:=List.exists_cons_of_ne_nil h;have a:=ok.qS.1;have b:dX (m+1) ((c::r).flatMap aU).reverse=0:=by rw[ZA];exact qk a _ _
    obtain⟨ps,j,hb⟩:=iP m (c::r) (bX m e) (bJ m e) [];have i:=λaL o w f=>Dy m (c::r) (bX m e) (bJ m e) [] aL o w f ok (Y9 _ _);have d:XM e=XM (bX m e)++XM (bJ m e):=by rw[<-fR,jg]
    unfold au;rw[hZ,b,tL,d];generalize bX m e=s at*;generalize bJ m e=la at*;have g:∀aL o w,run ⟨aL,[],o,w⟩ (Zt la.length true) (XM la)=⟨aL,au la [],o,w⟩:=λaL o w=>by rw[<-cx la,nV];simp[au]
    rw[hV _ _ _ _ _ (by simp only[Z1,XR,cx]),hV _ _ _ _ _ (by simp only[XR,cx]),lL,g,i,hb,Yh];rfl
theorem EC(e:J Z)(cs:Zb4):X1<=(au e cs).length/\∀c∈cs,c.2.2.length<=(au e cs).length:=by
 unfold au;rw[Z1,cx];refine⟨WN _ _,λc d=>YW ?_ (Nat.le_add_left _ _)⟩;obtain⟨a,b,YA⟩:=List.append_of_mem d;rw[YA];rw[YT,ZA,fM];simp only[Z1,cx];exact cY 0x198409008c41 [_,_,_,_]
theorem ya(d:a<=n)(e:Zv<=a)(h:∀c∈cs,c.2.2.length<=a):ef n b cs=ef a b cs:=by
 unfold ef bX bJ;rw[show Zv-n=0 by exact bw 0x1ffedb11872316441 [_,_,_] e d,show Zv-a=0 by exact aV 0x1fdb6220e441 [_,_] e,Dg d _ _ _ _ h]
theorem iT(n:U)(e:J Z)(cs:Zb4)(ok:a7 cs):vx (au e cs) n=if bH 0 0 (ef n e cs).1=[]then[]else[("*** \n"),"--- \n"]++bH 0 0 (ef n e cs).1:=by
 obtain⟨a,h1⟩:=EC e cs;unfold vx;dsimp only;by_cases hn:(au e cs).length<n;.rw[show(if((au e cs).length)<(n:Zw)then((au e cs).length:Zw)else n)=((au e cs).length)from ZT (JI hn),xj (au e cs).length e cs ok,ya (Xa hn) a h1]
 .rw[show(if((au e cs).length)<(n:Zw)then((au e cs).length:Zw)else n)=n from ZY (by exact aV 0x7f9a98a61e6841 [_,_] hn),xj n e cs ok]
def c8(x:Z):Z:=⟨x.cps.pop⟩
def gX:Z:="\n"
theorem nA:gX=⟨#[10]⟩:=by decide+kernel
def eh(x:Z):Prop:=∃y,x=y++gX/\10∉R1
theorem jq(y:Z):c8 (y++gX)=y:=by
 rw[nA];unfold c8;apply Str.ext';show(y.cps++#[10]).pop=y.cps;simp
theorem vX:∀(a b r s:J U),10∉a->10∉b->a++10::r=b++10::s->a=b/\r=s:=by
 intro d;induction d with
 |Yk=>
  intro I;cases I with
  |Yk=>
   intro r s _ _ h;simpa using h|Zp y b=>
   intro r s _ hb h;simp at h;exact Zc h.1.symm (by intro q;exact hb (by simp[q]))
 |Zp x a e=>
  intro I;cases I with
  |Yk=>
   intro r s c _ h;simp at h;exact Zc h.1 (by intro q;exact c (by simp[q]))|Zp y b=>
   intro r s c hb h;simp only[WO,ff]at h;obtain⟨h1,h2⟩:=e b r s (λq=>c (ZX _ q)) (λq=>hb (ZX _ q)) h.2;exact⟨by rw[h.1,h1],h2⟩
theorem nh(x y:Z)(r:J Z):(SY gX (x::y::r)).cps.toList=Tf++10::(SY gX (y::r)).cps.toList:=by
 show(x++gX++SY gX (y::r)).cps.toList=_;rw[nA,Y1,Y1];simp
theorem uC:∀(a ys:J Z),a≠[]->ys≠[]->(∀x∈a,10∉Tf)->(∀y∈ys,10∉R1)->SY gX a=SY gX ys->a=ys:=by
 intro a;induction a with
 |Yk=>exactλys h=>Zc rfl h|Zp x a i=>
  intro ys O hn hx hy h;cases ys with|Yk=>exact Zc rfl hn|Zp y ys=>
   have b:=Zq (λs:Z=>R0) h;cases a with
   |Yk=>cases ys with
    |Yk=>exact Zq (λx=>[x]) h|Zp d r=>
     simp only[nh]at b;exact Zc (show 10∈Tf by rw[show Tf=(SY gX [x]).cps.toList from rfl,b];simp) (hx x (.head _))
   |Zp e r=>cases ys with
    |Yk=>
     simp only[nh]at b;exact Zc (show 10∈R1 by rw[show R1=(SY gX [y]).cps.toList from rfl,<-b];simp) (hy y (.head _))|Zp d q=>
     simp only[nh]at b;obtain⟨h1,h2⟩:=vX _ _ _ _ (hx x (.head _)) (hy y (.head _)) b;rw[(Str.ext' (Oq h1)),i (d::q) (Y9 _ _) (Y9 _ _) (λz c=>hx z (ZX _ c)) (λz c=>hy z (ZX _ c)) (Str.ext' (Oq h2))]
theorem wj:∀(l:J Z),(∀x∈l,eh x)->SY gX (A2 c8++[("")])=R4 "" l:=by
 intro I;induction I with
 |Yk=>
  intro _;exact rfl|Zp x b c=>cases b with
  |Yk=>
   intro h;obtain⟨y,rfl,_⟩:=h x (.head _);show SY gX [c8 (y++gX),""]=y++gX;rw[jq];show y++gX++""=y++gX;exact Str.append_empty _|Zp a r=>
   intro h;obtain⟨y,hy,_⟩:=h x (.head _);have e:R4 "" (x::a::r)=x++R4 "" (a::r):=by
    show zy "" (x::a::r)=x++zy "" (a::r);rw[tx,tx];show x++""++SY "" (a::r)=_;rw[show x++""=x from Str.append_empty x]
   rw[e,<-(c λz d=>h z (ZX _ d)),hy];show SY gX (c8 (y++gX)::c8 a::(r.map c8++[("")]))=y++gX++SY gX (c8 a::(r.map c8++[("")]));rw[jq];rfl
theorem uV(l:J Z)(h:∀x∈l,eh x):Sn (R4 "" l) gX=A2 c8++[("")]:=by
  refine uC _ _ ?_ (by simp) ?_ ?_ ?_;.intro q;have:=split_pos (R4 "" l) gX;rw[q]at this;exact Zc this Z'
  .rw[nA];exact StrLaws.split_free _ 10
  . intro y hy;rcases ZM hy with hy|hy;.obtain⟨x,hx,YA⟩:=Zl hy;rw[<-YA];obtain⟨z,YA,a⟩:=h x hx;rw[YA];rw[jq];exact a
    .rw[ZD hy];decide+kernel
  .rw[wj l h];exact StrLaws.join_split _ _
abbrev bg:Z:="***************"
def cw(p:J Z):J U:=(Zi z_).filter λk=>hE k ""==bg
def fN(p:J Z):J U:=(cw p).drop 1++[z_-1]
abbrev Hk:=U×Xe×Xe
def lp(fs:J Z)(st:Xe×U)(d:Hk):Xe×U:=(st.1++XM ((i' st.2).take (d.1-st.2))++UL d.2.1 d.2.2,d.1+d.2.1.length)
def cK(fs:J Z)(d:J Hk):Xe×U:=d.foldl (lp fs) ([],0)
def ba(fs:J Z)(d:J Hk):Xe:=(cK fs d).1++XM (i' (cK fs d).2)
structure rg(fs p:J Z)(a:J Hk):Prop where
 size:z_<=10000
 short:∀x∈p,ZO<=1000
 Yl:1<=z_
 len:Zx=(cw p).length
 W9:∀(j k e:U)(d:Hk),(cw p)[j]?=some k->(fN p)[j]?=Zb6->a[j]?=ZaD->BodyOk O' ((p.drop (k+1)).take (e-(k+1))) d.1 d.2.1 d.2.2
 IH:∀j:U,(cK fs (a.take j)).1.length+O'<=50000
theorem lM{d:J Hk}(h:d[a]?=Zaq):cK fs (SO (a+1))=lp fs (cK fs (SO a)) b:=by
 unfold cK;rw[X9,h,U_,WW];rfl
theorem tw(p:J Z):(cw p).length<=z_:=by
 refine YW (VS ..) ?_;rw[WX];exact ZV _
theorem zR{Ww:ZP}{d:J Hk}(D:c6 X NC)(hb:RX NC)(M:NC.mg "zip"=none/\NC.mb "zip"=Zbl)(r:Rm X m (j+1))(R:rg t e d)(Q:g (aS (ba t d)) E)(S:E Nb=none):EF X m (bW NI Pm Ww Nh z) (Yj ((bI (cy 15)).drop 4) (bW NI Pm Ww Nh z)) [("text",.str N),("first",.lst (ah t)),("parts",.lst (ah e)),("rows",ZbX),("here",.int (0:U)),("stars",.lst ((cw e).map λs=>.int (s:U)))] (Y8 E Nb (.list [])) λo T G=>Wz E G/\(match o with|.ret V=>g V E|_=>g .none E):=by
  walk_at"T";have hg:∀N,["len"].contains N=true->(bW NI Pm Ww Nh z).kindOf N=Zaa:=by
    intro N hx;simp only[Ws,VG,TR,V7]at hx;rw[hx];rfl
  have p:=R.size;have y:=tw e;walk_at"G";have n:∀a o,E a=Zai->a≠Nb:=λa o b q=>by rw[q,S]at b;cases b
  refine ZJ (EF.Fe NC X4 rfl M ?_);walk_at"a5";refine Zu (Z4 rfl ?_);walk_at"m";refine Zu (YU (t_ (Z4 rfl (U5 (X2 ⟨_,rfl,SU ⟨_,aF ..,?_,?_⟩⟩)))));.rw[Z2,af];exact cF 0x7ff978b21165e1 [10000,16777216] [_,_] [] p y
  refine UA (Zu (YU (r4 NC hb r rfl (eA ..) (by rw[af];exact O3 p) (X2 ⟨.int ((X1-1:U)),Zq (λA=>some (UD A)) (aV 0x1fdce2e0c5d30e42e [_] (R.pos)),Y6 ⟨FE,.lst ((fN e).map λs=>.int (s:U)),?_,Y6 ?_⟩⟩))))
  . rw[eN];refine R7 (gA rfl rfl ?_) ?_;rotate_left;.simp only[fN,ZE,o_,Yb,R']
    .rw[Ze,Z2,af];simp only[YE,UY];exact cF 0x1ffe5f0839b170b21165e1 [10000,16777216] [_,_] [] p y
  walk_at"b";have B:(cw e).length<=(fN e).length:=by rw[Z1,Ze,YY];exact cY 0x660e8b821 [_]
  refine(exI5 _ _ (λc l G=>l=([("text",.str N),("first",.lst (ah t)),("parts",.lst (ah e)),("rows",ZbX),("here",.int ((cK t (SO c)).2)),("stars",.lst ((cw e).map λs=>.int (s:U)))]:YS)/\G Nb=some (.list ((cK t (SO c)).1.map aO))/\Wz E G) (λc l=>aJ "end" (.int ((fN e).getD c 0)) (aJ "k" (.int ((cw e).getD c 0)) l)) _ ⟨rfl,?_,⟨rfl,aa ..,λa o b=>?_⟩,?_,?_,?_,?_,?_⟩);.rw[Z2,Z2];exact B
  .rw[ag (n a o b)];exact b
  .exact av Z_
  . intro k l C P4 f;obtain⟨rfl,h2,i⟩:=f;intro hs;refine⟨rfl,?_,λa o b=>?_⟩;.rw[hs Nb _ (aa ..)];exact h2
    .rw[hs a o (by rw[ag (n a o b)];exact b)];exact i a o b
  . intro k PM A hy F;walk_at"a6";rw[Zy]at hy F;obtain⟨PN,PR,YA⟩:=Y4 hy;rw[<-YA];obtain⟨PS,bj,YA⟩:=Y4 F;rw[<-YA];have e1:(cw e).getD k 0=PN:=by rw[Z0,PR];rfl
    have e2:(fN e).getD k 0=PS:=by rw[Z0,bj];rfl
    show TG _ _ _ _ _ _ (λl=>aJ "end" (.int ((fN e).getD k 0)) (aJ "k" (.int ((cw e).getD k 0)) l));rw[e1,e2];exact bb X4 (.inl rfl) (.inl rfl)
  . intro P5 k l C PT u f;obtain⟨rfl,h2,i⟩:=f;intro PW;rw[Z2]at u;have e1:(cw e)[k]?=some ((cw e).getD k 0):=by rw[Z0,Z6 u]at⊢;rfl
    walk_at"I";have e2:(fN e)[k]?=some ((fN e).getD k 0):=by rw[Z0,Z6 (Xr u B)]at⊢;rfl
    have PX:k<YG:=by rw[R.len];exact u
    have w:=Z6 PX;refine zQ D hb r rfl (R.body k _ _ _ e1 e2 w) p R.short h2 (R.rows k) λT PY=>⟨_,⟨rfl,?_,λa o b=>?_⟩,?_,λa o b=>?_⟩;.rw[aa,lM w];rfl
    .rw[ag (n a o b)];exact i a o b
    .rw[lM w];exact PY
    . have:a≠Nb:=λq=>by
        have:=PT a o b;rw[q,aa]at this;cases this
      rw[ag this];exact PW a o b
  . intro l C f;obtain⟨rfl,h2,i⟩:=f;rw[Z2,<-R.len,XT]at h2⊢;walk_at"a7";have x:=R.rows YG;rw[XT]at x;have I:(Xs (cK t d).2).length<=YF:=by rw[Ze];exact cY 0x190c441 [_,_]
    show EF X m _ _ _ _ _;refine SE (Q0 (YU (Z4 rfl ?_)));refine p5 [] (Xs (cK t d).2) (.str .) (λN l=>aJ "line" (.str N) l) (λO=>true) (λN=>aO (" ",N)) ⟨rfl,rfl,?_,?_,?_,?_⟩ (p4 X4 (t_ (Z4 rfl (U5 (Z4 rfl ⟨_,rfl,SU ⟨_,aF ..,?_,?_⟩⟩)))));.decide
    .decide
    .intro q hq;cases hq
    .intro q hq;exact nomatch hq
    .rw[az,af];exact a9 0x1fcbc597c041 [50000,16777216] [_,_] [] (R.rows 0)
    refine⟨by rw[eN];simp[ah],⟨by rw[af];(exact cF 0x1ffe5e3c88797c041 [50000,16777216] [_,_,_] [] x I),λPZ N hx=>UQ (.inl rfl),λN hx PM P6 b=>(by exact ax b),λPZ G N hx hG=>h5 ⟨rfl,rfl,λO=>XZ NC hb r (gl:=[]) (λP7 P0=>by simp at P0) Z_ ⟨rfl,rfl⟩⟩⟩,aS (ba t d),?_,i,Q⟩;rw[Ui (λO O=>rfl)];have P2:(Xs (cK t d).2).map (λN=>aO (" ",N))=(XM (Xs (cK t d).2)).map aO:=by rw[XM,Xn];rfl
    rw[P2];refine R7 (gA (dg h2) rfl ?_) ?_;rotate_left;.rw[<-ZE];rfl
    .rw[Z2,Z2,XM,Z2,af];exact cF 0x7ff97c061c88797c041 [50000,16777216] [_,_,_] [] x I
theorem yk(F:hT X fa (cy 15) pm cd Ww .none .none)(D:c6 X b)(hb:ZcX)(f:V0 "zip"=none/\Va "zip"=Zbl)(rm:Rm X m (n+2))(hx:ZO<=10000000)(R:rg fs (Sn x "\n") d)(j:g (aS (ba fs d)) E):b9 X m ZaA [.str x,.lst (ah fs)] E g:=by
  walk_at"t";refine hS b rm ["text","first"] (ym λO O=>rfl) Z' rfl ZbM λa=>?_;refine EF.back ?_;walk_at"p";have r:Rm X (Sg (bW pm cd Ww a fa)) (n+1):=WJ _;show EF X (Sg (bW pm cd Ww a fa)) (bW pm cd Ww a fa) _ _ _ _;generalize Sg (bW pm cd Ww a fa)=m at*;have hg:∀x,["len"].contains x=true->(bW pm cd Ww a fa).kindOf x=Zaa:=by
    intro x hx;simp only[Ws,VG,TR,V7]at hx;rw[hx];rfl
  have c:=R.size;refine ZJ (Zk (EV.split (Z4 rfl ⟨x,rfl,by rw[af];(exact a9 0x1fd45ef0e5e1 [10000000,16777216,2] [_] [] hx),Wc ⟨_,rfl,rfl,?_⟩⟩)) (.inr ⟨rfl,_,rfl,(Xh (by decide:0<1))⟩));generalize Sn x "\n"=p at*;refine ZJ (Zk (VZ (Y6 ⟨by decide,λu o=>?_⟩)) (.inl rfl));refine ZJ (Zk (X2 ?_) (.inl rfl));refine ZJ (EF.qM [("parts",.lst (ah p))] (Zi z_) (λi=>.int i) (λi l=>aJ "k" ZaN l) (λk=>hE k ""==bg) (λi=>.int i) ⟨rfl,rfl,?_,?_,?_,?_⟩ (.inl rfl) (gr.qK X4 b hb rfl D.AZ.1 D.AZ.2 (r4 b hb r rfl (eA ..) (by rw[af];exact O3 c) ⟨_,rfl,?_,?_⟩)));.decide
  .decide
  .intro q hq;rcases ZD hq with rfl;rfl
  .intro q hq;rcases ZD hq with rfl;exact(andI4 rfl (by show some S0≠some Um;decide) (.inl rfl) rfl)
  .exact a9 0x1fd3eb30e5e1 [10000,1099511627776] [_] [] c
  refine⟨by simp,λi x hx=>?_,⟨?_,λC x hx=>UQ (.inl rfl),λx hx=>?_,λC G x hx hG=>?_⟩,?_⟩;.rw[Vu (by have:=(ZN hx).1;simpa using this)]at hx;obtain rfl:=ZW hx;rfl
  .rw[WX,af];exact O3 c
  .exact av Z_
  . have s:=WY hx;have e:=Z6 s;have t:hE x ""=p[x]:=by rw[Z0,e];rfl
    refine Gp (XA r (Yq (Z4 rfl (Z4 rfl ⟨.str p[x],k7 e (a9 0x7f2f0e5e1 [10000,1000000] [_] [] c),Wc ⟨p[x]==bg,D2 G _ _,rfl,?_,λO=>Z4 rfl ⟨rfl,rfl⟩⟩⟩))));.show _=(hE x ""==bg);rw[t]
  exact zR D hb f r R j o
def ir(a:U):Z:=⟨#[a,32]⟩
def one(a:U):Z:=⟨#[a]⟩
theorem eH(h:N.cps.toList=a.cps.toList):N=a:=Str.ext' (Oq h)
theorem k9(x:Z)(lo a:Zs Zw):(eT x lo a).cps.toList=cC Tf lo a:=by unfold eT;simp
theorem j9(a:U)(y:Z):(ir a++y).cps.toList=a::32::R1:=by rw[Xu,Y1];rfl
theorem Et(a:U)(y:Z):cz (ir a++y)=(one a,y++"\n"):=by
 unfold cz;have h1:eT (ir a++y) none (some 1)=one a:=by
  apply eH;rw[k9,j9,show(1)=((1:U))from rfl,iV];rfl
 have h2:eT (ir a++y) (some 2) none=y:=by
  apply eH;rw[k9,j9,show(2)=((2:U))from rfl,eN];rfl
 rw[h1,h2]
theorem r9(x:Z):ry x=(x.cps.toList.take 3==[45,45,45]):=by
 have e:("---").cps.toList=[45,45,45]:=by decide+kernel
 have:(eT x none (some 3)).cps.toList=x.cps.toList.take 3:=by rw[k9,show(3)=((3:U):Zw)from rfl,iV]
 unfold ry;rw[Bool.eq_iff_iff,V7,V7,<-this,<-e];exact⟨λh=>by rw[h],λh=>eH h⟩
theorem DO(a:U)(y:Z):ry (ir a++y)=false:=by
 rw[r9,j9];cases R1 with|Yk=>simp|Zp c r=>simp
theorem Bf(s m:U):ry (bD s m)=false:=by
 rw[r9];unfold bD;rw[Xu,Xu,Y1,Y1];have e:("*** ").cps.toList=[42,42,42,32]:=by decide+kernel
 rw[e];rfl
theorem Cp(a:U)(y:Z):(ir a++y==bg)=false:=by
 rw[Uy];intro h;have b:=Zq (λs:Z=>R0) h;simp only[j9]at b;have e:Fl=Zt 15 42:=by decide+kernel
 rw[e]at b;simp[Zt]at b
theorem yp(s m:U):(bD s m==bg)=false:=by
 rw[Uy];intro h;have a:=Zq (λs:Z=>R0) h;simp only[bD,Xu,Y1]at a;have e:Fl=Zt 15 42:=by decide+kernel
 have b:("*** ").cps.toList=[42,42,42,32]:=by decide+kernel
 rw[e,b]at a;simp[Zt]at a
theorem zH(x:Z):("--- "++x==bg)=false:=by
 rw[Uy];intro h;have a:=Zq (λs:Z=>R0) h;simp only[Xu,Y1]at a;have e:Fl=Zt 15 42:=by decide+kernel
 have b:("--- ").cps.toList=[45,45,45,32]:=by decide+kernel
 rw[e,b]at a;simp[Zt]at a
def lS(WD:Z)(c:cg):Z:=if c.1≠[]/\c.2.1≠[]then("!")else WD
def bh(Yi:Y0)(WD:Z)(k0:J Z)(cs:Zb4):Xe:=XM k0++WL λc=>(dv Yi c).map (λx=>(lS WD c,x))++XM c.2.2
theorem H6:¬("!"=(" ")):=by rw[ay];decide
theorem nG(h:N≠" ")(c:cg):lS N c≠" ":=by
 unfold lS;refine bQ rfl (λO=>?_) λO=>?_;.exact H6
 .exact h
theorem mG:∀(i:J Z)(o w:Xe),UL (XM i++o) (XM i++w)=XM i++UL o w:=by
 intro I;induction I with
 |Yk=>
  intro _ _;exact rfl|Zp x i a=>
  intro o w;show UL ((" ",x)::(XM i++o)) ((" ",x)::(XM i++w))=((" "),x)::(XM i++UL o w);rw[xE rfl (λy os e=>(List.cons.inj e).1▸rfl) (λy os e=>(List.cons.inj e).1▸rfl)];exact Zq _ (a o w)
theorem wc(hs:s≠(" ")):∀(d:J Z)(o w:Xe),UL (U1 (λx=>(s,x))++o) w=U1 (λx=>(("-"),x))++UL o w:=by
 intro I;induction I with
 |Yk=>
  intro _ _;exact rfl|Zp a d b=>
  intro o w;show UL ((s,a)::(U1 (λx=>(s,x))++o)) w=(("-"),a)::(U1 (λx=>(("-"),x))++UL o w);rw[xA hs,b o w]
theorem tm(hs:s≠(" "))(b:∀x os,NV=x::os->x.1=" "):∀(d:J Z)(w:Xe),UL NV (U1 (λx=>(s,x))++w)=U1 (λx=>(("+"),x))++UL NV w:=by
 intro I;induction I with
 |Yk=>
  intro _;exact rfl|Zp a d c=>
  intro w;show UL NV ((s,a)::(U1 (λx=>(s,x))++w))=(("+"),a)::(U1 (λx=>(("+"),x))++UL NV w);rw[xH hs b,c w]
theorem tJ(hp:b≠(" "))(hq:q≠(" ")):∀(cs:Zb4),a7 cs->UL (WL λc=>(dv false c).map (λx=>(lS b c,x))++XM c.2.2) (WL λc=>(dv true c).map (λx=>(lS q c,x))++XM c.2.2)=WL aU:=by
  intro I;induction I with
  |Yk=>
    intro _;rw[Xj,Xj,Xj];rfl|Zp c cs d=>
    intro ok;obtain⟨_,he,t⟩:=ok.qS;rw[ZA,ZA,ZA,ZQ,ZQ,wc (nG hp c),tm (nG hq c),mG,d t];.unfold aU dv;simp only[T8,B_,eo,ZQ]
    . intro x os e;rcases he with rfl|he
      . refine v9 (c.2.2) (λa=>?_) λy ys a=>?_;.rw[a]at e;simp[XM]at e
        .rw[a]at e;cases e;rfl
      . refine v9 (c.2.2) (λa=>?_) λy ys a=>?_;.exact Zc a he
        .rw[a]at e;cases e;rfl
theorem wR(hp:a≠(" "))(hq:q≠(" "))(k0:J Z)(cs:Zb4)(ok:a7 cs):UL (bh false a k0 cs) (bh true q k0 cs)=Zdc:=by
 unfold au;rw[mG,tJ hp hq cs ok]
theorem mJ(i:J Z):(XM i).filter (λr=>r.1==(" "))=XM i:=by
 rw[List.filter_eq_self];intro r hr;obtain⟨x,_,YA⟩:=Zl hr;rw[<-YA];exact Ve _
theorem wa(hs:s≠(" "))(d:J Z):(U1 λx=>(s,x)).filter (λr=>r.1==(" "))=[]:=by
 rw[List.filter_eq_nil_iff];intro r hr;obtain⟨x,_,YA⟩:=Zl hr;rw[<-YA];simpa using hs
theorem sC(hq:q≠(" "))(k0:J Z):∀(cs:Zb4),bB Yi cs=false->(bh (!Yi) q k0 cs).filter (λr=>r.1==(" "))=bh Yi a k0 cs:=by
 intro cs h;rw[VM,mJ];congr 1;induction cs with
 |Yk=>rfl|Zp c cs i=>
  unfold bB at h;rw[UI,Bool.or_eq_false_iff]at h;rw[ZA,ZA,VM,VM,wa (nG hq c),mJ,i h.2];have:dv Yi c=[]:=by simpa using h.1
  rw[this];rfl
theorem any_some(h:bB Yi cs=true):bh Yi b k0 cs≠[]:=by
 unfold bB at h;obtain⟨c,a,h⟩:=qs h;intro e;have e2:=(Xy e).2;rw[List.flatMap_eq_nil_iff]at e2;rw[(List.map_eq_nil_iff.mp (Xy (e2 c a)).1)]at h;exact Zc h Z'
theorem Fu(ok:a7 cs)(e:cs≠[]):bB false cs=true\/bB true cs=true:=by cases cs with
  |Yk=>exact Zc rfl e|Zp c cs=>
    have h:=ok.qS.1;unfold bB;rw[UI,UI];rcases h with h|h
    . left;have:(dv false c).isEmpty=false:=by
        refine v9 (c.1) (λd=>?_) λa b d=>?_;.exact Zc d h
        .simp[dv,d]
      rw[this];rfl
    . right;have:(dv true c).isEmpty=false:=by
        refine v9 (c.2.1) (λd=>?_) λa b d=>?_;.exact Zc d h
        .simp[dv,d]
      rw[this];rfl
theorem qW(hp:a≠(" "))(hq:q≠(" "))(k0:J Z)(ok:a7 cs)(c:cs≠[]):SD (if bB false cs then bh false a k0 cs else[]) (if bB true cs then bh true q k0 cs else[])=bh false a k0 cs/\SD (if bB true cs then bh true q k0 cs else[]) (if bB false cs then bh false a k0 cs else[])=bh true q k0 cs:=by cases b:bB false cs with
 |false=>
  have ht:=(Fu ok c).resolve_left (by rw[b];decide);rw[ht];exact⟨sC hq k0 cs b,fJ (any_some ht)⟩|true=>
  refine⟨fJ (any_some b),?_⟩;cases ht:bB true cs with|false=>exact sC hp k0 cs ht|true=>exact fJ (any_some ht)
theorem dU:"! "=ir 33/\"- "=ir 45/\"+ "=ir 43/\"  "=ir 32/\"!"=one 33/\"-"=one 45/\"+"=one 43/\" "=one 32:=by refine⟨?_,?_,?_,?_,?_,?_,?_,?_⟩<;>decide+kernel
theorem uB(a:U)(h:eh x):∃y,c8 (ir a++x)=ir a++y/\y++"\n"=x/\10∉R1:=by
 obtain⟨y,YA,hy⟩:=h;rw[YA];refine⟨y,?_,rfl,hy⟩;have:ir a++(y++gX)=(ir a++y)++gX:=by
  apply eH;simp only[Xu,Y1,ZQ]
 rw[this,jq]
theorem tn(a:U)(h:eh x):cz (c8 (ir a++x))=(one a,x):=by
 obtain⟨y,e,e2,_⟩:=uB a h;rw[e,Et,e2]
theorem Gc(b:a≠10)(h:eh x):eh (ir a++x):=by
  obtain⟨y,YA,hy⟩:=h;rw[YA];refine⟨ir a++y,?_,?_⟩;.apply eH;simp only[Xu,Y1,ZQ]
  . rw[j9];intro q;rcases ZI q with q|q;.exact b hC
    . rcases ZI q with q|q;.cases q
      .exact hy q
structure C8(x:Z):Prop where
 ln:eh x
 cut:ry (c8 x)=false
 star:(c8 x==bg)=false
theorem Cj(b:a≠10)(h:eh x):C8 (ir a++x):=by
 obtain⟨y,e,e2,_⟩:=uB a h;exact⟨Gc b h,by rw[e];exact DO a y,by rw[e];exact Cp a y⟩
def kU(k0:J Z)(cs:Zb4):Prop:=(∀x∈k0,eh x)/\∀c∈cs,(∀x∈c.1,eh x)/\(∀x∈c.2.1,eh x)/\∀x∈c.2.2,eh x
theorem kU.side(h:kU k0 cs)(a:c∈cs)(Yi:Y0):∀x∈dv Yi c,eh x:=by
 cases Yi;.exact(h.2 c a).1
 .exact(h.2 c a).2.1
theorem lI(b:a≠10)(hp:N=ir a)(c:cg):∃d,d≠10/\gN N c=ir d/\lS (one a) c=one d:=by
 unfold gN lS;split;.exact⟨33,by decide,dU.1,dU.2.2.2.2.1⟩
 .exact⟨a,b,hp,rfl⟩
theorem Dm(f:a≠10)(hp:N=ir a)(h:kU k0 cs):∀x∈dD Yi N k0 cs,C8 x:=by
  intro x hx;have bl:∀i:J Z,(∀x∈i,eh x)->∀x∈ei i,C8 x:=λi g x hx=>by
    obtain⟨y,hy,YA⟩:=Zl hx;rw[<-YA];exact Cj Z' (g y hy)
  rcases ZM hx with hx|hx;.exact bl k0 h.1 x hx
  . obtain⟨c,b,hx⟩:=WM hx;rcases ZM hx with hx|hx;.obtain⟨y,hy,YA⟩:=Zl hx;rw[<-YA];obtain⟨d,hd,e,_⟩:=lI f hp c;rw[e];exact Cj hd (h.side b Yi y hy)
    .exact bl _ (h.2 c b).2.2 x hx
theorem yB(f:a≠10)(hp:N=ir a)(h:kU k0 cs):((dD Yi N k0 cs).map c8).map cz=bh Yi (one a) k0 cs:=by
 have bl:∀i:J Z,(∀x∈i,eh x)->((ei i).map c8).map cz=XM i:=λi g=>by
  rw[Xn,Xn];apply Vt;intro x hx;show cz (c8 ("  "++x))=_;rw[dU.2.2.2.1,tn 32 (g x hx),dU.2.2.2.2.2.2.2]
 rw[ZE,ZE,bl k0 h.1];congr 1;have b:∀c∈cs,((((dv Yi c).map (gN N c++.)++ei c.2.2)).map c8).map cz=(dv Yi c).map (λx=>(lS (one a) c,x))++XM c.2.2:=λc b=>by
  rw[ZE,ZE,bl _ (h.2 c b).2.2];congr 1;rw[Xn,Xn];apply Vt;intro x hx;obtain⟨d,hd,e,e2⟩:=lI f hp c;show cz (c8 (gN N c++x))=_;rw[e,e2,tn d (h.side b Yi x hx)]
 rw[List.map_flatMap,List.map_flatMap];rw[List.flatMap_def,List.flatMap_def,Vt b]
def CB(q:U)(l:J Z):J U:=VH (λx k q=>if(x==bg)=true then q::k (q+1)else k (q+1)) (λO=>[]) q
theorem uR(q a x):CB q (a::x)=if(a==bg)=true then q::CB (q+1) x else CB (q+1) x:=rfl
theorem yz:∀(x:J Z)(q:U),((Zi ZO).filter λk=>x.getD k ""==bg).map (.+q)=CB q x:=by
 intro I;induction I with
 |Yk=>
  intro _;exact rfl|Zp a x b=>
  intro q;rw[YE,Sf,List.filter_cons,uR,<-b (q+1)];have e:((List.map Nat.succ (Zi ZO)).filter λk=>(a::x).getD k ""==bg).map (.+q)=((Zi ZO).filter λk=>x.getD k ""==bg).map (.+(q+1)):=by
   rw[List.filter_map,Xn];have:((λk=>(a::x).getD k ""==bg)∘Nat.succ)=λk=>x.getD k ""==bg:=rfl;apply Vt;intro k O;show k+1+q=k+(q+1);exact cY 0x6e1070830141c1 [_,_]
  show List.map (.+q) (if(a==bg)=true then 0::_ else _)=_;by_cases h:(a==bg)=true;.rw[ZT h,ZT h,Yb,e,Wi]
  .rw[ZY h,ZY h,e]
theorem DC(x:J Z):cw x=CB 0 x:=by
 rw[<-yz,cw];exact(List.map_id _).symm
theorem qU:∀(x ys:J Z)(q:U),CB q (x++ys)=CB q x++CB (q+ZO) ys:=by
 intro I;induction I with
 |Yk=>
  intro _ _;exact rfl|Zp b x a=>
  intro ys q;rw[WO,uR,uR,a ys (q+1),YE,show q+1+ZO=q+(ZO+1)by(exact cY 0x6e1070830141c1 [_,_])];split<;>rfl
theorem n5:∀(x:J Z)(q:U),(∀a∈x,(a==bg)=false)->CB q x=[]:=by
 intro I;induction I with
 |Yk=>
  intro _ _;exact rfl|Zp a x b=>
  intro q h;rw[uR,h a (.head _),ZY Z'];exact b (q+1) λy hy=>h y (ZX _ hy)
def c5(s:J (J Z)):J Z:=s.flatMap (bg::.)
def pA(p:U)(l:J (J Z)):J U:=VH (λs k p=>p::k (p+1+ZR)) (λO=>[]) p
theorem rL(a s r):pA a (s::r)=a::pA (a+1+ZR) r:=rfl
theorem Ag:∀(s:J (J Z))(a:U),(pA a s).length=ZR:=by
 intro I;induction I with
 |Yk=>
  intro _;exact rfl|Zp c r b=>
  intro a;rw[rL,YE,YE,b]
theorem AU:∀(a:J (J Z))(q:U),(∀s∈a,∀x∈s,(x==bg)=false)->CB q (c5 a)=pA q a:=by
 intro I;induction I with
 |Yk=>
  intro _ _;exact rfl|Zp s r b=>
  intro q h;show CB q (bg::s++c5 r)=_;rw[qU,uR,ZT (Ve _),n5 s _ (h s (.head _)),b _ (λt ht=>h t (ZX _ ht)),rL,YE,show q+(ZR+1)=q+1+ZR by(exact E3)];rfl
theorem j5(s:J Z)(r:J (J Z)):c5 (s::r)=bg::(s++c5 r):=rfl
theorem Cf:∀(d:J (J Z))(pre tl:J Z)(a k c:U),(pA UC d)[a]?=some k->((pA UC d).drop 1++[UC+(c5 d).length])[a]?=Zao->∃b,d[a]?=Zaq/\((pre++(c5 d++tl)).drop (k+1)).take (c-(k+1))=b:=by
 intro I;induction I with
 |Yk=>
  intro _ _ _ _ _ h _;exact ax h|Zp s r i=>
  intro V j l;revert V j;cases l with
  |V1=>
   intro pre tl k c h1 h2;have m:=ZW h1;have he:c=UC+1+ZR:=by
    rw[rL,List.drop_one,List.tail_cons]at h2;cases r with|Yk=>rw[<-ZW h2];simp[c5];exact E3|Zp e f=>exact(ZW h2).symm
   refine⟨s,rfl,?_⟩;subst m he;rw[j5,show pre++(bg::(s++c5 r)++tl)=(pre++[bg])++(s++(c5 r++tl))by simp];rw[fI (by simp),Vn (by simp),Yh,show UC+1+ZR-(UC+1)=ZR by exact cY 0x6c510c041 [_,_],List.take_left]|VF a=>
   intro pre tl k c h1 h2;have hl:(pre++bg::s).length=UC+1+ZR:=by simp;exact E3
   have g:(pA (pre++bg::s).length r)[a]?=some k:=by rw[hl];exact h1
   have n:((pA (pre++bg::s).length r).drop 1++[(pre++bg::s).length+(c5 r).length])[a]?=Zao:=by
    rw[rL,List.drop_one,List.tail_cons,<-hl]at h2;cases r with
    |Yk=>exact ax g|Zp e f=>
     rw[show UC+(c5 (s::e::f)).length=(pre++bg::s).length+(c5 (e::f)).length by rw[hl,j5 s];simp;(exact cY 0x6e0380a0e0c20e80c41 [_,_,_])]at h2;exact h2
   walk_at"b";obtain⟨b,hb,h⟩:=i (pre++bg::s) tl a k c g n;refine⟨b,hb,?_⟩;rw[j5,show pre++(bg::(s++c5 r)++tl)=(pre++bg::s)++(c5 r++tl)by simp];exact h
theorem De(pre:J Z)(s:J (J Z))(hp:∀x∈pre,(x==bg)=false)(hs:∀a∈s,∀x∈a,(x==bg)=false):cw (pre++(c5 s++[("")]))=pA UC s/\∀(j k e:U),(cw (pre++(c5 s++[("")])))[j]?=some k->(fN (pre++(c5 s++[("")])))[j]?=Zb6->∃b,s[j]?=Zaq/\((pre++(c5 s++[("")])).drop (k+1)).take (e-(k+1))=b:=by
  have e1:cw (pre++(c5 s++[("")]))=pA UC s:=by
    rw[DC,qU,qU,n5 pre _ hp,AU s _ hs,n5 [""] _ (by intro x hx;rw[ZD hx];decide+kernel)];simp
  refine⟨e1,λj k e h1 h2=>Cf s pre [""] j k e ?_ ?_⟩;.rw[<-e1];exact h1
  .rw[<-h2,fN,e1];congr 2;simp
theorem nE(n:U):(gK (n:Zw)).cps.toList=(Nat.toDigits 10 n).map Char.toNat:=by
 show(WZ (b5 (rv n))).cps.toList=_;rw[text_ofNat]
theorem wk{a:Char}(h:a.toNat=b.toNat):a=b:=Char.ext (UInt32.toNat_inj.mp h)
theorem nX(h:gK (j:Zw)=gK (p:Zw)):j=p:=by
 have h1:=Zq (λs:Z=>R0) h;simp only[nE]at h1;have h2:=(List.map_inj_right λx y=>wk).mp h1;have a:=Zq (λl=>Nat.ofDigitChars 10 l 0) h2;simpa using a
theorem ej(h:x∈(gK (j:Zw)).cps.toList):48<=x/\x<=57:=by
 rw[nE]at h;obtain⟨c,a,YA⟩:=Zl h;rw[<-YA];have hd:=Nat.isDigit_of_mem_toDigits Z' Z' a;simp only[Char.isDigit,YK,XU]at hd;exact⟨by simpa using UInt32.le_iff_toNat_le.mp hd.1,by simpa using UInt32.le_iff_toNat_le.mp hd.2⟩
theorem Gl(k:U):∀(a b r s:J U),k∉a->k∉b->a++k::r=b++k::s->a=b:=by
 intro d;induction d with
 |Yk=>
  intro I;cases I with
  |Yk=>
   intro r s _ _ h;exact rfl|Zp y b=>
   intro r s _ hb h;simp at h;exact Zc h.1.symm (by intro q;exact hb (by simp[q]))
 |Zp x a e=>
  intro I;cases I with
  |Yk=>
   intro r s c _ h;simp at h;exact Zc h.1 (by intro q;exact c (by simp[q]))|Zp y b=>
   intro r s c hb h;simp only[WO,ff]at h;rw[h.1,e b r s (λq=>c (ZX _ q)) (λq=>hb (ZX _ q)) h.2]
theorem hX(a m:U):(aN a m).cps.toList=if m<2 then(gK ((a+m:U):Zw)).cps.toList else(gK ((a+1:U):Zw)).cps.toList++44::(gK ((a+m:U):Zw)).cps.toList:=by
 walk_at"i";unfold aN;have e:(",").cps.toList=[44]:=by decide+kernel
 by_cases h:m<2;.rw[ZT (by exact a9 0xfe9f30e9e1 [2,2] [_] [] h),ZT h];rfl
 .rw[ZY (by exact a9 0x3fcd3e61e69e1 [2,2] [_] [] h),ZY h,Xu,Xu,Y1,Y1,e,ZQ];rfl
theorem qO(h:(aN j Q).cps.toList=(aN p Q).cps.toList):j=p:=by
  rw[hX,hX]at h;by_cases hm:Q<2;.rw[ZT hm,ZT hm]at h;have:=nX (eH h);exact aV 0x7f630ee021c041 [_,_,_] this
  .rw[ZY hm,ZY hm]at h;have:=Gl 44 _ _ _ _ (λq=>by have:=ej q;exact a9 0x1f4f7217e5ef [48,44,44] [_] [] this) (λq=>by have:=ej q;exact a9 0x1f4f7217e5ef [48,44,44] [_] [] this) h;have:=nX (eH this);exact aV 0x7f620ee0e141c1 [_,_] this
theorem jR(a m:U):10∉(aN a m).cps.toList:=by
  rw[hX];refine bQ rfl (λO=>?_) λO=>?_;.intro q;have:=ej q;exact JK this
  . intro q;rcases ZM q with q|q;.have:=ej q;exact JK this
    . rcases ZI q with q|q;.cases q
      .have:=ej q;exact JK this
theorem gC(a m:U):(bD a m).cps.toList=[42,42,42,32]++(aN a m).cps.toList++[32,42,42,42,42]:=by
 have e:("*** ").cps.toList=[42,42,42,32]:=by decide+kernel
 have b:(" ****").cps.toList=[32,42,42,42,42]:=by decide+kernel
 rw[Y1,Y1,e,b]
theorem oJ(h:bD a c=bD b c):a=b:=by
 have h1:=Zq (λs:Z=>R0) h;simp only[gC]at h1;exact qO (List.append_cancel_left (List.append_cancel_right h1))
theorem rC(h:a<=n):∃XE,jd n (bD a b) b=a::XE:=by
 unfold jd;refine fV (Nat.lt_succ_of_le h) (Ve _) λi c=>?_;rw[Uy];intro e;have:=oJ e;exact bw 0x1ffa76116841 [_,_] c this
def cV(a m:U):Z:=("--- ")++aN a m++(" ----")
theorem oA(a m:U):(cV a m).cps.toList=[45,45,45,32]++(aN a m).cps.toList++[32,45,45,45,45]:=by
 have e:("--- ").cps.toList=[45,45,45,32]:=by decide+kernel
 have b:(" ----").cps.toList=[32,45,45,45,45]:=by decide+kernel
 rw[Y1,Y1,e,b]
theorem Bk(a m:U):ry (cV a m)=true:=by rw[r9,oA];rfl
theorem yf(a m:U):(cV a m==bg)=false:=by
 have e:cV a m="--- "++(aN a m++" ----"):=by
  apply eH;unfold cV;simp only[Xu,Y1,ZQ]
 rw[e,zH]
def cA(Yi:Y0)(WD:Z)(k0:J Z)(cs:Zb4):J Z:=if bB Yi cs then dD Yi WD k0 cs else[]
def lu(h:Hn)(o w:U):J Z:=bD o (WR X5)::((cA false "- " zz R2).map c8++cV w (WB X5)::(cA true "+ " zz R2).map c8)
theorem cR(a b:Xe):WR (a++b)=WR a+WR b:=nC
theorem dB(a b:Xe):WB (a++b)=WB a+WB b:=nC
theorem jh(i:J Z):WR (XM i)=Xw:=by
 unfold WR XM;rw[TY,S'];intro x O;show(!(" "==("+")))=true;decide+kernel
theorem lD(i:J Z):WB (XM i)=Xw:=by
 unfold WB XM;rw[TY,S'];intro x O;show(!(" "==("-")))=true;decide+kernel
theorem kS(c:cg):WR (aU c)=c.1.length+c.2.2.length:=by
 rw[cR,cR,jh];have h1:WR (c.1.map λx=>("-",x))=c.1.length:=by
  unfold WR;rw[TY,S'];intro x O;show(!("-"=="+"))=true;decide+kernel
 have h2:WR (c.2.1.map λx=>("+",x))=0:=by
  unfold WR;rw[TY,List.countP_eq_zero.mpr];intro x O;show¬(!("+"==("+")))=true;simp
 exact bw 0x1ffee041c09008b6316da1 [_,_,_,_] h2 h1
theorem mL(c:cg):WB (aU c)=c.2.1.length+c.2.2.length:=by
 rw[dB,dB,lD];have h1:WB (c.1.map λx=>("-",x))=0:=by
  unfold WB;rw[TY,List.countP_eq_zero.mpr];intro x O;show¬(!("-"==("-")))=true;simp
 have h2:WB (c.2.1.map λx=>("+",x))=c.2.1.length:=by
  unfold WB;rw[TY,S'];intro x O;show(!("+"=="-"))=true;decide+kernel
 exact bw 0x1ffee041c0901076316da1 [_,_,_,_] h1 h2
theorem pC(p:Z)(k0:J Z)(cs:Zb4):(bh false p k0 cs).length=WR Zdc:=by
 rw[Z1,cR,jh,cx];congr 1;induction cs with|Yk=>rfl|Zp c cs i=>rw[ZA,ZA,Z1,cR,i,kS,Z1,cx,Z2];rfl
theorem u9(b:a≠10)(hp:N=ir a)(h:kU k0 cs):((cA Yi N k0 cs).map c8).map cz=if bB Yi cs then bh Yi (one a) k0 cs else[]:=by
 unfold cA;split;.exact yB b hp h
 .rfl
theorem mU(b:a≠10)(hp:N=ir a)(h:kU k0 cs):∀x∈cA Yi N k0 cs,C8 x:=by
 unfold cA;refine bQ rfl (λO=>?_) λO=>?_;.exact Dm b hp h
 .intro x hx;cases hx
theorem DE(ok:a7 R2)(b:R2≠[])(hl:kU zz R2)(c:a<=n):BodyOk n (lu h a d) a (bh false "-" zz R2) (bh true "+" zz R2):=by
  obtain⟨_,m,e,_,_,g,i,_⟩:=dU;have e1:=u9 (Yi:=false) Z' m hl;have e2:=u9 (Yi:=true) Z' e hl;rw[<-g]at e1;rw[<-i]at e2;have f:=qW pI qC zz ok b;rw[<-e1,<-e2]at f;obtain⟨XE,hr⟩:=rC c;have hm:(SD (((cA false "- " zz R2).map c8).map cz) (((cA true "+ " zz R2).map c8).map cz)).length=WR X5:=by
    walk_at"i";rw[f.1,pC];rfl
  have B:=BodyOk.mk (hd:=bD a (WR X5)) (d:=cV d (WB X5)) (os:=(cA false "- " zz R2).map c8) (λx hx=>by
      refine(ZI hx).elim (λYA=>?_) λhx=>?_;.rw[YA];exact Bf ..
      .obtain⟨y,hy,YA⟩:=Zl hx;rw[<-YA];exact(mU Z' m hl y hy).cut) (Bk ..) (by rw[hm];exact hr);rw[f.1,f.2]at B;exact B
theorem yH(hl:kU zz R2):∀x∈lu h b c,(x==bg)=false:=by
  obtain⟨_,m,a,_,_,d,e,_⟩:=dU;intro x hx;refine(ZI hx).elim (λYA=>?_) λhx=>?_;.rw[YA];exact yp ..
  . rcases ZM hx with hx|hx;.obtain⟨y,hy,YA⟩:=Zl hx;rw[<-YA];exact(mU Z' m hl y hy).star
    . refine(ZI hx).elim (λYA=>?_) λhx=>?_;.rw[YA];exact yf ..
      .obtain⟨y,hy,YA⟩:=Zl hx;rw[<-YA];exact(mU Z' a hl y hy).star
def fW(o w:U)(l:J Hn):J (J Z):=VH (λh k o w=>lu h (o+Y7) (w+Y7)::k (o+Y7+WR X5) (w+Y7+WB X5)) (λO O=>[]) o w
theorem A5(a b h r):fW a b (h::r)=lu h (a+Y7) (b+Y7)::fW (a+Y7+WR X5) (b+Y7+WB X5) r:=rfl
def vU(o:U)(l:J Hn):J Hk:=VH (λh k o=>(o+Y7,bh false "-" zz R2,bh true "+" zz R2)::k (o+Y7+WR X5)) (λO=>[]) o
structure rT(h:Hn):Prop where
 ok:a7 R2
 ne:R2≠[]
 ln:kU zz R2
variable{NN:Hn}
theorem tv(ok:a7 ID)(ne:ID≠[])(Yi:Y0)(WD:Z):half Of Yi WD=cA Yi WD NN.k0 ID:=zX Yi WD NN.k0 ID ok ne
theorem lits:"***************\n"=bg++gX/\" ****\n"=" ****"++gX/\" ----\n"=" ----"++gX/\"*** \n"="*** "++gX/\"--- \n"="--- "++gX:=by refine⟨?_,?_,?_,?_,?_⟩<;>decide+kernel
theorem Iw(a b c d:Z):a++b++(c++d)=a++b++c++d:=by
 apply eH;simp only[Xu,Y1,ZQ]
theorem qc(ok:a7 ID)(ne:ID≠[])(o w:U):eP Of (o:U) (w:U)=(bg++gX)::(bD o (WR Of)++gX)::(cA false "- " NN.k0 ID++(cV w (WB Of)++gX)::cA true "+ " NN.k0 ID):=by
 unfold eP cP;rw[tv ok ne,tv ok ne,lits.1,lits.2.1,lits.2.2.1,Iw,Iw]at⊢;rfl
theorem uz(a:rT h)(o w:U):eP X5 (o:U) (w:U)=(bg++gX)::(bD o (WR X5)++gX)::(cA false "- " zz R2++(cV w (WB X5)++gX)::cA true "+ " zz R2):=qc a.ok a.ne o w
theorem mO(h:10∉a.cps.toList):eh (a++gX):=⟨a,rfl,h⟩
theorem yi(o m:U):10∉(bD o m).cps.toList:=by
  rw[gC];intro q;rcases ZM q with q|q
  . rcases ZM q with q|q;.exact Zc q Z'
    .exact jR _ _ q
  .exact Zc q Z'
theorem yY(o m:U):10∉(cV o m).cps.toList:=by
  rw[oA];intro q;rcases ZM q with q|q
  . rcases ZM q with q|q;.exact Zc q Z'
    .exact jR _ _ q
  .exact Zc q Z'
theorem wW:10∉Fl:=by
 have e:Fl=Zt 15 42:=by decide+kernel
 rw[e];decide
theorem BM(a:rT h)(o w:U):∀x∈eP X5 (o:U) (w:U),eh x:=by
  obtain⟨_,m,b,_⟩:=dU;rw[uz a];intro x hx;refine(ZI hx).elim (λYA=>?_) λhx=>?_;.rw[YA];exact mO wW
  . refine(ZI hx).elim (λYA=>?_) λhx=>?_;.rw[YA];exact mO (yi _ _)
    . rcases ZM hx with hx|hx;.exact(mU Z' m a.ln x hx).ln
      . refine(ZI hx).elim (λYA=>?_) λhx=>?_;.rw[YA];exact mO (yY _ _)
        .exact(mU Z' b a.ln x hx).ln
theorem wJ(a:rT h)(o w:U):(eP X5 (o:U) (w:U)).map c8=bg::lu h o w:=by
 rw[uz a,lu];simp only[Yb,ZE,jq]
theorem yl:∀(hs:J Hn)(o w:U),(∀h∈hs,rT h)->(bH (o:U) (w:U) hs).map c8=c5 (fW o w hs)/\∀x∈bH (o:U) (w:U) hs,eh x:=by
 intro I;induction I with
 |Yk=>
  intro _ _ _;exact⟨rfl,λx hx=>jK _ hx⟩|Zp h r c=>
  intro o w a;walk_at"y";have e1:((o:U))+Y7=((o+Y7:U):Zw):=by exact Ec
  have e2:((w:U))+Y7=((w+Y7:U):Zw):=by exact Ec
  have e:((o+Y7:U))+WR X5=((o+Y7+WR X5):Zw):=by exact Ec
  have d:((w+Y7:U))+WB X5=((w+Y7+WB X5):Zw):=by exact Ec
  have b:=a h (.head _);have i:=c (o+Y7+WR X5) (w+Y7+WB X5) λx hx=>a x (ZX _ hx);rw[km,e1,e2,A5,ZE,wJ b,i.1];refine⟨rfl,λx hx=>?_⟩;refine(ZM hx).elim (λhx=>?_) λhx=>?_;.exact BM b _ _ x hx
  .exact i.2 x hx
theorem wZ:∀(hs:J Hn)(o w:U),(fW o w hs).length=hs.length:=by
 intro hs;induction hs with|Yk=>exactλO O=>rfl|Zp h r i=>exactλo w=>Zq (.+1) (i _ _)
theorem Cg:∀(hs:J Hn)(o:U),(vU o hs).length=hs.length:=by
 intro hs;induction hs with|Yk=>exactλO=>rfl|Zp h r i=>exactλo=>Zq (.+1) (i _)
theorem uX:∀(hs:J Hn)(o w:U),(∀h∈hs,rT h)->∀s∈fW o w hs,∀x∈s,(x==bg)=false:=by
 intro I;induction I with
 |Yk=>
  intro _ _ _;exactλs hs=>by cases hs|Zp h r b=>
  intro o w a;exactλs hs=>by
   refine(ZI hs).elim (λYA=>?_) λhs=>?_;.rw[YA];exact yH (a h (.head _)).ln
   .exact b _ _ (λx hx=>a x (ZX _ hx)) s hs
def kh(l:J Hn):U:=VH (λh k=>Y7+WR X5+k) 0
theorem kZ(h r):kh (h::r)=Y7+WR X5+kh r:=rfl
theorem yU:∀(hs:J Hn)(o w n:U),(∀h∈hs,rT h)->o+kh hs<=n->∀(j:U)(b:J Z)(d:Hk),(fW o w hs)[j]?=Zaq->(vU o hs)[j]?=ZaD->BodyOk n b d.1 d.2.1 d.2.2:=by
 intro I;induction I with
 |Yk=>
  intro _ _ _ _ _ j b d hb _;exact ax hb|Zp h r f=>
  intro V g i k l m;revert V g i k l;cases m with
  |V1=>
   intro o w n c a b d hb hd;have e:=c h (.head _);rw[<-(ZW hb)];rw[<-(ZW hd)];rw[kZ]at a;exact DE e.ok e.ne e.ln (aV 0x7f25808392c20480c41 [_,_,_,_,_] a)|VF j=>
   intro o w n c a b d hb hd;rw[kZ]at a;exact f _ _ n (λx hx=>c x (ZX _ hx)) (LW a) j b d hb hd
def z4(sc:J Zw):U:=(sc.headD 0).natAbs/2
def bM(sc:J Zw):U:=(sc.headD 0).natAbs%2
def SX(sc:J Zw):J Zw:=if((i_ 1).take 62).isEmpty=false then(i_ 1).take 62 else if sc.isEmpty=false then sc else[1,26]
structure Ent where
 kind:Zw
 size:U
 og:Z
def i4(e:Ent):J Z:=Zt I4 (e.line++nl)
def zx(e:Ent):J Z:=if e.kind≠2 then i3 else[]
def Wl(e:Ent):J Z:=if e.kind≠1 then i3 else[]
structure iA(e:Ent):Prop where
 k0:0<=e.kind
 k2:e.kind<=2
 s1:1<=I4
 s8:I4<=8
 nl:yM e.line
 l3:e.line.length<=3
theorem iA.al(h:iA b):b.a.length<=8:=by
 unfold zx i4;refine bQ rfl (λO=>?_) λO=>?_;.rw[XR];exact h.s8
 .exact Zg _
theorem iA.bl(h:iA a):a.b.length<=8:=by
 unfold Wl i4;refine bQ rfl (λO=>?_) λO=>?_;.rw[XR];exact h.s8
 .exact Zg _
theorem iO{α:Type}{f:α->J Z}:∀{d:J α},(∀e∈d,(f e).length<=8)->(Yp f).length<=8*YG:=by
 intro I;induction I with
 |Yk=>
  intro _;exact ZV _|Zp e d a=>
  intro h;rw[Z1];have:=h e (Y5 ..);have:=a λx hx=>h x (ZX _ hx);exact cF 0x1ffe65070a011e5e3cc841 [8,8,8] [_,_,_] [] this ‹_›
theorem z7(i:Zw):(if i<0 then-i else i).fdiv 2=((kc/2:U):Zw):=by
 have:(if i<0 then-i else i)=kc:=by split<;>(first|exact a9 0x3fb9d558569aa [] [] [_] ‹_›|exact a9 0x3fb9d54ae69aa [] [] [_] ‹_›)
 rw[this,I1 _ Z'];exact Ki
theorem Bj(i:Zw):(if i<0 then-i else i).fmod 2=((kc%2:U):Zw):=by
 have:(if i<0 then-i else i)=kc:=by split<;>(first|exact a9 0x3fb9d558569aa [] [] [_] ‹_›|exact a9 0x3fb9d54ae69aa [] [] [_] ‹_›)
 rw[this,Int.fmod_eq_emod_of_nonneg _ Z'];exact JZ
theorem fh(h:zb<=63):(SX sc).length<=62:=by
  unfold SX;refine bQ rfl (λO=>?_) λh1=>?_;.rw[Zo];exact cY 0x190d841 [_,_]
  . have a:(i_ 1).take 62=[]:=by simpa using h1
    refine bQ rfl (λO=>?_) λO=>?_;.have:=Zq Sr a;rw[Zo,Ze,UY]at this;exact a9 0x7f2f0edb68b82f [62,62] [_] [] this
    .decide
abbrev bU(pm cd Ww:ZP)(a fa:Y_):SM:=W7 (t6 (cy 16) pm cd Ww .none .none) a fa
abbrev ko(sc:J Zw):MV:=.lst (sc.map .int)
theorem yv(hb:RX NC)(rm:Za2)(a:zb<=63)(hl:Ys ("script")=some (ko sc))(k:g (ko (SX sc)) E):EV X m YX (ZG (.BoolOp .Or [.Subscript (.Name "script" p1) (.Slice (some (.Constant (.int 1) j1 p2)) (some (.Constant (.int 63) b c)) none d) f,.Name "script" i,.List [.Constant (.int 1) l q,.Constant (.int 26) r s] u] F) YX) o E g:=by
  have hg:∀x,[].contains x=true->Yg x=Zaa:=λx hx=>by simp at hx
  have p:pe [] o E (.Name "script" p1)=some (ko sc):=by
    show(jJ E (if BV "script"then Ys ("script")else none)).1=_;rw[ZT (by rfl),hl];rfl
  have e1:cC (sc.map UD) (some 1) (some 63)=((i_ 1).take 62).map .int:=by
    rw[show(1)=((1:U))from rfl,show(63)=((63:U))from rfl,fL];simp
  have z1:((i_ 1).take 62).length<=ZK:=by rw[Zo,af];exact fF 0x197d82f [62,16777216] [_] []
  have z2:zb<=ZK:=by rw[af];exact a9 0x7f2f0e5e1 [63,16777216] [_] [] a
  refine EV.CS (t_ (XZ NC hb rm hg p (U5 (X2 ⟨_,rfl,U5 (X2 ⟨_,rfl,_,aF ..,?_,!((i_ 1).take 62).isEmpty,?_,λh1=>?_,λh1=>?_⟩)⟩))));.rw[Z2];exact z2
  .rw[e1];exact(ZT (by rw[Z2];exact z1)).trans (by rw[Pr])
  . rw[e1];have:SX sc=(i_ 1).take 62:=by
      walk_at"i";unfold SX;rw[ZT (by simpa using h1)]
    rw[this]at k;exact k
  refine EV.CS (XZ NC hb rm hg p ⟨!sc.isEmpty,?_,λh2=>?_,λh2=>EV.Jf ?_⟩);.exact(ZT (by rw[Z2];exact z2)).trans (by rw[Pr])
  . have:SX sc=sc:=by unfold SX;rw[ZY (by simpa using h1),ZT (by simpa using h2)]
    rw[this]at k;exact k
  . have:SX sc=[1,26]:=by unfold SX;rw[ZY (by simpa using h1),ZY (by simpa using h2)]
    rw[this]at k;exact XZ NC hb rm hg Z_ k
def i9(m SN:U):J Z:=(Zi (200*SN-m)).map λi=>gK (100+((m+i:U):Zw))++nl
def Vl(d:J Ent):J Z:=Yp zx
def du(d:J Ent)(SN:U):J Z:=Yp Wl++i9 (Yp Wl).length SN
abbrev EH(sc:J Zw)(f s:MV):YS:=[("script",ko sc),("n",.int (z4 sc:U)),("more",.int (bM sc:U)),("first",f),("second",s)]
def Ko(sc:J Zw)(f s1:Y_)(x z kd:Zw)(s:U)(l:J Z):YS:=EH sc Zb9 (.ref s1)++([("x",.int x),("rest",.int z),("kind",.int kd),("size",.int s),("lines",.lst (ah l))]:YS)
abbrev ig:J V4:=bI (cy 16)
abbrev Dx:J V4:=bI (ig.getD 2 (.Pass default))
theorem AE(i:c6 X c)(hb:RX c)(rm:Rm X m (PW+1))(u:f≠s1)(ga:E f=some (.list (ah as)))(gb:E s1=some (.list (ah bs)))(B:as.length<=1000)(C:TQ<=1000)(n:∀e l,iA e->Od (EH sc (.ref f) (.ref s1)) l->D .next l (Y8 (Y8 E f (.list (ah (as++e.a)))) s1 (.list (ah (bs++e.b))))):EF X m (bU pm cd Ww F fa) (Yj Dx (bU pm cd Ww F fa)) (aJ "x" (.int x) (EH sc (.ref f) (.ref s1))) E D:=by
  walk_at"d";have hg:∀x,[("divmod")].contains x=true->(bU pm cd Ww F fa).kindOf x=Zaa:=by
    intro x hx;simp only[Ws,VG,TR,V7]at hx;rw[hx];rfl
  refine ZJ (sq (XZ c hb rm hg (mv:=.tup [.int (nz 3),.int (x.fmod 3)]) Z_ (CL YO (.inl rfl) (.inl rfl) ?_)));refine ZJ (sq (XZ c hb rm hg (mv:=.tup [.int ((nz 3).fdiv 8),.int ((nz 3).fmod 8)]) Z_ (CL YO (.inl rfl) (.inl rfl) ?_)));have k0:0<=x.fmod 3:=va _ Z';have G:x.fmod 3<3:=ny _ Z';have I:0<=(nz 3).fmod 8:=va _ Z';have s8:(nz 3).fmod 8<8:=ny _ Z';have M:0<=((nz 3).fdiv 8).fmod (1112063^3):=va _ Z';have Q:((nz 3).fdiv 8).fmod (1112063^3)<1112063^3:=ny _ Z';generalize(nz 3).fmod 8=w at*;generalize x.fmod 3=kd at*;generalize(nz 3).fdiv 8=z at*;walk_at"a8";generalize S:z.fmod (1112063^3)=T at*;refine ZJ (Zk (EV.times (UA (Zu ?_))) (.inl rfl));refine s_ c rfl i.line.gl i.line.fn.get i.line.fn.nt rfl ?_;refine Zu (YU (Z4 rfl (EV.pow (X2 (X2 (Vs 1112063 3 ⟨rfl,rfl,by decide,by decide+kernel,.int T,?_,?_⟩))))));.show(if(1112063^(3:Zw).toNat)=0 then none else some (UD (z.fmod (1112063^(3:Zw).toNat))))=_;rw[ZY Z',<-S];rfl
  refine Y6 (y7 i.line.fn c hb rm M Q λy V PM=>Y6 ⟨(by decide:1<=ZK),?_⟩);obtain⟨s,rfl⟩:∃s:U,w=s:=⟨w.toNat,by exact a9 0x1fdce8a5654d [] [] [_] I⟩;refine XZ c hb rm hg Z_ (Vs (.str (y++nl)) (s+1) ⟨rfl,rfl,by exact a9 0x3f97c1c1d3e61 [8,1000000] [_] [] s8,?_⟩);have A:iA ⟨kd,s+1,y⟩:=⟨k0,by show kd<=2;(exact a9 0x7f2f569ea [3,2] [] [_] G),Nat.succ_le_succ (Zg _),by show s+1<=8;(exact a9 0x3f97c1c1d3e61 [8,8] [_] [] s8),V,PM⟩;have PN:Zt (s+1) (MV.str (y++nl))=ah (i4 ⟨kd,s+1,y⟩):=by simp[ah,i4]
  rw[PN];have r:(i4 ⟨kd,s+1,y⟩).length<=8:=by unfold i4;rw[XR];exact A.s8
  have k:=n ⟨kd,s+1,y⟩;generalize PR:(⟨kd,s+1,y⟩:Ent)=e at*;have j:e.kind=kd:=by rw[<-PR]
  show EF X m _ _ Zcu E D;refine ZJ ?_;generalize PS:iR _ _ _ _ _=PT;have N:PT .next Zcu (Y8 E f (.list (ah (as++e.a)))):=by
    clear n;subst PS;have g:Y8 E f (.list (ah (as++e.a))) s1=some (.list (ah bs)):=by rw[ag u.symm];exact gb
    have Ue:=k Zcu A Zb1;show EF X m _ _ _ _ _;refine SE (XD (S2 c hb rm hg (c:=!(kd==1)) Z_ ⟨λh=>?_,λh=>?_⟩))
    . have d:kd≠1:=by simpa using h
      have o:e.b=i3:=by unfold Wl;rw[ZT (by rw[j];exact d)]
      rw[o]at Ue;refine SE (VK (Oa (Z4 rfl ⟨s1,_,rfl,g,Z4 rfl ⟨_,_,g,aF ..,?_,rfl,?_⟩⟩)));.rw[az,az,af];exact cF 0x1ffe5f01072f165e1 [1000,8,16777216] [_,_] [] C r
      .rw[show ah bs++ah i3=ah (bs++i3)by simp[ah]];exact Ue
    . have d:kd=1:=by simpa using h
      have o:e.b=[]:=by unfold Wl;rw[ZY (by rw[j];exactλq=>q d)]at⊢
      rw[o,Zn]at Ue;refine YV ?_;have:Y8 (Y8 E f (.list (ah (as++e.a)))) s1 (.list (ah bs))=Y8 E f (.list (ah (as++e.a))):=funext λp=>by
        by_cases q:p=s1;.rw[q];rw[aa,g]
        .rw[ag q]
      rw[this]at Ue;exact Ue
  refine XD (S2 c hb rm hg (c:=!(kd==2)) Z_ ⟨λh=>?_,λh=>?_⟩)
  . have d:kd≠2:=by simpa using h
    have t:e.a=i3:=by unfold zx;rw[ZT (by rw[j];exact d)]
    rw[t]at N;refine SE (VK (Oa (Z4 rfl ⟨f,_,rfl,ga,Z4 rfl ⟨_,_,ga,aF ..,?_,rfl,?_⟩⟩)));.rw[az,az,af];exact cF 0x1ffe5f01072f165e1 [1000,8,16777216] [_,_] [] B r
    .rw[show ah as++ah i3=ah (as++i3)by simp[ah]];exact N
  . have d:kd=2:=by simpa using h
    have t:e.a=[]:=by unfold zx;rw[ZY (by rw[j];exactλq=>q d)]at⊢
    rw[t,Zn]at N;refine YV ?_;have:Y8 E f (.list (ah as))=E:=funext λp=>by
      clear u n k N;by_cases q:p=f;.rw[q];rw[aa,ga]
      .rw[ag q]
    rw[this]at N;exact N
theorem yA(y:c6 X c)(hb:RX c)(rm:Rm X m (P0+1))(r:zb<=63)(Q:∀d,YG=(SX sc).length->(∀e∈d,iA e)->EF X m (bU pm cd Ww s fa) (Yj (ig.drop 4) (bU pm cd Ww s fa)) (EH sc (.lst (ah (Vl d))) (.lst (ah (du d (bM sc))))) E D):EF X m (bU pm cd Ww s fa) (Yj ig (bU pm cd Ww s fa)) [("script",ko sc)] E D:=by
  have hg:∀x,[("divmod"),"abs","len"].contains x=true->(bU pm cd Ww s fa).kindOf x=Zaa:=by
    intro x hx;simp only[Ws,VG,TR,Bool.or_eq_true,V7]at hx;rcases hx with rfl|rfl|rfl<;>rfl
  have S:(sc.map UD).length<=ZK:=by rw[Z2,af];exact a9 0x7f2f0e5e1 [63,16777216] [_] [] r
  have t:bM sc<=1:=by unfold bM;exact KL
  refine ZJ ?_;generalize T:iR _ _ _ _ _=V;have N:V .next ([("script",ko sc),("n",.int (z4 sc:U)),("more",.int (bM sc:U))]) E:=by
    subst T;show EF X m _ _ _ _ _;refine ZJ (sq (TO (Zu (VZ (Y6 ⟨by decide,λf C=>Zu (VZ (Y6 ⟨by decide,λs1 o=>Y6 ⟨(by decide:2<=ZK),CL YO (.inl rfl) (.inr ⟨rfl,_,rfl,(Xh (by decide:0<1))⟩) ?_⟩⟩))⟩)))));have p:f≠s1:=by
      intro PM;subst PM;rw[aa]at o;cases o
    have F:E s1=none:=by rw[ag p.symm]at o;exact o
    let PN:U->YS->GH->Prop:=λPR l G=>∃d:J Ent,YG=PR/\(∀e∈d,iA e)/\l=EH sc Zb9 (.ref s1)/\G=Y8 (Y8 E f (.list (ah (Vl d)))) s1 (.list (ah (Yp Wl)));refine ZJ (ra YO PN (yv hb rm r rfl ⟨_,EH sc Zb9 (.ref s1),rfl,⟨[],rfl,(λe he=>by cases he),rfl,rfl⟩,?_,λPS P2 l G hm A=>?_,λl G A=>?_⟩));.exact av Z_
    . obtain⟨d,g,k,rfl,rfl⟩:=A;rw[Zy]at hm;clear C F;obtain⟨x,hx,rfl⟩:=Y4 hm;have I:=(ZN hx).1;have M:=fh r;have z:=iO λe he=>(k e he).bl;refine Oi (.inl rfl) ?_;refine AE y hb rm p (by rw[ag p,aa]) (aa ..) (by show(Yp zx).length<=1000;(exact oP 0xfffffcbc9990c9b08f2f16841 [62,8,1000] [_,_,_,_] [] I M g (iO (f:=zx) λe he=>(k e he).al))) (by exact oP 0xfffffcbc9990c9b08f2f16841 [62,8,1000] [_,_,_,_] [] I M g z) λe P4 he PT=>⟨_,⟨d++[e],by rw[Z1,g];rfl,λx hx=>?_,rfl,?_⟩,PT⟩
      . rcases ZM hx with q|q;.exact k x q
        .rw[ZD q];exact he
      . rw[show Vl (d++[e])=Vl d++e.a by simp[Vl,YT],show(d++[e]).flatMap Wl=Yp Wl++e.b by simp[YT]];refine funext λj=>?_;clear o p;by_cases q:j=s1;.subst q;rw[aa,aa]
        . rw[ag q,ag q];by_cases u:j=f;.subst u;rw[aa,aa]
          .rw[ag u,ag u,ag q,ag u]
    obtain⟨d,g,k,rfl,rfl⟩:=A;rw[Z2]at g;have z:=iO λe he=>(k e he).bl;show EF X m _ _ _ _ _;have gb:Y8 (Y8 E f (.list (ah (Vl d)))) s1 (.list (ah (Yp Wl))) s1=some (.list (ah (Yp Wl))):=aa ..;generalize PW:Yp Wl=bs at*;have B:TQ<=496:=by exact rf 0xffff978f3208f2f16c41 [62,8,496] [_,_,_] [] g (fh r) z
    refine ZJ (VK (Oa (Z4 rfl ⟨s1,_,rfl,gb,?_⟩)));refine p5 [] (Zi (200*bM sc-TQ)) (λi=>.int ((TQ+i))) (λi l=>aJ "k" (.int ((TQ+i))) l) (λO=>true) (λi=>.str (gK (100+((TQ+i:U)))++nl)) ⟨rfl,rfl,?_,?_,?_,?_⟩ (gr.Aw YO c hb rfl y.AZ.1 y.AZ.2 (r4 c hb rm rfl (yq gb) (by rw[af];exact a9 0x7f2f0e5e1 [496,16777216] [_] [] B) ?_));.decide
    .decide
    .intro q hq;cases hq
    .intro q hq;cases hq
    refine⟨_,rfl,by exact a9 0x1fd3eb30e5e1 [496,1099511627776] [_] [] B,XZ c hb rm hg (mv:=.int ((200*bM sc))) Z_ ⟨_,rfl,by exact a9 0x3fa7d6720e5c1 [200,1099511627776] [_] [] t,?_⟩⟩;have w:(Zi (200*bM sc-TQ)).length=200*bM sc-TQ:=WX ..;refine⟨by rw[w];(exact cY 0x3711069198a61 [_,_]),λPS x hx=>?_,⟨by rw[w,af];(exact a9 0x3f97c4520e5c1 [200,16777216] [_,_] [] t),λPX x hx=>UQ (.inl rfl),λx hx P5 P6 e=>(by cases e),λPX G x hx hG=>h5 ⟨rfl,rfl,λO=>?_⟩⟩,?_⟩;.rw[Vu (by have:=(ZN hx).1;rw[w]at this;exact this)]at hx;obtain rfl:=ZW hx;rfl
    . have PY:=WY hx;have hs:S1 (100+((TQ+x:U))):=by unfold S1;exact cF 0xfff4fac27008df970b511c841 [200,100,1099511627776] [_,_,_] [] PY t
      refine YU (pd c hb rm (Zu (YU (X2 (Z4 rfl ⟨.int (100+((TQ+x:U))),rfl,Y6 ⟨_,Ex hs.log,Wc ⟨_,dK ?_,rfl,rfl⟩⟩⟩)))));show _+1<=_;rw[af];exact a9 0x1fcbe0e0e5e1 [20,16777216] [_] [] (i7 hs)
    refine⟨_,ah (i9 TQ (bM sc)),gb,?_,?_,rfl,?_⟩;.rw[aF,Ui (λO O=>rfl),ah,i9,Xn];rfl
    .rw[az,az,i9,Z2,w,af];exact cF 0xfff2f8445208b2f165c1 [496,200,16777216] [_,_] [] t B
    rw[show ah bs++ah (i9 TQ (bM sc))=ah (du d (bM sc))by simp only[ah,du,PW,ZE],aQ];refine EF.fz [(f,ah (Vl d)),(s1,ah (du d (bM sc)))] E (EH sc (.lst (ah (Vl d))) (.lst (ah (du d (bM sc))))) ?_ (λj P7 e=>?_) (λP8 hp=>?_) (Q d g k);.exact cn (show Y8 (Y8 E f _) s1 _ f=_ by rw[ag p,aa]) (cn (aa ..) jK)
    . have n1:j≠f:=λq=>by rw[q,C]at e;cases e
      have n:j≠s1:=λq=>by rw[q,F]at e;cases e
      exact⟨by rw[ag n,ag n1];exact e,λq=>cn (Q:=λx=>j≠x) n1 (cn n jK) j q rfl⟩
    .exact cn ⟨_,rfl,.refl _⟩ (cn ⟨_,rfl,.refl _⟩ (cn ⟨_,rfl,.refl _⟩ (cn ⟨_,rfl,.ref (hp (f,_) (.head _))⟩ (cn ⟨_,rfl,.ref (hp (s1,_) (.tail _ (.head _)))⟩ jK))))
  refine sq (EV.EJ (Tr (Z4 rfl ⟨!(sc.map UD).isEmpty,by show(if _ then _ else _)=_;exact ZT S,λh=>?_,λh=>?_⟩)));.cases sc with|Yk=>cases h|Zp x PZ=>exact pd (i:=.builtin "divmod") c hb rm (Zu (pd (i:=.builtin "abs") c hb rm (Zu (Yq (Z4 rfl (X2 ⟨.int x,lz ..,Y6 ⟨.int (if x<0 then-x else x),by kernel_rfl!,Zu (X2 (Y6 ⟨.tup [.int ((if x<0 then-x else x).fdiv 2),.int ((if x<0 then-x else x).fmod 2)],by kernel_rfl!,by rw[z7,Bj];exact CL YO (.inl rfl) (.inl rfl) N⟩))⟩⟩))))))
  .cases sc with|Zp x PZ=>cases h|Yk=>exact XZ c hb rm hg Z_ (CL YO (.inl rfl) (.inl rfl) N)
def pU(b:J Z)(x:Z):Y0:=decide ((200:Zw)<=(Zv:U))&&decide (((Zv:U):Zw)<100*((b.countP (.==x):U)-1))
def gU(b:J Z):J Z:=b.filter (pU b)
abbrev ME(sc:J Zw)(a b:J Z):YS:=[("script",ko sc),("n",.int (z4 sc:U)),("more",.int (bM sc:U)),("first",ZaC),("second",ZbG),("popular",.lst (ah (gU b)))]
theorem Fg(h:l7 a=true):uw c .Mult ZbQ (.int b)=some (.int (a*b)):=by
 show(if(l7 a||l7 b)=true then some (UD (a*b))else none)=_;rw[h];rfl
theorem C6(hb:RX NC)(rm:Rm X m (n+1))(c:ZR<=1000)(d:EF X m Zck (Yj (ig.drop 5) Zck) (ME sc f s) E D):EF X m Zck (Yj (ig.drop 4) Zck) (EH sc (.lst (ah f)) (.lst (ah s))) E D:=by
  have hg:∀x,[].contains x=true->(bU pm cd Ww a fa).kindOf x=Zaa:=λx hx=>by simp at hx
  have b:ZR<=ZK:=by rw[af];exact Gn c
  refine ZJ (Zk (p5 [("second",Zal)] s (.str .) (λx l=>aJ "line" (.str x) l) (pU s) (.str .) ⟨rfl,rfl,?_,?_,?_,?_⟩ (p4 YO (Z4 rfl ⟨rfl,⟨b,λC x hx=>UQ (.inl rfl),λx hx=>?_,λC G x hx hG=>?_⟩,?_⟩))) (.inr ⟨rfl,_,rfl,(Xh (by decide:0<2))⟩));.decide
  .decide
  .intro q hq;rcases ZD hq with rfl;rfl
  .intro q hq;rcases ZD hq with rfl;exact⟨rfl,by show some S0≠some Um;decide,.inl rfl,rfl⟩
  .exact av Z_
  . refine Gp (VT (XA rm (r4 NC hb rm rfl (eA ..) b (X2 ⟨decide ((200:Zw)<=ZR),rfl,⟨λh1=>?_,λh1=>?_⟩⟩))))
    . refine VT (XA rm (YU (X2 (YU (EV.count rm (Z4 rfl ⟨s,rfl,Z4 rfl ⟨x,rfl,?_⟩⟩))))));refine X2 ⟨_,rfl,.int (100*(((s.countP (.==x):U))-1)),?_,?_⟩;.exact Fg Z8
      refine r4 NC hb rm rfl (eA ..) b ⟨decide (((ZR:U))<100*(((s.countP (.==x)):Zw)-1)),rfl,λh2=>?_,λh2=>?_⟩;.refine t' ⟨rfl,?_,λO=>Z4 rfl ⟨rfl,rfl⟩⟩;unfold pU;rw[h1,h2];rfl
      .refine⟨rfl,?_,λh=>by cases h⟩;unfold pU;rw[h1,h2];rfl
    .refine⟨rfl,?_,λh=>by cases h⟩;unfold pU;rw[h1];rfl
  exact d
def dY(XK g c:J Z):Y0:=!((g.take 1==ia 1)&&!(ia 1).isEmpty)&&(g.filter λx=>c.contains x&&!pop.contains x).isEmpty
def cp(XK g c:J Z)(l:Xe):Y0:=VH (λr k g c=>if r.1=("-")then k (g++[r.2]) c else if r.1=("+")then k g (c++[r.2])else dY XK g c&&k [] []) (λO O=>true) g c
theorem fU(XK a c r rs):cp XK a c (r::rs)=if r.1="-"then cp XK (a++[r.2]) c rs else if r.1="+"then cp XK a (c++[r.2]) rs else dY XK a c&&cp XK [] [] rs:=rfl
abbrev vC:J V4:=bI (ig.getD 6 (.Pass default))
abbrev DH:J V4:=bI (vC.getD 5 (.Pass default))
abbrev DN(sc:J Zw)(a b XK:J Z)(s:Y_)(d t:MV)(IH:Xe)(g c:MV):YS:=[("script",ko sc),("n",.int (z4 sc:U)),("more",.int (bM sc:U)),("first",ZaC),("second",ZbG),("popular",ZbZ),("seen",.ref s),("around",d),("told",t),("rows",aS IH),("goes",g),("comes",c)]
theorem rA(x:Z)(y:Z)(ys:J Z):(y::ys).contains x=(y==x||ys.contains x):=by rw[Ws,Bool.beq_comm]
theorem mQ(x:Z):∀c:J Z,jI (.str x) (ah c)=some (c.contains x):=by
 intro I;induction I with
 |Yk=>exact rfl|Zp y ys d=>
  rw[rA];show(some (y==x)).bind (λa=>(jI (.str x) (ah ys)).bind λb=>some (a||b))=_;rw[d];rfl
theorem BB{α:Type}[BEq α]{f:α->MV}(k:∀x y,eq1 (f x) (f y)=some (x==y)):∀(a b:J α),Zx=Zv->all2 eq1 (ON f) (g6 f)=some (a==b):=by
 intro a;induction a with
 |Yk=>intro b h;cases b with|Yk=>rfl|Zp y ys=>cases h
 |Zp x c I=>intro b h;cases b with|Yk=>cases h|Zp y ys=>
  show(eq1 (f x) (f y)).bind (λa=>(all2 eq1 (c.map f) (ys.map f)).bind λb=>some (a&&b))=_;rw[I ys (x' h),k];rfl
theorem DA{α:Type}[BEq α][LawfulBEq α]{a b:J α}(h:Zx≠Zv):(a==b)=false:=by rw[Uy];intro q;rw[q]at h;exact h rfl
theorem xJ{α:Type}[BEq α][LawfulBEq α]{f:α->MV}(k:∀x y,eq1 (f x) (f y)=some (x==y))(a b:J α):El (ON f) (g6 f)=some (a==b):=by
 unfold El;rw[Z2,Z2];by_cases h:Zx=Zv;.rw[ZT h,BB k a b h]
 .rw[ZY h,DA h]
theorem D4(x y:Z×Z):eq1 (aO x) (aO y)=some (x==y):=by
 show some (_&&(_&&true))=some _;rw[Bool.and_true]at⊢;rfl
theorem gP(G:GH)(a b:J Z):yj G ZaC ZbG=some (a==b):=by
 show(match cf G ZaC,cf G ZbG with|some x,some ys=>El x ys|_,_=>none)=_;rw[aF,aF];exact xJ (λO O=>rfl) a b
theorem BI(G:GH)(a b:Xe):yj G (aS a) (aS b)=some (a==b):=by
 show(match cf G (aS a),cf G (aS b)with|some x,some ys=>El x ys|_,_=>none)=_;rw[aS,aS,aF,aF];exact xJ D4 a b
theorem EB.MR(h:EV X m YX (ZG a YX) o E λx c=>EV X m YX (ZG b YX) o c λy G=>∃p q,x=.bool p/\y=.bool q/\Nj (p !=q) G)(hm:Z3 (OX .NotEq b=false) aW):EB X m YX (XC (.Compare a [.NotEq] [b] Yl) YX Us) o E Nj:=λt s S=>wpAny_isTrue_Compare1 (W1 S λu w z x c d r e k=>k.use e λf A B y G g i j l=>by
  walk_at"a";clear k;obtain⟨p,q,rfl,rfl,n⟩:=l;rw[Vh];rw[i.raw];exact ne_bool (UR ⟨f,G,d.trans g,j,n⟩)) hm
theorem take1(g:J Z):cC (ah g) none (some (1:Zw))=ah (g.take 1):=by rw[show(1)=(1:Zw)from rfl,iV,ah,ah,List.map_take]
theorem zE{r:Z×Z}(hb:RX NC)(rm:Rm X m (n+1))(g:Zv<=100000)(k:YZ<=100000)(e:dY XK b c=true)(o:∀x y l,E x=none->E y=none->x≠y->Od (DN sc s u XK F a M IH (.ref x) (.ref y)) l->D .next l (Y8 (Y8 E x (.list (ah []))) y (.list (ah [])))):EF X m (bU pm cd Ww i fa) (Yj (Ja 1 ((Ja 1 (DH.getD 0 (.Pass default))).getD 0 (.Pass default))) (bU pm cd Ww i fa)) (aJ "line" (.str r.2) (aJ "sign" (.str r.1) (DN sc s u XK F a M IH (.lst (ah b)) (.lst (ah c))))) E D:=by
  have hg:∀x,[].contains x=true->(bU pm cd Ww i fa).kindOf x=Zaa:=λx hx=>by simp at hx
  have z1:(ah b).length<=ZK:=by rw[az,af];exact O8 g
  have z2:(ah c).length<=ZK:=by rw[az,af];exact O8 k
  walk_at"d";unfold dY at e;rw[YK,G4]at e;obtain⟨h1,h2⟩:=e;refine ZJ (XD (EB.mono (Nj:=λt G=>t=false/\G=E) ?_ λt G q=>?_))
  . refine EB.CS (EB.mono (Nj:=λt G=>t=false/\G=E) ?_ λt G q=>?_);.refine EB.KJ rm (t_ (Z4 rfl (SU (U5 (X2 ⟨_,rfl,_,aF ..,z1,?_⟩)))));rw[take1];walk_at"K";refine t_ (Z4 rfl (SU (U5 (X2 ⟨_,rfl,_,aF ..,z2,?_⟩))));rw[take1];refine⟨b.take 1==ia 1,gP E _ _,λO=>⟨rfl,rfl⟩,λh=>?_⟩;rw[h,o']at h1;refine XZ NC hb rm hg (mv:=.lst (ah [])) Z_ ⟨!(ia 1).isEmpty,?_,h1,rfl⟩;cases ia 1<;>rfl
    . obtain⟨rfl,rfl⟩:=q;walk_at"a9";refine⟨λO=>EB.CS (XA rm (p5 [("comes",Zc_),("popular",ZbZ)] b (.str .) (λx p=>aJ "one" (.str x) p) (λx=>c.contains x&&!pop.contains x) (.str .) ⟨rfl,rfl,?_,?_,?_,?_⟩ (p4 YO (Z4 rfl ⟨rfl,⟨by rw[af];(exact O8 g),λC x hx=>UQ (.inl rfl),λx hx=>?_,λC G x hx hG=>?_⟩,?_⟩)))),λh=>by cases h⟩;.decide
      .decide
      .intro q hq;simp only[XS,YJ,Vw]at hq;rcases hq with rfl|rfl<;>rfl
      .intro q hq;simp only[XS,YJ,Vw]at hq;rcases hq with rfl|rfl<;>exact(andI3 rfl (by show some S0≠some Um;decide) ⟨.inl rfl,rfl⟩)
      .exact av Z_
      . refine Gp (VT (XA rm (Z4 rfl (Z4 rfl ⟨c.contains x,?_,λd=>?_,λd=>?_⟩))));.show(cf G Zc_).bind (jI (.str x))=_;rw[aF];exact mQ x c
        . refine VT (XA rm (Z4 rfl (Z4 rfl ⟨!pop.contains x,?_,λf=>?_,λf=>?_⟩)));.show((cf G ZbZ).bind (jI (.str x))).map (!.)=_;show(jI (.str x) (ah XK)).map (!.)=_;rw[mQ];rfl
          .exact t' ⟨rfl,by rw[d,f];rfl,λO=>Z4 rfl ⟨rfl,rfl⟩⟩
          .exact⟨rfl,by rw[d,f];rfl,λh=>by cases h⟩
        .exact⟨rfl,by rw[d];rfl,λh=>by cases h⟩
      refine XZ NC hb rm hg (mv:=.lst (ah [])) Z_ ⟨false,?_,λO=>EB.JA ⟨rfl,rfl⟩,λh=>by cases h⟩;rw[List.isEmpty_iff.mp h2];exact Zq (U8 (!.)) (gP G [] [])
  rw[q.1,q.2];refine⟨λh=>(by cases h),λO=>YV ?_⟩;refine SE (sq (TO (Zu (VZ (Y6 ⟨by decide,λx hx=>Zu (VZ (Y6 ⟨by decide,λy hy=>Y6 ⟨(by decide:2<=ZK),CL YO (.inl rfl) (.inr ⟨rfl,_,rfl,(Xh (by decide:0<3))⟩) ?_⟩⟩))⟩)))));have j:x≠y:=by
    intro w;subst w;rw[aa]at hy;cases hy
  exact o x y _ hx (by rw[ag j.symm]at hy;exact hy) j Zb1
theorem CZ(h:(NV.map aO)[j]?=Zax):∃r,NV[j]?=ZaW/\a=aO r:=by
 walk_at"b";rw[Zy]at h;obtain⟨r,hr,e⟩:=Y4 h;exact⟨r,hr,hQ⟩
theorem DR{α:Type}{x:J α}{a:α}(h:x[b]?=Zax):x.drop b=a::x.drop (b+1):=by
 rw[Xz ((ZN h).1)];rw[(ZN h).2]
theorem CA(hb:RX NC)(rm:Rm X m (P5+1))(t:rows.length<=50000)(PN:cp XK [] [] (IH++[((" "),(""))])=true)(hx:E x=none)(hy:E b=none)(d:x≠b)(PW:∀l G,Wz E G->(∃z y,Od (DN sc s f XK i a k IH (.ref z) (.ref y)) l)->D .next l G):EF X m (bU pm cd Ww PR fa) (Yj (vC.drop 5) (bU pm cd Ww PR fa)) Zc8 (Y8 (Y8 E x (.list (ah []))) b (.list (ah []))) D:=by
  walk_at"G";have hg:∀x,[].contains x=true->(bU pm cd Ww PR fa).kindOf x=Zaa:=λx hx=>by simp at hx
  have ext2:∀{x b:Y_}{o PX:MO},E x=none->E b=none->Wz E (Y8 (Y8 E x o) b PX):=λhx hy n o e=>by rw[ag (λq=>by rw[q,hy]at e;cases e),ag (λq=>by rw[q,hx]at e;cases e)];exact e
  generalize PS:IH++[((" "),(""))]=all at PN;have u:all.length=rows.length+1:=by rw[<-PS];simp
  let PY:U->YS->GH->Prop:=λj A G=>∃x b g c,E x=none/\E b=none/\x≠b/\G=Y8 Zbc b Zcv/\A=DN sc s f XK i a k IH ZaI ZaP/\cp XK g c (all.drop j)=true/\K5+YZ<=j;refine SE (ra YO PY ?_);walk_at"ba";refine YU (Z4 rfl (UA (Zu (TO (Zu (Wc (Zu (Wc (Y6 ⟨x9,Y6 ⟨FE,.lst (all.map aO),?_,_,DN sc s f XK i a k IH ZaI ZaP,rfl,(exI4 x b ([]) ([]) ⟨hx,hy,d,rfl,rfl,PN,ZV _⟩),?_,λj P6 A G hm B=>?_,λA G B=>?_⟩⟩)))))))));.exact(gA (aF ..) (aF ..) (by rw[Z2,af];exact a9 0x7f2f841cd0e5e1 [50000,16777216] [_] [] t)).trans (by rw[<-PS,ZE];rfl)
  .exact av Z_
  rotate_left;.obtain⟨x,b,g,c,hx,hy,d,rfl,rfl,_,_⟩:=B;exact PW _ _ (ext2 hx hy) (Vs x b (av Z_))
  obtain⟨x,b,g,c,hx,hy,d,rfl,rfl,hr,p⟩:=B;walk_at"bb";obtain⟨r,PT,YA⟩:=CZ hm;rw[YA];have w:=(ZN PT).1;rw[DR PT]at hr;have C:Y8 Zbc b Zcv x=some (.list (ah g)):=by rw[ag d,aa]
  have F:Y8 Zbc b Zcv b=some Zcv:=aa ..;refine CL YO (.inl rfl) (.inl rfl) ?_;generalize PZ:Es _ _=P0;have N:∀x b g c l,E x=none->E b=none->x≠b->cp XK g c (all.drop (j+1))=true->K5+YZ<=j+1->Od Zc8 l->P0 .next l (Y8 Zbc b (.list (ah c))):=by
    intro x b g c l h1 h2 I M Q S;subst PZ;walk_at"bc";exact⟨_,⟨x,b,g,c,h1,h2,I,rfl,rfl,M,Q⟩,S⟩
  refine SE (XD (S2 NC hb rm hg (c:=r.1=="-") Z_ ⟨λh=>?_,λh=>?_⟩))
  . have T:r.1="-":=by exact Zj h
    walk_at"d";rw[fU,ZT T]at hr;walk_at"d";refine SE (VK (W4 (Z4 rfl ⟨x,_,rfl,C,Z4 rfl ⟨_,C,?_,rfl,?_⟩⟩)));.rw[az,af];exact oP 0x7ffffe5e1cbcbb838a4d10791c041 [50000,16777216] [_,_,_,_,_] [] p w u t
    . have:=N x b (g++[r.2]) c ([("script",ko sc),("n",.int (z4 sc:U)),("more",.int (bM sc:U)),("first",Zal),("second",ZbY),("popular",ZbZ),("seen",.ref i),("around",a),("told",k),("rows",aS IH),("goes",ZaI),("comes",ZaP),("sign",.str r.1),("line",.str r.2)]) hx hy d hr (by rw[Z1,YY];exact aV 0x7f3070e02838391c041 [_,_,_] p) Zb1;rw[gT]at this;have e:Y8 (Y8 Zbc b (.list (ah c))) x (.list (ah g++[.str r.2]))=Y8 (Y8 E x (.list (ah g++[.str r.2]))) b Zcv:=funext λn=>by
        clear hx hy;by_cases q:n=x;.rw[q];rw[aa,ag d,aa]
        . rw[ag q];clear hy d;by_cases V:n=b;.rw[V];rw[aa,aa]
          .rw[ag V,ag V,ag q,ag q]
      rw[e];exact this
  refine SE (XD (S2 NC hb rm hg (c:=r.1=="+") Z_ ⟨λh2=>?_,λh2=>?_⟩))
  . have PM:¬r.1="-":=by simpa using h
    have T:r.1="+":=by exact Zj h2
    rw[fU,ZY PM,ZT T]at hr;refine SE (VK (W4 (Z4 rfl ⟨b,_,rfl,F,Z4 rfl ⟨_,F,?_,rfl,?_⟩⟩)));.rw[az,af];exact oP 0x7ffffe5e2cbcbb838a4d10791c041 [50000,16777216] [_,_,_,_,_] [] p w u t
    .have:=N x b g (c++[r.2]) ([("script",ko sc),("n",.int (z4 sc:U)),("more",.int (bM sc:U)),("first",Zal),("second",ZbY),("popular",ZbZ),("seen",.ref i),("around",a),("told",k),("rows",aS IH),("goes",ZaI),("comes",ZaP),("sign",.str r.1),("line",.str r.2)]) hx hy d hr (by rw[Z1,YY];exact aV 0x7f3070e10708391c041 [_,_,_] p) Zb1;rw[gT]at this;rw[aQ];exact this
  have PM:¬r.1="-":=by simpa using h
  have P2:¬r.1="+":=by simpa using h2
  rw[fU,ZY PM,ZY P2,YK]at hr;walk_at"d";refine EF.fz [(x,ah g),(b,ah c)] E (aJ "line" (.str r.2) (aJ "sign" (.str r.1) (DN sc s f XK i a k IH (.lst (ah g)) (.lst (ah c))))) ?_ (λn o e=>?_) (λP7 hp=>?_) (zE hb rm (oP 0x7ffffe5e1cbcbb838a4d10791c041 [50000,100000] [_,_,_,_,_] [] p w u t) (oP 0x7ffffe5e2cbcbb838a4d10791c041 [50000,100000] [_,_,_,_,_] [] p w u t) hr.1 λz y l I M Q S=>N z y [] [] l I M Q hr.2 (Zg _) S);.exact cn C (cn F jK)
  .exact⟨ext2 hx hy n o e,λq=>cn (Q:=λx=>n≠x) (by intro P4;subst P4;exact fv e hx rfl) (cn (fv e hy) jK) n q rfl⟩
  .show∀P8∈([("script",ko sc),("n",.int (z4 sc)),("more",.int (bM sc)),("first",Zal),("second",ZbY),("popular",ZbZ),("seen",.ref i),("around",a),("told",k),("rows",aS IH),("goes",.lst (ah g)),("comes",Zc_),("sign",.str r.1),("line",.str r.2)]:YS),_;exact cn ⟨_,rfl,.refl _⟩ (cn ⟨_,rfl,.refl _⟩ (cn ⟨_,rfl,.refl _⟩ (cn ⟨_,rfl,.refl _⟩ (cn ⟨_,rfl,.refl _⟩ (cn ⟨_,rfl,.refl _⟩ (cn ⟨_,rfl,.refl _⟩ (cn ⟨_,rfl,.refl _⟩ (cn ⟨_,rfl,.refl _⟩ (cn ⟨_,rfl,.refl _⟩ (cn ⟨_,rfl,.ref (hp (x,_) (.head _))⟩ (cn ⟨_,rfl,.ref (hp (b,_) (.tail _ (.head _)))⟩ (cn ⟨_,rfl,.refl _⟩ (cn ⟨_,rfl,.refl _⟩ jK)))))))))))))
def cJ(IH:Xe):J Z:=(rows.filter λr=>!(r.1==("+"))).map (·.2)
def RZ(IH:Xe):J Z:=(rows.filter λr=>!(r.1==("-"))).map (·.2)
structure TurnOk(s a:J Z)(nn:U)(t:J Z)(d:J Hk):Prop where
 join:JoinOk "" t=true
 size:(R4 "" t).length<=10000000
 read:rg s (Sn (R4 "" t) ("\n")) d
 sign:∀r∈ba s d,r.1=("-")\/r.1=("+")\/r.1=(" ")
 LZ:(ba s d).length<=10000
 rl:∀r∈ba s d,r.2.length<=1000
 old:cJ (ba s d)=s
 new:RZ (ba s d)=a
 aL:t=vx (ba s d) nn
 none:(t==[])=(s==a)
 runs:cp (gU a) [] [] (ba s d++[((" "),(""))])=true
abbrev GO(sc:J Zw)(a b XK:J Z)(s:Y_):YS:=[("script",ko sc),("n",.int (z4 sc:U)),("more",.int (bM sc:U)),("first",ZaC),("second",ZbG),("popular",ZbZ),("seen",.ref s)]
theorem law_side(hb:RX NC)(rm:Za2)(hl:Ys ("rows")=some (aS NV))(c:NV.length<=100000)(hx:Ys x=some ZaC)(d:(x=="__classdict__")=false)(qS:(x=="__debug__")=false)(he:(NV.filter λr=>!(r.1==s)).map (·.2)=a)(k:Nj false E)(mB:qd YX X0 [] o [])(st:∀C,aM (S6 X0 [] C YX) "sign"/\aM (S6 X0 [] C YX) "line"):EB X m YX (XC (.Compare (.ListComp (.Name "line" p1) [⟨.Tuple [.Name "sign" p2,.Name "line" i] j1 l,.Name "rows" q,[.Compare (.Name "sign" u) [.NotEq] [.Constant (.str s) F M] S],0⟩] X0 T) [.NotEq] [.Name x V] PM) YX Us) o E Nj:=by
  refine XA rm (p5 [] NV aO (λr o=>aJ "line" (.str r.2) (aJ "sign" (.str r.1) o)) (λr=>!(r.1==s)) (λr=>.str r.2) mB (p4 YO (Z4 hl ⟨rfl,⟨by rw[af];(exact O8 c),λC r hr=>(bb YO (st C).1 (st C).2).gw,λr hr x g e=>(by exact ax e),λC G r hr hG=>?_⟩,?_⟩)))
  . refine Gp (S2 NC hb rm (gl:=[]) (λf b=>by simp at b) ?_ ⟨rfl,rfl,λO=>XZ NC hb rm (gl:=[]) (λf b=>by simp at b) ?_ ⟨rfl,rfl⟩⟩);.rfl
    .rfl
  . have e1:(NV.filter λr=>!(r.1==s)).map (λr=>MV.str r.2)=ah a:=by rw[<-he,ah,Xn];rfl
    rw[e1];refine Z4 hx ⟨false,?_,k⟩ d qS;show(yj E ZaC ZaC).map (!.)=_;rw[gP];simp
theorem tU(o:c6 X b)(hb:ZcX)(B:V0 "zip"=none/\Va "zip"=Zbl)(C:ly X b 14 .none .none)(Rd:ly X b 15 .none .none)(rm:Rm X m (n+2))(T:TurnOk a s nn c d)(g:E f=some (.list k))(F:Wq<=10)(p:∀l G,Wz (Y8 E f (.list (k++[aS (ba a d)]))) G->Od (GO sc a s (gU s) f) l->D .next l G):EF X m (bU pm cd Ww i fa) (Yj vC (bU pm cd Ww i fa)) (aJ "told" Zc_ (aJ "around" (.int nn) (GO sc a s (gU s) f))) E D:=by
  walk_at"d";have hg:∀x,([]:J Z).contains x=true->(bU pm cd Ww i fa).kindOf x=Zaa:=λx hx=>by simp at hx
  have r:Rm X m (n+1):=rm.le (fF 0x660f0c1c1 [2] [_] []);refine ZJ (Zk (s_ b rfl Rd.gl Rd.fn.get Rd.fn.nt rfl ?_) (.inl rfl));walk_at"B";refine Zu (EV.join (Wc ⟨_,rfl,Z4 rfl ⟨c,rfl,T.join,?_⟩⟩));walk_at"m";refine Zu (Z4 rfl (Y6 (yk Rd.fn o hb B rm T.size T.read ?_)));have t1:=T.sign;have t2:=T.LZ;have t3:=T.rl;have t4:=T.old;have t5:=T.new;have I:=T.aL;have M:=T.runs;have N:=T.none;generalize ba a d=IH at*;refine ZJ (VK (W4 (Z4 rfl ⟨f,_,rfl,g,Z4 rfl ⟨_,g,by rw[af];(exact a9 0x7f2f0e5e1 [10,16777216] [_] [] F),rfl,?_⟩⟩)));generalize Y8 E f (.list (k++[aS IH]))=Q at p;refine ZJ (XD (EB.mono (Nj:=λt G=>t=false/\G=Q) ?_ λt G q=>?_))
  . refine EB.CS (law_side hb rm rfl (JM t2) rfl rfl rfl t4 ?_ ⟨rfl,rfl,?_,?_,?_,?_⟩ λS=>⟨.inl rfl,.inl rfl⟩)
    . refine⟨λO=>EB.CS (law_side hb rm rfl (JM t2) rfl rfl rfl t5 ⟨λO=>EB.JA ⟨rfl,rfl⟩,λh=>by cases h⟩ ⟨rfl,rfl,?_,?_,?_,?_⟩ λS=>⟨.inl rfl,.inl rfl⟩),λh=>by cases h⟩;.decide
      .decide
      .intro q hq;cases hq
      .intro q hq;cases hq
    .decide
    .decide
    .intro q hq;cases hq
    .intro q hq;cases hq
  obtain⟨rfl,rfl⟩:=q;refine⟨λh=>(by cases h),λO=>YV ?_⟩;refine ZJ (XD (EB.mono (Nj:=λt u=>t=false/\u=G) ?_ λt u q=>?_))
  . refine EB.CS (XA rm (Z4 rfl (s_ b rfl C.gl C.fn.get C.fn.nt rfl ?_)));refine Zu (Z4 rfl (Zu (Z4 rfl (Y6 (Ax o C.fn hb rm t1 t2 t3 (SP nn) ⟨false,?_,?_⟩)))));.show(yj G Zc_ (.lst (ah (vx IH nn)))).map (!.)=_;rw[gP,I];simp
    . refine⟨λO=>EB.CS (EB.MR (EV.cmp rm (XZ b hb rm hg Z_ (XZ b hb rm hg Z_ ⟨c==[],gP G _ _,?_⟩)))),λh=>by cases h⟩;refine EV.cmp rm (Z4 rfl (Z4 rfl ⟨a==s,gP G _ _,c==[],a==s,rfl,rfl,?_⟩));have e:((c==[])!=(a==s))=false:=by rw[N];simp
      rw[e];exact⟨λO=>EB.JA ⟨rfl,rfl⟩,λh=>by cases h⟩
  obtain⟨rfl,rfl⟩:=q;refine⟨λh=>(by cases h),λO=>YV ?_⟩;refine ZJ (sq (TO (Zu (VZ (Y6 ⟨by decide,λx hx=>Zu (VZ (Y6 ⟨by decide,λy hy=>Y6 ⟨(by decide:2<=ZK),CL YO (.inl rfl) (.inr ⟨rfl,_,rfl,(Xh (by decide:0<3):i<i+3)⟩) ?_⟩⟩))⟩)))));have w:x≠y:=by
    intro V;subst V;rw[aa]at hy;cases hy
  refine CA hb r (IH:=IH) (by exact a9 0x7f2f0e5e1 [10000,50000] [_] [] t2) M hx (by rw[ag w.symm]at hy;exact hy) w λl G PM j=>?_;obtain⟨PN,PR,j⟩:=j;refine p l _ PM λz A e=>j z A ?_;exact(show Od (GO sc a s (gU s) f) (DN sc a s (gU s) f (.int nn) (.lst (ah c)) IH (.ref PN) (.ref PR))from av Z_) z A e
theorem fD(a b:Xe):cJ (a++b)=cJ a++cJ b:=by unfold cJ;rw[VM,ZE]
theorem jr(a b:Xe):RZ (a++b)=RZ a++RZ b:=by unfold RZ;rw[VM,ZE]
variable{PI:Z×Z->Y0}
theorem rK(h:∀x,PI (s,x)=true):((k3 λx=>(s,x)).filter PI).map (·.2)=t:=by
 rw[Ui (λr hr=>by obtain⟨x,_,rfl⟩:=Zl hr;exact h x),Xn];exact List.map_id t
theorem of_none(h:∀x,PI (s,x)=false):((k3 λx=>(s,x)).filter PI).map (·.2)=[]:=by
 rw[List.filter_eq_nil_iff.mpr (λr hr=>by obtain⟨x,_,rfl⟩:=Zl hr;rw[h x];decide)];rfl
theorem fT(i:J Z):cJ (XM i)=i:=rK λx=>by show(!(" "==("+")))=true;decide+kernel
theorem jS(i:J Z):RZ (XM i)=i:=rK λx=>by show(!(" "==("-")))=true;decide+kernel
theorem pS(c:cg):cJ (aU c)=c.1++c.2.2:=by
 rw[fD,fD,fT];have h1:cJ (c.1.map λx=>("-",x))=c.1:=rK λx=>by show(!("-"==("+")))=true;decide+kernel
 have h2:cJ (c.2.1.map λx=>("+",x))=[]:=of_none λx=>by show(!("+"==("+")))=false;decide+kernel
 rw[h1,h2,Zn]
theorem qq(c:cg):RZ (aU c)=c.2.1++c.2.2:=by
 rw[jr,jr,jS];have h1:RZ (c.1.map λx=>("-",x))=[]:=of_none λx=>by show(!("-"=="-"))=false;decide+kernel
 have h2:RZ (c.2.1.map λx=>("+",x))=c.2.1:=rK λx=>by show(!("+"=="-"))=true;decide+kernel
 rw[h1,h2,Yh]at⊢
theorem gM(rs:Xe):(cJ rs).length=WR rs:=by
 unfold cJ WR;rw[Z2,Vx]
theorem k6(rs:Xe):(RZ rs).length=WB rs:=by
 unfold RZ WB;rw[Z2,Vx]
theorem kI(rs:Xe)(h:∀r∈rs,r.1="-"\/r.1="+"\/r.1=" "):Zd<=WR rs+WB rs:=by induction rs with|Yk=>exact Zg _|Zp r rs i=>
    have:1<=WR [r]+WB [r]:=by
      rcases h r (.head _)with e|e|e
      . have:WR [r]=1:=by unfold WR;rw[P',e];decide+kernel
        exact aV 0x1fcc04176dc1 [_,_] this
      . have:WB [r]=1:=by unfold WB;rw[P',e];decide+kernel
        exact aV 0x1fcc02276dc1 [_,_] this
      . have:WB [r]=1:=by unfold WB;rw[P',e];decide+kernel
        exact aV 0x1fcc02276dc1 [_,_] this
    exact F3 0x7ffffe6051c1c7cc0c43ee0611770204798082e [_,_,_,_,_,_,_] this (cR [r] rs) (dB [r] rs) (i λx hx=>h x (ZX _ hx))
theorem nO(k0:J Z)(cs:Zb4):∀r∈au k0 cs,r.1="-"\/r.1="+"\/r.1=" ":=by
  intro r hr;have k:∀i:J Z,r∈XM i->r.1=" ":=λi h=>by obtain⟨x,_,rfl⟩:=Zl h;rfl
  rcases ZM hr with hr|hr;.exact .inr (.inr (k _ hr))
  . obtain⟨c,_,hr⟩:=WM hr;rcases ZM hr with hr|hr
    . rcases ZM hr with hr|hr;.obtain⟨x,_,rfl⟩:=Zl hr;exact .inl rfl
      .obtain⟨x,_,rfl⟩:=Zl hr;exact .inr (.inl rfl)
    .exact .inr (.inr (k _ hr))
theorem FH:∀(hs:J Hn)(tl:J Z)(a:Xe)(o:U),(∀h∈hs,rT h)->Tg o=cJ (bf (hs,tl))->∃c,(vU o hs).foldl (lp b) (a,o)=(a++hs.flatMap (λh=>XM h.s++X5),c)/\Tg c=tl:=by
 intro I;induction I with
 |Yk=>
  intro tl a o _ h;refine⟨o,by rw[Xj,Zn];rfl,?_⟩;rw[h];exact fT tl|Zp h r g=>
  intro tl a o d e;walk_at"b";have i:=d h (.head _);have e1:cJ (bf (h::r,tl))=h.s++(cJ X5++cJ (bf (r,tl))):=by
   unfold bf;rw[ZA,ZQ,fD,fD,fT,ZQ]
  rw[e1]at e;have e2:lp b (a,o) (o+Y7,bh false "-" zz R2,bh true "+" zz R2)=(a++(XM h.s++X5),o+Y7+WR X5):=by
   have t1:(Tg o).take (o+Y7-o)=h.s:=by rw[e,Wn,List.take_left]
   show((a++XM ((Tg o).take (o+Y7-o)))++UL (bh false "-" zz R2) (bh true "+" zz R2),o+Y7+(bh false "-" zz R2).length)=_;rw[t1,(pC ..),wR pI qC zz R2 i.ok,ZQ];rfl
  have j:Tg (o+Y7+WR X5)=cJ (bf (r,tl)):=by rw[<-IC,<-IC,e,List.drop_left,<-gM,List.drop_left]
  obtain⟨c,f,k⟩:=g tl (a++(XM h.s++X5)) (o+Y7+WR X5) (λx hx=>d x (ZX _ hx)) j;refine⟨c,?_,k⟩;rw[UU,e2,f,ZA,ZQ]
theorem Di(a:∀h∈hs,rT h)(e:s=cJ (bf (hs,tl))):ba s (vU 0 hs)=bf (hs,tl)/\(cK s (vU 0 hs)).1.length<=(bf (hs,tl)).length:=by
 obtain⟨o,f,b⟩:=FH hs tl [] 0 a (b:=s) (by rw[Ur];exact e);unfold ba cK;rw[f];unfold bf;refine⟨?_,?_⟩;.rw[Yh,b]at⊢
 .rw[Yh,Z1]at⊢;exact WN _ _
theorem D6(s:J Z):∀(d:J Hk)(st:Xe×U),st.1.length<=(d.foldl (lp s) st).1.length:=by
 intro I;induction I with
 |Yk=>
  intro _;exact ZV _|Zp b d a=>
  intro st;refine YW ?_ (a _);rw[Z1,Z1];exact cY 0x660380821 [_,_,_]
theorem DD(s:J Z)(d:J Hk)(j:U):(cK s (SO j)).1.length<=(cK s d).1.length:=by
 have:cK s d=(d.drop j).foldl (lp s) (cK s (SO j)):=by
  unfold cK;rw[<-WW,XH]
 rw[this];exact D6 s _ _
theorem wV:∀(hs:J Hn)(tl:J Z),kh hs<=WR (bf (hs,tl)):=by
 intro I;induction I with
 |Yk=>
  intro _;exact Zg _|Zp h r a=>
  intro tl;have:WR (bf (h::r,tl))=Y7+WR X5+WR (bf (r,tl)):=by
   unfold bf;rw[ZA,ZQ,cR,cR,jh]
  rw[kZ,this];exact aV 0x7f3010e011e441 [_,_,_] (a tl)
def fw(c:cg):Z:=if c.1≠[]/\c.2.1≠[]then"replace"else if c.1≠[]then"delete"else"insert"
def dA(i j:U)(c:cg):Op:=(fw c,i,i+c.1.length,j,j+c.2.1.length)
def bE(i j k:U):Op:=(("equal"),i,i+k,j,j+k)
structure nx(a b:J Z)(i j:U)(c:cg):Prop where
 ga:(IL i).take c.1.length=c.1
 gb:(Tg j).take c.2.1.length=c.2.1
 ka:(IL (i+c.1.length)).take c.2.2.length=c.2.2
 kb:(Tg (j+c.2.1.length)).take c.2.2.length=c.2.2
def aH(a b:J Z)(i j:U)(cs:Zb4)(os:ZbJ):Prop:=cs.rec (motive:=λ_=>U->U->J Op->Prop) (λ_ _ os=>os=[]) (λc _ R i j os=>nx a b i j c/\((∃l,R (i+c.1.length+c.2.2.length) (j+c.2.1.length+c.2.2.length) l/\os=dA i j c::bE (i+c.1.length) (j+c.2.1.length) c.2.2.length::l)\/c.2.2=[]/\∃l,R (i+c.1.length) (j+c.2.1.length) l/\os=dA i j c::l)) i j os
theorem aH.nil:aH t e j p [] []:=rfl
variable{Nd:ZbJ}
theorem aH.eq(h:nx t e j p Nq)(r:aH t e (j+Nq.1.length+Nq.2.2.length) (p+Nq.2.1.length+Nq.2.2.length) Nl Nd):aH t e j p (Nq::Nl) (dA j p Nq::bE (j+Nq.1.length) (p+Nq.2.1.length) Nq.2.2.length::Nd):=⟨h,.inl ⟨Nd,r,rfl⟩⟩
theorem aH.ne(h:nx t e j p Nq)(a:Nq.2.2=[])(r:aH t e (j+Nq.1.length) (p+Nq.2.1.length) Nl Nd):aH t e j p (Nq::Nl) (dA j p Nq::Nd):=⟨h,.inr ⟨a,Nd,r,rfl⟩⟩
theorem aH.nl(h:aH t e j p [] Nd):Nd=[]:=h
@[elab_as_elim]theorem aH.inv{a:ZbJ->Prop}(h:aH t e j p (Nq::Nl) Nd)(eq:∀Nd,nx t e j p Nq->aH t e (j+Nq.1.length+Nq.2.2.length) (p+Nq.2.1.length+Nq.2.2.length) Nl Nd->a (dA j p Nq::bE (j+Nq.1.length) (p+Nq.2.1.length) Nq.2.2.length::Nd))(ne:∀Nd,nx t e j p Nq->Nq.2.2=[]->aH t e (j+Nq.1.length) (p+Nq.2.1.length) Nl Nd->a (dA j p Nq::Nd)):a Nd:=h.2.elim (λx=>VE λl y=>y.2▸eq l h.1 y.1) λx=>x.2.elim λl y=>y.2▸ne l h.1 x.1 y.1
@[elab_as_elim]theorem nv{a:U->U->J cg->J Op->Prop}(Yk:∀j p,a j p [] [])(eq:∀j p c Nl Nd,nx t e j p c->aH t e (j+c.1.length+c.2.2.length) (p+c.2.1.length+c.2.2.length) Nl Nd->a (j+c.1.length+c.2.2.length) (p+c.2.1.length+c.2.2.length) Nl Nd->a j p (c::Nl) (dA j p c::bE (j+c.1.length) (p+c.2.1.length) c.2.2.length::Nd))(ne:∀j p c Nl Nd,nx t e j p c->c.2.2=[]->aH t e (j+c.1.length) (p+c.2.1.length) Nl Nd->a (j+c.1.length) (p+c.2.1.length) Nl Nd->a j p (c::Nl) (dA j p c::Nd))(h:aH t e j p Nl Nd):a j p Nl Nd:=by induction Nl generalizing j p Nd with|Yk=>exact h.nl▸Yk j p|Zp c Nl i=>exact h.inv (λNd hl r=>eq j p c Nl Nd hl r (i r)) λNd hl b r=>ne j p c Nl Nd hl b r (i r)
theorem FY(c:cg):(fw c=="equal")=false:=by
 unfold fw;refine bQ rfl (λO=>?_) λO=>?_;.decide+kernel
 .split<;>decide+kernel
theorem bT:("replace")≠"insert"/\("replace")≠"delete"/\("replace")≠"equal"/\("delete")≠"insert"/\("delete")≠"equal"/\("insert")≠"equal":=by refine⟨?_,?_,?_,?_,?_,?_⟩<;>(rw[Ne,ay];decide)
theorem xk(c:cg):tF (fw c):=by
  unfold fw;refine bQ rfl (λO=>?_) λO=>?_;.exact .inr (.inr (.inl rfl))
  . refine bQ rfl (λO=>?_) λO=>?_;.exact .inr (.inl rfl)
    .exact .inl rfl
theorem jk(skip:Z)(l:J Z)(s:Op->U×U)(o:Op)(g:ZbJ):IP skip l s (o::g)=(if o.1=skip then[]else((vc (s o).1).take ((s o).2-(s o).1)).map (pH o.1++.))++IP skip l s g:=rfl
theorem As:pH "equal"="  ":=by
 unfold pH;rw[ZY (Zh bT.2.2.2.2.2),ZY (Zh bT.2.2.2.2.1),ZY (Zh bT.2.2.1)]
theorem s9(c:cg):(c.1≠[]->pH (fw c)=gN "- " c)/\(c.2.1≠[]->pH (fw c)=gN "+ " c):=by
  unfold fw gN;refine(Wh (c.1≠[]/\c.2.1≠[])).elim (λh=>?_) λh=>?_
  . rw[ZT h,ZT h,ZT h];have:pH "replace"="! ":=by
      unfold pH;rw[ZY bT.1,ZY bT.2.1,ZT rfl]
    exact⟨λO=>this,λO=>this⟩
  . rw[ZY h,ZY h,ZY h];by_cases h1:c.1≠[];.rw[ZT h1];refine⟨λO=>?_,λh2=>Zc ⟨h1,h2⟩ h⟩;unfold pH;rw[ZY bT.2.2.2.1,ZT rfl]
    .rw[ZY h1];refine⟨λh2=>Zc h2 h1,λO=>?_⟩;unfold pH;rw[ZT rfl]
theorem te(a b:J Z)(c j:U)(i:J Z)(h:(IL c).take Xw=i)(os:ZbJ):IP "insert" a DV (bE c j Xw::os)=ei i++IP "insert" a DV os:=by
 rw[jk];congr 1;show(if("equal")="insert"then[]else((IL c).take (c+Xw-c)).map (pH "equal"++.))=_;rw[ZY (Zh bT.2.2.2.2.2),Wn,h,As];rfl
theorem uU(a b:J Z)(c j:U)(i:J Z)(h:(Tg j).take Xw=i)(os:ZbJ):IP "delete" b CR (bE c j Xw::os)=ei i++IP "delete" b CR os:=by
 rw[jk];congr 1;show(if("equal")="delete"then[]else((Tg j).take (j+Xw-j)).map (pH "equal"++.))=_;rw[ZY (Zh bT.2.2.2.2.1),Wn,h,As];rfl
theorem uL(h:nx a b i f c)(os:ZbJ):IP "insert" a DV (dA i f c::os)=(dv false c).map (gN "- " c++.)++IP "insert" a DV os:=by
  rw[jk];congr 1;show(if fw c="insert"then[]else((IL i).take (i+c.1.length-i)).map (pH (fw c)++.))=_;rw[Wn,h.ga];by_cases d:c.1=[];.have:dv false c=[]:=d;rw[this,d];split<;>rfl
  . rw[(s9 c).1 d,ZY];.rfl
    . unfold fw;split;.exact bT.1
      .exact bT.2.2.2.1
set_option tactic.hygienic true in theorem uh(h:nx t e j p Nq)(os:J Op):IP "delete" e CR (dA j p Nq::os)=(dv true Nq).map (gN "+ " Nq++.)++IP "delete" e CR os:=by
  rw[jk];congr 1;show(if fw Nq="delete"then[]else((T2 p).take (p+Nq.2.1.length-p)).map (pH (fw Nq)++.))=_;rw[Wn,h.gb];by_cases a:Nq.2.1=[];.have:dv true Nq=[]:=a;rw[this,a];split<;>rfl
  . rw[(s9 Nq).2 a,ZY];.rfl
    . unfold fw;refine bQ rfl (λO=>?_) λk=>?_;.exact bT.2.1
      .rw[ZY (λh1=>k ⟨h1,a⟩)];exact Zh bT.2.2.2.1
theorem aH.HK(h:aH t e a b cs Nd):IP "insert" t DV Nd=WL λc=>(dv false c).map (gN "- " c++.)++ei c.2.2:=by
 refine nv (λO O=>rfl) (λa b c cs Nd h r i=>?_) (λa b c cs Nd h d r i=>?_) h;.rw[uL h,te t e _ _ _ h.ka,i,ZA,ZQ]
 .rw[uL h,i,ZA,d];simp[ei]
theorem aH.Iv(h:aH t e a b cs Nd):IP "delete" e CR Nd=WL λc=>(dv true c).map (gN "+ " c++.)++ei c.2.2:=by
 refine nv (λO O=>rfl) (λa b c cs Nd h r i=>?_) (λa b c cs Nd h d r i=>?_) h;.rw[uh h,uU t e _ _ _ h.kb,i,ZA,ZQ]
 .rw[uh h,i,ZA,d];simp[ei]
theorem ke(i j k:U)(g:ZbJ):iS "replace" "delete" (bE i j k::g)=iS "replace" "delete" g/\iS "replace" "insert" (bE i j k::g)=iS "replace" "insert" g:=by
 have e1:decide ((bE i j k).1="replace"\/(bE i j k).1="delete")=false:=Wx λh=>Xp (λq=>bT.2.2.1 hC) (λq=>bT.2.2.2.2.1 hC);have e2:decide ((bE i j k).1="replace"\/(bE i j k).1="insert")=false:=Wx λh=>Xp (λq=>bT.2.2.1 hC) (λq=>bT.2.2.2.2.2 hC);exact⟨rfl,rfl⟩
theorem kN(a:c.1≠[]\/c.2.1≠[])(g:ZbJ):iS "replace" "delete" (dA i b c::g)=(!(dv false c).isEmpty||iS "replace" "delete" g)/\iS "replace" "insert" (dA i b c::g)=(!(dv true c).isEmpty||iS "replace" "insert" g):=by
  have e:∀l:J Z,(!l.isEmpty)=decide (l≠[]):=λl=>by cases l<;>simp
  rw[e,e];show(decide (fw c="replace"\/fw c="delete")||_)=(decide (c.1≠[])||_)/\(decide (fw c="replace"\/fw c="insert")||_)=(decide (c.2.1≠[])||_);unfold fw;by_cases h:c.1≠[]/\c.2.1≠[];.rw[ZT h,Yr h.1,Yr h.2,Yr (.inl rfl),Yr (.inl rfl)];exact⟨rfl,rfl⟩
  . rw[ZY h];by_cases h1:c.1≠[];.have h2:¬c.2.1≠[]:=λq=>h ⟨h1,q⟩;rw[ZT h1,Yr h1,Wx h2,Yr (.inr rfl),Wx (λq=>Vr (λz=>bT.2.1 z.symm) (λz=>bT.2.2.2.1 z))];exact⟨rfl,rfl⟩
    .have h2:=a.resolve_left h1;rw[ZY h1,Wx h1,Yr h2,Wx (λq=>Vr (λz=>bT.1 z.symm) (λz=>bT.2.2.2.1 z.symm)),Yr (.inr rfl)];exact⟨rfl,rfl⟩
set_option tactic.hygienic true in theorem aH.has(h:aH t e j p Nl Nd)(a:∀c∈Nl,c.1≠[]\/c.2.1≠[]):iS "replace" "delete" Nd=bB false Nl/\iS "replace" "insert" Nd=bB true Nl:=by
  revert a;refine nv (λO O O=>⟨rfl,rfl⟩) (λj p c Nl Nd h r i a=>?_) (λj p c Nl Nd h b r i a=>?_) h;.have i:=i λx hx=>a x (ZX _ hx);unfold bB at i⊢;rw[(kN (a c (by simp)) _).1,(kN (a c (by simp)) _).2,(ke _ _ _ _).1,(ke _ _ _ _).2,i.1,i.2,UI,UI];exact⟨rfl,rfl⟩
  .have i:=i λx hx=>a x (ZX _ hx);unfold bB at i⊢;rw[(kN (a c (by simp)) _).1,(kN (a c (by simp)) _).2,i.1,i.2,UI,UI];exact⟨rfl,rfl⟩
theorem a7.chg:∀{cs:Zb4},a7 cs->∀c∈cs,c.1≠[]\/c.2.1≠[]:=by
 intro I;induction I with
 |Yk=>
  intro _;exactλc a=>by cases a|Zp c cs b=>
  intro ok;exactλd hd=>by
   obtain⟨h,_,t⟩:=ok.qS;clear ok;refine(ZI hd).elim (λYA=>?_) λhd=>?_;.rw[YA];exact h
   .exact b t d hd
def fc(i:U)(cs:Zb4):U:=i+WR (WL aU)
def fg(j:U)(cs:Zb4):U:=j+WB (WL aU)
theorem dp(i:U)(c:cg)(cs:Zb4):fc i (c::cs)=fc (i+c.1.length+c.2.2.length) cs:=by unfold fc;rw[ZA,cR,kS];exact cY 0x6e0480e020c20480c41 [_,_,_,_]
theorem dh(j:U)(c:cg)(cs:Zb4):fg j (c::cs)=fg (j+c.2.1.length+c.2.2.length) cs:=by unfold fg;rw[ZA,dB,mL];exact cY 0x6e0480e020c20480c41 [_,_,_,_]
theorem iM(o:Op)(h:a≠[]):o9 (o::a)=o9 a:=by
 unfold o9;cases a with|Yk=>exact Zc rfl h|Zp p r=>rfl
set_option tactic.hygienic true in theorem aH.last(h:aH t e j p Nl Nd)(b:Nl≠[]):Nd≠[]/\(o9 Nd).2.2.1=fc j Nl/\(o9 Nd).2.2.2.2=fg p Nl:=by
  revert b;refine nv (λO O h=>Zc rfl h) (λj p c Nl Nd h r i O=>⟨Y9 _ _,?_⟩) (λj p c Nl Nd h d r i O=>⟨Y9 _ _,?_⟩) h
  . rw[dp,dh,iM _ (Y9 _ _)];by_cases a:Nl=[];.subst a;rw[r.nl];exact⟨rfl,rfl⟩
    .obtain⟨h1,h2⟩:=i a;rw[iM _ h1];exact h2
  . rw[dp,dh,d];by_cases a:Nl=[];.subst a;rw[r.nl];exact⟨rfl,rfl⟩
    .obtain⟨h1,h2⟩:=i a;rw[iM _ h1];exact h2
theorem aH.first(h:aH t e i a cs Nd)(b:cs≠[]):(si Nd).2.1=i/\(si Nd).2.2.2.1=a:=by cases cs with|Yk=>exact Zc rfl b|Zp c cs=>exact h.inv (λO O O=>⟨rfl,rfl⟩) λO O O O=>⟨rfl,rfl⟩
structure i8(a b:J Z)(o w:U)(k0:J Z)(ps:Zb4)(g:ZbJ):Prop where
 ka:(IL o).take Xd=k0
 kb:(Tg w).take Xd=k0
 ops:∃pre os,g=pre++os/\aH a b (o+Xd) (w+Xd) ps os/\((pre=[]/\k0=[])\/pre=[bE o w Xd])
theorem kg(o w:U)(k0:J Z)(ps:Zb4):fc (o+Xd) ps=o+WR (au k0 ps)/\fg (w+Xd) ps=w+WB (au k0 ps):=by
 rw[cR,dB,jh,lD];exact cY 0x7770814448160226e10188301c041 [_,_,_,_,_]
theorem i8.aL(i:i8 t e a b NN.k0 ID l)(ok:a7 ID)(j:ID≠[]):bY t e l=eP Of (a:U) (b:U):=by
  obtain⟨pre,os,YA,c,hp⟩:=i.ops;rw[YA];obtain⟨m,l1,l2⟩:=c.last j;obtain⟨t1,t2⟩:=c.has ok.chg;have e1:=c.HK;have e2:=c.Iv;rw[(kg a b NN.k0 ID).1]at l1;rw[(kg a b NN.k0 ID).2]at l2;have F:(si (pre++os)).2.1=a/\(si (pre++os)).2.2.2.1=b/\(o9 (pre++os)).2.2.1=a+WR Of/\(o9 (pre++os)).2.2.2.2=b+WB Of/\iS "replace" "delete" (pre++os)=bB false ID/\iS "replace" "insert" (pre++os)=bB true ID/\IP "insert" t DV (pre++os)=dD false "- " NN.k0 ID/\IP "delete" e CR (pre++os)=dD true "+ " NN.k0 ID:=by
    refine hp.elim (λYA=>?_) λYA=>?_
    . obtain⟨n,k⟩:=YA;rw[n];rw[Yh];have z:NN.k0.length=0:=by rw[k];rfl
      obtain⟨f,d⟩:=c.first j;rw[z,vi]at f d;refine⟨f,d,l1,l2,t1,t2,?_,?_⟩;.rw[e1,dD,k];rfl
      .rw[e2,dD,k];rfl
    . rw[YA];rw[WO,Yh,iM _ m];refine⟨rfl,rfl,l1,l2,?_,?_,?_,?_⟩;.rw[(ke _ _ _ _).1];exact t1
      .rw[(ke _ _ _ _).2];exact t2
      .rw[te t e _ _ _ i.ka,e1];rfl
      .rw[uU t e _ _ _ i.kb,e2];rfl
  obtain⟨f,d,o,p,q,r,s,u⟩:=F;rw[qc ok j];unfold bY;rw[f,d,o,p,q,r,s,u];have g:((a+WR Of:U):Zw)-(a:U)=(WR Of:U):=by exact cY 0x373146619c041 [_,_]
  have w:((b+WB Of:U):Zw)-(b:U)=(WB Of:U):=by exact cY 0x373146619c041 [_,_]
  rw[g,w];rfl
def dO(n:U)(c:cg):cg:=(c.1,c.2.1,c.2.2.take n)
def rJ(n:U)(l:Zb4):Zb4:=td (motive:=λO=>J cg) [] (λc r k=>m4 (motive:=λO=>J cg) r [ZbE] λO O=>c::k) l
theorem sZ(n:U)(h:(Xs a).take Xw=i):(Xs a).take (n2 n).length=n2 n:=by
 have e:n2 n=((Xs a).take Xw).take n:=by rw[h]
 rw[Zo];walk_at"j";conv=>rhs;rw[e]
 rw[List.take_take]
theorem Lies.cut(h:nx t e i a c)(n:U):nx t e i a ZbE:=⟨h.ga,h.gb,sZ n h.ka,sZ n h.kb⟩
set_option tactic.hygienic true in theorem aH.snoc(h:aH t e j p Nl Nd)(a:nx t e (fc j Nl) (fg p Nl) Nq):aH t e j p (Nl++[Nq]) (Nd++[dA (fc j Nl) (fg p Nl) Nq,bE (fc j Nl+Nq.1.length) (fg p Nl+Nq.2.1.length) Nq.2.2.length]):=by
  revert a;refine nv (λO O a=>.eq a .nil) (λj p d Nl Nd h r i a=>?_) (λj p d Nl Nd h b r i a=>?_) h;.rw[dp,dh]at a⊢;exact .eq h (i a)
  . have z:d.2.2.length=0:=by rw[b];rfl
    rw[dp,dh,z]at a⊢;exact .ne h b (i a)
set_option tactic.hygienic true in theorem aH.AD(h:aH t e j p Nl Nd)(a:nx t e (fc j Nl) (fg p Nl) Nq)(b:Nq.2.2=[]):aH t e j p (Nl++[Nq]) (Nd++[dA (fc j Nl) (fg p Nl) Nq]):=by
  revert a;refine nv (λO O a=>.ne a b .nil) (λj p d Nl Nd h r i a=>?_) (λj p d Nl Nd h OQ r i a=>?_) h;.rw[dp,dh]at a⊢;exact .eq h (i a)
  . have z:d.2.2.length=0:=by rw[OQ];rfl
    rw[dp,dh,z]at a⊢;exact .ne h OQ (i a)
structure At(c b:J Z)(o w:U)(k0:J Z)(a:Zb4)(g:ZbJ)(i j:U):Prop where
 g:i8 c b o w k0 a g
 i:i=fc (o+Xd) a
 j:j=fg (w+Xd) a
theorem At.snoc(h:At t e f k k0 a Nd p j)(l:nx t e p j c):At t e f k k0 (a++[c]) (Nd++[dA p j c,bE (p+c.1.length) (j+c.2.1.length) c.2.2.length]) (p+c.1.length+c.2.2.length) (j+c.2.1.length+c.2.2.length):=by
 walk_at"bd";walk_at"be";obtain⟨⟨ka,kb,pre,os,rfl,m,hp⟩,b,hj⟩:=h;have d:=l;rw[b,hj]at d;refine⟨⟨ka,kb,pre,_,by rw[ZQ],b▸hj▸m.snoc d,hp⟩,?_,?_⟩;.rw[b];unfold fc;rw[YT,cR,ZA,Xj,Zn,kS];exact cY 0x6e10810620c0901c041 [_,_,_,_]
 .rw[hj];unfold fg;rw[YT,dB,ZA,Xj,Zn,mL];exact cY 0x6e10810620c0901c041 [_,_,_,_]
theorem At.AD(h:At t e f k k0 a Nd p j)(l:nx t e p j c)(m:c.2.2=[]):i8 t e f k k0 (a++[c]) (Nd++[dA p j c]):=by
 walk_at"bf";obtain⟨⟨ka,kb,pre,os,rfl,n,hp⟩,b,hj⟩:=h;have d:=l;rw[b,hj]at d;exact⟨ka,kb,pre,_,by rw[ZQ],b▸hj▸n.AD d m,hp⟩
theorem At.start(c:(Xs a).take Xd=k0)(hb:(T2 b).take Xd=k0):At t e a b k0 [] [bE a b Xd] (a+Xd) (b+Xd):=⟨⟨c,hb,[_],[],rfl,.nil,.inr rfl⟩,rfl,rfl⟩
theorem At.bare:At t e a b [] [] [] a b:=⟨⟨by simp,by simp,[],[],rfl,.nil,.inl ⟨rfl,rfl⟩⟩,rfl,rfl⟩
theorem sr(i j:U)(c:cg):(dA i j c).eq=false:=FY c
theorem eq_eq(i j k:U):(bE i j k).eq=true:=Ve _
theorem rN(n:U)(g:ZbJ)(i j:U)(c:cg)(r:ZbJ):f9 n g (dA i j c::r)=f9 n (g++[dA i j c]) r:=by rw[gJ,ZY (λh=>by rw[sr]at h;exact Zc h.1 Z')]
theorem jo(n:U)(g:ZbJ)(i j k:U)(a:k<=n+n)(r:ZbJ):f9 n g (bE i j k::r)=f9 n (g++[bE i j k]) r:=by
 rw[gJ,ZY];intro h;have:=h.2;exact bw 0x1ffa7211ea2280c41 [_,_,_] this a
theorem vW(n:U)(g:ZbJ)(i j k:U)(a:n+n<k)(r:ZbJ):f9 n g (bE i j k::r)=(g++[bE i j n])::f9 n [bE (i+(k-n)) (j+(k-n)) n] r:=by
 walk_at"i";rw[gJ,ZT ⟨eq_eq _ _ _,by show i+k-i>n+n;(exact aV 0x7f511c0430e841 [_,_,_] a)⟩];have e1:kr n (bE i j k)=bE i j n:=by
  unfold kr bE;simp only[o4,true_and];exact aV 0x1feee0125a0124044dc023b40238087a14021 [_,_,_,_] a
 have e2:rh n (bE i j k)=bE (i+(k-n)) (j+(k-n)) n:=by
  unfold rh bE;simp only[o4,true_and];exact aV 0x1fef7bb80611088901137088444bc4301109b806110887010f7088443bc43010c7a14021 [_,_,_,_] a
 rw[e1,e2]
theorem ue(h:∃o∈a,o.eq=false):f9 n a []=[a]:=by
 obtain⟨o,b,he⟩:=h;rw[nW,ZT];refine⟨List.ne_nil_of_mem b,λh=>?_⟩;obtain⟨p,rfl⟩:=List.length_eq_one_iff.mp h.1;have h2:p.eq=true:=h.2;rw[<-ZD b,he]at h2;cases h2
theorem n9(h:(Xs a).take Xw=i)(p q:U):(Xs (a+p)).take ((w1 p).take q).length=(w1 p).take q:=by
  have e:Xs a=i++(Xs a).drop Xw:=by conv=>lhs;rw[<-XH Xw (Xs a),h]
  rw[<-IC,e];rcases UN Xw p with g|g;.rw[Vm (Xa g)];simp
  .rw[fI g];rw[List.take_append_of_le_length (by rw[Zo];exact Nat.min_le_right _ _),Zo];rw[<-List.take_take,XT]
def Good(a b:J Z)(g:ZbJ):Prop:=∃o w k0 ps,i8 a b o w k0 ps g/\a7 ps/\ps≠[]/\fc (o+Xd) ps<=Zx/\fg (w+Xd) ps<=Zv
structure Ac(a b:J Z)(o w:U)(hs:J Hn)(g:J ZbJ):Prop where
 aL:g.flatMap (bY a b)=jV (o:U) (w:U) hs
 ne:g≠[]
 good:∀c∈g,Good a b c
set_option tactic.hygienic true in theorem B4(n:U):∀(cs:J cg)(o w b d:U)(s k0:J Z)(a:J cg)(u os:J Op),At t e o w k0 a u b d->aH t e b d (rJ n cs) os->a7 (a++cs)->cs≠[]->fc b cs<=YF->fg d cs<=X1->Ac t e o w (w7 n s k0 a cs).1 (f9 n u os):=by
  intro E;induction E with
  |Yk=>
    intro _ _ _ _ _ _ _ _ _ _ _ _ h _ _;exact Zc rfl h|Zp c F I=>cases F with
    |Yk=>
      intro o w b d s k0 a u os f x ok _ k l;walk_at"0";have m:a7 (a++[ZbE]):=ok.snoc _;walk_at"0";have Ue:∀g',i8 t e o w k0 (a++[ZbE]) g'->f9 n g' []=[g']->Ac t e o w (w7 n s k0 a [c]).1 (f9 n g' []):=λg' hg y=>by
        rw[y];refine⟨?_,by simp,λQ G=>?_⟩;.rw[ZA,Xj,Zn,i8.aL (NN:=⟨s,k0,a++[ZbE]⟩) hg m (by simp)];show _=eP _ _ _++bH _ _ [];exact(Zn _).symm
        . rw[ZD G];refine⟨o,w,k0,_,hg,m,by simp,?_,?_⟩
          . have e1:fc (o+Xd) (a++[ZbE])=fc b [ZbE]:=by rw[f.i];unfold fc;rw[YT,cR];(exact cY 0x6e038083080c41 [_,_,_])
            have e2:fc b [ZbE]<=fc b [c]:=by
              rw[dp,dp];show b+c.1.length+(c.2.2.take n).length<=_;rw[Zo];exact cY 0x1980c30b0c41 [_,_,_]
            exact fX 0x7fffc903920f2316c41 [_,_,_,_] e1 e2 k
          . have e1:fg (w+Xd) (a++[ZbE])=fg d [ZbE]:=by rw[f.j];unfold fg;rw[YT,dB];(exact cY 0x6e038083080c41 [_,_,_])
            have e2:fg d [ZbE]<=fg d [c]:=by
              rw[dh,dh];show d+c.2.1.length+(c.2.2.take n).length<=_;rw[Zo];exact cY 0x1980c30b0c41 [_,_,_]
            exact fX 0x7fffc903920f2316c41 [_,_,_,_] e1 e2 l
      have hl:(dO n c).2.2.length<=n+n:=by
        show(c.2.2.take n).length<=_;rw[Zo];exact cY 0x66010d841 [_,_]
      refine aH.inv (show aH t e b d (dO n c::[]) os from x) (λos h r=>?_) λos h z r=>?_;.rw[r.nl];rw[rN,jo n _ _ _ _ hl,ZQ];exact Ue _ (f.snoc h).g (ue ⟨dA b d ZbE,by simp,sr _ _ _⟩)
      .rw[r.nl];rw[rN];exact Ue _ (f.AD h z) (ue ⟨dA b d ZbE,by simp,sr _ _ _⟩)|Zp A r=>
      intro o w b d s k0 a u os f x ok _ k l;obtain⟨S,he,M⟩:=ok.tail.hd2;rw[dp]at k;rw[dh]at l;refine aH.inv (show aH t e b d (c::rJ n (A::r)) os from x) (λT h q=>?_) λO O z O=>Zc z he
      . rw[rN,nD];by_cases hs:2*n<c.2.2.length
        . rw[ZT hs,vW n _ _ _ _ (by exact a9 0x3fa14021d0a41 [2] [_,_] [] hs)];have m:a7 (a++[ZbE]):=ok.snoc _;have hg:=(f.snoc (h.cut n)).g;have ln:(dO n c).2.2.length=n:=by
            show(c.2.2.take n).length=n;rw[Zo];(exact a9 0x3fb0d841d0a41 [2] [_,_] [] hs)
          rw[ln]at hg;have lk:(bJ n (c.2.2.drop n)).length=n:=by unfold bJ;rw[Ze,Ze];(exact a9 0xfec318862114422d0a41 [2] [_,_] [] hs)
          have hd:(bX n (c.2.2.drop n)).length=c.2.2.length-n-n:=by unfold bX;rw[Zo,Ze];(exact cY 0x1b888360c441 [_,_])
          have lt:bJ n (c.2.2.drop n)=(c.2.2.drop (c.2.2.length-n)).take n:=by
            unfold bJ;rw[IC,Ze,YQ (by rw[Ze];(exact cY 0x645188821 [_,_]))];congr 1;(exact a9 0xfee211422188441d0a41 [2] [_,_] [] hs)
          have B:=n9 h.ka (c.2.2.length-n) n;have C:=n9 h.kb (c.2.2.length-n) n;rw[<-lt]at B C;have st:=At.start B C;rw[lk]at st;have p1:b+c.1.length+(c.2.2.length-n)+n=b+c.1.length+c.2.2.length:=by exact a9 0xfee021c03088443d0a41 [2] [_,_,_] [] hs
          have p2:d+c.2.1.length+(c.2.2.length-n)+n=d+c.2.1.length+c.2.2.length:=by exact aV 0x7f7021603808bb810301c041 [_,_,_,_,_] p1
          rw[p1,p2]at st;obtain⟨i1,V,N⟩:=I _ _ _ _ (bX n (c.2.2.drop n)) (bJ n (c.2.2.drop n)) [] _ _ st q M (by simp) k l;have gd:=i8.aL (NN:=⟨s,k0,a++[ZbE]⟩) hg m (by simp);rw[ZQ];refine⟨?_,by simp,λg' hg'=>?_⟩
          . show bY t e _++_=eP _ _ _++bH _ _ _;congr 1;obtain⟨ps,hr,y⟩:=iP n (A::r) (bX n (c.2.2.drop n)) (bJ n (c.2.2.drop n)) [];have D:=i1;rw[y]at D⊢;rw[pX];refine R7 D ?_;congr 1;.have:=(kg o w k0 (a++[ZbE])).1;have e2:=(f.snoc (h.cut n)).i;rw[ln]at e2;show _=((o:U):Zw)+(WR (au k0 (a++[ZbE])):U)+((bX n (c.2.2.drop n)).length:U);rw[hd];have p:(dO n c).1.length=c.1.length:=rfl;exact oP 0xfffffdc2710c42284d133ce1108a061ee083976626cb00c083d0a41 [2] [_,_,_,_,_,_,_,_] [] hs e2 p this
            .have:=(kg o w k0 (a++[ZbE])).2;have e2:=(f.snoc (h.cut n)).j;rw[ln]at e2;show _=((w:U):Zw)+(WB (au k0 (a++[ZbE])):U)+((bX n (c.2.2.drop n)).length:U);rw[hd];have p:(dO n c).2.1.length=c.2.1.length:=rfl;exact oP 0xfffffdc2710c42284d133ce1108a061ee083976626cb00c083d0a41 [2] [_,_,_,_,_,_,_,_] [] hs e2 p this
          . rcases ZI hg' with rfl|hg'
            . refine⟨o,w,k0,_,hg,m,by simp,?_,?_⟩;.rw[<-(f.snoc (h.cut n)).i,ln];have p:(dO n c).1.length=c.1.length:=rfl;unfold fc at k;exact fX 0x7fffc9e048203b12327818bb2c0901c041 [_,_,_,_,_,_,_,_] p1 k p
              .rw[<-(f.snoc (h.cut n)).j,ln];unfold fg at l;exact J' l p1 (rfl:(dO n c).2.1.length=c.2.1.length)
            .exact N g' hg'
        .rw[ZY hs,jo n _ _ _ _ (by exact a9 0x7f300845cd0a41 [2] [_,_] [] hs),ZQ];exact I o w _ _ s k0 (a++[c]) _ _ (f.snoc h) q (by rw[ZQ];exact ok) (Y9 _ _) k l
def dy(a b:J Z)(i j:U)(l:J eI):Zb4:=VH (λm k i j=>((IL i).take (m.1-i),(Tg j).take (m.2.1-j),(IL m.1).take m.2.2)::k (m.1+m.2.2) (m.2.1+m.2.2)) (λi j=>if i<Zx\/j<Zv then[(IL i,Tg j,[])]else[]) i j
theorem gW(t e i a):dy t e i a []=if i<YF\/a<X1 then[(Xs i,T2 a,[])]else[]:=rfl
theorem Cs(t e i b a r):dy t e i b (a::r)=((Xs i).take (a.1-i),(T2 b).take (a.2.1-b),(Xs a.1).take a.2.2)::dy t e (a.1+a.2.2) (a.2.1+a.2.2) r:=rfl
def Sp(i j:U)(l:J eI):Prop:=VH (λm k i j=>(i<m.1\/j<m.2.1)/\k (m.1+m.2.2) (m.2.1+m.2.2)) (λO O=>m2) i j
theorem EM:∀(r:J eI)(m:eI)(a b:U),Ch I t e s u a b (m::r)->lE t e (m::r)->Sp (m.1+m.2.2) (m.2.1+m.2.2) r:=by
  intro i;induction i with
  |Yk=>
    intro _ _ _ _ _;exact trivial|Zp n r j=>
    intro m a b h hs;obtain⟨h1,h2,d,l,w,x,f⟩:=h;obtain⟨g,o,g3,p,y,z,A⟩:=(f);refine⟨?_,j n _ _ f hs.2⟩;refine(Wh (m.1+m.2.2=n.1/\m.2.1+m.2.2=n.2.1)).elim (λc=>?_) λc=>?_
    . exfalso;rcases hs.1 with k|⟨B,k2,q⟩;.apply k;rw[c.1,c.2];exact p 0 g3
      .apply q;have:=l (m.2.2-1) (Jm d);rw[show m.1+(m.2.2-1)=n.1-1 by exact bw 0x7ffb8b8708b822eeca4d8e011682d [_,_,_,_,_] d c,show m.2.1+(m.2.2-1)=n.2.1-1 by(exact bw 0x7ffb8b8b08b824eecb0093631682d [_,_,_,_,_] d c)]at this;exact this
    .exact fX 0xffffed107a1079dd907b107241e441 [_,_,_,_] g o c
theorem a7.push(h:c.1≠[]\/c.2.1≠[])(he:c.2.2≠[])(t:a7 cs):a7 (c::cs):=by exact⟨h,.inr he,t⟩
theorem oB(h:0<YF):t≠[]:=λe=>by rw[e]at h;exact Zc h Z'
theorem fK(l:J Z)(i k:U)(h:i+k<=W5):((vc i).take k).length=k:=by rw[Zo,Ze];exact aV 0x1fd8ad108c591c041 [_,_,_] h
theorem Dw:∀(l:J eI)(i j:U),Zdg->Sp i j l->a7 (dy t e i j l):=by
  intro a;induction a with
  |Yk=>
    intro i j h _;rw[gW];refine bQ rfl (λg=>?_) λO=>?_
    . refine⟨?_,.inl rfl,trivial⟩;rcases g with g|g;.exact .inl (oB (by rw[Ze];exact GI g))
      .exact .inr (oB (by rw[Ze];exact GI g))
    .exact trivial|Zp m r b=>
    intro i j h hs;have it:=(q1 _ _ _ h).2.2 m (.head _);obtain⟨h1,h2,c,f,k,n,d⟩:=h;refine a7.push ?_ (oB (by rw[fK _ _ _ it.2.2.1];exact c)) (b _ _ d hs.2);rcases hs.1 with g|g;.exact .inl (oB (by rw[fK _ _ _ (Eu h1 it.2.2.1)];exact GI g))
    .exact .inr (oB (by rw[fK _ _ _ (Eu h2 it.2.2.2)];exact GI g))
theorem jY(h:∀a,a<k->t[i+a]?=e[b+a]?):(Xs i).take k=(T2 b).take k:=by
 apply G6;intro a;rw[T3,T3];split;.rename_i g;rw[T7,T7];exact h a g
 .rfl
theorem FV(i a j b:U)(c:cg)(h1:c.1.length=a-i)(h2:c.2.1.length=b-j)(e:i<a\/j<b):e9 i a j b=fw c:=by
  have e1:i<a↔c.1≠[]:=by rw[<-List.length_pos_iff];exact HN h1
  have e2:j<b↔c.2.1≠[]:=by rw[<-List.length_pos_iff];exact HN h2
  unfold e9 fw;simp only[e1,e2]at e⊢;by_cases d:c.1≠[]/\c.2.1≠[];.rw[ZT d,ZT d]
  . rw[ZY d,ZY d];by_cases g:c.1≠[];.rw[ZT g,ZT g]
    .rw[ZY g,ZY g,ZT (e.resolve_left g)]
theorem By(c:cg):(fw c).length≠0:=by
 unfold fw;refine bQ rfl (λO=>?_) λO=>?_;.decide+kernel
 .split<;>decide+kernel
theorem uT(h1:c.1.length=a.1-i)(h2:c.2.1.length=a.2.1-b)(g:i<=a.1)(d:b<=a.2.1)(e:i<a.1\/b<a.2.1):cL i b a=dA i b c::(if a.2.2=0 then[]else[bE a.1 a.2.1 a.2.2]):=by
 unfold cL;rw[FV i a.1 b a.2.1 c h1 h2 e,ZY (By c)];have:dA i b c=(fw c,i,a.1,b,a.2.1):=by
  unfold dA;rw[h1,h2,Ow g,Ow d]
 walk_at"j";rw[this];rfl
theorem BN:∀(l:J eI)(i j:U),Zdg->Sp i j l->aH t e i j (dy t e i j l) (dE i j (l++[(YF,X1,0)])):=by
  intro a;induction a with
  |Yk=>
    intro i j h _;obtain⟨h1,h2,_⟩:=h;rw[gW,Yh,qX];by_cases g:i<YF\/j<X1;.rw[ZT g,uT (c:=(Xs i,T2 j,[])) (by simp) (by simp) h1 h2 g,ZT rfl];exact .ne ⟨XT,XT,by rfl,by rfl⟩ rfl .nil
    . rw[ZY g];have b:cL i j (YF,X1,0)=[]:=by
        have c:e9 i YF j X1="":=by
          unfold e9;rw[ZY (λq=>g (.inl q.1)),ZY (λq=>g (.inl q)),ZY (λq=>g (.inr q))]
        unfold cL;rw[c,ZT (by rfl),ZT rfl];rfl
      rw[b];exact .nil|Zp m r d=>
    intro i j h hs;have it:=(q1 _ _ _ h).2.2 m (.head _);obtain⟨h1,h2,f,k,s,u,n⟩:=h;have l1:=fK _ _ _ (Eu h1 it.2.2.1);have l2:=fK _ _ _ (Eu h2 it.2.2.2);have l3:=fK _ _ _ it.2.2.1;rw[Cs,WO,qX,uT (c:=((Xs i).take (m.1-i),(T2 j).take (m.2.1-j),(Xs m.1).take m.2.2)) l1 l2 h1 h2 hs.1,ZY (R5 f)];have p1:i+(m.1-i)=m.1:=by exact HF h1
    have p2:j+(m.2.1-j)=m.2.1:=by exact HF h2
    have o:=d _ _ n hs.2;generalize dy t e (m.1+m.2.2) (m.2.1+m.2.2) r=cs at*;have p:nx t e i j ((Xs i).take (m.1-i),(T2 j).take (m.2.1-j),(Xs m.1).take m.2.2):=by
      refine⟨?_,?_,?_,?_⟩;.show(Xs i).take ((Xs i).take (m.1-i)).length=_;rw[l1]
      .show(T2 j).take ((T2 j).take (m.2.1-j)).length=_;rw[l2]
      .show(Xs (i+((Xs i).take (m.1-i)).length)).take ((Xs m.1).take m.2.2).length=_;rw[l1,l3,p1]
      .show(T2 (j+((T2 j).take (m.2.1-j)).length)).take ((Xs m.1).take m.2.2).length=_;rw[l2,l3,p2];exact(jY k).symm
    have:=aH.eq p (by rw[l1,l2,l3,p1,p2];exact o);rw[show i+(((Xs i).take (m.1-i),(T2 j).take (m.2.1-j),(Xs m.1).take m.2.2)).1.length=m.1 by show i+((Xs i).take (m.1-i)).length=_;rw[l1,p1],show j+(((Xs i).take (m.1-i),(T2 j).take (m.2.1-j),(Xs m.1).take m.2.2)).2.1.length=m.2.1 by show j+((T2 j).take (m.2.1-j)).length=_;rw[l2,p2],show(((Xs i).take (m.1-i),(T2 j).take (m.2.1-j),(Xs m.1).take m.2.2)).2.2.length=m.2.2 from l3]at this;exact this
theorem mq(h:i<=k):Xs i=(Xs i).take (k-i)++Xs k:=by
 conv=>lhs;rw[<-XH (k-i) (Xs i)]
 rw[IC,Ow h]
theorem DJ:∀(l:J eI)(i j:U),Zdg->cJ ((dy t e i j l).flatMap aU)=Xs i/\RZ ((dy t e i j l).flatMap aU)=T2 j:=by
  intro b;induction b with
  |Yk=>
    intro i j h;rw[gW];refine bQ rfl (λO=>?_) λg=>?_;.rw[ZA,Xj,Zn,pS,qq];simp
    .rw[Vm (by exact aV 0xfe422e7b441e841 [_,_,_,_] g),Vm (by exact aV 0xfe464e7b441e841 [_,_,_,_] g)];exact⟨rfl,rfl⟩|Zp m r c=>
    intro i j h;obtain⟨h1,h2,n,d,o,p,f⟩:=h;obtain⟨i1,k⟩:=c _ _ f;rw[fD,jr,pS,qq,i1,k];constructor;.have a:=mq (t:=t) (k:=m.1+m.2.2) (O1);rw[Wn]at a;rw[ZQ];show(Xs i).take (m.1-i)++((Xs m.1).take m.2.2++_)=_;rw[<-a];exact(mq h1).symm
    .have a:=mq (t:=e) (k:=m.2.1+m.2.2) (O1);rw[Wn,<-jY d]at a;rw[ZQ];show(T2 j).take (m.2.1-j)++((Xs m.1).take m.2.2++_)=_;rw[<-a];exact(mq h2).symm
def jA(a:J Z):J eI->J Z|[]=>[]|m::_=>if m.1=0/\m.2.1=0 then a.take m.2.2 else[]
theorem Ce(t a u1):jA t (a::u1)=if a.1=0/\a.2.1=0 then Ti a.2.2 else[]:=rfl
def fZ(a b:J Z):J eI->J cg|[]=>dy a b 0 0 []|m::r=>if m.1=0/\m.2.1=0 then dy a b m.2.2 m.2.2 r else dy a b 0 0 (m::r)
theorem wy(t e a r):fZ t e (a::r)=if a.1=0/\a.2.1=0 then dy t e a.2.2 a.2.2 r else dy t e 0 0 (a::r):=rfl
theorem tV(C:Ch I t e YF X1 0 0 l)(S:lE t e l):∃r k,jA t l=Ti k/\k<=YF/\Ti k=e.take k/\k<=X1/\fZ t e l=dy t e k k r/\Ch I t e YF X1 k k r/\Sp k k r/\dE 0 0 (l++[(YF,X1,0)])=(if k=0 then[]else[bE 0 0 k])++dE k k (r++[(YF,X1,0)]):=by cases l with|Yk=>exact(Vs ([]) 0 ⟨rfl,Zg _,rfl,Zg _,rfl,C,trivial,rfl⟩)|Zp m r=>
    refine(Wh (m.1=0/\m.2.1=0)).elim (λg=>?_) λg=>?_
    . have it:=(q1 _ _ _ C).2.2 m (.head _);have s:=EM r m _ _ C S;induction m using E1 with|mk j n k=>?_;obtain⟨h1,h2,a,c,d,f,b⟩:=C;dsimp only at*;clear S h1 h2 d f;obtain⟨rfl,rfl⟩:=g;rw[Wi]at s b;walk_at"b";refine⟨r,k,by rw[Ce,ZT ⟨rfl,rfl⟩],by have:=it.2.2.1;rwa[Wi]at this,?_,by have:=it.2.2.2;rwa[Wi]at this,by rw[wy,ZT ⟨rfl,rfl⟩],b,s,?_⟩;.have:=jY c;rwa[Ur,Ur]at this
      . rw[WO,qX,ZY (show¬k=0 by exact aV 0xff36d0e82d [_] a)];dsimp only;rw[Wi];congr 1;unfold cL;have i:e9 0 0 0 0="":=by
          unfold e9;rw[ZY (by exact cY 0xe774d6e9ad []),ZY (Kz),ZY (Kz)]
        rw[i,ZT (by rfl),ZY (by exact aV 0xff36d0e82d [_] a)];rfl
    .refine⟨m::r,0,by rw[Ce,ZY g];rfl,Zg _,rfl,Zg _,by rw[wy,ZY g],C,⟨by exact aV 0xffb426e82de776d16da1 [_,_] g,EM r m _ _ C S⟩,rfl⟩
theorem xo(n k:U):rh n (bE 0 0 k)=bE (k-n) (k-n) (k-(k-n)):=by
 unfold rh bE;simp only[o4,true_and];exact cY 0x77bddc23110431106016ee220de22805addc23110431106016ee220de22805ad [_,_]
theorem xr(n i j k:U):kr n (bE i j k)=bE i j (min n k):=by
 unfold kr bE;simp only[o4,true_and];exact cY 0x7770b0864b40648089b858430da030c041 [_,_,_,_]
theorem pT(n k:U):SF n [bE 0 0 k]=[]:=by
 have e1:iC n [bE 0 0 k]=[bE (k-n) (k-n) (k-(k-n))]:=by
  unfold iC;rw[show([bE 0 0 k]).getD 0 default=bE 0 0 k from rfl,ZT (eq_eq _ _ _),xo];rfl
 have e2:∀i j z,gD n [bE i j z]=[bE i j (min n z)]:=λi j z=>by
  unfold gD;rw[show([bE i j z]).getD (([bE i j z]).length-1) default=bE i j z from rfl,ZT (eq_eq _ _ _),xr];rfl
 unfold SF;rw[ZY (Y9 _ _),e1,e2,jo n _ _ _ _ (by exact cY 0x66010d841 [_,_]),Yh,nW,ZY];intro h;exact h.2 ⟨rfl,eq_eq _ _ _⟩
theorem Ah(n:U):SF n []=[]:=pT n 1
theorem jt(n:U)(o:Op)(h:Nd≠[]):gD n (o::Nd)=o::gD n Nd:=by
 have e:(o::Nd).getD ((o::Nd).length-1) default=Nd.getD (Nd.length-1) default:=by cases Nd with
  |Yk=>exact Zc rfl h|Zp p r=>rfl
 unfold gD;rw[e];split;.cases Nd with
  |Yk=>exact Zc rfl h|Zp p r=>rfl
 .rfl
set_option tactic.hygienic true in theorem Au(h:aH t e p Q Nl Nd)(f:Nl≠[]):aH t e p Q (rJ j Nl) (gD j Nd)/\gD j Nd≠[]:=by
  revert f;refine nv (λO O h=>Zc rfl h) (λp Q c Nl Nd h r i O=>?_) (λp Q c Nl Nd h b r i O=>?_) h;.rw[jt j _ (Y9 _ _)];refine⟨?_,Y9 _ _⟩;cases Nl with
    |Yk=>
      walk_at"1";clear i;rw[r.nl];have a:gD j [bE (p+c.1.length) (Q+c.2.1.length) c.2.2.length]=[bE (p+c.1.length) (Q+c.2.1.length) (dO j c).2.2.length]:=by
        unfold gD;rw[show([bE (p+c.1.length) (Q+c.2.1.length) c.2.2.length]).getD (([bE (p+c.1.length) (Q+c.2.1.length) c.2.2.length]).length-1) default=bE (p+c.1.length) (Q+c.2.1.length) c.2.2.length from rfl,ZT (eq_eq _ _ _),xr];have:(dO j c).2.2.length=min j c.2.2.length:=Zo;rw[this];rfl
      rw[a];walk_at"bg";exact .eq (h.cut j) .nil|Zp d Nl=>
      walk_at"1";obtain⟨i1,g⟩:=i (Y9 _ _);rw[jt j _ (r.last (Y9 _ _)).1];exact .eq h i1
  .cases Nl with
    |Yk=>
      clear i;rw[r.nl];have a:gD j [dA p Q c]=[dA p Q c]:=by
        unfold gD;rw[ZY];rw[show([dA p Q c]).getD (([dA p Q c]).length-1) default=dA p Q c from rfl,sr];decide
      rw[a];refine⟨?_,Y9 _ _⟩;have OQ:(dO j c).2.2=[]:=by show c.2.2.take j=[];rw[b];exact List.take_nil
      exact .ne (h.cut j) OQ .nil|Zp d Nl=>
      obtain⟨i1,g⟩:=i (Y9 _ _);rw[jt j _ (r.last (Y9 _ _)).1];exact⟨.ne h b i1,Y9 _ _⟩
theorem Ds(h:aH t e i a cs Nd)(d:cs≠[]):iC n Nd=Nd:=by cases cs with
 |Yk=>exact Zc rfl d|Zp c cs=>
  have b(l:ZbJ):iC n (dA i a c::l)=dA i a c::l:=by
   unfold iC;rw[ZY];show¬(dA i a c).eq=true;rw[sr];decide
  exact h.inv (λO O O=>b _) λO O O O=>b _
def g0(k:U)(os:ZbJ):ZbJ:=(if k=0 then[]else[bE 0 0 k])++os
theorem Af(n:U)(p:k<=YF)(q:Ti k=e.take k)(u:k<=X1)(ok:a7 cs)(i:aH t e k k cs Nd)(d:cJ (WL aU)=Xs k/\RZ (WL aU)=T2 k):(SF n (g0 k Nd)).flatMap (bY t e)=bH 0 0 (ef n (Ti k) cs).1/\(SF n (g0 k Nd)=[]↔cs=[])/\(∀g∈SF n (g0 k Nd),Good t e g)/\a7 cs/\cJ (au (Ti k) cs)=t/\RZ (au (Ti k) cs)=e:=by
  have Ue:a7 cs/\cJ (au (Ti k) cs)=t/\RZ (au (Ti k) cs)=e:=by
    refine⟨ok,?_,?_⟩;.unfold au;rw[fD,fT,d.1,XH]
    .unfold au;rw[jr,jS,d.2,q,XH]
  have z:fc k cs=YF:=by unfold fc;rw[<-gM,d.1,Ze];exact HF p
  have w:fg k cs=X1:=by unfold fg;rw[<-k6,d.2,Ze];exact HF u
  by_cases a:cs=[]
  . subst a;rw[i.nl];have m:SF n (g0 k [])=[]:=by
      unfold g0;rw[Zn];refine bQ rfl (λO=>?_) λO=>?_;.exact Ah n
      .exact pT n k
    rw[m];exact(andI4 rfl ⟨λO=>rfl,λO=>rfl⟩ (λg hg=>(jK _ hg)) Ue)
  . have x:=(i.last a).1;obtain⟨f,E⟩:=Au (j:=n) i a;have main:∃s k0 o,bX n (Ti k)=s/\bJ n (Ti k)=k0/\o=ZR/\∃g,SF n (g0 k Nd)=f9 n g (gD n Nd)/\At t e o o k0 [] g k k:=by
      walk_at"b";have hn:¬g0 k Nd=[]:=λc=>x (Xy c).2;clear u d Ue z w f;by_cases y:k=0;.subst y;refine⟨[],[],0,by unfold bX;simp,by unfold bJ;simp,rfl,[],?_,At.bare⟩;unfold SF;rw[ZY hn,Ds i a]
      . have lt:(Ti k).length=k:=by rw[Zo];exact aV 0x1fd86c20e441 [_,_] p
        have A:(bX n (Ti k)).length=k-n:=by unfold bX;rw[Zo,lt];exact cY 0x1b888360c441 [_,_]
        have l:(bJ n (Ti k)).length=k-(k-n):=by unfold bJ;rw[Ze,lt]
        refine⟨_,_,_,rfl,rfl,rfl,[bE (k-n) (k-n) (k-(k-n))],?_,?_⟩
        . unfold SF;rw[ZY hn,show g0 k Nd=[bE 0 0 k]++Nd from Zq (.++Nd) (ZY y)];have B:iC n ([bE 0 0 k]++Nd)=bE (k-n) (k-n) (k-(k-n))::Nd:=by
            unfold iC;rw[show([bE 0 0 k]++Nd).getD 0 default=bE 0 0 k from rfl,ZT (eq_eq _ _ _),xo];rfl
          rw[B,jt n _ x,jo n _ _ _ _ (by exact cY 0x198085188821 [_,_]),Yh]at⊢
        . have la:bJ n (Ti k)=(Ti k).drop (k-n):=by unfold bJ;rw[lt]
          have h1:(Xs (k-n)).take (k-(k-n))=bJ n (Ti k):=by rw[la,List.drop_take]
          have h2:(T2 (k-n)).take (k-(k-n))=bJ n (Ti k):=by rw[la,q,List.drop_take]
          have st:=At.start (by rw[l];exact h1) (by rw[l];exact h2);rw[l,show k-n+(k-(k-n))=k by(exact cY 0x6c308c4410c441 [_,_])]at st;rw[A];exact st
    obtain⟨s,k0,o,h1,h2,C,g,m,D⟩:=main;rw[m];obtain⟨b1,b2,b⟩:=B4 n cs o o k k s k0 [] g (gD n Nd) D f ok a (GX z) (GX w);refine(andI4 ?_ ⟨λc=>Zc c b2,λc=>Zc c a⟩ b Ue);rw[b1];unfold ef;rw[ZY a,h1,h2];obtain⟨ps,r,c⟩:=iP n cs s k0 [];rw[c,pX,C];show jV _ _ _=jV (0+ZR) (0+ZR) _;rw[Sk]
theorem we(n:U)(a:Ch I t e YF X1 0 0 l)(b:lE t e l):(SF n (dE 0 0 (l++[(YF,X1,0)]))).flatMap (bY t e)=bH 0 0 (ef n (jA t l) (fZ t e l)).1/\(SF n (dE 0 0 (l++[(YF,X1,0)]))=[]↔fZ t e l=[])/\(∀g∈SF n (dE 0 0 (l++[(YF,X1,0)])),Good t e g)/\a7 (fZ t e l)/\cJ (au (jA t l) (fZ t e l))=t/\RZ (au (jA t l) (fZ t e l))=e:=by
 obtain⟨r,k,c,d,f,i,e1,C,S,j⟩:=tV a b;rw[c,e1,j];exact Af n d f i (Dw r k k C S) (BN r k k C S) (DJ r k k C)
theorem aH.small(h:aH t e b d cs Nd):Nd.length<=2*q0/\∀o∈Nd,tF o.1:=by
  refine nv (λO O=>⟨ZV _,λo a=>by cases a⟩) (λb d c cs Nd h r i=>?_) (λb d c cs Nd h f r i=>?_) h
  . refine⟨a9 0x7f3283850741c1cc841 [2,2] [_,_] [] i.1,λo a=>?_⟩;refine(ZI a).elim (λYA=>?_) λa=>?_;.rw[YA];exact xk _
    . refine(ZI a).elim (λYA=>?_) λa=>?_;.rw[YA];exact .inr (.inr (.inr rfl))
      .exact i.2 o a
  . refine⟨a9 0x1fcca0e141c1cc841 [2,2] [_,_] [] i.1,λo a=>?_⟩;refine(ZI a).elim (λYA=>?_) λa=>?_;.rw[YA];exact xk _
    .exact i.2 o a
theorem ye:∀(cs:Zb4),(∀c∈cs,c.1≠[]\/c.2.1≠[])->q0<=WR (WL aU)+WB (WL aU):=by
 intro I;induction I with
 |Yk=>
  intro _;exact Zg _|Zp c cs a=>
  intro h;rw[cR,dB,kS,mL];have:1<=c.1.length+c.2.1.length:=by
   rcases h c (.head _)with g|g;.have:=Xi g;exact aV 0x1fcc0417682d [_,_] this
   .have:=Xi g;exact aV 0x1fcc0227682d [_,_] this
  exact bw 0x7ff9840b030a048183070f30290798082e [_,_,_,_,_,_] this (a λx hx=>h x (ZX _ hx))
theorem Good.xt(h:Good t e i)(c:YF<=1000)(hb:X1<=1000):w8 i:=by
  obtain⟨o,w,k0,ps,⟨ka,kb,pre,os,rfl,a,hp⟩,ok,d,z1,z2⟩:=h;obtain⟨g,l1,l2⟩:=a.last d;obtain⟨f,j⟩:=a.first d;obtain⟨s1,s2⟩:=a.small;have b:UC<=1:=by rcases hp with⟨rfl,_⟩|rfl<;>simp
  have e1:(o9 (pre++os))=o9 os:=by
    walk_at"j";clear b;rcases hp with⟨rfl,_⟩|rfl;.rfl
    .exact iM _ g
  have e2:(si (pre++os)).2.1<=o+Xd/\(si (pre++os)).2.2.2.1<=w+Xd:=by
    clear b e1;rcases hp with⟨rfl,_⟩|rfl;.exact⟨by rw[Yh,f];exact ZV _,by rw[Yh,j];exact ZV _⟩
    .exact⟨WN _ _,WN _ _⟩
  refine⟨λk=>g (Xy k).2,λx hx=>?_,by rw[e1,l1];(exact bw 0x7ff910fb9293211e441 [_,_,_,_,_] (WN _ _:o+Xd<=fc (o+Xd) ps) e2),by rw[e1,l1];(exact cF 0x7ff978b21165e1 [1000,100000] [_,_] [] c z1),by rw[e1,l2];(exact bw 0x7ff9117b9097241e441 [_,_,_,_,_] (WN _ _:w+Xd<=fg (w+Xd) ps) e2),by rw[e1,l2];(exact cF 0x7ff978b21165e1 [1000,100000] [_,_] [] hb z2),?_⟩
  . refine(ZM hx).elim (λhx=>?_) λhx=>?_
    . rcases hp with⟨rfl,_⟩|rfl;.cases hx
      .rw[ZD hx];exact .inr (.inr (.inr rfl))
    .exact s2 x hx
  .rw[Z1];unfold fc at z1;unfold fg at z2;exact KV c hb z1 z2 s1 (ye ps ok.chg) b
theorem yI(b:J Z)(x:Z):∀k,k<=Zv->(Tz b k x).length=(b.take k).countP (.==x):=by
 intro I;induction I with
 |V1=>
  intro _;exact rfl|VF k c=>
  intro h;have a:b[k]?=some b[k]:=Z6 (JD h);rw[fA a x,Z1,c (O7 h),X9,a];show _=List.countP _ (b.take k++[b[k]]);rw[nC];congr 1;by_cases e:b[k]=x;.rw[ZT e,e];simp
  .rw[ZY e];simp[e]
theorem nQ(b:J Z)(x:Z):(Tz b Zv x).length=b.countP (.==x):=by rw[yI b x _ (ZV _),XT]
theorem bV:c∈Tz b Zv x↔b[c]?=Zak:=by
  unfold Tz;rw[e5,List.mem_range];constructor;.intro h;simpa using h.2
  . intro h;refine⟨?_,by simpa using h⟩;refine(UN c Zv).elim (λa=>?_) λa=>?_;.exact a
    .exact ax ((U4 a).symm.trans h)
variable{Nr:J U}
theorem wx(a:i∈Nr)(hj:b∈Nr)(h:i≠b):2<=Nr.length:=by
 have h1:=VL a;have h2:=(Wo (Zh h)).mpr hj;have:=R6 h2;exact cF 0x1ffe44fdc5c20e82d [2] [_,_] [] this h1
theorem tY(b:i∈Nr)(hj:a∈Nr)(c:k∈Nr)(h:i≠a)(d:i≠k)(e:a≠k):3<=Nr.length:=by
 have h1:=VL b;have:=wx ((Wo (Zh h)).mpr hj) ((Wo (Zh d)).mpr c) e;exact cF 0x1ffe44fdc5c20e42f [2,3] [_,_] [] this h1
theorem xq(c:i∈Nr)(hj:a∈Nr)(d:k∈Nr)(hm:b∈Nr)(h1:i≠a)(h2:i≠k)(e:i≠b)(f:a≠k)(g:a≠b)(j:k≠b):4<=Nr.length:=by
 have:=tY ((Wo (Zh h1)).mpr hj) ((Wo (Zh h2)).mpr d) ((Wo (Zh e)).mpr hm) f g j;exact cF 0x1ffe44fdc5c20e42f [3,4] [_,_] [] this (VL c)
theorem B6:∀(a ys:J Z),(∀x,a.count x<=ys.count x)->Zx<=TX:=by
  intro I;induction I with
  |Yk=>
    intro _ _;exact Zg _|Zp x a b=>
    intro ys h;have hx:x∈ys:=by
      rw[<-List.count_pos_iff];have:=h x;rw[List.count_cons_self]at this;exact aV 0x1fd09b9141c1 [_,_] this
    have i:=b (ys.erase x) λy=>by
      have:=h y;rw[List.count_cons]at this;rw[List.count_erase];by_cases e:x=y;.subst e;simp at this⊢;exact aV 0x7f3170839141c1 [_,_] this
      . have e1:(x==y)=false:=by simpa using e
        rw[e1]at this⊢;simp at this⊢;exact O9 this
    rw[VL hx]at i;have:=R6 hx;exact bw 0x7ff90c1c2cc5c11682d [_,_] this i
section
variable{a:Type}{f:a->J Z}{ln:a->Z}{d:J a}
def IA(f:a->J Z)(d:J a)(i:U):U:=((SO i).flatMap f).length
def m9(f:a->J Z)(d:J a)(p i:U):Prop:=∃e,d[i]?=Zb6/\IA f d i<=p/\p<IA f d i+(f e).length
theorem mM(h:d[i]?=Zaq):IA f d (i+1)=IA f d i+(f b).length:=by
 unfold IA;rw[X9,h,YT,Z1];simp
set_option tactic.hygienic true in theorem wF:∀{i j:U},i<=j->IA f d i<=IA f d j:=by
  intro i j h;induction h with
  |refl=>exact ZV _|step h b=>
    rename_i m;refine YW b ?_;refine gG (d[m]?) (λhm=>?_) λe hm=>?_;.have:=List.getElem?_eq_none_iff.mp hm;unfold IA;rw[YQ this,YQ (by exact aV 0x1fcc1c20e441 [_,_] this)];exact ZV _
    .rw[mM hm];exact WN _ _
def iq(f:a->J Z)(l:J a)(p:U):U:=VH (λe k p=>if p<(f e).length then 0 else k (p-(f e).length)+1) (λO=>0) p
theorem DF(f:a->J Z)(b r c):iq f (b::r) c=if c<(f b).length then 0 else iq f r (c-(f b).length)+1:=rfl
theorem oy:∀(d:J a)(p:U),p<(Yp f).length->m9 f d p (iq f d p):=by
  intro I;induction I with
  |Yk=>
    intro p h;simp at h|Zp e r c=>
    intro p h;rw[ZA,Z1]at h;rw[DF];by_cases hp:p<(f e).length;.rw[ZT hp];exact⟨e,rfl,Zg _,by simpa[IA]using hp⟩
    . rw[ZY hp];obtain⟨g,h1,h2,i⟩:=c (p-(f e).length) (bw 0xfff438883cd083a80c41 [_,_,_] h hp);have b:IA f (e::r) (iq f r (p-(f e).length)+1)=(f e).length+IA f r (iq f r (p-(f e).length)):=by simp[IA]
      exact⟨g,h1,by rw[b];(exact bw 0xfff228047cd0c5988c41 [_,_,_] h2 hp),by rw[b];(exact aV 0x7f50240620ea041c441 [_,_,_,_] i)⟩
theorem m9.lt(h:m9 f d b i):i<YG:=by
 obtain⟨e,h,_⟩:=h;exact(ZN h).1
theorem m9.mono(h:m9 f d c i)(j:m9 f d k b)(hp:c<=k):i<=b:=by
  obtain⟨e,h1,h2,l⟩:=h;obtain⟨m,g,n,g3⟩:=j;refine(UN b i).elim (λq=>?_) λq=>?_;.have:=wF (f:=f) (d:=d) q;rw[mM g]at this;exact F3 0x7ffffe4c5c849920f2316841 [_,_,_,_,_,_] g3 this h2 hp
  .exact q
theorem m9.uniq(h:m9 f d c i)(b:m9 f d c k):i=k:=fx (WT b (ZV _)) (b.mono h (ZV _))
theorem m9.mid(h:m9 f d c i)(j:m9 f d k i)(h1:c<=b)(h2:b<=k):m9 f d b i:=by
 obtain⟨e,a1,a2,l⟩:=h;obtain⟨m,g,n,g3⟩:=j;rw[a1]at g;cases g;exact⟨e,a1,by exact D1 a2 h1,by exact E0 g3 h2⟩
theorem m9.line(j:∀e,∀x∈f e,x=ln e)(h:m9 f d b i):∃x,(U1 ln)[i]?=Zak/\(Yp f)[b]?=Zak:=by
 walk_at"b";obtain⟨e,h1,h2,c⟩:=h;refine⟨ln e,by rw[Zy,h1];rfl,?_⟩;have e1:d=SO i++e::d.drop (i+1):=by
  obtain⟨hl,he⟩:=((ZN h1));rw[<-he,<-Xz hl,XH]
 walk_at"i";have e2:Yp f=(SO i).flatMap f++(f e++(d.drop (i+1)).flatMap f):=by
  conv=>lhs;rw[e1]
  rw[YT,ZA]
 rw[e2,List.getElem?_append_right h2,UZ (by show b-IA f d i<_;exact bw 0x7ffa1c441c845a80c41 [_,_,_] c h2)];have g:b-IA f d i<(f e).length:=by exact bw 0x7ffa1c441c845a80c41 [_,_,_] c h2
 show(f e)[b-IA f d i]?=_;rw[Z6 g,j e _ (Uq g)]
theorem m9.more(h:m9 f d b i)(he:d[i]?=Zao)(h2:2<=(f c).length):∃p,p≠b/\m9 f d p i:=by
 walk_at"b";obtain⟨e,h1,g,j⟩:=h;rw[he]at h1;cases h1;by_cases hp:b=IA f d i;.exact⟨b+1,by exact cY 0x39b0c1c1 [_],c,he,by exact aV 0x1fcc1c116c41 [_,_] hp,by exact cF 0x7ffa8047070b631642f [2] [_,_,_] [] h2 hp⟩
 .exact⟨b-1,by exact bw 0x7ffcd8a2e1736116441 [_,_] g hp,c,he,by exact bw 0x3ffcc5c20f36116441 [_,_] g hp,by exact aV 0x1fd0a2e0e841 [_,_] j⟩
theorem m9.two(h:m9 f d b i)(c:m9 f d k i)(he:d[i]?=some l)(hp:b<k):2<=(f l).length:=by
 obtain⟨e,h1,g,m⟩:=h;obtain⟨e,h1,n,j⟩:=c;rw[he]at h1;cases h1;exact rf 0x1ffff237e824c905a80c41 [2] [_,_,_,_] [] j g hp
end
structure Lb(a b ys:J Z)(e i:U->U):Prop where
 mT:∀p x,a[p]?=Zak->ys[e p]?=some x
 oQ:∀q x,b[q]?=Zak->i q<TX->ys[i q]?=some x
 z9:∀p d t,e p=e d->p<=t->t<=d->d<Zx->a[t]?=a[p]?
 BU:∀q c t,i q=i c->i q<TX->q<=t->t<=c->c<Zv->b[t]?=b[q]?
 w6:∀p d,p<=d->d<Zx->e p<=e d
 vS:∀q c,q<=c->c<Zv->i q<=i c
 LP:∀q c x,TX<=i q->TX<=i c->b[q]?=Zak->b[c]?=Zak->q=c
 SN:∀p d q,p<d->d<Zx->e p=e d->q<Zv->i q=e p->∃c,c≠q/\c<Zv/\i c=e p
abbrev Rp:=U×U
structure Rel(a b:J Z)(u c:Rp):Prop where
 p:u.1<c.1
 q:u.2<c.2
 ap:(∃t,u.1<=t/\t<=c.1/\a[t]?≠a[u.1]?)\/∃t,u.2<=t/\t<=c.2/\b[t]?≠b[u.2]?
def Mt(a b:J Z)(u:Rp):Prop:=∃x,a[u.1]?=Zak/\b[u.2]?=some x
theorem bA(h:t[a]?=Zak):a<YF:=(ZN h).1
structure Rel2(a b:J Z)(N:U)(i d:U->U)(u c:Rp):Prop extends Rel a b u c where
 fl:d u.2<N->N<=d c.2->i u.1<i c.1
 un:∀x,a[c.1]?=Zak->(Tz b Zv x).length<=3
variable{Nx Nm:U->U}
theorem vw(c:Zc6):∀(l:J Rp),Th (Rel2 t e X3 Nx Nm)->(∀u∈l,t[u.1]?=Zak/\e[u.2]?=Zak)->W5<=(Tz ND X3 x).length:=by
  intro l R h;cases l with
  |Yk=>exact Zg _|Zp u l=>cases l with
    |Yk=>
      walk_at"L";have:=h u (by simp);exact R6 (RY (c.mT _ _ this.1))|Zp b l=>cases l with
      |Yk=>
        walk_at"L";obtain⟨V,C⟩:=h u (by simp);obtain⟨o,k⟩:=h b (by simp);have r:Rel2 t e X3 Nx Nm u b:=by simpa using R
        have m:=c.vS _ _ (Xa r.q) (bA k);show 2<=_;by_cases I:Nx u.1=Nx b.1
        . have e2:¬(Nm u.2=Nm b.2/\Nm u.2<X3):=λP7=>Ug P7 λe2 f=>by
            rcases r.ap with⟨y,t1,t2,t3⟩|⟨y,t1,t2,t3⟩;.exact t3 (c.z9 _ _ _ I t1 t2 (bA o))
            .exact t3 (c.BU _ _ _ e2 f t1 t2 (bA k))
          rcases UN (Nm b.2) X3 with N|N
          . have g':Nm u.2<X3:=by exact E0 N m
            exact wx (RY (c.oQ _ _ C g')) (RY (c.oQ _ _ k N)) (λa=>e2 ⟨a,g'⟩)
          . rcases UN (Nm u.2) X3 with g'|g';.have:=r.fl g' N;(exact bw 0x7ff920f620e841 [_,_,_,_] this I)
            .have:=c.LP _ _ x g' N C k;have:=r.q;(exact bw 0x7ff920f620e841 [_,_,_,_] this ‹_›)
        .exact wx (RY (c.mT _ _ V)) (RY (c.mT _ _ o)) I|Zp w l=>cases l with
        |Yk=>
          obtain⟨V,C⟩:=h u (by simp);obtain⟨o,k⟩:=h b (by simp);obtain⟨Q,M⟩:=h w (by simp);have P8:(Rel2 t e X3 Nx Nm u b/\Rel2 t e X3 Nx Nm u w)/\Rel2 t e X3 Nx Nm b w:=by simpa using R
          obtain⟨⟨E,Qc⟩,F⟩:=P8;have P9:=F.un x Q;have i1:=c.mT _ _ V;have i:=c.mT _ _ o;have S:=c.mT _ _ Q;have X:=c.w6 _ _ (Xa E.p) (bA o);have m:=c.w6 _ _ (Xa F.p) (bA Q);have n1:=c.vS _ _ (Xa E.q) (bA k);have T:=c.vS _ _ (Xa F.q) (bA M);have PX:=E.q;have PM:=F.q;have apart:∀{s y:Rp},Rel2 t e X3 Nx Nm s y->y.1<YF->y.2<X1->Nx s.1=Nx y.1->Nm s.2=Nm y.2->Nm s.2<X3->L_:=λr h1 h2 e1 e2 f=>by
            refine r.ap.elim (λYA=>?_) λYA=>?_;.obtain⟨y,t1,t2,t3⟩:=YA;exact t3 (c.z9 _ _ _ e1 t1 t2 h1)
            .obtain⟨y,t1,t2,t3⟩:=YA;exact t3 (c.BU _ _ _ e2 f t1 t2 h2)
          show 3<=_;rcases UN (Tz ND X3 x).length 3 with Qa|hge
          . exfalso;have n:∀{D PN PR:U},ND[D]?=Zak->ND[PN]?=Zak->ND[PR]?=Zak->D≠PN->D≠PR->PN≠PR->L_:=λPS hj Qb h1 h2 d=>by
              have:=tY (RY PS) (RY hj) (RY Qb) h1 h2 d;exact Jt Qa this
            have PT:∀{a:U},e[a]?=Zak->a≠u.2->a≠b.2->a≠w.2->L_:=λhq h1 h2 d=>by
              have:=xq (RY hq) (RY C) (RY k) (RY M) h1 h2 d (O2 PX) (Lq PX PM) (O2 PM);exact cF 0x1ffa72f0e42f [4,3] [_] [] this P9
            have og:∀{a D:U},a<X1->Nm a=D->D<X3->ND[D]?=Zak->e[a]?=Zak:=λ{a D}hq I PS hy=>by
              have:=c.oQ a _ (Z6 hq) (by rw[I];exact PS);rw[I,hy]at this;rw[Z6 hq,this]
            rcases UN (Nm w.2) X3 with g3|g3
            . have g:Nm b.2<X3:=by exact E0 g3 T
              have G:Nm u.2<X3:=by exact E0 g n1
              have j1:=c.oQ _ _ C G;have j:=c.oQ _ _ k g;have PY:=c.oQ _ _ M g3;have PZ:=apart F (bA Q) (bA M);have t2:=@n (Nm u.2) (Nm b.2) (Nm w.2) j1 j PY;by_cases e1:Nx u.1=Nx b.1
              . have e2:Nm u.2<Nm b.2:=H' n1 λa=>(apart E (bA o) (bA k)) e1 a G;have f:Nm b.2=Nm w.2:=XQ λa=>t2 (by exact O2 e2) (by exact bw 0xfff9b1872316841 [_,_,_] e2 T) a;have A:Nx b.1<Nx w.1:=H' m λa=>PZ a f g;have B:Nm u.2=Nx b.1:=XQ λa=>(@n (Nx b.1) (Nx w.1) (Nm u.2) i S j1) (by exact O2 A) (by exact HU a) (by
                  intro q2;exact@n (Nx b.1) (Nm u.2) (Nm b.2) i j1 j (λz=>a z.symm) (fX 0xffffcd903a20f6316841 [_,_,_,_] A q2 e2) (O2 e2));obtain⟨P0,h1,h2,d⟩:=c.more _ _ u.2 E.p (bA o) e1 (bA C) (by rw[B,e1]);refine PT (og h2 d (fX 0x7fffd089b193630e841 [_,_,_,_] G B e1) i1) h1 (λz=>?_) (λz=>?_);.rw[z]at d;(exact F3 0x1ffffe9d8c9b20b630e841 [_,_,_,_] e2 B d e1)
                .rw[z]at d;(exact L7 0x1ffffff4ec65d949b20b630e841 [_,_,_,_,_] e2 B f d e1)
              . have e2:Nx b.1=Nx w.1:=XQ λa=>(@n (Nx u.1) (Nx b.1) (Nx w.1) i1 i S) e1 (fX 0x1ffff9b1879b18b2316441 [_,_,_] X m a) a;have f:=H' T λa=>PZ e2 a g;have A:Nm u.2=Nm b.2:=XQ λa=>t2 a (bw 0xfff9b10f211e841 [_,_,_] f n1) (O2 f);have B:Nm w.2=Nx b.1:=XQ λa=>by
                  by_cases z:Nm w.2=Nx u.1;.exact@n (Nx u.1) (Nx b.1) (Nm b.2) i1 i j (bw 0x1fff363173630ec41 [_,_,_] z a) (bw 0xfff9b08f6316841 [_,_,_] f z) (fX 0xffffcd849920f6316841 [_,_,_,_] f z X)
                  .exact@n (Nx u.1) (Nx b.1) (Nm w.2) i1 i PY (aV 0x1fe6c41e6c41 [_,_] e1) (HU z) (HU a)
                obtain⟨P0,h1,h2,d⟩:=c.more _ _ w.2 F.p (bA Q) e2 (bA M) B;refine PT (og h2 d (bw 0x7ffa10f630e841 [_,_,_] g3 B) i) (λz=>?_) (λz=>?_) h1;.rw[z]at d;(exact F3 0x1ffffe9d8c9b0936316841 [_,_,_,_] f B A d)
                .rw[z]at d;(exact fX 0x1fffd3b18b630e841 [_,_,_] f d B)
            . have g:Nm b.2<X3:=XQ λa=>by have:=c.LP _ _ x (E_ a) g3 k M;(exact G8 PM this)
              have G:Nm u.2<X3:=by exact E0 g n1
              have j1:=c.oQ _ _ C G;have j:=c.oQ _ _ k g;have e1:=F.fl g g3;have e2:Nx u.1=Nx b.1:=XQ λa=>n i1 i S a (bw 0xfff9b10f211e841 [_,_,_] e1 X) (O2 e1);have f:Nm u.2<Nm b.2:=H' n1 λa=>apart E (bA o) (bA k) e2 a G;have A:Nm u.2=Nx b.1:=XQ λa=>by
                by_cases z:Nm u.2=Nx w.1;.exact@n (Nx b.1) (Nx w.1) (Nm b.2) i S j (O2 e1) (fX 0xffffcd889a193630e841 [_,_,_,_] f z e1) (bw 0xfff9b10f630e841 [_,_,_] f z)
                .exact@n (Nx b.1) (Nx w.1) (Nm u.2) i S j1 (O2 e1) (HU a) (HU z)
              obtain⟨P0,h1,h2,d⟩:=c.more _ _ u.2 E.p (bA o) e2 (bA C) (by rw[A,e2]);refine PT (og h2 d (fX 0x7fffd089b193630e841 [_,_,_,_] G A e2) i1) h1 (λz=>?_) (λz=>?_);.rw[z]at d;(exact F3 0x1ffffe9d8c9b20b630e841 [_,_,_,_] f A d e2)
              .rw[z]at d;(exact L7 0x1ffffff4ec65d949920b630e841 [_,_,_,_,_] f A T d e2)
          .exact hge|Zp z r=>
          exfalso;have P2:=WH R;have P4:=WH P2.2;have P5:=WH P4.2;have P6:=h z (by simp);have PW:=(P2.1 b (by simp)).q;have q2:=(P4.1 w (by simp)).q;have q3:=(P5.1 z (by simp)).q;have:=xq (RY (h u (by simp)).2) (RY (h b (by simp)).2) (RY (h w (by simp)).2) (RY P6.2) (O2 PW) (Lq PW q2) (fX 0xffffcd903a20f4316841 [_,_,_,_] PW q2 q3) (O2 q2) (Lq q2 q3) (O2 q3);exact cF 0x1ffa72f0e42f [4,3] [_] [] this ((P5.1 z (.head _)).un x P6.1)
theorem vy(d:Zc6):∀(l:J Rp),Th (Rel t e)->(∀u∈l,Mt t e u)->∃l1 l2,l=l1++l2/\(∀u∈l1,Nm u.2<X3)/\∀u∈l2,X3<=Nm u.2:=by
  intro I;induction I with
  |Yk=>
    intro _ _;exact(Vs ([]) ([]) ⟨rfl,λu b=>(by cases b),λu b=>(by cases b)⟩)|Zp u l f=>
    intro R h;have c:=WH R;rcases UN (Nm u.2) X3 with g|g
    . obtain⟨l1,l2,i,h1,h2⟩:=f c.2 λa hv=>h a (ZX _ hv);clear R h c;refine(Vs (u::l1) l2 ⟨by rw[i];rfl,λa hv=>?_,h2⟩);refine(ZI hv).elim (λYA=>?_) λhv=>?_;.rw[YA];exact g
      .exact h1 a hv
    . refine(Vs ([]) (u::l) ⟨rfl,λa hv=>(by cases hv),λa hv=>?_⟩);refine(ZI hv).elim (λYA=>?_) λhv=>?_;.rw[YA];exact g
      .obtain⟨x,_,hx⟩:=h a (ZX _ hv);exact YW g (d.vS _ _ (Xa (c.1 a hv).q) (bA hx))
theorem wL{l:J Rp}(c:Zc6)(R:Th (Rel t e))(h:∀u∈l,Mt t e u)(b:∀u∈vc 1,∀x,t[u.1]?=Zak->(Tz e X1 x).length<=3):W5<=X3+1:=by
  obtain⟨l1,l2,f,h1,h2⟩:=vy c l R h;have B:(l1++l2.drop 1).Pairwise (Rel2 t e X3 Nx Nm):=by
    walk_at"M";have un:Th λu d=>∀x,t[d.1]?=Zak->(Tz e X1 x).length<=3:=by
      walk_at"M";clear R h f;cases l with|Yk=>exact .nil|Zp I l=>
        refine List.pairwise_cons.mpr ⟨λd hv=>b d hv,?_⟩;exact List.pairwise_iff_forall_sublist.mpr λ{s a}C=>b a (C.subset (.tail _ (.head _)))
    have j:Th λu d=>Rel t e u d/\∀x,t[d.1]?=Zak->(Tz e X1 x).length<=3:=R.and un;rw[f]at j;obtain⟨D,r2,r⟩:=List.pairwise_append.mp j;refine List.pairwise_append.mpr ⟨?_,?_,?_⟩;.exact E' (λ{s a}hs ht k=>⟨k.1,λO g=>Zc (h1 a ht) (by exact aV 0xff34116441 [_,_] g),k.2⟩) D
    .exact E' (λ{s a}hs ht k=>⟨k.1,λg O=>Zc (h2 s (UM hs)) (by exact aV 0xff32116841 [_,_] g),k.2⟩) (r2.sublist (List.drop_sublist 1 l2))
    .intro s hs a ht;have k:=r s hs a (UM ht);refine⟨k.1,λO O=>?_,k.2⟩;walk_at"bh";clear j;cases l2 with
      |Yk=>cases ht|Zp v0 w=>
        have m:a∈w:=ht;have k0:=(r s hs v0 (.head _)).1;have A:=((WH r2).1 a m).1;have mem:∀z∈v0::w,z∈l:=λz E=>by rw[f];exact Y2 _ E
        obtain⟨M,n,F⟩:=h v0 (mem v0 (.head _));obtain⟨N,y,o⟩:=h a (mem a (ZX _ m));have:Nx v0.1≠Nx a.1:=λi=>by
          have e1:=c.mT _ _ n;rw[i,(c.mT _ _ y)]at e1;clear n;cases e1;have:=c.LP _ _ _ (h2 v0 (.head _)) (h2 a (ZX _ m)) F o;have:=A.q;exact G8 this ‹_›
        exact fX 0xffffa1879b18b2316441 [_,_,_] (c.w6 _ _ (Xa k0.p) (bA n)) (c.w6 _ _ (Xa A.p) (bA y)) this
  have hm:∀u∈l1++l2.drop 1,Mt t e u:=λu b=>h u (by
    rw[f];refine(ZM b).elim (λi=>?_) λi=>?_;.exact Y3 _ i
    .exact Y2 _ (UM i));have hb:=B6 ((l1++l2.drop 1).map λu=>t.getD u.1 "") ND λx=>by
    rw[List.count,TY,Vx];have:=vw c (x:=x) ((l1++l2.drop 1).filter ((.==x)∘λu:Rp=>t.getD u.1 "")) (B.sublist List.filter_sublist) λu b=>by
      obtain⟨b,hx⟩:=SQ b;obtain⟨G,y,o⟩:=hm u b;have:G=x:=by
        have:(t.getD u.1 ""==x)=true:=hx;rw[Z0,y]at this;exact Zj this
      rw[<-this];exact⟨y,o⟩
    rw[nQ]at this;exact this
  rw[Z2,Z1,Ze]at hb;rw[f,Z1];exact aV 0x7f3070e020e4708b841 [_,_,_] hb
theorem ux{l:J Rp}(b:Zc6)(m:∀f,f<X1->Nm f<X3)(R:Th (Rel t e))(h:∀u∈l,Mt t e u):W5<=X3:=by
  have A:Th λu a=>Nx u.1+Nm u.2+2<=Nx a.1+Nm a.2:=by
    walk_at"M";refine E' (λ{u a}B hv r=>?_) R;obtain⟨C,o,x⟩:=h u B;obtain⟨E,j,y⟩:=h a hv;have g:=m _ (bA x);have same:∀{i:U}{z w:Z},ND[i]?=some z->ND[i]?=some w->z=w:=λh1 h2=>ZW (pn h2);by_cases s:Nx u.1=Nx a.1
    . have D:C=E:=by
        have e1:=b.mT _ _ o;have e2:=b.mT _ _ j;rw[s]at e1;exact same e1 e2
      subst D;obtain⟨d,t1,t2,t3⟩:∃d,u.2<=d/\d<=a.2/\e[d]?≠e[u.2]?:=by
        walk_at"b";refine r.ap.elim (λYA=>?_) λk=>?_;.obtain⟨d,t1,t2,t3⟩:=YA;exact Zc (b.z9 _ _ _ s t1 t2 (bA j)) t3
        .exact k
      have ht:d<X1:=U' t2 (bA y);have n1:=b.vS _ _ t1 ht;have n:=b.vS _ _ t2 (bA y);have c1:Nm u.2≠Nm d:=λf=>t3 (b.BU _ _ _ f g t1 (ZV _) ht);have c2:Nm d≠Nm a.2:=λf=>t3 (by
        have:=b.BU _ _ a.2 f (m _ ht) t2 (ZV _) (bA y);rw[<-this,y,x]);exact EO 0x7ffffff3028a0f80c3cd949cd9079293241ec41 [2] [_,_,_,_,_] [] s n1 n c1 c2
    . by_cases e2:Nm u.2=Nm a.2
      . have D:C=E:=by
          have e1:=b.oQ _ _ x g;rw[e2]at e1;exact same e1 (b.oQ _ _ y (m _ (bA y)))
        subst D;obtain⟨d,t1,t2,t3⟩:∃d,u.1<=d/\d<=a.1/\t[d]?≠t[u.1]?:=by
          walk_at"b";refine r.ap.elim (λk=>?_) λYA=>?_;.exact k
          .obtain⟨d,t1,t2,t3⟩:=YA;exact Zc (b.BU _ _ _ e2 g t1 t2 (bA y)) t3
        have ht:d<YF:=U' t2 (bA j);have c2:Nx d≠Nx a.1:=λf=>t3 (by
          have:=b.z9 _ _ a.1 f t2 (ZV _) (bA j);rw[<-this,j,o]);exact EO 0x7ffffff301160f8047cd949cd9079293241ec41 [2] [_,_,_,_,_] [] e2 (b.w6 _ _ t1 ht) (b.w6 _ _ t2 (bA j)) (λf=>t3 (b.z9 _ _ _ f t1 (ZV _) ht):Nx u.1≠Nx d) c2
      .exact oP 0x7ffffe604141f01879b20f9b107241e441 [2] [_,_,_,_] [] (b.w6 _ _ (Xa r.p) (bA j)) (b.vS _ _ (Xa r.q) (bA y)) s e2
  have top:∀u∈l,Nx u.1+Nm u.2+2<=2*X3:=λu B=>by
    walk_at"bi";walk_at"L";obtain⟨C,o,x⟩:=h u B;exact cF 0xfff32141f0187421e841 [2,2] [_,_,_] [] (bA (b.mT _ _ o):Nx u.1<X3) (m _ (bA x))
  have gen:∀(l:J Rp)(c:U),Th (λu a=>Nx u.1+Nm u.2+2<=Nx a.1+Nm a.2)->(∀u∈l,c<=Nx u.1+Nm u.2)->(∀u∈l,Nx u.1+Nm u.2+2<=2*X3)->c<=2*X3->c+2*W5<=2*X3:=by
    intro l;induction l with
    |Yk=>intro c O O O h;exact h|Zp u l I=>
      intro c A M ht N;have F:=WH A;have G:=M u (.head _);have:=I (c+2) F.2 (λa hv=>by have:=F.1 a hv;(exact bw 0x7ff91c044c84991c041 [_,_,_,_] this G)) (λa hv=>ht a (ZX _ hv)) (by exact bw 0x7ff91c044c84991c041 [_,_,_,_] (ht u (.head _)) G);rw[YE];(exact a9 0x1fc8e1283841c8e12141e1 [2,2,2] [_,_,_] [] this)
  have:=gen l 0 A (λu O=>Zg _) top (Zg _);exact a9 0x7f220e6428482d [2,2] [_,_] [] this
def jC(XK:Z->Y0)(a:J Z)(m:eI):U:=((Zi m.2.2).find? λt=>!XK (Wm (m.1+t) "")).getD 0
def th(XK:Z->Y0)(a:J Z)(m:eI):Rp:=(m.1+jC XK a m,m.2.1+jC XK a m)
theorem xM(h:0<a.2.2):jC I t a<a.2.2:=by
 unfold jC;refine gG ((Zi a.2.2).find? λb=>!I (t.getD (a.1+b) "")) (λe=>?_) λb e=>?_;.rw[e];exact h
 .rw[e];exact WY (List.mem_of_find?_eq_some e)
theorem Dc(h:∃a x,a<b.2.2/\t[b.1+a]?=Zak/\I x=false):∀x,t[b.1+jC I t b]?=Zak->I x=false:=by
  obtain⟨a,y,h1,h2,c⟩:=h;intro x hx;unfold jC at hx;refine gG ((Zi b.2.2).find? λa=>!I (t.getD (b.1+a) "")) (λe=>?_) λd e=>?_;.have:=List.find?_eq_none.mp e a (List.mem_range.mpr h1);rw[Z0,h2]at this;exact Zc (by simpa using c) this
  .have:=List.find?_some e;rw[e]at hx;rw[Z0,show t[b.1+d]?=some x from hx]at this;simpa using this
theorem Ch.lower:∀(l:J eI)(a b:U),Ch I t e i k a b l->∀m∈l,a<=m.1/\b<=m.2.1:=by
  intro c;induction c with
  |Yk=>
    intro _ _ _;exactλm hm=>by cases hm|Zp x r d=>
    intro a b h;exactλm hm=>by
      obtain⟨h1,h2,f,_,_,_,g⟩:=h;walk_at"g";clear f;rcases ZI hm with rfl|hm;.exact⟨h1,h2⟩
      .have:=d _ _ g m hm;exact fX 0x7fffee4a7c8cd921f2137725808991c041 [_,_,_,_,_,_,_] this h1 h2
theorem B0:∀(l:J eI)(a b:U),s<=YF->Ch I t e s F a b l->lE t e l->(A2 (th I t)).Pairwise (Rel t e):=by
  intro o;induction o with
  |Yk=>
    intro _ _ _ _ _;exact .nil|Zp m p i=>cases p with
    |Yk=>
      intro _ _ _ _ _;exact List.pairwise_singleton _ _|Zp n r=>
      intro a b u h hs;obtain⟨h1,h2,w,x,G,M,f⟩:=h;refine List.pairwise_cons.mpr ⟨λN hv=>?_,(i _ _ u f hs.2)⟩;clear i;obtain⟨y,hy,YA⟩:=Zl hv;rw[<-YA];have hn:=Ch.lower _ _ _ f n (.head _);obtain⟨g,z,g3,A,B,C,D⟩:=(f);have d:n.1<=y.1/\n.2.1<=y.2.1:=by
        clear hs f hv hn g z g3 A B C;refine(ZI hy).elim (λYA=>?_) λhy=>?_;.rw[YA];exact⟨ZV _,ZV _⟩
        .have:=Ch.lower _ _ _ D y hy;exact aV 0x7fb9293230f725808991c041 [_,_,_,_,_] this
      have t1:=xM (I:=I) (t:=t) w;have j:=x _ t1;walk_at"bj";refine⟨by show m.1+_<y.1+_;(exact LF hn d t1),by show m.2.1+_<y.2.1+_;(exact K9 t1 hn d),?_⟩;show(∃c,m.1+jC I t m<=c/\c<=y.1+jC I t y/\t[c]?≠t[m.1+jC I t m]?)\/∃c,m.2.1+jC I t m<=c/\c<=y.2.1+jC I t y/\e[c]?≠e[m.2.1+jC I t m]?;walk_at"n";refine hs.1.elim (λk=>?_) λYA=>?_
      . by_cases q:t[m.1+m.2.2]?=t[m.1+jC I t m]?;.right;exact⟨m.2.1+m.2.2,by exact aV 0x7f3010e011e841 [_,_,_] t1,by exact bw 0x1ffe60730fb931325177241e441 [_,_,_,_,_,_,_] hn d,λq2=>k (by rw[q,q2,j])⟩
        .left;exact⟨m.1+m.2.2,by exact aV 0x7f3010e011e841 [_,_,_] t1,by exact bw 0x1ffe607287b931325177241e441 [_,_,_,_,_,_,_] hn d,q⟩
      . obtain⟨Q,k2,E⟩:=YA;by_cases q:t[n.1-1]?=t[m.1+jC I t m]?;.right;exact⟨n.2.1-1,by exact bw 0x1ffe62e34025ee4d0117241e841 [_,_,_,_,_,_] t1 hn,by exact aV 0x7f302922e1f7241e441 [_,_,_,_,_] d,λq2=>E (by rw[q,q2,j])⟩
        .left;exact⟨n.1-1,by exact bw 0x1ffe62e1c0c1d08ddc94991c041 [_,_,_,_,_,_] hn t1,by exact aV 0x7f3028a2e0f7241e441 [_,_,_,_,_] d,q⟩
theorem En(d:a<=YF)(h:Ch I t e a b k n l):∀u∈A2 (th I t),Mt t e u:=by
 intro u f;obtain⟨m,hm,YA⟩:=Zl f;rw[<-YA];obtain⟨i1,i,g,j⟩:=(q1 _ _ _ h).2.2 m hm;have c:=xM (I:=I) (t:=t) i1;have hl:m.1+jC I t m<YF:=by exact fX 0x7fffd12050e845c90791c041 [_,_,_,_,_] g d c
 exact⟨_,Z6 hl,by show e[m.2.1+jC I t m]?=_;rw[<-(i _ c)];exact Z6 hl⟩
theorem DI(h:Ch I t e n q a b l):∀u∈(A2 (th I t)).drop 1,∀x,t[u.1]?=Zak->I x=false:=by cases l with
 |Yk=>intro u c;cases c|Zp m r=>
  obtain⟨h1,h2,j,p,s,w,d⟩:=h;intro u c;obtain⟨y,hy,YA⟩:=Zl (show u∈r.map (th I t)from c);rw[<-YA];refine Dc ?_;have:∀l(a b),Ch I t e n q a b l->∀y∈l,(∃f x,f<y.2.2/\t[y.1+f]?=Zak/\I x=false)\/y.1=0/\y.2.1=0:=by
   intro l;induction l with|Yk=>intro O O O y hy;exact nomatch hy|Zp z l i=>
    intro a b h y hy;walk_at"n";obtain⟨_,_,_,_,g,_,o⟩:=h;rcases ZI hy with rfl|hy;.exact g
    .exact i _ _ o y hy
  refine(this r _ _ d y hy).elim (λk=>?_) λk=>?_;.exact k
  .exact(fX 0x7fff4f723804b9113bb68f6d1682d [_,_,_,_,_] j k (Ch.lower _ _ _ d y hy)).elim
theorem xY(e:Ent):∀x∈e.a,x=e.line++nl:=λx hx=>by
 unfold zx at hx;split at hx;.exact List.eq_of_mem_replicate hx
 .exact nomatch hx
theorem uA(e:Ent):∀x∈e.b,x=e.line++nl:=λx hx=>by
 unfold Wl at hx;split at hx;.exact List.eq_of_mem_replicate hx
 .exact nomatch hx
theorem Fn(h:x++nl=a++nl):x=a:=by
 apply eH;have h1:=Zq (λs:Z=>R0) h;simp only[Xu,Y1]at h1;exact List.append_cancel_right h1
theorem vd(h:(i9 a SN)[b]?=Zak):x=gK ((100+(a+b):U):Zw)++nl:=by
  walk_at"i";unfold i9 at h;rw[Zy]at h;rcases UN b (200*SN-a)with hj|hj;.rw[Vu hj]at h;rw[<-ZW h];walk_at"r";congr 2
  .rw[U4 (by simpa using hj)]at h;cases h
theorem Je:Lb (Vl d) (du d SN) (U1 λe=>e.line++nl) (iq zx d) (λq=>if q<(Yp Wl).length then iq Wl d q else YG):=by
  have i:∀p,p<(Vl d).length->m9 zx d p (iq zx d p):=λp hp=>oy d p hp;have t:∀q,q<(Yp Wl).length->m9 Wl d q (iq Wl d q):=λp hp=>oy d p hp;have bl:∀q,q<(Yp Wl).length->(du d SN)[q]?=(Yp Wl)[q]?:=λq hq=>by unfold du;rw[UZ hq]
  have C:∀q,(Yp Wl).length<=q->(du d SN)[q]?=(i9 (Yp Wl).length SN)[q-(Yp Wl).length]?:=λq hq=>by unfold du;rw[List.getElem?_append_right hq]
  constructor;.intro p x hx;walk_at"r";obtain⟨r,j,y⟩:=(i p (bA hx)).line xY;unfold Vl at hx;rw[hx]at y;cases y;exact j
  . intro q x hx hq;rw[Z2]at hq;by_cases h:q<(Yp Wl).length;.simp only[h,eo]at hq⊢;obtain⟨r,j,y⟩:=(t q h).line uA;rw[bl q h,y]at hx;rw[<-hx];exact j
    .simp only[h,B_]at hq;exact Zc hq (UE _)
  .intro p m u e h1 h2 w;have a1:=i p (fX 0x7fffd0899193211e841 [_,_,_,_] w h2 h1);have a2:=i m w;rw[<-e]at a2;have A:=a1.mid a2 h1 h2;obtain⟨r,j,y⟩:=a1.line xY;obtain⟨z,z1,z2⟩:=A.line xY;rw[j]at z1;cases z1;unfold Vl;rw[y,z2]
  . intro q c u e l h1 h2 w;rw[Z2]at l;by_cases h:c<(Yp Wl).length
    . have g:q<(Yp Wl).length:=by exact fX 0x7fffd0899193211e841 [_,_,_,_] h h2 h1
      walk_at"r";have gt:u<(Yp Wl).length:=by exact E0 h h2
      simp only[h,g,eo]at e;have a1:=t q g;have a2:=t c h;rw[<-e]at a2;have A:=a1.mid a2 h1 h2;obtain⟨r,j,y⟩:=a1.line uA;obtain⟨z,z1,z2⟩:=A.line uA;rw[j]at z1;cases z1;rw[bl q g,bl u gt,y,z2]
    .simp only[h,B_]at e;rw[e]at l;exact Zc l (UE _)
  .intro p m h1 h2;exact(i p (E0 h2 h1)).mono (i m h2) h1
  . intro q c h1 h2;by_cases h:c<(Yp Wl).length
    . have g:q<(Yp Wl).length:=by exact E0 h h1
      rw[ZT h,ZT g];exact(t q g).mono (t c h) h1
    . rw[ZY h];refine bQ rfl (λg=>?_) λO=>?_;.exact Xa (t q g).lt
      .exact ZV _
  . intro q c x h1 h2 e1 e2;rw[Z2]at h1 h2;have g:∀q,YG<=(if q<(Yp Wl).length then iq Wl d q else YG)->(Yp Wl).length<=q:=λq h=>by
      by_cases k:q<(Yp Wl).length;.rw[ZT k]at h;have:=(t q k).lt;exact bw 0x7ff920f2116841 [_,_,_,_] this h
      .exact E_ k
    have n:=g q h1;have o:=g c h2;rw[C q n]at e1;rw[C c o]at e2;have f:=vd e2;rw[(vd e1)]at f;have:=nX (Fn f);exact fX 0x7fffd907920b2316e10888820c21110c41 [_,_,_,_] this n o
  . intro p m q h1 h2 e hq e2;walk_at"b";have a1:=i p (bw 0x7ffa1874316841 [_,_,_] h1 h2);have a2:=i m h2;rw[<-e]at a2;have l:=a1.lt;have he:=Z6 l;have s2:=a1.two a2 he h1;by_cases h:q<(Yp Wl).length
    . rw[ZT h]at e2;have b1:=t q h;rw[e2]at b1;have s:2<=(Wl d[iq zx d p]).length:=by
        obtain⟨E,n,o,g3⟩:=b1;rw[he]at n;cases n;have c1:(Wl d[iq zx d p]).length≠0:=by exact bw 0x3ffe6da3c845a80c41 [_,_,_] g3 o
        unfold Wl at c1⊢;unfold zx at s2;split at c1
        . rename_i k;rw[ZT k];split at s2;.exact s2
          .exact Zc s2 Z'
        .exact Zc rfl c1
      obtain⟨c,D,k2⟩:=b1.more he s;have B:c<(Yp Wl).length:=by
        obtain⟨z,_,z2⟩:=k2.line uA;exact bA z2
      refine⟨c,D,?_,?_⟩;.unfold du;rw[Z1];exact He B
      .rw[ZT B];exact(t c B).uniq k2
    .rw[ZY h]at e2;exact(bw 0x1ffa76116841 [_,_] l e2).elim
theorem B'(hm:SN<=1)(he:YG<=62):(dH (Vl d) (du d SN)).length<64:=by
  have B:=w3 (I:=eX (du d SN)) ((Vl d).length+1) (0,(Vl d).length,0,(du d SN).length) ⟨Zg _,ZV _,Zg _,ZV _⟩ (by show(Vl d).length-0<_;exact cY 0x6a0e0c5a1 [_]) (.inl ⟨rfl,rfl⟩);have a:=Je (d:=d) (SN:=SN);have R:=B0 _ _ _ (ZV _) B.ch B.sep;have M:=En (ZV _) B.ch;rw[<-Z2 (f:=th (eX (du d SN)) (Vl d))];have len:(du d SN).length=(Yp Wl).length+(200*SN-(Yp Wl).length):=by unfold du i9;simp
  by_cases h:200*SN<=(Yp Wl).length;.have:=ux a (λq hq=>by
      rw[Z2];rw[ZT (show q<(Yp Wl).length by exact fX 0x7fffd0c391937088c8316841 [_,_,_,_] hq len h)];exact(oy d q (fX 0x7fffd0c391937088c8316841 [_,_,_,_] hq len h)).lt) R M;rw[Z2,Z2]at this;rw[Z2];exact U' this (a9 0x7f4f0e5e1 [62,64] [_] [] he)
  . have:=wL a R M λu c x hx=>by
      have p:=DI B.ch u c x hx;unfold eX at p;have l:(du d SN).length=200:=by exact KO len hm h
      rw[decide_eq_false_iff_not,l]at p;rw[l];exact J6 p
    rw[Z2 (f:=λe:Ent=>e.line++nl)]at this;exact U' this (a9 0x1fd3e0e0e5e1 [62,64] [_] [] he)
theorem qt(XK:J Z)(rs:Xe):∀i:J Z,cp XK [] [] (XM i++rs)=cp XK [] [] rs:=by
 intro I;induction I with
 |Yk=>exact rfl|Zp x i a=>
  show cp XK [] [] ((" ",x)::(XM i++rs))=_;rw[fU,ZY (λh=>pI h.symm),ZY (λh=>qC h.symm),a];show(dY XK [] []&&_)=_;rw[show dY XK [] []=true from rfl,o']
theorem yL(XK c:J Z)(rs:Xe):∀(d g:J Z),cp XK g c (U1 (λx=>(("-"),x))++rs)=cp XK (g++d) c rs:=by
 intro I;induction I with
 |Yk=>
  intro g;rw[Zn];rfl|Zp a d b=>
  intro g;show cp XK g c (("-",a)::(U1 (λx=>(("-"),x))++rs))=_;rw[fU,ZT rfl,b,ZQ];rfl
theorem EX:¬("+"=("-")):=by rw[ay];decide
theorem vk(XK g:J Z)(rs:Xe):∀(d c:J Z),cp XK g c (U1 (λx=>(("+"),x))++rs)=cp XK g (c++d) rs:=by
 intro I;induction I with
 |Yk=>
  intro c;rw[Zn];rfl|Zp a d b=>
  intro c;show cp XK g c (("+",a)::(U1 (λx=>(("+"),x))++rs))=_;rw[fU,ZY EX,ZT rfl,b,ZQ];rfl
theorem nR(XK g c:J Z)(x:Z)(rs:Xe)(h:dY XK g c=true):cp XK g c ((" ",x)::rs)=cp XK [] [] rs:=by rw[fU,ZY (λh=>pI h.symm),ZY (λh=>qC h.symm),h,o']
theorem Ae(XK:J Z):∀(cs:Zb4),a7 cs->(∀c∈cs,dY XK c.1 c.2.1=true)->cp XK [] [] (WL aU++[((" "),(""))])=true:=by
  intro d;induction d with
  |Yk=>
    intro _ _;show cp XK [] [] [_]=true;rw[nR XK [] [] _ _ rfl];rfl|Zp c cs I=>
    intro ok h;obtain⟨_,he,t⟩:=ok.qS;have b:=h c (.head _);rw[ZQ,ZQ,ZQ,yL,vk];clear ok;refine v9 (c.2.2) (λa=>?_) λy ys a=>?_;.rw[a];have:=he.resolve_right (λg=>g a);clear I t;rw[this];show cp XK c.1 c.2.1 [_]=true;rw[nR _ _ _ _ _ b];rfl
    .rw[a];show cp XK c.1 c.2.1 ((" ",y)::(XM ys++_))=true;rw[nR _ _ _ _ _ b,qt];exact(I t λx hx=>h x (ZX _ hx))
theorem AB(b:J Z)(x:Z)(h:eX b x=true):pU b x=true:=by
 unfold eX at h;rw[XU,nQ]at h;rw[YK,XU,XU];exact KW h
theorem qD(G:IK (eX b) a b i d c f)(u:d<=Zx)(hj:f<=Zv):dY (gU b) ((IL i).take (d-i)) ((Tg c).take (f-c))=true:=by
  rw[YK];constructor
  . rw[G4,Bool.and_eq_false_iff];by_cases g:c<f
    . left;rw[Uy];intro o;have e:=Zq (λl:J Z=>l[0]?) o;simp only[T3,T7,vi,ZT Nat.zero_lt_one,ZT (show 0<f-c by exact GI g)]at e;by_cases hg:i<d;.rw[ZT (show 0<d-i by exact GI hg)]at e;exact G.fst hg g e
      .rw[ZY (show¬0<d-i by exact aV 0x7f9a8844de6841 [_,_] hg),Z6 (show c<Zv by exact JH g hj)]at e;exact ax e
    .right;rw[show f-c=0 by(exact aV 0x3fb6c422e6841 [_,_] g)];rfl
  . rw[List.isEmpty_iff,List.filter_eq_nil_iff];intro x hx hp;rw[YK,G4,List.contains_iff_mem]at hp;obtain⟨p,j,r⟩:=So hx;obtain⟨q,k,s⟩:=So hp.1;have p0:p<d-i:=by rw[Zo]at j;exact KD j
    have m:q<f-c:=by rw[Zo]at k;exact KD k
    have t:a[i+p]?=Zak:=by
      have:=Z6 j;rw[r,T3,ZT p0,T7]at this;exact this
    have n:b[c+q]?=Zak:=by
      have:=Z6 k;rw[s,T3,ZT m,T7]at this;exact this
    have:=AB b x (G.MN (i+p) (c+q) x (O1) (aV 0x7f428047a88c41 [_,_,_] p0) (O1) (aV 0x7f428047a88c41 [_,_,_] m) t n);have mem:x∈gU b:=qa ⟨YN n,this⟩;rw[List.contains_iff_mem.mpr mem]at hp;exact Zc hp.2 Z'
theorem wK:∀(l:J eI)(i j:U),Ch (eX b) a b Zx Zv i j l->∀c∈dy a b i j l,dY (gU b) c.1 c.2.1=true:=by
  intro I;induction I with
  |Yk=>
    intro i j h;exactλc d=>by
      rw[gW]at d;split at d;.rw[ZD d];have:=qD h.2.2 (ZV _) (ZV _);rwa[<-Ze,<-Ze,XT,XT]at this
      .exact nomatch d|Zp m r e=>
    intro i j h;exactλc d=>by
      have it:=(q1 _ _ _ h).2.2 m (.head _);obtain⟨h1,h2,k,n,o,f,g⟩:=h;refine(ZI d).elim (λYA=>?_) λd=>?_;.rw[YA];exact qD f (aV 0x1fc8c391c041 [_,_,_] it.2.2.1) (aV 0x1fc8c391c041 [_,_,_] it.2.2.2)
      .exact e _ _ g c d
theorem A4(XK:Z->Y0)(a:J Z):eZ XK a a 0 Zx 0 Zx=(0,0,Zx):=by
  obtain⟨i,j,k,F⟩:=found (I:=XK) (e:=a) (a:=Zx) (Q:=Zx) (Zg _) (ZV _) (Zg _);have f:=F.fits;have m:i=j:=by
    by_cases b:k=0;.have:=F.zero b;exact aV 0x7f620f76d16da1 [_,_] this
    . have u:=F.GB;have n:∀t,t<k->∃x,a[j+t]?=Zak/\XK x=false:=λt ht=>by
        walk_at"b";obtain⟨x,c,l⟩:=F.GB t ht;exact⟨x,by rw[<-f.eq t ht];exact c,l⟩
      have d:∀p,(∀t,t<k->∃x,a[p+t]?=Zak/\XK x=false)->k<=eM XK a a 0 0 Zx (p+k) (p+k):=λp hp=>xC k p p λt ht=>by
          obtain⟨x,c,l⟩:=hp t ht;exact⟨Zg _,Zg _,bA c,x,c,c,l⟩
      refine(Nat.lt_trichotomy i j).elim (λh=>?_) λYA=>YA.elim (λh=>?_) λh=>?_;.have:=F.fst (GP b) (i+k-1) (i+k-1) (Zg _) (bw 0x1ffe87174044d04991c041 [_,_,_,_] (f.j1) h) (.inr ⟨rfl,by exact bw 0xfff51740628ba030f36d1e841 [_,_,_] h b⟩);have d1:=d i u;rw[show i+k-1+1=i+k by(exact aV 0x7f7010e0e8ba021e841 [_,_,_] this)]at this;exact bw 0x7ffb20f2116841 [_,_,_,_] this d1
      .exact h
      .have:=F.fst (GP b) (j+k-1) (j+k-1) (Zg _) (bw 0x1ffe87174044d04991c041 [_,_,_,_] (f.i1) h) (.inl (bw 0xfff51740628ba030f36d1e841 [_,_,_] h b));have d1:=d j n;rw[show j+k-1+1=j+k by(exact aV 0x7f7010e0e8ba021e841 [_,_,_] this)]at this;exact bw 0x7ffb20f2116841 [_,_,_,_] this d1
  walk_at"i";subst m;obtain⟨d,e1,d1,d2,o,st⟩:=qL i i k f;have z:=XQ λq=>st (GP q) (GP q) rfl;have hs:toN (zB XK a a 0 0 Zx (Zx-0)).2=(i,i,k):=by rw[F.eq];rfl
  obtain⟨r,g,g3⟩:=rj (Zx-(i-d)-(k+d)) (k+d) (Kn) o;have z2:i-d+jx a a Zx Zx (i-d) (i-d) (Zx-(i-d)-(k+d)) (k+d)=Zx:=by
    have:=g.i1;refine fx this (E_ λq=>g3 q q rfl)
  unfold eZ;rw[hs];dsimp only;rw[e1];dsimp only;rw[z]at z2⊢;rw[Wi]at z2;rw[z2]
theorem Aq(a:J Z):fZ a a (dH a a)=[]:=by
  have c:gi a a (0,Zx,0,Zx):=⟨Zg _,ZV _,Zg _,ZV _⟩;have F:=A4 (eX a) a;by_cases b:Zx=0;.have:dH a a=[]:=oj c (by rw[F];exact b);rw[this,show fZ a a []=dy a a 0 0 []from rfl,gW,ZY (by exact aV 0xff3da0b7416eda1 [_] b)]
  . have:dH a a=[(0,0,Zx)]:=by
      rw[ou c (by rw[F];exact b),F];unfold ie jz;rw[ZY (λq=>UE 0 q.1),ZY (by dsimp only;exact cY 0xe7741805ba0c02d [_])];rfl
    rw[this,wy,ZT ⟨rfl,rfl⟩,gW,ZY (by dsimp only;exact cY 0xe7b410e821 [_])]
theorem tC(h:b a=some (.list [x,c])):bR b Zag (.int 0)=Zak/\bR b Zag (.int 1)=Zao:=by exact⟨kf (eU h) Z' rfl,kf (eU h) Z' rfl⟩
abbrev ho(n:U)(s a:J Z):J Z:=iJ s a (eY n s a)
structure AA(s a:J Z)(n:U)where
 d1:J Hk
 d2:J Hk
 c1:zI n s a
 c2:zI 3 s a
 t1:TurnOk s a n (ho n s a) d1
 t2:TurnOk s a 3 (ho 3 s a) d2
 z1:(ho n s a).length<=1000000
 z2:(ho 3 s a).length<=1000000
 same:ba s d1=ba s d2
theorem AK(hb:RX NC)(rm:Za2)(z1:ZR<=1000)(z2:Zx<=1000)(h1:Ys ("first")=some Zal)(h2:Ys ("second")=some ZaC):EA X m YX [.Subscript (.Name "first" p1) (.Slice none none none p2) c,.Subscript (.Name "second" d) (.Slice none none none f) i] o E λb G=>b=[Zal,ZaC]/\G=E:=by
 walk_at"m";refine Zu (t_ (Z4 h1 (SU (SU ⟨_,aF ..,?_,?_⟩))));.rw[az,af];exact Gn z1
 refine Zu (t_ (Z4 h2 (SU (SU ⟨_,aF ..,?_,Y6 ?_⟩))));.rw[az,af];exact Gn z2
 rw[n3,n3];exact⟨rfl,rfl⟩
theorem BJ(e:mh X b)(p:c6 X b)(hb:ZcX)(q:V0 "zip"=none/\Va "zip"=Zbl)(C:ly X b 14 .none .none)(Rd:ly X b 15 .none .none)(rm:Rm X m 30)(a:AA s d (z4 sc))(k:∀l G,D (.ret (.bool true)) l G):EF X m (bU pm cd Ww u fa) (Yj (ig.drop 5) (bU pm cd Ww u fa)) (ME sc s d) E D:=by
  refine ZJ (Zk (VZ (Y6 ⟨by decide,λc z=>?_⟩)) (.inl rfl));have r:Y8 E c Zar c=some Zar:=aa ..;generalize Y8 E c Zar=w at r;show EF X m _ _ (GO sc s d (gU d) c) w D;let I:U->YS->GH->Prop:=λj f G=>f=GO sc s d (gU d) c/\G c=some (.list ([aS (ba s a.d1),aS (ba s a.d2)].take j));refine ZJ (ra YO I ?_);refine UA (Zu (TO (Zu (Z4 rfl (Zu (EV.uW b (n:=14) (.inl rfl) (rm.le (fF 0x197c1ef [14,4,30] [] [])) rfl e.hl (λx y S=>A0 e (rm.le (fF 0x65ee [30] [] [])) a.c1 rfl (AK hb rm a.c1.z1 a.c1.z2 rfl rfl) rfl rfl S) ?_ (Y6 ⟨(by decide:2<=ZK),?_⟩)))))));.rw[az,af];exact YW a.z1 Z'
  refine Zu (TO (Zu (X2 (Zu (EV.uW b (n:=14) (.inl rfl) (rm.le (fF 0x197c1ef [14,4,30] [] [])) rfl e.hl (λx y S=>CD e (rm.le (fF 0x65ee [30] [] [])) a.c2 rfl (AK hb rm a.c1.z1 a.c1.z2 rfl rfl) rfl S) ?_ (Y6 ⟨(by decide:2<=ZK),Y6 ⟨(by decide:2<=ZK),_,GO sc s d (gU d) c,rfl,⟨rfl,r⟩,?_,λk A f G hm i=>?_,λf G i=>?_⟩⟩))))));.rw[az,af];exact YW a.z2 Z'
  .exact av Z_
  .obtain⟨rfl,g⟩:=i;match k,hm with
    |0,hm=>
      cases hm;refine CL YO (.inl rfl) (.inl rfl) ?_;refine tU p hb q C Rd (n:=10) (rm.le (fF 0x197c1ef [10,2,30] [] [])) a.t1 g (by simp) λl G n o=>⟨_,⟨rfl,?_⟩,o⟩;exact n _ _ (aa ..)|1,hm=>
      cases hm;refine CL YO (.inl rfl) (.inl rfl) ?_;refine tU p hb q C Rd (n:=10) (rm.le (fF 0x197c1ef [10,2,30] [] [])) a.t2 g (Te _) λl G n o=>⟨_,⟨rfl,?_⟩,o⟩;exact n _ _ (aa ..)|k+2,hm=>exact ax hm
  .obtain⟨YA,g⟩:=i;rw[YA];have t:G c=some (.list [aS (ba s a.d1),aS (ba s a.d2)]):=g;show EF X m _ _ _ _ _;refine SE (Q0 (EV.cmp rm (Yq (Z4 rfl (X2 ⟨_,(tC t).1,Yq (Z4 rfl (X2 ⟨_,(tC t).2,true,?_,k ..⟩))⟩)))));.show yj G (aS (ba s a.d1)) (aS (ba s a.d2))=some true;rw[BI,a.same];simp
def qz(sc:J Zw)(s a:J Z):Prop:=∃d:J Ent,YG=(SX sc).length/\(∀e∈d,iA e)/\s=Vl d/\a=du d (bM sc)
theorem qz.len(b:zb<=63)(h:qz sc s c):ZR<=500/\YZ<=700:=by
 obtain⟨d,hl,he,YA,YB⟩:=h;rw[YA,YB];have hp:=fh b;have z1:=iO λe h=>(he e h).al;have z2:=iO λe h=>(he e h).bl;refine⟨by show(Yp zx).length<=500;(exact rf 0xffff978f3208f2f16c41 [62,8,500] [_,_,_] [] hl hp z1),?_⟩;have hm:bM sc<=1:=by unfold bM;exact KL
 unfold du i9;rw[Z1,Z2,WX];exact oP 0x1fffff97c22490c999049970f2f16c41 [62,8,200,700] [_,_,_,_] [] hl hp hm z2
theorem AY(F:hT X fa (cy 16) pm cd Ww .none .none)(f:mh X b)(D:c6 X b)(hb:ZcX)(i:V0 "zip"=none/\Va "zip"=Zbl)(C:ly X b 14 .none .none)(Rd:ly X b 15 .none .none)(rm:Rm X m 31)(a:zb<=63)(j:∀s c,qz sc s c->i2 (AA s c (z4 sc)))(k:∀G,g (.bool true) G):b9 X m ZaA [ko sc] E g:=by
 refine hS b rm ["script"] (EK λO=>rfl) Z' rfl (λe x hx=>?_) λe=>?_;.rw[ZD hx];exact .inl rfl
 have r:Rm X (Sg (bU pm cd Ww e fa)) 30:=WJ _;refine yA D hb (P0:=20) (r.le (fF 0x197c1cf [20,30] [] [])) a λd hl he=>?_;have B:qz sc (Vl d) (du d (bM sc)):=⟨d,hl,he,rfl,rfl⟩;obtain⟨l⟩:=j _ _ B;have n:=(B.len a).2;exact C6 hb (n:=20) (r.le (fF 0x197c1cf [20,30] [] [])) (Kl n) (BJ f D hb i C Rd r l λO G=>k G)
def pM(a:Z->Prop)(rs:Xe):Prop:=∀r∈rs,a r.2
theorem FI(hr:r∈rs)(h:r.1≠("+")):r.2∈cJ rs:=Yu ⟨r,qa ⟨hr,by rw[Yt h];rfl⟩,rfl⟩
theorem FO(hr:r∈rs)(h:r.1≠("-")):r.2∈RZ rs:=Yu ⟨r,qa ⟨hr,by rw[Yt h];rfl⟩,rfl⟩
theorem mF(b:∀x∈cJ rs,a x)(hn:∀x∈RZ rs,a x):pM a rs:=λr hr=>by
 by_cases e:r.1="+";.exact hn _ (FO hr (by rw[e];exact EX))
 .exact b _ (FI hr e)
theorem pO(h:pM a Zdc):(∀x∈k0,a x)/\∀c∈cs,(∀x∈c.1,a x)/\(∀x∈c.2.1,a x)/\∀x∈c.2.2,a x:=by
 walk_at"y";have k:∀{i:J Z}{x:Z},x∈i->((" "),x)∈XM i:=λhx=>Yu ⟨_,hx,rfl⟩;refine⟨λx hx=>h (_,x) (Y3 _ (k hx)),λc b=>?_⟩;have sub:∀r∈aU c,r∈au k0 cs:=λr hr=>Y2 _ (Xf ⟨c,b,hr⟩);refine⟨λx hx=>h ("-",x) (sub _ ?_),λx hx=>h ("+",x) (sub _ ?_),λx hx=>h (" ",x) (sub _ ?_)⟩;.exact Y3 _ (Y3 _ (Yu ⟨x,hx,rfl⟩))
 .exact Y3 _ (Y2 _ (Yu ⟨x,hx,rfl⟩))
 .exact Y2 _ (k hx)
theorem FG(hh:h∈a.1)(hr:r∈X5):r∈bf a:=Y3 _ (Xf ⟨h,hh,Y2 _ hr⟩)
theorem CH(x:Z):(c8 x).length<=ZO:=by
 unfold c8;show x.cps.pop.size<=a6;rw[Array.size_pop];exact Nat.sub_le _ _
theorem xW(a:U)(x:Z):(ir a++x).length=ZO+2:=by
 show(ir a++x).cps.size=a6+2;rw[Xu,ix];show 2+_=_;exact cY 0x6e0114041 [_,_]
theorem nq(f:a≠10)(hp:N=ir a)(h:pM (λx=>ZO<=4) Zdc):∀x∈(cA Yi N k0 cs).map c8,ZO<=6:=by
  intro x hx;obtain⟨t,ht,YA⟩:=Zl hx;rw[<-YA];refine YW (CH t) ?_;have b:=pO h;have bl:∀i:J Z,(∀x∈i,ZO<=4)->∀x∈ei i,ZO<=6:=λi g x hx=>by
    obtain⟨y,hy,YA⟩:=Zl hx;rw[<-YA];show("  "++y).length<=6;rw[xW];have:=g y hy;exact a9 0x1fcbe0f0e5e1 [4,2,6] [_] [] this
  unfold cA at ht;split at ht
  . rcases ZM ht with ht|ht;.exact bl k0 b.1 t ht
    . obtain⟨c,j,ht⟩:=WM ht;have Lc:=b.2 c j;clear hx;rcases ZM ht with ht|ht
      . obtain⟨y,hy,YA⟩:=Zl ht;rw[<-YA];obtain⟨d,hd,e,_⟩:=lI f hp c;show(gN N c++y).length<=6;rw[e,xW];have:l5<=4:=by
          clear ht;cases Yi;.exact Lc.1 y hy
          .exact Lc.2.1 y hy
        exact a9 0x1fcbe0f0e5e1 [4,2,6] [_] [] this
      .exact bl _ Lc.2.2 t ht
  .exact nomatch ht
theorem qm(h:j<=100000):S1 (j:Zw):=by
 unfold S1;rw[Int.natAbs_natCast];exact a9 0x7f4f0e5e1 [100000,1099511627776] [_] [] h
theorem lT(h:j+a<=10000):(aN j a).length<=41:=fb (by
 have:=qm (j:=j+1) (by exact a9 0x7f2f838397c041 [10000,100000] [_,_] [] h);exact this) (by
 have:=qm (j:=j+a) (by exact JM h);exact this)
theorem rH(x:Z):ZO=x.cps.toList.length:=by rw[Yv];rfl
def mA(l:J Hn):U:=VH (λh k=>Y7+WB X5+k) 0
theorem zP(h r):mA (h::r)=Y7+WB X5+mA r:=rfl
theorem wO:∀(hs:J Hn)(tl:J Z),mA hs<=WB (bf (hs,tl)):=by
 intro I;induction I with
 |Yk=>
  intro _;exact Zg _|Zp h r a=>
  intro tl;have:WB (bf (h::r,tl))=Y7+WB X5+WB (bf (r,tl)):=by
   unfold bf;rw[ZA,ZQ,dB,dB,lD]
  rw[zP,this];exact aV 0x7f3010e011e441 [_,_,_] (a tl)
theorem r8:∀(hs:J Hn)(o w:U),(∀h∈hs,pM (λx=>ZO<=4) X5)->o+kh hs<=10000->w+mA hs<=10000->∀a∈fW o w hs,∀x∈a,ZO<=1000:=by
  intro I;induction I with
  |Yk=>
    intro _ _ _ _ _;exactλa hs=>by cases hs|Zp h r e=>
    intro o w b c hw;exactλa hs=>by
      refine(ZI hs).elim (λYA=>?_) λhs=>?_
      . rw[YA];have d:=b h (.head _);have m:=dU;intro x hx;refine(ZI hx).elim (λYA=>?_) λhx=>?_;.rw[YA];have:=lT (j:=o+Y7) (a:=WR X5) (aV 0x1fc9603808392c20480c41 [_,_,_,_,_] c);rw[rH,gC,Z1,Z1];show 4+_+5<=_;exact a9 0x7f2f83e017e5e1 [41,4,5,1000] [_] [] this
        . rcases ZM hx with hx|hx;.have:=nq Z' m.2.1 d x hx;exact a9 0x7f2f0e5e1 [6,1000] [_] [] this
          . refine(ZI hx).elim (λYA=>?_) λhx=>?_;.rw[YA];have:=lT (j:=w+Y7) (a:=WB X5) (aV 0x1fc9603808392c20480c41 [_,_,_,_,_] hw);rw[rH,oA,Z1,Z1];show 4+_+5<=_;exact a9 0x7f2f83e017e5e1 [41,4,5,1000] [_] [] this
            .have:=nq Z' m.2.2.1 d x hx;exact a9 0x7f2f0e5e1 [6,1000] [_] [] this
      .exact e _ _ (λx hx=>b x (ZX _ hx)) (LW c) (LW hw) a hs
theorem Dk(ok:a7 cs)(a:cs≠[]):1<=(au k0 cs).length:=by cases cs with
 |Yk=>exact Zc rfl a|Zp c cs=>
  have:aU c≠[]:=λe=>by exact kF (ok.chg c (.head _)) (Xy e).1
  have:=Xi this;unfold au;rw[ZA,Z1,Z1];exact aV 0x7f3080c227682d [_,_,_] this
theorem vP:∀(hs:J Hn)(tl:J Z)(o w:Zw),(∀h∈hs,a7 R2/\R2≠[])->(bH o w hs).length<=5*(bf (hs,tl)).length:=by
 intro I;induction I with
 |Yk=>
  intro _ _ _ _;exact Zg _|Zp h r c=>
  intro tl o w a;have b:=a h (.head _);have e:(bf (h::r,tl)).length=Y7+h.rows.length+(bf (r,tl)).length:=by
   unfold bf;rw[ZA,ZQ,Z1,Z1,cx]
  rw[km,Z1,e];exact rf 0x3fffe6502402580c59910798482f1642e [3,2,5,5] [_,_,_,_,_] [] (Dk b.1 b.2) (iu _) (c tl (o+Y7+WR X5) (w+Y7+WB X5) λx hx=>a x (ZX _ hx))
structure MB(s a e:J Z)(cs:Zb4):Prop where
 ok:a7 cs
 old:cJ (au e cs)=s
 new:RZ (au e cs)=a
 z1:ZR<=500
 z2:Zx<=700
 la:∀x∈s,eh x/\ZO<=4
 lb:∀x∈a,eh x/\ZO<=4
structure Told(s:J Z)(t:J Z)(d:J Hk)(rs:Xe):Prop where
 read:rg s (Sn (R4 "" t) ("\n")) d
 IH:ba s d=rs
 join:JoinOk "" t=true
 size:(R4 "" t).length<=10000000
 len:YF<=1000000
theorem zm(S:MB s T a cs)(n:U):Told s (vx (au a cs) n) (vU 0 (ef n a cs).1) (au a cs):=by
  have c:=vq n a cs;walk_at"bk";have f:=BP n (b:=a) S.ok;have zo:WR (au a cs)<=500:=by rw[<-gM,S.old];exact S.z1
  have l:WB (au a cs)<=700:=by rw[<-k6,S.new];exact S.z2
  have zr:(au a cs).length<=1200:=YW (kI _ (nO a cs)) (cF 0x1ffe5f01072f165e1 [500,700,1200] [_,_] [] zo l);rw[iT n a cs S.ok];obtain⟨hs,tl,B⟩:∃hs tl,ef n a cs=(hs,tl):=(Vs _ _ rfl);rw[B]at c f⊢;dsimp only at*;have m:∀h∈hs,pM (λx=>eh x/\ZO<=4) X5:=λh hh r hr=>(mF (by rw[S.old];exact S.la) (by rw[S.new];exact S.lb)) r (by rw[<-c];exact FG hh hr);have g:∀h∈hs,rT h:=λh hh=>⟨(f h hh).1,(f h hh).2,by
    have:=pO (λr hr=>(m h hh r hr).1);exact this⟩;have z:=wV hs tl;have o:=wO hs tl;rw[c]at z o;obtain⟨tc,C⟩:=yl hs 0 0 g;have q:=vP hs tl 0 0 f;rw[c]at q;have u:=Di (s:=s) g (by rw[c];exact S.old.symm);rw[c]at u;have D:∃pre:J Z,(if bH 0 0 hs=[]then[]else[("*** \n"),"--- \n"]++bH 0 0 hs).map c8=pre++c5 (fW 0 0 hs)/\(∀x∈pre,(x==bg)=false/\ZO<=4)/\(∀x∈(if bH 0 0 hs=[]then[]else[("*** \n"),"--- \n"]++bH 0 0 hs),eh x)/\(if bH 0 0 hs=[]then[]else[("*** \n"),"--- \n"]++bH 0 0 hs).length<=2+(bH 0 0 hs).length:=by
    by_cases e:bH 0 0 hs=[];.rw[ZT e];refine⟨[],?_,λx hx=>(by exact nomatch hx),λx hx=>(by exact nomatch hx),Zg _⟩;rw[<-tc];show[]=(bH 0 0 hs).map c8;rw[e];rfl
    . rw[ZY e];refine⟨["*** ","--- "],?_,?_,?_,by simp;(exact fF 0x19805f0741c1 [2] [_] [])⟩;.rw[ZE,<-tc,lits.2.2.2.1,lits.2.2.2.2];rfl
      . intro x hx;refine(ZI hx).elim (λYA=>?_) λhx=>?_;.rw[YA];exact⟨by decide+kernel,by decide⟩
        .rw[ZD hx];exact⟨by decide+kernel,by decide⟩
      . intro x hx;rcases ZM hx with hx|hx
        . refine(ZI hx).elim (λYA=>?_) λhx=>?_;.rw[YA];rw[lits.2.2.2.1];exact mO Z8
          .rw[ZD hx,lits.2.2.2.2];exact mO Z8
        .exact C x hx
  obtain⟨pre,p1,p2,p,E⟩:=D;generalize(if bH 0 0 hs=[]then[]else[("*** \n"),"--- \n"]++bH 0 0 hs)=t at*;have F:Sn (R4 "" t) "\n"=pre++(c5 (fW 0 0 hs)++[("")]):=by
    rw[<-ZQ,<-p1];exact uV t p
  obtain⟨s1,s2⟩:=De pre (fW 0 0 hs) (λx hx=>(p2 x hx).1) (uX hs 0 0 g);have w:∀x∈pre++(c5 (fW 0 0 hs)++[("")]),ZO<=1000:=by
    intro x hx;refine(ZM hx).elim (λhx=>?_) λhx=>?_;.have:=(p2 x hx).2;exact Hr this
    . rcases ZM hx with hx|hx
      . obtain⟨G,I,hx⟩:=WM hx;refine(ZI hx).elim (λYA=>?_) λhx=>?_;.rw[YA];decide
        .exact r8 hs 0 0 (λh hh r hr=>(m h hh r hr).2:∀h∈hs,pM (λx=>ZO<=4) X5) (cF 0x1ffe5f013721165e1 [500,10000] [_,_] [] zo z) (cF 0x1ffe5f013721165e1 [700,10000] [_,_] [] l o) G I x hx
      .rw[ZD hx];decide
  have i:YF<=6002:=by exact rf 0x3fffe5e2cc823cc06f165e1 [1200,2,5,6002] [_,_,_] [] zr E q
  have M:∀x∈t,ZO<=1001:=λx hx=>by
    obtain⟨y,rfl,_⟩:=p x hx;have:c8 (y++gX)∈k3 c8:=Yu ⟨_,hx,rfl⟩;rw[jq,p1]at this;have:=w y (by rw[<-ZQ];exact Y3 _ this);have e:(y++gX).length=l5+1:=by
      show(y++gX).cps.size=y.cps.size+1;rw[nA,Xu,ix];rfl
    exact cF 0x1ffe5e1cbc5b83841 [1000,1001] [_,_] [] e this
  have N:=StrLaws.sumLen_le t M;have A:=YW N (by have:=Nat.mul_le_mul_right 1001 i;exact Lh i);refine⟨?_,u.1,?_,?_,by exact a9 0x7f2f0e5e1 [6002,1000000] [_] [] i⟩
  . rw[F];refine⟨?_,w,?_,?_,?_,?_⟩;.have:=Zq Sr p1;rw[Z2,Z1]at this;rw[Z1,Z1,YY];exact cF 0x1ffe5f083862cbc3b80c41 [6002,10000] [_,_,_] [] this i
    .rw[Z1,Z1,YY];exact cY 0x66107082e [_,_]
    .rw[s1,Ag,wZ,Cg]
    .intro j k e d h1 h2 Q;obtain⟨b,b1,b2⟩:=s2 j k e h1 h2;rw[b2];exact yU hs 0 0 ZR g (by rw[Wi,<-S.old,gM];exact z) j b d b1 Q
    .intro j;have:=DD s (vU 0 hs) j;have:=S.z1;omega
  . unfold JoinOk;rw[StrLaws.joinTotal];have e:"".length=0:=by decide
    rw[vi];unfold PySem.Builtin.Str.tooLong;have:¬(k3 (·.length)).sum>ZK:=by rw[af];exact a9 0xff3417e5e1 [6008002,16777216] [_] [] A
    simp[this]
  . have:=StrLaws.join_length_le "" t;have e:"".length=0:=by decide
    show(zy "" t).length<=_;rw[tx];exact YW this (a9 0x7f2f0e5e1 [6008002,10000000] [_] [] A)
theorem Br(x:Z):(x++nl).length=ZO+1:=by
 show(x++nl).cps.size=a6+1;rw[show nl=gX from rfl,nA,Xu,ix];rfl
theorem tW(h:iA a):eh (a.line++nl)/\(a.line++nl).length<=4:=by
 refine⟨mO λq=>h.nl 10 q rfl,?_⟩;rw[Br];have:=h.l3;exact a9 0x1fcbe0e0e5e1 [3,4] [_] [] this
theorem ua(h:∀e∈d,iA e):∀x∈Vl d,eh x/\ZO<=4:=λx hx=>by
 obtain⟨e,he,hx⟩:=WM hx;rw[xY e x hx];exact tW (h e he)
theorem zT(hm:SN<=1):∀x∈i9 a SN,eh x/\ZO<=4:=λx hx=>by
  obtain⟨i,b,YA⟩:=Zl hx;rw[<-YA];have e:(100:Zw)+((a+i:U):Zw)=((100+(a+i):U):Zw):=by exact fF 0x1b9c02f84c2f [100,100] [_] []
  refine⟨mO λq=>?_,?_⟩;.have:=ej q;exact JK this
  .rw[Br,rH,nE,Z2];have:=digits10_le (k:=3) (n:=100+(a+i)) Z' (cF 0x3ffd3e1008df970b511c841 [200,100,1000] [_,_,_] [] (WY b) hm);exact a9 0x1fcbe0e0e5e1 [3,4] [_] [] this
theorem zK(hm:SN<=1)(h:∀e∈d,iA e):∀x∈du d SN,eh x/\ZO<=4:=λx hx=>by
  rcases ZM hx with hx|hx;.obtain⟨e,he,hx⟩:=WM hx;rw[uA e x hx];exact tW (h e he)
  .exact zT hm x hx
theorem Bo(h:cJ (au (jA s l) [])=s)(a:RZ (au (jA s l) [])=b):s=b:=by
 unfold au at h a;rw[Xj,Zn]at h a;rw[fT]at h;rw[jS]at a;rw[<-a,h]
theorem Ej(z1:ZR<=500)(z2:Zx<=700)(la:∀x∈s,eh x/\ZO<=4)(lb:∀x∈a,eh x/\ZO<=4)(f:(dH s a).length<64)(n:U):zI n s a/\(ho n s a).length<=1000000/\∃d,TurnOk s a n (ho n s a) d/\ba s d=ZaU:=by
  have B:=w3 (I:=eX a) (ZR+1) (0,ZR,0,Zx) ⟨Zg _,ZV _,Zg _,ZV _⟩ (by show ZR-0<_;exact cY 0x6a0e0c5a1 [_]) (.inl ⟨rfl,rfl⟩);have C:Ch (eX a) s a ZR Zx 0 0 (dH s a):=B.ch;obtain⟨t1,t2,t3,t4,t5,t⟩:=we n C B.sep;have S:MB s a (jA s (dH s a)) ZcJ:=⟨t4,t5,t,z1,z2,la,lb⟩;obtain⟨r,k,j,_,_,_,e1,l,w,_⟩:=tV C B.sep;have hb:∀c∈fZ s a (dH s a),dY (gU a) c.1 c.2.1=true:=by rw[e1];exact wK r k k l
  clear B C j;have same:s=a->fZ s a (dH s a)=[]:=λe=>by rw[<-e];exact Aq s
  have T:=zm S n;have b:bH 0 0 (ef n (jA s (dH s a)) ZcJ).1=[]↔fZ s a (dH s a)=[]:=by
    constructor;.intro e;apply XQ;intro m;unfold ef at e;rw[ZY m]at e;obtain⟨ps,y,o⟩:=iP n ZcJ (bX n (jA s (dH s a))) (bJ n (jA s (dH s a))) [];rw[o,km]at e;have:=(Xy e).1;cases this
    .intro e;unfold ef;rw[ZT e];rfl
  have aL:ho n s a=vx ZaU n:=by
    rw[iT n _ _ t4];show iJ s a (eY n s a)=_;unfold iJ;have p:(eY n s a).flatMap (bY s a)=_:=t1;have i:eY n s a=[]↔_:=t2;rw[p];by_cases e:ZcJ=[];.rw[ZT (i.mpr e),ZT (b.mpr e),b.mpr e];rfl
    .rw[ZY (λq=>e (i.mp q)),ZY (λq=>e (b.mp q))]
  rw[aL];refine⟨⟨by exact a9 0x7f2f0e5e1 [500,1000] [_] [] z1,by exact Kl z2,λx hx=>by have:=(la x hx).2;(exact Hr this),λx hx=>by have:=(lb x hx).2;(exact Hr this),f,λg hg=>(t3 g hg).xt (a9 0x7f2f0e5e1 [500,1000] [_] [] z1) (Kl z2)⟩,T.len,_,⟨T.join,T.size,T.read,?_,?_,?_,?_,?_,?_,?_,?_⟩,hk⟩;.rw[hk];exact nO _ _
  . rw[hk];have h1:=kI _ (nO (jA s (dH s a)) (fZ s a (dH s a)));have h2:WR ZaU=ZR:=by rw[<-gM,t5]
    have u:WB ZaU=Zx:=by rw[<-k6,t]
    exact EO 0x1ffffffcbcb980c25cbc9b20f2f16c41 [500,700,10000] [_,_,_,_,_] [] h2 z1 u z2 h1
  .rw[hk];exact mF (by rw[t5];intro x hx;have:=(la x hx).2;exact Hr this) (by rw[t];intro x hx;have:=(lb x hx).2;exact Hr this)
  .rw[hk];exact t5
  .rw[hk];exact t
  .rw[hk]
  . rw[iT n _ _ t4];by_cases e:s=a;.rw[ZT (b.mpr (same e)),e];simp
    .have:fZ s a (dH s a)≠[]:=λq=>e (by
        rw[q]at t5 t;exact Bo t5 t);rw[ZY (λq=>this (b.mp q)),Yt e];rfl
  .rw[hk];unfold au;rw[ZQ,qt];exact Ae _ _ t4 hb
theorem Fp(a:zb<=63)(b:qz sc s f):i2 (AA s f (z4 sc)):=by
 walk_at"bl";have c:=qz.len a b;obtain⟨d,hl,e,rfl,rfl⟩:=b;have hm:bM sc<=1:=by unfold bM;exact KL
 have go:=λn=>Ej c.1 c.2 (ua e) (zK hm e) (B' hm (by rw[hl];exact fh a)) n;obtain⟨c1,l1,d1,t1,r⟩:=go (z4 sc);obtain⟨c2,l2,d2,t2,r2⟩:=go 3;exact⟨⟨d1,d2,c1,c2,t1,t2,l1,l2,by rw[r,r2]⟩⟩
section
open PySem.Calls
namespace Hd
def F5(l:J U):U:=PySem.W.R.foldlR (λn O=>Nat.succ n) 0 l
theorem Dh(l:J U):F5 l=W5:=by
 unfold F5;rw[<-PySem.W.R.foldlR_eq];have:∀(l:J U)(k:U),l.foldl (λn O=>Nat.succ n) k=k+W5:=by
  intro l;induction l with
  |Yk=>intro k;rfl|Zp a l i=>intro k;rw[UU,i,YE];(exact cY 0x6e1070830141c1 [_,_])
 rw[this];(exact O4)
def Fq(x:Ud U)(p:U->Y0)(start stop:U):Y0:=U3 (m1 start 0) (U3 (m1 stop (F5 x.toList)) (PySem.W.R.anyR x.toList p) (za x p start stop)) (za x p start stop)
theorem Cv{b:Y0}{α:Type}{a:α->Prop}{x y:α}(h:b=true->a x)(k:a y):a (U3 b x y):=by
 cases b;.exact k
 .exact h rfl
theorem DL:@za U=Fq:=by
 funext x p start stop;refine Cv (a:=λz=>za x p start stop=z) (λh=>Cv (a:=λz=>za x p start stop=z) (λk=>?_) rfl) rfl;rw[tr h,tr k,Dh,<-PySem.W.R.anyR_eq];exact Array.any_toList.symm
inductive Gg:Builtin->Builtin->Type|mk(a:Builtin):Gg a a
def E9:(a:(Ud U->(U->Y0)->U->U->Y0)->Builtin)×' Gg H_ (a (@za U)):=by
 refine⟨?a,?h⟩;case h=>
  delta H_;generalize@za U=F;exact Gg.mk _
theorem Bq:H_=E9.1 Fq:=by
 rw[<-DL];kernel_rfl!
def TB(id:T_):Zs Builtin:=U3 (m1 (PySem.code id) 29827186395103491166823348853) (some (E9.1 Fq)) (dn id)
theorem ox:Uh=TB:=by
 rw[Fast.te14364793385576792824];funext id;refine Cv (a:=λz=>dn id=z) (λh=>?_) rfl;rw[PySem.code_inj id "type.__new__" ((tr h).trans Z_),<-Bq];kernel_rfl!
def sP(q:VW)(k:U):V4:=(q.main.body[k]?).getD (.Pass default)
def mP(q:VW)(k i:U):V4:=((bI (sP q k))[i]?).getD (.Pass default)
def dC(st:V4):g4:=(IB (Fi ((bI st).getD 0 (.Pass default)))).2.1
def dP(st:V4):Z:=match dC st with|.str s=>s|_=>""
inductive uY:g4->g4->Type|mk(a:g4):uY a a
def BQ:(x:g4)×' uY (dC (sP Yx 5)) x:=by
 refine⟨?x,?h⟩;case h=>
  conv=>arg 1;whnf
  exact uY.mk _
set_option maxHeartbeats 4000000 in def HL:(cs:J Char)×' uY BQ.1 (Const.str (WZ (String.ofList cs))):=by
 refine⟨?cs,?h⟩;case h=>
  delta BQ;exact uY.mk _
def DX:Z:=⟨⟨HL.1.map Char.toNat⟩⟩
set_option backward.match.sparseCases false in def setC(st:V4)(c:g4):V4:=match st with|.ClassDef a1 a2 a (.Expr (.Constant _ d e) f::r) b1 b2 b g i j k=>.ClassDef a1 a2 a (.Expr (.Constant c d e) f::r) b1 b2 b g i j k|st=>st
theorem Gv:sP Yx 5=setC (sP Yx 5) BQ.1:=by kernel_rfl
theorem Cy:BQ.1=Const.str (WZ (String.ofList HL.1)):=by kernel_rfl
theorem FR:sP Yx 5=setC (sP Yx 5) (.str DX):=by
 have e:BQ.1=Const.str DX:=by rw[Cy,Fast.ofString_ofList];rfl
 conv=>lhs;rw[Gv,e]
end Hd
end
namespace Hd
noncomputable section
abbrev zs(x:T_)(t:U):ZP:=.str (WZ x) t
abbrev zi(x:Zw)(t:U):ZP:=.int x t
abbrev zr(a:U):ZP:=.ref a
abbrev ze(a:O_)(x:T_)(t:U)(b:ZP):DictEntry:=⟨PyData.keyHash a (WZ x),.str (WZ x) t,b⟩
abbrev zq(x:Zc7)(n:U):Data:=.seq ⟨x⟩ n
abbrev zd(d:J DictEntry)(n:U):Data:=.dict ⟨d⟩ n
abbrev zf(x:Zc7):Data:=.fields ⟨x⟩
abbrev zc(nm:Z)(bs m:Zc7)(ns:U)(q:Z)(hd:Y0):ClassData:={name:=nm,bases:=bs,mro:=m,ns:=ns,qualname:=q,hasDict:=hd}
abbrev zg(st:V4)(nm q:Z)(gl:U)(cl:J (Z×U))(d kd dc pm cd c:ZP)(bl:U)(an:Zs U):Data:=.func {name:=nm,qualname:=q,params:=AS st,W9:=.stmts (bI st),X0:=bu st,globals:=gl,closure:=cl,defaults:=d,kwdefaults:=kd,Ww:=dc,pyModule:=pm,annotations:=an,code:=cd,closureTuple:=c,builtins:=bl}
abbrev zo(cl:ZP)(d:Zs U)(a:Data)(s:J (Zs ZP)):OD:=⟨cl,d,a,⟨s⟩⟩
abbrev nn(l:J T_)(t:U):Zc7:=VH (λx k t=>zs x t::k (t+1)) (λO=>[]) t
abbrev tE:OD:=zo Zac none (zq [] 0) []
abbrev fE:OD:=zo .none none (zf []) []
abbrev MX:ZP:=zs "__main__" 164
abbrev kX:ZP:=zs "cpy313.difflib" 194
abbrev EZ:ZP:=zs "law_mt0003_01" 650
abbrev fC(a t:U)(nm q:T_)(ln:Zw)(c:J Zw)(z:U)(m:Zc7):OD:=zo ZaK none (zf ([zs nm t,zs q (t+1),zs "/claim/cut.py" (t+2),zi ln 0]++(c.map (zi . 0)++([zr a,.bool true,zi 181 0,zr (a+1),.none]++(m++[zi (t+3+z:U) 0,zi ln 0,zs "/claim/cut.py" (t+4+z)]))))) []
abbrev gR(st:V4)(nm q:T_):OD:=zo .none none (zg st nm q 0 [] .none .none .none .none .none .none 0 none) []
abbrev gF(a:U)(st:V4)(nm q:T_)(b:ZP)(d:U)(m:ZP):OD:=zo Zap none (zg st nm q 3 [] b .none (U3 (m1 d 0) .none (.str (dP st) d)) m (zr a) .none 0 none) []
def fG(a t:U)(st:V4)(nm q:T_)(ln:Zw)(c:J Zw)(ns:J T_)(d:ZP)(b:U)(m:ZP):J OD:=[tE,fE,zo Zac none (zq (nn ns (t+3)) 0) [],tE,gR st nm q,fC a t nm q ln c ns.length [zr (a+2),zr (a+3),zr (a+4)],gF (a+5) st nm q d b m]
def fH(a t:U)(st:V4)(nm q:T_)(ln:Zw)(c:J Zw)(d:ZP)(b:U)(m:ZP):J OD:=[tE,fE,gR st nm q,fC a t nm q ln c 0 [.none,.none,zr (a+2)],gF (a+3) st nm q d b m]
def mD(a:O_)(b:ZP)(n:U):OD:=zo Zaf none (zd (List.take n [ze a "__name__" 165 b,ze a "__doc__" 166 .none,ze a "__package__" 167 .none,ze a "__loader__" 168 (.builtin "__main__.__loader__#opaque"),ze a "__spec__" 169 .none,ze a "__annotations__" 170 (zr 6),ze a "__builtins__" 171 (zr 4),ze a "__file__" 173 (zs "/claim/cut.py" 172),ze a "__cached__" 174 .none,ze a "_wall" 193 (zr 21),ze a "_tuplegetter" 252 (zr 60),ze a "Match" 380 (zr 135),ze a "_calculate_ratio" 388 (zr 145),ze a "SequenceMatcher" 591 (zr 242),ze a "_format_range_context" 602 (zr 253),ze a "context_diff" 639 (zr 261),ze a "_check_types" 649 (zr 268),ze a "_law_line" 661 (zr 275),ze a "_law_far" 673 (zr 282),ze a "_law_range" 681 (zr 289),ze a "_law_half" 687 (zr 294),ze a "_law_context" 693 (zr 299),ze a "_law_read" 699 (zr 304),ze a "law" 705 (zr 309)]) n) []
def mC(n:U):OD:=zo .none none (zf ((List.take n ([(1,20),(5,27),(23,71),(66,144),(70,151),(504,252),(513,260),(581,267),(590,274),(597,281),(604,288),(606,293),(617,298),(635,303),(665,308)]:J (Zw×U))).flatMap λp=>[zi p.1 0,zi 0 0,zr p.2])) []
def Fh(Q:VW)(a:O_):J OD:=List.flatten [[boot_o_0 a,boot_o_1 a,boot_o_2 a,mD a EZ 24,boot_o_4 a,boot_o_5 a,boot_o_6 a,boot_o_7 a,boot_o_8 a,boot_o_9 a,boot_o_10 a,tE,mC 15,zo ZaK none (zf [zs "<module>" 182,zs "<module>" 183,zs "/claim/cut.py" 184,zi 1 0,zi 0 0,zi 0 0,zi 0 0,zi 0 0,zr 11,.bool false,zi 181 0,zr 12,.none,.none,.none,.none,zi 185 0,zi 1 0,zs "/claim/cut.py" 186]) [],zo Za6 none (.plain) [some (zr 13),some (zr 3),some (zr 3),none,some (zs "__main__" 164),none,some (zr 0)]],fG 15 187 (sP Q 0) "_wall" "_wall" 1 [1,0,0,3] ["k"] .none 0 MX,[tE,zo Zam none (zf [Zcp,Zas]) [],zo Zaf none (zd [ze a "__module__" 203 (zs "cpy313.difflib" 194),ze a "__qualname__" 205 (zs "_tuplegetter" 204),ze a "__firstlineno__" 207 (zi 5 206),ze a "__init__" 216 (zr 35),ze a "__get__" 225 (zr 43),ze a "__set__" 234 (zr 50),ze a "__delete__" 242 (zr 57),ze a "__static_attributes__" 245 (zr 58)] 8) [],tE,zo .none none (zf [zi 7 0,zi 4 0,zr 34,zi 11 0,zi 4 0,zr 42,zi 18 0,zi 4 0,zr 49,zi 21 0,zi 4 0,zr 56]) [],zo ZaK none (zf [zs "_tuplegetter" 198,zs "_tuplegetter" 199,zs "/claim/cut.py" 200,zi 5 0,zi 0 0,zi 0 0,zi 0 0,zi 0 0,zr 25,.bool false,zi 181 0,zr 26,.none,.none,.none,.none,zi 201 0,zi 5 0,zs "/claim/cut.py" 202]) [],zo Za6 none (.plain) [some (zr 27),some (zr 3),some (zr 24),none,some (zs "cpy313.difflib" 194),none,some (zr 0)]],fG 29 208 (mP Q 2 0) "__init__" "_tuplegetter.__init__" 7 [3,0,0,3] ["self","index","doc"] .none 0 kX,[zo Zac none (zq [.none] 0) []],fG 37 217 (mP Q 2 1) "__get__" "_tuplegetter.__get__" 11 [3,0,0,3] ["self","obj","objtype"] (zr 36) 0 kX,fG 44 226 (mP Q 2 2) "__set__" "_tuplegetter.__set__" 18 [3,0,0,3] ["self","obj","value"] .none 0 kX,fG 51 235 (mP Q 2 3) "__delete__" "_tuplegetter.__delete__" 21 [2,0,0,3] ["self","obj"] .none 0 kX,[zo Zac none (zq [zs "__doc__" 243,zs "index" 244] 0) [],zo Zaf none (zd [ze a "__module__" 203 (zs "cpy313.difflib" 194),ze a "__firstlineno__" 207 (zi 5 206),ze a "__init__" 216 (zr 35),ze a "__get__" 225 (zr 43),ze a "__set__" 234 (zr 50),ze a "__delete__" 242 (zr 57),ze a "__static_attributes__" 245 (zr 58),ze a "__dict__" 247 (zr 61),ze a "__weakref__" 249 (zr 62),ze a "__doc__" 250 .none] 4) [],zo Zas none (.cls (zc "_tuplegetter" [Zaj] [zr 60,Zaj] 59 "_tuplegetter" true)) [none,none,some (zs "_tuplegetter" 196),some (zs "_tuplegetter" 204),some (.builtin "object.__new__"),some (.bool true)],zo Zbk none (zf [zs "__dict__" 246,zr 60,.builtin "function.__dict__",.builtin "function.__dict__#set"]) [],zo Zbk none (zf [zs "__weakref__" 248,zr 60,.builtin "ExceptionGroup.__weakref__",.none]) [],zo (.type "super") none (zf [zr 60,zr 60,zr 60]) [],zo Zam none (zf [ZbC,zr 60]) [],zo Zac none (zq [Zac] 0) [],zo Zam none (zf [Zcp,Zas]) [],zo Zaf none (zd [ze a "__module__" 260 (zs "cpy313.difflib" 194),ze a "__qualname__" 262 (zs "Match" 261),ze a "__firstlineno__" 264 (zi 23 263),ze a "__doc__" 266 (zs "Match(a, b, size)" 265),ze a "__slots__" 268 (zr 73),ze a "_fields" 272 (zr 74),ze a "_field_defaults" 273 (zr 75),ze a "__new__" 284 (zr 82),ze a "_make" 306 (zr 91),ze a "_replace" 317 (zr 100),ze a "__replace__" 318 (zr 100),ze a "__repr__" 326 (zr 107),ze a "_asdict" 333 (zr 114),ze a "__getnewargs__" 341 (zr 121),ze a "__match_args__" 345 (zr 122),ze a "a" 355 (zr 124),ze a "b" 365 (zr 127),ze a "size" 375 (zr 130),ze a "__static_attributes__" 376 (zr 132),ze a "__classcell__" 377 (zr 68)] 20) [],zo (.type "cell") none (.cell (some (zr 135))) [],tE,zo .none none (zf [zi 29 0,zi 4 0,zr 81,zi 34 0,zi 4 0,zr 88,zi 41 0,zi 4 0,zr 99,zi 52 0,zi 4 0,zr 106,zi 56 0,zi 4 0,zr 113,zi 59 0,zi 4 0,zr 120]) [],zo ZaK none (zf [zs "Match" 255,zs "Match" 256,zs "/claim/cut.py" 257,zi 23 0,zi 0 0,zi 0 0,zi 0 0,zi 0 0,zr 69,.bool false,zi 181 0,zr 70,.none,.none,.none,.none,zi 258 0,zi 23 0,zs "/claim/cut.py" 259]) [],zo Za6 none (.plain) [some (zr 71),some (zr 3),some (zr 67),none,some (zs "cpy313.difflib" 194),none,some (zr 0)],tE,zo Zac none (zq [zs "a" 269,zs "b" 270,zs "size" 271] 0) [],zo Zaf none (zd [] 0) []],fG 76 274 (mP Q 3 4) "__new__" "Match.__new__" 29 [4,0,0,3] ["_cls","a","b","size"] .none 283 kX,[tE,fE,zo Zac none (zq [zs "cls" 288,zs "iterable" 289,zs "result" 290] 0) [],tE,zo .none none (zg (mP Q 3 5) "_make" "Match._make" 0 [] .none .none .none .none .none .none 0 none) [],zo ZaK none (zf [zs "_make" 285,zs "Match._make" 286,zs "/claim/cut.py" 287,zi 33 0,zi 2 0,zi 0 0,zi 0 0,zi 3 0,zr 83,.bool true,zi 181 0,zr 84,.none,zr 85,zr 86,zr 87,zi 291 0,zi 33 0,zs "/claim/cut.py" 292]) [],zo Zap none (zg (mP Q 3 5) "_make" "Match._make" 3 [] .none .none (.str (dP (mP Q 3 5)) 293) (zs "cpy313.difflib" 194) (zr 88) .none 0 (some 92)) [],zo Zaf none (zd [ze a "__module__" 295 (zs "cpy313.difflib" 194),ze a "__name__" 298 (zs "_make" 297),ze a "__qualname__" 301 (zs "Match._make" 300),ze a "__doc__" 303 (.str (dP (mP Q 3 5)) 293),ze a "__annotations__" 305 (zr 92)] 5) [],zo (.type "classmethod") (some 90) (zf [zr 89,.bool false]) [],zo Zaf none (zd [] 0) [],zo Zac none (zq [zr 68] 0) [],zo Zac none (zq [zs "__class__" 310] 0) [],fE,zo Zac none (zq [zs "self" 311,zs "kwds" 312,zs "result" 313] 0) [],tE,zo .none none (zg (mP Q 3 6) "_replace" "Match._replace" 0 [] .none .none .none .none .none .none 0 none) [],zo ZaK none (zf [zs "_replace" 307,zs "Match._replace" 308,zs "/claim/cut.py" 309,zi 41 0,zi 1 0,zi 1 0,zi 0 0,zi 11 0,zr 94,.bool true,zi 181 0,zr 95,.none,zr 96,zr 97,zr 98,zi 314 0,zi 41 0,zs "/claim/cut.py" 315]) [],zo Zap none (zg (mP Q 3 6) "_replace" "Match._replace" 3 [("__class__",68)] .none .none (.str (dP (mP Q 3 6)) 316) (zs "cpy313.difflib" 194) (zr 99) (zr 93) 0 none) []],fG 101 319 (mP Q 3 8) "__repr__" "Match.__repr__" 52 [1,0,0,3] ["self"] .none 325 kX,fG 108 327 (mP Q 3 9) "_asdict" "Match._asdict" 56 [1,0,0,3] ["self"] .none 0 kX,fG 115 334 (mP Q 3 10) "__getnewargs__" "Match.__getnewargs__" 59 [1,0,0,3] ["self"] .none 340 kX,[zo Zac none (zq [zs "a" 342,zs "b" 343,zs "size" 344] 0) [],zo Zaf none (zd [ze a "index" 352 (zi 0 346),ze a "__doc__" 354 (zs "Alias for field number 0" 347)] 2) [],zo (zr 60) (some 123) (.plain) [],zo Za6 none (zd [ze a "self" 348 (zr 124),ze a "index" 349 (zi 0 346),ze a "doc" 350 (zs "Alias for field number 0" 347)] 3) [],zo Zaf none (zd [ze a "index" 362 (zi 1 356),ze a "__doc__" 364 (zs "Alias for field number 1" 357)] 2) [],zo (zr 60) (some 126) (.plain) [],zo Za6 none (zd [ze a "self" 358 (zr 127),ze a "index" 359 (zi 1 356),ze a "doc" 360 (zs "Alias for field number 1" 357)] 3) [],zo Zaf none (zd [ze a "index" 372 (zi 2 366),ze a "__doc__" 374 (zs "Alias for field number 2" 367)] 2) [],zo (zr 60) (some 129) (.plain) [],zo Za6 none (zd [ze a "self" 368 (zr 130),ze a "index" 369 (zi 2 366),ze a "doc" 370 (zs "Alias for field number 2" 367)] 3) [],tE,zo Zae none (zq [] 0) [],zo Zaf none (zd [ze a "__module__" 260 (zs "cpy313.difflib" 194),ze a "__firstlineno__" 264 (zi 23 263),ze a "__doc__" 266 (zs "Match(a, b, size)" 265),ze a "__slots__" 268 (zr 73),ze a "_fields" 272 (zr 74),ze a "_field_defaults" 273 (zr 75),ze a "__new__" 284 (zr 136),ze a "_make" 306 (zr 91),ze a "_replace" 317 (zr 100),ze a "__replace__" 318 (zr 100),ze a "__repr__" 326 (zr 107),ze a "_asdict" 333 (zr 114),ze a "__getnewargs__" 341 (zr 121),ze a "__match_args__" 345 (zr 122),ze a "a" 355 (zr 124),ze a "b" 365 (zr 127),ze a "size" 375 (zr 130),ze a "__static_attributes__" 376 (zr 132)] 2) [],zo Zas none (.cls (zc "Match" [Zac] [zr 135,Zac,Zaj] 134 "Match" false)) [some (zr 65),none,some (zs "Match" 253),some (zs "Match" 261),some .none,some (.bool false)],zo (.type "staticmethod") none (zf [zr 82]) [],zo (.type "super") none (zf [zr 135,zr 135,zr 135]) [],zo Zam none (zf [ZbC,zr 135]) []],fG 139 381 (sP Q 4) "_calculate_ratio" "_calculate_ratio" 66 [2,0,0,3] ["matches","length"] .none 0 kX,[tE,zo Zam none (zf [Zcp,Zas]) [],zo Zaf none (zd [ze a "__module__" 396 (zs "cpy313.difflib" 194),ze a "__qualname__" 398 (zs "SequenceMatcher" 397),ze a "__firstlineno__" 400 (zi 70 399),ze a "__doc__" 402 (.str DX 401),ze a "__init__" 417 (zr 160),ze a "set_seqs" 427 (zr 167),ze a "set_seq1" 436 (zr 174),ze a "set_seq2" 445 (zr 181),ze a "_SequenceMatcher__chain_b" 463 (zr 188),ze a "find_longest_match" 491 (zr 196),ze a "get_matching_blocks" 518 (zr 203),ze a "get_opcodes" 533 (zr 210),ze a "get_grouped_opcodes" 551 (zr 218),ze a "ratio" 560 (zr 225),ze a "quick_ratio" 567 (zr 232),ze a "real_quick_ratio" 574 (zr 239),ze a "__static_attributes__" 585 (zr 240)] 17) [],tE,zo .none none (zf [zi 145 0,zi 4 0,zr 159,zi 173 0,zi 4 0,zr 166,zi 184 0,zi 4 0,zr 173,zi 209 0,zi 4 0,zr 180,zi 236 0,zi 4 0,zr 187,zi 260 0,zi 4 0,zr 195,zi 335 0,zi 4 0,zr 202,zi 383 0,zi 4 0,zr 209,zi 430 0,zi 4 0,zr 217,zi 475 0,zi 4 0,zr 224,zi 499 0,zi 4 0,zr 231,zi 502 0,zi 4 0,zr 238]) [],zo ZaK none (zf [zs "SequenceMatcher" 391,zs "SequenceMatcher" 392,zs "/claim/cut.py" 393,zi 70 0,zi 0 0,zi 0 0,zi 0 0,zi 0 0,zr 149,.bool false,zi 181 0,zr 150,.none,.none,.none,.none,zi 394 0,zi 70 0,zs "/claim/cut.py" 395]) [],zo Za6 none (.plain) [some (zr 151),some (zr 3),some (zr 148),none,some (zs "cpy313.difflib" 194),none,some (zr 0)],zo Zac none (zq [.none,zs "" 404,zs "" 405,.bool true] 0) []],fG 154 406 (mP Q 5 1) "__init__" "SequenceMatcher.__init__" 145 [5,0,0,3] ["self","isjunk","a","b","autojunk"] (zr 153) 416 kX,fG 161 418 (mP Q 5 2) "set_seqs" "SequenceMatcher.set_seqs" 173 [3,0,0,3] ["self","a","b"] .none 426 kX,fG 168 428 (mP Q 5 3) "set_seq1" "SequenceMatcher.set_seq1" 184 [2,0,0,3] ["self","a"] .none 435 kX,fG 175 437 (mP Q 5 4) "set_seq2" "SequenceMatcher.set_seq2" 209 [2,0,0,3] ["self","b"] .none 444 kX,fG 182 446 (mP Q 5 5) "__chain_b" "SequenceMatcher.__chain_b" 236 [1,0,0,3] ["self","b","b2j","i","elt","indices","junk","isjunk","popular","n","ntest","idxs"] .none 0 kX,[zo Zac none (zq [zi 0 464,.none,zi 0 465,.none] 0) []],fG 190 466 (mP Q 5 6) "find_longest_match" "SequenceMatcher.find_longest_match" 260 [5,0,0,3] ["self","alo","ahi","blo","bhi","a","b","b2j","isbjunk","besti","bestj","bestsize","j2len","nothing","i","j2lenget","newj2len","j","k"] (zr 189) 490 kX,fG 197 492 (mP Q 5 7) "get_matching_blocks" "SequenceMatcher.get_matching_blocks" 335 [1,0,0,3] ["self","la","lb","queue","matching_blocks","alo","ahi","blo","bhi","i","j","k","x","i1","j1","k1","non_adjacent","i2","j2","k2"] .none 517 kX,fG 204 519 (mP Q 5 8) "get_opcodes" "SequenceMatcher.get_opcodes" 383 [1,0,0,3] ["self","i","j","answer","ai","bj","size","tag"] .none 532 kX,[zo Zac none (zq [zi 3 534] 0) []],fG 212 535 (mP Q 5 9) "get_grouped_opcodes" "SequenceMatcher.get_grouped_opcodes" 430 [2,0,0,35] ["self","n","codes","tag","i1","i2","j1","j2","nn","group"] (zr 211) 550 kX,fG 219 552 (mP Q 5 10) "ratio" "SequenceMatcher.ratio" 475 [1,0,0,3] ["self","matches"] .none 559 kX,fG 226 561 (mP Q 5 11) "quick_ratio" "SequenceMatcher.quick_ratio" 499 [1,0,0,3] ["self"] .none 0 kX,fG 233 568 (mP Q 5 12) "real_quick_ratio" "SequenceMatcher.real_quick_ratio" 502 [1,0,0,3] ["self"] .none 0 kX,[zo Zac none (zq [zs "a" 575,zs "autojunk" 576,zs "b" 577,zs "b2j" 578,zs "bjunk" 579,zs "bpopular" 580,zs "fullbcount" 581,zs "isjunk" 582,zs "matching_blocks" 583,zs "opcodes" 584] 0) [],zo Zaf none (zd [ze a "__module__" 396 (zs "cpy313.difflib" 194),ze a "__firstlineno__" 400 (zi 70 399),ze a "__doc__" 402 (.str DX 401),ze a "__init__" 417 (zr 160),ze a "set_seqs" 427 (zr 167),ze a "set_seq1" 436 (zr 174),ze a "set_seq2" 445 (zr 181),ze a "_SequenceMatcher__chain_b" 463 (zr 188),ze a "find_longest_match" 491 (zr 196),ze a "get_matching_blocks" 518 (zr 203),ze a "get_opcodes" 533 (zr 210),ze a "get_grouped_opcodes" 551 (zr 218),ze a "ratio" 560 (zr 225),ze a "quick_ratio" 567 (zr 232),ze a "real_quick_ratio" 574 (zr 239),ze a "__static_attributes__" 585 (zr 240),ze a "__dict__" 587 (zr 243),ze a "__weakref__" 589 (zr 244)] 3) [],zo Zas none (.cls (zc "SequenceMatcher" [Zaj] [zr 242,Zaj] 241 "SequenceMatcher" true)) [none,none,some (zs "SequenceMatcher" 389),some (zs "SequenceMatcher" 397),some (.builtin "object.__new__"),some (.bool true)],zo Zbk none (zf [zs "__dict__" 586,zr 242,.builtin "function.__dict__",.builtin "function.__dict__#set"]) [],zo Zbk none (zf [zs "__weakref__" 588,zr 242,.builtin "ExceptionGroup.__weakref__",.none]) [],zo (.type "super") none (zf [zr 242,zr 242,zr 242]) [],zo Zam none (zf [ZbC,zr 242]) []],fG 247 592 (sP Q 6) "_format_range_context" "_format_range_context" 504 [2,0,0,3] ["start","stop","beginning","length"] .none 601 kX,[zo Zac none (zq [zs "" 603,zs "" 604,zs "" 605,zs "" 606,zi 3 607,zs "\n" 608] 0) []],fG 255 609 (sP Q 7) "context_diff" "context_diff" 513 [8,0,0,35] ["a","b","fromfile","tofile","fromfiledate","tofiledate","n","lineterm","prefix","started","group","fromdate","todate","first","last","file1_range","tag","i1","i2","_","line","file2_range","j1","j2"] (zr 254) 638 kX,fG 262 640 (sP Q 8) "_check_types" "_check_types" 581 [2,0,0,7] ["a","b","args","arg"] .none 0 kX,fG 269 652 (sP Q 10) "_law_line" "_law_line" 590 [1,0,0,3] ["z","signs","sign","code"] .none 0 EZ,fG 276 662 (sP Q 11) "_law_far" "_law_far" 597 [2,0,0,3] ["rows","n","told","far","sign","line"] .none 0 EZ,fG 283 674 (sP Q 12) "_law_range" "_law_range" 604 [2,0,0,3] ["start","size"] .none 0 EZ,fH 290 682 (sP Q 13) "_law_half" "_law_half" 606 [3,0,0,3] .none 0 EZ,fH 295 688 (sP Q 14) "_law_context" "_law_context" 617 [2,0,0,3] .none 0 EZ,fH 300 694 (sP Q 15) "_law_read" "_law_read" 635 [2,0,0,3] .none 0 EZ,fH 305 700 (sP Q 16) "law" "law" 665 [1,0,0,3] .none 0 EZ]
def ob(k:U)(Q:VW)(a:O_):OD:=(Fh Q a).getD k (zo .none none (zf []) [])
def pt(ps:J (U×OD))(Q:VW)(a:O_)(k:U):OD:=(ps.lookup k).getD (ob k Q a)
def tt(n:U)(g:U->OD)(m:U):U->U->BT:=Ol (motive:=λ_=>U->U->BT) (λ_ _=>.nil) (λ_ r i d=>U3 (Nat.blt i n) (.node (g i) (r (i+d) (2*d)) (r (i+2*d) (2*d))) .nil) m
def Lc(Q:VW)(a:O_):J OD:=(Zi 15).map (pt [(3,boot_o_3 a),(12,zo .none none (zf []) [])] Q a)
def Tc(Q:VW)(a:O_):BT:=tt 15 (pt [(3,boot_o_3 a),(12,zo .none none (zf []) [])] Q a) 10 0 1
def Ma(Q:VW)(a:O_):BT:=tt 65 (pt [(3,mD a kX 11),(12,mC 2)] Q a) 10 0 1
def Mk(Q:VW)(a:O_):BT:=tt 139 (pt [(3,mD a kX 12),(12,mC 3)] Q a) 10 0 1
def MD(Q:VW)(a:O_):BT:=tt 146 (pt [(3,mD a kX 13),(12,mC 4)] Q a) 10 0 1
def Mj(Q:VW)(a:O_):BT:=tt 247 (pt [(3,mD a kX 14),(12,mC 5)] Q a) 10 0 1
def IJ(Q:VW)(a:O_):BT:=tt 310 (pt [] Q a) 10 0 1
end
end Hd
section
open PySem.Calls
namespace Hd
def ev(Q:VW):SM:={X0:=Q.main.scope,locals:=mainNs,globals:=mainNs,cells:=[],code:=.ref 13,frame:=some 14}
def p0:iv:={og:=0,col:=0,di:=0,endCol:=0}
def bP(Q:VW):J V4:=behindTheImports Q
def cE(Q:VW):Code:=.body (bP Q) (ev Q)
def fB:J Frame:=[topFrame p0]
def lP(Q:VW)(i n:U):J V4:=((bP Q).drop i).take n
def sT(T:VW->O_->BT)(n:U)(Q:VW)(k:U)(w:Tw)(os:VX):SharedT:=⟨T Q V5,n,{},⟨[]⟩,{},k,os⟩
def an:Zs ZP:=some (.ref 6)
def t1(Q:VW)(l:J V4)(p:iv):Thread:=⟨(Yj l (ev Q)).wrap doneF deadEnd id id,cE Q,p,fB⟩
def q2:iv:={og:=5,col:=0,di:=22,endCol:=54}
def q3:iv:={og:=23,col:=0,di:=65,endCol:=54}
def q4:iv:={og:=66,col:=0,di:=69,endCol:=14}
def q5:iv:={og:=70,col:=0,di:=503,endCol:=16}
def Mi:iv:={og:=665,col:=0,di:=696,endCol:=29}
theorem Lu(w:Tw)(os:VX):segRunT Uh Yx w 11 an 1 362 (sT Tc 15 Yx 187 w os) (t1 Yx (lP Yx 0 3) p0)=some (.next,sT Ma 65 Yx 253 w os,cE Yx,q2):=by
 rw[ox,Vk];unfold t1;rw[Vj];kernel_rfl
theorem KX(w:Tw)(os:VX):segRunT Uh Yx w 11 an 1 1047 (sT Ma 65 Yx 253 w os) (t1 Yx (lP Yx 3 1) q2)=some (.next,sT Mk 139 Yx 381 w os,cE Yx,q3):=by
 rw[ox,Vk];unfold t1;rw[Vj];kernel_rfl
theorem JU(w:Tw)(os:VX):segRunT Uh Yx w 11 an 1 31 (sT Mk 139 Yx 381 w os) (t1 Yx (lP Yx 4 1) q3)=some (.next,sT MD 146 Yx 389 w os,cE Yx,q4):=by
 rw[ox,Vk];unfold t1;rw[Vj];kernel_rfl
theorem KQ(w:Tw)(os:VX):segRunT Uh Yx w 11 an 1 666 (sT MD 146 Yx 389 w os) (t1 Yx [setC (sP Yx 5) (.str DX)] q4)=some (.next,sT Mj 247 Yx 592 w os,cE Yx,q5):=by
 rw[ox,Vk];unfold t1;rw[Vj];kernel_rfl
theorem JX(w:Tw)(os:VX):segRunT Uh Yx w 11 an 1 335 (sT Mj 247 Yx 592 w os) (t1 Yx (lP Yx 6 11) q5)=some (.next,sT IJ 310 Yx 706 w os,cE Yx,Mi):=by
 rw[ox,Vk];unfold t1;rw[Vj];kernel_rfl
end Hd
end
section
open PySem.Calls
namespace Hd
def Ha(a:O_):D':=⟨⟨Lc Yx a⟩,{}⟩
def H1(a:O_):D':=⟨⟨Fh Yx a⟩,{}⟩
theorem pre(w:Tw)(os:VX):topGo Uh Yx w 11 an 12 ⟨L' V5,⟨[]⟩,boot_drawn,boot_toks,os⟩ (topStub Yx)=some (⟨Ha V5,⟨[]⟩,{},187,os⟩,⟨denote Uh (cE Yx),cE Yx,p0,fB⟩):=by
 rw[ox,Fast.te15667345088766844465,Fast.te11892475500146522536];kernel_rfl
theorem block(w:Tw)(os:VX):segRun Uh Yx w 11 an 1 1 ⟨Ha V5,⟨[]⟩,{},187,os⟩ (blockOf (bP Yx) (ev Yx) (cE Yx) p0 fB)=some (.next,(sT Tc 15 Yx 187 w os).abs,cE Yx,p0):=by kernel_rfl
theorem Ue(w:Tw)(os:VX):topRun Uh Yx w 11 an 2 (sT IJ 310 Yx 706 w os).abs ⟨doneF .next,cE Yx,Mi,fB⟩=some ⟨H1 V5,⟨[]⟩,{},706,os⟩:=by
 rw[ox,Fast.te14082659384304107361];kernel_rfl
theorem DY:bP Yx=lP Yx 0 3++(lP Yx 3 1++(lP Yx 4 1++([setC (sP Yx 5) (.str DX)]++(lP Yx 6 11++[])))):=by
 rw[<-FR];kernel_rfl
theorem Us(w:Tw)(os:VX):topRun Uh Yx w 11 an (12+(1+(362+(1047+(31+(666+(335+2))))))) ⟨L' V5,⟨[]⟩,boot_drawn,boot_toks,os⟩ (topStub Yx)=some ⟨H1 V5,⟨[]⟩,{},706,os⟩:=by
 refine go_top (pre w os) ?_;refine piece_block (block w os) ?_;have k:topRun Uh Yx w 11 an (362+(1047+(31+(666+(335+2))))) (sT Tc 15 Yx 187 w os).abs (restOf (lP Yx 0 3++(lP Yx 3 1++(lP Yx 4 1++([setC (sP Yx 5) (.str DX)]++(lP Yx 6 11++[]))))) (ev Yx) (cE Yx) p0 [topFrame p0])=some ⟨H1 V5,⟨[]⟩,{},706,os⟩:=by
  refine hi (hc (Lu w os)) ?_;refine hi (hc (KX w os)) ?_;refine hi (hc (JU w os)) ?_;refine hi (hc (KQ w os)) ?_;refine hi (hc (JX w os)) ?_;exact piece_nil (Ue w os)
 rw[<-DY]at k;exact k
theorem opened(w:Tw):(fencedOpening Uh Yx w 5000).map (λs=>(Tv,s.gens,s.drawn,Uu))=some (L' V5,⟨[]⟩,boot_drawn,boot_toks):=boot_open Z_ Z_ (λs=>by kernel_rfl!) w
theorem size(w:Tw):((L' V5).isNs W2&&(⟨[]⟩:Ud Vb).size==0,(L' V5).objs.size,(L' V5).nsMap W2 "__annotations__")=(true,11,an):=by kernel_rfl!
end Hd
end
section
open PySem.Calls
namespace Hd
def qv:VW:={Yx with main:={prog.main with W9:=prog.main.body.drop 16}}
def lo:J Z:=["_wall","_tuplegetter","Match","_calculate_ratio","SequenceMatcher","_format_range_context","context_diff","_check_types","_law_line","_law_far","_law_range","_law_half","_law_context","_law_read"]
def fS(w:Tw)(os:VX):Za:=⟨H1 V5,⟨[]⟩,{},706,os⟩
theorem im:importedModules prog.main.body=[]:=by kernel_rfl
theorem Ik(w:Tw):staticsOk [] (L' V5) (H1 V5)=true:=by kernel_rfl
theorem Hs(w:Tw):namesBound Yx (H1 V5)=true:=by kernel_rfl
theorem HE(w:Tw)(os:VX):gensDone (fS w os)=true:=by kernel_rfl
theorem Jr(w:Tw):laidKept (L' V5) (H1 V5)=true:=by kernel_rfl
abbrev Xt:Za->Y0:=λO=>true
theorem Iu(w:Tw)(os:VX):openSeen qv lo [] Xt true (fS w os)=openGood qv lo:=by
 rw[Fast.te4187177175401517315];kernel_rfl
end Hd
end
section
open PySem.Calls
namespace Hd
def oF(o:OD):C':=match L3 with|.func f=>f|_=>default
def Jn(o:OD):Zs Z:=match L3 with|.fields a=>(match(a[1]?:Zs ZP)with|some (ri x _)=>some x|_=>none)|_=>none
structure Hy(w:Tw)(h:D')(mg mb:Z->Zs ZP):Prop where
 at_:∀a o,(H1 V5).get? a=Zai->Vq a=some o
 g:h.Ns W2 mg
 b:h.Ns We mb
 nl:h.NoLimit
 bt:∀x:Z,x≠"__name__"->mb x=bootBuiltins x
abbrev Xc(w:Tw)(h:D')(os:VX):Cx:=⟨w,h,os,Yx,256⟩
variable{N9:Z->Zs ZP}
theorem Hy.ns(a:Zav)(e:(H1 Zf).isNs j=true):NH.Ns j ((H1 Zf).nsMap j):=(Heap.Ns.of_isNs e).keeps rx
theorem Hy.Jb(a:Zav):NK=(H1 Zf).nsMap W2:=by
 have k:=a.ns (j:=W2) Z9;rw[a.g.eq_nsMap,k.eq_nsMap]
theorem Hy.FX(i:Zav)(h1:(H1 Zf).get? j=Zao)(h2:Jn c=some N):NH.CodeRec (.ref j) N:=by
 obtain⟨cl,k,d⟩:=c;cases d with
 |fields f=>
  have e:∀a:Zs ZP,f[1]?=a->(match a with|some (ri x _)=>some x|_=>none)=some N->∃t,a=some (.str N t):=λa O e=>by cases a with
   |none=>cases e|some a=>cases a with|str x t=>cases e;exact⟨_,rfl⟩|_=>cases e
  obtain⟨t,ht⟩:=e _ rfl h2;exact⟨j,_,f,t,rfl,i.at_ _ _ h1,rfl,ht⟩|_=>cases h2
variable{Pz:VX}
theorem Hy.fn(a:Zav)(h1:(H1 Zf).get? j=some N3)(h2:N3={Uc:=Zap,Xg:=.func (t6 Nw (oF N3).pyModule (.ref p) (oF N3).doc d k)})(c:(H1 Zf).get? p=Za8)(i:Jn f=some (v_ Nw))(n1:j≠256)(n:p≠256):hT (Xc Nf NH Pz) j Nw (oF N3).pyModule (.ref p) (oF N3).doc d k:=⟨by rw[<-h2];exact rx _ _ h1,n1,a.FX c i,λe=>n (Value.ref.inj e)⟩
theorem Hy.mt(a:Zav)(h1:(H1 Zf).get? j=some N3)(h2:N3={Uc:=Zap,Xg:=.func (xf q Nw (oF N3).pyModule (.ref p) (oF N3).doc d k)})(c:(H1 Zf).get? p=Za8)(i:Jn f=some q)(n1:j≠256)(n:p≠256):vo (Xc Nf NH Pz) j q Nw (oF N3).pyModule (.ref p) (oF N3).doc d k:=⟨by rw[<-h2];exact rx _ _ h1,n1,a.FX c i,λe=>n (Value.ref.inj e)⟩
abbrev Hy.bs(a:Zav)(os:VX):V3 (Xc Nf NH os):=⟨NK,N9,a.g,a.b,a.nl,by show(3:U)≠256;decide,by show(0:U)≠256;decide,by show(2:U)≠256;decide⟩
theorem Hy.gl(a:Zav)(e:(H1 Zf).nsMap W2 x=c):NK x=c:=by rw[a.Jb];exact e
theorem Hy.two(a:Zav)(e:(H1 Zf).nsMap W2 x=none)(n:x≠"__name__")(e2:bootBuiltins x=Zao):(a.bs Pz).mg x=none/\(a.bs Pz).mb x=Zao:=⟨a.gl e,(a.bt x n).trans e2⟩
set_option tactic.hygienic true in theorem Hy.xO(a:Hy Nf NH NK N9):RX (a.bs Pz):=by
 intro f c e;unfold wu at e;split at e;.rename_i k;cases e;subst k;exact H4 Z9 (by rw[Ne,ay];decide) Z9
 split at e;.rename_i k;cases e;subst k;exact H4 Z9 (by rw[Ne,ay];decide) Z9
 split at e;.rename_i k;cases e;subst k;exact H4 Z9 (by rw[Ne,ay];decide) Z9
 split at e;.rename_i k;cases e;subst k;exact H4 Z9 (by rw[Ne,ay];decide) Z9
 split at e;.rename_i k;cases e;subst k;exact H4 Z9 (by rw[Ne,ay];decide) Z9
 split at e;.rename_i k;cases e;subst k;exact H4 Z9 (by rw[Ne,ay];decide) Z9
 split at e;.rename_i k;cases e;subst k;exact H4 Z9 (by rw[Ne,ay];decide) Z9
 .cases e
def Hy.gd(a:Zav)(os:VX)(k fa c:U)(o e:OD)(d:ZP)(h1:(H1 Zf).get? fa=Zai)(h2:o={Uc:=Zap,Xg:=.func (t6 (cy k) (oF o).pyModule Zc1 (oF o).doc d .none)})(f:(H1 Zf).get? c=Zb6)(i:Jn e=some (v_ (cy k)))(n1:fa≠256)(n:c≠256)(j:(H1 Zf).nsMap W2 (v_ (cy k))=some ZaA):ly (Xc Nf NH os) (a.bs os) k d .none:={fa:=fa,pm:=(oF o).pyModule,cd:=Zc1,Ww:=(oF o).doc,fn:=a.fn h1 h2 f i n1 n,gl:=a.gl j}
theorem Hy.LX(a:Zav)(os:VX):i2 (c6 (Xc Nf NH os) (a.bs os)):=⟨
  { og:=a.gd os 10 275 274 (ob 275 Yx Zf) (ob 274 Yx Zf) .none Z9 Z9 Z9 Z9 Z' Z' Z9
    Ep:=a.gd os 11 282 281 (ob 282 Yx Zf) (ob 281 Yx Zf) .none Z9 Z9 Z9 Z9 Z' Z' Z9
    range:=a.gd os 12 289 288 (ob 289 Yx Zf) (ob 288 Yx Zf) .none Z9 Z9 Z9 Z9 Z' Z' Z9
    half:=a.gd os 13 294 293 (ob 294 Yx Zf) (ob 293 Yx Zf) .none Z9 Z9 Z9 Z9 Z' Z' Z9
    AZ:=H4 Z9 (by rw[Ne,ay];decide) Z9}⟩
end Hd
end
section
open PySem.Calls
namespace Hd
variable{N9:Z->Zs ZP}
def Hy.DZ(e:Zav)(os:VX)(nm q:Z)(st:V4)(d:ZP)(fa c:U)(o a:OD)(i:(H1 Zf).nsMap 241 nm=some ZaA)(h1:(H1 Zf).get? fa=Zai)(h2:o={Uc:=Zap,Xg:=.func (xf q st (oF o).pyModule Zc1 (oF o).doc d .none)})(j:(H1 Zf).get? c=Zax)(k:Jn a=some q)(n1:fa≠256)(n:c≠256):il st q nm d ((H1 Zf).nsMap 241) (Xc Nf NH os):={f:=fa,pm:=(oF o).pyModule,cd:=Zc1,Ww:=(oF o).doc,get:=i,fn:=e.mt h1 h2 j k n1 n}
theorem Hy.sm(a:Zav)(os:VX):i2 (hF (Xc Nf NH os) (a.bs os)):=⟨
  { C:=242,N:=241,mN:=(H1 Zf).nsMap 241
    c := { at_:=⟨⟨"SequenceMatcher","SequenceMatcher",[Zaj],[],[],none,none,none,none,some (zs "SequenceMatcher" 389),some (zs "SequenceMatcher" 397),some (.bool true),rx 242 _ Z9⟩,a.ns Z9⟩
           nc:=by show(242:U)≠256;decide
           nn:=by show(241:U)≠256;decide
           J3:=by kernel_rfl
           ng:=by kernel_rfl
           L8:=by kernel_rfl}
    gl:=a.gl Z9
    no:=by
      repeat(refine cn Z9 ?_)
      exact jK
    dI:=153,dF:=189,dG:=211,t1:=404,t2:=405,t3:=464,t4:=465,t5:=534
    Ib:=⟨⟨0,rx 153 _ Z9⟩,by show(153:U)≠256;decide⟩
    Iz:=⟨⟨0,rx 189 _ Z9⟩,by show(189:U)≠256;decide⟩
    Ih:=⟨⟨0,rx 211 _ Z9⟩,by show(211:U)≠256;decide⟩
    init:=a.DZ os "__init__" "SequenceMatcher.__init__" (fy 5 1) (.ref 153) 160 159 (ob 160 Yx Zf) (ob 159 Yx Zf) Z9 Z9 Z9 Z9 Z9 Z' Z'
    C5:=a.DZ os "set_seqs" "SequenceMatcher.set_seqs" (fy 5 2) .none 167 166 (ob 167 Yx Zf) (ob 166 Yx Zf) Z9 Z9 Z9 Z9 Z9 Z' Z'
    seq1:=a.DZ os "set_seq1" "SequenceMatcher.set_seq1" (fy 5 3) .none 174 173 (ob 174 Yx Zf) (ob 173 Yx Zf) Z9 Z9 Z9 Z9 Z9 Z' Z'
    DB:=a.DZ os "set_seq2" "SequenceMatcher.set_seq2" (fy 5 4) .none 181 180 (ob 181 Yx Zf) (ob 180 Yx Zf) Z9 Z9 Z9 Z9 Z9 Z' Z'
    chain:=a.DZ os "_SequenceMatcher__chain_b" "SequenceMatcher.__chain_b" (fy 5 5) .none 188 187 (ob 188 Yx Zf) (ob 187 Yx Zf) Z9 Z9 Z9 Z9 Z9 Z' Z'
    eZ:=a.DZ os "find_longest_match" "SequenceMatcher.find_longest_match" (fy 5 6) (.ref 189) 196 195 (ob 196 Yx Zf) (ob 195 Yx Zf) Z9 Z9 Z9 Z9 Z9 Z' Z'
    JC:=a.DZ os "get_matching_blocks" "SequenceMatcher.get_matching_blocks" (fy 5 7) .none 203 202 (ob 203 Yx Zf) (ob 202 Yx Zf) Z9 Z9 Z9 Z9 Z9 Z' Z'
    ops:=a.DZ os "get_opcodes" "SequenceMatcher.get_opcodes" (fy 5 8) .none 210 209 (ob 210 Yx Zf) (ob 209 Yx Zf) Z9 Z9 Z9 Z9 Z9 Z' Z'
    xt:=a.DZ os "get_grouped_opcodes" "SequenceMatcher.get_grouped_opcodes" (fy 5 9) (.ref 211) 218 217 (ob 218 Yx Zf) (ob 217 Yx Zf) Z9 Z9 Z9 Z9 Z9 Z' Z'}⟩
def M7:J Y_:=(Zi 310).filter λa=>!m1 a 256
def KF(w:Tw):Frag:=((Zi 310).zip (Fh Yx V5)).filter λp=>!m1 p.1 256
theorem Hv(w:Tw):(KF w).In (H1 V5):=Frag.in_of (as:=M7) Z9 Z9
variable{Pz:VX}
theorem Hy.tc(a:Zav):bN (Xc Nf NH Pz) (KF Nf) 135 136 82:=
  { HG:=(Hv Nf).keeps rx
    kT:=by kernel_rfl
    obj:=⟨Zas,none,zc "Match" [Zac] [zr 135,Zac,Zaj] 134 "Match" false,⟨[some (zr 65),none,some (zs "Match" 253),some (zs "Match" 261),some .none,some (.bool false)]⟩,by kernel_rfl,rfl,rfl,rfl,rfl,rfl⟩
    VQ:=by kernel_rfl
    typ:=by kernel_rfl
    init:=by kernel_rfl
    reads:=by kernel_rfl
    new:=by kernel_rfl
    sm:=by kernel_rfl
    sf:=by kernel_rfl
    WC:=by kernel_rfl
    len:=by kernel_rfl
    lt:=by kernel_rfl}
theorem Hy.mo(a:Zav)(os:VX):i2 (d5 (Xc Nf NH os) (a.bs os)):=⟨
  { K:=KF Nf,C:=135,p:=136,fn:=82,q:=91,fm:=89
    t:=a.tc
    gl:=a.gl Z9
    pm:=(oF (ob 82 Yx Zf)).pyModule,cd:=.ref 81,Ww:=(oF (ob 82 Yx Zf)).doc
    Ms:=(oF (ob 89 Yx Zf)).pyModule,yN:=.ref 88,IS:=(oF (ob 89 Yx Zf)).doc
    new:=a.mt (f:=ob 81 Yx Zf) Z9 Z9 Z9 Z9 Z' Z'
    Mr:=some 92
    make:=⟨rx 89 _ Z9,(by show(89:U)≠256;decide),a.FX (c:=ob 88 Yx Zf) Z9 Z9,λe=>by cases e⟩
    tup:=H4 Z9 (by rw[Ne,ay];decide) Z9
    uF:=by kernel_rfl
    cm:=by kernel_rfl
    Gx:=by kernel_rfl}⟩
theorem Hy.lib(a:Zav)(os:VX):i2 (mh (Xc Nf NH os) (a.bs os)):=(a.sm os).elim λD=>(a.mo os).elim λM=>⟨
  { gE:=⟨_,rx ov (boot_o_1 Zf) Z9⟩
    hb:=a.xO
    hr:=H4 Z9 (by rw[Ne,ay];decide) Z9
    hl:=H4 Z9 (by rw[Ne,ay];decide) Z9
    hm:=H4 Z9 (by rw[Ne,ay];decide) Z9
    Bw:=H4 Z9 (by rw[Ne,ay];decide) Z9
    k8:=H4 Z9 (by rw[Ne,ay];decide) Z9
    D:=D
    M:=M
    bm:={bm:=4,gl:=a.gl Z9,ne:=by decide,nt:=by show(4:U)≠256;decide,o:=boot_o_4 Zf,get:=rx 4 _ Z9,Uc:=by kernel_rfl,c':=by kernel_rfl,Xg:=by kernel_rfl}
    any:=H4 Z9 (by rw[Ne,ay];decide) Z9
    c':=H4 Z9 (by rw[Ne,ay];decide) Z9
    Md:=H4 Z9 (by rw[Ne,ay];decide) Z9
    fr:=a.gd os 6 253 252 (ob 253 Yx Zf) (ob 252 Yx Zf) .none Z9 Z9 Z9 Z9 Z' Z' Z9
    I9:=a.gd os 8 268 267 (ob 268 Yx Zf) (ob 267 Yx Zf) .none Z9 Z9 Z9 Z9 Z' Z' Z9
    fa:=261,cc:=260,dd:=254,pm:=(oF (ob 261 Yx Zf)).pyModule,Ww:=(oF (ob 261 Yx Zf)).doc
    code:=⟨by show(260:U)≠256;decide,ob 260 Yx Zf,_,"/claim/cut.py",637,35,0,true,181,0,rx 260 _ Z9,rfl,rfl,rfl,rfl,rfl,rfl,rfl⟩
    fn:=a.fn (f:=ob 260 Yx Zf) Z9 Z9 Z9 Z9 Z' Z'
    gl:=a.gl Z9
    u1:=603,u2:=604,u3:=605,u4:=606,u5:=607,u6:=608
    defs:=⟨⟨0,rx 254 _ Z9⟩,by show(254:U)≠256;decide⟩}⟩
end Hd
end
end
section
open PySem.Calls
namespace Hd
noncomputable abbrev rW:OpenRow:=PySem.Challenge.rw_mt0003_01.row
theorem CX:(defOf qv "law").isSome=true:=by kernel_rfl
noncomputable def dk:DefRec×List (Str×Expr):=(defOf qv "law").get CX
theorem left:LeftO rW.prog qv lo Xt (λs=>s.heap) (λw=>H1 w.params) 5000:=LeftO.of_pieces (H₀:=boot_heap) (H₁:=H1) (gs₀:=⟨[]⟩) (gs₁:=⟨[]⟩) (d₀:=boot_drawn) (d₁:={}) (k₀:=boot_toks) (k₁:=706) (m₀:=11) (ann:=an) (M:=12+(1+(362+(1047+(31+(666+(335+2))))))) opened size whole (by decide) λw=>by
  funext os;have e1:importedModules rW.prog.main.body=[]:=im;rw[e1];have e2:(staticsOk [] (boot_heap w.params) (H1 w.params)&&namesBound rW.prog (H1 w.params)&&gensDone ⟨H1 w.params,⟨[]⟩,{},706,os⟩&&laidKept (boot_heap w.params) (H1 w.params))=true:=by
   have l2:namesBound rW.prog (H1 w.params)=true:=Hs w;have l3:gensDone ⟨H1 w.params,⟨[]⟩,{},706,os⟩=true:=HE w os;rw[Ik,l2,l3,Jr];rfl
  rw[e2];have e:openSeen qv lo [] Xt true ⟨H1 w.params,⟨[]⟩,{},706,os⟩=openGood qv lo:=Iu w os;rw[e]
set_option backward.match.sparseCases false in noncomputable def WI(e:Params)(h:Heap)(b:Value)(d:WData):Prop:=match d with|.int i=>∃t,b=.int i t|.list x=>∃a c,b=.ref a/\h.get? a=some {cls:=.type "list",data:=.seq (List.toArray c)}/\WellAll e h c x|_=>True
theorem wI(x:Well f h c d):WI f h c d:=Well.casesOn (motive_1:=λc d O=>WI f h c d) x trivial (λO=>trivial) (λi t=>⟨t,rfl⟩) (λO O=>trivial) (λO O=>trivial) (λO O=>trivial) (λO=>trivial) (λa b=>⟨_,_,rfl,a,b⟩) (λO O=>trivial) (λO O=>trivial) (λO O O O=>trivial) (λO O O O=>trivial) (λO O O O=>trivial)
noncomputable def WA(a:Params)(h:Heap)(b:List Value)(d:List WData):Prop:=d.rec (b=[]) λf r _=>∃c e,b=c::e/\Well a h c f/\WellAll a h e r
theorem wA(x:WellAll f h c d):WA f h c d:=WellAll.casesOn (motive_2:=λc d O=>WA f h c d) x rfl λa b=>⟨_,_,rfl,a,b⟩
theorem Cq:∀{sc:List Int}{a:List Value},WellAll d hp a (sc.map .int)->ao f (sc.map .int) a:=by
 intro I;induction I with
 |nil=>
  intro a h;rw[(wA h:a=[])];exact .nil|cons i sc e=>
  intro a h;obtain⟨b,c,rfl,h1,h2⟩:=(wA h:∃b c,a=b::c/\Well d hp b (.int i)/\WellAll d hp c (sc.map .int));exact .cons (wI h1:∃t,b=.int i t) (e h2)
theorem ints_of{R:WRecords}:∀{x:List WData},WShape.hasItems R x .int=true->∃sc:List Int,x=sc.map .int:=by
 intro I;induction I with
 |nil=>
  intro _;exact⟨[],rfl⟩|cons b x c=>
  intro h;have a:WShape.has R b .int=true/\WShape.hasItems R x .int=true:=by simpa[WShape.hasItems]using h
  obtain⟨i,rfl⟩:=hasW_int a.1;obtain⟨sc,rfl⟩:=c a.2;exact⟨i::sc,rfl⟩
theorem CY(h:rW.toRowW.claim.pre args=true):∃sc:List Int,args=[.list (sc.map .int)]/\sc.length<=63:=by
 obtain⟨h1,h2⟩:=pre_splitW (r:=rW.toRowW) h;obtain⟨d,r,rfl,a,c⟩:=hasAllW_cons (e:=.list .int) (es:=[]) h1;obtain rfl:=hasAllW_nil c;obtain⟨x,rfl,e⟩:=hasW_list a;obtain⟨sc,rfl⟩:=ints_of e;refine⟨sc,rfl,?_⟩;have a:(WTm.and (.not (.lt (.lit (.int (63:Nat))) (.len (.arg 0)))) (.lit (.bool true))).holds [] {args:=[.list (sc.map .int)]}=true:=h2;by_cases b:(63:Int)<(sc.length:Nat);.simp[WTm.holds,WTm.value,less?,Num.less?,b]at a
 .exact a9 0x1fcbc3cd4c2f [63,63] [_] [] b
variable{G:Shared}{z:Addr}{PJ:List Value}
theorem pf(hl:G.heap.get? z=some {cls:=.type "list",data:=.seq PJ.toArray})(c:G.heap.get? 256=some {cls:=.none,data:=.fields #[]})(hg:G.gens=#[]):aA (Xc f G.heap G.os) (λa o=>a=z/\o=seqObj (.type "list") PJ.toArray 0) (λO=>none) G:=
  { old:=⟨OldK.refl _,⟨_,c⟩,(λo e=>by
        have e1:(256:Nat)=z:=e.1;subst e1;have d:G.heap.get? 256=_:=c;rw[hl]at d;cases d),⟨#[],c,trivial,(λpos i e=>by cases e)⟩⟩
    base:=λb o e O=>e
    aG:=(λa o e=>by obtain⟨rfl,rfl⟩:=e;exact hl)
    objs:=(λa o e=>by cases e)
    c7:=λa o O=>rfl
    low:=(λa o e=>by cases e)
    os:=rfl
    gens:=⟨AllBare.of_eq hg,(λa g st e=>by cases e),(λa b g st s e=>by cases e)⟩}
set_option tactic.hygienic true in theorem walk:WalkO qv lo (λO O=>True) (λw h=>∀a o,(H1 w.params).get? a=some o->h.get? a=some o) rW.toRowW dk.1 dk.2 λf d=>PySem.call f d:=by
 intro w PW s mg mb G A a o pm cd doc PX PY PZ hd P0 P2 B hg args D as q F I r P4;have c:Hy w s.heap mg mb:=⟨A,G.T.g,G.T.b,G.T.nolimit,G.T.builtins⟩;have M:a=309:=by
  have t:=c.gl (x:=dk.1.name) (c:=some (.ref 309)) (by kernel_rfl);rw[B]at t;cases t;rfl
 subst M;obtain⟨sc,rfl,u⟩:=CY q;clear I F q;obtain⟨i,n,e,x,y⟩:=(wA r:∃i n,D=i::n/\Well w.params s.heap i (.list (sc.map .int))/\WellAll w.params s.heap n []);obtain⟨l,d,z,hl,N⟩:=(wI x:∃a d,i=.ref a/\s.heap.get? a=some {cls:=.type "list",data:=.seq (List.toArray d)}/\WellAll w.params s.heap d (sc.map .int));rw[z,(wA y:n=[])]at e;clear r x y z;subst e;have Q:=pf (f:=w) hl (c.at_ 256 _ (by kernel_rfl)) hg;have rep:ao (λa o=>a=l/\o=seqObj (.type "list") d.toArray 0) [ko sc] [.ref l]:=.one ⟨l,d.toArray,0,rfl,⟨rfl,rfl⟩,Cq N⟩;obtain⟨lb⟩:=c.lib s.os;obtain⟨V⟩:=c.LX s.os;have C:=AY (X:=Xc w s.heap s.os) (m:=callerA) (E:=λO=>none) (sc:=sc) (g:=λPM O=>PM=.bool true) (c.fn (Nw:=cy 16) (d:=.none) (k:=.none) (N3:=ob 309 prog w.params) (f:=ob 308 prog w.params) (j:=309) (p:=308) (by kernel_rfl) (by kernel_rfl) (by kernel_rfl) (by kernel_rfl) (by decide) (by decide)) lb V c.xO (c.two (by kernel_rfl) (by rw[Ne,ay];decide) (by kernel_rfl)) (c.gd s.os 14 299 298 (ob 299 prog w.params) (ob 298 prog w.params) .none (by kernel_rfl) (by kernel_rfl) (by kernel_rfl) (by kernel_rfl) (by decide) (by decide) (by kernel_rfl)) (c.gd s.os 15 304 303 (ob 304 prog w.params) (ob 303 prog w.params) .none (by kernel_rfl) (by kernel_rfl) (by kernel_rfl) (by kernel_rfl) (by decide) (by decide) (by kernel_rfl)) ⟨by decide,by decide,rfl⟩ u (λP5 P6 hB=>Fp u hB) (λPN=>rfl);refine wpAny_call (codeAny_mono (C _ s _ Q rep) λP7 P8 PR=>?_);obtain⟨i,P9,mv,PN,rfl,le,PS,S,rfl⟩:=PR;have ev:i=.bool true:=PS;subst ev;exact⟨.inl ⟨.bool true,.bool true,[],rfl,λO=>rfl,.bool true,by kernel_rfl,λO=>⟨.nil,λa PT=>by cases PT⟩⟩,S.old.k,S.os,S.gens.bare⟩
end Hd
end
end Mine
open Mine Mine.Hd in
theorem PySem.Challenge.cw_mt0003_01_holds : PySem.Challenge.rw_mt0003_01.Holds := by
 refine holds_law ED λb=>?_;exact holds_open (r:=rW) (q:=qv) (loose:=lo) (Xt:=Xt) (XP:=λO O=>True) (Yf:=λs=>s.heap) (Ya:=λw=>H1 w.params) (YP:=λw h=>∀a o,(H1 w.params).get? a=some o->h.get? a=some o) (d:=dk.1) (kwd:=dk.2) (N:=5000) left (λw s e a o k=>by have c:s.heap=H1 w.params:=e;rw[c];exact k) (λw h d y k a o e=>k a o (y a o e)) (λO O=>trivial) (λO O O O O=>trivial) (by kernel_rfl) (by kernel_rfl) (by kernel_rfl) (λs O=>recFacts_of (R:=[]) rfl) (by rfl) b (look_both (look_both (by kernel_rfl) (by kernel_rfl)) (look_both (by kernel_rfl) (by kernel_rfl))) ⟨rfl,rfl,rfl,rfl,rfl,by decide+kernel⟩ ⟨[.list []],by decide+kernel,by decide+kernel⟩ walk
