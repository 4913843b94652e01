import PyProof.Rows.All
import Wide.All
import OpenK.AllK
import Wide.FinOn
import KE.KSliceW
import KE.KDictList
import KE.KTurnsAny
import KE.KSuper
import KE.KPairTest
import Lean
import PySem.Challenge.RW_te0013_01
set_option Elab.async false
set_option maxRecDepth 1000000
set_option maxHeartbeats 0
set_option linter.all false
set_option genSizeOf false
set_option genInjectivity false
set_option bootstrap.genMatcherCode false
open PySem PySem.W PySem.Calls PyProof.Rows
namespace Mine
section
open PySem PySem.W PyProof.Rows
theorem jP {α:Type}(F:List α->Bool)(G:α->Bool)(h1:∀s r,F (s::r)=(G s&&F r)):∀(k:Nat) (l:List α),F (l.take k)=true->F (l.drop k)=true->F l=true
 |0,_=>λ_ h=>h
 |_+1,[]=>λh _=>h
 |k+1,s::r=>λh h'=>by
  rw[List.take_succ_cons,h1,Bool.and_eq_true]at h
  rw[h1,h.1]
  exact jP F G h1 k r h.2 h'
open TablesWhole in
theorem wm {A:Alg Bool}(hb:A.both=λa b=>a&&b)(hu:A.unit=true)(m:Module)(h1:A.enter m.scope=true)(h2:A.check "no name twice in a table, but a class's lawful pair" m.scope ("(the table)":Str) (noTwice m.scope)=true)
  (h0:wSs gather m.scope ⟨m.scope,[],[],[],none⟩ m.scope m.body=[])(h3:wSs A m.scope ⟨m.scope,[],[],[],none⟩ m.scope m.body=true):wModule A m=true:=by
 unfold wModule
 simp only[h0]
 show A.both _ (A.both _ (A.both _ A.unit))=true
 rw[h1,h2,h3,hb,hu]
 rfl
noncomputable abbrev qm:Module:=PySem.Challenge.pw_te0013_01.main
noncomputable abbrev qcx:TablesWhole.Ctx:=⟨qm.scope,[],[],[],none⟩
theorem gathered:TablesWhole.wSs TablesWhole.gather qm.scope qcx qm.scope qm.body=[]:=by
 rw[PySem.W.Fast.te16421684217811934046];kernel_rfl
noncomputable abbrev tF (l:List Stmt):Bool:=TablesWhole.wSs TablesWhole.holds qm.scope qcx qm.scope l
theorem tG (s:Stmt)(r:List Stmt):tF (s::r)=(TablesWhole.wS TablesWhole.holds qm.scope qcx qm.scope s&&tF r):=rfl
theorem t1:tF (qm.body.take 46)=true:=by
 rw[tF,PySem.W.Fast.te16421684217811934046];kernel_rfl
theorem t2:tF ((qm.body.drop 46).take 4)=true:=by
 rw[tF,PySem.W.Fast.te16421684217811934046];kernel_rfl
theorem t3:tF ((qm.body.drop 46).drop 4)=true:=by
 rw[tF,PySem.W.Fast.te16421684217811934046];kernel_rfl
theorem XS (p:Program)(h1:p.modules=[])(h2:p.parses=[])(h3:p.harvested=[])(h:TablesWhole.wModule TablesWhole.holds p.main=true):p.tablesWhole=true:=by
 show TablesWhole.wProgram TablesWhole.holds p=true
 unfold TablesWhole.wProgram
 rw[h1,h2,h3,h]
 rfl
theorem XR:PySem.Challenge.pw_te0013_01.tablesWhole=true:=XS _ rfl rfl rfl (wm rfl rfl _ rfl (by decide+kernel) gathered (jP tF _ tG 46 _ t1 (jP tF _ tG 4 _ t2 t3)))
end
section
open PySem PySem.W PyProof.Rows
theorem c1:(!(importedModules qm.body).all cThrough.contains)=false:=by kernel_rfl
theorem c2:readsOut PySem.Challenge.pw_te0013_01 qm.body (Str.ofString "vars")=false:=by rw[PySem.W.Fast.te13343964577679436407];kernel_rfl
theorem c3:readsOut PySem.Challenge.pw_te0013_01 qm.body (Str.ofString "dir")=false:=by rw[PySem.W.Fast.te13343964577679436407];kernel_rfl
theorem c4:readsOut PySem.Challenge.pw_te0013_01 qm.body (Str.ofString "locals")=false:=by rw[PySem.W.Fast.te13343964577679436407];kernel_rfl
theorem c5:noRoadLSs {strict:=false,foot:=none} (qm.body.take 49)=true:=(congrFun (congrFun PySem.W.Fast.te8326940854005059898 _) _).trans (by kernel_rfl)
theorem c6:noRoadLSs {strict:=false,foot:=none} (qm.body.drop 49)=true:=(congrFun (congrFun PySem.W.Fast.te8326940854005059898 _) _).trans (by kernel_rfl)
theorem c7:noRoadLSs {strict:= !(importedModules qm.body).all cThrough.contains,foot:=none,bare:=(["vars","dir","locals"]:List Str).filter (readsOut PySem.Challenge.pw_te0013_01 qm.body)} qm.body=true:=by
 have e:(["vars","dir","locals"]:List Str).filter (readsOut PySem.Challenge.pw_te0013_01 qm.body)=[]:=(List.filter_cons_of_neg (ne_true_of_eq_false c2)).trans ((List.filter_cons_of_neg (ne_true_of_eq_false c3)).trans (List.filter_cons_of_neg (ne_true_of_eq_false c4)))
 rw[c1,e]
 exact jP (noRoadLSs _) (noRoadLS _) (λ_ _=>rfl) 49 _ c5 c6
theorem c8:namesResolve PySem.Challenge.pw_te0013_01=true:=(congrFun PySem.W.Fast.te8377067652309620493 _).trans (by kernel_rfl)
theorem ws:PySem.Challenge.rw_te0013_01.wellSaid=true:=by
 delta OpenLaw.wellSaid
 iterate 18 refine look_both ?_ ?_
 ·delta OpenRow.wellSaid
  iterate 2 refine look_both ?_ ?_
  ·delta OpenRow.partSaid
   iterate 13 refine look_both ?_ ?_
   ·delta looksOpen
    iterate 5 refine look_both ?_ ?_
    ·decide+kernel
    ·decide+kernel
    ·exact c8
    ·decide+kernel
    ·exact c7
    ·decide+kernel
   all_goals decide+kernel
  all_goals decide+kernel
 all_goals decide+kernel
end
end Mine
namespace Mine.H
noncomputable abbrev pw:Program:=PySem.Challenge.pw_te0013_01
noncomputable def i0 (i:Int):Value:=.int i 0
noncomputable def vi (i:Int) (t:Nat):Value:=.int i t
noncomputable def vs (s:String) (t:Nat):Value:=.str (Str.ofString s) t
noncomputable def oT (l:List Value):Obj:={cls:=.type "tuple",data:=.seq ⟨l⟩}
noncomputable def oF (l:List Value):Obj:={cls:=.none,data:=.fields ⟨l⟩}
noncomputable def oX (c:String) (l:List Value):Obj:={cls:=.type c,data:=.fields ⟨l⟩}
noncomputable def oD (l:List DictEntry) (n:Nat):Obj:={cls:=.type "dict",data:=.dict ⟨l⟩ n}
noncomputable def oN (l:List DictEntry) (n:Nat):Obj:={cls:=.none,data:=.dict ⟨l⟩ n}
noncomputable def oR (f:FuncData):Obj:={cls:=.none,data:=.func f}
noncomputable def oG (f:FuncData):Obj:={cls:=.type "function",data:=.func f}
noncomputable def oK (c:ClassData) (l:List (Option Value)):Obj:={cls:=.type "type",data:=.cls c,slots:=⟨l⟩}
noncomputable def oP (c:String) (l:List (Option Value)) (d:Option Addr):Obj:={cls:=.type c,dict:=d,data:=.plain,slots:=⟨l⟩}
noncomputable def oL (v:Option Value):Obj:={cls:=.type "cell",data:=.cell v}
noncomputable def en (P:Params) (s:String) (t:Nat) (v:Value):DictEntry:=⟨PyData.keyHash P (Str.ofString s),.str (Str.ofString s) t,v⟩
noncomputable def kd (n:String) (b m:List Value) (ns:Addr) (q:String) (sub:List Value):ClassData:={name:=Str.ofString n,bases:=b,mro:=m,ns:=ns,qualname:=Str.ofString q,subclasses:=sub}
noncomputable def tS (k:Nat):Stmt:=(pw.main.body[k]?).getD default
noncomputable def mS (k j:Nat):Stmt:=match tS k with
 | .ClassDef _ _ _ b _ _ _ _ _ _ _=>(b[j]?).getD default
 |s=>s
noncomputable def fd (s:Stmt) (q:String) (g:Addr) (cl:List (String×Addr)) (dV kV doc pm cd ct:Value):FuncData:=match s with
 | .FunctionDef n a b _ _ _ sc _ _ _=>{name:=n,qualname:=Str.ofString q,params:=a,body:=.stmts b,scope:=sc,globals:=g,closure:=cl.map λc=>(Str.ofString c.1,c.2),defaults:=dV,kwdefaults:=kV,doc:=doc,pyModule:=pm,code:=cd,closureTuple:=ct,builtins:=0}
 |_=>default
noncomputable def alt {α:Type}:List α->List α×List α
 |[]=>([],[])
 |x::r=>(x::(alt r).2,(alt r).1)
noncomputable def bt:Nat->List Obj->BT
 |0,_=>.nil
 |_+1,[]=>.nil
 |n+1,x::r=>.node x (bt n (alt r).1) (bt n (alt r).2)
noncomputable def fl:String:="/claim/cut.py"
noncomputable def r (a:Nat):Value:=.ref a
noncomputable def cf (n q:String) (t:Nat) (l a:Int) (b u:Nat):Obj:=oX "code" [vs n t,vs q (t+1),vs fl (t+2),i0 l,i0 a,i0 0,i0 0,i0 3,r b,.bool true,i0 181,r (b+1),.none,r (b+2),r (b+3),r (b+4),i0 u,i0 l,vs fl (u+1)]
noncomputable def cc (n:String) (t:Nat) (l:Int) (b:Nat):Obj:=oX "code" [vs n t,vs n (t+1),vs fl (t+2),i0 l,i0 0,i0 0,i0 0,i0 0,r b,.bool false,i0 181,r (b+1),.none,.none,.none,.none,i0 (t+3),i0 l,vs fl (t+4)]
noncomputable def dd (P:Params) (l:List (String×Nat×Value)) (n:Nat):Obj:=oD (l.map λq=>en P q.1 q.2.1 q.2.2) n
noncomputable def gf (s:Stmt) (q:String) (d m:Value) (c:Nat):Obj:=oG (fd s q 3 [] d .none .none m (r c) .none)
noncomputable def rf (s:Stmt) (q:String):Obj:=oR (fd s q 0 [] .none .none .none .none .none .none)
noncomputable def tn (t:Nat) (l:List String):Obj:=oT (go t l) where
 go:Nat->List String->List Value
 |_,[]=>[]
 |t,s::l=>vs s t::go (t+1) l
noncomputable def t0:Obj:=oT []
noncomputable def z0:Obj:=oF []
noncomputable def kk (n:String) (b m:List Value) (a:Nat) (u:List Value) (d:Option Value) (i j:Nat) (w:String):Obj:=oK (kd n b m a n u) [d,none,some (vs n i),some (vs n j),some (.builtin w),some (.bool true)]
noncomputable def bi (a:Nat):Obj:=oX "builtin_function_or_method" [.builtin "object.__init_subclass__",r a]
noncomputable def bp:Obj:=oX "builtin_function_or_method" [.builtin "type.__prepare__",.type "type"]
noncomputable def fr (a b:Nat) (m:Value):Obj:=oP "frame" [some (r a),some (r 3),some (r b),none,some m,none,some (r 0)] none
noncomputable def su (a:Nat):Obj:=oX "super" [r a,r a,r a]
noncomputable def dF:Value:=vs "yaml.scanner" 1285
noncomputable def m_1:Value:=vs "yaml.tokens" 321
noncomputable def m_2:Value:=vs "yaml.events" 798
noncomputable def j8:Value:=vs "yaml.parser" 2098
noncomputable def zQ:Value:=vs "yaml.reader" 1142
noncomputable def Dg:Value:=vs "yaml.error" 194
noncomputable def Ld:Value:=vs "law_te0013_01" 2419
noncomputable def dj:String:="__static_attributes__"
noncomputable def dh:String:="__firstlineno__"
noncomputable def cX:String:="__module__"
noncomputable def iY:String:="__qualname__"
noncomputable def jL:String:="__init__"
noncomputable def iU:String:="__doc__"
noncomputable def jK:String:="id"
noncomputable def cS:List (String×Nat×Value):=[(dh,1353,vi 304 1352),(jL,1362,.ref 783),("check_token",1370,.ref 792),("peek_token",1377,.ref 799),("get_token",1384,.ref 806),("need_more_tokens",1391,.ref 813),("fetch_more_tokens",1399,.ref 820),("next_possible_simple_key",1409,.ref 827),("stale_possible_simple_keys",1418,.ref 834),("save_possible_simple_key",1428,.ref 841),("remove_possible_simple_key",1436,.ref 848),("unwind_indent",1445,.ref 855),("add_indent",1453,.ref 862),("fetch_stream_start",1461,.ref 869),("fetch_stream_end",1469,.ref 876),("fetch_directive",1476,.ref 883),("fetch_document_start",1483,.ref 890),("fetch_document_end",1490,.ref 897),("fetch_document_indicator",1500,.ref 904),("fetch_flow_sequence_start",1507,.ref 911),("fetch_flow_mapping_start",1514,.ref 918),("fetch_flow_collection_start",1524,.ref 925),("fetch_flow_sequence_end",1531,.ref 932),("fetch_flow_mapping_end",1538,.ref 939),("fetch_flow_collection_end",1548,.ref 946),("fetch_flow_entry",1557,.ref 953),("fetch_block_entry",1567,.ref 960),("fetch_key",1577,.ref 967),("fetch_value",1588,.ref 974),("fetch_alias",1595,.ref 981),("fetch_anchor",1602,.ref 988),("fetch_tag",1609,.ref 995),("fetch_literal",1616,.ref 1002),("fetch_folded",1623,.ref 1009),("fetch_block_scalar",1631,.ref 1016),("fetch_single",1638,.ref 1023),("fetch_double",1645,.ref 1030),("fetch_flow_scalar",1653,.ref 1037),("fetch_plain",1660,.ref 1044),("check_directive",1667,.ref 1051),("check_document_start",1674,.ref 1058),("check_document_end",1681,.ref 1065),("check_block_entry",1688,.ref 1072),("check_key",1695,.ref 1079),("check_value",1702,.ref 1086),("check_plain",1710,.ref 1093),("scan_to_next_token",1718,.ref 1100),("scan_directive",1729,.ref 1107),("scan_directive_name",1740,.ref 1114),("scan_yaml_directive_value",1750,.ref 1121),("scan_yaml_directive_number",1761,.ref 1128),("scan_tag_directive_value",1771,.ref 1135),("scan_tag_directive_handle",1781,.ref 1142),("scan_tag_directive_prefix",1791,.ref 1149),("scan_directive_ignored_line",1800,.ref 1156),("scan_anchor",1815,.ref 1163),("scan_tag",1830,.ref 1170),("scan_block_scalar",1851,.ref 1177),("scan_block_scalar_indicators",1862,.ref 1184),("scan_block_scalar_ignored_line",1871,.ref 1191),("scan_block_scalar_indentation",1881,.ref 1198),("scan_block_scalar_breaks",1891,.ref 1205),("scan_flow_scalar",1904,.ref 1212),("ESCAPE_REPLACEMENTS",1959,.ref 1213),("ESCAPE_CODES",1969,.ref 1215),("scan_flow_scalar_non_spaces",1983,.ref 1222),("scan_flow_scalar_spaces",1998,.ref 1229),("scan_flow_scalar_breaks",2009,.ref 1236),("scan_plain",2023,.ref 1243),("scan_plain_spaces",2039,.ref 1250),("scan_tag_handle",2051,.ref 1257),("scan_tag_uri",2063,.ref 1264),("scan_uri_escapes",2076,.ref 1271),("scan_line_break",2084,.ref 1278),(dj,2093,.ref 1279)]
noncomputable def cP:List (String×Nat×Value):=[(dh,2127,vi 1148 2126),("DEFAULT_TAGS",2134,.ref 1304),(jL,2143,.ref 1312),("dispose",2150,.ref 1319),("peek_event",2157,.ref 1326),("get_event",2165,.ref 1333),("parse_stream_start",2174,.ref 1340),("parse_implicit_document_start",2185,.ref 1347),("parse_document_start",2198,.ref 1354),("parse_document_end",2210,.ref 1361),("parse_document_content",2218,.ref 1368),("process_directives",2232,.ref 1375),("parse_block_node",2239,.ref 1382),("parse_flow_node",2246,.ref 1389),("parse_block_node_or_indentless_sequence",2253,.ref 1396),("parse_node",2273,.ref 1404),("parse_block_sequence_first_entry",2281,.ref 1411),("parse_block_sequence_entry",2290,.ref 1418),("parse_indentless_sequence_entry",2299,.ref 1425),("parse_block_mapping_first_key",2307,.ref 1432),("parse_block_mapping_key",2316,.ref 1439),("parse_block_mapping_value",2324,.ref 1446),("parse_flow_sequence_first_entry",2332,.ref 1453),("parse_flow_sequence_entry",2342,.ref 1461),("parse_flow_sequence_entry_mapping_key",2350,.ref 1468),("parse_flow_sequence_entry_mapping_value",2358,.ref 1475),("parse_flow_sequence_entry_mapping_end",2366,.ref 1482),("parse_flow_mapping_first_key",2374,.ref 1489),("parse_flow_mapping_key",2384,.ref 1497),("parse_flow_mapping_value",2392,.ref 1504),("parse_flow_mapping_empty_value",2399,.ref 1511),("process_empty_scalar",2407,.ref 1518),(dj,2414,.ref 1519)]
noncomputable def cM:List (String×Nat×Value):=[(iU,166,.none),("__package__",167,.none),("__loader__",168,.builtin "__main__.__loader__#opaque"),("__spec__",169,.none),("__annotations__",170,.ref 6),("__builtins__",171,.ref 4),("__file__",173,vs fl 172),("__cached__",174,.none),("_wall",193,.ref 21),("Mark",259,.ref 53),("YAMLError",279,.ref 67),("MarkedYAMLError",320,.ref 95),("Token",353,.ref 114),("DirectiveToken",386,.ref 135),("DocumentStartToken",404,.ref 147),("DocumentEndToken",422,.ref 159),("StreamStartToken",453,.ref 179),("StreamEndToken",471,.ref 191),("BlockSequenceStartToken",489,.ref 203),("BlockMappingStartToken",507,.ref 215),("BlockEndToken",525,.ref 227),("FlowSequenceStartToken",543,.ref 239),("FlowMappingStartToken",561,.ref 251),("FlowSequenceEndToken",579,.ref 263),("FlowMappingEndToken",597,.ref 275),("KeyToken",615,.ref 287),("ValueToken",633,.ref 299),("BlockEntryToken",651,.ref 311),("FlowEntryToken",669,.ref 323),("AliasToken",700,.ref 342),("AnchorToken",731,.ref 361),("TagToken",762,.ref 380),("ScalarToken",797,.ref 400),("Event",837,.ref 427),("NodeEvent",866,.ref 449),("CollectionStartEvent",901,.ref 469),("CollectionEndEvent",917,.ref 481),("StreamStartEvent",946,.ref 501),("StreamEndEvent",962,.ref 513),("DocumentStartEvent",995,.ref 533),("DocumentEndEvent",1024,.ref 553),("AliasEvent",1040,.ref 565),("ScalarEvent",1077,.ref 585),("SequenceStartEvent",1093,.ref 597),("SequenceEndEvent",1109,.ref 609),("MappingStartEvent",1125,.ref 621),("MappingEndEvent",1141,.ref 633),("ReaderError",1183,.ref 659),("_is_printable",1190,.ref 668),("Reader",1284,.ref 730),("ScannerError",1302,.ref 744),("SimpleKey",1341,.ref 763)]
noncomputable def cO:List Value:=[i0 1,i0 0,.ref 20,i0 5,i0 0,.ref 27,i0 43,i0 0,.ref 63,i0 45,i0 0,.ref 76,i0 68,i0 0,.ref 103,i0 73,i0 0,.ref 124,i0 81,i0 0,.ref 143,i0 83,i0 0,.ref 155,i0 85,i0 0,.ref 167,i0 92,i0 0,.ref 187,i0 94,i0 0,.ref 199,i0 96,i0 0,.ref 211,i0 98,i0 0,.ref 223,i0 100,i0 0,.ref 235,i0 102,i0 0,.ref 247,i0 104,i0 0,.ref 259,i0 106,i0 0,.ref 271,i0 108,i0 0,.ref 283,i0 110,i0 0,.ref 295,i0 112,i0 0,.ref 307,i0 114,i0 0,.ref 319,i0 116,i0 0,.ref 331,i0 123,i0 0,.ref 350,i0 130,i0 0,.ref 369,i0 137,i0 0,.ref 388,i0 147,i0 0,.ref 408,i0 155,i0 0,.ref 437,i0 161,i0 0,.ref 457,i0 170,i0 0,.ref 477,i0 172,i0 0,.ref 489,i0 178,i0 0,.ref 509,i0 180,i0 0,.ref 521,i0 188,i0 0,.ref 541,i0 194,i0 0,.ref 561,i0 196,i0 0,.ref 573,i0 206,i0 0,.ref 593,i0 208,i0 0,.ref 605,i0 210,i0 0,.ref 617,i0 212,i0 0,.ref 629,i0 215,i0 0,.ref 641,i0 229,i0 0,.ref 667,i0 231,i0 0,.ref 674,i0 293,i0 0,.ref 740,i0 295,i0 0,.ref 752]
noncomputable def cN:List (String×Nat×Value):=cM++[("Scanner",2097,.ref 1281),("ParserError",2115,.ref 1293)]
noncomputable def cQ:List Value:=cO++[i0 304,i0 0,.ref 774,i0 1146,i0 0,.ref 1289]
noncomputable def m3 (P:Params) (m:Value) (l:List (String×Nat×Value)) (n:Nat):Obj:=dd P (("__name__",165,m)::l) n
noncomputable def m67 (u:List Value):Obj:=kk "YAMLError" [.type "Exception"] [.ref 67,.type "Exception",.type "BaseException",.type "object"] 66 u (some (.ref 58)) 260 268 "Exception.__new__"
noncomputable def m95 (u:List Value):Obj:=kk "MarkedYAMLError" [.ref 67] [.ref 95,.ref 67,.type "Exception",.type "BaseException",.type "object"] 94 u (some (.ref 71)) 280 288 "Exception.__new__"
noncomputable def Zg (u:List Value):Obj:=kk "Reader" [.type "object"] [.ref 730,.type "object"] 729 u (some (.ref 669)) 1191 1199 "object.__new__"
noncomputable def Rp (u:List Value):Obj:=kk "Scanner" [.ref 730] [.ref 1281,.ref 730,.type "object"] 1280 u (some (.ref 768)) 1342 1350 "object.__new__"
noncomputable def abH (P:Params):List Obj:=[
 boot_o_0 P,
 boot_o_1 P,
 boot_o_2 P,
 boot_o_3 P,
 boot_o_4 P,
 boot_o_5 P,
 boot_o_6 P,
 boot_o_7 P,
 boot_o_8 P,
 boot_o_9 P,
 boot_o_10 P,
 t0,
 z0,
 cc "<module>" 182 1 11,
 fr 13 3 (vs "__main__" 164)]
noncomputable def abG (P:Params):List Obj:=abH P
noncomputable def f0 (P:Params):List Obj:=[
 boot_o_0 P,
 boot_o_1 P,
 oN [en P "type.__subclasses__.Exception.0" 276 (i0 67),en P "type.__subclasses__.Exception.n" 277 (i0 1)] 2,
 m3 P Ld (cN++[("Parser",2418,.ref 1521),("_law_WORDS",2426,.ref 1530),("_law_KEYS",2432,.ref 1537),("_law_ENDS",2438,.ref 1544),("_law_PADS",2444,.ref 1551),("_law_LEADS",2450,.ref 1558),("_law_gap",2461,.ref 1565),("_law_write",2482,.ref 1572),("_law_told",2489,.ref 1579),("law",2495,.ref 1584)]) 65,
 boot_o_4 P,
 boot_o_5 P,
 boot_o_6 P,
 boot_o_7 P,
 boot_o_8 P,
 boot_o_9 P,
 boot_o_10 P,
 t0,
 oF (cQ++[i0 1148,i0 0,.ref 1302,i0 1535,i0 0,.ref 1529,i0 1537,i0 0,.ref 1536,i0 1539,i0 0,.ref 1543,i0 1541,i0 0,.ref 1550,i0 1543,i0 0,.ref 1557,i0 1545,i0 0,.ref 1564,i0 1560,i0 0,.ref 1571,i0 1576,i0 0,.ref 1578,i0 1592,i0 0,.ref 1583]),
 cc "<module>" 182 1 11,
 fr 13 3 (vs "__main__" 164),
 t0,
 z0,
 tn 190 ["k"],
 t0,
 rf (tS 0) "_wall",
 cf "_wall" "_wall" 187 1 1 15 191,
 gf (tS 0) "_wall" .none (vs "__main__" 164) 20,
 t0,
 bp,
 dd P [(cX,203,Dg),(iY,205,vs "Mark" 204),(dh,207,vi 5 206),(jL,220,.ref 35),("get_snippet",236,.ref 43),("__str__",245,.ref 50),(dj,252,.ref 51)] 7,
 t0,
 oF [i0 7,i0 4,.ref 34,i0 15,i0 4,.ref 42,i0 37,i0 4,.ref 49],
 cc "Mark" 198 5 25,
 fr 27 24 Dg,
 t0,
 z0,
 tn 211 ["self","name","index","line","column","buffer","pointer"],
 t0,
 rf (mS 2 0) "Mark.__init__",
 cf "__init__" "Mark.__init__" 208 7 7 29 218,
 gf (mS 2 0) "Mark.__init__" .none Dg 34,
 oT [vi 4 221,vi 75 222],
 t0,
 z0,
 tn 226 ["self","indent","max_length","head","start","tail","end","snippet"],
 t0,
 rf (mS 2 1) "Mark.get_snippet",
 cf "get_snippet" "Mark.get_snippet" 223 15 3 37 234,
 gf (mS 2 1) "Mark.get_snippet" (.ref 36) Dg 42,
 t0,
 z0,
 tn 240 ["self","snippet","where"],
 t0]
noncomputable def f1 (P:Params):List Obj:=[
 rf (mS 2 2) "Mark.__str__",
 cf "__str__" "Mark.__str__" 237 37 1 44 243,
 gf (mS 2 2) "Mark.__str__" .none Dg 49,
 tn 246 ["buffer","column","index","line","name","pointer"],
 dd P [(cX,203,Dg),(dh,207,vi 5 206),(jL,220,.ref 35),("get_snippet",236,.ref 43),("__str__",245,.ref 50),(dj,252,.ref 51),("__dict__",254,.ref 54),("__weakref__",256,.ref 55),(iU,257,.none)] 4,
 kk "Mark" [.type "object"] [.ref 53,.type "object"] 52 [] none 196 204 "object.__new__",
 oX "getset_descriptor" [vs "__dict__" 253,.ref 53,.builtin "function.__dict__",.builtin "function.__dict__#set"],
 oX "getset_descriptor" [vs "__weakref__" 255,.ref 53,.builtin "ExceptionGroup.__weakref__",.none],
 su 53,
 bi 53,
 oT [.type "Exception"],
 bp,
 dd P [(cX,267,Dg),(iY,269,vs "YAMLError" 268),(dh,271,vi 43 270),(dj,272,.ref 65)] 4,
 t0,
 z0,
 cc "YAMLError" 262 43 61,
 fr 63 60 Dg,
 t0,
 dd P [(cX,267,Dg),(dh,271,vi 43 270),(dj,272,.ref 65),("__weakref__",274,.ref 68),(iU,275,.none)] 3,
 m67 [.ref 95,.ref 659],
 oX "getset_descriptor" [vs "__weakref__" 273,.ref 67,.builtin "ExceptionGroup.__weakref__",.none],
 su 67,
 bi 67,
 oT [.ref 67],
 bp,
 dd P [(cX,287,Dg),(iY,289,vs "MarkedYAMLError" 288),(dh,291,vi 45 290),(jL,303,.ref 85),("__str__",311,.ref 92),(dj,317,.ref 93)] 6,
 t0,
 oF [i0 47,i0 4,.ref 84,i0 54,i0 4,.ref 91],
 cc "MarkedYAMLError" 282 45 74,
 fr 76 73 Dg,
 oT [.none,.none,.none,.none,.none],
 t0,
 z0,
 tn 295 ["self","context","context_mark","problem","problem_mark","note"],
 t0,
 rf (mS 4 0) "MarkedYAMLError.__init__",
 cf "__init__" "MarkedYAMLError.__init__" 292 47 6 79 301,
 gf (mS 4 0) "MarkedYAMLError.__init__" (.ref 78) Dg 84,
 t0,
 z0,
 tn 307 ["self","lines"],
 t0,
 rf (mS 4 1) "MarkedYAMLError.__str__",
 cf "__str__" "MarkedYAMLError.__str__" 304 54 1 86 309,
 gf (mS 4 1) "MarkedYAMLError.__str__" .none Dg 91,
 tn 312 ["context","context_mark","note","problem","problem_mark"],
 dd P [(cX,287,Dg),(dh,291,vi 45 290),(jL,303,.ref 85),("__str__",311,.ref 92),(dj,317,.ref 93),(iU,318,.none)] 2,
 m95 [.ref 744,.ref 1293]]
noncomputable def f2 (P:Params):List Obj:=[
 su 95,
 bi 95,
 oT [.type "object"],
 bp,
 dd P [(cX,330,m_1),(iY,332,vs "Token" 331),(dh,334,vi 68 333),(jL,343,.ref 111),(dj,346,.ref 112)] 5,
 t0,
 oF [i0 70,i0 4,.ref 110],
 cc "Token" 325 68 101,
 fr 103 100 m_1,
 t0,
 z0,
 tn 338 ["self","start_mark","end_mark"],
 t0,
 rf (mS 6 0) "Token.__init__",
 cf "__init__" "Token.__init__" 335 70 3 105 341,
 gf (mS 6 0) "Token.__init__" .none m_1 110,
 tn 344 ["end_mark","start_mark"],
 dd P [(cX,330,m_1),(dh,334,vi 68 333),(jL,343,.ref 111),(dj,346,.ref 112),("__dict__",348,.ref 115),("__weakref__",350,.ref 116),(iU,351,.none)] 4,
 kk "Token" [.type "object"] [.ref 114,.type "object"] 113 [.ref 135,.ref 147,.ref 159,.ref 179,.ref 191,.ref 203,.ref 215,.ref 227,.ref 239,.ref 251,.ref 263,.ref 275,.ref 287,.ref 299,.ref 311,.ref 323,.ref 342,.ref 361,.ref 380,.ref 400] (some (.ref 98)) 323 331 "object.__new__",
 oX "getset_descriptor" [vs "__dict__" 347,.ref 114,.builtin "function.__dict__",.builtin "function.__dict__#set"],
 oX "getset_descriptor" [vs "__weakref__" 349,.ref 114,.builtin "ExceptionGroup.__weakref__",.none],
 su 114,
 bi 114,
 oT [.ref 114],
 bp,
 dd P [(cX,361,m_1),(iY,363,vs "DirectiveToken" 362),(dh,365,vi 73 364),(jK,367,vs "<directive>" 366),(jL,378,.ref 132),(dj,383,.ref 133)] 6,
 t0,
 oF [i0 76,i0 4,.ref 131],
 cc "DirectiveToken" 356 73 122,
 fr 124 121 m_1,
 t0,
 z0,
 tn 371 ["self","name","value","start_mark","end_mark"],
 t0,
 rf (mS 7 1) "DirectiveToken.__init__",
 cf "__init__" "DirectiveToken.__init__" 368 76 5 126 376,
 gf (mS 7 1) "DirectiveToken.__init__" .none m_1 131,
 tn 379 ["end_mark","name","start_mark","value"],
 dd P [(cX,361,m_1),(dh,365,vi 73 364),(jK,367,vs "<directive>" 366),(jL,378,.ref 132),(dj,383,.ref 133),(iU,384,.none)] 2,
 kk "DirectiveToken" [.ref 114] [.ref 135,.ref 114,.type "object"] 134 [] (some (.ref 119)) 354 362 "object.__new__",
 su 135,
 bi 135,
 oT [.ref 114],
 bp,
 dd P [(cX,394,m_1),(iY,396,vs "DocumentStartToken" 395),(dh,398,vi 81 397),(jK,400,vs "<document start>" 399),(dj,401,.ref 145)] 5,
 t0,
 z0,
 cc "DocumentStartToken" 389 81 141]
noncomputable def f3 (P:Params):List Obj:=[
 fr 143 140 m_1,
 t0,
 dd P [(cX,394,m_1),(dh,398,vi 81 397),(jK,400,vs "<document start>" 399),(dj,401,.ref 145),(iU,402,.none)] 2,
 kk "DocumentStartToken" [.ref 114] [.ref 147,.ref 114,.type "object"] 146 [] (some (.ref 138)) 387 395 "object.__new__",
 su 147,
 bi 147,
 oT [.ref 114],
 bp,
 dd P [(cX,412,m_1),(iY,414,vs "DocumentEndToken" 413),(dh,416,vi 83 415),(jK,418,vs "<document end>" 417),(dj,419,.ref 157)] 5,
 t0,
 z0,
 cc "DocumentEndToken" 407 83 153,
 fr 155 152 m_1,
 t0,
 dd P [(cX,412,m_1),(dh,416,vi 83 415),(jK,418,vs "<document end>" 417),(dj,419,.ref 157),(iU,420,.none)] 2,
 kk "DocumentEndToken" [.ref 114] [.ref 159,.ref 114,.type "object"] 158 [] (some (.ref 150)) 405 413 "object.__new__",
 su 159,
 bi 159,
 oT [.ref 114],
 bp,
 dd P [(cX,430,m_1),(iY,432,vs "StreamStartToken" 431),(dh,434,vi 85 433),(jK,436,vs "<stream start>" 435),(jL,446,.ref 176),(dj,450,.ref 177)] 6,
 t0,
 oF [i0 88,i0 4,.ref 175],
 cc "StreamStartToken" 425 85 165,
 fr 167 164 m_1,
 oT [.none,.none,.none],
 t0,
 z0,
 tn 440 ["self","start_mark","end_mark","encoding"],
 t0,
 rf (mS 10 1) "StreamStartToken.__init__",
 cf "__init__" "StreamStartToken.__init__" 437 88 4 170 444,
 gf (mS 10 1) "StreamStartToken.__init__" (.ref 169) m_1 175,
 tn 447 ["encoding","end_mark","start_mark"],
 dd P [(cX,430,m_1),(dh,434,vi 85 433),(jK,436,vs "<stream start>" 435),(jL,446,.ref 176),(dj,450,.ref 177),(iU,451,.none)] 2,
 kk "StreamStartToken" [.ref 114] [.ref 179,.ref 114,.type "object"] 178 [] (some (.ref 162)) 423 431 "object.__new__",
 su 179,
 bi 179,
 oT [.ref 114],
 bp,
 dd P [(cX,461,m_1),(iY,463,vs "StreamEndToken" 462),(dh,465,vi 92 464),(jK,467,vs "<stream end>" 466),(dj,468,.ref 189)] 5,
 t0,
 z0,
 cc "StreamEndToken" 456 92 185,
 fr 187 184 m_1,
 t0,
 dd P [(cX,461,m_1),(dh,465,vi 92 464),(jK,467,vs "<stream end>" 466),(dj,468,.ref 189),(iU,469,.none)] 2,
 kk "StreamEndToken" [.ref 114] [.ref 191,.ref 114,.type "object"] 190 [] (some (.ref 182)) 454 462 "object.__new__"]
noncomputable def f4 (P:Params):List Obj:=[
 su 191,
 bi 191,
 oT [.ref 114],
 bp,
 dd P [(cX,479,m_1),(iY,481,vs "BlockSequenceStartToken" 480),(dh,483,vi 94 482),(jK,485,vs "<block sequence start>" 484),(dj,486,.ref 201)] 5,
 t0,
 z0,
 cc "BlockSequenceStartToken" 474 94 197,
 fr 199 196 m_1,
 t0,
 dd P [(cX,479,m_1),(dh,483,vi 94 482),(jK,485,vs "<block sequence start>" 484),(dj,486,.ref 201),(iU,487,.none)] 2,
 kk "BlockSequenceStartToken" [.ref 114] [.ref 203,.ref 114,.type "object"] 202 [] (some (.ref 194)) 472 480 "object.__new__",
 su 203,
 bi 203,
 oT [.ref 114],
 bp,
 dd P [(cX,497,m_1),(iY,499,vs "BlockMappingStartToken" 498),(dh,501,vi 96 500),(jK,503,vs "<block mapping start>" 502),(dj,504,.ref 213)] 5,
 t0,
 z0,
 cc "BlockMappingStartToken" 492 96 209,
 fr 211 208 m_1,
 t0,
 dd P [(cX,497,m_1),(dh,501,vi 96 500),(jK,503,vs "<block mapping start>" 502),(dj,504,.ref 213),(iU,505,.none)] 2,
 kk "BlockMappingStartToken" [.ref 114] [.ref 215,.ref 114,.type "object"] 214 [] (some (.ref 206)) 490 498 "object.__new__",
 su 215,
 bi 215,
 oT [.ref 114],
 bp,
 dd P [(cX,515,m_1),(iY,517,vs "BlockEndToken" 516),(dh,519,vi 98 518),(jK,521,vs "<block end>" 520),(dj,522,.ref 225)] 5,
 t0,
 z0,
 cc "BlockEndToken" 510 98 221,
 fr 223 220 m_1,
 t0,
 dd P [(cX,515,m_1),(dh,519,vi 98 518),(jK,521,vs "<block end>" 520),(dj,522,.ref 225),(iU,523,.none)] 2,
 kk "BlockEndToken" [.ref 114] [.ref 227,.ref 114,.type "object"] 226 [] (some (.ref 218)) 508 516 "object.__new__",
 su 227,
 bi 227,
 oT [.ref 114],
 bp,
 dd P [(cX,533,m_1),(iY,535,vs "FlowSequenceStartToken" 534),(dh,537,vi 100 536),(jK,539,vs "[" 538),(dj,540,.ref 237)] 5,
 t0,
 z0,
 cc "FlowSequenceStartToken" 528 100 233,
 fr 235 232 m_1,
 t0,
 dd P [(cX,533,m_1),(dh,537,vi 100 536),(jK,539,vs "[" 538),(dj,540,.ref 237),(iU,541,.none)] 2,
 kk "FlowSequenceStartToken" [.ref 114] [.ref 239,.ref 114,.type "object"] 238 [] (some (.ref 230)) 526 534 "object.__new__"]
noncomputable def f5 (P:Params):List Obj:=[
 su 239,
 bi 239,
 oT [.ref 114],
 bp,
 dd P [(cX,551,m_1),(iY,553,vs "FlowMappingStartToken" 552),(dh,555,vi 102 554),(jK,557,vs "{" 556),(dj,558,.ref 249)] 5,
 t0,
 z0,
 cc "FlowMappingStartToken" 546 102 245,
 fr 247 244 m_1,
 t0,
 dd P [(cX,551,m_1),(dh,555,vi 102 554),(jK,557,vs "{" 556),(dj,558,.ref 249),(iU,559,.none)] 2,
 kk "FlowMappingStartToken" [.ref 114] [.ref 251,.ref 114,.type "object"] 250 [] (some (.ref 242)) 544 552 "object.__new__",
 su 251,
 bi 251,
 oT [.ref 114],
 bp,
 dd P [(cX,569,m_1),(iY,571,vs "FlowSequenceEndToken" 570),(dh,573,vi 104 572),(jK,575,vs "]" 574),(dj,576,.ref 261)] 5,
 t0,
 z0,
 cc "FlowSequenceEndToken" 564 104 257,
 fr 259 256 m_1,
 t0,
 dd P [(cX,569,m_1),(dh,573,vi 104 572),(jK,575,vs "]" 574),(dj,576,.ref 261),(iU,577,.none)] 2,
 kk "FlowSequenceEndToken" [.ref 114] [.ref 263,.ref 114,.type "object"] 262 [] (some (.ref 254)) 562 570 "object.__new__",
 su 263,
 bi 263,
 oT [.ref 114],
 bp,
 dd P [(cX,587,m_1),(iY,589,vs "FlowMappingEndToken" 588),(dh,591,vi 106 590),(jK,593,vs "}" 592),(dj,594,.ref 273)] 5,
 t0,
 z0,
 cc "FlowMappingEndToken" 582 106 269,
 fr 271 268 m_1,
 t0,
 dd P [(cX,587,m_1),(dh,591,vi 106 590),(jK,593,vs "}" 592),(dj,594,.ref 273),(iU,595,.none)] 2,
 kk "FlowMappingEndToken" [.ref 114] [.ref 275,.ref 114,.type "object"] 274 [] (some (.ref 266)) 580 588 "object.__new__",
 su 275,
 bi 275,
 oT [.ref 114],
 bp,
 dd P [(cX,605,m_1),(iY,607,vs "KeyToken" 606),(dh,609,vi 108 608),(jK,611,vs "?" 610),(dj,612,.ref 285)] 5,
 t0,
 z0,
 cc "KeyToken" 600 108 281,
 fr 283 280 m_1,
 t0,
 dd P [(cX,605,m_1),(dh,609,vi 108 608),(jK,611,vs "?" 610),(dj,612,.ref 285),(iU,613,.none)] 2,
 kk "KeyToken" [.ref 114] [.ref 287,.ref 114,.type "object"] 286 [] (some (.ref 278)) 598 606 "object.__new__"]
noncomputable def f6 (P:Params):List Obj:=[
 su 287,
 bi 287,
 oT [.ref 114],
 bp,
 dd P [(cX,623,m_1),(iY,625,vs "ValueToken" 624),(dh,627,vi 110 626),(jK,629,vs ":" 628),(dj,630,.ref 297)] 5,
 t0,
 z0,
 cc "ValueToken" 618 110 293,
 fr 295 292 m_1,
 t0,
 dd P [(cX,623,m_1),(dh,627,vi 110 626),(jK,629,vs ":" 628),(dj,630,.ref 297),(iU,631,.none)] 2,
 kk "ValueToken" [.ref 114] [.ref 299,.ref 114,.type "object"] 298 [] (some (.ref 290)) 616 624 "object.__new__",
 su 299,
 bi 299,
 oT [.ref 114],
 bp,
 dd P [(cX,641,m_1),(iY,643,vs "BlockEntryToken" 642),(dh,645,vi 112 644),(jK,647,vs "-" 646),(dj,648,.ref 309)] 5,
 t0,
 z0,
 cc "BlockEntryToken" 636 112 305,
 fr 307 304 m_1,
 t0,
 dd P [(cX,641,m_1),(dh,645,vi 112 644),(jK,647,vs "-" 646),(dj,648,.ref 309),(iU,649,.none)] 2,
 kk "BlockEntryToken" [.ref 114] [.ref 311,.ref 114,.type "object"] 310 [] (some (.ref 302)) 634 642 "object.__new__",
 su 311,
 bi 311,
 oT [.ref 114],
 bp,
 dd P [(cX,659,m_1),(iY,661,vs "FlowEntryToken" 660),(dh,663,vi 114 662),(jK,665,vs "," 664),(dj,666,.ref 321)] 5,
 t0,
 z0,
 cc "FlowEntryToken" 654 114 317,
 fr 319 316 m_1,
 t0,
 dd P [(cX,659,m_1),(dh,663,vi 114 662),(jK,665,vs "," 664),(dj,666,.ref 321),(iU,667,.none)] 2,
 kk "FlowEntryToken" [.ref 114] [.ref 323,.ref 114,.type "object"] 322 [] (some (.ref 314)) 652 660 "object.__new__",
 su 323,
 bi 323,
 oT [.ref 114],
 bp,
 dd P [(cX,677,m_1),(iY,679,vs "AliasToken" 678),(dh,681,vi 116 680),(jK,683,vs "<alias>" 682),(jL,693,.ref 339),(dj,697,.ref 340)] 6,
 t0,
 oF [i0 119,i0 4,.ref 338],
 cc "AliasToken" 672 116 329,
 fr 331 328 m_1,
 t0,
 z0,
 tn 687 ["self","value","start_mark","end_mark"]]
noncomputable def f7 (P:Params):List Obj:=[
 t0,
 rf (mS 23 1) "AliasToken.__init__",
 cf "__init__" "AliasToken.__init__" 684 119 4 333 691,
 gf (mS 23 1) "AliasToken.__init__" .none m_1 338,
 tn 694 ["end_mark","start_mark","value"],
 dd P [(cX,677,m_1),(dh,681,vi 116 680),(jK,683,vs "<alias>" 682),(jL,693,.ref 339),(dj,697,.ref 340),(iU,698,.none)] 2,
 kk "AliasToken" [.ref 114] [.ref 342,.ref 114,.type "object"] 341 [] (some (.ref 326)) 670 678 "object.__new__",
 su 342,
 bi 342,
 oT [.ref 114],
 bp,
 dd P [(cX,708,m_1),(iY,710,vs "AnchorToken" 709),(dh,712,vi 123 711),(jK,714,vs "<anchor>" 713),(jL,724,.ref 358),(dj,728,.ref 359)] 6,
 t0,
 oF [i0 126,i0 4,.ref 357],
 cc "AnchorToken" 703 123 348,
 fr 350 347 m_1,
 t0,
 z0,
 tn 718 ["self","value","start_mark","end_mark"],
 t0,
 rf (mS 24 1) "AnchorToken.__init__",
 cf "__init__" "AnchorToken.__init__" 715 126 4 352 722,
 gf (mS 24 1) "AnchorToken.__init__" .none m_1 357,
 tn 725 ["end_mark","start_mark","value"],
 dd P [(cX,708,m_1),(dh,712,vi 123 711),(jK,714,vs "<anchor>" 713),(jL,724,.ref 358),(dj,728,.ref 359),(iU,729,.none)] 2,
 kk "AnchorToken" [.ref 114] [.ref 361,.ref 114,.type "object"] 360 [] (some (.ref 345)) 701 709 "object.__new__",
 su 361,
 bi 361,
 oT [.ref 114],
 bp,
 dd P [(cX,739,m_1),(iY,741,vs "TagToken" 740),(dh,743,vi 130 742),(jK,745,vs "<tag>" 744),(jL,755,.ref 377),(dj,759,.ref 378)] 6,
 t0,
 oF [i0 133,i0 4,.ref 376],
 cc "TagToken" 734 130 367,
 fr 369 366 m_1,
 t0,
 z0,
 tn 749 ["self","value","start_mark","end_mark"],
 t0,
 rf (mS 25 1) "TagToken.__init__",
 cf "__init__" "TagToken.__init__" 746 133 4 371 753,
 gf (mS 25 1) "TagToken.__init__" .none m_1 376,
 tn 756 ["end_mark","start_mark","value"],
 dd P [(cX,739,m_1),(dh,743,vi 130 742),(jK,745,vs "<tag>" 744),(jL,755,.ref 377),(dj,759,.ref 378),(iU,760,.none)] 2,
 kk "TagToken" [.ref 114] [.ref 380,.ref 114,.type "object"] 379 [] (some (.ref 364)) 732 740 "object.__new__",
 su 380,
 bi 380,
 oT [.ref 114]]
noncomputable def f8 (P:Params):List Obj:=[
 bp,
 dd P [(cX,770,m_1),(iY,772,vs "ScalarToken" 771),(dh,774,vi 137 773),(jK,776,vs "<scalar>" 775),(jL,788,.ref 397),(dj,794,.ref 398)] 6,
 t0,
 oF [i0 140,i0 4,.ref 396],
 cc "ScalarToken" 765 137 386,
 fr 388 385 m_1,
 oT [.none],
 t0,
 z0,
 tn 780 ["self","value","plain","start_mark","end_mark","style"],
 t0,
 rf (mS 26 1) "ScalarToken.__init__",
 cf "__init__" "ScalarToken.__init__" 777 140 6 391 786,
 gf (mS 26 1) "ScalarToken.__init__" (.ref 390) m_1 396,
 tn 789 ["end_mark","plain","start_mark","style","value"],
 dd P [(cX,770,m_1),(dh,774,vi 137 773),(jK,776,vs "<scalar>" 775),(jL,788,.ref 397),(dj,794,.ref 398),(iU,795,.none)] 2,
 kk "ScalarToken" [.ref 114] [.ref 400,.ref 114,.type "object"] 399 [] (some (.ref 383)) 763 771 "object.__new__",
 su 400,
 bi 400,
 oT [.type "object"],
 bp,
 dd P [(cX,807,m_2),(iY,809,vs "Event" 808),(dh,811,vi 147 810),(jL,820,.ref 417),("__repr__",827,.ref 424),(dj,830,.ref 425)] 6,
 t0,
 oF [i0 149,i0 4,.ref 416,i0 153,i0 4,.ref 423],
 cc "Event" 802 147 406,
 fr 408 405 m_2,
 oT [.none,.none],
 t0,
 z0,
 tn 815 ["self","start_mark","end_mark"],
 t0,
 rf (mS 28 0) "Event.__init__",
 cf "__init__" "Event.__init__" 812 149 3 411 818,
 gf (mS 28 0) "Event.__init__" (.ref 410) m_2 416,
 t0,
 z0,
 tn 824 ["self"],
 t0,
 rf (mS 28 1) "Event.__repr__",
 cf "__repr__" "Event.__repr__" 821 153 1 418 825,
 gf (mS 28 1) "Event.__repr__" .none m_2 423,
 tn 828 ["end_mark","start_mark"],
 dd P [(cX,807,m_2),(dh,811,vi 147 810),(jL,820,.ref 417),("__repr__",827,.ref 424),(dj,830,.ref 425),("__dict__",832,.ref 428),("__weakref__",834,.ref 429),(iU,835,.none)] 4,
 kk "Event" [.type "object"] [.ref 427,.type "object"] 426 [.ref 449,.ref 481,.ref 501,.ref 513,.ref 533,.ref 553] (some (.ref 403)) 800 808 "object.__new__",
 oX "getset_descriptor" [vs "__dict__" 831,.ref 427,.builtin "function.__dict__",.builtin "function.__dict__#set"],
 oX "getset_descriptor" [vs "__weakref__" 833,.ref 427,.builtin "ExceptionGroup.__weakref__",.none],
 su 427,
 bi 427]
noncomputable def f9 (P:Params):List Obj:=[
 oT [.ref 427],
 bp,
 dd P [(cX,845,m_2),(iY,847,vs "NodeEvent" 846),(dh,849,vi 155 848),(jL,859,.ref 446),(dj,863,.ref 447)] 5,
 t0,
 oF [i0 157,i0 4,.ref 445],
 cc "NodeEvent" 840 155 435,
 fr 437 434 m_2,
 oT [.none,.none],
 t0,
 z0,
 tn 853 ["self","anchor","start_mark","end_mark"],
 t0,
 rf (mS 29 0) "NodeEvent.__init__",
 cf "__init__" "NodeEvent.__init__" 850 157 4 440 857,
 gf (mS 29 0) "NodeEvent.__init__" (.ref 439) m_2 445,
 tn 860 ["anchor","end_mark","start_mark"],
 dd P [(cX,845,m_2),(dh,849,vi 155 848),(jL,859,.ref 446),(dj,863,.ref 447),(iU,864,.none)] 2,
 kk "NodeEvent" [.ref 427] [.ref 449,.ref 427,.type "object"] 448 [.ref 469,.ref 565,.ref 585] (some (.ref 432)) 838 846 "object.__new__",
 su 449,
 bi 449,
 oT [.ref 449],
 bp,
 dd P [(cX,874,m_2),(iY,876,vs "CollectionStartEvent" 875),(dh,878,vi 161 877),(jL,891,.ref 466),(dj,898,.ref 467)] 5,
 t0,
 oF [i0 163,i0 4,.ref 465],
 cc "CollectionStartEvent" 869 161 455,
 fr 457 454 m_2,
 oT [.none,.none,.none],
 t0,
 z0,
 tn 882 ["self","anchor","tag","implicit","start_mark","end_mark","flow_style"],
 t0,
 rf (mS 30 0) "CollectionStartEvent.__init__",
 cf "__init__" "CollectionStartEvent.__init__" 879 163 7 460 889,
 gf (mS 30 0) "CollectionStartEvent.__init__" (.ref 459) m_2 465,
 tn 892 ["anchor","end_mark","flow_style","implicit","start_mark","tag"],
 dd P [(cX,874,m_2),(dh,878,vi 161 877),(jL,891,.ref 466),(dj,898,.ref 467),(iU,899,.none)] 2,
 kk "CollectionStartEvent" [.ref 449] [.ref 469,.ref 449,.ref 427,.type "object"] 468 [.ref 597,.ref 621] (some (.ref 452)) 867 875 "object.__new__",
 su 469,
 bi 469,
 oT [.ref 427],
 bp,
 dd P [(cX,909,m_2),(iY,911,vs "CollectionEndEvent" 910),(dh,913,vi 170 912),(dj,914,.ref 479)] 4,
 t0,
 z0,
 cc "CollectionEndEvent" 904 170 475,
 fr 477 474 m_2,
 t0]
noncomputable def f10 (P:Params):List Obj:=[
 dd P [(cX,909,m_2),(dh,913,vi 170 912),(dj,914,.ref 479),(iU,915,.none)] 2,
 kk "CollectionEndEvent" [.ref 427] [.ref 481,.ref 427,.type "object"] 480 [.ref 609,.ref 633] (some (.ref 472)) 902 910 "object.__new__",
 su 481,
 bi 481,
 oT [.ref 427],
 bp,
 dd P [(cX,925,m_2),(iY,927,vs "StreamStartEvent" 926),(dh,929,vi 172 928),(jL,939,.ref 498),(dj,943,.ref 499)] 5,
 t0,
 oF [i0 174,i0 4,.ref 497],
 cc "StreamStartEvent" 920 172 487,
 fr 489 486 m_2,
 oT [.none,.none,.none],
 t0,
 z0,
 tn 933 ["self","start_mark","end_mark","encoding"],
 t0,
 rf (mS 32 0) "StreamStartEvent.__init__",
 cf "__init__" "StreamStartEvent.__init__" 930 174 4 492 937,
 gf (mS 32 0) "StreamStartEvent.__init__" (.ref 491) m_2 497,
 tn 940 ["encoding","end_mark","start_mark"],
 dd P [(cX,925,m_2),(dh,929,vi 172 928),(jL,939,.ref 498),(dj,943,.ref 499),(iU,944,.none)] 2,
 kk "StreamStartEvent" [.ref 427] [.ref 501,.ref 427,.type "object"] 500 [] (some (.ref 484)) 918 926 "object.__new__",
 su 501,
 bi 501,
 oT [.ref 427],
 bp,
 dd P [(cX,954,m_2),(iY,956,vs "StreamEndEvent" 955),(dh,958,vi 178 957),(dj,959,.ref 511)] 4,
 t0,
 z0,
 cc "StreamEndEvent" 949 178 507,
 fr 509 506 m_2,
 t0,
 dd P [(cX,954,m_2),(dh,958,vi 178 957),(dj,959,.ref 511),(iU,960,.none)] 2,
 kk "StreamEndEvent" [.ref 427] [.ref 513,.ref 427,.type "object"] 512 [] (some (.ref 504)) 947 955 "object.__new__",
 su 513,
 bi 513,
 oT [.ref 427],
 bp,
 dd P [(cX,970,m_2),(iY,972,vs "DocumentStartEvent" 971),(dh,974,vi 180 973),(jL,986,.ref 530),(dj,992,.ref 531)] 5,
 t0,
 oF [i0 182,i0 4,.ref 529],
 cc "DocumentStartEvent" 965 180 519,
 fr 521 518 m_2,
 oT [.none,.none,.none,.none,.none],
 t0,
 z0,
 tn 978 ["self","start_mark","end_mark","explicit","version","tags"],
 t0]
noncomputable def f11 (P:Params):List Obj:=[
 rf (mS 34 0) "DocumentStartEvent.__init__",
 cf "__init__" "DocumentStartEvent.__init__" 975 182 6 524 984,
 gf (mS 34 0) "DocumentStartEvent.__init__" (.ref 523) m_2 529,
 tn 987 ["end_mark","explicit","start_mark","tags","version"],
 dd P [(cX,970,m_2),(dh,974,vi 180 973),(jL,986,.ref 530),(dj,992,.ref 531),(iU,993,.none)] 2,
 kk "DocumentStartEvent" [.ref 427] [.ref 533,.ref 427,.type "object"] 532 [] (some (.ref 516)) 963 971 "object.__new__",
 su 533,
 bi 533,
 oT [.ref 427],
 bp,
 dd P [(cX,1003,m_2),(iY,1005,vs "DocumentEndEvent" 1004),(dh,1007,vi 188 1006),(jL,1017,.ref 550),(dj,1021,.ref 551)] 5,
 t0,
 oF [i0 190,i0 4,.ref 549],
 cc "DocumentEndEvent" 998 188 539,
 fr 541 538 m_2,
 oT [.none,.none,.none],
 t0,
 z0,
 tn 1011 ["self","start_mark","end_mark","explicit"],
 t0,
 rf (mS 35 0) "DocumentEndEvent.__init__",
 cf "__init__" "DocumentEndEvent.__init__" 1008 190 4 544 1015,
 gf (mS 35 0) "DocumentEndEvent.__init__" (.ref 543) m_2 549,
 tn 1018 ["end_mark","explicit","start_mark"],
 dd P [(cX,1003,m_2),(dh,1007,vi 188 1006),(jL,1017,.ref 550),(dj,1021,.ref 551),(iU,1022,.none)] 2,
 kk "DocumentEndEvent" [.ref 427] [.ref 553,.ref 427,.type "object"] 552 [] (some (.ref 536)) 996 1004 "object.__new__",
 su 553,
 bi 553,
 oT [.ref 449],
 bp,
 dd P [(cX,1032,m_2),(iY,1034,vs "AliasEvent" 1033),(dh,1036,vi 194 1035),(dj,1037,.ref 563)] 4,
 t0,
 z0,
 cc "AliasEvent" 1027 194 559,
 fr 561 558 m_2,
 t0,
 dd P [(cX,1032,m_2),(dh,1036,vi 194 1035),(dj,1037,.ref 563),(iU,1038,.none)] 2,
 kk "AliasEvent" [.ref 449] [.ref 565,.ref 449,.ref 427,.type "object"] 564 [] (some (.ref 556)) 1025 1033 "object.__new__",
 su 565,
 bi 565,
 oT [.ref 449],
 bp,
 dd P [(cX,1048,m_2),(iY,1050,vs "ScalarEvent" 1049),(dh,1052,vi 196 1051),(jL,1066,.ref 582),(dj,1074,.ref 583)] 5,
 t0,
 oF [i0 198,i0 4,.ref 581],
 cc "ScalarEvent" 1043 196 571,
 fr 573 570 m_2,
 oT [.none,.none,.none]]
noncomputable def f12 (P:Params):List Obj:=[
 t0,
 z0,
 tn 1056 ["self","anchor","tag","implicit","value","start_mark","end_mark","style"],
 t0,
 rf (mS 37 0) "ScalarEvent.__init__",
 cf "__init__" "ScalarEvent.__init__" 1053 198 8 576 1064,
 gf (mS 37 0) "ScalarEvent.__init__" (.ref 575) m_2 581,
 tn 1067 ["anchor","end_mark","implicit","start_mark","style","tag","value"],
 dd P [(cX,1048,m_2),(dh,1052,vi 196 1051),(jL,1066,.ref 582),(dj,1074,.ref 583),(iU,1075,.none)] 2,
 kk "ScalarEvent" [.ref 449] [.ref 585,.ref 449,.ref 427,.type "object"] 584 [] (some (.ref 568)) 1041 1049 "object.__new__",
 su 585,
 bi 585,
 oT [.ref 469],
 bp,
 dd P [(cX,1085,m_2),(iY,1087,vs "SequenceStartEvent" 1086),(dh,1089,vi 206 1088),(dj,1090,.ref 595)] 4,
 t0,
 z0,
 cc "SequenceStartEvent" 1080 206 591,
 fr 593 590 m_2,
 t0,
 dd P [(cX,1085,m_2),(dh,1089,vi 206 1088),(dj,1090,.ref 595),(iU,1091,.none)] 2,
 kk "SequenceStartEvent" [.ref 469] [.ref 597,.ref 469,.ref 449,.ref 427,.type "object"] 596 [] (some (.ref 588)) 1078 1086 "object.__new__",
 su 597,
 bi 597,
 oT [.ref 481],
 bp,
 dd P [(cX,1101,m_2),(iY,1103,vs "SequenceEndEvent" 1102),(dh,1105,vi 208 1104),(dj,1106,.ref 607)] 4,
 t0,
 z0,
 cc "SequenceEndEvent" 1096 208 603,
 fr 605 602 m_2,
 t0,
 dd P [(cX,1101,m_2),(dh,1105,vi 208 1104),(dj,1106,.ref 607),(iU,1107,.none)] 2,
 kk "SequenceEndEvent" [.ref 481] [.ref 609,.ref 481,.ref 427,.type "object"] 608 [] (some (.ref 600)) 1094 1102 "object.__new__",
 su 609,
 bi 609,
 oT [.ref 469],
 bp,
 dd P [(cX,1117,m_2),(iY,1119,vs "MappingStartEvent" 1118),(dh,1121,vi 210 1120),(dj,1122,.ref 619)] 4,
 t0,
 z0,
 cc "MappingStartEvent" 1112 210 615,
 fr 617 614 m_2,
 t0,
 dd P [(cX,1117,m_2),(dh,1121,vi 210 1120),(dj,1122,.ref 619),(iU,1123,.none)] 2,
 kk "MappingStartEvent" [.ref 469] [.ref 621,.ref 469,.ref 449,.ref 427,.type "object"] 620 [] (some (.ref 612)) 1110 1118 "object.__new__",
 su 621,
 bi 621]
noncomputable def f13 (P:Params):List Obj:=[
 oT [.ref 481],
 bp,
 dd P [(cX,1133,m_2),(iY,1135,vs "MappingEndEvent" 1134),(dh,1137,vi 212 1136),(dj,1138,.ref 631)] 4,
 t0,
 z0,
 cc "MappingEndEvent" 1128 212 627,
 fr 629 626 m_2,
 t0,
 dd P [(cX,1133,m_2),(dh,1137,vi 212 1136),(dj,1138,.ref 631),(iU,1139,.none)] 2,
 kk "MappingEndEvent" [.ref 481] [.ref 633,.ref 481,.ref 427,.type "object"] 632 [] (some (.ref 624)) 1126 1134 "object.__new__",
 su 633,
 bi 633,
 oT [.ref 67],
 bp,
 dd P [(cX,1151,zQ),(iY,1153,vs "ReaderError" 1152),(dh,1155,vi 215 1154),(jL,1167,.ref 649),("__str__",1174,.ref 656),(dj,1180,.ref 657)] 6,
 t0,
 oF [i0 217,i0 4,.ref 648,i0 224,i0 4,.ref 655],
 cc "ReaderError" 1146 215 639,
 fr 641 638 zQ,
 t0,
 z0,
 tn 1159 ["self","name","position","character","encoding","reason"],
 t0,
 rf (mS 43 0) "ReaderError.__init__",
 cf "__init__" "ReaderError.__init__" 1156 217 6 643 1165,
 gf (mS 43 0) "ReaderError.__init__" .none zQ 648,
 t0,
 z0,
 tn 1171 ["self"],
 t0,
 rf (mS 43 1) "ReaderError.__str__",
 cf "__str__" "ReaderError.__str__" 1168 224 1 650 1172,
 gf (mS 43 1) "ReaderError.__str__" .none zQ 655,
 tn 1175 ["character","encoding","name","position","reason"],
 dd P [(cX,1151,zQ),(dh,1155,vi 215 1154),(jL,1167,.ref 649),("__str__",1174,.ref 656),(dj,1180,.ref 657),(iU,1181,.none)] 2,
 kk "ReaderError" [.ref 67] [.ref 659,.ref 67,.type "Exception",.type "BaseException",.type "object"] 658 [] (some (.ref 636)) 1144 1152 "Exception.__new__",
 su 659,
 bi 659,
 t0,
 z0,
 tn 1187 ["ch"],
 t0,
 rf (tS 44) "_is_printable",
 cf "_is_printable" "_is_printable" 1184 229 1 662 1188,
 gf (tS 44) "_is_printable" .none zQ 667,
 oT [.type "object"],
 bp,
 dd P [(cX,1198,zQ),(iY,1200,vs "Reader" 1199),(dh,1202,vi 231 1201),(jL,1210,.ref 682),("peek",1219,.ref 690),("prefix",1228,.ref 698),("forward",1238,.ref 706),("get_mark",1245,.ref 713),("check_printable",1256,.ref 720),("update",1264,.ref 727),(dj,1277,.ref 728)] 11]
noncomputable def f14 (P:Params):List Obj:=[
 t0,
 oF [i0 233,i0 4,.ref 681,i0 251,i0 4,.ref 689,i0 258,i0 4,.ref 697,i0 263,i0 4,.ref 705,i0 277,i0 4,.ref 712,i0 283,i0 4,.ref 719,i0 289,i0 4,.ref 726],
 cc "Reader" 1193 231 672,
 fr 674 671 zQ,
 t0,
 z0,
 tn 1206 ["self","stream"],
 t0,
 rf (mS 45 0) "Reader.__init__",
 cf "__init__" "Reader.__init__" 1203 233 2 676 1208,
 gf (mS 45 0) "Reader.__init__" .none zQ 681,
 oT [vi 0 1211],
 t0,
 z0,
 tn 1215 ["self","index"],
 t0,
 rf (mS 45 1) "Reader.peek",
 cf "peek" "Reader.peek" 1212 251 2 684 1217,
 gf (mS 45 1) "Reader.peek" (.ref 683) zQ 689,
 oT [vi 1 1220],
 t0,
 z0,
 tn 1224 ["self","length"],
 t0,
 rf (mS 45 2) "Reader.prefix",
 cf "prefix" "Reader.prefix" 1221 258 2 692 1226,
 gf (mS 45 2) "Reader.prefix" (.ref 691) zQ 697,
 oT [vi 1 1229],
 t0,
 z0,
 tn 1233 ["self","length","ch"],
 t0,
 rf (mS 45 3) "Reader.forward",
 cf "forward" "Reader.forward" 1230 263 2 700 1236,
 gf (mS 45 3) "Reader.forward" (.ref 699) zQ 705,
 t0,
 z0,
 tn 1242 ["self"],
 t0,
 rf (mS 45 4) "Reader.get_mark",
 cf "get_mark" "Reader.get_mark" 1239 277 1 707 1243,
 gf (mS 45 4) "Reader.get_mark" .none zQ 712,
 t0,
 z0,
 tn 1249 ["self","data","start","character","position"],
 t0,
 rf (mS 45 5) "Reader.check_printable",
 cf "check_printable" "Reader.check_printable" 1246 283 2 714 1254]
noncomputable def f15 (P:Params):List Obj:=[
 gf (mS 45 5) "Reader.check_printable" .none zQ 719,
 t0,
 z0,
 tn 1260 ["self","length"],
 t0,
 rf (mS 45 6) "Reader.update",
 cf "update" "Reader.update" 1257 289 2 721 1262,
 gf (mS 45 6) "Reader.update" .none zQ 726,
 tn 1265 ["buffer","column","encoding","eof","index","line","name","pointer","raw_buffer","raw_decode","stream","stream_pointer"],
 dd P [(cX,1198,zQ),(dh,1202,vi 231 1201),(jL,1210,.ref 682),("peek",1219,.ref 690),("prefix",1228,.ref 698),("forward",1238,.ref 706),("get_mark",1245,.ref 713),("check_printable",1256,.ref 720),("update",1264,.ref 727),(dj,1277,.ref 728),("__dict__",1279,.ref 731),("__weakref__",1281,.ref 732),(iU,1282,.none)] 4,
 Zg [.ref 1281],
 oX "getset_descriptor" [vs "__dict__" 1278,.ref 730,.builtin "function.__dict__",.builtin "function.__dict__#set"],
 oX "getset_descriptor" [vs "__weakref__" 1280,.ref 730,.builtin "ExceptionGroup.__weakref__",.none],
 su 730,
 bi 730,
 oT [.ref 95],
 bp,
 dd P [(cX,1294,dF),(iY,1296,vs "ScannerError" 1295),(dh,1298,vi 293 1297),(dj,1299,.ref 742)] 4,
 t0,
 z0,
 cc "ScannerError" 1289 293 738,
 fr 740 737 dF,
 t0,
 dd P [(cX,1294,dF),(dh,1298,vi 293 1297),(dj,1299,.ref 742),(iU,1300,.none)] 2,
 kk "ScannerError" [.ref 95] [.ref 744,.ref 95,.ref 67,.type "Exception",.type "BaseException",.type "object"] 743 [] (some (.ref 735)) 1287 1295 "Exception.__new__",
 su 744,
 bi 744,
 t0,
 bp,
 dd P [(cX,1310,dF),(iY,1312,vs "SimpleKey" 1311),(dh,1314,vi 295 1313),(jL,1327,.ref 760),(dj,1334,.ref 761)] 5,
 t0,
 oF [i0 297,i0 4,.ref 759],
 cc "SimpleKey" 1305 295 750,
 fr 752 749 dF,
 t0,
 z0,
 tn 1318 ["self","token_number","required","index","line","column","mark"],
 t0,
 rf (mS 48 0) "SimpleKey.__init__",
 cf "__init__" "SimpleKey.__init__" 1315 297 7 754 1325,
 gf (mS 48 0) "SimpleKey.__init__" .none dF 759,
 tn 1328 ["column","index","line","mark","required","token_number"],
 dd P [(cX,1310,dF),(dh,1314,vi 295 1313),(jL,1327,.ref 760),(dj,1334,.ref 761),("__dict__",1336,.ref 764),("__weakref__",1338,.ref 765),(iU,1339,.none)] 4,
 kk "SimpleKey" [.type "object"] [.ref 763,.type "object"] 762 [] none 1303 1311 "object.__new__",
 oX "getset_descriptor" [vs "__dict__" 1335,.ref 763,.builtin "function.__dict__",.builtin "function.__dict__#set"],
 oX "getset_descriptor" [vs "__weakref__" 1337,.ref 763,.builtin "ExceptionGroup.__weakref__",.none],
 su 763,
 bi 763]
noncomputable def Xr (P:Params):List Obj:=[
 oT [.ref 730],
 bp,
 dd P ([(cX,1349,dF),(iY,1351,vs "Scanner" 1350)]++(cS++[("__classcell__",2094,.ref 771)])) 78,
 oL (some (.ref 1281)),
 t0,
 oF [i0 306,i0 4,.ref 782,i0 318,i0 4,.ref 791,i0 328,i0 4,.ref 798,i0 336,i0 4,.ref 805,i0 343,i0 4,.ref 812,i0 352,i0 4,.ref 819,i0 399,i0 4,.ref 826,i0 407,i0 4,.ref 833,i0 415,i0 4,.ref 840,i0 423,i0 4,.ref 847,i0 430,i0 4,.ref 854,i0 438,i0 4,.ref 861,i0 445,i0 4,.ref 868,i0 449,i0 4,.ref 875,i0 458,i0 4,.ref 882,i0 464,i0 4,.ref 889,i0 467,i0 4,.ref 896,i0 470,i0 4,.ref 903,i0 479,i0 4,.ref 910,i0 482,i0 4,.ref 917,i0 485,i0 4,.ref 924,i0 494,i0 4,.ref 931,i0 497,i0 4,.ref 938,i0 500,i0 4,.ref 945,i0 509,i0 4,.ref 952,i0 517,i0 4,.ref 959,i0 533,i0 4,.ref 966,i0 547,i0 4,.ref 973,i0 571,i0 4,.ref 980,i0 576,i0 4,.ref 987,i0 581,i0 4,.ref 994,i0 586,i0 4,.ref 1001,i0 589,i0 4,.ref 1008,i0 592,i0 4,.ref 1015,i0 597,i0 4,.ref 1022,i0 600,i0 4,.ref 1029,i0 603,i0 4,.ref 1036,i0 608,i0 4,.ref 1043,i0 613,i0 4,.ref 1050,i0 617,i0 4,.ref 1057,i0 622,i0 4,.ref 1064,i0 627,i0 4,.ref 1071,i0 630,i0 4,.ref 1078,i0 636,i0 4,.ref 1085,i0 642,i0 4,.ref 1092,i0 646,i0 4,.ref 1099,i0 662,i0 4,.ref 1106,i0 680,i0 4,.ref 1113,i0 695,i0 4,.ref 1120,i0 707,i0 4,.ref 1127,i0 718,i0 4,.ref 1134,i0 727,i0 4,.ref 1141,i0 734,i0 4,.ref 1148,i0 741,i0 4,.ref 1155,i0 752,i0 4,.ref 1162,i0 775,i0 4,.ref 1169,i0 812,i0 4,.ref 1176,i0 856,i0 4,.ref 1183,i0 889,i0 4,.ref 1190,i0 900,i0 4,.ref 1197,i0 914,i0 4,.ref 1204,i0 926,i0 4,.ref 1211,i0 945,i0 4,.ref 1221,i0 984,i0 4,.ref 1228,i0 1006,i0 4,.ref 1235,i0 1019,i0 4,.ref 1242,i0 1046,i0 4,.ref 1249,i0 1078,i0 4,.ref 1256,i0 1096,i0 4,.ref 1263,i0 1117,i0 4,.ref 1270,i0 1133,i0 4,.ref 1277],
 cc "Scanner" 1344 304 772,
 fr 774 770 dF,
 oT [.ref 771],
 tn 1357 ["__class__"],
 z0,
 tn 1358 ["self","stream"],
 t0,
 rf (mS 49 0) "Scanner.__init__",
 cf "__init__" "Scanner.__init__" 1354 306 2 777 1360,
 oG (fd (mS 49 0) "Scanner.__init__" 3 [("__class__",771)] (.none) (.none) (.none) (dF) (.ref 782) (.ref 776)),
 t0,
 oT [.ref 784],
 t0,
 z0,
 tn 1366 ["self","choices"],
 t0,
 rf (mS 49 1) "Scanner.check_token",
 cf "check_token" "Scanner.check_token" 1363 318 2 786 1368,
 gf (mS 49 1) "Scanner.check_token" (.ref 785) dF 791,
 t0,
 z0,
 tn 1374 ["self"],
 t0,
 rf (mS 49 2) "Scanner.peek_token",
 cf "peek_token" "Scanner.peek_token" 1371 328 1 793 1375,
 gf (mS 49 2) "Scanner.peek_token" .none dF 798,
 t0,
 z0,
 tn 1381 ["self"],
 t0,
 rf (mS 49 3) "Scanner.get_token",
 cf "get_token" "Scanner.get_token" 1378 336 1 800 1382,
 gf (mS 49 3) "Scanner.get_token" .none dF 805,
 t0,
 z0,
 tn 1388 ["self"],
 t0,
 rf (mS 49 4) "Scanner.need_more_tokens",
 cf "need_more_tokens" "Scanner.need_more_tokens" 1385 343 1 807 1389,
 gf (mS 49 4) "Scanner.need_more_tokens" .none dF 812,
 t0,
 z0]
noncomputable def f17 (P:Params):List Obj:=[
 tn 1395 ["self","ch"],
 t0,
 rf (mS 49 5) "Scanner.fetch_more_tokens",
 cf "fetch_more_tokens" "Scanner.fetch_more_tokens" 1392 352 1 814 1397,
 gf (mS 49 5) "Scanner.fetch_more_tokens" .none dF 819,
 t0,
 z0,
 tn 1403 ["self","min_token_number","level","key"],
 t0,
 rf (mS 49 6) "Scanner.next_possible_simple_key",
 cf "next_possible_simple_key" "Scanner.next_possible_simple_key" 1400 399 1 821 1407,
 gf (mS 49 6) "Scanner.next_possible_simple_key" .none dF 826,
 t0,
 z0,
 tn 1413 ["self","level","key"],
 t0,
 rf (mS 49 7) "Scanner.stale_possible_simple_keys",
 cf "stale_possible_simple_keys" "Scanner.stale_possible_simple_keys" 1410 407 1 828 1416,
 gf (mS 49 7) "Scanner.stale_possible_simple_keys" .none dF 833,
 t0,
 z0,
 tn 1422 ["self","required","token_number","key"],
 t0,
 rf (mS 49 8) "Scanner.save_possible_simple_key",
 cf "save_possible_simple_key" "Scanner.save_possible_simple_key" 1419 415 1 835 1426,
 gf (mS 49 8) "Scanner.save_possible_simple_key" .none dF 840,
 t0,
 z0,
 tn 1432 ["self","key"],
 t0,
 rf (mS 49 9) "Scanner.remove_possible_simple_key",
 cf "remove_possible_simple_key" "Scanner.remove_possible_simple_key" 1429 423 1 842 1434,
 gf (mS 49 9) "Scanner.remove_possible_simple_key" .none dF 847,
 t0,
 z0,
 tn 1440 ["self","column","mark"],
 t0,
 rf (mS 49 10) "Scanner.unwind_indent",
 cf "unwind_indent" "Scanner.unwind_indent" 1437 430 2 849 1443,
 gf (mS 49 10) "Scanner.unwind_indent" .none dF 854,
 t0,
 z0,
 tn 1449 ["self","column"],
 t0,
 rf (mS 49 11) "Scanner.add_indent",
 cf "add_indent" "Scanner.add_indent" 1446 438 2 856 1451,
 gf (mS 49 11) "Scanner.add_indent" .none dF 861,
 t0]
noncomputable def f18 (P:Params):List Obj:=[
 z0,
 tn 1457 ["self","mark"],
 t0,
 rf (mS 49 12) "Scanner.fetch_stream_start",
 cf "fetch_stream_start" "Scanner.fetch_stream_start" 1454 445 1 863 1459,
 gf (mS 49 12) "Scanner.fetch_stream_start" .none dF 868,
 t0,
 z0,
 tn 1465 ["self","mark"],
 t0,
 rf (mS 49 13) "Scanner.fetch_stream_end",
 cf "fetch_stream_end" "Scanner.fetch_stream_end" 1462 449 1 870 1467,
 gf (mS 49 13) "Scanner.fetch_stream_end" .none dF 875,
 t0,
 z0,
 tn 1473 ["self"],
 t0,
 rf (mS 49 14) "Scanner.fetch_directive",
 cf "fetch_directive" "Scanner.fetch_directive" 1470 458 1 877 1474,
 gf (mS 49 14) "Scanner.fetch_directive" .none dF 882,
 t0,
 z0,
 tn 1480 ["self"],
 t0,
 rf (mS 49 15) "Scanner.fetch_document_start",
 cf "fetch_document_start" "Scanner.fetch_document_start" 1477 464 1 884 1481,
 gf (mS 49 15) "Scanner.fetch_document_start" .none dF 889,
 t0,
 z0,
 tn 1487 ["self"],
 t0,
 rf (mS 49 16) "Scanner.fetch_document_end",
 cf "fetch_document_end" "Scanner.fetch_document_end" 1484 467 1 891 1488,
 gf (mS 49 16) "Scanner.fetch_document_end" .none dF 896,
 t0,
 z0,
 tn 1494 ["self","TokenClass","start_mark","end_mark"],
 t0,
 rf (mS 49 17) "Scanner.fetch_document_indicator",
 cf "fetch_document_indicator" "Scanner.fetch_document_indicator" 1491 470 2 898 1498,
 gf (mS 49 17) "Scanner.fetch_document_indicator" .none dF 903,
 t0,
 z0,
 tn 1504 ["self"],
 t0,
 rf (mS 49 18) "Scanner.fetch_flow_sequence_start",
 cf "fetch_flow_sequence_start" "Scanner.fetch_flow_sequence_start" 1501 479 1 905 1505,
 gf (mS 49 18) "Scanner.fetch_flow_sequence_start" .none dF 910]
noncomputable def f19 (P:Params):List Obj:=[
 t0,
 z0,
 tn 1511 ["self"],
 t0,
 rf (mS 49 19) "Scanner.fetch_flow_mapping_start",
 cf "fetch_flow_mapping_start" "Scanner.fetch_flow_mapping_start" 1508 482 1 912 1512,
 gf (mS 49 19) "Scanner.fetch_flow_mapping_start" .none dF 917,
 t0,
 z0,
 tn 1518 ["self","TokenClass","start_mark","end_mark"],
 t0,
 rf (mS 49 20) "Scanner.fetch_flow_collection_start",
 cf "fetch_flow_collection_start" "Scanner.fetch_flow_collection_start" 1515 485 2 919 1522,
 gf (mS 49 20) "Scanner.fetch_flow_collection_start" .none dF 924,
 t0,
 z0,
 tn 1528 ["self"],
 t0,
 rf (mS 49 21) "Scanner.fetch_flow_sequence_end",
 cf "fetch_flow_sequence_end" "Scanner.fetch_flow_sequence_end" 1525 494 1 926 1529,
 gf (mS 49 21) "Scanner.fetch_flow_sequence_end" .none dF 931,
 t0,
 z0,
 tn 1535 ["self"],
 t0,
 rf (mS 49 22) "Scanner.fetch_flow_mapping_end",
 cf "fetch_flow_mapping_end" "Scanner.fetch_flow_mapping_end" 1532 497 1 933 1536,
 gf (mS 49 22) "Scanner.fetch_flow_mapping_end" .none dF 938,
 t0,
 z0,
 tn 1542 ["self","TokenClass","start_mark","end_mark"],
 t0,
 rf (mS 49 23) "Scanner.fetch_flow_collection_end",
 cf "fetch_flow_collection_end" "Scanner.fetch_flow_collection_end" 1539 500 2 940 1546,
 gf (mS 49 23) "Scanner.fetch_flow_collection_end" .none dF 945,
 t0,
 z0,
 tn 1552 ["self","start_mark","end_mark"],
 t0,
 rf (mS 49 24) "Scanner.fetch_flow_entry",
 cf "fetch_flow_entry" "Scanner.fetch_flow_entry" 1549 509 1 947 1555,
 gf (mS 49 24) "Scanner.fetch_flow_entry" .none dF 952,
 t0,
 z0,
 tn 1561 ["self","mark","start_mark","end_mark"],
 t0,
 rf (mS 49 25) "Scanner.fetch_block_entry",
 cf "fetch_block_entry" "Scanner.fetch_block_entry" 1558 517 1 954 1565]
noncomputable def f20 (P:Params):List Obj:=[
 gf (mS 49 25) "Scanner.fetch_block_entry" .none dF 959,
 t0,
 z0,
 tn 1571 ["self","mark","start_mark","end_mark"],
 t0,
 rf (mS 49 26) "Scanner.fetch_key",
 cf "fetch_key" "Scanner.fetch_key" 1568 533 1 961 1575,
 gf (mS 49 26) "Scanner.fetch_key" .none dF 966,
 t0,
 z0,
 tn 1581 ["self","key","mark","start_mark","end_mark"],
 t0,
 rf (mS 49 27) "Scanner.fetch_value",
 cf "fetch_value" "Scanner.fetch_value" 1578 547 1 968 1586,
 gf (mS 49 27) "Scanner.fetch_value" .none dF 973,
 t0,
 z0,
 tn 1592 ["self"],
 t0,
 rf (mS 49 28) "Scanner.fetch_alias",
 cf "fetch_alias" "Scanner.fetch_alias" 1589 571 1 975 1593,
 gf (mS 49 28) "Scanner.fetch_alias" .none dF 980,
 t0,
 z0,
 tn 1599 ["self"],
 t0,
 rf (mS 49 29) "Scanner.fetch_anchor",
 cf "fetch_anchor" "Scanner.fetch_anchor" 1596 576 1 982 1600,
 gf (mS 49 29) "Scanner.fetch_anchor" .none dF 987,
 t0,
 z0,
 tn 1606 ["self"],
 t0,
 rf (mS 49 30) "Scanner.fetch_tag",
 cf "fetch_tag" "Scanner.fetch_tag" 1603 581 1 989 1607,
 gf (mS 49 30) "Scanner.fetch_tag" .none dF 994,
 t0,
 z0,
 tn 1613 ["self"],
 t0,
 rf (mS 49 31) "Scanner.fetch_literal",
 cf "fetch_literal" "Scanner.fetch_literal" 1610 586 1 996 1614,
 gf (mS 49 31) "Scanner.fetch_literal" .none dF 1001,
 t0,
 z0,
 tn 1620 ["self"],
 t0,
 rf (mS 49 32) "Scanner.fetch_folded"]
noncomputable def f21 (P:Params):List Obj:=[
 cf "fetch_folded" "Scanner.fetch_folded" 1617 589 1 1003 1621,
 gf (mS 49 32) "Scanner.fetch_folded" .none dF 1008,
 t0,
 z0,
 tn 1627 ["self","style"],
 t0,
 rf (mS 49 33) "Scanner.fetch_block_scalar",
 cf "fetch_block_scalar" "Scanner.fetch_block_scalar" 1624 592 2 1010 1629,
 gf (mS 49 33) "Scanner.fetch_block_scalar" .none dF 1015,
 t0,
 z0,
 tn 1635 ["self"],
 t0,
 rf (mS 49 34) "Scanner.fetch_single",
 cf "fetch_single" "Scanner.fetch_single" 1632 597 1 1017 1636,
 gf (mS 49 34) "Scanner.fetch_single" .none dF 1022,
 t0,
 z0,
 tn 1642 ["self"],
 t0,
 rf (mS 49 35) "Scanner.fetch_double",
 cf "fetch_double" "Scanner.fetch_double" 1639 600 1 1024 1643,
 gf (mS 49 35) "Scanner.fetch_double" .none dF 1029,
 t0,
 z0,
 tn 1649 ["self","style"],
 t0,
 rf (mS 49 36) "Scanner.fetch_flow_scalar",
 cf "fetch_flow_scalar" "Scanner.fetch_flow_scalar" 1646 603 2 1031 1651,
 gf (mS 49 36) "Scanner.fetch_flow_scalar" .none dF 1036,
 t0,
 z0,
 tn 1657 ["self"],
 t0,
 rf (mS 49 37) "Scanner.fetch_plain",
 cf "fetch_plain" "Scanner.fetch_plain" 1654 608 1 1038 1658,
 gf (mS 49 37) "Scanner.fetch_plain" .none dF 1043,
 t0,
 z0,
 tn 1664 ["self"],
 t0,
 rf (mS 49 38) "Scanner.check_directive",
 cf "check_directive" "Scanner.check_directive" 1661 613 1 1045 1665,
 gf (mS 49 38) "Scanner.check_directive" .none dF 1050,
 t0,
 z0,
 tn 1671 ["self"],
 t0]
noncomputable def f22 (P:Params):List Obj:=[
 rf (mS 49 39) "Scanner.check_document_start",
 cf "check_document_start" "Scanner.check_document_start" 1668 617 1 1052 1672,
 gf (mS 49 39) "Scanner.check_document_start" .none dF 1057,
 t0,
 z0,
 tn 1678 ["self"],
 t0,
 rf (mS 49 40) "Scanner.check_document_end",
 cf "check_document_end" "Scanner.check_document_end" 1675 622 1 1059 1679,
 gf (mS 49 40) "Scanner.check_document_end" .none dF 1064,
 t0,
 z0,
 tn 1685 ["self"],
 t0,
 rf (mS 49 41) "Scanner.check_block_entry",
 cf "check_block_entry" "Scanner.check_block_entry" 1682 627 1 1066 1686,
 gf (mS 49 41) "Scanner.check_block_entry" .none dF 1071,
 t0,
 z0,
 tn 1692 ["self"],
 t0,
 rf (mS 49 42) "Scanner.check_key",
 cf "check_key" "Scanner.check_key" 1689 630 1 1073 1693,
 gf (mS 49 42) "Scanner.check_key" .none dF 1078,
 t0,
 z0,
 tn 1699 ["self"],
 t0,
 rf (mS 49 43) "Scanner.check_value",
 cf "check_value" "Scanner.check_value" 1696 636 1 1080 1700,
 gf (mS 49 43) "Scanner.check_value" .none dF 1085,
 t0,
 z0,
 tn 1706 ["self","ch"],
 t0,
 rf (mS 49 44) "Scanner.check_plain",
 cf "check_plain" "Scanner.check_plain" 1703 642 1 1087 1708,
 gf (mS 49 44) "Scanner.check_plain" .none dF 1092,
 t0,
 z0,
 tn 1714 ["self","found"],
 t0,
 rf (mS 49 45) "Scanner.scan_to_next_token",
 cf "scan_to_next_token" "Scanner.scan_to_next_token" 1711 646 1 1094 1716,
 gf (mS 49 45) "Scanner.scan_to_next_token" .none dF 1099,
 t0,
 z0,
 tn 1722 ["self","start_mark","name","value","end_mark"]]
noncomputable def f23 (P:Params):List Obj:=[
 t0,
 rf (mS 49 46) "Scanner.scan_directive",
 cf "scan_directive" "Scanner.scan_directive" 1719 662 1 1101 1727,
 gf (mS 49 46) "Scanner.scan_directive" .none dF 1106,
 t0,
 z0,
 tn 1733 ["self","start_mark","length","ch","value"],
 t0,
 rf (mS 49 47) "Scanner.scan_directive_name",
 cf "scan_directive_name" "Scanner.scan_directive_name" 1730 680 2 1108 1738,
 gf (mS 49 47) "Scanner.scan_directive_name" .none dF 1113,
 t0,
 z0,
 tn 1744 ["self","start_mark","major","minor"],
 t0,
 rf (mS 49 48) "Scanner.scan_yaml_directive_value",
 cf "scan_yaml_directive_value" "Scanner.scan_yaml_directive_value" 1741 695 2 1115 1748,
 gf (mS 49 48) "Scanner.scan_yaml_directive_value" .none dF 1120,
 t0,
 z0,
 tn 1754 ["self","start_mark","ch","length","value"],
 t0,
 rf (mS 49 49) "Scanner.scan_yaml_directive_number",
 cf "scan_yaml_directive_number" "Scanner.scan_yaml_directive_number" 1751 707 2 1122 1759,
 gf (mS 49 49) "Scanner.scan_yaml_directive_number" .none dF 1127,
 t0,
 z0,
 tn 1765 ["self","start_mark","handle","prefix"],
 t0,
 rf (mS 49 50) "Scanner.scan_tag_directive_value",
 cf "scan_tag_directive_value" "Scanner.scan_tag_directive_value" 1762 718 2 1129 1769,
 gf (mS 49 50) "Scanner.scan_tag_directive_value" .none dF 1134,
 t0,
 z0,
 tn 1775 ["self","start_mark","value","ch"],
 t0,
 rf (mS 49 51) "Scanner.scan_tag_directive_handle",
 cf "scan_tag_directive_handle" "Scanner.scan_tag_directive_handle" 1772 727 2 1136 1779,
 gf (mS 49 51) "Scanner.scan_tag_directive_handle" .none dF 1141,
 t0,
 z0,
 tn 1785 ["self","start_mark","value","ch"],
 t0,
 rf (mS 49 52) "Scanner.scan_tag_directive_prefix",
 cf "scan_tag_directive_prefix" "Scanner.scan_tag_directive_prefix" 1782 734 2 1143 1789,
 gf (mS 49 52) "Scanner.scan_tag_directive_prefix" .none dF 1148,
 t0,
 z0]
noncomputable def f24 (P:Params):List Obj:=[
 tn 1795 ["self","start_mark","ch"],
 t0,
 rf (mS 49 53) "Scanner.scan_directive_ignored_line",
 cf "scan_directive_ignored_line" "Scanner.scan_directive_ignored_line" 1792 741 2 1150 1798,
 gf (mS 49 53) "Scanner.scan_directive_ignored_line" .none dF 1155,
 t0,
 z0,
 tn 1804 ["self","TokenClass","start_mark","indicator","name","length","ch","value","end_mark"],
 t0,
 rf (mS 49 54) "Scanner.scan_anchor",
 cf "scan_anchor" "Scanner.scan_anchor" 1801 752 2 1157 1813,
 gf (mS 49 54) "Scanner.scan_anchor" .none dF 1162,
 t0,
 z0,
 tn 1819 ["self","start_mark","ch","handle","suffix","length","use_handle","value","end_mark"],
 t0,
 rf (mS 49 55) "Scanner.scan_tag",
 cf "scan_tag" "Scanner.scan_tag" 1816 775 1 1164 1828,
 gf (mS 49 55) "Scanner.scan_tag" .none dF 1169,
 t0,
 z0,
 tn 1834 ["self","style","folded","chunks","start_mark","chomping","increment","min_indent","breaks","max_indent","end_mark","indent","line_break","leading_non_space","length"],
 t0,
 rf (mS 49 56) "Scanner.scan_block_scalar",
 cf "scan_block_scalar" "Scanner.scan_block_scalar" 1831 812 2 1171 1849,
 gf (mS 49 56) "Scanner.scan_block_scalar" .none dF 1176,
 t0,
 z0,
 tn 1855 ["self","start_mark","chomping","increment","ch"],
 t0,
 rf (mS 49 57) "Scanner.scan_block_scalar_indicators",
 cf "scan_block_scalar_indicators" "Scanner.scan_block_scalar_indicators" 1852 856 2 1178 1860,
 gf (mS 49 57) "Scanner.scan_block_scalar_indicators" .none dF 1183,
 t0,
 z0,
 tn 1866 ["self","start_mark","ch"],
 t0,
 rf (mS 49 58) "Scanner.scan_block_scalar_ignored_line",
 cf "scan_block_scalar_ignored_line" "Scanner.scan_block_scalar_ignored_line" 1863 889 2 1185 1869,
 gf (mS 49 58) "Scanner.scan_block_scalar_ignored_line" .none dF 1190,
 t0,
 z0,
 tn 1875 ["self","chunks","max_indent","end_mark"],
 t0,
 rf (mS 49 59) "Scanner.scan_block_scalar_indentation",
 cf "scan_block_scalar_indentation" "Scanner.scan_block_scalar_indentation" 1872 900 1 1192 1879,
 gf (mS 49 59) "Scanner.scan_block_scalar_indentation" .none dF 1197,
 t0]
noncomputable def f25 (P:Params):List Obj:=[
 z0,
 tn 1885 ["self","indent","chunks","end_mark"],
 t0,
 rf (mS 49 60) "Scanner.scan_block_scalar_breaks",
 cf "scan_block_scalar_breaks" "Scanner.scan_block_scalar_breaks" 1882 914 2 1199 1889,
 gf (mS 49 60) "Scanner.scan_block_scalar_breaks" .none dF 1204,
 t0,
 z0,
 tn 1895 ["self","style","double","chunks","start_mark","quote","end_mark"],
 t0,
 rf (mS 49 61) "Scanner.scan_flow_scalar",
 cf "scan_flow_scalar" "Scanner.scan_flow_scalar" 1892 926 2 1206 1902,
 gf (mS 49 61) "Scanner.scan_flow_scalar" .none dF 1211,
 dd P [("0",1905,vs "\x00" 1906),("a",1908,vs "\x07" 1909),("b",1911,vs "\x08" 1912),("t",1914,vs "\x09" 1915),("\x09",1917,vs "\x09" 1918),("n",1920,vs "\x0a" 1921),("v",1923,vs "\x0b" 1924),("f",1926,vs "\x0c" 1927),("r",1929,vs "\x0d" 1930),("e",1932,vs "\x1b" 1933),(" ",1935,vs " " 1936),("\"",1938,vs "\"" 1939),("\\",1941,vs "\\" 1942),("/",1944,vs "/" 1945),("N",1947,vs "\u0085" 1948),("_",1950,vs "\u00a0" 1951),("L",1953,vs "\u2028" 1954),("P",1956,vs "\u2029" 1957)] 18,
 dd P [("P",1956,vs "\u2029" 1957)] 1,
 dd P [("x",1960,vi 2 1961),("u",1962,vi 4 1963),("U",1964,vi 8 1965)] 3,
 t0,
 z0,
 tn 1973 ["self","double","start_mark","chunks","length","ch","k","code"],
 t0,
 rf (mS 49 64) "Scanner.scan_flow_scalar_non_spaces",
 cf "scan_flow_scalar_non_spaces" "Scanner.scan_flow_scalar_non_spaces" 1970 945 3 1216 1981,
 gf (mS 49 64) "Scanner.scan_flow_scalar_non_spaces" .none dF 1221,
 t0,
 z0,
 tn 1987 ["self","double","start_mark","chunks","length","whitespaces","ch","line_break","breaks"],
 t0,
 rf (mS 49 65) "Scanner.scan_flow_scalar_spaces",
 cf "scan_flow_scalar_spaces" "Scanner.scan_flow_scalar_spaces" 1984 984 3 1223 1996,
 gf (mS 49 65) "Scanner.scan_flow_scalar_spaces" .none dF 1228,
 t0,
 z0,
 tn 2002 ["self","double","start_mark","chunks","prefix"],
 t0,
 rf (mS 49 66) "Scanner.scan_flow_scalar_breaks",
 cf "scan_flow_scalar_breaks" "Scanner.scan_flow_scalar_breaks" 1999 1006 3 1230 2007,
 gf (mS 49 66) "Scanner.scan_flow_scalar_breaks" .none dF 1235,
 t0,
 z0,
 tn 2013 ["self","chunks","start_mark","end_mark","indent","spaces","length","ch"],
 t0,
 rf (mS 49 67) "Scanner.scan_plain",
 cf "scan_plain" "Scanner.scan_plain" 2010 1019 1 1237 2021,
 gf (mS 49 67) "Scanner.scan_plain" .none dF 1242,
 t0,
 z0,
 tn 2027 ["self","indent","start_mark","chunks","length","whitespaces","ch","line_break","prefix","breaks"],
 t0]
noncomputable def f26 (P:Params):List Obj:=[
 rf (mS 49 68) "Scanner.scan_plain_spaces",
 cf "scan_plain_spaces" "Scanner.scan_plain_spaces" 2024 1046 3 1244 2037,
 gf (mS 49 68) "Scanner.scan_plain_spaces" .none dF 1249,
 t0,
 z0,
 tn 2043 ["self","name","start_mark","ch","length","value"],
 t0,
 rf (mS 49 69) "Scanner.scan_tag_handle",
 cf "scan_tag_handle" "Scanner.scan_tag_handle" 2040 1078 3 1251 2049,
 gf (mS 49 69) "Scanner.scan_tag_handle" .none dF 1256,
 t0,
 z0,
 tn 2055 ["self","name","start_mark","chunks","length","ch"],
 t0,
 rf (mS 49 70) "Scanner.scan_tag_uri",
 cf "scan_tag_uri" "Scanner.scan_tag_uri" 2052 1096 3 1258 2061,
 gf (mS 49 70) "Scanner.scan_tag_uri" .none dF 1263,
 t0,
 z0,
 tn 2067 ["self","name","start_mark","codes","mark","k","value"],
 t0,
 rf (mS 49 71) "Scanner.scan_uri_escapes",
 cf "scan_uri_escapes" "Scanner.scan_uri_escapes" 2064 1117 3 1265 2074,
 gf (mS 49 71) "Scanner.scan_uri_escapes" .none dF 1270,
 t0,
 z0,
 tn 2080 ["self","ch"],
 t0,
 rf (mS 49 72) "Scanner.scan_line_break",
 cf "scan_line_break" "Scanner.scan_line_break" 2077 1133 1 1272 2082,
 gf (mS 49 72) "Scanner.scan_line_break" .none dF 1277,
 tn 2085 ["allow_simple_key","done","flow_level","indent","indents","possible_simple_keys","tokens","tokens_taken"],
 dd P ([(cX,1349,dF)]++(cS++[(iU,2095,.none)])) 3,
 Rp [.ref 1521],
 su 1281,
 bi 1281,
 oT [.ref 95],
 bp,
 dd P [(cX,2107,j8),(iY,2109,vs "ParserError" 2108),(dh,2111,vi 1146 2110),(dj,2112,.ref 1291)] 4,
 t0,
 z0,
 cc "ParserError" 2102 1146 1287,
 fr 1289 1286 j8,
 t0,
 dd P [(cX,2107,j8),(dh,2111,vi 1146 2110),(dj,2112,.ref 1291),(iU,2113,.none)] 2,
 kk "ParserError" [.ref 95] [.ref 1293,.ref 95,.ref 67,.type "Exception",.type "BaseException",.type "object"] 1292 [] (some (.ref 1284)) 2100 2108 "Exception.__new__",
 su 1293,
 bi 1293]
noncomputable def f27 (P:Params):List Obj:=[
 oT [.ref 1281],
 bp,
 dd P ([(cX,2123,j8),(iY,2125,vs "Parser" 2124)]++(cP++[("__classcell__",2415,.ref 1299)])) 36,
 oL (some (.ref 1521)),
 t0,
 oF [i0 1151,i0 4,.ref 1311,i0 1160,i0 4,.ref 1318,i0 1163,i0 4,.ref 1325,i0 1169,i0 4,.ref 1332,i0 1177,i0 4,.ref 1339,i0 1183,i0 4,.ref 1346,i0 1195,i0 4,.ref 1353,i0 1217,i0 4,.ref 1360,i0 1229,i0 4,.ref 1367,i0 1237,i0 4,.ref 1374,i0 1263,i0 4,.ref 1381,i0 1266,i0 4,.ref 1388,i0 1269,i0 4,.ref 1395,i0 1272,i0 4,.ref 1403,i0 1355,i0 4,.ref 1410,i0 1360,i0 4,.ref 1417,i0 1378,i0 4,.ref 1424,i0 1392,i0 4,.ref 1431,i0 1397,i0 4,.ref 1438,i0 1415,i0 4,.ref 1445,i0 1429,i0 4,.ref 1452,i0 1434,i0 4,.ref 1460,i0 1456,i0 4,.ref 1467,i0 1465,i0 4,.ref 1474,i0 1479,i0 4,.ref 1481,i0 1484,i0 4,.ref 1488,i0 1489,i0 4,.ref 1496,i0 1514,i0 4,.ref 1503,i0 1528,i0 4,.ref 1510,i0 1532,i0 4,.ref 1517],
 cc "Parser" 2118 1148 1300,
 fr 1302 1298 j8,
 dd P [("!",2128,vs "!" 2129),("!!",2130,vs "tag:yaml.org,2002:" 2131)] 2,
 oT [.ref 1299],
 tn 2138 ["__class__"],
 z0,
 tn 2139 ["self","stream"],
 t0,
 rf (mS 52 1) "Parser.__init__",
 cf "__init__" "Parser.__init__" 2135 1151 2 1306 2141,
 oG (fd (mS 52 1) "Parser.__init__" 3 [("__class__",1299)] (.none) (.none) (.none) (j8) (.ref 1311) (.ref 1305)),
 t0,
 z0,
 tn 2147 ["self"],
 t0,
 rf (mS 52 2) "Parser.dispose",
 cf "dispose" "Parser.dispose" 2144 1160 1 1313 2148,
 gf (mS 52 2) "Parser.dispose" .none j8 1318,
 t0,
 z0,
 tn 2154 ["self"],
 t0,
 rf (mS 52 3) "Parser.peek_event",
 cf "peek_event" "Parser.peek_event" 2151 1163 1 1320 2155,
 gf (mS 52 3) "Parser.peek_event" .none j8 1325,
 t0,
 z0,
 tn 2161 ["self","value"],
 t0,
 rf (mS 52 4) "Parser.get_event",
 cf "get_event" "Parser.get_event" 2158 1169 1 1327 2163,
 gf (mS 52 4) "Parser.get_event" .none j8 1332,
 t0,
 z0,
 tn 2169 ["self","token","event"],
 t0,
 rf (mS 52 5) "Parser.parse_stream_start",
 cf "parse_stream_start" "Parser.parse_stream_start" 2166 1177 1 1334 2172,
 gf (mS 52 5) "Parser.parse_stream_start" .none j8 1339,
 t0,
 z0,
 tn 2178 ["self","token","start_mark","end_mark","event"]]
noncomputable def f28 (P:Params):List Obj:=[
 t0,
 rf (mS 52 6) "Parser.parse_implicit_document_start",
 cf "parse_implicit_document_start" "Parser.parse_implicit_document_start" 2175 1183 1 1341 2183,
 gf (mS 52 6) "Parser.parse_implicit_document_start" .none j8 1346,
 t0,
 z0,
 tn 2189 ["self","token","start_mark","version","tags","end_mark","event"],
 t0,
 rf (mS 52 7) "Parser.parse_document_start",
 cf "parse_document_start" "Parser.parse_document_start" 2186 1195 1 1348 2196,
 gf (mS 52 7) "Parser.parse_document_start" .none j8 1353,
 t0,
 z0,
 tn 2202 ["self","token","start_mark","end_mark","explicit","event"],
 t0,
 rf (mS 52 8) "Parser.parse_document_end",
 cf "parse_document_end" "Parser.parse_document_end" 2199 1217 1 1355 2208,
 gf (mS 52 8) "Parser.parse_document_end" .none j8 1360,
 t0,
 z0,
 tn 2214 ["self","event"],
 t0,
 rf (mS 52 9) "Parser.parse_document_content",
 cf "parse_document_content" "Parser.parse_document_content" 2211 1229 1 1362 2216,
 gf (mS 52 9) "Parser.parse_document_content" .none j8 1367,
 t0,
 z0,
 tn 2222 ["self","token","major","minor","handle","prefix","value","key"],
 t0,
 rf (mS 52 10) "Parser.process_directives",
 cf "process_directives" "Parser.process_directives" 2219 1237 1 1369 2230,
 gf (mS 52 10) "Parser.process_directives" .none j8 1374,
 t0,
 z0,
 tn 2236 ["self"],
 t0,
 rf (mS 52 11) "Parser.parse_block_node",
 cf "parse_block_node" "Parser.parse_block_node" 2233 1263 1 1376 2237,
 gf (mS 52 11) "Parser.parse_block_node" .none j8 1381,
 t0,
 z0,
 tn 2243 ["self"],
 t0,
 rf (mS 52 12) "Parser.parse_flow_node",
 cf "parse_flow_node" "Parser.parse_flow_node" 2240 1266 1 1383 2244,
 gf (mS 52 12) "Parser.parse_flow_node" .none j8 1388,
 t0,
 z0]
noncomputable def f29 (P:Params):List Obj:=[
 tn 2250 ["self"],
 t0,
 rf (mS 52 13) "Parser.parse_block_node_or_indentless_sequence",
 cf "parse_block_node_or_indentless_sequence" "Parser.parse_block_node_or_indentless_sequence" 2247 1269 1 1390 2251,
 gf (mS 52 13) "Parser.parse_block_node_or_indentless_sequence" .none j8 1395,
 oT [.bool false,.bool false],
 t0,
 z0,
 tn 2257 ["self","block","indentless_sequence","token","event","anchor","tag","start_mark","end_mark","tag_mark","handle","suffix","implicit","node"],
 t0,
 rf (mS 52 14) "Parser.parse_node",
 cf "parse_node" "Parser.parse_node" 2254 1272 3 1398 2271,
 gf (mS 52 14) "Parser.parse_node" (.ref 1397) j8 1403,
 t0,
 z0,
 tn 2277 ["self","token"],
 t0,
 rf (mS 52 15) "Parser.parse_block_sequence_first_entry",
 cf "parse_block_sequence_first_entry" "Parser.parse_block_sequence_first_entry" 2274 1355 1 1405 2279,
 gf (mS 52 15) "Parser.parse_block_sequence_first_entry" .none j8 1410,
 t0,
 z0,
 tn 2285 ["self","token","event"],
 t0,
 rf (mS 52 16) "Parser.parse_block_sequence_entry",
 cf "parse_block_sequence_entry" "Parser.parse_block_sequence_entry" 2282 1360 1 1412 2288,
 gf (mS 52 16) "Parser.parse_block_sequence_entry" .none j8 1417,
 t0,
 z0,
 tn 2294 ["self","token","event"],
 t0,
 rf (mS 52 17) "Parser.parse_indentless_sequence_entry",
 cf "parse_indentless_sequence_entry" "Parser.parse_indentless_sequence_entry" 2291 1378 1 1419 2297,
 gf (mS 52 17) "Parser.parse_indentless_sequence_entry" .none j8 1424,
 t0,
 z0,
 tn 2303 ["self","token"],
 t0,
 rf (mS 52 18) "Parser.parse_block_mapping_first_key",
 cf "parse_block_mapping_first_key" "Parser.parse_block_mapping_first_key" 2300 1392 1 1426 2305,
 gf (mS 52 18) "Parser.parse_block_mapping_first_key" .none j8 1431,
 t0,
 z0,
 tn 2311 ["self","token","event"],
 t0,
 rf (mS 52 19) "Parser.parse_block_mapping_key",
 cf "parse_block_mapping_key" "Parser.parse_block_mapping_key" 2308 1397 1 1433 2314,
 gf (mS 52 19) "Parser.parse_block_mapping_key" .none j8 1438]
noncomputable def f30 (P:Params):List Obj:=[
 t0,
 z0,
 tn 2320 ["self","token"],
 t0,
 rf (mS 52 20) "Parser.parse_block_mapping_value",
 cf "parse_block_mapping_value" "Parser.parse_block_mapping_value" 2317 1415 1 1440 2322,
 gf (mS 52 20) "Parser.parse_block_mapping_value" .none j8 1445,
 t0,
 z0,
 tn 2328 ["self","token"],
 t0,
 rf (mS 52 21) "Parser.parse_flow_sequence_first_entry",
 cf "parse_flow_sequence_first_entry" "Parser.parse_flow_sequence_first_entry" 2325 1429 1 1447 2330,
 gf (mS 52 21) "Parser.parse_flow_sequence_first_entry" .none j8 1452,
 oT [.bool false],
 t0,
 z0,
 tn 2336 ["self","first","token","event"],
 t0,
 rf (mS 52 22) "Parser.parse_flow_sequence_entry",
 cf "parse_flow_sequence_entry" "Parser.parse_flow_sequence_entry" 2333 1434 2 1455 2340,
 gf (mS 52 22) "Parser.parse_flow_sequence_entry" (.ref 1454) j8 1460,
 t0,
 z0,
 tn 2346 ["self","token"],
 t0,
 rf (mS 52 23) "Parser.parse_flow_sequence_entry_mapping_key",
 cf "parse_flow_sequence_entry_mapping_key" "Parser.parse_flow_sequence_entry_mapping_key" 2343 1456 1 1462 2348,
 gf (mS 52 23) "Parser.parse_flow_sequence_entry_mapping_key" .none j8 1467,
 t0,
 z0,
 tn 2354 ["self","token"],
 t0,
 rf (mS 52 24) "Parser.parse_flow_sequence_entry_mapping_value",
 cf "parse_flow_sequence_entry_mapping_value" "Parser.parse_flow_sequence_entry_mapping_value" 2351 1465 1 1469 2356,
 gf (mS 52 24) "Parser.parse_flow_sequence_entry_mapping_value" .none j8 1474,
 t0,
 z0,
 tn 2362 ["self","token"],
 t0,
 rf (mS 52 25) "Parser.parse_flow_sequence_entry_mapping_end",
 cf "parse_flow_sequence_entry_mapping_end" "Parser.parse_flow_sequence_entry_mapping_end" 2359 1479 1 1476 2364,
 gf (mS 52 25) "Parser.parse_flow_sequence_entry_mapping_end" .none j8 1481,
 t0,
 z0,
 tn 2370 ["self","token"],
 t0,
 rf (mS 52 26) "Parser.parse_flow_mapping_first_key"]
noncomputable def f31 (P:Params):List Obj:=[
 cf "parse_flow_mapping_first_key" "Parser.parse_flow_mapping_first_key" 2367 1484 1 1483 2372,
 gf (mS 52 26) "Parser.parse_flow_mapping_first_key" .none j8 1488,
 oT [.bool false],
 t0,
 z0,
 tn 2378 ["self","first","token","event"],
 t0,
 rf (mS 52 27) "Parser.parse_flow_mapping_key",
 cf "parse_flow_mapping_key" "Parser.parse_flow_mapping_key" 2375 1489 2 1491 2382,
 gf (mS 52 27) "Parser.parse_flow_mapping_key" (.ref 1490) j8 1496,
 t0,
 z0,
 tn 2388 ["self","token"],
 t0,
 rf (mS 52 28) "Parser.parse_flow_mapping_value",
 cf "parse_flow_mapping_value" "Parser.parse_flow_mapping_value" 2385 1514 1 1498 2390,
 gf (mS 52 28) "Parser.parse_flow_mapping_value" .none j8 1503,
 t0,
 z0,
 tn 2396 ["self"],
 t0,
 rf (mS 52 29) "Parser.parse_flow_mapping_empty_value",
 cf "parse_flow_mapping_empty_value" "Parser.parse_flow_mapping_empty_value" 2393 1528 1 1505 2397,
 gf (mS 52 29) "Parser.parse_flow_mapping_empty_value" .none j8 1510,
 t0,
 z0,
 tn 2403 ["self","mark"],
 t0,
 rf (mS 52 30) "Parser.process_empty_scalar",
 cf "process_empty_scalar" "Parser.process_empty_scalar" 2400 1532 2 1512 2405,
 gf (mS 52 30) "Parser.process_empty_scalar" .none j8 1517,
 tn 2408 ["current_event","marks","state","states","tag_handles","yaml_version"],
 dd P ([(cX,2123,j8)]++(cP++[(iU,2416,.none)])) 3,
 kk "Parser" [.ref 1281] [.ref 1521,.ref 1281,.ref 730,.type "object"] 1520 [] (some (.ref 1296)) 2116 2124 "object.__new__",
 su 1521,
 bi 1521,
 t0,
 z0,
 t0,
 t0,
 rf (tS 54) "_law_WORDS",
 cf "_law_WORDS" "_law_WORDS" 2421 1535 0 1524 2424,
 gf (tS 54) "_law_WORDS" .none Ld 1529,
 t0,
 z0,
 t0,
 t0,
 rf (tS 55) "_law_KEYS"]
noncomputable def f32 (P:Params):List Obj:=[
 cf "_law_KEYS" "_law_KEYS" 2427 1537 0 1531 2430,
 gf (tS 55) "_law_KEYS" .none Ld 1536,
 t0,
 z0,
 t0,
 t0,
 rf (tS 56) "_law_ENDS",
 cf "_law_ENDS" "_law_ENDS" 2433 1539 0 1538 2436,
 gf (tS 56) "_law_ENDS" .none Ld 1543,
 t0,
 z0,
 t0,
 t0,
 rf (tS 57) "_law_PADS",
 cf "_law_PADS" "_law_PADS" 2439 1541 0 1545 2442,
 gf (tS 57) "_law_PADS" .none Ld 1550,
 t0,
 z0,
 t0,
 t0,
 rf (tS 58) "_law_LEADS",
 cf "_law_LEADS" "_law_LEADS" 2445 1543 0 1552 2448,
 gf (tS 58) "_law_LEADS" .none Ld 1557,
 t0,
 z0,
 tn 2454 ["kind","end","pad","lead","fold"],
 t0,
 rf (tS 59) "_law_gap",
 cf "_law_gap" "_law_gap" 2451 1545 4 1559 2459,
 gf (tS 59) "_law_gap" .none Ld 1564,
 t0,
 z0,
 tn 2465 ["tape","more","kinds","end","pad","lead","value","single","double","k","kind","meant","one","two","sign"],
 t0,
 rf (tS 60) "_law_write",
 cf "_law_write" "_law_write" 2462 1560 6 1566 2480,
 gf (tS 60) "_law_write" .none Ld 1571,
 t0,
 z0,
 tn 2486 ["event"],
 t0,
 rf (tS 61) "_law_told",
 cf "_law_told" "_law_told" 2483 1576 1 1573 2487,
 gf (tS 61) "_law_told" .none Ld 1578,
 t0,
 z0,
 rf (tS 62) "law",
 oX "code" [vs "law" 2490,vs "law" 2491,vs fl 2492,i0 1592,i0 1,i0 0,i0 0,i0 3,.ref 1580,.bool true,i0 181,.ref 1581,.none,.none,.none,.ref 1582,i0 2493,i0 1592,vs fl 2494]]
noncomputable def f33 (P:Params):List Obj:=[
 gf (tS 62) "law" .none Ld 1583]
noncomputable def Z1 (P:Params):List Obj:=f0 P++(f1 P++(f2 P++(f3 P++(f4 P++(f5 P++(f6 P++(f7 P++(f8 P++(f9 P++(f10 P++(f11 P++(f12 P++(f13 P++(f14 P++(f15 P++(Xr P++(f17 P++(f18 P++(f19 P++(f20 P++(f21 P++(f22 P++(f23 P++(f24 P++(f25 P++(f26 P++(f27 P++(f28 P++(f29 P++(f30 P++(f31 P++(f32 P++(f33 P)))))))))))))))))))))))))))))))))
noncomputable def aa6 (P:Params):List Obj:=((f0 P).set 3 (m3 P m_1 (cM.take 33) 34)).set 12 (oF (cO.take 75))++(((f1 P).set 19 (m67 [.ref 95])).set 47 (m95 [])++(f2 P++(f3 P++(f4 P++(f5 P++(f6 P++(f7 P++((f8 P).take 19))))))))
noncomputable def abw (P:Params):List Obj:=((f0 P).set 3 (m3 P dF cM 53)).set 12 (oF cO)++((f1 P).set 47 (m95 [.ref 744])++(f2 P++(f3 P++(f4 P++(f5 P++(f6 P++(f7 P++(f8 P++(f9 P++(f10 P++(f11 P++(f12 P++(f13 P++(f14 P++((f15 P).set 10 (Zg []))))))))))))))))
noncomputable def abj (P:Params):List Obj:=((f0 P).set 3 (m3 P j8 cN 55)).set 12 (oF cQ)++(f1 P++(f2 P++(f3 P++(f4 P++(f5 P++(f6 P++(f7 P++(f8 P++(f9 P++(f10 P++(f11 P++(f12 P++(f13 P++(f14 P++(f15 P++(Xr P++(f17 P++(f18 P++(f19 P++(f20 P++(f21 P++(f22 P++(f23 P++(f24 P++(f25 P++((f26 P).set 33 (Rp [])))))))))))))))))))))))))))
noncomputable def env:Env:={scope:=pw.main.scope,locals:=mainNs,globals:=mainNs,cells:=[],code:=.ref 13,frame:=some 14}
noncomputable def cE:Code:=.body (behindTheImports pw) env
noncomputable def p0:Pos:=⟨0,0,0,0⟩
noncomputable def B:List Frame:=[topFrame p0]
noncomputable def sA:List Stmt:=(behindTheImports pw).take 27
noncomputable def rA:List Stmt:=(behindTheImports pw).drop 27
noncomputable def sB:List Stmt:=rA.take 22
noncomputable def rB:List Stmt:=rA.drop 22
noncomputable def sC:List Stmt:=rB.take 3
noncomputable def sD:List Stmt:=rB.drop 3
noncomputable def SI (P:Params) (os:OsState):SharedT:=⟨bt 12 (abG P),15,{},⟨[]⟩,{},187,os⟩
noncomputable def SK (P:Params) (os:OsState):SharedT:=⟨bt 12 (aa6 P),403,{},⟨[]⟩,{},798,os⟩
noncomputable def SM (P:Params) (os:OsState):SharedT:=⟨bt 12 (abw P),768,{},⟨[]⟩,{},1342,os⟩
noncomputable def SP (P:Params) (os:OsState):SharedT:=⟨bt 12 (abj P),1296,{},⟨[]⟩,{},2116,os⟩
noncomputable def SF (P:Params) (os:OsState):SharedT:=⟨bt 12 (Z1 P),1585,{},⟨[]⟩,{},2496,os⟩
noncomputable def rT (w:World) (s:OsState->SharedT) (l:List Stmt) (p:Pos):OsState->Option (Flow×SharedT×Code×Pos):=λos=>PySem.W.Fast.tw10110043849684766642 PySem.W.Fast.tw14364793385576792824 pw w 11 (some (.ref 6)) 1 9000 (s os) (piecesOf l env cE p B)
noncomputable def rG (w:World) (s:OsState->SharedT) (p:Pos):OsState->Option (Flow×SharedT×Code×Pos):=λos=>some (.next,s os,cE,p)
noncomputable def p1:Pos:=⟨137,0,145,26⟩
noncomputable def p2:Pos:=⟨295,0,303,24⟩
noncomputable def p3:Pos:=⟨1146,0,1147,8⟩
noncomputable def p4:Pos:=⟨1592,0,1619,21⟩
noncomputable def wB (w:World) (b:Bool):World:=World.withFollow w "special-get-raises" b
theorem T6 (w:World):rT w (SI w.params) sA p0=rG w (SK w.params) p1:=by kernel_rfl
theorem T5 (w:World):rT w (SK w.params) sB p1=rG w (SM w.params) p2:=by kernel_rfl
theorem YG (w:World):rT (wB w false) (SM (wB w false).params) sC p2=rG w (SP (wB w false).params) p3:=by kernel_rfl
theorem YF (w:World):rT (wB w true) (SM (wB w true).params) sC p2=rG w (SP (wB w true).params) p3:=by kernel_rfl
theorem YD (w:World):rT (wB w false) (SP (wB w false).params) sD p3=rG w (SF (wB w false).params) p4:=by kernel_rfl
theorem YC (w:World):rT (wB w true) (SP (wB w true).params) sD p3=rG w (SF (wB w true).params) p4:=by kernel_rfl
theorem Tf:PySem.treeTable=PySem.W.Fast.tw14364793385576792824:=PySem.W.Fast.te14364793385576792824
theorem run_eq:@PySem.W.segRunT=PySem.W.Fast.tw10110043849684766642:=PySem.W.Fast.te10110043849684766642
theorem piece {w:World}{s t:OsState->SharedT}{l:List Stmt}{p q:Pos}(h:rT w s l p=rG w t q)(os:OsState):segRun treeTable pw w 11 (some (.ref 6)) 1 9000 (s os).abs (piecesOf l env cE p B)=some (.next,(t os).abs,cE,q):=by
 refine segRun_of ?_
 rw[run_eq,Tf]
 exact congrFun h os
theorem both {w:World}{P:World->Prop}(h0:P (wB w false))(h1:P (wB w true)):P w:=by
 have e:=World.withFollow_self w "special-get-raises"
 cases hb:w.params.followText "special-get-raises"<;>rw[hb]at e
 ·exact e▸h0
 ·exact e▸h1
theorem runC (w:World):rT w (SM w.params) sC p2=rG w (SP w.params) p3:=both (P:=λw=>rT w (SM w.params) sC p2=rG w (SP w.params) p3) (YG w) (YF w)
theorem abg (w:World):rT w (SP w.params) sD p3=rG w (SF w.params) p4:=both (P:=λw=>rT w (SP w.params) sD p3=rG w (SF w.params) p4) (YD w) (YC w)
theorem pre (w:World):(λos=>topGo treeTable pw w 11 (some (.ref 6)) 12 ⟨boot_heap w.params,⟨[]⟩,boot_drawn,boot_toks,os⟩ (topStub pw))=λos=>some ((SI w.params os).abs,⟨denote treeTable (.body (behindTheImports pw) env),cE,p0,B⟩):=by
 kernel_rfl
theorem block (w:World):(λos=>segRun treeTable pw w 11 (some (.ref 6)) 1 1 (SI w.params os).abs (blockOf (behindTheImports pw) env cE p0 B))=λos=>some (.next,(SI w.params os).abs,cE,p0):=by
 kernel_rfl
theorem fin (w:World):(λos=>topRun treeTable pw w 11 (some (.ref 6)) 2 (SF w.params os).abs ⟨doneF .next,cE,p4,B⟩)=λos=>some (SF w.params os).abs:=by
 kernel_rfl
theorem run (w:World)(os:OsState):topRun treeTable pw w 11 (some (.ref 6)) (12+(1+(9000+(9000+(9000+(9000+2)))))) ⟨boot_heap w.params,⟨[]⟩,boot_drawn,boot_toks,os⟩ (topStub pw)=some (SF w.params os).abs:=by
 refine go_top (congrFun (pre w) os) ?_
 refine piece_block (congrFun (block w) os) ?_
 have e:behindTheImports pw=sA++(sB++(sC++(sD++[]))):=by
  rw[List.append_nil,sD,sC,List.take_append_drop,rB,sB,List.take_append_drop]
  exact(List.take_append_drop 27 _).symm
 have k:=piece_app (piece (T6 w) os) (piece_app (piece (T5 w) os) (piece_app (piece (runC w) os) (piece_app (piece (abg w) os) (piece_nil (congrFun (fin w) os)))))
 rw[<-e]at k
 exact k
theorem opens:∀w:World,(fencedOpening treeTable pw w 50000).map (λs=>(s.heap,s.gens,s.drawn,s.toks))=some (boot_heap w.params,Array.mk [],boot_drawn,boot_toks):=
 boot_open (by kernel_rfl) (by decide+kernel) (λs=>by kernel_rfl)
theorem size:∀w:World,((boot_heap w.params).isNs mainGlobals&&(Array.mk []:Array GenState).size==0,(boot_heap w.params).objs.size,(boot_heap w.params).nsMap mainGlobals "__annotations__")=(true,11,some (.ref 6)):=λw=>by kernel_rfl
noncomputable def H1 (P:Params):Heap:=absHeap (bt 12 (Z1 P)) 1585 {}
noncomputable def vw:Program:={pw with main:={pw.main with body:=[tS 62]}}
noncomputable def loose:List Str:=pw.boundNames.filter λn=>n !=("law":Str)
noncomputable def Xt:Shared->Bool:=λs=>recOk [] s
noncomputable def Yf:Shared->Heap:=λs=>s.heap
noncomputable def Ya:World->Heap:=λw=>H1 w.params
theorem l1 (w:World):(λos=>(staticsOk (importedModules pw.main.body) (boot_heap w.params) (H1 w.params)&&namesBound pw (H1 w.params)&&gensDone ⟨H1 w.params,⟨[]⟩,{},2496,os⟩&&laidKept (boot_heap w.params) (H1 w.params)))=λ(_:OsState)=>true:=by kernel_rfl
noncomputable def sF (w:World) (os:OsState):Shared:=⟨H1 w.params,⟨[]⟩,{},2496,os⟩
theorem l2 (w:World):(λos=>openSeen vw loose (importedModules pw.main.body) Xt true (sF w os))=λ_=>openGood vw loose:=by kernel_rfl
theorem left:LeftO pw vw loose Xt Yf Ya 50000:=by
 refine LeftO.of_pieces (H₀:=boot_heap) (H₁:=H1) (gs₀:=⟨[]⟩) (gs₁:=⟨[]⟩) (d₀:=boot_drawn) (d₁:={}) (k₀:=boot_toks) (k₁:=2496) (m₀:=11) (ann:=some (.ref 6)) (M:=12+(1+(9000+(9000+(9000+(9000+2)))))) opens size run (by decide+kernel) λw=>?_
 funext os
 have a:=congrFun (l1 w) os
 have b:=congrFun (l2 w) os
 exact Prod.ext a (Prod.ext b rfl)
noncomputable def iH:DefRec:=match tS 62 with
 | .FunctionDef n a b _ _ _ sc _ _ p=>⟨n,a,b,sc,p⟩
 |_=>⟨Str.empty,default,[],default,default⟩
theorem d1:defOf vw (Str.ofString "law")=some (iH,[]):=by kernel_rfl
theorem d2:pw.theDef (Str.ofString "law")=some (iH.params,iH.body,iH.scope):=by kernel_rfl
theorem d3:kwWritten? iH.params.kwonlyargs iH.params.kw_defaults=some []:=by kernel_rfl
theorem d4:(chainsOk vw&&opensWell pw&&(frees PySem.Challenge.rw_te0013_01.row.toRowW&&PySem.Challenge.rw_te0013_01.row.within.isEmpty))=true:=by kernel_rfl
theorem d5:pw.bare:=⟨rfl,rfl,rfl,rfl,rfl,Mine.XR⟩
theorem d6:PySem.Challenge.rw_te0013_01.row.toRowW.promised:=⟨[.list []],by decide+kernel,by decide+kernel⟩
theorem holds (XH:PySem.Challenge.rw_te0013_01.wellSaid=true)
 (call:WalkX vw loose (λ_ _=>True) Yf Ya PySem.Challenge.rw_te0013_01.row.toRowW iH [] λf vs=>PySem.call f vs):PySem.Challenge.rw_te0013_01.Holds:=by
 refine holds_law XH λsaid=>?_
 exact holds_openX (q:=vw) (loose:=loose) (Xt:=Xt) (XP:=λ_ _=>True) (Yf:=Yf) (Ya:=Ya) (N:=50000) (d:=iH) (kwd:=[]) left (λ_ _=>trivial) (λ_ _ _ _ _=>trivial) d1 d2 d3 (λs e=>recFacts_of e) rfl said d4 d5 d6 call
end Mine.H
namespace Mine
section
inductive AV where
 |none
 |bool (b:Bool)
 |int (i:Int)
 |str (s:List Nat)
 |self
 |top (a:Addr)
 |cls (c:Nat)
 |bm (f:Nat)
 |tup (l:List AV)
 |lst (l:List AV)
 |inst (c:Nat) (fs:List (Nat×AV))
 |own (k:Nat)
 |bN (k:Nat)
inductive Cont where
 |l (xs:List AV)
 |d (xs:List (Int×AV))
 |c (a:Addr) (v:Option AV)
structure cF where
 at_:List (Nat×AV)
 sl:List (Nat×Cont)
structure AS where
 par:Option cF
 ak:List (Nat×AV)
 own:List (Nat×Cont)
noncomputable def get {α:Type} (x:Nat):List (Nat×α)->Option α
 |[]=>none
 |p::r=>match Nat.beq p.1 x with
  |true=>some p.2
  |false=>get x r
noncomputable def put {α:Type} (x:Nat) (v:α):List (Nat×α)->List (Nat×α)
 |[]=>[(x,v)]
 |p::r=>match Nat.beq p.1 x with
  |true=>(p.1,v)::r
  |false=>p::put x v r
inductive Ec where
 |eq|ne|lt|le|gt|ge|fJ|nin|is_|Le
inductive Eh where
 |add|sub|mul|div|mod
inductive IE where
 |ak (x:Nat)
 |aA (c:AV)
 |bB (a:Nat)
 |xY (a d:Nat)
 |smt (f:Nat)
 |fld (e:IE) (a:Nat)
 |ccl (c a:Nat)
 |cls (c:Nat)
 |lq (x:Nat) (args:List IE)
 |jV (k:Nat) (a:Addr)
 |jz (x f:Nat)
 |cat (a b:IE)
 |lG (e:IE) (k:Nat) (a:Addr) (k':Nat) (a':Addr)
 |aq (f:Nat) (args:List IE) (kws:List (Nat×IE))
 |mZ (a:Nat)
 |cU (f:Nat) (args:List IE)
 |bR (c:Nat) (args:List IE) (kws:List (Nat×IE))
 |len (e:IE)
 |keys (e:IE)
 |Gn (e:IE) (c:Nat)
 |vH (e:IE)
 |m7 (t:IE)
 |sW (t:IE)
 |join (e:IE)
 |sup (f:Nat) (e:IE)
 |Y8 (e:IE)
 |idx (e i:IE)
 |slc (e lo hi:IE)
 |nO (e lo hi:IE)
 |cmp (o:Ec) (a b:IE)
 |eqd (a b:IE)
 |oV (o o':Ec) (a b c:IE)
 |and_ (es:List IE)
 |or_ (es:List IE)
 |not_ (e:IE)
 |ite (t a b:IE)
 |bin (o:Eh) (a b:IE)
 |neg (e:IE)
 |tup (es:List IE)
 |lst (es:List IE)
inductive Tg where
 |l (x:Nat)
 |c (k:Nat) (a:Addr)
inductive Xx where
 |list|dict|str|range|enum
inductive IS where
 |asg (x:Nat) (e:IE)
 |mR (x y:Nat) (e:IE)
 |uV (x y z:Nat) (e:IE)
 |nD (xs:List Tg) (e:IE)
 |Bv (k:Nat) (a:Addr) (e:IE)
 |qx (x k:Nat) (es:List IE)
 |bC (a:Nat) (e:IE)
 |w5 (a:Nat) (i e:IE)
 |j7 (x k:Nat)
 |jf (a k:Nat)
 |jZ (a k:Nat)
 |aug (x:Nat) (o:Eh) (e:IE)
 |gG (a:Nat) (o:Eh) (e:IE)
 |exp (e:IE)
 |uI (f:Nat) (e:IE)
 |bad
 |zm (x y f:Nat) (e:IE)
 |app (t:IE) (e:IE)
 |ext (t:IE) (e:IE)
 |ins (t:IE) (i e:IE)
 |ite (t:IE) (a b:List IS)
 |whl (t:IE) (b:List IS)
 |jo (kd:Xx) (xs:List Tg) (e:IE) (b:List IS)
 |ret (e:IE)
 |yc
 |brk
 |pass
 |del (a:Nat) (i:IE)
 |ast (t:IE)
 |try_ (b:List IS)
structure Cx where
 prog:Program
 w:World
 K:Frag
 p:Program
 loose:List Str
 mean:ExcName->Option Value
 mg:Str->Option Value
 mb:Str->Option Value
 nm:Nat->Str
 inj:∀i j,nm i=nm j->i=j
 ca:Nat->Addr
 fa:Nat->Addr
 CP:Addr
 g₀:Array GenState
 d₀:Drawn
 o₀:OsState
variable (C:Cx)
mutual
inductive VR (P:Addr)(fz:List (Addr×Obj)):AV->Value->Prop
 |none:VR P fz .none .none
 |bool (b):VR P fz (.bool b) (.bool b)
 |int (i t):VR P fz (.int i) (.int i t)
 |str (s t):s.length<=100000->VR P fz (.str s) (.str ⟨s.toArray⟩ t)
 |self:VR P fz .self (.ref P)
 |top (a):VR P fz (.top a) (.ref a)
 |cls (c):VR P fz (.cls c) (.ref (C.ca c))
 |bm (f a):(a,methodObj (.ref (C.fa f)) (.ref P)) ∈ fz->VR P fz (.bm f) (.ref a)
 |tup {l vs a n}:(a,({cls:=.type "tuple",data:=.seq vs.toArray n}:Obj)) ∈ fz->dz P fz l vs->l.length<=1000->VR P fz (.tup l) (.ref a)
 |lst {l vs a n}:(a,listOf vs.toArray n) ∈ fz->dz P fz l vs->l.length<=1000->VR P fz (.lst l) (.ref a)
 |inst {c fs a d es n}:(a,instObj (C.ca c) d) ∈ fz->(d,dictOf es n) ∈ fz->rW P fz fs es->VR P fz (.inst c fs) (.ref a)
inductive dz (P:Addr)(fz:List (Addr×Obj)):List AV->List Value->Prop
 |nil:dz P fz [] []
 |cons {a v as vs}:VR P fz a v->dz P fz as vs->dz P fz (a::as) (v::vs)
inductive rW (P:Addr)(fz:List (Addr×Obj)):List (Nat×AV)->List DictEntry->Prop
 |nil:rW P fz [] []
 |cons {x a h t v as es}:VR P fz a v->rW P fz as es->rW P fz ((x,a)::as) (⟨h,.str (C.nm x) t,v⟩::es)
end
variable {C}
@[elab_as_elim] theorem dz.ind {P fz} {M:List AV->List Value->Prop} (h0:M [] []) (h1:∀{a v as vs},VR C P fz a v->dz C P fz as vs->M as vs->M (a::as) (v::vs)) {as vs} (h:dz C P fz as vs):M as vs:=
 dz.rec (motive_1:=λ_ _ _=>True) (motive_2:=λa v _=>M a v) (motive_3:=λ_ _ _=>True) ⟨⟩ (λ_=>⟨⟩) (λ_ _=>⟨⟩) (λ_ _ _=>⟨⟩) ⟨⟩ (λ_=>⟨⟩) (λ_=>⟨⟩) (λ_ _ _=>⟨⟩) (λ_ _ _ _=>⟨⟩) (λ_ _ _ _=>⟨⟩) (λ_ _ _ _=>⟨⟩) h0 (λh k _ i=>h1 h k i) ⟨⟩ (λ_ _ _ _=>⟨⟩) h
@[elab_as_elim] theorem rW.ind {P fz} {M:List (Nat×AV)->List DictEntry->Prop} (h0:M [] []) (h1:∀{x a h t v as es},VR C P fz a v->rW C P fz as es->M as es->M ((x,a)::as) (⟨h,.str (C.nm x) t,v⟩::es)) {as vs} (h:rW C P fz as vs):M as vs:=
 rW.rec (motive_1:=λ_ _ _=>True) (motive_3:=λa v _=>M a v) (motive_2:=λ_ _ _=>True) ⟨⟩ (λ_=>⟨⟩) (λ_ _=>⟨⟩) (λ_ _ _=>⟨⟩) ⟨⟩ (λ_=>⟨⟩) (λ_=>⟨⟩) (λ_ _ _=>⟨⟩) (λ_ _ _ _=>⟨⟩) (λ_ _ _ _=>⟨⟩) (λ_ _ _ _=>⟨⟩) ⟨⟩ (λ_ _ _ _=>⟨⟩) h0 (λh k _ i=>h1 h k i) h
noncomputable def ju (o:Obj):Prop:=∃T:String,o.cls= .type T/\T≠"tuple"/\T≠"list"/\T≠"method"/\T≠"dict"
theorem nU {o:Obj}{T:String}(h:o.cls= .type T)(hT:T="tuple"∨T="list"∨T="method"∨T="dict"):¬ju o:=λ⟨T',h',n1,n2,n3,n4⟩=>
 have e:T=T':=Value.type.inj (h.symm.trans h')
 hT.elim (λh=>n1 (e▸h)) λh=>h.elim (λh=>n2 (e▸h)) λh=>h.elim (λh=>n3 (e▸h)) λh=>n4 (e▸h)
theorem uM {c d:Addr}:¬ju (instObj c d):=λ⟨_,h,_⟩=>nomatch h
theorem VR.thin {P fz cY}(hs:∀q ∈ fz,¬ju q.2->q ∈ cY){a v}(h:VR C P fz a v):VR C P cY a v:=
 VR.rec (motive_1:=λa v _=>VR C P cY a v) (motive_2:=λa v _=>dz C P cY a v) (motive_3:=λa v _=>rW C P cY a v) .none .bool .int .str .self .top .cls (λf a h=>.bm f a (hs _ h (nU rfl (.inr (.inr (.inl rfl)))))) (λh _ b i=>.tup (hs _ h (nU rfl (.inl rfl))) i b) (λh _ b i=>.lst (hs _ h (nU rfl (.inr (.inl rfl)))) i b) (λh h' _ i=>.inst (hs _ h uM) (hs _ h' (nU rfl (.inr (.inr (.inr rfl))))) i) .nil (λ_ _ i j=>.cons i j) .nil (λ_ _ i j=>.cons i j) h
theorem dz.thin {P fz cY}(hs:∀q ∈ fz,¬ju q.2->q ∈ cY){a v}(h:dz C P fz a v):dz C P cY a v:=h.ind .nil λh _ i=>.cons (h.thin hs) i
theorem rW.thin {P fz cY}(hs:∀q ∈ fz,¬ju q.2->q ∈ cY){a v}(h:rW C P fz a v):rW C P cY a v:=h.ind .nil λh _ i=>.cons (h.thin hs) i
theorem VR.mono {P fz cY}(hs:∀q ∈ fz,q ∈ cY){a v}(h:VR C P fz a v):VR C P cY a v:=h.thin λq h _=>hs q h
theorem dz.mono {P fz cY}(hs:∀q ∈ fz,q ∈ cY){a v}(h:dz C P fz a v):dz C P cY a v:=h.thin λq h _=>hs q h
theorem rW.mono {P fz cY}(hs:∀q ∈ fz,q ∈ cY){a v}(h:rW C P fz a v):rW C P cY a v:=h.thin λq h _=>hs q h
@[elab_as_elim] theorem dz.Ke {P fz a as} {R:List Value->Prop} {vs} (h:dz C P fz (a::as) vs) (H:∀v ws,VR C P fz a v->dz C P fz as ws->R (v::ws)):R vs:=by
 cases h with|cons h k=>exact H _ _ h k
@[elab_as_elim] theorem dz.abr {P fz} {R:List Value->Prop} {vs} (h:dz C P fz [] vs) (H:R []):R vs:=by
 cases h;exact H
inductive LR (C:Cx)(P:Addr)(fz:List (Addr×Obj))(σ τ:List (Nat×Addr)):AV->Value->Prop
 |v {a v}:VR C P fz a v->LR C P fz σ τ a v
 |own {k a}:get k τ=some a->LR C P fz σ τ (.own k) (.ref a)
 |bN {k a}:get k σ=some a->LR C P fz σ τ (.bN k) (.ref a)
noncomputable def BL (C:Cx) (P:Addr) (fz:List (Addr×Obj)) (σ τ:List (Nat×Addr)) (u:Value):AV->Prop
 | .none=>u= .none
 | .bool b=>u= .bool b
 | .int i=>∃t,u= .int i t
 | .str s=>s.length<=100000/\∃t,u= .str ⟨s.toArray⟩ t
 | .self=>u= .ref P
 | .top a=>u= .ref a
 | .cls c=>u= .ref (C.ca c)
 | .bm f=>∃a,u= .ref a/\(a,methodObj (.ref (C.fa f)) (.ref P)) ∈ fz
 | .tup l=>∃vs a n,u= .ref a/\(a,({cls:=.type "tuple",data:=.seq (List.toArray vs) n}:Obj)) ∈ fz/\dz C P fz l vs/\l.length<=1000
 | .lst l=>∃vs a n,u= .ref a/\(a,listOf (List.toArray vs) n) ∈ fz/\dz C P fz l vs/\l.length<=1000
 | .inst c fs=>∃a d es n,u= .ref a/\(a,instObj (C.ca c) d) ∈ fz/\(d,dictOf es n) ∈ fz/\rW C P fz fs es
 | .own k=>∃a,u= .ref a/\get k τ=some a
 | .bN k=>∃a,u= .ref a/\get k σ=some a
theorem VR.inv {P fz σ τ a u}(h:VR C P fz a u):BL C P fz σ τ u a:=by
 cases h with
 |none=>exact rfl
 |bool=>exact rfl
 |int _ t=>exact⟨t,rfl⟩
 |str _ t h=>exact⟨h,t,rfl⟩
 |self=>exact rfl
 |top=>exact rfl
 |cls=>exact rfl
 |bm _ a h=>exact⟨a,rfl,h⟩
 |tup h k b=>exact⟨_,_,_,rfl,h,k,b⟩
 |lst h k b=>exact⟨_,_,_,rfl,h,k,b⟩
 |inst h k b=>exact⟨_,_,_,_,rfl,h,k,b⟩
theorem LR.inv {P fz σ τ a u}(h:LR C P fz σ τ a u):BL C P fz σ τ u a:=by
 cases h with
 |v h=>exact h.inv
 |own h=>exact⟨_,rfl,h⟩
 |bN h=>exact⟨_,rfl,h⟩
noncomputable def AV.gK:AV->Option Int
 | .int i=>some i
 |_=>.none
noncomputable def AV.iW:AV->Option (List Nat)
 | .str i=>some i
 |_=>.none
noncomputable def AV.uL:AV->Option (List AV)
 | .lst i=>some i
 |_=>.none
noncomputable def AV.Gy:AV->Option (List AV)
 | .tup i=>some i
 |_=>.none
noncomputable def AV.GC:AV->Option Addr
 | .top i=>some i
 |_=>.none
noncomputable def AV.V8:AV->Option Nat
 | .cls i=>some i
 |_=>.none
noncomputable def AV.bmO:AV->Option Nat
 | .bm i=>some i
 |_=>.none
noncomputable def AV.Dm:AV->Option (Nat×List (Nat×AV))
 | .inst i l=>some (i,l)
 |_=>.none
noncomputable def AV.Kp:AV->Option Bool
 | .bool i=>some i
 |_=>.none
noncomputable def AV.abF:AV->Bool
 | .self=>true
 |_=>false
noncomputable def AV.isNone:AV->Bool
 | .none=>true
 |_=>false
noncomputable def Cont.lO:Cont->Option (List AV)
 | .l i=>some i
 |_=>none
noncomputable def Cont.dO:Cont->Option (List (Int×AV))
 | .d i=>some i
 |_=>none
theorem jk {α:Type}{x:α}{P:Prop}(h:(.none:Option α)=some x):P:=nomatch h
theorem jJ {P:Prop}(h:false=true):P:=nomatch h
theorem AV.wH {a:AV}{x}(h:a.gK=some x):a= .int x:=by revert h;cases a<;>intro h<;>first|exact jk h|exact Option.some.inj h▸rfl
theorem AV.zu {a:AV}{x}(h:a.Kp=some x):a= .bool x:=by revert h;cases a<;>intro h<;>first|exact jk h|exact Option.some.inj h▸rfl
theorem AV.vY {a:AV}{x}(h:a.iW=some x):a= .str x:=by revert h;cases a<;>intro h<;>first|exact jk h|exact Option.some.inj h▸rfl
theorem AV.Oq {a:AV}{x}(h:a.uL=some x):a= .lst x:=by revert h;cases a<;>intro h<;>first|exact jk h|exact Option.some.inj h▸rfl
theorem AV.Ls {a:AV}{x}(h:a.Gy=some x):a= .tup x:=by revert h;cases a<;>intro h<;>first|exact jk h|exact Option.some.inj h▸rfl
theorem AV.Ca {a:AV}{x}(h:a.GC=some x):a= .top x:=by revert h;cases a<;>intro h<;>first|exact jk h|exact Option.some.inj h▸rfl
theorem AV.Qn {a:AV}{x}(h:a.V8=some x):a= .cls x:=by revert h;cases a<;>intro h<;>first|exact jk h|exact Option.some.inj h▸rfl
theorem AV.Wb {a:AV}{x}(h:a.bmO=some x):a= .bm x:=by revert h;cases a<;>intro h<;>first|exact jk h|exact Option.some.inj h▸rfl
theorem AV.Jh {a:AV}{x}(h:a.Dm=some x):a= .inst x.1 x.2:=by revert h;cases a<;>intro h<;>first|exact jk h|exact Option.some.inj h▸rfl
theorem AV.fK {a:AV}(h:a.isNone=true):a= .none:=by revert h;cases a<;>intro h<;>first|rfl|exact jJ h
theorem Cont.Rr {a:Cont}{x}(h:a.lO=some x):a= .l x:=by revert h;cases a<;>intro h<;>first|exact jk h|exact Option.some.inj h▸rfl
theorem Cont.RN {a:Cont}{x}(h:a.dO=some x):a= .d x:=by revert h;cases a<;>intro h<;>first|exact jk h|exact Option.some.inj h▸rfl
section
variable {P:Addr}{fz:List (Addr×Obj)}{σ τ:List (Nat×Addr)}{a:AV}{u:Value}{R:Value->Prop}
@[elab_as_elim] theorem LR.none_ (h:LR C P fz σ τ a u) (e:a= .none) (H:R .none):R u:=(e▸h.inv:BL C P fz σ τ u .none)▸H
@[elab_as_elim] theorem LR.bool_ (h:LR C P fz σ τ a u) {b} (e:a= .bool b) (H:R (.bool b)):R u:=(e▸h.inv:BL C P fz σ τ u (.bool b))▸H
@[elab_as_elim] theorem LR.int_ (h:LR C P fz σ τ a u) {i} (e:a.gK=some i) (H:∀t,R (.int i t)):R u:=
 let ⟨t,e⟩:=(AV.wH e▸h.inv:BL C P fz σ τ u (.int i))
 e▸H t
@[elab_as_elim] theorem LR.str_ (h:LR C P fz σ τ a u) {i} (e:a.iW=some i) (H:∀t,i.length<=100000->R (.str ⟨i.toArray⟩ t)):R u:=
 let ⟨k,t,e⟩:=(AV.vY e▸h.inv:BL C P fz σ τ u (.str i))
 e▸H t k
@[elab_as_elim] theorem LR.Yo (h:LR C P fz σ τ a u) (e:a= .self) (H:R (.ref P)):R u:=(e▸h.inv:BL C P fz σ τ u .self)▸H
@[elab_as_elim] theorem LR.X5 (h:LR C P fz σ τ a u) {b} (e:a.GC=some b) (H:R (.ref b)):R u:=(AV.Ca e▸h.inv:BL C P fz σ τ u (.top b))▸H
@[elab_as_elim] theorem LR.acd (h:LR C P fz σ τ a u) {b} (e:a.V8=some b) (H:R (.ref (C.ca b))):R u:=(AV.Qn e▸h.inv:BL C P fz σ τ u (.cls b))▸H
@[elab_as_elim] theorem LR.bm_ (h:LR C P fz σ τ a u) {f} (e:a.bmO=some f) (H:∀b,(b,methodObj (.ref (C.fa f)) (.ref P)) ∈ fz->R (.ref b)):R u:=
 let ⟨b,e,k⟩:=(AV.Wb e▸h.inv:BL C P fz σ τ u (.bm f))
 e▸H b k
@[elab_as_elim] theorem LR.S7 (h:LR C P fz σ τ a u) {l} (e:a.Gy=some l) (H:∀vs b n,(b,({cls:=.type "tuple",data:=.seq (List.toArray vs) n}:Obj)) ∈ fz->dz C P fz l vs->l.length<=1000->R (.ref b)):R u:=
 let ⟨vs,b,n,e,k1,k2,k3⟩:=(AV.Ls e▸h.inv:BL C P fz σ τ u (.tup l))
 e▸H vs b n k1 k2 k3
@[elab_as_elim] theorem LR.Ae (h:LR C P fz σ τ a u) {l} (e:a.uL=some l) (H:∀vs b n,(b,listOf (List.toArray vs) n) ∈ fz->dz C P fz l vs->l.length<=1000->R (.ref b)):R u:=
 let ⟨vs,b,n,e,k1,k2,k3⟩:=(AV.Oq e▸h.inv:BL C P fz σ τ u (.lst l))
 e▸H vs b n k1 k2 k3
@[elab_as_elim] theorem LR.Ru (h:LR C P fz σ τ a u) {c} (e:a.Dm=some c) (H:∀b d es n,(b,instObj (C.ca c.1) d) ∈ fz->(d,dictOf es n) ∈ fz->rW C P fz c.2 es->R (.ref b)):R u:=
 let ⟨b,d,es,n,e,k1,k2,k3⟩:=(AV.Jh e▸h.inv:BL C P fz σ τ u (.inst c.1 c.2))
 e▸H b d es n k1 k2 k3
@[elab_as_elim] theorem LR.YJ (h:LR C P fz σ τ a u) {k} (e:a= .bN k) (H:∀b,get k σ=some b->R (.ref b)):R u:=
 let ⟨b,e,k⟩:=(e▸h.inv:BL C P fz σ τ u (.bN k))
 e▸H b k
end
noncomputable def pick {α:Type} (p:Option α) (Q:α->Prop):Prop:=match p with
 |some st=>Q st
 |none=>False
noncomputable def kI (b:Bool) (Q:Prop):Prop:=match b with
 |true=>Q
 |false=>False
theorem aQ {α:Type}{p:Option α}{Q:α->Prop}(h:pick p Q){G:Prop}(k:∀a,p=some a->Q a->G):G:=match p,h,k with
 |some a,h,k=>k a rfl h
theorem aO {α:Type}{p:Option α}{Q:α->Prop}{a:α}(e:p=some a)(h:Q a):pick p Q:=e▸h
theorem gC {b:Bool}{Q G:Prop}(h:kI b Q)(k:b=true->Q->G):G:=match b,h,k with
 |true,h,k=>k rfl h
theorem jB {b:Bool}{Q:Prop}(h:kI b Q):b=true:=gC h λe _=>e
theorem mV {b:Bool}{Q:Prop}(h:kI b Q):Q:=gC h λ_ q=>q
theorem dg {b:Bool}{Q:Prop}(e:b=true)(h:Q):kI b Q:=e▸h
theorem bnd {α β:Type}{o:Option α}{f:α->Option β}{b:β}(h:o.bind f=some b){G:Prop}(k:∀a,o=some a->f a=some b->G):G:=match o,h,k with
 |some a,h,k=>k a rfl h
@[elab_as_elim] theorem Zf {α β:Type} {o:Option α} {f:α->β} {b:β} (h:o.map f=some b) {R:β->Prop} (k:∀a,o=some a->R (f a)):R b:=match o,h,k with
 |some a,h,k=>Option.some.inj h▸k a rfl
@[elab_as_elim] theorem sj {α:Type} {a b:α} (h:some a=some b) {R:α->Prop} (k:R a):R b:=Option.some.inj h▸k
theorem Ad {α β:Type}{o:Option α}{f:α->β}{b:β}(h:o.map f=some b){G:Prop}(k:∀a,o=some a->f a=b->G):G:=match o,h,k with
 |some a,h,k=>k a rfl (Option.some.inj h)
noncomputable def qz {α:Type} (b:Bool) (a:α):Option α:=match b with
 |true=>some a
 |false=>none
@[elab_as_elim] theorem fL {α:Type} {b:Bool} {a c:α} (h:qz b a=some c) {R:α->Prop} (k:b=true->R a):R c:=match b,h,k with
 |true,h,k=>Option.some.inj h▸k rfl
theorem an {a b:Bool}{G:Prop}(h:(a&&b)=true)(k:a=true->b=true->G):G:=match a,b,k with
 |true,true,k=>k rfl rfl
noncomputable def kY {α:Type} (o:Option α) (f:α->Bool):Bool:=match o with
 |some a=>f a
 |none=>false
theorem fB {α:Type}{o:Option α}{f:α->Bool}(h:kY o f=true){G:Prop}(k:∀a,o=some a->f a=true->G):G:=match o,h,k with
 |some a,h,k=>k a rfl h
theorem ex2 {α:Sort _}{p:α->Prop}{q:α->Prop}(h:∃a,p a/\q a){G:Prop}(k:∀a,p a->q a->G):G:=let ⟨a,x,y⟩:=h;k a x y
inductive m6 (C:Cx)(P:Addr)(fz:List (Addr×Obj))(σ:List (Nat×Addr)):List (Nat×AV)->List DictEntry->Prop
 |nil:m6 C P fz σ [] []
 |cons {x a h t v as es}:LR C P fz σ [] a v->m6 C P fz σ as es->m6 C P fz σ ((x,a)::as) (⟨h,.str (C.nm x) t,v⟩::es)
inductive pF (C:Cx)(P:Addr)(fz:List (Addr×Obj)):List (Int×AV)->List (Int×Value)->Prop
 |nil:pF C P fz [] []
 |cons {i a v as es}:VR C P fz a v->pF C P fz as es->pF C P fz ((i,a)::as) ((i,v)::es)
inductive cW (C:Cx)(P:Addr)(fz:List (Addr×Obj))(b:Addr):Cont->Obj->Prop
 |l {xs vs n}:dz C P fz xs vs->xs.length<=1000->cW C P fz b (.l xs) (listOf vs.toArray n)
 |d {xs kvs o}:o.IsDictOf (intKind C.prog C.w) kvs->pF C P fz xs kvs->xs.length<=1000->cW C P fz b (.d xs) o
 |c0 {o:Obj}:o.data= .cell none->cW C P fz b (.c b none) o
 |c1 {o:Obj} {a v}:o.data= .cell (some v)->VR C P fz a v->cW C P fz b (.c b (some a)) o
inductive p7 (C:Cx)(P:Addr)(fz:List (Addr×Obj)):List (Nat×Cont)->List (Nat×Addr)->List (Addr×Obj)->Prop
 |nil:p7 C P fz [] [] []
 |cons {k c a o r σ mu}:cW C P fz a c o->p7 C P fz r σ mu->p7 C P fz ((k,c)::r) ((k,a)::σ) ((a,o)::mu)
theorem LR.thin {P fz cY σ τ}(hs:∀q ∈ fz,¬ju q.2->q ∈ cY){a v}(h:LR C P fz σ τ a v):LR C P cY σ τ a v:=
 LR.casesOn h (λh=>.v (h.thin hs)) (λh=>.own h) (λh=>.bN h)
theorem LR.mono {P fz cY σ τ}(hs:∀q ∈ fz,q ∈ cY){a v}(h:LR C P fz σ τ a v):LR C P cY σ τ a v:=h.thin λq h _=>hs q h
theorem LR.wide {P fz σ τ}{a v}(h:LR C P fz σ [] a v):LR C P fz σ τ a v:=
 LR.casesOn h (λh=>.v h) (λh=>nomatch h) (λh=>.bN h)
@[elab_as_elim] theorem cW.l_ {P fz b x o} (h:cW C P fz b (.l x) o) {R:Obj->Prop} (H:∀vs n,dz C P fz x vs->x.length<=1000->R (listOf (List.toArray vs) n)):R o:=by
 cases h with|l h k=>exact H _ _ h k
theorem cW.d_ {P fz b x o}(h:cW C P fz b (.d x) o){G:Prop}(H:∀kvs,o.IsDictOf (intKind C.prog C.w) kvs->pF C P fz x kvs->x.length<=1000->G):G:=by
 cases h with|d h k l=>exact H _ h k l
theorem m6.thin {P fz cY σ}(hs:∀q ∈ fz,¬ju q.2->q ∈ cY){a v}(h:m6 C P fz σ a v):m6 C P cY σ a v:=by
 induction h with
 |nil=>exact .nil
 |cons h _ i=>exact .cons (h.thin hs) i
theorem pF.thin {P fz cY}(hs:∀q ∈ fz,¬ju q.2->q ∈ cY){a v}(h:pF C P fz a v):pF C P cY a v:=by
 induction h with
 |nil=>exact .nil
 |cons h _ i=>exact .cons (h.thin hs) i
theorem cW.thin {P fz cY}(hs:∀q ∈ fz,¬ju q.2->q ∈ cY){b a v}(h:cW C P fz b a v):cW C P cY b a v:=
 cW.casesOn h (λh b=>.l (h.thin hs) b) (λh k b=>.d h (k.thin hs) b) (λh=>.c0 h) (λh k=>.c1 h (k.thin hs))
theorem p7.thin {P fz cY}(hs:∀q ∈ fz,¬ju q.2->q ∈ cY){a σ v}(h:p7 C P fz a σ v):p7 C P cY a σ v:=by
 induction h with
 |nil=>exact .nil
 |cons h _ i=>exact .cons (h.thin hs) i
theorem p7.mono {P fz cY}(hs:∀q ∈ fz,q ∈ cY){a σ v}(h:p7 C P fz a σ v):p7 C P cY a σ v:=h.thin λq h _=>hs q h
theorem dz.length {P fz}{as vs}(h:dz C P fz as vs):as.length=vs.length:=h.ind rfl λ_ _ i=>congrArg Nat.succ i
theorem dz.at {P fz}{as:List AV}{vs:List Value}(h:dz C P fz as vs):∀(i:Nat) (a:AV),as[i]? =some a->∃v,vs[i]? =some v/\VR C P fz a v:=
 h.ind (λ_ _ e=>nomatch e) λh _ ih i a e=>match i with
 |0=>⟨_,rfl,Option.some.inj e▸h⟩
 |i+1=>ih i a e
theorem dz.append {P fz}{as vs bs ws}(h:dz C P fz as vs)(h':dz C P fz bs ws):dz C P fz (as++bs) (vs++ws):=h.ind h' λh _ i=>.cons h i
theorem p7.keys {P fz}{a σ v}(h:p7 C P fz a σ v):σ.map (·.2)=v.map (·.1):=by
 induction h with
 |nil=>rfl
 |cons _ _ i=>rw[List.map_cons,List.map_cons,i]
theorem ZM {α:Type}{x:Nat}{p:Nat×α}{r}{R:Option α->Prop}(h1:p.1=x->R (some p.2))(h0:Nat.beq p.1 x=false->R (get x r)):R (get x (p::r)):=by
 unfold get
 cases q:Nat.beq p.1 x with
 |true=>exact h1 (Nat.eq_of_beq_eq_true q)
 |false=>exact h0 q
theorem get_mem {α:Type}{x:Nat}{v:α}{l:List (Nat×α)}:get x l=some v->(x,v) ∈ l:=by
 induction l with
 |nil=>exact λe=>jk e
 |cons p r i=>exact ZM (R:=λo=>o=some v->(x,v) ∈ p::r) (λq e=>q▸Option.some.inj e▸.head _) λ_ e=>.tail _ (i e)
theorem p7.at_ {P fz}{k:Nat}{c:Cont}{a σ v}(h:p7 C P fz a σ v):get k a=some c->∀{G:Prop},(∀b o,get k σ=some b->(b,o) ∈ v->cW C P fz b c o->G)->G:=by
 induction h with
 |nil=>exact λe=>jk e
 |cons h r i=>
  refine λe G H=>?_
  unfold get at e
  revert e
  cases q:Nat.beq _ k with
  |true=>exact λe=>H _ _ (by unfold get;rw[q]) (.head _) (Option.some.inj e▸h)
  |false=>exact λe=>i e λb o x y z=>H b o (by unfold get;rw[q];exact x) (.tail _ y) z
theorem p7.at {P fz}{k:Nat}{c:Cont}{a σ v}(h:p7 C P fz a σ v)(e:get k a=some c):∃b o,get k σ=some b/\(b,o) ∈ v/\cW C P fz b c o:=h.at_ e λb o x y z=>⟨b,o,x,y,z⟩
end
section
variable {C:Cx}
inductive pC (C:Cx)(P:Addr)(fz:List (Addr×Obj))(σ:List (Nat×Addr)):Option cF->List (Addr×Obj)->Prop
 |none:σ=[]->pC C P fz σ none []
 |some {at_ sl pd es n mu}:m6 C P fz σ at_ es->p7 C P fz sl σ mu->es.length<=100->pC C P fz σ (some ⟨at_,sl⟩) ((P,instObj C.CP pd)::(pd,dictOf es n)::mu)
theorem pC.thin {P fz cY σ}(hs:∀q ∈ fz,¬ju q.2->q ∈ cY){a v}(h:pC C P fz σ a v):pC C P cY σ a v:=
 pC.casesOn h (λe=>.none e) (λh k e=>.some (h.thin hs) (k.thin hs) e)
theorem pC.mono {P fz cY σ}(hs:∀q ∈ fz,q ∈ cY){a v}(h:pC C P fz σ a v):pC C P cY σ a v:=h.thin λq h _=>hs q h
structure F0 where
 f:List (Addr×Obj)
 p:List (Addr×Obj)
structure bU (C:Cx)(P:Addr)(aj:Heap)(L:Addr)(f₀:F0)(σ₀:List (Nat×Addr))(as:AS)(tmp:List (AV×Value))(s:Shared)
  (m:Str->Option Value)(σ τ:List (Nat×Addr))(pm om fz:List (Addr×Obj)):Prop where
 fr:Fr aj L s.heap m
 nw:News aj L s.heap (pm++(om++fz))
 nd:((pm++(om++fz)).map (·.1)).Nodup
 ak:∀x a,get x as.ak=some a->∃v,m (C.nm x)=some v/\LR C P fz σ τ a v
 par:pC C P fz σ as.par pm
 own:p7 C P fz as.own τ om
 tmp:∀q ∈ tmp,LR C P fz σ τ q.1 q.2
 gens:s.gens=C.g₀
 drawn:s.drawn=C.d₀
 os:s.os=C.o₀
 ff:∀q ∈ f₀.f,q ∈ fz
 ss:∀k a,get k σ₀=some a->get k σ=some a
 pf:∀q ∈ f₀.p,q ∈ pm
inductive St (C:Cx)(P:Addr)(aj:Heap)(L:Addr)(f₀:F0)(σ₀:List (Nat×Addr))(as:AS)(tmp:List (AV×Value))(s:Shared):Prop
 |mk (m:Str->Option Value) (σ τ:List (Nat×Addr)) (pm om fz:List (Addr×Obj)) (S:bU C P aj L f₀ σ₀ as tmp s m σ τ pm om fz)
noncomputable def KV (C:Cx) (P:Addr) (aj:Heap) (L:Addr) (f₀:F0) (σ₀:List (Nat×Addr)) (Q:AV->AS->Prop) (tmp:List (AV×Value)) (R:Value->Shared->Prop):Prop:=∀v s a st,Q a st->St C P aj L f₀ σ₀ st ((a,v)::tmp) s->R v s
inductive RV (C:Cx)(P:Addr)(aj:Heap)(L:Addr)(f₀:F0)(σ₀:List (Nat×Addr))(Q:AV->AS->Prop)(tmp:List (AV×Value))(v:Value)(s:Shared):Prop
 |mk (a:AV) (st:AS) (q:Q a st) (S:St C P aj L f₀ σ₀ st ((a,v)::tmp) s)
inductive RS (C:Cx)(P:Addr)(aj:Heap)(L:Addr)(f₀:F0)(σ₀:List (Nat×Addr))(Q:AS->Prop)(tmp:List (AV×Value))(s:Shared):Prop
 |mk (st:AS) (q:Q st) (S:St C P aj L f₀ σ₀ st tmp s)
section
variable {P:Addr}{aj:Heap}{L:Addr}{f₀:F0}{σ₀:List (Nat×Addr)}{as:AS}{tmp:List (AV×Value)}{s:Shared}{m:Str->Option Value}{σ τ:List (Nat×Addr)}{pm om fz:List (Addr×Obj)}
theorem jC {h:Heap}{l l':List (Addr×Obj)}(N:News aj L h l)(hs:∀q ∈ l',q ∈ l):News aj L h l':=λp hp=>N p (hs p hp)
theorem bU.lt (S:bU C P aj L f₀ σ₀ as tmp s m σ τ pm om fz):∀q ∈ pm++(om++fz),q.1<s.heap.objs.size:=λq hq=>Heap.lt_size (S.nw q hq).1
theorem bU.GP (S:bU C P aj L f₀ σ₀ as tmp s m σ τ pm om fz){uH:List (AV×Value)}(h:∀q ∈ uH,LR C P fz σ τ q.1 q.2):bU C P aj L f₀ σ₀ as uH s m σ τ pm om fz:=
 ⟨S.fr,S.nw,S.nd,S.ak,S.par,S.own,h,S.gens,S.drawn,S.os,S.ff,S.ss,S.pf⟩
theorem bU.push (S:bU C P aj L f₀ σ₀ as tmp s m σ τ pm om fz){a:AV}{v:Value}(h:LR C P fz σ τ a v):bU C P aj L f₀ σ₀ as ((a,v)::tmp) s m σ τ pm om fz:=
 S.GP λq hq=>by
  rcases List.mem_cons.mp hq with rfl|hq
  ·exact h
  ·exact S.tmp q hq
theorem St.sub (S:St C P aj L f₀ σ₀ as tmp s){uH:List (AV×Value)}(h:∀q ∈ uH,q ∈ tmp):St C P aj L f₀ σ₀ as uH s:=by
 obtain⟨m,σ,τ,pm,om,fz,S⟩:=S
 exact⟨m,σ,τ,pm,om,fz,S.GP λq hq=>S.tmp q (h q hq)⟩
theorem St.pop {q:AV×Value}(S:St C P aj L f₀ σ₀ as (q::tmp) s):St C P aj L f₀ σ₀ as tmp s:=S.sub λ_ h=>.tail _ h
theorem St.Nv {q r:AV×Value}(S:St C P aj L f₀ σ₀ as (q::r::tmp) s):St C P aj L f₀ σ₀ as tmp s:=S.pop.pop
theorem St.un (S:St C P aj L f₀ σ₀ as tmp s){G:Prop}(k:∀m σ τ pm om fz,bU C P aj L f₀ σ₀ as tmp s m σ τ pm om fz->G):G:=St.casesOn S k
theorem bU.t0 {a v}(X:bU C P aj L f₀ σ₀ as ((a,v)::tmp) s m σ τ pm om fz):LR C P fz σ τ a v:=X.tmp _ (.head _)
theorem bU.t1 {q a v}(X:bU C P aj L f₀ σ₀ as (q::(a,v)::tmp) s m σ τ pm om fz):LR C P fz σ τ a v:=X.tmp _ (.tail _ (.head _))
theorem bU.t2 {q r a v}(X:bU C P aj L f₀ σ₀ as (q::r::(a,v)::tmp) s m σ τ pm om fz):LR C P fz σ τ a v:=X.tmp _ (.tail _ (.tail _ (.head _)))
theorem bU.d1 {q}(X:bU C P aj L f₀ σ₀ as (q::tmp) s m σ τ pm om fz):bU C P aj L f₀ σ₀ as tmp s m σ τ pm om fz:=X.GP λq h=>X.tmp q (.tail _ h)
theorem bU.d2 {q r}(X:bU C P aj L f₀ σ₀ as (q::r::tmp) s m σ τ pm om fz):bU C P aj L f₀ σ₀ as tmp s m σ τ pm om fz:=X.d1.d1
theorem bU.d3 {q r u}(X:bU C P aj L f₀ σ₀ as (q::r::u::tmp) s m σ τ pm om fz):bU C P aj L f₀ σ₀ as tmp s m σ τ pm om fz:=X.d1.d1.d1
theorem bU.st (X:bU C P aj L f₀ σ₀ as tmp s m σ τ pm om fz):St C P aj L f₀ σ₀ as tmp s:=⟨_,_,_,_,_,_,X⟩
theorem bU.toks (S:bU C P aj L f₀ σ₀ as tmp s m σ τ pm om fz)(t:Nat):bU C P aj L f₀ σ₀ as tmp {s with toks:=t} m σ τ pm om fz:=
 ⟨S.fr,S.nw,S.nd,S.ak,S.par,S.own,S.tmp,S.gens,S.drawn,S.os,S.ff,S.ss,S.pf⟩
theorem St.toks (S:St C P aj L f₀ σ₀ as tmp s)(t:Nat):St C P aj L f₀ σ₀ as tmp {s with toks:=t}:=by
 obtain⟨m,σ,τ,pm,om,fz,S⟩:=S
 exact⟨m,σ,τ,pm,om,fz,S.toks t⟩
theorem bU.newF (S:bU C P aj L f₀ σ₀ as tmp s m σ τ pm om fz){h':Heap}{q:Addr}{o:Obj}{t:Nat}(F:Fr aj L h' m)(N:News aj L h' ((q,o)::(pm++(om++fz))))(hq:∀p ∈ pm++(om++fz),p.1<q):
  bU C P aj L f₀ σ₀ as tmp {s with heap:=h',toks:=t} m σ τ pm om ((q,o)::fz):=by
 have hs:∀p ∈ fz,p ∈ (q,o)::fz:=λp hp=>.tail _ hp
 have e:(pm++(om++(q,o)::fz)).Perm ((q,o)::(pm++(om++fz))):=(List.Perm.append_left _ List.perm_middle).trans List.perm_middle
 refine⟨F,jC N λp hp=>e.mem_iff.mp hp,((e.map (·.1)).nodup_iff).mpr (List.nodup_cons.mpr ⟨λhm=>?_,S.nd⟩),λx a e=>?_,S.par.mono hs,S.own.mono hs,λp hp=>(S.tmp p hp).mono hs,S.gens,S.drawn,S.os,λp hp=>hs p (S.ff p hp),S.ss,S.pf⟩
 ·obtain⟨r,hr,e⟩:=List.mem_map.mp hm
  exact absurd e (Nat.ne_of_lt (hq r hr))
 ·obtain⟨v,h1,h2⟩:=S.ak x a e
  exact⟨v,h1,h2.mono hs⟩
theorem bU.alloc (S:bU C P aj L f₀ σ₀ as tmp s m σ τ pm om fz)(o:Obj)(hf:o.isFreed=false:=by rfl):
  bU C P aj L f₀ σ₀ as tmp {s with heap:=s.heap.push o} m σ τ pm om ((s.heap.objs.size,o)::fz):=S.newF (S.fr.push o) (News.push S.fr S.nw o hf) S.lt
end
end
noncomputable def AV.clo:AV->Bool
 | .own _=>false
 | .bN _=>false
 |_=>true
noncomputable def AV.noOwn:AV->Bool
 | .own _=>false
 |_=>true
noncomputable def dZ {α:Type} (sl:List (Nat×α)):List (Nat×α)->List (Nat×α)
 |[]=>sl
 |d::r=>match get d.1 sl with
  |some _=>dZ sl r
  |none=>dZ (sl++[d]) r
noncomputable def eY {α:Type} (sl:List (Nat×α)):List Nat->Option (List (Nat×α))
 |[]=>some []
 |p::r=>match get p sl,eY sl r with
  |some v,some l=>some ((p,v)::l)
  |_,_=>none
noncomputable def kwOk (ps:List Nat) (pos:List Nat):List Nat->Bool
 |[]=>true
 |k::r=>ps.any (Nat.beq k ·)&& !pos.any (Nat.beq k ·)&&kwOk ps (k::pos) r
noncomputable def binds {α:Type} (ps:List Nat) (ds:List α) (as:List α) (ks:List (Nat×α)):Option (List (Nat×α)):=
 (qz (Nat.ble as.length ps.length&&kwOk ps (ps.take as.length) (ks.map (·.1))&&Nat.ble ds.length ps.length) ()).bind λ_=>eY (dZ (ps.zip as++ks) ((ps.drop (ps.length - ds.length)).zip ds)) ps
structure CI where
 ps:List Nat
 ds:List AV
 fs:List (Nat×Nat)
 cat:List (Nat×AV)
noncomputable def fields (b:List (Nat×AV)) (acc:List (Nat×AV)):List (Nat×Nat)->Option (List (Nat×AV))
 |[]=>some acc
 |f::r=>(get f.2 b).bind λv=>(qz v.clo ()).bind λ_=>fields b (put f.1 v acc) r
noncomputable def slot (st:AS):AV->Option Cont
 | .own k=>get k st.own
 | .bN k=>st.par.bind λp=>get k p.sl
 |_=>none
noncomputable def pJ {α:Type} (a b:Option α):Option α:=match a with
 |some x=>some x
 |none=>b
noncomputable def qO (st:AS) (d:AV):Option (List AV):=(slot st d).bind Cont.lO
noncomputable def Hy (st:AS) (d:AV):Option (List (Int×AV)):=(slot st d).bind Cont.dO
noncomputable def yI (st:AS) (d:AV):Bool:=(qO st d).isSome
noncomputable def setSlot (st:AS) (c:Cont):AV->Option AS
 | .own k=>some {st with own:=put k c st.own}
 | .bN k=>st.par.map λp=>{st with par:=some {p with sl:=put k c p.sl}}
 |_=>none
noncomputable def Cont.ne:Cont->Option Bool
 | .l xs=>some (!xs.isEmpty)
 | .d xs=>some (!xs.isEmpty)
 |_=>none
noncomputable def truth (st:AS):AV->Option Bool
 | .none=>some false
 | .bool b=>some b
 | .int i=>some (!decide (i=0))
 | .str s=>some (!s.isEmpty)
 | .tup l=>some (!l.isEmpty)
 | .lst l=>some (!l.isEmpty)
 | .bm _=>some true
 |v=>(slot st v).bind Cont.ne
mutual
noncomputable def aeq:AV->AV->Option Bool
 | .none,.none=>some true
 | .bool a,.bool b=>some (a==b)
 | .int a,.int b=>some (decide (a=b))
 | .str a,.str b=>some (decide (a=b))
 | .tup a,.tup b=>Qx a b
 | .lst a,.lst b=>Qx a b
 | .none,.int _=>some false
 | .int _,.none=>some false
 | .none,.str _=>some false
 | .str _,.none=>some false
 |_,_=>none
noncomputable def Qx:List AV->List AV->Option Bool
 |[],[]=>some true
 |a::r,b::q=>match aeq a b with
  |some true=>Qx r q
  |_=>none
 |_,_=>none
end
noncomputable def isIn (x:List Nat):List Nat->Bool
 |[]=>x.isEmpty
 |c::r=>match List.isPrefixOf x (c::r)with
  |true=>true
  |false=>isIn x r
noncomputable def sle:List Nat->List Nat->Bool
 |[],_=>true
 |_::_,[]=>false
 |a::r,b::q=>match Nat.blt a b with
  |true=>true
  |false=>match Nat.beq a b with
   |true=>sle r q
   |false=>false
noncomputable def strsOf:List AV->Option (List (List Nat))
 |[]=>some []
 |a::r=>a.iW.bind λy=>(strsOf r).map (y:: ·)
noncomputable def R6 (x:List Nat) (l:List AV):Option Bool:=(strsOf l).map λys=>ys.any λy=>decide (y=x)
noncomputable def iJ (x:Int):List (Int×AV)->Option AV
 |[]=>none
 |p::r=>match decide (p.1=x)with
  |true=>some p.2
  |false=>iJ x r
noncomputable def mG (x:Int) (v:AV):List (Int×AV)->List (Int×AV)
 |[]=>[(x,v)]
 |p::r=>match decide (p.1=x)with
  |true=>(p.1,v)::r
  |false=>p::mG x v r
noncomputable def Bp (x:Int):List (Int×AV)->List (Int×AV)
 |[]=>[]
 |p::r=>match decide (p.1=x)with
  |true=>r
  |false=>p::Bp x r
structure FI where
 ps:List Nat
 ds:List AV
 body:List IS
structure Tb where
 FT:Nat->Option FI
 CT:Nat->Option CI
 DT:Addr->Option (List (List Nat×AV))
 EV:List Nat:=[]
noncomputable def lC (x:List Nat):List (List Nat×AV)->Option AV
 |[]=>none
 |p::r=>match decide (p.1=x)with
  |true=>some p.2
  |false=>lC x r
noncomputable def i2 {α:Type} (a b:AV) (f:Int->Int->Option α):Option α:=a.gK.bind λi=>b.gK.bind λj=>f i j
noncomputable def s2 {α:Type} (a b:AV) (f:List Nat->List Nat->Option α):Option α:=a.iW.bind λi=>b.iW.bind λj=>f i j
noncomputable def one {α:Type}:List α->Option α
 |[c]=>some c
 |_=>none
noncomputable def Wk (a b:AV):Option Bool:=pJ (i2 a b λa b=>some (decide (a=b))) (pJ (s2 a b λa b=>some (decide (a=b))) (match a.isNone,b.isNone with
 |true,true=>some true
 |true,false=>pJ (b.gK.bind λ_=>some false) (b.iW.bind λ_=>some false)
 |false,true=>pJ (a.gK.bind λ_=>some false) (a.iW.bind λ_=>some false)
 |false,false=>none))
noncomputable def inS (T:Tb) (x:List Nat) (b:AV):Option Bool:=pJ (b.iW.bind λb=>(one x).bind λc=>some (b.any (Nat.beq c ·))) (pJ (b.Gy.bind λl=>R6 x l) (pJ (b.uL.bind λl=>R6 x l) (b.GC.bind λd=>(T.DT d).bind λl=>some (lC x l).isSome)))
noncomputable def Ij:AV->Option Bool
 | .none=>some true
 | .own _=>none
 | .bN _=>none
 | .top _=>none
 |_=>some false
noncomputable def mL (T:Tb) (st:AS) (o:Ec) (a b:AV):Option Bool:=match o with
 | .eq=>Wk a b
 | .ne=>(Wk a b).bind λr=>some (!r)
 | .lt=>i2 a b λa b=>some (decide (a<b))
 | .le=>pJ (i2 a b λa b=>some (decide (a<=b))) (s2 a b λa b=>some (sle a b))
 | .gt=>i2 a b λa b=>some (decide (b<a))
 | .ge=>i2 a b λa b=>some (decide (b<=a))
 | .fJ=>pJ (a.iW.bind λx=>inS T x b) (a.gK.bind λi=>(Hy st b).bind λxs=>some (iJ i xs).isSome)
 | .nin=>a.iW.bind λx=>(one x).bind λc=>b.iW.bind λb=>some (!b.any (Nat.beq c ·))
 | .is_=>(qz b.isNone ()).bind λ_=>Ij a
 | .Le=>(qz b.isNone ()).bind λ_=>(Ij a).bind λr=>some (!r)
noncomputable def fQ (b:Int):Bool:=decide (0<b)&&decide (b<1000000)
noncomputable def Bs (o:Eh) (a b:AV):Option AV:=match o with
 | .add=>pJ (i2 a b λa b=>some (.int (a+b))) (s2 a b λa b=>qz (Nat.ble (a.length+b.length) 100000) (.str (a++b)))
 | .sub=>i2 a b λa b=>some (.int (a - b))
 | .mul=>i2 a b λa b=>qz (fQ a) (.int (a*b))
 | .div=>i2 a b λa b=>qz (fQ b) (.int (Int.fdiv a b))
 | .mod=>i2 a b λa b=>qz (fQ b) (.int (Int.fmod a b))
noncomputable def okS (s:List Nat):Option (List Nat):=qz (Nat.ble s.length 100000) s
noncomputable def z9 {α:Type} (s:List α):Option (List α):=qz (Nat.ble s.length 1000) s
noncomputable def yH:List AV->Option (List Nat)
 |[]=>some []
 |a::r=>a.iW.bind λs=>(yH r).map (s++ ·)
noncomputable def tQ (st:AS) (v:AV):Option (List AV):=pJ v.uL (pJ v.Gy (qO st v))
noncomputable def tL (st:AS) (v:AV):Option (List AV):=pJ v.uL (qO st v)
noncomputable def aby (st:AS) (v:AV):Option Nat:=pJ (v.iW.map List.length) ((tL st v).map List.length)
noncomputable abbrev fP:=Nat->List AV->Option cF->(AV->Option cF->Prop)->Prop
noncomputable abbrev PE:=AV->AS->Prop
noncomputable def eN (i:Int) (n:Nat):Option Nat:=qz (decide (0<=i)&&decide (i<(n:Int))) i.toNat
noncomputable def nth {α:Type}:Nat->List α->Option α
 |_,[]=>none
 |0,a::_=>some a
 |n+1,_::r=>nth n r
noncomputable def tH (i:Int) (n:Nat):Option Nat:=qz (decide (i<0)&&decide (0<=i+(n:Int))) (i+(n:Int)).toNat
noncomputable def yx (l:List AV) (i:Int):Option AV:=match decide (0<=i)with
 |true=>(eN i l.length).bind λk=>nth k l
 |false=>(tH i l.length).bind λk=>nth k l
noncomputable def abI (st:AS) (a:AV) (i:Int):Option AV:=pJ (a.iW.bind λs=>(eN i s.length).bind λk=>(nth k s).bind λc=>some (.str [c])) (pJ (a.uL.bind λl=>yx l i) (pJ ((qO st a).bind λxs=>(eN i xs.length).bind λk=>nth k xs) ((Hy st a).bind λxs=>iJ i xs)))
noncomputable def idxV (T:Tb) (st:AS) (a b:AV):Option AV:=pJ (b.gK.bind λi=>abI st a i) (a.GC.bind λd=>b.iW.bind λx=>(T.DT d).bind (lC x ·))
noncomputable def Tt (v:AV) (a b:Int):Option AV:=v.iW.bind λs=>qz (decide (0<=a)&&(decide (a<=b)&&decide (a<=(s.length:Int)))) (.str ((s.take b.toNat).drop a.toNat))
noncomputable def Yj (v:AV) (a b:Int):Option AV:=v.uL.bind λs=>qz (decide (0<=a)&&decide (0<=b)) (.lst ((s.take b.toNat).drop a.toNat))
noncomputable def Cont.cO:Cont->Option (Addr×Option AV)
 | .c b v=>some (b,v)
 |_=>none
noncomputable def AV.Rb:AV->Option Nat
 | .bN k=>some k
 |_=>.none
noncomputable def cellAt (st:AS) (k:Nat) (a:Addr):Option AV:=((get k st.own).bind Cont.cO).bind λc=>c.2.bind λv=>qz (Nat.beq c.1 a) v
noncomputable def spots (c j:Int):Int->List AV->List AV
 |_,[]=>[]
 |i,a::r=>match decide (Int.fmod i c=j)with
  |true=>a::spots c j (i+1) r
  |false=>spots c j (i+1) r
noncomputable def nM (l:List AV):Bool:=l.all AV.clo
section
variable (T:Tb)(CF:fP)
noncomputable def gW (f:Nat) (as:List AV) (ks:List (Nat×AV)) (st:AS) (Q:PE):Prop:=kI (nM as&&nM (ks.map (·.2))) (pick (T.FT f) λi=>pick (binds i.ps i.ds as ks) λb=>CF f (b.map (·.2)) st.par λr par=>Q r {st with par:=par})
noncomputable def Ip (c:Nat) (vs:List AV) (ks:List (Nat×AV)) (st:AS) (Q:PE):Prop:=pick (T.CT c) λi=>kI (nM vs&&nM (ks.map (·.2))) (pick ((binds (i.ps) i.ds (.own 0::vs) ks).bind (fields · [] i.fs)) λfs=>Q (.inst c fs) st)
noncomputable def nP (st:AS) (x:Nat):Option cF:=match get x st.ak with
 |some .self=>st.par
 |_=>none
noncomputable def HN (st:AS):Option cF:=nP st 0
noncomputable def qw (st:AS) (x a:Nat):Bool:=match nP st x with
 |some p=>(match get a p.at_ with
  |some _=>false
  |none=>true)
 |none=>false
noncomputable def noAttr (st:AS) (a:Nat):Bool:=qw st 0 a
noncomputable def Ey (st:AS) (a:Nat):Option AV:=(HN st).bind λp=>get a p.at_
noncomputable def abE (st:AS):Bool:=match get 0 st.ak with
 |some .self=>true
 |_=>false
noncomputable def ZX (v:AV) (a:Nat):Option AV:=v.Dm.bind λc=>(T.CT c.1).bind λi=>match get a c.2 with
 |some v=>(get a i.fs).map λ_=>v
 |none=>get a i.cat
noncomputable def unc {α:Type}:List α->Option (α×List α)
 |[]=>none
 |a::l=>some (a,l)
mutual
noncomputable def bf:IE->AS->PE->Prop
 | .ak x,st,Q=>pick (get x st.ak) λv=>Q v st
 | .aA c,st,Q=>Q c st
 | .bB a,st,Q=>pick (Ey st a) λv=>Q v st
 | .xY a d,st,Q=>kI (noAttr st a) (Q (.top d) st)
 | .smt f,st,Q=>kI (noAttr st f) (Q (.bm f) st)
 | .fld e a,st,Q=>bf e st λv st=>pick (ZX T v a) λr=>Q r st
 | .ccl c a,st,Q=>pick ((T.CT c).bind λi=>get a i.cat) λv=>Q v st
 | .aq f args kws,st,Q=>kI (noAttr st f) (gD args st λvs st=>pG kws st λks st=>gW T CF f (.self::vs) ks st Q)
 | .mZ a,st,Q=>pick ((Ey st a).bind AV.bmO) λf=>gW T CF f [.self] [] st Q
 | .cU f args,st,Q=>gD args st λvs st=>gW T CF f vs [] st Q
 | .bR c args kws,st,Q=>gD args st λvs st=>pG kws st λks st=>Ip T c vs ks st Q
 | .cls c,st,Q=>Q (.cls c) st
 | .lq x args,st,Q=>pick ((get x st.ak).bind AV.V8) λc=>kI (T.CT c).isSome (gD args st λvs st=>Ip T c vs [] st Q)
 | .len e,st,Q=>bf e st λv st=>pick (aby st v) λn=>Q (.int n) st
 | .keys e,st,Q=>bf e st λv st=>pick (Hy st v) λxs=>Q (.lst (xs.map λp=>.int p.1)) st
 | .Gn e c,st,Q=>bf e st λv st=>pick v.Dm λc'=>kI (T.EV.any (Nat.beq c'.1 ·)&&T.EV.any (Nat.beq c ·)) (Q (.bool (Nat.beq c'.1 c)) st)
 | .vH e,st,Q=>bf e st λv st=>pick v.iW λ_=>Q (.bool true) st
 | .m7 t,st,Q=>bf t st λv st=>pick (qO st v) λxs=>pick xs.getLast? λx=>pick (setSlot st (.l xs.dropLast) v) λst=>Q x st
 | .sW t,st,Q=>bf t st λv st=>pick ((qO st v).bind unc) λx=>pick (setSlot st (.l x.2) v) λst=>Q x.1 st
 | .join e,st,Q=>bf e st λv st=>pick (((tL st v).bind yH).bind okS) λs=>Q (.str s) st
 | .sup f e,st,Q=>bf e st λv st=>kI (abE st&&v.clo) (gW T CF f [.self,v] [] st Q)
 | .Y8 _,_,_=>False
 | .jV k a,st,Q=>pick (cellAt st k a) λv=>Q v st
 | .jz x f,st,Q=>kI (qw st x f) (gW T CF f [.self] [] st Q)
 | .cat a b,st,Q=>bf a st λv st=>bf b st λu st=>pick (tL st v) λv=>pick (tL st u) λu=>kI (Nat.ble (v.length+u.length) 1000) (Q (.lst (v++u)) st)
 | .lG e k a k' a',st,Q=>bf e st λv st=>pick v.uL λl=>pick ((cellAt st k a).bind AV.gK) λc=>pick ((cellAt st k' a').bind AV.gK) λj=>kI (fQ c) (Q (.lst (spots c j 0 l)) st)
 | .idx e i,st,Q=>bf e st λv st=>bf i st λj st=>pick (idxV T st v j) λr=>Q r st
 | .slc e lo hi,st,Q=>bf e st λv st=>bf lo st λa st=>bf hi st λb st=>pick a.gK λa=>pick b.gK λb=>pick (Tt v a b) λr=>Q r st
 | .nO e lo hi,st,Q=>bf e st λv st=>bf lo st λa st=>bf hi st λb st=>pick a.gK λa=>pick b.gK λb=>pick (Yj v a b) λr=>Q r st
 | .eqd a b,st,Q=>bf a st λv st=>bf b st λu st=>pick (tQ st v) λv=>pick (tQ st u) λu=>pick (Qx v u) λr=>Q (.bool r) st
 | .cmp o a b,st,Q=>bf a st λv st=>bf b st λu st=>pick (mL T st o v u) λr=>Q (.bool r) st
 | .oV o o' a b c,st,Q=>bf a st λv st=>bf b st λu st=>pick (mL T st o v u) λr=>match r with
  |false=>Q (.bool false) st
  |true=>bf c st λt st=>pick (mL T st o' u t) λr=>Q (.bool r) st
 | .and_ es,st,Q=>Gu true es st Q
 | .or_ es,st,Q=>Gu false es st Q
 | .not_ e,st,Q=>bf e st λv st=>pick (truth st v) λb=>Q (.bool (!b)) st
 | .ite t a b,st,Q=>bf t st λv st=>pick (truth st v) λc=>match c with
  |true=>bf a st Q
  |false=>bf b st Q
 | .bin o a b,st,Q=>bf a st λv st=>bf b st λu st=>pick (Bs o v u) λr=>Q r st
 | .neg e,st,Q=>bf e st λv st=>pick v.gK λi=>Q (.int (-i)) st
 | .tup es,st,Q=>gD es st λvs st=>kI (nM vs&&Nat.ble vs.length 1000) (Q (.tup vs) st)
 | .lst es,st,Q=>gD es st λvs st=>kI (nM vs&&Nat.ble vs.length 1000) (Q (.lst vs) st)
noncomputable def gD:List IE->AS->(List AV->AS->Prop)->Prop
 |[],st,Q=>Q [] st
 |e::r,st,Q=>bf e st λv st=>gD r st λvs st=>Q (v::vs) st
noncomputable def pG:List (Nat×IE)->AS->(List (Nat×AV)->AS->Prop)->Prop
 |[],st,Q=>Q [] st
 |(k,e)::r,st,Q=>bf e st λv st=>pG r st λvs st=>Q ((k,v)::vs) st
noncomputable def Gu (b:Bool):List IE->AS->PE->Prop
 |[],_,_=>False
 |[e],st,Q=>bf e st Q
 |e::e'::r,st,Q=>bf e st λv st=>pick (truth st v) λt=>match t==b with
  |true=>Gu b (e'::r) st Q
  |false=>Q v st
end
end
inductive Out where
 |next|brk|ret (v:AV)
noncomputable abbrev PS:=Out->AS->Prop
noncomputable def aK (st:AS) (x:Nat) (v:AV):AS:={st with ak:=put x v st.ak}
noncomputable def setAt (st:AS) (a:Nat) (v:AV):Option AS:=(HN st).bind λp=>qz (Nat.ble (put a v p.at_).length 100) {st with par:=some {p with at_:=put a v p.at_}}
noncomputable def jM (st:AS) (kd:Xx) (v:AV):Option (List AV):=match kd with
 | .list=>v.uL
 | .str=>v.iW.map λs=>s.map λc=>.str [c]
 | .range=>v.gK.bind λn=>qz (decide (0<=n)&&decide (n<=1000)) ((List.range n.toNat).map λ(i:Nat)=>.int (i:Int))
 | .enum=>pJ (v.iW.map λs=>s.zipIdx.map λ(c:Nat×Nat)=>.tup [.int (c.2:Int),.str [c.1]]) (v.uL.map λs=>s.zipIdx.map λ(c:AV×Nat)=>.tup [.int (c.2:Int),c.1])
 | .dict=>v.Rb.bind λk=>(Hy st (.bN k)).map λxs=>xs.map λp=>.int p.1
noncomputable def setCell (st:AS) (k:Nat) (a:Addr) (v:AV):Option AS:=((get k st.own).bind Cont.cO).bind λc=>qz (v.clo&&Nat.beq c.1 a) {st with own:=put k (.c c.1 (some v)) st.own}
noncomputable def TG (st:AS) (t:Tg) (v:AV):Option AS:=match t with
 | .l x=>some (aK st x v)
 | .c k a=>setCell st k a v
noncomputable def Cq (st:AS):List Tg->List AV->Option AS
 |[],[]=>some st
 |t::ts,v::vs=>(TG st t v).bind λst=>Cq st ts vs
 |_,_=>none
noncomputable def oW (st:AS) (ts:List Tg) (v:AV):Option AS:=match ts with
 |[t]=>TG st t v
 |ts=>v.Gy.bind λvs=>Cq st ts vs
noncomputable def fresh (k:Nat) (st:AS):Bool:=(match get k st.own with|some _=>false|none=>true)
noncomputable def wL (k:Nat) (st:AS):Bool:=match st.par with
 |some p=>(match get k p.sl with|some _=>false|none=>true)
 |none=>false
noncomputable def Loop (step:(AS->Prop)->AS->Prop) (st:AS):Prop:=∀P:AS->Prop,(∀st,step P st->P st)->P st
section
variable (T:Tb)(CF:fP)
noncomputable def zT (e:IE) (st:AS) (Q:Bool->AS->Prop):Prop:=bf T CF e st λv st=>pick (truth st v) λb=>Q b st
mutual
noncomputable def wpS:List IS->AS->PS->Prop
 |[],st,Q=>Q .next st
 |s::r,st,Q=>wp1 s st λo st=>match o with
  | .next=>wpS r st Q
  |o=>Q o st
noncomputable def wp1:IS->AS->PS->Prop
 | .asg x e,st,Q=>bf T CF e st λv st=>Q .next (aK st x v)
 | .mR x y e,st,Q=>bf T CF e st λv st=>Q .next (aK (aK st x v) y v)
 | .uV x y z e,st,Q=>bf T CF e st λv st=>Q .next (aK (aK (aK st x v) y v) z v)
 | .nD xs e,st,Q=>bf T CF e st λv st=>pick (oW st xs v) (Q .next)
 | .Bv k a e,st,Q=>bf T CF e st λv st=>pick (setCell st k a v) (Q .next)
 | .qx x k es,st,Q=>gD T CF es st λvs st=>kI (nM vs&&Nat.ble vs.length 1000&&fresh k st) (Q .next (aK {st with own:=(k,.l vs)::st.own} x (.own k)))
 | .bC a e,st,Q=>bf T CF e st λv st=>kI v.noOwn (pick (setAt st a v) (Q .next))
 | .w5 a i e,st,Q=>bf T CF e st λv st=>bf T CF (.bB a) st λd st=>bf T CF i st λi st=>pick (Hy st d) λxs=>pick i.gK λi=>kI v.clo (pick ((z9 (mG i v xs)).bind λl=>setSlot st (.d l) d) (Q .next))
 | .j7 x k,st,Q=>kI (fresh k st) (Q .next (aK {st with own:=(k,.l [])::st.own} x (.own k)))
 | .jf a k,st,Q=>kI (wL k st) (pick (setAt {st with par:=st.par.map λp=>{p with sl:=(k,.l [])::p.sl}} a (.bN k)) (Q .next))
 | .jZ a k,st,Q=>kI (wL k st) (pick (setAt {st with par:=st.par.map λp=>{p with sl:=(k,.d [])::p.sl}} a (.bN k)) (Q .next))
 | .aug x o e,st,Q=>pick (get x st.ak) λa=>bf T CF e st λb st=>pick (Bs o a b) λv=>Q .next (aK st x v)
 | .gG a o e,st,Q=>bf T CF (.bB a) st λu st=>bf T CF e st λb st=>pick (Bs o u b) λv=>pick (setAt st a v) (Q .next)
 | .exp e,st,Q=>bf T CF e st λ_ st=>Q .next st
 | .uI f e,st,Q=>get 0 st.ak=some .self/\st.par.isSome=true/\bf T CF (.sup f e) st λ_ st=>Q .next st
 | .app t e,st,Q=>bf T CF t st λd st=>kI (yI st d) (bf T CF e st λv st=>pick (qO st d) λxs=>kI v.clo (pick ((z9 (xs++[v])).bind λl=>setSlot st (.l l) d) (Q .next)))
 | .ext t e,st,Q=>bf T CF t st λd st=>kI (yI st d) (bf T CF e st λv st=>pick (qO st d) λxs=>pick (tQ st v) λys=>pick ((z9 (xs++ys)).bind λl=>setSlot st (.l l) d) (Q .next))
 | .ins t i e,st,Q=>bf T CF t st λd st=>kI (yI st d) (bf T CF i st λi st=>bf T CF e st λv st=>pick (qO st d) λxs=>pick i.gK λi=>kI v.clo (pick (eN i (xs.length+1)) λk=>pick ((z9 (xs.take k++v::xs.drop k)).bind λl=>setSlot st (.l l) d) (Q .next)))
 | .ite t a b,st,Q=>zT T CF t st λc st=>match c with
  |true=>wpS a st Q
  |false=>wpS b st Q
 | .whl t b,st,Q=>Loop (λP st=>zT T CF t st λc st=>match c with
  |true=>wpS b st λo st=>(match o with
   | .next=>P st
   | .brk=>Q .next st
   | .ret v=>Q (.ret v) st)
  |false=>Q .next st) st
 | .jo kd xs e b,st,Q=>bf T CF e st λv st=>pick (jM st kd v) λl=>l.foldr (λa (K:AS->Prop) st=>jM st kd v=some l/\pick (oW st xs a) λst=>wpS b st λo st=>(match o with
   | .next=>K st
   | .brk=>Q .next st
   | .ret v=>Q (.ret v) st)) (Q .next) st
 | .ret e,st,Q=>bf T CF e st λv st=>Q (.ret v) st
 | .yc,st,Q=>Q (.ret .none) st
 | .brk,st,Q=>Q .brk st
 | .pass,st,Q=>Q .next st
 | .bad,_,_=>False
 | .zm x y f e,st,Q=>get x st.ak=none/\get y st.ak=none/\bf T CF e st λv st'=>pick v.iW λs=>get x st'.ak=none/\get y st'.ak=none/\(∀c ∈ s,gW T CF f [.str [c]] [] ⟨none,[],[]⟩ λr _=>r= .bool true)/\Q .next st'
 | .del a i,st,Q=>bf T CF (.bB a) st λd st=>bf T CF i st λi st=>pick (Hy st d) λxs=>pick i.gK λi=>pick (iJ i xs) λ_=>pick (setSlot st (.d (Bp i xs)) d) (Q .next)
 | .ast t,st,Q=>zT T CF t st λc st=>match c with
  |true=>Q .next st
  |false=>False
 | .try_ b,st,Q=>wpS b st Q
end
noncomputable def uJ (st:AS):AV->Option AV
 | .own k=>((get k st.own).bind Cont.lO).map AV.lst
 | .bN _=>none
 |v=>some v
noncomputable def outV (st:AS):Out->Option AV
 | .ret v=>uJ st v
 |_=>some .none
noncomputable def zB (i:FI) (vs:List AV) (par:Option cF) (Q:AV->Option cF->Prop):Prop:=
 wpS T CF i.body ⟨par,i.ps.zip vs,[]⟩ λo st=>pick (outV st o) λv=>Q v st.par
end
noncomputable def Ef (T:Tb):Nat->fP
 |0=>λ_ _ _ _=>False
 |n+1=>λf vs par Q=>match T.FT f with
  |some i=>zB T (Ef T n) i vs par Q
  |none=>False
section
variable {C:Cx}
structure Act (C:Cx)(A aU:Around)(base aj:Heap)(outer:List Env)(env:Env)(L:Addr):Prop where
 B:Below aU base outer aj
 X:C.K.In aj
 T:Top C.p C.loose C.mean C.mg C.mb aj
 hA:A.frames=some (env::outer)
 hL:env.locals=L
 hf:env.frame=some L
 hg:env.globals=mainGlobals
 hb:env.builtins=builtinsNs
 hk:env.scope.kind= .function
 hh:A.handled=none
 sm:(aj.get? sysModules).isSome=true
 hi:interactive env=false
noncomputable def KU (C:Cx) (P:Addr) (aj:Heap) (L:Addr) (f₀:F0) (σ₀:List (Nat×Addr)) {α:Type} (Q:α->AS->Prop) (tmp:List (AV×Value)) (R:α->Shared->Prop):Prop:=∀a s st,Q a st->St C P aj L f₀ σ₀ st tmp s->R a s
noncomputable def cu (C:Cx) (W:IE->AS->PE->Prop) (P:Addr) (A:Around) (aj:Heap) (L:Addr) (f₀:F0) (σ₀:List (Nat×Addr)) (env:Env) (e:Expr) (ie:IE):Prop:=
 ∀(st:AS) (tmp:List (AV×Value)) (s:Shared) (Q:PE) (E R:Value->Shared->Prop),W ie st Q->St C P aj L f₀ σ₀ st tmp s->KV C P aj L f₀ σ₀ Q tmp R->
  wpAny (model C.prog C.w) A (eval e env) R E s
noncomputable def xg (C:Cx) (W:IE->AS->PE->Prop) (P:Addr) (A:Around) (aj:Heap) (L:Addr) (f₀:F0) (σ₀:List (Nat×Addr)) (env:Env) (e:Expr) (ie:IE):Prop:=
 ∀(st:AS) (tmp:List (AV×Value)) (s:Shared) (Q:Bool->AS->Prop) (E:Value->Shared->Prop) (R:Bool->Shared->Prop),W ie st (λv st=>pick (truth st v) λb=>Q b st)->St C P aj L f₀ σ₀ st tmp s->KU C P aj L f₀ σ₀ Q tmp R->
  wpAny (model C.prog C.w) A (isTrue e env (eval e env)) R E s
section
variable {P:Addr}{A aU:Around}{base aj:Heap}{outer:List Env}{env:Env}{L:Addr}{f₀:F0}{σ₀:List (Nat×Addr)}{T:Tb}{CF:fP}
 {st:AS}{tmp:List (AV×Value)}{s:Shared}{E:Value->Shared->Prop}
theorem St.eO (S:St C P aj L f₀ σ₀ st tmp s){a:AV}{v:Value}(h:∀fz,VR C P fz a v):St C P aj L f₀ σ₀ st ((a,v)::tmp) s:=
 S.un λ_ _ _ _ _ _ X=>(X.push (.v (h _))).st
theorem St.Nt (S:St C P aj L f₀ σ₀ st tmp s)(i:Int):St C P aj L f₀ σ₀ st ((.int i,.int i s.toks)::tmp) {s with toks:=s.toks+1}:=
 (S.toks _).eO λ_=>.int _ _
theorem Mr (Z:Act C A aU base aj outer env L){x:Nat}{n:Str}{pos:Pos}(hn:n=C.nm x)(hl:env.kindOf n=some .local)(hd:(n==("__debug__":Str))=false):
  cu C (bf T CF) P A aj L f₀ σ₀ env (.Name n pos) (.ak x):=λst tmp s Q E R h S k=>
 aQ h λv hv h=>S.un λm σ τ pm om fz X=>
  let ⟨u,h1,h2⟩:=X.ak x v hv
  wpAny_Name (wpAny_loadName_local Z.hk hl (Z.hL▸X.fr.ns) (hn▸h1) (k _ _ _ _ h (X.push h2).st)) hd
theorem Hq {k pos}:cu C (bf T CF) P A aj L f₀ σ₀ env (.Constant .none k pos) (.aA .none):=λst tmp s Q E R h S k=>
 wpAny_pure (a:=Value.none) (k _ _ _ _ h (S.eO λ_=>.none))
theorem Hu {b k pos}:cu C (bf T CF) P A aj L f₀ σ₀ env (.Constant (.bool b) k pos) (.aA (.bool b)):=λst tmp s Q E R h S k=>
 wpAny_pure (a:=Value.bool b) (k _ _ _ _ h (S.eO λ_=>.bool _))
theorem Mv {i k pos}:cu C (bf T CF) P A aj L f₀ σ₀ env (.Constant (.int i) k pos) (.aA (.int i)):=λst tmp s Q E R h S k=>
 wpAny_Constant_int (k _ _ _ _ h (S.Nt i))
theorem Mf {x:Str}{k pos}(hb:x.cps.toList.length<=100000):cu C (bf T CF) P A aj L f₀ σ₀ env (.Constant (.str x) k pos) (.aA (.str x.cps.toList)):=λst tmp s Q E R h S k=>
 wpAny_mkText (k _ _ _ _ h ((S.toks _).eO λfz=>VR.str (C:=C) (P:=P) (fz:=fz) x.cps.toList s.toks hb))
theorem Ml {e:Expr}{ie:IE}{pos:Pos}(ih:xg C (bf T CF) P A aj L f₀ σ₀ env e ie):
  xg C (bf T CF) P A aj L f₀ σ₀ env (.UnaryOp .Not e pos) (.not_ ie):=λst tmp s Q E R h S k=>
 wpAny_isTrue_Not (ih st tmp s (λb st=>Q (!b) st) E _ h S λb s st h S=>k _ _ _ h S)
end
end
section
variable {C:Cx}
variable {P:Addr}{A aU:Around}{base aj:Heap}{outer:List Env}{env:Env}{L:Addr}{f₀:F0}{σ₀:List (Nat×Addr)}{T:Tb}{CF:fP}
 {st:AS}{tmp:List (AV×Value)}{s:Shared}{E:Value->Shared->Prop}{m:Str->Option Value}{σ τ:List (Nat×Addr)}{pm om fz:List (Addr×Obj)}
theorem wC {a b:Nat}(h:Nat.beq a b=true):a=b:=Nat.eq_of_beq_eq_true h
theorem uK {a b:Nat}(h:Nat.beq a b=false):a≠b:=λe=>by subst e;rw[Nat.beq_refl]at h;cases h
theorem Ac (x a:Nat):(C.nm x==C.nm a)=Nat.beq x a:=by
 cases h:Nat.beq x a with
 |true=>rw[wC h];simp
 |false=>
  have:=uK h
  exact beq_eq_false_iff_ne.mpr λe=>this (C.inj _ _ e)
theorem m6.any {P fz σ}{at_ es}(h:m6 C P fz σ at_ es):es.any (·.refKey)=false:=by
 induction h with
 |nil=>rfl
 |cons _ _ i=>rw[List.any_cons,i];rfl
theorem m6.find {P fz σ}{a:Nat}{at_ es}(h:m6 C P fz σ at_ es){M:Option AV->Option DictEntry->Prop}(h0:M none none)(h1:∀v e,LR C P fz σ [] v e.val->M (some v) (some e)):M (get a at_) (es.find? (·.key.isStr (C.nm a))):=by
 induction h with
 |nil=>exact h0
 |cons h _ i=>
  unfold get
  rw[List.find?_cons]
  show M _ (match(C.nm _==C.nm a)with|true=>_|false=>_)
  rw[Ac]
  cases Nat.beq _ a with
  |true=>exact h1 _ _ h
  |false=>exact i
theorem m6.get_ {P fz σ at_ es}(h:m6 C P fz σ at_ es){a:Nat}{M:Option AV->Option (Option Value)->Prop}(h0:M none (some none))(h1:∀v u,LR C P fz σ [] v u->M (some v) (some (some u))):M (get a at_) (getL (C.nm a) es):=by
 have q:=h.any
 unfold getL
 refine h.find (a:=a) (M:=λo d=>M o (match d with|some e=>some (some e.val) |none=>if es.any (·.refKey)then none else some none)) ?_ λv e g=>h1 v _ g
 rw[q];exact h0
theorem m6.JD {P fz σ at_ es}(h:m6 C P fz σ at_ es){a:Nat}{v:AV}(e:get a at_=some v){G:Prop}(k:∀u,getL (C.nm a) es=some (some u)->LR C P fz σ [] v u->G):G:=
 h.get_ (a:=a) (M:=λo u=>o=some v->getL (C.nm a) es=u->G) (λe=>jk e) (λw u g e f=>k u f (Option.some.inj e▸g)) e rfl
theorem m6.Ax {P fz σ at_ es}(h:m6 C P fz σ at_ es){a:Nat}(e:get a at_=none):getL (C.nm a) es=some none:=
 h.get_ (a:=a) (M:=λo u=>o=none->u=some none) (λ_=>rfl) (λ_ _ _ e=>nomatch e) e
theorem m6.ZP {P fz σ at_ es}(h:m6 C P fz σ at_ es)(a:Nat):(getL (C.nm a) es).isSome=true:=
 h.get_ (a:=a) (M:=λ_ u=>u.isSome=true) rfl λ_ _ _=>rfl
theorem m6.put {P fz σ}{a:Nat}{v:AV}{u:Value}{hs:Int}{t:Tok}(hv:LR C P fz σ [] v u){at_ es}(h:m6 C P fz σ at_ es):m6 C P fz σ (put a v at_) (putL (C.nm a) hs (.str (C.nm a) t) u es):=by
 induction h with
 |nil=>exact .cons hv .nil
 |cons h r i=>
  unfold Mine.put putL
  show m6 C P fz σ _ (if(C.nm _==C.nm a)=true then _ else _)
  rw[Ac]
  cases Nat.beq _ a with
  |true=>exact .cons hv r
  |false=>exact .cons h i
noncomputable def attrOk (K:Frag) (CP:Addr) (n:Str):Bool:=plainGet K CP n&&hasDictIn K CP&&(match findIn K (.ref CP) n with
  |some a=>noGet K a
  |none=>false)&&(findIn K (.ref CP) "__setattr__"==some (some (.builtin "object.__setattr__")))&&plainOver K CP&&(takerIn K CP n==some none)
theorem bU.sX (S:bU C P aj L f₀ σ₀ st tmp s m σ τ pm om fz){p:cF}(e:st.par=some p){G:Prop}
  (k:∀pd es n mu,pm=(P,instObj C.CP pd)::(pd,dictOf es n)::mu->m6 C P fz σ p.at_ es->p7 C P fz p.sl σ mu->es.length<=100->G):G:=by
 have h:=S.par
 rw[e]at h
 revert k
 generalize hp:pm=nQ
 rw[hp]at h
 cases h with
 |some h1 h2 h3=>exact λk=>k _ _ _ _ rfl h1 h2 h3
theorem bU.wI {pd es n mu}(S:bU C P aj L f₀ σ₀ st tmp s m σ τ ((P,instObj C.CP pd)::(pd,dictOf es n)::mu) om fz):InstAt s.heap P (instObj C.CP pd) C.CP (some (dictOf es n)):=
 InstAt.of_news S.nw (.head _) (.tail _ (.head _))
theorem bU.oh {pd es n mu}(S:bU C P aj L f₀ σ₀ st tmp s m σ τ pm om fz)(e:pm=(P,instObj C.CP pd)::(pd,dictOf es n)::mu):InstAt s.heap P (instObj C.CP pd) C.CP (some (dictOf es n)):=(e▸S:bU C P aj L f₀ σ₀ st tmp s m σ τ ((P,instObj C.CP pd)::(pd,dictOf es n)::mu) om fz).wI
theorem vp (S:bU C P aj L f₀ σ₀ st tmp s m σ τ pm om fz){x:Nat}(e:get x st.ak=some .self):m (C.nm x)=some (.ref P):=
 let ⟨_,h1,h2⟩:=S.ak _ _ e
 h2.Yo (R:=λv=>m (C.nm x)=some v->m (C.nm x)=some (.ref P)) rfl id h1
theorem gH (S:bU C P aj L f₀ σ₀ st tmp s m σ τ pm om fz)(e:get 0 st.ak=some .self):m (C.nm 0)=some (.ref P):=vp S e
theorem jN {x:Nat}{p:cF}(h:nP st x=some p){G:Prop}(k:get x st.ak=some .self->st.par=some p->G):G:=by
 unfold nP at h
 revert h
 split
 ·rename_i q;exact k q
 ·exact λh=>jk h
theorem LR.handed {a:AV}{v:Value}(h:LR C P fz σ τ a v):handedIn v=true:=by
 cases h with
 |v g=>cases g<;>rfl
 |own g=>rfl
 |bN g=>rfl
theorem uq {K:Frag}{CP:Addr}{n:Str}(h:attrOk K CP n=true){G:Prop}(k:∀a,plainGet K CP n=true->hasDictIn K CP=true->findIn K (.ref CP) n=some a->noGet K a=true->findIn K (.ref CP) "__setattr__"=some (some (.builtin "object.__setattr__"))->plainOver K CP=true->takerIn K CP n=some none->G):G:=
 an h λh k6=>an h λh k5=>an h λh k4=>an h λh k3=>an h λk1 k2=>by
  revert k3
  revert k
  cases q:findIn K (.ref CP) n with
  |none=>exact λ_ k3=>jJ k3
  |some a=>exact λk k3=>k a k1 k2 rfl k3 (eq_of_beq k4) k5 (eq_of_beq k6)
theorem Ds (Z:Act C A aU base aj outer env L)(X:bU C P aj L f₀ σ₀ st tmp s m σ τ pm om fz){a:Nat}{v:AV}(hv:Ey st a=some v)(hk:attrOk C.K C.CP (C.nm a)=true){R:Value->Shared->Prop}
  (k:∀u,LR C P fz σ [] v u->R u {s with toks:=s.toks+1}):wpAny (model C.prog C.w) A (getAttr (.ref P) (C.nm a) true) R E s:=
 bnd hv λp hp hv=>jN hp λhs hp=>X.sX hp λpd es n mu e h1 h2 h3=>by
  subst e
  exact h1.JD hv λu g1 g2=>uq hk λat_ k1 k2 hat k3 k4 k5 k6=>get_own X.fr Z.X X.wI k1 k2 hat k3 g1 g2.handed (k u g2)
theorem Mj (Z:Act C A aU base aj outer env L){a:Nat}{n na:Str}{pos pos':Pos}(hn:n=C.nm 0)(hl:env.kindOf n=some .local)(hd:(n==("__debug__":Str))=false)(ha:na=C.nm a)(hk:attrOk C.K C.CP na=true):
  cu C (bf T CF) P A aj L f₀ σ₀ env (.Attribute (.Name n pos') na pos) (.bB a):=λst tmp s Q E R h S k=>
 aQ h λv hv h=>S.un λm σ τ pm om fz X=>bnd hv λp hp _=>jN hp λhs _=>by
  subst hn ha
  exact Attribute_name (wpAny_Name (wpAny_loadName_local Z.hk hl (Z.hL▸X.fr.ns) (gH X hs) (Ds Z X hv hk λu g=>k _ _ _ _ h ((X.toks _).push g.wide).st)) hd)
structure uX (C:Cx)(T:Tb):Prop where
 dt:∀d l,T.DT d=some l->(d==sysModules)=false/\∃es n,C.K.lookup d=some ⟨.type "dict",none,.dict es n,#[]⟩/\KeysLit C.w.params es.toList/\
  ∀x:List Nat,match lC x l with
   |some v=>∃u,nsIn C.K d ⟨x.toArray⟩=some (some u)/\∀P fz,VR C P fz v u
   |none=>nsIn C.K d ⟨x.toArray⟩=some none
noncomputable def cop:Ec->CmpOp
 | .eq=>.Eq| .ne=>.NotEq| .lt=>.Lt| .le=>.LtE| .gt=>.Gt| .ge=>.GtE| .fJ=>.In| .nin=>.NotIn| .is_=>.Is| .Le=>.IsNot
noncomputable def R4:Eh->Operator
 | .add=>.Add| .sub=>.Sub| .mul=>.Mult| .div=>.FloorDiv| .mod=>.Mod
theorem DP (a b:List Nat):((⟨a.toArray⟩:Str).cps.toList==(⟨b.toArray⟩:Str).cps.toList)=decide (a=b):=by
 show(a.toArray.toList==b.toArray.toList)=_
 rw[List.toList_toArray,List.toList_toArray]
 exact Bool.eq_iff_iff.mpr (by simp)
theorem Hx:∀a b:List Nat,sle a b= !decide (b<a)
 |[],b=>by
  have:¬b<[]:=List.not_lt_nil b
  simp[sle,this]
 |a::r,[]=>by
  have:([]:List Nat)<a::r:=List.nil_lt_cons a r
  simp[sle,this]
 |a::r,b::q=>by
  unfold sle
  have ih:=Hx r q
  rcases Nat.lt_trichotomy a b with h|h|h
  ·have e:Nat.blt a b=true:=by simp[Nat.blt_eq,h]
   have g:¬(b::q)<(a::r):=λk=>by
    rcases List.cons_lt_cons_iff.mp k with k|⟨k,_⟩<;>omega
   simp[e,g]
  ·subst h
   have e:Nat.blt a a=false:=by
    rw[Bool.eq_false_iff];intro k;rw[Nat.blt_eq]at k;omega
   have g:(a::q)<(a::r)↔q<r:=by
    rw[List.cons_lt_cons_iff];simp
   simp only[e,Nat.beq_refl,ih,g]
  ·have e:Nat.blt a b=false:=by
    rw[Bool.eq_false_iff];intro k;rw[Nat.blt_eq]at k;omega
   have e':Nat.beq a b=false:=by
    rw[Bool.eq_false_iff];intro k;have:=Nat.eq_of_beq_eq_true k;omega
   have g:(b::q)<(a::r):=List.cons_lt_cons_iff.mpr (.inl h)
   simp[e,e',g]
theorem Qw (c:Nat)(b:List Nat):b.any (Nat.beq c ·)=decide (c ∈ b):=by
 rw[Bool.eq_iff_iff,List.any_eq_true,decide_eq_true_eq]
 constructor
 ·rintro⟨x,hx,e⟩
  have:=Nat.eq_of_beq_eq_true e
  subst this;exact hx
 ·intro h;exact⟨c,h,Nat.beq_refl c⟩
theorem Jj (x:List Nat)(c:Nat):(!(PySem.Builtin.Str.occurrences ⟨x.toArray⟩ ⟨#[c]⟩ 0 (⟨x.toArray⟩:Str).length 1).isEmpty)=x.any (Nat.beq c ·):=by
 rw[Qw]
 have:=StrLaws.found_one ⟨x.toArray⟩ c
 simpa using this
theorem dz.strs {P fz}{l:List AV}{vs:List Value}{ys}(h:dz C P fz l vs)(e:strsOf l=some ys):StrsAre vs (ys.map λy=>(⟨y.toArray⟩:Str)):=by
 refine(?_ :∀ys,strsOf l=some ys->StrsAre vs (ys.map λy=>(⟨y.toArray⟩:Str))) ys e
 refine h.ind (λys e=>(Option.some.inj e:[]=ys)▸.nil) λh _ i ys e=>bnd e λy hy e=>?_
 obtain⟨zs,hz,rfl⟩:=Option.map_eq_some_iff.mp e
 exact(LR.v (σ:=[]) (τ:=[]) h).str_ hy λt _=>.cons _ _ (i _ hz)
theorem zJ (x:List Nat)(ys:List (List Nat)):((ys.map λy=>(⟨y.toArray⟩:Str)).any (· ==(⟨x.toArray⟩:Str)))=ys.any λy=>decide (y=x):=by
 rw[List.any_map]
 congr 1
 funext y
 show((⟨y.toArray⟩:Str)==⟨x.toArray⟩)=_
 rw[Bool.eq_iff_iff]
 simp
theorem pF.find {P fz}{i:Int}{xs kvs}(h:pF C P fz xs kvs){M:Option AV->Option Value->Prop}(h0:M none none)(h1:∀a v,VR C P fz a v->M (some a) (some v)):M (iJ i xs) (valueAt kvs i):=by
 unfold valueAt
 induction h with
 |nil=>exact h0
 |cons h _ ih=>
  unfold iJ
  rw[List.find?_cons]
  show M _ (Option.map (λkv:Int×Value=>kv.2) (match decide (_=i)with|true=>_|false=>_))
  cases decide (_=i)with
  |true=>exact h1 _ _ h
  |false=>exact ih
theorem yP {P fz}{i:Int}{xs kvs}(h:pF C P fz xs kvs):(iJ i xs).isSome=(valueAt kvs i).isSome:=h.find (M:=λa v=>a.isSome=v.isSome) rfl λ_ _ _=>rfl
theorem JF {P fz}{i:Int}{a:AV}{xs kvs}(h:pF C P fz xs kvs)(e:iJ i xs=some a){G:Prop}(k:∀v,valueAt kvs i=some v->VR C P fz a v->G):G:=
 h.find (i:=i) (M:=λo u=>o=some a->valueAt kvs i=u->G) (λe=>jk e) (λb v g e f=>k v f (Option.some.inj e▸g)) e rfl
theorem VR.Ii {a v}(h:VR C P fz a v):Mine.slot st a=Option.none:=by cases h<;>rfl
@[elab_as_elim] theorem bU.Hv (S:bU C P aj L f₀ σ₀ st tmp s m σ τ pm om fz) {a:AV} {v:Value} {c:Cont} (h:LR C P fz σ τ a v) (e:slot st a=some c) {R:Value->Prop}
  (k:∀d o,s.heap.get? d=some o->cW C P fz d c o->(d,o) ∈ pm++(om++fz)->R (.ref d)):R v:=by
 cases h with
 |v h=>exact jk (h.Ii.symm.trans e)
 |own h=>exact S.own.at_ e λb o h1 h2 h3=>Option.some.inj (h1.symm.trans h)▸k b o (S.nw _ (List.mem_append_right _ (List.mem_append_left _ h2))).1 h3 (List.mem_append_right _ (List.mem_append_left _ h2))
 |bN h=>exact bnd e λp hp e=>S.sX hp λpd es n mu q h1 h2 h3=>h2.at_ e λb o g1 g2 g3=>
   have hm:(b,o) ∈ pm++(om++fz):=q▸List.mem_append_left _ (.tail _ (.tail _ g2))
   Option.some.inj (g1.symm.trans h)▸k b o (S.nw _ hm).1 g3 hm
@[elab_as_elim] theorem bU.nZ (S:bU C P aj L f₀ σ₀ st tmp s m σ τ pm om fz) {a:AV} {v:Value} {xs:List AV} (h:LR C P fz σ τ a v) (e:qO st a=some xs) {R:Value->Prop}
  (k:∀d n vs,s.heap.get? d=some (listOf (List.toArray vs) n)->dz C P fz xs vs->xs.length<=1000->R (.ref d)):R v:=
 bnd e λ_ hc e=>S.Hv h hc λd _ g r _=>(Cont.Rr e▸r:cW C P fz d (.l xs) _).l_ (R:=λo=>s.heap.get? d=some o->R (.ref d)) (λvs n h1 h2 g=>k d n vs g h1 h2) g
@[elab_as_elim] theorem bU.za (S:bU C P aj L f₀ σ₀ st tmp s m σ τ pm om fz) {a:AV} {v:Value} {xs:List (Int×AV)} (h:LR C P fz σ τ a v) (e:Hy st a=some xs) {R:Value->Prop}
  (k:∀d o kvs,s.heap.get? d=some o->o.IsDictOf (intKind C.prog C.w) kvs->pF C P fz xs kvs->xs.length<=1000->(d,o) ∈ pm++(om++fz)->R (.ref d)):R v:=
 bnd e λ_ hc e=>S.Hv h hc λd o g r m=>(Cont.RN e▸r:cW C P fz d (.d xs) o).d_ λkvs h1 h2 h3=>k d o kvs g h1 h2 h3 m
theorem mW:typeLookup (.type "method") "__bool__"=pure none:=by rw[typeLookup_type,builtinLookup_eq_fast];kernel_rfl
theorem nW:typeLookup (.type "method") "__len__"=pure none:=by rw[typeLookup_type,builtinLookup_eq_fast];kernel_rfl
theorem len_str (s:List Nat):(⟨s.toArray⟩:Str).length=s.length:=by
 show s.toArray.size=_
 simp
section
variable {prog:Program}{w:World}{A:Around}{E:Value->Shared->Prop}{s:Shared}
theorem uF {a:Addr}{f x:Value}{Q:Bool->Shared->Prop}(ho:s.heap.get? a=some (methodObj f x))(h:Q true s):wpAny (model prog w) A (truthy (.ref a)) Q E s:=by
 have hT:s.TypeIs (.ref a) "method":=⟨_,ho,rfl⟩
 unfold truthy
 first
  |refine wpAny_bind (wpAny_callSpecial?_none (name:=Str.ofString "__bool__") hT mW ?_)
  |refine wpAny_bind (wpAny_pure (wpAny_bind (wpAny_callSpecial?_none (name:=Str.ofString "__bool__") hT mW ?_)))
 first
  |refine wpAny_bind (wpAny_specialOf (name:=Str.ofString "__len__") hT nW ?_)
  |refine wpAny_bind (wpAny_pure (wpAny_bind (wpAny_specialOf (name:=Str.ofString "__len__") hT nW ?_)))
 exact wpAny_pure h
end
theorem bU.mK (S:bU C P aj L f₀ σ₀ st tmp s m σ τ pm om fz){q:Addr×Obj}(h:q ∈ fz):s.heap.get? q.1=some q.2:=
 (S.nw q (List.mem_append_right _ (List.mem_append_right _ h))).1
theorem bU.Ot (S:bU C P aj L f₀ σ₀ st tmp s m σ τ pm om fz)(Z:Act C A aU base aj outer env L){d:Addr}{o:Obj}(h:(d,o) ∈ pm++(om++fz)):(d==sysModules)=false:=
 beq_eq_false_iff_ne.mpr λe=>by
  have:=(S.nw _ h).2.2
  rw[e]at this
  have hs:=Z.sm
  rw[this]at hs
  cases hs
theorem Fz {α:Type}(l:List α):((l.length:Int) !=0)= !l.isEmpty:=by cases l<;>simp<;>omega
theorem dz.empty {fz}{l:List AV}{vs:List Value}(h:dz C P fz l vs):vs.toArray.isEmpty=l.isEmpty:=by cases h<;>rfl
theorem pF.empty {fz}{l:List (Int×AV)}{vs}(h:pF C P fz l vs):vs.isEmpty=l.isEmpty:=by cases h<;>rfl
theorem pF.length {fz}:∀{l:List (Int×AV)} {vs},pF C P fz l vs->l.length=vs.length
 |_,_,.nil=>rfl
 |_,_,.cons _ k=>by rw[List.length_cons,List.length_cons,k.length]
theorem cR {h:Heap}{a:Addr}{vs:Array Value}{n:Nat}(g:h.get? a=some (listOf vs n)):h.IsList a vs:=⟨_,g,rfl,n,rfl⟩
theorem tup_is {h:Heap}{a:Addr}{vs:Array Value}{n:Nat}(g:h.get? a=some ({cls:=.type "tuple",data:=.seq vs n}:Obj)):IsTup h a vs:=⟨_,g,rfl,n,rfl⟩
theorem jg {h:Heap}{a:Addr}{o:Obj}{kvs:List (Int×Value)}(g:h.get? a=some o)(d:o.IsDictOf (intKind C.prog C.w) kvs):h.DictOf (intKind C.prog C.w) a kvs:=Heap.dictOf_iff.mpr ⟨o,g,d⟩
theorem lU (Z:Act C A aU base aj outer env L)(S:bU C P aj L f₀ σ₀ st tmp s m σ τ pm om fz){a:AV}{v:Value}(h:LR C P fz σ τ a v){b:Bool}(e:truth st a=some b)
  {Q:Bool->Shared->Prop}(hQ:∀t,Q b {s with toks:=t}):wpAny (model C.prog C.w) A (truthy v) Q E s:=by
 have slo:(Mine.slot st a).bind Cont.ne=some b->wpAny (model C.prog C.w) A (truthy v) Q E s:=λe=>bnd e λc ec eb=>S.Hv h ec λd o g r hm=>by
  cases r with
  |l r hb=>
   have:=r.length
   refine wpAny_truthy_list (cR g) (by rw[List.size_toArray];omega) ?_
   rw[r.empty,Option.some.inj eb];exact hQ _
  |d r k hb=>
   have:=k.length
   refine wpAny_truthy_dict (S.Ot Z hm) (jg g r) (by omega) ?_
   rw[k.empty,Option.some.inj eb];exact hQ _
  |c0 _=>exact jk eb
  |c1 _ _=>exact jk eb
 have key:∀a:AV,BL C P fz σ τ v a->truth st a=some b->((Mine.slot st a).bind Cont.ne=some b->wpAny (model C.prog C.w) A (truthy v) Q E s)->wpAny (model C.prog C.w) A (truthy v) Q E s:=λa i e slo=>by
  cases a with
  |none=>exact(i:v=_)▸truthy_none (Option.some.inj e▸hQ s.toks)
  |bool x=>exact(i:v=_)▸wpAny_truthy_bool (Option.some.inj e▸hQ s.toks)
  |int j=>
   obtain⟨t,rfl⟩:=i
   refine PySem.P.truthy_int ?_
   rw[show(j !=0)= !decide (j=0)from Bool.eq_iff_iff.mpr (by simp),Option.some.inj e];exact hQ s.toks
  |str x=>
   obtain⟨hb,t,rfl⟩:=i
   refine PySem.P.truthy_str (by rw[len_str];omega) ?_
   rw[len_str,Fz,Option.some.inj e];exact hQ _
  |tup l=>
   obtain⟨vs,d,n,rfl,hm,r,hb⟩:=i
   have:=r.length
   refine truthy_tuple (tup_is (S.mK hm)) (by rw[List.size_toArray];omega) ?_
   rw[r.empty,Option.some.inj e];exact hQ _
  |lst l=>
   obtain⟨vs,d,n,rfl,hm,r,hb⟩:=i
   have:=r.length
   refine wpAny_truthy_list (cR (S.mK hm)) (by rw[List.size_toArray];omega) ?_
   rw[r.empty,Option.some.inj e];exact hQ _
  |bm f=>
   obtain⟨d,rfl,hm⟩:=i
   exact uF (S.mK hm) (Option.some.inj e▸hQ s.toks)
  |_=>exact slo e
 exact key a h.inv e slo
theorem iy {b:Int}(h:fQ b=true):0<b/\b<1000000:=an h λh k=>⟨of_decide_eq_true h,of_decide_eq_true k⟩
theorem fV {α:Type}{a b:Option α}{r:α}(h:pJ a b=some r){G:Prop}(k1:a=some r->G)(k2:a=none->b=some r->G):G:=match a,h,k1,k2 with
 |some _,h,k1,_=>k1 h
 |none,h,_,k2=>k2 rfl h
theorem sG (a b:List Nat):(⟨a.toArray⟩:Str)++⟨b.toArray⟩=⟨(a++b).toArray⟩:=by
 show(⟨a.toArray++b.toArray⟩:Str)=_
 simp
theorem qy {a b:Int}(h:a.natAbs<1000000):IntMulOk a b:=by
 refine IntMulOk.of_left ?_
 unfold Builtin.Int.intBits
 split
 ·exact Nat.zero_le _
 ·have:a.natAbs.log2<20:=(Nat.log2_lt (by simp_all)).mpr (by omega)
  omega
theorem Ri {α:Type}{l:List α}{c:α}(h:one l=some c):l=[c]:=match l,h with
 |[_],h=>Option.some.inj h▸rfl
theorem tV {α:Type}{b:Bool}{a c:α}(h:qz b a=some c):b=true:=match b,h with
 |true,_=>rfl
@[elab_as_elim] theorem Ao {α:Type} {a b:AV} {u v:Value} (ha:LR C P fz σ τ a u) (hb:LR C P fz σ τ b v) {f:Int->Int->Option α} {r:α} (e:i2 a b f=some r) {R:Value->Value->Prop} (k:∀i j t t',f i j=some r->R (.int i t) (.int j t')):R u v:=
 bnd e λi hi e=>ha.int_ hi λt=>bnd e λj hj e=>hb.int_ hj λt'=>k i j t t' e
@[elab_as_elim] theorem s2_ {α:Type} {a b:AV} {u v:Value} (ha:LR C P fz σ τ a u) (hb:LR C P fz σ τ b v) {f:List Nat->List Nat->Option α} {r:α} (e:s2 a b f=some r) {R:Value->Value->Prop} (k:∀i j t t',f i j=some r->R (.str ⟨i.toArray⟩ t) (.str ⟨j.toArray⟩ t')):R u v:=
 bnd e λi hi e=>ha.str_ hi λt _=>bnd e λj hj e=>hb.str_ hj λt' _=>k i j t t' e
theorem aam {x y:List Nat}(hs:Nat.ble (x.length+y.length) 100000=true)(fz){t}:VR C P fz (.str (x++y)) (.str ⟨(x++y).toArray⟩ t):=.str _ _ (List.length_append▸Nat.le_of_ble_eq_true hs)
theorem DK {a b r:AV}{u v:Value}(ha:LR C P fz σ τ a u)(hb:LR C P fz σ τ b v){o:Eh}(e:Bs o a b=some r)
  {Q:Value->Shared->Prop}(hQ:∀x t,(∀cY,VR C P cY r x)->Q x {s with toks:=t}):wpAny (model C.prog C.w) A (binaryOp (R4 o) u v) Q E s:=by
 revert hQ
 cases o with
 |add=>
  refine fV e (λe=>Ao ha hb e λi j t t' e=>sj e λhQ=>PySem.P.add_int (hQ _ _ λ_=>.int _ _)) λ_ e=>s2_ ha hb e λx y t t' e=>fL e λhs hQ=>add_str (λt' tk=>?_) ?_
  ·rw[sG];exact hQ _ _ λ_=>aam hs _
  ·rw[len_str,len_str];exact Nat.le_trans (Nat.le_of_ble_eq_true hs) (by decide)
 |sub=>exact Ao ha hb e λi j t t' e=>sj e λhQ=>PySem.P.sub_int (hQ _ _ λ_=>.int _ _)
 |mul=>exact Ao ha hb e λi j t t' e=>fL e λhs hQ=>PySem.P.mul_int (hQ _ _ λ_=>.int _ _) (hm:=qy (by have:=iy hs;omega))
 |div=>exact Ao ha hb e λi j t t' e=>fL e λhs hQ=>have:=iy hs;PyProof.Rows.floordiv_int (by omega) (hQ _ _ λ_=>.int _ _) (hp:=.inl (PyProof.noPylong_small (by omega)))
 |mod=>exact Ao ha hb e λi j t t' e=>fL e λhs hQ=>have:=iy hs;mod_int' (by omega) (hQ _ _ λ_=>.int _ _)
theorem Vj (Z:Act C A aU base aj outer env L)(K:uX C T)(S:bU C P aj L f₀ σ₀ st tmp s m σ τ pm om fz){x:List Nat}{t:Tok}{b:AV}{r:Bool}{v:Value}(hb:LR C P fz σ τ b v)(e:inS T x b=some r)
  {Q:Value->Shared->Prop}(hQ:∀t,Q (.bool r) {s with toks:=t}):wpAny (model C.prog C.w) A (compareOp .In (.str ⟨x.toArray⟩ t) v) Q E s:=by
 refine fV e (λe=>bnd e λy hy e=>hb.str_ hy λt' _=>?_) λ_ e=>fV e (λe=>bnd e λl hl e=>hb.S7 hl λvs d n hm hr _=>?_) λ_ e=>fV e (λe=>bnd e λl hl e=>hb.Ae hl λvs d n hm hr _=>?_) λ_ e=>bnd e λd hd e=>hb.X5 hd ?_
 ·revert hQ
  refine bnd e λc hc e=>sj e λhQ=>?_
  obtain rfl:=Ri hc
  refine PySem.P.in_str ?_;rw[Jj];exact hQ _
 ·obtain⟨ys,ey,rfl⟩:=Option.map_eq_some_iff.mp e
  have hi:=hr.strs ey
  refine PySem.SeqAt.in_tupleAt (isStrOf _) (tup_is (S.mK hm)) (λy hy=>(eq_isStrOf _ _ hi y (by simpa using hy)).at _ _) ?_
  rw[<-Array.any_toList,List.toList_toArray,any_isStrOf _ hi,zJ]
  exact hQ _
 ·obtain⟨ys,ey,rfl⟩:=Option.map_eq_some_iff.mp e
  have hi:=hr.strs ey
  refine in_list_strs (cR (S.mK hm)) hi ?_
  rw[zJ]
  exact hQ _
 ·revert hQ
  refine bnd e λl el e=>sj e λhQ=>?_
  obtain⟨k1,es,n,k2,k3,k4⟩:=K.dt _ _ el
  have k5:=k4 x
  revert k5 hQ
  cases lC x l with
  |some y=>exact λhQ ⟨w,k5,_⟩=>topIn_K S.fr Z.X k2 k3 k5 k1 (hQ _)
  |none=>exact λhQ k5=>topIn_K S.fr Z.X k2 k3 k5 k1 (hQ _)
theorem wA {a:AV}{u:Value}(ha:LR C P fz σ τ a u){r:Bool}(e:Ij a=some r):plainIs u .none=true/\(u== .none)=r:=by
 cases ha with
 |v h=>cases h<;>first|exact jk e|exact⟨rfl,Option.some.inj e⟩
 |own _=>exact jk e
 |bN _=>exact jk e
theorem DR {a b:AV}{r:Bool}{u v:Value}(ha:LR C P fz σ τ a u)(hb:LR C P fz σ τ b v)(e:Wk a b=some r)
  {Q:Value->Shared->Prop}{Q':Value->Shared->Prop}(hQ:∀t,Q (.bool r) {s with toks:=t})(hQ':∀t,Q' (.bool (!r)) {s with toks:=t}):wpAny (model C.prog C.w) A (compareOp .Eq u v) Q E s/\wpAny (model C.prog C.w) A (compareOp .NotEq u v) Q' E s:=by
 revert hQ hQ'
 refine fV e (λe=>Ao ha hb e λi j t t' e=>sj e λhQ hQ'=>⟨PySem.P.eq_int (hQ _),PySem.P.ne_int (hQ' _)⟩) λ_ e=>fV e (λe=>s2_ ha hb e λi j t t' e=>sj e λhQ hQ'=>⟨PySem.P.eq_str ?_,PySem.P.ne_str ?_⟩) λ_ e=>?_
 ·revert e
  cases hA:a.isNone<;>cases hB:b.isNone
  ·exact λe=>jk e
  ·refine λe=>hb.none_ (AV.fK hB) ?_
   exact fV e (λe=>bnd e λi hi e=>ha.int_ hi λt=>sj e λhQ hQ'=>⟨EqNone.eq_int_none (hQ _),EqNone.ne_int_none (hQ' _)⟩) λ_ e=>bnd e λi hi e=>ha.str_ hi λt _=>sj e λhQ hQ'=>⟨EqNone.eq_str_none (hQ _),EqNone.ne_str_none (hQ' _)⟩
  ·refine λe=>ha.none_ (AV.fK hA) ?_
   exact fV e (λe=>bnd e λi hi e=>hb.int_ hi λt=>sj e λhQ hQ'=>⟨EqNone.eq_none_int (hQ _),EqNone.ne_none_int (hQ' _)⟩) λ_ e=>bnd e λi hi e=>hb.str_ hi λt _=>sj e λhQ hQ'=>⟨EqNone.eq_none_str (hQ _),EqNone.ne_none_str (hQ' _)⟩
  ·refine λe=>ha.none_ (AV.fK hA) (hb.none_ (AV.fK hB) ?_)
   exact Option.some.inj e▸λhQ hQ'=>⟨EqNone.eq_none_none (hQ _),EqNone.ne_none_none (hQ' _)⟩
 ·rw[DP];exact hQ _
 ·unfold bne;rw[DP];exact hQ' _
theorem lY (Z:Act C A aU base aj outer env L)(K:uX C T)(S:bU C P aj L f₀ σ₀ st tmp s m σ τ pm om fz){a b:AV}{r:Bool}{u v:Value}(ha:LR C P fz σ τ a u)(hb:LR C P fz σ τ b v){o:Ec}(e:mL T st o a b=some r)
  {Q:Value->Shared->Prop}(hQ:∀t,Q (.bool r) {s with toks:=t}):wpAny (model C.prog C.w) A (compareOp (cop o) u v) Q E s:=by
 revert hQ
 cases o with
 |eq=>exact λhQ=>(DR ha hb e hQ (Q':=λ_ _=>True) λ_=>⟨⟩).1
 |ne=>exact bnd e λr e e'=>sj e' λhQ=>(DR ha hb e (Q:=λ_ _=>True) (λ_=>⟨⟩) hQ).2
 |lt=>exact Ao ha hb e λi j t t' e=>sj e λhQ=>PySem.P.lt_int (hQ _)
 |le=>exact fV e (λe=>Ao ha hb e λi j t t' e=>sj e λhQ=>PySem.P.le_int (hQ _)) λ_ e=>s2_ ha hb e λi j t t' e=>sj e λhQ=>PySem.P.le_str (by rw[<-Hx];exact hQ _)
 |gt=>exact Ao ha hb e λi j t t' e=>sj e λhQ=>PySem.P.gt_int (hQ _)
 |ge=>exact Ao ha hb e λi j t t' e=>sj e λhQ=>PySem.P.ge_int (hQ _)
 |fJ=>exact fV e (λe=>bnd e λx hx e=>ha.str_ hx λt _ hQ=>Vj Z K S hb e hQ) λ_ e=>bnd e λi hi e=>ha.int_ hi λt=>bnd e λxs hx e=>S.za hb hx λd o kvs g h1 h2 _ hm=>sj e λhQ=>wpAny_in_of (intKind_is C.prog C.w _ t) (S.Ot Z hm) (jg g h1).mapOf (yP h2▸hQ _)
 |nin=>exact bnd e λx hx e=>ha.str_ hx λt _=>bnd e λc hc e=>bnd e λy hy e=>hb.str_ hy λt' _=>sj e λhQ=>Ri hc▸PySem.P.notIn_str (by rw[Jj];exact hQ _)
 |is_=>exact bnd e λ_ hn e=>hb.none_ (AV.fK (tV hn)) λhQ=>wpAny_is_plain (wA ha e).1 ((wA ha e).2▸hQ _)
 |Le=>exact bnd e λ_ hn e=>hb.none_ (AV.fK (tV hn)) (bnd e λr e e'=>sj e' λhQ=>wpAny_isNot_plain (wA ha e).1 ((wA ha e).2▸hQ _))
inductive fZ {α β:Type}(R:α->β->Prop):List α->List β->Prop
 |nil:fZ R [] []
 |cons {a b as bs}:R a b->fZ R as bs->fZ R (a::as) (b::bs)
noncomputable def pD (C:Cx) (W:List IE->AS->(List AV->AS->Prop)->Prop) (P:Addr) (A:Around) (aj:Heap) (L:Addr) (f₀:F0) (σ₀:List (Nat×Addr)) (env:Env) (pos:Pos) (es:List Expr) (ies:List IE):Prop:=
 ∀(st:AS) (tmp:List (AV×Value)) (s:Shared) (Q:List AV->AS->Prop) (E:Value->Shared->Prop) (R:List Value->Shared->Prop),W ies st Q->St C P aj L f₀ σ₀ st tmp s->
  (∀vs s as st,Q as st->as.length=vs.length->St C P aj L f₀ σ₀ st (as.zip vs++tmp) s->R vs s)->wpAny (model C.prog C.w) A (spliced (backTo pos (starEach es env))) R E s
section
variable {e aB aP bI:Expr}{ie bG bJ bO:IE}{pos:Pos}
theorem St.nJ {a b c:AV}{u v w:Value}(S:St C P aj L f₀ σ₀ st ((a,u)::(b,v)::tmp) s){t:Nat}(h:∀fz,VR C P fz c w):St C P aj L f₀ σ₀ st ((c,w)::tmp) {s with toks:=t}:=
 (S.Nv.toks t).eO h
theorem MJ (Z:Act C A aU base aj outer env L)(K:uX C T){o:Ec}(iha:cu C (bf T CF) P A aj L f₀ σ₀ env aB bG)(ihb:cu C (bf T CF) P A aj L f₀ σ₀ env aP bJ)(hm:behindInMarks (cop o) aP=false):
  cu C (bf T CF) P A aj L f₀ σ₀ env (.Compare aB [cop o] [aP] pos) (.cmp o bG bJ):=λst tmp s Q E R h S k=>
 wpAny_Compare1 (iha _ _ _ _ E _ h S λu aR a bF aF S₁=>ihb _ _ _ _ E _ aF S₁ λv bY b dG bk S₂=>aQ bk λr hr bk=>S₂.un λm σ τ pm om fz X=>
  lY Z K X X.t1 X.t0 hr λt=>k _ _ _ _ bk (S₂.nJ λ_=>.bool _)) hm
theorem S8 (Z:Act C A aU base aj outer env L)(K:uX C T){o:Ec}(iha:cu C (bf T CF) P A aj L f₀ σ₀ env aB bG)(ihb:cu C (bf T CF) P A aj L f₀ σ₀ env aP bJ)(hm:behindInMarks (cop o) aP=false):
  xg C (bf T CF) P A aj L f₀ σ₀ env (.Compare aB [cop o] [aP] pos) (.cmp o bG bJ):=λst tmp s Q E R h S k=>
 wpAny_isTrue_Compare1 (iha _ _ _ _ E _ h S λu aR a bF aF S₁=>ihb _ _ _ _ E _ aF S₁ λv bY b dG bk S₂=>aQ bk λr hr bk=>S₂.un λm σ τ pm om fz X=>
  lY Z K X X.t1 X.t0 hr λt=>wpAny_truthy_bool (k _ _ _ bk (S₂.Nv.toks _))) hm
theorem X4 (Z:Act C A aU base aj outer env L)(he:isTrue e env (eval e env)=(do let v<-eval e env;standAt e.pos;holding [v] (truthy v)))(ih:cu C (bf T CF) P A aj L f₀ σ₀ env e ie):xg C (bf T CF) P A aj L f₀ σ₀ env e ie:=λst tmp s Q E R h S k=>
 isTrue_plain (ih _ _ _ _ E _ h S λv aR a bF aF S₁=>aQ aF λr hr aF=>S₁.un λm σ τ pm om fz X=>lU Z X X.t0 hr λt=>k _ _ _ aF (S₁.pop.toks _)) he
theorem M5 (Z:Act C A aU base aj outer env L){o:Eh}(iha:cu C (bf T CF) P A aj L f₀ σ₀ env aB bG)(ihb:cu C (bf T CF) P A aj L f₀ σ₀ env aP bJ):
  cu C (bf T CF) P A aj L f₀ σ₀ env (.BinOp aB (R4 o) aP pos) (.bin o bG bJ):=λst tmp s Q E R h S k=>
 wpAny_BinOp (iha _ _ _ _ E _ h S λu aR a bF aF S₁=>ihb _ _ _ _ E _ aF S₁ λv bY b dG bk S₂=>aQ bk λr hr bk=>S₂.un λm σ τ pm om fz X=>
  DK X.t1 X.t0 hr λx t hx=>k _ _ _ _ bk (S₂.nJ hx))
theorem Mp (ih:cu C (bf T CF) P A aj L f₀ σ₀ env e ie):cu C (bf T CF) P A aj L f₀ σ₀ env (.UnaryOp .USub e pos) (.neg ie):=λst tmp s Q E R h S k=>
 wpAny_UnaryOp (ih _ _ _ _ E _ h S λv aR a bF aF S₁=>aQ aF λi hi aF=>S₁.un λm σ τ pm om fz X=>X.t0.int_ hi λt=>PySem.P.neg_int (k _ _ _ _ aF ((S₁.pop.toks _).eO λ_=>.int _ _)))
theorem Hp (Z:Act C A aU base aj outer env L)(ih:cu C (bf T CF) P A aj L f₀ σ₀ env e ie):cu C (bf T CF) P A aj L f₀ σ₀ env (.UnaryOp .Not e pos) (.not_ ie):=λst tmp s Q E R h S k=>
 wpAny_UnaryOp (ih _ _ _ _ E _ h S λv aR a bF aF S₁=>aQ aF λb hb aF=>S₁.un λm σ τ pm om fz X=>not_of (lU Z X X.t0 hb λt=>k _ _ _ _ aF ((S₁.pop.toks _).eO λ_=>.bool _)))
theorem onC {b:Bool}{p q:Prop}{R S:Prop}(h:match b with|true=>p|false=>q)(k1:p->R)(k2:q->S):if b=true then R else S:=match b,h with
 |true,h=>k1 h
 |false,h=>k2 h
theorem Mt (iht:xg C (bf T CF) P A aj L f₀ σ₀ env aB bG)(iha:cu C (bf T CF) P A aj L f₀ σ₀ env aP bJ)(ihb:cu C (bf T CF) P A aj L f₀ σ₀ env bI bO):
  cu C (bf T CF) P A aj L f₀ σ₀ env (.IfExp aB aP bI pos) (.ite bG bJ bO):=λst tmp s Q E R h S k=>
 IfExp_ (iht st tmp s _ E _ h S λb aR bF aF S₁=>onC aF (λh=>iha _ _ _ _ E _ h S₁ k) λh=>ihb _ _ _ _ E _ h S₁ k)
theorem snd_and (Z:Act C A aU base aj outer env L)(es:List Expr)(ies:List IE)(H:fZ (cu C (bf T CF) P A aj L f₀ σ₀ env) es ies):cu C (λ_=>Gu T CF true ies) P A aj L f₀ σ₀ env (.BoolOp .And es pos) (.and_ ies):=by
 induction H with
 |nil=>exact λst tmp s Q E R h S k=>False.elim h
 |cons h r ih=>
  cases r with
  |nil=>exact λst tmp s Q E R h' S k=>BoolOp_one (h _ _ _ _ E _ h' S k)
  |cons h2 r=>exact λst tmp s Q E R h' S k=>BoolOp_and (h _ _ _ _ E _ h' S λv aR a bF aF S₁=>aQ aF λb hb aF=>S₁.un λm σ τ pm om fz X=>lU Z X X.t0 hb λt=>match b,aF with
   |true,aF=>ih bF tmp _ Q E _ aF (S₁.pop.toks _) k
   |false,aF=>k _ _ _ _ aF (S₁.toks _))
theorem Tr (Z:Act C A aU base aj outer env L)(es:List Expr)(ies:List IE)(H:fZ (cu C (bf T CF) P A aj L f₀ σ₀ env) es ies):cu C (λ_=>Gu T CF false ies) P A aj L f₀ σ₀ env (.BoolOp .Or es pos) (.or_ ies):=by
 induction H with
 |nil=>exact λst tmp s Q E R h S k=>False.elim h
 |cons h r ih=>
  cases r with
  |nil=>exact λst tmp s Q E R h' S k=>BoolOp_one (h _ _ _ _ E _ h' S k)
  |cons h2 r=>exact λst tmp s Q E R h' S k=>BoolOp_or (h _ _ _ _ E _ h' S λv aR a bF aF S₁=>aQ aF λb hb aF=>S₁.un λm σ τ pm om fz X=>lU Z X X.t0 hb λt=>match b,aF with
   |false,aF=>ih bF tmp _ Q E _ aF (S₁.pop.toks _) k
   |true,aF=>k _ _ _ _ aF (S₁.toks _))
theorem Gs {b:Bool}{i1 i2:IE}{ir:List IE}{Q:Bool->AS->Prop}(h:Gu T CF b (i1::i2::ir) st λv st=>pick (truth st v) λb=>Q b st):
  bf T CF i1 st λv st=>pick (truth st v) λt=>match t==b with
   |true=>Gu T CF b (i2::ir) st λv st=>pick (truth st v) λb=>Q b st
   |false=>Q t st:=by
 refine cast (congrArg (bf T CF i1 st) (funext λv=>funext λst'=>?_)) h
 show(pick (truth st' v) λt=>match t==b with
  |true=>Gu T CF b (i2::ir) st' λv st=>pick (truth st v) λb=>Q b st
  |false=>pick (truth st' v) λb=>Q b st')=_
 cases truth st' v with
 |none=>rfl
 |some t=>rfl
theorem S9 (es:List Expr)(ies:List IE)(H:fZ (xg C (bf T CF) P A aj L f₀ σ₀ env) es ies):xg C (λ_=>Gu T CF true ies) P A aj L f₀ σ₀ env (.BoolOp .And es pos) (.and_ ies):=by
 induction H with
 |nil=>exact λst tmp s Q E R h S k=>False.elim h
 |cons h r ih=>
  cases r with
  |nil=>exact λst tmp s Q E R h' S k=>isTrue_and (h _ _ _ _ E _ h' S λb aR bF aF S₁=>match b,aF with
   |true,aF=>isTrue_and_nil (k _ _ _ aF S₁)
   |false,aF=>k _ _ _ aF S₁)
  |cons h2 r=>exact λst tmp s Q E R h' S k=>isTrue_and (h _ _ _ _ E _ (Gs h') S λb aR bF aF S₁=>match b,aF with
   |true,aF=>ih bF tmp _ Q E _ aF S₁ k
   |false,aF=>k _ _ _ aF S₁)
theorem X3 (es:List Expr)(ies:List IE)(H:fZ (xg C (bf T CF) P A aj L f₀ σ₀ env) es ies):xg C (λ_=>Gu T CF false ies) P A aj L f₀ σ₀ env (.BoolOp .Or es pos) (.or_ ies):=by
 induction H with
 |nil=>exact λst tmp s Q E R h S k=>False.elim h
 |cons h r ih=>
  cases r with
  |nil=>exact λst tmp s Q E R h' S k=>isTrue_or (h _ _ _ _ E _ h' S λb aR bF aF S₁=>match b,aF with
   |true,aF=>k _ _ _ aF S₁
   |false,aF=>isTrue_or_nil (k _ _ _ aF S₁))
  |cons h2 r=>exact λst tmp s Q E R h' S k=>isTrue_or (h _ _ _ _ E _ (Gs h') S λb aR bF aF S₁=>match b,aF with
   |false,aF=>ih bF tmp _ Q E _ aF S₁ k
   |true,aF=>k _ _ _ aF S₁)
end
section
variable {e aB aP bI:Expr}{ie bG bJ bO:IE}{pos:Pos}
theorem Dv:pD C (gD T CF) P A aj L f₀ σ₀ env pos [] []:=λst tmp s Q E R h S k=>wpAny_items_nil (k _ _ [] _ h rfl S)
theorem Df {α:Type}{q a:α}{l r:List α}(h:q ∈ a::(l++r)):q ∈ l++a::r:=
 List.mem_append.mpr ((List.mem_cons.mp h).elim (λh=>.inr (h▸.head _)) λh=>(List.mem_append.mp h).imp id (.tail _))
theorem J3 {es:List Expr}{ies:List IE}(he:starEach (e::es) env=(false,eval e env)::starEach es env)(ih:cu C (bf T CF) P A aj L f₀ σ₀ env e ie)(ihs:pD C (gD T CF) P A aj L f₀ σ₀ env pos es ies):
  pD C (gD T CF) P A aj L f₀ σ₀ env pos (e::es) (ie::ies):=λst tmp s Q E R h S k=>
 wpAny_items_cons (ih _ _ _ _ E _ h S λv aR a bF aF S₁=>ihs _ _ _ _ E _ aF S₁ λvs bY as dG bk hl S₂=>k _ _ (a::as) _ bk (congrArg Nat.succ hl) (S₂.sub λq hq=>Df hq)) he
theorem LR.clo {a:AV}{v:Value}(h:LR C P fz σ τ a v)(c:a.clo=true):VR C P fz a v:=by
 cases h with
 |v h=>exact h
 |own _=>exact jJ c
 |bN _=>exact jJ c
theorem Gv:∀{as:List AV} {vs:List Value},as.length=vs.length->nM as=true->(∀q ∈ as.zip vs,LR C P fz σ τ q.1 q.2)->dz C P fz as vs
 |[],[],_,_,_=>.nil
 |a::as,v::vs,hl,hc,h=>an hc λc1 c2=>.cons ((h (a,v) (.head _)).clo c1) (Gv (Nat.succ.inj hl) c2 λq hq=>h q (.tail _ hq))
 |[],_::_,hl,_,_=>nomatch hl
 |_::_,[],hl,_,_=>nomatch hl
theorem bU.items {as:List AV}{vs:List Value}(X:bU C P aj L f₀ σ₀ st (as.zip vs++tmp) s m σ τ pm om fz)(hl:as.length=vs.length)(hc:nM as=true):dz C P fz as vs:=Gv hl hc λq hq=>X.tmp q (List.mem_append_left _ hq)
theorem bU.oU {l:List (AV×Value)}(X:bU C P aj L f₀ σ₀ st (l++tmp) s m σ τ pm om fz):bU C P aj L f₀ σ₀ st tmp s m σ τ pm om fz:=X.GP λq hq=>X.tmp q (List.mem_append_right _ hq)
theorem Ma {es:List Expr}{ies:List IE}{k:Nat}(ih:pD C (gD T CF) P A aj L f₀ σ₀ env pos es ies):cu C (bf T CF) P A aj L f₀ σ₀ env (.Tuple es k pos) (.tup ies):=λst tmp s Q E R h S k=>
 wpAny_Tuple (ih _ _ _ _ E _ h S λvs aR as bF aF hl S₁=>gC aF λhc aF=>an hc λc1 c2=>S₁.un λm σ τ pm om fz X=>
  have hb:=Nat.le_of_ble_eq_true c2
  ⟨Nat.le_trans (hl▸hb) (by decide),k _ _ _ _ aF ((X.oU.alloc {cls:=.type "tuple",data:=.seq vs.toArray}).push (.v (.tup (.head _) ((X.items hl c1).mono λq hq=>.tail _ hq) hb))).st⟩)
theorem Mq {es:List Expr}{ies:List IE}(ih:pD C (gD T CF) P A aj L f₀ σ₀ env pos es ies):cu C (bf T CF) P A aj L f₀ σ₀ env (.List es pos) (.lst ies):=λst tmp s Q E R h S k=>
 wpAny_List (ih _ _ _ _ E _ h S λvs aR as bF aF hl S₁=>gC aF λhc aF=>an hc λc1 c2=>S₁.un λm σ τ pm om fz X=>
  have hb:=Nat.le_of_ble_eq_true c2
  ⟨Nat.le_trans (hl▸hb) (by decide),k _ _ _ _ aF ((X.oU.alloc {cls:=.type "list",data:=.seq vs.toArray}).push (.v (.lst (.head _) ((X.items hl c1).mono λq hq=>.tail _ hq) hb))).st⟩)
theorem tK {α:Type}{q a b:α}{l:List α}(h:q ∈ a::l):q ∈ a::b::l:=(List.mem_cons.mp h).elim (λh=>h▸.head _) λh=>.tail _ (.tail _ h)
theorem Ht (Z:Act C A aU base aj outer env L)(K:uX C T){o o':Ec}(iha:cu C (bf T CF) P A aj L f₀ σ₀ env aB bG)(ihb:cu C (bf T CF) P A aj L f₀ σ₀ env aP bJ)(ihc:cu C (bf T CF) P A aj L f₀ σ₀ env bI bO)(hm:lastMarks [cop o,cop o'] [aP,bI]=false):
  cu C (bf T CF) P A aj L f₀ σ₀ env (.Compare aB [cop o,cop o'] [aP,bI] pos) (.oV o o' bG bJ bO):=λst tmp s Q E R h S k=>
 Compare_chain (iha _ _ _ _ E _ h S λu aR a bF aF S₁=>chain_link (ihb _ _ _ _ E _ aF S₁ λv bY b dG bk S₂=>aQ bk λr hr bk=>S₂.un λm σ τ pm om fz X=>
  lY Z K X X.t1 X.t0 hr λt=>wpAny_truthy_bool (match r,bk with
   |false,bk=>k _ _ _ _ bk (S₂.nJ λ_=>.bool _)
   |true,bk=>chain_last (ihc _ _ _ _ E _ bk ((S₂.sub (uH:=(b,v)::tmp) λq hq=>tK hq).toks t) λw gZ c kO bQ fY=>aQ bQ λr' hr' bQ=>fY.un λm σ τ pm om fz X=>
    lY Z K X X.t1 X.t0 hr' λt=>k _ _ _ _ bQ (fY.nJ λ_=>.bool _))))) hm
theorem Lw (Z:Act C A aU base aj outer env L)(K:uX C T){o o':Ec}(iha:cu C (bf T CF) P A aj L f₀ σ₀ env aB bG)(ihb:cu C (bf T CF) P A aj L f₀ σ₀ env aP bJ)(ihc:cu C (bf T CF) P A aj L f₀ σ₀ env bI bO)(hm:lastMarks [cop o,cop o'] [aP,bI]=false):
  xg C (bf T CF) P A aj L f₀ σ₀ env (.Compare aB [cop o,cop o'] [aP,bI] pos) (.oV o o' bG bJ bO):=λst tmp s Q E R h S k=>
 isTrue_chain (iha _ _ _ _ E _ h S λu aR a bF aF S₁=>test_link (ihb _ _ _ _ E _ aF S₁ λv bY b dG bk S₂=>aQ bk λr hr bk=>S₂.un λm σ τ pm om fz X=>
  lY Z K X X.t1 X.t0 hr λt=>wpAny_truthy_bool (match r,bk with
   |false,bk=>k _ _ _ bk (S₂.Nv.toks _)
   |true,bk=>test_last (ihc _ _ _ _ E _ bk ((S₂.sub (uH:=(b,v)::tmp) λq hq=>tK hq).toks t) λw gZ c kO bQ fY=>aQ bQ λr' hr' bQ=>fY.un λm σ τ pm om fz X=>
    lY Z K X X.t1 X.t0 hr' λt=>wpAny_truthy_bool (k _ _ _ bQ (fY.Nv.toks _)))))) hm
end
noncomputable def Ga (a:AV) (v:Value):Bool:=match v with
 | .none=>a.isNone
 | .bool b=>kY a.Kp (· ==b)
 | .int b _=>kY a.gK λa=>decide (a=b)
 | .str b _=>kY a.iW λa=>decide (a=b.cps.toList)&&Nat.ble a.length 100000
 | .ref b=>kY a.GC (Nat.beq · b)
 |_=>false
theorem pq {a:AV}{v:Value}(h:Ga a v=true)(P:Addr)(fz):VR C P fz a v:=by
 cases v with
 |none=>exact AV.fK h▸.none
 |bool b=>exact fB h λx hx h=>AV.zu hx▸eq_of_beq h▸.bool _
 |int b _=>exact fB h λx hx h=>AV.wH hx▸of_decide_eq_true h▸.int _ _
 |str b t=>exact fB h λx hx h=>an h λh1 h2=>AV.vY hx▸(show(⟨x.toArray⟩:Str)=b from of_decide_eq_true h1▸rfl)▸.str _ _ (Nat.le_of_ble_eq_true h2)
 |ref b=>exact fB h λx hx h=>AV.Ca hx▸Nat.eq_of_beq_eq_true h▸.top _
 |_=>exact jJ h
noncomputable def RB (K:Frag) (c:Addr) (n:Str):Bool:=plainGet K c n&&hasDictIn K c&&kY (findIn K (.ref c) n) (noGet K ·)
noncomputable def vN (K:Frag) (c:Addr) (n:Str) (v:AV):Bool:=plainGet K c n&&hasDictIn K c&& !copiedNames.contains n&&kY ((findIn K (.ref c) n).bind id) λa=>(specialIn K a "__get__"==some none)&&handedIn a&&Ga v a
noncomputable def JQ:Option CFound->Option Value
 |some (.val a)=>some a
 |_=>none
noncomputable def RX (K:Frag) (c:Addr) (n:Str) (v:AV):Bool:=kY (typeIn K (.ref c)) λmc=>readsIn K c mc&&kY (JQ (findCls K (.ref c) mc n)) λa=>handedIn a&&Ga v a
noncomputable def qu (K:Frag) (c:Addr) (n:Str) (f:Addr):Bool:=plainGet K c n&&hasDictIn K c&& !copiedNames.contains n&&(findIn K (.ref c) n==some (some (.ref f)))&&isFn K (.ref f)&&
 (specialIn K (.ref f) "__get__"==some (some (.builtin "function.__get__")))&&(takesIn K (.ref f)==some false)
theorem YZ {b:Bool}(h:(!b)=true):b=false:=match b,h with
 |false,_=>rfl
noncomputable def cT (e:Expr):Bool:=dite (e.ctorIdx=16) (λh=>Expr.Call.elim (motive_1:=λ_=>Bool) e h λf _ _ _=> !Nat.beq f.ctorIdx 23) λ_=>true
theorem wW {e:Expr}(h:cT e=true)(attr:Str)(env:Env)(w:Sem Value):attributeBase e attr env w=w:=by
 cases e with
 |Call f a k p=>cases f<;>first|rfl|exact jJ h
 |_=>rfl
section
variable {e aB aP bI:Expr}{ie bG bJ bO:IE}{pos:Pos}
theorem rW.les {fs:List (Nat×AV)}{es:List DictEntry}(h:rW C P fz fs es):m6 C P fz σ fs es:=h.ind .nil λh _ i=>.cons (.v h) i
structure K8 (C:Cx)(c:Nat)(i:CI):Prop where
 own:∀a p,get a i.fs=some p->RB C.K (C.ca c) (C.nm a)=true
 cat:∀a v,get a i.cat=some v->vN C.K (C.ca c) (C.nm a) v=true/\RX C.K (C.ca c) (C.nm a) v=true
theorem Dz {K:Frag}{c:Addr}{n:Str}{v:AV}(h:vN K c n v=true){G:Prop}(k:∀a,plainGet K c n=true->hasDictIn K c=true->copiedNames.contains n=false->findIn K (.ref c) n=some (some a)->specialIn K a "__get__"=some none->handedIn a=true->Ga v a=true->G):G:=
 an h λh h4=>an h λh k3=>an h λk1 k2=>fB h4 λa ha h=>an h λh k7=>an h λk5 k6=>bnd ha λx hx ha=>k a k1 k2 (YZ k3) ((show x=some a from ha)▸hx) (eq_of_beq k5) k6 k7
theorem Pq (Z:Act C A aU base aj outer env L)(K:∀c i,T.CT c=some i->K8 C c i)(X:bU C P aj L f₀ σ₀ st tmp s m σ τ pm om fz){a:Nat}{x r:AV}{u:Value}(hu:LR C P fz σ τ x u)(e:ZX T x a=some r)
  {R:Value->Shared->Prop}(k:∀v t,LR C P fz σ τ r v->R v {s with toks:=t}):wpAny (model C.prog C.w) A (getAttr u (C.nm a) true) R E s:=
 bnd e λc hc e=>bnd e λi hi e=>hu.Ru hc λb d es n h1 h2 h3=>by
  have I:InstAt s.heap b (instObj (C.ca c.1) d) (C.ca c.1) (some (dictOf es n)):=InstAt.of_news X.nw (List.mem_append_right _ (List.mem_append_right _ h1)) (List.mem_append_right _ (List.mem_append_right _ h2))
  have hl:=rW.les (σ:=σ) h3
  revert e
  cases hg:get a c.2 with
  |some v=>exact λe=>Ad e λp hp e=>an ((K _ i hi).own a p hp) λh k3=>an h λk1 k2=>fB k3 λat_ hat k3=>hl.JD hg λu g1 g2=>get_own X.fr Z.X I k1 k2 hat k3 g1 g2.handed (k _ _ (e▸g2.wide))
  |none=>exact λe=>Dz ((K _ i hi).cat a r e).1 λat_ k1 k2 k3 hat k4 k5 k6=>get_cls X.fr Z.X I k1 k2 hat k4 k5 k3 (hl.Ax hg) (k _ _ (.v (pq k6 _ _)))
theorem Mz (Z:Act C A aU base aj outer env L)(K:∀c i,T.CT c=some i->K8 C c i){a:Nat}{n:Str}(hn:n=C.nm a)(hs:cT e=true)(ih:cu C (bf T CF) P A aj L f₀ σ₀ env e ie):
  cu C (bf T CF) P A aj L f₀ σ₀ env (.Attribute e n pos) (.fld ie a):=λst tmp s Q E R h S k=>by
 subst hn
 exact Attribute_any_ (ih _ _ _ _ E _ h S λu aR v bF aF S₁=>aQ aF λr hr aF=>S₁.un λm σ τ pm om fz X=>Pq Z K X X.t0 hr λv t g=>k _ _ _ _ aF ((X.d1.toks _).push g).st) (by rw[arm_eval_Attribute,wW hs])
end
section
variable {e aB aP bI:Expr}{ie bG bJ bO:IE}{pos pos':Pos}
theorem gF {M:Model}(Z:Act C A aU base aj outer env L)(F:Fr aj L s.heap m){n:Str}{v:Value}(hn:nsIn C.K mainGlobals n=some (some v))(hk:env.kindOf n=some .globalImplicit)(hd:(n==("__debug__":Str))=false)
  {Q:Value->Shared->Prop}(h:Q v s):wpAny M A (eval (.Name n pos) env) Q E s:=
 Name_function_global Z.hk hk (loadGlobal_global (by rw[Z.hg];exact Z.T.g.keeps F.keep) (mg_of Z.X Z.T.g hn) h) hd
theorem jU {M:Model}(Z:Act C A aU base aj outer env L)(F:Fr aj L s.heap m){n:Str}{v:Value}(hn:nsIn C.K mainGlobals n=some none)(hv:bootBuiltins n=some v)(hx:n≠"__name__")(hk:env.kindOf n=some .globalImplicit)(hd:(n==("__debug__":Str))=false)
  {Q:Value->Shared->Prop}(h:Q v s):wpAny M A (eval (.Name n pos) env) Q E s:=
 Name_function_global Z.hk hk (loadGlobal_builtin (by rw[Z.hg];exact Z.T.g.keeps F.keep) (mg_none_of Z.X Z.T.g hn) (by rw[Z.hb];exact Z.T.b.keeps F.keep) ((Z.T.builtins n hx).trans hv) h) hd
theorem MK (Z:Act C A aU base aj outer env L){c:Nat}{n:Str}(hn:nsIn C.K mainGlobals n=some (some (.ref (C.ca c))))(hk:env.kindOf n=some .globalImplicit)(hd:(n==("__debug__":Str))=false):
  cu C (bf T CF) P A aj L f₀ σ₀ env (.Name n pos) (.cls c):=λst tmp s Q E R h S k=>
 S.un λm σ τ pm om fz X=>gF Z X.fr hn hk hd (k _ _ _ _ h (S.eO λ_=>.cls _))
theorem JN {o:Option CFound}{a:Value}(h:JQ o=some a):o=some (.val a):=by
 unfold JQ at h
 split at h
 ·exact Option.some.inj h▸rfl
 ·exact jk h
theorem MP (Z:Act C A aU base aj outer env L)(K:∀c i,T.CT c=some i->K8 C c i){c a:Nat}{n na:Str}(hn:nsIn C.K mainGlobals n=some (some (.ref (C.ca c))))(hk:env.kindOf n=some .globalImplicit)(hd:(n==("__debug__":Str))=false)(ha:na=C.nm a):
  cu C (bf T CF) P A aj L f₀ σ₀ env (.Attribute (.Name n pos') na pos) (.ccl c a):=λst tmp s Q E R h S k=>
 aQ h λv hv h=>bnd hv λi hi hv=>fB ((K c i hi).cat a v hv).2 λmc hm h1=>an h1 λk1 h2=>fB h2 λu hu h2=>an h2 λk2 k3=>S.un λm σ τ pm om fz X=>by
  subst ha
  exact Attribute_name (gF Z X.fr hn hk hd (cls_val X.fr Z.X hm k1 (JN hu) k2 (k _ _ _ _ h ((S.toks _).eO λ_=>pq k3 _ _))))
theorem rH {x a:Nat}(h:qw st x a=true){G:Prop}(k:∀p,get x st.ak=some .self->st.par=some p->get a p.at_=none->G):G:=by
 unfold qw at h
 revert h
 cases e:nP st x with
 |none=>exact λh=>jJ h
 |some p=>
  refine jN e λh1 h2=>?_
  show(match get a p.at_ with|some _=>false|none=>true)=true->G
  cases q:get a p.at_ with
  |some _=>exact λh=>jJ h
  |none=>exact λ_=>k p h1 h2 q
theorem Mi (Z:Act C A aU base aj outer env L){a:Nat}{d:Addr}{n na:Str}(hn:n=C.nm 0)(hl:env.kindOf n=some .local)(hd:(n==("__debug__":Str))=false)(ha:na=C.nm a)(hk:vN C.K C.CP na (.top d)=true):
  cu C (bf T CF) P A aj L f₀ σ₀ env (.Attribute (.Name n pos') na pos) (.xY a d):=λst tmp s Q E R h S k=>
 S.un λm σ τ pm om fz X=>rH (jB h) λp hs hp ha0=>X.sX hp λpd es n mu e h1 h2 h3=>by
  subst hn ha e
  exact Dz hk λat_ k1 k2 k3 hat k4 k5 k6=>Attribute_name (wpAny_Name (wpAny_loadName_local Z.hk hl (Z.hL▸X.fr.ns) (gH X hs) (get_cls X.fr Z.X X.wI k1 k2 hat k4 k5 k3 (h1.Ax ha0) (k _ _ _ _ (mV h) ((S.toks _).eO λ_=>pq k6 _ _)))) hd)
theorem Ci {K:Frag}{c:Addr}{n:Str}{f:Addr}(h:qu K c n f=true){G:Prop}(k:plainGet K c n=true->hasDictIn K c=true->copiedNames.contains n=false->findIn K (.ref c) n=some (some (.ref f))->isFn K (.ref f)=true->specialIn K (.ref f) "__get__"=some (some (.builtin "function.__get__"))->takesIn K (.ref f)=some false->G):G:=
 an h λh k7=>an h λh k6=>an h λh k5=>an h λh k4=>an h λh k3=>an h λk1 k2=>k k1 k2 (YZ k3) (eq_of_beq k4) k5 (eq_of_beq k6) (eq_of_beq k7)
theorem Mg (Z:Act C A aU base aj outer env L){f:Nat}{n na:Str}(hn:n=C.nm 0)(hl:env.kindOf n=some .local)(hd:(n==("__debug__":Str))=false)(ha:na=C.nm f)(hk:qu C.K C.CP na (C.fa f)=true):
  cu C (bf T CF) P A aj L f₀ σ₀ env (.Attribute (.Name n pos') na pos) (.smt f):=λst tmp s Q E R h S k=>
 S.un λm σ τ pm om fz X=>rH (jB h) λp hs hp ha0=>X.sX hp λpd es n mu e h1 h2 h3=>by
  subst hn ha
  exact Ci hk λk1 k2 k3 k4 k5 k6 k7=>Attribute_name (wpAny_Name (wpAny_loadName_local Z.hk hl (Z.hL▸X.fr.ns) (gH X hs) (kbm_bound X.fr Z.X X.nw (X.oh e) k1 k2 k4 k5 k6 k7 k3 (h1.Ax ha0) λq h' F N hq=>k _ _ _ _ (mV h) ((X.newF (t:=s.toks+1) F N hq).push (.v (.bm _ _ (.head _)))).st)) hd)
end
theorem U3 {a b:Addr}{l:List Addr}(e:a=b)(h:b ∈ l):a ∈ l:=e▸h
theorem abx {k:Nat}{b c:Addr}{σ:List (Nat×Addr)}{l:List Addr}(h:(k,b) ∈ σ)(e:σ.map (·.2)=l)(f:b=c):c ∈ l:=f▸e▸List.mem_map_of_mem (f:=(·.2)) h
theorem p7.put {P fz}{k:Nat}{b:Addr}{c':Cont}{o':Obj}(hc:cW C P fz b c' o'){a σ v}(h:p7 C P fz a σ v):get k σ=some b->(v.map (·.1)).Nodup->
  ∃v',p7 C P fz (put k c' a) σ v'/\v'.map (·.1)=v.map (·.1)/\∀q ∈ v',q=(b,o')∨(q ∈ v/\q.1≠b):=by
 induction h with
 |nil=>exact λe=>jk e
 |cons h r ih=>
  refine λe nd=>?_
  have nd:=List.nodup_cons.mp nd
  unfold get at e
  unfold Mine.put
  revert e
  dsimp only
  cases Nat.beq _ k with
  |true=>
   refine λe=>?_
   obtain rfl:=Option.some.inj e
   exact⟨(_,o')::_,.cons hc r,rfl,λp hp=>(List.mem_cons.mp hp).elim (λh=>.inl h) λhp=>.inr ⟨.tail _ hp,λq=>nd.1 (q▸List.mem_map_of_mem (f:=(·.1)) hp)⟩⟩
  |false=>exact λe=>
    let ⟨v',h1,h2,h3⟩:=ih e nd.2
    ⟨_::v',.cons h h1,congrArg (List.cons _) h2,λp hp=>(List.mem_cons.mp hp).elim (λq=>.inr ⟨q▸.head _,λf=>nd.1 (abx (get_mem e) r.keys (f.symm.trans (congrArg Prod.fst q)))⟩) λhp=>(h3 p hp).imp id λh=>⟨.tail _ h.1,h.2⟩⟩
section
variable {e aB aP bI:Expr}{ie bG bJ bO:IE}{pos:Pos}
theorem Oc {l r:List Addr}(h:(l++r).Nodup):l.Nodup:=(List.nodup_append.mp h).1
theorem Ob {l r:List Addr}(h:(l++r).Nodup):r.Nodup:=(List.nodup_append.mp h).2.1
theorem tC {l r:List (Addr×Obj)}(h:((l++r).map (·.1)).Nodup):(l.map (·.1)).Nodup:=Oc (List.map_append▸h)
theorem yq {l r:List (Addr×Obj)}(h:((l++r).map (·.1)).Nodup):(r.map (·.1)).Nodup:=Ob (List.map_append▸h)
theorem yp {l r:List (Addr×Obj)}(h:((l++r).map (·.1)).Nodup){q:Addr×Obj}{d:Addr}(hq:q ∈ l)(hd:d ∈ r.map (·.1)):q.1≠d:=(List.nodup_append.mp (List.map_append▸h:(l.map (·.1)++r.map (·.1)).Nodup)).2.2 _ (List.mem_map_of_mem hq) _ hd
theorem yr {l r:List (Addr×Obj)}(h:((l++r).map (·.1)).Nodup){q:Addr×Obj}{d:Addr}(hd:d ∈ l.map (·.1))(hq:q ∈ r):q.1≠d:=λe=>(List.nodup_append.mp (List.map_append▸h:(l.map (·.1)++r.map (·.1)).Nodup)).2.2 _ hd _ (List.mem_map_of_mem hq) e.symm
theorem bU.chg (hp0:f₀.p=[])(S:bU C P aj L f₀ σ₀ st tmp s m σ τ pm om fz){d:Addr}{o':Obj}{h':Heap}{t:Nat}(hs:Heap.SameBut d s.heap h')(ho:h'.get? d=some o'){nQ sY:List (Addr×Obj)}{st':AS}(el:st'.ak=st.ak)
  (e1:nQ.map (·.1)=pm.map (·.1))(e2:sY.map (·.1)=om.map (·.1))(hq:∀q ∈ nQ++sY,q=(d,o')∨(q ∈ pm++om/\q.1≠d))(hd:d ∈ (pm++om).map (·.1))(hp:pC C P fz σ st'.par nQ)(hw:p7 C P fz st'.own τ sY):
  bU C P aj L f₀ σ₀ st' tmp {s with heap:=h',toks:=t} m σ τ nQ sY fz:=by
 have nd:(((pm++om)++fz).map (·.1)).Nodup:=List.append_assoc ..▸S.nd
 obtain⟨qd,hm,rfl⟩:=List.mem_map.mp hd
 have z:=S.nw qd (List.append_assoc ..▸List.mem_append_left fz hm)
 refine⟨S.fr.change hs z.2.1 z.2.2,λq h=>?_,?_,λx v ev=>S.ak x v (el▸ev),hp,hw,S.tmp,S.gens,S.drawn,S.os,S.ff,S.ss,λq h=>absurd (hp0▸h) List.not_mem_nil⟩
 ·have g:=List.mem_append.mp (List.append_assoc ..▸h:q ∈ (nQ++sY)++fz)
  have old:q ∈ (pm++om)++fz->q.1≠qd.1->h'.get? q.1=some q.2/\q.1≠L/\aj.get? q.1=none:=λh n=>
   let y:=S.nw q (List.append_assoc ..▸h)
   ⟨(hs.2 _ n).trans y.1,y.2.1,y.2.2⟩
  exact g.elim (λg=>(hq q g).elim (λe=>e▸⟨ho,z.2.1,z.2.2⟩) λg=>old (List.mem_append_left _ g.1) g.2) λg=>old (List.mem_append_right _ g) (yr nd hd g)
 ·have e:(nQ++(sY++fz)).map (·.1)=(pm++(om++fz)).map (·.1):=by simp only[List.map_append,e1,e2]
  exact e▸S.nd
theorem bU.XK (hp0:f₀.p=[])(S:bU C P aj L f₀ σ₀ st tmp s m σ τ pm om fz){a:AV}{d:Addr}{c c':Cont}{o':Obj}{h':Heap}{t:Nat}(h:LR C P fz σ τ a (.ref d))(e:Mine.slot st a=some c)(hs:Heap.SameBut d s.heap h')(ho:h'.get? d=some o')(hc:cW C P fz d c' o'){st':AS}(hst:setSlot st c' a=some st'):
  ∃nQ sY,bU C P aj L f₀ σ₀ st' tmp {s with heap:=h',toks:=t} m σ τ nQ sY fz:=by
 have nd:=S.nd
 refine(?_ :∀u,u=Value.ref d->LR C P fz σ τ a u->_) _ rfl h
 clear h
 intro u hu h
 cases h with
 |v h=>exact jk (h.Ii.symm.trans e)
 |own h=>
  have h:get _ τ=some d:=Value.ref.inj hu▸h
  have hd:d ∈ om.map (·.1):=S.own.keys▸List.mem_map_of_mem (f:=(·.2)) (get_mem h)
  obtain⟨sY,h1,h2,h3⟩:=S.own.put hc h (tC (yq nd))
  refine Option.some.inj hst▸⟨pm,sY,S.chg hp0 hs ho rfl rfl h2 (λq hq=>(List.mem_append.mp hq).elim (λhq=>.inr ⟨List.mem_append_left _ hq,yp nd hq ?_⟩) λhq=>(h3 q hq).imp id λh=>⟨List.mem_append_right _ h.1,h.2⟩) ?_ S.par h1⟩
  ·rw[List.map_append];exact List.mem_append_left _ hd
  ·rw[List.map_append];exact List.mem_append_right _ hd
 |bN h=>
   refine Ad hst λp hp hst=>S.sX hp λpd es n mu q h1 h2 h3=>?_
   subst q
   have h:get _ σ=some d:=Value.ref.inj hu▸h
   have hd:d ∈ mu.map (·.1):=h2.keys▸List.mem_map_of_mem (f:=(·.2)) (get_mem h)
   have ndp:=tC nd
   have n1:=List.nodup_cons.mp ndp
   have n2:=List.nodup_cons.mp n1.2
   obtain⟨mu',g1,g2,g3⟩:=h2.put hc h n2.2
   refine hst▸⟨(P,instObj C.CP pd)::(pd,dictOf es n)::mu',om,S.chg hp0 hs ho rfl (congrArg (λl=>P::pd::l) g2) rfl (λq hq=>(List.mem_append.mp hq).elim (λhq=>(List.mem_cons.mp hq).elim (λe=>.inr ⟨e▸.head _,λf=>n1.1 (.tail _ ((U3 ((congrArg Prod.fst e).symm.trans f) hd)))⟩) λhq=>(List.mem_cons.mp hq).elim (λe=>.inr ⟨e▸.tail _ (.head _),λf=>n2.1 ((U3 ((congrArg Prod.fst e).symm.trans f) hd))⟩) λhq=>(g3 q hq).imp id λh=>⟨.tail _ (.tail _ (List.mem_append_left _ h.1)),h.2⟩) λhq=>.inr ⟨List.mem_append_right _ hq,yr nd (.tail _ (.tail _ hd)) (List.mem_append_left _ hq)⟩) ?_ (.some h1 g1 h3) S.own⟩
   rw[List.map_append];exact List.mem_append_left _ (.tail _ (.tail _ hd))
theorem bU.upd (hp0:f₀.p=[])(S:bU C P aj L f₀ σ₀ st tmp s m σ τ pm om fz){a:AV}{d:Addr}{c c':Cont}{o':Obj}{h':Heap}{t:Nat}(h:LR C P fz σ τ a (.ref d))(e:Mine.slot st a=some c)(hs:Heap.SameBut d s.heap h')(ho:h'.get? d=some o')(hc:cW C P fz d c' o'){st':AS}(hst:setSlot st c' a=some st'){G:Prop}
  (k:St C P aj L f₀ σ₀ st' tmp {s with heap:=h',toks:=t}->G):G:=let ⟨_,_,X⟩:=S.XK hp0 h e hs ho hc hst;k X.st
end
noncomputable def notStar (e:Expr):Bool:= !Nat.beq e.ctorIdx 22
theorem je {e:Expr}(h:notStar e=true)(es:List Expr)(env:Env):starEach (e::es) env=(false,eval e env)::starEach es env:=by
 cases e<;>first|rfl|cases h
theorem iK (pos:Pos)(env:Env):∀{es:List Expr},es.all notStar=true->(backTo pos (starEach es env)).any (·.1)=false
 |[],_=>rfl
 |e::es,h=>by
  rw[List.all_cons,Bool.and_eq_true]at h
  rw[je h.1]
  show(false||(backTo pos (starEach es env)).any (·.1))=false
  rw[iK pos env h.2];rfl
theorem oY (pos:Pos)(env:Env):∀{es:List Expr},es.all notStar=true->(backTo pos (starEach es env)).all (λx=> !x.1)=true
 |[],_=>rfl
 |e::es,h=>by
  rw[List.all_cons,Bool.and_eq_true]at h
  rw[je h.1]
  show(true&&(backTo pos (starEach es env)).all (λx=> !x.1))=true
  rw[oY pos env h.2];rfl
theorem nF {M:Model}{A:Around}{E:Value->Shared->Prop}{s:Shared}{f:Value}{pos:Pos}{env:Env}{es:List Expr}(h:es.all notStar=true){Q:Args->Shared->Prop}
  (hq:wpAny M A (spliced (backTo pos (starEach es env))) (λvs s'=>Q ⟨vs,[]⟩ s') E s):wpAny M A (evalArgs f true (backTo pos (starEach es env)) []) Q E s:=by
 cases es with
 |nil=>exact hq
 |cons e es=>
  rw[List.all_cons,Bool.and_eq_true]at h
  rw[je h.1]at hq⊢
  exact evalArgs_plain hq
theorem iz {prog:Program}{w:World}{A:Around}{E:Value->Shared->Prop}{s:Shared}{env:Env}{o:Expr}{name:Str}{apos pos:Pos}{args:List Expr}{T id:String}{Q:Value->Shared->Prop}
  (hs:cT o=true)(ha:args.all notStar=true)(hn:Nat.blt args.length 29=true)(hline:(apos.endLine==pos.line)=true)
  (pa:PlainAttrs T)(slot:Slot T name id)(hty:typeOf (.builtin id)=pure (.type "method_descriptor"))
  (h:wpAny (model prog w) A (eval o env) (λov aR=>aR.TypeIs ov T/\(∀a,ov= .ref a->∃ob,aR.heap.get? a=some ob/\ob.dict=none)/\
   wpAny (model prog w) A (spliced (backTo pos (starEach args env))) (λvs bY=>wpAny (model prog w) A (call (.builtin id) (ov::vs)) Q E bY) E aR) E s):
  wpAny (model prog w) A (eval (.Call (.Attribute o name apos) args [] pos) env) Q E s:=by
 have hn':args.length<29:=by rw[<-Nat.blt_eq];exact hn
 refine wpAny_Call_method (wW hs _ _ _) ?_ hline pa slot hty (wpAny_mono h (λov aR aF=>⟨aF.1,aF.2.1,callWith_builtin (iK pos env ha) (nF ha aF.2.2)⟩) λ_ _ x=>x)
 rw[oY pos env ha]
 exact decide_eq_true (Nat.lt_succ_of_lt hn':args.length+0+(if([]:List Keyword).isEmpty=true then 0 else 1)<30)
section
variable {e aB aP bI:Expr}{ie bG bJ bO:IE}{pos apos:Pos}
theorem all1 {α:Type}{f:α->Bool}{a:α}(h:f a=true):[a].all f=true:=by rw[List.all_cons,h];rfl
theorem all2 {α:Type}{f:α->Bool}{a b:α}(h:f a=true)(h':f b=true):[a,b].all f=true:=by rw[List.all_cons,h];exact all1 h'
noncomputable def KN (C:Cx) (P:Addr) (aj:Heap) (L:Addr) (f₀:F0) (σ₀:List (Nat×Addr)) (Q:AS->Prop) (tmp:List (AV×Value)) (R:Value->Shared->Prop):Prop:=∀s st,Q st->St C P aj L f₀ σ₀ st tmp s->R .none s
theorem Jg {α:Type}{o:Option α}(h:o.isSome=true){G:Prop}(k:∀a,o=some a->G):G:=match o,h,k with
 |some a,_,k=>k a rfl
theorem St.isList {a v}(S:St C P aj L f₀ σ₀ st ((a,v)::tmp) s)(e:yI st a=true):s.TypeIs v "list"/\∀b,v= .ref b->∃ob,s.heap.get? b=some ob/\ob.dict=none:=
 S.un λm σ τ pm om fz X=>Jg e λxs hx=>X.nZ X.t0 hx λd n vs g r hb=>⟨⟨_,g,rfl⟩,λb e=>⟨_,Value.ref.inj e▸g,rfl⟩⟩
theorem bU.U4 (hp0:f₀.p=[])(X:bU C P aj L f₀ σ₀ st tmp s m σ τ pm om fz){a:AV}{d:Addr}{xs ys:List AV}{vs ws:List Value}{n t:Nat}(h:LR C P fz σ τ a (.ref d))(e:qO st a=some xs)(ho:s.heap.get? d=some (listOf vs.toArray n))
  (f:Array Value->Array Value)(hf:f vs.toArray=ws.toArray)(hy:dz C P fz ys ws)(hb:ys.length<=1000){st':AS}(hst:setSlot st (.l ys) a=some st'){G:Prop}(k:∀nQ sY,bU C P aj L f₀ σ₀ st' tmp {s with heap:=s.heap.update d (Obj.mapSeq f),toks:=t} m σ τ nQ sY fz->G):G:=
 bnd e λc hc _=>
  let ⟨_,_,Y⟩:=X.XK hp0 h hc (Heap.SameBut.update ..) (hf▸PySem.IsL.update ho f) (.l hy hb) hst
  k _ _ Y
theorem bU.lop (hp0:f₀.p=[])(X:bU C P aj L f₀ σ₀ st tmp s m σ τ pm om fz){a:AV}{d:Addr}{xs ys:List AV}{vs ws:List Value}{n t:Nat}(h:LR C P fz σ τ a (.ref d))(e:qO st a=some xs)(ho:s.heap.get? d=some (listOf vs.toArray n))
  (f:Array Value->Array Value)(hf:f vs.toArray=ws.toArray)(hy:dz C P fz ys ws){Q:AS->Prop}(hq:pick ((z9 ys).bind λl=>setSlot st (.l l) a) Q){G:Prop}(k:∀st',ys.length<=1000->Q st'->St C P aj L f₀ σ₀ st' tmp {s with heap:=s.heap.update d (Obj.mapSeq f),toks:=t}->G):G:=
 aQ hq λst' e' q=>bnd e' λl hl e'=>by
  revert e'
  exact fL hl λhb e'=>X.U4 hp0 h e ho f hf hy (Nat.le_of_ble_eq_true hb) e' λ_ _ Y=>k _ (Nat.le_of_ble_eq_true hb) q Y.st
theorem gU {M:Model}{e:Expr}(ha:notStar e=true){Q:List Value->Shared->Prop}(h:wpAny M A (eval e env) (λv s'=>Q [v] s') E s):wpAny M A (spliced (backTo pos (starEach [e] env))) Q E s:=
 wpAny_items_cons (wpAny_mono h (λv aR aF=>wpAny_items_nil aF) λ_ _ x=>x) (je ha _ _)
theorem Bm {M:Model}{e e':Expr}(ha:notStar e=true)(hb:notStar e'=true){Q:List Value->Shared->Prop}(h:wpAny M A (eval e env) (λv s'=>wpAny M A (eval e' env) (λv' s''=>Q [v,v'] s'') E s') E s):wpAny M A (spliced (backTo pos (starEach [e,e'] env))) Q E s:=
 wpAny_items_cons (wpAny_mono h (λv aR aF=>wpAny_items_cons (wpAny_mono aF (λv bY bk=>wpAny_items_nil bk) λ_ _ x=>x) (je hb _ _)) λ_ _ x=>x) (je ha _ _)
theorem szl {vs:List Value}{k:Nat}(h:vs.length<=k)(hk:k<=16777216:=by decide):vs.toArray.size<=sizeLine:=by
 rw[List.size_toArray];exact Nat.le_trans h hk
theorem M6 (hp0:f₀.p=[])(hs:cT aB=true)(ha:notStar aP=true)(hline:(apos.endLine==pos.line)=true)(iht:cu C (bf T CF) P A aj L f₀ σ₀ env aB bG)(Vk:cu C (bf T CF) P A aj L f₀ σ₀ env aP bJ)
  {Q:PS}(h:wp1 T CF (.app bG bJ) st Q)(S:St C P aj L f₀ σ₀ st tmp s){R:Value->Shared->Prop}(k:KN C P aj L f₀ σ₀ (Q .next) tmp R):
  wpAny (model C.prog C.w) A (eval (.Call (.Attribute aB "append" apos) [aP] [] pos) env) R E s:=
 iz hs (all1 ha) rfl hline PySem.F.plainAttrs_list PySem.F.slot_list_append PySem.F.type_list_append (iht _ _ _ _ E _ h S λu aR d bF aF S₁=>⟨(S₁.isList (jB aF)).1,(S₁.isList (jB aF)).2,
  gU ha (Vk _ _ _ _ E _ (mV aF) S₁ λv bY a dG bk S₂=>aQ bk λxs hx bk=>gC bk λhc bk=>S₂.un λm σ τ pm om fz X=>by
   have hv:=X.t0.clo hc
   have hd:=X.t1
   revert hd
   exact X.nZ X.t1 hx λad n vs g r hb hd=>X.d2.lop hp0 (t:=bY.toks) hd hx g (·.push v) (ws:=vs++[v]) (List.push_toArray ..) (r.append (.cons hv .nil)) bk λst' _ q S'=>
    call_meets PySem.F.slot_list_append ⟨_,g,rfl⟩ PySem.F.entry_list_append (PySem.F.args_list_append_2 _ _) (AutoListH.list_append_list_val_0 ad vs.toArray n v (szl (r.length▸hb))) ⟨g,k _ _ q S'⟩)⟩)
end
theorem join_nil:∀ys:List (List Nat),Str.join ⟨#[]⟩ (ys.map λy=>(⟨y.toArray⟩:Str))=⟨ys.flatten.toArray⟩
 |[]=>rfl
 |[y]=>by simp[Str.join]
 |y::z::r=>by
  have ih:=join_nil (z::r)
  rw[List.map_cons]at ih
  simp only[List.map_cons,Str.join]at ih⊢
  rw[ih]
  show(⟨y.toArray++#[]++_⟩:Str)=_
  simp
theorem Ah {l:List AV}{s:List Nat}(h:yH l=some s):∃ys,strsOf l=some ys/\ys.flatten=s:=by
 induction l generalizing s with
 |nil=>exact⟨[],rfl,Option.some.inj h⟩
 |cons a r ih=>exact bnd h λx hx h=>Ad h λt ht e=>
   let ⟨ys,h1,h2⟩:=ih ht
   ⟨x::ys,by unfold strsOf;rw[hx,h1];rfl,by rw[List.flatten_cons,h2];exact e⟩
section
variable {e aB aP bI:Expr}{ie bG bJ bO:IE}{pos apos np:Pos}
theorem LC (ys:List (List Nat)):((ys.map λy=>(⟨y.toArray⟩:Str)).map (·.length)).sum=ys.flatten.length:=by
 induction ys with
 |nil=>rfl
 |cons y r ih=>
  simp only[List.map_cons,List.sum_cons,List.flatten_cons,List.length_append]at ih⊢
  rw[ih,len_str]
@[elab_as_elim] theorem bU.wD (X:bU C P aj L f₀ σ₀ st tmp s m σ τ pm om fz) {a:AV} {v:Value} {xs:List AV} (h:LR C P fz σ τ a v) (e:tL st a=some xs) {R:Value->Prop}
  (k:∀d n vs,s.heap.get? d=some (listOf (List.toArray vs) n)->dz C P fz xs vs->xs.length<=1000->R (.ref d)):R v:=
 fV e (λe=>h.Ae e λvs b n m r l=>k b n vs (X.mK m) r l) λ_ e=>X.nZ h e k
theorem Hs (he:notStar e=true)(hline:(apos.endLine==pos.line)=true){k p}(ih:cu C (bf T CF) P A aj L f₀ σ₀ env e ie):
  cu C (bf T CF) P A aj L f₀ σ₀ env (.Call (.Attribute (.Constant (.str ⟨#[]⟩) k p) "join" apos) [e] [] pos) (.join ie):=λst tmp s Q E R h S k=>
 iz rfl (all1 he) rfl hline PySem.F.plainAttrs_str PySem.F.slot_str_join PySem.F.type_str_join (wpAny_mkText ⟨typeIs_str _ _ _,(λa e=>nomatch e),gU he (ih _ _ _ _ E _ h (S.toks _) λv aR a bF aF S₁=>aQ aF λr hr aF=>bnd hr λr' hr hq=>bnd hr λxs hx hr=>S₁.un λm σ τ pm om fz X=>by
  revert aF
  refine X.wD X.t0 hx λd n vs g hv hb=>fL hq λhj hq=>?_
  obtain⟨ys,y1,y2⟩:=Ah hr
  have j3:=Nat.le_of_ble_eq_true hj
  refine join_list (cR g) (by rw[List.toList_toArray];exact hv.strs y1) (by rw[LC,y2];show _+_*0<=_;omega) λt' k'=>k _ _ _ _ hq ((S₁.pop.toks _).eO λfz=>?_)
  unfold Txt.join
  rw[StrLaws.glued_eq_join,join_nil,y2]
  exact .str _ _ j3)⟩)
theorem X8 (l r:List Value):l.toArray++r.toArray=(l++r).toArray:=by simp
theorem Ik {vs:Array Value}{n:Nat}(h:n<=1000):¬(!vs.isEmpty&&Builtin.List.listTooLong n)=true:=by
 have:Builtin.List.listTooLong n=false:=by
  have sz:sizeLine=16777216:=rfl
  unfold Builtin.List.listTooLong
  simp
  omega
 rw[this];simp
theorem MF (hp0:f₀.p=[])(hs:cT aB=true)(ha:notStar aP=true)(hline:(apos.endLine==pos.line)=true)(iht:cu C (bf T CF) P A aj L f₀ σ₀ env aB bG)(Vk:cu C (bf T CF) P A aj L f₀ σ₀ env aP bJ)
  {Q:PS}(h:wp1 T CF (.ext bG bJ) st Q)(S:St C P aj L f₀ σ₀ st tmp s){R:Value->Shared->Prop}(k:KN C P aj L f₀ σ₀ (Q .next) tmp R):
  wpAny (model C.prog C.w) A (eval (.Call (.Attribute aB "extend" apos) [aP] [] pos) env) R E s:=
 iz hs (all1 ha) rfl hline PySem.F.plainAttrs_list PySem.F.slot_list_extend PySem.F.type_list_extend (iht _ _ _ _ E _ h S λu aR d bF aF S₁=>⟨(S₁.isList (jB aF)).1,(S₁.isList (jB aF)).2,
  gU ha (Vk _ _ _ _ E _ (mV aF) S₁ λv bY a dG bk S₂=>aQ bk λxs hx bk=>aQ bk λys hy bk=>S₂.un λm σ τ pm om fz X=>by
   have hv:=X.t0
   have hd:=X.t1
   revert hv hd
   refine X.nZ X.t1 hx λad n vs g r hb hv hd=>?_
   have fin:∀{ws},dz C P fz ys ws->(vs.toArray.size+ws.toArray.size<=1000->R .none {bY with heap:=bY.heap.update ad (Obj.mapSeq (· ++ws.toArray)),toks:=bY.toks}->wpAny (model C.prog C.w) A (call (.builtin "list.extend") [.ref ad,v]) R E bY)->wpAny (model C.prog C.w) A (call (.builtin "list.extend") [.ref ad,v]) R E bY:=λ{ws} hw K=>
    X.d2.lop hp0 (t:=bY.toks) hd hx g (· ++ws.toArray) (ws:=vs++ws) (X8 _ _) (r.append hw) bk λst' hl q S'=>K (by rw[List.size_toArray,List.size_toArray,<-r.length,<-hw.length,<-List.length_append];exact hl) (k _ _ q S')
   have lst:∀{b n2 ws},bY.heap.get? b=some (listOf (List.toArray ws) n2)->dz C P fz ys ws->v= .ref b->wpAny (model C.prog C.w) A (call (.builtin "list.extend") [.ref ad,v]) R E bY:=λg2 hw e=>fin hw λhl K=>e▸
    call_meets PySem.F.slot_list_extend ⟨_,g,rfl⟩ PySem.F.entry_list_extend (PySem.F.args_list_extend_2 _ _) (AutoSeq1.list_extend_list_list_0 ad _ n _ _ _ (Ik hl) (Nat.le_trans (Nat.le_trans (Nat.le_add_right _ _) hl) (by decide)) (Nat.le_trans hl (by decide))) ⟨g,g2,K⟩
   refine fV hy (λe=>(hv.Ae e (R:=λv'=>v=v'->_) λws b n2 m r2 _=>lst (X.mK m) r2) rfl) λ_ hy=>fV hy (λe=>(hv.S7 e (R:=λv'=>v=v'->_) λws b n2 m r2 _ e=>fin r2 λhl K=>e▸
    call_meets PySem.F.slot_list_extend ⟨_,g,rfl⟩ PySem.F.entry_list_extend (PySem.F.args_list_extend_2 _ _) (AutoSeq1.list_extend_list_tuple_0 ad _ n _ _ _ (Ik hl) (Nat.le_trans (Nat.le_trans (Nat.le_add_right _ _) hl) (by decide)) (Nat.le_trans hl (by decide))) ⟨g,X.mK m,K⟩) rfl) λ_ e=>(X.nZ hv e (R:=λv'=>v=v'->_) λd n ws g2 r2 _=>lst g2 r2) rfl)⟩)
end
theorem dz.split {P fz}:∀{as bs:List AV} {vs:List Value},dz C P fz (as++bs) vs->∃us ws,vs=us++ws/\dz C P fz as us/\dz C P fz bs ws
 |[],_,vs,h=>⟨[],vs,rfl,.nil,h⟩
 |_::_,_,_,h=>h.Ke λv ws h k=>
  let ⟨us,ws,e,k1,k2⟩:=k.split
  ⟨v::us,ws,congrArg _ e,.cons h k1,k2⟩
@[elab_as_elim] theorem sU {i:Int} {n k:Nat} (h:eN i n=some k) {R:Nat->Prop} (H:0<=i->i<(n:Int)->R i.toNat):R k:=by
 unfold eN at h
 exact fL h λh=>an h λa b=>H (of_decide_eq_true a) (of_decide_eq_true b)
theorem vo {i:Int}{n k:Nat}(h:eN i n=some k):0<=i/\i<(n:Int)/\k=i.toNat:=sU (R:=λk=>0<=i/\i<(n:Int)/\k=i.toNat) h λa b=>⟨a,b,rfl⟩
section
variable {e aB aP bI:Expr}{ie bG bJ bO:IE}{pos apos np:Pos}
noncomputable def Zt (i:Int) (v:Value) (xs:Array Value):Array Value:=have k:=if i<0 then(i+((xs.size:Nat):Int)).toNat else min i.toNat xs.size;(xs.extract 0 k).push v++xs.extract k
theorem Vi {us ws:List Value}{v:Value}{i:Int}(h0:0<=i)(hi:i.toNat=us.length):Zt i v (us++ws).toArray=(us++v::ws).toArray:=by
 have hmin:(if i<0 then(i+(((us++ws).toArray.size:Nat):Int)).toNat else min i.toNat (us++ws).toArray.size)=us.length:=by
  rw[if_neg (Int.not_lt.mpr h0),List.size_toArray,List.length_append,hi,Nat.min_eq_left (Nat.le_add_right _ _)]
 show((us++ws).toArray.extract 0 _).push v++(us++ws).toArray.extract _ _=_
 rw[hmin]
 simp
theorem Mw (hp0:f₀.p=[])(hs:cT aB=true)(ha:notStar aP=true)(ha':notStar bI=true)(hline:(apos.endLine==pos.line)=true)(iht:cu C (bf T CF) P A aj L f₀ σ₀ env aB bG)(ihi:cu C (bf T CF) P A aj L f₀ σ₀ env aP bJ)(Vk:cu C (bf T CF) P A aj L f₀ σ₀ env bI bO)
  {Q:PS}(h:wp1 T CF (.ins bG bJ bO) st Q)(S:St C P aj L f₀ σ₀ st tmp s){R:Value->Shared->Prop}(k:KN C P aj L f₀ σ₀ (Q .next) tmp R):
  wpAny (model C.prog C.w) A (eval (.Call (.Attribute aB "insert" apos) [aP,bI] [] pos) env) R E s:=
 iz hs (all2 ha ha') rfl hline PySem.F.plainAttrs_list PySem.F.slot_list_insert PySem.F.type_list_insert (iht _ _ _ _ E _ h S λu aR d bF aF S₁=>⟨(S₁.isList (jB aF)).1,(S₁.isList (jB aF)).2,
  Bm ha ha' (ihi _ _ _ _ E _ (mV aF) S₁ λw bY i dG bk S₂=>Vk _ _ _ _ E _ bk S₂ λv gZ a kO bQ fY=>aQ bQ λxs hx bQ=>aQ bQ λi hi bQ=>gC bQ λhc bQ=>aQ bQ λj hj bQ=>fY.un λm σ τ pm om fz X=>by
   have hv:=X.t0.clo hc
   have hd:=X.t2
   have hl:=(vo hj).2.1
   revert hd bQ
   refine X.t1.int_ hi λt=>sU hj λh0 hlt=>X.nZ X.t2 hx λad n vs g r hb bQ hd=>?_
   obtain⟨us,ws,rfl,r1,r2⟩:=dz.split (as:=xs.take i.toNat) (bs:=xs.drop i.toNat) (by rw[List.take_append_drop];exact r)
   have l0:i.toNat=us.length:=by rw[<-r1.length,List.length_take];omega
   have l1:=r.length
   refine X.d3.lop hp0 (t:=gZ.toks) hd hx g (Zt i v) (Vi h0 l0) (r1.append (.cons hv r2)) bQ λst' hb' q S'=>?_
   exact call_meets PySem.F.slot_list_insert ⟨_,g,rfl⟩ PySem.F.entry_list_insert (PySem.F.args_list_insert_3 _ _ _) (AutoListH.list_insert_list_int_val_1 ad (us++ws).toArray n i t v (by unfold Builtin.List.listFitsIndex;have sz:sizeLine=16777216:=rfl;simp;omega) (szl (l1▸hb))) ⟨g,k _ _ q S'⟩)⟩)
theorem uO {α:Type}{l:List α}{x:α}(h:l.getLast?=some x):l=l.dropLast++[x]:=by
 have hne:l≠[]:=λe=>by subst e;cases h
 have:=List.dropLast_concat_getLast hne
 rw[List.getLast?_eq_some_getLast hne]at h
 rw[<-Option.some.inj h]
 exact this.symm
theorem lX {d:AV}{xs:List AV}(h:qO st d=some xs):yI st d=true:=by unfold yI;rw[h];rfl
theorem Hl (hp0:f₀.p=[])(hs:cT e=true)(hline:(apos.endLine==pos.line)=true)(ih:cu C (bf T CF) P A aj L f₀ σ₀ env e ie):
  cu C (bf T CF) P A aj L f₀ σ₀ env (.Call (.Attribute e "pop" apos) [] [] pos) (.m7 ie):=λst tmp s Q E R h S k=>
 iz hs rfl rfl hline PySem.F.plainAttrs_list PySem.F.slot_list_pop PySem.F.type_list_pop (ih _ _ _ _ E _ h S λu aR d bF aF S₁=>aQ aF λxs hx aF=>⟨(S₁.isList (lX hx)).1,(S₁.isList (lX hx)).2,wpAny_items_nil (aQ aF λx hl aF=>aQ aF λdG hst q=>S₁.un λm σ τ pm om fz X=>by
  have hd:=X.t0
  revert hd
  refine X.nZ X.t0 hx λad n vs g r hb hd=>?_
  rw[uO hl]at r hb
  obtain⟨us,ws,rfl,r1,r2⟩:=r.split
  have l1:=r.length
  revert g r l1
  refine r2.Ke λy ws ry r3=>r3.abr λg r l1=>?_
  have hk:(us++[y]).toArray.size - 1=us.length:=by simp
  have hb':xs.dropLast.length<=1000:=Nat.le_trans (List.length_append▸Nat.le_add_right _ _) hb
  refine X.d1.U4 hp0 (t:=aR.toks) hd hx g (λxs=>xs.eraseIdxIfInBounds ((us++[y]).toArray.size - 1)) (by show(us++[y]).toArray.eraseIdxIfInBounds _=_;rw[hk,kl_erase,List.append_nil]) r1 hb' hst λnQ sY Y=>?_
  exact call_meets PySem.F.slot_list_pop ⟨_,g,rfl⟩ PySem.F.entry_list_pop (PySem.F.args_list_pop_1 _) (PySem.MeetsSeq.list_pop_last ad _ n y (by rw[hk];simp) (szl (l1▸hb)))
   ⟨g,k _ _ _ _ q (Y.push (.v ry)).st⟩)⟩)
theorem S5 {α:Type}{l:List α}{x}(h:unc l=some x):l=x.1::x.2:=match l,h with
 |_::_,h=>Option.some.inj h▸rfl
theorem Ho (hp0:f₀.p=[])(hs:cT e=true)(hline:(apos.endLine==pos.line)=true){k p}(ih:cu C (bf T CF) P A aj L f₀ σ₀ env e ie):
  cu C (bf T CF) P A aj L f₀ σ₀ env (.Call (.Attribute e "pop" apos) [.Constant (.int 0) k p] [] pos) (.sW ie):=λst tmp s Q E R h S K=>
 iz hs rfl rfl hline PySem.F.plainAttrs_list PySem.F.slot_list_pop PySem.F.type_list_pop (ih _ _ _ _ E _ h S λu aR d bF aF S₁=>aQ aF λx hx aF=>bnd hx λxs hx hu=>⟨(S₁.isList (lX hx)).1,(S₁.isList (lX hx)).2,gU rfl (wpAny_Constant_int (aQ aF λdG hst q=>(S₁.toks (aR.toks+1)).un λm σ τ pm om fz X=>by
  have hd:=X.t0
  revert hd
  refine X.nZ X.t0 hx λad n vs g r hb hd=>?_
  rw[S5 hu]at r hb
  have l1:=r.length
  revert g l1
  refine r.Ke λy ws ry r g l1=>?_
  refine X.d1.U4 hp0 (t:=aR.toks+1) hd hx g (λxs=>xs.eraseIdxIfInBounds 0) (kl_erase [] ws y) r (Nat.le_of_succ_le hb) hst λnQ sY Y=>?_
  exact call_meets PySem.F.slot_list_pop ⟨_,g,rfl⟩ PySem.F.entry_list_pop (PySem.F.args_list_pop_2 _ _) (PySem.MeetsSeq.list_pop_at ad _ n 0 _ 0 y (by decide) (by simp[seqIndex?]) (by simp) (szl (l1▸hb)))
   ⟨g,K _ _ _ _ q (Y.push (.v ry)).st⟩))⟩)
end
section
variable {e aB aP bI:Expr}{ie bG bJ bO:IE}{pos apos np:Pos}
theorem wU (Z:Act C A aU base aj outer env L)(F:Fr aj L s.heap m){n:Str}{id:String}{es:List Expr}(hn:nsIn C.K mainGlobals n=some none)(hv:bootBuiltins n=some (.builtin id))(hx:n≠"__name__")(hk:env.kindOf n=some .globalImplicit)(hd:(n==("__debug__":Str))=false)
  (ha:es.all notStar=true){Q:Value->Shared->Prop}(h:wpAny (model C.prog C.w) A (spliced (backTo pos (starEach es env))) (λvs aR=>wpAny (model C.prog C.w) A (call (.builtin id) vs) Q E aR) E s):
  wpAny (model C.prog C.w) A (eval (.Call (.Name n np) es [] pos) env) Q E s:=
 wpAny_Call_ofName (jU Z F hn hv hx hk hd (callWith_builtin (first:=[]) (iK pos env ha) (nF ha h)))
theorem Ms (Z:Act C A aU base aj outer env L)(hn:nsIn C.K mainGlobals "len"=some none)(hk:env.kindOf "len"=some .globalImplicit)(ha:notStar e=true)(ih:cu C (bf T CF) P A aj L f₀ σ₀ env e ie):
  cu C (bf T CF) P A aj L f₀ σ₀ env (.Call (.Name "len" np) [e] [] pos) (.len ie):=λst tmp s Q E R h S k=>
 S.un λm σ τ pm om fz X=>wU (id:="len") Z X.fr hn (by decide+kernel) (by decide) hk (by decide) (all1 ha) (gU ha (ih _ _ _ _ E _ h S λv aR a bF aF S₁=>aQ aF λn hn aF=>S₁.un λm σ τ pm om fz X=>by
  revert aF
  refine fV hn (λe=>Zf e λx hx=>X.t0.str_ hx λt hb aF=>PySem.P.len_str (by rw[len_str];omega) (k _ _ _ _ aF ((S₁.pop.toks _).eO λfz=>?_))) λ_ e=>Zf e λxs hx=>X.wD X.t0 hx λd n vs g r hb aF=>call_len_list (cR g) (by rw[List.size_toArray,<-r.length];omega) (k _ _ _ _ aF ((S₁.pop.toks _).eO λfz=>?_))
  ·rw[len_str];exact .int _ _
  ·rw[List.size_toArray,<-r.length];exact .int _ _))
theorem rE {α:Type}:∀{k:Nat} {l:List α} {a:α},nth k l=some a->l[k]? =some a
 |0,[],_,h=>h
 |_+1,[],_,h=>h
 |0,_::_,_,h=>h
 |k+1,_::r,_,h=>rE (k:=k) (l:=r) h
theorem Ir {i:Int}{n k:Nat}(h:tH i n=some k){G:Prop}(H:i<0->0<=i+(n:Int)->k=(i+(n:Int)).toNat->G):G:=by
 unfold tH at h
 revert H
 exact fL h λh=>an h λa b H=>H (of_decide_eq_true a) (of_decide_eq_true b) rfl
noncomputable def aaZ (v:Value) (s:Shared):Prop:=∃T id,s.TypeIs v T/\typeLookup (.type T) "__getitem__"=pure (some (.builtin id))
theorem Dp {d:Addr}{vs:List Value}{xs:List AV}{i:Int}{t:Tok}(hl:s.heap.IsList d vs.toArray)(hr:dz C P fz xs vs)(hz:xs.length<=1000){r:AV}(e:((eN i xs.length).bind λk=>nth k xs)=some r)
  {Q:Value->Shared->Prop}(hQ:∀x t,VR C P fz r x->Q x {s with toks:=t}):wpAny (model C.prog C.w) A (getItem (.ref d) (.int i t)) Q E s:=
 bnd e λk hk e=>by
  revert e
  refine sU hk λk0 k1 e=>?_
  obtain⟨x,hx,hr⟩:=hr.at _ _ (rE e)
  exact wpAny_getItem_list hl k0 (by omega) (by rw[List.getElem?_toArray];exact hx) (hQ x s.toks hr)
theorem O7 (Z:Act C A aU base aj outer env L)(K:uX C T)(X:bU C P aj L f₀ σ₀ st tmp s m σ τ pm om fz){a b r:AV}{u v:Value}(ha:LR C P fz σ τ a u)(hb:LR C P fz σ τ b v)(e:idxV T st a b=some r)
  {Q:Value->Shared->Prop}(hQ:∀x t,VR C P fz r x->Q x {s with toks:=t}):aaZ u s/\wpAny (model C.prog C.w) A (getItem u v) Q E s:=by
 have L:∀{d vs n},s.heap.get? d=some (listOf (List.toArray vs) n)->aaZ (.ref d) s:=λg=>⟨"list",_,⟨_,g,rfl⟩,slot_list_getitem.lookup⟩
 refine fV e (λe=>bnd e λi hi e=>hb.int_ hi λu=>fV e (λe=>bnd e λx hx e=>ha.str_ hx λt hz=>⟨⟨"str",_,typeIs_str _ _ _,PySem.F.slot_str_getitem.lookup⟩,?_⟩) λ_ e=>fV e (λe=>bnd e λl hl e=>ha.Ae hl λvs d n h1 h2 h3=>⟨L (X.mK h1),?_⟩) λ_ e=>fV e (λe=>bnd e λl hl e=>X.nZ ha hl λd n vs g r hb=>⟨L g,Dp (cR g) r hb e hQ⟩) λ_ e=>bnd e λl hl e=>X.za ha hl λd o kvs g h1 h2 h3 _=>JF h2 e λw k1 k2=>⟨⟨"dict",_,(jg g h1).mapOf.typeIs,slot_dict_getitem.lookup⟩,wpAny_getItem_of (intKind_is C.prog C.w _ u) (jg g h1).mapOf k1 (hQ _ _ k2)⟩)
  λ_ e=>bnd e λd hd e=>bnd e λx hx e=>bnd e λl hl e=>ha.X5 hd (hb.str_ hx λt hz=>?_)
 ·refine bnd e λk hk e=>?_
  obtain⟨k0,k1,rfl⟩:=vo hk
  refine bnd e λc hc e=>?_
  obtain rfl:=Option.some.inj e
  refine PySem.P.getItem_str (c:=c) (by simp;omega) ?_ (hQ _ _ (.str [c] _ (by decide:1<=100000)))
  rw[show seqIndex? i (⟨x.toArray⟩:Str).length=some i.toNat from by
   rw[len_str]
   unfold seqIndex?
   simp
   omega]
  simpa using rE hc
 ·unfold yx at e
  revert e
  cases decide (0<=i)with
  |true=>exact λe=>Dp (cR (X.mK h1)) h2 h3 e hQ
  |false=>
   refine λe=>bnd e λk hk e=>Ir hk λk0 k1 hk=>?_
   obtain⟨x,hx,hr⟩:=h2.at _ _ (rE e)
   have:=h2.length
   refine wpAny_getItem_list_neg (x:=x) (cR (X.mK h1)) k0 (by rw[List.size_toArray,<-this];omega) (by omega) ?_ (hQ x s.toks hr)
   rw[List.size_toArray,<-this,List.getElem?_toArray,<-hk]
   exact hx
 ·obtain⟨k1,es,n,k2,k3,k4⟩:=K.dt _ _ hl
  have k5:=k4 x
  rw[e]at k5
  obtain⟨w,k5,k6⟩:=k5
  exact⟨⟨"dict",_,⟨_,(Z.X.keeps X.fr.keep) _ _ k2,rfl⟩,slot_dict_getitem.lookup⟩,topGetDict_K X.fr Z.X k2 k3 k5 (hQ _ _ (k6 _ _))⟩
end
noncomputable def tu (e:Expr):Bool:= !Nat.beq e.ctorIdx 26
theorem sE {e:Expr}(h:tu e=true)(o i:Value):subscripted e false o i=operate [o,i] (getItem o i):=by
 cases e<;>first|rfl|exact jJ h
section
variable {e aB aP bI:Expr}{ie bG bJ bO:IE}{pos apos np:Pos}
theorem xQ {M:Model}{value slice:Expr}{Q:Value->Shared->Prop}
  (h:wpAny M A (eval value env) (λo aR=>wpAny M A (eval slice env) (λi bY=>wpAny M A (subscriptTail value slice o i) Q E bY) E aR) E s):wpAny M A (eval (.Subscript value slice pos) env) Q E s:=by
 rw[arm_eval_Subscript]
 refine wpAny_bind (wpAny_mono h (λo aR aF=>wpAny_bind (wpAny_holding (wpAny_mono aF (λi bY bk=>wpAny_bind (wpAny_standAt ?_)) λ_ _ x=>x))) λ_ _ x=>x)
 exact bk
theorem Mx (Z:Act C A aU base aj outer env L)(K:uX C T)(hs:tu aP=true)(iha:cu C (bf T CF) P A aj L f₀ σ₀ env aB bG)(ihb:cu C (bf T CF) P A aj L f₀ σ₀ env aP bJ):
  cu C (bf T CF) P A aj L f₀ σ₀ env (.Subscript aB aP pos) (.idx bG bJ):=λst tmp s Q E R h S k=>
 xQ (iha _ _ _ _ E _ h S λu aR a bF aF S₁=>ihb _ _ _ _ E _ aF S₁ λv bY b dG bk S₂=>aQ bk λr hr bk=>S₂.un λm σ τ pm om fz X=>
  let ⟨⟨_,_,hT,hl⟩,g⟩:=O7 Z K X X.t1 X.t0 hr λx t hx=>k _ _ _ _ bk ((X.d2.toks t).push (.v hx)).st
  tail_any hT hl g (sE hs _ _))
end
theorem zY (x:Str)(i j:Int)(h:(x.length:Int)<=j):StrLaws.sliceText x (some i) (some j)=StrLaws.sliceText x (some i) (some (x.length:Int)):=by
 unfold StrLaws.sliceText
 have e:Builtin.Str.strSliceIndices (some i) (some j) 1 x.length=Builtin.Str.strSliceIndices (some i) (some (x.length:Int)) 1 x.length:=by
  unfold Builtin.Str.strSliceIndices
  have h1:¬j<0:=by omega
  have h2:¬((x.length:Int)<0):=by omega
  simp only[h1,h2,if_false]
  congr 1
  rw[Int.min_eq_right h]
  simp
 simp only[e]
theorem Hw (s:List Nat)(a b:Int)(h0:0<=a)(h1:a<=b)(h2:a<=(s.length:Int)):Txt.slice ⟨s.toArray⟩ (some a) (some b)=⟨((s.take b.toNat).drop a.toNat).toArray⟩:=by
 show StrLaws.sliceText ⟨s.toArray⟩ (some a) (some b)=_
 by_cases h:b<=(s.length:Int)
 ·rw[StrLaws.sliceText_plain ⟨h0,h1,by simpa using h⟩]
  congr 1
  simp only[List.drop_take]
  congr 2
  omega
 ·rw[zY _ _ _ (by rw[len_str];omega),len_str,StrLaws.sliceText_plain ⟨h0,h2,by simp⟩]
  congr 1
  have:s.take b.toNat=s:=List.take_of_length_le (by omega)
  rw[this]
  show((s.drop a.toNat).take ((s.length:Int) - a).toNat).toArray=_
  rw[List.take_of_length_le (by rw[List.length_drop];omega)]
section
variable {e aB aP bI:Expr}{ie bG bJ bO:IE}{pos apos np mH s8:Pos}
theorem bU.heap (S:bU C P aj L f₀ σ₀ st tmp s m σ τ pm om fz){h':Heap}{t:Nat}(F:Fr aj L h' m)(N:News aj L h' (pm++(om++fz))):bU C P aj L f₀ σ₀ st tmp {s with heap:=h',toks:=t} m σ τ pm om fz:=
 ⟨F,N,S.nd,S.ak,S.par,S.own,S.tmp,S.gens,S.drawn,S.os,S.ff,S.ss,S.pf⟩
theorem dz.drop {P fz}{as:List AV}{vs:List Value}(h:dz C P fz as vs):∀k:Nat,dz C P fz (as.drop k) (vs.drop k):=
 h.ind (λk=>by rw[List.drop_nil,List.drop_nil];exact .nil) λh r i k=>match k with
  |0=>.cons h r
  |k+1=>i k
theorem dz.take {P fz}{as:List AV}{vs:List Value}(h:dz C P fz as vs):∀k:Nat,dz C P fz (as.take k) (vs.take k):=
 h.ind (λk=>by rw[List.take_nil,List.take_nil];exact .nil) λh r i k=>match k with
  |0=>.nil
  |k+1=>.cons h (i k)
theorem dz.cut {P fz}{as:List AV}{vs:List Value}(h:dz C P fz as vs)(j i:Nat):dz C P fz ((as.take j).drop i) ((vs.take j).drop i):=(h.take j).drop i
theorem u9 {M:Model}{lo hi:Expr}{Q:Value->Shared->Prop}
  (h:wpAny M A (eval e env) (λo aR=>wpAny M A (eval lo env) (λa bY=>wpAny M A (eval hi env) (λb gZ=>wpAny M A (newFields "slice" [a,b,.none]) (λi bY=>wpAny M A (subscriptTail e (.Slice (some lo) (some hi) none np) o i) Q E bY) E gZ) E bY) E aR) E s):
  wpAny M A (eval (.Subscript e (.Slice (some lo) (some hi) none np) pos) env) Q E s:=by
 refine xQ (wpAny_mono h (λo aR h=>?_) λ_ _ x=>x)
 rw[arm_eval_Slice]
 exact wpAny_bind (m:=eval lo env) (wpAny_mono h (λa bY h=>wpAny_bind (wpAny_holding (m:=eval hi env) (wpAny_mono h (λb gZ h=>wpAny_bind (wpAny_holding (wpAny_pure h))) λ_ _ x=>x))) λ_ _ x=>x)
theorem Mh (iha:cu C (bf T CF) P A aj L f₀ σ₀ env aB bG)(ihb:cu C (bf T CF) P A aj L f₀ σ₀ env aP bJ)(ihc:cu C (bf T CF) P A aj L f₀ σ₀ env bI bO):
  cu C (bf T CF) P A aj L f₀ σ₀ env (.Subscript aB (.Slice (some aP) (some bI) none np) pos) (.slc bG bJ bO):=λst tmp s Q E R h S k=>
 u9 (iha _ _ _ _ E _ h S λu aR a bF aF S₁=>ihb _ _ _ _ E _ aF S₁ λv bY b dG bk S₂=>ihc _ _ _ _ E _ bk S₂ λw gZ c kO bQ fY=>aQ bQ λi hi bQ=>aQ bQ λj hj bQ=>aQ bQ λr hr bQ=>bnd hr λx hx hr=>fY.un λm σ τ pm om fz X=>by
  revert bQ
  refine X.t1.int_ hi λtb=>X.t0.int_ hj λtc=>X.t2.str_ hx λta hz=>fL hr λhr bQ=>an hr λq1 q2=>an q2 λq2 q3=>?_
  refine wpAny_newObj_type ?_
  refine slice_strN_ss X.fr X.nw (λh' t' k' F N=>k _ _ _ _ bQ ((X.heap F N).d3.push (.v ?_)).st) rfl (λr=>by cases aB<;>rfl) (by rw[len_str];exact Nat.le_trans hz (by decide))
  rw[Hw _ _ _ (of_decide_eq_true q1) (of_decide_eq_true q2) (of_decide_eq_true q3)]
  exact .str _ _ (Nat.le_trans (by rw[List.length_drop,List.length_take];omega) hz))
noncomputable def isNm (e:Expr):Bool:=Nat.beq e.ctorIdx 23
theorem V2 (vs:List Value){i j:Int}(q1:0<=i)(q2:0<=j):kms_pick vs (some i) (some j)=(vs.take j.toNat).drop i.toNat:=by
 unfold kms_pick kms_lo kms_hi
 simp only[if_neg (Int.not_lt.mpr q1),if_neg (Int.not_lt.mpr q2)]
 rw[kmk_drop_min,List.drop_take]
 by_cases hz:i.toNat<=vs.length
 ·by_cases hy:j.toNat<=vs.length
  ·rw[Nat.min_eq_left hy,Nat.min_eq_left hz]
  ·rw[Nat.min_eq_left hz,Nat.min_eq_right (by omega),List.take_of_length_le (by rw[List.length_drop];omega),List.take_of_length_le (by rw[List.length_drop];omega)]
 ·rw[List.drop_of_length_le (by omega)];simp
theorem Hj (hnm:isNm aB=true)(iha:cu C (bf T CF) P A aj L f₀ σ₀ env aB bG)(ihb:cu C (bf T CF) P A aj L f₀ σ₀ env aP bJ)(ihc:cu C (bf T CF) P A aj L f₀ σ₀ env bI bO):
  cu C (bf T CF) P A aj L f₀ σ₀ env (.Subscript aB (.Slice (some aP) (some bI) none np) pos) (.nO bG bJ bO):=λst tmp s Q E R h S k=>
 u9 (iha _ _ _ _ E _ h S λu aR a bF aF S₁=>ihb _ _ _ _ E _ aF S₁ λv bY b dG bk S₂=>ihc _ _ _ _ E _ bk S₂ λw gZ c kO bQ fY=>aQ bQ λi hi bQ=>aQ bQ λj hj bQ=>aQ bQ λr hr bQ=>bnd hr λx hx hr=>fY.un λm σ τ pm om fz X=>by
  revert bQ
  refine X.t1.int_ hi λtb=>X.t0.int_ hj λtc=>X.t2.Ae hx λws ad n g1 g2 g3=>fL hr λhr bQ=>an hr λq1 q2=>?_
  have hlen:=g2.length
  refine wpAny_newObj_type ?_
  refine kmk_slice_lit X.fr X.nw (cR (X.mK g1)) (lo:=some i) (hi:=some j) (.int _ _) (.int _ _) (zs:=(ws.take j.toNat).drop i.toNat) ?_ (λD h' F N hD=>?_) rfl (λr=>by cases aB<;>first|rfl|cases hnm) (szl (hlen▸g3))
  ·rw[kms_pick_eq,List.toList_toArray,V2 _ (of_decide_eq_true q1) (of_decide_eq_true q2)]
  ·exact k _ _ _ _ bQ ((X.newF (t:=gZ.toks) F N hD).d3.push (.v (.lst (.head _) ((g2.cut _ _).mono λq hq=>.tail _ hq) (Nat.le_trans (by rw[List.length_drop,List.length_take];omega) g3)))).st)
end
noncomputable def aa1 (C:Cx) (P:Addr) (aj:Heap) (L:Addr) (f₀:F0) (σ₀:List (Nat×Addr)) (Q:PS) (tmp:List (AV×Value)) (fl:Flow) (s':Shared):Prop:=match fl with
 | .next=>RS C P aj L f₀ σ₀ (Q .next) tmp s'
 | .brk=>RS C P aj L f₀ σ₀ (Q .brk) tmp s'
 | .ret v=>RV C P aj L f₀ σ₀ (λa=>Q (.ret a)) tmp v s'
 |_=>False
noncomputable def vV (C:Cx) (P:Addr) (aj:Heap) (L:Addr) (f₀:F0) (σ₀:List (Nat×Addr)) (Q:PS) (tmp:List (AV×Value)) (R:Flow->Shared->Prop):Prop:=∀fl s,aa1 C P aj L f₀ σ₀ Q tmp fl s->R fl s
noncomputable def uE (C:Cx) (W:List IS->AS->PS->Prop) (P:Addr) (A:Around) (aj:Heap) (L:Addr) (f₀:F0) (σ₀:List (Nat×Addr)) (env:Env) (b:List Stmt) (ib:List IS):Prop:=
 ∀(st:AS) (tmp:List (AV×Value)) (s:Shared) (Q:PS) (E:Value->Shared->Prop) (R:Flow->Shared->Prop),W ib st Q->St C P aj L f₀ σ₀ st tmp s->vV C P aj L f₀ σ₀ Q tmp R->wpAny (model C.prog C.w) A (execs b env) R E s
noncomputable def j6 (C:Cx) (W:IS->AS->PS->Prop) (P:Addr) (A:Around) (aj:Heap) (L:Addr) (f₀:F0) (σ₀:List (Nat×Addr)) (env:Env) (b:Stmt) (ib:IS):Prop:=
 ∀(st:AS) (tmp:List (AV×Value)) (s:Shared) (Q:PS) (E:Value->Shared->Prop) (R:Flow->Shared->Prop),W ib st Q->St C P aj L f₀ σ₀ st tmp s->vV C P aj L f₀ σ₀ Q tmp R->wpAny (model C.prog C.w) A (exec b env) R E s
theorem oE {α:Type}(x y:Nat)(v:α)(l:List (Nat×α)):get y (put x v l)=if x=y then some v else get y l:=by
 have b:∀{a:Nat} {α:Type} {p q:α},(match Nat.beq a y with|true=>p|false=>q)=if a=y then p else q:=λ{a _ _ _}=>by
  cases e:Nat.beq a y with
  |true=>rw[if_pos (Nat.eq_of_beq_eq_true e)]
  |false=>rw[if_neg (Nat.ne_of_beq_eq_false e)]
 induction l with
 |nil=>exact b
 |cons p r ih=>
  unfold put
  cases q:Nat.beq p.1 x with
  |true=>
   show(match Nat.beq p.1 y with|true=>_|false=>_)=if x=y then _ else(match Nat.beq p.1 y with|true=>_|false=>_)
   rw[Nat.eq_of_beq_eq_true q,b,b]
   split<;>rfl
  |false=>
   show(match Nat.beq p.1 y with|true=>some p.2|false=>get y (put x v r))=if x=y then _ else(match Nat.beq p.1 y with|true=>some p.2|false=>get y r)
   rw[ih,b,b]
   split
   ·rename_i e;rw[if_neg λf=>Nat.ne_of_beq_eq_false q (e.trans f.symm)]
   ·rfl
theorem JC {α:Type}{x y:Nat}{v w:α}{l:List (Nat×α)}(h:get y (put x v l)=some w){G:Prop}(k1:x=y->v=w->G)(k2:x≠y->get y l=some w->G):G:=by
 rw[oE]at h
 by_cases q:x=y
 ·rw[if_pos q]at h;exact k1 q (Option.some.inj h)
 ·rw[if_neg q]at h;exact k2 q h
noncomputable def d8 (e:Expr):Bool:= !Nat.beq e.ctorIdx 8&& !Nat.beq e.ctorIdx 9&& !Nat.beq e.ctorIdx 10
theorem cZ {e:Expr}(h:d8 e=true)(t:Option Expr)(n:Nat)(env:Env):swapsWith e t n env=pure false:=by
 cases e<;>first|rfl|exact jJ h
section
variable {e aB aP bI:Expr}{ie bG bJ bO:IE}{pos apos np mH s8:Pos}
theorem Py:uE C (wpS T CF) P A aj L f₀ σ₀ env [] []:=λst tmp s Q E R h S k=>wpAny_execs_nil (k _ _ ⟨st,h,S⟩)
theorem JV {x:Stmt}{ix:IS}{b:List Stmt}{ib:List IS}(h1:j6 C (wp1 T CF) P A aj L f₀ σ₀ env x ix)(h2:uE C (wpS T CF) P A aj L f₀ σ₀ env b ib):uE C (wpS T CF) P A aj L f₀ σ₀ env (x::b) (ix::ib):=λst tmp s Q E R h S k=>
 wpAny_execs_cons (h1 _ _ _ _ E _ h S λfl aR aF=>match fl,aF with
  | .next,⟨_,aF,S₁⟩=>h2 _ _ _ _ E _ aF S₁ k
  | .brk,aF=>k _ _ aF
  | .ret _,aF=>k _ _ aF)
theorem bU.store (Z:Act C A aU base aj outer env L){a:AV}{v:Value}{m:Str->Option Value}{σ τ:List (Nat×Addr)}{pm om fz:List (Addr×Obj)}(X:bU C P aj L f₀ σ₀ st ((a,v)::tmp) s m σ τ pm om fz){x:Nat}{n:Str}(hn:n=C.nm x)(hl:env.kindOf n=some .local)
  {M:Model}{Q:Unit->Shared->Prop}(h:∀h' m',Heap.SameBut L s.heap h'->bU C P aj L f₀ σ₀ (aK st x a) tmp {s with heap:=h',toks:=s.toks+1} m' σ τ pm om fz->Q () {s with heap:=h',toks:=s.toks+1}):wpAny M A (storeName env n v) Q E s:=by
 subst hn
 refine wpAny_storeName_local hl (Z.hL▸X.fr.ns) (λh' hn hs=>?_) (by rw[Z.hk];rfl)
 rw[Z.hL]at hn hs
 refine h _ _ hs ⟨X.fr.set hn hs,X.nw.set hs,X.nd,λy b e=>JC e (λq r=>⟨v,if_pos (congrArg C.nm q.symm),r▸X.t0⟩) λq e=>?_,X.par,X.own,X.d1.tmp,X.gens,X.drawn,X.os,X.ff,X.ss,X.pf⟩
 obtain⟨u,h1,h2⟩:=X.ak y b e
 exact⟨u,(if_neg λk=>q (C.inj _ _ k).symm).trans h1,h2⟩
theorem St.store (Z:Act C A aU base aj outer env L){a:AV}{v:Value}(S:St C P aj L f₀ σ₀ st ((a,v)::tmp) s){x:Nat}{n:Str}(hn:n=C.nm x)(hl:env.kindOf n=some .local)
  {M:Model}{Q:Unit->Shared->Prop}(h:∀s',St C P aj L f₀ σ₀ (aK st x a) tmp s'->Q () s'):wpAny M A (storeName env n v) Q E s:=S.un λm σ τ pm om fz X=>X.store Z hn hl λ_ _ _ X=>h _ X.st
theorem VG (Z:Act C A aU base aj outer env L){x:Nat}{n:Str}(hn:n=C.nm x)(hl:env.kindOf n=some .local)(hc:d8 e=true)(ih:cu C (bf T CF) P A aj L f₀ σ₀ env e ie):
  j6 C (wp1 T CF) P A aj L f₀ σ₀ env (.Assign [.Name n np] e pos) (.asg x ie):=λst tmp s Q E R h S k=>
 wpAny_Assign_Name (ih _ _ _ _ E _ h S λv aR a bF aF S₁=>S₁.store Z hn hl λs' S'=>k _ _ ⟨_,aF,S'⟩) (cZ hc _ _ _)
theorem Vx (Z:Act C A aU base aj outer env L)(hc:d8 e=true)(ih:cu C (bf T CF) P A aj L f₀ σ₀ env e ie):
  j6 C (wp1 T CF) P A aj L f₀ σ₀ env (.Expr e pos) (.exp ie):=λst tmp s Q E R h S k=>by
 rw[exec_Expr env e pos Z.hi (cZ hc _ _ _)]
 exact wpAny_bind (wpAny_standAt (wpAny_bind (ih _ _ _ _ E _ h S λv aR a bF aF S₁=>wpAny_dropValue (k _ _ ⟨_,aF,S₁.pop⟩))))
theorem Z5 {b c:List Stmt}{ib ic:List IS}(iht:xg C (bf T CF) P A aj L f₀ σ₀ env e ie)(ihb:uE C (wpS T CF) P A aj L f₀ σ₀ env b ib)(ihc:uE C (wpS T CF) P A aj L f₀ σ₀ env c ic):
  j6 C (wp1 T CF) P A aj L f₀ σ₀ env (.If e b c pos) (.ite ie ib ic):=λst tmp s Q E R h S k=>
 wpAny_If (iht st tmp s _ E _ h S λc aR bF aF S₁=>onC aF (λh=>ihb _ _ _ _ E _ h S₁ k) λh=>ihc _ _ _ _ E _ h S₁ k)
theorem Vw (ih:cu C (bf T CF) P A aj L f₀ σ₀ env e ie):j6 C (wp1 T CF) P A aj L f₀ σ₀ env (.Return (some e) pos) (.ret ie):=λst tmp s Q E R h S k=>
 wpAny_Return_some (ih _ _ _ _ E _ h S λv aR a bF aF S₁=>k _ _ ⟨_,_,aF,S₁⟩)
theorem PJ:j6 C (wp1 T CF) P A aj L f₀ σ₀ env (.Return none pos) .yc:=λst tmp s Q E R h S k=>wpAny_Return_none (k _ _ ⟨_,_,h,S.eO λ_=>.none⟩)
theorem Vz:j6 C (wp1 T CF) P A aj L f₀ σ₀ env (.Break pos) .brk:=λst tmp s Q E R h S k=>wpAny_Break (k _ _ ⟨_,h,S⟩)
theorem PK:j6 C (wp1 T CF) P A aj L f₀ σ₀ env (.Pass pos) .pass:=λst tmp s Q E R h S k=>wpAny_Pass (k _ _ ⟨_,h,S⟩)
theorem wN (Z:Act C A aU base aj outer env L)(hc:d8 e=true){Q:PS}{R:Flow->Shared->Prop}(h:∀R',KN C P aj L f₀ σ₀ (Q .next) tmp R'->wpAny (model C.prog C.w) A (eval e env) R' E s)(k:vV C P aj L f₀ σ₀ Q tmp R):
  wpAny (model C.prog C.w) A (exec (.Expr e pos) env) R E s:=by
 rw[exec_Expr env e pos Z.hi (cZ hc _ _ _)]
 exact wpAny_bind (wpAny_standAt (wpAny_bind (h _ λaR bF aF S₁=>wpAny_dropValue (k _ _ ⟨_,aF,S₁⟩))))
end
theorem m6.length {P fz σ}{at_ es}(h:m6 C P fz σ at_ es):at_.length=es.length:=by
 induction h with
 |nil=>rfl
 |cons _ _ i=>exact congrArg Nat.succ i
section
variable {e aB aP bI:Expr}{ie bG bJ bO:IE}{pos apos np mH s8:Pos}
theorem LR.narrow {a:AV}{v:Value}(h:LR C P fz σ τ a v)(c:a.noOwn=true):LR C P fz σ [] a v:=by
 cases h with
 |v h=>exact .v h
 |own h=>exact jJ c
 |bN h=>exact .bN h
theorem bU.setAttr (hp0:f₀.p=[])(Z:Act C A aU base aj outer env L)(S:bU C P aj L f₀ σ₀ st tmp s m σ τ pm om fz){a:Nat}{n:Str}{x:AV}{v:Value}{st':AS}(hn:n=C.nm a)(hk:attrOk C.K C.CP n=true)(hx:LR C P fz σ [] x v)(e:setAt st a x=some st')
  {Q:Unit->Shared->Prop}(h:∀h' t nQ,bU C P aj L f₀ σ₀ st' tmp {s with heap:=h',toks:=t} m σ τ nQ om fz->Q () {s with heap:=h',toks:=t}):wpAny (model C.prog C.w) A (PySem.setAttr (.ref P) n v) Q E s:=by
 subst hn
 refine bnd e λp hp e=>jN hp λhs hp=>S.sX hp λpd es k mu q q1 q2 q3=>uq hk λat_ k1 k2 hat k3 k4 k5 k6=>?_
 subst q
 revert h
 refine fL e λhb h=>?_
 have hb:=Nat.le_of_ble_eq_true hb
 have YH:=q1.put (a:=a) (v:=x) (u:=v) (hs:=PyData.keyHash C.w.params (C.nm a)) (t:=s.toks+1) hx
 rw[YH.length]at hb
 have n1:=List.nodup_cons.mp S.nd
 have hne:P≠pd:=λe=>n1.1 (e▸.head _)
 have hrest:∀q ∈ mu++(om++fz),q.1≠pd:=λq hq e=>(List.nodup_cons.mp n1.2).1 (U3 e.symm (List.mem_map_of_mem (f:=(·.1)) hq))
 exact set_dict S.fr Z.X S.nw S.wI rfl k4 k5 k6 k2 (q1.ZP a) rfl (news':=((P,instObj C.CP pd)::(pd,dictOf _ _)::mu)++(om++fz)) (.tail hne (.head hrest)) (Nat.le_trans hb (by decide)) λh' F N=>
  h h' _ ((P,instObj C.CP pd)::(pd,dictOf _ _)::mu) ⟨F,N,S.nd,S.ak,.some YH q2 hb,S.own,S.tmp,S.gens,S.drawn,S.os,S.ff,S.ss,λq h=>absurd (hp0▸h) List.not_mem_nil⟩
theorem St.TJ (hp0:f₀.p=[])(Z:Act C A aU base aj outer env L){x:AV}{v:Value}(S:St C P aj L f₀ σ₀ st ((x,v)::tmp) s){a:Nat}{n na:Str}(hn:n=C.nm 0)(hl:env.kindOf n=some .local)(hd:(n==("__debug__":Str))=false)(ha:na=C.nm a)(hk:attrOk C.K C.CP na=true)
  (ho:x.noOwn=true){Q:AS->Prop}(h:pick (setAt st a x) Q){R:Unit->Shared->Prop}(k:∀s st,Q st->St C P aj L f₀ σ₀ st tmp s->R () s):
  wpAny (model C.prog C.w) A (eval (.Name n np) env) (λu aR=>wpAny (model C.prog C.w) A (PySem.setAttr u na v) R E aR) E s:=
 aQ h λdG aP bk=>bnd aP λp hp _=>jN hp λhs _=>S.un λm σ τ pm om fz X=>by
  subst hn
  exact wpAny_Name (wpAny_loadName_local Z.hk hl (Z.hL▸X.fr.ns) (gH X hs) (X.setAttr hp0 Z ha hk (X.t0.narrow ho) aP λh' t nQ Y=>k _ _ bk Y.d1.st)) hd
theorem Qg (hp0:f₀.p=[])(Z:Act C A aU base aj outer env L){a:Nat}{n na:Str}(hn:n=C.nm 0)(hl:env.kindOf n=some .local)(hd:(n==("__debug__":Str))=false)(ha:na=C.nm a)(hk:attrOk C.K C.CP na=true)(hc:d8 e=true)(ih:cu C (bf T CF) P A aj L f₀ σ₀ env e ie):
  j6 C (wp1 T CF) P A aj L f₀ σ₀ env (.Assign [.Attribute (.Name n np) na apos] e pos) (.bC a ie):=λst tmp s Q E R h S k=>
 plainObj_wpAny_Assign_Attribute (ih _ _ _ _ E _ h S λv aR x bF aF S₁=>gC aF λho aF=>S₁.TJ hp0 Z hn hl hd ha hk ho aF λs st h S=>k _ _ ⟨_,h,S⟩) (cZ hc _ _ _)
end
section
variable {e aB aP bI:Expr}{ie bG bJ bO:IE}{pos apos np mH s8:Pos}
theorem yO {a b r:AV}{u v:Value}(ha:LR C P fz σ τ a u)(hb:LR C P fz σ τ b v){o:Eh}(e:Bs o a b=some r)
  {Q:Value->Shared->Prop}(hQ:∀x t,(∀cY,VR C P cY r x)->Q x {s with toks:=t}):wpAny (model C.prog C.w) A (inplaceOp (R4 o) u v) Q E s:=by
 revert hQ
 cases o with
 |add=>
  refine fV e (λe=>Ao ha hb e λi j t t' e=>sj e λhQ=>PySem.P.iadd_int (hQ _ _ λ_=>.int _ _)) λ_ e=>s2_ ha hb e λx y t t' e=>fL e λhs hQ=>iadd_str (λt' tk=>?_) ?_
  ·rw[sG];exact hQ _ _ λ_=>aam hs _
  ·rw[len_str,len_str];exact Nat.le_trans (Nat.le_of_ble_eq_true hs) (by decide)
 |sub=>exact Ao ha hb e λi j t t' e=>sj e λhQ=>PySem.P.isub_int (hQ _ _ λ_=>.int _ _)
 |mul=>exact Ao ha hb e λi j t t' e=>fL e λhs hQ=>PySem.P.imul_int (hQ _ _ λ_=>.int _ _) (hm:=qy (by have:=iy hs;omega))
 |div=>exact Ao ha hb e λi j t t' e=>fL e λhs hQ=>have:=iy hs;PyProof.Rows.ifloordiv_int (by omega) (hQ _ _ λ_=>.int _ _) (hp:=.inl (PyProof.noPylong_small (by omega)))
 |mod=>exact Ao ha hb e λi j t t' e=>fL e λhs hQ=>have:=iy hs;imod_int (by omega) (hQ _ _ λ_=>.int _ _)
theorem VD (Z:Act C A aU base aj outer env L){x:Nat}{n:Str}(hn:n=C.nm x)(hl:env.kindOf n=some .local){o:Eh}(ih:cu C (bf T CF) P A aj L f₀ σ₀ env e ie):
  j6 C (wp1 T CF) P A aj L f₀ σ₀ env (.AugAssign (.Name n np) (R4 o) e pos) (.aug x o ie):=λst tmp s Q E R h S k=>
 aQ h λa ha h=>S.un λm σ τ pm om fz X=>
  let ⟨u,hu,hr⟩:=X.ak x a ha
  wpAny_AugAssign_Name (wpAny_loadName_local Z.hk hl (Z.hL▸X.fr.ns) (hn▸hu) (ih _ _ _ _ E _ h (X.push hr).st λv aR b bF aF S₁=>aQ aF λr hr aF=>S₁.un λm σ τ pm om fz X=>
   yO X.t1 X.t0 hr λy t hy=>St.store Z (S₁.nJ hy) hn hl λs' S'=>k _ _ ⟨_,aF,S'⟩))
theorem Qc (hp0:f₀.p=[])(Z:Act C A aU base aj outer env L){a:Nat}{n na:Str}(hn:n=C.nm 0)(hl:env.kindOf n=some .local)(hd:(n==("__debug__":Str))=false)(ha:na=C.nm a)(hk:attrOk C.K C.CP na=true){o:Eh}(ih:cu C (bf T CF) P A aj L f₀ σ₀ env e ie):
  j6 C (wp1 T CF) P A aj L f₀ σ₀ env (.AugAssign (.Attribute (.Name n np) na apos) (R4 o) e pos) (.gG a o ie):=λst tmp s Q E R h S k=>
 aQ h λx hx h=>bnd hx λp hp _=>jN hp λhs _=>S.un λm σ τ pm om fz X=>by
  subst hn ha
  exact wpAny_AugAssign_AttributeAny (wpAny_Name (wpAny_loadName_local Z.hk hl (Z.hL▸X.fr.ns) (gH X hs) (Ds Z X hx hk λu g=>ih _ _ _ _ E _ h ((X.toks _).push g.wide).st λv aR b bF aF S₁=>aQ aF λr hr aF=>S₁.un λm σ τ pm om fz Y=>
   yO Y.t1 Y.t0 hr λy t hy=>aQ aF λdG aP bk=>(Y.toks t).setAttr hp0 Z rfl hk (.v (hy fz)) aP λh' t nQ W=>k _ _ ⟨_,bk,W.d2.st⟩)) hd)
end
section
variable {e aB aP bI:Expr}{ie bG bJ bO:IE}{pos apos np mH s8:Pos}
theorem St.dup {a:AV}{v:Value}(S:St C P aj L f₀ σ₀ st ((a,v)::tmp) s):St C P aj L f₀ σ₀ st ((a,v)::(a,v)::tmp) s:=
 S.sub λq hq=>(List.mem_cons.mp hq).elim (λh=>h▸.head _) id
theorem fO {M:Model}(Z:Act C A aU base aj outer env L){a:AV}{v:Value}(S:St C P aj L f₀ σ₀ st ((a,v)::tmp) s){x:Nat}{n:Str}(hn:n=C.nm x)(hl:env.kindOf n=some .local)
  {Q:Unit->Shared->Prop}(h:∀s',St C P aj L f₀ σ₀ (aK st x a) tmp s'->Q () s'):wpAny M A (assign (.Name n np) env v) Q E s:=by
 rw[arm_assign_Name]
 exact wpAny_bind (wpAny_standAt (wpAny_bindName (S.store Z hn hl h)))
theorem Qi (Z:Act C A aU base aj outer env L){x y:Nat}{n n':Str}(hn:n=C.nm x)(hl:env.kindOf n=some .local)(hn':n'=C.nm y)(hl':env.kindOf n'=some .local)(ih:cu C (bf T CF) P A aj L f₀ σ₀ env e ie):
  j6 C (wp1 T CF) P A aj L f₀ σ₀ env (.Assign [.Name n np,.Name n' mH] e pos) (.mR x y ie):=λst tmp s Q E R h S k=>
 wpAny_Assign_two (ih _ _ _ _ E _ h S λv aR a bF aF S₁=>fO Z S₁.dup hn hl λs' S'=>fO Z S' hn' hl' λs'' S''=>k _ _ ⟨_,aF,S''⟩) rfl (by unfold swappedStores;rfl)
theorem Qh (Z:Act C A aU base aj outer env L){x y z:Nat}{n n' n'':Str}(hn:n=C.nm x)(hl:env.kindOf n=some .local)(hn':n'=C.nm y)(hl':env.kindOf n'=some .local)(hn'':n''=C.nm z)(hl'':env.kindOf n''=some .local)(ih:cu C (bf T CF) P A aj L f₀ σ₀ env e ie):
  j6 C (wp1 T CF) P A aj L f₀ σ₀ env (.Assign [.Name n np,.Name n' mH,.Name n'' s8] e pos) (.uV x y z ie):=λst tmp s Q E R h S k=>
 wpAny_Assign_three (ih _ _ _ _ E _ h S λv aR a bF aF S₁=>fO Z S₁.dup.dup hn hl λs' S'=>fO Z S' hn' hl' λs'' S''=>fO Z S'' hn'' hl'' λs3 S3=>k _ _ ⟨_,aF,S3⟩) rfl (by unfold swappedStores;rfl)
end
theorem zU {prog:Program}{w:World}{A:Around}{R:Result->Shared->Prop}{s:Shared}{test:Expr}{body orelse:List Stmt}{env:Env}
  (h:∀E:Value->Shared->Prop,wpAny (model prog w) A (isTrue test env (eval test env)) (λb bY=>
    if b then wpAny (model prog w) A (execs body env) (λf gZ=>match f with
      | .next| .cont=>codeAny (model prog w) A (.whileLoop test body orelse env) R gZ
      | .brk=>R (.ok .next) gZ
      | .ret v=>R (.ok (.ret v)) gZ) E bY
    else wpAny (model prog w) A (execs orelse env) (λf gZ=>R (.ok f) gZ) E bY) E s):
  codeAny (model prog w) A (.whileLoop test body orelse env) R s:=by
 refine codeAny_of_tree ?_
 show wpAny _ A ((whileTurn test body orelse env).onRaise (λx=>do noteFrame x env;theTreesLotGoes x)) _ _ s
 refine wpAny_noted ?_
 simp only[whileTurn]
 refine wpAny_bind (wpAny_mono (h _) (λb bY bk=>?_) λ_ _ h'=>h')
 cases b with
 |false=>
  simp only[Bool.false_eq_true,if_false]at bk⊢
  exact wpAny_bind (wpAny_mono bk (λf gZ bQ=>wpAny_pure bQ) λ_ _ h'=>h')
 |true=>
  simp only[if_true]at bk⊢
  refine wpAny_bind (wpAny_mono bk (λf gZ bQ=>?_) λ_ _ h'=>h')
  cases f with
  |next=>exact wpAny_pure ⟨rfl,bQ⟩
  |cont=>exact wpAny_pure ⟨rfl,bQ⟩
  |brk=>exact wpAny_pure bQ
  |ret v=>exact wpAny_pure bQ
section
variable {e aB aP bI:Expr}{ie bG bJ bO:IE}{pos apos np mH s8:Pos}
theorem JX {b:List Stmt}{ib:List IS}(iht:xg C (bf T CF) P A aj L f₀ σ₀ env e ie)(ihb:uE C (wpS T CF) P A aj L f₀ σ₀ env b ib):
  j6 C (wp1 T CF) P A aj L f₀ σ₀ env (.While e b [] pos) (.whl ie ib):=λst tmp s Q E R h S k=>
 wpAny_While (h (λst=>∀s,St C P aj L f₀ σ₀ st tmp s->codeAny (model C.prog C.w) A (.whileLoop e b [] env) _ s) (λst hst s S=>zU λE'=>iht st tmp s _ E' _ hst S λc aR bF aF S₁=>
  onC aF (λh=>ihb _ _ _ _ E' _ h S₁ λfl bY bk=>match fl,bk with
   | .next,⟨_,bk,S₂⟩=>bk _ S₂
   | .brk,⟨_,bk,S₂⟩=>k .next _ ⟨_,bk,S₂⟩
   | .ret v,⟨_,_,bk,S₂⟩=>k (.ret v) _ ⟨_,_,bk,S₂⟩) λh=>wpAny_execs_nil (k .next _ ⟨_,h,S₁⟩)) s S)
end
theorem sH {j i:Int}{u v:Value}{r:List (Int×Value)}(h:j≠i):stored ((j,u)::r) i v=(j,u)::stored r i v:=by
 unfold stored
 rw[List.any_cons]
 have:decide (j=i)=false:=by simpa using h
 simp only[this,Bool.false_or]
 split
 ·simp[h]
 ·rfl
theorem sI {i:Int}{u v:Value}{r:List (Int×Value)}(h:i ∉ r.map (·.1)):stored ((i,u)::r) i v=(i,v)::r:=by
 unfold stored
 rw[List.any_cons]
 simp only[decide_true,Bool.true_or,if_true,List.map_cons]
 congr 1
 have:∀l:List (Int×Value),i ∉ l.map (·.1)->l.map (λkv=>if kv.1=i then(kv.1,v)else kv)=l:=by
  intro l
  induction l with
  |nil=>intro _;rfl
  |cons p l ih=>
   intro hm
   rw[List.map_cons,List.mem_cons]at hm
   rw[List.map_cons,ih λh=>hm (.inr h),if_neg λe=>hm (.inl e.symm)]
 exact this r h
theorem pF.put {P fz}{i:Int}{a:AV}{v:Value}(hv:VR C P fz a v){xs kvs}(h:pF C P fz xs kvs):(kvs.map (·.1)).Nodup->pF C P fz (mG i a xs) (stored kvs i v):=by
 induction h with
 |nil=>exact λ_=>.cons hv .nil
 |cons h k ih=>
  refine λnd=>?_
  have nd:=List.nodup_cons.mp nd
  unfold mG
  dsimp only
  cases q:decide (_=i)with
  |true=>
   obtain rfl:=of_decide_eq_true q
   rw[sI nd.1];exact .cons hv k
  |false=>rw[sH (of_decide_eq_false q)];exact .cons h (ih nd.2)
section
variable {e aB aP bI:Expr}{ie bG bJ bO:IE}{pos apos np mH s8:Pos}
theorem bU.Z8 (hp0:f₀.p=[])(X:bU C P aj L f₀ σ₀ st tmp s m σ τ pm om fz){a:AV}{d:Addr}{xs ys:List (Int×AV)}{kvs:List (Int×Value)}{h':Heap}{t:Nat}(h:LR C P fz σ τ a (.ref d))(e:Hy st a=some xs)(hD:h'.DictOf (intKind C.prog C.w) d kvs)(hS:Heap.SameBut d s.heap h')
  (hy:pF C P fz ys kvs)(hb:ys.length<=1000){st':AS}(hst:setSlot st (.d ys) a=some st'){G:Prop}(k:St C P aj L f₀ σ₀ st' tmp {s with heap:=h',toks:=t}->G):G:=
 bnd e λc hc _=>
  let ⟨_,ho,hd⟩:=Heap.dictOf_iff.mp hD
  X.upd hp0 h hc hS ho (.d hd hy hb) hst k
theorem Qe (hp0:f₀.p=[])(Z:Act C A aU base aj outer env L){a:Nat}(hc:d8 aB=true)(Vk:cu C (bf T CF) P A aj L f₀ σ₀ env aB bG)(iha:cu C (bf T CF) P A aj L f₀ σ₀ env aP (.bB a))(ihi:cu C (bf T CF) P A aj L f₀ σ₀ env bI bO):
  j6 C (wp1 T CF) P A aj L f₀ σ₀ env (.Assign [.Subscript aP bI apos] aB pos) (.w5 a bO bG):=λst tmp s Q E R h S k=>
 wpAny_Assign_Subscript (Vk _ _ _ _ E _ h S λv aR x bF aF S₁=>iha _ _ _ _ E _ aF S₁ λu bY d dG bk S₂=>ihi _ _ _ _ E _ bk S₂ λw gZ i kO bQ fY=>aQ bQ λxs hx bQ=>aQ bQ λi hi bQ=>gC bQ λhc bQ=>aQ bQ λqj Bf jD=>bnd Bf λl hl Bf=>fY.un λm σ τ pm om fz X=>by
  have hv:=X.t2.clo hc
  have hd:=X.t1
  revert hd Bf
  exact X.t0.int_ hi λt=>X.za X.t1 hx λad o kvs g r q hb _=>fL hl λhl Bf hd=>wpAny_setItem_pairs (intKind_is C.prog C.w i t) (jg g r) (λh' hD hS=>X.d3.Z8 hp0 hd hx hD hS (q.put hv (keysNodup_of_isDictOf r)) (Nat.le_of_ble_eq_true hl) Bf λS=>k _ _ ⟨_,jD,S⟩) (by rw[<-q.length];exact Nat.le_trans hb (by decide))) (cZ hc _ _ _)
end
theorem pF.del {P fz}{i:Int}{xs kvs}(h:pF C P fz xs kvs):(kvs.map (·.1)).Nodup->pF C P fz (Bp i xs) (without kvs i):=by
 induction h with
 |nil=>exact λ_=>.nil
 |cons h k ih=>
  rename_i j a v as es
  refine λnd=>?_
  have nd:=List.nodup_cons.mp nd
  have e:without ((j,v)::es) i=if j=i then without es i else(j,v)::without es i:=by
   unfold without
   rw[List.filter_cons]
   by_cases q:j=i<;>simp[q]
  rw[e]
  unfold Bp
  dsimp only
  cases q:decide (j=i)with
  |true=>
   obtain rfl:=of_decide_eq_true q
   rw[if_pos rfl,without_of_not_mem es j nd.1];exact k
  |false=>rw[if_neg (of_decide_eq_false q)];exact .cons h (ih nd.2)
theorem zc (i:Int)(xs:List (Int×AV)):(Bp i xs).length<=xs.length:=by
 induction xs with
 |nil=>exact Nat.le_refl _
 |cons p r ih=>
  unfold Bp
  cases decide (p.1=i)with
  |true=>exact Nat.le_succ _
  |false=>exact Nat.succ_le_succ ih
section
variable {e aB aP bI:Expr}{ie bG bJ bO:IE}{pos apos np mH s8:Pos}
theorem Vy (hp0:f₀.p=[])(Z:Act C A aU base aj outer env L){a:Nat}(iha:cu C (bf T CF) P A aj L f₀ σ₀ env aP (.bB a))(ihi:cu C (bf T CF) P A aj L f₀ σ₀ env bI bO):
  j6 C (wp1 T CF) P A aj L f₀ σ₀ env (.Delete [.Subscript aP bI apos] pos) (.del a bO):=λst tmp s Q E R h S k=>
 have h:bf T CF (.bB a) st λd st=>bf T CF bO st λi st=>pick (Hy st d) λxs=>pick i.gK λi=>pick (iJ i xs) λ_=>pick (setSlot st (.d (Bp i xs)) d) (Q .next):=h
 wpAny_Delete (wpAny_deleteEach_cons (delete_Subscript (iha _ _ _ _ E _ h S λu bY d dG bk S₂=>ihi _ _ _ _ E _ bk S₂ λw gZ i kO bQ fY=>aQ bQ λxs hx bQ=>aQ bQ λi hi bQ=>aQ bQ λx hq bQ=>aQ bQ λqj Bf jD=>fY.un λm σ τ pm om fz X=>by
  have hd:=X.t1
  revert hd
  exact X.t0.int_ hi λt=>X.za X.t1 hx λad o kvs g r q hb _ hd=>
   have hD:=jg g r
   JF q hq λv hv _=>wpAny_delItem_slot hD.typeIs (by decide) PySem.F.slot_dict_delitem
    (call_meetsIn PySem.F.slot_dict_delitem hD.typeIs PySem.F.entry_dict_delitem (PySem.F.args_dict_delitem_2 _ _) (meets_dict_delitem_pairs (intKind C.prog C.w) ad (intKind_is C.prog C.w i t)) ⟨kvs,hD,(by rw[<-q.length];exact Nat.le_trans hb (by decide)),(by rw[hv];rfl),λh' hmm hS=>
     X.d2.Z8 hp0 hd hx hmm hS (q.del (keysNodup_of_isDictOf r)) (Nat.le_trans (zc i xs) hb) Bf λS=>wpAny_deleteEach_nil (k _ _ ⟨_,jD,S⟩)⟩))))
end
theorem p7.Ax {P fz}{k:Nat}{c σ mu}(h:p7 C P fz c σ mu):get k c=none->get k σ=none:=by
 induction h with
 |nil=>exact λ_=>rfl
 |cons _ _ i=>
  unfold get
  dsimp only
  cases Nat.beq _ k with
  |true=>exact λh=>jk h.symm
  |false=>exact i
theorem pQ {α β:Type}{k j:Nat}{l:List (Nat×α)}{a b:α}(hk:get k l=none)(h:get j l=some b):get j ((k,a)::l)=some b:=by
 unfold get
 dsimp only
 cases q:Nat.beq k j with
 |false=>exact h
 |true=>exact jk ((Nat.eq_of_beq_eq_true q▸hk).symm.trans h)
theorem Dr {α:Type}{k:Nat}{a:α}{l:List (Nat×α)}:get k ((k,a)::l)=some a:=by
 unfold get
 dsimp only
 rw[Nat.beq_refl]
theorem Dt {k:Nat}{st:AS}(h:fresh k st=true):get k st.own=none:=by
 unfold fresh at h
 revert h
 cases get k st.own with
 |some _=>exact λh=>jJ h
 |none=>exact λ_=>rfl
theorem yQ {k:Nat}{st:AS}(h:wL k st=true){G:Prop}(K:∀p,st.par=some p->get k p.sl=none->G):G:=by
 unfold wL at h
 revert h K
 cases st.par with
 |none=>exact λh=>jJ h
 |some p=>
  refine λh K=>K p rfl ?_
  revert h
  show(match get k p.sl with|some _=>false|none=>true)=true->_
  cases get k p.sl with
  |some _=>exact λh=>jJ h
  |none=>exact λ_=>rfl
section
variable {e aB aP bI:Expr}{ie bG bJ bO:IE}{pos apos np mH s8:Pos}
theorem VF {msg:Option Expr}(iht:xg C (bf T CF) P A aj L f₀ σ₀ env e ie):j6 C (wp1 T CF) P A aj L f₀ σ₀ env (.Assert e msg pos) (.ast ie):=λst tmp s Q E R h S k=>
 wpAny_Assert_holds (iht st tmp s _ E _ h S λc aR bF aF S₁=>match c,aF with
  |true,aF=>⟨rfl,k _ _ ⟨_,aF,S₁⟩⟩)
theorem yh {pm om fz:List (Addr×Obj)}{q:Addr×Obj}:(pm++(om++q::fz)).Perm (pm++(q::om++fz)):=List.Perm.append_left _ List.perm_middle
theorem bU.Io (X:bU C P aj L f₀ σ₀ st tmp s m σ τ pm om fz){k:Nat}{vs:List Value}{xs:List AV}(hk:get k st.own=none)(hv:dz C P fz xs vs)(hb:xs.length<=1000):
  St C P aj L f₀ σ₀ {st with own:=(k,.l xs)::st.own} ((.own k,.ref s.heap.objs.size)::tmp) {s with heap:=s.heap.push (listOf vs.toArray 0)}:=by
 have Y:=X.alloc (listOf vs.toArray 0)
 have hn:=X.own.Ax hk
 have hs:∀{c:AV} {v:Value},LR C P fz σ τ c v->LR C P fz σ ((k,s.heap.objs.size)::τ) c v:=λh=>LR.casesOn h (λh=>.v h) (λh=>.own (pQ (β:=Nat) hn h)) (λh=>.bN h)
 refine⟨m,σ,(k,s.heap.objs.size)::τ,pm,(s.heap.objs.size,listOf vs.toArray 0)::om,fz,Y.fr,λq hq=>Y.nw q (yh.mem_iff.mpr hq),((yh.map _).nodup_iff).mp Y.nd,λy b e=>?_,X.par,.cons (.l hv hb) X.own,λq hq=>?_,X.gens,X.drawn,X.os,X.ff,X.ss,X.pf⟩
 ·obtain⟨v,h1,h2⟩:=X.ak y b e
  exact⟨v,h1,hs h2⟩
 ·exact(List.mem_cons.mp hq).elim (λe=>e▸.own Dr) λhq=>hs (X.tmp q hq)
theorem PN (Z:Act C A aU base aj outer env L){x k:Nat}{n:Str}(hn:n=C.nm x)(hl:env.kindOf n=some .local):
  j6 C (wp1 T CF) P A aj L f₀ σ₀ env (.Assign [.Name n np] (.List [] mH) pos) (.j7 x k):=λst tmp s Q E R h S K=>
 wpAny_Assign_Name (wpAny_List (wpAny_items_nil ⟨Nat.zero_le _,S.un λm σ τ pm om fz X=>(X.Io (vs:=[]) (Dt (jB h)) .nil (Nat.zero_le _)).store Z hn hl λs' S'=>K _ _ ⟨_,mV h,S'⟩⟩)) (cZ rfl _ _ _)
end
section
variable {e aB aP bI:Expr}{ie bG bJ bO:IE}{pos apos np mH s8:Pos}
theorem Vv {b:List Stmt}{ib:List IS}{hd:ExceptHandler}{hs:List ExceptHandler}(ihb:uE C (wpS T CF) P A aj L f₀ σ₀ env b ib):j6 C (wp1 T CF) P A aj L f₀ σ₀ env (.Try b (hd::hs) [] [] pos) (.try_ ib):=λst tmp s Q E R h S k=>
 wpAny_Try_except (ihb _ _ _ _ _ _ h S λfl aR aF=>match fl,aF with
  | .next,aF=>wpAny_execs_nil (k _ _ aF)
  | .brk,aF=>k _ _ aF
  | .ret _,aF=>k _ _ aF)
theorem yg {a b q:Addr×Obj}{mu om fz:List (Addr×Obj)}:((a::b::mu)++(om++q::fz)).Perm ((a::b::q::mu)++(om++fz)):=
 .cons _ (.cons _ ((List.Perm.append_left _ List.perm_middle).trans List.perm_middle))
theorem bU.newSlot (hp0:f₀.p=[])(X:bU C P aj L f₀ σ₀ st tmp s m σ τ pm om fz){k:Nat}{c:Cont}{o:Obj}{p:cF}(hp:st.par=some p)(hk:get k p.sl=none)(ho:o.isFreed=false)(hc:cW C P fz s.heap.objs.size c o):
  St C P aj L f₀ σ₀ {st with par:=some {p with sl:=(k,c)::p.sl}} ((.bN k,.ref s.heap.objs.size)::tmp) {s with heap:=s.heap.push o}:=X.sX hp λpd es n mu q h1 h2 h3=>by
 subst q
 have Y:=X.alloc o ho
 have hn:=h2.Ax hk
 have hs:∀{Xz:List (Nat×Addr)} {c:AV} {v:Value},LR C P fz σ Xz c v->LR C P fz ((k,s.heap.objs.size)::σ) Xz c v:=λh=>LR.casesOn h (λh=>.v h) (λh=>.own h) (λh=>.bN (pQ (β:=Nat) hn h))
 have hl:∀{at_ es},m6 C P fz σ at_ es->m6 C P fz ((k,s.heap.objs.size)::σ) at_ es:=λ{at_ es} h=>by
  induction h with
  |nil=>exact .nil
  |cons h _ ih=>exact .cons (hs h) ih
 refine⟨m,(k,s.heap.objs.size)::σ,τ,(P,instObj C.CP pd)::(pd,dictOf es n)::(s.heap.objs.size,o)::mu,om,fz,Y.fr,λq hq=>Y.nw q (yg.mem_iff.mpr hq),((yg.map _).nodup_iff).mp Y.nd,λy b e=>?_,.some (hl h1) (.cons hc h2) h3,X.own,λq hq=>?_,X.gens,X.drawn,X.os,X.ff,λj a e=>pQ (β:=Nat) hn (X.ss j a e),λq h=>absurd (hp0▸h) List.not_mem_nil⟩
 ·obtain⟨v,h1,h2⟩:=X.ak y b e
  exact⟨v,h1,hs h2⟩
 ·exact(List.mem_cons.mp hq).elim (λe=>e▸.bN Dr) λhq=>hs (X.tmp q hq)
theorem J0 (hp0:f₀.p=[])(Z:Act C A aU base aj outer env L){a k:Nat}{n na:Str}(hn:n=C.nm 0)(hl:env.kindOf n=some .local)(hd:(n==("__debug__":Str))=false)(ha:na=C.nm a)(hk:attrOk C.K C.CP na=true):
  j6 C (wp1 T CF) P A aj L f₀ σ₀ env (.Assign [.Attribute (.Name n np) na apos] (.List [] mH) pos) (.jf a k):=λst tmp s Q E R h S K=>
 yQ (jB h) λp hp hg=>S.un λm σ τ pm om fz X=>plainObj_wpAny_Assign_Attribute (wpAny_List (wpAny_items_nil ⟨Nat.zero_le _,
  (X.newSlot hp0 hp hg (o:=listOf ([]:List Value).toArray 0) rfl (.l .nil (Nat.zero_le _))).TJ hp0 Z hn hl hd ha hk rfl (hp▸mV h:) λs st h S=>K _ _ ⟨_,h,S⟩⟩)) (cZ rfl _ _ _)
theorem J1 (hp0:f₀.p=[])(Z:Act C A aU base aj outer env L){a k:Nat}{n na:Str}(hn:n=C.nm 0)(hl:env.kindOf n=some .local)(hd:(n==("__debug__":Str))=false)(ha:na=C.nm a)(hk:attrOk C.K C.CP na=true):
  j6 C (wp1 T CF) P A aj L f₀ σ₀ env (.Assign [.Attribute (.Name n np) na apos] (.Dict [] [] mH) pos) (.jZ a k):=λst tmp s Q E R h S K=>
 yQ (jB h) λp hp hg=>S.un λm σ τ pm om fz X=>plainObj_wpAny_Assign_Attribute (wpAny_Dict_empty
  ((X.newSlot hp0 hp hg (o:=emptyDict) rfl (.d (kvs:=[]) (by
    obtain⟨o,ho,hd⟩:=Heap.dictOf_iff.mp (Heap.DictOf.new (knd:=intKind C.prog C.w) s.heap)
    rw[Heap.get?_push_size _ rfl]at ho
    cases ho
    exact hd) .nil (Nat.zero_le _))).TJ hp0 Z hn hl hd ha hk rfl (hp▸mV h:) λs st h S=>K _ _ ⟨_,h,S⟩)) (cZ rfl _ _ _)
end

section
variable {e aB aP bI:Expr}{ie bG bJ bO:IE}{pos apos np mH s8:Pos}
theorem Er (Z:Act C A aU base aj outer env L)(hn:nsIn C.K mainGlobals "isinstance"=some none)(hk:env.kindOf "isinstance"=some .globalImplicit)(hn':nsIn C.K mainGlobals "str"=some none)(hk':env.kindOf "str"=some .globalImplicit)(ha:notStar e=true)(ih:cu C (bf T CF) P A aj L f₀ σ₀ env e ie):
  cu C (bf T CF) P A aj L f₀ σ₀ env (.Call (.Name "isinstance" np) [e,.Name "str" mH] [] pos) (.vH ie):=λst tmp s Q E R h S k=>
 S.un λm σ τ pm om fz X=>wU (id:="isinstance") Z X.fr hn (by decide+kernel) (by decide) hk (by decide) (all2 ha rfl) (Bm ha rfl (ih _ _ _ _ E _ h S λv aR a bF aF S₁=>aQ aF λx hx aF=>S₁.un λm σ τ pm om fz X=>
  jU (v:=.type "str") Z X.fr hn' (by decide+kernel) (by decide) hk' (by decide) (X.t0.str_ hx λt hb=>IsiPair.str_str (k _ _ _ _ aF ((S₁.pop.toks aR.toks).eO λfz=>.bool _)))))
end
theorem Rh {a b c:List (Addr×Obj)}:(a++(b++c)).Perm (b++(a++c)):=by
 rw[<-List.append_assoc,<-List.append_assoc]
 exact List.Perm.append_right _ List.perm_append_comm
theorem bU.enter (X:bU C P aj L f₀ σ₀ st tmp s m σ τ pm om fz){g aF:Heap}{L':Addr}{m':Str->Option Value}{t:Nat}{ak:List (Nat×AV)}(F:Fr g L' aF m')(N:News g L' aF (pm++fz))
  (hl:∀x a,get x ak=some a->∃v,m' (C.nm x)=some v/\VR C P fz a v):bU C P g L' ⟨fz,[]⟩ σ ⟨st.par,ak,[]⟩ [] {s with heap:=aF,toks:=t} m' σ [] pm [] fz:=by
 refine⟨F,N,?_,λx a e=>?_,X.par,.nil,(λq hq=>nomatch hq),X.gens,X.drawn,X.os,λ_ h=>h,λ_ _ h=>h,λ_ h=>nomatch h⟩
 ·have nd:=X.nd
  simp only[List.map_append,List.nil_append]at nd⊢
  refine nd.sublist ?_
  exact List.Sublist.append (List.Sublist.refl _) (List.sublist_append_right _ _)
 ·obtain⟨v,h1,h2⟩:=hl x a e
  exact⟨v,h1,.v h2⟩
theorem bU.leave (hp0:f₀.p=[])(X:bU C P aj L f₀ σ₀ st tmp s m σ τ pm om fz){g:Heap}{L':Addr}{s':Shared}{st':AS}{uH:List (AV×Value)}{m':Str->Option Value}{σ' Xz:List (Nat×Addr)}{nQ sY cY:List (Addr×Obj)}
  (Y:bU C P g L' ⟨fz,[]⟩ σ st' uH s' m' σ' Xz nQ sY cY)(ho:∀q ∈ om,g.get? q.1=some q.2)(F:Fr aj L s'.heap m)(N:News aj L s'.heap (nQ++(sY++cY))){r:AV}{v:Value}(hr:VR C P (sY++cY) r v):
  bU C P aj L f₀ σ₀ {st with par:=st'.par} ((r,v)::tmp) s' m σ' τ nQ om (sY++cY):=by
 have hs:∀q ∈ fz,q ∈ sY++cY:=λq hq=>List.mem_append_right _ (Y.ff q hq)
 have hs':∀q ∈ cY,q ∈ sY++cY:=λq hq=>List.mem_append_right _ hq
 have lr:∀{a v},LR C P fz σ τ a v->LR C P (sY++cY) σ' τ a v:=λh=>LR.casesOn h (λh=>.v (h.mono hs)) (λh=>.own h) (λh=>.bN (Y.ss _ _ h))
 refine⟨F,λq hq=>?_,?_,λx a e=>?_,Y.par.mono hs',X.own.mono hs,λq hq=>?_,Y.gens,Y.drawn,Y.os,λq hq=>hs q (X.ff q hq),λk a e=>Y.ss k a (X.ss k a e),λq h=>absurd (hp0▸h) List.not_mem_nil⟩
 ·rcases List.mem_append.mp hq with h|h
  ·exact N q (List.mem_append_left _ h)
  ·rcases List.mem_append.mp h with h|h
   ·have z:=X.nw q (List.mem_append_right _ (List.mem_append_left _ h))
    exact⟨Y.fr.keep _ _ (ho q h),z.2.1,z.2.2⟩
   ·exact N q (List.mem_append_right _ h)
 ·refine(Rh.map _).nodup_iff.mpr ?_
  rw[List.map_append]
  refine List.nodup_append.mpr ⟨tC (yq X.nd),Y.nd,λa ha b hb e=>?_⟩
  obtain⟨q,hq,rfl⟩:=List.mem_map.mp ha
  obtain⟨p,hp,rfl⟩:=List.mem_map.mp hb
  exact jk (((Y.nw p hp).2.2).symm.trans (e▸ho q hq))
 ·obtain⟨v,h1,h2⟩:=X.ak x a e
  exact⟨v,h1,lr h2⟩
 ·rcases List.mem_cons.mp hq with rfl|hq
  ·exact .v hr
  ·exact lr (X.tmp q hq)
theorem VR.ret {a v}(h:VR C P fz a v):Mine.uJ st a=some a:=by cases h<;>rfl
theorem bU.uJ (Y:bU C P aj L f₀ σ₀ st tmp s m σ τ pm om fz){a r:AV}{v:Value}(h:LR C P fz σ τ a v)(e:Mine.uJ st a=some r):VR C P (om++fz) r v:=by
 cases h with
 |v h=>exact Option.some.inj (h.ret.symm.trans e)▸h.mono λq hq=>List.mem_append_right _ hq
 |own h=>
  refine Ad e λxs hx e=>bnd hx λc hc hx=>Y.own.at_ hc λb o h1 h2 h3=>?_
  obtain rfl:=Option.some.inj (h1.symm.trans h)
  revert h2
  exact e▸(Cont.Rr hx▸h3:cW C P fz b (.l xs) o).l_ (R:=λo=>(b,o) ∈ om->VR C P (om++fz) (.lst xs) (.ref b)) λvs n h4 h5 h2=>.lst (List.mem_append_left _ h2) (h4.mono λq hq=>List.mem_append_right _ hq) h5
 |bN h=>exact jk e
section
variable {prog:Program}{w:World}{aU A:Around}{s:Shared}{base aj:Heap}{outer:List Env}{L:Addr}{m:Str->Option Value}{env:Env}{news:List (Addr×Obj)}
 {R:Result->Shared->Prop}{name qual:Str}{params:Arguments}{body:List Stmt}{scope:Scope}{cl:List (Str×Addr)}{dV kV doc pm cdv ct:Value}{an:Option Addr}{fo:Obj}{f:Addr}{args:Args}{binds:List (Str×Value)}
theorem RZ (B:Below aU base outer aj)(F:Fr aj L s.heap m)(N:News aj L s.heap news)(hlim:aj.NoLimit)(hA:A.frames=some (env::outer))(hf:env.frame=some L)(hke:env.scope.kind= .function)
  (ho:s.heap.get? f=some fo)(hd:fo.data= .func (fnX name qual params body scope cl dV kV doc pm an cdv ct))(hcd:s.heap.CodeRec cdv qual)(hroom:A.depth<recursionLimit)
  (hbind:BindsTo s (fnX name qual params body scope cl dV kV doc pm an cdv ct) args binds)(hloc:∀y ∈ binds,scope.names.lookup y.1=some .local)
  (h:∀L' aF,Fr aj L (hideAll s.heap (news.map (·.1))) m->Fr (hideAll s.heap (news.map (·.1))) L' aF (λy=>binds.reverse.lookup y)->News (hideAll s.heap (news.map (·.1))) L' aF news->Below A base (env::outer) (hideAll s.heap (news.map (·.1)))->aj.StaysIn (hideAll s.heap (news.map (·.1)))->
   ∀E:Value->Shared->Prop,_root_.PySem.wpAt (model prog w) (A.deeper (envX qual scope L' f cdv cl)) (.func body (envX qual scope L' f cdv cl)) (execs body (envX qual scope L' f cdv cl))
    (λfl s'=>LeaveK aj L m (hideAll s.heap (news.map (·.1))) R (match fl with| .ret v=>v|_=>.none) s') E
    {s with heap:=aF,toks:=s.toks+binds.length})
  (hcell:∀x ∈ scope.names,x.2≠.cell)(hco:scope.isCoroutine=false)(hgen:scope.isGenerator=false)(hk:scope.kind= .function):codeAny (model prog w) A (.call (.ref f) args) R s:=by
 obtain⟨FG,BG,st,lv⟩:=groundX (R:=R) B F N hA hf hke
 refine ks_codeAny_call_defAt (fd:=fnX name qual params body scope cl dV kV doc pm an cdv ct) (body:=body) (binds:=binds) hroom ho hd (hlim.keeps F.keep) hcd rfl hbind hcell hloc (λaF hns vJ=>?_) hco hgen hk
 exact ks_wpAt_mono (h s.heap.objs.size aF FG ⟨hns,λb o e=>vJ b o (of_hideAll _ e),Nat.le_of_eq (hideAll_size _ _)⟩
  (λp hp=>⟨vJ _ _ (N p hp).1,Nat.ne_of_lt (Heap.lt_size (N p hp).1),hideAll_none _ (List.mem_map_of_mem hp)⟩) BG st _) (λfl s' hl=>lv _ _ hl) λ_ _ y=>y
end
theorem pR {α β:Type}{f:α->β->Sem (ForInStep β)}(I:List α->β->Prop)(g:β->α->β)(h:∀x r b,I (x::r) b->f x b=pure (.yield (g b x))/\I r (g b x)):∀(l:List α) (b:β),I l b->forIn l b f=pure (l.foldl g b)
 |[],b,_=>by rw[List.forIn_nil];rfl
 |x::l,b,hI=>by
  obtain⟨h1,h2⟩:=h x l b hI
  rw[List.forIn_cons,h1,pure_bind]
  exact pR I g h l _ h2
noncomputable def kwS (ps:List Str):List (Str×Value)->List (Str×Value)->Prop
 |_,[]=>True
 |sl,k::r=>ps.contains k.1=true/\(sl.lookup k.1).isSome=false/\kwS ps (sl++[(k.1,k.2)]) r
noncomputable def Bw (b:List (Str×Value)) (x:Str×Value):List (Str×Value):=if(b.lookup x.1).isNone=true then b++[(x.1,x.2)]else b
theorem fold_pair (ks:List (Str×Value)):∀(b:List (Str×Value)),ks.foldl (λ(b:List (Str×Value)×List (Str×Value)) x=>(b.1++[(x.1,x.2)],b.2)) (b,[])=(b++ks,[]):=by
 induction ks with
 |nil=>intro b;simp
 |cons k r ih=>intro b;rw[List.foldl_cons,ih];simp
theorem Kr {fd:FuncData}{as:List Arg}{us:List Value}{ks:List (Str×Value)}{items:Option (Array Value)}{M:Model}{A:Around}{E:Value->Shared->Prop}{s:Shared}{Q:List (Str×Value)->Shared->Prop}
 (h1:fd.params.posonlyargs=[])(h2:fd.params.args=as)(h3:fd.params.kwonlyargs=[])(h4:fd.params.vararg=none)(h5:fd.params.kwarg=none)
 (hd:∀{R:Option (Array Value)->Shared->Prop},R items s->wpAny M A (seqItems? fd.defaults) R E s)
 (hk:kwS (as.map (·.arg)) ((as.map (·.arg)).zip us) ks)(hg:us.length<=as.length)(hl:(items.getD #[]).toList.length<=as.length)
 (hm:((as.map (·.arg)).take (as.length - (items.getD #[]).toList.length)).filter (λn=>(List.lookup n ((as.map (·.arg)).zip us++ks)).isNone)=[])
 (hQ:Q ((as.map (·.arg)).filterMap λn=>(List.lookup n ((((as.map (·.arg)).drop (as.length - (items.getD #[]).toList.length)).zip (items.getD #[]).toList).foldl Bw ((as.map (·.arg)).zip us++ks))).map (n, ·)) s):
 wpAny M A (bindArgs fd ⟨us,ks⟩) Q E s:=by
 unfold bindArgs
 simp only[h1,h2,h3,h4,h5,List.map_nil,List.nil_append,List.append_nil]
 rw[pR (I:=λr b=>kwS (as.map (·.arg)) b.1 r/\b.2=[]) (g:=λb x=>(b.1++[(x.1,x.2)],b.2)) (h:=?_) (l:=ks) (b:=_) ⟨hk,rfl⟩]
 ·rw[fold_pair,pure_bind]
  refine wpAny_bind (hd ?_)
  have e1:¬(us.length>(as.map (·.arg)).length):=by rw[List.length_map];omega
  have e2:(items.getD #[]).toList.drop ((items.getD #[]).toList.length - as.length)=(items.getD #[]).toList:=by
   rw[Nat.sub_eq_zero_of_le hl];rfl
  rw[List.length_map]at e1
  simp only[List.length_map,e1,decide_false,Bool.false_and,Bool.false_eq_true,if_false,e2,List.length_map,hm,List.isEmpty_nil,Bool.not_true]
  rw[pR (I:=λ_ _=>True) (g:=Bw) (h:=?_) (l:=_) (b:=_) trivial]
  ·simp only[pure_bind,List.forIn_nil,List.isEmpty_nil,Bool.not_true,Bool.false_eq_true,if_false]
   exact wpAny_pure hQ
  ·intro x r b _
   refine⟨?_,trivial⟩
   unfold Bw
   split<;>rfl
 ·rintro x r ⟨b1,b2⟩ ⟨⟨k1,k2,k3⟩,rfl⟩
  dsimp only at k1 k2 k3⊢
  refine⟨?_,k3,rfl⟩
  simp only[k1,k2,Bool.true_or,if_true,Bool.false_eq_true,if_false]
inductive KR {α β:Type}(R:α->β->Prop):List (Nat×α)->List (Nat×β)->Prop
 |nil:KR R [] []
 |cons {k a b as bs}:R a b->KR R as bs->KR R ((k,a)::as) ((k,b)::bs)
theorem lQ {α:Type}{sl l:List (Nat×α)}{p:Nat}{r:List Nat}(h:eY sl (p::r)=some l){G:Prop}(k:∀v l',get p sl=some v->eY sl r=some l'->(p,v)::l'=l->G):G:=by
 unfold eY at h
 revert h k
 cases get p sl with
 |none=>exact λ_ h=>jk h
 |some v=>cases eY sl r with
  |none=>exact λ_ h=>jk h
  |some l'=>exact λk h=>k v l' rfl rfl (Option.some.inj h)
theorem rQ {α:Type}{ps:List Nat}{ds as:List α}{ks b:List (Nat×α)}(h:binds ps ds as ks=some b){G:Prop}(k:(Nat.ble as.length ps.length&&kwOk ps (ps.take as.length) (ks.map (·.1))&&Nat.ble ds.length ps.length)=true->eY (dZ (ps.zip as++ks) ((ps.drop (ps.length - ds.length)).zip ds)) ps=some b->G):G:=
 bnd h λ_ h1 h2=>k (tV h1) h2
section
variable {α β:Type}{R:α->β->Prop}
theorem KR.append {a b c d}(h:KR R a b)(h':KR R c d):KR R (a++c) (b++d):=by
 induction h with
 |nil=>exact h'
 |cons h _ ih=>exact .cons h ih
theorem KR.get_ {x:Nat}{a b}(h:KR R a b){M:Option α->Option β->Prop}(h0:M none none)(h1:∀v u,R v u->M (some v) (some u)):M (get x a) (get x b):=by
 induction h with
 |nil=>exact h0
 |cons h r ih=>
  unfold Mine.get
  dsimp only
  cases Nat.beq _ x with
  |true=>exact h1 _ _ h
  |false=>exact ih
theorem KR.ZL {x:Nat}{a b v}(h:KR R a b)(e:get x a=some v){G:Prop}(k:∀u,get x b=some u->R v u->G):G:=
 h.get_ (x:=x) (M:=λo o'=>o=some v->get x b=o'->G) (λe=>jk e) (λw u r e f=>k u f (Option.some.inj e▸r)) e rfl
theorem KR.names {a b}(h:KR R a b):a.map (·.1)=b.map (·.1):=by
 induction h with
 |nil=>rfl
 |cons _ _ ih=>exact congrArg (List.cons _) ih
theorem fZ.length {a:List α}{b:List β}(h:fZ R a b):a.length=b.length:=by
 induction h with
 |nil=>rfl
 |cons _ _ ih=>exact congrArg Nat.succ ih
theorem fZ.zip {a:List α}{b:List β}(h:fZ R a b):∀ps:List Nat,KR R (ps.zip a) (ps.zip b):=by
 induction h with
 |nil=>exact λps=>by rw[List.zip_nil_right,List.zip_nil_right];exact .nil
 |cons h _ ih=>exact λps=>match ps with
  |[]=>.nil
  |_::ps=>.cons h (ih ps)
theorem KR.dZ {ds:List (Nat×α)}{es:List (Nat×β)}(h:KR R ds es):∀{a b},KR R a b->KR R (dZ a ds) (dZ b es):=by
 induction h with
 |nil=>exact λh=>h
 |cons hd rd ih=>exact λh=>h.get_ (M:=λo o'=>KR R (match o with|some _=>Mine.dZ _ _|none=>Mine.dZ (_++[_]) _) (match o' with|some _=>Mine.dZ _ _|none=>Mine.dZ (_++[_]) _)) (ih (h.append (.cons hd .nil))) λ_ _ _=>ih h
theorem KR.eY {a:List (Nat×α)}{b:List (Nat×β)}(h:KR R a b):∀{ps:List Nat} {l:List (Nat×α)},eY a ps=some l->∃r,eY b ps=some r/\KR R l r
 |[],l,e=>⟨[],rfl,Option.some.inj e▸.nil⟩
 |p::ps,l,e=>lQ e λv l' e1 e2 e3=>h.ZL e1 λu hu hr=>
  let ⟨r',h1,h2⟩:=h.eY e2
  ⟨(p,u)::r',by unfold Mine.eY;rw[hu,h1],e3▸.cons hr h2⟩
theorem vO {ps:List Nat}{ds as:List α}{es us:List β}{ks:List (Nat×α)}{Di:List (Nat×β)}{b:List (Nat×α)}(hd:fZ R ds es)(ha:fZ R as us)(hk:KR R ks Di)(e:binds ps ds as ks=some b):
  ∃bu,binds ps es us Di=some bu/\KR R b bu:=rQ e λc e=>by
 unfold binds
 rw[<-ha.length,<-hd.length,<-hk.names,c]
 exact(((hd.zip _).dZ ((ha.zip _).append hk)).eY e)
end
noncomputable def lu (C:Cx) (l:List (Nat×Value)):List (Str×Value):=l.map λp=>(C.nm p.1,p.2)
theorem lW (x:Nat)(l:List (Nat×Value)):(lu C l).lookup (C.nm x)=get x l:=by
 induction l with
 |nil=>rfl
 |cons p r ih=>
  show(match C.nm x==C.nm p.1 with|true=>_|false=>(lu C r).lookup (C.nm x))=match Nat.beq p.1 x with|true=>_|false=>get x r
  rw[ih,Ac,show Nat.beq x p.1=Nat.beq p.1 x from Bool.eq_iff_iff.mpr (by rw[Nat.beq_eq,Nat.beq_eq,eq_comm])]
theorem jQ (a b:List (Nat×Value)):lu C (a++b)=lu C a++lu C b:=List.map_append
theorem rJ:∀(ps:List Nat) (us:List Value),lu C (ps.zip us)=(ps.map C.nm).zip us
 |[],_=>by simp[lu]
 |_::_,[]=>by simp[lu]
 |p::ps,u::us=>by
  show(C.nm p,u)::lu C (ps.zip us)=_
  rw[rJ ps us];rfl
theorem Gf (ds:List (Nat×Value)):∀sl,lu C (dZ sl ds)=(lu C ds).foldl Bw (lu C sl):=by
 induction ds with
 |nil=>exact λ_=>rfl
 |cons d r ih=>
  refine λsl=>?_
  unfold dZ
  show _=(lu C r).foldl Bw (Bw (lu C sl) (C.nm d.1,d.2))
  unfold Bw
  rw[lW]
  cases get d.1 sl with
  |some v=>exact ih sl
  |none=>exact(ih _).trans (by rw[jQ];rfl)
theorem vQ (sl:List (Nat×Value)):∀(ps:List Nat) (b:List (Nat×Value)),eY sl ps=some b->((ps.map C.nm).filterMap λn=>((lu C sl).lookup n).map (n, ·))=lu C b
 |[],b,e=>Option.some.inj e▸rfl
 |p::ps,b,e=>lQ e λv l e1 e2 e3=>by
  rw[List.map_cons,List.filterMap_cons,lW,e1,<-e3]
  exact congrArg (List.cons _) (vQ sl ps l e2)
theorem wK {α:Type}(x:Nat)(a b:List (Nat×α)):get x (a++b)=match get x a with|some v=>some v|none=>get x b:=by
 induction a with
 |nil=>rfl
 |cons p a ih=>
  show(match Nat.beq p.1 x with|true=>_|false=>get x (a++b))=match(match Nat.beq p.1 x with|true=>_|false=>get x a)with|some v=>some v|none=>get x b
  rw[ih]
  cases Nat.beq p.1 x<;>rfl
theorem any_beq (k:Nat)(l:List Nat):l.any (Nat.beq k ·)=true↔k ∈ l:=by
 rw[List.any_eq_true]
 constructor
 ·rintro⟨x,hx,e⟩;rw[Nat.eq_of_beq_eq_true e];exact hx
 ·intro h;exact⟨k,h,Nat.beq_refl k⟩
theorem I8 (ps:List Nat):∀(ks sl:List (Nat×Value)) (pos:List Nat),kwOk ps pos (ks.map (·.1))=true->(∀x,(get x sl).isSome=true->x ∈ pos)->kwS (ps.map C.nm) (lu C sl) (lu C ks)
 |[],_,_,_,_=>trivial
 |k::ks,sl,pos,h,hs=>by
  rw[List.map_cons]at h
  unfold kwOk at h
  simp only[Bool.and_eq_true,Bool.not_eq_true']at h
  obtain⟨⟨h1,h2⟩,h3⟩:=h
  refine⟨?_,?_,?_⟩
  ·show(ps.map C.nm).contains (C.nm k.1)=true
   rw[List.contains_iff_mem]
   exact List.mem_map_of_mem ((any_beq _ _).mp h1)
  ·show((lu C sl).lookup (C.nm k.1)).isSome=false
   rw[lW]
   cases e:(get k.1 sl).isSome with
   |false=>rfl
   |true=>
    have:=(any_beq _ _).mpr (hs _ e)
    rw[h2]at this;cases this
  ·have:=I8 ps ks (sl++[(k.1,k.2)]) (k.1::pos) h3 λx hx=>?_
   ·rw[jQ]at this;exact this
   ·rw[wK]at hx
    cases e:get x sl with
    |some v=>exact .tail _ (hs x (by rw[e];rfl))
    |none=>
     rw[e]at hx
     unfold get at hx
     dsimp only at hx
     cases q:Nat.beq k.1 x with
     |true=>rw[Nat.eq_of_beq_eq_true q];exact .head _
     |false=>rw[q]at hx;cases hx
theorem qF (x:Nat):∀(ps:List Nat) (us:List Value),(get x (ps.zip us)).isSome=true->x ∈ ps.take us.length
 |[],_,h=>by simp[get]at h
 |_::_,[],h=>by simp[get]at h
 |p::ps,u::us,h=>by
  rw[List.zip_cons_cons]at h
  unfold get at h
  dsimp only at h
  rw[List.length_cons,List.take_succ_cons]
  cases q:Nat.beq p x with
  |true=>rw[Nat.eq_of_beq_eq_true q];exact .head _
  |false=>rw[q]at h;exact .tail _ (qF x ps us h)
theorem Aw (x:Nat)(ds:List (Nat×Value)):∀sl:List (Nat×Value),x ∉ ds.map (·.1)->get x (dZ sl ds)=get x sl:=by
 induction ds with
 |nil=>exact λ_ _=>rfl
 |cons d r ih=>
  refine λsl h=>?_
  unfold dZ
  cases get d.1 sl with
  |some v=>exact ih sl λk=>h (.tail _ k)
  |none=>
   refine(ih _ λk=>h (.tail _ k)).trans ?_
   rw[wK]
   cases get x sl with
   |some v=>rfl
   |none=>
    show(match Nat.beq d.1 x with|true=>_|false=>_)=_
    cases e:Nat.beq d.1 x with
    |true=>exact(h (Nat.eq_of_beq_eq_true e▸.head _)).elim
    |false=>rfl
theorem qJ (sl:List (Nat×Value)):∀(ps:List Nat) (b:List (Nat×Value)),eY sl ps=some b->∀x ∈ ps,(get x sl).isSome=true
 |[],_,_,_,hx=>nomatch hx
 |p::ps,b,e,x,hx=>lQ e λv l e1 e2 _=>(List.mem_cons.mp hx).elim (λh=>by rw[h,e1];rfl) λhx=>qJ sl ps l e2 x hx
theorem Lk (ps:List Nat)(vs:List Value):∀x,x ∈ (ps.zip vs).map (·.1)->x ∈ ps:=by
 intro x hx
 obtain⟨p,hp,rfl⟩:=List.mem_map.mp hx
 exact(List.of_mem_zip hp).1
theorem zE {fd:FuncData}{as:List Arg}{ps:List Nat}{es us:List Value}{ks b:List (Nat×Value)}{items:Option (Array Value)}{s:Shared}
 (h1:fd.params.posonlyargs=[])(h2:fd.params.args=as)(h3:fd.params.kwonlyargs=[])(h4:fd.params.vararg=none)(h5:fd.params.kwarg=none)
 (hd:∀{M:Model} {A:Around} {E:Value->Shared->Prop} {R:Option (Array Value)->Shared->Prop},R items s->wpAny M A (seqItems? fd.defaults) R E s)
 (hi:(items.getD #[]).toList=es)(hp:as.map (·.arg)=ps.map C.nm)(hn:ps.Nodup)(e:binds ps es us ks=some b):BindsTo s fd ⟨us,lu C ks⟩ (lu C b):=by
 intro M A E Q hQ
 refine rQ e λhc e=>an hc λhc c3=>an hc λc1 c2=>?_
 ·have c1:=Nat.le_of_ble_eq_true c1
  have c3:=Nat.le_of_ble_eq_true c3
  have hlen:as.length=ps.length:=by rw[<-List.length_map (f:=(·.arg)),hp,List.length_map]
  have ez:(as.map (·.arg)).zip us=lu C (ps.zip us):=by rw[hp,rJ]
  refine Kr h1 h2 h3 h4 h5 hd ?_ (by rw[hlen];exact c1) (by rw[hi,hlen];exact c3) ?_ ?_
  ·rw[ez,hp]
   exact I8 ps ks _ _ c2 λx hx=>qF x ps us hx
  ·rw[ez,hp,hi,hlen,<-jQ,<-List.map_take,List.filter_map]
   rw[List.map_eq_nil_iff,List.filter_eq_nil_iff]
   intro x hx
   show ¬((lu C (ps.zip us++ks)).lookup (C.nm x)).isNone=true
   rw[lW]
   have hx':x ∉ ((ps.drop (ps.length - es.length)).zip es).map (·.1):=λh=>by
    have h2:=Lk _ _ x h
    have nd:=hn
    rw[<-List.take_append_drop (ps.length - es.length) ps]at nd
    exact(List.nodup_append.mp nd).2.2 x hx x h2 rfl
   have:=qJ _ ps b e x (List.mem_of_mem_take hx)
   rw[Aw x _ _ hx']at this
   cases q:get x (ps.zip us++ks)with
   |some v=>simp
   |none=>rw[q]at this;cases this
  ·rw[ez,hp,hi,hlen,<-jQ,<-List.map_drop,<-rJ,<-Gf,vQ _ _ _ e]
   exact hQ
structure FnAt (C:Cx)(f:Nat)(i:FI)(name qual:Str)(params:Arguments)(body:List Stmt)(scope:Scope)(cl:List (Str×Addr))(dV kV doc pm:Value)(an:Option Addr)(cdv ct:Value)(es:List Value):Prop where
 lk:∃oc od osl,C.K.lookup (C.fa f)=some ⟨oc,od,.func (fnX name qual params body scope cl dV kV doc pm an cdv ct),osl⟩
 cd:codeIn C.K cdv qual=true
 p1:params.posonlyargs=[]
 p3:params.kwonlyargs=[]
 p4:params.vararg=none
 p5:params.kwarg=none
 pn:params.args.map (·.arg)=i.ps.map C.nm
 nd:i.ps.Nodup
 df:∀h:Heap,C.K.In h->∃items:Option (Array Value),(items.getD #[]).toList=es/\∀{M:Model} {A:Around} {E:Value->Shared->Prop} {R:Option (Array Value)->Shared->Prop} {s:Shared},s.heap=h->R items s->wpAny M A (seqItems? dV) R E s
 dr:∀P fz,dz C P fz i.ds es
 lc:∀p ∈ i.ps,scope.names.lookup (C.nm p)=some .local
 nc:∀x ∈ scope.names,x.2≠.cell
 co:scope.isCoroutine=false
 gn:scope.isGenerator=false
 fk:scope.kind= .function
theorem dz.all2 {P fz}{as vs}(h:dz C P fz as vs):fZ (VR C P fz) as vs:=h.ind .nil λh _ i=>.cons h i
theorem pA {α:Type}(sl:List (Nat×α)):∀(ps:List Nat) (b:List (Nat×α)),eY sl ps=some b->b.map (·.1)=ps
 |[],b,e=>Option.some.inj e▸rfl
 |p::ps,b,e=>lQ e λv l e1 e2 e3=>e3▸congrArg (List.cons p) (pA sl ps l e2)
theorem Ei {α:Type}(b:List (Nat×α)):(b.map (·.1)).zip (b.map (·.2))=b:=by
 induction b with
 |nil=>rfl
 |cons p b ih=>exact congrArg (List.cons p) ih
theorem Fe {n:Str}(l:List (Str×Value))(h:n ∉ l.map (·.1)):l.lookup n=none:=by
 induction l with
 |nil=>rfl
 |cons p l ih=>
  show(match n==p.1 with|true=>some p.2|false=>l.lookup n)=none
  cases q:n==p.1 with
  |true=>exact(h (eq_of_beq q▸.head _)).elim
  |false=>exact ih λk=>h (.tail _ k)
theorem IK {n:Str}(a b:List (Str×Value)):(a++b).lookup n=match a.lookup n with|some v=>some v|none=>b.lookup n:=by
 induction a with
 |nil=>rfl
 |cons p a ih=>
  show(match n==p.1 with|true=>some p.2|false=>(a++b).lookup n)=match(match n==p.1 with|true=>some p.2|false=>a.lookup n)with|some v=>some v|none=>b.lookup n
  cases n==p.1 with
  |true=>rfl
  |false=>exact ih
theorem yC {n:Str}(l:List (Str×Value))(h:(l.map (·.1)).Nodup):l.reverse.lookup n=l.lookup n:=by
 induction l with
 |nil=>rfl
 |cons p l ih=>
  have h:=List.nodup_cons.mp h
  rw[List.reverse_cons,IK,ih h.2]
  show _=match n==p.1 with|true=>some p.2|false=>l.lookup n
  cases q:n==p.1 with
  |true=>
   rw[Fe l (eq_of_beq q▸h.1)]
   show(match n==p.1 with|true=>some p.2|false=>none)=_
   rw[q]
  |false=>
   cases l.lookup n with
   |some v=>rfl
   |none=>
    show(match n==p.1 with|true=>some p.2|false=>none)=_
    rw[q]
noncomputable def BJ (R E:Value->Shared->Prop) (r:Result) (s:Shared):Prop:=match r with
 | .ok (.ret v)=>R v s
 | .ok _=>False
 | .error e=>E e s
section
variable {f:Nat}{i:FI}{name qual:Str}{params:Arguments}{body:List Stmt}{scope:Scope}{cl:List (Str×Addr)}{dV kV doc YK:Value}{an:Option Addr}{cdv ct:Value}{es:List Value}
noncomputable def Xc (C:Cx) (W:List IS->AS->PS->Prop) (P:Addr) (A:Around) (aj:Heap) (L:Addr) (f₀:F0) (σ₀:List (Nat×Addr)) (env:Env) (b:List Stmt) (ib:List IS):Prop:=
 ∀(st:AS) (tmp:List (AV×Value)) (s:Shared) (Q:PS) (E:Value->Shared->Prop) (R:Flow->Shared->Prop),W ib st Q->St C P aj L f₀ σ₀ st tmp s->vV C P aj L f₀ σ₀ Q tmp R->_root_.PySem.wpAt (model C.prog C.w) A (.func b env) (execs b env) R E s
theorem uE.at_ {W:List IS->AS->PS->Prop}{b:List Stmt}{ib:List IS}(h:uE C W P A aj L f₀ σ₀ env b ib):Xc C W P A aj L f₀ σ₀ env b ib:=λst tmp s Q E R h1 h2 k=>_root_.PySem.wpAt_of_wpAny (h st tmp s Q E R h1 h2 k)
theorem Act.deeper {g:Heap}{L' f':Addr}(Z:Act C A aU base aj outer env L)(BG:Below A base (env::outer) g)(SG:aj.StaysIn g)(fk:scope.kind= .function):
  Act C (A.deeper (envX qual scope L' f' cdv cl)) A base g (env::outer) (envX qual scope L' f' cdv cl) L':=
 ⟨BG,Z.X.keeps SG,Z.T.keeps SG,Around.frames_deeper Z.hA,rfl,rfl,rfl,rfl,fk,by first|rfl|exact Z.hh,(let ⟨o,ho⟩:=Option.isSome_iff_exists.mp Z.sm;(SG _ _ ho).symm▸rfl),(by unfold interactive;rw[show(envX qual scope L' f' cdv cl).scope.kind=_ from fk];rfl)⟩
theorem qG {α:Type}{ps:List Nat}{ds as:List α}{ks b:List (Nat×α)}(h:binds ps ds as ks=some b):b.map (·.1)=ps:=rQ h λ_ h=>pA _ _ _ h
theorem Fl {b:List (Nat×Value)}{ps:List Nat}(h:b.map (·.1)=ps):(lu C b).map (·.1)=ps.map C.nm:=by
 unfold lu
 rw[List.map_map,<-h,List.map_map];rfl
theorem vD {b:List (Nat×Value)}{ps:List Nat}(h:b.map (·.1)=ps)(nd:ps.Nodup):((lu C b).map (·.1)).Nodup:=
 Fl (C:=C) h▸List.pairwise_map.mpr (List.Pairwise.imp (λh e=>h (C.inj _ _ e)) nd)
theorem yD {R:AV->Value->Prop}{b:List (Nat×AV)}{bu:List (Nat×Value)}(Xn:KR R b bu)(nd:((lu C bu).map (·.1)).Nodup){x:Nat}{a:AV}(e:get x b=some a):∃u,(lu C bu).reverse.lookup (C.nm x)=some u/\R a u:=
 Xn.ZL e λu hu hr=>⟨u,by rw[yC _ nd,lW,hu],hr⟩
theorem Ol (X:bU C P aj L f₀ σ₀ st tmp s m σ τ pm om fz):News aj L s.heap (pm++fz):=jC X.nw λq hq=>(List.mem_append.mp hq).elim (λh=>List.mem_append_left _ h) λh=>List.mem_append_right _ (List.mem_append_right _ h)
theorem H8 (X:bU C P aj L f₀ σ₀ st tmp s m σ τ pm om fz):∀q ∈ om,(hideAll s.heap ((pm++fz).map (·.1))).get? q.1=some q.2:=λq hq=>
 hideAll_get _ (X.nw q (List.mem_append_right _ (List.mem_append_left _ hq))).1 λhm=>by
  have nd:=(Rh.map _).nodup_iff.mp X.nd
  exact yp nd hq hm rfl
theorem Qo (hp0:f₀.p=[])(Z:Act C A aU base aj outer env L)(X:bU C P aj L f₀ σ₀ st tmp s m σ τ pm om fz)(H:FnAt C f i name qual params body scope cl dV kV doc YK an cdv ct es)(hroom:A.depth<recursionLimit)
  (hbody:∀(g:Heap) (L':Addr),Act C (A.deeper (envX qual scope L' (C.fa f) cdv cl)) A base g (env::outer) (envX qual scope L' (C.fa f) cdv cl) L'->∀f₀:F0,f₀.p=[]->∀σ₀,Xc C (wpS T CF) P (A.deeper (envX qual scope L' (C.fa f) cdv cl)) g L' f₀ σ₀ (envX qual scope L' (C.fa f) cdv cl) body i.body)
  {as:List AV}{us:List Value}{ks:List (Nat×AV)}{Di:List (Nat×Value)}{b:List (Nat×AV)}(ha:dz C P fz as us)(hk:KR (VR C P fz) ks Di)(hb:binds i.ps i.ds as ks=some b)
  {Q:AV->Option cF->Prop}(h:zB T CF i (b.map (·.2)) st.par Q){R:Value->Shared->Prop}(k:∀r par σ' nQ cY v s',Q r par->bU C P aj L f₀ σ₀ {st with par:=par} ((r,v)::tmp) s' m σ' τ nQ om cY->R v s'):
  codeAny (model C.prog C.w) A (.call (.ref (C.fa f)) ⟨us,lu C Di⟩) (BJ R E) s:=by
 obtain⟨bu,Xo,Xn⟩:=vO (H.dr P fz).all2 ha.all2 hk hb
 obtain⟨oc,od,osl,lk⟩:=H.lk
 have Bx:=Z.X.keeps X.fr.keep
 obtain⟨items,hi,hdf⟩:=H.df s.heap Bx
 have hn:=qG Xo
 refine RZ Z.B X.fr (Ol X) Z.T.nolimit Z.hA Z.hf Z.hk (Bx _ _ lk) rfl (codeRec_of Bx H.cd) hroom
  (zE H.p1 rfl H.p3 H.p4 H.p5 (λhR=>hdf rfl hR) hi H.pn H.nd Xo) (λy hy=>?_) (λL' aF FG F' N' BG SG E'=>?_) H.nc H.co H.gn H.fk
 ·obtain⟨p,hp,rfl⟩:=List.mem_map.mp hy
  exact H.lc _ (hn▸List.mem_map_of_mem hp)
 ·have hnd:=vD (C:=C) hn H.nd
  have hz:i.ps.zip (b.map (·.2))=b:=by rw[<-hn,<-Xn.names,Ei]
  have Y:=X.enter (t:=s.toks+(lu C bu).length) (ak:=i.ps.zip (b.map (·.2))) F' N' λx a e=>yD Xn hnd (hz▸e)
  have fin:∀{a r:AV} {v:Value} {st':AS} {s'},Mine.uJ st' a=some r->Q r st'.par->St C P (hideAll s.heap ((pm++fz).map (·.1))) L' ⟨fz,[]⟩ σ st' [(a,v)] s'->LeaveK aj L m (hideAll s.heap ((pm++fz).map (·.1))) (BJ R E) v s':=λhr hq hS=>
   hS.un λm' σ' Xz nQ sY cY W=>⟨L',m',_,W.fr,W.nw,λuD uy=>k _ _ _ _ _ _ _ hq (X.leave hp0 W (H8 X) uD uy (W.uJ W.t0 hr))⟩
  exact hbody _ L' (Z.deeper BG SG H.fk) ⟨fz,[]⟩ rfl σ _ [] _ _ E' _ h Y.st λfl s' hfl=>match fl,hfl with
   | .next,⟨_,h',S'⟩=>fin (a:=.none) rfl h' (S'.eO λ_=>.none)
   | .brk,⟨_,h',S'⟩=>fin (a:=.none) rfl h' (S'.eO λ_=>.none)
   | .ret v,⟨a,st',h',S'⟩=>aQ h' λr hr h'=>fin hr h' S'
end
noncomputable def mX (C:Cx) (kws:List Keyword) (ns:List Nat):Prop:=kws.map (·.arg)=ns.map λk=>some (C.nm k)
theorem rI {pos:Pos}{env:Env}:∀{kws:List Keyword} {ns:List Nat},mX C kws ns->(backToKw pos (keywordEach kws env)).all (·.1.isSome)=true/\(backToKw pos (keywordEach kws env)).any (·.1.isNone)=false/\(backToKw pos (keywordEach kws env)).filterMap (·.1)=ns.map C.nm
 |[],[],_=>⟨rfl,rfl,rfl⟩
 |[],_::_,h=>by cases h
 |_::_,[],h=>by cases h
 |⟨a,e,p⟩::r,k::ns,h=>by
  unfold mX at h
  rw[List.map_cons,List.map_cons]at h
  injection h with h1 h2
  dsimp only at h1
  subst h1
  obtain⟨i1,i2,i3⟩:=rI (pos:=pos) (env:=env) (kws:=r) (ns:=ns) h2
  refine⟨?_,?_,?_⟩
  ·show(true&&(backToKw pos (keywordEach r env)).all (·.1.isSome))=true
   rw[i1];rfl
  ·show(false||(backToKw pos (keywordEach r env)).any (·.1.isNone))=false
   rw[i2];rfl
  ·show C.nm k::(backToKw pos (keywordEach r env)).filterMap (·.1)=_
   rw[i3];rfl
theorem Iz {M:Model}{A:Around}{E:Value->Shared->Prop}{s:Shared}{env:Env}{o:Expr}{name:Str}{apos pos:Pos}{args:List Expr}{kws:List Keyword}{ns:List Nat}{Q:Value->Shared->Prop}
  (hs:cT o=true)(ha:args.all notStar=true)(hk:mX C kws ns)(hn:Nat.blt (args.length+kws.length) 29=true)(hline:(apos.endLine==pos.line)=true)
  (h:wpAny M A (eval o env) (λov aR=>∀pl,wpAny M A (getMethod ov name pl) (λfx bY=>wpAny M A (callWith pos fx.1 fx.2 (backTo pos (starEach args env)) (backToKw pos (keywordEach kws env))) Q E bY) E aR) E s):
  wpAny M A (eval (.Call (.Attribute o name apos) args kws pos) env) Q E s:=by
 have hn':args.length+kws.length<29:=by rw[<-Nat.blt_eq];exact hn
 rw[arm_eval_Call,wW hs]
 refine wpAny_bind (wpAny_mono h (λov aR aF=>wpAny_bind (wpAny_standAt ?_)) λ_ _ e=>e)
 have hform:methodCallForm (args.length+kws.length) (backTo pos (starEach args env)) (backToKw pos (keywordEach kws env))=true:=by
  unfold methodCallForm
  rw[oY pos env ha,(rI hk).1]
  simp only[Bool.true_and,decide_eq_true_eq]
  split<;>omega
 have hpos:methodCallPos true o env apos pos=pure pos:=by unfold methodCallPos;simp[hline]
 unfold methodCall
 rw[hform]
 refine wpAny_bind (wpAny_holding (wpAny_mono (aF _) (λfx bY bk=>?_) λ_ _ e=>e))
 exact wpAny_bind (wpAny_of_eq hpos bk)
theorem Qv {M:Model}{A:Around}{E:Value->Shared->Prop}{s:Shared}{f:Value}{pos:Pos}{env:Env}{es:List Expr}{kws:List Keyword}{ns:List Nat}(h:es.all notStar=true)(hk:mX C kws ns){Q:Args->Shared->Prop}
  (hq:wpAny M A (spliced (backTo pos (starEach es env))) (λvs s'=>wpAny M A (evalAll ((backToKw pos (keywordEach kws env)).map (·.2))) (λks bY=>Q ⟨vs,(ns.map C.nm).zip ks⟩ bY) E s') E s):
  wpAny M A (evalArgs f true (backTo pos (starEach es env)) (backToKw pos (keywordEach kws env))) Q E s:=by
 obtain⟨k1,k2,k3⟩:=rI (pos:=pos) (env:=env) hk
 unfold evalArgs
 cases es with
 |nil=>
  refine wpAny_bind (wpAny_mono hq (λvs aR aF=>?_) λ_ _ x=>x)
  refine wpAny_bind (wpAny_pure ?_)
  refine wpAny_holding ?_
  rw[if_pos k1]
  refine wpAny_bind (wpAny_mono aF (λks bY bk=>?_) λ_ _ x=>x)
  exact wpAny_bind (wpAny_pure (wpAny_pure (by rw[k3];exact bk)))
 |cons e es=>
  rw[List.all_cons,Bool.and_eq_true]at h
  rw[je h.1]at hq⊢
  show wpAny M A (spliced ((false,eval e env)::backTo pos (starEach es env))>>=_) Q E s
  refine wpAny_bind (wpAny_mono hq (λvs aR aF=>?_) λ_ _ x=>x)
  refine wpAny_holding ?_
  rw[if_pos k1]
  refine wpAny_bind (wpAny_mono aF (λks bY bk=>?_) λ_ _ x=>x)
  exact wpAny_bind (wpAny_pure (wpAny_pure (by rw[k3];exact bk)))
theorem tY {M:Model}{A:Around}{E:Value->Shared->Prop}{s:Shared}{f:Value}{first:List Value}{pos:Pos}{env:Env}{es:List Expr}{kws:List Keyword}{ns:List Nat}{PH:Heap->Prop}(h:es.all notStar=true)(hk:mX C kws ns){Q:Value->Shared->Prop}
  (hkp:∀h,PH h->∃k,(k=Keeper.frame∨k=Keeper.machine∨k=Keeper.boundFrame)/\Looks M h (keeperOf f) k)
  (hq:wpAny M A (spliced (backTo pos (starEach es env))) (λvs s'=>wpAny M A (evalAll ((backToKw pos (keywordEach kws env)).map (·.2))) (λks bY=>PH bY.heap/\wpAny M A (call f (first++vs) ((ns.map C.nm).zip ks)) Q E bY) E s') E s):
  wpAny M A (callWith pos f first (backTo pos (starEach es env)) (backToKw pos (keywordEach kws env))) Q E s:=
 callWith_of (P:=PH) (by rw[iK pos env h,(rI hk).2.1];rfl) hkp (Qv h hk hq)
noncomputable def zN (C:Cx) (W:List (Nat×IE)->AS->(List (Nat×AV)->AS->Prop)->Prop) (P:Addr) (A:Around) (aj:Heap) (L:Addr) (f₀:F0) (σ₀:List (Nat×Addr)) (env:Env) (pos:Pos) (es:List Keyword) (ies:List (Nat×IE)):Prop:=
 ∀(st:AS) (tmp:List (AV×Value)) (s:Shared) (Q:List (Nat×AV)->AS->Prop) (E:Value->Shared->Prop) (R:List Value->Shared->Prop),W ies st Q->St C P aj L f₀ σ₀ st tmp s->
  (∀vs s as st,Q as st->as.length=vs.length->as.map (·.1)=ies.map (·.1)->St C P aj L f₀ σ₀ st ((as.map (·.2)).zip vs++tmp) s->R vs s)->
  wpAny (model C.prog C.w) A (evalAll ((backToKw pos (keywordEach es env)).map (·.2))) R E s
section
variable {e aB aP bI:Expr}{ie bG bJ bO:IE}{pos apos np mH:Pos}{es:List Expr}{ies:List IE}{kws:List Keyword}{jT:List (Nat×IE)}
theorem wO:zN C (pG T CF) P A aj L f₀ σ₀ env pos [] []:=λst tmp s Q E R h S k=>wpAny_pure (k _ _ [] _ h rfl rfl S)
theorem J4 {es:List Keyword}{ies:List (Nat×IE)}{k:Nat}{a:Option Str}{p:Pos}(ih:cu C (bf T CF) P A aj L f₀ σ₀ env e ie)(ihs:zN C (pG T CF) P A aj L f₀ σ₀ env pos es ies):
  zN C (pG T CF) P A aj L f₀ σ₀ env pos (⟨a,e,p⟩::es) ((k,ie)::ies):=λst tmp s Q E R h S K=>by
 show wpAny _ _ (evalAll ((do let v<-eval e env;standAt pos;pure v)::(backToKw pos (keywordEach es env)).map (·.2))) _ _ _
 exact wpAny_evalAll_cons (wpAny_bind (ih _ _ _ _ E _ h S λv aR a bF aF S₁=>wpAny_bind (wpAny_standAt (wpAny_pure (ihs _ _ _ _ E _ aF S₁ λvs bY as dG bk hl hn S₂=>K _ _ ((k,a)::as) _ bk (congrArg Nat.succ hl) (congrArg (List.cons k) hn) (S₂.sub λq hq=>Df hq))))))
theorem I9:∀{as:List (Nat×AV)} {vs:List Value},as.length=vs.length->nM (as.map (·.2))=true->(∀q ∈ (as.map (·.2)).zip vs,LR C P fz σ τ q.1 q.2)->KR (VR C P fz) as ((as.map (·.1)).zip vs)
 |[],[],_,_,_=>.nil
 |(k,a)::as,v::vs,hl,hc,h=>an hc λc1 c2=>.cons ((h (a,v) (.head _)).clo c1) (I9 (Nat.succ.inj hl) c2 λq hq=>h q (.tail _ hq))
 |[],_::_,hl,_,_=>nomatch hl
 |_::_,[],hl,_,_=>nomatch hl
noncomputable def d7 (C:Cx) (T:Tb) (CF:fP) (P:Addr) (A:Around) (aj:Heap) (L:Addr) (f₀:F0) (σ₀:List (Nat×Addr)):Prop:=
 ∀(f:Nat) (i:FI),T.FT f=some i->∀(st:AS) (tmp:List (AV×Value)) (s:Shared) (m:Str->Option Value) (σ τ:List (Nat×Addr)) (pm om fz:List (Addr×Obj)),bU C P aj L f₀ σ₀ st tmp s m σ τ pm om fz->
  ∀(as:List AV) (us:List Value) (ks:List (Nat×AV)) (Di:List (Nat×Value)) (b:List (Nat×AV)),dz C P fz as us->KR (VR C P fz) ks Di->binds i.ps i.ds as ks=some b->
  ∀(Q:AV->Option cF->Prop) (E R:Value->Shared->Prop),CF f (b.map (·.2)) st.par Q->(∀r par σ' nQ cY v s',Q r par->bU C P aj L f₀ σ₀ {st with par:=par} ((r,v)::tmp) s' m σ' τ nQ om cY->R v s')->
  codeAny (model C.prog C.w) A (.call (.ref (C.fa f)) ⟨us,lu C Di⟩) (BJ R E) s
theorem I7 (ks:List (Nat×AV))(kvs:List Value):((ks.map λp=>C.nm p.1).zip kvs)=lu C ((ks.map (·.1)).zip kvs):=by
 rw[rJ,List.map_map];rfl
theorem pX (CO:d7 C T CF P A aj L f₀ σ₀){f:Nat}{as:List AV}{vs:List Value}{ks:List (Nat×AV)}{kvs:List Value}(hl:as.length=vs.length)(hk:ks.length=kvs.length)
  (S:St C P aj L f₀ σ₀ st ((ks.map (·.2)).zip kvs++(as.zip vs++tmp)) s){Q:PE}(h:gW T CF f as ks st Q){R:Value->Shared->Prop}(k:KV C P aj L f₀ σ₀ Q tmp R):
  codeAny (model C.prog C.w) A (.call (.ref (C.fa f)) ⟨vs,(ks.map λp=>C.nm p.1).zip kvs⟩) (BJ R E) s:=
 gC h λhc h=>an hc λc1 c2=>aQ h λi hi h=>aQ h λb hb h=>S.un λm σ τ pm om fz X=>
  I7 (C:=C) ks kvs▸CO f i hi _ _ _ _ _ _ _ _ _ X.oU.oU _ _ _ _ _ (X.oU.items hl c1) (I9 hk c2 λq hq=>X.tmp q (List.mem_append_left _ hq)) hb _ E _ h λr par σ' nQ cY v s' h S=>k _ _ _ _ h S.st
theorem Ko {f:Nat}{as:List AV}{ks:List (Nat×AV)}{Q:PE}(h:gW T CF f as ks st Q):∃i,T.FT f=some i:=gC h λ_ h=>aQ h λi hi _=>⟨i,hi⟩
end
section
variable {e aB aP bI:Expr}{ie bG bJ bO:IE}{pos apos np mH:Pos}{es:List Expr}{ies:List IE}{kws:List Keyword}{jT:List (Nat×IE)}
theorem St.In (Z:Act C A aU base aj outer env L)(S:St C P aj L f₀ σ₀ st tmp s):C.K.In s.heap:=S.un λm σ τ pm om fz X=>Z.X.keeps X.fr.keep
theorem Iw {α:Type}{q:α}{a b c d:List α}(h:q ∈ a++((b++c)++d)):q ∈ a++(c++(b++d)):=by
 rw[List.append_assoc]at h
 exact(List.mem_append.mp h).elim (List.mem_append_left _) λh=>List.mem_append_right _ ((List.mem_append.mp h).elim (λh=>List.mem_append_right _ (List.mem_append_left _ h)) λh=>(List.mem_append.mp h).elim (List.mem_append_left _) λh=>List.mem_append_right _ (List.mem_append_right _ h))
theorem pU {Q:List AV->List (Nat×AV)->AS->Prop}(ih:pD C (gD T CF) P A aj L f₀ σ₀ env pos es ies)(ihk:zN C (pG T CF) P A aj L f₀ σ₀ env pos kws jT){fas:List AV}{fvs:List Value}(hl:fas.length=fvs.length)
  (S:St C P aj L f₀ σ₀ st (fas.zip fvs++tmp) s)(h:gD T CF ies st λvs st=>pG T CF jT st λks st=>Q vs ks st){R:List Value->List Value->Shared->Prop}
  (hR:∀as vs ks kvs st' s',Q as ks st'->(fas++as).length=(fvs++vs).length->ks.length=kvs.length->ks.map (·.1)=jT.map (·.1)->St C P aj L f₀ σ₀ st' ((ks.map (·.2)).zip kvs++((fas++as).zip (fvs++vs)++tmp)) s'->R vs kvs s'):
  wpAny (model C.prog C.w) A (spliced (backTo pos (starEach es env))) (λvs s'=>wpAny (model C.prog C.w) A (evalAll ((backToKw pos (keywordEach kws env)).map (·.2))) (λks bY=>R vs ks bY) E s') E s:=
 ih _ _ _ _ E _ h S λvs aR as bF aF hla S₁=>ihk _ _ _ _ E _ aF S₁ λkvs bY ks dG bk hlk hn S₂=>hR as vs ks kvs dG bY bk (by rw[List.length_append,List.length_append,hl,hla]) hlk hn (S₂.sub λq hq=>Iw (List.zip_append hl▸hq))
theorem R0 (Z:Act C A aU base aj outer env L)(CO:d7 C T CF P A aj L f₀ σ₀){f:Nat}(hkeep:keepIn C.K (.ref (C.fa f))=true)(ha:es.all notStar=true)(hk:mX C kws (jT.map (·.1)))
  (ih:pD C (gD T CF) P A aj L f₀ σ₀ env pos es ies)(ihk:zN C (pG T CF) P A aj L f₀ σ₀ env pos kws jT){fas:List AV}{fvs:List Value}(hl:fas.length=fvs.length)
  (S:St C P aj L f₀ σ₀ st (fas.zip fvs++tmp) s){Q:PE}(h:gD T CF ies st λvs st=>pG T CF jT st λks st=>gW T CF f (fas++vs) ks st Q){R:Value->Shared->Prop}(k:KV C P aj L f₀ σ₀ Q tmp R):
  wpAny (model C.prog C.w) A (callWith pos (.ref (C.fa f)) fvs (backTo pos (starEach es env)) (backToKw pos (keywordEach kws env))) R E s:=
 tY (PH:=C.K.In) ha hk (keeps_K hkeep) (pU ih ihk hl S h λas vs ks kvs st' s' hq h1 h2 h3 S'=>⟨S'.In Z,by
  rw[<-h3,List.map_map]
  exact wpAny_call (pX CO h1 h2 S' hq (E:=E) k)⟩)
theorem Km (Z:Act C A aU base aj outer env L)(CO:d7 C T CF P A aj L f₀ σ₀){f:Nat}(hkeep:keepIn C.K (.ref (C.fa f))=true)(ha:es.all notStar=true)
  (ih:pD C (gD T CF) P A aj L f₀ σ₀ env pos es ies){fas:List AV}{fvs:List Value}(hl:fas.length=fvs.length)
  (S:St C P aj L f₀ σ₀ st (fas.zip fvs++tmp) s){Q:PE}(h:gD T CF ies st λvs st=>gW T CF f (fas++vs) [] st Q){R:Value->Shared->Prop}(k:KV C P aj L f₀ σ₀ Q tmp R):
  wpAny (model C.prog C.w) A (callWith pos (.ref (C.fa f)) fvs (backTo pos (starEach es env)) (backToKw pos (keywordEach [] env))) R E s:=
 R0 (kws:=[]) (jT:=[]) Z CO hkeep ha rfl ih wO hl S h k
theorem yu (Z:Act C A aU base aj outer env L)(X:bU C P aj L f₀ σ₀ st tmp s m σ τ pm om fz){f:Nat}{p:cF}(hp:st.par=some p)(hg:get f p.at_=none)(hk:qu C.K C.CP (C.nm f) (C.fa f)=true){pl:Sem Bool}{Q:Value×List Value->Shared->Prop}
  (h:Q (.ref (C.fa f),[.ref P]) s):wpAny (model C.prog C.w) A (getMethod (.ref P) (C.nm f) pl) Q E s:=
 X.sX hp λpd es n mu e h1 h2 h3=>Ci hk λk1 k2 k3 k4 k5 k6 k7=>method_inst X.fr Z.X (X.oh e) k1 k4 k5 (h1.Ax hg) h
theorem Em (Z:Act C A aU base aj outer env L)(CO:d7 C T CF P A aj L f₀ σ₀){f:Nat}{n na:Str}(hn:n=C.nm 0)(hl:env.kindOf n=some .local)(hd:(n==("__debug__":Str))=false)(hna:na=C.nm f)
  (hk:qu C.K C.CP na (C.fa f)=true)(hkeep:keepIn C.K (.ref (C.fa f))=true)(ha:es.all notStar=true)(hkw:mX C kws (jT.map (·.1)))(hb:Nat.blt (es.length+kws.length) 29=true)(hline:(apos.endLine==pos.line)=true)
  (ih:pD C (gD T CF) P A aj L f₀ σ₀ env pos es ies)(ihk:zN C (pG T CF) P A aj L f₀ σ₀ env pos kws jT):
  cu C (bf T CF) P A aj L f₀ σ₀ env (.Call (.Attribute (.Name n np) na apos) es kws pos) (.aq f ies jT):=λst tmp s Q E R h S k=>
 S.un λm σ τ pm om fz X=>rH (jB h) λp hs hp ha0=>by
  subst hn hna
  exact Iz rfl ha hkw hb hline (wpAny_Name (wpAny_loadName_local Z.hk hl (Z.hL▸X.fr.ns) (gH X hs) λpl=>yu Z X hp ha0 hk (R0 (fas:=[.self]) (fvs:=[.ref P]) Z CO hkeep ha hkw ih ihk rfl (S.eO λ_=>.self) (mV h) k)) hd)
theorem Es (Z:Act C A aU base aj outer env L)(CO:d7 C T CF P A aj L f₀ σ₀){f:Nat}{n:Str}(hn:nsIn C.K mainGlobals n=some (some (.ref (C.fa f))))(hk:env.kindOf n=some .globalImplicit)(hd:(n==("__debug__":Str))=false)
  (hkeep:keepIn C.K (.ref (C.fa f))=true)(ha:es.all notStar=true)(ih:pD C (gD T CF) P A aj L f₀ σ₀ env pos es ies):
  cu C (bf T CF) P A aj L f₀ σ₀ env (.Call (.Name n np) es [] pos) (.cU f ies):=λst tmp s Q E R h S k=>
 S.un λm σ τ pm om fz X=>wpAny_Call_ofName (gF Z X.fr hn hk hd (Km (fas:=[]) (fvs:=[]) Z CO hkeep ha ih rfl S h k))
end
noncomputable def Wn (K:Frag) (c:Addr) (n:Str):Bool:=plainGet K c n&&hasDictIn K c&&(findIn K (.ref c) n==some none)
theorem uN {prog:Program}{w:World}{A:Around}{E:Value->Shared->Prop}{s:Shared}{K:Frag}{x c:Addr}{ox:Obj}{od:Option Obj}{name:Str}{pl:Sem Bool}{Q:Value×List Value->Shared->Prop}(X:K.In s.heap)(I:InstAt s.heap x ox c od)(hg:plainGet K c name=true)
  (hf:findIn K (.ref c) name=some none)(h:wpAny (model prog w) A (getAttr (.ref x) name) (λv=>Q (v,[])) E s):wpAny (model prog w) A (getMethod (.ref x) name pl) Q E s:=by
 have hcan:=PySem.F.canon_object_ga
 unfold getMethod specialOf
 refine wpAny_bind (wpAny_bind (I.type.here ((looks_findIn X (plainGet_of hg).1).here ?_)))
 dsimp only
 rw[hcan,if_neg (by decide)]
 refine wpAny_bind (wpAny_bind (I.type.here ((looks_findIn X (plainGet_of hg).2).here ?_)))
 refine wpAny_bind (wpAny_bind (I.type.here ((looks_findIn X hf).here ?_)))
 exact wpAny_bind (wpAny_mono h (λv s' h'=>wpAny_pure h') λ_ _ x=>x)
section
variable {e aB aP bI:Expr}{ie bG bJ bO:IE}{pos apos np mH:Pos}{es:List Expr}{ies:List IE}{kws:List Keyword}{jT:List (Nat×IE)}
theorem Et (Z:Act C A aU base aj outer env L)(CO:d7 C T CF P A aj L f₀ σ₀)(KF:∀f i,T.FT f=some i->fnIn C.K (C.fa f)=true){a:Nat}{n na:Str}(hn:n=C.nm 0)(hl:env.kindOf n=some .local)(hd:(n==("__debug__":Str))=false)(hna:na=C.nm a)
  (hk:Wn C.K C.CP na=true)(hline:(apos.endLine==pos.line)=true):
  cu C (bf T CF) P A aj L f₀ σ₀ env (.Call (.Attribute (.Name n np) na apos) [] [] pos) (.mZ a):=λst tmp s Q E R h S k=>
 aQ h λf hv h=>bnd hv λv hv hf=>bnd hv λp hp hv=>jN hp λhs hp=>S.un λm σ τ pm om fz X=>X.sX hp λpd es n mu e h1 h2 h3=>h1.JD hv λu g1 g2=>an hk λhk k3=>an hk λk1 k2=>by
  subst hn hna
  refine Iz (C:=C) (ns:=[]) rfl rfl rfl rfl hline (wpAny_Name (wpAny_loadName_local Z.hk hl (Z.hL▸X.fr.ns) (gH X hs) λpl=>uN (Z.X.keeps X.fr.keep) (X.oh e) k1 (eq_of_beq k3) (get_own X.fr Z.X (X.oh e) k1 k2 (eq_of_beq k3) rfl g1 g2.handed ?_)) hd)
  obtain⟨i,hi⟩:=Ko h
  refine g2.bm_ hf λb hb=>?_
  have hat:=X.mK hb
  exact tY (C:=C) (ns:=[]) (kws:=[]) (PH:=MethP C.K b (C.fa f) (.ref P)) (es:=[]) rfl rfl (keeps_M (KF f i hi)) (wpAny_items_nil (wpAny_pure ⟨⟨hat,Z.X.keeps X.fr.keep⟩,wpAny_call (method_call (s:={s with toks:=s.toks+1}) hat
   (pX (as:=[.self]) (vs:=[.ref P]) (ks:=[]) (kvs:=[]) (tmp:=tmp) CO rfl rfl ((S.toks (s.toks+1)).eO λ_=>.self) h (E:=E) k))⟩))
end
inductive qL (C:Cx)(c:Nat)(scope:Scope):List Stmt->List (Nat×Nat)->Prop
 |nil:qL C c scope [] []
 |cons {a p:Nat} {n na pn:Str} {np apos pp pos:Pos} {r:List Stmt} {fs:List (Nat×Nat)} (hn:n=C.nm 0) (ha:na=C.nm a) (hp:pn=C.nm p) (hk:attrOk C.K (C.ca c) na=true) (hd:(n==("__debug__":Str))=false) (hd':(pn==("__debug__":Str))=false)
   (hl:scope.names.lookup n=some .local) (hl':scope.names.lookup pn=some .local):qL C c scope r fs->qL C c scope (.Assign [.Attribute (.Name n np) na apos] (.Name pn pp) pos::r) ((a,p)::fs)
noncomputable def RI (C:Cx) (P:Addr) (fz:List (Addr×Obj)) (x:Addr) (a:AV) (v:Value):Prop:=VR C P fz a v∨(a= .own 0/\v= .ref x)
section
variable {P:Addr}{fz:List (Addr×Obj)}{x dx:Addr}{c:Nat}{news:List (Addr×Obj)}{m:Str->Option Value}{g:Heap}{L f:Addr}{A:Around}{E:Value->Shared->Prop}
 {qual:Str}{scope:Scope}{cdv:Value}{cl:List (Str×Addr)}{b:List (Nat×AV)}
theorem z8 (a:Nat)(v:AV)(l:List (Nat×AV)):(put a v l).length<=l.length+1:=by
 induction l with
 |nil=>exact Nat.le_refl _
 |cons q r ih=>
  unfold put
  cases Nat.beq q.1 a with
  |true=>exact Nat.le_succ _
  |false=>exact Nat.succ_le_succ ih
theorem Ji (hkd:scope.kind= .function)(X0:C.K.In g)(hne:x≠dx)(hxn:∀q ∈ news,q.1≠dx)(hx:m (C.nm 0)=some (.ref x))
  (hb:∀p a,get p b=some a->∃v,m (C.nm p)=some v/\RI C P fz x a v):
  ∀{body:List Stmt} {fs:List (Nat×Nat)},qL C c scope body fs->∀{acc rs:List (Nat×AV)} {es:List DictEntry} {n:Nat} {s:Shared} {R:Flow->Shared->Prop},fields b acc fs=some rs->acc.length+fs.length<=100->
   m6 C P fz [] acc es->Fr g L s.heap m->News g L s.heap ((x,instObj (C.ca c) dx)::(dx,dictOf es n)::news)->
   (∀es' n' h' t,m6 C P fz [] rs es'->Fr g L h' m->News g L h' ((x,instObj (C.ca c) dx)::(dx,dictOf es' n')::news)->R .next {s with heap:=h',toks:=t})->
   wpAny (model C.prog C.w) A (execs body (envX qual scope L f cdv cl)) R E s:=by
 intro body fs H
 induction H with
 |nil=>exact λe hlen hle F N k=>wpAny_pure (k _ _ _ _ (Option.some.inj e▸hle) F N)
 | @cons a p n na pn np apos pp pos r fs hn ha hp hk hd hd' hl hl' H ih=>
  refine λ{acc rs es n s R} e hlen hle F N k=>bnd e λv hv e=>bnd e λ_ hc e=>?_
  obtain⟨u,hu,hr⟩:=hb p v hv
  have hvr:LR C P fz [] [] v u:=hr.elim .v λh=>jJ ((h.1▸tV hc:AV.clo (.own 0)=true):)
  subst hn ha hp
  have YH:=hle.put (a:=a) (v:=v) (u:=u) (hs:=PyData.keyHash C.w.params (C.nm a)) (t:=s.toks+1) hvr
  have hlen':(put a v acc).length+fs.length<=100:=Nat.le_trans (Nat.le_trans (Nat.add_le_add_right (z8 a v acc) _) (by rw[List.length_cons];omega)) hlen
  exact uq hk λat_ k1 k2 k2' k3 k4 k5 k6=>wpAny_execs_cons (plainObj_wpAny_Assign_Attribute (wpAny_Name (wpAny_loadName_local hkd hl' F.ns hu (wpAny_Name (wpAny_loadName_local hkd hl F.ns hx
   (set_dict F X0 N (InstAt.of_news N (.head _) (.tail _ (.head _))) rfl k4 k5 k6 k2 (hle.ZP a) rfl (news':=(x,instObj (C.ca c) dx)::(dx,dictOf _ _)::news) (.tail hne (.head hxn)) (by rw[<-YH.length];omega) λh' F' N'=>
    ih (s:={s with heap:=h',toks:=s.toks+2}) e hlen' YH F' N' k)) hd)) hd') (cZ rfl _ _ _))
end
structure Gk (C:Cx)(c:Nat)(i:CI)(f:Nat)(name qual:Str)(params:Arguments)(body:List Stmt)(scope:Scope)(cl:List (Str×Addr))(dV kV doc pm:Value)(an:Option Addr)(cdv ct:Value)(es:List Value):Prop where
 mi:makesIn C.K (C.ca c)=true
 fi:findIn C.K (.ref (C.ca c)) "__init__"=some (some (.ref (C.fa f)))
 ft:typeIn C.K (.ref (C.fa f))=some (.type "function")
 fn:FnAt C f ⟨i.ps,i.ds,[]⟩ name qual params body scope cl dV kV doc pm an cdv ct es
 ib:qL C c scope body i.fs
 ps:i.ps.head?=some 0
 fl:i.fs.length<=100
theorem vR {α β:Type}{R R':α->β->Prop}(h:∀a b,R a b->R' a b){as:List α}{bs:List β}(H:fZ R as bs):fZ R' as bs:=by
 induction H with
 |nil=>exact .nil
 |cons a _ ih=>exact .cons (h _ _ a) ih
theorem O1 {α β:Type}{R R':α->β->Prop}(h:∀a b,R a b->R' a b){as bs}(H:KR R as bs):KR R' as bs:=by
 induction H with
 |nil=>exact .nil
 |cons a _ ih=>exact .cons (h _ _ a) ih
theorem rW.of {P:Addr}{fz:List (Addr×Obj)}{fs:List (Nat×AV)}{es:List DictEntry}(H:m6 C P fz [] fs es):rW C P fz fs es:=by
 induction H with
 |nil=>exact .nil
 |cons h _ ih=>exact .cons (LR.casesOn (motive:=λa v _=>VR C P fz a v) h id (λh=>jk h) (λh=>jk h)) ih
theorem zK {α:Type}{x:Nat}{v:α}(ds:List (Nat×α)):∀sl:List (Nat×α),get x sl=some v->get x (dZ sl ds)=some v:=by
 induction ds with
 |nil=>exact λ_ h=>h
 |cons d r ih=>
  refine λsl h=>?_
  unfold dZ
  cases get d.1 sl with
  |some _=>exact ih sl h
  |none=>exact ih _ (by rw[wK,h])
theorem ur {α:Type}{x:Nat}(sl:List (Nat×α)):∀(ps:List Nat) (b:List (Nat×α)),eY sl ps=some b->x ∈ ps->get x b=get x sl
 |[],_,_,h=>nomatch h
 |p::ps,b,e,h=>lQ e λv l e1 e2 e3=>by
  rw[<-e3]
  show(match Nat.beq p x with|true=>some v|false=>get x l)=get x sl
  cases q:Nat.beq p x with
  |true=>exact(Nat.eq_of_beq_eq_true q▸e1).symm
  |false=>exact ur sl ps l e2 ((List.mem_cons.mp h).resolve_left λf=>Nat.ne_of_beq_eq_false q f.symm)
theorem Br {α:Type}{ps:List Nat}{ds us:List α}{ks b:List (Nat×α)}{x:α}(hp:ps.head?=some 0)(e:binds ps ds (x::us) ks=some b):get 0 b=some x:=rQ e λ_ e=>by
 cases ps with
 |nil=>exact jk hp
 |cons p r=>
  obtain rfl:=Option.some.inj hp
  exact(ur _ _ _ e (.head _)).trans (zK _ _ rfl)
section
variable {c f:Nat}{i:CI}{name qual:Str}{params:Arguments}{body:List Stmt}{scope:Scope}{cl:List (Str×Addr)}{dV kV doc YK:Value}{an:Option Addr}{cdv ct:Value}{es:List Value}
theorem EY {a d:Addr×Obj}{x y z:List (Addr×Obj)}:(a::(x++(y++d::z))).Perm (a::d::(x++(y++z))):=.cons _ ((List.Perm.append_left _ List.perm_middle).trans List.perm_middle)
theorem nH {c:Addr}{us:List Value}{ks:List (Str×Value)}:(A.under (.builtin "type.__call__" ⟨.ref c::us,ks⟩)).frames=A.frames:=by
 show pushEnvs (Code.envs (.builtin "type.__call__" ⟨.ref c::us,ks⟩)) A.frames=_
 have:Code.envs (.builtin "type.__call__" ⟨.ref c::us,ks⟩)=[]:=by kernel_rfl
 rw[this];rfl
theorem qb {c:Addr}{us:List Value}{ks:List (Str×Value)}:(A.under (.builtin "type.__call__" ⟨.ref c::us,ks⟩)).depth=A.depth+1:=by
 show A.depth+Code.weight (.builtin "type.__call__" ⟨.ref c::us,ks⟩)=_
 have:Code.weight (.builtin "type.__call__" ⟨.ref c::us,ks⟩)=1:=by kernel_rfl
 rw[this]
theorem call_cls (Z:Act C A aU base aj outer env L)(X:bU C P aj L f₀ σ₀ st tmp s m σ τ pm om fz)(H:Gk C c i f name qual params body scope cl dV kV doc YK an cdv ct es)(hroom:A.depth+1<recursionLimit)
  {as:List AV}{us:List Value}{ks:List (Nat×AV)}{Di:List (Nat×Value)}{fs:List (Nat×AV)}(ha:dz C P fz as us)(hk:KR (VR C P fz) ks Di)(hb:(binds i.ps i.ds (.own 0::as) ks).bind (fields · [] i.fs)=some fs)
  {R:Value->Shared->Prop}(k:∀v s',St C P aj L f₀ σ₀ st ((.inst c fs,v)::tmp) s'->R v s'):
  codeAny (model C.prog C.w) A (.call (.ref (C.ca c)) ⟨us,lu C Di⟩) (BJ R E) s:=bnd hb λb hb hf=>by
 obtain⟨oc,od,osl,lk⟩:=H.fn.lk
 refine make_K X.fr X.nw (Z.X.keeps X.fr.keep) H.mi H.fi H.ft λx dx h' F N hlt hlt'=>?_
 have hr:∀a v,VR C P fz a v->RI C P fz x a v:=λa v h=>.inl h
 obtain⟨bu,Xo,Xn⟩:=vO (R:=RI C P fz x) (vR hr (H.fn.dr P fz).all2) (us:=.ref x::us) (.cons (.inr ⟨rfl,rfl⟩) (vR hr ha.all2)) (O1 hr hk) hb
 have Bx:C.K.In h':=Z.X.keeps F.keep
 obtain⟨items,hi,hdf⟩:=H.fn.df h' Bx
 have hn:=qG Xo
 have hnd:=vD (C:=C) hn H.fn.nd
 refine RZ (A:=A.under (.builtin "type.__call__" ⟨.ref (C.ca c)::us,lu C Di⟩)) Z.B F N Z.T.nolimit (nH.trans Z.hA) Z.hf Z.hk (Bx _ _ lk) rfl (codeRec_of Bx H.fn.cd) (by rw[qb];exact hroom)
  (zE H.fn.p1 rfl H.fn.p3 H.fn.p4 H.fn.p5 (λhR=>hdf rfl hR) hi H.fn.pn H.fn.nd Xo) (λy hy=>?_) (λL' aF FG F' N' BG SG E'=>?_) H.fn.nc H.fn.co H.fn.gn H.fn.fk
 ·obtain⟨p,hp,rfl⟩:=List.mem_map.mp hy
  exact H.fn.lc _ (hn▸List.mem_map_of_mem hp)
 ·refine _root_.PySem.wpAt_of_wpAny (Ji (P:=P) (fz:=fz) (E:=E') (f:=C.fa f) (qual:=qual) (cdv:=cdv) (cl:=cl) (s:={s with heap:=aF,toks:=s.toks+(lu C bu).length}) (x:=x) (dx:=dx) (b:=b) H.fn.fk (Z.X.keeps SG) (Nat.ne_of_gt hlt') (λq hq=>Nat.ne_of_lt (hlt q hq)) ((yC _ hnd).trans ((lW _ _).trans (Br H.ps Xo)))
   (λp a e=>yD Xn hnd e) H.ib hf (by rw[List.length_nil,Nat.zero_add];exact H.fl) .nil F' N' λes' n' bk t hle acw aci=>⟨L',_,_,acw,aci,λuD uy=>⟨rfl,k _ _ ?_⟩⟩)
  have Y1:=X.newF (t:=t) (q:=dx) (o:=dictOf es' n') uD (jC uy λq hq=>.tail _ hq) hlt
  have Y2:=Y1.newF (t:=t) (q:=x) (o:=instObj (C.ca c) dx) uD (jC uy λq hq=>EY.mem_iff.mp hq) λq hq=>
   (List.mem_cons.mp ((List.Perm.append_left _ List.perm_middle).trans List.perm_middle |>.mem_iff.mp hq)).elim (λh=>h▸hlt') λh=>Nat.lt_trans (hlt q h) hlt'
  exact(Y2.push (.v (.inst (.head _) (.tail _ (.head _)) ((rW.of hle).mono λq hq=>.tail _ (.tail _ hq))))).st
end
noncomputable def Ed (C:Cx) (T:Tb):Prop:=∀c i,T.CT c=some i->keepIn C.K (.ref (C.ca c))=true/\∃f name qual params body scope cl dV kV doc pm an cdv ct es,Gk C c i f name qual params body scope cl dV kV doc pm an cdv ct es
section
variable {e aB aP bI:Expr}{ie bG bJ bO:IE}{pos apos np mH:Pos}{es:List Expr}{ies:List IE}{kws:List Keyword}{jT:List (Nat×IE)}
theorem yt (Z:Act C A aU base aj outer env L)(KC:Ed C T)(hroom:A.depth+1<recursionLimit){c:Nat}{as:List AV}{vs:List Value}{ks:List (Nat×AV)}{kvs:List Value}(hl:as.length=vs.length)(hk:ks.length=kvs.length)
  (S:St C P aj L f₀ σ₀ st ((ks.map (·.2)).zip kvs++(as.zip vs++tmp)) s){Q:PE}(h:Ip T c as ks st Q){R:Value->Shared->Prop}(k:KV C P aj L f₀ σ₀ Q tmp R):
  codeAny (model C.prog C.w) A (.call (.ref (C.ca c)) ⟨vs,(ks.map λp=>C.nm p.1).zip kvs⟩) (BJ R E) s:=
 aQ h λi hi h=>gC h λhc h=>an hc λc1 c2=>aQ h λfs hb h=>S.un λm σ τ pm om fz X=>by
  obtain⟨_,f,name,qual,params,body,scope,cl,dV,kV,doc,YK,an,cdv,ct,es,H⟩:=KC c i hi
  exact I7 (C:=C) ks kvs▸call_cls Z X.oU.oU H hroom (X.oU.items hl c1) (I9 hk c2 λq hq=>X.tmp q (List.mem_append_left _ hq)) hb (E:=E) λv s' S'=>k _ _ _ _ h S'
theorem Eo (Z:Act C A aU base aj outer env L)(KC:Ed C T)(hroom:A.depth+1<recursionLimit){c:Nat}{n:Str}(hn:nsIn C.K mainGlobals n=some (some (.ref (C.ca c))))(hk:env.kindOf n=some .globalImplicit)(hd:(n==("__debug__":Str))=false)
  (hkeep:keepIn C.K (.ref (C.ca c))=true)(ha:es.all notStar=true)(hkw:mX C kws (jT.map (·.1)))(ih:pD C (gD T CF) P A aj L f₀ σ₀ env pos es ies)(ihk:zN C (pG T CF) P A aj L f₀ σ₀ env pos kws jT):
  cu C (bf T CF) P A aj L f₀ σ₀ env (.Call (.Name n np) es kws pos) (.bR c ies jT):=λst tmp s Q E R h S K=>
 S.un λm σ τ pm om fz X=>wpAny_Call_ofName (gF Z X.fr hn hk hd (tY (PH:=C.K.In) ha hkw (keeps_K hkeep) (pU (fas:=[]) (fvs:=[]) ih ihk rfl S h λas vs ks kvs st' s' hq h1 h2 h3 S'=>⟨S'.In Z,by
  rw[<-h3,List.map_map]
  exact wpAny_call (yt (E:=E) Z KC hroom h1 h2 S' hq K)⟩)))
theorem Ep (Z:Act C A aU base aj outer env L)(KC:Ed C T)(hroom:A.depth+1<recursionLimit){x:Nat}{n:Str}(hn:n=C.nm x)(hl:env.kindOf n=some .local)(hd:(n==("__debug__":Str))=false)
  (ha:es.all notStar=true)(ih:pD C (gD T CF) P A aj L f₀ σ₀ env pos es ies):
  cu C (bf T CF) P A aj L f₀ σ₀ env (.Call (.Name n np) es [] pos) (.lq x ies):=λst tmp s Q E R h S K=>
 aQ h λc hc h=>bnd hc λv hv hc=>S.un λm σ τ pm om fz X=>Jg (jB h) λi0 hi0=>by
  obtain⟨u,h1,h2⟩:=X.ak _ _ hv
  subst hn
  revert h1
  refine h2.acd hc λh1=>wpAny_Call_ofName (wpAny_Name (wpAny_loadName_local Z.hk hl (Z.hL▸X.fr.ns) h1 (tY (C:=C) (ns:=[]) (kws:=[]) (PH:=C.K.In) ha rfl (keeps_K (KC c i0 hi0).1) (pU (fas:=[]) (fvs:=[]) (jT:=[]) (Q:=λvs ks st=>Ip T c vs [] st Q) ih wO rfl S (mV h) λas vs ks kvs st' s' hq h1 h2 h3 S'=>⟨S'.In Z,?_⟩))) hd)
  obtain rfl:=List.map_eq_nil_iff.mp h3
  exact wpAny_call (yt (E:=E) Z KC hroom h1 h2 S' hq K)
end
section
variable {e aB aP bI:Expr}{ie bG bJ bO:IE}{pos apos np mH:Pos}{es:List Expr}{ies:List IE}{kws:List Keyword}{jT:List (Nat×IE)}
theorem Cont.R2 {a:Cont}{x}(h:a.cO=some x):a= .c x.1 x.2:=by revert h;cases a<;>intro h<;>first|exact jk h|exact Option.some.inj h▸rfl
theorem bU.cellAt (X:bU C P aj L f₀ σ₀ st tmp s m σ τ pm om fz){k:Nat}{a:Addr}{v:AV}(h:Mine.cellAt st k a=some v){G:Prop}(K:∀u,VR C P fz v u->s.heap.IsCell a (some u)->G):G:=
 bnd h λc hc h=>bnd hc λco hg hc=>bnd h λw hw h=>X.own.at_ hg λb o h1 h2 h3=>by
  have e:w=v:=fL (R:=λv=>w=v) h λ_=>rfl
  have hb:=Nat.eq_of_beq_eq_true (tV h)
  rw[Cont.R2 hc,hw,e]at h3
  cases h3 with
  |c1 h3 h4=>exact K _ h4 ⟨o,hb▸(X.nw (_,o) (List.mem_append_right _ (List.mem_append_left _ h2))).1,h3⟩
theorem MN (Z:Act C A aU base aj outer env L){k:Nat}{a:Addr}{n:Str}(hc:env.cells.lookup n=some a)(hl:env.kindOf n=some .cell)(hd:(n==("__debug__":Str))=false):
  cu C (bf T CF) P A aj L f₀ σ₀ env (.Name n pos) (.jV k a):=λst tmp s Q E R h S K=>
 aQ h λv hv h=>S.un λm σ τ pm om fz X=>X.cellAt hv λu h1 h2=>wpAny_Name (wpAny_loadName_cell Z.hk hl hc h2 (K _ _ _ _ h (X.push (.v h1)).st)) hd
theorem cW.cell {b:Addr}{x:Addr×Option AV}{o:Obj}(h:cW C P fz b (.c x.1 x.2) o):b=x.1/\∃w,o.data= .cell w:=by
 obtain⟨y,z⟩:=x
 cases h with
 |c0 h=>exact⟨rfl,_,h⟩
 |c1 h _=>exact⟨rfl,_,h⟩
theorem St.G5 (hp0:f₀.p=[])(Z:Act C A aU base aj outer env L){a:AV}{v:Value}{st':AS}(S:St C P aj L f₀ σ₀ st ((a,v)::tmp) s){k:Nat}{b:Addr}{n:Str}(hc:env.cells.lookup n=some b)(hl:env.kindOf n=some .cell)(e:setCell st k b a=some st')
  {M:Model}{Q:Unit->Shared->Prop}(h:∀s',St C P aj L f₀ σ₀ st' tmp s'->Q () s'):wpAny M A (storeName env n v) Q E s:=
 S.un λm σ τ pm om fz X=>bnd e λx hx e=>bnd hx λc hg hx=>X.own.at_ hg λb1 o g1 g2 g3=>an (tV e) λc1 c2=>by
  obtain rfl:=Cont.R2 hx
  obtain⟨rfl,w,hw⟩:=g3.cell
  obtain rfl:=Nat.eq_of_beq_eq_true c2
  refine wpAny_storeName_cell Z.hk hl hc ⟨o,(X.nw (_,o) (List.mem_append_right _ (List.mem_append_left _ g2))).1,hw⟩ λh' hcell hs=>?_
  obtain⟨o',ho',hd'⟩:=hcell
  exact X.d1.upd hp0 (a:=.own k) (c':=.c x.1 (some a)) (t:=s.toks) (.own g1) hg hs ho' (.c1 hd' (X.t0.clo c1)) (fL (R:=λst'=>some {st with own:=put k (.c x.1 (some a)) st.own}=some st') e λ_=>rfl) λS'=>h _ S'
theorem Qf (hp0:f₀.p=[])(Z:Act C A aU base aj outer env L){k:Nat}{a:Addr}{n:Str}(hcl:env.cells.lookup n=some a)(hl:env.kindOf n=some .cell)(hc:d8 e=true)(ih:cu C (bf T CF) P A aj L f₀ σ₀ env e ie):
  j6 C (wp1 T CF) P A aj L f₀ σ₀ env (.Assign [.Name n np] e pos) (.Bv k a ie):=λst tmp s Q E R h S K=>
 wpAny_Assign_Name (ih _ _ _ _ E _ h S λv aR x bF aF S₁=>aQ aF λdG aP bk=>S₁.G5 hp0 Z hcl hl aP λs' S'=>K _ _ ⟨_,bk,S'⟩) (cZ hc _ _ _)
theorem M4 (Z:Act C A aU base aj outer env L)(iha:cu C (bf T CF) P A aj L f₀ σ₀ env aB bG)(ihb:cu C (bf T CF) P A aj L f₀ σ₀ env aP bJ):
  cu C (bf T CF) P A aj L f₀ σ₀ env (.BinOp aB .Add aP pos) (.cat bG bJ):=λst tmp s Q E R h S K=>
 wpAny_BinOp (iha _ _ _ _ E _ h S λu aR a bF aF S₁=>ihb _ _ _ _ E _ aF S₁ λv bY b dG bk S₂=>aQ bk λxs hx bk=>aQ bk λys hy bk=>gC bk λhb bk=>S₂.un λm σ τ pm om fz X=>
  X.wD X.t1 hx λd n vs g r hz=>X.wD X.t0 hy λd' n' ws g' r' hz'=>
   have l1:=r.length
   have l2:=r'.length
   add_lists X.fr X.nw (cR g) (cR g') (λh' F N=>K _ _ _ _ bk (((X.newF (t:=bY.toks) F N X.lt).d2.push (.v (.lst (.head _) ((r.append r').mono λq hq=>.tail _ hq) (by rw[List.length_append];exact Nat.le_of_ble_eq_true hb))))).st) (by have:sizeLine=16777216:=rfl;omega))
theorem En (Z:Act C A aU base aj outer env L)(CO:d7 C T CF P A aj L f₀ σ₀){x f:Nat}{n na:Str}(hn:n=C.nm x)(hl:env.kindOf n=some .local)(hd:(n==("__debug__":Str))=false)(hna:na=C.nm f)
  (hk:qu C.K C.CP na (C.fa f)=true)(hkeep:keepIn C.K (.ref (C.fa f))=true)(hline:(apos.endLine==pos.line)=true):
  cu C (bf T CF) P A aj L f₀ σ₀ env (.Call (.Attribute (.Name n np) na apos) [] [] pos) (.jz x f):=λst tmp s Q E R h S k=>
 gC h λh0 h=>S.un λm σ τ pm om fz X=>rH h0 λp hs hp ha0=>by
  subst hn hna
  exact Iz (C:=C) (ns:=[]) rfl rfl rfl rfl hline (wpAny_Name (wpAny_loadName_local Z.hk hl (Z.hL▸X.fr.ns) (vp X hs) λpl=>yu Z X hp ha0 hk (Km (fas:=[.self]) (fvs:=[.ref P]) (es:=[]) (ies:=[]) Z CO hkeep rfl Dv rfl (S.eO λ_=>.self) h k)) hd)
theorem JZ (Z:Act C A aU base aj outer env L){x k:Nat}{n:Str}(hn:n=C.nm x)(hl:env.kindOf n=some .local)(ih:pD C (gD T CF) P A aj L f₀ σ₀ env mH es ies):
  j6 C (wp1 T CF) P A aj L f₀ σ₀ env (.Assign [.Name n np] (.List es mH) pos) (.qx x k ies):=λst tmp s Q E R h S K=>
 wpAny_Assign_Name (wpAny_List (ih _ _ _ _ E _ h S λvs aR as bF aF hlen S₁=>gC aF λhc aF=>an hc λhc hf=>an hc λc1 c2=>S₁.un λm σ τ pm om fz X=>
  have hb:=Nat.le_of_ble_eq_true c2
  ⟨Nat.le_trans (hlen▸hb) (by decide),(X.oU.Io (Dt hf) (X.items hlen c1) hb).store Z hn hl λs' S'=>K _ _ ⟨_,aF,S'⟩⟩)) (cZ rfl _ _ _)
end
noncomputable def zf (K:Frag) (c:Addr):Bool:=plainGet K c "__class__"&&hasDictIn K c&&(findIn K (.ref c) "__class__"==some (some (.builtin "object.__class__")))&&
 (specialIn K (.builtin "object.__class__") "__get__"==some (some (.builtin "getset_descriptor.__get__")))&&(takesIn K (.builtin "object.__class__")==some true)&&(mroIn K c (.type "object")==some true)
noncomputable def Dl (K:Frag) (c d:Addr):Bool:=zf K c&&(clsIn K d).isSome&&(clsIn K c).isSome&&(typeIn K (.ref d)==some (.type "type"))&&(instIn K (.ref d) (.type "type")==some true)&&(instIn K (.ref c) (.type "type")==some true)&&(subIn K (.ref c) (.ref d)==some false)
section
variable {prog:Program}{w:World}{A:Around}{E:Value->Shared->Prop}{s:Shared}{K:Frag}{x c d:Addr}{ox:Obj}{od:Obj}{name:Str}
theorem Fv {od:Option Obj}{Q:Option Value->Shared->Prop}(X:K.In s.heap)(I:InstAt s.heap x ox c od)(hga:findIn K (.ref c) "__getattribute__"=some (some (.builtin "object.__getattribute__")))
  (h:wpAny (model prog w) A.in1 (Builtin.«proto.getattr_hooked» ⟨[.ref x,.str name s.toks],[]⟩)
   (λfin s'=>match fin with| .done (.ret v)=>wpAny (model prog w) A (handedOut v) (λv=>Q (some v)) (λ_ _=>False) s'|_=>False) (λe s'=>False) {s with toks:=s.toks+1}):
  wpAny (model prog w) A (getAttr? (.ref x) name) Q E s:=by
 obtain⟨hh,g,d,t,os⟩:=s
 have L0:=I.type (M:=model prog w)
 have L1:=looks_findIn (M:=model prog w) X hga
 unfold getAttr? getAttrBy? getAttrBy
 refine wpAny_bind (wpAny_mkText (wpAny_bind (wpAny_attempt (wpAny_holding (wpAny_bind (L0.at (wpAny_bind (L1.at ?_))))))))
 show wpAny _ _ (getAttrEveryday _ _ _) _ _ _
 refine wpAny_bind (wpAny_onRaise (wpAny_runValue (codeAny_builtin F.plainObj_entry_getattr_hooked (wpAny_mono h (λfin s' z=>?_) λ_ _ z=>z.elim))))
 rcases fin with(_|v|_|_) |_<;>first|exact z.elim|skip
 exact wpAny_mono z (λv s'' h'=>wpAny_pure h') λ_ _ z=>z.elim
theorem Av {Q:Option Value->Shared->Prop}(X:K.In s.heap)(I:InstAt s.heap x ox c (some od))(hk:zf K c=true)(h:Q (some (.ref c)) {s with toks:=s.toks+1}):wpAny (model prog w) A (getAttr? (.ref x) "__class__") Q E s:=by
 refine an hk λhk k6=>an hk λhk k5=>an hk λhk k4=>an hk λhk k3=>an hk λk1 k2=>?_
 have k3:=eq_of_beq k3
 have k4:=eq_of_beq k4
 have k5:=eq_of_beq k5
 have k6:=eq_of_beq k6
 have hf:findObj K c (some od) "__class__"=some (.bind (.builtin "getset_descriptor.__get__") (.builtin "object.__class__")):=findObj_data (by obtain⟨cd,hc,_⟩:=any_some k2;rw[hc];rfl) k3 k4 k5
 refine Fv X I (plainGet_of k1).1 ?_
 obtain⟨hh',gg,d,t,os⟩:=s
 have L0:=I.type (M:=model prog w)
 have L1:=looks_find (M:=model prog w) X I hf
 have L2:=looks_findIn (M:=model prog w) X (plainGet_of k1).2
 refine wpAny_bind (wpAny_pure (wpAny_bind (L0.at (wpAny_bind (L1.at (wpAny_bind (L2.at ?_)))))))
 show wpAny _ _ (holding [.builtin "object.__class__"] (call (.builtin "getset_descriptor.__get__") [.builtin "object.__class__",.ref x,.ref c])>>=ret) _ _ _
 refine wpAny_bind (wpAny_holding (wpAny_call (class_get (s:={heap:=hh',gens:=gg,drawn:=d,toks:=t+1,os:=os}) X I k6 (wpAny_pure ?_))))
 exact handed_on rfl h
theorem Jf {dep:Int}{tk:Tok}{Q:Fin->Shared->Prop}(X:K.In s.heap)(I:InstAt s.heap x ox c (some od))(e:Dl K c d=true)(hne:c≠d)(h:Q (.done (.ret (.bool false))) {s with toks:=s.toks+1}):
  wpAny (model prog w) A (Builtin.«isinstance.nested» ⟨[.ref x,.ref d,.int dep tk],[]⟩) Q E s:=by
 obtain⟨hh,g,dd,tt,os⟩:=s
 have ht:=I.type (M:=model prog w)
 refine an e λe e7=>an e λe e6=>an e λe e5=>an e λe e4=>an e λe e3=>an e λe1 e2=>?_
 have e4:=eq_of_beq e4
 have e5:=eq_of_beq e5
 have e6:=eq_of_beq e6
 have e7:=eq_of_beq e7
 unfold Builtin.«isinstance.nested»
 refine wpAny_bind (ht.at ?_)
 have q:((Value.ref c)==Value.ref d)=false:=by
  rw[Bool.eq_false_iff];intro k
  have:=eq_of_beq k
  cases this
  exact hne rfl
 rw[q,if_neg Bool.false_ne_true]
 have L1:=looks_typeIn (M:=model prog w) X e4
 have L2:=looks_instIn (M:=model prog w) X e5
 have L2':=looks_instIn (M:=model prog w) X e6
 have L3:Looks (model prog w) hh (isInstance (.ref x) (.ref d)) false:=ht.andThen (looks_subIn X e7)
 have L4:=looks_subIn (M:=model prog w) X e7
 refine wpAny_bind (L1.at ?_)
 rw[if_pos (by decide)]
 have LT:∀y,(clsIn K y).isSome=true->Looks (model prog w) hh (isType (.ref y)) true:=by
  intro y hy
  unfold clsIn at hy
  unfold isType
  split at hy
  ·rename_i ho
   exact(Looks.ld (X _ _ ho)).andThen .now
  ·cases hy
 have LT':=LT c e3
 have LT:=LT d e2
 k_delta "plainIsInstance"
 refine wpAny_bind (wpAny_bind (LT.at ?_))
 simp only[Bool.not_true,Bool.false_eq_true,if_false]
 refine wpAny_bind (L3.at ?_)
 simp only[Bool.false_eq_true,if_false]
 refine wpAny_bind (Av (s:=⟨hh,g,dd,tt,os⟩) X I e1 ?_)
 dsimp only
 refine wpAny_bind (LT'.at ?_)
 simp only[Bool.not_true,Bool.false_eq_true,if_false]
 refine wpAny_bind (wpAny_rule (L4.at (wpAny_pure h)))
theorem Vg {Q:Value->Shared->Prop}(X:K.In s.heap)(I:InstAt s.heap x ox c (some od))(e:Dl K c d=true)(hne:c≠d)(h:Q (.bool false) {s with toks:=s.toks+1}):
  wpAny (model prog w) A (call (.builtin "isinstance") [.ref x,.ref d]) Q E s:=
 call_isinstance_of (Jf X I e hne h) (λe=>by cases e)
end
noncomputable def Qj (C:Cx) (ev:List Nat):Bool:=ev.all λa=>ev.all λb=>match Nat.beq a b with
 |true=>PySem.W.isIn C.K (.ref (C.ca a)) (C.ca b)
 |false=>Dl C.K (C.ca a) (C.ca b)&& !Nat.beq (C.ca a) (C.ca b)
theorem R5 {ev:List Nat}{a:Nat}(h:ev.any (Nat.beq a ·)=true):a ∈ ev:=
 let ⟨_,h1,h2⟩:=List.any_eq_true.mp h
 Nat.eq_of_beq_eq_true h2▸h1
theorem VK {ev:List Nat}(h:Qj C ev=true){a b:Nat}(hab:(ev.any (Nat.beq a ·)&&ev.any (Nat.beq b ·))=true){R:Bool->Prop}(k1:PySem.W.isIn C.K (.ref (C.ca a)) (C.ca b)=true->R true)(k0:Dl C.K (C.ca a) (C.ca b)=true->C.ca a≠C.ca b->R false):R (Nat.beq a b):=an hab λha hb=>by
 have h:=List.all_eq_true.mp (List.all_eq_true.mp h _ (R5 ha)) _ (R5 hb)
 revert h
 cases Nat.beq a b with
 |true=>exact k1
 |false=>exact λh=>an h λh1 h2=>k0 h1 λe=>by rw[e,Nat.beq_refl]at h2;exact jJ h2
section
variable {e aB aP bI:Expr}{ie bG bJ bO:IE}{pos apos np mH:Pos}{es:List Expr}{ies:List IE}{kws:List Keyword}{jT:List (Nat×IE)}
theorem Mu (Z:Act C A aU base aj outer env L)(KE:Qj C T.EV=true){c:Nat}{n:Str}(hn:nsIn C.K mainGlobals "isinstance"=some none)(hk:env.kindOf "isinstance"=some .globalImplicit)(hn':nsIn C.K mainGlobals n=some (some (.ref (C.ca c))))(hk':env.kindOf n=some .globalImplicit)(hd':(n==("__debug__":Str))=false)
  (ha:notStar e=true)(ih:cu C (bf T CF) P A aj L f₀ σ₀ env e ie):
  cu C (bf T CF) P A aj L f₀ σ₀ env (.Call (.Name "isinstance" np) [e,.Name n mH] [] pos) (.Gn ie c):=λst tmp s Q E R h S K=>
 S.un λm σ τ pm om fz X=>wU (id:="isinstance") Z X.fr hn (by decide+kernel) (by decide) hk (by decide) (all2 ha rfl) (Bm ha rfl (ih _ _ _ _ E _ h S λv aR a bF aF S₁=>aQ aF λc' hc aF=>gC aF λhev aF=>S₁.un λm σ τ pm om fz X=>gF Z X.fr hn' hk' hd' (by
  refine X.t0.Ru hc λb d es n g1 g2 g3=>?_
  have I:InstAt aR.heap b (instObj (C.ca c'.1) d) (C.ca c'.1) (some (dictOf es n)):=InstAt.of_news X.nw (List.mem_append_right _ (List.mem_append_right _ g1)) (List.mem_append_right _ (List.mem_append_right _ g2))
  exact VK KE hev (R:=λr=>Q (.bool r) bF->_) (λk aF=>isi_call (t:=.ref (C.ca c'.1)) (Z.X.keeps X.fr.keep) (λM=>I.type) k (λe=>nomatch e) (K _ _ _ _ aF ((S₁.pop.toks aR.toks).eO λfz=>.bool _))) (λk1 k2 aF=>Vg (Z.X.keeps X.fr.keep) I k1 k2 (K _ _ _ _ aF ((S₁.pop.toks (aR.toks+1)).eO λfz=>.bool _))) aF)))
end
section
variable {e aB aP bI:Expr}{ie bG bJ bO:IE}{pos apos np mH:Pos}
theorem rP (Z:Act C A aU base aj outer env L)(F:Fr aj L s.heap m){n:Str}{id:String}{es:List Expr}(hn:nsIn C.K mainGlobals n=some none)(hv:bootBuiltins n=some (.type id))(hx:n≠"__name__")(hk:env.kindOf n=some .globalImplicit)(hd:(n==("__debug__":Str))=false)
  (ha:es.all notStar=true){Q:Value->Shared->Prop}(h:wpAny (model C.prog C.w) A (spliced (backTo pos (starEach es env))) (λvs aR=>wpAny (model C.prog C.w) A (call (.type id) vs) Q E aR) E s):
  wpAny (model C.prog C.w) A (eval (.Call (.Name n np) es [] pos) env) Q E s:=
 wpAny_Call_ofName (jU Z F hn hv hx hk hd (PyProof.Rows.callWith_type (first:=[]) (iK pos env ha) (nF ha h)))
theorem Z9 {kvs:List (Int×Value)}{xs:List (Int×AV)}(hr:pF C P fz xs kvs):∀{vs:List Value},vs.length=kvs.length->(∀(j:Nat) (v:Value),vs[j]? =some v->∃k x,kvs[j]? =some (k,x)/\(intKind C.prog C.w).is k v=true)->∀{cY},dz C P cY (xs.map λp=>.int p.1) vs:=by
 induction hr with
 |nil=>
  intro vs hl h cY
  cases vs with
  |nil=>exact .nil
  |cons=>cases hl
 | @cons i a v as es hv r ih=>
  intro vs hl h cY
  cases vs with
  |nil=>cases hl
  |cons u us=>
   obtain⟨k,x,h1,h2⟩:=h 0 u rfl
   have:(i,v)=(k,x):=by simpa using h1
   cases this
   obtain⟨t,rfl⟩:=Value.isInt_shape h2
   exact .cons (.int _ _) (ih (by simpa using hl) λj w e=>by simpa using h (j+1) w (by simpa using e))
theorem Hr (Z:Act C A aU base aj outer env L)(hn:nsIn C.K mainGlobals "list"=some none)(hk:env.kindOf "list"=some .globalImplicit)(ha:notStar e=true)(ih:cu C (bf T CF) P A aj L f₀ σ₀ env e ie):
  cu C (bf T CF) P A aj L f₀ σ₀ env (.Call (.Name "list" np) [e] [] pos) (.keys ie):=λst tmp s Q E R h S K=>
 S.un λm σ τ pm om fz X=>rP (id:="list") Z X.fr hn (by decide+kernel) (by decide) hk (by decide) (all1 ha) (gU ha (ih _ _ _ _ E _ h S λv aR a bF aF S₁=>aQ aF λxs hx aF=>S₁.un λm σ τ pm om fz X=>X.za X.t0 hx λd o kvs g r q hz hm=>
  let ⟨_,hat⟩:=(jg g r).dictAt
  kdl_N (kdl_dict (knd:=intKind C.prog C.w) (X.Ot Z hm)) Z.hh X.fr X.nw hat (by rw[<-q.length];exact Nat.le_trans hz (by decide)) λD c h' tk vs F N hD hlen hv=>
   K _ _ _ _ aF ((X.newF (t:=tk) F N hD).d1.push (.v (.lst (.head _) (Z9 q hlen hv) (by rw[List.length_map];exact hz)))).st))
end
theorem Oo {M:Model}{A:Around}{cd:Code}{E:Value->Shared->Prop}{s:Shared}{env:Env}{o:Expr}{name:Str}{apos pos:Pos}{args:List Expr}{Q:Value->Shared->Prop}
  (ha:args.all notStar=true)(hn:Nat.blt args.length 29=true)(hline:(apos.endLine==pos.line)=true)
  (h:_root_.PySem.wpAt M A cd (attributeBase o name env (eval o env)) (λov aR=>∀pl,wpAny M A (getMethod ov name pl) (λfx bY=>wpAny M A (callWith pos fx.1 fx.2 (backTo pos (starEach args env)) (backToKw pos (keywordEach [] env))) Q E bY) E aR) E s):
  _root_.PySem.wpAt M A cd (eval (.Call (.Attribute o name apos) args [] pos) env) Q E s:=by
 have hn':args.length<29:=by rw[<-Nat.blt_eq];exact hn
 rw[arm_eval_Call]
 refine _root_.PySem.wpAt_bind (ks_wpAt_mono h (λov aR aF=>_root_.PySem.wpAt_of_wpAny (wpAny_bind (wpAny_standAt ?_))) λ_ _ e=>e)
 have hform:methodCallForm (args.length+([]:List Keyword).length) (backTo pos (starEach args env)) (backToKw pos (keywordEach [] env))=true:=by
  unfold methodCallForm
  rw[oY pos env ha]
  exact decide_eq_true (Nat.lt_succ_of_lt hn':args.length+0+(if([]:List Keyword).isEmpty=true then 0 else 1)<30)
 have hpos:methodCallPos true o env apos pos=pure pos:=by unfold methodCallPos;simp[hline]
 unfold methodCall
 rw[hform]
 refine wpAny_bind (wpAny_holding (wpAny_mono (aF _) (λfx bY bk=>?_) λ_ _ e=>e))
 exact wpAny_bind (wpAny_of_eq hpos bk)
structure uw (C:Cx)(f0 f:Nat)(na:Str)(scope:Scope)(cda cc:Addr):Prop where
 node:∃(oc:Value) (od:Option Addr) (fd:FuncData) (osl:Array (Option Value)) (ar:Arg) (ccl:Value) (cdd:Option Addr) (vs:Array Value) (ccs:Array (Option Value)) (file:Str) (tf:Tok) (cl:Value) (cld:Option Addr) (D:Addr) (csl:Array (Option Value)) (cdD:ClassData),
  C.K.lookup (C.fa f0)=some ⟨oc,od,.func fd,osl⟩/\(fd.params.posonlyargs++fd.params.args).head?=some ar/\ar.arg=C.nm 0/\
  C.K.lookup cda=some ⟨ccl,cdd,.fields vs,ccs⟩/\vs[2]? =some (.str file tf)/\((C.prog.main.file:Str)==file)=true/\
  C.K.lookup cc=some ⟨cl,cld,.cell (some (.ref D)),csl⟩/\clsIn C.K D=some cdD/\mroIn C.K C.CP (.ref D)=some true/\scope.names.lookup ar.arg=some .local/\
  ks_superIn C.K C.CP D na=some (some (.ref (C.fa f)))
 ng:nsIn C.K mainGlobals "super"=some none
 na1:(na==("__class__":Str))=false
 ks:scope.names.lookup ("super":Str)=some .globalImplicit
 kc:scope.names.lookup ("__class__":Str)=some .free
 top:(C.prog.main.scope.names.lookup ("super":Str)).isSome=false
 tp:nsIn C.K cStatics "thirdparty.any"=some none
 ft:typeIn C.K (.ref (C.fa f))=some (.type "function")
 fn:fnIn C.K (C.fa f)=true
section
variable {P:Addr}{A aU:Around}{base aj:Heap}{outer:List Env}{L:Addr}{f₀:F0}{σ₀:List (Nat×Addr)}{T:Tb}{CF:fP}
 {st:AS}{tmp:List (AV×Value)}{s:Shared}{E:Value->Shared->Prop}{m:Str->Option Value}{σ τ:List (Nat×Addr)}{pm om fz:List (Addr×Obj)}
 {e aB aP bI:Expr}{ie bG bJ bO:IE}{pos apos np p0 p1:Pos}{qual:Str}{scope:Scope}{cda cc:Addr}{f0 f:Nat}{b:List Stmt}{ib:List IS}
theorem H7 {q r:Addr×Obj}{x y z:List (Addr×Obj)}:(r::(x++(y++q::z))).Perm (r::q::(x++(y++z))):=.cons _ ((List.Perm.append_left _ List.perm_middle).trans List.perm_middle)
theorem PB (Z:Act C A aU base aj outer (ksEnv qual scope L (C.fa f0) (.ref cda) cc) L)(CO:d7 C T CF P A aj L f₀ σ₀){na:Str}(H:uw C f0 f na scope cda cc)(ha:notStar e=true)(hline:(apos.endLine==pos.line)=true)
  (hboot:bootBuiltins "super"=some (.type "super"))(hpm:st.par.isSome=true)
  (ih:cu C (bf T CF) P A aj L f₀ σ₀ (ksEnv qual scope L (C.fa f0) (.ref cda) cc) e ie){Q:AS->Prop}{cd:List Stmt}
  (h:bf T CF (.sup f ie) st λ_ st=>Q st)(S:St C P aj L f₀ σ₀ st tmp s)(hself:get 0 st.ak=some .self){R:Value->Shared->Prop}(K:∀v s st,Q st->St C P aj L f₀ σ₀ st tmp s->R v s):
  _root_.PySem.wpAt (model C.prog C.w) A (.func cd (ksEnv qual scope L (C.fa f0) (.ref cda) cc)) (eval (.Call (.Attribute (.Call (.Name "super" p0) [] [] p1) na apos) [e] [] pos) (ksEnv qual scope L (C.fa f0) (.ref cda) cc)) R E s:=
 Jg hpm λp hp=>S.un λm σ τ pm om fz X=>X.sX hp λpd des k mu Z6 h1 h2 h3=>by
 obtain⟨oc,od,fd,osl,ar,ccl,cdd,vs,ccs,file,tf,cl,cld,D,csl,cdD,n1,n2,n3,n4,n5,n6,n7,n8,n9,n10,n11⟩:=H.node
 refine Oo (all1 ha) rfl hline (ks_node X.fr Z.X X.nw Z.T n1 n2 (n3▸gH X hself) (X.oh Z6) n4 n5 n6 n7 n8 n9 H.ng H.na1 H.ks H.kc n10 Z.hk H.top hboot λso h' F N hlt pl=>?_)
 have X1:=X.newF (t:=s.toks) F N hlt
 refine ks_method (s:={s with heap:=h'}) F Z.X N (.head _) (InstAt.of_news (C:=C.CP) (dx:=pd) (od:=dictOf des k) (sl:=#[]) N (by rw[Z6];exact .tail _ (.head _)) (by rw[Z6];exact .tail _ (.tail _ (.head _)))) H.tp n11 H.ft H.na1 λq h'' F2 N2 hlt2=>?_
 have X2:=X1.newF (s:={s with heap:=h'}) (t:=s.toks+1) F2 (o:=methodObj (.ref (C.fa f)) (.ref P)) (q:=q) (jC N2 λy hy=>H7.mem_iff.mp hy) λy hy=>hlt2 y (((List.Perm.append_left _ List.perm_middle).trans List.perm_middle).mem_iff.mp hy)
 refine tY (C:=C) (ns:=[]) (kws:=[]) (first:=[]) (PH:=MethP C.K q (C.fa f) (.ref P)) (all1 ha) rfl (keeps_M H.fn) (gU ha (ih _ _ _ _ E _ h (X2.push (.v (.bm f q (.head _)))).st λv aR a bF aF S₁=>gC aF λ_ aF=>S₁.un λm σ τ pm om fz Y=>wpAny_pure ?_))
 have hat:aR.heap.get? q=some (methodObj (.ref (C.fa f)) (.ref P)):=
  Y.t1.bm_ (R:=λu=>u= .ref q->_) rfl (λb hb e=>Value.ref.inj e▸Y.mK hb) rfl
 exact⟨⟨hat,Z.X.keeps Y.fr.keep⟩,wpAny_call (method_call hat (pX (as:=[.self,a]) (vs:=[.ref P,v]) (ks:=[]) (kvs:=[]) (tmp:=tmp) CO rfl rfl ((S₁.sub λq hq=>tK hq).eO λ_=>.self) aF (E:=E) λ_ _ _ _ h S=>K _ _ _ h S.pop))⟩
theorem JW (Z:Act C A aU base aj outer (ksEnv qual scope L (C.fa f0) (.ref cda) cc) L)(CO:d7 C T CF P A aj L f₀ σ₀){na:Str}(H:uw C f0 f na scope cda cc)(ha:notStar e=true)(hline:(apos.endLine==pos.line)=true)
  (hboot:bootBuiltins "super"=some (.type "super"))
  (ih:cu C (bf T CF) P A aj L f₀ σ₀ (ksEnv qual scope L (C.fa f0) (.ref cda) cc) e ie)(ihb:uE C (wpS T CF) P A aj L f₀ σ₀ (ksEnv qual scope L (C.fa f0) (.ref cda) cc) b ib):
  Xc C (wpS T CF) P A aj L f₀ σ₀ (ksEnv qual scope L (C.fa f0) (.ref cda) cc) (.Expr (.Call (.Attribute (.Call (.Name "super" p0) [] [] p1) na apos) [e] [] pos) np::b) (.uI f ie::ib):=λst tmp s Q E R h S k=>
 ks_wpAt_execs_cons (ks_wpAt_Expr_any (PB Z CO H ha hline hboot h.2.1 ih h.2.2 S h.1 λv s' st' h' S'=>_root_.PySem.wpAt_of_wpAny (ihb _ _ _ _ E _ h' S' k)) Z.hi (cZ rfl _ _ _))
end
section
variable {P:Addr}{A aU:Around}{base aj:Heap}{outer:List Env}{env:Env}{L:Addr}{f₀ jm:F0}{σ₀ bL:List (Nat×Addr)}{T:Tb}{CF:fP}
 {st:AS}{tmp:List (AV×Value)}{s:Shared}{E:Value->Shared->Prop}{m:Str->Option Value}{σ τ:List (Nat×Addr)}{pm om fz:List (Addr×Obj)}
theorem bU.rebase (X:bU C P aj L jm bL st tmp s m σ τ pm om fz)(h1:∀q ∈ f₀.f,q ∈ fz)(h2:∀q ∈ f₀.p,q ∈ pm)(h3:∀k a,get k σ₀=some a->get k σ=some a):bU C P aj L f₀ σ₀ st tmp s m σ τ pm om fz:=
 ⟨X.fr,X.nw,X.nd,X.ak,X.par,X.own,X.tmp,X.gens,X.drawn,X.os,h1,h3,h2⟩
theorem bU.swap (X:bU C P aj L jm bL st tmp s m σ τ pm om fz){wr:List Addr}{its its':List (Addr×Obj)}(h1:its.map (·.1)=wr)(h2:(its'.map (·.1)).Nodup)(h2':∀q ∈ its',q.1 ∈ wr)(hin:∀q ∈ its,q ∈ fz)(hmu:∀q ∈ its,ju q.2){h':Heap}{t:Nat}
  (hk:∀b o,b ∉ wr->s.heap.get? b=some o->h'.get? b=some o)(hn:∀q ∈ its',h'.get? q.1=some q.2):
  ∃cY,(∀q ∈ its',q ∈ cY)/\(∀q ∈ fz,q.1 ∉ wr->q ∈ cY)/\∀f₀ σ₀,(∀q ∈ f₀.f,q ∈ cY)->(∀q ∈ f₀.p,q ∈ pm)->(∀k a,get k σ₀=some a->get k σ=some a)->bU C P aj L f₀ σ₀ st tmp {s with heap:=h',toks:=t} m σ τ pm om cY:=by
 have hw:∀b ∈ wr,∃o,(b,o) ∈ its/\(b,o) ∈ fz:=by
  intro b hb
  rw[<-h1]at hb
  obtain⟨q,hq,rfl⟩:=List.mem_map.mp hb
  exact⟨q.2,hq,hin q hq⟩
 have nd:=X.nd
 rw[List.map_append,List.map_append]at nd
 have Za:=List.nodup_append.mp nd
 have Y9:=List.nodup_append.mp Za.2.1
 have uni:∀q ∈ fz,∀q' ∈ fz,q.1=q'.1->q=q':=by
  have:∀l:List (Addr×Obj),(l.map (·.1)).Nodup->∀q ∈ l,∀q' ∈ l,q.1=q'.1->q=q':=by
   intro l
   induction l with
   |nil=>intro _ q hq;cases hq
   |cons a r ih=>
    intro hnd q hq q' hq' e
    rw[List.map_cons,List.nodup_cons]at hnd
    rcases List.mem_cons.mp hq with rfl|hq1<;>rcases List.mem_cons.mp hq' with rfl|hq2
    ·rfl
    ·exact absurd (by rw[e];exact List.mem_map_of_mem hq2) hnd.1
    ·exact absurd (by rw[<-e];exact List.mem_map_of_mem hq1) hnd.1
    ·exact ih hnd.2 q hq1 q' hq2 e
  exact this fz Y9.2.1
 have hs:∀q ∈ fz,¬ju q.2->q ∈ its'++fz.filter (λq=>decide (q.1 ∉ wr)):=by
  intro q hq hm
  refine List.mem_append_right _ (List.mem_filter.mpr ⟨hq,decide_eq_true λhb=>hm ?_⟩)
  obtain⟨o,ho1,ho2⟩:=hw q.1 hb
  have:q=(q.1,o):=uni q hq _ ho2 rfl
  rw[this]
  exact hmu _ ho1
 have np:∀q ∈ pm,q.1 ∉ wr:=λq hq hb=>by
  obtain⟨o,_,ho⟩:=hw _ hb
  exact Za.2.2 q.1 (List.mem_map_of_mem hq) q.1 (List.mem_append_right _ (List.mem_map_of_mem (f:=(·.1)) ho)) rfl
 have no:∀q ∈ om,q.1 ∉ wr:=λq hq hb=>by
  obtain⟨o,_,ho⟩:=hw _ hb
  exact Y9.2.2 q.1 (List.mem_map_of_mem hq) q.1 (List.mem_map_of_mem (f:=(·.1)) ho) rfl
 have nh:∀b ∈ wr,aj.get? b=none/\b≠L:=λb hb=>by
  obtain⟨o,_,ho⟩:=hw _ hb
  have z:=X.nw _ (List.mem_append_right _ (List.mem_append_right _ ho))
  exact⟨z.2.2,z.2.1⟩
 refine⟨its'++fz.filter (λq=>decide (q.1 ∉ wr)),λq hq=>List.mem_append_left _ hq,λq hq hb=>List.mem_append_right _ (List.mem_filter.mpr ⟨hq,decide_eq_true hb⟩),λf₀ σ₀ k1 k2 k3=>?_⟩
 refine⟨⟨X.fr.ns.at' λo e=>hk _ o (λhb=>(nh _ hb).2 rfl) e,λb o e=>hk b o (λhb=>by rw[(nh b hb).1]at e;cases e) (X.fr.keep b o e),X.fr.above⟩,λq hq=>?_,?_,λx a e=>?_,X.par.thin hs,X.own.thin hs,λq hq=>(X.tmp q hq).thin hs,X.gens,X.drawn,X.os,k1,k3,k2⟩
 ·simp only[List.mem_append,List.mem_filter,decide_eq_true_eq]at hq
  rcases hq with h|h|h|⟨h,hb⟩
  ·have z:=X.nw q (List.mem_append_left _ h)
   exact⟨hk _ _ (np q h) z.1,z.2⟩
  ·have z:=X.nw q (List.mem_append_right _ (List.mem_append_left _ h))
   exact⟨hk _ _ (no q h) z.1,z.2⟩
  ·have hb:q.1 ∈ wr:=h2' q h
   exact⟨hn q h,(nh _ hb).2,(nh _ hb).1⟩
  ·have z:=X.nw q (List.mem_append_right _ (List.mem_append_right _ h))
   exact⟨hk _ _ hb z.1,z.2⟩
 ·rw[List.map_append,List.map_append,List.map_append]
  refine List.nodup_append.mpr ⟨Za.1,List.nodup_append.mpr ⟨Y9.1,List.nodup_append.mpr ⟨h2,?_,λa ha b hb e=>?_⟩,λa ha b hb e=>?_⟩,λa ha b hb e=>?_⟩
  ·exact Y9.2.1.sublist (List.Sublist.map _ List.filter_sublist)
  ·obtain⟨q,hq,rfl⟩:=List.mem_map.mp hb
   rw[List.mem_filter,decide_eq_true_eq]at hq
   obtain⟨q',hq',rfl⟩:=List.mem_map.mp ha
   exact hq.2 (by rw[<-e];exact h2' q' hq')
  ·rcases List.mem_append.mp hb with hb|hb
   ·obtain⟨q,hq,rfl⟩:=List.mem_map.mp ha
    obtain⟨q',hq',rfl⟩:=List.mem_map.mp hb
    exact no q hq (by rw[e];exact h2' q' hq')
   ·obtain⟨q,hq,rfl⟩:=List.mem_map.mp hb
    exact Y9.2.2 a ha q.1 (List.mem_map_of_mem (f:=(·.1)) (List.mem_filter.mp hq).1) e
  ·rcases List.mem_append.mp hb with hb|hb
   ·exact Za.2.2 a ha b (List.mem_append_left _ hb) e
   ·rcases List.mem_append.mp hb with hb|hb
    ·obtain⟨q,hq,rfl⟩:=List.mem_map.mp ha
     obtain⟨q',hq',rfl⟩:=List.mem_map.mp hb
     exact np q hq (by rw[e];exact h2' q' hq')
    ·obtain⟨q,hq,rfl⟩:=List.mem_map.mp hb
     exact Za.2.2 a ha q.1 (List.mem_append_right _ (List.mem_map_of_mem (f:=(·.1)) (List.mem_filter.mp hq).1)) e
 ·obtain⟨v,h1,h2⟩:=X.ak x a e
  exact⟨v,h1,h2.thin hs⟩
end
section
open PyProof.V
noncomputable def wM (T:Tb) (CF:fP) (kd:Xx) (xs:List Tg) (b:List IS) (v:AV) (full:List AV) (Q:PS) (l:List AV):AS->Prop:=
 l.foldr (λa (K:AS->Prop) st=>jM st kd v=some full/\pick (oW st xs a) λst=>wpS T CF b st λo st=>(match o with
   | .next=>K st
   | .brk=>Q .next st
   | .ret v=>Q (.ret v) st)) (Q .next)
section
variable {e aB aP bI:Expr}{ie bG bJ bO:IE}{pos apos np mH tp:Pos}{n:Str}{jm:F0}{bL:List (Nat×Addr)}{target:Expr}{body:List Stmt}{ib:List IS}{xs:List Tg}
noncomputable def qZ (C:Cx) (P:Addr) (A:Around) (aj:Heap) (L:Addr) (f₀:F0) (σ₀:List (Nat×Addr)) (env:Env) (target:Expr) (xs:List Tg):Prop:=
 ∀(st st':AS) (tmp:List (AV×Value)) (s:Shared) (a:AV) (v:Value) (Q:Unit->Shared->Prop) (E:Value->Shared->Prop),oW st xs a=some st'->St C P aj L f₀ σ₀ st ((a,v)::tmp) s->(∀s',St C P aj L f₀ σ₀ st' tmp s'->Q () s')->
  wpAny (model C.prog C.w) A (assign target env v) Q E s
inductive acy (C:Cx)(P:Addr)(aj:Heap)(L:Addr)(f₀:F0)(σ₀:List (Nat×Addr))(T:Tb)(CF:fP)(kd:Xx)(xs:List Tg)(ib:List IS)(v:AV)(l:List AV)(Q:PS)(p₁ kf:List (Addr×Obj))(wr:List Addr)(Wr:Nat->Heap->Prop)(tmp:List (AV×Value))(k:Nat)(s:Shared):Prop
 |mk (i:Nat) (st:AS) (m:Str->Option Value) (σ τ:List (Nat×Addr)) (pm om fz its:List (Addr×Obj)) (hil:i<=l.length) (hk:k=l.length+1 - i) (X:bU C P aj L f₀ σ₀ st tmp s m σ τ pm om fz) (hi1:its.map (·.1)=wr) (hi2:∀q ∈ its,q ∈ fz/\ju q.2) (hk0:∀q ∈ kf,q ∈ fz) (hp0:∀q ∈ p₁,q ∈ pm) (hst:Wr i s.heap)
   (h:wM T CF kd xs ib v l Q (l.drop i) st)
theorem oJ {target:Expr}{body:List Stmt}{ib:List IS}{kd:Xx}{xs:List Tg}{v:AV}{l:List AV}{p₁:List (Addr×Obj)}{kf:List (Addr×Obj)}{σs:List (Nat×Addr)}
  (hpp:∀q ∈ f₀.p,q ∈ p₁)(Gp:∀fz bL,qZ C P A aj L ⟨fz,p₁⟩ bL env target xs)(ihb:∀fz bL,uE C (wpS T CF) P A aj L ⟨fz,p₁⟩ bL env body ib)
  {I:Addr}{fp wr:List Addr}{Pv:Nat->Value->Prop}{Wr:Nat->Heap->Prop}(W:Walks C.prog C.w A I fp wr l.length Pv Wr)(hwr:wr.Nodup)
  (hobj:∀i h,Wr i h->∃its:List (Addr×Obj),its.map (·.1)=wr/\∀q ∈ its,h.get? q.1=some q.2/\ju q.2)
  (hfp:∀b ∈ fp,b ∈ wr∨(∃o,(b,o) ∈ kf)∨(∃o,(b,o) ∈ p₁))(hkf:∀q ∈ kf,q.1 ∉ wr)(hf:∀q ∈ f₀.f,q ∈ kf)
  (hgo:∀i v (s:Shared) (Q:Unit->Shared->Prop) (E:Value->Shared->Prop),Wr i s.heap->Q () s->wpAny (model C.prog C.w) A (letOwnedTupleGo target (.ref I) v) Q E s)
  (hval:∀i u fz,i<l.length->(∀q ∈ kf,q ∈ fz)->Pv i u->∃a,l[i]? =some a/\VR C P fz a u)
  {Q:PS}{R:Result->Shared->Prop}(hQ:vV C P aj L f₀ σ₀ Q tmp λfl=>R (.ok fl))
  (X:bU C P aj L f₀ σ₀ st tmp s m σ τ pm om fz){its:List (Addr×Obj)}(hi1:its.map (·.1)=wr)(hi2:∀q ∈ its,q ∈ fz/\ju q.2)(hk0:∀q ∈ kf,q ∈ fz)(hp0:∀q ∈ p₁,q ∈ pm)(hst:Wr 0 s.heap)
  (h:wM T CF kd xs ib v l Q l st):codeAny (model C.prog C.w) A (.forLoop target (.ref I) body [] env) R s:=by
 refine codeAny_forLoop_any (acy C P aj L f₀ σ₀ T CF kd xs ib v l Q p₁ kf wr Wr tmp) ?_ (l.length+1) ⟨0,st,m,σ,τ,pm,om,fz,its,Nat.zero_le _,rfl,X,hi1,hi2,hk0,hp0,hst,h⟩
 clear h hst hp0 hk0 hi2 hi1 X
 rintro k s' ⟨i,st,m,σ,τ,pm,om,fz,its,hil,rfl,X,hi1,hi2,hk0,hp0,hst,h⟩
 by_cases hlt:i<l.length
 ·refine W.item i _ _ _ hlt hst λu aF GQ hu Ar vJ=>?_
  obtain⟨its',hj1,hj2⟩:=hobj _ _ Ar
  obtain⟨cY,g1,g2,g3⟩:=X.swap (t:=GQ) hi1 (by rw[hj1];exact hwr) (λq hq=>hj1▸List.mem_map_of_mem hq) (λq hq=>(hi2 q hq).1) (λq hq=>(hi2 q hq).2) vJ (λq hq=>(hj2 q hq).1)
  have Y:=g3 ⟨cY,p₁⟩ σ (λ_ h=>h) hp0 (λ_ _ h=>h)
  have Jw:∀q ∈ kf,q ∈ cY:=λq hq=>g2 q (hk0 q hq) (hkf q hq)
  obtain⟨a,ha,hv⟩:=hval i u cY hlt Jw hu
  have hd:l.drop i=a::l.drop (i+1):=by
   rw[List.drop_eq_getElem_cons hlt]
   congr 1
   rw[List.getElem?_eq_getElem hlt]at ha
   exact Option.some.inj ha
  rw[hd]at h
  have ss:=X.ss
  clear hd ha hk0 hi2 hi1 X g2 g3
  have back:∀{st'' s'' QZ m σ' τ pm om ZQ},bU C P aj L ⟨cY,p₁⟩ σ st'' QZ s'' m σ' τ pm om ZQ->bU C P aj L f₀ σ₀ st'' QZ s'' m σ' τ pm om ZQ:=λZ=>Z.rebase (λq hq=>Z.ff q (Jw q (hf q hq))) (λq hq=>Z.pf q (hpp q hq)) (λk a e=>Z.ss k a (ss k a e))
  refine aQ h.2 λdG aP bk=>hgo _ _ _ _ _ Ar (Gp cY σ st dG tmp _ a u _ _ aP (Y.push (.v hv)).st λbY S₂=>ihb cY σ dG tmp bY _ _ _ bk S₂ λfl gZ bQ=>?_)
  match fl,bQ with
  | .next,⟨kO,bQ,fY⟩=>
   refine fY.un λabv XC Xy Rc Rj RG Z=>⟨l.length+1 - (i+1),by omega,i+1,kO,abv,XC,Xy,Rc,Rj,RG,its',hlt,rfl,back Z,hj1,λq hq=>⟨Z.ff q (g1 q hq),(hj2 q hq).2⟩,λq hq=>Z.ff q (Jw q hq),Z.pf,W.frame _ _ _ Ar λb hb o e=>?_,bQ⟩
   have same:∀o',(b,o') ∈ Rc++(Rj++RG)->aF.get? b=some o'->gZ.heap.get? b=some o:=λo' hm e'=>Option.some.inj (e'.symm.trans e)▸(Z.nw _ hm).1
   rcases hfp b hb with hb|⟨o',ho⟩ |⟨o',ho⟩
   ·obtain⟨q,hq,rfl⟩:=List.mem_map.mp (hj1▸hb)
    exact same q.2 (List.mem_append_right _ (List.mem_append_right _ (Z.ff q (g1 q hq)))) (hj2 q hq).1
   ·exact same o' (List.mem_append_right _ (List.mem_append_right _ (Z.ff _ (Jw _ ho)))) (Y.nw _ (List.mem_append_right _ (List.mem_append_right _ (Jw _ ho)))).1
   ·exact same o' (List.mem_append_left _ (Z.pf _ ho)) (Y.nw _ (List.mem_append_left _ (hp0 _ ho))).1
  | .brk,⟨kO,bQ,fY⟩=>exact hQ .next _ ⟨_,bQ,fY.un λ_ _ _ _ _ _ Z=>(back Z).st⟩
  | .ret u',⟨a',kO,bQ,fY⟩=>exact hQ (.ret u') _ ⟨_,_,bQ,fY.un λ_ _ _ _ _ _ Z=>(back Z).st⟩
 ·have hin:i=l.length:=by omega
  subst hin
  refine W.done _ _ _ hst λaF GQ vJ=>wpAny_execs_nil ?_
  rw[List.drop_length]at h
  obtain⟨cY,g1,g2,g3⟩:=X.swap (its':=[]) (t:=GQ) hi1 List.nodup_nil (λq hq=>nomatch hq) (λq hq=>(hi2 q hq).1) (λq hq=>(hi2 q hq).2) vJ (λq hq=>nomatch hq)
  exact hQ .next _ ⟨_,h,(g3 f₀ σ₀ (λq hq=>g2 q (hk0 q (hf q hq)) (hkf q (hf q hq))) X.pf X.ss).st⟩
end
end
theorem dz.XD {P fz}{as:List AV}{vs:List Value}(h:dz C P fz as vs):∀q ∈ as.zip vs,VR C P fz q.1 q.2:=
 h.ind (λ_ h=>nomatch h) λh _ i q hq=>(List.mem_cons.mp hq).elim (λe=>e▸h) (i q)
noncomputable def Ih (e:Expr):Bool:= !Nat.beq e.ctorIdx 25
noncomputable def Tg.rM:Tg->Bool
 | .l _=>true
 | .c _ _=>false
inductive Gq (C:Cx)(env:Env):Expr->Tg->Prop
 |l {n:Str} {np:Pos} {x:Nat}:n=C.nm x->env.kindOf n=some .local->Gq C env (.Name n np) (.l x)
 |c {n:Str} {np:Pos} {k:Nat} {a:Addr}:env.cells.lookup n=some a->env.kindOf n=some .cell->Gq C env (.Name n np) (.c k a)
section
variable {e aB aP bI:Expr}{ie bG bJ bO:IE}{pos apos np mH tp:Pos}{n:Str}{jm:F0}{bL:List (Nat×Addr)}{target:Expr}{body:List Stmt}{ib:List IS}{xs:List Tg}
theorem GR (Z:Act C A aU base aj outer env L){e:Expr}{t:Tg}(H:Gq C env e t)(hp:f₀.p=[]∨t.rM=true){st st':AS}{tmp:List (AV×Value)}{s:Shared}{a:AV}{v:Value}{M:Model}{Q:Unit->Shared->Prop}(h1:TG st t a=some st')
  (S:St C P aj L f₀ σ₀ st ((a,v)::tmp) s)(h:∀s',St C P aj L f₀ σ₀ st' tmp s'->Q () s'):wpAny M A (assign e env v) Q E s:=by
 cases H with
 |l hn hl=>exact fO Z S hn hl (Option.some.inj h1▸h)
 |c hc hl=>
  rw[arm_assign_Name]
  exact wpAny_bind (wpAny_standAt (wpAny_bindName (S.G5 (hp.elim id λh=>jJ h) Z hc hl h1 h)))
theorem Gq.each {e:Expr}{t:Tg}(H:Gq C env e t)(es:List Expr):assignEach (e::es) env=(false,assign e env)::assignEach es env:=by
 cases H<;>rfl
theorem u5 {es:List Expr}{ts:List Tg}(H:fZ (Gq C env) es ts):(assignEach es env).length=ts.length/\(assignEach es env).findIdx? (·.1)=none:=by
 induction H with
 |nil=>exact⟨rfl,rfl⟩
 |cons h r ih=>
  rw[h.each]
  refine⟨congrArg Nat.succ ih.1,?_⟩
  rw[List.findIdx?_cons,ih.2]
  rfl
theorem vm:∀{ts:List Tg} {vs:List AV} {st st':AS},Cq st ts vs=some st'->ts.length=vs.length
 |[],[],_,_,_=>rfl
 |[],_::_,_,_,h=>jk h
 |_::_,[],_,_,h=>jk h
 |_::_,_::_,_,_,h=>bnd h λ_ _ h=>congrArg Nat.succ (vm h)
theorem Ly (Z:Act C A aU base aj outer env L){M:Model}{es:List Expr}{ts:List Tg}(H:fZ (Gq C env) es ts):(f₀.p=[]∨ts.all Tg.rM=true)->∀{st st':AS} {tmp:List (AV×Value)} {s:Shared} {vs:List AV} {us:List Value} {Q:Unit->Shared->Prop},
  vs.length=us.length->Cq st ts vs=some st'->St C P aj L f₀ σ₀ st (vs.zip us++tmp) s->(∀s',St C P aj L f₀ σ₀ st' tmp s'->Q () s')->wpAny M A (assignInOrder ((assignEach es env).map (·.2)) us) Q E s:=by
 induction H with
 |nil=>exact λhp {st st' tmp s vs us Q}=>List.casesOn vs (List.casesOn us (λhl h1 S h=>wpAny_pure (h _ (Option.some.inj h1▸S))) λ_ _ hl=>nomatch hl) λ_ _ _ h1=>jk h1
 |cons hr r ih=>exact λhp {st st' tmp s vs us Q}=>List.casesOn vs (λ_ h1=>jk h1) λv vs=>List.casesOn us (λhl=>nomatch hl) λu us hl h1 S h=>bnd h1 λst1 e1 h1=>(by rw[hr.each];exact wpAny_assignInOrder_more (GR Z hr (hp.imp id λq=>an q λq _=>q) e1 S λs' S'=>ih (hp.imp id λq=>an q λ_ q=>q) (Nat.succ.inj hl) h1 S' h))
theorem u6 (Z:Act C A aU base aj outer env L){e:Expr}{t:Tg}(H:Gq C env e t)(hp:f₀.p=[]∨t.rM=true):qZ C P A aj L f₀ σ₀ env e [t]:=λst st' tmp s a v Q E h1 S h=>GR Z H hp h1 S h
theorem xP (Z:Act C A aU base aj outer env L){es:List Expr}{t t':Tg}{ts:List Tg}{k:Nat}(H:fZ (Gq C env) es (t::t'::ts))(hp:f₀.p=[]∨(t::t'::ts).all Tg.rM=true):qZ C P A aj L f₀ σ₀ env (.Tuple es k np) (t::t'::ts):=λst st' tmp s a v Q E h1 S h=>
 bnd h1 λvs hv h1=>S.un λm σ τ pm om fz X=>X.t0.S7 hv λus ad n g1 g2 g3=>
  unpackN_ X.fr X.nw (tup_is (X.mK g1)) Z.hh (by rw[(u5 H).1,vm h1,g2.length,List.size_toArray]) (u5 H).2 λh' F N=>
   Ly Z H hp g2.length h1 ((X.heap (t:=s.toks) F N).d1.GP (uH:=vs.zip us++tmp) λq hq=>(List.mem_append.mp hq).elim (λhq=>.v (g2.XD q hq)) (X.d1.tmp q)).st h
theorem Qd (Z:Act C A aU base aj outer env L){es:List Expr}{xs:List Tg}{k:Nat}(ht:qZ C P A aj L f₀ σ₀ env (.Tuple es k np) xs)(hc:d8 e=true)(hnt:Ih e=true)(ih:cu C (bf T CF) P A aj L f₀ σ₀ env e ie):
  j6 C (wp1 T CF) P A aj L f₀ σ₀ env (.Assign [.Tuple es k np] e pos) (.nD xs ie):=λst tmp s Q E R h S K=>
 Assign_Tuple (ih _ _ _ _ E _ h S λv aR a bF aF S₁=>aQ aF λdG aP bk=>ht _ _ _ _ _ _ _ _ aP S₁ λs' S'=>K _ _ ⟨_,bk,S'⟩) (by unfold swapsWithSole;exact cZ hc _ _ _) (by unfold swappedStores;cases e<;>first|rfl|cases hnt)
end
theorem dz.atV {P fz}{as:List AV}{vs:List Value}(h:dz C P fz as vs):∀(i:Nat) (v:Value),vs[i]? =some v->∃a,as[i]? =some a/\VR C P fz a v:=
 h.ind (λ_ _ e=>nomatch e) λh _ ih i a e=>match i with
 |0=>⟨_,rfl,Option.some.inj e▸h⟩
 |i+1=>ih i a e
noncomputable def m9 (e:Expr):Bool:= !Nat.beq e.ctorIdx 7
theorem iC {e:Expr}(h:m9 e=true)(env:Env)(x:Value):foldedSetIterable e env x=pure x:=by
 cases e<;>first|rfl|exact jJ h
theorem lV {T:String}{o:Obj}(h:o.cls= .type T)(n:T≠"tuple"/\T≠"list"/\T≠"method"/\T≠"dict"):ju o:=⟨T,h,n⟩
section
variable {e aB aP bI:Expr}{ie bG bJ bO:IE}{pos apos np mH tp:Pos}{n:Str}{jm:F0}{bL:List (Nat×Addr)}{target:Expr}{body:List Stmt}{ib:List IS}{xs:List Tg}
theorem bU.Zh (X:bU C P aj L f₀ σ₀ st tmp s m σ τ pm om fz):∀q ∈ fz,q.1<s.heap.objs.size:=λq hq=>X.lt q (List.mem_append_right _ (List.mem_append_right _ hq))
theorem Fd {α:Type}{a q:α}{R:α->Prop}(h:q ∈ [a])(k:R a):R q:=List.mem_singleton.mp h▸k
theorem yU (Z:Act C A aU base aj outer env L)(hs:m9 e=true)(Gp:∀fz bL,qZ C P A aj L ⟨fz,f₀.p⟩ bL env target xs)(ihb:∀fz bL,uE C (wpS T CF) P A aj L ⟨fz,f₀.p⟩ bL env body ib)(ih:cu C (bf T CF) P A aj L f₀ σ₀ env e ie):
  j6 C (wp1 T CF) P A aj L f₀ σ₀ env (.For target e body [] pos) (.jo .list xs ie ib):=λst tmp s Q E R h S K=>
 wpAny_For (ih _ _ _ _ E _ h S λu aR a bF aF S₁=>aQ aF λl hl aF=>S₁.un λm σ τ pm om fz X=>by
  refine X.t0.Ae hl λvs ax n g1 g2 g3=>?_
  have hax:=X.mK g1
  refine wpAny_pyIter_list (cR hax) ?_
  have Y:=X.d1.alloc {cls:=.type "list_iterator",data:=.fields #[.ref ax,.int 0 0]}
  have W:=Walks.list (prog:=C.prog) (w:=C.w) (A:=A) Z.hh aR.heap.objs.size ax (Nat.ne_of_lt (X.Zh _ g1)) vs.toArray
  rw[show vs.toArray.size=l.length from(List.size_toArray ..).trans g2.length.symm]at W
  have mu:("list_iterator":String)≠"tuple"/\("list_iterator":String)≠"list"/\("list_iterator":String)≠"method"/\("list_iterator":String)≠"dict":=by decide
  exact oJ (kd:=.list) (v:=a) (l:=l) (p₁:=f₀.p) (kf:=fz) (σs:=σ) (wr:=[aR.heap.objs.size]) (its:=[(aR.heap.objs.size,{cls:=.type "list_iterator",data:=.fields #[.ref ax,.int 0 0]})]) (tmp:=tmp)
   (λ_ h=>h) Gp ihb W (List.nodup_cons.mpr ⟨List.not_mem_nil,List.nodup_nil⟩) (λi h hi=>let ⟨⟨o,ho,hc,_⟩,_⟩:=hi;⟨[(aR.heap.objs.size,o)],rfl,λq hq=>Fd (R:=λq=>h.get? q.1=some q.2/\ju q.2) hq ⟨ho,lV hc mu⟩⟩) (λb hb=>(List.mem_cons.mp hb).elim (λe=>.inl (e▸.head _)) λhb=>.inr (.inl (Fd (R:=λb=>∃o,(b,o) ∈ fz) hb ⟨_,g1⟩))) (λq hq e=>Nat.ne_of_lt (X.Zh q hq) (List.mem_singleton.mp e)) X.ff (λi u s Q E hi hq=>letGo_listiter hi.1 hq) (λi u cY _ hk hu=>let ⟨a,h1,h2⟩:=g2.atV i u ((List.getElem?_toArray ..).symm.trans hu);⟨a,h1,h2.mono hk⟩)
   K Y rfl (λq hq=>⟨List.mem_singleton.mp hq▸.head _,List.mem_singleton.mp hq▸lV rfl mu⟩) (λq hq=>.tail _ hq) Y.pf ⟨⟨_,Heap.get?_push_size _ rfl,rfl,rfl⟩,(cR hax).push _⟩ aF) (λx=>iC hs env x)
end
section
open PyProof.V
variable {C:Cx}
section
variable {e aB aP bI:Expr}{ie bG bJ bO:IE}{pos apos np mH tp:Pos}{n:Str}{jm:F0}{bL:List (Nat×Addr)}{target:Expr}{body:List Stmt}{ib:List IS}{xs:List Tg}
theorem yR (Z:Act C A aU base aj outer env L)(Gp:∀fz bL,qZ C P A aj L ⟨fz,f₀.p⟩ bL env (.Name n np) xs)(ihb:∀fz bL,uE C (wpS T CF) P A aj L ⟨fz,f₀.p⟩ bL env body ib)
  {x:List Nat}{t:Tok}{ty:String}{st:AS}{s:Shared}(X:bU C P aj L f₀ σ₀ st tmp s m σ τ pm om fz)
  (W:Walks C.prog C.w A s.heap.objs.size [s.heap.objs.size] [s.heap.objs.size] (⟨x.toArray⟩:Str).cps.size (SignAt ⟨x.toArray⟩) (λi h=>h.IsStrIter s.heap.objs.size ty ⟨x.toArray⟩ t i))
  (hty:ty≠"tuple"/\ty≠"list"/\ty≠"method"/\ty≠"dict"){v:AV}{Q:PS}{R:Result->Shared->Prop}(hQ:vV C P aj L f₀ σ₀ Q tmp λfl=>R (.ok fl))
  (h:wM T CF .str xs ib v (x.map λc=>.str [c]) Q (x.map λc=>.str [c]) st):
  codeAny (model C.prog C.w) A (.forLoop (.Name n np) (.ref s.heap.objs.size) body [] env) R {s with heap:=s.heap.push {cls:=.type ty,data:=.fields #[.str ⟨x.toArray⟩ t,.int 0 0]}}:=by
 have Y:=X.alloc {cls:=.type ty,data:=.fields #[.str ⟨x.toArray⟩ t,.int 0 0]}
 have hsz:(⟨x.toArray⟩:Str).cps.size=(x.map λc=>AV.str [c]).length:=by simp
 rw[hsz]at W
 refine oJ (kd:=.str) (v:=v) (l:=x.map λc=>.str [c]) (p₁:=f₀.p) (kf:=fz) (σs:=σ) (wr:=[s.heap.objs.size]) (its:=[(s.heap.objs.size,{cls:=.type ty,data:=.fields #[.str ⟨x.toArray⟩ t,.int 0 0]})]) (tmp:=tmp)
  (λ_ h=>h) Gp ihb W (by simp) (λi h hi=>?_) (λb hb=>.inl hb) (λq hq=>?_) X.ff (λi u s Q E hi hq=>wpAny_pure hq) (λi u cY _ hk hu=>?_)
  hQ Y rfl (λq hq=>?_) (λq hq=>.tail _ hq) Y.pf ⟨_,Heap.get?_push_size _ rfl,rfl,rfl⟩ h
 ·obtain⟨o,ho,hc,_⟩:=hi
  exact⟨[(s.heap.objs.size,o)],rfl,λq hq=>Fd (R:=λq=>h.get? q.1=some q.2/\ju q.2) hq ⟨ho,ty,hc,hty⟩⟩
 ·exact λe=>Nat.ne_of_lt (X.Zh q hq) (List.mem_singleton.mp e)
 ·obtain⟨c,u',h1,rfl⟩:=hu
  exact⟨.str [c],by rw[List.getElem?_map,(List.getElem?_toArray ..).symm.trans h1];rfl,VR.str (C:=C) (P:=P) (fz:=cY) [c] u' (by decide:1<=100000)⟩
 ·exact⟨List.mem_singleton.mp hq▸.head _,List.mem_singleton.mp hq▸⟨ty,rfl,hty⟩⟩
theorem Bh (Z:Act C A aU base aj outer env L)(hs:m9 e=true)(Gp:∀fz bL,qZ C P A aj L ⟨fz,f₀.p⟩ bL env (.Name n np) xs)(ihb:∀fz bL,uE C (wpS T CF) P A aj L ⟨fz,f₀.p⟩ bL env body ib)(ih:cu C (bf T CF) P A aj L f₀ σ₀ env e ie):
  j6 C (wp1 T CF) P A aj L f₀ σ₀ env (.For (.Name n np) e body [] pos) (.jo .str xs ie ib):=λst tmp s Q E R h S K=>
 wpAny_For (ih _ _ _ _ E _ h S λu aR a bF aF S₁=>aQ aF λl hl aF=>S₁.un λm σ τ pm om fz X=>Ad hl λx hx hl=>X.t0.str_ hx λt hz=>by
  subst hl
  cases ha:(⟨x.toArray⟩:Str).cps.all (· <128)
  ·exact wpAny_pyIter_wide ha (yR Z Gp ihb X.d1 (Walks.strWide Z.hh _ _ _) (by decide) K aF)
  ·exact wpAny_pyIter_ascii ha (yR Z Gp ihb X.d1 (Walks.strAscii Z.hh _ _ _) (by decide) K aF)) (λx=>iC hs env x)
theorem z7 {k:Int}(h:0<=k):Builtin.Range.rangeSize 0 k 1=k:=by
 unfold Builtin.Range.rangeSize
 by_cases h0:(0:Int)<k
 ·simp[h0]
 ·have:k=0:=Int.le_antisymm (Int.not_lt.mp h0) h
  subst this;rfl
theorem oM (Z:Act C A aU base aj outer env L)(hn:nsIn C.K mainGlobals "range"=some none)(hk:env.kindOf "range"=some .globalImplicit)(hst:notStar e=true)(Gp:∀fz bL,qZ C P A aj L ⟨fz,f₀.p⟩ bL env (.Name n np) xs)(ihb:∀fz bL,uE C (wpS T CF) P A aj L ⟨fz,f₀.p⟩ bL env body ib)(ih:cu C (bf T CF) P A aj L f₀ σ₀ env e ie):
  j6 C (wp1 T CF) P A aj L f₀ σ₀ env (.For (.Name n np) (.Call (.Name "range" mH) [e] [] tp) body [] pos) (.jo .range xs ie ib):=λst tmp s Q E R h S K=>
 S.un λm σ τ pm om fz X=>wpAny_For (rP (id:="range") Z X.fr hn (by decide+kernel) (by decide) hk (by decide) (all1 hst) (gU hst (ih _ _ _ _ E _ h S λu aR a bF aF S₁=>aQ aF λl hl aF=>S₁.un λm σ τ pm om fz X=>bnd hl λk hk hl=>X.t0.int_ hk λt=>an (tV hl) λk0 k1=>by
  have k0:=of_decide_eq_true k0
  have k1:=of_decide_eq_true k1
  have hl:(List.range k.toNat).map (λ(i:Nat)=>AV.int (i:Int))=l:=fL (R:=λl=>_=l) hl λ_=>rfl
  subst hl
  refine call_range_1 ?_
  have X1:=X.d1.alloc {cls:=.type "range",data:=.fields #[.int 0 aR.toks,.int k t,.int 1 (aR.toks+1)]}
  refine wpAny_pyIter_range (IsRange.new _ _ _ _ _ _ _) (small_one (by decide) (by decide) (by omega) (by omega)) ?_
  rw[z7 k0]
  have Y:=(X1.toks (aR.toks+1+1)).alloc {cls:=.type "range_iterator",data:=.fields #[rawInt 0,rawInt k,rawInt 1]}
  have W:=Walks.range (prog:=C.prog) (w:=C.w) (A:=A) Z.hh (aR.heap.push {cls:=.type "range",data:=.fields #[.int 0 aR.toks,.int k t,.int 1 (aR.toks+1)]}).objs.size 0 1 ((List.range k.toNat).map λ(i:Nat)=>AV.int (i:Int)).length
  have mu:("range_iterator":String)≠"tuple"/\("range_iterator":String)≠"list"/\("range_iterator":String)≠"method"/\("range_iterator":String)≠"dict":=by decide
  have aas:=X1.Zh
  have aat:=X1.ff
  generalize hf1:(aR.heap.objs.size,({cls:=.type "range",data:=.fields #[.int 0 aR.toks,.int k t,.int 1 (aR.toks+1)]}:Obj))::fz=fz1 at Y aas aat
  generalize (aR.heap.push {cls:=.type "range",data:=.fields #[.int 0 aR.toks,.int k t,.int 1 (aR.toks+1)]})=h1 at*
  refine oJ (kd:=.range) (v:=a) (l:=(List.range k.toNat).map λ(i:Nat)=>.int (i:Int)) (p₁:=f₀.p) (kf:=fz1) (σs:=σ) (wr:=[h1.objs.size])
   (its:=[(h1.objs.size,{cls:=.type "range_iterator",data:=.fields #[rawInt 0,rawInt k,rawInt 1]})]) (tmp:=tmp)
   (λ_ h=>h) Gp ihb W (List.nodup_cons.mpr ⟨List.not_mem_nil,List.nodup_nil⟩) (λi h hi=>⟨[(_,_)],rfl,λq hq=>Fd (R:=λq=>h.get? q.1=some q.2/\ju q.2) hq ⟨hi,lV rfl mu⟩⟩) (λb hb=>.inl hb) (λq hq e=>Nat.ne_of_lt (aas q hq) (List.mem_singleton.mp e)) aat (λi u s Q E hi hq=>wpAny_pure hq) (λi u cY hik hk hu=>?_)
   K Y rfl (λq hq=>⟨List.mem_singleton.mp hq▸.head _,List.mem_singleton.mp hq▸lV rfl mu⟩) (λq hq=>.tail _ hq) Y.pf ?_ aF
  ·obtain⟨u',rfl⟩:=hu
   rw[List.length_map,List.length_range]at hik
   refine⟨.int (i:Int),?_,?_⟩
   ·rw[List.getElem?_map,List.getElem?_range hik];rfl
   ·rw[show(0:Int)+(i:Int)*1=(i:Int) by omega];exact .int _ _
  ·have e2:((((List.range k.toNat).map λ(i:Nat)=>AV.int (i:Int)).length:Nat):Int) - ((0:Nat):Int)=k:=by rw[List.length_map,List.length_range];omega
   show IsRangeIter _ _ _ _ _
   rw[show(0:Int)+((0:Nat):Int)*1=0 from by decide,e2]
   exact Heap.get?_push_size _ rfl))) (λx=>iC rfl env x)
end
end
section
open PyProof.V
variable {C:Cx}
section
variable {e aB aP bI:Expr}{ie bG bJ bO:IE}{pos apos np mH tp:Pos}{n:Str}{jm:F0}{bL:List (Nat×Addr)}{target:Expr}{body:List Stmt}{ib:List IS}{xs:List Tg}
theorem V0 {kvs:List (Int×Value)}{xs:List (Int×AV)}(hr:pF C P fz xs kvs):∀{i:Nat} {k:Int} {x:Value},kvs[i]? =some (k,x)->(xs.map λp=>AV.int p.1)[i]? =some (.int k):=by
 induction hr with
 |nil=>exact λe=>nomatch e
 |cons hv r ih=>exact λ{i k x} e=>match i with
  |0=>congrArg (λp:Int×Value=>some (AV.int p.1)) (Option.some.inj e)
  |i+1=>ih (i:=i) e
theorem AV.H6 {a:AV}{x}(h:a.Rb=some x):a= .bN x:=by revert h;cases a<;>intro h<;>first|exact jk h|exact Option.some.inj h▸rfl
theorem yV (Z:Act C A aU base aj outer env L)(hs:m9 e=true)(Gp:∀jm bL,qZ C P A aj L jm bL env target xs)(ihb:∀jm bL,uE C (wpS T CF) P A aj L jm bL env body ib)(ih:cu C (bf T CF) P A aj L f₀ σ₀ env e ie):
  j6 C (wp1 T CF) P A aj L f₀ σ₀ env (.For target e body [] pos) (.jo .dict xs ie ib):=λst tmp s Q E R h S K=>
 wpAny_For (ih _ _ _ _ E _ h S λu aR a bF aF S₁=>aQ aF λl hl aF=>S₁.un λm σ τ pm om fz X=>bnd hl λk hk hl=>Ad hl λds hsl hl=>bnd hsl λc hsl hc=>bnd hsl λp hp hsl=>X.sX hp λpd es kk mu Z6 q1 q2 q3=>X.t0.YJ (AV.H6 hk) λd hd=>q2.at_ hsl λb o g1 g2 g3=>by
  obtain rfl:=Option.some.inj (g1.symm.trans hd)
  subst hl
  have hdm:(b,o) ∈ pm:=Z6▸.tail _ (.tail _ g2)
  refine(Cont.RN hc▸g3:cW C P fz b (.d ds) o).d_ λkvs r hkv hz=>?_
  have hg:=(X.nw _ (List.mem_append_left _ hdm)).1
  obtain⟨ep,hat⟩:=(jg hg r).dictAt
  refine wpAny_pyIter_dict (X.Ot Z (List.mem_append_left _ hdm)) hat ?_
  have Y:=X.d1.alloc {cls:=.type "dict_keyiterator",data:=.fields #[.ref b,.int 0 0,.int kvs.length 0,.int ep 0]}
  have W:=Walks.dictKeys (prog:=C.prog) (w:=C.w) (A:=A) (knd:=intKind C.prog C.w) Z.hh aR.heap.objs.size b (Nat.ne_of_lt (X.lt _ (List.mem_append_left _ hdm))) kvs ep
  have W':Walks C.prog C.w A aR.heap.objs.size [aR.heap.objs.size,b] [aR.heap.objs.size] (ds.map λp=>AV.int p.1).length (λi v=>∃k x,kvs[i]? =some (k,x)/\(intKind C.prog C.w).is k v=true) (λi h=>h.IsKeyIter aR.heap.objs.size b i kvs.length ep/\h.DictAt (intKind C.prog C.w) b kvs ep):=by
   rw[List.length_map,hkv.length];exact W
  have mu:("dict_keyiterator":String)≠"tuple"/\("dict_keyiterator":String)≠"list"/\("dict_keyiterator":String)≠"method"/\("dict_keyiterator":String)≠"dict":=by decide
  refine oJ (kd:=.dict) (v:=a) (l:=ds.map λ(p:Int×AV)=>AV.int p.1) (p₁:=pm) (kf:=fz) (σs:=σ) (wr:=[aR.heap.objs.size]) (its:=[(aR.heap.objs.size,{cls:=.type "dict_keyiterator",data:=.fields #[.ref b,.int 0 0,.int kvs.length 0,.int ep 0]})]) (tmp:=tmp)
   X.pf (λfz bL=>Gp _ bL) (λfz bL=>ihb _ bL) W' (List.nodup_cons.mpr ⟨List.not_mem_nil,List.nodup_nil⟩) (λi h hi=>let ⟨⟨o,ho,hc,_⟩,_⟩:=hi;⟨[(aR.heap.objs.size,o)],rfl,λq hq=>Fd (R:=λq=>h.get? q.1=some q.2/\ju q.2) hq ⟨ho,lV hc mu⟩⟩) (λc hb=>(List.mem_cons.mp hb).elim (λe=>.inl (e▸.head _)) λhb=>.inr (.inr (Fd (R:=λc=>∃o,(c,o) ∈ pm) hb ⟨_,hdm⟩))) (λq hq e=>Nat.ne_of_lt (X.Zh q hq) (List.mem_singleton.mp e)) X.ff (λi u s Q E hi hq=>letGo_keyiter hi.1 hq) (λi u cY hik hk hu=>?_)
   K Y rfl (λq hq=>⟨List.mem_singleton.mp hq▸.head _,List.mem_singleton.mp hq▸lV rfl mu⟩) (λq hq=>.tail _ hq) (λq hq=>hq) ⟨⟨_,Heap.get?_push_size _ rfl,rfl,rfl⟩,hat.push _⟩ aF
  obtain⟨kx,x,h1,h2⟩:=hu
  obtain⟨t,rfl⟩:=Value.isInt_shape h2
  exact⟨.int kx,V0 hkv h1,.int _ _⟩) (λx=>iC hs env x)
end
end
end
section
open PyProof.V
structure q7 where
 at_:List Nat
 ac:List Nat
 mt:List Nat
 gt:List Nat
 ct:List Nat
 st:List (Nat×Addr)
structure TabsOk (C:Cx)(T:Tb)(D:q7):Prop where
 at_:∀a ∈ D.at_,attrOk C.K C.CP (C.nm a)=true
 ac:∀a ∈ D.ac,Wn C.K C.CP (C.nm a)=true
 mt:∀f ∈ D.mt,qu C.K C.CP (C.nm f) (C.fa f)=true/\keepIn C.K (.ref (C.fa f))=true
 gt:∀f ∈ D.gt,nsIn C.K mainGlobals (C.nm f)=some (some (.ref (C.fa f)))/\keepIn C.K (.ref (C.fa f))=true
 ct:∀c ∈ D.ct,nsIn C.K mainGlobals (C.nm c)=some (some (.ref (C.ca c)))/\keepIn C.K (.ref (C.ca c))=true
 st:∀q ∈ D.st,vN C.K C.CP (C.nm q.1) (.top q.2)=true
 b1:nsIn C.K mainGlobals "len"=some none
 b2:nsIn C.K mainGlobals "isinstance"=some none
 b3:nsIn C.K mainGlobals "str"=some none
 b4:nsIn C.K mainGlobals "list"=some none
 b5:nsIn C.K mainGlobals "range"=some none
 b6:nsIn C.K mainGlobals "enumerate"=some none
 tb:uX C T
 ctk:∀c i,T.CT c=some i->K8 C c i
 cls:Ed C T
 ev:Qj C T.EV=true
 kf:∀f i,T.FT f=some i->fnIn C.K (C.fa f)=true
theorem aao {α:Type}{l:List α}{f:α->Bool}(h:l.any f=true){G:Prop}(k:∀y,y ∈ l->f y=true->G):G:=ex2 (List.any_eq_true.mp h) k
noncomputable def has (l:List Nat) (x:Nat):Bool:=l.any (Nat.beq x ·)
theorem dI {l:List Nat}{x:Nat}(h:has l x=true):x ∈ l:=aao h λ_ hy e=>Nat.eq_of_beq_eq_true e▸hy
noncomputable def ZG (l:List (Nat×Addr)) (x:Nat) (a:Addr):Bool:=l.any λq=>Nat.beq x q.1&&Nat.beq a q.2
theorem JB {l:List (Nat×Addr)}{x:Nat}{a:Addr}(h:ZG l x a=true):(x,a) ∈ l:=aao h λ_ hy e=>an e λe1 e2=>Nat.eq_of_beq_eq_true e1▸Nat.eq_of_beq_eq_true e2▸hy
noncomputable abbrev Names:=List (Str×NameKind)
noncomputable def Ag (sc:Names) (n:Str):Bool:=decide (sc.lookup n=some .local)&& !(n==("__debug__":Str))
noncomputable def Vf (sc:Names) (n:Str):Bool:=decide (sc.lookup n=some .globalImplicit)&& !(n==("__debug__":Str))
noncomputable def Je (sc:Names) (n:Str):Bool:=decide (sc.lookup n=some .cell)&& !(n==("__debug__":Str))
theorem nk {x:Option NameKind}{k:NameKind}{b:Bool}(h:(decide (x=some k)&& !b)=true):x=some k/\b=false:=an h λh g=>⟨of_decide_eq_true h,by cases b;rfl;exact nomatch g⟩
theorem jR {sc:Names}{n:Str}(h:Ag sc n=true):sc.lookup n=some .local/\(n==("__debug__":Str))=false:=nk h
theorem wG {sc:Names}{n:Str}(h:Vf sc n=true):sc.lookup n=some .globalImplicit/\(n==("__debug__":Str))=false:=nk h
theorem Dk {sc:Names}{n:Str}(h:Je sc n=true):sc.lookup n=some .cell/\(n==("__debug__":Str))=false:=nk h
noncomputable def tX (cl:List (Str×Addr)) (n:Str) (a:Addr):Bool:=decide (cl.lookup n=some a)
theorem FN {cl:List (Str×Addr)}{n:Str}{a:Addr}(h:tX cl n a=true):cl.lookup n=some a:=of_decide_eq_true h
noncomputable def dX {α β:Type} (f:α->β->Bool):List α->List β->Bool
 |[],[]=>true
 |a::r,b::q=>f a b&&dX f r q
 |_,_=>false
theorem cH {α β:Type}{f:α->β->Bool}{R:α->β->Prop}(H:∀a b,f a b=true->R a b):∀{as:List α} {bs:List β},dX f as bs=true->fZ R as bs
 |[],[],_=>.nil
 |a::r,b::q,h=>by
  exact an h λh g=>.cons (H _ _ h) (cH H g)
 |[],_::_,h=>nomatch h
 |_::_,[],h=>nomatch h
theorem dk {c:Prop}[d:Decidable c]{f:c->Bool}(h:dite c f (λ_=>false)=true){G:Prop}(k:∀g,f g=true->G):G:=match d,h with
 | .isTrue g,h=>k g h
 | .isFalse _,h=>jJ h
noncomputable def cC (x:Expr) (k:Str->Bool):Bool:=dite (x.ctorIdx=23) (λh=>Expr.Name.elim (motive_1:=λ_=>Bool) x h (λa0 _=>k a0)) λ_=>false
theorem bM {x:Expr}{k:Str->Bool}{P:Expr->Prop}(h:cC x k=true)(H:∀a0 a1,k a0=true->P (.Name a0 a1)):P x:=
 dk h λg=>Expr.Name.elim (motive_1:=λx=>∀g:x.ctorIdx=23,Expr.Name.elim (motive_1:=λ_=>Bool) x g (λa0 _=>k a0)=true->P x) x g (λa0 a1 _ h=>H a0 a1 h) g
noncomputable def s7 (x:Expr) (k:Expr->Str->Pos->Bool):Bool:=dite (x.ctorIdx=20) (λh=>Expr.Attribute.elim (motive_1:=λ_=>Bool) x h (λa0 a1 a2=>k a0 a1 a2)) λ_=>false
theorem nR {x:Expr}{k:Expr->Str->Pos->Bool}{P:Expr->Prop}(h:s7 x k=true)(H:∀a0 a1 a2,k a0 a1 a2=true->P (.Attribute a0 a1 a2)):P x:=
 dk h λg=>Expr.Attribute.elim (motive_1:=λx=>∀g:x.ctorIdx=20,Expr.Attribute.elim (motive_1:=λ_=>Bool) x g (λa0 a1 a2=>k a0 a1 a2)=true->P x) x g (λa0 a1 a2 _ h=>H a0 a1 a2 h) g
noncomputable def fW (x:Expr) (k:Expr->List Expr->List Keyword->Pos->Bool):Bool:=dite (x.ctorIdx=16) (λh=>Expr.Call.elim (motive_1:=λ_=>Bool) x h (λa0 a1 a2 a3=>k a0 a1 a2 a3)) λ_=>false
theorem kZ {x:Expr}{k:Expr->List Expr->List Keyword->Pos->Bool}{P:Expr->Prop}(h:fW x k=true)(H:∀a0 a1 a2 a3,k a0 a1 a2 a3=true->P (.Call a0 a1 a2 a3)):P x:=
 dk h λg=>Expr.Call.elim (motive_1:=λx=>∀g:x.ctorIdx=16,Expr.Call.elim (motive_1:=λ_=>Bool) x g (λa0 a1 a2 a3=>k a0 a1 a2 a3)=true->P x) x g (λa0 a1 a2 a3 _ h=>H a0 a1 a2 a3 h) g
noncomputable def Ib (x:Expr) (k:Const->Bool):Bool:=dite (x.ctorIdx=19) (λh=>Expr.Constant.elim (motive_1:=λ_=>Bool) x h (λa0 _ _=>k a0)) λ_=>false
theorem wu {x:Expr}{k:Const->Bool}{P:Expr->Prop}(h:Ib x k=true)(H:∀a0 a1 a2,k a0=true->P (.Constant a0 a1 a2)):P x:=
 dk h λg=>Expr.Constant.elim (motive_1:=λx=>∀g:x.ctorIdx=19,Expr.Constant.elim (motive_1:=λ_=>Bool) x g (λa0 _ _=>k a0)=true->P x) x g (λa0 a1 a2 _ h=>H a0 a1 a2 h) g
noncomputable def Aa (x:Expr) (k:Expr->Expr->Bool):Bool:=dite (x.ctorIdx=21) (λh=>Expr.Subscript.elim (motive_1:=λ_=>Bool) x h (λa0 a1 _=>k a0 a1)) λ_=>false
theorem rD {x:Expr}{k:Expr->Expr->Bool}{P:Expr->Prop}(h:Aa x k=true)(H:∀a0 a1 a2,k a0 a1=true->P (.Subscript a0 a1 a2)):P x:=
 dk h λg=>Expr.Subscript.elim (motive_1:=λx=>∀g:x.ctorIdx=21,Expr.Subscript.elim (motive_1:=λ_=>Bool) x g (λa0 a1 _=>k a0 a1)=true->P x) x g (λa0 a1 a2 _ h=>H a0 a1 a2 h) g
noncomputable def NP (x:Expr) (k:Option Expr->Option Expr->Option Expr->Bool):Bool:=dite (x.ctorIdx=26) (λh=>Expr.Slice.elim (motive_1:=λ_=>Bool) x h (λa0 a1 a2 _=>k a0 a1 a2)) λ_=>false
theorem NK {x:Expr}{k:Option Expr->Option Expr->Option Expr->Bool}{P:Expr->Prop}(h:NP x k=true)(H:∀a0 a1 a2 a3,k a0 a1 a2=true->P (.Slice a0 a1 a2 a3)):P x:=
 dk h λg=>Expr.Slice.elim (motive_1:=λx=>∀g:x.ctorIdx=26,Expr.Slice.elim (motive_1:=λ_=>Bool) x g (λa0 a1 a2 _=>k a0 a1 a2)=true->P x) x g (λa0 a1 a2 a3 _ h=>H a0 a1 a2 a3 h) g
noncomputable def Ie (x:Expr) (k:Expr->List CmpOp->List Expr->Bool):Bool:=dite (x.ctorIdx=15) (λh=>Expr.Compare.elim (motive_1:=λ_=>Bool) x h (λa0 a1 a2 _=>k a0 a1 a2)) λ_=>false
theorem CV {x:Expr}{k:Expr->List CmpOp->List Expr->Bool}{P:Expr->Prop}(h:Ie x k=true)(H:∀a0 a1 a2 a3,k a0 a1 a2=true->P (.Compare a0 a1 a2 a3)):P x:=
 dk h λg=>Expr.Compare.elim (motive_1:=λx=>∀g:x.ctorIdx=15,Expr.Compare.elim (motive_1:=λ_=>Bool) x g (λa0 a1 a2 _=>k a0 a1 a2)=true->P x) x g (λa0 a1 a2 a3 _ h=>H a0 a1 a2 a3 h) g
noncomputable def YX (x:Expr) (k:BoolOp->List Expr->Bool):Bool:=dite (x.ctorIdx=0) (λh=>Expr.BoolOp.elim (motive_1:=λ_=>Bool) x h (λa0 a1 _=>k a0 a1)) λ_=>false
theorem wz {x:Expr}{k:BoolOp->List Expr->Bool}{P:Expr->Prop}(h:YX x k=true)(H:∀a0 a1 a2,k a0 a1=true->P (.BoolOp a0 a1 a2)):P x:=
 dk h λg=>Expr.BoolOp.elim (motive_1:=λx=>∀g:x.ctorIdx=0,Expr.BoolOp.elim (motive_1:=λ_=>Bool) x g (λa0 a1 _=>k a0 a1)=true->P x) x g (λa0 a1 a2 _ h=>H a0 a1 a2 h) g
noncomputable def YM (x:Expr) (k:UnaryOp->Expr->Bool):Bool:=dite (x.ctorIdx=3) (λh=>Expr.UnaryOp.elim (motive_1:=λ_=>Bool) x h (λa0 a1 _=>k a0 a1)) λ_=>false
theorem wj {x:Expr}{k:UnaryOp->Expr->Bool}{P:Expr->Prop}(h:YM x k=true)(H:∀a0 a1 a2,k a0 a1=true->P (.UnaryOp a0 a1 a2)):P x:=
 dk h λg=>Expr.UnaryOp.elim (motive_1:=λx=>∀g:x.ctorIdx=3,Expr.UnaryOp.elim (motive_1:=λ_=>Bool) x g (λa0 a1 _=>k a0 a1)=true->P x) x g (λa0 a1 a2 _ h=>H a0 a1 a2 h) g
noncomputable def oIf (x:Expr) (k:Expr->Expr->Expr->Bool):Bool:=dite (x.ctorIdx=5) (λh=>Expr.IfExp.elim (motive_1:=λ_=>Bool) x h (λa0 a1 a2 _=>k a0 a1 a2)) λ_=>false
theorem Uv {x:Expr}{k:Expr->Expr->Expr->Bool}{P:Expr->Prop}(h:oIf x k=true)(H:∀a0 a1 a2 a3,k a0 a1 a2=true->P (.IfExp a0 a1 a2 a3)):P x:=
 dk h λg=>Expr.IfExp.elim (motive_1:=λx=>∀g:x.ctorIdx=5,Expr.IfExp.elim (motive_1:=λ_=>Bool) x g (λa0 a1 a2 _=>k a0 a1 a2)=true->P x) x g (λa0 a1 a2 a3 _ h=>H a0 a1 a2 a3 h) g
noncomputable def Uw (x:Expr) (k:Expr->Operator->Expr->Bool):Bool:=dite (x.ctorIdx=2) (λh=>Expr.BinOp.elim (motive_1:=λ_=>Bool) x h (λa0 a1 a2 _=>k a0 a1 a2)) λ_=>false
theorem CW {x:Expr}{k:Expr->Operator->Expr->Bool}{P:Expr->Prop}(h:Uw x k=true)(H:∀a0 a1 a2 a3,k a0 a1 a2=true->P (.BinOp a0 a1 a2 a3)):P x:=
 dk h λg=>Expr.BinOp.elim (motive_1:=λx=>∀g:x.ctorIdx=2,Expr.BinOp.elim (motive_1:=λ_=>Bool) x g (λa0 a1 a2 _=>k a0 a1 a2)=true->P x) x g (λa0 a1 a2 a3 _ h=>H a0 a1 a2 a3 h) g
noncomputable def oTup (x:Expr) (k:List Expr->Bool):Bool:=dite (x.ctorIdx=25) (λh=>Expr.Tuple.elim (motive_1:=λ_=>Bool) x h (λa0 _ _=>k a0)) λ_=>false
theorem rC {x:Expr}{k:List Expr->Bool}{P:Expr->Prop}(h:oTup x k=true)(H:∀a0 a1 a2,k a0=true->P (.Tuple a0 a1 a2)):P x:=
 dk h λg=>Expr.Tuple.elim (motive_1:=λx=>∀g:x.ctorIdx=25,Expr.Tuple.elim (motive_1:=λ_=>Bool) x g (λa0 _ _=>k a0)=true->P x) x g (λa0 a1 a2 _ h=>H a0 a1 a2 h) g
noncomputable def oLst (x:Expr) (k:List Expr->Bool):Bool:=dite (x.ctorIdx=24) (λh=>Expr.List.elim (motive_1:=λ_=>Bool) x h (λa0 _=>k a0)) λ_=>false
theorem wk {x:Expr}{k:List Expr->Bool}{P:Expr->Prop}(h:oLst x k=true)(H:∀a0 a1,k a0=true->P (.List a0 a1)):P x:=
 dk h λg=>Expr.List.elim (motive_1:=λx=>∀g:x.ctorIdx=24,Expr.List.elim (motive_1:=λ_=>Bool) x g (λa0 _=>k a0)=true->P x) x g (λa0 a1 _ h=>H a0 a1 h) g
noncomputable def YW (x:Expr) (k:List (Option Expr)->List Expr->Bool):Bool:=dite (x.ctorIdx=6) (λh=>Expr.Dict.elim (motive_1:=λ_=>Bool) x h (λa0 a1 _=>k a0 a1)) λ_=>false
theorem N5 {x:Expr}{k:List (Option Expr)->List Expr->Bool}{P:Expr->Prop}(h:YW x k=true)(H:∀a0 a1 a2,k a0 a1=true->P (.Dict a0 a1 a2)):P x:=
 dk h λg=>Expr.Dict.elim (motive_1:=λx=>∀g:x.ctorIdx=6,Expr.Dict.elim (motive_1:=λ_=>Bool) x g (λa0 a1 _=>k a0 a1)=true->P x) x g (λa0 a1 a2 _ h=>H a0 a1 a2 h) g
noncomputable def xZ (x:Stmt) (k:List Expr->Expr->Bool):Bool:=dite (x.ctorIdx=5) (λh=>Stmt.Assign.elim (motive_2:=λ_=>Bool) x h (λa0 a1 _=>k a0 a1)) λ_=>false
theorem jO {x:Stmt}{k:List Expr->Expr->Bool}{P:Stmt->Prop}(h:xZ x k=true)(H:∀a0 a1 a2,k a0 a1=true->P (.Assign a0 a1 a2)):P x:=
 dk h λg=>Stmt.Assign.elim (motive_2:=λx=>∀g:x.ctorIdx=5,Stmt.Assign.elim (motive_2:=λ_=>Bool) x g (λa0 a1 _=>k a0 a1)=true->P x) x g (λa0 a1 a2 _ h=>H a0 a1 a2 h) g
noncomputable def T4 (x:Stmt) (k:Expr->Operator->Expr->Bool):Bool:=dite (x.ctorIdx=7) (λh=>Stmt.AugAssign.elim (motive_2:=λ_=>Bool) x h (λa0 a1 a2 _=>k a0 a1 a2)) λ_=>false
theorem Cw {x:Stmt}{k:Expr->Operator->Expr->Bool}{P:Stmt->Prop}(h:T4 x k=true)(H:∀a0 a1 a2 a3,k a0 a1 a2=true->P (.AugAssign a0 a1 a2 a3)):P x:=
 dk h λg=>Stmt.AugAssign.elim (motive_2:=λx=>∀g:x.ctorIdx=7,Stmt.AugAssign.elim (motive_2:=λ_=>Bool) x g (λa0 a1 a2 _=>k a0 a1 a2)=true->P x) x g (λa0 a1 a2 a3 _ h=>H a0 a1 a2 a3 h) g
noncomputable def T3 (x:Stmt) (k:Expr->Bool):Bool:=dite (x.ctorIdx=24) (λh=>Stmt.Expr.elim (motive_2:=λ_=>Bool) x h (λa0 _=>k a0)) λ_=>false
theorem Cv {x:Stmt}{k:Expr->Bool}{P:Stmt->Prop}(h:T3 x k=true)(H:∀a0 a1,k a0=true->P (.Expr a0 a1)):P x:=
 dk h λg=>Stmt.Expr.elim (motive_2:=λx=>∀g:x.ctorIdx=24,Stmt.Expr.elim (motive_2:=λ_=>Bool) x g (λa0 _=>k a0)=true->P x) x g (λa0 a1 _ h=>H a0 a1 h) g
noncomputable def sIf (x:Stmt) (k:Expr->List Stmt->List Stmt->Bool):Bool:=dite (x.ctorIdx=12) (λh=>Stmt.If.elim (motive_2:=λ_=>Bool) x h (λa0 a1 a2 _=>k a0 a1 a2)) λ_=>false
theorem HW {x:Stmt}{k:Expr->List Stmt->List Stmt->Bool}{P:Stmt->Prop}(h:sIf x k=true)(H:∀a0 a1 a2 a3,k a0 a1 a2=true->P (.If a0 a1 a2 a3)):P x:=
 dk h λg=>Stmt.If.elim (motive_2:=λx=>∀g:x.ctorIdx=12,Stmt.If.elim (motive_2:=λ_=>Bool) x g (λa0 a1 a2 _=>k a0 a1 a2)=true->P x) x g (λa0 a1 a2 a3 _ h=>H a0 a1 a2 a3 h) g
noncomputable def Yp (x:Stmt) (k:Expr->List Stmt->List Stmt->Bool):Bool:=dite (x.ctorIdx=11) (λh=>Stmt.While.elim (motive_2:=λ_=>Bool) x h (λa0 a1 a2 _=>k a0 a1 a2)) λ_=>false
theorem Nh {x:Stmt}{k:Expr->List Stmt->List Stmt->Bool}{P:Stmt->Prop}(h:Yp x k=true)(H:∀a0 a1 a2 a3,k a0 a1 a2=true->P (.While a0 a1 a2 a3)):P x:=
 dk h λg=>Stmt.While.elim (motive_2:=λx=>∀g:x.ctorIdx=11,Stmt.While.elim (motive_2:=λ_=>Bool) x g (λa0 a1 a2 _=>k a0 a1 a2)=true->P x) x g (λa0 a1 a2 a3 _ h=>H a0 a1 a2 a3 h) g
noncomputable def TY (x:Stmt) (k:Expr->Expr->List Stmt->List Stmt->Bool):Bool:=dite (x.ctorIdx=9) (λh=>Stmt.For.elim (motive_2:=λ_=>Bool) x h (λa0 a1 a2 a3 _=>k a0 a1 a2 a3)) λ_=>false
theorem Cu {x:Stmt}{k:Expr->Expr->List Stmt->List Stmt->Bool}{P:Stmt->Prop}(h:TY x k=true)(H:∀a0 a1 a2 a3 a4,k a0 a1 a2 a3=true->P (.For a0 a1 a2 a3 a4)):P x:=
 dk h λg=>Stmt.For.elim (motive_2:=λx=>∀g:x.ctorIdx=9,Stmt.For.elim (motive_2:=λ_=>Bool) x g (λa0 a1 a2 a3 _=>k a0 a1 a2 a3)=true->P x) x g (λa0 a1 a2 a3 a4 _ h=>H a0 a1 a2 a3 a4 h) g
noncomputable def TV (x:Stmt) (k:Option Expr->Bool):Bool:=dite (x.ctorIdx=3) (λh=>Stmt.Return.elim (motive_2:=λ_=>Bool) x h (λa0 _=>k a0)) λ_=>false
theorem Cr {x:Stmt}{k:Option Expr->Bool}{P:Stmt->Prop}(h:TV x k=true)(H:∀a0 a1,k a0=true->P (.Return a0 a1)):P x:=
 dk h λg=>Stmt.Return.elim (motive_2:=λx=>∀g:x.ctorIdx=3,Stmt.Return.elim (motive_2:=λ_=>Bool) x g (λa0 _=>k a0)=true->P x) x g (λa0 a1 _ h=>H a0 a1 h) g
noncomputable def Yv (x:Stmt) (k:List Expr->Bool):Bool:=dite (x.ctorIdx=4) (λh=>Stmt.Delete.elim (motive_2:=λ_=>Bool) x h (λa0 _=>k a0)) λ_=>false
theorem Nm {x:Stmt}{k:List Expr->Bool}{P:Stmt->Prop}(h:Yv x k=true)(H:∀a0 a1,k a0=true->P (.Delete a0 a1)):P x:=
 dk h λg=>Stmt.Delete.elim (motive_2:=λx=>∀g:x.ctorIdx=4,Stmt.Delete.elim (motive_2:=λ_=>Bool) x g (λa0 _=>k a0)=true->P x) x g (λa0 a1 _ h=>H a0 a1 h) g
noncomputable def Yy (x:Stmt) (k:Expr->Option Expr->Bool):Bool:=dite (x.ctorIdx=19) (λh=>Stmt.Assert.elim (motive_2:=λ_=>Bool) x h (λa0 a1 _=>k a0 a1)) λ_=>false
theorem Nq {x:Stmt}{k:Expr->Option Expr->Bool}{P:Stmt->Prop}(h:Yy x k=true)(H:∀a0 a1 a2,k a0 a1=true->P (.Assert a0 a1 a2)):P x:=
 dk h λg=>Stmt.Assert.elim (motive_2:=λx=>∀g:x.ctorIdx=19,Stmt.Assert.elim (motive_2:=λ_=>Bool) x g (λa0 a1 _=>k a0 a1)=true->P x) x g (λa0 a1 a2 _ h=>H a0 a1 a2 h) g
noncomputable def Yq (x:Stmt) (k:List Stmt->List ExceptHandler->List Stmt->List Stmt->Bool):Bool:=dite (x.ctorIdx=17) (λh=>Stmt.Try.elim (motive_2:=λ_=>Bool) x h (λa0 a1 a2 a3 _=>k a0 a1 a2 a3)) λ_=>false
theorem Ni {x:Stmt}{k:List Stmt->List ExceptHandler->List Stmt->List Stmt->Bool}{P:Stmt->Prop}(h:Yq x k=true)(H:∀a0 a1 a2 a3 a4,k a0 a1 a2 a3=true->P (.Try a0 a1 a2 a3 a4)):P x:=
 dk h λg=>Stmt.Try.elim (motive_2:=λx=>∀g:x.ctorIdx=17,Stmt.Try.elim (motive_2:=λ_=>Bool) x g (λa0 a1 a2 a3 _=>k a0 a1 a2 a3)=true->P x) x g (λa0 a1 a2 a3 a4 _ h=>H a0 a1 a2 a3 a4 h) g
noncomputable def Yw (x:Stmt) (k:Bool):Bool:=dite (x.ctorIdx=26) (λh=>Stmt.Break.elim (motive_2:=λ_=>Bool) x h (λ_=>k)) λ_=>false
theorem Np {x:Stmt}{k:Bool}{P:Stmt->Prop}(h:Yw x k=true)(H:∀a0,k=true->P (.Break a0)):P x:=
 dk h λg=>Stmt.Break.elim (motive_2:=λx=>∀g:x.ctorIdx=26,Stmt.Break.elim (motive_2:=λ_=>Bool) x g (λ_=>k)=true->P x) x g (λa0 _ h=>H a0 h) g
noncomputable def Ys (x:Stmt) (k:Bool):Bool:=dite (x.ctorIdx=25) (λh=>Stmt.Pass.elim (motive_2:=λ_=>Bool) x h (λ_=>k)) λ_=>false
theorem Nk {x:Stmt}{k:Bool}{P:Stmt->Prop}(h:Ys x k=true)(H:∀a0,k=true->P (.Pass a0)):P x:=
 dk h λg=>Stmt.Pass.elim (motive_2:=λx=>∀g:x.ctorIdx=25,Stmt.Pass.elim (motive_2:=λ_=>Bool) x g (λ_=>k)=true->P x) x g (λa0 _ h=>H a0 h) g
section
variable {α:Type}
noncomputable def l0 (l:List α) (b:Bool):Bool:=match l with|[]=>b|_=>false
noncomputable def l1 (l:List α) (k:α->Bool):Bool:=match l with|[]=>false|a::r=>l0 r (k a)
noncomputable def l2 (l:List α) (k:α->α->Bool):Bool:=match l with|[]=>false|a::r=>l1 r (k a)
noncomputable def l3 (l:List α) (k:α->α->α->Bool):Bool:=match l with|[]=>false|a::r=>l2 r (k a)
theorem gJ {l:List α}{b:Bool}{P:List α->Prop}(h:l0 l b=true)(H:b=true->P []):P l:=by cases l;exact H h;exact jJ h
theorem iI {l:List α}{k:α->Bool}{P:List α->Prop}(h:l1 l k=true)(H:∀a,k a=true->P [a]):P l:=by
 cases l with
 |nil=>exact jJ h
 |cons a r=>exact gJ (l:=r) (P:=λr=>P (a::r)) h (H a)
theorem tM {l:List α}{k:α->α->Bool}{P:List α->Prop}(h:l2 l k=true)(H:∀a b,k a b=true->P [a,b]):P l:=by
 cases l with
 |nil=>exact jJ h
 |cons a r=>exact iI (l:=r) (P:=λr=>P (a::r)) h (H a)
theorem Zi {l:List α}{k:α->α->α->Bool}{P:List α->Prop}(h:l3 l k=true)(H:∀a b c,k a b c=true->P [a,b,c]):P l:=by
 cases l with
 |nil=>exact jJ h
 |cons a r=>exact tM (l:=r) (P:=λr=>P (a::r)) h (H a)
noncomputable def oS (o:Option α) (k:α->Bool):Bool:=match o with|some a=>k a|none=>false
noncomputable def oN (o:Option α) (b:Bool):Bool:=match o with|some _=>false|none=>b
theorem Ia {o:Option α}{k:α->Bool}{P:Option α->Prop}(h:oS o k=true)(H:∀a,k a=true->P (some a)):P o:=by cases o;exact jJ h;exact H _ h
theorem Rn {o:Option α}{b:Bool}{P:Option α->Prop}(h:oN o b=true)(H:b=true->P none):P o:=by cases o;exact H h;exact jJ h
theorem de {a b:α}[DecidableEq α]{c:Bool}{P:α->Prop}(h:(decide (a=b)&&c)=true)(H:c=true->P b):P a:=an h λh g=>by rw[of_decide_eq_true h];exact H g
end
theorem Zj {α β:Type}{l:List α}{k:List β}{b:Bool}{P:List α->List β->Prop}(h:l0 l (l0 k b)=true)(H:b=true->P [] []):P l k:=gJ (P:=λl=>P l k) h λh=>gJ (P:=P []) h H
theorem l10 {α β:Type}{l:List α}{k:List β}{b:α->Bool}{P:List α->List β->Prop}(h:l1 l (λa=>l0 k (b a))=true)(H:∀a,b a=true->P [a] []):P l k:=iI (P:=λl=>P l k) h λa h=>gJ (P:=P [a]) h (H a)
noncomputable def Xi (e:Expr) (k:Str->Expr->Bool):Bool:=fW e λg es ks _=>cC g λn=>l1 es λaB=>l0 ks (k n aB)
theorem sZ {e:Expr}{k:Str->Expr->Bool}{P:Expr->Prop}(h:Xi e k=true)(H:∀n q aB p,k n aB=true->P (.Call (.Name n q) [aB] [] p)):P e:=
 kZ h λg es ks p h=>bM (P:=λg=>P (.Call g es ks p)) h λn q h=>l10 (P:=λes ks=>P (.Call (.Name n q) es ks p)) h λaB h=>H n q aB p h
noncomputable def oT2 (e:Expr) (k:Str->Str->Bool):Bool:=oTup e λts=>l2 ts λt t'=>cC t λm=>cC t' λm'=>k m m'
theorem Ut {e:Expr}{k:Str->Str->Bool}{P:Expr->Prop}(h:oT2 e k=true)(H:∀m q m' q' u p,k m m'=true->P (.Tuple [.Name m q,.Name m' q'] u p)):P e:=
 rC h λts u p h=>tM (P:=λts=>P (.Tuple ts u p)) h λt t' h=>bM (P:=λt=>P (.Tuple [t,t'] u p)) h λm q h=>bM (P:=λt'=>P (.Tuple [.Name m q,t'] u p)) h λm' q' h=>H m q m' q' u p h
noncomputable def YS (b:List Stmt) (k:Expr->Bool):Bool:=l1 b λy=>sIf y λc _ o=>l0 o (YM c λuo c=>decide (uo= .Not)&&k c)
theorem NT {b:List Stmt}{k:Expr->Bool}{P:List Stmt->Prop}(h:YS b k=true)(H:∀c u b p,k c=true->P [.If (.UnaryOp .Not c u) b [] p]):P b:=
 iI h λy h=>HW (P:=λy=>P [y]) h λc b o p h=>gJ (P:=λo=>P [.If c b o p]) h λh=>wj (P:=λc=>P [.If c b [] p]) h λuo c u h=>de (P:=λuo=>P [.If (.UnaryOp uo c u) b [] p]) h λh=>H c u b p h
section
variable (nm:Nat->Str)(D:q7)(sc:Names)(cl:List (Str×Addr))(pu:Bool)
noncomputable def rM (n:Str) (x:Nat):Bool:=(n==nm x)&&Ag sc n
noncomputable def Vh (n:Str) (x:Nat):Bool:=(n==nm x)&&Vf sc n
noncomputable def Rt (n m:Str):Bool:=(n==m)&&Vf sc n
noncomputable def kwB (f:Expr->IE->Bool) (k:Keyword) (q:Nat×IE):Bool:=decide (k.arg=some (nm q.1))&&f k.value q.2
noncomputable def Zr (k:Const) (f:Str->Bool):Bool:=dite (k.ctorIdx=5) (λh=>Const.str.elim (motive:=λ_=>Bool) k h f) λ_=>false
theorem O6 {x:Const}{k:Str->Bool}{P:Const->Prop}(h:Zr x k=true)(H:∀s,k s=true->P (.str s)):P x:=
 dk h λg=>Const.str.elim (motive:=λx=>∀g:x.ctorIdx=5,Const.str.elim (motive:=λ_=>Bool) x g k=true->P x) x g (λs _ h=>H s h) g
noncomputable def aal (c:AV) (k:Const):Bool:=(c.isNone&&decide (k= .none))||(kY c.Kp λb=>decide (k= .bool b))||(kY c.gK λi=>decide (k= .int i))||(kY c.iW λs=>Zr k λx=>decide (s=x.cps.toList)&&Nat.ble s.length 100000)
theorem orr {a b:Bool}(h:(a||b)=true){G:Prop}(k:a=true->G)(l:b=true->G):G:=match a,h,k with
 |true,_,k=>k rfl
 |false,h,_=>l h
noncomputable def ab' (c:AV) (e:Expr):Bool:=Ib e (aal c)
noncomputable def V6 (o:Ec) (c:CmpOp):Bool:=decide (cop o=c)
noncomputable def Qq (o:Eh) (c:Operator):Bool:=decide (R4 o=c)
noncomputable def sf (e:Expr) (k:Str->Pos->Bool):Bool:=s7 e λe na p=>cC e λn=>rM nm sc n 0&&k na p
noncomputable def stepV (f ft:Expr->IE->Bool) (e:Expr):IE->Bool
 | .ak x=>cC e λn=>rM nm sc n x
 | .jV _ a=>cC e λn=>Je sc n&&tX cl n a
 | .aA c=>ab' c e
 | .bB a=>sf nm sc e λna _=>(na==nm a)&&has D.at_ a
 | .xY a d=>sf nm sc e λna _=>(na==nm a)&&ZG D.st a d
 | .smt g=>sf nm sc e λna _=>(na==nm g)&&has D.mt g
 | .fld ie a=>s7 e λaB na _=>(na==nm a)&&cT aB&&f aB ie
 | .ccl c a=>s7 e λaB na _=>cC aB λn=>Vh nm sc n c&&(na==nm a)&&has D.ct c
 | .cls c=>cC e λn=>Vh nm sc n c&&has D.ct c
 | .lq x args=>fW e λg es ks _=>cC g λn=>l0 ks (rM nm sc n x&&es.all notStar&&dX f es args)
 | .aq g args kws=>fW e λg' es ks pos=>sf nm sc g' λna apos=> !pu&&(na==nm g)&&has D.mt g&&es.all notStar&&Nat.blt (es.length+ks.length) 29&&(apos.endLine==pos.line)&&dX f es args&&dX (kwB nm f) ks kws
 | .jz x g=>fW e λg' es ks pos=>s7 g' λaB na apos=>cC aB λn=>l0 es (l0 ks (!pu&&rM nm sc n x&&(na==nm g)&&has D.mt g&&(apos.endLine==pos.line)))
 | .mZ a=>fW e λg' es ks pos=>sf nm sc g' λna apos=>l0 es (l0 ks (!pu&&(na==nm a)&&has D.ac a&&(apos.endLine==pos.line)))
 | .cU g args=>fW e λg' es ks _=>cC g' λn=>l0 ks (!pu&&Vh nm sc n g&&has D.gt g&&es.all notStar&&dX f es args)
 | .bR c args kws=>fW e λg' es ks _=>cC g' λn=>Vh nm sc n c&&has D.ct c&&es.all notStar&&dX f es args&&dX (kwB nm f) ks kws
 | .len ie=>Xi e λn aB=>Rt sc n "len"&&notStar aB&&f aB ie
 | .keys ie=>Xi e λn aB=>Rt sc n "list"&&notStar aB&&f aB ie
 | .Gn ie c=>fW e λg' es ks _=>cC g' λn=>l2 es λaB aP=>cC aP λn'=>l0 ks (Rt sc n "isinstance"&&Vh nm sc n' c&&has D.ct c&&notStar aB&&f aB ie)
 | .vH ie=>fW e λg' es ks _=>cC g' λn=>l2 es λaB aP=>cC aP λn'=>l0 ks (Rt sc n "isinstance"&&Rt sc n' "str"&&notStar aB&&f aB ie)
 | .m7 ie=>fW e λg' es ks pos=>s7 g' λaB na apos=>l0 es (l0 ks (!pu&&(na==("pop":Str))&&cT aB&&(apos.endLine==pos.line)&&f aB ie))
 | .sW ie=>fW e λg' es ks pos=>s7 g' λaB na apos=>l1 es λaP=>Ib aP λc=>l0 ks (decide (c= .int 0)&&(!pu&&(na==("pop":Str))&&cT aB&&(apos.endLine==pos.line)&&f aB ie))
 | .join ie=>fW e λg' es ks pos=>s7 g' λPx na apos=>Ib Px λc=>l1 es λaB=>l0 ks (decide (c= .str ⟨#[]⟩)&&((na==("join":Str))&&notStar aB&&(apos.endLine==pos.line)&&f aB ie))
 | .idx a i=>Aa e λaB aP=>tu aP&&f aB a&&f aP i
 | .slc a lo hi=>Aa e λaB q=>NP q λx y z=>oS x λaP=>oS y λbI=>oN z (f aB a&&f aP lo&&f bI hi)
 | .nO a lo hi=>Aa e λaB q=>NP q λx y z=>oS x λaP=>oS y λbI=>oN z (isNm aB&&f aB a&&f aP lo&&f bI hi)
 | .cmp o a b=>Ie e λaB cs es=>l1 cs λc=>l1 es λaP=>V6 o c&& !(behindInMarks c aP)&&f aB a&&f aP b
 | .oV o o' a b c=>Ie e λaB cs es=>l2 cs λq q'=>l2 es λaP bI=>V6 o q&&V6 o' q'&& !(lastMarks [q,q'] [aP,bI])&&f aB a&&f aP b&&f bI c
 | .and_ ies=>YX e λo es=>decide (o= .And)&&dX f es ies
 | .or_ ies=>YX e λo es=>decide (o= .Or)&&dX f es ies
 | .not_ ie=>YM e λo aB=>decide (o= .Not)&&f aB ie
 | .ite t a b=>oIf e λaB aP bI=>ft aB t&&f aP a&&f bI b
 | .bin o a b=>Uw e λaB c aP=>Qq o c&&f aB a&&f aP b
 | .cat a b=>Uw e λaB c aP=>decide (c= .Add)&&(f aB a&&f aP b)
 | .neg ie=>YM e λo aB=>decide (o= .USub)&&f aB ie
 | .tup ies=>oTup e λes=>es.all notStar&&dX f es ies
 | .lst ies=>oLst e λes=>es.all notStar&&dX f es ies
 | .eqd _ _=>false
 | .lG _ _ _ _ _=>false
 | .sup _ _=>false
 | .Y8 _=>false
noncomputable def plainT (e:Expr):Bool:= !Nat.beq e.ctorIdx 0&& !Nat.beq e.ctorIdx 3&& !Nat.beq e.ctorIdx 5&& !Nat.beq e.ctorIdx 15
noncomputable def stepT (f ft:Expr->IE->Bool) (e:Expr):IE->Bool
 | .cmp o a b=>stepV nm D sc cl pu f ft e (.cmp o a b)
 | .oV o o' a b c=>stepV nm D sc cl pu f ft e (.oV o o' a b c)
 | .and_ ies=>YX e λo es=>decide (o= .And)&&dX ft es ies
 | .or_ ies=>YX e λo es=>decide (o= .Or)&&dX ft es ies
 | .not_ ie=>YM e λo aB=>decide (o= .Not)&&ft aB ie
 |ie=>plainT e&&stepV nm D sc cl pu f ft e ie
noncomputable def jG:Nat->(Expr->IE->Bool)×(Expr->IE->Bool)
 |0=>(λ_ _=>false,λ_ _=>false)
 |n+1=>(stepV nm D sc cl pu (jG n).1 (jG n).2,stepT nm D sc cl pu (jG n).1 (jG n).2)
end
end
section
open PyProof.V
variable {C:Cx}
structure Gr (C:Cx)(T:Tb)(CF:fP)(D:q7)(P:Addr)(A aU:Around)(base aj:Heap)(outer:List Env)(env:Env)(L:Addr)(sc:Names)(cl:List (Str×Addr))(pu:Bool):Prop where
 Z:Act C A aU base aj outer env L
 sc:env.scope.names=sc
 cl:env.cells=cl
 D:TabsOk C T D
 co:pu=false->∀f₀ σ₀,f₀.p=[]->d7 C T CF P A aj L f₀ σ₀
 rm:A.depth+1<recursionLimit
section
variable {P:Addr}{A aU:Around}{base aj:Heap}{outer:List Env}{env:Env}{L:Addr}{f₀ jm:F0}{σ₀ bL:List (Nat×Addr)}{T:Tb}{CF:fP}{D:q7}{sc:Names}{cl:List (Str×Addr)}{pu:Bool}
theorem Gr.k (G:Gr C T CF D P A aU base aj outer env L sc cl pu){n:Str}{x:NameKind}(h:sc.lookup n=some x):env.kindOf n=some x:=by show env.scope.names.lookup n=_;rw[G.sc];exact h
theorem Gr.ak (G:Gr C T CF D P A aU base aj outer env L sc cl pu){n:Str}{x:Nat}(h:rM C.nm sc n x=true):n=C.nm x/\env.kindOf n=some .local/\(n==("__debug__":Str))=false:=
 an h λh g=>⟨beq_iff_eq.mp h,G.k (jR g).1,(jR g).2⟩
theorem Gr.Xq (G:Gr C T CF D P A aU base aj outer env L sc cl pu){n:Str}{x:Nat}(h:Vh C.nm sc n x=true):n=C.nm x/\env.kindOf n=some .globalImplicit/\(n==("__debug__":Str))=false:=
 an h λh g=>⟨beq_iff_eq.mp h,G.k (wG g).1,(wG g).2⟩
theorem Gr.blt (G:Gr C T CF D P A aU base aj outer env L sc cl pu){n m:Str}(h:Rt sc n m=true):n=m/\env.kindOf m=some .globalImplicit:=
 an h λh g=>by
  have e:n=m:=beq_iff_eq.mp h
  exact⟨e,e▸G.k (wG g).1⟩
theorem Gr.jV (G:Gr C T CF D P A aU base aj outer env L sc cl pu){n:Str}{a:Addr}(h:Je sc n=true)(h':tX cl n a=true):env.cells.lookup n=some a/\env.kindOf n=some .cell/\(n==("__debug__":Str))=false:=
 ⟨by rw[G.cl];exact FN h',G.k (Dk h).1,(Dk h).2⟩
theorem lD {pos:Pos}:∀{es:List Expr} {ies:List IE},es.all notStar=true->fZ (cu C (bf T CF) P A aj L f₀ σ₀ env) es ies->pD C (gD T CF) P A aj L f₀ σ₀ env pos es ies
 |_,_,_,.nil=>Dv
 |e::es,_,h,.cons a r=>by
  exact an h λh g=>J3 (je h es env) a (lD g r)
theorem Bj {pos:Pos}{f:Expr->IE->Bool}(hf:∀e ie,f e ie=true->cu C (bf T CF) P A aj L f₀ σ₀ env e ie):∀{es:List Keyword} {ies:List (Nat×IE)},dX (kwB C.nm f) es ies=true->mX C es (ies.map (·.1))/\zN C (pG T CF) P A aj L f₀ σ₀ env pos es ies
 |[],[],_=>⟨rfl,wO⟩
 |[],_::_,h=>nomatch h
 |_::_,[],h=>nomatch h
 |⟨a,e,p⟩::es,(k,ie)::ies,h=>by
  refine an h λh1 h2=>an h1 λh1 h3=>?_
  have e:a=some (C.nm k):=of_decide_eq_true h1
  subst e
  obtain⟨i1,i2⟩:=Bj (pos:=pos) hf h2
  refine⟨?_,J4 (hf _ _ h3) i2⟩
  unfold mX at i1⊢
  rw[List.map_cons,List.map_cons,List.map_cons,i1]
theorem nt {b:Bool}(h:(!b)=true):b=false:=match b,h with
 |false,_=>rfl
theorem Dy {e:Expr}{P:Expr->Prop}{k:Str->List Expr->List Keyword->Pos->Bool}(h:fW e (λg es ks p=>cC g λn=>k n es ks p)=true)(H:∀n q es ks p,k n es ks p=true->P (.Call (.Name n q) es ks p)):P e:=
 kZ h λg es ks p h=>bM (P:=λg=>P (.Call g es ks p)) h λn q h=>H n q es ks p h
theorem zp {e:Expr}{P:Expr->Prop}{k:Expr->Str->Pos->List Expr->List Keyword->Pos->Bool}(h:fW e (λg es ks p=>s7 g λaB na q=>k aB na q es ks p)=true)(H:∀aB na q es ks p,k aB na q es ks p=true->P (.Call (.Attribute aB na q) es ks p)):P e:=
 kZ h λg es ks p h=>nR (P:=λg=>P (.Call g es ks p)) h λaB na q h=>H aB na q es ks p h
theorem RT {e:Expr}{P:Expr->Prop}{k:Str->Expr->Str->Bool}(h:fW e (λg es ks p=>cC g λn=>l2 es λaB aP=>cC aP λn'=>l0 ks (k n aB n'))=true)(H:∀n q aB n' q' p,k n aB n'=true->P (.Call (.Name n q) [aB,.Name n' q'] [] p)):P e:=
 Dy h λn q es ks p h=>tM (P:=λes=>P (.Call (.Name n q) es ks p)) h λaB aP h=>bM (P:=λaP=>P (.Call (.Name n q) [aB,aP] ks p)) h λn' q' h=>gJ (P:=λks=>P (.Call (.Name n q) [aB,.Name n' q'] ks p)) h (H n q aB n' q' p)
theorem Q6 {e:Expr}{P:Expr->Prop}{k:Expr->Expr->Expr->Bool}(h:Aa e (λaB q=>NP q λx y z=>oS x λaP=>oS y λbI=>oN z (k aB aP bI))=true)(H:∀aB aP bI p q,k aB aP bI=true->P (.Subscript aB (.Slice (some aP) (some bI) none p) q)):P e:=
 rD h λaB q r h=>NK (P:=λq=>P (.Subscript aB q r)) h λx y z p h=>Ia (P:=λx=>P (.Subscript aB (.Slice x y z p) r)) h λaP h=>Ia (P:=λy=>P (.Subscript aB (.Slice (some aP) y z p) r)) h λbI h=>Rn (P:=λz=>P (.Subscript aB (.Slice (some aP) (some bI) z p) r)) h λh=>H aB aP bI p r h
theorem Kg {e:Expr}{P:Expr->Prop}{k:Expr->CmpOp->Expr->Bool}(h:Ie e (λaB cs es=>l1 cs λc=>l1 es λaP=>k aB c aP)=true)(H:∀aB c aP p,k aB c aP=true->P (.Compare aB [c] [aP] p)):P e:=
 CV h λaB cs es p h=>iI (P:=λcs=>P (.Compare aB cs es p)) h λc h=>iI (P:=λes=>P (.Compare aB [c] es p)) h λaP h=>H aB c aP p h
theorem Kh {e:Expr}{P:Expr->Prop}{k:Expr->CmpOp->CmpOp->Expr->Expr->Bool}(h:Ie e (λaB cs es=>l2 cs λc d=>l2 es λaP bI=>k aB c d aP bI)=true)(H:∀aB c d aP bI p,k aB c d aP bI=true->P (.Compare aB [c,d] [aP,bI] p)):P e:=
 CV h λaB cs es p h=>tM (P:=λcs=>P (.Compare aB cs es p)) h λc d h=>tM (P:=λes=>P (.Compare aB [c,d] es p)) h λaP bI h=>H aB c d aP bI p h
theorem vh (G:Gr C T CF D P A aU base aj outer env L sc cl pu){e:Expr}{R:Expr->Prop}{k:Str->Pos->Bool}(h:sf C.nm sc e k=true)(H:∀n na p q,(n=C.nm 0/\env.kindOf n=some .local/\(n==("__debug__":Str))=false)->k na q=true->R (.Attribute (.Name n p) na q)):R e:=
 nR h λaB na q h=>bM (P:=λaB=>R (.Attribute aB na q)) h λn p h=>an h λh g=>H n na p q (G.ak h) g
theorem RP (G:Gr C T CF D P A aU base aj outer env L sc cl pu){e:Expr}{R:Expr->Prop}{k:List Expr->List Keyword->Pos->Str->Pos->Bool}(h:fW e (λg es ks p=>sf C.nm sc g λna r=>k es ks p na r)=true)(H:∀n na (_:Unit) q r es ks p,(n=C.nm 0/\env.kindOf n=some .local/\(n==("__debug__":Str))=false)->k es ks p na r=true->R (.Call (.Attribute (.Name n q) na r) es ks p)):R e:=
 kZ h λg es ks p h=>vh G (R:=λg=>R (.Call g es ks p)) h λn na q r a h=>H n na () q r es ks p a h
theorem xV (G:Gr C T CF D P A aU base aj outer env L sc cl pu){f ft:Expr->IE->Bool}(hf:∀e ie,f e ie=true->cu C (bf T CF) P A aj L f₀ σ₀ env e ie)(hft:∀e ie,ft e ie=true->xg C (bf T CF) P A aj L f₀ σ₀ env e ie)(hp:pu=true∨f₀.p=[]):
  ∀(e:Expr) (ie:IE),stepV C.nm D sc cl pu f ft e ie=true->cu C (bf T CF) P A aj L f₀ σ₀ env e ie:=by
 have gw:(!pu)=true->f₀.p=[]:=λh=>by
  rcases hp with hp|hp
  ·rw[hp]at h;cases h
  ·exact hp
 have co:(!pu)=true->d7 C T CF P A aj L f₀ σ₀:=λh=>G.co (by cases pu;rfl;cases h) _ _ (gw h)
 let M:IE->Expr->Prop:=λie e=>cu C (bf T CF) P A aj L f₀ σ₀ env e ie
 intro e ie h
 cases ie with
 |ak x=>exact bM (P:=M (.ak x)) h λn p h=>have⟨a,b,c⟩:=G.ak h;Mr G.Z a b c
 |jV k a=>exact bM (P:=M (.jV k a)) h λn p h=>an h λh g=>have⟨a,b,c⟩:=G.jV h g;MN G.Z a b c
 |aA c=>
  exact wu (P:=M (.aA c)) (show Ib e (aal c)=true from h) λk _ _ h=>orr h (λh=>orr h (λh=>orr h
   (λh=>an h λh g=>AV.fK h▸of_decide_eq_true g▸Hq)
   λh=>fB h λb h g=>AV.zu h▸of_decide_eq_true g▸Hu)
   λh=>fB h λb h g=>AV.wH h▸of_decide_eq_true g▸Mv)
   λh=>fB h λb h g=>AV.vY h▸O6 (P:=λk=>M (.aA (.str b)) (.Constant k _ _)) g λs g=>an g λg h=>of_decide_eq_true g▸Mf (of_decide_eq_true g▸Nat.le_of_ble_eq_true h)
 |bB a=>exact vh G (R:=M (.bB a)) h λn na p q ⟨a,b,c⟩ h=>an h λh g=>have e:=beq_iff_eq.mp h;Mj G.Z a b c e (e▸G.D.at_ _ (dI g))
 |xY a d=>exact vh G (R:=M (.xY a d)) h λn na p q ⟨a,b,c⟩ h=>an h λh g=>have e:=beq_iff_eq.mp h;Mi G.Z a b c e (e▸G.D.st _ (JB g))
 |smt g=>exact vh G (R:=M (.smt g)) h λn na p q ⟨a,b,c⟩ h=>an h λh g=>have e:=beq_iff_eq.mp h;Mg G.Z a b c e (e▸(G.D.mt _ (dI g)).1)
 |fld ie a=>exact nR (P:=M (.fld ie a)) h λaB na p h=>an h λh h3=>an h λh1 h2=>Mz G.Z G.D.ctk (beq_iff_eq.mp h1) h2 (hf _ _ h3)
 |ccl c a=>exact nR (P:=M (.ccl c a)) h λaB na p h=>bM (P:=λaB=>M (.ccl c a) (.Attribute aB na p)) h λn q h=>an h λh h3=>an h λh1 h2=>have⟨a,b,d⟩:=G.Xq h1;MP G.Z G.D.ctk (a▸(G.D.ct _ (dI h3)).1) b d (beq_iff_eq.mp h2)
 |cls c=>exact bM (P:=M (.cls c)) h λn p h=>an h λh g=>have⟨a,b,d⟩:=G.Xq h;MK G.Z (a▸(G.D.ct _ (dI g)).1) b d
 |lq x args=>exact Dy (P:=M (.lq x args)) h λn q es ks p h=>gJ (P:=λks=>M (.lq x args) (.Call (.Name n q) es ks p)) h λh=>an h λh h3=>an h λh1 h2=>have⟨a,b,d⟩:=G.ak h1;Ep G.Z G.D.cls G.rm a b d h2 (lD h2 (cH hf h3))
 |aq g args kws=>
  exact RP G (R:=M (.aq g args kws)) h λn na p q r es ks pos ⟨a,b,d⟩ h=>an h λh h9=>an h λh h8=>an h λh h7=>an h λh h6=>an h λh h5=>an h λh h4=>an h λh1 h3=>
   have e:=beq_iff_eq.mp h3;
   have k:=G.D.mt _ (dI h4);
   have w:=Bj hf h9;
   Em G.Z (co h1) a b d e (e▸k.1) k.2 h5 w.1 h6 h7 (lD h5 (cH hf h8)) w.2
 |jz x g=>
  exact zp (P:=M (.jz x g)) h λaB na p es ks pos h=>bM (P:=λaB=>M (.jz x g) (.Call (.Attribute aB na p) es ks pos)) h λn q h=>Zj (P:=λes ks=>M (.jz x g) (.Call (.Attribute (.Name n q) na p) es ks pos)) h λh=>an h λh h5=>an h λh h4=>an h λh h3=>an h λh1 h2=>
   have⟨a,b,d⟩:=G.ak h2;
   have e:=beq_iff_eq.mp h3;
   have k:=G.D.mt _ (dI h4);
   En G.Z (co h1) a b d e (e▸k.1) k.2 h5
 |mZ x=>
  exact RP G (R:=M (.mZ x)) h λn na p q r es ks pos ⟨a,b,d⟩ h=>Zj (P:=λes ks=>M (.mZ x) (.Call (.Attribute (.Name n q) na r) es ks pos)) h λh=>an h λh h5=>an h λh h4=>an h λh1 h3=>
   have e:=beq_iff_eq.mp h3;
   Et G.Z (co h1) G.D.kf a b d e (e▸G.D.ac _ (dI h4)) h5
 |cU g args=>
  exact Dy (P:=M (.cU g args)) h λn q es ks p h=>gJ (P:=λks=>M (.cU g args) (.Call (.Name n q) es ks p)) h λh=>an h λh h5=>an h λh h4=>an h λh h3=>an h λh1 h2=>
   have⟨a,b,d⟩:=G.Xq h2;
   have k:=G.D.gt _ (dI h3);
   Es G.Z (co h1) (a▸k.1) b d k.2 h4 (lD h4 (cH hf h5))
 |bR c args kws=>
  exact Dy (P:=M (.bR c args kws)) h λn q es ks p h=>an h λh h5=>an h λh h4=>an h λh h3=>an h λh1 h2=>
   have⟨a,b,d⟩:=G.Xq h1;
   have k:=G.D.ct _ (dI h2);
   have w:=Bj hf h5;
   Eo G.Z G.D.cls G.rm (a▸k.1) b d k.2 h3 w.1 (lD h3 (cH hf h4)) w.2
 |len ie=>exact sZ (P:=M (.len ie)) h λn q aB p h=>an h λh h3=>an h λh1 h2=>have⟨a,b⟩:=G.blt h1;a▸Ms G.Z G.D.b1 b h2 (hf _ _ h3)
 |keys ie=>exact sZ (P:=M (.keys ie)) h λn q aB p h=>an h λh h3=>an h λh1 h2=>have⟨a,b⟩:=G.blt h1;a▸Hr G.Z G.D.b4 b h2 (hf _ _ h3)
 |Gn ie c=>
  exact RT (P:=M (.Gn ie c)) h λn q aB n' q' pos h=>an h λh h5=>an h λh h4=>an h λh h3=>an h λh1 h2=>by
   obtain⟨rfl,b⟩:=G.blt h1
   obtain⟨a',b',d'⟩:=G.Xq h2
   exact Mu G.Z G.D.ev G.D.b2 b (a'▸(G.D.ct _ (dI h3)).1) b' d' h4 (hf _ _ h5)
 |vH ie=>
  exact RT (P:=M (.vH ie)) h λn q aB n' q' pos h=>an h λh h4=>an h λh h3=>an h λh1 h2=>by
   obtain⟨rfl,b⟩:=G.blt h1
   obtain⟨rfl,b'⟩:=G.blt h2
   exact Er G.Z G.D.b2 b G.D.b3 b' h3 (hf _ _ h4)
 |m7 ie=>
  exact zp (P:=M (.m7 ie)) h λaB na p es ks pos h=>Zj (P:=λes ks=>M (.m7 ie) (.Call (.Attribute aB na p) es ks pos)) h λh=>an h λh h5=>an h λh h4=>an h λh h3=>an h λh1 h2=>by
   obtain rfl:=(beq_iff_eq.mp h2:na=_)
   exact Hl (gw h1) h3 h4 (hf _ _ h5)
 |sW ie=>
  exact zp (P:=M (.sW ie)) h λaB na p es ks pos h=>iI (P:=λes=>M (.sW ie) (.Call (.Attribute aB na p) es ks pos)) h λaP h=>wu (P:=λaP=>M (.sW ie) (.Call (.Attribute aB na p) [aP] ks pos)) h λc k q h=>gJ (P:=λks=>M (.sW ie) (.Call (.Attribute aB na p) [.Constant c k q] ks pos)) h λh=>de (P:=λc=>M (.sW ie) (.Call (.Attribute aB na p) [.Constant c k q] [] pos)) h λh=>an h λh h5=>an h λh h4=>an h λh h3=>an h λh1 h2=>by
   obtain rfl:=(beq_iff_eq.mp h2:na=_)
   exact Ho (gw h1) h3 h4 (hf _ _ h5)
 |join ie=>
  exact zp (P:=M (.join ie)) h λPx na p es ks pos h=>wu (P:=λPx=>M (.join ie) (.Call (.Attribute Px na p) es ks pos)) h λc k q h=>l10 (P:=λes ks=>M (.join ie) (.Call (.Attribute (.Constant c k q) na p) es ks pos)) h λaB h=>de (P:=λc=>M (.join ie) (.Call (.Attribute (.Constant c k q) na p) [aB] [] pos)) h λh=>an h λh h5=>an h λh h4=>an h λh2 h3=>by
   obtain rfl:=(beq_iff_eq.mp h2:na=_)
   exact Hs h3 h4 (hf _ _ h5)
 |idx a i=>exact rD (P:=M (.idx a i)) h λaB aP p h=>an h λh h3=>an h λh1 h2=>Mx G.Z G.D.tb h1 (hf _ _ h2) (hf _ _ h3)
 |slc a lo hi=>exact Q6 (P:=M (.slc a lo hi)) h λaB aP bI p q h=>an h λh h3=>an h λh1 h2=>Mh (hf _ _ h1) (hf _ _ h2) (hf _ _ h3)
 |nO a lo hi=>exact Q6 (P:=M (.nO a lo hi)) h λaB aP bI p q h=>an h λh h3=>an h λh h2=>an h λh0 h1=>Hj h0 (hf _ _ h1) (hf _ _ h2) (hf _ _ h3)
 |cmp o a b=>
  exact Kg (P:=M (.cmp o a b)) h λaB c aP p h=>an h λh h4=>an h λh h3=>an h λh1 h2=>by
   obtain rfl:=(of_decide_eq_true h1:cop o=c)
   exact MJ G.Z G.D.tb (hf _ _ h3) (hf _ _ h4) (nt h2)
 |oV o o' a b c=>
  exact Kh (P:=M (.oV o o' a b c)) h λaB q q' aP bI p h=>an h λh h6=>an h λh h5=>an h λh h4=>an h λh h3=>an h λh1 h2=>by
   obtain rfl:=(of_decide_eq_true h1:cop o=q)
   obtain rfl:=(of_decide_eq_true h2:cop o'=q')
   exact Ht G.Z G.D.tb (hf _ _ h4) (hf _ _ h5) (hf _ _ h6) (nt h3)
 |and_ ies=>exact wz (P:=M (.and_ ies)) h λo es p h=>de (P:=λo=>M (.and_ ies) (.BoolOp o es p)) h λh=>λst tmp s Q E R hw S k=>snd_and G.Z _ _ (cH hf h) st tmp s Q E R hw S k
 |or_ ies=>exact wz (P:=M (.or_ ies)) h λo es p h=>de (P:=λo=>M (.or_ ies) (.BoolOp o es p)) h λh=>λst tmp s Q E R hw S k=>Tr G.Z _ _ (cH hf h) st tmp s Q E R hw S k
 |not_ ie=>exact wj (P:=M (.not_ ie)) h λo aB p h=>de (P:=λo=>M (.not_ ie) (.UnaryOp o aB p)) h λh=>Hp G.Z (hf _ _ h)
 |ite t a b=>exact Uv (P:=M (.ite t a b)) h λaB aP bI p h=>an h λh h3=>an h λh1 h2=>Mt (hft _ _ h1) (hf _ _ h2) (hf _ _ h3)
 |bin o a b=>
  exact CW (P:=M (.bin o a b)) h λaB c aP p h=>an h λh h3=>an h λh1 h2=>by
   obtain rfl:=(of_decide_eq_true h1:R4 o=c)
   exact M5 G.Z (hf _ _ h2) (hf _ _ h3)
 |cat a b=>exact CW (P:=M (.cat a b)) h λaB c aP p h=>de (P:=λc=>M (.cat a b) (.BinOp aB c aP p)) h λh=>an h λh1 h2=>M4 G.Z (hf _ _ h1) (hf _ _ h2)
 |neg ie=>exact wj (P:=M (.neg ie)) h λo aB p h=>de (P:=λo=>M (.neg ie) (.UnaryOp o aB p)) h λh=>Mp (hf _ _ h)
 |tup ies=>exact rC (P:=M (.tup ies)) h λes k p h=>an h λh g=>Ma (lD h (cH hf g))
 |lst ies=>exact wk (P:=M (.lst ies)) h λes p h=>an h λh g=>Mq (lD h (cH hf g))
 |_=>exact jJ h
end
end
section
open PyProof.V
variable {C:Cx}
theorem vq {e:Expr}(h:plainT e=true)(env:Env):isTrue e env (eval e env)=(do let v<-eval e env;standAt e.pos;holding [v] (truthy v)):=by
 cases e<;>first|rfl|exact jJ h
section
variable {P:Addr}{A aU:Around}{base aj:Heap}{outer:List Env}{env:Env}{L:Addr}{f₀ jm:F0}{σ₀ bL:List (Nat×Addr)}{T:Tb}{CF:fP}{D:q7}{sc:Names}{cl:List (Str×Addr)}{pu:Bool}
theorem G7 (G:Gr C T CF D P A aU base aj outer env L sc cl pu){f ft:Expr->IE->Bool}(hf:∀e ie,f e ie=true->cu C (bf T CF) P A aj L f₀ σ₀ env e ie)(hft:∀e ie,ft e ie=true->xg C (bf T CF) P A aj L f₀ σ₀ env e ie)(hp:pu=true∨f₀.p=[]):
  ∀(e:Expr) (ie:IE),stepT C.nm D sc cl pu f ft e ie=true->xg C (bf T CF) P A aj L f₀ σ₀ env e ie:=by
 have gen:∀(e:Expr) (ie:IE),(plainT e&&stepV C.nm D sc cl pu f ft e ie)=true->xg C (bf T CF) P A aj L f₀ σ₀ env e ie:=by
  exact λe ie h=>an h λh g=>X4 G.Z (vq h env) (xV G hf hft hp e ie g)
 let M:IE->Expr->Prop:=λie e=>xg C (bf T CF) P A aj L f₀ σ₀ env e ie
 intro e ie h
 cases ie with
 |cmp o a b=>
  exact Kg (P:=M (.cmp o a b)) h λaB c aP p h=>an h λh h4=>an h λh h3=>an h λh1 h2=>by
   obtain rfl:=(of_decide_eq_true h1:cop o=c)
   exact S8 G.Z G.D.tb (hf _ _ h3) (hf _ _ h4) (nt h2)
 |oV o o' a b c=>
  exact Kh (P:=M (.oV o o' a b c)) h λaB q q' aP bI p h=>an h λh h6=>an h λh h5=>an h λh h4=>an h λh h3=>an h λh1 h2=>by
   obtain rfl:=(of_decide_eq_true h1:cop o=q)
   obtain rfl:=(of_decide_eq_true h2:cop o'=q')
   exact Lw G.Z G.D.tb (hf _ _ h4) (hf _ _ h5) (hf _ _ h6) (nt h3)
 |and_ ies=>exact wz (P:=M (.and_ ies)) h λo es p h=>de (P:=λo=>M (.and_ ies) (.BoolOp o es p)) h λh=>λst tmp s Q E R hw S k=>S9 _ _ (cH hft h) st tmp s Q E R hw S k
 |or_ ies=>exact wz (P:=M (.or_ ies)) h λo es p h=>de (P:=λo=>M (.or_ ies) (.BoolOp o es p)) h λh=>λst tmp s Q E R hw S k=>X3 _ _ (cH hft h) st tmp s Q E R hw S k
 |not_ ie=>exact wj (P:=M (.not_ ie)) h λo aB p h=>de (P:=λo=>M (.not_ ie) (.UnaryOp o aB p)) h λh=>Ml (hft _ _ h)
 |_=>exact gen _ _ h
theorem pW (G:Gr C T CF D P A aU base aj outer env L sc cl pu)(hp:pu=true∨f₀.p=[]):∀n,(∀e ie,(jG C.nm D sc cl pu n).1 e ie=true->cu C (bf T CF) P A aj L f₀ σ₀ env e ie)/\(∀e ie,(jG C.nm D sc cl pu n).2 e ie=true->xg C (bf T CF) P A aj L f₀ σ₀ env e ie)
 |0=>⟨λ_ _ h=>(nomatch h),λ_ _ h=>(nomatch h)⟩
 |n+1=>by
  obtain⟨a,b⟩:=pW G hp n
  exact⟨xV G a b hp,G7 G a b hp⟩
end
noncomputable def lne {α:Type} (l:List α) (b:Bool):Bool:=match l with
 |[]=>false
 |_::_=>b
theorem U5 {α:Type}{l:List α}{b:Bool}{P:List α->Prop}(h:lne l b=true)(H:∀a r,b=true->P (a::r)):P l:=by cases l;exact jJ h;exact H _ _ h
section
variable (nm:Nat->Str)(D:q7)(sc:Names)(cl:List (Str×Addr))
noncomputable def tgB (e:Expr):Tg->Bool
 | .l x=>cC e λn=>rM nm sc n x
 | .c _ a=>cC e λn=>Je sc n&&tX cl n a
noncomputable def zW (e:Expr) (ts:List Tg):Bool:=match ts with
 |[]=>false
 |t::ts=>(match ts with
  |[]=>tgB nm sc cl e t
  |t'::ts=>oTup e λes=>dX (tgB nm sc cl) es (t::t'::ts))
noncomputable def tg2 (es:List Expr) (ts:List Tg):Bool:=match ts with
 |[]=>false
 |t::ts=>(match ts with
  |[]=>false
  |t'::ts=>dX (tgB nm sc cl) es (t::t'::ts))
noncomputable def Yt (x:Stmt) (k:Str->Expr->Bool):Bool:=xZ x λt e=>l1 t λt=>cC t λm=>k m e
noncomputable def sSf (x:Stmt) (k:Str->Expr->Bool):Bool:=xZ x λt e=>l1 t λt=>sf nm sc t λna _=>k na e
noncomputable def noL (e:Expr):Bool:=oLst e λl=>l0 l true
noncomputable def noD (e:Expr):Bool:=YW e λks vs=>l0 ks (l0 vs true)
noncomputable def Yu (x:Stmt) (k:Expr->Str->List Expr->Bool):Bool:=T3 x λe=>fW e λg es ks pos=>s7 g λaB na apos=>l0 ks (k aB na es&&(apos.endLine==pos.line))
noncomputable def qp (n:Nat) (pu:Bool) (r:Bool->List Stmt->List IS->Bool) (x:Stmt):IS->Bool
 | .asg v e=>Yt x λm aB=>rM nm sc m v&&d8 aB&&(jG nm D sc cl pu n).1 aB e
 | .mR v v' e=>xZ x λt aB=>l2 t λt t'=>cC t λm=>cC t' λm'=>rM nm sc m v&&rM nm sc m' v'&&(jG nm D sc cl pu n).1 aB e
 | .uV v v' v'' e=>xZ x λt aB=>l3 t λt t' t''=>cC t λm=>cC t' λm'=>cC t'' λm''=>rM nm sc m v&&rM nm sc m' v'&&rM nm sc m'' v''&&(jG nm D sc cl pu n).1 aB e
 | .nD ts e=>xZ x λt aB=>l1 t λt=>oTup t λes=> !pu&&d8 aB&&Ih aB&&tg2 nm sc cl es ts&&(jG nm D sc cl pu n).1 aB e
 | .Bv _ a e=>Yt x λm aB=> !pu&&Je sc m&&tX cl m a&&d8 aB&&(jG nm D sc cl pu n).1 aB e
 | .qx v _ es=>Yt x λm e=>oLst e λRK=>rM nm sc m v&&RK.all notStar&&dX (jG nm D sc cl pu n).1 RK es
 | .bC a e=>sSf nm sc x λna aB=> !pu&&(na==nm a)&&has D.at_ a&&d8 aB&&(jG nm D sc cl pu n).1 aB e
 | .w5 a i e=>xZ x λt aB=>l1 t λt=>Aa t λaP bI=> !pu&&d8 aB&&(jG nm D sc cl pu n).1 aB e&&(jG nm D sc cl pu n).1 aP (.bB a)&&(jG nm D sc cl pu n).1 bI i
 | .j7 v _=>Yt x λm e=>rM nm sc m v&&noL e
 | .jf a _=>sSf nm sc x λna e=> !pu&&(na==nm a)&&has D.at_ a&&noL e
 | .jZ a _=>sSf nm sc x λna e=> !pu&&(na==nm a)&&has D.at_ a&&noD e
 | .aug v o e=>T4 x λt c aB=>cC t λm=>rM nm sc m v&&Qq o c&&(jG nm D sc cl pu n).1 aB e
 | .gG a o e=>T4 x λt c aB=>sf nm sc t λna _=> !pu&&(na==nm a)&&has D.at_ a&&Qq o c&&(jG nm D sc cl pu n).1 aB e
 | .exp e=>T3 x λaB=>d8 aB&&(jG nm D sc cl pu n).1 aB e
 | .app t e=>Yu x λaB na es=>l1 es λaP=> !pu&&(na==("append":Str))&&cT aB&&notStar aP&&(jG nm D sc cl pu n).1 aB t&&(jG nm D sc cl pu n).1 aP e
 | .ext t e=>Yu x λaB na es=>l1 es λaP=> !pu&&(na==("extend":Str))&&cT aB&&notStar aP&&(jG nm D sc cl pu n).1 aB t&&(jG nm D sc cl pu n).1 aP e
 | .ins t i e=>Yu x λaB na es=>l2 es λaP bI=> !pu&&(na==("insert":Str))&&cT aB&&notStar aP&&notStar bI&&(jG nm D sc cl pu n).1 aB t&&(jG nm D sc cl pu n).1 aP i&&(jG nm D sc cl pu n).1 bI e
 | .ite t a b=>sIf x λaB iZ lH=>(jG nm D sc cl pu n).2 aB t&&r pu iZ a&&r pu lH b
 | .whl t b=>Yp x λaB iZ lH=>l0 lH ((jG nm D sc cl pu n).2 aB t&&r pu iZ b)
 | .jo kd ts e b=>TY x λtg e' iZ lH=>l0 lH (match kd with
  | .list=> !pu&&zW nm sc cl tg ts&&m9 e'&&(jG nm D sc cl pu n).1 e' e&&r pu iZ b
  | .dict=>zW nm sc cl tg ts&&ts.all Tg.rM&&m9 e'&&(jG nm D sc cl pu n).1 e' e&&r true iZ b
  | .str=>cC tg (λ_=>true)&&(!pu&&zW nm sc cl tg ts&&m9 e'&&(jG nm D sc cl pu n).1 e' e&&r pu iZ b)
  | .range=>cC tg (λ_=>true)&&(Xi e' λrn aB=> !pu&&Rt sc rn "range"&&zW nm sc cl tg ts&&notStar aB&&(jG nm D sc cl pu n).1 aB e&&r pu iZ b)
  | .enum=>false)
 | .ret e=>TV x λv=>oS v λaB=>(jG nm D sc cl pu n).1 aB e
 | .yc=>TV x λv=>oN v true
 | .brk=>Yw x true
 | .pass=>Ys x true
 | .del a i=>Yv x λl=>l1 l λt=>Aa t λaP bI=> !pu&&(jG nm D sc cl pu n).1 aP (.bB a)&&(jG nm D sc cl pu n).1 bI i
 | .ast t=>Yy x λaB _=>(jG nm D sc cl pu n).2 aB t
 | .try_ b=>Yq x λiZ hs e f=>l0 e (l0 f (lne hs (r pu iZ b)))
 | .uI _ _=>false
 | .bad=>true
 | .zm v v' f e=>TY x λtg e' b lH=>l0 lH (oT2 tg λm m'=>Xi e' λen aB=>YS b λc=>Xi c λfn a=>cC a λm''=> !pu&&rM nm sc m v&&rM nm sc m' v'&&(m''==m')&&Rt sc en "enumerate"&&Vh nm sc fn f&&has D.gt f&&notStar aB&&(jG nm D sc cl pu n).1 aB e)
noncomputable def isBad:List IS->Bool
 |[]=>false
 |x::_=>Nat.beq x.ctorIdx 15
noncomputable def qU (n:Nat):Nat->Bool->List Stmt->List IS->Bool
 |0=>λ_ _ _=>false
 |k+1=>λpu b ib=>isBad ib||dX (qp nm D sc cl n pu (qU n k)) b ib
end
end
section
open PyProof.V
variable {C:Cx}
noncomputable def uniq:List (Addr×Obj)->List (Addr×Obj)
 |[]=>[]
 |p::r=>p::(uniq r).filter (λq=>decide (q.1≠p.1))
theorem nG:∀{l:List (Addr×Obj)} {q},q ∈ uniq l->q ∈ l
 |[],_,h=>h
 |p::r,q,h=>by
  unfold uniq at h
  rcases List.mem_cons.mp h with rfl|h
  ·exact .head _
  ·exact .tail _ (nG (List.mem_filter.mp h).1)
theorem BW:∀l:List (Addr×Obj),((uniq l).map (·.1)).Nodup
 |[]=>List.nodup_nil
 |p::r=>by
  unfold uniq
  rw[List.map_cons,List.nodup_cons]
  refine⟨λh=>?_,(BW r).sublist (List.Sublist.map _ List.filter_sublist)⟩
  obtain⟨q,hq,e⟩:=List.mem_map.mp h
  rw[List.mem_filter,decide_eq_true_eq]at hq
  exact hq.2 e
theorem xM:∀{l:List (Addr×Obj)} {q},q ∈ l->∃q' ∈ uniq l,q'.1=q.1
 |[],_,h=>nomatch h
 |p::r,q,h=>by
  unfold uniq
  by_cases e:q.1=p.1
  ·exact⟨p,.head _,e.symm⟩
  ·rcases List.mem_cons.mp h with rfl|h
   ·exact(e rfl).elim
   ·obtain⟨q',h1,h2⟩:=xM h
    exact⟨q',.tail _ (List.mem_filter.mpr ⟨h1,decide_eq_true (by rw[h2];exact e)⟩),h2⟩
section
variable {P:Addr}{A aU:Around}{base aj:Heap}{outer:List Env}{env:Env}{L:Addr}{f₀ jm:F0}{σ₀ bL:List (Nat×Addr)}{T:Tb}{CF:fP}
 {st:AS}{tmp:List (AV×Value)}{s:Shared}{E:Value->Shared->Prop}{m:Str->Option Value}{σ τ:List (Nat×Addr)}{pm om fz:List (Addr×Obj)}
 {e aB aP bI:Expr}{ie bG bJ bO:IE}{pos apos np mH tp pk pv pt cp fp p2 abS aa4 ipos:Pos}
theorem Qa (Z:Act C A aU base aj outer env L)(co:∀f₀ σ₀,f₀.p=[]->d7 C T CF P A aj L f₀ σ₀){x y f:Nat}{nx ny nf:Str}{kk:Nat}{bad:List Stmt}(hx:nx=C.nm x)(hy:ny=C.nm y)(hlx:env.kindOf nx=some .local)(Xm:env.kindOf ny=some .local)(hdy:(ny==("__debug__":Str))=false)
  (hn:nsIn C.K mainGlobals "enumerate"=some none)(hk:env.kindOf "enumerate"=some .globalImplicit)
  (hnf:nsIn C.K mainGlobals nf=some (some (.ref (C.fa f))))(hkf:env.kindOf nf=some .globalImplicit)(hdf:(nf==("__debug__":Str))=false)(hkeep:keepIn C.K (.ref (C.fa f))=true)(ha:notStar e=true)(ih:cu C (bf T CF) P A aj L f₀ σ₀ env e ie):
  j6 C (wp1 T CF) P A aj L f₀ σ₀ env (.For (.Tuple [.Name nx pk,.Name ny pv] kk pt) (.Call (.Name "enumerate" np) [e] [] cp) [.If (.UnaryOp .Not (.Call (.Name nf fp) [.Name ny p2] [] abS) aa4) bad [] ipos] [] pos) (.zm x y f ie):=λst tmp s Q E R h S K=>by
 obtain⟨hg1,hg2,h⟩:=h
 have hL:=Z.hL
 subst hL
 refine S.un λ_ _ _ _ _ _ X0=>?_
 subst hx hy
 refine wpAny_mono (?_ :wpAny _ _ _ _ (λ_ _=>False) _) (λ_ _ z=>z) (λ_ _ z=>z.elim)
 refine For_pair3F X0.fr Z.hh hlx Xm (by rw[Z.hk];rfl) (rP (id:="enumerate") Z X0.fr hn (by decide+kernel) (by decide) hk (by decide) (all1 ha) (gU ha (ih _ _ _ _ _ _ h S λu aR a bF aF S₁=>aQ aF λl hl aF=>S₁.un λm σ τ pm om fz X=>X.t0.str_ hl λt hz=>?_))) (λx=>iC rfl env x) PassesOwn.never
 obtain⟨hx1,hy1,hall,hQ⟩:=aF
 have X':=X.d1
 refine call_enum_str Z.hh X'.fr X'.nw λh' ea F N src=>?_
 refine src env rfl (C.nm x) (C.nm y) _ _ (λi UL Dc=>(∀z,z≠C.nm x->z≠C.nm y->UL z=m z)/\Dc=pm++(om++fz)) ⟨λ_ _ _=>rfl,rfl⟩ ?_ ?_
 ·intro i c ti v UL Dc bY own Ju hc hv hJ hnm hown uD uy
  obtain⟨bk,Ce,rfl⟩:=Ju
  obtain⟨hJ1,rfl⟩:=hJ
  obtain⟨tv,rfl⟩:=hv
  have hcl:∃n,n ∈ l/\c=⟨#[n]⟩:=by
   unfold signs at hc
   rw[List.getElem?_map]at hc
   exact Ad hc λn h1 h2=>⟨n,List.mem_of_getElem? h1,h2.symm⟩
  obtain⟨n,hnl,rfl⟩:=hcl
  have Nu:News aj env.locals bk (uniq own++(pm++(om++fz))):=jC uy λq hq=>by
   rcases List.mem_append.mp hq with hq|hq
   ·exact List.mem_append_left _ (nG hq)
   ·exact List.mem_append_right _ hq
  have Y:bU C P aj env.locals ⟨uniq own++(pm++(om++fz)),[]⟩ [] ⟨none,[],[]⟩ [] {aR with heap:=bk,toks:=Ce} (λz=>if z=C.nm y then some (.str ⟨#[n]⟩ tv)else if z=C.nm x then some (.int i ti)else UL z) [] [] [] [] (uniq own++(pm++(om++fz))):=by
   refine⟨uD,Nu,?_,(λx a e=>nomatch e),.none rfl,.nil,(λq hq=>nomatch hq),X.gens,X.drawn,X.os,(λ_ h=>h),(λk a e=>nomatch e),(λ_ h=>nomatch h)⟩
   rw[List.nil_append,List.nil_append,List.map_append]
   refine List.nodup_append.mpr ⟨BW own,X.nd,λa ha b hb e=>?_⟩
   obtain⟨q,hq,rfl⟩:=List.mem_map.mp ha
   obtain⟨q',hq',rfl⟩:=List.mem_map.mp hb
   exact hown q (nG hq) q' hq' e
  refine wpAny_execs_cons (wpAny_If (wpAny_isTrue_Not ?_))
  rw[vq rfl env]
  refine gC (hall n hnl) λ_ hcall=>aQ hcall λfi hfi hcall=>aQ hcall λb hb hcall=>?_
  refine wpAny_bind (wpAny_Call_ofName (gF Z uD hnf hkf hdf (tY (C:=C) (ns:=[]) (kws:=[]) (first:=[]) (PH:=C.K.In) rfl rfl (keeps_K hkeep) (gU rfl (wpAny_Name (wpAny_loadName_local Z.hk Xm uD.ns (if_pos rfl) (wpAny_pure ⟨Z.X.keeps uD.keep,wpAny_call ?_⟩)) hdy)))))
  refine co ⟨uniq own++(pm++(om++fz)),[]⟩ [] rfl f fi hfi _ _ _ _ _ _ _ _ _ Y [.str [n]] [.str ⟨#[n]⟩ tv] [] [] b (.cons (VR.str (C:=C) (P:=P) (fz:=uniq own++(pm++(om++fz))) [n] tv (Nat.le_of_ble_eq_true rfl)) .nil) .nil hb _ (λ_ _=>False) _ hcall λr par σ' nQ cY v s' hr W=>W.t0.bool_ hr ?_
  refine wpAny_bind (wpAny_standAt (wpAny_holding (wpAny_truthy_bool ?_)))
  show wpAny _ _ (execs [] env) _ _ _
  refine wpAny_execs_nil (wpAny_execs_nil ?_)
  have k:∀q ∈ own++(pm++(om++fz)),s'.heap.get? q.1=some q.2:=λq hq=>by
   rcases List.mem_append.mp hq with hq|hq
   ·obtain⟨q',h1,h2⟩:=xM hq
    have e1:=(uy q (List.mem_append_left _ hq)).1
    have e2:=(uy q' (List.mem_append_left _ (nG h1))).1
    rw[h2,e1]at e2
    have:=(W.nw q' (List.mem_append_right _ (W.ff q' (List.mem_append_left _ h1)))).1
    rw[h2]at this
    rw[this,Option.some.inj e2]
   ·exact(W.nw q (List.mem_append_right _ (W.ff q (List.mem_append_right _ hq)))).1
  refine⟨rfl,s'.heap,s'.toks,_,pm++(om++fz),?_,W.fr,λq hq=>⟨k q hq,(uy q hq).2⟩,rfl,λz hz1 hz2=>(if_neg hz2).trans ((if_neg hz1).trans (hJ1 z hz1 hz2)),rfl⟩
  have g1:=W.gens
  have g2:=W.drawn
  have g3:=W.os
  have e1:=X.gens
  have e2:=X.drawn
  have e3:=X.os
  obtain⟨hh,gg,dd,tt,oo⟩:=s'
  dsimp only at g1 g2 g3⊢
  rw[g1,g2,g3,e1,e2,e3]
 ·intro bk tk Zb aa3 uD uy _ hJ
  obtain⟨hJ1,rfl⟩:=hJ
  refine K .next _ (.mk _ hQ ⟨Zb,σ,τ,pm,om,fz,uD,uy,X.nd,λz b e=>?_,X.par,X.own,λq hq=>X'.tmp q hq,X.gens,X.drawn,X.os,X.ff,X.ss,X.pf⟩)
  obtain⟨u,k1,k2⟩:=X.ak z b e
  refine⟨u,(hJ1 _ (λq=>?_) (λq=>?_)).trans k1,k2⟩
  ·have:=C.inj _ _ q;subst this;rw[hx1]at e;cases e
  ·have:=C.inj _ _ q;subst this;rw[hy1]at e;cases e
end
end
section
open PyProof.V
variable {C:Cx}
section
variable {P:Addr}{A aU:Around}{base aj:Heap}{outer:List Env}{env:Env}{L:Addr}{f₀ jm:F0}{σ₀ bL:List (Nat×Addr)}{T:Tb}{CF:fP}{D:q7}{sc:Names}{cl:List (Str×Addr)}{pu:Bool}
theorem Gr.toPure (G:Gr C T CF D P A aU base aj outer env L sc cl pu):Gr C T CF D P A aU base aj outer env L sc cl true:=⟨G.Z,G.sc,G.cl,G.D,(λh=>by cases h),G.rm⟩
theorem VB {x:Stmt}:j6 C (wp1 T CF) P A aj L f₀ σ₀ env x .bad:=λst tmp s Q E R h S K=>False.elim h
theorem Pz {b:List Stmt}{ib:List IS}:uE C (wpS T CF) P A aj L f₀ σ₀ env b (.bad::ib):=λst tmp s Q E R h S K=>False.elim h
theorem JT {b:List Stmt}{ib:List IS}(h:fZ (j6 C (wp1 T CF) P A aj L f₀ σ₀ env) b ib):uE C (wpS T CF) P A aj L f₀ σ₀ env b ib:=by
 induction h with
 |nil=>exact Py
 |cons a _ r=>exact JV a r
theorem zX (G:Gr C T CF D P A aU base aj outer env L sc cl pu)(e:Expr)(t:Tg)(h:tgB C.nm sc cl e t=true):Gq C env e t:=by
 cases t with
 |l x=>exact bM (P:=λe=>Gq C env e (.l x)) h λn p h=>have⟨a,b,_⟩:=G.ak h;.l a b
 |c k a=>exact bM (P:=λe=>Gq C env e (.c k a)) h λn p h=>an h λh g=>have⟨a,b,_⟩:=G.jV h g;.c a b
theorem q8 (G:Gr C T CF D P A aU base aj outer env L sc cl pu){e:Expr}{ts:List Tg}(h:zW C.nm sc cl e ts=true)(hp:f₀.p=[]∨ts.all Tg.rM=true):qZ C P A aj L f₀ σ₀ env e ts:=by
 cases ts with
 |nil=>exact jJ h
 |cons t ts=>
  cases ts with
  |nil=>exact u6 G.Z (zX G _ _ h) (hp.imp id λq=>(Bool.and_eq_true_iff.mp q).1)
  |cons t' ts=>exact rC (P:=λe=>qZ C P A aj L f₀ σ₀ env e (t::t'::ts)) h λes k p h=>xP G.Z (cH (zX G) h) hp
theorem Td (G:Gr C T CF D P A aU base aj outer env L sc cl pu){es:List Expr}{ts:List Tg}{k:Nat}{p:Pos}(h:tg2 C.nm sc cl es ts=true)(hp:f₀.p=[]):qZ C P A aj L f₀ σ₀ env (.Tuple es k p) ts:=by
 cases ts with
 |nil=>exact jJ h
 |cons t ts=>
  cases ts with
  |nil=>exact jJ h
  |cons t' ts=>exact xP G.Z (cH (zX G) h) (.inl hp)
theorem v7 {x:Stmt}{k:Str->Expr->Bool}{R:Stmt->Prop}(h:Yt x k=true)(H:∀m q e p,k m e=true->R (.Assign [.Name m q] e p)):R x:=
 jO h λt e p h=>iI (P:=λt=>R (.Assign t e p)) h λt h=>bM (P:=λt=>R (.Assign [t] e p)) h λm q h=>H m q e p h
theorem z6 (G:Gr C T CF D P A aU base aj outer env L sc cl pu){x:Stmt}{k:Str->Expr->Bool}{R:Stmt->Prop}(h:sSf C.nm sc x k=true)(H:∀n q na r e p,(n=C.nm 0/\env.kindOf n=some .local/\(n==("__debug__":Str))=false)->k na e=true->R (.Assign [.Attribute (.Name n q) na r] e p)):R x:=
 jO h λt e p h=>iI (P:=λt=>R (.Assign t e p)) h λt h=>vh G (R:=λt=>R (.Assign [t] e p)) h λn na q r a h=>H n q na r e p a h
theorem v8 {x:Stmt}{k:Expr->Str->List Expr->Bool}{R:Stmt->Prop}(h:Yu x k=true)(H:∀aB na r es q p,k aB na es=true->(r.endLine==q.line)=true->R (.Expr (.Call (.Attribute aB na r) es [] q) p)):R x:=
 Cv h λe p h=>zp (P:=λe=>R (.Expr e p)) h λaB na r es ks q h=>gJ (P:=λks=>R (.Expr (.Call (.Attribute aB na r) es ks q) p)) h λh=>an h λh g=>H aB na r es q p h g
theorem Il {e:Expr}{P:Expr->Prop}(h:noL e=true)(H:∀p,P (.List [] p)):P e:=
 wk h λl p h=>gJ (P:=λl=>P (.List l p)) h λ_=>H p
theorem Uz {e:Expr}{P:Expr->Prop}(h:noD e=true)(H:∀p,P (.Dict [] [] p)):P e:=
 N5 h λks vs p h=>Zj (P:=λks vs=>P (.Dict ks vs p)) h λ_=>H p
theorem fl {o:Eh}{c:Operator}{b:Bool}(h:(b&&Qq o c)=true):(decide (c=R4 o)&&b)=true:=an h λh g=>by rw[h];exact(Bool.and_true _).trans (decide_eq_true (of_decide_eq_true g).symm)
theorem xW (G:Gr C T CF D P A aU base aj outer env L sc cl pu){n:Nat}{r:Bool->List Stmt->List IS->Bool}
  (hr:∀b ib,r pu b ib=true->∀f₀ σ₀,(pu=true∨f₀.p=[])->uE C (wpS T CF) P A aj L f₀ σ₀ env b ib)(hrt:∀b ib,r true b ib=true->∀f₀ σ₀,uE C (wpS T CF) P A aj L f₀ σ₀ env b ib)(hp:pu=true∨f₀.p=[]):
  ∀(x:Stmt) (ix:IS),qp C.nm D sc cl n pu r x ix=true->j6 C (wp1 T CF) P A aj L f₀ σ₀ env x ix:=by
 have gw:(!pu)=true->f₀.p=[]:=λh=>by
  rcases hp with hp|hp
  ·rw[hp]at h;cases h
  ·exact hp
 have hf:=(pW (f₀:=f₀) (σ₀:=σ₀) G hp n).1
 have hft:=(pW (f₀:=f₀) (σ₀:=σ₀) G hp n).2
 let M:IS->Stmt->Prop:=λix x=>j6 C (wp1 T CF) P A aj L f₀ σ₀ env x ix
 intro x ix h
 cases ix with
 |asg v e=>exact v7 (R:=M (.asg v e)) h λm q aB p h=>an h λh h3=>an h λh1 h2=>have⟨a,b,_⟩:=G.ak h1;VG G.Z a b h2 (hf _ _ h3)
 |mR v v' e=>exact jO (P:=M (.mR v v' e)) h λt aB p h=>tM (P:=λt=>M (.mR v v' e) (.Assign t aB p)) h λt t' h=>bM (P:=λt=>M (.mR v v' e) (.Assign [t,t'] aB p)) h λm q h=>bM (P:=λt'=>M (.mR v v' e) (.Assign [.Name m q,t'] aB p)) h λm' q' h=>an h λh h3=>an h λh1 h2=>have⟨a,b,_⟩:=G.ak h1;have⟨a',b',_⟩:=G.ak h2;Qi G.Z a b a' b' (hf _ _ h3)
 |uV v v' v'' e=>exact jO (P:=M (.uV v v' v'' e)) h λt aB p h=>Zi (P:=λt=>M (.uV v v' v'' e) (.Assign t aB p)) h λt t' t'' h=>bM (P:=λt=>M (.uV v v' v'' e) (.Assign [t,t',t''] aB p)) h λm q h=>bM (P:=λt'=>M (.uV v v' v'' e) (.Assign [.Name m q,t',t''] aB p)) h λm' q' h=>bM (P:=λt''=>M (.uV v v' v'' e) (.Assign [.Name m q,.Name m' q',t''] aB p)) h λm'' q'' h=>an h λh h4=>an h λh h3=>an h λh1 h2=>have⟨a,b,_⟩:=G.ak h1;have⟨a',b',_⟩:=G.ak h2;have⟨a'',b'',_⟩:=G.ak h3;Qh G.Z a b a' b' a'' b'' (hf _ _ h4)
 |nD ts e=>exact jO (P:=M (.nD ts e)) h λt aB p h=>iI (P:=λt=>M (.nD ts e) (.Assign t aB p)) h λt h=>rC (P:=λt=>M (.nD ts e) (.Assign [t] aB p)) h λes k q h=>an h λh h5=>an h λh h4=>an h λh h3=>an h λh1 h2=>Qd G.Z (Td G h4 (gw h1)) h2 h3 (hf _ _ h5)
 |Bv k a e=>exact v7 (R:=M (.Bv k a e)) h λm q aB p h=>an h λh h5=>an h λh h4=>an h λh h3=>an h λh1 h2=>have⟨a',b',_⟩:=G.jV h2 h3;Qf (gw h1) G.Z a' b' h4 (hf _ _ h5)
 |qx v k es=>exact v7 (R:=M (.qx v k es)) h λm q aB p h=>wk (P:=λaB=>M (.qx v k es) (.Assign [.Name m q] aB p)) h λl r h=>an h λh h3=>an h λh1 h2=>have⟨a,b,_⟩:=G.ak h1;JZ G.Z a b (lD h2 (cH hf h3))
 |bC a e=>exact z6 G (R:=M (.bC a e)) h λn q na r aB p ⟨a',b',c'⟩ h=>an h λh h6=>an h λh h5=>an h λh h4=>an h λh1 h3=>have e:=beq_iff_eq.mp h3;Qg (gw h1) G.Z a' b' c' e (e▸G.D.at_ _ (dI h4)) h5 (hf _ _ h6)
 |w5 a i e=>exact jO (P:=M (.w5 a i e)) h λt aB p h=>iI (P:=λt=>M (.w5 a i e) (.Assign t aB p)) h λt h=>rD (P:=λt=>M (.w5 a i e) (.Assign [t] aB p)) h λaP bI q h=>an h λh h5=>an h λh h4=>an h λh h3=>an h λh1 h2=>Qe (gw h1) G.Z h2 (hf _ _ h3) (hf _ _ h4) (hf _ _ h5)
 |j7 v k=>exact v7 (R:=M (.j7 v k)) h λm q aB p h=>an h λh g=>Il (P:=λaB=>M (.j7 v k) (.Assign [.Name m q] aB p)) g λr=>have⟨a,b,_⟩:=G.ak h;PN G.Z a b
 |jf a k=>exact z6 G (R:=M (.jf a k)) h λn q na r aB p ⟨a',b',c'⟩ h=>an h λh g=>Il (P:=λaB=>M (.jf a k) (.Assign [.Attribute (.Name n q) na r] aB p)) g λr=>an h λh h4=>an h λh1 h3=>have e:=beq_iff_eq.mp h3;J0 (gw h1) G.Z a' b' c' e (e▸G.D.at_ _ (dI h4))
 |jZ a k=>exact z6 G (R:=M (.jZ a k)) h λn q na r aB p ⟨a',b',c'⟩ h=>an h λh g=>Uz (P:=λaB=>M (.jZ a k) (.Assign [.Attribute (.Name n q) na r] aB p)) g λr=>an h λh h4=>an h λh1 h3=>have e:=beq_iff_eq.mp h3;J1 (gw h1) G.Z a' b' c' e (e▸G.D.at_ _ (dI h4))
 |aug v o e=>exact Cw (P:=M (.aug v o e)) h λt c aB p h=>bM (P:=λt=>M (.aug v o e) (.AugAssign t c aB p)) h λm q h=>an h λh h3=>de (P:=λc=>M (.aug v o e) (.AugAssign (.Name m q) c aB p)) (fl h) λh=>have⟨a,b,_⟩:=G.ak h;VD G.Z a b (hf _ _ h3)
 |gG a o e=>exact Cw (P:=M (.gG a o e)) h λt c aB p h=>vh G (R:=λt=>M (.gG a o e) (.AugAssign t c aB p)) h λn na q r ⟨a',b',c'⟩ h=>an h λh h6=>de (P:=λc=>M (.gG a o e) (.AugAssign (.Attribute (.Name n q) na r) c aB p)) (fl h) λh=>an h λh h4=>an h λh1 h3=>have e:=beq_iff_eq.mp h3;Qc (gw h1) G.Z a' b' c' e (e▸G.D.at_ _ (dI h4)) (hf _ _ h6)
 |exp e=>exact Cv (P:=M (.exp e)) h λaB p h=>an h λh g=>Vx G.Z h (hf _ _ g)
 |app t e=>
  exact v8 (R:=M (.app t e)) h λaB na r es q p h h5=>iI (P:=λes=>M (.app t e) (.Expr (.Call (.Attribute aB na r) es [] q) p)) h λaP h=>an h λh h7=>an h λh h6=>an h λh h4=>an h λh h3=>an h λh1 h2=>by
   obtain rfl:=(beq_iff_eq.mp h2:na=_)
   exact λst tmp s Q E R hw S k=>wN G.Z rfl (λR' k'=>M6 (gw h1) h3 h4 h5 (hf _ _ h6) (hf _ _ h7) hw S k') k
 |ext t e=>
  exact v8 (R:=M (.ext t e)) h λaB na r es q p h h5=>iI (P:=λes=>M (.ext t e) (.Expr (.Call (.Attribute aB na r) es [] q) p)) h λaP h=>an h λh h7=>an h λh h6=>an h λh h4=>an h λh h3=>an h λh1 h2=>by
   obtain rfl:=(beq_iff_eq.mp h2:na=_)
   exact λst tmp s Q E R hw S k=>wN G.Z rfl (λR' k'=>MF (gw h1) h3 h4 h5 (hf _ _ h6) (hf _ _ h7) hw S k') k
 |ins t i e=>
  exact v8 (R:=M (.ins t i e)) h λaB na r es q p h h5=>tM (P:=λes=>M (.ins t i e) (.Expr (.Call (.Attribute aB na r) es [] q) p)) h λaP bI h=>an h λh h8=>an h λh h7=>an h λh h6=>an h λh h4'=>an h λh h4=>an h λh h3=>an h λh1 h2=>by
   obtain rfl:=(beq_iff_eq.mp h2:na=_)
   exact λst tmp s Q E R hw S k=>wN G.Z rfl (λR' k'=>Mw (gw h1) h3 h4 h4' h5 (hf _ _ h6) (hf _ _ h7) (hf _ _ h8) hw S k') k
 |ite t a b=>exact HW (P:=M (.ite t a b)) h λaB iZ lH p h=>an h λh h3=>an h λh1 h2=>Z5 (hft _ _ h1) (hr _ _ h2 _ _ hp) (hr _ _ h3 _ _ hp)
 |whl t b=>exact Nh (P:=M (.whl t b)) h λaB iZ lH p h=>gJ (P:=λlH=>M (.whl t b) (.While aB iZ lH p)) h λh=>an h λh1 h2=>JX (hft _ _ h1) (hr _ _ h2 _ _ hp)
 |jo kd ts e b=>
  refine Cu (P:=M (.jo kd ts e b)) h λtg e' iZ lH p h=>gJ (P:=λlH=>M (.jo kd ts e b) (.For tg e' iZ lH p)) h λh=>?_
  cases kd with
  |list=>exact an h λh h5=>an h λh h4=>an h λh h3=>an h λh1 h2=>yU G.Z h3 (λfz bL=>q8 G h2 (.inl (gw h1))) (λfz bL=>hr _ _ h5 _ _ hp) (hf _ _ h4)
  |dict=>exact an h λh h5=>an h λh h4=>an h λh h3=>an h λh1 h2=>yV G.Z h3 (λjm bL=>q8 G h1 (.inr h2)) (λjm bL=>hrt _ _ h5 _ _) (hf _ _ h4)
  |str=>exact an h λhn h=>an h λh h5=>an h λh h4=>an h λh h3=>an h λh1 h2=>bM (P:=λtg=>zW C.nm sc cl tg ts=true->M (.jo .str ts e b) (.For tg e' iZ [] p)) hn (λm q _ h2=>Bh G.Z h3 (λfz bL=>q8 G h2 (.inl (gw h1))) (λfz bL=>hr _ _ h5 _ _ hp) (hf _ _ h4)) h2
  |range=>
   exact an h λhn h=>sZ (P:=λe'=>M (.jo .range ts e b) (.For tg e' iZ [] p)) h λrn q' aB p' h=>an h λh h5=>an h λh h4=>an h λh h3=>an h λh h2=>an h λh1 h1'=>have⟨ea,b'⟩:=G.blt h1';ea▸
    bM (P:=λtg=>zW C.nm sc cl tg ts=true->M (.jo .range ts e b) (.For tg (.Call (.Name "range" q') [aB] [] p') iZ [] p)) hn (λm q _ h2=>oM G.Z G.D.b5 b' h3 (λfz bL=>q8 G h2 (.inl (gw h1))) (λfz bL=>hr _ _ h5 _ _ hp) (hf _ _ h4)) h2
  |enum=>exact jJ h
 |ret e=>exact Cr (P:=M (.ret e)) h λv p h=>Ia (P:=λv=>M (.ret e) (.Return v p)) h λaB h=>Vw (hf _ _ h)
 |yc=>exact Cr (P:=M .yc) h λv p h=>Rn (P:=λv=>M .yc (.Return v p)) h λ_=>PJ
 |brk=>exact Np (P:=M .brk) h λp _=>Vz
 |pass=>exact Nk (P:=M .pass) h λp _=>PK
 |del a i=>exact Nm (P:=M (.del a i)) h λl p h=>iI (P:=λl=>M (.del a i) (.Delete l p)) h λt h=>rD (P:=λt=>M (.del a i) (.Delete [t] p)) h λaP bI q h=>an h λh h3=>an h λh1 h2=>Vy (gw h1) G.Z (hf _ _ h2) (hf _ _ h3)
 |ast t=>exact Nq (P:=M (.ast t)) h λaB m p h=>VF (hft _ _ h)
 |try_ b=>exact Ni (P:=M (.try_ b)) h λiZ hs e f p h=>gJ (P:=λe=>M (.try_ b) (.Try iZ hs e f p)) h λh=>gJ (P:=λf=>M (.try_ b) (.Try iZ hs [] f p)) h λh=>U5 (P:=λhs=>M (.try_ b) (.Try iZ hs [] [] p)) h λ_ _ h=>Vv (hr _ _ h _ _ hp)
 |uI _ _=>exact jJ h
 |bad=>exact VB
 |zm x y f e=>
  let N:Expr->Expr->List Stmt->Pos->Prop:=λt e' b p=>M (.zm x y f e) (.For t e' b [] p)
  exact Cu (P:=M (.zm x y f e)) h λtg e' b lH p h=>gJ (P:=λlH=>M (.zm x y f e) (.For tg e' b lH p)) h λh=>Ut (P:=λtg=>N tg e' b p) h λm q m' q' tk tp h=>sZ (P:=λe'=>N _ e' b p) h λen q1 aB p1 h=>NT (P:=λb=>N _ _ b p) h λc u cb cp h=>sZ (P:=λc=>N _ _ [.If (.UnaryOp .Not c u) cb [] cp] p) h λfn q2 a p2 h=>bM (P:=λa=>N _ _ [.If (.UnaryOp .Not (.Call (.Name fn q2) [a] [] p2) u) cb [] cp] p) h λm'' q3 h=>
   an h λh h9=>an h λh h8=>an h λh h7=>an h λh h6=>an h λh h5=>an h λh h4=>an h λh h3=>an h λh1 h2=>
    have⟨a,b,_⟩:=G.ak h2;have⟨a',b',c'⟩:=G.ak h3;have⟨a5,d⟩:=G.blt h5;have⟨a'',b'',c''⟩:=G.Xq h6;have⟨k1,k2⟩:=G.D.gt _ (dI h7)
    by obtain rfl:=(beq_iff_eq.mp h4:m''=m');exact a5▸Qa G.Z (G.co (nt h1)) a a' b b' c' G.D.b6 d (a''▸k1) b'' c'' k2 h8 (hf _ _ h9)
theorem Wd {ib:List IS}(h:isBad ib=true){R:List IS->Prop}(H:∀r,R (.bad::r)):R ib:=match ib,h with
 |x::r,h=>IS.bad.elim (motive_1:=λx=>R (x::r)) x (Nat.eq_of_beq_eq_true h) (H r)
theorem rO (n:Nat):∀(k:Nat) (pu:Bool),Gr C T CF D P A aU base aj outer env L sc cl pu->∀(b:List Stmt) (ib:List IS),qU C.nm D sc cl n k pu b ib=true->∀f₀ σ₀,(pu=true∨f₀.p=[])->uE C (wpS T CF) P A aj L f₀ σ₀ env b ib:=λk=>Nat.rec
 (λ_ _ _ _ h=>jJ h)
 (λk ih pu G b ib h f₀ σ₀ hp=>orr (h:(isBad ib||dX (qp C.nm D sc cl n pu (qU C.nm D sc cl n k)) b ib)=true)
  (λh=>Wd (R:=λib=>uE C (wpS T CF) P A aj L f₀ σ₀ env b ib) h λ_=>Pz)
  λh=>JT (cH (xW G (λb ib h f₀ σ₀ hp=>ih pu G b ib h f₀ σ₀ hp) (λb ib h f₀ σ₀=>ih true G.toPure b ib h f₀ σ₀ (.inl rfl)) hp) h)) k
end
end
section
open PyProof.V
variable {C:Cx}
inductive qM (C:Cx)(D:q7)(f:Nat)(body:List Stmt)(ib:List IS)(scope:Scope)(cl:List (Str×Addr))(cdv:Value):Prop
 |plain:qU C.nm D scope.names cl 20 20 false body ib=true->qM C D f body ib scope cl cdv
 |sup {cda cc:Addr} {f':Nat} {na:Str} {p0 p1 apos pos np:Pos} {e:Expr} {ie:IE} {b:List Stmt} {ib':List IS}:cl=[(("__class__":Str),cc)]->cdv= .ref cda->body= .Expr (.Call (.Attribute (.Call (.Name "super" p0) [] [] p1) na apos) [e] [] pos) np::b->ib= .uI f' ie::ib'->
   uw C f f' na scope cda cc->notStar e=true->(apos.endLine==pos.line)=true->(jG C.nm D scope.names cl false 20).1 e ie=true->qU C.nm D scope.names cl 20 20 false b ib'=true->qM C D f body ib scope cl cdv
noncomputable def SJ (C:Cx) (T:Tb) (D:q7):Prop:=∀f i,T.FT f=some i->∃name qual params body scope cl dV kV doc pm an cdv ct es,FnAt C f i name qual params body scope cl dV kV doc pm an cdv ct es/\qM C D f body i.body scope cl cdv
theorem Bq:bootBuiltins "super"=some (.type "super"):=by decide+kernel
theorem sound {T:Tb}{D:q7}(hD:TabsOk C T D)(hF:SJ C T D)(P:Addr):∀(n:Nat) {A aU:Around} {base aj:Heap} {outer:List Env} {env:Env} {L:Addr},Act C A aU base aj outer env L->A.depth+n+2<recursionLimit->∀f₀ σ₀,f₀.p=[]->d7 C T (Ef T n) P A aj L f₀ σ₀:=by
 intro n
 induction n with
 |zero=>
  intro A aU base aj outer env L Z hroom f₀ σ₀ hp f i hi st tmp s m σ τ pm om fz X as us ks Di b ha hk hb Q E R h KK
  exact h.elim
 |succ n ih=>
  intro A aU base aj outer env L Z hroom f₀ σ₀ hp f i hi st tmp s m σ τ pm om fz X as us ks Di b ha hk hb Q E R h KK
  have h':zB T (Ef T n) i (b.map (·.2)) st.par Q:=by
   unfold Ef at h
   rw[hi]at h
   exact h
  obtain⟨name,qual,params,body,scope,cl,dV,kV,doc,YK,an,cdv,ct,es,H,HB⟩:=hF f i hi
  refine Qo hp Z X H (by omega) (λg L' Z' jm hp1 bL=>?_) ha hk hb h' KK
  have G:Gr C T (Ef T n) D P (A.deeper (envX qual scope L' (C.fa f) cdv cl)) A base g (env::outer) (envX qual scope L' (C.fa f) cdv cl) L' scope.names cl false:=
   ⟨Z',rfl,rfl,hD,λ_ f₀ σ₀ hp=>ih Z' (by show A.depth+1+n+2<_;omega) f₀ σ₀ hp,by show A.depth+1+1<_;omega⟩
  cases HB with
  |plain hc=>exact(rO 20 20 _ G _ _ hc jm bL (.inr hp1)).at_
  |sup h1 h2 h3 h4 h5 h6 h7 h8 h9=>
   subst h1 h2 h3
   rw[h4]
   exact JW Z' (G.co rfl jm bL hp1) h5 h6 h7 Bq ((pW G (.inr hp1) 20).1 _ _ h8) (rO 20 20 _ G _ _ h9 jm bL (.inr hp1))
end
noncomputable def nmL:List Str:=[Str.ofString "self",Str.ofString "Reader.__init__",Str.ofString "name",Str.ofString "stream",Str.ofString "stream_pointer",Str.ofString "eof",Str.ofString "buffer",Str.ofString "pointer",Str.ofString "raw_buffer",Str.ofString "raw_decode",Str.ofString "encoding",Str.ofString "index",Str.ofString "line",Str.ofString "column",Str.ofString "check_printable",Str.ofString "peek",Str.ofString "prefix",Str.ofString "length",Str.ofString "update",Str.ofString "forward",Str.ofString "ch",Str.ofString "get_mark",Str.ofString "Mark",Str.ofString "start",Str.ofString "character",Str.ofString "_is_printable",Str.ofString "data",Str.ofString "Scanner.__init__",Str.ofString "done",Str.ofString "flow_level",Str.ofString "tokens",Str.ofString "fetch_stream_start",Str.ofString "tokens_taken",Str.ofString "indent",Str.ofString "indents",Str.ofString "allow_simple_key",Str.ofString "possible_simple_keys",Str.ofString "check_token",Str.ofString "need_more_tokens",Str.ofString "fetch_more_tokens",Str.ofString "choices",Str.ofString "id",Str.ofString "peek_token",Str.ofString "get_token",Str.ofString "stale_possible_simple_keys",Str.ofString "next_possible_simple_key",Str.ofString "scan_to_next_token",Str.ofString "unwind_indent",Str.ofString "fetch_stream_end",Str.ofString "check_directive",Str.ofString "check_document_start",Str.ofString "check_document_end",Str.ofString "fetch_flow_mapping_start",Str.ofString "fetch_flow_mapping_end",Str.ofString "fetch_flow_entry",Str.ofString "check_block_entry",Str.ofString "check_key",Str.ofString "check_value",Str.ofString "fetch_value",Str.ofString "fetch_single",Str.ofString "fetch_double",Str.ofString "check_plain",Str.ofString "fetch_plain",Str.ofString "min_token_number",Str.ofString "level",Str.ofString "key",Str.ofString "token_number",Str.ofString "required",Str.ofString "save_possible_simple_key",Str.ofString "remove_possible_simple_key",Str.ofString "SimpleKey",Str.ofString "mark",Str.ofString "BlockEndToken",Str.ofString "add_indent",Str.ofString "StreamStartToken",Str.ofString "StreamEndToken",Str.ofString "fetch_flow_collection_start",Str.ofString "FlowMappingStartToken",Str.ofString "start_mark",Str.ofString "end_mark",Str.ofString "TokenClass",Str.ofString "fetch_flow_collection_end",Str.ofString "FlowMappingEndToken",Str.ofString "FlowEntryToken",Str.ofString "KeyToken",Str.ofString "BlockMappingStartToken",Str.ofString "ValueToken",Str.ofString "fetch_flow_scalar",Str.ofString "style",Str.ofString "scan_flow_scalar",Str.ofString "scan_plain",Str.ofString "found",Str.ofString "scan_line_break",Str.ofString "double",Str.ofString "chunks",Str.ofString "quote",Str.ofString "scan_flow_scalar_non_spaces",Str.ofString "scan_flow_scalar_spaces",Str.ofString "ScalarToken",Str.ofString "ESCAPE_REPLACEMENTS",Str.ofString "ESCAPE_CODES",Str.ofString "scan_flow_scalar_breaks",Str.ofString "whitespaces",Str.ofString "line_break",Str.ofString "breaks",Str.ofString "spaces",Str.ofString "scan_plain_spaces",Str.ofString "Parser.__init__",Str.ofString "current_event",Str.ofString "yaml_version",Str.ofString "tag_handles",Str.ofString "states",Str.ofString "marks",Str.ofString "state",Str.ofString "parse_stream_start",Str.ofString "peek_event",Str.ofString "get_event",Str.ofString "value",Str.ofString "token",Str.ofString "event",Str.ofString "StreamStartEvent",Str.ofString "parse_implicit_document_start",Str.ofString "DirectiveToken",Str.ofString "DocumentStartToken",Str.ofString "DEFAULT_TAGS",Str.ofString "DocumentStartEvent",Str.ofString "explicit",Str.ofString "parse_document_end",Str.ofString "parse_block_node",Str.ofString "parse_document_start",Str.ofString "DocumentEndToken",Str.ofString "StreamEndEvent",Str.ofString "DocumentEndEvent",Str.ofString "parse_node",Str.ofString "block",Str.ofString "parse_flow_node",Str.ofString "parse_block_node_or_indentless_sequence",Str.ofString "indentless_sequence",Str.ofString "AliasToken",Str.ofString "anchor",Str.ofString "tag",Str.ofString "tag_mark",Str.ofString "AnchorToken",Str.ofString "TagToken",Str.ofString "implicit",Str.ofString "BlockEntryToken",Str.ofString "plain",Str.ofString "ScalarEvent",Str.ofString "FlowSequenceStartToken",Str.ofString "MappingStartEvent",Str.ofString "flow_style",Str.ofString "parse_flow_mapping_first_key",Str.ofString "BlockSequenceStartToken",Str.ofString "parse_block_mapping_first_key",Str.ofString "parse_block_mapping_key",Str.ofString "parse_block_mapping_value",Str.ofString "MappingEndEvent",Str.ofString "parse_flow_mapping_key",Str.ofString "first",Str.ofString "parse_flow_mapping_value",Str.ofString "_law_WORDS",Str.ofString "_law_KEYS",Str.ofString "_law_ENDS",Str.ofString "_law_PADS",Str.ofString "_law_LEADS",Str.ofString "_law_gap",Str.ofString "fold",Str.ofString "lead",Str.ofString "end",Str.ofString "pad",Str.ofString "kind",Str.ofString "_law_write",Str.ofString "single",Str.ofString "k",Str.ofString "tape",Str.ofString "kinds",Str.ofString "more",Str.ofString "meant",Str.ofString "one",Str.ofString "two",Str.ofString "sign",Str.ofString "_law_told",Str.ofString "Mark.__init__",Str.ofString "DirectiveToken.__init__",Str.ofString "Token.__init__",Str.ofString "StreamStartToken.__init__",Str.ofString "AliasToken.__init__",Str.ofString "AnchorToken.__init__",Str.ofString "TagToken.__init__",Str.ofString "ScalarToken.__init__",Str.ofString "StreamStartEvent.__init__",Str.ofString "Event.__init__",Str.ofString "version",Str.ofString "tags",Str.ofString "DocumentStartEvent.__init__",Str.ofString "DocumentEndEvent.__init__",Str.ofString "ScalarEvent.__init__",Str.ofString "CollectionStartEvent.__init__",Str.ofString "SimpleKey.__init__",Str.ofString "script",Str.ofString "flow",Str.ofString "count",Str.ofString "most",Str.ofString "behind",Str.ofString "between",Str.ofString "text",Str.ofString "due",Str.ofString "written",Str.ofString "quotes",Str.ofString "parser",Str.ofString "got"]
noncomputable def jY (i:Nat):Str:=match nth i nmL with
 |some s=>s
 |none=>⟨#[2000000+i]⟩
noncomputable def uT:List IS:=[
  .bC 2 (.aA .none),
  .bC 3 (.aA .none),
  .bC 4 (.aA (.int 0)),
  .bC 5 (.aA (.bool true)),
  .bC 6 (.aA (.str [])),
  .bC 7 (.aA (.int 0)),
  .bC 8 (.aA .none),
  .bC 9 (.aA .none),
  .bC 10 (.aA .none),
  .bC 11 (.aA (.int 0)),
  .bC 12 (.aA (.int 0)),
  .bC 13 (.aA (.int 0)),
  .ite (.vH (.ak 3)) [
   .bC 2 (.aA (.str [60,117,110,105,99,111,100,101,32,115,116,114,105,110,103,62])),
   .exp (.aq 14 [(.ak 3)] []),
   .bC 6 (.bin .add (.ak 3) (.aA (.str [0])))] []]
noncomputable def Wf:List IS:=[
  .try_ [
   .ret (.idx (.bB 6) (.bin .add (.bB 7) (.ak 11)))]]
noncomputable def Kv:List IS:=[
  .ite (.cmp .ge (.bin .add (.bB 7) (.ak 17)) (.len (.bB 6))) [
   .exp (.aq 18 [(.ak 17)] [])] [],
  .ret (.slc (.bB 6) (.bB 7) (.bin .add (.bB 7) (.ak 17)))]
noncomputable def FZ:List IS:=[
  .ite (.cmp .ge (.bin .add (.bin .add (.bB 7) (.ak 17)) (.aA (.int 1))) (.len (.bB 6))) [
   .exp (.aq 18 [(.bin .add (.ak 17) (.aA (.int 1)))] [])] [],
  .whl (.ak 17) [
   .asg 20 (.idx (.bB 6) (.bB 7)),
   .gG 7 .add (.aA (.int 1)),
   .gG 11 .add (.aA (.int 1)),
   .ite (.or_ [(.cmp .fJ (.ak 20) (.aA (.str [10,133,8232,8233]))),(.and_ [(.cmp .eq (.ak 20) (.aA (.str [13]))),(.cmp .ne (.idx (.bB 6) (.bB 7)) (.aA (.str [10])))])]) [
    .gG 12 .add (.aA (.int 1)),
    .bC 13 (.aA (.int 0))] [
    .ite (.cmp .ne (.ak 20) (.aA (.str [65279]))) [
     .gG 13 .add (.aA (.int 1))] []],
   .aug 17 .sub (.aA (.int 1))]]
noncomputable def Bu:List IS:=[
  .ite (.cmp .is_ (.bB 3) (.aA .none)) [
   .ret (.bR 22 [(.bB 2),(.bB 11),(.bB 12),(.bB 13),(.bB 6),(.bB 7)] [])] [
   .bad]]
noncomputable def o8:List IS:=[
  .zm 23 24 25 (.ak 26)]
noncomputable def Ku:List IS:=[
  .ite (.cmp .is_ (.bB 8) (.aA .none)) [
   .yc] []]
noncomputable def uh:List IS:=[
  .uI 1 (.ak 3),
  .bC 28 (.aA (.bool false)),
  .bC 29 (.aA (.int 0)),
  .jf 30 0,
  .exp (.aq 31 [] []),
  .bC 32 (.aA (.int 0)),
  .bC 33 (.neg (.aA (.int 1))),
  .jf 34 1,
  .bC 35 (.aA (.bool true)),
  .jZ 36 2]
noncomputable def jt:List IS:=[
  .whl (.aq 38 [] []) [
   .exp (.aq 39 [] [])],
  .ite (.bB 30) [
   .ite (.not_ (.ak 40)) [
    .bad] [],
   .ite (.cmp .fJ (.fld (.idx (.bB 30) (.aA (.int 0))) 41) (.ak 40)) [
    .ret (.aA (.bool true))] []] [],
  .ret (.aA (.bool false))]
noncomputable def jW:List IS:=[
  .whl (.aq 38 [] []) [
   .exp (.aq 39 [] [])],
  .ite (.bB 30) [
   .ret (.idx (.bB 30) (.aA (.int 0)))] [
   .bad]]
noncomputable def lK:List IS:=[
  .whl (.aq 38 [] []) [
   .bad],
  .ite (.bB 30) [
   .gG 32 .add (.aA (.int 1)),
   .ret (.sW (.bB 30))] []]
noncomputable def nu:List IS:=[
  .ite (.bB 28) [
   .ret (.aA (.bool false))] [],
  .ite (.not_ (.bB 30)) [
   .ret (.aA (.bool true))] [],
  .exp (.aq 44 [] []),
  .ite (.cmp .eq (.aq 45 [] []) (.bB 32)) [
   .ret (.aA (.bool true))] []]
noncomputable def mO:List IS:=[
  .exp (.aq 46 [] []),
  .exp (.aq 44 [] []),
  .exp (.aq 47 [(.bB 13)] []),
  .asg 20 (.aq 15 [] []),
  .ite (.cmp .eq (.ak 20) (.aA (.str [0]))) [
   .ret (.aq 48 [] [])] [],
  .ite (.and_ [(.cmp .eq (.ak 20) (.aA (.str [37]))),(.aq 49 [] [])]) [
   .bad] [],
  .ite (.and_ [(.cmp .eq (.ak 20) (.aA (.str [45]))),(.aq 50 [] [])]) [
   .bad] [],
  .ite (.and_ [(.cmp .eq (.ak 20) (.aA (.str [46]))),(.aq 51 [] [])]) [
   .bad] [],
  .ite (.cmp .eq (.ak 20) (.aA (.str [91]))) [
   .bad] [],
  .ite (.cmp .eq (.ak 20) (.aA (.str [123]))) [
   .ret (.aq 52 [] [])] [],
  .ite (.cmp .eq (.ak 20) (.aA (.str [93]))) [
   .bad] [],
  .ite (.cmp .eq (.ak 20) (.aA (.str [125]))) [
   .ret (.aq 53 [] [])] [],
  .ite (.cmp .eq (.ak 20) (.aA (.str [44]))) [
   .ret (.aq 54 [] [])] [],
  .ite (.and_ [(.cmp .eq (.ak 20) (.aA (.str [45]))),(.aq 55 [] [])]) [
   .bad] [],
  .ite (.and_ [(.cmp .eq (.ak 20) (.aA (.str [63]))),(.aq 56 [] [])]) [
   .bad] [],
  .ite (.and_ [(.cmp .eq (.ak 20) (.aA (.str [58]))),(.aq 57 [] [])]) [
   .ret (.aq 58 [] [])] [],
  .ite (.cmp .eq (.ak 20) (.aA (.str [42]))) [
   .bad] [],
  .ite (.cmp .eq (.ak 20) (.aA (.str [38]))) [
   .bad] [],
  .ite (.cmp .eq (.ak 20) (.aA (.str [33]))) [
   .bad] [],
  .ite (.and_ [(.cmp .eq (.ak 20) (.aA (.str [124]))),(.not_ (.bB 29))]) [
   .bad] [],
  .ite (.and_ [(.cmp .eq (.ak 20) (.aA (.str [62]))),(.not_ (.bB 29))]) [
   .bad] [],
  .ite (.cmp .eq (.ak 20) (.aA (.str [39]))) [
   .ret (.aq 59 [] [])] [],
  .ite (.cmp .eq (.ak 20) (.aA (.str [34]))) [
   .ret (.aq 60 [] [])] [],
  .ite (.aq 61 [] []) [
   .ret (.aq 62 [] [])] [],
  .bad]
noncomputable def iQ:List IS:=[
  .asg 63 (.aA .none),
  .jo .dict [.l 64] (.bB 36) [
   .asg 65 (.idx (.bB 36) (.ak 64)),
   .ite (.or_ [(.cmp .is_ (.ak 63) (.aA .none)),(.cmp .lt (.fld (.ak 65) 66) (.ak 63))]) [
    .asg 63 (.fld (.ak 65) 66)] []],
  .ret (.ak 63)]
noncomputable def gV:List IS:=[
  .jo .list [.l 64] (.keys (.bB 36)) [
   .asg 65 (.idx (.bB 36) (.ak 64)),
   .ite (.or_ [(.cmp .ne (.fld (.ak 65) 12) (.bB 12)),(.cmp .gt (.bin .sub (.bB 11) (.fld (.ak 65) 11)) (.aA (.int 1024)))]) [
    .ite (.fld (.ak 65) 67) [
     .bad] [],
    .del 36 (.ak 64)] []]]
noncomputable def iM:List IS:=[
  .asg 67 (.and_ [(.not_ (.bB 29)),(.cmp .eq (.bB 33) (.bB 13))]),
  .ite (.bB 35) [
   .exp (.aq 69 [] []),
   .asg 66 (.bin .add (.bB 32) (.len (.bB 30))),
   .asg 65 (.bR 70 [(.ak 66),(.ak 67),(.bB 11),(.bB 12),(.bB 13),(.aq 21 [] [])] []),
   .w5 36 (.bB 29) (.ak 65)] []]
noncomputable def dU:List IS:=[
  .ite (.cmp .fJ (.bB 29) (.bB 36)) [
   .bad,
   .bad,
   .bad] []]
noncomputable def qX:List IS:=[
  .ite (.bB 29) [
   .yc] [],
  .whl (.cmp .gt (.bB 33) (.ak 13)) [
   .asg 71 (.aq 21 [] []),
   .bC 33 (.m7 (.bB 34)),
   .app (.bB 30) (.bR 72 [(.ak 71),(.ak 71)] [])]]
noncomputable def wX:List IS:=[
  .ite (.cmp .lt (.bB 33) (.ak 13)) [
   .app (.bB 34) (.bB 33),
   .bC 33 (.ak 13),
   .ret (.aA (.bool true))] [],
  .ret (.aA (.bool false))]
noncomputable def lM:List IS:=[
  .asg 71 (.aq 21 [] []),
  .app (.bB 30) (.bR 74 [(.ak 71),(.ak 71)] [(10,(.bB 10))])]
noncomputable def nA:List IS:=[
  .exp (.aq 47 [(.neg (.aA (.int 1)))] []),
  .exp (.aq 69 [] []),
  .bC 35 (.aA (.bool false)),
  .jZ 36 3,
  .asg 71 (.aq 21 [] []),
  .app (.bB 30) (.bR 75 [(.ak 71),(.ak 71)] []),
  .bC 28 (.aA (.bool true))]
noncomputable def iR:List IS:=[
  .exp (.aq 76 [(.cls 77)] [])]
noncomputable def gQ:List IS:=[
  .exp (.aq 68 [] []),
  .gG 29 .add (.aA (.int 1)),
  .bC 35 (.aA (.bool true)),
  .asg 78 (.aq 21 [] []),
  .exp (.aq 19 [] []),
  .asg 79 (.aq 21 [] []),
  .app (.bB 30) (.lq 80 [(.ak 78),(.ak 79)])]
noncomputable def jr:List IS:=[
  .exp (.aq 81 [(.cls 82)] [])]
noncomputable def iw:List IS:=[
  .exp (.aq 69 [] []),
  .gG 29 .sub (.aA (.int 1)),
  .bC 35 (.aA (.bool false)),
  .asg 78 (.aq 21 [] []),
  .exp (.aq 19 [] []),
  .asg 79 (.aq 21 [] []),
  .app (.bB 30) (.lq 80 [(.ak 78),(.ak 79)])]
noncomputable def nC:List IS:=[
  .bC 35 (.aA (.bool true)),
  .exp (.aq 69 [] []),
  .asg 78 (.aq 21 [] []),
  .exp (.aq 19 [] []),
  .asg 79 (.aq 21 [] []),
  .app (.bB 30) (.bR 83 [(.ak 78),(.ak 79)] [])]
noncomputable def fG:List IS:=[
  .ite (.cmp .fJ (.bB 29) (.bB 36)) [
   .asg 65 (.idx (.bB 36) (.bB 29)),
   .del 36 (.bB 29),
   .ins (.bB 30) (.bin .sub (.fld (.ak 65) 66) (.bB 32)) (.bR 84 [(.fld (.ak 65) 71),(.fld (.ak 65) 71)] []),
   .ite (.not_ (.bB 29)) [
    .ite (.aq 73 [(.fld (.ak 65) 13)] []) [
     .ins (.bB 30) (.bin .sub (.fld (.ak 65) 66) (.bB 32)) (.bR 85 [(.fld (.ak 65) 71),(.fld (.ak 65) 71)] [])] []] [],
   .bC 35 (.aA (.bool false))] [
   .bad,
   .bad,
   .bad,
   .bad],
  .asg 78 (.aq 21 [] []),
  .exp (.aq 19 [] []),
  .asg 79 (.aq 21 [] []),
  .app (.bB 30) (.bR 86 [(.ak 78),(.ak 79)] [])]
noncomputable def ud:List IS:=[
  .exp (.aq 87 [] [(88,(.aA (.str [39])))])]
noncomputable def uf:List IS:=[
  .exp (.aq 87 [] [(88,(.aA (.str [34])))])]
noncomputable def mQ:List IS:=[
  .exp (.aq 68 [] []),
  .bC 35 (.aA (.bool false)),
  .app (.bB 30) (.aq 89 [(.ak 88)] [])]
noncomputable def uP:List IS:=[
  .exp (.aq 68 [] []),
  .bC 35 (.aA (.bool false)),
  .app (.bB 30) (.aq 90 [] [])]
noncomputable def uQ:List IS:=[
  .ite (.bB 29) [
   .ret (.aA (.bool true))] [
   .ret (.cmp .fJ (.aq 15 [(.aA (.int 1))] []) (.aA (.str [0,32,9,13,10,133,8232,8233])))]]
noncomputable def uR:List IS:=[
  .asg 20 (.aq 15 [] []),
  .ret (.or_ [(.cmp .nin (.ak 20) (.aA (.str [0,32,9,13,10,133,8232,8233,45,63,58,44,91,93,123,125,35,38,42,33,124,62,39,34,37,64,96]))),(.and_ [(.cmp .nin (.aq 15 [(.aA (.int 1))] []) (.aA (.str [0,32,9,13,10,133,8232,8233]))),(.or_ [(.cmp .eq (.ak 20) (.aA (.str [45]))),(.and_ [(.not_ (.bB 29)),(.cmp .fJ (.ak 20) (.aA (.str [63,58])))])])])])]
noncomputable def lJ:List IS:=[
  .ite (.and_ [(.cmp .eq (.bB 11) (.aA (.int 0))),(.cmp .eq (.aq 15 [] []) (.aA (.str [65279])))]) [
   .bad] [],
  .asg 91 (.aA (.bool false)),
  .whl (.not_ (.ak 91)) [
   .whl (.cmp .eq (.aq 15 [] []) (.aA (.str [32]))) [
    .exp (.aq 19 [] [])],
   .ite (.cmp .eq (.aq 15 [] []) (.aA (.str [35]))) [
    .whl (.cmp .nin (.aq 15 [] []) (.aA (.str [0,13,10,133,8232,8233]))) [
     .exp (.aq 19 [] [])]] [],
   .ite (.aq 92 [] []) [
    .ite (.not_ (.bB 29)) [
     .bC 35 (.aA (.bool true))] []] [
    .asg 91 (.aA (.bool true))]]]
noncomputable def nj:List IS:=[
  .ite (.cmp .eq (.ak 88) (.aA (.str [34]))) [
   .asg 93 (.aA (.bool true))] [
   .asg 93 (.aA (.bool false))],
  .j7 94 101,
  .asg 78 (.aq 21 [] []),
  .asg 95 (.aq 15 [] []),
  .exp (.aq 19 [] []),
  .ext (.ak 94) (.aq 96 [(.ak 93),(.ak 78)] []),
  .whl (.cmp .ne (.aq 15 [] []) (.ak 95)) [
   .ext (.ak 94) (.aq 97 [(.ak 93),(.ak 78)] []),
   .ext (.ak 94) (.aq 96 [(.ak 93),(.ak 78)] [])],
  .exp (.aq 19 [] []),
  .asg 79 (.aq 21 [] []),
  .ret (.bR 98 [(.join (.ak 94)),(.aA (.bool false)),(.ak 78),(.ak 79),(.ak 88)] [])]
noncomputable def gP:List IS:=[
  .j7 94 101,
  .whl (.aA (.bool true)) [
   .asg 17 (.aA (.int 0)),
   .whl (.cmp .nin (.aq 15 [(.ak 17)] []) (.aA (.str [39,34,92,0,32,9,13,10,133,8232,8233]))) [
    .aug 17 .add (.aA (.int 1))],
   .ite (.ak 17) [
    .app (.ak 94) (.aq 16 [(.ak 17)] []),
    .exp (.aq 19 [(.ak 17)] [])] [],
   .asg 20 (.aq 15 [] []),
   .ite (.and_ [(.not_ (.ak 93)),(.cmp .eq (.ak 20) (.aA (.str [39]))),(.cmp .eq (.aq 15 [(.aA (.int 1))] []) (.aA (.str [39])))]) [
    .app (.ak 94) (.aA (.str [39])),
    .exp (.aq 19 [(.aA (.int 2))] [])] [
    .ite (.or_ [(.and_ [(.ak 93),(.cmp .eq (.ak 20) (.aA (.str [39])))]),(.and_ [(.not_ (.ak 93)),(.cmp .fJ (.ak 20) (.aA (.str [34,92])))])]) [
     .app (.ak 94) (.ak 20),
     .exp (.aq 19 [] [])] [
     .ite (.and_ [(.ak 93),(.cmp .eq (.ak 20) (.aA (.str [92])))]) [
      .exp (.aq 19 [] []),
      .asg 20 (.aq 15 [] []),
      .ite (.cmp .fJ (.ak 20) (.xY 99 1213)) [
       .app (.ak 94) (.idx (.xY 99 1213) (.ak 20)),
       .exp (.aq 19 [] [])] [
       .ite (.cmp .fJ (.ak 20) (.xY 100 1215)) [
        .bad,
        .bad,
        .bad,
        .bad,
        .bad,
        .bad] [
        .ite (.cmp .fJ (.ak 20) (.aA (.str [13,10,133,8232,8233]))) [
         .exp (.aq 92 [] []),
         .ext (.ak 94) (.aq 101 [(.ak 93),(.ak 78)] [])] [
         .bad]]]] [
      .ret (.ak 94)]]]]]
noncomputable def jc:List IS:=[
  .j7 94 101,
  .asg 17 (.aA (.int 0)),
  .whl (.cmp .fJ (.aq 15 [(.ak 17)] []) (.aA (.str [32,9]))) [
   .aug 17 .add (.aA (.int 1))],
  .asg 102 (.aq 16 [(.ak 17)] []),
  .exp (.aq 19 [(.ak 17)] []),
  .asg 20 (.aq 15 [] []),
  .ite (.cmp .eq (.ak 20) (.aA (.str [0]))) [
   .bad] [
   .ite (.cmp .fJ (.ak 20) (.aA (.str [13,10,133,8232,8233]))) [
    .asg 103 (.aq 92 [] []),
    .asg 104 (.aq 101 [(.ak 93),(.ak 78)] []),
    .ite (.cmp .ne (.ak 103) (.aA (.str [10]))) [
     .app (.ak 94) (.ak 103)] [
     .ite (.not_ (.ak 104)) [
      .app (.ak 94) (.aA (.str [32]))] []],
    .ext (.ak 94) (.ak 104)] [
    .app (.ak 94) (.ak 102)]],
  .ret (.ak 94)]
noncomputable def jd:List IS:=[
  .j7 94 101,
  .whl (.aA (.bool true)) [
   .asg 16 (.aq 16 [(.aA (.int 3))] []),
   .ite (.and_ [(.or_ [(.cmp .eq (.ak 16) (.aA (.str [45,45,45]))),(.cmp .eq (.ak 16) (.aA (.str [46,46,46])))]),(.cmp .fJ (.aq 15 [(.aA (.int 3))] []) (.aA (.str [0,32,9,13,10,133,8232,8233])))]) [
    .bad] [],
   .whl (.cmp .fJ (.aq 15 [] []) (.aA (.str [32,9]))) [
    .exp (.aq 19 [] [])],
   .ite (.cmp .fJ (.aq 15 [] []) (.aA (.str [13,10,133,8232,8233]))) [
    .app (.ak 94) (.aq 92 [] [])] [
    .ret (.ak 94)]]]
noncomputable def cI:List IS:=[
  .j7 94 101,
  .asg 78 (.aq 21 [] []),
  .asg 79 (.ak 78),
  .asg 33 (.bin .add (.bB 33) (.aA (.int 1))),
  .j7 105 102,
  .whl (.aA (.bool true)) [
   .asg 17 (.aA (.int 0)),
   .ite (.cmp .eq (.aq 15 [] []) (.aA (.str [35]))) [
    .bad] [],
   .whl (.aA (.bool true)) [
    .asg 20 (.aq 15 [(.ak 17)] []),
    .ite (.or_ [(.cmp .fJ (.ak 20) (.aA (.str [0,32,9,13,10,133,8232,8233]))),(.and_ [(.cmp .eq (.ak 20) (.aA (.str [58]))),(.cmp .fJ (.aq 15 [(.bin .add (.ak 17) (.aA (.int 1)))] []) (.bin .add (.aA (.str [0,32,9,13,10,133,8232,8233])) (.ite (.bB 29) (.aA (.str [44,91,93,123,125])) (.aA (.str [])))))]),(.and_ [(.bB 29),(.cmp .fJ (.ak 20) (.aA (.str [44,63,91,93,123,125])))])]) [
     .brk] [],
    .aug 17 .add (.aA (.int 1))],
   .ite (.cmp .eq (.ak 17) (.aA (.int 0))) [
    .bad] [],
   .bC 35 (.aA (.bool false)),
   .ext (.ak 94) (.ak 105),
   .app (.ak 94) (.aq 16 [(.ak 17)] []),
   .exp (.aq 19 [(.ak 17)] []),
   .asg 79 (.aq 21 [] []),
   .asg 105 (.aq 106 [(.ak 33),(.ak 78)] []),
   .ite (.or_ [(.not_ (.ak 105)),(.cmp .eq (.aq 15 [] []) (.aA (.str [35]))),(.and_ [(.not_ (.bB 29)),(.cmp .lt (.bB 13) (.ak 33))])]) [
    .brk] []],
  .ret (.bR 98 [(.join (.ak 94)),(.aA (.bool true)),(.ak 78),(.ak 79)] [])]
noncomputable def cG:List IS:=[
  .j7 94 101,
  .asg 17 (.aA (.int 0)),
  .whl (.cmp .fJ (.aq 15 [(.ak 17)] []) (.aA (.str [32]))) [
   .aug 17 .add (.aA (.int 1))],
  .asg 102 (.aq 16 [(.ak 17)] []),
  .exp (.aq 19 [(.ak 17)] []),
  .asg 20 (.aq 15 [] []),
  .ite (.cmp .fJ (.ak 20) (.aA (.str [13,10,133,8232,8233]))) [
   .bad,
   .bad,
   .bad,
   .bad,
   .bad,
   .bad,
   .bad,
   .bad] [
   .ite (.ak 102) [
    .app (.ak 94) (.ak 102)] []],
  .ret (.ak 94)]
noncomputable def oZ:List IS:=[
  .asg 20 (.aq 15 [] []),
  .ite (.cmp .fJ (.ak 20) (.aA (.str [13,10,133]))) [
   .ite (.cmp .eq (.aq 16 [(.aA (.int 2))] []) (.aA (.str [13,10]))) [
    .exp (.aq 19 [(.aA (.int 2))] [])] [
    .exp (.aq 19 [] [])],
   .ret (.aA (.str [10]))] [
   .ite (.cmp .fJ (.ak 20) (.aA (.str [8232,8233]))) [
    .exp (.aq 19 [] []),
    .ret (.ak 20)] []],
  .ret (.aA (.str []))]
noncomputable def uU:List IS:=[
  .uI 27 (.ak 3),
  .bC 108 (.aA .none),
  .bC 109 (.aA .none),
  .jZ 110 4,
  .jf 111 5,
  .jf 112 6,
  .bC 113 (.smt 114)]
noncomputable def jX:List IS:=[
  .ite (.cmp .is_ (.bB 108) (.aA .none)) [
   .ite (.bB 113) [
    .bC 108 (.mZ 113)] []] [],
  .ret (.bB 108)]
noncomputable def qH:List IS:=[
  .ite (.cmp .is_ (.bB 108) (.aA .none)) [
   .bad] [],
  .asg 117 (.bB 108),
  .bC 108 (.aA .none),
  .ret (.ak 117)]
noncomputable def eU:List IS:=[
  .asg 118 (.aq 43 [] []),
  .asg 119 (.bR 120 [(.fld (.ak 118) 78),(.fld (.ak 118) 79)] [(10,(.fld (.ak 118) 10))]),
  .bC 113 (.smt 121),
  .ret (.ak 119)]
noncomputable def bK:List IS:=[
  .ite (.not_ (.aq 37 [(.tup [(.ccl 122 41),(.ccl 123 41),(.ccl 75 41)])] [])) [
   .bC 110 (.xY 124 1304),
   .asg 118 (.aq 42 [] []),
   .mR 78 79 (.fld (.ak 118) 78),
   .asg 119 (.bR 125 [(.ak 78),(.ak 79)] [(126,(.aA (.bool false)))]),
   .app (.bB 111) (.smt 127),
   .bC 113 (.smt 128),
   .ret (.ak 119)] [
   .bad]]
noncomputable def dM:List IS:=[
  .whl (.aq 37 [(.tup [(.ccl 130 41)])] []) [
   .bad],
  .ite (.not_ (.aq 37 [(.tup [(.ccl 75 41)])] [])) [
   .bad,
   .bad,
   .bad,
   .bad,
   .bad,
   .bad,
   .bad,
   .bad,
   .bad] [
   .asg 118 (.aq 43 [] []),
   .asg 119 (.bR 131 [(.fld (.ak 118) 78),(.fld (.ak 118) 79)] []),
   .ast (.not_ (.bB 111)),
   .ast (.not_ (.bB 112)),
   .bC 113 (.aA .none)],
  .ret (.ak 119)]
noncomputable def eX:List IS:=[
  .asg 118 (.aq 42 [] []),
  .mR 78 79 (.fld (.ak 118) 78),
  .asg 126 (.aA (.bool false)),
  .ite (.aq 37 [(.tup [(.ccl 130 41)])] []) [
   .bad,
   .bad,
   .bad] [],
  .asg 119 (.bR 132 [(.ak 78),(.ak 79)] [(126,(.ak 126))]),
  .bC 113 (.smt 129),
  .ret (.ak 119)]
noncomputable def nq:List IS:=[
  .ret (.aq 133 [] [(134,(.aA (.bool true)))])]
noncomputable def o7:List IS:=[
  .ret (.aq 133 [] [])]
noncomputable def dW:List IS:=[
  .ret (.aq 133 [] [(134,(.aA (.bool true))),(137,(.aA (.bool true)))])]
noncomputable def dK:List IS:=[
  .ite (.aq 37 [(.tup [(.ccl 138 41)])] []) [
   .bad,
   .bad,
   .bad] [
   .asg 139 (.aA .none),
   .asg 140 (.aA .none),
   .uV 78 79 141 (.aA .none),
   .ite (.aq 37 [(.tup [(.ccl 142 41)])] []) [
    .bad,
    .bad,
    .bad,
    .bad,
    .bad] [
    .ite (.aq 37 [(.tup [(.ccl 143 41)])] []) [
     .bad,
     .bad,
     .bad,
     .bad,
     .bad] []],
   .ite (.cmp .Le (.ak 140) (.aA .none)) [
    .bad,
    .bad] [],
   .ite (.cmp .is_ (.ak 78) (.aA .none)) [
    .mR 78 79 (.fld (.aq 42 [] []) 78)] [],
   .asg 119 (.aA .none),
   .asg 144 (.or_ [(.cmp .is_ (.ak 140) (.aA .none)),(.cmp .eq (.ak 140) (.aA (.str [33])))]),
   .ite (.and_ [(.ak 137),(.aq 37 [(.tup [(.ccl 145 41)])] [])]) [
    .bad,
    .bad,
    .bad] [
    .ite (.aq 37 [(.tup [(.ccl 98 41)])] []) [
     .asg 118 (.aq 43 [] []),
     .asg 79 (.fld (.ak 118) 79),
     .ite (.or_ [(.and_ [(.fld (.ak 118) 146),(.cmp .is_ (.ak 140) (.aA .none))]),(.cmp .eq (.ak 140) (.aA (.str [33])))]) [
      .asg 144 (.tup [(.aA (.bool true)),(.aA (.bool false))])] [
      .ite (.cmp .is_ (.ak 140) (.aA .none)) [
       .asg 144 (.tup [(.aA (.bool false)),(.aA (.bool true))])] [
       .bad]],
     .asg 119 (.bR 147 [(.ak 139),(.ak 140),(.ak 144),(.fld (.ak 118) 117),(.ak 78),(.ak 79)] [(88,(.fld (.ak 118) 88))]),
     .bC 113 (.m7 (.bB 111))] [
     .ite (.aq 37 [(.tup [(.ccl 148 41)])] []) [
      .bad,
      .bad,
      .bad] [
      .ite (.aq 37 [(.tup [(.ccl 77 41)])] []) [
       .asg 79 (.fld (.aq 42 [] []) 79),
       .asg 119 (.bR 149 [(.ak 139),(.ak 140),(.ak 144),(.ak 78),(.ak 79)] [(150,(.aA (.bool true)))]),
       .bC 113 (.smt 151)] [
       .ite (.and_ [(.ak 134),(.aq 37 [(.tup [(.ccl 152 41)])] [])]) [
        .bad,
        .bad,
        .bad] [
        .ite (.and_ [(.ak 134),(.aq 37 [(.tup [(.ccl 85 41)])] [])]) [
         .asg 79 (.fld (.aq 42 [] []) 78),
         .asg 119 (.bR 149 [(.ak 139),(.ak 140),(.ak 144),(.ak 78),(.ak 79)] [(150,(.aA (.bool false)))]),
         .bC 113 (.smt 153)] [
         .bad]]]]]]],
  .ret (.ak 119)]
noncomputable def cj:List IS:=[
  .asg 118 (.aq 43 [] []),
  .app (.bB 112) (.fld (.ak 118) 78),
  .ret (.aq 154 [] [])]
noncomputable def bW:List IS:=[
  .ite (.aq 37 [(.tup [(.ccl 84 41)])] []) [
   .asg 118 (.aq 43 [] []),
   .ite (.not_ (.aq 37 [(.tup [(.ccl 84 41),(.ccl 86 41),(.ccl 72 41)])] [])) [
    .app (.bB 111) (.smt 155),
    .ret (.aq 136 [] [])] [
    .bad,
    .bad]] [],
  .ite (.not_ (.aq 37 [(.tup [(.ccl 72 41)])] [])) [
   .bad,
   .bad] [],
  .asg 118 (.aq 43 [] []),
  .asg 119 (.bR 156 [(.fld (.ak 118) 78),(.fld (.ak 118) 79)] []),
  .bC 113 (.m7 (.bB 111)),
  .exp (.m7 (.bB 112)),
  .ret (.ak 119)]
noncomputable def cJ:List IS:=[
  .ite (.aq 37 [(.tup [(.ccl 86 41)])] []) [
   .asg 118 (.aq 43 [] []),
   .ite (.not_ (.aq 37 [(.tup [(.ccl 84 41),(.ccl 86 41),(.ccl 72 41)])] [])) [
    .app (.bB 111) (.smt 154),
    .ret (.aq 136 [] [])] [
    .bad,
    .bad]] [
   .bad,
   .bad,
   .bad]]
noncomputable def cA:List IS:=[
  .asg 118 (.aq 43 [] []),
  .app (.bB 112) (.fld (.ak 118) 78),
  .ret (.aq 157 [] [(158,(.aA (.bool true)))])]
noncomputable def bx:List IS:=[
  .ite (.not_ (.aq 37 [(.tup [(.ccl 82 41)])] [])) [
   .ite (.not_ (.ak 158)) [
    .ite (.aq 37 [(.tup [(.ccl 83 41)])] []) [
     .exp (.aq 43 [] [])] [
     .bad,
     .bad]] [],
   .ite (.aq 37 [(.tup [(.ccl 84 41)])] []) [
    .asg 118 (.aq 43 [] []),
    .ite (.not_ (.aq 37 [(.tup [(.ccl 86 41),(.ccl 83 41),(.ccl 82 41)])] [])) [
     .app (.bB 111) (.smt 159),
     .ret (.aq 135 [] [])] [
     .bad,
     .bad]] [
    .ite (.not_ (.aq 37 [(.tup [(.ccl 82 41)])] [])) [
     .bad,
     .bad] []]] [],
  .asg 118 (.aq 43 [] []),
  .asg 119 (.bR 156 [(.fld (.ak 118) 78),(.fld (.ak 118) 79)] []),
  .bC 113 (.m7 (.bB 111)),
  .exp (.m7 (.bB 112)),
  .ret (.ak 119)]
noncomputable def cV:List IS:=[
  .ite (.aq 37 [(.tup [(.ccl 86 41)])] []) [
   .asg 118 (.aq 43 [] []),
   .ite (.not_ (.aq 37 [(.tup [(.ccl 83 41),(.ccl 82 41)])] [])) [
    .app (.bB 111) (.smt 157),
    .ret (.aq 135 [] [])] [
    .bad,
    .bad]] [
   .bad,
   .bad,
   .bad]]
noncomputable def j5:List IS:=[
  .ret (.or_ [(.cmp .fJ (.ak 20) (.aA (.str [9,10,13,133]))),(.oV .le .le (.aA (.str [32])) (.ak 20) (.aA (.str [126]))),(.oV .le .le (.aA (.str [160])) (.ak 20) (.aA (.str [55295]))),(.oV .le .le (.aA (.str [57344])) (.ak 20) (.aA (.str [65533]))),(.oV .le .le (.aA (.str [65536])) (.ak 20) (.aA (.str [1114111])))])]
noncomputable def wY:List IS:=[
  .ret (.lst [(.aA (.str [97])),(.aA (.str [105,39,115])),(.aA (.str [34,110])),(.aA (.str [98,92,110])),(.aA (.str [35])),(.aA (.str [45,45,45])),(.aA (.str [120,58])),(.aA (.str [233])),(.aA (.str [39,39])),(.aA (.str [45])),(.aA (.str [91,99])),(.aA (.str [46,46,46])),(.aA (.str [37,100])),(.aA (.str [92])),(.aA (.str [44])),(.aA (.str [63]))])]
noncomputable def zG:List IS:=[
  .ret (.lst [(.tup [(.aA (.str [97])),(.aA (.str [97])),(.aA .none)]),(.tup [(.aA (.str [39,39,39,115,39])),(.aA (.str [39,115])),(.aA (.str [39]))]),(.tup [(.aA (.str [34,92,116,121,34])),(.aA (.str [9,121])),(.aA (.str [34]))]),(.tup [(.aA (.str [98,32,99])),(.aA (.str [98,32,99])),(.aA .none)]),(.tup [(.aA (.str [39,45,32,100,58,32,101,39])),(.aA (.str [45,32,100,58,32,101])),(.aA (.str [39]))])])]
noncomputable def zH:List IS:=[
  .ret (.lst [(.aA (.str [10])),(.aA (.str [13,10])),(.aA (.str [13])),(.aA (.str [133]))])]
noncomputable def zF:List IS:=[
  .ret (.lst [(.aA (.str [32])),(.aA (.str [9])),(.aA (.str [32,32])),(.aA (.str [32,9]))])]
noncomputable def wZ:List IS:=[
  .ret (.lst [(.aA (.str [])),(.aA (.str [32])),(.aA (.str [9]))])]
noncomputable def ug:List IS:=[
  .asg 166 (.bin .add (.bin .add (.ak 167) (.ak 168)) (.ak 169)),
  .ite (.cmp .eq (.ak 170) (.aA (.int 0))) [
   .ret (.tup [(.aA (.str [32])),(.aA (.str [32])),(.ak 166)])] [],
  .ite (.cmp .eq (.ak 170) (.aA (.int 1))) [
   .ret (.tup [(.aA (.str [32])),(.ak 166),(.bin .add (.bin .add (.aA (.str [32,92])) (.ak 168)) (.ak 169))])] [],
  .ite (.cmp .eq (.ak 170) (.aA (.int 2))) [
   .ret (.tup [(.aA (.str [10])),(.bin .add (.bin .add (.ak 166) (.ak 168)) (.ak 169)),(.bin .add (.bin .add (.aA (.str [92,110,92])) (.ak 168)) (.ak 169))])] [],
  .ite (.cmp .eq (.ak 170) (.aA (.int 3))) [
   .ret (.tup [(.aA (.str [10,10])),(.bin .add (.bin .add (.bin .add (.ak 166) (.ak 168)) (.ak 168)) (.ak 169)),(.bin .add (.bin .add (.bin .add (.bin .add (.ak 166) (.ak 167)) (.ak 168)) (.ak 168)) (.ak 169))])] [],
  .ite (.cmp .eq (.ak 170) (.aA (.int 4))) [
   .ret (.tup [(.aA (.str [32,32,9])),(.aA (.str [32,32,9])),(.aA (.str [32,32,9]))])] [],
  .ite (.cmp .eq (.ak 170) (.aA (.int 5))) [
   .ret (.tup [(.aA (.str [8232])),(.bin .add (.bin .add (.ak 167) (.aA (.str [8232]))) (.ak 169)),(.aA (.str [92,76]))])] [],
  .ret (.tup [(.aA (.str [])),(.aA (.str [])),(.bin .add (.bin .add (.aA (.str [92])) (.ak 168)) (.ak 169))])]
noncomputable def o9:List IS:=[
  .asg 117 (.aA (.str [])),
  .asg 172 (.aA (.str [])),
  .asg 93 (.aA (.str [])),
  .jo .range [.l 173] (.bin .add (.len (.ak 174)) (.aA (.int 1))) [
   .asg 170 (.ite (.cmp .lt (.ak 173) (.len (.ak 174))) (.bin .mod (.bin .add (.idx (.ak 174) (.bin .sub (.ak 173) (.aA (.int 1)))) (.ak 173)) (.ak 175)) (.bin .mod (.ak 176) (.ak 175))),
   .nD [.l 177,.l 178,.l 179] (.cU 165 [(.ak 170),(.ak 168),(.ak 169),(.ak 167)]),
   .asg 117 (.bin .add (.ak 117) (.ak 177)),
   .asg 172 (.bin .add (.ak 172) (.ak 178)),
   .asg 93 (.bin .add (.ak 93) (.ak 179)),
   .ite (.cmp .lt (.ak 173) (.len (.ak 174))) [
    .jo .str [.l 180] (.idx (.cU 160 []) (.bin .mod (.idx (.ak 174) (.ak 173)) (.aA (.int 16)))) [
     .asg 117 (.bin .add (.ak 117) (.ak 180)),
     .asg 172 (.bin .add (.ak 172) (.ite (.cmp .eq (.ak 180) (.aA (.str [39]))) (.bin .add (.ak 180) (.ak 180)) (.ak 180))),
     .asg 93 (.bin .add (.ak 93) (.ite (.cmp .fJ (.ak 180) (.lst [(.aA (.str [34])),(.aA (.str [92]))])) (.bin .add (.aA (.str [92])) (.ak 180)) (.ak 180)))]] []],
  .ret (.tup [(.ak 117),(.ak 172),(.ak 93)])]
noncomputable def qI:List IS:=[
  .ite (.Gn (.ak 119) 147) [
   .ret (.tup [(.aA (.str [118,97,108,117,101])),(.fld (.ak 119) 139),(.fld (.ak 119) 140),(.fld (.ak 119) 144),(.fld (.ak 119) 117),(.fld (.ak 119) 88)])] [],
  .ite (.Gn (.ak 119) 149) [
   .ret (.tup [(.aA (.str [109,97,112])),(.fld (.ak 119) 139),(.fld (.ak 119) 140),(.fld (.ak 119) 144),(.fld (.ak 119) 150)])] [],
  .ite (.Gn (.ak 119) 156) [
   .ret (.tup [(.aA (.str [109,97,112,32,101,110,100]))])] [],
  .ite (.Gn (.ak 119) 125) [
   .ret (.tup [(.aA (.str [100,111,99,117,109,101,110,116])),(.fld (.ak 119) 126)])] [],
  .ite (.Gn (.ak 119) 132) [
   .ret (.tup [(.aA (.str [100,111,99,117,109,101,110,116,32,101,110,100])),(.fld (.ak 119) 126)])] [],
  .ite (.Gn (.ak 119) 120) [
   .ret (.tup [(.aA (.str [115,116,114,101,97,109]))])] [],
  .ite (.Gn (.ak 119) 131) [
   .ret (.tup [(.aA (.str [115,116,114,101,97,109,32,101,110,100]))])] [],
  .bad]
noncomputable def Lg:List (Nat×FI):=[
 (1,⟨[0,3],[],uT⟩),
 (15,⟨[0,11],[.int 0],Wf⟩),
 (16,⟨[0,17],[.int 1],Kv⟩),
 (19,⟨[0,17],[.int 1],FZ⟩),
 (21,⟨[0],[],Bu⟩),
 (14,⟨[0,26],[],o8⟩),
 (18,⟨[0,17],[],Ku⟩),
 (27,⟨[0,3],[],uh⟩),
 (37,⟨[0,40],[.top 784],jt⟩),
 (42,⟨[0],[],jW⟩),
 (43,⟨[0],[],lK⟩),
 (38,⟨[0],[],nu⟩),
 (39,⟨[0],[],mO⟩),
 (45,⟨[0],[],iQ⟩),
 (44,⟨[0],[],gV⟩),
 (68,⟨[0],[],iM⟩),
 (69,⟨[0],[],dU⟩),
 (47,⟨[0,13],[],qX⟩),
 (73,⟨[0,13],[],wX⟩),
 (31,⟨[0],[],lM⟩),
 (48,⟨[0],[],nA⟩),
 (52,⟨[0],[],iR⟩),
 (76,⟨[0,80],[],gQ⟩),
 (53,⟨[0],[],jr⟩),
 (81,⟨[0,80],[],iw⟩),
 (54,⟨[0],[],nC⟩),
 (58,⟨[0],[],fG⟩),
 (59,⟨[0],[],ud⟩),
 (60,⟨[0],[],uf⟩),
 (87,⟨[0,88],[],mQ⟩),
 (62,⟨[0],[],uP⟩),
 (57,⟨[0],[],uQ⟩),
 (61,⟨[0],[],uR⟩),
 (46,⟨[0],[],lJ⟩),
 (89,⟨[0,88],[],nj⟩),
 (96,⟨[0,93,78],[],gP⟩),
 (97,⟨[0,93,78],[],jc⟩),
 (101,⟨[0,93,78],[],jd⟩),
 (90,⟨[0],[],cI⟩),
 (106,⟨[0,33,78],[],cG⟩),
 (92,⟨[0],[],oZ⟩),
 (107,⟨[0,3],[],uU⟩),
 (115,⟨[0],[],jX⟩),
 (116,⟨[0],[],qH⟩),
 (114,⟨[0],[],eU⟩),
 (121,⟨[0],[],bK⟩),
 (129,⟨[0],[],dM⟩),
 (127,⟨[0],[],eX⟩),
 (128,⟨[0],[],nq⟩),
 (135,⟨[0],[],o7⟩),
 (136,⟨[0],[],dW⟩),
 (133,⟨[0,134,137],[.bool false,.bool false],dK⟩),
 (153,⟨[0],[],cj⟩),
 (154,⟨[0],[],bW⟩),
 (155,⟨[0],[],cJ⟩),
 (151,⟨[0],[],cA⟩),
 (157,⟨[0,158],[.bool false],bx⟩),
 (159,⟨[0],[],cV⟩),
 (25,⟨[20],[],j5⟩),
 (160,⟨[],[],wY⟩),
 (161,⟨[],[],zG⟩),
 (162,⟨[],[],zH⟩),
 (163,⟨[],[],zF⟩),
 (164,⟨[],[],wZ⟩),
 (165,⟨[170,168,169,167],[],ug⟩),
 (171,⟨[174,176,175,168,169,167],[],o9⟩),
 (181,⟨[119],[],qI⟩)]
noncomputable def clL:List (Nat×CI):=[
 (22,⟨[0,2,11,12,13,6,7],[],[(2,2),(11,11),(12,12),(13,13),(6,6),(7,7)],[]⟩),
 (122,⟨[0,2,117,78,79],[],[(2,2),(117,117),(78,78),(79,79)],[(41,.str [60,100,105,114,101,99,116,105,118,101,62])]⟩),
 (123,⟨[0,78,79],[],[(78,78),(79,79)],[(41,.str [60,100,111,99,117,109,101,110,116,32,115,116,97,114,116,62])]⟩),
 (130,⟨[0,78,79],[],[(78,78),(79,79)],[(41,.str [60,100,111,99,117,109,101,110,116,32,101,110,100,62])]⟩),
 (74,⟨[0,78,79,10],[.none,.none,.none],[(78,78),(79,79),(10,10)],[(41,.str [60,115,116,114,101,97,109,32,115,116,97,114,116,62])]⟩),
 (75,⟨[0,78,79],[],[(78,78),(79,79)],[(41,.str [60,115,116,114,101,97,109,32,101,110,100,62])]⟩),
 (152,⟨[0,78,79],[],[(78,78),(79,79)],[(41,.str [60,98,108,111,99,107,32,115,101,113,117,101,110,99,101,32,115,116,97,114,116,62])]⟩),
 (85,⟨[0,78,79],[],[(78,78),(79,79)],[(41,.str [60,98,108,111,99,107,32,109,97,112,112,105,110,103,32,115,116,97,114,116,62])]⟩),
 (72,⟨[0,78,79],[],[(78,78),(79,79)],[(41,.str [60,98,108,111,99,107,32,101,110,100,62])]⟩),
 (148,⟨[0,78,79],[],[(78,78),(79,79)],[(41,.str [91])]⟩),
 (77,⟨[0,78,79],[],[(78,78),(79,79)],[(41,.str [123])]⟩),
 (82,⟨[0,78,79],[],[(78,78),(79,79)],[(41,.str [125])]⟩),
 (84,⟨[0,78,79],[],[(78,78),(79,79)],[(41,.str [63])]⟩),
 (86,⟨[0,78,79],[],[(78,78),(79,79)],[(41,.str [58])]⟩),
 (145,⟨[0,78,79],[],[(78,78),(79,79)],[(41,.str [45])]⟩),
 (83,⟨[0,78,79],[],[(78,78),(79,79)],[(41,.str [44])]⟩),
 (138,⟨[0,117,78,79],[],[(117,117),(78,78),(79,79)],[(41,.str [60,97,108,105,97,115,62])]⟩),
 (142,⟨[0,117,78,79],[],[(117,117),(78,78),(79,79)],[(41,.str [60,97,110,99,104,111,114,62])]⟩),
 (143,⟨[0,117,78,79],[],[(117,117),(78,78),(79,79)],[(41,.str [60,116,97,103,62])]⟩),
 (98,⟨[0,117,146,78,79,88],[.none],[(117,117),(146,146),(78,78),(79,79),(88,88)],[(41,.str [60,115,99,97,108,97,114,62])]⟩),
 (120,⟨[0,78,79,10],[.none,.none,.none],[(78,78),(79,79),(10,10)],[]⟩),
 (131,⟨[0,78,79],[.none,.none],[(78,78),(79,79)],[]⟩),
 (125,⟨[0,78,79,126,192,193],[.none,.none,.none,.none,.none],[(78,78),(79,79),(126,126),(192,192),(193,193)],[]⟩),
 (132,⟨[0,78,79,126],[.none,.none,.none],[(78,78),(79,79),(126,126)],[]⟩),
 (147,⟨[0,139,140,144,117,78,79,88],[.none,.none,.none],[(139,139),(140,140),(144,144),(117,117),(78,78),(79,79),(88,88)],[]⟩),
 (149,⟨[0,139,140,144,78,79,150],[.none,.none,.none],[(139,139),(140,140),(144,144),(78,78),(79,79),(150,150)],[]⟩),
 (156,⟨[0,78,79],[.none,.none],[(78,78),(79,79)],[]⟩),
 (70,⟨[0,66,67,11,12,13,71],[],[(66,66),(67,67),(11,11),(12,12),(13,13),(71,71)],[]⟩)]
noncomputable def dtL:List (Nat×List (List Nat×AV)):=[
 (1213,[([48],.str [0]),([97],.str [7]),([98],.str [8]),([116],.str [9]),([9],.str [9]),([110],.str [10]),([118],.str [11]),([102],.str [12]),([114],.str [13]),([101],.str [27]),([32],.str [32]),([34],.str [34]),([92],.str [92]),([47],.str [47]),([78],.str [133]),([95],.str [160]),([76],.str [8232]),([80],.str [8233])]),
 (1215,[([120],.int 2),([117],.int 4),([85],.int 8)])]
noncomputable def TT:Tb:={FT:=λf=>get f Lg,CT:=λc=>get c clL,DT:=λd=>get d dtL,EV:=[147,149,156,125,132,120,131]}
noncomputable def DD:q7:=⟨[35,6,13,108,28,10,5,29,33,34,11,12,112,2,7,36,8,9,113,111,3,4,110,30,32,109],[113],[73,55,49,51,50,56,61,14,37,57,60,81,76,54,53,52,87,39,62,59,48,31,58,19,21,43,38,45,153,154,155,128,136,127,129,151,157,159,135,121,133,114,15,42,16,69,68,89,101,96,97,92,90,106,46,44,47,18],[25,160,165],[138,142,72,145,85,152,122,132,130,125,123,83,82,77,148,84,156,149,22,147,98,70,131,75,120,74,143,86],[(124,1304),(100,1215),(99,1213)]⟩
noncomputable def zq:List (Nat×Addr):=[(22,53),(122,135),(123,147),(130,159),(74,179),(75,191),(152,203),(85,215),(72,227),(148,239),(77,251),(82,275),(84,287),(86,299),(145,311),(83,323),(138,342),(142,361),(143,380),(98,400),(120,501),(131,513),(125,533),(132,553),(147,585),(149,621),(156,633),(70,763)]
noncomputable def qT:List (Nat×Addr):=[(1,682),(15,690),(16,698),(19,706),(21,713),(14,720),(18,727),(27,783),(37,792),(42,799),(43,806),(38,813),(39,820),(45,827),(44,834),(68,841),(69,848),(47,855),(73,862),(31,869),(48,876),(52,918),(76,925),(53,939),(81,946),(54,953),(58,974),(59,1023),(60,1030),(87,1037),(62,1044),(57,1086),(61,1093),(46,1100),(89,1212),(96,1222),(97,1229),(101,1236),(90,1243),(106,1250),(92,1278),(107,1312),(115,1326),(116,1333),(114,1340),(121,1347),(129,1354),(127,1361),(128,1382),(135,1389),(136,1396),(133,1404),(153,1432),(154,1439),(155,1446),(151,1489),(157,1497),(159,1504),(25,668),(160,1530),(161,1537),(162,1544),(163,1551),(164,1558),(165,1565),(171,1572),(181,1579),(182,35),(183,132),(184,111),(185,176),(186,339),(187,358),(188,377),(189,397),(190,498),(191,417),(194,530),(195,550),(196,582),(197,466),(198,760),(55,1072),(49,1051),(51,1065),(50,1058),(56,1079)]
end Mine
namespace Mine.H
noncomputable def at2 {α:Type} (d:α):Nat->List α->α
 |_,[]=>d
 |0,a::_=>a
 |k+1,_::r=>at2 d k r
noncomputable def fs (P:Params):List (List Obj):=[f0 P,f1 P,f2 P,f3 P,f4 P,f5 P,f6 P,f7 P,f8 P,f9 P,f10 P,f11 P,f12 P,f13 P,f14 P,f15 P,Xr P,f17 P,f18 P,f19 P,f20 P,f21 P,f22 P,f23 P,f24 P,f25 P,f26 P,f27 P,f28 P,f29 P,f30 P,f31 P,f32 P,f33 P]
noncomputable def ob (P:Params) (a:Nat):Obj:=at2 default (a % 48) (at2 [] (a / 48) (fs P))
noncomputable def KA:List Nat:=[2,3,34,35,52,53,110,111,113,114,131,132,134,135,146,147,158,159,169,175,176,178,179,190,191,202,203,214,215,226,227,238,239,250,251,274,275,286,287,298,299,310,311,322,323,338,339,341,342,357,358,360,361,376,377,379,380,390,396,397,399,400,410,416,417,426,427,448,449,459,465,466,468,469,480,481,491,497,498,500,501,512,513,523,529,530,532,533,543,549,550,552,553,575,581,582,584,585,620,621,632,633,667,668,681,682,683,689,690,691,697,698,699,705,706,712,713,719,720,726,727,729,730,759,760,762,763,771,782,783,785,791,792,798,799,805,806,812,813,819,820,826,827,833,834,840,841,847,848,854,855,861,862,868,869,875,876,917,918,924,925,938,939,945,946,952,953,973,974,1022,1023,1029,1030,1036,1037,1043,1044,1051,1058,1065,1072,1079,1085,1086,1092,1093,1099,1100,1211,1212,1213,1215,1221,1222,1228,1229,1235,1236,1242,1243,1249,1250,1277,1278,1280,1281,1299,1304,1311,1312,1325,1326,1332,1333,1339,1340,1346,1347,1353,1354,1360,1361,1381,1382,1388,1389,1395,1396,1397,1403,1404,1431,1432,1438,1439,1445,1446,1488,1489,1490,1496,1497,1503,1504,1520,1521,1529,1530,1536,1537,1543,1544,1550,1551,1557,1558,1564,1565,1571,1572,1578,1579]
noncomputable def KL (P:Params):List (Addr×Obj):=KA.map λa=>(a,ob P a)
end Mine.H
namespace Mine
noncomputable def ndB:List Str->Bool
 |[]=>true
 |a::r=> !(r.any λb=>a==b)&&ndB r
theorem Iv:∀{l:List Str},ndB l=true->l.Nodup
 |[],_=>List.nodup_nil
 |a::r,h=>by
  unfold ndB at h
  rw[Bool.and_eq_true,Bool.not_eq_true']at h
  refine List.nodup_cons.mpr ⟨λhm=>?_,Iv h.2⟩
  have:=List.any_eq_true.mpr ⟨a,hm,(beq_self_eq_true a)⟩
  rw[h.1]at this;cases this
noncomputable def hiB (s:Str):Bool:=match s.cps.toList with
 |c::_=>Nat.ble 2000000 c
 |[]=>false
theorem Y4:nmL.Nodup:=Iv (by kernel_rfl)
theorem Y5:nmL.all (λs=> !hiB s)=true:=by kernel_rfl
theorem pL {α:Type}:∀(k:Nat) (l:List α),nth k l=l[k]?
 |_,[]=>by simp[nth]
 |0,a::_=>by simp[nth]
 |k+1,_::r=>by simp[nth,pL k r]
theorem Oh:∀i j,jY i=jY j->i=j:=by
 have lo:∀i s,nth i nmL=some s->hiB s=false:=λi s h=>by
  rw[pL]at h
  have:=List.all_eq_true.mp Y5 s (List.mem_of_getElem? h)
  simpa using this
 have hi:∀i,hiB ⟨#[2000000+i]⟩=true:=λi=>by
  show Nat.ble 2000000 (2000000+i)=true
  rw[Nat.ble_eq];omega
 intro i j h
 unfold jY at h
 split at h
 ·rename_i s hs
  split at h
  ·rename_i t ht
   subst h
   rw[pL]at hs ht
   obtain⟨hi',e1⟩:=List.getElem?_eq_some_iff.mp hs
   exact(List.getElem?_inj hi' Y4).mp (hs.trans ht.symm)
  ·have:=lo i s hs
   rw[h,hi j]at this;cases this
 ·split at h
  ·rename_i t ht
   have:=lo j t ht
   rw[<-h,hi i]at this;cases this
  ·have:(2000000+i)=(2000000+j):=by
    have:=congrArg (λs:Str=>s.cps.toList) h
    simpa using this
   omega
structure Ext where
 p:Program
 loose:List Str
 mean:ExcName->Option Value
 mg:Str->Option Value
 mb:Str->Option Value
 g₀:Array GenState
 d₀:Drawn
 o₀:OsState
noncomputable def CC (w:World) (x:Ext):Cx:=⟨H.pw,w,H.KL w.params,x.p,x.loose,x.mean,x.mg,x.mb,jY,Oh,λc=>(get c zq).getD 0,λf=>(get f qT).getD 0,1521,x.g₀,x.d₀,x.o₀⟩
noncomputable def TX {α:Type} (x:Stmt) (k:Str->Arguments->List Stmt->Scope->α) (d:α):α:=dite (x.ctorIdx=0) (λh=>Stmt.FunctionDef.elim (motive_2:=λ_=>α) x h λn a b _ _ _ s _ _ _=>k n a b s) λ_=>d
noncomputable def Ra (x:Stmt):Arguments:=TX x (λ_ a _ _=>a) ⟨[],[],none,[],[],none,[]⟩
noncomputable def Yx (x:Stmt):List Stmt:=TX x (λ_ _ b _=>b) []
noncomputable def pI (x:Stmt):Scope:=TX x (λ_ _ _ s=>s) default
noncomputable def ndN:List Nat->Bool
 |[]=>true
 |a::r=> !(r.any λb=>Nat.beq a b)&&ndN r
theorem Iu:∀{l:List Nat},ndN l=true->l.Nodup
 |[],_=>List.nodup_nil
 |a::r,h=>by
  exact an h λh g=>List.nodup_cons.mpr ⟨λhm=>absurd (List.any_eq_true.mpr ⟨a,hm,Nat.beq_refl a⟩) (by rw[nt h];exact Bool.false_ne_true),Iu g⟩
noncomputable def Wh:List AV->List Value->Bool
 |[],[]=>true
 |a::r,v::q=>Ga a v&&Wh r q
 |_,_=>false
theorem DQ {C:Cx}:∀{as:List AV} {vs:List Value},Wh as vs=true->∀P fz,dz C P fz as vs
 |[],[],_,_,_=>.nil
 |a::r,v::q,h,P,fz=>by
  exact an h λh g=>.cons (pq h P fz) (DQ g P fz)
 |[],_::_,h,_,_=>nomatch h
 |_::_,[],h,_,_=>nomatch h
noncomputable def G4:List Str->List Str->Bool
 |[],[]=>true
 |a::r,v::q=>a==v&&G4 r q
 |_,_=>false
theorem xT:∀{as vs:List Str},G4 as vs=true->as=vs
 |[],[],_=>rfl
 |a::r,v::q,h=>by
  exact an h λh g=>by rw[beq_iff_eq.mp h,xT g]
 |[],_::_,h=>nomatch h
 |_::_,[],h=>nomatch h
noncomputable def fnB (K:Frag) (ps:List Nat) (ds:List AV) (es:List Value) (q:Str) (a:Arguments) (sc:Scope) (cdv:Value):Bool:=
 codeIn K cdv q&&a.posonlyargs.isEmpty&&a.kwonlyargs.isEmpty&&a.vararg.isNone&&a.kwarg.isNone&&G4 (a.args.map (·.arg)) (ps.map jY)&&ndN ps&&Wh ds es&&
  ps.all (λp=>Ag sc.names (jY p))&&sc.names.all (λx=>decide (x.2≠.cell))&& !sc.isCoroutine&& !sc.isGenerator&&decide (sc.kind= .function)
inductive Xg (K:Frag):Value->List Value->Prop
 |none:Xg K .none []
 |ref {T:Addr} {o:Obj} {es:List Value} {n:Nat}:K.lookup T=some o->o.data= .seq es.toArray n->Xg K (.ref T) es
theorem Xg.df {K:Frag}{dV:Value}{es:List Value}(h:Xg K dV es):∀h:Heap,K.In h->∃items:Option (Array Value),(items.getD #[]).toList=es/\∀{M:Model} {A:Around} {E:Value->Shared->Prop} {R:Option (Array Value)->Shared->Prop} {s:Shared},s.heap=h->R items s->wpAny M A (seqItems? dV) R E s:=by
 intro hp X
 cases h with
 |none=>exact⟨Option.none,rfl,λ_ hR=>wpAny_pure hR⟩
 |ref h1 h2=>exact⟨some es.toArray,rfl,λe hR=>wpAny_seqItems (by rw[e];exact X _ _ h1) h2 hR⟩
noncomputable def Yr (x:Stmt) (k:Str->Str->Str->Bool):Bool:=xZ x λt e=>l1 t λt=>s7 t λe' na _=>cC e' λn=>cC e λpn=>k n na pn
theorem Nj {x:Stmt}{k:Str->Str->Str->Bool}{P:Stmt->Prop}(h:Yr x k=true)(H:∀n p1 na p2 pn p3 p4,k n na pn=true->P (.Assign [.Attribute (.Name n p1) na p2] (.Name pn p3) p4)):P x:=
 jO h λt e p h=>iI (P:=λt=>P (.Assign t e p)) h λt h=>nR (P:=λt=>P (.Assign [t] e p)) h λe' na p2 h=>bM (P:=λe'=>P (.Assign [.Attribute e' na p2] e p)) h λn p1 h=>bM (P:=λe=>P (.Assign [.Attribute (.Name n p1) na p2] e p)) h λpn p3 h=>H n p1 na p2 pn p3 p h
theorem FnAt.of {w:World}{x:Ext}{f:Nat}{i:FI}{name q:Str}{params:Arguments}{body:List Stmt}{sc:Scope}{cl:List (Str×Addr)}{dV kV doc pm:Value}{cdv ct:Value}{es:List Value}{o:Obj}(ho:(H.KL w.params).lookup ((get f qT).getD 0)=some o)
  (hd:o.data= .func (fnX name q params body sc cl dV kV doc pm none cdv ct))(D:Xg (H.KL w.params) dV es)(h:fnB (H.KL w.params) i.ps i.ds es q params sc cdv=true):
  FnAt (CC w x) f i name q params body sc cl dV kV doc pm none cdv ct es:=by
 obtain⟨oc,od,dat,osl⟩:=o
 dsimp only at hd
 subst hd
 exact an h λh h13=>an h λh h12=>an h λh h11=>an h λh h10=>an h λh h9=>an h λh h8=>an h λh h7=>an h λh h6=>an h λh h5=>an h λh h4=>an h λh h3=>an h λh1 h2=>
  ⟨⟨oc,od,osl,ho⟩,h1,List.isEmpty_iff.mp h2,List.isEmpty_iff.mp h3,Option.isNone_iff_eq_none.mp h4,Option.isNone_iff_eq_none.mp h5,xT h6,Iu h7,D.df,DQ h8,λp hp=>(jR (List.all_eq_true.mp h9 p hp)).1,λy hy=>of_decide_eq_true (List.all_eq_true.mp h10 y hy),nt h11,nt h12,of_decide_eq_true h13⟩
noncomputable def yL (K:Frag) (c:Addr) (sc:Names):List Stmt->List (Nat×Nat)->Bool
 |[],fs=>l0 fs true
 |x::r,fs=>match fs with
  |[]=>false
  |q::fs=>Yr x λn na pn=>(n==jY 0)&&(na==jY q.1)&&(pn==jY q.2)&&attrOk K c na&&Ag sc n&&Ag sc pn&&yL K c sc r fs
theorem yK {w:World}{x:Ext}{c:Nat}{sc:Scope}:∀{b:List Stmt} {fs:List (Nat×Nat)},yL (H.KL w.params) ((get c zq).getD 0) sc.names b fs=true->qL (CC w x) c sc b fs
 |[],fs,h=>gJ (P:=λfs=>qL (CC w x) c sc [] fs) h λ_=>.nil
 |y::r,[],h=>jJ h
 |y::r,q::fs,h=>Nj (P:=λy=>qL (CC w x) c sc (y::r) (q::fs)) (k:=λn na pn=>(n==jY 0)&&(na==jY q.1)&&(pn==jY q.2)&&attrOk (H.KL w.params) ((get c zq).getD 0) na&&Ag sc.names n&&Ag sc.names pn&&yL (H.KL w.params) ((get c zq).getD 0) sc.names r fs) h λn p1 na p2 pn p3 p4 h=>
   an h λh h7=>an h λh h6=>an h λh h5=>an h λh h4=>an h λh h3=>an h λh1 h2=>.cons (beq_iff_eq.mp h1) (beq_iff_eq.mp h2) (beq_iff_eq.mp h3) h4 (jR h5).2 (jR h6).2 (jR h5).1 (jR h6).1 (yK h7)
theorem Gk.of {w:World}{x:Ext}{c:Nat}{i:CI}{f:Nat}{name q:Str}{params:Arguments}{body:List Stmt}{sc:Scope}{dV kV doc pm cdv ct:Value}{es:List Value}
  (F:FnAt (CC w x) f ⟨i.ps,i.ds,[]⟩ name q params body sc [] dV kV doc pm none cdv ct es)
  (h:(makesIn (H.KL w.params) ((get c zq).getD 0)&&(findIn (H.KL w.params) (.ref ((get c zq).getD 0)) "__init__"==some (some (.ref ((get f qT).getD 0))))&&(typeIn (H.KL w.params) (.ref ((get f qT).getD 0))==some (.type "function"))&&
   yL (H.KL w.params) ((get c zq).getD 0) sc.names body i.fs&&decide (i.ps.head?=some 0)&&Nat.ble i.fs.length 100)=true):
  Gk (CC w x) c i f name q params body sc [] dV kV doc pm none cdv ct es:=
 an h λh h6=>an h λh h5=>an h λh h4=>an h λh h3=>an h λh1 h2=>⟨h1,beq_iff_eq.mp h2,beq_iff_eq.mp h3,F,yK h4,of_decide_eq_true h5,Nat.le_of_ble_eq_true h6⟩
noncomputable def YT (d:Data) (k:FuncData->Bool):Bool:=dite (d.ctorIdx=7) (λh=>Data.func.elim (motive:=λ_=>Bool) d h k) λ_=>false
theorem NZ {d:Data}{k:FuncData->Bool}(h:YT d k=true){G:Prop}(H:∀fd,d= .func fd->k fd=true->G):G:=
 dk h λg h=>Data.func.elim (motive:=λd=>∀g:d.ctorIdx=7,Data.func.elim (motive:=λ_=>Bool) d g k=true->(∀fd,d= .func fd->k fd=true->G)->G) d g (λfd _ h H=>H fd rfl h) g h H
noncomputable def YQ (d:Data) (k:List Value->Bool):Bool:=dite (d.ctorIdx=2) (λh=>Data.seq.elim (motive:=λ_=>Bool) d h λes _=>k es.toList) λ_=>false
theorem NQ {d:Data}{k:List Value->Bool}(h:YQ d k=true){G:Prop}(H:∀es n,d= .seq es n->k es.toList=true->G):G:=
 dk h λg h=>Data.seq.elim (motive:=λd=>∀g:d.ctorIdx=2,Data.seq.elim (motive:=λ_=>Bool) d g (λes _=>k es.toList)=true->(∀es n,d= .seq es n->k es.toList=true->G)->G) d g (λes n _ h H=>H es n rfl h) g h H
noncomputable def Uu (d:Value) (k:Addr->Bool):Bool:=dite (d.ctorIdx=10) (λh=>Value.ref.elim (motive:=λ_=>Bool) d h k) λ_=>false
theorem CQ {d:Value}{k:Addr->Bool}{P:Value->Prop}(h:Uu d k=true)(H:∀a,k a=true->P (.ref a)):P d:=
 dk h λg=>Value.ref.elim (motive:=λd=>∀g:d.ctorIdx=10,Value.ref.elim (motive:=λ_=>Bool) d g k=true->P d) d g (λa _ h=>H a h) g
noncomputable def fnD (K:Frag) (a:Addr) (k:FuncData->Bool):Bool:=kY (K.lookup a) λo=>YT o.data k
theorem Bb {K:Frag}{a:Addr}{k:FuncData->Bool}(h:fnD K a k=true){G:Prop}(H:∀o fd,K.lookup a=some o->o.data= .func fd->k fd=true->G):G:=fB h λo e h=>NZ h λfd e' h=>H o fd e e' h
noncomputable def zA (fd:FuncData) (k:List Stmt->Bool):Bool:=match fd.body with
 | .stmts b=>k b
 | .expr _=>false
theorem tZ {fd:FuncData}{k:List Stmt->Bool}(h:zA fd k=true){G:Prop}(H:∀b,fd.body= .stmts b->k b=true->G):G:=by
 unfold zA at h
 revert h H
 cases fd.body with
 |stmts b=>exact λh H=>H b rfl h
 |expr _=>exact λh=>jJ h
noncomputable def aaj (K:Frag) (v:Value) (k:List Value->Bool):Bool:=(decide (v= .none)&&k [])||Uu v λT=>kY (K.lookup T) λo=>YQ o.data k
theorem Ql {K:Frag}{v:Value}{k:List Value->Bool}(h:aaj K v k=true){G:Prop}(H:∀es,Xg K v es->k es=true->G):G:=
 orr h (λh=>an h λe h=>H _ (of_decide_eq_true e▸.none) h)
  λh=>CQ (P:=λv=>(∀es,Xg K v es->k es=true->G)->G) h (λT h H=>fB h λo e h=>NQ h λes n e' h=>H _ (.ref e e') h) H
noncomputable def fnC (K:Frag) (i:FI) (fd:FuncData):Bool:=decide (fd.globals=mainGlobals)&&decide (fd.builtins=builtinsNs)&&fd.annotations.isNone&&aaj K fd.defaults λes=>fnB K i.ps i.ds es fd.qualname fd.params fd.scope fd.code
theorem Bc {w:World}{x:Ext}{f:Nat}{i:FI}{fd:FuncData}{b:List Stmt}{o:Obj}(ho:(H.KL w.params).lookup ((get f qT).getD 0)=some o)(hd:o.data= .func fd)(hb:fd.body= .stmts b)(h:fnC (H.KL w.params) i fd=true)
  {G:Prop}(k:∀es,FnAt (CC w x) f i fd.name fd.qualname fd.params b fd.scope fd.closure fd.defaults fd.kwdefaults fd.doc fd.pyModule none fd.code fd.closureTuple es->G):G:=
 an h λh h4=>an h λh h3=>an h λh1 h2=>Ql h4 λes D h4=>k es (FnAt.of ho (by
  rw[hd]
  obtain⟨n,q,pa,bo,sc,gl,cl,dV,kV,doc,pm,an',cd,ct,bu⟩:=fd
  have e1:=of_decide_eq_true h1
  have e2:=of_decide_eq_true h2
  have e3:=Option.isNone_iff_eq_none.mp h3
  dsimp only at hb e1 e2 e3⊢
  rw[hb,e1,e2,e3]) D h4)
noncomputable def enB:List (String×Nat×Value)->List (List Nat×AV)->Bool
 |[],[]=>true
 |(s,_,v)::r,(x,a)::q=>decide ((Str.ofString s).cps.toList=x)&&Ga a v&&enB r q
 |_,_=>false
theorem wF (P:Params):∀l:List (String×Nat×Value),KeysLit P (l.map λq=>H.en P q.1 q.2.1 q.2.2)
 |[]=>trivial
 |q::r=>⟨⟨_,_,rfl,rfl⟩,wF P r⟩
theorem Du {C:Cx}(P:Params)(x:List Nat):∀{l:List (String×Nat×Value)} {m:List (List Nat×AV)},enB l m=true->
  match lC x m with
  |some v=>∃e,(l.map λq=>H.en P q.1 q.2.1 q.2.2).find? (λe=>e.key.isStr ⟨x.toArray⟩)=some e/\∀P fz,VR C P fz v e.val
  |none=>(l.map λq=>H.en P q.1 q.2.1 q.2.2).find? (λe=>e.key.isStr ⟨x.toArray⟩)=none
 |[],[],_=>rfl
 |[],_::_,h=>nomatch h
 |_::_,[],h=>by obtain⟨_,_,_⟩:=‹String×Nat×Value›;cases h
 |(s,t,v)::r,(y,a)::q,h=>by
  exact an h λh h3=>an h λh1 h2=>by
   unfold lC
   dsimp only
   have hb:(H.en P s t v).key.isStr ⟨x.toArray⟩=decide (y=x):=by
    show((Str.ofString s)==(⟨x.toArray⟩:Str))=_
    rw[<-of_decide_eq_true h1]
    rw[Bool.eq_iff_iff,beq_iff_eq,decide_eq_true_eq]
    constructor
    ·intro e;rw[e]
    ·intro e
     have gen:∀z:Str,z.cps.toList=x->z=⟨x.toArray⟩:=λz hz=>by
      obtain⟨⟨l⟩⟩:=z
      have:l=x:=hz
      rw[this]
     exact gen _ e
   rw[List.map_cons,List.find?_cons]
   rw[hb]
   cases decide (y=x)with
   |true=>exact⟨_,rfl,λP fz=>pq h2 P fz⟩
   |false=>exact Du P x h3
theorem J6 (P:Params):∀l:List (String×Nat×Value),(l.map λq=>H.en P q.1 q.2.1 q.2.2).any (·.refKey)=false
 |[]=>rfl
 |q::r=>by rw[List.map_cons,List.any_cons,J6 P r];rfl
theorem RL {C:Cx}{K:Frag}{P:Params}{d:Addr}{l:List (String×Nat×Value)}{m:List (List Nat×AV)}{n:Nat}(hl:K.lookup d=some ⟨.type "dict",none,.dict (l.map λq=>H.en P q.1 q.2.1 q.2.2).toArray n,#[]⟩)(h:enB l m=true)(x:List Nat):
  match lC x m with
  |some v=>∃u,nsIn K d ⟨x.toArray⟩=some (some u)/\∀P fz,VR C P fz v u
  |none=>nsIn K d ⟨x.toArray⟩=some none:=by
 have f:=Du (C:=C) P x h
 unfold nsIn
 rw[hl]
 dsimp only
 split at f
 ·rename_i v hv
  obtain⟨e,h1,h2⟩:=f
  rw[h1]
  exact⟨_,rfl,h2⟩
 ·rw[f]
  dsimp only
  rw[J6 P l]
  rfl
section
variable (w:World)(x:Ext)
noncomputable def J8:List (String×Nat×Value):=[("x",1960,H.vi 2 1961),("u",1962,H.vi 4 1963),("U",1964,H.vi 8 1965)]
noncomputable def J9:List (String×Nat×Value):=[("0",1905,H.vs "\x00" 1906),("a",1908,H.vs "\x07" 1909),("b",1911,H.vs "\x08" 1912),("t",1914,H.vs "\x09" 1915),("\x09",1917,H.vs "\x09" 1918),("n",1920,H.vs "\x0a" 1921),("v",1923,H.vs "\x0b" 1924),("f",1926,H.vs "\x0c" 1927),("r",1929,H.vs "\x0d" 1930),("e",1932,H.vs "\x1b" 1933),(" ",1935,H.vs " " 1936),("\"",1938,H.vs "\"" 1939),("\\",1941,H.vs "\\" 1942),("/",1944,H.vs "/" 1945),("N",1947,H.vs "\u0085" 1948),("_",1950,H.vs "\u00a0" 1951),("L",1953,H.vs "\u2028" 1954),("P",1956,H.vs "\u2029" 1957)]
theorem Yc:uX (CC w x) TT:=by
 refine⟨λd l h=>?_⟩
 have hm:=get_mem h
 unfold dtL at hm
 simp only[List.mem_cons,List.not_mem_nil,or_false,Prod.mk.injEq]at hm
 rcases hm with⟨rfl,rfl⟩ |⟨rfl,rfl⟩
 ·exact⟨by decide,(J9.map λq=>H.en w.params q.1 q.2.1 q.2.2).toArray,18,by kernel_rfl,by rw[List.toList_toArray];exact wF _ _,RL (P:=w.params) (K:=H.KL w.params) (l:=J9) (n:=18) (by kernel_rfl) (by kernel_rfl)⟩
 ·exact⟨by decide,(J8.map λq=>H.en w.params q.1 q.2.1 q.2.2).toArray,3,by kernel_rfl,by rw[List.toList_toArray];exact wF _ _,RL (P:=w.params) (K:=H.KL w.params) (l:=J8) (n:=3) (by kernel_rfl) (by kernel_rfl)⟩
noncomputable def ctB (K:Frag) (q:Nat×CI):Bool:=q.2.fs.all (λf=>RB K ((get q.1 zq).getD 0) (jY f.1))&&q.2.cat.all (λz=>vN K ((get q.1 zq).getD 0) (jY z.1) z.2&&RX K ((get q.1 zq).getD 0) (jY z.1) z.2)
theorem V4:clL.all (ctB (H.KL w.params))=true:=by kernel_rfl
theorem aak:∀c i,TT.CT c=some i->K8 (CC w x) c i:=by
 intro c i h
 have hm:=List.all_eq_true.mp (V4 w) _ (get_mem h)
 unfold ctB at hm
 rw[Bool.and_eq_true]at hm
 refine⟨λa p e=>List.all_eq_true.mp hm.1 _ (get_mem e),λa v e=>?_⟩
 have:=List.all_eq_true.mp hm.2 _ (get_mem e)
 rw[Bool.and_eq_true]at this
 exact this
theorem Wj:DD.at_.all (λa=>attrOk (H.KL w.params) 1521 (jY a))=true:=by kernel_rfl
theorem Wm:DD.ac.all (λa=>Wn (H.KL w.params) 1521 (jY a))=true:=by kernel_rfl
theorem UW:DD.mt.all (λf=>qu (H.KL w.params) 1521 (jY f) ((get f qT).getD 0)&&keepIn (H.KL w.params) (.ref ((get f qT).getD 0)))=true:=by kernel_rfl
theorem Vo:DD.gt.all (λf=>(nsIn (H.KL w.params) mainGlobals (jY f)==some (some (.ref ((get f qT).getD 0))))&&keepIn (H.KL w.params) (.ref ((get f qT).getD 0)))=true:=by kernel_rfl
theorem V5:DD.ct.all (λc=>(nsIn (H.KL w.params) mainGlobals (jY c)==some (some (.ref ((get c zq).getD 0))))&&keepIn (H.KL w.params) (.ref ((get c zq).getD 0)))=true:=by kernel_rfl
theorem Tn:DD.st.all (λq=>vN (H.KL w.params) 1521 (jY q.1) (.top q.2))=true:=by kernel_rfl
theorem VJ:Qj (CC w x) TT.EV=true:=by kernel_rfl
theorem Vb:Lg.all (λq=>fnIn (H.KL w.params) ((get q.1 qT).getD 0))=true:=by kernel_rfl
theorem b_1:nsIn (H.KL w.params) mainGlobals "len"=some none:=by kernel_rfl
theorem b_2:nsIn (H.KL w.params) mainGlobals "isinstance"=some none:=by kernel_rfl
theorem b_3:nsIn (H.KL w.params) mainGlobals "str"=some none:=by kernel_rfl
theorem b_4:nsIn (H.KL w.params) mainGlobals "list"=some none:=by kernel_rfl
theorem b_5:nsIn (H.KL w.params) mainGlobals "range"=some none:=by kernel_rfl
theorem b_6:nsIn (H.KL w.params) mainGlobals "enumerate"=some none:=by kernel_rfl
end
section
noncomputable def Ye (f':Nat) (ie:IE) (ib:List IS) (sc:Names) (cl:List (Str×Addr)) (b:List Stmt):Bool:=match b with
 |[]=>false
 |x::b=>Yu x λaB na es=>fW aB λg as ks _=>cC g λn=>l0 as (l0 ks (l1 es λe=>decide (n="super")&&(decide (na="__init__")&&(notStar e&&(jG jY DD sc cl false 20).1 e ie&&qU jY DD sc cl 20 20 false b ib))))
theorem qM.Ti {w:World}{x:Ext}{f f':Nat}{ie:IE}{ib:List IS}{scope:Scope}{cda cc:Addr}{body:List Stmt}(h:Ye f' ie ib scope.names [(Str.ofString "__class__",cc)] body=true)(H:uw (CC w x) f f' "__init__" scope cda cc):
  qM (CC w x) DD f body (.uI f' ie::ib) scope [(Str.ofString "__class__",cc)] (.ref cda):=by
 cases body with
 |nil=>exact jJ h
 |cons y b=>
  let M:Stmt->Prop:=λy=>qM (CC w x) DD f (y::b) (.uI f' ie::ib) scope [(Str.ofString "__class__",cc)] (.ref cda)
  exact v8 (R:=M) h λaB na r es q p h h4=>kZ (P:=λaB=>M (.Expr (.Call (.Attribute aB na r) es [] q) p)) h λg as ks p1 h=>bM (P:=λg=>M (.Expr (.Call (.Attribute (.Call g as ks p1) na r) es [] q) p)) h λn p0 h=>Zj (P:=λas ks=>M (.Expr (.Call (.Attribute (.Call (.Name n p0) as ks p1) na r) es [] q) p)) h λh=>iI (P:=λes=>M (.Expr (.Call (.Attribute (.Call (.Name n p0) [] [] p1) na r) es [] q) p)) h λe h=>
   de (P:=λn=>M (.Expr (.Call (.Attribute (.Call (.Name n p0) [] [] p1) na r) [e] [] q) p)) h λh=>de (P:=λna=>M (.Expr (.Call (.Attribute (.Call (.Name "super" p0) [] [] p1) na r) [e] [] q) p)) h λh=>an h λh h6=>an h λh3 h5=>.sup rfl rfl rfl rfl H h3 h4 h5 h6
noncomputable def arg0 (a:Arguments):Arg:=match a.args with
 |y::_=>y
 |[]=>⟨"",none,default⟩
noncomputable def fnG (K:Frag) (q:Nat×FI):Bool:=fnD K ((get q.1 qT).getD 0) λfd=>zA fd λb=>fnC K q.2 fd&&qU jY DD fd.scope.names fd.closure 20 20 false b q.2.body
noncomputable def BP (C:Cx) (q:Nat×FI):Prop:=∃name qual params body scope cl dV kV doc pm an cdv ct es,FnAt C q.1 q.2 name qual params body scope cl dV kV doc pm an cdv ct es/\qM C DD q.1 body q.2.body scope cl cdv
theorem Vt {w:World}{x:Ext}{q:Nat×FI}(h:fnG (H.KL w.params) q=true):BP (CC w x) q:=by
 refine Bb h λo fd ho hd h=>tZ h λb e h=>?_
 exact an h λh g=>Bc (x:=x) ho hd e h λes F=>⟨_,_,_,_,_,_,_,_,_,_,_,_,_,_,F,.plain g⟩
noncomputable def fnS (K:Frag) (f':Nat) (cda cc:Addr) (ie:IE) (ib:List IS) (q:Nat×FI):Bool:=fnD K ((get q.1 qT).getD 0) λfd=>zA fd λb=>fnC K q.2 fd&&decide (fd.code= .ref cda)&&decide (fd.closure=[(Str.ofString "__class__",cc)])&&Ye f' ie ib fd.scope.names [(Str.ofString "__class__",cc)] b
theorem JL {w:World}{x:Ext}{q:Nat×FI}{f':Nat}{cda cc:Addr}{ie:IE}{ib:List IS}(h:fnS (H.KL w.params) f' cda cc ie ib q=true)(hb:q.2.body= .uI f' ie::ib)(H:∀o fd,(H.KL w.params).lookup ((get q.1 qT).getD 0)=some o->o.data= .func fd->uw (CC w x) q.1 f' "__init__" fd.scope cda cc):BP (CC w x) q:=by
 refine Bb h λo fd ho hd h=>tZ h λb e h=>?_
 refine an h λh h4=>an h λh h3=>an h λh1 h2=>Bc (x:=x) ho hd e h1 λes F=>?_
 rw[of_decide_eq_true h2,of_decide_eq_true h3]at F
 exact⟨_,_,_,_,_,_,_,_,_,_,_,_,_,_,F,by rw[hb];exact qM.Ti h4 (H o fd ho hd)⟩
noncomputable def clG (K:Frag) (q:Nat×CI):Bool:=kY (findIn K (.ref ((get q.1 zq).getD 0)) "__init__") λo=>kY o λv=>Uu v λa=>kY (qT.find? λz=>Nat.beq z.2 a) λz=>fnD K ((get z.1 qT).getD 0) λfd=>zA fd λb=>fnC K ⟨q.2.ps,q.2.ds,[]⟩ fd&&fd.closure.isEmpty&&(makesIn K ((get q.1 zq).getD 0)&&(findIn K (.ref ((get q.1 zq).getD 0)) "__init__"==some (some (.ref ((get z.1 qT).getD 0))))&&(typeIn K (.ref ((get z.1 qT).getD 0))==some (.type "function"))&&
   yL K ((get q.1 zq).getD 0) fd.scope.names b q.2.fs&&decide (q.2.ps.head?=some 0)&&Nat.ble q.2.fs.length 100)
noncomputable def K9 (C:Cx) (q:Nat×CI):Prop:=∃f name qual params body scope cl dV kV doc pm an cdv ct es,Gk C q.1 q.2 f name qual params body scope cl dV kV doc pm an cdv ct es
theorem V9 {w:World}{x:Ext}{q:Nat×CI}(h:clG (H.KL w.params) q=true):K9 (CC w x) q:=
 fB h λo _ h=>fB h λv _ h=>CQ (P:=λ_=>K9 (CC w x) q) h λa h=>fB h λz _ h=>Bb h λo fd ho hd h=>tZ h λb e h=>an h λh h3=>an h λh1 h2=>Bc (x:=x) ho hd e h1 λes F=>by
  rw[List.isEmpty_iff.mp h2]at F
  exact⟨_,_,_,_,_,_,_,_,_,_,_,_,_,_,_,Gk.of F h3⟩
noncomputable def isS (f:Nat):Bool:=Nat.beq f 27||Nat.beq f 107
variable (w:World)
noncomputable def ZV (K:Frag) (q:Nat×FI):Bool:=isS q.1||fnG K q
theorem fa1:(Lg.take 20).all (ZV (H.KL w.params))=true:=by kernel_rfl
theorem fa2:((Lg.drop 20).take 20).all (ZV (H.KL w.params))=true:=by kernel_rfl
theorem fa3:(Lg.drop 40).all (ZV (H.KL w.params))=true:=by kernel_rfl
theorem cla:clL.all (clG (H.KL w.params))=true:=by kernel_rfl
end
section
variable (w:World)(x:Ext)
theorem qN:uw (CC w x) 27 1 "__init__" (pI (H.mS 49 0)) 782 771:=
 ⟨⟨.type "function",none,(H.fd (H.mS 49 0) "Scanner.__init__" 3 [("__class__",771)] (.none) (.none) (.none) (H.vs "yaml.scanner" 1285) (.ref 782) (.ref 776)),#[],arg0 (Ra (H.mS 49 0)),.type "code",none,⟨[H.vs "__init__" 1354,H.vs "Scanner.__init__" 1355,H.vs "/claim/cut.py" 1356,H.i0 306,H.i0 2,H.i0 0,H.i0 0,H.i0 3,.ref 777,.bool true,H.i0 181,.ref 778,.none,.ref 779,.ref 780,.ref 781,H.i0 1360,H.i0 306,H.vs "/claim/cut.py" 1361]⟩,#[],Str.ofString "/claim/cut.py",1356,.type "cell",none,1281,#[],(H.kd "Scanner" [.ref 730] [.ref 1281,.ref 730,.type "object"] 1280 "Scanner" [.ref 1521]),by kernel_rfl,by kernel_rfl,by kernel_rfl,by kernel_rfl,by kernel_rfl,by kernel_rfl,by kernel_rfl,by kernel_rfl,by kernel_rfl,by kernel_rfl,by kernel_rfl⟩,by kernel_rfl,by kernel_rfl,by kernel_rfl,by kernel_rfl,by kernel_rfl,by kernel_rfl,by kernel_rfl,by kernel_rfl⟩
noncomputable def qY:List IS:=[
  .bC 28 (.aA (.bool false)),
  .bC 29 (.aA (.int 0)),
  .jf 30 0,
  .exp (.aq 31 [] []),
  .bC 32 (.aA (.int 0)),
  .bC 33 (.neg (.aA (.int 1))),
  .jf 34 1,
  .bC 35 (.aA (.bool true)),
  .jZ 36 2]
theorem sO:uw (CC w x) 107 27 "__init__" (pI (H.mS 52 1)) 1311 1299:=
 ⟨⟨.type "function",none,(H.fd (H.mS 52 1) "Parser.__init__" 3 [("__class__",1299)] (.none) (.none) (.none) (H.vs "yaml.parser" 2098) (.ref 1311) (.ref 1305)),#[],arg0 (Ra (H.mS 52 1)),.type "code",none,⟨[H.vs "__init__" 2135,H.vs "Parser.__init__" 2136,H.vs "/claim/cut.py" 2137,H.i0 1151,H.i0 2,H.i0 0,H.i0 0,H.i0 3,.ref 1306,.bool true,H.i0 181,.ref 1307,.none,.ref 1308,.ref 1309,.ref 1310,H.i0 2141,H.i0 1151,H.vs "/claim/cut.py" 2142]⟩,#[],Str.ofString "/claim/cut.py",2137,.type "cell",none,1521,#[],(H.kd "Parser" [.ref 1281] [.ref 1521,.ref 1281,.ref 730,.type "object"] 1520 "Parser" []),by kernel_rfl,by kernel_rfl,by kernel_rfl,by kernel_rfl,by kernel_rfl,by kernel_rfl,by kernel_rfl,by kernel_rfl,by kernel_rfl,by kernel_rfl,by kernel_rfl⟩,by kernel_rfl,by kernel_rfl,by kernel_rfl,by kernel_rfl,by kernel_rfl,by kernel_rfl,by kernel_rfl,by kernel_rfl⟩
noncomputable def um:List IS:=[
  .bC 108 (.aA .none),
  .bC 109 (.aA .none),
  .jZ 110 4,
  .jf 111 5,
  .jf 112 6,
  .bC 113 (.smt 114)]
theorem Pn:Lg.all (ZV (H.KL w.params))=true:=by
 have e:Lg=Lg.take 20++((Lg.drop 20).take 20++Lg.drop 40):=rfl
 rw[e,List.all_append,List.all_append,fa1 w,fa2 w,fa3 w];rfl
noncomputable def scO (o:Option Obj):Scope:=match o with
 |some o=>dite (o.data.ctorIdx=7) (λh=>Data.func.elim (motive:=λ_=>Scope) o.data h (·.scope)) λ_=>default
 |none=>default
theorem sOf {f:Nat}{sc:Scope}{o:Obj}{fd:FuncData}(h:scO ((H.KL w.params).lookup ((get f qT).getD 0))=sc)(ho:(H.KL w.params).lookup ((get f qT).getD 0)=some o)(hd:o.data= .func fd):fd.scope=sc:=by
 rw[<-h,ho]
 show fd.scope=dite (o.data.ctorIdx=7) (λh=>Data.func.elim (motive:=λ_=>Scope) o.data h (·.scope)) λ_=>default
 rw[hd]
 rfl
theorem Jd:clL.all (λq=>keepIn (H.KL w.params) (.ref ((get q.1 zq).getD 0)))=true:=by kernel_rfl
theorem tabs_ok:TabsOk (CC w x) TT DD where
 at_:=λa h=>List.all_eq_true.mp (Wj w) a h
 ac:=λa h=>List.all_eq_true.mp (Wm w) a h
 mt:=λa h=>by have:=List.all_eq_true.mp (UW w) a h;rw[Bool.and_eq_true]at this;exact this
 gt:=λa h=>by have:=List.all_eq_true.mp (Vo w) a h;rw[Bool.and_eq_true,beq_iff_eq]at this;exact this
 ct:=λa h=>by have:=List.all_eq_true.mp (V5 w) a h;rw[Bool.and_eq_true,beq_iff_eq]at this;exact this
 st:=λa h=>List.all_eq_true.mp (Tn w) a h
 b1:=b_1 w
 b2:=b_2 w
 b3:=b_3 w
 b4:=b_4 w
 b5:=b_5 w
 b6:=b_6 w
 tb:=Yc w x
 ctk:=aak w x
 cls:=λc i h=>⟨List.all_eq_true.mp (Jd w) _ (get_mem h),V9 (List.all_eq_true.mp (cla w) _ (get_mem h))⟩
 ev:=VJ w x
 kf:=λf i h=>List.all_eq_true.mp (Vb w) _ (get_mem h)
theorem Vs:SJ (CC w x) TT DD:=λf i h=>by
 show BP (CC w x) (f,i)
 have hm:=get_mem h
 have:=List.all_eq_true.mp (Pn w) _ hm
 cases e:isS f with
 |false=>
  unfold ZV at this
  dsimp only at this
  rw[e]at this
  exact Vt this
 |true=>
  unfold isS at e
  rcases Bool.or_eq_true_iff.mp e with e|e
  ·have:=Nat.eq_of_beq_eq_true e
   subst this
   cases(show some _=_ from h)
   exact JL (f':=1) (cda:=782) (cc:=771) (ie:=.ak 3) (ib:=qY) (by kernel_rfl) rfl λo fd ho hd=>sOf w (f:=27) (sc:=pI (H.mS 49 0)) (by kernel_rfl) ho hd▸qN w x
  ·have:=Nat.eq_of_beq_eq_true e
   subst this
   cases(show some _=_ from h)
   exact JL (f':=27) (cda:=1311) (cc:=1299) (ie:=.ak 3) (ib:=um) (by kernel_rfl) rfl λo fd ho hd=>sOf w (f:=107) (sc:=pI (H.mS 52 1)) (by kernel_rfl) ho hd▸sO w x
end
theorem RQ:∃CF:Nat->fP,CF=Ef TT:=⟨_,rfl⟩
@[irreducible] noncomputable def CO:Nat->fP:=Classical.choose RQ
theorem zO:CO=Ef TT:=by
 unfold CO
 exact Classical.choose_spec RQ
theorem aH {n f:Nat}{i:FI}(hi:TT.FT f=some i){vs:List AV}{p:Option cF}{Q:AV->Option cF->Prop}(h:zB TT (CO n) i vs p Q):CO (n+1) f vs p Q:=by
 rw[zO]at h⊢
 unfold Ef
 rw[hi]
 exact h
structure PZ where
 buf:List Nat
 ptr:Nat
 line:Int
 col:Int
 done:Bool
 fl:Int
 ao:List AV
 aY:Int
 aJ:Int
 aN:List AV
 aC:Bool
 cg:List (Int×AV)
 aW:List AV
 bD:List AV
 state:AV
 tg:AV
noncomputable abbrev Xk:AV:=.str [60,117,110,105,99,111,100,101,32,115,116,114,105,110,103,62]
noncomputable def PZ.au (S:PZ) (ev:AV):cF:=⟨[(2,Xk),(3,.none),(4,.int 0),(5,.bool true),(6,.str S.buf),(7,.int (S.ptr:Nat)),(8,.none),(9,.none),(10,.none),(11,.int (S.ptr:Nat)),(12,.int S.line),(13,.int S.col),
  (28,.bool S.done),(29,.int S.fl),(30,.bN 0),(32,.int S.aY),(33,.int S.aJ),(34,.bN 1),(35,.bool S.aC),(36,.bN 2),(108,ev),(109,.none),(110,S.tg),(111,.bN 5),(112,.bN 6),(113,S.state)],
 [(6,.l S.bD),(5,.l S.aW),(4,.d []),(2,.d S.cg),(1,.l S.aN),(0,.l S.ao)]⟩
noncomputable abbrev PZ.par (S:PZ):cF:=S.au .none
noncomputable def PZ.bT (S:PZ):AV:=.inst 22 [(2,Xk),(11,.int (S.ptr:Nat)),(12,.int S.line),(13,.int S.col),(6,.str S.buf),(7,.int (S.ptr:Nat))]
theorem Vr (n:Nat)(S:PZ)(ev:AV)(Q:AV->Option cF->Prop):Ef TT (n+1) 21 [.self] (some (S.au ev)) Q=Q S.bT (some (S.au ev)):=by kernel_rfl
theorem JG (n:Nat)(S:PZ)(ev:AV)(k:AV)(Q:AV->Option cF->Prop):Ef TT (n+1) 18 [.self,k] (some (S.au ev)) Q=Q .none (some (S.au ev)):=by kernel_rfl
theorem Vq (n:Nat)(S:PZ)(ev:AV)(k:Nat)(Q:AV->Option cF->Prop):Ef TT (n+1) 15 [.self,.int k] (some (S.au ev)) Q=
  pick (idxV TT ⟨some (S.au ev),[(0,.self),(11,.int k)],[]⟩ (.str S.buf) (.int ((S.ptr:Nat)+(k:Int)))) λv=>pick (uJ ⟨some (S.au ev),[(0,.self),(11,.int k)],[]⟩ v) λv=>Q v (some (S.au ev)):=by kernel_rfl
noncomputable def PZ.r (S:PZ):List Nat:=S.buf.drop S.ptr
theorem TP {i n:Nat}{j:Int}(e:j=(i:Nat))(h:i<n):eN j n=some i:=by
 subst e
 unfold eN
 rw[decide_eq_true (Int.natCast_nonneg i),decide_eq_true (Int.ofNat_lt.mpr h)]
 rfl
theorem Jk {st:AS}{buf:List Nat}{i c:Nat}{j:Int}(e:j=(i:Nat))(hc:buf[i]? =some c):idxV TT st (.str buf) (.int j)=some (.str [c]):=by
 show pJ (pJ ((eN j buf.length).bind λk=>(nth k buf).bind λc=>some (AV.str [c])) _) _=_
 rw[TP e (List.getElem?_eq_some_iff.mp hc).1,Option.bind_some,pL,hc]
 rfl
theorem PZ.abh {S:PZ}{k:Nat}{c:Nat}(h:S.r[k]? =some c):S.buf[S.ptr+k]? =some c:=List.getElem?_drop.symm.trans h
theorem dD {n:Nat}{S:PZ}{ev:AV}{k c:Nat}{Q:AV->Option cF->Prop}(h:S.r[k]? =some c)(hQ:Q (.str [c]) (some (S.au ev))):CO (n+1) 15 [.self,.int k] (some (S.au ev)) Q:=by
 rw[zO,Vq]
 exact aO (Jk rfl (PZ.abh h)) hQ
theorem dR {n:Nat}{S:PZ}{ev:AV}{Q:AV->Option cF->Prop}(hQ:Q S.bT (some (S.au ev))):CO (n+1) 21 [.self] (some (S.au ev)) Q:=by
 rw[zO,Vr];exact hQ
theorem zM {n:Nat}{S:PZ}{ev k:AV}{Q:AV->Option cF->Prop}(hQ:Q .none (some (S.au ev))):CO (n+1) 18 [.self,k] (some (S.au ev)) Q:=by
 rw[zO,JG];exact hQ
theorem Bo {p:Prop}[Decidable p](h:p):decide p=true:=decide_eq_true h
theorem df_ {p:Prop}[Decidable p](h:¬p):decide p=false:=decide_eq_false h
theorem M7 (S:PZ)(k:Nat)(h:S.ptr<=S.buf.length):Tt (.str S.buf) (S.ptr:Nat) ((S.ptr:Nat)+(k:Int))=some (.str (S.r.take k)):=by
 show qz (decide (0<=((S.ptr:Nat):Int))&&(decide (((S.ptr:Nat):Int)<=(S.ptr:Nat)+(k:Int))&&decide (((S.ptr:Nat):Int)<=((S.buf.length:Nat):Int)))) (AV.str ((S.buf.take ((S.ptr+k:Nat):Int).toNat).drop ((S.ptr:Nat):Int).toNat))=_
 rw[Bo (Int.natCast_nonneg _),Bo (Int.le_add_of_nonneg_right (Int.natCast_nonneg k)),Bo (Int.ofNat_le.mpr h),Int.toNat_natCast,Int.toNat_natCast,List.drop_take,Nat.add_sub_cancel_left]
 rfl
theorem eZ {n:Nat}{S:PZ}{ev:AV}{k:Nat}{Q:AV->Option cF->Prop}(hp:S.ptr<=S.buf.length)(hQ:Q (.str (S.r.take k)) (some (S.au ev))):CO (n+2) 16 [.self,.int k] (some (S.au ev)) Q:=by
 have key:wpS TT (CO (n+1)) [IS.ret ((IE.bB 6).slc (IE.bB 7) (IE.bin Eh.add (IE.bB 7) (IE.ak 17)))] {par:=some (S.au ev),ak:=[(0,AV.self),(17,AV.int ↑k)],own:=[]} (λo st=>pick (outV st o) λv=>Q v st.par):=
  aO (p:=Tt (.str S.buf) (S.ptr:Nat) ((S.ptr:Nat)+(k:Int))) (Q:=λv=>pick (outV {par:=some (S.au ev),ak:=[(0,AV.self),(17,AV.int ↑k)],own:=[]} (.ret v)) λv=>Q v (some (S.au ev))) (M7 _ _ hp) hQ
 refine aH rfl ?_
 conv=>whnf
 split
 ·exact zM key
 ·exact key
noncomputable def brk (c:Nat) (nx:Option Nat):Bool:=[10,133,8232,8233].any (Nat.beq c ·)||(Nat.beq c 13&& !(nx==some 10))
noncomputable def xH (c:Nat) (nx:Option Nat) (l:Int×Int):Int×Int:=match brk c nx with
 |true=>(l.1+1,0)
 |false=>(match Nat.beq c 65279 with
  |true=>l
  |false=>(l.1,l.2+1))
noncomputable def PZ.kE (S:PZ) (c:Nat) (nx:Option Nat):PZ:={S with ptr:=S.ptr+1,line:=(xH c nx (S.line,S.col)).1,col:=(xH c nx (S.line,S.col)).2}
noncomputable def PZ.aG:Nat->PZ->PZ
 |0,S=>S
 |k+1,S=>match S.r with
  |[]=>S
  |c::r=>PZ.aG k (S.kE c r.head?)
theorem pH {st:AS}{a:Nat}{p:cF}{v:AV}(h0:get 0 st.ak=some .self)(hp:st.par=some p)(h:get a p.at_=some v):Ey st a=some v:=by
 unfold Ey HN nP
 rw[h0]
 show st.par.bind _=_
 rw[hp]
 exact h
section
variable {CF:fP}{st:AS}{Q:PS}{R:PE}{F:Bool->AS->Prop}{t e i a b:IE}{A B:List IS}
theorem qe (h:zT TT CF t st λc st=>match c with|true=>wpS TT CF A st Q|false=>wpS TT CF B st Q):wp1 TT CF (.ite t A B) st Q:=h
theorem La (h:bf TT CF t st λv st=>pick (truth st v) λb=>F b st):zT TT CF t st F:=h
theorem S6 {x:Nat}(h:bf TT CF e st λv st=>kI v.noOwn (pick (setAt st x v) (Q .next))):wp1 TT CF (.bC x e) st Q:=h
theorem XM (h:bf TT CF e st λv st=>Q (.ret v) st):wp1 TT CF (.ret e) st Q:=h
theorem uY (h:bf TT CF t st λd st=>kI (yI st d) (bf TT CF e st λv st=>pick (qO st d) λxs=>kI v.clo (pick ((z9 (xs++[v])).bind λl=>setSlot st (.l l) d) (Q .next)))):wp1 TT CF (.app t e) st Q:=h
theorem BX (h:bf TT CF t st λd st=>kI (yI st d) (bf TT CF i st λi st=>bf TT CF e st λv st=>pick (qO st d) λxs=>pick i.gK λi=>kI v.clo (pick (eN i (xs.length+1)) λk=>pick ((z9 (xs.take k++v::xs.drop k)).bind λl=>setSlot st (.l l) d) (Q .next)))):wp1 TT CF (.ins t i e) st Q:=h
theorem Gx {o:Ec}(h:bf TT CF a st λv st=>bf TT CF b st λu st=>pick (mL TT st o v u) λr=>R (.bool r) st):bf TT CF (.cmp o a b) st R:=h
theorem XQ (h:bf TT CF e st λv st=>pick (truth st v) λb=>R (.bool (!b)) st):bf TT CF (.not_ e) st R:=h
theorem aL {s:IS}{r:List IS}(h:wp1 TT CF s st (λo st=>match o with| .next=>wpS TT CF r st Q|o=>Q o st)):wpS TT CF (s::r) st Q:=h
theorem bV (h:Q .next st):wpS TT CF [] st Q:=h
end
theorem Sh {CF:fP}{st:AS}{x:Nat}{e:IE}{r:List IS}{Q:PS}(h:bf TT CF e st λv st=>wpS TT CF r (aK st x v) Q):wpS TT CF (.asg x e::r) st Q:=h
theorem K7 {CF:fP}{st:AS}{Q:PE}{p:cF}{buf:List Nat}{i c:Nat}(h0:get 0 st.ak=some .self)(hp:st.par=some p)(h6:get 6 p.at_=some (.str buf))(h7:get 7 p.at_=some (.int (i:Nat)))(hc:buf[i]? =some c)(hQ:Q (.str [c]) st):
  bf TT CF (.idx (.bB 6) (.bB 7)) st Q:=aO (pH h0 hp h6) (aO (pH h0 hp h7) (aO (Jk rfl hc) hQ))
theorem Xf {CF:fP}{st:AS}{Q:PE}{p:cF}{buf:List Nat}{i c:Nat}{o:Ec}{v:AV}(h0:get 0 st.ak=some .self)(hp:st.par=some p)(h6:get 6 p.at_=some (.str buf))(h7:get 7 p.at_=some (.int (i:Nat)))(hc:buf[i]? =some c)
  (hQ:pick (mL TT st o (.str [c]) v) λr=>Q (.bool r) st):
  bf TT CF (.cmp o (.idx (.bB 6) (.bB 7)) (.aA v)) st Q:=K7 h0 hp h6 h7 hc hQ
theorem KY {CF:fP}{st:AS}{x k:Nat}{F:Bool->AS->Prop}(h:get x st.ak=some (.int ((k+1:Nat):Int)))(hF:F true st):zT TT CF (.ak x) st F:=
 aO h (aO (show some (!decide (((k+1:Nat):Int)=0))=some true by rw[df_ (by omega)];rfl) hF)
theorem Wo {CF:fP}{st:AS}{x:Nat}{F:Bool->AS->Prop}(h:get x st.ak=some (.int ((0:Nat):Int)))(hF:F false st):zT TT CF (.ak x) st F:=
 aO h hF
theorem JK {n:Nat}{S:PZ}{ev:AV}{k c d:Nat}{lo:List (Nat×AV)}(hlo:lo=[]∨∃v,lo=[(20,v)])(h0:S.buf[S.ptr]? =some c)(h1:S.buf[S.ptr+1]? =some d){P:AS->Prop}{Q:PS}
  (hP:P ⟨some ((S.kE c (some d)).au ev),[(0,.self),(17,.int k),(20,.str [c])],[]⟩):
  zT TT (CO n) (.ak 17) ⟨some (S.au ev),(0,.self)::(17,.int ((k+1:Nat):Int))::lo,[]⟩ (λb st=>match b with
   |true=>wpS TT (CO n) [.asg 20 (.idx (.bB 6) (.bB 7)),
   .gG 7 .add (.aA (.int 1)),
   .gG 11 .add (.aA (.int 1)),
   .ite (.or_ [(.cmp .fJ (.ak 20) (.aA (.str [10,133,8232,8233]))),(.and_ [(.cmp .eq (.ak 20) (.aA (.str [13]))),(.cmp .ne (.idx (.bB 6) (.bB 7)) (.aA (.str [10])))])]) [
    .gG 12 .add (.aA (.int 1)),
    .bC 13 (.aA (.int 0))] [
    .ite (.cmp .ne (.ak 20) (.aA (.str [65279]))) [
     .gG 13 .add (.aA (.int 1))] []],
   .aug 17 .sub (.aA (.int 1))] st λo st=>(match o with
    | .next=>P st
    | .brk=>Q .next st
    | .ret v=>Q (.ret v) st)
   |false=>Q .next st):=by
 have fin:∀(l' k':Int) (lo':List (Nat×AV)),lo'=[(0,.self),(17,.int ((k+1:Nat):Int)),(20,.str [c])]->(xH c (some d) (S.line,S.col))=(l',k')->
   P ⟨some ({S with ptr:=S.ptr+1,line:=l',col:=k'}.au ev),put 17 (.int (((k+1:Nat):Int) - 1)) lo',[]⟩:=by
  intro l' k' lo' h1 h2
  subst h1
  unfold PZ.kE at hP
  rw[h2]at hP
  have:(((k+1:Nat):Int) - 1)=(k:Int):=by omega
  rw[this]
  exact hP
 have body:∀lo',lo'=[(0,.self),(17,.int ((k+1:Nat):Int)),(20,.str [c])]->wpS TT (CO n) [
   .gG 7 .add (.aA (.int 1)),
   .gG 11 .add (.aA (.int 1)),
   .ite (.or_ [(.cmp .fJ (.ak 20) (.aA (.str [10,133,8232,8233]))),(.and_ [(.cmp .eq (.ak 20) (.aA (.str [13]))),(.cmp .ne (.idx (.bB 6) (.bB 7)) (.aA (.str [10])))])]) [
    .gG 12 .add (.aA (.int 1)),
    .bC 13 (.aA (.int 0))] [
    .ite (.cmp .ne (.ak 20) (.aA (.str [65279]))) [
     .gG 13 .add (.aA (.int 1))] []],
   .aug 17 .sub (.aA (.int 1))] ⟨some (S.au ev),lo',[]⟩ (λo st=>(match o with
    | .next=>P st
    | .brk=>Q .next st
    | .ret v=>Q (.ret v) st)):=by
  rintro lo' rfl
  conv=>whnf
  cases hb:[10,133,8232,8233].any (λx=>c.beq x)
  ·conv=>whnf
   cases h13:decide ([c]=[13])
   ·conv=>whnf
    have n13:Nat.beq c 13=false:=by
     have:=of_decide_eq_false h13
     rw[Bool.eq_false_iff];intro k;exact this (by rw[Nat.eq_of_beq_eq_true k])
    cases h65:decide ([c]=[65279])
    ·have n65:Nat.beq c 65279=false:=by
      have:=of_decide_eq_false h65
      rw[Bool.eq_false_iff];intro k;exact this (by rw[Nat.eq_of_beq_eq_true k])
     exact fin S.line (S.col+1) _ rfl (by unfold xH brk;rw[hb,n13,n65];rfl)
    ·have n65:c=65279:=by have:=of_decide_eq_true h65;injection this
     exact fin S.line S.col _ rfl (by unfold xH brk;rw[hb,n13,n65];rfl)
   ·have n13:c=13:=by have:=of_decide_eq_true h13;injection this
    subst n13
    refine Xf rfl rfl rfl rfl h1 ?_
    conv=>whnf
    cases h10:decide ([d]=[10])
    ·exact fin (S.line+1) 0 _ rfl (by
      have:=of_decide_eq_false h10
      unfold xH brk
      rw[hb]
      have e:(some d==some 10)=false:=by
       rw[Bool.eq_false_iff];intro k
       have:=beq_iff_eq.mp k
       cases this
       exact ‹¬_› rfl
      rw[e];rfl)
    ·exact fin S.line (S.col+1) _ rfl (by
      have e:d=10:=by have:=of_decide_eq_true h10;injection this
      unfold xH brk
      rw[hb,e];rfl)
  ·exact fin (S.line+1) 0 _ rfl (by unfold xH brk;rw[hb];rfl)
 rcases hlo with rfl|⟨v,rfl⟩
 ·refine KY rfl ?_
  exact Sh (K7 rfl rfl rfl rfl h0 (body _ rfl))
 ·refine KY rfl ?_
  exact Sh (K7 rfl rfl rfl rfl h0 (body _ rfl))
theorem PZ.HX (S:PZ){c:Nat}{r:List Nat}{nx:Option Nat}(h:S.r=c::r):(S.kE c nx).r=r:=by
 show S.buf.drop (S.ptr+1)=r
 unfold PZ.r at h
 rw[<-List.drop_drop,h];rfl
theorem PZ.at0 {S:PZ}{c:Nat}{r:List Nat}(h:S.r=c::r):S.buf[S.ptr]? =some c:=by
 unfold PZ.r at h
 have:=List.getElem?_drop (xs:=S.buf) (i:=S.ptr) (j:=0)
 rw[h]at this
 simpa using this.symm
theorem PZ.at1 {S:PZ}{c d:Nat}{r:List Nat}(h:S.r=c::d::r):S.buf[S.ptr+1]? =some d:=by
 unfold PZ.r at h
 have:=List.getElem?_drop (xs:=S.buf) (i:=S.ptr) (j:=1)
 rw[h]at this
 simpa using this.symm
theorem bH {n k:Nat}{S:PZ}{ev:AV}{Q:AV->Option cF->Prop}(hk:k<S.r.length)(hQ:Q .none (some ((S.aG k).au ev))):CO (n+2) 19 [.self,.int k] (some (S.au ev)) Q:=by
 refine aH rfl ?_
 have main:∀(P:AS->Prop),(∀st,zT TT (CO (n+1)) (.ak 17) st (λb st=>match b with
   |true=>wpS TT (CO (n+1)) [.asg 20 (.idx (.bB 6) (.bB 7)),
   .gG 7 .add (.aA (.int 1)),
   .gG 11 .add (.aA (.int 1)),
   .ite (.or_ [(.cmp .fJ (.ak 20) (.aA (.str [10,133,8232,8233]))),(.and_ [(.cmp .eq (.ak 20) (.aA (.str [13]))),(.cmp .ne (.idx (.bB 6) (.bB 7)) (.aA (.str [10])))])]) [
    .gG 12 .add (.aA (.int 1)),
    .bC 13 (.aA (.int 0))] [
    .ite (.cmp .ne (.ak 20) (.aA (.str [65279]))) [
     .gG 13 .add (.aA (.int 1))] []],
   .aug 17 .sub (.aA (.int 1))] st λo st=>(match o with
    | .next=>P st
    | .brk=>Q .none st.par
    | .ret v=>pick (uJ st v) λv=>Q v st.par)
   |false=>Q .none st.par)->P st)->
   ∀(k:Nat) (S:PZ) (lo:List (Nat×AV)),(lo=[]∨∃v,lo=[(20,v)])->k<S.r.length->Q .none (some ((S.aG k).au ev))->P ⟨some (S.au ev),(0,.self)::(17,.int (k:Nat))::lo,[]⟩:=by
  intro P hP k
  induction k with
  |zero=>
   intro S lo _ _ hQ
   exact hP _ (Wo rfl hQ)
  |succ k ih=>
   intro S lo hlo hk hQ
   cases hr:S.r with
   |nil=>rw[hr]at hk;cases hk
   |cons c r=>
    cases r with
    |nil=>rw[hr]at hk;simp at hk
    |cons d r=>
     refine hP _ ?_
     have:=JK (n:=n+1) (S:=S) (ev:=ev) (k:=k) (P:=P) (Q:=λo st=>pick (outV st o) λv=>Q v st.par) hlo (PZ.at0 hr) (PZ.at1 hr) (ih _ _ (.inr ⟨_,rfl⟩) (by rw[PZ.HX S hr];rw[hr]at hk;simpa using hk) (by
      have e:S.aG (k+1)=(S.kE c (some d)).aG k:=by
       conv=>lhs;unfold PZ.aG
       rw[hr];rfl
      rw[<-e];exact hQ))
     exact this
 conv=>whnf
 split
 ·refine zM ?_
  exact λP hP=>main P hP k S [] (.inl rfl) hk hQ
 ·exact λP hP=>main P hP k S [] (.inl rfl) hk hQ
section
variable {n:Nat}{S:PZ}{ev:AV}{Q:AV->Option cF->Prop}{c d:Nat}{r:List Nat}
theorem PZ.rk {k:Nat}(h:S.r=c::r):S.r[0]? =some c:=by rw[h];rfl
theorem dw {n:Nat}{S:PZ}{ev:AV}{c:Nat}{r:List Nat}{Q:AV->Option cF->Prop}(h:S.r=c::r)(hQ:Q (.str [c]) (some (S.au ev))):CO (n+1) 15 [.self,.int (0:Nat)] (some (S.au ev)) Q:=dD (k:=0) (PZ.rk (k:=0) h) hQ
theorem PZ.le (h:S.r=c::r):S.ptr<=S.buf.length:=by
 unfold PZ.r at h
 by_cases q:S.ptr<=S.buf.length
 ·exact q
 ·rw[List.drop_of_length_le (by omega)]at h;cases h
theorem aaG (h:S.r=c::r)(h1:[13,10,133].any (Nat.beq c ·)=false)(h2:[8232,8233].any (Nat.beq c ·)=false)(hQ:Q (.str []) (some (S.au ev))):CO (n+2) 92 [.self] (some (S.au ev)) Q:=by
 refine aH rfl ?_
 refine dw h ?_
 conv=>whnf
 rw[h1]
 conv=>whnf
 rw[h2]
 exact hQ
theorem aaF (h:S.r=c::d::r)(h1:[13,10,133].any (Nat.beq c ·)=true)(h2:¬(c=13/\d=10))(hQ:Q (.str [10]) (some ((S.aG 1).au ev))):CO (n+3) 92 [.self] (some (S.au ev)) Q:=by
 refine aH rfl ?_
 refine dw h ?_
 conv=>whnf
 rw[h1]
 refine eZ (k:=2) (PZ.le h) ?_
 rw[h]
 conv=>whnf
 have e:decide (List.take 2 (c::d::r)=[13,10])=false:=decide_eq_false λe=>h2 (by replace e:[c,d]=[13,10]:=e;injection e with e1 e2;injection e2 with e2;exact⟨e1,e2⟩)
 rw[e]
 refine bH (k:=1) (by rw[h];simp) ?_
 exact hQ
theorem aaE (h:S.r=13::10::d::r)(hQ:Q (.str [10]) (some ((S.aG 2).au ev))):CO (n+3) 92 [.self] (some (S.au ev)) Q:=by
 refine aH rfl ?_
 refine dw h ?_
 refine eZ (k:=2) (PZ.le h) ?_
 rw[h]
 refine bH (k:=2) (by rw[h];simp) ?_
 exact hQ
theorem aaD (h:S.r=c::d::r)(h1:[13,10,133].any (Nat.beq c ·)=false)(h2:[8232,8233].any (Nat.beq c ·)=true)(hQ:Q (.str [c]) (some ((S.aG 1).au ev))):CO (n+3) 92 [.self] (some (S.au ev)) Q:=by
 refine aH rfl ?_
 refine dw h ?_
 conv=>whnf
 rw[h1]
 conv=>whnf
 rw[h2]
 refine bH (k:=1) (by rw[h];simp) ?_
 exact hQ
end
section
variable {n:Nat}{S:PZ}{ev:AV}{c d:Nat}{r:List Nat}
theorem PZ.dB {k:Nat}(h:S.r=c::r):S.aG (k+1)=(S.kE c r.head?).aG k:=by
 conv=>lhs;unfold PZ.aG
 rw[h]
theorem PZ.bZ:∀{k:Nat} {S:PZ},(S.aG k).r=S.r.drop k
 |0,S=>rfl
 |k+1,S=>by
  cases h:S.r with
  |nil=>
   have:S.aG (k+1)=S:=by
    conv=>lhs;unfold PZ.aG
    rw[h]
   rw[this,h];rfl
  |cons c r=>rw[PZ.dB h,PZ.bZ,PZ.HX S h];rfl
theorem PZ.cL (h:S.r=c::r):S.aG 1=S.kE c r.head?:=PZ.dB h
theorem Cg {lo:List (Nat×AV)}{Q:PS}{k:Nat}(hc:c≠32):∀{S:PZ},S.r=List.replicate k 32++c::r->Q .next ⟨some ((S.aG k).au ev),(0,.self)::lo,[]⟩->
  wp1 TT (CO (n+2)) (.whl (.cmp .eq (.aq 15 [] []) (.aA (.str [32]))) [.exp (.aq 19 [] [])]) ⟨some (S.au ev),(0,.self)::lo,[]⟩ Q:=by
 intro S h hQ
 intro P hP
 have main:∀(k:Nat) (S:PZ),S.r=List.replicate k 32++c::r->Q .next ⟨some ((S.aG k).au ev),(0,.self)::lo,[]⟩->P ⟨some (S.au ev),(0,.self)::lo,[]⟩:=by
  intro k
  induction k with
  |zero=>
   intro S h hQ
   refine hP _ ?_
   refine dw h ?_
   conv=>whnf
   have e:decide ([c]=[32])=false:=decide_eq_false λe=>hc (by injection e)
   rw[e]
   exact hQ
  |succ k ih=>
   intro S h hQ
   refine hP _ ?_
   refine dw h ?_
   have hl:S.r.length=k+1+(r.length+1):=by rw[h];simp
   refine bH (k:=1) (by rw[hl];omega) ?_
   refine ih (S.aG 1) (by rw[PZ.bZ,h];rfl) ?_
   rw[List.replicate_succ,List.cons_append]at h
   rw[PZ.cL h,<-PZ.dB h]
   exact hQ
 exact main k S h hQ
noncomputable def yJ (c:Nat):Bool:=[0,13,10,133,8232,8233].any (Nat.beq c ·)
theorem Qm {lo:List (Nat×AV)}{Q:PS}(hc:yJ c=true):∀(com:List Nat),com.all (λx=> !yJ x)=true->∀{S:PZ},S.r=com++c::r->Q .next ⟨some ((S.aG com.length).au ev),(0,.self)::lo,[]⟩->
  wp1 TT (CO (n+2)) (.whl (.cmp .nin (.aq 15 [] []) (.aA (.str [0,13,10,133,8232,8233]))) [.exp (.aq 19 [] [])]) ⟨some (S.au ev),(0,.self)::lo,[]⟩ Q:=by
 intro com Jy S h hQ
 intro P hP
 have main:∀(com:List Nat),com.all (λx=> !yJ x)=true->∀(S:PZ),S.r=com++c::r->Q .next ⟨some ((S.aG com.length).au ev),(0,.self)::lo,[]⟩->P ⟨some (S.au ev),(0,.self)::lo,[]⟩:=by
  intro com
  induction com with
  |nil=>
   intro _ S h hQ
   refine hP _ ?_
   refine dw h ?_
   conv=>whnf
   unfold yJ at hc
   rw[hc]
   exact hQ
  |cons x com ih=>
   intro Jy S h hQ
   rw[List.all_cons,Bool.and_eq_true,Bool.not_eq_true']at Jy
   refine hP _ ?_
   refine dw h ?_
   conv=>whnf
   have e:=Jy.1
   unfold yJ at e
   rw[e]
   have hl:S.r.length=com.length+1+(r.length+1):=by rw[h];first|(simp only[List.length_append,List.length_cons];done) |(simp only[List.length_append,List.length_cons];omega)
   refine bH (k:=1) (by rw[hl];omega) ?_
   refine ih Jy.2 (S.aG 1) (by rw[PZ.bZ,h];rfl) ?_
   rw[List.cons_append]at h
   rw[PZ.cL h,<-PZ.dB h]
   exact hQ
 exact main com Jy S h hQ
inductive Lb:PZ->List Nat->PZ->Prop
 |one {S:PZ} {c d:Nat} {r:List Nat}:S.r=c::d::r->[13,10,133].any (Nat.beq c ·)=true->¬(c=13/\d=10)->Lb S [10] (S.aG 1)
 |two {S:PZ} {d:Nat} {r:List Nat}:S.r=13::10::d::r->Lb S [10] (S.aG 2)
 |sep {S:PZ} {c d:Nat} {r:List Nat}:S.r=c::d::r->[13,10,133].any (Nat.beq c ·)=false->[8232,8233].any (Nat.beq c ·)=true->Lb S [c] (S.aG 1)
theorem Gi {n:Nat}{S S':PZ}{ev:AV}{v:List Nat}{Q:AV->Option cF->Prop}(h:Lb S v S')(hQ:Q (.str v) (some (S'.au ev))):CO (n+3) 92 [.self] (some (S.au ev)) Q:=by
 cases h with
 |one h1 h2 h3=>exact aaF h1 h2 h3 hQ
 |two h1=>exact aaE h1 hQ
 |sep h1 h2 h3=>exact aaD h1 h2 h3 hQ
theorem Lb.ne {S S':PZ}{v:List Nat}(h:Lb S v S'):∃x,v=[x]:=by cases h<;>exact⟨_,rfl⟩
inductive Bl:PZ->PZ->Prop
 |sp {S:PZ} {k c:Nat} {r:List Nat}:S.r=List.replicate k 32++c::r->c≠32->c≠35->Bl S (S.aG k)
 |co {S:PZ} {k c:Nat} {com r:List Nat}:S.r=List.replicate k 32++com++c::r->com.head?=some 35->com.all (λx=> !yJ x)=true->yJ c=true->Bl S ((S.aG k).aG com.length)
inductive Xv:PZ->PZ->Prop
 |stop {S S':PZ} {c:Nat} {r:List Nat}:Bl S S'->S'.r=c::r->[13,10,133].any (Nat.beq c ·)=false->[8232,8233].any (Nat.beq c ·)=false->Xv S S'
 |line {S S₁ S₂ S':PZ} {v:List Nat}:Bl S S₁->Lb S₁ v S₂->Xv (match decide (S₂.fl=0)with|true=>{S₂ with aC:=true} |false=>S₂) S'->Xv S S'
end
theorem gY {T:Tb}{CF:fP}:∀(a b:List IS) (st:AS) (Q:PS),wpS T CF (a++b) st Q=wpS T CF a st (λo st=>match o with| .next=>wpS T CF b st Q|o=>Q o st)
 |[],_,_,_=>rfl
 |s::a,b,st,Q=>congrArg (wp1 T CF s st) (funext λo=>funext λst=>match o with
  | .next=>gY a b st Q
  | .brk=>rfl
  | .ret _=>rfl)
theorem aau {CF:fP}{st:AS}{x:Nat}{b:Bool}{F:Bool->AS->Prop}(h:get x st.ak=some (.bool b))(hF:F (!b) st):zT TT CF (.not_ (.ak x)) st F:=aO h (aO (a:=b) rfl (aO (a:= !b) rfl hF))
section
variable {n:Nat}{S:PZ}{ev:AV}{c d:Nat}{r:List Nat}
noncomputable abbrev Yg:List IS:=[
   .whl (.cmp .eq (.aq 15 [] []) (.aA (.str [32]))) [
    .exp (.aq 19 [] [])],
   .ite (.cmp .eq (.aq 15 [] []) (.aA (.str [35]))) [
    .whl (.cmp .nin (.aq 15 [] []) (.aA (.str [0,13,10,133,8232,8233]))) [
     .exp (.aq 19 [] [])]] []]
theorem Kq {S S':PZ}{lo:List (Nat×AV)}{Q:PS}(h:Bl S S')(hQ:Q .next ⟨some (S'.au ev),(0,.self)::lo,[]⟩):wpS TT (CO (n+2)) Yg ⟨some (S.au ev),(0,.self)::lo,[]⟩ Q:=by
 cases h with
 | @sp k c r h1 h2 h3=>
  refine Cg h2 h1 ?_
  have hr:(S.aG k).r=c::r:=by rw[PZ.bZ,h1,List.drop_append_of_le_length (by simp),List.drop_of_length_le (by simp)];rfl
  refine dw hr ?_
  conv=>whnf
  have e:decide ([c]=[35])=false:=decide_eq_false λe=>h3 (by injection e)
  rw[e]
  exact hQ
 | @co k c com r h1 h2 h3 h4=>
  cases com with
  |nil=>cases h2
  |cons x com=>
   obtain rfl:x=35:=by simpa using h2
   refine Cg (k:=k) (c:=35) (r:=com++c::r) (by decide) (by rw[h1];simp) ?_
   dsimp only
   have hr:(S.aG k).r=(35::com)++c::r:=by rw[PZ.bZ,h1,List.append_assoc,List.drop_append_of_le_length (by simp),List.drop_of_length_le (by simp)];rfl
   refine dw hr ?_
   have:=Qm (n:=n) (ev:=ev) (lo:=lo) (Q:=λo st=>match o with| .next=>Q .next st| .brk=>Q .brk st| .ret v=>Q (.ret v) st) h4 _ h3 hr hQ
   exact this
theorem G6 {Q:PS}:∀{S S':PZ},Xv S S'->Q .next ⟨some (S'.au ev),[(0,.self),(91,.bool true)],[]⟩->
  wp1 TT (CO (n+3)) (.whl (.not_ (.ak 91)) (Yg++[.ite (.aq 92 [] []) [
    .ite (.not_ (.bB 29)) [
     .bC 35 (.aA (.bool true))] []] [
    .asg 91 (.aA (.bool true))]])) ⟨some (S.au ev),[(0,.self),(91,.bool false)],[]⟩ Q:=by
 intro S S' h hQ
 intro P hP
 induction h with
 | @stop S S' c r h1 h2 h3 h4=>
  refine hP _ ?_
  have tail:wpS TT (CO (n+3)) [.ite (.aq 92 [] []) [
    .ite (.not_ (.bB 29)) [
     .bC 35 (.aA (.bool true))] []] [
    .asg 91 (.aA (.bool true))]] ⟨some (S'.au ev),[(0,.self),(91,.bool false)],[]⟩ (λo st=>(match o with
    | .next=>P st
    | .brk=>Q .next st
    | .ret v=>Q (.ret v) st)):=by
   refine aaG h2 h3 h4 ?_
   refine hP _ ?_
   exact hQ
  refine aau rfl ?_
  rw[gY]
  exact Kq (n:=n+1) h1 tail
 | @line S S₁ S₂ S' v h1 h2 h3 ih=>
  refine hP _ ?_
  have tail:wpS TT (CO (n+3)) [.ite (.aq 92 [] []) [
    .ite (.not_ (.bB 29)) [
     .bC 35 (.aA (.bool true))] []] [
    .asg 91 (.aA (.bool true))]] ⟨some (S₁.au ev),[(0,.self),(91,.bool false)],[]⟩ (λo st=>(match o with
    | .next=>P st
    | .brk=>Q .next st
    | .ret v=>Q (.ret v) st)):=by
   obtain⟨x,rfl⟩:=h2.ne
   refine Gi h2 ?_
   conv=>whnf
   have ih:=ih hQ
   cases e0:decide (S₂.fl=0)
   ·rw[e0]at ih
    exact ih
   ·rw[e0]at ih
    exact ih
  refine aau rfl ?_
  rw[gY]
  exact Kq (n:=n+1) h1 tail
theorem aaw {S S':PZ}{Q:AV->Option cF->Prop}(h:Xv S S')(hb:S.ptr=0->∃c r,S.r=c::r/\c≠65279)(hQ:Q .none (some (S'.au ev))):CO (n+4) 46 [.self] (some (S.au ev)) Q:=by
 have loop:=G6 (n:=n) (ev:=ev) (Q:=λo st=>pick (outV st o) λv=>Q v st.par) h hQ
 refine aH rfl ?_
 conv=>whnf
 cases e0:decide (((S.ptr:Nat):Int)=0)
 ·exact loop
 ·obtain⟨c,r,h1,h2⟩:=hb (by have:=of_decide_eq_true e0;omega)
  refine dw h1 ?_
  conv=>whnf
  have e:decide ([c]=[65279])=false:=decide_eq_false λe=>h2 (by injection e)
  rw[e]
  exact loop
end
noncomputable def isWs (c:Nat):Bool:=[32,9].any (Nat.beq c ·)
noncomputable def j9 (c:Nat):Bool:=[13,10,133,8232,8233].any (Nat.beq c ·)
noncomputable def fD (c:Nat):Bool:=[0,32,9,13,10,133,8232,8233].any (Nat.beq c ·)
noncomputable abbrev fC (l:List (List Nat)):List AV:=l.map AV.str
theorem pK {α:Type}{l:List α}(h:l.length<=1000):z9 l=some l:=by
 unfold z9
 have:Nat.ble l.length 1000=true:=by rw[Nat.ble_eq];exact h
 rw[this]
 rfl
section
variable {n:Nat}{S:PZ}{ev:AV}{c d:Nat}{r:List Nat}
theorem BR {lo:List (Nat×AV)}{ow:List (Nat×Cont)}{Q:PS}(hc:isWs c=false):∀(ws:List Nat),ws.all isWs=true->∀{S:PZ},S.r=ws++c::r->Q .next ⟨some ((S.aG ws.length).au ev),(0,.self)::lo,ow⟩->
  wp1 TT (CO (n+2)) (.whl (.cmp .fJ (.aq 15 [] []) (.aA (.str [32,9]))) [.exp (.aq 19 [] [])]) ⟨some (S.au ev),(0,.self)::lo,ow⟩ Q:=by
 intro ws hws S h hQ
 intro P hP
 have main:∀(ws:List Nat),ws.all isWs=true->∀(S:PZ),S.r=ws++c::r->Q .next ⟨some ((S.aG ws.length).au ev),(0,.self)::lo,ow⟩->P ⟨some (S.au ev),(0,.self)::lo,ow⟩:=by
  intro ws
  induction ws with
  |nil=>
   intro _ S h hQ
   refine hP _ ?_
   refine dw h ?_
   conv=>whnf
   unfold isWs at hc
   rw[hc]
   exact hQ
  |cons x ws ih=>
   intro hws S h hQ
   rw[List.all_cons,Bool.and_eq_true]at hws
   refine hP _ ?_
   refine dw h ?_
   conv=>whnf
   have e:=hws.1
   unfold isWs at e
   rw[e]
   have hl:S.r.length=ws.length+1+(r.length+1):=by rw[h];first|(simp only[List.length_append,List.length_cons];done) |(simp only[List.length_append,List.length_cons];omega)
   refine bH (k:=1) (by rw[hl];omega) ?_
   refine ih hws.2 (S.aG 1) (by rw[PZ.bZ,h];rfl) ?_
   rw[List.cons_append]at h
   rw[PZ.cL h,<-PZ.dB h]
   exact hQ
 exact main ws hws S h hQ
noncomputable def tE (r:List Nat):Prop:=(r.take 3≠[45,45,45]/\r.take 3≠[46,46,46])∨∃d,r[3]? =some d/\fD d=false
inductive Bk:PZ->List (List Nat)->PZ->Prop
 |stop {S:PZ} {ws:List Nat} {c:Nat} {r:List Nat}:tE S.r->S.r=ws++c::r->ws.all isWs=true->isWs c=false->j9 c=false->Bk S [] (S.aG ws.length)
 |more {S S₂ S':PZ} {ws:List Nat} {c:Nat} {r:List Nat} {v:List Nat} {vs:List (List Nat)}:tE S.r->S.r=ws++c::r->ws.all isWs=true->isWs c=false->j9 c=true->Lb (S.aG ws.length) v S₂->Bk S₂ vs S'->Bk S (v::vs) S'
noncomputable abbrev bkB:List IS:=[
   .asg 16 (.aq 16 [(.aA (.int 3))] []),
   .ite (.and_ [(.or_ [(.cmp .eq (.ak 16) (.aA (.str [45,45,45]))),(.cmp .eq (.ak 16) (.aA (.str [46,46,46])))]),(.cmp .fJ (.aq 15 [(.aA (.int 3))] []) (.aA (.str [0,32,9,13,10,133,8232,8233])))]) [
    .bad] []]
theorem yw {ow:List (Nat×Cont)}{Q:PS}(hS:S.ptr<=S.buf.length)(h:tE S.r){b:Bool}{mc:Nat}{mf:List (Nat×AV)}{tl:List (Nat×AV)}(htl:tl=[]∨∃v,tl=[(16,v)])
  (hQ:Q .next ⟨some (S.au ev),[(0,.self),(93,.bool b),(78,.inst mc mf),(94,.own 101),(16,.str (S.r.take 3))],ow⟩):
  wpS TT (CO (n+2)) bkB ⟨some (S.au ev),(0,.self)::(93,.bool b)::(78,.inst mc mf)::(94,.own 101)::tl,ow⟩ Q:=by
 have fin:wpS TT (CO (n+2)) [.ite (.and_ [(.or_ [(.cmp .eq (.ak 16) (.aA (.str [45,45,45]))),(.cmp .eq (.ak 16) (.aA (.str [46,46,46])))]),(.cmp .fJ (.aq 15 [(.aA (.int 3))] []) (.aA (.str [0,32,9,13,10,133,8232,8233])))]) [
    .bad] []] ⟨some (S.au ev),[(0,.self),(93,.bool b),(78,.inst mc mf),(94,.own 101),(16,.str (S.r.take 3))],ow⟩ Q:=by
  conv=>whnf
  cases e1:decide (List.take 3 S.r=[45,45,45])
  ·conv=>whnf
   cases e2:decide (List.take 3 S.r=[46,46,46])
   ·exact hQ
   ·rcases h with h|⟨d,h1,h2⟩
    ·exact(h.2 (of_decide_eq_true e2)).elim
    ·refine ?_
     refine dD (k:=3) h1 ?_
     conv=>whnf
     unfold fD at h2
     rw[h2]
     exact hQ
  ·rcases h with h|⟨d,h1,h2⟩
   ·exact(h.1 (of_decide_eq_true e1)).elim
   ·refine ?_
    refine dD (k:=3) h1 ?_
    conv=>whnf
    unfold fD at h2
    rw[h2]
    exact hQ
 rcases htl with rfl|⟨v,rfl⟩
 ·refine eZ (k:=3) hS ?_
  exact fin
 ·refine eZ (k:=3) hS ?_
  exact fin
end
theorem xq {CF:fP}{st:AS}{F:Bool->AS->Prop}(hF:F true st):zT TT CF (.aA (.bool true)) st F:=hF
theorem wQ (a:List (List Nat))(v:List Nat):fC a++[.str v]=fC (a++[v]):=by simp
theorem fX {st st':AS}{d v:AV}{xs:List AV}{Q:AS->Prop}(h1:qO st d=some xs)(h2:v.clo=true)(hl:(xs++[v]).length<=1000)(h3:setSlot st (.l (xs++[v])) d=some st')(hQ:Q st'):
  pick (qO st d) λxs=>kI v.clo (pick ((z9 (xs++[v])).bind λl=>setSlot st (.l l) d) Q):=aO h1 (dg h2 (aO ((pK hl).symm▸h3) hQ))
theorem Bg {st st':AS}{d v:AV}{xs ys:List AV}{Q:AS->Prop}(h1:qO st d=some xs)(h2:tQ st v=some ys)(hl:(xs++ys).length<=1000)(h3:setSlot st (.l (xs++ys)) d=some st')(hQ:Q st'):
  pick (qO st d) λxs=>pick (tQ st v) λys=>pick ((z9 (xs++ys)).bind λl=>setSlot st (.l l) d) Q:=aO h1 (aO h2 (aO ((pK hl).symm▸h3) hQ))
section
variable {n:Nat}{S:PZ}{ev:AV}{c d:Nat}{r:List Nat}
theorem PZ.le' {S:PZ}{ws:List Nat}(h:S.r=ws++c::r):S.ptr<=S.buf.length:=by
 cases ws with
 |nil=>exact PZ.le h
 |cons x ws=>exact PZ.le h
noncomputable abbrev bkT:List IS:=[
   .whl (.cmp .fJ (.aq 15 [] []) (.aA (.str [32,9]))) [
    .exp (.aq 19 [] [])],
   .ite (.cmp .fJ (.aq 15 [] []) (.aA (.str [13,10,133,8232,8233]))) [
    .app (.ak 94) (.aq 92 [] [])] [
    .ret (.ak 94)]]
theorem Qs {b:Bool}{mc:Nat}{mf:List (Nat×AV)}{Q:AV->Option cF->Prop}{P:AS->Prop}
  (hP:∀st,zT TT (CO (n+3)) (.aA (.bool true)) st (λc st=>match c with
   |true=>wpS TT (CO (n+3)) (bkB++bkT) st (λo st=>(match o with
    | .next=>P st
    | .brk=>Q .none st.par
    | .ret v=>pick (uJ st v) λv=>Q v st.par))
   |false=>Q .none st.par)->P st):∀{S S':PZ} {vs:List (List Nat)},Bk S vs S'->∀(done:List (List Nat)) (tl:List (Nat×AV)),(tl=[]∨∃v,tl=[(16,v)])->(done++vs).length<=1000->Q (.lst (fC (done++vs))) (some (S'.au ev))->
   P ⟨some (S.au ev),(0,.self)::(93,.bool b)::(78,.inst mc mf)::(94,.own 101)::tl,[(101,.l (fC done))]⟩:=by
 intro S S' vs h
 induction h with
 | @stop S ws c r h1 h2 h3 h4 h5=>
  intro done tl htl hlen hQ
  refine hP _ (xq ?_)
  dsimp only
  rw[gY]
  refine yw (n:=n+1) (PZ.le' h2) h1 htl ?_
  dsimp only
  refine BR (n:=n+1) h4 ws h3 h2 ?_
  dsimp only
  have hr:(S.aG ws.length).r=c::r:=by rw[PZ.bZ,h2,List.drop_append_of_le_length (Nat.le_refl _),List.drop_length];rfl
  refine dw hr ?_
  conv=>whnf
  unfold j9 at h5
  rw[h5]
  rw[List.append_nil]at hQ
  exact hQ
 | @more S S₂ S' ws c r v vs h1 h2 h3 h4 h5 h6 h7 ih=>
  intro done tl htl hlen hQ
  refine hP _ (xq ?_)
  dsimp only
  rw[gY]
  refine yw (n:=n+1) (PZ.le' h2) h1 htl ?_
  dsimp only
  refine BR (n:=n+1) h4 ws h3 h2 ?_
  dsimp only
  have hr:(S.aG ws.length).r=c::r:=by rw[PZ.bZ,h2,List.drop_append_of_le_length (Nat.le_refl _),List.drop_length];rfl
  refine dw hr ?_
  conv=>whnf
  unfold j9 at h5
  rw[h5]
  refine Gi (n:=n) h6 ?_
  have hl:(fC done++[AV.str v]).length<=1000:=by
   rw[List.length_append]at hlen⊢
   simp at hlen⊢
   omega
  have fin:=ih (done++[v]) [(16,.str (S.r.take 3))] (.inr ⟨_,rfl⟩) (by simpa using hlen) (by simpa using hQ)
  refine fX (d:=.own 101) (v:=.str v) (xs:=fC done) (st:=⟨some (S₂.au ev),[(0,.self),(93,.bool b),(78,.inst mc mf),(94,.own 101),(16,.str (S.r.take 3))],[(101,.l (fC done))]⟩) (st':=⟨some (S₂.au ev),[(0,.self),(93,.bool b),(78,.inst mc mf),(94,.own 101),(16,.str (S.r.take 3))],[(101,.l (fC done++[.str v]))]⟩) rfl rfl hl rfl ?_
  rw[wQ]
  exact fin
theorem QK {S S':PZ}{vs:List (List Nat)}{b:Bool}{mc:Nat}{mf:List (Nat×AV)}{Q:AV->Option cF->Prop}(h:Bk S vs S')(hlen:vs.length<=1000)(hQ:Q (.lst (fC vs)) (some (S'.au ev))):
  CO (n+4) 101 [.self,.bool b,.inst mc mf] (some (S.au ev)) Q:=by
 refine aH rfl ?_
 intro P hP
 exact Qs (n:=n) hP h [] [] (.inl rfl) (by simpa using hlen) (by simpa using hQ)
end
section
variable {n:Nat}{S:PZ}{ev:AV}{c d:Nat}{r:List Nat}
theorem yF {o:Ec}{set:List Nat}{g:Nat->Bool}(hg:∀st x,mL TT st o (.str [x]) (.str set)=some (g x)){lo:Int->List (Nat×AV)}(h0:∀i,get 0 (lo i)=some .self)(h17:∀i,get 17 (lo i)=some (.int i))(abO:∀i j,put 17 (.int j) (lo i)=lo j)
  {ow:List (Nat×Cont)}{Q:PS}(hc:g c=false){ws:List Nat}(hws:ws.all g=true)(h:S.r=ws++c::r)(hQ:Q .next ⟨some (S.au ev),lo (ws.length:Nat),ow⟩):
  wp1 TT (CO (n+1)) (.whl (.cmp o (.aq 15 [.ak 17] []) (.aA (.str set))) [.aug 17 .add (.aA (.int 1))]) ⟨some (S.au ev),lo 0,ow⟩ Q:=by
 intro P hP
 have na:∀i,noAttr ⟨some (S.au ev),lo i,ow⟩ 15=true:=λi=>by
  unfold noAttr qw nP
  rw[h0]
  rfl
 have main:∀(ws us:List Nat),us.all g=true->S.r=ws++us++c::r->Q .next ⟨some (S.au ev),lo ((ws++us).length:Nat),ow⟩->P ⟨some (S.au ev),lo (ws.length:Nat),ow⟩:=by
  intro ws us
  induction us generalizing ws with
  |nil=>
   intro _ h hQ
   rw[List.append_nil]at h hQ
   refine hP _ ?_
   have hr:S.r[ws.length]? =some c:=by rw[h,List.getElem?_append_right (Nat.le_refl _),Nat.sub_self];rfl
   refine dg (na _) (aO (h17 _) ?_)
   refine dD hr ?_
   refine aO (hg _ _) ?_
   rw[hc]
   exact hQ
  |cons x us ih=>
   intro hus h hQ
   rw[List.all_cons,Bool.and_eq_true]at hus
   refine hP _ ?_
   have hr:S.r[ws.length]? =some x:=by rw[h,List.append_assoc,List.getElem?_append_right (Nat.le_refl _),Nat.sub_self];rfl
   refine dg (na _) (aO (h17 _) ?_)
   refine dD hr ?_
   refine aO (hg _ _) ?_
   rw[hus.1]
   refine aO rfl (aO (h17 _) ?_)
   show P ⟨some (S.au ev),put 17 _ (lo _),ow⟩
   rw[abO]
   have:=ih (ws++[x]) hus.2 (by rw[h];simp) (by simpa using hQ)
   have e:((ws++[x]).length:Int)=(ws.length:Int)+1:=by simp
   rw[e]at this
   exact this
 have:=main [] ws hws h (by simpa using hQ)
 exact this
end
theorem SQ {CF:fP}{st:AS}{x:Nat}{v:AV}{Q:PE}(h:get x st.ak=some v)(hQ:Q v st):bf TT CF (.ak x) st Q:=aO h hQ
section
variable {n:Nat}{S:PZ}{ev:AV}{c d:Nat}{r:List Nat}
inductive xr:PZ->List (List Nat)->PZ->Prop
 |plain {S:PZ} {ws:List Nat} {c:Nat} {r:List Nat}:S.r=ws++c::r->ws.all isWs=true->isWs c=false->c≠0->j9 c=false->xr S [ws] (S.aG ws.length)
 |sep {S S₂ S':PZ} {ws:List Nat} {c:Nat} {r v:List Nat} {vs:List (List Nat)}:S.r=ws++c::r->ws.all isWs=true->isWs c=false->c≠0->j9 c=true->Lb (S.aG ws.length) v S₂->Bk S₂ vs S'->v≠[10]->xr S (v::vs) S'
 |fold {S S₂ S':PZ} {ws:List Nat} {c:Nat} {r:List Nat}:S.r=ws++c::r->ws.all isWs=true->isWs c=false->c≠0->j9 c=true->Lb (S.aG ws.length) [10] S₂->Bk S₂ [] S'->xr S [[32]] S'
 |lines {S S₂ S':PZ} {ws:List Nat} {c:Nat} {r v:List Nat} {vs:List (List Nat)}:S.r=ws++c::r->ws.all isWs=true->isWs c=false->c≠0->j9 c=true->Lb (S.aG ws.length) [10] S₂->Bk S₂ (v::vs) S'->xr S (v::vs) S'
noncomputable abbrev Tq:List IS:=[
  .ite (.cmp .eq (.ak 20) (.aA (.str [0]))) [
   .bad] [
   .ite (.cmp .fJ (.ak 20) (.aA (.str [13,10,133,8232,8233]))) [
    .asg 103 (.aq 92 [] []),
    .asg 104 (.aq 101 [(.ak 93),(.ak 78)] []),
    .ite (.cmp .ne (.ak 103) (.aA (.str [10]))) [
     .app (.ak 94) (.ak 103)] [
     .ite (.not_ (.ak 104)) [
      .app (.ak 94) (.aA (.str [32]))] []],
    .ext (.ak 94) (.ak 104)] [
    .app (.ak 94) (.ak 102)]],
  .ret (.ak 94)]
noncomputable abbrev Yi:List IS:=[
  .asg 102 (.aq 16 [(.ak 17)] []),
  .exp (.aq 19 [(.ak 17)] []),
  .asg 20 (.aq 15 [] [])]++Tq
noncomputable abbrev bw (Q:AV->Option cF->Prop):PS:=λo st=>pick (outV st o) λv=>Q v st.par
theorem G9 {k:Nat}{Q:PS}{b:Bool}{mc:Nat}{mf:List (Nat×AV)}{ws:List Nat}(hc:isWs c=false)(hws:ws.all isWs=true)(h:S.r=ws++c::r)
  (hQ:wpS TT (CO (n+5)) Tq ⟨some ((S.aG ws.length).au ev),[(0,.self),(93,.bool b),(78,.inst mc mf),(94,.own 101),(17,.int (ws.length:Nat)),(102,.str ws),(20,.str [c])],[(101,.l [])]⟩ Q):
  wpS TT (CO (n+5)) Yi ⟨some (S.au ev),[(0,.self),(93,.bool b),(78,.inst mc mf),(94,.own 101),(17,.int (ws.length:Nat))],[(101,.l [])]⟩ Q:=by
 have ht:S.r.take ws.length=ws:=by rw[h,List.take_append_of_le_length (Nat.le_refl _),List.take_length]
 have hl:ws.length<S.r.length:=by rw[h,List.length_append,List.length_cons];omega
 have hr:(S.aG ws.length).r=c::r:=by rw[PZ.bZ,h,List.drop_append_of_le_length (Nat.le_refl _),List.drop_length];rfl
 refine eZ (k:=ws.length) (PZ.le' h) ?_
 refine bH (k:=ws.length) hl ?_
 refine dw hr ?_
 rw[ht]
 exact hQ
theorem aay {S S':PZ}{vs:List (List Nat)}{b:Bool}{mc:Nat}{mf:List (Nat×AV)}{Q:AV->Option cF->Prop}(h:xr S vs S')(hlen:vs.length<=1000)(hQ:Q (.lst (fC vs)) (some (S'.au ev))):
  CO (n+6) 97 [.self,.bool b,.inst mc mf] (some (S.au ev)) Q:=by
 have head:∀(ws:List Nat) (c:Nat) (r:List Nat),S.r=ws++c::r->ws.all isWs=true->isWs c=false->
   wpS TT (CO (n+5)) Tq ⟨some ((S.aG ws.length).au ev),[(0,.self),(93,.bool b),(78,.inst mc mf),(94,.own 101),(17,.int (ws.length:Nat)),(102,.str ws),(20,.str [c])],[(101,.l [])]⟩ (bw Q)->
   CO (n+6) 97 [.self,.bool b,.inst mc mf] (some (S.au ev)) Q:=by
  intro ws c r h hws hc hF
  have loop:=yF (n:=n+4) (S:=S) (ev:=ev) (o:=.fJ) (set:=[32,9]) (g:=isWs) (λ_ _=>rfl) (lo:=λi=>[(0,.self),(93,.bool b),(78,.inst mc mf),(94,.own 101),(17,.int i)]) (λ_=>rfl) (λ_=>rfl) (λ_ _=>rfl) (ow:=[(101,.l [])])
   (Q:=λo st=>match o with| .next=>wpS TT (CO (n+5)) Yi st (bw Q) |o=>bw Q o st) hc hws h (G9 (n:=n) (k:=0) hc hws h hF)
  refine aH rfl ?_
  exact loop
 cases h with
 | @plain ws c r h1 h2 h3 h4 h5=>
  refine head ws c r h1 h2 h3 ?_
  conv=>whnf
  have e:decide ([c]=[0])=false:=decide_eq_false λe=>h4 (by injection e)
  rw[e]
  conv=>whnf
  unfold j9 at h5
  rw[h5]
  exact hQ
 | @sep S₂ _ ws c r v vs h1 h2 h3 h4 h5 h6 h7 h8=>
  refine head ws c r h1 h2 h3 ?_
  conv=>whnf
  have e:decide ([c]=[0])=false:=decide_eq_false λe=>h4 (by injection e)
  rw[e]
  conv=>whnf
  unfold j9 at h5
  rw[h5]
  refine Gi (n:=n+2) h6 ?_
  refine QK (n:=n+1) h7 (by rw[List.length_cons]at hlen;omega) ?_
  conv=>whnf
  have e:decide (v=[10])=false:=decide_eq_false h8
  rw[e]
  refine Bg (d:=.own 101) (v:=.lst (fC vs)) (xs:=[AV.str v]) (ys:=fC vs) (st:=⟨some (S'.au ev),[(0,.self),(93,.bool b),(78,.inst mc mf),(94,.own 101),(17,.int (ws.length:Nat)),(102,.str ws),(20,.str [c]),(103,.str v),(104,.lst (fC vs))],[(101,.l [AV.str v])]⟩) (st':=⟨some (S'.au ev),[(0,.self),(93,.bool b),(78,.inst mc mf),(94,.own 101),(17,.int (ws.length:Nat)),(102,.str ws),(20,.str [c]),(103,.str v),(104,.lst (fC vs))],[(101,.l ([AV.str v]++fC vs))]⟩) rfl rfl ?_ rfl ?_
  ·simp at hlen⊢;omega
  ·exact hQ
 | @fold S₂ _ ws c r h1 h2 h3 h4 h5 h6 h7=>
  refine head ws c r h1 h2 h3 ?_
  conv=>whnf
  have e:decide ([c]=[0])=false:=decide_eq_false λe=>h4 (by injection e)
  rw[e]
  conv=>whnf
  unfold j9 at h5
  rw[h5]
  refine Gi (n:=n+2) h6 ?_
  refine QK (n:=n+1) h7 (by decide) ?_
  exact hQ
 | @lines S₂ _ ws c r v vs h1 h2 h3 h4 h5 h6 h7=>
  refine head ws c r h1 h2 h3 ?_
  conv=>whnf
  have e:decide ([c]=[0])=false:=decide_eq_false λe=>h4 (by injection e)
  rw[e]
  conv=>whnf
  unfold j9 at h5
  rw[h5]
  refine Gi (n:=n+2) h6 ?_
  refine QK (n:=n+1) h7 hlen ?_
  refine Bg (d:=.own 101) (v:=.lst (fC (v::vs))) (xs:=[]) (ys:=fC (v::vs)) (st:=⟨some (S'.au ev),[(0,.self),(93,.bool b),(78,.inst mc mf),(94,.own 101),(17,.int (ws.length:Nat)),(102,.str ws),(20,.str [c]),(103,.str [10]),(104,.lst (fC (v::vs)))],[(101,.l [])]⟩) (st':=⟨some (S'.au ev),[(0,.self),(93,.bool b),(78,.inst mc mf),(94,.own 101),(17,.int (ws.length:Nat)),(102,.str ws),(20,.str [c]),(103,.str [10]),(104,.lst (fC (v::vs)))],[(101,.l ([]++fC (v::vs)))]⟩) rfl rfl ?_ rfl ?_
  ·simpa using hlen
  ·exact hQ
end
noncomputable def lA (c:Nat):Bool:= !([39,34,92,0,32,9,13,10,133,8232,8233].any (Nat.beq c ·))
noncomputable def ck (ws:List Nat):List (List Nat):=match ws with
 |[]=>[]
 |_=>[ws]
section
variable {n:Nat}{S:PZ}{ev:AV}{c d:Nat}{r:List Nat}
noncomputable abbrev Xj:List IS:=[
   .ite (.and_ [(.not_ (.ak 93)),(.cmp .eq (.ak 20) (.aA (.str [39]))),(.cmp .eq (.aq 15 [(.aA (.int 1))] []) (.aA (.str [39])))]) [
    .app (.ak 94) (.aA (.str [39])),
    .exp (.aq 19 [(.aA (.int 2))] [])] [
    .ite (.or_ [(.and_ [(.ak 93),(.cmp .eq (.ak 20) (.aA (.str [39])))]),(.and_ [(.not_ (.ak 93)),(.cmp .fJ (.ak 20) (.aA (.str [34,92])))])]) [
     .app (.ak 94) (.ak 20),
     .exp (.aq 19 [] [])] [
     .ite (.and_ [(.ak 93),(.cmp .eq (.ak 20) (.aA (.str [92])))]) [
      .exp (.aq 19 [] []),
      .asg 20 (.aq 15 [] []),
      .ite (.cmp .fJ (.ak 20) (.xY 99 1213)) [
       .app (.ak 94) (.idx (.xY 99 1213) (.ak 20)),
       .exp (.aq 19 [] [])] [
       .ite (.cmp .fJ (.ak 20) (.xY 100 1215)) [
        .bad,
        .bad,
        .bad,
        .bad,
        .bad,
        .bad] [
        .ite (.cmp .fJ (.ak 20) (.aA (.str [13,10,133,8232,8233]))) [
         .exp (.aq 92 [] []),
         .ext (.ak 94) (.aq 101 [(.ak 93),(.ak 78)] [])] [
         .bad]]]] [
      .ret (.ak 94)]]]]
noncomputable abbrev nsL:IS:=.whl (.cmp .nin (.aq 15 [(.ak 17)] []) (.aA (.str [39,34,92,0,32,9,13,10,133,8232,8233]))) [
    .aug 17 .add (.aA (.int 1))]
noncomputable abbrev nsM:List IS:=[
   .ite (.ak 17) [
    .app (.ak 94) (.aq 16 [(.ak 17)] []),
    .exp (.aq 19 [(.ak 17)] [])] [],
   .asg 20 (.aq 15 [] [])]
noncomputable abbrev lg (b:Bool) (mc:Nat) (mf:List (Nat×AV)) (i:Int) (tl:List (Nat×AV)):List (Nat×AV):=(0,.self)::(93,.bool b)::(78,.inst mc mf)::(94,.own 101)::(17,.int i)::tl
theorem Uy {Q:PS}{b:Bool}{mc:Nat}{mf tl:List (Nat×AV)}{ws:List Nat}{done:List (List Nat)}(htl:tl=[]∨∃v,tl=[(20,v)])(h:S.r=ws++c::r)(hlen:(done++ck ws).length<=1000)
  (hQ:Q .next ⟨some ((S.aG ws.length).au ev),lg b mc mf (ws.length:Nat) [(20,.str [c])],[(101,.l (fC (done++ck ws)))]⟩):
  wpS TT (CO (n+3)) nsM ⟨some (S.au ev),lg b mc mf (ws.length:Nat) tl,[(101,.l (fC done))]⟩ Q:=by
 have ht:S.r.take ws.length=ws:=by rw[h,List.take_append_of_le_length (Nat.le_refl _),List.take_length]
 have hl:ws.length<S.r.length:=by rw[h,List.length_append,List.length_cons];omega
 have hr:(S.aG ws.length).r=c::r:=by rw[PZ.bZ,h,List.drop_append_of_le_length (Nat.le_refl _),List.drop_length];rfl
 cases ws with
 |nil=>
  have e:ck []=[]:=rfl
  rw[e,List.append_nil]at hQ
  rcases htl with rfl|⟨v,rfl⟩
  ·refine dw hr ?_
   exact hQ
  ·refine dw hr ?_
   exact hQ
 |cons x ws=>
  have e:ck (x::ws)=[x::ws]:=rfl
  rw[e]at hQ hlen
  have hl2:(fC done++[AV.str (x::ws)]).length<=1000:=by
   rw[List.length_append]at hlen⊢
   simpa using hlen
  refine aL (qe ?_)
  refine KY (k:=ws.length) rfl ?_
  dsimp only
  refine aL (uY ?_)
  refine SQ (v:=.own 101) rfl ?_
  refine eZ (k:=ws.length+1) (PZ.le' h) ?_
  rw[show List.take (ws.length+1) S.r=x::ws from ht]
  refine fX (d:=.own 101) (v:=.str (x::ws)) (xs:=fC done) (st:=⟨some (S.au ev),lg b mc mf ((x::ws).length:Nat) tl,[(101,.l (fC done))]⟩) (st':=⟨some (S.au ev),lg b mc mf ((x::ws).length:Nat) tl,[(101,.l (fC done++[.str (x::ws)]))]⟩) rfl rfl hl2 rfl ?_
  rw[wQ]
  refine bH (k:=ws.length+1) hl ?_
  rcases htl with rfl|⟨v,rfl⟩
  ·refine dw hr ?_
   exact hQ
  ·refine dw hr ?_
   exact hQ
end
noncomputable def Fy:List (List Nat×AV):=(TT.DT 1213).getD []
noncomputable def V7:List (List Nat×AV):=(TT.DT 1215).getD []
inductive DX:Bool->PZ->List (List Nat)->PZ->Prop
 |qq {S:PZ} {d:Nat} {r:List Nat}:S.r=39::39::d::r->DX false S [[39]] (S.aG 2)
 |apo {S:PZ} {d:Nat} {r:List Nat}:S.r=39::d::r->DX true S [[39]] (S.aG 1)
 |lit {S:PZ} {c d:Nat} {r:List Nat}:S.r=c::d::r->(c=34∨c=92)->DX false S [[c]] (S.aG 1)
 |esc {S:PZ} {x d:Nat} {r v:List Nat}:S.r=92::x::d::r->lC [x] Fy=some (.str v)->DX true S [v] ((S.aG 1).aG 1)
 |fold {S S₂ S':PZ} {x:Nat} {r v:List Nat} {vs:List (List Nat)}:S.r=92::x::r->lC [x] Fy=none->lC [x] V7=none->j9 x=true->Lb (S.aG 1) v S₂->Bk S₂ vs S'->DX true S vs S'
noncomputable def ql (b:Bool) (c:Nat) (nx:Option Nat):Bool:=match b with
 |true=> !Nat.beq c 39&& !Nat.beq c 92
 |false=> !Nat.beq c 34&& !Nat.beq c 92&& !(Nat.beq c 39&&(nx==some 39))
section
variable {n:Nat}{S:PZ}{ev:AV}{c d:Nat}{r:List Nat}
theorem Wq {CF:fP}{st:AS}{a:Nat}{dd:Addr}{x:List Nat}{l:List (List Nat×AV)}{F:Bool->AS->Prop}{o:Bool}(h:get 20 st.ak=some (.str x))(hn:noAttr st a=true)(hd:TT.DT dd=some l)(ho:(lC x l).isSome=o)(hF:F o st):zT TT CF (.cmp .fJ (.ak 20) (.xY a dd)) st F:=by
 have e:mL TT st .fJ (.str x) (.top dd)=some o:=by
  subst ho
  show pJ ((TT.DT dd).bind λl=>some (lC x l).isSome) _=_
  rw[hd]
  rfl
 exact aO h (dg hn (aO e (aO rfl hF)))
theorem aa2 {CF:fP}{st:AS}{a:Nat}{dd:Addr}{x:List Nat}{l:List (List Nat×AV)}{v:AV}{Q:PE}(h:get 20 st.ak=some (.str x))(hn:noAttr st a=true)(hd:TT.DT dd=some l)(ho:lC x l=some v)(hQ:Q v st):bf TT CF (.idx (.xY a dd) (.ak 20)) st Q:=by
 have e:idxV TT st (.top dd) (.str x)=some v:=by
  show(TT.DT dd).bind (lC x ·)=some v
  rw[hd]
  exact ho
 exact dg hn (aO h (aO e hQ))
noncomputable abbrev nsE:IS:=.ite (.cmp .fJ (.ak 20) (.xY 99 1213)) [
       .app (.ak 94) (.idx (.xY 99 1213) (.ak 20)),
       .exp (.aq 19 [] [])] [
       .ite (.cmp .fJ (.ak 20) (.xY 100 1215)) [
        .bad,
        .bad,
        .bad,
        .bad,
        .bad,
        .bad] [
        .ite (.cmp .fJ (.ak 20) (.aA (.str [13,10,133,8232,8233]))) [
         .exp (.aq 92 [] []),
         .ext (.ak 94) (.aq 101 [(.ak 93),(.ak 78)] [])] [
         .bad]]]
theorem Oa {S S':PZ}{Q:PS}{b:Bool}{mc:Nat}{mf:List (Nat×AV)}{k:Int}{c:Nat}{r:List Nat}{v done:List (List Nat)}(h:DX b S v S')(hr:S.r=c::r)(hlen:(done++v).length<=1000)
  (hQ:∀u,Q .next ⟨some (S'.au ev),lg b mc mf k [(20,.str u)],[(101,.l (fC (done++v)))]⟩):
  wpS TT (CO (n+5)) Xj ⟨some (S.au ev),lg b mc mf k [(20,.str [c])],[(101,.l (fC done))]⟩ Q:=by
 have w6:∀(S:PZ) (u w:List Nat) (Q:AS->Prop),v=[w]->Q ⟨some (S.au ev),lg b mc mf k [(20,.str u)],[(101,.l (fC (done++v)))]⟩->
   pick ((z9 (fC done++[AV.str w])).bind λl=>setSlot ⟨some (S.au ev),lg b mc mf k [(20,.str u)],[(101,.l (fC done))]⟩ (.l l) (.own 101)) Q:=by
  intro S u w Q hv hQ
  subst hv
  rw[wQ,pK (by rw[List.length_map];exact hlen)]
  exact hQ
 cases h with
 |qq h1=>
  rw[h1]at hr
  cases hr
  refine dD (k:=1) (by rw[h1];rfl) ?_
  refine w6 S [39] [39] _ rfl ?_
  refine bH (k:=2) (by rw[h1];simp) ?_
  exact hQ _
 |apo h1=>
  rw[h1]at hr
  cases hr
  refine w6 S [39] [39] _ rfl ?_
  refine bH (k:=1) (by rw[h1];simp) ?_
  exact hQ _
 |lit h1 h2=>
  rw[h1]at hr
  cases hr
  rcases h2 with rfl|rfl
  ·refine w6 S [34] [34] _ rfl ?_
   refine bH (k:=1) (by rw[h1];simp) ?_
   exact hQ _
  ·refine w6 S [92] [92] _ rfl ?_
   refine bH (k:=1) (by rw[h1];simp) ?_
   exact hQ _
 |esc h1 h2=>
  rename_i x d r v
  rw[h1]at hr
  cases hr
  refine bH (k:=1) (by rw[h1];simp) ?_
  have hr1:(S.aG 1).r=x::d::r:=by rw[PZ.bZ,h1];rfl
  refine dw hr1 ?_
  have fin:wpS TT (CO (n+5)) [nsE] ⟨some ((S.aG 1).au ev),lg true mc mf k [(20,.str [x])],[(101,.l (fC done))]⟩ Q:=by
   refine Wq (l:=Fy) rfl rfl rfl (o:=true) (by rw[h2];rfl) ?_
   dsimp only
   refine aL (uY ?_)
   refine SQ (v:=.own 101) rfl ?_
   refine aa2 (l:=Fy) rfl rfl rfl h2 ?_
   refine w6 (S.aG 1) [x] v _ rfl ?_
   refine bH (k:=1) (by rw[hr1];simp) ?_
   exact hQ _
  exact fin
 |fold h1 h2 h3 h4 h5 h6=>
  rename_i S₂ x r u
  rw[h1]at hr
  cases hr
  have hr1:(S.aG 1).r=x::r:=by rw[PZ.bZ,h1];rfl
  refine bH (k:=1) (by rw[h1];simp) ?_
  refine dw hr1 ?_
  have fin:wpS TT (CO (n+5)) [nsE] ⟨some ((S.aG 1).au ev),lg true mc mf k [(20,.str [x])],[(101,.l (fC done))]⟩ Q:=by
   refine Wq (l:=Fy) rfl rfl rfl (o:=false) (by rw[h2];rfl) ?_
   dsimp only
   refine Wq (l:=V7) rfl rfl rfl (o:=false) (by rw[h3];rfl) ?_
   conv=>whnf
   unfold j9 at h4
   rw[h4]
   refine Gi (n:=n+2) h5 ?_
   refine QK (n:=n+1) h6 (by rw[List.length_append]at hlen;omega) ?_
   have hl2:(fC done++fC v).length<=1000:=by simpa using hlen
   refine Bg (d:=.own 101) (v:=.lst (fC v)) (xs:=fC done) (ys:=fC v) (st:=⟨some (S'.au ev),lg true mc mf k [(20,.str [x])],[(101,.l (fC done))]⟩) (st':=⟨some (S'.au ev),lg true mc mf k [(20,.str [x])],[(101,.l (fC done++fC v))]⟩) rfl rfl hl2 rfl ?_
   have e:fC done++fC v=fC (done++v):=by simp
   rw[e]
   exact hQ _
  exact fin
end
inductive Ns (b:Bool):PZ->List (List Nat)->PZ->Prop
 |stop {S:PZ} {ws:List Nat} {c:Nat} {r:List Nat}:S.r=ws++c::r->ws.all lA=true->lA c=false->ql b c r.head?=true->(b=false->r≠[])->Ns b S (ck ws) (S.aG ws.length)
 |step {S S₂ S':PZ} {ws:List Nat} {c:Nat} {r:List Nat} {v vs:List (List Nat)}:S.r=ws++c::r->ws.all lA=true->lA c=false->DX b (S.aG ws.length) v S₂->Ns b S₂ vs S'->Ns b S (ck ws++(v++vs)) S'
section
variable {n:Nat}{S:PZ}{ev:AV}{c d:Nat}{r:List Nat}
theorem N7 {S:PZ}{Q:PS}{b:Bool}{mc:Nat}{mf:List (Nat×AV)}{k:Int}{c:Nat}{r:List Nat}{done:List (List Nat)}(hr:S.r=c::r)(hs:ql b c r.head?=true)(hb:b=false->r≠[])
  (hQ:Q (.ret (.own 101)) ⟨some (S.au ev),lg b mc mf k [(20,.str [c])],[(101,.l (fC done))]⟩):
  wpS TT (CO (n+5)) Xj ⟨some (S.au ev),lg b mc mf k [(20,.str [c])],[(101,.l (fC done))]⟩ Q:=by
 cases b with
 |true=>
  unfold ql at hs
  simp only[Bool.and_eq_true,Bool.not_eq_true']at hs
  have e1:decide ([c]=[39])=false:=decide_eq_false λe=>by injection e with e;rw[e]at hs;exact absurd hs.1 (by decide)
  have e2:decide ([c]=[92])=false:=decide_eq_false λe=>by injection e with e;rw[e]at hs;exact absurd hs.2 (by decide)
  conv=>whnf
  rw[e1]
  conv=>whnf
  rw[e2]
  exact hQ
 |false=>
  unfold ql at hs
  simp only[Bool.and_eq_true,Bool.not_eq_true']at hs
  have e3:[34,92].any (Nat.beq c ·)=false:=by
   show(Nat.beq c 34||(Nat.beq c 92||false))=false
   rw[hs.1.1,hs.1.2];rfl
  cases e1:decide ([c]=[39])
  ·conv=>whnf
   rw[e1]
   conv=>whnf
   rw[e3]
   exact hQ
  ·have hc:c=39:=by have:=of_decide_eq_true e1;injection this
   subst hc
   cases r with
   |nil=>exact(hb rfl rfl).elim
   |cons d r=>
    have e4:decide ([d]=[39])=false:=decide_eq_false λe=>by
     injection e with e
     have:=hs.2
     rw[e]at this
     have:true=false:=this
     cases this
    refine dD (k:=1) (by rw[hr];rfl) ?_
    conv=>whnf
    rw[e4]
    exact hQ
noncomputable abbrev nsB:List IS:=[.asg 17 (.aA (.int 0)),nsL]++(nsM++Xj)
theorem N8 {b:Bool}{mc:Nat}{mf:List (Nat×AV)}{Q:AV->Option cF->Prop}{P:AS->Prop}
  (hP:∀st,zT TT (CO (n+5)) (.aA (.bool true)) st (λc st=>match c with
   |true=>wpS TT (CO (n+5)) nsB st (λo st=>(match o with
    | .next=>P st
    | .brk=>Q .none st.par
    | .ret v=>pick (uJ st v) λv=>Q v st.par))
   |false=>Q .none st.par)->P st):∀{S S':PZ} {vs:List (List Nat)},Ns b S vs S'->∀(done:List (List Nat)) (lo:List (Nat×AV)),(lo=[]∨∃k v,lo=[(17,.int k),(20,v)])->(done++vs).length<=1000->Q (.lst (fC (done++vs))) (some (S'.au ev))->
   P ⟨some (S.au ev),(0,.self)::(93,.bool b)::(78,.inst mc mf)::(94,.own 101)::lo,[(101,.l (fC done))]⟩:=by
 have head:∀{S:PZ} {ws:List Nat} {c:Nat} {r:List Nat} {done:List (List Nat)} {lo:List (Nat×AV)} {Q':PS},(lo=[]∨∃k v,lo=[(17,.int k),(20,v)])->S.r=ws++c::r->ws.all lA=true->lA c=false->(done++ck ws).length<=1000->
   wpS TT (CO (n+5)) Xj ⟨some ((S.aG ws.length).au ev),lg b mc mf (ws.length:Nat) [(20,.str [c])],[(101,.l (fC (done++ck ws)))]⟩ Q'->
   wpS TT (CO (n+5)) nsB ⟨some (S.au ev),(0,.self)::(93,.bool b)::(78,.inst mc mf)::(94,.own 101)::lo,[(101,.l (fC done))]⟩ Q':=by
  intro S ws c r done lo Q' hlo h hws hc hlen hF
  have go:∀tl,(tl=[]∨∃v,tl=[(20,v)])->wpS TT (CO (n+5)) [nsL] ⟨some (S.au ev),lg b mc mf 0 tl,[(101,.l (fC done))]⟩ (λo st=>match o with| .next=>wpS TT (CO (n+5)) (nsM++Xj) st Q'|o=>Q' o st):=by
   intro tl htl
   refine yF (n:=n+4) (S:=S) (ev:=ev) (c:=c) (r:=r) (g:=lA) (ws:=ws) (λ_ _=>rfl) (lo:=λi=>lg b mc mf i tl) (λ_=>rfl) (λ_=>rfl) (λ_ _=>rfl) hc hws h ?_
   show wpS TT _ (nsM++Xj) _ _
   rw[gY]
   refine Uy (n:=n+2) htl h hlen ?_
   exact hF
  rcases hlo with rfl|⟨k,v,rfl⟩
  ·exact go [] (.inl rfl)
  ·exact go [(20,v)] (.inr ⟨_,rfl⟩)
 intro S S' vs h
 induction h with
 | @stop S ws c r h1 h2 h3 h4 h5=>
  intro done lo hlo hlen hQ
  refine hP _ (xq ?_)
  have hr:(S.aG ws.length).r=c::r:=by rw[PZ.bZ,h1,List.drop_append_of_le_length (Nat.le_refl _),List.drop_length];rfl
  exact head hlo h1 h2 h3 hlen (N7 hr h4 h5 hQ)
 | @step S S₂ S' ws c r v vs h1 h2 h3 h4 h5 ih=>
  intro done lo hlo hlen hQ
  refine hP _ (xq ?_)
  have hr:(S.aG ws.length).r=c::r:=by rw[PZ.bZ,h1,List.drop_append_of_le_length (Nat.le_refl _),List.drop_length];rfl
  refine head hlo h1 h2 h3 (by simp only[List.length_append]at hlen⊢;omega) (Oa h4 hr (by simp only[List.length_append]at hlen⊢;omega) λu=>?_)
  exact ih _ [(17,.int (ws.length:Nat)),(20,.str u)] (.inr ⟨_,_,rfl⟩) (by simp only[List.length_append]at hlen⊢;omega) (by simpa [List.append_assoc]using hQ)
theorem aaC {S S':PZ}{vs:List (List Nat)}{b:Bool}{mc:Nat}{mf:List (Nat×AV)}{Q:AV->Option cF->Prop}(h:Ns b S vs S')(hlen:vs.length<=1000)(hQ:Q (.lst (fC vs)) (some (S'.au ev))):
  CO (n+6) 96 [.self,.bool b,.inst mc mf] (some (S.au ev)) Q:=by
 refine aH rfl ?_
 intro P hP
 exact N8 (n:=n) hP h [] [] (.inl rfl) (by simpa using hlen) (by simpa using hQ)
end
noncomputable def qt (b:Bool):Nat:=match b with
 |true=>34
 |false=>39
inductive Lp (b:Bool):PZ->List (List Nat)->PZ->Prop
 |stop {S:PZ} {r:List Nat}:S.r=qt b::r->Lp b S [] S
 |step {S S₂ fY S':PZ} {c:Nat} {r:List Nat} {v w vs:List (List Nat)}:S.r=c::r->c≠qt b->xr S v S₂->Ns b S₂ w fY->Lp b fY vs S'->Lp b S (v++(w++vs)) S'
inductive Fs (b:Bool):PZ->List (List Nat)->PZ->Prop
 |mk {S S₁ S₂:PZ} {d d':Nat} {r r':List Nat} {v vs:List (List Nat)}:S.r=qt b::d::r->Ns b (S.aG 1) v S₁->Lp b S₁ vs S₂->S₂.r=qt b::d'::r'->Fs b S (v++vs) (S₂.aG 1)
theorem vG:∀vs:List (List Nat),yH (fC vs)=some vs.flatten
 |[]=>rfl
 |v::vs=>by
  show(yH (fC vs)).map (v++ ·)=_
  rw[vG vs]
  rfl
theorem Ur {l:List Nat}(h:l.length<=100000):okS l=some l:=by
 unfold okS
 have:Nat.ble l.length 100000=true:=by rw[Nat.ble_eq];exact h
 rw[this]
 rfl
theorem Ln {CF:fP}{st:AS}{c:Nat}{e:IE}{es:List IE}{R:PE}(h:bf TT CF e st λv st=>gD TT CF es st λvs st=>Ip TT c (v::vs) [] st R):bf TT CF (.bR c (e::es) []) st R:=h
theorem Xe {CF:fP}{st:AS}{x k:Nat}{vs:List (List Nat)}{Q:PE}(h:get x st.ak=some (.own k))(hs:get k st.own=some (.l (fC vs)))(hl:vs.flatten.length<=100000)(hQ:Q (.str vs.flatten) st):bf TT CF (.join (.ak x)) st Q:=by
 have e:tL st (.own k)=some (fC vs):=by
  show(get k st.own).bind Cont.lO=_
  rw[hs]
  rfl
 exact aO h (aO (by rw[e,Option.bind_some,vG,Option.bind_some,Ur hl]) hQ)
section
variable {n:Nat}{S:PZ}{ev:AV}{c d:Nat}{r:List Nat}
noncomputable abbrev Ba (b:Bool) (m:AV):List (Nat×AV):=[(0,.self),(88,.str [qt b]),(93,.bool b),(94,.own 101),(78,m),(95,.str [qt b])]
theorem Az {done v:List (List Nat)}{S:PZ}{b:Bool}{M:PZ}{Q:AS->Prop}(hlen:(done++v).length<=1000)(hQ:Q ⟨some (S.au ev),Ba b M.bT,[(101,.l (fC (done++v)))]⟩):
  pick ((z9 (fC done++fC v)).bind λl=>setSlot ⟨some (S.au ev),Ba b M.bT,[(101,.l (fC done))]⟩ (.l l) (.own 101)) Q:=by
 rw[<-List.map_append,pK (by rw[List.length_map];exact hlen)]
 exact hQ
theorem Pk {b:Bool}{M:PZ}{Q:PS}:∀{S S':PZ} {vs:List (List Nat)},Lp b S vs S'->∀(done:List (List Nat)),(done++vs).length<=1000->Q .next ⟨some (S'.au ev),Ba b M.bT,[(101,.l (fC (done++vs)))]⟩->
  wp1 TT (CO (n+6)) (.whl (.cmp .ne (.aq 15 [] []) (.ak 95)) [
   .ext (.ak 94) (.aq 97 [(.ak 93),(.ak 78)] []),
   .ext (.ak 94) (.aq 96 [(.ak 93),(.ak 78)] [])]) ⟨some (S.au ev),Ba b M.bT,[(101,.l (fC done))]⟩ Q:=by
 intro S S' vs h done hlen hQ
 intro P hP
 have main:∀{S S':PZ} {vs:List (List Nat)},Lp b S vs S'->∀(done:List (List Nat)),(done++vs).length<=1000->Q .next ⟨some (S'.au ev),Ba b M.bT,[(101,.l (fC (done++vs)))]⟩->P ⟨some (S.au ev),Ba b M.bT,[(101,.l (fC done))]⟩:=by
  intro S S' vs h
  induction h with
  | @stop S r h1=>
   intro done hlen hQ
   refine hP _ ?_
   refine dw h1 ?_
   conv=>whnf
   have e:decide ([qt b]=[qt b])=true:=decide_eq_true rfl
   rw[e]
   rw[List.append_nil]at hQ
   exact hQ
  | @step S S₂ fY S' c r v w vs h1 h2 h3 h4 h5 ih=>
   intro done hlen hQ
   refine hP _ ?_
   refine dw h1 ?_
   conv=>whnf
   have e:decide ([c]=[qt b])=false:=decide_eq_false λe=>h2 (by injection e)
   rw[e]
   have hl:=hlen
   simp only[List.length_append]at hl
   refine aay (n:=n) (vs:=v) h3 (by omega) ?_
   refine Az (done:=done) (v:=v) (by simp only[List.length_append];omega) ?_
   refine aaC (n:=n) (vs:=w) h4 (by omega) ?_
   refine Az (done:=done++v) (v:=w) (by simp only[List.length_append];omega) ?_
   refine ih ((done++v)++w) (by simp only[List.length_append];omega) ?_
   simpa [List.append_assoc]using hQ
 exact main h done hlen hQ
noncomputable def PZ.tok (M E:PZ) (b:Bool) (v:List Nat):AV:=.inst 98 [(117,.str v),(146,.bool false),(78,M.bT),(79,E.bT),(88,.str [qt b])]
theorem acn {S S':PZ}{vs:List (List Nat)}{b:Bool}{Q:AV->Option cF->Prop}(h:Fs b S vs S')(hlen:vs.length<=1000)(hlen2:vs.flatten.length<=100000)(hQ:Q (S.tok S' b vs.flatten) (some (S'.au ev))):
  CO (n+7) 89 [.self,.str [qt b]] (some (S.au ev)) Q:=by
 cases h with
 | @mk S₁ S₂ d d' r r' v vs h1 h2 h3 h4=>
  have tail:wpS TT (CO (n+6)) [.exp (.aq 19 [] []),
    .asg 79 (.aq 21 [] []),
    .ret (.bR 98 [(.join (.ak 94)),(.aA (.bool false)),(.ak 78),(.ak 79),(.ak 88)] [])] ⟨some (S₂.au ev),Ba b S.bT,[(101,.l (fC (v++vs)))]⟩ (bw Q):=by
   refine bH (k:=1) (by rw[h4];simp) ?_
   refine dR ?_
   have fin:wpS TT (CO (n+6)) [.ret (.bR 98 [(.join (.ak 94)),(.aA (.bool false)),(.ak 78),(.ak 79),(.ak 88)] [])] ⟨some ((S₂.aG 1).au ev),[(0,.self),(88,.str [qt b]),(93,.bool b),(94,.own 101),(78,S.bT),(95,.str [qt b]),(79,(S₂.aG 1).bT)],[(101,.l (fC (v++vs)))]⟩ (bw Q):=by
    refine aL (XM (Ln ?_))
    refine Xe (k:=101) rfl rfl hlen2 ?_
    exact hQ
   exact fin
  have loop:=Pk (n:=n) (ev:=ev) (M:=S) (Q:=λo st=>match o with
   | .next=>wpS TT (CO (n+6)) [.exp (.aq 19 [] []),
    .asg 79 (.aq 21 [] []),
    .ret (.bR 98 [(.join (.ak 94)),(.aA (.bool false)),(.ak 78),(.ak 79),(.ak 88)] [])] st (bw Q)
   |o=>bw Q o st) h3 v (by simpa using hlen) tail
  have mid:wpS TT (CO (n+6)) [.asg 78 (.aq 21 [] []),
  .asg 95 (.aq 15 [] []),
  .exp (.aq 19 [] []),
  .ext (.ak 94) (.aq 96 [(.ak 93),(.ak 78)] []),
  .whl (.cmp .ne (.aq 15 [] []) (.ak 95)) [
   .ext (.ak 94) (.aq 97 [(.ak 93),(.ak 78)] []),
   .ext (.ak 94) (.aq 96 [(.ak 93),(.ak 78)] [])],
  .exp (.aq 19 [] []),
  .asg 79 (.aq 21 [] []),
  .ret (.bR 98 [(.join (.ak 94)),(.aA (.bool false)),(.ak 78),(.ak 79),(.ak 88)] [])] ⟨some (S.au ev),[(0,.self),(88,.str [qt b]),(93,.bool b),(94,.own 101)],[(101,.l [])]⟩ (bw Q):=by
   refine dR ?_
   refine dw h1 ?_
   refine bH (k:=1) (by rw[h1];simp) ?_
   have hl:=hlen
   simp only[List.length_append]at hl
   refine aaC (n:=n) (vs:=v) h2 (by omega) ?_
   refine Az (done:=[]) (v:=v) (M:=S) (S:=S₁) (b:=b) (by simpa using Nat.le_trans (Nat.le_add_right _ _) hl) ?_
   exact loop
  cases b with
  |true=>
   refine aH rfl ?_
   exact mid
  |false=>
   refine aH rfl ?_
   exact mid
end
section
variable {n:Nat}{S:PZ}{ev:AV}{c d:Nat}{r:List Nat}{Q:AV->Option cF->Prop}
theorem aaI (h:S.fl≠0)(hQ:Q (.bool true) (some (S.au ev))):CO (n+2) 57 [.self] (some (S.au ev)) Q:=by
 refine aH rfl ?_
 conv=>whnf
 have e:decide (S.fl=0)=false:=decide_eq_false h
 rw[e]
 exact hQ
theorem aaJ (h:S.fl=0)(h1:S.r[1]? =some d)(hQ:Q (.bool (fD d)) (some (S.au ev))):CO (n+2) 57 [.self] (some (S.au ev)) Q:=by
 refine aH rfl ?_
 conv=>whnf
 have e:decide (S.fl=0)=true:=decide_eq_true h
 rw[e]
 refine dD (k:=1) h1 ?_
 exact hQ
noncomputable def plain1 (c:Nat):Bool:= !([0,32,9,13,10,133,8232,8233,45,63,58,44,91,93,123,125,35,38,42,33,124,62,39,34,37,64,96].any (Nat.beq c ·))
theorem aaK (h:S.r=c::r)(h1:plain1 c=true)(hQ:Q (.bool true) (some (S.au ev))):CO (n+2) 61 [.self] (some (S.au ev)) Q:=by
 refine aH rfl ?_
 refine dw h ?_
 conv=>whnf
 have e:[0,32,9,13,10,133,8232,8233,45,63,58,44,91,93,123,125,35,38,42,33,124,62,39,34,37,64,96].any (Nat.beq c ·)=false:=by
  unfold plain1 at h1
  simpa using h1
 rw[e]
 exact hQ
theorem WK {i:Int}(h:¬S.aJ<i)(hQ:Q (.bool false) (some (S.au ev))):CO (n+1) 73 [.self,.int i] (some (S.au ev)) Q:=by
 refine aH rfl ?_
 conv=>whnf
 have e:decide (S.aJ<i)=false:=decide_eq_false h
 rw[e]
 exact hQ
theorem jH {CF:fP}{st:AS}{p:cF}{a:Nat}{v:AV}{Q:PE}(h0:get 0 st.ak=some .self)(hp:st.par=some p)(ha:get a p.at_=some v)(hQ:Q v st):bf TT CF (.bB a) st Q:=aO (pH h0 hp ha) hQ
theorem WD {i:Int}(h:S.aJ<i)(hl:(S.aN++[AV.int S.aJ]).length<=1000)(hQ:Q (.bool true) (some ({S with aN:=S.aN++[AV.int S.aJ],aJ:=i}.au ev))):CO (n+1) 73 [.self,.int i] (some (S.au ev)) Q:=by
 refine aH rfl ?_
 conv=>whnf
 have e:decide (S.aJ<i)=true:=decide_eq_true h
 rw[e]
 refine fX (d:=.bN 1) (v:=.int S.aJ) (xs:=S.aN) (st:=⟨some (S.au ev),[(0,.self),(13,.int i)],[]⟩) (st':=⟨some ({S with aN:=S.aN++[AV.int S.aJ]}.au ev),[(0,.self),(13,.int i)],[]⟩) rfl rfl hl rfl ?_
 exact hQ
theorem DY (h:iJ S.fl S.cg=none)(hQ:Q .none (some (S.au ev))):CO (n+1) 69 [.self] (some (S.au ev)) Q:=by
 refine aH rfl ?_
 have e:mL TT ⟨some (S.au ev),[(0,.self)],[]⟩ .fJ (.int S.fl) (.bN 2)=some false:=by
  show some (iJ S.fl S.cg).isSome=some false
  rw[h];rfl
 have go:zT TT (CO n) (.cmp .fJ (.bB 29) (.bB 36)) ⟨some (S.au ev),[(0,.self)],[]⟩ (λb st=>match b with
   |true=>wpS TT (CO n) [.bad,.bad,.bad] st (λo st=>match o with| .next=>wpS TT (CO n) [] st (bw Q) |o=>bw Q o st)
   |false=>wpS TT (CO n) [] st (λo st=>match o with| .next=>wpS TT (CO n) [] st (bw Q) |o=>bw Q o st)):=by
  refine La (Gx ?_)
  refine jH (v:=.int S.fl) rfl rfl rfl ?_
  refine jH (v:=.bN 2) rfl rfl rfl ?_
  exact aO e hQ
 have:wpS TT (CO n) dU ⟨some (S.au ev),[(0,.self)],[]⟩ (bw Q):=by
  show wpS TT (CO n) [.ite (.cmp .fJ (.bB 29) (.bB 36)) [.bad,.bad,.bad] []] _ _
  exact go
 exact this
end
noncomputable def keyV (tn:Int) (req:Bool) (M:PZ):AV:=.inst 70 [(66,.int tn),(67,.bool req),(11,.int (M.ptr:Nat)),(12,.int M.line),(13,.int M.col),(71,M.bT)]
section
variable {n:Nat}{S:PZ}{ev:AV}{c d:Nat}{r:List Nat}{Q:AV->Option cF->Prop}
theorem K3 {i:Int}(h:S.fl≠0)(hQ:Q .none (some (S.au ev))):CO (n+1) 47 [.self,.int i] (some (S.au ev)) Q:=by
 refine aH rfl ?_
 conv=>whnf
 have e:decide (S.fl=0)=false:=decide_eq_false h
 rw[e]
 exact hQ
theorem K4 {i:Int}(h:S.fl=0)(h1:¬i<S.aJ)(hQ:Q .none (some (S.au ev))):CO (n+1) 47 [.self,.int i] (some (S.au ev)) Q:=by
 refine aH rfl ?_
 conv=>whnf
 have e:decide (S.fl=0)=true:=decide_eq_true h
 rw[e]
 intro P hP
 refine hP _ ?_
 conv=>whnf
 have e:decide (i<S.aJ)=false:=decide_eq_false h1
 rw[e]
 exact hQ
theorem Q7 {st:AS}{k:Nat}{p:cF}{xs:List AV}(hp:st.par=some p)(hs:get k p.sl=some (.l xs)):qO st (.bN k)=some xs:=by
 show((st.par.bind λp=>get k p.sl).bind Cont.lO)=_
 rw[hp]
 show(get k p.sl).bind _=_
 rw[hs]
 rfl
theorem Xd {CF:fP}{st st':AS}{a k:Nat}{p:cF}{xs:List AV}{x:AV}{Q:PE}(h0:get 0 st.ak=some .self)(hp:st.par=some p)(ha:get a p.at_=some (.bN k))(hs:get k p.sl=some (.l xs))(hl:xs.getLast?=some x)(h2:setSlot st (.l xs.dropLast) (.bN k)=some st')(hQ:Q x st'):bf TT CF (.m7 (.bB a)) st Q:=by
 exact aO (pH h0 hp ha) (aO (Q7 hp hs) (aO hl (aO h2 hQ)))
theorem Wu {i j:Int}{xs:List AV}(h:S.fl=0)(h1:i<S.aJ)(hx:S.aN=xs++[.int j])(h2:¬i<j)(hl:(S.ao++[AV.none]).length<=1000)
  (hQ:Q .none (some ({S with aN:=xs,aJ:=j,ao:=S.ao++[AV.inst 72 [(78,S.bT),(79,S.bT)]]}.au ev))):CO (n+2) 47 [.self,.int i] (some (S.au ev)) Q:=by
 refine aH rfl ?_
 conv=>whnf
 have e:decide (S.fl=0)=true:=decide_eq_true h
 rw[e]
 intro P hP
 refine hP _ ?_
 conv=>whnf
 have e:decide (i<S.aJ)=true:=decide_eq_true h1
 rw[e]
 have body:wpS TT (CO (n+1)) [.asg 71 (.aq 21 [] []),
   .bC 33 (.m7 (.bB 34)),
   .app (.bB 30) (.bR 72 [(.ak 71),(.ak 71)] [])] ⟨some (S.au ev),[(0,.self),(13,.int i)],[]⟩ (λo st=>match o with| .next=>P st| .brk=>bw Q .next st| .ret v=>bw Q (.ret v) st):=by
  refine dR ?_
  have b2:wpS TT (CO (n+1)) [.bC 33 (.m7 (.bB 34)),
   .app (.bB 30) (.bR 72 [(.ak 71),(.ak 71)] [])] ⟨some (S.au ev),[(0,.self),(13,.int i),(71,S.bT)],[]⟩ (λo st=>match o with| .next=>P st| .brk=>bw Q .next st| .ret v=>bw Q (.ret v) st):=by
   refine aL (S6 ?_)
   refine Xd (k:=1) (xs:=S.aN) (x:=.int j) rfl rfl rfl rfl (by rw[hx];simp) (st':=⟨some ({S with aN:=xs}.au ev),[(0,.self),(13,.int i),(71,S.bT)],[]⟩) ?_ ?_
   ·have:S.aN.dropLast=xs:=by rw[hx];simp
    rw[this];rfl
   ·have hl2:(S.ao++[AV.inst 72 [(78,S.bT),(79,S.bT)]]).length<=1000:=by simpa using hl
    refine fX (d:=.bN 0) (v:=.inst 72 [(78,S.bT),(79,S.bT)]) (xs:=S.ao) (st:=⟨some ({S with aN:=xs,aJ:=j}.au ev),[(0,.self),(13,.int i),(71,S.bT)],[]⟩) (st':=⟨some ({S with aN:=xs,aJ:=j,ao:=S.ao++[AV.inst 72 [(78,S.bT),(79,S.bT)]]}.au ev),[(0,.self),(13,.int i),(71,S.bT)],[]⟩) rfl rfl hl2 rfl ?_
    refine hP _ ?_
    conv=>whnf
    have e:decide (i<j)=false:=decide_eq_false h2
    rw[e]
    exact hQ
  exact b2
 exact body
theorem QG (h:S.aC=false)(hQ:Q .none (some (S.au ev))):CO (n+2) 68 [.self] (some (S.au ev)) Q:=by
 obtain⟨buf,ptr,line,col,done,fl,ao,aY,aJ,aN,aC,cg,aW,bD,state,tg⟩:=S
 dsimp only at h
 subst h
 refine aH rfl ?_
 conv=>whnf
 cases e:decide (fl=0)
 ·exact hQ
 ·exact hQ
theorem Qu {st st':AS}{d v:AV}{i:Int}{xs:List (Int×AV)}{Q:AS->Prop}(h1:Hy st d=some xs)(h2:v.clo=true)(hl:(mG i v xs).length<=1000)(h3:setSlot st (.d (mG i v xs)) d=some st')(hQ:Q st'):
  pick (Hy st d) λxs=>pick (AV.int i).gK λi=>kI v.clo (pick ((z9 (mG i v xs)).bind λl=>setSlot st (.d l) d) Q):=aO h1 (aO rfl (dg h2 (aO ((pK hl).symm▸h3) hQ)))
theorem HY (i:Int)(v w:AV)(xs:List (Int×AV)):(mG i v xs).length=(mG i w xs).length:=by
 induction xs with
 |nil=>rfl
 |cons p r ih=>
  unfold mG
  cases decide (p.1=i)
  ·exact congrArg (· +1) ih
  ·rfl
theorem QF (h:S.aC=true)(hg:iJ S.fl S.cg=none)(hl:(mG S.fl AV.none S.cg).length<=1000)
  (hQ:Q .none (some ({S with cg:=mG S.fl (keyV (S.aY+(S.ao.length:Nat)) (decide (S.fl=0)&&decide (S.aJ=S.col)) S) S.cg}.au ev))):CO (n+2) 68 [.self] (some (S.au ev)) Q:=by
 refine aH rfl ?_
 have go:∀b:Bool,b=(decide (S.fl=0)&&decide (S.aJ=S.col))->wpS TT (CO (n+1)) [
  .ite (.bB 35) [
   .exp (.aq 69 [] []),
   .asg 66 (.bin .add (.bB 32) (.len (.bB 30))),
   .asg 65 (.bR 70 [(.ak 66),(.ak 67),(.bB 11),(.bB 12),(.bB 13),(.aq 21 [] [])] []),
   .w5 36 (.bB 29) (.ak 65)] []] ⟨some (S.au ev),[(0,.self),(67,.bool b)],[]⟩ (bw Q):=by
  rintro b rfl
  obtain⟨buf,ptr,line,col,done,fl,ao,aY,aJ,aN,aC,cg,aW,bD,state,tg⟩:=S
  dsimp only at h hg hl hQ
  subst h
  refine DY hg ?_
  refine dR ?_
  let S':PZ:=⟨buf,ptr,line,col,done,fl,ao,aY,aJ,aN,true,cg,aW,bD,state,tg⟩
  let b:=(decide (fl=0)&&decide (aJ=col))
  let kv:=keyV (aY+(ao.length:Nat)) b S'
  refine Qu (d:=.bN 2) (v:=kv) (i:=fl) (xs:=cg) (st:=⟨some (S'.au ev),[(0,.self),(67,.bool b),(66,.int (aY+(ao.length:Nat))),(65,kv)],[]⟩)
   (st':=⟨some ({S' with cg:=mG fl kv cg}.au ev),[(0,.self),(67,.bool b),(66,.int (aY+(ao.length:Nat))),(65,kv)],[]⟩) rfl rfl (by rw[HY _ _ .none];exact hl) rfl ?_
  exact hQ
 conv=>whnf
 cases e:decide (S.fl=0)
 ·exact go false (by rw[e];rfl)
 ·conv=>whnf
  exact go (decide (S.aJ=S.col)) (by rw[e];rfl)
end
section
variable {n:Nat}{S M M':PZ}{ev:AV}{Q:AV->Option cF->Prop}{l tn Gl:Int}{rq Nr:Bool}
theorem aax (h:S.cg=[])(hQ:Q .none (some (S.au ev))):CO (n+1) 44 [.self] (some (S.au ev)) Q:=by
 obtain⟨buf,ptr,line,col,done,fl,ao,aY,aJ,aN,aC,cg,aW,bD,state,tg⟩:=S
 dsimp only at h
 subst h
 refine aH rfl ?_
 exact hQ
theorem Wx (h:S.cg=[(0,keyV tn rq M)])(h1:M.line=S.line)(h2:S.ptr<=M.ptr+1024)(hQ:Q .none (some (S.au ev))):CO (n+1) 44 [.self] (some (S.au ev)) Q:=by
 obtain⟨buf,ptr,line,col,done,fl,ao,aY,aJ,aN,aC,cg,aW,bD,state,tg⟩:=S
 dsimp only at h h1 h2
 subst h
 subst h1
 refine aH rfl ?_
 refine⟨rfl,?_⟩
 conv=>whnf
 have e:decide (M.line=M.line)=true:=decide_eq_true rfl
 rw[e]
 conv=>whnf
 have e:decide ((1024:Int)<(ptr:Int) - (M.ptr:Int))=false:=decide_eq_false (by omega)
 rw[e]
 exact hQ
theorem QD (h:S.cg=[(1,keyV tn rq M)])(h1:M.line=S.line)(h2:S.ptr<=M.ptr+1024)(hQ:Q .none (some (S.au ev))):CO (n+1) 44 [.self] (some (S.au ev)) Q:=by
 obtain⟨buf,ptr,line,col,done,fl,ao,aY,aJ,aN,aC,cg,aW,bD,state,tg⟩:=S
 dsimp only at h h1 h2
 subst h
 subst h1
 refine aH rfl ?_
 refine⟨rfl,?_⟩
 conv=>whnf
 have e:decide (M.line=M.line)=true:=decide_eq_true rfl
 rw[e]
 conv=>whnf
 have e:decide ((1024:Int)<(ptr:Int) - (M.ptr:Int))=false:=decide_eq_false (by omega)
 rw[e]
 exact hQ
theorem Wy (h:S.cg=[(0,keyV tn false M)])(h1:M.line≠S.line)(hQ:Q .none (some ({S with cg:=[]}.au ev))):CO (n+1) 44 [.self] (some (S.au ev)) Q:=by
 obtain⟨buf,ptr,line,col,done,fl,ao,aY,aJ,aN,aC,cg,aW,bD,state,tg⟩:=S
 dsimp only at h h1
 subst h
 refine aH rfl ?_
 refine⟨rfl,?_⟩
 conv=>whnf
 have e:decide (M.line=line)=false:=decide_eq_false h1
 rw[e]
 exact hQ
theorem Wv (h:S.cg=[(0,keyV tn rq M),(1,keyV Gl Nr M')])(h1:M.line=S.line)(h2:S.ptr<=M.ptr+1024)(h1':M'.line=S.line)(h2':S.ptr<=M'.ptr+1024)(hQ:Q .none (some (S.au ev))):CO (n+1) 44 [.self] (some (S.au ev)) Q:=by
 obtain⟨buf,ptr,line,col,done,fl,ao,aY,aJ,aN,aC,cg,aW,bD,state,tg⟩:=S
 dsimp only at h h1 h2 h1' h2'
 subst h
 refine aH rfl ?_
 refine⟨rfl,?_⟩
 conv=>whnf
 have e:decide (M.line=line)=true:=decide_eq_true h1
 rw[e]
 conv=>whnf
 have e:decide ((1024:Int)<(ptr:Int) - (M.ptr:Int))=false:=decide_eq_false (by omega)
 rw[e]
 refine⟨rfl,?_⟩
 conv=>whnf
 have e:decide (M'.line=line)=true:=decide_eq_true h1'
 rw[e]
 conv=>whnf
 have e:decide ((1024:Int)<(ptr:Int) - (M'.ptr:Int))=false:=decide_eq_false (by omega)
 rw[e]
 exact hQ
theorem Ww (h:S.cg=[(0,keyV tn false M),(1,keyV Gl Nr M')])(h1:M.line≠S.line)(h1':M'.line=S.line)(h2':S.ptr<=M'.ptr+1024)(hQ:Q .none (some ({S with cg:=[(1,keyV Gl Nr M')]}.au ev))):CO (n+1) 44 [.self] (some (S.au ev)) Q:=by
 obtain⟨buf,ptr,line,col,done,fl,ao,aY,aJ,aN,aC,cg,aW,bD,state,tg⟩:=S
 dsimp only at h h1 h1' h2'
 subst h
 refine aH rfl ?_
 refine⟨rfl,?_⟩
 conv=>whnf
 have e:decide (M.line=line)=false:=decide_eq_false h1
 rw[e]
 refine⟨rfl,?_⟩
 conv=>whnf
 have e:decide (M'.line=line)=true:=decide_eq_true h1'
 rw[e]
 conv=>whnf
 have e:decide ((1024:Int)<(ptr:Int) - (M'.ptr:Int))=false:=decide_eq_false (by omega)
 rw[e]
 exact hQ
theorem aaB (h:S.cg=[])(hQ:Q .none (some (S.au ev))):CO (n+1) 45 [.self] (some (S.au ev)) Q:=by
 obtain⟨buf,ptr,line,col,done,fl,ao,aY,aJ,aN,aC,cg,aW,bD,state,tg⟩:=S
 dsimp only at h
 subst h
 refine aH rfl ?_
 exact hQ
theorem aaA (h:S.cg=[(0,keyV tn rq M)])(hQ:Q (.int tn) (some (S.au ev))):CO (n+1) 45 [.self] (some (S.au ev)) Q:=by
 obtain⟨buf,ptr,line,col,done,fl,ao,aY,aJ,aN,aC,cg,aW,bD,state,tg⟩:=S
 dsimp only at h
 subst h
 refine aH rfl ?_
 refine⟨rfl,?_⟩
 exact hQ
theorem Wz (h:S.cg=[(1,keyV tn rq M)])(hQ:Q (.int tn) (some (S.au ev))):CO (n+1) 45 [.self] (some (S.au ev)) Q:=by
 obtain⟨buf,ptr,line,col,done,fl,ao,aY,aJ,aN,aC,cg,aW,bD,state,tg⟩:=S
 dsimp only at h
 subst h
 refine aH rfl ?_
 refine⟨rfl,?_⟩
 exact hQ
theorem aaz (h:S.cg=[(0,keyV tn rq M),(1,keyV Gl Nr M')])(h1:tn<Gl)(hQ:Q (.int tn) (some (S.au ev))):CO (n+1) 45 [.self] (some (S.au ev)) Q:=by
 obtain⟨buf,ptr,line,col,done,fl,ao,aY,aJ,aN,aC,cg,aW,bD,state,tg⟩:=S
 dsimp only at h
 subst h
 refine aH rfl ?_
 refine⟨rfl,?_⟩
 refine⟨rfl,?_⟩
 conv=>whnf
 have e:decide (Gl<tn)=false:=decide_eq_false (by omega)
 rw[e]
 exact hQ
end
noncomputable def PZ.wg (S:PZ) (ev:AV):cF:=⟨[(2,Xk),(3,.none),(4,.int 0),(5,.bool true),(6,.str S.buf),(7,.int (S.ptr:Nat)),(8,.none),(9,.none),(10,.none),(11,.int (S.ptr:Nat)),(12,.int S.line),(13,.int S.col),
  (28,.bool S.done),(29,.int S.fl),(30,.bN 0),(32,.int S.aY),(33,.int S.aJ),(34,.bN 1),(35,.bool S.aC),(36,.bN 3),(108,ev),(109,.none),(110,S.tg),(111,.bN 5),(112,.bN 6),(113,S.state)],
 [(3,.d []),(6,.l S.bD),(5,.l S.aW),(4,.d []),(2,.d S.cg),(1,.l S.aN),(0,.l S.ao)]⟩
noncomputable def PZ.pb (S:PZ):Bool->AV->cF
 |false,ev=>S.au ev
 |true,ev=>S.wg ev
structure PP where
 aW:List AV
 bD:List AV
 state:AV
 tg:AV
noncomputable def PZ.w (S:PZ) (p:PP):PZ:={S with aW:=p.aW,bD:=p.bD,state:=p.state,tg:=p.tg}
noncomputable def NM (S S':PZ) (v:AV):Prop:=∀(n:Nat) (p:PP) (ev:AV) (Q:AV->Option cF->Prop),Q v (some ((S'.w p).au ev))->CO (n+4) 38 [.self] (some ((S.w p).au ev)) Q
noncomputable def Fetch (S:PZ) (b:Bool) (S':PZ):Prop:=∀(n:Nat) (p:PP) (ev:AV) (Q:AV->Option cF->Prop),(∀v,Q v (some ((S'.w p).pb b ev)))->CO (n+20) 39 [.self] (some ((S.w p).au ev)) Q
noncomputable def PZ.pop (S:PZ) (q:List AV):PZ:={S with ao:=q,aY:=S.aY+1}
inductive Del:Bool->PZ->List AV->Prop
 |fin {S:PZ} {ts:List AV}:S.done=true->S.ao=ts->Del true S ts
 |more {S S₁ S₂:PZ} {b:Bool} {ts:List AV}:NM S S₁ (.bool true)->Fetch S₁ b S₂->Del b S₂ ts->Del false S ts
 |hold {S S₁:PZ} {t:AV} {q ts:List AV}:NM S S₁ .none->NM S₁ S₁ .none->S₁.ao=t::q->Del false (S₁.pop q) ts->Del false S (t::ts)
inductive Hd:Bool->PZ->AV->List AV->Prop
 |fin {S:PZ} {t:AV} {q:List AV}:S.done=true->S.ao=t::q->Hd true S t q
 |hold {S:PZ} {t:AV} {q ts:List AV}:NM S S .none->S.ao=t::q->Del false (S.pop q) ts->Hd false S t ts
theorem Hd.del {b:Bool}{S:PZ}{t:AV}{ts:List AV}(h:Hd b S t ts):Del b S (t::ts):=by
 cases h with
 |fin h1 h2=>exact .fin h1 h2
 |hold h1 h2 h3=>exact .hold h1 h1 h2 h3
noncomputable def Wt (b:Bool) (S:PZ) (b':Bool) (S':PZ):Prop:=∀(n:Nat) (p:PP) (ev:AV) (lo:List (Nat×AV)) (Q:PS),Q .next ⟨some ((S'.w p).pb b' ev),(0,.self)::lo,[]⟩->
 wp1 TT (CO (n+20)) (.whl (.aq 38 [] []) [.exp (.aq 39 [] [])]) ⟨some ((S.w p).pb b ev),(0,.self)::lo,[]⟩ Q
section
variable {n:Nat}{S:PZ}{b:Bool}{ev t:AV}{ts:List AV}{p:PP}{Q:AV->Option cF->Prop}
theorem Sv (h:S.done=true)(hQ:Q (.bool false) (some ((S.w p).wg ev))):CO (n+1) 38 [.self] (some ((S.w p).wg ev)) Q:=by
 obtain⟨buf,ptr,line,col,done,fl,ao,aY,aJ,aN,aC,cg,aW,bD,state,tg⟩:=S
 dsimp only at h
 subst h
 refine aH rfl ?_
 exact hQ
theorem QX (h:Del b S ts):∀{t ts'},ts=t::ts'->∃b' S',Hd b' S' t ts'/\Wt b S b' S':=by
 induction h with
 | @fin S ts h1 h2=>
  rintro t ts' rfl
  refine⟨true,S,.fin h1 h2,?_⟩
  intro n p ev lo Q hQ
  unfold PZ.pb at hQ⊢
  intro P hP
  refine hP _ ?_
  refine Sv h1 ?_
  exact hQ
 | @more S S₁ S₂ b ts h1 h2 h3 ih=>
  rintro t ts' rfl
  obtain⟨b',S',hh,hl⟩:=ih rfl
  refine⟨b',S',hh,?_⟩
  intro n p ev lo Q hQ
  intro P hP
  refine hP _ ?_
  refine h1 _ _ _ _ ?_
  refine h2 _ _ _ _ λv=>?_
  exact hl n p ev lo Q hQ P hP
 | @hold S S₁ t q ts h1 h2 h3 h4 ih=>
  rintro t ts' heq
  injection heq with e1 e2
  subst e1 e2
  refine⟨false,S₁,.hold h2 h3 h4,?_⟩
  intro n p ev lo Q hQ
  intro P hP
  refine hP _ ?_
  refine h1 _ _ _ _ ?_
  exact hQ
theorem abJ {α:Type}(x:α)(q:List α):((eN 0 (x::q).length).bind λk=>nth k (x::q))=some x:=by
 unfold eN
 rw[Bo (by omega),Bo (by simp only[List.length_cons];omega)]
 rfl
noncomputable def fj (t:AV) (id:List Nat):Prop:=∃c fs i,t= .inst c fs/\TT.CT c=some i/\get 41 fs=none/\get 41 i.cat=some (.str id)
theorem Zu {st:AS}{q:List AV}{pr:cF}{t:AV}(hp:st.par=some pr)(hs:get 0 pr.sl=some (.l (t::q))):idxV TT st (.bN 0) (.int 0)=some t:=by
 show pJ (pJ ((qO st (.bN 0)).bind λxs=>(eN 0 xs.length).bind λk=>nth k xs) _) _=_
 rw[Q7 hp hs,Option.bind_some,abJ]
 rfl
theorem SN {CF:fP}{st:AS}{Q:PE}{q:List AV}{pr:cF}(h0:get 0 st.ak=some .self)(hp:st.par=some pr)(ha:get 30 pr.at_=some (.bN 0))(hs:get 0 pr.sl=some (.l (t::q)))(hQ:Q t st):
  bf TT CF (.idx (.bB 30) (.aA (.int 0))) st Q:=aO (pH h0 hp ha) (aO (Zu hp hs) hQ)
theorem acz {CF:fP}{st:AS}{Q:PE}{q:List AV}{id:List Nat}{pr:cF}(ht:fj t id)(h0:get 0 st.ak=some .self)(hp:st.par=some pr)(ha:get 30 pr.at_=some (.bN 0))(hs:get 0 pr.sl=some (.l (t::q)))(hQ:Q (.str id) st):
  bf TT CF (.fld (.idx (.bB 30) (.aA (.int 0))) 41) st Q:=by
 obtain⟨c,fs,i,rfl,h1,h2,h3⟩:=ht
 refine SN h0 hp ha hs (aO ?_ hQ)
 show(TT.CT c).bind (λi=>match get 41 fs with|some v=>(get 41 i.fs).map λ_=>v|none=>get 41 i.cat)=_
 rw[h1,h2]
 exact h3
theorem Hd.toks {b:Bool}{S:PZ}{t:AV}{ts:List AV}(h:Hd b S t ts):∃q,S.ao=t::q:=by
 cases h with
 |fin h1 h2=>exact⟨_,h2⟩
 |hold h1 h2 h3=>exact⟨_,h2⟩
theorem Tv {CF:fP}{pr:cF}{c0:AV}{cs:List AV}{R:PS}(h:R .next ⟨some pr,[(0,.self),(40,.tup (c0::cs))],[]⟩):wp1 TT CF (.ite (.not_ (.ak 40)) [.bad] []) ⟨some pr,[(0,.self),(40,.tup (c0::cs))],[]⟩ R:=by
 exact h
theorem BZ {st:AS}{pr:cF}{k:Nat}{q:List AV}(hp:st.par=some pr)(hs:get k pr.sl=some (.l (t::q))):truth st (.bN k)=some true:=by
 show((st.par.bind λp=>get k p.sl).bind Cont.ne)=_
 rw[hp]
 show(get k pr.sl).bind _=_
 rw[hs]
 rfl
theorem Nx:get 30 (S.pb b ev).at_=some (.bN 0):=by cases b<;>rfl
theorem pb0:get 0 (S.pb b ev).sl=some (.l S.ao):=by cases b<;>rfl
theorem aco {cs:List AV}{c0:AV}{id:List Nat}{r:Bool}(h:Del b S (t::ts))(hi:fj t id)(hr:mL TT ⟨none,[],[]⟩ .fJ (.str id) (.tup (c0::cs))=some r)
  (hQ:∀b' S',Hd b' S' t ts->Q (.bool r) (some ((S'.w p).pb b' ev))):CO (n+21) 37 [.self,.tup (c0::cs)] (some ((S.w p).pb b ev)) Q:=by
 obtain⟨b',S',hh,hl⟩:=QX h rfl
 have hq:=hQ b' S' hh
 obtain⟨q,hq'⟩:=hh.toks
 refine aH rfl ?_
 have tail:wpS TT (CO (n+20)) [.ite (.bB 30) [
   .ite (.not_ (.ak 40)) [
    .bad] [],
   .ite (.cmp .fJ (.fld (.idx (.bB 30) (.aA (.int 0))) 41) (.ak 40)) [
    .ret (.aA (.bool true))] []] [],
  .ret (.aA (.bool false))] ⟨some ((S'.w p).pb b' ev),[(0,.self),(40,.tup (c0::cs))],[]⟩ (bw Q):=by
  have hr':∀st,mL TT st .fJ (.str id) (.tup (c0::cs))=some r:=by
   intro st
   revert hr
   rcases id with _|⟨a,_|⟨b,r⟩⟩<;>exact λh=>h
  have h0:get 0 ((S'.w p).pb b' ev).sl=some (.l (t::q)):=by rw[pb0];exact congrArg (some∘Cont.l) hq'
  refine aL (qe (La ?_))
  refine jH rfl rfl Nx ?_
  rw[BZ rfl h0]
  refine Tv ?_
  refine aL (qe (La (Gx ?_)))
  refine acz hi rfl rfl Nx h0 ?_
  refine aO rfl (aO (hr' _) ?_)
  cases r
  ·exact hq
  ·exact hq
 have all:wpS TT (CO (n+20)) jt ⟨some ((S.w p).pb b ev),[(0,.self),(40,.tup (c0::cs))],[]⟩ (bw Q):=by
  unfold jt
  refine hl n p ev _ _ ?_
  exact tail
 exact all
theorem acj {id:List Nat}(h:Del b S (t::ts))(hi:fj t id)
  (hQ:∀b' S',Hd b' S' t ts->Q t (some ((S'.w p).pb b' ev))):CO (n+21) 42 [.self] (some ((S.w p).pb b ev)) Q:=by
 obtain⟨b',S',hh,hl⟩:=QX h rfl
 have hq:=hQ b' S' hh
 obtain⟨q,hq'⟩:=hh.toks
 refine aH rfl ?_
 have tail:wpS TT (CO (n+20)) [.ite (.bB 30) [
   .ret (.idx (.bB 30) (.aA (.int 0)))] [
   .bad]] ⟨some ((S'.w p).pb b' ev),[(0,.self)],[]⟩ (bw Q):=by
  have h0:get 0 ((S'.w p).pb b' ev).sl=some (.l (t::q)):=by rw[pb0];exact congrArg (some∘Cont.l) hq'
  refine aL (qe (La ?_))
  refine jH rfl rfl Nx ?_
  rw[BZ rfl h0]
  refine aL ?_
  refine SN rfl rfl Nx h0 ?_
  obtain⟨c,fs,i,rfl,_⟩:=hi
  exact hq
 have all:wpS TT (CO (n+20)) jW ⟨some ((S.w p).pb b ev),[(0,.self)],[]⟩ (bw Q):=by
  unfold jW
  refine hl n p ev _ _ ?_
  exact tail
 exact all
theorem aaH {id:List Nat}(h:Hd b S t ts)(hi:fj t id)
  (hQ:∀b' S',Del b' S' ts->Q t (some ((S'.w p).pb b' ev))):CO (n+21) 43 [.self] (some ((S.w p).pb b ev)) Q:=by
 have hq:∃q,S.ao=t::q/\Q t (some (((S.pop q).w p).pb b ev))/\(∀(R:AV->Option cF->Prop),(∀v,(v= .bool false∨v= .none)->R v (some ((S.w p).pb b ev)))->CO (n+20) 38 [.self] (some ((S.w p).pb b ev)) R):=by
  cases h with
  | @fin _ _ q h1 h2=>
   refine⟨_,h2,hQ _ _ (.fin h1 rfl),?_⟩
   intro R hR
   exact Sv h1 (hR _ (.inl rfl))
  | @hold _ _ q _ h1 h2 h3=>
   refine⟨_,h2,hQ _ _ h3,?_⟩
   intro R hR
   exact h1 _ _ _ _ (hR _ (.inr rfl))
 obtain⟨q,h1,h2,h3⟩:=hq
 obtain⟨c,fs,i,rfl,_⟩:=hi
 refine aH rfl ?_
 have tail:wpS TT (CO (n+20)) [.ite (.bB 30) [
   .gG 32 .add (.aA (.int 1)),
   .ret (.sW (.bB 30))] []] ⟨some ((S.w p).pb b ev),[(0,.self)],[]⟩ (bw Q):=by
  obtain⟨buf,ptr,line,col,done,fl,ao,aY,aJ,aN,aC,cg,aW,bD,state,tg⟩:=S
  dsimp only at h1
  subst h1
  cases b
  ·exact h2
  ·exact h2
 have all:wpS TT (CO (n+20)) lK ⟨some ((S.w p).pb b ev),[(0,.self)],[]⟩ (bw Q):=by
  unfold lK
  intro P hP
  refine hP _ ?_
  have goo:noAttr ⟨some ((S.w p).pb b ev),[(0,.self)],[]⟩ 38=true:=by cases b<;>rfl
  dsimp only
  refine dg goo ?_
  refine h3 _ λv hv=>?_
  rcases hv with rfl|rfl
  ·exact tail
  ·exact tail
 exact all
end
noncomputable abbrev tk (c:Nat) (M M':PZ):AV:=.inst c [(78,M.bT),(79,M'.bT)]
noncomputable def xR:Option (List Nat)->AV
 |none=>.none
 |some s=>.str s
noncomputable abbrev sc (v:List Nat) (pl:Bool) (M M':PZ) (sty:Option (List Nat)):AV:=.inst 98 [(117,.str v),(146,.bool pl),(78,M.bT),(79,M'.bT),(88,xR sty)]
noncomputable abbrev J5 (v:List Nat) (pl:Bool) (m m':AV) (sty:Option (List Nat)):AV:=.inst 147 [(139,.none),(140,.none),(144,.tup [.bool pl,.bool (!pl)]),(117,.str v),(78,m),(79,m'),(88,xR sty)]
noncomputable abbrev Xu (f:Bool) (m m':AV):AV:=.inst 149 [(139,.none),(140,.none),(144,.bool true),(78,m),(79,m'),(150,.bool f)]
theorem na {f:Nat}(hf:∀(S:PZ) (b:Bool) (ev:AV),get f (S.pb b ev).at_=none){st:AS}{S:PZ}{b:Bool}{ev:AV}(h0:get 0 st.ak=some .self)(hp:st.par=some (S.pb b ev)):noAttr st f=true:=by
 unfold noAttr qw nP
 rw[h0]
 show(match st.par with|some p=>(match get f p.at_ with|some _=>false|none=>true) |none=>false)=true
 rw[hp]
 show(match get f (S.pb b ev).at_ with|some _=>false|none=>true)=true
 rw[hf]
theorem abu (S:PZ)(b:Bool)(ev:AV):get 37 (S.pb b ev).at_=none:=by cases b<;>rfl
theorem abt (S:PZ)(b:Bool)(ev:AV):get 42 (S.pb b ev).at_=none:=by cases b<;>rfl
theorem Y6 (S:PZ)(b:Bool)(ev:AV):get 43 (S.pb b ev).at_=none:=by cases b<;>rfl
theorem CZ (S:PZ)(b:Bool)(ev:AV):get 133 (S.pb b ev).at_=none:=by cases b<;>rfl
theorem qQ {v:List Nat}{pl:Bool}{M M':PZ}{sty:Option (List Nat)}:fj (sc v pl M M' sty) [60,115,99,97,108,97,114,62]:=⟨_,_,_,rfl,rfl,rfl,rfl⟩
noncomputable abbrev KK (b:Bool) (S:PZ) (p:PP) (ev:AV) (lo:List (Nat×AV)):AS:=⟨some ((S.w p).pb b ev),(0,.self)::lo,[]⟩
noncomputable abbrev u0 (CF:fP) (r:List IS) (Q:PS):PS:=λo st=>match o with| .next=>wpS TT CF r st Q|o=>Q o st
section
variable {CF:fP}{st st':AS}{Q:PS}{r A B:List IS}{s s1 s2 s3 s4 s5 s6:IS}
theorem fH (h:∀R:PS,R .next st'->wp1 TT CF s st R)(hB:wpS TT CF r st' Q):wpS TT CF (s::r) st Q:=aL (h _ hB)
theorem TQ (A:List IS)(h:∀R:PS,R .next st'->wpS TT CF A st R)(hB:wpS TT CF r st' Q):wpS TT CF (A++r) st Q:=by
 rw[gY]
 exact h _ hB
theorem xX (h:∀R:PS,R .next st'->wpS TT CF [s,s1] st R)(hB:wpS TT CF r st' Q):wpS TT CF (s::s1::r) st Q:=TQ [s,s1] h hB
theorem zZ (h:∀R:PS,R .next st'->wpS TT CF [s,s1,s2] st R)(hB:wpS TT CF r st' Q):wpS TT CF (s::s1::s2::r) st Q:=TQ [s,s1,s2] h hB
theorem aa' (h:∀R:PS,R .next st'->wpS TT CF [s,s1,s2,s3] st R)(hB:wpS TT CF r st' Q):wpS TT CF (s::s1::s2::s3::r) st Q:=TQ [s,s1,s2,s3] h hB
end
section
variable {n:Nat}{S:PZ}{b:Bool}{ev t:AV}{ts:List AV}{p:PP}{lo:List (Nat×AV)}{R:PE}{Q:PS}{r A B:List IS}{id:List Nat}
noncomputable def d9 (es:List IE) (c0:AV) (cs:List AV):Prop:=∀(CF:fP) (st:AS) (R:PE),R (.tup (c0::cs)) st->bf TT CF (.tup es) st R
theorem Qy {es:List IE}{c0:AV}{cs:List AV}{x:Bool}(hes:d9 es c0 cs)(h:Del b S (t::ts))(hi:fj t id)(hr:mL TT ⟨none,[],[]⟩ .fJ (.str id) (.tup (c0::cs))=some x)
  (hQ:∀b' S',Hd b' S' t ts->R (.bool x) (KK b' S' p ev lo)):bf TT (CO (n+21)) (.aq 37 [.tup es] []) (KK b S p ev lo) R:=by
 refine dg (na abu rfl rfl) ?_
 refine hes _ _ _ ?_
 have:gW TT (CO (n+21)) 37 [.self,.tup (c0::cs)] [] (KK b S p ev lo) R:=by
  exact aco h hi hr hQ
 exact this
theorem gR {es:List IE}{c0:AV}{cs:List AV}{x:Bool}(hes:d9 es c0 cs)(h:Del b S (t::ts))(hi:fj t id)(hr:mL TT ⟨none,[],[]⟩ .fJ (.str id) (.tup (c0::cs))=some x)
  (hQ:∀b' S',Hd b' S' t ts->wpS TT (CO (n+21)) (bif x then A else B) (KK b' S' p ev lo) (u0 (CO (n+21)) r Q)):wpS TT (CO (n+21)) (.ite (.aq 37 [.tup es] []) A B::r) (KK b S p ev lo) Q:=by
 refine aL (qe (La ?_))
 refine Qy hes h hi hr λb' S' hh=>?_
 have:=hQ b' S' hh
 cases x<;>exact this
theorem ji {es:List IE}{c0:AV}{cs:List AV}{x:Bool}(hes:d9 es c0 cs)(h:Del b S (t::ts))(hi:fj t id)(hr:mL TT ⟨none,[],[]⟩ .fJ (.str id) (.tup (c0::cs))=some x)
  (hQ:∀b' S',Hd b' S' t ts->wpS TT (CO (n+21)) (bif x then B else A) (KK b' S' p ev lo) (u0 (CO (n+21)) r Q)):wpS TT (CO (n+21)) (.ite (.not_ (.aq 37 [.tup es] [])) A B::r) (KK b S p ev lo) Q:=by
 refine aL (qe (La (XQ ?_)))
 refine Qy hes h hi hr λb' S' hh=>?_
 have:=hQ b' S' hh
 cases x<;>exact this
theorem zL {es:List IE}{c0:AV}{cs:List AV}{x y:Bool}{k:Nat}(hk:get k ((0,.self)::lo)=some (.bool y))(hes:d9 es c0 cs)(h:Del b S (t::ts))(hi:fj t id)(hr:mL TT ⟨none,[],[]⟩ .fJ (.str id) (.tup (c0::cs))=some x)
  (hQ:∀b' S',Del b' S' (t::ts)->wpS TT (CO (n+21)) (bif y&&x then A else B) (KK b' S' p ev lo) (u0 (CO (n+21)) r Q)):wpS TT (CO (n+21)) (.ite (.and_ [.ak k,.aq 37 [.tup es] []]) A B::r) (KK b S p ev lo) Q:=by
 refine aL (aO hk ?_)
 cases y
 ·exact hQ b S h
 ·show Gu TT _ true _ _ _
  refine Qy hes h hi hr λb' S' hh=>?_
  have:=hQ b' S' hh.del
  cases x<;>exact this
theorem pZ {k:Nat}{lo':List (Nat×AV)}(h:Hd b S t ts)(hi:fj t id)(hl:put k t ((0,.self)::lo)=(0,.self)::lo')(hQ:∀b' S',Del b' S' ts->wpS TT (CO (n+21)) r (KK b' S' p ev lo') Q):
  wpS TT (CO (n+21)) (.asg k (.aq 43 [] [])::r) (KK b S p ev lo) Q:=by
 refine aL ?_
 refine dg (na Y6 rfl rfl) ?_
 have:gW TT (CO (n+21)) 43 [.self] [] (KK b S p ev lo) (λv st=>u0 (CO (n+21)) r Q .next (aK st k v)):=by
  refine aaH h hi λb' S' hh=>?_
  have:=hQ b' S' hh
  unfold aK
  dsimp only
  rw[hl]
  exact this
 exact this
theorem Sd (h:Hd b S t ts)(hi:fj t id)(hQ:∀b' S',Del b' S' ts->wpS TT (CO (n+21)) r (KK b' S' p ev lo) Q):
  wpS TT (CO (n+21)) (.exp (.aq 43 [] [])::r) (KK b S p ev lo) Q:=by
 refine aL ?_
 refine dg (na Y6 rfl rfl) ?_
 have:gW TT (CO (n+21)) 43 [.self] [] (KK b S p ev lo) (λv st=>u0 (CO (n+21)) r Q .next st):=by
  exact aaH h hi hQ
 exact this
theorem Gg {R:PE}(h:Del b S (t::ts))(hi:fj t id)(hQ:∀b' S',Hd b' S' t ts->R t (KK b' S' p ev lo)):bf TT (CO (n+21)) (.aq 42 [] []) (KK b S p ev lo) R:=by
 refine dg (na abt rfl rfl) ?_
 have:gW TT (CO (n+21)) 42 [.self] [] (KK b S p ev lo) R:=by
  exact acj h hi hQ
 exact this
end
theorem Al:d9 [.ccl 138 41] (.str [60,97,108,105,97,115,62]) []:=λCF st R h=>by
 exact h
theorem Ak:d9 [.ccl 142 41] (.str [60,97,110,99,104,111,114,62]) []:=λCF st R h=>by
 exact h
theorem Aj:d9 [.ccl 143 41] (.str [60,116,97,103,62]) []:=λCF st R h=>by
 exact h
theorem Ai:d9 [.ccl 145 41] (.str [45]) []:=λCF st R h=>by
 exact h
theorem Jl:d9 [.ccl 98 41] (.str [60,115,99,97,108,97,114,62]) []:=λCF st R h=>by
 exact h
theorem Jo:d9 [.ccl 148 41] (.str [91]) []:=λCF st R h=>by
 exact h
theorem Ry:d9 [.ccl 77 41] (.str [123]) []:=λCF st R h=>by
 exact h
theorem Vl:d9 [.ccl 152 41] (.str [60,98,108,111,99,107,32,115,101,113,117,101,110,99,101,32,115,116,97,114,116,62]) []:=λCF st R h=>by
 exact h
theorem Zv:d9 [.ccl 85 41] (.str [60,98,108,111,99,107,32,109,97,112,112,105,110,103,32,115,116,97,114,116,62]) []:=λCF st R h=>by
 exact h
theorem yM:d9 [.ccl 84 41] (.str [63]) []:=λCF st R h=>by
 exact h
theorem Rw:d9 [.ccl 86 41] (.str [58]) []:=λCF st R h=>by
 exact h
theorem Zx:d9 [.ccl 72 41] (.str [60,98,108,111,99,107,32,101,110,100,62]) []:=λCF st R h=>by
 exact h
theorem yN:d9 [.ccl 82 41] (.str [125]) []:=λCF st R h=>by
 exact h
theorem Rx:d9 [.ccl 83 41] (.str [44]) []:=λCF st R h=>by
 exact h
theorem Zw:d9 [.ccl 75 41] (.str [60,115,116,114,101,97,109,32,101,110,100,62]) []:=λCF st R h=>by
 exact h
theorem Jp:d9 [.ccl 130 41] (.str [60,100,111,99,117,109,101,110,116,32,101,110,100,62]) []:=λCF st R h=>by
 exact h
theorem qD:d9 [.ccl 84 41,.ccl 86 41,.ccl 72 41] (.str [63]) [(.str [58]),(.str [60,98,108,111,99,107,32,101,110,100,62])]:=λCF st R h=>by
 exact h
theorem qC:d9 [.ccl 86 41,.ccl 83 41,.ccl 82 41] (.str [58]) [(.str [44]),(.str [125])]:=λCF st R h=>by
 exact h
theorem Jm:d9 [.ccl 83 41,.ccl 82 41] (.str [44]) [(.str [125])]:=λCF st R h=>by
 exact h
theorem mY:d9 [.ccl 122 41,.ccl 123 41,.ccl 75 41] (.str [60,100,105,114,101,99,116,105,118,101,62]) [(.str [60,100,111,99,117,109,101,110,116,32,115,116,97,114,116,62]),(.str [60,115,116,114,101,97,109,32,101,110,100,62])]:=λCF st R h=>by
 exact h
theorem ou {M M':PZ}:fj (tk 85 M M') [60,98,108,111,99,107,32,109,97,112,112,105,110,103,32,115,116,97,114,116,62]:=⟨_,_,_,rfl,rfl,rfl,rfl⟩
theorem Vm {M M':PZ}:fj (tk 72 M M') [60,98,108,111,99,107,32,101,110,100,62]:=⟨_,_,_,rfl,rfl,rfl,rfl⟩
theorem qR {M M':PZ}:fj (tk 77 M M') [123]:=⟨_,_,_,rfl,rfl,rfl,rfl⟩
theorem Jq {M M':PZ}:fj (tk 82 M M') [125]:=⟨_,_,_,rfl,rfl,rfl,rfl⟩
theorem Am {M M':PZ}:fj (tk 84 M M') [63]:=⟨_,_,_,rfl,rfl,rfl,rfl⟩
theorem O9 {M M':PZ}:fj (tk 86 M M') [58]:=⟨_,_,_,rfl,rfl,rfl,rfl⟩
theorem Fp {M M':PZ}:fj (tk 83 M M') [44]:=⟨_,_,_,rfl,rfl,rfl,rfl⟩
theorem Jr {M M':PZ}:fj (tk 75 M M') [60,115,116,114,101,97,109,32,101,110,100,62]:=⟨_,_,_,rfl,rfl,rfl,rfl⟩
section
variable {n:Nat}{S M M':PZ}{b:Bool}{ev t:AV}{ts:List AV}{p:PP}{Q:AV->Option cF->Prop}{lo lo':List (Nat×AV)}{r:List IS}{id:List Nat}{QS:PS}
theorem KQ {c:Nat}{fs:List (Nat×AV)}{i:CI}{m:AV}{k:Nat}(h:Del b S (.inst c fs::ts))(hi:fj (.inst c fs) id)(hc:TT.CT c=some i)(h1:get 78 fs=some m)(h2:get 78 i.fs=some k)(hg:get 78 ((0,.self)::lo)=some .none)
  (hl:put 79 m (put 78 m ((0,.self)::lo))=(0,.self)::lo')(hQ:∀b' S',Del b' S' (.inst c fs::ts)->wpS TT (CO (n+21)) r (KK b' S' p ev lo') QS):
  wpS TT (CO (n+21)) (.ite (.cmp .is_ (.ak 78) (.aA .none)) [.mR 78 79 (.fld (.aq 42 [] []) 78)] []::r) (KK b S p ev lo) QS:=by
 refine aL (aO hg ?_)
 show wpS TT _ [.mR 78 79 (.fld (.aq 42 [] []) 78)] (KK b S p ev lo) _
 refine aL ?_
 refine Gg h hi λb' S' hh=>?_
 refine aO (a:=m) (show(TT.CT c).bind (λi=>match get 78 fs with|some v=>(get 78 i.fs).map λ_=>v|none=>get 78 i.cat)=_ by rw[hc,h1];show(get 78 i.fs).map _=_;rw[h2];rfl) ?_
 refine bV ?_
 have:=hQ b' S' hh.del
 unfold aK
 rw[hl]
 exact this
end
section
variable {n:Nat}{S M M':PZ}{b:Bool}{ev t:AV}{ts:List AV}{p:PP}{Q:AV->Option cF->Prop}{lo lo':List (Nat×AV)}{r:List IS}{id:List Nat}{QS:PS}
theorem Ea {bl ind pl:Bool}{v:List Nat}{sty:Option (List Nat)}{j k:Nat}{mk:List AV}{eH tg:AV}(h:Del b S (sc v pl M M' sty::ts))
  (hQ:∀b' S' m m',Del b' S' ts->Q (J5 v pl m m' sty) (some ((S'.w ⟨[.bm j],mk,.bm k,tg⟩).pb b' ev))):CO (n+22) 133 [.self,.bool bl,.bool ind] (some ((S.w ⟨[.bm j,.bm k],mk,eH,tg⟩).pb b ev)) Q:=by
 refine aH rfl ?_
 have all:wpS TT (CO (n+21)) dK (KK b S ⟨[.bm j,.bm k],mk,eH,tg⟩ ev [(134,.bool bl),(137,.bool ind)]) (bw Q):=by
  unfold dK
  refine gR Al h qQ rfl λb S h=>?_
  refine zZ (st':=KK b S ⟨[.bm j,.bm k],mk,eH,tg⟩ ev [(134,.bool bl),(137,.bool ind),(139,.none),(140,.none),(78,.none),(79,.none),(141,.none)]) (λR h=>by
   exact h) ?_
  refine gR Ak h.del qQ rfl λb S h=>?_
  refine gR Aj h.del qQ rfl λb S h=>?_
  refine bV ?_
  refine bV ?_
  refine fH (st':=KK b S ⟨[.bm j,.bm k],mk,eH,tg⟩ ev [(134,.bool bl),(137,.bool ind),(139,.none),(140,.none),(78,.none),(79,.none),(141,.none)]) (λR h=>by
   exact h) ?_
  refine KQ h.del qQ rfl rfl rfl rfl rfl λb S h=>?_
  refine xX (st':=KK b S ⟨[.bm j,.bm k],mk,eH,tg⟩ ev [(134,.bool bl),(137,.bool ind),(139,.none),(140,.none),(78,M.bT),(79,M.bT),(141,.none),(119,.none),(144,.bool true)]) (λR h=>by
   exact h) ?_
  refine zL (y:=ind) (x:=false) rfl Ai h qQ rfl λb S h=>?_
  rw[Bool.and_false]
  refine gR Jl h qQ rfl λb S h=>?_
  refine pZ (lo':=[(134,.bool bl),(137,.bool ind),(139,.none),(140,.none),(78,M.bT),(79,M.bT),(141,.none),(119,.none),(144,.bool true),(118,sc v pl M M' sty)]) h qQ rfl λb S h=>?_
  refine aa' (st':=KK b S ⟨[.bm j],mk,.bm k,tg⟩ ev [(134,.bool bl),(137,.bool ind),(139,.none),(140,.none),(78,M.bT),(79,M'.bT),(141,.none),(119,J5 v pl M.bT M'.bT sty),(144,.tup [.bool pl,.bool (!pl)]),(118,sc v pl M M' sty)]) (λR h=>by
   cases pl<;>cases b<;>cases sty
   ·exact h
   ·exact h
   ·exact h
   ·exact h
   ·exact h
   ·exact h
   ·exact h
   ·exact h) ?_
  exact hQ _ _ _ _ h
 exact all
theorem QH {ss mk:List AV}{eH tg:AV}(h:Del b S (tk 77 M M'::ts))
  (hQ:∀b' S' m m',Hd b' S' (tk 77 M M') ts->Q (Xu true m m') (some ((S'.w ⟨ss,mk,.bm 151,tg⟩).pb b' ev))):CO (n+22) 133 [.self,.bool true,.bool false] (some ((S.w ⟨ss,mk,eH,tg⟩).pb b ev)) Q:=by
 refine aH rfl ?_
 have all:wpS TT (CO (n+21)) dK (KK b S ⟨ss,mk,eH,tg⟩ ev [(134,.bool true),(137,.bool false)]) (bw Q):=by
  unfold dK
  refine gR Al h qR rfl λb S h=>?_
  refine zZ (st':=KK b S ⟨ss,mk,eH,tg⟩ ev [(134,.bool true),(137,.bool false),(139,.none),(140,.none),(78,.none),(79,.none),(141,.none)]) (λR h=>by
   conv=>whnf
   exact h) ?_
  refine gR Ak h.del qR rfl λb S h=>?_
  refine gR Aj h.del qR rfl λb S h=>?_
  refine bV ?_
  refine bV ?_
  refine fH (st':=KK b S ⟨ss,mk,eH,tg⟩ ev [(134,.bool true),(137,.bool false),(139,.none),(140,.none),(78,.none),(79,.none),(141,.none)]) (λR h=>by
   conv=>whnf
   exact h) ?_
  refine KQ h.del qR rfl rfl rfl rfl rfl λb S h=>?_
  refine xX (st':=KK b S ⟨ss,mk,eH,tg⟩ ev [(134,.bool true),(137,.bool false),(139,.none),(140,.none),(78,M.bT),(79,M.bT),(141,.none),(119,.none),(144,.bool true)]) (λR h=>by
   conv=>whnf
   exact h) ?_
  refine zL (y:=false) (x:=false) rfl Ai h qR rfl λb S h=>?_
  refine gR Jl h qR rfl λb S h=>?_
  replace h:=h.del
  refine gR Jo h qR rfl λb S h=>?_
  replace h:=h.del
  refine gR Ry h qR rfl λb S h=>?_
  replace h:=h.del
  refine aL ?_
  refine Gg h qR λb S h=>?_
  have go:wpS TT (CO (n+21)) [.asg 119 (.bR 149 [(.ak 139),(.ak 140),(.ak 144),(.ak 78),(.ak 79)] [(150,(.aA (.bool true)))]),
        .bC 113 (.smt 151)] (KK b S ⟨ss,mk,eH,tg⟩ ev [(134,.bool true),(137,.bool false),(139,.none),(140,.none),(78,M.bT),(79,M'.bT),(141,.none),(119,.none),(144,.bool true)]) (u0 (CO (n+21)) [] (u0 (CO (n+21)) [] (u0 (CO (n+21)) [] (u0 (CO (n+21)) [] (u0 (CO (n+21)) [.ret (.ak 119)] (bw Q)))))):=by
   refine xX (st':=KK b S ⟨ss,mk,.bm 151,tg⟩ ev [(134,.bool true),(137,.bool false),(139,.none),(140,.none),(78,M.bT),(79,M'.bT),(141,.none),(119,Xu true M.bT M'.bT),(144,.bool true)]) (λR h=>by
    cases b
    ·exact h
    ·exact h) ?_
   exact hQ _ _ _ _ h
  exact go
 exact all
theorem QJ {ss mk:List AV}{eH tg:AV}(h:Del b S (tk 85 M M'::ts))
  (hQ:∀b' S' m m',Hd b' S' (tk 85 M M') ts->Q (Xu false m m') (some ((S'.w ⟨ss,mk,.bm 153,tg⟩).pb b' ev))):CO (n+22) 133 [.self,.bool true,.bool false] (some ((S.w ⟨ss,mk,eH,tg⟩).pb b ev)) Q:=by
 refine aH rfl ?_
 have all:wpS TT (CO (n+21)) dK (KK b S ⟨ss,mk,eH,tg⟩ ev [(134,.bool true),(137,.bool false)]) (bw Q):=by
  unfold dK
  refine gR Al h ou rfl λb S h=>?_
  refine zZ (st':=KK b S ⟨ss,mk,eH,tg⟩ ev [(134,.bool true),(137,.bool false),(139,.none),(140,.none),(78,.none),(79,.none),(141,.none)]) (λR h=>by
   conv=>whnf
   exact h) ?_
  refine gR Ak h.del ou rfl λb S h=>?_
  refine gR Aj h.del ou rfl λb S h=>?_
  refine bV ?_
  refine bV ?_
  refine fH (st':=KK b S ⟨ss,mk,eH,tg⟩ ev [(134,.bool true),(137,.bool false),(139,.none),(140,.none),(78,.none),(79,.none),(141,.none)]) (λR h=>by
   conv=>whnf
   exact h) ?_
  refine KQ h.del ou rfl rfl rfl rfl rfl λb S h=>?_
  refine xX (st':=KK b S ⟨ss,mk,eH,tg⟩ ev [(134,.bool true),(137,.bool false),(139,.none),(140,.none),(78,M.bT),(79,M.bT),(141,.none),(119,.none),(144,.bool true)]) (λR h=>by
   conv=>whnf
   exact h) ?_
  refine zL (y:=false) (x:=false) rfl Ai h ou rfl λb S h=>?_
  refine gR Jl h ou rfl λb S h=>?_
  replace h:=h.del
  refine gR Jo h ou rfl λb S h=>?_
  replace h:=h.del
  refine gR Ry h ou rfl λb S h=>?_
  replace h:=h.del
  refine zL (y:=true) rfl Vl h ou rfl λb S h=>?_
  refine zL (y:=true) rfl Zv h ou rfl λb S h=>?_
  refine aL ?_
  refine Gg h ou λb S h=>?_
  have go:wpS TT (CO (n+21)) [.asg 119 (.bR 149 [(.ak 139),(.ak 140),(.ak 144),(.ak 78),(.ak 79)] [(150,(.aA (.bool false)))]),
        .bC 113 (.smt 153)] (KK b S ⟨ss,mk,eH,tg⟩ ev [(134,.bool true),(137,.bool false),(139,.none),(140,.none),(78,M.bT),(79,M.bT),(141,.none),(119,.none),(144,.bool true)]) (u0 (CO (n+21)) [] (u0 (CO (n+21)) [] (u0 (CO (n+21)) [] (u0 (CO (n+21)) [] (u0 (CO (n+21)) [] (u0 (CO (n+21)) [] (u0 (CO (n+21)) [.ret (.ak 119)] (bw Q)))))))):=by
   refine xX (st':=KK b S ⟨ss,mk,.bm 153,tg⟩ ev [(134,.bool true),(137,.bool false),(139,.none),(140,.none),(78,M.bT),(79,M.bT),(141,.none),(119,Xu false M.bT M.bT),(144,.bool true)]) (λR h=>by
    cases b
    ·exact h
    ·exact h) ?_
   conv=>whnf
   exact hQ _ _ _ _ h
  exact go
 exact all
end
section
variable {n:Nat}{S M M' K K':PZ}{b:Bool}{ev t:AV}{ts:List AV}{p:PP}{Q:AV->Option cF->Prop}{lo lo':List (Nat×AV)}{r:List IS}{id:List Nat}{QS:PS}{pl:Bool}{v:List Nat}{sty:Option (List Nat)}{ss mk:List AV}{eH tg:AV}{j:Nat}
theorem W7 (h:Del b S (tk 85 M M'::ts))
  (hQ:∀b' S' m m',Hd b' S' (tk 85 M M') ts->Q (Xu false m m') (some ((S'.w ⟨ss,mk,.bm 153,tg⟩).pb b' ev))):CO (n+23) 128 [.self] (some ((S.w ⟨ss,mk,eH,tg⟩).pb b ev)) Q:=by
 refine aH rfl ?_
 refine dg (na CZ rfl rfl) ?_
 exact QJ h hQ
theorem W6 (h:Del b S (tk 77 M M'::ts))
  (hQ:∀b' S' m m',Hd b' S' (tk 77 M M') ts->Q (Xu true m m') (some ((S'.w ⟨ss,mk,.bm 151,tg⟩).pb b' ev))):CO (n+23) 128 [.self] (some ((S.w ⟨ss,mk,eH,tg⟩).pb b ev)) Q:=by
 refine aH rfl ?_
 refine dg (na CZ rfl rfl) ?_
 exact QH h hQ
theorem Eb {k:Nat}(h:Del b S (sc v pl M M' sty::ts))
  (hQ:∀b' S' m m',Del b' S' ts->Q (J5 v pl m m' sty) (some ((S'.w ⟨[.bm j],mk,.bm k,tg⟩).pb b' ev))):CO (n+23) 136 [.self] (some ((S.w ⟨[.bm j,.bm k],mk,eH,tg⟩).pb b ev)) Q:=by
 refine aH rfl ?_
 refine dg (na CZ rfl rfl) ?_
 exact Ea h hQ
theorem vU {k:Nat}(h:Del b S (sc v pl M M' sty::ts))
  (hQ:∀b' S' m m',Del b' S' ts->Q (J5 v pl m m' sty) (some ((S'.w ⟨[.bm j],mk,.bm k,tg⟩).pb b' ev))):CO (n+23) 135 [.self] (some ((S.w ⟨[.bm j,.bm k],mk,eH,tg⟩).pb b ev)) Q:=by
 refine aH rfl ?_
 refine dg (na CZ rfl rfl) ?_
 exact Ea h hQ
theorem R9 {A B:List IS}{k:Nat}{y:Bool}{m:Nat}(hk:get k ((0,.self)::lo)=some (.bool y))(h:wpS TT (CO m) (bif y then B else A) (KK b S p ev lo) (u0 (CO m) r QS)):wpS TT (CO m) (.ite (.not_ (.ak k)) A B::r) (KK b S p ev lo) QS:=by
 refine aL (aO hk ?_)
 cases y<;>exact h
theorem BK (h:Del b S (tk 84 K K'::sc v pl M M' sty::ts))
  (hQ:∀b' S' m m',Del b' S' ts->Q (J5 v pl m m' sty) (some ((S'.w ⟨[.bm j],mk,.bm 155,tg⟩).pb b' ev))):CO (n+24) 154 [.self] (some ((S.w ⟨[.bm j],mk,eH,tg⟩).pb b ev)) Q:=by
 refine aH rfl ?_
 have all:wpS TT (CO (n+23)) bW (KK b S ⟨[.bm j],mk,eH,tg⟩ ev []) (bw Q):=by
  unfold bW
  refine gR yM h Am rfl λb S h=>?_
  refine pZ (lo':=[(118,tk 84 K K')]) h Am rfl λb S h=>?_
  refine ji qD h qQ rfl λb S h=>?_
  cases b
  ·refine Eb (b:=false) h.del ?_
   exact hQ
  ·refine Eb (b:=true) h.del ?_
   exact hQ
 exact all
theorem Sx (h:Del b S (tk 86 K K'::sc v pl M M' sty::ts))
  (hQ:∀b' S' m m',Del b' S' ts->Q (J5 v pl m m' sty) (some ((S'.w ⟨[.bm j],mk,.bm 154,tg⟩).pb b' ev))):CO (n+24) 155 [.self] (some ((S.w ⟨[.bm j],mk,eH,tg⟩).pb b ev)) Q:=by
 refine aH rfl ?_
 have all:wpS TT (CO (n+23)) cJ (KK b S ⟨[.bm j],mk,eH,tg⟩ ev []) (bw Q):=by
  unfold cJ
  refine gR Rw h O9 rfl λb S h=>?_
  refine pZ (lo':=[(118,tk 86 K K')]) h O9 rfl λb S h=>?_
  refine ji qD h qQ rfl λb S h=>?_
  cases b
  ·refine Eb (b:=false) h.del ?_
   exact hQ
  ·refine Eb (b:=true) h.del ?_
   exact hQ
 exact all
noncomputable abbrev evE (m m':AV):AV:=.inst 156 [(78,m),(79,m')]
theorem WY {m₀:AV}(h:Del b S (tk 72 K K'::ts))
  (hQ:∀b' S' m m',Del b' S' ts->Q (evE m m') (some ((S'.w ⟨[],[],.bm j,tg⟩).pb b' ev))):CO (n+24) 154 [.self] (some ((S.w ⟨[.bm j],[m₀],eH,tg⟩).pb b ev)) Q:=by
 refine aH rfl ?_
 have all:wpS TT (CO (n+23)) bW (KK b S ⟨[.bm j],[m₀],eH,tg⟩ ev []) (bw Q):=by
  unfold bW
  refine gR yM h Vm rfl λb S h=>?_
  refine bV ?_
  refine ji Zx h.del Vm rfl λb S h=>?_
  refine bV ?_
  refine pZ (lo':=[(118,tk 72 K K')]) h Vm rfl λb S h=>?_
  have hq:=hQ b S K.bT K'.bT h
  cases b
  ·exact hq
  ·exact hq
 exact all
theorem aaS (h:Hd b S (tk 85 K K') (tk 84 M M::sc v pl M M' sty::ts))
  (hQ:∀b' S' m m',Del b' S' ts->Q (J5 v pl m m' sty) (some ((S'.w ⟨[.bm j],[K.bT],.bm 155,tg⟩).pb b' ev))):CO (n+25) 153 [.self] (some ((S.w ⟨[.bm j],[],eH,tg⟩).pb b ev)) Q:=by
 refine aH rfl ?_
 have all:wpS TT (CO (n+24)) cj (KK b S ⟨[.bm j],[],eH,tg⟩ ev []) (bw Q):=by
  unfold cj
  refine pZ (lo':=[(118,tk 85 K K')]) h ou rfl λb S h=>?_
  cases b
  ·refine BK (b:=false) (S:=S) (ev:=ev) (mk:=[K.bT]) (eH:=eH) (tg:=tg) (j:=j) h ?_
   exact hQ
  ·refine BK (b:=true) (S:=S) (ev:=ev) (mk:=[K.bT]) (eH:=eH) (tg:=tg) (j:=j) h ?_
   exact hQ
 exact all
theorem K5 (h:Del b S (tk 84 K K'::sc v pl M M' sty::ts))
  (hQ:∀b' S' m m',Del b' S' ts->Q (J5 v pl m m' sty) (some ((S'.w ⟨[.bm j],mk,.bm 159,tg⟩).pb b' ev))):CO (n+24) 157 [.self,.bool true] (some ((S.w ⟨[.bm j],mk,eH,tg⟩).pb b ev)) Q:=by
 refine aH rfl ?_
 have all:wpS TT (CO (n+23)) bx (KK b S ⟨[.bm j],mk,eH,tg⟩ ev [(158,.bool true)]) (bw Q):=by
  unfold bx
  refine ji yN h Am rfl λb S h=>?_
  refine fH (st':=KK b S ⟨[.bm j],mk,eH,tg⟩ ev [(158,.bool true)]) (λR h=>by
   exact h) ?_
  refine gR yM h.del Am rfl λb S h=>?_
  refine pZ (lo':=[(158,.bool true),(118,tk 84 K K')]) h Am rfl λb S h=>?_
  refine ji qC h qQ rfl λb S h=>?_
  cases b
  ·refine vU (b:=false) h.del ?_
   exact hQ
  ·refine vU (b:=true) h.del ?_
   exact hQ
 exact all
theorem WX {E E':PZ}(h:Del b S (tk 83 E E'::tk 84 K K'::sc v pl M M' sty::ts))
  (hQ:∀b' S' m m',Del b' S' ts->Q (J5 v pl m m' sty) (some ((S'.w ⟨[.bm j],mk,.bm 159,tg⟩).pb b' ev))):CO (n+24) 157 [.self,.bool false] (some ((S.w ⟨[.bm j],mk,eH,tg⟩).pb b ev)) Q:=by
 refine aH rfl ?_
 have all:wpS TT (CO (n+23)) bx (KK b S ⟨[.bm j],mk,eH,tg⟩ ev [(158,.bool false)]) (bw Q):=by
  unfold bx
  refine ji yN h Fp rfl λb S h=>?_
  refine R9 (k:=158) (y:=false) rfl ?_
  refine gR Rx h.del Fp rfl λb S h=>?_
  refine Sd h Fp λb S h=>?_
  refine bV ?_
  refine bV ?_
  refine gR yM h Am rfl λb S h=>?_
  refine pZ (lo':=[(158,.bool false),(118,tk 84 K K')]) h Am rfl λb S h=>?_
  refine ji qC h qQ rfl λb S h=>?_
  cases b
  ·refine vU (b:=false) h.del ?_
   exact hQ
  ·refine vU (b:=true) h.del ?_
   exact hQ
 exact all
theorem WT {m₀:AV}(h:Del b S (tk 82 K K'::ts))
  (hQ:∀b' S' m m',Del b' S' ts->Q (evE m m') (some ((S'.w ⟨[],[],.bm j,tg⟩).pb b' ev))):CO (n+24) 157 [.self,.bool false] (some ((S.w ⟨[.bm j],[m₀],eH,tg⟩).pb b ev)) Q:=by
 refine aH rfl ?_
 have all:wpS TT (CO (n+23)) bx (KK b S ⟨[.bm j],[m₀],eH,tg⟩ ev [(158,.bool false)]) (bw Q):=by
  unfold bx
  refine ji yN h Jq rfl λb S h=>?_
  refine bV ?_
  refine pZ (lo':=[(158,.bool false),(118,tk 82 K K')]) h Jq rfl λb S h=>?_
  have hq:=hQ b S K.bT K'.bT h
  cases b
  ·exact hq
  ·exact hq
 exact all
theorem WW {E E':PZ}{m₀:AV}(h:Del b S (tk 83 E E'::tk 82 K K'::ts))
  (hQ:∀b' S' m m',Del b' S' ts->Q (evE m m') (some ((S'.w ⟨[],[],.bm j,tg⟩).pb b' ev))):CO (n+24) 157 [.self,.bool false] (some ((S.w ⟨[.bm j],[m₀],eH,tg⟩).pb b ev)) Q:=by
 refine aH rfl ?_
 have all:wpS TT (CO (n+23)) bx (KK b S ⟨[.bm j],[m₀],eH,tg⟩ ev [(158,.bool false)]) (bw Q):=by
  unfold bx
  refine ji yN h Fp rfl λb S h=>?_
  refine R9 (k:=158) (y:=false) rfl ?_
  refine gR Rx h.del Fp rfl λb S h=>?_
  refine Sd h Fp λb S h=>?_
  refine bV ?_
  refine bV ?_
  refine gR yM h Jq rfl λb S h=>?_
  refine ji yN h.del Jq rfl λb S h=>?_
  refine bV ?_
  refine bV ?_
  refine bV ?_
  refine pZ (lo':=[(158,.bool false),(118,tk 82 K K')]) h Jq rfl λb S h=>?_
  have hq:=hQ b S K.bT K'.bT h
  cases b
  ·exact hq
  ·exact hq
 exact all
theorem Sw (h:Del b S (tk 86 K K'::sc v pl M M' sty::ts))
  (hQ:∀b' S' m m',Del b' S' ts->Q (J5 v pl m m' sty) (some ((S'.w ⟨[.bm j],mk,.bm 157,tg⟩).pb b' ev))):CO (n+24) 159 [.self] (some ((S.w ⟨[.bm j],mk,eH,tg⟩).pb b ev)) Q:=by
 refine aH rfl ?_
 have all:wpS TT (CO (n+23)) cV (KK b S ⟨[.bm j],mk,eH,tg⟩ ev []) (bw Q):=by
  unfold cV
  refine gR Rw h O9 rfl λb S h=>?_
  refine pZ (lo':=[(118,tk 86 K K')]) h O9 rfl λb S h=>?_
  refine ji Jm h qQ rfl λb S h=>?_
  cases b
  ·refine vU (b:=false) h.del ?_
   exact hQ
  ·refine vU (b:=true) h.del ?_
   exact hQ
 exact all
theorem aaT (h:Hd b S (tk 77 K K') (tk 84 M M::sc v pl M M' sty::ts))
  (hQ:∀b' S' m m',Del b' S' ts->Q (J5 v pl m m' sty) (some ((S'.w ⟨[.bm j],[K.bT],.bm 159,tg⟩).pb b' ev))):CO (n+25) 151 [.self] (some ((S.w ⟨[.bm j],[],eH,tg⟩).pb b ev)) Q:=by
 refine aH rfl ?_
 have all:wpS TT (CO (n+24)) cA (KK b S ⟨[.bm j],[],eH,tg⟩ ev []) (bw Q):=by
  unfold cA
  refine pZ (lo':=[(118,tk 77 K K')]) h qR rfl λb S h=>?_
  cases b
  ·refine K5 (b:=false) (S:=S) (ev:=ev) (mk:=[K.bT]) (eH:=eH) (tg:=tg) (j:=j) h ?_
   exact hQ
  ·refine K5 (b:=true) (S:=S) (ev:=ev) (mk:=[K.bT]) (eH:=eH) (tg:=tg) (j:=j) h ?_
   exact hQ
 exact all
end
noncomputable abbrev tk0 (M M':PZ):AV:=.inst 74 [(78,M.bT),(79,M'.bT),(10,.none)]
theorem abK {M M':PZ}:fj (tk0 M M') [60,115,116,114,101,97,109,32,115,116,97,114,116,62]:=⟨_,_,_,rfl,rfl,rfl,rfl⟩
noncomputable abbrev evS (m m':AV):AV:=.inst 120 [(78,m),(79,m'),(10,.none)]
noncomputable abbrev evD (m m':AV):AV:=.inst 125 [(78,m),(79,m'),(126,.bool false),(192,.none),(193,.none)]
noncomputable abbrev evX (m m':AV):AV:=.inst 132 [(78,m),(79,m'),(126,.bool false)]
noncomputable abbrev evZ (m m':AV):AV:=.inst 131 [(78,m),(79,m')]
section
variable {n:Nat}{S M M' K K':PZ}{b:Bool}{ev t:AV}{ts:List AV}{p:PP}{Q:AV->Option cF->Prop}{lo lo':List (Nat×AV)}{r:List IS}{id:List Nat}{QS:PS}{ss mk:List AV}{eH tg:AV}{j:Nat}
theorem Sy (h:Hd b S (tk0 M M') ts)
  (hQ:∀b' S' m m',Del b' S' ts->Q (evS m m') (some ((S'.w ⟨ss,mk,.bm 121,tg⟩).pb b' ev))):CO (n+22) 114 [.self] (some ((S.w ⟨ss,mk,eH,tg⟩).pb b ev)) Q:=by
 refine aH rfl ?_
 have all:wpS TT (CO (n+21)) eU (KK b S ⟨ss,mk,eH,tg⟩ ev []) (bw Q):=by
  unfold eU
  refine pZ (lo':=[(118,tk0 M M')]) h abK rfl λb S h=>?_
  cases b
  ·exact hQ _ _ _ _ h
  ·exact hQ _ _ _ _ h
 exact all
theorem W9 (h:Del b S (tk 85 M M'::ts))(hQ:∀b' S' m m',Del b' S' (tk 85 M M'::ts)->Q (evD m m') (some ((S'.w ⟨[.bm 127],mk,.bm 128,.top 1304⟩).pb b' ev))):CO (n+22) 121 [.self] (some ((S.w ⟨[],mk,eH,tg⟩).pb b ev)) Q:=by
 refine aH rfl ?_
 have all:wpS TT (CO (n+21)) bK (KK b S ⟨[],mk,eH,tg⟩ ev []) (bw Q):=by
  unfold bK
  refine ji mY h ou rfl λb S h=>?_
  refine fH (st':=KK b S ⟨[],mk,eH,.top 1304⟩ ev []) (λR h=>by
   cases b
   ·conv=>whnf
    conv=>whnf
    exact h
   ·conv=>whnf
    conv=>whnf
    exact h) ?_
  refine aL ?_
  refine Gg h.del ou λb S h=>?_
  have go:wpS TT (CO (n+21)) [
   .mR 78 79 (.fld (.ak 118) 78),
   .asg 119 (.bR 125 [(.ak 78),(.ak 79)] [(126,(.aA (.bool false)))]),
   .app (.bB 111) (.smt 127),
   .bC 113 (.smt 128),
   .ret (.ak 119)] (KK b S ⟨[],mk,eH,.top 1304⟩ ev [(118,tk 85 M M')]) (u0 (CO (n+21)) [] (bw Q)):=by
   cases b
   ·exact hQ _ _ _ _ h.del
   ·exact hQ _ _ _ _ h.del
  exact go
 exact all
theorem W8 (h:Del b S (tk 77 M M'::ts))(hQ:∀b' S' m m',Del b' S' (tk 77 M M'::ts)->Q (evD m m') (some ((S'.w ⟨[.bm 127],mk,.bm 128,.top 1304⟩).pb b' ev))):CO (n+22) 121 [.self] (some ((S.w ⟨[],mk,eH,tg⟩).pb b ev)) Q:=by
 refine aH rfl ?_
 have all:wpS TT (CO (n+21)) bK (KK b S ⟨[],mk,eH,tg⟩ ev []) (bw Q):=by
  unfold bK
  refine ji mY h qR rfl λb S h=>?_
  refine fH (st':=KK b S ⟨[],mk,eH,.top 1304⟩ ev []) (λR h=>by
   cases b
   ·conv=>whnf
    conv=>whnf
    exact h
   ·conv=>whnf
    conv=>whnf
    exact h) ?_
  refine aL ?_
  refine Gg h.del qR λb S h=>?_
  have go:wpS TT (CO (n+21)) [
   .mR 78 79 (.fld (.ak 118) 78),
   .asg 119 (.bR 125 [(.ak 78),(.ak 79)] [(126,(.aA (.bool false)))]),
   .app (.bB 111) (.smt 127),
   .bC 113 (.smt 128),
   .ret (.ak 119)] (KK b S ⟨[],mk,eH,.top 1304⟩ ev [(118,tk 77 M M')]) (u0 (CO (n+21)) [] (bw Q)):=by
   cases b
   ·exact hQ _ _ _ _ h.del
   ·exact hQ _ _ _ _ h.del
  exact go
 exact all
theorem aaV (h:Del b S (tk 75 M M'::ts))
  (hQ:∀b' S' m m',Del b' S' (tk 75 M M'::ts)->Q (evX m m') (some ((S'.w ⟨ss,mk,.bm 129,tg⟩).pb b' ev))):CO (n+22) 127 [.self] (some ((S.w ⟨ss,mk,eH,tg⟩).pb b ev)) Q:=by
 refine aH rfl ?_
 have all:wpS TT (CO (n+21)) eX (KK b S ⟨ss,mk,eH,tg⟩ ev []) (bw Q):=by
  unfold eX
  refine aL ?_
  refine Gg h Jr λb S h=>?_
  have go:wpS TT (CO (n+21)) [
  .mR 78 79 (.fld (.ak 118) 78),
  .asg 126 (.aA (.bool false)),
  .ite (.aq 37 [(.tup [(.ccl 130 41)])] []) [
   .bad,
   .bad,
   .bad] [],
  .asg 119 (.bR 132 [(.ak 78),(.ak 79)] [(126,(.ak 126))]),
  .bC 113 (.smt 129),
  .ret (.ak 119)] (KK b S ⟨ss,mk,eH,tg⟩ ev [(118,tk 75 M M')]) (bw Q):=by
   refine xX (st':=KK b S ⟨ss,mk,eH,tg⟩ ev [(118,tk 75 M M'),(78,M.bT),(79,M.bT),(126,.bool false)]) (λR h=>by
    exact h) ?_
   refine gR Jp h.del Jr rfl λb S h=>?_
   refine bV ?_
   cases b
   ·exact hQ _ _ _ _ h.del
   ·exact hQ _ _ _ _ h.del
  exact go
 exact all
theorem aaU (h:Del b S (tk 75 M M'::ts))
  (hQ:∀b' (S':PZ) m m',Q (evZ m m') (some ((S'.w ⟨[],[],.none,tg⟩).pb b' ev))):CO (n+22) 129 [.self] (some ((S.w ⟨[],[],eH,tg⟩).pb b ev)) Q:=by
 refine aH rfl ?_
 have all:wpS TT (CO (n+21)) dM (KK b S ⟨[],[],eH,tg⟩ ev []) (bw Q):=by
  unfold dM
  intro P hP
  refine hP _ ?_
  refine Qy Jp h Jr rfl λb S h=>?_
  have go:wpS TT (CO (n+21)) [
  .ite (.not_ (.aq 37 [(.tup [(.ccl 75 41)])] [])) [
   .bad,
   .bad,
   .bad,
   .bad,
   .bad,
   .bad,
   .bad,
   .bad,
   .bad] [
   .asg 118 (.aq 43 [] []),
   .asg 119 (.bR 131 [(.fld (.ak 118) 78),(.fld (.ak 118) 79)] []),
   .ast (.not_ (.bB 111)),
   .ast (.not_ (.bB 112)),
   .bC 113 (.aA .none)],
  .ret (.ak 119)] (KK b S ⟨[],[],eH,tg⟩ ev []) (bw Q):=by
   refine ji Zw h.del Jr rfl λb S h=>?_
   refine pZ (lo':=[(118,tk 75 M M')]) h Jr rfl λb S h=>?_
   cases b
   ·exact hQ false S M.bT M'.bT
   ·exact hQ true S M.bT M'.bT
  exact go
 exact all
theorem aaX {f:Nat}{i:FI}{bs:List (Nat×AV)}{vs:List AV}(hi:TT.FT f=some i)(hb:binds i.ps i.ds [.self] []=some bs)(hv:bs.map (·.2)=vs){Spec:Nat->List (Nat×AV)->Bool->PZ->Prop}
  (hc:∀Q':AV->Option cF->Prop,(∀c fs b' S',Spec c fs b' S'->Q' (.inst c fs) (some (S'.pb b' .none)))->CO n f vs (some ((S.w ⟨ss,mk,.bm f,tg⟩).pb b .none)) Q')
  (hQ:∀c fs b' S',Spec c fs b' S'->Q (.inst c fs) (some (S'.pb b' (.inst c fs)))):CO (n+1) 115 [.self] (some ((S.w ⟨ss,mk,.bm f,tg⟩).pb b .none)) Q:=by
 refine aH rfl ?_
 have go:∀st R,st.par=some ((S.w ⟨ss,mk,.bm f,tg⟩).pb b .none)->(∀c fs b' S',Spec c fs b' S'->R (.inst c fs) {st with par:=some (S'.pb b' .none)})->gW TT (CO n) f [.self] [] st R:=by
  intro st R hp hR
  refine dg rfl (aO hi (aO hb ?_))
  rw[hv,hp]
  exact hc _ hR
 have all:wpS TT (CO n) [.ite (.cmp .is_ (.bB 108) (.aA .none)) [
   .ite (.bB 113) [
    .bC 108 (.mZ 113)] []] [],
  .ret (.bB 108)] (KK b S ⟨ss,mk,.bm f,tg⟩ .none []) (bw Q):=by
  have abR:get 108 ((S.w ⟨ss,mk,.bm f,tg⟩).pb b .none).at_=some .none:=by cases b<;>rfl
  have ZK:get 113 ((S.w ⟨ss,mk,.bm f,tg⟩).pb b .none).at_=some (.bm f):=by cases b<;>rfl
  refine aL (qe (La (Gx ?_)))
  refine jH rfl rfl abR ?_
  show wpS TT (CO n) [.ite (.bB 113) [.bC 108 (.mZ 113)] []] _ _
  refine aL (qe (La ?_))
  refine jH rfl rfl ZK ?_
  show wpS TT (CO n) [.bC 108 (.mZ 113)] _ _
  refine aO (a:=f) (show(Ey _ 113).bind AV.bmO=some f by rw[pH rfl rfl ZK];rfl) ?_
  refine go _ _ rfl ?_
  intro c fs b' S' h
  have:=hQ c fs b' S' h
  cases b'
  ·exact this
  ·exact this
 exact all
theorem aaW {c:Nat}{fs:List (Nat×AV)}(hQ:Q (.inst c fs) (some (S.pb b .none))):CO (n+1) 116 [.self] (some (S.pb b (.inst c fs))) Q:=by
 refine aH rfl ?_
 cases b
 ·exact hQ
 ·exact hQ
theorem Xa (hs:S.state= .none)(hQ:Q .none (some (S.pb b .none))):CO (n+1) 115 [.self] (some (S.pb b .none)) Q:=by
 obtain⟨buf,ptr,line,col,done,fl,ao,aY,aJ,aN,aC,cg,aW,bD,state,tg⟩:=S
 dsimp only at hs
 subst hs
 refine aH rfl ?_
 cases b
 ·exact hQ
 ·exact hQ
end
noncomputable def PZ.to (T S:PZ):PZ:={T with buf:=S.buf,ptr:=S.ptr,line:=S.line,col:=S.col}
theorem aa5 {T S:PZ}:(T.to S).r=S.r:=rfl
theorem bA {T:PZ}:∀(k:Nat) (S:PZ),(T.to S).aG k=T.to (S.aG k)
 |0,S=>rfl
 |k+1,S=>by
  cases h:S.r with
  |nil=>
   have h1:S.aG (k+1)=S:=by
    conv=>lhs;unfold PZ.aG
    rw[h]
   have h2:(T.to S).aG (k+1)=T.to S:=by
    conv=>lhs;unfold PZ.aG
    rw[aa5,h]
   rw[h1,h2]
  |cons c r=>
   rw[PZ.dB h,PZ.dB (S:=T.to S) h,<-bA k]
   rfl
theorem Lb.to {T S S':PZ}{v:List Nat}(h:Lb S v S'):Lb (T.to S) v (T.to S'):=by
 cases h with
 |one h1 h2 h3=>rw[<-bA];exact .one h1 h2 h3
 |two h1=>rw[<-bA];exact .two h1
 |sep h1 h2 h3=>rw[<-bA];exact .sep h1 h2 h3
theorem Bl.to {T S S':PZ}(h:Bl S S'):Bl (T.to S) (T.to S'):=by
 cases h with
 |sp h1 h2 h3=>rw[<-bA];exact .sp h1 h2 h3
 |co h1 h2 h3 h4=>rw[<-bA,<-bA];exact .co h1 h2 h3 h4
theorem Bk.to {T S S':PZ}{vs:List (List Nat)}(h:Bk S vs S'):Bk (T.to S) vs (T.to S'):=by
 induction h with
 |stop h1 h2 h3 h4 h5=>rw[<-bA];exact .stop h1 h2 h3 h4 h5
 |more h1 h2 h3 h4 h5 h6 h7 ih=>
  have:=h6.to (T:=T)
  rw[<-bA]at this
  exact .more h1 h2 h3 h4 h5 this ih
theorem xr.to {T S S':PZ}{vs:List (List Nat)}(h:xr S vs S'):xr (T.to S) vs (T.to S'):=by
 cases h with
 |plain h1 h2 h3 h4 h5=>rw[<-bA];exact .plain h1 h2 h3 h4 h5
 |sep h1 h2 h3 h4 h5 h6 h7 h8=>
  have:=h6.to (T:=T)
  rw[<-bA]at this
  exact .sep h1 h2 h3 h4 h5 this h7.to h8
 |fold h1 h2 h3 h4 h5 h6 h7=>
  have:=h6.to (T:=T)
  rw[<-bA]at this
  exact .fold h1 h2 h3 h4 h5 this h7.to
 |lines h1 h2 h3 h4 h5 h6 h7=>
  have:=h6.to (T:=T)
  rw[<-bA]at this
  exact .lines h1 h2 h3 h4 h5 this h7.to
theorem DX.to {T S S':PZ}{b:Bool}{vs:List (List Nat)}(h:DX b S vs S'):DX b (T.to S) vs (T.to S'):=by
 cases h with
 |qq h=>rw[<-bA];exact .qq h
 |apo h=>rw[<-bA];exact .apo h
 |lit h h1=>rw[<-bA];exact .lit h h1
 |esc h h1=>rw[<-bA,<-bA];exact .esc h h1
 |fold h1 h2 h3 h4 h5 h6=>
  have:=h5.to (T:=T)
  rw[<-bA]at this
  exact .fold h1 h2 h3 h4 this h6.to
theorem Ns.to {T S S':PZ}{b:Bool}{vs:List (List Nat)}(h:Ns b S vs S'):Ns b (T.to S) vs (T.to S'):=by
 induction h with
 |stop h1 h2 h3 h4 h5=>rw[<-bA];exact .stop h1 h2 h3 h4 h5
 |step h1 h2 h3 h4 h5 ih=>
  have:=h4.to (T:=T)
  rw[<-bA]at this
  exact .step h1 h2 h3 this ih
theorem Lp.to {T S S':PZ}{b:Bool}{vs:List (List Nat)}(h:Lp b S vs S'):Lp b (T.to S) vs (T.to S'):=by
 induction h with
 |stop h=>exact .stop h
 |step h1 h2 h3 h4 h5 ih=>exact .step h1 h2 h3.to h4.to ih
theorem Fs.to {T S S':PZ}{b:Bool}{vs:List (List Nat)}(h:Fs b S vs S'):Fs b (T.to S) vs (T.to S'):=by
 cases h with
 |mk h1 h2 h3 h4=>
  have:=h2.to (T:=T)
  rw[<-bA]at this
  rw[<-bA]
  exact .mk h1 this h3.to h4
inductive Sk:PZ->Bool->PZ->Prop
 |stop {S S':PZ} {c:Nat} {r:List Nat}:Bl S S'->S'.r=c::r->[13,10,133].any (Nat.beq c ·)=false->[8232,8233].any (Nat.beq c ·)=false->Sk S false S'
 |line {S S₁ S₂ S':PZ} {v:List Nat} {nl:Bool}:Bl S S₁->Lb S₁ v S₂->Sk S₂ nl S'->Sk S true S'
noncomputable def PZ.nl (T:PZ) (nl:Bool):PZ:={T with aC:=(nl&&decide (T.fl=0))||T.aC}
theorem Sk.stn {S S':PZ}{nl:Bool}(h:Sk S nl S'):∀T:PZ,Xv (T.to S) ((T.nl nl).to S'):=by
 induction h with
 |stop h1 h2 h3 h4=>
  intro T
  exact .stop h1.to h2 h3 h4
 | @line S S₁ S₂ S' v nl h1 h2 h3 ih=>
  intro T
  refine .line h1.to h2.to ?_
  have hfl:(T.to S₂).fl=T.fl:=rfl
  rw[hfl]
  cases e:decide (T.fl=0)
  ·have:=ih T
   have e2:(T.nl nl)=T.nl true:=by
    unfold PZ.nl
    rw[e]
    cases nl<;>rfl
   rw[e2]at this
   exact this
  ·have:=ih {T with aC:=true}
   have e2:(({T with aC:=true}:PZ).nl nl)=T.nl true:=by
    unfold PZ.nl
    rw[e]
    simp
   rw[e2]at this
   exact this
noncomputable def Li (S S':PZ):Prop:=∀(n:Nat) (p:PP) (ev:AV) (Q:AV->Option cF->Prop),Q .none (some ((S'.w p).au ev))->CO (n+1) 44 [.self] (some ((S.w p).au ev)) Q
noncomputable def Xw (S:PZ) (v:AV):Prop:=∀(n:Nat) (p:PP) (ev:AV) (Q:AV->Option cF->Prop),Q v (some ((S.w p).au ev))->CO (n+1) 45 [.self] (some ((S.w p).au ev)) Q
section
variable {S S₁ M M':PZ}{ev t:AV}{q:List AV}{tn Gl:Int}{rq Nr:Bool}
theorem Og (hd:S.done=false)(ht:S.ao=[]):NM S S (.bool true):=by
 intro n p ev Q hQ
 obtain⟨buf,ptr,line,col,done,fl,ao,aY,aJ,aN,aC,cg,aW,bD,state,tg⟩:=S
 dsimp only at hd ht
 subst hd ht
 refine aH rfl ?_
 exact hQ
theorem Ab {i:Int}{b:Bool}(hd:S.done=false)(ht:S.ao=t::q)(hs:Li S S₁)(hx:Xw S₁ (.int i))(hb:decide (i=S₁.aY)=b):NM S S₁ (match b with|true=>.bool true|false=>.none):=by
 intro n p ev Q hQ
 obtain⟨buf,ptr,line,col,done,fl,ao,aY,aJ,aN,aC,cg,aW,bD,state,tg⟩:=S
 dsimp only at hd ht
 subst hd ht
 refine aH rfl ?_
 refine hs _ _ _ _ ?_
 refine hx _ _ _ _ ?_
 conv=>whnf
 have e:decide (i=(S₁.w p).aY)=b:=hb
 rw[e]
 cases b
 ·exact hQ
 ·exact hQ
theorem Oe (hd:S.done=false)(ht:S.ao=t::q)(hs:Li S S₁)(hx:Xw S₁ .none):NM S S₁ .none:=by
 intro n p ev Q hQ
 obtain⟨buf,ptr,line,col,done,fl,ao,aY,aJ,aN,aC,cg,aW,bD,state,tg⟩:=S
 dsimp only at hd ht
 subst hd ht
 refine aH rfl ?_
 refine hs _ _ _ _ ?_
 refine hx _ _ _ _ ?_
 exact hQ
theorem Ek (h:S.cg=[]):Li S S:=λ_ p _ _ hQ=>aax (S:=S.w p) h hQ
theorem Ej (h:S.cg=[(0,keyV tn rq M)])(h1:M.line=S.line)(h2:S.ptr<=M.ptr+1024):Li S S:=λ_ p _ _ hQ=>Wx (S:=S.w p) h h1 h2 hQ
theorem G8 (h:S.cg=[(1,keyV tn rq M)])(h1:M.line=S.line)(h2:S.ptr<=M.ptr+1024):Li S S:=λ_ p _ _ hQ=>QD (S:=S.w p) h h1 h2 hQ
theorem Q5 (h:S.cg=[(0,keyV tn false M)])(h1:M.line≠S.line):Li S {S with cg:=[]}:=λ_ p _ _ hQ=>Wy (S:=S.w p) h h1 hQ
theorem Yh (h:S.cg=[(0,keyV tn rq M),(1,keyV Gl Nr M')])(h1:M.line=S.line)(h2:S.ptr<=M.ptr+1024)(h1':M'.line=S.line)(h2':S.ptr<=M'.ptr+1024):Li S S:=λ_ p _ _ hQ=>Wv (S:=S.w p) h h1 h2 h1' h2' hQ
theorem Q0 (h:S.cg=[(0,keyV tn false M),(1,keyV Gl Nr M')])(h1:M.line≠S.line)(h1':M'.line=S.line)(h2':S.ptr<=M'.ptr+1024):Li S {S with cg:=[(1,keyV Gl Nr M')]}:=λ_ p _ _ hQ=>Ww (S:=S.w p) h h1 h1' h2' hQ
theorem N6 (h:S.cg=[]):Xw S .none:=λ_ p _ _ hQ=>aaB (S:=S.w p) h hQ
theorem Ux (h:S.cg=[(0,keyV tn rq M)]):Xw S (.int tn):=λ_ p _ _ hQ=>aaA (S:=S.w p) h hQ
theorem Ig (h:S.cg=[(1,keyV tn rq M)]):Xw S (.int tn):=λ_ p _ _ hQ=>Wz (S:=S.w p) h hQ
theorem abp (h:S.cg=[(0,keyV tn rq M),(1,keyV Gl Nr M')])(h1:tn<Gl):Xw S (.int tn):=λ_ p _ _ hQ=>aaz (S:=S.w p) h h1 hQ
end
noncomputable abbrev Lh:List IS:=[
  .ite (.cmp .eq (.ak 20) (.aA (.str [0]))) [
   .ret (.aq 48 [] [])] [],
  .ite (.and_ [(.cmp .eq (.ak 20) (.aA (.str [37]))),(.aq 49 [] [])]) [
   .bad] [],
  .ite (.and_ [(.cmp .eq (.ak 20) (.aA (.str [45]))),(.aq 50 [] [])]) [
   .bad] [],
  .ite (.and_ [(.cmp .eq (.ak 20) (.aA (.str [46]))),(.aq 51 [] [])]) [
   .bad] [],
  .ite (.cmp .eq (.ak 20) (.aA (.str [91]))) [
   .bad] [],
  .ite (.cmp .eq (.ak 20) (.aA (.str [123]))) [
   .ret (.aq 52 [] [])] [],
  .ite (.cmp .eq (.ak 20) (.aA (.str [93]))) [
   .bad] [],
  .ite (.cmp .eq (.ak 20) (.aA (.str [125]))) [
   .ret (.aq 53 [] [])] [],
  .ite (.cmp .eq (.ak 20) (.aA (.str [44]))) [
   .ret (.aq 54 [] [])] [],
  .ite (.and_ [(.cmp .eq (.ak 20) (.aA (.str [45]))),(.aq 55 [] [])]) [
   .bad] [],
  .ite (.and_ [(.cmp .eq (.ak 20) (.aA (.str [63]))),(.aq 56 [] [])]) [
   .bad] [],
  .ite (.and_ [(.cmp .eq (.ak 20) (.aA (.str [58]))),(.aq 57 [] [])]) [
   .ret (.aq 58 [] [])] [],
  .ite (.cmp .eq (.ak 20) (.aA (.str [42]))) [
   .bad] [],
  .ite (.cmp .eq (.ak 20) (.aA (.str [38]))) [
   .bad] [],
  .ite (.cmp .eq (.ak 20) (.aA (.str [33]))) [
   .bad] [],
  .ite (.and_ [(.cmp .eq (.ak 20) (.aA (.str [124]))),(.not_ (.bB 29))]) [
   .bad] [],
  .ite (.and_ [(.cmp .eq (.ak 20) (.aA (.str [62]))),(.not_ (.bB 29))]) [
   .bad] [],
  .ite (.cmp .eq (.ak 20) (.aA (.str [39]))) [
   .ret (.aq 59 [] [])] [],
  .ite (.cmp .eq (.ak 20) (.aA (.str [34]))) [
   .ret (.aq 60 [] [])] [],
  .ite (.aq 61 [] []) [
   .ret (.aq 62 [] [])] [],
  .bad]
section
variable {n:Nat}{S E S₂:PZ}{ev:AV}{nl:Bool}{c:Nat}{r:List Nat}{Q:AV->Option cF->Prop}{p:PP}
end
noncomputable def Fx (f:Nat) (S:PZ) (b:Bool) (S':PZ):Prop:=∀(n:Nat) (p:PP) (ev:AV) (Q:AV->Option cF->Prop),Q .none (some ((S'.w p).pb b ev))->CO (n+15) f [.self] (some ((S.w p).au ev)) Q
noncomputable def Gh (S S₁:PZ):Prop:=∀(n:Nat) (p:PP) (ev:AV) (Q:AV->Option cF->Prop),Q .none (some ((S₁.w p).au ev))->CO (n+2) 68 [.self] (some ((S.w p).au ev)) Q
section
variable {n:Nat}{S S₁ S':PZ}{ev:AV}{b:Bool}{Q:AV->Option cF->Prop}{p:PP}{c:Nat}{r:List Nat}
theorem aai (h:Fx 48 S b S')(hQ:∀v,Q v (some ((S'.w p).pb b ev))):wpS TT (CO (n+19)) Lh ⟨some ((S.w p).au ev),[(0,.self),(20,.str [0])],[]⟩ (bw Q):=by
 exact h _ _ _ _ (hQ .none)
theorem aah (h:Fx 52 S b S')(hQ:∀v,Q v (some ((S'.w p).pb b ev))):wpS TT (CO (n+19)) Lh ⟨some ((S.w p).au ev),[(0,.self),(20,.str [123])],[]⟩ (bw Q):=by
 exact h _ _ _ _ (hQ .none)
theorem aag (h:Fx 53 S b S')(hQ:∀v,Q v (some ((S'.w p).pb b ev))):wpS TT (CO (n+19)) Lh ⟨some ((S.w p).au ev),[(0,.self),(20,.str [125])],[]⟩ (bw Q):=by
 exact h _ _ _ _ (hQ .none)
theorem aaf (h:Fx 54 S b S')(hQ:∀v,Q v (some ((S'.w p).pb b ev))):wpS TT (CO (n+19)) Lh ⟨some ((S.w p).au ev),[(0,.self),(20,.str [44])],[]⟩ (bw Q):=by
 exact h _ _ _ _ (hQ .none)
theorem aad (h:Fx 59 S b S')(hQ:∀v,Q v (some ((S'.w p).pb b ev))):wpS TT (CO (n+19)) Lh ⟨some ((S.w p).au ev),[(0,.self),(20,.str [39])],[]⟩ (bw Q):=by
 exact h _ _ _ _ (hQ .none)
theorem aac (h:Fx 60 S b S')(hQ:∀v,Q v (some ((S'.w p).pb b ev))):wpS TT (CO (n+19)) Lh ⟨some ((S.w p).au ev),[(0,.self),(20,.str [34])],[]⟩ (bw Q):=by
 exact h _ _ _ _ (hQ .none)
theorem aae (h:Fx 58 S b S')(hv:S.fl≠0∨∃d,S.r[1]? =some d/\fD d=true)(hQ:∀v,Q v (some ((S'.w p).pb b ev))):wpS TT (CO (n+19)) Lh ⟨some ((S.w p).au ev),[(0,.self),(20,.str [58])],[]⟩ (bw Q):=by
 have cv:∀Q':AV->Option cF->Prop,Q' (.bool true) (some ((S.w p).au ev))->CO (n+19) 57 [.self] (some ((S.w p).au ev)) Q':=by
  intro Q' h'
  by_cases hf:S.fl=0
  ·rcases hv with hv|⟨d,hd,he⟩
   ·exact absurd hf hv
   ·refine aaJ (S:=S.w p) hf hd ?_
    rw[he];exact h'
  ·exact aaI (S:=S.w p) hf h'
 refine cv _ ?_
 exact h _ _ _ _ (hQ .none)
theorem Kd (h:Fx 62 S b S')(hr:S.r=97::r)(hQ:∀v,Q v (some ((S'.w p).pb b ev))):wpS TT (CO (n+19)) Lh ⟨some ((S.w p).au ev),[(0,.self),(20,.str [97])],[]⟩ (bw Q):=by
 refine aaK (S:=S.w p) (c:=97) hr rfl ?_
 exact h _ _ _ _ (hQ .none)
theorem Kc (h:Fx 62 S b S')(hr:S.r=98::r)(hQ:∀v,Q v (some ((S'.w p).pb b ev))):wpS TT (CO (n+19)) Lh ⟨some ((S.w p).au ev),[(0,.self),(20,.str [98])],[]⟩ (bw Q):=by
 refine aaK (S:=S.w p) (c:=98) hr rfl ?_
 exact h _ _ _ _ (hQ .none)
theorem abb (h:S.aC=false):Gh S S:=λ_ p _ _ hQ=>QG (S:=S.w p) h hQ
theorem HS (h:S.aC=true)(hg:iJ S.fl S.cg=none)(hl:(mG S.fl AV.none S.cg).length<=1000):
  Gh S {S with cg:=mG S.fl (keyV (S.aY+(S.ao.length:Nat)) (decide (S.fl=0)&&decide (S.aJ=S.col)) S) S.cg}:=λ_ p _ _ hQ=>QF (S:=S.w p) h hg hl hQ
theorem f87 {vs:List (List Nat)}{d:Bool}(hs:Gh S S₁)(he:S₁.to S=S₁)(h:Fs d S vs S')(hlen:vs.length<=1000)(hlen2:vs.flatten.length<=100000)(hl:(S₁.ao++[AV.none]).length<=1000)
  (hQ:Q .none (some ((((({S₁ with aC:=false,ao:=S₁.ao++[sc vs.flatten false S S' (some [qt d])]}:PZ)).to S').w p).au ev))):
  CO (n+10) 87 [.self,.str [qt d]] (some ((S.w p).au ev)) Q:=by
 refine aH rfl ?_
 refine hs _ p ev _ ?_
 have fs:Fs d ((({S₁ with aC:=false}:PZ).w p).to S) vs ((({S₁ with aC:=false}:PZ).w p).to S'):=h.to
 have e2:((({S₁ with aC:=false}:PZ).w p).to S)=(({S₁ with aC:=false}:PZ).w p):=by
  rw[<-he];rfl
 rw[e2]at fs
 have go:wpS TT (CO (n+9)) [.bC 35 (.aA (.bool false)),
  .app (.bB 30) (.aq 89 [(.ak 88)] [])] ⟨some ((S₁.w p).au ev),[(0,.self),(88,.str [qt d])],[]⟩ (bw Q):=by
  refine fH (st':=⟨some ((({S₁ with aC:=false}:PZ).w p).au ev),[(0,.self),(88,.str [qt d])],[]⟩) (λR h=>by
   exact h) ?_
  refine aL (uY ?_)
  refine jH rfl rfl rfl ?_
  refine acn fs hlen hlen2 ?_
  have hl':(S₁.ao++[sc vs.flatten false S S' (some [qt d])]).length<=1000:=by simpa using hl
  have em:((({S₁ with aC:=false}:PZ).w p).tok ((({S₁ with aC:=false}:PZ).w p).to S') d vs.flatten)=sc vs.flatten false S S' (some [qt d]):=by
   have:(({S₁ with aC:=false}:PZ).w p).bT=S.bT:=by
    rw[<-e2];rfl
   unfold PZ.tok
   rw[this]
   rfl
  rw[em]
  refine fX (d:=.bN 0) (v:=sc vs.flatten false S S' (some [qt d])) (xs:=S₁.ao) (st:=⟨some (((({S₁ with aC:=false}:PZ).w p).to S').au ev),[(0,.self),(88,.str [qt d])],[]⟩)
   (st':=⟨some ((((({S₁ with aC:=false,ao:=S₁.ao++[sc vs.flatten false S S' (some [qt d])]}:PZ)).to S').w p).au ev),[(0,.self),(88,.str [qt d])],[]⟩) rfl rfl hl' rfl ?_
  exact hQ
 exact go
theorem f59 {vs:List (List Nat)}(hs:Gh S S₁)(he:S₁.to S=S₁)(h:Fs false S vs S')(hlen:vs.length<=1000)(hlen2:vs.flatten.length<=100000)(hl:(S₁.ao++[AV.none]).length<=1000):
  Fx 59 S false ((({S₁ with aC:=false,ao:=S₁.ao++[sc vs.flatten false S S' (some [39])]}:PZ)).to S'):=by
 intro n p ev Q hQ
 refine aH rfl ?_
 refine f87 (d:=false) hs he h hlen hlen2 hl ?_
 exact hQ
theorem f60 {vs:List (List Nat)}(hs:Gh S S₁)(he:S₁.to S=S₁)(h:Fs true S vs S')(hlen:vs.length<=1000)(hlen2:vs.flatten.length<=100000)(hl:(S₁.ao++[AV.none]).length<=1000):
  Fx 60 S false ((({S₁ with aC:=false,ao:=S₁.ao++[sc vs.flatten false S S' (some [34])]}:PZ)).to S'):=by
 intro n p ev Q hQ
 refine aH rfl ?_
 refine f87 (d:=true) hs he h hlen hlen2 hl ?_
 exact hQ
end
section
variable {n:Nat}{S S₁ S':PZ}{ev m:AV}{b:Bool}{Q:AV->Option cF->Prop}{p:PP}{c d:Nat}{r:List Nat}{i:Int}
theorem K6 {mc:Nat}{mf:List (Nat×AV)}(h:S.r=58::d::r)(hQ:Q (.lst []) (some (S.au ev))):CO (n+4) 106 [.self,.int i,.inst mc mf] (some (S.au ev)) Q:=by
 refine aH rfl ?_
 have all:wpS TT (CO (n+3)) cG ⟨some (S.au ev),[(0,.self),(33,.int i),(78,.inst mc mf)],[]⟩ (bw Q):=by
  unfold cG
  refine xX (st':=⟨some (S.au ev),[(0,.self),(33,.int i),(78,.inst mc mf),(94,.own 101),(17,.int 0)],[(101,.l [])]⟩) (λR h=>by
   conv=>whnf
   conv=>whnf
   exact h) ?_
  refine aL ?_
  intro P hP
  refine hP _ ?_
  refine dw h ?_
  refine eZ (k:=0) (PZ.le h) ?_
  refine bH (k:=0) (by rw[h];simp) ?_
  refine dw h ?_
  exact hQ
 exact all
theorem Xb {mc:Nat}{mf:List (Nat×AV)}(h:S.r=32::99::d::r)(hQ:Q (.lst [.str [32]]) (some ((S.aG 1).au ev))):CO (n+4) 106 [.self,.int i,.inst mc mf] (some (S.au ev)) Q:=by
 refine aH rfl ?_
 have all:wpS TT (CO (n+3)) cG ⟨some (S.au ev),[(0,.self),(33,.int i),(78,.inst mc mf)],[]⟩ (bw Q):=by
  unfold cG
  refine xX (st':=⟨some (S.au ev),[(0,.self),(33,.int i),(78,.inst mc mf),(94,.own 101),(17,.int 0)],[(101,.l [])]⟩) (λR h=>by
   conv=>whnf
   conv=>whnf
   exact h) ?_
  refine aL ?_
  intro P hP
  refine hP _ ?_
  refine dw h ?_
  refine hP _ ?_
  refine dD (k:=1) (c:=99) (by rw[h];rfl) ?_
  refine eZ (k:=1) (PZ.le h) ?_
  rw[h]
  refine bH (k:=1) (by rw[h];simp) ?_
  have h2:(S.aG 1).r=99::d::r:=by rw[PZ.bZ,h];rfl
  refine dw h2 ?_
  exact hQ
 exact all
end
noncomputable abbrev Ez:IS:=.whl (.aA (.bool true)) [
    .asg 20 (.aq 15 [(.ak 17)] []),
    .ite (.or_ [(.cmp .fJ (.ak 20) (.aA (.str [0,32,9,13,10,133,8232,8233]))),(.and_ [(.cmp .eq (.ak 20) (.aA (.str [58]))),(.cmp .fJ (.aq 15 [(.bin .add (.ak 17) (.aA (.int 1)))] []) (.bin .add (.aA (.str [0,32,9,13,10,133,8232,8233])) (.ite (.bB 29) (.aA (.str [44,91,93,123,125])) (.aA (.str [])))))]),(.and_ [(.bB 29),(.cmp .fJ (.ak 20) (.aA (.str [44,63,91,93,123,125])))])]) [
     .brk] [],
    .aug 17 .add (.aA (.int 1))]
noncomputable abbrev zP:List IS:=[
   .ext (.ak 94) (.ak 105),
   .app (.ak 94) (.aq 16 [(.ak 17)] []),
   .exp (.aq 19 [(.ak 17)] []),
   .asg 79 (.aq 21 [] []),
   .asg 105 (.aq 106 [(.ak 33),(.ak 78)] []),
   .ite (.or_ [(.not_ (.ak 105)),(.cmp .eq (.aq 15 [] []) (.aA (.str [35]))),(.and_ [(.not_ (.bB 29)),(.cmp .lt (.bB 13) (.ak 33))])]) [
    .brk] []]
noncomputable abbrev CG:List IS:=[
   .asg 17 (.aA (.int 0)),
   .ite (.cmp .eq (.aq 15 [] []) (.aA (.str [35]))) [
    .bad] [],
   Ez,
   .ite (.cmp .eq (.ak 17) (.aA (.int 0))) [
    .bad] [],
   .bC 35 (.aA (.bool false))]++zP
section
variable {n:Nat}{S S₁ S':PZ}{ev m x:AV}{b:Bool}{Q:AV->Option cF->Prop}{R:PS}{p:PP}{c d:Nat}{r:List Nat}{i:Int}{xs:List AV}
theorem rK (h:fD d=true)(l:List Nat):([0,32,9,13,10,133,8232,8233]++l).any (λx=>d.beq x)=true:=by
 rw[List.any_append]
 have:[0,32,9,13,10,133,8232,8233].any (λx=>d.beq x)=true:=h
 rw[this];rfl
theorem Ud {mf mg:List (Nat×AV)}{ow:List (Nat×Cont)}(hf:S.fl=0)(h:S.r=97::58::d::r)(hd:fD d=true)(hR:R .next ⟨some (S.au ev),[(0,.self),(94,.own 101),(78,.inst 22 mf),(79,.inst 22 mg),(33,.int i),(105,(.own 102)),(17,.int 1),(20,.str [58])],ow⟩):
  wp1 TT (CO (n+4)) Ez ⟨some (S.au ev),[(0,.self),(94,.own 101),(78,.inst 22 mf),(79,.inst 22 mg),(33,.int i),(105,(.own 102)),(17,.int 0)],ow⟩ R:=by
 obtain⟨buf,ptr,line,col,done,fl,ao,aY,aJ,aN,aC,cg,aW,bD,state,tg⟩:=S
 dsimp only at hf
 subst hf
 intro P hP
 refine hP _ ?_
 refine dw h ?_
 refine hP _ ?_
 refine dD (k:=1) (c:=58) (by rw[h];rfl) ?_
 refine dD (k:=2) (c:=d) (by rw[h];rfl) ?_
 conv=>whnf
 have e:([0,32,9,13,10,133,8232,8233]++[]).any (λx=>d.beq x)=true:=rK hd _
 rw[e]
 exact hR
theorem T9 {mf mg:List (Nat×AV)}{ow:List (Nat×Cont)}(hf:S.fl=0)(h:S.r=99::58::d::r)(hd:fD d=true)(hR:R .next ⟨some (S.au ev),[(0,.self),(94,.own 101),(78,.inst 22 mf),(79,.inst 22 mg),(33,.int i),(105,(.lst [.str [32]])),(17,.int 1),(20,.str [58])],ow⟩):
  wp1 TT (CO (n+4)) Ez ⟨some (S.au ev),[(0,.self),(94,.own 101),(78,.inst 22 mf),(79,.inst 22 mg),(33,.int i),(105,(.lst [.str [32]])),(17,.int 0),(20,.str [32])],ow⟩ R:=by
 obtain⟨buf,ptr,line,col,done,fl,ao,aY,aJ,aN,aC,cg,aW,bD,state,tg⟩:=S
 dsimp only at hf
 subst hf
 intro P hP
 refine hP _ ?_
 refine dw h ?_
 refine hP _ ?_
 refine dD (k:=1) (c:=58) (by rw[h];rfl) ?_
 refine dD (k:=2) (c:=d) (by rw[h];rfl) ?_
 conv=>whnf
 have e:([0,32,9,13,10,133,8232,8233]++[]).any (λx=>d.beq x)=true:=rK hd _
 rw[e]
 exact hR
theorem Ub {mf mg:List (Nat×AV)}{ow:List (Nat×Cont)}(hf:S.fl=0)(h:S.r=98::32::r)(hR:R .next ⟨some (S.au ev),[(0,.self),(94,.own 101),(78,.inst 22 mf),(79,.inst 22 mg),(33,.int i),(105,(.own 102)),(17,.int 1),(20,.str [32])],ow⟩):
  wp1 TT (CO (n+4)) Ez ⟨some (S.au ev),[(0,.self),(94,.own 101),(78,.inst 22 mf),(79,.inst 22 mg),(33,.int i),(105,(.own 102)),(17,.int 0)],ow⟩ R:=by
 obtain⟨buf,ptr,line,col,done,fl,ao,aY,aJ,aN,aC,cg,aW,bD,state,tg⟩:=S
 dsimp only at hf
 subst hf
 intro P hP
 refine hP _ ?_
 refine dw h ?_
 refine hP _ ?_
 refine dD (k:=1) (c:=32) (by rw[h];rfl) ?_
 exact hR
theorem Uc {mf mg:List (Nat×AV)}{ow:List (Nat×Cont)}(hf:S.fl=1)(h:S.r=97::58::d::r)(hd:fD d=true)(hR:R .next ⟨some (S.au ev),[(0,.self),(94,.own 101),(78,.inst 22 mf),(79,.inst 22 mg),(33,.int i),(105,(.own 102)),(17,.int 1),(20,.str [58])],ow⟩):
  wp1 TT (CO (n+4)) Ez ⟨some (S.au ev),[(0,.self),(94,.own 101),(78,.inst 22 mf),(79,.inst 22 mg),(33,.int i),(105,(.own 102)),(17,.int 0)],ow⟩ R:=by
 obtain⟨buf,ptr,line,col,done,fl,ao,aY,aJ,aN,aC,cg,aW,bD,state,tg⟩:=S
 dsimp only at hf
 subst hf
 intro P hP
 refine hP _ ?_
 refine dw h ?_
 refine hP _ ?_
 refine dD (k:=1) (c:=58) (by rw[h];rfl) ?_
 refine dD (k:=2) (c:=d) (by rw[h];rfl) ?_
 conv=>whnf
 have e:([0,32,9,13,10,133,8232,8233]++[44,91,93,123,125]).any (λx=>d.beq x)=true:=rK hd _
 rw[e]
 exact hR
theorem T8 {mf mg:List (Nat×AV)}{ow:List (Nat×Cont)}(hf:S.fl=1)(h:S.r=99::58::d::r)(hd:fD d=true)(hR:R .next ⟨some (S.au ev),[(0,.self),(94,.own 101),(78,.inst 22 mf),(79,.inst 22 mg),(33,.int i),(105,(.lst [.str [32]])),(17,.int 1),(20,.str [58])],ow⟩):
  wp1 TT (CO (n+4)) Ez ⟨some (S.au ev),[(0,.self),(94,.own 101),(78,.inst 22 mf),(79,.inst 22 mg),(33,.int i),(105,(.lst [.str [32]])),(17,.int 0),(20,.str [32])],ow⟩ R:=by
 obtain⟨buf,ptr,line,col,done,fl,ao,aY,aJ,aN,aC,cg,aW,bD,state,tg⟩:=S
 dsimp only at hf
 subst hf
 intro P hP
 refine hP _ ?_
 refine dw h ?_
 refine hP _ ?_
 refine dD (k:=1) (c:=58) (by rw[h];rfl) ?_
 refine dD (k:=2) (c:=d) (by rw[h];rfl) ?_
 conv=>whnf
 have e:([0,32,9,13,10,133,8232,8233]++[44,91,93,123,125]).any (λx=>d.beq x)=true:=rK hd _
 rw[e]
 exact hR
theorem Ua {mf mg:List (Nat×AV)}{ow:List (Nat×Cont)}(hf:S.fl=1)(h:S.r=98::32::r)(hR:R .next ⟨some (S.au ev),[(0,.self),(94,.own 101),(78,.inst 22 mf),(79,.inst 22 mg),(33,.int i),(105,(.own 102)),(17,.int 1),(20,.str [32])],ow⟩):
  wp1 TT (CO (n+4)) Ez ⟨some (S.au ev),[(0,.self),(94,.own 101),(78,.inst 22 mf),(79,.inst 22 mg),(33,.int i),(105,(.own 102)),(17,.int 0)],ow⟩ R:=by
 obtain⟨buf,ptr,line,col,done,fl,ao,aY,aJ,aN,aC,cg,aW,bD,state,tg⟩:=S
 dsimp only at hf
 subst hf
 intro P hP
 refine hP _ ?_
 refine dw h ?_
 refine hP _ ?_
 refine dD (k:=1) (c:=32) (by rw[h];rfl) ?_
 exact hR
theorem Rg {mf mg:List (Nat×AV)}(h:S.r=97::58::d::r)(hR:R .brk ⟨some ((S.aG 1).au ev),[(0,.self),(94,.own 101),(78,.inst 22 mf),(79,(S.aG 1).bT),(33,.int i),(105,.lst []),(17,.int 1),(20,.str [58])],[(102,.l []),(101,.l [.str [97]])]⟩):
  wpS TT (CO (n+5)) zP ⟨some (S.au ev),[(0,.self),(94,.own 101),(78,.inst 22 mf),(79,.inst 22 mg),(33,.int i),(105,(.own 102)),(17,.int 1),(20,.str [58])],[(102,.l []),(101,.l [])]⟩ R:=by
 have h2:(S.aG 1).r=58::d::r:=by rw[PZ.bZ,h];rfl
 refine eZ (k:=1) (PZ.le h) ?_
 rw[h]
 refine bH (k:=1) (by rw[h];simp) ?_
 refine dR ?_
 refine K6 h2 ?_
 exact hR
theorem Rd {mf mg:List (Nat×AV)}(h:S.r=99::58::d::r)(hR:R .brk ⟨some ((S.aG 1).au ev),[(0,.self),(94,.own 101),(78,.inst 22 mf),(79,(S.aG 1).bT),(33,.int i),(105,.lst []),(17,.int 1),(20,.str [58])],[(102,.l []),(101,.l [.str [98],.str [32],.str [99]])]⟩):
  wpS TT (CO (n+5)) zP ⟨some (S.au ev),[(0,.self),(94,.own 101),(78,.inst 22 mf),(79,.inst 22 mg),(33,.int i),(105,(.lst [.str [32]])),(17,.int 1),(20,.str [58])],[(102,.l []),(101,.l [.str [98]])]⟩ R:=by
 have h2:(S.aG 1).r=58::d::r:=by rw[PZ.bZ,h];rfl
 refine eZ (k:=1) (PZ.le h) ?_
 rw[h]
 refine bH (k:=1) (by rw[h];simp) ?_
 refine dR ?_
 refine K6 h2 ?_
 exact hR
theorem Rf {mf mg:List (Nat×AV)}(h:S.r=98::32::99::58::d::r)(hc:S.fl≠0∨¬((S.aG 1).aG 1).col<i)(hR:R .next ⟨some (((S.aG 1).aG 1).au ev),[(0,.self),(94,.own 101),(78,.inst 22 mf),(79,(S.aG 1).bT),(33,.int i),(105,.lst [.str [32]]),(17,.int 1),(20,.str [32])],[(102,.l []),(101,.l [.str [98]])]⟩):
  wpS TT (CO (n+5)) zP ⟨some (S.au ev),[(0,.self),(94,.own 101),(78,.inst 22 mf),(79,.inst 22 mg),(33,.int i),(105,.own 102),(17,.int 1),(20,.str [32])],[(102,.l []),(101,.l [])]⟩ R:=by
 have h2:(S.aG 1).r=32::99::58::d::r:=by rw[PZ.bZ,h];rfl
 have h3:((S.aG 1).aG 1).r=99::58::d::r:=by rw[PZ.bZ,h2];rfl
 have hf:((S.aG 1).aG 1).fl=S.fl:=by
  have:(S.to S).aG 1=S.to (S.aG 1):=bA 1 S
  have e1:S.aG 1=S.to (S.aG 1):=this
  have e2:(S.to (S.aG 1)).aG 1=S.to ((S.aG 1).aG 1):=bA 1 _
  rw[e1,e2];rfl
 refine eZ (k:=1) (PZ.le h) ?_
 rw[h]
 refine bH (k:=1) (by rw[h];simp) ?_
 refine dR ?_
 refine Xb h2 ?_
 refine dw h3 ?_
 conv=>whnf
 by_cases hz:S.fl=0
 ·have e:decide (((S.aG 1).aG 1).fl=0)=true:=decide_eq_true (by rw[hf];exact hz)
  rw[e]
  conv=>whnf
  have e:decide (((S.aG 1).aG 1).col<i)=false:=decide_eq_false (by rcases hc with hc|hc;exact absurd hz hc;exact hc)
  rw[e]
  exact hR
 ·have e:decide (((S.aG 1).aG 1).fl=0)=false:=decide_eq_false (by rw[hf];exact hz)
  rw[e]
  exact hR
end
noncomputable abbrev Cz:List IS:=[.ret (.bR 98 [(.join (.ak 94)),(.aA (.bool true)),(.ak 78),(.ak 79)] [])]
section
variable {n:Nat}{S S₁ S':PZ}{ev m x:AV}{b:Bool}{Q:AV->Option cF->Prop}{R:PS}{p:PP}{c d:Nat}{r:List Nat}{i:Int}{xs:List AV}
noncomputable def PZ.Gm (S:PZ):List (Nat×AV):=[(2,Xk),(11,.int (S.ptr:Nat)),(12,.int S.line),(13,.int S.col),(6,.str S.buf),(7,.int (S.ptr:Nat))]
theorem iD (h:S.aC=false):({S with aC:=false}:PZ)=S:=by
 cases S
 simp only at h
 subst h
 rfl
theorem Uk {mf mg:List (Nat×AV)}(hf:S.fl=0)(ha:S.aC=false)(h:S.r=97::58::d::r)(hd:fD d=true)(hR:R .brk ⟨some ((S.aG 1).au ev),[(0,.self),(94,.own 101),(78,.inst 22 mf),(79,(S.aG 1).bT),(33,.int i),(105,.lst []),(17,.int 1),(20,.str [58])],[(102,.l []),(101,.l [.str [97]])]⟩):
  wpS TT (CO (n+5)) CG ⟨some (S.au ev),[(0,.self),(94,.own 101),(78,.inst 22 mf),(79,.inst 22 mg),(33,.int i),(105,(.own 102))],[(102,.l []),(101,.l [])]⟩ R:=by
 refine fH (st':=⟨some (S.au ev),[(0,.self),(94,.own 101),(78,.inst 22 mf),(79,.inst 22 mg),(33,.int i),(105,(.own 102)),(17,.int 0)],[(102,.l []),(101,.l [])]⟩) (λR h=>by
  conv=>whnf
  exact h) ?_
 have b3:wpS TT (CO (n+5)) (.bC 35 (.aA (.bool false))::zP) ⟨some (S.au ev),[(0,.self),(94,.own 101),(78,.inst 22 mf),(79,.inst 22 mg),(33,.int i),(105,(.own 102)),(17,.int 1),(20,.str [58])],[(102,.l []),(101,.l [])]⟩ R:=by
  refine fH (st':=⟨some (({S with aC:=false}:PZ).au ev),[(0,.self),(94,.own 101),(78,.inst 22 mf),(79,.inst 22 mg),(33,.int i),(105,(.own 102)),(17,.int 1),(20,.str [58])],[(102,.l []),(101,.l [])]⟩) (λR h=>by
   conv=>whnf
   exact h) ?_
  rw[iD ha]
  exact Rg h hR
 have b2:wpS TT (CO (n+5)) (Ez::.ite (.cmp .eq (.ak 17) (.aA (.int 0))) [.bad] []::.bC 35 (.aA (.bool false))::zP) ⟨some (S.au ev),[(0,.self),(94,.own 101),(78,.inst 22 mf),(79,.inst 22 mg),(33,.int i),(105,(.own 102)),(17,.int 0)],[(102,.l []),(101,.l [])]⟩ R:=by
  refine aL ?_
  refine Ud (n:=n+1) hf h hd ?_
  refine fH (st':=⟨some (S.au ev),[(0,.self),(94,.own 101),(78,.inst 22 mf),(79,.inst 22 mg),(33,.int i),(105,(.own 102)),(17,.int 1),(20,.str [58])],[(102,.l []),(101,.l [])]⟩) (λR h=>by
   conv=>whnf
   exact h) ?_
  exact b3
 refine aL ?_
 conv=>whnf
 conv=>whnf
 refine dw h ?_
 exact b2
theorem Ug {mf mg:List (Nat×AV)}(hf:S.fl=0)(ha:S.aC=false)(h:S.r=99::58::d::r)(hd:fD d=true)(hR:R .brk ⟨some ((S.aG 1).au ev),[(0,.self),(94,.own 101),(78,.inst 22 mf),(79,(S.aG 1).bT),(33,.int i),(105,.lst []),(17,.int 1),(20,.str [58])],[(102,.l []),(101,.l [.str [98],.str [32],.str [99]])]⟩):
  wpS TT (CO (n+5)) CG ⟨some (S.au ev),[(0,.self),(94,.own 101),(78,.inst 22 mf),(79,.inst 22 mg),(33,.int i),(105,(.lst [.str [32]])),(17,.int 1),(20,.str [32])],[(102,.l []),(101,.l [.str [98]])]⟩ R:=by
 refine fH (st':=⟨some (S.au ev),[(0,.self),(94,.own 101),(78,.inst 22 mf),(79,.inst 22 mg),(33,.int i),(105,(.lst [.str [32]])),(17,.int 0),(20,.str [32])],[(102,.l []),(101,.l [.str [98]])]⟩) (λR h=>by
  conv=>whnf
  exact h) ?_
 have b3:wpS TT (CO (n+5)) (.bC 35 (.aA (.bool false))::zP) ⟨some (S.au ev),[(0,.self),(94,.own 101),(78,.inst 22 mf),(79,.inst 22 mg),(33,.int i),(105,(.lst [.str [32]])),(17,.int 1),(20,.str [58])],[(102,.l []),(101,.l [.str [98]])]⟩ R:=by
  refine fH (st':=⟨some (({S with aC:=false}:PZ).au ev),[(0,.self),(94,.own 101),(78,.inst 22 mf),(79,.inst 22 mg),(33,.int i),(105,(.lst [.str [32]])),(17,.int 1),(20,.str [58])],[(102,.l []),(101,.l [.str [98]])]⟩) (λR h=>by
   conv=>whnf
   exact h) ?_
  rw[iD ha]
  exact Rd h hR
 have b2:wpS TT (CO (n+5)) (Ez::.ite (.cmp .eq (.ak 17) (.aA (.int 0))) [.bad] []::.bC 35 (.aA (.bool false))::zP) ⟨some (S.au ev),[(0,.self),(94,.own 101),(78,.inst 22 mf),(79,.inst 22 mg),(33,.int i),(105,(.lst [.str [32]])),(17,.int 0),(20,.str [32])],[(102,.l []),(101,.l [.str [98]])]⟩ R:=by
  refine aL ?_
  refine T9 (n:=n+1) hf h hd ?_
  refine fH (st':=⟨some (S.au ev),[(0,.self),(94,.own 101),(78,.inst 22 mf),(79,.inst 22 mg),(33,.int i),(105,(.lst [.str [32]])),(17,.int 1),(20,.str [58])],[(102,.l []),(101,.l [.str [98]])]⟩) (λR h=>by
   conv=>whnf
   exact h) ?_
  exact b3
 refine aL ?_
 conv=>whnf
 conv=>whnf
 refine dw h ?_
 exact b2
theorem Ui {mf mg:List (Nat×AV)}(hf:S.fl=0)(ha:S.aC=false)(h:S.r=98::32::99::58::d::r)(hc:S.fl≠0∨¬((S.aG 1).aG 1).col<i)(hR:R .next ⟨some (((S.aG 1).aG 1).au ev),[(0,.self),(94,.own 101),(78,.inst 22 mf),(79,(S.aG 1).bT),(33,.int i),(105,.lst [.str [32]]),(17,.int 1),(20,.str [32])],[(102,.l []),(101,.l [.str [98]])]⟩):
  wpS TT (CO (n+5)) CG ⟨some (S.au ev),[(0,.self),(94,.own 101),(78,.inst 22 mf),(79,.inst 22 mg),(33,.int i),(105,(.own 102))],[(102,.l []),(101,.l [])]⟩ R:=by
 refine fH (st':=⟨some (S.au ev),[(0,.self),(94,.own 101),(78,.inst 22 mf),(79,.inst 22 mg),(33,.int i),(105,(.own 102)),(17,.int 0)],[(102,.l []),(101,.l [])]⟩) (λR h=>by
  conv=>whnf
  exact h) ?_
 have b3:wpS TT (CO (n+5)) (.bC 35 (.aA (.bool false))::zP) ⟨some (S.au ev),[(0,.self),(94,.own 101),(78,.inst 22 mf),(79,.inst 22 mg),(33,.int i),(105,(.own 102)),(17,.int 1),(20,.str [32])],[(102,.l []),(101,.l [])]⟩ R:=by
  refine fH (st':=⟨some (({S with aC:=false}:PZ).au ev),[(0,.self),(94,.own 101),(78,.inst 22 mf),(79,.inst 22 mg),(33,.int i),(105,(.own 102)),(17,.int 1),(20,.str [32])],[(102,.l []),(101,.l [])]⟩) (λR h=>by
   conv=>whnf
   exact h) ?_
  rw[iD ha]
  exact Rf h hc hR
 have b2:wpS TT (CO (n+5)) (Ez::.ite (.cmp .eq (.ak 17) (.aA (.int 0))) [.bad] []::.bC 35 (.aA (.bool false))::zP) ⟨some (S.au ev),[(0,.self),(94,.own 101),(78,.inst 22 mf),(79,.inst 22 mg),(33,.int i),(105,(.own 102)),(17,.int 0)],[(102,.l []),(101,.l [])]⟩ R:=by
  refine aL ?_
  refine Ub (n:=n+1) hf h ?_
  refine fH (st':=⟨some (S.au ev),[(0,.self),(94,.own 101),(78,.inst 22 mf),(79,.inst 22 mg),(33,.int i),(105,(.own 102)),(17,.int 1),(20,.str [32])],[(102,.l []),(101,.l [])]⟩) (λR h=>by
   conv=>whnf
   exact h) ?_
  exact b3
 refine aL ?_
 conv=>whnf
 conv=>whnf
 refine dw h ?_
 exact b2
theorem WR (hf:S.fl=0)(ha:S.aC=false)(h:S.r=97::58::d::r)(hd:fD d=true)(hQ:Q (sc [97] true S (S.aG 1) none) (some ((S.aG 1).au ev))):CO (n+6) 90 [.self] (some (S.au ev)) Q:=by
 refine aH rfl ?_
 have all:wpS TT (CO (n+5)) cI ⟨some (S.au ev),[(0,.self)],[]⟩ (bw Q):=by
  unfold cI
  have b2:wpS TT (CO (n+5)) (.whl (.aA (.bool true)) CG::Cz) ⟨some (S.au ev),[(0,.self),(94,.own 101),(78,S.bT),(79,S.bT),(33,.int (S.aJ+1)),(105,.own 102)],[(102,.l []),(101,.l [])]⟩ (bw Q):=by
   refine aL ?_
   intro P hP
   refine hP _ ?_
   have t:=Uk (n:=n) (S:=S) (ev:=ev) (i:=S.aJ+1) (mf:=S.Gm) (mg:=S.Gm) hf ha h hd (R:=λo st=>match o with
    | .next=>P st
    | .brk=>wpS TT (CO (n+5)) Cz st (bw Q)
    | .ret v=>bw Q (.ret v) st) (by
     exact hQ)
   exact t
  refine fH (st':=⟨some (S.au ev),[(0,.self),(94,.own 101)],[(101,.l [])]⟩) (λR h=>by
   conv=>whnf
   exact h) ?_
  refine aL ?_
  conv=>whnf
  conv=>whnf
  refine dR ?_
  have b1:wpS TT (CO (n+5)) (.asg 79 (.ak 78)::.asg 33 (.bin .add (.bB 33) (.aA (.int 1)))::.j7 105 102::.whl (.aA (.bool true)) CG::Cz) ⟨some (S.au ev),[(0,.self),(94,.own 101),(78,S.bT)],[(101,.l [])]⟩ (bw Q):=by
   refine zZ (st':=⟨some (S.au ev),[(0,.self),(94,.own 101),(78,S.bT),(79,S.bT),(33,.int (S.aJ+1)),(105,.own 102)],[(102,.l []),(101,.l [])]⟩) (λR h=>by
    conv=>whnf
    exact h) ?_
   exact b2
  exact b1
 exact all
theorem WM (hf:S.fl=0)(ha:S.aC=false)(h:S.r=98::32::99::58::d::r)(hd:fD d=true)(hc:S.fl≠0∨¬((S.aG 1).aG 1).col<S.aJ+1)(hQ:Q (sc [98,32,99] true S (((S.aG 1).aG 1).aG 1) none) (some ((((S.aG 1).aG 1).aG 1).au ev))):CO (n+6) 90 [.self] (some (S.au ev)) Q:=by
 refine aH rfl ?_
 have all:wpS TT (CO (n+5)) cI ⟨some (S.au ev),[(0,.self)],[]⟩ (bw Q):=by
  unfold cI
  have b2:wpS TT (CO (n+5)) (.whl (.aA (.bool true)) CG::Cz) ⟨some (S.au ev),[(0,.self),(94,.own 101),(78,S.bT),(79,S.bT),(33,.int (S.aJ+1)),(105,.own 102)],[(102,.l []),(101,.l [])]⟩ (bw Q):=by
   refine aL ?_
   intro P hP
   refine hP _ ?_
   have h3:((S.aG 1).aG 1).r=99::58::d::r:=by rw[PZ.bZ,PZ.bZ,h];rfl
   have e2:((S.aG 1).aG 1)=S.to ((S.aG 1).aG 1):=by
    have e1:S.aG 1=S.to (S.aG 1):=bA 1 S
    have e3:(S.to (S.aG 1)).aG 1=S.to ((S.aG 1).aG 1):=bA 1 _
    rw[<-e3,<-e1]
   have t:=Ui (n:=n) (S:=S) (ev:=ev) (i:=S.aJ+1) (mf:=S.Gm) (mg:=S.Gm) hf ha h hc (R:=λo st=>match o with
    | .next=>P st
    | .brk=>wpS TT (CO (n+5)) Cz st (bw Q)
    | .ret v=>bw Q (.ret v) st) (by
     refine hP _ ?_
     have t2:=Ug (n:=n) (S:=((S.aG 1).aG 1)) (ev:=ev) (i:=S.aJ+1) (mf:=S.Gm) (mg:=(S.aG 1).Gm) (by rw[e2];exact hf) (by rw[e2];exact ha) h3 hd (R:=λo st=>match o with
      | .next=>P st
      | .brk=>wpS TT (CO (n+5)) Cz st (bw Q)
      | .ret v=>bw Q (.ret v) st) (by
       exact hQ)
     exact t2)
   exact t
  refine fH (st':=⟨some (S.au ev),[(0,.self),(94,.own 101)],[(101,.l [])]⟩) (λR h=>by
   conv=>whnf
   exact h) ?_
  refine aL ?_
  conv=>whnf
  conv=>whnf
  refine dR ?_
  have b1:wpS TT (CO (n+5)) (.asg 79 (.ak 78)::.asg 33 (.bin .add (.bB 33) (.aA (.int 1)))::.j7 105 102::.whl (.aA (.bool true)) CG::Cz) ⟨some (S.au ev),[(0,.self),(94,.own 101),(78,S.bT)],[(101,.l [])]⟩ (bw Q):=by
   refine zZ (st':=⟨some (S.au ev),[(0,.self),(94,.own 101),(78,S.bT),(79,S.bT),(33,.int (S.aJ+1)),(105,.own 102)],[(102,.l []),(101,.l [])]⟩) (λR h=>by
    conv=>whnf
    exact h) ?_
   exact b2
  exact b1
 exact all
theorem Uj {mf mg:List (Nat×AV)}(hf:S.fl=1)(ha:S.aC=false)(h:S.r=97::58::d::r)(hd:fD d=true)(hR:R .brk ⟨some ((S.aG 1).au ev),[(0,.self),(94,.own 101),(78,.inst 22 mf),(79,(S.aG 1).bT),(33,.int i),(105,.lst []),(17,.int 1),(20,.str [58])],[(102,.l []),(101,.l [.str [97]])]⟩):
  wpS TT (CO (n+5)) CG ⟨some (S.au ev),[(0,.self),(94,.own 101),(78,.inst 22 mf),(79,.inst 22 mg),(33,.int i),(105,(.own 102))],[(102,.l []),(101,.l [])]⟩ R:=by
 refine fH (st':=⟨some (S.au ev),[(0,.self),(94,.own 101),(78,.inst 22 mf),(79,.inst 22 mg),(33,.int i),(105,(.own 102)),(17,.int 0)],[(102,.l []),(101,.l [])]⟩) (λR h=>by
  conv=>whnf
  exact h) ?_
 have b3:wpS TT (CO (n+5)) (.bC 35 (.aA (.bool false))::zP) ⟨some (S.au ev),[(0,.self),(94,.own 101),(78,.inst 22 mf),(79,.inst 22 mg),(33,.int i),(105,(.own 102)),(17,.int 1),(20,.str [58])],[(102,.l []),(101,.l [])]⟩ R:=by
  refine fH (st':=⟨some (({S with aC:=false}:PZ).au ev),[(0,.self),(94,.own 101),(78,.inst 22 mf),(79,.inst 22 mg),(33,.int i),(105,(.own 102)),(17,.int 1),(20,.str [58])],[(102,.l []),(101,.l [])]⟩) (λR h=>by
   conv=>whnf
   exact h) ?_
  rw[iD ha]
  exact Rg h hR
 have b2:wpS TT (CO (n+5)) (Ez::.ite (.cmp .eq (.ak 17) (.aA (.int 0))) [.bad] []::.bC 35 (.aA (.bool false))::zP) ⟨some (S.au ev),[(0,.self),(94,.own 101),(78,.inst 22 mf),(79,.inst 22 mg),(33,.int i),(105,(.own 102)),(17,.int 0)],[(102,.l []),(101,.l [])]⟩ R:=by
  refine aL ?_
  refine Uc (n:=n+1) hf h hd ?_
  refine fH (st':=⟨some (S.au ev),[(0,.self),(94,.own 101),(78,.inst 22 mf),(79,.inst 22 mg),(33,.int i),(105,(.own 102)),(17,.int 1),(20,.str [58])],[(102,.l []),(101,.l [])]⟩) (λR h=>by
   conv=>whnf
   exact h) ?_
  exact b3
 refine aL ?_
 conv=>whnf
 conv=>whnf
 refine dw h ?_
 exact b2
theorem Ue {mf mg:List (Nat×AV)}(hf:S.fl=1)(ha:S.aC=false)(h:S.r=99::58::d::r)(hd:fD d=true)(hR:R .brk ⟨some ((S.aG 1).au ev),[(0,.self),(94,.own 101),(78,.inst 22 mf),(79,(S.aG 1).bT),(33,.int i),(105,.lst []),(17,.int 1),(20,.str [58])],[(102,.l []),(101,.l [.str [98],.str [32],.str [99]])]⟩):
  wpS TT (CO (n+5)) CG ⟨some (S.au ev),[(0,.self),(94,.own 101),(78,.inst 22 mf),(79,.inst 22 mg),(33,.int i),(105,(.lst [.str [32]])),(17,.int 1),(20,.str [32])],[(102,.l []),(101,.l [.str [98]])]⟩ R:=by
 refine fH (st':=⟨some (S.au ev),[(0,.self),(94,.own 101),(78,.inst 22 mf),(79,.inst 22 mg),(33,.int i),(105,(.lst [.str [32]])),(17,.int 0),(20,.str [32])],[(102,.l []),(101,.l [.str [98]])]⟩) (λR h=>by
  conv=>whnf
  exact h) ?_
 have b3:wpS TT (CO (n+5)) (.bC 35 (.aA (.bool false))::zP) ⟨some (S.au ev),[(0,.self),(94,.own 101),(78,.inst 22 mf),(79,.inst 22 mg),(33,.int i),(105,(.lst [.str [32]])),(17,.int 1),(20,.str [58])],[(102,.l []),(101,.l [.str [98]])]⟩ R:=by
  refine fH (st':=⟨some (({S with aC:=false}:PZ).au ev),[(0,.self),(94,.own 101),(78,.inst 22 mf),(79,.inst 22 mg),(33,.int i),(105,(.lst [.str [32]])),(17,.int 1),(20,.str [58])],[(102,.l []),(101,.l [.str [98]])]⟩) (λR h=>by
   conv=>whnf
   exact h) ?_
  rw[iD ha]
  exact Rd h hR
 have b2:wpS TT (CO (n+5)) (Ez::.ite (.cmp .eq (.ak 17) (.aA (.int 0))) [.bad] []::.bC 35 (.aA (.bool false))::zP) ⟨some (S.au ev),[(0,.self),(94,.own 101),(78,.inst 22 mf),(79,.inst 22 mg),(33,.int i),(105,(.lst [.str [32]])),(17,.int 0),(20,.str [32])],[(102,.l []),(101,.l [.str [98]])]⟩ R:=by
  refine aL ?_
  refine T8 (n:=n+1) hf h hd ?_
  refine fH (st':=⟨some (S.au ev),[(0,.self),(94,.own 101),(78,.inst 22 mf),(79,.inst 22 mg),(33,.int i),(105,(.lst [.str [32]])),(17,.int 1),(20,.str [58])],[(102,.l []),(101,.l [.str [98]])]⟩) (λR h=>by
   conv=>whnf
   exact h) ?_
  exact b3
 refine aL ?_
 conv=>whnf
 conv=>whnf
 refine dw h ?_
 exact b2
theorem Uh {mf mg:List (Nat×AV)}(hf:S.fl=1)(ha:S.aC=false)(h:S.r=98::32::99::58::d::r)(hc:S.fl≠0∨¬((S.aG 1).aG 1).col<i)(hR:R .next ⟨some (((S.aG 1).aG 1).au ev),[(0,.self),(94,.own 101),(78,.inst 22 mf),(79,(S.aG 1).bT),(33,.int i),(105,.lst [.str [32]]),(17,.int 1),(20,.str [32])],[(102,.l []),(101,.l [.str [98]])]⟩):
  wpS TT (CO (n+5)) CG ⟨some (S.au ev),[(0,.self),(94,.own 101),(78,.inst 22 mf),(79,.inst 22 mg),(33,.int i),(105,(.own 102))],[(102,.l []),(101,.l [])]⟩ R:=by
 refine fH (st':=⟨some (S.au ev),[(0,.self),(94,.own 101),(78,.inst 22 mf),(79,.inst 22 mg),(33,.int i),(105,(.own 102)),(17,.int 0)],[(102,.l []),(101,.l [])]⟩) (λR h=>by
  conv=>whnf
  exact h) ?_
 have b3:wpS TT (CO (n+5)) (.bC 35 (.aA (.bool false))::zP) ⟨some (S.au ev),[(0,.self),(94,.own 101),(78,.inst 22 mf),(79,.inst 22 mg),(33,.int i),(105,(.own 102)),(17,.int 1),(20,.str [32])],[(102,.l []),(101,.l [])]⟩ R:=by
  refine fH (st':=⟨some (({S with aC:=false}:PZ).au ev),[(0,.self),(94,.own 101),(78,.inst 22 mf),(79,.inst 22 mg),(33,.int i),(105,(.own 102)),(17,.int 1),(20,.str [32])],[(102,.l []),(101,.l [])]⟩) (λR h=>by
   conv=>whnf
   exact h) ?_
  rw[iD ha]
  exact Rf h hc hR
 have b2:wpS TT (CO (n+5)) (Ez::.ite (.cmp .eq (.ak 17) (.aA (.int 0))) [.bad] []::.bC 35 (.aA (.bool false))::zP) ⟨some (S.au ev),[(0,.self),(94,.own 101),(78,.inst 22 mf),(79,.inst 22 mg),(33,.int i),(105,(.own 102)),(17,.int 0)],[(102,.l []),(101,.l [])]⟩ R:=by
  refine aL ?_
  refine Ua (n:=n+1) hf h ?_
  refine fH (st':=⟨some (S.au ev),[(0,.self),(94,.own 101),(78,.inst 22 mf),(79,.inst 22 mg),(33,.int i),(105,(.own 102)),(17,.int 1),(20,.str [32])],[(102,.l []),(101,.l [])]⟩) (λR h=>by
   conv=>whnf
   exact h) ?_
  exact b3
 refine aL ?_
 conv=>whnf
 conv=>whnf
 refine dw h ?_
 exact b2
theorem WQ (hf:S.fl=1)(ha:S.aC=false)(h:S.r=97::58::d::r)(hd:fD d=true)(hQ:Q (sc [97] true S (S.aG 1) none) (some ((S.aG 1).au ev))):CO (n+6) 90 [.self] (some (S.au ev)) Q:=by
 refine aH rfl ?_
 have all:wpS TT (CO (n+5)) cI ⟨some (S.au ev),[(0,.self)],[]⟩ (bw Q):=by
  unfold cI
  have b2:wpS TT (CO (n+5)) (.whl (.aA (.bool true)) CG::Cz) ⟨some (S.au ev),[(0,.self),(94,.own 101),(78,S.bT),(79,S.bT),(33,.int (S.aJ+1)),(105,.own 102)],[(102,.l []),(101,.l [])]⟩ (bw Q):=by
   refine aL ?_
   intro P hP
   refine hP _ ?_
   have t:=Uj (n:=n) (S:=S) (ev:=ev) (i:=S.aJ+1) (mf:=S.Gm) (mg:=S.Gm) hf ha h hd (R:=λo st=>match o with
    | .next=>P st
    | .brk=>wpS TT (CO (n+5)) Cz st (bw Q)
    | .ret v=>bw Q (.ret v) st) (by
     exact hQ)
   exact t
  refine fH (st':=⟨some (S.au ev),[(0,.self),(94,.own 101)],[(101,.l [])]⟩) (λR h=>by
   conv=>whnf
   exact h) ?_
  refine aL ?_
  conv=>whnf
  conv=>whnf
  refine dR ?_
  have b1:wpS TT (CO (n+5)) (.asg 79 (.ak 78)::.asg 33 (.bin .add (.bB 33) (.aA (.int 1)))::.j7 105 102::.whl (.aA (.bool true)) CG::Cz) ⟨some (S.au ev),[(0,.self),(94,.own 101),(78,S.bT)],[(101,.l [])]⟩ (bw Q):=by
   refine zZ (st':=⟨some (S.au ev),[(0,.self),(94,.own 101),(78,S.bT),(79,S.bT),(33,.int (S.aJ+1)),(105,.own 102)],[(102,.l []),(101,.l [])]⟩) (λR h=>by
    conv=>whnf
    exact h) ?_
   exact b2
  exact b1
 exact all
theorem WL (hf:S.fl=1)(ha:S.aC=false)(h:S.r=98::32::99::58::d::r)(hd:fD d=true)(hc:S.fl≠0∨¬((S.aG 1).aG 1).col<S.aJ+1)(hQ:Q (sc [98,32,99] true S (((S.aG 1).aG 1).aG 1) none) (some ((((S.aG 1).aG 1).aG 1).au ev))):CO (n+6) 90 [.self] (some (S.au ev)) Q:=by
 refine aH rfl ?_
 have all:wpS TT (CO (n+5)) cI ⟨some (S.au ev),[(0,.self)],[]⟩ (bw Q):=by
  unfold cI
  have b2:wpS TT (CO (n+5)) (.whl (.aA (.bool true)) CG::Cz) ⟨some (S.au ev),[(0,.self),(94,.own 101),(78,S.bT),(79,S.bT),(33,.int (S.aJ+1)),(105,.own 102)],[(102,.l []),(101,.l [])]⟩ (bw Q):=by
   refine aL ?_
   intro P hP
   refine hP _ ?_
   have h3:((S.aG 1).aG 1).r=99::58::d::r:=by rw[PZ.bZ,PZ.bZ,h];rfl
   have e2:((S.aG 1).aG 1)=S.to ((S.aG 1).aG 1):=by
    have e1:S.aG 1=S.to (S.aG 1):=bA 1 S
    have e3:(S.to (S.aG 1)).aG 1=S.to ((S.aG 1).aG 1):=bA 1 _
    rw[<-e3,<-e1]
   have t:=Uh (n:=n) (S:=S) (ev:=ev) (i:=S.aJ+1) (mf:=S.Gm) (mg:=S.Gm) hf ha h hc (R:=λo st=>match o with
    | .next=>P st
    | .brk=>wpS TT (CO (n+5)) Cz st (bw Q)
    | .ret v=>bw Q (.ret v) st) (by
     refine hP _ ?_
     have t2:=Ue (n:=n) (S:=((S.aG 1).aG 1)) (ev:=ev) (i:=S.aJ+1) (mf:=S.Gm) (mg:=(S.aG 1).Gm) (by rw[e2];exact hf) (by rw[e2];exact ha) h3 hd (R:=λo st=>match o with
      | .next=>P st
      | .brk=>wpS TT (CO (n+5)) Cz st (bw Q)
      | .ret v=>bw Q (.ret v) st) (by
       exact hQ)
     exact t2)
   exact t
  refine fH (st':=⟨some (S.au ev),[(0,.self),(94,.own 101)],[(101,.l [])]⟩) (λR h=>by
   conv=>whnf
   exact h) ?_
  refine aL ?_
  conv=>whnf
  conv=>whnf
  refine dR ?_
  have b1:wpS TT (CO (n+5)) (.asg 79 (.ak 78)::.asg 33 (.bin .add (.bB 33) (.aA (.int 1)))::.j7 105 102::.whl (.aA (.bool true)) CG::Cz) ⟨some (S.au ev),[(0,.self),(94,.own 101),(78,S.bT)],[(101,.l [])]⟩ (bw Q):=by
   refine zZ (st':=⟨some (S.au ev),[(0,.self),(94,.own 101),(78,S.bT),(79,S.bT),(33,.int (S.aJ+1)),(105,.own 102)],[(102,.l []),(101,.l [])]⟩) (λR h=>by
    conv=>whnf
    exact h) ?_
   exact b2
  exact b1
 exact all
end
section
variable {n:Nat}{S S₁ S' M:PZ}{ev m x t:AV}{b:Bool}{Q:AV->Option cF->Prop}{R:PS}{p:PP}{c d:Nat}{r:List Nat}{i:Int}{xs q:List AV}{rq:Bool}{tn:Int}
theorem ab1 (hs:Gh S S₁)(he:S₁.to S=S₁)(hf:S₁.fl=0∨S₁.fl=1)(h:S.r=97::58::d::r)(hd:fD d=true)(hl:(S₁.ao++[AV.none]).length<=1000):
  Fx 62 S false ((({S₁ with aC:=false,ao:=S₁.ao++[sc [97] true S (S.aG 1) none]}:PZ)).to (S.aG 1)):=by
 intro n p ev Q hQ
 refine aH rfl ?_
 refine hs _ p ev _ ?_
 have e2:((({S₁ with aC:=false}:PZ).w p).to S)=(({S₁ with aC:=false}:PZ).w p):=by
  rw[<-he];rfl
 have go:wpS TT (CO (n+14)) [.bC 35 (.aA (.bool false)),
  .app (.bB 30) (.aq 90 [] [])] ⟨some ((S₁.w p).au ev),[(0,.self)],[]⟩ (bw Q):=by
  refine fH (st':=⟨some ((({S₁ with aC:=false}:PZ).w p).au ev),[(0,.self)],[]⟩) (λR h=>by
   exact h) ?_
  refine aL (uY ?_)
  refine jH rfl rfl rfl ?_
  have hr:(({S₁ with aC:=false}:PZ).w p).r=S.r:=by rw[<-e2];rfl
  have hl':(S₁.ao++[sc [97] true S (S.aG 1) none]).length<=1000:=by simpa using hl
  have key:∀Q':AV->Option cF->Prop,Q' (sc [97] true S (S.aG 1) none) (some (((({S₁ with aC:=false}:PZ).w p).to (S.aG 1)).au ev))->CO (n+14) 90 [.self] (some ((({S₁ with aC:=false}:PZ).w p).au ev)) Q':=by
   intro Q' hq
   have kE:(({S₁ with aC:=false}:PZ).w p).aG 1=(({S₁ with aC:=false}:PZ).w p).to (S.aG 1):=by
    have:=bA (T:=(({S₁ with aC:=false}:PZ).w p)) 1 S
    rw[e2]at this;exact this
   have em:(({S₁ with aC:=false}:PZ).w p).bT=S.bT:=by rw[<-e2];rfl
   rcases hf with hf|hf
   ·refine WR (S:=(({S₁ with aC:=false}:PZ).w p)) hf rfl (hr.trans h) hd ?_
    rw[kE]
    unfold sc
    rw[em]
    exact hq
   ·refine WQ (S:=(({S₁ with aC:=false}:PZ).w p)) hf rfl (hr.trans h) hd ?_
    rw[kE]
    unfold sc
    rw[em]
    exact hq
  refine key _ ?_
  refine fX (d:=.bN 0) (v:=sc [97] true S (S.aG 1) none) (xs:=S₁.ao) (st:=⟨some (((({S₁ with aC:=false}:PZ).w p).to (S.aG 1)).au ev),[(0,.self)],[]⟩)
   (st':=⟨some ((((({S₁ with aC:=false,ao:=S₁.ao++[sc [97] true S (S.aG 1) none]}:PZ)).to (S.aG 1)).w p).au ev),[(0,.self)],[]⟩) rfl rfl hl' rfl ?_
  exact hQ
 exact go
theorem ab0 (hs:Gh S S₁)(he:S₁.to S=S₁)(hf:S₁.fl=0∨S₁.fl=1)(h:S.r=98::32::99::58::d::r)(hd:fD d=true)(hc:S₁.fl≠0∨¬((S.aG 1).aG 1).col<S₁.aJ+1)(hl:(S₁.ao++[AV.none]).length<=1000):
  Fx 62 S false ((({S₁ with aC:=false,ao:=S₁.ao++[sc [98,32,99] true S (((S.aG 1).aG 1).aG 1) none]}:PZ)).to (((S.aG 1).aG 1).aG 1)):=by
 intro n p ev Q hQ
 refine aH rfl ?_
 refine hs _ p ev _ ?_
 have e2:((({S₁ with aC:=false}:PZ).w p).to S)=(({S₁ with aC:=false}:PZ).w p):=by
  rw[<-he];rfl
 have go:wpS TT (CO (n+14)) [.bC 35 (.aA (.bool false)),
  .app (.bB 30) (.aq 90 [] [])] ⟨some ((S₁.w p).au ev),[(0,.self)],[]⟩ (bw Q):=by
  refine fH (st':=⟨some ((({S₁ with aC:=false}:PZ).w p).au ev),[(0,.self)],[]⟩) (λR h=>by
   exact h) ?_
  refine aL (uY ?_)
  refine jH rfl rfl rfl ?_
  have hr:(({S₁ with aC:=false}:PZ).w p).r=S.r:=by rw[<-e2];rfl
  have hl':(S₁.ao++[sc [98,32,99] true S (((S.aG 1).aG 1).aG 1) none]).length<=1000:=by simpa using hl
  have key:∀Q':AV->Option cF->Prop,Q' (sc [98,32,99] true S (((S.aG 1).aG 1).aG 1) none) (some (((({S₁ with aC:=false}:PZ).w p).to (((S.aG 1).aG 1).aG 1)).au ev))->CO (n+14) 90 [.self] (some ((({S₁ with aC:=false}:PZ).w p).au ev)) Q':=by
   intro Q' hq
   have kE:(({S₁ with aC:=false}:PZ).w p).aG 1=(({S₁ with aC:=false}:PZ).w p).to (S.aG 1):=by
    have:=bA (T:=(({S₁ with aC:=false}:PZ).w p)) 1 S
    rw[e2]at this;exact this
   have em:(({S₁ with aC:=false}:PZ).w p).bT=S.bT:=by rw[<-e2];rfl
   have aar:((({S₁ with aC:=false}:PZ).w p).aG 1).aG 1=(({S₁ with aC:=false}:PZ).w p).to ((S.aG 1).aG 1):=by
    rw[kE];exact bA 1 _
   have aaq:(((({S₁ with aC:=false}:PZ).w p).aG 1).aG 1).aG 1=(({S₁ with aC:=false}:PZ).w p).to (((S.aG 1).aG 1).aG 1):=by
    rw[aar];exact bA 1 _
   have hc':(({S₁ with aC:=false}:PZ).w p).fl≠0∨¬(((({S₁ with aC:=false}:PZ).w p).aG 1).aG 1).col<(({S₁ with aC:=false}:PZ).w p).aJ+1:=by
    rw[aar];exact hc
   rcases hf with hf|hf
   ·refine WM (S:=(({S₁ with aC:=false}:PZ).w p)) hf rfl (hr.trans h) hd hc' ?_
    rw[aaq]
    unfold sc
    rw[em]
    exact hq
   ·refine WL (S:=(({S₁ with aC:=false}:PZ).w p)) hf rfl (hr.trans h) hd hc' ?_
    rw[aaq]
    unfold sc
    rw[em]
    exact hq
  refine key _ ?_
  refine fX (d:=.bN 0) (v:=sc [98,32,99] true S (((S.aG 1).aG 1).aG 1) none) (xs:=S₁.ao) (st:=⟨some (((({S₁ with aC:=false}:PZ).w p).to (((S.aG 1).aG 1).aG 1)).au ev),[(0,.self)],[]⟩)
   (st':=⟨some ((((({S₁ with aC:=false,ao:=S₁.ao++[sc [98,32,99] true S (((S.aG 1).aG 1).aG 1) none]}:PZ)).to (((S.aG 1).aG 1).aG 1)).w p).au ev),[(0,.self)],[]⟩) rfl rfl hl' rfl ?_
  exact hQ
 exact go
end
section
variable {n:Nat}{S S₁ S' M:PZ}{ev m x t:AV}{b:Bool}{Q:AV->Option cF->Prop}{R:PS}{p:PP}{c d:Nat}{r:List Nat}{i:Int}{xs q:List AV}{rq:Bool}{tn:Int}
theorem rR (T:PZ):T.aG 1=T.to (T.aG 1):=bA (T:=T) 1 T
noncomputable abbrev Xl (c:Nat):List IS:=[
  .asg 78 (.aq 21 [] []),
  .exp (.aq 19 [] []),
  .asg 79 (.aq 21 [] []),
  .app (.bB 30) (.bR c [(.ak 78),(.ak 79)] [])]
noncomputable abbrev mfl:List IS:=[
  .asg 78 (.aq 21 [] []),
  .exp (.aq 19 [] []),
  .asg 79 (.aq 21 [] []),
  .app (.bB 30) (.lq 80 [(.ak 78),(.ak 79)])]
theorem Dd {kv:AV}(h:S.r=c::d::r)(hl:(S.ao++[AV.none]).length<=1000)(hQ:Q .none (some ((({S with ao:=S.ao++[tk 86 S (S.aG 1)]}:PZ).to (S.aG 1)).au ev))):wpS TT (CO (n+3)) (Xl 86) ⟨some (S.au ev),[(0,.self),(65,kv)],[]⟩ (bw Q):=by
 have hl':(S.ao++[tk 86 S (S.aG 1)]).length<=1000:=by simpa using hl
 refine dR ?_
 refine bH (k:=1) (by rw[h];simp) ?_
 refine dR ?_
 have e:S.aG 1=S.to (S.aG 1):=rR S
 have go:wpS TT (CO (n+3)) [.app (.bB 30) (.bR 86 [(.ak 78),(.ak 79)] [])] ⟨some ((S.aG 1).au ev),[(0,.self),(65,kv),(78,S.bT),(79,(S.aG 1).bT)],[]⟩ (bw Q):=by
  have hp:(S.aG 1).ao=S.ao:=by rw[e];rfl
  refine fX (d:=.bN 0) (v:=tk 86 S (S.aG 1)) (xs:=S.ao) (st:=⟨some ((S.aG 1).au ev),[(0,.self),(65,kv),(78,S.bT),(79,(S.aG 1).bT)],[]⟩)
   (st':=⟨some ((({S with ao:=S.ao++[tk 86 S (S.aG 1)]}:PZ).to (S.aG 1)).au ev),[(0,.self),(65,kv),(78,S.bT),(79,(S.aG 1).bT)],[]⟩) (by
    show some (S.aG 1).ao=_
    rw[hp]) rfl hl' (by
    have:(({S with ao:=S.ao++[tk 86 S (S.aG 1)]}:PZ).to (S.aG 1))={S.aG 1 with ao:=S.ao++[tk 86 S (S.aG 1)]}:=by
     conv=>rhs;rw[e]
     rfl
    rw[this]
    rfl) ?_
  exact hQ
 exact go
theorem Zc {kv:AV}(h:S.r=c::d::r)(hl:(S.ao++[AV.none]).length<=1000)(hQ:Q .none (some ((({S with ao:=S.ao++[tk 83 S (S.aG 1)]}:PZ).to (S.aG 1)).au ev))):wpS TT (CO (n+3)) (Xl 83) ⟨some (S.au ev),[(0,.self)],[]⟩ (bw Q):=by
 have hl':(S.ao++[tk 83 S (S.aG 1)]).length<=1000:=by simpa using hl
 refine dR ?_
 refine bH (k:=1) (by rw[h];simp) ?_
 refine dR ?_
 have e:S.aG 1=S.to (S.aG 1):=rR S
 have go:wpS TT (CO (n+3)) [.app (.bB 30) (.bR 83 [(.ak 78),(.ak 79)] [])] ⟨some ((S.aG 1).au ev),[(0,.self),(78,S.bT),(79,(S.aG 1).bT)],[]⟩ (bw Q):=by
  have hp:(S.aG 1).ao=S.ao:=by rw[e];rfl
  refine fX (d:=.bN 0) (v:=tk 83 S (S.aG 1)) (xs:=S.ao) (st:=⟨some ((S.aG 1).au ev),[(0,.self),(78,S.bT),(79,(S.aG 1).bT)],[]⟩)
   (st':=⟨some ((({S with ao:=S.ao++[tk 83 S (S.aG 1)]}:PZ).to (S.aG 1)).au ev),[(0,.self),(78,S.bT),(79,(S.aG 1).bT)],[]⟩) (by
    show some (S.aG 1).ao=_
    rw[hp]) rfl hl' (by
    have:(({S with ao:=S.ao++[tk 83 S (S.aG 1)]}:PZ).to (S.aG 1))={S.aG 1 with ao:=S.ao++[tk 83 S (S.aG 1)]}:=by
     conv=>rhs;rw[e]
     rfl
    rw[this]
    rfl) ?_
  exact hQ
 exact go
theorem Ze (h:S.r=c::d::r)(hl:(S.ao++[AV.none]).length<=1000)(hQ:Q .none (some ((({S with ao:=S.ao++[tk 77 S (S.aG 1)]}:PZ).to (S.aG 1)).au ev))):wpS TT (CO (n+3)) mfl ⟨some (S.au ev),[(0,.self),(80,.cls 77)],[]⟩ (bw Q):=by
 have hl':(S.ao++[tk 77 S (S.aG 1)]).length<=1000:=by simpa using hl
 refine dR ?_
 refine bH (k:=1) (by rw[h];simp) ?_
 refine dR ?_
 have e:S.aG 1=S.to (S.aG 1):=rR S
 have go:wpS TT (CO (n+3)) [.app (.bB 30) (.lq 80 [(.ak 78),(.ak 79)])] ⟨some ((S.aG 1).au ev),[(0,.self),(80,.cls 77),(78,S.bT),(79,(S.aG 1).bT)],[]⟩ (bw Q):=by
  have hp:(S.aG 1).ao=S.ao:=by rw[e];rfl
  refine fX (d:=.bN 0) (v:=tk 77 S (S.aG 1)) (xs:=S.ao) (st:=⟨some ((S.aG 1).au ev),[(0,.self),(80,.cls 77),(78,S.bT),(79,(S.aG 1).bT)],[]⟩)
   (st':=⟨some ((({S with ao:=S.ao++[tk 77 S (S.aG 1)]}:PZ).to (S.aG 1)).au ev),[(0,.self),(80,.cls 77),(78,S.bT),(79,(S.aG 1).bT)],[]⟩) (by
    show some (S.aG 1).ao=_
    rw[hp]) rfl hl' (by
    have:(({S with ao:=S.ao++[tk 77 S (S.aG 1)]}:PZ).to (S.aG 1))={S.aG 1 with ao:=S.ao++[tk 77 S (S.aG 1)]}:=by
     conv=>rhs;rw[e]
     rfl
    rw[this]
    rfl) ?_
  exact hQ
 exact go
theorem Zd (h:S.r=c::d::r)(hl:(S.ao++[AV.none]).length<=1000)(hQ:Q .none (some ((({S with ao:=S.ao++[tk 82 S (S.aG 1)]}:PZ).to (S.aG 1)).au ev))):wpS TT (CO (n+3)) mfl ⟨some (S.au ev),[(0,.self),(80,.cls 82)],[]⟩ (bw Q):=by
 have hl':(S.ao++[tk 82 S (S.aG 1)]).length<=1000:=by simpa using hl
 refine dR ?_
 refine bH (k:=1) (by rw[h];simp) ?_
 refine dR ?_
 have e:S.aG 1=S.to (S.aG 1):=rR S
 have go:wpS TT (CO (n+3)) [.app (.bB 30) (.lq 80 [(.ak 78),(.ak 79)])] ⟨some ((S.aG 1).au ev),[(0,.self),(80,.cls 82),(78,S.bT),(79,(S.aG 1).bT)],[]⟩ (bw Q):=by
  have hp:(S.aG 1).ao=S.ao:=by rw[e];rfl
  refine fX (d:=.bN 0) (v:=tk 82 S (S.aG 1)) (xs:=S.ao) (st:=⟨some ((S.aG 1).au ev),[(0,.self),(80,.cls 82),(78,S.bT),(79,(S.aG 1).bT)],[]⟩)
   (st':=⟨some ((({S with ao:=S.ao++[tk 82 S (S.aG 1)]}:PZ).to (S.aG 1)).au ev),[(0,.self),(80,.cls 82),(78,S.bT),(79,(S.aG 1).bT)],[]⟩) (by
    show some (S.aG 1).ao=_
    rw[hp]) rfl hl' (by
    have:(({S with ao:=S.ao++[tk 82 S (S.aG 1)]}:PZ).to (S.aG 1))={S.aG 1 with ao:=S.ao++[tk 82 S (S.aG 1)]}:=by
     conv=>rhs;rw[e]
     rfl
    rw[this]
    rfl) ?_
  exact hQ
 exact go
end
section
variable {n:Nat}{S S₁ S' M:PZ}{ev m x t:AV}{b:Bool}{Q:AV->Option cF->Prop}{R:PS}{p:PP}{c d:Nat}{r:List Nat}{i:Int}{xs q:List AV}{rq:Bool}{tn:Int}
theorem f54 (hg:iJ S.fl S.cg=none)(hl:(S.ao++[AV.none]).length<=1000)(h:S.r=c::d::r):
  Fx 54 S false (({S with aC:=true,ao:=S.ao++[tk 83 S (S.aG 1)]}:PZ).to (S.aG 1)):=by
 intro n p ev Q hQ
 refine aH rfl ?_
 have e:(({S with aC:=true}:PZ).w p).aG 1=(({S with aC:=true}:PZ).w p).to (S.aG 1):=bA (T:=(({S with aC:=true}:PZ).w p)) 1 S
 refine DY (S:=(({S with aC:=true}:PZ).w p)) hg ?_
 refine Zc (kv:=.none) (S:=(({S with aC:=true}:PZ).w p)) h hl ?_
 rw[e]
 exact hQ
theorem acp (hg:iJ S.fl S.cg=none)(hl:(S.ao++[AV.none]).length<=1000)(h:S.r=c::d::r)
  (hQ:Q .none (some ((((({S with fl:=S.fl - 1,aC:=false,ao:=S.ao++[tk 82 S (S.aG 1)]}:PZ).to (S.aG 1)).w p)).au ev))):CO (n+4) 81 [.self,.cls 82] (some ((S.w p).au ev)) Q:=by
 refine aH rfl ?_
 have e:(({S with fl:=S.fl - 1,aC:=false}:PZ).w p).aG 1=(({S with fl:=S.fl - 1,aC:=false}:PZ).w p).to (S.aG 1):=bA (T:=(({S with fl:=S.fl - 1,aC:=false}:PZ).w p)) 1 S
 refine DY (S:=(S.w p)) hg ?_
 refine Zd (S:=(({S with fl:=S.fl - 1,aC:=false}:PZ).w p)) h hl ?_
 rw[e]
 exact hQ
theorem f53 (hg:iJ S.fl S.cg=none)(hl:(S.ao++[AV.none]).length<=1000)(h:S.r=c::d::r):
  Fx 53 S false (({S with fl:=S.fl - 1,aC:=false,ao:=S.ao++[tk 82 S (S.aG 1)]}:PZ).to (S.aG 1)):=by
 intro n p ev Q hQ
 refine aH rfl ?_
 refine acp hg hl h ?_
 exact hQ
theorem acq (hs:Gh S S₁)(he:S₁.to S=S₁)(hl:(S₁.ao++[AV.none]).length<=1000)(h:S.r=c::d::r)
  (hQ:Q .none (some ((((({S₁ with fl:=S₁.fl+1,aC:=true,ao:=S₁.ao++[tk 77 S (S.aG 1)]}:PZ).to (S.aG 1)).w p)).au ev))):CO (n+5) 76 [.self,.cls 77] (some ((S.w p).au ev)) Q:=by
 refine aH rfl ?_
 have e0:(({S₁ with fl:=S₁.fl+1,aC:=true}:PZ).w p)=(({S₁ with fl:=S₁.fl+1,aC:=true}:PZ).w p).to S:=by
  conv=>lhs;rw[<-he]
  rfl
 have e:(({S₁ with fl:=S₁.fl+1,aC:=true}:PZ).w p).aG 1=(({S₁ with fl:=S₁.fl+1,aC:=true}:PZ).w p).to (S.aG 1):=by
  conv=>lhs;rw[e0]
  exact bA (T:=(({S₁ with fl:=S₁.fl+1,aC:=true}:PZ).w p)) 1 S
 have em:tk 77 (({S₁ with fl:=S₁.fl+1,aC:=true}:PZ).w p) ((({S₁ with fl:=S₁.fl+1,aC:=true}:PZ).w p).aG 1)=tk 77 S (S.aG 1):=by
  rw[e]
  unfold tk
  have:(({S₁ with fl:=S₁.fl+1,aC:=true}:PZ).w p).bT=S.bT:=by rw[e0];rfl
  rw[this]
  rfl
 have h':(({S₁ with fl:=S₁.fl+1,aC:=true}:PZ).w p).r=c::d::r:=by
  rw[<-h,e0];rfl
 refine hs _ p ev _ ?_
 refine Ze (S:=(({S₁ with fl:=S₁.fl+1,aC:=true}:PZ).w p)) h' hl ?_
 rw[em,e]
 exact hQ
theorem f52 (hs:Gh S S₁)(he:S₁.to S=S₁)(hl:(S₁.ao++[AV.none]).length<=1000)(h:S.r=c::d::r):
  Fx 52 S false (({S₁ with fl:=S₁.fl+1,aC:=true,ao:=S₁.ao++[tk 77 S (S.aG 1)]}:PZ).to (S.aG 1)):=by
 intro n p ev Q hQ
 refine aH rfl ?_
 refine acq hs he hl h ?_
 exact hQ
end
noncomputable abbrev ZR:IS:=.ins (.bB 30) (.bin .sub (.fld (.ak 65) 66) (.bB 32)) (.bR 84 [(.fld (.ak 65) 71),(.fld (.ak 65) 71)] [])
noncomputable abbrev Pj:List IS:=[.ite (.not_ (.bB 29)) [.ite (.aq 73 [(.fld (.ak 65) 13)] []) [.ins (.bB 30) (.bin .sub (.fld (.ak 65) 66) (.bB 32)) (.bR 85 [(.fld (.ak 65) 71),(.fld (.ak 65) 71)] [])] []] [],.bC 35 (.aA (.bool false))]
noncomputable abbrev fvH:IS:=.ite (.cmp .fJ (.bB 29) (.bB 36)) (.asg 65 (.idx (.bB 36) (.bB 29))::.del 36 (.bB 29)::ZR::Pj) [.bad,.bad,.bad,.bad]
theorem tU {st st':AS}{d v:AV}{i:Int}{xs ys q:List AV}{Q:AS->Prop}(h1:qO st d=some xs)(hx:xs=q++ys)(hi:i=(q.length:Nat))(h2:v.clo=true)(hl:(q++v::ys).length<=1000)(h3:setSlot st (.l (q++v::ys)) d=some st')(hQ:Q st'):
  pick (qO st d) λxs=>pick (AV.int i).gK λi=>kI v.clo (pick (eN i (xs.length+1)) λk=>pick ((z9 (xs.take k++v::xs.drop k)).bind λl=>setSlot st (.l l) d) Q):=by
 subst hx
 exact aO h1 (aO rfl (dg h2 (aO (TP hi (by rw[List.length_append];omega)) (aO (by rw[List.take_left,List.drop_left,pK hl];exact h3) hQ))))
section
variable {n:Nat}{S S₁ S' M:PZ}{ev m x t k0:AV}{b:Bool}{Q:AV->Option cF->Prop}{R:PS}{p:PP}{c d:Nat}{r:List Nat}{i:Int}{xs q:List AV}{rq:Bool}{tn:Int}
theorem ab2 (hf:S.fl=0)(hp:S.cg=[(0,keyV tn rq M)])(ht:S.ao=q++[t])(htn:tn - S.aY=(q.length:Nat))(hl:(q++[t]++[AV.none]++[AV.none]++[AV.none]).length<=1000)(h:S.r=c::d::r)(hi:¬S.aJ<M.col):
  Fx 58 S false (({S with aC:=false,cg:=[],ao:=(q++tk 84 M M::[t])++[tk 86 S (S.aG 1)]}:PZ).to (S.aG 1)):=by
 intro n p ev Q hQ
 have hl1:(q++tk 84 M M::[t]).length<=1000:=by simp at hl⊢;omega
 have hl2:(q++tk 85 M M::tk 84 M M::[t]).length<=1000:=by simp at hl⊢;omega
 have hl3:((q++tk 84 M M::[t])++[AV.none]).length<=1000:=by simp at hl⊢;omega
 let Y:PZ:={S with aC:=false,cg:=[],ao:=(q++tk 84 M M::[t])}
 have e:(Y.w p).aG 1=(Y.w p).to (S.aG 1):=bA (T:=(Y.w p)) 1 S
 have em:tk 86 (Y.w p) ((Y.w p).aG 1)=tk 86 S (S.aG 1):=by
  rw[e]
  rfl
 have fin:∀lo,lo=[(0,AV.self),(65,keyV tn rq M)]->wpS TT (CO (n+14)) (Xl 86) ⟨some ((Y.w p).au ev),lo,[]⟩ (bw Q):=by
  rintro lo rfl
  refine Dd (kv:=keyV tn rq M) (S:=Y.w p) h hl3 ?_
  rw[em,e]
  exact hQ
 let Y0:PZ:={S with cg:=[]}
 let Y1:PZ:={S with cg:=[],ao:=q++tk 84 M M::[t]}
 have b3:∀R:PS,R .next ⟨some ((Y.w p).au ev),[(0,.self),(65,keyV tn rq M)],[]⟩->wpS TT (CO (n+14)) Pj ⟨some ((Y1.w p).au ev),[(0,.self),(65,keyV tn rq M)],[]⟩ R:=by
  intro R hR
  obtain⟨buf,ptr,line,col,done,fl,ao,aY,aJ,aN,aC,cg,aW,bD,state,tg⟩:=S
  dsimp only at hf hp ht htn hi
  subst hf hp ht
  refine WK (S:=Y1.w p) (i:=M.col) hi ?_
  exact hR
 have b2:∀R:PS,R .next ⟨some ((Y.w p).au ev),[(0,.self),(65,keyV tn rq M)],[]⟩->wpS TT (CO (n+14)) (ZR::Pj) ⟨some ((Y0.w p).au ev),[(0,.self),(65,keyV tn rq M)],[]⟩ R:=by
  intro R hR
  refine aL (BX ?_)
  refine jH rfl rfl rfl ?_
  refine tU (d:=.bN 0) (v:=tk 84 M M) (i:=tn - S.aY) (xs:=S.ao) (ys:=[t]) (q:=q) (st:=⟨some ((Y0.w p).au ev),[(0,.self),(65,keyV tn rq M)],[]⟩)
   (st':=⟨some ((Y1.w p).au ev),[(0,.self),(65,keyV tn rq M)],[]⟩) rfl ht htn rfl hl1 rfl ?_
  exact b3 R hR
 refine aH rfl ?_
 have b1:wpS TT (CO (n+14)) fG ⟨some ((S.w p).au ev),[(0,.self)],[]⟩ (bw Q):=by
  refine aL ?_
  have b0:∀R:PS,R .next ⟨some ((Y.w p).au ev),[(0,.self),(65,keyV tn rq M)],[]⟩->wp1 TT (CO (n+14)) fvH ⟨some ((S.w p).au ev),[(0,.self)],[]⟩ R:=by
   intro R hR
   have Wg:=b2 R hR
   clear b2 b3 fin em e
   obtain⟨buf,ptr,line,col,done,fl,ao,aY,aJ,aN,aC,cg,aW,bD,state,tg⟩:=S
   dsimp only at hf hp ht
   subst hf hp ht
   exact Wg
  exact b0 _ (fin _ rfl)
 exact b1
theorem ab3 (hf:S.fl=0)(hp:S.cg=[(0,keyV tn rq M)])(ht:S.ao=q++[t])(htn:tn - S.aY=(q.length:Nat))(hl:(q++[t]++[AV.none]++[AV.none]++[AV.none]).length<=1000)(h:S.r=c::d::r)(hi:S.aJ= -1)(hI:S.aN=[])(hM:M.col=0):
  Fx 58 S false (({S with aC:=false,cg:=[],ao:=(q++tk 85 M M::tk 84 M M::[t])++[tk 86 S (S.aG 1)],aJ:=0,aN:=[.int (-1)]}:PZ).to (S.aG 1)):=by
 intro n p ev Q hQ
 have hl1:(q++tk 84 M M::[t]).length<=1000:=by simp at hl⊢;omega
 have hl2:(q++tk 85 M M::tk 84 M M::[t]).length<=1000:=by simp at hl⊢;omega
 have hl3:((q++tk 85 M M::tk 84 M M::[t])++[AV.none]).length<=1000:=by simp at hl⊢;omega
 let Y:PZ:={S with aC:=false,cg:=[],ao:=(q++tk 85 M M::tk 84 M M::[t]),aJ:=0,aN:=[.int (-1)]}
 have e:(Y.w p).aG 1=(Y.w p).to (S.aG 1):=bA (T:=(Y.w p)) 1 S
 have em:tk 86 (Y.w p) ((Y.w p).aG 1)=tk 86 S (S.aG 1):=by
  rw[e]
  rfl
 have fin:∀lo,lo=[(0,AV.self),(65,keyV tn rq M)]->wpS TT (CO (n+14)) (Xl 86) ⟨some ((Y.w p).au ev),lo,[]⟩ (bw Q):=by
  rintro lo rfl
  refine Dd (kv:=keyV tn rq M) (S:=Y.w p) h hl3 ?_
  rw[em,e]
  exact hQ
 let Y0:PZ:={S with cg:=[]}
 let Y1:PZ:={S with cg:=[],ao:=q++tk 84 M M::[t]}
 let Y2:PZ:={Y1 with aN:=[.int (-1)],aJ:=0}
 have b3:∀R:PS,R .next ⟨some ((Y.w p).au ev),[(0,.self),(65,keyV tn rq M)],[]⟩->wpS TT (CO (n+14)) Pj ⟨some ((Y1.w p).au ev),[(0,.self),(65,keyV tn rq M)],[]⟩ R:=by
  intro R hR
  obtain⟨buf,ptr,line,col,done,fl,ao,aY,aJ,aN,aC,cg,aW,bD,state,tg⟩:=S
  dsimp only at hf hp ht htn hi hI
  subst hf hp ht hi hI
  refine WD (S:=Y1.w p) (i:=M.col) (by rw[hM];show(-1:Int)<0;decide) (by show 1<=1000;decide) ?_
  refine tU (d:=.bN 0) (v:=tk 85 M M) (i:=tn - aY) (xs:=q++tk 84 M M::[t]) (ys:=tk 84 M M::[t]) (q:=q) (st:=⟨some ((({Y1 with aN:=[.int (-1)],aJ:=M.col}:PZ).w p).au ev),[(0,.self),(65,keyV tn rq M)],[]⟩)
   (st':=⟨some ((({Y1 with aN:=[.int (-1)],aJ:=M.col,ao:=q++tk 85 M M::tk 84 M M::[t]}:PZ).w p).au ev),[(0,.self),(65,keyV tn rq M)],[]⟩) rfl rfl htn rfl hl2 rfl ?_
  rw[hM]
  exact hR
 have b2:∀R:PS,R .next ⟨some ((Y.w p).au ev),[(0,.self),(65,keyV tn rq M)],[]⟩->wpS TT (CO (n+14)) (ZR::Pj) ⟨some ((Y0.w p).au ev),[(0,.self),(65,keyV tn rq M)],[]⟩ R:=by
  intro R hR
  refine aL (BX ?_)
  refine jH rfl rfl rfl ?_
  refine tU (d:=.bN 0) (v:=tk 84 M M) (i:=tn - S.aY) (xs:=S.ao) (ys:=[t]) (q:=q) (st:=⟨some ((Y0.w p).au ev),[(0,.self),(65,keyV tn rq M)],[]⟩)
   (st':=⟨some ((Y1.w p).au ev),[(0,.self),(65,keyV tn rq M)],[]⟩) rfl ht htn rfl hl1 rfl ?_
  exact b3 R hR
 refine aH rfl ?_
 have b1:wpS TT (CO (n+14)) fG ⟨some ((S.w p).au ev),[(0,.self)],[]⟩ (bw Q):=by
  have b0:∀R:PS,R .next ⟨some ((Y.w p).au ev),[(0,.self),(65,keyV tn rq M)],[]⟩->wp1 TT (CO (n+14)) fvH ⟨some ((S.w p).au ev),[(0,.self)],[]⟩ R:=by
   intro R hR
   have Wg:=b2 R hR
   clear b2 b3 fin em e
   obtain⟨buf,ptr,line,col,done,fl,ao,aY,aJ,aN,aC,cg,aW,bD,state,tg⟩:=S
   dsimp only at hf hp ht
   subst hf hp ht
   exact Wg
  exact b0 _ (fin _ rfl)
 exact b1
theorem ab5 (hf:S.fl=1)(hp:S.cg=[(1,keyV tn rq M)])(ht:S.ao=q++[t])(htn:tn - S.aY=(q.length:Nat))(hl:(q++[t]++[AV.none]++[AV.none]++[AV.none]).length<=1000)(h:S.r=c::d::r):
  Fx 58 S false (({S with aC:=false,cg:=[],ao:=(q++tk 84 M M::[t])++[tk 86 S (S.aG 1)]}:PZ).to (S.aG 1)):=by
 intro n p ev Q hQ
 have hl1:(q++tk 84 M M::[t]).length<=1000:=by simp at hl⊢;omega
 have hl2:(q++tk 85 M M::tk 84 M M::[t]).length<=1000:=by simp at hl⊢;omega
 have hl3:((q++tk 84 M M::[t])++[AV.none]).length<=1000:=by simp at hl⊢;omega
 let Y:PZ:={S with aC:=false,cg:=[],ao:=(q++tk 84 M M::[t])}
 have e:(Y.w p).aG 1=(Y.w p).to (S.aG 1):=bA (T:=(Y.w p)) 1 S
 have em:tk 86 (Y.w p) ((Y.w p).aG 1)=tk 86 S (S.aG 1):=by
  rw[e]
  rfl
 have fin:∀lo,lo=[(0,AV.self),(65,keyV tn rq M)]->wpS TT (CO (n+14)) (Xl 86) ⟨some ((Y.w p).au ev),lo,[]⟩ (bw Q):=by
  rintro lo rfl
  refine Dd (kv:=keyV tn rq M) (S:=Y.w p) h hl3 ?_
  rw[em,e]
  exact hQ
 let Y0:PZ:={S with cg:=[]}
 let Y1:PZ:={S with cg:=[],ao:=q++tk 84 M M::[t]}
 have b3:∀R:PS,R .next ⟨some ((Y.w p).au ev),[(0,.self),(65,keyV tn rq M)],[]⟩->wpS TT (CO (n+14)) Pj ⟨some ((Y1.w p).au ev),[(0,.self),(65,keyV tn rq M)],[]⟩ R:=by
  intro R hR
  obtain⟨buf,ptr,line,col,done,fl,ao,aY,aJ,aN,aC,cg,aW,bD,state,tg⟩:=S
  dsimp only at hf hp ht htn
  subst hf hp ht
  exact hR
 have b2:∀R:PS,R .next ⟨some ((Y.w p).au ev),[(0,.self),(65,keyV tn rq M)],[]⟩->wpS TT (CO (n+14)) (ZR::Pj) ⟨some ((Y0.w p).au ev),[(0,.self),(65,keyV tn rq M)],[]⟩ R:=by
  intro R hR
  refine aL (BX ?_)
  refine jH rfl rfl rfl ?_
  refine tU (d:=.bN 0) (v:=tk 84 M M) (i:=tn - S.aY) (xs:=S.ao) (ys:=[t]) (q:=q) (st:=⟨some ((Y0.w p).au ev),[(0,.self),(65,keyV tn rq M)],[]⟩)
   (st':=⟨some ((Y1.w p).au ev),[(0,.self),(65,keyV tn rq M)],[]⟩) rfl ht htn rfl hl1 rfl ?_
  exact b3 R hR
 refine aH rfl ?_
 have b1:wpS TT (CO (n+14)) fG ⟨some ((S.w p).au ev),[(0,.self)],[]⟩ (bw Q):=by
  refine aL ?_
  have b0:∀R:PS,R .next ⟨some ((Y.w p).au ev),[(0,.self),(65,keyV tn rq M)],[]⟩->wp1 TT (CO (n+14)) fvH ⟨some ((S.w p).au ev),[(0,.self)],[]⟩ R:=by
   intro R hR
   have Wg:=b2 R hR
   clear b2 b3 fin em e
   obtain⟨buf,ptr,line,col,done,fl,ao,aY,aJ,aN,aC,cg,aW,bD,state,tg⟩:=S
   dsimp only at hf hp ht
   subst hf hp ht
   exact Wg
  exact b0 _ (fin _ rfl)
 exact b1
theorem ab4 (hf:S.fl=1)(hp:S.cg=[(0,k0),(1,keyV tn rq M)])(ht:S.ao=q++[t])(htn:tn - S.aY=(q.length:Nat))(hl:(q++[t]++[AV.none]++[AV.none]++[AV.none]).length<=1000)(h:S.r=c::d::r):
  Fx 58 S false (({S with aC:=false,cg:=[(0,k0)],ao:=(q++tk 84 M M::[t])++[tk 86 S (S.aG 1)]}:PZ).to (S.aG 1)):=by
 intro n p ev Q hQ
 have hl1:(q++tk 84 M M::[t]).length<=1000:=by simp at hl⊢;omega
 have hl2:(q++tk 85 M M::tk 84 M M::[t]).length<=1000:=by simp at hl⊢;omega
 have hl3:((q++tk 84 M M::[t])++[AV.none]).length<=1000:=by simp at hl⊢;omega
 let Y:PZ:={S with aC:=false,cg:=[(0,k0)],ao:=(q++tk 84 M M::[t])}
 have e:(Y.w p).aG 1=(Y.w p).to (S.aG 1):=bA (T:=(Y.w p)) 1 S
 have em:tk 86 (Y.w p) ((Y.w p).aG 1)=tk 86 S (S.aG 1):=by
  rw[e]
  rfl
 have fin:∀lo,lo=[(0,AV.self),(65,keyV tn rq M)]->wpS TT (CO (n+14)) (Xl 86) ⟨some ((Y.w p).au ev),lo,[]⟩ (bw Q):=by
  rintro lo rfl
  refine Dd (kv:=keyV tn rq M) (S:=Y.w p) h hl3 ?_
  rw[em,e]
  exact hQ
 let Y0:PZ:={S with cg:=[(0,k0)]}
 let Y1:PZ:={S with cg:=[(0,k0)],ao:=q++tk 84 M M::[t]}
 have b3:∀R:PS,R .next ⟨some ((Y.w p).au ev),[(0,.self),(65,keyV tn rq M)],[]⟩->wpS TT (CO (n+14)) Pj ⟨some ((Y1.w p).au ev),[(0,.self),(65,keyV tn rq M)],[]⟩ R:=by
  intro R hR
  obtain⟨buf,ptr,line,col,done,fl,ao,aY,aJ,aN,aC,cg,aW,bD,state,tg⟩:=S
  dsimp only at hf hp ht htn
  subst hf hp ht
  exact hR
 have b2:∀R:PS,R .next ⟨some ((Y.w p).au ev),[(0,.self),(65,keyV tn rq M)],[]⟩->wpS TT (CO (n+14)) (ZR::Pj) ⟨some ((Y0.w p).au ev),[(0,.self),(65,keyV tn rq M)],[]⟩ R:=by
  intro R hR
  refine aL (BX ?_)
  refine jH rfl rfl rfl ?_
  refine tU (d:=.bN 0) (v:=tk 84 M M) (i:=tn - S.aY) (xs:=S.ao) (ys:=[t]) (q:=q) (st:=⟨some ((Y0.w p).au ev),[(0,.self),(65,keyV tn rq M)],[]⟩)
   (st':=⟨some ((Y1.w p).au ev),[(0,.self),(65,keyV tn rq M)],[]⟩) rfl ht htn rfl hl1 rfl ?_
  exact b3 R hR
 refine aH rfl ?_
 have b1:wpS TT (CO (n+14)) fG ⟨some ((S.w p).au ev),[(0,.self)],[]⟩ (bw Q):=by
  refine aL ?_
  have b0:∀R:PS,R .next ⟨some ((Y.w p).au ev),[(0,.self),(65,keyV tn rq M)],[]⟩->wp1 TT (CO (n+14)) fvH ⟨some ((S.w p).au ev),[(0,.self)],[]⟩ R:=by
   intro R hR
   have Wg:=b2 R hR
   clear b2 b3 fin em e
   obtain⟨buf,ptr,line,col,done,fl,ao,aY,aJ,aN,aC,cg,aW,bD,state,tg⟩:=S
   dsimp only at hf hp ht
   subst hf hp ht
   exact Wg
  exact b0 _ (fin _ rfl)
 exact b1
end
section
variable {n:Nat}{S S₁ S' M:PZ}{ev m x t k0:AV}{b:Bool}{Q:AV->Option cF->Prop}{R:PS}{p:PP}{c d:Nat}{r:List Nat}{i:Int}{xs q:List AV}{rq:Bool}{tn:Int}
theorem yW (hg:iJ S.fl S.cg=none)(hl:(S.ao++[AV.none]).length<=1000)
  (hQ:Q .none (some ((({S with aC:=false,done:=true,ao:=S.ao++[tk 75 S S]}:PZ).w p).wg ev))):
  wpS TT (CO (n+3)) [.exp (.aq 69 [] []),
  .bC 35 (.aA (.bool false)),
  .jZ 36 3,
  .asg 71 (.aq 21 [] []),
  .app (.bB 30) (.bR 75 [(.ak 71),(.ak 71)] []),
  .bC 28 (.aA (.bool true))] ⟨some ((S.w p).au ev),[(0,.self)],[]⟩ (bw Q):=by
 have hl':(S.ao++[tk 75 S S]).length<=1000:=by simpa using hl
 refine DY (S:=S.w p) hg ?_
 have go:wpS TT (CO (n+3)) [.asg 71 (.aq 21 [] []),
  .app (.bB 30) (.bR 75 [(.ak 71),(.ak 71)] []),
  .bC 28 (.aA (.bool true))] ⟨some ((({S with aC:=false}:PZ).w p).wg ev),[(0,.self)],[]⟩ (bw Q):=by
  have mk:∀Q':AV->Option cF->Prop,Q' S.bT (some ((({S with aC:=false}:PZ).w p).wg ev))->CO (n+3) 21 [.self] (some ((({S with aC:=false}:PZ).w p).wg ev)) Q':=by
   intro Q' h
   refine aH rfl ?_
   exact h
  refine mk _ ?_
  refine fX (d:=.bN 0) (v:=tk 75 S S) (xs:=S.ao) (st:=⟨some ((({S with aC:=false}:PZ).w p).wg ev),[(0,.self),(71,S.bT)],[]⟩)
   (st':=⟨some ((({S with aC:=false,ao:=S.ao++[tk 75 S S]}:PZ).w p).wg ev),[(0,.self),(71,S.bT)],[]⟩) rfl rfl hl' rfl ?_
  exact hQ
 exact go
theorem ab6 (hg:iJ S.fl S.cg=none)(hl:(S.ao++[AV.none]).length<=1000)(hf:S.fl=0)(hi:S.aJ= -1):
  Fx 48 S true {S with aC:=false,done:=true,ao:=S.ao++[tk 75 S S]}:=by
 intro n p ev Q hQ
 refine aH rfl ?_
 refine K4 (S:=S.w p) (i:= -1) hf (by show ¬(-1:Int)<S.aJ;rw[hi];decide) ?_
 exact yW hg hl hQ
theorem ab7 (hg:iJ S.fl S.cg=none)(hl:(S.ao++[AV.none]++[AV.none]).length<=1000)(hf:S.fl=0)(hi:S.aJ=0)(hI:S.aN=[.int (-1)]):
  Fx 48 S true {S with aC:=false,done:=true,aJ:= -1,aN:=[],ao:=(S.ao++[tk 72 S S])++[tk 75 S S]}:=by
 intro n p ev Q hQ
 have hl1:(S.ao++[AV.none]).length<=1000:=by simp at hl⊢;omega
 have hl2:((S.ao++[tk 72 S S])++[AV.none]).length<=1000:=by simp at hl⊢;omega
 refine aH rfl ?_
 refine Wu (S:=S.w p) (i:= -1) (j:= -1) (xs:=[]) hf (by show(-1:Int)<S.aJ;rw[hi];decide) hI (by decide) hl1 ?_
 exact yW (S:={S with aJ:= -1,aN:=[],ao:=S.ao++[tk 72 S S]}) hg hl2 hQ
end
theorem PZ.mz {S:PZ}{k:Nat}(h:S.r=[]):S.aG k=S:=by
 cases k with
 |zero=>rfl
 |succ k=>
  conv=>lhs;unfold PZ.aG
  rw[h]
theorem PZ.mD:∀(a b:Nat) (S:PZ),(S.aG a).aG b=S.aG (a+b)
 |0,b,S=>by rw[Nat.zero_add];rfl
 |a+1,b,S=>by
  cases h:S.r with
  |nil=>rw[PZ.mz h,PZ.mz h,PZ.mz h]
  |cons c r=>
   have e:a+1+b=(a+b)+1:=by omega
   rw[e,PZ.dB h,PZ.dB h,PZ.mD a b]
noncomputable def Fw (S S':PZ):Prop:=∃k,S'=S.aG k
theorem Fw.refl (S:PZ):Fw S S:=⟨0,rfl⟩
theorem Fw.trans {S S₁ S₂:PZ}(h:Fw S S₁)(h':Fw S₁ S₂):Fw S S₂:=by
 obtain⟨a,rfl⟩:=h
 obtain⟨b,rfl⟩:=h'
 exact⟨a+b,PZ.mD a b S⟩
theorem Fw.aG (S:PZ)(k:Nat):Fw S (S.aG k):=⟨k,rfl⟩
theorem Lb.fw {S S':PZ}{v:List Nat}(h:Lb S v S'):Fw S S':=by
 cases h<;>exact Fw.aG _ _
theorem Bl.fw {S S':PZ}(h:Bl S S'):Fw S S':=by
 cases h with
 |sp _ _ _=>exact Fw.aG _ _
 |co _ _ _ _=>exact(Fw.aG _ _).trans (Fw.aG _ _)
theorem Bk.fw {S S':PZ}{vs:List (List Nat)}(h:Bk S vs S'):Fw S S':=by
 induction h with
 |stop _ _ _ _ _=>exact Fw.aG _ _
 |more _ _ _ _ _ h _ ih=>exact((Fw.aG _ _).trans h.fw).trans ih
theorem xr.fw {S S':PZ}{vs:List (List Nat)}(h:xr S vs S'):Fw S S':=by
 cases h with
 |plain=>exact Fw.aG _ _
 |sep _ _ _ _ _ h h'=>exact((Fw.aG _ _).trans h.fw).trans h'.fw
 |fold _ _ _ _ _ h h'=>exact((Fw.aG _ _).trans h.fw).trans h'.fw
 |lines _ _ _ _ _ h h'=>exact((Fw.aG _ _).trans h.fw).trans h'.fw
theorem DX.fw {S S':PZ}{b:Bool}{vs:List (List Nat)}(h:DX b S vs S'):Fw S S':=by
 cases h with
 |qq h=>exact Fw.aG _ _
 |apo h=>exact Fw.aG _ _
 |lit h h1=>exact Fw.aG _ _
 |esc h h1=>exact(Fw.aG _ _).trans (Fw.aG _ _)
 |fold h1 h2 h3 h4 h5 h6=>exact((Fw.aG _ _).trans h5.fw).trans h6.fw
theorem Ns.fw {S S':PZ}{b:Bool}{vs:List (List Nat)}(h:Ns b S vs S'):Fw S S':=by
 induction h with
 |stop=>exact Fw.aG _ _
 |step _ _ _ h _ ih=>exact((Fw.aG _ _).trans h.fw).trans ih
theorem Lp.fw {S S':PZ}{b:Bool}{vs:List (List Nat)}(h:Lp b S vs S'):Fw S S':=by
 induction h with
 |stop h=>exact Fw.refl _
 |step _ _ h h' _ ih=>exact(h.fw.trans h'.fw).trans ih
theorem Fs.fw {S S':PZ}{b:Bool}{vs:List (List Nat)}(h:Fs b S vs S'):Fw S S':=by
 cases h with
 |mk h1 h2 h3 h4=>exact(((Fw.aG _ _).trans h2.fw).trans h3.fw).trans (Fw.aG _ _)
theorem Sk.fw {S S':PZ}{nl:Bool}(h:Sk S nl S'):Fw S S':=by
 induction h with
 |stop h _ _ _=>exact h.fw
 |line h h' _ ih=>exact(h.fw.trans h'.fw).trans ih
noncomputable def PZ.ok (P:PZ):Prop:=P.buf.length<=1000/\P.ptr<=P.buf.length/\0<=P.col
theorem Ge (S:PZ)(c:Nat)(nx:Option Nat):S.line<=(S.kE c nx).line:=by
 show S.line<=(xH c nx (S.line,S.col)).1
 unfold xH
 cases brk c nx
 ·cases Nat.beq c 65279
  ·exact Int.le_refl _
  ·exact Int.le_refl _
 ·show S.line<=S.line+1
  omega
theorem w7 (S:PZ){c:Nat}{nx:Option Nat}(h:brk c nx=true):S.line<(S.kE c nx).line:=by
 show S.line<(xH c nx (S.line,S.col)).1
 unfold xH
 rw[h]
 show S.line<S.line+1
 omega
theorem KJ (S:PZ)(c:Nat)(nx:Option Nat)(h:0<=S.col):0<=(S.kE c nx).col:=by
 show 0<=(xH c nx (S.line,S.col)).2
 unfold xH
 cases brk c nx
 ·dsimp only
  cases Nat.beq c 65279
  ·show 0<=S.col+1
   omega
  ·exact h
 ·exact Int.le_refl 0
theorem iT:∀(k:Nat) (S:PZ),S.line<=(S.aG k).line
 |0,S=>Int.le_refl _
 |k+1,S=>by
  cases h:S.r with
  |nil=>rw[PZ.mz h];exact Int.le_refl _
  |cons c r=>
   rw[PZ.dB h]
   exact Int.le_trans (Ge S c _) (iT k _)
theorem Fw.line {S S':PZ}(h:Fw S S'):S.line<=S'.line:=by
 obtain⟨k,rfl⟩:=h
 exact iT k S
theorem H9:∀(k:Nat) (S:PZ),S.ok->(S.aG k).ok
 |0,S,h=>h
 |k+1,S,h=>by
  cases hr:S.r with
  |nil=>rw[PZ.mz hr];exact h
  |cons c r=>
   rw[PZ.dB hr]
   refine H9 k _ ⟨h.1,?_,KJ _ _ _ h.2.2⟩
   show S.ptr+1<=S.buf.length
   have:(S.buf.drop S.ptr).length=r.length+1:=by
    have:S.r.length=r.length+1:=by rw[hr];rfl
    exact this
   rw[List.length_drop]at this
   omega
theorem Fw.ok {S S':PZ}(h:Fw S S')(hs:S.ok):S'.ok:=by
 obtain⟨k,rfl⟩:=h
 exact H9 k S hs
theorem acf {c:Nat}(h:[8232,8233].any (Nat.beq c ·)=true):[10,133,8232,8233].any (Nat.beq c ·)=true:=by
 simp at h⊢
 rcases h with h|h<;>simp[h]
theorem Lb.lt {S S':PZ}{v:List Nat}(h:Lb S v S'):S.line<S'.line:=by
 cases h with
 | @one c d r h1 h2 h3=>
  rw[PZ.cL h1]
  refine w7 S ?_
  unfold brk
  simp only[List.head?_cons]
  simp only[List.any_cons,List.any_nil,Bool.or_eq_true,Bool.or_false,Nat.beq_eq_true_eq]at h2
  rcases h2 with h2|h2|h2<;>have h2:=Nat.eq_of_beq_eq_true h2
  ·subst h2
   have:d≠10:=λe=>h3 ⟨rfl,e⟩
   simp[this]
  ·subst h2;rfl
  ·subst h2;rfl
 | @two d r h1=>
  have e:S.aG 2=(S.aG 1).aG 1:=(PZ.mD 1 1 S).symm
  rw[e]
  have h2:(S.aG 1).r=10::d::r:=by rw[PZ.bZ,h1];rfl
  rw[PZ.cL h2]
  exact Int.lt_of_le_of_lt (iT 1 S) (w7 _ rfl)
 | @sep c d r h1 h2 h3=>
  rw[PZ.cL h1]
  refine w7 S ?_
  unfold brk
  rw[acf h3]
  rfl
theorem Sk.lt {S S':PZ}{nl:Bool}(h:Sk S nl S'):nl=true->S.line<S'.line:=by
 cases h with
 |stop h _ _ _=>exact λe=>nomatch e
 |line h h' h''=>
  intro _
  exact Int.lt_of_le_of_lt h.fw.line (Int.lt_of_lt_of_le h'.lt h''.fw.line)
noncomputable def PZ.g (B:PZ) (q:List AV) (tk:Int) (K:List (Int×AV)):PZ:={B with ao:=q,aY:=tk,cg:=K}
noncomputable def FD (S:PZ) (b:Bool) (S':PZ):Prop:=∀(n:Nat) (p:PP) (ev:AV) (Q:AV->Option cF->Prop),(∀v,Q v (some ((S'.w p).pb b ev)))->∀c r,S.r=c::r->wpS TT (CO (n+19)) Lh ⟨some ((S.w p).au ev),[(0,.self),(20,.str [c])],[]⟩ (bw Q)
section
variable {S P E S₂ S':PZ}{nl b:Bool}{c:Nat}{r:List Nat}
theorem fm (hsk:Sk P nl E)(hp:S.to P=S)(hb:S.ptr=0->∃c r,S.r=c::r/\c≠65279)(hs:Li ((S.nl nl).to E) S₂)(hu:S₂.fl≠0∨¬S₂.col<S₂.aJ)(hr:S₂.r=c::r)(hd:FD S₂ b S'):Fetch S b S':=by
 intro n p ev Q hQ
 refine aH rfl ?_
 have st:=hsk.stn (S.w p)
 have e1:(S.w p).to P=S.w p:=by
  conv=>rhs;rw[<-hp]
  rfl
 rw[e1]at st
 refine aaw st hb ?_
 refine hs _ p ev _ ?_
 have go:∀Q':AV->Option cF->Prop,Q' .none (some ((S₂.w p).au ev))->CO (n+19) 47 [.self,.int (S₂.w p).col] (some ((S₂.w p).au ev)) Q':=by
  intro Q' h
  rcases hu with hu|hu
  ·exact K3 (S:=S₂.w p) hu h
  ·by_cases hf:S₂.fl=0
   ·exact K4 (S:=S₂.w p) hf hu h
   ·exact K3 (S:=S₂.w p) hf h
 refine go _ ?_
 refine dD (S:=S₂.w p) (k:=0) (PZ.rk (k:=0) (S:=S₂.w p) hr) ?_
 exact hd n p ev Q hQ c r hr
end
noncomputable def uz (P:PZ) (q:List AV) (tk:Int) (K:List (Int×AV)):Prop:=K=[]∨(q≠[]/\∃M:PZ,K=[(0,keyV tk false M)]/\M.line<=P.line)
noncomputable def Ph (N:Nat) (B:PZ) (ts:List AV):Prop:=∀q tk K,q.length<=N->uz B q tk K->Del false (B.g q tk K) (q++ts)
noncomputable def Pk1 (N:Nat) (B:PZ) (t:AV) (M:PZ) (ts:List AV):Prop:=∀q tk K,q.length<=N->uz B q tk K->Del false (B.g (q++[t]) tk (K++[(1,keyV (tk+(q.length:Nat)) false M)])) (q++ts)
noncomputable def Pk0 (N:Nat) (B:PZ) (t:AV) (M:PZ) (rq:Bool) (ts:List AV):Prop:=∀(q:List AV) (tk:Int),q.length<=N->Del false (B.g (q++[t]) tk [(0,keyV (tk+(q.length:Nat)) rq M)]) (q++ts)
section
variable {N:Nat}{B E M:PZ}{t:AV}{ts q:List AV}{nl b rq:Bool}{tk:Int}{K:List (Int×AV)}{c:Nat}{r:List Nat}
theorem dH (h:B.ok):B.ptr<=M.ptr+1024:=by
 have:=h.1
 have:=h.2.1
 omega
theorem ZW (hsk:Sk B nl E)(hk:B.ok)(hb:B.ptr=0->∃c r,B.r=c::r/\c≠65279)(hu:B.fl≠0∨¬E.col<B.aJ)(hr:E.r=c::r)(h0:uz B q tk K):
  ∃K',uz E q tk K'/\(nl=true->K'=[])/\∀b S',FD (((B.nl nl).to E).g q tk K') b S'->Fetch (B.g q tk K) b S':=by
 have hkE:E.ok:=hsk.fw.ok hk
 have hlE:=hsk.fw.line
 have e0:∀K,(B.g q tk K).to B=B.g q tk K:=λK=>rfl
 rcases h0 with rfl|⟨hq,M,rfl,hM⟩
 ·refine⟨[],.inl rfl,λ_=>rfl,?_⟩
  intro b S' hd
  exact fm (S:=B.g q tk []) (S₂:=((B.nl nl).to E).g q tk []) hsk (e0 _) hb (Ek rfl) hu hr hd
 ·by_cases hl:M.line=E.line
  ·refine⟨[(0,keyV tk false M)],.inr ⟨hq,M,rfl,by omega⟩,?_,?_⟩
   ·intro hnl
    have:=hsk.lt hnl
    omega
   ·intro b S' hd
    exact fm (S:=B.g q tk [(0,keyV tk false M)]) (S₂:=((B.nl nl).to E).g q tk [(0,keyV tk false M)]) hsk (e0 _) hb (Ej rfl hl (dH (B:=E) hkE)) hu hr hd
  ·refine⟨[],.inl rfl,λ_=>rfl,?_⟩
   intro b S' hd
   exact fm (S:=B.g q tk [(0,keyV tk false M)]) (S₂:=((B.nl nl).to E).g q tk []) hsk (e0 _) hb (Q5 rfl hl) hu hr hd
theorem ni (hd:B.done=false)(hk:B.ok)(hF:∀q tk K,q.length<=N->uz B q tk K->∃b S',Fetch (B.g q tk K) b S'/\Del b S' (q++ts)):Ph N B ts:=by
 intro q
 induction q with
 |nil=>
  intro tk K hN h0
  obtain⟨b,S',h1,h2⟩:=hF [] tk K hN h0
  rcases h0 with rfl|⟨hq,_⟩
  ·exact .more (Og hd rfl) h1 h2
  ·exact absurd rfl hq
 |cons t q ih=>
  intro tk K hN h0
  have hN':q.length<=N:=by simp at hN;omega
  have Fb:∀tk,NM (B.g (t::q) tk []) (B.g (t::q) tk []) .none:=λtk=>Oe hd rfl (Ek rfl) (N6 rfl)
  have next:=ih (tk+1) [] hN' (.inl rfl)
  rcases h0 with rfl|⟨hq,M,rfl,hM⟩
  ·exact .hold (Fb tk) (Fb tk) rfl next
  ·by_cases hl:M.line=B.line
   ·obtain⟨b,S',h1,h2⟩:=hF (t::q) tk _ hN (.inr ⟨hq,M,rfl,hM⟩)
    have UG:NM (B.g (t::q) tk [(0,keyV tk false M)]) (B.g (t::q) tk [(0,keyV tk false M)]) (.bool true):=
     Ab (S:=B.g (t::q) tk [(0,keyV tk false M)]) (i:=tk) (b:=true) hd rfl (Ej rfl hl (dH hk)) (Ux rfl) (decide_eq_true rfl)
    exact .more UG h1 h2
   ·have UG:NM (B.g (t::q) tk [(0,keyV tk false M)]) (B.g (t::q) tk []) .none:=
     Oe (S:=B.g (t::q) tk [(0,keyV tk false M)]) hd rfl (Q5 rfl hl) (N6 rfl)
    exact .hold UG (Fb tk) rfl next
theorem cnt {t:AV}{q:List AV}{tk:Int}:tk+((t::q).length:Nat)=tk+1+(q.length:Nat):=by
 simp only[List.length_cons];omega
theorem VP (hd:B.done=false)(hk:B.ok)(hM:M.line=B.line)(hF:∀q tk K,q.length<=N->uz B q tk K->∃b S',Fetch (B.g (q++[t]) tk (K++[(1,keyV (tk+(q.length:Nat)) false M)])) b S'/\Del b S' (q++ts)):Pk1 N B t M ts:=by
 intro q
 induction q with
 |nil=>
  intro tk K hN h0
  obtain⟨b,S',h1,h2⟩:=hF [] tk K hN h0
  rcases h0 with rfl|⟨hq,_⟩
  ·exact .more (Ab (S:=B.g ([]++[t]) tk ([]++[(1,keyV (tk+((([]:List AV).length:Nat):Int)) false M)])) (S₁:=B.g ([]++[t]) tk ([]++[(1,keyV (tk+((([]:List AV).length:Nat):Int)) false M)])) (i:=tk+((([]:List AV).length:Nat):Int)) (b:=true) hd rfl (G8 rfl hM (dH hk)) (Ig rfl) (decide_eq_true (by show tk+((0:Nat):Int)=tk;omega))) h1 h2
  ·exact absurd rfl hq
 |cons t' q ih=>
  intro tk K hN h0
  have hN':q.length<=N:=by simp at hN;omega
  have next:=ih (tk+1) [] hN' (.inl rfl)
  rw[<-cnt (t:=t')]at next
  have ne:decide (tk+((t'::q).length:Nat)=tk)=false:=decide_eq_false (by simp only[List.length_cons];omega)
  have Fb:NM (B.g (t'::q++[t]) tk [(1,keyV (tk+((t'::q).length:Nat)) false M)]) (B.g (t'::q++[t]) tk [(1,keyV (tk+((t'::q).length:Nat)) false M)]) .none:=
   Ab (S:=B.g (t'::q++[t]) tk [(1,keyV (tk+((t'::q).length:Nat)) false M)]) (S₁:=B.g (t'::q++[t]) tk [(1,keyV (tk+((t'::q).length:Nat)) false M)]) (i:=tk+((t'::q).length:Nat)) (b:=false) hd rfl (G8 rfl hM (dH hk)) (Ig rfl) ne
  rcases h0 with rfl|⟨hq,M',rfl,hM'⟩
  ·exact .hold Fb Fb rfl next
  ·by_cases hl:M'.line=B.line
   ·obtain⟨b,S',h1,h2⟩:=hF (t'::q) tk _ hN (.inr ⟨hq,M',rfl,hM'⟩)
    have UG:NM (B.g (t'::q++[t]) tk ([(0,keyV tk false M')]++[(1,keyV (tk+((t'::q).length:Nat)) false M)])) (B.g (t'::q++[t]) tk ([(0,keyV tk false M')]++[(1,keyV (tk+((t'::q).length:Nat)) false M)])) (.bool true):=
     Ab (S:=B.g (t'::q++[t]) tk ([(0,keyV tk false M')]++[(1,keyV (tk+((t'::q).length:Nat)) false M)])) (S₁:=B.g (t'::q++[t]) tk ([(0,keyV tk false M')]++[(1,keyV (tk+((t'::q).length:Nat)) false M)])) (i:=tk) (b:=true) hd rfl (Yh rfl hl (dH hk) hM (dH hk)) (abp rfl (by simp only[List.length_cons];omega)) (decide_eq_true rfl)
    exact .more UG h1 h2
   ·have UG:NM (B.g (t'::q++[t]) tk ([(0,keyV tk false M')]++[(1,keyV (tk+((t'::q).length:Nat)) false M)])) (B.g (t'::q++[t]) tk [(1,keyV (tk+((t'::q).length:Nat)) false M)]) .none:=
     Ab (S:=B.g (t'::q++[t]) tk ([(0,keyV tk false M')]++[(1,keyV (tk+((t'::q).length:Nat)) false M)])) (S₁:=B.g (t'::q++[t]) tk [(1,keyV (tk+((t'::q).length:Nat)) false M)]) (i:=tk+((t'::q).length:Nat)) (b:=false) hd rfl (Q0 rfl hl hM (dH hk)) (Ig rfl) ne
    exact .hold UG Fb rfl next
theorem Ka (hd:B.done=false)(hk:B.ok)(hM:M.line=B.line)(hF:∀(q:List AV) (tk:Int),q.length<=N->∃b S',Fetch (B.g (q++[t]) tk [(0,keyV (tk+(q.length:Nat)) rq M)]) b S'/\Del b S' (q++ts)):Pk0 N B t M rq ts:=by
 intro q
 induction q with
 |nil=>
  intro tk hN
  obtain⟨b,S',h1,h2⟩:=hF [] tk hN
  exact .more (Ab (S:=B.g ([]++[t]) tk [(0,keyV (tk+((([]:List AV).length:Nat):Int)) rq M)]) (S₁:=B.g ([]++[t]) tk [(0,keyV (tk+((([]:List AV).length:Nat):Int)) rq M)]) (i:=tk+((([]:List AV).length:Nat):Int)) (b:=true) hd rfl (Ej rfl hM (dH hk)) (Ux rfl) (decide_eq_true (by show tk+((0:Nat):Int)=tk;omega))) h1 h2
 |cons t' q ih=>
  intro tk hN
  have hN':q.length<=N:=by simp at hN;omega
  have next:=ih (tk+1) hN'
  rw[<-cnt (t:=t')]at next
  have ne:decide (tk+((t'::q).length:Nat)=tk)=false:=decide_eq_false (by simp only[List.length_cons];omega)
  have Fb:NM (B.g (t'::q++[t]) tk [(0,keyV (tk+((t'::q).length:Nat)) rq M)]) (B.g (t'::q++[t]) tk [(0,keyV (tk+((t'::q).length:Nat)) rq M)]) .none:=
   Ab (S:=B.g (t'::q++[t]) tk [(0,keyV (tk+((t'::q).length:Nat)) rq M)]) (S₁:=B.g (t'::q++[t]) tk [(0,keyV (tk+((t'::q).length:Nat)) rq M)]) (i:=tk+((t'::q).length:Nat)) (b:=false) hd rfl (Ej rfl hM (dH hk)) (Ux rfl) ne
  exact .hold Fb Fb rfl next
end
theorem Sk.to {T S S':PZ}{nl:Bool}(h:Sk S nl S'):Sk (T.to S) nl (T.to S'):=by
 induction h with
 |stop h1 h2 h3 h4=>exact .stop h1.to h2 h3 h4
 |line h1 h2 h3 ih=>exact .line h1.to h2.to ih
inductive Ky:PZ->Bool->List Nat->Option (List Nat)->PZ->Prop
 |a {E:PZ} {d:Nat} {r:List Nat}:E.r=97::58::d::r->fD d=true->Ky E true [97] none (E.aG 1)
 |b {E:PZ} {d:Nat} {r:List Nat}:E.r=98::32::99::58::d::r->fD d=true->Ky E true [98,32,99] none (((E.aG 1).aG 1).aG 1)
 |q {E F:PZ} {k:Bool} {vs:List (List Nat)} {d:Nat} {r:List Nat}:Fs k E vs F->vs.length<=1000->vs.flatten.length<=100000->F.line=E.line->F.r=58::d::r->fD d=true->Ky E false vs.flatten (some [qt k]) F
section
variable {S S₁ S' X E F G H V:PZ}{b pl k:Bool}{v r:List Nat}{vs:List (List Nat)}{sty:Option (List Nat)}{c d:Nat}{q ts:List AV}{tk':Int}{K:List (Int×AV)}
theorem Ky.fw (h:Ky E pl v sty F):Fw E F:=by
 cases h with
 |a=>exact Fw.aG _ _
 |b=>exact((Fw.aG _ _).trans (Fw.aG _ _)).trans (Fw.aG _ _)
 |q h=>exact h.fw
theorem Ky.colon (h:Ky E pl v sty F):∃d r,F.r=58::d::r/\fD d=true:=by
 cases h with
 |a h h'=>exact⟨_,_,by rw[PZ.bZ,h];rfl,h'⟩
 |b h h'=>exact⟨_,_,by rw[PZ.bZ,PZ.bZ,PZ.bZ,h];rfl,h'⟩
 |q _ _ _ _ h h'=>exact⟨_,_,h,h'⟩
theorem Ky.line (h:Ky E pl v sty F):F.line=E.line:=by
 cases h with
 |a h h'=>rw[PZ.cL h];rfl
 | @b d r h h'=>
  have h1:(E.aG 1).r=32::99::58::d::r:=by rw[PZ.bZ,h];rfl
  have h2:((E.aG 1).aG 1).r=99::58::d::r:=by rw[PZ.bZ,h1];rfl
  rw[PZ.cL h2,PZ.cL h1,PZ.cL h]
  rfl
 |q _ _ _ h _ _=>exact h
theorem Z2 {jy:List Nat}(h0:S.r=0::jy)(h:Fx 48 S b S'):FD S b S':=by
 intro n p ev Q hQ c r hr
 rw[h0]at hr
 injection hr with e1 _
 subst e1
 exact aai h hQ
theorem abZ {jy:List Nat}(h0:S.r=123::jy)(h:Fx 52 S b S'):FD S b S':=by
 intro n p ev Q hQ c r hr
 rw[h0]at hr
 injection hr with e1 _
 subst e1
 exact aah h hQ
theorem abY {jy:List Nat}(h0:S.r=125::jy)(h:Fx 53 S b S'):FD S b S':=by
 intro n p ev Q hQ c r hr
 rw[h0]at hr
 injection hr with e1 _
 subst e1
 exact aag h hQ
theorem abX {jy:List Nat}(h0:S.r=44::jy)(h:Fx 54 S b S'):FD S b S':=by
 intro n p ev Q hQ c r hr
 rw[h0]at hr
 injection hr with e1 _
 subst e1
 exact aaf h hQ
theorem abW {jy:List Nat}(h0:S.r=39::jy)(h:Fx 59 S b S'):FD S b S':=by
 intro n p ev Q hQ c r hr
 rw[h0]at hr
 injection hr with e1 _
 subst e1
 exact aad h hQ
theorem abV {jy:List Nat}(h0:S.r=34::jy)(h:Fx 60 S b S'):FD S b S':=by
 intro n p ev Q hQ c r hr
 rw[h0]at hr
 injection hr with e1 _
 subst e1
 exact aac h hQ
theorem Pu {jy:List Nat}{d:Nat}(h0:S.r=58::d::jy)(hd:fD d=true)(h:Fx 58 S b S'):FD S b S':=by
 intro n p ev Q hQ c r hr
 have h1:S.r[1]? =some d:=by rw[h0];rfl
 rw[h0]at hr
 injection hr with e1 _
 subst e1
 exact aae h (.inr ⟨d,h1,hd⟩) hQ
theorem abU {jy:List Nat}(h0:S.r=97::jy)(h:Fx 62 S b S'):FD S b S':=by
 intro n p ev Q hQ c r hr
 have h0':=h0
 rw[h0]at hr
 injection hr with e1 _
 subst e1
 exact Kd h h0' hQ
theorem abT {jy:List Nat}(h0:S.r=98::jy)(h:Fx 62 S b S'):FD S b S':=by
 intro n p ev Q hQ c r hr
 have h0':=h0
 rw[h0]at hr
 injection hr with e1 _
 subst e1
 exact Kc h h0' hQ
theorem Fs.head (h:Fs k E vs F):∃r,E.r=qt k::r:=by
 cases h with
 |mk h _ _ _=>exact⟨_,h⟩
theorem JR (h:Fs k E vs F)(h1:vs.length<=1000)(h2:vs.flatten.length<=100000)(hE:S.to E=S)(hs:Gh S S₁)(he:S₁.to S=S₁)(hl:(S₁.ao++[AV.none]).length<=1000):
  FD S false (({S₁ with aC:=false,ao:=S₁.ao++[sc vs.flatten false E F (some [qt k])]}:PZ).to F):=by
 have h':=h.to (T:=S)
 rw[hE]at h'
 have em:S.bT=E.bT:=by rw[<-hE];rfl
 have et:sc vs.flatten false S (S.to F) (some [qt k])=sc vs.flatten false E F (some [qt k]):=by
  unfold sc
  rw[em]
  rfl
 obtain⟨r,hr⟩:=h'.head
 cases k with
 |false=>
  have:=f59 hs he h' h1 h2 hl
  have et':sc vs.flatten false S (S.to F) (some [39])=_:=et
  rw[et']at this
  exact abW hr this
 |true=>
  have:=f60 hs he h' h1 h2 hl
  have et':sc vs.flatten false S (S.to F) (some [34])=_:=et
  rw[et']at this
  exact abV hr this
theorem Bd (hky:Ky E pl v sty F)(hE:S.to E=S)(hs:Gh S S₁)(he:S₁.to S=S₁)(hf:S₁.fl=0∨S₁.fl=1)(hc:S₁.fl≠0∨S₁.aJ<=E.col)(hl:(S₁.ao++[AV.none]).length<=1000):
  FD S false (({S₁ with aC:=false,ao:=S₁.ao++[sc v pl E F sty]}:PZ).to F):=by
 have em:S.bT=E.bT:=by rw[<-hE];rfl
 have er:S.r=E.r:=by rw[<-hE];rfl
 have e1:S.aG 1=S.to (E.aG 1):=by
  conv=>lhs;rw[<-hE]
  exact bA 1 E
 have e2:(S.aG 1).aG 1=S.to ((E.aG 1).aG 1):=by
  rw[e1];exact bA 1 _
 have e3:((S.aG 1).aG 1).aG 1=S.to (((E.aG 1).aG 1).aG 1):=by
  rw[e2];exact bA 1 _
 cases hky with
 | @a d r h hd=>
  have:=ab1 hs he hf (er.trans h) hd hl
  rw[e1]at this
  have et:sc [97] true S (S.to (E.aG 1)) none=sc [97] true E (E.aG 1) none:=by
   unfold sc
   rw[em]
   rfl
  rw[et]at this
  exact abU (er.trans h) this
 | @b d r h hd=>
  have hc':S₁.fl≠0∨¬((S.aG 1).aG 1).col<S₁.aJ+1:=by
   rcases hc with hc|hc
   ·exact .inl hc
   ·refine .inr ?_
    rw[e2]
    have h1:(E.aG 1).r=32::99::58::d::r:=by rw[PZ.bZ,h];rfl
    have:((E.aG 1).aG 1).col=E.col+1+1:=by
     rw[PZ.cL h1,PZ.cL h]
     rfl
    show ¬((E.aG 1).aG 1).col<_
    rw[this]
    omega
  have:=ab0 hs he hf (er.trans h) hd hc' hl
  rw[e3]at this
  have et:sc [98,32,99] true S (S.to (((E.aG 1).aG 1).aG 1)) none=sc [98,32,99] true E (((E.aG 1).aG 1).aG 1) none:=by
   unfold sc
   rw[em]
   rfl
  rw[et]at this
  exact abT (er.trans h) this
 |q h h1 h2 _ _ _=>exact JR h h1 h2 hE hs he hl
theorem fkF (hky:Ky E pl v sty F)(hf:X.fl=1)(ha:X.aC=true)(hK:K=[]∨∃k,K=[(0,k)])(hq:q.length<=900):
  FD ((X.to E).g q tk' K) false ((({X with aC:=false}:PZ).to F).g (q++[sc v pl E F sty]) tk' (K++[(1,keyV (tk'+(q.length:Nat)) false E)])):=by
 have hl:(q++[AV.none]).length<=1000:=by simp;omega
 obtain⟨buf,ptr,line,col,done,fl,ao,aY,aJ,aN,aC,cg,aW,bD,state,tg⟩:=X
 dsimp only at hf ha
 subst hf ha
 rcases hK with rfl|⟨k,rfl⟩
 ·have hs:=HS (S:=((PZ.to ⟨buf,ptr,line,col,done,1,ao,aY,aJ,aN,true,cg,aW,bD,state,tg⟩ E).g q tk' [])) rfl rfl (by show 1<=1000;omega)
  exact Bd hky rfl hs rfl (.inr rfl) (.inl (by show(1:Int)≠0;decide)) hl
 ·have hs:=HS (S:=((PZ.to ⟨buf,ptr,line,col,done,1,ao,aY,aJ,aN,true,cg,aW,bD,state,tg⟩ E).g q tk' [(0,k)])) rfl rfl (by show 2<=1000;omega)
  exact Bd hky rfl hs rfl (.inr rfl) (.inl (by show(1:Int)≠0;decide)) hl
theorem fkB (hky:Ky E pl v sty F)(hf:X.fl=0)(ha:X.aC=true)(hc:X.aJ<=E.col)(hq:q.length<=900):
  FD ((X.to E).g q tk' []) false ((({X with aC:=false}:PZ).to F).g (q++[sc v pl E F sty]) tk' [(0,keyV (tk'+(q.length:Nat)) (decide (X.aJ=E.col)) E)]):=by
 have hl:(q++[AV.none]).length<=1000:=by simp;omega
 obtain⟨buf,ptr,line,col,done,fl,ao,aY,aJ,aN,aC,cg,aW,bD,state,tg⟩:=X
 dsimp only at hf ha
 subst hf ha
 have hs:=HS (S:=((PZ.to ⟨buf,ptr,line,col,done,0,ao,aY,aJ,aN,true,cg,aW,bD,state,tg⟩ E).g q tk' [])) rfl rfl (by show 1<=1000;omega)
 exact Bd hky rfl hs rfl (.inl rfl) (.inr hc) hl
theorem fvF (h:Fs k E vs F)(h1:vs.length<=1000)(h2:vs.flatten.length<=100000)(ha:X.aC=false)(hq:q.length<=900):
  FD ((X.to E).g q tk' K) false ((X.to F).g (q++[sc vs.flatten false E F (some [qt k])]) tk' K):=by
 have hl:(q++[AV.none]).length<=1000:=by simp;omega
 obtain⟨buf,ptr,line,col,done,fl,ao,aY,aJ,aN,aC,cg,aW,bD,state,tg⟩:=X
 dsimp only at ha
 subst ha
 exact JR h h1 h2 rfl (abb rfl) rfl hl
theorem fvB (h:Fs k E vs F)(h1:vs.length<=1000)(h2:vs.flatten.length<=100000)(hf:X.fl=0)(ha:X.aC=true)(hc:X.aJ≠E.col)(hq:q.length<=900):
  FD ((X.to E).g q tk' []) false ((({X with aC:=false}:PZ).to F).g (q++[sc vs.flatten false E F (some [qt k])]) tk' [(0,keyV (tk'+(q.length:Nat)) false E)]):=by
 have hl:(q++[AV.none]).length<=1000:=by simp;omega
 obtain⟨buf,ptr,line,col,done,fl,ao,aY,aJ,aN,aC,cg,aW,bD,state,tg⟩:=X
 dsimp only at hf ha hc
 subst hf ha
 have hs:=HS (S:=((PZ.to ⟨buf,ptr,line,col,done,0,ao,aY,aJ,aN,true,cg,aW,bD,state,tg⟩ E).g q tk' [])) rfl rfl (by show 1<=1000;omega)
 have e:(decide ((0:Int)=0)&&decide (aJ=E.col))=false:=by rw[decide_eq_false hc];rfl
 have hs':Gh ((PZ.to ⟨buf,ptr,line,col,done,0,ao,aY,aJ,aN,true,cg,aW,bD,state,tg⟩ E).g q tk' []) ((PZ.to ⟨buf,ptr,line,col,done,0,ao,aY,aJ,aN,true,cg,aW,bD,state,tg⟩ E).g q tk' [(0,keyV (tk'+(q.length:Nat)) false E)]):=by
  rw[<-e]
  exact hs
 exact JR h h1 h2 rfl hs' rfl hl
end
theorem DW:∀(k:Nat) (S:PZ),S.ptr<=(S.aG k).ptr
 |0,S=>Nat.le_refl _
 |k+1,S=>by
  cases h:S.r with
  |nil=>rw[PZ.mz h];exact Nat.le_refl _
  |cons c r=>
   rw[PZ.dB h]
   have:S.ptr<=(S.kE c r.head?).ptr:=Nat.le_succ _
   exact Nat.le_trans this (DW k _)
theorem Fw.ptr {S S':PZ}(h:Fw S S'):S.ptr<=S'.ptr:=by
 obtain⟨k,rfl⟩:=h
 exact DW k S
theorem Fw.ne0 {S S':PZ}(h:Fw S S')(h0:S.ptr≠0):S'.ptr≠0:=by
 have:=h.ptr
 omega
theorem abq {X:PZ}{nl:Bool}(h:X.fl=1):X.nl nl=X:=by
 obtain⟨buf,ptr,line,col,done,fl,ao,aY,aJ,aN,aC,cg,aW,bD,state,tg⟩:=X
 dsimp only at h
 subst h
 unfold PZ.nl
 simp
theorem Im {X:PZ}:X.nl false=X:=by
 obtain⟨buf,ptr,line,col,done,fl,ao,aY,aJ,aN,aC,cg,aW,bD,state,tg⟩:=X
 unfold PZ.nl
 simp
theorem Oi {X:PZ}(h:X.fl=0):X.nl true={X with aC:=true}:=by
 obtain⟨buf,ptr,line,col,done,fl,ao,aY,aJ,aN,aC,cg,aW,bD,state,tg⟩:=X
 dsimp only at h
 subst h
 unfold PZ.nl
 simp
theorem q9 {S:PZ}{c:Nat}{r:List Nat}(h:S.r=c::r)(h1:c≠32)(h2:c≠35)(h3:[13,10,133].any (Nat.beq c ·)=false)(h4:[8232,8233].any (Nat.beq c ·)=false):Sk S false S:=
 .stop (S:=S) (S':=S) (.sp (k:=0) h h1 h2) h h3 h4
section
variable {N:Nat}{S X A C E F G H V Z:PZ}{b pl k nl Oj rq:Bool}{v r r':List Nat}{vs:List (List Nat)}{sty:Option (List Nat)}{c d:Nat}{t:AV}{q ts:List AV}{tk':Int}{K:List (Int×AV)}
theorem fmF (hf:X.fl=1)(hk:A.ok)(h0:A.ptr≠0)(hsk:Sk A nl E)(hr:E.r=c::r)(hK:uz (X.to A) q tk' K):
  ∃K',uz (X.to E) q tk' K'/\∀b S',FD ((X.to E).g q tk' K') b S'->Fetch ((X.to A).g q tk' K) b S':=by
 obtain⟨K',h1,_,h3⟩:=ZW (B:=X.to A) (E:=X.to E) hsk.to hk (λe=>absurd e h0) (.inl (by show X.fl≠0;rw[hf];decide)) hr hK
 refine⟨K',h1,?_⟩
 intro b S' hd
 refine h3 b S' ?_
 have e:(((X.to A).nl nl).to (X.to E))=X.to E:=by
  have:=abq (X:=X) (nl:=nl) hf
  conv=>rhs;rw[<-this]
  rfl
 rw[e]
 exact hd
theorem uz.cases (h:uz A q tk' K):K=[]∨∃k,K=[(0,k)]:=by
 rcases h with h|⟨_,M,h,_⟩
 ·exact .inl h
 ·exact .inr ⟨_,h⟩
theorem aan {α:Type}{q ts:List α}{a b c:α}:(q++a::[b])++[c]++ts=q++a::b::c::ts:=by simp
theorem abd (hf:X.fl=1)(hd:X.done=false)(hk:F.ok)(h0:F.ptr≠0)(hr:F.r=58::d::r)(hs:fD d=true)(hl:E.line=F.line)(hN:N<=900)(next:Ph (N+3) (({X with aC:=false}:PZ).to (F.aG 1)) ts):
  Pk1 N (X.to F) t E (tk 84 E E::t::tk 86 F (F.aG 1)::ts):=by
 refine VP hd hk hl ?_
 intro q tk' K hq hK
 have sk:Sk (X.to F) false (X.to F):=q9 (S:=X.to F) hr (by decide) (by decide) rfl rfl
 have e0:∀K,((X.to F).g (q++[t]) tk' K).to (X.to F)=(X.to F).g (q++[t]) tk' K:=λK=>rfl
 have em:∀K,tk 86 ((X.to F).g (q++[t]) tk' K) (((X.to F).g (q++[t]) tk' K).aG 1)=tk 86 F (F.aG 1):=by
  intro K
  have:((X.to F).g (q++[t]) tk' K).aG 1=((X.to F).g (q++[t]) tk' K).to (F.aG 1):=bA (T:=(X.to F).g (q++[t]) tk' K) 1 F
  rw[this]
  rfl
 have ea:∀K,((X.to F).g (q++[t]) tk' K).aG 1=((X.to F).g (q++[t]) tk' K).to (F.aG 1):=λK=>bA (T:=(X.to F).g (q++[t]) tk' K) 1 F
 have hlen:(q++[t]++[AV.none]++[AV.none]++[AV.none]).length<=1000:=by simp;omega
 have hlen2:((q++tk 84 E E::[t])++[tk 86 F (F.aG 1)]).length<=N+3:=by simp;omega
 have sub:tk'+(q.length:Nat) - tk'=(q.length:Nat):=by omega
 have fin:∀K',uz (X.to F) q tk' K'->Del false (((({X with aC:=false}:PZ).to (F.aG 1))).g ((q++tk 84 E E::[t])++[tk 86 F (F.aG 1)]) tk' K') (q++tk 84 E E::t::tk 86 F (F.aG 1)::ts):=by
  intro K' hK'
  have:=next ((q++tk 84 E E::[t])++[tk 86 F (F.aG 1)]) tk' K' hlen2 (by
   rcases hK' with h|⟨_,M,h1,h2⟩
   ·exact .inl h
   ·refine .inr ⟨by simp,M,h1,Int.le_trans h2 (iT 1 F)⟩)
  rw[aan]at this
  exact this
 have hu:∀K,((X.to F).g (q++[t]) tk' K).fl≠0:=λK=>by show X.fl≠0;rw[hf];decide
 have Fq:∀K,(((X.to F).g (q++[t]) tk' K).nl false).to (X.to F)=(X.to F).g (q++[t]) tk' K:=λK=>by rw[Im];rfl
 have Z4:Fx 58 ((X.to F).g (q++[t]) tk' [(1,keyV (tk'+(q.length:Nat)) false E)]) false (((({X with aC:=false}:PZ).to (F.aG 1))).g ((q++tk 84 E E::[t])++[tk 86 F (F.aG 1)]) tk' []):=by
  have:=ab5 (S:=(X.to F).g (q++[t]) tk' [(1,keyV (tk'+(q.length:Nat)) false E)]) (q:=q) (t:=t) hf rfl rfl sub hlen hr
  rw[em,ea]at this
  exact this
 have RM:∀K0,((K0:List (Int×AV))=K0)->Li ((X.to F).g (q++[t]) tk' K0) ((X.to F).g (q++[t]) tk' [(1,keyV (tk'+(q.length:Nat)) false E)])->∃b S',Fetch ((X.to F).g (q++[t]) tk' K0) b S'/\Del b S' (q++tk 84 E E::t::tk 86 F (F.aG 1)::ts):=by
  intro K0 _ abN
  refine⟨false,_,?_,fin [] (.inl rfl)⟩
  refine fm (S:=(X.to F).g (q++[t]) tk' K0) sk (e0 _) (λe=>absurd e h0) (S₂:=(X.to F).g (q++[t]) tk' [(1,keyV (tk'+(q.length:Nat)) false E)]) ?_ (.inl (hu _)) hr (Pu hr hs Z4)
  rw[Fq]
  exact abN
 rcases hK with rfl|⟨hq0,M,rfl,hM⟩
 ·exact RM _ rfl (G8 rfl hl (dH hk))
 ·by_cases hMl:M.line=F.line
  ·refine⟨false,_,?_,fin [(0,keyV tk' false M)] (.inr ⟨hq0,M,rfl,hM⟩)⟩
   refine fm (S:=(X.to F).g (q++[t]) tk' ([(0,keyV tk' false M)]++[(1,keyV (tk'+(q.length:Nat)) false E)])) sk (e0 _) (λe=>absurd e h0) (S₂:=(X.to F).g (q++[t]) tk' ([(0,keyV tk' false M)]++[(1,keyV (tk'+(q.length:Nat)) false E)])) ?_ (.inl (hu _)) hr (Pu hr hs ?_)
   ·rw[Fq]
    exact Yh rfl hMl (dH hk) hl (dH hk)
   ·have:=ab4 (S:=(X.to F).g (q++[t]) tk' ([(0,keyV tk' false M)]++[(1,keyV (tk'+(q.length:Nat)) false E)])) (q:=q) (t:=t) hf rfl rfl sub hlen hr
    rw[em,ea]at this
    exact this
  ·exact RM _ rfl (Q0 rfl hMl hl (dH hk))
theorem w6 {α:Type}{q ts:List α}{a:α}:q++[a]++ts=q++a::ts:=by simp
theorem pairF (hf:X.fl=1)(hd:X.done=false)(ha:X.aC=true)(hk:A.ok)(h0:A.ptr≠0)(hN:N<=890)(h1:Sk A nl E)(hr:E.r=c::r)(h2:Ky E pl v sty F)(h3:Sk (F.aG 1) Oj H)(h4:Fs k H vs V)(hv:vs.length<=1000)(hv2:vs.flatten.length<=100000)
  (next:Ph (N+4) (({X with aC:=false}:PZ).to V) ts):
  Ph N (X.to A) (tk 84 E E::sc v pl E F sty::tk 86 F (F.aG 1)::sc vs.flatten false H V (some [qt k])::ts):=by
 have okE:=h1.fw.ok hk
 have Rm:=h2.fw.ok okE
 have Us:=(Fw.aG F 1).ok Rm
 have eE:=h1.fw.ne0 h0
 have eF:=h2.fw.ne0 eE
 have eG:=(Fw.aG F 1).ne0 eF
 obtain⟨d,r2,hc,hsp⟩:=h2.colon
 obtain⟨r3,hH⟩:=h4.head
 have sV:Ph (N+3) (({X with aC:=false}:PZ).to (F.aG 1)) (sc vs.flatten false H V (some [qt k])::ts):=by
  refine ni hd Us ?_
  intro q tk' K hq hK
  obtain⟨K',hK',hF⟩:=fmF (X:={X with aC:=false}) hf Us eG h3 hH hK
  refine⟨false,_,hF _ _ (fvF h4 hv hv2 rfl (by omega)),?_⟩
  have:=next (q++[sc vs.flatten false H V (some [qt k])]) tk' K' (by simp;omega) (by
   rcases hK' with h|⟨_,M,h5,h6⟩
   ·exact .inl h
   ·exact .inr ⟨by simp,M,h5,Int.le_trans h6 h4.fw.line⟩)
  rw[w6]at this
  exact this
 have sC:=abd (X:={X with aC:=false}) (t:=sc v pl E F sty) (E:=E) hf hd Rm eF hc hsp h2.line.symm (by omega) sV
 refine ni hd hk ?_
 intro q tk' K hq hK
 obtain⟨K',hK',hF⟩:=fmF (X:=X) hf hk h0 h1 hr hK
 refine⟨false,_,hF _ _ (fkF h2 hf ha hK'.cases (by omega)),?_⟩
 exact sC q tk' K' hq (by
   rcases hK' with h|⟨h5,M,h6,h7⟩
   ·exact .inl h
   ·exact .inr ⟨h5,M,h6,Int.le_trans h7 h2.fw.line⟩)
theorem RD (hK:K=[]∨∃k,K=[(0,k)]):iJ 1 K=none:=by
 rcases hK with rfl|⟨k,rfl⟩<;>rfl
theorem Kf (hf:X.fl=1)(hd:X.done=false)(hk:A.ok)(h0:A.ptr≠0)(hN:N<=890)(h1:Sk A nl C)(hr:C.r=44::d::r)
  (next:Ph (N+1) (({X with aC:=true}:PZ).to (C.aG 1)) ts):Ph N (X.to A) (tk 83 C (C.aG 1)::ts):=by
 refine ni hd hk ?_
 intro q tk' K hq hK
 obtain⟨K',hK',hF⟩:=fmF (X:=X) hf hk h0 h1 hr hK
 have ea:((X.to C).g q tk' K').aG 1=((X.to C).g q tk' K').to (C.aG 1):=bA (T:=(X.to C).g q tk' K') 1 C
 have em:tk 83 ((X.to C).g q tk' K') (((X.to C).g q tk' K').aG 1)=tk 83 C (C.aG 1):=by
  rw[ea];rfl
 have f:=f54 (S:=(X.to C).g q tk' K') (by show iJ X.fl K'=none;rw[hf];exact RD hK'.cases) (by show(q++[AV.none]).length<=1000;simp;omega) hr
 rw[em,ea]at f
 refine⟨false,_,hF _ _ (abX hr f),?_⟩
 have:=next (q++[tk 83 C (C.aG 1)]) tk' K' (by simp;omega) (by
  rcases hK' with h|⟨_,M,h5,h6⟩
  ·exact .inl h
  ·exact .inr ⟨by simp,M,h5,Int.le_trans h6 (iT 1 C)⟩)
 rw[w6]at this
 exact this
theorem ab8 (hf:X.fl=0)(hi:X.aJ= -1)(hd:X.done=false)(hk:A.ok)(h0:A.ptr≠0)(hN:N<=890)(h1:Sk A true Z)(hr:Z.r=0::r):Ph N (X.to A) [tk 75 Z Z]:=by
 refine ni hd hk ?_
 intro q tk' K hq hK
 have okZ:=h1.fw.ok hk
 obtain⟨K',_,h5,h6⟩:=ZW (B:=X.to A) (E:=X.to Z) h1.to hk (λe=>absurd e h0) (.inr (by show ¬Z.col<X.aJ;rw[hi];have:=okZ.2.2;omega)) hr hK
 have h5:=h5 rfl
 subst h5
 have e:(((X.to A).nl true).to (X.to Z))=({X with aC:=true}:PZ).to Z:=by
  rw[<-Oi hf]
  rfl
 rw[e]at h6
 have f:=ab6 (S:=(({X with aC:=true}:PZ).to Z).g q tk' []) rfl (by show(q++[AV.none]).length<=1000;simp;omega) hf hi
 refine⟨true,_,h6 _ _ (Z2 hr f),?_⟩
 exact .fin rfl rfl
theorem Z7 (hf:X.fl=1)(hi:X.aJ= -1)(hd:X.done=false)(hk:A.ok)(h0:A.ptr≠0)(hN:N<=880)(h1:Sk A nl C)(hr:C.r=125::d::r)(h2:Sk (C.aG 1) true Z)(hr2:Z.r=0::r'):
  Ph N (X.to A) [tk 82 C (C.aG 1),tk 75 Z Z]:=by
 have okC:=h1.fw.ok hk
 have okD:=(Fw.aG C 1).ok okC
 have eD:=(Fw.aG C 1).ne0 (h1.fw.ne0 h0)
 have next:=ab8 (N:=N+1) (X:={X with fl:=X.fl - 1,aC:=false}) (by show X.fl - 1=0;rw[hf];rfl) hi hd okD eD (by omega) h2 hr2
 refine ni hd hk ?_
 intro q tk' K hq hK
 obtain⟨K',hK',hF⟩:=fmF (X:=X) hf hk h0 h1 hr hK
 have ea:((X.to C).g q tk' K').aG 1=((X.to C).g q tk' K').to (C.aG 1):=bA (T:=(X.to C).g q tk' K') 1 C
 have em:tk 82 ((X.to C).g q tk' K') (((X.to C).g q tk' K').aG 1)=tk 82 C (C.aG 1):=by
  rw[ea];rfl
 have f:=f53 (S:=(X.to C).g q tk' K') (by show iJ X.fl K'=none;rw[hf];exact RD hK'.cases) (by show(q++[AV.none]).length<=1000;simp;omega) hr
 rw[em,ea]at f
 refine⟨false,_,hF _ _ (abY hr f),?_⟩
 have:=next (q++[tk 82 C (C.aG 1)]) tk' K' (by simp;omega) (by
  rcases hK' with h|⟨_,M,h5,h6⟩
  ·exact .inl h
  ·exact .inr ⟨by simp,M,h5,Int.le_trans h6 (iT 1 C)⟩)
 rw[w6]at this
 exact this
theorem Tj (hf:X.fl=0)(hi:X.aJ= -1)(hd:X.done=false)(ha:X.aC=true)(hc:A.col=0)(hk:A.ok)(hr:A.r=123::d::r)
  (next:Ph 1 (({X with fl:=1,aC:=true}:PZ).to (A.aG 1)) ts):Del false ((X.to A).g [] tk' []) (tk 77 A (A.aG 1)::ts):=by
 have hs:=HS (S:=(X.to A).g [] tk' []) ha rfl (by show(mG X.fl AV.none []).length<=1000;rw[hf];show 1<=1000;omega)
 obtain⟨buf,ptr,line,col,done,fl,ao,aY,aJ,aN,aC,cg,aW,bD,state,tg⟩:=X
 dsimp only at hf hi hd ha
 subst hf hi hd ha
 have hs':Gh ((PZ.to ⟨buf,ptr,line,col,false,0,ao,aY, -1,aN,true,cg,aW,bD,state,tg⟩ A).g [] tk' []) ((PZ.to ⟨buf,ptr,line,col,false,0,ao,aY, -1,aN,true,cg,aW,bD,state,tg⟩ A).g [] tk' [(0,keyV tk' false A)]):=by
  have e:(decide ((0:Int)=0)&&decide ((-1:Int)=A.col))=false:=by rw[hc];rfl
  have e2:tk'+((([]:List AV).length:Nat):Int)=tk':=by show tk'+((0:Nat):Int)=tk';omega
  have ek:keyV (tk'+((([]:List AV).length:Nat):Int)) (decide ((0:Int)=0)&&decide ((-1:Int)=A.col)) A=keyV tk' false A:=by rw[e,e2]
  rw[<-ek]
  exact hs
 have f:=f52 (S:=(PZ.to ⟨buf,ptr,line,col,false,0,ao,aY, -1,aN,true,cg,aW,bD,state,tg⟩ A).g [] tk' []) hs' rfl (by show 1<=1000;omega) hr
 have ea:((PZ.to ⟨buf,ptr,line,col,false,0,ao,aY, -1,aN,true,cg,aW,bD,state,tg⟩ A).g [] tk' []).aG 1=((PZ.to ⟨buf,ptr,line,col,false,0,ao,aY, -1,aN,true,cg,aW,bD,state,tg⟩ A).g [] tk' []).to (A.aG 1):=bA (T:=(PZ.to ⟨buf,ptr,line,col,false,0,ao,aY, -1,aN,true,cg,aW,bD,state,tg⟩ A).g [] tk' []) 1 A
 have em:tk 77 ((PZ.to ⟨buf,ptr,line,col,false,0,ao,aY, -1,aN,true,cg,aW,bD,state,tg⟩ A).g [] tk' []) (((PZ.to ⟨buf,ptr,line,col,false,0,ao,aY, -1,aN,true,cg,aW,bD,state,tg⟩ A).g [] tk' []).aG 1)=tk 77 A (A.aG 1):=by
  rw[ea];rfl
 rw[em,ea]at f
 have fe:=fm (S:=(PZ.to ⟨buf,ptr,line,col,false,0,ao,aY, -1,aN,true,cg,aW,bD,state,tg⟩ A).g [] tk' []) (P:=A) (E:=A) (nl:=false) (q9 hr (by decide) (by decide) rfl rfl) rfl (λ_=>⟨123,_,hr,by decide⟩)
   (S₂:=(PZ.to ⟨buf,ptr,line,col,false,0,ao,aY, -1,aN,true,cg,aW,bD,state,tg⟩ A).g [] tk' []) (Ek rfl) (.inr (by show ¬A.col< -1;rw[hc];decide)) hr (abZ hr f)
 refine .more (Og rfl rfl) fe ?_
 exact next [tk 77 A (A.aG 1)] tk' [(0,keyV tk' false A)] (by show 1<=1;omega) (.inr ⟨by simp,A,rfl,iT 1 A⟩)
end
noncomputable def Phb (N:Nat) (B:PZ) (ts:List AV):Prop:=∀(q:List AV) (tk:Int),q.length<=N->Del false (B.g q tk []) (q++ts)
section
variable {N:Nat}{B S X A C E F G H V Z:PZ}{b pl k nl Oj rq:Bool}{v r r':List Nat}{vs:List (List Nat)}{sty:Option (List Nat)}{c d:Nat}{t:AV}{q ts:List AV}{tk':Int}{K:List (Int×AV)}
theorem VN (hd:B.done=false)(hF:∀tk,∃b S',Fetch (B.g [] tk []) b S'/\Del b S' ts):Phb N B ts:=by
 intro q
 induction q with
 |nil=>
  intro tk hN
  obtain⟨b,S',h1,h2⟩:=hF tk
  exact .more (Og hd rfl) h1 h2
 |cons t q ih=>
  intro tk hN
  have hN':q.length<=N:=by simp at hN;omega
  have Fb:∀tk,NM (B.g (t::q) tk []) (B.g (t::q) tk []) .none:=λtk=>Oe hd rfl (Ek rfl) (N6 rfl)
  exact .hold (Fb tk) (Fb tk) rfl (ih (tk+1) hN')
theorem ace {α:Type}{q ts:List α}{a b c d:α}:(q++a::b::[c])++[d]++ts=q++a::b::c::d::ts:=by simp
theorem YB (hf:X.fl=0)(hi:X.aJ= -1)(hI:X.aN=[])(hd:X.done=false)(hk:F.ok)(h0:F.ptr≠0)(hr:F.r=58::d::r)(hs:fD d=true)(hl:E.line=F.line)(hE:E.col=0)(hN:N<=900)
  (next:Phb (N+4) (({X with aC:=false,aJ:=0,aN:=[.int (-1)]}:PZ).to (F.aG 1)) ts):
  Pk0 N (X.to F) t E rq (tk 85 E E::tk 84 E E::t::tk 86 F (F.aG 1)::ts):=by
 refine Ka hd hk hl ?_
 intro q tk' hq
 have sk:Sk (X.to F) false (X.to F):=q9 (S:=X.to F) hr (by decide) (by decide) rfl rfl
 let S0:=(X.to F).g (q++[t]) tk' [(0,keyV (tk'+(q.length:Nat)) rq E)]
 have ea:S0.aG 1=S0.to (F.aG 1):=bA (T:=S0) 1 F
 have em:tk 86 S0 (S0.aG 1)=tk 86 F (F.aG 1):=by
  rw[ea]
  rfl
 have hlen:(q++[t]++[AV.none]++[AV.none]++[AV.none]).length<=1000:=by simp;omega
 have hlen2:((q++tk 85 E E::tk 84 E E::[t])++[tk 86 F (F.aG 1)]).length<=N+4:=by simp;omega
 have sub:tk'+(q.length:Nat) - tk'=(q.length:Nat):=by omega
 have f:=ab3 (S:=S0) (q:=q) (t:=t) hf rfl rfl sub hlen hr hi hI hE
 rw[em,ea]at f
 have Fq:(S0.nl false).to (X.to F)=S0:=by rw[Im];rfl
 have fe:=fm (S:=S0) (S₂:=S0) sk rfl (λe=>absurd e h0) (by rw[Fq];exact Ej rfl hl (dH hk)) (.inr (by show ¬F.col<X.aJ;rw[hi];have:=hk.2.2;omega)) hr (Pu hr hs f)
 refine⟨false,_,fe,?_⟩
 have:=next ((q++tk 85 E E::tk 84 E E::[t])++[tk 86 F (F.aG 1)]) tk' hlen2
 rw[ace]at this
 exact this
theorem Yz (hf:X.fl=0)(hi:X.aJ=0)(hd:X.done=false)(hk:F.ok)(h0:F.ptr≠0)(hr:F.r=58::d::r)(hs:fD d=true)(hl:E.line=F.line)(hE:E.col=0)(hN:N<=900)
  (next:Phb (N+3) (({X with aC:=false}:PZ).to (F.aG 1)) ts):
  Pk0 N (X.to F) t E rq (tk 84 E E::t::tk 86 F (F.aG 1)::ts):=by
 refine Ka hd hk hl ?_
 intro q tk' hq
 have sk:Sk (X.to F) false (X.to F):=q9 (S:=X.to F) hr (by decide) (by decide) rfl rfl
 let S0:=(X.to F).g (q++[t]) tk' [(0,keyV (tk'+(q.length:Nat)) rq E)]
 have ea:S0.aG 1=S0.to (F.aG 1):=bA (T:=S0) 1 F
 have em:tk 86 S0 (S0.aG 1)=tk 86 F (F.aG 1):=by
  rw[ea]
  rfl
 have hlen:(q++[t]++[AV.none]++[AV.none]++[AV.none]).length<=1000:=by simp;omega
 have hlen2:((q++tk 84 E E::[t])++[tk 86 F (F.aG 1)]).length<=N+3:=by simp;omega
 have sub:tk'+(q.length:Nat) - tk'=(q.length:Nat):=by omega
 have f:=ab2 (S:=S0) (q:=q) (t:=t) hf rfl rfl sub hlen hr (by show ¬X.aJ<E.col;rw[hi,hE];decide)
 rw[em,ea]at f
 have Fq:(S0.nl false).to (X.to F)=S0:=by rw[Im];rfl
 have fe:=fm (S:=S0) (S₂:=S0) sk rfl (λe=>absurd e h0) (by rw[Fq];exact Ej rfl hl (dH hk)) (.inr (by show ¬F.col<X.aJ;rw[hi];have:=hk.2.2;omega)) hr (Pu hr hs f)
 refine⟨false,_,fe,?_⟩
 have:=next ((q++tk 84 E E::[t])++[tk 86 F (F.aG 1)]) tk' hlen2
 rw[aan]at this
 exact this
theorem XJ (hf:X.fl=0)(ha:X.aC=false)(hi:X.aJ=0)(hd:X.done=false)(hk:G.ok)(h0:G.ptr≠0)(h3:Sk G nl H)(h4:Fs k H vs V)(hv:vs.length<=1000)(hv2:vs.flatten.length<=100000)(hc:nl=true->H.col≠0)
  (next:Ph 1 (X.to V) ts):Phb N (X.to G) (sc vs.flatten false H V (some [qt k])::ts):=by
 refine VN hd ?_
 intro tk'
 obtain⟨r3,hH⟩:=h4.head
 have okH:=h3.fw.ok hk
 obtain⟨K',hK',h5,h6⟩:=ZW (B:=X.to G) (E:=X.to H) (q:=[]) (tk:=tk') (K:=[]) h3.to hk (λe=>absurd e h0) (.inr (by show ¬H.col<X.aJ;rw[hi];have:=okH.2.2;omega)) hH (.inl rfl)
 have hK':K'=[]:=by
  rcases hK' with h|⟨h,_⟩
  ·exact h
  ·exact absurd rfl h
 subst hK'
 cases nl with
 |false=>
  have e:(((X.to G).nl false).to (X.to H))=X.to H:=by
   have:=Im (X:=X)
   conv=>rhs;rw[<-this]
   rfl
  rw[e]at h6
  refine⟨false,_,h6 _ _ (fvF h4 hv hv2 ha (by show 0<=900;omega)),?_⟩
  exact next [sc vs.flatten false H V (some [qt k])] tk' [] (by show 1<=1;omega) (.inl rfl)
 |true=>
  have e:(((X.to G).nl true).to (X.to H))=({X with aC:=true}:PZ).to H:=by
   rw[<-Oi hf]
   rfl
  rw[e]at h6
  have f:=fvB (X:={X with aC:=true}) (q:=[]) (tk':=tk') h4 hv hv2 hf rfl (by show X.aJ≠H.col;rw[hi];exact(hc rfl).symm) (by show 0<=900;omega)
  refine⟨false,_,h6 _ _ f,?_⟩
  have e2:tk'+((([]:List AV).length:Nat):Int)=tk':=by show tk'+((0:Nat):Int)=tk';omega
  rw[e2]
  have e3:({({X with aC:=true}:PZ)with aC:=false}:PZ)=X:=by
   obtain⟨buf,ptr,line,col,done,fl,ao,aY,aJ,aN,aC,cg,aW,bD,state,tg⟩:=X
   dsimp only at ha
   subst ha
   rfl
  have n:=next [sc vs.flatten false H V (some [qt k])] tk' [(0,keyV tk' false H)] (by show 1<=1;omega) (.inr ⟨by simp,H,rfl,h4.fw.line⟩)
  have e4:((({({X with aC:=true}:PZ)with aC:=false}:PZ).to V).g ([]++[sc vs.flatten false H V (some [qt k])]) tk' [(0,keyV tk' false H)])=((X.to V).g [sc vs.flatten false H V (some [qt k])] tk' [(0,keyV tk' false H)]):=by rw[e3];rfl
  exact e4▸n
theorem keyB (hf:X.fl=0)(hi:X.aJ<=0)(hd:X.done=false)(hk:A.ok)(h0:A.ptr≠0)(hN:N<=890)(h1:Sk A true E)(hr:E.r=c::r)(h2:Ky E pl v sty F)(hE:E.col=0)
  (next:Pk0 N (({X with aC:=false}:PZ).to F) (sc v pl E F sty) E (decide (X.aJ=E.col)) ts):Ph N (X.to A) ts:=by
 refine ni hd hk ?_
 intro q tk' K hq hK
 obtain⟨K',hK',h5,h6⟩:=ZW (B:=X.to A) (E:=X.to E) h1.to hk (λe=>absurd e h0) (.inr (by show ¬E.col<X.aJ;rw[hE];omega)) hr hK
 have h5:=h5 rfl
 subst h5
 have e:(((X.to A).nl true).to (X.to E))=({X with aC:=true}:PZ).to E:=by
  rw[<-Oi hf]
  rfl
 rw[e]at h6
 refine⟨false,_,h6 _ _ (fkB (X:={X with aC:=true}) h2 hf rfl (by show X.aJ<=E.col;rw[hE];exact hi) (by omega)),?_⟩
 exact next q tk' hq
theorem Zm (hf:X.fl=0)(ha:X.aC=true)(hi:X.aJ<=0)(hd:X.done=false)(hk:E.ok)(hr:E.r=c::r)(hsk:Sk E false E)(hb:c≠65279)(h2:Ky E pl v sty F)(hE:E.col=0)
  (next:Pk0 0 (({X with aC:=false}:PZ).to F) (sc v pl E F sty) E (decide (X.aJ=E.col)) ts):Del false ((X.to E).g [] tk' []) ts:=by
 have f:=fkB (X:=X) (q:=[]) (tk':=tk') h2 hf ha (by show X.aJ<=E.col;rw[hE];exact hi) (by show 0<=900;omega)
 have fe:=fm (S:=(X.to E).g [] tk' []) (S₂:=(X.to E).g [] tk' []) hsk rfl (λ_=>⟨c,_,hr,hb⟩) (by
  have:(((X.to E).g [] tk' []).nl false).to E=(X.to E).g [] tk' []:=by rw[Im];rfl
  rw[this]
  exact Ek rfl) (.inr (by show ¬E.col<X.aJ;rw[hE];omega)) hr f
 refine .more (Og hd rfl) fe ?_
 exact next [] tk' (by show 0<=0;omega)
theorem ab9 (hf:X.fl=0)(hi:X.aJ=0)(hI:X.aN=[.int (-1)])(hd:X.done=false)(hk:A.ok)(h0:A.ptr≠0)(hN:N<=890)(h1:Sk A true Z)(hr:Z.r=0::r):Ph N (X.to A) [tk 72 Z Z,tk 75 Z Z]:=by
 refine ni hd hk ?_
 intro q tk' K hq hK
 have okZ:=h1.fw.ok hk
 obtain⟨K',_,h5,h6⟩:=ZW (B:=X.to A) (E:=X.to Z) h1.to hk (λe=>absurd e h0) (.inr (by show ¬Z.col<X.aJ;rw[hi];have:=okZ.2.2;omega)) hr hK
 have h5:=h5 rfl
 subst h5
 have e:(((X.to A).nl true).to (X.to Z))=({X with aC:=true}:PZ).to Z:=by
  rw[<-Oi hf]
  rfl
 rw[e]at h6
 have f:=ab7 (S:=(({X with aC:=true}:PZ).to Z).g q tk' []) (by show iJ X.fl []=none;rfl) (by show(q++[AV.none]++[AV.none]).length<=1000;simp;omega) hf hi hI
 refine⟨true,_,h6 _ _ (Z2 hr f),?_⟩
 exact .fin rfl (by show(q++[tk 72 Z Z])++[tk 75 Z Z]=_;simp)
end
noncomputable def Told (c:Nat) (fs:List (Nat×AV)) (a:AV):Prop:=∀(n:Nat) (p:Option cF) (Q:AV->Option cF->Prop),Q a p->CO (n+1) 181 [.inst c fs] p Q
noncomputable def aV (v:List Nat) (pl:Bool) (sty:Option (List Nat)):AV:=.tup [.str [118,97,108,117,101],.none,.none,.tup [.bool pl,.bool (!pl)],.str v,xR sty]
noncomputable def aM (f:Bool):AV:=.tup [.str [109,97,112],.none,.none,.bool true,.bool f]
noncomputable def aE:AV:=.tup [.str [109,97,112,32,101,110,100]]
noncomputable def aD:AV:=.tup [.str [100,111,99,117,109,101,110,116],.bool false]
noncomputable def aX:AV:=.tup [.str [100,111,99,117,109,101,110,116,32,101,110,100],.bool false]
noncomputable def aS:AV:=.tup [.str [115,116,114,101,97,109]]
noncomputable def aZ:AV:=.tup [.str [115,116,114,101,97,109,32,101,110,100]]
section
variable {n:Nat}{S M M' K K':PZ}{b:Bool}{ev t m m':AV}{ts:List AV}{p:PP}{Q:AV->Option cF->Prop}{ss mk:List AV}{eH tg:AV}{j:Nat}
theorem qg {v:List Nat}{pl:Bool}{sty:Option (List Nat)}:Told 147 [(139,.none),(140,.none),(144,.tup [.bool pl,.bool (!pl)]),(117,.str v),(78,m),(79,m'),(88,xR sty)] (aV v pl sty):=by
 intro n p Q hQ
 refine aH rfl ?_
 cases sty<;>conv=>whnf
 ·exact hQ
 ·exact hQ
theorem QV {f:Bool}:Told 149 [(139,.none),(140,.none),(144,.bool true),(78,m),(79,m'),(150,.bool f)] (aM f):=by
 intro n p Q hQ
 refine aH rfl ?_
 exact hQ
theorem GD:Told 156 [(78,m),(79,m')] aE:=by
 intro n p Q hQ
 refine aH rfl ?_
 exact hQ
theorem QW:Told 125 [(78,m),(79,m'),(126,.bool false),(192,.none),(193,.none)] aD:=by
 intro n p Q hQ
 refine aH rfl ?_
 exact hQ
theorem X7:Told 132 [(78,m),(79,m'),(126,.bool false)] aX:=by
 intro n p Q hQ
 refine aH rfl ?_
 exact hQ
theorem QT:Told 120 [(78,m),(79,m'),(10,.none)] aS:=by
 intro n p Q hQ
 refine aH rfl ?_
 exact hQ
theorem X6:Told 131 [(78,m),(79,m')] aZ:=by
 intro n p Q hQ
 refine aH rfl ?_
 exact hQ
noncomputable def Run:List AV->Bool->PZ->Prop
 |[],b,S=>S.state= .none
 |a::l,b,S=>∃Spec:Nat->List (Nat×AV)->Bool->PZ->Prop,(∀(n:Nat) (Q:AV->Option cF->Prop),(∀c fs b' S',Spec c fs b' S'->Q (.inst c fs) (some (S'.pb b' (.inst c fs))))->CO (n+26) 115 [.self] (some (S.pb b .none)) Q)/\
  ∀c fs b' S',Spec c fs b' S'->Told c fs a/\Run l b' S'
theorem dN {f:Nat}{i:FI}{bs:List (Nat×AV)}{vs:List AV}{a:AV}{l:List AV}(hi:TT.FT f=some i)(hb:binds i.ps i.ds [.self] []=some bs)(hv:bs.map (·.2)=vs)
  (hc:∀(n:Nat) (Q':AV->Option cF->Prop),(∀c fs b' S',Told c fs a->Run l b' S'->Q' (.inst c fs) (some (S'.pb b' .none)))->CO (n+25) f vs (some ((S.w ⟨ss,mk,.bm f,tg⟩).pb b .none)) Q'):Run (a::l) b (S.w ⟨ss,mk,.bm f,tg⟩):=by
 refine⟨λc fs b' S'=>Told c fs a/\Run l b' S',λn Q hQ=>?_,λc fs b' S' h=>h⟩
 exact aaX (Spec:=λc fs b' S'=>Told c fs a/\Run l b' S') hi hb hv (λQ' h=>hc n Q' λc fs b' S' h1 h2=>h c fs b' S' ⟨h1,h2⟩) hQ
theorem rZ (h:Del b S [tk 75 M M']):Run [aZ] b (S.w ⟨[],[],.bm 129,tg⟩):=by
 refine dN (f:=129) rfl rfl rfl λn Q' hQ=>?_
 exact aaU (n:=n+3) h λb' S' m m'=>hQ _ _ _ _ X6 rfl
theorem rX (h:Del b S [tk 75 M M']):Run [aX,aZ] b (S.w ⟨[],[],.bm 127,tg⟩):=by
 refine dN (f:=127) rfl rfl rfl λn Q' hQ=>?_
 exact aaV (n:=n+3) h λb' S' m m' h=>hQ _ _ _ _ X7 (rZ h)
structure p8 where
 v:List Nat
 pl:Bool
 sty:Option (List Nat)
 w:List Nat
 k:Bool
noncomputable def p8.told (x:p8) (l:List AV):List AV:=aV x.v x.pl x.sty::aV x.w false (some [qt x.k])::l
noncomputable def told:List p8->List AV
 |[]=>[aE,aX,aZ]
 |x::l=>x.told (told l)
inductive BT:List p8->List AV->Prop
 |nil {M M' K K':PZ}:BT [] [tk 72 M M',tk 75 K K']
 |cons {A B C C' D D':PZ} {x:p8} {l:List p8} {ts:List AV}:BT l ts->BT (x::l) (tk 84 A A::sc x.v x.pl A B x.sty::tk 86 C C'::sc x.w false D D' (some [qt x.k])::ts)
inductive FT:List p8->List AV->Prop
 |next {A' A'' A B C C' D D':PZ} {x:p8} {l:List p8} {ts:List AV}:FT l ts->FT (x::l) (tk 83 A' A''::tk 84 A A::sc x.v x.pl A B x.sty::tk 86 C C'::sc x.w false D D' (some [qt x.k])::ts)
 |stop {A A' B B':PZ}:FT [] [tk 82 A A',tk 75 B B']
 |xU {A A' B B' C C':PZ}:FT [] [tk 83 C C',tk 82 A A',tk 75 B B']
theorem rB {l:List p8}{ts:List AV}(hb:BT l ts):∀{b:Bool} {S:PZ} {m₀ tg:AV},Del b S ts->Run (told l) b (S.w ⟨[.bm 127],[m₀],.bm 154,tg⟩):=by
 induction hb with
 |nil=>
  intro b S m₀ tg h
  refine dN (f:=154) rfl rfl rfl λn Q' hQ=>?_
  exact WY (n:=n+1) h λb' S' m m' h=>hQ _ _ _ _ GD (rX h)
 |cons hb ih=>
  intro b S m₀ tg h
  refine dN (f:=154) rfl rfl rfl λn Q' hQ=>?_
  refine BK (n:=n+1) h λb' S' m m' h=>hQ _ _ _ _ qg ?_
  refine dN (f:=155) rfl rfl rfl λn Q' hQ=>?_
  exact Sx (n:=n+1) h λb' S' m m' h=>hQ _ _ _ _ qg (ih h)
theorem rF {l:List p8}{ts:List AV}(hb:FT l ts):∀{b:Bool} {S:PZ} {m₀ tg:AV},Del b S ts->Run (told l) b (S.w ⟨[.bm 127],[m₀],.bm 157,tg⟩):=by
 induction hb with
 |next hb ih=>
  intro b S m₀ tg h
  refine dN (f:=157) rfl rfl rfl λn Q' hQ=>?_
  refine WX (n:=n+1) h λb' S' m m' h=>hQ _ _ _ _ qg ?_
  refine dN (f:=159) rfl rfl rfl λn Q' hQ=>?_
  exact Sw (n:=n+1) h λb' S' m m' h=>hQ _ _ _ _ qg (ih h)
 |stop=>
  intro b S m₀ tg h
  refine dN (f:=157) rfl rfl rfl λn Q' hQ=>?_
  exact WT (n:=n+1) h λb' S' m m' h=>hQ _ _ _ _ GD (rX h)
 |xU=>
  intro b S m₀ tg h
  refine dN (f:=157) rfl rfl rfl λn Q' hQ=>?_
  exact WW (n:=n+1) h λb' S' m m' h=>hQ _ _ _ _ GD (rX h)
theorem T5 {K K' A A':PZ}{x:p8}{l:List p8}{ts:List AV}(h:Hd b S (tk0 K K') (tk 85 A A'::ts))(hb:BT (x::l) ts):Run (aS::aD::aM false::told (x::l)) b (S.w ⟨[],[],.bm 114,tg⟩):=by
 cases hb with
 |cons hb=>
 refine dN (f:=114) rfl rfl rfl λn Q' hQ=>?_
 refine Sy (n:=n+3) h λb S m m' h=>hQ _ _ _ _ QT ?_
 refine dN (f:=121) rfl rfl rfl λn Q' hQ=>?_
 refine W9 (n:=n+3) h λb S m m' h=>hQ _ _ _ _ QW ?_
 refine dN (f:=128) rfl rfl rfl λn Q' hQ=>?_
 refine W7 (n:=n+2) h λb S m m' h=>hQ _ _ _ _ QV ?_
 refine dN (f:=153) rfl rfl rfl λn Q' hQ=>?_
 refine aaS (n:=n) h λb S m m' h=>hQ _ _ _ _ qg ?_
 refine dN (f:=155) rfl rfl rfl λn Q' hQ=>?_
 exact Sx (n:=n+1) h λb' S' m m' h=>hQ _ _ _ _ qg (rB hb h)
theorem abf {K K' A A' B C C' D D' E:PZ}{x:p8}{l:List p8}{ts:List AV}(h:Hd b S (tk0 K K') (tk 77 A A'::tk 84 E E::sc x.v x.pl E B x.sty::tk 86 C C'::sc x.w false D D' (some [qt x.k])::ts))(hb:FT l ts):Run (aS::aD::aM true::told (x::l)) b (S.w ⟨[],[],.bm 114,tg⟩):=by
 refine dN (f:=114) rfl rfl rfl λn Q' hQ=>?_
 refine Sy (n:=n+3) h λb S m m' h=>hQ _ _ _ _ QT ?_
 refine dN (f:=121) rfl rfl rfl λn Q' hQ=>?_
 refine W8 (n:=n+3) h λb S m m' h=>hQ _ _ _ _ QW ?_
 refine dN (f:=128) rfl rfl rfl λn Q' hQ=>?_
 refine W6 (n:=n+2) h λb S m m' h=>hQ _ _ _ _ QV ?_
 refine dN (f:=151) rfl rfl rfl λn Q' hQ=>?_
 refine aaT (n:=n) h λb S m m' h=>hQ _ _ _ _ qg ?_
 refine dN (f:=159) rfl rfl rfl λn Q' hQ=>?_
 exact Sw (n:=n+1) h λb' S' m m' h=>hQ _ _ _ _ qg (rF hb h)
end
noncomputable def signs:List Nat:=[9,10,13,32,34,35,37,39,44,45,46,58,63,76,91,92,97,98,99,100,101,105,110,115,116,120,121,123,125,133,233,8232]
section
variable {n:Nat}{w:List Nat}{p:Option cF}{Q:AV->Option cF->Prop}{c:Nat}{sl:List (Nat×Cont)}
theorem acu (h:c ∈ signs)(hQ:Q (.bool true) p):CO (n+1) 25 [.str [c]] p Q:=by
 refine aH rfl ?_
 have all:∀x ∈ signs,zB TT (CO n) ⟨[20],[],j5⟩ [AV.str [x]] p Q:=by
  unfold signs
  repeat' (refine List.forall_mem_cons.2 ⟨hQ,?_⟩)
  exact λc h=>nomatch h
 exact all c h
theorem acv (h:∀c ∈ w,c ∈ signs){at_:List (Nat×AV)}(hQ:Q .none (some ⟨at_,sl⟩)):CO (n+2) 14 [.self,.str w] (some ⟨at_,sl⟩) Q:=by
 refine aH rfl ?_
 refine⟨rfl,rfl,rfl,rfl,?_,?_⟩
 ·intro c hc
  exact acu (h c hc) rfl
 ·exact hQ
noncomputable def atR (w:List Nat):List (Nat×AV):=[(2,Xk),(3,.none),(4,.int 0),(5,.bool true),(6,.str (w++[0])),(7,.int 0),(8,.none),(9,.none),(10,.none),(11,.int 0),(12,.int 0),(13,.int 0)]
theorem L_1 (h:∀c ∈ w,c ∈ signs)(hl:w.length<=999)(hQ:Q .none (some ⟨atR w,[]⟩)):CO (n+3) 1 [.self,.str w] (some ⟨[],[]⟩) Q:=by
 refine aH rfl ?_
 refine acv h ?_
 have e:Bs .add (.str w) (.str [0])=some (.str (w++[0])):=by
  show qz (Nat.ble (w.length+[0].length) 100000) _=_
  have:Nat.ble (w.length+[0].length) 100000=true:=by rw[Nat.ble_eq];simp only[List.length_cons,List.length_nil];omega
  rw[this]
  rfl
 have go:wpS TT (CO (n+2)) [.bC 6 (.bin .add (.ak 3) (.aA (.str [0])))] ⟨some ⟨[(2,Xk),(3,.none),(4,.int 0),(5,.bool true),(6,.str []),(7,.int 0),(8,.none),(9,.none),(10,.none),(11,.int 0),(12,.int 0),(13,.int 0)],[]⟩,[(0,.self),(3,.str w)],[]⟩ (bw Q):=by
  refine aL (aO e ?_)
  exact hQ
 exact go
end
noncomputable def P0 (w:List Nat):PZ:=⟨w++[0],0,0,0,false,0,[],0, -1,[],true,[],[],[],.bm 114,.bN 4⟩
section
variable {n:Nat}{w:List Nat}{p:Option cF}{Q:AV->Option cF->Prop}{c:Nat}{sl:List (Nat×Cont)}
theorem acr (hQ:Q .none (some ⟨atR w++[(28,.bool false),(29,.int 0),(30,.bN 0)],[(0,.l [tk0 (P0 w) (P0 w)])]⟩)):CO (n+2) 31 [.self] (some ⟨atR w++[(28,.bool false),(29,.int 0),(30,.bN 0)],[(0,.l [])]⟩) Q:=by
 refine aH rfl ?_
 refine aH rfl ?_
 exact hQ
theorem acs (h:∀c ∈ w,c ∈ signs)(hl:w.length<=999)
  (hQ:Q .none (some ⟨atR w++[(28,.bool false),(29,.int 0),(30,.bN 0),(32,.int 0),(33,.int (-1)),(34,.bN 1),(35,.bool true),(36,.bN 2)],[(2,.d []),(1,.l []),(0,.l [tk0 (P0 w) (P0 w)])]⟩)):CO (n+4) 27 [.self,.str w] (some ⟨[],[]⟩) Q:=by
 refine aH rfl ?_
 refine⟨rfl,rfl,?_⟩
 refine L_1 h hl ?_
 refine acr ?_
 exact hQ
theorem aaY (h:∀c ∈ w,c ∈ signs)(hl:w.length<=999)(hQ:Q .none (some (({P0 w with ao:=[tk0 (P0 w) (P0 w)]}:PZ).au .none))):CO (n+5) 107 [.self,.str w] (some ⟨[],[]⟩) Q:=by
 refine aH rfl ?_
 refine⟨rfl,rfl,?_⟩
 refine acs h hl ?_
 exact hQ
end
inductive Pr (nb:Bool):PZ->p8->PZ->Prop
 |mk {A E F H V:PZ} {b pl k nl:Bool} {v:List Nat} {vs:List (List Nat)} {sty:Option (List Nat)} {c:Nat} {r:List Nat}:Sk A b E->(nb=true->b=true/\E.col=0)->E.r=c::r->Ky E pl v sty F->Sk (F.aG 1) nl H->(nl=true->H.col≠0)->Fs k H vs V->vs.length<=1000->vs.flatten.length<=100000->Pr nb A ⟨v,pl,sty,vs.flatten,k⟩ V
inductive Bt:PZ->List p8->Prop
 |stop {A Z:PZ} {r:List Nat}:Sk A true Z->Z.r=0::r->Bt A []
 |next {A V:PZ} {x:p8} {l:List p8}:Pr true A x V->Bt V l->Bt A (x::l)
inductive Ft:PZ->List p8->Prop
 |stop {A C Z:PZ} {nl:Bool} {d:Nat} {r r':List Nat}:Sk A nl C->C.r=125::d::r->Sk (C.aG 1) true Z->Z.r=0::r'->Ft A []
 |xU {A Gj C Z:PZ} {nl Oj:Bool} {d d':Nat} {r r' jy:List Nat}:Sk A nl Gj->Gj.r=44::d'::jy->Sk (Gj.aG 1) Oj C->C.r=125::d::r->Sk (C.aG 1) true Z->Z.r=0::r'->Ft A []
 |next {A C V:PZ} {nl:Bool} {d:Nat} {r:List Nat} {x:p8} {l:List p8}:Sk A nl C->C.r=44::d::r->Pr false (C.aG 1) x V->Ft V l->Ft A (x::l)
theorem Pr.fw {nb:Bool}{A V:PZ}{x:p8}(h:Pr nb A x V):Fw A V:=by
 cases h with
 |mk h _ _ h2 h3 _ h4 _ _=>exact(((h.fw.trans h2.fw).trans (Fw.aG _ _)).trans h3.fw).trans h4.fw
noncomputable abbrev X0:PZ:=P0 []
noncomputable abbrev XB:PZ:={X0 with aJ:=0,aN:=[.int (-1)],aC:=false}
noncomputable abbrev XF:PZ:={X0 with fl:=1,aC:=false}
section
variable {N:Nat}{A V:PZ}{l:List p8}{x:p8}{ts:List AV}{w:List Nat}
theorem Bt.del (h:Bt A l):A.ok->A.ptr≠0->∃ts,BT l ts/\Ph 1 (XB.to A) ts:=by
 induction h with
 |stop h hr=>exact λhk h0=>⟨_,.nil,ab9 rfl rfl rfl rfl hk h0 (by decide) h hr⟩
 | @next A V x l h _ ih=>
  intro hk h0
  obtain⟨ts,h1,h2⟩:=ih (h.fw.ok hk) (h.fw.ne0 h0)
  cases h with
  | @mk E F H _ b pl k nl v vs sty c r ha hb hr hy hs hc hf hv hv2=>
   obtain⟨rfl,hE⟩:=hb rfl
   have okE:=ha.fw.ok hk
   have Rm:=hy.fw.ok okE
   have Us:=(Fw.aG F 1).ok Rm
   have eF:=hy.fw.ne0 (ha.fw.ne0 h0)
   obtain⟨d,r2,Jz,hsp⟩:=hy.colon
   have p3:=XJ (N:=4) (X:=XB) rfl rfl rfl rfl Us ((Fw.aG F 1).ne0 eF) hs hf hv hv2 hc h2
   have p2:=Yz (N:=1) (rq:=decide (XB.aJ=E.col)) (t:=sc v pl E F sty) (X:=XB) rfl rfl rfl Rm eF Jz hsp hy.line.symm hE (by decide) p3
   exact⟨_,BT.cons (x:=⟨v,pl,sty,vs.flatten,k⟩) h1,keyB (X:=XB) rfl (by decide) rfl hk h0 (by decide) ha hr hy hE p2⟩
theorem Ft.del (h:Ft A l):∀N,A.ok->A.ptr≠0->N+5*l.length<=800->∃ts,FT l ts/\Ph N (XF.to A) ts:=by
 induction h with
 |stop h hr h' hr'=>exact λN hk h0 hN=>⟨_,.stop,Z7 rfl rfl rfl hk h0 (by simp at hN;omega) h hr h' hr'⟩
 | @xU A Gj C Z nl Oj d d' r r' jy hc hc' h hr h' hr'=>
  intro N hk h0 hN
  have ok1:=(Fw.aG Gj 1).ok (hc.fw.ok hk)
  have e1:=(Fw.aG Gj 1).ne0 (hc.fw.ne0 h0)
  have:=Z7 (N:=N+1) (X:={XF with aC:=true}) rfl rfl rfl ok1 e1 (by simp at hN;omega) h hr h' hr'
  exact⟨_,.xU,Kf (X:=XF) rfl rfl hk h0 (by simp at hN;omega) hc hc' this⟩
 | @next A C V nl d r x l hc hc' h _ ih=>
  intro N hk h0 hN
  have ok1:=(Fw.aG C 1).ok (hc.fw.ok hk)
  have e1:=(Fw.aG C 1).ne0 (hc.fw.ne0 h0)
  obtain⟨ts,h1,h2⟩:=ih (N+5) (h.fw.ok ok1) (h.fw.ne0 e1) (by simp at hN;omega)
  cases h with
  | @mk E F H _ b pl k nl v vs sty c r ha hb hr hy hs _ hf hv hv2=>
   have p:=pairF (N:=N+1) (X:={XF with aC:=true}) rfl rfl rfl ok1 e1 (by simp at hN;omega) ha hr hy hs hf hv hv2 h2
   exact⟨_,FT.next (x:=⟨v,pl,sty,vs.flatten,k⟩) h1,Kf (X:=XF) rfl rfl hk h0 (by simp at hN;omega) hc hc' p⟩
noncomputable abbrev Z0 (w:List Nat):PZ:={P0 w with ao:=[tk0 (P0 w) (P0 w)]}
theorem KZ (h:w.length<=999):(P0 w).ok:=⟨by show(w++[0]).length<=1000;simp;omega,Nat.zero_le _,Int.le_refl 0⟩
theorem R8 (h:Del false ((X0.to (P0 w)).g [] 1 []) ts):Hd false (Z0 w) (tk0 (P0 w) (P0 w)) ts:=by
 refine .hold (Oe rfl rfl (Ek rfl) (N6 rfl)) rfl ?_
 exact h
theorem rU {S:PZ}{c:Nat}{r:List Nat}(h:S.r=c::r):(S.aG 1).ptr≠0:=by
 rw[PZ.cL h]
 exact Nat.succ_ne_zero _
theorem goF {d:Nat}{r:List Nat}(hw:w.length<=999)(hr:(P0 w).r=123::d::r)(hp:Pr false ((P0 w).aG 1) x V)(ht:Ft V l)(hl:l.length<=100):Run (aS::aD::aM true::told (x::l)) false (Z0 w):=by
 have ok1:=(Fw.aG _ 1).ok (KZ hw)
 have e1:=rU hr
 obtain⟨ts,h1,h2⟩:=ht.del 5 (hp.fw.ok ok1) (hp.fw.ne0 e1) (by omega)
 cases hp with
 | @mk E F H _ b pl k nl v vs sty c r ha hb hr' hy hs _ hf hv hv2=>
  have p1:=pairF (N:=1) (X:={XF with aC:=true}) rfl rfl rfl ok1 e1 (by decide) ha hr' hy hs hf hv hv2 h2
  have p2:=Tj (tk':=1) (X:=X0) rfl rfl rfl rfl rfl (KZ hw) hr p1
  exact abf (x:=⟨v,pl,sty,vs.flatten,k⟩) (tg:=.bN 4) (R8 p2) h1
theorem goB (hw:w.length<=999)(hp:Pr false (P0 w) x V)(hn:Sk (P0 w) false (P0 w))(hb:∃c r,(P0 w).r=c::r/\c≠65279)(ht:Bt V l)
  (hp1:∃F H pl v sty nl k vs,Ky (P0 w) pl v sty F/\Sk (F.aG 1) nl H/\(nl=true->H.col≠0)/\Fs k H vs V/\vs.length<=1000/\vs.flatten.length<=100000/\x=⟨v,pl,sty,vs.flatten,k⟩):Run (aS::aD::aM false::told (x::l)) false (Z0 w):=by
 obtain⟨c,r,hr,hc⟩:=hb
 obtain⟨F,H,pl,v,sty,nl,k,vs,hy,hs,Jz,hf,hv,hv2,rfl⟩:=hp1
 obtain⟨d,r2,hcl,hsp⟩:=hy.colon
 have ok0:=KZ hw
 have Rm:=hy.fw.ok ok0
 have Us:=(Fw.aG F 1).ok Rm
 have eF:F.ptr≠0:=by
  cases hy with
  |a h _=>exact rU h
  |b h _=>exact(Fw.aG _ 1).ne0 ((Fw.aG _ 1).ne0 (rU h))
  |q h=>
   cases h with
   |mk g1 g2 g3 g4=>exact(Fw.aG _ 1).ne0 (g3.fw.ne0 (g2.fw.ne0 (rU g1)))
 have eG:=(Fw.aG F 1).ne0 eF
 have okV:=hf.fw.ok (hs.fw.ok Us)
 have eV:=hf.fw.ne0 (hs.fw.ne0 eG)
 obtain⟨ts,h1,h2⟩:=ht.del okV eV
 have p3:=XJ (N:=4) (X:=XB) rfl rfl rfl rfl Us eG hs hf hv hv2 Jz h2
 have p2:=YB (N:=0) (t:=sc v pl (P0 w) F sty) (rq:=decide (X0.aJ=(P0 w).col)) (X:={X0 with aC:=false}) rfl rfl rfl rfl Rm eF hcl hsp hy.line.symm rfl (by decide) p3
 have p1:=Zm (tk':=1) (X:=X0) rfl rfl (by decide) rfl ok0 hr hn hc hy rfl p2
 exact T5 (x:=⟨v,pl,sty,vs.flatten,k⟩) (tg:=.bN 4) (R8 p1) (.cons h1)
end
noncomputable def TN (b:Bool) (r val tl:List Nat):Prop:=r≠[]/\∀S:PZ,S.r=r->∃v S₁ u S',Ns b S v S₁/\Lp b S₁ u S'/\(v++u).flatten=val/\S'.r=qt b::tl/\(v++u).length<=r.length
section
variable {b:Bool}{S S₁ S₂ S':PZ}{r val tl m x rest:List Nat}{v vs:List (List Nat)}{c d:Nat}
theorem cB {k:Nat}(h:S.r=c::r):(S.aG (k+1)).r=r.drop k:=by rw[PZ.bZ,h];rfl
theorem wR (ws:List Nat):(ck ws).flatten=ws:=by
 cases ws with
 |nil=>rfl
 |cons a r=>show[a::r].flatten=_;simp
theorem Kl (ws:List Nat):(ck ws).length<=1:=by
 cases ws with
 |nil=>exact Nat.zero_le _
 |cons a r=>exact Nat.le_refl _
theorem R7 (k:Nat):(S.aG 1).aG k=S.aG (k+1):=by rw[PZ.mD,Nat.add_comm]
theorem Ns.push (h:Ns b (S.aG 1) v S₁)(hr:S.r=c::r)(hc:lA c=true):∃v',Ns b S v' S₁/\v'.flatten=c::v.flatten/\v'.length<=v.length+1:=by
 have e:(S.aG 1).r=r:=cB hr
 cases h with
 | @stop _ ws c' r' h1 h2 h3 h4 h5=>
  have h1':S.r=(c::ws)++c'::r':=by rw[hr,<-e,h1];rfl
  have:=Ns.stop (b:=b) h1' (by simp only[List.all_cons,hc,Bool.true_and];exact h2) h3 h4 h5
  refine⟨ck (c::ws),?_,?_,?_⟩
  ·rw[R7];exact this
  ·rw[wR,wR]
  ·have:=Kl (c::ws);omega
 | @step _ S₂ _ ws c' r' v vs h1 h2 h3 h4 h5=>
  have h1':S.r=(c::ws)++c'::r':=by rw[hr,<-e,h1];rfl
  rw[R7]at h4
  have:=Ns.step (b:=b) h1' (by simp only[List.all_cons,hc,Bool.true_and];exact h2) h3 h4 h5
  refine⟨_,this,?_,?_⟩
  ·simp only[List.flatten_append,wR,List.cons_append]
  ·have:=Kl (c::ws);simp only[List.length_append];omega
theorem sy (hc:lA c=true)(h:TN b r val tl):TN b (c::r) (c::val) tl:=by
 refine⟨List.cons_ne_nil _ _,λS hr=>?_⟩
 obtain⟨v,S₁,u,S',h1,h2,h3,h4,h5⟩:=h.2 (S.aG 1) (cB hr)
 obtain⟨v',g1,g2,g3⟩:=h1.push hr hc
 refine⟨v',S₁,u,S',g1,h2,?_,h4,?_⟩
 ·rw[List.flatten_append,g2,<-h3,List.flatten_append];rfl
 ·simp only[List.length_append,List.length_cons]at h5⊢;omega
theorem vW (h0:tl≠[])(h1:tl.head?≠some 39):TN b (qt b::tl) [] tl:=by
 refine⟨List.cons_ne_nil _ _,λS hr=>?_⟩
 have st:ql b (qt b) tl.head?=true:=by
  cases b with
  |true=>rfl
  |false=>
   unfold ql qt
   have:(tl.head?==some 39)=false:=by
    cases e:tl.head?==some 39 with
    |false=>rfl
    |true=>exact absurd (eq_of_beq e) h1
   rw[this]
   rfl
 have:=Ns.stop (b:=b) (S:=S) (ws:=[]) hr rfl (by cases b<;>rfl) st (λ_=>h0)
 exact⟨[],S,[],S,this,.stop hr,rfl,hr,Nat.zero_le _⟩
theorem jj (hc:lA c=false)(hs:∀S:PZ,S.r=c::(x++r)->∃v S₂,DX b S v S₂/\S₂.r=r/\v.flatten=m/\v.length<=x.length+1)(h:TN b r val tl):TN b (c::(x++r)) (m++val) tl:=by
 refine⟨List.cons_ne_nil _ _,λS hr=>?_⟩
 obtain⟨w,S₂,g1,g2,g3,g4⟩:=hs S hr
 obtain⟨v,S₁,u,S',h1,h2,h3,h4,h5⟩:=h.2 S₂ g2
 have:=Ns.step (b:=b) (S:=S) (ws:=[]) hr rfl hc g1 h1
 refine⟨_,S₁,u,S',this,h2,?_,h4,?_⟩
 ·rw[<-h3,<-g3]
  show((w++v)++u).flatten=_
  simp only[List.flatten_append,List.append_assoc]
 ·show(([]++(w++v))++u).length<=_
  simp only[List.length_append,List.length_cons,List.nil_append]at h5⊢;omega
theorem Tc (hc:lA c=false)(hq:c≠qt b)(hst:∀nx,ql b c nx=true)(hs:∀S:PZ,S.r=c::(x++r)->∃v S₂,xr S v S₂/\S₂.r=r/\v.flatten=m/\v.length<=x.length+1)(h:TN b r val tl):TN b (c::(x++r)) (m++val) tl:=by
 refine⟨List.cons_ne_nil _ _,λS hr=>?_⟩
 obtain⟨w,S₂,g1,g2,g3,g4⟩:=hs S hr
 obtain⟨v,S₁,u,S',h1,h2,h3,h4,h5⟩:=h.2 S₂ g2
 have hne:x++r≠[]:=by
  intro e
  exact h.1 (List.append_eq_nil_iff.1 e).2
 have:=Ns.stop (b:=b) (S:=S) (ws:=[]) hr rfl hc (hst _) (λ_=>hne)
 refine⟨[],S,_,S',this,.step hr hq g1 h1 h2,?_,h4,?_⟩
 ·rw[<-h3,<-g3]
  simp only[List.flatten_append,List.append_assoc,List.nil_append]
 ·simp only[List.length_append,List.length_cons,List.nil_append]at h5⊢;omega
noncomputable def Xh (c:Nat):Bool:=lA c||[39,34,92].any (Nat.beq c ·)
noncomputable def gO (b:Bool) (c:Nat):List Nat:=match b with
 |false=>(match Nat.beq c 39 with
  |true=>[39,39]
  |false=>[c])
 |true=>(match Nat.beq c 34||Nat.beq c 92 with
  |true=>[92,c]
  |false=>[c])
theorem nY (h:r≠[]):∃d r',r=d::r':=by
 cases r with
 |nil=>exact absurd rfl h
 |cons d r'=>exact⟨d,r',rfl⟩
theorem KH (h:S.r=c::d::r):(S.aG 2).r=r:=by rw[PZ.bZ,h];rfl
theorem pB (h:S.r=c::d::r):((S.aG 1).aG 1).r=r:=by rw[PZ.bZ,PZ.bZ,h];rfl
theorem GJ (hc:Xh c=true)(h:TN b r val tl):TN b (gO b c++r) (c::val) tl:=by
 obtain⟨d,r',rfl⟩:=nY h.1
 cases hp:lA c with
 |true=>
  have e:gO b c=[c]:=by
   unfold lA at hp
   simp only[List.any_cons,List.any_nil,Bool.not_eq_true',Bool.or_eq_false_iff]at hp
   obtain⟨h1,h2,h3,_⟩:=hp
   unfold gO
   rw[h1,h2,h3]
   cases b<;>rfl
  rw[e]
  exact sy hp h
 |false=>
  unfold Xh at hc
  rw[hp,Bool.false_or]at hc
  simp only[List.any_cons,List.any_nil,Bool.or_false,Bool.or_eq_true]at hc
  rcases hc with hc|hc|hc<;>have hc:=Nat.eq_of_beq_eq_true hc<;>subst hc
  ·cases b with
   |false=>exact jj (c:=39) (x:=[39]) (m:=[39]) rfl (λS hr=>⟨[[39]],_,.qq hr,KH hr,rfl,by show 1<=2;omega⟩) h
   |true=>exact jj (c:=39) (x:=[]) (m:=[39]) rfl (λS hr=>⟨[[39]],_,.apo hr,cB hr,rfl,by show 1<=1;omega⟩) h
  ·cases b with
   |false=>exact jj (c:=34) (x:=[]) (m:=[34]) rfl (λS hr=>⟨[[34]],_,.lit hr (.inl rfl),cB hr,rfl,by show 1<=1;omega⟩) h
   |true=>exact jj (c:=92) (x:=[34]) (m:=[34]) rfl (λS hr=>⟨[[34]],_,.esc hr rfl,pB hr,rfl,by show 1<=2;omega⟩) h
  ·cases b with
   |false=>exact jj (c:=92) (x:=[]) (m:=[92]) rfl (λS hr=>⟨[[92]],_,.lit hr (.inr rfl),cB hr,rfl,by show 1<=1;omega⟩) h
   |true=>exact jj (c:=92) (x:=[92]) (m:=[92]) rfl (λS hr=>⟨[[92]],_,.esc hr rfl,pB hr,rfl,by show 1<=2;omega⟩) h
noncomputable def esc (b:Bool):List Nat->List Nat
 |[]=>[]
 |c::w=>gO b c++esc b w
theorem Cd:∀(w:List Nat),w.all Xh=true->TN b r val tl->TN b (esc b w++r) (w++val) tl
 |[],_,h=>h
 |c::w,hw,h=>by
  simp only[List.all_cons,Bool.and_eq_true]at hw
  have:=GJ (b:=b) hw.1 (Cd w hw.2 h)
  show TN b ((gO b c++esc b w)++r) _ _
  rw[List.append_assoc]
  exact this
end
noncomputable def ends:List (List Nat):=[[10],[13,10],[13],[133]]
noncomputable def pads:List (List Nat):=[[32],[9],[32,32],[32,9]]
noncomputable def leads:List (List Nat):=[[],[32],[9]]
noncomputable def Gd (r:List Nat):Prop:=∃c r',r=c::r'/\isWs c=false/\j9 c=false/\c≠0
section
variable {b:Bool}{S S₁ S₂ S':PZ}{r val tl m x rest e p l:List Nat}{v vs:List (List Nat)}{c d:Nat}
theorem mF {nx:Option Nat}(h:brk c nx=true):(S.kE c nx).col=0:=by
 show(xH c nx (S.line,S.col)).2=0
 unfold xH
 rw[h]
theorem pN (he:e ∈ ends)(h:S.r=e++d::r)(hd:d=10->e≠[13]):∃S₂,Lb S [10] S₂/\S₂.r=d::r/\S₂.col=0:=by
 unfold ends at he
 simp only[List.mem_cons,List.not_mem_nil,or_false]at he
 rcases he with rfl|rfl|rfl|rfl
 ·exact⟨_,.one h rfl (λhh=>by omega),cB h,by rw[PZ.cL h];exact mF rfl⟩
 ·refine⟨_,.two h,KH h,?_⟩
  have e1:S.aG 2=(S.aG 1).aG 1:=(PZ.mD 1 1 S).symm
  have h2:(S.aG 1).r=10::d::r:=cB h
  rw[e1,PZ.cL h2]
  exact mF rfl
 ·have hd':d≠10:=λe=>hd e rfl
  refine⟨_,.one h rfl (λhh=>hd' hh.2),cB h,?_⟩
  rw[PZ.cL h]
  refine mF ?_
  unfold brk
  simp[hd']
 ·exact⟨_,.one h rfl (λhh=>by omega),cB h,by rw[PZ.cL h];exact mF rfl⟩
theorem jF (he:e ∈ ends):∃c e',e=c::e'/\isWs c=false/\j9 c=true/\c≠0/\c≠45/\c≠46/\c≠39/\c≠34/\lA c=false/\j9 c=true/\lC [c] Fy=none/\lC [c] V7=none/\(c=10->e≠[13]):=by
 unfold ends at he
 simp only[List.mem_cons,List.not_mem_nil,or_false]at he
 rcases he with rfl|rfl|rfl|rfl
 ·exact⟨_,_,rfl,rfl,rfl,by decide,by decide,by decide,by decide,by decide,rfl,rfl,rfl,rfl,by decide⟩
 ·exact⟨_,_,rfl,rfl,rfl,by decide,by decide,by decide,by decide,by decide,rfl,rfl,rfl,rfl,by decide⟩
 ·exact⟨_,_,rfl,rfl,rfl,by decide,by decide,by decide,by decide,by decide,rfl,rfl,rfl,rfl,by decide⟩
 ·exact⟨_,_,rfl,rfl,rfl,by decide,by decide,by decide,by decide,by decide,rfl,rfl,rfl,rfl,by decide⟩
theorem jA (hp:p ∈ pads):∃c p',p=c::p'/\p.all isWs=true/\c≠10/\c≠45/\c≠46:=by
 unfold pads at hp
 simp only[List.mem_cons,List.not_mem_nil,or_false]at hp
 rcases hp with rfl|rfl|rfl|rfl
 ·exact⟨_,_,rfl,rfl,by decide,by decide,by decide⟩
 ·exact⟨_,_,rfl,rfl,by decide,by decide,by decide⟩
 ·exact⟨_,_,rfl,rfl,by decide,by decide,by decide⟩
 ·exact⟨_,_,rfl,rfl,by decide,by decide,by decide⟩
theorem Ov (hl:l ∈ leads):l.all isWs=true:=by
 unfold leads at hl
 simp only[List.mem_cons,List.not_mem_nil,or_false]at hl
 rcases hl with rfl|rfl|rfl<;>rfl
theorem CX (h:r=c::rest)(h1:c≠45)(h2:c≠46):tE r:=by
 subst h
 refine .inl ⟨?_,?_⟩
 ·intro e
  injection e with e1 _
  exact h1 e1
 ·intro e
  injection e with e1 _
  exact h2 e1
theorem mC (h:S.r=x++r):(S.aG x.length).r=r:=by
 rw[PZ.bZ,h,List.drop_left]
theorem uc (hp:p ∈ pads)(hg:Gd r)(h:S.r=p++r):∃S',Bk S [] S'/\S'.r=r:=by
 obtain⟨c,r',rfl,h1,h2,h3⟩:=hg
 obtain⟨a,p',hp1,hp2,_,h4,h5⟩:=jA hp
 exact⟨_,.stop (CX (c:=a) (rest:=p'++c::r') (by rw[h,hp1];rfl) h4 h5) h hp2 h1 h2,mC h⟩
theorem wV (hn:tE S.r)(hx:x.all isWs=true)(he:e ∈ ends)(h:S.r=x++(e++d::r))(hd:d=10->e≠[13])(hb:∀S₂:PZ,S₂.r=d::r->∃S',Bk S₂ vs S'/\S'.r=rest):∃S',Bk S ([10]::vs) S'/\S'.r=rest:=by
 obtain⟨c,e',rfl,h1,_,_,_,_,_,_,_,h2,_,_,_⟩:=jF he
 have hr:(S.aG x.length).r=(c::e')++d::r:=mC h
 obtain⟨S₂,g1,g2,_⟩:=pN he hr hd
 obtain⟨S',g3,g4⟩:=hb S₂ g2
 exact⟨S',.more hn h hx h1 h2 g1 g3,g4⟩
theorem vZ (hx:x.all isWs=true)(he:e ∈ ends)(h:S.r=x++(e++d::r))(hd:d=10->e≠[13])(hb:∀S₂:PZ,S₂.r=d::r->∃S',Bk S₂ vs S'/\S'.r=rest):∃S',xr S (match vs with|[]=>[[32]] |v=>v) S'/\S'.r=rest:=by
 obtain⟨c,e',rfl,h1,_,h0,_,_,_,_,_,h2,_,_,_⟩:=jF he
 have hr:(S.aG x.length).r=(c::e')++d::r:=mC h
 obtain⟨S₂,g1,g2,_⟩:=pN he hr hd
 obtain⟨S',g3,g4⟩:=hb S₂ g2
 cases vs with
 |nil=>exact⟨S',.fold h hx h1 h0 h2 g1 g3,g4⟩
 |cons v w=>exact⟨S',.lines h hx h1 h0 h2 g1 g3,g4⟩
theorem Hf (hl:l.all isWs=true)(he:e ∈ ends)(hp:p ∈ pads)(hg:Gd r)(h:S.r=l++(e++(p++r))):∃S',xr S [[32]] S'/\S'.r=r:=by
 obtain⟨a,p',rfl,_,h1,_,_⟩:=jA hp
 exact vZ (vs:=[]) hl he h (λe=>absurd e h1) λS₂ h2=>uc hp hg h2
theorem LK (hl:l.all isWs=true)(he:e ∈ ends)(hp:p ∈ pads)(hg:Gd r)(h:S.r=l++(e++(p++(e++(p++r))))):∃S',xr S [[10]] S'/\S'.r=r:=by
 obtain⟨a,p',rfl,hw,h1,h2,h3⟩:=jA hp
 refine vZ (vs:=[[10]]) hl he h (λe=>absurd e h1) λS₂ g=>?_
 exact wV (d:=a) (CX g h2 h3) hw he g (λe=>absurd e h1) λfY g3=>uc hp hg g3
theorem vf (hl:l.all isWs=true)(hx:x.all isWs=true)(he:e ∈ ends)(hp:p ∈ pads)(hg:Gd r)(h:S.r=l++(e++((p++x)++(e++(e++(p++r)))))):∃S',xr S [[10],[10]] S'/\S'.r=r:=by
 obtain⟨a,p',rfl,hw,h1,h2,h3⟩:=jA hp
 obtain⟨c,e',rfl,k1,k2,k3,k4,k5,k6,k7,k8,k9,k10,k11,k12⟩:=jF he
 refine vZ (vs:=[[10],[10]]) hl he h (λe=>absurd e h1) λS₂ g=>?_
 have hall:((a::p')++x).all isWs=true:=by rw[List.all_append,hw,hx];rfl
 refine wV (d:=c) (r:=e'++((a::p')++r)) (CX g h2 h3) hall he g k12 λfY g3=>?_
 refine wV (x:=[]) (d:=a) (CX (c:=c) g3 k4 k5) rfl he g3 (λe=>absurd e h1) λaav g4=>uc hp hg g4
theorem LQ (hl:l.all isWs=true)(hp:p ∈ pads)(hg:Gd r)(h:S.r=l++(8232::(p++r))):∃S',xr S [[8232]] S'/\S'.r=r:=by
 obtain⟨a,p',rfl,_,h1,_,_⟩:=jA hp
 have hr:(S.aG l.length).r=8232::a::(p'++r):=mC h
 obtain⟨S',g1,g2⟩:=uc (S:=(S.aG l.length).aG 1) hp hg (cB hr)
 exact⟨S',.sep h hl rfl (by decide) rfl (.sep hr rfl rfl) g1 (by decide),g2⟩
theorem jx (hx:x.all isWs=true)(hg:Gd r)(h:S.r=x++r):∃S',xr S [x] S'/\S'.r=r:=by
 obtain⟨c,r',rfl,h1,h2,h3⟩:=hg
 exact⟨_,.plain h hx h1 h3 h2,mC h⟩
theorem Hi (he:e ∈ ends)(hp:p ∈ pads)(hg:Gd r)(h:S.r=92::(e++(p++r))):∃S',DX true S [] S'/\S'.r=r:=by
 obtain⟨a,p',rfl,_,h1,_,_⟩:=jA hp
 obtain⟨c,e',rfl,k1,k2,k3,k4,k5,k6,k7,k8,k9,k10,k11,k12⟩:=jF he
 obtain⟨S₂,g1,g2,_⟩:=pN (S:=S.aG 1) he (cB h) (λe=>absurd e h1)
 obtain⟨S',g3,g4⟩:=uc hp hg g2
 exact⟨S',.fold h k10 k11 k9 g1 g3,g4⟩
end
noncomputable def gM:Nat->List Nat
 |0=>[32]
 |1=>[32]
 |2=>[10]
 |3=>[10,10]
 |4=>[32,32,9]
 |5=>[8232]
 |_=>[]
noncomputable def gA (e p l:List Nat):Nat->List Nat
 |0=>[32]
 |1=>(l++e)++p
 |2=>(((l++e)++p)++e)++p
 |3=>((((l++e)++p)++e)++e)++p
 |4=>[32,32,9]
 |5=>(l++[8232])++p
 |_=>[]
noncomputable def gB (e p l:List Nat):Nat->List Nat
 |0=>(l++e)++p
 |1=>([32,92]++e)++p
 |2=>([92,110,92]++e)++p
 |3=>(((((l++e)++p)++l)++e)++e)++p
 |4=>[32,32,9]
 |5=>[92,76]
 |_=>([92]++e)++p
noncomputable def gT (e p l:List Nat):Bool->Nat->List Nat
 |false=>gA e p l
 |true=>gB e p l
section
variable {b:Bool}{S S₁ S₂ S':PZ}{r val tl m x y rest e p l g:List Nat}{v vs:List (List Nat)}{c d:Nat}
noncomputable def Hg (g:List Nat):Prop:=∃c x,g=c::x/\lA c=false/\c≠39/\c≠34/\c≠92
theorem wJ (he:e ∈ ends):Hg (e++y):=by
 obtain⟨c,e',rfl,k1,k2,k3,k4,k5,k6,k7,k8,k9,k10,k11,k12⟩:=jF he
 exact⟨c,_,rfl,k8,k6,k7,λh=>by subst h;exact nomatch k9⟩
theorem oA (hl:l ∈ leads)(h:Hg y):Hg (l++y):=by
 unfold leads at hl
 simp only[List.mem_cons,List.not_mem_nil,or_false]at hl
 rcases hl with rfl|rfl|rfl
 ·exact h
 ·exact⟨32,_,rfl,rfl,by decide,by decide,by decide⟩
 ·exact⟨9,_,rfl,rfl,by decide,by decide,by decide⟩
theorem uG (hg:Hg g)(hs:∀S:PZ,S.r=g++r->∃S₂,xr S v S₂/\S₂.r=r)(hv:v.length<=g.length)(h:TN b r val tl):TN b (g++r) (v.flatten++val) tl:=by
 obtain⟨c,x,rfl,h1,h2,h3,h4⟩:=hg
 refine Tc (c:=c) (x:=x) h1 (by cases b<;>assumption) (λnx=>?_) (λS hr=>?_) h
 ·have b39:Nat.beq c 39=false:=by cases hh:Nat.beq c 39 with|false=>rfl|true=>exact absurd (Nat.eq_of_beq_eq_true hh) h2
  have b34:Nat.beq c 34=false:=by cases hh:Nat.beq c 34 with|false=>rfl|true=>exact absurd (Nat.eq_of_beq_eq_true hh) h3
  have b92:Nat.beq c 92=false:=by cases hh:Nat.beq c 92 with|false=>rfl|true=>exact absurd (Nat.eq_of_beq_eq_true hh) h4
  unfold ql
  rw[b39,b34,b92]
  cases b<;>rfl
 ·obtain⟨S₂,g1,g2⟩:=hs S hr
  exact⟨v,S₂,g1,g2,rfl,hv⟩
theorem Lx (he:e ∈ ends)(hp:p ∈ pads)(hg:Gd r)(h:TN true r val tl):TN true ((([92]++e)++p)++r) val tl:=by
 have e1:(([92]++e)++p)++r=92::((e++p)++r):=by simp
 rw[e1]
 refine jj (m:=[]) rfl (λS hr=>?_) h
 rw[List.append_assoc]at hr
 obtain⟨S',g1,g2⟩:=Hi he hp hg hr
 exact⟨[],S',g1,g2,rfl,Nat.zero_le _⟩
theorem Qk (he:e ∈ ends):1<=e.length:=by
 obtain⟨c,e',rfl,_⟩:=jF he
 simp
theorem jE (h:lA c=false)(h1:c≠39)(h2:c≠34)(h3:c≠92):Hg (c::x):=⟨c,x,rfl,h,h1,h2,h3⟩
theorem GK (he:e ∈ ends)(hp:p ∈ pads)(hl:l ∈ leads)(hg:Gd r)(h:TN b r val tl):∀k,TN b (gT e p l b k++r) (gM k++val) tl:=by
 have lw:=Ov hl
 have el:=Qk he
 have sp:TN b ([32]++r) ([32]++val) tl:=uG (v:=[[32]]) (jE rfl (by decide) (by decide) (by decide)) (λS hr=>jx rfl hg hr) (by show 1<=1;omega) h
 have fold:TN b (((l++e)++p)++r) ([32]++val) tl:=uG (v:=[[32]]) (by rw[List.append_assoc];exact oA hl (wJ he)) (λS hr=>Hf lw he hp hg (by rw[hr];simp only[List.append_assoc])) (by simp;omega) h
 have four:TN b ([32,32,9]++r) ([32,32,9]++val) tl:=uG (v:=[[32,32,9]]) (jE rfl (by decide) (by decide) (by decide)) (λS hr=>jx rfl hg hr) (by show 1<=3;omega) h
 cases b with
 |false=>
  intro k
  match k with
  |0=>exact sp
  |1=>exact fold
  |2=>exact uG (v:=[[10]]) (by show Hg ((((l++e)++p)++e)++p);simp only[List.append_assoc];exact oA hl (wJ he)) (λS hr=>LK lw he hp hg (by rw[hr];show((((l++e)++p)++e)++p)++r=_;simp only[List.append_assoc])) (by show 1<=((((l++e)++p)++e)++p).length;simp;omega) h
  |3=>exact uG (v:=[[10],[10]]) (by show Hg (((((l++e)++p)++e)++e)++p);simp only[List.append_assoc];exact oA hl (wJ he)) (λS hr=>vf (x:=[]) lw rfl he hp hg (by rw[hr];show(((((l++e)++p)++e)++e)++p)++r=_;simp only[List.append_assoc,List.append_nil])) (by show 2<=(((((l++e)++p)++e)++e)++p).length;simp;omega) h
  |4=>exact four
  |5=>exact uG (v:=[[8232]]) (by show Hg ((l++[8232])++p);rw[List.append_assoc];exact oA hl (jE rfl (by decide) (by decide) (by decide))) (λS hr=>LQ lw hp hg (by rw[hr];show((l++[8232])++p)++r=_;simp only[List.append_assoc,List.cons_append,List.nil_append])) (by show 1<=((l++[8232])++p).length;simp;omega) h
  |_+6=>exact h
 |true=>
  intro k
  have fo:=Lx he hp hg h
  match k with
  |0=>exact fold
  |1=>
   have hgd:Gd ((([92]++e)++p)++r):=⟨92,_,rfl,rfl,rfl,by decide⟩
   have:=uG (b:=true) (g:=[32]) (v:=[[32]]) (jE rfl (by decide) (by decide) (by decide)) (λS hr=>jx rfl hgd hr) (by show 1<=1;omega) fo
   exact this
  |2=>exact jj (c:=92) (x:=[110]) (m:=[10]) rfl (λS hr=>⟨[[10]],_,.esc hr rfl,pB hr,rfl,by show 1<=2;omega⟩) fo
  |3=>exact uG (v:=[[10],[10]]) (by show Hg ((((((l++e)++p)++l)++e)++e)++p);simp only[List.append_assoc];exact oA hl (wJ he)) (λS hr=>vf (x:=l) lw lw he hp hg (by rw[hr];show((((((l++e)++p)++l)++e)++e)++p)++r=_;simp only[List.append_assoc])) (by show 2<=((((((l++e)++p)++l)++e)++e)++p).length;simp;omega) h
  |4=>exact four
  |5=>
   obtain⟨d,r',rfl⟩:=nY h.1
   exact jj (c:=92) (x:=[76]) (m:=[8232]) rfl (λS hr=>⟨[[8232]],_,.esc hr rfl,pB hr,rfl,by show 1<=2;omega⟩) h
  |_+6=>exact fo
noncomputable def txt (e p l:List Nat) (b:Bool):List (Nat×List Nat)->List Nat
 |[]=>[]
 |i::r=>gT e p l b i.1++(esc b i.2++txt e p l b r)
noncomputable def vl:List (Nat×List Nat)->List Nat
 |[]=>[]
 |i::r=>gM i.1++(i.2++vl r)
noncomputable def Jx:List Nat->Bool
 |[]=>false
 |c::_=> !isWs c&& !j9 c&& !Nat.beq c 0
noncomputable def good:List (Nat×List Nat)->Bool
 |[]=>true
 |i::r=>(match r with
  |[]=>i.2.isEmpty
  |_::_=>i.2.all Xh&&Jx i.2)&&good r
theorem Pb {w:List Nat}(h:Jx w=true):Gd (esc b w++r):=by
 cases w with
 |nil=>exact nomatch h
 |cons c w=>
  unfold Jx at h
  simp only[Bool.and_eq_true,Bool.not_eq_true']at h
  obtain⟨⟨h1,h2⟩,h3⟩:=h
  have h0:c≠0:=λe=>by subst e;exact nomatch h3
  show Gd ((gO b c++esc b w)++r)
  cases b with
  |false=>
   unfold gO
   cases e:Nat.beq c 39 with
   |true=>exact⟨39,_,rfl,rfl,rfl,by decide⟩
   |false=>exact⟨c,_,rfl,h1,h2,h0⟩
  |true=>
   unfold gO
   cases e:Nat.beq c 34||Nat.beq c 92 with
   |true=>exact⟨92,_,rfl,rfl,rfl,by decide⟩
   |false=>exact⟨c,_,rfl,h1,h2,h0⟩
theorem GF (he:e ∈ ends)(hp:p ∈ pads)(hl:l ∈ leads)(h0:tl≠[])(h1:tl.head?≠some 39):∀its,good its=true->TN b (txt e p l b its++qt b::tl) (vl its) tl
 |[],_=>vW h0 h1
 |i::its,hg=>by
  unfold good at hg
  simp only[Bool.and_eq_true]at hg
  obtain⟨hi,hr⟩:=hg
  have ih:=GF he hp hl h0 h1 its hr
  have e1:txt e p l b (i::its)++qt b::tl=gT e p l b i.1++(esc b i.2++(txt e p l b its++qt b::tl)):=by
   show(gT e p l b i.1++(esc b i.2++txt e p l b its))++qt b::tl=_
   simp only[List.append_assoc]
  rw[e1]
  cases its with
  |nil=>
   obtain⟨k,w⟩:=i
   cases w with
   |nil=>exact GK he hp hl ⟨qt b,tl,rfl,by cases b<;>rfl,by cases b<;>rfl,by cases b<;>decide⟩ ih k
   |cons _ _=>exact nomatch hi
  |cons j js=>
   simp only[Bool.and_eq_true]at hi
   exact GK he hp hl (Pb hi.2) (Cd _ hi.1 ih) i.1
theorem ZS (he:e ∈ ends)(hp:p ∈ pads)(hl:l ∈ leads)(h0:tl≠[])(h1:tl.head?≠some 39){its:List (Nat×List Nat)}(hg:good its=true)(hlen:S.r.length<=1000)(hr:S.r=qt b::(txt e p l b its++qt b::tl)):
  ∃vs S',Fs b S vs S'/\vs.flatten=vl its/\S'.r=tl/\vs.length<=1000:=by
 have t:=GF (b:=b) he hp hl h0 h1 its hg
 obtain⟨d,r',hd⟩:=nY t.1
 obtain⟨v,S₁,u,S',g1,g2,g3,g4,g5⟩:=t.2 (S.aG 1) (cB hr)
 obtain⟨d',r'',rfl⟩:=nY h0
 refine⟨v++u,S'.aG 1,.mk (by rw[hr,hd]) g1 g2 g4,g3,cB g4,?_⟩
 rw[hr]at hlen
 simp only[List.length_cons]at hlen
 omega
end
noncomputable def Tk (c:Nat):Prop:=c≠32/\c≠35/\[13,10,133].any (Nat.beq c ·)=false/\[8232,8233].any (Nat.beq c ·)=false
section
variable {b:Bool}{A S S₁ S₂ S' E F:PZ}{r val tl m x y rest e p l g:List Nat}{v vs:List (List Nat)}{c d:Nat}
theorem fU (k:Nat)(h:S.r=List.replicate k 32++c::r)(hc:Tk c):Sk S false (S.aG k)/\(S.aG k).r=c::r:=by
 have e:(S.aG k).r=c::r:=by
  have:=mC (x:=List.replicate k 32) h
  rw[List.length_replicate]at this
  exact this
 exact⟨.stop (.sp h hc.1 hc.2.1) e hc.2.2.1 hc.2.2.2,e⟩
theorem lF (he:e ∈ ends):∃c e',e=c::e'/\c≠32/\c≠35/\yJ c=true/\fD c=true/\c≠39/\(c=10->e≠[13]):=by
 unfold ends at he
 simp only[List.mem_cons,List.not_mem_nil,or_false]at he
 rcases he with rfl|rfl|rfl|rfl
 ·exact⟨_,_,rfl,by decide,by decide,rfl,rfl,by decide,by decide⟩
 ·exact⟨_,_,rfl,by decide,by decide,rfl,rfl,by decide,by decide⟩
 ·exact⟨_,_,rfl,by decide,by decide,rfl,rfl,by decide,by decide⟩
 ·exact⟨_,_,rfl,by decide,by decide,rfl,rfl,by decide,by decide⟩
theorem sS (he:e ∈ ends)(h:S.r=e++d::r)(hd:d=10->e≠[13])(hs:∀S₂:PZ,S₂.r=d::r->S₂.col=0->∃nl E,Sk S₂ nl E/\E.r=rest/\E.col=0):∃E,Sk S true E/\E.r=rest/\E.col=0:=by
 obtain⟨c,e',rfl,h1,h2,_⟩:=lF he
 obtain⟨S₂,g1,g2,g3⟩:=pN he h hd
 obtain⟨nl,E,k1,k2,k3⟩:=hs S₂ g2 g3
 have:Bl S S:=.sp (S:=S) (k:=0) h h1 h2
 exact⟨E,.line this g1 k1,k2,k3⟩
theorem Hz (he:e ∈ ends)(h:S.r=32::35::39::34::(e++d::r))(hd:d=10->e≠[13])(hs:∀S₂:PZ,S₂.r=d::r->S₂.col=0->∃nl E,Sk S₂ nl E/\E.r=rest/\E.col=0):∃E,Sk S true E/\E.r=rest/\E.col=0:=by
 obtain⟨c,e',rfl,h1,h2,h3,_⟩:=lF he
 have hb:Bl S ((S.aG 1).aG [35,39,34].length):=.co (S:=S) (k:=1) (com:=[35,39,34]) h rfl rfl h3
 have hr:((S.aG 1).aG [35,39,34].length).r=(c::e')++d::r:=by
  rw[PZ.bZ,PZ.bZ,h];rfl
 obtain⟨S₂,g1,g2,g3⟩:=pN he hr hd
 obtain⟨nl,E,k1,k2,k3⟩:=hs S₂ g2 g3
 exact⟨E,.line hb g1 k1,k2,k3⟩
theorem xO (h:Tk c):c=10->e≠[13]:=λe=>by subst e;exact nomatch h.2.2.1
theorem Eu (hc:Tk c)(h:S.r=c::r)(h0:S.col=0):∃nl E,Sk S nl E/\E.r=c::r/\E.col=0:=by
 obtain⟨h1,h2⟩:=fU (k:=0) h hc
 exact⟨_,_,h1,h2,h0⟩
noncomputable def pY (e:List Nat):List (List Nat):=[e,[32,35,39,34]++e,e++e]
theorem Cm (he:e ∈ ends)(hx:x ∈ pY e)(hc:Tk c)(h:S.r=x++c::r):∃E,Sk S true E/\E.r=c::r/\E.col=0:=by
 unfold pY at hx
 simp only[List.mem_cons,List.not_mem_nil,or_false]at hx
 rcases hx with rfl|rfl|rfl
 ·exact sS he h (xO hc) λS₂ h h0=>Eu hc h h0
 ·refine Hz he (d:=c) (r:=r) ?_ (xO hc) λS₂ h h0=>Eu hc h h0
  rw[h];simp
 ·obtain⟨c',e',hh,_,_,_,_,_,h10⟩:=lF he
  refine sS he (d:=c') (r:=e'++c::r) ?_ h10 λS₂ h h0=>?_
  ·rw[h,List.append_assoc];congr 1;rw[hh];rfl
  ·obtain⟨E,k1,k2,k3⟩:=sS (S:=S₂) he (d:=c) (r:=r) (by rw[h,hh];rfl) (xO hc) λS₂ h h0=>Eu hc h h0
   exact⟨_,E,k1,k2,k3⟩
theorem mj (he:e ∈ ends)(hx:x ∈ pY e):∃c y,x=c::y/\c≠39:=by
 obtain⟨c',e',hh,_,_,_,_,zR,h10⟩:=lF he
 unfold pY at hx
 simp only[List.mem_cons,List.not_mem_nil,or_false]at hx
 rcases hx with rfl|rfl|rfl
 ·exact⟨c',e',hh,zR⟩
 ·exact⟨32,_,rfl,by decide⟩
 ·exact⟨c',e'++e,by
  conv=>lhs;lhs;rw[hh]
  rfl,zR⟩
noncomputable def jq (e:List Nat):List (List Nat):=[[32],[32,32],e++[32,32]]
theorem FW (he:e ∈ ends)(hx:x ∈ jq e):∃c y,x=c::y/\fD c=true:=by
 obtain⟨c',e',hh,_,_,_,hsp,zR,h10⟩:=lF he
 unfold jq at hx
 simp only[List.mem_cons,List.not_mem_nil,or_false]at hx
 rcases hx with rfl|rfl|rfl
 ·exact⟨32,_,rfl,rfl⟩
 ·exact⟨32,_,rfl,rfl⟩
 ·exact⟨c',e'++[32,32],by rw[hh];rfl,hsp⟩
theorem Hh (h:S.r=32::c::r):(S.aG 1).col=S.col+1:=by
 rw[PZ.cL h]
 rfl
theorem M8 (he:e ∈ ends)(hx:x ∈ jq e)(hc:Tk c)(h:S.r=x++c::r):∃nl H,Sk S nl H/\H.r=c::r/\(nl=true->H.col≠0):=by
 unfold jq at hx
 simp only[List.mem_cons,List.not_mem_nil,or_false]at hx
 rcases hx with rfl|rfl|rfl
 ·obtain⟨h1,h2⟩:=fU (k:=1) h hc
  exact⟨_,_,h1,h2,λe=>nomatch e⟩
 ·obtain⟨h1,h2⟩:=fU (k:=2) h hc
  exact⟨_,_,h1,h2,λe=>nomatch e⟩
 ·obtain⟨c',e',rfl,h1,h2,_⟩:=lF he
  rw[List.append_assoc]at h
  obtain⟨S₂,g1,g2,g3⟩:=pN (d:=32) (r:=32::c::r) he h (λe=>absurd e (by decide))
  obtain⟨k1,k2⟩:=fU (S:=S₂) (k:=2) g2 hc
  have hb:Bl S S:=.sp (S:=S) (k:=0) h h1 h2
  refine⟨true,_,.line hb g1 k1,k2,λ_=>?_⟩
  have e1:S₂.aG 2=(S₂.aG 1).aG 1:=(PZ.mD 1 1 S₂).symm
  have g4:(S₂.aG 1).r=32::c::r:=cB g2
  rw[e1,Hh g4,Hh g2,g3]
  decide
noncomputable def mJ:List (List Nat×List Nat×Option (List Nat)):=[([97],[97],none),([39,39,39,115,39],[39,115],some [39]),([34,92,116,121,34],[9,121],some [34]),([98,32,99],[98,32,99],none),([39,45,32,100,58,32,101,39],[45,32,100,58,32,101],some [39])]
theorem yE:∀(x:List Nat) (S:PZ),S.r=x++r->x.all (λc=> !Nat.beq c 10&& !Nat.beq c 13&& !Nat.beq c 133&& !Nat.beq c 8232&& !Nat.beq c 8233)=true->(S.aG x.length).line=S.line
 |[],S,_,_=>rfl
 |c::x,S,h,hx=>by
  simp only[List.all_cons,Bool.and_eq_true,Bool.not_eq_true']at hx
  obtain⟨⟨⟨⟨⟨h1,h2⟩,h3⟩,h4⟩,h5⟩,hx⟩:=hx
  have h':S.r=c::(x++r):=h
  have e:(S.kE c (x++r).head?).line=S.line:=by
   show(xH c _ (S.line,S.col)).1=S.line
   have:∀nx,brk c nx=false:=by
    intro nx
    unfold brk
    simp only[List.any_cons,List.any_nil,h1,h2,h3,h4,h5]
    rfl
   unfold xH
   rw[this]
   cases Nat.beq c 65279<;>rfl
  show(S.aG (x.length+1)).line=_
  rw[PZ.dB h',yE x _ ?_ hx,e]
  have:(S.aG 1).r=x++r:=cB h'
  rw[PZ.cL h']at this
  exact this
theorem Pg (h:Fw E F)(hr:E.r=x++F.r)(h0:F.r≠[])(hx:x.all (λc=> !Nat.beq c 10&& !Nat.beq c 13&& !Nat.beq c 133&& !Nat.beq c 8232&& !Nat.beq c 8233)=true):F.line=E.line:=by
 obtain⟨k,rfl⟩:=h
 have e:k=x.length:=by
  have:=congrArg List.length hr
  rw[PZ.bZ]at this h0
  rw[List.length_append,List.length_drop]at this
  have h1:k<E.r.length:=by
   rcases Nat.lt_or_ge k E.r.length with h|h
   ·exact h
   ·exact absurd (List.drop_eq_nil_of_le h) h0
  omega
 subst e
 exact yE (r:=(E.aG x.length).r) x E hr hx
theorem Va {k:Bool}{kn:List Nat}(ht:∀tl,tl≠[]->tl.head?≠some 39->TN k (x++qt k::tl) kn tl)(hx:(qt k::(x++[qt k])).all (λc=> !Nat.beq c 10&& !Nat.beq c 13&& !Nat.beq c 133&& !Nat.beq c 8232&& !Nat.beq c 8233)=true)(hlen:E.r.length<=1000)(hk:kn.length<=1000)
  (hr:E.r=qt k::(x++qt k::58::d::r))(hd:fD d=true):∃F,Ky E false kn (some [qt k]) F/\F.r=58::d::r:=by
 have t:=ht (58::d::r) (List.cons_ne_nil _ _) (by show some 58≠some 39;decide)
 obtain⟨d',r',hd'⟩:=nY t.1
 obtain⟨v,S₁,u,S',g1,g2,g3,g4,g5⟩:=t.2 (E.aG 1) (cB hr)
 have hf:Fs k E (v++u) (S'.aG 1):=.mk (by rw[hr,hd']) g1 g2 g4
 have hF:(S'.aG 1).r=58::d::r:=cB g4
 rw[hr]at hlen
 simp only[List.length_cons]at hlen
 subst g3
 refine⟨_,.q hf (by omega) (by omega) ?_ hF hd,hF⟩
 refine Pg (x:=qt k::(x++[qt k])) hf.fw ?_ (by rw[hF];exact List.cons_ne_nil _ _) hx
 rw[hF,hr]
 simp
theorem Zk {kt kn:List Nat}{ks:Option (List Nat)}(hk:(kt,kn,ks) ∈ mJ)(hlen:E.r.length<=1000)(hr:E.r=kt++58::d::r)(hd:fD d=true):∃F,Ky E ks.isNone kn ks F/\F.r=58::d::r:=by
 unfold mJ at hk
 simp only[List.mem_cons,List.not_mem_nil,or_false,Prod.mk.injEq]at hk
 rcases hk with⟨rfl,rfl,rfl⟩ |⟨rfl,rfl,rfl⟩ |⟨rfl,rfl,rfl⟩ |⟨rfl,rfl,rfl⟩ |⟨rfl,rfl,rfl⟩
 ·exact⟨_,.a hr hd,cB hr⟩
 ·exact Va (k:=false) (x:=[39,39,115]) (λtl h0 h1=>GJ (b:=false) (c:=39) rfl (sy (c:=115) rfl (vW h0 h1))) rfl hlen (by decide) hr hd
 ·refine Va (k:=true) (x:=[92,116,121]) (λtl h0 h1=>?_) rfl hlen (by decide) hr hd
  exact jj (b:=true) (c:=92) (x:=[116]) (m:=[9]) rfl (λS hr=>⟨[[9]],_,.esc (d:=121) (r:=qt true::tl) hr rfl,pB hr,rfl,by show 1<=2;omega⟩) (sy (c:=121) rfl (vW h0 h1))
 ·exact⟨_,.b hr hd,by rw[PZ.bZ,PZ.bZ,PZ.bZ,hr];rfl⟩
 ·refine Va (k:=false) (x:=[45,32,100,58,32,101]) (λtl h0 h1=>?_) rfl hlen (by decide) hr hd
  have t1:TN false (101::qt false::tl) [101] tl:=sy rfl (vW h0 h1)
  have t2:TN false ([32]++101::qt false::tl) ([32]++[101]) tl:=uG (v:=[[32]]) (jE rfl (by decide) (by decide) (by decide)) (λS hr=>jx rfl ⟨101,_,rfl,rfl,rfl,by decide⟩ hr) (by show 1<=1;omega) t1
  have t3:TN false (100::58::32::101::qt false::tl) [100,58,32,101] tl:=sy rfl (sy rfl t2)
  have t4:TN false ([32]++100::58::32::101::qt false::tl) ([32]++[100,58,32,101]) tl:=uG (v:=[[32]]) (jE rfl (by decide) (by decide) (by decide)) (λS hr=>jx rfl ⟨100,_,rfl,rfl,rfl,by decide⟩ hr) (by show 1<=1;omega) t3
  exact sy rfl t4
theorem Jb {kt kn:List Nat}{ks:Option (List Nat)}(hk:(kt,kn,ks) ∈ mJ):∃c y,kt=c::y/\Tk c/\c≠65279:=by
 unfold mJ at hk
 simp only[List.mem_cons,List.not_mem_nil,or_false,Prod.mk.injEq]at hk
 rcases hk with⟨rfl,rfl,rfl⟩ |⟨rfl,rfl,rfl⟩ |⟨rfl,rfl,rfl⟩ |⟨rfl,rfl,rfl⟩ |⟨rfl,rfl,rfl⟩
 ·exact⟨_,_,rfl,⟨by decide,by decide,rfl,rfl⟩,by decide⟩
 ·exact⟨_,_,rfl,⟨by decide,by decide,rfl,rfl⟩,by decide⟩
 ·exact⟨_,_,rfl,⟨by decide,by decide,rfl,rfl⟩,by decide⟩
 ·exact⟨_,_,rfl,⟨by decide,by decide,rfl,rfl⟩,by decide⟩
 ·exact⟨_,_,rfl,⟨by decide,by decide,rfl,rfl⟩,by decide⟩
end
structure PD where
 kt:List Nat
 kn:List Nat
 ks:Option (List Nat)
 bt:List Nat
 b:Bool
 its:List (Nat×List Nat)
 bh:List Nat
noncomputable def PD.kv (x:PD):p8:=⟨x.kn,x.ks.isNone,x.ks,vl x.its,x.b⟩
noncomputable def PD.t (e p l:List Nat) (x:PD):List Nat:=x.kt++58::(x.bt++qt x.b::(txt e p l x.b x.its++qt x.b::x.bh))
noncomputable def PD.ok (e:List Nat) (x:PD):Prop:=(x.kt,x.kn,x.ks) ∈ mJ/\x.bt ∈ jq e/\good x.its=true/\(vl x.its).length<=100000
noncomputable def gj (e p l:List Nat):List PD->List Nat
 |[]=>[]
 |x::ps=>x.t e p l++gj e p l ps
noncomputable def qW (e:List Nat):List (List Nat):=[[44,32],[44]++e,[32,44,32,35,39,34]++e]
noncomputable def Wc (e:List Nat):List Nat->List PD->Prop
 |h,[]=>h ∈ qW e∨h=[]
 |h,x::ps=>h ∈ qW e/\Wc e x.bh ps
noncomputable def Qt (e:List Nat):List Nat->List PD->Prop
 |h,[]=>h ∈ pY e
 |h,x::ps=>h ∈ pY e/\Qt e x.bh ps
section
variable {b:Bool}{A S S₁ S₂ S' E F:PZ}{r val tl m x y rest e p l g R:List Nat}{v vs:List (List Nat)}{c d:Nat}
theorem Yb:Tk (qt b):=by cases b<;>exact⟨by decide,by decide,rfl,rfl⟩
theorem ru (he:e ∈ ends)(hp:p ∈ pads)(hl:l ∈ leads){x:PD}(hx:x.ok e)(h0:x.bh++R≠[])(h1:(x.bh++R).head?≠some 39)(hlen:E.r.length<=1000)(hr:E.r=x.t e p l++R):
  ∃F H V nl vs,Ky E x.ks.isNone x.kn x.ks F/\Sk (F.aG 1) nl H/\(nl=true->H.col≠0)/\Fs x.b H vs V/\vs.length<=1000/\vs.flatten.length<=100000/\vs.flatten=vl x.its/\V.r=x.bh++R/\V.r.length<=1000:=by
 obtain⟨hk,hb,hg,hv⟩:=hx
 obtain⟨c,y,hbt,hsp⟩:=FW he hb
 have e1:E.r=x.kt++58::c::(y++qt x.b::(txt e p l x.b x.its++qt x.b::(x.bh++R))):=by
  rw[hr]
  unfold PD.t
  rw[hbt]
  simp
 obtain⟨F,hF,hFr⟩:=Zk hk hlen e1 hsp
 have hG:(F.aG 1).r=x.bt++qt x.b::(txt e p l x.b x.its++qt x.b::(x.bh++R)):=by
  rw[cB hFr,hbt];rfl
 obtain⟨nl,H,hs,hH,Jz⟩:=M8 he hb Yb hG
 have U7:H.r.length<=1000:=by
  rw[e1]at hlen
  rw[hH]
  simp only[List.length_append,List.length_cons]at hlen⊢
  omega
 obtain⟨vs,V,hf,hfl,hV,hvs⟩:=ZS he hp hl h0 h1 hg U7 hH
 refine⟨F,H,V,nl,vs,hF,hs,Jz,hf,hvs,by rw[hfl];exact hv,hfl,hV,?_⟩
 rw[hH]at U7
 rw[hV]
 simp only[List.length_append,List.length_cons]at U7⊢
 omega
theorem vX {x:PD}(hx:x.ok e):∃c y,x.t e p l++R=c::y/\Tk c/\c≠65279:=by
 obtain⟨c,y,h1,h2,h3⟩:=Jb hx.1
 refine⟨c,y++58::(x.bt++qt x.b::(txt e p l x.b x.its++qt x.b::x.bh))++R,?_,h2,h3⟩
 unfold PD.t
 rw[h1]
 rfl
theorem yG {x:PD}(h:vs.flatten=vl x.its):(⟨x.kn,x.ks.isNone,x.ks,vs.flatten,x.b⟩:p8)=x.kv:=by rw[h];rfl
theorem pP (h:x=c::y)(hc:c≠39):x++R≠[]/\(x++R).head?≠some 39:=by
 subst h
 refine⟨List.cons_ne_nil _ _,?_⟩
 show some c≠some 39
 intro e
 injection e with e
 exact hc e
theorem R3 (he:e ∈ ends)(hp:p ∈ pads)(hl:l ∈ leads):∀(ps:List PD) (h:List Nat) (A:PZ),(∀x ∈ ps,PD.ok e x)->Qt e h ps->A.r.length<=1000->A.r=h++(gj e p l ps++[0])->Bt A (ps.map PD.kv)
 |[],h,A,_,hb,hlen,hr=>by
  obtain⟨Z,h1,h2,_⟩:=Cm he hb ⟨by decide,by decide,rfl,rfl⟩ hr
  exact .stop h1 h2
 |x::ps,h,A,hx,hb,hlen,hr=>by
  have Js:=hx x (List.mem_cons_self ..)
  have er:gj e p l (x::ps)++[0]=x.t e p l++(gj e p l ps++[0]):=List.append_assoc ..
  rw[er]at hr
  obtain⟨c,y,hc,htk,_⟩:=vX (e:=e) (p:=p) (l:=l) (R:=gj e p l ps++[0]) Js
  rw[hc]at hr
  obtain⟨E,h1,h2,h3⟩:=Cm he hb.1 htk hr
  have hE:=h2.trans hc.symm
  have hbx:∃c y,x.bh=c::y/\c≠39:=by
   cases ps with
   |nil=>exact mj he hb.2
   |cons _ _=>exact mj he hb.2.1
  obtain⟨c',y',hh,zR⟩:=hbx
  obtain⟨n0,n1⟩:=pP (R:=gj e p l ps++[0]) hh zR
  have Af:E.r.length<=1000:=by
   rw[h2];rw[hr]at hlen;simp only[List.length_append]at hlen;omega
  obtain⟨F,H,V,nl,vs,k1,k2,k3,k4,k5,k6,k7,k8,k9⟩:=ru he hp hl Js n0 n1 Af hE
  have pr:=Pr.mk (nb:=true) h1 (λ_=>⟨rfl,h3⟩) h2 k1 k2 k3 k4 k5 k6
  rw[yG k7]at pr
  exact .next pr (R3 he hp hl ps x.bh V (λz hz=>hx z (List.mem_cons_of_mem _ hz)) hb.2 k9 k8)
theorem Ck (he:e ∈ ends)(hx:x ∈ qW e)(hc:Tk c)(h:S.r=x++c::r):∃nl C d r',Sk S nl C/\C.r=44::d::r'/\∃Oj E,Sk (C.aG 1) Oj E/\E.r=c::r:=by
 obtain⟨c',e',hh,_,_,_,_,zR,h10⟩:=lF he
 unfold qW at hx
 simp only[List.mem_cons,List.not_mem_nil,or_false]at hx
 have t44:Tk 44:=⟨by decide,by decide,rfl,rfl⟩
 rcases hx with rfl|rfl|rfl
 ·obtain⟨h1,h2⟩:=fU (k:=0) h t44
  have h3:(S.aG 1).r=32::c::r:=cB h
  obtain⟨h4,h5⟩:=fU (k:=1) h3 hc
  exact⟨_,_,_,_,h1,h2,_,_,h4,h5⟩
 ·have h':S.r=44::c'::(e'++c::r):=by rw[h,hh];rfl
  obtain⟨h1,h2⟩:=fU (k:=0) h' t44
  have h3:(S.aG 1).r=e++c::r:=by rw[cB h',hh];rfl
  obtain⟨E,k1,k2,_⟩:=sS he h3 (xO hc) λS₂ h h0=>Eu hc h h0
  exact⟨_,_,_,_,h1,h2,_,_,k1,k2⟩
 ·have h':S.r=32::44::32::35::39::34::(e++c::r):=by rw[h];simp
  obtain⟨h1,h2⟩:=fU (k:=1) h' t44
  have h3:((S.aG 1).aG 1).r=32::35::39::34::(e++c::r):=cB h2
  obtain⟨E,k1,k2,_⟩:=Hz he h3 (xO hc) λS₂ h h0=>Eu hc h h0
  exact⟨_,_,_,_,h1,h2,_,_,k1,k2⟩
theorem lZ (hx:x ∈ qW e):∃c y,x=c::y/\c≠39:=by
 unfold qW at hx
 simp only[List.mem_cons,List.not_mem_nil,or_false]at hx
 rcases hx with rfl|rfl|rfl
 ·exact⟨44,_,rfl,by decide⟩
 ·exact⟨44,_,rfl,by decide⟩
 ·exact⟨32,_,rfl,by decide⟩
theorem Cj (he:e ∈ ends)(h:S.r=125::(e++[0])):∃d r,S.r=125::d::r/\∃Z,Sk (S.aG 1) true Z/\Z.r=[0]:=by
 obtain⟨c',e',hh,_⟩:=lF he
 have h3:(S.aG 1).r=e++[0]:=cB h
 obtain⟨Z,k1,k2,_⟩:=sS he (d:=0) (r:=[]) h3 (λe=>absurd e (by decide)) λS₂ h h0=>Eu ⟨by decide,by decide,rfl,rfl⟩ h h0
 exact⟨c',e'++[0],by rw[h,hh];rfl,Z,k1,k2⟩
theorem RJ (he:e ∈ ends)(hp:p ∈ pads)(hl:l ∈ leads):∀(ps:List PD) (h:List Nat) (A:PZ),(∀x ∈ ps,PD.ok e x)->Wc e h ps->A.r.length<=1000->A.r=h++(gj e p l ps++125::(e++[0]))->Ft A (ps.map PD.kv)
 |[],h,A,_,hb,hlen,hr=>by
  have Yd:Tk 125:=⟨by decide,by decide,rfl,rfl⟩
  rcases hb with hb|rfl
  ·obtain⟨nl,C,d,r',h1,h2,Oj,E,h3,h4⟩:=Ck he hb Yd hr
   obtain⟨d',r2,h5,Z,h6,h7⟩:=Cj he h4
   exact .xU h1 h2 h3 h5 h6 h7
  ·obtain⟨h1,h2⟩:=fU (k:=0) hr Yd
   obtain⟨d',r2,h5,Z,h6,h7⟩:=Cj he hr
   exact .stop h1 h5 h6 h7
 |x::ps,h,A,hx,hb,hlen,hr=>by
  have Js:=hx x (List.mem_cons_self ..)
  have er:gj e p l (x::ps)++125::(e++[0])=x.t e p l++(gj e p l ps++125::(e++[0])):=List.append_assoc ..
  rw[er]at hr
  obtain⟨c,y,hc,htk,_⟩:=vX (e:=e) (p:=p) (l:=l) (R:=gj e p l ps++125::(e++[0])) Js
  rw[hc]at hr
  obtain⟨nl,C,d,r',h1,h2,Oj,E,h3,h4⟩:=Ck he hb.1 htk hr
  have hE:=h4.trans hc.symm
  have hbx:x.bh++(gj e p l ps++125::(e++[0]))≠[]/\(x.bh++(gj e p l ps++125::(e++[0]))).head?≠some 39:=by
   cases ps with
   |nil=>
    rcases hb.2 with hb|hb
    ·obtain⟨c',y',hh,zR⟩:=lZ hb
     exact pP hh zR
    ·rw[hb]
     exact⟨List.cons_ne_nil _ _,by show some 125≠some 39;decide⟩
   |cons _ _=>
    obtain⟨c',y',hh,zR⟩:=lZ hb.2.1
    exact pP hh zR
  have Af:E.r.length<=1000:=by
   rw[h4];rw[hr]at hlen;simp only[List.length_append]at hlen;omega
  obtain⟨F,H,V,nl2,vs,k1,k2,k3,k4,k5,k6,k7,k8,k9⟩:=ru he hp hl Js hbx.1 hbx.2 Af hE
  have pr:=Pr.mk (nb:=false) h3 (λe=>nomatch e) h4 k1 k2 k3 k4 k5 k6
  rw[yG k7]at pr
  exact .next h1 h2 pr (RJ he hp hl ps x.bh V (λz hz=>hx z (List.mem_cons_of_mem _ hz)) hb.2 k9 k8)
theorem QC {w:List Nat}:(P0 w).r=w++[0]:=rfl
theorem JM (he:e ∈ ends)(hp:p ∈ pads)(hl:l ∈ leads){x:PD}{ps:List PD}(hx:∀z ∈ x::ps,PD.ok e z)(hb:Wc e x.bh ps)(hn:ps.length<=100)(hw:(123::(gj e p l (x::ps)++125::e)).length<=999):
  Run (aS::aD::aM true::told ((x::ps).map PD.kv)) false (Z0 (123::(gj e p l (x::ps)++125::e))):=by
 have Js:=hx x (List.mem_cons_self ..)
 obtain⟨c,y,hc,htk,_⟩:=vX (e:=e) (p:=p) (l:=l) (R:=gj e p l ps++125::(e++[0])) Js
 let w:=123::(gj e p l (x::ps)++125::e)
 have hr:(P0 w).r=123::(x.t e p l++(gj e p l ps++125::(e++[0]))):=by
  rw[QC]
  show 123::(((x.t e p l++gj e p l ps)++125::e)++[0])=_
  simp
 rw[hc]at hr
 have hE:((P0 w).aG 1).r=x.t e p l++(gj e p l ps++125::(e++[0])):=by rw[cB hr,hc];rfl
 have Af:((P0 w).aG 1).r.length<=1000:=by
  rw[cB hr]
  have:(P0 w).r.length<=1000:=by rw[QC,List.length_append];exact Nat.add_le_add_right hw 1
  rw[hr]at this
  simp only[List.length_cons,List.drop_zero]at this⊢
  omega
 have hbx:x.bh++(gj e p l ps++125::(e++[0]))≠[]/\(x.bh++(gj e p l ps++125::(e++[0]))).head?≠some 39:=by
  cases ps with
  |nil=>
   rcases hb with hb|hb
   ·obtain⟨c',y',hh,zR⟩:=lZ hb
    exact pP hh zR
   ·rw[hb]
    exact⟨List.cons_ne_nil _ _,by show some 125≠some 39;decide⟩
  |cons _ _=>
   obtain⟨c',y',hh,zR⟩:=lZ hb.1
   exact pP hh zR
 obtain⟨F,H,V,nl2,vs,k1,k2,k3,k4,k5,k6,k7,k8,k9⟩:=ru he hp hl Js hbx.1 hbx.2 Af hE
 have hE':((P0 w).aG 1).r=c::y:=cB hr
 obtain⟨s1,s2⟩:=fU (k:=0) hE' htk
 have pr:=Pr.mk (nb:=false) s1 (λe=>nomatch e) hE' k1 k2 k3 k4 k5 k6
 rw[yG k7]at pr
 exact goF hw hr pr (RJ he hp hl ps x.bh V (λz hz=>hx z (List.mem_cons_of_mem _ hz)) hb k9 k8) (by rw[List.length_map];exact hn)
theorem FQ (he:e ∈ ends)(hp:p ∈ pads)(hl:l ∈ leads){x:PD}{ps:List PD}(hx:∀z ∈ x::ps,PD.ok e z)(hb:Qt e x.bh ps)(hw:(gj e p l (x::ps)).length<=999):
  Run (aS::aD::aM false::told ((x::ps).map PD.kv)) false (Z0 (gj e p l (x::ps))):=by
 have Js:=hx x (List.mem_cons_self ..)
 obtain⟨c,y,hc,htk,abQ⟩:=vX (e:=e) (p:=p) (l:=l) (R:=gj e p l ps++[0]) Js
 let w:=gj e p l (x::ps)
 have hr:(P0 w).r=x.t e p l++(gj e p l ps++[0]):=by
  rw[QC]
  exact List.append_assoc ..
 have Af:(P0 w).r.length<=1000:=by rw[QC,List.length_append];exact Nat.add_le_add_right hw 1
 have hbx:∃c y,x.bh=c::y/\c≠39:=by
  cases ps with
  |nil=>exact mj he hb
  |cons _ _=>exact mj he hb.1
 obtain⟨c',y',hh,zR⟩:=hbx
 obtain⟨n0,n1⟩:=pP (R:=gj e p l ps++[0]) hh zR
 obtain⟨F,H,V,nl2,vs,k1,k2,k3,k4,k5,k6,k7,k8,k9⟩:=ru he hp hl Js n0 n1 Af hr
 have hE':(P0 w).r=c::y:=hr.trans hc
 obtain⟨s1,s2⟩:=fU (k:=0) hE' htk
 have pr:=Pr.mk (nb:=false) s1 (λe=>nomatch e) hE' k1 k2 k3 k4 k5 k6
 have pr':=pr
 rw[yG k7]at pr'
 exact goB hw pr' s1 ⟨c,y,hE',abQ⟩ (R3 he hp hl ps x.bh V (λz hz=>hx z (List.mem_cons_of_mem _ hz)) hb k9 k8)
  ⟨F,H,_,_,_,nl2,_,vs,k1,k2,k3,k4,k5,k6,(yG k7).symm⟩
end
noncomputable def Ev (CF:fP) (e:IE) (st:AS) (v:AV):Prop:=∀Q:PE,Q v st->bf TT CF e st Q
noncomputable def Lj (CF:fP) (es:List IE) (st:AS) (vs:List AV):Prop:=∀Q:List AV->AS->Prop,Q vs st->gD TT CF es st Q
section
variable {CF:fP}{st:AS}{e t a b:IE}{v u w:AV}{es:List IE}{vs:List AV}{x y:List Nat}{n:Nat}{Q:PS}{r A B:List IS}{i j:Int}{c:Bool}{o:Ec}
theorem Ev.ak {k:Nat}(h:get k st.ak=some v):Ev CF (.ak k) st v:=λQ hQ=>aO h hQ
theorem Ev.aA:Ev CF (.aA v) st v:=λQ hQ=>hQ
theorem Ev.bin {o:Eh}(ha:Ev CF a st v)(hb:Ev CF b st u)(h:Bs o v u=some w):Ev CF (.bin o a b) st w:=λQ hQ=>ha _ (hb _ (aO h hQ))
theorem Dn {α:Type}{b:Bool}{a:α}(h:b=true):qz b a=some a:=h▸rfl
theorem Ev.add (ha:Ev CF a st (.str x))(hb:Ev CF b st (.str y))(h:x.length+y.length<=100000):Ev CF (.bin .add a b) st (.str (x++y)):=ha.bin hb (Dn (Nat.ble_eq.mpr h))
theorem Ev.uW (ha:Ev CF a st (.int i))(hb:Ev CF b st (.int j)):Ev CF (.bin .add a b) st (.int (i+j)):=ha.bin hb rfl
theorem Ev.G3 (ha:Ev CF a st (.int i))(hb:Ev CF b st (.int j)):Ev CF (.bin .sub a b) st (.int (i - j)):=ha.bin hb rfl
theorem Ev.qP (ha:Ev CF a st (.int i))(hb:Ev CF b st (.int j))(h:fQ j=true):Ev CF (.bin .mod a b) st (.int (Int.fmod i j)):=ha.bin hb (Dn h)
theorem Ev.yZ (ha:Ev CF a st (.int i))(hb:Ev CF b st (.int j))(h:fQ j=true):Ev CF (.bin .div a b) st (.int (Int.fdiv i j)):=ha.bin hb (Dn h)
theorem Ev.Om (ha:Ev CF a st (.int i))(hb:Ev CF b st (.int j))(h:fQ i=true):Ev CF (.bin .mul a b) st (.int (i*j)):=ha.bin hb (Dn h)
theorem Ev.cmp (ha:Ev CF a st v)(hb:Ev CF b st u)(h:mL TT st o v u=some c):Ev CF (.cmp o a b) st (.bool c):=λQ hQ=>ha _ (hb _ (aO h hQ))
theorem Ev.idx (ha:Ev CF a st v)(hb:Ev CF b st u)(h:idxV TT st v u=some w):Ev CF (.idx a b) st w:=λQ hQ=>ha _ (hb _ (aO h hQ))
theorem Ev.tO (ht:Ev CF t st u)(h:truth st u=some true)(ha:Ev CF a st v):Ev CF (.ite t a b) st v:=λQ hQ=>ht _ (aO h (ha _ hQ))
theorem Ev.pO (ht:Ev CF t st u)(h:truth st u=some false)(hb:Ev CF b st v):Ev CF (.ite t a b) st v:=λQ hQ=>ht _ (aO h (hb _ hQ))
theorem Ev.Ou {l:List AV}(h:Ev CF e st (.lst l)):Ev CF (.len e) st (.int l.length):=λQ hQ=>h _ hQ
theorem Ev.U6 {k:Nat}{l:List AV}(h:Ev CF e st (.own k))(hg:get k st.own=some (.l l)):Ev CF (.len e) st (.int l.length):=λQ hQ=>h _ (aO (a:=l.length) (by
 show((get k st.own).bind Cont.lO).map List.length=_
 rw[hg]
 rfl) hQ)
theorem Ev.tup (h:Lj CF es st vs)(hc:(nM vs&&Nat.ble vs.length 1000)=true):Ev CF (.tup es) st (.tup vs):=λQ hQ=>h _ (dg hc hQ)
theorem Ev.lst (h:Lj CF es st vs)(hc:(nM vs&&Nat.ble vs.length 1000)=true):Ev CF (.lst es) st (.lst vs):=λQ hQ=>h _ (dg hc hQ)
theorem Ev.cU {f:Nat}{i:FI}{bs:List (Nat×AV)}{us:List AV}(h:Lj CF es st vs)(hc:nM vs=true)(hf:TT.FT f=some i)(hb:binds i.ps i.ds vs []=some bs)(hu:bs.map (·.2)=us)(hcall:∀Q:AV->Option cF->Prop,Q v st.par->CF f us st.par Q):Ev CF (.cU f es) st v:=λQ hQ=>
 h _ (dg (by rw[hc];rfl) (aO hf (aO hb (hu▸hcall _ hQ))))
theorem Ev.jV {k:Nat}{a:Addr}(h:cellAt st k a=some v):Ev CF (.jV k a) st v:=λQ hQ=>aO h hQ
theorem Gw {kd:Xx}{xs:List Tg}{b:List IS}(h:bf TT CF e st λv st=>pick (jM st kd v) λl=>l.foldr (λa (K:AS->Prop) st=>jM st kd v=some l/\pick (oW st xs a) λst=>wpS TT CF b st λo st=>(match o with
 | .next=>K st
 | .brk=>Q .next st
 | .ret v=>Q (.ret v) st)) (Q .next) st):wp1 TT CF (.jo kd xs e b) st Q:=h
theorem dY {k:Nat}(h:Ev CF e st v)(hQ:wpS TT CF r (aK st k v) Q):wpS TT CF (.asg k e::r) st Q:=aL (h _ hQ)
theorem qK (h:Ev CF e st v)(hQ:Q (.ret v) st):wpS TT CF (.ret e::r) st Q:=aL (h _ hQ)
theorem fu (h:Ev CF t st u)(hu:truth st u=some false)(hQ:wpS TT CF r st Q):wpS TT CF (.ite t A []::r) st Q:=aL (h _ (aO hu hQ))
theorem ux (h:Ev CF t st u)(hu:truth st u=some true)(hQ:wpS TT CF (A++r) st Q):wpS TT CF (.ite t A B::r) st Q:=by
 rw[gY]at hQ
 exact aL (h _ (aO hu hQ))
theorem Sq {xs:List Tg}{st':AS}(h:Ev CF e st v)(hb:oW st xs v=some st')(hQ:wpS TT CF r st' Q):wpS TT CF (.nD xs e::r) st Q:=aL (h _ (aO hb hQ))
theorem Lj.nil:Lj CF [] st []:=λQ hQ=>hQ
theorem Lj.cons (h:Ev CF e st v)(hs:Lj CF es st vs):Lj CF (e::es) st (v::vs):=λQ hQ=>h _ (hs _ hQ)
end
section
variable {n:Nat}{p:Option cF}{Q:AV->Option cF->Prop}{e pd l:List Nat}
noncomputable def iG (l:List (List Nat)):List AV:=l.map AV.str
theorem aaP (hQ:Q (.lst (iG ends)) p):CO (n+1) 162 [] p Q:=by
 refine aH rfl ?_
 exact hQ
theorem aaO (hQ:Q (.lst (iG pads)) p):CO (n+1) 163 [] p Q:=by
 refine aH rfl ?_
 exact hQ
theorem aaN (hQ:Q (.lst (iG leads)) p):CO (n+1) 164 [] p Q:=by
 refine aH rfl ?_
 exact hQ
noncomputable def words:List (List Nat):=[[97],[105,39,115],[34,110],[98,92,110],[35],[45,45,45],[120,58],[233],[39,39],[45],[91,99],[46,46,46],[37,100],[92],[44],[63]]
theorem aaR (hQ:Q (.lst (iG words)) p):CO (n+1) 160 [] p Q:=by
 refine aH rfl ?_
 exact hQ
noncomputable def Dj (k:List Nat×List Nat×Option (List Nat)):AV:=.tup [.str k.1,.str k.2.1,xR k.2.2]
theorem aaQ (hQ:Q (.lst (mJ.map Dj)) p):CO (n+1) 161 [] p Q:=by
 refine aH rfl ?_
 exact hQ
@[elab_as_elim] theorem k7 {k:Nat} (h:k<7) {R:Nat->Prop} (h0:R 0) (h1:R 1) (h2:R 2) (h3:R 3) (h4:R 4) (h5:R 5) (h6:R 6):R k:=match k,h with
 |0,_=>h0
 |1,_=>h1
 |2,_=>h2
 |3,_=>h3
 |4,_=>h4
 |5,_=>h5
 |6,_=>h6
theorem aaM {k:Nat}(hk:k<7)(he:e.length<=9)(hp:pd.length<=9)(hl:l.length<=9)(hQ:Q (.tup [.str (gM k),.str (gA e pd l k),.str (gB e pd l k)]) p):CO (n+1) 165 [.int (k:Nat),.str e,.str pd,.str l] p Q:=by
 refine aH rfl ?_
 have lo:∀{st:AS} {x:Nat} {v:AV},get x st.ak=some v->Ev (CO n) (.ak x) st v:=λh=>Ev.ak h
 have f1:((l++e)++pd).length<=27:=by simp only[List.length_append];omega
 have eK:∀{st:AS} {i:Nat},get 170 st.ak=some (.int (i:Nat))->∀j:Nat,Ev (CO n) (.cmp .eq (.ak 170) (.aA (.int (j:Nat)))) st (.bool (decide ((i:Int)=(j:Int)))):=λh j=>(Ev.ak h).cmp Ev.aA rfl
 have go:wpS TT (CO n) ug ⟨p,[(170,.int (k:Nat)),(168,.str e),(169,.str pd),(167,.str l)],[]⟩ (bw Q):=by
  refine dY (v:=.str ((l++e)++pd)) (((lo rfl).add (lo rfl) (by omega)).add (lo rfl) (by simp only[List.length_append];omega)) ?_
  revert hQ
  refine k7 hk ?_ ?_ ?_ ?_ ?_ ?_ ?_<;>intro hQ
  ·refine ux (eK rfl 0) rfl ?_
   exact qK (Ev.tup (.cons Ev.aA (.cons Ev.aA (.cons (lo rfl) .nil))) rfl) hQ
  ·refine fu (eK rfl 0) rfl (ux (eK rfl 1) rfl ?_)
   exact qK (Ev.tup (.cons Ev.aA (.cons (lo rfl) (.cons ((Ev.aA.add (lo rfl) (by simp only[List.length_cons,List.length_nil];omega)).add (lo rfl) (by simp only[List.length_append,List.length_cons,List.length_nil];omega)) .nil))) rfl) hQ
  ·refine fu (eK rfl 0) rfl (fu (eK rfl 1) rfl (ux (eK rfl 2) rfl ?_))
   exact qK (Ev.tup (.cons Ev.aA (.cons (((lo rfl).add (lo rfl) (by omega)).add (lo rfl) (by simp only[List.length_append]at f1⊢;omega)) (.cons ((Ev.aA.add (lo rfl) (by simp only[List.length_cons,List.length_nil];omega)).add (lo rfl) (by simp only[List.length_append,List.length_cons,List.length_nil];omega)) .nil))) rfl) hQ
  ·refine fu (eK rfl 0) rfl (fu (eK rfl 1) rfl (fu (eK rfl 2) rfl (ux (eK rfl 3) rfl ?_)))
   exact qK (Ev.tup (.cons Ev.aA (.cons ((((lo rfl).add (lo rfl) (by omega)).add (lo rfl) (by simp only[List.length_append]at f1⊢;omega)).add (lo rfl) (by simp only[List.length_append]at f1⊢;omega)) (.cons (((((lo rfl).add (lo rfl) (by omega)).add (lo rfl) (by simp only[List.length_append]at f1⊢;omega)).add (lo rfl) (by simp only[List.length_append]at f1⊢;omega)).add (lo rfl) (by simp only[List.length_append]at f1⊢;omega)) .nil))) rfl) hQ
  ·refine fu (eK rfl 0) rfl (fu (eK rfl 1) rfl (fu (eK rfl 2) rfl (fu (eK rfl 3) rfl (ux (eK rfl 4) rfl ?_))))
   exact qK (Ev.tup (.cons Ev.aA (.cons Ev.aA (.cons Ev.aA .nil))) rfl) hQ
  ·refine fu (eK rfl 0) rfl (fu (eK rfl 1) rfl (fu (eK rfl 2) rfl (fu (eK rfl 3) rfl (fu (eK rfl 4) rfl (ux (eK rfl 5) rfl ?_)))))
   exact qK (Ev.tup (.cons Ev.aA (.cons (((lo rfl).add Ev.aA (by simp only[List.length_cons,List.length_nil];omega)).add (lo rfl) (by simp only[List.length_append,List.length_cons,List.length_nil];omega)) (.cons Ev.aA .nil))) rfl) hQ
  ·refine fu (eK rfl 0) rfl (fu (eK rfl 1) rfl (fu (eK rfl 2) rfl (fu (eK rfl 3) rfl (fu (eK rfl 4) rfl (fu (eK rfl 5) rfl ?_)))))
   exact qK (Ev.tup (.cons Ev.aA (.cons Ev.aA (.cons ((Ev.aA.add (lo rfl) (by simp only[List.length_cons,List.length_nil];omega)).add (lo rfl) (by simp only[List.length_append,List.length_cons,List.length_nil];omega)) .nil))) rfl) hQ
 exact go
end
theorem gp {x y:Nat}{v:AV}{l:List (Nat×AV)}(h:x≠y):get y (put x v l)=get y l:=by rw[oE,if_neg h]
theorem gq {x:Nat}{v:AV}{l:List (Nat×AV)}:get x (put x v l)=some v:=by rw[oE,if_pos rfl]
structure WS (st:AS)(pr:Option cF)(T:List Int)(m kk:Int)(e pd l v s d:List Nat):Prop where
 par:st.par=pr
 own:st.own=[]
 h1:get 174 st.ak=some (.lst (T.map .int))
 h2:get 176 st.ak=some (.int m)
 h3:get 175 st.ak=some (.int kk)
 h4:get 168 st.ak=some (.str e)
 h5:get 169 st.ak=some (.str pd)
 h6:get 167 st.ak=some (.str l)
 h7:get 117 st.ak=some (.str v)
 h8:get 172 st.ak=some (.str s)
 h9:get 93 st.ak=some (.str d)
section
variable {n:Nat}{pr:Option cF}{T:List Int}{m kk:Int}{e pd l v s d:List Nat}{st:AS}{Q:PS}
theorem WS.set {x:Nat}{u:AV}(W:WS st pr T m kk e pd l v s d)(h:[174,176,175,168,169,167,117,172,93].any (Nat.beq x ·)=false):WS (aK st x u) pr T m kk e pd l v s d:=by
 simp only[List.any_cons,List.any_nil,Bool.or_eq_false_iff]at h
 obtain⟨g1,g2,g3,g4,g5,g6,g7,g8,g9,_⟩:=h
 have ne:∀{y:Nat},Nat.beq x y=false->x≠y:=λh e=>by subst e;rw[Nat.beq_refl]at h;exact nomatch h
 exact⟨W.par,W.own,(gp (ne g1)).trans W.h1,(gp (ne g2)).trans W.h2,(gp (ne g3)).trans W.h3,(gp (ne g4)).trans W.h4,(gp (ne g5)).trans W.h5,(gp (ne g6)).trans W.h6,(gp (ne g7)).trans W.h7,(gp (ne g8)).trans W.h8,(gp (ne g9)).trans W.h9⟩
theorem WS.Yn {u:List Nat}(W:WS st pr T m kk e pd l v s d):WS (aK st 117 (.str u)) pr T m kk e pd l u s d:=
 ⟨W.par,W.own,(gp (by decide)).trans W.h1,(gp (by decide)).trans W.h2,(gp (by decide)).trans W.h3,(gp (by decide)).trans W.h4,(gp (by decide)).trans W.h5,(gp (by decide)).trans W.h6,gq,(gp (by decide)).trans W.h8,(gp (by decide)).trans W.h9⟩
theorem WS.Ym {u:List Nat}(W:WS st pr T m kk e pd l v s d):WS (aK st 172 (.str u)) pr T m kk e pd l v u d:=
 ⟨W.par,W.own,(gp (by decide)).trans W.h1,(gp (by decide)).trans W.h2,(gp (by decide)).trans W.h3,(gp (by decide)).trans W.h4,(gp (by decide)).trans W.h5,(gp (by decide)).trans W.h6,(gp (by decide)).trans W.h7,gq,(gp (by decide)).trans W.h9⟩
theorem WS.Yl {u:List Nat}(W:WS st pr T m kk e pd l v s d):WS (aK st 93 (.str u)) pr T m kk e pd l v s u:=
 ⟨W.par,W.own,(gp (by decide)).trans W.h1,(gp (by decide)).trans W.h2,(gp (by decide)).trans W.h3,(gp (by decide)).trans W.h4,(gp (by decide)).trans W.h5,(gp (by decide)).trans W.h6,(gp (by decide)).trans W.h7,(gp (by decide)).trans W.h8,gq⟩
noncomputable abbrev wB:List IS:=[
     .asg 117 (.bin .add (.ak 117) (.ak 180)),
     .asg 172 (.bin .add (.ak 172) (.ite (.cmp .eq (.ak 180) (.aA (.str [39]))) (.bin .add (.ak 180) (.ak 180)) (.ak 180))),
     .asg 93 (.bin .add (.ak 93) (.ite (.cmp .fJ (.ak 180) (.lst [(.aA (.str [34])),(.aA (.str [92]))])) (.bin .add (.aA (.str [92])) (.ak 180)) (.ak 180)))]
theorem lE (b:Bool)(c:Nat):(gO b c).length<=2:=by
 unfold gO
 cases b with
 |false=>dsimp only;cases Nat.beq c 39<;>exact Nat.le_of_ble_eq_true rfl
 |true=>dsimp only;cases(Nat.beq c 34||Nat.beq c 92)<;>exact Nat.le_of_ble_eq_true rfl
theorem Ew {c:Nat}{k:Int}(W:WS st pr T m kk e pd l v s d)(h0:get 180 st.ak=some (.str [c]))(hk:get 173 st.ak=some (.int k))(hv:v.length<=1000)(hs:s.length<=1000)(hd:d.length<=1000)
  (hQ:∀st',WS st' pr T m kk e pd l (v++[c]) (s++gO false c) (d++gO true c)->get 173 st'.ak=some (.int k)->Q .next st'):wpS TT (CO n) wB st Q:=by
 refine dY ((Ev.ak W.h7).add (Ev.ak h0) (by simp only[List.length_cons,List.length_nil];omega)) ?_
 have W1:=W.Yn (u:=v++[c])
 have h1:get 180 (aK st 117 (.str (v++[c]))).ak=some (.str [c]):=(gp (by decide)).trans h0
 have k1:get 173 (aK st 117 (.str (v++[c]))).ak=some (.int k):=(gp (by decide)).trans hk
 generalize aK st 117 (.str (v++[c]))=st at W1 h1 k1⊢
 have e1:Ev (CO n) (.ite (.cmp .eq (.ak 180) (.aA (.str [39]))) (.bin .add (.ak 180) (.ak 180)) (.ak 180)) st (.str (gO false c)):=by
  have t:Ev (CO n) (.cmp .eq (.ak 180) (.aA (.str [39]))) st (.bool (decide ([c]=[39]))):=(Ev.ak h1).cmp Ev.aA rfl
  by_cases q:c=39
  ·subst q
   exact Ev.tO t rfl ((Ev.ak h1).add (Ev.ak h1) (by simp only[List.length_cons,List.length_nil];omega))
  ·have q1:decide ([c]=[39])=false:=decide_eq_false λe=>q (by injection e)
   have q2:Nat.beq c 39=false:=by
    cases hb:Nat.beq c 39 with
    |false=>rfl
    |true=>exact absurd (Nat.eq_of_beq_eq_true hb) q
   rw[q1]at t
   have:gO false c=[c]:=by unfold gO;rw[q2]
   rw[this]
   exact Ev.pO t rfl (Ev.ak h1)
 refine dY ((Ev.ak W1.h8).add e1 (by have:=lE false c;omega)) ?_
 have W2:=W1.Ym (u:=s++gO false c)
 have h2:get 180 (aK st 172 (.str (s++gO false c))).ak=some (.str [c]):=(gp (by decide)).trans h1
 have k2:get 173 (aK st 172 (.str (s++gO false c))).ak=some (.int k):=(gp (by decide)).trans k1
 generalize aK st 172 (.str (s++gO false c))=st at W2 h2 k2⊢
 have e2:Ev (CO n) (.ite (.cmp .fJ (.ak 180) (.lst [(.aA (.str [34])),(.aA (.str [92]))])) (.bin .add (.aA (.str [92])) (.ak 180)) (.ak 180)) st (.str (gO true c)):=by
  have t:Ev (CO n) (.cmp .fJ (.ak 180) (.lst [(.aA (.str [34])),(.aA (.str [92]))])) st (.bool ([[34],[92]].any λy=>decide (y=[c]))):=(Ev.ak h2).cmp (Ev.lst (.cons Ev.aA (.cons Ev.aA .nil)) rfl) rfl
  cases q:(Nat.beq c 34||Nat.beq c 92)with
  |true=>
   have q1:([[34],[92]].any λy=>decide (y=[c]))=true:=by
    rw[Bool.or_eq_true]at q
    rcases q with q|q<;>have q:=Nat.eq_of_beq_eq_true q<;>subst q<;>rfl
   rw[q1]at t
   have:gO true c=[92]++[c]:=by unfold gO;rw[q];rfl
   rw[this]
   exact Ev.tO t rfl (Ev.aA.add (Ev.ak h2) (by simp only[List.length_cons,List.length_nil];omega))
  |false=>
   have q1:([[34],[92]].any λy=>decide (y=[c]))=false:=by
    rw[Bool.or_eq_false_iff]at q
    have a1:decide (([34]:List Nat)=[c])=false:=decide_eq_false λe=>by injection e with e;subst e;exact nomatch q.1
    have a2:decide (([92]:List Nat)=[c])=false:=decide_eq_false λe=>by injection e with e;subst e;exact nomatch q.2
    simp only[List.any_cons,List.any_nil,a1,a2,Bool.or_false]
   rw[q1]at t
   have:gO true c=[c]:=by unfold gO;rw[q]
   rw[this]
   exact Ev.pO t rfl (Ev.ak h2)
 refine dY ((Ev.ak W2.h9).add e2 (by have:=lE true c;omega)) ?_
 exact bV (hQ _ W2.Yl ((gp (by decide)).trans k2))
theorem Dw (b:Bool):∀w:List Nat,(esc b w).length<=2*w.length
 |[]=>Nat.le_refl _
 |c::w=>by
  have:=lE b c
  have:=Dw b w
  show(gO b c++esc b w).length<=_
  simp only[List.length_append,List.length_cons]
  omega
theorem xK {k:Int}{full:List Nat}:∀(w:List Nat) {st:AS} {v s d:List Nat},WS st pr T m kk e pd l v s d->get 173 st.ak=some (.int k)->v.length+w.length<=900->s.length+2*w.length<=900->d.length+2*w.length<=900->
  (∀st',WS st' pr T m kk e pd l (v++w) (s++esc false w) (d++esc true w)->get 173 st'.ak=some (.int k)->Q .next st')->
  (w.map λc=>AV.str [c]).foldr (λa (K:AS->Prop) st=>jM st .str (.str full)=some (full.map λc=>AV.str [c])/\pick (oW st [.l 180] a) λst=>wpS TT (CO n) wB st λo st=>(match o with
   | .next=>K st
   | .brk=>Q .next st
   | .ret v=>Q (.ret v) st)) (Q .next) st
 |[],st,v,s,d,W,hk,_,_,_,hQ=>by
  have:=hQ st
  simp only[List.append_nil,esc]at this
  exact this W hk
 |c::w,st,v,s,d,W,hk,hv,hs,hd,hQ=>by
  simp only[List.length_cons]at hv hs hd
  refine⟨rfl,?_⟩
  refine Ew (W.set (x:=180) (u:=.str [c]) rfl) gq ((gp (by decide)).trans hk) (by omega) (by omega) (by omega) λst' W' hk'=>?_
  have l1:=lE false c
  have l2:=lE true c
  refine xK w W' hk' (by simp only[List.length_append,List.length_cons,List.length_nil];omega) (by simp only[List.length_append];omega) (by simp only[List.length_append];omega) λst'' W'' hk''=>?_
  have e1:∀b,esc b (c::w)=gO b c++esc b w:=λb=>rfl
  refine hQ st'' ?_ hk''
  rw[e1,e1]
  simp only[List.append_assoc,List.cons_append,List.nil_append]at W''⊢
  exact W''
end
theorem Rv {st:AS}{l:List AV}{i:Int}{a:AV}(h:yx l i=some a):idxV TT st (.lst l) (.int i)=some a:=by
 show pJ (pJ (yx l i) _) _=_
 rw[h]
 rfl
theorem jl {st:AS}{l:List AV}{i:Int}(h0:0<=i)(h1:i<(l.length:Int)):∃a ∈ l,idxV TT st (.lst l) (.int i)=some a:=by
 have hk:i.toNat<l.length:=by omega
 refine⟨l[i.toNat],List.getElem_mem hk,Rv ?_⟩
 unfold yx
 rw[Bo h0]
 show(eN i l.length).bind (λk=>nth k l)=_
 rw[TP (Int.toNat_of_nonneg h0).symm hk,Option.bind_some,pL,List.getElem?_eq_getElem hk]
theorem O8 {st:AS}{l:List AV}(h:0<l.length):∃a ∈ l,idxV TT st (.lst l) (.int (-1))=some a:=by
 have hk:l.length - 1<l.length:=by omega
 refine⟨l[l.length - 1],List.getElem_mem hk,Rv ?_⟩
 show(tH (-1) l.length).bind (λk=>nth k l)=_
 unfold tH
 rw[Bo (by omega),Bo (by omega)]
 show nth ((-1:Int)+(l.length:Int)).toNat l=_
 have:((-1:Int)+(l.length:Int)).toNat=l.length - 1:=by omega
 rw[this,pL,List.getElem?_eq_getElem hk]
theorem tR {T:List Int}{a:AV}(h:a ∈ T.map AV.int):∃z,a= .int z:=by
 obtain⟨z,_,rfl⟩:=List.mem_map.mp h
 exact⟨z,rfl⟩
theorem jw {l:List (List Nat)}{a:AV}(h:a ∈ iG l):∃w ∈ l,a= .str w:=by
 obtain⟨z,h',rfl⟩:=List.mem_map.mp h
 exact⟨z,h',rfl⟩
theorem iu (z:Int){k:Int}(h:0<k):0<=Int.fmod z k/\Int.fmod z k<k:=⟨Int.fmod_nonneg_of_pos z h,Int.fmod_lt_of_pos z h⟩
theorem Ja (z:Int){k:Int}(h:k=7∨k=3):∃kd:Nat,Int.fmod z k=(kd:Nat)/\kd<7:=by
 have hp:0<k:=by rcases h with rfl|rfl<;>decide
 obtain⟨h1,h2⟩:=iu z hp
 exact⟨(Int.fmod z k).toNat,by omega,by omega⟩
theorem kJ:∀w ∈ words,w.all Xh=true/\Jx w=true/\w.length<=3:=by
 unfold words
 simp only[List.forall_mem_cons,List.not_mem_nil,false_imp_iff,implies_true,and_true]
 exact⟨⟨rfl,rfl,by decide⟩,⟨rfl,rfl,by decide⟩,⟨rfl,rfl,by decide⟩,⟨rfl,rfl,by decide⟩,⟨rfl,rfl,by decide⟩,⟨rfl,rfl,by decide⟩,⟨rfl,rfl,by decide⟩,⟨rfl,rfl,by decide⟩,⟨rfl,rfl,by decide⟩,⟨rfl,rfl,by decide⟩,⟨rfl,rfl,by decide⟩,⟨rfl,rfl,by decide⟩,⟨rfl,rfl,by decide⟩,⟨rfl,rfl,by decide⟩,⟨rfl,rfl,by decide⟩,⟨rfl,rfl,by decide⟩⟩
theorem Lr (e p l:List Nat)(b:Bool)(a c:List (Nat×List Nat)):txt e p l b (a++c)=txt e p l b a++txt e p l b c:=by
 induction a with
 |nil=>rfl
 |cons i r ih=>
  show gT e p l b i.1++(esc b i.2++txt e p l b (r++c))=(gT e p l b i.1++(esc b i.2++txt e p l b r))++txt e p l b c
  rw[ih]
  simp only[List.append_assoc]
theorem SX (a c:List (Nat×List Nat)):vl (a++c)=vl a++vl c:=by
 induction a with
 |nil=>rfl
 |cons i r ih=>
  show gM i.1++(i.2++vl (r++c))=(gM i.1++(i.2++vl r))++vl c
  rw[ih]
  simp only[List.append_assoc]
theorem vL {k:Nat}:∀its:List (Nat×List Nat),(∀i ∈ its,i.2 ∈ words)->good (its++[(k,[])])=true
 |[],_=>rfl
 |i::its,h=>by
  have ih:=vL (k:=k) its λj hj=>h j (.tail _ hj)
  obtain⟨w1,w2,_⟩:=kJ i.2 (h i (.head _))
  cases hh:its++[(k,[])]with
  |nil=>exact absurd hh (by simp)
  |cons j js=>
   rw[hh]at ih
   show((match its++[(k,[])]with|[]=>i.2.isEmpty|_::_=>i.2.all Xh&&Jx i.2)&&good (its++[(k,[])]))=true
   rw[hh,ih,w1,w2]
   rfl
theorem JH (k:Nat):(gM k).length<=3:=by
 match k with
 |0=>decide
 |1=>decide
 |2=>decide
 |3=>decide
 |4=>decide
 |5=>decide
 |_+6=>exact Nat.zero_le _
theorem Ay {e p l:List Nat}(he:e.length<=2)(hp:p.length<=2)(hl:l.length<=1)(b:Bool)(k:Nat):(gT e p l b k).length<=13:=by
 cases b with
 |false=>
  match k with
  |0=>exact Nat.le_of_ble_eq_true rfl
  |1=>show((l++e)++p).length<=13;simp only[List.length_append];omega
  |2=>show((((l++e)++p)++e)++p).length<=13;simp only[List.length_append];omega
  |3=>show(((((l++e)++p)++e)++e)++p).length<=13;simp only[List.length_append];omega
  |4=>exact Nat.le_of_ble_eq_true rfl
  |5=>show((l++[8232])++p).length<=13;simp only[List.length_append,List.length_cons,List.length_nil];omega
  |_+6=>exact Nat.zero_le _
 |true=>
  match k with
  |0=>show((l++e)++p).length<=13;simp only[List.length_append];omega
  |1=>show(([32,92]++e)++p).length<=13;simp only[List.length_append,List.length_cons,List.length_nil];omega
  |2=>show(([92,110,92]++e)++p).length<=13;simp only[List.length_append,List.length_cons,List.length_nil];omega
  |3=>show((((((l++e)++p)++l)++e)++e)++p).length<=13;simp only[List.length_append];omega
  |4=>exact Nat.le_of_ble_eq_true rfl
  |5=>exact Nat.le_of_ble_eq_true rfl
  |_+6=>show(([92]++e)++p).length<=13;simp only[List.length_append,List.length_cons,List.length_nil];omega
theorem lR {e p l:List Nat}(he:e.length<=2)(hp:p.length<=2)(hl:l.length<=1)(b:Bool):∀its:List (Nat×List Nat),(∀i ∈ its,i.2.length<=3)->(txt e p l b its).length<=19*its.length
 |[],_=>Nat.le_refl _
 |i::its,h=>by
  have ih:=lR he hp hl b its λj hj=>h j (.tail _ hj)
  have h1:=Ay he hp hl b i.1
  have h2:=Dw b i.2
  have h3:=h i (.head _)
  show(gT e p l b i.1++(esc b i.2++txt e p l b its)).length<=_
  simp only[List.length_append,List.length_cons]
  omega
theorem zV:∀its:List (Nat×List Nat),(∀i ∈ its,i.2.length<=3)->(vl its).length<=6*its.length
 |[],_=>Nat.le_refl _
 |i::its,h=>by
  have ih:=zV its λj hj=>h j (.tail _ hj)
  have h1:=JH i.1
  have h3:=h i (.head _)
  show(gM i.1++(i.2++vl its)).length<=_
  simp only[List.length_append,List.length_cons]
  omega
section
variable {n:Nat}{pr:Option cF}{T:List Int}{m kk:Int}{e pd l v s d:List Nat}{st:AS}{Q:PS}
noncomputable abbrev tB:List IS:=[
   .asg 170 (.ite (.cmp .lt (.ak 173) (.len (.ak 174))) (.bin .mod (.bin .add (.idx (.ak 174) (.bin .sub (.ak 173) (.aA (.int 1)))) (.ak 173)) (.ak 175)) (.bin .mod (.ak 176) (.ak 175))),
   .nD [.l 177,.l 178,.l 179] (.cU 165 [(.ak 170),(.ak 168),(.ak 169),(.ak 167)]),
   .asg 117 (.bin .add (.ak 117) (.ak 177)),
   .asg 172 (.bin .add (.ak 172) (.ak 178)),
   .asg 93 (.bin .add (.ak 93) (.ak 179)),
   .ite (.cmp .lt (.ak 173) (.len (.ak 174))) [
    .jo .str [.l 180] (.idx (.cU 160 []) (.bin .mod (.idx (.ak 174) (.ak 173)) (.aA (.int 16)))) wB] []]
theorem turn {k:Nat}{its:List (Nat×List Nat)}(hkk:kk=7∨kk=3)(hT:k<=T.length)(he:e.length<=2)(hp:pd.length<=2)(hl:l.length<=1)(hi:its.length<=6)(hw:∀i ∈ its,i.2 ∈ words)
  (W:WS st pr T m kk e pd l (vl its) (txt e pd l false its) (txt e pd l true its))(hk:get 173 st.ak=some (.int (k:Nat)))
  (hQ:∀kd w st',(if k<T.length then w ∈ words else w=[])->WS st' pr T m kk e pd l (vl (its++[(kd,w)])) (txt e pd l false (its++[(kd,w)])) (txt e pd l true (its++[(kd,w)]))->Q .next st'):wpS TT (CO (n+1)) tB st Q:=by
 have hsm:fQ kk=true:=by rcases hkk with rfl|rfl<;>rfl
 have hlen:(T.map AV.int).length=T.length:=List.length_map ..
 have w3:∀i ∈ its,i.2.length<=3:=λi hi=>(kJ _ (hw i hi)).2.2
 have lv:=zV its w3
 have ls:=lR he hp hl false its w3
 have ld:=lR he hp hl true its w3
 have tst:∀{st:AS},WS st pr T m kk e pd l (vl its) (txt e pd l false its) (txt e pd l true its)∨True->get 174 st.ak=some (.lst (T.map .int))->get 173 st.ak=some (.int (k:Nat))->Ev (CO (n+1)) (.cmp .lt (.ak 173) (.len (.ak 174))) st (.bool (decide ((k:Int)<(T.length:Int)))):=λ_ h1 h2=>by
  have:=(Ev.ak (CF:=CO (n+1)) h2).cmp (o:=.lt) (Ev.ak h1).Ou rfl
  rw[hlen]at this
  exact this
 have kind:∃z,Ev (CO (n+1)) (.ite (.cmp .lt (.ak 173) (.len (.ak 174))) (.bin .mod (.bin .add (.idx (.ak 174) (.bin .sub (.ak 173) (.aA (.int 1)))) (.ak 173)) (.ak 175)) (.bin .mod (.ak 176) (.ak 175))) st (.int (Int.fmod z kk)):=by
  have t:=tst (.inl W) W.h1 hk
  by_cases q:k<T.length
  ·rw[Bo (by omega)]at t
   have ix:∃a ∈ T.map AV.int,idxV TT st (.lst (T.map .int)) (.int ((k:Int) - 1))=some a:=by
    cases k with
    |zero=>exact O8 (by rw[hlen];omega)
    |succ k=>exact jl (by omega) (by rw[hlen];omega)
   obtain⟨a,ha,hx⟩:=ix
   obtain⟨z,rfl⟩:=tR ha
   exact⟨_,Ev.tO t rfl (((Ev.idx (Ev.ak W.h1) ((Ev.ak hk).G3 Ev.aA) hx).uW (Ev.ak hk)).qP (Ev.ak W.h3) hsm)⟩
  ·rw[df_ (by omega)]at t
   exact⟨_,Ev.pO t rfl ((Ev.ak W.h2).qP (Ev.ak W.h3) hsm)⟩
 obtain⟨z,kind⟩:=kind
 obtain⟨kd,hkd,hk7⟩:=Ja z hkk
 rw[hkd]at kind
 refine dY kind ?_
 have W1:=W.set (x:=170) (u:=.int (kd:Nat)) rfl
 have k1:get 173 (aK st 170 (.int (kd:Nat))).ak=some (.int (k:Nat)):=(gp (by decide)).trans hk
 have g1:get 170 (aK st 170 (.int (kd:Nat))).ak=some (.int (kd:Nat)):=gq
 generalize aK st 170 (.int (kd:Nat))=st at W1 k1 g1⊢
 refine Sq (v:=.tup [.str (gM kd),.str (gA e pd l kd),.str (gB e pd l kd)]) (st':=aK (aK (aK st 177 (.str (gM kd))) 178 (.str (gA e pd l kd))) 179 (.str (gB e pd l kd)))
  (Ev.cU (.cons (Ev.ak g1) (.cons (Ev.ak W1.h4) (.cons (Ev.ak W1.h5) (.cons (Ev.ak W1.h6) .nil)))) rfl rfl rfl rfl λQ h=>aaM hk7 (by omega) (by omega) (by omega) h) rfl ?_
 have W2:=((W1.set (x:=177) (u:=.str (gM kd)) rfl).set (x:=178) (u:=.str (gA e pd l kd)) rfl).set (x:=179) (u:=.str (gB e pd l kd)) rfl
 have k2:get 173 (aK (aK (aK st 177 (.str (gM kd))) 178 (.str (gA e pd l kd))) 179 (.str (gB e pd l kd))).ak=some (.int (k:Nat)):=(gp (by decide)).trans ((gp (by decide)).trans ((gp (by decide)).trans k1))
 have a2:get 177 (aK (aK (aK st 177 (.str (gM kd))) 178 (.str (gA e pd l kd))) 179 (.str (gB e pd l kd))).ak=some (.str (gM kd)):=(gp (by decide)).trans ((gp (by decide)).trans gq)
 have b2:get 178 (aK (aK (aK st 177 (.str (gM kd))) 178 (.str (gA e pd l kd))) 179 (.str (gB e pd l kd))).ak=some (.str (gA e pd l kd)):=(gp (by decide)).trans gq
 have c2:get 179 (aK (aK (aK st 177 (.str (gM kd))) 178 (.str (gA e pd l kd))) 179 (.str (gB e pd l kd))).ak=some (.str (gB e pd l kd)):=gq
 generalize aK (aK (aK st 177 (.str (gM kd))) 178 (.str (gA e pd l kd))) 179 (.str (gB e pd l kd))=st at W2 k2 a2 b2 c2⊢
 have m1:=JH kd
 have m2:(gA e pd l kd).length<=13:=Ay he hp hl false kd
 have m3:(gB e pd l kd).length<=13:=Ay he hp hl true kd
 refine dY ((Ev.ak W2.h7).add (Ev.ak a2) (by omega)) ?_
 have W3:=W2.Yn (u:=vl its++gM kd)
 have k3:get 173 (aK st 117 (.str (vl its++gM kd))).ak=some (.int (k:Nat)):=(gp (by decide)).trans k2
 have b3:get 178 (aK st 117 (.str (vl its++gM kd))).ak=some (.str (gA e pd l kd)):=(gp (by decide)).trans b2
 have c3:get 179 (aK st 117 (.str (vl its++gM kd))).ak=some (.str (gB e pd l kd)):=(gp (by decide)).trans c2
 generalize aK st 117 (.str (vl its++gM kd))=st at W3 k3 b3 c3⊢
 refine dY ((Ev.ak W3.h8).add (Ev.ak b3) (by omega)) ?_
 have W4:=W3.Ym (u:=txt e pd l false its++gA e pd l kd)
 have k4:get 173 (aK st 172 (.str (txt e pd l false its++gA e pd l kd))).ak=some (.int (k:Nat)):=(gp (by decide)).trans k3
 have c4:get 179 (aK st 172 (.str (txt e pd l false its++gA e pd l kd))).ak=some (.str (gB e pd l kd)):=(gp (by decide)).trans c3
 generalize aK st 172 (.str (txt e pd l false its++gA e pd l kd))=st at W4 k4 c4⊢
 refine dY ((Ev.ak W4.h9).add (Ev.ak c4) (by omega)) ?_
 have W5:=W4.Yl (u:=txt e pd l true its++gB e pd l kd)
 have k5:get 173 (aK st 93 (.str (txt e pd l true its++gB e pd l kd))).ak=some (.int (k:Nat)):=(gp (by decide)).trans k4
 generalize aK st 93 (.str (txt e pd l true its++gB e pd l kd))=st at W5 k5⊢
 have t:=tst (.inr trivial) W5.h1 k5
 have ev:∀w,vl (its++[(kd,w)])=(vl its++gM kd)++w:=λw=>by
  rw[SX]
  show vl its++(gM kd++(w++[]))=_
  simp only[List.append_nil,List.append_assoc]
 have et:∀b w,txt e pd l b (its++[(kd,w)])=(txt e pd l b its++gT e pd l b kd)++esc b w:=λb w=>by
  rw[Lr]
  show txt e pd l b its++(gT e pd l b kd++(esc b w++[]))=_
  simp only[List.append_nil,List.append_assoc]
 by_cases q:k<T.length
 ·rw[Bo (by omega)]at t
  refine ux t rfl ?_
  obtain⟨a,ha,hx⟩:=jl (st:=st) (l:=T.map AV.int) (i:=(k:Int)) (by omega) (by rw[hlen];omega)
  obtain⟨z2,rfl⟩:=tR ha
  have Xr:=iu z2 (k:=16) (by decide)
  obtain⟨a,hb,hy⟩:=jl (st:=st) (l:=iG words) (i:=Int.fmod z2 16) Xr.1 Xr.2
  obtain⟨w,hw',rfl⟩:=jw hb
  have wl:=(kJ w hw').2.2
  have ew:Ev (CO (n+1)) (.idx (.cU 160 []) (.bin .mod (.idx (.ak 174) (.ak 173)) (.aA (.int 16)))) st (.str w):=
   Ev.idx (Ev.cU .nil rfl rfl rfl rfl λQ h=>aaR h) ((Ev.idx (Ev.ak W5.h1) (Ev.ak k5) hx).qP Ev.aA rfl) hy
  refine aL ?_
  refine ew _ ?_
  refine xK (full:=w) w W5 k5 (by simp only[List.length_append];omega) (by simp only[List.length_append];omega) (by simp only[List.length_append];omega) λst' W' _=>(show wpS TT (CO (n+1)) [] st' Q from bV (hQ kd w st' (by rw[if_pos q];exact hw') ?_))
  rw[ev,et,et]
  exact W'
 ·rw[df_ (by omega)]at t
  refine fu t rfl (bV (hQ kd [] st (by rw[if_neg q]) ?_))
  rw[ev,et,et]
  show WS st pr T m kk e pd l ((vl its++gM kd)++[]) ((txt e pd l false its++gA e pd l kd)++[]) ((txt e pd l true its++gB e pd l kd)++[])
  simp only[List.append_nil]
  exact W5
end
section
variable {n:Nat}{pr:Option cF}{T:List Int}{m kk:Int}{e pd l v s d:List Nat}{st:AS}{Q:PS}
theorem rY (hkk:kk=7∨kk=3)(he:e.length<=2)(hp:pd.length<=2)(hl:l.length<=1)(hT:T.length<=3){full:List AV}{nn:AV}(vK:∀st,jM st .range nn=some full)
  (hQ:∀its kd st',its.length=T.length->(∀i ∈ its,i.2 ∈ words)->WS st' pr T m kk e pd l (vl (its++[(kd,[])])) (txt e pd l false (its++[(kd,[])])) (txt e pd l true (its++[(kd,[])]))->Q .next st'):
  ∀(j k:Nat) (its:List (Nat×List Nat)) (st:AS),k+(j+1)=T.length+1->its.length=k->(∀i ∈ its,i.2 ∈ words)->WS st pr T m kk e pd l (vl its) (txt e pd l false its) (txt e pd l true its)->
   ((List.range' k (j+1)).map λ(i:Nat)=>AV.int (i:Int)).foldr (λa (K:AS->Prop) st=>jM st .range nn=some full/\pick (oW st [.l 173] a) λst=>wpS TT (CO (n+1)) tB st λo st=>(match o with
    | .next=>K st
    | .brk=>Q .next st
    | .ret v=>Q (.ret v) st)) (Q .next) st
 |0,k,its,st,hk,hi,hw,W=>by
  refine⟨vK st,?_⟩
  refine turn (k:=k) hkk (by omega) he hp hl (by omega) hw (W.set (x:=173) (u:=.int (k:Nat)) rfl) gq λkd w st' hw' W'=>?_
  rw[if_neg (by omega)]at hw'
  subst hw'
  exact hQ its kd st' (by omega) hw W'
 |j+1,k,its,st,hk,hi,hw,W=>by
  refine⟨vK st,?_⟩
  refine turn (k:=k) hkk (by omega) he hp hl (by omega) hw (W.set (x:=173) (u:=.int (k:Nat)) rfl) gq λkd w st' hw' W'=>?_
  rw[if_pos (by omega)]at hw'
  refine rY hkk he hp hl hT vK hQ j (k+1) (its++[(kd,w)]) st' (by omega) (by simp only[List.length_append,List.length_cons,List.length_nil];omega) (λi hi=>?_) W'
  rcases List.mem_append.mp hi with h|h
  ·exact hw i h
  ·rw[List.mem_singleton]at h
   subst h
   exact hw'
theorem aaL {Q:AV->Option cF->Prop}(hkk:kk=7∨kk=3)(he:e.length<=2)(hp:pd.length<=2)(hl:l.length<=1)(hT:T.length<=3)
  (hQ:∀its,good its=true->its.length<=4->(∀i ∈ its,i.2 ∈ words∨i.2=[])->Q (.tup [.str (vl its),.str (txt e pd l false its),.str (txt e pd l true its)]) pr):
  CO (n+2) 171 [.lst (T.map .int),.int m,.int kk,.str e,.str pd,.str l] pr Q:=by
 refine aH rfl ?_
 have go:wpS TT (CO (n+1)) o9 ⟨pr,[(174,.lst (T.map .int)),(176,.int m),(175,.int kk),(168,.str e),(169,.str pd),(167,.str l)],[]⟩ (bw Q):=by
  have W0:WS (aK (aK (aK ⟨pr,[(174,.lst (T.map .int)),(176,.int m),(175,.int kk),(168,.str e),(169,.str pd),(167,.str l)],[]⟩ 117 (.str [])) 172 (.str [])) 93 (.str [])) pr T m kk e pd l (vl []) (txt e pd l false []) (txt e pd l true []):=
   ⟨rfl,rfl,rfl,rfl,rfl,rfl,rfl,rfl,rfl,rfl,rfl⟩
  refine dY Ev.aA (dY Ev.aA (dY Ev.aA ?_))
  refine aL ?_
  refine(Ev.uW (Ev.Ou (Ev.ak rfl)) Ev.aA) _ ?_
  have hlen:((T.map AV.int).length:Int)+1=((T.length+1:Nat):Int):=by rw[List.length_map];omega
  have vK:∀st,jM st .range (.int (((T.map AV.int).length:Int)+1))=some ((List.range' 0 (T.length+1)).map λ(i:Nat)=>AV.int (i:Int)):=by
   intro st
   show qz (decide (0<=((T.map AV.int).length:Int)+1)&&decide (((T.map AV.int).length:Int)+1<=1000)) ((List.range (((T.map AV.int).length:Int)+1).toNat).map λ(i:Nat)=>AV.int (i:Int))=_
   rw[hlen,Bo (by omega),Bo (by omega)]
   show some _=some _
   rw[List.range_eq_range',Int.toNat_natCast]
  have hf0:=vK
  refine aO (vK _) ?_
  refine rY (Q:=λo st=>match o with| .next=>wpS TT (CO (n+1)) [.ret (.tup [(.ak 117),(.ak 172),(.ak 93)])] st (bw Q) |o=>bw Q o st) (nn:=.int (((T.map AV.int).length:Int)+1)) hkk he hp hl hT hf0 (λits kd st' hi hw W=>?_) T.length 0 [] _ (by omega) rfl (λi hi=>nomatch hi) W0
  refine(show wpS TT (CO (n+1)) _ st' (bw Q)from qK (Ev.tup (.cons (Ev.ak W.h7) (.cons (Ev.ak W.h8) (.cons (Ev.ak W.h9) .nil))) rfl) ?_)
  have:=hQ (its++[(kd,[])]) (vL its hw) (by simp only[List.length_append,List.length_cons,List.length_nil];omega) (λi hi=>by
   rcases List.mem_append.mp hi with h|h
   ·exact .inl (hw i h)
   ·rw[List.mem_singleton]at h
    subst h
    exact .inr rfl)
  show Q _ st'.par
  rw[W.par]
  exact this
 exact go
end
section
open PyProof.V
noncomputable def I6:List IS:=[
  .asg 158 (.ite (.ak 199) (.idx (.ak 199) (.aA (.int 0))) (.aA (.int 0))),
  .asg 200 (.cmp .eq (.bin .mod (.bin .div (.ak 158) (.aA (.int 2))) (.aA (.int 2))) (.aA (.int 1))),
  .Bv 301 1587 (.ite (.ak 200) (.aA (.int 1)) (.bin .add (.aA (.int 1)) (.bin .mod (.ak 158) (.aA (.int 2))))),
  .asg 202 (.ite (.ak 200) (.aA (.int 2)) (.bin .sub (.aA (.int 5)) (.bin .mul (.aA (.int 2)) (.jV 301 1587)))),
  .asg 168 (.idx (.cU 162 []) (.bin .mod (.bin .div (.ak 158) (.aA (.int 4))) (.aA (.int 4)))),
  .asg 169 (.idx (.cU 163 []) (.bin .mod (.bin .add (.bin .div (.ak 158) (.aA (.int 16))) (.len (.ak 199))) (.bin .sub (.aA (.int 6)) (.bin .mul (.aA (.int 2)) (.jV 301 1587))))),
  .asg 167 (.idx (.cU 164 []) (.bin .mod (.len (.ak 199)) (.aA (.int 3)))),
  .asg 203 (.ite (.ak 200) (.lst [(.aA (.str [44,32])),(.bin .add (.aA (.str [44])) (.ak 168)),(.bin .add (.aA (.str [32,44,32,35,39,34])) (.ak 168))]) (.lst [(.ak 168),(.bin .add (.aA (.str [32,35,39,34])) (.ak 168)),(.bin .add (.ak 168) (.ak 168))])),
  .asg 204 (.lst [(.aA (.str [32])),(.aA (.str [32,32])),(.bin .add (.ak 168) (.aA (.str [32,32])))]),
  .asg 205 (.ite (.ak 200) (.aA (.str [123])) (.aA (.str []))),
  .qx 206 303 [(.tup [(.aA (.str [115,116,114,101,97,109]))]),(.tup [(.aA (.str [100,111,99,117,109,101,110,116])),(.aA (.bool false))]),(.tup [(.aA (.str [109,97,112])),(.aA .none),(.aA .none),(.aA (.bool true)),(.ak 200)])]]
noncomputable def OJ:List IS:=[
  .nD [.l 65,.l 2,.l 208] (.idx (.cU 161 []) (.bin .mod (.bin .add (.bin .div (.ak 158) (.aA (.int 5))) (.len (.ak 206))) (.bin .sub (.aA (.int 7)) (.bin .mul (.aA (.int 2)) (.jV 301 1587))))),
  .app (.ak 206) (.tup [(.aA (.str [118,97,108,117,101])),(.aA .none),(.aA .none),(.tup [(.cmp .is_ (.ak 208) (.aA .none)),(.cmp .Le (.ak 208) (.aA .none))]),(.ak 2),(.ak 208)]),
  .app (.ak 206) (.tup [(.aA (.str [118,97,108,117,101])),(.aA .none),(.aA .none),(.tup [(.aA (.bool false)),(.aA (.bool true))]),(.ak 117),(.ak 88)]),
  .asg 205 (.bin .add (.bin .add (.bin .add (.bin .add (.ak 205) (.ak 65)) (.aA (.str [58]))) (.idx (.ak 204) (.bin .mod (.bin .add (.bin .div (.ak 158) (.aA (.int 7))) (.len (.ak 206))) (.bin .sub (.aA (.int 4)) (.jV 301 1587))))) (.ak 207)),
  .asg 205 (.bin .add (.ak 205) (.ite (.and_ [(.ak 200),(.cmp .eq (.len (.ak 206)) (.bin .add (.aA (.int 3)) (.bin .mul (.aA (.int 4)) (.jV 301 1587)))),(.cmp .eq (.bin .mod (.bin .div (.ak 158) (.aA (.int 13))) (.aA (.int 2))) (.aA (.int 0)))]) (.aA (.str [])) (.idx (.ak 203) (.bin .mod (.bin .add (.bin .div (.ak 158) (.aA (.int 11))) (.len (.ak 206))) (.aA (.int 3))))))]
noncomputable def Fi:List IS:=[
  .nD [.l 117,.l 172,.l 93] (.cU 171 [(.ak 174),(.bin .add (.bin .div (.ak 158) (.aA (.int 3))) (.jV 302 1588)),(.ite (.cmp .eq (.jV 301 1587) (.aA (.int 1))) (.aA (.int 7)) (.aA (.int 3))),(.ak 168),(.ak 169),(.ak 167)]),
  .jo .list [.l 88,.l 207] (.lst [(.tup [(.aA (.str [39])),(.bin .add (.bin .add (.aA (.str [39])) (.ak 172)) (.aA (.str [39])))]),(.tup [(.aA (.str [34])),(.bin .add (.bin .add (.aA (.str [34])) (.ak 93)) (.aA (.str [34])))])]) OJ]
noncomputable def I4:IS:=.jo .range [.c 302 1588] (.jV 301 1587) (.asg 174 (.lG (.nO (.ak 199) (.aA (.int 1)) (.bin .add (.aA (.int 1)) (.ak 202))) 301 1587 302 1588)::Fi)
noncomputable def I5:List IS:=[
  .asg 205 (.bin .add (.ak 205) (.ite (.ak 200) (.bin .add (.aA (.str [125])) (.ak 168)) (.aA (.str [])))),
  .asg 206 (.cat (.ak 206) (.lst [(.tup [(.aA (.str [109,97,112,32,101,110,100]))]),(.tup [(.aA (.str [100,111,99,117,109,101,110,116,32,101,110,100])),(.aA (.bool false))]),(.tup [(.aA (.str [115,116,114,101,97,109,32,101,110,100]))])]))]
noncomputable def U9:List IS:=[
  .j7 210 304,
  .whl (.cmp .Le (.jz 209 115) (.aA .none)) [.app (.ak 210) (.cU 181 [(.jz 209 116)])]]
noncomputable def DD2:q7:={DD with mt:=115::116::DD.mt,gt:=161::162::163::164::171::181::DD.gt}
noncomputable def lB:List Stmt:=Yx (H.tS 62)
noncomputable def lN:Names:=(pI (H.tS 62)).names
noncomputable def xJ:List (Str×Addr):=[(Str.ofString "j",1588),(Str.ofString "count",1587)]
noncomputable def nT (k:Nat):Stmt:=(lB[k]?).getD (.Pass default)
noncomputable def Vu:Stmt->List Stmt
 | .For _ _ b _ _=>b
 |_=>[]
theorem k_A:dX (qp jY DD2 lN xJ 20 false (qU jY DD2 lN xJ 20 20)) (lB.take 11) I6=true:=by kernel_rfl
theorem k_R:dX (qp jY DD2 lN xJ 20 false (qU jY DD2 lN xJ 20 20)) ((Vu (nT 11)).drop 1) Fi=true:=by kernel_rfl
theorem k_B:dX (qp jY DD2 lN xJ 20 false (qU jY DD2 lN xJ 20 20)) ((lB.drop 12).take 2) I5=true:=by kernel_rfl
theorem k_C:dX (qp jY DD2 lN xJ 20 false (qU jY DD2 lN xJ 20 20)) ((lB.drop 15).take 2) U9=true:=by kernel_rfl
variable (w:World)(x:Ext)
theorem U0:DD2.mt.all (λf=>qu (H.KL w.params) 1521 (jY f) ((get f qT).getD 0)&&keepIn (H.KL w.params) (.ref ((get f qT).getD 0)))=true:=by kernel_rfl
theorem Vp:DD2.gt.all (λf=>(nsIn (H.KL w.params) mainGlobals (jY f)==some (some (.ref ((get f qT).getD 0))))&&keepIn (H.KL w.params) (.ref ((get f qT).getD 0)))=true:=by kernel_rfl
theorem GX:TabsOk (CC w x) TT DD2:=
 {tabs_ok w x with
  mt:=λa h=>by have:=List.all_eq_true.mp (U0 w) a h;rw[Bool.and_eq_true]at this;exact this
  gt:=λa h=>by have:=List.all_eq_true.mp (Vp w) a h;rw[Bool.and_eq_true,beq_iff_eq]at this;exact this}
end
section
open PyProof.V
variable {C:Cx}
mutual
noncomputable def nS:AV->Bool
 | .self=>false
 | .bm _=>false
 | .tup l=>vB l
 | .lst l=>vB l
 | .inst _ fs=>nSf fs
 |_=>true
noncomputable def vB:List AV->Bool
 |[]=>true
 |a::r=>nS a&&vB r
noncomputable def nSf:List (Nat×AV)->Bool
 |[]=>true
 |a::r=>nS a.2&&nSf r
end
theorem VR.gk {P P' fz}{a v}(h:VR C P fz a v):nS a=true->VR C P' fz a v:=
 VR.rec (motive_1:=λa v _=>nS a=true->VR C P' fz a v) (motive_2:=λa v _=>vB a=true->dz C P' fz a v) (motive_3:=λa v _=>nSf a=true->rW C P' fz a v) (λ_=>.none) (λb _=>.bool b) (λi t _=>.int i t) (λs t b _=>.str s t b) (λh=>jJ h) (λa _=>.top a) (λc _=>.cls c) (λ_ _ _ h=>jJ h) (λh _ b i e=>.tup h (i e) b) (λh _ b i e=>.lst h (i e) b) (λh h' _ i e=>.inst h h' (i e)) (λ_=>.nil) (λ_ _ i j e=>an e λx y=>.cons (i x) (j y)) (λ_=>.nil) (λ_ _ i j e=>an e λx y=>.cons (i x) (j y)) h
theorem dz.gk {P P' fz}{a v}(h:dz C P fz a v):vB a=true->dz C P' fz a v:=h.ind (λ_=>.nil) λh _ i e=>an e λx y=>.cons (h.gk x) (i y)
noncomputable def Od:Cont->Bool
 | .l xs=>vB xs
 | .d xs=>xs.all λp=>nS p.2
 | .c _ none=>true
 | .c _ (some a)=>nS a
theorem LR.gk {P P' fz σ τ}{a v}(h:LR C P fz σ τ a v):nS a=true->LR C P' fz σ τ a v:=LR.casesOn h (λh e=>.v (h.gk e)) (λh _=>.own h) λh _=>.bN h
theorem pF.gk {P P' fz}{a v}(h:pF C P fz a v):(a.all λp=>nS p.2)=true->pF C P' fz a v:=by
 induction h with
 |nil=>exact λ_=>.nil
 |cons h _ i=>exact λe=>an e λx y=>.cons (h.gk x) (i y)
theorem cW.gk {P P' fz b c o}(h:cW C P fz b c o):Od c=true->cW C P' fz b c o:=cW.casesOn h (λh k e=>.l (h.gk e) k) (λh k b e=>.d h (k.gk e) b) (λh _=>.c0 h) λh k e=>.c1 h (k.gk e)
theorem p7.gk {P P' fz}{sl σ mu}(h:p7 C P fz sl σ mu):(sl.all λq=>Od q.2)=true->p7 C P' fz sl σ mu:=by
 induction h with
 |nil=>exact λ_=>.nil
 |cons h _ i=>exact λe=>an e λx y=>.cons (h.gk x) (i y)
theorem CJ {P fz σ p pm}(h:pC C P fz σ p pm)(e:p=none){G:List (Nat×Addr)->List (Addr×Obj)->Prop}(k:G [] []):G σ pm:=
 pC.casesOn (motive:=λp pm _=>p=none->G σ pm) h (λe _=>e▸k) (λ_ _ _ e=>nomatch e) e
section
variable {P P':Addr}{A aU:Around}{base aj:Heap}{outer:List Env}{env:Env}{L:Addr}{f₀:F0}{σ₀:List (Nat×Addr)}{T:Tb}{CF:fP}
 {st:AS}{tmp:List (AV×Value)}{s:Shared}{ff:List (Addr×Obj)}{E:Value->Shared->Prop}{m:Str->Option Value}{σ τ:List (Nat×Addr)}{pm om fz:List (Addr×Obj)}
theorem bU.gk (X:bU C P aj L f₀ σ₀ st tmp s m σ τ pm om fz)(hp:st.par=none)(h1:(st.ak.all λq=>nS q.2)=true)(h2:(st.own.all λq=>Od q.2)=true)(h3:(tmp.all λq=>nS q.1)=true):bU C P' aj L f₀ σ₀ st tmp s m σ τ pm om fz:=
 ⟨X.fr,X.nw,X.nd,λx a e=>let ⟨v,g1,g2⟩:=X.ak x a e;⟨v,g1,g2.gk (List.all_eq_true.mp h1 _ (get_mem e))⟩,hp▸CJ X.par hp (G:=λσ pm=>pC C P' fz σ none pm) (.none rfl),X.own.gk h2,λq hq=>(X.tmp q hq).gk (List.all_eq_true.mp h3 q hq),X.gens,X.drawn,X.os,X.ff,X.ss,X.pf⟩
theorem UJ {x dx:Addr}{l:List (Addr×Obj)}(hlt:∀q ∈ l,q.1<dx)(h:dx<x)(nd:(l.map (·.1)).Nodup):(x::dx::l.map (·.1)).Nodup:=
 List.nodup_cons.mpr ⟨λhm=>(List.mem_cons.mp hm).elim (λe=>Nat.ne_of_gt h e) λhm=>ex2 (List.mem_map.mp hm) λq hq e=>Nat.ne_of_lt (Nat.lt_trans (hlt q hq) h) e,List.nodup_cons.mpr ⟨λhm=>ex2 (List.mem_map.mp hm) λq hq e=>Nat.ne_of_lt (hlt q hq) e,nd⟩⟩
theorem FP (Z:Act C A aU base aj outer env L)(X:bU C P aj L ⟨ff,[]⟩ [] st tmp s m σ τ pm om fz)(hp:st.par=none)(h1:(st.ak.all λq=>nS q.2)=true)(h2:(st.own.all λq=>Od q.2)=true)(h3:(tmp.all λq=>nS q.1)=true)
  {f:Nat}{i:FI}(hT:T.FT f=some i){b:List (Nat×AV)}{wd:List Nat}{v:Value}(hv:∀P,VR C P fz (.str wd) v)(hb:binds i.ps i.ds [.self,.str wd] []=some b)
  (mi:makesIn C.K C.CP=true)(fi:findIn C.K (.ref C.CP) "__init__"=some (some (.ref (C.fa f))))(ft:typeIn C.K (.ref (C.fa f))=some (.type "function"))
  (CO:∀(A':Around) (P:Addr),A'.frames=A.frames->A'.handled=A.handled->A'.depth=A.depth+1->d7 C T CF P A' aj L ⟨ff,[]⟩ [])
  {par':cF}(hc:CF f (b.map (·.2)) (some ⟨[],[]⟩) (λr p=>r= .none/\p=some par')){R:Value->Shared->Prop}(k:∀P' v s',St C P' aj L ⟨ff,[]⟩ [] {st with par:=some par'} ((.self,v)::tmp) s'->R v s'):
  codeAny (model C.prog C.w) A (.call (.ref C.CP) ⟨[v],[]⟩) (BJ R E) s:=by
 refine CJ (G:=λσ pm=>bU C P aj L ⟨ff,[]⟩ [] st tmp s m σ τ pm om fz->_) X.par hp (λX=>?_) X
 refine PySem.W.make_K X.fr X.nw (Z.X.keeps X.fr.keep) mi fi ft λx dx h' F N hlt hlt'=>?_
 have X':=X.gk (P':=x) hp h1 h2 h3
 have Y:bU C x aj L ⟨ff,[]⟩ [] {st with par:=some ⟨[],[]⟩} tmp {s with heap:=h'} m [] τ [(x,instObj C.CP dx),(dx,dictOf [] 0)] om fz:=
  ⟨F,N,UJ hlt hlt' X.nd,
   X'.ak,.some .nil .nil (Nat.zero_le _),X'.own,X'.tmp,X.gens,X.drawn,X.os,X.ff,X'.ss,λq hq=>nomatch hq⟩
 exact(CO (A.under (.builtin "type.__call__" ⟨.ref C.CP::[v],[]⟩)) x nH rfl qb f i hT _ _ _ _ _ _ _ _ _ Y [.self,.str wd] [.ref x,v] [] [] b (.cons .self (.cons (hv x) .nil)) .nil hb _ E (λu s'=>u= .none/\R (.ref x) s') hc
  λr par σ' nQ cY u s' e V=>V.t0.none_ (R:=λu=>u= .none/\R (.ref x) s') e.1 ⟨rfl,k x _ _ (e.2▸(V.d1.push (.v .self)).st:)⟩)
theorem PL (Z:Act C A aU base aj outer env L)(S:St C P aj L ⟨ff,[]⟩ [] st [] s)(hp:st.par=none)(h1:(st.ak.all λq=>nS q.2)=true)(h2:(st.own.all λq=>Od q.2)=true)
  {f:Nat}{i:FI}(hT:T.FT f=some i){b:List (Nat×AV)}{wd:List Nat}(hb:binds i.ps i.ds [.self,.str wd] []=some b)
  (mi:makesIn C.K C.CP=true)(fi:findIn C.K (.ref C.CP) "__init__"=some (some (.ref (C.fa f))))(ft:typeIn C.K (.ref (C.fa f))=some (.type "function"))(hkeep:keepIn C.K (.ref C.CP)=true)
  (CO:∀(A':Around) (P:Addr),A'.frames=A.frames->A'.handled=A.handled->A'.depth=A.depth+1->d7 C T CF P A' aj L ⟨ff,[]⟩ [])
  {par':cF}(hc:CF f (b.map (·.2)) (some ⟨[],[]⟩) (λr p=>r= .none/\p=some par'))
  {x t:Nat}{nx nt nc:Str}{px pc pt cp pos:Pos}(hx:nx=C.nm x)(hlx:env.kindOf nx=some .local)(ht:nt=C.nm t)(hlt:env.kindOf nt=some .local)(hdt:(nt==("__debug__":Str))=false)
  (hn:nsIn C.K mainGlobals nc=some (some (.ref C.CP)))(hkc:env.kindOf nc=some .globalImplicit)(hdc:(nc==("__debug__":Str))=false)(hg:get t st.ak=some (.str wd))
  {R:Flow->Shared->Prop}(k:∀P' s',St C P' aj L ⟨ff,[]⟩ [] (aK {st with par:=some par'} x .self) [] s'->R .next s'):
  wpAny (model C.prog C.w) A (exec (.Assign [.Name nx px] (.Call (.Name nc pc) [.Name nt pt] [] cp) pos) env) R E s:=S.un λm σ τ pm om fz X=>by
 subst hx ht
 obtain⟨u,hu,hr⟩:=X.ak _ _ hg
 have hv:∀P,VR C P fz (.str wd) u:=λP=>(hr.clo rfl).gk rfl
 exact wpAny_Assign_Name (wpAny_Call_ofName (gF Z X.fr hn hkc hdc (tY (C:=C) (ns:=[]) (kws:=[]) (first:=[]) (PH:=C.K.In) rfl rfl (keeps_K hkeep) (gU rfl (wpAny_Name (wpAny_loadName_local Z.hk hlt (Z.hL▸X.fr.ns) hu (wpAny_pure ⟨Z.X.keeps X.fr.keep,wpAny_call (FP Z X hp h1 h2 rfl hT hv hb mi fi ft CO hc λP' v s' S'=>
  S'.store Z rfl hlx λs' S''=>k P' _ S'')⟩)) hdt))))) (cZ rfl _ _ _)
end
end
structure LS (st:AS)(f:Int)(fl:Bool)(cnt mo:Int)(ns:List Int)(e pd l:List Nat)(dJ DG:List (List Nat))(j:Option AV)(tx:List Nat)(du:List AV):Prop where
 par:st.par=none
 g1:get 158 st.ak=some (.int f)
 g2:get 199 st.ak=some (.lst (ns.map .int))
 g3:get 200 st.ak=some (.bool fl)
 g4:get 202 st.ak=some (.int mo)
 g5:get 168 st.ak=some (.str e)
 g6:get 169 st.ak=some (.str pd)
 g7:get 167 st.ak=some (.str l)
 g8:get 203 st.ak=some (.lst (iG dJ))
 g9:get 204 st.ak=some (.lst (iG DG))
 ga:get 205 st.ak=some (.str tx)
 gb:get 206 st.ak=some (.own 303)
 o1:get 303 st.own=some (.l du)
 o2:get 301 st.own=some (.c 1587 (some (.int cnt)))
 o3:get 302 st.own=some (.c 1588 j)
 o4:get 304 st.own=none
 n1:(st.ak.all λq=>nS q.2)=true
 n2:(st.own.all λq=>Od q.2)=true
theorem mq {α:Type}{P:α->Bool}{x:Nat}{v:α}(hv:P v=true):∀{l:List (Nat×α)},(l.all λq=>P q.2)=true->((put x v l).all λq=>P q.2)=true
 |[],_=>by
  show(P v&&true)=true
  rw[hv];rfl
 |q::r,h=>by
  rw[List.all_cons,Bool.and_eq_true]at h
  unfold put
  cases Nat.beq q.1 x
  ·show(P q.2&&(put x v r).all λq=>P q.2)=true
   rw[h.1,mq hv h.2];rfl
  ·show(P v&&r.all λq=>P q.2)=true
   rw[hv,h.2];rfl
section
variable {f:Int}{fl:Bool}{cnt mo:Int}{ns:List Int}{e pd l:List Nat}{dJ DG:List (List Nat)}{j:Option AV}{tx:List Nat}{du:List AV}{st:AS}
theorem LS.set {x:Nat}{u:AV}(W:LS st f fl cnt mo ns e pd l dJ DG j tx du)(h:[158,199,200,202,168,169,167,203,204,205,206].any (Nat.beq x ·)=false)(hu:nS u=true):LS (aK st x u) f fl cnt mo ns e pd l dJ DG j tx du:=by
 simp only[List.any_cons,List.any_nil,Bool.or_eq_false_iff]at h
 obtain⟨k1,k2,k3,k4,k5,k6,k7,k8,k9,ka,kb,_⟩:=h
 have ne:∀{y:Nat},Nat.beq x y=false->x≠y:=λh e=>by subst e;rw[Nat.beq_refl]at h;exact nomatch h
 exact⟨W.par,(gp (ne k1)).trans W.g1,(gp (ne k2)).trans W.g2,(gp (ne k3)).trans W.g3,(gp (ne k4)).trans W.g4,(gp (ne k5)).trans W.g5,(gp (ne k6)).trans W.g6,(gp (ne k7)).trans W.g7,(gp (ne k8)).trans W.g8,(gp (ne k9)).trans W.g9,(gp (ne ka)).trans W.ga,(gp (ne kb)).trans W.gb,W.o1,W.o2,W.o3,W.o4,mq hu W.n1,W.n2⟩
theorem LS.text {u:List Nat}(W:LS st f fl cnt mo ns e pd l dJ DG j tx du):LS (aK st 205 (.str u)) f fl cnt mo ns e pd l dJ DG j u du:=
 ⟨W.par,(gp (by decide)).trans W.g1,(gp (by decide)).trans W.g2,(gp (by decide)).trans W.g3,(gp (by decide)).trans W.g4,(gp (by decide)).trans W.g5,(gp (by decide)).trans W.g6,(gp (by decide)).trans W.g7,(gp (by decide)).trans W.g8,(gp (by decide)).trans W.g9,gq,(gp (by decide)).trans W.gb,W.o1,W.o2,W.o3,W.o4,mq rfl W.n1,W.n2⟩
theorem Xp {α:Type}{x y:Nat}{v:α}{l:List (Nat×α)}(h:x≠y):get y (put x v l)=get y l:=by rw[oE,if_neg h]
theorem gqo {α:Type}{x:Nat}{v:α}{l:List (Nat×α)}:get x (put x v l)=some v:=by rw[oE,if_pos rfl]
theorem tD:∀{a b:List AV},vB a=true->vB b=true->vB (a++b)=true
 |[],b,_,h=>h
 |x::a,b,h,h'=>by
  unfold vB at h
  rw[Bool.and_eq_true]at h
  show(nS x&&vB (a++b))=true
  rw[h.1,tD h.2 h'];rfl
theorem LS.app {a:AV}(W:LS st f fl cnt mo ns e pd l dJ DG j tx du)(ha:nS a=true)(hd:vB du=true):LS {st with own:=put 303 (.l (du++[a])) st.own} f fl cnt mo ns e pd l dJ DG j tx (du++[a]):=
 ⟨W.par,W.g1,W.g2,W.g3,W.g4,W.g5,W.g6,W.g7,W.g8,W.g9,W.ga,W.gb,gqo,(Xp (by decide)).trans W.o2,(Xp (by decide)).trans W.o3,(Xp (by decide)).trans W.o4,W.n1,mq (P:=Od) (v:=.l (du++[a])) (tD hd (by show(nS a&&true)=true;rw[ha];rfl)) W.n2⟩
theorem LS.due (W:LS st f fl cnt mo ns e pd l dJ DG j tx du):vB du=true:=by
 have:=List.all_eq_true.mp W.n2 _ (get_mem W.o1)
 exact this
theorem Ss {CF:fP}{t e:IE}{a:AV}{k:Nat}{xs:List AV}{r:List IS}{Q:PS}(ht:Ev CF t st (.own k))(he:Ev CF e st a)(hs:get k st.own=some (.l xs))(hc:a.clo=true)(hl:(xs++[a]).length<=1000)
  (hQ:wpS TT CF r {st with own:=put k (.l (xs++[a])) st.own} Q):wpS TT CF (.app t e::r) st Q:=by
 have e:qO st (.own k)=some xs:=by
  show(get k st.own).bind Cont.lO=_
  rw[hs]
  rfl
 exact aL (ht _ (dg (lX e) (he _ (fX (d:=.own k) (v:=a) (xs:=xs) (st:=st) (st':={st with own:=put k (.l (xs++[a])) st.own}) e hc hl rfl hQ))))
noncomputable def PD.due (x:PD):List AV:=[aV x.kn x.ks.isNone x.ks,aV (vl x.its) false (some [qt x.b])]
noncomputable def kh:List PD->List AV
 |[]=>[]
 |x::ps=>x.due++kh ps
theorem yX:∀ps:List PD,(kh ps).length=2*ps.length
 |[]=>rfl
 |x::ps=>by
  have:=yX ps
  show(x.due++kh ps).length=_
  rw[List.length_append,this,List.length_cons]
  show 2+_=_
  omega
theorem Cy (a b:List PD):gj e pd l (a++b)=gj e pd l a++gj e pd l b:=by
 induction a with
 |nil=>rfl
 |cons x a ih=>
  show x.t e pd l++gj e pd l (a++b)=(x.t e pd l++gj e pd l a)++gj e pd l b
  rw[ih,List.append_assoc]
theorem uZ:∀ps:List PD,told (ps.map PD.kv)=kh ps++[aE,aX,aZ]
 |[]=>rfl
 |x::ps=>by
  have:=uZ ps
  show x.kv.told (told (ps.map PD.kv))=(x.due++kh ps)++_
  rw[this,List.append_assoc]
  rfl
end
theorem Ev.ach {CF:fP}{st:AS}{a b c:IE}{u:AV}(ha:Ev CF a st u)(h:truth st u=some false):Ev CF (.and_ [a,b,c]) st u:=λQ hQ=>ha _ (aO h hQ)
theorem Ev.aap {CF:fP}{st:AS}{a b c:IE}{u v w:AV}(ha:Ev CF a st u)(h:truth st u=some true)(hb:Ev CF b st v)(h2:truth st v=some true)(hc:Ev CF c st w):Ev CF (.and_ [a,b,c]) st w:=λQ hQ=>ha _ (aO h (hb _ (aO h2 (hc _ hQ))))
theorem Ev.acg {CF:fP}{st:AS}{a b c:IE}{u v:AV}(ha:Ev CF a st u)(h:truth st u=some true)(hb:Ev CF b st v)(h2:truth st v=some false):Ev CF (.and_ [a,b,c]) st v:=λQ hQ=>ha _ (aO h (hb _ (aO h2 hQ)))
theorem vg {c:Int}(h:c=5∨c=3∨c=2):fQ c=true:=by
 rcases h with rfl|rfl|rfl<;>rfl
theorem Jc {a:AV}(h:a ∈ mJ.map Dj):∃k ∈ mJ,a=Dj k:=by
 obtain⟨z,h',rfl⟩:=List.mem_map.mp h
 exact⟨z,h',rfl⟩
theorem O2 {k:List Nat×List Nat×Option (List Nat)}(h:k ∈ mJ):k.1.length<=8/\k.2.1.length<=7:=by
 unfold mJ at h
 simp only[List.mem_cons,List.not_mem_nil,or_false]at h
 rcases h with rfl|rfl|rfl|rfl|rfl<;>exact⟨Nat.le_of_ble_eq_true rfl,Nat.le_of_ble_eq_true rfl⟩
theorem Ks {e x:List Nat}(he:e.length<=2)(hx:x ∈ jq e):x.length<=4:=by
 unfold jq at hx
 simp only[List.mem_cons,List.not_mem_nil,or_false]at hx
 rcases hx with rfl|rfl|rfl
 ·exact Nat.le_of_ble_eq_true rfl
 ·exact Nat.le_of_ble_eq_true rfl
 ·simp only[List.length_append,List.length_cons,List.length_nil];omega
section
variable {n:Nat}{f:Int}{fl:Bool}{cnt mo:Int}{ns:List Int}{e pd l:List Nat}{dJ:List (List Nat)}{j:Option AV}{tx:List Nat}{du:List AV}{st:AS}{Q:PS}
noncomputable abbrev iB:List IS:=[
  .nD [.l 65,.l 2,.l 208] (.idx (.cU 161 []) (.bin .mod (.bin .add (.bin .div (.ak 158) (.aA (.int 5))) (.len (.ak 206))) (.bin .sub (.aA (.int 7)) (.bin .mul (.aA (.int 2)) (.jV 301 1587))))),
  .app (.ak 206) (.tup [(.aA (.str [118,97,108,117,101])),(.aA .none),(.aA .none),(.tup [(.cmp .is_ (.ak 208) (.aA .none)),(.cmp .Le (.ak 208) (.aA .none))]),(.ak 2),(.ak 208)]),
  .app (.ak 206) (.tup [(.aA (.str [118,97,108,117,101])),(.aA .none),(.aA .none),(.tup [(.aA (.bool false)),(.aA (.bool true))]),(.ak 117),(.ak 88)]),
  .asg 205 (.bin .add (.bin .add (.bin .add (.bin .add (.ak 205) (.ak 65)) (.aA (.str [58]))) (.idx (.ak 204) (.bin .mod (.bin .add (.bin .div (.ak 158) (.aA (.int 7))) (.len (.ak 206))) (.bin .sub (.aA (.int 4)) (.jV 301 1587))))) (.ak 207)),
  .asg 205 (.bin .add (.ak 205) (.ite (.and_ [(.ak 200),(.cmp .eq (.len (.ak 206)) (.bin .add (.aA (.int 3)) (.bin .mul (.aA (.int 4)) (.jV 301 1587)))),(.cmp .eq (.bin .mod (.bin .div (.ak 158) (.aA (.int 13))) (.aA (.int 2))) (.aA (.int 0)))]) (.aA (.str [])) (.idx (.ak 203) (.bin .mod (.bin .add (.bin .div (.ak 158) (.aA (.int 11))) (.len (.ak 206))) (.aA (.int 3))))))]
theorem OD:OJ=iB:=rfl
theorem inner {its:List (Nat×List Nat)}{b:Bool}{s d:List Nat}{ps:List PD}{hd:List Nat}(hc:cnt=1∨cnt=2)(he:e.length<=2)(Pa:dJ.length=3)(Lf:∀x ∈ dJ,x.length<=10)(hg:good its=true)(hil:its.length<=4)(hvl:(vl its).length<=1000)(htl:(txt e pd l b its).length<=1000)
  (W:LS st f fl cnt mo ns e pd l dJ (jq e) j tx du)(hdu:du.length=3+2*ps.length)(hps:ps.length<=10)(htx:tx=hd++gj e pd l ps)(abL:tx.length<=50000)
  (k1:get 117 st.ak=some (.str (vl its)))(k2:get 88 st.ak=some (.str [qt b]))(k3:get 207 st.ak=some (.str ([qt b]++txt e pd l b its++[qt b])))
  (k4:get 172 st.ak=some (.str s))(k5:get 93 st.ak=some (.str d))
  (hQ:∀x st',x.ok e->x.b=b->x.its=its->(x.bh ∈ dJ∨(x.bh=[]/\fl=true/\(5+2*ps.length:Int)=3+4*cnt))->x.kt.length<=8->x.bt.length<=4->LS st' f fl cnt mo ns e pd l dJ (jq e) j (hd++gj e pd l (ps++[x])) (du++x.due)->
   get 117 st'.ak=some (.str (vl its))->get 172 st'.ak=some (.str s)->get 93 st'.ak=some (.str d)->Q .next st'):wpS TT (CO (n+1)) OJ st Q:=by
 rw[OD]
 have VL:∀{st:AS},get 301 st.own=some (.c 1587 (some (.int cnt)))->Ev (CO (n+1)) (.jV 301 1587) st (.int cnt):=λh=>Ev.jV (by unfold cellAt;rw[h];first|done|rfl)
 have i1:=iu (Int.fdiv f 5+(du.length:Int)) (k:=7 - 2*cnt) (by rcases hc with rfl|rfl<;>decide)
 obtain⟨a,ha,hx⟩:=jl (st:=st) (l:=mJ.map Dj) (i:=Int.fmod (Int.fdiv f 5+(du.length:Int)) (7 - 2*cnt)) i1.1 (Int.lt_of_lt_of_le i1.2 (by rcases hc with rfl|rfl<;>decide))
 obtain⟨⟨kt,kn,ks⟩,hkey,rfl⟩:=Jc ha
 have Fo:=O2 hkey
 refine Sq (st':=aK (aK (aK st 65 (.str kt)) 2 (.str kn)) 208 (xR ks)) (Ev.idx (Ev.cU .nil rfl rfl rfl rfl λQ h=>aaQ h) ((((Ev.ak W.g1).yZ Ev.aA rfl).uW (Ev.U6 (Ev.ak W.gb) W.o1)).qP (Ev.aA.G3 (Ev.aA.Om (VL W.o2) rfl)) (vg (by rcases hc with rfl|rfl<;>decide))) hx) rfl ?_
 have nks:nS (xR ks)=true:=by cases ks<;>rfl
 have W1:=((W.set (x:=65) (u:=.str kt) rfl rfl).set (x:=2) (u:=.str kn) rfl rfl).set (x:=208) (u:=xR ks) rfl nks
 have u3:∀{y:Nat} {v:AV},y≠65->y≠2->y≠208->get y st.ak=some v->get y (aK (aK (aK st 65 (.str kt)) 2 (.str kn)) 208 (xR ks)).ak=some v:=λh1 h2 h3 h=>(gp (Ne.symm h3)).trans ((gp (Ne.symm h2)).trans ((gp (Ne.symm h1)).trans h))
 have m1:=u3 (by decide) (by decide) (by decide) k1
 have m2:=u3 (by decide) (by decide) (by decide) k2
 have m3:=u3 (by decide) (by decide) (by decide) k3
 have m4:=u3 (by decide) (by decide) (by decide) k4
 have m5:=u3 (by decide) (by decide) (by decide) k5
 have q1:get 65 (aK (aK (aK st 65 (.str kt)) 2 (.str kn)) 208 (xR ks)).ak=some (.str kt):=(gp (by decide)).trans ((gp (by decide)).trans gq)
 have q2:get 2 (aK (aK (aK st 65 (.str kt)) 2 (.str kn)) 208 (xR ks)).ak=some (.str kn):=(gp (by decide)).trans gq
 have q3:get 208 (aK (aK (aK st 65 (.str kt)) 2 (.str kn)) 208 (xR ks)).ak=some (xR ks):=gq
 generalize aK (aK (aK st 65 (.str kt)) 2 (.str kn)) 208 (xR ks)=st at W1 m1 m2 m3 m4 m5 q1 q2 q3⊢
 have ek:Ev (CO (n+1)) (.tup [(.aA (.str [118,97,108,117,101])),(.aA .none),(.aA .none),(.tup [(.cmp .is_ (.ak 208) (.aA .none)),(.cmp .Le (.ak 208) (.aA .none))]),(.ak 2),(.ak 208)]) st (aV kn ks.isNone ks):=by
  have e1:Ev (CO (n+1)) (.tup [(.cmp .is_ (.ak 208) (.aA .none)),(.cmp .Le (.ak 208) (.aA .none))]) st (.tup [.bool ks.isNone,.bool (!ks.isNone)]):=by
   cases ks with
   |none=>exact Ev.tup (.cons ((Ev.ak q3).cmp Ev.aA rfl) (.cons ((Ev.ak q3).cmp Ev.aA rfl) .nil)) rfl
   |some s=>exact Ev.tup (.cons ((Ev.ak q3).cmp Ev.aA rfl) (.cons ((Ev.ak q3).cmp Ev.aA rfl) .nil)) rfl
  exact Ev.tup (.cons Ev.aA (.cons Ev.aA (.cons Ev.aA (.cons e1 (.cons (Ev.ak q2) (.cons (Ev.ak q3) .nil)))))) (by cases ks<;>rfl)
 refine Ss (Ev.ak W1.gb) ek W1.o1 rfl (by simp only[List.length_append,List.length_cons,List.length_nil];omega) ?_
 have W2:=W1.app (a:=aV kn ks.isNone ks) (by cases ks<;>rfl) W1.due
 have m1:get 117 ({st with own:=put 303 (.l (du++[aV kn ks.isNone ks])) st.own}:AS).ak=some (.str (vl its)):=m1
 generalize e0:({st with own:=put 303 (.l (du++[aV kn ks.isNone ks])) st.own}:AS)=st2 at W2 m1⊢
 have m2:get 88 st2.ak=some (.str [qt b]):=by rw[<-e0];exact m2
 have m3:get 207 st2.ak=some (.str ([qt b]++txt e pd l b its++[qt b])):=by rw[<-e0];exact m3
 have m4:get 172 st2.ak=some (.str s):=by rw[<-e0];exact m4
 have m5:get 93 st2.ak=some (.str d):=by rw[<-e0];exact m5
 have q1:get 65 st2.ak=some (.str kt):=by rw[<-e0];exact q1
 clear e0
 refine Ss (a:=aV (vl its) false (some [qt b])) (Ev.ak W2.gb) (Ev.tup (.cons Ev.aA (.cons Ev.aA (.cons Ev.aA (.cons (Ev.tup (.cons Ev.aA (.cons Ev.aA .nil)) rfl) (.cons (Ev.ak m1) (.cons (Ev.ak m2) .nil)))))) rfl) W2.o1 rfl (by simp only[List.length_append,List.length_cons,List.length_nil];omega) ?_
 have W3:=W2.app (a:=aV (vl its) false (some [qt b])) rfl W2.due
 have m1:get 117 ({st2 with own:=put 303 (.l ((du++[aV kn ks.isNone ks])++[aV (vl its) false (some [qt b])])) st2.own}:AS).ak=some (.str (vl its)):=m1
 generalize e0:({st2 with own:=put 303 (.l ((du++[aV kn ks.isNone ks])++[aV (vl its) false (some [qt b])])) st2.own}:AS)=st3 at W3 m1⊢
 have m3:get 207 st3.ak=some (.str ([qt b]++txt e pd l b its++[qt b])):=by rw[<-e0];exact m3
 have m4:get 172 st3.ak=some (.str s):=by rw[<-e0];exact m4
 have m5:get 93 st3.ak=some (.str d):=by rw[<-e0];exact m5
 have q1:get 65 st3.ak=some (.str kt):=by rw[<-e0];exact q1
 clear e0
 have hlen3:(((du++[aV kn ks.isNone ks])++[aV (vl its) false (some [qt b])]).length:Int)=5+2*(ps.length:Int):=by
  simp only[List.length_append,List.length_cons,List.length_nil];omega
 have abP:(du++[aV kn ks.isNone ks])++[aV (vl its) false (some [qt b])]=du++[aV kn ks.isNone ks,aV (vl its) false (some [qt b])]:=List.append_assoc ..
 rw[abP]at W3 hlen3
 generalize hd3:du++[aV kn ks.isNone ks,aV (vl its) false (some [qt b])]=du3 at W3 hlen3
 have J7:Ev (CO (n+1)) (.len (.ak 206)) st3 (.int (5+2*(ps.length:Int))):=by
  have:=Ev.U6 (CF:=CO (n+1)) (Ev.ak W3.gb) W3.o1
  rw[hlen3]at this
  exact this
 have i2:=iu (Int.fdiv f 7+(5+2*(ps.length:Int))) (k:=4 - cnt) (by rcases hc with rfl|rfl<;>decide)
 obtain⟨a,ha,hx2⟩:=jl (st:=st3) (l:=iG (jq e)) (i:=Int.fmod (Int.fdiv f 7+(5+2*(ps.length:Int))) (4 - cnt)) i2.1 (Int.lt_of_lt_of_le i2.2 (by rw[show(iG (jq e)).length=3 from rfl];rcases hc with rfl|rfl<;>decide))
 obtain⟨bt,hbt,rfl⟩:=jw ha
 have btl:=Ks he hbt
 have ebt:Ev (CO (n+1)) (.idx (.ak 204) (.bin .mod (.bin .add (.bin .div (.ak 158) (.aA (.int 7))) (.len (.ak 206))) (.bin .sub (.aA (.int 4)) (.jV 301 1587)))) st3 (.str bt):=
  Ev.idx (Ev.ak W3.g9) ((((Ev.ak W3.g1).yZ Ev.aA rfl).uW J7).qP (Ev.aA.G3 (VL W3.o2)) (vg (by rcases hc with rfl|rfl<;>decide))) hx2
 refine dY ((((((Ev.ak W3.ga).add (Ev.ak q1) (by dsimp only at Fo;omega)).add Ev.aA (by dsimp only at Fo;simp only[List.length_append,List.length_cons,List.length_nil];omega)).add ebt (by dsimp only at Fo;simp only[List.length_append,List.length_cons,List.length_nil];omega)).add (Ev.ak m3) (by dsimp only at Fo;simp only[List.length_append,List.length_cons,List.length_nil];omega))) ?_
 have abM:((((tx++kt)++[58])++bt)++([qt b]++txt e pd l b its++[qt b])).length<=60000:=by dsimp only at Fo;simp only[List.length_append,List.length_cons,List.length_nil];omega
 have W4:=W3.text (u:=(((tx++kt)++[58])++bt)++([qt b]++txt e pd l b its++[qt b]))
 have m1:get 117 (aK st3 205 (.str ((((tx++kt)++[58])++bt)++([qt b]++txt e pd l b its++[qt b])))).ak=some (.str (vl its)):=(gp (by decide)).trans m1
 have m4:get 172 (aK st3 205 (.str ((((tx++kt)++[58])++bt)++([qt b]++txt e pd l b its++[qt b])))).ak=some (.str s):=(gp (by decide)).trans m4
 have m5:get 93 (aK st3 205 (.str ((((tx++kt)++[58])++bt)++([qt b]++txt e pd l b its++[qt b])))).ak=some (.str d):=(gp (by decide)).trans m5
 clear J7 ebt hx2 m3 q1
 generalize ht1:(((tx++kt)++[58])++bt)++([qt b]++txt e pd l b its++[qt b])=t1 at W4 m1 m4 m5 abM⊢
 generalize aK st3 205 (.str t1)=Tp at W4 m1 m4 m5⊢
 have J7:Ev (CO (n+1)) (.len (.ak 206)) Tp (.int (5+2*(ps.length:Int))):=by
  have:=Ev.U6 (CF:=CO (n+1)) (Ev.ak W4.gb) W4.o1
  rw[hlen3]at this
  exact this
 have fin:∀bh:List Nat,(bh ∈ dJ∨(bh=[]/\fl=true/\(5+2*ps.length:Int)=3+4*cnt))->bh.length<=10->Ev (CO (n+1)) (.ite (.and_ [(.ak 200),(.cmp .eq (.len (.ak 206)) (.bin .add (.aA (.int 3)) (.bin .mul (.aA (.int 4)) (.jV 301 1587)))),(.cmp .eq (.bin .mod (.bin .div (.ak 158) (.aA (.int 13))) (.aA (.int 2))) (.aA (.int 0)))]) (.aA (.str [])) (.idx (.ak 203) (.bin .mod (.bin .add (.bin .div (.ak 158) (.aA (.int 11))) (.len (.ak 206))) (.aA (.int 3))))) Tp (.str bh)->
   wpS TT (CO (n+1)) [.asg 205 (.bin .add (.ak 205) (.ite (.and_ [(.ak 200),(.cmp .eq (.len (.ak 206)) (.bin .add (.aA (.int 3)) (.bin .mul (.aA (.int 4)) (.jV 301 1587)))),(.cmp .eq (.bin .mod (.bin .div (.ak 158) (.aA (.int 13))) (.aA (.int 2))) (.aA (.int 0)))]) (.aA (.str [])) (.idx (.ak 203) (.bin .mod (.bin .add (.bin .div (.ak 158) (.aA (.int 11))) (.len (.ak 206))) (.aA (.int 3))))))] Tp Q:=by
  intro bh Pa acC ev
  refine dY ((Ev.ak W4.ga).add ev (by omega)) (bV ?_)
  have W5:=W4.text (u:=t1++bh)
  refine hQ ⟨kt,kn,ks,bt,b,its,bh⟩ _ ⟨hkey,hbt,hg,Nat.le_trans hvl (by decide)⟩ rfl rfl Pa Fo.1 btl ?_ ((gp (by decide)).trans m1) ((gp (by decide)).trans m4) ((gp (by decide)).trans m5)
  have e1:hd++gj e pd l (ps++[(⟨kt,kn,ks,bt,b,its,bh⟩:PD)])=t1++bh:=by
   rw[Cy,<-ht1,htx]
   show hd++(gj e pd l ps++((kt++58::(bt++qt b::(txt e pd l b its++qt b::bh)))++[]))=_
   simp only[List.append_nil,List.append_assoc,List.cons_append,List.nil_append]
  have e2:du++PD.due ⟨kt,kn,ks,bt,b,its,bh⟩=du3:=hd3
  rw[e1,e2]
  exact W5
 have ebh:∃bh ∈ dJ,Ev (CO (n+1)) (.idx (.ak 203) (.bin .mod (.bin .add (.bin .div (.ak 158) (.aA (.int 11))) (.len (.ak 206))) (.aA (.int 3)))) Tp (.str bh):=by
  have i3:=iu (Int.fdiv f 11+(5+2*(ps.length:Int))) (k:=3) (by decide)
  obtain⟨a,ha,Zz⟩:=jl (st:=Tp) (l:=iG dJ) (i:=Int.fmod (Int.fdiv f 11+(5+2*(ps.length:Int))) 3) i3.1 (by unfold iG;rw[List.length_map,Pa];exact i3.2)
  obtain⟨bh,hb,rfl⟩:=jw ha
  exact⟨bh,hb,Ev.idx (Ev.ak W4.g8) ((((Ev.ak W4.g1).yZ Ev.aA rfl).uW J7).qP Ev.aA rfl) Zz⟩
 obtain⟨bh,hb1,hb2⟩:=ebh
 have g3:=W4.g3
 cases fl with
 |false=>exact fin bh (.inl hb1) (Lf bh hb1) (Ev.pO (Ev.ach (Ev.ak g3) rfl) rfl hb2)
 |true=>
  have e1:Ev (CO (n+1)) (.cmp .eq (.len (.ak 206)) (.bin .add (.aA (.int 3)) (.bin .mul (.aA (.int 4)) (.jV 301 1587)))) Tp (.bool (decide ((5+2*(ps.length:Int))=3+4*cnt))):=J7.cmp (Ev.aA.uW (Ev.aA.Om (VL W4.o2) rfl)) rfl
  by_cases q:(5+2*(ps.length:Int))=3+4*cnt
  ·rw[Bo q]at e1
   have e2:Ev (CO (n+1)) (.cmp .eq (.bin .mod (.bin .div (.ak 158) (.aA (.int 13))) (.aA (.int 2))) (.aA (.int 0))) Tp (.bool (decide (Int.fmod (Int.fdiv f 13) 2=0))):=(((Ev.ak W4.g1).yZ Ev.aA rfl).qP Ev.aA rfl).cmp Ev.aA rfl
   cases ZC:decide (Int.fmod (Int.fdiv f 13) 2=0)with
   |true=>rw[ZC]at e2;exact fin [] (.inr ⟨rfl,rfl,q⟩) (Nat.zero_le _) (Ev.tO (Ev.aap (Ev.ak g3) rfl e1 rfl e2) rfl Ev.aA)
   |false=>rw[ZC]at e2;exact fin bh (.inl hb1) (Lf bh hb1) (Ev.pO (Ev.aap (Ev.ak g3) rfl e1 rfl e2) rfl hb2)
  ·rw[df_ q]at e1
   exact fin bh (.inl hb1) (Lf bh hb1) (Ev.pO (Ev.acg (Ev.ak g3) rfl e1 rfl) rfl hb2)
end
theorem sJ (c j:Int):∀(T:List Int) (i:Int),∃T':List Int,spots c j i (T.map AV.int)=T'.map AV.int/\T'.length<=T.length
 |[],i=>⟨[],rfl,Nat.le_refl _⟩
 |t::T,i=>by
  obtain⟨T',h1,h2⟩:=sJ c j T (i+1)
  show ∃T':List Int,(match decide (Int.fmod i c=j)with|true=>AV.int t::spots c j (i+1) (T.map AV.int) |false=>spots c j (i+1) (T.map AV.int))=T'.map AV.int/\T'.length<=(t::T).length
  rw[h1]
  cases decide (Int.fmod i c=j)
  ·exact⟨T',rfl,Nat.le_succ_of_le h2⟩
  ·exact⟨t::T',rfl,Nat.succ_le_succ h2⟩
theorem Ev.nO {CF:fP}{st:AS}{e a b:IE}{l:List AV}{i j:Int}(h:Ev CF e st (.lst l))(ha:Ev CF a st (.int i))(hb:Ev CF b st (.int j))(h0:0<=i)(h1:0<=j):Ev CF (.nO e a b) st (.lst ((l.take j.toNat).drop i.toNat)):=λQ hQ=>by
 have hh:Yj (.lst l) i j=some (.lst ((l.take j.toNat).drop i.toNat)):=by
  show qz (decide (0<=i)&&decide (0<=j)) _=_
  rw[Bo h0,Bo h1]
  rfl
 exact h _ (ha _ (hb _ (aO (a:=i) rfl (aO (a:=j) rfl (aO hh hQ)))))
theorem Ev.lG {CF:fP}{st:AS}{e:IE}{l:List AV}{k k':Nat}{a a':Addr}{c j:Int}(h:Ev CF e st (.lst l))(h1:cellAt st k a=some (.int c))(h2:cellAt st k' a'=some (.int j))(hs:fQ c=true):Ev CF (.lG e k a k' a') st (.lst (spots c j 0 l)):=λQ hQ=>by
 exact h _ (aO (a:=l) rfl (aO (a:=c) (by rw[h1];rfl) (aO (a:=j) (by rw[h2];rfl) (dg hs hQ))))
structure PX (e:List Nat)(dJ:List (List Nat))(fl:Bool)(cnt:Int)(k:Nat)(x:PD):Prop where
 ok:x.ok e
 il:x.its.length<=4
 wd:∀i ∈ x.its,i.2 ∈ words∨i.2=[]
 kl:x.kt.length<=8
 bl:x.bt.length<=4
 bh:x.bh ∈ dJ∨(x.bh=[]/\fl=true/\(5+2*(k:Int))=3+4*cnt)
section
variable {n:Nat}{f:Int}{fl:Bool}{cnt mo:Int}{ns:List Int}{e pd l:List Nat}{dJ:List (List Nat)}{tx:List Nat}{du:List AV}{st:AS}{Q:PS}
theorem Qp {T:List Int}{m kk:Int}{es:List IE}{r:List IS}(hkk:kk=7∨kk=3)(he:e.length<=2)(hp:pd.length<=2)(hl:l.length<=1)(hT:T.length<=3)(hpar:st.par=none)
  (h:Lj (CO (n+2)) es st [.lst (T.map .int),.int m,.int kk,.str e,.str pd,.str l])
  (hQ:∀its,good its=true->its.length<=4->(∀i ∈ its,i.2 ∈ words∨i.2=[])->wpS TT (CO (n+2)) r (aK (aK (aK st 117 (.str (vl its))) 172 (.str (txt e pd l false its))) 93 (.str (txt e pd l true its))) Q):
  wpS TT (CO (n+2)) (.nD [.l 117,.l 172,.l 93] (.cU 171 es)::r) st Q:=by
 refine aL (h _ ?_)
 refine aaL (n:=n) hkk he hp hl hT λits h1 h2 h3=>?_
 have:=hQ its h1 h2 h3
 obtain⟨par,ak,own⟩:=st
 dsimp only at hpar
 subst hpar
 exact this
theorem Oz:Fi=[.nD [.l 117,.l 172,.l 93] (.cU 171 [(.ak 174),(.bin .add (.bin .div (.ak 158) (.aA (.int 3))) (.jV 302 1588)),(.ite (.cmp .eq (.jV 301 1587) (.aA (.int 1))) (.aA (.int 7)) (.aA (.int 3))),(.ak 168),(.ak 169),(.ak 167)]),
  .jo .list [.l 88,.l 207] (.lst [(.tup [(.aA (.str [39])),(.bin .add (.bin .add (.aA (.str [39])) (.ak 172)) (.aA (.str [39])))]),(.tup [(.aA (.str [34])),(.bin .add (.bin .add (.aA (.str [34])) (.ak 93)) (.aA (.str [34])))])]) OJ]:=rfl
theorem outer {jv:Int}{ps:List PD}{hd:List Nat}(hc:cnt=1∨cnt=2)(hmo:1<=mo/\mo<=3)(he:e.length<=2)(hp:pd.length<=2)(hl:l.length<=1)(Pa:dJ.length=3)(Lf:∀x ∈ dJ,x.length<=10)
  (W:LS st f fl cnt mo ns e pd l dJ (jq e) (some (.int jv)) tx du)(hdu:du.length=3+2*ps.length)(hps:ps.length<=8)(htx:tx=hd++gj e pd l ps)(abL:tx.length<=2000)
  (hQ:∀x y st',x.b=false->y.b=true->PX e dJ fl cnt ps.length x->PX e dJ fl cnt (ps.length+1) y->LS st' f fl cnt mo ns e pd l dJ (jq e) (some (.int jv)) (hd++gj e pd l (ps++[x]++[y])) (du++x.due++y.due)->Q .next st'):
  wpS TT (CO (n+2)) (.asg 174 (.lG (.nO (.ak 199) (.aA (.int 1)) (.bin .add (.aA (.int 1)) (.ak 202))) 301 1587 302 1588)::Fi) st Q:=by
 have c1:cellAt st 301 1587=some (.int cnt):=by unfold cellAt;rw[W.o2];rfl
 have c2:cellAt st 302 1588=some (.int jv):=by unfold cellAt;rw[W.o3];rfl
 obtain⟨T,hT1,hT2⟩:=sJ cnt jv ((ns.take (1+mo).toNat).drop 1) 0
 have hT3:T.length<=3:=by
  rw[List.length_drop,List.length_take]at hT2
  omega
 have hsl:(((ns.map AV.int).take (1+mo).toNat).drop (1:Int).toNat)=((ns.take (1+mo).toNat).drop 1).map AV.int:=by
  rw[<-List.map_take,<-List.map_drop];rfl
 have ev0:Ev (CO (n+2)) (.lG (.nO (.ak 199) (.aA (.int 1)) (.bin .add (.aA (.int 1)) (.ak 202))) 301 1587 302 1588) st (.lst (T.map .int)):=by
  have:=((Ev.ak (CF:=CO (n+2)) W.g2).nO (i:=1) (j:=1+mo) Ev.aA (Ev.aA.uW (Ev.ak W.g4)) (by decide) (by omega)).lG c1 c2 (by rcases hc with rfl|rfl<;>rfl)
  rw[hsl,hT1]at this
  exact this
 refine dY ev0 ?_
 have W1:=W.set (x:=174) (u:=.lst (T.map .int)) rfl (by
  show vB (T.map AV.int)=true
  clear hT1 hT2 hT3 ev0
  induction T with
  |nil=>rfl
  |cons t T ih=>exact ih)
 have k0:get 174 (aK st 174 (.lst (T.map .int))).ak=some (.lst (T.map .int)):=gq
 clear ev0 c1 c2
 generalize aK st 174 (.lst (T.map .int))=st at W1 k0⊢
 have c1:cellAt st 301 1587=some (.int cnt):=by unfold cellAt;rw[W1.o2];rfl
 have c2:cellAt st 302 1588=some (.int jv):=by unfold cellAt;rw[W1.o3];rfl
 rw[Oz]
 have kk:∃kk:Int,(kk=7∨kk=3)/\Ev (CO (n+2)) (.ite (.cmp .eq (.jV 301 1587) (.aA (.int 1))) (.aA (.int 7)) (.aA (.int 3))) st (.int kk):=by
  have t:Ev (CO (n+2)) (.cmp .eq (.jV 301 1587) (.aA (.int 1))) st (.bool (decide (cnt=1))):=(Ev.jV c1).cmp Ev.aA rfl
  rcases hc with rfl|rfl
  ·exact⟨7,.inl rfl,Ev.tO t rfl Ev.aA⟩
  ·exact⟨3,.inr rfl,Ev.pO t rfl Ev.aA⟩
 obtain⟨kk,hkk,ekk⟩:=kk
 refine Qp hkk he hp hl hT3 W1.par (.cons (Ev.ak k0) (.cons (((Ev.ak W1.g1).yZ Ev.aA rfl).uW (Ev.jV c2)) (.cons ekk (.cons (Ev.ak W1.g5) (.cons (Ev.ak W1.g6) (.cons (Ev.ak W1.g7) .nil)))))) λits hg hil hwd=>?_
 have w3:∀i ∈ its,i.2.length<=3:=λi hi=>by
  rcases hwd i hi with h|h
  ·exact(kJ _ h).2.2
  ·rw[h];exact Nat.zero_le _
 have hvl:=zV its w3
 have ht1:=lR he hp hl false its w3
 have ht2:=lR he hp hl true its w3
 have W2:=((W1.set (x:=117) (u:=.str (vl its)) rfl rfl).set (x:=172) (u:=.str (txt e pd l false its)) rfl rfl).set (x:=93) (u:=.str (txt e pd l true its)) rfl rfl
 have a1:get 117 (aK (aK (aK st 117 (.str (vl its))) 172 (.str (txt e pd l false its))) 93 (.str (txt e pd l true its))).ak=some (.str (vl its)):=(gp (by decide)).trans ((gp (by decide)).trans gq)
 have a2:get 172 (aK (aK (aK st 117 (.str (vl its))) 172 (.str (txt e pd l false its))) 93 (.str (txt e pd l true its))).ak=some (.str (txt e pd l false its)):=(gp (by decide)).trans gq
 have a3:get 93 (aK (aK (aK st 117 (.str (vl its))) 172 (.str (txt e pd l false its))) 93 (.str (txt e pd l true its))).ak=some (.str (txt e pd l true its)):=gq
 clear W1 k0 c1 c2 ekk
 generalize aK (aK (aK st 117 (.str (vl its))) 172 (.str (txt e pd l false its))) 93 (.str (txt e pd l true its))=st at W2 a1 a2 a3⊢
 refine aL (Gw ?_)
 refine(Ev.lst (.cons (Ev.tup (.cons Ev.aA (.cons ((Ev.aA.add (Ev.ak a2) (by simp only[List.length_cons,List.length_nil];omega)).add Ev.aA (by simp only[List.length_append,List.length_cons,List.length_nil];omega)) .nil)) rfl) (.cons (Ev.tup (.cons Ev.aA (.cons ((Ev.aA.add (Ev.ak a3) (by simp only[List.length_cons,List.length_nil];omega)).add Ev.aA (by simp only[List.length_append,List.length_cons,List.length_nil];omega)) .nil)) rfl) .nil)) rfl) _ ?_
 have W3:=(W2.set (x:=88) (u:=.str [39]) rfl rfl).set (x:=207) (u:=.str (([39]++txt e pd l false its)++[39])) rfl rfl
 have u2:∀{y:Nat} {v:AV},y≠88->y≠207->get y st.ak=some v->get y (aK (aK st 88 (.str [39])) 207 (.str (([39]++txt e pd l false its)++[39]))).ak=some v:=λh1 h2 h=>(gp (Ne.symm h2)).trans ((gp (Ne.symm h1)).trans h)
 refine aO rfl (And.intro rfl ?_)
 refine inner (n:=n+1) (b:=false) (ps:=ps) hc he Pa Lf hg hil (by omega) (by omega) W3 hdu (by omega) htx (by omega) (u2 (by decide) (by decide) a1) ((gp (by decide)).trans gq) gq (u2 (by decide) (by decide) a2) (u2 (by decide) (by decide) a3) λx st1 hx1 hx2 Zz hx4 hx5 hx6 V b1 b2 b3=>?_
 have V3:=(V.set (x:=88) (u:=.str [34]) rfl rfl).set (x:=207) (u:=.str (([34]++txt e pd l true its)++[34])) rfl rfl
 have v2:∀{y:Nat} {v:AV},y≠88->y≠207->get y st1.ak=some v->get y (aK (aK st1 88 (.str [34])) 207 (.str (([34]++txt e pd l true its)++[34]))).ak=some v:=λh1 h2 h=>(gp (Ne.symm h2)).trans ((gp (Ne.symm h1)).trans h)
 have acD:x.bh.length<=10:=by
  rcases hx4 with h|⟨h,_⟩
  ·exact Lf _ h
  ·rw[h];exact Nat.zero_le _
 refine And.intro rfl ?_
 refine inner (n:=n+1) (b:=true) (ps:=ps++[x]) hc he Pa Lf hg hil (by omega) (by omega) V3 (by rw[List.length_append,hdu];simp only[List.length_append,List.length_cons,List.length_nil];show 3+2*ps.length+2=_;omega) (by simp only[List.length_append,List.length_cons,List.length_nil];omega) rfl (by
  rw[Cy,<-List.append_assoc,<-htx,List.length_append]
  have:(gj e pd l [x]).length<=1000:=by
   show((x.kt++58::(x.bt++qt x.b::(txt e pd l x.b x.its++qt x.b::x.bh)))++[]).length<=1000
   rw[hx2,Zz]
   simp only[List.length_append,List.length_cons,List.length_nil]
   omega
  omega) (v2 (by decide) (by decide) b1) ((gp (by decide)).trans gq) gq (v2 (by decide) (by decide) b2) (v2 (by decide) (by decide) b3) λy st2 hy1 hy2 hy3 hy4 hy5 hy6 V b1 b2 b3=>?_
 refine(show wpS TT (CO (n+2)) [] st2 Q from bV (hQ x y st2 hx2 hy2 ⟨hx1,by rw[Zz];exact hil,by rw[Zz];exact hwd,hx5,hx6,hx4⟩ ⟨hy1,by rw[hy3];exact hil,by rw[hy3];exact hwd,hy5,hy6,?_⟩ V))
 simp only[List.length_append,List.length_cons,List.length_nil,Int.natCast_add]at hy4⊢
 exact hy4
end
theorem Ws {CF:fP}{e:IE}{st:AS}{v:AV}{k:Nat}{a:Addr}{w:Option AV}{r:List IS}{Q:PS}(h:Ev CF e st v)(hg:get k st.own=some (.c a w))(hc:v.clo=true)(hQ:wpS TT CF r {st with own:=put k (.c a (some v)) st.own} Q):wpS TT CF (.Bv k a e::r) st Q:=by
 have e:setCell st k a v=some {st with own:=put k (.c a (some v)) st.own}:=by
  unfold setCell
  rw[hg]
  show qz (v.clo&&Nat.beq a a) _=_
  rw[hc,Nat.beq_refl]
  rfl
 exact aL (h _ (aO e hQ))
theorem Qz {CF:fP}{es:List IE}{st:AS}{vs:List AV}{x k:Nat}{r:List IS}{Q:PS}(h:Lj CF es st vs)(hc:(nM vs&&Nat.ble vs.length 1000&&fresh k st)=true)(hQ:wpS TT CF r (aK {st with own:=(k,.l vs)::st.own} x (.own k)) Q):wpS TT CF (.qx x k es::r) st Q:=aL (h _ (dg hc hQ))
noncomputable def st0 (ns:List Int):AS:=⟨none,[(199,.lst (ns.map .int))],[(302,.c 1588 none),(301,.c 1587 none)]⟩
noncomputable def hd0:Bool->List Nat
 |true=>[123]
 |false=>[]
noncomputable def Cfg (fl:Bool) (cnt:Int) (e:List Nat) (dJ:List (List Nat)):Prop:=(fl=true/\cnt=1/\dJ=qW e)∨(fl=false/\(cnt=1∨cnt=2)/\dJ=pY e)
theorem oO {e:List Nat}(h:e ∈ ends):e.length<=2:=by
 unfold ends at h
 simp only[List.mem_cons,List.not_mem_nil,or_false]at h
 rcases h with rfl|rfl|rfl|rfl<;>exact Nat.le_of_ble_eq_true rfl
theorem yj {e:List Nat}(h:e ∈ pads):e.length<=2:=by
 unfold pads at h
 simp only[List.mem_cons,List.not_mem_nil,or_false]at h
 rcases h with rfl|rfl|rfl|rfl<;>exact Nat.le_of_ble_eq_true rfl
theorem vC {e:List Nat}(h:e ∈ leads):e.length<=1:=by
 unfold leads at h
 simp only[List.mem_cons,List.not_mem_nil,or_false]at h
 rcases h with rfl|rfl|rfl<;>exact Nat.le_of_ble_eq_true rfl
theorem vA:∀ns:List Int,vB (ns.map AV.int)=true
 |[]=>rfl
 |_::ns=>vA ns
section
variable {n:Nat}{ns:List Int}{Q:PS}
theorem T6 (hQ:∀f fl cnt mo e pd l dJ st',Cfg fl cnt e dJ->(1<=mo/\mo<=3)->e ∈ ends->pd ∈ pads->l ∈ leads->LS st' f fl cnt mo ns e pd l dJ (jq e) none (hd0 fl) [aS,aD,aM fl]->Q .next st'):wpS TT (CO (n+1)) I6 (st0 ns) Q:=by
 unfold I6 st0
 have e1:∃f,Ev (CO (n+1)) (.ite (.ak 199) (.idx (.ak 199) (.aA (.int 0))) (.aA (.int 0))) ⟨none,[(199,.lst (ns.map .int))],[(302,.c 1588 none),(301,.c 1587 none)]⟩ (.int f):=by
  cases ns with
  |nil=>exact⟨0,Ev.pO (Ev.ak rfl) rfl Ev.aA⟩
  |cons z ns=>
   obtain⟨a,ha,hx⟩:=jl (st:=⟨none,[(199,.lst ((z::ns).map .int))],[(302,.c 1588 none),(301,.c 1587 none)]⟩) (l:=(z::ns).map AV.int) (i:=0) (by decide) (by simp only[List.length_map,List.length_cons];omega)
   obtain⟨z',rfl⟩:=tR ha
   exact⟨z',Ev.tO (Ev.ak rfl) rfl (Ev.idx (Ev.ak rfl) Ev.aA hx)⟩
 obtain⟨f,e1⟩:=e1
 refine dY e1 ?_
 have e2:∀{st:AS},get 158 st.ak=some (.int f)->Ev (CO (n+1)) (.cmp .eq (.bin .mod (.bin .div (.ak 158) (.aA (.int 2))) (.aA (.int 2))) (.aA (.int 1))) st (.bool (decide (Int.fmod (Int.fdiv f 2) 2=1))):=λh=>(((Ev.ak h).yZ Ev.aA rfl).qP Ev.aA rfl).cmp Ev.aA rfl
 refine dY (e2 rfl) ?_
 generalize decide (Int.fmod (Int.fdiv f 2) 2=1)=fl
 have e3:∃cnt mo,((fl=true/\cnt=1)∨(fl=false/\(cnt=1∨cnt=2)))/\(1<=mo/\mo<=3)/\(∀{st:AS},get 158 st.ak=some (.int f)->get 200 st.ak=some (.bool fl)->Ev (CO (n+1)) (.ite (.ak 200) (.aA (.int 1)) (.bin .add (.aA (.int 1)) (.bin .mod (.ak 158) (.aA (.int 2))))) st (.int cnt))/\
   (∀{st:AS},get 200 st.ak=some (.bool fl)->cellAt st 301 1587=some (.int cnt)->Ev (CO (n+1)) (.ite (.ak 200) (.aA (.int 2)) (.bin .sub (.aA (.int 5)) (.bin .mul (.aA (.int 2)) (.jV 301 1587)))) st (.int mo)):=by
  cases fl with
  |true=>exact⟨1,2,.inl ⟨rfl,rfl⟩,by decide,λh1 h2=>Ev.tO (Ev.ak h2) rfl Ev.aA,λh1 h2=>Ev.tO (Ev.ak h1) rfl Ev.aA⟩
  |false=>
   have i:=iu f (k:=2) (by decide)
   exact⟨1+Int.fmod f 2,5 - 2*(1+Int.fmod f 2),.inr ⟨rfl,by omega⟩,by omega,λh1 h2=>Ev.pO (Ev.ak h2) rfl (Ev.aA.uW ((Ev.ak h1).qP Ev.aA rfl)),λh1 h2=>Ev.pO (Ev.ak h1) rfl (Ev.aA.G3 (Ev.aA.Om (Ev.jV h2) rfl))⟩
 obtain⟨cnt,mo,hc,hmo,e3,e4⟩:=e3
 refine Ws (w:=none) (e3 rfl rfl) rfl rfl ?_
 refine dY (e4 rfl rfl) ?_
 have i5:=iu (Int.fdiv f 4) (k:=4) (by decide)
 have x5:∀st,∃e ∈ ends,idxV TT st (.lst (iG ends)) (.int (Int.fmod (Int.fdiv f 4) 4))=some (.str e):=λst=>by
  obtain⟨a,ha,hx⟩:=jl (st:=st) (l:=iG ends) i5.1 i5.2
  obtain⟨e,he,rfl⟩:=jw ha
  exact⟨e,he,hx⟩
 obtain⟨e,he,hx5⟩:=x5 ⟨none,[],[]⟩
 refine dY (v:=.str e) (Ev.idx (Ev.cU .nil rfl rfl rfl rfl λQ h=>aaP h) (((Ev.ak rfl).yZ Ev.aA rfl).qP Ev.aA rfl) hx5) ?_
 have i6:=iu (Int.fdiv f 16+(((ns.map AV.int).length:Nat):Int)) (k:=6 - 2*cnt) (by omega)
 have x6:∃p ∈ pads,idxV TT ⟨none,[],[]⟩ (.lst (iG pads)) (.int (Int.fmod (Int.fdiv f 16+(((ns.map AV.int).length:Nat):Int)) (6 - 2*cnt)))=some (.str p):=by
  obtain⟨a,ha,hx⟩:=jl (st:=⟨none,[],[]⟩) (l:=iG pads) i6.1 (Int.lt_of_lt_of_le i6.2 (by show 6 - 2*cnt<=4;omega))
  obtain⟨e,he,rfl⟩:=jw ha
  exact⟨e,he,hx⟩
 obtain⟨pd,hp,hx6⟩:=x6
 have sm6:fQ (6 - 2*cnt)=true:=by
  rcases hc with⟨_,rfl⟩ |⟨_,rfl|rfl⟩<;>rfl
 refine dY (v:=.str pd) (Ev.idx (Ev.cU .nil rfl rfl rfl rfl λQ h=>aaO h) ((((Ev.ak rfl).yZ Ev.aA rfl).uW (Ev.Ou (Ev.ak rfl))).qP (Ev.aA.G3 (Ev.aA.Om (Ev.jV rfl) rfl)) sm6) hx6) ?_
 have i7:=iu (((ns.map AV.int).length:Nat):Int) (k:=3) (by decide)
 have x7:∃p ∈ leads,idxV TT ⟨none,[],[]⟩ (.lst (iG leads)) (.int (Int.fmod (((ns.map AV.int).length:Nat):Int) 3))=some (.str p):=by
  obtain⟨a,ha,hx⟩:=jl (st:=⟨none,[],[]⟩) (l:=iG leads) i7.1 i7.2
  obtain⟨e,he,rfl⟩:=jw ha
  exact⟨e,he,hx⟩
 obtain⟨l,hl,hx7⟩:=x7
 refine dY (v:=.str l) (Ev.idx (Ev.cU .nil rfl rfl rfl rfl λQ h=>aaN h) ((Ev.Ou (Ev.ak rfl)).qP Ev.aA rfl) hx7) ?_
 have le:=oO he
 have e8:∃dJ,Cfg fl cnt e dJ/\∀{st:AS},get 200 st.ak=some (.bool fl)->get 168 st.ak=some (.str e)->Ev (CO (n+1)) (.ite (.ak 200) (.lst [(.aA (.str [44,32])),(.bin .add (.aA (.str [44])) (.ak 168)),(.bin .add (.aA (.str [32,44,32,35,39,34])) (.ak 168))]) (.lst [(.ak 168),(.bin .add (.aA (.str [32,35,39,34])) (.ak 168)),(.bin .add (.ak 168) (.ak 168))])) st (.lst (iG dJ)):=by
  rcases hc with⟨rfl,rfl⟩ |⟨rfl,hc⟩
  ·exact⟨qW e,.inl ⟨rfl,rfl,rfl⟩,λh1 h2=>Ev.tO (Ev.ak h1) rfl (Ev.lst (.cons Ev.aA (.cons (Ev.aA.add (Ev.ak h2) (by simp only[List.length_cons,List.length_nil];omega)) (.cons (Ev.aA.add (Ev.ak h2) (by simp only[List.length_cons,List.length_nil];omega)) .nil))) rfl)⟩
  ·exact⟨pY e,.inr ⟨rfl,hc,rfl⟩,λh1 h2=>Ev.pO (Ev.ak h1) rfl (Ev.lst (.cons (Ev.ak h2) (.cons (Ev.aA.add (Ev.ak h2) (by simp only[List.length_cons,List.length_nil];omega)) (.cons ((Ev.ak h2).add (Ev.ak h2) (by omega)) .nil))) rfl)⟩
 obtain⟨dJ,ZD,e8⟩:=e8
 refine dY (e8 rfl rfl) ?_
 refine dY (v:=.lst (iG (jq e))) (Ev.lst (.cons Ev.aA (.cons Ev.aA (.cons ((Ev.ak rfl).add Ev.aA (by simp only[List.length_cons,List.length_nil];omega)) .nil))) rfl) ?_
 have ea:∀{st:AS},get 200 st.ak=some (.bool fl)->Ev (CO (n+1)) (.ite (.ak 200) (.aA (.str [123])) (.aA (.str []))) st (.str (hd0 fl)):=λh=>by
  cases fl with
  |true=>exact Ev.tO (Ev.ak h) rfl Ev.aA
  |false=>exact Ev.pO (Ev.ak h) rfl Ev.aA
 refine dY (ea rfl) ?_
 refine Qz (vs:=[aS,aD,aM fl]) (.cons (Ev.tup (.cons Ev.aA .nil) rfl) (.cons (Ev.tup (.cons Ev.aA (.cons Ev.aA .nil)) rfl) (.cons (Ev.tup (.cons Ev.aA (.cons Ev.aA (.cons Ev.aA (.cons Ev.aA (.cons (Ev.ak rfl) .nil))))) rfl) .nil))) rfl ?_
 refine bV (hQ f fl cnt mo e pd l dJ _ ZD hmo he hp hl ⟨rfl,rfl,rfl,rfl,rfl,rfl,rfl,rfl,rfl,rfl,rfl,rfl,rfl,rfl,rfl,rfl,?_,rfl⟩)
 show(vB (ns.map AV.int)&&(nS (.int f)&&(nS (.bool fl)&&(nS (.int mo)&&(nS (.str e)&&(nS (.str pd)&&(nS (.str l)&&(vB (iG dJ)&&(vB (iG (jq e))&&(nS (.str (hd0 fl))&&(nS (.own 303)&&true)))))))))))=true
 have hb:vB (iG dJ)=true:=by
  rcases ZD with⟨_,_,rfl⟩ |⟨_,_,rfl⟩<;>rfl
 rw[vA,hb]
 rfl
end
section
open PyProof.V PyProof.Rows.LCg
noncomputable def fM (c j:Int):Int->List Value->List Value
 |_,[]=>[]
 |i,a::r=>match decide (Int.fmod i c=j)with
  |true=>a::fM c j (i+1) r
  |false=>fM c j (i+1) r
theorem tW (c j:Int):∀(vs:List Value) (i:Int) (v:Value),fM c j i (vs++[v])=fM c j i vs++(match decide (Int.fmod (i+vs.length) c=j)with|true=>[v] |false=>[])
 |[],i,v=>by
  show(match decide (Int.fmod i c=j)with|true=>_|false=>_)=_
  have e:i+(([]:List Value).length:Int)=i:=by show i+((0:Nat):Int)=i;omega
  rw[e]
  cases decide (Int.fmod i c=j)<;>rfl
 |a::r,i,v=>by
  have ih:=tW c j r (i+1) v
  have e:i+1+(r.length:Int)=i+((a::r).length:Int):=by simp only[List.length_cons];omega
  rw[e]at ih
  show(match decide (Int.fmod i c=j)with|true=>_|false=>_)=_
  have e2:fM c j i (a::r)=match decide (Int.fmod i c=j)with|true=>a::fM c j (i+1) r|false=>fM c j (i+1) r:=rfl
  rw[e2]
  cases decide (Int.fmod i c=j)
  ·exact ih
  ·show a::fM c j (i+1) (r++[v])=_
   rw[ih];rfl
theorem vM (c j:Int):∀(vs:List Value) (i:Int),(fM c j i vs).length<=vs.length
 |[],i=>Nat.le_refl _
 |a::r,i=>by
  have ih:=vM c j r (i+1)
  unfold fM
  cases decide (Int.fmod i c=j)
  ·simp only[List.length_cons];omega
  ·simp only[List.length_cons];omega
theorem VH {α:Sort _}{p:α->Prop}(h:∃a,p a){G:Prop}(k:∀a,p a->G):G:=let ⟨a,x⟩:=h;k a x
theorem j4 {x y:Nat}(h:@Ne Nat x y):@Ne Addr x y:=h
section
variable {C:Cx}{A:Around}{E:Value->Shared->Prop}{s:Shared}{aj:Heap}{L:Addr}{m:Str->Option Value}{env:Env}{base:List (Addr×Obj)}
inductive CompI (s:Shared)(aj:Heap)(L:Addr)(m:Str->Option Value)(base:List (Addr×Obj))(n0:Nat)(l:Addr)(vs:List Value)(c j:Int)(k:Nat)(s':Shared):Prop
 |mk (h':Heap) (tk i:Nat) (m':Str->Option Value) (hi:i<=vs.length) (hk:k=vs.length+1 - i) (he:∃old,IsEnum h' (n0+1) n0 (i:Int) old) (hit:h'.IsListIter n0 l i) (hls:h'.IsList l vs.toArray) (F:Fr aj L h' m) (hn:h'.Ns (n0+3) m') (N:News aj L h' ((n0+2,lst (fM c j 0 (vs.take i)))::base)) (e:s'={s with heap:=h',toks:=tk})
theorem FJ {a b cn jn:Str}{pa pb tp p1 p2 p3 p4 p5 pe:Pos}{kk:Nat}{iter:Expr}{scope:Scope}{cl:List (Str×Addr)}{pos:Pos}{l:Addr}{vs:List Value}{nl:Nat}{c j:Int}{tc tj:Tok}{a1 a2:Addr}{o1 o2:Obj}{RR:Value->Addr->Result->Shared->Prop}
  (hh:A.handled=none)(F:Fr aj L s.heap m)(N:News aj L s.heap base)(hl:(l,listOf vs.toArray nl) ∈ base)(hsz:vs.length<=1000)(h1:(a1,o1) ∈ base)(hd1:o1.data= .cell (some (.int c tc)))(h2:(a2,o2) ∈ base)(hd2:o2.data= .cell (some (.int j tj)))(hc:fQ c=true)
  (hcell:∀y ∈ scope.names,y.2≠.cell)(hkind:scope.kind= .function)(hxa:scope.names.lookup a=some .local)(hxb:scope.names.lookup b=some .local)(hab:¬a=b)
  (hca:cl.lookup cn=some a1)(hja:cl.lookup jn=some a2)(hck:∀Cc,(compEnvC scope cl Cc env).kindOf cn=some .cell)(hjk:∀Cc,(compEnvC scope cl Cc env).kindOf jn=some .cell)
  (hda:(a==("__debug__":Str))=false)(hdb:(b==("__debug__":Str))=false)(hdc:(cn==("__debug__":Str))=false)(hdj:(jn==("__debug__":Str))=false)(hmk:behindInMarks .Eq (.Name jn p4)=false)
  (hRR:∀D Cc h tk m',Fr aj L h m->News aj L h ((D,lst (fM c j 0 vs))::base)->h.Ns Cc m'->aj.get? Cc=none->Cc≠L->Cc≠D->(∀p ∈ base,p.1<D)->(∀p ∈ base,p.1≠Cc)->D≠L->RR (.ref D) Cc (.ok .next) {s with heap:=h,toks:=tk}):
  wpAny (model C.prog C.w) A (call (.type "enumerate") [.ref l]) (λxv aR=>wpAny (model C.prog C.w) A (pyIter xv) (λit bY=>wpAny (model C.prog C.w) A (newList []) (λacc gZ=>wpAny (model C.prog C.w) A (newFunctionEnv scope env.globals cl [] env.qual none .none (some env)) (λcenv aa7=>
   codeAny (model C.prog C.w) A (.compStart (.ListComp (.Name b pe) [⟨.Tuple [.Name a pa,.Name b pb] kk tp,iter,[.Compare (.BinOp (.Name a p1) .Mod (.Name cn p2) p3) [.Eq] [.Name jn p4] p5],0⟩] scope pos) 0 it acc {cenv with scope:=relabel scope env}) (RR acc cenv.locals) aa7) E gZ) E bY) E aR) E s:=by
 have hlist:s.heap.IsList l vs.toArray:=⟨_,(N _ hl).1,rfl,nl,rfl⟩
 have hlt:∀p ∈ base,@LT.lt Nat _ p.1 s.heap.objs.size:=λp hp=>Heap.lt_size (N p hp).1
 refine call_enumerate_list hlist λg1 hE hI hs1 hk1=>?_
 refine wpAny_pyIter_enum hE ?_
 refine wpAny_newObj_type (wpAny_newFunctionEnv hcell (by intro y hy;simp at hy) (λg2 hns hsb=>?_) hkind)
 dsimp only at hns hsb⊢
 generalize hH:g1.push {cls:=.type "list",dict:=none,data:=.seq ([]:List Value).toArray}=H2 at hns hsb⊢
 have hHs:H2.objs.size=s.heap.objs.size+3:=by rw[<-hH,Heap.size_push,hs1]
 obtain⟨n0,hn0⟩:∃n0,n0=s.heap.objs.size:=⟨_,rfl⟩
 rw[<-hn0]at hlt hE hI hs1 hHs
 rw[hHs]at hns hsb⊢
 rw[hs1,<-hn0]
 have oldH:∀q o,g1.get? q=some o->H2.get? q=some o:=λq o e=>hH▸Heap.get?_push_of_some _ e
 have YL:∀q o,q≠n0+3->H2.get? q=some o->g2.get? q=some o:=λq o hq e=>hsb.extBut q o hq (Heap.get?_push_of_some _ e)
 have up:∀(q:Addr) o,@LT.lt Nat _ q (n0+2)->g1.get? q=some o->g2.get? q=some o:=λq o hq e=>YL q o (j4 (by omega)) (oldH q o e)
 have hacc:g2.get? (n0+2)=some (lst []):=YL _ _ (j4 (by omega)) (hH▸(by rw[<-hs1];exact Heap.get?_push_size _ rfl))
 have szF:∀(q:Addr) o,aj.get? q=some o->@LT.lt Nat _ q n0:=λq o e=>by
  rw[hn0];exact Heap.lt_size (F.keep q o e)
 have oH:∀(q:Addr),@LE.le Nat _ n0 q->aj.get? q=none:=λq hq=>by
  cases e:aj.get? q with
  |none=>rfl
  |some o'=>exact absurd (szF q o' e) (Nat.not_lt_of_le hq)
 have hLlt:@LT.lt Nat _ L n0:=by rw[hn0];exact F.ns.lt
 have old:∀q o,s.heap.get? q=some o->g2.get? q=some o:=λq o e=>up q o (by have h:@LT.lt Nat _ q s.heap.objs.size:=Heap.lt_size e;omega) (hk1 q o e)
 have hl0:@LT.lt Nat _ l n0:=hlt _ hl
 have W:=(WalksT.enumerate (prog:=C.prog) (w:=C.w) hh (n0+1) n0 l (j4 (by omega)) (j4 (by omega)) (j4 (by omega)) vs.toArray)
 have Vn:(∃old,IsEnum g2 (n0+1) n0 ((0:Nat):Int) old)/\g2.IsListIter n0 l 0/\g2.IsList l vs.toArray:=
  ⟨⟨_,up _ _ (by omega) hE⟩,hI.at λo e=>up _ o (by omega) e,hlist.at λo e=>old _ o e⟩
 have loop:codeAny (model C.prog C.w) A (.compLoop (.ListComp (.Name b pe) [⟨.Tuple [.Name a pa,.Name b pb] kk tp,iter,[.Compare (.BinOp (.Name a p1) .Mod (.Name cn p2) p3) [.Eq] [.Name jn p4] p5],0⟩] scope pos) 0 (.ref (n0+1)) (.ref (n0+2)) (compEnvC scope cl (n0+3) env))
   (RR (.ref (n0+2)) (n0+3)) {s with heap:=g2,toks:=s.toks+([]:List (Str×Value)).length}:=by
  refine kct_loop
   (CompI s aj L m base n0 l vs c j) ?_ (vs.length+1)
   ⟨g2,_,0,_,Nat.zero_le _,rfl,Vn.1,Vn.2.1,Vn.2.2,F.keeps old,hns,λp hp=>?_,rfl⟩
  ·rintro k s' ⟨h',tk,i,m',hi,rfl,he,hit,hls,F',hn',N',rfl⟩
   have hst:=And.intro he (And.intro hit hls)
   by_cases hlt':i<vs.length
   ·refine W.item i _ _ _ (by simpa using hlt') hst λT vals bk Ce hP _ hT hMid Jv=>?_
    obtain⟨t,v,hv,rfl⟩:=hP
    refine W.go _ _ _ i T _ _ _ hMid λbQ Aq Rz=>?_
    have hTw:=W.apart i T bk hMid
    have kp:∀q o,q≠n0+1->q≠n0->h'.get? q=some o->bQ.get? q=some o:=λq o q1 q2 e=>Rz q o (by simp[q1,q2]) (Jv q o (by simp[q1,q2]) e)
    refine kcp_assign (env:=compEnvC scope cl (n0+3) env) hh (hT.at λo e=>Rz T o hTw e) (lookup_relabel_local hxa) (lookup_relabel_local hxb) (by simp[compEnvC,relabel,hkind]) (hn'.at' λo e=>kp _ o (j4 (by omega)) (j4 (by omega)) e) λjD acA Dq vI=>?_
    have vI:∀(q:Addr) o,q≠n0+3->bQ.get? q=some o->jD.get? q=some o:=vI
    have kp4:∀q o,q≠n0+1->q≠n0->q≠n0+3->h'.get? q=some o->jD.get? q=some o:=λq o q1 q2 q3 e=>vI q o q3 (kp q o q1 q2 e)
    have kb:∀(q:Addr) o,@LT.lt Nat _ q n0->h'.get? q=some o->jD.get? q=some o:=λq o hq e=>kp4 q o (j4 (by omega)) (j4 (by omega)) (j4 (by omega)) e
    have aa0:Fr aj L jD m:=⟨F'.ns.at' λo e=>kb _ o hLlt e,λq o e=>kb q o (szF q o e) (F'.keep q o e),F'.above⟩
    have K1:News aj L jD ((n0+2,lst (fM c j 0 (vs.take i)))::base):=λp hp=>by
     refine⟨?_,(N' p hp).2⟩
     have z:=(N' p hp).1
     rcases List.mem_cons.mp hp with rfl|hp
     ·exact kp4 _ _ (j4 (by omega)) (j4 (by omega)) (j4 (by omega)) z
     ·exact kb _ _ (hlt p hp) z
    have qj:(∃old,IsEnum jD (n0+1) n0 ((i+1:Nat):Int) old)/\jD.IsListIter n0 l (i+1)/\jD.IsList l vs.toArray:=by
     exact⟨VH Aq.1 λUn q1=>⟨Un,vI _ _ (j4 (by omega)) q1⟩,Aq.2.1.at λo e=>vI _ o (j4 (by omega)) e,Aq.2.2.at λo e=>vI _ o (j4 (by omega)) e⟩
    have Te:vs.take (i+1)=vs.take i++[v]:=by
     rw[List.take_add_one]
     have:vs[i]? =some v:=by simpa using hv
     rw[this];rfl
    have hfl:fM c j 0 (vs.take (i+1))=fM c j 0 (vs.take i)++(match decide (Int.fmod (i:Int) c=j)with|true=>[v] |false=>[]):=by
     rw[Te,tW]
     have:(0:Int)+((vs.take i).length:Int)=(i:Int):=by rw[List.length_take];omega
     rw[this]
    have inC:∀{n:Str} {q:Addr} {o:Obj} {v:Value} {Q:Value->Shared->Prop} {E:Value->Shared->Prop} {tk:Nat} {pp:Pos},(q,o) ∈ base->o.data= .cell (some v)->cl.lookup n=some q->(∀Cc,(compEnvC scope cl Cc env).kindOf n=some .cell)->(n==("__debug__":Str))=false->Q v {s with heap:=jD,toks:=tk}->
      wpAny (model C.prog C.w) A (eval (.Name n pp) (compEnvC scope cl (n0+3) env)) Q E {s with heap:=jD,toks:=tk}:=λhm hd hc hk hdb hQ=>
     wpAny_Name (wpAny_loadName_cell (by show(relabel scope env).kind= .function;exact hkind) (hk _) hc ⟨_,(K1 _ (List.mem_cons_of_mem _ hm)).1,hd⟩ hQ) hdb
    have inA:∀{Q:Value->Shared->Prop} {E:Value->Shared->Prop} {tk:Nat} {pp:Pos},Q (.int (i:Int) t) {s with heap:=jD,toks:=tk}->wpAny (model C.prog C.w) A (eval (.Name a pp) (compEnvC scope cl (n0+3) env)) Q E {s with heap:=jD,toks:=tk}:=λhQ=>
     wpAny_Name (wpAny_loadName_local (by show(relabel scope env).kind= .function;exact hkind) (lookup_relabel_local hxa) Dq (by rw[if_neg hab,if_pos rfl]) hQ) hda
    have inB:∀{Q:Value->Shared->Prop} {E:Value->Shared->Prop} {tk:Nat} {pp:Pos},Q v {s with heap:=jD,toks:=tk}->wpAny (model C.prog C.w) A (eval (.Name b pp) (compEnvC scope cl (n0+3) env)) Q E {s with heap:=jD,toks:=tk}:=λhQ=>
     wpAny_Name (wpAny_loadName_local (by show(relabel scope env).kind= .function;exact hkind) (lookup_relabel_local hxb) Dq (by rw[if_pos rfl]) hQ) hdb
    refine wpAny_isTrue_Compare1 (wpAny_BinOp (inA (inC h1 hd1 hca hck hdc (DK (C:=C) (P:=0) (fz:=[]) (σ:=[]) (τ:=[]) (o:=.mod) (r:=.int (Int.fmod (i:Int) c)) (.v (.int _ _)) (.v (.int _ _)) (by show(match fQ c with|true=>_|false=>_)=_;rw[hc]) λxv tk' hx=>?_)))) hmk
    have hx0:=hx []
    cases hx0 with
    |int _ tx=>
    refine inC h2 hd2 hja hjk hdj (PySem.P.eq_int (wpAny_truthy_bool ?_))
    by_cases hdec:Int.fmod (i:Int) c=j
    rotate_left
    ·rw[decide_eq_false hdec]at hfl
     rw[beq_false_of_ne hdec]
     simp only[Bool.false_eq_true,if_false]
     refine⟨vs.length+1 - (i+1),by omega,⟨jD,_,i+1,_,hlt',rfl,qj.1,qj.2.1,qj.2.2,aa0,Dq,?_,rfl⟩⟩
     rw[hfl,List.append_nil]
     exact K1
    ·rw[decide_eq_true hdec]at hfl
     rw[beq_iff_eq.mpr hdec]
     simp only[if_true]
     refine inB ?_
     have zD:=(K1 (n0+2,lst (fM c j 0 (vs.take i))) (.head _)).1
     refine append_at (hsz:=by
      show(fM c j 0 (vs.take i)).toArray.size<=sizeLine
      rw[List.size_toArray]
      have:=vM c j (vs.take i) 0
      rw[List.length_take]at this
      rw[sizeLine_eq];omega) zD λZy Jt ZJ=>?_
     have kb5:∀q o,q≠n0+2->jD.get? q=some o->Zy.get? q=some o:=λq o hq e=>Jt.extBut q o hq e
     refine⟨vs.length+1 - (i+1),by omega,⟨Zy,_,i+1,_,hlt',rfl,?_,?_,?_,aa0.change Jt (j4 (by omega)) (oH _ (Nat.le_add_right _ _)),Dq.sameBut Jt (show @Ne Addr (n0+3) (n0+2)from j4 (by omega)),λp hp=>?_,rfl⟩⟩
     ·exact VH qj.1 λUn q1=>⟨Un,kb5 _ _ (j4 (by omega)) q1⟩
     ·exact qj.2.1.at λo e=>kb5 _ o (j4 (by omega)) e
     ·exact qj.2.2.at λo e=>kb5 _ o (j4 (by omega)) e
     ·rcases List.mem_cons.mp hp with rfl|hp
      ·rw[hfl]
       exact⟨ZJ.trans (congrArg some (lst_snoc _ v)),j4 (by omega),oH _ (Nat.le_add_right _ _)⟩
      ·exact⟨kb5 _ _ (j4 (by have:=hlt p hp;omega)) (K1 p (.tail _ hp)).1,(K1 p (.tail _ hp)).2⟩
   ·have hin:i=vs.length:=Nat.le_antisymm hi (Nat.not_lt.mp hlt')
    subst hin
    refine W.done _ _ _ (by simpa using hst) λbk Ce Jv=>?_
    have kp:∀q o,q≠n0+1->q≠n0->h'.get? q=some o->bk.get? q=some o:=λq o q1 q2 e=>Jv q o (by simp[q1,q2]) e
    have hN:News aj L bk ((n0+2,lst (fM c j 0 vs))::base):=λp hp=>by
     rw[List.take_length]at N'
     refine⟨?_,(N' p hp).2⟩
     have z:=(N' p hp).1
     rcases List.mem_cons.mp hp with rfl|hp
     ·exact kp _ _ (j4 (by omega)) (j4 (by omega)) z
     ·exact kp _ _ (j4 (by have:=hlt p hp;omega)) (j4 (by have:=hlt p hp;omega)) z
    exact hRR _ _ bk Ce _ ⟨F'.ns.at' λo e=>kp _ o (j4 (by omega)) (j4 (by omega)) e,λq o e=>kp q o (j4 (by have:=szF q o e;omega)) (j4 (by have:=szF q o e;omega)) (F'.keep q o e),F'.above⟩ hN
     (hn'.at' λo e=>kp _ o (j4 (by omega)) (j4 (by omega)) e) (oH _ (Nat.le_add_right _ _)) (j4 (by omega)) (j4 (by omega)) (λp hp=>Nat.lt_of_lt_of_le (hlt p hp) (Nat.le_add_right _ _)) (λp hp=>j4 (by have:=hlt p hp;omega)) (j4 (by omega))
  ·rcases List.mem_cons.mp hp with rfl|hp
   ·exact⟨hacc,j4 (by omega),oH _ (Nat.le_add_right _ _)⟩
   ·exact⟨old _ _ (N p hp).1,(N p hp).2⟩
 exact codeAny_compStart_list loop (wpAny_pyIter_enum (up _ _ (by omega) hE) loop)
end
end
section
open PyProof.V PyProof.Rows.LCg
variable {C:Cx}
theorem El {P:Addr}{fz:List (Addr×Obj)}(c j:Int){l:List AV}{vs:List Value}(h:dz C P fz l vs):∀i:Int,dz C P fz (spots c j i l) (fM c j i vs):=
 h.ind (λ_=>.nil) λ{a v as ws} h _ ih i=>by
  show dz C P fz (match decide (Int.fmod i c=j)with|true=>_|false=>_) (match decide (Int.fmod i c=j)with|true=>_|false=>_)
  cases decide (Int.fmod i c=j)
  ·exact ih _
  ·exact .cons h (ih _)
theorem vd (c j:Int):∀(l:List AV) (i:Int),(spots c j i l).length<=l.length
 |[],i=>Nat.le_refl _
 |a::r,i=>by
  have ih:=vd c j r (i+1)
  show(match decide (Int.fmod i c=j)with|true=>_|false=>_:List AV).length<=_
  cases decide (Int.fmod i c=j)
  ·simp only[List.length_cons];omega
  ·simp only[List.length_cons];omega
section
variable {P:Addr}{A aU:Around}{base aj:Heap}{outer:List Env}{env:Env}{L:Addr}{f₀:F0}{σ₀:List (Nat×Addr)}{T:Tb}{CF:fP}
 {st:AS}{tmp:List (AV×Value)}{s:Shared}{E:Value->Shared->Prop}{m:Str->Option Value}{σ τ:List (Nat×Addr)}{pm om fz:List (Addr×Obj)}
theorem bU.RW (X:bU C P aj L f₀ σ₀ st tmp s m σ τ pm om fz){k:Nat}{a:Addr}{i:Int}(h:(Mine.cellAt st k a).bind AV.gK=some i){G:Prop}(K:∀o t,(a,o) ∈ om->o.data= .cell (some (.int i t))->G):G:=
 bnd h λv hv hi=>bnd hv λc hc hv=>bnd hc λc0 h0 h1=>bnd hv λv' h2 hv=>by
  cases c0<;>first|exact jk h1|skip
  rename_i b w
  obtain rfl:=Option.some.inj h1
  obtain rfl:w=some v':=h2
  revert hi
  refine fL hv λhb hi=>X.own.at_ h0 λb' o g1 g2 g3=>?_
  obtain rfl:=Nat.eq_of_beq_eq_true hb
  cases g3 with
  |c1 g3 g4=>
   have g5:=LR.v (σ:=[]) (τ:=[]) g4
   revert g3
   exact g5.int_ hi λt g3=>K o t g2 g3
theorem bU.but (X:bU C P aj L f₀ σ₀ st tmp s m σ τ pm om fz){c:Addr}{h':Heap}{t:Nat}(hs:Heap.SameBut c s.heap h')(h1:c≠L)(h2:aj.get? c=none)(h3:∀p ∈ pm++(om++fz),p.1≠c):bU C P aj L f₀ σ₀ st tmp {s with heap:=h',toks:=t} m σ τ pm om fz:=
 ⟨X.fr.change hs h1 h2,λp hp=>⟨hs.extBut _ _ (h3 p hp) (X.nw p hp).1,(X.nw p hp).2⟩,X.nd,X.ak,X.par,X.own,X.tmp,X.gens,X.drawn,X.os,X.ff,X.ss,X.pf⟩
theorem J2 (Z:Act C A aU base aj outer env L){x k k':Nat}{a1 a2:Addr}{a b cn jn y en:Str}{pa pb tp p1 p2 p3 p4 p5 pe py np cp pos spos:Pos}{kk:Nat}{scope:Scope}{e:Expr}{ie:IE}{cl:List (Str×Addr)}
  (hy:y=C.nm x)(Xm:env.kindOf y=some .local)
  (hsw:swapsWith (.ListComp (.Name b pe) [⟨.Tuple [.Name a pa,.Name b pb] kk tp,.Call (.Name en np) [e] [] cp,[.Compare (.BinOp (.Name a p1) .Mod (.Name cn p2) p3) [.Eq] [.Name jn p4] p5],0⟩] scope pos) (some (.Name y py)) spos.line env=pure true)
  (hen:en="enumerate")(hn:nsIn C.K mainGlobals "enumerate"=some none)(hk:env.kindOf "enumerate"=some .globalImplicit)(ha:notStar e=true)
  (hclos:closureFor scope env=pure cl)(hcell:∀y ∈ scope.names,y.2≠.cell)(hkind:scope.kind= .function)(hnames:∀y ∈ scope.names,y.2= .local->scope.names.lookup y.1=some .local)
  (hxa:scope.names.lookup a=some .local)(hxb:scope.names.lookup b=some .local)(hab:¬a=b)
  (hca:cl.lookup cn=some a1)(hja:cl.lookup jn=some a2)(hck:∀Cc,(compEnvC scope cl Cc env).kindOf cn=some .cell)(hjk:∀Cc,(compEnvC scope cl Cc env).kindOf jn=some .cell)
  (hda:(a==("__debug__":Str))=false)(hdb:(b==("__debug__":Str))=false)(hdc:(cn==("__debug__":Str))=false)(hdj:(jn==("__debug__":Str))=false)(hmk:behindInMarks .Eq (.Name jn p4)=false)
  (ih:cu C (bf T CF) P A aj L f₀ σ₀ env e ie):
  j6 C (wp1 T CF) P A aj L f₀ σ₀ env (.Assign [.Name y py] (.ListComp (.Name b pe) [⟨.Tuple [.Name a pa,.Name b pb] kk tp,.Call (.Name en np) [e] [] cp,[.Compare (.BinOp (.Name a p1) .Mod (.Name cn p2) p3) [.Eq] [.Name jn p4] p5],0⟩] scope pos) spos) (.asg x (.lG ie k a1 k' a2)):=λst tmp s Q E R h S K=>by
 have hL:=Z.hL
 subst hL hen
 rw[exec_Assign_Name_used _ _ _ _ hsw]
 refine wpAny_bind (wpAny_standAt (wpAny_bind ?_))
 show wpAny _ A (do let _<-comprehension (.ListComp (.Name b pe) [⟨.Tuple [.Name a pa,.Name b pb] kk tp,.Call (.Name "enumerate" np) [e] [] cp,[.Compare (.BinOp (.Name a p1) .Mod (.Name cn p2) p3) [.Eq] [.Name jn p4] p5],0⟩] scope pos) scope env _ (newList []) false (eval (.Call (.Name "enumerate" np) [e] [] cp) env) (some (assign (.Name y py) env))) _ _ s
 refine wpAny_bind (wpAny_mono (wpAny_comprehension_free (use:=some (assign (.Name y py) env)) (Q:=λ_ s'=>R .next s') rfl (λx=>iC rfl env x) hclos hkind hnames ?_) (λ_ s' hq=>wpAny_pure (wpAny_pure hq)) λ_ _ e=>e)
 refine S.un λm σ τ pm om fz X=>rP (id:="enumerate") Z X.fr hn (by decide+kernel) (by decide) hk (by decide) (all1 ha) (gU ha (ih _ _ _ _ _ _ h S λu aR av bF aF S₁=>aQ aF λl hl aF=>aQ aF λc hcv aF=>aQ aF λj hjv aF=>gC aF λhsm aF=>S₁.un λm σ τ pm om fz X=>X.t0.Ae hl λvs D0 n0 hm hvs hlen=>?_))
 refine X.d1.RW hcv λo1 t1 hm1 hd1=>X.d1.RW hjv λo2 t2 hm2 hd2=>?_
 refine FJ Z.hh X.fr X.nw (List.mem_append_right _ (List.mem_append_right _ hm)) (by rw[<-hvs.length];exact hlen) (List.mem_append_right _ (List.mem_append_left _ hm1)) hd1 (List.mem_append_right _ (List.mem_append_left _ hm2)) hd2 hsm hcell hkind hxa hxb hab hca hja hck hjk hda hdb hdc hdj hmk
  λD Cc h' tk m' F' N' hns hC0 hCL hCD hD hCb hDL=>?_
 show wpAny _ A (assign (.Name y py) env (.ref D)) _ _ _
 refine wpAny_assign_Name (((X.d1.newF (t:=tk) F' N' hD).push (a:=.lst (spots c j 0 l)) (v:=.ref D) (.v (.lst (n:=(fM c j 0 vs).length) (.head _) ((El c j hvs 0).mono λq hq=>.tail _ hq) (Nat.le_trans (vd c j l 0) hlen)))).store Z hy Xm λbk Zb Ju X2=>?_)
 refine⟨m',hns.sameBut Ju hCL,λh'' hs''=>K .next _ ⟨_,aF,(X2.but (t:=tk+1) hs'' hCL hC0 λp hp=>?_).st⟩⟩
 simp only[List.mem_append,List.mem_cons]at hp
 rcases hp with hp|hp|hp|hp
 ·exact hCb p (List.mem_append_left _ hp)
 ·exact hCb p (List.mem_append_right _ (List.mem_append_left _ hp))
 ·subst hp;exact Ne.symm hCD
 ·exact hCb p (List.mem_append_right _ (List.mem_append_right _ hp))
end
end
section
open PyProof.V PySem.Spec
variable {C:Cx}
mutual
noncomputable def Kz:AV->PyData
 | .bool b=>.bool b
 | .int i=>.int i
 | .str s=>.str ⟨s.toArray⟩
 | .tup l=>.tuple (kj l)
 |_=>.none
noncomputable def kj:List AV->List PyData
 |[]=>[]
 |a::r=>Kz a::kj r
end
noncomputable def rz:Nat->AV->Bool
 |_,.none=>true
 |_,.bool _=>true
 |_,.str s=>s.all λc=>Nat.blt c 0x110000
 |n+1,.tup l=>l.all (rz n)
 |_,_=>false
section
variable {P:Addr}{fz news:List (Addr×Obj)}{aj h:Heap}{L:Addr}
theorem m8 {n:Nat}{a:AV}(h:rz n a=true)(h0:∀n,rz n a=false){G:Prop}:G:=jJ ((h0 n).symm.trans h)
theorem Kw (N:News aj L h news)(hs:∀q ∈ fz,q ∈ news){a:AV}{v:Value}(H:VR C P fz a v):∀n:Nat,rz n a=true->∃as,Reads h v (Kz a) as:=
 VR.rec (motive_1:=λa v _=>∀n:Nat,rz n a=true->∃as,Reads h v (Kz a) as) (motive_2:=λas vs _=>∀n:Nat,(∀a ∈ as,rz n a=true)->∃bs,ReadsAll h vs (kj as) bs) (motive_3:=λ_ _ _=>True)
  (λ_ _=>⟨_,Reads.none⟩) (λb _ _=>⟨_,Reads.bool b⟩) (λ_ _ _ hk=>m8 hk λn=>by cases n<;>rfl) (λs t b _ _=>⟨_,Reads.str _ t⟩) (λ_ hk=>m8 hk λn=>by cases n<;>rfl) (λ_ _ hk=>m8 hk λn=>by cases n<;>rfl) (λ_ _ hk=>m8 hk λn=>by cases n<;>rfl) (λ_ _ _ _ hk=>m8 hk λn=>by cases n<;>rfl)
  (λ{l vs a n} hm r _ ih k hk=>match k,hk with
   |k+1,hk=>VH (ih k (List.all_eq_true.mp hk)) λas q=>⟨as,reads_tuple_at (xs:=kj l) (N.get (hs _ hm)) rfl rfl (by simpa using q)⟩)
  (λ_ _ _ _ _ hk=>m8 hk λn=>by cases n<;>rfl) (λ_ _ _ _ _ hk=>m8 hk λn=>by cases n<;>rfl)
  (λ_ _=>⟨_,ReadsAll.nil⟩) (λ_ _ ih jh n hk=>VH (ih n (hk _ (.head _))) λx q=>VH (jh n λd hm=>hk d (.tail _ hm)) λy p=>⟨_,ReadsAll.cons q p⟩) ⟨⟩ (λ_ _ _ _=>⟨⟩) H
theorem vP (N:News aj L h news)(hs:∀q ∈ fz,q ∈ news){as:List AV}{vs:List Value}(n:Nat)(H:dz C P fz as vs):(∀a ∈ as,rz n a=true)->∃bs,ReadsAll h vs (kj as) bs:=
 H.ind (λ_=>⟨_,ReadsAll.nil⟩) λhd _ jh hk=>VH (Kw N hs hd n (hk _ (.head _))) λx q=>VH (jh λd hm=>hk d (.tail _ hm)) λy p=>⟨_,ReadsAll.cons q p⟩
end
theorem Wi:∀(n:Nat) (a:AV),rz n a=true->(Kz a).canLay0=true/\(Kz a).depth<=n/\PyData.eqv (Kz a) (Kz a)=true:=by
 have all:∀(n:Nat),(∀a,rz n a=true->(Kz a).canLay0=true/\(Kz a).depth<=n/\PyData.eqv (Kz a) (Kz a)=true)->∀as:List AV,(∀a ∈ as,rz n a=true)->PyData.canLayAll0 (kj as)=true/\PyData.depthAll (kj as)<=n/\PyData.eqvAll (kj as) (kj as)=true:=by
  intro n ih as
  induction as with
  |nil=>intro _;simp[kj,PyData.canLayAll0,PyData.depthAll,PyData.eqvAll]
  |cons d ds hi=>
   intro h
   have h1:=ih d (h d (.head _))
   have h2:=hi λe he=>h e (.tail _ he)
   simp only[kj,PyData.canLayAll0,PyData.depthAll,PyData.eqvAll,h1.1,h1.2.2,h2.1,h2.2.2,Bool.and_self,true_and,and_true]
   have a1:=h1.2.1
   have a2:=h2.2.1
   omega
 have base:∀(n:Nat) (s:List Nat),(s.all λc=>Nat.blt c 0x110000)=true->(PyData.str ⟨s.toArray⟩).canLay0=true/\(PyData.str ⟨s.toArray⟩).depth<=n/\PyData.eqv (PyData.str ⟨s.toArray⟩) (PyData.str ⟨s.toArray⟩)=true:=by
  intro n s hs
  refine⟨?_,Nat.zero_le _,by simp[PyData.eqv]⟩
  show PyData.strOk _=true
  unfold PyData.strOk
  simp only[List.all_toArray]
  rw[List.all_eq_true]at hs⊢
  intro c hc
  have:=hs c hc
  rw[decide_eq_true_eq]
  unfold Nat.blt at this
  exact Nat.le_of_ble_eq_true this
 intro n
 induction n with
 |zero=>
  intro a h
  cases a with
  |none=>exact⟨rfl,Nat.le_refl _,rfl⟩
  |bool b=>exact⟨rfl,Nat.le_refl _,by cases b<;>rfl⟩
  |str s=>exact base 0 s h
  |_=>exact nomatch h
 |succ n ih=>
  intro a h
  cases a with
  |none=>exact⟨rfl,Nat.zero_le _,rfl⟩
  |bool b=>exact⟨rfl,Nat.zero_le _,by cases b<;>rfl⟩
  |str s=>exact base (n+1) s h
  |tup l=>
   have q:=all n ih l (List.all_eq_true.mp h)
   have q2:=q.2.1
   refine⟨q.1,?_,q.2.2⟩
   show(PyData.tuple (kj l)).depth<=n+1
   simp only[PyData.depth]
   omega
  |_=>exact nomatch h
section
variable {P:Addr}{A aU:Around}{base aj:Heap}{outer:List Env}{env:Env}{L:Addr}{f₀:F0}{σ₀:List (Nat×Addr)}{T:Tb}{CF:fP}
 {st:AS}{tmp:List (AV×Value)}{s:Shared}{E:Value->Shared->Prop}
theorem T7 (Z:Act C A aU base aj outer env L)(hu:A.units+64<cLine)(S:St C P aj L f₀ σ₀ st tmp s){x y k:Nat}{nx ny:Str}{p1 p2 p3 p4:Pos}{l:List AV}
  (hx:nx=C.nm x)(hlx:env.kindOf nx=some .local)(hdx:(nx==("__debug__":Str))=false)(hy:ny=C.nm y)(Xm:env.kindOf ny=some .local)(hdy:(ny==("__debug__":Str))=false)
  (gx:get x st.ak=some (.own k))(go:get k st.own=some (.l l))(gy:get y st.ak=some (.lst l))(hok:∀a ∈ l,rz 3 a=true)(hmk:behindInMarks .Eq (.Name ny p2)=false){Q:Flow->Shared->Prop}
  (hQ:∀t,St C P aj L f₀ σ₀ st tmp {s with toks:=t}->Q (.ret (.bool true)) {s with toks:=t}):
  wpAny (model C.prog C.w) A (exec (.Return (some (.Compare (.Name nx p1) [.Eq] [.Name ny p2] p3)) p4) env) Q E s:=by
 obtain⟨m,σ,τ,pm,om,fz,X⟩:=id S
 subst hx hy
 obtain⟨u,hu1,hr1⟩:=X.ak _ _ gx
 obtain⟨v,hv1,hr2⟩:=X.ak _ _ gy
 obtain⟨b',o,q1,q2,q3⟩:=X.own.at go
 cases hr1 with
 |v hr1=>cases hr1
 |own hr1=>
 rw[q1]at hr1
 cases hr1
 cases q3 with
 | @l _ vs n hvs hlen=>
 cases hr2 with|v hr2=>cases hr2 with
 | @lst _ us D n' hm hus hlen'=>
 obtain⟨as,ra⟩:=vP (fz:=fz) X.nw (λq hq=>List.mem_append_right _ (List.mem_append_right _ hq)) 3 hvs hok
 obtain⟨bs,rb⟩:=vP (fz:=fz) X.nw (λq hq=>List.mem_append_right _ (List.mem_append_right _ hq)) 3 hus hok
 have zx:=(X.nw _ (List.mem_append_right _ (List.mem_append_left _ q2))).1
 have zy:=(X.nw _ (List.mem_append_right _ (List.mem_append_right _ hm))).1
 have la:=Wi 4 (.tup l) (List.all_eq_true.mpr hok)
 have sh:SeqAt.shaped (.list (kj l))=true:=by
  have l1:PyData.canLayAll0 (kj l)=true:=la.1
  have l2:(PyData.tuple (kj l)).depth<=4:=la.2.1
  simp only[PyData.depth]at l2
  unfold SeqAt.shaped
  have:(PyData.list (kj l)).canLay0=true:=l1
  rw[this,Bool.true_and]
  refine decide_eq_true ?_
  simp only[PyData.depth]
  omega
 refine wpAny_Return_some ?_
 refine wpAny_Compare1 (wpAny_Name (wpAny_loadName_local Z.hk hlx (Z.hL▸X.fr.ns) hu1 (wpAny_Name (wpAny_loadName_local Z.hk Xm (Z.hL▸X.fr.ns) hv1 ?_) hdy)) hdx) hmk
 refine eq_dataH (reads_list_at zx rfl rfl (by simpa [W.listOf]using ra)) (reads_list_at zy rfl rfl (by simpa [W.listOf]using rb)) sh sh hu ?_
 have e:PyData.eqv (.list (kj l)) (.list (kj l))=true:=la.2.2
 rw[e]
 exact hQ s.toks S
end
end
section
open PyProof.V
theorem O4:lB=(lB.take 11++nT 11::(lB.drop 12).take 2)++nT 14::((lB.drop 15).take 2++[nT 17]):=by kernel_rfl
theorem Zo:∃p1 p2 p3 p5 b p4,nT 11= .For (.Name (Str.ofString "j") p1) (.Call (.Name (Str.ofString "range") p2) [.Name (Str.ofString "count") p5] [] p3) b [] p4:=⟨_,_,_,_,_,_,rfl⟩
theorem Vc:∃p1 p2 p3 p4 p5,nT 14= .Assign [.Name (Str.ofString "parser") p1] (.Call (.Name (Str.ofString "Parser") p2) [.Name (Str.ofString "text") p3] [] p4) p5:=⟨_,_,_,_,_,rfl⟩
theorem Zn:∃p1 p2 p3 p4,nT 17= .Return (some (.Compare (.Name (Str.ofString "got") p1) [.Eq] [.Name (Str.ofString "due") p2] p3)) p4:=⟨_,_,_,_,rfl⟩
noncomputable def Wa:Scope:=match(Vu (nT 11))with
 |Stmt.Assign _ (.ListComp _ _ sc _) _::_=>sc
 |_=>default
noncomputable def cSl:Expr:=match(Vu (nT 11))with
 |Stmt.Assign _ (.ListComp _ [⟨_,.Call _ [e] _ _,_,_⟩] _ _) _::_=>e
 |_=>default
theorem Vd:∃py pe pa pb kk tp np cp p1 p2 p3 p4 p5 pos spos,Vu (nT 11)= .Assign [.Name (Str.ofString "tape") py] (.ListComp (.Name (Str.ofString "n") pe) [⟨.Tuple [.Name (Str.ofString "spot") pa,.Name (Str.ofString "n") pb] kk tp,.Call (.Name (Str.ofString "enumerate") np) [cSl] [] cp,[.Compare (.BinOp (.Name (Str.ofString "spot") p1) .Mod (.Name (Str.ofString "count") p2) p3) [.Eq] [.Name (Str.ofString "j") p4] p5],0⟩] Wa pos) spos::(Vu (nT 11)).drop 1/\(py.line==pos.line)=true:=
 ⟨_,_,_,_,_,_,_,_,_,_,_,_,_,_,_,rfl,by kernel_rfl⟩
theorem abz:(jG jY DD2 lN xJ false 20).1 cSl (.nO (.ak 199) (.aA (.int 1)) (.bin .add (.aA (.int 1)) (.ak 202)))=true:=by kernel_rfl
theorem abC:(jG jY DD2 lN xJ false 20).1 (.Name (Str.ofString "count") default) (.jV 301 1587)=true:=by kernel_rfl
theorem O5:Wa.names=[(Str.ofString ".0",.local),(Str.ofString "spot",.local),(Str.ofString "n",.local),(Str.ofString "count",.free),(Str.ofString "j",.free)]:=by kernel_rfl
theorem abA:Wa.kind= .function:=by kernel_rfl
end
section
open PyProof.V
noncomputable def lCc:List (Str×Addr):=[(Str.ofString "j",1588),(Str.ofString "count",1587)]
noncomputable abbrev cD (q:Str) (fa:Addr) (cdv:Value):Env:=envX q (pI (H.tS 62)) 1586 fa cdv xJ
theorem KD {α β:Type}{R:α->β->Prop}{a a':List α}{b b':List β}(h:fZ R a b)(h':fZ R a' b'):fZ R (a++a') (b++b'):=by
 induction h with
 |nil=>exact h'
 |cons x _ ih=>exact .cons x ih
theorem Lz {elt:Expr}{gens:List Comprehension}{scope:Scope}{pos py:Pos}{y:Str}{ln:Nat}{env:Env}(h1:(env.blockKind== .function&&env.kindOf y==some .local)=true)(h2:(py.line==pos.line)=true)(h3:(scope.names.any λ(n,k)=>n==y&&(k== .local||k== .cell))=false):
  swapsWith (.ListComp elt gens scope pos) (some (.Name y py)) ln env=pure true:=by
 show(pure (env.blockKind== .function&&env.kindOf y==some .local&&py.line==pos.line&& !(scope.names.any λ(n,k)=>n==y&&(k== .local||k== .cell))):Sem Bool)=_
 rw[h1,h2,h3]
 rfl
section
variable {w:World}{x:Ext}{P:Addr}{A aU:Around}{base aj:Heap}{outer:List Env}{CF:fP}{q:Str}{fa:Addr}{cdv:Value}{ff:List (Addr×Obj)}
theorem k_y:((cD q fa cdv).blockKind== .function&&(cD q fa cdv).kindOf (Str.ofString "tape")==some .local)=true:=by kernel_rfl
theorem Zq:(Wa.names.any λ(n,k)=>n==Str.ofString "tape"&&(k== .local||k== .cell))=false:=by kernel_rfl
theorem Ve:closureFor Wa (cD q fa cdv)=pure lCc:=by kernel_rfl
theorem abD (Cc:Addr):(compEnvC Wa lCc Cc (cD q fa cdv)).kindOf (Str.ofString "count")=some .cell:=by kernel_rfl
theorem abB (Cc:Addr):(compEnvC Wa lCc Cc (cD q fa cdv)).kindOf (Str.ofString "j")=some .cell:=by kernel_rfl
theorem U8 (Z:Act (CC w x) A aU base aj outer (cD q fa cdv) 1586)(CO:∀f₀ σ₀,f₀.p=[]->d7 (CC w x) TT CF P A aj 1586 f₀ σ₀)(rm:A.depth+1<recursionLimit):
  Gr (CC w x) TT CF DD2 P A aU base aj outer (cD q fa cdv) 1586 lN xJ false:=⟨Z,rfl,rfl,GX w x,λ_=>CO,rm⟩
theorem rN {f₀:F0}{σ₀:List (Nat×Addr)}(G:Gr (CC w x) TT CF DD2 P A aU base aj outer (cD q fa cdv) 1586 lN xJ false)(hp:f₀.p=[]){b:List Stmt}{ib:List IS}(h:dX (qp jY DD2 lN xJ 20 false (qU jY DD2 lN xJ 20 20)) b ib=true):
  fZ (j6 (CC w x) (wp1 TT CF) P A aj 1586 f₀ σ₀ (cD q fa cdv)) b ib:=
 cH (xW G (λb ib h f₀ σ₀ hp=>rO 20 20 _ G b ib h f₀ σ₀ hp) (λb ib h f₀ σ₀=>rO 20 20 _ G.toPure b ib h f₀ σ₀ (.inl rfl)) (.inr hp)) h
theorem I3 {f₀:F0}{σ₀:List (Nat×Addr)}(G:Gr (CC w x) TT CF DD2 P A aU base aj outer (cD q fa cdv) 1586 lN xJ false)(hp:f₀.p=[]):
  fZ (j6 (CC w x) (wp1 TT CF) P A aj 1586 f₀ σ₀ (cD q fa cdv)) (Vu (nT 11)) (.asg 174 (.lG (.nO (.ak 199) (.aA (.int 1)) (.bin .add (.aA (.int 1)) (.ak 202))) 301 1587 302 1588)::Fi):=by
 obtain⟨py,pe,pa,pb,kk,tp,np,cp,p1,p2,p3,p4,p5,pos,spos,he,hl⟩:=Vd
 rw[he]
 refine .cons ?_ (rN G hp k_R)
 refine J2 G.Z rfl (by kernel_rfl) (Lz k_y hl Zq) rfl (tabs_ok w x).b6 (by kernel_rfl) (by kernel_rfl) Ve (by rw[O5];decide) abA (by rw[O5];decide) (by rw[O5];rfl) (by rw[O5];rfl) (by decide) rfl rfl abD abB (by decide) (by decide) (by decide) (by decide) rfl ?_
 exact(pW (f₀:=f₀) (σ₀:=σ₀) G (.inr hp) 20).1 _ _ abz
end
end
section
open PyProof.V
noncomputable def nx (M:AS->Prop):PS:=λo st=>o= .next/\M st
theorem yS {C:Cx}{P:Addr}{A:Around}{aj:Heap}{L:Addr}{f₀:F0}{σ₀:List (Nat×Addr)}{T:Tb}{CF:fP}{env:Env}{E:Value->Shared->Prop}{tmp:List (AV×Value)}{b':List Stmt}{Q:Flow->Shared->Prop}{M:AS->Prop}:
  ∀{b:List Stmt} {ib:List IS},fZ (j6 C (wp1 T CF) P A aj L f₀ σ₀ env) b ib->∀{st:AS} {s:Shared},wpS T CF ib st (nx M)->St C P aj L f₀ σ₀ st tmp s->(∀st' s',M st'->St C P aj L f₀ σ₀ st' tmp s'->wpAny (model C.prog C.w) A (execs b' env) Q E s')->
   wpAny (model C.prog C.w) A (execs (b++b') env) Q E s:=by
 intro b ib H
 induction H with
 |nil=>exact λh S k=>k _ _ h.2 S
 |cons h1 _ ih=>exact λh S k=>wpAny_execs_cons (h1 _ _ _ _ E _ h S λfl aR aF=>match fl,aF with
  | .next,⟨_,aF,S₁⟩=>ih aF S₁ k
  | .brk,⟨_,aF,_⟩=>nomatch aF.1
  | .ret _,⟨_,_,aF,_⟩=>nomatch aF.1)
section
variable {w:World}{x:Ext}{P:Addr}{A aU:Around}{base aj:Heap}{outer:List Env}{CF:fP}{q:Str}{fa:Addr}{cdv:Value}{ff:List (Addr×Obj)}{E:Value->Shared->Prop}
theorem IW (G:Gr (CC w x) TT CF DD2 P A aU base aj outer (cD q fa cdv) 1586 lN xJ false):
  fZ (j6 (CC w x) (wp1 TT CF) P A aj 1586 ⟨ff,[]⟩ [] (cD q fa cdv)) (lB.take 11++nT 11::(lB.drop 12).take 2) (I6++I4::I5):=by
 refine KD (rN G rfl k_A) (.cons ?_ (rN G rfl k_B))
 obtain⟨p1,p2,p3,p5,b,p4,he⟩:=Zo
 have hb:Vu (nT 11)=b:=by rw[he];rfl
 rw[he]
 refine oM G.Z (tabs_ok w x).b5 (by kernel_rfl) rfl (λfz bL=>u6 G.Z (.c rfl (by kernel_rfl)) (.inl rfl)) (λfz bL=>?_) ?_
 ·rw[<-hb]
  exact JT (I3 G rfl)
 ·exact(pW (f₀:=⟨ff,[]⟩) (σ₀:=[]) G (.inr rfl) 20).1 _ _ abC
noncomputable def xu (CF:fP) (st0:AS):Prop:=wpS TT CF (I6++I4::I5) st0 (nx λst=>∃wd par',st.par=none/\(st.ak.all λq=>nS q.2)=true/\(st.own.all λq=>Od q.2)=true/\get 205 st.ak=some (.str wd)/\
 CF 107 [.self,.str wd] (some ⟨[],[]⟩) (λr p=>r= .none/\p=some par')/\
 wpS TT CF U9 (aK {st with par:=some par'} 209 .self) (nx λst=>∃l,get 210 st.ak=some (.own 304)/\get 304 st.own=some (.l l)/\get 206 st.ak=some (.lst l)/\∀a ∈ l,rz 3 a=true))
theorem abk:makesIn (H.KL w.params) 1521=true:=by kernel_rfl
theorem abo:findIn (H.KL w.params) (.ref 1521) "__init__"=some (some (.ref ((get 107 qT).getD 0))):=by kernel_rfl
theorem abn:typeIn (H.KL w.params) (.ref ((get 107 qT).getD 0))=some (.type "function"):=by kernel_rfl
theorem abl:keepIn (H.KL w.params) (.ref 1521)=true:=by kernel_rfl
theorem abm:nsIn (H.KL w.params) mainGlobals (Str.ofString "Parser")=some (some (.ref 1521)):=by kernel_rfl
theorem Ow (Z:Act (CC w x) A aU base aj outer (cD q fa cdv) 1586)(hu:A.units+64<cLine)
  (CO:∀(A':Around) (P:Addr),A'.frames=A.frames->A'.handled=A.handled->A'.depth<=A.depth+1->∀f₀ σ₀,f₀.p=[]->d7 (CC w x) TT CF P A' aj 1586 f₀ σ₀)(rm:A.depth+1<recursionLimit)
  {st0:AS}{s:Shared}(S:St (CC w x) P aj 1586 ⟨ff,[]⟩ [] st0 [] s)(habs:xu CF st0):
  wpAny (model H.pw w) A (execs lB (cD q fa cdv)) (λfl s'=>fl= .ret (.bool true)/\∃st P',St (CC w x) P' aj 1586 ⟨ff,[]⟩ [] st [] s') E s:=by
 have G:∀P,Gr (CC w x) TT CF DD2 P A aU base aj outer (cD q fa cdv) 1586 lN xJ false:=λP=>U8 Z (λf₀ σ₀ hp=>CO A P rfl rfl (Nat.le_succ _) f₀ σ₀ hp) rm
 rw[O4]
 refine yS (C:=CC w x) (IW (G P)) habs S λst aR hM S₁=>?_
 obtain⟨wd,par',hp,h1,h2,h3,h4,h5⟩:=hM
 obtain⟨p1,p2,p3,p4,p5,he⟩:=Vc
 rw[he]
 refine wpAny_execs_cons (PL (C:=CC w x) (T:=TT) (CF:=CF) (E:=E) (x:=209) (t:=205) (nx:=Str.ofString "parser") (nt:=Str.ofString "text") Z S₁ hp h1 h2 (f:=107) rfl (b:=[(0,.self),(3,.str wd)]) (wd:=wd) rfl abk abo abn abl (λA' P e1 e2 e3=>CO A' P e1 e2 (Nat.le_of_eq e3) _ _ rfl) h4 rfl (by kernel_rfl) rfl (by kernel_rfl) (by decide) abm (by kernel_rfl) (by decide) h3 λP' bY S₂=>?_)
 refine yS (C:=CC w x) (rN (G P') rfl k_C) h5 S₂ λkO gZ hM fY=>?_
 obtain⟨l,g1,g2,g3,g4⟩:=hM
 obtain⟨p1,p2,p3,p4,he⟩:=Zn
 rw[he]
 refine wpAny_execs_cons (T7 (C:=CC w x) (x:=210) (y:=206) (nx:=Str.ofString "got") (ny:=Str.ofString "due") Z hu fY rfl (by kernel_rfl) (by decide) rfl (by kernel_rfl) (by decide) g1 g2 g3 g4 rfl λt aav=>⟨rfl,_,P',aav⟩)
end
end
noncomputable def Sg (l:List Nat):Prop:=∀c ∈ l,c ∈ signs
theorem Sg.app {a b:List Nat}(h:Sg a)(h':Sg b):Sg (a++b):=λc hc=>by
 rcases List.mem_append.mp hc with hc|hc
 ·exact h c hc
 ·exact h' c hc
theorem Sg.cons {a:Nat}{b:List Nat}(h:a ∈ signs)(h':Sg b):Sg (a::b):=λc hc=>by
 rcases List.mem_cons.mp hc with rfl|hc
 ·exact h
 ·exact h' c hc
theorem ig {l:List Nat}(h:(l.all λc=>signs.any (Nat.beq c ·))=true):Sg l:=λc hc=>by
 have:=List.all_eq_true.mp h c hc
 obtain⟨y,hy,e⟩:=List.any_eq_true.mp this
 rw[Nat.eq_of_beq_eq_true e];exact hy
theorem kW {L:List (List Nat)}(h:(L.all λl=>l.all λc=>signs.any (Nat.beq c ·))=true){l:List Nat}(hl:l ∈ L):Sg l:=ig (List.all_eq_true.mp h l hl)
section
variable {e p l:List Nat}
theorem Yk (he:Sg e)(hp:Sg p)(hl:Sg l)(b:Bool)(k:Nat):Sg (gT e p l b k):=by
 cases b with
 |false=>
  match k with
  |0=>exact ig rfl
  |1=>exact(hl.app he).app hp
  |2=>exact(((hl.app he).app hp).app he).app hp
  |3=>exact((((hl.app he).app hp).app he).app he).app hp
  |4=>exact ig rfl
  |5=>exact(hl.app (ig rfl)).app hp
  |_+6=>exact λc hc=>nomatch hc
 |true=>
  match k with
  |0=>exact(hl.app he).app hp
  |1=>exact(Sg.app (a:=[32,92]) (ig rfl) he).app hp
  |2=>exact(Sg.app (a:=[92,110,92]) (ig rfl) he).app hp
  |3=>exact(((((hl.app he).app hp).app hl).app he).app he).app hp
  |4=>exact ig rfl
  |5=>exact ig rfl
  |_+6=>exact(Sg.app (a:=[92]) (ig rfl) he).app hp
theorem M9 {w:List Nat}(h:w ∈ words∨w=[])(b:Bool):Sg (esc b w):=by
 rcases h with h|rfl
 ·cases b with
  |false=>exact kW (L:=words.map (esc false)) rfl (List.mem_map_of_mem h)
  |true=>exact kW (L:=words.map (esc true)) rfl (List.mem_map_of_mem h)
 ·exact λc hc=>nomatch hc
theorem HD (he:Sg e)(hp:Sg p)(hl:Sg l)(b:Bool):∀its:List (Nat×List Nat),(∀i ∈ its,i.2 ∈ words∨i.2=[])->Sg (txt e p l b its)
 |[],_=>λc hc=>nomatch hc
 |i::its,h=>(Yk he hp hl b i.1).app ((M9 (h i (.head _)) b).app (HD he hp hl b its λj hj=>h j (.tail _ hj)))
theorem Tz {k:List Nat×List Nat×Option (List Nat)}(h:k ∈ mJ):Sg k.1:=kW (L:=mJ.map (·.1)) rfl (List.mem_map_of_mem h)
theorem Nf (he:Sg e){x:List Nat}(h:x ∈ jq e):Sg x:=by
 unfold jq at h
 simp only[List.mem_cons,List.not_mem_nil,or_false]at h
 rcases h with rfl|rfl|rfl
 ·exact ig rfl
 ·exact ig rfl
 ·exact he.app (ig rfl)
theorem TF {fl:Bool}{cnt:Int}{dJ:List (List Nat)}(hc:Cfg fl cnt e dJ)(he:Sg e){x:List Nat}(h:x ∈ dJ):Sg x:=by
 rcases hc with⟨_,_,rfl⟩ |⟨_,_,rfl⟩
 ·unfold qW at h
  simp only[List.mem_cons,List.not_mem_nil,or_false]at h
  rcases h with rfl|rfl|rfl
  ·exact ig rfl
  ·exact Sg.app (a:=[44]) (ig rfl) he
  ·exact Sg.app (a:=[32,44,32,35,39,34]) (ig rfl) he
 ·unfold pY at h
  simp only[List.mem_cons,List.not_mem_nil,or_false]at h
  rcases h with rfl|rfl|rfl
  ·exact he
  ·exact Sg.app (a:=[32,35,39,34]) (ig rfl) he
  ·exact he.app he
theorem aa9 {fl:Bool}{cnt:Int}{dJ:List (List Nat)}{k:Nat}{x:PD}(hc:Cfg fl cnt e dJ)(he:Sg e)(hp:Sg p)(hl:Sg l)(X:PX e dJ fl cnt k x):Sg (x.t e p l):=by
 have hq:qt x.b ∈ signs:=by cases x.b<;>decide
 have hb:Sg x.bh:=by
  rcases X.bh with h|⟨h,_⟩
  ·exact TF hc he h
  ·rw[h];exact λc hc=>nomatch hc
 exact(Tz X.ok.1).app (.cons (by decide) ((Nf he X.ok.2.1).app (.cons hq ((HD he hp hl x.b x.its X.wd).app (.cons hq hb)))))
theorem DN {fl:Bool}{cnt:Int}{dJ:List (List Nat)}(hc:Cfg fl cnt e dJ)(he:e.length<=2){x:List Nat}(h:x ∈ dJ):x.length<=10:=by
 rcases hc with⟨_,_,rfl⟩ |⟨_,_,rfl⟩
 ·unfold qW at h
  simp only[List.mem_cons,List.not_mem_nil,or_false]at h
  rcases h with rfl|rfl|rfl<;>(try simp only[List.length_append,List.length_cons,List.length_nil])<;>omega
 ·unfold pY at h
  simp only[List.mem_cons,List.not_mem_nil,or_false]at h
  rcases h with rfl|rfl|rfl<;>(try simp only[List.length_append,List.length_cons,List.length_nil])<;>omega
theorem GZ {fl:Bool}{cnt:Int}{dJ:List (List Nat)}{k:Nat}{x:PD}(hc:Cfg fl cnt e dJ)(he:e.length<=2)(hp:p.length<=2)(hl:l.length<=1)(X:PX e dJ fl cnt k x):(x.t e p l).length<=110:=by
 have w3:∀i ∈ x.its,i.2.length<=3:=λi hi=>by
  rcases X.wd i hi with h|h
  ·exact(kJ _ h).2.2
  ·rw[h];exact Nat.zero_le _
 have h1:=lR he hp hl x.b x.its w3
 have h2:=X.kl
 have h3:=X.bl
 have h4:=X.il
 have h5:x.bh.length<=10:=by
  rcases X.bh with h|⟨h,_⟩
  ·exact DN hc he h
  ·rw[h];exact Nat.zero_le _
 show(x.kt++58::(x.bt++qt x.b::(txt e p l x.b x.its++qt x.b::x.bh))).length<=110
 simp only[List.length_append,List.length_cons]
 omega
end
theorem Nz {s:List Nat}(h:(s.all λc=>Nat.blt c 0x110000)=true)(n:Nat):rz n (.str s)=true:=by cases n<;>exact h
theorem Tw {s:List Nat}(h:Sg s):(s.all λc=>Nat.blt c 0x110000)=true:=by
 rw[List.all_eq_true]
 intro c hc
 have:∀c ∈ signs,Nat.blt c 0x110000=true:=by decide
 exact this c (h c hc)
theorem Q9:∀its:List (Nat×List Nat),(∀i ∈ its,i.2 ∈ words∨i.2=[])->Sg (vl its)
 |[],_=>λc hc=>nomatch hc
 |i::its,h=>by
  have hm:Sg (gM i.1):=by
   match i.1 with
   |0=>exact ig rfl
   |1=>exact ig rfl
   |2=>exact ig rfl
   |3=>exact ig rfl
   |4=>exact ig rfl
   |5=>exact ig rfl
   |_+6=>exact λc hc=>nomatch hc
  have hw:Sg i.2:=by
   rcases h i (.head _)with h|h
   ·exact kW (L:=words) rfl h
   ·rw[h];exact λc hc=>nomatch hc
  exact hm.app (hw.app (Q9 its λj hj=>h j (.tail _ hj)))
theorem Rk {v:List Nat}{pl:Bool}{sty:Option (List Nat)}(hv:Sg v)(hs:rz 2 (xR sty)=true):rz 3 (aV v pl sty)=true:=by
 show(rz 2 (.str [118,97,108,117,101])&&(rz 2 .none&&(rz 2 .none&&(rz 2 (.tup [.bool pl,.bool (!pl)])&&(rz 2 (.str v)&&(rz 2 (xR sty)&&true))))))=true
 rw[Nz (Tw hv),hs]
 rfl
theorem Uo {k:List Nat×List Nat×Option (List Nat)}(h:k ∈ mJ):Sg k.2.1/\rz 2 (xR k.2.2)=true:=by
 refine⟨kW (L:=mJ.map λk=>k.2.1) rfl (List.mem_map_of_mem (f:=λk:List Nat×List Nat×Option (List Nat)=>k.2.1) h),?_⟩
 unfold mJ at h
 simp only[List.mem_cons,List.not_mem_nil,or_false]at h
 rcases h with rfl|rfl|rfl|rfl|rfl<;>rfl
theorem Uq {e:List Nat}{fl:Bool}{cnt:Int}{dJ:List (List Nat)}{k:Nat}{x:PD}(X:PX e dJ fl cnt k x):∀a ∈ x.due,rz 3 a=true:=by
 intro a ha
 have hk:=Uo X.ok.1
 rcases List.mem_cons.mp ha with rfl|ha
 ·exact Rk hk.1 hk.2
 ·rw[List.mem_singleton]at ha
  subst ha
  exact Rk (Q9 x.its X.wd) (by cases x.b<;>rfl)
theorem Ro (S:PZ)(b:Bool)(ev:AV):get 115 (S.pb b ev).at_=none:=by cases b<;>rfl
theorem Lq {CF:fP}{st:AS}{f:Nat}{e:IE}{R:PE}(h:bf TT CF e st λv st=>gW TT CF f [v] [] st R):bf TT CF (.cU f [e]) st R:=h
theorem Q8 {st:AS}{k:Nat}{xs:List AV}(h:get k st.own=some (.l xs)):qO st (.own k)=some xs:=by
 show(get k st.own).bind Cont.lO=_
 rw[h]
 rfl
theorem Y7 (S:PZ)(b:Bool)(ev:AV):get 116 (S.pb b ev).at_=none:=by cases b<;>rfl
section
variable {n:Nat}{CF:fP}{st:AS}{Q:PE}{p:cF}
theorem xG {x f:Nat}{i:FI}{bs:List (Nat×AV)}{us:List AV}(h1:get x st.ak=some .self)(h2:st.par=some p)(h3:get f p.at_=none)(hf:TT.FT f=some i)(hb:binds i.ps i.ds [.self] []=some bs)(hu:bs.map (·.2)=us)
  (hc:CF f us (some p) (λr par=>Q r {st with par:=par})):bf TT CF (.jz x f) st Q:=by
 have e:qw st x f=true:=by
  unfold qw nP
  rw[h1]
  show(match st.par with|some p=>(match get f p.at_ with|some _=>false|none=>true) |none=>false)=true
  rw[h2]
  show(match get f p.at_ with|some _=>false|none=>true)=true
  rw[h3]
 refine dg e (dg rfl (aO hf (aO hb ?_)))
 rw[hu,h2]
 exact hc
end
theorem Rq {n:Nat}{R:PS}{due:AV}{yd:List AV}:∀(rest acc:List AV) (b:Bool) (S:PZ) (st:AS),Run rest b S->st.par=some (S.pb b .none)->get 209 st.ak=some .self->get 210 st.ak=some (.own 304)->get 304 st.own=some (.l acc)->get 206 st.ak=some due->acc++rest=yd->yd.length<=1000->
  (∀a ∈ rest,a.clo=true)->(∀st',get 210 st'.ak=some (.own 304)->get 304 st'.own=some (.l yd)->get 206 st'.ak=some due->R .next st')->
  wp1 TT (CO (n+26)) (.whl (.cmp .Le (.jz 209 115) (.aA .none)) [.app (.ak 210) (.cU 181 [(.jz 209 116)])]) st R
 |[],acc,b,S,st,hr,h1,h2,h3,h4,h5,h6,h7,h8,hQ=>by
  intro P hP
  refine hP _ ?_
  dsimp only
  refine La ?_
  refine xG (i:=⟨[0],[],jX⟩) (bs:=[(0,.self)]) (us:=[.self]) h2 h1 (Ro S b .none) rfl rfl rfl ?_
  refine Xa hr ?_
  have:acc=yd:=by rw[<-h6,List.append_nil]
  subst this
  exact hQ _ h3 h4 h5
 |a::rest,acc,b,S,st,hr,h1,h2,h3,h4,h5,h6,h7,h8,hQ=>by
  intro P hP
  refine hP _ ?_
  dsimp only
  refine La ?_
  obtain⟨Spec,hc,hs⟩:=hr
  refine xG (i:=⟨[0],[],jX⟩) (bs:=[(0,.self)]) (us:=[.self]) h2 h1 (Ro S b .none) rfl rfl rfl ?_
  refine hc n _ λc fs b' S' hsp=>?_
  obtain⟨ht,hr'⟩:=hs c fs b' S' hsp
  show wpS TT (CO (n+26)) [.app (.ak 210) (.cU 181 [(.jz 209 116)])] _ _
  refine aL (uY ?_)
  refine(Ev.ak (CF:=CO (n+26)) (st:={st with par:=some (S'.pb b' (.inst c fs))}) h3) _ ?_
  refine dg (lX (Q8 h4)) (Lq ?_)
  refine xG (i:=⟨[0],[],qH⟩) (bs:=[(0,.self)]) (us:=[.self]) h2 rfl (Y7 S' b' (.inst c fs)) rfl rfl rfl ?_
  refine aaW (n:=n+25) ?_
  refine dg rfl (aO (a:=⟨[119],[],qI⟩) rfl (aO (a:=[(119,.inst c fs)]) rfl ?_))
  refine ht (n+25) _ _ ?_
  refine fX (d:=.own 304) (v:=a) (xs:=acc) (st:={st with par:=some (S'.pb b' .none)}) (st':={{st with par:=some (S'.pb b' .none)}with own:=put 304 (.l (acc++[a])) st.own}) (Q8 h4) (h8 a (.head _)) (by
   rw[<-h6]at h7
   simp only[List.length_append,List.length_cons,List.length_nil]at h7⊢
   omega) rfl ?_
  refine(show wpS TT (CO (n+26)) [] _ _ from bV ?_)
  refine Rq rest (acc++[a]) b' S' {{st with par:=some (S'.pb b' .none)}with own:=put 304 (.l (acc++[a])) st.own} hr' rfl h2 h3 gqo h5 (by rw[List.append_assoc];exact h6) h7 (λx hx=>h8 x (.tail _ hx)) hQ P hP
theorem v9 {o:Option AS}{st:AS}{Q:AS->Prop}(h:o=some st)(hQ:Q st):pick o Q:=by rw[h];exact hQ
theorem Ev.cat {CF:fP}{st:AS}{a b:IE}{k:Nat}{xs ys:List AV}(ha:Ev CF a st (.own k))(hs:get k st.own=some (.l xs))(hb:Ev CF b st (.lst ys))(hl:xs.length+ys.length<=1000):Ev CF (.cat a b) st (.lst (xs++ys)):=λQ hQ=>by
 have e1:tL st (.own k)=some xs:=by
  show(get k st.own).bind Cont.lO=_
  rw[hs]
  rfl
 exact ha _ (hb _ (aO e1 (dg (Nat.ble_eq.mpr hl) hQ)))
section
variable {n:Nat}{f:Int}{fl:Bool}{cnt mo:Int}{ns:List Int}{e pd l:List Nat}{dJ:List (List Nat)}{j:Option AV}{tx:List Nat}{du:List AV}{st:AS}{R:PS}
theorem LS.cell {i:Int}{DG:List (List Nat)}(W:LS st f fl cnt mo ns e pd l dJ DG j tx du):LS {st with own:=put 302 (.c 1588 (some (.int i))) st.own} f fl cnt mo ns e pd l dJ DG (some (.int i)) tx du:=
 ⟨W.par,W.g1,W.g2,W.g3,W.g4,W.g5,W.g6,W.g7,W.g8,W.g9,W.ga,W.gb,(Xp (by decide)).trans W.o1,(Xp (by decide)).trans W.o2,gqo,(Xp (by decide)).trans W.o4,W.n1,mq (P:=Od) (v:=.c 1588 (some (.int i))) rfl W.n2⟩
theorem LS.bind {i:Int}{DG:List (List Nat)}(W:LS st f fl cnt mo ns e pd l dJ DG j tx du):oW st [.c 302 1588] (.int i)=some {st with own:=put 302 (.c 1588 (some (.int i))) st.own}:=by
 show setCell st 302 1588 (.int i)=_
 unfold setCell
 rw[W.o3]
 rfl
noncomputable def QB (e:List Nat) (dJ:List (List Nat)) (fl:Bool) (cnt:Int):Nat->List PD->Prop
 |_,[]=>True
 |k,x::ps=>PX e dJ fl cnt k x/\QB e dJ fl cnt (k+1) ps
theorem abe (hc:Cfg fl cnt e dJ)(hmo:1<=mo/\mo<=3)(he:e ∈ ends)(hp:pd ∈ pads)(hl:l ∈ leads)(W:LS st f fl cnt mo ns e pd l dJ (jq e) none (hd0 fl) [aS,aD,aM fl])
  (hQ:∀ps st' j,((cnt=1/\∃x y,ps=[x,y])∨(fl=false/\∃x y z u,ps=[x,y,z,u]))->QB e dJ fl cnt 0 ps->LS st' f fl cnt mo ns e pd l dJ (jq e) j (hd0 fl++gj e pd l ps) ([aS,aD,aM fl]++kh ps)->R .next st'):wp1 TT (CO (n+2)) I4 st R:=by
 have he2:=oO he
 have hp2:=yj hp
 have hl1:=vC hl
 have Pa:dJ.length=3:=by rcases hc with⟨_,_,rfl⟩ |⟨_,_,rfl⟩<;>rfl
 have Lf:∀x ∈ dJ,x.length<=10:=λx hx=>DN hc he2 hx
 have ZF:cnt=1∨cnt=2:=by rcases hc with⟨_,h,_⟩ |⟨_,h,_⟩<;>omega
 have hhd:(hd0 fl).length<=1:=by cases fl<;>decide
 unfold I4
 refine Gw ?_
 refine Ev.jV (v:=.int cnt) (by unfold cellAt;rw[W.o2];rfl) _ ?_
 have QM:∀{R:PS},(∀x y st',x.b=false->y.b=true->PX e dJ fl cnt 0 x->PX e dJ fl cnt 1 y->LS st' f fl cnt mo ns e pd l dJ (jq e) (some (.int 0)) (hd0 fl++gj e pd l [x,y]) ([aS,aD,aM fl]++kh [x,y])->R .next st')->
   wpS TT (CO (n+2)) (.asg 174 (.lG (.nO (.ak 199) (.aA (.int 1)) (.bin .add (.aA (.int 1)) (.ak 202))) 301 1587 302 1588)::Fi) {st with own:=put 302 (.c 1588 (some (.int 0))) st.own} R:=λhR=>
  outer (ps:=[]) (hd:=hd0 fl) ZF hmo he2 hp2 hl1 Pa Lf W.cell rfl (Nat.zero_le _) (List.append_nil _).symm (by omega) λx y st' h1 h2 h3 h4 V=>hR x y st' h1 h2 h3 h4 V
 rcases ZF with rfl|rfl
 ·refine aO (a:=[.int 0]) rfl (And.intro rfl (v9 W.bind ?_))
  exact QM λx y st' h1 h2 h3 h4 V=>hQ [x,y] st' _ (.inl ⟨rfl,x,y,rfl⟩) ⟨h3,h4,trivial⟩ V
 ·have hfl:fl=false:=hc.elim (λh=>absurd h.2.1 (by decide)) λh=>h.1
  refine aO (a:=[.int 0,.int 1]) rfl (And.intro rfl (v9 W.bind ?_))
  refine QM λx y st' h1 h2 h3 h4 V=>?_
  refine And.intro rfl (v9 V.bind ?_)
  have t1:=GZ (p:=pd) (l:=l) hc he2 hp2 hl1 h3
  have t2:=GZ (p:=pd) (l:=l) hc he2 hp2 hl1 h4
  refine outer (ps:=[x,y]) (hd:=hd0 fl) (.inr rfl) hmo he2 hp2 hl1 Pa Lf V.cell rfl (Nat.le_of_ble_eq_true rfl) rfl (by
   show(hd0 fl++(x.t e pd l++(y.t e pd l++[]))).length<=2000
   simp only[List.length_append,List.length_nil]
   omega) λz u st'' h5 h6 h7 h8 V=>?_
  exact hQ [x,y,z,u] st'' _ (.inr ⟨hfl,x,y,z,u,rfl⟩) ⟨h3,h4,h7,h8,trivial⟩ V
end
theorem QB.all {e:List Nat}{dJ:List (List Nat)}{fl:Bool}{cnt:Int}:∀{k:Nat} {ps:List PD},QB e dJ fl cnt k ps->∀x ∈ ps,∃k,PX e dJ fl cnt k x
 |_,[],_,_,h=>nomatch h
 |k,y::ps,h,x,hx=>by
  rcases List.mem_cons.mp hx with rfl|hx
  ·exact⟨k,h.1⟩
  ·exact QB.all h.2 x hx
theorem HF {e p l:List Nat}:∀ps:List PD,(∀x ∈ ps,Sg (x.t e p l))->Sg (gj e p l ps)
 |[],_=>λc hc=>nomatch hc
 |x::ps,h=>(h x (.head _)).app (HF ps λy hy=>h y (.tail _ hy))
theorem Dh {e p l:List Nat}:∀ps:List PD,(∀x ∈ ps,(x.t e p l).length<=110)->(gj e p l ps).length<=110*ps.length
 |[],_=>Nat.le_refl _
 |x::ps,h=>by
  have h1:=h x (.head _)
  have h2:=Dh ps λy hy=>h y (.tail _ hy)
  show(x.t e p l++gj e p l ps).length<=_
  simp only[List.length_append,List.length_cons]
  omega
theorem Cp {e:List Nat}(h:e ∈ ends):Sg e:=kW (L:=ends) rfl h
theorem Nb {e:List Nat}(h:e ∈ pads):Sg e:=kW (L:=pads) rfl h
theorem HJ {e:List Nat}(h:e ∈ leads):Sg e:=kW (L:=leads) rfl h
theorem CN {e:List Nat}{dJ:List (List Nat)}{fl:Bool}{cnt:Int}:∀{k:Nat} {ps:List PD},QB e dJ fl cnt k ps->∀a ∈ kh ps,rz 3 a=true
 |_,[],_,_,h=>nomatch h
 |k,y::ps,h,a,ha=>by
  rcases List.mem_append.mp ha with ha|ha
  ·exact Uq h.1 a ha
  ·exact CN h.2 a ha
theorem zj:∀ps:List PD,∀a ∈ kh ps,a.clo=true
 |[],_,h=>nomatch h
 |x::ps,a,ha=>by
  rcases List.mem_append.mp ha with ha|ha
  ·rcases List.mem_cons.mp ha with rfl|ha
   ·rfl
   ·rw[List.mem_singleton]at ha
    subst ha
    rfl
  ·exact zj ps a ha
noncomputable def mU (e:List Nat):Bool->List Nat
 |true=>[125]++e
 |false=>[]
theorem IV {fl:Bool}{cnt:Int}{e pd l:List Nat}{dJ:List (List Nat)}{ps:List PD}(hc:Cfg fl cnt e dJ)(he:e ∈ ends)(hp:pd ∈ pads)(hl:l ∈ leads)(hps:(cnt=1/\∃x y,ps=[x,y])∨(fl=false/\∃x y z u,ps=[x,y,z,u]))(X:QB e dJ fl cnt 0 ps):
  let w:=(hd0 fl++gj e pd l ps)++mU e fl
  Sg w/\w.length<=999/\Run (([aS,aD,aM fl]++kh ps)++[aE,aX,aZ]) false (Z0 w):=by
 intro w
 have he2:=oO he
 have hp2:=yj hp
 have hl1:=vC hl
 have hx:∀x ∈ ps,Sg (x.t e pd l)/\(x.t e pd l).length<=110/\PD.ok e x:=λx hx=>by
  obtain⟨k,X⟩:=QB.all X x hx
  exact⟨aa9 hc (Cp he) (Nb hp) (HJ hl) X,GZ hc he2 hp2 hl1 X,X.ok⟩
 have hlen:=Dh (e:=e) (p:=pd) (l:=l) ps λx h=>(hx x h).2.1
 have hn:ps.length<=4:=by rcases hps with⟨_,x,y,rfl⟩ |⟨_,x,y,z,u,rfl⟩<;>exact Nat.le_of_ble_eq_true rfl
 have hw:w.length<=999:=by
  have h1:(hd0 fl).length<=1:=by cases fl<;>decide
  have h2:(mU e fl).length<=3:=by
   cases fl with
   |true=>show([125]++e).length<=3;simp only[List.length_append,List.length_cons,List.length_nil];omega
   |false=>exact Nat.zero_le _
  show((hd0 fl++gj e pd l ps)++mU e fl).length<=999
  simp only[List.length_append]
  omega
 refine⟨((Sg.app (by cases fl<;>exact ig rfl) (HF ps λx h=>(hx x h).1)).app ?_),hw,?_⟩
 ·cases fl with
  |true=>exact Sg.app (a:=[125]) (ig rfl) (Cp he)
  |false=>exact λc hc=>nomatch hc
 ·have e1:([aS,aD,aM fl]++kh ps)++[aE,aX,aZ]=aS::aD::aM fl::told (ps.map PD.kv):=by
   rw[uZ];simp
  rw[e1]
  rcases hc with⟨rfl,rfl,rfl⟩ |⟨rfl,_,rfl⟩
  ·obtain⟨x,y,rfl⟩:∃x y,ps=[x,y]:=by
    rcases hps with⟨_,x,y,rfl⟩ |⟨h,_⟩
    ·exact⟨x,y,rfl⟩
    ·exact absurd h (by decide)
   have hb1:x.bh ∈ qW e:=by
    rcases X.1.bh with h|⟨_,_,h⟩
    ·exact h
    ·exact absurd h (by decide)
   have hb2:y.bh ∈ qW e∨y.bh=[]:=by
    rcases X.2.1.bh with h|⟨h,_,_⟩
    ·exact .inl h
    ·exact .inr h
   have ew:w=123::(gj e pd l [x,y]++125::e):=by
    show(([123]++gj e pd l [x,y])++([125]++e))=_
    simp
   rw[ew]at hw⊢
   exact JM he hp hl (λz hz=>(hx z hz).2.2) ⟨hb1,hb2⟩ (Nat.le_of_ble_eq_true rfl) hw
  ·have ew:w=gj e pd l ps:=by
    show([]++gj e pd l ps)++[]=_
    simp
   have hb:∀x ∈ ps,x.bh ∈ pY e:=λx hx=>by
    obtain⟨k,X⟩:=QB.all X x hx
    rcases X.bh with h|⟨_,h,_⟩
    ·exact h
    ·exact absurd h (by decide)
   have hbs:∀(ps:List PD) (h:List Nat),h ∈ pY e->(∀x ∈ ps,x.bh ∈ pY e)->Qt e h ps:=by
    intro ps
    induction ps with
    |nil=>exact λh hh _=>hh
    |cons x ps ih=>exact λh hh hx=>⟨hh,ih x.bh (hx x (.head _)) λy hy=>hx y (.tail _ hy)⟩
   rw[ew]at hw⊢
   cases ps with
   |nil=>rcases hps with⟨_,x,y,h⟩ |⟨_,x,y,z,u,h⟩<;>exact nomatch h
   |cons x ps=>exact FQ he hp hl (λz hz=>(hx z hz).2.2) (hbs ps x.bh (hb x (.head _)) λy hy=>hb y (.tail _ hy)) hw
theorem Ox (ns:List Int):xu (Ef TT 42) (st0 ns):=by
 rw[<-zO]
 unfold xu
 rw[gY]
 refine T6 (n:=41) λf fl cnt mo e pd l dJ st hc hmo he hp hl W=>?_
 refine(show wpS TT (CO 42) (I4::I5) st _ from aL ?_)
 refine abe (n:=40) hc hmo he hp hl W λps st j hps X V=>?_
 obtain⟨hsg,hlen,hrun⟩:=IV hc he hp hl hps X
 have he2:=oO he
 have hn:ps.length<=4:=by rcases hps with⟨_,x,y,rfl⟩ |⟨_,x,y,z,u,rfl⟩<;>exact Nat.le_of_ble_eq_true rfl
 have hdl:=yX ps
 have et:Ev (CO 42) (.ite (.ak 200) (.bin .add (.aA (.str [125])) (.ak 168)) (.aA (.str []))) st (.str (mU e fl)):=by
  have g3:=V.g3
  cases fl with
  |true=>exact Ev.tO (Ev.ak g3) rfl (Ev.aA.add (Ev.ak V.g5) (by simp only[List.length_cons,List.length_nil];omega))
  |false=>exact Ev.pO (Ev.ak g3) rfl Ev.aA
 refine(show wpS TT (CO 42) I5 st _ from dY ((Ev.ak V.ga).add et (by rw[<-List.length_append];omega)) ?_)
 have V1:=V.text (u:=(hd0 fl++gj e pd l ps)++mU e fl)
 generalize aK st 205 (.str ((hd0 fl++gj e pd l ps)++mU e fl))=st at V1⊢
 refine dY (v:=.lst (([aS,aD,aM fl]++kh ps)++[aE,aX,aZ])) (Ev.cat (Ev.ak V1.gb) V1.o1 (Ev.lst (.cons (Ev.tup (.cons Ev.aA .nil) rfl) (.cons (Ev.tup (.cons Ev.aA (.cons Ev.aA .nil)) rfl) (.cons (Ev.tup (.cons Ev.aA .nil) rfl) .nil))) rfl) (by simp only[List.length_append,List.length_cons,List.length_nil];omega)) (bV ⟨rfl,?_⟩)
 have hns:vB (([aS,aD,aM fl]++kh ps)++[aE,aX,aZ])=true:=tD V1.due rfl
 refine⟨(hd0 fl++gj e pd l ps)++mU e fl,(Z0 ((hd0 fl++gj e pd l ps)++mU e fl)).au .none,V1.par,mq (P:=nS) (v:=.lst (([aS,aD,aM fl]++kh ps)++[aE,aX,aZ])) hns V1.n1,V1.n2,(gp (by decide)).trans V1.ga,aaY (n:=37) hsg hlen ⟨rfl,rfl⟩,?_⟩
 have hown:fresh 304 (aK {aK st 206 (.lst (([aS,aD,aM fl]++kh ps)++[aE,aX,aZ]))with par:=some ((Z0 ((hd0 fl++gj e pd l ps)++mU e fl)).au .none)} 209 .self)=true:=by
  unfold fresh
  show(match get 304 st.own with|some _=>false|none=>true)=true
  rw[V1.o4]
 unfold U9
 refine aL ?_
 refine dg hown ?_
 refine aL ?_
 refine Rq (n:=16) (due:=.lst (([aS,aD,aM fl]++kh ps)++[aE,aX,aZ])) (yd:=([aS,aD,aM fl]++kh ps)++[aE,aX,aZ]) (([aS,aD,aM fl]++kh ps)++[aE,aX,aZ]) [] false (Z0 ((hd0 fl++gj e pd l ps)++mU e fl)) _ hrun rfl ((gp (by decide)).trans gq) gq rfl ((gp (by decide)).trans ((gp (by decide)).trans gq)) rfl (by simp only[List.length_append,List.length_cons,List.length_nil];omega) ?_ λst' g1 g2 g3=>?_
 ·intro a ha
  rcases List.mem_append.mp ha with ha|ha
  ·rcases List.mem_append.mp ha with ha|ha
   ·have:∀a ∈ [aS,aD,aM fl],a.clo=true:=by
     intro a ha
     simp only[List.mem_cons,List.not_mem_nil,or_false]at ha
     rcases ha with rfl|rfl|rfl<;>rfl
    exact this a ha
   ·exact zj ps a ha
  ·simp only[List.mem_cons,List.not_mem_nil,or_false]at ha
   rcases ha with rfl|rfl|rfl<;>rfl
 ·refine bV ⟨rfl,_,g1,g2,g3,?_⟩
  intro a ha
  rcases List.mem_append.mp ha with ha|ha
  ·rcases List.mem_append.mp ha with ha|ha
   ·simp only[List.mem_cons,List.not_mem_nil,or_false]at ha
    rcases ha with rfl|rfl|rfl<;>rfl
   ·exact CN X a ha
  ·simp only[List.mem_cons,List.not_mem_nil,or_false]at ha
   rcases ha with rfl|rfl|rfl<;>rfl
section
open PyProof.V
noncomputable def pE:Program:={H.pw with main:={H.pw.main with body:=[.Import [⟨Str.ofString "sys",none,default⟩] default]}}
theorem CK:recsOf pE=[]:=rfl
theorem Ny:ownsOf pE=[]:=rfl
theorem Ul (x:Str):valOf pE x=none:=rfl
theorem Um:importsNone pE=false:=by kernel_rfl
theorem KIn (P:Params):Frag.In (H.KL P) (H.H1 P):=Frag.in_of (as:=(H.KL P).map (·.1)) rfl (by kernel_rfl)
theorem QL (P:Params):(H.H1 P).objs.size=1585:=by kernel_rfl
end
section
open PyProof.V
theorem Gb {args:List WData}(h:PySem.Challenge.rw_te0013_01.row.toRowW.claim.pre args=true):∃ns:List Int,args=[.list (ns.map .int)]/\ns.length<=63:=by
 obtain⟨h1,h2⟩:=pre_splitW h
 obtain⟨d,r,rfl,h3,h4⟩:=hasAllW_cons h1
 have:=hasAllW_nil h4
 subst this
 obtain⟨xs,rfl,h5⟩:=hasW_list h3
 obtain⟨ns,rfl⟩:=items_int h5
 refine⟨ns,rfl,?_⟩
 delta PySem.Challenge.rw_te0013_01 OpenLaw.row OpenLaw.pre at h2
 simp[WTm.holds,WTm.value]at h2
 have e:less? (WData.int 63) (WData.int ns.length)=some (decide ((63:Int)<ns.length)):=rfl
 rw[e]at h2
 by_cases q:(63:Int)<ns.length
 ·rw[decide_eq_true q]at h2
  exact nomatch h2
 ·omega
theorem lay_ints {R:WRecords}{cl:Str->Option Addr}{P:Params}{ord:List DictEntry->List DictEntry}{C:Cx}:∀(ns:List Int) (s:Shared),∃vs,layAllW R cl P ord (ns.map .int) s=some (vs,{s with toks:=s.toks+ns.length})/\∀Q,dz C Q [] (ns.map AV.int) vs
 |[],s=>⟨[],rfl,λ_=>.nil⟩
 |n::ns,s=>by
  obtain⟨vs,h1,h2⟩:=lay_ints (R:=R) (cl:=cl) (P:=P) (ord:=ord) (C:=C) ns {s with toks:=s.toks+1}
  refine⟨.int n s.toks::vs,?_,λQ=>.cons (.int _ _) (h2 Q)⟩
  show(match layAllW R cl P ord (ns.map .int) {s with toks:=s.toks+1}with|some r=>some (Value.int n s.toks::r.1,r.2) |none=>none)=_
  rw[h1]
  have:s.toks+1+ns.length=s.toks+(n::ns).length:=by simp only[List.length_cons];omega
  show some (Value.int n s.toks::vs,({s with toks:=s.toks+1+ns.length}:Shared))=_
  rw[this]
theorem Fj {R:WRecords}{w:World}{iV aR:Shared}{ns:List Int}{vals:List Value}{as:List Addr}{C:Cx}(h:Laid R w iV aR [.list (ns.map .int)] vals as):
  ∃vs,vals=[.ref iV.heap.objs.size]/\(∀Q,dz C Q [] (ns.map AV.int) vs)/\aR={iV with toks:=iV.toks+ns.length,heap:=iV.heap.push (listOf vs.toArray 0)}:=by
 obtain⟨ord,_,he⟩:=h.laid
 obtain⟨vs,h1,h2⟩:=lay_ints (R:=R) (cl:=classAt iV.heap) (P:=w.params) (ord:=ord) (C:=C) ns iV
 have e:layAllW R (classAt iV.heap) w.params ord [.list (ns.map .int)] iV=some ([.ref iV.heap.objs.size],{iV with toks:=iV.toks+ns.length,heap:=iV.heap.push (listOf vs.toArray 0)}):=by
  show(match(match layAllW R (classAt iV.heap) w.params ord (ns.map .int) iV with
   |some r=>some (Value.ref r.2.heap.objs.size,({r.2 with heap:=r.2.heap.push {cls:=.type "list",data:=.seq r.1.toArray}}:Shared))
   |none=>none)with|some a=>some ([a.1],a.2) |none=>none)=_
  rw[h1]
 rw[e]at he
 cases he
 exact⟨vs,rfl,h2,rfl⟩
theorem Gz {p:Program}{loose:List Str}{mean:ExcName->Option Value}{mg mb:Str->Option Value}{h:Heap}(T:Top p loose mean mg mb h){a:Addr}{vs:Array Value}{n:Nat}(ha:h.get? a=some (listOf vs n)):
  Top pE (loose++(recsOf p).map (·.name)++(litsOf p).map (·.1)++(clssOf p loose).map (·.name)) mean mg mb (hideAll h [a]):=by
 have ns:∀{b:Addr} {m:Str->Option Value},h.Ns b m->(hideAll h [a]).Ns b m:=by
  rintro b m ⟨o,es,ep,e,hd,r⟩
  refine⟨o,es,ep,hideAll_get _ e ?_,hd,r⟩
  intro hb
  rw[List.mem_singleton]at hb
  subst hb
  rw[ha]at e
  cases e
  exact nomatch hd
 refine⟨ns T.g,ns T.b,?_,?_,?_,?_,?_,?_,T.builtins,?_,?_,?_⟩
 ·obtain⟨mc,h1,h2⟩:=T.nolimit
  exact⟨mc,ns h1,h2⟩
 ·obtain⟨mc,h1,h2⟩:=T.nodigits
  exact⟨mc,ns h1,h2⟩
 ·intro d hd
  rw[CK]at hd
  exact nomatch hd
 ·intro d hd
  rw[Ny]at hd
  exact nomatch hd
 ·intro x d hd
  rw[Ul]at hd
  exact nomatch hd
 ·intro x h1 h2 _ _ _
  simp only[List.mem_append,not_or]at h2
  exact T.free x h1 h2.1.1.1 h2.1.1.2 h2.1.2 h2.2
 ·intro d hd
  rw[CK]at hd
  exact nomatch hd
 ·obtain⟨bm,ob,h1,h2,h3,h4,h5⟩:=T.bmain
  refine⟨bm,ob,h1,h2,hideAll_get _ h3 ?_,h4,h5⟩
  intro hb
  rw[List.mem_singleton]at hb
  subst hb
  rw[ha]at h3
  cases h3
  exact absurd (Value.type.inj h4) (by decide)
 ·intro h
  rw[Um]at h
  exact nomatch h
theorem aa8 (P:Params):((H.H1 P).get? sysModules).isSome=true:=by kernel_rfl
theorem enter (habs:∀ns:List Int,ns.length<=63->xu (Ef TT 42) (st0 ns)):WalkX H.vw H.loose (λ_ _=>True) H.Yf H.Ya PySem.Challenge.rw_te0013_01.row.toRowW H.iH [] λf vs=>PySem.call f vs:=by
 intro w iV aR mg mb G hY a o pm cd doc dV kV ho hd hcd hdf hmg hgens args vals as hlaid hpre hlay hrd acB hsm
 obtain⟨ns,rfl,hlen⟩:=Gb hpre
 have hY:iV.heap=H.H1 w.params:=hY
 have hs:iV.heap.objs.size=1585:=by rw[hY];exact QL _
 let lo:List Str:=looseW H.vw H.loose
 let x:Ext:=⟨pE,lo++(recsOf H.vw).map (·.name)++(litsOf H.vw).map (·.1)++(clssOf H.vw lo).map (·.name),ExcName.means iV.heap,mg,mb,#[],aR.drawn,aR.os⟩
 obtain⟨vs,rfl,hvs,hs1⟩:=Fj (C:=CC w x) hlaid
 rw[hs]
 have hget:aR.heap.get? 1585=some (listOf vs.toArray 0):=by
  rw[hs1,<-hs]
  exact Heap.get?_push_size _ rfl
 have hsz:aR.heap.objs.size=1586:=by
  rw[hs1]
  show(iV.heap.push _).objs.size=1586
  rw[Heap.size_push,hs]
 have hdV:dV= .none:=by
  rcases hdf.pos with h|h
  ·exact h.2
  ·exact absurd rfl h.1
 have hkV:kV= .none:=by
  rcases hdf.kw with h|h
  ·exact h.2
  ·exact absurd rfl h.1
 subst hdV hkV
 have T:=Gz G.T hget
 let g:=hideAll aR.heap [1585]
 have sg:∀b o,iV.heap.get? b=some o->g.get? b=some o:=λb o e=>hideAll_get _ (hlaid.keeps b o e) (by
  intro hb
  rw[List.mem_singleton]at hb
  subst hb
  have:=Heap.lt_size e
  rw[hs]at this
  exact absurd this (Nat.lt_irrefl _))
 have hkd:∀y ∈ [(Str.ofString "script",Value.ref 1585)],H.iH.scope.names.lookup y.1=some .local∨(H.iH.scope.names.lookup y.1=some .cell/\((cellsFrom (aR.heap.objs.size+1) H.iH.scope.names []).lookup y.1).isSome=true):=by
  intro y hy
  rw[List.mem_singleton]at hy
  subst hy
  exact .inl (by kernel_rfl)
 have hnd:((cellsFrom 0 H.iH.scope.names []).map (·.1)).Nodup:=by
  have e:(cellsFrom 0 H.iH.scope.names []).map (·.1)=[Str.ofString "j",Str.ofString "count"]:=by kernel_rfl
  rw[e]
  decide
 refine wpAny_call (call_cellsN_ret (prog:=H.pw) (w:=w) (by decide) ho hd G.T.nolimit hcd (binds:=[(Str.ofString "script",.ref 1585)]) (by kernel_rfl) hkd hnd ?_ (by kernel_rfl) (by kernel_rfl) (by kernel_rfl))
 intro aF tk cells F N Y
 rw[hsz]at F N Y⊢
 have henv:envOfC H.iH.name H.iH.scope 1586 a cd=cD (Str.ofString "law") a cd:=by kernel_rfl
 have hbody:H.iH.body=lB:=by kernel_rfl
 have hcl:cellsFrom (1586+1) H.iH.scope.names []=[(Str.ofString "j",1588),(Str.ofString "count",1587)]:=by kernel_rfl
 have Y':CellsAre (bindC (cD (Str.ofString "law") a cd).kindOf [(Str.ofString "script",Value.ref 1585)] λ_=>none) [(Str.ofString "j",1588),(Str.ofString "count",1587)] cells:=by
  rw[<-henv,<-hcl]
  exact Y
 have F':Fr aR.heap 1586 aF (bindL (cD (Str.ofString "law") a cd).kindOf [(Str.ofString "script",Value.ref 1585)] λ_=>none):=by
  rw[<-henv]
  exact F
 clear Y F
 have F:=F'
 show wpAny (model H.pw w) (callerA.deeper (envOfC H.iH.name H.iH.scope 1586 a cd)) (execs H.iH.body (envOfC H.iH.name H.iH.scope 1586 a cd)) _ _ _
 rw[henv,hbody]
 obtain⟨o1,o2,rfl,hd1,hd2⟩:=Y'.two
 have hd1:o1.data= .cell none:=hd1.trans (by kernel_rfl)
 have hd2:o2.data= .cell none:=hd2.trans (by kernel_rfl)
 have Fg:Fr g 1586 aF _:=⟨F.ns,λb o e=>F.keep b o (of_hideAll _ e),Nat.le_of_eq ((hideAll_size _ _).trans hsz)⟩
 have Ng:News g 1586 aF [(1588,o1),(1587,o2),(1585,listOf vs.toArray 0)]:=by
  intro p hp
  have old:∀p ∈ [((1588:Addr),o1),(1587,o2)],aF.get? p.1=some p.2/\p.1≠1586/\g.get? p.1=none:=by
   intro p hp
   refine⟨(N p hp).1,(N p hp).2.1,?_⟩
   cases e:g.get? p.1 with
   |none=>rfl
   |some o'=>
    have:=of_hideAll _ e
    rw[(N p hp).2.2]at this
    cases this
  rcases List.mem_cons.mp hp with rfl|hp
  ·exact old _ (.head _)
  ·rcases List.mem_cons.mp hp with rfl|hp
   ·exact old _ (.tail _ (.head _))
   ·rw[List.mem_singleton]at hp
    subst hp
    exact⟨F.keep _ _ hget,(show @Ne Nat 1585 1586 from by decide),hideAll_none _ (.head _)⟩
 have Z:Act (CC w x) (callerA.deeper (cD (Str.ofString "law") a cd)) callerA g g [] (cD (Str.ofString "law") a cd) 1586:=
  ⟨below_caller g,(hY▸KIn w.params:Frag.In (H.KL w.params) iV.heap).keeps sg,T,Around.frames_deeper rfl,rfl,rfl,rfl,rfl,by kernel_rfl,rfl,(by
   have:=aa8 w.params
   rw[<-hY]at this
   obtain⟨o,ho⟩:=Option.isSome_iff_exists.mp this
   rw[sg _ _ ho];rfl),by kernel_rfl⟩
 have S:St (CC w x) 0 g 1586 ⟨[(1585,listOf vs.toArray 0)],[]⟩ [] (st0 ns) [] {aR with heap:=aF,toks:=tk}:=by
  refine⟨_,[],[(302,1588),(301,1587)],[],[(1588,o1),(1587,o2)],[(1585,listOf vs.toArray 0)],⟨Fg,Ng,(show List.Nodup ([1588,1587,1585]:List Nat)from by decide),?_,.none rfl,.cons (.c0 hd1) (.cons (.c0 hd2) .nil),(λq hq=>nomatch hq),hgens,rfl,rfl,λ_ h=>h,(λk a e=>nomatch e),(λq hq=>nomatch hq)⟩⟩
  intro y av e
  have hy:y=199/\av= .lst (ns.map .int):=by
   unfold st0 at e
   dsimp only[get]at e
   cases q:Nat.beq 199 y with
   |true=>
    rw[q]at e
    cases e
    exact⟨(Nat.eq_of_beq_eq_true q).symm,rfl⟩
   |false=>
    rw[q]at e
    exact nomatch e
  obtain⟨rfl,rfl⟩:=hy
  exact⟨.ref 1585,by kernel_rfl,.v (.lst (.head _) ((hvs 0).mono λq hq=>absurd hq (List.not_mem_nil)) (by rw[List.length_map];omega))⟩
 have CO:∀(A':Around) (P:Addr),A'.frames=(callerA.deeper (cD (Str.ofString "law") a cd)).frames->A'.handled=(callerA.deeper (cD (Str.ofString "law") a cd)).handled->A'.depth<=(callerA.deeper (cD (Str.ofString "law") a cd)).depth+1->∀f₀ σ₀,f₀.p=[]->d7 (CC w x) TT (Ef TT 42) P A' g 1586 f₀ σ₀:=by
  intro A' P e1 e2 e3 f₀ σ₀ hp
  exact sound (tabs_ok w x) (Vs w x) P 42 (A:=A') ⟨Z.B,Z.X,Z.T,e1.trans Z.hA,Z.hL,Z.hf,Z.hg,Z.hb,Z.hk,e2.trans Z.hh,Z.sm,Z.hi⟩ (by
   have e5:decide ((callerA.deeper (cD (Str.ofString "law") a cd)).depth+1+42+2<recursionLimit)=true:=by kernel_rfl
   have e5:=of_decide_eq_true e5
   omega) f₀ σ₀ hp
 refine wpAny_mono (Ow (w:=w) (x:=x) (P:=0) (ff:=[(1585,listOf vs.toArray 0)]) (E:=λ_ _=>False) Z (of_decide_eq_true (by kernel_rfl)) CO (of_decide_eq_true (by kernel_rfl)) S (habs ns hlen)) (λfl s' hfl=>?_) λ_ _ x=>x
 obtain⟨rfl,st,P',m,σ,τ,pm,om,fz,X⟩:=hfl
 have hlist:s'.heap.get? 1585=some (listOf vs.toArray 0):=(X.nw _ (List.mem_append_right _ (List.mem_append_right _ (X.ff _ (.head _))))).1
 refine⟨.inl ⟨.bool true,.bool true,[],rfl,λcls=>rfl,.bool true,by kernel_rfl,λ_=>⟨List.nodup_nil,λa h=>nomatch h⟩⟩,OldK.of_keep λb o e=>?_,X.os,AllBare.of_eq X.gens⟩
 by_cases hb:b=1585
 ·subst hb
  rw[hget]at e
  cases e
  exact hlist
 ·exact X.fr.keep b o (hideAll_get _ e (by rw[List.mem_singleton];exact hb))
end
theorem fin (ws:PySem.Challenge.rw_te0013_01.wellSaid=true):PySem.Challenge.rw_te0013_01.Holds:=Mine.H.holds ws (Mine.enter λns _=>Mine.Ox ns)
end Mine
theorem PySem.Challenge.cw_te0013_01_holds : PySem.Challenge.rw_te0013_01.Holds :=
 Mine.fin Mine.ws
